import PyProof.Rows.All
import Wide.All
import OpenK.AllK
import Wide.FinOn
import KE.KItem
import PyProof.GenQ
import PyProof.ConsumeS
import PyProof.TupleOfGen
import Lean
import PySem.Challenge.RW_iu0032_05
set_option Elab.async false
set_option linter.all false
set_option maxRecDepth 100000
set_option maxHeartbeats 0
set_option tactic.hygienic false
set_option genSizeOf false
namespace Mine.Internal
open And renaming left→Gb,right→Gc
open Array renaming getElem?_eq_some_iff→Ge,getElem?_setIfInBounds_self_of_lt→Gf
open Bool renaming and_eq_true_iff→Gg,and_eq_true→Gh,false_ne_true→Gi,or_eq_true_iff→Gj,false_eq_true→Gk,true_and→Gl,rec→Gm,and_true→Gn,or_false→Go,not_eq_true'→Gp
open Classical renaming byContradiction→Gq
open Eq renaming trans→Gr,symm→Gs
open ForInStep renaming yield→Gu
open Int renaming natCast_nonneg→Gv,le_trans→Gw,not_lt→Gx,toNat_natCast→Gy,ofNat_lt→Gz,ofNat_le→GA,lt_of_lt_of_le→GB,le_of_lt→GC,add_le_add_right→GD,lt_of_le_of_lt→GE,le_of_lt_add_one→GF,lt_iff_le_and_ne→GG,sub_nonneg_of_le→GH,fmod_nonneg_of_pos→GI,fmod_lt_of_pos→GJ
open LawfulBEq renaming eq_of_beq→GK
open List renaming length_map→GM,mem_append→GN,prefix_append→GO,mem_singleton→GP,length_zip→GQ,replicate→GR,of_mem_zip→GS,range→GT,prefix_refl→GU,forall_mem_cons→GV,mem_cons→GW,all_eq_true→GX,append_assoc→GY,getElem?_eq_some_iff→GZ,mem_map→G0,getElem?_eq_getElem→G1,append_nil→G2,lookup→G3,length_append→G4,lookup_cons→G5,getElem?_concat_length→G6,nil_subset→G7,length_cons→G8,mem_append_left→G9,map_map→G_,eq_nil_of_length_eq_zero→G',getElem?_map→Ha,getElem_mem→Hb,getElem?_append_left→Hc,getD_eq_getElem?_getD→Hd,not_mem_nil→He,length_range→Hf,size_toArray→Hg,mem_append_right→Hh,forIn_cons→Hi,mem_filterMap→Hj,reverse_cons→Hk,length_eq_zero_iff→Hl,getElem?_set_ne→Hm,mem_of_getElem?→Hn,getElem?_append_right→Ho,all_cons→Hp,getElem?_toArray→Hq,length_set→Hr,any_cons→Hs,isEmpty_iff→Ht,any_eq_false→Hu,filter_cons→Hv,mem_of_mem_take→Hw,map_congr_left→Hx,zip_cons_cons→Hy,lookup_cons_self→Hz,length_singleton→HA,filterMap_cons→HB,replicate_succ→HC,lookup_append→HD,subset_append_left→HE,length_take→HF,cons_ne_nil→HG,mem_range→HH,getElem?_eq_none_iff→HI,mem_cons_of_mem→HJ,flatten_cons→HK,getElem?_set_self→HL,pairwise_cons→HM,getElem?_zip_eq_some→HN,length_reverse→HO,contains_iff_mem→HP,exists_cons_of_ne_nil→HQ,filter_eq_self→HR,map_replicate→HS,take_succ_eq_append_getElem→HT,eraseIdx_eq_take_drop_succ→HU
open Nat renaming le_trans→HV,le_refl→HW,succ_pos→HX,lt_succ_self→HY,not_lt→HZ,le_succ→H0,le_add_right→H1,le_add_left→H3,lt_of_le_of_lt→H4,le_of_ble_eq_true→H7,lt_of_lt_of_le→H8,zero_le→H9,le_succ_of_le→H_,le_of_lt→H',lt_irrefl→Ia,ne_of_gt→Ib,lt_of_lt_of_eq→Ic,not_lt_zero→Ie,add_le_add_left→Ig,lt_of_succ_lt_succ→Ih,min_self→Ii,lt_succ_of_lt→Ij,add_le_add_right→Ik,add_comm→Il,sub_self→Im,ne_of_lt→Io,min_le_left→Iq,lt_of_succ_lt→Iu,zero_add→Iv,le_of_eq→Iw,lt_add_of_pos_right→Ix,add_right_comm→Iy,add_right_cancel→Iz,lt_succ_of_le→IA
open Option renaming map_eq_some_iff→IC,isSome_iff_exists→ID,bind_some→IE
open Option.some renaming inj→IF
open PySem renaming wpAny→IG,wpAny_bind→IH,wpAny_pure→II,wpAny_mono→IJ,wpAny_field→IK,wpAny_holding→IM,wpAny_rule→IN,wpAny_of_eq→IO,wpAny_newObj_type→IP,codeAny_builtin→IQ,wpAny_call_entry→IR,plainId_quiet→IS,wpAny_standAt→IT,wpAny_callSpecial?_slot→IU,seg_bind_wrap→IW,wpAny_setField_rec→IX,wpAny_seqItems→IY,wpAny_typeOf→IZ,wpAny_setField→I0,wpAny_specialOf→I2,wpAny_updateSeq→I3,wpAny_letGo→I4,codeAny_mono→I5,wpAny_isInstance→I6,wpAny_call→I7,typeIs_int→I8,call_meets→I9,typeLookup_type→I_,builtinLookup_eq_fast→Ja,wpAny_items_cons→Jb,isSubtype_type→Jc,signature?_of→Jd,wpAny_newTuple→Je,wpAny_items_nil→Jf,wpAny_truthy_bool→Jg,wpAny_forIn_list→Jh,codeAny_of_tree→Ji,call_function_tree→Jj,wpAny_pyIter_gen→Jk,wpAny_raiseNew_none→Jl,codeAny_call_builtin→Jm,seqSlot_of→Jn
open PySem.Around renaming under_plainId→Jo,frames_deeper→Jp
open PySem.Builtin.List renaming listTooLong→Jq,listExtendWith→Jr,listFitsIndex→Js,listSameRef→Jt,listLengthHint→Ju
open PySem.Builtin.Range renaming rangeSize→Jv,small→Jw
open PySem.Builtin.Slice renaming sliceAdjust→Jx,slicePlaces→Jy,sliceApplied→Jz
open PySem.Builtin.SmallTypes renaming ownedTupleIsFree→JA,nextOf→JB,ownedTupleHandOut→JC,newClass→JD,fitsIndex→JE,iterAll→JF
open PySem.Builtin.Tuple renaming tupleExact→JG,tupleItemsOf→JH,tupleIsExact→JI
open PySem.Challenge renaming rw_iu0032_05→JJ
open PySem.Code renaming builtin→JK,quiet_builtin→JL
open PySem.F renaming called_tuple→JM,plain_extend_loop→JN,plain_any_loop→JO,plain_sum_loop→JP,slot_tuple_getitem→JQ,slot_lri_next→JR,slot_int_rmul→JS,plain_list_iadd→JT,plain_tuple_new→JU,plain_all_loop→JV,slot_tuple_add→JW,entry_tuple_add→JX,args_tuple_add_2→JY,slot_range_iterator_next→JZ,slot_zip_next→J0,slot_enumerate_next→J1,owner_object→J2,slot_tuple_mul→J3,typeCall_tuple_1→J4,args_object_init_2→J5,entry_extend_loop→J6
open PySem.Heap renaming get?_push_size→J7,get?_push_of_some→J8,size_push→J9,lt_size→J_,get?_update_self→J',SameBut→Ka,size_after_update→Kb,get?_update_other→Kc
open PySem.Heap.SameBut renaming update→Kd
open PySem.NameKind renaming free→Ke,cell→Kf
open PySem.Obj renaming mapFields→Kg,mapSeq→Kh,data_mapFields→Ki,isFreed_of_fields→Kj,cls_mapFields→Kl
open PySem.PyData renaming keyHash→Km
open PySem.Str renaming ofString→Kn
open PySem.Value renaming ref→Ko,none→Kq,int→Kr
open PySem.W renaming look_both→Ks,piece_app→Kt,segRun_of→Ku,boot_heap→Kv
open PySem.W.Fast renaming te14364793385576792824→Kw,te10110043849684766642→Kx,te14082659384304107361→Ky,te16421684217811934046→Kz
open PySem.W.WData renaming int→KA
open PySem PySem.W PyProof.Rows PySem.Calls PySem.SeqAt Builtin.ObjectAttr
local macro_rules | `(⋯) => `(by kernel_rfl)
local macro_rules | `(tactic| ac_rfl) => `(tactic| (change let K0 := _; let Q0 := _; let E0 := _; IG _ _ (_ >>= K0) Q0 E0 _; intros))
local macro_rules | `(tactic| and_intros) => `(tactic| (change let K0 := _; let Q0 := _; IG _ _ (_ >>= K0) Q0 _ _; intros))
noncomputable abbrev pr:Program:=JJ.row.prog
noncomputable def tS(i:Nat):Stmt:=pr.main.body.getD i default
noncomputable def cS(i j:Nat):Stmt:=if h:(tS i).ctorIdx=2 then @Stmt.ClassDef.elim (fun u_=>Stmt) (tS i) h fun u_ u_ u_ b u_ u_ u_ u_ u_ u_ u_=>b.getD j default else tS i
noncomputable def gM(s:Stmt)(c:Value)(q:Str)(g:Addr)(d k m:Value)(an:Option Addr)(cd:Value):Obj:=if h:s.ctorIdx=0 then @Stmt.FunctionDef.elim (fun u_=>Obj) s h fun n a b u_ u_ u_ sc u_ u_ u_=>⟨c,none,.func {name:=n,qualname:=q,params:=a,body:= .stmts b,scope:=sc,globals:=g,closure:=[],defaults:=d,kwdefaults:=k,doc:= .none,pyModule:=m,annotations:=an,code:=cd,closureTuple:= .none,builtins:=0},#[]⟩else default
noncomputable def sv(x:Str)(t:Nat):Value:= .str x t
noncomputable def ke(P:Params)(x:Str)(t:Nat)(v:Value):DictEntry:=⟨Km P x,.str x t,v⟩
noncomputable def tp(l:List Value):Obj:=⟨.type "tuple",none,.seq l.toArray 0,#[]⟩
noncomputable def fl(l:List Value):Obj:=⟨.none,none,.fields l.toArray,#[]⟩
noncomputable def dc(l:List DictEntry)(n:Nat):Obj:=⟨.type "dict",none,.dict l.toArray n,#[]⟩
noncomputable def it(n:Nat):Value:= .int n 0
noncomputable def cu(t:Nat):Value:=sv "/claim/cut.py" t
noncomputable def FS(l:List Str)(t:Nat):List Value:=(l.zipIdx t).map fun p=> .str p.1 p.2
noncomputable def cd(n q:Str)(t z l g f:Nat)(b:Bool)(a:Nat)(r u v:Value):Obj:=⟨.type "code",none,.fields #[.str n t,.str q (t+1),cu (t+2),it l,it g,it 0,it 0,it f,.ref a,.bool b,it 181,.ref (a+1),.none,r,u,v,it z,it l,cu (z+1)],#[]⟩
noncomputable def ds(t i:Nat):List Value:=[[],[.none],[.bool true],[.bool false],[.none,.int 0 t,.none]].getD i []
noncomputable def ap(c n:Str):Str:=⟨(c.cps.toList++n.cps.toList).toArray⟩
noncomputable def bm(f:String)(v:Value):Obj:=⟨.type "builtin_function_or_method",none,.fields #[.builtin f,v],#[]⟩
noncomputable abbrev Mt:=List Obj×DictEntry×List Value×Nat
noncomputable def mt(P:Params)(x:Stmt)(c:Str)(m:Value)(k a0 t0:Nat):Mt:=if h:x.ctorIdx=0 then @Stmt.FunctionDef.elim (fun u_=>Mt) x h fun n ar u_ dl u_ u_ sc u_ u_ p=>
 let q:=ap c n
 let f:=Nat.beq (k % 2) 0
 let i:=k/2 % 8
 let j:=k/16
 let a:=a0+[0,1,1,1,1].getD i 0
 let t:=t0+[0,0,0,0,1].getD i 0
 let cs:=cond f ((sc.names.filter fun y=>Nat.beq y.2.ctorIdx 1).map (·.1)) []
 let vs:=cond f ((sc.names.filter fun y=>Nat.ble y.2.ctorIdx 1).map (·.1)) []
 let z:=t+3+vs.length+cs.length
 let e:=z+2
 let w:=cond f (a+4) (a+2)
 let r:Nat→Value:=fun n=>cond f (.ref (a+n)) .none
 let d:Value:=cond (Nat.beq i 0) .none (.ref a0)
 let an:=cond (Nat.beq j 2) (some (w+5)) none
 (cond (Nat.beq i 0) [] [tp (ds t0 i)]++tp []::fl []::(cond f [tp (FS vs (t+3)),tp (FS cs (t+3+vs.length))] []++gM x .none q 0 .none .none .none none .none::cd n q t z (p.line-dl.length) ar.args.length 3 true a (r 2) (r 3) (.ref w)::
  gM x (.type "function") q 3 d .none m an (.ref (w+1))::[[],[⟨.type "property",none,.fields #[.ref (w+2),.none,.none,.none,.str n (e+1),.bool false],#[]⟩],
   [dc [ke P "__module__" (e+1) m,ke P "__name__" (e+4) (.str n (e+3)),ke P "__qualname__" (e+7) (.str q (e+6)),ke P "__doc__" (e+9) .none,ke P "__annotations__" (e+11) (.ref (w+5))] 5,⟨.type "staticmethod",some (w+3),.fields #[.ref (w+2),.bool false],#[]⟩,dc [] 0]].getD j []),
  ke P n (e+[0,1,12].getD j 0) (.ref (w+2+j)),[it p.line,it p.col,.ref (w+1)],e+[1,2,13].getD j 0)
 else default
noncomputable def ml(P:Params)(i:Nat)(c:Str)(m:Value)(l:List Nat):Nat→Nat→Nat→List Mt:= @List.rec Nat (fun u_=>Nat→Nat→Nat→List Mt) (fun u_ u_ u_=>[]) (fun k u_ ih j a t=>let r:=mt P (cS i j) c m k a t;r::ih (j+1) (a+r.1.length) r.2.2.2) l
noncomputable def cl(P:Params)(N i:Nat)(m:Value)(bs:List Nat)(a t:Nat)(L:List Nat)(pre:List DictEntry)(hs:Bool)(su:List Nat):Mt:=if h:(tS i).ctorIdx=2 then @Stmt.ClassDef.elim (fun u_=>Mt) (tS i) h fun n u_ u_ u_ u_ u_ u_ u_ u_ sa p=>
 let M:=ml P i (ap n ".") m L pre.length (a+7) (t+12+pre.length)
 let y:=a+7+(M.flatMap (·.1)).length
 let s:=M.foldl (fun u_ r=>r.2.2.2) 0
 let u:=s+sa.length
 let E:=pre++M.map (·.2.1)++[ke P "__static_attributes__" u (.ref y)]
 let mo:=ke P "__module__" (t+7) m
 let li:=ke P "__firstlineno__" (t+11) (.int p.line (t+10))
 let r:Value:= .ref (y+2)
 let b:=bs.isEmpty
 let o:Value:= .type "object"
 let v:=cond b (u+4) u
 let B:=(bs.take 1).map Ko
 (tp B::bm "type.__prepare__" (.type "type")::dc (mo::ke P "__qualname__" (t+9) (.str n (t+8))::li::E) (E.length+3)::tp []::fl (M.flatMap (·.2.2.1))::cd n n (t+2) (t+5) p.line 0 0 false (a+3) .none .none .none::
  ⟨.type "frame",none,.plain,#[some (.ref (a+5)),some (.ref 3),some (.ref (a+2)),none,some m,none,some (.ref 0)]⟩::M.flatMap (·.1)++tp (FS sa s)::
  dc (mo::li::E++cond b [ke P "__dict__" (u+2) (.ref (y+3)),ke P "__weakref__" (u+4) (.ref (y+4))] []++ke P "__doc__" (v+1) .none::cond hs [ke P "__hash__" (v+2) .none] []) (2+cond b 2 0+cond hs 1 0)::
  ⟨.type "type",none,.cls ⟨n,cond b [o] B,r::bs.map Ko++[o],y+1,n,true,[],(su.filter fun x=>Nat.blt x N).map Ko,false,none,false⟩,#[cond b none (some (.ref a)),none,some (.str n t),some (.str n (t+8)),some (.builtin "object.__new__"),some (.bool true)]⟩::
  cond b [⟨.type "getset_descriptor",none,.fields #[sv "__dict__" (u+1),r,.builtin "function.__dict__",.builtin "function.__dict__#set"],#[]⟩,⟨.type "getset_descriptor",none,.fields #[sv "__weakref__" (u+3),r,.builtin "ExceptionGroup.__weakref__",.none],#[]⟩] []++[⟨.type "super",none,.fields #[r,r,r],#[]⟩,bm "object.__init_subclass__" r],
  ke P n (v+cond hs 4 3) r,[it p.line,it 0,.ref (a+5)],0)
 else default
noncomputable def mM:Value:=sv "__main__" 164
noncomputable def mH:Value:=sv "tinygrad.helpers" 194
noncomputable def mS:Value:=sv "tinygrad.shape.symbolic" 223
noncomputable def mV:Value:=sv "tinygrad.shape.view" 1040
noncomputable def mT:Value:=sv "tinygrad.shape.shapetracker" 1263
noncomputable def mL:Value:=sv "law_iu0032_05" 1468
noncomputable def cf(n q:Str)(t z l g a:Nat):Obj:=cd n q t z l g 3 true a (.ref (a+2)) (.ref (a+3)) (.ref (a+4))
noncomputable def cg(n q:Str)(t z l g a:Nat):Obj:=cd n q t z l g 3 true a .none .none (.ref (a+2))
noncomputable def GL(P:Params)(n:Nat):List Mt:=[
 mt P (tS 0) ⟨#[]⟩ mM 0 15 187,
 mt P (tS 2) ⟨#[]⟩ mH 0 22 196,
 mt P (tS 3) ⟨#[]⟩ mH 0 29 205,
 mt P (tS 4) ⟨#[]⟩ mH 0 36 212,
 mt P (tS 6) ⟨#[]⟩ mS 0 43 225,
 cl P n 7 mS [] 50 233 [2,0,0,16,0,0,0,0,0,0,0,0,0,0,0,0,0,0,0,4,0,0,33,33] [ke P "_key" 245 .none] true [289,343,402,612],
 cl P n 8 mS [232] 237 467 [0,16,0,0,0,0] [] false [],
 cl P n 9 mS [232] 292 536 [0,0,0,0,0,0] [] true [],
 mt P (tS 10) ⟨#[]⟩ mS 0 346 604,
 mt P (tS 11) ⟨#[]⟩ mS 0 353 613,
 mt P (tS 12) ⟨#[]⟩ mS 1 360 620,
 mt P (tS 13) ⟨#[]⟩ mS 0 365 626,
 cl P n 14 mS [232] 372 634 [0,0,0] [] false [435,490,531,579],
 cl P n 15 mS [402,232] 405 677 [0,0,0] [] false [],
 cl P n 16 mS [402,232] 438 716 [0,6,0,0,0,0] [] false [],
 cl P n 17 mS [402,232] 493 780 [6,0,0,0] [] false [],
 cl P n 18 mS [402,232] 534 828 [0,4,0,0,0] [] false [],
 cl P n 19 mS [232] 582 884 [0,0,0] [] false [665,694],
 cl P n 20 mS [612,232] 615 925 [1,1,4,1,0,1,17] [] false [],
 cl P n 21 mS [612,232] 668 996 [1,0,1] [] false [],
 mt P (tS 22) ⟨#[]⟩ mS 2 697 1032,
 mt P (tS 24) ⟨#[]⟩ mV 0 705 1042,
 mt P (tS 25) ⟨#[]⟩ mV 0 712 1050,
 mt P (tS 26) ⟨#[]⟩ mV 2 719 1059,
 mt P (tS 27) ⟨#[]⟩ mV 0 727 1076,
 mt P (tS 28) ⟨#[]⟩ mV 0 734 1097,
 cl P n 29 mV [] 741 1109 [0,0,1,41,1,0,0,3,1,0,1,0,1,1,2] [] true [],
 cl P n 31 mT [] 850 1265 [0,0,0,0,32,16,16,16,16,0,6,6,2,0,0,0,0,0,0,0,0] [] true [],
 mt P (tS 33) ⟨#[]⟩ mL 0 1021 1470,
 mt P (tS 34) ⟨#[]⟩ mL 1 1028 1476,
 mt P (tS 35) ⟨#[]⟩ mL 0 1033 1482,
 mt P (tS 36) ⟨#[]⟩ mL 0 1040 1491,
 mt P (tS 37) ⟨#[]⟩ mL 0 1047 1500,
 mt P (tS 38) ⟨#[]⟩ mL 1 1054 1509,
 mt P (tS 39) ⟨#[]⟩ mL 1 1059 1515,
 mt P (tS 40) ⟨#[]⟩ mL 1 1064 1521,
 mt P (tS 41) ⟨#[]⟩ mL 1 1069 1527]
noncomputable def isO(n:Nat)(v:Value):Bool:=if h:v.ctorIdx=Value.ctorIdx (.ref 0)then @Ko.elim (fun u_=>Bool) v h fun a=>Nat.blt a n else false
noncomputable def o3(P:Params)(n:Nat)(m:Value):Obj:=
 let l:=[ke P "__name__" 165 m,ke P "__doc__" 166 .none,ke P "__package__" 167 .none,ke P "__loader__" 168 (.builtin "__main__.__loader__#opaque"),ke P "__spec__" 169 .none,ke P "__annotations__" 170 (.ref 6),ke P "__builtins__" 171 (.ref 4),ke P "__file__" 173 (cu 172),ke P "__cached__" 174 .none]++((GL P n).map (·.2.1)).filter fun e=>isO n e.val
 dc l l.length
noncomputable def o12(P:Params)(n:Nat):Obj:=fl (((GL P n).filter fun e=>isO n e.2.1.val).flatMap (·.2.2.1))
noncomputable def KK(P:Params):Frag:=[
(2,boot_o_2 P),
(3,o3 P 2000 mL),
(27,cf "prod" "prod" 196 202 5 1 22),
(28,gM (tS 2) (.type "function") "prod" 3 .none .none (sv "tinygrad.helpers" 194) none (.ref 27)),
(34,cf "all_int" "all_int" 205 209 10 1 29),
(35,gM (tS 3) (.type "function") "all_int" 3 .none .none (sv "tinygrad.helpers" 194) none (.ref 34)),
(343,⟨.type "type",none,.cls ⟨"NumNode",[.ref 232],[.ref 343,.ref 232,.type "object"],342,"NumNode",true,[],[],false,none,false⟩,#[some (.ref 292),none,some (sv "NumNode" 536),some (sv "NumNode" 544),some (.builtin "object.__new__"),some (.bool true)]⟩),
(710,cf "canonicalize_strides" "canonicalize_strides" 1042 1047 437 2 705),
(711,gM (tS 24) (.type "function") "canonicalize_strides" 3 .none .none (sv "tinygrad.shape.view" 1040) none (.ref 710)),
(717,cf "strides_for_shape" "strides_for_shape" 1050 1056 439 1 712),
(718,gM (tS 25) (.type "function") "strides_for_shape" 3 .none .none (sv "tinygrad.shape.view" 1040) none (.ref 717)),
(719,⟨.type "tuple",none,.seq #[.none] 0,#[]⟩),
(725,cf "_merge_dims" "_merge_dims" 1059 1073 446 3 720),
(726,gM (tS 26) (.type "function") "_merge_dims" 3 (.ref 719) .none (sv "tinygrad.shape.view" 1040) none (.ref 725)),
(732,cf "_reshape_mask" "_reshape_mask" 1076 1094 462 3 727),
(733,gM (tS 27) (.type "function") "_reshape_mask" 3 .none .none (sv "tinygrad.shape.view" 1040) none (.ref 732)),
(753,cf "__init__" "View.__init__" 1121 1130 502 6 748),
(754,gM (cS 29 0) (.type "function") "View.__init__" 3 .none .none (sv "tinygrad.shape.view" 1040) none (.ref 753)),
(767,⟨.type "tuple",none,.seq #[.none,.int 0 1147,.none] 0,#[]⟩),
(771,cg "create" "View.create" 1148 1151 515 4 768),
(772,gM (cS 29 3) (.type "function") "View.create" 3 (.ref 767) .none (sv "tinygrad.shape.view" 1040) (some 775) (.ref 771)),
(774,⟨.type "staticmethod",(some 773),.fields #[.ref 772,.bool false],#[]⟩),
(795,⟨.type "tuple",none,.seq #[.none] 0,#[]⟩),
(799,cg "_unsafe_resize" "View._unsafe_resize" 1187 1190 610 3 796),
(800,gM (cS 29 7) (.type "function") "View._unsafe_resize" 3 (.ref 795) .none (sv "tinygrad.shape.view" 1040) none (.ref 799)),
(804,cg "pad" "View.pad" 1193 1196 620 2 801),
(805,gM (cS 29 8) (.type "function") "View.pad" 3 .none .none (sv "tinygrad.shape.view" 1040) none (.ref 804)),
(811,cf "shrink" "View.shrink" 1199 1204 628 2 806),
(812,gM (cS 29 9) (.type "function") "View.shrink" 3 .none .none (sv "tinygrad.shape.view" 1040) none (.ref 811)),
(816,cg "expand" "View.expand" 1207 1210 632 2 813),
(817,gM (cS 29 10) (.type "function") "View.expand" 3 .none .none (sv "tinygrad.shape.view" 1040) none (.ref 816)),
(823,cf "permute" "View.permute" 1213 1219 642 2 818),
(824,gM (cS 29 11) (.type "function") "View.permute" 3 .none .none (sv "tinygrad.shape.view" 1040) none (.ref 823)),
(828,cg "stride" "View.stride" 1222 1225 646 2 825),
(829,gM (cS 29 12) (.type "function") "View.stride" 3 .none .none (sv "tinygrad.shape.view" 1040) none (.ref 828)),
(833,cg "reshape" "View.reshape" 1228 1231 654 2 830),
(834,gM (cS 29 13) (.type "function") "View.reshape" 3 .none .none (sv "tinygrad.shape.view" 1040) none (.ref 833)),
(844,⟨.type "dict",none,.dict #[ke P "__module__" 1116 (sv "tinygrad.shape.view" 1040),ke P "__firstlineno__" 1120 (.int 500 1119),ke P "__init__" 1132 (.ref 754),ke P "__eq__" 1140 (.ref 761),ke P "size" 1146 (.ref 766),ke P "create" 1165 (.ref 774),ke P "__add__" 1171 (.ref 780),ke P "invert" 1179 (.ref 787),ke P "minify" 1186 (.ref 794),ke P "_unsafe_resize" 1192 (.ref 800),ke P "pad" 1198 (.ref 805),ke P "shrink" 1206 (.ref 812),ke P "expand" 1212 (.ref 817),ke P "permute" 1221 (.ref 824),ke P "stride" 1227 (.ref 829),ke P "reshape" 1233 (.ref 834),ke P "expr" 1248 (.ref 842),ke P "__static_attributes__" 1254 (.ref 843),ke P "__dict__" 1256 (.ref 846),ke P "__weakref__" 1258 (.ref 847),ke P "__doc__" 1259 .none,ke P "__hash__" 1260 .none] 5,#[]⟩),
(845,⟨.type "type",none,.cls ⟨"View",[.type "object"],[.ref 845,.type "object"],844,"View",true,[],[],false,none,false⟩,#[none,none,some (sv "View" 1109),some (sv "View" 1117),some (.builtin "object.__new__"),some (.bool true)]⟩),
(862,cf "__init__" "ShapeTracker.__init__" 1277 1282 705 2 857),
(863,gM (cS 31 0) (.type "function") "ShapeTracker.__init__" 3 .none .none (sv "tinygrad.shape.shapetracker" 1263) none (.ref 862)),
(890,cf "from_shape" "ShapeTracker.from_shape" 1311 1315 720 1 885),
(891,gM (cS 31 4) (.type "function") "ShapeTracker.from_shape" 3 .none .none (sv "tinygrad.shape.shapetracker" 1263) (some 894) (.ref 890)),
(893,⟨.type "staticmethod",(some 892),.fields #[.ref 891,.bool false],#[]⟩),
(916,cf "shape" "ShapeTracker.shape" 1346 1350 732 1 911),
(917,gM (cS 31 7) (.type "function") "ShapeTracker.shape" 3 .none .none (sv "tinygrad.shape.shapetracker" 1263) none (.ref 916)),
(918,⟨.type "property",none,.fields #[.ref 917,.none,.none,.none,sv "shape" 1353,.bool false],#[]⟩),
(977,cf "pad" "ShapeTracker.pad" 1409 1414 762 2 972),
(978,gM (cS 31 15) (.type "function") "ShapeTracker.pad" 3 .none .none (sv "tinygrad.shape.shapetracker" 1263) none (.ref 977)),
(984,cf "shrink" "ShapeTracker.shrink" 1417 1422 765 2 979),
(985,gM (cS 31 16) (.type "function") "ShapeTracker.shrink" 3 .none .none (sv "tinygrad.shape.shapetracker" 1263) none (.ref 984)),
(991,cf "expand" "ShapeTracker.expand" 1425 1430 768 2 986),
(992,gM (cS 31 17) (.type "function") "ShapeTracker.expand" 3 .none .none (sv "tinygrad.shape.shapetracker" 1263) none (.ref 991)),
(998,cf "permute" "ShapeTracker.permute" 1433 1438 771 2 993),
(999,gM (cS 31 18) (.type "function") "ShapeTracker.permute" 3 .none .none (sv "tinygrad.shape.shapetracker" 1263) none (.ref 998)),
(1005,cf "stride" "ShapeTracker.stride" 1441 1446 774 2 1000),
(1006,gM (cS 31 19) (.type "function") "ShapeTracker.stride" 3 .none .none (sv "tinygrad.shape.shapetracker" 1263) none (.ref 1005)),
(1012,cf "reshape" "ShapeTracker.reshape" 1449 1455 777 2 1007),
(1013,gM (cS 31 20) (.type "function") "ShapeTracker.reshape" 3 .none .none (sv "tinygrad.shape.shapetracker" 1263) none (.ref 1012)),
(1015,⟨.type "dict",none,.dict #[ke P "__module__" 1272 (sv "tinygrad.shape.shapetracker" 1263),ke P "__firstlineno__" 1276 (.int 703 1275),ke P "__init__" 1284 (.ref 863),ke P "__eq__" 1292 (.ref 870),ke P "__add__" 1302 (.ref 877),ke P "invert" 1310 (.ref 884),ke P "from_shape" 1329 (.ref 893),ke P "contiguous" 1337 (.ref 902),ke P "consecutive" 1345 (.ref 910),ke P "shape" 1353 (.ref 918),ke P "size" 1361 (.ref 926),ke P "real_size" 1368 (.ref 933),ke P "real_strides" 1376 (.ref 941),ke P "unit_stride_axes" 1384 (.ref 949),ke P "expr_idxs" 1392 (.ref 957),ke P "axis_is_masked" 1400 (.ref 964),ke P "simplify" 1408 (.ref 971),ke P "pad" 1416 (.ref 978),ke P "shrink" 1424 (.ref 985),ke P "expand" 1432 (.ref 992),ke P "permute" 1440 (.ref 999),ke P "stride" 1448 (.ref 1006),ke P "reshape" 1457 (.ref 1013),ke P "__static_attributes__" 1459 (.ref 1014),ke P "__dict__" 1461 (.ref 1017),ke P "__weakref__" 1463 (.ref 1018),ke P "__doc__" 1464 .none,ke P "__hash__" 1465 .none] 5,#[]⟩),
(1016,⟨.type "type",none,.cls ⟨"ShapeTracker",[.type "object"],[.ref 1016,.type "object"],1015,"ShapeTracker",true,[],[],false,none,false⟩,#[none,none,some (sv "ShapeTracker" 1265),some (sv "ShapeTracker" 1273),some (.builtin "object.__new__"),some (.bool true)]⟩),
(1026,cf "_law_shapes" "_law_shapes" 1470 1473 783 0 1021),
(1027,gM (tS 33) (.type "function") "_law_shapes" 3 .none .none (sv "law_iu0032_05" 1468) none (.ref 1026)),
(1031,cg "_law_start" "_law_start" 1476 1479 785 1 1028),
(1032,gM (tS 34) (.type "function") "_law_start" 3 .none .none (sv "law_iu0032_05" 1468) none (.ref 1031)),
(1038,cf "_law_take" "_law_take" 1482 1488 787 2 1033),
(1039,gM (tS 35) (.type "function") "_law_take" 3 .none .none (sv "law_iu0032_05" 1468) none (.ref 1038)),
(1045,cf "_law_size" "_law_size" 1491 1497 797 1 1040),
(1046,gM (tS 36) (.type "function") "_law_size" 3 .none .none (sv "law_iu0032_05" 1468) none (.ref 1045)),
(1052,cf "_law_try" "_law_try" 1500 1506 802 3 1047),
(1053,gM (tS 37) (.type "function") "_law_try" 3 .none .none (sv "law_iu0032_05" 1468) none (.ref 1052)),
(1057,cg "_law_fits" "_law_fits" 1509 1512 817 3 1054),
(1058,gM (tS 38) (.type "function") "_law_fits" 3 .none .none (sv "law_iu0032_05" 1468) none (.ref 1057)),
(1062,cg "_law_new" "_law_new" 1515 1518 832 3 1059),
(1063,gM (tS 39) (.type "function") "_law_new" 3 .none .none (sv "law_iu0032_05" 1468) none (.ref 1062)),
(1067,cg "_law_arg" "_law_arg" 1521 1524 842 3 1064),
(1068,gM (tS 40) (.type "function") "_law_arg" 3 .none .none (sv "law_iu0032_05" 1468) none (.ref 1067)),
(1072,cg "law" "law" 1527 1530 858 1 1069),
(1073,gM (tS 41) (.type "function") "law" 3 .none .none (sv "law_iu0032_05" 1468) none (.ref 1072))]
noncomputable def CC:List (Addr×Addr):=[(27,23),(34,30),(710,706),(717,713),(725,721),(732,728),(753,749),(771,769),(799,797),(804,802),(811,807),(816,814),(823,819),(828,826),(833,831),(862,858),(890,886),(916,912),(977,973),(984,980),(991,987),(998,994),(1005,1001),(1012,1008),(1026,1022),(1031,1029),(1038,1034),(1045,1041),(1052,1048),(1057,1055),(1062,1060),(1067,1065),(1072,1070)]
noncomputable def np(x:Str)(v:Value):Str×Value:=(x,v)
noncomputable def NM:List (Str×Value):=[np "all" (.builtin "all"),np "any" (.builtin "any"),np "tuple" (.type "tuple"),np "zip" (.type "zip"),np "len" (.builtin "len"),np "sum" (.builtin "sum"),np "sorted" (.builtin "sorted"),np "list" (.type "list"),np "range" (.type "range"),np "reversed" (.type "reversed"),np "enumerate" (.type "enumerate"),np "isinstance" (.builtin "isinstance"),np "int" (.type "int"),np "abs" (.builtin "abs"),np "max" (.builtin "max"),np "min" (.builtin "min"),np "ValueError" (.type "ValueError"),np "AssertionError" (.type "AssertionError"),np "View" (.ref 845),np "ShapeTracker" (.ref 1016),np "prod" (.ref 28),np "all_int" (.ref 35),np "canonicalize_strides" (.ref 711),np "strides_for_shape" (.ref 718),np "_merge_dims" (.ref 726),np "_reshape_mask" (.ref 733),np "Variable" (.ref 289),np "NumNode" (.ref 343),np "Node" (.ref 232),np "_law_shapes" (.ref 1027),np "_law_start" (.ref 1032),np "_law_take" (.ref 1039),np "_law_size" (.ref 1046),np "_law_try" (.ref 1053),np "_law_fits" (.ref 1058),np "_law_new" (.ref 1063),np "_law_arg" (.ref 1068)]
noncomputable abbrev lw:=JJ
noncomputable abbrev yx:Program:=(Fast.tw2368527892694137696 lw).prog
theorem sd1:Fast.tw8377067652309620493 yx=true:=by kernel_rfl
noncomputable abbrev ro(l:List Nat):Bool:=Fast.tw13343964577679436407 yx yx.main.body {cps:={toList:=l}}
theorem ro1:ro [118,97,114,115]=false:=by kernel_rfl
theorem ro2:ro [100,105,114]=false:=by kernel_rfl
theorem ro3:ro [108,111,99,97,108,115]=false:=by kernel_rfl
theorem Fp{p:Str→Bool}{a b c:Str}(h1:p a=false)(h2:p b=false)(h3:p c=false):R.filterR p [a,b,c]=[]:=by
 show Gm (Gm (Gm [] [c] (p c)) (b::Gm [] [c] (p c)) (p b)) (a::Gm (Gm [] [c] (p c)) (b::Gm [] [c] (p c)) (p b)) (p a)=[];rw[h1,h2,h3]
theorem sd2:Fast.tw8326940854005059898 {strict:= !R.allR (Fast.tw5923862056798008813 yx.main.body) (Fast.tw3471404346716756564 Fast.tw17691160309236699985),foot:=none,bare:=R.filterR (Fast.tw13343964577679436407 yx yx.main.body) [{cps:={toList:=[118,97,114,115]}},{cps:={toList:=[100,105,114]}},{cps:={toList:=[108,111,99,97,108,115]}}]} yx.main.body=true:=by
 rw[Fp ro1 ro2 ro3];kernel_rfl
theorem sd3:Fast.tw17119622794617984870 yx yx.main.body (fun x n=>Fast.tw17868728402115742887 n)=true:=by kernel_rfl
theorem sd4:Fast.tw2436336058641802641 (Fast.tw2368527892694137696 lw)=true:=by
 unfold Fast.tw2436336058641802641
 repeat' (with_reducible refine Ks ?_ ?_)
 ·unfold Fast.tw12908688711261696721
  exact Ks (Ks (Ks (Ks (Ks ⋯ ⋯) sd1) ⋯) sd2) sd3
 all_goals kernel_rfl
theorem zh:lw.wellSaid=true:=by
 rw[Fast.te9446332074065402090];unfold Fast.tw9446332074065402090
 repeat' (with_reducible refine Ks ?_ ?_)
 ·unfold Fast.tw17960256430627541270
  repeat' (with_reducible refine Ks ?_ ?_)
  ·exact sd4
  all_goals kernel_rfl
 all_goals kernel_rfl
noncomputable def qv:Program:={pr with main:={pr.main with body:=(pr.main.body[41]?).toList}}
noncomputable def m6:List Str:=pr.main.scope.names.map (·.1)
noncomputable def ks:List Addr:=[2,3,27,28,34,35,343,710,711,717,718,719,725,726,732,733,753,754,767,771,772,774,795,799,800,804,805,811,812,816,817,823,824,828,829,833,834,844,845,862,863,890,891,893,916,917,918,977,978,984,985,991,992,998,999,1005,1006,1012,1013,1015,1016,1026,1027,1031,1032,1038,1039,1045,1046,1052,1053,1057,1058,1062,1063,1067,1068,1072,1073]
theorem zW(P:Params):ks=(KK P).map (·.1):=by kernel_rfl
noncomputable def wl:Obj:=⟨.none,none,.fields #[],#[]⟩
noncomputable def yf(s:Shared):List (Option Obj)×List (Option Obj):=(ks.map s.heap.get?,CC.map fun p=>s.heap.get? p.2)
noncomputable def ya(w:World):List (Option Obj)×List (Option Obj):=((KK w.params).map fun p=>some p.2,CC.map fun u_=>some wl)
noncomputable def mds:List Str:=importedModules pr.main.body
noncomputable def mJ:Env:={scope:=pr.main.scope,locals:=mainNs,globals:=mainNs,cells:=[],code:= .ref 13,frame:=some 14}
noncomputable def c0:Code:= .body (behindTheImports pr) mJ
noncomputable def vW:List Frame:=[topFrame default]
noncomputable def bt:List Obj→BT:=fun l=>(l.foldl (fun(x:BT×Nat) o=>(x.1.ins x.2 o,x.2+1)) (.nil,0)).1
noncomputable def Ad:List Obj:=[
 {cls:= .type "tuple",data:= .seq #[]},
 {cls:= .none,data:= .fields #[]},
 cd "<module>" "<module>" 182 185 1 0 0 false 11 .none .none .none,
 {cls:= .type "frame",slots:= #[some (.ref 13),some (.ref 3),some (.ref 3),none,some (.str (Kn "__main__") 164),none,some (.ref 0)]}]
noncomputable def sT(w:World)(os:OsState):SharedT:=⟨bt ((Kv w.params).objs.toList++Ad),15,{},Array.mk [],{},187,os⟩
noncomputable def sB(w:World)(os:OsState):Shared:=⟨Kv w.params,Array.mk [],boot_drawn,boot_toks,os⟩
noncomputable def kA:Option Value:=some (.ref 6)
theorem Cf(w:World)(os:OsState):topGo treeTable pr w 11 kA 12 (sB w os) (topStub pr)=some ((sT w os).abs,⟨denote treeTable c0,c0,default,vW⟩):=by
 rw[Fast.te15667345088766844465,Kw,Fast.te11892475500146522536];kernel_rfl
noncomputable def sS(w:World)(os:OsState)(n t:Nat)(m:Value):SharedT:=⟨((bt (((Kv w.params).objs.toList++Ad++(GL w.params n).flatMap (·.1)).take n)).ins 3 (o3 w.params n m)).ins 12 (o12 w.params n),n,{},Array.mk [],{},t,os⟩
noncomputable def bd(i j:Nat):List Stmt:=((behindTheImports pr).drop i).take j
noncomputable def po(i:Nat):Pos:=(tS i).pos
theorem pc0(w:World)(os:OsState):segRunT treeTable pr w 11 kA 1 1458 (sT w os) (piecesOf (bd 0 8) mJ c0 default vW)=some (.next,sS w os 237 467 mS,c0,po 7):=by
 rw[Kx,Kw];kernel_rfl
theorem pc1(w:World)(os:OsState):segRunT treeTable pr w 11 kA 1 1307 (sS w os 237 467 mS) (piecesOf (bd 8 7) mJ c0 (po 7) vW)=some (.next,sS w os 405 677 mS,c0,po 14):=by
 rw[Kx,Kw];kernel_rfl
theorem pc2(w:World)(os:OsState):segRunT treeTable pr w 11 kA 1 1483 (sS w os 405 677 mS) (piecesOf (bd 15 4) mJ c0 (po 14) vW)=some (.next,sS w os 582 884 mS,c0,po 18):=by
 rw[Kx,Kw];kernel_rfl
theorem pc3(w:World)(os:OsState):segRunT treeTable pr w 11 kA 1 1121 (sS w os 582 884 mS) (piecesOf (bd 19 3) mJ c0 (po 18) vW)=some (.next,sS w os 697 1032 mS,c0,po 21):=by
 rw[Kx,Kw];kernel_rfl
theorem pc4(w:World)(os:OsState):segRunT treeTable pr w 11 kA 1 219 (sS w os 697 1032 mS) (piecesOf (bd 22 7) mJ c0 (po 21) vW)=some (.next,sS w os 741 1109 mV,c0,po 28):=by
 rw[Kx,Kw];kernel_rfl
theorem pc5(w:World)(os:OsState):segRunT treeTable pr w 11 kA 1 796 (sS w os 741 1109 mV) (piecesOf (bd 29 1) mJ c0 (po 28) vW)=some (.next,sS w os 850 1263 mV,c0,po 29):=by
 rw[Kx,Kw];kernel_rfl
theorem pc6(w:World)(os:OsState):segRunT treeTable pr w 11 kA 1 1242 (sS w os 850 1263 mV) (piecesOf (bd 30 2) mJ c0 (po 29) vW)=some (.next,sS w os 1021 1468 mT,c0,po 31):=by
 rw[Kx,Kw];kernel_rfl
theorem pc7(w:World)(os:OsState):segRunT treeTable pr w 11 kA 1 261 (sS w os 1021 1468 mT) (piecesOf (bd 32 10) mJ c0 (po 31) vW)=some (.next,sS w os 1074 1533 mL,c0,po 41):=by
 rw[Kx,Kw];kernel_rfl
theorem AM:behindTheImports pr=bd 0 8++(bd 8 7++(bd 15 4++(bd 19 3++(bd 22 7++(bd 29 1++(bd 30 2++(bd 32 10++[]))))))):=by kernel_rfl
noncomputable def fr(top:type_of% @topRun)(tb:type_of% @treeTable){α:Type}(g:Shared→α)(w:World)(os:OsState):Option α:=(top tb pr w 11 kA 2 (sS w os 1074 1533 mL).abs ⟨doneF .next,c0,po 41,vW⟩).map g
noncomputable def ok1(w:World)(s:Shared):Bool:=staticsOk mds (Kv w.params) s.heap&&namesBound pr s.heap&&gensDone s&&laidKept (Kv w.params) s.heap
noncomputable def see(g:type_of% @openSeen)(s:Shared):=g qv m6 mds (fun u_=>true) true s
theorem f1(w:World)(os:OsState):fr @topRun @treeTable (ok1 w) w os=some true:=by
 rw[Ky,Kw];kernel_rfl
theorem f2(w:World)(os:OsState):fr @topRun @treeTable (see @openSeen) w os=some (openGood qv m6):=by
 rw[Ky,Kw,Fast.te4187177175401517315];kernel_rfl
theorem f3(w:World)(os:OsState):fr @topRun @treeTable (fun s=>(yf s).1) w os=some (ya w).1:=by
 rw[Ky,Kw];kernel_rfl
theorem f4(w:World)(os:OsState):fr @topRun @treeTable (fun s=>(yf s).2) w os=some (ya w).2:=by
 rw[Ky,Kw];kernel_rfl
theorem BV(w:World)(os:OsState):segRun treeTable pr w 11 kA 1 1 (sT w os).abs (blockOf (behindTheImports pr) mJ c0 default vW)=some (.next,(sT w os).abs,c0,default):=rfl
theorem Bz(w:World)(os:OsState): ∃s,topRun treeTable pr w 11 kA (12+(1+(1458+(1307+(1483+(1121+(219+(796+(1242+(261+2)))))))))) (sB w os) (topStub pr)=some s∧ok1 w s=true∧see @openSeen s=openGood qv m6∧yf s=ya w:=by
 obtain⟨s,h,e1⟩:=IC.mp (f1 w os);obtain⟨t,h',e2⟩:=IC.mp (f2 w os);obtain rfl:=IF (h.symm.trans h');obtain⟨t,h',e3⟩:=IC.mp (f3 w os);obtain rfl:=IF (h.symm.trans h');obtain⟨t,h',e4⟩:=IC.mp (f4 w os);obtain rfl:=IF (h.symm.trans h');refine⟨s,go_top (Cf w os) (piece_block (BV w os) ?_),e1,e2,Prod.ext e3 e4⟩;rw[AM];exact Kt (Ku (pc0 w os))<|Kt (Ku (pc1 w os))<|Kt (Ku (pc2 w os))<|Kt (Ku (pc3 w os))<|Kt (Ku (pc4 w os))<|Kt (Ku (pc5 w os))<|Kt (Ku (pc6 w os))<|Kt (Ku (pc7 w os))<|piece_nil h
theorem yX{p q:Program}{ls:List Str}{α:Type}{Yf:Shared→α}{Ya:World→α}{N m₀:Nat}{ann:Option Value}{w:World}{KN KF:Shared}(e:fencedOpening treeTable p w N=some KN)(z1:(KN.heap.isNs mainGlobals&&KN.gens.size==0)=true)(z2:KN.heap.objs.size=m₀)
 (z3:KN.heap.nsMap mainGlobals "__annotations__"=ann) (r:topRun treeTable p w m₀ ann N KN (topStub p)=some KF) (l1:(staticsOk (importedModules p.main.body) KN.heap KF.heap&&namesBound p KF.heap&&gensDone KF&&laidKept KN.heap KF.heap)=true)
 (l2:openSeen q ls (importedModules p.main.body) (fun u_=>true) true KF=openGood q ls) (l3:Yf KF=Ya w):(openEnds treeTable p w N).map (fun s=>(openSeen q ls (importedModules p.main.body) (fun u_=>true) true s,Yf s))=some (openGood q ls,Ya w):=by
 have t:topFrom treeTable p w N KN=some KF:=by
  unfold topFrom;rw[z1,z2,z3,r]
  show(match(staticsOk (importedModules p.main.body) KN.heap KF.heap&&namesBound p KF.heap&&gensDone KF&&laidKept KN.heap KF.heap)with|true=>some KF|false=>none)=some KF
  rw[l1]
 unfold openEnds;rw[e];show(topFrom treeTable p w N KN).map _=_;rw[t,←l2,←l3];rfl
theorem zg(w:World): ∃os,fencedOpening treeTable pr w 8000=some (sB w os):=by
 obtain⟨⟨h,gs,d,k,os⟩,e,e'⟩:=IC.mp (boot_open (p:=pr) (N:=8000) ⋯ rfl (fun u_=>by kernel_rfl) w)
 obtain⟨rfl,rfl,rfl,rfl⟩:h=Kv w.params∧gs=Array.mk []∧d=boot_drawn∧k=boot_toks:=by simpa only[Prod.mk.injEq,Option.some.injEq]using e'
 exact⟨os,e⟩
theorem left:LeftO pr qv m6 (fun u_=>true) yf ya 8000:=fun w=>by
 obtain⟨os,e⟩:=zg w;obtain⟨s,h1,g1,g2,g3⟩:=Bz w os
 exact yX e ⋯ ⋯ ⋯ (topRun_mono 98 _ _ _ _ h1) g1 g2 g3
section
theorem ac:true=true:=rfl
theorem aA:false=false:=rfl
theorem CM{P:Nat→Prop}{k:Nat}(f: ∀i,i<k→P i)(a:P k)(i:Nat)(h:i<k+1):P i:=(Nat.lt_succ_iff_lt_or_eq.mp h).elim (f i) fun e=>e▸a
theorem tK{P:Nat→Prop}(a:P 0)(b:P 1)(c:P 2)(d:P 3): ∀i,i<4→P i:=CM (CM (CM (CM (fun u_ h=>absurd h (Ie _)) a) b) c) d
theorem qO{P:Nat→Prop}(a:P 0)(b:P 1)(c:P 2)(d:P 3)(e:P 4): ∀i,i<5→P i:=CM (tK a b c d) e
section
variable {a b c d m n i k f x y:Nat}
theorem bg(h:a≤m)(k:m.ble n=true):a≤n:=HV h (H7 k)
theorem fH(h:a≤m)(k:m.succ.ble n=true):a<n:=bg (Nat.succ_le_succ h) k
theorem D4(h:a<m)(k:m.ble n=true):a<n:=bg h k
theorem ET(h:a<m)(k:m.ble n.succ=true):a≤n:=Nat.le_of_succ_le_succ (bg h k)
theorem Eu(h:a≤m)(k:(m+c).ble n=true):a+c≤n:=bg (Ik h c) k
theorem EZ(h:a≤m)(k:(m+c).succ.ble n=true):a+c<n:=Eu (c:=c+1) h k
theorem Fv(h:a+1≤m)(k:m.ble n=true):a≤n:=bg (Nat.le_of_succ_le h) k
theorem FW(h:a≤m)(k:m.ble n=true):a-c≤n:=HV (Nat.sub_le ..) (bg h k)
theorem dH(e:a=c)(h:c≤m)(k:m.ble n=true):a≤n:=bg (e▸h) k
theorem Ez(e:a=c)(h:c≤m)(k:m.succ.ble n=true):a<n:=fH (e▸h) k
theorem Ab(e:a=c)(e':c=d)(h:d≤m)(k:m.ble n=true):a≤n:=dH (e.trans e') h k
theorem wA(h:a≤m)(k:m.ble n=true):min a b≤n:=HV (Iq ..) (bg h k)
theorem r7(h:a≤m)(k:m.succ.ble n=true):min a b<n:=H4 (Iq ..) (fH h k)
theorem EX(e:a=c)(h:c≤m)(k:m.ble n=true):min a b≤n:=wA (e▸h) k
theorem EL(e:a=c)(h:c≤m)(k:m.succ.ble n=true):min a b<n:=r7 (e▸h) k
theorem mft(h:a<m):min a b<m:=H4 (Iq ..) h
theorem mq(e:a=c)(e':b=c):min a b=c:=by rw[e,e',Ii]
theorem D_(e:b=c):min c b=c:=mq rfl e
theorem mqs(e:b=c):min b c=b:=mq rfl e.symm
theorem m3(e:a=c)(e':b=c):min b (min c a)=c:=mq e' (D_ e)
theorem lts(h:k<min a b):k<a:=H8 h (Iq ..)
theorem Em(h:i<n)(g:n≤m)(k:m.ble x=true):i<x:=H8 h (bg g k)
theorem EQ(h:i+(m+1)=n):i<n:=h▸Ix (HX m)
theorem Eb(h:i+(m+1)=n):i+1+m=n:=by rw[Nat.add_assoc,Il 1];exact h
theorem EP(h:n<k):n+(k-1-n)+1=k:=(congrArg (· +1) (Nat.add_sub_of_le (Nat.le_sub_one_of_lt h))).trans (Nat.sub_add_cancel (H4 (H9 _) h))
theorem fu(h:m<f):f=f-1+1:=(Nat.sub_add_cancel (H4 (H9 _) h)).symm
theorem Fo(h:a+(d+1)<n):a+1+d<n:=by rwa [Nat.add_assoc,Il 1]
theorem rm0(h:a+(d+1)<n):a+d<n:=Iu h
theorem rmz(h:a+(d+1)<n):a<n:=H4 (H1 ..) h
theorem EU(h:a+8*(d+1)+220<n)(k:x≤a+8):x+8*d+220<n:=H4 (Ik (HV (Ik k (8*d)) (by rw[Iy];exact HW _)) 220) h
theorem ru1(h:a+8*(d+1)+220<n):a+1+8*d+220<n:=EU h (Ig (by decide) a)
theorem rux(h:a+8*(d+1)+220<n):a+3+8*d+220<n:=EU h (Ig (by decide) a)
theorem ru0(h:a+8*(d+1)+220<n):a+8*d+220<n:=EU h (H1 ..)
theorem Dr(h:a+(b+1)≤n):a+1+b≤n:=Eb (n:=a+(b+1)) rfl▸h
theorem jE(h: ¬i<n)(g:i<n+1):i=n:=Nat.le_antisymm (Nat.le_of_lt_succ g) (Nat.le_of_not_lt h)
theorem cN{a b:Nat}(h:(a:Int)=b):a=b:=Int.natCast_inj.mp h
theorem Fy{a b:Nat}(h:((a:Int)==b)=true):a=b:=cN (GK h)
theorem cI{a b:Nat}(h:a=b):(a:Int)=b:=congrArg _ h
theorem n62(h:i<2^62): -(2^62:Int)≤(i:Int)∧(i:Int)<2^62:=by omega
theorem sj:((a+1:Nat):Int)-1=(a:Int):=Int.add_sub_cancel (a:Int) 1
end
section
variable {s t u a b c d:Int}{m n k:Nat}
theorem ib0(h: -(n:Int)≤s)(g:s≤n):s.natAbs≤n:=by omega
theorem qA(h:a≤s∧s≤b)(k:(decide (-(n:Int)≤a)&&decide (b≤n))=true):s.natAbs≤n:=
 have k:=Gg.mp k
 ib0 (Gw (of_decide_eq_true k.1) h.1) (Gw h.2 (of_decide_eq_true k.2))
theorem tbn(h:0≤s)(g:s≤b):s.natAbs≤b.toNat:=ib0 (Gw (Int.neg_nonpos_of_nonneg (Gv _)) h) (Gw g (Int.self_le_toNat b))
theorem iat(h:a≤s∧s<b)(k:(decide (-(n:Int)≤a)&&decide (b≤n))=true):s.natAbs≤n:=qA ⟨h.1,GC h.2⟩ k
theorem E3(h:a≤s)(g:s<b)(k:(decide (-(n:Int)≤a)&&decide (b≤n))=true):s.natAbs≤n:=iat ⟨h,g⟩ k
theorem iad(h:a<s)(g:s≤b)(k:(decide (-(n:Int)≤a)&&decide (b≤n))=true):s.natAbs≤n:=qA ⟨GC h,g⟩ k
theorem x7(h:a≤s∧s≤b)(k:(decide (c≤a)&&decide (b≤d))=true):c≤s∧s≤d:=
 have k:=Gg.mp k
 ⟨Gw (of_decide_eq_true k.1) h.1,Gw h.2 (of_decide_eq_true k.2)⟩
theorem iil(h:a≤s∧s≤b)(k:decide (c≤a)=true):c≤s:=Gw (of_decide_eq_true k) h.1
theorem ilc(h:a≤s)(k:decide (c≤a)=true):c≤s:=Gw (of_decide_eq_true k) h
theorem iba(h:a≤s∧s≤b)(k:(decide (c≤a+1)&&decide (b+1≤d))=true):c≤s+1∧s+1≤d:=
 have k:=Gg.mp k
 ⟨Gw (of_decide_eq_true k.1) (GD h.1 1),Gw (GD h.2 1) (of_decide_eq_true k.2)⟩
theorem nec(e:s=t)(k:t.natAbs.ble n=true):s.natAbs≤n:=e▸H7 k
theorem E7(h:s.natAbs≤m)(k:m.ble n=true):(-s).natAbs≤n:=by rw[Int.natAbs_neg];exact bg h k
theorem zo(h:s.natAbs≤m)(g:t.natAbs≤k)(w:(m+k).ble n=true):(s+t).natAbs≤n:=bg (HV (Int.natAbs_add_le ..) (Nat.add_le_add h g)) w
theorem Cs(h:s.natAbs≤m)(g:t.natAbs≤k)(w:(m+k).ble n=true):(s-t).natAbs≤n:=by rw[Int.sub_eq_add_neg];exact zo h (by rw[Int.natAbs_neg];exact g) w
theorem eB(h:s.natAbs≤m)(w:(m+1).ble n=true):(s-1).natAbs≤n:=Cs h (HW 1) w
end
section
variable {a b c d m n i k f x y:Nat}
theorem lSn(e:a=n+1):n<a:=e▸HY n
theorem lSp(e:a=n+1):n=a-1:=e▸rfl
theorem rt1(e:n-i=k+1):n-(i+1)=k:=by rw[Nat.sub_add_eq,e];rfl
theorem rt0(h:i<n):n-i=n-i-1+1:=fu (Nat.sub_pos_of_lt h)
theorem rt2(e:n-(i+1)=k):k=n-1-i:=e.symm.trans (by rw[Il];exact Nat.sub_add_eq ..)
theorem lmm(e:b=a)(h:i<b):i<min a b:=by rw[e,Ii];exact e▸h
theorem Fk(h:i<a)(e:((b:Int)==a)=true):i<b:=Fy e▸h
theorem ltr(h:i<b)(e:((b:Int)==a)=true):i<a:=Fy e▸h
theorem cmx(h:a+n<c)(g:k<n):a+1+k<c:=H4 (by rw[Nat.add_assoc,Il 1];exact Ig g a) h
theorem ady(h:a<b):a<b+c:=H8 h (H1 ..)
theorem l8(h:i<n)(g:n≤m)(e:a=i)(k:m.ble x=true):a≤x:=e▸H' (Em h g k)
theorem l9(h:i<m)(e:a=i)(k:m.ble x=true):a≤x:=e▸H' (D4 h k)
theorem asl(h:a+m≤n):a≤n:=HV (H1 ..) h
theorem ne0(h:a+b≤a):b=0:=Nat.le_zero.mp (Nat.le_of_add_le_add_left h)
theorem dp(h:a+8*d+220<n)(k:m.ble 220=true):a+m<n:=H4 (HV (Ig (H7 k) a) (Ik (H1 a (8*d)) 220)) h
theorem bry(g:x≤a+4)(h:a+8*(d+1)+220<n):x+1+3+8*d+220<n:=EU h (Ik g 4)
theorem mac:m+1+k+1=m+k+1+1:=congrArg (· +1) (Iy m 1 k)
theorem z1k:0+k+1=k+1:=congrArg (· +1) (Iv k)
theorem jlt{s:Int}{l:Nat}(h:a<l)(g:l≤m)(k:decide ((m:Int)≤s)=true):(a:Int)<s:=GB (Gz.mpr (H8 h g)) (of_decide_eq_true k)
theorem jm{s:Int}(k:decide (s≤0)=true):s≤(a:Int):=Gw (of_decide_eq_true k) (Gv a)
theorem j0(h:i<n):0≤(i:Int)∧(i:Int).toNat<n:=⟨Gv i,h⟩
theorem Ey(h:1≤a):(a:Int)-1=((a-1:Nat):Int):=(Int.ofNat_sub h).symm
theorem scs{a:Int}:a+(i:Int)+1=a+((i+1:Nat):Int):=Int.add_assoc ..
theorem sct{b:Int}:b-(i:Int)-1=b-((i+1:Nat):Int):=Int.sub_sub b i 1
theorem tn0(h: ¬(1:Int)<((a+1:Nat):Int)):Int.toNat 0=a:=(Nat.le_zero.mp (Nat.le_of_succ_le_succ (GA.mp (Gx.mp h)))).symm
theorem mi1:min (1:Int) ((a:Int)+1)=1:=Int.min_eq_left (Int.le_add_of_nonneg_left (Gv a))
theorem leq{m:Int}(e:(b:Int)=m)(g:(a:Int)<m):a<b:=Gz.mp (e▸g)
end
section
variable {s t u a b c d:Int}{m n k:Nat}
theorem ain{p:Prop}(h:a≤s∧(s<b∧p))(k:decide (c≤a)=true):c≤s:=Gw (of_decide_eq_true k) h.1
theorem aiu{p:Prop}(h:a≤s∧(s<b∧p))(k:decide (b≤c)=true):s<c:=GB h.2.1 (of_decide_eq_true k)
theorem ibt(h:a≤s∧s<b)(k:(decide (c≤a)&&decide (b≤d))=true):c≤s∧s<d:=
 have k:=Gg.mp k
 ⟨Gw (of_decide_eq_true k.1) h.1,GB h.2 (of_decide_eq_true k.2)⟩
theorem Fs(h:0≤s∧s≤b)(g:t.natAbs≤k)(w:(b.toNat+k).ble n=true):(s+t).natAbs≤n:=zo (tbn h.1 h.2) g w
theorem nA1(h:1≤s∧s≤b)(w:(b.toNat+1).ble n=true):(s+1).natAbs≤n:=zo (tbn (Gw (by decide) h.1) h.2) (HW 1) w
theorem xne(h:1≤s)(e:s=0):False:=by rw[e]at h;exact absurd h (by decide)
theorem npn(h:0<s): ¬s=0:=Int.ne_of_gt h
theorem DV:s+0+0=s:=by rw[Int.add_zero,Int.add_zero]
theorem bts(h:s.natAbs<k)(w:decide ((k:Int)≤t)=true):s<t:=GB (GE Int.le_natAbs (Gz.mpr h)) (of_decide_eq_true w)
theorem btn(h:s.natAbs<k)(w:decide (t≤ -(k:Int))=true):t<s:=GE (of_decide_eq_true w) (Int.neg_lt_of_neg_lt (bts (s:= -s) (k:=k) (by rw[Int.natAbs_neg];exact h) (decide_eq_true (Int.le_refl _))))
theorem tz(h:s≤0):s.toNat=0:=Int.toNat_eq_zero.mpr h
theorem il4{y:Int}(h: ¬y=5)(g:y<6):y≤4:=GF (GG.mpr ⟨GF g,h⟩)
theorem l1y(h:0≤s): -1-s<0:=Int.sub_neg_of_lt (GB (by decide) h)
theorem nlm(h:s.natAbs≤m)(w:decide ((m:Int)≤t)=true):s≤t:=Gw Int.le_natAbs (Gw (GA.mpr h) (of_decide_eq_true w))
theorem lnz(h:0≤s+(m:Int)): -(m:Int)≤s:=by omega
end
end
section
theorem oA{p0:Prop}{p1:Prop}{G:Prop}(h:p0∧p1)(k:p0→p1→G):G:=h.elim fun y1 h=>k y1 h
theorem oE{KL:Sort _}{p0:KL→Prop}{G:Prop}(h: ∃x0,p0 x0)(k: ∀x0,p0 x0→G):G:=h.elim fun x0 h=>k x0 h
theorem mN{p0:Prop}{p1:Prop}{p2:Prop}{G:Prop}(h:p0∧p1∧p2)(k:p0→p1→p2→G):G:=h.elim fun y1 h=>h.elim fun y2 h=>k y1 y2 h
theorem aK{KL:Sort _}{p0:KL→Prop}{p1:KL→Prop}{G:Prop}(h: ∃x0,p0 x0∧p1 x0)(k: ∀x0,p0 x0→p1 x0→G):G:=h.elim fun x0 h=>h.elim fun y1 h=>k x0 y1 h
theorem qK{KL KO:Sort _}{p0:KL→KO→Prop}{G:Prop}(h: ∃x0,∃x1,p0 x0 x1)(k: ∀x0,∀x1,p0 x0 x1→G):G:=h.elim fun x0 h=>h.elim fun x1 h=>k x0 x1 h
theorem uC{p0:Prop}{p1:Prop}{p2:Prop}{p3:Prop}{G:Prop}(h:p0∧p1∧p2∧p3)(k:p0→p1→p2→p3→G):G:=h.elim fun y1 h=>h.elim fun y2 h=>h.elim fun y3 h=>k y1 y2 y3 h
theorem DX{KL:Sort _}{p0:Prop}{p1:KL→Prop}{p2:KL→Prop}{G:Prop}(h:p0∧(∃x0,p1 x0∧p2 x0))(k:p0→ ∀x0,p1 x0→p2 x0→G):G:=h.elim fun y1 h=>h.elim fun x0 h=>h.elim fun y2 h=>k y1 x0 y2 h
theorem bW{KL:Sort _}{p0:KL→Prop}{p1:KL→Prop}{p2:KL→Prop}{G:Prop}(h: ∃x0,p0 x0∧p1 x0∧p2 x0)(k: ∀x0,p0 x0→p1 x0→p2 x0→G):G:=h.elim fun x0 h=>h.elim fun y1 h=>h.elim fun y2 h=>k x0 y1 y2 h
theorem bf{KL KO:Sort _}{p0:KL→KO→Prop}{p1:KL→KO→Prop}{G:Prop}(h: ∃x0,∃x1,p0 x0 x1∧p1 x0 x1)(k: ∀x0,∀x1,p0 x0 x1→p1 x0 x1→G):G:=h.elim fun x0 h=>h.elim fun x1 h=>h.elim fun y1 h=>k x0 x1 y1 h
theorem D0{KL KO KU:Sort _}{p0:KL→KO→KU→Prop}{G:Prop}(h: ∃x0,∃x1,∃x2,p0 x0 x1 x2)(k: ∀x0,∀x1,∀x2,p0 x0 x1 x2→G):G:=h.elim fun x0 h=>h.elim fun x1 h=>h.elim fun x2 h=>k x0 x1 x2 h
theorem Ds{p0:Prop}{p1:Prop}{p2:Prop}{p3:Prop}{p4:Prop}{G:Prop}(h:p0∧p1∧p2∧p3∧p4)(k:p0→p1→p2→p3→p4→G):G:=h.elim fun y1 h=>h.elim fun y2 h=>h.elim fun y3 h=>h.elim fun y4 h=>k y1 y2 y3 y4 h
theorem nr{KL:Sort _}{p0:KL→Prop}{p1:KL→Prop}{p2:KL→Prop}{p3:KL→Prop}{G:Prop}(h: ∃x0,p0 x0∧p1 x0∧p2 x0∧p3 x0)(k: ∀x0,p0 x0→p1 x0→p2 x0→p3 x0→G):G:=h.elim fun x0 h=>h.elim fun y1 h=>h.elim fun y2 h=>h.elim fun y3 h=>k x0 y1 y2 y3 h
theorem Db{KL KO:Sort _}{p0:KL→Prop}{p1:KL→KO→Prop}{p2:KL→KO→Prop}{G:Prop}(h: ∃x0,p0 x0∧(∃x1,p1 x0 x1∧p2 x0 x1))(k: ∀x0,p0 x0→ ∀x1,p1 x0 x1→p2 x0 x1→G):G:=h.elim fun x0 h=>h.elim fun y1 h=>h.elim fun x1 h=>h.elim fun y2 h=>k x0 y1 x1 y2 h
theorem dC{KL KO:Sort _}{p0:KL→KO→Prop}{p1:KL→KO→Prop}{p2:KL→KO→Prop}{G:Prop}(h: ∃x0,∃x1,p0 x0 x1∧p1 x0 x1∧p2 x0 x1)(k: ∀x0,∀x1,p0 x0 x1→p1 x0 x1→p2 x0 x1→G):G:=h.elim fun x0 h=>h.elim fun x1 h=>h.elim fun y1 h=>h.elim fun y2 h=>k x0 x1 y1 y2 h
theorem l_{KL KO KU:Sort _}{p0:KL→KO→KU→Prop}{p1:KL→KO→KU→Prop}{G:Prop}(h: ∃x0,∃x1,∃x2,p0 x0 x1 x2∧p1 x0 x1 x2)(k: ∀x0,∀x1,∀x2,p0 x0 x1 x2→p1 x0 x1 x2→G):G:=h.elim fun x0 h=>h.elim fun x1 h=>h.elim fun x2 h=>h.elim fun y1 h=>k x0 x1 x2 y1 h
theorem Bw{KL KO:Sort _}{p0:Prop}{p1:Prop}{p2:KL→KO→Prop}{p3:KL→KO→Prop}{G:Prop}(h:p0∧p1∧(∃x0,∃x1,p2 x0 x1∧p3 x0 x1))(k:p0→p1→ ∀x0,∀x1,p2 x0 x1→p3 x0 x1→G):G:=h.elim fun y1 h=>h.elim fun y2 h=>h.elim fun x0 h=>h.elim fun x1 h=>h.elim fun y3 h=>k y1 y2 x0 x1 y3 h
theorem lT{KL KO:Sort _}{p0:Prop}{p1:KL→KO→Prop}{p2:KL→KO→Prop}{p3:KL→KO→Prop}{G:Prop}(h:p0∧(∃x0,∃x1,p1 x0 x1∧p2 x0 x1∧p3 x0 x1))(k:p0→ ∀x0,∀x1,p1 x0 x1→p2 x0 x1→p3 x0 x1→G):G:=h.elim fun y1 h=>h.elim fun x0 h=>h.elim fun x1 h=>h.elim fun y2 h=>h.elim fun y3 h=>k y1 x0 x1 y2 y3 h
theorem bS{KL KO:Sort _}{p0:KL→KO→Prop}{p1:KL→KO→Prop}{p2:KL→KO→Prop}{p3:KL→KO→Prop}{G:Prop}(h: ∃x0,∃x1,p0 x0 x1∧p1 x0 x1∧p2 x0 x1∧p3 x0 x1)(k: ∀x0,∀x1,p0 x0 x1→p1 x0 x1→p2 x0 x1→p3 x0 x1→G):G:=h.elim fun x0 h=>h.elim fun x1 h=>h.elim fun y1 h=>h.elim fun y2 h=>h.elim fun y3 h=>k x0 x1 y1 y2 y3 h
theorem iC{KL KO KU:Sort _}{p0:KL→KO→KU→Prop}{p1:KL→KO→KU→Prop}{p2:KL→KO→KU→Prop}{G:Prop}(h: ∃x0,∃x1,∃x2,p0 x0 x1 x2∧p1 x0 x1 x2∧p2 x0 x1 x2)(k: ∀x0,∀x1,∀x2,p0 x0 x1 x2→p1 x0 x1 x2→p2 x0 x1 x2→G):G:=h.elim fun x0 h=>h.elim fun x1 h=>h.elim fun x2 h=>h.elim fun y1 h=>h.elim fun y2 h=>k x0 x1 x2 y1 y2 h
theorem iU{KL KO KU:Sort _}{p0:KL→KO→KU→Prop}{p1:KL→KO→KU→Prop}{p2:KL→KO→KU→Prop}{p3:KL→KO→KU→Prop}{G:Prop}(h: ∃x0,∃x1,∃x2,p0 x0 x1 x2∧p1 x0 x1 x2∧p2 x0 x1 x2∧p3 x0 x1 x2)(k: ∀x0,∀x1,∀x2,p0 x0 x1 x2→p1 x0 x1 x2→p2 x0 x1 x2→p3 x0 x1 x2→G):G:=h.elim fun x0 h=>h.elim fun x1 h=>h.elim fun x2 h=>h.elim fun y1 h=>h.elim fun y2 h=>h.elim fun y3 h=>k x0 x1 x2 y1 y2 y3 h
theorem bP{KL KO KU K5:Sort _}{p0:KL→KO→KU→K5→Prop}{p1:KL→KO→KU→K5→Prop}{p2:KL→KO→KU→K5→Prop}{G:Prop}(h: ∃x0,∃x1,∃x2,∃x3,p0 x0 x1 x2 x3∧p1 x0 x1 x2 x3∧p2 x0 x1 x2 x3)(k: ∀x0,∀x1,∀x2,∀x3,p0 x0 x1 x2 x3→p1 x0 x1 x2 x3→p2 x0 x1 x2 x3→G):G:=h.elim fun x0 h=>h.elim fun x1 h=>h.elim fun x2 h=>h.elim fun x3 h=>h.elim fun y1 h=>h.elim fun y2 h=>k x0 x1 x2 x3 y1 y2 h
theorem gb{KL KO KU K5 La:Sort _}{p0:KL→KO→KU→K5→La→Prop}{p1:KL→KO→KU→K5→La→Prop}{G:Prop}(h: ∃x0,∃x1,∃x2,∃x3,∃x4,p0 x0 x1 x2 x3 x4∧p1 x0 x1 x2 x3 x4)(k: ∀x0,∀x1,∀x2,∀x3,∀x4,p0 x0 x1 x2 x3 x4→p1 x0 x1 x2 x3 x4→G):G:=h.elim fun x0 h=>h.elim fun x1 h=>h.elim fun x2 h=>h.elim fun x3 h=>h.elim fun x4 h=>h.elim fun y1 h=>k x0 x1 x2 x3 x4 y1 h
theorem lh{KL KO:Sort _}{p0:Prop}{p1:KL→KO→Prop}{p2:KL→KO→Prop}{p3:KL→KO→Prop}{p4:KL→KO→Prop}{p5:KL→KO→Prop}{G:Prop}(h:p0∧(∃x0,∃x1,p1 x0 x1∧p2 x0 x1∧p3 x0 x1∧p4 x0 x1∧p5 x0 x1))(k:p0→ ∀x0,∀x1,p1 x0 x1→p2 x0 x1→p3 x0 x1→p4 x0 x1→p5 x0 x1→G):G:=h.elim fun y1 h=>h.elim fun x0 h=>h.elim fun x1 h=>h.elim fun y2 h=>h.elim fun y3 h=>h.elim fun y4 h=>h.elim fun y5 h=>k y1 x0 x1 y2 y3 y4 y5 h
theorem cC{KL KO KU K5:Sort _}{p0:KL→KO→KU→K5→Prop}{p1:KL→KO→KU→K5→Prop}{p2:KL→KO→KU→K5→Prop}{p3:KL→KO→KU→K5→Prop}{G:Prop}(h: ∃x0,∃x1,∃x2,∃x3,p0 x0 x1 x2 x3∧p1 x0 x1 x2 x3∧p2 x0 x1 x2 x3∧p3 x0 x1 x2 x3)(k: ∀x0,∀x1,∀x2,∀x3,p0 x0 x1 x2 x3→p1 x0 x1 x2 x3→p2 x0 x1 x2 x3→p3 x0 x1 x2 x3→G):G:=h.elim fun x0 h=>h.elim fun x1 h=>h.elim fun x2 h=>h.elim fun x3 h=>h.elim fun y1 h=>h.elim fun y2 h=>h.elim fun y3 h=>k x0 x1 x2 x3 y1 y2 y3 h
theorem o0{KL KO KU K5 La:Sort _}{p0:KL→KO→KU→K5→La→Prop}{p1:KL→KO→KU→K5→La→Prop}{p2:KL→KO→KU→K5→La→Prop}{G:Prop}(h: ∃x0,∃x1,∃x2,∃x3,∃x4,p0 x0 x1 x2 x3 x4∧p1 x0 x1 x2 x3 x4∧p2 x0 x1 x2 x3 x4)(k: ∀x0,∀x1,∀x2,∀x3,∀x4,p0 x0 x1 x2 x3 x4→p1 x0 x1 x2 x3 x4→p2 x0 x1 x2 x3 x4→G):G:=h.elim fun x0 h=>h.elim fun x1 h=>h.elim fun x2 h=>h.elim fun x3 h=>h.elim fun x4 h=>h.elim fun y1 h=>h.elim fun y2 h=>k x0 x1 x2 x3 x4 y1 y2 h
theorem fA{KL KO KU K5 La Ly:Sort _}{p0:KL→KO→KU→K5→La→Ly→Prop}{p1:KL→KO→KU→K5→La→Ly→Prop}{G:Prop}(h: ∃x0,∃x1,∃x2,∃x3,∃x4,∃x5,p0 x0 x1 x2 x3 x4 x5∧p1 x0 x1 x2 x3 x4 x5)(k: ∀x0,∀x1,∀x2,∀x3,∀x4,∀x5,p0 x0 x1 x2 x3 x4 x5→p1 x0 x1 x2 x3 x4 x5→G):G:=h.elim fun x0 h=>h.elim fun x1 h=>h.elim fun x2 h=>h.elim fun x3 h=>h.elim fun x4 h=>h.elim fun x5 h=>h.elim fun y1 h=>k x0 x1 x2 x3 x4 x5 y1 h
theorem fO{KL KO KU K5 La:Sort _}{p0:KL→KO→KU→K5→La→Prop}{p1:KL→KO→KU→K5→La→Prop}{p2:KL→KO→KU→K5→La→Prop}{p3:KL→KO→KU→K5→La→Prop}{G:Prop}(h: ∃x0,∃x1,∃x2,∃x3,∃x4,p0 x0 x1 x2 x3 x4∧p1 x0 x1 x2 x3 x4∧p2 x0 x1 x2 x3 x4∧p3 x0 x1 x2 x3 x4)(k: ∀x0,∀x1,∀x2,∀x3,∀x4,p0 x0 x1 x2 x3 x4→p1 x0 x1 x2 x3 x4→p2 x0 x1 x2 x3 x4→p3 x0 x1 x2 x3 x4→G):G:=h.elim fun x0 h=>h.elim fun x1 h=>h.elim fun x2 h=>h.elim fun x3 h=>h.elim fun x4 h=>h.elim fun y1 h=>h.elim fun y2 h=>h.elim fun y3 h=>k x0 x1 x2 x3 x4 y1 y2 y3 h
theorem jT{KL KO KU K5 La Ly:Sort _}{p0:KL→KO→KU→K5→La→Ly→Prop}{p1:KL→KO→KU→K5→La→Ly→Prop}{p2:KL→KO→KU→K5→La→Ly→Prop}{G:Prop}(h: ∃x0,∃x1,∃x2,∃x3,∃x4,∃x5,p0 x0 x1 x2 x3 x4 x5∧p1 x0 x1 x2 x3 x4 x5∧p2 x0 x1 x2 x3 x4 x5)(k: ∀x0,∀x1,∀x2,∀x3,∀x4,∀x5,p0 x0 x1 x2 x3 x4 x5→p1 x0 x1 x2 x3 x4 x5→p2 x0 x1 x2 x3 x4 x5→G):G:=h.elim fun x0 h=>h.elim fun x1 h=>h.elim fun x2 h=>h.elim fun x3 h=>h.elim fun x4 h=>h.elim fun x5 h=>h.elim fun y1 h=>h.elim fun y2 h=>k x0 x1 x2 x3 x4 x5 y1 y2 h
theorem f8{KL KO KU:Sort _}{p0:KL→KO→KU→Prop}{p1:KL→KO→KU→Prop}{p2:KL→KO→KU→Prop}{p3:KL→KO→KU→Prop}{p4:KL→KO→KU→Prop}{p5:KL→KO→KU→Prop}{p6:KL→KO→KU→Prop}{G:Prop}(h: ∃x0,∃x1,∃x2,p0 x0 x1 x2∧p1 x0 x1 x2∧p2 x0 x1 x2∧p3 x0 x1 x2∧p4 x0 x1 x2∧p5 x0 x1 x2∧p6 x0 x1 x2)(k: ∀x0,∀x1,∀x2,p0 x0 x1 x2→p1 x0 x1 x2→p2 x0 x1 x2→p3 x0 x1 x2→p4 x0 x1 x2→p5 x0 x1 x2→p6 x0 x1 x2→G):G:=h.elim fun x0 h=>h.elim fun x1 h=>h.elim fun x2 h=>h.elim fun y1 h=>h.elim fun y2 h=>h.elim fun y3 h=>h.elim fun y4 h=>h.elim fun y5 h=>h.elim fun y6 h=>k x0 x1 x2 y1 y2 y3 y4 y5 y6 h
theorem k_{KL KO KU K5 La:Sort _}{p0:KL→KO→KU→K5→La→Prop}{p1:KL→KO→KU→K5→La→Prop}{p2:KL→KO→KU→K5→La→Prop}{p3:KL→KO→KU→K5→La→Prop}{p4:KL→KO→KU→K5→La→Prop}{G:Prop}(h: ∃x0,∃x1,∃x2,∃x3,∃x4,p0 x0 x1 x2 x3 x4∧p1 x0 x1 x2 x3 x4∧p2 x0 x1 x2 x3 x4∧p3 x0 x1 x2 x3 x4∧p4 x0 x1 x2 x3 x4)(k: ∀x0,∀x1,∀x2,∀x3,∀x4,p0 x0 x1 x2 x3 x4→p1 x0 x1 x2 x3 x4→p2 x0 x1 x2 x3 x4→p3 x0 x1 x2 x3 x4→p4 x0 x1 x2 x3 x4→G):G:=h.elim fun x0 h=>h.elim fun x1 h=>h.elim fun x2 h=>h.elim fun x3 h=>h.elim fun x4 h=>h.elim fun y1 h=>h.elim fun y2 h=>h.elim fun y3 h=>h.elim fun y4 h=>k x0 x1 x2 x3 x4 y1 y2 y3 y4 h
theorem fU{KL KO KU K5 La Ly:Sort _}{p0:KL→KO→KU→K5→La→Ly→Prop}{p1:KL→KO→KU→K5→La→Ly→Prop}{p2:KL→KO→KU→K5→La→Ly→Prop}{p3:KL→KO→KU→K5→La→Ly→Prop}{G:Prop}(h: ∃x0,∃x1,∃x2,∃x3,∃x4,∃x5,p0 x0 x1 x2 x3 x4 x5∧p1 x0 x1 x2 x3 x4 x5∧p2 x0 x1 x2 x3 x4 x5∧p3 x0 x1 x2 x3 x4 x5)(k: ∀x0,∀x1,∀x2,∀x3,∀x4,∀x5,p0 x0 x1 x2 x3 x4 x5→p1 x0 x1 x2 x3 x4 x5→p2 x0 x1 x2 x3 x4 x5→p3 x0 x1 x2 x3 x4 x5→G):G:=h.elim fun x0 h=>h.elim fun x1 h=>h.elim fun x2 h=>h.elim fun x3 h=>h.elim fun x4 h=>h.elim fun x5 h=>h.elim fun y1 h=>h.elim fun y2 h=>h.elim fun y3 h=>k x0 x1 x2 x3 x4 x5 y1 y2 y3 h
theorem bV{M:Model}{A:Around}{s:Shared}{α:Type}{p:Prop}[Decidable p]{a b:Sem α}{Q:α→Shared→Prop}{E:Value→Shared→Prop}(h: ¬p)(k:IG M A b Q E s):IG M A (if p then a else b) Q E s:=by rw[if_neg h];exact k
theorem cX{M:Model}{A:Around}{s:Shared}{α:Type}{p:Prop}[Decidable p]{a b:Sem α}{Q:α→Shared→Prop}{E:Value→Shared→Prop}(h:p)(k:IG M A a Q E s):IG M A (if p then a else b) Q E s:=by rw[if_pos h];exact k
theorem zX{α:Type}{p:Prop}[Decidable p]{a b c:α}(h: ¬p)(k:b=c):(if p then a else b)=c:=(if_neg h).trans k
theorem dQ{α:Type}{p:Prop}[Decidable p]{a b c:α}(h:p)(k:a=c):(if p then a else b)=c:=(if_pos h).trans k
theorem rL{α β:Type}{a b:α}{s t:β}{P:Prop}(e:(a,s)=(b,t))(k:a=b→s=t→P):P:=by cases e;exact k rfl rfl
inductive V where
 |val (v:Value)
 |int (i:Int)
 |str (s:Str)
 |tup (l:List V)
 |lst (k:Nat)
 |inst (C:Addr) (k:Nat)
 |rng (a b d:Int)
 deriving Inhabited
inductive aa where
 |lst (l:List V)
 |dct (fs:List (Str×V))
 |ro (l:List V) (vs:List Value) (n:Nat)
 deriving Inhabited
noncomputable abbrev Sg:=List aa
set_option genInjectivity false in
structure Pl where
 r:List Addr
 p:List Addr
noncomputable def Pl.free(ρ:Pl)(a:Addr):Prop:=a∉ρ.r∧a∉ρ.p
noncomputable abbrev ao(vs:List Value)(n:Nat):Obj:={cls:= .type "tuple",data:= .seq vs.toArray n}
noncomputable abbrev aB(vs:List Value)(n:Nat):Obj:={cls:= .type "list",data:= .seq vs.toArray n}
mutual
inductive R(h:Heap)(ρ:Pl):V→Value→Prop
 |val {v:Value}:R h ρ (.val v) v
 |int {i:Int} {t:Tok}:R h ρ (.int i) (.int i t)
 |str {s:Str} {t:Tok}:R h ρ (.str s) (.str s t)
 |tup {l:List V} {a:Addr} {vs:List Value} {n:Nat}:h.get? a=some (ao vs n)→ρ.free a→Rs h ρ l vs→R h ρ (.tup l) (.ref a)
 |lst {k:Nat} {a:Addr}:ρ.r[k]? =some a→R h ρ (.lst k) (.ref a)
 |inst {C a dx:Addr} {k:Nat}:h.get? a=some (instObj C dx)→ρ.free a→ρ.r[k]? =some dx→R h ρ (.inst C k) (.ref a)
 |rng {a b d:Int} {r:Addr} {t u v:Tok}:IsRange h r a b d t u v→ρ.free r→R h ρ (.rng a b d) (.ref r)
inductive Rs(h:Heap)(ρ:Pl):List V→List Value→Prop
 |nil:Rs h ρ [] []
 |cons {x:V} {v:Value} {l:List V} {vs:List Value}:R h ρ x v→Rs h ρ l vs→Rs h ρ (x::l) (v::vs)
end
theorem no{α:Type}{b:α}{P:Prop}(e:(none:Option α)=some b):P:=nomatch e
theorem EC{α:Type}{b:α}{P:Prop}(e:some b=(none:Option α)):P:=nomatch e
theorem dw{G:Prop}(h: ¬G→False):G:=Gq h
theorem ik{α:Type}{c:Prop}[Decidable c]{x:Option α}{o:α}(e:(if c then x else none)=some o):c∧x=some o:=by
 by_cases h:c
 ·rw[if_pos h]at e;exact⟨h,e⟩
 ·rw[if_neg h]at e;exact no e
theorem sC{α:Type}{c:Prop}[Decidable c]{x:Option α}{o:α}(e:(if c then none else x)=some o): ¬c∧x=some o:=by
 by_cases h:c
 ·rw[if_pos h]at e;exact no e
 ·rw[if_neg h]at e;exact⟨h,e⟩
theorem Az{α:Type}{a b:α}(e:some a=some b):b=a:=by obtain rfl:=IF e;rfl
theorem aP{α β:Type}{x:Option α}{f:α→β}{b:β}{P:Prop}(e:x.map f=some b)(h: ∀a,x=some a→f a=b→P):P:=by
 cases x with
 |none=>exact no e
 |some a=>exact h a rfl (IF e)
theorem ae{α β:Type}{x:Option α}{f:α→Option β}{b:β}{P:Prop}(e:x.bind f=some b)(h: ∀a,x=some a→f a=some b→P):P:=by
 cases x with
 |none=>exact no e
 |some a=>exact h a rfl e
theorem bI{α:Type}{p:Prop}[Decidable p]{x:Option α}{b:α}{P:Prop}(e:(if p then x else none)=some b)(h:p→x=some b→P):P:=by
 by_cases q:p
 ·rw[if_pos q]at e;exact h q e
 ·rw[if_neg q]at e;exact no e
theorem iA{α β:Type}{o:Option α}{a:Option β}{f:α→Option β}{b:β}{P:Prop}(e:o.elim a f=some b)(n:o=none→a=some b→P)(k: ∀x,o=some x→f x=some b→P):P:=by
 cases o with
 |none=>exact n rfl e
 |some x=>exact k x rfl e
theorem nc{α:Type}{a:α}{l:List α}{P:Prop}(e:a::l=[]):P:=nomatch e
theorem Cr{α:Type}{a:α}{l:List α}{P:Prop}(e:[]=a::l):P:=nomatch e
theorem Cn{P:Prop}(e:true=false):P:=nomatch e
theorem bM{P:Prop}(e:false=true):P:=nomatch e
theorem e_{α:Type}{p:Prop}[Decidable p]{x y:Option α}{b:α}{P:Prop}(e:(if p then x else y)=some b)(h:p→x=some b→P)(k: ¬p→y=some b→P):P:=by
 by_cases q:p
 ·rw[if_pos q]at e;exact h q e
 ·rw[if_neg q]at e;exact k q e
theorem dB{α:Type}{p:α→Prop}{a:α}(h:p a): ∀x∈[a],p x:=fun x m=>GP.mp m▸h
theorem ak{α:Type}{p:α→Prop}{a:α}{l:List α}(h:p a)(k: ∀x∈l,p x): ∀x∈a::l,p x:=fun x m=>(GW.mp m).elim (fun e=>e▸h) (k x)
theorem ck{α:Type}{p:α→Prop}: ∀x∈([]:List α),p x:=fun u_ m=>nomatch m
theorem pJ{α:Type}{p:Prop}[Decidable p]{f:p→Option α}{b:α}{P:Prop}(e:(if h:p then f h else none)=some b)(k: ∀h,f h=some b→P):P:=by
 by_cases q:p
 ·rw[dif_pos q]at e;exact k q e
 ·rw[dif_neg q]at e;exact no e
noncomputable def cY(x:V):Option Int:=if h:x.ctorIdx=1 then some (@V.int.elim (fun u_=>Int) x h fun a=>a)else none
noncomputable def gB(x:V):Option Nat:=if h:x.ctorIdx=4 then some (@V.lst.elim (fun u_=>Nat) x h fun a=>a)else none
noncomputable def eN(x:V):Option (List V):=if h:x.ctorIdx=3 then some (@V.tup.elim (fun u_=>List V) x h fun a=>a)else none
noncomputable def AV(x:V):Option Str:=if h:x.ctorIdx=2 then some (@V.str.elim (fun u_=>Str) x h fun a=>a)else none
noncomputable def kr(x:V):Option Value:=if h:x.ctorIdx=0 then some (@V.val.elim (fun u_=>Value) x h fun a=>a)else none
noncomputable def ng(x:Value):Option Bool:=if h:x.ctorIdx=3 then some (@Value.bool.elim (fun u_=>Bool) x h fun a=>a)else none
noncomputable def lz(x:Value):Bool:=x.ctorIdx.beq 0
theorem b_{x:V}{i:Int}(e:cY x=some i):x= .int i:=pJ e fun h u_=> @V.int.elim (fun x=>cY x=some i→x= .int i) x h (fun u_ e=>congrArg _ (IF e)) e
theorem gn{x:V}{i:Nat}(e:gB x=some i):x= .lst i:=pJ e fun h u_=> @V.lst.elim (fun x=>gB x=some i→x= .lst i) x h (fun u_ e=>congrArg _ (IF e)) e
noncomputable def FE(x:V):Option (Int×Int×Int):=if h:x.ctorIdx=6 then some (@V.rng.elim (fun u_=>Int×Int×Int) x h fun a b d=>(a,b,d))else none
noncomputable def CK(x:V):Option {p:Addr×Nat//x= .inst p.1 p.2}:=if h:x.ctorIdx=5 then some (@V.inst.elim (fun x=>{p:Addr×Nat//x= .inst p.1 p.2}) x h fun a k=>⟨(a,k),rfl⟩)else none
theorem eJ{x:V}{i:List V}(e:eN x=some i):x= .tup i:=pJ e fun h u_=> @V.tup.elim (fun x=>eN x=some i→x= .tup i) x h (fun u_ e=>congrArg _ (IF e)) e
theorem zV{x:V}{i:Str}(e:AV x=some i):x= .str i:=pJ e fun h u_=> @V.str.elim (fun x=>AV x=some i→x= .str i) x h (fun u_ e=>congrArg _ (IF e)) e
theorem ij{x:V}{i:Value}(e:kr x=some i):x= .val i:=pJ e fun h u_=> @V.val.elim (fun x=>kr x=some i→x= .val i) x h (fun u_ e=>congrArg _ (IF e)) e
theorem n7{x:Value}{i:Bool}(e:ng x=some i):x= .bool i:=pJ e fun h u_=> @Value.bool.elim (fun x=>ng x=some i→x= .bool i) x h (fun u_ e=>congrArg _ (IF e)) e
theorem iG{x:Value}(e:lz x=true):x= .none:=by cases x<;>first|rfl|exact bM e
noncomputable def jg(y:V):Bool:=(kr y).any lz
theorem lD{y:V}(e:jg y=true):y= .val .none:=by
 unfold jg at e
 cases h:kr y with
 |none=>rw[h]at e;exact bM e
 |some w=>rw[h]at e;rw[ij h,iG e]
noncomputable def DH:aa→Option (List V)
 | .lst l=>some l
 |_=>none
noncomputable def aI(σ:Sg)(k:Nat):Option (List V):=σ[k]?.bind DH
theorem bF{σ:Sg}{k:Nat}{l:List V}(e:aI σ k=some l):σ[k]? =some (.lst l):=ae e fun x h w=>by
 cases x with
 |lst=>exact IF w▸h
 |_=>exact no w
noncomputable def rdL:aa→Option (List V)
 | .lst l=>some l
 | .ro l _ _=>some l
 |_=>none
noncomputable def oY(σ:Sg)(k:Nat):Option (List V):=σ[k]?.bind rdL
theorem yW{σ:Sg}{k:Nat}{l:List V}(h:σ[k]? =some (.lst l)):oY σ k=some l:=by unfold oY;rw[h];rfl
theorem aN{σ:Sg}{k:Nat}{l:List V}(h:σ[k]? =some (.lst l)):aI σ k=some l:=by unfold aI;rw[h];rfl
section
variable {h:Heap}{ρ:Pl}
theorem R.valQ{u v:Value}(r:R h ρ (.val u) v):v=u:=by cases r;rfl
theorem R.noneQ{x:V}(r:R h ρ x .none):x= .val .none:=by cases r;rfl
theorem R.intQ{i:Int}{v:Value}(r:R h ρ (.int i) v): ∃t,v= .int i t:=by cases r;exact⟨_,rfl⟩
theorem R.strQ{i:Str}{v:Value}(r:R h ρ (.str i) v): ∃t,v= .str i t:=by cases r;exact⟨_,rfl⟩
theorem Rs.nilQ{vs:List Value}(r:Rs h ρ [] vs):vs=[]:=by cases r;rfl
theorem Rs.nil2Q{l:List V}(r:Rs h ρ l []):l=[]:=by cases r;rfl
theorem R.valE{u:Value}{motive: ∀v,R h ρ (.val u) v→Prop}(val:motive u .val){v:Value}(r:R h ρ (.val u) v):motive v r:=by cases r;exact val
theorem R.tupE{l:List V}{motive: ∀v,R h ρ (.tup l) v→Prop}(tup: ∀{a vs n} (h1:h.get? a=some (ao vs n)) (f1:ρ.free a) (rs:Rs h ρ l vs),motive (.ref a) (.tup h1 f1 rs)){v:Value}(r:R h ρ (.tup l) v):motive v r:=by cases r with|tup a b c=>exact tup a b c
theorem R.lstE{k:Nat}{motive: ∀v,R h ρ (.lst k) v→Prop}(lst: ∀{a} (h1:ρ.r[k]? =some a),motive (.ref a) (.lst h1)){v:Value}(r:R h ρ (.lst k) v):motive v r:=by cases r with|lst a=>exact lst a
theorem Rs.nilE{motive: ∀vs,Rs h ρ [] vs→Prop}(nil:motive [] .nil){vs:List Value}(r:Rs h ρ [] vs):motive vs r:=by cases r;exact nil
theorem Rs.consE{x:V}{l:List V}{motive: ∀vs,Rs h ρ (x::l) vs→Prop}(cons: ∀{v vs} (r:R h ρ x v) (rs:Rs h ρ l vs),motive (v::vs) (.cons r rs)){vs:List Value}(r:Rs h ρ (x::l) vs):motive vs r:=by cases r with|cons a b=>exact cons a b
end
inductive Rf(h:Heap)(ρ:Pl):List (Str×V)→List DictEntry→Prop
 |nil:Rf h ρ [] []
 |cons {n:Str} {t:Tok} {x:V} {e:DictEntry} {fs:List (Str×V)} {es:List DictEntry}:e.key= .str n t→R h ρ x e.val→Rf h ρ fs es→Rf h ρ ((n,x)::fs) (e::es)
noncomputable abbrev fm(es:List DictEntry)(n:Nat)(sl:Array (Option Value)):Obj:={cls:= .type "dict",data:= .dict es.toArray n,slots:=sl}
noncomputable def fe(h:Heap)(ρ:Pl):aa→Addr→Prop
 | .lst l,a=> ∃vs n,h.get? a=some (aB vs n)∧Rs h ρ l vs
 | .dct fs,a=> ∃es n sl,h.get? a=some (fm es n sl)∧Rf h ρ fs es
 | .ro l vs n,a=>h.get? a=some (aB vs n)∧Rs h ρ l vs
set_option genInjectivity false in
structure Cx where
 prog:Program
 w:World
 K:Frag
 n₀:Nat
 T:List Addr
 cs:List (Addr×Addr)
 mg:Str→Option Value
 mb:Str→Option Value
 base:Heap
 nm:List (Str×Value)
variable (c:Cx)
noncomputable def uB(a:Addr)(o o':Obj):Prop:=
 o'=o∨(c.n₀≤a∧(∃es ep,o.data= .dict es ep)∧ ∃sl,o'={o with slots:=sl})∨(a∈c.T∧o.cls= .none∧ ∃vs more,o.data= .fields vs∧o'={o with data:= .fields (vs++more)})
variable {c}
theorem uB.refl(a:Addr)(o:Obj):uB c a o o:= .inl rfl
theorem uB.trans{a:Addr}{o p q:Obj}(x:uB c a o p)(y:uB c a p q):uB c a o q:=by
 rcases x with rfl|⟨g,⟨es,ep,dd⟩,sl,rfl⟩|⟨g,cl,vs,more,d,rfl⟩
 ·exact y
 ·rcases y with rfl|⟨_,_,sl',rfl⟩|⟨_,cl',vs,_,d,_⟩
  ·exact .inr (.inl ⟨g,⟨es,ep,dd⟩,sl,rfl⟩)
  ·exact .inr (.inl ⟨g,⟨es,ep,dd⟩,sl',rfl⟩)
  ·have:o.data= .fields vs:=d;rw[dd]at this;cases this
 ·rcases y with rfl|⟨_,⟨es,ep,dd⟩,_,_⟩|⟨_,_,ws,more',d',rfl⟩
  ·exact .inr (.inr ⟨g,cl,vs,more,d,rfl⟩)
  ·cases dd
  ·have e:ws=vs++more:=by simpa using d'.symm
   subst e
   exact .inr (.inr ⟨g,cl,vs,more++more',d,by rw[Array.append_assoc]⟩)
noncomputable def hZ(o:Obj):Bool:=match o.data with
 | .dict .. =>false
 |_=>true
noncomputable def uK(o:Obj):Bool:=hZ o&&o.cls != .none
theorem uB.frz{a:Addr}{o o':Obj}(x:uB c a o o')(f:uK o=true):o'=o:=by
 simp only[Internal.uK,Gh,bne_iff_ne,ne_eq]at f
 rcases x with e|⟨_,⟨es,ep,d⟩,_⟩|⟨_,cl,_⟩
 ·exact e
 ·have:=f.1;unfold hZ at this;rw[d]at this;exact bM this
 ·exact absurd cl f.2
theorem uB.dict{a:Addr}{o o':Obj}{es:Array DictEntry}{ep:Nat}(x:uB c a o o')(f:o.data= .dict es ep):o'.data= .dict es ep:=by
 rcases x with rfl|⟨_,_,_,rfl⟩|⟨_,_,_,_,d,_⟩
 ·exact f
 ·exact f
 ·rw[f]at d;cases d
theorem uB.old{a:Addr}{o o':Obj}(x:uB c a o o')(f:a<c.n₀)(g:a∉c.T):o'=o:=by
 rcases x with e|⟨m,_⟩|⟨m,_⟩
 ·exact e
 ·exact absurd f (HZ.mpr m)
 ·exact absurd m g
variable (c)
noncomputable def eg(S:List Addr)(h h':Heap):Prop:= ∀a o,a∉S→h.get? a=some o→ ∃o',h'.get? a=some o'∧uB c a o o'
variable {c}
theorem eg.refl(S:List Addr)(h:Heap):eg c S h h:=fun a o u_ e=>⟨o,e,.refl a o⟩
theorem eg.trans{S:List Addr}{h h' h'':Heap}(x:eg c S h h')(y:eg c S h' h''):eg c S h h'':=fun a o n e=>by
 refine aK (x a o n e) fun o' e' c=> ?_;refine aK (y a o' n e') fun o'' e'' c'=> ?_;exact⟨o'',e'',c.trans c'⟩
theorem eg.trans'{S S':List Addr}{h h' h'':Heap}(x:eg c S h h')(y:eg c S' h' h'')(k: ∀a∈S',a∈S∨h.get? a=none):eg c S h h'':=fun a o n e=>by
 refine aK (x a o n e) fun o' e' c=> ?_
 obtain⟨o'',e'',c'⟩:=y a o' (fun m=>by
  rcases k a m with q|q
  ·exact n q
  ·rw[q]at e;exact no e) e'
 exact⟨o'',e'',c.trans c'⟩
theorem eg.mono{S T:List Addr}{h h':Heap}(x:eg c S h h')(k: ∀a∈S,a∈T):eg c T h h':=fun a o n e=>x a o (fun m=>n (k a m)) e
theorem eg.of_keeps{S:List Addr}{h h':Heap}(k: ∀b o,b∉S→h.get? b=some o→h'.get? b=some o):eg c S h h':=fun a o n e=>⟨o,k a o n e,.refl a o⟩
theorem eg.get{S:List Addr}{h h':Heap}(x:eg c S h h'){a:Addr}{o:Obj}(n:a∉S)(e:h.get? a=some o)(f:uK o=true):h'.get? a=some o:=by
 refine aK (x a o n e) fun o' e' c=> ?_;rw[c.frz f]at e';exact e'
theorem eg.ns{S:List Addr}{h h':Heap}(x:eg c S h h'){a:Addr}{m:Str→Option Value}(n:a∉S)(e:h.Ns a m):h'.Ns a m:=by
 refine iC e fun o es ep ho hd r=> ?_;refine aK (x a o n ho) fun o' ho' q=> ?_;exact⟨o',es,ep,ho',q.dict hd,r⟩
set_option genInjectivity false in
structure Pl.Le(h:Heap)(ρ KD:Pl):Prop where
 pre:ρ.r<+:KD.r
 free: ∀a o,ρ.free a→h.get? a=some o→KD.free a
theorem Pl.Le.refl(h:Heap)(ρ:Pl):ρ.Le h ρ:=⟨GU _,fun u_ u_ f u_=>f⟩
theorem Pl.Le.get{h:Heap}{ρ KD:Pl}(p:ρ.Le h KD){k:Nat}{a:Addr}(e:ρ.r[k]? =some a):KD.r[k]? =some a:=by
 refine oE p.pre fun t q=> ?_;rw[←q,Hc (GZ.mp e).1];exact e
noncomputable def Pl.Off(ρ:Pl)(S:List Addr):Prop:= ∀a∈S,¬ρ.free a
theorem Pl.Off.nil(ρ:Pl):ρ.Off []:=fun u_ m=>by simp at m
theorem Pl.Off.r(ρ:Pl):ρ.Off ρ.r:=fun u_ m f=>f.1 m
theorem Pl.Off.p{ρ:Pl}{S:List Addr}(h: ∀a∈S,a∈ρ.p):ρ.Off S:=fun a m f=>f.2 (h a m)
theorem Pl.Off.append{ρ:Pl}{S T:List Addr}(x:ρ.Off S)(y:ρ.Off T):ρ.Off (S++T):=fun a m=>(GN.mp m).elim (x a) (y a)
theorem R.both{h:Heap}{ρ:Pl}{P:V→Value→Prop}{Q:List V→List Value→Prop}(val: ∀{v},P (.val v) v)(int: ∀{i t},P (.int i) (.int i t))(str: ∀{i t},P (.str i) (.str i t))
 (tup: ∀{l a vs n},h.get? a=some (ao vs n)→ρ.free a→Rs h ρ l vs→Q l vs→P (.tup l) (.ref a)) (lst: ∀{k a},ρ.r[k]? =some a→P (.lst k) (.ref a))
 (inst: ∀{C a dx k},h.get? a=some (instObj C dx)→ρ.free a→ρ.r[k]? =some dx→P (.inst C k) (.ref a)) (rng: ∀{a b d r t u v},IsRange h r a b d t u v→ρ.free r→P (.rng a b d) (.ref r))
 (nil:Q [] []) (cons: ∀{x v l vs},R h ρ x v→P x v→Rs h ρ l vs→Q l vs→Q (x::l) (v::vs)):(∀{x v},R h ρ x v→P x v)∧(∀{l vs},Rs h ρ l vs→Q l vs):=
 ⟨fun r=>R.rec (motive_1:=fun x v u_=>P x v) (motive_2:=fun l vs u_=>Q l vs) val int str tup lst inst rng nil (fun a b c d=>cons a c b d) r,
  fun r=>Rs.rec (motive_1:=fun x v u_=>P x v) (motive_2:=fun l vs u_=>Q l vs) val int str tup lst inst rng nil (fun a b c d=>cons a c b d) r⟩
theorem Rs.ind{h:Heap}{ρ:Pl}{Q:List V→List Value→Prop}(nil:Q [] [])(cons: ∀{x v l vs},R h ρ x v→Rs h ρ l vs→Q l vs→Q (x::l) (v::vs)){l:List V}{vs:List Value}(r:Rs h ρ l vs):Q l vs:=
 (R.both (P:=fun u_ u_=>True) trivial trivial trivial (fun u_ u_ u_ u_=>trivial) (fun u_=>trivial) (fun u_ u_ u_=>trivial) (fun u_ u_=>trivial) nil fun a u_ b c=>cons a b c).2 r
theorem R.monoB{h h':Heap}{ρ KD:Pl}{S:List Addr}(nl:ρ.Off S)(x:eg c S h h')(p:ρ.Le h KD):(∀{V v},R h ρ V v→R h' KD V v)∧(∀{l vs},Rs h ρ l vs→Rs h' KD l vs):=
 R.both .val .int .str (fun e f u_ r=> .tup (x.get (fun m=>nl _ m f) e rfl) (p.free _ _ f e) r) (fun e=> .lst (p.get e)) (fun e f d=> .inst (x.get (fun m=>nl _ m f) e rfl) (p.free _ _ f e) (p.get d))
  (fun e f=> .rng (x.get (fun m=>nl _ m f) e rfl) (p.free _ _ f e)) .nil fun u_ r u_ rs=> .cons r rs
theorem R.mono{h h':Heap}{ρ KD:Pl}{S:List Addr}(nl:ρ.Off S)(x:eg c S h h')(p:ρ.Le h KD){V:V}{v:Value}:R h ρ V v→R h' KD V v:=(R.monoB nl x p).1
theorem Rs.mono{h h':Heap}{ρ KD:Pl}{S:List Addr}(nl:ρ.Off S)(x:eg c S h h')(p:ρ.Le h KD){l:List V}{vs:List Value}:Rs h ρ l vs→Rs h' KD l vs:=(R.monoB nl x p).2
theorem Rf.mono{h h':Heap}{ρ KD:Pl}{S:List Addr}(nl:ρ.Off S)(x:eg c S h h')(p:ρ.Le h KD){l:List (Str×V)}{es:List DictEntry}(r:Rf h ρ l es):Rf h' KD l es:=
 Rf.rec (motive:=fun l es u_=>Rf h' KD l es) .nil (fun e r u_ ih=> .cons e (R.mono nl x p r) ih) r
theorem Rs.length{h:Heap}{ρ:Pl}{l:List V}{vs:List Value}(r:Rs h ρ l vs):l.length=vs.length:=Rs.ind (Q:=fun l vs=>l.length=vs.length) rfl (fun u_ u_ ih=>congrArg (· +1) ih) r
theorem Rs.sz{h:Heap}{ρ:Pl}{l:List V}{vs:List Value}(r:Rs h ρ l vs)(hz:l.length≤2^20):vs.toArray.size≤sizeLine:=show vs.length≤sizeLine from HV (Iw r.length.symm) (HV hz (by decide))
theorem Rs.sz63{h:Heap}{ρ:Pl}{l:List V}{vs:List Value}(r:Rs h ρ l vs)(hz:l.length≤2^20):(vs.toArray.size:Int)<2^63:=GE (GA.mpr (r.sz hz)) (by decide)
theorem Rs.get{h:Heap}{ρ:Pl}{l:List V}{vs:List Value}{k:Nat}{x:V}(r:Rs h ρ l vs):l[k]? =some x→ ∃v,vs[k]? =some v∧R h ρ x v:=
 Rs.ind (Q:=fun l vs=> ∀k x,l[k]? =some x→ ∃v,vs[k]? =some v∧R h ρ x v) (fun u_ u_ e=>no e) (fun r u_ ih k x e=>by
  cases k with
  |zero=>exact⟨_,rfl,IF e▸r⟩
  |succ k=>exact ih k x e) r k x
theorem Rs.append{h:Heap}{ρ:Pl}{l l':List V}{vs vs':List Value}(r:Rs h ρ l vs)(q:Rs h ρ l' vs'):Rs h ρ (l++l') (vs++vs'):=Rs.ind (Q:=fun l vs=>Rs h ρ (l++l') (vs++vs')) q (fun r u_ ih=> .cons r ih) r
theorem Rs.reverse{h:Heap}{ρ:Pl}{l:List V}{vs:List Value}(r:Rs h ρ l vs):Rs h ρ l.reverse vs.reverse:=
 Rs.ind (Q:=fun l vs=>Rs h ρ l.reverse vs.reverse) .nil (fun r u_ ih=>by rw[Hk,Hk];exact ih.append (.cons r .nil)) r
theorem Rs.drop{h:Heap}{ρ:Pl}{l:List V}{vs:List Value}(k:Nat)(r:Rs h ρ l vs):Rs h ρ (l.drop k) (vs.drop k):=
 Rs.ind (Q:=fun l vs=> ∀k,Rs h ρ (l.drop k) (vs.drop k)) (fun k=>by cases k<;>exact .nil) (fun r rs ih k=>by
  cases k with
  |zero=>exact .cons r rs
  |succ k=>exact ih k) r k
theorem Rs.take{h:Heap}{ρ:Pl}{l:List V}{vs:List Value}(k:Nat)(r:Rs h ρ l vs):Rs h ρ (l.take k) (vs.take k):=
 Rs.ind (Q:=fun l vs=> ∀k,Rs h ρ (l.take k) (vs.take k)) (fun k=>by cases k<;>exact .nil) (fun r rs ih k=>by
  cases k with
  |zero=>exact .nil
  |succ k=>exact .cons r (ih k)) r k
variable (c)in
structure aQ(ρ:Pl)(σ:Sg)(h:Heap):Prop where
 nodup:ρ.r.Nodup
 len:ρ.r.length=σ.length
 at_: ∀(k:Nat) (a:Addr) (l:aa),ρ.r[k]? =some a→σ[k]? =some l→fe h ρ l a
 low: ∀a∈ρ.r,c.n₀≤a
 plow: ∀a∈ρ.p,c.n₀≤a∧a<h.objs.size
 disj: ∀a∈ρ.p,a∉ρ.r
theorem aQ.cls{ρ:Pl}{σ:Sg}{h:Heap}(s:aQ c ρ σ h){a:Addr}(m:a∈ρ.r): ∃o,h.get? a=some o∧(o.cls= .type "list"∨o.cls= .type "dict"):=by
 obtain⟨k,hk,e⟩:=List.mem_iff_getElem.mp m;have hk':k<σ.length:=s.len▸hk
 have:=s.at_ k a σ[k] (by rw[G1 hk,e]) (G1 hk')
 cases q:σ[k]with
 |lst l=>rw[q]at this;refine bf this fun vs n e' u_=> ?_;exact⟨_,e',.inl rfl⟩
 |dct l=>rw[q]at this;refine l_ this fun vs n sl e' u_=> ?_;exact⟨_,e',.inr rfl⟩
 |ro l vs n=>rw[q]at this;exact⟨_,this.1,.inl rfl⟩
theorem aQ.rd{ρ:Pl}{σ:Sg}{h:Heap}(s:aQ c ρ σ h){k:Nat}{a:Addr}{l:List V}(h1:ρ.r[k]? =some a)(e:oY σ k=some l): ∃vs n,h.get? a=some (aB vs n)∧Rs h ρ l vs:=ae e fun x hx w=>by
 have:=s.at_ _ _ _ h1 hx
 cases x with
 |lst l'=>obtain rfl:=IF w;exact this
 |dct=>exact no w
 |ro l' vs n=>obtain rfl:=IF w;exact⟨vs,n,this⟩
theorem aQ.notin{ρ:Pl}{σ:Sg}{h:Heap}(s:aQ c ρ σ h){a:Addr}{o:Obj}(e:h.get? a=some o)(c1:o.cls≠ .type "list")(c2:o.cls≠ .type "dict"):a∉ρ.r:=fun m=>by
 refine aK (s.cls m) fun o' e' q=> ?_;rw[e]at e';obtain rfl:=IF e';exact q.elim c1 c2
theorem aQ.lt{ρ:Pl}{σ:Sg}{h:Heap}(s:aQ c ρ σ h){a:Addr}(f: ¬ρ.free a):a<h.objs.size:=by
 by_cases m:a∈ρ.r
 ·refine aK (s.cls m) fun o e u_=> ?_;exact J_ e
 ·by_cases q:a∈ρ.p
  ·exact(s.plow a q).2
  ·exact absurd ⟨m,q⟩ f
theorem aQ.new{ρ:Pl}{σ:Sg}{h:Heap}(s:aQ c ρ σ h){a:Addr}(l:h.objs.size≤a):ρ.free a:=by
 have: ¬ ¬ρ.free a:=fun f=>absurd (s.lt f) (HZ.mpr l);exact Classical.not_not.mp this
theorem pf{h:Heap}{a:Addr}(l:h.objs.size≤a):h.get? a=none:=by
 cases q:h.get? a with
 |none=>rfl
 |some o=>exact absurd (J_ q) (HZ.mpr l)
theorem fe.mono{h h':Heap}{ρ KD:Pl}{S:List Addr}(nl:ρ.Off S)(x:eg c S h h')(p:ρ.Le h KD): ∀{l:aa} {a:Addr},a∉S→fe h ρ l a→fe h' KD l a:=fun {l a} n q=>by
 cases l with
 |lst l=>exact bf q fun vs k e r=>⟨vs,k,x.get n e rfl,r.mono nl x p⟩
 |dct l=>
  refine l_ q fun vs k sl e r=> ?_;refine aK (x a _ n e) fun o' e' q=> ?_
  rcases q with rfl|⟨_,_,sl',rfl⟩|⟨_,_,_,_,d,_⟩
  ·exact⟨vs,k,sl,e',r.mono nl x p⟩
  ·exact⟨vs,k,sl',e',r.mono nl x p⟩
  ·cases d
 |ro l vs m=>exact⟨x.get n q.1 rfl,q.2.mono nl x p⟩
theorem aQ.mono{h h':Heap}{ρ:Pl}{S P:List Addr}{σ:Sg}(s:aQ c ρ σ h)(nl:ρ.Off S)(x:eg c S h h')(d: ∀a∈ρ.r,a∉S)(hz:h.objs.size≤h'.objs.size)
 (hp: ∀a∈P,a∈ρ.p∨(h.objs.size≤a∧a<h'.objs.size)) (g:c.n₀≤h.objs.size):aQ c ⟨ρ.r,P⟩ σ h' where
 nodup:=s.nodup
 len:=s.len
 at_:=fun k a l h1 h2=>(s.at_ k a l h1 h2).mono (KD:=⟨ρ.r,P⟩) nl x ⟨GU _,fun b o f e=>⟨f.1,fun m=>(hp b m).elim f.2 fun q=>absurd (J_ e) (HZ.mpr q.1)⟩⟩ (d a (Hn h1))
 low:=s.low
 plow:=fun a m=>(hp a m).elim (fun q=>⟨(s.plow a q).1,H8 (s.plow a q).2 hz⟩) fun q=>⟨HV g q.1,q.2⟩
 disj:=fun a m n=>(hp a m).elim (fun q=>s.disj a q n) fun q=>absurd (s.lt (fun f=>f.1 n)) (HZ.mpr q.1)
theorem eT{α β:Type}{x:Option α}{f:α→Option β}{b:β}{P:Prop}(e:x.bind f=some b)(h: ∀a,f a=some b→P):P:=ae e fun a u_ w=>h a w
theorem Au{α β:Type}{o:Option α}{a:Option β}{f:α→Option β}{b:β}{P:Prop}(e:o.elim a f=some b)(n:o=none→a=some b→P)(k: ∀x,f x=some b→P):P:=iA e n fun x u_ w=>k x w
noncomputable def sr(x:Value):Option String:=if h:x.ctorIdx=8 then some (@Value.type.elim (fun u_=>String) x h fun a=>a)else none
theorem xG{x:Value}{i:String}(e:sr x=some i):x= .type i:=pJ e fun h u_=> @Value.type.elim (fun x=>sr x=some i→x= .type i) x h (fun u_ e=>congrArg _ (IF e)) e
noncomputable def io(e:Expr):Option {p:Str×Pos//e= .Name p.1 p.2}:=if h:e.ctorIdx=23 then @Expr.Name.elim (fun e=>Option {p:Str×Pos//e= .Name p.1 p.2}) e h fun x p=>some ⟨(x,p),rfl⟩else none
noncomputable def j9(e:Expr):Option {p:List Expr×Nat×Pos//e= .Tuple p.1 p.2.1 p.2.2}:=if h:e.ctorIdx=25 then @Expr.Tuple.elim (fun e=>Option {p:List Expr×Nat×Pos//e= .Tuple p.1 p.2.1 p.2.2}) e h fun l k p=>some ⟨(l,k,p),rfl⟩else none
noncomputable def wn(e:Expr):Option {p:Expr×Str×Pos//e= .Attribute p.1 p.2.1 p.2.2}:=if h:e.ctorIdx=20 then @Expr.Attribute.elim (fun e=>Option {p:Expr×Str×Pos//e= .Attribute p.1 p.2.1 p.2.2}) e h fun x n p=>some ⟨(x,n,p),rfl⟩else none
noncomputable def wm(e:Expr):Option {p:Expr×List Expr×List Keyword×Pos//e= .Call p.1 p.2.1 p.2.2.1 p.2.2.2}:=if h:e.ctorIdx=16 then @Expr.Call.elim (fun e=>Option {p:Expr×List Expr×List Keyword×Pos//e= .Call p.1 p.2.1 p.2.2.1 p.2.2.2}) e h fun f a k p=>some ⟨(f,a,k,p),rfl⟩else none
noncomputable def F0(e:Expr):Option {p:Expr×Expr×Pos//e= .Subscript p.1 p.2.1 p.2.2}:=if h:e.ctorIdx=21 then @Expr.Subscript.elim (fun e=>Option {p:Expr×Expr×Pos//e= .Subscript p.1 p.2.1 p.2.2}) e h fun x i p=>some ⟨(x,i,p),rfl⟩else none
noncomputable def FT(e:Expr):Option {p:Expr×List Comprehension×Scope×Pos//e= .GeneratorExp p.1 p.2.1 p.2.2.1 p.2.2.2}:=if h:e.ctorIdx=11 then @Expr.GeneratorExp.elim (fun e=>Option {p:Expr×List Comprehension×Scope×Pos//e= .GeneratorExp p.1 p.2.1 p.2.2.1 p.2.2.2}) e h fun x g s p=>some ⟨(x,g,s,p),rfl⟩else none
noncomputable def lcO(e:Expr):Option {p:Expr×List Comprehension×Scope×Pos//e= .ListComp p.1 p.2.1 p.2.2.1 p.2.2.2}:=if h:e.ctorIdx=8 then @Expr.ListComp.elim (fun e=>Option {p:Expr×List Comprehension×Scope×Pos//e= .ListComp p.1 p.2.1 p.2.2.1 p.2.2.2}) e h fun x g s p=>some ⟨(x,g,s,p),rfl⟩else none
noncomputable def FA(e:Expr):Option {p:Option Expr×Option Expr×Option Expr×Pos//e= .Slice p.1 p.2.1 p.2.2.1 p.2.2.2}:=if h:e.ctorIdx=26 then @Expr.Slice.elim (fun e=>Option {p:Option Expr×Option Expr×Option Expr×Pos//e= .Slice p.1 p.2.1 p.2.2.1 p.2.2.2}) e h fun l u s p=>some ⟨(l,u,s,p),rfl⟩else none
noncomputable def Bo(e:Expr):Option {p:Const×Nat×Pos//e= .Constant p.1 p.2.1 p.2.2}:=if h:e.ctorIdx=19 then @Expr.Constant.elim (fun e=>Option {p:Const×Nat×Pos//e= .Constant p.1 p.2.1 p.2.2}) e h fun k n p=>some ⟨(k,n,p),rfl⟩else none
noncomputable def FN(e:Stmt):Option {p:Option Expr×Pos//e= .Return p.1 p.2}:=if h:e.ctorIdx=3 then @Stmt.Return.elim (fun e=>Option {p:Option Expr×Pos//e= .Return p.1 p.2}) e h fun x p=>some ⟨(x,p),rfl⟩else none
theorem cp0{g:Comprehension}(h:g.is_async=0):g=⟨g.target,g.iter,g.ifs,0⟩:=by
 cases g;subst h;rfl
noncomputable def tv{α:Type}(l:List α):Option {x:α//l=[x]}:=match l with
 |[x]=>some ⟨x,rfl⟩
 |_=>none
noncomputable def Aj(d:Data):Option {p:FuncData//d= .func p}:=if h:d.ctorIdx=7 then @Data.func.elim (fun d=>Option {p:FuncData//d= .func p}) d h fun x=>some ⟨x,rfl⟩else none
noncomputable def FQ(d:Data):Option {p:ClassData//d= .cls p}:=if h:d.ctorIdx=8 then @Data.cls.elim (fun d=>Option {p:ClassData//d= .cls p}) d h fun x=>some ⟨x,rfl⟩else none
noncomputable def yR(d:Data):Option {p:Array Value//d= .fields p}:=if h:d.ctorIdx=9 then @Data.fields.elim (fun d=>Option {p:Array Value//d= .fields p}) d h fun x=>some ⟨x,rfl⟩else none
noncomputable def FD(d:Data):Option {p:Array Value×Nat//d= .seq p.1 p.2}:=if h:d.ctorIdx=2 then @Data.seq.elim (fun d=>Option {p:Array Value×Nat//d= .seq p.1 p.2}) d h fun x n=>some ⟨(x,n),rfl⟩else none
noncomputable def Fu(v:Value):Option {p:Str×Tok//v= .str p.1 p.2}:=if h:v.ctorIdx=6 then @Value.str.elim (fun v=>Option {p:Str×Tok//v= .str p.1 p.2}) v h fun x t=>some ⟨(x,t),rfl⟩else none
noncomputable def xg:FuncBody→Option (List Stmt)
 | .stmts b=>some b
 | .expr _=>none
theorem yE{b:FuncBody}{l:List Stmt}(h:xg b=some l):b= .stmts l:=by
 cases b with
 |stmts=>exact congrArg _ (IF h)
 |expr=>exact no h
theorem jK{α:Type}{x:Option α}{f:α→Bool}{P:Prop}(e:x.any f=true)(h: ∀a,x=some a→f a=true→P):P:=by
 cases x with
 |none=>exact bM e
 |some a=>exact h a rfl e
end
variable {c:Cx}{A:Around}{ρ:Pl}{σ:Sg}{s:Shared}{M:Model}{KL:Sort _}{fn:Str}{outer:List Env}{value func ob:Expr}{newId:String}{KO:Sort _}{Γ:Ctx}{α:Type}{h:Heap}{mn:Str}{cells:List (Str×Addr)}{β:Type}{la:Addr}{op:Operator}{KU:Sort _}{target:Expr}{names:List (Str×NameKind)}{C:Addr}{name:Str}{slice elt:Expr}{S:List Addr}{N:List Str}{test:Expr}{Lf:Pl}{args:List Expr}{ga:Addr}{lo:Option Int}{sl:List (Str×V)}{KD:Pl}{K5:Sort _}{KW:Pl}{fs:List (Str×V)}{items:Array Value}{iter:Expr}{T:String}{K:Frag}{L:Nat}{x:V}{o1:Obj}{body:List Stmt}{bs:List Bool}{a' a:Addr}{ss:List Int}{hi:Option Int}{ops:List CmpOp}{K6 D':List Addr}{h':Heap}{j:Nat}{st:Stmt}{La:Sort _}{xp:Pos}{v1:Value}{xn:Str}{n:Nat}{O:V}{fd:FuncData}{xs:List V}{k:Nat}{e:Expr}{ifs:List Expr}{fv:Value}{e':Expr}{scope:Scope}{first:List V}{orelse:List Stmt}{l:List V}{kws:List Keyword}{Ly:Sort _}{I:List Addr}{KN:Shared}{v2:Value}{pos:Pos}{ext:Sg}{acc:List V}{p1:Prop}{z:Int}{u:Tok}{i:Nat}{kv:List (Str×Value)}{keywords:List (Option Str×Sem Value)}{f0:Value}{m:List V}{es:List Expr}{KB:Sg}{l':List V}{y:V}{G:Prop}{o2:Obj}{v3:Value}{b:Bool}{Ll:Sg}{vs:List Value}{w v:Value}{Lb:Sg}{p2:Prop}{s':Shared}{ys:List V}{KV:Sg}{Q:Value→Shared→Prop}{P:Prop}{kw:List (Str×Value)}{ws:List Value}{rn:Str}{KC:Sg}{binds:List (Str×V)}{KG KZ:Sg}{B:V}{s'' KF KI:Shared}{A':Around}{E:Value→Shared→Prop}{gs:GenState}{h'':Heap}
section
theorem eg.cell(x:eg c S h h'){v:Option Value}(n:a∉S)(e:h.IsCell a v):h'.IsCell a v:=by
 refine aK e fun o ho hd=> ?_;refine aK (x a o n ho) fun o' ho' q=> ?_;refine⟨o',ho',?_⟩
 rcases q with rfl|⟨_,_,_,rfl⟩|⟨_,_,_,_,d,_⟩
 ·exact hd
 ·exact hd
 ·rw[hd]at d;cases d
theorem aQ.cell(s:aQ c ρ σ h){v:Option Value}(e:h.IsCell a v):a∉ρ.r:=fun q=>by
 obtain⟨k,hk,e'⟩:=List.mem_iff_getElem.mp q;have hk':k<σ.length:=s.len▸hk;refine aK e fun o ho hd=> ?_
 have:=s.at_ k a σ[k] (by rw[G1 hk,e']) (G1 hk')
 cases q:σ[k]with
 |lst l=>rw[q]at this;refine bf this fun vs n e' u_=> ?_;rw[ho]at e';obtain rfl:=IF e';cases hd
 |dct l=>rw[q]at this;refine l_ this fun vs n sl e' u_=> ?_;rw[ho]at e';obtain rfl:=IF e';cases hd
 |ro l vs n=>rw[q]at this;have e':=this.1;rw[ho]at e';obtain rfl:=IF e';cases hd
noncomputable def gZ(h:Heap)(p:Addr×Addr):Prop:= ∃ps,h.IsCode p.1 p.2 ps∧ ∀o,h.get? p.2=some o→o.cls= .none
theorem gZ.keep{p:Addr×Addr}(x:gZ h p)(k1: ∀o,h.get? p.1=some o→h'.get? p.1=some o)(k2: ∀o,h.get? p.2=some o→h'.get? p.2=some o):gZ h' p:=by
 obtain⟨ps,⟨o,vs,file,tf,flags,tg,inF,text,tt,op,a,r1,r2,r3,r4,r5,r6,b,r⟩,q⟩:=x;refine⟨ps,⟨o,vs,file,tf,flags,tg,inF,text,tt,op,k1 _ a,r1,r2,r3,r4,r5,r6,k2 _ b,r⟩,fun o' e=> ?_⟩;rw[k2 _ b]at e;obtain rfl:=IF e;exact q _ b
set_option genInjectivity false in
structure Cx.Ok(c:Cx):Prop where
 kold: ∀a o,c.K.lookup a=some o→a<c.n₀∧a∉c.T
 bold: ∀a o,c.base.get? a=some o→a<c.n₀∧a∉c.T
 tcs: ∀p∈c.cs,p.2∈c.T
 told: ∀a∈c.T,a<c.n₀
 cold: ∀p∈c.cs,p.1<c.n₀∧p.1∉c.T
 names: ∀(x:Str) (v:Value),c.nm.lookup x=some v→c.mg x=some v∨(c.mg x=none∧c.mb x=some v)
 low:cStatics<c.n₀∧mainGlobals<c.n₀∧builtinsNs<c.n₀
 bmod: ∃bm o,c.mg "__builtins__"=some (.ref bm)∧bm≠builtinsNs∧c.base.get? bm=some o∧o.cls= .type "module"∧o.dict=some builtinsNs∧o.data= .plain
variable (c)in
structure Gd(h:Heap):Prop where
 kin:c.K.In h
 lim:h.NoLimit
 gl:h.Ns mainGlobals c.mg
 bl:h.Ns builtinsNs c.mb
 stays:c.base.StaysIn h
 codes: ∀p∈c.cs,gZ h p
 size:c.n₀≤h.objs.size
theorem Gd.step(ok:c.Ok)(g:Gd c h)(lo: ∀a∈S,c.n₀≤a)(x:eg c S h h')(codes: ∀p∈c.cs,gZ h' p)(hz:h.objs.size≤h'.objs.size):Gd c h':=by
 have no: ∀{a},a<c.n₀→a∉S:=fun l m=>absurd l (HZ.mpr (lo _ m));refine⟨fun a o e=> ?_,?_,x.ns (no ok.low.2.1) g.gl,x.ns (no ok.low.2.2) g.bl,fun a o e=> ?_,codes,HV g.size hz⟩
 ·refine oA (ok.kold a o e) fun o1 o2=> ?_;refine aK (x a o (no o1) (g.kin a o e)) fun o' e' q=> ?_;rw[q.old o1 o2]at e';exact e'
 ·refine aK g.lim fun mc a b=> ?_;exact⟨mc,x.ns (no ok.low.1) a,b⟩
 ·refine oA (ok.bold a o e) fun o1 o2=> ?_;refine aK (x a o (no o1) (g.stays a o e)) fun o' e' q=> ?_;rw[q.old o1 o2]at e';exact e'
structure nU(s s':Shared):Prop where
 drawn:s'.drawn=s.drawn
 os:s'.os=s.os
 gsize:s.gens.size≤s'.gens.size
 gold: ∀i,i<s.gens.size→s'.gens[i]? =s.gens[i]?
 bare:(∀x∈s.gens,x.bare=true)→ ∀x∈s'.gens,x.bare=true
 hsize:s.heap.objs.size≤s'.heap.objs.size
theorem nU.refl(s:Shared):nU s s:=⟨rfl,rfl,HW _,fun u_ u_=>rfl,id,HW _⟩
theorem nU.trans(x:nU s s')(y:nU s' s''):nU s s'':=
 ⟨y.drawn.trans x.drawn,y.os.trans x.os,HV x.gsize y.gsize,fun i h=>(y.gold i (H8 h x.gsize)).trans (x.gold i h),fun h=>y.bare (x.bare h),HV x.hsize y.hsize⟩
theorem nU.heap{t:Nat}(hz:s.heap.objs.size≤h.objs.size):nU s {s with heap:=h,toks:=t}:=⟨rfl,rfl,HW _,fun u_ u_=>rfl,id,hz⟩
variable (c)in
structure ad(D:List Addr)(ρ:Pl)(s:Shared)(KD:Pl)(KB:Sg)(s':Shared):Prop where
 pre:ρ.r<+:KD.r
 new: ∀a∈KD.r,a∈ρ.r∨s.heap.objs.size≤a
 pnew: ∀a∈KD.p,a∈ρ.p∨s.heap.objs.size≤a
 pold: ∀a∈ρ.p,a∈KD.p
 sto:aQ c KD KB s'.heap
 ext:eg c (D++ρ.r) s.heap s'.heap
 rest:nU s s'
 gd:Gd c s'.heap
variable (c)in
noncomputable abbrev af(ρ:Pl)(s:Shared)(KD:Pl)(KB:Sg)(s':Shared):Prop:=ad c [] ρ s KD KB s'
theorem ad.refl{D:List Addr}(t:aQ c ρ σ s.heap)(g:Gd c s.heap):ad c D ρ s ρ σ s:=⟨GU _,fun u_ h=> .inl h,fun u_ h=> .inl h,fun u_ h=>h,t,.refl _ _,.refl _,g⟩
theorem af.refl(t:aQ c ρ σ s.heap)(g:Gd c s.heap):af c ρ s ρ σ s:=ad.refl t g
theorem ad.le{D:List Addr}(x:ad c D ρ s KD KB s'):ρ.Le s.heap KD:=
 ⟨x.pre,fun a o f e=>⟨fun m=>(x.new a m).elim f.1 fun q=>absurd (J_ e) (HZ.mpr q),fun m=>(x.pnew a m).elim f.2 fun q=>absurd (J_ e) (HZ.mpr q)⟩⟩
theorem ad.trans'{D:List Addr}(x:ad c D ρ s KD KB s')(y:ad c D' KD s' Lf Ll s'')
 (k: ∀a∈D',a∈D∨s.heap.objs.size≤a):ad c D ρ s Lf Ll s'':=by
 refine⟨x.pre.trans y.pre,fun a m=> ?_,fun a m=> ?_,fun a m=>y.pold a (x.pold a m),y.sto,x.ext.trans' y.ext fun a m=> ?_,x.rest.trans y.rest,y.gd⟩
 ·exact(y.new a m).elim (x.new a) fun q=> .inr (HV x.rest.hsize q)
 ·exact(y.pnew a m).elim (x.pnew a) fun q=> .inr (HV x.rest.hsize q)
 ·rcases GN.mp m with q|q
  ·exact(k a q).imp (fun z=>GN.mpr (.inl z)) pf
  ·exact(x.new a q).imp (fun z=>GN.mpr (.inr z)) pf
theorem af.trans(x:af c ρ s KD KB s')(y:af c KD s' Lf Ll s''):af c ρ s Lf Ll s'':=
 ad.trans' x y (fun u_ m=>by simp at m)
theorem ad.trans{D:List Addr}(x:ad c D ρ s KD KB s')(y:ad c D KD s' Lf Ll s''):ad c D ρ s Lf Ll s'':=
 ad.trans' x y (fun u_ m=> .inl m)
theorem af.D{D:List Addr}(x:af c ρ s KD KB s'):ad c D ρ s KD KB s':={x with ext:=x.ext.mono fun a m=>GN.mpr (.inr m)}
theorem ad.off{D:List Addr}(d: ∀a∈D,a∈ρ.p):ρ.Off (D++ρ.r):=(Pl.Off.p d).append (Pl.Off.r ρ)
theorem ad.R{D:List Addr}(d: ∀a∈D,a∈ρ.p)(x:ad c D ρ s KD KB s')(r:R s.heap ρ y v):Internal.R s'.heap KD y v:=r.mono (ad.off d) x.ext x.le
theorem ad.Rs{D:List Addr}(d: ∀a∈D,a∈ρ.p)(x:ad c D ρ s KD KB s'){y:List V}{v:List Value}(r:Rs s.heap ρ y v):Internal.Rs s'.heap KD y v:=r.mono (ad.off d) x.ext x.le
theorem af.R(x:af c ρ s KD KB s')(r:R s.heap ρ y v):Internal.R s'.heap KD y v:=ad.R (by exact G7 _) x r
theorem af.Rs(x:af c ρ s KD KB s'){y:List V}{v:List Value}(r:Rs s.heap ρ y v):Internal.Rs s'.heap KD y v:=ad.Rs (by exact G7 _) x r
set_option genInjectivity false in
structure En where
 names:List (Str×NameKind)
 own:List (Str×V)
 fre:List (Str×V)
 code:Option Addr
inductive kl(h:Heap)(ρ:Pl):Option V→Option Value→Prop
 |no {w:Option Value}:kl h ρ none w
 |so {x:V} {v:Value}:R h ρ x v→kl h ρ (some x) (some v)
theorem kl.mono(nl:ρ.Off S)(x:eg c S h h')(p:ρ.Le h KD){a:Option V}{b:Option Value}(o:kl h ρ a b):kl h' KD a b:=by
 cases o with
 |no=>exact .no
 |so r=>exact .so (r.mono nl x p)
structure a_(h:Heap)(ρ:Pl)(env:Env)(en:En):Prop where
 kind:env.scope.kind= .function
 names:env.scope.names=en.names
 gl:env.globals=mainGlobals
 bi:env.builtins=builtinsNs
 lo: ∃m,h.Ns env.locals m∧ ∀x,en.names.lookup x=some .local→kl h ρ (en.own.lookup x) (m x)
 ce: ∀x,en.names.lookup x=some .cell→ ∃a w,env.cells.lookup x=some a∧h.IsCell a w∧a∈ρ.p∧kl h ρ (en.own.lookup x) w
 fr: ∀x,en.names.lookup x=some .free→ ∃a w,env.cells.lookup x=some a∧h.IsCell a w∧kl h ρ (en.fre.lookup x) w
 out:env.locals∈ρ.p
 ap: ∀y z a,env.cells.lookup y=some a→env.cells.lookup z=some a→y=z
 cd: ∀cc,en.code=some cc→env.code= .ref cc
theorem a_.monoX{D:List Addr}{env:Env}{en:En}(t:aQ c ρ σ s.heap)(d: ∀a∈D,a∈ρ.p)(x:ad c D ρ s KD KB s')(e:a_ s.heap ρ env en)
 (dl:env.locals∉D) (dc: ∀y a w,env.cells.lookup y=some a→s.heap.IsCell a w→a∉D):a_ s'.heap KD env en where
 kind:=e.kind
 names:=e.names
 gl:=e.gl
 bi:=e.bi
 lo:=aK e.lo fun m n k=>⟨m,x.ext.ns (fun z=>(GN.mp z).elim dl (t.disj _ e.out)) n,fun y hy=>(k y hy).mono (ad.off d) x.ext x.le⟩
 ce:=fun y hy=>bS (e.ce y hy) fun a w h1 h2 h4 h3=>⟨a,w,h1,x.ext.cell (fun z=>(GN.mp z).elim (dc _ _ _ h1 h2) (t.cell h2)) h2,x.pold _ h4,h3.mono (ad.off d) x.ext x.le⟩
 fr:=fun y hy=>dC (e.fr y hy) fun a w h1 h2 h3=>⟨a,w,h1,x.ext.cell (fun z=>(GN.mp z).elim (dc _ _ _ h1 h2) (t.cell h2)) h2,h3.mono (ad.off d) x.ext x.le⟩
 out:=x.pold _ e.out
 ap:=e.ap
 cd:=e.cd
theorem a_.monoD{D:List Addr}{env:Env}{en:En}(t:aQ c ρ σ s.heap)(d: ∀a∈D,a∈ρ.p)(x:ad c D ρ s KD KB s')(e:a_ s.heap ρ env en)
 (dl:env.locals∉D) (dc: ∀y a,env.cells.lookup y=some a→a∉D):a_ s'.heap KD env en:=a_.monoX t d x e dl fun y a u_ h u_=>dc y a h
theorem af.env{env:Env}{en:En}(t:aQ c ρ σ s.heap)(x:af c ρ s KD KB s')(e:a_ s.heap ρ env en):a_ s'.heap KD env en:=
 a_.monoD t (by exact G7 _) x e (by exact He) (fun u_ u_ u_=>by exact He)
variable (c)in
noncomputable def FF(ρ:Pl)(h:Heap)(l:List Env):Prop:= ∀env∈l,env.scope.kind≠ .module∧ ∃L o,env.frame=some L∧L∈ρ.p∧c.n₀≤L∧h.get? L=some o∧ ∃es ep,o.data= .dict es ep
theorem FF.fun_(ok:c.Ok){l:List Env}:FF c ρ h l→h.FunFrames c.base l:=by
 induction l with
 |nil=>exact fun u_=>trivial
 |cons env r ih=>
  intro f;obtain⟨hk,L,o,hf,_,hn,ho,es,ep,hd⟩:=f env (.head _)
  refine⟨hk,⟨L,o,hf,?_,ho,fun vs q=>by rw[hd]at q;cases q⟩,ih fun e m=>f e (.tail _ m)⟩
  cases q:c.base.get? L with
  |none=>rfl
  |some o'=>exact absurd (ok.bold _ _ q).1 (HZ.mpr hn)
noncomputable def cq(D:List Addr)(h h':Heap):Prop:= ∀a∈D,∀o,h.get? a=some o→(∃es ep,o.data= .dict es ep)→ ∃o',h'.get? a=some o'∧ ∃es ep,o'.data= .dict es ep
theorem FF.mono{D:List Addr}{l:List Env}(t:aQ c ρ σ s.heap)(x:ad c D ρ s KD KB s')(fo:cq D s.heap s'.heap)(f:FF c ρ s.heap l):FF c KD s'.heap l:=fun env m=>by
 refine lh (f env m) fun hk L o hf hp hn ho hd=> ?_
 by_cases hL:L∈D
 ·refine aK (fo L hL o ho hd) fun o' h1 h2=> ?_;exact⟨hk,L,o',hf,x.pold _ hp,hn,h1,h2⟩
 refine aK (x.ext L o (fun z=>(GN.mp z).elim hL (t.disj _ hp)) ho) fun o' ho' q=> ?_;refine⟨hk,L,o',hf,x.pold _ hp,hn,ho',?_⟩;refine qK hd fun es ep hd=> ?_;exact⟨es,ep,q.dict hd⟩
variable (c)in
structure eo(ρ:Pl)(A:Around)(d:Nat)(h:Heap):Prop where
 hand:A.handled=none
 depth:A.depth+d<recursionLimit
 units:A.units+8*d+220<cLine
 frames: ∃l,A.frames=some l∧FF c ρ h l
theorem eo.monoD{d:Nat}{D:List Addr}(t:aQ c ρ σ s.heap)(x:ad c D ρ s KD KB s')(fo:cq D s.heap s'.heap)(r:eo c ρ A d s.heap):eo c KD A d s'.heap where
 hand:=r.hand
 depth:=r.depth
 units:=r.units
 frames:=aK r.frames fun l e f=>⟨l,e,f.mono t x fo⟩
theorem af.room{d:Nat}(t:aQ c ρ σ s.heap)(x:af c ρ s KD KB s')(r:eo c ρ A d s.heap):eo c KD A d s'.heap:=r.monoD t x (fun u_ m=>by simp at m)
end
variable {en en' KS:En}
section
inductive aG(α:Type) where
 |ok (a:α) (σ:Sg)
 |exc (cls:String) (σ:Sg)
theorem iQ{a:α}{s t:Sg}{x:String}(e:aG.ok a s=aG.exc x t):P:=nomatch e
theorem EH{a:α}{s t:Sg}{x:String}(e:aG.exc x t=aG.ok a s):P:=nomatch e
theorem jP{a b:α}{s t:Sg}(e:aG.ok a s=aG.ok b t)(k:a=b→s=t→P):P:=by cases e;exact k rfl rfl
theorem Ct{x y:String}{s t:Sg}(e:(aG.exc x s:aG α)=aG.exc y t)(k:x=y→s=t→P):P:=by cases e;exact k rfl rfl
noncomputable def uL(o:aG α):Option (α×Sg):=match o with
 | .ok x σ=>some (x,σ)
 | .exc _ _=>none
theorem qB{o:aG α}{p:α×Sg}(h:uL o=some p):o= .ok p.1 p.2:=by
 cases o with
 |ok=>obtain rfl:=IF h;rfl
 |exc=>exact no h
noncomputable def f7(h:Heap)(ρ:Pl)(n:Nat)(cls:String)(e:Value):Prop:=
 ∃a oe vs,e= .ref a∧h.get? a=some oe∧oe.cls= .type cls∧oe.data= .fields vs∧n≤a∧a∈ρ.p∧
  (vs[1]? =some .none∨ ∃T oT ts,vs[1]? =some (.ref T)∧n≤T∧T∈ρ.p∧T≠a∧h.get? T=some oT∧oT.data= .fields ts∧ts[3]? =some .none)
theorem f7.mono{n':Nat}{cls:String}{e:Value}(f:f7 h ρ n cls e)(k:n'≤n):f7 h ρ n' cls e:=by
 refine f8 f fun a oe vs h1 h2 h3 h4 h5 h6 h7=> ?_;refine⟨a,oe,vs,h1,h2,h3,h4,HV k h5,h6,?_⟩
 rcases h7 with q|⟨T,oT,ts,q1,q2,q3⟩
 ·exact .inl q
 ·exact .inr ⟨T,oT,ts,q1,HV k q2,q3⟩
variable (c)in
noncomputable def cH(ρ:Pl)(s:Shared)(o:aG α):Value→Shared→Prop:=fun e s'=>match o with
 | .exc cls KB=> ∃KD,af c ρ s KD KB s'∧f7 s'.heap KD s.heap.objs.size cls e
 | .ok .. =>False
variable (c)in
noncomputable def bY(rel:Heap→Pl→α→β→Prop)(ρ:Pl)(s:Shared)(o:aG α):β→Shared→Prop:=fun v s'=>match o with
 | .ok x KB=> ∃KD,af c ρ s KD KB s'∧rel s'.heap KD x v
 | .exc .. =>False
variable (c)in
noncomputable def au(rel:Heap→Pl→α→β→Prop)(A:Around)(t:Sem β)(ρ:Pl)(s:Shared)(o:aG α):Prop:=
 IG (model c.prog c.w) A t (bY c rel ρ s o) (cH c ρ s o) s
noncomputable abbrev RB(_:Heap)(_:Pl)(x:Bool)(v:Bool):Prop:=v=x
variable (c)in
noncomputable abbrev bn(A:Around)(t:Sem Value)(ρ:Pl)(s:Shared)(o:aG V):Prop:=au c R A t ρ s o
variable (c)in
noncomputable abbrev Ef(A:Around)(t:Sem (List Value))(ρ:Pl)(s:Shared)(o:aG (List V)):Prop:=au c Rs A t ρ s o
variable (c)in
noncomputable abbrev o7(A:Around)(t:Sem Bool)(ρ:Pl)(s:Shared)(o:aG Bool):Prop:=au c RB A t ρ s o
theorem cH.trans{cls:String}{e:Value}(x:af c ρ s KD KB s')
 (f:cH c KD s' (.exc cls Ll:aG α) e s''):cH c ρ s (.exc cls Ll:aG β) e s'':=by
 refine aK f fun Lf y fl=> ?_;exact⟨Lf,x.trans y,fl.mono x.rest.hsize⟩
theorem bY.trans{rel:Heap→Pl→α→β→Prop}{o:aG α}{v:β}(x:af c ρ s KD KB s')(f:bY c rel KD s' o v s''):bY c rel ρ s o v s'':=by
 cases o with
 |ok a σ=>refine aK f fun Lf y r=> ?_;exact⟨Lf,x.trans y,r⟩
 |exc=>exact f
theorem cH.trans'{o:aG α}{e:Value}(x:af c ρ s KD KB s')(f:cH c KD s' o e s''):cH c ρ s o e s'':=by
 cases o with
 |ok=>exact f.elim
 |exc=>exact f.trans x
theorem au.trans{rel:Heap→Pl→α→β→Prop}{t:Sem β}{o:aG α}(x:af c ρ s KD KB s')(f:au c rel A t KD s' o):
 IG (model c.prog c.w) A t (bY c rel ρ s o) (cH c ρ s o) s':=IJ f (fun u_ u_ q=>q.trans x) fun u_ u_ q=>q.trans' x
theorem au.go{rel:Heap→Pl→α→β→Prop}{t:Sem β}{o:aG α}{Q:β→Shared→Prop}(h:au c rel A t ρ s o)
 (hok: ∀x KB,o= .ok x KB→ ∀v s' KD,af c ρ s KD KB s'→rel s'.heap KD x v→Q v s') (hex: ∀cls KB,o= .exc cls KB→ ∀e s',cH c ρ s (.exc cls KB:aG α) e s'→E e s'):
 IG (model c.prog c.w) A t Q E s:=by
 refine IJ h (fun v s' hq=> ?_) (fun e s' hf=> ?_)
 ·cases o with
  |ok x KB=>refine aK hq fun KD st r=> ?_;exact hok x KB rfl v s' KD st r
  |exc=>exact hq.elim
 ·cases o with
  |ok=>exact hf.elim
  |exc cls KB=>exact hex cls KB rfl e s' hf
theorem cH.as{cls:String}{e:Value}(f:cH c ρ s (.exc cls KB:aG α) e s'):cH c ρ s (.exc cls KB:aG β) e s':=f
noncomputable def aw(o:Option (aG α))(k:α→Sg→Option (aG β)):Option (aG β):=match o with
 |some (.ok a σ)=>k a σ
 |some (.exc cls σ)=>some (.exc cls σ)
 |none=>none
theorem af.toks{D:List Addr}{t:Nat}(st:aQ c ρ σ s.heap)(g:Gd c s.heap):ad c D ρ s ρ σ {s with toks:=t}:=
 ⟨GU _,fun u_ h=> .inl h,fun u_ h=> .inl h,fun u_ h=>h,st,.refl _ _,⟨rfl,rfl,HW _,fun u_ u_=>rfl,id,HW _⟩,g⟩
theorem ad.write{D P:List Addr}{t:Nat}(ok:c.Ok)(st:aQ c ρ σ s.heap)(g:Gd c s.heap)(d: ∀a∈D,a∈ρ.p)
 (k: ∀b o,b∉D→s.heap.get? b=some o→h'.get? b=some o) (hz:s.heap.objs.size≤h'.objs.size) (hP: ∀a∈P,a∈ρ.p∨(s.heap.objs.size≤a∧a<h'.objs.size)) (hP': ∀a∈ρ.p,a∈P):
 ad c D ρ s ⟨ρ.r,P⟩ σ {s with heap:=h',toks:=t}:=by
 have x:eg c D s.heap h':= .of_keeps fun b o n e=>k b o n e;have lo: ∀a∈D,c.n₀≤a:=fun a m=>(st.plow a (d a m)).1;refine⟨GU _,fun u_ h=> .inl h,fun a m=>(hP a m).imp id Gb,hP',st.mono (Pl.Off.p d) x (fun a m n=>st.disj a (d a n) m) hz hP g.size,x.mono fun a m=>GN.mpr (.inl m),.heap hz,g.step ok lo x (fun p hp=> ?_) hz⟩;exact(g.codes p hp).keep (fun o q=>k _ _ (fun m=>absurd (ok.cold p hp).1 (HZ.mpr (lo _ m))) q) fun o q=>k _ _ (fun m=>absurd (ok.told _ (ok.tcs p hp)) (HZ.mpr (lo _ m))) q
theorem ad.write'{D:List Addr}{t:Nat}(ok:c.Ok)(st:aQ c ρ σ s.heap)(g:Gd c s.heap)(d: ∀a∈D,a∈ρ.p)
 (k: ∀b o,b∉D→s.heap.get? b=some o→h'.get? b=some o) (hz:s.heap.objs.size≤h'.objs.size):ad c D ρ s ρ σ {s with heap:=h',toks:=t}:=
 ad.write (P:=ρ.p) ok st g d k hz (fun u_ m=> .inl m) (fun u_ m=>m)
theorem af.keeps{t:Nat}(ok:c.Ok)(st:aQ c ρ σ s.heap)(g:Gd c s.heap)(k: ∀b o,s.heap.get? b=some o→h'.get? b=some o)(hz:s.heap.objs.size≤h'.objs.size):
 af c ρ s ρ σ {s with heap:=h',toks:=t}:=ad.write' ok st g (by exact G7 _) (fun b o u_ e=>k b o e) hz
theorem af.push{o:Obj}{t:Nat}(ok:c.Ok)(st:aQ c ρ σ s.heap)(g:Gd c s.heap):af c ρ s ρ σ {s with heap:=s.heap.push o,toks:=t}:=
 af.keeps ok st g (fun b u_ e=>J8 _ e) (by rw[J9];exact H0 _)
theorem af.priv{o:Obj}{t:Nat}(ok:c.Ok)(st:aQ c ρ σ s.heap)(g:Gd c s.heap):af c ρ s ⟨ρ.r,s.heap.objs.size::ρ.p⟩ σ {s with heap:=s.heap.push o,toks:=t}:=
 ad.write ok st g (by exact G7 _) (fun b u_ u_ e=>J8 _ e) (by rw[J9];exact H0 _)
  (fun a m=>by rw[J9];rcases GW.mp m with rfl|q;exact .inr ⟨HW _,HY _⟩;exact .inl q) (fun a m=> .tail _ m)
end
variable {o:aG V}
section
theorem vx{a b:Int}(h:b.natAbs<2^62):Builtin.divisionGoesByPylong a b=false:=by
 unfold Builtin.divisionGoesByPylong;rw[Bool.and_eq_false_iff];left;dsimp only;rw[decide_eq_false_iff_not]
 by_cases hb:b==0
 ·simp[hb]
 ·rw[if_neg hb]
  have h0:b.natAbs≠0:=by simpa using hb
  have:b.natAbs.log2<62:=(Nat.log2_lt h0).mpr h;exact HZ.mpr (HV (Nat.succ_le_succ (Nat.div_le_self ..)) (HV this (H7 rfl)))
theorem my{a:Int}(h:a.natAbs<2^62):Builtin.Int.intBits a≤64:=by
 refine intBits_le_64 ?_ ?_<;>first|exact btn ‹_› (by exact ac)|exact bts ‹_› (by exact ac)
noncomputable def bG(a:Int):Bool:=decide (a.natAbs<2^62)
noncomputable def binI(op:Operator)(a b:Int):Option Int:=match op with
 | .Add=>some (a+b)
 | .Sub=>some (a-b)
 | .Mult=>if bG a&&bG b then some (a*b)else none
 | .FloorDiv=>if b≠0∧bG b then some (a.fdiv b)else none
 | .Mod=>if b≠0∧bG b then some (a.fmod b)else none
 |_=>none
set_option tactic.hygienic true in
theorem ty{op:Operator}{a b i:Int}{t u:Tok}(st:aQ c ρ σ s.heap)(g:Gd c s.heap)(e:Internal.binI op a b=some i):
 bn c A (binaryOp op (.int a t) (.int b u)) ρ s (.ok (.int i) σ):=by
 have fin: ∀i',i'=i→ ∃KD,af c ρ s KD σ {s with toks:=s.toks+1}∧R s.heap KD (.int i) (.int i' s.toks):=fun i' q=>⟨ρ,.toks st g,q▸ .int⟩
 unfold Internal.binI at e
 cases op with
 |Add=>obtain rfl:=IF e;exact add_int (fin _ rfl)
 |Sub=>obtain rfl:=IF e;exact sub_int (fin _ rfl)
 |Mult=>
  dsimp only at e
  split at e
  ·rename_i h;obtain rfl:=IF e;simp only[bG,Gh,decide_eq_true_eq]at h;refine mul_int (fin _ rfl) ?_;unfold IntMulOk;have:=my h.1;simp[shortFactorBits];omega
  ·exact no e
 |FloorDiv=>
  dsimp only at e
  split at e
  ·rename_i h;obtain rfl:=IF e;simp only[bG,decide_eq_true_eq]at h;exact floordiv_int h.1 (fin _ rfl) (.inl (vx h.2))
  ·exact no e
 |Mod=>
  dsimp only at e
  split at e
  ·rename_i h;obtain rfl:=IF e;exact mod_int h.1 (fin _ rfl)
  ·exact no e
 |_=>exact no e
noncomputable abbrev Pl.add(ρ:Pl)(a:Addr):Pl:=⟨ρ.r++[a],ρ.p⟩
theorem af.pushCell{l:aa}{o:Obj}{t:Nat}(ok:c.Ok)(st:aQ c ρ σ s.heap)(g:Gd c s.heap)(r: ∀h' KD,h'.get? s.heap.objs.size=some o→(∀{y:V} {v:Value},Internal.R s.heap ρ y v→Internal.R h' KD y v)→(∀{y:List V} {v:List Value},Internal.Rs s.heap ρ y v→Internal.Rs h' KD y v)→fe h' KD l s.heap.objs.size)(hf:o.isFreed=false:=by rfl):
 af c ρ s (ρ.add s.heap.objs.size) (σ++[l]) {s with heap:=s.heap.push o,toks:=t}:=by
 have k: ∀b o',s.heap.get? b=some o'→(s.heap.push o).get? b=some o':=fun b o' e=>J8 _ e
 have p:af c ρ s ρ σ {s with heap:=s.heap.push o,toks:=t}:=af.keeps ok st g k (by rw[J9];exact H0 _)
 have fr:ρ.free s.heap.objs.size:=st.new (HW _)
 have le:ρ.Le s.heap (ρ.add s.heap.objs.size):=⟨GO _ _,fun a o f e=>⟨fun m=>(GN.mp m).elim f.1 fun q=>absurd (J_ e) (by rw[GP.mp q];exact Ia _),f.2⟩⟩
 refine⟨le.pre,fun a m=> ?_,fun a m=> .inl m,fun a m=>m,⟨?_,?_,fun j a l' h1 h2=> ?_,fun a m=> ?_,fun a m=> ?_,fun a m n=> ?_⟩,p.ext,p.rest,p.gd⟩
 ·rcases GN.mp m with q|q
  ·exact .inl q
  ·rw[GP.mp q];exact .inr (HW _)
 ·exact List.nodup_append.mpr ⟨st.nodup,by simp,fun a ha b hb q=>fr.1 (by rw[GP.mp hb]at q;exact q▸ha)⟩
 ·rw[G4,G4,st.len];rfl
 ·by_cases hj:j<ρ.r.length
  ·rw[Hc hj]at h1;rw[Hc (st.len▸hj)]at h2
   exact(st.at_ j a l' h1 h2).mono (Pl.Off.nil _) (.of_keeps (c:=c) fun b o u_ e=>k b o e) le (by exact He)
  ·have hl:=(GZ.mp h1).1;rw[G4,HA]at hl
   have ej:j=ρ.r.length:=by exact jE ‹_› ‹_›
   subst ej;rw[Ho (HW _),Im]at h1;rw[st.len,Ho (HW _),Im]at h2;obtain rfl:=IF h1;obtain rfl:=IF h2;exact r _ _ (J7 _ hf) (fun q=>q.mono (Pl.Off.nil _) (.of_keeps (c:=c) fun b o u_ e=>k b o e) le) (fun q=>q.mono (Pl.Off.nil _) (.of_keeps (c:=c) fun b o u_ e=>k b o e) le)
 ·rcases GN.mp m with q|q
  ·exact st.low a q
  ·rw[GP.mp q];exact g.size
 ·exact⟨(st.plow a m).1,by have:=(st.plow a m).2;show a<(s.heap.push o).objs.size;rw[J9];exact Ij this⟩
 ·rcases GN.mp n with q|q
  ·exact st.disj a m q
  ·rw[GP.mp q]at m;exact absurd (st.plow _ m).2 (Ia _)
theorem aQ.last(st:aQ c ρ σ h)(a:Addr):(ρ.add a).r[σ.length]? =some a:=by
 show(ρ.r++[a])[σ.length]? =_;rw[←st.len,Ho (HW _),Im];rfl
theorem af.pushList{t:Nat}(ok:c.Ok)(st:aQ c ρ σ s.heap)(g:Gd c s.heap)(r:Internal.Rs s.heap ρ l vs):
 af c ρ s (ρ.add s.heap.objs.size) (σ++[.lst l]) {s with heap:=s.heap.push (aB vs n),toks:=t}:=
 af.pushCell (o:=aB vs n) ok st g fun h' KD e u_ k=>⟨vs,n,e,k r⟩
theorem cQ(e:s.heap.get? a=some (ao vs n)):IsTup s.heap a vs.toArray:=⟨_,e,rfl,n,rfl⟩
theorem bR(e:s.heap.get? a=some (aB vs n)):s.heap.IsList a vs.toArray:=⟨_,e,rfl,n,rfl⟩
set_option tactic.hygienic true in
theorem qt{l l':List V}{v v':Value}(ok:c.Ok)(st:aQ c ρ σ s.heap)(g:Gd c s.heap)(r:R s.heap ρ (.tup l) v)(r':R s.heap ρ (.tup l') v')(hz:l.length+l'.length≤2^20):
 bn c A (binaryOp .Add v v') ρ s (.ok (.tup (l++l')) σ):=by
 cases r with
 |tup e ef rs=>
  rename_i a vs n
  cases r' with
  |tup e' ef' rs'=>
   rename_i b ws n';have le:=rs.length;have le':=rs'.length
   by_cases hv:vs=[]
   ·subst hv;have hl:l=[]:=Hl.mp le;subst hl;refine concat_meets (s:=s) ⟨_,e,rfl⟩ ⟨_,e',rfl⟩ noFill_tuple_add seq_tuple_add JW JX (JY _ _)
     (tuple_addW0 a b _ ws.toArray n n' none none #[] #[] (by exact ac)) ⟨e,e',ρ,.refl st g,.tup e' ef' rs'⟩
   ·by_cases hw:ws=[]
    ·subst hw;have hl:l'=[]:=Hl.mp le';subst hl;rw[G2];refine concat_meets (s:=s) ⟨_,e,rfl⟩ ⟨_,e',rfl⟩ noFill_tuple_add seq_tuple_add JW JX (JY _ _)
      (tuple_addW1 a b vs.toArray _ n n' none none #[] #[] (by simpa using hv) (by exact ac)) ⟨e,e',ρ,.refl st g,.tup e ef rs⟩
    ·refine concat_meets (s:=s) ⟨_,e,rfl⟩ ⟨_,e',rfl⟩ noFill_tuple_add seq_tuple_add JW JX (JY _ _)
      (tuple_addW2 a b vs.toArray ws.toArray n n' none none #[] #[] (by simpa using hv) (by simpa using hw) (by rw[Hg,Hg,←le,←le'];exact HV hz (by decide))) ⟨e,e',?_⟩
     have p:af c ρ s ρ σ {s with heap:=s.heap.push (ao (vs++ws) 0),toks:=s.toks}:=af.push ok st g
     have ee:vs.toArray++ws.toArray=(vs++ws).toArray:=by exact List.append_toArray vs ws
     rw[ee];exact⟨ρ,p,.tup (J7 _ rfl) (st.new (HW _)) (p.Rs (rs.append rs'))⟩
end
section
noncomputable def vK(u:Value)(y:V):Option Bool:=if lz u=true then(if jg y=true then some true else(eN y).map fun u_=>false)else(ng u).bind fun a=>((kr y).bind ng).map fun b=>a==b
mutual
/-- ==,where it is told of these kinds-/
noncomputable def kU(σ:Sg):Nat→V→V→Option Bool
 |0,_,_=>none
 |n+1,x,y=>match x with
  | .val u=>vK u y
  | .int a=>(cY y).map fun b=>a==b
  | .str a=>(AV y).map fun b=>a==b
  | .tup a=>if jg y=true then some false else(eN y).bind fun b=>dR σ n a b
  | .lst j=>(gB y).bind fun k=>(aI σ j).bind fun a=>(aI σ k).bind fun b=>if a.length=b.length then dR σ n a b else some false
  | .inst _ _=>none
  | .rng _ _ _=>none
/--item by item;false where one is longer-/
noncomputable def dR(σ:Sg):Nat→List V→List V→Option Bool
 |0,_,_=>none
 |n+1,l,m=>match l with
  |[]=>match m with
   |[]=>some true
   |_::_=>some false
  |x::l=>match m with
   |[]=>some false
   |y::m=>(kU σ n x y).bind fun a=>(dR σ n l m).map fun b=>a&&b
end
theorem oX(e:dR σ n l m=some b):
 ∃f:Nat→Bool,(∀j x y,l[j]? =some x→m[j]? =some y→ ∃k,k<n∧kU σ k x y=some (f j))∧b=((GT (min l.length m.length)).all f&&l.length==m.length):=by
 induction n generalizing l m b with
 |zero=>exact no e
 |succ n ih=>
  cases l with
  |nil=>cases m with
   |nil=>exact⟨fun u_=>true,fun u_ u_ u_ h=>no h,(IF e).symm⟩
   |cons=>exact⟨fun u_=>true,fun u_ u_ u_ h=>no h,(IF e).symm⟩
  |cons x l=>cases m with
   |nil=>exact⟨fun u_=>true,fun u_ u_ u_ u_ h=>no h,(IF e).symm⟩
   |cons y m=>
    exact ae e fun p hp w=>aP w fun q hq w=>by
     refine aK (ih hq) fun f h1 h2=> ?_
     refine⟨fun j=>match j with|0=>p|j+1=>f j,fun j x' y' hx hy=> ?_,?_⟩
     ·cases j with
      |zero=>exact⟨n,HY _,IF hx▸IF hy▸hp⟩
      |succ j=>exact(h1 j x' y' hx hy).elim fun k z=>⟨k,Ij z.1,z.2⟩
     ·rw[←w,h2,G8,G8,Nat.succ_min_succ,List.range_succ_eq_map,Hp,List.all_map,Bool.and_assoc,show(l.length+1==m.length+1)=(l.length==m.length)from by simp]
      rfl
theorem rU(st:aQ c ρ σ h): ∀n:Nat,(∀{x y:V} {v:Value} {b:Bool},R h ρ x v→R h ρ y v→kU σ n x y=some b→b=true)∧(∀{l m:List V} {vs:List Value} {b:Bool},Rs h ρ l vs→Rs h ρ m vs→dR σ n l m=some b→b=true):=by
 intro n
 induction n with
 |zero=>exact⟨fun u_ u_ e=>no e,fun u_ u_ e=>no e⟩
 |succ n ih=>
  refine⟨fun {x y v b} r q e=> ?_,fun {l m vs b} r q e=> ?_⟩
  ·cases r with
   |val=>
    refine e_ (show vK v y=some b from e) (fun hu e=> ?_) fun u_ e=>ae e fun a ha e=>aP e fun b' hb e=>ae hb fun w hw hb=> ?_
    ·obtain rfl:=iG hu;obtain rfl:=q.noneQ;exact(IF e).symm
    ·obtain rfl:=n7 ha;obtain rfl:=ij hw
     cases q
     obtain rfl:=IF hb;rw[←e];exact beq_self_eq_true _
   |int=>exact aP e fun b' hb w=>by obtain rfl:=b_ hb;cases q;rw[←w];exact beq_self_eq_true _
   |str=>exact aP e fun b' hb w=>by obtain rfl:=zV hb;cases q;rw[←w];exact beq_self_eq_true _
   |tup h1 f1 rs=>
    refine e_ (show(if jg y=true then some false else(eN y).bind fun b=>dR σ n _ b)=some b from e) (fun hu e=> ?_) fun u_ e=>ae e fun m hm e=> ?_
    ·obtain rfl:=lD hu;cases q
    ·obtain rfl:=eJ hm
     cases q with
     |tup h2 f2 qs=>
      rw[h1]at h2
      cases h2
      exact ih.2 rs qs e
   |lst h1=>
    refine ae (show((gB y).bind fun k=>(aI σ _).bind fun a=>(aI σ k).bind fun b=>if a.length=b.length then dR σ n a b else some false)=some b from e) fun k hk e=>ae e fun a' ha e=>ae e fun b' hb e=> ?_
    obtain rfl:=gn hk
    cases q with
    |lst h2=>
     obtain rfl:=(List.getElem_inj st.nodup).mp ((GZ.mp h1).2.trans (GZ.mp h2).2.symm);obtain rfl:=IF (ha.symm.trans hb);rw[if_pos rfl]at e
     refine bf (st.at_ _ _ _ h1 (bF ha)) fun vs n' u_ rs=> ?_
     exact ih.2 rs rs e
   |inst=>exact no e
   |rng=>exact no e
  ·cases r with
   |nil=>obtain rfl:=q.nil2Q;exact(IF e).symm
   |cons r rs=>cases q with
    |cons q qs=>exact ae e fun p hp e=>aP e fun p' hq e=>by rw[←e,ih.1 r q hp,ih.2 rs qs hq];rfl
theorem qp(rs:Rs h ρ l vs)(hj:j<vs.toArray.size): ∃x,l[j]? =some x∧R h ρ x vs.toArray[j]:=by
 have hj':j<l.length:=by rw[rs.length];trivial
 refine aK (rs.get (G1 hj')) fun v e r=> ?_;refine⟨l[j],G1 hj',?_⟩
 have:vs.toArray[j]=v:=by
  have:=GZ.mp e;simpa using this.2
 rw[this];exact r
theorem cz(e:s.heap.get? a=some (ao vs n)):s.heap.IsTuple a vs.toArray:=⟨_,e,rfl,n,rfl⟩
theorem mA{f:Nat→Bool}(rs:Rs s.heap ρ l vs)(qs:Rs s.heap ρ m ws)
 (ih: ∀k,k<n→ ∀(B:Around) {x y:V} {v w:Value} {b:Bool},kU σ k x y=some b→R s.heap ρ x v→R s.heap ρ y w→B.units+k<cLine→EqAt B s v w b)
 (h1: ∀j x y,l[j]? =some x→m[j]? =some y→ ∃k,k<n∧kU σ k x y=some (f j)) (hu:A.units+n<cLine):
 ∀j (h1:j<vs.toArray.size) (h2:j<ws.toArray.size),EqAt A.in1 s vs.toArray[j] ws.toArray[j] (f j):=fun j hj hj'=>by
 refine aK (qp rs hj) fun x ex rx=> ?_;refine aK (qp qs hj') fun y ey ry=> ?_;refine aK (h1 j x y ex ey) fun k hk ek=> ?_
 exact ih k hk _ ek rx ry (by show A.units+1+k<cLine;exact cmx ‹_› ‹_›)
theorem qF(h:RcAt A s (.ref a) (.ref a') b)(k:a=a'→b=true):EqAt A s (.ref a) (.ref a') b:=by
 by_cases q:a=a'
 ·rw[k q,q];exact .same _
 ·exact .of_refs q h
noncomputable def EO(A:Around)(s:Shared)(v w:Value)(b:Bool):Prop:=RcAt A s v w b∧EqAt A s v w b∧RcNeAt A s v w (!b)
theorem wR{u:Value}(hu:A.units<cLine)(e:vK u y=some b)(q:R s.heap ρ y w):EO A s u w b:=by
 refine e_ e (fun h e=>e_ e (fun h' e=> ?_) fun u_ e=>aP e fun l hl e=> ?_) fun u_ e=>ae e fun a ha e=>aP e fun b' hb e=>ae hb fun w' hw hb=> ?_
 ·obtain rfl:=iG h;obtain rfl:=lD h';obtain rfl:=q.valQ;obtain rfl:=IF e;exact⟨RcAt.none_none,EqAt.same _,RcNeAt.none_none⟩
 ·obtain rfl:=iG h;obtain rfl:=eJ hl;obtain rfl:=IF e
  cases q using R.tupE with
  |tup h2 f2 rs2=>
  exact⟨RcAt.none_tuple (cz h2) hu,EqAt.none_tuple (cz h2) hu,RcNeAt.none_tuple (cz h2) hu⟩
 ·obtain rfl:=n7 ha;obtain rfl:=ij hw;obtain rfl:=q.valQ;obtain rfl:=n7 hb;obtain rfl:=IF e;exact⟨RcAt.bool_bool _ _,EqAt.bool_bool _ _,RcNeAt.bool_bool _ _⟩
theorem xm{k':Nat}(st:aQ c ρ σ s.heap)(hu:A.units+(n+1)<cLine)(h1:s.heap.get? a=some (ao vs k))(h2:s.heap.get? a'=some (ao ws k'))(rs:Rs s.heap ρ l vs)(qs:Rs s.heap ρ m ws)
 (ih: ∀k,k<n→ ∀(B:Around) {x y:V} {v w:Value} {b:Bool},kU σ k x y=some b→R s.heap ρ x v→R s.heap ρ y w→B.units+k<cLine→EqAt B s v w b) (e:dR σ n l m=some b):EO A s (.ref a) (.ref a') b:=by
 have hu':A.units<cLine:=H4 (H1 _ _) hu;refine aK (oX e) fun f g1 g2=> ?_;have pr:=mA (A:=A) rs qs ih g1 (Iu hu);rw[rs.length,qs.length]at g2;have rc:RcAt A s (.ref a) (.ref a') b:=g2▸RcAt.tuples (cz h1) (cz h2) hu' pr
 exact⟨rc,qF rc fun q=>by subst q;rw[h1]at h2;cases h2;exact(rU st n).2 rs qs e,g2▸RcNeAt.tuples (cz h1) (cz h2) hu' pr⟩
theorem vw{j':Nat}(st:aQ c ρ σ s.heap)(hu:A.units+(n+1)<cLine)(h1:ρ.r[j]? =some a)(h2:ρ.r[j']? =some a')(hl:aI σ j=some l)(hm:aI σ j'=some m)
 (ih: ∀k,k<n→ ∀(B:Around) {x y:V} {v w:Value} {b:Bool},kU σ k x y=some b→R s.heap ρ x v→R s.heap ρ y w→B.units+k<cLine→EqAt B s v w b) (e:(if l.length=m.length then dR σ n l m else some false)=some b):EO A s (.ref a) (.ref a') b:=by
 have hu':A.units<cLine:=H4 (H1 _ _) hu
 refine bf (st.at_ _ _ _ h1 (bF hl)) fun vs k o1 rs=> ?_
 refine bf (st.at_ _ _ _ h2 (bF hm)) fun ws k' o2 qs=> ?_
 have sm (q:a=a'):l=m∧j=j':=by
  subst q;obtain rfl:=(List.getElem_inj st.nodup).mp ((GZ.mp h1).2.trans (GZ.mp h2).2.symm);exact⟨IF (hl.symm.trans hm),rfl⟩
 refine e_ e (fun hlen e=> ?_) fun hlen e=> ?_
 ·refine aK (oX e) fun f g1 g2=> ?_;have pr:=mA (A:=A) rs qs ih g1 (Iu hu);have hsz:vs.toArray.size=ws.toArray.size:=rs.length.symm.trans (hlen.trans qs.length)
  have eb:b=(GT vs.toArray.size).all f:=by
   rw[g2,hlen,Ii,beq_self_eq_true,Gn];exact congrArg (fun n=>(GT n).all f) (qs.length.trans hsz.symm)
  have rc:RcAt A s (.ref a) (.ref a') b:=eb▸RcAt.lists (bR o1) (bR o2) hsz hu' pr
  exact⟨rc,qF rc fun q=>by obtain rfl:=(sm q).1;exact(rU st n).2 rs rs e,eb▸RcNeAt.lists (bR o1) (bR o2) hsz hu' pr⟩
 ·obtain rfl:=IF e;have hsz:(vs.toArray.size !=ws.toArray.size)=true:=bne_iff_ne.mpr fun q=>hlen (rs.length.trans (q.trans qs.length.symm));have rc:RcAt A s (.ref a) (.ref a') false:=RcAt.lists_lengths (bR o1) (bR o2) hsz hu';exact⟨rc,qF rc fun q=>absurd (congrArg List.length (sm q).1) hlen,RcNeAt.lists_lengths (bR o1) (bR o2) hsz hu'⟩
theorem vd(st:aQ c ρ σ s.heap): ∀(n:Nat) (A:Around) {x y:V} {v w:Value} {b:Bool},kU σ n x y=some b→R s.heap ρ x v→R s.heap ρ y w→A.units+n<cLine→EO A s v w b:=by
 intro n
 induction n using Nat.strongRecOn with
 |ind n ih=>
  intro A x y v w b e r q hu
  cases n with
  |zero=>exact no e
  |succ n=>
   have ih': ∀k,k<n→ ∀(B:Around) {x y:V} {v w:Value} {b:Bool},kU σ k x y=some b→R s.heap ρ x v→R s.heap ρ y w→B.units+k<cLine→EqAt B s v w b:=
    fun k hk B u_ u_ u_ u_ u_ e r q hu=>(ih k (Ij hk) B e r q hu).2.1
   have hu':A.units<cLine:=H4 (H1 _ _) hu
   cases r with
   |val=>exact wR hu' e q
   |int=>exact aP e fun b' hb w=>by obtain rfl:=b_ hb;obtain⟨_,rfl⟩:=q.intQ;subst w;exact⟨RcAt.int_int _ _ _ _,EqAt.int_int _ _ _ _,RcNeAt.int_int _ _ _ _⟩
   |str=>exact aP e fun b' hb w=>by obtain rfl:=zV hb;obtain⟨_,rfl⟩:=q.strQ;subst w;exact⟨RcAt.str_str _ _ _ _,EqAt.str_str _ _ _ _,RcNeAt.str_str _ _ _ _⟩
   |tup h1 f1 rs=>
    refine e_ (show(if jg y=true then some false else(eN y).bind fun b=>dR σ n _ b)=some b from e) (fun h e=> ?_) fun u_ e=>ae e fun m hm e=> ?_
    ·obtain rfl:=lD h;obtain rfl:=q.valQ;obtain rfl:=IF e;exact⟨RcAt.tuple_none (cz h1) hu',EqAt.tuple_none (cz h1) hu',RcNeAt.tuple_none (cz h1) hu'⟩
    ·obtain rfl:=eJ hm
     cases q with
     |tup h2 f2 qs=>exact xm st hu h1 h2 rs qs ih' e
   |lst h1=>
    exact ae (show((gB y).bind fun k=>(aI σ _).bind fun a=>(aI σ k).bind fun b=>if a.length=b.length then dR σ n a b else some false)=some b from e) fun k hk e=>ae e fun a' ha e=>ae e fun b' hb w=>by
     obtain rfl:=gn hk
     cases q with
     |lst h2=>exact vw st hu h1 h2 ha hb ih' w
   |inst=>exact no e
   |rng=>exact no e
end
section
noncomputable abbrev V.none:V:= .val .none
noncomputable abbrev V.bool(b:Bool):V:= .val (.bool b)
noncomputable def aX(x:V):Bool:=jg x
theorem gQ(r:R h ρ x v):(v== .none)=aX x:=by
 cases r with
 |val=>cases v<;>rfl
 |int=>rfl
 |str=>rfl
 |tup=>rfl
 |lst=>rfl
 |inst=>rfl
 |rng=>rfl
noncomputable abbrev BU:Nat:=200
noncomputable def v7(x y:V)(f:Int→Int→Bool):Option Bool:=(cY x).bind fun a=>(cY y).map fun b=>f a b
noncomputable def FO(x:V):Bool:=(cY x).isSome
noncomputable def FJ(a:Int)(x:V):Bool:=(cY x).any (· ==a)
noncomputable def AY(a:Int):Value→Bool
 | .int b _=>b==a
 |_=>false
noncomputable def eh(σ:Sg)(op:CmpOp)(x y:V):Option Bool:=match op with
 | .Lt=>v7 x y fun a b=>decide (a<b)
 | .LtE=>v7 x y fun a b=>decide (a≤b)
 | .Gt=>v7 x y fun a b=>decide (b<a)
 | .GtE=>v7 x y fun a b=>decide (b≤a)
 | .Eq=>kU σ BU x y
 | .NotEq=>(kU σ BU x y).map (!·)
 | .Is=>if jg y=true then some (aX x)else none
 | .IsNot=>if jg y=true then some (!aX x)else none
 | .In=>(cY x).bind fun a=>(eN y).bind fun l=>if l.all FO=true then some (l.any (FJ a))else none
 | .NotIn=>none
theorem xZ{a:Int}(r:Rs h ρ l vs):l.all FO=true→(∀y∈vs,∃b u,y= .int b u)∧vs.any (AY a)=l.any (FJ a):=
 Rs.ind (Q:=fun l vs=>l.all FO=true→(∀y∈vs,∃b u,y= .int b u)∧vs.any (AY a)=l.any (FJ a)) (fun u_=>⟨ck,rfl⟩) (fun r u_ ih e=>by
  refine oA (Gg.mp e) fun e1 e2=> ?_
  cases r with
  |int=>exact⟨ak ⟨_,_,rfl⟩ (ih e2).1,congrArg _ (ih e2).2⟩
  |_=>exact bM e1) r
theorem gO{op:CmpOp}(st:aQ c ρ σ s.heap)(g:Gd c s.heap)(hu:A.units+BU<cLine)(e:eh σ op x y=some b)(r:R s.heap ρ x v)(q:R s.heap ρ y w):
 bn c A (compareOp op v w) ρ s (.ok (.bool b) σ):=by
 have fin: ∃KD,af c ρ s KD σ s∧R s.heap KD (.bool b) (.bool b):=⟨ρ,.refl st g,.val⟩;have i2 {f:Int→Int→Bool} (e:v7 x y f=some b): ∃i t j u,v= .int i t∧w= .int j u∧b=f i j:=
  ae e fun a ha e=>aP e fun b' hb w'=>by obtain rfl:=b_ ha;obtain rfl:=b_ hb;obtain⟨_,rfl⟩:=r.intQ;obtain⟨_,rfl⟩:=q.intQ;exact⟨_,_,_,_,rfl,rfl,w'.symm⟩
 cases op with
 |Lt=>refine bP (i2 e) fun i t j u zz4 zz5 zz6=> ?_;subst zz4;subst zz5;subst zz6;exact PyProof.Rows.lt_int fin
 |LtE=>refine bP (i2 e) fun i t j u zz4 zz5 zz6=> ?_;subst zz4;subst zz5;subst zz6;exact PyProof.Rows.le_int fin
 |Gt=>refine bP (i2 e) fun i t j u zz4 zz5 zz6=> ?_;subst zz4;subst zz5;subst zz6;exact PyProof.Rows.gt_int fin
 |GtE=>refine bP (i2 e) fun i t j u zz4 zz5 zz6=> ?_;subst zz4;subst zz5;subst zz6;exact PyProof.Rows.ge_int fin
 |Eq=>exact(vd st _ A e r q hu).1 _ _ _ _ fin
 |NotEq=>exact aP e fun b' e' w'=>(vd st _ A e' r q hu).2.2 _ _ _ _ (w'▸fin)
 |Is=>
  exact bI e fun h w'=>by
   obtain rfl:=lD h;obtain rfl:=q.valQ;refine is_none ?_;rw[gQ r,IF w'];exact fin
 |IsNot=>
  exact bI e fun h w'=>by
   obtain rfl:=lD h;obtain rfl:=q.valQ;refine isNot_none ?_;rw[gQ r,IF w'];exact fin
 |In=>
  exact ae e fun a ha w'=>ae w' fun l hl w'=>bI w' fun hall u'=>by
   obtain rfl:=b_ ha;obtain rfl:=eJ hl;obtain⟨_,rfl⟩:=r.intQ
   cases q with
   |tup h2 f2 qs=>
    obtain⟨k1,k2⟩:=xZ qs hall;refine in_tupleAt (AY a) (cz h2) (fun y hy=> ?_) ?_
    ·refine qK (k1 y (Array.mem_toArray.mp hy)) fun b u zz2=> ?_;subst zz2;exact EqAt.int_int _ _ _ _
    ·rw[List.any_toArray,k2,IF u'];exact fin
 |NotIn=>exact no e
noncomputable def bq(σ:Sg)(x:V):Option Bool:= @V.casesOn (fun u_=>Option Bool) x (fun u=>if lz u=true then some false else ng u) (fun a=>some (a !=0)) (fun u_=>none) (fun l=>if l.length≤2^20 then some (!l.isEmpty)else none) (fun k=>(aI σ k).bind fun l=>if l.length≤2^20 then some (!l.isEmpty)else none) (fun u_ u_=>none) (fun u_ u_ u_=>none)
theorem bX{Q:Bool→Shared→Prop}(st:aQ c ρ σ s.heap)(e:bq σ x=some b)(r:R s.heap ρ x v)(h: ∀t,Q b {s with toks:=t}):IG (model c.prog c.w) A (truthy v) Q E s:=by
 have em: ∀{l:List V} {vs:List Value},Rs s.heap ρ l vs→(!vs.toArray.isEmpty)= !l.isEmpty:=fun rs=>by cases rs<;>rfl
 have sz: ∀{l:List V} {vs:List Value},Rs s.heap ρ l vs→l.length≤2^20→vs.toArray.size<2^62:=fun rs h=>H4 (rs.length▸h) (by decide)
 cases r with
 |val=>exact e_ (show(if lz v=true then some false else ng v)=some b from e) (fun hu w=>by obtain rfl:=iG hu;obtain rfl:=IF w;exact fun u_ u_ u_=>h s.toks) fun u_ w=>by obtain rfl:=n7 w;exact Jg (h s.toks)
 |int=>obtain rfl:=IF e;exact PyProof.Rows.truthy_int (h s.toks)
 |tup h1 f1 rs=>exact bI (show(if _≤2^20 then _ else none)=some b from e) fun hz w=>by obtain rfl:=IF w;exact truthy_tuple (cQ h1) (Gz.mpr (Nat.lt_trans (sz rs hz) (by decide))) (em rs▸h _)
 |lst h1=>
  exact ae (show((aI σ _).bind fun l=>if l.length≤2^20 then some (!l.isEmpty)else none)=some b from e) fun l hl w=>bI w fun hz w=>by
   obtain rfl:=IF w
   refine bf (st.at_ _ _ _ h1 (bF hl)) fun vs n o rs=> ?_
   exact wpAny_truthy_list (bR o) (Gz.mpr (Nat.lt_trans (sz rs hz) (by decide))) (em rs▸h _)
 |_=>exact no e
noncomputable def gE(l:List V)(i:Int):Option V:=if-(2^62)≤i∧i<2^62 then(seqIndex? i l.length).bind (l[·]?)else none
noncomputable def gk(σ:Sg)(x:V)(i:Int):Option V:= @V.casesOn (fun u_=>Option V) x (fun u_=>none) (fun u_=>none) (fun u_=>none) (fun l=>gE l i) (fun k=>(aI σ k).bind fun l=>gE l i) (fun u_ u_=>none) (fun u_ u_ u_=>none)
theorem eW{o i:Value}{id:String}{ops:List Value}(hT:s.TypeIs o T)(hl:typeLookup (.type T) "__getitem__"=pure (some (.builtin id)))
 (h:IG (model c.prog c.w) A (getItem o i) Q E s) (hs:subscripted slice false o i=operate ops (getItem o i)):IG (model c.prog c.w) A (subscriptTail value slice o i) Q E s:=by
 unfold subscriptTail;refine IH ?_;rw[getitemInPython_of_ne hT.not_modules];refine IH (I2 hT hl ?_)
 have fin:IG (model c.prog c.w) A (subscripted slice false o i) (fun r K8=>IG (model c.prog c.w) A (letTemporaryGo value o r>>=fun u_=>pure r) Q E K8) E s:=by
  rw[hs];exact wpAny_operating (IJ h (fun r K8 LM=>IH (wpAny_letTemporaryGo (II LM))) fun u_ u_ x=>x)
 first
  |exact II (IH fin)
  |exact IH (II (IH fin))
  |exact IH fin
noncomputable def bB(e:Expr):Bool:= !e.ctorIdx.beq 26
theorem eY(h:bB slice=true)(o i:Value):subscripted slice false o i=operate [o,i] (getItem o i):=by
 cases slice<;>first|rfl|exact bM h
theorem ru{i:Int}{t:Tok}(st:aQ c ρ σ s.heap)(g:Gd c s.heap)(hn:bB slice=true)(e:gk σ x i=some y)(r:R s.heap ρ x v):
 bn c A (subscriptTail value slice v (.int i t)) ρ s (.ok y σ):=by
 cases r with
 |tup h1 f1 rs=>
  exact bI (show gE _ i=some y from e) fun hb w=>ae w fun j hj hx=>by
   refine aK (rs.get hx) fun w ew rw'=> ?_
   exact eW (T:="tuple") (cQ h1).typeIs JQ.lookup (getItem_tuple (cQ h1) (Gw (by decide) hb.1) (Int.lt_trans hb.2 (by decide)) (j:=j) (by rw[rs.length]at hj;exact hj) (by simpa using ew) ⟨ρ,.refl st g,rw'⟩) (eY hn _ _)
 |lst h1=>
  exact ae (show((aI σ _).bind fun l=>gE l i)=some y from e) fun l hl w=>bI w fun hb w=>ae w fun j hj hx=>by
   refine bf (st.at_ _ _ _ h1 (bF hl)) fun vs n o rs=> ?_
   refine aK (rs.get hx) fun w ew rw'=> ?_;have hlen:=rs.length;refine eW (T:="list") (bR o).typeIs PySem.F.slot_list_getitem.lookup ?_ (eY hn _ _);unfold seqIndex? at hj;dsimp only at hj
   by_cases h0:i<0
   ·rw[if_pos h0]at hj;refine bI hj fun hc hj=> ?_;obtain rfl:=IF hj;simp only[Gh,decide_eq_true_eq]at hc
    refine wpAny_getItem_list_neg (bR o) h0 (by simp[←hlen];exact lnz (Gb ‹_›)) (Gw (by decide) hb.1) (x:=w) ?_ ⟨ρ,.refl st g,rw'⟩
    simpa [←hlen]using ew
   ·rw[if_neg h0]at hj;refine bI hj fun hc hj=> ?_;obtain rfl:=IF hj
    exact wpAny_getItem_list (bR o) (Gx.mp h0) (Int.lt_trans hb.2 (by decide)) (x:=w) (by simpa using ew) ⟨ρ,.refl st g,rw'⟩
 |_=>exact no e
end
section
theorem Rs.places(r:Rs h ρ l vs)(js:List Nat):Rs h ρ (js.filterMap (l[·]?)) (js.filterMap (vs[·]?)):=by
 induction js with
 |nil=>exact .nil
 |cons j js ih=>
  cases hn:l[j]? with
  |some n=>
   refine aK (r.get hn) fun v hv rv=> ?_;simp only[HB,hn,hv];exact .cons rv ih
  |none=>
   have hv:vs[j]? =none:=by
    rw[HI]at hn⊢;rw[←r.length];exact hn
   simp only[HB,hn,hv];exact ih
noncomputable def gG(x:V):Option (Option Int):= @V.casesOn (fun u_=>Option (Option Int)) x (fun u=>if lz u=true then some none else none) (fun i=>some (some i)) (fun u_=>none) (fun u_=>none) (fun u_=>none) (fun u_ u_=>none) (fun u_ u_ u_=>none)
theorem mw{p:Option Int}(e:gG x=some p)(r:R h ρ x v):IsPart v p:=by
 cases x with
 |val u=>exact bI e fun hu w=>by obtain rfl:=iG hu;obtain rfl:=IF w;obtain rfl:=r.valQ;exact .none
 |int i=>obtain rfl:=IF e;obtain⟨_,rfl⟩:=r.intQ;exact .int _ _
 |_=>exact no e
theorem fk{p:Option Int}{Q:Option Int→Shared→Prop}(h:IsPart v p)(q:Q p s):IG (model c.prog c.w) A (Builtin.Slice.slicePartIndex v) Q E s:=by
 cases h with
 |none=>exact slicePart_none q
 |int=>exact slicePart_int q
noncomputable def cb(n:Nat)(lo hi st:Option Int):List Nat:=
 let p:=Jx lo hi (st.getD 1) n
 (GT (Jy p.1 p.2 (st.getD 1))).map fun(k:Nat)=>(p.1+(k:Int)*st.getD 1).toNat
noncomputable def ed(n:Nat)(lo hi st:Option Int):Bool:=
 let p:=Jx lo hi (st.getD 1) n
 p.1==0&&st.getD 1==1&&Jy p.1 p.2 (st.getD 1)==n
noncomputable def iK(l:List V)(lo hi st:Option Int):List V:=if ed l.length lo hi st then l else(cb l.length lo hi st).filterMap (l[·]?)
noncomputable def rD(n:Nat)(lo hi st:Option Int):List Nat:=sliceRange (sliceBounds lo hi st n).1 (sliceBounds lo hi st n).2.1 (sliceBounds lo hi st n).2.2
noncomputable def lU(l:List V)(lo hi st:Option Int):List V:=(rD l.length lo hi st).filterMap (l[·]?)
noncomputable def cA(σ:Sg)(x:V)(lo hi st:Option Int):Option (V×Sg):=if st=some 0 then none else match x with
 | .tup l=>if l.length≤2^20∧(iK l lo hi st).length≤2^20 then some (.tup (iK l lo hi st),σ)else none
 | .lst k=>(oY σ k).bind fun l=>if l.length≤2^20 then some (.lst σ.length,σ++[.lst (lU l lo hi st)])else none
 |_=>none
theorem jy{sl:Addr}{st:Option Int}{Q:Int×Int×Nat→Shared→Prop}(hs:s.heap.IsSliceOf sl v1 v2 v3)(p1:IsPart v1 lo)(p2:IsPart v2 hi)(p3:IsPart v3 st)
 (h0:st≠some 0)
 (h:Q ((Jx lo hi (st.getD 1) (n:Int)).1,st.getD 1,Jy (Jx lo hi (st.getD 1) (n:Int)).1 (Jx lo hi (st.getD 1) (n:Int)).2 (st.getD 1)) s):
 IG (model c.prog c.w) A (Jz (.ref sl) (pure (n:Int))) Q E s:=by
 refine bW (id hs) fun os hos hcs hds=> ?_;unfold Jz Builtin.Slice.sliceFields;refine IH (IH (IK hos hds (x:=v1) rfl (IH (IK hos hds (x:=v2) rfl (IH (IK hos hds (x:=v3) rfl (II ?_)))))));refine IH (fk p3 ?_)
 show IG _ _ (if((st.getD 1)==0)=true then _ else _) _ _ s
 rw[if_neg (by
  cases st with
  |none=>decide
  |some d=>simp only[Option.getD_some,beq_iff_eq];exact fun q=>h0 (q▸rfl))]
 refine IH (fk p1 (IH (fk p2 (IH (II ?_)))));exact II h
theorem i4{t sl:Addr}{st:Option Int}(ht:IsTup s.heap t items)(hs:s.heap.IsSliceOf sl v1 v2 v3)
 (p1:IsPart v1 lo) (p2:IsPart v2 hi) (p3:IsPart v3 st) (h0:st≠some 0)
 (hw:ed items.size lo hi st=true→Q (.ref t) s)
 (h:ed items.size lo hi st=false→Q (.ref s.heap.objs.size) {s with heap:=s.heap.push (ao ((cb items.size lo hi st).filterMap (items.toList[·]?)) 0)})
 (hsz:((cb items.size lo hi st).filterMap (items.toList[·]?)).length≤sizeLine):IG (model c.prog c.w) A (getItem (.ref t) (.ref sl)) Q E s:=by
 refine bW (id hs) fun os hos hcs hds=> ?_;have hTs:s.TypeIs (.ref sl) "slice":=⟨os,hos,hcs⟩;unfold getItem
 try with_reducible refine IM ?_
 first|refine IH (II ?_)|skip
 refine IH (wpAny_sequenceKey ht.typeIs (by rfl) ?_)
 refine IH (IU (name:=Kn "__getitem__") ht.typeIs F.slot_tuple_getitem
  (IR F.slot_tuple_getitem ht.typeIs F.entry_tuple_getitem ?_ (F.args_tuple_getitem_2 _ _)))
 show IG _ _ (JH (.ref t)>>=_) _ _ s;refine IH (tupleItemsOf_ ht ?_);refine IH (IZ hTs ?_)
 refine cX (by decide) ?_
 refine IH (jy (n:=items.size) hs p1 p2 p3 h0 ?_)
 cases hq:ed items.size lo hi st with
 |true=>
  show IG _ _ (if ed items.size lo hi st=true then _ else _) _ _ s
  refine cX hq ?_;refine IH (m:=JI (.ref t)) (IH (IZ ht.typeIs (II ?_)))
  refine cX (by decide) ?_
  first
   |exact IH (IN (II ⟨_,rfl,II (hw hq)⟩))
   |exact IH (IN (IH (II (II ⟨_,rfl,II (hw hq)⟩))))
   |exact IH (IH (IN (II (II ⟨_,rfl,II (hw hq)⟩))))
 |false=>
  show IG _ _ (if ed items.size lo hi st=true then _ else _) _ _ s
  refine bV (by rw[hq];exact Gi) ?_
  have e:((GT (Jy (Jx lo hi (st.getD 1) (items.size:Int)).1 (Jx lo hi (st.getD 1) (items.size:Int)).2 (st.getD 1))).filterMap fun(k:Nat)=>
   items[((Jx lo hi (st.getD 1) (items.size:Int)).1+(k:Int)*st.getD 1).toNat]?).toArray=((cb items.size lo hi st).filterMap (items.toList[·]?)).toArray:=by
   unfold cb;rw[List.filterMap_map];congr 2;funext k;simp
  have hdrop:sizeOk (.seq ((cb items.size lo hi st).filterMap (items.toList[·]?)).toArray):=by
   show((cb items.size lo hi st).filterMap (items.toList[·]?)).toArray.size≤sizeLine;rw[Hg];exact hsz
  rw[e]
  first
   |exact IH (m:=JG _) (IP (II ⟨_,rfl,II (h hq)⟩) hdrop)
   |exact IH (m:=JG _) (IP (IH (II (II ⟨_,rfl,II (h hq)⟩))) hdrop)
   |exact IH (IH (m:=JG _) (IP (II (II ⟨_,rfl,II (h hq)⟩)) hdrop))
   |exact IH (IH (m:=JG _) (IP (II ⟨_,rfl,II (h hq)⟩) hdrop))
theorem tW{a b d:Option Expr}{p:Pos}(o i:Value): ∃ops,subscripted (.Slice a b d p) false o i=operate ops (getItem o i):=by
 cases d with
 |none=>exact⟨[i,o],rfl⟩
 |some _=>exact⟨[o,i],rfl⟩
theorem fE(l:List α)(js:List Nat):(js.filterMap (l[·]?)).length≤js.length:=List.length_filterMap_le ..
set_option tactic.hygienic true in
theorem qj{value:Expr}{a b d:Option Expr}{p:Pos}{x y:V}{lo hi st:Option Int}{v v1 v2 v3:Value}{KB:Sg}(ok:c.Ok)(t:aQ c ρ σ s.heap)(g:Gd c s.heap)(e:cA σ x lo hi st=some (y,KB))(r:R s.heap ρ x v)
 (p1:IsPart v1 lo) (p2:IsPart v2 hi) (p3:IsPart v3 st):
 IG (model c.prog c.w) A (subscriptTail value (.Slice a b d p) v (.ref s.heap.objs.size)) (fun w s'=> ∃KD,af c ρ s KD KB s'∧R s'.heap KD y w) (cH c ρ s (.ok y KB:aG V))
  {s with heap:=s.heap.push {cls:= .type "slice",data:= .fields #[v1,v2,v3]}}:=by
 refine oE (tW (a:=a) (b:=b) (d:=d) (p:=p) v (.ref s.heap.objs.size)) fun ops hops=> ?_
 have sp:af c ρ s ρ σ {s with heap:=s.heap.push {cls:= .type "slice",data:= .fields #[v1,v2,v3]},toks:=s.toks}:=af.push ok t g
 have r2:=sp.R r;have hsl:(s.heap.push {cls:= .type "slice",data:= .fields #[v1,v2,v3]}).IsSliceOf s.heap.objs.size v1 v2 v3:=Heap.IsSliceOf.new ..;unfold cA at e
 split at e
 ·exact no e
 ·rename_i h0
  split at e
  ·rename_i l
   split at e
   ·rename_i hz
    cases IF e
    cases r2 with
    |tup h1 f1 rs=>
     rename_i ta vs n
     have hlen:vs.toArray.size=l.length:=by simp[rs.length]
     refine eW (T:="tuple") (cQ (s:={s with heap:=s.heap.push {cls:= .type "slice",data:= .fields #[v1,v2,v3]}}) h1).typeIs JQ.lookup
      (i4 (cQ (s:={s with heap:=s.heap.push {cls:= .type "slice",data:= .fields #[v1,v2,v3]}}) h1) hsl p1 p2 p3 h0 (fun hq=> ?_) (fun hq=> ?_) ?_) hops
     ·rw[hlen]at hq;refine⟨ρ,sp,?_⟩;unfold iK;rw[if_pos hq];exact .tup h1 f1 rs
     ·rw[hlen]at hq;refine⟨ρ,sp.trans (af.push ok sp.sto sp.gd),?_⟩;unfold iK
      rw[if_neg (by rw[hq];exact Gi),hlen]
      have sp2:af c ρ {s with heap:=s.heap.push {cls:= .type "slice",data:= .fields #[v1,v2,v3]}} ρ σ
       {s with heap:=(s.heap.push {cls:= .type "slice",data:= .fields #[v1,v2,v3]}).push (ao ((cb l.length lo hi st).filterMap (vs.toArray.toList[·]?)) 0),toks:=s.toks}:=af.push ok sp.sto sp.gd
      exact .tup (J7 _ rfl) (sp.sto.new (HW _)) (sp2.Rs (by simpa using rs.places _))
     ·rw[hlen];have q:=(rs.places (cb l.length lo hi st)).length;simp only[List.toList_toArray];rw[←q]
      by_cases hw:ed l.length lo hi st=true
      ·have:(cb l.length lo hi st).length=l.length:=by
        unfold ed at hw;unfold cb;simp only[Gh,beq_iff_eq]at hw;simp only[GM,Hf];exact hw.2
       exact HV (fE ..) (by rw[this];exact HV hz.1 (by decide))
      ·have hz2:=hz.2;unfold iK at hz2;rw[if_neg hw]at hz2
       exact HV hz2 (by decide)
   ·exact no e
  ·rename_i k;refine ae e fun l hl e=>bI e fun hz e=> ?_
   cases IF e
   cases r2 with
   |lst h1=>
    refine bf (sp.sto.rd h1 hl) fun vs n o rs=> ?_
    have hlen:vs.toArray.size=l.length:=by simp[rs.length]
    refine eW (T:="list") (bR (s:={s with heap:=s.heap.push {cls:= .type "slice",data:= .fields #[v1,v2,v3]}}) o).typeIs PySem.F.slot_list_getitem.lookup
     (wpAny_getItem_list_slice (bR (s:={s with heap:=s.heap.push {cls:= .type "slice",data:= .fields #[v1,v2,v3]}}) o) hsl p1 p2 p3 h0 ?_ (by rw[hlen];exact HV hz (by decide))) hops
    have ep:slicePick vs.toArray lo hi st=((rD l.length lo hi st).filterMap (vs[·]?)).toArray:=by
     unfold slicePick rD;rw[hlen];simp
    rw[ep];have sp2:=af.pushList (c:=c) (n:=0) (t:=s.toks) ok sp.sto sp.gd (rs.places (rD l.length lo hi st));exact⟨_,sp.trans sp2,.lst (sp.sto.last _)⟩
  ·exact no e
end
section
inductive It where
 |seq (l:List V) (i:Nat)
 |lst (k:Nat) (i:Nat)
 |rng (x left step:Int)
 |revl (k:Nat) (i:Nat)
 |revt (l:List V) (i:Nat)
 |zip (ts:List It)
 |enum (t:It) (n:Int)
 deriving Inhabited
noncomputable def xL(o:Option V)(t:α):Option (V×α):=o.map fun x=>(x,t)
noncomputable def CV(r:Option (List V×List It)):Option (Option (V×It)):=r.elim (some none) fun p=>if p.1.isEmpty=true then none else some (some (.tup p.1,.zip p.2))
mutual
/--none:not told here;some none:at its end-/
noncomputable def ay(σ:Sg):It→Option (Option (V×It))
 | .seq l i=>some (xL l[i]? (.seq l (i+1)))
 | .lst k i=>(aI σ k).map fun l=>xL l[i]? (.lst k (i+1))
 | .rng x left step=>some (if 0<left then some (.int x,.rng (x+step) (left-1) step)else none)
 | .revl k i=>Nat.casesOn i (some none) fun i=>(aI σ k).bind fun l=>l[i]?.map fun x=>some (x,.revl k i)
 | .revt l i=>Nat.casesOn i (some none) fun i=>l[i]?.bind fun x=>if l.length≤2^20 then some (some (x,.revt l i))else none
 | .zip ts=>if ts.length≤64 then(bh σ ts).bind CV else none
 | .enum t n=>(ay σ t).map fun r=>r.map fun p=>(.tup [.int n,p.1],.enum p.2 (n+1))
noncomputable def bh(σ:Sg):List It→Option (Option (List V×List It))
 |[]=>some (some ([],[]))
 |t::ts=>(ay σ t).bind fun r=>r.elim (some none) fun p=>(bh σ ts).map fun q=>q.map fun q=>(p.1::q.1,p.2::q.2)
end
section
variable {t:It}{ts:List It}{n x left step:Int}
theorem wO:ay σ (.seq l i)=some (xL l[i]? (.seq l (i+1))):=rfl
theorem wH:ay σ (.lst k i)=(aI σ k).map fun l=>xL l[i]? (.lst k (i+1)):=rfl
theorem rH:ay σ (.rng x left step)=some (if 0<left then some (.int x,.rng (x+step) (left-1) step)else none):=rfl
theorem xj:ay σ (.zip ts)=if ts.length≤64 then(bh σ ts).bind CV else none:=rfl
theorem sQ:ay σ (.enum t n)=(ay σ t).map fun r=>r.map fun p=>(.tup [.int n,p.1],.enum p.2 (n+1)):=rfl
theorem sh:bh σ []=some (some ([],[])):=rfl
theorem ji:bh σ (t::ts)=(ay σ t).bind fun r=>r.elim (some none) fun p=>(bh σ ts).map fun q=>q.map fun q=>(p.1::q.1,p.2::q.2):=rfl
end
noncomputable abbrev jJ(f0 f1:Value)(TI TO:Addr):Obj:={cls:= .type "zip",dict:=none,data:= .fields #[f0,f1,.bool false,.ref TI,.ref TO],slots:= #[]}
noncomputable abbrev dM(f0 f1:Value)(it:Addr)(i:Int)(old:Value):Obj:={cls:= .type "enumerate",dict:=none,data:= .fields #[f0,f1,.ref it,rawInt i,.none,old],slots:= #[]}
noncomputable abbrev kE(t:Addr)(i:Int):Obj:={cls:= .type "reversed",data:= .fields #[.ref t,rawInt i]}
noncomputable def dn(h:Heap)(ρ:Pl)(f0:Value):Prop:=f0= .none∨ ∃T vs n,f0=rawInt (T:Nat)∧h.get? T=some (ao vs n)∧ρ.free T
mutual
/--the iterator at a tells what t says;what it is made of lies at I-/
inductive bC(h:Heap)(ρ:Pl):It→List Addr→Addr→Prop
 |seq {l:List V} {i:Nat} {a t:Addr}:IsTupIter h a t i→R h ρ (.tup l) (.ref t)→a∈ρ.p→bC h ρ (.seq l i) [a] a
 |lst {k i:Nat} {a la:Addr}:h.IsListIter a la i→ρ.r[k]? =some la→a∈ρ.p→bC h ρ (.lst k i) [a] a
 |rng {x left step:Int} {a:Addr}:IsRangeIter h a x left step→a∈ρ.p→bC h ρ (.rng x left step) [a] a
 |revl {k i:Nat} {a la:Addr}:h.IsRevIter a la ((i:Int)-1)→ρ.r[k]? =some la→a∈ρ.p→bC h ρ (.revl k i) [a] a
 |revt {l:List V} {i:Nat} {a t:Addr}:h.get? a=some (kE t ((i:Int)-1))→R h ρ (.tup l) (.ref t)→a∈ρ.p→bC h ρ (.revt l i) [a] a
 |zip {ts:List It} {I as:List Addr} {z TI TO:Addr} {f0 f1:Value} {ws:List Value} {m m':Nat}:h.get? z=some (jJ f0 f1 TI TO)→dn h ρ f0→h.get? TI=some (ao (as.map .ref) m)→h.get? TO=some (ao ws m')→ws.length=ts.length→
  bD h ρ ts I as→z∈ρ.p→TI∈ρ.p→TO∈ρ.p→z≠TI→z≠TO→TI≠TO→z∉I→TI∉I→TO∉I→bC h ρ (.zip ts) (z::TI::TO::I) z
 |enum {t:It} {n:Int} {I:List Addr} {e a:Addr} {f0 f1 old:Value}:h.get? e=some (dM f0 f1 a n old)→dn h ρ f0→bC h ρ t I a→e∈ρ.p→e∉I→bC h ρ (.enum t n) (e::I) e
inductive bD(h:Heap)(ρ:Pl):List It→List Addr→List Addr→Prop
 |nil:bD h ρ [] [] []
 |cons {t:It} {ts:List It} {I J as:List Addr} {a:Addr}:bC h ρ t I a→bD h ρ ts J as→(∀x∈I,x∉J)→bD h ρ (t::ts) (I++J) (a::as)
end
theorem bC.both{P:It→List Addr→Addr→Prop}{Q:List It→List Addr→List Addr→Prop}(seq: ∀{l i a t},IsTupIter h a t i→R h ρ (.tup l) (.ref t)→a∈ρ.p→P (.seq l i) [a] a)
 (lst: ∀{k i a la},h.IsListIter a la i→ρ.r[k]? =some la→a∈ρ.p→P (.lst k i) [a] a) (rng: ∀{x left step a},IsRangeIter h a x left step→a∈ρ.p→P (.rng x left step) [a] a)
 (revl: ∀{k i a la},h.IsRevIter a la (((i:Nat):Int)-1)→ρ.r[k]? =some la→a∈ρ.p→P (.revl k i) [a] a) (revt: ∀{l i a t},h.get? a=some (kE t (((i:Nat):Int)-1))→R h ρ (.tup l) (.ref t)→a∈ρ.p→P (.revt l i) [a] a)
 (zip: ∀{ts I as z TI TO f0 f1 ws m m'},h.get? z=some (jJ f0 f1 TI TO)→dn h ρ f0→h.get? TI=some (ao (as.map .ref) m)→h.get? TO=some (ao ws m')→ws.length=ts.length→
  bD h ρ ts I as→Q ts I as→z∈ρ.p→TI∈ρ.p→TO∈ρ.p→z≠TI→z≠TO→TI≠TO→z∉I→TI∉I→TO∉I→P (.zip ts) (z::TI::TO::I) z)
 (enum: ∀{t n I e a f0 f1 old},h.get? e=some (dM f0 f1 a n old)→dn h ρ f0→bC h ρ t I a→P t I a→e∈ρ.p→e∉I→P (.enum t n) (e::I) e)
 (nil:Q [] [] []) (cons: ∀{t ts I J as a},bC h ρ t I a→P t I a→bD h ρ ts J as→Q ts J as→(∀x∈I,x∉J)→Q (t::ts) (I++J) (a::as)):
 (∀{t I a},bC h ρ t I a→P t I a)∧(∀{ts I as},bD h ρ ts I as→Q ts I as):=
 ⟨fun r=>bC.rec (motive_1:=fun t I a u_=>P t I a) (motive_2:=fun ts I as u_=>Q ts I as) seq lst rng revl revt (fun a b c d e f g1 g2 g3 n1 n2 n3 n4 n5 n6 q=>zip a b c d e f q g1 g2 g3 n1 n2 n3 n4 n5 n6) (fun a b c d e q=>enum a b c q d e) nil (fun a b n c d=>cons a c b d n) r,
  fun r=>bD.rec (motive_1:=fun t I a u_=>P t I a) (motive_2:=fun ts I as u_=>Q ts I as) seq lst rng revl revt (fun a b c d e f g1 g2 g3 n1 n2 n3 n4 n5 n6 q=>zip a b c d e f q g1 g2 g3 n1 n2 n3 n4 n5 n6) (fun a b c d e q=>enum a b c q d e) nil (fun a b n c d=>cons a c b d n) r⟩
theorem bD.ind{Q:List It→List Addr→List Addr→Prop}(nil:Q [] [] [])(cons: ∀{t ts I J as a},bC h ρ t I a→bD h ρ ts J as→Q ts J as→(∀x∈I,x∉J)→Q (t::ts) (I++J) (a::as)){ts:List It}{as:List Addr}(r:bD h ρ ts I as):Q ts I as:=
 (bC.both (P:=fun u_ u_ u_=>True) (fun u_ u_ u_=>trivial) (fun u_ u_ u_=>trivial) (fun u_ u_=>trivial) (fun u_ u_ u_=>trivial) (fun u_ u_ u_=>trivial) (fun u_ u_ u_ u_ u_ u_ u_ u_ u_ u_ u_ u_ u_ u_ u_ u_=>trivial) (fun u_ u_ u_ u_ u_ u_=>trivial) nil fun a u_ b c d=>cons a b c d).2 r
theorem bC.privB:(∀{t I a},bC h ρ t I a→(∀x∈I,x∈ρ.p)∧a∈I)∧(∀{ts I as},bD h ρ ts I as→ ∀x∈I,x∈ρ.p):=
 bC.both (P:=fun u_ I a=>(∀x∈I,x∈ρ.p)∧a∈I) (Q:=fun u_ I u_=> ∀x∈I,x∈ρ.p) (fun u_ u_ p=>⟨dB p,.head _⟩) (fun u_ u_ p=>⟨dB p,.head _⟩) (fun u_ p=>⟨dB p,.head _⟩) (fun u_ u_ p=>⟨dB p,.head _⟩) (fun u_ u_ p=>⟨dB p,.head _⟩)
  (fun u_ u_ u_ u_ u_ u_ ts p1 p2 p3 u_ u_ u_ u_ u_ u_=>⟨ak p1 (ak p2 (ak p3 ts)),.head _⟩) (fun u_ u_ u_ t p u_=>⟨ak p t.1,.head _⟩) ck fun u_ t u_ ts u_ x m=>(GN.mp m).elim (t.1 x) (ts x)
theorem bC.priv{t:It}:bC h ρ t I a→(∀x∈I,x∈ρ.p)∧a∈I:=bC.privB.1
theorem bD.priv{t:List It}{as:List Addr}:bD h ρ t I as→(∀x∈I,x∈ρ.p):=bC.privB.2
theorem dn.mono(nl:ρ.Off S)(x:eg c S h h')(le:ρ.Le h KD)(H:dn h ρ f0):dn h' KD f0:=by
 rcases H with e|⟨T,vs,n,e,g,f⟩
 ·exact .inl e
 ·exact .inr ⟨T,vs,n,e,x.get (fun m=>nl _ m f) g rfl,le.free _ _ f g⟩
theorem qD(x:eg c S h h'){p:Obj→Prop}(k: ∀o,p o→uK o=true)(n:a∉S)(e: ∃o,h.get? a=some o∧p o): ∃o,h'.get? a=some o∧p o:=e.elim fun o e=>⟨o,x.get n e.1 (k o e.2),e.2⟩
theorem oF{vs:Array Value}(o:Obj)(h:o.cls= .type T∧o.data= .fields vs):uK o=true:=by
 unfold uK hZ;rw[h.1,h.2];rfl
theorem bC.monoB(nl:ρ.Off S)(x:eg c S h h')(le:ρ.Le h KD)(pp: ∀a∈ρ.p,a∈KD.p):(∀{t I a},bC h ρ t I a→(∀b∈I,b∉S)→bC h' KD t I a)∧(∀{ts I as},bD h ρ ts I as→(∀b∈I,b∉S)→bD h' KD ts I as):=
 bC.both (P:=fun t I a=>(∀b∈I,b∉S)→bC h' KD t I a) (Q:=fun ts I as=>(∀b∈I,b∉S)→bD h' KD ts I as)
  (fun e r p d=> .seq (qD x oF (d _ (.head _)) e) (r.mono nl x le) (pp _ p)) (fun e r p d=> .lst (qD x oF (d _ (.head _)) e) (le.get r) (pp _ p)) (fun e p d=> .rng (x.get (d _ (.head _)) e rfl) (pp _ p))
  (fun e r p d=> .revl (qD x oF (d _ (.head _)) e) (le.get r) (pp _ p)) (fun e r p d=> .revt (x.get (d _ (.head _)) e rfl) (r.mono nl x le) (pp _ p))
  (fun e1 H e2 e3 l u_ ts p1 p2 p3 n1 n2 n3 n4 n5 n6 d=> .zip (x.get (d _ (.head _)) e1 rfl) (H.mono nl x le) (x.get (d _ (.tail _ (.head _))) e2 rfl) (x.get (d _ (.tail _ (.tail _ (.head _)))) e3 rfl) l (ts fun b m=>d b (.tail _ (.tail _ (.tail _ m)))) (pp _ p1) (pp _ p2) (pp _ p3) n1 n2 n3 n4 n5 n6)
  (fun e H u_ t p n d=> .enum (x.get (d _ (.head _)) e rfl) (H.mono nl x le) (t fun b m=>d b (.tail _ m)) (pp _ p) n) (fun u_=> .nil)
  fun u_ t u_ ts n d=> .cons (t fun b m=>d b (G9 _ m)) (ts fun b m=>d b (Hh _ m)) n
theorem bC.mono(nl:ρ.Off S)(x:eg c S h h')(le:ρ.Le h KD)(pp: ∀a∈ρ.p,a∈KD.p){t:It}(d: ∀b∈I,b∉S)(i:bC h ρ t I a):bC h' KD t I a:=(bC.monoB nl x le pp).1 i d
theorem bD.mono(nl:ρ.Off S)(x:eg c S h h')(le:ρ.Le h KD)(pp: ∀a∈ρ.p,a∈KD.p){t:List It}{as:List Addr}(d: ∀b∈I,b∉S)(i:bD h ρ t I as):bD h' KD t I as:=(bC.monoB nl x le pp).2 i d
theorem ad.itr{D:List Addr}{t:It}(st:aQ c ρ σ s.heap)(d: ∀a∈D,a∈ρ.p)(n: ∀a∈I,a∉D)(x:ad c D ρ s KD KB s')(i:bC s.heap ρ t I a):bC s'.heap KD t I a:=
 i.mono (ad.off d) x.ext x.le x.pold fun b m q=>(GN.mp q).elim (n b m) (st.disj b (i.priv.1 b m))
theorem af.itr{t:It}(st:aQ c ρ σ s.heap)(x:af c ρ s KD KB s')(i:bC s.heap ρ t I a):bC s'.heap KD t I a:=ad.itr st (by exact G7 _) (by simp) x i
theorem ad.itrs{D:List Addr}{t:List It}{as:List Addr}(st:aQ c ρ σ s.heap)(d: ∀a∈D,a∈ρ.p)(n: ∀a∈I,a∉D)(x:ad c D ρ s KD KB s')(i:bD s.heap ρ t I as):bD s'.heap KD t I as:=
 i.mono (ad.off d) x.ext x.le x.pold fun b m q=>(GN.mp q).elim (n b m) (st.disj b (i.priv b m))
noncomputable def nH(e:Value)(s:Shared):Prop:= ∃b o,e= .ref b∧s.heap.get? b=some o∧o.cls= .type "StopIteration"
variable (c)in
noncomputable def d_(A:Around)(a:Addr)(s:Shared)(Q:Value→Shared→Prop)(E:Shared→Prop):Prop:=
 IG (model c.prog c.w) A (callSpecial? (.ref a) "__next__") (fun r s'=> ∃v,r=some v∧Q v s') (fun e s'=>nH e s'∧E s') s
theorem d_.mono{Q':Value→Shared→Prop}{E E':Shared→Prop}(n:d_ c A a s Q E)(q: ∀v s',Q v s'→Q' v s')(e: ∀s',E s'→E' s'):d_ c A a s Q' E':=
 IJ n (fun _ _ ⟨v,h,k⟩=>⟨v,h,q _ _ k⟩) fun _ _ ⟨h,k⟩=>⟨h,e _ k⟩
theorem d_.pyNext{E:Shared→Prop}{E':Value→Shared→Prop}(n:d_ c A a s Q E):IG (model c.prog c.w) A (pyNext (.ref a)) (fun r s'=>match r with|some v=>Q v s'|none=>E s') E' s:=by
 unfold PySem.pyNext;refine IH (wpAny_attempt (IJ n (fun r s' h=> ?_) fun e s' h=> ?_))
 ·obtain⟨v,rfl,q⟩:=h;exact II q
 ·obtain⟨⟨b,o,rfl,ho,hc⟩,q⟩:=h;refine IH (I6 (T:="StopIteration") (b:=true) ⟨o,ho,hc⟩ isSubtype_stop ?_);exact II q
theorem d_.nextOf{E:Shared→Prop}(n:d_ c A a s Q E):IG (model c.prog c.w) A (JB (.ref a)) Q (fun e s'=>nH e s'∧E s') s:=by
 unfold JB;refine IH (IJ n (fun r s' h=> ?_) fun e s' h=>h);refine aK h fun v zz1 q=> ?_;subst zz1;exact II q
theorem j_(h: ∀o1 o2:Obj,o2.cls= .type "StopIteration"→o2.isFreed=false→Q (.ref (s.heap.push o1).objs.size) {s with heap:=(s.heap.push o1).push o2}):IG M A (newExc (.type "StopIteration") []) Q E s:=by
 simp only[newExc,newTuple]
 refine IH (IP ?_ (by size_fits))
 refine IH (m:=firstArgMember _ _) (IO (a:=Kq) (by first|rfl|(simp only[firstArgMember];rfl)) ?_)
 refine IP ?_ (by size_fits)
 exact h _ _ rfl rfl
theorem eK{Q:α→Shared→Prop}(hh:A.handled=none)
 (h: ∀o1 o2:Obj,o2.cls= .type "StopIteration"→o2.isFreed=false→E (.ref (s.heap.push o1).objs.size) {s with heap:=(s.heap.push o1).push o2}):
 IG (model c.prog c.w) A (newExc (.type "StopIteration") []>>=fun e=>raiseNew (α:=α) e) Q E s:=by
 exact IH (j_ fun o1 o2 c f=>Jl hh (h o1 o2 c f))
theorem i_(x:Ka a h h'): ∀b o,b∉[a]→h.get? b=some o→h'.get? b=some o:=fun b o n e=>(x.2 b (fun q=>n (by simp[q]))).trans e
theorem ad.same{t:Nat}(ok:c.Ok)(st:aQ c ρ σ s.heap)(g:Gd c s.heap)(p:a∈ρ.p)(x:Ka a s.heap h'):ad c [a] ρ s ρ σ {s with heap:=h',toks:=t}:=
 ad.write' ok st g (by simpa using p) (i_ x) (Iw x.1.symm)
theorem ad.same2{t:Nat}(ok:c.Ok)(st:aQ c ρ σ s.heap)(g:Gd c s.heap)(p:a∈ρ.p)(x:Ka a s.heap h'):ad c [a] ρ s ρ σ {s with heap:=(h'.push o1).push o2,toks:=t}:=
 ad.write' ok st g (by simpa using p) (fun b o n e=>J8 _ (J8 _ (i_ x b o n e))) (by rw[J9,J9,x.1];exact H1 _ 2)
theorem ad.push2{D:List Addr}{t:Nat}(ok:c.Ok)(st:aQ c ρ σ s.heap)(g:Gd c s.heap):ad c D ρ s ρ σ {s with heap:=(s.heap.push o1).push o2,toks:=t}:=
 af.D (af.keeps ok st g (fun b o e=>J8 _ (J8 _ e)) (by rw[J9,J9];exact H1 _ 2))
theorem dS{t:Nat}(c2:o2.cls= .type "StopIteration")(f:o2.isFreed=false):nH (.ref (h.push o1).objs.size) {s with heap:=(h.push o1).push o2,toks:=t}:=
 ⟨_,_,rfl,J7 _ f,c2⟩
set_option tactic.hygienic true in
theorem vZ{a t:Addr}{l:List V}{i:Nat}(hh:A.handled=none)(ok:c.Ok)(st:aQ c ρ σ s.heap)(g:Gd c s.heap)(hit:IsTupIter s.heap a t i)(r:R s.heap ρ (.tup l) (.ref t))(p:a∈ρ.p):
 d_ c A a s (fun v s'=> ∃x,l[i]? =some x∧ad c [a] ρ s ρ σ s'∧R s'.heap ρ x v∧bC s'.heap ρ (.seq l (i+1)) [a] a) (fun s'=>l[i]? =none∧ad c [a] ρ s ρ σ s'):=by
 cases r with
 |tup h1 f1 rs=>
 rename_i vs n;refine bW (id hit) fun o ho hc hd=> ?_;refine IU (name:=Kn "__next__") hit.typeIs slot_tupleiter_next
  (IR slot_tupleiter_next hit.typeIs entry_tupleiter_next ?_ (args_tupleiter_next _))
 show IG _ _ (field (.ref a) 0>>=_) _ _ s;refine IH (IK ho hd (x:= .ref t) rfl ?_)
 show IG _ _ (if(Ko t==Kq)=true then _ else _) _ _ s
 rw[if_neg (show¬((Ko t==Kq)=true)from Gi)]
 show IG _ _ (field (.ref a) 1>>=_) _ _ s;refine IH (IK ho hd (x:= .int i 0) rfl ?_);show IG _ _ (seqItems? (.ref t)>>=_) _ _ s;refine IH (IY h1 rfl ?_);simp only[Gy]
 cases hx:l[i]? with
 |some x=>
  refine aK (rs.get hx) fun v ev rv=> ?_;simp only[Hq,ev]
  refine IH (I0 ho hd (by exact HY _) (II ⟨v,rfl,v,rfl,x,rfl,?_⟩))
  have S:=ad.same (c:=c) (t:=s.toks) ok st g p (Kd (h:=s.heap) (a:=a) (f:=Kg (·.setIfInBounds 1 (rawInt ((i:Int)+1)))))
  refine⟨S,ad.R (by simpa using p) S rv,.seq ⟨_,J' _ ho (Kj (Ki hd _)),(Kl ..).trans hc,?_⟩ (ad.R (by simpa using p) S (.tup h1 f1 rs)) p⟩
  rw[Ki hd];rfl
 |none=>
  have ev:vs[i]? =none:=by rw[HI]at hx⊢;rw[←rs.length];exact hx
  simp only[Hq,ev]
  refine IH (IN (IH (I0 ho hd (by exact HX _) ?_)))
  refine eK (c:=c) hh fun o1 o2 c2 f2=>⟨dS c2 f2,by trivial,?_⟩
  exact ad.same2 ok st g p (Kd ..)
theorem wG(hh:A.handled=none)(ok:c.Ok)(st:aQ c ρ σ s.heap)(g:Gd c s.heap)(hit:s.heap.IsListIter a la i)(hk:ρ.r[k]? =some la)(hl:σ[k]? =some (.lst l))(p:a∈ρ.p):
 d_ c A a s (fun v s'=> ∃x,l[i]? =some x∧ad c [a] ρ s ρ σ s'∧R s'.heap ρ x v∧bC s'.heap ρ (.lst k (i+1)) [a] a) (fun s'=>l[i]? =none∧ad c [a] ρ s ρ σ s'):=by
 refine bf (st.at_ _ _ _ hk hl) fun vs n h1 rs=> ?_
 refine bW (id hit) fun o ho hc hd=> ?_;refine IU (name:=Kn "__next__") hit.typeIs slot_listiter_next
  (IR slot_listiter_next hit.typeIs entry_listiter_next ?_ (args_listiter_next _))
 show IG _ _ (field (.ref a) 0>>=_) _ _ s;refine IH (IK ho hd (x:= .ref la) rfl ?_)
 show IG _ _ (if(Ko la==Kq)=true then _ else _) _ _ s
 rw[if_neg (show¬((Ko la==Kq)=true)from Gi)]
 show IG _ _ (field (.ref a) 1>>=_) _ _ s;refine IH (IK ho hd (x:= .int i 0) rfl ?_);show IG _ _ (seqItems? (.ref la)>>=_) _ _ s;refine IH (IY h1 rfl ?_);simp only[Gy]
 cases hx:l[i]? with
 |some x=>
  refine aK (rs.get hx) fun v ev rv=> ?_;simp only[Hq,ev]
  refine IH (I0 ho hd (by exact HY _) (II ⟨v,rfl,v,rfl,x,rfl,?_⟩))
  have S:=ad.same (c:=c) (t:=s.toks) ok st g p (Kd (h:=s.heap) (a:=a) (f:=Kg (·.setIfInBounds 1 (rawInt ((i:Int)+1)))))
  refine⟨S,ad.R (by simpa using p) S rv,.lst ⟨_,J' _ ho (Kj (Ki hd _)),(Kl ..).trans hc,?_⟩ hk p⟩
  rw[Ki hd];rfl
 |none=>
  have ev:vs[i]? =none:=by rw[HI]at hx⊢;rw[←rs.length];exact hx
  simp only[Hq,ev]
  refine IH (IN (IH (I0 ho hd (by exact HX _) ?_)))
  refine eK (c:=c) hh fun o1 o2 c2 f2=>⟨dS c2 f2,by trivial,?_⟩
  exact ad.same2 ok st g p (Kd ..)
theorem vX{x left step:Int}(hh:A.handled=none)(ok:c.Ok)(st:aQ c ρ σ s.heap)(g:Gd c s.heap)(hit:IsRangeIter s.heap a x left step)(p:a∈ρ.p):
 d_ c A a s (fun v s'=>0<left∧ad c [a] ρ s ρ σ s'∧R s'.heap ρ (.int x) v∧bC s'.heap ρ (.rng (x+step) (left-1) step) [a] a) (fun s'=> ¬0<left∧ad c [a] ρ s ρ σ s'):=by
 have hT:s.TypeIs (.ref a) "range_iterator":=⟨_,hit,rfl⟩;refine IU (name:=Kn "__next__") hT JZ ?_
 by_cases hl:0<left
 ·refine I9 JZ hT F.entry_range_iterator_next (F.args_range_iterator_next_1 _) (AutoRange.range_iterator___next___range_iterator_1 a x left step (by omega)) ⟨hit,?_⟩
  exact⟨_,rfl,hl,ad.same ok st g p ((Kd ..).trans (Kd ..)),.int,.rng (J' _ (J' _ hit rfl) rfl) p⟩
 ·refine IR JZ hT F.entry_range_iterator_next ?_ (F.args_range_iterator_next_1 _);show IG _ _ (field (.ref a) 0>>=_) _ _ s;refine IH (IK hit rfl (x:=rawInt x) rfl ?_);show IG _ _ (field (.ref a) 1>>=_) _ _ s;refine IH (IK hit rfl (x:=rawInt left) rfl ?_);show IG _ _ (field (.ref a) 2>>=_) _ _ s;refine IH (IK hit rfl (x:=rawInt step) rfl ?_)
  show IG _ _ (if left≤0 then _ else _) _ _ s
  refine cX (Gx.mp ‹_›) ?_;refine IH (IN ?_)
  first
   |exact eK (c:=c) hh fun o1 o2 c2 f2=>⟨dS c2 f2,hl,ad.push2 ok st g⟩
   |exact IH (eK (c:=c) hh fun o1 o2 c2 f2=>⟨dS c2 f2,hl,ad.push2 ok st g⟩)
theorem m9(hh:A.handled=none)(ok:c.Ok)(st:aQ c ρ σ s.heap)(g:Gd c s.heap)(hit:s.heap.IsRevIter a la ((i:Int)-1))(hk:ρ.r[k]? =some la)(p:a∈ρ.p):
 (i=0→d_ c A a s (fun u_ u_=>False) (fun s'=>ad c [a] ρ s ρ σ s'))∧
 (∀j x,i=j+1→σ[k]? =some (.lst l)→l[j]? =some x→d_ c A a s (fun v s'=>ad c [a] ρ s ρ σ s'∧R s'.heap ρ x v∧bC s'.heap ρ (.revl k j) [a] a) (fun s'=>False)):=by
 refine bW (id hit) fun o ho hc hd=> ?_;constructor
 ·rintro rfl;refine IU (name:=Kn "__next__") hit.typeIs JR
   (IR JR hit.typeIs F.entry_lri_next ?_ (F.args_lri_next_1 _))
  unfold Builtin.«list_reverseiterator.__next__»;refine IH (IO (a:=(Ko a,[])) rfl ?_)
  try dsimp only
  refine IH (IK ho hd (x:=rawInt (-1)) rfl ?_)
  show IG _ _ (if(-1:Int)<0 then _ else _) _ _ s
  refine cX (by decide) ?_
  refine IH (IN ?_)
  first
   |exact eK (c:=c) hh fun o1 o2 c2 f2=>⟨dS c2 f2,ad.push2 ok st g⟩
   |exact IH (eK (c:=c) hh fun o1 o2 c2 f2=>⟨dS c2 f2,ad.push2 ok st g⟩)
 ·rintro j x rfl hl hx
  refine bf (st.at_ _ _ _ hk hl) fun vs n h1 rs=> ?_
  refine aK (rs.get hx) fun v ev rv=> ?_;refine IU (name:=Kn "__next__") hit.typeIs JR
   (IR JR hit.typeIs F.entry_lri_next ?_ (F.args_lri_next_1 _))
  unfold Builtin.«list_reverseiterator.__next__»;refine IH (IO (a:=(Ko a,[])) rfl ?_)
  try dsimp only
  have ej:((j+1:Nat):Int)-1=(j:Int):=by exact sj
  rw[ej]at hd;refine IH (IK ho hd (x:=rawInt (j:Int)) rfl ?_)
  show IG _ _ (if(j:Int)<0 then _ else _) _ _ s
  refine bV (by omega) ?_
  show IG _ _ (field (.ref a) 0>>=_) _ _ s;refine IH (IK ho hd (x:= .ref la) rfl ?_);show IG _ _ (seqItems? (.ref la)>>=_) _ _ s;refine IH (IY h1 rfl ?_);simp only[Gy,Hq,ev];have S:=ad.same (c:=c) (t:=s.toks) ok st g p (Kd (h:=s.heap) (a:=a) (f:=Kg (·.setIfInBounds 1 (rawInt ((j:Int)-1)))))
  have fin:ad c [a] ρ s ρ σ {s with heap:=s.heap.update a (Kg (·.setIfInBounds 1 (rawInt ((j:Int)-1))))}∧R (s.heap.update a (Kg (·.setIfInBounds 1 (rawInt ((j:Int)-1))))) ρ x v∧bC (s.heap.update a (Kg (·.setIfInBounds 1 (rawInt ((j:Int)-1))))) ρ (.revl k j) [a] a:=by
   refine⟨S,ad.R (by simpa using p) S rv,.revl ⟨_,J' _ ho (Kj (Ki hd _)),(Kl ..).trans hc,?_⟩ hk p⟩
   rw[Ki hd];rfl
  refine IH (I0 ho hd (by exact HY _) ?_)
  first
   |exact II ⟨v,rfl,v,rfl,fin⟩
   |exact IH (II (II ⟨v,rfl,v,rfl,fin⟩))
end
variable {ts:List It}{t t':It}
section
theorem gJ:Manifest.owners.lookup (String.ofList ['d','e','s','r','e','v','e','r'].reverse)=some Manifest.sig_reversed:=by kernel_rfl
theorem cL:Slot "reversed" "__next__" "reversed.__next__":=
 .of (owner:="reversed") (n:="__next__") (by rw[I_,Ja];exact rfl) (by decide+kernel) (by decide+kernel) (by decide+kernel)
  (by first|exact .inl (by decide+kernel)|exact .inr (by decide+kernel)) (by rw[Jc];exact rfl)
theorem gH:entryFor table "reversed.__next__"=some Builtin.«reversed.__next__»:=entryFor_of_tree rfl
theorem ix(a:Value):argsOk "reversed.__next__" ⟨[a],[]⟩:=by
 unfold argsOk;rw[Jd (id:="reversed.__next__") (n:=['_','_','t','x','e','n','_','_']) (o:=['d','e','s','r','e','v','e','r']) rfl gJ];exact rfl
theorem ii:Slot "reversed" "__iter__" "reversed.__iter__":=
 .of (owner:="reversed") (n:="__iter__") (by rw[I_,Ja];exact rfl) (by decide+kernel) (by decide+kernel) (by decide+kernel)
  (by first|exact .inl (by decide+kernel)|exact .inr (by decide+kernel)) (by rw[Jc];exact rfl)
theorem mW(a:Value):argsOk "reversed.__iter__" ⟨[a],[]⟩:=by
 unfold argsOk;rw[Jd (id:="reversed.__iter__") (n:=['_','_','r','e','t','i','_','_']) (o:=['d','e','s','r','e','v','e','r']) rfl gJ];exact rfl
theorem lS:entryFor table "reversed.__iter__"=some Builtin.«dict_keyiterator.__iter__»:=
 entryFor_alias (id':="dict_keyiterator.__iter__") ⋯ (by first|rfl|decide+kernel|(unfold String.splitOn;simp+decide [String.splitOnAux])) (by decide+kernel) ⋯
set_option tactic.hygienic true in
theorem nt{a t:Addr}{l:List V}{i:Nat}(hh:A.handled=none)(ok:c.Ok)(st:aQ c ρ σ s.heap)(g:Gd c s.heap)(hit:s.heap.get? a=some (kE t ((i:Int)-1)))(r:R s.heap ρ (.tup l) (.ref t))(p:a∈ρ.p):
 (i=0→d_ c A a s (fun _ _=>False) (fun s'=>ad c [a] ρ s ρ σ s'))∧
 (∀j x,i=j+1→l[j]? =some x→l.length≤2^20→d_ c A a s (fun v s'=>ad c [a] ρ s ρ σ s'∧R s'.heap ρ x v∧bC s'.heap ρ (.revt l j) [a] a) (fun s'=>False)):=by
 have hT:s.TypeIs (.ref a) "reversed":=⟨_,hit,rfl⟩;constructor
 ·rintro rfl;refine IU (name:=Kn "__next__") hT cL (IR cL hT gH ?_ (ix _));unfold Builtin.«reversed.__next__»;refine IH (IO (a:=(Ko a,[])) rfl ?_)
  try dsimp only
  refine IH (IK hit rfl (x:= .ref t) rfl ?_);refine IH (IK hit rfl (x:=rawInt (-1)) rfl ?_)
  show IG _ _ (if(-1:Int)<0 then _ else _) _ _ s
  refine cX (by decide) ?_
  refine IH (IN ?_);have key: ∀{α:Type} {Q:α→Shared→Prop} {f:Unit→Sem α},(∀s',ad c [a] ρ s ρ σ s'→IG (model c.prog c.w) A.in1 (f ()) Q (fun e s'=>nH e s'∧ad c [a] ρ s ρ σ s') s')→
   IG (model c.prog c.w) A.in1 ((do setField (.ref a) 1 (rawInt (-1));setField (.ref a) 0 .none)>>=f) Q (fun e s'=>nH e s'∧ad c [a] ρ s ρ σ s') s:=by
   intro α Q f hf
   refine IH (IH (IX hit (by exact HY _) fun KP h1 Lr=>IX h1 (by exact H0 _) fun K_ h2 hs₂=> ?_))
   exact hf _ (ad.same ok st g p (Lr.trans hs₂))
  refine key fun s' S=> ?_;refine IH (m:=Builtin.SmallTypes.stopIteration) (eK (c:=c) (A:=A.in1) hh fun o1 o2 c2 f2=>⟨dS c2 f2,?_⟩);exact S.trans (ad.push2 ok S.sto S.gd)
 ·rintro j x rfl hx hz
  cases r with
  |tup h1 f1 rs=>
  rename_i vs n;refine aK (rs.get hx) fun v ev rv=> ?_;refine IU (name:=Kn "__next__") hT cL (IR cL hT gH ?_ (ix _));unfold Builtin.«reversed.__next__»;refine IH (IO (a:=(Ko a,[])) rfl ?_)
  try dsimp only
  have ej:((j+1:Nat):Int)-1=(j:Int):=by exact sj
  rw[ej]at hit;have ht:s.TypeIs (.ref t) "tuple":=⟨_,h1,rfl⟩;refine IH (IK hit rfl (x:= .ref t) rfl ?_);refine IH (IK hit rfl (x:=rawInt (j:Int)) rfl ?_)
  show IG _ _ (if(j:Int)<0 then _ else _) _ _ s
  refine bV (by omega) ?_
  refine IH (m:=specialOf _ _) (I2 ht JQ.lookup ?_);show IG _ _ (mkInt j>>=_) _ _ s;refine IH (wpAny_mkInt ?_);have hlt:j<l.length:=(GZ.mp hx).1
  have hsi:seqIndex? (j:Int) vs.toArray.size=some j:=by
   have:j<vs.length:=by rw[←rs.length];exact hlt
   have h0: ¬((j:Int)<0):=by omega
   unfold seqIndex?;simp only[h0,if_false,Hg]
   refine dQ (by simp;assumption) ?_
   simp
  refine IH (wpAny_attempt (getItem_tuple (s:={s with toks:=s.toks+1}) (cQ h1) (j:=j) (jm ac) (jlt ‹_› ‹_› (by exact ac)) hsi (x:=v) (by simpa using ev) ?_))
  show IG _ _ (field (.ref a) 1>>=_) _ _ _;refine IH (IK hit rfl (x:=rawInt (j:Int)) rfl ?_);show IG _ _ (setField (.ref a) 1 (rawInt ((j:Int)-1))>>=_) _ _ _
  refine IH (IX hit (by exact HY _) fun KP h2 Lr=>II ⟨v,rfl,v,rfl,?_⟩)
  have S:=ad.same (c:=c) (t:=s.toks+1) ok st g p Lr
  exact⟨S,ad.R (by simpa using p) S rv,.revt h2 (ad.R (by simpa using p) S (.tup h1 f1 rs)) p⟩
end
section
theorem af.itrs{t:List It}{as:List Addr}(st:aQ c ρ σ s.heap)(x:af c ρ s KD KB s')(i:bD s.heap ρ t I as):bD s'.heap KD t I as:=ad.itrs st (by exact G7 _) (by simp) x i
variable (c)in
noncomputable def dI(t:It):Prop:= ∀(A:Around) (s:Shared) (ρ:Pl) (σ:Sg) (I:List Addr) (a:Addr) (r:Option (V×It)),A.handled=none→aQ c ρ σ s.heap→Gd c s.heap→bC s.heap ρ t I a→ay σ t=some r→
 d_ c A a s (fun v s'=> ∃x t',r=some (x,t')∧ad c I ρ s ρ σ s'∧R s'.heap ρ x v∧bC s'.heap ρ t' I a) (fun s'=>r=none∧ad c I ρ s ρ σ s')
theorem bD.snoc{I1:List Addr}{a1:Addr}(i:bC h ρ t I1 a1){as:List Addr}(r:bD h ρ ts I as):(∀x∈I,x∉I1)→bD h ρ (ts++[t]) (I++I1) (as++[a1]):=
 bD.ind (Q:=fun ts I as=>(∀x∈I,x∉I1)→bD h ρ (ts++[t]) (I++I1) (as++[a1])) (fun u_=>by have:=bD.cons i .nil fun u_ u_=>He;rw[G2]at this;exact this)
  (fun j u_ ih d n=>GY .. ▸ .cons j (ih fun x m=>n x (Hh _ m)) fun x m q=>(GN.mp q).elim (d x m) (n x (G9 _ m))) r
theorem bD.len{as:List Addr}(r:bD h ρ ts I as):ts.length=as.length:=bD.ind (Q:=fun ts u_ as=>ts.length=as.length) rfl (fun u_ u_ ih u_=>congrArg (· +1) ih) r
theorem ad.wider{D:List Addr}(x:ad c D ρ s KD KB s')(k: ∀a∈D,a∈D'):ad c D' ρ s KD KB s':=
 {x with ext:=x.ext.mono fun a m=>by rcases GN.mp m with q|q;exact GN.mpr (.inl (k a q));exact GN.mpr (.inr q)}
theorem ad.same_at{D:List Addr}(st:aQ c ρ σ s.heap)(x:ad c D ρ s KD KB s'){o:Obj}(p:a∈ρ.p)(n:a∉D)(e:s.heap.get? a=some o)(f:uK o=true):s'.heap.get? a=some o:=
 x.ext.get (fun m=>(GN.mp m).elim n (st.disj a p)) e f
set_option genInjectivity false in
structure ZL where
 tsd:List It
 tsr:List It
 Id:List Addr
 Ir:List Addr
 asd:List Addr
 asr:List Addr
 xs:List V
 vs:List Value
variable (c)in
structure ZC(ρ:Pl)(σ:Sg)(s:Shared)(D I as:List Addr)(ts:List It)(s':Shared)(L:ZL):Prop where
 step:ad c (D++I) ρ s ρ σ s'
 asL:as=L.asd++L.asr
 xl:L.xs.length=L.asd.length
 d:bD s'.heap ρ L.tsd L.Id L.asd
 r:bD s'.heap ρ L.tsr L.Ir L.asr
 IL:I=L.Id++L.Ir
 ap: ∀x∈L.Id,x∉L.Ir
 val:Rs s'.heap ρ L.xs L.vs
 sub: ∀t∈L.tsr,t∈ts
 nx:bh σ ts=(bh σ L.tsr).map (·.map fun p=>(L.xs++p.1,L.tsd++p.2))
theorem bD.inL{Ir Id:List Addr}{x:Addr}(e:I=Id++Ir)(n:x∉I):x∉Id∧x∉Ir:=by
 rw[e]at n;exact⟨fun m=>n (G9 _ m),fun m=>n (Hh _ m)⟩
section
variable {D as:List Addr}{L:ZL}
theorem ZC.len(Z:ZC c ρ σ s D I as ts s' L):L.vs.length=L.asd.length:=Z.val.length▸Z.xl
theorem ZC.write{x:Addr}(Z:ZC c ρ σ s D I as ts s' L)(S:ad c [x] ρ s' ρ σ KI)(px:x∈ρ.p)(nI:x∉I)(mD:x∈D):ZC c ρ σ s D I as ts KI L:=
 have pp: ∀a∈[x],a∈ρ.p:=dB px;have nn:=bD.inL Z.IL nI
 {Z with
  step:=Z.step.trans (S.wider (dB (G9 _ mD)))
  d:=ad.itrs Z.step.sto pp (fun y m q=>nn.1 (GP.mp q▸m)) S Z.d
  r:=ad.itrs Z.step.sto pp (fun y m q=>nn.2 (GP.mp q▸m)) S Z.r
  val:=ad.Rs pp S Z.val}
theorem ZC.start{x:Addr}(st:aQ c ρ σ s.heap)(S:ad c [x] ρ s ρ σ s')(px:x∈ρ.p)(nI:x∉I)(mD:x∈D)(its:bD s.heap ρ ts I as):ZC c ρ σ s D I as ts s' ⟨[],ts,[],I,[],as,[],[]⟩ where
 step:=S.wider (dB (G9 _ mD))
 asL:=rfl
 xl:=rfl
 d:= .nil
 r:=ad.itrs st (dB px) (fun y m q=>nI (GP.mp q▸m)) S its
 IL:=rfl
 ap:=fun u_ m=>nomatch m
 val:= .nil
 sub:=fun u_ m=>m
 nx:=by
  cases bh σ ts with
  |none=>rfl
  |some o=>cases o<;>rfl
theorem j6{r:Option (V×It)}(e:ay σ t=some r):bh σ (t::ts)=r.elim (some none) fun p=>(bh σ ts).map fun q=>q.map fun q=>(p.1::q.1,p.2::q.2):=by rw[ji,e];rfl
theorem ZC.stop(Z:ZC c ρ σ s D I as ts s' L){l:List It}(ht:L.tsr=t::l)(e:ay σ t=some none):bh σ ts=some none:=by rw[Z.nx,ht,j6 e];rfl
theorem ZC.more(Z:ZC c ρ σ s D I as ts s' L){l:List It}{r0:Option (List V×List It)}(ht:L.tsr=t::l)(hr:bh σ ts=some r0): ∃r,ay σ t=some r:=by
 have:=Z.nx.symm.trans hr;rw[ht]at this;exact aP this fun u_ h u_=>ae h fun r h u_=>⟨r,h⟩
theorem ZC.all(Z:ZC c ρ σ s D I as ts s' L)(ht:L.tsr=[]):bh σ ts=some (some (L.xs,L.tsd)):=by
 rw[Z.nx,ht];show some (some (L.xs++[],L.tsd++[]))=_;rw[G2,G2]
noncomputable def Kp(ρ:Pl)(I:List Addr)(s' KI:Shared):Prop:= ∀b o,b∈ρ.p→b∉I→s'.heap.get? b=some o→uK o=true→KI.heap.get? b=some o
set_option tactic.hygienic true in
theorem ZC.turn{a1:Addr}{asr':List Addr}{r0:Option (List V×List It)}(ih: ∀t∈ts,dI c t)(hh:A.handled=none)(Z:ZC c ρ σ s D I as ts s' L)(ha:L.asr=a1::asr')(hr:bh σ ts=some r0):
 IG (model c.prog c.w) A (JB (.ref a1)) (fun v KI=> ∃L',ZC c ρ σ s D I as ts KI L'∧L'.asr=asr'∧L'.vs=L.vs++[v]∧Kp ρ I s' KI)
  (fun e KI=>nH e KI∧r0=none∧ad c (D++I) ρ s ρ σ KI∧Kp ρ I s' KI) s':=by
 obtain⟨tsd,tsr,Id,Ir,asd,asr,xs,vs⟩:=L;subst ha;have zr:=Z.r
 cases zr with
 |cons i1 irs dj=>
 rename_i t tsr' I1 J;have inI: ∀x∈I1,x∈I:=fun x m=>Z.IL▸Hh _ (G9 _ m);have kp: ∀{KI},ad c I1 ρ s' ρ σ KI→Kp ρ I s' KI:=fun S b o p n e f=>S.same_at Z.step.sto p (fun m=>n (inI b m)) e f;have st2: ∀{KI},ad c I1 ρ s' ρ σ KI→ad c (D++I) ρ s ρ σ KI:=fun S=>Z.step.trans (S.wider fun x m=>Hh _ (inI x m));refine oE (Z.more rfl hr) fun r1 e1=> ?_;refine IJ (ih t (Z.sub t (.head _)) A s' ρ σ I1 a1 r1 hh Z.step.sto Z.step.gd i1 e1).nextOf (fun v KI K_=> ?_) fun KY KI K_=> ?_
 ·refine bS K_ fun x t' e2 KH rv i2=> ?_;subst e2;have pI:=i1.priv.1;refine⟨⟨tsd++[t'],tsr',Id++I1,J,asd++[a1],asr',xs++[x],vs++[v]⟩,?_,rfl,rfl,kp KH⟩
  exact {
   step:=st2 KH
   asL:=Z.asL.trans (List.append_cons ..)
   xl:=by rw[G4,G4];exact congrArg (· +1) Z.xl
   d:=bD.snoc i2 (ad.itrs Z.step.sto pI (fun x m q=>Z.ap x m (G9 _ q)) KH Z.d) fun x m q=>Z.ap x m (G9 _ q)
   r:=ad.itrs Z.step.sto pI (fun x m q=>dj x q m) KH irs
   IL:=Z.IL.trans (GY ..).symm
   ap:=fun x m q=>(GN.mp m).elim (fun y=>Z.ap x y (Hh _ q)) fun y=>dj x y q
   val:=(ad.Rs pI KH Z.val).append (.cons rv .nil)
   sub:=fun t m=>Z.sub t (.tail _ m)
   nx:=by
    refine Z.nx.trans ?_;rw[j6 e1]
    cases bh σ tsr' with
    |none=>rfl
    |some o=>
     cases o with
     |none=>rfl
     |some p=>exact congrArg (fun q=>some (some q)) (Prod.ext (List.append_cons ..) (List.append_cons ..))}
 ·refine mN K_ fun hst e2 KH=> ?_;subst e2;exact⟨hst,IF (hr.symm.trans (Z.stop rfl e1)),st2 KH,kp KH⟩
end
theorem Fe{r:Option (V×It)}(e:ay σ (.zip ts)=some r):ts.length≤64∧ ∃r0,bh σ ts=some r0∧(r0=none→r=none)∧ ∀xs ts',r0=some (xs,ts')→xs≠[]∧r=some (.tup xs,.zip ts'):=by
 refine oA (ik e) fun h e=>ae e fun r0 h0 e=>⟨h,r0,h0,fun z=> ?_,fun xs ts' z=> ?_⟩
 ·subst z;exact(IF e).symm
 ·subst z;refine oA (sC e) fun hne w=>⟨fun q=>hne (q▸rfl),(IF w).symm⟩
theorem kx{Q:Option Obj→Shared→Prop}(h:Q (s.heap.get? a) s):IG (model c.prog c.w) A (loadIfAlive a) Q E s:=fun u_ u_ u_=>h
theorem uY{vs ws:List α}{v:α}(h:ws.take k=vs)(hk:k<ws.length):(ws.set k v).take (k+1)=vs++[v]:=by
 rw[HT (by rw[Hr];exact hk),List.take_set_of_le (HW _),h]
 simp
structure ZO(as:List Addr)(a TI TO:Addr)(f0 f1:Value)(m m':Nat)(ws:List Value)(s':Shared):Prop where
 z:s'.heap.get? a=some (jJ f0 f1 TI TO)
 TI:s'.heap.get? TI=some (ao (as.map .ref) m)
 TO:s'.heap.get? TO=some (ao ws m')
theorem ZO.keep{as:List Addr}{TI TO:Addr}{f1:Value}{m m':Nat}(O:ZO as a TI TO f0 f1 m m' ws s')(p1:a∈ρ.p)(p2:TI∈ρ.p)(p3:TO∈ρ.p)(n4:a∉I)(n5:TI∉I)(n6:TO∉I)(k:Kp ρ I s' KI):ZO as a TI TO f0 f1 m m' ws KI:=
 ⟨k _ _ p1 n4 O.z rfl,k _ _ p2 n5 O.TI rfl,k _ _ p3 n6 O.TO rfl⟩
theorem ad.kp{x:Addr}(st:aQ c ρ σ s'.heap)(S:ad c [x] ρ s' ρ σ KI){b:Addr}{o:Obj}(p:b∈ρ.p)(n:b≠x)(e:s'.heap.get? b=some o)(f:uK o=true):KI.heap.get? b=some o:=S.same_at st p (fun m=>n (GP.mp m)) e f
theorem ZC.fin{D as:List Addr}{L:ZL}{r0:Option (List V×List It)}(Z:ZC c ρ σ s D I as ts s' L)(ha:L.asr=[])(hr:bh σ ts=some r0)(k:r0=some (L.xs,L.tsd)→I=L.Id→as=L.asd→G):G:=by
 obtain⟨tsd,tsr,Id,Ir,asd,asr,xs,vs⟩:=L;subst ha;have zr:=Z.r
 cases zr with
 |nil=>exact k (IF (hr.symm.trans (Z.all rfl))) (Z.IL.trans (G2 _)) (Z.asL.trans (G2 _))
noncomputable abbrev nL(cls f0 f1:Value)(vs:List Value):Obj:={cls:=cls,dict:=none,data:= .fields (f0::f1::vs).toArray,slots:= #[]}
theorem ph{T:Addr}{cls f1:Value}{Q:Bool→Shared→Prop}(ho:s.heap.get? a=some (nL cls (rawInt (T:Nat)) f1 vs))(hT:s.heap.get? T=some (ao ws n))
 (hQ: ∀KP g1,KP.get? a=some (nL cls (rawInt (T:Nat)) g1 vs)→Ka a s.heap KP→Q false {s with heap:=KP}):IG (model c.prog c.w) A (JA (.ref a)) Q E s:=by
 unfold JA;refine IH (IK ho rfl (x:=rawInt (T:Nat)) rfl ?_);refine(?_:IG _ _ (loadIfAlive ((T:Nat):Int).toNat>>=_) _ _ s);refine IH (kx ?_);rw[Gy,hT];refine bV Gi ?_;refine IH (IK ho rfl (x:=f1) rfl ?_)
 by_cases q:(f1 != .bool true)=true
 ·refine cX q ?_;exact IH (IX ho (Nat.succ_lt_succ (HX _)) fun KP LF Lr=>II (hQ KP _ LF Lr))
 ·refine bV q ?_
  first
   |exact II (hQ s.heap f1 ho (Ka.refl ..))
   |exact IH (II (II (hQ s.heap f1 ho (Ka.refl ..))))
theorem qd{b:Addr}{cls f1:Value}{Q:Unit→Shared→Prop}(ho:s.heap.get? a=some (nL cls f0 f1 vs))
 (hQ: ∀KP,KP.get? a=some (nL cls (rawInt (b:Nat)) (.bool false) vs)→Ka a s.heap KP→Q () {s with heap:=KP}):IG (model c.prog c.w) A (JC (.ref a) (.ref b)) Q E s:=by
 unfold JC;exact IH (IX ho (HX _) fun KP g₁ KF=>IX g₁ (Nat.succ_lt_succ (HX _)) fun K_ g₂ KI=>hQ K_ g₂ (KF.trans KI))
set_option tactic.hygienic true in
theorem By(ok:c.Ok)(ts:List It)(ih: ∀t∈ts,dI c t):dI c (.zip ts):=by
 intro A s ρ σ I' a r hh st g i e
 cases i with
 |zip hz H hTI hTO hl its p1 p2 p3 n1 n2 n3 n4 n5 n6=>
 rename_i I as TI TO f0 f1 ws m m';refine oA (Fe e) fun hz3 he=>bW he fun r0 hr rn rs=> ?_;have hT:s.TypeIs (.ref a) "zip":=⟨_,hz,rfl⟩
 change let Q0:=_;IG _ _ _ Q0 _ _;intros
 refine IU (name:=Kn "__next__") hT J0 (IR J0 hT PySem.F.entry_zip_next ?_ (PySem.F.args_zip_next_1 _));refine(?_:IG _ _ (field (.ref a) 2>>=_) _ _ _)
 ac_rfl
 refine IH (IK hz rfl (x:= .bool false) rfl ?_);refine(?_:IG _ _ (field (.ref a) 3>>=_) _ _ _)
 ac_rfl
 refine IH (IK hz rfl (x:= .ref TI) rfl ?_)
 change let Q0:=_;IG _ _ _ Q0 _ _;intros
 refine IH (IY hTI rfl ?_)
 have hemp:((as.map Ko).toArray).isEmpty=false:=by
  cases as with
  |cons b bs=>rfl
  |nil=>
   cases its
   exact absurd rfl (rs [] [] (IF hr).symm).1
 have hz2:as.length≤64:=its.len▸hz3;have m1:a∈[a,TI,TO]:= .head _;have m3:TO∈[a,TI,TO]:= .tail _ (.tail _ (.head _));refine bV (hemp▸Gi) ?_;show IG _ _ (JA (.ref a)>>=_) _ _ _
 rcases H with rfl|⟨T,vs,n,rfl,hT',fT⟩
 ·change let Q0:=_;IG _ _ _ Q0 _ _;intros
  refine IH ?_;unfold JA
  change let E0:=_;IG _ _ _ _ E0 _;intros
  refine IH (IK hz rfl (x:= .none) rfl (II ?_));simp only[if_true]
  ac_rfl
  refine IH (IN ?_)
  ac_rfl
  refine IH (IK hz rfl (x:= .ref TO) rfl ?_)
  ac_rfl
  refine IH (IX hz (HX _) fun KP LF Lr=> ?_);replace LF:KP.get? a=some (jJ .ellipsis f1 TI TO):=LF
  have KE:ad c [a] ρ s ρ σ {s with heap:=KP}:=ad.same (t:=s.toks) ok st g p1 Lr
  ac_rfl
  refine IH ?_
  change let Q0:=_;IG _ _ _ Q0 _ _;intros
  change let B0:=_;IG _ _ (forIn _ _ B0) _ _ _;intro B0
  refine Jh _ (fun rest b s'=>b=(none,())∧ ∃L ws',rest=(L.asr.map Ko).zipIdx L.vs.length∧ZC c ρ σ s [a,TI,TO] I as ts s' L∧ZO as a TI TO .ellipsis f1 m m' ws' s'∧ws'.length=as.length∧ws'.take L.vs.length=L.vs) _ ?_ ?_ _ _
   ⟨rfl,⟨[],ts,[],I,[],as,[],[]⟩,ws,rfl,ZC.start st KE p1 n4 m1 its,⟨LF,KE.kp st p2 n1.symm hTI rfl,KE.kp st p3 n2.symm hTO rfl⟩,hl.trans its.len,rfl⟩
  ·rintro p0 rest b s' ⟨rfl,L,ws',hrest,Z,O,hw,ht⟩
   cases ha:L.asr with
   |nil=>rw[ha]at hrest;exact nc hrest
   |cons a1 asr'=>
   rw[ha]at hrest;obtain⟨rfl,rfl⟩:=List.cons.inj hrest
   have hk:L.vs.length<ws'.length:=by rw[hw,Z.len,Z.asL,ha,G4];exact Ix (HX _)
   ac_rfl
   refine IH (wpAny_onRaise ?_);refine(?_:IG _ _ (JB (.ref a1)>>=_) _ _ _)
   ac_rfl
   refine IH (IJ (Z.turn (A:=A.in1) ih hh ha hr) (fun v KI K_=> ?_) fun KY KI K_=> ?_)
   ·refine nr K_ fun L' Z' h1 h2 k=> ?_;have O2:=O.keep p1 p2 p3 n4 n5 n6 k
    have sz:ws'.length≤sizeLine:=hw▸HV hz2 (by decide)
    change let Q0:=_;IG _ _ _ Q0 _ _;intros
    refine II ?_
    ac_rfl
    refine IH (IY O2.TO rfl ?_)
    ac_rfl
    refine IH (I3 O2.TO rfl ?_ (by assumption) (by simpa using H_ sz))
    ac_rfl
    refine IH (I4 (II ⟨rfl,?_⟩))
    have KT:ad c [TO] ρ KI ρ σ {KI with heap:=KI.heap.update TO (Kh (·.setIfInBounds L.vs.length v))}:=ad.same (t:=KI.toks) ok Z'.step.sto Z'.step.gd p3 (Kd ..)
    refine⟨L',ws'.set L.vs.length v,by rw[h1,h2,G4];rfl,Z'.write KT p3 n6 m3,⟨KT.kp Z'.step.sto p1 n2 O2.z rfl,KT.kp Z'.step.sto p2 n3 O2.TI rfl,?_⟩,Hr.trans hw,by rw[h2,G4];exact uY ht hk⟩
    refine(J' _ O2.TO rfl).trans ?_;simp[Kh,ao]
   ·refine uC K_ fun hst e0 KH k=> ?_;have zz:=(O.keep p1 p2 p3 n4 n5 n6 k).z;refine IX zz (HX _) fun LM hz₃ L4=> ?_
    have KT:ad c [a] ρ KI ρ σ {KI with heap:=LM}:=ad.same (t:=KI.toks) ok KH.sto KH.gd p1 L4
    refine dC hst fun b o e1 hb hcb=> ?_;refine⟨⟨b,o,e1,(L4.2 b fun q=> ?_).trans hb,hcb⟩,rn e0,KH.trans (KT.wider (dB (.head _)))⟩;rw[q,zz]at hb;obtain rfl:=IF hb
    exact absurd hcb (by simp)
  ·rintro b s' ⟨rfl,L,ws',hrest,Z,O,hw,ht⟩
   cases ha:L.asr with
   |cons a1 asr'=>rw[ha]at hrest;exact Cr hrest
   |nil=>
   refine Z.fin ha hr fun e0 eI ea=> ?_
   have hv:ws'=L.vs:=by rw[←ht,Z.len,←ea,←hw,List.take_length]
   subst hv;have er:=(rs _ _ e0).2;refine(?_:IG _ _ (seqItems? (.ref TO)>>=_) _ _ _)
   ac_rfl
   refine IH (IY O.TO rfl ?_)
   ac_rfl
   refine IH (Je ?_ (by simpa [hw]using HV hz2 (by decide)))
   have KE:af c ρ s' ρ σ {s' with heap:=s'.heap.push (ao L.vs 0)}:=af.push (t:=s'.toks) ok Z.step.sto Z.step.gd
   have rt:R (s'.heap.push (ao L.vs 0)) ρ (.tup L.xs) (.ref s'.heap.objs.size):= .tup (J7 _ rfl) (Z.step.sto.new (HW _)) (KE.Rs Z.val);have zz:(s'.heap.push (ao L.vs 0)).get? a=some (jJ .ellipsis f1 TI TO):=J8 _ O.z;refine(?_:IG _ _ (JC (.ref a) (.ref s'.heap.objs.size)>>=_) _ _ _)
   ac_rfl
   refine IH (qd zz fun L6 hz₅ hs₅=> ?_)
   have KH:ad c [a] ρ {s' with heap:=s'.heap.push (ao L.vs 0)} ρ σ {s' with heap:=L6}:=ad.same (t:=s'.toks) ok KE.sto KE.gd p1 hs₅
   have KT:ad c [a] ρ s' ρ σ {s' with heap:=L6}:=(af.D KE).trans KH
   have Z3:=Z.write KT p1 n4 m1;have Mo:=ad.R (dB p1) KH rt
   change let Q0:=_;IG _ _ _ Q0 _ _;intros
   refine II ⟨_,rfl,_,rfl,.tup L.xs,.zip L.tsd,er,Z3.step,Mo,?_⟩
   cases Mo using R.tupE with
   |tup g1 f1' _=>
   have d3:bD L6 ρ L.tsd I as:=by rw[eI,ea];exact Z3.d
   exact .zip hz₅ (.inr ⟨_,_,_,rfl,g1,f1'⟩) (KT.kp Z.step.sto p2 n1.symm O.TI rfl) (KT.kp Z.step.sto p3 n2.symm O.TO rfl) (Z.len.trans Z.d.len.symm) d3 p1 p2 p3 n1 n2 n3 n4 n5 n6
 ·change let Q0:=_;IG _ _ _ Q0 _ _;intros
  refine IH (ph hz hT' fun KP g1 LF Lr=> ?_)
  have KE:ad c [a] ρ s ρ σ {s with heap:=KP}:=ad.same (t:=s.toks) ok st g p1 Lr
  simp only[Gk,if_false]
  ac_rfl
  refine IH ?_;rw[←Array.forIn_toList]
  change let Q0:=_;IG _ _ _ Q0 _ _;intros
  change let B0:=_;IG _ _ (forIn _ _ B0) _ _ _;intro B0
  refine Jh _ (fun rest b s'=> ∃L,b=(none,L.vs.toArray)∧rest=L.asr.map Ko∧ZC c ρ σ s [a,TI,TO] I as ts s' L∧ZO as a TI TO (rawInt (T:Nat)) g1 m m' ws s') _ ?_ ?_ _ _
   ⟨⟨[],ts,[],I,[],as,[],[]⟩,rfl,rfl,ZC.start st KE p1 n4 m1 its,LF,KE.kp st p2 n1.symm hTI rfl,KE.kp st p3 n2.symm hTO rfl⟩
  ·rintro v0 rest b s' ⟨L,rfl,hrest,Z,O⟩
   cases ha:L.asr with
   |nil=>rw[ha]at hrest;exact nc hrest
   |cons a1 asr'=>
   rw[ha]at hrest;obtain⟨rfl,rfl⟩:=List.cons.inj hrest
   ac_rfl
   refine IH (IM ?_);refine(?_:IG _ _ (JB (.ref a1)>>=_) _ _ _)
   ac_rfl
   refine IH (IJ (Z.turn (A:=A.in1) ih hh ha hr) (fun v KI K_=> ?_) fun KY KI K_=> ?_)
   ·refine nr K_ fun L' Z' h1 h2 k=> ?_
    change let Q0:=_;IG _ _ _ Q0 _ _;intros
    exact II (II ⟨L',by rw[h2];simp,congrArg (·.map Ko) h1.symm,Z',O.keep p1 p2 p3 n4 n5 n6 k⟩)
   ·exact uC K_ fun hst e0 KH k=>⟨hst,rn e0,KH⟩
  ·rintro b s' ⟨L,rfl,hrest,Z,O⟩
   cases ha:L.asr with
   |cons a1 asr'=>rw[ha]at hrest;exact Cr hrest
   |nil=>
   refine Z.fin ha hr fun e0 eI ea=> ?_;have er:=(rs _ _ e0).2;have hxl:L.vs.length=as.length:=ea▸Z.len;refine(?_:IG _ _ (newTuple L.vs>>=_) _ _ _)
   ac_rfl
   refine IH (Je ?_ (by simpa [hxl]using HV hz2 (by decide)))
   have KE:af c ρ s' ρ σ {s' with heap:=s'.heap.push (ao L.vs 0)}:=af.push (t:=s'.toks) ok Z.step.sto Z.step.gd
   have rt:R (s'.heap.push (ao L.vs 0)) ρ (.tup L.xs) (.ref s'.heap.objs.size):= .tup (J7 _ rfl) (Z.step.sto.new (HW _)) (KE.Rs Z.val)
   change let Q0:=_;IG _ _ _ Q0 _ _;intros
   refine II ⟨_,rfl,_,rfl,.tup L.xs,.zip L.tsd,er,Z.step.trans (af.D KE),rt,?_⟩
   have d3:bD (s'.heap.push (ao L.vs 0)) ρ L.tsd I as:=by rw[eI,ea];exact af.itrs Z.step.sto KE Z.d
   have hps: ∀x∈a::TI::TO::I,x∈ρ.p:=ak p1 (ak p2 (ak p3 its.priv));refine .zip (J8 _ O.z) (.inr ⟨T,vs,n,rfl,?_,fT⟩) (J8 _ O.TI) (J8 _ O.TO) ((hl.trans its.len).trans ((congrArg List.length ea).trans Z.d.len.symm)) d3 p1 p2 p3 n1 n2 n3 n4 n5 n6;exact(Z.step.trans (af.D KE)).ext.get (fun q=>(GN.mp q).elim (fun q=>fT.2 (hps T q)) fT.1) hT' rfl
end
section
set_option tactic.hygienic true in
theorem zC(ok:c.Ok)(t:It)(ih:dI c t)(n:Int):dI c (.enum t n):=by
 intro A s ρ σ I' a r hh st g i e
 cases i with
 |enum he H it p ni=>
 rename_i I it0 f0 f1 old;have hT:s.TypeIs (.ref a) "enumerate":=⟨_,he,rfl⟩;refine aP e fun r1 e1 er=> ?_
 change let Q0:=_;IG _ _ _ Q0 _ _;intros
 change let E0:=_;IG _ _ _ _ E0 _;intros
 refine IU (name:=Kn "__next__") hT J1 (IR J1 hT PySem.F.entry_enumerate_next ?_ (PySem.F.args_enumerate_next_1 _));refine(?_:IG _ _ (field (.ref a) 2>>=_) _ _ _)
 and_intros
 refine IH (IK he rfl (x:= .ref it0) rfl ?_);have N:=ih A.in1 s ρ σ I it0 r1 hh st g it e1
 and_intros
 refine IH (IJ N.nextOf (fun v KI K_=> ?_) fun KY KI K_=> ?_)
 ·refine bS K_ fun x t' zz2 KH rv i2=> ?_;subst zz2;replace er:some (.tup [.int n,x],.enum t' (n+1))=r:=er;subst er;have h2:=KH.same_at st p ni he rfl;have H2:dn KI.heap ρ f0:=H.mono (ad.off it.priv.1) KH.ext KH.le;refine(?_:IG _ _ (field (.ref a) 3>>=_) _ _ _)
  and_intros
  refine IH (IK h2 rfl (x:=rawInt n) rfl ?_);refine(?_:IG _ _ (field (.ref a) 4>>=_) _ _ _)
  and_intros
  refine IH (IK h2 rfl (x:= .none) rfl ?_);refine(?_:IG _ _ (mkInt n>>=_) _ _ _)
  and_intros
  refine IH (wpAny_mkInt ?_)
  refine(?_:IG _ _ (setField (.ref a) 3 (rawInt (n+1))>>=_) _ _ {KI with toks:=KI.toks+1})
  and_intros
  refine IH (IX h2 (by exact H7 ac) fun LM h3 L4=> ?_)
  replace h3:LM.get? a=some (dM f0 f1 it0 (n+1) old):=h3
  refine(?_:IG _ _ (setField (.ref a) 4 .none>>=_) _ _ {KI with heap:=LM,toks:=KI.toks+1})
  and_intros
  refine IH (IX h3 (by exact H0 _) fun Lm h4 hs₄=> ?_)
  replace h4:Lm.get? a=some (dM f0 f1 it0 (n+1) old):=h4;have hs:Ka a KI.heap Lm:=L4.trans hs₄
  have KT:ad c [a] ρ KI ρ σ {KI with heap:=Lm,toks:=KI.toks+1}:=ad.same (t:=KI.toks+1) ok KH.sto KH.gd p hs
  refine(?_:IG _ _ (newTuple [.int n KI.toks,v]>>=_) _ _ {KI with heap:=Lm,toks:=KI.toks+1})
  and_intros
  refine IH (Je ?_)
  have K4:af c ρ {KI with heap:=Lm,toks:=KI.toks+1} ρ σ {KI with heap:=Lm.push (ao [.int n KI.toks,v] 0),toks:=KI.toks+1}:=af.push (t:=KI.toks+1) ok KT.sto KT.gd
  have rt:R (Lm.push (ao [.int n KI.toks,v] 0)) ρ (.tup [.int n,x]) (.ref Lm.objs.size):=
   .tup (J7 _ rfl) (KT.sto.new (HW _)) (.cons .int (.cons (K4.R (ad.R (dB p) KT rv)) .nil))
  have h5:(Lm.push (ao [.int n KI.toks,v] 0)).get? a=some (dM f0 f1 it0 (n+1) old):=J8 _ h4;have Lg:=KT.trans (af.D K4);have H5:dn (Lm.push (ao [.int n KI.toks,v] 0)) ρ f0:=H2.mono (ad.off (D:=[a]) (dB p)) Lg.ext Lg.le
  have i5:=ad.itr KH.sto (dB p) (fun y m q=>ni (by rw[GP.mp q]at m;exact m)) Lg i2
  have fin: ∀h' f0' f1' old',h'.get? a=some (dM f0' f1' it0 (n+1) old')→Ka a (Lm.push (ao [.int n KI.toks,v] 0)) h'→(f0'=f0∨f0'=rawInt (Lm.objs.size:Nat))→
   ∃x_1 t'_1,some (V.tup [V.int n,x],It.enum t' (n+1))=some (x_1,t'_1)∧ad c (a::I) ρ s ρ σ {KI with heap:=h',toks:=KI.toks+1}∧R h' ρ x_1 (.ref Lm.objs.size)∧bC h' ρ t'_1 (a::I) a:=by
   intro h' f0' f1' old' hg hsb hf
   have LG:ad c [a] ρ {KI with heap:=Lm.push (ao [.int n KI.toks,v] 0),toks:=KI.toks+1} ρ σ {KI with heap:=h',toks:=KI.toks+1}:=ad.same (t:=KI.toks+1) ok Lg.sto Lg.gd p hsb
   have rt6:=ad.R (dB p) LG rt
   have H6:dn h' ρ f0':=by
    rcases hf with rfl|rfl
    ·exact H5.mono (ad.off (D:=[a]) (dB p)) LG.ext LG.le
    ·cases rt6 using R.tupE with
     |tup g1 f1 _=>exact .inr ⟨_,_,_,rfl,g1,f1⟩
   exact⟨_,_,rfl,(KH.wider fun y m=>by exact HJ _ (by assumption)).trans ((Lg.trans LG).wider (fun _ m=>G9 _ m)),rt6,
    .enum hg H6 (ad.itr Lg.sto (dB p) (fun y m q=>ni (by rw[GP.mp q]at m;exact m)) LG i5) p ni⟩
  refine(?_:IG _ _ (JA (.ref a)>>=_) _ _ _)
  rcases H5 with hf|⟨T,vs,m,hf,hT',fT⟩
  ·and_intros
   refine IH ?_;unfold JA;replace h5:(Lm.push (ao [.int n KI.toks,v] 0)).get? a=some (dM .none f1 it0 (n+1) old):=hf▸h5;refine IH (IK h5 rfl (x:= .none) rfl (II ?_));simp only[if_true]
   and_intros
   refine IH (IN ?_)
   and_intros
   refine IH (IK h5 rfl (x:=old) rfl ?_)
   and_intros
   refine IH (IX h5 (HW _) fun h₆ h6 hs₆=> ?_);replace h6:h₆.get? a=some (dM .none f1 it0 (n+1) v):=h6;refine(?_:IG _ _ (JC (.ref a) (.ref Lm.objs.size)>>=_) _ _ _)
   and_intros
   refine IH (qd h6 fun h₈ h8 hs₈=> ?_)
   and_intros
   refine IH (I4 (II ⟨_,rfl,_,rfl,fin h₈ _ _ _ h8 (hs₆.trans hs₈) (.inr rfl)⟩))
  ·replace h5:(Lm.push (ao [.int n KI.toks,v] 0)).get? a=some (dM (rawInt (T:Nat)) f1 it0 (n+1) old):=hf▸h5
   change let Q0:=_;IG _ _ _ Q0 _ _;intros
   refine IH (ph h5 hT' fun KP g1 LF Lr=> ?_);simp only[Gk,if_false]
   first
    |exact II ⟨_,rfl,_,rfl,fin KP _ _ _ LF Lr (.inl hf.symm)⟩
    |exact IH (II (II ⟨_,rfl,_,rfl,fin KP _ _ _ LF Lr (.inl hf.symm)⟩))
 ·refine mN K_ fun hst zz1 KH=> ?_;subst zz1;exact⟨hst,er.symm,KH.wider fun y m=> .tail _ m⟩
theorem vy(ok:c.Ok)(l:List V)(k:Nat):dI c (.seq l k):=by
 intro A s ρ σ I a r hh st g i e
 cases i with
 |seq h1 r1 p=>
 obtain rfl:=IF e;exact(vZ hh ok st g h1 r1 p).mono (fun v s' h=>nr h fun x hx S rv it=>⟨x,_,congrArg (xL · _) hx,S,rv,it⟩) fun s' h=>⟨congrArg (xL · _) h.1,h.2⟩
theorem wE(ok:c.Ok)(k j:Nat):dI c (.lst k j):=by
 intro A s ρ σ I a r hh st g i e
 cases i with
 |lst h1 r1 p=>
 refine aP e fun l hl e=> ?_;subst e;exact(wG hh ok st g h1 r1 (bF hl) p).mono (fun v s' h=>nr h fun x hx S rv it=>⟨x,_,congrArg (xL · _) hx,S,rv,it⟩) fun s' h=>⟨congrArg (xL · _) h.1,h.2⟩
theorem vV(ok:c.Ok)(x left step:Int):dI c (.rng x left step):=by
 intro A s ρ σ I a r hh st g i e
 cases i with
 |rng h1 p=>
 obtain rfl:=IF e;exact(vX hh ok st g h1 p).mono (fun v s' h=>uC h fun hx S rv it=>⟨_,_,if_pos hx,S,rv,it⟩) fun s' h=>⟨if_neg h.1,h.2⟩
theorem ur(ok:c.Ok)(k j:Nat):dI c (.revl k j):=by
 intro A s ρ σ I a r hh st g i e
 cases i with
 |revl h1 r1 p=>
 cases j with
 |zero=>
  obtain rfl:=IF e;exact((m9 (l:=[]) hh ok st g h1 r1 p).1 rfl).mono (fun v s' h=>h.elim) fun s' S=>⟨rfl,S⟩
 |succ j=>
  refine ae e fun l hl e=>aP e fun x hx e=> ?_;subst e;exact((m9 hh ok st g h1 r1 p).2 j x rfl (bF hl) hx).mono (fun v s' h=>⟨x,_,rfl,h⟩) fun s' h=>h.elim
theorem uJ(ok:c.Ok)(l:List V)(j:Nat):dI c (.revt l j):=by
 intro A s ρ σ I a r hh st g i e
 cases i with
 |revt h1 r1 p=>
 cases j with
 |zero=>
  obtain rfl:=IF e;exact((nt hh ok st g h1 r1 p).1 rfl).mono (fun v s' h=>h.elim) fun s' S=>⟨rfl,S⟩
 |succ j=>
  refine ae e fun x hx e=>bI e fun hz e=> ?_;obtain rfl:=IF e;exact((nt hh ok st g h1 r1 p).2 j x rfl hx hz).mono (fun v s' h=>⟨x,_,rfl,h⟩) fun s' h=>h.elim
theorem It.next(ok:c.Ok)(t:It):dI c t:=
 It.rec (motive_1:=fun t=>dI c t) (motive_2:=fun ts=> ∀t∈ts,dI c t) (vy ok) (wE ok) (vV ok) (ur ok) (uJ ok) (fun ts ih=>By ok ts ih) (fun t n ih=>zC ok t ih n) ck (fun t ts h k=>ak h k) t
theorem It.pull{Q:Option Value→Shared→Prop}(hh:A.handled=none)(ok:c.Ok)(st:aQ c ρ σ s.heap)(g:Gd c s.heap)(i:bC s.heap ρ t I a)(hn:ay σ t=some (some (x,t')))
 (h: ∀w KF,ad c I ρ s ρ σ KF→R KF.heap ρ x w→bC KF.heap ρ t' I a→Q (some w) KF):IG (model c.prog c.w) A (pyNext (.ref a)) Q E s:=by
 refine IJ (It.next ok t A s ρ σ I a _ hh st g i hn).pyNext (fun r KF KP=> ?_) fun u_ u_ z=>z
 cases r with
 |none=>exact EC KP.1
 |some w=>refine bS KP fun x' t'' q S rv i'=> ?_;obtain⟨rfl,rfl⟩:=Prod.mk.inj (IF q);exact h w KF S rv i'
theorem It.pull0{Q:Option Value→Shared→Prop}(hh:A.handled=none)(ok:c.Ok)(st:aQ c ρ σ s.heap)(g:Gd c s.heap)(i:bC s.heap ρ t I a)(hn:ay σ t=some none)
 (h: ∀KF,ad c I ρ s ρ σ KF→Q none KF):IG (model c.prog c.w) A (pyNext (.ref a)) Q E s:=by
 refine IJ (It.next ok t A s ρ σ I a _ hh st g i hn).pyNext (fun r KF KP=> ?_) fun u_ u_ z=>z
 cases r with
 |some w=>refine bf KP fun x' t'' q u_=> ?_;exact no q
 |none=>exact h KF KP.2
end
section
theorem lq{self:Value}{rest:List Value}{Q:PySem.Fin→Shared→Prop}(hl:typeLookup (.type T) "__init__"=pure (some (.builtin "object.__init__")))
 (hm:Bind.madeBy (.type T)=pure (some newId)) (hne:(some newId !=some "object.__new__")=true) (hT:s.TypeIs self T) (hq:Q (.done (.ret .none)) s):
 IG (model c.prog c.w) A (Builtin.«object.__init__» ⟨self::rest,kw⟩) Q E s:=by
 cases rest with
 |nil=>
  cases kw with
  |nil=>exact II hq
  |cons p kw=>
   repeat (any_goals (first|assumption|wp_step))
 |cons a rest=>
  repeat (any_goals (first|assumption|wp_step))
theorem ei{Bn:Builtin}{args:List Value}(ft:TypeCalled T newId "object.__init__")(hne:(some newId !=some "object.__new__")=true)
 (hct:checkTypeCall T ⟨args,kw⟩=pure ()) (hcn:checkBuiltinCall newId ⟨.type T::args,kw⟩=pure ()) (hok: ∀obj,argsOk "object.__init__" ⟨obj::args,kw⟩) (entryN:entryFor table newId=some Bn)
 (h:IG (model c.prog c.w) A.in1.in1 (Bn ⟨.type T::args,kw⟩) (fun fin s'=> ∃v,fin= .done (.ret v)∧s'.TypeIs v T∧Q v s') E s):
 IG (model c.prog c.w) A (call (.type T) args kw) Q E s:=by
 obtain⟨cc,tl,hmro⟩:=ft.mro;have hmade:=ft.made;have hsub:=ft.sub;refine I7 (Ji ?_);show IG _ _ (callAny (.type T) _) _ _ _
 refine II ⟨JL _ (by decide+kernel),IQ PySem.F.entry_type_call ?_⟩
 rw[Around.under_plain (weight_type_call_type T args kw) rfl];have h1:=ft.notType;have h2:=ft.canCreate
 repeat (any_goals (first|assumption|wp_step))
 refine I5 (R:=wants (fun obj KF=>KF.TypeIs obj T∧Q obj KF) E) (Jm ft.plain entryN (IO hcn (IJ h (fun fin s' h'=>by obtain⟨v,rfl,hv⟩:=h';exact hv) fun u_ u_ x=>x))) fun r KF hr=> ?_
 cases r with
 |error e=>exact hr
 |ok fl=>
  cases fl with
  |ret obj=>
   obtain⟨hT,hq⟩:=hr;have hli:=ft.init.lookup;have hbi:=ft.init.bind obj
   repeat (any_goals (first|assumption|wp_step))
   refine I5 (R:=wants (fun r KI=>r= .none∧Q obj KI) E) (Jm ft.init.plain PySem.F.entry_object_init (ft.init.check _ _ _ _ _ _ _ _ hT (hok obj) (lq hli hmade hne hT ⟨rfl,hq⟩))) fun K' KI L7=> ?_
   cases K' with
   |error e=>exact L7
   |ok L8=>
    cases L8 with
    |ret r=>
     obtain⟨rfl,hq⟩:=L7
     repeat (any_goals (first|assumption|wp_step))
    |_=>exact L7.elim
  |_=>exact hr.elim
end
section
inductive IV where
 |v (x:V)
 |it (t:It)
 deriving Inhabited
inductive nQ(h:Heap)(ρ:Pl):IV→List Addr→Value→Prop
 |v {x:V} {w:Value}:R h ρ x w→nQ h ρ (.v x) [] w
 |it {t:It} {I:List Addr} {a:Addr}:bC h ρ t I a→nQ h ρ (.it t) I (.ref a)
noncomputable def DW(σ:Sg):V→Option It
 | .tup l=>some (.seq l 0)
 | .lst k=>(aI σ k).map fun u_=> .lst k 0
 | .rng a b d=>if Jw a b d=true then some (.rng a (Jv a b d) d)else none
 |_=>none
noncomputable def aC(σ:Sg):IV→Option It
 | .it t=>some t
 | .v x=>DW σ x
theorem fJ(h:σ[k]? =some (.lst l)):aC σ (.v (.lst k))=some (.lst k 0):=by
 show(aI σ k).map _=_;rw[aN h];rfl
theorem bC.iter_self(i:bC s.heap ρ t I a)(h:Q (.ref a) s):IG (model c.prog c.w) A (pyIter (.ref a)) Q E s:=by
 cases i with
 |seq h1 r p=>exact wpAny_pyIter_tupleiter h1 h
 |lst h1 r p=>exact wpAny_pyIter_listiter h1 h
 |rng h1 p=>exact wpAny_pyIter_rangeiter h1 h
 |revl h1 r p=>exact wpAny_pyIter_revIter h1 h
 |revt h1 r p=>
  have hT:s.TypeIs (.ref a) "reversed":=⟨_,h1,rfl⟩;refine wpAny_pyIter_slot hT ii (IR ii hT lS ?_ (mW _));show IG _ _ (ret (.ref a)) _ _ s;exact II ⟨_,rfl,"reversed",_,hT,cL.lookup,h⟩
 |zip h1=>
  have hT:s.TypeIs (.ref a) "zip":=⟨_,h1,rfl⟩;refine wpAny_pyIter_slot hT PySem.F.slot_zip_iter (IR PySem.F.slot_zip_iter hT PySem.F.entry_zip_iter ?_ (PySem.F.args_zip_iter_1 _));show IG _ _ (ret (.ref a)) _ _ s;exact II ⟨_,rfl,"zip",_,hT,J0.lookup,h⟩
 |enum h1=>
  have hT:s.TypeIs (.ref a) "enumerate":=⟨_,h1,rfl⟩;refine wpAny_pyIter_slot hT PySem.F.slot_enumerate_iter (IR PySem.F.slot_enumerate_iter hT PySem.F.entry_enumerate_iter ?_ (PySem.F.args_enumerate_iter_1 _));show IG _ _ (ret (.ref a)) _ _ s;exact II ⟨_,rfl,"enumerate",_,hT,J1.lookup,h⟩
set_option tactic.hygienic true in
theorem dJ{iv:IV}{I:List Addr}{t:It}{v:Value}{Q:Value→Shared→Prop}{E:Value→Shared→Prop}(ok:c.Ok)(st:aQ c ρ σ s.heap)(g:Gd c s.heap)(e:aC σ iv=some t)(r:nQ s.heap ρ iv I v)
 (h: ∀KD J a s',af c ρ s KD σ s'→bC s'.heap KD t J a→(∀x∈J,x∈I∨s.heap.objs.size≤x)→Q (.ref a) s'):IG (model c.prog c.w) A (pyIter v) Q E s:=by
 cases r with
 |it i=>
  obtain rfl:=IF e;exact i.iter_self (h _ _ _ _ (.refl st g) i fun x m=> .inl m)
 |v r=>
  cases r with
  |tup h1 f1 rs=>
   rename_i l ta vs n;obtain rfl:=IF e;have S:=af.priv (c:=c) (ρ:=ρ) (o:={cls:= .type "tuple_iterator",data:= .fields #[.ref ta,.int 0 0]}) (t:=s.toks) ok st g
   refine iter_tuple (cQ h1) (h _ _ _ _ S (.seq ⟨_,J7 _ rfl,rfl,rfl⟩ (S.R (.tup h1 f1 rs)) (.head _)) (by simp))
  |lst h1=>
   rename_i k la;refine aP e fun l hl zz=> ?_
   ·subst zz
    refine bf (st.at_ _ _ _ h1 (bF hl)) fun vs n h2 rs=> ?_
    have S:=af.priv (c:=c) (ρ:=ρ) (o:={cls:= .type "list_iterator",data:= .fields #[.ref la,.int 0 0]}) (t:=s.toks) ok st g
    refine wpAny_pyIter_list (bR h2) (h _ _ _ _ S (.lst ⟨_,J7 _ rfl,rfl,rfl⟩ h1 (.head _)) (by simp))
  |rng h1 f1=>
   rename_i x y d ra u1 u2 u3;refine bI e fun hsm zz=> ?_
   ·obtain rfl:=IF zz;have S:=af.priv (c:=c) (ρ:=ρ) (o:={cls:= .type "range_iterator",data:= .fields #[rawInt x,rawInt (Jv x y d),rawInt d]}) (t:=s.toks) ok st g
    exact wpAny_pyIter_range h1 hsm (h _ _ _ _ S (.rng (J7 _ rfl) (.head _)) (by simp))
  |_=>exact no e
inductive cR(h:Heap)(ρ:Pl):List IV→List Addr→List Value→Prop
 |nil:cR h ρ [] [] []
 |cons {x:IV} {xs:List IV} {I J:List Addr} {v:Value} {vs:List Value}:nQ h ρ x I v→cR h ρ xs J vs→(∀a∈I,a∉J)→cR h ρ (x::xs) (I++J) (v::vs)
theorem cR.nilE{motive: ∀I w,cR h ρ [] I w→Prop}(nil:motive [] [] .nil){w:List Value}(r:cR h ρ [] I w):motive I w r:=by cases r;exact nil
theorem nQ.priv{x:IV}(r:nQ h ρ x I v): ∀a∈I,a∈ρ.p:=by
 cases r with
 |v=>exact G7 _
 |it i=>exact i.priv.1
theorem cR.priv{x:List IV}{v:List Value}(r:cR h ρ x I v): ∀a∈I,a∈ρ.p:=cR.rec (motive:=fun u_ I u_ u_=> ∀a∈I,a∈ρ.p) ck (fun r u_ u_ ih a m=>(GN.mp m).elim (r.priv a) (ih a)) r
theorem af.ivr{x:IV}(st:aQ c ρ σ s.heap)(S:af c ρ s KD KB s')(r:nQ s.heap ρ x I v):nQ s'.heap KD x I v:=by
 cases r with
 |v r=>exact .v (S.R r)
 |it i=>exact .it (S.itr st i)
theorem af.ivrs(st:aQ c ρ σ s.heap)(S:af c ρ s KD KB s'){x:List IV}{v:List Value}(r:cR s.heap ρ x I v):cR s'.heap KD x I v:=
 cR.rec (motive:=fun x I v u_=>cR s'.heap KD x I v) .nil (fun r u_ d ih=> .cons (S.ivr st r) ih d) r
noncomputable def jQ(σ:Sg):List IV→Option (List It)
 |[]=>some []
 |x::xs=>(aC σ x).bind fun t=>(jQ σ xs).map fun ts=>t::ts
theorem pM(ok:c.Ok){f:Value→Array Value→Sem (ForInStep (Array Value))}(hf: ∀v acc,f v acc=(do let r←holding acc.toList (pyIter v);pure (.yield (acc.push r)))): ∀{xs:List IV} {I:List Addr} {ts:List It} {vs:List Value} {ρ:Pl} {s:Shared} (acc:Array Value) {Q:Array Value→Shared→Prop} {E:Value→Shared→Prop},
 aQ c ρ σ s.heap→Gd c s.heap→jQ σ xs=some ts→cR s.heap ρ xs I vs→
 (∀KD J as s',af c ρ s KD σ s'→bD s'.heap KD ts J as→(∀x∈J,x∈I∨s.heap.objs.size≤x)→Q (acc++(as.map Ko).toArray) s')→IG (model c.prog c.w) A (forIn vs acc f) Q E s:=by
 intro xs
 induction xs with
 |nil=>
  intro I ts vs ρ s acc Q E st g e r h
  cases r using cR.nilE
  obtain rfl:=IF e;rw[List.forIn_nil]
  exact II (by simpa using h ρ [] [] s (.refl st g) .nil (by simp))
 |cons x xs ih=>
  intro I₀ ts vs ρ s acc Q E st g e r h
  cases r with
  |cons r rs d=>
  refine ae e fun t h1 e=>aP e fun ts' h2 zz=> ?_
  ·subst zz;rw[Hi,hf];refine IH (IH (IM (dJ ok st g h1 r fun KQ I₁ a KF KE Lq k₁=>II ?_)));refine ih (acc.push (.ref a)) KE.sto KE.gd h2 (KE.ivrs st rs) fun KX J₂ as KI KH Lh k₂=> ?_;have:=h KX (I₁++J₂) (a::as) KI (KE.trans KH) (.cons (KH.itr KE.sto Lq) Lh fun y m n=> ?_) fun y m=> ?_
   ·simpa using this
   ·rcases k₂ y n with q|q
    ·rcases k₁ y m with q'|q'
     ·exact d y q' q
     ·exact absurd (st.plow y (rs.priv y q)).2 (HZ.mpr q')
    ·exact absurd (KE.sto.plow y (Lq.priv.1 y m)).2 (HZ.mpr q)
   ·rcases GN.mp m with q|q
    ·exact(k₁ y q).imp (fun z=>GN.mpr (.inl z)) id
    ·exact(k₂ y q).elim (fun z=> .inl (GN.mpr (.inr z))) fun z=> .inr (HV KE.rest.hsize z)
theorem oS(vs:List Value):JD "zip" ⟨.type "zip"::vs,[]⟩=pure (.type "zip",vs):=by
 unfold JD;exact of_pureOf rfl
theorem pV{xs:List IV}(ok:c.Ok)(st:aQ c ρ σ s.heap)(g:Gd c s.heap)(e:jQ σ xs=some ts)(r:cR s.heap ρ xs I vs)
 (hz:ts.length≤64)
 (hct:checkTypeCall "zip" ⟨vs,[]⟩=pure ()) (hcn:checkBuiltinCall "zip.__new__" ⟨.type "zip"::vs,[]⟩=pure ()) (hok: ∀obj,argsOk "object.__init__" ⟨obj::vs,[]⟩)
 (h: ∀KD J a s',af c ρ s KD σ s'→bC s'.heap KD (.zip ts) J a→(∀x∈J,x∈I∨s.heap.objs.size≤x)→Q (.ref a) s'):IG (model c.prog c.w) A (call (.type "zip") vs) Q E s:=by
 refine ei PySem.F.called_zip (by exact ac) hct hcn hok PySem.F.entry_zip_new ?_
 unfold Builtin.«zip.__new__»;refine IH (IO (oS vs) ?_);refine IH (m:=JF vs) ?_;unfold JF;refine IH (pM ok (fun v acc=>rfl) #[] st g e r fun KQ J as KF KE its kJ=>II ?_);have hl:=its.len
 have hez:(#[]++(as.map Ko).toArray:Array Value).toList=as.map Ko:=by simp
 rw[hez]
 refine IH (Je ?_ (by simp[←hl];exact HV hz (by decide)))
 have KH:af c KQ KF _ σ {KF with heap:=KF.heap.push (ao (as.map .ref) 0)}:=af.priv (t:=KF.toks) ok KE.sto KE.gd
 refine IH (Je ?_ (by simp[←hl];exact HV hz (by decide)))
 have KT:af c _ {KF with heap:=KF.heap.push (ao (as.map .ref) 0)} _ σ {KF with heap:=(KF.heap.push (ao (as.map .ref) 0)).push (ao ((as.map Ko).map fun u_=> .none) 0)}:=af.priv (t:=KF.toks) ok KH.sto KH.gd
 show IG _ _ (newObj (.type "zip") (.fields #[.none,.bool false,.bool false,.ref KF.heap.objs.size,.ref (KF.heap.push (ao (as.map .ref) 0)).objs.size])>>=_) _ _ _
 refine IH (IP ?_ (by size_fits))
 have K4:af c _ {KF with heap:=(KF.heap.push (ao (as.map .ref) 0)).push (ao ((as.map Ko).map fun u_=> .none) 0)} _ σ
  {KF with heap:=((KF.heap.push (ao (as.map .ref) 0)).push (ao ((as.map Ko).map fun u_=> .none) 0)).push (jJ .none (.bool false) KF.heap.objs.size (KF.heap.push (ao (as.map .ref) 0)).objs.size)}:=af.priv (t:=KF.toks) ok KT.sto KT.gd
 have z2:(KF.heap.push (ao (as.map .ref) 0)).objs.size=KF.heap.objs.size+1:=J9 ..
 have z3:((KF.heap.push (ao (as.map .ref) 0)).push (ao ((as.map Ko).map fun u_=> .none) 0)).objs.size=KF.heap.objs.size+2:=by rw[J9,z2]
 have hJ: ∀x∈J,x<KF.heap.objs.size:=fun x m=>(KE.sto.plow x (its.priv x m)).2;refine II ⟨_,rfl,⟨_,J7 _ rfl,rfl⟩,h _ (((KF.heap.push (ao (as.map .ref) 0)).push (ao ((as.map Ko).map fun u_=> .none) 0)).objs.size::KF.heap.objs.size::(KF.heap.push (ao (as.map .ref) 0)).objs.size::J) _ _ ((KE.trans KH).trans (KT.trans K4)) ?_ ?_⟩
 ·refine .zip (m:=0) (m':=0) (J7 _ rfl) (.inl rfl) (J8 _ (J8 _ (J7 _ rfl))) (J8 _ (J7 _ rfl)) (by simp[hl])
   ((KH.trans (KT.trans K4)).itrs KE.sto its) (by exact .head _) (by exact .tail _ (.tail _ (.head _))) (by exact .tail _ (.head _)) ?_ ?_ ?_ ?_ ?_ ?_
  ·rw[z3];exact Ib (Ix (by exact HX _))
  ·rw[z3,z2];exact Ib (HY _)
  ·rw[z2];exact Io (HY _)
  ·intro m;have:=hJ _ m;rw[z3]at this;exact absurd this (HZ.mpr (H1 _ _))
  ·intro m;exact absurd (hJ _ m) (Ia _)
  ·intro m;have:=hJ _ m;rw[z2]at this;exact absurd this (HZ.mpr (H1 _ _))
 ·intro x m;have hs:=KE.rest.hsize
  rcases GW.mp m with rfl|m
  ·right;rw[z3];exact HV hs (H1 _ _)
  rcases GW.mp m with rfl|m
  ·right;exact hs
  rcases GW.mp m with rfl|m
  ·right;rw[z2];exact HV hs (H1 _ _)
  ·exact kJ x m
end
variable {o':aG IV}
section
theorem iy(vs:List Value)(kw:List (Str×Value)):JD "enumerate" ⟨.type "enumerate"::vs,kw⟩=pure (.type "enumerate",vs):=by
 unfold JD;exact of_pureOf rfl
theorem h_(a b:Value):checkTypeCall "enumerate" ⟨[a],[("start",b)]⟩=pure ():=by kernel_rfl
theorem iE(a b:Value):checkBuiltinCall "enumerate.__new__" ⟨[.type "enumerate",a],[("start",b)]⟩=pure ():=by kernel_rfl
theorem fW(obj a b:Value):argsOk "object.__init__" ⟨[obj,a],[("start",b)]⟩:=by
 unfold argsOk;rw[Jd (id:="object.__init__") (n:=['_','_','t','i','n','i','_','_']) (o:=['t','c','e','j','b','o']) rfl J2];exact rfl
theorem ug{n:Int}{KQ:Pl}(ok:c.Ok)(st:aQ c KQ σ KF.heap)(g:Gd c KF.heap)(i:bC KF.heap KQ t I a)
 (h: ∀KD s',af c KQ KF KD σ s'→bC s'.heap KD (.enum t n) (KF.heap.objs.size::I) KF.heap.objs.size→Q (.ref KF.heap.objs.size) s'):
 IG (model c.prog c.w) A (newObj (.type "enumerate") (.fields #[.none,.bool false,.ref a,rawInt n,.none,.none])) Q E KF:=by
 have S:af c KQ KF _ σ {KF with heap:=KF.heap.push (dM .none (.bool false) a n .none)}:=af.priv (t:=KF.toks) ok st g
 refine IP (h _ _ S (.enum (J7 _ rfl) (.inl rfl) (S.itr st i) (.head _) fun m=> ?_)) (by size_fits)
 exact absurd (st.plow _ (i.priv.1 _ m)).2 (Ia _)
theorem lR{x:Value}{Q:Bool→Shared→Prop}(h: ∀b,Q b s):IG M A (Builtin.SmallTypes.calledThroughType x) Q E s:=IH (wpAny_stack_any fun u_=>II (h _))
theorem pY{x:IV}{n:Int}(ok:c.Ok)(st:aQ c ρ σ s.heap)(g:Gd c s.heap)(e:aC σ x=some t)(r:nQ s.heap ρ x I v)
 (h: ∀KD J a s',af c ρ s KD σ s'→bC s'.heap KD (.enum t n) J a→(∀x∈J,x∈I∨s.heap.objs.size≤x)→Q (.ref a) s'):IG (model c.prog c.w) A.in1.in1 (pyIter v>>=fun it=>newObj (.type "enumerate") (.fields #[.none,.bool false,it,rawInt n,.none,.none])>>=fun r=>ret r)
  (fun fin s'=> ∃v,fin= .done (.ret v)∧s'.TypeIs v "enumerate"∧Q v s') E s:=by
 refine IH (dJ ok st g e r fun KQ J a KF KE Lq k=> ?_);refine IH (ug ok KE.sto KE.gd Lq fun KX KI KH Lh=> ?_);refine II ⟨_,rfl,?_,h _ _ _ _ (KE.trans KH) Lh fun y m=> ?_⟩
 ·cases Lh with
  |enum h1=>exact⟨_,h1,rfl⟩
 ·exact(GW.mp m).elim (fun q=> .inr (q▸KE.rest.hsize)) (k y)
theorem sX{x:IV}(ok:c.Ok)(st:aQ c ρ σ s.heap)(g:Gd c s.heap)(e:aC σ x=some t)(r:nQ s.heap ρ x I v)
 (h: ∀KD J a s',af c ρ s KD σ s'→bC s'.heap KD (.enum t 0) J a→(∀x∈J,x∈I∨s.heap.objs.size≤x)→Q (.ref a) s'):IG (model c.prog c.w) A (call (.type "enumerate") [v]) Q E s:=by
 refine ei PySem.F.called_enumerate (by exact ac) (PySem.F.typeCall_enumerate_1 _) (PySem.F.newCall_enumerate_1 _) (fun obj=>PySem.F.args_object_init_2 obj _) PySem.F.entry_enumerate_new ?_
 unfold Builtin.«enumerate.__new__»;refine IH (IO (iy _ _) ?_);dsimp only
 refine cX (by decide) ?_
 and_intros
 refine IH (lR fun b=> ?_)
 cases b<;>exact pY ok st g e r h
theorem kD{x:IV}{n:Int}(ok:c.Ok)(st:aQ c ρ σ s.heap)(g:Gd c s.heap)(e:aC σ x=some t)(r:nQ s.heap ρ x I v)(hn:JE n=true)
 (h: ∀KD J a s',af c ρ s KD σ s'→bC s'.heap KD (.enum t n) J a→(∀x∈J,x∈I∨s.heap.objs.size≤x)→Q (.ref a) s'):IG (model c.prog c.w) A (call (.type "enumerate") [v] [("start",.int n u)]) Q E s:=by
 refine ei PySem.F.called_enumerate (by exact ac) (h_ _ _) (iE _ _) (fun obj=>fW obj _ _) PySem.F.entry_enumerate_new ?_
 unfold Builtin.«enumerate.__new__»;refine IH (IO (iy _ _) ?_);dsimp only
 refine cX (by decide) ?_
 and_intros
 refine IH (lR fun b=> ?_)
 have hn': ¬((!JE n)=true):=by rw[hn];exact Gi
 cases b<;>(refine(?_:IG _ _ (if(!JE n)=true then _ else _) _ _ s);exact bV hn' (pY ok st g e r h))
set_option tactic.hygienic true in
theorem ow{k:Nat}{l:List V}{v:Value}{Q:Value→Shared→Prop}{E:Value→Shared→Prop}(ok:c.Ok)(st:aQ c ρ σ s.heap)(g:Gd c s.heap)(e:σ[k]? =some (.lst l))(r:R s.heap ρ (.lst k) v)
 (h: ∀KD J a s',af c ρ s KD σ s'→bC s'.heap KD (.revl k l.length) J a→(∀x∈J,s.heap.objs.size≤x)→Q (.ref a) s'):IG (model c.prog c.w) A (call (.type "reversed") [v]) Q E s:=by
 cases r with
 |lst h1=>
 rename_i la
 refine bf (st.at_ _ _ _ h1 e) fun vs n h2 rs=> ?_
 refine call_reversed_list (bR h2) ?_
 have S:af c ρ s _ σ {s with heap:=s.heap.push (revObj la ((vs.toArray.size:Int)-1))}:=af.priv (t:=s.toks) ok st g
 refine h _ _ _ _ S (.revl ⟨_,J7 _ rfl,rfl,?_⟩ h1 (.head _)) (by simp)
 simp[revObj,rs.length]
theorem n8(a:Value):checkTypeCall "reversed" ⟨[a],[]⟩=pure ():=by kernel_rfl
theorem mQ:Slot "reversed" "__init__" "object.__init__":=
 .of (owner:="object") (n:="__init__") (by rw[I_,Ja];exact rfl) (by decide+kernel) (by decide+kernel) (by decide+kernel)
  (by first|exact .inl (by decide+kernel)|exact .inr (by decide+kernel)) (by rw[Jc];exact rfl)
theorem rN:TypeCalled "reversed" "reversed.__new__" "object.__init__":=
 ⟨by decide+kernel,PySem.F.create_reversed,⟨_,_,PySem.F.mro_reversed⟩,PySem.F.made_reversed,PySem.F.plain_reversed_new,PySem.F.sub_reversed_self,mQ⟩
theorem gx:typeLookup (.type "tuple") "__reversed__"=pure none:=by rw[I_,Ja];kernel_rfl
theorem lQ:isSubtype (.type "tuple") (.type "dict")=pure false:=by rw[Jc];exact rfl
set_option tactic.hygienic true in
theorem nP{l:List V}{v:Value}{Q:Value→Shared→Prop}{E:Value→Shared→Prop}(ok:c.Ok)(st:aQ c ρ σ s.heap)(g:Gd c s.heap)(r:R s.heap ρ (.tup l) v)(hz:l.length≤2^20)
 (h: ∀KD J a s',af c ρ s KD σ s'→bC s'.heap KD (.revt l l.length) J a→(∀x∈J,s.heap.objs.size≤x)→Q (.ref a) s'):IG (model c.prog c.w) A (call (.type "reversed") [v]) Q E s:=by
 cases id r with
 |tup h1 f1 rs=>
 rename_i ta vs n;have ht:s.TypeIs (.ref ta) "tuple":=⟨_,h1,rfl⟩
 refine ei rN (by exact ac) (n8 _) (PySem.F.newCall_reversed_1 _) (fun obj=>PySem.F.args_object_init_2 obj _) PySem.F.entry_reversed_new ?_
 unfold Builtin.«reversed.__new__»
 and_intros
 refine IH (IO (newClass_reversed _) ?_)
 try dsimp only
 and_intros
 refine IH (IO (a:=()) (by first|rfl|kernel_rfl) ?_)
 and_intros
 refine IH (IO (a:=()) (by first|rfl|kernel_rfl) ?_)
 try dsimp only
 and_intros
 refine IH (I2 ht gx ?_)
 try dsimp only
 and_intros
 refine IH ?_;show IG _ _ (isInstance (.ref ta) (.type "dict")>>=_) _ _ s
 and_intros
 refine IH (I6 (T:="tuple") (b:=false) ht lQ ?_);show IG _ _ (specialOf (.ref ta) (Kn "__getitem__")>>=_) _ _ s
 and_intros
 refine IH (I2 ht JQ.lookup ?_);refine II ?_;show IG _ _ (call (.builtin "len") [.ref ta]>>=_) _ _ s
 and_intros
 refine IH (len_tuple (cQ h1) (rs.sz63 hz) ?_);show IG _ _ (newObj (.type "reversed") (.fields #[.ref ta,rawInt (((vs.toArray.size:Nat):Int)-1)])>>=_) _ _ _
 have S:af c ρ s _ σ {s with heap:=s.heap.push (kE ta (((vs.toArray.size:Nat):Int)-1)),toks:=s.toks+1+1}:=af.priv (t:=s.toks+1+1) ok st g
 and_intros
 refine IH (IP (II ⟨_,rfl,⟨_,J7 _ rfl,rfl⟩,h _ _ _ _ S (.revt (t:=ta) ?_ (S.R r) (.head _)) (by simp)⟩) (by exact H3 ..))
 have e:((l.length:Nat):Int)-1=((vs.toArray.size:Nat):Int)-1:=by simp[rs.length]
 rw[e];exact J7 _ rfl
end
section
variable {env:Env}
variable (c)in
noncomputable def Dl(x:Str):Option V:=(c.nm.lookup x).map V.val
variable (c)in
noncomputable def aR(en:En)(x:Str):Option V:=if(x==("__debug__":Str))=true then none else(en.names.lookup x).bind fun k=> @NameKind.casesOn (fun u_=>Option V) k (en.own.lookup x) (en.own.lookup x) (if(x==("__classdict__":Str))=true then none else en.fre.lookup x) none (Dl c x)
theorem gW{x:Str}(ok:c.Ok)(st:aQ c ρ σ s.heap)(g:Gd c s.heap)(er:a_ s.heap ρ env en)(e:aR c en x=some y):bn c A (eval (.Name x pos) env) ρ s (.ok y σ):=by
 refine e_ e (fun u_ e=>no e) fun hd e=> ?_;have hd:(x==("__debug__":Str))=false:=Bool.eq_false_iff.mpr hd
 have hk:env.kindOf x=en.names.lookup x:=by rw[←er.names];rfl
 refine ae e fun k hl e=> ?_
 cases k with
 |«local»=>
  refine aK er.lo fun m hn hm=> ?_;have:=hm x hl
  rw[show en.own.lookup x=some y from e]at this
  generalize hq:m x=q at this
  cases this with
  |so r=>exact wpAny_Name (wpAny_loadName_local er.kind (hk.trans hl) hn hq ⟨ρ,.refl st g,r⟩) hd
 |cell=>
  refine bS (er.ce x hl) fun a w h1 h2 u_ h3=> ?_
  rw[show en.own.lookup x=some y from e]at h3
  cases h3 with
  |so r=>exact wpAny_Name (wpAny_loadName_cell er.kind (hk.trans hl) h1 h2 ⟨ρ,.refl st g,r⟩) hd
 |free=>
  refine e_ e (fun u_ e=>no e) fun hcd e=> ?_;refine dC (er.fr x hl) fun a w h1 h2 h3=> ?_;rw[e]at h3
  cases h3 with
  |so r=>exact wpAny_Name (wpAny_loadName_free er.kind (hk.trans hl) h1 h2 ⟨ρ,.refl st g,r⟩ (by simpa using hcd)) hd
 |globalImplicit=>
  have hgl:env.globals=mainGlobals:=er.gl;have hbi:env.builtins=builtinsNs:=er.bi
  refine aK (IC.mp (show(c.nm.lookup x).map V.val=some y from e)) fun v hv zz2=> ?_;subst zz2
  rcases ok.names x v hv with h|⟨h,hb⟩
  ·exact Calls.Name_function_global er.kind (hk.trans hl) (Calls.loadGlobal_global (by rw[hgl];exact g.gl) h ⟨ρ,.refl st g,.val⟩) hd
  ·exact Calls.Name_function_global er.kind (hk.trans hl) (Calls.loadGlobal_builtin (by rw[hgl];exact g.gl) h (by rw[hbi];exact g.bl) hb ⟨ρ,.refl st g,.val⟩) hd
 |globalExplicit=>exact no e
noncomputable def oR(k:Const):Option V:= @Const.casesOn (fun u_=>Option V) k (some .none) (fun b=>some (.bool b)) (fun i=>some (.int i)) (fun u_=>none) (fun u_ u_=>none) (fun x=>some (.str x)) (fun u_=>none) none
theorem lJ{k:Const}(st:aQ c ρ σ s.heap)(g:Gd c s.heap)(e:oR k=some y):bn c A (eval (.Constant k n pos) env) ρ s (.ok y σ):=by
 cases k with
 |int=>obtain rfl:=IF e;exact wpAny_Constant_int ⟨ρ,.toks st g,.int⟩
 |str=>obtain rfl:=IF e;exact wpAny_Constant_str ⟨ρ,.toks st g,.str⟩
 |none=>obtain rfl:=IF e;exact wpAny_Constant_none ⟨ρ,.refl st g,.val⟩
 |bool=>obtain rfl:=IF e;exact wpAny_Constant_bool ⟨ρ,.refl st g,.val⟩
 |_=>exact no e
theorem jz:fillsNumberSlot (.type "tuple") "mul"=pure false:=
 PySem.fillsNumberSlot_seq (id:="tuple.__mul__") (r:=some (.builtin "tuple.__rmul__")) J3.lookup (by decide+kernel) PySem.F.slot_tuple_rmul.lookup (by decide+kernel)
theorem nV:seqRepeat? (.type "tuple")=pure (some (.builtin "tuple.__mul__")):=by
 unfold seqRepeat?
 rw[Jn (T:="tuple") (name:="__mul__") (id:="tuple.__mul__") J3.lookup (by decide+kernel),Jn (T:="tuple") (name:="__rmul__") (id:="tuple.__rmul__") PySem.F.slot_tuple_rmul.lookup (by decide+kernel)]
 rfl
theorem iO(a:Int)(t:Tok)(l:Addr)(items:Array Value)(n:Nat)(d:Option Addr)(sl:Array (Option Value)):
 Meets (Builtin.«int.__rmul__» ⟨[.int a t,.ref l],[]⟩) (fun u_ R s=>s.heap.get? l=some {cls:= .type "tuple",dict:=d,data:= .seq items n,slots:=sl}∧R (.ok (.ret Value.notImplemented)) s):=
 .of_wp fun prog w A R s h=>by obtain⟨hp,g,d,tk,os⟩:=s;refine oA h fun hl h=> ?_;wp_walk;exact⟨_,rfl,h⟩
theorem Rs.rep(r:Rs h ρ l vs)(n:Nat):Rs h ρ (GR n l).flatten (GR n vs).flatten:=by
 induction n with
 |zero=>exact .nil
 |succ n ih=>exact r.append ih
theorem r_(l:List α)(n:Nat):(GR n l).flatten.length=l.length*n:=by
 induction n with
 |zero=>simp
 |succ n ih=>rw[HC,HK,G4,ih,Nat.mul_succ,Il]
theorem sW(xs:Array α)(n:Nat): ∀(acc:Array α),(GR n xs).foldl (· ++ ·) acc=acc++((GR n xs.toList).flatten).toArray:=by
 induction n with
 |zero=>exact fun acc=>(Array.append_empty).symm
 |succ n ih=>
  intro acc;rw[HC,List.foldl_cons,ih,HC,HK];apply Array.ext';simp
noncomputable def tP(σ:Sg)(x:V)(n:Int):Option (V×Sg):=if-(2^40:Int)≤n∧n<2^40 then @V.casesOn (fun u_=>Option (V×Sg)) x (fun u_=>none) (fun u_=>none) (fun u_=>none) (fun l=>if l.length*n.toNat≤2^20 then some (.tup (GR n.toNat l).flatten,σ)else none)
 (fun k=>(aI σ k).bind fun l=>if l.length*n.toNat≤2^20 then some (.lst σ.length,σ++[.lst (GR n.toNat l).flatten])else none) (fun u_ u_=>none) (fun u_ u_ u_=>none)
 else none
theorem uy{n:Int}{t:Tok}(ok:c.Ok)(st:aQ c ρ σ s.heap)(g:Gd c s.heap)(e:tP σ x n=some (y,KB))(r:R s.heap ρ x v):bn c A (binaryOp .Mult v (.int n t)) ρ s (.ok y KB):=by
 refine bI e fun hn e=> ?_
 cases x with
 |tup l=>
  refine bI e fun hz e=> ?_;refine rL (IF e) fun q1 q2=> ?_;subst q1;subst q2
  cases id r with
  | @tup l a vs m h1 f1 rs=>
   have hl:=rs.length
   refine wpAny_binaryOp_repeat_ref (T:="tuple") (U:="int") (by exact Gl _) ⟨_,h1,rfl⟩ (fun s'=>I8 s' n t) jz PySem.F.fills_int_mul JS nV PySem.F.slot_int_index.lookup
    (I9 JS (I8 s n t) PySem.F.entry_int_rmul (PySem.F.args_int_rmul_2 _ _) (iO n t a vs.toArray m none #[])
     ⟨h1,rfl,⟨_,h1,rfl⟩,IR J3 ⟨_,h1,rfl⟩ PySem.F.entry_tuple_mul ?_ (PySem.F.args_tuple_mul_2 _ _)⟩)
   have ha:asIndex (.int n t)=pure n:=rfl;show IG _ _ (asIndex (.int n t)>>=_) _ _ s;refine IH (IO ha ?_)
   have hn2: ¬((decide (n< -(2^63))||decide (n≥2^63))=true):=by simp;exact ibt ‹_› (by exact ac)
   show IG _ _ (if(decide (n< -(2^63))||decide (n≥2^63))=true then _ else _) _ _ s
   refine bV hn2 ?_;refine IH (m:=JH (.ref a)) (tupleItemsOf_ (cQ h1) ?_);dsimp only
   have fin1:(vs.toArray.isEmpty||n==1)=true→(∃KD,af c ρ s KD σ s∧R s.heap KD (.tup (GR n.toNat l).flatten) (.ref a)):=by
    intro hq
    have:(GR n.toNat l).flatten=l:=by
     rcases Gj.mp hq with q|q
     ·have hv:vs=[]:=by simpa using q
      have hl0:l=[]:=Hl.mp (by rw[hl,hv];rfl)
      subst hl0
      exact Hl.mp (by rw[r_];simp)
     ·have:n=1:=by simpa using q
      subst this;exact G2 _
    rw[this];exact⟨ρ,.refl st g,r⟩
   have fin2: ∀ws:List Value,Rs s.heap ρ (GR n.toNat l).flatten ws→ ∃KD,af c ρ s KD σ {s with heap:=s.heap.push (ao ws 0)}∧R (s.heap.push (ao ws 0)) KD (.tup (GR n.toNat l).flatten) (.ref s.heap.objs.size):=by
    intro ws hw
    have S:af c ρ s ρ σ {s with heap:=s.heap.push (ao ws 0)}:=af.push (t:=s.toks) ok st g
    exact⟨ρ,S,.tup (J7 _ rfl) (st.new (HW _)) (S.Rs hw)⟩
   by_cases hq:(vs.toArray.isEmpty||n==1)=true
   ·refine cX hq ?_;refine IH (m:=JI (.ref a)) (IH (IZ (cQ h1).typeIs (II ?_)))
    refine cX (by decide) ?_
    first
     |exact IH (IN (II ⟨_,rfl,fin1 hq⟩))
     |exact IH (IN (IH (II (II ⟨_,rfl,fin1 hq⟩))))
   ·refine bV hq ?_
    by_cases hq2:(decide (n≤0)||vs.toArray.isEmpty)=true
    ·refine cX hq2 ?_
     have e0:(GR n.toNat l).flatten=[]:=by
      rcases Gj.mp hq2 with q|q
      ·have:n≤0:=by simpa using q
       rw[show n.toNat=0 by exact tz ‹_›];rfl
      ·exact absurd (Gj.mpr (.inl q)) hq
     refine IH (m:=JG _) (IP ?_ (by exact H9 _))
     exact II ⟨_,rfl,fin2 [] (by rw[e0];exact .nil)⟩
    ·refine bV hq2 ?_
     have hsz:vs.toArray.size*n.toNat≤2^20:=by simpa [←hl]using hz
     have hnn: ¬n≤0:=fun q=>hq2 (Gj.mpr (.inl (by simpa using q)))
     have hcast:((vs.toArray.size:Nat):Int)*n=((vs.toArray.size*n.toNat:Nat):Int):=by
      rw[Int.natCast_mul,Int.toNat_of_nonneg (by omega)]
     rw[if_neg (by rw[hcast];omega),if_neg (by unfold Builtin.Tuple.tupleTooMany sizeLine;rw[hcast];simp only[decide_eq_true_eq];omega)]
     have e1:(GR n.toNat vs.toArray).foldl (fun x1 x2=>x1++x2) #[]=((GR n.toNat vs).flatten).toArray:=by
      have:=sW vs.toArray n.toNat #[];simpa using this
     rw[e1];refine IH (m:=JG _) (IP ?_ ?_)
     ·exact II ⟨_,rfl,fin2 _ (rs.rep _)⟩
     ·show((GR n.toNat vs).flatten).toArray.size≤sizeLine;rw[Hg,r_,←hl];exact HV hz (by decide)
 |lst k=>
  refine ae e fun l hl e=>bI e fun hz e=> ?_;replace hl:=bF hl;refine rL (IF e) fun q1 q2=> ?_;subst q1;subst q2
  cases r with
  | @lst k la h1=>
   refine bf (st.at_ _ _ _ h1 hl) fun vs m h2 rs=> ?_
   have hll:=rs.length
   have hz':vs.toArray.size*n.toNat≤2^20:=by simpa [←hll]using hz
   have hz2:vs.length*n.toNat≤2^20:=by rw[←hll];exact hz
   have hlong: ¬Jq (vs.toArray.size*n.toNat)=true:=by
    simp[Jq,sizeLine];exact bg ‹_› (by exact ac)
   refine wpAny_binaryOp_repeat_ref (T:="list") (U:="int") (by exact Gl _) ⟨_,h2,rfl⟩ (fun s'=>I8 s' n t) noFill_list_mul PySem.F.fills_int_mul JS repeat_list PySem.F.slot_int_index.lookup
    (I9 JS (I8 s n t) PySem.F.entry_int_rmul (PySem.F.args_int_rmul_2 _ _) (lm_int_rmul_list_any n t la vs.toArray m none #[])
     ⟨h2,rfl,⟨_,h2,rfl⟩,I9 PySem.F.slot_list_mul ⟨_,h2,rfl⟩ PySem.F.entry_list_mul (PySem.F.args_list_mul_2 _ _)
      (lm_list_mul_any la vs.toArray m none #[] n t (by simp[Js];exact ibt ‹_› (by exact ac)) (by omega) hlong)
      ⟨h2,?_⟩⟩)
   rw[listMul_foldl_if];exact⟨_,af.pushList (n:=0) (t:=s.toks) ok st g (rs.rep n.toNat),.lst (st.last _)⟩
 |_=>exact no e
end
section
variable {env:Env}{d:Nat}
variable (c)in
structure At(A:Around)(env:Env)(en:En)(ρ:Pl)(σ:Sg)(s:Shared)(d:Nat):Prop where
 ok:c.Ok
 st:aQ c ρ σ s.heap
 gd:Gd c s.heap
 er:a_ s.heap ρ env en
 room:eo c ρ A d s.heap
theorem At.step(a:At c A env en ρ σ s d)(x:af c ρ s KD KB s'):At c A env en KD KB s' d:=⟨a.ok,x.sto,x.gd,x.env a.st a.er,x.room a.st a.room⟩
set_option tactic.hygienic true in
theorem au.then{α β α':Type}{rel:Heap→Pl→α→β→Prop}{t:Sem β}{KW:Pl}{KN:Shared}{Li:Option (aG α)}{k:α→Sg→Option (aG α')}{o:aG α'}{Q:β→Shared→Prop}(K2:af c KW KN ρ σ s)
 (e:aw Li k=some o) (h: ∀o',Li=some o'→au c rel A t ρ s o') (hk: ∀x KB v s' KD,af c KW KN KD KB s'→rel s'.heap KD x v→k x KB=some o→af c ρ s KD KB s'→Q v s'):
 IG (model c.prog c.w) A t Q (cH c KW KN o) s:=by
 unfold aw at e
 split at e
 ·rename_i a KB
  refine(h _ rfl).go (fun x Ll q v s' KD st r=> ?_) (fun cls Ll q=>by exact iQ q)
  refine jP q fun zz1 zz2=> ?_;subst zz1;subst zz2;exact hk _ _ _ _ _ (K2.trans st) r e st
 ·rename_i cls KB;obtain rfl:=IF e
  refine(h _ rfl).go (fun x Ll q=>by exact EH q) (fun cls Ll q e s' f=> ?_)
  refine Ct q fun zz1 zz2=> ?_;subst zz1;subst zz2;exact(f.as (β:=α')).trans K2
 ·exact no e
theorem au.last{rel:Heap→Pl→α→β→Prop}{t:Sem β}{o:aG α}(K2:af c KW KN ρ σ s)(h:au c rel A t ρ s o):IG (model c.prog c.w) A t (bY c rel KW KN o) (cH c KW KN o) s:=h.trans K2
theorem bY.now{rel:Heap→Pl→α→β→Prop}{x:α}{v:β}(K2:af c KW KN ρ σ s)(r:rel s.heap ρ x v):bY c rel KW KN (.ok x σ) v s:=⟨ρ,K2,r⟩
noncomputable abbrev fP:=En→Sg→Expr→Option (aG V)
noncomputable abbrev lu:=En→Sg→Expr→Option (aG Bool)
variable (c)in
noncomputable def bE(d:Nat)(f:fP):Prop:= ∀{A:Around} {env:Env} {en:En} {ρ:Pl} {σ:Sg} {s:Shared} {e:Expr} {o:aG V},f en σ e=some o→At c A env en ρ σ s d→bn c A (eval e env) ρ s o
variable (c)in
noncomputable def eO(d:Nat)(f:lu):Prop:= ∀{A:Around} {env:Env} {en:En} {ρ:Pl} {σ:Sg} {s:Shared} {e:Expr} {o:aG Bool},f en σ e=some o→At c A env en ρ σ s d→o7 c A (isTrue e env (eval e env)) ρ s o
noncomputable def sM:Operator→Bool
 | .Add=>true
 |_=>false
noncomputable def qJ:Operator→Bool
 | .Mult=>true
 |_=>false
noncomputable def mI(σ:Sg)(op:Operator)(x y:V):Option (V×Sg):=(cY y).elim
 ((eN x).bind fun l=>(eN y).bind fun l'=>if sM op=true∧l.length+l'.length≤2^20 then some (.tup (l++l'),σ)else none)
 fun n=>(cY x).elim (if qJ op=true then tP σ x n else none) fun a=>(Internal.binI op a n).map fun i=>(.int i,σ)
theorem uQ{n:Int}(h:cY x=none):mI σ .Mult x (.int n)=tP σ x n:=by
 refine(?_:(cY x).elim (if qJ .Mult=true then tP σ x n else none) _=_)
 rw[h]
 exact(if_pos rfl:(if qJ .Mult=true then tP σ x n else none)=_)
theorem uZ(h:l.length+l'.length≤2^20):mI σ .Add (.tup l) (.tup l')=some (.tup (l++l'),σ):=
 (if_pos ⟨rfl,h⟩:(if sM .Add=true∧l.length+l'.length≤2^20 then some (V.tup (l++l'),σ)else none)=_)
theorem tB{z:V}(ok:c.Ok)(st:aQ c ρ σ s.heap)(g:Gd c s.heap)(e:mI σ op x y=some (z,KB))(r:R s.heap ρ x v)(q:R s.heap ρ y w):bn c A (binaryOp op v w) ρ s (.ok z KB):=by
 refine iA e (fun u_ e1=>ae e1 fun l hl e2=>ae e2 fun l' hl' e3=>bI e3 fun h e4=> ?_) fun n hn e1=>iA e1 (fun u_ e2=>bI e2 fun h e3=> ?_) fun a ha e2=>aP e2 fun i hi e3=> ?_
 ·obtain rfl:=eJ hl;obtain rfl:=eJ hl'
  cases Az e4
  cases op with
  |Add=>exact qt ok st g r q h.2
  |_=>exact bM h.1
 ·obtain rfl:=b_ hn;obtain⟨_,rfl⟩:=q.intQ
  cases op with
  |Mult=>exact uy ok st g e3 r
  |_=>exact bM h
 ·obtain rfl:=b_ hn;obtain rfl:=b_ ha
  cases e3
  obtain⟨_,rfl⟩:=r.intQ;obtain⟨_,rfl⟩:=q.intQ;exact ty st g hi
noncomputable def zd(f:fP)(en:En)(σ:Sg)(l:Expr)(op:Operator)(r:Expr):Option (aG V):=
 aw (f en σ l) fun x KC=>aw (f en KC r) fun y KG=>(mI KG op x y).map fun z=> .ok z.1 z.2
theorem uk{f:fP}{l r:Expr}(hf:bE c d f)(e:zd f en σ l op r=some o)(a:At c A env en ρ σ s d):bn c A (eval (.BinOp l op r pos) env) ρ s o:=by
 refine wpAny_BinOp (au.then (.refl a.st a.gd) e (fun o' h=>hf h a) fun x KC v KF KQ KE KM KJ u_=>au.then KE KJ (fun o' h=>hf h (a.step KE)) fun y KG w KI KX KH K' KY Ln=> ?_)
 refine aK (IC.mp KY) fun z hz zz2=> ?_;subst zz2;exact(tB a.ok KH.sto KH.gd hz (Ln.R KM) K').last KH
theorem ym{f:fP}{x:Expr}(hf:bE c d f)(e:(aw (f en σ x) fun v KC=>(cY v).map fun i=> .ok (.int (-i)) KC)=some o)(a:At c A env en ρ σ s d):
 bn c A (eval (.UnaryOp .USub x pos) env) ρ s o:=by
 refine wpAny_UnaryOp (au.then (.refl a.st a.gd) e (fun o' h=>hf h a) fun x KC v KF KQ KE KM KJ u_=> ?_)
 refine aP KJ fun i hi w=> ?_;subst w;obtain rfl:=b_ hi;obtain⟨_,rfl⟩:=KM.intQ;exact neg_int ⟨KQ,KE.trans (af.toks KE.sto KE.gd),.int⟩
theorem yj{f:fP}{x:Expr}(hf:bE c d f)(e:(aw (f en σ x) fun v KC=>(bq KC v).map fun b=> .ok (.bool (!b)) KC)=some o)(a:At c A env en ρ σ s d):
 bn c A (eval (.UnaryOp .Not x pos) env) ρ s o:=by
 refine wpAny_UnaryOp (au.then (.refl a.st a.gd) e (fun o' h=>hf h a) fun x KC v KF KQ KE KM KJ u_=> ?_)
 refine aK (IC.mp KJ) fun b hb zz2=> ?_;subst zz2;exact not_value (bX (c:=c) KE.sto hb KM fun t=>⟨KQ,KE.trans (af.toks KE.sto KE.gd),.val⟩)
theorem uD{f:fP}{g:lu}{t b:Expr}(hf:bE c d f)(hg:eO c d g)(e:(aw (g en σ t) fun v KC=>if v then f en KC b else f en KC e')=some o)(a:At c A env en ρ σ s d):
 bn c A (eval (.IfExp t b e' pos) env) ρ s o:=by
 refine wpAny_IfExp (au.then (.refl a.st a.gd) e (fun o' h=>hg h a) fun x KC v KF KQ KE KM KJ u_=> ?_)
 cases KM
 cases x
 ·exact(hf KJ (a.step KE)).last KE
 ·exact(hf KJ (a.step KE)).last KE
noncomputable def db(e:Expr):Bool:=e.ctorIdx.beq 22
theorem og(h: ¬db e=true): ∀x p,e≠ .Starred x p:=fun x p q=>h (q▸rfl)
noncomputable def al:List Expr→Bool
 |[]=>true
 |e::es=> !db e&&al es
theorem bj(h:al (e::es)=true):(¬db e=true)∧al es=true:=
 have q:=Gg.mp h
 ⟨fun r=>bM ((congrArg not r).symm.trans q.1),q.2⟩
theorem eG:al es=true→ ∀x p,Expr.Starred x p∉es:=by
 induction es with
 |nil=>exact fun u_ u_ u_=>He
 |cons e es ih=>exact fun h x p m=>(GW.mp m).elim (fun q=>og (bj h).1 x p q.symm) (ih (bj h).2 x p)
noncomputable def fq(f:fP)(en:En):Sg→List Expr→Option (aG (List V))
 |σ,[]=>some (.ok [] σ)
 |σ,e::es=>if db e=true then none else aw (f en σ e) fun x KC=>aw (fq f en KC es) fun xs KG=>some (.ok (x::xs) KG)
theorem fZ(h: ∀x p,e≠ .Starred x p):starEach (e::es) env=(false,eval e env)::starEach es env:=by
 cases e<;>first|rfl|exact absurd rfl (h _ _)
theorem qx{f:fP}(hf:bE c d f): ∀{σ:Sg} {ρ:Pl} {s:Shared} {o:aG (List V)},fq f en σ es=some o→At c A env en ρ σ s d→Ef c A (spliced (backTo pos (starEach es env))) ρ s o:=by
 induction es with
 |nil=>
  intro σ ρ s o e a;obtain rfl:=Az e;exact Jf (bY.now (.refl a.st a.gd) .nil)
 |cons x es ih=>
  intro σ ρ s o e a
  refine oA (sC (show(if db x=true then none else _)=some o from e)) fun hns e=> ?_
  refine Jb (au.then (.refl a.st a.gd) e (fun o' h=>hf h a) fun y KC v KF KQ KE KM KJ u_=>au.then KE KJ (fun o' h=>ih h (a.step KE)) fun ys KG vs KI KX KH K' KY Ln=> ?_) (fZ (og hns))
  obtain rfl:=IF KY;exact bY.now KH (.cons (Ln.R KM) K')
theorem tU{f:fP}(hf:bE c d f)(e:(aw (fq f en σ es) fun xs KC=>if xs.length≤2^20 then some (.ok (.tup xs) KC)else none)=some o)(a:At c A env en ρ σ s d):
 bn c A (eval (.Tuple es k pos) env) ρ s o:=by
 refine wpAny_Tuple (au.then (.refl a.st a.gd) e (fun o' h=>qx hf h a) fun ys KC vs KF KQ KE KM KJ u_=> ?_)
 refine bI KJ fun hz KJ=> ?_
 ·obtain rfl:=IF KJ
  have S:af c KQ KF KQ KC {KF with heap:=KF.heap.push (ao vs 0)}:=af.push (t:=KF.toks) a.ok KE.sto KE.gd
  exact⟨by rw[←KM.length];exact HV hz (by decide),bY.now (KE.trans S) (.tup (J7 _ rfl) (KE.sto.new (HW _)) (S.Rs KM))⟩
theorem wZ{f:fP}(hf:bE c d f)(e:(aw (fq f en σ es) fun xs KC=>if xs.length≤2^20 then some (.ok (.lst KC.length) (KC++[.lst xs]))else none)=some o)(a:At c A env en ρ σ s d):
 bn c A (eval (.List es pos) env) ρ s o:=by
 refine wpAny_List (au.then (.refl a.st a.gd) e (fun o' h=>qx hf h a) fun ys KC vs KF KQ KE KM KJ u_=> ?_)
 refine bI KJ fun hz KJ=> ?_
 ·obtain rfl:=IF KJ;have S:=af.pushList (n:=0) (t:=KF.toks) a.ok KE.sto KE.gd KM
  exact⟨by rw[←KM.length];exact HV hz (by decide),bY.now (KE.trans S) (.lst (KE.sto.last _))⟩
end
variable {tr:lu}{ev f:fP}
section
variable {env:Env}{d:Nat}
theorem eo.deep(r:eo c ρ A d h):A.units+Internal.BU<cLine:=by
 have:=r.units;have e:Internal.BU=200:=rfl;exact dp ‹_› ac
noncomputable def jx(w:Bool→α)(f:fP)(en:En):List CmpOp→Sg→V→List Expr→Option (aG α)
 |[],_,_,_=>none
 |op::ops,σ,x,es=>match es with
  |[]=>none
  |e::es=>if ops.isEmpty=es.isEmpty then aw (f en σ e) fun y KC=>(eh KC op x y).bind fun b=>if(ops.isEmpty|| !b)=true then some (.ok (w b) KC)else jx w f en ops KC y es else none
noncomputable abbrev qM(f:fP)(en:En)(σ:Sg)(x:V)(ops:List CmpOp)(es:List Expr):Option (aG V):=jx V.bool f en ops σ x es
noncomputable abbrev qH(f:fP)(en:En)(σ:Sg)(x:V)(ops:List CmpOp)(es:List Expr):Option (aG Bool):=jx (fun b=>b) f en ops σ x es
theorem hH{w:Bool→α}{op:CmpOp}(h:f en σ e=some (.ok y KC))(hc:eh KC op x y=some b):jx w f en [op] σ x [e]=some (.ok (w b) KC):=by
 show aw (f en σ e) _=_;rw[h];show(eh KC op x y).bind _=_;rw[hc];rfl
theorem fX{w:Bool→α}{op op':CmpOp}{o:aG α}(h:f en σ e=some (.ok y KC))(hc:eh KC op x y=some b)
 (k:(if(!b)=true then some (.ok (w b) KC)else jx w f en (op'::ops) KC y (e'::es))=some o):jx w f en (op::op'::ops) σ x (e::e'::es)=some o:=by
 show aw (f en σ e) _=_;rw[h];show(eh KC op x y).bind _=_;rw[hc];exact k
theorem rQ(hf:bE c d f)(h:qM f en σ x ops es=some o)(a:At c A env en ρ σ s d)(r:R s.heap ρ x v):
 bn c A (compareChain pos v ops (evalEach es env)) ρ s o:=by
 induction ops generalizing es σ ρ s x v o with
 |nil=>exact no h
 |cons op ops ih=>
  cases es with
  |nil=>exact no h
  |cons e es=>
   refine bI (show(if ops.isEmpty=es.isEmpty then _ else none)=some o from h) fun hl h=> ?_
   cases ops with
   |nil=>
    cases es with
    |cons=>exact Cn hl
    |nil=>
     refine chain_last (au.then (.refl a.st a.gd) h (fun o' q=>hf q a) fun y KC w KF KQ KE KM KJ Lc=> ?_)
     refine ae KJ fun b hb KY=> ?_;obtain rfl:=Az KY;exact(gO KE.sto KE.gd a.room.deep hb (Lc.R r) KM).last KE
   |cons op' ops=>
    cases es with
    |nil=>exact bM hl
    |cons e' es=>
     refine chain_link (au.then (.refl a.st a.gd) h (fun o' q=>hf q a) fun y KC w KF KQ KE KM KJ Lc=> ?_)
     refine ae KJ fun b hb KY=> ?_
     refine au.go (gO (A:=A) KE.sto KE.gd a.room.deep hb (Lc.R r) KM) (fun z KG q u KI KX KH K'=> ?_) (fun u_ u_ q=>by exact iQ q)
     refine jP q fun zz1 zz2=> ?_;subst zz1;subst zz2;obtain rfl:=K'.valQ;refine Jg ?_
     cases b with
     |true=>exact au.last (KE.trans KH) (ih (show qM f en KC y (op'::ops) (e'::es)=some o from KY) (a.step (KE.trans KH)) (KH.R KM))
     |false=>obtain rfl:=Az KY;exact bY.now (KE.trans KH) .val
noncomputable def gN(f:fP)(en:En)(σ:Sg)(l:Expr)(ops:List CmpOp)(es:List Expr):Option (aG V):=
 if lastMarks ops es=true then none else aw (f en σ l) fun x KC=>qM f en KC x ops es
set_option tactic.hygienic true in
theorem pG{f:fP}{l:Expr}{ops:List CmpOp}{es:List Expr}{pos:Pos}{o:aG V}(hf:bE c d f)(e:gN f en σ l ops es=some o)(a:At c A env en ρ σ s d):bn c A (eval (.Compare l ops es pos) env) ρ s o:=by
 unfold gN at e
 split at e
 ·exact no e
 rename_i hm
 show IG _ A (do compareChain pos (←eval l env) ops (markedEach ops es (evalEach es env))) _ _ s
 rw[markedEach_of_false _ _ _ (by simpa using hm)]
 refine IH (au.then (.refl a.st a.gd) e (fun o' q=>hf q a) fun y KC w KF KQ KE KM KJ Lc=> ?_)
 exact au.last KE (rQ hf KJ (a.step KE) KM)
theorem qe(hf:bE c d f){o:aG Bool}(h:qH f en σ x ops es=some o)(a:At c A env en ρ σ s d)(r:R s.heap ρ x v):
 o7 c A (testChain pos v ops (evalEach es env)) ρ s o:=by
 induction ops generalizing es σ ρ s x v o with
 |nil=>exact no h
 |cons op ops ih=>
  cases es with
  |nil=>exact no h
  |cons e es=>
   refine bI (show(if ops.isEmpty=es.isEmpty then _ else none)=some o from h) fun hl h=> ?_
   cases ops with
   |nil=>
    cases es with
    |cons=>exact Cn hl
    |nil=>
     refine test_last (au.then (.refl a.st a.gd) h (fun o' q=>hf q a) fun y KC w KF KQ KE KM KJ Lc=> ?_)
     refine ae KJ fun b hb KY=> ?_;obtain rfl:=Az KY
     refine au.go (gO (A:=A) KE.sto KE.gd a.room.deep hb (Lc.R r) KM) (fun z KG q u KI KX KH K'=> ?_) (fun u_ u_ q=>by exact iQ q)
     refine jP q fun zz1 zz2=> ?_;subst zz1;subst zz2;obtain rfl:=K'.valQ;exact Jg (bY.now (KE.trans KH) rfl)
   |cons op' ops=>
    cases es with
    |nil=>exact bM hl
    |cons e' es=>
     refine test_link (au.then (.refl a.st a.gd) h (fun o' q=>hf q a) fun y KC w KF KQ KE KM KJ Lc=> ?_)
     refine ae KJ fun b hb KY=> ?_
     refine au.go (gO (A:=A) KE.sto KE.gd a.room.deep hb (Lc.R r) KM) (fun z KG q u KI KX KH K'=> ?_) (fun u_ u_ q=>by exact iQ q)
     refine jP q fun zz1 zz2=> ?_;subst zz1;subst zz2;obtain rfl:=K'.valQ;refine Jg ?_
     cases b with
     |true=>exact au.last (KE.trans KH) (ih (show qH f en KC y (op'::ops) (e'::es)=some o from KY) (a.step (KE.trans KH)) (KH.R KM))
     |false=>obtain rfl:=Az KY;exact bY.now (KE.trans KH) rfl
noncomputable def i7(f:fP)(en:En)(op:BoolOp):Sg→List Expr→Option (aG V)
 |_,[]=>none
 |σ,[e]=>f en σ e
 |σ,e::e'::es=>aw (f en σ e) fun x KC=>(bq KC x).bind fun b=>if b=(op== .Or)then some (.ok x KC)else i7 f en op KC (e'::es)
theorem sY{op:BoolOp}(hf:bE c d f): ∀{σ:Sg} {ρ:Pl} {s:Shared} {o:aG V},i7 f en op σ es=some o→At c A env en ρ σ s d→bn c A (boolOp pos op (evalEach es env)) ρ s o:=by
 induction es with
 |nil=>exact fun h u_=>no h
 |cons e es ih=>
  intro σ ρ s o h a
  cases es with
  |nil=>exact hf h a
  |cons e' es=>
  show IG _ A (do
   let v←eval e env
   standAt pos
   let t←holding [v] (truthy v)
   match op,t with
   | .And,false| .Or,true=>pure v
   |_,_=>boolOp pos op (evalEach (e'::es) env)) _ _ s
  refine IH (au.then (.refl a.st a.gd) h (fun o' q=>hf q a) fun y KC w KF KQ KE KM KJ Lc=> ?_)
  refine ae KJ fun b hb KJ=> ?_;refine IH (IT (IH (IM (bX (c:=c) KE.sto hb KM fun t=> ?_))));have KH:=KE.trans (af.toks (t:=t) KE.sto KE.gd);refine e_ KJ (fun hop KJ=> ?_) fun hop KJ=> ?_
  ·obtain rfl:=IF KJ;subst hop
   cases op<;>exact II (bY.now KH KM)
  ·have:=au.last KH (ih KJ (a.step KH))
   cases op<;>cases b<;>first|exact absurd rfl hop|exact absurd (by decide) hop|exact this
theorem rK{op:BoolOp}(hf:bE c d f)(e:i7 f en op σ es=some o)(a:At c A env en ρ σ s d):bn c A (eval (.BoolOp op es pos) env) ρ s o:=sY hf e a
noncomputable def tD(g:lu)(en:En)(op:BoolOp):Sg→List Expr→Option (aG Bool)
 |σ,[]=>some (.ok (op== .And) σ)
 |σ,e::es=>aw (g en σ e) fun b KC=>if b=(op== .Or)then some (.ok b KC)else tD g en op KC es
theorem vi{g:lu}{op:BoolOp}(hg:eO c d g): ∀{σ:Sg} {ρ:Pl} {s:Shared} {o:aG Bool},tD g en op σ es=some o→At c A env en ρ σ s d→o7 c A (allTrue op es env) ρ s o:=by
 induction es with
 |nil=>
  intro σ ρ s o h a;obtain rfl:=IF h
  cases op
  ·exact wpAny_allTrue_And_nil (bY.now (.refl a.st a.gd) rfl)
  ·exact wpAny_allTrue_Or_nil (bY.now (.refl a.st a.gd) rfl)
 |cons e es ih=>
  intro σ ρ s o h a
  cases op
  ·refine wpAny_allTrue_And_cons (au.then (.refl a.st a.gd) h (fun o' q=>hg q a) fun y KC w KF KQ KE KM KJ Lc=> ?_)
   cases KM
   cases y
   ·obtain rfl:=IF KJ;exact bY.now KE rfl
   ·exact au.last KE (ih KJ (a.step KE))
  ·refine wpAny_allTrue_Or_cons (au.then (.refl a.st a.gd) h (fun o' q=>hg q a) fun y KC w KF KQ KE KM KJ Lc=> ?_)
   cases KM
   cases y
   ·exact au.last KE (ih KJ (a.step KE))
   ·obtain rfl:=IF KJ;exact bY.now KE rfl
noncomputable def fN(e:Expr):Bool:= !(e.ctorIdx.beq 0||e.ctorIdx.beq 3||e.ctorIdx.beq 5||e.ctorIdx.beq 15)
noncomputable def zY:UnaryOp→Bool
 | .Not=>true
 |_=>false
noncomputable def yT(f:fP)(en:En)(σ:Sg)(e:Expr):Option (aG Bool):=aw (f en σ e) fun x KC=>(bq KC x).map fun b=> .ok b KC
noncomputable def BW(f:fP)(g:lu)(en:En)(σ:Sg)(e:Expr):Option (aG Bool):=match e with
 | .UnaryOp op x _=>if zY op=true then aw (g en σ x) fun b KC=>some (.ok (!b) KC)else none
 | .BoolOp op es _=>tD g en op σ es
 | .IfExp t b e' _=>aw (g en σ t) fun v KC=>if v then g en KC b else g en KC e'
 | .Compare l ops es _=>if lastMarks ops es=true then none else aw (f en σ l) fun x KC=>qH f en KC x ops es
 |e=>yT f en σ e
theorem y9{g:lu}(h:fN e=true):BW f g en σ e=yT f en σ e:=by
 cases e<;>first|rfl|exact bM h
theorem oj{ed:Sem Value}(h:fN e=true):isTrue e env ed=(do let v←ed;standAt e.pos;holding [v] (truthy v)):=by
 cases e<;>first|rfl|exact bM h
theorem v6{o:aG Bool}(hf:bE c d f)(hp:fN e=true)(h:yT f en σ e=some o)(a:At c A env en ρ σ s d):o7 c A (isTrue e env (eval e env)) ρ s o:=by
 refine wpAny_isTrue_value (au.then (.refl a.st a.gd) h (fun o' q=>hf q a) fun y KC w KF KQ KE KM KJ Lc=> ?_) (oj hp)
 refine aK (IC.mp KJ) fun b hb zz2=> ?_;subst zz2;exact bX (c:=c) KE.sto hb KM fun t=>bY.now (KE.trans (af.toks (t:=t) KE.sto KE.gd)) rfl
theorem yF{g:lu}{o:aG Bool}(hf:bE c d f)(hg:eO c d g)(h:BW f g en σ e=some o)(a:At c A env en ρ σ s d):o7 c A (isTrue e env (eval e env)) ρ s o:=by
 cases e with
 |UnaryOp op x p=>
  refine oA (ik (show(if zY op=true then _ else none)=some o from h)) fun hn h=> ?_
  cases op with
  |Not=>
   refine wpAny_isTrue_Not (au.then (.refl a.st a.gd) h (fun o' q=>hg q a) fun y KC w KF KQ KE KM KJ Lc=> ?_)
   obtain rfl:=IF KJ;subst KM;exact bY.now KE rfl
  |_=>exact bM hn
 |BoolOp op es p=>exact wpAny_isTrue_BoolOp (vi hg h a)
 |IfExp t b e' p=>
  show IG _ A (do if←isTrue t env (eval t env)then isTrue b env (eval b env)else isTrue e' env (eval e' env)) _ _ s
  and_intros
  refine IH (au.then (.refl a.st a.gd) h (fun o' q=>hg q a) fun y KC w KF KQ KE KM KJ Lc=> ?_)
  cases KM
  cases y
  ·exact au.last KE (hg KJ (a.step KE))
  ·exact au.last KE (hg KJ (a.step KE))
 |Compare l ops es p=>
  refine oA (sC (show(if lastMarks ops es=true then none else _)=some o from h)) fun hm h=> ?_
  show IG _ A (do testChain p (←eval l env) ops (markedEach ops es (evalEach es env))) _ _ s
  rw[markedEach_of_false _ _ _ (by simpa using hm)]
  and_intros
  refine IH (au.then (.refl a.st a.gd) h (fun o' q=>hf q a) fun y KC w KF KQ KE KM KJ Lc=> ?_)
  exact au.last KE (qe hf KJ (a.step KE) KM)
 |_=>exact v6 hf rfl h a
noncomputable def gi(f:fP)(en:En)(σ:Sg):Option Expr→Option (aG V)
 |none=>some (.ok .none σ)
 |some e=>f en σ e
theorem jF{x:Option Expr}(hf:bE c d f)(h:gi f en σ x=some o)(a:At c A env en ρ σ s d):bn c A (evalPart x env) ρ s o:=by
 cases x with
 |none=>
  obtain rfl:=IF h;rw[evalPart_none];exact II (bY.now (.refl a.st a.gd) .val)
 |some e=>rw[evalPart_some];exact hf h a
noncomputable def AW(f:fP)(en:En)(KC:Sg)(x:V)(lo hi st:Option Expr):Option (aG V):=aw (gi f en KC lo) fun l KG=>aw (gi f en KG hi) fun u KZ=>aw (gi f en KZ st) fun t Lo=>
 (gG l).bind fun l=>(gG u).bind fun u=>(gG t).bind fun t=>(cA Lo x l u t).map fun r=> .ok r.1 r.2
noncomputable def Cg(f:fP)(en:En)(KC:Sg)(x:V)(e:Expr):Option (aG V):=aw (f en KC e) fun i KG=>(cY i).bind fun i=>(gk KG x i).map fun y=> .ok y KG
noncomputable def DQ(f:fP)(en:En)(σ:Sg)(value slice:Expr):Option (aG V):=aw (f en σ value) fun x KC=>if bB slice=true then Cg f en KC x slice else(FA slice).bind fun p=>AW f en KC x p.1.1 p.1.2.1 p.1.2.2.1
theorem mP(hf:bE c d f)(e:DQ f en σ value slice=some o)(a:At c A env en ρ σ s d):bn c A (eval (.Subscript value slice pos) env) ρ s o:=by
 refine Subscript_ (au.then (.refl a.st a.gd) e (fun o' q=>hf q a) fun x KC w KF KQ KE KM KJ Lc=> ?_)
 refine e_ KJ (fun hn KJ=> ?_) fun hn KJ=> ?_
 ·refine au.then KE KJ (fun o' q=>hf q (a.step KE)) fun i KG w₂ KI KX KH K' KY Ln=> ?_
  refine ae KY fun i hi KY=>aP KY fun y hy zz=> ?_;subst zz;obtain rfl:=b_ hi;obtain⟨_,rfl⟩:=K'.intQ;exact(ru KH.sto KH.gd hn hy (Ln.R KM)).last KH
 ·refine eT KJ fun p KJ=> ?_;rw[p.2]
  ·skip
   refine wpAny_Slice (au.then KE KJ (fun o' q=>jF hf q (a.step KE)) fun l KG vl KI KX KH K' KY Ln=>au.then KH KY (fun o' q=>jF hf q (a.step KH)) fun u KZ vu K8 Ls KT LB Lx LQ=>
    au.then KT Lx (fun o' q=>jF hf q (a.step KT)) fun t Lo vt LH Lz K4 L9 LN LI=> ?_)
   refine ae LN fun l' hl LS=>ae LS fun u' hu LT=>ae LT fun t' ht L_=>aP L_ fun q hy zz=> ?_;subst zz;refine IJ (qj (value:=value) (a:=p.1.1) (b:=p.1.2.1) (d:=p.1.2.2.1) a.ok K4.sto K4.gd (y:=q.1) (KB:=q.2) hy (LI.R (LQ.R (Ln.R KM))) (mw hl (LI.R (LQ.R K'))) (mw hu (LI.R LB)) (mw ht L9)) (fun w s₅ q=> ?_) fun u_ u_ q=>q.elim;refine aK q fun LY Lg L0=> ?_;exact bY.now (K4.trans Lg) L0
noncomputable def dg:V→Bool
 | .val v=>handedIn v
 |_=>true
theorem qo(r:R h ρ x v)(e:dg x=true):handedIn v=true:=by
 cases r<;>first|rfl|exact e
noncomputable def eH(fs:List (Str×V))(name:Str):Option V:=(fs.find? (·.1==name)).map (·.2)
theorem Rf.get{es:List DictEntry}(r:Rf h ρ fs es):es.any (·.refKey)=false∧(match eH fs name with|some x=> ∃e,es.find? (·.key.isStr name)=some e∧R h ρ x e.val|none=>es.find? (·.key.isStr name)=none):=by
 induction r with
 |nil=>exact⟨rfl,rfl⟩
 | @cons n t x e fs es hk r rs ih=>
  have hs:e.key.isStr name=(n==name):=by rw[hk];rfl
  refine⟨by simp only[Hs,ih.1,Go];unfold DictEntry.refKey;rw[hk],?_⟩
  unfold eH;simp only[List.find?_cons,hs]
  cases q:(n==name)with
  |true=>exact⟨e,rfl,r⟩
  |false=>exact ih.2
set_option tactic.hygienic true in
theorem Rf.getL{h:Heap}{name:Str}{fs:List (Str×V)}{es:List DictEntry}(r:Rf h ρ fs es):(match eH fs name with|some x=> ∃v,PySem.W.getL name es=some (some v)∧R h ρ x v|none=>PySem.W.getL name es=some none):=by
 refine oA (r.get (name:=name)) fun i1 i2=> ?_;unfold PySem.W.getL
 split
 ·rename_i x hx;rw[hx]at i2;refine aK i2 fun e he hr=> ?_
  exact⟨e.val,by rw[he],hr⟩
 ·rename_i hx;rw[hx]at i2;simp only at i2;rw[i2];simp[i1]
inductive x_ where
 |val (x:V)
 |prop (f:Addr)
noncomputable def kq(x:Value):Option Addr:=if h:x.ctorIdx=10 then some (@Ko.elim (fun u_=>Addr) x h fun a=>a)else none
theorem ja{x:Value}{i:Addr}(e:kq x=some i):x= .ref i:=pJ e fun h u_=> @Ko.elim (fun x=>kq x=some i→x= .ref i) x h (fun u_ e=>congrArg _ (IF e)) e
noncomputable def Aa:aa→Option (List (Str×V))
 | .dct l=>some l
 |_=>none
noncomputable def fL(σ:Sg)(k:Nat):Option (List (Str×V)):=σ[k]?.bind Aa
theorem n0{l:List (Str×V)}(e:fL σ k=some l):σ[k]? =some (.dct l):=ae e fun x h w=>by
 cases x with
 |dct=>exact IF w▸h
 |_=>exact no w
theorem l0{l:List (Str×V)}(h:σ[k]? =some (.dct l)):fL σ k=some l:=by unfold fL;rw[h];rfl
theorem zZ{l:List α}{a:α}(e:l.head?=some a): ∃r,l=a::r:=by
 cases l with
 |nil=>exact no e
 |cons b r=>exact⟨r,by rw[IF e]⟩
noncomputable def fR(K:Frag)(fs:List (Str×V))(name:Str)(attr:Option Value):Option x_:=match eH fs name with
 |some y=>if(noGet K attr&&dg y)=true then some (.val y)else none
 |none=>attr.bind fun a=>(kq a).bind fun p=>if specialIn K (.ref p) "__get__"=some (some (.builtin "property.__get__"))∧takesIn K (.ref p)=some true then(recIn K p "property").bind fun l=>l.head?.bind fun f=>(kq f).map .prop else none
noncomputable def DE:CFound→Option Value
 | .val a=>some a
 |_=>none
noncomputable def E_:(x:CFound)→Option {p:Addr×Addr//x= .get (.builtin "staticmethod.__get__") (.ref p.1) .none (.ref p.2)}
 | .get (.builtin "staticmethod.__get__") (.ref p) .none (.ref C)=>some ⟨(p,C),rfl⟩
 |_=>none
theorem D7{x:CFound}{a:Value}(e:DE x=some a):x= .val a:=by cases x<;>first|exact no e|exact congrArg _ (IF e)
noncomputable def u0(v:Value):Option x_:=if handedIn v=true then some (.val (.val v))else none
noncomputable def Bs(K:Frag)(name:Str)(C:Addr):Option x_:=(typeIn K (.ref C)).bind fun mc=>if readsIn K C mc=true then(findCls K (.ref C) mc name).bind fun r=>
 ((DE r).bind u0).or ((E_ r).bind fun p=>if p.1.2=C then(recIn K p.1.1 "staticmethod").bind fun l=>l.head?.bind u0 else none)
 else none
variable (c)in
noncomputable def jo(σ:Sg)(x:V)(name:Str):Option x_:=match x with
 | .inst C k=>(fL σ k).bind fun fs=>if(plainGet c.K C name&&hasDictIn c.K C)=true then(findIn c.K (.ref C) name).bind (fR c.K fs name)else none
 | .val v=>(kq v).bind (Bs c.K name)
 |_=>none
theorem orE{x y:Option α}{b:α}(e:x.or y=some b)(h:x=some b→P)(k:y=some b→P):P:=by
 cases x with
 |none=>exact k e
 |some a=>exact h e
theorem ot{gt:x_}(e:u0 v=some gt):handedIn v=true∧gt= .val (.val v):=bI e fun h w=>⟨h,(IF w).symm⟩
theorem AC{gt:x_}(e:jo c σ x name=some gt)
 (k1: ∀C k fs attr y,x= .inst C k→σ[k]? =some (.dct fs)→plainGet c.K C name=true→hasDictIn c.K C=true→findIn c.K (.ref C) name=some attr→eH fs name=some y→noGet c.K attr=true→dg y=true→gt= .val y→P)
 (k2: ∀C k fs p f r,x= .inst C k→σ[k]? =some (.dct fs)→plainGet c.K C name=true→hasDictIn c.K C=true→findIn c.K (.ref C) name=some (some (.ref p))→specialIn c.K (.ref p) "__get__"=some (some (.builtin "property.__get__"))→takesIn c.K (.ref p)=some true→recIn c.K p "property"=some (.ref f::r)→gt= .prop f→P)
 (k3: ∀C mc a,x= .val (.ref C)→typeIn c.K (.ref C)=some mc→readsIn c.K C mc=true→findCls c.K (.ref C) mc name=some (.val a)→handedIn a=true→gt= .val (.val a)→P)
 (k4: ∀C mc p f r,x= .val (.ref C)→typeIn c.K (.ref C)=some mc→readsIn c.K C mc=true→findCls c.K (.ref C) mc name=some (.get (.builtin "staticmethod.__get__") (.ref p) .none (.ref C))→recIn c.K p "staticmethod"=some (f::r)→handedIn f=true→gt= .val (.val f)→P):P:=by
 cases x with
 |inst C k=>
  refine ae (show((fL σ k).bind _)=some gt from e) fun fs hk e=>bI e fun hp e=>ae e fun attr ha e=> ?_
  refine oA (Gg.mp hp) fun hp hh=> ?_
  cases hy:eH fs name with
  |some y=>
   unfold fR at e;rw[hy]at e;exact bI e fun hn e=>k1 C k fs attr y rfl (n0 hk) hp hh ha hy (Gg.mp hn).1 (Gg.mp hn).2 (IF e).symm
  |none=>
   unfold fR at e;rw[hy]at e;refine ae e fun a ha' e=>ae e fun p hp' e=>bI e fun hs e=>ae e fun l hl e=>ae e fun f hf e=>aP e fun f' hf' w=> ?_;refine oE (zZ hf) fun r zz1=> ?_;subst zz1;rw[ha',ja hp']at ha;rw[ja hf']at hl;exact k2 C k fs p f' r rfl (n0 hk) hp hh ha hs.1 hs.2 hl w.symm
 |val v=>
  refine ae (show((kq v).bind _)=some gt from e) fun C hC e=>ae e fun mc hmc e=>bI e fun hr e=>ae e fun r hf e=>orE e (fun e=>ae e fun a ha e=> ?_) fun e=>ae e fun p u_ e=>bI e fun hC' e=>ae e fun l hl e=>ae e fun f hf' e=> ?_
  ·rw[D7 ha]at hf
   exact k3 C mc a (by rw[ja hC]) hmc hr hf (ot e).1 (ot e).2
  ·obtain⟨⟨q,C'⟩,h⟩:=p;obtain rfl:C'=C:=hC';refine oE (zZ hf') fun r' zz1=> ?_;subst zz1;rw[h]at hf
   exact k4 C' mc q f r' (by rw[ja hC]) hmc hr hf hl (ot e).1 (ot e).2
 |_=>exact no e
variable (c)in
noncomputable def mE(A:Around)(code:Code)(ρ:Pl)(s:Shared)(o:aG V):Prop:=
 codeAny (model c.prog c.w) A code (fun r s'=>match r with| .ok (.ret v)=>bY c R ρ s o v s'| .ok _=>False| .error e=>cH c ρ s o e s') s
set_option tactic.hygienic true in
theorem kI{h:Heap}{ρ:Pl}{σ:Sg}{C k:Nat}{fs:List (Str×V)}{v:Value}(st:aQ c ρ σ h)(hk:σ[k]? =some (.dct fs))(r:R h ρ (.inst C k) v):
 ∃x es n sl,v= .ref x∧InstAt h x (instObj C (ρ.r[k]?.getD 0)) C (some (fm es n sl))∧h.get? (ρ.r[k]?.getD 0)=some (fm es n sl)∧Rf h ρ fs es:=by
 cases r with
 |inst h1 f1 h2=>
 rename_i a dx
 refine l_ (st.at_ _ _ _ h2 hk) fun es n sl h3 rf=> ?_
 have e:ρ.r[k]?.getD 0=dx:=by rw[h2];rfl
 rw[e];exact⟨a,es,n,sl,rfl,⟨h1,rfl,rfl,h3⟩,h3,rf⟩
theorem qu{expr:Bool}(ok:c.Ok)(st:aQ c ρ σ s.heap)(g:Gd c s.heap)(e:jo c σ x name=some (.val y))(r:R s.heap ρ x v):bn c A (getAttr v name expr) ρ s (.ok y σ):=by
 have S:af c ρ s ρ σ {s with toks:=s.toks+1}:=af.toks st g
 refine AC e (fun C k fs attr y' hx hk hg hh ha hy hn hv q=> ?_) (fun C k fs p f r' hx hk hg hh ha h1 h2 hp q=>nomatch q) (fun C mc a hx hmc hr ha hh q=> ?_) fun C mc p f r' hx hmc hr ha hp hh q=> ?_
 ·subst hx;cases q;refine cC (kI st hk r) fun xa es n sl zz4 I hdx rf=> ?_;subst zz4;have hl:=rf.getL (name:=name);rw[hy]at hl;refine aK hl fun w hw rw'=> ?_
  exact get_value g.kin I (plainGet_of hg).1 (findObj_own hh ha hn (show lookIn name (fm es n sl)=_ from hw)) (qo rw' hv) (bY.now S (S.R rw'))
 ·subst hx;cases q;obtain rfl:=r.valQ;exact cls_value g.kin hr ha hh (bY.now S .val)
 ·subst hx;cases q;obtain rfl:=r.valQ
  refine cls_bind g.kin hr ha (I7 (sm_get (s:={s with toks:=s.toks+1}) S.gd.kin hp ?_))
  exact handed_on hh (bY.now S .val)
theorem uG{expr:Bool}{fget:Addr}(ok:c.Ok)(st:aQ c ρ σ s.heap)(g:Gd c s.heap)(e:jo c σ x name=some (.prop fget))(r:R s.heap ρ x v)(hy:dg y=true)
 (h:mE c A.in1 (.call (.ref fget) ⟨[v],[]⟩) ρ {s with toks:=s.toks+1} (.ok y KB)):bn c A (getAttr v name expr) ρ s (.ok y KB):=by
 have S:af c ρ s ρ σ {s with toks:=s.toks+1}:=af.toks st g
 refine AC e (fun C k fs attr y' hx hk hg hh ha hy hn hv q=>nomatch q) (fun C k fs p f r' hx hk hg hh ha h1 h2 hp q=> ?_) (fun C mc a hx hmc hr ha hh q=>nomatch q) fun C mc p f r' hx hmc hr ha hp hh q=>nomatch q;subst hx;cases q;refine cC (kI st hk r) fun xa es n sl zz4 I hdx rf=> ?_;subst zz4
 refine get_bind g.kin I (plainGet_of hg).1 (findObj_data (by refine aK (any_some hh) fun cd hc u_=> ?_;rw[hc];rfl) ha h1 h2) (plainGet_of hg).2 (I7 (prop_get (s:={s with toks:=s.toks+1}) S.gd.kin hp (I5 h fun r s' hr=> ?_)))
 cases r with
 |ok fl=>
  cases fl with
  |ret v=>
   refine aK hr fun KD S' r'=> ?_;exact handed_on (qo r' hy) (bY.now (S.trans S') r')
  |_=>exact hr.elim
 |error e=>exact hr.elim
noncomputable def aY(e:Expr):Bool:=e.ctorIdx.beq 16
noncomputable def aU(e:Expr):Bool:= !aY e
theorem ly{o:Expr}{attr:Str}{ed:Sem Value}(h:aU o=true):attributeBase o attr env ed=ed:=by
 cases o<;>first|rfl|exact bM h
noncomputable abbrev b9:=Sg→Addr→List V→List (Str×V)→Option (aG V)
inductive Rk(h:Heap)(ρ:Pl):List (Str×V)→List (Str×Value)→Prop
 |nil:Rk h ρ [] []
 |cons {n:Str} {x:V} {v:Value} {l:List (Str×V)} {vs:List (Str×Value)}:R h ρ x v→Rk h ρ l vs→Rk h ρ ((n,x)::l) ((n,v)::vs)
variable (c)in
noncomputable def dF(d:Nat)(f:b9):Prop:= ∀{A:Around} {ρ:Pl} {σ:Sg} {s:Shared} {a:Addr} {xs:List V} {ks:List (Str×V)} {vs:List Value} {kv:List (Str×Value)} {o:aG V},f σ a xs ks=some o→
 c.Ok→aQ c ρ σ s.heap→Gd c s.heap→eo c ρ A d s.heap→Rs s.heap ρ xs vs→Rk s.heap ρ ks kv→mE c A (.call (.ref a) ⟨vs,kv⟩) ρ s o
theorem eo.in1(r:eo c ρ A (d+1) h):eo c ρ A.in1 d h where
 hand:=r.hand
 depth:=by have:=r.depth;show A.depth+d<recursionLimit;exact rm0 ‹_›
 units:=by have:=r.units;show A.units+1+8*d+220<cLine;exact ru1 ‹_›
 frames:=r.frames
noncomputable def sf(f:fP)(cf:b9)(en:En)(σ:Sg)(value:Expr)(name:Str):Option (aG V):=if aU value then aw (f en σ value) fun x KC=>(jo c KC x name).bind fun r=> @x_.casesOn (fun u_=>Option (aG V)) r (fun y=>some (.ok y KC)) fun fget=>(cf KC fget [x] []).bind fun o=> @aG.casesOn V (fun u_=>Option (aG V)) o (fun y KG=>if dg y then some (.ok y KG)else none) fun u_ u_=>none
 else none
theorem mU{cf:b9}(hf:bE c (d+1) f)(hc:dF c d cf)(e:sf (c:=c) f cf en σ value name=some o)(a:At c A env en ρ σ s (d+1)):bn c A (eval (.Attribute value name pos) env) ρ s o:=by
 refine bI e fun hp e=> ?_
 ·refine Attribute_any_ (au.then (.refl a.st a.gd) e (fun o' h=>hf h a) fun x KC v KF KQ KE KM KJ u_=> ?_) ?_
  ·refine ae KJ fun q hy KJ=> ?_
   cases q with
   |val y=>
    obtain rfl:=IF KJ;exact(qu a.ok KE.sto KE.gd hy KM).last KE
   |prop fget=>
    refine ae KJ fun q hcf KJ=> ?_
    cases q with
    |ok y KG=>
     refine bI KJ fun hh KJ=> ?_;obtain rfl:=IF KJ
     have KH:af c KQ KF KQ KC {KF with toks:=KF.toks+1}:=af.toks KE.sto KE.gd
     exact(uG a.ok KE.sto KE.gd hy KM hh (hc hcf a.ok KE.sto KE.gd (a.step KE).room.in1 (.cons KM .nil) .nil)).last KE
    |exc=>exact no KJ
  ·rw[arm_eval_Attribute,ly hp]
noncomputable def Cv(names:List Str):List (Str×α)→List (Str×α)→Option (List (Str×α))
 |sl,[]=>some sl
 |sl,(k,v)::r=>if names.contains k&& !(sl.lookup k).isSome then Cv names (sl++[(k,v)]) r else none
noncomputable def iu:List (Str×α)→List (Str×α)→List (Str×α)
 |sl,[]=>sl
 |sl,(n,v)::r=>iu (if(sl.lookup n).isNone then sl++[(n,v)]else sl) r
noncomputable def eU(names:List Str)(pos:List α)(kw:List (Str×α))(ds:List α):Option (List (Str×α)):=
 if pos.length≤names.length∧ds.length≤names.length then
  (Cv names (names.zip pos) kw).bind fun sl=>
   if((names.take (names.length-ds.length)).filter fun n=>(sl.lookup n).isNone).isEmpty then
    some (names.filterMap fun n=>((iu sl ((names.drop (names.length-ds.length)).zip ds)).lookup n).map (n,·))
   else none
 else none
theorem yY{ds:List Value}{binds:List (Str×Value)}(h1:fd.params.posonlyargs=[])(h2:fd.params.kwonlyargs=[])(h3:fd.params.vararg=none)(h4:fd.params.kwarg=none)
 (hd: ∀{M:Model} {A:Around} {E:Value→Shared→Prop} {Q:Option (Array Value)→Shared→Prop},(∀r:Option (Array Value),(r.getD #[]).toList=ds→Q r s)→IG M A (seqItems? fd.defaults) Q E s)
 (e:eU (fd.params.args.map (·.arg)) vs kv ds=some binds):BindsTo s fd ⟨vs,kv⟩ binds:=by
 intro M A E Q hq;obtain⟨nm,qn,⟨po,as,va,ko,kd,ka,df⟩,bd,sc,gl,cl,dv,kwd,dc,pm,an,cd,ct,bl⟩:=fd;subst h1;subst h2;subst h3;subst h4;replace e:eU (as.map (·.arg)) vs kv ds=some binds:=e;refine bI e fun hlen e1=>ae e1 fun sl hsl e2=>bI e2 fun hmiss e3=> ?_;obtain rfl:=IF e3;unfold bindArgs;refine(?_:IG _ _ (ForIn.forIn kv ((as.map (·.arg)).zip vs,[]) _>>=_) _ _ s)
 and_intros
 refine IH ?_
 change let B0:=_;IG _ _ (forIn _ _ B0) _ _ _;intro B0
 refine(Jh _ (fun rest b s'=>b.2=[]∧Cv (as.map (·.arg)) b.1 rest=some sl∧s'=s) _ ?_ ?_ _ _ ⟨rfl,hsl,rfl⟩)
 ·intro p rest b s' hb;obtain⟨k,v⟩:=p;obtain⟨b1,b2⟩:=b;refine mN hb fun hb hk hs=> ?_;subst hb;refine bI hk fun hc hk2=> ?_;refine oA (Gg.mp hc) fun hc1 hc2=> ?_
  refine cX (by rw[show(List.contains (List.map (fun x:Arg=>x.arg) as) k)=true from hc1];rfl) ?_
  refine bV (fun q=>by rw[q]at hc2;exact bM hc2) ?_
  exact II ⟨rfl,hk2,hs⟩
 ·intro b s' hb;obtain⟨b1,b2⟩:=b;refine mN hb fun hb hk hs=> ?_;subst hb;obtain rfl:=hs.symm;obtain rfl:=IF hk
  and_intros
  refine IH (hd fun r hr=> ?_);subst hr
  have hdrop:((r.getD #[]).toList.drop ((r.getD #[]).toList.length-(as.map (·.arg)).length))=(r.getD #[]).toList:=by rw[Nat.sub_eq_zero_of_le hlen.2];rfl
  refine bV (by simpa using hlen.1) ?_
  refine hdrop.symm▸ ?_;refine bV (fun q=>bM ((congrArg not hmiss).symm.trans q)) ?_
  and_intros
  refine IH ?_
  change let B0:=_;IG _ _ (forIn _ _ B0) _ _ _;intro B0
  refine(Jh _ (fun rest b s''=>iu b rest=iu b1 (((as.map (·.arg)).drop ((as.map (·.arg)).length-(r.getD #[]).toList.length)).zip (r.getD #[]).toList)∧s''=s) _ ?_ ?_ _ _ ⟨rfl,rfl⟩)
  ·intro p rest b s'' hb;obtain⟨n,v⟩:=p;refine oA hb fun hb hs=> ?_
   by_cases q:(G3 n b).isNone=true
   ·refine cX q (II ⟨?_,hs⟩);exact(congrArg (iu · rest) (if_pos q).symm).trans hb
   ·refine bV q (II ⟨?_,hs⟩);exact(congrArg (iu · rest) (if_neg q).symm).trans hb
  ·intro b s'' hb;refine oA hb fun hb2 hs=> ?_;obtain rfl:=hs.symm
   and_intros
   refine IH (II ?_)
   refine bV (show¬((!([]:List Str).isEmpty)=true)from by exact Gi) ?_
   refine(show b=_ from hb2).symm▸ ?_
   refine II (?_:Q (List.filterMap _ (as.map (·.arg)++[])) s);refine(G2 (as.map (·.arg))).symm▸ ?_;exact hq
inductive AX(h:Heap)(ρ:Pl):Option V→Option Value→Prop
 |no:AX h ρ none none
 |so {x:V} {v:Value}:R h ρ x v→AX h ρ (some x) (some v)
theorem AX.opt{a:Option V}{b:Option Value}(o:AX h ρ a b):kl h ρ a b:=by
 cases o with
 |no=>exact .no
 |so r=>exact .so r
theorem dL{n:Str}{l:List (Str×V)}{vs:List (Str×Value)}(r:Rk h ρ l vs):AX h ρ (l.lookup n) (vs.lookup n):=by
 induction r with
 |nil=>exact .no
 | @cons m x v l vs r rs ih=>
  rw[G5,G5]
  cases(n==m)with
  |true=>exact .so r
  |false=>exact ih
theorem AX.same{a:Option V}{b:Option Value}(o:AX h ρ a b):a.isSome=b.isSome∧a.isNone=b.isNone:=by cases o<;>exact⟨rfl,rfl⟩
theorem Rk.snoc{n:Str}(r:R h ρ x v){l:List (Str×V)}{vs:List (Str×Value)}(q:Rk h ρ l vs):Rk h ρ (l++[(n,x)]) (vs++[(n,v)]):=Rk.rec (motive:=fun l vs u_=>Rk h ρ (l++[(n,x)]) (vs++[(n,v)])) (.cons r .nil) (fun q u_ ih=> .cons q ih) q
theorem sn{ns:List Str}(r:Rs h ρ l vs):Rk h ρ (ns.zip l) (ns.zip vs):=
 Rs.ind (Q:=fun l vs=> ∀ns:List Str,Rk h ρ (ns.zip l) (ns.zip vs)) (fun ns=>by rw[List.zip_nil_right,List.zip_nil_right];exact .nil) (fun r u_ ih ns=>by
  cases ns with
  |nil=>exact .nil
  |cons n ns=>exact .cons r (ih ns)) r ns
theorem yi{ks:List (Str×V)}{sv:List (Str×Value)}{o:List (Str×V)}(r:Rk h ρ ks kv)(q:Rk h ρ sl sv)(e:Cv N sl ks=some o): ∃ov,Cv N sv kv=some ov∧Rk h ρ o ov:=by
 induction r generalizing sl sv with
 |nil=>exact⟨sv,rfl,IF e▸q⟩
 | @cons n x v l vs r rs ih=>
  refine bI e fun hc e=> ?_
  refine(?_: ∃ov,(if N.contains n&& !(sv.lookup n).isSome then Cv N (sv++[(n,v)]) vs else none)=some ov∧_)
  rw[←(dL (n:=n) q).same.1,if_pos hc];exact ih (q.snoc r) e
theorem ux{ks:List (Str×V)}{sv:List (Str×Value)}(r:Rk h ρ ks kv)(q:Rk h ρ sl sv):Rk h ρ (iu sl ks) (iu sv kv):=by
 induction r generalizing sl sv with
 |nil=>exact q
 | @cons n x v l vs r rs ih=>
  refine(?_:Rk h ρ (iu (if(sl.lookup n).isNone then sl++[(n,x)]else sl) l) (iu (if(sv.lookup n).isNone then sv++[(n,v)]else sv) vs))
  rw[←(dL (n:=n) q).same.2]
  by_cases p:(sl.lookup n).isNone=true
  ·rw[if_pos p,if_pos p];exact ih (q.snoc r)
  ·rw[if_neg p,if_neg p];exact ih q
theorem wW{sv:List (Str×Value)}(q:Rk h ρ sl sv)(N:List Str):Rk h ρ (N.filterMap fun n=>(sl.lookup n).map (n,·)) (N.filterMap fun n=>(sv.lookup n).map (n,·)):=by
 induction N with
 |nil=>exact .nil
 |cons n N ih=>
  have:=dL (n:=n) q;simp only[HB];generalize sl.lookup n=a at*;generalize sv.lookup n=b at*
  cases this with
  |no=>exact ih
  |so r=>exact .cons r ih
set_option tactic.hygienic true in
theorem tF{h:Heap}{N:List Str}{l:List V}{vs:List Value}{ks:List (Str×V)}{kv:List (Str×Value)}{ds:List V}{dv:List Value}{o:List (Str×V)}(r:Rs h ρ l vs)(q:Rk h ρ ks kv)(p:Rs h ρ ds dv)(e:eU N l ks ds=some o):
 ∃ov,eU N vs kv dv=some ov∧Rk h ρ o ov:=by
 unfold eU at e⊢;rw[←r.length,←p.length]
 split at e
 ·rename_i hl;rw[if_pos hl];refine aK (Option.bind_eq_some_iff.mp e) fun sl hsl e=> ?_;refine aK (yi q (sn r) hsl) fun sv hsv qs=> ?_;rw[hsv,IE]
  have hf:((N.take (N.length-ds.length)).filter fun n=>(sv.lookup n).isNone)=((N.take (N.length-ds.length)).filter fun n=>(sl.lookup n).isNone):=by
   congr 1;funext n;exact(dL (n:=n) qs).same.2.symm
  rw[hf]
  split at e
  ·rename_i hm;obtain rfl:=IF e;rw[if_pos hm];exact⟨_,rfl,wW (ux (sn p) qs) N⟩
  ·exact no e
 ·exact no e
noncomputable def mK(env:Env):List Addr:=env.locals::env.scope.names.filterMap fun x=>if env.scope.names.lookup x.1=some .cell then env.cells.lookup x.1 else none
set_option tactic.hygienic true in
theorem a_.own{h:Heap}(e:a_ h ρ env en): ∀a∈mK env,a∈ρ.p:=by
 intro a m
 rcases GW.mp m with rfl|m
 ·exact e.out
 ·refine aK (Hj.mp m) fun x _ hx=> ?_
  split at hx
  ·rename_i hk
   refine bS (e.ce x.1 (by rw[←e.names];exact hk)) fun a' w h1 h2 h3 _=> ?_
   rw[h1]at hx;obtain rfl:=IF hx;exact h3
  ·exact no hx
variable (c)in
structure bo(env:Env)(ρ:Pl)(s:Shared)(KD:Pl)(KB:Sg)(s':Shared):Prop where
 st:ad c (mK env) ρ s KD KB s'
 fo:cq (mK env) s.heap s'.heap
theorem cq.trans{D:List Addr}(x:cq D h h')(y:cq D h' h''):cq D h h'':=fun a m o e t=>by
 refine aK (x a m o e t) fun o' e' t'=> ?_;exact y a m o' e' t'
theorem bo.trans(x:bo c env ρ s KD KB s')(y:bo c env KD s' Lf Ll s''):bo c env ρ s Lf Ll s'':=⟨x.st.trans y.st,x.fo.trans y.fo⟩
theorem af.fo{D:List Addr}(t:aQ c ρ σ s.heap)(x:af c ρ s KD KB s')(d: ∀a∈D,a∈ρ.p):cq D s.heap s'.heap:=fun a m o e ⟨es,ep,hd⟩=>by
 refine aK (x.ext a o (fun z=>t.disj a (d a m) (by simpa using z)) e) fun o' e' q=> ?_
 exact⟨o',e',es,ep,q.dict hd⟩
theorem af.toS(t:aQ c ρ σ s.heap)(x:af c ρ s KD KB s')(e:a_ s.heap ρ env en):bo c env ρ s KD KB s':=⟨x.D,x.fo t e.own⟩
inductive Fl where
 |next
 |brk
 |cont
 |ret (v:V)
inductive Ep(h:Heap)(ρ:Pl):Fl→Flow→Prop
 |next:Ep h ρ .next .next
 |brk:Ep h ρ .brk .brk
 |cont:Ep h ρ .cont .cont
 |ret {x:V} {v:Value}:R h ρ x v→Ep h ρ (.ret x) (.ret v)
inductive aL where
 |ok (f:Fl) (en:En) (σ:Sg)
 |exc (cls:String) (en:En) (σ:Sg)
variable (c)in
noncomputable def gj(env:Env)(ρ:Pl)(s:Shared)(o:aL):Flow→Shared→Prop:=fun fl s'=>match o with
 | .ok f en' KB=> ∃KD,bo c env ρ s KD KB s'∧a_ s'.heap KD env en'∧Ep s'.heap KD f fl
 | .exc .. =>False
variable (c)in
noncomputable def iB(env:Env)(ρ:Pl)(s:Shared)(o:aL):Value→Shared→Prop:=fun e s'=>match o with
 | .exc cls en' KB=> ∃KD,bo c env ρ s KD KB s'∧a_ s'.heap KD env en'∧f7 s'.heap KD s.heap.objs.size cls e
 | .ok .. =>False
variable (c)in
noncomputable def eC(A:Around)(t:Sem Flow)(env:Env)(ρ:Pl)(s:Shared)(o:aL):Prop:=IG (model c.prog c.w) A t (gj c env ρ s o) (iB c env ρ s o) s
noncomputable def o5(A:Around)(env:Env):Prop:= ∃outer,A.frames=some (env::outer)
noncomputable abbrev ES:=En→Sg→Stmt→Option aL
noncomputable abbrev eD:=En→Sg→List Stmt→Option aL
variable (c)in
noncomputable def EB(d:Nat)(f:ES):Prop:= ∀{A:Around} {env:Env} {en:En} {ρ:Pl} {σ:Sg} {s:Shared} {e:Stmt} {o:aL},f en σ e=some o→At c A env en ρ σ s d→o5 A env→eC c A (exec e env) env ρ s o
variable (c)in
noncomputable def gv(d:Nat)(f:eD):Prop:= ∀{A:Around} {env:Env} {en:En} {ρ:Pl} {σ:Sg} {s:Shared} {e:List Stmt} {o:aL},f en σ e=some o→At c A env en ρ σ s d→o5 A env→eC c A (execs e env) env ρ s o
theorem At.stepS(a:At c A env en ρ σ s d)(x:bo c env ρ s KD KB s')(er:a_ s'.heap KD env en'):At c A env en' KD KB s' d:=⟨a.ok,x.st.sto,x.st.gd,er,a.room.monoD a.st x.st x.fo⟩
theorem gj.trans{o:aL}{fl:Flow}(x:bo c env ρ s KD KB s')(p:gj c env KD s' o fl s''):gj c env ρ s o fl s'':=by
 cases o with
 |ok f en' KB=>refine bW p fun Lf y e r=> ?_;exact⟨Lf,x.trans y,e,r⟩
 |exc=>exact p
theorem iB.trans{o:aL}{e:Value}(x:bo c env ρ s KD KB s')(p:iB c env KD s' o e s''):iB c env ρ s o e s'':=by
 cases o with
 |exc cls en' KB=>refine bW p fun Lf y e r=> ?_;exact⟨Lf,x.trans y,e,r.mono x.st.rest.hsize⟩
 |ok=>exact p
theorem eC.last{t:Sem Flow}{o:aL}(x:bo c env ρ s KD KB s')(h:eC c A t env KD s' o):IG (model c.prog c.w) A t (gj c env ρ s o) (iB c env ρ s o) s':=
 IJ h (fun u_ u_ p=>p.trans x) fun u_ u_ p=>p.trans x
noncomputable def BC:Fl→Bool
 | .next=>true
 | .brk=>false
 | .cont=>false
 | .ret _=>false
noncomputable def CE:aL→Option (En×Sg)
 | .ok f en σ=>if BC f=true then some (en,σ)else none
 | .exc _ _ _=>none
noncomputable def Ce(f:ES):En→Sg→List Stmt→Option aL
 |en,σ,[]=>some (.ok .next en σ)
 |en,σ,e::es=>(f en σ e).bind fun so=>(CE so).elim (some so) fun p=>Ce f p.1 p.2 es
theorem vL{f:ES}(hf:EB c d f)(tp:o5 A env){es:List Stmt}: ∀{en:En} {σ:Sg} {ρ:Pl} {s:Shared} {o:aL},Ce f en σ es=some o→At c A env en ρ σ s d→eC c A (execs es env) env ρ s o:=by
 induction es with
 |nil=>
  intro en σ ρ s o e a;obtain rfl:=IF e;exact wpAny_execs_nil ⟨ρ,(af.refl a.st a.gd).toS a.st a.er,a.er,.next⟩
 |cons x es ih=>
  intro en σ ρ s o e a;refine wpAny_execs_cons ?_;refine ae e fun so hx e=> ?_
  cases so with
  |exc cls en' KB=>
   obtain rfl:=IF e;exact IJ (hf hx a tp) (fun fl s' p=>p.elim) fun e s' p=>p
  |ok f' en' KB=>
   refine IJ (hf hx a tp) (fun fl s' p=> ?_) fun e s' p=>p.elim;refine bW p fun KD S er r=> ?_
   cases r with
   |next=>exact(ih e (a.stepS S er)).last S
   |brk=>obtain rfl:=IF e;exact⟨KD,S,er,.brk⟩
   |cont=>obtain rfl:=IF e;exact⟨KD,S,er,.cont⟩
   |ret r=>obtain rfl:=IF e;exact⟨KD,S,er,.ret r⟩
set_option tactic.hygienic true in
theorem au.thenS{α β:Type}{rel:Heap→Pl→α→β→Prop}{t:Sem β}{KW:Pl}{KN:Shared}{en:En}{Li:Option (aG α)}{k:α→Sg→Option aL}{o:aL}{Q:β→Shared→Prop}(a:At c A env en ρ σ s d)(K2:bo c env KW KN ρ σ s)
 (e:(match Li with|some (.ok x KB)=>k x KB|some (.exc cls KB)=>some (.exc cls en KB)|none=>none)=some o) (h: ∀o',Li=some o'→au c rel A t ρ s o')
 (hk: ∀x KB v s' KD,bo c env KW KN KD KB s'→At c A env en KD KB s' d→rel s'.heap KD x v→k x KB=some o→af c ρ s KD KB s'→Q v s'):
 IG (model c.prog c.w) A t Q (iB c env KW KN o) s:=by
 split at e
 ·rename_i x KB
  refine(h _ rfl).go (fun y Ll q v s' KD st r=> ?_) (fun cls Ll q=>by exact iQ q)
  refine jP q fun zz1 zz2=> ?_;subst zz1;subst zz2;exact hk _ _ _ _ _ (K2.trans (st.toS a.st a.er)) (a.step st) r e st
 ·rename_i cls KB;obtain rfl:=IF e
  refine(h _ rfl).go (fun x Ll q=>by exact EH q) (fun cls Ll q e s' f=> ?_)
  refine Ct q fun zz1 zz2=> ?_;subst zz1;subst zz2;refine aK f fun KD st fl=> ?_;exact⟨KD,K2.trans (st.toS a.st a.er),st.env a.st a.er,fl.mono K2.st.rest.hsize⟩
 ·exact no e
noncomputable def bQ(en:En)(Li:Option (aG α))(k:α→Sg→Option aL):Option aL:=match Li with
 |some (.ok x KB)=>k x KB
 |some (.exc cls KB)=>some (.exc cls en KB)
 |none=>none
theorem rq{o:aL}(hf:bE c d f)(h:bQ en (f en σ e) (fun x KB=>some (.ok (.ret x) en KB))=some o)(a:At c A env en ρ σ s d):eC c A (exec (.Return (some e) pos) env) env ρ s o:=by
 refine wpAny_Return_some (au.thenS a ((af.refl a.st a.gd).toS a.st a.er) h (fun o' q=>hf q a) fun x KC v KF KQ KE KR KM KJ Lc=> ?_);obtain rfl:=IF KJ;exact⟨KQ,KE,KR.er,.ret KM⟩
theorem AT{g:lu}{fs:eD}{t:Expr}{b e':List Stmt}{o:aL}(hg:eO c d g)(hs:gv c d fs)(h:bQ en (g en σ t) (fun x KB=>if x then fs en KB b else fs en KB e')=some o)(a:At c A env en ρ σ s d)(tp:o5 A env):
 eC c A (exec (.If t b e' pos) env) env ρ s o:=by
 refine wpAny_If (au.thenS a ((af.refl a.st a.gd).toS a.st a.er) h (fun o' q=>hg q a) fun x KC v KF KQ KE KR KM KJ Lc=> ?_)
 cases KM
 cases x
 ·exact(hs KJ KR tp).last KE
 ·exact(hs KJ KR tp).last KE
end
variable {so:aL}
section
variable {env:Env}{d:Nat}
noncomputable def En.set(en:En)(x:Str)(y:V):En:={en with own:=(x,y)::en.own}
theorem dO{b:Addr}{m:Str→Option Value}{v:Option Value}(n:h.Ns a m)(k:h.IsCell b v):b≠a:=fun e=>by
 subst e;refine iC n fun o es ep ho hd u_=> ?_;refine aK k fun o' ho' hd'=> ?_;rw[ho]at ho';obtain rfl:=IF ho';rw[hd]at hd';cases hd'
theorem cP{x z:Str}{l:List (Str×V)}:G3 z ((x,y)::l)=if z=x then some y else l.lookup z:=by
 rw[G5]
 by_cases h:z=x
 ·subst h;simp
 ·rw[if_neg h];have:(z==x)=false:=beq_eq_false_iff_ne.mpr h;rw[this]
theorem dK{x:Str}{Q:Unit→Shared→Prop}(a:At c A env en ρ σ s d)(hk:en.names.lookup x=some .local∨en.names.lookup x=some .cell)(r:R s.heap ρ y v)
 (h: ∀s',bo c env ρ s ρ σ s'→a_ s'.heap ρ env (en.set x y)→Q () s'):IG (model c.prog c.w) A (storeName env x v) Q E s:=by
 have hkind:env.kindOf x=en.names.lookup x:=by rw[←a.er.names];rfl
 rcases hk with hl|hl
 ·refine aK a.er.lo fun m hn hm=> ?_
  refine wpAny_storeName_local (hkind.trans hl) hn (fun h' hn' hs'=> ?_) (by rw[a.er.kind];rfl)
  have S:ad c [env.locals] ρ s ρ σ {s with heap:=h',toks:=s.toks+1}:=ad.same (t:=s.toks+1) a.ok a.st a.gd a.er.out hs'
  have dp: ∀b∈[env.locals],b∈ρ.p:=by simpa using a.er.out
  refine h _ ⟨S.wider (by simp[mK]),fun b mb o e hd=> ?_⟩ ⟨a.er.kind,a.er.names,a.er.gl,a.er.bi,⟨_,hn',fun z hz=> ?_⟩,fun z hz=> ?_,fun z hz=> ?_,a.er.out,a.er.ap,a.er.cd⟩
  ·by_cases q:b=env.locals
   ·subst q;refine iC hn' fun o' es ep ho' hd' u_=> ?_;exact⟨o',ho',es,ep,hd'⟩
   ·exact⟨o,(hs'.2 b q).trans e,hd⟩
  ·show kl h' ρ (G3 z ((x,y)::en.own)) _;rw[cP]
   split
   ·exact .so (ad.R dp S r)
   ·exact(hm z hz).mono (ad.off dp) S.ext S.le
  ·have hzx:z≠x:=fun q=>by subst q;rw[show(en.set z y).names=en.names from rfl,hl]at hz;cases IF hz
   refine bS (a.er.ce z hz) fun b w h1 h2 h3 h4=> ?_;refine⟨b,w,h1,S.ext.cell (fun q=>(GN.mp q).elim (fun q=>dO hn h2 (GP.mp q)) (a.st.cell h2)) h2,h3,?_⟩;show kl h' ρ (G3 z ((x,y)::en.own)) _;rw[cP,if_neg hzx];exact h4.mono (ad.off dp) S.ext S.le
  ·refine dC (a.er.fr z hz) fun b w h1 h2 h4=> ?_;exact⟨b,w,h1,S.ext.cell (fun q=>(GN.mp q).elim (fun q=>dO hn h2 (GP.mp q)) (a.st.cell h2)) h2,h4.mono (ad.off dp) S.ext S.le⟩
 ·refine bS (a.er.ce x hl) fun b w h1 h2 h3 h4=> ?_;refine wpAny_storeName_cell a.er.kind (hkind.trans hl) h1 h2 fun h' hc' hs'=> ?_
  have S:ad c [b] ρ s ρ σ {s with heap:=h'}:=ad.same (t:=s.toks) a.ok a.st a.gd h3 hs'
  have dp: ∀b'∈[b],b'∈ρ.p:=by simpa using h3
  have hb:b∈mK env:=by
   refine HJ _ (Hj.mpr ?_)
   have hmem:(x,Kf)∈env.scope.names:=by
    rw[a.er.names];exact mem_of_lookup hl
   exact⟨_,hmem,by rw[a.er.names,if_pos hl];exact h1⟩
  refine aK a.er.lo fun m hn hm=> ?_;have hbl:b≠env.locals:=dO hn h2
  refine h _ ⟨S.wider (by simpa using hb),fun b' mb o e hd=> ?_⟩ ⟨a.er.kind,a.er.names,a.er.gl,a.er.bi,⟨m,hn.sameBut hs' (Ne.symm hbl),fun z hz=> ?_⟩,fun z hz=> ?_,fun z hz=> ?_,a.er.out,a.er.ap,a.er.cd⟩
  ·by_cases q:b'=b
   ·subst q;refine qK hd fun es ep hd=> ?_;refine aK h2 fun o' ho' hd'=> ?_;rw[e]at ho';obtain rfl:=IF ho';rw[hd]at hd';cases hd'
   ·exact⟨o,(hs'.2 b' q).trans e,hd⟩
  ·have hzx:z≠x:=fun q=>by subst q;rw[show(en.set z y).names=en.names from rfl,hl]at hz;cases IF hz
   show kl h' ρ (G3 z ((x,y)::en.own)) _;rw[cP,if_neg hzx];exact(hm z hz).mono (ad.off dp) S.ext S.le
  ·by_cases hzx:z=x
   ·subst hzx;refine⟨b,_,h1,hc',h3,?_⟩;show kl h' ρ (G3 z ((z,y)::en.own)) _;rw[cP,if_pos rfl];exact .so (ad.R dp S r)
   ·refine bS (a.er.ce z hz) fun b' w' k1 k2 k3 k4=> ?_;have hne:b'≠b:=fun q=>hzx (a.er.ap z x b (q▸k1) h1);refine⟨b',w',k1,S.ext.cell (fun q=>(GN.mp q).elim (fun q=>hne (GP.mp q)) (a.st.cell k2)) k2,k3,?_⟩;show kl h' ρ (G3 z ((x,y)::en.own)) _;rw[cP,if_neg hzx];exact k4.mono (ad.off dp) S.ext S.le
  ·refine dC (a.er.fr z hz) fun b' w' k1 k2 k4=> ?_
   have hzx:z≠x:=fun q=>by subst q;rw[show(en.set z y).names=en.names from rfl,hl]at hz;cases IF hz
   have hne:b'≠b:=fun q=>hzx (a.er.ap z x b (q▸k1) h1);exact⟨b',w',k1,S.ext.cell (fun q=>(GN.mp q).elim (fun q=>hne (GP.mp q)) (a.st.cell k2)) k2,k4.mono (ad.off dp) S.ext S.le⟩
theorem uW{k:Str→Option NameKind}{y:Str}(hy:k y=some .local)(l:List (Str×Value)): ∀(m:Str→Option Value),bindL k l m y=(l.reverse.lookup y).or (m y):=by
 induction l with
 |nil=>exact fun u_=>rfl
 |cons p r ih=>
  intro m;unfold bindL;rw[ih,Hk,HD]
  cases r.reverse.lookup y with
  |some w=>rfl
  |none=>
   show(if k p.1=some .local then fun z=>if z=p.1 then some p.2 else m z else m) y=(match y==p.1 with|true=>some p.2|false=>none).or (m y)
   cases hb:y==p.1 with
   |true=>rw[←GK hb,if_pos hy];exact if_pos rfl
   |false=>split;exact if_neg (ne_of_beq_false hb);rfl
theorem wb{k:Str→Option NameKind}{y:Str}(hy:k y≠some .local)(l:List (Str×Value)): ∀(m:Str→Option Value),bindC k l m y=(l.reverse.lookup y).or (m y):=by
 induction l with
 |nil=>exact fun u_=>rfl
 |cons p r ih=>
  intro m;unfold bindC;rw[ih,Hk,HD]
  cases r.reverse.lookup y with
  |some w=>rfl
  |none=>
   show(if k p.1=some .local then m else fun z=>if z=p.1 then some p.2 else m z) y=(match y==p.1 with|true=>some p.2|false=>none).or (m y)
   cases hb:y==p.1 with
   |true=>rw[←GK hb,if_neg hy];exact if_pos rfl
   |false=>split;rfl;exact if_neg (ne_of_beq_false hb)
theorem Rk.append{l l':List (Str×V)}{v v':List (Str×Value)}(r:Rk h ρ l v)(q:Rk h ρ l' v'):Rk h ρ (l++l') (v++v'):=Rk.rec (motive:=fun l v u_=>Rk h ρ (l++l') (v++v')) q (fun r u_ ih=> .cons r ih) r
theorem Rk.reverse{l:List (Str×V)}{v:List (Str×Value)}(r:Rk h ρ l v):Rk h ρ l.reverse v.reverse:=
 Rk.rec (motive:=fun l v u_=>Rk h ρ l.reverse v.reverse) .nil (fun r u_ ih=>by rw[Hk,Hk];exact ih.append (.cons r .nil)) r
theorem Rk.mono(nl:ρ.Off S)(x:eg c S h h')(le:ρ.Le h KD){l:List (Str×V)}{v:List (Str×Value)}(r:Rk h ρ l v):Rk h' KD l v:=Rk.rec (motive:=fun l v u_=>Rk h' KD l v) .nil (fun r u_ ih=> .cons (r.mono nl x le) ih) r
theorem af.Rk(x:af c ρ s KD KB s'){l:List (Str×V)}{v:List (Str×Value)}(r:Internal.Rk s.heap ρ l v):Internal.Rk s'.heap KD l v:=r.mono (ad.off (by exact G7 _)) x.ext x.le
noncomputable def r8(names:List (Str×NameKind)):Bool:=names.all fun n=>n.2 != .free&&(n.2 != .cell||((cellsFrom 0 names []).lookup n.1).isSome)
theorem lO{y:Str}(h:((cellsFrom 0 names []).lookup y).isSome=true):((cellsFrom n names []).lookup y).isSome=true:=by
 have e:=cellsFrom_names names 0 n [] [] rfl
 have key: ∀(l l':List (Str×Addr)),l.map (·.1)=l'.map (·.1)→(l.lookup y).isSome=(l'.lookup y).isSome:=by
  intro l
  induction l with
  |nil=>intro l' q;cases l' with|nil=>rfl|cons=>trivial
  |cons p l ih=>
   intro l' q
   cases l' with
   |nil=>trivial
   |cons p' l'=>
    simp only[List.map_cons,List.cons.injEq]at q;obtain⟨a,b⟩:=p;obtain⟨a',b'⟩:=p';obtain⟨q1,q2⟩:=q;simp only at q1;subst q1;simp only[G5]
    cases(y==a)with
    |true=>rfl
    |false=>exact ih _ q2
 rw[←key _ _ e];exact h
noncomputable def lF:Value→Option Addr
 | .ref a=>some a
 |_=>none
theorem wM(h:lF v=some a):v= .ref a:=by
 cases v<;>cases h
 rfl
theorem CP{qual:Str}{func:Option Addr}{code:Value}{L:Addr}{bv:List (Str×Value)}(ok:c.Ok)(st:aQ c ρ σ s.heap)(g:Gd c s.heap)
 (hk:scope.kind= .function) (hs:r8 scope.names=true) (r:Internal.Rk s.heap ρ binds bv)
 (x:InCallC s (newEnv scope L mainGlobals (cellsFrom (L+1) scope.names []) qual func code none builtinsNs).locals (bindL (newEnv scope L mainGlobals (cellsFrom (L+1) scope.names []) qual func code none builtinsNs).kindOf bv fun u_=>none)
  (newEnv scope L mainGlobals (cellsFrom (L+1) scope.names []) qual func code none builtinsNs).cells (bindC (newEnv scope L mainGlobals (cellsFrom (L+1) scope.names []) qual func code none builtinsNs).kindOf bv fun u_=>none) KF):
 ∃KQ,af c ρ s KQ σ KF∧L∈KQ.p∧a_ KF.heap KQ (newEnv scope L mainGlobals (cellsFrom (L+1) scope.names []) qual func code none builtinsNs) ⟨scope.names,binds.reverse,[],lF code⟩:=by
 refine qK x.toInCall.same fun h' tk zz2=> ?_;subst zz2;have hn:h'.Ns L _:=x.toInCall.ns;have hfr:s.heap.objs.size≤L:=x.toInCall.fresh;have hz:s.heap.objs.size≤h'.objs.size:=HV hfr (H' hn.lt)
 have S:af c ρ s ⟨ρ.r,L::((scope.names.filterMap fun y=>(cellsFrom (L+1) scope.names []).lookup y.1)++ρ.p)⟩ σ {s with heap:=h',toks:=tk}:=by
  refine ad.write ok st g (by exact G7 _) (fun b o u_ e=>x.toInCall.keep b o e) hz (fun a m=> ?_) (fun a m=>by simp[m])
  rcases GW.mp m with rfl|m
  ·exact .inr ⟨hfr,hn.lt⟩
  ·rcases GN.mp m with m|m
   ·refine aK (Hj.mp m) fun y u_ hy=> ?_;refine aK (x.cell y.1 a hy) fun o ho u_=> ?_;exact .inr ⟨HV hfr (H' (x.above y.1 a (mem_of_lookup hy))),J_ ho⟩
   ·exact .inl m
 have rr:=(S.Rk r).reverse;refine⟨_,S,.head _,⟨hk,rfl,rfl,rfl,⟨_,hn,fun y hy=> ?_⟩,fun y hy=> ?_,fun y hy=> ?_,.head _,fun y z a h1 h2=> ?_,fun cc h=>wM h⟩⟩
 ·rw[uW hy,Option.or_none];exact(dL rr).opt
 ·have hm:(y,Kf)∈scope.names:=mem_of_lookup hy;have h1:=GX.mp hs _ hm
  have h2:((cellsFrom 0 scope.names []).lookup y).isSome=true:=by trivial
  refine oE (ID.mp (lO (n:=L+1) h2)) fun a ha=> ?_;refine⟨a,_,ha,x.cell y a ha,?_,?_⟩
  ·exact .tail _ (GN.mpr (.inl (Hj.mpr ⟨_,hm,ha⟩)))
  ·have hne:(newEnv scope L mainGlobals (cellsFrom (L+1) scope.names []) qual func code none builtinsNs).kindOf y≠some .local:=by
    show scope.names.lookup y≠_
    rw[show scope.names.lookup y=some .cell from hy];decide
   rw[wb hne,Option.or_none];exact(dL rr).opt
 ·have h1:=GX.mp hs _ (mem_of_lookup hy:(y,Ke)∈scope.names);trivial
 ·exact name_of_addr x.apart (mem_of_lookup h1) (mem_of_lookup h2)
structure iT(F:List Addr)(e:Addr)(oe:Obj)(h h':Heap):Prop where
 size:h'.objs.size=h.objs.size+1
 keep: ∀b o,b≠e→b∉F→h.get? b=some o→h'.get? b=some o
 slots: ∀b o,b≠e→h.get? b=some o→ ∃sl,h'.get? b=some {o with slots:=sl}
 exc:h'.get? e=some (Kg (·.setIfInBounds 1 (.ref h.objs.size)) oe)
 tb: ∃oT ts,h'.get? h.objs.size=some oT∧oT.data= .fields ts∧ts[3]? =some .none
theorem jh{base:Heap}{L e:Addr}{oe:Obj}{vs:Array Value}{head:Value}{hadNext:Bool}{Q:Unit→Shared→Prop}
 (hfr:A.frames=some (env::outer)) (hl:s.heap.FunFrames base (env::outer)) (hf:env.frame=some L) (he:s.heap.get? e=some oe) (hd:oe.data= .fields vs) (hsz:1<vs.size)
 (h: ∀h',iT ((env::outer).filterMap (·.frame)) e oe s.heap h'→Q () {s with heap:=h'}):
 IG M A (do let a←frameOf env;let pl←entryPlaceOf L hadNext;let b←EntryCells.newEntry head a .none (rawInt L) .none pl;setField (.ref e) 1 b) (fun u_ s'=>IG M A (setFlight (.ref e) none) Q E s') E s:=by
 have hene:e∉(env::outer).filterMap (·.frame):=fun hm=>by
  refine DX (hl.mem hm) fun u_ o ho hnf=> ?_;rw[he]at ho;obtain rfl:=IF ho;exact hnf vs hd
 refine IH (wpAny_frameOf_fun hfr hl hf fun KP Lr=> ?_);refine IH (wpAny_entryPlaceOf fun pl hpl=> ?_);unfold EntryCells.newEntry newFields;refine IH (IP ?_ (hpl.sizeOk5 _ _ _ _ _));have Mp:KP.get? e=some oe:=(Lr.2.1 e hene).trans he
 have Mq:=J8 (h:=KP) {cls:= .type "traceback",dict:=none,data:= .fields ([head,.ref L,.none,rawInt L,.none]++(if pl.isEmpty then GR 6 Kq else pl)).toArray} Mp
 refine I0 Mq hd hsz ?_;have hlt:e<KP.objs.size:=J_ Mp;have hTe:KP.objs.size≠e:=Ib hlt;have Mr:=Ki hd (·.setIfInBounds 1 (Ko KP.objs.size));have Ms:=J' (Kg (·.setIfInBounds 1 (Ko KP.objs.size))) Mq (Kj Mr)
 have Mu:=(Kc (KP.push {cls:= .type "traceback",dict:=none,data:= .fields ([head,.ref L,.none,rawInt L,.none]++(if pl.isEmpty then GR 6 Kq else pl)).toArray})
  (Kg (·.setIfInBounds 1 (Ko KP.objs.size))) (Ne.symm hTe)).trans (J7 KP rfl)
 unfold setFlight
 refine IH (IK Ms Mr (x:= .ref KP.objs.size) (by exact Gf hsz) ?_)
 refine cX ((show(Ko KP.objs.size !=Kq)=true from by simp)) ?_
 refine I0 Mu rfl (by simp only[Hg,G4,G8,List.length_nil]<;>omega) (h _ ?_)
 have hz:KP.objs.size=s.heap.objs.size:=Lr.1;have keep: ∀b o,b≠e→KP.get? b=some o→
  (((KP.push {cls:= .type "traceback",dict:=none,data:= .fields ([head,.ref L,.none,rawInt L,.none]++(if pl.isEmpty then GR 6 Kq else pl)).toArray}).update e (Kg (·.setIfInBounds 1 (Ko KP.objs.size)))).update KP.objs.size
    (Kg (·.setIfInBounds 3 ((none:Option Addr).elim Kq fun f=>rawInt f)))).get? b=some o:=fun b o hbe hb=>by
  have hbT:KP.objs.size≠b:=Ib (J_ hb);rw[Kc _ _ hbT,Kc _ _ (Ne.symm hbe)];exact J8 _ hb
 refine⟨?_,fun b o hbe hbF hb=>keep b o hbe ((Lr.2.1 b hbF).trans hb),fun b o hbe hb=> ?_,?_,?_⟩
 ·rw[Kb,Kb,J9,hz]
 ·refine oE (Lr.2.2 b o hb) fun sl hs=> ?_;exact⟨sl,keep b _ hbe hs⟩
 ·rw[Kc _ _ hTe,←hz];exact Ms
 ·have gT:=J' (Kg (·.setIfInBounds 3 ((none:Option Addr).elim Kq fun f=>rawInt f))) Mu (Kj (Ki rfl _));rw[←hz]
  exact⟨_,_,gT,Ki rfl _,by first|(rfl;done)|(rcases hpl with rfl|⟨_,_,_,_,_,_,_,rfl⟩<;>simp)⟩
theorem iT.step{l:List Env}{oa:Obj}{t:Nat}(ok:c.Ok)(st:aQ c ρ σ s.heap)(g:Gd c s.heap)(ff:FF c ρ s.heap l)(ap:a∈ρ.p)(x:iT (l.filterMap (·.frame)) a oa s.heap h'):
 ad c [a] ρ s ⟨ρ.r,s.heap.objs.size::ρ.p⟩ σ {s with heap:=h',toks:=t}:=by
 have hz:s.heap.objs.size≤h'.objs.size:=by rw[x.size];exact H0 _
 have inF: ∀b∈l.filterMap (·.frame),c.n₀≤b∧ ∃o,s.heap.get? b=some o∧ ∃es ep,o.data= .dict es ep:=fun b m=>by
  refine aK (Hj.mp m) fun env me hf=> ?_;refine lh (ff env me) fun u_ L o hf' u_ hn ho hd=> ?_;rw[hf]at hf';obtain rfl:=IF hf';exact⟨hn,o,ho,hd⟩
 have ex:eg c [a] s.heap h':=fun b o n e=>by
  have hb:b≠a:=fun q=>n (by simp[q])
  by_cases m:b∈l.filterMap (·.frame)
  ·refine DX (inF b m) fun hn o' ho' hd=> ?_;rw[e]at ho';obtain rfl:=IF ho';refine oE (x.slots b o hb e) fun sl hs=> ?_;exact⟨_,hs,.inr (.inl ⟨hn,hd,sl,rfl⟩)⟩
  ·exact⟨o,x.keep b o hb m e,.refl b o⟩
 have lo: ∀b∈[a],c.n₀≤b:=by simpa using(st.plow a ap).1
 have old: ∀b o,b<c.n₀→s.heap.get? b=some o→h'.get? b=some o:=fun b o hb e=>x.keep b o (fun q=>absurd hb (HZ.mpr (q▸(st.plow a ap).1))) (fun m=>absurd hb (HZ.mpr (inF b m).1)) e
 refine⟨GU _,fun u_ m=> .inl m,fun b m=> ?_,fun b m=> .tail _ m,st.mono (P:=s.heap.objs.size::ρ.p) (Pl.Off.p (by simpa using ap)) ex (fun b m n=>st.disj a ap (by rw[GP.mp n]at m;exact m)) hz (fun b m=> ?_) g.size,
  ex.mono fun b m=>GN.mpr (.inl m),.heap hz,g.step ok lo ex (fun p hp=> ?_) hz⟩
 ·rcases GW.mp m with rfl|q
  ·exact .inr (HW _)
  ·exact .inl q
 ·rcases GW.mp m with rfl|q
  ·exact .inr ⟨HW _,by show s.heap.objs.size<h'.objs.size;rw[x.size];exact HY _⟩
  ·exact .inl q
 ·exact(g.codes p hp).keep (fun o q=>old _ _ (ok.cold p hp).1 q) fun o q=>old _ _ (ok.told _ (ok.tcs p hp)) q
theorem iT.flew{F:List Addr}{oa:Obj}{vs:Array Value}{cls:String}(x:iT F a oa h h')(hc:oa.cls= .type cls)(hd:oa.data= .fields vs)(hsz:1<vs.size)(lt:a<h.objs.size)(na:n≤a)(ap:a∈ρ.p):
 f7 h' ⟨ρ.r,h.objs.size::ρ.p⟩ n cls (.ref a):=by
 refine dC x.tb fun oT ts k1 k2 k3=> ?_
 refine⟨a,_,_,rfl,x.exc,(Kl ..).trans hc,Ki hd _,na,.tail _ ap,.inr ⟨h.objs.size,oT,ts,by exact Gf hsz,HV na (H' lt),.head _,Ib lt,k1,k2,k3⟩⟩
theorem gF{cls:String}{e:Value}{Q:Unit→Shared→Prop}(ok:c.Ok)(st:aQ c ρ σ s.heap)(g:Gd c s.heap)(hfr:A.frames=some (env::outer))(hf:env.frame=some L)
 (ff:FF c ρ s.heap (env::outer)) (fl:f7 s.heap ρ n cls e)
 (h: ∀D KD s',(∀a∈D,a∈ρ.p∧n≤a∧ ∃o vs,s.heap.get? a=some o∧o.data= .fields vs)→ad c D ρ s KD σ s'→f7 s'.heap KD n cls e→Q () s'):IG (model c.prog c.w) A (noteFrame e env) (fun u_ s'=>IG (model c.prog c.w) A (setFlight e none) Q E s') E s:=by
 refine f8 fl fun a oa vs zz3 ha hc hd na ap h1=> ?_;subst zz3;have hlt:a<s.heap.objs.size:=J_ ha;unfold noteFrame;simp only[hf]
 rcases h1 with h1|⟨T,oT,ts,h1,nT,Tp,hTa,hT,hdT,h3⟩
 ·refine IH (IK ha hd h1 ?_)
  refine bV (by decide) ?_
  have hsz:1<vs.size:=(Ge.mp h1).1;refine jh hfr (ff.fun_ ok) hf ha hd hsz fun h' x=> ?_
  exact h [a] _ _ (by simp only[GP,forall_eq];exact⟨ap,na,oa,vs,ha,hd⟩) (x.step (t:=s.toks) ok st g ff ap) (x.flew hc hd hsz hlt na ap)
 ·refine IH (IK ha hd h1 ?_)
  refine cX ((show(Ko T !=Kq)=true from by simp)) ?_
  refine IH (IK hT hdT h3 ?_)
  refine bV ((show¬((Kq==rawInt L)=true)from by simp[rawInt])) ?_
  have hsz:1<vs.size:=(Ge.mp h1).1;refine IH (I0 hT hdT (Ge.mp h3).1 ?_)
  have KE:ad c [T] ρ s ρ σ {s with heap:=s.heap.update T (Kg (·.setIfInBounds 3 Kq))}:=ad.same (t:=s.toks) ok st g Tp (Kd ..)
  have Mv:(s.heap.update T (Kg (·.setIfInBounds 3 Kq))).get? a=some oa:=(Kc _ _ hTa).trans ha
  have Mw:FF c ρ (s.heap.update T (Kg (·.setIfInBounds 3 Kq))) (env::outer):=ff.mono st KE fun b m o e ⟨es,ep,hd'⟩=>by
   rw[GP.mp m,hT]at e;obtain rfl:=IF e;rw[hdT]at hd';cases hd'
  refine jh (s:={s with heap:=s.heap.update T (Kg (·.setIfInBounds 3 Kq))}) hfr (Mw.fun_ ok) hf Mv hd hsz fun h' x=> ?_
  have KH:=x.step (t:=s.toks) ok KE.sto KE.gd Mw ap
  refine h [T,a] _ _ (by simp only[GW,List.mem_nil_iff,or_false,forall_eq_or_imp,forall_eq];exact⟨⟨Tp,nT,oT,ts,hT,hdT⟩,ap,na,oa,vs,ha,hd⟩) ((KE.wider (by exact HE ..)).trans (KH.wider (by simp))) (x.flew hc hd hsz ?_ na ap)
  exact J_ Mv
theorem oJ{cls:String}{e:Value}{Q:Unit→Shared→Prop}(ok:c.Ok)(st:aQ c ρ σ s.heap)(g:Gd c s.heap)(hfr:A.frames=some (env::outer))(hf:env.frame=some L)
 (ff:FF c ρ s.heap (env::outer)) (fl:f7 s.heap ρ n cls e)
 (h: ∀D KD s',(∀a∈D,a∈ρ.p∧n≤a∧ ∃o vs,s.heap.get? a=some o∧o.data= .fields vs)→ad c D ρ s KD σ s'→f7 s'.heap KD n cls e→Q () s'):IG (model c.prog c.w) A (leaving env e) Q E s:=by
 unfold leaving;exact IH (gF ok st g hfr hf ff fl h)
noncomputable def l7(K:Frag)(a:Addr):Option FuncData:=(K.lookup a).bind fun o=>(Aj o.data).map (·.1)
theorem zD(h:l7 K a=some fd): ∃o,K.lookup a=some o∧o.data= .func fd:=ae h fun o ho h=>aP h fun f u_ q=>⟨o,ho,q▸f.2⟩
noncomputable def wz(K:Frag)(fd:FuncData):Bool:=(kq fd.code).any fun cc=>(K.lookup cc).any fun o=>(yR o.data).any fun vs=>(vs.1[1]?).any fun v=>(Fu v).any fun q=>q.1.1==fd.qualname
theorem tM(X:K.In h)(e:wz K fd=true):h.CodeRec fd.code fd.qualname:=
 jK e fun cc hc e=>jK e fun o ho e=>jK e fun vs u_ e=>jK e fun v hv e=>jK e fun q u_ e=>⟨cc,o,vs.1,q.1.2,ja hc,X _ _ ho,vs.2,hv.trans (congrArg some (q.2.trans (congrArg (fun x=>Value.str x q.1.2) (GK e))))⟩
noncomputable def xM(v:Value):V:= @Value.casesOn (fun u_=>V) v (.val .none) (.val .ellipsis) (.val .notImplemented) (fun b=> .val (.bool b)) (fun i u_=> .int i) (fun a b=> .val (.float a b)) (fun x u_=> .str x) (fun a b=> .val (.bytes a b)) (fun a=> .val (.type a)) (fun a=> .val (.builtin a)) (fun a=> .val (.ref a))
theorem Ee(v:Value):R h ρ (xM v) v:=by cases v<;>first|exact .int|exact .str|exact .val
theorem Dt: ∀l:List Value,Rs h ρ (l.map xM) l
 |[]=> .nil
 |v::l=> .cons (Ee v) (Dt l)
noncomputable def jR(K:Frag)(fd:FuncData):Option (List Value):=if lz fd.defaults=true then some []else(kq fd.defaults).bind fun t=>(K.lookup t).bind fun o=>(FD o.data).map fun p=>p.1.1.toList
noncomputable def kM(K:Frag)(fd:FuncData):Bool:=
 fd.params.posonlyargs.isEmpty&&fd.params.kwonlyargs.isEmpty&&fd.params.vararg.isNone&&fd.params.kwarg.isNone&&fd.closure.isEmpty&&fd.globals==mainGlobals&&fd.builtins==builtinsNs&&fd.scope.kind== .function&& !fd.scope.isCoroutine&& !fd.scope.isGenerator&&r8 fd.scope.names&&wz K fd
noncomputable def hO(names:List (Str×NameKind))(binds:List (Str×V)):Bool:=binds.all fun b=>names.lookup b.1==some .local||names.lookup b.1==some .cell
noncomputable def flV:Fl→Option V
 | .ret v=>some v
 | .next=>some .none
 | .brk=>none
 | .cont=>none
noncomputable def im:aL→Option (aG V)
 | .ok f _ σ=>(flV f).map fun v=> .ok v σ
 | .exc cls _ σ=>some (.exc cls σ)
variable (c)in
noncomputable def vg(exs:eD):b9:=fun σ a xs ks=>(l7 c.K a).bind fun fd=>if kM c.K fd=true then(xg fd.body).bind fun body=>(jR c.K fd).bind fun ds=>(eU (fd.params.args.map (·.arg)) xs ks (ds.map xM)).bind fun binds=>
 if hO fd.scope.names binds=true then(exs ⟨fd.scope.names,binds.reverse,[],lF fd.code⟩ σ body).bind im else none
 else none
theorem vS{ds:List Value}(X:c.K.In s.heap)(h:jR c.K fd=some ds){Q:Option (Array Value)→Shared→Prop}(q: ∀r:Option (Array Value),(r.getD #[]).toList=ds→Q r s):
 IG M A (seqItems? fd.defaults) Q E s:=by
 refine e_ h (fun hn h=> ?_) fun u_ h=>ae h fun a ha h=>ae h fun o ho h=>aP h fun p u_ h=> ?_
 ·obtain rfl:=IF h;rw[iG hn];exact II (q none rfl)
 ·rw[ja ha];exact IY (X _ _ ho) p.2 (q (some p.1.1) h)
theorem Rk.keys{l:List (Str×V)}{v:List (Str×Value)}(r:Rk h ρ l v):v.map (·.1)=l.map (·.1):=Rk.rec (motive:=fun l v u_=>v.map (·.1)=l.map (·.1)) rfl (fun u_ u_ ih=>congrArg (_:: ·) ih) r
theorem ui{exs:eD}(he:gv c d exs):dF c (d+1) (vg c exs):=by
 intro A ρ σ s a xs ks vs kv o e ok st g room rx rk;refine ae e fun fd hfn KJ=>bI KJ fun hp KY=>ae KY fun body hbody Lx=>ae Lx fun ds hds LN=>ae LN fun binds hb LS=>bI LS fun hbo LT=>ae LT fun so hso ho=> ?_;clear e KJ KY Lx LN LS LT;simp only[kM,Gh,Ht,Option.isNone_iff_eq_none,beq_iff_eq,Gp]at hp;refine dw fun kk=> ?_;obtain⟨⟨⟨⟨⟨⟨⟨⟨⟨⟨⟨p1,p2⟩,p3⟩,p4⟩,p5⟩,p6⟩,p7⟩,p8⟩,p9⟩,p10⟩,p11⟩,p12⟩:=hp<;>(refine kk ?_;clear kk)
 refine dw fun kk=> ?_;refine aK (zD hfn) fun fo hfo hfd=> ?_<;>(refine kk ?_;clear kk)
 refine dw fun kk=> ?_;refine aK (tF rx rk (Dt ds) hb) fun bv hbv rb=> ?_<;>(refine kk ?_;clear kk)
 have hbind:BindsTo s fd ⟨vs,kv⟩ bv:=yY p1 p2 p3 p4 (fun q=>vS g.kin hds q) hbv
 have hkind: ∀x∈bv,fd.scope.names.lookup x.1=some .local∨(fd.scope.names.lookup x.1=some .cell∧((cellsFrom (s.heap.objs.size+1) fd.scope.names []).lookup x.1).isSome=true):=by
  intro x hx
  have hx':x.1∈binds.map (·.1):=by rw[←rb.keys];exact List.mem_map_of_mem hx
  refine dw fun kk=> ?_;refine aK (G0.mp hx') fun b hbm hbe=> ?_<;>(refine kk ?_;clear kk)
  have:=GX.mp hbo b hbm;rw[hbe]at this;refine dw fun kk=> ?_
  rcases Gj.mp this with q|q<;>(refine kk ?_;clear kk)
  ·exact .inl (by simpa using q)
  ·as_aux_lemma=>
    have q:fd.scope.names.lookup x.1=some .cell:=by simpa using q
    refine .inr ⟨q,lO ?_⟩;have h1:=GX.mp p11 _ (mem_of_lookup q);trivial
 refine codeAny_call_function (by have:=room.depth;exact rmz ‹_›) (g.kin _ _ hfo) hfd p9 p10 (yE hbody) (tM g.kin p12) (hbind _ _ _ _ ?_)
 rw[p5,p6,p7]
 change let E0:=_;IG _ _ _ _ E0 _;intros
 refine wpAny_newFunctionEnv_cells p8 hkind fun E hE KF x=> ?_
 have en1: ∃KQ,af c ρ s KQ σ KF∧s.heap.objs.size∈KQ.p∧a_ KF.heap KQ E ⟨fd.scope.names,binds.reverse,[],lF fd.code⟩∧E.locals=s.heap.objs.size∧E.frame=some s.heap.objs.size∧ ∀b∈mK E,b∈([]:List Addr)∨s.heap.objs.size≤b:=by
  subst hE;refine bW (CP ok st g p8 p11 rb x) fun KQ S hL er=>⟨KQ,S,hL,er,rfl,rfl,fun b m=> .inr ?_⟩
  rcases GW.mp m with rfl|m
  ·exact HW _
  ·refine aK (Hj.mp m) fun y u_ hy=> ?_;refine oA (ik hy) fun hcc hy=> ?_;exact H' (x.above y.1 b (mem_of_lookup hy))
 refine bW en1 fun KQ S hL KP=>uC KP fun er hloc hfrm own=> ?_;clear en1 KP;refine⟨S.gd.lim,codeAny_func ?_⟩;have MD:eo c KQ A (d+1) KF.heap:=S.room st room;refine aK MD.frames fun outer' hfr' hff'=> ?_
 have hff2:FF c KQ KF.heap (E::outer'):=by
  intro env m
  rcases GW.mp m with rfl|m
  ·refine aK er.lo fun mm K_ u_=>iC K_ fun o' es ep ho' hd' u_=> ?_
   exact⟨by rw[er.kind];decide,_,o',hfrm,hL,(S.sto.plow _ hL).1,hloc▸ho',es,ep,hd'⟩
  ·exact hff' env m
 have at₁:At c (A.deeper E) _ ⟨fd.scope.names,binds.reverse,[],lF fd.code⟩ KQ σ KF d:=
  ⟨ok,S.sto,S.gd,er,⟨room.hand,by have:=room.depth;show A.depth+1+d<_;exact Fo ‹_›,by have:=room.units;rw[Around.deeper_units];exact rux ‹_›,⟨_,Jp hfr',hff2⟩⟩⟩
 refine IJ (he hso at₁ ⟨_,Jp hfr'⟩) (fun f s' p=> ?_) fun e' s' p=> ?_
 ·cases so with
  |exc=>exact p.elim
  |ok fl en' KB=>
   refine aP ho fun v hv w=> ?_;subst w;refine bW p fun KD T er' r=> ?_;have TT:=ad.trans' S T.st own
   cases r with
   |next=>obtain rfl:=IF hv;exact⟨KD,TT,.val⟩
   |brk=>exact no hv
   |cont=>exact no hv
   |ret r=>obtain rfl:=IF hv;exact⟨KD,TT,r⟩
 ·cases so with
  |ok=>exact p.elim
  |exc cls en' KB=>
   obtain rfl:=IF ho;refine bW p fun KD T er' fl=> ?_;have TT:=ad.trans' S T.st own;refine oJ (n:=s.heap.objs.size) ok T.st.sto T.st.gd (Jp hfr') hfrm (hff2.mono S.sto T.st T.fo) (fl.mono S.rest.hsize) fun D Lf s'' hD U fl'=> ?_;exact⟨Lf,ad.trans' TT U (fun b m=> .inr (hD b m).2.1),fl'⟩
noncomputable def cr(e:Expr):Bool:= !((8).ble e.ctorIdx&&e.ctorIdx.ble 10)
theorem o_{t:Option Expr}(h:cr e=true):swapsWith e t n env=pure false:=by
 cases e<;>first|rfl|exact bM h
noncomputable def bH(en:En)(x:Str):Bool:=en.names.lookup x==some .local||en.names.lookup x==some .cell
theorem cT{x:Str}(h:bH en x=true):en.names.lookup x=some .local∨en.names.lookup x=some .cell:=by
 rcases Gj.mp h with q|q
 ·exact .inl (by simpa using q)
 ·exact .inr (by simpa using q)
theorem xo(a:At c A env en ρ σ s d):eC c A (exec (.Pass pos) env) env ρ s (.ok .next en σ):=wpAny_Pass ⟨ρ,(af.refl a.st a.gd).toS a.st a.er,a.er,.next⟩
theorem uA(a:At c A env en ρ σ s d):eC c A (exec (.Break pos) env) env ρ s (.ok .brk en σ):=wpAny_Break ⟨ρ,(af.refl a.st a.gd).toS a.st a.er,a.er,.brk⟩
theorem n9(a:At c A env en ρ σ s d):eC c A (exec (.Continue pos) env) env ρ s (.ok .cont en σ):=wpAny_Continue ⟨ρ,(af.refl a.st a.gd).toS a.st a.er,a.er,.cont⟩
theorem km(a:At c A env en ρ σ s d):eC c A (exec (.Return none pos) env) env ρ s (.ok (.ret .none) en σ):=wpAny_Return_none ⟨ρ,(af.refl a.st a.gd).toS a.st a.er,a.er,.ret .val⟩
noncomputable def wr(op:Operator)(a b:Int):Option Int:= @Operator.casesOn (fun u_=>Option Int) op (some (a+b)) (some (a-b)) (if bG a&&bG b then some (a*b)else none) none none none none none none none none none none
theorem t7{a b i:Int}{t:Tok}(st:aQ c ρ σ s.heap)(g:Gd c s.heap)(e:wr op a b=some i):bn c A (inplaceOp op (.int a t) (.int b u)) ρ s (.ok (.int i) σ):=by
 have fin: ∀i',i'=i→ ∃KD,af c ρ s KD σ {s with toks:=s.toks+1}∧R s.heap KD (.int i) (.int i' s.toks):=fun i' q=>⟨ρ,.toks st g,q▸ .int⟩
 cases op with
 |Add=>obtain rfl:=IF e;exact PyProof.Rows.iadd_int (fin _ rfl)
 |Sub=>obtain rfl:=IF e;exact PyProof.Rows.isub_int (fin _ rfl)
 |Mult=>
  refine bI e fun h e=> ?_;obtain rfl:=IF e;simp only[bG,Gh,decide_eq_true_eq]at h;refine PyProof.Rows.imul_int (fin _ rfl) ?_;unfold IntMulOk;have:=my h.1;simp[shortFactorBits];omega
 |_=>exact no e
theorem oZ{x:Str}(st:aQ c ρ σ s.heap)(g:Gd c s.heap)(er:a_ s.heap ρ env en)(hx:bH en x=true)(e:en.own.lookup x=some y):bn c A (loadName env x) ρ s (.ok y σ):=by
 have hk:env.kindOf x=en.names.lookup x:=by rw[←er.names];rfl
 rcases cT hx with hl|hl
 ·refine aK er.lo fun m hn hm=> ?_;have:=hm x hl;rw[e]at this;generalize hq:m x=q at this
  cases this with
  |so r=>exact wpAny_loadName_local er.kind (hk.trans hl) hn hq ⟨ρ,.refl st g,r⟩
 ·refine bS (er.ce x hl) fun a w h1 h2 u_ h3=> ?_;rw[e]at h3
  cases h3 with
  |so r=>exact wpAny_loadName_cell er.kind (hk.trans hl) h1 h2 ⟨ρ,.refl st g,r⟩
theorem rP{x:Str}{p:Pos}{o:aL}{i:Int}(hf:bE c d f)(hx:bH en x=true)(hi:en.own.lookup x=some (.int i))
 (h:bQ en (f en σ e) (fun y KB=>match y with| .int j=>(wr op i j).map fun k=> .ok .next (en.set x (.int k)) KB|_=>none)=some o) (a:At c A env en ρ σ s d):eC c A (exec (.AugAssign (.Name x p) op e pos) env) env ρ s o:=by
 refine wpAny_AugAssign_Name (au.go (oZ (A:=A) a.st a.gd a.er hx hi) (fun y Lb q L1 KN KW K2 K6=> ?_) (fun u_ u_ q=>by exact iQ q))
 refine jP q fun zz1 zz2=> ?_;subst zz1;subst zz2;have Lp:=a.step K2;refine au.thenS Lp (K2.toS a.st a.er) h (fun o' q=>hf q Lp) fun y KC v KF KQ KE KR KM KJ Lc=> ?_
 split at KJ
 ·refine aK (IC.mp KJ) fun k hk zz2=> ?_;subst zz2;obtain⟨_,rfl⟩:=K6.intQ;obtain⟨_,rfl⟩:=KM.intQ
  refine au.go (t7 (A:=A) KR.st KR.gd hk) (fun z KG q w KI KX KH K'=> ?_) (fun u_ u_ q=>by exact iQ q)
  refine jP q fun zz1 zz2=> ?_;subst zz1;subst zz2;have K7:=KR.step KH;exact dK K7 (cT hx) K' fun s' S' er'=>⟨KX,(KE.trans (KH.toS KR.st KR.er)).trans S',er',.next⟩
 ·exact no KJ
end
theorem jO{p:Pos}{t:Sem Fin}{fs:List Frame}{e:End}(h:Runs M Γ p t fs s e s'):s.heap.objs.size≤s'.heap.objs.size:=by
 induction h<;>(try simp only[Shared.setGen,J9,Kb]at*)<;>omega
theorem ox{p:Pos}{r:Result}(h:Returns M Γ p s r s'):s.heap.objs.size≤s'.heap.objs.size:=jO h
theorem qX{p:Pos}{g:Nat}{r:Resume}{res:GenResult}(h:Wakes M Γ p g r s res s'):s.heap.objs.size≤s'.heap.objs.size:=by
 unfold Wakes at h
 split at h
 ·exact h.elim
 ·split at h
  ·refine bS h fun KJ KF hr u_ u_ zz5=> ?_;subst zz5;exact(jO hr:(s.setGen g .running).heap.objs.size≤KF.heap.objs.size)
  ·rw[h.2];exact HW _
  ·rw[h.2];exact HW _
 ·refine bS h fun KJ KF hr u_ u_ zz5=> ?_;subst zz5;exact(jO hr:(s.setGen g .running).heap.objs.size≤KF.heap.objs.size)
 ·rw[h.2];exact HW _
 ·rw[h.2];exact HW _
theorem zH(M:Model)(Γ:Ctx)(n:Nat)(t:Sem α): ∀(Q:α→Pos→Shared→Prop) (E:Value→Pos→Shared→Prop) (p:Pos) (s:Shared),n≤s.heap.objs.size→Sem.wp M Γ t Q E p s→
 Sem.wp M Γ t (fun a p' s'=>n≤s'.heap.objs.size∧Q a p' s') (fun e p' s'=>n≤s'.heap.objs.size∧E e p' s') p s:=by
 induction t with
 |pure a=>intro Q E p s hn h;exact⟨hn,h⟩
 |raise e=>intro Q E p s hn h;exact⟨hn,h⟩
 |unsupported _=>intro Q E p s _ h;exact h
 |finish _=>intro Q E p s _ h;exact h
 |rule _ k ih=>intro Q E p s hn h;exact ih () Q E p s hn h
 |«at» p' k ih=>intro Q E p s hn h;exact ih () Q E p' s hn h
 |load a _ k ih=>intro Q E p s hn h;refine aK h fun o ho h=> ?_;exact⟨o,ho,ih o Q E p s hn h⟩
 |update a _ f k ih=>intro Q E p s hn h;exact⟨h.1,ih () Q E p _ (by show n≤(s.heap.update a f).objs.size;rw[Kb];exact hn) h.2⟩
 |loadIfAlive a k ih=>intro Q E p s hn h;exact ih _ Q E p s hn h
 |point _ k ih=>intro Q E p s hn h;exact ih () Q E p s hn h
 |register _ _=>intro Q E p s _ h;exact h
 |alloc o k ih=>intro Q E p s hn h;exact ih _ Q E p _ (by show n≤(s.heap.push o).objs.size;rw[J9];exact H_ hn) h
 |fresh k ih=>intro Q E p s hn h;exact ih _ Q E p _ hn h
 |ask k ih=>intro Q E p s hn h;exact ih _ Q E p s hn h
 |choose src m k ih=>intro Q E p s hn h;exact⟨h.1,ih _ Q E p _ hn h.2⟩
 |os q _ k ih=>intro Q E p s hn h;exact ih _ Q E p _ hn h
 |call c hd _ _ k ih=>intro Q E p s hn h;refine bf h fun r s' hr h=> ?_;exact⟨r,s',hr,ih r Q E p s' (HV hn (ox hr)) h⟩
 |handled own k ih=>intro Q E p s hn h;exact ih _ Q E p s hn h
 |genState g k ih=>intro Q E p s hn h;refine aK h fun st hs h=> ?_;exact⟨st,hs,ih _ Q E p s hn h⟩
 |newGen c k ih=>intro Q E p s hn h;exact ih _ Q E p _ hn h
 |resume g r _ k ih=>intro Q E p s hn h;refine bf h fun res s' hw h=> ?_;exact⟨res,s',hw,ih res Q E p s' (HV hn (qX hw)) h⟩
 |yield _ _ _ _=>intro Q E p s _ h;exact h
 |stack k ih=>intro Q E p s hn h;exact ih _ Q E p s hn h
 |fork _ _=>intro Q E p s _ h;exact h
 |thread k ih=>intro Q E p s hn h;exact ih _ Q E p s hn h
 |await _ _ _ _ _=>intro Q E p s _ h;exact h
theorem bw{t:Sem α}{Q:α→Shared→Prop}
 (h:IG M A t (fun a s'=>s.heap.objs.size≤s'.heap.objs.size→Q a s') (fun e s'=>s.heap.objs.size≤s'.heap.objs.size→E e s') s):IG M A t Q E s:=
 IJ (Q:=fun a s'=>s.heap.objs.size≤s'.heap.objs.size∧(s.heap.objs.size≤s'.heap.objs.size→Q a s')) (E:=fun a s'=>s.heap.objs.size≤s'.heap.objs.size∧(s.heap.objs.size≤s'.heap.objs.size→E a s'))
  (fun Γ p hΓ=>zH M Γ _ t _ _ p s (HW _) (h Γ p hΓ)) (fun u_ u_ x=>x.2 x.1) (fun u_ u_ x=>x.2 x.1)
section
variable {env:Env}{d:Nat}
noncomputable def bJ(K:Frag)(f:Value):Bool:=(kq f).elim (f.ctorIdx.beq 8||f.ctorIdx.beq 9) fun a=>(K.lookup a).any fun o=>(Aj o.data).isSome||((FQ o.data).isSome&&specialIn K (.ref a) "__call__"==some (some (.builtin "type.__call__")))
theorem rM{f:Value}{Q:Keeper→Shared→Prop}(X:K.In s.heap)(h:bJ K f=true)(q: ∀k,k=Keeper.frame∨k=Keeper.machine→Q k s):IG M A (keeperOf f) Q E s:=by
 cases f with
 |ref a=>
  refine jK h fun o ho h=> ?_;refine IH (wpAny_load (X _ _ ho) ?_)
  rcases Gj.mp h with h|h
  ·refine oE (ID.mp h) fun f u_=> ?_;rw[f.2];exact II (q _ (.inl rfl))
  ·have h:=Gg.mp h;refine oE (ID.mp h.1) fun f u_=> ?_;rw[f.2];refine IH ((looks_specialIn X (GK h.2)).here ?_)
   rw[if_pos (by simp)]
   exact II (q _ (.inr rfl))
 |type T=>exact II (q _ (.inr rfl))
 |builtin T=>exact II (q _ (.inr rfl))
 |_=>exact bM h
theorem i8{f:Value}{args:List (Bool×Sem Value)}{Q:Args→Shared→Prop}(hn:args.any (·.1)=false)(hk:keywords.all (·.1.isSome)=true)
 (h:IG M A (spliced args) (fun vs KF=>IG M A (evalAll (keywords.map (·.2))) (fun ks KI=>Q ⟨vs,(keywords.filterMap (·.1)).zip ks⟩ KI) E KF) E s):IG M A (evalArgs f true args keywords) Q E s:=by
 have key:IG M A (spliced args>>=fun vs=>holding vs (do let ks←evalAll (keywords.map (·.2));pure (⟨vs,(keywords.filterMap (·.1)).zip ks⟩:Args))) Q E s:=
  IH (IJ h (fun vs KF KP=>IM (IH (IJ KP (fun ks KI K_=>II K_) fun u_ u_ e=>e))) fun u_ u_ e=>e)
 cases args with
 |nil=>
  unfold evalArgs;show IG M A (spliced []>>=_) Q E s
  and_intros
  refine IH (IJ h (fun vs KF KP=> ?_) fun u_ u_ e=>e)
  and_intros
  refine IH (II ?_);refine IM ?_;simp only[hk,if_true]
  and_intros
  refine IH (IJ KP (fun ks KI K_=> ?_) fun u_ u_ x=>x);exact IH (II (II K_))
 |cons p rest=>
  obtain⟨b,x⟩:=p
  have hb:b=false:=by
   simp only[Hs,Bool.or_eq_false_iff]at hn;exact hn.1
  subst hb;exact PySem.evalArgs_kw hk h
theorem qw(hk:keywords.all (·.1.isSome)=true):keywords.any (·.1.isNone)=false:=by
 rw[Hu];intro x hx;have:=GX.mp hk x hx
 cases q:x.1 with
 |none=>rw[q]at this;exact bM this
 |some _=>exact Gi
theorem jn{f:Value}{first:List Value}{args:List (Bool×Sem Value)}
 (hn:args.any (·.1)=false) (hk:keywords.all (·.1.isSome)=true) (hc:bJ K f=true)
 (h:IG M A (spliced args) (fun vs KF=>IG M A (evalAll (keywords.map (·.2))) (fun ks KI=>K.In KI.heap∧IG M A (call f (first++vs) ((keywords.filterMap (·.1)).zip ks)) Q E KI) E KF) E s):
 IG M A (callWith pos f first args keywords) Q E s:=by
 unfold callWith
 and_intros
 refine IH (IM (i8 hn hk (IJ h (fun vs KF KP=>IJ KP (fun ks KI K_=>IH (IT ?_)) fun u_ u_ x=>x) fun u_ u_ x=>x)));refine oA K_ fun X K_=> ?_;have tail: ∀{t:Sem Value},IG M A t Q E KI→IG M A (t>>=fun r=>holding [r] point>>=fun u_=>pure r) Q E KI:=
  fun ht=>IH (IJ ht (fun r KI hr=>IH (IM (wpAny_point (II hr)))) fun u_ u_ x=>x)
 rw[show(args.any (·.1)||keywords.any (·.1.isNone))=false from by rw[hn,qw hk];rfl]
 refine IH (rM X hc fun k hk'=> ?_)
 rcases hk' with rfl|rfl
 ·by_cases q:args.length+2*keywords.length>30
  ·exact cX q (tail K_)
  ·exact bV q (tail (by unfold callMarked;exact Calls.wpAny_keep K_))
 ·exact tail K_
noncomputable abbrev Cy(n:Nat)(h:Heap)(ρ:Pl)(x:IV)(v:Value):Prop:= ∃I,nQ h ρ x I v∧ ∀a∈I,n≤a
noncomputable abbrev Fn(n:Nat)(h:Heap)(ρ:Pl)(xs:List IV)(vs:List Value):Prop:= ∃I,cR h ρ xs I vs∧ ∀a∈I,n≤a
noncomputable abbrev iR:=En→Sg→Expr→Option (aG IV)
variable (c)in
noncomputable def ig(d:Nat)(f:iR):Prop:= ∀{A:Around} {env:Env} {en:En} {ρ:Pl} {σ:Sg} {s:Shared} {e:Expr} {o:aG IV},f en σ e=some o→At c A env en ρ σ s d→au c (Cy s.heap.objs.size) A (eval e env) ρ s o
noncomputable def dW(f:iR)(en:En):Sg→List Expr→Option (aG (List IV))
 |σ,[]=>some (.ok [] σ)
 |σ,e::es=>if db e=true then none else aw (f en σ e) fun x KC=>aw (dW f en KC es) fun xs KG=>some (.ok (x::xs) KG)
theorem v_{f:iR}(hf:ig c d f): ∀{σ:Sg} {ρ:Pl} {s:Shared} {o:aG (List IV)},dW f en σ es=some o→At c A env en ρ σ s d→
 au c (Fn s.heap.objs.size) A (spliced (backTo pos (starEach es env))) ρ s o:=by
 induction es with
 |nil=>
  intro σ ρ s o e a;obtain rfl:=Az e;exact Jf (bY.now (.refl a.st a.gd) ⟨[],.nil,fun u_ m=>nomatch m⟩)
 |cons x es ih=>
  intro σ ρ s o e a
  refine oA (sC (show(if db x=true then none else _)=some o from e)) fun hns e=> ?_
  refine Jb (au.then (.refl a.st a.gd) e (fun o' h=>hf h a) fun y KC v KF KQ KE KM KJ u_=>au.then KE KJ (fun o' h=>ih h (a.step KE)) fun ys KG vs KI KX KH K' KY Ln=> ?_) (fZ (og hns))
  obtain rfl:=IF KY;refine aK KM fun I KM LJ=> ?_;refine aK K' fun J K' LR=> ?_;refine bY.now KH ⟨I++J,.cons (Ln.ivr KE.sto KM) K' fun z m q=> ?_,fun z m=>(GN.mp m).elim (LJ z) fun q=>HV KE.rest.hsize (LR z q)⟩;exact absurd (KE.sto.plow z (KM.priv z m)).2 (HZ.mpr (LR z q))
theorem gg:(∀x p,Expr.Starred x p∉es)→(backTo pos (starEach es env)).any (·.1)=false:=by
 induction es with
 |nil=>exact fun u_=>rfl
 |cons e es ih=>
  intro h
  have h1: ∀x p,e≠ .Starred x p:=fun x p q=>h x p (by rw[q];exact .head _)
  rw[fZ h1];show(false||(backTo pos (starEach es env)).any (·.1))=false;rw[ih fun x p m=>h x p (.tail _ m)];rfl
noncomputable def uo(f:fP)(en:En):Sg→List Keyword→Option (aG (List (Str×V)))
 |σ,[]=>some (.ok [] σ)
 |σ,k::ks=>k.arg.bind fun n=>aw (f en σ k.value) fun x KC=>aw (uo f en KC ks) fun xs KG=>some (.ok ((n,x)::xs) KG)
theorem u6(hf:bE c d f){ks:List Keyword}: ∀{σ:Sg} {ρ:Pl} {s:Shared} {o:aG (List (Str×V))},uo f en σ ks=some o→At c A env en ρ σ s d→
 au c (fun h KD xs vs=>Rk h KD xs (((backToKw pos (keywordEach ks env)).filterMap (·.1)).zip vs)) A (evalAll ((backToKw pos (keywordEach ks env)).map (·.2))) ρ s o:=by
 induction ks with
 |nil=>
  intro σ ρ s o e a;obtain rfl:=IF e;exact kws_nil (bY.now (.refl a.st a.gd) .nil)
 |cons k ks ih=>
  intro σ ρ s o e a;obtain⟨n,x,p⟩:=k
  cases n with
  |none=>exact no e
  |some n=>
  refine kws_cons (au.then (.refl a.st a.gd) e (fun o' h=>hf h a) fun y KC v KF KQ KE KM KJ u_=>au.then KE KJ (fun o' h=>ih h (a.step KE)) fun ys KG vs KI KX KH K' KY Ln=> ?_)
  obtain rfl:=IF KY;exact bY.now KH (.cons (Ln.R KM) K')
noncomputable def iq:List Keyword→Bool:=fun ks=>ks.all fun|⟨n,_,_⟩=>n.isSome
theorem p_{ks:List Keyword}:iq ks=true→(backToKw pos (keywordEach ks env)).all (·.1.isSome)=true:=by
 induction ks with
 |nil=>exact fun u_=>rfl
 |cons k ks ih=>
  obtain⟨n,v,p⟩:=k;intro h
  replace h:=Gg.mp (show(n.isSome&&iq ks)=true from h)
  exact Gg.mpr ⟨h.1,ih h.2⟩
variable (c)in
noncomputable def qi(D:List Addr)(rel:Heap→Pl→α→β→Prop)(ρ:Pl)(s:Shared)(o:aG α):β→Shared→Prop:=fun v s'=>match o with
 | .ok x KB=> ∃KD,ad c D ρ s KD KB s'∧rel s'.heap KD x v
 | .exc .. =>False
variable (c)in
noncomputable def jX(D:List Addr)(ρ:Pl)(s:Shared)(o:aG α):Value→Shared→Prop:=fun e s'=>match o with
 | .exc cls KB=> ∃KD,ad c D ρ s KD KB s'∧f7 s'.heap KD s.heap.objs.size cls e
 | .ok .. =>False
theorem cH.toD{D:List Addr}{o:aG α}(h:cH c ρ s o v s'):jX c D ρ s o v s':=by
 cases o with
 |exc x KB=>refine aK h fun KD S r=> ?_;exact⟨KD,S.D,r⟩
 |ok=>exact h
noncomputable abbrev lC:=Sg→Value→List IV→List (Str×V)→Option (aG IV)
variable (c)in
noncomputable def yG(d:Nat)(f:lC):Prop:= ∀{A:Around} {ρ:Pl} {σ:Sg} {s:Shared} {fv:Value} {xs:List IV} {ks:List (Str×V)} {I:List Addr} {vs:List Value} {kv:List (Str×Value)} {o:aG IV},f σ fv xs ks=some o→
 c.Ok→aQ c ρ σ s.heap→Gd c s.heap→eo c ρ A d s.heap→cR s.heap ρ xs I vs→Rk s.heap ρ ks kv→
  IG (model c.prog c.w) A (call fv vs kv) (qi c I (fun h KD x v=> ∃J,nQ h KD x J v∧ ∀a∈J,a∈I∨s.heap.objs.size≤a) ρ s o) (jX c I ρ s o) s
theorem cR.append_v{xs:List IV}(r:Rs h ρ l vs)(q:cR h ρ xs I ws):cR h ρ (l.map IV.v++xs) I (vs++ws):=
 Rs.ind (Q:=fun l vs=>cR h ρ (l.map IV.v++xs) I (vs++ws)) q (fun r u_ ih=> .cons (I:=[]) (.v r) ih ck) r
variable (c)in
noncomputable def eZ(iv:iR)(f:fP)(cv:lC)(en:En)(σ:Sg)(fv:Value)(first:List V)(args:List Expr)(kws:List Keyword):Option (aG IV):=
 if al args&&iq kws&&bJ c.K fv then aw (dW iv en σ args) fun xs KC=>aw (uo f en KC kws) fun ks KG=>cv KG fv (first.map .v++xs) ks
 else none
set_option tactic.hygienic true in
theorem kZ{iv:iR}{f:fP}{cv:lC}{fv:Value}{first:List V}{fvs:List Value}{args:List Expr}{kws:List Keyword}{pos:Pos}{o:aG IV}(hi:ig c d iv)(hf:bE c d f)(hc:yG c d cv)
 (e:eZ c iv f cv en σ fv first args kws=some o) (a:At c A env en ρ σ s d) (r:Rs s.heap ρ first fvs):
 au c (Cy s.heap.objs.size) A (callWith pos fv fvs (backTo pos (starEach args env)) (backToKw pos (keywordEach kws env))) ρ s o:=by
 unfold eZ at e
 split at e
 ·rename_i hp;simp only[Gh]at hp;obtain⟨⟨h1,h2⟩,h3⟩:=hp
  refine jn (K:=c.K) (gg (eG h1)) (p_ h2) h3 (au.then (.refl a.st a.gd) e (fun o' h=>v_ hi h a) fun xs KC vs KF KQ KE KM KJ _=>au.then KE KJ (fun o' h=>u6 hf h (a.step KE)) fun ks KG kv KI KX KH K' KY Ln=> ?_)
  refine aK KM fun I KM LJ=> ?_;have K7:=a.step KH;refine⟨KH.gd.kin,?_⟩;have up: ∀z∈I,z∈([]:List Addr)∨s.heap.objs.size≤z:=fun z m=> .inr (LJ z m);refine IJ (hc KY a.ok KH.sto KH.gd K7.room (cR.append_v (KH.Rs r) (Ln.ivrs KE.sto KM)) K') (fun v K8 hq=> ?_) (fun ev K8 fl=> ?_)
  ·cases o with
   |ok x KZ=>
    refine Db hq fun Ls KT J LB L2=> ?_;exact⟨Ls,ad.trans' KH KT up,J,LB,fun z m=>(L2 z m).elim (LJ z) fun q=>HV KH.rest.hsize q⟩
   |exc=>exact hq
  ·cases o with
   |exc cls KZ=>
    refine aK fl fun Ls KT f=> ?_;exact⟨Ls,ad.trans' KH KT up,f.mono KH.rest.hsize⟩
   |ok=>exact fl
 ·exact no e
end
variable {cv:lC}
section
variable {env:Env}{d:Nat}
noncomputable def Eh:x_→Option Value
 | .val x=>kr x
 | .prop _=>none
theorem CY{x:x_}{f:Value}(e:Eh x=some f):x= .val (.val f):=by
 cases x with
 |val=>exact congrArg _ (ij e)
 |prop=>exact no e
variable (c)in
noncomputable def iw(σ:Sg)(x:V)(name:Str):Option (Value×List V):=match x with
 | .lst k=>(aI σ k).bind fun u_=>if name="append" then some (.builtin "list.append",[x])else if name="pop" then some (.builtin "list.pop",[x])else none
 | .inst C k=>(fL σ k).bind fun fs=>if findIn c.K (.ref C) "__getattribute__"=some (some (.builtin "object.__getattribute__"))∧findIn c.K (.ref C) "__getattr__"=some none∧(eH fs name).isNone=true then
  (findIn c.K (.ref C) name).bind fun a=>a.bind fun v=>(kq v).bind fun f=>if typeIn c.K (.ref f)=some (.type "function")then some (.ref f,[x])else none
  else none
 | .val v=>(kq v).bind fun C=>if specialIn c.K (.ref C) "__getattribute__"=some (some (.builtin "type.__getattribute__"))then((jo c σ x name).bind Eh).map fun f=>(f,[])else none
 |_=>none
theorem Df{q:Value×List V}(e:iw c σ x name=some q)
 (k1: ∀k l,x= .lst k→σ[k]? =some (.lst l)→name="append"→q=(.builtin "list.append",[x])→P) (k2: ∀k l,x= .lst k→σ[k]? =some (.lst l)→name="pop"→q=(.builtin "list.pop",[x])→P)
 (k3: ∀C k fs f,x= .inst C k→σ[k]? =some (.dct fs)→findIn c.K (.ref C) "__getattribute__"=some (some (.builtin "object.__getattribute__"))→findIn c.K (.ref C) "__getattr__"=some none→eH fs name=none→findIn c.K (.ref C) name=some (some (.ref f))→typeIn c.K (.ref f)=some (.type "function")→q=(.ref f,[x])→P)
 (k4: ∀C f,x= .val (.ref C)→specialIn c.K (.ref C) "__getattribute__"=some (some (.builtin "type.__getattribute__"))→jo c σ x name=some (.val (.val f))→q=(f,[])→P):P:=by
 cases x with
 |lst k=>exact ae e fun l hl e=>e_ e (fun h e=>k1 k l rfl (bF hl) h (IF e).symm) fun u_ e=>bI e fun h e=>k2 k l rfl (bF hl) h (IF e).symm
 |inst C k=>
  exact ae e fun fs hk e=>bI e fun h e=>ae e fun a ha e=>ae e fun v hv e=>ae e fun f hf e=>bI e fun ht e=>
   k3 C k fs f rfl (n0 hk) h.1 h.2.1 (Option.isNone_iff_eq_none.mp h.2.2) (by rw[ha,hv,ja hf]) ht (IF e).symm
 |val v=>exact ae e fun C hC e=>bI e fun h e=>aP e fun f hf e=>ae hf fun g hg hf=>k4 C f (by rw[ja hC]) h (by rw[hg,CY hf]) e.symm
 |_=>exact no e
theorem tV{f:Value}{pl:Sem Bool}{Q:Value×List Value→Shared→Prop}(ok:c.Ok)(st:aQ c ρ σ s.heap)(g:Gd c s.heap)(e:iw c σ x name=some (f,first))(r:R s.heap ρ x v)
 (h: ∀KD s' fvs,af c ρ s KD σ s'→Rs s'.heap KD first fvs→Q (f,fvs) s'):IG (model c.prog c.w) A (getMethod v name pl) Q E s:=by
 refine Df e (fun k l hx hl hn q=> ?_) (fun k l hx hl hn q=> ?_) (fun C k fs fa hx hk h1 h2 h3 hf ht q=> ?_) fun C f' hx hg hv q=> ?_
 ·subst hx hn;refine rL q fun zz1 zz2=> ?_;subst zz1;subst zz2
  cases id r with
  |lst h1=>
  refine bf (st.at_ _ _ _ h1 hl) fun vs n o rs=> ?_
  exact getMethod_builtin (bR o).typeIs PySem.F.plainAttrs_list slot_list_append type_list_append (fun a q=>by cases q;exact⟨_,o,rfl⟩) (h _ _ _ (.refl st g) (.cons r .nil))
 ·subst hx hn;refine rL q fun zz1 zz2=> ?_;subst zz1;subst zz2
  cases id r with
  |lst h1=>
  refine bf (st.at_ _ _ _ h1 hl) fun vs n o rs=> ?_
  exact getMethod_builtin (bR o).typeIs PySem.F.plainAttrs_list PySem.F.slot_list_pop PySem.F.type_list_pop (fun a q=>by cases q;exact⟨_,o,rfl⟩) (h _ _ _ (.refl st g) (.cons r .nil))
 ·subst hx;refine rL q fun zz1 zz2=> ?_;subst zz1;subst zz2;refine cC (kI st hk r) fun xa es n sl zz4 I hdx rf=> ?_;subst zz4;have hl:=rf.getL (name:=name);rw[h3]at hl;refine method_fn g.kin I h1 h2 hf ht ?_ (h _ _ _ (.refl st g) (.cons r .nil));show(lookIn name (fm es n sl)).map (·.isSome)=some false
  rw[show lookIn name (fm es n sl)=some none from hl];rfl
 ·subst hx;refine rL q fun zz1 zz2=> ?_;subst zz1;subst zz2
  cases id r with
  |val=>
  refine method_cls g.kin hg ?_
  refine au.go (qu (A:=A) ok st g hv r) (fun y KB q w s' KD S r'=> ?_) (fun u_ u_ q=>by exact iQ q)
  refine jP q fun zz1 zz2=> ?_;subst zz1;subst zz2;obtain rfl:=r'.valQ;exact h _ _ _ S .nil
variable (c)in
noncomputable def om(iv:iR)(f:fP)(cv:lC)(en:En)(σ:Sg)(func:Expr)(args:List Expr)(kws:List Keyword)(pos:Pos):Option (aG IV):=match wn func with
 |some p=>if(aU p.1.1&&p.1.2.2.endLine==pos.line&&decide (args.length+kws.length<20)&&al args&&iq kws)=true then
  aw (f en σ p.1.1) fun x KC=>(iw c KC x p.1.2.1).bind fun q=>eZ c iv f cv en KC q.1 q.2 args kws
  else none
 |none=>if aY func=true then none else aw (f en σ func) fun x KC=>(kr x).bind fun fv=>eZ c iv f cv en KC fv [] args kws
theorem gq(h: ∀o n p,func≠ .Attribute o n p):
 eval (.Call func args kws pos) env=(do callWith pos (←eval func env) [] (backTo pos (starEach args env)) (backToKw pos (keywordEach kws env))):=by
 cases func<;>first|rfl|exact absurd rfl (h _ _ _)
theorem vN{iv:iR}{o:aG IV}(hi:ig c d iv)(hf:bE c d f)(hc:yG c d cv)
 (e:om c iv f cv en σ func args kws pos=some o) (a:At c A env en ρ σ s d):au c (Cy s.heap.objs.size) A (eval (.Call func args kws pos) env) ρ s o:=by
 unfold om at e
 cases hq:wn func with
 |some q=>
  rw[hq]at e;obtain⟨⟨ob,name,apos⟩,rfl⟩:=q;refine bI e fun hp e=> ?_
  ·simp only[Gh,decide_eq_true_eq]at hp;obtain⟨⟨⟨⟨h1,h2⟩,h3⟩,h4⟩,h5⟩:=hp;show IG _ _ _ _ _ _;rw[arm_eval_Call,ly h1]
   have few:methodCallForm (args.length+kws.length) (backTo pos (starEach args env)) (backToKw pos (keywordEach kws env))=true:=by
    unfold methodCallForm;rw[p_ h5];have:=gg (env:=env) (pos:=pos) (eG h4);simp only[Gn,Gh,decide_eq_true_eq]
    refine⟨?_,by split<;>omega⟩
    rw[GX];intro x hx;have:=Hu.mp this x hx;exact(fun {a}↦bi_not.mpr) this
   have hpos:methodCallPos true ob env apos pos=pure pos:=by unfold methodCallPos;exact if_pos (by assumption)
   and_intros
   refine IH (au.then (.refl a.st a.gd) e (fun o' h=>hf h a) fun x KC v KF KQ KE KM KJ u_=>IH (IT ?_))
   refine ae KJ fun q hm KJ=> ?_
   ·obtain⟨fv,first⟩:=q
    unfold methodCall;rw[few]
    and_intros
    refine IH (IM (tV a.ok KE.sto KE.gd hm KM fun KX KI fvs KH rs=> ?_))
    and_intros
    refine IH (IO hpos ?_);have K7:=a.step (KE.trans KH);refine au.go (kZ hi hf hc KJ K7 rs) (fun x KZ q w K8 Ls KT LB=> ?_) (fun cls KZ q ev K8 fl=> ?_)
    ·subst q;refine aK LB fun J LB L2=> ?_;exact bY.now ((KE.trans KH).trans KT) ⟨J,LB,fun z m=>HV (KE.trans KH).rest.hsize (L2 z m)⟩
    ·subst q;exact fl.trans (KE.trans KH)
 |none=>
  rw[hq]at e;refine e_ e (fun u_ e=>no e) fun u_ e=> ?_;show IG _ _ _ _ _ _
  rw[gq (fun o n p q=>by rw[q]at hq;exact EC hq)]
  and_intros
  refine IH (au.then (.refl a.st a.gd) e (fun o' h=>hf h a) fun x KC v KF KQ KE KM KJ u_=> ?_)
  refine ae KJ fun fv hv KJ=> ?_
  ·obtain rfl:=ij hv;obtain rfl:=KM.valQ;refine au.go (kZ hi hf hc KJ (a.step KE) .nil) (fun x KZ q w K8 Ls KT LB=> ?_) (fun cls KZ q ev K8 fl=> ?_)
   ·subst q;refine aK LB fun J LB L2=> ?_;exact bY.now (KE.trans KT) ⟨J,LB,fun z m=>HV KE.rest.hsize (L2 z m)⟩
   ·subst q;exact fl.trans KE
theorem af.setCell{l':aa}{t:Nat}(ok:c.Ok)(st:aQ c ρ σ s.heap)(g:Gd c s.heap)(hk:ρ.r[k]? =some la)(x:Ka la s.heap h')
 (r:(∀{y:V} {v:Value},Internal.R s.heap ρ y v→Internal.R h' ρ y v)→(∀{y:List V} {v:List Value},Internal.Rs s.heap ρ y v→Internal.Rs h' ρ y v)→fe h' ρ l' la):af c ρ s ρ (σ.set k l') {s with heap:=h',toks:=t}:=by
 have hm:la∈ρ.r:=Hn hk
 have off:ρ.Off [la]:=fun a m f=>by rw[GP.mp m]at f;exact f.1 hm
 have ex:eg c [la] s.heap h':= .of_keeps fun b o n e=>(x.2 b (fun q=>n (by simp[q]))).trans e
 have le:ρ.Le s.heap ρ:=Pl.Le.refl _ _
 have lo: ∀a∈[la],c.n₀≤a:=by simpa using st.low la hm
 have hz:s.heap.objs.size=h'.objs.size:=x.1.symm;have old: ∀b o,b<c.n₀→s.heap.get? b=some o→h'.get? b=some o:=fun b o hb e=>(x.2 b (fun q=>absurd hb (HZ.mpr (q▸st.low la hm)))).trans e;have klen:k<ρ.r.length:=(GZ.mp hk).1
 refine⟨GU _,fun u_ m=> .inl m,fun u_ m=> .inl m,fun u_ m=>m,⟨st.nodup,?_,fun j a l h1 h2=> ?_,st.low,fun a m=>⟨(st.plow a m).1,by show a<h'.objs.size;rw[←hz];exact(st.plow a m).2⟩,st.disj⟩,ex.mono fun a m=>by rw[GP.mp m];exact hm,.heap (Iw hz),g.step ok lo ex (fun p hp=> ?_) (Iw hz)⟩
 ·rw[Hr];exact st.len
 ·by_cases hj:j=k
  ·subst hj;rw[hk]at h1;obtain rfl:=IF h1
   rw[HL (by rw[←st.len];exact klen)]at h2
   obtain rfl:=IF h2;exact r (fun q=>q.mono off ex le) (fun q=>q.mono off ex le)
  ·rw[Hm (Ne.symm hj)]at h2
   refine(st.at_ j a l h1 h2).mono off ex le fun m=>hj ?_
   have e:a=la:=GP.mp m;subst e;have hj':=GZ.mp h1;have hk':=GZ.mp hk;exact(List.getElem_inj st.nodup).mp (hj'.2.trans hk'.2.symm)
 ·exact(g.codes p hp).keep (fun o q=>old _ _ (ok.cold p hp).1 q) fun o q=>old _ _ (ok.told _ (ok.tcs p hp)) q
noncomputable def CW(σ:Sg)(x:V):Option Int:=((eN x).elim ((gB x).bind (oY σ)) some).bind fun l=>if l.length≤2^20 then some l.length else none
theorem vn{i:Int}(st:aQ c ρ σ s.heap)(g:Gd c s.heap)(e:CW σ x=some i)(r:R s.heap ρ x v):bn c A (call (.builtin "len") [v]) ρ s (.ok (.int i) σ):=by
 have S:af c ρ s ρ σ {s with toks:=s.toks+1+1}:=af.toks st g
 refine ae e fun l h KJ=>bI KJ fun hz KY=> ?_;obtain rfl:=IF KY;refine iA h (fun u_ h=>ae h fun k hk hl=> ?_) fun l' h q=> ?_
 ·obtain rfl:=gn hk
  cases r using R.lstE with
  |lst h1=>
  refine bf (st.rd h1 hl) fun vs n o rs=> ?_;exact PySem.Calls.call_len_list (bR o) (rs.sz63 hz) ⟨ρ,S,rs.length▸ .int⟩
 ·obtain rfl:=eJ h;obtain rfl:=IF q
  cases r using R.tupE with
  |tup h1 f1 rs=>
  exact PyProof.Rows.len_tuple (cQ h1) (rs.sz63 hz) ⟨ρ,S,rs.length▸ .int⟩
theorem wu{i:Int}{t:Tok}(st:aQ c ρ σ s.heap)(g:Gd c s.heap):bn c A (call (.builtin "abs") [.int i t]) ρ s (.ok (.int (if i<0 then-i else i)) σ):=
 call_abs_int fun u tk=>⟨ρ,af.toks st g,.int⟩
theorem xu{a b:Int}{t:Tok}(hh:A.handled=none)(ok:c.Ok)(st:aQ c ρ σ s.heap)(g:Gd c s.heap):bn c A (call (.builtin "max") [.int a t,.int b u]) ρ s (.ok (.int (if b>a then b else a)) σ):=by
 refine bw (max_two_ints hh fun h' tk k hz=>⟨ρ,af.keeps ok st g k hz,?_⟩)
 split<;>exact .int
theorem xe{a b:Int}{t:Tok}(hh:A.handled=none)(ok:c.Ok)(st:aQ c ρ σ s.heap)(g:Gd c s.heap):bn c A (call (.builtin "min") [.int a t,.int b u]) ρ s (.ok (.int (if b<a then b else a)) σ):=by
 refine bw (min_two_ints hh fun h' tk k hz=>⟨ρ,af.keeps ok st g k hz,?_⟩)
 split<;>exact .int
noncomputable def oB:List V→Option (List Value)
 |[]=>some []
 |x::l=>(kr x).bind fun v=>(oB l).map (v:: ·)
noncomputable def DO(K:Frag)(x:V)(cl:V):Option Bool:=(cY x).bind fun u_=>(kr cl).elim ((eN cl).bind fun l=>(oB l).bind fun cs=>kitAny K (.type "int") cs) fun cv=>kitOne K (.type "int") cv
theorem yc{cs:List Value}(r:Rs h ρ l vs):oB l=some cs→vs=cs:=
 Rs.ind (Q:=fun l vs=> ∀cs,oB l=some cs→vs=cs) (fun cs e=>IF e) (fun r u_ ih cs e=>by
  refine ae e fun v hv e=>aP e fun l h w=> ?_;obtain rfl:=ij hv;obtain rfl:=r.valQ
  exact w▸congrArg _ (ih l h)) r cs
theorem wT{cl:V}(ok:c.Ok)(st:aQ c ρ σ s.heap)(g:Gd c s.heap)(e:DO c.K x cl=some b)(r:R s.heap ρ x v)(q:R s.heap ρ cl w):bn c A (call (.builtin "isinstance") [v,w]) ρ s (.ok (.bool b) σ):=by
 refine ae e fun i hi KJ=>iA KJ (fun u_ KY=>ae KY fun l hl Lx=>ae Lx fun cs h1 h2=> ?_) fun cv hc KY=> ?_
 ·obtain rfl:=b_ hi;obtain⟨_,rfl⟩:=r.intQ;obtain rfl:=eJ hl
  cases q using R.tupE with
  |tup h3 f3 rs=>
  have:=yc rs h1;subst this;exact kia_tup kitx_int g.kin trivial h3 h2 (fun q=>nomatch q) fun tk=>⟨ρ,af.toks st g,.val⟩
 ·obtain rfl:=b_ hi;obtain⟨_,rfl⟩:=r.intQ;obtain rfl:=ij hc;obtain rfl:=q.valQ;exact kia_one kitx_int g.kin trivial KY (fun q=>nomatch q) fun tk=>⟨ρ,af.toks st g,.val⟩
theorem uH{n:Int}{t:Tok}(ok:c.Ok)(st:aQ c ρ σ s.heap)(g:Gd c s.heap):bn c A (call (.type "range") [.int n t]) ρ s (.ok (.rng 0 n 1) σ):=by
 refine call_range_1 ?_
 have S:af c ρ s ρ σ {s with heap:=s.heap.push {cls:= .type "range",data:= .fields #[.int 0 s.toks,.int n t,.int 1 (s.toks+1)]},toks:=s.toks+1+1}:=af.push ok st g
 exact⟨ρ,S,.rng (IsRange.new _ _ _ _ _ _ _) (st.new (HW _))⟩
theorem tm{a b:Int}{t:Tok}(ok:c.Ok)(st:aQ c ρ σ s.heap)(g:Gd c s.heap):bn c A (call (.type "range") [.int a t,.int b u]) ρ s (.ok (.rng a b 1) σ):=by
 refine call_range_2 ?_
 have S:af c ρ s ρ σ {s with heap:=s.heap.push {cls:= .type "range",data:= .fields #[.int a t,.int b u,.int 1 s.toks]},toks:=s.toks+1}:=af.push ok st g
 exact⟨ρ,S,.rng (IsRange.new _ _ _ _ _ _ _) (st.new (HW _))⟩
theorem af.newCell{l:aa}{t:Nat}(ok:c.Ok)(st:aQ c ρ σ s.heap)(g:Gd c s.heap)(k: ∀b o,s.heap.get? b=some o→h'.get? b=some o)(hz:s.heap.objs.size≤h'.objs.size)(ha:s.heap.objs.size≤a)
 (r: ∀KD,(∀{y:V} {v:Value},Internal.R s.heap ρ y v→Internal.R h' KD y v)→(∀{y:List V} {v:List Value},Internal.Rs s.heap ρ y v→Internal.Rs h' KD y v)→fe h' KD l a) (r0: ∀KD,fe h' KD l a→a<h'.objs.size):
 af c ρ s (ρ.add a) (σ++[l]) {s with heap:=h',toks:=t}:=by
 have p:af c ρ s ρ σ {s with heap:=h',toks:=t}:=af.keeps ok st g k hz
 have fr:ρ.free a:=st.new ha
 have le:ρ.Le s.heap (ρ.add a):=⟨GO _ _,fun b o f e=>⟨fun m=>(GN.mp m).elim f.1 fun q=>absurd (J_ e) (by rw[GP.mp q];exact HZ.mpr ha),f.2⟩⟩
 have rr:fe h' (ρ.add a) l a:=r _ (fun q=>q.mono (Pl.Off.nil _) (.of_keeps (c:=c) fun b o u_ e=>k b o e) le) (fun q=>q.mono (Pl.Off.nil _) (.of_keeps (c:=c) fun b o u_ e=>k b o e) le);refine⟨le.pre,fun b m=> ?_,fun b m=> .inl m,fun b m=>m,⟨?_,?_,fun j b l' h1 h2=> ?_,fun b m=> ?_,fun b m=> ?_,fun b m n=> ?_⟩,p.ext,p.rest,p.gd⟩
 ·rcases GN.mp m with q|q
  ·exact .inl q
  ·rw[GP.mp q];exact .inr ha
 ·exact List.nodup_append.mpr ⟨st.nodup,by simp,fun b hb b' hb' q=>fr.1 (by rw[GP.mp hb']at q;exact q▸hb)⟩
 ·rw[G4,G4,st.len];rfl
 ·by_cases hj:j<ρ.r.length
  ·rw[Hc hj]at h1;rw[Hc (st.len▸hj)]at h2
   exact(st.at_ j b l' h1 h2).mono (Pl.Off.nil _) (.of_keeps (c:=c) fun b o u_ e=>k b o e) le (by exact He)
  ·have hl:=(GZ.mp h1).1;rw[G4,HA]at hl
   have ej:j=ρ.r.length:=by exact jE ‹_› ‹_›
   subst ej;rw[Ho (HW _),Im]at h1;rw[st.len,Ho (HW _),Im]at h2;obtain rfl:=IF h1;obtain rfl:=IF h2;exact rr
 ·rcases GN.mp m with q|q
  ·exact st.low b q
  ·rw[GP.mp q];exact HV g.size ha
 ·exact⟨(st.plow b m).1,H8 (st.plow b m).2 hz⟩
 ·rcases GN.mp n with q|q
  ·exact st.disj b m q
  ·rw[GP.mp q]at m;exact absurd (st.plow _ m).2 (HZ.mpr ha)
theorem sU{l:aa}(x:fe h ρ l a):a<h.objs.size:=by
 cases l with
 |lst l=>refine bf x fun u_ u_ e u_=> ?_;exact J_ e
 |dct l=>refine l_ x fun u_ u_ u_ e u_=> ?_;exact J_ e
 |ro l vs n=>exact J_ x.1
theorem af.newLst{t:Nat}(ok:c.Ok)(st:aQ c ρ σ s.heap)(g:Gd c s.heap)(k: ∀b o,s.heap.get? b=some o→h'.get? b=some o)(hz:s.heap.objs.size≤h'.objs.size)(ha:s.heap.objs.size≤a)
 (e:h'.get? a=some (aB vs n)) (r: ∀h' KD,(∀{y:List V} {v:List Value},Internal.Rs s.heap ρ y v→Internal.Rs h' KD y v)→Internal.Rs h' KD l vs):af c ρ s (ρ.add a) (σ++[.lst l]) {s with heap:=h',toks:=t}:=
 af.newCell ok st g k hz ha (fun KD u_ q=>⟨vs,n,e,r _ _ q⟩) fun KD x=>sU x
noncomputable def AD(σ:Sg)(x:V):Option (List V):=(eN x).elim ((gB x).elim ((FE x).bind fun p=>
 if Jw p.1 p.2.1 p.2.2=true∧(0≤Jv p.1 p.2.1 p.2.2)∧Jv p.1 p.2.1 p.2.2≤2^20 then some ((GT (Jv p.1 p.2.1 p.2.2).toNat).map fun(i:Nat)=>V.int (p.1+i*p.2.2))else none)
 fun k=>(aI σ k).bind fun l=>if l.length≤2^20 then some l else none)
 fun l=>if l.length≤2^20 then some l else none
theorem tO(hh:A.handled=none)(ok:c.Ok)(st:aQ c ρ σ s.heap)(g:Gd c s.heap)(e:AD σ x=some l)(r:R s.heap ρ x v):bn c A (call (.type "list") [v]) ρ s (.ok (.lst σ.length) (σ++[.lst l])):=by
 cases r with
 |tup h1 f1 rs=>
  refine oA (ik e) fun hz e=> ?_;obtain rfl:=IF e;refine bw (call_list_seq _ (.inr rfl) h1 rfl rfl (fun h' c' k e' hz'=> ?_) (rs.sz hz));exact⟨_,af.newLst (n:=c') ok st g k hz' (HW _) e' fun u_ u_ q=>q rs,.lst (st.last _)⟩
 |lst h1=>
  refine ae e fun l hl e=>oA (ik e) fun hz e=> ?_;obtain rfl:=IF e
  refine bf (st.at_ _ _ _ h1 (bF hl)) fun vs n o rs=> ?_
  refine bw (call_list_seq _ (.inl rfl) o rfl rfl (fun h' c' k e' hz'=> ?_) (rs.sz hz));exact⟨_,af.newLst (n:=c') ok st g k hz' (HW _) e' fun u_ u_ q=>q rs,.lst (st.last _)⟩
 | @rng x y dd _ _ _ _ h1 f1=>
  refine oA (ik e) fun hb e=> ?_;obtain rfl:=IF e;replace hb:Jw x y dd=true∧0≤Jv x y dd∧Jv x y dd≤2^20:=hb
  refine bw (call_list_range (n:=(Jv x y dd).toNat) hh h1 hb.1 (Int.toNat_of_nonneg hb.2.1).symm (Int.toNat_le.mpr (Gw hb.2.2 (by decide))) fun h' tk acc' c' k e' items hz'=> ?_)
  refine⟨_,af.newLst (vs:=acc'.toList) (n:=c') (l:=(GT (Jv x y dd).toNat).map fun(i:Nat)=>V.int (x+i*dd)) ok st g k hz' (HW _) (by simpa using e') fun h'' Lf q=> ?_,.lst (st.last _)⟩
  refine oA items fun i1 i2=> ?_
  have key: ∀(n:Nat) (l:List Value),l.length=n→(∀(j:Nat) v,l[j]? =some v→ ∃t:Tok,v=Kr (x+j*dd) t)→Internal.Rs h'' Lf ((GT n).map fun(i:Nat)=>V.int (x+i*dd)) l:=by
   intro n
   induction n with
   |zero=>intro l hl _;rw[Hl.mp hl];exact .nil
   |succ n ih=>
    intro l hl hv
    have hl':l=l.dropLast++[l.getLast (by intro q;rw[q]at hl;cases hl)]:=(List.dropLast_concat_getLast _).symm
    rw[List.range_succ,List.map_append,hl']
    refine(ih l.dropLast (by rw[List.length_dropLast,hl];rfl) fun j v hj=>hv j v ?_).append ?_
    ·have:=GZ.mp hj;refine oE this fun h1 h2=> ?_;rw[hl',Hc h1];exact hj
    ·obtain⟨t,ht⟩:=hv n (l.getLast (by intro q;rw[q]at hl;cases hl)) (by
      rw[G1 (lSn ‹_›),List.getLast_eq_getElem];congr 2;exact lSp ‹_›)
     rw[ht];exact .cons .int .nil
  exact key _ _ (by simpa using i1) fun j v hj=>i2 j v (by simpa using hj)
 |_=>exact no e
theorem kc{Q:List Value→Shared→Prop}(it:Addr){o:Obj}(hT:T="list"∨T="tuple")
 (ho:s.heap.get? it=some o) (hc:o.cls= .type T) (hd:o.data= .seq items n)
 (hQ: ∀h',(∀b o',s.heap.get? b=some o'→h'.get? b=some o')→s.heap.objs.size≤h'.objs.size→Q items.toList {s with heap:=h'}) (hsz:items.size≤sizeLine):
 IG (model c.prog c.w) A (collect (.ref it)) Q E s:=bw (wpAny_collect_seq (hsz:=hsz) it hT ho hc hd fun h' k hz=>hQ h' k hz)
open AutoSeq1 (wpAny_loadPart')in
theorem jN(l:Addr)(o:Obj)(items:Array Value)(n:Nat)(hc:o.cls= .type "list")(hd:o.data= .seq items n)(hsz:items.size≤sizeLine):
 Meets (Builtin.«tuple.__new__» ⟨[.type "tuple",.ref l],[]⟩)
  (fun u_ R s=>s.heap.get? l=some o∧ ∀h':Heap,(∀b o',s.heap.get? b=some o'→h'.get? b=some o')→s.heap.objs.size≤h'.objs.size→R (.ok (.ret (.ref h'.objs.size))) {s with heap:=h'.push {cls:= .type "tuple",data:= .seq items}}):=
 .of_wp fun prog w A R s h=>by
  obtain⟨hp,g,d,tk,os⟩:=s;refine oA h fun ht h=> ?_;have hsub:=sub_tuple_self;have hinit:=init_tuple_lookup;have hmh:=madeHere_tuple;have hT:Shared.TypeIs ⟨hp,g,d,tk,os⟩ (.ref l) "list":=⟨o,ht,hc⟩
  wp_walk using wpAny_loadPart' ht,IZ hT,kc (c:=⟨prog,w,default,0,[],[],fun u_=>none,fun u_=>none,default,[]⟩) (hsz:=hsz) l (.inl rfl) ht hc hd
  intro h' hk hz;show IG _ _ (JG items.toList.toArray>>=fun v=>ret v) _ _ _;unfold JG
  refine IH (IP ?_ (by show items.toList.toArray.size≤sizeLine;simpa using hsz))
  refine II ⟨_,rfl,?_⟩
  have e:items.toList.toArray=items:=by simp
  rw[e];exact h h' hk hz
noncomputable def rC(σ:Sg)(x:V):Option (List V):=(eN x).elim ((gB x).bind fun k=>(aI σ k).bind fun l=>if l.length≤2^20 then some l else none) some
theorem rG(ok:c.Ok)(st:aQ c ρ σ s.heap)(g:Gd c s.heap)(e:rC σ x=some l)(r:R s.heap ρ x v):bn c A (call (.type "tuple") [v]) ρ s (.ok (.tup l) σ):=by
 refine iA e (fun u_ KJ=>ae KJ fun k hk KY=>ae KY fun l' hl Lx=>bI Lx fun hz LN=> ?_) fun l' h KJ=> ?_
 ·obtain rfl:=gn hk;obtain rfl:=IF LN
  cases r using R.lstE with
  |lst h1=>
  refine bf (st.at_ _ _ _ h1 (bF hl)) fun vs n o rs=> ?_
  refine callType_new JM (by exact ac) (J4 _) (F.newCall_tuple_1 _) (fun obj=>J5 obj _) F.entry_tuple_new
   (jN _ _ vs.toArray n rfl rfl (rs.sz hz)) ⟨o,fun h' k hz'=>⟨⟨_,J7 _ rfl,rfl⟩,?_⟩⟩
  have KE:af c ρ s ρ σ {s with heap:=h',toks:=s.toks}:=af.keeps ok st g k hz'
  have KH:af c ρ {s with heap:=h'} ρ σ {s with heap:=h'.push (ao vs 0),toks:=s.toks}:=af.push ok KE.sto KE.gd
  exact⟨ρ,KE.trans KH,.tup (J7 _ rfl) (KE.sto.new (HW _)) ((KE.trans KH).Rs rs)⟩
 ·obtain rfl:=eJ h;obtain rfl:=IF KJ
  cases id r with
  |tup h1 f1 rs=>exact call_tuple_tup (cQ h1) ⟨ρ,.refl st g,r⟩
theorem Rs.dropLast(r:Rs h ρ l vs):Rs h ρ l.dropLast vs.dropLast:=by
 rw[List.dropLast_eq_take,List.dropLast_eq_take,r.length];exact r.take _
theorem Rs.eraseIdx(k:Nat)(r:Rs h ρ l vs):Rs h ρ (l.eraseIdx k) (vs.eraseIdx k):=by
 rw[HU,HU];exact(r.take k).append (r.drop (k+1))
noncomputable def cD(σ:Sg)(k:Nat)(y:V):Option Sg:=(aI σ k).bind fun l=>if l.length≤2^20 then some (σ.set k (.lst (l++[y])))else none
theorem kb(ok:c.Ok)(st:aQ c ρ σ s.heap)(g:Gd c s.heap)(e:cD σ k y=some KB)(r:R s.heap ρ (.lst k) v)(q:R s.heap ρ y w):bn c A (call (.builtin "list.append") [v,w]) ρ s (.ok .none KB):=by
 refine ae e fun l hl e=>bI e fun hz e=> ?_;obtain rfl:=IF e
 cases r using R.lstE with
 |lst h1=>
 refine bf (st.at_ _ _ _ h1 (bF hl)) fun vs n o rs=> ?_
 refine append_at o (fun h' sb e'=> ?_) (rs.sz hz)
 refine⟨ρ,af.setCell (t:=s.toks) ok st g h1 sb fun k1 k2=>⟨vs++[w],n+1,by rw[e'];simp,(k2 rs).append (.cons (k1 q) .nil)⟩,.val⟩
noncomputable def CB(σ:Sg)(k:Nat):Option (V×Sg):=(aI σ k).bind fun l=>if l.length≤2^20 then l.getLast?.map fun y=>(y,σ.set k (.lst l.dropLast))else none
noncomputable def lA(σ:Sg)(k:Nat)(i:Int):Option (V×Sg):=(aI σ k).bind fun l=>if l.length≤2^20∧Js i=true then(seqIndex? i l.length).bind fun j=>l[j]?.map fun y=>(y,σ.set k (.lst (l.eraseIdx j)))else none
theorem we(ok:c.Ok)(st:aQ c ρ σ s.heap)(g:Gd c s.heap)(e:CB σ k=some (y,KB))(r:R s.heap ρ (.lst k) v):bn c A (call (.builtin "list.pop") [v]) ρ s (.ok y KB):=by
 refine ae e fun l hl e=>bI e fun hz e=>aP e fun y' hy e=> ?_;refine rL e fun zz1 zz2=> ?_;subst zz1;subst zz2
 cases r using R.lstE with
 |lst h1=>
 refine bf (st.at_ _ _ _ h1 (bF hl)) fun vs n o rs=> ?_
 rw[List.getLast?_eq_getElem?]at hy;refine aK (rs.get hy) fun w hw rw'=> ?_
 refine Copied.pop_at o (y:=w) (by simpa [←rs.length]using hw) (fun h' sb e'=> ?_) (rs.sz hz)
 have S:=af.setCell (c:=c) (l':= .lst l.dropLast) (t:=s.toks) ok st g h1 sb fun k1 k2=>⟨vs.dropLast,n+1,by rw[e'];rfl,k2 rs.dropLast⟩
 exact⟨ρ,S,S.R rw'⟩
theorem oy(vs:List Value)(n j:Nat)(hj:j<vs.length):Kh (fun xs=>xs.eraseIdxIfInBounds j) (aB vs n)=aB (vs.eraseIdx j) (n+1):=by
 have h1:vs.toArray.eraseIdxIfInBounds j=(vs.eraseIdx j).toArray:=by
  unfold Array.eraseIdxIfInBounds
  rw[dif_pos (by simpa using hj)]
  simp
 have h2:((vs.eraseIdx j).toArray.size==vs.toArray.size)=false:=by
  simp[List.length_eraseIdx,hj];omega
 simp[Kh,h1];rw[List.length_eraseIdx];simp[hj];omega
theorem rj{i:Int}{t:Tok}(ok:c.Ok)(st:aQ c ρ σ s.heap)(g:Gd c s.heap)(e:lA σ k i=some (y,KB))(r:R s.heap ρ (.lst k) v):bn c A (call (.builtin "list.pop") [v,.int i t]) ρ s (.ok y KB):=by
 refine ae e fun l hl e=>bI e fun hz e=>ae e fun j hj e=>aP e fun y' hy e=> ?_;refine rL e fun zz1 zz2=> ?_;subst zz1;subst zz2
 cases r using R.lstE with
 |lst h1=>
 refine bf (st.at_ _ _ _ h1 (bF hl)) fun vs n o rs=> ?_
 refine aK (rs.get hy) fun w hw rw'=> ?_;have hjl:j<vs.length:=(GZ.mp hw).1
 refine I9 PySem.F.slot_list_pop ⟨_,o,rfl⟩ PySem.F.entry_list_pop (PySem.F.args_list_pop_2 _ _) (PySem.MeetsSeq.list_pop_at _ vs.toArray n i t j w hz.2 (by simpa [←rs.length]using hj) (by simpa using hw) (rs.sz hz.1)) ⟨o,?_⟩
 have me:=oy vs n j hjl
 have S:=af.setCell (c:=c) (l':= .lst (l.eraseIdx j)) (t:=s.toks) ok st g h1 (Kd (f:=Kh fun xs=>xs.eraseIdxIfInBounds j) ..) fun k1 k2=>⟨vs.eraseIdx j,n+1,by rw[J' _ o (by rw[me];rfl),me],k2 (rs.eraseIdx j)⟩
 exact⟨ρ,S,S.R rw'⟩
noncomputable def cU:List V→Option (List Int)
 |[]=>some []
 |x::l=>(cY x).bind fun i=>(cU l).map (i:: ·)
theorem nJ{ns:List Int}(r:Rs h ρ l vs):cU l=some ns→IntsAre vs ns:=
 Rs.ind (Q:=fun l vs=> ∀ns,cU l=some ns→IntsAre vs ns) (fun ns e=>IF e▸ .nil) (fun r u_ ih ns e=>by
  refine ae e fun i hi e=>aP e fun l h w=> ?_;obtain rfl:=b_ hi;obtain⟨_,rfl⟩:=r.intQ
  exact w▸ .cons _ _ (ih l h)) r ns
theorem yV{ns:List Int}(r:IntsAre vs ns):Rs h ρ (ns.map V.int) vs:=by
 induction r with
 |nil=>exact .nil
 |cons _ _ _ ih=>exact .cons .int ih
theorem yh{ns:List Int}(r:IntsAre vs ns): ∃xs:List (Int×Tok),vs=xs.map (fun p=>Kr p.1 p.2)∧ns=xs.map (·.1):=by
 induction r with
 |nil=>exact⟨[],rfl,rfl⟩
 |cons n t r ih=>exact aK ih fun xs h1 h2=>⟨(n,t)::xs,congrArg (_:: ·) h1,congrArg (_:: ·) h2⟩
noncomputable def Bv(σ:Sg)(x:V):Option Int:=(gB x).bind fun k=>(aI σ k).bind fun l=>(cU l).map List.sum
theorem vR{i:Int}(hh:A.handled=none)(ok:c.Ok)(st:aQ c ρ σ s.heap)(g:Gd c s.heap)(e:Bv σ x=some i)(r:R s.heap ρ x v):bn c A (call (.builtin "sum") [v]) ρ s (.ok (.int i) σ):=by
 refine ae e fun k hk e=>ae e fun l hl e=>aP e fun ns hns e=> ?_;subst e;obtain rfl:=gn hk
 cases r using R.lstE with
 | @lst la h1=>
 refine bf (st.at_ _ _ _ h1 (bF hl)) fun vs n o rs=> ?_
 refine aK (yh (nJ rs hns)) fun xs h2 h3=> ?_
 have hl:s.heap.IsList la (intItems xs.toArray):=by
  have:=bR o;rw[h2]at this;simpa [intItems]using this
 refine bw (sum_intListG hh hl fun h' tk t' k hz=>⟨ρ,af.keeps ok st g k hz,?_⟩)
 rw[preSum_eq,List.take_of_length_le (by simp),show xs.toArray.toList=xs from rfl,←h3]
 exact .int
noncomputable def qT(x:Int):List Int→List Int
 |[]=>[x]
 |y::l=>if x≤y then x::y::l else y::qT x l
noncomputable def cn:List Int→List Int
 |[]=>[]
 |x::l=>qT x (cn l)
theorem nf(x:Int)(l:List Int):(qT x l).Perm (x::l):=by
 induction l with
 |nil=>exact .refl _
 |cons y l ih=>
  refine(?_:(if x≤y then x::y::l else y::qT x l).Perm _)
  split
  ·exact .refl _
  ·exact(ih.cons y).trans (.swap ..)
theorem uR{x:Int}(hx:z≤x): ∀l:List Int,(∀y∈l,z≤y)→ ∀y∈qT x l,z≤y
 |l,h,y,m=>by
  rcases GW.mp ((nf x l).mem_iff.mp m)with rfl|q
  ·exact hx
  ·exact h y q
set_option tactic.hygienic true in
theorem pj(x:Int)(l:List Int):l.Pairwise (· ≤ ·)→(qT x l).Pairwise (· ≤ ·):=by
 induction l with
 |nil=>exact fun _=>List.pairwise_singleton _ _
 |cons y l ih=>
  intro h;refine oA (HM.mp h) fun h1 h2=> ?_
  refine(?_:(if x≤y then x::y::l else y::qT x l).Pairwise _)
  split
  ·rename_i q
   exact HM.mpr ⟨fun z m=>by rcases GW.mp m with rfl|m;exact q;exact Gw q (h1 z m),h⟩
  ·rename_i q;exact HM.mpr ⟨fun z m=>uR (GC (Int.not_le.mp q)) l h1 z m,ih h2⟩
theorem dE: ∀l:List Int,(cn l).Perm l
 |[]=> .refl _
 |x::l=>(nf x _).trans ((dE l).cons x)
theorem iZ: ∀l:List Int,(cn l).Pairwise (· ≤ ·)
 |[]=> .nil
 |x::l=>pj x _ (iZ l)
theorem vp{ns ns':List Int}(p:ns'.Perm ns)(w:ns'.Pairwise (· ≤ ·)):ns'=cn ns:=
 List.Perm.eq_of_pairwise (le:=(· ≤ ·)) (fun a b u_ u_ h1 h2=>Int.le_antisymm h1 h2) w (iZ ns) (p.trans (dE ns).symm)
noncomputable def oo(σ:Sg)(x:V):Option (List V):=((eN x).elim ((gB x).bind (aI σ)) some).bind fun l=>if l.length<64 then(cU l).map fun ns=>(cn ns).map V.int else none
theorem lE{o:Obj}{ns:List Int}(hT:T="list"∨T="tuple")(ok:c.Ok)(st:aQ c ρ σ s.heap)(g:Gd c s.heap)(ho:s.heap.get? a=some o)(hc:o.cls= .type T)(hd:o.data= .seq vs.toArray n)
 (hI:IntsAre vs ns) (h64:vs.length<64):bn c A (call (.builtin "sorted") [.ref a]) ρ s (.ok (.lst σ.length) (σ++[.lst ((cn ns).map V.int)])):=by
 refine Calls.call_function_entry kind_sorted plain_sorted entry_sorted (args_sorted1 _) ?_;unfold Builtin.«sorted»
 ac_rfl
 refine IH (m:=checkCount "sorted" 1 1 _) (II ?_)
 ac_rfl
 refine IH (kc a hT ho hc hd (fun h' k hz=> ?_) (by simp;exact HV (H' h64) (by decide)))
 ac_rfl
 refine IH (wpAny_newList ?_ (by simp;exact HV (H' h64) (by decide)))
 have KE:af c ρ s ρ σ {s with heap:=h',toks:=s.toks}:=af.keeps ok st g k hz
 have hoL:(h'.push (seqObj "list" vs.toArray 0)).get? h'.objs.size=some (seqObj "list" vs.toArray 0):=J7 _ rfl
 show IG _ _ _ _ _ {s with heap:=h'.push (seqObj "list" vs.toArray 0)}
 ac_rfl
 refine IH (IM (IR slot_list_sort ⟨_,hoL,rfl⟩ entry_list_sort (list_sort_tree hoL hI h64 fun out ns' a1 a2 a3=>⟨_,rfl,?_⟩) (args_list_sort _)));refine II ⟨_,rfl,?_⟩;have en:=vp a2 a3;subst en;obtain⟨e,he⟩:=sortedHeap_at (out:=out) (vs:=vs) hoL
 have hszN:(sortedHeap (h'.push (seqObj "list" vs.toArray 0)) h'.objs.size vs out).objs.size=h'.objs.size+3:=by
  unfold sortedHeap;rw[Kb,J9,J9,Kb,J9]
 have kk: ∀b o',h'.get? b=some o'→(sortedHeap (h'.push (seqObj "list" vs.toArray 0)) h'.objs.size vs out).get? b=some o':=fun b o' hb=>by
  have hlt:=J_ hb
  rw[sortedHeap_old (Io hlt) (by rw[J9];exact Ij hlt)]
  exact J8 _ hb
 have KH:=af.newLst (t:=s.toks) (n:=e) (vs:=out.toList) (l:=(cn ns).map V.int) (a:=h'.objs.size) ok KE.sto KE.gd kk (by show h'.objs.size≤_;rw[hszN];exact H1 _ _) (HW _) he fun u_ u_ u_=>yV a1
 exact⟨_,KE.trans KH,.lst (KE.sto.last _)⟩
theorem pO(ok:c.Ok)(st:aQ c ρ σ s.heap)(g:Gd c s.heap)(e:oo σ x=some l)(r:R s.heap ρ x v):bn c A (call (.builtin "sorted") [v]) ρ s (.ok (.lst σ.length) (σ++[.lst l])):=by
 refine ae e fun l h e=>bI e fun hz e=>aP e fun ns hns e=> ?_;subst e;refine iA h (fun u_ h=>ae h fun k hk hl=> ?_) fun l' h q=> ?_
 ·obtain rfl:=gn hk
  cases r using R.lstE with
  |lst h1=>
  refine bf (st.at_ _ _ _ h1 (bF hl)) fun vs n o rs=> ?_
  exact lE (.inl rfl) ok st g o rfl rfl (nJ rs hns) (rs.length▸hz)
 ·obtain rfl:=eJ h;obtain rfl:=IF q
  cases r using R.tupE with
  |tup h1 f1 rs=>exact lE (.inr rfl) ok st g h1 rfl rfl (nJ rs hns) (rs.length▸hz)
noncomputable def mkO(C:Addr)(k:Nat):aG V→Option (aG V)
 | .ok y KB=>if aX y=true then some (.ok (.inst C k) KB)else none
 | .exc cls KB=>some (.exc cls KB)
variable (c)in
noncomputable def m8(cf:b9)(σ:Sg)(C:Addr)(xs:List V)(ks:List (Str×V)):Option (aG V):=if makesIn c.K C=true then(findIn c.K (.ref C) "__init__").bind fun a=>a.bind fun v=>(kq v).bind fun fI=>
 if typeIn c.K (.ref fI)=some (.type "function")then(cf (σ++[.dct []]) fI (.inst C σ.length::xs) ks).bind (mkO C σ.length)else none
 else none
theorem pN(C:Addr)(rest:List Value)(kw:List (Str×Value)):(JK "type.__call__" ⟨.ref C::rest,kw⟩).weight=1:=rfl
theorem qL(C:Addr)(rest:List Value)(kw:List (Str×Value)):(JK "type.__call__" ⟨.ref C::rest,kw⟩).cUnits=1:=rfl
theorem eo.made{rest:List Value}(r:eo c ρ A (d+1) h):eo c ρ (A.under (.builtin "type.__call__" ⟨.ref C::rest,kw⟩)) d h where
 hand:=r.hand
 depth:=by
  have:=r.depth;show A.depth+(JK "type.__call__" ⟨.ref C::rest,kw⟩).weight+d<recursionLimit;rw[pN];exact Fo ‹_›
 units:=by
  have:=r.units;show A.units+(JK "type.__call__" ⟨.ref C::rest,kw⟩).cUnits+8*d+220<cLine;rw[qL];exact ru1 ‹_›
 frames:=r.frames
theorem th{cf:b9}{ks:List (Str×V)}(hc:dF c d cf)(e:m8 c cf σ C xs ks=some o)(ok:c.Ok)(st:aQ c ρ σ s.heap)(g:Gd c s.heap)(room:eo c ρ A (d+1) s.heap)
 (rx:Rs s.heap ρ xs vs) (rk:Rk s.heap ρ ks kv):mE c A (.call (.ref C) ⟨vs,kv⟩) ρ s o:=by
 refine bI e fun hm KJ=>ae KJ fun a ha KY=>ae KY fun v hv Lx=>ae Lx fun fI hfI LN=>bI LN fun hf LS=>ae LS fun o' ho' LT=> ?_;clear e KJ KY Lx LN LS
 have hi:findIn c.K (.ref C) "__init__"=some (some (.ref fI)):=by rw[ha,hv,ja hfI]
 obtain⟨h,gs,dr,tk,os⟩:=s;have KE:af c ρ ⟨h,gs,dr,tk,os⟩ (ρ.add h.objs.size) (σ++[.dct []]) ⟨h.push emptyDict,gs,dr,tk,os⟩:=af.pushCell (s:=⟨h,gs,dr,tk,os⟩) (l:= .dct []) (t:=tk) ok st g fun h' KD e u_ u_=>⟨[],0,#[],e,.nil⟩;have KH:af c (ρ.add h.objs.size) ⟨h.push emptyDict,gs,dr,tk,os⟩ (ρ.add h.objs.size) (σ++[.dct []]) ⟨(h.push emptyDict).push (instObj C h.objs.size),gs,dr,tk,os⟩:=af.push (s:=⟨h.push emptyDict,gs,dr,tk,os⟩) (t:=tk) ok KE.sto KE.gd;have S:=KE.trans KH;have hsz:(h.push emptyDict).objs.size=h.objs.size+1:=J9 ..
 have ri:R ((h.push emptyDict).push (instObj C h.objs.size)) (ρ.add h.objs.size) (.inst C σ.length) (.ref (h.objs.size+1)):=by
  refine .inst (dx:=h.objs.size) ?_ ?_ (st.last _)
  ·rw[←hsz];exact J7 _ rfl
  ·rw[←hsz];exact KE.sto.new (HW _)
 refine make_core (makes_of g.kin hm) (looks_findIn g.kin hi) (fun self=>bind_fn g.kin self hf) (.inl rfl) ?_;refine I5 (hc ho' ok S.sto S.gd (S.room st room).made (.cons ri (S.Rs rx)) (S.Rk rk)) fun r s' z=> ?_
 rcases r with ev|(v|_|_|_)
 ·cases o' with
  |ok y KB=>exact z.elim
  |exc cls KB=>
   obtain rfl:=IF LT;exact cH.trans (α:=V) (β:=V) S z
 ·exact z.elim
 ·exact z.elim
 ·exact z.elim
 ·cases o' with
  |exc=>exact z.elim
  |ok y KB=>
   refine bI LT fun hy L_=>aK z fun KD T ry=> ?_;obtain rfl:=IF L_;have:=gQ ry;rw[hy]at this;exact⟨GK this,KD,S.trans T,T.R ri⟩
noncomputable def lY(σ:Sg):Nat→It→Option (List V)
 |0,_=>none
 |n+1,t=>(ay σ t).bind fun r=>r.elim (some []) fun p=>(lY σ n p.2).map (p.1:: ·)
theorem eq(vs:List Value)(w:Value)(n:Nat):Kh (·.push w) (aB vs n)=aB (vs++[w]) (n+1):=by
 simp[Kh]
theorem ub{S:Addr}{res:Value}{R:Result→Shared→Prop}(hh:A.handled=none)(ok:c.Ok)(hSI:S∉I)(n:Nat): ∀(t:It) (l:List V) (s:Shared) (acc:List V) (vs:List Value) (k:Nat),lY σ n t=some l→acc.length+l.length≤2^20→
 aQ c ρ σ s.heap→Gd c s.heap→bC s.heap ρ t I a→S∈ρ.p→s.heap.get? S=some (aB vs k)→Internal.Rs s.heap ρ acc vs→
 (∀s' vs' k',ad c (S::I) ρ s ρ σ s'→s'.heap.get? S=some (aB vs' k')→Internal.Rs s'.heap ρ (acc++l) vs'→R (.ok (.ret res)) s')→
 codeAny (model c.prog c.w) A (.builtin "list.extend.loop" ⟨[.ref S,.ref a,res],[]⟩) R s:=by
 induction n with
 |zero=>exact fun u_ u_ u_ u_ u_ u_ e u_ u_ u_ u_ u_ u_ u_ u_=>no e
 |succ n ih=>
  intro t l s acc vs k e hz st g i hp hS ra hR;refine IQ J6 ?_;rw[Jo JN _];show IG _ A.in1 (pyNext (.ref a)>>=_) _ _ s;refine ae e fun r hn e=> ?_
  and_intros
  refine iA e (fun hr e=> ?_) fun p hr e=> ?_
  ·subst hr;obtain rfl:=IF e;refine IH (It.pull0 (A:=A.in1) hh ok st g i hn fun KF KE=> ?_);have Lj:KF.heap.get? S=some (aB vs k):=KE.ext.get (fun m=>(GN.mp m).elim hSI (st.disj S hp)) hS rfl;refine II (hR KF vs k (KE.wider fun b m=> .tail _ m) Lj ?_);rw[G2];exact ad.Rs i.priv.1 KE ra
  ·subst hr;refine aP e fun l' hl' e=> ?_;subst e;refine IH (It.pull (A:=A.in1) hh ok st g i hn fun w KF KE rv Lq=> ?_);have Lj:KF.heap.get? S=some (aB vs k):=KE.ext.get (fun m=>(GN.mp m).elim hSI (st.disj S hp)) hS rfl
   have hv:vs.length≤2^20:=by rw[←ra.length];exact asl ‹_›
   show IG _ A.in1 (updateSeq S (·.push w)>>=_) _ _ _
   refine IH (I3 Lj rfl ?_ (by simp;exact HV hv (by decide)) (by simp;exact HV hv (by decide)))
   have hg:(KF.heap.update S (Kh (·.push w))).get? S=some (aB (vs++[w]) (k+1)):=by
    rw[J' _ Lj (by rw[eq];rfl),eq]
   have KH:ad c [S] ρ KF ρ σ {KF with heap:=KF.heap.update S (Kh (·.push w)),toks:=KF.toks}:=ad.same (t:=KF.toks) ok KE.sto KE.gd hp (Kd ..)
   have Lh:=ad.itr KE.sto (by simpa using hp) (fun y m q=>hSI (by rw[GP.mp q]at m;exact m)) KH Lq
   have Ma:=ad.Rs (by simpa using hp) KH ((ad.Rs i.priv.1 KE ra).append (.cons rv .nil))
   refine II ⟨IS JN _,ih p.2 l' _ (acc++[p.1]) (vs++[w]) (k+1) hl' (by simp at hz⊢;exact Dr ‹_›) KH.sto KH.gd Lh hp hg Ma fun s' vs' k' KT h3 r3=> ?_⟩
   refine hR s' vs' k' (((KE.wider fun b m=> .tail _ m).trans (KH.wider (by exact HE ..))).trans KT) h3 ?_
   rw[GY]at r3;exact r3
namespace F2
theorem nolen_lri:typeLookup (.type "list_reverseiterator") "__len__"=pure none:=by rw[I_,Ja];exact rfl
theorem hint_lri:typeLookup (.type "list_reverseiterator") "__length_hint__"=pure (some (.builtin "list_reverseiterator.__length_hint__")):=by rw[I_,Ja];exact rfl
end F2
theorem oC{Q:List Value→Shared→Prop}(hh:A.handled=none)(ok:c.Ok)(st:aQ c ρ σ s.heap)(g:Gd c s.heap)(e:lY σ n (.revl k i)=some l)(hz:l.length≤2^20)(it:bC s.heap ρ (.revl k i) I a)
 (hQ: ∀KD s' vs,ad c I ρ s KD σ s'→Internal.Rs s'.heap KD l vs→Q vs s'):IG (model c.prog c.w) A (collect (.ref a)) Q E s:=by
 unfold collect
 ac_rfl
 refine IH (wpAny_runValue (IQ F.entry_proto_collect ?_));rw[Jo F.plain_proto_collect _];show IG _ A.in1 (newList []>>=fun l=>again (.builtin "list.__iadd__" ⟨[l,.ref a],[]⟩)) _ _ s
 ac_rfl
 refine IH (IP ?_);refine II ⟨IS JT _,IQ F.entry_list_iadd ?_⟩;rw[Jo JT _]
 have K2:af c ρ s ⟨ρ.r,s.heap.objs.size::ρ.p⟩ σ {s with heap:=s.heap.push (aB [] 0),toks:=s.toks}:=af.priv (t:=s.toks) ok st g
 have Mb:=K2.itr st it;have hSI:s.heap.objs.size∉I:=fun m=>absurd (st.plow _ (it.priv.1 _ m)).2 (Ia _);have haI:a∈I:=it.priv.2;have hSa:s.heap.objs.size≠a:=fun q=>hSI (q▸haI)
 have h1:Jt (.ref s.heap.objs.size) (.ref a)=false:=by exact decide_eq_false (by assumption)
 have Lj:(s.heap.push (aB [] 0)).get? s.heap.objs.size=some (aB [] 0):=J7 _ rfl
 have hT:Shared.TypeIs {s with heap:=s.heap.push (aB [] 0),toks:=s.toks} (.ref a) "list_reverseiterator":=by
  cases Mb with
  |revl h1 r p=>refine bW h1 fun o ho hc u_=> ?_;exact⟨o,ho,hc⟩
 show IG _ A.in1 (Jr (.ref s.heap.objs.size) (.ref a) (.ref s.heap.objs.size)) _ _ {s with heap:=s.heap.push (aB [] 0),toks:=s.toks}
 unfold Jr
 ac_rfl
 refine IH (IZ hT ?_)
 refine bV (by rw[h1];decide) ?_
 ac_rfl
 refine IH (Mb.iter_self ?_)
 ac_rfl
 refine IH (IM ?_);unfold Ju
 ac_rfl
 refine IH (I2 hT F2.nolen_lri ?_);show IG _ A.in1 (specialOf (Ko a) (Kn "__length_hint__")>>=_) _ _ _
 ac_rfl
 refine IH (I2 hT F2.hint_lri ?_)
 (generalize dw:("list_reverseiterator.__length_hint__":String)=id0;(fail_if_success (clear dw id0));wp_delta;rw[show splitId id0=some ("list_reverseiterator","__length_hint__")from by subst dw;decide+kernel];subst dw)
 ac_rfl
 refine IH (I6 (b:=true) hT (by rw[Jc];exact rfl) ?_)
 refine II ?_
 refine bV (by decide) ?_
 refine II ⟨IS JN _,ub (c:=c) (σ:=σ) hh ok hSI n _ l _ [] [] 0 e (by simpa using hz) K2.sto K2.gd Mb (.head _) Lj .nil fun s' vs' k' KE h3 r3=> ?_⟩
 show IG _ A (load s.heap.objs.size>>=_) _ _ s'
 ac_rfl
 refine IH (wpAny_load h3 ?_)
 refine II (hQ _ s' _ (ad.trans' (K2.D (D:=I)) KE fun b m=> ?_) (by simpa using r3))
 rcases GW.mp m with rfl|q
 ·exact .inr (HW _)
 ·exact .inl q
theorem qI(hh:A.handled=none)(ok:c.Ok)(st:aQ c ρ σ s.heap)(g:Gd c s.heap)(e:lY σ n (.revl k i)=some l)(hz:l.length≤2^20)(it:bC s.heap ρ (.revl k i) I a):
 IG (model c.prog c.w) A (call (.type "tuple") [.ref a]) (fun v s'=> ∃KD,ad c I ρ s KD σ s'∧Internal.R s'.heap KD (.tup l) v) (cH c ρ s (.ok (V.tup l) σ)) s:=by
 have ip:=it.priv.1
 have hT:s.TypeIs (.ref a) "list_reverseiterator":=by
  cases it with
  |revl h1 r p=>refine bW h1 fun o ho hc u_=> ?_;exact⟨o,ho,hc⟩
 refine callType_codes (Q₁:=fun obj KF=>KF.TypeIs obj "tuple"∧ ∃KD,ad c I ρ s KD σ KF∧Internal.R KF.heap KD (.tup l) obj) JM (J4 _) F.entry_object_init ?_ fun obj KF KP=> ?_
 ·refine Ji ?_
  show IG _ A.in1.in1 (do checkBuiltinCall "tuple.__new__" ⟨[.type "tuple",.ref a],[]⟩;again (.builtin "tuple.__new__" ⟨[.type "tuple",.ref a],[]⟩)) _ _ s
  refine IH (IO (F.newCall_tuple_1 _) (II ⟨IS JU _,IQ F.entry_tuple_new ?_⟩));rw[Jo JU _];have hsub:=sub_tuple_self;have hinit:=init_tuple_lookup;have hmh:=madeHere_tuple;have hh':A.in1.in1.handled=none:=hh
  wp_walk using IZ hT,oC (A:=A.in1.in1) hh' ok st g e hz it
  intro KD s' vs S rs;show IG _ _ (JG vs.toArray>>=fun v=>ret v) _ _ _;unfold JG
  refine IH (IP ?_ (by show vs.toArray.size≤sizeLine;simp[←rs.length];exact HV hz (by decide)))
  have KH:af c KD s' KD σ {s' with heap:=s'.heap.push (ao vs 0),toks:=s'.toks}:=af.push (t:=s'.toks) ok S.sto S.gd
  exact II ⟨⟨_,J7 _ rfl,rfl⟩,KD,S.trans KH.D,.tup (J7 _ rfl) (S.sto.new (HW _)) (KH.Rs rs)⟩
 ·exact⟨KP.1,J5 obj _,object_init_meets JM.init.lookup JM.made (by exact ac) c.prog c.w A.in1 _ KF ⟨KP.1,rfl,KP.2⟩⟩
noncomputable def gu(o:Option (aG V)):Option (aG IV):=o.map fun r=> @aG.casesOn V (fun u_=>aG IV) r (fun x σ=> .ok (.v x) σ) fun cls σ=> .exc cls σ
noncomputable abbrev eX:=Sg→List IV→List (Str×V)→Option (aG IV)
variable (c)in
noncomputable def AH(A:Around)(ρ:Pl)(s:Shared)(f:Value)(I:List Addr)(vs:List Value)(kv:List (Str×Value))(o:aG IV):Prop:=
 IG (model c.prog c.w) A (call f vs kv) (qi c I (fun h KD x v=> ∃J,nQ h KD x J v∧ ∀a∈J,a∈I∨s.heap.objs.size≤a) ρ s o) (jX c I ρ s o) s
variable (c)in
structure wP(A:Around)(ρ:Pl)(σ:Sg)(s:Shared):Prop where
 hh:A.handled=none
 ok:c.Ok
 st:aQ c ρ σ s.heap
 g:Gd c s.heap
variable (c)in
noncomputable def iD(f:Value)(k:eX):Prop:= ∀{A:Around} {ρ:Pl} {σ:Sg} {s:Shared} {xs:List IV} {ks:List (Str×V)} {I:List Addr} {vs:List Value} {kv:List (Str×Value)} {o:aG IV},
 wP c A ρ σ s→cR s.heap ρ xs I vs→Rk s.heap ρ ks kv→k σ xs ks=some o→AH c A ρ s f I vs kv o
noncomputable def h1(k:Sg→IV→List (Str×V)→Option (aG IV)):eX:=fun σ xs ks=>match xs with
 |[]=>none
 |x::l=>match l with
  |[]=>k σ x ks
  |_::_=>none
noncomputable def h2(k:Sg→IV→IV→List (Str×V)→Option (aG IV)):eX:=fun σ xs ks=>match xs with
 |[]=>none
 |x::l=>h1 (fun σ y ks=>k σ x y ks) σ l ks
noncomputable def y7(f:Sg→IV→Option (aG IV)):Sg→IV→List (Str×V)→Option (aG IV):=fun σ x ks=>match ks with
 |[]=>f σ x
 |_::_=>none
noncomputable def CJ(f:Sg→V→V→Option (aG IV)):Sg→IV→IV→List (Str×V)→Option (aG IV):=fun σ x y ks=>match x with
 | .v x=>match y with
  | .v y=>match ks with
   |[]=>f σ x y
   |_::_=>none
  | .it _=>none
 | .it _=>none
noncomputable def onV(f:Sg→V→Option (aG IV)):Sg→IV→Option (aG IV):=fun σ x=>match x with
 | .v x=>f σ x
 | .it _=>none
noncomputable def f9(f:Sg→V→Option (aG IV)):eX:=h1 (y7 (onV f))
noncomputable def oK(f:Sg→V→V→Option (aG IV)):eX:=h2 (CJ f)
theorem z'{f:Value}{k:Sg→IV→List (Str×V)→Option (aG IV)}(h: ∀{A ρ σ s x I v ks kv o},wP c A ρ σ s→nQ s.heap ρ x I v→Rk s.heap ρ ks kv→k σ x ks=some o→AH c A ρ s f (I++[]) [v] kv o):iD c f (h1 k):=fun S r rk e=>by
 cases r with
 |nil=>exact no e
 |cons r rs _=>
  cases rs with
  |nil=>exact h S r rk e
  |cons=>exact no e
theorem oz{f:Value}{k:Sg→IV→Option (aG IV)}(h: ∀{A ρ σ s x I v o},wP c A ρ σ s→nQ s.heap ρ x I v→k σ x=some o→AH c A ρ s f (I++[]) [v] [] o):iD c f (h1 (y7 k)):=z' fun S r rk e=>by
 cases rk with
 |nil=>exact h S r e
 |cons=>exact no e
theorem fp{f:Value}{k:Sg→V→Option (aG IV)}(h: ∀{A ρ σ s x v o},wP c A ρ σ s→R s.heap ρ x v→k σ x=some o→AH c A ρ s f ([]++[]) [v] [] o):iD c f (f9 k):=oz fun S r e=>by
 cases r with
 |v r=>exact h S r e
 |it=>exact no e
theorem jV{f:Value}{k:Sg→V→V→Option (aG IV)}(h: ∀{A ρ σ s x v y w o},wP c A ρ σ s→R s.heap ρ x v→R s.heap ρ y w→k σ x y=some o→AH c A ρ s f ([]++([]++[])) [v,w] [] o):iD c f (oK k):=fun S r rk e=>by
 cases r with
 |nil=>exact no e
 |cons r rs _=>
 cases rs with
 |nil=>exact no e
 |cons q qs _=>
 cases qs with
 |cons=>exact no e
 |nil=>
 cases r with
 |it=>exact no e
 |v r=>
 cases q with
 |it=>exact no e
 |v q=>
 cases rk with
 |cons=>exact no e
 |nil=>exact h S r q e
noncomputable def A6(k k':eX):eX:=fun σ xs ks=>(k σ xs ks).or (k' σ xs ks)
theorem mv{f:Value}{k k':eX}(h:iD c f k)(h':iD c f k'):iD c f (A6 k k'):=fun {_ _ σ _ xs ks _ _ _ _} S r rk e=>by
 unfold A6 at e
 cases q:k σ xs ks with
 |none=>rw[q]at e;exact h' S r rk e
 |some o=>rw[q]at e;obtain rfl:=IF e;exact h S r rk q
noncomputable def tX(tab:List (String×eX))(T:String):eX:=fun σ xs ks=>match tab.lookup T with
 |some k=>k σ xs ks
 |none=>none
theorem xz{F:String→Value}{tab:List (String×eX)}:(∀p∈tab,iD c (F p.1) p.2)→iD c (F T) (tX tab T):=by
 induction tab with
 |nil=>intro _;exact fun u_ u_ u_ e=>no e
 |cons p l ih=>
  intro h;exact fun S r rk e=>by
   obtain⟨x,k⟩:=p;unfold tX at e;rw[G5]at e
   cases q:T==x with
   |true=>rw[q]at e;exact GK q▸h _ (.head _) S r rk e
   |false=>rw[q]at e;exact ih (fun p m=>h p (.tail _ m)) S r rk e
noncomputable def Dn:=f9 fun σ x=>(CW σ x).map fun i=> .ok (.v (.int i)) σ
noncomputable def DT:=f9 fun σ x=>(cY x).map fun i=> .ok (.v (.int (if i<0 then-i else i))) σ
noncomputable def DY:=f9 fun σ x=>(Bv σ x).map fun i=> .ok (.v (.int i)) σ
noncomputable def rY:=f9 fun σ x=>(oo σ x).map fun l=> .ok (.v (.lst σ.length)) (σ++[.lst l])
noncomputable def Dk:=f9 fun σ x=>(gB x).bind fun k=>(CB σ k).map fun p=> .ok (.v p.1) p.2
noncomputable def CD(K:Frag):=oK fun σ x y=>(DO K x y).map fun b=> .ok (.v (.bool b)) σ
noncomputable def sN:=oK fun σ x y=>(gB x).bind fun k=>(cD σ k y).map fun KB=> .ok (.v .none) KB
noncomputable def vo:=oK fun σ x y=>(gB x).bind fun k=>(cY y).bind fun i=>(lA σ k i).map fun p=> .ok (.v p.1) p.2
noncomputable def C2:=oK fun σ x y=>(cY x).bind fun a=>(cY y).map fun b=> .ok (.v (.int (if b>a then b else a))) σ
noncomputable def D6:=oK fun σ x y=>(cY x).bind fun a=>(cY y).map fun b=> .ok (.v (.int (if b<a then b else a))) σ
noncomputable def wj(K:Frag):List (String×eX):=[("len",Dn),("abs",DT),("sum",DY),("sorted",rY),("list.pop",A6 Dk vo),("isinstance",CD K),("list.append",sN),("max",C2),("min",D6)]
theorem bn.iv{t:Sem Value}(h:bn c A t ρ s (.ok y KB)):IG (model c.prog c.w) A t (qi c I (fun h KD x v=> ∃J,nQ h KD x J v∧ ∀a∈J,a∈I∨s.heap.objs.size≤a) ρ s (.ok (.v y) KB)) (jX c I ρ s (.ok (IV.v y) KB)) s:=
 IJ h (fun v s' ⟨KD,S,r⟩=>⟨KD,S.D,[],.v r,by simp⟩) fun u_ u_ f=>f
theorem Bm:iD c (.builtin "len") Dn:=fp fun S r e=>aP e fun i hi w=>w▸(vn S.st S.g hi r).iv
theorem A1:iD c (.builtin "abs") DT:=fp fun S r e=>aP e fun i hi w=>by obtain rfl:=b_ hi;obtain⟨_,rfl⟩:=r.intQ;exact w▸(wu S.st S.g).iv
theorem AN:iD c (.builtin "sum") DY:=fp fun S r e=>aP e fun i hi w=>w▸(vR S.hh S.ok S.st S.g hi r).iv
theorem tj:iD c (.builtin "sorted") rY:=fp fun S r e=>aP e fun i hi w=>w▸(pO S.ok S.st S.g hi r).iv
theorem BH:iD c (.builtin "list.pop") Dk:=fp fun S r e=>ae e fun k hk w=>aP w fun p hi w=>by obtain rfl:=gn hk;exact w▸(we S.ok S.st S.g hi r).iv
theorem ww:iD c (.builtin "list.pop") vo:=jV fun S r q e=>ae e fun k hk w=>ae w fun i hi w=>aP w fun p hp w'=>by obtain rfl:=gn hk;obtain rfl:=b_ hi;obtain⟨_,rfl⟩:=q.intQ;exact w'▸(rj S.ok S.st S.g hp r).iv
theorem A9:iD c (.builtin "isinstance") (CD c.K):=jV fun S r q e=>aP e fun i hi w=>w▸(wT S.ok S.st S.g hi r q).iv
theorem tc:iD c (.builtin "list.append") sN:=jV fun S r q e=>ae e fun k hk w=>aP w fun p hi w=>by obtain rfl:=gn hk;exact w▸(kb S.ok S.st S.g hi r q).iv
theorem Bb:iD c (.builtin "max") C2:=jV fun S r q e=>ae e fun k hk w=>aP w fun i hi w'=>by obtain rfl:=b_ hk;obtain rfl:=b_ hi;obtain⟨_,rfl⟩:=r.intQ;obtain⟨_,rfl⟩:=q.intQ;exact w'▸(xu S.hh S.ok S.st S.g).iv
theorem A4:iD c (.builtin "min") D6:=jV fun S r q e=>ae e fun k hk w=>aP w fun i hi w'=>by obtain rfl:=b_ hk;obtain rfl:=b_ hi;obtain⟨_,rfl⟩:=r.intQ;obtain⟨_,rfl⟩:=q.intQ;exact w'▸(xe S.hh S.ok S.st S.g).iv
theorem BF{id:String}:iD c (.builtin id) (tX (wj c.K) id):=
 xz (F:= .builtin) (ak Bm (ak A1 (ak AN (ak tj (ak (mv BH ww) (ak A9 (ak tc (ak Bb (ak A4 ck)))))))))
namespace F2
theorem tc_zip2(a b:Value):checkTypeCall "zip" ⟨[a,b],[]⟩=pure ():=by kernel_rfl
theorem tc_zip3(a b d:Value):checkTypeCall "zip" ⟨[a,b,d],[]⟩=pure ():=by kernel_rfl
theorem nc_zip2(a b:Value):checkBuiltinCall "zip.__new__" ⟨[.type "zip",a,b],[]⟩=pure ():=by kernel_rfl
theorem nc_zip3(a b d:Value):checkBuiltinCall "zip.__new__" ⟨[.type "zip",a,b,d],[]⟩=pure ():=by kernel_rfl
theorem oi3(o a b:Value):argsOk "object.__init__" ⟨[o,a,b],[]⟩:=by
 unfold argsOk;rw[Jd (id:="object.__init__") (n:=['_','_','t','i','n','i','_','_']) (o:=['t','c','e','j','b','o']) rfl J2];exact rfl
theorem oi4(o a b d:Value):argsOk "object.__init__" ⟨[o,a,b,d],[]⟩:=by
 unfold argsOk;rw[Jd (id:="object.__init__") (n:=['_','_','t','i','n','i','_','_']) (o:=['t','c','e','j','b','o']) rfl J2];exact rfl
end F2
theorem cR.len{xs:List IV}(r:cR h ρ xs I vs):vs.length=xs.length:=cR.rec (motive:=fun xs u_ vs u_=>vs.length=xs.length) rfl (fun u_ u_ u_ ih=>congrArg (· +1) ih) r
theorem De{l:List α}(h:l.length=2): ∃a b,l=[a,b]:=by
 cases l with
 |nil=>cases h
 |cons a l=>cases l with
  |nil=>cases h
  |cons b l=>exact⟨a,b,congrArg (a::b:: ·) (G' (Iz (Iz h)))⟩
theorem FZ{l:List α}(h:l.length=3): ∃a b d,l=[a,b,d]:=by
 cases l with
 |nil=>cases h
 |cons a l=>
  refine qK (De (Iz h)) fun b d zz2=> ?_;subst zz2;exact⟨a,b,d,rfl⟩
noncomputable def Dy:eX:=fun σ xs ks=>match ks with
 |[]=>if xs.length=2∨xs.length=3 then(jQ σ xs).bind fun ts=>if ts.length≤64 then some (.ok (.it (.zip ts)) σ)else none else none
 |_::_=>none
noncomputable def Ax:=h1 (y7 fun σ x=>(aC σ x).map fun t=> .ok (.it (.enum t 0)) σ)
noncomputable def xI:=h1 fun σ x ks=>match ks with
 |[]=>none
 |(k,n)::l=>match l with
  |[]=>(cY n).bind fun n=>if k="start"∧JE n=true then(aC σ x).map fun t=> .ok (.it (.enum t n)) σ else none
  |_::_=>none
noncomputable def Ap:=f9 fun σ x=>(AD σ x).map fun l=> .ok (.v (.lst σ.length)) (σ++[.lst l])
noncomputable def xf:=f9 fun σ x=>(rC σ x).map fun l=> .ok (.v (.tup l)) σ
noncomputable def wX:IV→Option (Nat×Nat)
 | .it (.revl k i)=>some (k,i)
 |_=>none
theorem yz{x:IV}{p:Nat×Nat}(e:wX x=some p):x= .it (.revl p.1 p.2):=by
 cases x with
 |v=>exact no e
 |it t=>cases t<;>first|exact no e|(obtain rfl:=IF e;rfl)
noncomputable def nM:=h1 (y7 fun σ x=>(wX x).bind fun p=>(lY σ 4096 (.revl p.1 p.2)).bind fun l=>if l.length≤2^20 then some (.ok (.v (.tup l)) σ)else none)
noncomputable def vO:=f9 fun σ x=>(cY x).map fun n=> .ok (.v (.rng 0 n 1)) σ
noncomputable def rV:=oK fun σ x y=>(cY x).bind fun a=>(cY y).map fun b=> .ok (.v (.rng a b 1)) σ
noncomputable def DS:=f9 fun σ x=>(gB x).bind fun k=>(aI σ k).map fun l=> .ok (.it (.revl k l.length)) σ
noncomputable def Ar:=f9 fun σ x=>(eN x).bind fun l=>if l.length≤2^20 then some (.ok (.it (.revt l l.length)) σ)else none
noncomputable def wg:List (String×eX):=[("zip",Dy),("enumerate",A6 Ax xI),("list",Ap),("tuple",A6 xf nM),("range",A6 vO rV),("reversed",A6 DS Ar)]
theorem AH.it{f:Value}(h: ∀{Q E},(∀KD J a s',af c ρ s KD KB s'→bC s'.heap KD t J a→(∀x∈J,x∈I∨s.heap.objs.size≤x)→Q (.ref a) s')→IG (model c.prog c.w) A (call f vs kv) Q E s):AH c A ρ s f I vs kv (.ok (.it t) KB):=
 h fun KD J u_ u_ S i k=>⟨KD,S.D,J,.it i,k⟩
theorem x6:iD c (.type "zip") Dy:=fun {_ _ _ _ xs _ _ _ _ _} S r rk e=>by
 cases rk with
 |cons=>exact no e
 |nil=>
 refine bI e fun h24 e=>ae e fun ts hts e=>bI e fun hz e=> ?_;obtain rfl:=IF e;refine .it fun fin=> ?_
 rcases h24 with h|h
 ·refine qK (De (r.len.trans h)) fun a b zz2=> ?_;subst zz2;exact pV S.ok S.st S.g hts r hz (F2.tc_zip2 _ _) (F2.nc_zip2 _ _) (fun o=>F2.oi3 o _ _) fin
 ·refine D0 (FZ (r.len.trans h)) fun a b d zz3=> ?_;subst zz3;exact pV S.ok S.st S.g hts r hz (F2.tc_zip3 _ _ _) (F2.nc_zip3 _ _ _) (fun o=>F2.oi4 o _ _ _) fin
theorem nD{x:Addr}(q:x∈I∨n≤x):x∈I++[]∨n≤x:=q.imp (fun q=>G9 _ q) id
theorem wo:iD c (.type "enumerate") Ax:=oz fun {A ρ σ s x I v o} S r e=>aP e fun t ht w=>w▸AH.it fun h=>sX S.ok S.st S.g ht r fun KD J a s' S i k=>h KD J a s' S i fun z m=>nD (k z m)
theorem vU:iD c (.type "enumerate") xI:=z' fun S r rk e=>by
 cases rk with
 |nil=>exact no e
 |cons r1 rk=>
 cases rk with
 |cons=>exact no e
 |nil=>
 refine ae e fun n hn w=>bI w fun hk w=>aP w fun t ht w'=> ?_;obtain rfl:=b_ hn;obtain⟨_,rfl⟩:=r1.intQ;rw[hk.1,←w'];exact .it fun h=>kD S.ok S.st S.g ht r hk.2 fun KD J a s' S i k=>h KD J a s' S i fun z m=>nD (k z m)
theorem yr:iD c (.type "list") Ap:=fp fun S r e=>aP e fun t ht w=>w▸(tO S.hh S.ok S.st S.g ht r).iv
theorem wL:iD c (.type "tuple") xf:=fp fun S r e=>aP e fun t ht w=>w▸(rG S.ok S.st S.g ht r).iv
theorem tq:iD c (.type "tuple") nM:=oz fun S r e=>ae e fun p hp w=>ae w fun l hl w=>bI w fun hz w=>by
 obtain rfl:=yz hp;obtain rfl:=IF w
 cases r with
 |it i=>exact IJ (qI S.hh S.ok S.st S.g hl hz i) (fun v s' ⟨KD,S,r'⟩=>⟨KD,S.wider (fun a m=>G9 _ m),[],.v r',ck⟩) fun u_ u_ f=>f.elim
theorem wU:iD c (.type "range") vO:=fp fun S r e=>aP e fun t ht w=>by obtain rfl:=b_ ht;obtain⟨_,rfl⟩:=r.intQ;exact w▸(uH S.ok S.st S.g).iv
theorem sZ:iD c (.type "range") rV:=jV fun S r q e=>ae e fun k hk w=>aP w fun i hi w'=>by obtain rfl:=b_ hk;obtain rfl:=b_ hi;obtain⟨_,rfl⟩:=r.intQ;obtain⟨_,rfl⟩:=q.intQ;exact w'▸(tm S.ok S.st S.g).iv
theorem B1:iD c (.type "reversed") DS:=fp fun S r e=>ae e fun k hk w=>aP w fun l hl w'=>by
 obtain rfl:=gn hk;subst w';exact .it fun h=>ow S.ok S.st S.g (bF hl) r fun KD J a s' S i k=>h KD J a s' S i fun z m=> .inr (k z m)
theorem zK:iD c (.type "reversed") Ar:=fp fun S r e=>ae e fun l hl w=>bI w fun hz w=>by
 obtain rfl:=eJ hl;obtain rfl:=IF w;exact .it fun h=>nP S.ok S.st S.g r hz fun KD J a s' S i k=>h KD J a s' S i fun z m=> .inr (k z m)
theorem BI:iD c (.type T) (tX wg T):=
 xz (F:= .type) (ak x6 (ak (mv wo vU) (ak yr (ak (mv wL tq) (ak (mv wU sZ) (ak (mv B1 zK) ck))))))
noncomputable def nZ:List IV→Option (List V)
 |[]=>some []
 | .v x::l=>(nZ l).map (x:: ·)
 |_=>none
theorem yl{xs:List IV}(r:cR h ρ xs I vs):nZ xs=some l→Rs h ρ l vs:=
 cR.rec (motive:=fun xs u_ vs u_=> ∀l,nZ xs=some l→Rs h ρ l vs) (fun l e=>IF e▸ .nil) (fun r u_ u_ ih l e=>by
  cases r with
  |v r=>exact aP e fun l' h1 w=>w▸ .cons r (ih l' h1)
  |it=>exact no e) r l
variable (c)in
noncomputable def rF(cf:b9):lC:=fun σ fv xs ks=> @Value.casesOn (fun u_=>Option (aG IV)) fv none none none (fun u_=>none) (fun u_ u_=>none) (fun u_ u_=>none) (fun u_ u_=>none) (fun u_ u_=>none) (fun T=>tX wg T σ xs ks) (fun id=>tX (wj c.K) id σ xs ks) fun a=>(nZ xs).bind fun l=>gu (match l7 c.K a with
 |some _=>cf σ a l ks
 |none=>m8 c cf σ a l ks)
theorem mE.iv{a:Value}(h:mE c A (.call a ⟨vs,kv⟩) ρ s o)(e:gu (some o)=some o'):
 IG (model c.prog c.w) A (call a vs kv) (qi c I (fun h KD x v=> ∃J,nQ h KD x J v∧ ∀a∈J,a∈I∨s.heap.objs.size≤a) ρ s o') (jX c I ρ s o') s:=by
 refine I7 (I5 h fun r s' z=> ?_)
 cases o with
 |ok x KB=>
  obtain rfl:=IF e
  rcases r with ev|(v|_|_|_)
  ·exact z.elim
  ·exact z.elim
  ·exact z.elim
  ·exact z.elim
  ·refine aK z fun KD S r=> ?_
   exact⟨KD,S.D,[],.v r,by simp⟩
 |exc cls KB=>
  obtain rfl:=IF e
  rcases r with ev|(v|_|_|_)
  ·exact cH.toD (α:=IV) z
  ·exact z.elim
  ·exact z.elim
  ·exact z.elim
  ·exact z.elim
theorem lf{cf:b9}(hc:dF c (d+1) cf)(hc':dF c d cf):yG c (d+1) (rF c cf):=by
 intro A ρ σ s fv xs ks I vs kv o e ok st g room r rk
 cases fv with
 |ref a=>
  refine ae e fun l hl e=> ?_;have rl:=yl r hl;generalize l7 c.K a=f at e
  cases f with
  |some _=>
   generalize hq:cf σ a l ks=q at e
   cases q with
   |none=>exact no e
   |some Li=>exact(hc hq ok st g room rl rk).iv e
  |none=>
   generalize hq:m8 c cf σ a l ks=q at e
   cases q with
   |none=>exact no e
   |some Li=>exact(th hc' hq ok st g room rl rk).iv e
 |type T=>exact BI ⟨room.hand,ok,st,g⟩ r rk e
 |builtin id=>exact BF ⟨room.hand,ok,st,g⟩ r rk e
 |_=>exact no e
noncomputable def tJ(name:Str)(y:V):List (Str×V)→List (Str×V)
 |[]=>[(name,y)]
 |(n,x)::r=>if(n==name)=true then(n,y)::r else(n,x)::tJ name y r
theorem Rf.put{hsh:Int}{t:Tok}(ry:R h ρ y v){es:List DictEntry}(r:Rf h ρ fs es):Rf h ρ (tJ name y fs) (putL name hsh (.str name t) v es):=
 Rf.rec (motive:=fun fs es u_=>Rf h ρ (tJ name y fs) (putL name hsh (.str name t) v es)) (.cons rfl ry .nil) (fun {n u x e fs es} hk r rs ih=>by
  have hs:e.key.isStr name=(n==name):=by rw[hk];rfl
  refine(?_:Rf h ρ (if(n==name)=true then _ else _) (if e.key.isStr name=true then _ else _))
  rw[hs]
  by_cases q:(n==name)=true
  ·rw[if_pos q,if_pos q];exact .cons hk ry rs
  ·rw[if_neg q,if_neg q];exact .cons hk r ih) r
theorem Rf.len{es:List DictEntry}(r:Rf h ρ fs es):fs.length=es.length:=Rf.rec (motive:=fun fs es u_=>fs.length=es.length) rfl (fun u_ u_ u_ ih=>congrArg (· +1) ih) r
theorem w8(name:Str)(hsh:Int)(k v:Value)(es:List DictEntry):(putL name hsh k v es).length≤es.length+1:=by
 induction es with
 |nil=>exact HW _
 |cons e es ih=>
  unfold putL
  split
  ·exact H0 _
  ·exact Nat.succ_le_succ ih
theorem qz(name:Str)(hsh:Int)(key v:Value)(es:List DictEntry)(n:Nat)(sl:Array (Option Value)):Obj.putName name hsh key v (fm es n sl)=fm (putL name hsh key v es) (putN name es n) sl:=by
 rw[Obj.putName_eq];unfold Obj.putNameByArray fm putN;have h1:=putL_find name hsh key v es;have h2:=any_of_findIdx name es;simp only[List.findIdx?_toArray]
 cases h:List.findIdx? (fun x=>x.key.isStr name) es with
 |none=>rw[h]at h1 h2;rw[←h2,←h1];simp
 |some i=>rw[h]at h1 h2;rw[←h2,←h1];simp
variable (c)in
noncomputable def di(σ:Sg)(x:V)(name:Str)(y:V):Option Sg:=(CK x).bind fun p=>(fL σ p.1.2).bind fun fs=>if findIn c.K (.ref p.1.1) "__setattr__"=some (some (.builtin "object.__setattr__"))∧plainOver c.K p.1.1=true∧takerIn c.K p.1.1 name=some none∧hasDictIn c.K p.1.1=true∧fs.length≤900 then some (σ.set p.1.2 (.dct (tJ name y fs)))else none
theorem nW(ok:c.Ok)(st:aQ c ρ σ s.heap)(g:Gd c s.heap)(e:di c σ x name y=some KB)(r:R s.heap ρ x v)(q:R s.heap ρ y w):
 IG (model c.prog c.w) A (setAttr v name w) (fun u_ s'=>af c ρ s ρ KB s') E s:=by
 refine eT e fun p KJ=>ae KJ fun fs hk KY=>bI KY fun hc Lx=> ?_;clear e KJ KY;replace hk:=n0 hk;obtain⟨⟨C,k⟩,rfl⟩:=p;refine Ds hc fun h1 h2 h3 h4 h5=> ?_;obtain rfl:=IF Lx;refine cC (kI st hk r) fun xa es n sl zz4 I hdx rf=> ?_;subst zz4
 have hrk: ∃dx,ρ.r[k]? =some dx:=by
  cases r with
  |inst _ _ h=>exact⟨_,h⟩
 refine oE hrk fun dx hdxk=> ?_
 have edx:ρ.r[k]?.getD 0=dx:=by rw[hdxk];rfl
 rw[edx]at I hdx
 refine set_plain g.kin I h1 (osa_open (s:={s with toks:=s.toks+1}) g.kin I h2 h3 fun b=> ?_)
 refine aK (any_some h4) fun cd hcd hd'=> ?_;obtain⟨hx,hcl,hn,-⟩:=id I
 ac_rfl
 refine IH (II (IH (IH (wpAny_loadPart hx (IH (Looks.here (s:={s with toks:=s.toks+1}) (looks_clsIn g.kin hcd) ?_))))))
 rw[hd'];refine II (a:=some dx) (IH (II (IH ?_)));unfold nsSet
 ac_rfl
 refine IH (IH (wpAny_askSetting (II (IH (wpAny_mkText (IH (wpAny_loadPart hdx ?_)))))));dsimp only
 have hc0:(!es.toArray.any (·.key.isStr name)&&es.toArray.any (·.refKey))=false:=by
  rw[←Array.any_toList,←Array.any_toList];have:=(rf.get (name:=name)).1;exact(fun {x y}↦Bool.and_eq_false_imp.mpr) fun a↦this
 rw[aRefKeyMayBeTheName_at,hc0];refine wpAny_updatePart hdx ?_;have pe:=qz name (Km c.w.params name) (.str name (s.toks+1)) w es n sl
 have hg:(s.heap.update dx (Obj.putName name (Km c.w.params name) (.str name (s.toks+1)) w)).get? dx=some (fm (putL name (Km c.w.params name) (.str name (s.toks+1)) w es) (putN name es n) sl):=by
  rw[J' _ hdx (by rw[pe];rfl),pe]
 have hl:(putL name (Km c.w.params name) (.str name (s.toks+1)) w es).length≤1000:=by
  have:=w8 name (Km c.w.params name) (.str name (s.toks+1)) w es;have:=rf.len;omega
 ac_rfl
 refine IH (wpAny_lookBehind hg (pastItsLine_dict (by rw[Hg,sizeLine_eq];exact bg ‹_› (by exact ac))) ?_)
 refine II ?_
 exact af.setCell (c:=c) (t:=s.toks+1+1) ok st g hdxk (Kd ..) fun k1 k2=>⟨_,_,_,hg,Rf.put (k1 q) (rf.mono (c:=c) (S:=[dx]) (fun a m f=>by rw[GP.mp m]at f;exact f.1 (Hn hdxk)) (.of_keeps fun b o nb eb=>((Kd (h:=s.heap) (a:=dx) (f:=Obj.putName name (Km c.w.params name) (.str name (s.toks+1)) w)).2 b (fun qq=>nb (by simp[qq]))).trans eb) (Pl.Le.refl _ _))⟩
noncomputable def dN(σ:Sg)(k:Nat)(i:Int)(y:V):Option Sg:=(aI σ k).bind fun l=>if-(2^62)≤i∧i<2^62∧l.length≤2^20 then(seqIndex? i l.length).map fun j=>σ.set k (.lst (l.set j y))else none
theorem lI(vs:List Value)(w:Value)(n j:Nat):Kh (·.setIfInBounds j w) (aB vs n)=aB (vs.set j w) n:=by
 simp[Kh]
theorem Rs.setAt(q:R h ρ y w)(k:Nat)(r:Rs h ρ l vs):Rs h ρ (l.set k y) (vs.set k w):=Rs.ind (Q:=fun l vs=> ∀k,Rs h ρ (l.set k y) (vs.set k w)) (fun u_=> .nil) (fun r rs ih k=>by
 cases k with
 |zero=>exact .cons q rs
 |succ k=>exact .cons r (ih k)) r k
theorem te{l:Addr}{k:Int}{t:Tok}{Q:Unit→Shared→Prop}(ho:s.heap.get? l=some (aB items.toList n))(h0:k<0)(h1: -(items.size:Int)≤k)(hfit: -(2^63)≤k)
 (hQ:Q () {s with heap:=s.heap.update l (Kh (·.setIfInBounds (k+items.size).toNat v))}):IG (model c.prog c.w) A (setItem (.ref l) (.int k t) v) Q E s:=by
 have hl:s.heap.IsList l items:=⟨_,ho,rfl,n,rfl⟩;unfold setItem
 try with_reducible refine IM ?_
 first|refine IH (II ?_)|skip
 and_intros
 refine IH (wpAny_sequenceKey hl.typeIs (by rfl) ?_)
 and_intros
 refine IH (IU (name:=Kn "__setitem__") hl.typeIs slot_list_setitem
  (IR slot_list_setitem hl.typeIs entry_list_setitem ?_ (args_list_setitem _ _ _)))
 show IG _ _ (Builtin.List.listSubscript? (.int k t)>>=_) _ _ s
 and_intros
 refine IH (wpAny_listSubscript_int (fitsIndex_neg h0 hfit) ?_);clear hfit;have hidx:=seqIndex_neg h0 h1
 have hj:(k+items.size).toNat<items.size:=by omega
 have hx:items[(k+items.size).toNat]? =some items[(k+items.size).toNat]:=Array.getElem?_eq_getElem hj;generalize hkk:(k+items.size).toNat=jj at*
 obtain⟨j,rfl⟩: ∃j:Nat,k=Int.negSucc j:=by
  cases k with
  |ofNat n=>exact absurd h0 (Gx.mpr (Gv n))
  |negSucc n=>exact⟨n,rfl⟩
 show IG _ _ ((Builtin.List.listItems (.ref l)>>=fun xs=>pure ((seqIndex? (Int.negSucc j) xs.size).bind fun i=>xs[i]?.map (i,·)))>>=_) _ _ s
 and_intros
 refine IH (IH ?_);show IG _ _ (seqItems? (.ref l)>>=_) _ _ s
 and_intros
 refine IH (IY ho rfl (II (II ?_)));simp only[Array.toArray_toList];rw[hidx];simp only[IE,hx,Option.map_some];show IG _ _ (setSeqItemAt l jj v>>=_) _ _ s
 and_intros
 refine IH (wpAny_setSeqItemAt ho rfl ?_)
 first
  |exact IH (II (II ⟨.none,rfl,II hQ⟩))
  |exact II ⟨.none,rfl,II hQ⟩
set_option tactic.hygienic true in
theorem oI{k:Nat}{i:Int}{t:Tok}{y:V}{v w:Value}{KB:Sg}{E:Value→Shared→Prop}(ok:c.Ok)(st:aQ c ρ σ s.heap)(g:Gd c s.heap)(e:dN σ k i y=some KB)(r:R s.heap ρ (.lst k) v)(q:R s.heap ρ y w):
 IG (model c.prog c.w) A (setItem v (.int i t) w) (fun _ s'=>af c ρ s ρ KB s') E s:=by
 refine ae e fun l hl KJ=>bI KJ fun hb KY=>aP KY fun j hj zz2=> ?_;clear e KJ KY;subst zz2
 cases r using R.lstE with
 | @lst la h1=>
 refine bf (st.at_ _ _ _ h1 (bF hl)) fun vs n o rs=> ?_
 have hlen:=rs.length
 have fin: ∀t',af c ρ s ρ (σ.set k (.lst (l.set j y))) {s with heap:=s.heap.update la (Kh (·.setIfInBounds j w)),toks:=t'}:=fun t'=>
  af.setCell ok st g h1 (Kd ..) fun k1 k2=>⟨vs.set j w,n,by rw[J' _ o (by rw[lI];rfl),lI],Rs.setAt (k1 q) j (k2 rs)⟩
 unfold seqIndex? at hj;dsimp only at hj
 by_cases h0:i<0
 ·rw[if_pos h0]at hj
  split at hj
  ·rename_i hc;obtain rfl:=IF hj;simp only[Gh,decide_eq_true_eq]at hc
   refine te (items:=vs.toArray) (n:=n) o h0 (by simp[←hlen];exact lnz (Gb ‹_›)) (ain ‹_› (by exact ac)) ?_
   have:=fin s.toks;simpa [hlen]using this
  ·exact no hj
 ·rw[if_neg h0]at hj
  split at hj
  ·rename_i hc;obtain rfl:=IF hj;simp only[Gh,decide_eq_true_eq]at hc
   exact ki_setAt (items:=vs.toArray) (n:=n) o (Gx.mp ‹_›) (aiu ‹_› (by exact ac)) (by simp[←hlen];omega) (fin s.toks)
  ·exact no hj
noncomputable abbrev uM:=Expr→En→Sg→V→Option (En×Sg)
noncomputable def fz(g:uM):List Expr→En→Sg→List V→Option (En×Sg)
 |[],en,σ,l=>match l with
  |[]=>some (en,σ)
  |_::_=>none
 |t::ts,en,σ,l=>match l with
  |[]=>none
  |y::ys=>(g t en σ y).bind fun p=>fz g ts p.1 p.2 ys
variable (c)in
noncomputable def eP(f:fP):Nat→uM
 |0,_,_,_,_=>none
 |n+1,t,en,σ,y=>(io t).elim ((j9 t).elim ((wn t).elim ((F0 t).bind fun p=>
  if bB p.1.2.1=true then(f en σ p.1.1).bind fun r=>(uL r).bind fun q=>(gB q.1).bind fun k=>(f en q.2 p.1.2.1).bind fun r'=>(uL r').bind fun q'=>(cY q'.1).bind fun j=>(dN q'.2 k j y).map fun KZ=>(en,KZ)else none)
  fun p=>(f en σ p.1.1).bind fun r=>(uL r).bind fun q=>(di c q.2 q.1 p.1.2.1 y).map fun KG=>(en,KG))
  fun p=>(eN y).bind fun l=>if al p.1.1=true then fz (eP f n) p.1.1 en σ l else none)
  fun p=>if bH en p.1.1=true then some (en.set p.1.1 y,σ)else none
theorem nu{g:uM}: ∀{en en':En} {σ KB:Sg} {l:List V},fz g es en σ l=some (en',KB)→es.length=l.length:=by
 induction es with
 |nil=>intro en en' σ KB l e;cases l with
  |nil=>rfl
  |cons=>exact no e
 |cons t ts ih=>intro en en' σ KB l e;cases l with
  |nil=>exact no e
  |cons y ys=>exact ae e fun p u_ w=>congrArg (· +1) (ih w)
theorem jW:al es=true→assignEach es env=es.map fun t=>(false,assign t env):=by
 induction es with
 |nil=>exact fun u_=>rfl
 |cons e es ih=>
  intro h
  have h1: ∀x p,e≠ .Starred x p:=fun x p q=>eG h x p (by rw[q];exact .head _)
  have:assignEach (e::es) env=(false,assign e env)::assignEach es env:=by cases e<;>first|rfl|exact absurd rfl (h1 _ _)
  rw[this,ih (bj h).2];rfl
variable (c)in
noncomputable def zF(d:Nat)(g:uM):Prop:= ∀{A:Around} {env:Env} {en en':En} {ρ:Pl} {σ KB:Sg} {s:Shared} {t:Expr} {y:V} {v:Value} {Q:Unit→Shared→Prop} {E:Value→Shared→Prop},g t en σ y=some (en',KB)→At c A env en ρ σ s d→R s.heap ρ y v→
 (∀KD s',bo c env ρ s KD KB s'→a_ s'.heap KD env en'→Q () s')→IG (model c.prog c.w) A (assign t env v) Q E s
theorem ua{g:uM}(hg:zF c d g): ∀{en en':En} {ρ:Pl} {σ KB:Sg} {s:Shared} {l:List V} {vs:List Value} {Q:Unit→Shared→Prop} {E:Value→Shared→Prop},fz g es en σ l=some (en',KB)→At c A env en ρ σ s d→Rs s.heap ρ l vs→
 (∀KD s',bo c env ρ s KD KB s'→a_ s'.heap KD env en'→Q () s')→IG (model c.prog c.w) A (assignInOrder (es.map fun t=>assign t env) vs) Q E s:=by
 induction es with
 |nil=>
  intro en en' ρ σ KB s l vs Q E e a r h
  cases l with
  |cons=>exact no e
  |nil=>cases IF e;obtain rfl:=r.nilQ;exact assignInOrder_nil (h _ _ ((af.refl a.st a.gd).toS a.st a.er) a.er)
 |cons t ts ih=>
  intro en en' ρ σ KB s l vs Q E e a r h
  cases l with
  |nil=>exact no e
  |cons y ys=>
   refine ae e fun p h1 w=> ?_
   cases r using Rs.consE with
   |cons r rs=>exact assignInOrder_cons (hg h1 a r fun KQ KF KE LO=>ih w (a.stepS KE LO) (ad.Rs a.er.own KE.st rs) fun KX KI KH LC=>h _ _ (KE.trans KH) LC)
theorem mh{p:Pos}{Q:Unit→Shared→Prop}(hns:al es=true)(hlen:es.length=l.length)(a:At c A env en ρ σ s d)(r:R s.heap ρ (.tup l) v)
 (h: ∀KF vs,af c ρ s ρ σ KF→Rs KF.heap ρ l vs→IG (model c.prog c.w) A (assignInOrder (es.map fun t=>assign t env) vs) Q E KF):IG (model c.prog c.w) A (assign (.Tuple es k p) env v) Q E s:=by
 cases id r with
 | @tup _ ta vs m h1 f1 rs=>
 have hm:assignEach es env=es.map fun t=>(false,assign t env):=jW hns;rw[assign_Tuple,hm];refine IH (IT ?_)
 have hn:(es.map fun t=>(false,assign t env)).length=vs.toArray.size:=by rw[GM,hlen];exact rs.length
 have hstar:(es.map fun t=>(false,assign t env)).findIdx? (·.1)=none:=by
  rw[List.findIdx?_eq_none_iff];intro x hx;refine aK (G0.mp hx) fun t u_ zz2=> ?_;subst zz2;rfl
 unfold unpack;rw[hn,hstar,G_];refine IH (IM (bw (unpackItems_tuple a.room.hand (cQ h1) fun h' he hz=> ?_)))
 have KE:af c ρ s ρ σ {s with heap:=h',toks:=s.toks}:=af.keeps a.ok a.st a.gd (fun b o eb=>he b o (fun q=>absurd (J_ eb) (by rw[q];exact Ia _)) eb) hz
 exact h _ vs KE (KE.Rs rs)
theorem tu(hf:bE c d f){p:Pos}{Q:Unit→Shared→Prop}(h1:f en σ ob=some (.ok x KC))(h2:di c KC x name y=some KG)(a:At c A env en ρ σ s d)(r:R s.heap ρ y v)
 (h: ∀KD s',bo c env ρ s KD KG s'→a_ s'.heap KD env en→Q () s'):IG (model c.prog c.w) A (assign (.Attribute ob name p) env v) Q E s:=by
 show IG _ A (do
  let ov←holding [v] (eval ob env)
  standAt p.atName
  holding [v,ov] (setAttr ov name v)
  release [v,ov] []) _ _ s
 and_intros
 refine IH (IM (au.go (hf h1 a) (fun x' KB q w KF KQ KE KM=> ?_) (fun u_ u_ q=>by exact iQ q)))
 refine jP q fun zz1 zz2=> ?_;subst zz1;subst zz2
 and_intros
 refine IH (IT (IH (IM (IJ (nW (E:=E) a.ok KE.sto KE.gd h2 KM (KE.R r)) (fun u_ KI KH=> ?_) fun u_ u_ z=>z))));exact wpAny_release (h _ _ ((KE.trans KH).toS a.st a.er) ((KE.trans KH).env a.st a.er))
theorem uc(hf:bE c d f){ie:Expr}{p:Pos}{j:Int}{Q:Unit→Shared→Prop}(h1:f en σ ob=some (.ok (.lst k) KC))(h2:f en KC ie=some (.ok (.int j) KG))(h3:dN KG k j y=some KZ)(a:At c A env en ρ σ s d)(r:R s.heap ρ y v)
 (h: ∀KD s',bo c env ρ s KD KZ s'→a_ s'.heap KD env en→Q () s'):IG (model c.prog c.w) A (assign (.Subscript ob ie p) env v) Q E s:=by
 show IG _ A (holding [v] (eval ob env)>>=fun ov=>holding [v,ov] (eval ie env)>>=fun iv=>standAt p>>=fun u_=>holding [v,ov,iv] (setItem ov iv v)>>=fun u_=>release _ []) _ _ s
 ac_rfl
 refine IH (IM (au.go (hf h1 a) (fun x' KB q w KF KQ KE KM=> ?_) (fun u_ u_ q=>by exact iQ q)))
 refine jP q fun zz1 zz2=> ?_;subst zz1;subst zz2
 ac_rfl
 refine IH (IM (au.go (hf h2 (a.step KE)) (fun x' KB q w₂ KI KX KH K'=> ?_) (fun u_ u_ q=>by exact iQ q)))
 refine jP q fun zz1 zz2=> ?_;subst zz1;subst zz2;obtain⟨_,rfl⟩:=K'.intQ
 ac_rfl
 refine IH (IT (IH (IM (IJ (oI (E:=E) a.ok KH.sto KH.gd h3 (KH.R KM) (KH.R (KE.R r))) (fun u_ K8 KT=> ?_) fun u_ u_ z=>z))));exact wpAny_release (h _ _ (((KE.trans KH).trans KT).toS a.st a.er) (((KE.trans KH).trans KT).env a.st a.er))
theorem pg(hf:bE c d f)(n:Nat):zF c d (eP c f n):=by
 induction n with
 |zero=>intro A env en en' ρ σ KB s t y v Q E e;exact no e
 |succ n ih=>
  intro A env en en' ρ σ KB s t y v Q E e a r h
  cases t with
  |Name x p=>
   refine oA (ik (show(if bH en x=true then some (en.set x y,σ)else none)=some (en',KB)from e)) fun hx w=> ?_
   obtain⟨rfl,rfl⟩:=Prod.mk.inj (IF w);exact assign_Name (dK a (cT hx) r fun s' S er=>h ρ s' S er)
  |Tuple es k p=>
   refine ae (show((eN y).bind fun l=>if al es=true then fz (eP c f n) es en σ l else none)=some (en',KB)from e) fun l hl w=>bI w fun hns w=> ?_
   obtain rfl:=eJ hl;exact mh hns (nu w) a r fun KF vs KE rs=>ua ih w (a.step KE) rs fun KX KI KH LC=>h _ _ ((KE.toS a.st a.er).trans KH) LC
  |Attribute ob name p=>
   refine ae (show((f en σ ob).bind fun r=>(uL r).bind fun q=>(di c q.2 q.1 name y).map fun KG=>(en,KG))=some (en',KB)from e) fun o ho w=>ae w fun q hq w=>aP w fun KG h2 w=> ?_
   cases w
   exact tu hf (qB hq▸ho) h2 a r h
  |Subscript ob ie p=>
   refine bI (show(if bB ie=true then(f en σ ob).bind fun r=>(uL r).bind fun q=>(gB q.1).bind fun k=>(f en q.2 ie).bind fun r'=>(uL r').bind fun q'=>(cY q'.1).bind fun j=>(dN q'.2 k j y).map fun KZ=>(en,KZ)else none)=some (en',KB)from e) fun u_ w=>
    ae w fun o ho w=>ae w fun q hq w=>ae w fun k hk w=>ae w fun o' ho' w=>ae w fun q' hq' w=>ae w fun j hj w=>aP w fun KZ h3 w=> ?_
   cases w
   obtain⟨x1,KC⟩:=q;obtain⟨x2,KG⟩:=q';obtain rfl:=gn hk;obtain rfl:=b_ hj;exact uc hf (qB hq▸ho) (qB hq'▸ho') h3 a r h
  |_=>exact no e
end
variable {g:uM}
section
variable {env:Env}{d:Nat}
noncomputable def du(o:Obj):Bool:=match o.data with
 | .fields _=>true
 | .seq .. =>true
 |_=>false
noncomputable def aW(h:Heap)(I:List Addr):Prop:= ∀b∈I,∃o,h.get? b=some o∧du o=true
theorem jH{vs:Array Value}(e: ∃o,h.get? a=some o∧o.cls= .type T∧o.data= .fields vs): ∃o,h.get? a=some o∧du o=true:=e.elim fun o e=>⟨o,e.1,by unfold du;rw[e.2.2]⟩
theorem bC.objsB:(∀{t I a},bC h ρ t I a→aW h I)∧(∀{ts I as},bD h ρ ts I as→aW h I):=
 bC.both (P:=fun u_ I u_=>aW h I) (Q:=fun u_ I u_=>aW h I) (fun e u_ u_=>dB (jH e)) (fun e u_ u_=>dB (jH e)) (fun e u_=>dB ⟨_,e,rfl⟩) (fun e u_ u_=>dB (jH e)) (fun e u_ u_=>dB ⟨_,e,rfl⟩)
  (fun e1 u_ e2 e3 u_ u_ ts u_ u_ u_ u_ u_ u_ u_ u_ u_=>ak ⟨_,e1,rfl⟩ (ak ⟨_,e2,rfl⟩ (ak ⟨_,e3,rfl⟩ ts))) (fun e u_ u_ t u_ u_=>ak ⟨_,e,rfl⟩ t) ck fun u_ t u_ ts u_ b m=>(GN.mp m).elim (t b) (ts b)
theorem bC.objs(i:bC h ρ t I a): ∀b∈I,∃o,h.get? b=some o∧du o=true:=bC.objsB.1 i
theorem aW.locals(p:aW h I)(er:a_ h ρ env en):env.locals∉I:=fun m=>by
 refine aK (p _ m) fun o ho hp=> ?_;obtain⟨mm,⟨o',es,ep,ho',hd,_⟩,_⟩:=er.lo;rw[ho]at ho';obtain rfl:=IF ho';unfold du at hp;rw[hd]at hp;exact bM hp
theorem aW.cell(p:aW h I){w:Option Value}(i:h.IsCell a w):a∉I:=fun m=>by
 refine aK (p _ m) fun o ho hp=> ?_;refine aK i fun o' ho' hd=> ?_;rw[ho]at ho';obtain rfl:=IF ho';unfold du at hp;rw[hd]at hp;exact bM hp
set_option tactic.hygienic true in
theorem aW.own{h:Heap}{I:List Addr}(p:aW h I)(er:a_ h ρ env en): ∀b∈I,b∉mK env:=fun b m n=>by
 rcases GW.mp n with rfl|n
 ·exact p.locals er m
 ·refine aK (Hj.mp n) fun x _ hx=> ?_
  split at hx
  ·rename_i hk
   refine bS (er.ce x.1 (by rw[←er.names];exact hk)) fun a' w h1 h2 h3 _=> ?_
   rw[h1]at hx;obtain rfl:=IF hx;exact p.cell h2 m
  ·exact no hx
theorem aW.fo(p:aW h I):cq I h h':=fun a m o e ⟨es,ep,hd⟩=>by
 refine aK (p a m) fun o' ho' hp=> ?_;rw[e]at ho';obtain rfl:=IF ho';unfold du at hp;rw[hd]at hp;exact bM hp
theorem a_.monoI{D:List Addr}(t:aQ c ρ σ s.heap)(d: ∀a∈D,a∈ρ.p)(x:ad c D ρ s KD KB s')(e:a_ s.heap ρ env en)(p:aW s.heap D):a_ s'.heap KD env en:=a_.monoX t d x e (p.locals e) fun u_ u_ u_ u_ h=>p.cell h
theorem At.plain{D:List Addr}(a:At c A env en ρ σ s d)(dp: ∀a∈D,a∈ρ.p)(p:aW s.heap D)(x:ad c D ρ s KD KB s'):At c A env en KD KB s' d:=
 ⟨a.ok,x.sto,x.gd,a.er.monoI a.st dp x p,a.room.monoD a.st x p.fo⟩
theorem bo.plain{D:List Addr}(x:bo c env KW KN ρ σ s)(st:aQ c ρ σ s.heap)(er:a_ s.heap ρ env en)(p:aW s.heap D)(y:ad c D ρ s KD KB s')(k: ∀a∈D,KN.heap.objs.size≤a):bo c env KW KN KD KB s':=by
 refine⟨ad.trans' x.st y fun a m=> .inr (k a m),x.fo.trans fun a m o e t=> ?_⟩
 have hD:a∉D:=fun n=>by
  refine aK (p a n) fun o' ho' hp=> ?_;refine qK t fun es ep hd=> ?_;rw[e]at ho';obtain rfl:=IF ho';unfold du at hp;rw[hd]at hp;exact bM hp
 refine aK (y.ext a o (fun z=>(GN.mp z).elim hD (st.disj _ (er.own a m))) e) fun o' e' q=> ?_;refine qK t fun es ep hd=> ?_;exact⟨o',e',es,ep,q.dict hd⟩
set_option tactic.hygienic true in
theorem iL{t:It}{I:List Addr}{a:Addr}{target:Expr}{v:Value}{Q:Unit→Shared→Prop}{E:Value→Shared→Prop}(ok:c.Ok)(st:aQ c ρ σ s.heap)(g:Gd c s.heap)(i:bC s.heap ρ t I a)
 (h: ∀s',ad c I ρ s ρ σ s'→bC s'.heap ρ t I a→Q () s'):IG (model c.prog c.w) A (letOwnedTupleGo target (.ref a) v) Q E s:=by
 have now:Q () s:=h s (ad.refl st g) i;have ip:=i.priv.1;have key: ∀(o:Obj) (n:String) (vs:Array Value),s.heap.get? a=some o→o.cls= .type n→o.data= .fields vs→
  (∀b,vs[0]? =some (rawInt b)→["enumerate","zip","dict_itemiterator","dict_reverseitemiterator","odict_iterator","itertools.zip_longest","itertools.pairwise"].contains n=true→0<vs.size→Q () {s with heap:=s.heap.update a (Kg (·.setIfInBounds 0 .none))})→
  IG (model c.prog c.w) A (letOwnedTupleGo target (.ref a) v) Q E s:=by
  intro o n vs ho hc hd hq;unfold letOwnedTupleGo
  cases target<;>first
   |exact II now
   |(cases v<;>first
    |exact II now
    |(rename_i b
      refine IH (wpAny_load ho ?_);rw[hc,hd];dsimp only
      split
      ·rename_i hcond;refine oA (Gg.mp hcond) fun c1 c2=> ?_
       have c2':vs[0]? =some (rawInt (b:Nat)):=by simpa using c2
       have hsz:0<vs.size:=(Ge.mp c2').1;refine IH (IN ?_);unfold updateField;refine IH (wpAny_load ho ?_);rw[hd];dsimp only;refine cX hsz ?_;exact wpAny_update ho (hq _ c2' c1 hsz)
      ·exact II now))
 cases i with
 |seq e r p=>
  refine bW (id e) fun o ho hc hd=> ?_;refine key o _ _ ho hc hd fun b _ q _=> ?_
  exact absurd q (by decide)
 |lst e r p=>
  refine bW (id e) fun o ho hc hd=> ?_;refine key o _ _ ho hc hd fun b _ q _=> ?_
  exact absurd q (by decide)
 |rng e p=>
  refine key _ _ _ e rfl rfl fun b _ q _=> ?_
  exact absurd q (by decide)
 |revl e r p=>
  refine bW (id e) fun o ho hc hd=> ?_;refine key o _ _ ho hc hd fun b _ q _=> ?_
  exact absurd q (by decide)
 |revt e r p=>
  refine key _ _ _ e rfl rfl fun b _ q _=> ?_
  exact absurd q (by decide)
 |zip e1 H e2 e3 l ts p1 p2 p3 n1 n2 n3 n4 n5 n6=>
  refine key _ _ _ e1 rfl rfl fun b _ q _=> ?_;rename_i TI TO f0 f1 ws m m' I' as
  have S:ad c [a] ρ s ρ σ {s with heap:=s.heap.update a (Kg (·.setIfInBounds 0 .none)),toks:=s.toks}:=ad.same (t:=s.toks) ok st g p1 (Kd ..)
  have off:=ad.off (ρ:=ρ) (D:=[a]) (by simpa using p1)
  have notin: ∀b,b≠a→b∈ρ.p→b∉[a]++ρ.r:=fun b hb hp z=>(GN.mp z).elim (fun z=>hb (GP.mp z)) (st.disj b hp)
  refine h _ (S.wider (by exact HE ..)) ?_
  exact .zip (f0:= .none) (f1:=f1) (J' _ e1 rfl) (.inl rfl) (S.ext.get (notin _ (Ne.symm n1) p2) e2 rfl) (S.ext.get (notin _ (Ne.symm n2) p3) e3 rfl) l
   (ad.itrs st (by simpa using p1) (fun y m' z=>n4 (by rw[GP.mp z]at m';exact m')) S ts) p1 p2 p3 n1 n2 n3 n4 n5 n6
 |enum e H t p n=>
  refine key _ _ _ e rfl rfl fun b _ q _=> ?_
  have S:ad c [a] ρ s ρ σ {s with heap:=s.heap.update a (Kg (·.setIfInBounds 0 .none)),toks:=s.toks}:=ad.same (t:=s.toks) ok st g p (Kd ..)
  refine h _ (S.wider (by exact HE ..)) ?_
  exact .enum (f0:= .none) (J' _ e rfl) (.inl rfl) (ad.itr st (by simpa using p) (fun y m' z=>n (by rw[GP.mp z]at m';exact m')) S t) p n
theorem aZ{q:Str→Bool}{x:Str}(l:List (Str×V)):(l.filter fun p=>q p.1).lookup x=if q x then l.lookup x else none:=by
 induction l with
 |nil=>simp
 |cons ny l ih=>
  obtain⟨n,y⟩:=ny
  by_cases hn:x=n
  ·subst hn
   by_cases hq:q x=true
   ·simp[Hv,hq,G5]
   ·simp only[Bool.not_eq_true]at hq;simp[Hv,hq];rw[hq]at ih;simpa using ih
  ·have hb:(x==n)=false:=beq_eq_false_iff_ne.mpr hn
   by_cases hq:q n=true
   ·simp[Hv,hq,G5,hb,ih]
   ·simp only[Bool.not_eq_true]at hq;simp[Hv,hq,G5,hb,ih]
mutual
noncomputable def ic(L:Nat):V→Bool
 | .lst k=>decide (k<L)
 | .inst _ k=>decide (k<L)
 | .tup l=>cy L l
 |_=>true
noncomputable def cy(L:Nat):List V→Bool
 |[]=>true
 |x::l=>ic L x&&cy L l
end
noncomputable def bu(L:Nat):aa→Bool
 | .lst l=>cy L l
 | .dct fs=>cy L (fs.map (·.2))
 | .ro l _ _=>cy L l
noncomputable def jw(L:Nat)(t:It)(en:En)(σ:Sg):En×Sg:=if σ.length≤L then(en,σ)else match t with
 | .rng .. =>if((σ.take L).all (bu L)&&cy L (en.fre.map (·.2)))=true then(⟨en.names,en.own.filter (fun p=>(en.own.lookup p.1).any (ic L)),en.fre,en.code⟩,σ.take L)else(en,σ)
 |_=>(en,σ)
noncomputable abbrev Pl.cut(ρ:Pl)(L:Nat):Pl:=⟨ρ.r.take L,ρ.p⟩
theorem Pl.cut_free(f:ρ.free a):(ρ.cut L).free a:=⟨fun m=>f.1 (Hw m),f.2⟩
theorem R.cutB:(∀{x v},R h ρ x v→ic L x=true→R h (ρ.cut L) x v)∧(∀{l vs},Rs h ρ l vs→cy L l=true→Rs h (ρ.cut L) l vs):=
 have tk {k a} (e:ρ.r[k]? =some a) (w:decide (k<L)=true):(ρ.cut L).r[k]? =some a:=(List.getElem?_take_of_lt (of_decide_eq_true w)).trans e
 R.both (P:=fun x v=>ic L x=true→R h (ρ.cut L) x v) (Q:=fun l vs=>cy L l=true→Rs h (ρ.cut L) l vs) (fun u_=> .val) (fun u_=> .int) (fun u_=> .str) (fun e f u_ r w=> .tup e (Pl.cut_free f) (r w)) (fun e w=> .lst (tk e w))
  (fun e f d w=> .inst e (Pl.cut_free f) (tk d w)) (fun e f u_=> .rng e (Pl.cut_free f)) (fun u_=> .nil) fun u_ r u_ rs w=> .cons (r (Gg.mp w).1) (rs (Gg.mp w).2)
theorem R.cut(w:ic L x=true)(r:R h ρ x v):R h (ρ.cut L) x v:=R.cutB.1 r w
theorem Rs.cut(w:cy L l=true)(r:Rs h ρ l vs):Rs h (ρ.cut L) l vs:=R.cutB.2 r w
theorem Rf.cut{l:List (Str×V)}{es:List DictEntry}(w:cy L (l.map (·.2))=true)(r:Rf h ρ l es):Rf h (ρ.cut L) l es:=
 Rf.rec (motive:=fun l es u_=>cy L (l.map (·.2))=true→Rf h (ρ.cut L) l es) (fun u_=> .nil) (fun e r u_ ih w=> .cons e (R.cut (Gg.mp w).1 r) (ih (Gg.mp w).2)) r w
theorem tR:cy L l=true→ ∀x∈l,ic L x=true:=by
 induction l with
 |nil=>exact fun u_ u_ m=>nomatch m
 |cons y l ih=>
  intro w x m
  have w:=Gg.mp (show(ic L y&&cy L l)=true from w)
  cases m with
  |head=>exact w.1
  |tail _ m=>exact ih w.2 x m
theorem rE{x:Str}{v:V}{l:List (Str×V)}:l.lookup x=some v→v∈l.map (·.2):=by
 induction l with
 |nil=>exact fun h=>no h
 |cons yw l ih=>
  intro h;rw[G5]at h
  cases q:x==yw.1 with
  |true=>rw[q]at h;obtain rfl:=IF h;exact .head _
  |false=>rw[q]at h;exact .tail _ (ih h)
theorem aQ.cut(t:aQ c ρ σ h)(w:(σ.take L).all (bu L)=true):aQ c (ρ.cut L) (σ.take L) h where
 nodup:=(List.take_sublist L ρ.r).nodup t.nodup
 len:=by rw[HF,HF,t.len]
 at_:=fun k a l h1 h2=>by
  have hl:=GX.mp w l (Hn h2)
  have hk:k<L:=by
   have:=(GZ.mp h2).1;rw[HF]at this;exact lts ‹_›
  rw[List.getElem?_take_of_lt hk]at h1 h2
  have:=t.at_ k a l h1 h2
  cases l with
  |lst l=>refine bf this fun vs n e r=> ?_;exact⟨vs,n,e,r.cut hl⟩
  |dct l=>refine l_ this fun es n sl e r=> ?_;exact⟨es,n,sl,e,r.cut hl⟩
  |ro l vs n=>exact⟨this.1,this.2.cut hl⟩
 low:=fun a m=>t.low a (Hw m)
 plow:=t.plow
 disj:=fun a m n=>t.disj a m (Hw n)
set_option tactic.hygienic true in
theorem kl.cut{h:Heap}{L:Nat}{x:Option V}{w:Option Value}(o:kl h ρ x w):kl h (ρ.cut L) (if x.any (ic L)then x else none) w:=by
 cases o with
 |no=>exact .no
 |so r=>
  rename_i x v
  cases q:ic L x with
  |true=>rw[if_pos (by simpa using q)];exact .so (r.cut q)
  |false=>rw[if_neg (by simp[q])];exact .no
theorem a_.cut(e:a_ h ρ env en)(w:cy L (en.fre.map (·.2))=true):a_ h (ρ.cut L) env ⟨en.names,en.own.filter (fun p=>(en.own.lookup p.1).any (ic L)),en.fre,en.code⟩ where
 kind:=e.kind
 names:=e.names
 gl:=e.gl
 bi:=e.bi
 lo:=aK e.lo fun m n k=>⟨m,n,fun x hx=>by rw[show G3 x _=_ from aZ (q:=fun z=>(en.own.lookup z).any (ic L)) en.own];exact(k x hx).cut⟩
 ce:=fun x hx=>bS (e.ce x hx) fun a w h1 h2 h4 h3=>⟨a,w,h1,h2,h4,by rw[show G3 x _=_ from aZ (q:=fun z=>(en.own.lookup z).any (ic L)) en.own];exact h3.cut⟩
 fr:=fun x hx=>dC (e.fr x hx) fun a w' h1 h2 h3=>⟨a,w',h1,h2,by
  have:=h3.cut (L:=L)
  cases q:en.fre.lookup x with
  |none=>exact .no
  |some v=>
   rw[q,if_pos (by simpa using tR w v (rE q))]at this
   exact this⟩
 out:=e.out
 ap:=e.ap
 cd:=e.cd
theorem vq(T:bo c env KW KN ρ σ s)(hL:KW.r.length≤L)(K3:At c A env en ρ σ s d)(i:bC s.heap ρ t I a):
 ∃KD,bo c env KW KN KD (jw L t en σ).2 s∧At c A env (jw L t en σ).1 KD (jw L t en σ).2 s d∧bC s.heap KD t I a:=by
 unfold jw
 by_cases h1:σ.length≤L
 ·rw[if_pos h1];exact⟨ρ,T,K3,i⟩
 rw[if_neg h1]
 cases t with
 |rng=>
  cases h2:((σ.take L).all (bu L)&&cy L (en.fre.map (·.2)))with
  |false=>simp only[h2,Gk,if_false];exact⟨ρ,T,K3,i⟩
  |true=>
   simp only[h2,if_true];refine oA (Gg.mp h2) fun h3 h4=> ?_;have st:=K3.st.cut h3
   cases i with
   |rng i1 i2=>exact⟨ρ.cut L,⟨⟨List.prefix_take_iff.mpr ⟨T.st.pre,hL⟩,fun a m=>T.st.new a (Hw m),T.st.pnew,T.st.pold,st,T.st.ext,T.st.rest,T.st.gd⟩,T.fo⟩,⟨K3.ok,st,K3.gd,K3.er.cut h4,⟨K3.room.hand,K3.room.depth,K3.room.units,K3.room.frames⟩⟩,.rng i1 i2⟩
 |_=>exact⟨ρ,T,K3,i⟩
noncomputable def lX(k:En→Sg→Option aL)(so:aL):Option aL:=match so with
 | .exc _ _ _=>none
 | .ok fl en σ=>match fl with
  | .next=>k en σ
  | .cont=>k en σ
  | .brk=>some (.ok .next en σ)
  | .ret v=>some (.ok (.ret v) en σ)
noncomputable def F_(so:aL):Option aL:=match so with
 | .exc _ _ _=>none
 | .ok fl en σ=>some (.ok fl en σ)
theorem nj{k:En→Sg→Option aL}{o:aL}{f:Flow}(h:lX k so=some o)(p:gj c env ρ s so f s'){N B:Prop}{T:Value→Prop}(k1: ∀K9 KG KD,k K9 KG=some o→bo c env ρ s KD KG s'→a_ s'.heap KD env K9→N)
 (k2:gj c env ρ s o .next s'→B) (k3: ∀v,gj c env ρ s o (.ret v) s'→T v):match(generalizing:=false) f with| .next| .cont=>N| .brk=>B| .ret v=>T v:=by
 cases so with
 |exc=>exact p.elim
 |ok fl K9 KG=>
  obtain⟨KD,S,er,r⟩:=p
  cases r with
  |next=>exact k1 K9 KG KD h S er
  |cont=>exact k1 K9 KG KD h S er
  |brk=>obtain rfl:=IF h;exact k2 ⟨KD,S,er,.next⟩
  |ret q=>obtain rfl:=IF h;exact k3 _ ⟨KD,S,er,.ret q⟩
theorem mx{k:En→Sg→Option aL}{o:aL}{e:Value}(h:lX k so=some o)(p:iB c env ρ s so e s'):P:=by
 cases so with
 |exc=>exact no h
 |ok=>exact p.elim
theorem Dc{o:aL}(h:F_ so=some o)(k: ∀f en σ,so= .ok f en σ→o= .ok f en σ→P):P:=by
 cases so with
 |exc=>exact no h
 |ok f en σ=>exact k f en σ rfl (IF h).symm
noncomputable def gw(L:Nat)(g:uM)(fs:eD)(target:Expr)(body orelse:List Stmt):Nat→En→Sg→It→Option aL
 |0,_,_,_=>none
 |n+1,en,σ,t=>(ay σ t).bind fun r=>match r with
  |some p=>(g target en σ p.1).bind fun q=>(fs q.1 q.2 body).bind (lX fun K9 KG=>gw L g fs target body orelse n (jw L p.2 K9 KG).1 (jw L p.2 K9 KG).2 p.2)
  |none=>(fs en σ orelse).bind F_
theorem nv{fs:eD}(h1:ay σ t=some (some (x,t')))(h2:g target en σ x=some (KS,KC))(h3:fs KS KC body=some so):
 gw L g fs target body orelse (n+1) en σ t=lX (fun K9 KG=>gw L g fs target body orelse n (jw L t' K9 KG).1 (jw L t' K9 KG).2 t') so:=by
 show(ay σ t).bind _=_;rw[h1];show(g target en σ x).bind _=_;rw[h2];show(fs KS KC body).bind _=_;rw[h3];rfl
theorem oW{fs:eD}{f:Fl}(h1:ay σ t=some none)(h2:fs en σ orelse=some (.ok f KS KC)):gw L g fs target body orelse (n+1) en σ t=some (.ok f KS KC):=by
 show(ay σ t).bind _=_;rw[h1];show(fs en σ orelse).bind _=_;rw[h2];rfl
theorem EY{fs:eD}{o:aL}(e:gw L g fs target body orelse (n+1) en σ t=some o)
 (k1: ∀x t' KS KC so,ay σ t=some (some (x,t'))→g target en σ x=some (KS,KC)→fs KS KC body=some so→lX (fun K9 KG=>gw L g fs target body orelse n (jw L t' K9 KG).1 (jw L t' K9 KG).2 t') so=some o→P)
 (k2: ∀f KS KC,ay σ t=some none→fs en σ orelse=some (.ok f KS KC)→o= .ok f KS KC→P):P:=
 ae e fun r hn e=>by
  cases r with
  |none=>exact ae e fun so hs w=>Dc w fun f KS KC h1 h2=>k2 f KS KC hn (h1▸hs) h2
  |some p=>exact ae e fun q hg w=>ae w fun so hs w=>k1 _ _ _ _ so hn hg hs w
variable (c)in
noncomputable def F8(A:Around)(env:Env)(d:Nat)(G:Nat→En→Sg→It→Option aL)(o:aL)(KW:Pl)(KN:Shared)(a:Addr)(n:Nat)(s':Shared):Prop:=
 ∃en σ ρ t I,G n en σ t=some o∧bo c env KW KN ρ σ s'∧At c A env en ρ σ s' d∧bC s'.heap ρ t I a∧ ∀b∈I,KN.heap.objs.size≤b
theorem xF{fs:eD}{o:aL}(hg:zF c d g)(hs:gv c d fs)(tp:o5 A env)(n:Nat)(e:gw L g fs target body orelse n en σ t=some o)(hL:KW.r.length≤L)(K2:bo c env KW KN ρ σ s)
 (K3:At c A env en ρ σ s d) (i:bC s.heap ρ t I a) (new: ∀b∈I,KN.heap.objs.size≤b):
 codeAny (model c.prog c.w) A (.forLoop target (.ref a) body orelse env) (fun r s'=>match r with| .ok f=>gj c env KW KN o f s'| .error e=>E e s') s:=by
 refine codeAny_forLoop_any (F8 c A env d (gw L g fs target body orelse) o KW KN a) ?_ n ⟨en,σ,ρ,t,I,e,K2,K3,i,new⟩;rintro n s ⟨en,σ,ρ,t,I,e,K2,K3,i,new⟩;have ip:=i.priv.1
 cases n with
 |zero=>exact no e
 |succ n=>
  refine EY e (fun x t' KS KC so hn LA hso e=> ?_) fun f KS KC hn ho e=> ?_
  ·refine It.pull K3.room.hand K3.ok K3.st K3.gd i hn fun w KF KE rv Lq=> ?_;have KR:=K3.plain ip i.objs KE;refine iL KR.ok KR.st KR.gd Lq fun KI KH Lh=> ?_;have K7:=KR.plain ip Lq.objs KH;refine hg LA K7 (ad.R ip KH rv) fun Ls K8 KT LK=> ?_;have Ld:=K7.stepS KT LK;have LQ:=((K2.plain K3.st K3.er i.objs KE new).plain KR.st KR.er Lq.objs KH new).trans KT;have LU:=ad.itr K7.st K7.er.own (aW.own Lh.objs K7.er) KT.st Lh;refine IJ (hs hso Ld tp) (fun f LH p=>nj e p (fun K9 KG Lz hk K4 LV=> ?_) (fun p=>p.trans LQ) fun v p=>p.trans LQ) fun ev LH p=>mx e p;refine bW (vq (LQ.trans K4) hL (Ld.stepS K4 LV) (ad.itr Ld.st Ld.er.own (aW.own LU.objs Ld.er) K4.st LU)) fun LY T₅ LW i₅=> ?_;exact⟨n,HY _,_,_,LY,t',I,hk,T₅,LW,i₅,new⟩
  ·subst e;refine It.pull0 K3.room.hand K3.ok K3.st K3.gd i hn fun KF KE=> ?_;exact IJ (hs ho (K3.plain ip i.objs KE) tp) (fun f' KI p=>p.trans (K2.plain K3.st K3.er i.objs KE new)) fun ev KI p=>p.elim
noncomputable def dt(e:Expr):Bool:= !e.ctorIdx.beq 7
theorem jr(h:dt e=true)(x:Value):foldedSetIterable e env x=pure x:=by
 cases e<;>first|rfl|exact bM h
noncomputable abbrev az:Nat:=4096
noncomputable def lB(iv:iR)(g:uM)(fs:eD)(en:En)(σ:Sg)(target iter:Expr)(body orelse:List Stmt):Option aL:=if dt iter=true then(iv en σ iter).bind fun r=>match r with
 | .ok x KC=>(aC KC x).bind fun t=>gw KC.length g fs target body orelse az en KC t
 | .exc _ _=>none
 else none
theorem zv{iv:iR}{fs:eD}{o:aL}(e:lB iv g fs en σ target iter body orelse=some o)
 (k: ∀x KC t,dt iter=true→iv en σ iter=some (.ok x KC)→aC KC x=some t→gw KC.length g fs target body orelse az en KC t=some o→P):P:=
 bI e fun hn e=>ae e fun r hr e=>by
  cases r with
  |exc=>exact no e
  |ok x KC=>exact ae e fun t ht e=>k x KC t hn hr ht e
theorem yZ{iv:iR}{fs:eD}{o:aL}(hi:ig c d iv)(hg:zF c d g)(hs:gv c d fs)(e:lB iv g fs en σ target iter body orelse=some o)(a:At c A env en ρ σ s d)(tp:o5 A env):
 eC c A (exec (.For target iter body orelse pos) env) env ρ s o:=by
 refine IJ (E:=fun u_ u_=>False) ?_ (fun u_ u_ z=>z) fun u_ u_ z=>z.elim;refine zv e fun x KC t hns hx ht e=> ?_
 refine wpAny_For (au.go (hi hx a) (fun x' KB q w KF KQ KE KM=> ?_) (fun u_ u_ q=>by exact iQ q)) (jr hns)
 refine jP q fun zz1 zz2=> ?_;subst zz1;subst zz2;refine aK KM fun I KM LJ=> ?_;refine dJ a.ok KE.sto KE.gd ht KM fun KX J b KI KH Lh LR=> ?_;refine I5 (xF (E:=fun u_ u_=>False) hg hs tp az e (KE.sto.len▸KE.pre.length_le) ((KE.trans KH).toS a.st a.er) ((a.step KE).step KH) Lh fun z m=>(LR z m).elim (LJ z) fun q=>HV KE.rest.hsize q) fun r s' z=> ?_
 cases r with
 |ok f=>exact z
 |error ev=>exact z.elim
noncomputable def jv(g:lu)(fs:eD)(test:Expr)(body orelse:List Stmt):Nat→En→Sg→Option aL
 |0,_,_=>none
 |n+1,en,σ=>(g en σ test).bind fun r=>match r with
  | .exc _ _=>none
  | .ok b KC=>match b with
   |true=>(fs en KC body).bind (lX fun K9 KG=>jv g fs test body orelse n K9 KG)
   |false=>(fs en KC orelse).bind F_
theorem Cj{g:lu}{fs:eD}{o:aL}(e:jv g fs test body orelse (n+1) en σ=some o)
 (k1: ∀KC so,g en σ test=some (.ok true KC)→fs en KC body=some so→lX (fun K9 KG=>jv g fs test body orelse n K9 KG) so=some o→P)
 (k2: ∀KC f K9 KG,g en σ test=some (.ok false KC)→fs en KC orelse=some (.ok f K9 KG)→o= .ok f K9 KG→P):P:=
 ae e fun r ht e=>by
  cases r with
  |exc=>exact no e
  |ok b KC=>cases b with
   |true=>exact ae e fun so hs w=>k1 KC so ht hs w
   |false=>exact ae e fun so hs w=>Dc w fun f K9 KG h1 h2=>k2 KC f K9 KG ht (h1▸hs) h2
variable (c)in
noncomputable def Bc(A:Around)(env:Env)(d:Nat)(G:Nat→En→Sg→Option aL)(o:aL)(KW:Pl)(KN:Shared)(n:Nat)(s':Shared):Prop:= ∃en σ ρ,G n en σ=some o∧bo c env KW KN ρ σ s'∧At c A env en ρ σ s' d
theorem tI{g:lu}{fs:eD}{o:aL}(hg:eO c d g)(hs:gv c d fs)(e:jv g fs test body orelse az en σ=some o)(a:At c A env en ρ σ s d)(tp:o5 A env):eC c A (exec (.While test body orelse pos) env) env ρ s o:=by
 refine IJ (E:=fun u_ u_=>False) ?_ (fun u_ u_ z=>z) fun u_ u_ z=>z.elim;refine wpAny_While ?_
 refine I5 (R:=fun r s'=>match r with| .ok f=>gj c env ρ s o f s'| .error e=>False) ?_ fun r s' z=> ?_
 ·refine codeAny_whileLoop (Bc c A env d (jv g fs test body orelse) o ρ s) ?_ az ⟨en,σ,ρ,e,(af.refl a.st a.gd).toS a.st a.er,a⟩;rintro n KF ⟨en,σ,KQ,e,KE,KR⟩
  cases n with
  |zero=>exact no e
  |succ n=>
   refine Cj e (fun KG so ht hso e=> ?_) fun KG f K9 KZ ht ho e=> ?_
   ·refine au.go (hg ht KR) (fun x' KB q w KI KX KH K'=> ?_) (fun u_ u_ q=>by exact iQ q)
    refine jP q fun zz1 zz2=> ?_;subst zz1;subst zz2;subst K';have Ln:=KE.trans (KH.toS KR.st KR.er);rw[if_pos rfl];exact IJ (hs hso (KR.step KH) tp) (fun f LH p=>nj e p (fun K9 KG Lz hk K4 LV=>⟨n,HY _,K9,KG,Lz,hk,Ln.trans K4,(KR.step KH).stepS K4 LV⟩) (fun p=>p.trans Ln) fun v p=>p.trans Ln) fun ev LH p=>mx e p
   ·subst e
    refine au.go (hg ht KR) (fun x' KB q w KI KX KH K'=> ?_) (fun u_ u_ q=>by exact iQ q)
    refine jP q fun zz1 zz2=> ?_;subst zz1;subst zz2;subst K'
    rw[if_neg (by decide)]
    exact IJ (hs ho (KR.step KH) tp) (fun f' KI p=>p.trans (KE.trans (KH.toS KR.st KR.er))) fun ev KI p=>p.elim
 ·cases r with
  |ok f=>exact z
  |error ev=>exact z.elim
end
section
variable {env:Env}{d:Nat}
theorem pB{x:Str}{Q:Unit→Shared→Prop}(a:At c A env en ρ σ s d)(hl:en.names.lookup x=some .local)(r:R s.heap ρ y v)
 (h: ∀s',ad c [env.locals] ρ s ρ σ s'→cq [env.locals] s.heap s'.heap→a_ s'.heap ρ env (en.set x y)→Q () s'):IG (model c.prog c.w) A (storeName env x v) Q E s:=by
 have hkind:env.kindOf x=en.names.lookup x:=by rw[←a.er.names];rfl
 refine aK a.er.lo fun m hn hm=> ?_
 refine wpAny_storeName_local (hkind.trans hl) hn (fun h' hn' hs'=> ?_) (by rw[a.er.kind];rfl)
 have S:ad c [env.locals] ρ s ρ σ {s with heap:=h',toks:=s.toks+1}:=ad.same (t:=s.toks+1) a.ok a.st a.gd a.er.out hs'
 have dp: ∀b∈[env.locals],b∈ρ.p:=by simpa using a.er.out
 refine h _ S (fun b mb o e hd=> ?_) ⟨a.er.kind,a.er.names,a.er.gl,a.er.bi,⟨_,hn',fun z hz=> ?_⟩,fun z hz=> ?_,fun z hz=> ?_,a.er.out,a.er.ap,a.er.cd⟩
 ·have q:b=env.locals:=GP.mp mb;subst q;refine iC hn' fun o' es ep ho' hd' u_=> ?_;exact⟨o',ho',es,ep,hd'⟩
 ·show kl h' ρ (G3 z ((x,y)::en.own)) _;rw[cP]
  split
  ·exact .so (ad.R dp S r)
  ·exact(hm z hz).mono (ad.off dp) S.ext S.le
 ·have hzx:z≠x:=fun q=>by subst q;rw[show(en.set z y).names=en.names from rfl,hl]at hz;cases IF hz
  refine bS (a.er.ce z hz) fun b w h1 h2 h3 h4=> ?_;refine⟨b,w,h1,S.ext.cell (fun q=>(GN.mp q).elim (fun q=>dO hn h2 (GP.mp q)) (a.st.cell h2)) h2,h3,?_⟩;show kl h' ρ (G3 z ((x,y)::en.own)) _;rw[cP,if_neg hzx];exact h4.mono (ad.off dp) S.ext S.le
 ·refine dC (a.er.fr z hz) fun b w h1 h2 h4=> ?_;exact⟨b,w,h1,S.ext.cell (fun q=>(GN.mp q).elim (fun q=>dO hn h2 (GP.mp q)) (a.st.cell h2)) h2,h4.mono (ad.off dp) S.ext S.le⟩
noncomputable def dq:Nat→uM
 |0,_,_,_,_=>none
 |n+1,t,en,σ,y=>(io t).elim ((j9 t).bind fun p=>(eN y).bind fun l=>if al p.1.1=true then fz (dq n) p.1.1 en σ l else none)
  fun p=>if(en.names.lookup p.1.1==some .local)=true then some (en.set p.1.1 y,σ)else none
theorem At.local{env:Env}(a:At c A env en ρ σ s d)(x:ad c [env.locals] ρ s KD KB s')(fo:cq [env.locals] s.heap s'.heap)(er:a_ s'.heap KD env en'):At c A env en' KD KB s' d:=
 ⟨a.ok,x.sto,x.gd,er,a.room.monoD a.st x fo⟩
theorem af.foL(x:af c ρ s KD KB s')(a:At c A env en ρ σ s d):cq [env.locals] s.heap s'.heap:=x.fo a.st (by simpa using a.er.out)
variable (c)in
noncomputable def B_(d:Nat)(g:uM):Prop:= ∀{A:Around} {env:Env} {en en':En} {ρ:Pl} {σ KB:Sg} {s:Shared} {t:Expr} {y:V} {v:Value} {Q:Unit→Shared→Prop} {E:Value→Shared→Prop},g t en σ y=some (en',KB)→At c A env en ρ σ s d→R s.heap ρ y v→
 (∀KD s',ad c [env.locals] ρ s KD KB s'→cq [env.locals] s.heap s'.heap→a_ s'.heap KD env en'→Q () s')→IG (model c.prog c.w) A (assign t env v) Q E s
theorem rh(hg:B_ c d g): ∀{en en':En} {ρ:Pl} {σ KB:Sg} {s:Shared} {l:List V} {vs:List Value} {Q:Unit→Shared→Prop} {E:Value→Shared→Prop},fz g es en σ l=some (en',KB)→At c A env en ρ σ s d→Rs s.heap ρ l vs→
 (∀KD s',ad c [env.locals] ρ s KD KB s'→cq [env.locals] s.heap s'.heap→a_ s'.heap KD env en'→Q () s')→IG (model c.prog c.w) A (assignInOrder (es.map fun t=>assign t env) vs) Q E s:=by
 induction es with
 |nil=>
  intro en en' ρ σ KB s l vs Q E e a r h
  cases l with
  |cons=>exact no e
  |nil=>cases IF e;obtain rfl:=r.nilQ;exact assignInOrder_nil (h _ _ (ad.refl a.st a.gd) ((af.refl a.st a.gd).foL a) a.er)
 |cons t ts ih=>
  intro en en' ρ σ KB s l vs Q E e a r h
  cases l with
  |nil=>exact no e
  |cons y ys=>
   refine ae e fun p h1 w=> ?_
   cases r using Rs.consE with
   |cons r rs=>exact assignInOrder_cons (hg h1 a r fun KQ KF KE Mx LO=>ih w (a.local KE Mx LO) (ad.Rs (dB a.er.out) KE rs) fun KX KI KH Mc LC=>h _ _ (KE.trans KH) (Mx.trans Mc) LC)
theorem m5(n:Nat):B_ c d (dq n):=by
 induction n with
 |zero=>
  intro A env en en' ρ σ KB s t y v Q E e;exact no e
 |succ n ih=>
  intro A env en en' ρ σ KB s t y v Q E e a r h
  cases t with
  |Name x p=>
   exact bI (show(if(en.names.lookup x==some .local)=true then some (en.set x y,σ)else none)=some (en',KB)from e) fun hx w=>by
    cases IF w
    exact assign_Name (pB a (by simpa using hx) r fun s' S fo er=>h ρ s' S fo er)
  |Tuple es k p=>
   refine ae (show((eN y).bind fun l=>if al es=true then fz (dq n) es en σ l else none)=some (en',KB)from e) fun l hl w=>bI w fun hns w=> ?_
   obtain rfl:=eJ hl;exact mh hns (nu w) a r fun KF vs KE rs=>rh ih w (a.step KE) rs fun KX KI KH Mc LC=>h _ _ (KE.D.trans KH) ((KE.foL a).trans Mc) LC
  |_=>exact no e
noncomputable def bL(g:lu)(en:En):Sg→List Expr→Option (Bool×Sg)
 |σ,[]=>some (true,σ)
 |σ,e::es=>(g en σ e).bind fun r=>match r with
  | .exc _ _=>none
  | .ok b KC=>match b with
   |true=>bL g en KC es
   |false=>some (false,KC)
theorem qg{Q:Bool→Shared→Prop}:Q false s→
 IG M A (forIn ifs false fun c r=>if r=true then do let ok←isTrue c env (eval c env);pure (Gu ok)else pure (Gu r)) Q E s:=by
 induction ifs with
 |nil=>exact fun h=>II h
 |cons _ ifs ih=>
  intro h;rw[Hi];exact IH (II (ih h))
theorem ll{g:lu}(hg:eO c d g){Q:Bool→Shared→Prop}: ∀{σ:Sg} {ρ:Pl} {s:Shared},bL g en σ ifs=some (b,KB)→At c A env en ρ σ s d→(∀KD s',af c ρ s KD KB s'→Q b s')→
 IG (model c.prog c.w) A (forIn ifs true fun c r=>if r=true then do let ok←isTrue c env (eval c env);pure (Gu ok)else pure (Gu r)) Q E s:=by
 induction ifs with
 |nil=>
  intro σ ρ s e a h
  cases IF e
  exact II (h _ _ (.refl a.st a.gd))
 |cons x ifs ih=>
  intro σ ρ s e a h;rw[Hi];simp only[if_true]
  refine ae (show((g en σ x).bind _)=some (b,KB)from e) fun r hr e=> ?_
  cases r with
  |exc=>exact no e
  |ok t KC=>
  refine IH (IH (au.go (hg hr a) (fun x' Ll q w KF KQ KE KM=> ?_) (fun u_ u_ q=>by exact iQ q)))
  refine jP q fun zz1 zz2=> ?_;subst zz1;subst zz2;cases KM
  cases t with
  |true=>exact II (ih e (a.step KE) fun KX KI KH=>h _ _ (KE.trans KH))
  |false=>
   cases IF e
   exact II (qg (h _ _ KE))
noncomputable def cE(g:uM)(tr:lu)(f:fP)(target:Expr)(ifs:List Expr)(elt:Expr)(k:Nat):Nat→En→Sg→It→Option Sg
 |0,_,_,_=>none
 |n+1,en,σ,t=>(ay σ t).bind fun r=>match r with
  |none=>some σ
  |some p=>(g target en σ p.1).bind fun q=>(bL tr q.1 q.2 ifs).bind fun b=>match b.1 with
   |true=>(f q.1 b.2 elt).bind fun o=>(uL o).bind fun y=>(cD y.2 k y.1).bind fun Lo=>cE g tr f target ifs elt k n q.1 Lo p.2
   |false=>cE g tr f target ifs elt k n q.1 b.2 p.2
theorem nd(h:ay σ t=some none):cE g tr f target ifs elt k (n+1) en σ t=some σ:=by
 show(ay σ t).bind _=_;rw[h];rfl
theorem ld(h1:ay σ t=some (some (x,t')))(h2:g target en σ x=some (KS,KC))(h3:bL tr KS KC ifs=some (b,KG)):
 cE g tr f target ifs elt k (n+1) en σ t=match(generalizing:=false) b with
  |true=>(f KS KG elt).bind fun o=>(uL o).bind fun y=>(cD y.2 k y.1).bind fun Lo=>cE g tr f target ifs elt k n KS Lo t'
  |false=>cE g tr f target ifs elt k n KS KG t':=by
 show(ay σ t).bind _=_;rw[h1];show(g target en σ x).bind _=_;rw[h2];show(bL tr KS KC ifs).bind _=_;rw[h3]
 cases b<;>rfl
theorem nw{Lo:Sg}(h1:ay σ t=some (some (x,t')))(h2:g target en σ x=some (KS,KC))(h3:bL tr KS KC ifs=some (true,KG))(h4:f KS KG elt=some (.ok y KZ))(h5:cD KZ k y=some Lo):
 cE g tr f target ifs elt k (n+1) en σ t=cE g tr f target ifs elt k n KS Lo t':=by
 rw[ld h1 h2 h3];show(f KS KG elt).bind _=_;rw[h4];show(cD KZ k y).bind _=_;rw[h5];rfl
theorem Dv{LD:Sg}(e:cE g tr f target ifs elt k (n+1) en σ t=some LD)(k0:ay σ t=some none→σ=LD→P)
 (k1: ∀x t' KS KC KG y KZ Lo,ay σ t=some (some (x,t'))→g target en σ x=some (KS,KC)→bL tr KS KC ifs=some (true,KG)→f KS KG elt=some (.ok y KZ)→cD KZ k y=some Lo→cE g tr f target ifs elt k n KS Lo t'=some LD→P)
 (k2: ∀x t' KS KC KG,ay σ t=some (some (x,t'))→g target en σ x=some (KS,KC)→bL tr KS KC ifs=some (false,KG)→cE g tr f target ifs elt k n KS KG t'=some LD→P):P:=
 ae e fun r hn e=>by
  cases r with
  |none=>exact k0 hn (IF e)
  |some p=>
   obtain⟨x,t'⟩:=p;refine ae e fun q hg e=>ae e fun b ht e=> ?_;obtain⟨b,KG⟩:=b
   cases b with
   |true=>exact ae e fun o ho e=>ae e fun y hy e=>ae e fun Lo ha e=>k1 _ _ _ _ _ _ _ _ hn hg ht (qB hy▸ho) ha e
   |false=>exact k2 _ _ _ _ _ hn hg ht e
theorem af.fresh{D:List Addr}(x:af c KW KN ρ σ s)(y:ad c D ρ s KD KB s')(k: ∀a∈D,KN.heap.objs.size≤a):af c KW KN KD KB s':=ad.trans' x y fun a m=> .inr (k a m)
variable (c)in
noncomputable def Dh(A:Around)(env:Env)(d:Nat)(G:Nat→En→Sg→It→Option Sg)(LD:Sg)(KW:Pl)(KN:Shared)(a D:Addr)(k:Nat)(n:Nat)(s':Shared):Prop:=
 ∃en σ ρ t I,G n en σ t=some LD∧af c KW KN ρ σ s'∧At c A env en ρ σ s' d∧bC s'.heap ρ t I a∧(∀b∈I,KN.heap.objs.size≤b)∧ρ.r[k]? =some D
theorem oN{D:Addr}(x:ρ.r<+:KD.r)(hk:ρ.r[k]? =some D):KD.r[k]? =some D:=by
 refine oE x fun t q=> ?_;rw[←q,Hc (GZ.mp hk).1];exact hk
theorem uF{LD:Sg}{D:Addr}{R:Result→Shared→Prop}(hg:B_ c d g)(ht:eO c d tr)(hf:bE c d f)(n:Nat)
 (e:cE g tr f target ifs elt k n en σ t=some LD) (K2:af c KW KN ρ σ s) (K3:At c A env en ρ σ s d) (i:bC s.heap ρ t I a) (new: ∀b∈I,KN.heap.objs.size≤b) (newC:KN.heap.objs.size≤env.locals) (hk:ρ.r[k]? =some D)
 (hR: ∀en' KD s',af c KW KN KD LD s'→At c A env en' KD LD s' d→KD.r[k]? =some D→R (.ok .next) s'):
 codeAny (model c.prog c.w) A (.compLoop (.ListComp elt [⟨target,iter,ifs,0⟩] scope pos) 0 (.ref a) (.ref D) env) R s:=by
 refine codeAny_loop rfl (Dh c A env d (cE g tr f target ifs elt k) LD KW KN a D k) ?_ n ⟨en,σ,ρ,t,I,e,K2,K3,i,new,hk⟩;rintro n s ⟨en,σ,ρ,t,I,e,K2,K3,i,new,hk⟩
 show IG _ A ((compTurn (.ListComp elt [⟨target,iter,ifs,0⟩] scope pos) 0 (.ref a) (.ref D) env).onRaise (fun x=>do noteFrame x env;theTreesLotGoes x)) _ _ s
 refine wpAny_noted ?_;rw[compTurn_list]
 ac_rfl
 refine IH (IT ?_);have ip:=i.priv.1
 cases n with
 |zero=>exact no e
 |succ n=>
 have run: ∀{x t' KS KC KG b} {F:Bool→Sem Fin} {Q:Fin→Shared→Prop} {E:Value→Shared→Prop},ay σ t=some (some (x,t'))→g target en σ x=some (KS,KC)→bL tr KS KC ifs=some (b,KG)→
  (∀Ls K8,af c KW KN Ls KG K8→At c A env KS Ls KG K8 d→bC K8.heap Ls t' I a→Ls.r[k]? =some D→IG (model c.prog c.w) A (F b) Q E K8)→
  IG (model c.prog c.w) A (pyNext (.ref a)) (fun r s'=>IG (model c.prog c.w) A (match r with|none=>pure (Fin.done .next)|some v=>letOwnedTupleGo target (.ref a) v>>=fun u_=>assign target env v>>=fun u_=>(forIn ifs true fun c r=>if r=true then do let ok←isTrue c env (eval c env);pure (Gu ok)else pure (Gu r))>>=F) Q E s') E s:=by
  intro x t' KS KC KG b F Q E hn LA htt k;refine It.pull K3.room.hand K3.ok K3.st K3.gd i hn fun w KF KE rv Lq=> ?_;have KR:=K3.plain ip i.objs KE
  ac_rfl
  refine IH (iL KR.ok KR.st KR.gd Lq fun KI KH Lh=> ?_);have K7:=KR.plain ip Lq.objs KH
  ac_rfl
  refine IH (hg LA K7 (ad.R ip KH rv) fun Ls K8 KT Md LK=> ?_);have Ld:=K7.local KT Md LK
  ac_rfl
  refine IH (ll ht htt Ld fun Lz LH K4=> ?_)
  exact k Lz LH ((((K2.fresh KE new).fresh KH new).fresh KT (dB newC)).trans K4) (Ld.step K4) (K4.itr Ld.st (ad.itr K7.st (dB K7.er.out) (fun b m q=>aW.locals Lh.objs K7.er (by rw[GP.mp q]at m;exact m)) KT Lh))
   (oN (((KE.pre.trans KH.pre).trans KT.pre).trans K4.pre) hk)
 refine Dv e (fun hn e=> ?_) (fun x t' KS KC KG y KZ Lo hn LA htt hy happ e=> ?_) fun x t' KS KC KG hn LA htt e=> ?_
 ·subst e
  ac_rfl
  refine IH (It.pull0 K3.room.hand K3.ok K3.st K3.gd i hn fun KF KE=> ?_);exact II (hR en ρ KF (K2.fresh KE new) (K3.plain ip i.objs KE) (oN KE.pre hk))
 ·ac_rfl
  refine IH (run hn LA htt fun Lz LH LI LL LE L5=> ?_);simp only[if_true]
  ac_rfl
  refine IH (IH (au.go (hf hy LL) (fun x' KB q w₅ s₅ LY Lg L0=> ?_) (fun u_ u_ q=>by exact iQ q)))
  refine jP q fun zz1 zz2=> ?_;subst zz1;subst zz2;have LW:=LL.step Lg
  ac_rfl
  refine IH (au.go (kb (A:=A) LW.ok LW.st LW.gd happ (.lst (oN Lg.pre L5)) L0) (fun x' KB q w₆ s₆ ρ₆ LG r₆=> ?_) (fun u_ u_ q=>by exact iQ q))
  refine jP q fun zz1 zz2=> ?_;subst zz1;subst zz2;exact II (II ⟨rfl,n,HY _,KS,Lo,ρ₆,t',I,e,(LI.trans Lg).trans LG,LW.step LG,LG.itr LW.st (Lg.itr LL.st LE),new,oN (Lg.pre.trans LG.pre) L5⟩)
 ·ac_rfl
  refine IH (run hn LA htt fun Lz LH LI LL LE L5=> ?_);simp only[Gk,if_false];exact II ⟨rfl,n,HY _,KS,KG,Lz,t',I,e,LI,LL,LE,new,L5⟩
noncomputable def am(names:List (Str×NameKind))(en:En):List (Str×NameKind):=names.map fun(n,k)=>if(k== .free&&en.names.lookup n==some .cell)=true then(n,.cell)else(n,k)
noncomputable def dY(names:List (Str×NameKind))(en:En):En:=⟨am names en,en.own.filter fun p=>(am names en).lookup p.1==some .cell,en.fre,none⟩
noncomputable def d7(names:List (Str×NameKind))(en:En):Bool:=names.all fun n=>n.2 != .cell&&(n.2 != .local||names.lookup n.1==some .local)&&(n.2 != .free||en.names.lookup n.1==some .cell||en.names.lookup n.1==some .free)
noncomputable def jG(cells:List (Str×Addr)):List (Str×NameKind)→List (Str×Addr)→List (Str×Addr)
 |[],acc=>acc
 |(n,k)::r,acc=>if(k== .free)=true then jG cells r ((n,(cells.lookup n).getD 0)::acc)else jG cells r acc
theorem xW(names:List (Str×NameKind)): ∀(acc:List (Str×Addr)),(∀p∈jG cells names acc,p∈acc∨p.2=(cells.lookup p.1).getD 0)∧(∀p∈acc,p∈jG cells names acc)∧ ∀x,(x,Ke)∈names→ ∃p∈jG cells names acc,p.1=x:=by
 induction names with
 |nil=>exact fun acc=>⟨fun u_ m=> .inl m,fun u_ m=>m,fun u_ m=>nomatch m⟩
 |cons nk r ih=>
  obtain⟨n,k⟩:=nk;intro acc
  rw[show jG cells ((n,k)::r) acc=(if(k== .free)=true then jG cells r ((n,(G3 n cells).getD 0)::acc)else jG cells r acc)from rfl]
  by_cases hk:(k== .free)=true
  ·rw[if_pos hk];refine mN (ih ((n,(cells.lookup n).getD 0)::acc)) fun i1 i2 i3=> ?_;refine⟨fun p m=>(i1 p m).elim (fun q=> ?_) .inr,fun p m=>i2 p (.tail _ m),fun x m=> ?_⟩
   ·cases q with
    |head=>exact .inr rfl
    |tail _ q=>exact .inl q
   ·cases m with
    |head=>exact⟨_,i2 _ (.head _),rfl⟩
    |tail _ q=>exact i3 x q
  ·rw[if_neg hk];refine mN (ih acc) fun i1 i2 i3=> ?_;refine⟨i1,i2,fun x m=> ?_⟩
   cases m with
   |head=>exact absurd (beq_self_eq_true _) hk
   |tail _ q=>exact i3 x q
theorem lL(h: ∀n∈scope.names,n.2= .free→ ∃a,env.cells.lookup n.1=some a):closureFor scope env=pure (jG env.cells scope.names []):=by
 have key: ∀(names:List (Str×NameKind)) (acc:List (Str×Addr)),(∀n∈names,n.2= .free→ ∃a,env.cells.lookup n.1=some a)→
  (forIn names acc fun(x:Str×NameKind) (r:List (Str×Addr))=>if(x.2==Ke)=true then do let a←cellOf env x.1;pure (Gu ((x.1,a)::r))else pure (Gu r))=(pure (jG env.cells names acc):Sem (List (Str×Addr))):=by
  intro names
  induction names with
  |nil=>intro acc _;rfl
  |cons x r ih=>
   intro acc hh;obtain⟨n,k⟩:=x;rw[Hi]
   rw[show jG env.cells ((n,k)::r) acc=(if(k== .free)=true then jG env.cells r ((n,(G3 n env.cells).getD 0)::acc)else jG env.cells r acc)from rfl]
   by_cases hk:(k==Ke)=true
   ·refine oE (hh (n,k) (.head _) (by simpa using hk)) fun a ha=> ?_
    have hc:cellOf env n=pure a:=by unfold cellOf;rw[ha]
    simp only[hk,if_true,hc,pure_bind]
    rw[show(G3 n env.cells).getD 0=a by rw[ha];rfl]
    exact ih _ fun m hm=>hh m (.tail _ hm)
   ·simp only[Bool.not_eq_true]at hk;simp only[hk,Gk,if_false,pure_bind];exact ih _ fun m hm=>hh m (.tail _ hm)
 have:=key scope.names [] h;unfold closureFor
 first
  |exact this
  |(rw[←bind_pure (forIn scope.names [] _)]at this;exact this)
  |(simp only[bind_pure];exact this)
theorem nO{x:Str}:(am names en).lookup x=(names.lookup x).map fun k=>if(k== .free&&en.names.lookup x==some .cell)=true then .cell else k:=by
 induction names with
 |nil=>rfl
 |cons p r ih=>
  obtain⟨n,k⟩:=p
  show G3 x ((if(k== .free&&en.names.lookup n==some .cell)=true then(n,.cell)else(n,k))::am r en)=_
  by_cases hx:x=n
  ·subst hx
   split<;>simp_all [G5]
  ·have hb:(x==n)=false:=beq_eq_false_iff_ne.mpr hx
   have:G3 x ((if(k== .free&&en.names.lookup n==some .cell)=true then(n,Kf)else(n,k))::am r en)=G3 x (am r en):=by
    split<;>simp[G5,hb]
   rw[this,ih];simp[G5,hb]
theorem nR{x:Str}(hm:(x,Ke)∈names):(jG cells names []).lookup x=some ((cells.lookup x).getD 0):=by
 refine mN (xW (cells:=cells) names []) fun i1 i2 i3=> ?_;refine aK (i3 x hm) fun p hp hx=> ?_
 have key: ∀l:List (Str×Addr),(∀p∈l,p.2=(cells.lookup p.1).getD 0)→(∃p∈l,p.1=x)→l.lookup x=some ((cells.lookup x).getD 0):=by
  intro l
  induction l with
  |nil=>rintro _ ⟨p,m,_⟩;cases m
  |cons q l ih=>
   rintro h1 ⟨p,m,e⟩;obtain⟨n,a⟩:=q;rw[G5]
   by_cases hx:x=n
   ·subst hx;have:=h1 (x,a) (.head _);simp only[beq_self_eq_true];exact congrArg some this
   ·have hb:(x==n)=false:=beq_eq_false_iff_ne.mpr hx;rw[hb];refine ih (fun p m=>h1 p (.tail _ m)) ⟨p,?_,e⟩
    rcases GW.mp m with q|q
    ·rw[q]at e;exact absurd e.symm hx
    ·exact q
 exact key _ (fun p m=>(i1 p m).elim (fun q=>by cases q) id) ⟨p,hp,hx⟩
theorem jq{x:Str}(h: ∀n∈names,n.2= .free→ ∃a,cells.lookup n.1=some a)(e:(jG cells names []).lookup x=some a):cells.lookup x=some a:=by
 have hm:=mem_of_lookup e
 have key: ∀(names:List (Str×NameKind)) (acc:List (Str×Addr)),(∀n∈names,n.2= .free→ ∃a,cells.lookup n.1=some a)→(∀p∈acc,cells.lookup p.1=some p.2)→ ∀p∈jG cells names acc,cells.lookup p.1=some p.2:=by
  intro names
  induction names with
  |nil=>intro acc _ h2;exact h2
  |cons q r ih=>
   intro acc h1 h2;obtain⟨n,k⟩:=q
   rw[show jG cells ((n,k)::r) acc=(if(k== .free)=true then jG cells r ((n,(G3 n cells).getD 0)::acc)else jG cells r acc)from rfl]
   by_cases hk:(k==Ke)=true
   ·rw[if_pos hk]
    refine oE (h1 (n,k) (.head _) (by simpa using hk)) fun a ha=> ?_
    refine ih _ (fun m hm=>h1 m (.tail _ hm)) fun p m=> ?_
    rcases GW.mp m with rfl|m
    ·show cells.lookup n=some ((cells.lookup n).getD 0)
     rw[show cells.lookup n=some a from ha];rfl
    ·exact h2 p m
   ·rw[if_neg hk];exact ih _ (fun m hm=>h1 m (.tail _ hm)) h2
 exact key names [] h (fun p m=>by cases m) _ hm
theorem a_.frees(er:a_ h ρ env en)(hf: ∀n∈scope.names,n.2= .free→en.names.lookup n.1=some .cell∨en.names.lookup n.1=some .free): ∀n∈scope.names,n.2= .free→ ∃a,env.cells.lookup n.1=some a:=fun n m k=>by
 rcases hf n m k with q|q
 ·refine bf (er.ce _ q) fun a w h1 u_=> ?_;exact⟨a,h1⟩
 ·refine bf (er.fr _ q) fun a w h1 u_=> ?_;exact⟨a,h1⟩
theorem fF(h:d7 names en=true):(∀n∈names,n.2≠ .cell)∧(∀n∈names,n.2= .local→names.lookup n.1=some .local)∧ ∀n∈names,n.2= .free→en.names.lookup n.1=some .cell∨en.names.lookup n.1=some .free:=by
 have:=GX.mp h;refine⟨fun n m q=> ?_,fun n m q=> ?_,fun n m q=> ?_⟩
 ·have:=this n m;simp[q]at this
 ·have:=this n m;simp[q]at this;exact this
 ·have:=this n m;simp[q]at this;exact this
theorem wN(ok:c.Ok)(a:At c A env en ρ σ s d)(hk:scope.kind= .function)(ho:d7 scope.names en=true)(hn:h'.Ns s.heap.objs.size fun x=>(([]:List (Str×Value)).reverse).lookup x)
 (sb:Ka s.heap.objs.size (s.heap.push {cls:= .type "dict",data:= .dict #[]}) h'):
 af c ρ s ⟨ρ.r,s.heap.objs.size::ρ.p⟩ σ {s with heap:=h',toks:=s.toks+0}∧
  a_ h' ⟨ρ.r,s.heap.objs.size::ρ.p⟩ {newEnv scope s.heap.objs.size env.globals (jG env.cells scope.names []) env.qual none .none (some env) builtinsNs with scope:=relabel scope env} (dY scope.names en):=by
 refine mN (fF ho) fun o1 o2 o3=> ?_
 have hz:h'.objs.size=s.heap.objs.size+1:=by rw[sb.1,J9]
 have S:af c ρ s ⟨ρ.r,s.heap.objs.size::ρ.p⟩ σ {s with heap:=h',toks:=s.toks+0}:=by
  refine ad.write ok a.st a.gd (by exact G7 _) (fun b o u_ e=> ?_) (by rw[hz];exact H0 _) (fun b m=> ?_) (fun b m=> .tail _ m)
  ·exact(sb.2 b (Io (J_ e))).trans (J8 _ e)
  ·rcases GW.mp m with rfl|m
   ·exact .inr ⟨HW _,by rw[hz];exact HY _⟩
   ·exact .inl m
 refine⟨S,?_⟩;have er:=S.env a.st a.er;have fr:=a.er.frees o3
 have hnames:(relabel scope env).names=am scope.names en:=by
  unfold relabel am;refine Hx fun n m=> ?_;obtain⟨n,k⟩:=n
  have h1:(env.scope.kind==ScopeKind.function)=true:=by rw[a.er.kind];rfl
  have h2:env.kindOf n=en.names.lookup n:=by rw[←a.er.names];rfl
  simp only[h1,h2,Gn]
 have lk: ∀{x:Str} {k:NameKind},(am scope.names en).lookup x=some k→ ∃Lu,(x,Lu)∈scope.names∧scope.names.lookup x=some Lu∧k=if(Lu== .free&&en.names.lookup x==some .cell)=true then Kf else Lu:=fun {x k} e=>by
  rw[nO]at e;refine aK (IC.mp e) fun Lu h1 h2=> ?_;exact⟨Lu,mem_of_lookup h1,h1,h2.symm⟩
 refine⟨hk,hnames,er.gl,er.bi,⟨_,hn,fun x hx=> ?_⟩,fun x hx=> ?_,fun x hx=> ?_,.head _,fun y z b h1 h2=> ?_,fun cc h=>by exact no h⟩
 ·have:(dY scope.names en).own.lookup x=none:=by
   show(en.own.filter fun p=>(am scope.names en).lookup p.1==some .cell).lookup x=none;rw[aZ (q:=fun x=>(am scope.names en).lookup x==some .cell)]
   rw[show(am scope.names en).lookup x=some .local from hx]
   rfl
  rw[this];exact .no
 ·refine bW (lk hx) fun Lu h1 h1' h2=> ?_
  have hc:(Lu== .free&&en.names.lookup x==some .cell)=true:=by
   by_cases q:(Lu== .free&&en.names.lookup x==some .cell)=true
   ·exact q
   ·rw[if_neg q]at h2;exact absurd h2.symm (o1 _ h1)
  refine oA (Gg.mp hc) fun q1 q2=> ?_
  have q1:Lu= .free:=by simpa using q1
  have q2:en.names.lookup x=some .cell:=by simpa using q2
  subst q1;refine bS (er.ce x q2) fun b w g1 g2 g3 g4=> ?_;refine⟨b,w,?_,g2,g3,?_⟩
  ·show(jG env.cells scope.names []).lookup x=some b;rw[nR h1,g1];rfl
  ·show kl h' _ ((en.own.filter fun p=>(am scope.names en).lookup p.1==some .cell).lookup x) w;rw[aZ (q:=fun x=>(am scope.names en).lookup x==some .cell)]
   rw[show(am scope.names en).lookup x=some .cell from hx]
   exact g4
 ·refine bW (lk hx) fun Lu h1 h1' h2=> ?_
  have hk0:Lu= .free:=by
   split at h2
   ·cases h2
   ·exact h2.symm
  subst hk0
  have hnc:en.names.lookup x≠some .cell:=by
   intro q;rw[q]at h2;trivial
  have hf:=(o3 _ h1 rfl).resolve_left hnc;refine dC (er.fr x hf) fun b w g1 g2 g4=> ?_;refine⟨b,w,?_,g2,g4⟩;show(jG env.cells scope.names []).lookup x=some b;rw[nR h1,g1];rfl
 ·exact a.er.ap y z b (jq fr h1) (jq fr h2)
variable (c)in
noncomputable def ci(iv:iR)(tr:lu)(f:fP)(en:En)(σ:Sg)(elt:Expr)(gens:List Comprehension)(scope:Scope):Option (aG V):=(tv gens).bind fun g=>if g.1.is_async=0 then
 if(dt g.1.iter&&scope.kind== .function&&d7 scope.names en)=true then(iv en σ g.1.iter).bind fun r=>(uL r).bind fun q=>(aC q.2 q.1).bind fun t=>(cE (dq 8) tr f g.1.target g.1.ifs elt q.2.length az (dY scope.names en) (q.2++[.lst []]) t).map fun KG=> .ok (.lst q.2.length) KG else none
 else none
theorem nA{iv:iR}{gens:List Comprehension}(e:ci iv tr f en σ elt gens scope=some o)
 (k: ∀target iter ifs x KC KG t,gens=[⟨target,iter,ifs,0⟩]→dt iter=true→scope.kind= .function→d7 scope.names en=true→iv en σ iter=some (.ok x KC)→aC KC x=some t→cE (dq 8) tr f target ifs elt KC.length az (dY scope.names en) (KC++[.lst []]) t=some KG→ .ok (.lst KC.length) KG=o→P):P:=
 eT e fun g e=>bI e fun hn e=>bI e fun hp e=>ae e fun r hr e=>ae e fun q hq e=>ae e fun t ht e=>aP e fun KG hc w=>
  have h1:=Gg.mp hp;have h2:=Gg.mp h1.1
  k _ _ _ q.1 q.2 KG t (g.2.trans (congrArg (fun x=>[x]) (cp0 hn))) h2.1 (GK h2.2) h1.2 (qB hq▸hr) ht hc w
theorem qG(ok:c.Ok)(st:aQ c ρ σ s.heap)(g:Gd c s.heap)(h: ∀s',af c ρ s (ρ.add s.heap.objs.size) (σ++[.lst []]) s'→Q (.ref s.heap.objs.size) s'):IG (model c.prog c.w) A (newList []) Q E s:=
 wpAny_newList (h _ (af.pushList (n:=0) (t:=s.toks) ok st g .nil)) (by exact H9 _)
theorem af.get{D:Addr}(x:ad c D' ρ s KD KB s')(h:ρ.r[k]? =some D):KD.r[k]? =some D:=by
 refine oE x.pre fun t q=> ?_;rw[←q,Hc (GZ.mp h).1];exact h
theorem nG{iv:iR}{pos':Pos}{use:Option (Value→Sem Unit)}{x:IV}(hi:ig c d iv)(ht:eO c d tr)(hf:bE c d f)
 (hns:dt iter=true) (hk:scope.kind= .function) (ho:d7 scope.names en=true) (hx:iv en σ iter=some (.ok x KC)) (hit:aC KC x=some t) (hc:cE (dq 8) tr f target ifs elt KC.length az (dY scope.names en) (KC++[.lst []]) t=some KG) (a:At c A env en ρ σ s d)
 (hQ: ∀KD s' D C,af c ρ s KD KG s'→R s'.heap KD (.lst KC.length) (.ref D)→C∈KD.p→s.heap.objs.size≤C→(∃m,s'.heap.Ns C m)→compPost (model c.prog c.w) A E use Q (.ref D) C (.ok .next) s'):
 IG (model c.prog c.w) A (comprehension (.ListComp elt [⟨target,iter,ifs,0⟩] scope pos) scope env pos' (newList []) false (eval iter env) use) Q E s:=by
 refine mN (fF ho) fun o1 o2 o3=> ?_;refine wpAny_comprehension_free (g:=⟨target,iter,ifs,0⟩) (gs:=[]) rfl (jr hns) (lL (a.er.frees o3)) hk o2 ?_
 refine au.go (hi hx a) (fun x' KB q w KF KQ KE KM=> ?_) (fun u_ u_ q=>by exact iQ q)
 refine jP q fun zz1 zz2=> ?_;subst zz1;subst zz2;refine aK KM fun I KM LJ=> ?_;have KR:=a.step KE;refine dJ a.ok KE.sto KE.gd hit KM fun KX J b KI KH Lh LR=> ?_;have K7:=KR.step KH;refine qG K7.ok K7.st K7.gd fun K8 KT=> ?_;have Ld:=K7.step KT;have LU:=KT.itr K7.st Lh;have Me:(KX.add KI.heap.objs.size).r[KC.length]? =some KI.heap.objs.size:=K7.st.last _
 refine wpAny_newFunctionEnv o1 (by simp) (fun h' hn sb=> ?_) hk
 refine oA (wN a.ok Ld hk ho hn sb) fun K4 LV=> ?_;have S123:=(KE.trans KH).trans KT;have at₄:At c A _ _ _ _ _ d:=⟨a.ok,K4.sto,K4.gd,LV,K4.room Ld.st Ld.room⟩;have LE:=K4.itr Ld.st LU;have new: ∀z∈J,s.heap.objs.size≤z:=fun z m=>(LR z m).elim (LJ z) fun q=>HV KE.rest.hsize q
 have pX:codeAny (model c.prog c.w) A (.compLoop (.ListComp elt [⟨target,iter,ifs,0⟩] scope pos) 0 (.ref b) (.ref KI.heap.objs.size) {newEnv scope K8.heap.objs.size env.globals (jG env.cells scope.names []) env.qual none .none (some env) builtinsNs with scope:=relabel scope env})
  (compPost (model c.prog c.w) A E use Q (.ref KI.heap.objs.size) K8.heap.objs.size) {K8 with heap:=h',toks:=K8.toks+0}:=by
  refine uF (m5 8) ht hf az hc (S123.trans K4) at₄ LE new S123.rest.hsize (af.get K4 Me) fun en' KD s' S' a' g'=> ?_;exact hQ KD s' _ _ S' (.lst g') a'.er.out S123.rest.hsize (aK a'.er.lo fun m hm u_=>⟨m,hm⟩)
 exact codeAny_compStart_list pX (LE.iter_self pX)
theorem jd{iv:iR}{gens:List Comprehension}(hi:ig c d iv)(ht:eO c d tr)(hf:bE c d f)(e:ci iv tr f en σ elt gens scope=some o)(a:At c A env en ρ σ s d):
 bn c A (eval (.ListComp elt gens scope pos) env) ρ s o:=by
 refine nA e fun target iter ifs x KC KG t hg hns hk ho hx hit hc w=> ?_;subst w;rw[hg];show IG _ _ _ _ _ _;rw[eval_ListComp];refine nG hi ht hf hns hk ho hx hit hc a fun KD s' D C S r hC hCn hm=> ?_;refine oE hm fun m hm=> ?_;refine⟨m,hm,fun h' sb=> ?_⟩
 have KH:ad c [C] KD s' KD KG {s' with heap:=h',toks:=s'.toks}:=ad.same (t:=s'.toks) a.ok S.sto S.gd hC sb
 exact⟨KD,S.fresh KH (by simpa using hCn),ad.R (by simpa using hC) KH r⟩
noncomputable def AJ(σ:Sg)(k j:Nat):Option Sg:=(aI σ k).bind fun l=>(aI σ j).bind fun m=>if l.length+m.length≤2^20 then some (σ.set k (.lst (l++m)))else none
theorem q9(vs ws:List Value)(n:Nat): ∃n',Kh (fun x=>x++ws.toArray) (aB vs n)=aB (vs++ws) n':=by
 refine⟨if(vs.toArray++ws.toArray).size==vs.toArray.size then n else n+1,?_⟩
 simp[Kh]
theorem yO{j:Nat}{lb:Addr}{n2:Nat}(ok:c.Ok)(st:aQ c ρ σ s.heap)(g:Gd c s.heap)(hz:l.length+m.length≤2^20)(h1:ρ.r[k]? =some la)(o1:s.heap.get? la=some (aB vs n))(rs:Rs s.heap ρ l vs)(o2:s.heap.get? lb=some (aB ws n2))(qs:Rs s.heap ρ m ws):
 bn c A (inplaceOp .Add (.ref la) (.ref lb)) ρ s (.ok (.lst k) (σ.set k (.lst (l++m)))):=by
 have ha:s.TypeIs (.ref la) "list":=⟨_,o1,rfl⟩;have hb:s.TypeIs (.ref lb) "list":=⟨_,o2,rfl⟩;have hlk:typeLookup (.type "list") (dunderI "add")=pure (some (.builtin "list.__iadd__")):=PySem.F.slot_list_iadd.lookup
 have hsq:isSeqSlot (some (.builtin "list.__iadd__"))=true:=by decide+kernel
 have hfi:fillsInplaceSlot (.type "list") "add" (Operator.Add== .Add)=pure false:=by
  unfold fillsInplaceSlot;show(typeLookup (.type "list") (dunderI "add")>>=fun fi=>pure (fi.isSome&& !isSeqSlot fi))=pure false;rw[hlk,pure_bind,hsq];rfl
 have hsi:seqSlot? (.type "list") (dunderI "add")=pure (some (.builtin "list.__iadd__")):=Jn hlk hsq
 have hx:vs.length+ws.length≤2^20:=by rw[←rs.length,←qs.length];exact hz
 unfold inplaceOp;refine IM ?_;refine IH (IZ ha (IH (IO hfi ?_)))
 show IG _ A (if false=true then _ else _) _ _ s
 refine bV Gi ?_;refine IH (PySem.wpAny_binaryOp1_none (nm:="add") ha hb noFill_list_add ?_);refine IH (IO hsi ?_);refine IH (IN ?_)
 have hts:Jq (vs.toArray.size+ws.toArray.size)=false:=by
  unfold Jq;simp only[decide_eq_false_iff_not,HZ,gt_iff_lt];simp
  exact HV hx (by decide)
 refine I9 PySem.F.slot_list_iadd ha PySem.F.entry_list_iadd (PySem.F.args_list_iadd_2 _ _) (PySem.AutoSeq1.list___iadd___list_list_0 la vs.toArray n lb ws.toArray n2 (by rw[hts];simp) (by simp;exact HV (HV (H1 _ _) hx) (by decide)) (by simp;exact HV hx (by decide))) ⟨o1,o2,?_⟩
 refine oE (q9 vs ws n) fun n' hn'=> ?_
 have S:=af.setCell (c:=c) (l':= .lst (l++m)) (t:=s.toks) ok st g h1 (Kd (f:=Kh fun x=>x++ws.toArray) ..) fun k1 k2=>⟨vs++ws,n',by rw[J' _ o1 (by rw[hn'];rfl),hn'],(k2 rs).append (k2 qs)⟩
 exact⟨ρ,S,S.R (.lst h1)⟩
theorem uu(ok:c.Ok)(st:aQ c ρ σ s.heap)(g:Gd c s.heap)(e:AJ σ k j=some KB)(r:R s.heap ρ (.lst k) v)(q:R s.heap ρ (.lst j) w):bn c A (inplaceOp .Add v w) ρ s (.ok (.lst k) KB):=
 ae e fun l hl e=>ae e fun m hm e=>bI e fun hz e=>by
  obtain rfl:=IF e
  cases r with
  |lst h1=>
  cases q with
  |lst h2=>
  refine bf (st.at_ _ _ _ h1 (bF hl)) fun vs n o1 rs=> ?_
  refine bf (st.at_ _ _ _ h2 (bF hm)) fun ws n2 o2 qs=> ?_
  exact yO (j:=j) ok st g hz h1 o1 rs o2 qs
noncomputable def ye(f:fP)(en:En)(σ:Sg)(x:Str)(op:Operator)(e:Expr):Option aL:=if bH en x=true then(en.own.lookup x).bind fun z=>match z with
 | .int i=>bQ en (f en σ e) fun y KB=>match y with
  | .int j=>(wr op i j).map fun k=> .ok .next (en.set x (.int k)) KB
  |_=>none
 | .lst k=>if sM op=true then bQ en (f en σ e) fun y KB=>(gB y).bind fun j=>(AJ KB k j).map fun KG=> .ok .next (en.set x (.lst k)) KG else none
 |_=>none
 else none
theorem BS(h:sM op=true):op= .Add:=by cases op<;>first|rfl|exact bM h
theorem yg{x:Str}{p:Pos}{o:aL}(hf:bE c d f)(h:ye f en σ x op e=some o)(a:At c A env en ρ σ s d):eC c A (exec (.AugAssign (.Name x p) op e pos) env) env ρ s o:=by
 refine oA (ik h) fun hx h=> ?_;refine ae h fun z hi h=> ?_
 cases z with
 |int i=>exact rP hf hx hi h a
 |lst k=>
  refine oA (ik h) fun hop h=> ?_;obtain rfl:=BS hop
  refine wpAny_AugAssign_Name (au.go (oZ (A:=A) a.st a.gd a.er hx hi) (fun y Lb q L1 KN KW K2 K6=> ?_) (fun u_ u_ q=>by exact iQ q))
  refine jP q fun zz1 zz2=> ?_;subst zz1;subst zz2;have Lp:=a.step K2;refine au.thenS Lp (K2.toS a.st a.er) h (fun o' q=>hf q Lp) fun y KC v KF KQ KE KR KM KJ Lc=> ?_;refine ae KJ fun j hj w=>aP w fun KG hk w=> ?_;subst w;obtain rfl:=gn hj
  refine au.go (uu (A:=A) KR.ok KR.st KR.gd hk (Lc.R K6) KM) (fun z KZ q w KI KX KH K'=> ?_) (fun u_ u_ q=>by exact iQ q)
  refine jP q fun zz1 zz2=> ?_;subst zz1;subst zz2;exact dK (KR.step KH) (cT hx) K' fun s' S' er'=>⟨KX,(KE.trans (KH.toS KR.st KR.er)).trans S',er',.next⟩
 |_=>exact no h
set_option tactic.hygienic true in
theorem xD{f:fP}{e:Expr}{pos:Pos}{o:aL}(hf:bE c d f)(hc:cr e=true)(h:bQ en (f en σ e) (fun y KB=>if aX y then some (.ok .next en KB)else none)=some o)(a:At c A env en ρ σ s d):eC c A (exec (.Expr e pos) env) env ρ s o:=by
 refine wpAny_Expr (au.thenS a ((af.refl a.st a.gd).toS a.st a.er) h (fun o' q=>hf q a) fun y KC v KF KQ KE KR KM KJ Lc=> ?_) (by unfold interactive;rw[a.er.kind];rfl) (o_ hc)
 split at KJ
 ·rename_i hy;obtain rfl:=IF KJ;have:=gQ KM;rw[hy]at this;have hv:v= .none:=GK this;subst hv;exact⟨KQ,KE,KR.er,.next⟩
 ·exact no KJ
theorem a_.monoG{D:List Addr}(t:aQ c ρ σ s.heap)(d: ∀a∈D,a∈ρ.p)(x:ad c D ρ s KD KB s')(e:a_ s.heap ρ env en)(hl:env.locals∉D)(hc: ∀a w,s.heap.IsCell a w→a∉D):a_ s'.heap KD env en:=a_.monoX t d x e hl fun u_ u_ u_ u_ h=>hc _ _ h
theorem bo.freshG{D:List Addr}(x:bo c env KW KN ρ σ s)(st:aQ c ρ σ s.heap)(er:a_ s.heap ρ env en)(hD: ∀a∈mK env,a∉D)(y:ad c D ρ s KD KB s')(k: ∀a∈D,KN.heap.objs.size≤a):bo c env KW KN KD KB s':=by
 refine⟨ad.trans' x.st y fun a m=> .inr (k a m),x.fo.trans fun a m o e t=> ?_⟩;refine aK (y.ext a o (fun z=>(GN.mp z).elim (hD a m) (st.disj _ (er.own a m))) e) fun o' e' q=> ?_;refine qK t fun es ep hd=> ?_;exact⟨o',e',es,ep,q.dict hd⟩
theorem lP{iv:iR}{x:Str}{p:Pos}{gens:List Comprehension}{cpos:Pos}{o:aL}(hi:ig c d iv)(ht:eO c d tr)(hf:bE c d f)(hx:bH en x=true)
 (h:bQ en (ci iv tr f en σ elt gens scope) (fun y KB=>some (.ok .next (en.set x y) KB))=some o) (a:At c A env en ρ σ s d):eC c A (exec (.Assign [.Name x p] (.ListComp elt gens scope cpos) pos) env) env ρ s o:=by
 obtain⟨b,hb⟩: ∃b,swapsWith (.ListComp elt gens scope cpos) (some (.Name x p)) pos.line env=pure b:=⟨_,rfl⟩
 cases b with
 |false=>
  refine wpAny_Assign_Name (au.thenS a ((af.refl a.st a.gd).toS a.st a.er) h (fun o' q=>jd hi ht hf q a) fun y KC v KF KQ KE KR KM KJ Lc=> ?_) hb;obtain rfl:=IF KJ;exact dK KR (cT hx) KM fun s' S' er'=>⟨KQ,KE.trans S',er',.next⟩
 |true=>
  cases hl:ci iv tr f en σ elt gens scope with
  |none=>rw[hl]at h;exact no h
  |some o'=>
   rw[hl]at h;refine nA hl fun target iter ifs xv KC KG t hg hns hk ho hxv hit hc w=> ?_;subst w;obtain rfl:=IF h;rw[hg]at hb⊢
   have fin:IG (model c.prog c.w) A (exec (.Assign [.Name x p] (.ListComp elt [⟨target,iter,ifs,0⟩] scope cpos) pos) env) (gj c env ρ s (.ok .next (en.set x (.lst KC.length)) KG)) (fun u_ u_=>False) s:=by
    rw[exec_Assign_Name_used _ _ _ _ hb];refine IH (IT (IH ?_))
    show IG _ A (do let _←comprehension (.ListComp elt [⟨target,iter,ifs,0⟩] scope cpos) scope env _ (newList []) false (eval iter env) (some (assign (.Name x p) env))) _ _ s
    refine IH (IJ (nG (use:=some (assign (.Name x p) env)) (Q:=fun u_ s'=>gj c env ρ s (.ok .next (en.set x (.lst KC.length)) KG) .next s') (E:=fun u_ u_=>False) hi ht hf hns hk ho hxv hit hc a fun KD s' D C S r hC hCn hm=> ?_) (fun u_ s' hq=>II (II hq)) fun u_ u_ z=>z);refine oE hm fun m hm=> ?_;have a':=a.step S;show IG _ A (assign (.Name x p) env (.ref D)) _ _ s';refine assign_Name (dK a' (cT hx) r fun s'' S'' er''=> ?_);have old: ∀b∈mK env,b<s.heap.objs.size:=fun b m=>(a.st.plow b (a.er.own b m)).2
    have hCo: ∀b∈mK env,b∉[C]:=fun b m q=>absurd (old b m) (by rw[GP.mp q];exact HZ.mpr hCn)
    have hm':s''.heap.Ns C m:=S''.st.ext.ns (fun z=>(GN.mp z).elim (fun z=>hCo C z (by exact .head _)) (S.sto.disj C hC)) hm
    refine⟨m,hm',fun h' sb=> ?_⟩;have hCp:C∈KD.p:=hC
    have KT:ad c [C] KD s'' KD KG {s'' with heap:=h',toks:=s''.toks}:=ad.same (t:=s''.toks) a.ok S''.st.sto S''.st.gd hCp sb
    have T:bo c env ρ s KD KG {s'' with heap:=h',toks:=s''.toks}:=((S.toS a.st a.er).trans S'').freshG S''.st.sto er'' hCo KT (by simpa using hCn)
    refine⟨KD,T,er''.monoG S''.st.sto (by simpa using hCp) KT (fun q=>hCo env.locals (.head _) q) (fun b w i q=> ?_),.next⟩
    rw[GP.mp q]at i;refine iC hm' fun o1 es ep g1 g2 u_=> ?_;refine aK i fun o2 g3 g4=> ?_;rw[g1]at g3;obtain rfl:=IF g3;rw[g2]at g4;cases g4
   exact IJ fin (fun u_ u_ z=>z) fun u_ u_ z=>z.elim
noncomputable def wY(en:En)(line:Nat)(e:Expr):Option Str:=(io e).bind fun p=>if en.names.lookup p.1.1==some .local&&p.1.2.line==line then some p.1.1 else none
noncomputable def swM(N:List Str)(ts vs:List Expr):Option (Option (List Str)):=if(N.length !=ts.length||N.eraseDups.length !=N.length)=true then some none else if vs.all (foldedForSure 8)=true then some none else if vs.all (constantsAlone 8)=true then none else some (some N)
noncomputable def vm(en:En)(ts vs:List Expr):Option (Option (List Str)):=
 if(!(ts.length==2||ts.length==3)||vs.length !=ts.length)=true then some none
 else if al vs=true then swM (ts.filterMap (wY en ((ts.head?.map (·.pos.line)).getD 0))) ts vs else none
noncomputable def swN(N:List Str)(ts vs:List Expr):Sem (Option (List Str)):=if(N.length !=ts.length||N.eraseDups.length !=N.length)=true then pure none else if vs.all (foldedForSure 8)=true then pure none
 else if vs.all (constantsAlone 8)=true then(unsupported "assign.tuple-of-constant-expressions:order-of-the-stores">>=fun(_:Unit)=>pure (some N))else pure (some N)
noncomputable def swB(b:Bool)(f:Expr→Bool)(g:Expr→Option Str)(ts vs:List Expr):Sem (Option (List Str)):=
 if(!(ts.length==2||ts.length==3)||vs.length !=ts.length||b)=true then pure none else if vs.any f=true then pure none else swN (ts.filterMap g) ts vs
theorem Bj{ts vs:List Expr}{r:Option (List Str)}(h:swM N ts vs=some r):swN N ts vs=pure r:=by
 refine e_ h (fun c w=> ?_) fun c w=>(if_neg c).trans (e_ w (fun c w=> ?_) fun c w=>(if_neg c).trans (e_ w (fun u_ w=>no w) fun c w=> ?_))
 ·obtain rfl:=IF w;exact if_pos c
 ·obtain rfl:=IF w;exact if_pos c
 ·obtain rfl:=IF w;exact if_neg c
theorem uz{vs:List Expr}:al vs=true→ ¬vs.any db=true:=by
 induction vs with
 |nil=>exact fun u_ h=>bM h
 |cons _ _ ih=>exact fun h q=>(Gj.mp q).elim (bj h).1 (ih (bj h).2)
theorem Bg{f:Expr→Bool}{g:Expr→Option Str}{ts vs:List Expr}{r:Option (List Str)}(hb:b=false)(hf:f=db)(hg:g=wY en ((ts.head?.map (·.pos.line)).getD 0))(h:vm en ts vs=some r):swB b f g ts vs=pure r:=by
 subst hb hf hg;refine e_ h (fun c w=> ?_) fun c w=>(if_neg fun q=>c ((Go _).symm.trans q)).trans (bI w fun c w=>(if_neg (uz c)).trans (Bj w));obtain rfl:=IF w;exact if_pos ((Go _).trans c)
theorem za{ts vs:List Expr}{k':Nat}{p p':Pos}{r:Option (List Str)}{Mf:Heap}(er:a_ Mf ρ env en)(h:vm en ts vs=some r):swappedStores [.Tuple ts k p] (.Tuple vs k' p') env=pure r:=by
 have hb:(env.blockKind != .function)=false:=by unfold Env.blockKind;rw[er.kind];rfl
 have hk: ∀x,env.kindOf x=en.names.lookup x:=fun x=>by rw[←er.names];rfl
 refine(Bg hb (funext fun e=> ?_) (funext fun e=> ?_) h:swB _ _ _ ts vs=_)
 ·cases e<;>rfl
 ·cases e with
  |Name x q=>exact congrArg (fun o=>if(o==some NameKind.local&&q.line==(ts.head?.map (·.pos.line)).getD 0)=true then some x else none) (hk x)
  |_=>rfl
noncomputable def A2(e:Expr):Bool:=e.ctorIdx.beq 23||e.ctorIdx.beq 20||e.ctorIdx.beq 21
noncomputable def jl(en:En)(t e:Expr):Option (Option (List Str)):=match j9 t with
 |some p=>match j9 e with
  |some q=>vm en p.1.1 q.1.1
  |none=>some none
 |none=>if A2 t=true then some none else none
theorem lj{t:Expr}{r:Option (List Str)}{Mf:Heap}(er:a_ Mf ρ env en)(h:jl en t e=some r):swappedStores [t] e env=pure r:=by
 unfold jl at h
 cases h1:j9 t with
 |some p=>
  rw[h1]at h;obtain⟨p,rfl⟩:=p
  cases h2:j9 e with
  |some q=>
   rw[h2]at h;obtain⟨q,rfl⟩:=q;exact za er h
  |none=>
   rw[h2]at h
   cases h
   cases e<;>first|rfl|exact EC h2
 |none=>
  rw[h1]at h;refine bI h fun hp w=> ?_
  cases w
  cases t<;>first|rfl|exact bM hp|exact EC h1
noncomputable def qN:En→List Str→List V→Option En
 |en,[],l=>match l with
  |[]=>some en
  |_::_=>none
 |en,n::ns,l=>match l with
  |[]=>none
  |y::ys=>if bH en n=true then qN (en.set n y) ns ys else none
theorem pF{ns:List Str}: ∀{en en':En} {ρ:Pl} {s:Shared} {l:List V} {vs:List Value} {Q:Unit→Shared→Prop} {E:Value→Shared→Prop},qN en ns l=some en'→At c A env en ρ σ s d→Rs s.heap ρ l vs→
 (∀KD s',bo c env ρ s KD σ s'→a_ s'.heap KD env en'→Q () s')→IG (model c.prog c.w) A (assignInOrder (ns.map fun n=>bindName env n) vs) Q E s:=by
 induction ns with
 |nil=>
  intro en en' ρ s l vs Q E e a r h
  cases l with
  |cons=>exact no e
  |nil=>obtain rfl:=IF e;cases r using Rs.nilE;exact assignInOrder_nil (h _ _ ((af.refl a.st a.gd).toS a.st a.er) a.er)
 |cons n ns ih=>
  intro en en' ρ s l vs Q E e a r h
  cases l with
  |nil=>exact no e
  |cons y ys=>
   refine bI e fun hx w=> ?_
   cases r using Rs.consE with
   |cons r rs=>exact assignInOrder_cons (bindName_ (dK a (cT hx) r fun s' S er'=>ih w (a.stepS S er') (ad.Rs a.er.own S.st rs) fun KX KI KH LC=>h _ _ (S.trans KH) LC))
variable (c)in
noncomputable def hN(f:fP)(en:En)(σ:Sg)(t e:Expr):Option aL:=if cr e=true then(jl en t e).bind fun r=>match r with
 |none=>bQ en (f en σ e) fun y KB=>(eP c f 8 t en KB y).map fun p=> .ok .next p.1 p.2
 |some names=>bQ en (f en σ e) fun y KB=>(eN y).bind fun l=>if l.length=names.length then(qN en names.reverse l.reverse).map fun en'=> .ok .next en' KB else none
 else none
theorem oD{t:Expr}(h:cr e=true):swapsWithSole [t] e n env=pure false:=o_ h
theorem tT{t:Expr}(h:jl en t e=some none):(assignEach [t] env).map (·.2)=[assign t env]:=by
 cases t<;>first|rfl|exact no h
theorem mX{t:Expr}{o:aL}(hf:bE c d f)(h:hN c f en σ t e=some o)(a:At c A env en ρ σ s d):eC c A (exec (.Assign [t] e pos) env) env ρ s o:=by
 refine oA (ik h) fun hc h=> ?_;show IG _ _ _ _ _ _;rw[exec_Assign];refine IH (IT ?_);rw[oD hc];refine IH (II ?_)
 refine bV (by exact Gi) ?_
 refine ae h fun r hsw h=> ?_
 cases r with
 |none=>
  refine IH (au.thenS a ((af.refl a.st a.gd).toS a.st a.er) h (fun o' q=>hf q a) fun y KC v KF KQ KE KR KM KJ Lc=> ?_);refine aP KJ fun p hg w=> ?_;subst w;rw[lj a.er hsw];refine IH (II ?_);rw[tT hsw];unfold assignStores;exact IH (pg hf 8 hg KR KM fun KX KI KH LC=>II ⟨KX,KE.trans KH,LC,.next⟩)
 |some names=>
  refine IH (au.thenS a ((af.refl a.st a.gd).toS a.st a.er) h (fun o' q=>hf q a) fun y KC v KF KQ KE KR KM KJ Lc=> ?_);refine ae KJ fun l hl w=>bI w fun hlen w=>aP w fun en' hg w=> ?_;subst w;obtain rfl:=eJ hl;rw[lj a.er hsw];refine IH (II ?_);unfold assignStores;refine IH (IN ?_)
  cases id KM with
  | @tup _ ta vs m h1 f1 rs=>
  have hn:names.length=vs.toArray.size:=hlen.symm.trans rs.length;rw[hn];refine IH (bw (unpackItems_tuple KR.room.hand (cQ h1) fun h' he hz=> ?_))
  have KH:af c KQ KF KQ KC {KF with heap:=h',toks:=KF.toks}:=af.keeps KR.ok KR.st KR.gd (fun b o eb=>he b o (fun q=>absurd (J_ eb) (by rw[q];exact Ia _)) eb) hz
  exact IH (pF hg (KR.step KH) (KH.Rs rs).reverse fun Ls K8 KT LK=>II ⟨Ls,(KE.trans (KH.toS KR.st KR.er)).trans KT,LK,.next⟩)
noncomputable abbrev jM(cls:String)(t:Addr):Obj:={cls:= .type cls,data:= .fields #[.ref t,.none,.none,.none,.bool false,.none]}
theorem af.thrown{t:Nat}{e tt:Addr}{cls:String}(ok:c.Ok)(st:aQ c ρ σ s.heap)(g:Gd c s.heap)(k: ∀b o,s.heap.get? b=some o→h'.get? b=some o)(he:h'.get? e=some (jM cls tt))(hn:s.heap.objs.size≤e)(hz:s.heap.objs.size≤h'.objs.size):
 af c ρ s ⟨ρ.r,e::ρ.p⟩ σ {s with heap:=h',toks:=t}∧f7 h' ⟨ρ.r,e::ρ.p⟩ s.heap.objs.size cls (.ref e):=by
 refine⟨ad.write ok st g (by exact G7 _) (fun b o u_ q=>k b o q) hz (fun a m=> ?_) (fun a m=> .tail _ m),e,_,_,rfl,he,rfl,rfl,hn,.head _,.inl rfl⟩
 rcases GW.mp m with rfl|q
 ·exact .inr ⟨hn,J_ he⟩
 ·exact .inl q
theorem tw{cls:String}(hp:PlainExc cls)
 (h: ∀h' e t,(∀b o,s.heap.get? b=some o→h'.get? b=some o)→h'.get? e=some (jM cls t)→s.heap.objs.size≤e→s.heap.objs.size≤h'.objs.size→Q (.ref e) {s with heap:=h'}):IG M A (newExc (.type cls) []) Q E s:=by
 unfold newExc newTuple
 and_intros
 refine IH (IP ?_ (by exact H9 _))
 refine IH (m:=firstArgMember _ _) (IO (a:=Kq) (by simp only[firstArgMember,hp.first];rfl) ?_)
 rw[hp.own]
 refine IP ?_ (by size_fits)
 exact h _ _ _ (fun b o q=>J8 _ (J8 _ q)) (J7 _ rfl) (by rw[J9];exact H0 _) (by rw[J9,J9];exact H1 _ 2)
noncomputable def kN(g:lu)(en:En)(σ:Sg)(test:Expr):Option aL:=bQ en (g en σ test) fun b KB=>if b then some (.ok .next en KB)else some (.exc "AssertionError" en KB)
theorem rJ{g:lu}{o:aL}(hg:eO c d g)(h:kN g en σ test=some o)(a:At c A env en ρ σ s d):eC c A (exec (.Assert test none pos) env) env ρ s o:=by
 show IG _ _ _ _ _ _;rw[arm_exec_Assert];refine IH (IT (IH (au.thenS a ((af.refl a.st a.gd).toS a.st a.er) h (fun o' q=>hg q a) fun b KC v KF KQ KE KR KM KJ Lc=> ?_)))
 cases KM
 cases b with
 |true=>
  obtain rfl:=IF KJ;exact II ⟨KQ,KE,KR.er,.next⟩
 |false=>
  obtain rfl:=IF KJ;simp only[Gk,if_false];unfold assertFails valueOfOpt;refine IH (II ?_);refine IH (IT ?_);refine IH (IN ?_);refine IH (tw plainExc_AssertionError fun h' e t k he hn hz=>Jl a.room.hand ?_);refine oA (af.thrown (t:=KF.toks) a.ok KR.st KR.gd k he hn hz) fun KH f=> ?_;exact⟨_,KE.trans (KH.toS KR.st KR.er),KH.env KR.st KR.er,f.mono KE.st.rest.hsize⟩
theorem o9{cls initId:String}(F:ExcCallFacts cls newId initId){Q:Fin→Shared→Prop}{hp:Heap}{g:Array GenState}{dr:Drawn}{tk:Nat}{os:OsState}
 (h: ∀h' e t,(∀b o,hp.get? b=some o→h'.get? b=some o)→h'.get? e=some (jM cls t)→hp.objs.size≤e→hp.objs.size≤h'.objs.size→Q (.done (.ret (.ref e))) ⟨h',g,dr,tk,os⟩):
 IG (model c.prog c.w) A (Builtin.«type.__call__» ⟨[.type cls,v],[]⟩) Q E ⟨hp,g,dr,tk,os⟩:=by
 have hnt:=F.notType;have hcan:=F.canMake;have hchk:=F.noVector ⟨[v],[]⟩;refine aK F.mro fun m hmro hne=> ?_;have hmade:=F.madeBy
 wp_walk
 refine codeAny_call_builtin_code (JL _ F.quiet) (IO (F.newOk [v]) ?_)
 refine codeAny_exc_new F.toExcNewFacts ?_ (by size_fits)
 show IG _ _ _ _ _ _
 have hget:((hp.push {cls:= .type "tuple",data:= .seq [v].toArray}).push (jM cls hp.objs.size)).get? (hp.objs.size+1)=some (jM cls hp.objs.size):=by heap_get
 refine IH (I6 ⟨_,hget,rfl⟩ F.sub ?_)
 wp_step
 refine IH (IM (IU ⟨_,hget,rfl⟩ F.init (I7 (Jm F.init.plain F.initEntry (wpAny_check_exc_init F ⟨_,hget,rfl⟩ ?_)))))
 wp_walk
 refine h _ _ (hp.objs.size+2) (fun b o hb=> ?_) ?_ (H0 _) ?_
 ·rw[Kc _ _ (Ib (Ij (J_ hb)))];exact J8 _ (J8 _ (J8 _ hb))
 ·rw[J' _ (J8 _ hget) rfl];simp only[J9];rfl
 ·rw[Kb];simp only[J9];exact H1 _ 3
theorem qU{cls initId:String}(F:ExcCallFacts cls newId initId)
 (h: ∀h' e t,(∀b o,s.heap.get? b=some o→h'.get? b=some o)→h'.get? e=some (jM cls t)→s.heap.objs.size≤e→s.heap.objs.size≤h'.objs.size→Q (.ref e) {s with heap:=h'}):
 IG (model c.prog c.w) A (call (.type cls) [v]) Q E s:=by
 obtain⟨hp,g,dr,tk,os⟩:=s;refine I7 (Ji ?_);show IG _ _ (again (.builtin "type.__call__" ⟨[.type cls,v],[]⟩)) _ _ _
 exact II ⟨JL _ (by decide+kernel),IQ entry_typeCall (o9 F h)⟩
noncomputable def wf(c:Cx)(f:fP)(en:En)(σ:Sg)(x:Str)(e:Expr):Option aL:=(aR c en x).bind fun y=>(kr y).bind fun v=>(sr v).bind fun T=>if T="ValueError"∧al [e]=true then bQ en (f en σ e) fun u_ KB=>some (.exc T en KB)else none
theorem s9{x:Str}{np cpos:Pos}{o:aL}(hf:bE c d f)(h:wf c f en σ x e=some o)(a:At c A env en ρ σ s d):
 eC c A (exec (.Raise (some (.Call (.Name x np) [e] [] cpos)) none pos) env) env ρ s o:=by
 refine ae h fun y hx KP=>ae KP fun v hv K_=>ae K_ fun T hT LM=>bI LM fun hT' Lm=> ?_;clear h KP K_ LM;obtain rfl:=ij hv;obtain rfl:=xG hT;obtain⟨rfl,hns⟩:=hT'
 have hstar:=fZ (e:=e) (es:=[]) (env:=env) (fun y p q=>eG hns y p (by rw[q];exact .head _))
 refine wpAny_Raise_made PySem.F.excRaise_ValueError a.room.hand (wpAny_Call_ofName (au.go (gW (A:=A) (pos:=np) a.ok a.st a.gd a.er hx) (fun y Lb q L1 KN KW K2 K6=> ?_) (fun u_ u_ q=>by exact iQ q)))
 refine jP q fun zz1 zz2=> ?_;subst zz1;subst zz2;obtain rfl:=K6.valQ;have Lp:=a.step K2;have hpl:=gg (env:=env) (pos:=cpos) (eG hns);refine callWith_excType hpl (i8 hpl rfl ?_);refine Jb (au.thenS Lp (K2.toS a.st a.er) Lm (fun o' q=>hf q Lp) fun y KC v KF KQ KE KR KM KJ Lc=>Jf ?_) hstar;obtain rfl:=IF KJ;refine II (a:=[]) ?_;refine qU PySem.F.excCall_ValueError fun h' e t k he hn hz=> ?_;obtain⟨KH,f⟩:=af.thrown (t:=KF.toks) a.ok KR.st KR.gd k he hn hz;exact⟨e,t,rfl,he,_,KE.trans (KH.toS KR.st KR.er),KH.env KR.st KR.er,f.mono KE.st.rest.hsize⟩
theorem mj{cls:String}{e:Value}{Q:Unit→Shared→Prop}(ok:c.Ok)(st:aQ c ρ σ s.heap)(g:Gd c s.heap)(fl:f7 s.heap ρ n cls e)
 (h: ∀D s',(∀a∈D,a∈ρ.p∧n≤a∧ ∃o vs,s.heap.get? a=some o∧o.data= .fields vs)→ad c D ρ s ρ σ s'→Q () s'):IG (model c.prog c.w) A (setFlight e none) Q E s:=by
 refine f8 fl fun a oa vs zz3 ha hc hd na ap h1=> ?_;subst zz3;unfold setFlight
 rcases h1 with h1|⟨T,oT,ts,h1,nT,Tp,hTa,hT,hdT,h3⟩
 ·refine IH (IK ha hd h1 ?_)
  refine bV (by decide) ?_
  exact II (h [] s (by simp) (ad.refl st g))
 ·refine IH (IK ha hd h1 ?_)
  refine cX ((show(Ko T !=Kq)=true from by simp)) ?_
  refine I0 hT hdT (Ge.mp h3).1 ?_
  exact h [T] _ (by simp only[GP,forall_eq];exact⟨Tp,nT,oT,ts,hT,hdT⟩) (ad.same (t:=s.toks) ok st g Tp (Kd ..))
theorem ju{D:List Addr}(k: ∀a∈D,a∈ρ.p∧n≤a∧ ∃o vs,h.get? a=some o∧o.data= .fields vs):aW h D:=fun a m=>by
 refine Bw (k a m) fun u_ u_ o vs ho hd=> ?_
 exact⟨o,ho,by unfold du;rw[hd]⟩
noncomputable def AB:V→Option Value:=kr
theorem BG(e:AB x=some v):x= .val v:=ij e
noncomputable def D5(e:Expr):Option {p:Expr×Expr×Nat×Pos//e= .Tuple [p.1,p.2.1] p.2.2.1 p.2.2.2}:=(j9 e).bind fun p=>match p with
 |⟨([x,y],k,p),h⟩=>some ⟨(x,y,k,p),h⟩
 |_=>none
noncomputable def F6:(l:List ExceptHandler)→Option {p:Expr×Const×Nat×Pos×Pos×Pos//l=[.ExceptHandler (some p.1) none [.Return (some (.Constant p.2.1 p.2.2.1 p.2.2.2.1)) p.2.2.2.2.1] p.2.2.2.2.2]}
 |[.ExceptHandler (some t) none [s] hp]=>(FN s).bind fun r=>match r with
  |⟨(some e,rp),h⟩=>(Bo e).map fun k=>⟨(t,k.1.1,k.1.2.1,k.1.2.2,rp,hp),congrArg (fun s:Stmt=>[ExceptHandler.ExceptHandler (some t) none [s] hp]) (h.trans (congrArg (fun e:Expr=>Stmt.Return (some e) rp) k.2))⟩
  |_=>none
 |_=>none
noncomputable def qC(T:String):Bool:=subB T (.type "BaseException")==some true&&subB ((Manifest.find? T).elim "type" fun x=>x.metatype) (.type "tuple")==some false
theorem hU(h:qC T=true):isSubtype (.type T) (.type "BaseException")=pure true∧isSubtype (.type ((Manifest.find? T).elim "type" fun x=>x.metatype)) (.type "tuple")=pure false:=by
 simp only[qC,Gh,beq_iff_eq]at h;exact⟨isSubtype_of_subB h.1,isSubtype_of_subB h.2⟩
variable (c)in
noncomputable def oH(en:En)(x:Str):Option String:=(aR c en x).bind fun y=>(AB y).bind fun v=>(sr v).bind fun T=>if qC T=true then some T else none
theorem et{x:Str}(h:oH c en x=some T):aR c en x=some (.val (.type T))∧qC T=true:=
 ae h fun y hy w=>ae w fun v hv w=>ae w fun T' hT w=>bI w fun he w'=>by
  obtain rfl:=BG hv;obtain rfl:=xG hT;obtain rfl:=IF w';exact⟨hy,he⟩
variable (c)in
noncomputable def eV(en:En)(t:Expr)(cls:String):Bool:=
 ((io t).any fun p=>(oH c en p.1.1).any fun T=>subB cls (.type T)==some true)||
 ((D5 t).any fun p=>(io p.1.1).any fun q=>(io p.1.2.1).any fun r=>(oH c en q.1.1).any fun T1=>(oH c en r.1.1).any fun T2=>subB2 cls T1 T2==some true)
theorem zM{x y x' y':Expr}{p:Pos}(h1:x=x')(h2:y=y'):Expr.Tuple [x,y] k p= .Tuple [x',y'] k p:=by rw[h1,h2]
theorem vj{t:Expr}{cls:String}(h:eV c en t cls=true)(k1: ∀x p T,t= .Name x p→aR c en x=some (.val (.type T))→qC T=true→subB cls (.type T)=some true→P)
 (k2: ∀x1 p1 x2 p2 k p T1 T2,t= .Tuple [.Name x1 p1,.Name x2 p2] k p→aR c en x1=some (.val (.type T1))→qC T1=true→aR c en x2=some (.val (.type T2))→qC T2=true→subB2 cls T1 T2=some true→P):P:=
 (Gj.mp h).elim
  (fun h=>jK h fun p u_ h=>jK h fun T hT h=>k1 _ _ T p.2 (et hT).1 (et hT).2 (beq_iff_eq.mp h))
  (fun h=>jK h fun p u_ h=>jK h fun q u_ h=>jK h fun r u_ h=>jK h fun T1 h1 h=>jK h fun T2 h2 h=>k2 _ _ _ _ _ _ T1 T2 (p.2.trans (zM q.2 r.2)) (et h1).1 (et h1).2 (et h2).1 (et h2).2 (beq_iff_eq.mp h))
theorem mf{x:Str}(ok:c.Ok)(st:aQ c ρ σ s.heap)(g:Gd c s.heap)(er:a_ s.heap ρ env en)(e:aR c en x=some (.val (.type T)))
 (h: ∀KD s',af c ρ s KD σ s'→Q (.type T) s'):IG (model c.prog c.w) A (eval (.Name x pos) env) Q E s:=by
 refine au.go (gW (A:=A) (pos:=pos) ok st g er e) (fun y Lb q L1 KN KW K2 K6=> ?_) (fun u_ u_ q=>by exact iQ q)
 refine jP q fun zz1 zz2=> ?_;subst zz1;subst zz2;obtain rfl:=K6.valQ;exact h _ _ K2
theorem f7.step{cls:String}{e:Value}(st:aQ c ρ σ s.heap)(S:af c ρ s KD KB s')(f:f7 s.heap ρ n cls e):f7 s'.heap KD n cls e:=by
 refine f8 f fun x oe vs zz3 h2 h3 h4 h5 h6 h7=> ?_;subst zz3
 have keep: ∀{z:Addr} {o:Obj} {ws:Array Value},z∈ρ.p→s.heap.get? z=some o→o.data= .fields ws→ ∃(o':Obj) (ws':Array Value),s'.heap.get? z=some o'∧o'.cls=o.cls∧o'.data= .fields ws'∧ ∀(i:Nat) (v:Value),ws[i]? =some v→ws'[i]? =some v:=by
  intro z o ws hz hg hdz
  refine aK (S.ext z o (fun q=>st.disj _ hz (by simpa using q)) hg) fun o' ho' q=> ?_
  rcases q with rfl|⟨_,⟨es,ep,dd⟩,_⟩|⟨_,hcl,ws₀,more,d1,rfl⟩
  ·exact⟨_,ws,ho',rfl,hdz,fun u_ u_ q=>q⟩
  ·rw[hdz]at dd;cases dd
  ·rw[hdz]at d1;cases d1
   exact⟨_,_,ho',rfl,rfl,fun i v q=>by rw[Array.getElem?_append_left (Ge.mp q).1];exact q⟩
 refine bS (keep h6 h2 h4) fun o' ws' k1 k2 k3 k4=> ?_;refine⟨x,o',ws',rfl,k1,k2.trans h3,k3,h5,S.pold _ h6,?_⟩
 rcases h7 with q|⟨T,oT,ts,q1,q2,q3,q4,q5,q6,q7⟩
 ·exact .inl (k4 _ _ q)
 ·refine bS (keep q3 q5 q6) fun oT' ts' j1 j2 j3 j4=> ?_;exact .inr ⟨T,oT',ts',k4 _ _ q1,q2,S.pold _ q3,q4,j1,j3,j4 _ _ q7⟩
theorem f7.type{h:Heap}{cls:String}{x:Addr}(f:f7 s.heap ρ n cls (.ref x)):s.TypeIs (.ref x) cls:=by
 refine iU f fun x' o' ws' q k1 k2 u_=> ?_
 cases q
 exact⟨_,k1,k2⟩
theorem qr{t:Expr}{cls:String}{ex:Value}{Mg:Stmt}{suite:List Stmt}{hp:Pos}{rest:List ExceptHandler}{Q:Flow→Shared→Prop}(hc:eV c en t cls=true)(K2:bo c env KW KN ρ σ s)(a:At c A env en ρ σ s d)
 (fl:f7 s.heap ρ KN.heap.objs.size cls ex)
 (h: ∀A' E' KD s',bo c env KW KN KD σ s'→aQ c KD σ s'.heap→Gd c s'.heap→a_ s'.heap KD env en→IG (model c.prog c.w) A' (execs (Mg::suite) env) Q E' s'):
 IG (model c.prog c.w) A (handleBy ex env (.ExceptHandler (some t) none (Mg::suite) hp::rest)) Q E s:=by
 refine l_ (id fl) fun x oe vs zz3 fl'=> ?_;subst zz3;have lt {KQ KF} (KE:af c ρ s KQ σ KF):KF.TypeIs (.ref x) cls:=(fl.step a.st KE).type (h:=KF.heap);have lw {A':Around} {E':Value→Shared→Prop} {KQ:Pl} {KF:Shared} (KE:af c ρ s KQ σ KF):IG (model c.prog c.w) A' (setFlight (.ref x) none) (fun u_ KI=>IG (model c.prog c.w) A' (execs (Mg::suite) env) Q E' KI) E' KF:=
  mj a.ok KE.sto KE.gd (fl.step a.st KE) fun D KI hD KH=>
   have LO:=KE.env a.st a.er
   h A' E' KQ KI ((K2.trans (KE.toS a.st a.er)).plain KE.sto LO (ju hD) KH fun b m=>(hD b m).2.1) KH.sto KH.gd (LO.monoI KE.sto (fun b m=>(hD b m).1) KH (ju hD))
 refine vj hc (fun y p T e t1 t2 t5=> ?_) fun x1 p1 x2 p2 k p T1 T2 e t1 t2 u1 u2 t5=> ?_
 ·subst e;refine wpAny_handleBy_builtin (X:=cls) (T:=T) (b:=true) (hU t2).1 (hU t2).2 (isSubtype_of_subB t5) ?_
  exact mf a.ok a.st a.gd a.er t1 fun KQ KF KE=>⟨rfl,lt KE,by rw[if_pos rfl];exact lw KE⟩
 ·subst e;refine dC (subB2_some t5) fun b1 b2 j1 j2 hb=> ?_;refine wpAny_handleBy_tup2 (X:=cls) (T1:=T1) (T2:=T2) (hU t2).1 (hU t2).2 (hU u2).1 (hU u2).2 (isSubtype_of_subB j1) (isSubtype_of_subB j2) ?_;refine wpAny_Tuple (Jb (mf a.ok a.st a.gd a.er t1 fun KQ KF KE=>Jb (mf a.ok KE.sto KE.gd (KE.env a.st a.er) u1 fun KX KI KH=>Jf ?_)))
  have KT:af c KX KI KX σ {KI with heap:=KI.heap.push (ao [.type T1,.type T2] 0)}:=af.push (t:=KI.toks) a.ok KH.sto KH.gd
  exact⟨(by decide:2≤sizeLine),_,rfl,cQ (J7 _ rfl),lt ((KE.trans KH).trans KT),by rw[if_pos hb];exact lw ((KE.trans KH).trans KT)⟩
noncomputable def sE(o:Option aL)(f:String→En→Sg→Option aL):Option aL:=o.bind fun so=>match so with
 | .ok fl en σ=>some (.ok fl en σ)
 | .exc cls en σ=>f cls en σ
variable (c)in
noncomputable def rI(fs:eD)(en:En)(σ:Sg)(body:List Stmt)(handlers:List ExceptHandler):Option aL:=(F6 handlers).bind fun p=>
 sE (fs en σ body) fun cls en' KB=>if eV c en' p.1.1 cls=true then(oR p.1.2.1).map fun y=> .ok (.ret y) en' KB else none
theorem FV{fs:eD}{handlers:List ExceptHandler}{o:aL}(h:rI c fs en σ body handlers=some o)
 (k: ∀t k kn kp rp hp so,handlers=[.ExceptHandler (some t) none [.Return (some (.Constant k kn kp)) rp] hp]→fs en σ body=some so→
  sE (some so) (fun cls en' KB=>if eV c en' t cls=true then(oR k).map fun y=> .ok (.ret y) en' KB else none)=some o→P):P:=
 ae h fun p u_ h=>ae h fun so hb h=>k _ _ _ _ _ _ so p.2 hb h
theorem zf{fs:eD}{handlers:List ExceptHandler}{o:aL}(hs:gv c d fs)(h:rI c fs en σ body handlers=some o)(a:At c A env en ρ σ s d)(tp:o5 A env):eC c A (exec (.Try body handlers [] [] pos) env) env ρ s o:=by
 refine FV h fun t k kn kp rp hp so e hb h=> ?_;subst e;refine wpAny_Try_except ?_
 cases so with
 |ok fl en' KB=>
  obtain rfl:=IF h;refine IJ (hs hb a tp) (fun f KF p=> ?_) fun ex KF p=>p.elim
  cases f with
  |next=>exact wpAny_execs_nil p
  |_=>exact p
 |exc cls en' KB=>
 refine bI h fun hc h=>aP h fun y hy h=> ?_;subst h;refine IJ (hs hb a tp) (fun f KF p=>p.elim) fun ex KF p=> ?_;refine bW p fun KQ KE LO fl=> ?_;have KR:=a.stepS KE LO;refine oE tp fun outer hfr=> ?_;refine aK KR.room.frames fun l hl ff=> ?_;rw[hfr]at hl;obtain rfl:=IF hl;refine bf ((ff env (.head _)).2) fun L oL hf u_=> ?_;refine gF a.ok KR.st KR.gd hfr hf ff fl fun D KX KI hD KH L8=> ?_;have K7:=KR.plain (fun b m=>(hD b m).1) (ju hD) KH;have Ln:=KE.plain KR.st LO (ju hD) KH fun b m=>(hD b m).2.1;refine qr hc Ln K7 L8 fun A' E' Ls K8 LQ Mh Me LK=> ?_
 refine wpAny_execs_cons (wpAny_Return_some (au.go (lJ Mh Me hy) (fun z Lb q L1 LH Lz K4 L9=> ?_) (fun u_ u_ q=>by exact iQ q)))
 refine jP q fun zz1 zz2=> ?_;subst zz1;subst zz2;exact⟨Lz,LQ.trans (K4.toS Mh LK),K4.env Mh LK,.ret L9⟩
section
variable {r P P':List Addr}
theorem Pl.Le.less(k: ∀a∈P,a∈P'):Pl.Le h ⟨r,P'⟩ ⟨r,P⟩:=⟨GU _,fun a o f u_=>⟨f.1,fun m=>f.2 (k a m)⟩⟩
theorem R.less(c:Cx)(k: ∀a∈P,a∈P')(x:R h ⟨r,P'⟩ y v):R h ⟨r,P⟩ y v:=R.mono (c:=c) (S:=[]) (Pl.Off.nil _) (eg.refl [] h) (Pl.Le.less k) x
theorem kl.less(c:Cx)(k: ∀a∈P,a∈P'){y:Option V}{v:Option Value}(x:kl h ⟨r,P'⟩ y v):kl h ⟨r,P⟩ y v:=kl.mono (c:=c) (S:=[]) (Pl.Off.nil _) (eg.refl [] h) (Pl.Le.less k) x
theorem dn.less(c:Cx)(k: ∀a∈P,a∈P'){f:Value}(x:dn h ⟨r,P'⟩ f):dn h ⟨r,P⟩ f:=dn.mono (c:=c) (S:=[]) (Pl.Off.nil _) (eg.refl [] h) (Pl.Le.less k) x
theorem bC.lessB(c:Cx)(k: ∀a∈P,a∈P'):(∀{t I a},bC h ⟨r,P'⟩ t I a→(∀x∈I,x∈P)→bC h ⟨r,P⟩ t I a)∧(∀{ts I as},bD h ⟨r,P'⟩ ts I as→(∀x∈I,x∈P)→bD h ⟨r,P⟩ ts I as):=
 bC.both (P:=fun t I a=>(∀x∈I,x∈P)→bC h ⟨r,P⟩ t I a) (Q:=fun ts I as=>(∀x∈I,x∈P)→bD h ⟨r,P⟩ ts I as)
  (fun e x u_ i=> .seq e (x.less c k) (i _ (.head _))) (fun e x u_ i=> .lst e x (i _ (.head _))) (fun e u_ i=> .rng e (i _ (.head _))) (fun e x u_ i=> .revl e x (i _ (.head _))) (fun e x u_ i=> .revt e (x.less c k) (i _ (.head _)))
  (fun e1 H e2 e3 l u_ ts u_ u_ u_ n1 n2 n3 n4 n5 n6 i=> .zip e1 (H.less c k) e2 e3 l (ts fun x m=>i x (.tail _ (.tail _ (.tail _ m)))) (i _ (.head _)) (i _ (.tail _ (.head _))) (i _ (.tail _ (.tail _ (.head _)))) n1 n2 n3 n4 n5 n6)
  (fun e H u_ t u_ n i=> .enum e (H.less c k) (t fun x m=>i x (.tail _ m)) (i _ (.head _)) n) (fun u_=> .nil)
  fun u_ t u_ ts n i=> .cons (t fun x m=>i x (G9 _ m)) (ts fun x m=>i x (Hh _ m)) n
theorem bC.less(c:Cx)(k: ∀a∈P,a∈P')(i: ∀x∈I,x∈P)(x:bC h ⟨r,P'⟩ t I a):bC h ⟨r,P⟩ t I a:=(bC.lessB c k).1 x i
theorem aQ.less(k: ∀a∈P,a∈P')(x:aQ c ⟨r,P'⟩ σ h):aQ c ⟨r,P⟩ σ h where
 nodup:=x.nodup
 len:=x.len
 at_:=fun i a l h1 h2=>(x.at_ i a l h1 h2).mono (c:=c) (S:=[]) (Pl.Off.nil _) (eg.refl [] h) (Pl.Le.less k) (by exact He)
 low:=x.low
 plow:=fun a m=>x.plow a (k a m)
 disj:=fun a m=>x.disj a (k a m)
theorem ad.less{D:List Addr}(k: ∀a∈P,a∈P')(Lu: ∀a∈KW.p,a∈P)(x:ad c D KW KN ⟨r,P'⟩ σ s):ad c D KW KN ⟨r,P⟩ σ s:=
 ⟨x.pre,x.new,fun a m=>x.pnew a (k a m),Lu,x.sto.less k,x.ext,x.rest,x.gd⟩
theorem a_.less(c:Cx)(k: ∀a∈P,a∈P')(nc: ∀x,en.names.lookup x≠some .cell)(ho:env.locals∈P)(x:a_ h ⟨r,P'⟩ env en):a_ h ⟨r,P⟩ env en where
 kind:=x.kind
 names:=x.names
 gl:=x.gl
 bi:=x.bi
 lo:=aK x.lo fun m n q=>⟨m,n,fun y hy=>(q y hy).less c k⟩
 ce:=fun y hy=>absurd hy (nc y)
 fr:=fun y hy=>dC (x.fr y hy) fun a w h1 h2 h3=>⟨a,w,h1,h2,h3.less c k⟩
 out:=ho
 ap:=x.ap
 cd:=x.cd
theorem At.less{LZ:En}(k: ∀a∈P,a∈P')(nc: ∀x,en.names.lookup x≠some .cell)(Lp:At c A env LZ ⟨K6,P⟩ Lb KN d)(x:At c A env en ⟨r,P'⟩ σ s d):At c A env en ⟨r,P⟩ σ s d:=by
 refine⟨x.ok,x.st.less k,x.gd,x.er.less c k nc Lp.er.out,⟨x.room.hand,x.room.depth,x.room.units,?_⟩⟩;refine aK x.room.frames fun l hl ff=> ?_;refine aK Lp.room.frames fun l₀ My ff₀=> ?_;rw[hl]at My;obtain rfl:=IF My;refine⟨l,hl,fun e m=> ?_⟩;refine lh (ff e m) fun h1 L o h2 h3 h4 h5 h6=> ?_;refine lT (ff₀ e m) fun u_ L₀ o₀ g2 g3 u_=> ?_;rw[h2]at g2;obtain rfl:=IF g2;exact⟨h1,L,o,h2,g3,h4,h5,h6⟩
end
theorem ad.gens{D:List Addr}{gs:Array GenState}(x:ad c D KW KN ρ σ s)(h1:KN.gens.size≤gs.size)(h2: ∀i,i<KN.gens.size→gs[i]? =KN.gens[i]?)(h3:(∀x∈KN.gens,x.bare=true)→ ∀x∈gs,x.bare=true):
 ad c D KW KN ρ σ {s with gens:=gs}:=⟨x.pre,x.new,x.pnew,x.pold,x.sto,x.ext,⟨x.rest.drawn,x.rest.os,h1,h2,h3,x.rest.hsize⟩,x.gd⟩
theorem ad.setGen{D:List Addr}{g:Nat}(x:ad c D KW KN ρ σ s)(hg:KN.gens.size≤g)(hb:gs.bare=true):ad c D KW KN ρ σ (s.setGen g gs):=by
 refine x.gens (gs:=(s.setGen g gs).gens) ?_ (fun i hi=> ?_) fun h=> ?_
 ·show _≤(s.gens.setIfInBounds g gs).size;rw[Array.size_setIfInBounds];exact x.rest.gsize
 ·show(s.gens.setIfInBounds g gs)[i]? =_
  rw[Array.getElem?_setIfInBounds_ne (by omega)]
  exact x.rest.gold i hi
 ·intro y hy;have h':=x.rest.bare h;obtain⟨i,hi,rfl⟩:=Array.mem_iff_getElem.mp hy
  have hi':i<s.gens.size:=by simpa [Shared.setGen]using hi
  by_cases q:g=i
  ·subst q
   have:(s.setGen g gs).gens[g]=gs:=by simp[Shared.setGen]
   rw[this];exact hb
  ·have:(s.setGen g gs).gens[i]=s.gens[i]:=by show(s.gens.setIfInBounds g gs)[i]=_;exact Array.getElem_setIfInBounds_ne hi' q
   rw[this];exact h' _ (Array.getElem_mem hi')
theorem At.setGen{g:Nat}(a:At c A env en ρ σ s d):At c A env en ρ σ (s.setGen g gs) d:=⟨a.ok,a.st,a.gd,a.er,a.room⟩
noncomputable def mY(g:uM)(tr:lu)(f:fP)(target:Expr)(ifs:List Expr)(elt:Expr):Nat→En→Sg→It→Option (Option (V×En×It)×Sg)
 |0,_,_,_=>none
 |n+1,en,σ,t=>(ay σ t).bind fun r=>match r with
  |none=>some (none,σ)
  |some p=>(g target en σ p.1).bind fun q=>(bL tr q.1 q.2 ifs).bind fun b=>match b.1 with
   |true=>(f q.1 b.2 elt).bind fun o=>(uL o).map fun y=>(some (y.1,q.1,p.2),y.2)
   |false=>mY g tr f target ifs elt n q.1 b.2 p.2
theorem gnE{r:Option (V×En×It)×Sg}(e:mY g tr f target ifs elt (n+1) en σ t=some r)(k0:ay σ t=some none→(none,σ)=r→P)
 (k1: ∀x t' KS KC KG b,ay σ t=some (some (x,t'))→g target en σ x=some (KS,KC)→bL tr KS KC ifs=some (b,KG)→(b=true→ ∃y KZ,f KS KG elt=some (.ok y KZ)∧(some (y,KS,t'),KZ)=r)→(b=false→mY g tr f target ifs elt n KS KG t'=some r)→P):P:=
 ae e fun z hn e=>by
  cases z with
  |none=>exact k0 hn (IF e)
  |some p=>exact ae e fun q hg e=>ae e fun b ht e=>k1 _ _ _ _ b.2 b.1 hn hg ht (fun hb=>by
   rw[hb]at e
   exact ae e fun o ho e=>aP e fun y hy e=>⟨y.1,y.2,qB hy▸ho,e⟩) fun hb=>by rw[hb]at e;exact e
noncomputable abbrev zI:=En→Sg→It→Option (Option (V×En×It)×Sg)
noncomputable abbrev sD:=V×En×Sg×It
noncomputable def nh(nx:zI):En→Sg→It→List sD→Option Sg→Prop
 |_,_,_,[],none=>True
 |en,σ,t,[],some KB=>nx en σ t=some (none,KB)
 |en,σ,t,(y,en',KB,t')::l,e=>nx en σ t=some (some (y,en',t'),KB)∧nh nx en' KB t' l e
theorem pU(hg: ∀t en σ y en' KB,g t en σ y=some (en',KB)→en'.names=en.names): ∀{en en':En} {σ KB:Sg} {l:List V},fz g es en σ l=some (en',KB)→en'.names=en.names:=by
 induction es with
 |nil=>intro en en' σ KB l e;cases l with
  |nil=>cases IF e;rfl
  |cons=>exact no e
 |cons t ts ih=>intro en en' σ KB l e;cases l with
  |nil=>exact no e
  |cons y ys=>exact ae e fun p h1 w=>(ih w).trans (hg _ _ _ _ _ _ h1)
theorem lH(n:Nat): ∀t en σ y en' KB,dq n t en σ y=some (en',KB)→en'.names=en.names:=by
 induction n with
 |zero=>intro t en σ y en' KB e;exact no e
 |succ n ih=>
  intro t en σ y en' KB e
  cases t with
  |Name x p=>exact bI (show(if(en.names.lookup x==some .local)=true then some (en.set x y,σ)else none)=some (en',KB)from e) fun u_ w=>by obtain⟨rfl,rfl⟩:=Prod.mk.inj (IF w);rfl
  |Tuple es k p=>exact ae (show((eN y).bind fun l=>if al es=true then fz (dq n) es en σ l else none)=some (en',KB)from e) fun l hl w=>bI w fun u_ w=>pU ih w
  |_=>exact no e
end
variable {nx:zI}{pre rem:List sD}
section
variable {env:Env}{d:Nat}
set_option genInjectivity false in
structure gP where
 A₁:Around
 cenv:Env
 P:List Addr
 Ip:List Addr
 a:Addr
 ρc:Pl
 sc:Shared
 target:Expr
 elt:Expr
 iter:Expr
 ifs:List Expr
 scope:Scope
 pos:Pos
 d:Nat
 L:List sD
 e:Option Sg
noncomputable def gP.D(G:gP):List Addr:=G.cenv.locals::G.Ip
noncomputable def gP.X(G:gP):Expr:= .GeneratorExp G.elt [⟨G.target,G.iter,G.ifs,0⟩] G.scope G.pos
noncomputable def gP.code(G:gP):Code:= .compLoop G.X 0 (.ref G.a) .none G.cenv
noncomputable def gP.rnd(G:gP):Around:=G.A₁.over G.code []
variable (c)in
structure gC(G:gP)(r:List Addr)(en:En)(σ:Sg)(t:It)(s:Shared):Prop where
 step:af c G.ρc G.sc ⟨r,G.P⟩ σ s
 at_:At c G.rnd G.cenv en ⟨r,G.P⟩ σ s G.d
 itr:bC s.heap ⟨r,G.P⟩ t G.Ip G.a
variable (c)in
noncomputable def gY(G:gP):Protocol:=fun m KN v s kap=> ∃pre y en σ t l',G.L=pre++(y,en,σ,t)::l'∧l'.length=m∧ ∃K6 r Lb,aQ c ⟨K6,G.P⟩ Lb KN.heap∧ad c G.D ⟨K6,G.P⟩ KN ⟨r,G.P⟩ σ s∧gC c G r en σ t s∧R s.heap ⟨r,G.P⟩ y v∧
 ((l'≠[]∨G.e.isSome=true)→ ∀s'' r'',gC c G r'' en σ t s''→kap (.send .none) s'')
variable (c)in
noncomputable def gR(G:gP):GenEnd:=fun n KN r s=>r= .ok .next∧(n=0∧ ∃KB,G.e=some KB∧ ∃K6 KM Lb,aQ c ⟨K6,G.P⟩ Lb KN.heap∧ad c G.D ⟨K6,G.P⟩ KN ⟨KM,G.P⟩ KB s∧af c G.ρc G.sc ⟨KM,G.P⟩ KB s)
variable (c)in
noncomputable abbrev Cd(G:gP)(n:Nat)(KN:Shared)(t:Sem Fin)(s:Shared):Prop:=Seg (model c.prog c.w) G.A₁ (gR c G) (gY c G) n KN G.code t [] s
structure oU(G:gP):Prop where
 ρP: ∀x∈G.ρc.p,x∈G.P
 ipP: ∀x∈G.Ip,x∈G.P
 newI: ∀b∈G.Ip,G.sc.heap.objs.size≤b
 newC:G.sc.heap.objs.size≤G.cenv.locals
 co:G.cenv.scope.isCoroutine=false
theorem pt{G:gP}(ok:oU G)(ht:eO c G.d tr)(hf:bE c G.d f){LZ:En}{res:Option (V×En×It)}(Lp:At c G.rnd G.cenv LZ ⟨K6,G.P⟩ Lb KN G.d)
 (hend:res=none→n=0∧G.e=some KB)
 (hyld: ∀y en' t',res=some (y,en',t')→ ∃m pre l',n=m+1∧G.L=pre++(y,en',KB,t')::l'∧l'.length=m∧((l'≠[]∨G.e.isSome=true)→ ∀s'' r'',gC c G r'' en' KB t' s''→Cd c G m s'' ((model c.prog c.w).den G.code) s'')):
 ∀(fuel:Nat) {en:En} {σ:Sg} {t:It} {ρ:Pl} {s:Shared},mY (dq 8) tr f G.target G.ifs G.elt fuel en σ t=some (res,KB)→(∀x∈G.P,x∈ρ.p)→(∀x,en.names.lookup x≠some .cell)→ad c G.D ⟨K6,G.P⟩ KN ρ σ s→af c G.ρc G.sc ρ σ s→At c G.rnd G.cenv en ρ σ s G.d→bC s.heap ρ t G.Ip G.a→
  Cd c G n KN ((model c.prog c.w).den G.code) s:=by
 intro fuel
 induction fuel with
 |zero=>intro en σ t ρ s e;exact no e
 |succ fuel ih=>
  intro en σ t ρ s e kP nc S T a i;have ip:=i.priv.1;have newI:=ok.newI;show Seg _ _ _ _ _ KN _ ((compTurn (.GeneratorExp G.elt [⟨G.target,G.iter,G.ifs,0⟩] G.scope G.pos) 0 (.ref G.a) .none G.cenv).onRaise (leaving G.cenv)) [] s;rw[compTurn_gen,Sem.onRaise_eq_wrap];refine IW (IT ?_);have inD: ∀b∈G.Ip,b∈G.D:=fun b m=> .tail _ m;refine gnE e (fun hn e=> ?_) fun x t' KS KC KG b hn LA htt ky kn=> ?_
  ·refine rL e fun q1 q2=> ?_;refine oA (hend q1.symm) fun zz0 he=> ?_;subst zz0;refine IW (It.pull0 a.room.hand a.ok a.st a.gd i hn fun KF KE=> ?_);exact seg_end (.ok .next) ⟨rfl,rfl,σ,he.trans (congrArg some q2.symm),K6,ρ.r,Lb,Lp.st,(S.trans (KE.wider inD)).less kP fun x m=>m,(T.fresh KE newI).less kP ok.ρP⟩
  ·refine IW (It.pull a.room.hand a.ok a.st a.gd i hn fun w KF KE rv Lq=> ?_);have KR:=a.plain ip i.objs KE;refine IW (iL KR.ok KR.st KR.gd Lq fun KI KH Lh=> ?_);have K7:=KR.plain ip Lq.objs KH;have hn1:=lH 8 _ _ _ _ _ _ LA;refine IW (m5 8 LA K7 (ad.R ip KH rv) fun Ls K8 KT Md LK=> ?_);have Ld:=K7.local KT Md LK;refine IW (ll ht htt Ld fun Lz LH K4=> ?_);have LL:=Ld.step K4;have LI:=(((T.fresh KE newI).fresh KH newI).fresh KT (dB ok.newC)).trans K4;have U₄:=((((S.trans (KE.wider inD)).trans (KH.wider inD)).trans (KT.wider (dB (p:=fun b=>b∈G.D) (.head _)))).trans K4.D)
   have LE:=K4.itr Ld.st (ad.itr K7.st (dB K7.er.out) (fun b m q=>aW.locals Lh.objs K7.er (by rw[GP.mp q]at m;exact m)) KT Lh)
   have Mz: ∀x∈G.P,x∈Lz.p:=fun x m=>K4.pold x (KT.pold x (kP x m))
   have MA: ∀x,KS.names.lookup x≠some .cell:=fun x=>by rw[hn1];exact nc x
   cases b with
   |true=>
    refine bf (ky rfl) fun y KZ hy q=> ?_;refine rL q fun q1 q2=> ?_;obtain rfl:=q2.symm;simp only[if_true];refine iU (hyld _ _ _ q1.symm) fun m pre l' zz3 hL hl hk=> ?_;subst zz3
    have hyo: ∀v,yieldOut G.cenv v=yieldValue v:=fun v=>by simp only[yieldOut,ok.co,Gk,if_false]
    simp only[hyo];rw[Sem.bind_eq_wrap',Sem.bind_eq_wrap',Sem.wrap_wrap,Sem.wrap_wrap]
    refine seg_wrap (au.go (hf hy LL) (fun x' Ll q w₅ s₅ LY Lg L0=> ?_) (fun u_ u_ q=>by exact iQ q))
    refine jP q fun zz1 zz2=> ?_;subst zz1;subst zz2;have L3: ∀x∈G.P,x∈LY.p:=fun x m=>Lg.pold x (Mz x m);refine seg_at (seg_yield rfl rfl rfl ⟨pre,y,KS,KB,t',l',hL,hl,K6,LY.r,Lb,Lp.st,(U₄.trans Lg.D).less L3 (fun x m=>m),⟨(LI.trans Lg).less L3 ok.ρP,At.less L3 MA Lp (LL.step Lg),(Lg.itr LL.st LE).less c L3 ok.ipP⟩,L0.less c L3,fun hw s'' r'' ga=> ?_⟩);exact seg_again rfl (hk hw s'' r'' ga)
   |false=>
    simp only[Gk,if_false];exact seg_again rfl (ih (kn rfl) Mz MA U₄ LI LL LE)
theorem s_: ∀(fuel:Nat) {en:En} {σ:Sg} {t:It} {y:V} {en':En} {t':It} {KB:Sg},mY (dq 8) tr f target ifs elt fuel en σ t=some (some (y,en',t'),KB)→en'.names=en.names:=by
 intro fuel
 induction fuel with
 |zero=>intro en σ t y en' t' KB e;exact no e
 |succ fuel ih=>
  intro en σ t y en' t' KB e;refine gnE e (fun u_ q=>rL q fun q u_=>no q) fun x t₁ KS KC KG b u_ LA u_ ky kn=> ?_;have hn1:=lH 8 _ _ _ _ _ _ LA
  cases b with
  |true=>refine bf (ky rfl) fun u_ u_ u_ q=> ?_;exact rL q fun q u_=>(congrArg (fun o=>(o.elim en (·.2.1)).names) q).symm.trans hn1
  |false=>rw[ih (kn rfl),hn1]
theorem wi{G:gP}(ok:oU G)(ht:eO c G.d tr)(hf:bE c G.d f): ∀(rem pre:List sD) {en:En} {σ:Sg} {t:It},G.L=pre++rem→nh (mY (dq 8) tr f G.target G.ifs G.elt az) en σ t rem G.e→(rem≠[]∨G.e.isSome=true)→(∀x,en.names.lookup x≠some .cell)→
 ∀s r,gC c G r en σ t s→Cd c G rem.length s ((model c.prog c.w).den G.code) s:=by
 intro rem
 induction rem with
 |nil=>
  intro pre en σ t hL hc hw nc s r ga
  cases he:G.e with
  |none=>rw[he]at hw;simp at hw
  |some KB=>
   rw[he]at hc
   exact pt ok ht hf ga.at_ (fun u_=>⟨rfl,he⟩) (fun u_ u_ u_ q=>by exact no q) az hc (fun x m=>m) nc (ad.refl ga.at_.st ga.at_.gd) ga.step ga.at_ ga.itr
 |cons x rem ih=>
  intro pre en σ t hL hc hw nc s r ga;obtain⟨y,en',KB,t'⟩:=x;refine oA hc fun h1 h2=> ?_
  refine pt ok ht hf ga.at_ (fun q=>by exact EC q) (fun y₁ KS t₁ q=> ?_) az h1 (fun x m=>m) nc (ad.refl ga.at_.st ga.at_.gd) ga.step ga.at_ ga.itr
  refine rL (IF q) fun a q=>rL q fun b d=> ?_;subst a;subst b;subst d;refine⟨rem.length,pre,rem,rfl,hL,rfl,fun hw s'' r'' ga'=> ?_⟩
  exact ih (pre++[(y,en',KB,t')]) (by rw[hL];simp) h2 hw (fun x=>by rw[s_ az h1];exact nc x) s'' r'' ga'
end
section
variable {env:Env}{d:Nat}
variable (c)in
structure fb(G:gP)(g:Nat)(ga:Addr)(pre rem:List sD)(r:List Addr)(en:En)(σ:Sg)(t:It)(s:Shared):Prop where
 hL:G.L=pre++rem
 gen:s.heap.IsGen ga g
 st:gC c G r en σ t s
 gs: ∃gs,s.gens[g]? =some gs∧((rem≠[]∨G.e.isSome=true)→ ∀s'' r'',gC c G r'' en σ t s''→gs.Goes (model c.prog c.w) G.A₁ (gR c G) (gY c G) rem.length (.send .none) s'')
noncomputable def sO(c:Cx)(G:gP)(s s':Shared):Prop:= ∃K6 Lb,aQ c ⟨K6,G.P⟩ Lb s.heap∧eg c (G.D++K6) s.heap s'.heap
structure dm(G:gP)(g:Nat)(ga:Addr)(A:Around):Prop where
 a1:G.A₁=A.in1
 gnew:G.sc.gens.size≤g
 gaP:ga∈G.P
 gaD:ga∉G.D
 hand:A.handled=none
 room:A.depth<recursionLimit
theorem gC.setGen{G:gP}{r:List Addr}{g:Nat}(x:gC c G r en σ t s)(hg:G.sc.gens.size≤g)(hb:gs.bare=true):gC c G r en σ t (s.setGen g gs):=
 ⟨x.step.setGen hg hb,x.at_.setGen,x.itr⟩
theorem uE{G:gP}{g:Nat}(hD:ga∉G.D)(hP:ga∈G.P)(st:aQ c ⟨K6,G.P⟩ Lb h)(x:eg c (G.D++K6) h h')(i:h.IsGen ga g):h'.IsGen ga g:=by
 refine iU i fun o nm qn ho h1 h2 h3=> ?_;have hn:ga∉G.D++K6:=fun m=>(GN.mp m).elim hD (st.disj ga hP);refine aK (x ga o hn ho) fun o' ho' q=> ?_
 have:o'=o:=q.frz (by unfold uK hZ;rw[h2];simp[h1])
 subst this;exact⟨_,nm,qn,ho',h1,h2,h3⟩
theorem cV{G:gP}{g:Nat}{r:List Addr}(ok:oU G)(kn:dm G g ga A)(x:fb c G g ga pre rem r en σ t s)(hw:rem≠[]∨G.e.isSome=true):
 d_ c A ga s (fun v s'=> ∃y en' KB t' l r',rem=(y,en',KB,t')::l∧fb c G g ga (pre++[(y,en',KB,t')]) l r' en' KB t' s'∧R s'.heap ⟨r',G.P⟩ y v∧sO c G s s')
  (fun s'=>rem=[]∧ ∃KB r',G.e=some KB∧af c G.ρc G.sc ⟨r',G.P⟩ KB s'∧sO c G s s'):=by
 refine dw fun kk=> ?_;obtain⟨hL,hg,st,gs,hgs,hgo⟩:=x<;>(refine kk ?_;clear kk)
 have hgo:=hgo hw _ r (st.setGen (gs:= .running) kn.gnew rfl)
 change let Q0:=_;IG _ _ _ Q0 _ _;intros
 change let E1:=_;IG _ _ _ _ E1 _;intro E1
 refine IU (name:=Kn "__next__") hg.typeIs slot_gen_next (IR slot_gen_next hg.typeIs entry_gen_next ?_ (args_gen_next _));refine(?_:IG _ A.in1 (Builtin.Generator.genWake (.ref ga) (.send .none)) _ _ s);unfold Builtin.Generator.genWake
 change let K1:=_;let Q1:=_;IG _ _ (_>>=K1) Q1 _ _;intro K1 Q1
 refine IH (IM (wpAny_genNumber hg (IH (wpAny_genState hgs ?_))));rw[kn.a1]at hgo
 suffices main: ∀(K:GenResult→Sem Fin) (J:Unit→Sem Fin),(∀v,K (.yielded v)=ret v)→K (.returned .none)=(newExc (.type "StopIteration") []>>=fun l=>raiseNew l>>=J)→IG (model c.prog c.w) A.in1 (roomToWake>>=fun u_=>resume g (.send .none)>>=K) Q1 E1 s by
  cases gs with
  |running=>exact hgo.elim
  |finished=>exact hgo.elim
  |_=>exact main _ _ (fun u_=>rfl) rfl
 intro K J k1 k2
 refine IH (wpAny_roomToWake st.at_.gd.lim kn.room ?_)
 refine(?_:IG _ A.in1 (.resume g (.send .none) [] _) _ _ s);refine wpAny_resumeQ hgs hgo (fun xx KF hx=> ?_) (fun v KF gs' hb hv=> ?_)
 ·obtain⟨rfl,hn,KB,he,K6,KM,Lb,LX,S,T⟩:=hx;refine(?_:IG _ _ (K (.returned .none)) _ _ _);rw[k2]
  refine IH (j_ fun o1 o2 c2 f2=>IH (Jl (show A.in1.handled=none from kn.hand) ⟨dS c2 f2,Hl.mp hn,KB,KM,he,?_,K6,Lb,LX,?_⟩))
  ·have T':=T.setGen (g:=g) (gs:= .finished) kn.gnew rfl
   exact T'.trans (ad.push2 (t:=KF.toks) st.at_.ok T'.sto T'.gd)
  ·exact S.ext.trans (eg.of_keeps fun b o u_ e=>J8 _ (J8 _ e))
 ·refine dw fun kk=> ?_;obtain⟨pre',y,en',KB,t',l',hL',hl,K6,KM,Lb,LX,S,ga',rv,hk⟩:=hv<;>(refine kk ?_;clear kk)
  refine(?_:IG _ _ (K (.yielded v)) _ _ _);rw[k1];refine II ⟨v,rfl,v,rfl,?_⟩
  cases rem with
  |nil=>exact(hk (.inr (hw.resolve_left nofun)) KF KM ga').elim
  |cons x' l=>
   have hlen:l'.length=l.length:=by simpa using hl
   have:=List.append_inj' (hL.symm.trans hL') (by simp[hlen])
   obtain⟨rfl,hx⟩:=this
   cases hx
   refine⟨y,en',KB,t',_,KM,rfl,⟨by rw[hL];simp,?_,ga'.setGen kn.gnew hb,gs',setGen_self (gs:= .running) ?_,fun hw' s'' r'' g''=> ?_⟩,rv,K6,Lb,LX,S.ext⟩
   ·exact uE kn.gaD kn.gaP LX S.ext hg
   ·refine(S.rest.gold g ?_).trans (setGen_self hgs);have:=setGen_self (x:= .running) hgs;exact(Ge.mp this).1
   ·have:=hk hw' s'' r'' g'';refine(kn.a1).symm▸ ?_;exact this
theorem nX{o:Obj}{vs:Array Value}{f:Array Value→Array Value}(h:o.data= .fields vs):Kg f o={o with data:= .fields (f vs)}:=by
 obtain⟨a,b,e,k⟩:=o;subst h;rfl
theorem mi{cc P:Addr}{qn:Str}(hc:env.code= .ref cc)(ok:c.Ok)(st:aQ c ρ σ s.heap)(g:Gd c s.heap)(hm:(cc,P)∈c.cs)
 (h: ∀code s',af c ρ s ρ σ s'→Q code s'):IG (model c.prog c.w) A (genexprCode env pos qn scope) Q E s:=by
 refine aK (g.codes _ hm) fun ps hok hcls=> ?_;refine dw fun kk=> ?_;obtain⟨o,vs,file,tf,flags,tg,inF,text,tt,op,ho,hd,h11,h2,h7,h9,h10,hop,hpd,htr,hne⟩:=(id hok);refine kk ?_;clear kk;have hPT:P∈c.T:=ok.tcs _ hm;unfold genexprCode codeAt
 rw[hc,if_neg (show¬((Ko cc==Kq)=true)from Gi)]
 refine IH (wpAny_fieldsOf ho hd ?_);refine(h11).symm▸ ?_;refine IH (wpAny_fieldsOf hop hpd ?_)
 cases hnf:codeAmong pos ps.toList with
 |some cv=>exact II (h cv s (.refl st g))
 |none=>
  rw[h2,h7,h9,h10];refine IH (bw (wpAny_newCode fun c' P' h' tk hk hc' hP' hcode' hrec' hz=> ?_));have hop':=hk _ _ hop;refine IH (wpAny_updateFieldsOfTheText hop' hpd ?_)
  have hnew:(Kg (fun vs=>if(codeAmong pos vs.toList).isSome=true then vs else vs++ #[rawInt pos.line,rawInt pos.col,.ref c']) op).data=
   .fields (ps++ #[rawInt pos.line,rawInt pos.col,.ref c']):=by
   rw[Ki hpd,hnf];rfl
  have hget:=J' (h:=h') (fun o=>Kg (fun vs=>if(codeAmong pos vs.toList).isSome=true then vs else
   vs++ #[rawInt pos.line,rawInt pos.col,.ref c']) o) hop' (Kj hnew)
  refine IH (wpAny_fieldsOf hget hnew ?_)
  have hl:(ps++ #[rawInt pos.line,rawInt pos.col,Ko c']).toList=ps.toList++[rawInt pos.line,rawInt pos.col,.ref c']:=by simp
  rw[hl,codeAmong_snoc _ htr hnf]
  generalize hh:h'.update P (fun o=>Kg (fun vs=>if(codeAmong pos vs.toList).isSome=true then vs else vs++ #[rawInt pos.line,rawInt pos.col,.ref c']) o)=h'' at hget⊢
  have keep: ∀b o,b≠P→s.heap.get? b=some o→h''.get? b=some o:=fun b o hb e=>by
   rw[←hh];exact(Kd ..).extBut b o hb (hk b o e)
  have hz':s.heap.objs.size≤h''.objs.size:=by rw[←hh,Kb];exact hz
  have hobj:Kg (fun vs=>if(codeAmong pos vs.toList).isSome=true then vs else vs++ #[rawInt pos.line,rawInt pos.col,.ref c']) op={op with data:= .fields (ps++ #[rawInt pos.line,rawInt pos.col,.ref c'])}:=by
   rw[nX hpd,hnf];rfl
  rw[hobj]at hget
  have ex:eg c [] s.heap h'':=fun b o' u_ e=>by
   by_cases hb:b=P
   ·subst hb;rw[hop]at e;obtain rfl:=IF e;exact⟨_,hget,.inr (.inr ⟨hPT,hcls _ hop,ps,_,hpd,rfl⟩)⟩
   ·exact⟨o',keep b o' hb e,.refl b o'⟩
  refine II (h _ _ ⟨GU _,fun u_ m=> .inl m,fun u_ m=> .inl m,fun u_ m=>m,st.mono (S:=[]) (P:=ρ.p) (Pl.Off.nil _) ex (by simp) hz' (fun u_ m=> .inl m) g.size,ex.mono (G7 _),.heap hz',g.step ok ck ex (fun p hp=> ?_) hz'⟩)
  by_cases hpP:p.2=P
  ·as_aux_lemma=>
    refine aK (g.codes p hp) fun ps2 i2 cl2=> ?_;refine dw fun kk=> ?_;obtain⟨o2,vs2,file2,tf2,flags2,tg2,inF2,text2,tt2,op2,k1,k2,k3,k4,k5,k6,k7,k8,k9,k10,k11⟩:=i2;refine kk ?_;clear kk;rw[hpP]at k3 k8 k11;rw[hop]at k8;obtain rfl:=IF k8;rw[hpd]at k9
    cases k9
    have n1:p.1≠P:=k11
    refine⟨ps++ #[rawInt pos.line,rawInt pos.col,.ref c'],⟨o2,vs2,file2,tf2,flags2,tg2,inF2,text2,tt2,_,keep _ _ n1 k1,k2,by rw[hpP];exact k3,k4,k5,k6,k7,by rw[hpP];exact hget,rfl,by rw[hl];exact TriplesOk_snoc _ _ _ _ htr,by rw[hpP];exact n1⟩,fun o' e=> ?_⟩
    rw[hpP,hget]at e;obtain rfl:=IF e;show op.cls= .none;exact hcls _ hop
  ·exact(g.codes p hp).keep (fun o q=>keep _ _ (fun m=>(ok.cold p hp).2 (m▸hPT)) q) fun o q=>keep _ _ hpP q
theorem pT{Q:Addr→Shared→Prop}{r:Addr}(ok:c.Ok)(g:Gd c s.heap)(h:Q builtinsNs s):IG (model c.prog c.w) A (builtinsFor mainGlobals r) Q E s:=by
 obtain⟨bm,o,h1,h2,h3,h4,h5,h6⟩:=ok.bmod;exact wpAny_builtinsFor g.gl h1 h2 (g.stays _ _ h3) h4 h5 h6 h
noncomputable def dD(names:List (Str×NameKind))(en:En):En:=⟨names,[],(en.own.filter fun p=>en.names.lookup p.1==some .cell)++(en.fre.filter fun p=>en.names.lookup p.1==some .free),none⟩
theorem zn{it:Value}{code:Value}{gobj:Obj}{t:Nat}(ok:c.Ok)(a:At c A env en ρ σ s d)(hk:scope.kind= .function)(ho:d7 scope.names en=true)(hn:h'.Ns s.heap.objs.size fun x=>if x=".0" then some it else none)
 (sb:Ka s.heap.objs.size (s.heap.push {cls:= .type "frame",data:= .dict #[]}) h'):
 af c ρ s ⟨ρ.r,h'.objs.size::s.heap.objs.size::ρ.p⟩ σ {s with heap:=h'.push gobj,toks:=t}∧
  a_ (h'.push gobj) ⟨ρ.r,h'.objs.size::s.heap.objs.size::ρ.p⟩ (genEnv scope (jG env.cells scope.names []) s.heap.objs.size code builtinsNs env) (dD scope.names en):=by
 refine mN (fF ho) fun o1 o2 o3=> ?_
 have hz:h'.objs.size=s.heap.objs.size+1:=by rw[sb.1,J9]
 have S:af c ρ s ⟨ρ.r,h'.objs.size::s.heap.objs.size::ρ.p⟩ σ {s with heap:=h'.push gobj,toks:=t}:=by
  refine ad.write ok a.st a.gd (by exact G7 _) (fun b o u_ e=> ?_) (by rw[J9,hz];exact H1 _ 2) (fun b m=> ?_) (fun b m=> .tail _ (.tail _ m))
  ·exact J8 _ ((sb.2 b (Io (J_ e))).trans (J8 _ e))
  ·rw[J9]
   rcases GW.mp m with rfl|m
   ·exact .inr ⟨by rw[hz];exact H0 _,HY _⟩
   ·rcases GW.mp m with rfl|m
    ·exact .inr ⟨HW _,Ij (by rw[hz];exact HY _)⟩
    ·exact .inl m
 refine⟨S,?_⟩;have er:=S.env a.st a.er;have fr:=a.er.frees o3
 refine⟨hk,rfl,er.gl,rfl,⟨_,hn.push _,fun x hx=> .no⟩,fun x hx=>absurd rfl (o1 _ (mem_of_lookup hx)),fun x hx=> ?_,.tail _ (.head _),fun y z b h1 h2=> ?_,fun cc h=>by exact no h⟩
 ·have hm:(x,Ke)∈scope.names:=mem_of_lookup hx
  rcases o3 _ hm rfl with q|q
  ·refine bS (er.ce x q) fun b w g1 g2 g3 g4=> ?_;refine⟨b,w,?_,g2,?_⟩
   ·show(jG env.cells scope.names []).lookup x=some b;rw[nR hm,g1];rfl
   ·show kl _ _ (((en.own.filter fun p=>en.names.lookup p.1==some .cell)++(en.fre.filter fun p=>en.names.lookup p.1==some .free)).lookup x) w
    rw[HD,aZ (q:=fun x=>en.names.lookup x==some .cell),aZ (q:=fun x=>en.names.lookup x==some .free),show en.names.lookup x=some .cell from q]
    simpa using g4
  ·refine dC (er.fr x q) fun b w g1 g2 g4=> ?_;refine⟨b,w,?_,g2,?_⟩
   ·show(jG env.cells scope.names []).lookup x=some b;rw[nR hm,g1];rfl
   ·show kl _ _ (((en.own.filter fun p=>en.names.lookup p.1==some .cell)++(en.fre.filter fun p=>en.names.lookup p.1==some .free)).lookup x) w
    rw[HD,aZ (q:=fun x=>en.names.lookup x==some .cell),aZ (q:=fun x=>en.names.lookup x==some .free),show en.names.lookup x=some .free from q]
    trivial
 ·exact a.er.ap y z b (jq fr h1) (jq fr h2)
noncomputable def fG(e:Expr):Bool:= !(e.ctorIdx.beq 24||e.ctorIdx.beq 7)
theorem mZ(h:fG e=true)(x:Value):genFold e env x=pure x:=by
 cases e<;>first|rfl|exact bM h
variable (c)in
structure q8(ρ:Pl)(s:Shared)(en:En)(σ:Sg)(t:It)(target elt iter:Expr)(ifs:List Expr)(scope:Scope)(pos:Pos)(v:Value)(s':Shared)(cenv:Env)(Ip:List Addr)(a ga:Addr)(g:Nat)(KD:Pl):Prop where
 v:v= .ref ga
 step:af c ρ s KD σ s'
 env:a_ s'.heap KD cenv (dD scope.names en)
 itr:bC s'.heap KD t Ip a
 gen:s'.heap.IsGen ga g
 gs:s'.gens[g]? =some (.fresh (.compStart (.GeneratorExp elt [⟨target,iter,ifs,0⟩] scope pos) 0 (.ref a) .none cenv))
 gnew:s.gens.size≤g
 newI: ∀b∈Ip,s.heap.objs.size≤b
 newC:s.heap.objs.size≤cenv.locals
 frame:cenv.frame=some cenv.locals
 co:cenv.scope.isCoroutine=false
 gaP:ga∈KD.p
 gaD:ga∉cenv.locals::Ip
 gaN:s.heap.objs.size≤ga
theorem wd{iv:iR}{x:IV}{cc P:Addr}(hi:ig c d iv)(hp:fG iter=true)(hk:scope.kind= .function)(hco:scope.isCoroutine=false)(ho:d7 scope.names en=true)
 (h0:scope.names.lookup (".0":Str)=some .local) (hcc:en.code=some cc) (hm:(cc,P)∈c.cs) (hx:iv en σ iter=some (.ok x KC)) (hit:aC KC x=some t) (a:At c A env en ρ σ s d)
 (h: ∀v s' cenv Ip b ga g KD,q8 c ρ s en KC t target elt iter ifs scope pos v s' cenv Ip b ga g KD→Q v s'):IG (model c.prog c.w) A (eval (.GeneratorExp elt [⟨target,iter,ifs,0⟩] scope pos) env) Q E s:=by
 refine mN (fF ho) fun o1 o2 o3=> ?_;refine wpAny_GeneratorExp_make hco (lL (a.er.frees o3)) o1 h0 hk (H4 (H1 _ _) a.room.depth) ?_ (mZ hp)
 refine au.go (hi hx a) (fun x' KB q w KF KQ KE KM=> ?_) (fun u_ u_ q=>by exact iQ q)
 refine jP q fun zz1 zz2=> ?_;subst zz1;subst zz2;refine aK KM fun I KM LJ=> ?_;have KR:=a.step KE;refine dJ a.ok KE.sto KE.gd hit KM fun KX J b KI KH Lh LR=> ?_;have K7:=KR.step KH;refine⟨KH.gd.lim,?_⟩;refine mi (a.er.cd _ hcc) a.ok K7.st K7.gd hm fun code K8 KT=> ?_;have Ld:=K7.step KT;rw[a.er.gl];refine pT a.ok Ld.gd ?_;intro h' hn sb;have LU:=KT.itr K7.st Lh;refine oA (zn (code:=code) (gobj:={cls:= .type "generator",data:= .fields #[.int K8.gens.size 0,.str "<genexpr>" (K8.toks+1),.str (env.qual++"<genexpr>") (K8.toks+1+1)]}) (t:=K8.toks+1+1+1) a.ok Ld hk ho hn sb) fun K4 LV=> ?_;have S123:=(KE.trans KH).trans KT
 have hz:h'.objs.size=K8.heap.objs.size+1:=by rw[sb.1,J9]
 have new: ∀z∈J,s.heap.objs.size≤z:=fun z m=>(LR z m).elim (LJ z) fun q=>HV KE.rest.hsize q;have old: ∀z∈J,z<K8.heap.objs.size:=fun z m=>(Ld.st.plow z (LU.priv.1 z m)).2;have T:=S123.trans K4;have LE:=K4.itr Ld.st LU;refine h _ _ (genEnv scope (jG env.cells scope.names []) K8.heap.objs.size code builtinsNs env) J b h'.objs.size K8.gens.size _ ⟨rfl,?_,LV,LE,⟨_,_,_,J7 _ rfl,rfl,rfl,rfl⟩,Array.getElem?_push_size ..,S123.rest.gsize,new,S123.rest.hsize,rfl,hco,.head _,fun m=> ?_,?_⟩
 ·refine T.gens ?_ (fun i hi=> ?_) fun hb y hy=> ?_
  ·rw[Array.size_push];exact H_ S123.rest.gsize
  ·rw[Array.getElem?_push_lt (H8 hi S123.rest.gsize)];rw[←Array.getElem?_eq_getElem];exact S123.rest.gold i hi
  ·rcases Array.mem_push.mp hy with q|rfl
   ·exact S123.rest.bare hb y q
   ·rfl
 ·rcases GW.mp m with q|q
  ·have q:h'.objs.size=K8.heap.objs.size:=q;rw[hz]at q;exact absurd q (Nat.succ_ne_self _)
  ·exact absurd (old _ q) (HZ.mpr (by rw[hz];exact H0 _))
 ·rw[hz];exact H_ S123.rest.hsize
theorem uq{G:gP}(ok:oU G)(ht:eO c G.d tr)(hf:bE c G.d f)(hc:nh (mY (dq 8) tr f G.target G.ifs G.elt az) en σ t G.L G.e)(hw:G.L≠[]∨G.e.isSome=true)(nc: ∀x,en.names.lookup x≠some .cell)
 {r:List Addr} (ga:gC c G r en σ t s):
 Seg (model c.prog c.w) G.A₁ (gR c G) (gY c G) G.L.length s (.compStart G.X 0 (.ref G.a) .none G.cenv) ((model c.prog c.w).den (.compStart G.X 0 (.ref G.a) .none G.cenv)) [] s:=by
 have pX:=wi ok ht hf G.L [] (by simp) hc hw nc s r ga
 show Seg _ _ _ _ _ s _ ((compStart (.GeneratorExp G.elt [⟨G.target,G.iter,G.ifs,0⟩] G.scope G.pos) 0 (.ref G.a) .none G.cenv).onRaise (leaving G.cenv)) [] s;unfold compStart;rw[Sem.onRaise_eq_wrap];show Seg _ _ _ _ _ s _ ((ask>>=_).wrap _ _ _ _) [] s;refine IW (wpAny_askSetting ?_)
 split
 ·exact seg_again rfl pX
 ·first
   |exact IW (IN (IW (IT (IW (ga.itr.iter_self (seg_again rfl pX))))))
   |(refine IW (IN ?_);show Seg _ _ _ _ _ s _ ((standAt G.iter.pos>>=_).wrap _ _ _ _) [] s;exact IW (IT (IW (ga.itr.iter_self (seg_again rfl pX)))))
noncomputable def lr(A:Around)(cenv:Env)(KX ρ:Pl)(Ip:List Addr)(a:Addr)(s:Shared)(target elt iter:Expr)(ifs:List Expr)(scope:Scope)(pos:Pos)(d:Nat)(L:List sD)(e:Option Sg):gP:=
 ⟨A.in1,cenv,KX.p,Ip,a,ρ,s,target,elt,iter,ifs,scope,pos,d,L,e⟩
theorem q8.ready{LP:Around}{cenv:Env}{Ip:List Addr}{g:Nat}{L:List sD}{e:Option Sg}(ok:c.Ok)(ht:eO c d tr)(hf:bE c d f)
 (B:q8 c ρ s en σ t target elt iter ifs scope pos v s' cenv Ip a ga g KD) {KX:Pl} (S:af c KD s' KX σ KI) (hg:KI.gens=s'.gens) (nc: ∀n∈scope.names,n.2≠ .cell) (hc:nh (mY (dq 8) tr f target ifs elt az) (dD scope.names en) σ t L e) (hw:L≠[]∨e.isSome=true)
 (room:eo c KX LP (d+1) KI.heap) (a1:A.handled=LP.handled) (a2:A.depth=LP.depth) (a3:A.frames=LP.frames) (a4:A.units≤LP.units+4):
 oU (lr A cenv KX ρ Ip a s target elt iter ifs scope pos d L e)∧dm (lr A cenv KX ρ Ip a s target elt iter ifs scope pos d L e) g ga A∧
  fb c (lr A cenv KX ρ Ip a s target elt iter ifs scope pos d L e) g ga [] L KX.r (dD scope.names en) σ t KI:=by
 have T:=B.step.trans S;have er:=S.env B.step.sto B.env;have i:=S.itr B.step.sto B.itr;have nc': ∀x,(dD scope.names en).names.lookup x≠some .cell:=fun x q=>nc _ (mem_of_lookup q) rfl
 have hroom:eo c KX (lr A cenv KX ρ Ip a s target elt iter ifs scope pos d L e).rnd d KI.heap:=by
  refine aK room.frames fun l hl ff=> ?_;refine⟨?_,?_,?_,cenv::l,?_,fun env m=> ?_⟩
  ·show A.handled=none;rw[a1];exact room.hand
  ·show A.depth+1+d<recursionLimit;rw[a2];have:=room.depth;exact Fo ‹_›
  ·show A.units+1+3+8*d+220<cLine;have:=room.units;exact bry ‹_› ‹_›
  ·show A.frames.map (cenv:: ·)=some (cenv::l);rw[a3,hl];rfl
  ·rcases GW.mp m with rfl|m
   ·obtain⟨mm,⟨o',es,ep,ho',hd',_⟩,_⟩:=er.lo
    exact⟨by rw[er.kind];decide,_,o',B.frame,er.out,(T.sto.plow _ er.out).1,ho',es,ep,hd'⟩
   ·exact ff env m
 have ok':oU (lr A cenv KX ρ Ip a s target elt iter ifs scope pos d L e):=⟨T.pold,i.priv.1,B.newI,B.newC,B.co⟩;have at':gC c (lr A cenv KX ρ Ip a s target elt iter ifs scope pos d L e) KX.r (dD scope.names en) σ t KI:=⟨T,⟨ok,T.sto,T.gd,er,hroom⟩,i⟩
 refine⟨ok',⟨rfl,B.gnew,S.pold _ B.gaP,B.gaD,by rw[a1];exact room.hand,by rw[a2];have:=room.depth;exact rmz ‹_›⟩,rfl,?_,at',.fresh (.compStart (.GeneratorExp elt [⟨target,iter,ifs,0⟩] scope pos) 0 (.ref a) .none cenv),by rw[hg];exact B.gs,fun hw' s'' r'' g''=>⟨rfl,uq (G:=lr A cenv KX ρ Ip a s target elt iter ifs scope pos d L e) ok' ht hf hc hw nc' g''⟩⟩
 refine iU B.gen fun o nm qn ho h1 h2 h3=> ?_
 exact⟨o,nm,qn,S.ext.get (fun m=>B.step.sto.disj _ B.gaP (by simpa using m)) ho (by unfold uK hZ;rw[h2];simp[h1]),h1,h2,h3⟩
theorem fb.move{G:gP}{g:Nat}{r:List Addr}{K:List Addr}(ok:oU G)(kn:dm G g ga A')(x:fb c G g ga pre rem r en σ t s)(S:ad c K ⟨r,G.P⟩ s ⟨r,G.P⟩ σ s')(hg:s'.gens=s.gens)
 (hK: ∀a∈K,a∈G.P∧G.sc.heap.objs.size≤a∧a∉G.D∧a≠ga) (pl:aW s.heap K):fb c G g ga pre rem r en σ t s':=by
 refine⟨x.hL,?_,⟨x.st.step.fresh S fun a m=>(hK a m).2.1,x.st.at_.plain (fun a m=>(hK a m).1) pl S,ad.itr x.st.at_.st (fun a m=>(hK a m).1) (fun a m q=>(hK a q).2.2.1 (.tail _ m)) S x.st.itr⟩,by rw[hg];exact x.gs⟩
 refine iU x.gen fun o nm qn ho h1 h2 h3=> ?_
 exact⟨o,nm,qn,S.ext.get (fun m=>(GN.mp m).elim (fun q=>(hK _ q).2.2.2 rfl) (x.st.at_.st.disj _ kn.gaP)) ho (by unfold uK hZ;rw[h2];simp[h1]),h1,h2,h3⟩
theorem fb.toks{G:gP}{g:Nat}{r:List Addr}(ok:oU G)(kn:dm G g ga A')(x:fb c G g ga pre rem r en σ t s):fb c G g ga pre rem r en σ t {s with toks:=k}:=
 x.move ok kn (K:=[]) (af.toks x.st.at_.st x.st.at_.gd) rfl (by simp) (by intro a m;cases m)
noncomputable def d5(nx:zI)(stop:Bool):Nat→En→Sg→It→Option (Bool×Sg)
 |0,_,_,_=>none
 |n+1,en,σ,t=>(nx en σ t).bind fun r=>match r.1 with
  |none=>some (false,r.2)
  |some p=>(bq r.2 p.1).bind fun b=>if b=stop then some (true,r.2)else d5 nx stop n p.2.1 r.2 p.2.2
theorem ud{stop:Bool}(h:nx en σ t=some (none,KB)):d5 nx stop (n+1) en σ t=some (false,KB):=by
 show(nx en σ t).bind _=_;rw[h];rfl
theorem qV{stop:Bool}(h:nx en σ t=some (some (y,en',t'),KB))(hb:bq KB y=some b):d5 nx stop (n+1) en σ t=if b=stop then some (true,KB)else d5 nx stop n en' KB t':=by
 show(nx en σ t).bind _=_;rw[h];show(bq KB y).bind _=_;rw[hb];rfl
noncomputable def jD(stop:Bool):List sD→Option Sg→Bool→Sg→Prop
 |[],e,b,KV=>e=some KV∧b=false
 |(y,_,KB,_)::l,e,b,KV=>(bq KB y=some (!stop)∧(l≠[]∨e.isSome=true)∧jD stop l e b KV)∨(bq KB y=some stop∧l=[]∧e=none∧b=true∧KV=KB)
theorem BO{a:Bool}(h: ¬a=b):a= !b:=by cases a<;>cases b<;>first|rfl|exact absurd rfl h
theorem lM{stop:Bool}(n:Nat)(e:d5 nx stop n en σ t=some (b,KV)): ∃L e,nh nx en σ t L e∧(L≠[]∨e.isSome=true)∧jD stop L e b KV:=by
 induction n generalizing en σ t with
 |zero=>exact no e
 |succ n ih=>
  refine ae e fun r hn w=> ?_;obtain⟨r,KB⟩:=r
  cases r with
  |none=>cases IF w;exact⟨[],some _,hn,.inr rfl,rfl,rfl⟩
  |some p=>
   refine ae w fun b' hb w=>e_ w (fun hs w=> ?_) fun hs w=> ?_
   ·cases IF w
    subst hs;exact⟨[(p.1,p.2.1,_,p.2.2)],none,⟨hn,trivial⟩,.inl nofun,.inr ⟨hb,rfl,rfl,rfl,rfl⟩⟩
   ·refine dC (ih w) fun L e' h1 h2 h3=> ?_
    exact⟨(p.1,p.2.1,KB,p.2.2)::L,e',⟨hn,h1⟩,.inl nofun,.inl ⟨by rw[hb,BO hs],h2,h3⟩⟩
theorem xB{G:gP}{g:Nat}{R:Result→Shared→Prop}(ok:oU G)(kn:dm G g ga A.in1)(hR: ∀s' r',af c G.ρc G.sc ⟨r',G.P⟩ KV s'→R (.ok (.ret (.bool (!b)))) s'):
 ∀(rem pre:List sD) {en:En} {σ:Sg} {t:It} {r:List Addr} {s:Shared},fb c G g ga pre rem r en σ t s→(rem≠[]∨G.e.isSome=true)→jD false rem G.e b KV→codeAny (model c.prog c.w) A (.builtin "all.loop" ⟨[.ref ga],[]⟩) R s:=by
 intro rem
 induction rem with
 |nil=>
  intro pre en σ t r s x hw hu;refine oA hu fun he zz1=> ?_;subst zz1;refine IQ F.entry_all_loop ?_;rw[Jo JV _];show IG _ A.in1 (pyNext (.ref ga)>>=_) _ _ s
  ac_rfl
  refine IH (IJ (cV ok kn x hw).pyNext (fun rr KF KP=> ?_) fun u_ u_ z=>z)
  cases rr with
  |some v=>refine fA KP fun u_ u_ u_ u_ u_ u_ q u_=> ?_;exact Cr q
  |none=>
   refine lT KP fun u_ KB r' he' S u_=> ?_;rw[he]at he';obtain rfl:=IF he';exact IH (IN (II (hR KF r' S)))
 |cons z rem ih=>
  intro pre en σ t r s x hw hu;obtain⟨Mi,LZ,Lb,LX⟩:=z;refine IQ F.entry_all_loop ?_;rw[Jo JV _];show IG _ A.in1 (pyNext (.ref ga)>>=_) _ _ s
  ac_rfl
  refine IH (IJ (cV ok kn x hw).pyNext (fun rr KF KP=> ?_) fun u_ u_ z=>z)
  cases rr with
  |none=>exact absurd KP.1 (by exact HG _ _)
  |some v=>
   refine fU KP fun y en' KB t' l r' q x' rv u_=> ?_
   cases q
   rcases hu with⟨hb,hw',hu'⟩|⟨hb,rfl,he,rfl,rfl⟩
   ·ac_rfl
    refine IH (IM (bX (c:=c) x'.st.at_.st hb rv fun k=> ?_))
    ac_rfl
    refine IH (I4 ?_);exact II ⟨IS JV _,ih _ (x'.toks ok kn) hw' hu'⟩
   ·ac_rfl
    refine IH (IM (bX (c:=c) x'.st.at_.st hb rv fun k=> ?_))
    ac_rfl
    refine IH (I4 ?_);exact IH (IN (II (hR _ r' (x'.toks ok kn).st.step)))
theorem xc{G:gP}{g:Nat}{R:Result→Shared→Prop}(ok:oU G)(kn:dm G g ga A.in1)(hR: ∀s' r',af c G.ρc G.sc ⟨r',G.P⟩ KV s'→R (.ok (.ret (.bool b))) s'):
 ∀(rem pre:List sD) {en:En} {σ:Sg} {t:It} {r:List Addr} {s:Shared},fb c G g ga pre rem r en σ t s→(rem≠[]∨G.e.isSome=true)→jD true rem G.e b KV→codeAny (model c.prog c.w) A (.builtin "any.loop" ⟨[.ref ga],[]⟩) R s:=by
 intro rem
 induction rem with
 |nil=>
  intro pre en σ t r s x hw hu;refine oA hu fun he zz1=> ?_;subst zz1;refine IQ F.entry_any_loop ?_;rw[Jo JO _];show IG _ A.in1 (pyNext (.ref ga)>>=_) _ _ s
  ac_rfl
  refine IH (IJ (cV ok kn x hw).pyNext (fun rr KF KP=> ?_) fun u_ u_ z=>z)
  cases rr with
  |some v=>refine fA KP fun u_ u_ u_ u_ u_ u_ q u_=> ?_;exact Cr q
  |none=>
   refine lT KP fun u_ KB r' he' S u_=> ?_;rw[he]at he';obtain rfl:=IF he';exact IH (IN (II (hR KF r' S)))
 |cons z rem ih=>
  intro pre en σ t r s x hw hu;obtain⟨Mi,LZ,Lb,LX⟩:=z;refine IQ F.entry_any_loop ?_;rw[Jo JO _];show IG _ A.in1 (pyNext (.ref ga)>>=_) _ _ s
  ac_rfl
  refine IH (IJ (cV ok kn x hw).pyNext (fun rr KF KP=> ?_) fun u_ u_ z=>z)
  cases rr with
  |none=>exact absurd KP.1 (by exact HG _ _)
  |some v=>
   refine fU KP fun y en' KB t' l r' q x' rv u_=> ?_
   cases q
   rcases hu with⟨hb,hw',hu'⟩|⟨hb,rfl,he,rfl,rfl⟩
   ·ac_rfl
    refine IH (IM (bX (c:=c) x'.st.at_.st hb rv fun k=> ?_))
    ac_rfl
    refine IH (I4 ?_);exact II ⟨IS JO _,ih _ (x'.toks ok kn) hw' hu'⟩
   ·ac_rfl
    refine IH (IM (bX (c:=c) x'.st.at_.st hb rv fun k=> ?_))
    ac_rfl
    refine IH (I4 ?_);exact IH (IN (II (hR _ r' (x'.toks ok kn).st.step)))
theorem u5{G:gP}{g:Nat}{L:List sD}{r:List Addr}(ok:oU G)(kn:dm G g ga A.in1)(x:fb c G g ga [] L r en σ t s)(hw:L≠[]∨G.e.isSome=true)(hu:jD false L G.e b KV)
 (hQ: ∀s' r',af c G.ρc G.sc ⟨r',G.P⟩ KV s'→Q (.bool (!b)) s'):IG (model c.prog c.w) A (call (.builtin "all") [.ref ga]) Q E s:=by
 refine Jj F.kind_all F.plain_all F.entry_all (F.args_all1 _) ?_;unfold Builtin.«all»;refine IH (m:=oneArg "all" _) (II ?_);refine IH (Jk x.gen ?_);exact II ⟨IS JV _,xB ok kn (fun s' r' S=>hQ s' r' S) L [] x hw hu⟩
theorem xH{G:gP}{g:Nat}{L:List sD}{r:List Addr}(ok:oU G)(kn:dm G g ga A.in1)(x:fb c G g ga [] L r en σ t s)(hw:L≠[]∨G.e.isSome=true)(hu:jD true L G.e b KV)
 (hQ: ∀s' r',af c G.ρc G.sc ⟨r',G.P⟩ KV s'→Q (.bool b) s'):IG (model c.prog c.w) A (call (.builtin "any") [.ref ga]) Q E s:=by
 refine Jj F.kind_any F.plain_any F.entry_any (F.args_any1 _) ?_;unfold Builtin.«any»;refine IH (m:=oneArg "any" _) (II ?_);refine IH (Jk x.gen ?_);exact II ⟨IS JO _,xc ok kn (fun s' r' S=>hQ s' r' S) L [] x hw hu⟩
noncomputable def d6(nx:zI):Nat→En→Sg→It→Option (List V×Sg)
 |0,_,_,_=>none
 |n+1,en,σ,t=>(nx en σ t).bind fun r=>match r.1 with
  |none=>some ([],r.2)
  |some p=>(d6 nx n p.2.1 r.2 p.2.2).map fun q=>(p.1::q.1,q.2)
theorem kY(n:Nat)(e:d6 nx n en σ t=some (ys,KV)): ∃L,nh nx en σ t L (some KV)∧L.map (·.1)=ys:=by
 induction n generalizing en σ t ys with
 |zero=>exact no e
 |succ n ih=>
  refine ae e fun r hn w=> ?_;obtain⟨r,KB⟩:=r
  cases r with
  |none=>cases IF w;exact⟨[],hn,rfl⟩
  |some p=>
   exact aP w fun q hq w'=>by
    refine rL w' fun zz1 zz2=> ?_;subst zz1;subst zz2;refine aK (ih hq) fun L h3 h4=> ?_;exact⟨(p.1,p.2.1,KB,p.2.2)::L,⟨hn,h3⟩,congrArg (p.1:: ·) h4⟩
theorem sO.kept{G:gP}{S:Addr}{o:Obj}(h:sO c G s s')(hP:S∈G.P)(hD:S∉G.D)(ho:s.heap.get? S=some o)(f:uK o=true):s'.heap.get? S=some o:=by
 refine bf h fun K6 Lb st x=> ?_;exact x.get (fun m=>(GN.mp m).elim hD (st.disj S hP)) ho f
structure Co(G:gP)(ga S:Addr):Prop where
 P:S∈G.P
 D:S∉G.D
 ne:S≠ga
 new:G.sc.heap.objs.size≤S
theorem fb.write{G:gP}{g:Nat}{S:Addr}{r:List Addr}{f:Obj→Obj}{tk:Nat}(ok:oU G)(kn:dm G g ga A')(w:Co G ga S)(x:fb c G g ga pre rem r en σ t s)(hS:s.heap.get? S=some (aB vs k)):
 fb c G g ga pre rem r en σ t {s with heap:=s.heap.update S f,toks:=tk}:=
 x.move ok kn (K:=[S]) (ad.same (t:=tk) x.st.at_.ok x.st.at_.st x.st.at_.gd w.P (Kd ..)) rfl (by simp only[GP,forall_eq];exact⟨w.P,w.new,w.D,w.ne⟩) (by
  intro b m;rw[GP.mp m]
  exact⟨_,hS,rfl⟩)
theorem tH{G:gP}{g:Nat}{S:Addr}{R:Result→Shared→Prop}(ok:oU G)(kn:dm G g ga A.in1)(w:Co G ga S)(he:G.e=some KV):
 ∀(rem pre:List sD) {en:En} {σ:Sg} {t:It} {r:List Addr} {s:Shared} {ns:List Int} {acc:Int} {tA:Tok} {k:Nat} {stage:Int},(stage=0∨stage=2)→fb c G g ga pre rem r en σ t s→cU (rem.map (·.1))=some ns→s.heap.get? S=some (aB [.int acc tA] k)→
  (∀s' r' t',af c G.ρc G.sc ⟨r',G.P⟩ KV s'→R (.ok (.ret (.int (acc+ns.sum) t'))) s')→codeAny (model c.prog c.w) A (.builtin "sum.loop" ⟨[.ref ga,.ref S,rawInt stage,rawInt 0],[]⟩) R s:=by
 intro rem
 induction rem with
 |nil=>
  intro pre en σ t r s ns acc tA k stage hstage x hns hS hR;obtain rfl:=IF hns;refine IQ F.entry_sum_loop ?_;refine(Jo JP _).symm▸ ?_;show IG _ A.in1 (seqItems? (.ref S)>>=_) _ _ s
  ac_rfl
  refine IH (IY hS rfl ?_);refine(?_:IG _ A.in1 (tryCatch (pyNext (.ref ga)) _>>=_) _ _ s)
  ac_rfl
  refine IH (wpAny_tryCatch (IJ (cV ok kn x (.inr (by rw[he];rfl))).pyNext (fun rr KF KP=> ?_) fun u_ u_ z=>z))
  cases rr with
  |some v=>refine fA KP fun u_ u_ u_ u_ u_ u_ q u_=> ?_;exact Cr q
  |none=>
   refine lT KP fun u_ KB r' he' T u_=> ?_;rw[he]at he';obtain rfl:=Az he'
   exact II (by simpa using hR KF r' tA T)
 |cons z rem ih=>
  intro pre en σ t r s ns acc tA k stage hstage x hns hS hR;refine IQ F.entry_sum_loop ?_;rw[Jo JP _];refine(?_:IG _ A.in1 (seqItems? (.ref S)>>=_) _ _ s)
  ac_rfl
  refine IH (IY hS rfl ?_);refine(?_:IG _ A.in1 (tryCatch (pyNext (.ref ga)) _>>=_) _ _ s)
  ac_rfl
  refine IH (wpAny_tryCatch (IJ (cV ok kn x (.inr (by rw[he];rfl))).pyNext (fun rr KF KP=> ?_) fun u_ u_ z=>z))
  cases rr with
  |none=>exact absurd KP.1 nofun
  |some v=>
   refine fU KP fun y en' KB t' l r' q x' rv hs=> ?_;obtain⟨rfl,rfl⟩:=List.cons.inj q;have Lj:=hs.kept w.P w.D hS rfl
   refine ae (show(cY y).bind _=some ns from hns) fun i hi e=>aP e fun ns' hns' zz2=> ?_
   subst zz2;obtain rfl:=b_ hi;obtain⟨tt,rfl⟩:=rv.intQ
   have fin: ∀(s':Shared) (r':List Addr) (t':Tok),af c G.ρc G.sc ⟨r',G.P⟩ KV s'→R (.ok (.ret (.int (acc+i+ns'.sum) t'))) s':=fun s' r' t' T=>by
    have:=hR s' r' t' T
    rwa [List.sum_cons,←Int.add_assoc]at this
   refine(fun(tail: ?T)=> ?main) ?tl
   case main=>
    rcases hstage with rfl|rfl
    rotate_left
    ·refine(?_:IG _ A.in1 ((holding [Kr i tt] (binaryOp .Add (.int acc tA) (.int i tt))).attempt>>=_) _ _ _);exact tail
    ·show IG _ A.in1 (if(_:Bool)=true then(mkInt (acc+i)>>=_)else _) _ _ _
     split
     ·ac_rfl
      refine IH (wpAny_mkInt ?_);refine(?_:IG _ A.in1 (updateSeq S (fun u_=> #[.int (acc+i) KF.toks])>>=_) _ _ _)
      ac_rfl
      refine IH ?_
      change let Q0:=_;IG _ _ _ Q0 _ _;intros
      change let Q0:=_;IG _ _ _ Q0 _ _;intros
      refine I3 Lj rfl (II ⟨IS JP _,ih _ (.inl rfl) ((x'.toks (k:=KF.toks+1) ok kn).write ok kn w Lj) hns' (J' _ Lj rfl) fin⟩)
     ·exact IH (IN tail)
   case tl=>
    ac_rfl
    refine IH (wpAny_attempt (IM (PySem.P.add_int ?_)));refine(?_:IG _ A.in1 (updateSeq S (fun u_=> #[.int (acc+i) KF.toks])>>=_) _ _ _)
    ac_rfl
    refine IH ?_
    change let Q0:=_;IG _ _ _ Q0 _ _;intros
    refine I3 Lj rfl ?_;have hS2:=J' (Kh fun u_=> #[Kr (acc+i) KF.toks]) Lj rfl
    ac_rfl
    refine IH (I4 ?_)
    ac_rfl
    refine IH ?_;have x2:=(x'.toks (k:=KF.toks+1) ok kn).write (f:=Kh fun u_=> #[Kr (acc+i) KF.toks]) (tk:=KF.toks+1) ok kn w Lj
    change let Q0:=_;IG _ _ _ Q0 _ _;intros
    refine I3 hS2 rfl (II ⟨IS JP _,ih _ (.inr rfl) (x2.write ok kn w hS2) hns' (J' _ hS2 rfl) fin⟩)
theorem t9{g:Nat}{i:Int}(hg:s.heap.IsGen ga g)
 (h: ∀tA tk,∃G r en σ t L ns KV,oU G∧dm G g ga A.in1∧Co G ga s.heap.objs.size∧G.e=some KV∧fb c G g ga [] L r en σ t {s with heap:=s.heap.push (aB [.int 0 tA] 0),toks:=tk}∧cU (L.map (·.1))=some ns∧i=ns.sum∧ ∀s' r' t',af c G.ρc G.sc ⟨r',G.P⟩ KV s'→Q (.int i t') s'):
 IG (model c.prog c.w) A (call (.builtin "sum") [.ref ga]) Q E s:=by
 refine Jj F.kind_sum F.plain_sum F.entry_sum (F.args_sum1 _) ?_;unfold Builtin.«sum»
 refine bV (show¬(1:Nat)+0>2 by decide) ?_
 and_intros
 refine IH (IO (show Builtin.Builtins.bindParams "sum" ["start"] 0 {}=pure [none]from rfl) ?_)
 and_intros
 refine IH (Jk hg ?_)
 and_intros
 refine IH (wpAny_mkInt ?_)
 and_intros
 refine IH (II ?_)
 and_intros
 refine IH ?_;rw[Hi]
 and_intros
 refine IH (IH (I6 (T:="int") (b:=false) (I8 _ _ _) PySem.sub_int_str (bV Gi (II ?_))));refine(?_:IG _ _ (forIn (_::_) _ _) _ _ _);rw[Hi]
 and_intros
 refine IH (IH (I6 (T:="int") (b:=false) (I8 _ _ _) PySem.sub_int_bytes (bV Gi (II ?_))));refine(?_:IG _ _ (forIn (_::_) _ _) _ _ _);rw[Hi]
 and_intros
 refine IH (IH (I6 (T:="int") (b:=false) (I8 _ _ _) PySem.sub_int_bytearray (bV Gi (II ?_))));refine(?_:IG _ _ (forIn [] _ _) _ _ _);rw[List.forIn_nil];refine II ?_
 and_intros
 refine IH (IP ?_);obtain⟨G,r,en,σ,t,L,ns,KV,ok,kn,w,he,x,hns,hi,hQ⟩:=h s.toks (s.toks+1);refine II ⟨IS JP _,tH ok kn w he L [] (Or.inl rfl) x hns (J7 _ rfl) fun s' r' t' T=> ?_⟩;rw[Int.zero_add,←hi];exact hQ s' r' t' T
mutual
noncomputable def jA:V→Bool
 | .val _=>true
 | .int _=>true
 | .str _=>true
 | .tup l=>br l
 |_=>false
noncomputable def br:List V→Bool
 |[]=>true
 |x::l=>jA x&&br l
end
theorem R.solidB{r r' P D:List Addr}(st:aQ c ⟨K6,P⟩ Lb h)(x:eg c (D++K6) h h')(hD: ∀a∈D,a∈P)(st':aQ c ⟨r',P⟩ KB h'):
 (∀{y v},R h ⟨r,P⟩ y v→jA y=true→R h' ⟨r',P⟩ y v)∧(∀{y v},Rs h ⟨r,P⟩ y v→br y=true→Rs h' ⟨r',P⟩ y v):=
 R.both (P:=fun y v=>jA y=true→R h' ⟨r',P⟩ y v) (Q:=fun y v=>br y=true→Rs h' ⟨r',P⟩ y v) (fun u_=> .val) (fun u_=> .int) (fun u_=> .str)
  (fun {_ a vs n} h1 f u_ rs e=>have h2:h'.get? a=some (ao vs n):=x.get (fun m=>(GN.mp m).elim (fun q=>f.2 (hD _ q)) (st.notin h1 (by exact not_eq_of_beq_eq_false rfl) (by exact not_eq_of_beq_eq_false rfl))) h1 rfl
   .tup h2 ⟨st'.notin h2 (by exact not_eq_of_beq_eq_false rfl) (by exact not_eq_of_beq_eq_false rfl),f.2⟩ (rs e)) (fun u_ e=>bM e) (fun u_ u_ u_ e=>bM e) (fun u_ u_ e=>bM e) (fun u_=> .nil) fun u_ q u_ qs e=> .cons (q (Gg.mp e).1) (qs (Gg.mp e).2)
theorem Rs.solid{r r' P D:List Addr}(st:aQ c ⟨K6,P⟩ Lb h)(x:eg c (D++K6) h h')(hD: ∀a∈D,a∈P)(st':aQ c ⟨r',P⟩ KB h'){y:List V}{v:List Value}(e:br y=true)(q:Rs h ⟨r,P⟩ y v):Rs h' ⟨r',P⟩ y v:=(R.solidB st x hD st').2 q e
theorem lZ:br l=true→br m=true→br (l++m)=true:=by
 induction l with
 |nil=>exact fun u_ h=>h
 |cons x l ih=>
  intro h1 h2
  replace h1:=Gg.mp (show(jA x&&br l)=true from h1)
  exact Gg.mpr ⟨h1.1,ih h1.2 h2⟩
theorem ul{G:gP}{g:Nat}{S:Addr}{res:Value}{R:Result→Shared→Prop}(ok:oU G)(kn:dm G g ga A.in1)(w:Co G ga S)(hDP: ∀a∈G.D,a∈G.P)(he:G.e=some KV):
 ∀(rem pre:List sD) {en:En} {σ:Sg} {t:It} {r:List Addr} {s:Shared} {acc:List V} {vs:List Value} {k:Nat},fb c G g ga pre rem r en σ t s→br (rem.map (·.1))=true→br acc=true→acc.length+rem.length≤2^20→s.heap.get? S=some (aB vs k)→Internal.Rs s.heap ⟨r,G.P⟩ acc vs→
  (∀s' r' vs' k',af c G.ρc G.sc ⟨r',G.P⟩ KV s'→s'.heap.get? S=some (aB vs' k')→Internal.Rs s'.heap ⟨r',G.P⟩ (acc++rem.map (·.1)) vs'→R (.ok (.ret res)) s')→codeAny (model c.prog c.w) A (.builtin "list.extend.loop" ⟨[.ref S,.ref ga,res],[]⟩) R s:=by
 intro rem
 induction rem with
 |nil=>
  intro pre en σ t r s acc vs k x hsol hsa hz hS ra hR;refine IQ J6 ?_;rw[Jo JN _];show IG _ A.in1 (pyNext (.ref ga)>>=_) _ _ s
  ac_rfl
  refine IH (IJ (cV ok kn x (.inr (by rw[he];rfl))).pyNext (fun rr KF KP=> ?_) fun u_ u_ z=>z)
  cases rr with
  |some v=>refine fA KP fun u_ u_ u_ u_ u_ u_ q u_=> ?_;exact Cr q
  |none=>
   refine lT KP fun u_ KB r' he' T hs=> ?_;rw[he]at he';obtain rfl:=IF he';refine bf (id hs) fun K6 Lb Mj xx=> ?_
   exact II (hR KF r' vs k T (hs.kept w.P w.D hS rfl) (by simpa using ra.solid Mj xx hDP T.sto hsa))
 |cons z rem ih=>
  intro pre en σ t r s acc vs k x hsol hsa hz hS ra hR;obtain⟨Mi,LZ,Lb,LX⟩:=z
  replace hsol:=Gg.mp (show(jA _&&br _)=true from hsol)
  refine IQ J6 ?_;rw[Jo JN _];show IG _ A.in1 (pyNext (.ref ga)>>=_) _ _ s
  ac_rfl
  refine IH (IJ (cV ok kn x (.inr (by rw[he];rfl))).pyNext (fun rr KF KP=> ?_) fun u_ u_ z=>z)
  cases rr with
  |none=>exact absurd KP.1 (by exact HG _ _)
  |some v=>
   refine fU KP fun y en' KB t' l r' q x' rv hs=> ?_
   cases q
   have Lj:=hs.kept w.P w.D hS rfl;refine bf (id hs) fun K6 KC Mj xx=> ?_
   have ra₁:=ra.solid Mj xx hDP x'.st.at_.st hsa
   have hv:vs.length≤2^20:=by rw[←ra.length];exact asl ‹_›
   show IG _ A.in1 (updateSeq S (·.push v)>>=_) _ _ _
   ac_rfl
   refine IH (I3 Lj rfl ?_ (by simp;exact HV hv (by decide)) (by simp;exact HV hv (by decide)))
   have hg:(KF.heap.update S (Kh (·.push v))).get? S=some (aB (vs++[v]) (k+1)):=by
    rw[J' _ Lj (by rw[eq];rfl),eq]
   have KH:ad c [S] ⟨r',G.P⟩ KF ⟨r',G.P⟩ Lb {KF with heap:=KF.heap.update S (Kh (·.push v)),toks:=KF.toks}:=ad.same (t:=KF.toks) x'.st.at_.ok x'.st.at_.st x'.st.at_.gd w.P (Kd ..)
   have Ma:=ad.Rs (by simpa using w.P) KH (ra₁.append (.cons rv .nil))
   refine II ⟨IS JN _,ih _ (acc:=acc++[Mi]) (x'.write (tk:=KF.toks) ok kn w Lj) hsol.2 (lZ hsa (by simp[br,hsol.1])) (by simp at hz⊢;exact Dr ‹_›) hg Ma fun s' r'' vs' k' T hS' rr=> ?_⟩
   exact hR s' r'' vs' k' T hS' (by simpa using rr)
theorem qh{g:Nat}{Q:List Value→Shared→Prop}(hg:s.heap.IsGen ga g)
 (h: ∃G r en σ t L KV,oU G∧dm G g ga A.in1∧Co G ga s.heap.objs.size∧(∀a∈G.D,a∈G.P)∧G.e=some KV∧fb c G g ga [] L r en σ t {s with heap:=s.heap.push (aB [] 0),toks:=s.toks}∧L.map (·.1)=l∧br l=true∧l.length≤2^20∧
  ∀s' r' vs',af c G.ρc G.sc ⟨r',G.P⟩ KV s'→Internal.Rs s'.heap ⟨r',G.P⟩ l vs'→Q vs' s'):IG (model c.prog c.w) A (collect (.ref ga)) Q E s:=by
 obtain⟨G,r,en,σ,t,L,KV,ok,kn,w,hDP,he,x,rfl,hsol,hz,hQ⟩:=h;have hSg:s.heap.objs.size≠ga:=w.ne;unfold collect;refine IH (wpAny_runValue (IQ F.entry_proto_collect ?_));rw[Jo F.plain_proto_collect _];show IG _ A.in1 (newList []>>=fun l=>again (.builtin "list.__iadd__" ⟨[l,.ref ga],[]⟩)) _ _ s;refine IH (IP ?_);refine II ⟨IS JT _,IQ F.entry_list_iadd ?_⟩;rw[Jo JT _]
 show IG _ A.in1 (Jr (.ref s.heap.objs.size) (.ref ga) (.ref s.heap.objs.size)) _ _ {s with heap:=s.heap.push (aB [] 0),toks:=s.toks}
 unfold Jr;refine IH (IZ x.gen.typeIs ?_)
 have h1:Jt (.ref s.heap.objs.size) (.ref ga)=false:=by exact decide_eq_false (by assumption)
 have h2:(Value.type "generator"==Value.type "list")=false:=by exact Gl _
 have h3:(Value.type "generator"==Value.type "tuple")=false:=by assumption
 simp only[h1,h2,h3,Go,Gk,if_false];refine IH (Jk x.gen ?_);refine IH (IM ?_);unfold Ju;refine IH (I2 x.gen.typeIs F.gen_no_len ?_);show IG _ A.in1 (specialOf (Ko ga) (Kn "__length_hint__")>>=_) _ _ _;refine IH (I2 x.gen.typeIs F.gen_no_hint ?_);refine II ?_
 show IG _ A.in1 (rule "list.extend.makes-room">>=fun u_=>Builtin.List.listTouch (.ref s.heap.objs.size)>>=fun u_=>
  again (.builtin "list.extend.loop" ⟨[.ref s.heap.objs.size,.ref ga,.ref s.heap.objs.size],[]⟩)) _ _ _
 refine IH (IN ?_);have Lj:(s.heap.push (aB [] 0)).get? s.heap.objs.size=some (aB [] 0):=J7 _ rfl;refine IH ?_;show IG _ A.in1 (updateSeq s.heap.objs.size (·.push .none)>>=fun u_=>updateSeq s.heap.objs.size (·.pop)) _ _ _;refine IH (I3 Lj rfl ?_);have Ml:=J' (Kh (·.push Kq)) Lj rfl;refine I3 Ml rfl ?_;have hS₃:=J' (Kh (·.pop)) Ml rfl;have x2:=x.write (f:=Kh (·.push Kq)) (tk:=s.toks) ok kn w Lj;have x3:=x2.write (f:=Kh (·.pop)) (tk:=s.toks) ok kn w Ml
 refine II ⟨IS JN _,ul ok kn w hDP he L [] (acc:=[]) x3 hsol rfl (by simpa using hz) hS₃ .nil fun s' r' vs' k' T hS' rr=> ?_⟩
 show IG _ A (load s.heap.objs.size>>=_) _ _ s';refine IH (wpAny_load hS' ?_)
 exact II (hQ s' r' _ T (by simpa using rr))
theorem qc{g:Nat}(hg:s.heap.IsGen ga g)
 (h: ∃G r en σ t L KV,oU G∧dm G g ga A.in1.in1.in1∧Co G ga s.heap.objs.size∧(∀a∈G.D,a∈G.P)∧G.e=some KV∧fb c G g ga [] L r en σ t {s with heap:=s.heap.push (aB [] 0),toks:=s.toks}∧L.map (·.1)=l∧br l=true∧l.length≤2^20∧c.Ok∧
  ∀s' KD v,af c G.ρc G.sc KD KV s'→Internal.R s'.heap KD (.tup l) v→Q v s'):IG (model c.prog c.w) A (call (.type "tuple") [.ref ga]) Q E s:=by
 obtain⟨G,r,en,σ,t,L,KV,ok,kn,w,hDP,he,x,hL,hsol,hz,ok',hQ⟩:=h;have hT:s.TypeIs (.ref ga) "generator":=hg.typeIs;refine callType_codes (Q₁:=fun obj KF=>KF.TypeIs obj "tuple"∧Q obj KF) JM (J4 _) F.entry_object_init ?_ fun obj KF KP=> ?_
 ·refine Ji ?_
  show IG _ A.in1.in1 (do checkBuiltinCall "tuple.__new__" ⟨[.type "tuple",.ref ga],[]⟩;again (.builtin "tuple.__new__" ⟨[.type "tuple",.ref ga],[]⟩)) _ _ s
  refine IH (IO (F.newCall_tuple_1 _) (II ⟨IS JU _,IQ F.entry_tuple_new ?_⟩));rw[Jo JU _];have hsub:=sub_tuple_self;have hinit:=init_tuple_lookup;have hmh:=madeHere_tuple;have hc:=fun {Q':List Value→Shared→Prop} {E':Value→Shared→Prop} (hq: ∀s' r' vs',af c G.ρc G.sc ⟨r',G.P⟩ KV s'→Internal.Rs s'.heap ⟨r',G.P⟩ l vs'→Q' vs' s')=>
   qh (A:=A.in1.in1) (E:=E') hg ⟨G,r,en,σ,t,L,KV,ok,kn,w,hDP,he,x,hL,hsol,hz,hq⟩
  wp_walk using IZ hT,hc
  intro s' r' vs S rs;show IG _ _ (JG vs.toArray>>=fun v=>ret v) _ _ _;unfold JG
  refine IH (IP ?_ (by show vs.toArray.size≤sizeLine;simp[←rs.length];exact HV hz (by decide)))
  have KH:af c ⟨r',G.P⟩ s' ⟨r',G.P⟩ KV {s' with heap:=s'.heap.push (ao vs 0),toks:=s'.toks}:=af.push (t:=s'.toks) ok' S.sto S.gd
  exact II ⟨⟨_,J7 _ rfl,rfl⟩,hQ _ _ _ (S.trans KH) (.tup (J7 _ rfl) (S.sto.new (HW _)) (KH.Rs rs))⟩
 ·exact⟨KP.1,J5 obj _,object_init_meets JM.init.lookup JM.made (by exact ac) c.prog c.w A.in1 _ KF ⟨KP.1,rfl,KP.2⟩⟩
end
section
variable {env:Env}{d:Nat}
noncomputable def yU(nx:zI)(en:En)(σ:Sg)(t:It):Option (aG V):=(d5 nx false az en σ t).map fun p=> .ok (.bool (!p.1)) p.2
noncomputable def zj(nx:zI)(en:En)(σ:Sg)(t:It):Option (aG V):=(d5 nx true az en σ t).map fun p=> .ok (.bool p.1) p.2
noncomputable def x8(nx:zI)(en:En)(σ:Sg)(t:It):Option (aG V):=(d6 nx az en σ t).bind fun p=>(cU p.1).map fun ns=> .ok (.int ns.sum) p.2
noncomputable def zw(nx:zI)(en:En)(σ:Sg)(t:It):Option (aG V):=(d6 nx az en σ t).bind fun p=>if(br p.1&&decide (p.1.length≤2^20))=true then some (.ok (.tup p.1) p.2)else none
noncomputable def sK(fv:Value)(nx:zI)(en:En)(σ:Sg)(t:It):Option (aG V):=match fv with
 | .builtin id=>if id="all" then yU nx en σ t else if id="any" then zj nx en σ t else if id="sum" then x8 nx en σ t else none
 | .type T=>if T="tuple" then zw nx en σ t else none
 |_=>none
theorem BP(e:sK fv nx en σ t=some o)(k1: ∀b KV,fv= .builtin "all"→d5 nx false az en σ t=some (b,KV)→o= .ok (.bool (!b)) KV→P)(k2: ∀b KV,fv= .builtin "any"→d5 nx true az en σ t=some (b,KV)→o= .ok (.bool b) KV→P)
 (k3: ∀ys ns KV,fv= .builtin "sum"→d6 nx az en σ t=some (ys,KV)→cU ys=some ns→o= .ok (.int ns.sum) KV→P) (k4: ∀ys KV,fv= .type "tuple"→d6 nx az en σ t=some (ys,KV)→br ys=true→ys.length≤2^20→o= .ok (.tup ys) KV→P):P:=by
 cases fv with
 |builtin id=>
  exact e_ (show(if id="all" then yU nx en σ t else if id="any" then zj nx en σ t else if id="sum" then x8 nx en σ t else none)=some o from e) (fun h e=>aP e fun p hp w=>k1 p.1 p.2 (by exact congrArg _ (by assumption)) hp w.symm) fun u_ e=>
   e_ e (fun h e=>aP e fun p hp w=>k2 p.1 p.2 (by exact congrArg _ (by assumption)) hp w.symm) fun u_ e=>bI e fun h e=>ae e fun p hp e=>aP e fun ns hn w=>k3 p.1 ns p.2 (by rw[h]) hp hn w.symm
 |type T=>exact bI (show(if T="tuple" then zw nx en σ t else none)=some o from e) fun h e=>ae e fun p hp e=>bI e fun hs w=>k4 p.1 p.2 (by exact congrArg _ (by assumption)) hp (Gg.mp hs).1 (of_decide_eq_true (Gg.mp hs).2) (IF w).symm
 |_=>exact no e
variable (c)in
noncomputable def cZ(iv:iR)(tr:lu)(f:fP)(en:En)(σ:Sg)(fn:Str)(elt target iter:Expr)(ifs:List Expr)(scope:Scope):Option (aG V):=
 if(fG iter&&scope.kind== .function&& !scope.isCoroutine&&d7 scope.names en&&scope.names.lookup (".0":Str)==some .local)=true then en.code.bind fun cc=>(aR c en fn).bind fun z=>(kr z).bind fun fv=>(c.cs.lookup cc).bind fun u_=>
  (iv en σ iter).bind fun r=>(uL r).bind fun q=>(aC q.2 q.1).bind fun t=>sK fv (mY (dq 8) tr f target ifs elt az) (dD scope.names en) q.2 t
 else none
theorem wk{iv:iR}(e:cZ c iv tr f en σ fn elt target iter ifs scope=some o)
 (k: ∀cc fv p x KC t,(fG iter&&scope.kind== .function&& !scope.isCoroutine&&d7 scope.names en&&scope.names.lookup (".0":Str)==some .local)=true→en.code=some cc→aR c en fn=some (.val fv)→c.cs.lookup cc=some p→iv en σ iter=some (.ok x KC)→aC KC x=some t→
  sK fv (mY (dq 8) tr f target ifs elt az) (dD scope.names en) KC t=some o→P):P:=
 bI e fun hp e=>ae e fun cc hcc e=>ae e fun z hz e=>ae e fun fv hfv e=>ae e fun p hP e=>ae e fun r hr e=>ae e fun q hq e=>ae e fun t ht e=>k cc fv p q.1 q.2 t hp hcc (by rw[hz,ij hfv]) hP (qB hq▸hr) ht e
theorem q8.lt{cenv:Env}{Ip:List Addr}{g:Nat}
 (B:q8 c ρ s en σ t target elt iter ifs scope pos v s' cenv Ip a ga g KD):s'.heap.objs.size∉cenv.locals::Ip∧s'.heap.objs.size≠ga:=by
 refine⟨fun m=> ?_,fun q=> ?_⟩
 ·rcases GW.mp m with q|q
  ·have:=(B.step.sto.plow _ B.env.out).2;rw[←q]at this;exact absurd this (Ia _)
  ·exact absurd (B.step.sto.plow _ (B.itr.priv.1 _ q)).2 (Ia _)
 ·have:=(B.step.sto.plow _ B.gaP).2;rw[←q]at this;exact absurd this (Ia _)
theorem pH{l:List (Addr×Addr)}{b:Addr}:l.lookup a=some b→(a,b)∈l:=by
 induction l with
 |nil=>exact fun h=>no h
 |cons p l ih=>
  intro h
  replace h:(match a==p.1 with|true=>some p.2|false=>l.lookup a)=some b:=h
  cases q:a==p.1 with
  |true=>
   rw[q]at h;obtain rfl:=IF h;rw[GK q];exact .head _
  |false=>rw[q]at h;exact .tail _ (ih h)
theorem pR{iv:iR}{np gpos:Pos}(hi:ig c (d+1) iv)(ht:eO c d tr)(hf:bE c d f)(e:cZ c iv tr f en σ fn elt target iter ifs scope=some o)(a:At c A env en ρ σ s (d+1)):
 bn c A (eval (.Call (.Name fn np) [.GeneratorExp elt [⟨target,iter,ifs,0⟩] scope gpos] [] pos) env) ρ s o:=by
 refine wk e fun cc fv P x KC t hp hcc hfv hP hx hit e=> ?_;simp only[Gh,beq_iff_eq,Gp]at hp;obtain⟨⟨⟨⟨p1,p2⟩,p3⟩,p4⟩,p5⟩:=hp;have hm:(cc,P)∈c.cs:=pH hP;refine mN (fF p4) fun o1 o2 o3=> ?_;show IG _ _ _ _ _ _
 rw[gq (fun u_ u_ u_ q=>by cases q)]
 ac_rfl
 refine IH (au.go (gW (A:=A) (pos:=np) a.ok a.st a.gd a.er hfv) (fun y Lb q L1 KN KW K2 K6=> ?_) (fun u_ u_ q=>by exact iQ q))
 cases q
 cases K6 using R.valE
 have Lp:=a.step K2;have made: ∀{Q:List Value→Shared→Prop} {E:Value→Shared→Prop},(∀s' cenv Ip b ga g KD,q8 c KW KN en KC t target elt iter ifs scope gpos (.ref ga) s' cenv Ip b ga g KD→Q [.ref ga] s')→
  IG (model c.prog c.w) A (spliced (backTo pos (starEach [.GeneratorExp elt [⟨target,iter,ifs,0⟩] scope gpos] env))) Q E KN:=by
  intro Q E hq;refine Jb (wd hi p1 p2 p3 p4 p5 hcc hm hx hit Lp fun v s' cenv Ip b ga g KD B=>Jf ?_);have hv:=B.v;subst hv;exact hq s' cenv Ip b ga g KD B
 have road: ∀{fv:Value} {Q:Value→Shared→Prop} {E:Value→Shared→Prop},bJ c.K fv=true→(∀s' cenv Ip b ga g KD,q8 c KW KN en KC t target elt iter ifs scope gpos (.ref ga) s' cenv Ip b ga g KD→IG (model c.prog c.w) A (call fv [.ref ga]) Q E s')→
  IG (model c.prog c.w) A (callWith pos fv [] (backTo pos (starEach [.GeneratorExp elt [⟨target,iter,ifs,0⟩] scope gpos] env)) (backToKw pos (keywordEach [] env))) Q E KN:=by
  intro fv Q E hc hq;refine jn (K:=c.K) rfl rfl hc (made fun s' cenv Ip b ga g KD B=>kws_nil ⟨B.step.gd.kin,?_⟩);exact hq s' cenv Ip b ga g KD B
 have rm: ∀{KD:Pl} {KB:Sg} {s':Shared},af c KW KN KD KB s'→eo c KD A (d+1) s'.heap:=fun S=>S.room Lp.st Lp.room;refine BP e (fun b₁ KV h hu q=> ?_) (fun b₁ KV h hu q=> ?_) (fun ys ns KV h hu hns q=> ?_) fun ys KV h hu hs1 hs2 q=> ?_
 ·subst h q;refine dC (lM _ hu) fun L KS hc hw hus=> ?_;refine road rfl fun s' cenv Ip b ga g KD B=> ?_
  refine mN (B.ready (A:=A.in1) (LP:=A) (L:=L) (e:=KS) a.ok ht hf (.refl B.step.sto B.step.gd) rfl o1 hc hw (rm B.step) rfl rfl rfl (show A.units+1≤A.units+4 from Ig (by decide) _)) fun ok kn xr=> ?_
  exact u5 ok kn xr hw hus fun s'' r' S=>bY.now (K2.trans S) .val
 ·subst h q;refine dC (lM _ hu) fun L KS hc hw hus=> ?_;refine road rfl fun s' cenv Ip b ga g KD B=> ?_
  refine mN (B.ready (A:=A.in1) (LP:=A) (L:=L) (e:=KS) a.ok ht hf (.refl B.step.sto B.step.gd) rfl o1 hc hw (rm B.step) rfl rfl rfl (show A.units+1≤A.units+4 from Ig (by decide) _)) fun ok kn xr=> ?_
  exact xH ok kn xr hw hus fun s'' r' S=>bY.now (K2.trans S) .val
 ·subst h q;refine aK (kY _ hu) fun L hc hys=> ?_;refine road rfl fun s' cenv Ip b ga g KD B=> ?_;refine t9 (i:=ns.sum) B.gen fun tA tk=> ?_
  have KE:af c KD s' ⟨KD.r,s'.heap.objs.size::KD.p⟩ KC {s' with heap:=s'.heap.push (aB [.int 0 tA] 0),toks:=tk}:=af.priv (t:=tk) a.ok B.step.sto B.step.gd
  refine mN (B.ready (A:=A.in1) (LP:=A) (L:=L) (e:=some KV) a.ok ht hf KE rfl o1 hc (.inr rfl) (rm (B.step.trans KE)) rfl rfl rfl (show A.units+1≤A.units+4 from Ig (by decide) _)) fun ok kn xr=> ?_
  exact⟨_,_,_,_,_,L,ns,KV,ok,kn,⟨.head _,B.lt.1,B.lt.2,B.step.rest.hsize⟩,rfl,xr,by rw[hys];exact hns,rfl,fun s'' r' t' S=>bY.now (K2.trans S) .int⟩
 ·subst h q;refine aK (kY _ hu) fun L hc hys=> ?_;refine road rfl fun s' cenv Ip b ga g KD B=> ?_
  have KE:af c KD s' ⟨KD.r,s'.heap.objs.size::KD.p⟩ KC {s' with heap:=s'.heap.push (aB [] 0),toks:=s'.toks}:=af.priv (t:=s'.toks) a.ok B.step.sto B.step.gd
  refine mN (B.ready (A:=A.in1.in1.in1) (LP:=A) (L:=L) (e:=some KV) a.ok ht hf KE rfl o1 hc (.inr rfl) (rm (B.step.trans KE)) rfl rfl rfl (show A.units+3≤A.units+4 from Ig (by exact H0 _) _)) fun ok kn xr=> ?_
  refine qc (l:=ys) B.gen ⟨_,_,_,_,_,L,KV,ok,kn,⟨.head _,B.lt.1,B.lt.2,B.step.rest.hsize⟩,ak (.tail _ B.env.out) fun z q=> .tail _ (B.itr.priv.1 _ q),rfl,xr,hys,hs1,hs2,a.ok,fun s'' Lf v S r=>bY.now (K2.trans S) r⟩
noncomputable def vz(σ:Sg):Nat→It→Option Bool
 |0,_=>none
 |n+1,t=>(ay σ t).bind fun r=>r.elim (some false) fun p=>(bq σ p.1).bind fun b=>if b=true then some true else vz σ n p.2
theorem AL{R:Result→Shared→Prop}(hh:A.handled=none)(ok:c.Ok)(n:Nat): ∀(t:It) (s:Shared),vz σ n t=some b→aQ c ρ σ s.heap→Gd c s.heap→bC s.heap ρ t I a→
 (∀s',ad c I ρ s ρ σ s'→R (.ok (.ret (.bool b))) s')→codeAny (model c.prog c.w) A (.builtin "any.loop" ⟨[.ref a],[]⟩) R s:=by
 induction n with
 |zero=>exact fun u_ u_ e u_ u_ u_ u_=>no e
 |succ n ih=>
  intro t s e st g i hR;refine IQ F.entry_any_loop ?_;rw[Jo JO _];show IG _ A.in1 (pyNext (.ref a)>>=_) _ _ s;refine ae e fun r hn e=> ?_
  and_intros
  refine iA e (fun hr e=> ?_) fun p hr e=> ?_
  ·subst hr;obtain rfl:=IF e;exact IH (It.pull0 (A:=A.in1) hh ok st g i hn fun KF KE=>IH (IN (II (hR KF KE))))
  ·subst hr;refine ae e fun b' hb e=> ?_;refine IH (It.pull (A:=A.in1) hh ok st g i hn fun w KF KE rv Lq=> ?_);show IG _ A.in1 (_>>=_) _ _ _;refine IH (IM (bX (c:=c) KE.sto hb rv fun k=> ?_))
   have KH:ad c I ρ KF ρ σ {KF with toks:=k}:=af.toks KE.sto KE.gd
   refine IH (I4 ?_)
   cases b' with
   |true=>
    obtain rfl:=IF e;exact IH (IN (II (hR _ (KE.trans KH))))
   |false=>exact II ⟨IS JO _,ih p.2 _ e KE.sto KE.gd Lq fun s' KT=>hR s' ((KE.trans KH).trans KT)⟩
noncomputable def BZ(σ:Sg)(xs:List IV):Option (aG IV):=(tv xs).bind fun x=>(aC σ x.1).bind fun t=>(vz σ 4096 t).map fun b=> .ok (.v (.bool b)) σ
theorem xq{xs:List IV}{o:aG IV}(hh:A.handled=none)(ok:c.Ok)(st:aQ c ρ σ s.heap)(g:Gd c s.heap)(e:BZ σ xs=some o)(r:cR s.heap ρ xs I vs):
 IG (model c.prog c.w) A (call (.builtin "any") vs) (qi c I (fun h KD x v=> ∃J,nQ h KD x J v∧ ∀a∈J,a∈I∨s.heap.objs.size≤a) ρ s o) (jX c I ρ s o) s:=by
 refine ae e fun x u_ e=>ae e fun t ht e=>aP e fun b hb e=> ?_;subst e;rw[x.2]at r
 cases r with
 |cons r rs n1=>
 cases rs using cR.nilE
 refine Jj F.kind_any F.plain_any F.entry_any (F.args_any1 _) ?_;unfold Builtin.«any»
 and_intros
 refine IH (m:=oneArg "any" _) (II ?_)
 and_intros
 refine IH (dJ ok st g ht r fun KD J a s' S i k=> ?_);refine II ⟨IS JO _,AL (c:=c) (ρ:=KD) (σ:=σ) hh ok _ _ _ hb S.sto S.gd i fun s'' T=> ?_⟩
 exact⟨KD,ad.trans' S.D T fun z m=>(k z m).imp (fun q=>GN.mpr (.inl q)) id,[],.v .val,by simp⟩
variable (c)in
noncomputable def aJ(cf:b9):lC:=fun σ fv xs ks=>match fv with
 | .builtin id=>if id="any" then match ks with
  |[]=>BZ σ xs
  |_=>none
  else rF c cf σ fv xs ks
 |fv=>rF c cf σ fv xs ks
set_option tactic.hygienic true in
theorem qk{cf:b9}(hc:dF c (d+1) cf)(hc':dF c d cf):yG c (d+1) (aJ c cf):=by
 intro A ρ σ s fv xs ks I vs kv o e ok st g room r rk;unfold aJ at e
 split at e
 ·split at e
  ·rename_i id dw;subst dw
   split at e
   ·cases rk
    exact xq room.hand ok st g e r
   ·exact no e
  ·exact lf hc hc' e ok st g room r rk
 ·exact lf hc hc' e ok st g room r rk
theorem eo.down(r:eo c ρ A (d+1) h):eo c ρ A d h:=⟨r.hand,by have:=r.depth;exact rm0 ‹_›,by have:=r.units;exact ru0 ‹_›,r.frames⟩
theorem At.down(a:At c A env en ρ σ s (d+1)):At c A env en ρ σ s d:=⟨a.ok,a.st,a.gd,a.er,a.room.down⟩
theorem bE.up(h:bE c d f):bE c (d+1) f:=fun e a=>h e a.down
theorem eO.up{f:lu}(h:eO c d f):eO c (d+1) f:=fun e a=>h e a.down
theorem ig.up{f:iR}(h:ig c d f):ig c (d+1) f:=fun e a=>h e a.down
theorem gv.up{f:eD}(h:gv c d f):gv c (d+1) f:=fun e a tp=>h e a.down tp
theorem dF.up{f:b9}(h:dF c d f):dF c (d+1) f:=fun e ok st g room rx rk=>h e ok st g room.down rx rk
noncomputable def f_(o:Option (aG IV)):Option (aG V):=o.bind fun r=> @aG.casesOn IV (fun u_=>Option (aG V)) r (fun x σ=> @IV.casesOn (fun u_=>Option (aG V)) x (fun x=>some (.ok x σ)) fun u_=>none) fun cls σ=>some (.exc cls σ)
theorem au.unlift{t:Sem Value}{o:Option (aG IV)}{o':aG V}(e:f_ o=some o')(h: ∀Li,o=some Li→au c (Cy n) A t ρ s Li):bn c A t ρ s o':=by
 refine ae e fun Li ho e=> ?_
 cases Li with
 |ok x KC=>
  cases x with
  |v x=>
   obtain rfl:=IF e
   refine au.go (h _ ho) (fun x KB q v s' KD S r=> ?_) (fun u_ u_ q=>by exact iQ q)
   refine jP q fun zz1 zz2=> ?_;subst zz1;subst zz2;refine aK r fun I r u_=> ?_
   cases r with
   |v r=>exact⟨KD,S,r⟩
  |it t=>exact no e
 |exc cls KC=>
  obtain rfl:=IF e
  refine au.go (h _ ho) (fun x KB q=>by exact EH q) (fun u_ u_ q e' s' fl=> ?_)
  refine Ct q fun zz1 zz2=> ?_;subst zz1;subst zz2;exact fl.as
theorem bn.lift{t:Sem Value}{o:Option (aG V)}(e:gu o=some o')(h: ∀Li,o=some Li→bn c A t ρ s Li):au c (Cy n) A t ρ s o':=by
 refine aP e fun r hr e=> ?_;subst e
 cases r with
 |ok x KC=>
  refine au.go (h _ hr) (fun x KB q v s' KD S r=> ?_) (fun u_ u_ q=>by exact iQ q)
  refine jP q fun zz1 zz2=> ?_;subst zz1;subst zz2;exact⟨KD,S,[],.v r,fun u_ m=>(He m).elim⟩
 |exc cls KC=>
  refine au.go (h _ hr) (fun x KB q=>by exact EH q) (fun u_ u_ q e' s' fl=> ?_)
  refine Ct q fun zz1 zz2=> ?_;subst zz1;subst zz2;exact fl.as
set_option genInjectivity false in
structure Lv where
 ev:fP
 iv:iR
 tr:lu
 exs:eD
 cf:b9
variable (c)in
structure gA(n:Nat)(L:Lv):Prop where
 ev:bE c n L.ev
 iv:ig c n L.iv
 tr:eO c n L.tr
 exs:gv c n L.exs
 cf:dF c n L.cf
theorem gA.evU{L:Lv}(k:gA c d L):bE c (d+1) L.ev:=bE.up (f:=L.ev) k.ev
theorem gA.ivU{L:Lv}(k:gA c d L):ig c (d+1) L.iv:=ig.up (f:=L.iv) k.iv
theorem gA.trU{L:Lv}(k:gA c d L):eO c (d+1) L.tr:=eO.up (f:=L.tr) k.tr
theorem gA.exsU{L:Lv}(k:gA c d L):gv c (d+1) L.exs:=gv.up (f:=L.exs) k.exs
theorem gA.cfU{L:Lv}(k:gA c d L):dF c (d+1) L.cf:=dF.up (f:=L.cf) k.cf
noncomputable def cJ(l:List Expr):Option (Expr×Expr×Expr×List Expr×Scope):=(tv l).bind fun e=>(FT e.1).bind fun p=>(tv p.1.2.1).bind fun g=>if g.1.is_async=0 then some (p.1.1,g.1.target,g.1.iter,g.1.ifs,p.1.2.2.1)else none
noncomputable def mz(func:Expr)(args:List Expr)(kws:List Keyword):Option (Str×Expr×Expr×Expr×List Expr×Scope):=(io func).bind fun p=>if kws.isEmpty=true then(cJ args).map fun q=>(p.1.1,q)else none
theorem v8{q:Expr×Expr×Expr×List Expr×Scope}(h:cJ args=some q): ∃gp,args=[.GeneratorExp q.1 [⟨q.2.1,q.2.2.1,q.2.2.2.1,0⟩] q.2.2.2.2 gp]:=by
 refine eT h fun e h=>eT h fun p h=>eT h fun g h=>bI h fun hn h=> ?_;have w:=IF h;subst w;exact⟨p.1.2.2.2,e.2.trans (congrArg (fun x=>[x]) (p.2.trans (congrArg (fun l=>Expr.GeneratorExp p.1.1 l p.1.2.2.1 p.1.2.2.2) (g.2.trans (congrArg (fun x=>[x]) (cp0 hn))))))⟩
theorem tn{q:Str×Expr×Expr×Expr×List Expr×Scope}(h:mz func args kws=some q):
 ∃np gp,func= .Name q.1 np∧args=[.GeneratorExp q.2.1 [⟨q.2.2.1,q.2.2.2.1,q.2.2.2.2.1,0⟩] q.2.2.2.2.2 gp]∧kws=[]:=by
 refine eT h fun p h=>bI h fun hk h=>aP h fun q h1 h2=> ?_;subst h2;exact oE (v8 h1) fun gp w=>⟨p.1.2,gp,p.2,w,Ht.mp hk⟩
variable (c)in
noncomputable def cj(L:Lv)(en:En)(σ:Sg)(func:Expr)(args:List Expr)(kws:List Keyword)(pos:Pos):Option (aG IV):=(mz func args kws).elim (om c L.iv L.ev (aJ c L.cf) en σ func args kws pos) fun q=>gu (cZ c L.iv L.tr L.ev en σ q.1 q.2.1 q.2.2.1 q.2.2.2.1 q.2.2.2.2.1 q.2.2.2.2.2)
theorem j7{L:Lv}{o:aG IV}(ok:gA c d L)(e:cj c L en σ func args kws pos=some o)(a:At c A env en ρ σ s (d+1)):au c (Cy s.heap.objs.size) A (eval (.Call func args kws pos) env) ρ s o:=by
 refine iA e (fun u_ e=>vN ok.ivU ok.evU (qk ok.cfU ok.cf) e a) fun q hg e=> ?_;refine dC (tn hg) fun np gp w1 w2 w3=> ?_;rw[w1,w2,w3];exact bn.lift e fun Li h=>pR ok.ivU ok.tr ok.ev h a
noncomputable def unS(f:fP)(en:En)(σ:Sg)(op:UnaryOp)(x:Expr):Option (aG V):=match op with
 | .USub=>aw (f en σ x) fun v KC=>(cY v).map fun i=> .ok (.int (-i)) KC
 | .Not=>aw (f en σ x) fun v KC=>(bq KC v).map fun b=> .ok (.bool (!b)) KC
 |_=>none
variable (c)in
noncomputable def evS(L:Lv):fP:=fun en σ e=> @Expr.casesOn (fun u_=>Option (aG V)) e (fun op es u_=>i7 L.ev en op σ es) (fun u_ u_ u_=>none) (fun l op r u_=>zd L.ev en σ l op r) (fun op x u_=>unS L.ev en σ op x) (fun u_ u_ u_ u_=>none) (fun t b e' u_=>aw (L.tr en σ t) fun v KC=>if v then L.ev en KC b else L.ev en KC e') (fun u_ u_ u_=>none) (fun u_ u_ u_=>none) (fun elt gens scope u_=>ci L.iv L.tr L.ev en σ elt gens scope) (fun u_ u_ u_ u_=>none) (fun u_ u_ u_ u_ u_=>none) (fun u_ u_ u_ u_=>none) (fun u_ u_=>none) (fun u_ u_=>none) (fun u_ u_=>none) (fun l ops es u_=>gN L.ev en σ l ops es) (fun func args kws pos=>f_ (cj c L en σ func args kws pos)) (fun u_ u_ u_ u_=>none) (fun u_ u_=>none) (fun k u_ u_=>(oR k).map fun y=> .ok y σ) (fun v n u_=>sf (c:=c) L.ev L.cf en σ v n) (fun v sl u_=>DQ L.ev en σ v sl) (fun u_ u_=>none) (fun x u_=>(aR c en x).map fun y=> .ok y σ) (fun es u_=>aw (fq L.ev en σ es) fun xs KC=>if xs.length≤2^20 then some (.ok (.lst KC.length) (KC++[.lst xs]))else none) (fun es u_ u_=>aw (fq L.ev en σ es) fun xs KC=>if xs.length≤2^20 then some (.ok (.tup xs) KC)else none) (fun u_ u_ u_ u_=>none)
theorem yA{L:Lv}(ok:gA c d L):bE c (d+1) (evS c L):=by
 intro A env en ρ σ s e o h a
 cases e with
 |Constant k n p=>refine aK (IC.mp h) fun y hy zz2=> ?_;subst zz2;exact lJ a.st a.gd hy
 |Name x p=>refine aK (IC.mp h) fun y hy zz2=> ?_;subst zz2;exact gW a.ok a.st a.gd a.er hy
 |BinOp l op r p=>exact uk ok.evU h a
 |UnaryOp op x p=>
  cases op with
  |USub=>exact ym ok.evU h a
  |Not=>exact yj ok.evU h a
  |_=>exact no h
 |IfExp t b e' p=>exact uD ok.evU ok.trU h a
 |Tuple es k p=>exact tU ok.evU h a
 |List es p=>exact wZ ok.evU h a
 |Compare l ops es p=>exact pG ok.evU h a
 |BoolOp op es p=>exact rK ok.evU h a
 |Subscript v sl p=>exact mP ok.evU h a
 |Attribute v n p=>exact mU ok.evU ok.cf h a
 |ListComp elt gens scope p=>exact jd ok.ivU ok.trU ok.evU h a
 |Call func args kws p=>exact au.unlift h fun Li q=>j7 ok q a
 |_=>exact no h
variable (c)in
noncomputable def ivS(L:Lv):iR:=fun en σ e=>(wm e).elim (gu (L.ev en σ e)) fun p=>cj c L en σ p.1.1 p.1.2.1 p.1.2.2.1 p.1.2.2.2
theorem yL{L:Lv}(ok:gA c d L):ig c (d+1) (ivS c L):=by
 intro A env en ρ σ s e o h a;refine Au h (fun u_ h=>bn.lift h fun Li q=>ok.evU q a) fun p h=> ?_;rw[p.2];exact j7 ok h a
variable (c)in
noncomputable def Et(L:Lv)(en:En)(σ:Sg)(ts:List Expr)(e:Expr):Option aL:=(tv ts).bind fun t=>(lcO e).elim (hN c L.ev en σ t.1 e) fun p=>(io t.1).bind fun q=>
 if bH en q.1.1=true then bQ en (ci L.iv L.tr L.ev en σ p.1.1 p.1.2.1 p.1.2.2.1) fun y KB=>some (.ok .next (en.set q.1.1 y) KB)else none
theorem uU{L:Lv}{ts:List Expr}{o:aL}(ok:gA c d L)(h:Et c L en σ ts e=some o)(a:At c A env en ρ σ s (d+1)):eC c A (exec (.Assign ts e pos) env) env ρ s o:=by
 refine eT h fun t h=>Au h (fun u_ h=> ?_) fun p h=>eT h fun q h=>bI h fun hx h=> ?_
 ·rw[t.2];exact mX ok.evU h a
 ·rw[t.2,p.2,q.2];exact lP ok.ivU ok.trU ok.evU hx h a
variable (c)in
noncomputable def DR(L:Lv)(en:En)(σ:Sg)(e:Expr):Option aL:=(wm e).bind fun p=>(io p.1.1).bind fun q=>(tv p.1.2.1).bind fun x=>if p.1.2.2.1.isEmpty=true then wf c L.ev en σ q.1.1 x.1 else none
theorem wF{L:Lv}{o:aL}(ok:gA c d L)(h:DR c L en σ e=some o)(a:At c A env en ρ σ s (d+1)):eC c A (exec (.Raise (some e) none pos) env) env ρ s o:=by
 refine eT h fun p h=>eT h fun q h=>eT h fun x h=>bI h fun hk h=> ?_;rw[p.2,q.2,x.2,Ht.mp hk];exact s9 ok.evU h a
variable (c)in
noncomputable def aT(L:Lv):ES:=fun en σ st=> @Stmt.casesOn (fun u_=>Option aL) st (fun u_ u_ u_ u_ u_ u_ u_ u_ u_ u_=>none) (fun u_ u_ u_ u_ u_ u_ u_ u_ u_ u_=>none) (fun u_ u_ u_ u_ u_ u_ u_ u_ u_ u_ u_=>none) (fun e u_=>e.elim (some (.ok (.ret .none) en σ)) fun e=>bQ en (L.ev en σ e) fun x KB=>some (.ok (.ret x) en KB)) (fun u_ u_=>none) (fun ts e u_=>Et c L en σ ts e) (fun u_ u_ u_ u_ u_ u_ u_=>none) (fun t op e u_=>(io t).bind fun p=>ye L.ev en σ p.1.1 op e) (fun u_ u_ u_ u_ u_=>none) (fun target iter body orelse u_=>lB L.iv (eP c L.ev 8) L.exs en σ target iter body orelse) (fun u_ u_ u_ u_ u_=>none) (fun test body orelse u_=>jv L.tr L.exs test body orelse az en σ) (fun t b e' u_=>bQ en (L.tr en σ t) fun x KB=>if x then L.exs en KB b else L.exs en KB e') (fun u_ u_ u_=>none) (fun u_ u_ u_=>none) (fun u_ u_ u_=>none) (fun e m u_=>e.bind fun e=>m.elim (DR c L en σ e) fun u_=>none) (fun body handlers orelse fin u_=>if(orelse.isEmpty&&fin.isEmpty)=true then rI c L.exs en σ body handlers else none) (fun u_ u_ u_ u_ u_=>none) (fun test m u_=>m.elim (kN L.tr en σ test) fun u_=>none) (fun u_ u_=>none) (fun u_ u_ u_ u_=>none) (fun u_ u_=>none) (fun u_ u_=>none) (fun e u_=>if cr e=true then bQ en (L.ev en σ e) fun y KB=>if aX y then some (.ok .next en KB)else none else none) (fun u_=>some (.ok .next en σ)) (fun u_=>some (.ok .brk en σ)) (fun u_=>some (.ok .cont en σ))
theorem zp{L:Lv}(ok:gA c d L):EB c (d+1) (aT c L):=by
 intro A env en ρ σ s e o h a tp
 cases e with
 |Return e p=>
  cases e with
  |none=>obtain rfl:=IF h;exact km a
  |some e=>exact rq ok.evU h a
 |If t b e' p=>exact AT ok.trU ok.exsU h a tp
 |Assign ts e p=>exact uU ok h a
 |AugAssign t op e p=>
  refine eT h fun q h=> ?_;rw[q.2];exact yg ok.evU h a
 |For target iter body orelse p=>exact yZ ok.ivU (pg ok.evU 8) ok.exsU h a tp
 |While test body orelse p=>exact tI ok.trU ok.exsU h a tp
 |Assert test m p=>
  cases m with
  |none=>exact rJ ok.trU h a
  |some=>exact no h
 |Raise e m p=>
  cases e with
  |none=>exact no h
  |some e=>
   cases m with
   |none=>exact wF ok h a
   |some=>exact no h
 |Try body handlers orelse fin p=>
  refine bI h fun hk h=> ?_;have hk:=Gg.mp hk;obtain rfl:=Ht.mp hk.1;obtain rfl:=Ht.mp hk.2;exact zf ok.exsU h a tp
 |Expr e p=>
  change(if cr e=true then _ else none)=_ at h
  by_cases hn:cr e=true
  ·rw[if_pos hn]at h;exact xD ok.evU hn h a
  ·rw[if_neg hn]at h;exact no h
 |Pass p=>obtain rfl:=IF h;exact xo a
 |Break p=>obtain rfl:=IF h;exact uA a
 |Continue p=>obtain rfl:=IF h;exact n9 a
 |_=>exact no h
variable (c)in
noncomputable def lvS(L:Lv):Lv:=⟨evS c L,ivS c L,BW L.ev L.tr,Ce (aT c L),vg c L.exs⟩
variable (c)in
noncomputable def lv:Nat→Lv
 |0=>⟨fun u_ u_ u_=>none,fun u_ u_ u_=>none,fun u_ u_ u_=>none,fun u_ u_ u_=>none,fun u_ u_ u_ u_=>none⟩
 |n+1=>lvS c (lv n)
theorem EF(n:Nat):gA c n (lv c n):=by
 induction n with
 |zero=>
  constructor
  ·intro A env en ρ σ s e o h;exact no h
  ·intro A env en ρ σ s e o h;exact no h
  ·intro A env en ρ σ s e o h;exact no h
  ·intro A env en ρ σ s e o h;exact no h
  ·intro A ρ σ s a xs ks vs kv o h;exact no h
 |succ n ih=>exact⟨yA ih,yL ih,fun e a=>yF ih.evU ih.trU e a,fun e a tp=>vL (zp ih) tp e a,ui ih.exs⟩
end
noncomputable def cx(q:Program)(w:World)(n₀:Nat)(T:List Addr)(mg mb:Str→Option Value)(base:Heap)(P:Params):Cx:=⟨q,w,KK P,n₀,T,CC,mg,mb,base,NM⟩
section
theorem CO{ks:List (Str×V)}{ds:List Value}(h1:l7 c.K a=some fd)(h2:kM c.K fd=true)(h3:fd.body= .stmts body)(h4:jR c.K fd=some ds)
 (h5:eU (fd.params.args.map (·.arg)) xs ks (ds.map xM)=some binds) (h6:hO fd.scope.names binds=true) (h:(lv c n).exs ⟨fd.scope.names,binds.reverse,[],lF fd.code⟩ σ body=some so) (ho:im so=some o):(lv c (n+1)).cf σ a xs ks=some o:=by
 show vg c (lv c n).exs σ a xs ks=some o;show(l7 c.K a).bind _=_;rw[h1]
 refine(if_pos h2:(if _ then _ else none)=_).trans ?_
 rw[h3];show(jR c.K fd).bind _=_;rw[h4];show(eU _ _ _ _).bind _=_;rw[h5]
 refine(if_pos h6:(if _ then _ else none)=_).trans ?_
 rw[h];exact ho
theorem aq{o:aL}(h:aT c (lv c n) en σ st=some o):(lv c (n+1)).exs en σ [st]=some o:=by
 show(aT c (lv c n) en σ st).bind _=some o;rw[h]
 cases o with
 |ok f en' KB=>cases f<;>rfl
 |exc=>rfl
theorem ab{r:List Stmt}{o:aL}(h:aT c (lv c n) en σ st=some (.ok .next en' KB))(k:(lv c (n+1)).exs en' KB r=some o):(lv c (n+1)).exs en σ (st::r)=some o:=by
 show(aT c (lv c n) en σ st).bind _=some o;rw[h];exact k
theorem wa{p:Pos}{v:V}(h:(lv c n).ev en σ e=some (.ok v KB)):aT c (lv c n) en σ (.Return (some e) p)=some (.ok (.ret v) en KB):=by
 show bQ en ((lv c n).ev en σ e) _=_;rw[h];rfl
theorem B4{v:V}(h:mz func args kws=some (fn,elt,target,iter,ifs,scope))
 (k:cZ c (lv c n).iv (lv c n).tr (lv c n).ev en σ fn elt target iter ifs scope=some (.ok v KB)):(lv c (n+1)).ev en σ (.Call func args kws pos)=some (.ok v KB):=by
 show f_ (cj c (lv c n) en σ func args kws pos)=_;unfold cj;rw[h];exact congrArg (fun o=>f_ (gu o)) k
noncomputable def fc(c:Cx)(en:En)(iter:Expr)(scope:Scope):Bool:=(fG iter&&scope.kind== .function&& !scope.isCoroutine&&d7 scope.names en&&scope.names.lookup (".0":Str)==some .local)&&(match en.code with|some cc=>(c.cs.lookup cc).isSome|none=>false)
theorem fY{x:IV}(hf:fc c en iter scope=true)(hn:aR c en fn=some (.val fv))(hx:(lv c n).iv en σ iter=some (.ok x KC))(ht:aC KC x=some t):
 cZ c (lv c n).iv (lv c n).tr (lv c n).ev en σ fn elt target iter ifs scope=sK fv (mY (dq 8) (lv c n).tr (lv c n).ev target ifs elt az) (dD scope.names en) KC t:=by
 unfold fc at hf;refine oA (Gg.mp hf) fun h1 h2=> ?_;unfold cZ;rw[if_pos h1,hn]
 cases hc:en.code with
 |none=>rw[hc]at h2;exact bM h2
 |some cc=>
  rw[hc]at h2;refine oE (ID.mp h2) fun P hP=> ?_;show(c.cs.lookup cc).bind _=_;rw[hP,hx];show(aC KC x).bind _=_;rw[ht];rfl
theorem td{x:IV}(hf:fc c en iter scope=true)(hn:aR c en fn=some (.val (.type "tuple")))(hx:(lv c n).iv en σ iter=some (.ok x KC))(ht:aC KC x=some t)
 (hd:d6 (mY (dq 8) (lv c n).tr (lv c n).ev target ifs elt az) az (dD scope.names en) KC t=some (l,KG)) (hs:br l=true) (hl:l.length≤2^20):cZ c (lv c n).iv (lv c n).tr (lv c n).ev en σ fn elt target iter ifs scope=some (.ok (.tup l) KG):=by
 rw[fY hf hn hx ht];show zw _ _ _ _=_;unfold zw;rw[hd]
 show(if(br l&&decide (l.length≤2^20))=true then _ else none)=_
 rw[hs,decide_eq_true hl];rfl
theorem uI{P:En→Prop}{ts:Nat→It}(h: ∀i y en,ys[i]? =some y→P en→ ∃en',P en'∧nx en σ (ts i)=some (some (y,en',ts (i+1)),σ))(hend: ∀en,P en→nx en σ (ts ys.length)=some (none,σ)):
 ∀(m k i:Nat) (en:En),i+m=ys.length→P en→d6 nx (m+k+1) en σ (ts i)=some (ys.drop i,σ):=by
 intro m
 induction m with
 |zero=>
  intro k i en hi hp
  have hi:i=ys.length:=by assumption
  subst hi
  rw[show 0+k+1=k+1 from by exact z1k]
  show(nx en σ (ts ys.length)).bind _=_;rw[hend en hp,List.drop_length];rfl
 |succ m ih=>
  intro k i en hi hp
  have hlt:i<ys.length:=by exact EQ ‹_›
  refine aK (h i ys[i] en (G1 hlt) hp) fun en' hp' he=> ?_
  rw[show m+1+k+1=(m+k+1)+1 from by exact mac]
  have e:=ih k (i+1) en' (Eb ‹_›) hp';generalize m+k+1=q at e⊢;show(nx en σ (ts i)).bind _=_;rw[he];show(d6 nx q en' σ (ts (i+1))).map _=_;rw[e];rw[List.drop_eq_getElem_cons hlt];rfl
theorem uw{P:En→Prop}{ts:Nat→It}(h: ∀i y en,ys[i]? =some y→P en→ ∃en',P en'∧nx en σ (ts i)=some (some (y,en',ts (i+1)),σ))(hend: ∀en,P en→nx en σ (ts ys.length)=some (none,σ))(hl:ys.length<az)(hp:P en):
 d6 nx az en σ (ts 0)=some (ys,σ):=by
 have:=uI h hend ys.length (az-1-ys.length) 0 en (Iv _) hp
 rw[show ys.length+(az-1-ys.length)+1=az from by exact EP ‹_›]at this
 simpa using this
theorem vG(hn:ay σ t=some (some (x,t')))(ha:g target en σ x=some (KS,σ))(hf:f KS σ elt=some (.ok y σ)):mY g tr f target [] elt az en σ t=some (some (y,KS,t'),σ):=by
 show mY g tr f target [] elt (4095+1) en σ t=_;show(ay σ t).bind _=_;rw[hn];show(g target en σ x).bind _=_;rw[ha];show(f KS σ elt).bind _=_;rw[hf];rfl
theorem uS(hn:ay σ t=some none):mY g tr f target ifs elt az en σ t=some (none,σ):=by
 show mY g tr f target ifs elt (4095+1) en σ t=_;show(ay σ t).bind _=_;rw[hn];rfl
theorem B9(e:ay σ t=some none):bh σ (t::ts)=some none:=by rw[ji,e];rfl
theorem uT{ts':List It}(e:ay σ t=some (some (x,t')))(k:bh σ ts=some (some (xs,ts'))):bh σ (t::ts)=some (some (x::xs,t'::ts')):=by rw[ji,e];show(bh σ ts).map _=_;rw[k];rfl
theorem Fr(e:ay σ t=some (some (x,t')))(k:bh σ ts=some none):bh σ (t::ts)=some none:=by rw[ji,e];show(bh σ ts).map _=_;rw[k];rfl
theorem nxz{ts':List It}(h:ts.length.ble 64=true)(e:bh σ ts=some (some (x::xs,ts'))):ay σ (.zip ts)=some (some (.tup (x::xs),.zip ts')):=by rw[xj,if_pos (H7 h),e];rfl
theorem B8(h:ts.length.ble 64=true)(e:bh σ ts=some none):ay σ (.zip ts)=some none:=by rw[xj,if_pos (H7 h),e];rfl
theorem nxq(h:l[i]? =some x):ay σ (.seq l i)=some (some (x,.seq l (i+1))):=by rw[wO,h];rfl
theorem nxe(h:l[i]? =none):ay σ (.seq l i)=some none:=by rw[wO,h];rfl
theorem nxl(g:aI σ k=some l)(h:l[i]? =some x):ay σ (.lst k i)=some (some (x,.lst k (i+1))):=by rw[wH,g];show some (xL l[i]? _)=_;rw[h];rfl
theorem DF(g:aI σ k=some l)(h:l[i]? =none):ay σ (.lst k i)=some none:=by rw[wH,g];show some (xL l[i]? _)=_;rw[h];rfl
theorem z_{l:List α}{f:α→β}{a:α}(h:l[i]? =some a):(l.map f)[i]? =some (f a):=by rw[Ha,h];rfl
theorem gnl{l:List α}:l[l.length]? =none:=List.getElem?_eq_none (HW _)
end
section
theorem kW{o:Option (aG α)}{k:α→Sg→Option (aG β)}{a:α}{r:Option (aG β)}(h:o=some (.ok a σ))(g:k a σ=r):aw o k=r:=by rw[h];exact g
theorem Fm{o:Option (aG α)}{k:α→Sg→Option (aG β)}{x:String}(h:o=some (.exc x σ)):aw o k=some (.exc x σ):=by rw[h];rfl
theorem A3{o:Option α}{f:α→Option β}{a:α}{r:Option β}(h:o=some a)(g:f a=r):o.bind f=r:=by rw[h];exact g
theorem mpd{o:Option α}{f:α→β}{a:α}{r:Option β}(h:o=some a)(g:some (f a)=r):o.map f=r:=by rw[h];exact g
theorem fV{x:Str}{p:Pos}(h:aR c en x=some y):(lv c (n+1)).ev en σ (.Name x p)=some (.ok y σ):=by
 show(aR c en x).map _=_;rw[h];rfl
theorem BK{l r:Expr}{p:Pos}{z:V}(h1:(lv c n).ev en σ l=some (.ok x KC))(h2:(lv c n).ev en KC r=some (.ok y KG))(h3:mI KG op x y=some (z,KZ)):(lv c (n+1)).ev en σ (.BinOp l op r p)=some (.ok z KZ):=by
 show zd _ en σ l op r=_;exact kW h1 (kW h2 (mpd h3 rfl))
theorem rO{l r:Expr}{p:Pos}{cls:String}(h1:(lv c n).ev en σ l=some (.ok x KC))(h2:(lv c n).ev en KC r=some (.exc cls KG)):(lv c (n+1)).ev en σ (.BinOp l op r p)=some (.exc cls KG):=by
 show zd _ en σ l op r=_;exact kW h1 (Fm h2)
theorem AG{t b:Expr}{p:Pos}{v:Bool}(h1:(lv c n).tr en σ t=some (.ok v KC))(h2:(lv c n).ev en KC (if v then b else e)=some o):(lv c (n+1)).ev en σ (.IfExp t b e p)=some o:=by
 show aw ((lv c n).tr en σ t) _=_;refine kW h1 ?_
 cases v<;>exact h2
theorem hY:fq f en σ []=some (.ok [] σ):=rfl
theorem bz(hs:al [e]=true)(h1:f en σ e=some (.ok x KC))(h2:fq f en KC es=some (.ok xs KG)):fq f en σ (e::es)=some (.ok (x::xs) KG):=by
 show(if db e=true then none else aw (f en σ e) fun x KC=>aw (fq f en KC es) fun xs KG=>some (.ok (x::xs) KG))=_
 rw[if_neg (bj hs).1,h1];show aw (fq f en KC es) _=_;rw[h2];rfl
theorem gD{p:Pos}(h:fq (lv c n).ev en σ es=some (.ok xs KC))(hl:xs.length≤2^20):(lv c (n+1)).ev en σ (.Tuple es k p)=some (.ok (.tup xs) KC):=by
 show aw (fq (lv c n).ev en σ es) _=_;exact kW h (if_pos hl)
theorem yB{p:Pos}(h:fq (lv c n).ev en σ es=some (.ok xs KC))(hl:xs.length≤2^20):(lv c (n+1)).ev en σ (.List es p)=some (.ok (.lst KC.length) (KC++[.lst xs])):=by
 show aw (fq (lv c n).ev en σ es) _=_;exact kW h (if_pos hl)
theorem ol{p:Pos}(hp:aU e=true)(h:(lv c n).ev en σ e=some (.ok x KC))(hg:jo c KC x name=some (.val y)):(lv c (n+1)).ev en σ (.Attribute e name p)=some (.ok y KC):=by
 show sf _ _ en σ e name=_;exact(if_pos hp).trans (kW h (A3 hg rfl))
theorem xY{p:Pos}{f:Addr}(hp:aU e=true)(h:(lv c n).ev en σ e=some (.ok x KC))(hg:jo c KC x name=some (.prop f))(hc:(lv c n).cf KC f [x] []=some (.ok y KG))(hy:dg y=true):(lv c (n+1)).ev en σ (.Attribute e name p)=some (.ok y KG):=by
 show sf _ _ en σ e name=_;exact(if_pos hp).trans (kW h (A3 hg (A3 hc (if_pos hy))))
theorem rS{C:Nat}{attr:Option Value}(hk:σ[k]? =some (.dct fs))(h1:(plainGet c.K C name&&hasDictIn c.K C)=true)(h2:findIn c.K (.ref C) name=some attr)(h3:eH fs name=some y)(h4:(noGet c.K attr&&dg y)=true):jo c σ (.inst C k) name=some (.val y):=by
 show(fL σ k).bind _=_;rw[l0 hk]
 show(if _ then _ else none)=_
 rw[if_pos h1,h2];show fR _ _ _ _=_;unfold fR;rw[h3];exact if_pos h4
theorem o8{p:Pos}{cls:String}(h:(lv c n).ev en σ e=some (.exc cls KB)):aT c (lv c n) en σ (.Return (some e) p)=some (.exc cls en KB):=by
 show bQ en ((lv c n).ev en σ e) _=_;rw[h];rfl
theorem DN{t:Expr}{b e:List Stmt}{p:Pos}{v:Bool}{o:aL}(h1:(lv c n).tr en σ t=some (.ok v KC))(h2:(lv c n).exs en KC (if v then b else e)=some o):aT c (lv c n) en σ (.If t b e p)=some o:=by
 show bQ en ((lv c n).tr en σ t) _=_;simp only[bQ,h1]
 cases v<;>exact h2
theorem sV{t:Expr}{p:Pos}{v:Bool}(h:(lv c n).tr en σ t=some (.ok v KC)):aT c (lv c n) en σ (.Assert t none p)=some (if v then .ok .next en KC else .exc "AssertionError" en KC):=by
 show kN _ en σ t=_;simp only[kN,bQ,h]
 cases v<;>rfl
theorem Bx{x:Str}{p:Pos}(hc:cr e=true)(hx:bH en x=true)(h:(lv c n).ev en σ e=some (.ok y KC)):aT c (lv c n) en σ (.Assign [.Name x xp] e p)=some (.ok .next (en.set x y) KC):=by
 have:hN c (lv c n).ev en σ (.Name x xp) e=some (.ok .next (en.set x y) KC):=by
  unfold hN;refine dQ hc ?_;show bQ en _ _=_;rw[h];show Option.map _ (eP c (lv c n).ev (7+1) (.Name x xp) en KC y)=_
  show Option.map _ (if bH en x=true then _ else none)=_
  rw[if_pos hx];rfl
 cases e<;>first
  |exact this
  |exact bM hc
theorem xQ{x:Str}{p cp:Pos}{gens:List Comprehension}(hx:bH en x=true)(h:ci (lv c n).iv (lv c n).tr (lv c n).ev en σ elt gens scope=some (.ok y KC)):aT c (lv c n) en σ (.Assign [.Name x xp] (.ListComp elt gens scope cp) p)=some (.ok .next (en.set x y) KC):=by
 show(if bH en x=true then _ else none)=_
 refine dQ hx ?_;simp only[bQ,h]
end
section
noncomputable def vB(t:It)(xs:List V):Prop:= ∃ts:Nat→It,ts 0=t∧ ∀σ:Sg,(∀i x,xs[i]? =some x→ay σ (ts i)=some (some (x,ts (i+1))))∧ay σ (ts xs.length)=some none
theorem vB.rng(a b:Int):vB (.rng a b 1) ((GT b.toNat).map fun(i:Nat)=>V.int (a+(i:Int))):=by
 refine⟨fun i=> .rng (a+i) (b-i) 1,by simp,fun σ=>⟨fun i x h=> ?_,?_⟩⟩
 ·have hlt:i<b.toNat:=by
   have:=(GZ.mp h).1;simpa using this
  have hx:x= .int (a+i):=by simpa [Ha,List.getElem?_range hlt]using h.symm
  subst hx
  have h0:(0:Int)<b-i:=by omega
  have e1:a+(i:Int)+1=a+((i+1:Nat):Int):=by exact scs
  have e2:b-(i:Int)-1=b-((i+1:Nat):Int):=by exact sct
  rw[rH,if_pos h0,e1,e2]
 ·have h0: ¬(0:Int)<b-((((GT b.toNat).map fun(i:Nat)=>V.int (a+(i:Int))).length:Nat):Int):=by simp;omega
  rw[rH,if_neg h0]
end
section
theorem Av(hc: ∀f a k p,e≠ .Call f a k p)(h:(lv c n).ev en σ e=some o)(ho:gu (some o)=some o'):(lv c (n+1)).iv en σ e=some o':=by
 have:(lv c (n+1)).iv en σ e=gu ((lv c n).ev en σ e):=by
  cases e<;>first|rfl|exact absurd rfl (hc _ _ _ _)
 rw[this,h,ho]
theorem fS{f:iR}:dW f en σ []=some (.ok [] σ):=rfl
theorem aO{f:iR}{x:IV}{xs:List IV}(hs:al [e]=true)(h1:f en σ e=some (.ok x KC))(h2:dW f en KC es=some (.ok xs KG)):dW f en σ (e::es)=some (.ok (x::xs) KG):=by
 show(if db e=true then none else aw (f en σ e) fun x KC=>aw (dW f en KC es) fun xs KG=>some (.ok (x::xs) KG))=_
 rw[if_neg (bj hs).1,h1];show aw (dW f en KC es) _=_;rw[h2];rfl
theorem fC{iv:iR}{xs:List IV}{ks:List (Str×V)}{o:aG IV}(hc:(al args&&iq kws&&bJ c.K fv)=true)(h1:dW iv en σ args=some (.ok xs KC))(h2:uo f en KC kws=some (.ok ks KG))
 (h3:cv KG fv (first.map .v++xs) ks=some o):eZ c iv f cv en σ fv first args kws=some o:=by
 unfold eZ;refine dQ hc ?_;exact kW h1 (kW h2 h3)
theorem jB{x:Str}{np:Pos}{o:aG IV}(hg:mz (.Name x np) args kws=none)(hx:aR c en x=some (.val fv))(h:eZ c (lv c (n+1)).iv (lv c (n+1)).ev (aJ c (lv c (n+1)).cf) en σ fv [] args kws=some o):
 cj c (lv c (n+1)) en σ (.Name x np) args kws pos=some o:=by
 unfold cj;rw[hg];show aw ((lv c (n+1)).ev en σ (.Name x np)) _=_;rw[fV hx];exact h
theorem gU{apos:Pos}{o:aG IV}(hp:(aU ob&&apos.endLine==pos.line&&decide (args.length+kws.length<20)&&al args&&iq kws)=true)(hx:(lv c n).ev en σ ob=some (.ok x KC))
 (hm:iw c KC x name=some (fv,first)) (h:eZ c (lv c n).iv (lv c n).ev (aJ c (lv c n).cf) en KC fv first args kws=some o):cj c (lv c n) en σ (.Attribute ob name apos) args kws pos=some o:=by
 change(if(aU ob&&apos.endLine==pos.line&&decide (args.length+kws.length<20)&&al args&&iq kws)=true then aw ((lv c n).ev en σ ob) (fun x KC=>(iw c KC x name).bind fun q=>eZ c (lv c n).iv (lv c n).ev (aJ c (lv c n).cf) en KC q.1 q.2 args kws)else none)=_
 refine dQ hp ?_;exact kW hx (A3 hm h)
theorem yy{o:aG IV}{o':aG V}(h:cj c (lv c n) en σ func args kws pos=some o)(ho:f_ (some o)=some o'):(lv c (n+1)).ev en σ (.Call func args kws pos)=some o':=by
 show f_ (cj c (lv c n) en σ func args kws pos)=_;rw[h,ho]
theorem gV{o:aG IV}(h:cj c (lv c n) en σ func args kws pos=some o):(lv c (n+1)).iv en σ (.Call func args kws pos)=some o:=h
theorem Ak{cf:b9}{ks:List (Str×V)}(hf:l7 c.K a=some fd)(h:cf σ a xs ks=some o)(ho:gu (some o)=some o'):aJ c cf σ (.ref a) (xs.map .v) ks=some o':=by
 have e:nZ (xs.map IV.v)=some xs:=by
  induction xs with
  |nil=>rfl
  |cons x xs ih=>
   have: ∀l:List V,nZ (l.map IV.v)=some l:=fun l=>by
    induction l with
    |nil=>rfl
    |cons y l ih=>exact congrArg _ (by assumption)
   exact this _
 show(nZ (xs.map IV.v)).bind _=_;rw[e];simp only[IE,hf,h,ho]
end
section
theorem zm{x:IV}(hf:fc c en iter scope=true)(hn:aR c en fn=some (.val (.builtin "all")))(hx:(lv c n).iv en σ iter=some (.ok x KC))(ht:aC KC x=some t)
 (hd:d5 (mY (dq 8) (lv c n).tr (lv c n).ev target ifs elt az) false az (dD scope.names en) KC t=some (b,KG)):cZ c (lv c n).iv (lv c n).tr (lv c n).ev en σ fn elt target iter ifs scope=some (.ok (.bool (!b)) KG):=by
 rw[fY hf hn hx ht];show yU _ _ _ _=_;unfold yU;rw[hd];rfl
theorem zx{x:IV}(hf:fc c en iter scope=true)(hn:aR c en fn=some (.val (.builtin "any")))(hx:(lv c n).iv en σ iter=some (.ok x KC))(ht:aC KC x=some t)
 (hd:d5 (mY (dq 8) (lv c n).tr (lv c n).ev target ifs elt az) true az (dD scope.names en) KC t=some (b,KG)):cZ c (lv c n).iv (lv c n).tr (lv c n).ev en σ fn elt target iter ifs scope=some (.ok (.bool b) KG):=by
 rw[fY hf hn hx ht];show zj _ _ _ _=_;unfold zj;rw[hd];rfl
theorem zE{x:IV}{ns:List Int}(hf:fc c en iter scope=true)(hn:aR c en fn=some (.val (.builtin "sum")))(hx:(lv c n).iv en σ iter=some (.ok x KC))(ht:aC KC x=some t)
 (hd:d6 (mY (dq 8) (lv c n).tr (lv c n).ev target ifs elt az) az (dD scope.names en) KC t=some (l,KG)) (hl:cU l=some ns):cZ c (lv c n).iv (lv c n).tr (lv c n).ev en σ fn elt target iter ifs scope=some (.ok (.int ns.sum) KG):=by
 rw[fY hf hn hx ht];show x8 _ _ _ _=_;unfold x8;rw[hd];show(cU l).map _=_;rw[hl];rfl
theorem nY{iv:iR}{x:IV}(hc:(dt iter&&scope.kind== .function&&d7 scope.names en)=true)(hx:iv en σ iter=some (.ok x KC))(ht:aC KC x=some t)
 (hd:cE (dq 8) tr f target ifs elt KC.length az (dY scope.names en) (KC++[.lst []]) t=some KG):ci iv tr f en σ elt [⟨target,iter,ifs,0⟩] scope=some (.ok (.lst KC.length) KG):=by
 refine(if_pos hc:(if _ then _ else none)=_).trans ?_
 rw[hx];show(aC KC x).bind _=_;rw[ht];show(cE _ _ _ _ _ _ _ _ _ _ _).map _=_;rw[hd];rfl
theorem Cb{p:Pos}{x:IV}{o:aL}(hs:dt iter=true)(hx:(lv c n).iv en σ iter=some (.ok x KC))(ht:aC KC x=some t)(h:gw KC.length (eP c (lv c n).ev 8) (lv c n).exs target body orelse az en KC t=some o):
 aT c (lv c n) en σ (.For target iter body orelse p)=some o:=by
 show lB _ _ _ en σ target iter body orelse=some o;unfold lB;rw[if_pos hs,hx];show(aC KC x).bind _=_;rw[ht];exact h
theorem yn{p:Pos}(hc:cr e=true)(h:(lv c n).ev en σ e=some (.ok y KC))(hy:aX y=true):aT c (lv c n) en σ (.Expr e p)=some (.ok .next en KC):=by
 show(if cr e=true then _ else none)=_
 refine dQ hc ?_;simp only[bQ,h,hy,if_true]
theorem sI{v sl:Expr}{p:Pos}{i:Int}(hn:bB sl=true)(h1:(lv c n).ev en σ v=some (.ok x KC))(h2:(lv c n).ev en KC sl=some (.ok (.int i) KG))(h3:gk KG x i=some y):(lv c (n+1)).ev en σ (.Subscript v sl p)=some (.ok y KG):=by
 show aw ((lv c n).ev en σ v) _=_;rw[h1]
 refine(if_pos hn:(if bB sl=true then Cg (lv c n).ev en KC x sl else _)=_).trans ?_
 unfold Cg;rw[h2];show(gk KG x i).map _=_;rw[h3];rfl
theorem xE{v:Expr}{lo hi st:Option Expr}{sp p:Pos}{l u t:V}{Lo MB:Sg}{l' u' t':Option Int}(h1:(lv c n).ev en σ v=some (.ok x KC))(h2:gi (lv c n).ev en KC lo=some (.ok l KG))(h3:gi (lv c n).ev en KG hi=some (.ok u KZ))(h4:gi (lv c n).ev en KZ st=some (.ok t Lo))
 (p1:gG l=some l') (p2:gG u=some u') (p3:gG t=some t') (h5:cA Lo x l' u' t'=some (y,MB)):(lv c (n+1)).ev en σ (.Subscript v (.Slice lo hi st sp) p)=some (.ok y MB):=by
 show aw ((lv c n).ev en σ v) _=_;rw[h1];show AW (lv c n).ev en KC x lo hi st=_;unfold AW;rw[h2];show aw (gi (lv c n).ev en KG hi) _=_;rw[h3];show aw (gi (lv c n).ev en KZ st) _=_;rw[h4];show(gG l).bind _=_;rw[p1,p2,p3];show(cA Lo x l' u' t').map _=_;rw[h5];rfl
theorem Ba{l:Expr}{op:CmpOp}{p:Pos}(hm:lastMarks [op] [e]=false)(h1:(lv c n).ev en σ l=some (.ok x KC))(h2:(lv c n).ev en KC e=some (.ok y KG))(h3:eh KG op x y=some b):(lv c (n+1)).ev en σ (.Compare l [op] [e] p)=some (.ok (.bool b) KG):=by
 show gN _ en σ l [op] [e]=_
 refine(if_neg (by rw[hm];exact Gi):(if lastMarks [op] [e]=true then none else aw ((lv c n).ev en σ l) _)=_).trans ?_
 rw[h1];exact hH h2 h3
theorem Bu{l:Expr}{op:CmpOp}{p:Pos}(hm:lastMarks [op] [e]=false)(h1:(lv c n).ev en σ l=some (.ok x KC))(h2:(lv c n).ev en KC e=some (.ok y KG))(h3:eh KG op x y=some b):(lv c (n+1)).tr en σ (.Compare l [op] [e] p)=some (.ok b KG):=by
 show BW (lv c n).ev (lv c n).tr en σ (.Compare l [op] [e] p)=_
 refine(if_neg (by rw[hm];exact Gi):(if lastMarks [op] [e]=true then none else aw ((lv c n).ev en σ l) _)=_).trans ?_
 rw[h1];exact hH h2 h3
theorem B6(hp:fN e=true)(h1:(lv c n).ev en σ e=some (.ok x KC))(h2:bq KC x=some b):(lv c (n+1)).tr en σ e=some (.ok b KC):=by
 refine(y9 hp:BW (lv c n).ev (lv c n).tr en σ e=_).trans ?_;unfold yT;rw[h1];show(bq KC x).map _=_;rw[h2];rfl
theorem BR{p:Pos}(h:(lv c n).tr en σ e=some (.ok b KC)):(lv c (n+1)).tr en σ (.UnaryOp .Not e p)=some (.ok (!b) KC):=by
 show BW (lv c n).ev (lv c n).tr en σ (.UnaryOp .Not e p)=_;show aw ((lv c n).tr en σ e) _=_;rw[h];rfl
theorem iX{op:BoolOp}{p:Pos}{o:aG Bool}(h:tD (lv c n).tr en op σ es=some o):(lv c (n+1)).tr en σ (.BoolOp op es p)=some o:=h
theorem de{g:lu}{op:BoolOp}{o:aG Bool}(h:g en σ e=some (.ok b KC))(k:(if b=(op== .Or)then some (.ok b KC)else tD g en op KC es)=some o):tD g en op σ (e::es)=some o:=by
 exact kW h k
end
section
theorem qE(xs:List α): ∀(d:Nat) (pre:List α),pre.length=d→((GT xs.length).map fun k=>d+k).filterMap ((pre++xs)[·]?)=xs:=by
 intro d pre hd
 have key: ∀(ys zs:List α),((List.range' zs.length ys.length).filterMap fun k=>(zs++ys)[k]?)=ys:=by
  intro ys
  induction ys with
  |nil=>intro zs;rfl
  |cons y ys ih=>
   intro zs;rw[G8,List.range'_succ,HB]
   have:(zs++y::ys)[zs.length]? =some y:=by simp
   rw[this];have e:=ih (zs++[y]);rw[G4,HA,GY]at e;simp only[List.singleton_append]at e
   exact congrArg _ (by assumption)
 have e:((GT xs.length).map fun k=>d+k)=List.range' d xs.length:=by
  rw[List.range_eq_range',List.map_add_range'];simp
 rw[e];subst hd;exact key xs pre
theorem pd(x:V)(xs:List V):iK (x::xs) (some 1) none none=xs:=by
 have p1:Jx (some 1) none ((none:Option Int).getD 1) ((x::xs).length:Nat)=((1:Int),(((x::xs).length:Nat):Int)):=by
  simp[Jx]
  try exact mi1
 have p2:Jy 1 (((x::xs).length:Nat):Int) ((none:Option Int).getD 1)=xs.length:=by
  simp only[Jy,Option.getD_none,G8]
  rw[if_pos (by decide)]
  by_cases h:(1:Int)<((xs.length+1:Nat):Int)
  ·rw[if_pos h,Int.ediv_one];simp
  ·rw[if_neg h];exact tn0 ‹_›
 have w:ed (x::xs).length (some 1) none none=false:=by
  unfold ed;rw[p1];rfl
 unfold iK;rw[w,if_neg Gi];unfold cb;rw[p1];simp only;rw[p2]
 have e:((GT xs.length).map fun(k:Nat)=>((1:Int)+(k:Int)*(none:Option Int).getD 1).toNat)=(GT xs.length).map fun k=>1+k:=by
  refine Hx fun k u_=> ?_;simp only[Option.getD_none,Int.mul_one];rfl
 rw[e];exact qE xs 1 [x] rfl
theorem qS(hl:(x::xs).length≤2^20):cA σ (.tup (x::xs)) (some 1) none none=some (.tup xs,σ):=by
 unfold cA
 rw[if_neg (by simp)]
 simp only[pd]
 rw[if_pos ⟨hl,by simp at hl⊢;exact bg ‹_› (by exact ac)⟩]
theorem ut: ∀xs:List α,((GT xs.length).map fun k=>xs.length-1-k).filterMap (xs[·]?)=xs.reverse:=by
 intro xs;rw[List.filterMap_map]
 have key: ∀m,m≤xs.length→(GT m).filterMap (fun k=>xs[xs.length-1-k]?)=xs.reverse.take m:=by
  intro m
  induction m with
  |zero=>intro _;simp
  |succ m ih=>
   intro h
   rw[List.range_succ,List.filterMap_append,ih (Nat.le_of_succ_le ‹_›),HT (by simp;assumption)]
   congr 1
   have:xs[xs.length-1-m]? =some (xs.reverse[m]'(by simp;assumption)):=by
    simp
   simp[this]
 have:=key xs.length (HW _)
 rw[show xs.reverse.take xs.length=xs.reverse from List.take_of_length_le (by simp)]at this
 exact this
theorem oV(l:List V):lU l none none (some (-1))=l.reverse:=by
 unfold lU rD
 have e:sliceRange (sliceBounds none none (some (-1)) l.length).1 (sliceBounds none none (some (-1)) l.length).2.1 (sliceBounds none none (some (-1)) l.length).2.2=(GT l.length).map fun k=>l.length-1-k:=by
  have hb:sliceBounds none none (some (-1)) l.length=((l.length:Int)-1,-1,-1):=rfl;rw[hb];simp only[sliceRange]
  rw[if_neg (by decide)]
  have c:(if((l.length:Int)-1> -1)then((l.length:Int)-1- -1- -1-1)/ - -1 else 0).toNat=l.length:=by
   by_cases h:(l.length:Int)-1> -1
   ·rw[if_pos h];simp
   ·rw[if_neg h];exact(Nat.le_zero.mp (GA.mp (Int.le_of_sub_le_sub_right (b:=0) (c:=1) (Gx.mp h)))).symm
  rw[c];refine Hx fun k hk=> ?_;have:=HH.mp hk;rw[Int.neg_one_mul,←Int.sub_eq_add_neg,Ey (H4 (H9 _) this),←Int.ofNat_sub (Nat.le_sub_one_of_lt this)];rfl
 rw[e];exact ut l
theorem q_(hk:σ[k]? =some (.lst l))(hl:l.length≤2^20):cA σ (.lst k) none none (some (-1))=some (.lst σ.length,σ++[.lst l.reverse]):=by
 unfold cA
 refine zX (by trivial) ?_
 show(oY σ k).bind _=_;rw[yW hk]
 show(if _ then _ else none)=_
 rw[if_pos hl,oV]
end
section
set_option genInjectivity false in
structure Xp where
 q:Program
 w:World
 n₀:Nat
 T:List Addr
 mg:Str→Option Value
 mb:Str→Option Value
 base:Heap
 P:Params
noncomputable def cc(X:Xp):Cx:=cx X.q X.w X.n₀ X.T X.mg X.mb X.base X.P
noncomputable def dZ(X:Xp)(a:Addr):FuncData:=(l7 (KK X.P) a).getD default
noncomputable def aD(X:Xp)(a:Addr):List Stmt:=match(dZ X a).body with
 | .stmts b=>b
 |_=>[]
noncomputable def St(X:Xp)(a i:Nat):Stmt:=(aD X a).getD i (.Pass default)
noncomputable def ah(X:Xp)(a:Addr)(own:List (Str×V)):En:=⟨(dZ X a).scope.names,own,[],lF (dZ X a).code⟩
noncomputable def Ah:List Comprehension→List Expr
 |g::_=>g.target::g.iter::g.ifs
 |[]=>[]
noncomputable def CH:List Comprehension→List Expr
 |g::_=>g.ifs
 |[]=>[]
noncomputable def z0:(List Comprehension×Scope)×List Keyword:=(([],default),[])
noncomputable def pE(e:Expr):List Expr×(List Comprehension×Scope)×List Keyword:= @Expr.casesOn (fun u_=>List Expr×(List Comprehension×Scope)×List Keyword) e (fun u_ es u_=>(es,z0)) (fun u_ u_ u_=>([],z0)) (fun l u_ r u_=>([l,r],z0)) (fun u_ x u_=>([x],z0)) (fun u_ u_ u_ u_=>([],z0)) (fun t b e u_=>([t,b,e],z0)) (fun u_ u_ u_=>([],z0)) (fun u_ u_ u_=>([],z0)) (fun e g s u_=>(e::Ah g,(g,s),[])) (fun u_ u_ u_ u_=>([],z0)) (fun u_ u_ u_ u_ u_=>([],z0)) (fun e g s u_=>(e::Ah g,(g,s),[])) (fun u_ u_=>([],z0)) (fun u_ u_=>([],z0)) (fun u_ u_=>([],z0)) (fun l u_ es u_=>(l::es,z0)) (fun f as ks u_=>(f::(as++ks.map (·.value)),([],default),ks)) (fun u_ u_ u_ u_=>([],z0)) (fun u_ u_=>([],z0)) (fun u_ u_ u_=>([],z0)) (fun v u_ u_=>([v],z0)) (fun v s u_=>([v,s],z0)) (fun u_ u_=>([],z0)) (fun u_ u_=>([],z0)) (fun es u_=>(es,z0)) (fun es u_ u_=>(es,z0)) (fun lo hi st u_=>([lo.getD default,hi.getD default,st.getD default],z0))
noncomputable def E5(e:Expr):List Expr:=(pE e).1
noncomputable def yP(e:Expr):List Keyword:=(pE e).2.2
noncomputable def tk(e:Expr):Nat:=((j9 e).map fun p=>p.1.2.1).getD 0
noncomputable def ch(e:Expr)(i:Nat):Expr:=(E5 e).getD i default
noncomputable abbrev ps(e:Expr):Pos:=e.pos
noncomputable def AA(e:Expr):List Comprehension×Scope:=(pE e).2.1
noncomputable def dG(e:Expr):Scope:=(AA e).2
noncomputable def ec(e:Expr):List Expr:=CH (AA e).1
noncomputable def pS(s:Stmt):List Expr×List Stmt×List Stmt×List ExceptHandler:= @Stmt.casesOn (fun u_=>List Expr×List Stmt×List Stmt×List ExceptHandler) s (fun u_ u_ u_ u_ u_ u_ u_ u_ u_ u_=>([],[],[],[])) (fun u_ u_ u_ u_ u_ u_ u_ u_ u_ u_=>([],[],[],[])) (fun u_ u_ u_ u_ u_ u_ u_ u_ u_ u_ u_=>([],[],[],[])) (fun e u_=>(e.elim [] fun e=>[e],[],[],[])) (fun u_ u_=>([],[],[],[])) (fun ts e u_=>(e::ts,[],[],[])) (fun u_ u_ u_ u_ u_ u_ u_=>([],[],[],[])) (fun t u_ e u_=>([t,e],[],[],[])) (fun u_ u_ u_ u_ u_=>([],[],[],[])) (fun t i b e u_=>([t,i],b,e,[])) (fun u_ u_ u_ u_ u_=>([],[],[],[])) (fun t b e u_=>([t],b,e,[])) (fun t b e u_=>([t],b,e,[])) (fun u_ u_ u_=>([],[],[],[])) (fun u_ u_ u_=>([],[],[],[])) (fun u_ u_ u_=>([],[],[],[])) (fun e u_ u_=>(e.elim [] fun e=>[e],[],[],[])) (fun b h u_ u_ u_=>([],b,[],h)) (fun u_ u_ u_ u_ u_=>([],[],[],[])) (fun t u_ u_=>([t],[],[],[])) (fun u_ u_=>([],[],[],[])) (fun u_ u_ u_ u_=>([],[],[],[])) (fun u_ u_=>([],[],[],[])) (fun u_ u_=>([],[],[],[])) (fun e u_=>([e],[],[],[])) (fun u_=>([],[],[],[])) (fun u_=>([],[],[],[])) (fun u_=>([],[],[],[]))
noncomputable def EA(s:Stmt):List Expr:=(pS s).1
noncomputable def sx(s:Stmt)(i:Nat):Expr:=(EA s).getD i default
noncomputable def aj(s:Stmt):List Stmt:=(pS s).2.1
noncomputable def cW(s:Stmt):List Stmt:=(pS s).2.2.1
noncomputable abbrev kB(s:Stmt):Pos:=s.pos
noncomputable def si(l:List Stmt)(i:Nat):Stmt:=l.getD i (.Pass default)
section
theorem bT{x:Str}(he:e= .Name x (ps e))(h:aR c en x=some y):(lv c (n+1)).ev en σ e=some (.ok y σ):=by
 rw[he];exact fV h
theorem cG{z:V}(he:e= .BinOp (ch e 0) op (ch e 1) (ps e))(h1:(lv c n).ev en σ (ch e 0)=some (.ok x KC))(h2:(lv c n).ev en KC (ch e 1)=some (.ok y KG))(h3:mI KG op x y=some (z,KZ)):(lv c (n+1)).ev en σ e=some (.ok z KZ):=
 (congrArg ((lv c (n+1)).ev en σ) he).trans (BK h1 h2 h3)
theorem jb(he:e= .Attribute (ch e 0) name (ps e))(hp:aU (ch e 0)=true)(h:(lv c n).ev en σ (ch e 0)=some (.ok x KC))(hg:jo c KC x name=some (.val y)):(lv c (n+1)).ev en σ e=some (.ok y KC):=
 (congrArg ((lv c (n+1)).ev en σ) he).trans (ol hp h hg)
theorem Ei{f:Addr}(he:e= .Attribute (ch e 0) name (ps e))(hp:aU (ch e 0)=true)(h:(lv c n).ev en σ (ch e 0)=some (.ok x KC))(hg:jo c KC x name=some (.prop f))(hc:(lv c n).cf KC f [x] []=some (.ok y KG))(hy:dg y=true):(lv c (n+1)).ev en σ e=some (.ok y KG):=
 (congrArg ((lv c (n+1)).ev en σ) he).trans (xY hp h hg hc hy)
theorem c_{i:Int}(he:e= .Subscript (ch e 0) (ch e 1) (ps e))(hn:bB (ch e 1)=true)(h1:(lv c n).ev en σ (ch e 0)=some (.ok x KC))(h2:(lv c n).ev en KC (ch e 1)=some (.ok (.int i) KG))(h3:gk KG x i=some y):(lv c (n+1)).ev en σ e=some (.ok y KG):=
 (congrArg ((lv c (n+1)).ev en σ) he).trans (sI hn h1 h2 h3)
theorem qy{op:CmpOp}(he:e= .Compare (ch e 0) [op] [ch e 1] (ps e))(hm:lastMarks [op] [ch e 1]=false)(h1:(lv c n).ev en σ (ch e 0)=some (.ok x KC))(h2:(lv c n).ev en KC (ch e 1)=some (.ok y KG))(h3:eh KG op x y=some b):(lv c (n+1)).ev en σ e=some (.ok (.bool b) KG):=
 (congrArg ((lv c (n+1)).ev en σ) he).trans (Ba hm h1 h2 h3)
theorem bx{op:CmpOp}(he:e= .Compare (ch e 0) [op] [ch e 1] (ps e))(hm:lastMarks [op] [ch e 1]=false)(h1:(lv c n).ev en σ (ch e 0)=some (.ok x KC))(h2:(lv c n).ev en KC (ch e 1)=some (.ok y KG))(h3:eh KG op x y=some b):(lv c (n+1)).tr en σ e=some (.ok b KG):=
 (congrArg ((lv c (n+1)).tr en σ) he).trans (Bu hm h1 h2 h3)
theorem CQ(he:e= .IfExp (ch e 0) (ch e 1) (ch e 2) (ps e))(h0:(lv c n).tr en σ (ch e 0)=some (.ok b σ))(h1:b=true→(lv c n).ev en σ (ch e 1)=some (.ok x σ))(h2:b=false→(lv c n).ev en σ (ch e 2)=some (.ok y σ)):(lv c (n+1)).ev en σ e=some (.ok (bif b then x else y) σ):=
 (congrArg ((lv c (n+1)).ev en σ) he).trans (AG h0 (by cases b with|true=>exact h1 rfl|false=>exact h2 rfl))
theorem CF(he:e= .IfExp (ch e 0) (ch e 1) (ch e 2) (ps e))(h0:(lv c n).tr en σ (ch e 0)=some (.ok b KC))(h1:(lv c n).ev en KC (bif b then ch e 1 else ch e 2)=some o):(lv c (n+1)).ev en σ e=some o:=
 (congrArg ((lv c (n+1)).ev en σ) he).trans (AG h0 (by cases b<;>exact h1))
theorem dz(hp:fN e=true)(h1:(lv c n).ev en σ e=some (.ok x KC))(h2:bq KC x=some b):(lv c (n+1)).tr en σ e=some (.ok b KC):=B6 hp h1 h2
theorem Bp(he:e= .UnaryOp .Not (ch e 0) (ps e))(h:(lv c n).tr en σ (ch e 0)=some (.ok b KC)):(lv c (n+1)).tr en σ e=some (.ok (!b) KC):=
 (congrArg ((lv c (n+1)).tr en σ) he).trans (BR h)
theorem lx{a:Bool}(he:e= .BoolOp .And [ch e 0,ch e 1] (ps e))(h1:(lv c n).tr en σ (ch e 0)=some (.ok a σ))(h2:a=true→(lv c n).tr en σ (ch e 1)=some (.ok b σ)):(lv c (n+1)).tr en σ e=some (.ok (a&&b) σ):=by
 refine(he).symm▸ ?_;refine iX (de h1 ?_)
 cases a with
 |false=>rfl
 |true=>exact de (h2 rfl) (by cases b<;>rfl)
theorem D1{a:Bool}(he:e= .BoolOp .Or [ch e 0,ch e 1] (ps e))(h1:(lv c n).tr en σ (ch e 0)=some (.ok a σ))(h2:a=false→(lv c n).tr en σ (ch e 1)=some (.ok b σ)):(lv c (n+1)).tr en σ e=some (.ok (a||b) σ):=by
 refine(he).symm▸ ?_;refine iX (de h1 ?_)
 cases a with
 |true=>rfl
 |false=>exact de (h2 rfl) (by cases b<;>rfl)
theorem DG{a:Bool}(he:e= .BoolOp .And [ch e 0,ch e 1] (ps e))(h1:(lv c n).ev en σ (ch e 0)=some (.ok x σ))(ht:bq σ x=some a)(h2:a=true→(lv c n).ev en σ (ch e 1)=some (.ok y σ)):(lv c (n+1)).ev en σ e=some (.ok (bif a then y else x) σ):=by
 rw[he];show i7 _ en .And σ [ch e 0,ch e 1]=_;refine kW h1 (A3 ht ?_)
 cases a with
 |false=>rfl
 |true=>exact h2 rfl
theorem CU{a:Bool}(he:e= .BoolOp .Or [ch e 0,ch e 1] (ps e))(h1:(lv c n).ev en σ (ch e 0)=some (.ok x σ))(ht:bq σ x=some a)(h2:a=false→(lv c n).ev en σ (ch e 1)=some (.ok y σ)):(lv c (n+1)).ev en σ e=some (.ok (bif a then x else y) σ):=by
 rw[he];show i7 _ en .Or σ [ch e 0,ch e 1]=_;refine kW h1 (A3 ht ?_)
 cases a with
 |false=>exact h2 rfl
 |true=>rfl
theorem rg{a:Bool}(he:e= .BoolOp .And [ch e 0,ch e 1] (ps e))(h1:(lv c n).ev en σ (ch e 0)=some (.ok (.bool a) σ))(h2:a=true→(lv c n).ev en σ (ch e 1)=some (.ok (.bool b) σ)):(lv c (n+1)).ev en σ e=some (.ok (.bool (a&&b)) σ):=by
 rw[DG he h1 rfl h2];cases a<;>rfl
theorem CI{a:Bool}(he:e= .BoolOp .Or [ch e 0,ch e 1] (ps e))(h1:(lv c n).ev en σ (ch e 0)=some (.ok (.bool a) σ))(h2:a=false→(lv c n).ev en σ (ch e 1)=some (.ok (.bool b) σ)):(lv c (n+1)).ev en σ e=some (.ok (.bool (a||b)) σ):=by
 rw[CU he h1 rfl h2];cases a<;>rfl
end
end
section
section
theorem bA(hc:aY e=false)(h:(lv c n).ev en σ e=some (.ok x KC)):(lv c (n+1)).iv en σ e=some (.ok (.v x) KC):=
 Av (fun f a k p q=>by rw[q]at hc;exact Cn hc) h rfl
theorem mF(h:aY e=true)(k: ∀f a kw p,e= .Call f a kw p→P):P:=by
 exact @Expr.Call.elim (fun e=>(∀f a kw p,e= .Call f a kw p→P)→P) e (Nat.eq_of_beq_eq_true h) (fun f a kw p k=>k f a kw p rfl) k
theorem zL(hc:aY e=true)(h:(lv c (n+1)).ev en σ e=some (.ok x KC)):(lv c (n+1)).iv en σ e=some (.ok (.v x) KC):=by
 refine mF hc fun f a k p q=> ?_;subst q;change f_ (cj c (lv c n) en σ f a k p)=_ at h;change cj c (lv c n) en σ f a k p=_
 cases w:cj c (lv c n) en σ f a k p with
 |none=>rw[w]at h;exact no h
 |some o=>
  rw[w]at h
  cases o with
  |exc=>cases IF h
  |ok y KB=>
   cases y with
   |it=>exact no h
   |v y=>cases IF h;rfl
theorem ku(hc:aY e=true)(h:(lv c (n+1)).iv en σ e=some (.ok (.v x) KC)):(lv c (n+1)).ev en σ e=some (.ok x KC):=by
 refine mF hc fun f a k p q=> ?_;subst q;change cj c (lv c n) en σ f a k p=_ at h;show f_ (cj c (lv c n) en σ f a k p)=_;rw[h];rfl
theorem cM{x:Str}{vs:List IV}{o:aG IV}(he:e= .Call (.Name x (ps (ch e 0))) args [] (ps e))(hg:cJ args=none)(hx:aR c en x=some (.val fv))(hc:(al args&&bJ c.K fv)=true)
 (h1:dW (lv c (n+1)).iv en σ args=some (.ok vs KC)) (h2:aJ c (lv c (n+1)).cf KC fv vs []=some o):(lv c (n+2)).iv en σ e=some o:=by
 rw[he];have hc:=Gg.mp hc;refine gV (jB ?_ hx (fC (xs:=vs) (ks:=[]) ?_ h1 rfl h2))
 ·refine(?_:(if(List.isEmpty ([]:List Keyword))=true then(cJ args).map _ else none)=none)
  rw[hg];rfl
 ·rw[hc.1,hc.2];rfl
theorem gr{vs:List IV}{o:aG IV}(he:e= .Call (.Attribute (ch (ch e 0) 0) name (ps (ch e 0))) args [] (ps e))(hp:(aU (ch (ch e 0) 0)&&(ps (ch e 0)).endLine==(ps e).line&&decide (args.length+0<20)&&al args)=true)
 (hx:(lv c n).ev en σ (ch (ch e 0) 0)=some (.ok x KC)) (hm:iw c KC x name=some (fv,first)) (hc:bJ c.K fv=true) (h1:dW (lv c n).iv en KC args=some (.ok vs KG)) (h2:aJ c (lv c n).cf KG fv (first.map .v++vs) []=some o):(lv c (n+1)).iv en σ e=some o:=by
 rw[he];have hs:al args=true:=(Gg.mp hp).2;refine gV (gU ?_ hx hm (fC (xs:=vs) (ks:=[]) ?_ h1 rfl h2))
 ·simpa [iq]using hp
 ·rw[hs,hc];rfl
theorem kO{f:iR}{x:IV}(hs:al [e]=true)(h1:f en σ e=some (.ok x KC)):dW f en σ [e]=some (.ok [x] KC):=aO hs h1 fS
theorem z9{f:iR}{x x':IV}(hs:al [e,e']=true)(h1:f en σ e=some (.ok x KC))(h2:f en KC e'=some (.ok x' KG)):dW f en σ [e,e']=some (.ok [x,x'] KG):=by
 have a:al [e]=true:=(show(!db e&&true)=true from Gg.mpr ⟨(Gg.mp hs).1,rfl⟩)
 have b:al [e']=true:=(bj hs).2;exact aO a h1 (kO b h2)
theorem iv3{f:iR}{e'':Expr}{x x' x'':IV}(h0:al [e]=true)(hs:al [e',e'']=true)(h1:f en σ e=some (.ok x KC))(h2:f en KC e'=some (.ok x' KG))(h3:f en KG e''=some (.ok x'' KZ)):dW f en σ [e,e',e'']=some (.ok [x,x',x''] KZ):=
 aO h0 h1 (z9 hs h2 h3)
noncomputable def EE(e:Expr):Option (Str×Expr×Expr×Expr×List Expr×Scope):=(wm e).bind fun p=>mz p.1.1 p.1.2.1 p.1.2.2.1
noncomputable abbrev sJ(e:Expr)(fn:String):Prop:=EE e=some (Kn fn,ch (ch e 1) 0,ch (ch e 1) 1,ch (ch e 1) 2,[],dG (ch e 1))
theorem kH{v:V}(h:EE e=some (fn,elt,target,iter,ifs,scope))(k:cZ c (lv c n).iv (lv c n).tr (lv c n).ev en σ fn elt target iter ifs scope=some (.ok v KC)):(lv c (n+1)).ev en σ e=some (.ok v KC):=by
 refine eT h fun p h=> ?_;obtain⟨⟨f,a,kw,p⟩,rfl⟩:=p;exact B4 h k
end
section
variable {γ:Type}
noncomputable def aE(S:Sg→Prop)(t:It)(xs:List V):Prop:= ∃ts:Nat→It,ts 0=t∧ ∀σ:Sg,S σ→(∀i x,xs[i]? =some x→ay σ (ts i)=some (some (x,ts (i+1))))∧ay σ (ts xs.length)=some none
theorem ai{S:Sg→Prop}(as:List α)(f:α→V):aE S (.seq (as.map f) 0) (as.map f):=⟨fun i=> .seq (as.map f) i,rfl,fun σ u_=>⟨fun i x h=>nxq h,nxe gnl⟩⟩
theorem eu{S:Sg→Prop}(h: ∀σ,S σ→σ[k]? =some (.lst l)):aE S (.lst k 0) l:=⟨fun i=> .lst k i,rfl,fun σ q=>⟨fun i x hx=>nxl (aN (h σ q)) hx,DF (aN (h σ q)) gnl⟩⟩
theorem bb{S:Sg→Prop}{u:It}{as:List α}{bs:List β}{f:α→V}{g:β→V}(h1:aE S t (as.map f))(h2:aE S u (bs.map g)):aE S (.zip [t,u]) ((as.zip bs).map fun p=>V.tup [f p.1,g p.2]):=by
 obtain⟨ts,rfl,h1⟩:=h1;obtain⟨us,rfl,h2⟩:=h2;refine⟨fun i=> .zip [ts i,us i],rfl,fun σ q=>⟨fun i z hz=> ?_,?_⟩⟩
 ·refine aP ((Ha ..).symm.trans hz) fun p hab e=> ?_;subst e;have w:=HN.mp hab;exact nxz rfl (uT ((h1 σ q).1 i _ (z_ w.1)) (uT ((h2 σ q).1 i _ (z_ w.2)) sh))
 ·rw[GM,GQ];have e1:=(h1 σ q).2;have e2:=(h2 σ q).2;rw[GM]at e1 e2
  by_cases hl:as.length≤bs.length
  ·refine(Nat.min_eq_left hl).symm▸ ?_;exact B8 rfl (B9 e1)
  ·rw[Nat.min_eq_right (Nat.le_of_not_le ‹_›)];exact B8 rfl (Fr ((h1 σ q).1 bs.length _ (z_ (G1 (Nat.lt_of_not_le ‹_›)))) (B9 e2))
theorem fQ{S:Sg→Prop}{u v:It}{as:List α}{bs:List β}{cs:List γ}{f:α→V}{g:β→V}{h:γ→V}(h1:aE S t (as.map f))(h2:aE S u (bs.map g))(h3:aE S v (cs.map h))(l1:as.length=bs.length)(l2:as.length=cs.length):aE S (.zip [t,u,v]) ((as.zip (bs.zip cs)).map fun p=>V.tup [f p.1,g p.2.1,h p.2.2]):=by
 obtain⟨ts,rfl,h1⟩:=h1;obtain⟨us,rfl,h2⟩:=h2;obtain⟨vs,rfl,h3⟩:=h3;refine⟨fun i=> .zip [ts i,us i,vs i],rfl,fun σ q=>⟨fun i z hz=> ?_,?_⟩⟩
 ·refine aP ((Ha ..).symm.trans hz) fun p hab e=> ?_;subst e;have w:=HN.mp hab;have w':=HN.mp w.2;exact nxz rfl (uT ((h1 σ q).1 i _ (z_ w.1)) (uT ((h2 σ q).1 i _ (z_ w'.1)) (uT ((h3 σ q).1 i _ (z_ w'.2)) sh)))
 ·have e1:=(h1 σ q).2;rw[GM]at e1;rw[GM,GQ,GQ,←l1,←l2,Ii,Ii];exact B8 rfl (B9 e1)
theorem rA{S:Sg→Prop}{as:List α}{f:α→V}(m:Int)(h:aE S t (as.map f)):aE S (.enum t m) (as.zipIdx.map fun p=> .tup [.int (m+(p.2:Int)),f p.1]):=by
 obtain⟨ts,rfl,h⟩:=h
 refine⟨fun i=> .enum (ts i) (m+i),by simp,fun σ q=>⟨fun i z hz=> ?_,?_⟩⟩
 ·refine aP ((Ha ..).symm.trans hz) fun p hab e=> ?_;subst e;refine aP ((List.getElem?_zipIdx ..).symm.trans hab) fun a ha e=> ?_;subst e;rw[sQ,(h σ q).1 i _ (z_ ha),Iv];exact congrArg (fun z=>some (some (V.tup [V.int (m+i),f a],It.enum (ts (i+1)) z))) scs
 ·have e1:=(h σ q).2;rw[GM]at e1;rw[GM,List.length_zipIdx];rw[sQ,e1];rfl
theorem hX{S:Sg→Prop}(a b:Int):aE S (.rng a b 1) ((GT b.toNat).map fun(i:Nat)=>V.int (a+(i:Int))):=by
 refine aK (vB.rng a b) fun ts h1 h2=> ?_;exact⟨ts,h1,fun σ u_=>h2 σ⟩
theorem wQ{S:Sg→Prop}{P:En→Prop}{as:List α}{f F:α→V}(hS:S σ)(ht:aE S t (as.map f))(hl:as.length<az)(hb: ∀a∈as,∀en,P en→ ∃en',P en'∧g target en σ (f a)=some (en',σ)∧ev en' σ elt=some (.ok (F a) σ))(hp:P en):
 d6 (mY g tr ev target [] elt az) az en σ t=some (as.map F,σ):=by
 refine aK ht fun ts zz1 h=> ?_;subst zz1
 refine uw (P:=P) (ys:=as.map F) (ts:=ts) (fun i y en hy hp=> ?_) (fun en hp=>uS (by rw[GM,←GM (f:=f)];exact(h σ hS).2)) (by rw[GM];exact hl) hp
 refine aP ((Ha ..).symm.trans hy) fun a ha e=> ?_;subst e;refine bW (hb a (Hn ha) en hp) fun en' hp' h1 h2=> ?_;exact⟨en',hp',vG ((h σ hS).1 i (f a) (z_ ha)) h1 h2⟩
theorem aE.nil{S:Sg→Prop}(h:aE S t [])(q:S σ):ay σ t=some none:=aK h fun ts e h=>e▸(h σ q).2
theorem aE.cons{S:Sg→Prop}(h:aE S t (x::xs)): ∃t',aE S t' xs∧ ∀σ,S σ→ay σ t=some (some (x,t')):=
 aK h fun ts e h=>⟨ts 1,⟨fun i=>ts (i+1),rfl,fun σ q=>⟨fun i x=>(h σ q).1 (i+1) x,(h σ q).2⟩⟩,fun σ q=>e▸(h σ q).1 0 x rfl⟩
theorem wx{S:Sg→Prop}{P:En→Prop}{as:List α}{f F:α→V}{q:α→Bool}{stop:Bool}(hS:S σ)(ht:aE S t (as.map f)){w:Nat}(hl:as.length<w)
 (hb: ∀a∈as,∀en,P en→ ∃en',P en'∧g target en σ (f a)=some (en',σ)∧ev en' σ elt=some (.ok (F a) σ)) (hq: ∀a∈as,bq σ (F a)=some (q a)) (hp:P en):
 d5 (mY g tr ev target [] elt az) stop w en σ t=some (as.any fun a=>q a==stop,σ):=by
 induction as generalizing t en w with
 |nil=>cases w with
  |zero=>exact absurd hl (Ie _)
  |succ w=>exact ud (uS (ht.nil hS))
 |cons a as ih=>cases w with
  |zero=>exact absurd hl (Ie _)
  |succ w=>
   refine aK ht.cons fun t' h' hn=> ?_;refine bW (hb a (.head _) en hp) fun en' hp' h1 h2=> ?_;rw[qV (vG (tr:=tr) (hn σ hS) h1 h2) (hq a (.head _)),Hs]
   cases hs:(q a==stop)with
   |true=>exact if_pos (GK hs)
   |false=>rw[if_neg (ne_of_beq_false hs)];exact ih h' (Ih hl) (fun b m=>hb b (.tail _ m)) (fun b m=>hq b (.tail _ m)) hp'
noncomputable def nB(c:Cx)(n:Nat)(e:Expr)(en:En)(σ:Sg)(as:List α)(f:α→V)(b:α→List (Str×V))(F:α→V):Prop:=
 ∀a∈as,∀own,dq 8 (ch (ch e 1) 1) ⟨(dG (ch e 1)).names,own,(dD (dG (ch e 1)).names en).fre,none⟩ σ (f a)=some (⟨(dG (ch e 1)).names,b a++own,(dD (dG (ch e 1)).names en).fre,none⟩,σ)∧
  (lv c n).ev ⟨(dG (ch e 1)).names,b a++own,(dD (dG (ch e 1)).names en).fre,none⟩ σ (ch (ch e 1) 0)=some (.ok (F a) σ)
noncomputable abbrev El(e:Expr)(en:En)(en':En):Prop:= ∃own,en'=⟨(dG (ch e 1)).names,own,(dD (dG (ch e 1)).names en).fre,none⟩
theorem nB.step{as:List α}{f F:α→V}{b:α→List (Str×V)}(h:nB c n e en σ as f b F): ∀a∈as,∀KS,El e en KS→ ∃en',El e en en'∧dq 8 (ch (ch e 1) 1) KS σ (f a)=some (en',σ)∧(lv c n).ev en' σ (ch (ch e 1) 0)=some (.ok (F a) σ):=
 fun a ha _ ⟨own,he⟩=>⟨_,⟨_,rfl⟩,by rw[he];exact(h a ha own).1,(h a ha own).2⟩
theorem iz{S:Sg→Prop}{x:IV}{as:List α}{f F:α→V}{b:α→List (Str×V)}{q:α→Bool}(he:sJ e "all")(hf:fc c en (ch (ch e 1) 2) (dG (ch e 1))=true)(hn:aR c en "all"=some (.val (.builtin "all")))(hx:(lv c n).iv en σ (ch (ch e 1) 2)=some (.ok x σ))(ht:aC σ x=some t)
 (hS:S σ) (tl:aE S t (as.map f)) (hl:as.length<4096) (hb:nB c n e en σ as f b F) (hq: ∀a∈as,bq σ (F a)=some (q a)):(lv c (n+1)).ev en σ e=some (.ok (.bool (as.all q)) σ):=by
 have:=kH he (zm hf hn hx ht (wx hS tl hl hb.step hq ⟨_,rfl⟩));rw[this];congr 3;rw[List.not_any_eq_all_not];congr 1;funext a
 cases q a<;>rfl
theorem Aw{S:Sg→Prop}{x:IV}{as:List α}{f F:α→V}{b:α→List (Str×V)}{q:α→Bool}(he:sJ e "any")(hf:fc c en (ch (ch e 1) 2) (dG (ch e 1))=true)(hn:aR c en "any"=some (.val (.builtin "any")))(hx:(lv c n).iv en σ (ch (ch e 1) 2)=some (.ok x σ))(ht:aC σ x=some t)
 (hS:S σ) (tl:aE S t (as.map f)) (hl:as.length<4096) (hb:nB c n e en σ as f b F) (hq: ∀a∈as,bq σ (F a)=some (q a)):(lv c (n+1)).ev en σ e=some (.ok (.bool (as.any q)) σ):=by
 have:=kH he (zx hf hn hx ht (wx hS tl hl hb.step hq ⟨_,rfl⟩));rw[this];simp
theorem iF{F:α→Int}(as:List α):cU (as.map fun a=>V.int (F a))=some (as.map F):=by
 induction as with
 |nil=>rfl
 |cons a as ih=>exact congrArg (Option.map (F a:: ·)) ih
theorem Dd{S:Sg→Prop}{x:IV}{as:List α}{f:α→V}{F:α→Int}{b:α→List (Str×V)}(he:sJ e "sum")(hf:fc c en (ch (ch e 1) 2) (dG (ch e 1))=true)(hn:aR c en "sum"=some (.val (.builtin "sum")))(hx:(lv c n).iv en σ (ch (ch e 1) 2)=some (.ok x σ))(ht:aC σ x=some t)
 (hS:S σ) (tl:aE S t (as.map f)) (hl:as.length<4096) (hb:nB c n e en σ as f b fun a=> .int (F a)):(lv c (n+1)).ev en σ e=some (.ok (.int (as.map F).sum) σ):=
 kH he (zE hf hn hx ht (wQ hS tl hl hb.step ⟨_,rfl⟩) (iF as))
theorem hV{S:Sg→Prop}{x:IV}{as:List α}{f F:α→V}{b:α→List (Str×V)}(he:sJ e "tuple")(hf:fc c en (ch (ch e 1) 2) (dG (ch e 1))=true)(hn:aR c en "tuple"=some (.val (.type "tuple")))(hx:(lv c n).iv en σ (ch (ch e 1) 2)=some (.ok x σ))(ht:aC σ x=some t)
 (hS:S σ) (tl:aE S t (as.map f)) (hl:as.length<4096) (hb:nB c n e en σ as f b F) (hs: ∀a∈as,jA (F a)=true):(lv c (n+1)).ev en σ e=some (.ok (.tup (as.map F)) σ):=by
 refine kH he (td hf hn hx ht (wQ hS tl hl hb.step ⟨_,rfl⟩) ?_ (by rw[GM];exact ET ‹_› (by exact ac)))
 clear hb tl hl
 induction as with
 |nil=>rfl
 |cons a as ih=>exact Gg.mpr ⟨hs a (.head _),ih fun b hb=>hs b (.tail _ hb)⟩
noncomputable abbrev iM(e:Expr):Prop:=e= .ListComp (ch e 0) [⟨ch e 1,ch e 2,ec e,0⟩] (dG e) (ps e)
theorem jY(hz:acc.length<2^19):cD (σ++[aa.lst acc]) σ.length y=some (σ++[aa.lst (acc++[y])]):=by
 show(aI (σ++[aa.lst acc]) σ.length).bind _=_
 rw[aN (l:=acc) (by simp)]
 refine dQ (ET ‹_› (by exact ac)) ?_
 simp[List.set_append]
theorem Ev{S:Sg→Prop}{P:En→Prop}{as:List α}{f F:α→V}{k:α→Bool}(hS: ∀acc,S (σ++[aa.lst acc]))(ht:aE S t (as.map f)){w:Nat}(hl:as.length<w)(ha:acc.length+as.length<az)
 (hb: ∀a∈as,∀en acc,P en→ ∃en',P en'∧g target en (σ++[aa.lst acc]) (f a)=some (en',σ++[aa.lst acc])∧bL tr en' (σ++[aa.lst acc]) ifs=some (k a,σ++[aa.lst acc])∧(k a=true→ev en' (σ++[aa.lst acc]) elt=some (.ok (F a) (σ++[aa.lst acc])))) (hp:P en):
 cE g tr ev target ifs elt σ.length w en (σ++[aa.lst acc]) t=some (σ++[aa.lst (acc++(as.filter k).map F)]):=by
 induction as generalizing t en w acc with
 |nil=>cases w with
  |zero=>exact absurd hl (Ie _)
  |succ w=>exact(G2 acc).symm▸nd (ht.nil (hS _))
 |cons a as ih=>cases w with
  |zero=>exact absurd hl (Ie _)
  |succ w=>
   refine aK ht.cons fun t' h' hn=> ?_;refine nr (hb a (.head _) en acc hp) fun en' hp' h1 h2 h3=> ?_;have hb':=fun b m=>hb b (.tail _ m)
   cases hk:k a with
   |true=>
    rw[hk]at h2
    rw[nw (hn _ (hS _)) h1 h2 (h3 hk) (jY (H4 (H1 ..) (H8 ha (H7 rfl)))),ih h' (Ih hl) (by rw[G4];exact(congrArg (· <az) (Iy ..)).mpr ha) hb' hp',GY,List.filter_cons_of_pos hk];rfl
   |false=>
    rw[hk]at h2;rw[ld (hn _ (hS _)) h1 h2,List.filter_cons_of_neg (hk▸Gi)];exact ih h' (Ih hl) (Iu ha) hb' hp'
theorem AF{S:Sg→Prop}{P:En→Prop}{as:List α}{f F:α→V}{k:α→Bool}(hS: ∀acc,S (σ++[aa.lst acc]))(ht:aE S t (as.map f))(hl:as.length<az)
 (hb: ∀a∈as,∀en acc,P en→ ∃en',P en'∧g target en (σ++[aa.lst acc]) (f a)=some (en',σ++[aa.lst acc])∧bL tr en' (σ++[aa.lst acc]) ifs=some (k a,σ++[aa.lst acc])∧(k a=true→ev en' (σ++[aa.lst acc]) elt=some (.ok (F a) (σ++[aa.lst acc])))) (hp:P en):
 cE g tr ev target ifs elt σ.length az en (σ++[aa.lst []]) t=some (σ++[aa.lst ((as.filter k).map F)]):=Ev (acc:=[]) hS ht hl (by rw[List.length_nil,Iv];exact hl) hb hp
noncomputable def CR(c:Cx)(n:Nat)(e:Expr)(en:En)(σ:Sg)(as:List α)(f:α→V)(b:α→List (Str×V))(P:List (Str×V)→Prop)(k:α→Bool)(F:α→V):Prop:=
 ∀a∈as,∀own acc,P own→P (b a++own)∧dq 8 (ch e 1) ⟨am (dG e).names en,own,en.fre,none⟩ (σ++[aa.lst acc]) (f a)=some (⟨am (dG e).names en,b a++own,en.fre,none⟩,σ++[aa.lst acc])∧
  bL (lv c n).tr ⟨am (dG e).names en,b a++own,en.fre,none⟩ (σ++[aa.lst acc]) (ec e)=some (k a,σ++[aa.lst acc])∧
  (k a=true→(lv c n).ev ⟨am (dG e).names en,b a++own,en.fre,none⟩ (σ++[aa.lst acc]) (ch e 0)=some (.ok (F a) (σ++[aa.lst acc])))
noncomputable abbrev hG(en:En)(e:Expr):Bool:=dt (ch e 2)&&(dG e).kind== .function&&d7 (dG e).names en
theorem nN{S:Sg→Prop}{x:IV}{as:List α}{f F:α→V}{b:α→List (Str×V)}{P:List (Str×V)→Prop}{k:α→Bool}(hf:hG en e=true)(hx:(lv c n).iv en σ (ch e 2)=some (.ok x σ))(ht:aC σ x=some t)(hS: ∀acc,S (σ++[aa.lst acc]))(tl:aE S t (as.map f))(hl:as.length<4096)
 (hp:P (dY (dG e).names en).own) (hb:CR c n e en σ as f b P k F):ci (lv c n).iv (lv c n).tr (lv c n).ev en σ (ch e 0) [⟨ch e 1,ch e 2,ec e,0⟩] (dG e)=some (.ok (.lst σ.length) (σ++[aa.lst ((as.filter k).map F)])):=by
 refine nY hf hx ht (AF (P:=fun en'=> ∃own,en'=⟨am (dG e).names en,own,en.fre,none⟩∧P own) hS tl hl ?_ ⟨_,rfl,hp⟩);rintro a ha _ acc ⟨own,rfl,hp⟩;refine uC (hb a ha own acc hp) fun h0 h1 h2 h3=> ?_;exact⟨_,⟨_,rfl,h0⟩,h1,h2,h3⟩
theorem jS(he:iM e)(h:ci (lv c n).iv (lv c n).tr (lv c n).ev en σ (ch e 0) [⟨ch e 1,ch e 2,ec e,0⟩] (dG e)=some (.ok y KC)):(lv c (n+1)).ev en σ e=some (.ok y KC):=
 (congrArg ((lv c (n+1)).ev en σ) he).trans h
end
end
section
noncomputable abbrev pP(p:Int×Int):V:=V.tup [.int p.1,.int p.2]
noncomputable abbrev vI(l:List Int):V:= .tup (l.map V.int)
noncomputable abbrev vP(l:List (Int×Int)):V:= .tup (l.map pP)
noncomputable def o6(X:Xp)(a:Addr):List Value:=(jR (KK X.P) (dZ X a)).getD []
noncomputable def dU(X:Xp)(a:Addr):Bool:=(l7 (KK X.P) a).isSome&&kM (KK X.P) (dZ X a)&&(jR (KK X.P) (dZ X a)).isSome&&(match(dZ X a).body with| .stmts _=>true|_=>false)
theorem bp{X:Xp}{ks:List (Str×V)}(hp:dU X a=true)(hb:eU ((dZ X a).params.args.map (·.arg)) xs ks ((o6 X a).map xM)=some binds)(hk:hO (dZ X a).scope.names binds=true)
 (h:(lv (cc X) n).exs (ah X a binds.reverse) σ (aD X a)=some so) (ho:im so=some o):(lv (cc X) (n+1)).cf σ a xs ks=some o:=by
 unfold dU at hp;simp only[Gh]at hp;obtain⟨⟨⟨h1,h2⟩,h3⟩,h4⟩:=hp;obtain⟨fd,hfd⟩:=ID.mp h1
 have e1:dZ X a=fd:=by unfold dZ;rw[hfd];rfl
 obtain⟨ds,hds⟩:=ID.mp h3
 have e2:o6 X a=ds:=by unfold o6;rw[hds];rfl
 have e3:(dZ X a).body= .stmts (aD X a):=by
  unfold aD
  cases hB:(dZ X a).body with
  |stmts b=>rfl
  |_=>rw[hB]at h4;exact bM h4
 rw[←e1]at hfd;rw[e2]at hb;exact CO hfd h2 e3 hds hb hk h ho
theorem eL{X:Xp}{ks:List (Str×V)}(hp:dU X a=true)(h:(lv (cc X) n).cf σ a xs ks=some (.ok y KC)):aJ (cc X) (lv (cc X) n).cf σ (.ref a) (xs.map .v) ks=some (.ok (.v y) KC):=by
 unfold dU at hp;simp only[Gh]at hp;refine oE (ID.mp hp.1.1.1) fun fd hfd=> ?_;exact Ak hfd h rfl
theorem gL{X:Xp}{ks:List (Str×V)}{y:String}(hp:dU X a=true)(h:(lv (cc X) n).cf σ a xs ks=some (.exc y KC)):aJ (cc X) (lv (cc X) n).cf σ (.ref a) (xs.map .v) ks=some (.exc y KC):=by
 unfold dU at hp;simp only[Gh]at hp;obtain⟨fd,hfd⟩:=ID.mp hp.1.1.1;exact Ak hfd h rfl
theorem zl{x y:Int}(he:e= .IfExp (ch e 0) (ch e 1) (ch e 2) (ps e))(h0:(lv c n).tr en σ (ch e 0)=some (.ok b σ))(h1:b=true→(lv c n).ev en σ (ch e 1)=some (.ok (.int x) σ))(h2:b=false→(lv c n).ev en σ (ch e 2)=some (.ok (.int y) σ)):(lv c (n+1)).ev en σ e=some (.ok (.int (bif b then x else y)) σ):=by
 rw[CQ he h0 h1 h2];cases b<;>rfl
variable {X:Xp}
noncomputable def dT(ss ts:List Int):List Int:=(ss.zip ts).map fun p=>bif p.1==1 then 0 else p.2
noncomputable abbrev C_(X:Xp):=sx (St X 711 0) 0
set_option profiler true
set_option profiler.threshold 300
theorem Aq(ss ts:List Int)(hl:ss.length<4096)(σ:Sg)(n:Nat):(lv (cc X) (n+10)).cf σ 711 [vI ss,vI ts] []=some (.ok (vI (dT ss ts)) σ):=by
 refine bp (a:=711) ac (binds:=[("shape",vI ss),("strides",vI ts)]) ⋯ ac (so:= .ok (.ret (vI (dT ss ts))) (ah X 711 [("strides",vI ts),("shape",vI ss)]) σ) ?_ rfl
 rw[show aD X 711=[.Return (some (C_ X)) (kB (St X 711 0))]from rfl]
 refine aq (wa ?_);have:=hV (c:=cc X) (n:=n+7) (σ:=σ) (e:=C_ X) (en:=ah X 711 [("strides",vI ts),("shape",vI ss)]) (t:= .zip [.seq (ss.map V.int) 0,.seq (ts.map V.int) 0]) (as:=ss.zip ts) (f:=fun p=> .tup [.int p.1,.int p.2])
  (b:=fun p=>[("st",.int p.2),("s",.int p.1)]) (F:=fun p=> .int (bif p.1==1 then 0 else p.2)) rfl ac rfl rfl rfl (S:=fun u_=>True) trivial (bb (ai _ _) (ai _ _)) (by rw[GQ];exact mft ‹_›)
  (fun p u_ own=>⟨rfl,zl rfl (bx rfl aA rfl rfl rfl) (fun u_=>rfl) (fun u_=>rfl)⟩) (fun p u_=>rfl)
 rw[show(ss.zip ts).map (fun p=>V.int (bif p.1==1 then 0 else p.2))=(dT ss ts).map V.int from(G_ ..).symm]at this
 exact this
theorem ir(ss ts:List Int):(dT ss ts).length=min ss.length ts.length:=by simp[dT]
end
section
section
theorem DP{fs:eD}{S:Sg→Prop}{I:Nat→En→Sg→Prop}{as:List α}{f:α→V}(hL: ∀i en σ,I i en σ→σ.length≤L)(hS: ∀i en σ,I i en σ→S σ)(ht:aE S t (as.map f))(hl:as.length<az)(hn: ∀en σ,fs en σ []=some (.ok .next en σ))(h0:I 0 en σ)
 (step: ∀i (hi:i<as.length) en σ,I i en σ→ ∃KS KC K9 KG,g target en σ (f as[i])=some (KS,KC)∧fs KS KC body=some (.ok .next K9 KG)∧I (i+1) K9 KG):
 ∃en' KB,I as.length en' KB∧gw L g fs target body [] az en σ t=some (.ok .next en' KB):=by
 refine aK ht fun ts zz1 h=> ?_;subst zz1
 have key: ∀(m k i:Nat) (en:En) (σ:Sg),i+m=as.length→I i en σ→ ∃en' KB,I as.length en' KB∧gw L g fs target body [] (m+k+1) en σ (ts i)=some (.ok .next en' KB):=by
  intro m
  induction m with
  |zero=>
   intro k i en σ hi hp
   have hi:i=as.length:=by assumption
   subst hi;refine⟨en,σ,hp,?_⟩;have e:=(h σ (hS _ _ _ hp)).2;rw[GM]at e
   refine(show 0+k+1=k+1 from by simp+arith).symm▸ ?_
   exact oW e (hn _ _)
  |succ m ih=>
   intro k i en σ hi hp
   have hlt:i<as.length:=by exact EQ ‹_›
   refine bP (step i hlt en σ hp) fun KS KC K9 KG h1 h2 h3=> ?_;refine bf (ih k (i+1) K9 KG (Eb ‹_›) h3) fun en' KB h4 h5=> ?_;refine⟨en',KB,h4,?_⟩
   have hx:=(h σ (hS _ _ _ hp)).1 i (f as[i]) (by simp[hlt])
   refine(show m+1+k+1=(m+k+1)+1 from by simp+arith).symm▸ ?_
   generalize m+k+1=w at h5⊢;have hc:jw L (ts (i+1)) K9 KG=(K9,KG):=if_pos (hL _ _ _ h3);rw[nv hx h1 h2];show gw L g fs target body [] w _ _ _=_;rw[hc];exact h5
 refine bf (key as.length (az-1-as.length) 0 en σ (by simp+arith) h0) fun en' KB h1 h2=> ?_
 rw[show as.length+(az-1-as.length)+1=az from by exact EP ‹_›]at h2
 exact⟨en',KB,h1,h2⟩
theorem qQ{S:Sg→Prop}(as:List α)(f:α→V)(hl:as.length≤2^20):aE S (.revt (as.map f) as.length) (as.reverse.map f):=by
 refine⟨fun i=> .revt (as.map f) (as.length-i),rfl,fun σ u_=>⟨fun i x hx=> ?_,?_⟩⟩
 ·have hi:i<as.length:=by
   have:=(GZ.mp hx).1;simpa using this
  obtain⟨k,hk⟩: ∃k,as.length-i=k+1:=⟨as.length-i-1,by exact rt0 ‹_›⟩
  have hk':as.length-(i+1)=k:=by exact rt1 ‹_›
  have e:(as.map f)[k]? =some x:=by
   rw[←hx,List.map_reverse,List.getElem?_reverse (by simpa using hi)]
   congr 1;simp;exact rt2 ‹_›
  refine(?_:ay σ (.revt (as.map f) (as.length-i))=some (some (x,.revt (as.map f) (as.length-(i+1)))));rw[hk,hk'];show((as.map f)[k]?).bind _=_;rw[e]
  exact if_pos (by rw[GM];exact hl)
 ·as_aux_lemma=>
   refine(?_:ay σ (.revt (as.map f) (as.length-(as.reverse.map f).length))=_)
   refine(show as.length-(as.reverse.map f).length=0 from by simp).symm▸ ?_
   rfl
theorem pC(h:σ[k]? =some (.lst l)):iw c σ (.lst k) "append"=some (.builtin "list.append",[.lst k]):=by
 show(aI σ k).bind _=_;rw[aN h];rfl
theorem t6{p:V}(hk:σ[k]? =some (.lst (acc++[p]))):gk σ (.lst k) (-1)=some p:=by
 show(aI σ k).bind _=_;rw[aN hk];show gE _ _=_;unfold gE
 refine dQ (by decide) ?_
 have:seqIndex? (-1) (acc++[p]).length=some acc.length:=by
  simp[seqIndex?]
  try simp+arith
 refine(this).symm▸ ?_;simp
theorem jI{cf:b9}(h:σ[k]? =some (.lst l))(hl:l.length≤2^20):aJ c cf σ (.type "tuple") [.v (.lst k)] []=some (.ok (.v (.tup l)) σ):=by
 have:aJ c cf σ (.type "tuple") [.v (.lst k)] []=((rC σ (.lst k)).map fun l=>aG.ok (IV.v (.tup l)) σ).or (nM σ [.v (.lst k)] []):=rfl;rw[this];show(((aI σ k).bind _).map _).or _=_;rw[aN h]
 show((if _ then _ else none:Option _).map _).or _=_
 rw[if_pos hl];rfl
theorem uf{cf:b9}(h:cD σ k y=some KC):aJ c cf σ (.builtin "list.append") [.v (.lst k),.v y] []=some (.ok (.v .none) KC):=by
 have:aJ c cf σ (.builtin "list.append") [.v (.lst k),.v y] []=(cD σ k y).map fun KB=> .ok (.v .none) KB:=rfl;rw[this,h];rfl
theorem CA{v:V}{lo hi st:Option Expr}{sp:Pos}{l u t:V}{l' u' t':Option Int}(he:e= .Subscript (ch e 0) (.Slice lo hi st sp) (ps e))(h1:(lv c n).ev en σ (ch e 0)=some (.ok v σ))(h2:gi (lv c n).ev en σ lo=some (.ok l σ))(h3:gi (lv c n).ev en σ hi=some (.ok u σ))(h4:gi (lv c n).ev en σ st=some (.ok t σ))
 (p1:gG l=some l') (p2:gG u=some u') (p3:gG t=some t') (h5:cA σ v l' u' t'=some (y,KC)):(lv c (n+1)).ev en σ e=some (.ok y KC):=
 (congrArg ((lv c (n+1)).ev en σ) he).trans (xE h1 h2 h3 h4 p1 p2 p3 h5)
theorem Dw{s:Stmt}(hs:s= .Expr (sx s 0) (kB s))(hc:cr (sx s 0)=true)(h:(lv c n).ev en σ (sx s 0)=some (.ok y KC))(hy:aX y=true):aT c (lv c n) en σ s=some (.ok .next en KC):=
 (congrArg (aT c (lv c n) en σ) hs).trans (yn hc h hy)
theorem dA{s:Stmt}(hs:s= .Return (some (sx s 0)) (kB s))(h:(lv c n).ev en σ (sx s 0)=some (.ok y KC)):aT c (lv c n) en σ s=some (.ok (.ret y) en KC):=
 (congrArg (aT c (lv c n) en σ) hs).trans (wa h)
theorem DA{s:Stmt}{v:Bool}{o:aL}(hs:s= .If (sx s 0) (aj s) (cW s) (kB s))(h1:(lv c n).tr en σ (sx s 0)=some (.ok v KC))(h2:(lv c n).exs en KC (bif v then aj s else cW s)=some o):aT c (lv c n) en σ s=some o:=
 (congrArg (aT c (lv c n) en σ) hs).trans (DN h1 (by cases v<;>exact h2))
theorem cm{s:Stmt}{x:Str}(hs:s= .Assign [.Name x xp] (sx s 0) (kB s))(hc:cr (sx s 0)=true)(hx:bH en x=true)(h:(lv c n).ev en σ (sx s 0)=some (.ok y KC)):aT c (lv c n) en σ s=some (.ok .next (en.set x y) KC):=
 (congrArg (aT c (lv c n) en σ) hs).trans (Bx hc hx h)
theorem AU{s:Stmt}{x:IV}{o:aL}(hs:s= .For (sx s 0) (sx s 1) (aj s) (cW s) (kB s))(hn:dt (sx s 1)=true)(hx:(lv c n).iv en σ (sx s 1)=some (.ok x KC))(ht:aC KC x=some t)(h:gw KC.length (eP c (lv c n).ev 8) (lv c n).exs (sx s 0) (aj s) (cW s) az en KC t=some o):
 aT c (lv c n) en σ s=some o:=
 (congrArg (aT c (lv c n) en σ) hs).trans (Cb hn hx ht h)
theorem cw{s:Stmt}{v:Bool}(hs:s= .Assert (sx s 0) none (kB s))(h:(lv c n).tr en σ (sx s 0)=some (.ok v KC)):aT c (lv c n) en σ s=some (if v then .ok .next en KC else .exc "AssertionError" en KC):=
 (congrArg (aT c (lv c n) en σ) hs).trans (sV h)
end
end
section
variable {X:Xp}
theorem be{a:Int}(h:a.natAbs≤k)(hk:k<2^62):bG a=true:=by
 unfold bG;exact decide_eq_true (H4 ‹_› ‹_›)
theorem gK{a b:Int}(ha:bG a=true)(hb:bG b=true):mI σ .Mult (.int a) (.int b)=some (.int (a*b),σ):=by
 show(if(bG a&&bG b)=true then some (a*b)else none).map _=_
 rw[ha,hb];rfl
noncomputable def bU(l:List Int):Prop:=l.length≤4∧ ∀s∈l,s.natAbs≤1000
noncomputable abbrev jL(X:Xp):=St X 718 2
noncomputable abbrev E4(X:Xp):=sx (si (aj (jL X)) 0) 0
theorem qP(own:List (Str×V)):aR (cc X) (ah X 718 own) "strides"=own.lookup ("strides":Str):=rfl
theorem Bq(own:List (Str×V)):aR (cc X) (ah X 718 own) "shape"=own.lookup ("shape":Str):=rfl
theorem Da(own:List (Str×V)):aR (cc X) (ah X 718 own) "s"=own.lookup ("s":Str):=rfl
theorem yJ{own:List (Str×V)}{p a:Int}(n:Nat)(hst:own.lookup ("strides":Str)=some (.lst σ.length))(hp:bG p=true)(ha:bG a=true)(hz:acc.length≤1000):
 (lv (cc X) (n+12)).exs (ah X 718 (("s",.int a)::own)) (σ++[aa.lst (acc++[.int p])]) (aj (jL X))=some (.ok .next (ah X 718 (("s",.int a)::own)) (σ++[aa.lst (acc++[.int p]++[.int (p*a)])])):=by
 have hσ:(σ++[aa.lst (acc++[V.int p])])[σ.length]? =some (.lst (acc++[V.int p])):=by exact G6
 have hst':G3 ("strides":Str) (("s",V.int a)::own)=some (.lst σ.length):=hst
 rw[show aj (jL X)=[si (aj (jL X)) 0]from rfl]
 refine aq (Dw (y:= .none) rfl ac (ku ac (gr (name:="append") (args:=[ch (E4 X) 1]) (x:= .lst σ.length) (fv:= .builtin "list.append") (first:=[.lst σ.length]) (vs:=[.v (.int (p*a))])
  rfl ac (bT (x:="strides") rfl (by rw[qP];exact hst')) (pC hσ) ac (kO ac (bA aA
   (cG (op:= .Mult) (x:= .int p) (y:= .int a) rfl (c_ (x:= .lst σ.length) (i:= -1) rfl ac (bT (x:="strides") rfl (by rw[qP];exact hst')) rfl (t6 hσ))
    (bT (x:="s") rfl (by rw[Da];rfl)) (gK hp ha)))) (uf (jY (by simp;exact EZ ‹_› (by exact ac)))))) rfl)
theorem zc(n:Nat)(r:List Int)(hs:bU r)(ss:V)(σ:Sg):
 ∃(own':List (Str×V)) (acc:List Int),acc.length=r.length+1∧own'.lookup ("strides":Str)=some (.lst σ.length)∧own'.lookup ("shape":Str)=some ss∧
  gw (σ++[aa.lst [V.int 1]]).length (eP (cc X) (lv (cc X) (n+12)).ev 8) (lv (cc X) (n+12)).exs (sx (jL X) 0) (aj (jL X)) [] az (ah X 718 [("strides",.lst σ.length),("shape",ss)]) (σ++[aa.lst [.int 1]]) (.revt (r.map V.int) r.length)=
   some (.ok .next (ah X 718 own') (σ++[aa.lst (acc.map V.int)])):=by
 have:=DP (en:=ah X 718 [("strides",.lst σ.length),("shape",ss)]) (σ:=σ++[aa.lst [.int 1]]) (g:=eP (cc X) (lv (cc X) (n+12)).ev 8) (fs:=(lv (cc X) (n+12)).exs) (target:=sx (jL X) 0) (body:=aj (jL X)) (as:=r.reverse) (f:=V.int)
  (I:=fun i en KB=> ∃(own:List (Str×V)) (acc:List Int) (p:Int),en=ah X 718 own∧own.lookup ("strides":Str)=some (.lst σ.length)∧own.lookup ("shape":Str)=some ss∧KB=σ++[aa.lst (acc.map V.int++[V.int p])]∧acc.length=i∧p.natAbs≤1000^i)
  (L:=(σ++[aa.lst [V.int 1]]).length) (S:=fun u_=>True) (by rintro _ _ _ ⟨_,_,_,_,_,_,rfl,_⟩;simp) (fun u_ u_ u_ u_=>trivial) (qQ r V.int (by have:=hs.1;exact bg ‹_› (by exact ac))) (by rw[HO];have:=hs.1;show r.length<4096;exact fH ‹_› (by exact ac)) (fun u_ u_=>rfl) ⟨_,[],1,rfl,rfl,rfl,rfl,rfl,by exact HW _⟩ ?_
 ·obtain⟨en',KB,⟨own,acc,p,rfl,h1,h2,rfl,h3,_⟩,h4⟩:=this
  refine⟨own,acc++[p],by simp[h3],h1,h2,?_⟩
  refine(h4).symm▸ ?_;simp
 ·rintro i hi _ _ ⟨own,acc,p,rfl,h1,h2,rfl,h3,h4⟩
  have hi':i<4:=by have:=hs.1;rw[HO]at hi;exact H8 (by assumption) (by assumption)
  have hb:=hs.2 _ (List.mem_reverse.mp (Hb hi))
  have hp:bG p=true:=be h4 (H4 (Nat.pow_le_pow_right (by exact HX _) (H' hi')) (by decide))
  have ha:bG r.reverse[i]=true:=be hb (by decide)
  have t:=yJ (X:=X) (own:=own) (σ:=σ) (acc:=acc.map V.int) (p:=p) (a:=r.reverse[i]) n h1 hp ha (by rw[GM];exact l9 ‹_› ‹_› (by exact ac))
  refine⟨_,_,_,_,show eP (cc X) _ 8 _ _ _ _=some (ah X 718 (("s",.int r.reverse[i])::own),_)from rfl,t,_,acc++[p],p*r.reverse[i],rfl,h1,h2,by simp,by simp[h3],?_⟩
  rw[Int.natAbs_mul,Nat.pow_succ];exact Nat.mul_le_mul h4 hb
noncomputable abbrev wD(X:Xp):=sx (St X 718 3) 0
theorem sfs(a:Int)(r:List Int)(hs:bU (a::r))(σ:Sg)(n:Nat): ∃(ts:List Int) (ext:Sg),ts.length=r.length+1∧(lv (cc X) (n+32)).cf σ 718 [vI (a::r)] []=some (.ok (vI ts) (σ++ext)):=by
 have hl:=hs.1;rw[G8]at hl
 have hr:bU r:=⟨by exact H' (by assumption),fun s h=>hs.2 s (HJ _ h)⟩
 refine bS (zc (X:=X) (n+18) r hr (vI (a::r)) σ) fun own acc k1 k2 k3 k4=> ?_
 refine⟨dT (a::r) acc.reverse,[aa.lst (acc.map V.int),aa.lst (acc.map V.int).reverse],by rw[ir,HO,G8];exact D_ ‹_›,?_⟩
 refine bp (a:=718) (so:= .ok (.ret (vI (dT (a::r) acc.reverse))) (ah X 718 own) (σ++[aa.lst (acc.map V.int),aa.lst (acc.map V.int).reverse])) ac (binds:=[("shape",vI (a::r))]) ⋯ ac ?_ rfl
 rw[show aD X 718=[St X 718 0,St X 718 1,jL X,St X 718 3]from rfl]
 have t0:bq σ (vI (a::r))=some true:=by
  refine(?_:(if _≤2^20 then some _ else _)=_)
  rw[if_pos (by simp;exact Fv ‹_› (by exact ac))];rfl
 have hσ:(σ++[aa.lst (acc.map V.int)])[σ.length]? =some (.lst (acc.map V.int)):=by exact G6
 refine ab (DA (v:=false) (o:= .ok .next (ah X 718 [("shape",vI (a::r))]) σ) rfl (Bp (b:=true) rfl (dz ac (bT (x:="shape") (y:=vI (a::r)) rfl rfl) t0)) rfl) ?_;refine ab (KB:=σ++[aa.lst [.int 1]]) (en':=ah X 718 [("strides",.lst σ.length),("shape",vI (a::r))]) rfl ?_
 refine ab (AU (x:= .it (.revt (r.map V.int) r.length)) (KC:=σ++[aa.lst [.int 1]]) rfl ac ?_ rfl ((congrArg (fun z=>gw _ _ _ _ _ z az _ _ _) (show cW (jL X)=[]from rfl)).trans k4)) ?_
 ·refine cM (x:="reversed") (args:=[ch (sx (jL X) 1) 1]) (fv:= .type "reversed") (vs:=[.v (.tup (r.map V.int))]) (KC:=σ++[aa.lst [.int 1]]) rfl rfl rfl ac
   (kO ac (bA aA (CA (v:=vI (a::r)) (lo:=some (ch (ch (ch (sx (jL X) 1) 1) 1) 0)) (hi:=none) (st:=none) (sp:=ps (ch (ch (sx (jL X) 1) 1) 1)) (l:= .int 1) (u:= .none) (t:= .none) (l':=some 1) (u':=none) (t':=none) rfl rfl rfl rfl rfl rfl rfl rfl (qS (by simp;exact Fv ‹_› (by exact ac)))))) ?_
  have:aJ (cc X) (lv (cc X) (n+29)).cf (σ++[aa.lst [V.int 1]]) (.type "reversed") [.v (.tup (r.map V.int))] []=if(r.map V.int).length≤2^20 then some (.ok (.it (.revt (r.map V.int) (r.map V.int).length)) (σ++[aa.lst [V.int 1]]))else none:=rfl
  refine(?_:aJ _ _ _ (.type "reversed") [.v (.tup (r.map V.int))] []=_)
  rw[this,if_pos (by simp;exact Fv ‹_› (by exact ac)),GM]
 refine aq (dA rfl (ku ac (cM (x:="canonicalize_strides") (args:=[ch (wD X) 1,ch (wD X) 2]) (fv:= .ref 711) (vs:=[.v (vI (a::r)),.v (vI acc.reverse)]) (KC:=σ++[aa.lst (acc.map V.int),aa.lst (acc.map V.int).reverse]) rfl rfl rfl ac
  (z9 (KC:=σ++[aa.lst (acc.map V.int)]) ac (bA aA (bT (x:="shape") rfl (by rw[Bq];exact k3)))
   (cM (x:="tuple") (args:=[ch (ch (wD X) 2) 1]) (fv:= .type "tuple") (vs:=[.v (.lst (σ.length+1))]) (KC:=σ++[aa.lst (acc.map V.int),aa.lst (acc.map V.int).reverse]) rfl rfl rfl ac
    (kO ac (bA aA (CA (v:= .lst σ.length) (lo:=none) (hi:=none) (st:=some (ch (ch (ch (ch (wD X) 2) 1) 1) 2)) (sp:=ps (ch (ch (ch (wD X) 2) 1) 1)) (l:= .none) (u:= .none) (t:= .int (-1)) (l':=none) (u':=none) (t':=some (-1)) (y:= .lst (σ.length+1)) rfl (bT (x:="strides") rfl (by rw[qP];exact k2)) rfl rfl rfl rfl rfl rfl ?_))) ?_)) (eL (X:=X) (xs:=[vI (a::r),vI acc.reverse]) ac (Aq (a::r) acc.reverse (by rw[G8];exact fH ‹_› (by exact ac)) _ (n+19))))))
 ·as_aux_lemma=>
   have:=q_ (σ:=σ++[aa.lst (acc.map V.int)]) hσ (by rw[GM];exact dH ‹_› ‹_› (by exact ac))
   rw[this];simp
 ·have e:(σ++[aa.lst (acc.map V.int),aa.lst (acc.map V.int).reverse])[σ.length+1]? =some (.lst (acc.map V.int).reverse):=by simp
  refine(jI e (by simp;exact dH ‹_› ‹_› (by exact ac))).trans ?_
  rw[←List.map_reverse]
end
section
theorem gc{s:Stmt}(hs:s= .Assign [sx s 1] (sx s 0) (kB s))(hc:cr (sx s 0)=true)(hsw:jl en (sx s 1) (sx s 0)=some none)(h:(lv c n).ev en σ (sx s 0)=some (.ok y KC))(ha:eP c (lv c n).ev 8 (sx s 1) en KC y=some (en',KB)):aT c (lv c n) en σ s=some (.ok .next en' KB):=by
 refine(congrArg (aT c (lv c n) en σ) hs).trans ?_;generalize sx s 0=e at hc hsw h⊢
 have:hN c (lv c n).ev en σ (sx s 1) e=some (.ok .next en' KB):=by
  unfold hN;rw[if_pos hc,hsw];show bQ en _ _=_;rw[h];show(eP _ _ _ _ _ _ _).map _=_;rw[ha];rfl
 cases e<;>first
  |exact this
  |exact bM hc
theorem i0(hc:(decide (findIn c.K (.ref C) "__setattr__"=some (some (.builtin "object.__setattr__")))&&plainOver c.K C&&decide (takerIn c.K C name=some none)&&hasDictIn c.K C)=true)(hl:fs.length≤900):
 di c (σ++[aa.dct fs]) (.inst C σ.length) name y=some (σ++[aa.dct (tJ name y fs)]):=by
 simp only[Gh,decide_eq_true_eq]at hc;refine dw fun kk=> ?_;obtain⟨⟨⟨h1,h2⟩,h3⟩,h4⟩:=hc<;>(refine kk ?_;clear kk)
 have e:fL (σ++[aa.dct fs]) σ.length=some fs:=by simp[fL,Aa]
 show(fL _ _).bind _=_;rw[e];refine dQ ⟨h1,h2,h3,h4,hl⟩ ?_;simp[List.set_append]
theorem fM(he:e= .Attribute (ch e 0) name (ps e))(ho:f en σ (ch e 0)=some (.ok x KC))(hs:di c KC x name y=some KG):eP c f (k+1) e en σ y=some (en,KG):=by
 rw[he];show(f en σ (ch e 0)).bind _=_;rw[ho];show(di c KC x name y).map _=_;rw[hs];rfl
theorem fB{t:Expr}{ts:List Expr}{r:Option (En×Sg)}(h:g t en σ y=some (en',KB))(k:fz g ts en' KB ys=r):fz g (t::ts) en σ (y::ys)=r:=by
 show(g t en σ y).bind _=_;rw[h];exact k
theorem zN{m:Nat}{p:Pos}{r:Option (En×Sg)}(he:e= .Tuple es m p)(hs:al es=true)(h:fz (eP c f k) es en σ l=r):eP c f (k+1) e en σ (.tup l)=r:=by
 rw[he]
 show(if al es=true then _ else none)=_
 first|with_reducible refine cX hs ?_|with_reducible refine dQ hs ?_;exact h
noncomputable abbrev D9:List String:=["shape","strides","offset","mask","contiguous"]
noncomputable def ag:Addr:=match NM.lookup ("View":Str)with
 |some (.ref a)=>a
 |_=>0
theorem ze(X:Xp):(D9.all fun x=>(decide (findIn (cc X).K (.ref ag) "__setattr__"=some (some (.builtin "object.__setattr__")))&&plainOver (cc X).K ag&&decide (takerIn (cc X).K ag (Kn x)=some none)&&hasDictIn (cc X).K ag))=true:=by kernel_rfl
variable {X:Xp}
theorem iS{name:String}(hm:D9.contains name=true)(hl:fs.length≤900):di (cc X) (σ++[aa.dct fs]) (.inst ag σ.length) (Kn name) y=some (σ++[aa.dct (tJ (Kn name) y fs)]):=
 i0 (GX.mp (ze X) name (HP.mp hm)) hl
noncomputable abbrev bc(S T O M B:V):List (Str×V):=[("shape",S),("strides",T),("offset",O),("mask",M),("contiguous",B)]
noncomputable abbrev xk(x S T O M B:V):List (Str×V):=[("self",x),("shape",S),("strides",T),("offset",O),("mask",M),("contiguous",B)]
noncomputable abbrev v9(x S T O M B:V):List (Str×V):=[("contiguous",B),("mask",M),("offset",O),("strides",T),("shape",S),("self",x)]
noncomputable abbrev py(X:Xp):=sx (St X 754 0) 1
theorem iY(x S T' O M B:V)(σ:Sg)(n:Nat)(i:Nat)(hi:i<5):(lv (cc X) (n+1)).ev (ah X 754 (v9 x S T' O M B)) σ (ch (ch (py X) i) 0)=some (.ok x σ):=by
 revert i;refine qO ?_ ?_ ?_ ?_ ?_
 all_goals exact rfl
theorem zi{ks:List (Str×V)}(S T' O M B:V)(σ:Sg)(n:Nat)(hb:eU ((dZ X 754).params.args.map (·.arg)) (.inst ag σ.length::xs) ks ((o6 X 754).map xM)=some (xk (.inst ag σ.length) S T' O M B)):
 (lv (cc X) (n+12)).cf (σ++[aa.dct []]) 754 (.inst ag σ.length::xs) ks=some (.ok .none (σ++[aa.dct (bc S T' O M B)])):=by
 refine bp (a:=754) (so:= .ok .next (ah X 754 (v9 (.inst ag σ.length) S T' O M B)) (σ++[aa.dct (bc S T' O M B)])) ac hb ac ?_ rfl
 rw[show aD X 754=[St X 754 0]from rfl]
 refine aq (gc rfl ac rfl rfl ?_);refine zN (es:=[ch (py X) 0,ch (py X) 1,ch (py X) 2,ch (py X) 3,ch (py X) 4]) (m:=tk (py X)) (p:=ps (py X)) rfl ac ?_
 exact fB (fM (name:="shape") rfl (iY _ _ _ _ _ _ _ (n+9) 0 (by exact HX _)) (iS rfl (H7 rfl))) (fB (fM (name:="strides") rfl (iY _ _ _ _ _ _ _ (n+9) 1 (by decide)) (iS rfl (H7 rfl)))
  (fB (fM (name:="offset") rfl (iY _ _ _ _ _ _ _ (n+9) 2 (by exact H3 ..)) (iS rfl (H7 rfl))) (fB (fM (name:="mask") rfl (iY _ _ _ _ _ _ _ (n+9) 3 (by exact H0 _)) (iS rfl (H7 rfl)))
   (fB (fM (name:="contiguous") rfl (iY _ _ _ _ _ _ _ (n+9) 4 (by exact HY _)) (iS rfl (H7 rfl))) rfl))))
theorem wt(l:List V):nZ (l.map IV.v)=some l:=by
 induction l with
 |nil=>rfl
 |cons x l ih=>exact congrArg (Option.map (x:: ·)) ih
theorem sk{cf:b9}{fI:Addr}{ks:List (Str×V)}(h0:l7 c.K C=none)(h1:makesIn c.K C=true)(h2:findIn c.K (.ref C) "__init__"=some (some (.ref fI)))(h3:typeIn c.K (.ref fI)=some (.type "function"))(h:cf (σ++[aa.dct []]) fI (.inst C σ.length::xs) ks=some (.ok .none KB)):
 aJ c cf σ (.ref C) (xs.map .v) ks=some (.ok (.v (.inst C σ.length)) KB):=by
 show(nZ (xs.map IV.v)).bind _=_;rw[wt]
 have w:m8 c cf σ C xs ks=some (.ok (.inst C σ.length) KB):=by
  refine(if_pos h1:(if _ then _ else none)=_).trans ?_
  rw[h2]
  refine(if_pos h3:(if _ then _ else none)=_).trans ?_
  rw[h];rfl
 show gu (match l7 c.K C with|some _=>cf σ C xs ks|none=>m8 c cf σ C xs ks)=_
 rw[h0];show gu (m8 c cf σ C xs ks)=_;rw[w];rfl
theorem pz{ks:List (Str×V)}(S T' O M B:V)(σ:Sg)(n:Nat)(hb:eU ((dZ X 754).params.args.map (·.arg)) (.inst ag σ.length::xs) ks ((o6 X 754).map xM)=some (xk (.inst ag σ.length) S T' O M B)):
 aJ (cc X) (lv (cc X) (n+12)).cf σ (.ref ag) (xs.map .v) ks=some (.ok (.v (.inst ag σ.length)) (σ++[aa.dct (bc S T' O M B)])):=
 sk (fI:=754) rfl ac rfl rfl (zi S T' O M B σ n hb)
end
section
section
theorem AP{x:Str}{vs:List IV}{ks:List (Str×V)}{o:aG IV}(he:e= .Call (.Name x (ps (ch e 0))) args (yP e) (ps e))(hg:(yP e).isEmpty=false)(hx:aR c en x=some (.val fv))(hc:(al args&&iq (yP e)&&bJ c.K fv)=true)
 (h1:dW (lv c (n+1)).iv en σ args=some (.ok vs KC)) (hk:uo (lv c (n+1)).ev en KC (yP e)=some (.ok ks KG)) (h2:aJ c (lv c (n+1)).cf KG fv vs ks=some o):(lv c (n+2)).iv en σ e=some o:=by
 refine(congrArg ((lv c (n+2)).iv en σ) he).trans ?_;refine gV (jB ?_ hx (fC (xs:=vs) (ks:=ks) hc h1 hk h2))
 refine(?_:(if(yP e).isEmpty=true then _ else none)=none)
 rw[hg];rfl
theorem fx(h:l.length≤2^20):bq σ (.tup l)=some (!l.isEmpty):=by
 show(if _≤2^20 then some _ else _)=_
 rw[if_pos h]
theorem kQ(a:Int)(ss:List Int):eh σ .In (.int a) (vI ss)=some (ss.any (· ==a)):=by
 have h1: ∀p:V→Bool,(∀i,p (V.int i)=true)→(ss.map V.int).all p=true:=fun p hp=>by
  rw[List.all_map];exact GX.mpr fun u_ u_=>hp _
 show(if _=true then some _ else none)=_
 rw[if_pos (h1 _ fun u_=>rfl),List.any_map];rfl
theorem nS{cf:b9}(h:l.length≤2^20):aJ c cf σ (.builtin "len") [.v (.tup l)] []=some (.ok (.v (.int l.length)) σ):=by
 have:aJ c cf σ (.builtin "len") [.v (.tup l)] []=(if l.length≤2^20 then some (l.length:Int)else none).map fun i=> .ok (.v (.int i)) σ:=rfl
 rw[this,if_pos h];rfl
theorem kR(h:k≤1000):mI σ .Mult (.tup [x]) (.int k)=some (.tup (GR k x),σ):=by
 refine(uQ rfl).trans ?_;unfold tP
 refine dQ (by omega) ?_
 simp only[Gy,HA,Nat.one_mul]
 refine dQ (by omega) ?_
 have:(GR k [x]).flatten=GR k x:=by
  clear h
  induction k with
  |zero=>rfl
  |succ k ih=>rw[HC,HK,ih];rfl
 rw[this]
theorem yM{cf:b9}(h:σ[k]? =some (.lst (bs.map V.bool)))(hl:bs.length<4096):aJ c cf σ (.builtin "any") [.v (.lst k)] []=some (.ok (.v (.bool (bs.any id))) σ):=by
 have key: ∀(m w i:Nat),i+m=bs.length→vz σ (m+w+1) (.lst k i)=some ((bs.drop i).any id):=by
  intro m
  induction m with
  |zero=>
   intro w i hi
   obtain rfl:i=bs.length:=by assumption
   refine(show 0+w+1=w+1 from by simp+arith).symm▸ ?_
   have e:ay σ (.lst k bs.length)=some none:=DF (aN h) (by simp)
   show(ay _ _).bind _=_;rw[e,List.drop_length,List.any_nil];rfl
  |succ m ih=>
   intro w i hi
   have hlt:i<bs.length:=by exact EQ ‹_›
   have e:ay σ (.lst k i)=some (some (V.bool bs[i],.lst k (i+1))):=nxl (aN h) (by simp[hlt])
   have r:=ih w (i+1) (Eb ‹_›)
   refine(show m+1+w+1=(m+w+1)+1 from by simp+arith).symm▸ ?_
   generalize m+w+1=z at r⊢;rw[List.drop_eq_getElem_cons hlt,Hs]
   cases hb:bs[i]with
   |true=>rw[hb]at e;show(ay _ _).bind _=_;rw[e];rfl
   |false=>rw[hb]at e;show(ay _ _).bind _=_;rw[e];exact r
 have:=key bs.length (4095-bs.length) 0 (by simp+arith)
 rw[show bs.length+(4095-bs.length)+1=4096 from by exact EP ‹_›]at this
 refine(?_:BZ σ [.v (.lst k)]=_);show(aC _ _).bind _=_;rw[fJ h];show(vz _ _ _).map _=_;rw[this];rfl
theorem ve(n:Nat): ∀(a b:List Int),a.length<n→ ∃t,dR σ n (a.map V.int) (b.map V.int)=some t:=by
 induction n with
 |zero=>exact fun u_ u_ h=>absurd h (Ie _)
 |succ n ih=>
  intro a b h
  cases a with
  |nil=>cases b<;>exact⟨_,rfl⟩
  |cons x a=>
  cases b with
  |nil=>exact⟨_,rfl⟩
  |cons y b=>
  refine oE (ih a b (Ih h)) fun t ht=> ?_
  cases n with
  |zero=>exact absurd h (HZ.mpr (H3 _ _))
  |succ n=>
   refine⟨(x==y)&&t,?_⟩;show((some (x==y)).bind fun p=>(dR σ (n+1) (a.map V.int) (b.map V.int)).map fun q=>p&&q)=_;rw[ht];rfl
theorem yu(a b:List Int)(h:a.length<190): ∃t,eh σ .Eq (vI a) (vI b)=some t:=ve 199 a b (D4 ‹_› (by exact ac))
end
end
section
section
variable {s:Stmt}
theorem uh(he:e= .IfExp (ch e 0) (ch e 1) (ch e 2) (ps e))(h0:(lv c n).tr en σ (ch e 0)=some (.ok true KC))(h1:(lv c n).ev en KC (ch e 1)=some o):(lv c (n+1)).ev en σ e=some o:=CF he h0 h1
theorem tN(he:e= .IfExp (ch e 0) (ch e 1) (ch e 2) (ps e))(h0:(lv c n).tr en σ (ch e 0)=some (.ok false KC))(h1:(lv c n).ev en KC (ch e 2)=some o):(lv c (n+1)).ev en σ e=some o:=CF he h0 h1
theorem eM{o:aL}(hs:s= .If (sx s 0) (aj s) (cW s) (kB s))(h1:(lv c n).tr en σ (sx s 0)=some (.ok true KC))(h2:(lv c n).exs en KC (aj s)=some o):aT c (lv c n) en σ s=some o:=DA hs h1 h2
theorem dy{o:aL}(hs:s= .If (sx s 0) (aj s) (cW s) (kB s))(h1:(lv c n).tr en σ (sx s 0)=some (.ok false KC))(h2:(lv c n).exs en KC (cW s)=some o):aT c (lv c n) en σ s=some o:=DA hs h1 h2
end
noncomputable def dP(X:Xp)(a:Addr)(x:Str):Bool:= !(x==("__debug__":Str))&&((dZ X a).scope.names.lookup x).any fun k=> @NameKind.casesOn (fun u_=>Bool) k true true false false false
theorem EI{X:Xp}{x:Str}{own:List (Str×V)}{v:V}(hk:dP X a x=true)(h:own.lookup x=some v):aR (cc X) (ah X a own) x=some v:=by
 unfold dP at hk;refine oA (Gg.mp hk) fun h1 h2=> ?_;unfold aR
 refine zX (by exact(fun {a}↦bi_not.mp) h1) ?_
 refine(?_:((dZ X a).scope.names.lookup x).bind _=_)
 cases hl:(dZ X a).scope.names.lookup x with
 |none=>rw[hl]at h2;exact bM h2
 |some k=>rw[hl]at h2;cases k<;>first|exact h|exact bM h2
theorem aV{X:Xp}{x:Str}{own:List (Str×V)}{v:V}(he:e= .Name x (ps e))(hk:dP X a x=true)(h:own.lookup x=some v):(lv (cc X) (n+1)).ev (ah X a own) σ e=some (.ok v σ):=bT he (EI hk h)
variable {X:Xp}{own:List (Str×V)}
noncomputable abbrev Fg(X:Xp):=sx (St X 772 0) 0
theorem Ek(hs:own.lookup ("shape":Str)=some (vI ss))(hl:ss.length≤900)(n:Nat):(lv (cc X) (n+12)).tr (ah X 772 own) σ (Fg X)=some (.ok (!(ss.all fun s=>decide (0≤s))) σ):=
 Bp rfl (dz ac (iz (S:=fun u_=>True) (t:= .seq (ss.map V.int) 0) (as:=ss) (f:=V.int) (b:=fun a=>[("s",.int a)]) (F:=fun a=> .bool (decide (0≤a))) ⋯ ⋯ rfl
  (bA aA (aV rfl ac hs)) rfl trivial (ai _ _) (fH ‹_› (by exact ac)) (fun a u_ own=>⟨by kernel_rfl,rfl⟩) (fun u_ u_=>rfl)) rfl)
theorem Dq(hs:own.lookup ("shape":Str)=some (vI ss))(hl:ss.length≤900)(h: ∀s∈ss,0≤s)(n:Nat):aT (cc X) (lv (cc X) (n+12)) (ah X 772 own) σ (St X 772 0)=some (.ok .next (ah X 772 own) σ):=by
 refine DA rfl (Ek hs hl n) ?_;have:(ss.all fun s=>decide (0≤s))=true:=GX.mpr fun s q=>decide_eq_true (h s q);rw[this];exact rfl
theorem Be(hs:own.lookup ("shape":Str)=some (vI ss))(hl:ss.length≤900)(h: ∃s∈ss,s<0)(n:Nat):aT (cc X) (lv (cc X) (n+12)) (ah X 772 own) σ (St X 772 0)=some (.exc "ValueError" (ah X 772 own) σ):=by
 refine DA rfl (Ek hs hl n) ?_
 have:(ss.all fun s=>decide (0≤s))=false:=by
  refine aK h fun s h1 h2=> ?_
  exact List.all_eq_false.mpr ⟨s,h1,by simpa using h2⟩
 refine(this).symm▸ ?_;exact rfl
noncomputable abbrev w_(X:Xp):=sx (St X 772 1) 0
theorem AR{ts:List Int}(hs:own.lookup ("shape":Str)=some (vI ss))(ht:own.lookup ("strides":Str)=some (vI ts))(hl:ss.length≤900)(hl':ts.length≤900)(h0:ts≠[])(n:Nat):aT (cc X) (lv (cc X) (n+16)) (ah X 772 own) σ (St X 772 1)=some (.ok .next (ah X 772 (("strides",vI (dT ss ts))::own)) σ):=by
 refine cm rfl ac ac (uh rfl (dz ac (aV rfl ac ht) ?_) ?_)
 ·rw[fx (by rw[GM];exact bg ‹_› (by exact ac))]
  cases ts with
  |nil=>exact absurd rfl h0
  |cons=>rfl
 ·exact ku ac (cM (e:=ch (w_ X) 1) (args:=[ch (ch (w_ X) 1) 1,ch (ch (w_ X) 1) 2]) (fv:= .ref 711) (vs:=[.v (vI ss),.v (vI ts)]) rfl rfl rfl ac
   (z9 ac (bA aA (aV rfl ac hs)) (bA aA (aV rfl ac ht))) (eL (xs:=[vI ss,vI ts]) ac (Aq ss ts (fH ‹_› (by exact ac)) σ (n+4))))
theorem xR(hs:own.lookup ("shape":Str)=some (vI ss))(ht:own.lookup ("strides":Str)=some .none)(hl:bU ss)(h0:ss≠[])(n:Nat): ∃(ts:List Int) (ext:Sg),ts.length=ss.length∧aT (cc X) (lv (cc X) (n+38)) (ah X 772 own) σ (St X 772 1)=some (.ok .next (ah X 772 (("strides",vI ts)::own)) (σ++ext)):=by
 refine qK (HQ h0) fun a r zz2=> ?_;subst zz2;refine bf (sfs (X:=X) a r hl σ (n+4)) fun ts ext h1 h2=> ?_;refine⟨ts,ext,h1,cm rfl ac ac (tN rfl (dz ac (aV rfl ac ht) rfl) ?_)⟩
 exact ku ac (cM (e:=ch (w_ X) 2) (args:=[ch (ch (w_ X) 2) 1]) (fv:= .ref 718) (vs:=[.v (vI (a::r))]) rfl rfl rfl ac
  (kO ac (bA aA (aV rfl ac hs))) (eL (xs:=[vI (a::r)]) ac h2))
noncomputable def aH(r:Option aL)(σ:Sg)(ss:List Int):Prop:= ∃en' KC T O M B,σ<+:KC∧r=some (.ok (.ret (.inst ag KC.length)) en' (KC++[aa.dct (bc (vI ss) T O M B)]))
theorem aH.next{l:List Stmt}(h1:aT c (lv c n) en σ st=some (.ok .next en' KB))(p:σ<+:KB)(h:aH ((lv c (n+1)).exs en' KB l) KB ss):aH ((lv c (n+1)).exs en σ (st::l)) σ ss:=by
 refine fA h fun en' KC T O M B h2 h3=> ?_;exact⟨en',KC,T,O,M,B,p.trans h2,ab h1 h3⟩
noncomputable abbrev BM(X:Xp):=sx (si (aj (St X 772 2)) 0) 0
theorem zP{l:List Stmt}(hs:own.lookup ("shape":Str)=some (vI ss))(hl:ss.length≤900)(h:0∈ss)(n:Nat):aH ((lv (cc X) (n+21)).exs (ah X 772 own) σ (St X 772 2::l)) σ ss:=by
 refine⟨ah X 772 own,σ,.tup (GR ss.length (.int 0)),.int 0,.none,.bool true,GU _,?_⟩
 have e1:aT (cc X) (lv (cc X) (n+20)) (ah X 772 own) σ (St X 772 2)=some (.ok (.ret (.inst ag σ.length)) (ah X 772 own) (σ++[aa.dct (bc (vI ss) (.tup (GR ss.length (.int 0))) (.int 0) .none (.bool true))])):=by
  refine eM rfl (bx rfl aA rfl (aV rfl ac hs) ?_) ?_
  ·rw[kQ];have:ss.any (· ==0)=true:=List.any_eq_true.mpr ⟨0,h,rfl⟩
   exact congrArg _ (by assumption)
  ·rw[show aj (St X 772 2)=[si (aj (St X 772 2)) 0]from rfl]
   refine aq (dA rfl (ku ac (AP (args:=[ch (BM X) 1,ch (BM X) 2]) (fv:= .ref ag) (vs:=[vI ss,.tup (GR ss.length (.int 0))].map .v) (ks:=[("offset",.int 0),("mask",.none),("contiguous",.bool true)]) rfl aA rfl ⋯
    (z9 ac (bA aA (aV rfl ac hs)) (bA aA (cG rfl rfl ?_ (kR (bg ‹_› (by exact ac)))))) rfl (pz (vI ss) (.tup (GR ss.length (.int 0))) (.int 0) .none (.bool true) σ (n+6) ⋯))))
   exact ku ac (cM (x:="len") (args:=[ch (ch (ch (BM X) 2) 1) 1]) (fv:= .builtin "len") (vs:=[.v (vI ss)]) ⋯ ⋯ rfl ac (kO ac (bA aA (aV rfl ac hs))) (by
    have:=nS (c:=cc X) (σ:=σ) (cf:=(lv (cc X) (n+15)).cf) (l:=ss.map V.int) (by rw[GM];exact bg ‹_› (by exact ac))
    rw[GM]at this
    exact this))
 show(aT (cc X) (lv (cc X) (n+20)) (ah X 772 own) σ (St X 772 2)).bind _=_;rw[e1];rfl
theorem BJ(hs:own.lookup ("shape":Str)=some (vI ss))(hl:ss.length≤900)(h:0∉ss)(n:Nat):aT (cc X) (lv (cc X) (n+20)) (ah X 772 own) σ (St X 772 2)=some (.ok .next (ah X 772 own) σ):=by
 refine dy rfl (bx rfl aA rfl (aV rfl ac hs) ?_) rfl;rw[kQ]
 have:ss.any (· ==0)=false:=Hu.mpr fun x hx=>by
  intro q
  have:x=0:=by simpa using q
  exact h (this▸hx)
 exact congrArg _ (by assumption)
end
section
section
theorem oi{cf:b9}{x y:IV}{u:It}(h1:aC σ x=some t)(h2:aC σ y=some u):aJ c cf σ (.type "zip") [x,y] []=some (.ok (.it (.zip [t,u])) σ):=by
 have:aJ c cf σ (.type "zip") [x,y] []=(jQ σ [x,y]).bind fun ts=>if ts.length≤64 then some (.ok (.it (.zip ts)) σ)else none:=rfl
 rw[this];show((aC σ x).bind fun t=>((aC σ y).bind fun u=>some [u]).map fun ts=>t::ts).bind _=_;rw[h1,h2];rfl
theorem yb{cf:b9}{x y z:IV}{u v:It}(h1:aC σ x=some t)(h2:aC σ y=some u)(h3:aC σ z=some v):aJ c cf σ (.type "zip") [x,y,z] []=some (.ok (.it (.zip [t,u,v])) σ):=by
 have:aJ c cf σ (.type "zip") [x,y,z] []=(jQ σ [x,y,z]).bind fun ts=>if ts.length≤64 then some (.ok (.it (.zip ts)) σ)else none:=rfl
 rw[this];show((aC σ x).bind fun t=>((aC σ y).bind fun u=>((aC σ z).bind fun v=>some [v]).map fun ts=>u::ts).map fun ts=>t::ts).bind _=_;rw[h1,h2,h3];rfl
theorem yI{cf:b9}{x:IV}(h1:aC σ x=some t):aJ c cf σ (.type "enumerate") [x] []=some (.ok (.it (.enum t 0)) σ):=by
 show((aC σ x).map fun t=>aG.ok (IV.it (.enum t 0)) σ).or _=_;rw[h1];rfl
theorem Dx(h:i<n):seqIndex? (i:Int) n=some i:=by
 unfold seqIndex?;dsimp only;rw[if_neg (Gx.mpr (Gv i))];exact if_pos (Gg.mpr ⟨decide_eq_true (Gv i),decide_eq_true (Gz.mpr h)⟩)
theorem jk(h:l[i]? =some y)(hi:i<2^62):gk σ (.tup l) (i:Int)=some y:=by
 have hl:=(GZ.mp h).1;show gE l _=_;unfold gE;refine dQ (n62 ‹_›) ?_;rw[Dx hl];exact h
theorem Ea{a d:Bool}(he:e= .BoolOp .And [ch e 0,ch e 1,ch e 2] (ps e))(h1:(lv c n).ev en σ (ch e 0)=some (.ok (.bool a) σ))(h2:(lv c n).ev en σ (ch e 1)=some (.ok (.bool b) σ))(h3:(lv c n).ev en σ (ch e 2)=some (.ok (.bool d) KC)):
 ∃r KB,(KB=σ∨KB=KC)∧(lv c (n+1)).ev en σ e=some (.ok (.bool r) KB):=by
 have key:(lv c (n+1)).ev en σ e=i7 (lv c n).ev en .And σ [ch e 0,ch e 1,ch e 2]:=(congrArg ((lv c (n+1)).ev en σ) he);rw[key]
 cases a with
 |false=>exact⟨false,σ,.inl rfl,kW h1 rfl⟩
 |true=>
  cases b with
  |false=>exact⟨false,σ,.inl rfl,kW h1 (kW h2 rfl)⟩
  |true=>exact⟨d,KC,.inr rfl,kW h1 (kW h2 h3)⟩
theorem Fi{s:Stmt}{x:Str}{i j k:Int}(hs:s= .AugAssign (.Name x (ps (sx s 0))) op (sx s 1) (kB s))(hx:bH en x=true)(hl:en.own.lookup x=some (.int i))(h:(lv c n).ev en σ (sx s 1)=some (.ok (.int j) KC))(hk:wr op i j=some k):aT c (lv c n) en σ s=some (.ok .next (en.set x (.int k)) KC):=by
 refine(congrArg (aT c (lv c n) en σ) hs).trans ?_;refine(?_:ye (lv c n).ev en σ x op (sx s 1)=_);unfold ye;rw[if_pos hx,hl];show bQ en _ _=_;rw[h];show(wr _ _ _).map _=_;rw[hk];rfl
end
variable {X:Xp}{own:List (Str×V)}{ts:List Int}{ms:List (Int×Int)}{o:Int}
theorem isn(own:List (Str×V))(hm:own.lookup ("mask":Str)=some x)(n:Nat):(lv (cc X) (n+6)).tr (ah X 772 own) σ (ch (sx (St X 772 3) 0) 0)=some (.ok (!aX x) σ):=
 bx rfl aA (aV rfl ac hm) rfl rfl
theorem yQ(hm:own.lookup ("mask":Str)=some .none)(n:Nat):aT (cc X) (lv (cc X) (n+14)) (ah X 772 own) σ (St X 772 3)=some (.ok .next (ah X 772 own) σ):=
 dy rfl (lx (a:=false) (b:=true) rfl (isn own hm (n+7)) (fun h=>by exact bM h)) rfl
noncomputable abbrev g3(X:Xp):=ch (sx (St X 772 3) 0) 1
theorem zy(hs:own.lookup ("shape":Str)=some (vI ss))(hm:own.lookup ("mask":Str)=some (vP ms))(hl:ms.length≤900)(n:Nat): ∃own',(own'=own∨own'=(("mask":Str),V.none)::own)∧aT (cc X) (lv (cc X) (n+18)) (ah X 772 own) σ (St X 772 3)=some (.ok .next (ah X 772 own') σ):=by
 have t:(lv (cc X) (n+18)).tr (ah X 772 own) σ (sx (St X 772 3) 0)=some (.ok (true&&(ms.zip ss).all fun p=>(p.1.1==0)&&((p.1.2==p.2)&&true)) σ):=
  lx rfl (isn own hm (n+11)) fun u_=>dz ac (iz (S:=fun u_=>True) (t:= .zip [.seq (ms.map pP) 0,.seq (ss.map V.int) 0]) (as:=ms.zip ss) (f:=fun p=> .tup [pP p.1,.int p.2]) (b:=fun p=>[("s",.int p.2),("m",pP p.1)]) (F:=fun p=> .bool ((p.1.1==0)&&((p.1.2==p.2)&&true)))
   ⋯ ⋯ rfl (cM (x:="zip") (args:=[ch (ch (ch (g3 X) 1) 2) 1,ch (ch (ch (g3 X) 1) 2) 2]) (fv:= .type "zip") (vs:=[.v (vP ms),.v (vI ss)]) ⋯ rfl rfl ⋯
    (z9 ⋯ (bA aA (aV (x:="mask") ⋯ ac hm)) (bA ⋯ (aV (x:="shape") ⋯ ac hs))) (oi rfl rfl)) rfl trivial (bb (ai _ _) (ai _ _)) (by rw[GQ];exact r7 ‹_› (by exact ac))
   (fun p u_ own=>⟨by kernel_rfl,rfl⟩) (fun u_ u_=>rfl)) rfl
 cases hb:(true&&(ms.zip ss).all fun p=>(p.1.1==0)&&((p.1.2==p.2)&&true))with
 |false=>
  rw[hb]at t;exact⟨own,.inl rfl,dy rfl t rfl⟩
 |true=>
  rw[hb]at t;exact⟨_,.inr rfl,eM rfl t rfl⟩
theorem xU(hm:own.lookup ("mask":Str)=some .none)(n:Nat):aT (cc X) (lv (cc X) (n+14)) (ah X 772 own) σ (St X 772 4)=some (.ok .next (ah X 772 (("elim",.lst σ.length)::own)) (σ++[aa.lst (([]:List Bool).map V.bool)])):=
 cm rfl ac ac (tN rfl (dz ac (aV rfl ac hm) rfl) rfl)
noncomputable abbrev c4(X:Xp):=ch (sx (St X 772 4) 0) 1
theorem xV(hm:own.lookup ("mask":Str)=some (vP ms))(hl:ms.length≤900)(h0:ms≠[])(n:Nat): ∃bs:List Bool,bs.length=ms.length∧aT (cc X) (lv (cc X) (n+18)) (ah X 772 own) σ (St X 772 4)=some (.ok .next (ah X 772 (("elim",.lst σ.length)::own)) (σ++[aa.lst (bs.map V.bool)])):=by
 refine⟨ms.map fun p=> !(decide (p.1+1<p.2)),by exact GM ..,cm rfl ac ac (uh rfl (dz ac (aV rfl ac hm) ?_) (jS rfl ?_))⟩
 ·rw[fx (by rw[GM];exact bg ‹_› (by exact ac))]
  cases ms with
  |nil=>exact absurd rfl h0
  |cons=>rfl
 ·have:=nN (n:=n+16) (σ:=σ) (e:=c4 X) (en:=ah X 772 own) (S:=fun u_=>True) (t:= .seq (ms.map pP) 0) (as:=ms) (f:=pP) (b:=fun p=>[("e",.int p.2),("b",.int p.1)]) (P:=fun u_=>True) (F:=fun p=> .bool (!(decide (p.1+1<p.2)))) ac
   (bA aA (aV rfl ac hm)) rfl (fun u_=>trivial) (ai _ _) (fH ‹_› (by exact ac)) trivial (fun p u_ own acc u_=>⟨trivial,by kernel_rfl,rfl,fun u_=>rfl⟩)
  rw[HR.mpr (fun u_ u_=>rfl)]at this;rw[G_];exact this
theorem xT(hk:own.lookup ("elim":Str)=some (.lst k))(hc:σ[k]? =some (aa.lst (bs.map V.bool)))(hl:bs.length≤900)(n:Nat):(lv (cc X) (n+10)).tr (ah X 772 own) σ (sx (St X 772 5) 0)=some (.ok (bs.any id) σ):=
 dz ac (ku ac (cM (args:=[ch (sx (St X 772 5) 0) 1]) (fv:= .builtin "any") (vs:=[.v (.lst k)]) rfl rfl rfl ac (kO ac (bA aA (aV rfl ac hk))) (yM hc (fH ‹_› (by exact ac))))) rfl
noncomputable abbrev b5(X:Xp)(i:Nat):=si (aj (St X 772 5)) i
noncomputable abbrev a5(X:Xp):=si (aj (b5 X 0)) 0
noncomputable def Bd(ts:List Int)(ms:List (Int×Int)):Prop:=(∀t∈ts,t.natAbs≤2^30)∧ ∀m∈ms,m.1.natAbs≤2^30
theorem vc(hs:own.lookup ("shape":Str)=some (vI ss))(hl:ss.length≤900)(n:Nat)(he:e= .Call (.Name ("len":Str) (ps (ch e 0))) [ch e 1] [] (ps e))(hg:cJ [ch e 1]=none)(hn:al [ch e 1]=true)(h1:ch e 1= .Name ("shape":Str) (ps (ch e 1)))(hc:aY e=true):(lv (cc X) (n+6)).ev (ah X 772 own) σ e=some (.ok (.int (ss.length:Nat)) σ):=by
 have:=nS (c:=cc X) (σ:=σ) (cf:=(lv (cc X) (n+5)).cf) (l:=ss.map V.int) (by rw[GM];exact bg ‹_› (by exact ac))
 rw[GM]at this
 exact ku hc (cM (args:=[ch e 1]) (fv:= .builtin "len") (vs:=[.v (vI ss)]) he hg rfl (by rw[hn];exact ac) (kO hn (bA (by rw[h1];rfl) (aV h1 ac hs))) this)
theorem s50(hs:own.lookup ("shape":Str)=some (vI ss))(ht:own.lookup ("strides":Str)=some (vI ts))(ho:own.lookup ("offset":Str)=some (.int o))(hm:own.lookup ("mask":Str)=some (vP ms))(hl:ss.length≤900)(e1:ts.length=ss.length)(e2:ms.length=ss.length)(hB:Bd ts ms)(n:Nat):
 ∃(own':List (Str×V)) (ts':List Int) (ms':List (Int×Int)) (o':Int),own'.lookup ("shape":Str)=some (vI ss)∧own'.lookup ("strides":Str)=some (vI ts')∧own'.lookup ("offset":Str)=some (.int o')∧own'.lookup ("mask":Str)=some (vP ms')∧own'.lookup ("elim":Str)=own.lookup ("elim":Str)∧ts'.length=ss.length∧ms'.length=ss.length∧Bd ts' ms'∧
  aT (cc X) (lv (cc X) (n+20)) (ah X 772 own) σ (b5 X 0)=some (.ok .next (ah X 772 own') σ):=by
 have t:(lv (cc X) (n+20)).tr (ah X 772 own) σ (sx (b5 X 0) 0)=some (.ok (ms.any fun p=> !(decide (p.1<p.2))) σ):=
  dz ac (Aw (S:=fun u_=>True) (x:= .v (vP ms)) (t:= .seq (ms.map pP) 0) (as:=ms) (f:=pP) (b:=fun p=>[("e",.int p.2),("b",.int p.1)]) (F:=fun p=> .bool (!(decide (p.1<p.2)))) ⋯ ⋯ rfl
   (bA aA (aV (x:="mask") rfl ac hm)) rfl trivial (ai _ _) (Ez ‹_› ‹_› (by exact ac)) (fun p u_ own=>⟨by kernel_rfl,rfl⟩) (fun u_ u_=>rfl)) rfl
 cases hb:(ms.any fun p=> !(decide (p.1<p.2)))with
 |false=>
  rw[hb]at t;exact⟨own,ts,ms,o,hs,ht,ho,hm,rfl,e1,e2,hB,dy rfl t rfl⟩
 |true=>
  rw[hb]at t
  refine⟨("mask",vP (GR ss.length (0,0)))::("offset",.int 0)::("strides",vI (GR ss.length 0))::own,GR ss.length 0,GR ss.length (0,0),0,hs,rfl,rfl,rfl,rfl,by exact List.length_replicate,by exact List.length_replicate,⟨?_,?_⟩,eM rfl t ?_⟩
  ·intro t ht;rw[(List.mem_replicate.mp ht).2];exact H9 _
  ·intro t ht;rw[(List.mem_replicate.mp ht).2];exact H9 _
  rw[show aj (b5 X 0)=[a5 X]from rfl]
  have L:=fun i=>vc (X:=X) (σ:=σ) hs hl (n+11) (e:=ch (ch (sx (a5 X) 0) i) 1)
  refine aq (gc (y:= .tup [vI (GR ss.length 0),.int 0,vP (GR ss.length (0,0))]) (KC:=σ) rfl ac ⋯ ?_ rfl)
  have key: ∀e:Expr,e= .Tuple [ch e 0,ch e 1,ch e 2] (tk (e)) (ps e)→fq (lv (cc X) (n+18)).ev (ah X 772 own) σ [ch e 0,ch e 1,ch e 2]=some (.ok [vI (GR ss.length 0),.int 0,vP (GR ss.length (0,0))] σ)→(lv (cc X) (n+19)).ev (ah X 772 own) σ e=some (.ok (.tup [vI (GR ss.length 0),.int 0,vP (GR ss.length (0,0))]) σ):=fun e he h=>
   (congrArg ((lv (cc X) (n+19)).ev (ah X 772 own) σ) he).trans (gD h (show 3≤2^20 by decide))
  refine key _ ⋯ (bz (KC:=σ) ac (cG (op:= .Mult) (KC:=σ) (x:= .tup [.int 0]) (y:= .int (ss.length:Nat)) ⋯ rfl (L 0 ⋯ ⋯ ⋯ ⋯ ac) ?_)
   (bz (KC:=σ) ac rfl (bz ac (cG (op:= .Mult) ⋯ rfl (L 2 ⋯ ⋯ ⋯ ⋯ ac) ?_) hY)))
  ·rw[kR (bg ‹_› (by exact ac)),vI,HS]
  ·rw[kR (bg ‹_› (by exact ac)),vP,HS]
theorem mC{x:Str}{v:V}(hx:((dZ X a).scope.names.lookup x==some .cell)=true)(h:own.lookup x=some v):(dD names (ah X a own)).fre.lookup x=some v:=by
 show(((ah X a own).own.filter fun p=>(ah X a own).names.lookup p.1==some .cell)++(([]:List (Str×V)).filter fun p=>(ah X a own).names.lookup p.1==some .free)).lookup x=some v;rw[List.filter_nil,G2,aZ (q:=fun x=>(ah X a own).names.lookup x==some .cell)];exact(if_pos hx).trans h
noncomputable abbrev EV(X:Xp):=sx (b5 X 1) 1
theorem s51(ht:own.lookup ("strides":Str)=some (vI ts))(ho:own.lookup ("offset":Str)=some (.int o))(hm:own.lookup ("mask":Str)=some (vP ms))(hk:own.lookup ("elim":Str)=some (.lst k))(hc:σ[k]? =some (aa.lst (bs.map V.bool)))(hl:bs.length≤900)(e1:ts.length=bs.length)(e2:ms.length=bs.length)(hB:Bd ts ms)(n:Nat):
 ∃o':Int,aT (cc X) (lv (cc X) (n+20)) (ah X 772 own) σ (b5 X 1)=some (.ok .next (ah X 772 (("offset",.int o')::own)) σ):=by
 have h:=Dd (c:=cc X) (n:=n+19) (σ:=σ) (e:=EV X) (en:=ah X 772 own) (S:=fun KB=>KB=σ) (x:= .it (.enum (.lst k 0) 0)) (t:= .enum (.lst k 0) 0) (as:=bs.zipIdx) (f:=fun p=> .tup [.int (0+(p.2:Int)),.bool p.1]) (F:=fun p=>bif p.1 then ts.getD p.2 0*(ms.getD p.2 (0,0)).1 else 0) (b:=fun p=>[("e",.bool p.1),("i",.int (0+(p.2:Int)))]) ⋯ ⋯ rfl
  (cM (n:=n+17) (x:="enumerate") (args:=[ch (ch (ch (EV X) 1) 2) 1]) (fv:= .type "enumerate") (vs:=[.v (.lst k)]) (KC:=σ) ⋯ ⋯ rfl ⋯ (kO ⋯ (bA (n:=n+17) aA (aV (x:="elim") rfl ac hk))) (yI (fJ hc))) rfl rfl (rA 0 (eu fun KB q=>by rw[q];exact hc)) (by rw[List.length_zipIdx];exact fH ‹_› (by exact ac)) ?_
 ·exact⟨_,Fi (op:= .Add) rfl ac ho h rfl⟩
 ·intro p hp own';obtain⟨e,i⟩:=p
  have hi:i<bs.length:=by
   have:=List.mem_zipIdx hp;omega
  refine⟨by kernel_rfl,zl (b:=e) ⋯ (dz (x:= .bool e) ⋯ rfl rfl) (fun u_=> ?_) (fun u_=>rfl)⟩
  have z0:(0:Int)+(i:Int)=(i:Int):=by exact Int.zero_add _
  have b1:(ts.getD i 0).natAbs≤2^30:=by
   rw[Hd,G1 (Ic ‹_› (Gs ‹_›))];exact hB.1 _ (Hb _)
  have b2:(ms.getD i (0,0)).1.natAbs≤2^30:=by
   rw[Hd,G1 (Ic ‹_› (Gs ‹_›))];exact hB.2 _ (Hb _)
  refine cG (op:= .Mult) (KC:=σ) (KG:=σ) (x:= .int (ts.getD i 0)) (y:= .int (ms.getD i (0,0)).1) ⋯ (c_ (x:=vI ts) (i:=0+(i:Int)) (KC:=σ) ⋯ ⋯ (bT (x:="strides") ⋯ (Gr rfl (mC (X:=X) (names:=(dG (ch (EV X) 1)).names) (a:=772) ac ht))) ⋯ ?_)
   (c_ (x:=pP (ms.getD i (0,0))) (i:=0) (KC:=σ) ⋯ ⋯ (c_ (x:=vP ms) (i:=0+(i:Int)) (KC:=σ) ⋯ ⋯ (bT (x:="mask") ⋯ (Gr rfl (mC (names:=(dG (ch (EV X) 1)).names) (a:=772) ac hm))) ⋯ ?_) ⋯ rfl) (gK (be b1 (by decide)) (be b2 (by decide)))
  ·rw[z0]
   exact jk (by rw[Ha,G1 (Ic ‹_› (Gs ‹_›)),Hd,G1 (Ic ‹_› (Gs ‹_›))];rfl) (Em ‹_› ‹_› (by exact ac))
  ·refine(z0).symm▸ ?_
   exact jk (by rw[Ha,G1 (Ic ‹_› (Gs ‹_›)),Hd,G1 (Ic ‹_› (Gs ‹_›))];rfl) (Em ‹_› ‹_› (by exact ac))
noncomputable abbrev F1(X:Xp):=sx (b5 X 2) 0
theorem s52(ht:own.lookup ("strides":Str)=some (vI ts))(hk:own.lookup ("elim":Str)=some (.lst k))(hc:σ[k]? =some (aa.lst (bs.map V.bool)))(hl:bs.length≤900)(e1:ts.length=bs.length)(n:Nat):
 ∃ts':List Int,ts'.length=ts.length∧aT (cc X) (lv (cc X) (n+20)) (ah X 772 own) σ (b5 X 2)=some (.ok .next (ah X 772 (("strides",vI ts')::own)) σ):=by
 have h:=hV (c:=cc X) (n:=n+19) (σ:=σ) (e:=F1 X) (en:=ah X 772 own) (S:=fun KB=>KB=σ) (x:= .it (.zip [.seq (ts.map V.int) 0,.lst k 0])) (t:= .zip [.seq (ts.map V.int) 0,.lst k 0]) (as:=ts.zip bs) (f:=fun p=> .tup [.int p.1,.bool p.2]) (F:=fun p=> .int (bif p.2 then 0 else p.1)) (b:=fun p=>[("e",.bool p.2),("st",.int p.1)]) ⋯ ⋯ rfl
  (cM (x:="zip") (args:=[ch (ch (ch (F1 X) 1) 2) 1,ch (ch (ch (F1 X) 1) 2) 2]) (fv:= .type "zip") (vs:=[.v (vI ts),.v (.lst k)]) ⋯ rfl rfl ⋯ (z9 ⋯ (bA aA (aV rfl ac ht)) (bA aA (aV rfl ac hk))) (oi rfl (fJ hc))) rfl rfl
  (bb (ai _ _) (eu fun KB q=>by rw[q];exact hc)) (by rw[GQ];exact EL ‹_› ‹_› (by exact ac))
  (fun p u_ own=>⟨by kernel_rfl,zl (b:=p.2) ⋯ (dz ⋯ rfl rfl) (fun u_=>rfl) (fun u_=>rfl)⟩) (fun u_ u_=>rfl)
 refine⟨(ts.zip bs).map fun p=>bif p.2 then 0 else p.1,by rw[GM,GQ];exact mqs ‹_›,cm rfl ac ac ?_⟩
 rw[vI,G_];exact h
end
section
variable {X:Xp}{own:List (Str×V)}{ts:List Int}{ms:List (Int×Int)}{o:Int}{M:V}
noncomputable abbrev g6(X:Xp):=sx (St X 772 6) 0
theorem s6(hs:own.lookup ("shape":Str)=some (vI ss))(ht:own.lookup ("strides":Str)=some (vI ts))(ho:own.lookup ("offset":Str)=some (.int o))(hm:own.lookup ("mask":Str)=some M)(hl:bU ss)(h0:ss≠[])(e1:ts.length=ss.length)(n:Nat):
 ∃(b:Bool) (ext:Sg),aT (cc X) (lv (cc X) (n+50)) (ah X 772 own) σ (St X 772 6)=some (.ok .next (ah X 772 (("contiguous",.bool b)::own)) (σ++ext)):=by
 refine qK (HQ h0) fun a r zz2=> ?_;subst zz2;have hl4:=hl.1;refine dw fun kk=> ?_;refine bf (sfs (X:=X) a r hl σ (n+15)) fun ts' ext k1 k2=> ?_<;>(refine kk ?_;clear kk)
 refine oE (yu (σ:=σ++ext) ts ts' (by rw[e1];exact fH ‹_› (by exact ac))) fun t ht'=> ?_
 obtain⟨q,KB,hσ,h⟩:=Ea (c:=cc X) (n:=n+49) (σ:=σ) (en:=ah X 772 own) (e:=g6 X) (a:=o==0) (b:=aX M) (d:=t) (KC:=σ++ext) rfl
  (qy (n:=n+48) (op:= .Eq) (KC:=σ) (x:= .int o) (y:= .int 0) rfl aA (aV (n:=n+47) (x:="offset") rfl ac ho) rfl rfl)
  (qy (n:=n+48) (op:= .Is) (KC:=σ) (x:=M) (y:= .none) rfl aA (aV (n:=n+47) (x:="mask") rfl ac hm) rfl rfl)
  (qy (n:=n+48) (op:= .Eq) (KC:=σ) (x:=vI ts) (y:=vI ts') rfl aA (aV (n:=n+47) (x:="strides") rfl ac ht) (ku (n:=n+47) ac (cM (n:=n+46) (x:="strides_for_shape") (args:=[ch (ch (ch (g6 X) 2) 1) 1]) (fv:= .ref 718) (vs:=[.v (vI (a::r))]) (KC:=σ) rfl rfl rfl ac
   (kO ac (bA (n:=n+46) aA (aV (n:=n+45) (x:="shape") rfl ac hs))) (eL (X:=X) (n:=n+47) (xs:=[vI (a::r)]) ac k2))) ht')
 have fin:=fun ext=>cm (c:=cc X) (n:=n+50) (σ:=σ) (KC:=σ++ext) (en:=ah X 772 own) (s:=St X 772 6) (x:="contiguous") (xp:=ps (sx (St X 772 6) 1)) (y:= .bool q) rfl ac ac
 rcases hσ with rfl|rfl
 ·exact⟨q,[],by have:=fin [] (by rw[G2];exact h);exact this⟩
 ·exact⟨q,ext,fin ext h⟩
noncomputable abbrev g7(X:Xp):=sx (St X 772 7) 0
theorem s7{T:V}(hs:own.lookup ("shape":Str)=some (vI ss))(ht:own.lookup ("strides":Str)=some T)(ho:own.lookup ("offset":Str)=some O)(hm:own.lookup ("mask":Str)=some M)(hb:own.lookup ("contiguous":Str)=some B)(n:Nat):aH ((lv (cc X) (n+20)).exs (ah X 772 own) σ [St X 772 7]) σ ss:=by
 refine⟨ah X 772 own,σ,T,O,M,B,GU _,aq (dA rfl (ku ac (cM (x:="View") (args:=[ch (g7 X) 1,ch (g7 X) 2,ch (g7 X) 3,ch (g7 X) 4,ch (g7 X) 5]) (fv:= .ref ag) (vs:=[vI ss,T,O,M,B].map .v) (KC:=σ) rfl rfl rfl ⋯ ?_ (pz (X:=X) (vI ss) T O M B σ (n+6) ⋯))))⟩
 have N: ∀{x:Str} {v:V} {e:Expr},e= .Name x (ps e)→dP X 772 x=true→own.lookup x=some v→(lv (cc X) (n+18)).iv (ah X 772 own) σ e=some (.ok (.v v) σ):=fun he hk h=>bA (by rw[he];rfl) (aV he hk h)
 exact aO ac (N (x:="shape") rfl ac hs) (aO ac (N (x:="strides") rfl ac ht) (aO ac (N (x:="offset") rfl ac ho) (aO ac (N (x:="mask") rfl ac hm) (aO ac (N (x:="contiguous") rfl ac hb) fS))))
theorem Ag(hs:own.lookup ("shape":Str)=some (vI ss))(ht:own.lookup ("strides":Str)=some (vI ts))(ho:own.lookup ("offset":Str)=some (.int o))(hm:own.lookup ("mask":Str)=some M)(hk:own.lookup ("elim":Str)=some (.lst k))(hc:σ[k]? =some (aa.lst (bs.map V.bool)))(hl:bU ss)(h0:ss≠[])(e1:ts.length=ss.length)
 (hM:bs=[]∨ ∃ms,M=vP ms∧ms.length=ss.length∧bs.length=ss.length∧Bd ts ms) (n:Nat):aH ((lv (cc X) (n+51)).exs (ah X 772 own) σ [St X 772 5,St X 772 6,St X 772 7]) σ ss:=by
 have hl4:=hl.1
 have hbl:bs.length≤900:=by
  rcases hM with rfl|⟨_,_,_,e,_⟩
  ·simp
  ·exact dH ‹_› ‹_› (by exact ac)
 have fin: ∀{own':List (Str×V)} {ts':List Int} {o':Int} {M':V},own'.lookup ("shape":Str)=some (vI ss)→own'.lookup ("strides":Str)=some (vI ts')→own'.lookup ("offset":Str)=some (.int o')→own'.lookup ("mask":Str)=some M'→ts'.length=ss.length→aH ((lv (cc X) (n+51)).exs (ah X 772 own') σ [St X 772 6,St X 772 7]) σ ss:=by
  intro own' ts' o' M' a1 a2 a3 a4 a5;refine qK (s6 (X:=X) (σ:=σ) a1 a2 a3 a4 hl h0 a5 n) fun b ext h=> ?_;exact aH.next h (GO _ _) (s7 (own:=("contiguous",.bool b)::own') (T:=vI ts') (O:= .int o') (M:=M') (B:= .bool b) a1 a2 a3 a4 rfl (n+31))
 have t:=xT (X:=X) hk hc hbl (n+40)
 cases hb:bs.any id with
 |false=>
  rw[hb]at t;exact aH.next (dy (o:= .ok .next (ah X 772 own) σ) rfl t rfl) (GU _) (fin hs ht ho hm e1)
 |true=>
  rw[hb]at t
  rcases hM with rfl|⟨ms,rfl,e2,e3,hB⟩
  ·exact bM hb
  refine dw fun kk=> ?_
  obtain⟨Mm,ts₁,ms₁,Li,a1,a2,a3,a4,a5,a6,a7,a8,h1⟩:=s50 (X:=X) (σ:=σ) hs ht ho hm (bg ‹_› (by exact ac)) e1 e2 hB (n+29)<;>(refine kk ?_;clear kk)
  rw[hk]at a5;refine dw fun kk=> ?_;refine oE (s51 (X:=X) a2 a3 a4 a5 hc hbl (Gr ‹_› (Gs ‹_›)) (Gr ‹_› (Gs ‹_›)) a8 (n+29)) fun Mn h2=> ?_<;>(refine kk ?_;clear kk)
  refine dw fun kk=> ?_;refine aK (s52 (X:=X) (own:=("offset",.int Mn)::Mm) a2 a5 hc hbl (Gr ‹_› (Gs ‹_›)) (n+29)) fun MC l3 h3=> ?_<;>(refine kk ?_;clear kk)
  refine aH.next (KB:=σ) (en':=ah X 772 (("strides",vI MC)::("offset",.int Mn)::Mm)) (eM rfl t ?_) (GU _) (fin (own':=("strides",vI MC)::("offset",.int Mn)::Mm) a1 rfl rfl a4 (Gr ‹_› ‹_›))
  rw[show aj (St X 772 5)=[b5 X 0,b5 X 1,b5 X 2]from rfl]
  exact ab h1 (ab h2 (aq h3))
theorem CL(hs:own.lookup ("shape":Str)=some (vI ss))(ht:own.lookup ("strides":Str)=some (vI ts))(ho:own.lookup ("offset":Str)=some (.int o))(hm:own.lookup ("mask":Str)=some M)(hl:bU ss)(h0:ss≠[])(e1:ts.length=ss.length)
 (hM:M= .none∨ ∃ms,M=vP ms∧ms.length=ss.length∧Bd ts ms) (n:Nat):aH ((lv (cc X) (n+51)).exs (ah X 772 own) σ [St X 772 3,St X 772 4,St X 772 5,St X 772 6,St X 772 7]) σ ss:=by
 have hl4:=hl.1
 have none: ∀{own':List (Str×V)},own'.lookup ("shape":Str)=some (vI ss)→own'.lookup ("strides":Str)=some (vI ts)→own'.lookup ("offset":Str)=some (.int o)→own'.lookup ("mask":Str)=some .none→aH ((lv (cc X) (n+51)).exs (ah X 772 own') σ [St X 772 4,St X 772 5,St X 772 6,St X 772 7]) σ ss:=by
  intro own' a1 a2 a3 a4
  exact aH.next (xU (X:=X) (σ:=σ) a4 (n+36)) (GO _ _) (Ag (own:=("elim",.lst σ.length)::own') (bs:=[]) (k:=σ.length) a1 a2 a3 a4 rfl (by exact G6) hl h0 e1 (.inl rfl) n)
 rcases hM with rfl|⟨ms,rfl,e2,hB⟩
 ·exact aH.next (yQ (X:=X) hm (n+36)) (GU _) (none hs ht ho hm)
 ·have hms:ms≠[]:=fun q=>by rw[q]at e2;exact h0 (G' e2.symm)
  refine dw fun kk=> ?_
  refine aK (zy (X:=X) (σ:=σ) hs hm (dH ‹_› ‹_› (by exact ac)) (n+32)) fun own' hd h=> ?_<;>(refine kk ?_;clear kk)
  rcases hd with rfl|rfl
  ·refine dw fun kk=> ?_
   refine aK (xV (X:=X) (σ:=σ) hm (dH ‹_› ‹_› (by exact ac)) hms (n+32)) fun bs e3 h4=> ?_<;>(refine kk ?_;clear kk)
   exact aH.next h (GU _) (aH.next h4 (GO _ _) (Ag (own:=("elim",.lst σ.length)::own') (bs:=bs) (k:=σ.length) hs ht ho hm rfl (by exact G6) hl h0 e1 (.inr ⟨ms,rfl,e2,by exact Gr ‹_› ‹_›,hB⟩) n))
  ·exact aH.next h (GU _) (none (own':=("mask",V.none)::own) hs ht ho rfl)
end
section
variable {X:Xp}{ts:List Int}{ms:List (Int×Int)}{o:Int}{T M:V}
noncomputable def gh(r:Option (aG V))(σ:Sg)(ss:List Int):Prop:= ∃KC T O M B,σ<+:KC∧r=some (.ok (.inst ag KC.length) (KC++[aa.dct (bc (vI ss) T O M B)]))
theorem g_{ks:List (Str×V)}(hp:dU X a=true)(hb:eU ((dZ X a).params.args.map (·.arg)) xs ks ((o6 X a).map xM)=some binds)(hk:hO (dZ X a).scope.names binds=true)(h:aH ((lv (cc X) n).exs (ah X a binds.reverse) σ (aD X a)) σ ss):gh ((lv (cc X) (n+1)).cf σ a xs ks) σ ss:=by
 refine fA h fun en' KC T O M B h1 h2=> ?_;exact⟨KC,T,O,M,B,h1,bp hp hb hk h2 rfl⟩
theorem Bd.canon{ts:List Int}{ms:List (Int×Int)}(h:Bd ts ms):Bd (dT ss ts) ms:=by
 refine⟨fun t ht=> ?_,h.2⟩;unfold dT at ht;refine aK (G0.mp ht) fun p hp zz2=> ?_;subst zz2
 cases p.1==1 with
 |true=>show(0:Int).natAbs≤2^30;exact H9 _
 |false=>exact h.1 _ (GS hp).2
noncomputable def rz(ss:List Int)(T M:V):Prop:=(T= .none∧M= .none)∨ ∃ts,T=vI ts∧ts.length=ss.length∧(M= .none∨ ∃ms,M=vP ms∧ms.length=ss.length∧Bd ts ms)
noncomputable abbrev fw(S T O M:V):List (Str×V):=[("mask",M),("offset",O),("strides",T),("shape",S)]
theorem sy(hl:bU ss)(h0:ss≠[])(hp: ∀s∈ss,0≤s)(hA:rz ss T M)(n:Nat):aH ((lv (cc X) (n+51)).exs (ah X 772 (fw (vI ss) T (.int o) M)) σ (aD X 772)) σ ss:=by
 have hl4:=hl.1
 rw[show aD X 772=[St X 772 0,St X 772 1,St X 772 2,St X 772 3,St X 772 4,St X 772 5,St X 772 6,St X 772 7]from rfl]
 refine aH.next (Dq rfl (bg ‹_› (by exact ac)) hp (n+38)) (GU _) ?_
 have key: ∀(ts:List Int) (KB:Sg),ts.length=ss.length→(M= .none∨ ∃ms,M=vP ms∧ms.length=ss.length∧Bd ts ms)→aH ((lv (cc X) (n+51)).exs (ah X 772 (("strides",vI ts)::fw (vI ss) T (.int o) M)) KB [St X 772 2,St X 772 3,St X 772 4,St X 772 5,St X 772 6,St X 772 7]) KB ss:=by
  intro ts KB e1 hM
  by_cases hz:0∈ss
  ·exact zP (own:=("strides",vI ts)::fw (vI ss) T (.int o) M) rfl (bg ‹_› (by exact ac)) hz (n+30)
  ·exact aH.next (BJ (own:=("strides",vI ts)::fw (vI ss) T (.int o) M) rfl (bg ‹_› (by exact ac)) hz (n+30)) (GU _) (CL (own:=("strides",vI ts)::fw (vI ss) T (.int o) M) rfl rfl rfl rfl hl h0 e1 hM n)
 rcases hA with⟨rfl,rfl⟩|⟨ts,rfl,e1,hM⟩
 ·refine dw fun kk=> ?_;refine bf (xR (X:=X) (σ:=σ) (own:=fw (vI ss) .none (.int o) .none) rfl rfl hl h0 (n+12)) fun ts ext e1 h=> ?_<;>(refine kk ?_;clear kk)
  exact aH.next h (GO _ _) (key ts _ e1 (.inl rfl))
 ·as_aux_lemma=>
   have ht0:ts≠[]:=fun q=>by rw[q]at e1;exact h0 (G' e1.symm)
   refine aH.next (AR (own:=fw (vI ss) (vI ts) (.int o) M) rfl rfl (bg ‹_› (by exact ac)) (dH ‹_› ‹_› (by exact ac)) ht0 (n+34)) (GU _) (key (dT ss ts) σ (by rw[ir,e1,Ii]) ?_)
   rcases hM with rfl|⟨ms,rfl,e2,hB⟩
   ·exact .inl rfl
   ·exact .inr ⟨ms,rfl,e2,hB.canon⟩
theorem kF(hl:bU ss)(h0:ss≠[])(hp: ∀s∈ss,0≤s)(hA:rz ss T M)(n:Nat):gh ((lv (cc X) (n+52)).cf σ 772 [vI ss,T,.int o,M] []) σ ss:=
 g_ (a:=772) (binds:=[("shape",vI ss),("strides",T),("offset",.int o),("mask",M)]) ⋯ ⋯ ac (sy hl h0 hp hA n)
theorem yH(hl:bU ss)(h0:ss≠[])(hp: ∀s∈ss,0≤s)(n:Nat):gh ((lv (cc X) (n+52)).cf σ 772 [vI ss] []) σ ss:=
 g_ (a:=772) (binds:=[("shape",vI ss),("strides",.none),("offset",.int 0),("mask",.none)]) ⋯ ⋯ ac (sy hl h0 hp (.inl ⟨rfl,rfl⟩) n)
theorem vE(hl:ss.length≤900)(hp: ∃s∈ss,s<0)(n:Nat):(lv (cc X) (n+51)).exs (ah X 772 (fw (vI ss) T (.int o) M)) σ (aD X 772)=some (.exc "ValueError" (ah X 772 (fw (vI ss) T (.int o) M)) σ):=by
 rw[show aD X 772=[St X 772 0,St X 772 1,St X 772 2,St X 772 3,St X 772 4,St X 772 5,St X 772 6,St X 772 7]from rfl]
 have:=Be (X:=X) (σ:=σ) (own:=fw (vI ss) T (.int o) M) rfl hl hp (n+38);show(aT (cc X) (lv (cc X) (n+50)) _ _ _).bind _=_;rw[this];rfl
theorem pw(hl:ss.length≤900)(hp: ∃s∈ss,s<0)(n:Nat):(lv (cc X) (n+52)).cf σ 772 [vI ss,T,.int o,M] []=some (.exc "ValueError" σ):=
 bp (a:=772) (binds:=[("shape",vI ss),("strides",T),("offset",.int o),("mask",M)]) ⋯ ⋯ ac (vE hl hp n) rfl
theorem pA(hl:ss.length≤900)(hp: ∃s∈ss,s<0)(n:Nat):(lv (cc X) (n+52)).cf σ 772 [vI ss] []=some (.exc "ValueError" σ):=
 bp (a:=772) (binds:=[("shape",vI ss),("strides",.none),("offset",.int 0),("mask",.none)]) ⋯ ⋯ ac (vE hl hp n) rfl
end
section
section
theorem je{x:aa}(p:σ<+:KC)(h:σ[k]? =some x):KC[k]? =some x:=by
 obtain⟨t,rfl⟩:=p;rw[Hc (GZ.mp h).1];exact h
theorem bZ{x:aa}{t:Sg}(h:σ[k]? =some x):(σ++t)[k]? =some x:=je (GO _ _) h
noncomputable def CB0(c:Cx)(n:Nat)(e:Expr)(en:En)(σ:Sg)(as:List α)(f:α→V)(b:α→List (Str×V))(P:List (Str×V)→Prop)(F:α→V):Prop:=
 ∀a∈as,∀own acc,P own→P (b a++own)∧dq 8 (ch e 1) ⟨am (dG e).names en,own,en.fre,none⟩ (σ++[aa.lst acc]) (f a)=some (⟨am (dG e).names en,b a++own,en.fre,none⟩,σ++[aa.lst acc])∧
  (lv c n).ev ⟨am (dG e).names en,b a++own,en.fre,none⟩ (σ++[aa.lst acc]) (ch e 0)=some (.ok (F a) (σ++[aa.lst acc]))
theorem bN{S:Sg→Prop}{x:IV}{as:List α}{f F:α→V}{b:α→List (Str×V)}{P:List (Str×V)→Prop}(he:iM e)(hi:ec e=[])(hf:hG en e=true)(hx:(lv c n).iv en σ (ch e 2)=some (.ok x σ))(ht:aC σ x=some t)(hS: ∀acc,S (σ++[aa.lst acc]))(tl:aE S t (as.map f))(hl:as.length<4096)
 (hp:P (dY (dG e).names en).own) (hb:CB0 c n e en σ as f b P F):(lv c (n+1)).ev en σ e=some (.ok (.lst σ.length) (σ++[aa.lst (as.map F)])):=by
 refine jS he ?_
 have:=nN (e:=e) hf hx ht hS tl hl hp (fun a ha own acc hp=>⟨(hb a ha own acc hp).1,(hb a ha own acc hp).2.1,by rw[hi];rfl,fun u_=>(hb a ha own acc hp).2.2⟩)
 rw[HR.mpr (fun u_ u_=>rfl)]at this;exact this
theorem yq{cf:b9}{ns:List Int}(h:σ[k]? =some (.lst l))(hl:cU l=some ns):aJ c cf σ (.builtin "sum") [.v (.lst k)] []=some (.ok (.v (.int ns.sum)) σ):=by
 have:aJ c cf σ (.builtin "sum") [.v (.lst k)] []=(Bv σ (.lst k)).map fun i=> .ok (.v (.int i)) σ:=rfl;rw[this];show((aI σ k).bind _).map _=_;rw[aN h];show((cU l).map _).map _=_;rw[hl];rfl
theorem bK{x:Str}{v:IV}(he:e= .Call (.Name x (ps (ch e 0))) [ch e 1] [] (ps e))(hg:cJ [ch e 1]=none)(hx:aR c en x=some (.val fv))(hc:(al [ch e 1]&&bJ c.K fv)=true)
 (h1:(lv c (n+1)).iv en σ (ch e 1)=some (.ok v KC)) (h2:aJ c (lv c (n+1)).cf KC fv [v] []=some (.ok (.v y) KG)):(lv c (n+2)).ev en σ e=some (.ok y KG):=
 ku (by rw[he];rfl) (cM he hg hx hc (kO (Gg.mp hc).1 h1) h2)
theorem xJ(he:e= .Call (.Name ("tuple":Str) (ps (ch e 0))) [ch e 1] [] (ps e))(hg:cJ [ch e 1]=none)(hx:aR c en "tuple"=some (.val (.type "tuple")))(hc:(al [ch e 1]&&bJ c.K (.type "tuple"))=true)(hi:aY (ch e 1)=false)
 (h1:(lv c n).ev en σ (ch e 1)=some (.ok (.lst σ.length) (σ++[aa.lst l]))) (hl:l.length≤2^20):(lv c (n+2)).ev en σ e=some (.ok (.tup l) (σ++[aa.lst l])):=
 bK he hg hx hc (bA hi h1) (jI (by exact G6) hl)
theorem wq{as:List α}{F:α→Int}(he:e= .Call (.Name ("sum":Str) (ps (ch e 0))) [ch e 1] [] (ps e))(hg:cJ [ch e 1]=none)(hx:aR c en "sum"=some (.val (.builtin "sum")))(hc:(al [ch e 1]&&bJ c.K (.builtin "sum"))=true)(hi:aY (ch e 1)=false)
 (h1:(lv c n).ev en σ (ch e 1)=some (.ok (.lst σ.length) (σ++[aa.lst (as.map fun a=>V.int (F a))]))):(lv c (n+2)).ev en σ e=some (.ok (.int (as.map F).sum) (σ++[aa.lst (as.map fun a=>V.int (F a))])):=
 bK he hg hx hc (bA hi h1) (yq (by exact G6) (iF as))
theorem ez{u:It}(he:e= .Call (.Name ("zip":Str) (ps (ch e 0))) [ch e 1,ch e 2] [] (ps e))(hg:cJ [ch e 1,ch e 2]=none)(hx:aR c en "zip"=some (.val (.type "zip")))(hc:(al [ch e 1,ch e 2]&&bJ c.K (.type "zip"))=true)(hi:aY (ch e 1)=false)(hj:aY (ch e 2)=false)
 (h1:(lv c n).ev en σ (ch e 1)=some (.ok x σ)) (h2:(lv c n).ev en σ (ch e 2)=some (.ok y σ)) (i1:aC σ (.v x)=some t) (i2:aC σ (.v y)=some u):(lv c (n+2)).iv en σ e=some (.ok (.it (.zip [t,u])) σ):=
 cM he hg hx hc (z9 (Gg.mp hc).1 (bA hi h1) (bA hj h2)) (oi i1 i2)
theorem oh{z:V}{u w:It}(he:e= .Call (.Name ("zip":Str) (ps (ch e 0))) [ch e 1,ch e 2,ch e 3] [] (ps e))(hg:cJ [ch e 1,ch e 2,ch e 3]=none)(hx:aR c en "zip"=some (.val (.type "zip")))(hc:(al [ch e 1,ch e 2,ch e 3]&&bJ c.K (.type "zip"))=true)(h0:al [ch e 1]=true)(hs:al [ch e 2,ch e 3]=true)(hi:aY (ch e 1)=false)(hj:aY (ch e 2)=false)(hk:aY (ch e 3)=false)
 (h1:(lv c n).ev en σ (ch e 1)=some (.ok x σ)) (h2:(lv c n).ev en σ (ch e 2)=some (.ok y σ)) (h3:(lv c n).ev en σ (ch e 3)=some (.ok z σ)) (i1:aC σ (.v x)=some t) (i2:aC σ (.v y)=some u) (i3:aC σ (.v z)=some w):(lv c (n+2)).iv en σ e=some (.ok (.it (.zip [t,u,w])) σ):=
 cM he hg hx hc (iv3 h0 hs (bA hi h1) (bA hj h2) (bA hk h3)) (yb i1 i2 i3)
end
section
variable {X:Xp}{S T M:V}{own:List (Str×V)}
theorem Fh(X:Xp):(D9.all fun x=>plainGet (cc X).K ag (Kn x)&&hasDictIn (cc X).K ag&&decide (findIn (cc X).K (.ref ag) (Kn x)=some none))=true:=by kernel_rfl
theorem oM{x:String}(hm:D9.contains x=true)(hk:σ[k]? =some (aa.dct (bc S T O M B)))(hf:eH (bc S T O M B) (Kn x)=some y)(hy:dg y=true):jo (cc X) σ (.inst ag k) (Kn x)=some (.val y):=by
 have:=GX.mp (Fh X) x (HP.mp hm);simp only[Gh,decide_eq_true_eq]at this
 refine rS hk (by rw[this.1.1,this.1.2];rfl) this.2 hf ?_
 rw[hy];rfl
theorem ba{x:String}(he:e= .Attribute (.Name ("self":Str) (ps (ch e 0))) (Kn x) (ps e))(hk:dP X a "self"=true)(hs:own.lookup ("self":Str)=some (.inst ag k))(hm:D9.contains x=true)(hc:σ[k]? =some (aa.dct (bc S T O M B)))(hf:eH (bc S T O M B) (Kn x)=some y)(hy:dg y=true):(lv (cc X) (n+2)).ev (ah X a own) σ e=some (.ok y σ):=by
 rw[he];exact ol rfl (fV (EI hk hs)) (oM hm hc hf hy)
theorem i6(he:e= .Call (.Attribute (.Name ("View":Str) (ps (ch (ch e 0) 0))) ("create":Str) (ps (ch e 0))) args [] (ps e))(hl:((ps (ch e 0)).endLine==(ps e).line&&decide (args.length+0<20)&&al args)=true)
 (hv:aR (cc X) (ah X a own) "View"=some (.val (.ref ag))) (h1:dW (lv (cc X) (n+1)).iv (ah X a own) σ args=some (.ok (xs.map .v) KC)) (p:σ<+:KC) (h:gh ((lv (cc X) (n+1)).cf KC 772 xs []) KC ss):gh ((lv (cc X) (n+2)).ev (ah X a own) σ e) σ ss:=by
 refine gb h fun KG T O M B q h2=> ?_
 refine⟨KG,T,O,M,B,p.trans q,ku (by rw[he];rfl) ?_⟩
 rw[he];have hs:=(Gg.mp hl).2
 refine gV (gU (fv:= .ref 772) (first:=[]) ?_ (fV hv) ⋯ (fC (xs:=xs.map .v) (ks:=[]) (by rw[hs];exact ac) h1 rfl (eL ⋯ h2)))
 rw[show∀x p,aU (.Name x p)=true from fun u_ u_=>rfl]
 exact Gs ((fun {a b}↦Bool.eq_and_self.mpr) fun a↦hl)
theorem j8{cls:String}(he:e= .Call (.Attribute (.Name ("View":Str) (ps (ch (ch e 0) 0))) ("create":Str) (ps (ch e 0))) args [] (ps e))(hl:((ps (ch e 0)).endLine==(ps e).line&&decide (args.length+0<20)&&al args)=true)
 (hv:aR (cc X) (ah X a own) "View"=some (.val (.ref ag))) (h1:dW (lv (cc X) (n+1)).iv (ah X a own) σ args=some (.ok (xs.map .v) KC)) (h:(lv (cc X) (n+1)).cf KC 772 xs []=some (.exc cls KG)):(lv (cc X) (n+2)).ev (ah X a own) σ e=some (.exc cls KG):=by
 rw[he];have hs:=(Gg.mp hl).2
 refine yy (o:= .exc cls KG) (gU (fv:= .ref 772) (first:=[]) ?_ (fV hv) ⋯ (fC (xs:=xs.map .v) (ks:=[]) (by rw[hs];exact ac) h1 rfl (gL ⋯ h))) rfl
 rw[show∀x p,aU (.Name x p)=true from fun u_ u_=>rfl]
 exact Gs ((fun {a b}↦Bool.eq_and_self.mpr) fun a↦hl)
theorem vv{s:Stmt}(hs:s= .Return (some (sx s 0)) (kB s))(h:gh ((lv (cc X) n).ev (ah X a own) σ (sx s 0)) σ ss):aH ((lv (cc X) (n+1)).exs (ah X a own) σ [s]) σ ss:=by
 refine gb h fun KG T O M B q h2=> ?_;exact⟨_,KG,T,O,M,B,q,aq (dA hs h2)⟩
theorem i9{s:Stmt}{cls:String}(hs:s= .Return (some (sx s 0)) (kB s))(h:(lv c n).ev en σ (sx s 0)=some (.exc cls KC)):aT c (lv c n) en σ s=some (.exc cls en KC):=
 (congrArg (aT c (lv c n) en σ) hs).trans (o8 h)
end
end
section
theorem Ai{s:Stmt}{x:Str}(hs:s= .Assign [.Name x xp] (.ListComp (ch (sx s 0) 0) [⟨ch (sx s 0) 1,ch (sx s 0) 2,ec (sx s 0),0⟩] (dG (sx s 0)) (ps (sx s 0))) (kB s))(he:iM (sx s 0))(hx:bH en x=true)(h:(lv c (n+1)).ev en σ (sx s 0)=some (.ok y KC)):aT c (lv c n) en σ s=some (.ok .next (en.set x y) KC):=by
 refine(congrArg (aT c (lv c n) en σ) hs).trans (xQ hx ?_);rw[he]at h;exact h
variable {X:Xp}{own:List (Str×V)}{S M Mk:V}{ts:List Int}{o:Int}{as ms:List (Int×Int)}
noncomputable def oq(u v:Int):Int:=if v<u then v else u
noncomputable def ou(u v:Int):Int:=if v>u then v else u
noncomputable def PB(k:Nat)(l:List (Int×Int)):Prop:= ∀p∈l,p.1.natAbs≤k∧p.2.natAbs≤k
noncomputable def IB(k:Nat)(l:List Int):Prop:= ∀t∈l,t.natAbs≤k
theorem r0(hself:own.lookup ("self":Str)=some (.inst ag k))(harg:own.lookup ("arg":Str)=some (vP as))(hv:σ[k]? =some (aa.dct (bc S (vI ts) (.int o) M B)))(hl:ts.length≤900)(ht:IB (2^20) ts)(ha:PB 2000 as)(n:Nat):
 ∃(z:Int) (ext:Sg),aT (cc X) (lv (cc X) (n+20)) (ah X 800 own) σ (St X 800 0)=some (.ok .next (ah X 800 (("offset",.int z)::own)) (σ++ext)):=by
 refine⟨_,_,cm (x:="offset") (xp:=ps (sx (St X 800 0) 1)) rfl ac ac (wq (as:=ts.zip as) (F:=fun p=>p.1*p.2.1) rfl rfl rfl ac aA
  (bN (S:=fun u_=>True) (x:= .it (.zip [.seq (ts.map V.int) 0,.seq (as.map pP) 0])) (t:= .zip [.seq (ts.map V.int) 0,.seq (as.map pP) 0]) (as:=ts.zip as) (f:=fun p=> .tup [.int p.1,pP p.2]) (b:=fun p=>[("x",pP p.2),("s",.int p.1)]) (P:=fun u_=>True) rfl rfl ac
   (ez (x:=vI ts) (y:=vP as) ⋯ rfl rfl ⋯ aA aA (ba (x:="strides") ⋯ ac hself rfl hv rfl rfl) (aV rfl ac harg) rfl rfl) rfl (fun u_=>trivial)
   (bb (ai _ _) (ai _ _)) (by rw[GQ];exact r7 ‹_› (by exact ac)) trivial (fun p hp own acc u_=>⟨trivial,by kernel_rfl,cG rfl rfl ⋯ (gK (be (ht _ (GS hp).1) (by decide)) (be (ha _ (GS hp).2).1 (by decide)))⟩)))⟩
noncomputable abbrev d1(X:Xp)(i:Nat):=si (aj (St X 800 1)) i
noncomputable def ki(ms as:List (Int×Int)):List (Int×Int):=(ms.zip as).map fun p=>(ou 0 (oq (p.1.1-p.2.1) (p.2.2-p.2.1)),ou 0 (oq (p.1.2-p.2.1) (p.2.2-p.2.1)))
noncomputable def qb(ms as:List (Int×Int)):List (Int×Int):=(ms.zip as).map fun p=>(ou p.1.1 p.2.1,oq p.1.2 p.2.2)
theorem un{as:List α}{F:α→Int×Int}(he:e= .Call (.Name ("tuple":Str) (ps (ch e 0))) [ch e 1] [] (ps e))(hg:cJ [ch e 1]=none)(hx:aR c en "tuple"=some (.val (.type "tuple")))(hc:(al [ch e 1]&&bJ c.K (.type "tuple"))=true)(hi:aY (ch e 1)=false)(hl:as.length≤900)
 (h1:(lv c n).ev en σ (ch e 1)=some (.ok (.lst σ.length) (σ++[aa.lst (as.map fun a=>pP (F a))]))):(lv c (n+2)).ev en σ e=some (.ok (vP (as.map F)) (σ++[aa.lst (as.map fun a=>pP (F a))])):=by
 have:=xJ he hg hx hc hi h1 (by rw[GM];exact bg ‹_› (by exact ac))
 rw[this,vP,G_];rfl
theorem r10(hself:own.lookup ("self":Str)=some (.inst ag k))(harg:own.lookup ("arg":Str)=some (vP as))(hv:σ[k]? =some (aa.dct (bc S (vI ts) (.int o) (vP ms) B)))(hl:ms.length≤900)(n:Nat):
 ∃ext:Sg,aT (cc X) (lv (cc X) (n+20)) (ah X 800 own) σ (d1 X 0)=some (.ok .next (ah X 800 (("nmask",vP (ki ms as))::own)) (σ++ext)):=
 ⟨_,cm (x:="nmask") (xp:=ps (sx (d1 X 0) 1)) rfl ac ac (un (as:=ms.zip as) (F:=fun p=>(ou 0 (oq (p.1.1-p.2.1) (p.2.2-p.2.1)),ou 0 (oq (p.1.2-p.2.1) (p.2.2-p.2.1)))) rfl rfl rfl ac aA (by rw[GQ];exact wA ‹_› (by exact ac))
  (bN (S:=fun u_=>True) (x:= .it (.zip [.seq (ms.map pP) 0,.seq (as.map pP) 0])) (t:= .zip [.seq (ms.map pP) 0,.seq (as.map pP) 0]) (as:=ms.zip as) (f:=fun p=> .tup [pP p.1,pP p.2]) (b:=fun p=>[("ay",.int p.2.2),("ax",.int p.2.1),("my",.int p.1.2),("mx",.int p.1.1)]) (P:=fun u_=>True) ⋯ rfl ⋯
   (ez (x:=vP ms) (y:=vP as) ⋯ rfl rfl ⋯ aA ⋯ (ba (x:="mask") ⋯ ac hself rfl hv rfl rfl) (aV (x:="arg") ⋯ ac harg) rfl rfl) rfl (fun u_=>trivial)
   (bb (ai _ _) (ai _ _)) (by rw[GQ];exact r7 ‹_› (by exact ac)) trivial (fun p hp own acc u_=>⟨trivial,by kernel_rfl,by kernel_rfl⟩)))⟩
noncomputable abbrev u2(X:Xp):=sx (d1 X 1) 0
theorem r11{nm:List (Int×Int)}(hn:own.lookup ("nmask":Str)=some (vP nm))(hm:own.lookup ("mask":Str)=some Mk)(hM:Mk= .none∨ ∃ms,Mk=vP ms)(hl:nm.length≤900)(n:Nat):
 ∃(ms':List (Int×Int)) (ext:Sg),(ms'=nm∨ ∃ms,Mk=vP ms∧ms'=qb nm ms)∧aT (cc X) (lv (cc X) (n+30)) (ah X 800 own) σ (d1 X 1)=some (.ok .next (ah X 800 (("mask",vP ms')::own)) (σ++ext)):=by
 have t:(lv (cc X) (n+29)).tr (ah X 800 own) σ (ch (u2 X) 0)=some (.ok (!aX Mk) σ):=
  bx (op:= .IsNot) (KC:=σ) (x:=Mk) (y:= .none) rfl aA (aV (x:="mask") rfl ac hm) rfl rfl
 rcases hM with rfl|⟨ms,rfl⟩
 ·refine⟨nm,[],.inl rfl,?_⟩;have:=cm (c:=cc X) (σ:=σ) (KC:=σ) (en:=ah X 800 own) (s:=d1 X 1) (x:="mask") (xp:=ps (sx (d1 X 1) 1)) (y:=vP nm) rfl ac ac (tN rfl t (aV (x:="nmask") rfl ac hn));rw[G2];exact this
 ·refine⟨qb nm ms,[aa.lst ((nm.zip ms).map fun p=>pP (ou p.1.1 p.2.1,oq p.1.2 p.2.2))],.inr ⟨ms,rfl,rfl⟩,?_⟩
  exact cm (x:="mask") (xp:=ps (sx (d1 X 1) 1)) rfl ac ac (uh rfl t (un (as:=nm.zip ms) (F:=fun p=>(ou p.1.1 p.2.1,oq p.1.2 p.2.2)) rfl rfl rfl ac aA (by rw[GQ];exact wA ‹_› (by exact ac))
   (bN (S:=fun u_=>True) (x:= .it (.zip [.seq (nm.map pP) 0,.seq (ms.map pP) 0])) (t:= .zip [.seq (nm.map pP) 0,.seq (ms.map pP) 0]) (as:=nm.zip ms) (f:=fun p=> .tup [pP p.1,pP p.2]) (b:=fun p=>[("my2",.int p.2.2),("mx2",.int p.2.1),("my1",.int p.1.2),("mx1",.int p.1.1)]) (P:=fun u_=>True) ⋯ rfl ⋯
    (ez (x:=vP nm) (y:=vP ms) ⋯ rfl rfl ⋯ ⋯ ⋯ (aV (x:="nmask") ⋯ ac hn) (aV (x:="mask") ⋯ ac hm) rfl rfl) rfl (fun u_=>trivial)
    (bb (ai _ _) (ai _ _)) (by rw[GQ];exact r7 ‹_› (by exact ac)) trivial (fun p hp own acc u_=>⟨trivial,by kernel_rfl,by kernel_rfl⟩))))
noncomputable abbrev eQ(as:List (Int×Int)):List Int:=as.map fun p=>p.2-p.1
theorem r2(harg:own.lookup ("arg":Str)=some (vP as))(hl:as.length≤900)(n:Nat):aT (cc X) (lv (cc X) (n+20)) (ah X 800 own) σ (St X 800 2)=some (.ok .next (ah X 800 (("shape",.lst σ.length)::own)) (σ++[aa.lst ((eQ as).map V.int)])):=by
 refine Ai rfl rfl ac ?_;rw[eQ,G_];exact bN (S:=fun u_=>True) (t:= .seq (as.map pP) 0) (as:=as) (f:=pP) (b:=fun p=>[("y",.int p.2),("x",.int p.1)]) (P:=fun u_=>True) (F:=V.int∘fun p=>p.2-p.1) rfl rfl ac (bA aA (aV rfl ac harg)) rfl (fun u_=>trivial)
  (ai _ _) (fH ‹_› (by exact ac)) trivial (fun p hp own acc u_=>⟨trivial,rfl,rfl⟩)
theorem r3(hm:own.lookup ("mask":Str)=some Mk)(hM:Mk= .none∨ ∃ms,Mk=vP ms∧ms.length≤900)(hs:own.lookup ("shape":Str)=some (.lst j))(hj:σ[j]? =some (aa.lst (ss.map V.int)))(n:Nat):
 ∃own',(own'=own∨own'=(("mask":Str),V.none)::own)∧aT (cc X) (lv (cc X) (n+20)) (ah X 800 own) σ (St X 800 3)=some (.ok .next (ah X 800 own') σ):=by
 have t0:(lv (cc X) (n+19)).tr (ah X 800 own) σ (ch (sx (St X 800 3) 0) 0)=some (.ok (!aX Mk) σ):=
  bx rfl aA (aV rfl ac hm) rfl rfl
 rcases hM with rfl|⟨ms,rfl,hl⟩
 ·exact⟨own,.inl rfl,dy rfl (lx (a:=false) (b:=true) rfl t0 (fun h=>by exact bM h)) rfl⟩
 have t:(lv (cc X) (n+20)).tr (ah X 800 own) σ (sx (St X 800 3) 0)=some (.ok (true&&(ms.zip ss).all fun p=>(p.1.1==0)&&(p.1.2==p.2)) σ):=
  lx rfl t0 fun u_=>dz ac (iz (S:=fun KB=>KB=σ) (t:= .zip [.seq (ms.map pP) 0,.lst j 0]) (as:=ms.zip ss) (f:=fun p=> .tup [pP p.1,.int p.2]) (b:=fun p=>[("s",.int p.2),("m",pP p.1)]) (F:=fun p=> .bool ((p.1.1==0)&&(p.1.2==p.2)))
   ⋯ ⋯ rfl (ez ⋯ rfl rfl ⋯ ⋯ aA (aV (x:="mask") ⋯ ac hm) (aV (x:="shape") ⋯ ac hs) rfl (fJ hj)) rfl rfl (bb (ai _ _) (eu fun KB q=>by rw[q];exact hj)) (by rw[GQ];exact r7 ‹_› (by exact ac))
   (fun p u_ own=>⟨by kernel_rfl,rg ⋯ ⋯ (fun u_=>by kernel_rfl)⟩) (fun u_ u_=>rfl)) rfl
 cases hb:(true&&(ms.zip ss).all fun p=>(p.1.1==0)&&(p.1.2==p.2))with
 |false=>
  rw[hb]at t;exact⟨own,.inl rfl,dy rfl t rfl⟩
 |true=>
  rw[hb]at t;exact⟨_,.inr rfl,eM rfl t rfl⟩
noncomputable abbrev u4(X:Xp):=sx (St X 800 4) 0
theorem r4(hself:own.lookup ("self":Str)=some (.inst ag k))(hv:σ[k]? =some (aa.dct (bc S (vI ts) (.int o) M B)))(hm:own.lookup ("mask":Str)=some Mk)(ho:own.lookup ("offset":Str)=some (.int z))(hs:own.lookup ("shape":Str)=some (.lst j))(hj:σ[j]? =some (aa.lst (ss.map V.int)))
 (hl:bU ss) (h0:ss≠[]) (hp: ∀s∈ss,0≤s) (hA:rz ss (vI ts) Mk) (n:Nat):aH ((lv (cc X) (n+60)).exs (ah X 800 own) σ [St X 800 4]) σ ss:=by
 have hl4:=hl.1;refine vv rfl (i6 (args:=[ch (u4 X) 1,ch (u4 X) 2,ch (u4 X) 3,ch (u4 X) 4]) (xs:=[vI ss,vI ts,.int (o+z),Mk]) rfl ac rfl ?_ (GU _) (kF hl h0 hp hA (n+6)))
 refine aO ac (zL ac ?_) (aO ac (bA aA (ba rfl ac hself rfl hv rfl rfl))
  (aO ac (bA aA (cG rfl (ba rfl ac hself rfl hv rfl rfl) (aV rfl ac ho) rfl))
   (aO ac (bA aA (aV rfl ac hm)) fS)))
 exact hV (S:=fun KB=>KB=σ) (t:= .lst j 0) (as:=ss) (f:=V.int) (b:=fun a=>[("s",.int a)]) (F:=V.int) ⋯ ⋯ rfl (bA aA (aV rfl ac hs)) (fJ hj) rfl (eu fun KB q=>by rw[q];exact hj) (fH ‹_› (by exact ac))
  (fun a u_ own=>⟨by kernel_rfl,by kernel_rfl⟩) (fun u_ u_=>rfl)
theorem kX{u v:Int}(h:u.natAbs≤k)(h':v.natAbs≤k):(oq u v).natAbs≤k:=by unfold oq;split<;>assumption
theorem lN{u v:Int}(h:u.natAbs≤k)(h':v.natAbs≤k):(ou u v).natAbs≤k:=by unfold ou;split<;>assumption
theorem yp(h1:PB 2000 ms)(h2:PB 2000 as):PB 4000 (ki ms as):=by
 intro p hp;unfold ki at hp;refine aK (G0.mp hp) fun q hq zz2=> ?_;subst zz2;have a:=h1 _ (GS hq).1;have b:=h2 _ (GS hq).2
 exact⟨lN (by exact H9 _) (kX (Cs (Gb ‹_›) (Gb ‹_›) (by exact ac)) (Cs (Gc ‹_›) (Gb ‹_›) (by exact ac))),lN (by exact H9 _) (kX (Cs (Gc ‹_›) (Gb ‹_›) (by exact ac)) (Cs (Gc ‹_›) (Gb ‹_›) (by exact ac)))⟩
theorem yD(h1:PB 4000 ms)(h2:PB 4000 as):PB 4000 (qb ms as):=by
 intro p hp;unfold qb at hp;refine aK (G0.mp hp) fun q hq zz2=> ?_;subst zz2;have a:=h1 _ (GS hq).1;have b:=h2 _ (GS hq).2;exact⟨lN a.1 b.1,kX a.2 b.2⟩
structure eR(σ:Sg)(k:Nat)(ss ts:List Int)(o:Int)(M B:V):Prop where
 at_:σ[k]? =some (aa.dct (bc (vI ss) (vI ts) (.int o) M B))
 lt:ts.length=ss.length
 ib:IB (2^20) ts
 mq:M= .none∨ ∃ms,M=vP ms∧ms.length=ss.length∧PB 2000 ms
theorem eR.app{ts:List Int}{o:Int}{M:V}(h:eR σ k ss ts o M B)(p:σ<+:KB):eR KB k ss ts o M B:=⟨je p h.at_,h.lt,h.ib,h.mq⟩
theorem Br(hv:eR σ k ss ts o M B)(hl:ss.length≤4)(h0:ss≠[])(ha:as.length=ss.length)(hb:PB 2000 as)(hM:Mk= .none∨ ∃ms,Mk=vP ms∧ms.length=ss.length∧PB 2000 ms)(hs: ∀s∈eQ as,0≤s∧s≤1000)(n:Nat):
 aH ((lv (cc X) (n+60)).exs (ah X 800 [("mask",Mk),("arg",vP as),("self",.inst ag k)]) σ (aD X 800)) σ (eQ as):=by
 have e3:=hv.lt
 rw[show aD X 800=[St X 800 0,St X 800 1,St X 800 2,St X 800 3,St X 800 4]from rfl]
 refine qK (r0 (X:=X) (own:=[("mask",Mk),("arg",vP as),("self",.inst ag k)]) rfl rfl hv.at_ (dH ‹_› ‹_› (by exact ac)) hv.ib hb (n+39)) fun z ext h1=> ?_
 refine aH.next h1 (GO _ _) ?_;have f9:=hv.app (GO σ ext);generalize σ++ext=Lk at f9⊢;have key: ∀(own':List (Str×V)) (Lw:Sg) (Mk':V),Lk<+:Lw→own'.lookup ("self":Str)=some (.inst ag k)→own'.lookup ("arg":Str)=some (vP as)→own'.lookup ("offset":Str)=some (.int z)→own'.lookup ("mask":Str)=some Mk'→(Mk'= .none∨ ∃ms,Mk'=vP ms∧ms.length=ss.length∧PB 4000 ms)→
  aH ((lv (cc X) (n+60)).exs (ah X 800 own') Lw [St X 800 2,St X 800 3,St X 800 4]) Lw (eQ as):=by
  intro own' Lw Mk' p a1 a2 a3 a4 hM';have oK:=f9.app p
  refine aH.next (r2 a2 (dH ‹_› ‹_› (by exact ac)) (n+39)) (GO _ _) ?_
  have hj:(Lw++[aa.lst ((eQ as).map V.int)])[Lw.length]? =some (aa.lst ((eQ as).map V.int)):=by exact G6
  have hv3:=oK.app (GO Lw [aa.lst ((eQ as).map V.int)])
  refine aK (r3 (X:=X) (own:=("shape",.lst Lw.length)::own') (Mk:=Mk') a4 (hM'.imp id fun h'=>bW h' fun ms e l u_=>⟨ms,e,by exact dH ‹_› ‹_› (by exact ac)⟩) rfl hj (n+39)) fun own2 hd h2=> ?_
  refine aH.next h2 (GU _) ?_
  have S1:bU (eQ as):=⟨by rw[GM];exact dH ‹_› ‹_› (by exact ac),fun s q=>by have:=hs s q;exact qA ‹_› (by exact ac)⟩
  have S0:eQ as≠[]:=fun q=>h0 (G' (by rw[←ha,←GM (f:=fun p:Int×Int=>p.2-p.1)];exact congrArg List.length q))
  have lt':ts.length=(eQ as).length:=by rw[GM];exact Gr ‹_› (Gs ‹_›)
  have ib': ∀t∈ts,t.natAbs≤2^30:=fun t q=>HV (hv.ib t q) (by decide)
  rcases hd with rfl|rfl
  ·exact r4 (own:=("shape",.lst Lw.length)::own') a1 hv3.at_ a4 a3 rfl hj S1 S0 (fun s q=>(hs s q).1) (.inr ⟨ts,rfl,lt',hM'.imp id fun h'=>bW h' fun ms e l q=>⟨ms,e,by rw[GM];exact Gr ‹_› (Gs ‹_›),ib',fun m hm=>HV (q m hm).1 (by decide)⟩⟩) n
  ·exact r4 (own:=("mask",V.none)::("shape",.lst Lw.length)::own') a1 hv3.at_ rfl a3 rfl hj S1 S0 (fun s q=>(hs s q).1) (.inr ⟨ts,rfl,lt',.inl rfl⟩) n
 have t1:(lv (cc X) (n+59)).tr (ah X 800 [("offset",.int z),("mask",Mk),("arg",vP as),("self",.inst ag k)]) Lk (sx (St X 800 1) 0)=(bq Lk M).map fun b=> .ok b Lk:=by
  rcases hv.mq with rfl|⟨ms,rfl,l,_⟩
  ·exact dz ac (ba rfl ac rfl rfl f9.at_ rfl rfl) rfl
  ·as_aux_lemma=>
    have q:bq Lk (vP ms)=some (!(ms.map pP).isEmpty):=fx (by rw[GM];exact dH ‹_› ‹_› (by exact ac))
    rw[q]
    exact dz ac (ba rfl ac rfl rfl f9.at_ rfl rfl) q
 rcases hv.mq with rfl|⟨ms,rfl,l,hp⟩
 ·exact aH.next (dy rfl t1 rfl) (GU _) (key [("offset",.int z),("mask",Mk),("arg",vP as),("self",.inst ag k)] Lk Mk (GU _) rfl rfl rfl rfl (hM.imp id fun h'=>bW h' fun ms e l q=>⟨ms,e,l,fun m hm=>⟨HV (q m hm).1 (by exact H3 ..),HV (q m hm).2 (by exact H3 ..)⟩⟩))
 ·have q:bq Lk (vP ms)=some true:=by
   rw[fx (by rw[GM];exact dH ‹_› ‹_› (by exact ac))]
   cases ms with
   |nil=>exact absurd (G' l.symm) h0
   |cons=>rfl
  rw[q]at t1
  have lc:(ki ms as).length=ss.length:=by unfold ki;rw[GM,GQ];exact mq ‹_› ‹_›
  refine oE (r10 (X:=X) (own:=[("offset",.int z),("mask",Mk),("arg",vP as),("self",.inst ag k)]) rfl rfl f9.at_ (dH ‹_› ‹_› (by exact ac)) (n+38)) fun x1 k1=> ?_
  refine bf (r11 (X:=X) (σ:=Lk++x1) (own:=[("nmask",vP (ki ms as)),("offset",.int z),("mask",Mk),("arg",vP as),("self",.inst ag k)]) (Mk:=Mk) rfl rfl (hM.imp id fun h'=>aK h' fun ms e u_=>⟨ms,e⟩) (dH ‹_› ‹_› (by exact ac)) (n+28)) fun ms' x2 hm' k2=> ?_
  refine aH.next (en':=ah X 800 [("mask",vP ms'),("nmask",vP (ki ms as)),("offset",.int z),("mask",Mk),("arg",vP as),("self",.inst ag k)]) (KB:=Lk++x1++x2) (eM rfl t1 ?_) ((GO _ _).trans (GO _ _)) (key [("mask",vP ms'),("nmask",vP (ki ms as)),("offset",.int z),("mask",Mk),("arg",vP as),("self",.inst ag k)] _ (vP ms') ((GO _ _).trans (GO _ _)) rfl rfl rfl rfl (.inr ⟨ms',rfl,?_⟩))
  ·rw[show aj (St X 800 1)=[d1 X 0,d1 X 1]from rfl]
   exact ab k1 (aq k2)
  ·as_aux_lemma=>
    have c:=yp hp hb
    rcases hm' with rfl|⟨ms2,e,rfl⟩
    ·exact⟨lc,c⟩
    ·rcases hM with rfl|⟨ms3,rfl,l3,q3⟩
     ·cases e
     ·obtain rfl:ms3=ms2:=by
       have:=V.tup.inj e
       have inj: ∀a b:List (Int×Int),a.map pP=b.map pP→a=b:=fun a b h=>(List.map_inj_right (fun x y h=>by cases x;cases y;cases h;rfl)).mp h
       exact inj _ _ this
      exact⟨by unfold qb;rw[GM,GQ];exact mq ‹_› ‹_›,yD c fun m hm=>⟨HV (q3 m hm).1 (by exact H3 ..),HV (q3 m hm).2 (by exact H3 ..)⟩⟩
end
section
section
theorem AZ{vs:List IV}{ks:List (Str×V)}{o:aG IV}(he:e= .Call (.Attribute (ch (ch e 0) 0) name (ps (ch e 0))) args (yP e) (ps e))(hp:(aU (ch (ch e 0) 0)&&(ps (ch e 0)).endLine==(ps e).line&&decide (args.length+(yP e).length<20)&&al args&&iq (yP e))=true)
 (hx:(lv c n).ev en σ (ch (ch e 0) 0)=some (.ok x KC)) (hm:iw c KC x name=some (fv,first)) (hc:bJ c.K fv=true) (h1:dW (lv c n).iv en KC args=some (.ok vs KG)) (hk:uo (lv c n).ev en KG (yP e)=some (.ok ks KG)) (h2:aJ c (lv c n).cf KG fv (first.map .v++vs) ks=some o):(lv c (n+1)).iv en σ e=some o:=by
 refine(congrArg ((lv c (n+1)).iv en σ) he).trans ?_;have h3:=Gg.mp hp;have h4:=Gg.mp h3.1
 exact gV (gU hp hx hm (fC (xs:=vs) (ks:=ks) (by rw[h4.2,h3.2,hc];rfl) h1 hk h2))
theorem FY{w x y:Int}(he:e= .Compare (ch e 0) [.LtE,.LtE,.LtE] [ch e 1,ch e 2,ch e 3] (ps e))(hm:lastMarks [.LtE,.LtE,.LtE] [ch e 1,ch e 2,ch e 3]=false)(h0:(lv c n).ev en σ (ch e 0)=some (.ok (.int w) σ))(h1:(lv c n).ev en σ (ch e 1)=some (.ok (.int x) σ))(h2:(lv c n).ev en σ (ch e 2)=some (.ok (.int y) σ))(h3:(lv c n).ev en σ (ch e 3)=some (.ok (.int z) σ)):
 (lv c (n+1)).ev en σ e=some (.ok (.bool (decide (w≤x)&&(decide (x≤y)&&decide (y≤z)))) σ):=by
 refine(congrArg ((lv c (n+1)).ev en σ) he).trans ?_;refine(?_:gN (lv c n).ev en σ (ch e 0) [.LtE,.LtE,.LtE] [ch e 1,ch e 2,ch e 3]=_);have c1:eh σ .LtE (.int w) (.int x)=some (decide (w≤x)):=rfl;have c2:eh σ .LtE (.int x) (.int y)=some (decide (x≤y)):=rfl;have c3:eh σ .LtE (.int y) (.int z)=some (decide (y≤z)):=rfl
 refine(if_neg (by rw[hm];exact Gi):(if lastMarks [.LtE,.LtE,.LtE] [ch e 1,ch e 2,ch e 3]=true then none else aw ((lv c n).ev en σ (ch e 0)) _)=_).trans ?_
 rw[h0];refine fX h1 c1 ?_
 cases decide (w≤x)with
 |false=>rfl
 |true=>
  refine fX h2 c2 ?_
  cases decide (x≤y)with
  |false=>rfl
  |true=>exact hH h3 c3
end
section
variable {X:Xp}{S T M:V}{own:List (Str×V)}
noncomputable def y8(X:Xp)(C:Addr)(name:Str)(f:Addr):Bool:=decide (findIn (cc X).K (.ref C) "__getattribute__"=some (some (.builtin "object.__getattribute__")))&&decide (findIn (cc X).K (.ref C) "__getattr__"=some none)&&decide (findIn (cc X).K (.ref C) name=some (some (.ref f)))&&decide (typeIn (cc X).K (.ref f)=some (.type "function"))
theorem jp{f:Addr}(hk:σ[k]? =some (aa.dct fs))(hn:(eH fs name).isNone=true)(h:y8 X C name f=true):iw (cc X) σ (.inst C k) name=some (.ref f,[.inst C k]):=by
 unfold y8 at h;simp only[Gh,decide_eq_true_eq]at h;refine dw fun kk=> ?_;obtain⟨⟨⟨h1,h2⟩,h3⟩,h4⟩:=h<;>(refine kk ?_;clear kk)
 show(fL σ k).bind _=_;rw[l0 hk]
 show(if _ then _ else none)=_
 rw[if_pos ⟨h1,h2,hn⟩,h3];exact if_pos h4
theorem kC(he:e= .Call (.Name ("len":Str) (ps (ch e 0))) [ch e 1] [] (ps e))(hg:cJ [ch e 1]=none)(hx:aR (cc X) (ah X a own) "len"=some (.val (.builtin "len")))(hc:al [ch e 1]=true)(hi:aY (ch e 1)=false)(h1:(lv (cc X) n).ev (ah X a own) σ (ch e 1)=some (.ok (.tup l) σ))(hl:l.length≤2^20):(lv (cc X) (n+2)).ev (ah X a own) σ e=some (.ok (.int l.length) σ):=
 bK he hg hx (by rw[hc];exact ac) (bA hi h1) (nS hl)
end
noncomputable def gI(r:Option (aG V))(σ:Sg)(ss:List Int):Prop:= ∃k KB T O M B,σ<+:KB∧r=some (.ok (.inst ag k) KB)∧KB[k]? =some (aa.dct (bc (vI ss) T O M B))
variable {X:Xp}{own:List (Str×V)}{S M Mk:V}{ts:List Int}{o:Int}{as ms:List (Int×Int)}
noncomputable abbrev p0(X:Xp):=sx (St X 805 0) 0
noncomputable def lW(as:List (Int×Int)):Bool:=as.all fun p=>decide (0≤p.1)&&decide (0≤p.2)
noncomputable abbrev eS(k:Nat)(arg:V):List (Str×V):=[("arg",arg),("self",.inst ag k)]
theorem D3(hv:eR σ k ss ts o M B)(hl:ss.length≤900)(ha:as.length≤900)(n:Nat):(lv (cc X) (n+20)).tr (ah X 805 (eS k (vP as))) σ (p0 X)=some (.ok (lW as&&(as.length:Int)==(ss.length:Int)) σ):=
 lx rfl (dz ac (iz (S:=fun u_=>True) (x:= .v (vP as)) (t:= .seq (as.map pP) 0) (as:=as) (f:=pP) (b:=fun p=>[("e",.int p.2),("b",.int p.1)]) (F:=fun p=> .bool (decide (0≤p.1)&&decide (0≤p.2))) ⋯ ⋯ rfl
  (bA aA (aV (x:="arg") rfl ac rfl)) rfl trivial (ai _ _) (fH ‹_› (by exact ac)) (fun p u_ own=>⟨by kernel_rfl,rg ⋯ rfl (fun u_=>by kernel_rfl)⟩) (fun u_ u_=>rfl)) rfl)
  (fun u_=>by
   have e1:((as.map pP).length:Int)=as.length:=by rw[GM]
   have e2:((ss.map V.int).length:Int)=ss.length:=by rw[GM]
   rw[←e1,←e2]
   exact bx (op:= .Eq) (KC:=σ) (x:= .int _) (y:= .int _) rfl aA (kC (l:=as.map pP) rfl rfl rfl ac aA (aV (x:="arg") rfl ac rfl) (by rw[GM];exact bg ‹_› (by exact ac)))
    (kC (l:=ss.map V.int) rfl rfl rfl ac aA (ba (x:="shape") ⋯ ac rfl rfl hv.at_ rfl rfl) (by rw[GM];exact bg ‹_› (by exact ac))) rfl)
noncomputable abbrev y0(X:Xp)(i:Nat):=si (aj (St X 805 1)) i
theorem F9(n:Nat)(ha:as.length≤900):(lv (cc X) (n+20)).tr (ah X 805 (eS k (vP as))) σ (sx (St X 805 1) 0)=some (.ok (as.any fun p=>p.1 !=0||p.2 !=0) σ):=
 dz ac (Aw (S:=fun u_=>True) (t:= .seq (as.map pP) 0) (as:=as) (f:=pP) (b:=fun p=>[("e",.int p.2),("b",.int p.1)]) (F:=fun p=>bif p.1 !=0 then .int p.1 else .int p.2) (q:=fun p=>p.1 !=0||p.2 !=0) rfl ⋯ rfl
  (bA aA (aV rfl ac rfl)) rfl trivial (ai _ _) (fH ‹_› (by exact ac)) (fun p u_ own=>⟨by kernel_rfl,CU rfl rfl rfl (fun u_=>rfl)⟩)
  (fun p u_=>by cases h:p.1 !=0 with|false=>exact rfl|true=>exact congrArg some h)) rfl
noncomputable def uO(ss:List Int)(as:List (Int×Int)):List (Int×Int):=(ss.zip as).map fun p=>(-p.2.1,p.1+p.2.2)
noncomputable def Ca(ss:List Int)(as:List (Int×Int)):List (Int×Int):=(ss.zip as).map fun p=>(p.2.1,p.1+p.2.1)
theorem FG(hv:eR σ k ss ts o M B)(hl:ss.length≤900)(n:Nat): ∃ext:Sg,aT (cc X) (lv (cc X) (n+20)) (ah X 805 (eS k (vP as))) σ (y0 X 0)=some (.ok .next (ah X 805 (("zvarg",vP (uO ss as))::eS k (vP as))) (σ++ext)):=
 ⟨_,cm (x:="zvarg") (xp:=ps (sx (y0 X 0) 1)) rfl ac ac (un (as:=ss.zip as) (F:=fun p=>(-p.2.1,p.1+p.2.2)) rfl rfl rfl ac aA (by rw[GQ];exact wA ‹_› (by exact ac))
  (bN (S:=fun u_=>True) (x:= .it (.zip [.seq (ss.map V.int) 0,.seq (as.map pP) 0])) (t:= .zip [.seq (ss.map V.int) 0,.seq (as.map pP) 0]) (as:=ss.zip as) (f:=fun p=> .tup [.int p.1,pP p.2]) (b:=fun p=>[("e",.int p.2.2),("b",.int p.2.1),("s",.int p.1)]) (P:=fun u_=>True) ⋯ rfl ⋯
   (ez (x:=vI ss) (y:=vP as) ⋯ rfl rfl ⋯ ⋯ ⋯ (ba (x:="shape") ⋯ ac rfl rfl hv.at_ rfl rfl) (aV (x:="arg") ⋯ ac rfl) rfl rfl) rfl (fun u_=>trivial)
   (bb (ai _ _) (ai _ _)) (by rw[GQ];exact r7 ‹_› (by exact ac)) trivial (fun p hp own acc u_=>⟨trivial,by kernel_rfl,by kernel_rfl⟩)))⟩
theorem Ga{z:V}(hv:eR σ k ss ts o M B)(hl:ss.length≤900)(n:Nat): ∃ext:Sg,aT (cc X) (lv (cc X) (n+20)) (ah X 805 (("zvarg",z)::eS k (vP as))) σ (y0 X 1)=some (.ok .next (ah X 805 (("mask",vP (Ca ss as))::("zvarg",z)::eS k (vP as))) (σ++ext)):=
 ⟨_,cm (x:="mask") (xp:=ps (sx (y0 X 1) 1)) rfl ac ac (un (as:=ss.zip as) (F:=fun p=>(p.2.1,p.1+p.2.1)) rfl rfl rfl ac aA (by rw[GQ];exact wA ‹_› (by exact ac))
  (bN (S:=fun u_=>True) (x:= .it (.zip [.seq (ss.map V.int) 0,.seq (as.map pP) 0])) (t:= .zip [.seq (ss.map V.int) 0,.seq (as.map pP) 0]) (as:=ss.zip as) (f:=fun p=> .tup [.int p.1,pP p.2]) (b:=fun p=>[("_",.int p.2.2),("b",.int p.2.1),("s",.int p.1)]) (P:=fun u_=>True) ⋯ rfl ⋯
   (ez (x:=vI ss) (y:=vP as) ⋯ rfl rfl ⋯ ⋯ ⋯ (ba (x:="shape") ⋯ ac rfl rfl hv.at_ rfl rfl) (aV (x:="arg") ⋯ ac rfl) rfl rfl) rfl (fun u_=>trivial)
   (bb (ai _ _) (ai _ _)) (by rw[GQ];exact r7 ‹_› (by exact ac)) trivial (fun p hp own acc u_=>⟨trivial,by kernel_rfl,by kernel_rfl⟩)))⟩
end
section
noncomputable def dh(r:Option (aG V))(σ:Sg):Prop:= ∃cls KB,(cls="AssertionError"∨cls="ValueError")∧σ<+:KB∧r=some (.exc cls KB)
theorem dh.el{r:Option (aG V)}(h:dh r σ)(k: ∀cls KB,(cls="AssertionError"∨cls="ValueError")→σ<+:KB→r=some (.exc cls KB)→G):G:=by
 obtain⟨a,b,c,d,e⟩:=h;exact k a b c d e
theorem cK{x:aa}:(σ++[x])[σ.length]? =some x:=by exact G6
theorem bO{l:List Stmt}{cls:String}(h:aT c (lv c n) en σ st=some (.exc cls en' KB)):(lv c (n+1)).exs en σ (st::l)=some (.exc cls en' KB):=by
 show(aT c (lv c n) en σ st).bind _=_;rw[h];rfl
theorem bk{l:List Stmt}{v:V}(h:aT c (lv c n) en σ st=some (.ok (.ret v) en' KB)):(lv c (n+1)).exs en σ (st::l)=some (.ok (.ret v) en' KB):=by
 show(aT c (lv c n) en σ st).bind _=_;rw[h];rfl
variable {X:Xp}{own:List (Str×V)}{S M Mk:V}{ts:List Int}{o:Int}{as ms:List (Int×Int)}
theorem sF(hv:eR σ k ss ts o M B)(hl:ss.length≤4)(h0:ss≠[])(ha:as.length=ss.length)(hb:PB 2000 as)(hM:Mk= .none∨ ∃ms,Mk=vP ms∧ms.length=ss.length∧PB 2000 ms)(hs: ∀s∈eQ as,0≤s∧s≤1000){ks:List (Str×V)}(hk:ks=[(("mask":Str),Mk)]∨(ks=[]∧Mk= .none))(n:Nat):
 gh ((lv (cc X) (n+61)).cf σ 800 [.inst ag k,vP as] ks) σ (eQ as):=by
 have r:=Br (X:=X) hv hl h0 ha hb hM hs n
 rcases hk with rfl|⟨rfl,rfl⟩
 ·exact g_ (a:=800) (binds:=[("self",.inst ag k),("arg",vP as),("mask",Mk)]) ⋯ ⋯ ac r
 ·exact g_ (a:=800) (binds:=[("self",.inst ag k),("arg",vP as),("mask",.none)]) ⋯ ⋯ ac r
noncomputable def fj(ss:List Int)(as:List (Int×Int)):List Int:=(ss.zip as).map fun p=>p.1+p.2.1+p.2.2
noncomputable abbrev y2(X:Xp):=sx (y0 X 2) 0
theorem sA:eQ (uO ss as)=fj ss as:=by
 unfold eQ uO fj;rw[G_];refine Hx fun p u_=> ?_;show p.1+p.2.2- -p.2.1=_;rw[Int.sub_neg];exact Int.add_right_comm ..
theorem pa: ∀{as:List (Int×Int)},as.length=ss.length→(as.any fun p=>p.1 !=0||p.2 !=0)=false→fj ss as=ss:=by
 induction ss with
 |nil=>exact fun u_ u_=>rfl
 |cons s ss ih=>
  intro as h q
  cases as with
  |nil=>exact Nat.noConfusion h
  |cons a as=>
   simp only[Hs,Bool.or_eq_false_iff,bne_eq_false_iff_eq]at q;have:=ih (Nat.succ.inj h) q.2;unfold fj at this⊢;simp only[Hy,List.map_cons,this,q.1.1,q.1.2];congr 1;exact DV
theorem Fc(hv:eR σ k ss ts o M B)(hl:ss.length≤4)(h0:ss≠[])(hs: ∀s∈ss,0≤s∧s≤100)(ha:PB 100 as)(hal:as.length≤900)(h:(lW as&&(as.length:Int)==(ss.length:Int))=true)(n:Nat):gI ((lv (cc X) (n+80)).cf σ 805 [.inst ag k,vP as] []) σ (fj ss as):=by
 have t:=D3 (X:=X) (as:=as) hv (bg ‹_› (by exact ac)) hal (n+58)
 rw[h]at t;refine oA (Gg.mp h) fun h1 h2=> ?_
 have hlen:as.length=ss.length:=by
  have:=GK h2;exact cN ‹_›
 have s0:aT (cc X) (lv (cc X) (n+78)) (ah X 805 (eS k (vP as))) σ (St X 805 0)=some (.ok .next (ah X 805 (eS k (vP as))) σ):=cw (n:=n+78) (v:=true) rfl t;have t1:=F9 (X:=X) (σ:=σ) (k:=k) (as:=as) (n+58) hal
 have fin: ∀so o,(lv (cc X) (n+79)).exs (ah X 805 (eS k (vP as))) σ (aD X 805)=some so→im so=some o→(lv (cc X) (n+80)).cf σ 805 [.inst ag k,vP as] []=some o:=fun so o h1 h2=>bp (a:=805) (n:=n+79) (binds:=[("self",.inst ag k),("arg",vP as)]) ⋯ ⋯ ac h1 h2
 rw[show aD X 805=[St X 805 0,St X 805 1,St X 805 2]from rfl]at fin
 cases hz:as.any fun p=>p.1 !=0||p.2 !=0 with
 |false=>
  rw[hz]at t1;rw[pa hlen hz]
  exact⟨k,σ,vI ts,.int o,M,B,GU _,fin _ _ (ab s0 (ab (dy (n:=n+78) rfl t1 rfl) (aq (n:=n+78) (dA (n:=n+78) rfl (aV (n:=n+77) (a:=805) (own:=eS k (vP as)) (x:="self") rfl ac rfl))))) rfl,hv.at_⟩
 |true=>
  rw[hz]at t1
  refine oE (FG (X:=X) (as:=as) hv (bg ‹_› (by exact ac)) (n+57)) fun x1 k1=> ?_
  have f9:=hv.app (GO σ x1)
  refine oE (Ga (X:=X) (as:=as) (z:=vP (uO ss as)) f9 (bg ‹_› (by exact ac)) (n+57)) fun x2 k2=> ?_
  have oK:=f9.app (GO (σ++x1) x2)
  have b1:PB 2000 (uO ss as):=by
   intro p hp;unfold uO at hp;refine aK (G0.mp hp) fun q hq zz2=> ?_;subst zz2;have a:=hs _ (GS hq).1;have b:=ha _ (GS hq).2
   exact⟨by show(-q.2.1).natAbs≤2000;exact E7 (Gb ‹_›) (by exact ac),by show(q.1+q.2.2).natAbs≤2000;exact Fs ‹_› (Gc ‹_›) (by exact ac)⟩
  have b2:PB 2000 (Ca ss as):=by
   intro p hp;unfold Ca at hp;refine aK (G0.mp hp) fun q hq zz2=> ?_;subst zz2;have a:=hs _ (GS hq).1;have b:=ha _ (GS hq).2
   exact⟨by show(q.2.1).natAbs≤2000;exact bg (Gb ‹_›) (by exact ac),by show(q.1+q.2.1).natAbs≤2000;exact Fs ‹_› (Gb ‹_›) (by exact ac)⟩
  have b3: ∀s∈eQ (uO ss as),0≤s∧s≤1000:=by
   rw[sA];intro s hp;unfold fj at hp;refine aK (G0.mp hp) fun q hq zz2=> ?_;subst zz2;have a:=hs _ (GS hq).1;have b:=ha _ (GS hq).2;have c:=GX.mp h1 _ (GS hq).2;simp only[Gh,decide_eq_true_eq]at c;exact⟨Int.add_nonneg (Int.add_nonneg a.1 c.1) c.2,nlm (zo (n:=1000) (Fs (n:=200) a b.1 (.refl true)) b.2 (.refl true)) (.refl true)⟩
  have l1:(uO ss as).length=ss.length:=by unfold uO;rw[GM,GQ];exact D_ ‹_›
  have l2:(Ca ss as).length=ss.length:=by unfold Ca;rw[GM,GQ];exact D_ ‹_›
  refine gb (sF (X:=X) oK hl h0 l1 b1 (.inr ⟨_,rfl,l2,b2⟩) b3 (.inl rfl) (n+15)) fun KB T O M' B' p hr=> ?_;rw[sA]at hr;have hc:(lv (cc X) (n+77)).ev (ah X 805 (("mask",vP (Ca ss as))::("zvarg",vP (uO ss as))::eS k (vP as))) (σ++x1++x2) (y2 X)=some (.ok (.inst ag KB.length) (KB++[aa.dct (bc (vI (fj ss as)) T O M' B')])):=
   ku ac (AZ (name:="_unsafe_resize") (args:=[ch (y2 X) 1]) (fv:= .ref 800) (first:=[.inst ag k]) (vs:=[.v (vP (uO ss as))]) (ks:=[("mask",vP (Ca ss as))]) rfl ⋯ (aV rfl ac rfl)
    (jp oK.at_ ac ⋯) ac (kO ac (bA aA (aV rfl ac rfl))) rfl (eL (xs:=[.inst ag k,vP (uO ss as)]) ⋯ hr))
  have hb:=ab k1 (ab k2 (aq (dA (s:=y0 X 2) rfl hc)))
  rw[←show aj (St X 805 1)=[y0 X 0,y0 X 1,y0 X 2]from rfl]at hb
  exact⟨_,_,T,O,M',B',(((GO _ _).trans (GO _ _)).trans p).trans (GO _ _),fin _ _ (ab s0 (bk (eM rfl t1 hb))) rfl,cK⟩
theorem E8(hv:eR σ k ss ts o M B)(hl:ss.length≤4)(hal:as.length≤900)(h:(lW as&&(as.length:Int)==(ss.length:Int))=false)(n:Nat):dh ((lv (cc X) (n+80)).cf σ 805 [.inst ag k,vP as] []) σ:=by
 have t:=D3 (X:=X) (as:=as) hv (bg ‹_› (by exact ac)) hal (n+58)
 rw[h]at t;have s0:aT (cc X) (lv (cc X) (n+78)) (ah X 805 (eS k (vP as))) σ (St X 805 0)=some (.exc "AssertionError" (ah X 805 (eS k (vP as))) σ):=cw (v:=false) rfl t
 refine⟨"AssertionError",σ,.inl rfl,GU _,bp (a:=805) (binds:=[("self",.inst ag k),("arg",vP as)]) ⋯ ⋯ ac (so:= .exc "AssertionError" (ah X 805 (eS k (vP as))) σ) ?_ rfl⟩
 rw[show aD X 805=[St X 805 0,St X 805 1,St X 805 2]from rfl]
 exact bO s0
noncomputable abbrev k0(X:Xp):=sx (St X 812 0) 0
noncomputable abbrev k1(X:Xp):=sx (St X 812 1) 0
noncomputable def lV(ss:List Int)(as:List (Int×Int)):Bool:=(ss.zip as).all fun p=>decide (0≤p.2.1)&&(decide (p.2.1≤p.2.2)&&decide (p.2.2≤p.1))
theorem C8(hv:eR σ k ss ts o M B)(hl:ss.length≤900)(ha:as.length≤900)(n:Nat):(lv (cc X) (n+20)).tr (ah X 812 (eS k (vP as))) σ (k0 X)=some (.ok (lV ss as&&(as.length:Int)==(ss.length:Int)) σ):=
 lx rfl (dz ac (iz (S:=fun u_=>True) (x:= .it (.zip [.seq (ss.map V.int) 0,.seq (as.map pP) 0])) (t:= .zip [.seq (ss.map V.int) 0,.seq (as.map pP) 0]) (as:=ss.zip as) (f:=fun p=> .tup [.int p.1,pP p.2]) (b:=fun p=>[("e",.int p.2.2),("b",.int p.2.1),("s",.int p.1)]) (F:=fun p=> .bool (decide (0≤p.2.1)&&(decide (p.2.1≤p.2.2)&&decide (p.2.2≤p.1)))) ⋯ ⋯ rfl
  (ez (x:=vI ss) (y:=vP as) ⋯ rfl rfl ⋯ ⋯ ⋯ (ba (x:="shape") ⋯ ac rfl rfl hv.at_ rfl rfl) (aV (x:="arg") ⋯ ac rfl) rfl rfl) rfl trivial
  (bb (ai _ _) (ai _ _)) (by rw[GQ];exact r7 ‹_› (by exact ac)) (fun p u_ own=>⟨by kernel_rfl,FY ⋯ aA rfl rfl rfl rfl⟩) (fun u_ u_=>rfl)) rfl)
  (fun u_=>by
   have e1:((as.map pP).length:Int)=as.length:=by rw[GM]
   have e2:((ss.map V.int).length:Int)=ss.length:=by rw[GM]
   rw[←e1,←e2]
   exact bx (op:= .Eq) (KC:=σ) (x:= .int _) (y:= .int _) rfl aA (kC (l:=as.map pP) rfl rfl rfl ac aA (aV (x:="arg") rfl ac rfl) (by rw[GM];exact bg ‹_› (by exact ac)))
    (kC (l:=ss.map V.int) rfl rfl rfl ac aA (ba (x:="shape") ⋯ ac rfl rfl hv.at_ rfl rfl) (by rw[GM];exact bg ‹_› (by exact ac))) rfl)
theorem zB(hv:eR σ k ss ts o M B)(hl:ss.length≤4)(h0:ss≠[])(hs: ∀s∈ss,0≤s∧s≤100)(ha:PB 200 as)(hal:as.length≤900)(h:(lV ss as&&(as.length:Int)==(ss.length:Int))=true)(n:Nat):gI ((lv (cc X) (n+80)).cf σ 812 [.inst ag k,vP as] []) σ (eQ as):=by
 have t:=C8 (X:=X) (as:=as) hv (bg ‹_› (by exact ac)) hal (n+58)
 rw[h]at t;refine oA (Gg.mp h) fun h1 h2=> ?_
 have hlen:as.length=ss.length:=by
  have:=GK h2;exact cN ‹_›
 have s0:aT (cc X) (lv (cc X) (n+78)) (ah X 812 (eS k (vP as))) σ (St X 812 0)=some (.ok .next (ah X 812 (eS k (vP as))) σ):=cw (v:=true) rfl t
 have b3: ∀s∈eQ as,0≤s∧s≤1000:=by
  intro s hp;obtain⟨i,hi,rfl⟩:=List.getElem_of_mem hp;rw[GM]at hi
  have hm:(ss[i]'(ltr ‹_› ‹_›),as[i])∈ss.zip as:=by
   rw[show(ss[i]'(ltr ‹_› ‹_›),as[i])=(ss.zip as)[i]'(by rw[GQ];exact lmm (Fy ‹_›) ‹_›)from by rw[List.getElem_zip]]
   exact Hb _
  have c:=GX.mp h1 _ hm;have b:=hs _ (GS hm).1;simp only[Gh,decide_eq_true_eq]at c;rw[List.getElem_map]
  exact⟨GH c.2.1,Gw (Int.sub_le_self _ c.1) (Gw c.2.2 (Gw b.2 (by exact Gv _)))⟩
 refine gb (sF (X:=X) (as:=as) (Mk:= .none) (ks:=[]) hv hl h0 hlen (fun q hq=>⟨HV (ha q hq).1 (by decide),HV (ha q hq).2 (by decide)⟩) (.inl rfl) b3 (.inr ⟨rfl,rfl⟩) (n+16)) fun KB T O M' B' p hr=> ?_
 have hc:(lv (cc X) (n+78)).ev (ah X 812 (eS k (vP as))) σ (k1 X)=some (.ok (.inst ag KB.length) (KB++[aa.dct (bc (vI (eQ as)) T O M' B')])):=
  ku ac (gr (name:="_unsafe_resize") (args:=[ch (k1 X) 1]) (fv:= .ref 800) (first:=[.inst ag k]) (vs:=[.v (vP as)]) rfl ac (aV rfl ac rfl)
   (jp hv.at_ ac ⋯) ac (kO ac (bA aA (aV rfl ac rfl))) (eL (xs:=[.inst ag k,vP as]) ⋯ hr))
 refine⟨_,_,T,O,M',B',p.trans (GO _ _),bp (a:=812) (binds:=[("self",.inst ag k),("arg",vP as)]) (so:= .ok (.ret (.inst ag KB.length)) (ah X 812 (eS k (vP as))) (KB++[aa.dct (bc (vI (eQ as)) T O M' B')])) ⋯ ⋯ ac ?_ rfl,cK⟩
 rw[show aD X 812=[St X 812 0,St X 812 1]from rfl]
 exact ab s0 (aq (dA rfl hc))
theorem zt(hv:eR σ k ss ts o M B)(hl:ss.length≤4)(hal:as.length≤900)(h:(lV ss as&&(as.length:Int)==(ss.length:Int))=false)(n:Nat):dh ((lv (cc X) (n+80)).cf σ 812 [.inst ag k,vP as] []) σ:=by
 have t:=C8 (X:=X) (as:=as) hv (bg ‹_› (by exact ac)) hal (n+58)
 rw[h]at t;have s0:aT (cc X) (lv (cc X) (n+78)) (ah X 812 (eS k (vP as))) σ (St X 812 0)=some (.exc "AssertionError" (ah X 812 (eS k (vP as))) σ):=cw (v:=false) rfl t
 refine⟨"AssertionError",σ,.inl rfl,GU _,bp (a:=812) (binds:=[("self",.inst ag k),("arg",vP as)]) ⋯ ⋯ ac (so:= .exc "AssertionError" (ah X 812 (eS k (vP as))) σ) ?_ rfl⟩
 rw[show aD X 812=[St X 812 0,St X 812 1]from rfl]
 exact bO s0
noncomputable abbrev ge(k:Nat)(arg:V):List (Str×V):=[("new_shape",arg),("self",.inst ag k)]
variable {xs:List Int}
noncomputable abbrev x0(X:Xp):=sx (St X 817 0) 0
theorem Ff(hv:eR σ k ss ts o M B)(hl:ss.length≤900)(ha:xs.length≤900)(n:Nat):(lv (cc X) (n+20)).tr (ah X 817 (ge k (vI xs))) σ (x0 X)=some (.ok (!((xs.length:Int)==(ss.length:Int))) σ):=by
 have e1:((xs.map V.int).length:Int)=xs.length:=by rw[GM]
 have e2:((ss.map V.int).length:Int)=ss.length:=by rw[GM]
 rw[←e1,←e2]
 exact bx rfl aA (kC rfl rfl rfl ac aA (aV rfl ac rfl) (by rw[GM];exact bg ‹_› (by exact ac)))
  (kC rfl rfl rfl ac aA (ba rfl ac rfl rfl hv.at_ rfl rfl) (by rw[GM];exact bg ‹_› (by exact ac))) rfl
theorem FR(hv:eR σ k ss ts o M B)(hp: ∀s∈ss,1≤s)(n:Nat):aT (cc X) (lv (cc X) (n+20)) (ah X 817 (ge k (vI xs))) σ (St X 817 1)=some (.ok .next (ah X 817 (ge k (vI xs))) σ):=by
 refine dy rfl (bx rfl aA rfl (ba rfl ac rfl rfl hv.at_ rfl rfl) ?_) rfl
 rw[kQ]
 have:ss.any (· ==0)=false:=Hu.mpr fun x hx q=>by
  have:=hp x hx
  have q:x=0:=by simpa using q
  exact xne ‹_› ‹_›
 exact congrArg _ (by assumption)
noncomputable abbrev x2(X:Xp):=sx (St X 817 2) 0
noncomputable def kh(ss xs ts:List Int):Bool:=(ss.zip (xs.zip ts)).all fun p=>(p.1==p.2.1)||((p.1==1)&&(p.2.2==0))
theorem FI(hv:eR σ k ss ts o M B)(hl:ss.length≤900)(hx:xs.length=ss.length)(n:Nat):(lv (cc X) (n+20)).tr (ah X 817 (ge k (vI xs))) σ (x2 X)=some (.ok (kh ss xs ts) σ):=by
 have e:=hv.lt
 exact dz ac (iz (S:=fun u_=>True) (x:= .it (.zip [.seq (ss.map V.int) 0,.seq (xs.map V.int) 0,.seq (ts.map V.int) 0])) (t:= .zip [.seq (ss.map V.int) 0,.seq (xs.map V.int) 0,.seq (ts.map V.int) 0]) (as:=ss.zip (xs.zip ts)) (f:=fun p=> .tup [.int p.1,.int p.2.1,.int p.2.2]) (b:=fun p=>[("st",.int p.2.2),("x",.int p.2.1),("s",.int p.1)]) (F:=fun p=> .bool ((p.1==p.2.1)||((p.1==1)&&(p.2.2==0)))) rfl ⋯ rfl
  (oh (x:=vI ss) (y:=vI xs) (z:=vI ts) ⋯ rfl rfl ⋯ ac ⋯ aA aA aA (ba (x:="shape") ⋯ ac rfl rfl hv.at_ rfl rfl) (aV (x:="new_shape") rfl ac rfl) (ba (x:="strides") ⋯ ac rfl rfl hv.at_ rfl rfl) rfl rfl rfl) rfl trivial
  (fQ (ai _ _) (ai _ _) (ai _ _) ((Gs ‹_›)) ((Gs ‹_›))) (by rw[GQ];exact r7 ‹_› (by exact ac)) (fun p u_ own=>⟨by kernel_rfl,CI rfl rfl (fun u_=>rg ⋯ rfl (fun u_=>rfl))⟩) (fun u_ u_=>rfl)) rfl
theorem Di{x y:Int×Int}(he:e= .IfExp (ch e 0) (ch e 1) (ch e 2) (ps e))(h0:(lv c n).tr en σ (ch e 0)=some (.ok b σ))(h1:b=true→(lv c n).ev en σ (ch e 1)=some (.ok (pP x) σ))(h2:b=false→(lv c n).ev en σ (ch e 2)=some (.ok (pP y) σ)):(lv c (n+1)).ev en σ e=some (.ok (pP (bif b then x else y)) σ):=by
 rw[CQ he h0 h1 h2];cases b<;>rfl
noncomputable def pc(ms:List (Int×Int))(ss xs:List Int):List (Int×Int):=(ms.zip (ss.zip xs)).map fun p=>bif !(p.2.1==p.2.2)then(bif !((p.1.1==0)&&((p.1.2==1)&&true))then(0,0)else(0,p.2.2))else p.1
theorem uj(hv:eR σ k ss ts o (vP ms) B)(hl:ss.length≤900)(h0:ss≠[])(hm:ms.length=ss.length)(hx:xs.length=ss.length)(n:Nat): ∃ext:Sg,aT (cc X) (lv (cc X) (n+24)) (ah X 817 (ge k (vI xs))) σ (St X 817 3)=some (.ok .next (ah X 817 (("mask",vP (pc ms ss xs))::ge k (vI xs))) (σ++ext)):=by
 refine⟨_,cm (x:="mask") (xp:=ps (sx (St X 817 3) 1)) rfl ac ac (uh rfl (dz ac (ba (x:="mask") (y:=vP ms) rfl ac rfl rfl hv.at_ rfl rfl) ?_)
  (un (as:=ms.zip (ss.zip xs)) (F:=fun p=>bif !(p.2.1==p.2.2)then(bif !((p.1.1==0)&&((p.1.2==1)&&true))then(0,0)else(0,p.2.2))else p.1) rfl rfl rfl ac aA (by rw[GQ];exact EX ‹_› ‹_› (by exact ac))
   (bN (S:=fun u_=>True) (x:= .it (.zip [.seq (ms.map pP) 0,.seq (ss.map V.int) 0,.seq (xs.map V.int) 0])) (t:= .zip [.seq (ms.map pP) 0,.seq (ss.map V.int) 0,.seq (xs.map V.int) 0]) (as:=ms.zip (ss.zip xs)) (f:=fun p=> .tup [pP p.1,.int p.2.1,.int p.2.2]) (b:=fun p=>[("ns",.int p.2.2),("s",.int p.2.1),("m",pP p.1)]) (P:=fun u_=>True) ⋯ rfl ⋯
    (oh (x:=vP ms) (y:=vI ss) (z:=vI xs) ⋯ rfl rfl ⋯ ⋯ ⋯ ⋯ ⋯ ⋯ (ba (x:="mask") ⋯ ac rfl rfl hv.at_ rfl rfl) (ba (x:="shape") ⋯ ac rfl rfl hv.at_ rfl rfl) (aV (x:="new_shape") ⋯ ac rfl) rfl rfl rfl) rfl (fun u_=>trivial)
    (fQ (ai _ _) (ai _ _) (ai _ _) (by assumption) (Gr ‹_› (Gs ‹_›))) (by rw[GQ];exact EL ‹_› ‹_› (by exact ac)) trivial (fun p hp own acc u_=>⟨trivial,by kernel_rfl,Di (b:= !(p.2.1==p.2.2)) (x:=bif !((p.1.1==0)&&((p.1.2==1)&&true))then(0,0)else(0,p.2.2)) (y:=p.1) ⋯ (bx (op:= .NotEq) (KC:=σ++[aa.lst acc]) (x:= .int p.2.1) (y:= .int p.2.2) ⋯ ⋯ ⋯ ⋯ rfl)
     (fun u_=>Di ⋯ (bx (op:= .NotEq) (KC:=σ++[aa.lst acc]) (x:=pP p.1) (y:=pP (0,1)) ⋯ ⋯ ⋯ ⋯ rfl) (fun u_=>by kernel_rfl) (fun u_=>by kernel_rfl)) (fun u_=>by kernel_rfl)⟩))))⟩
 rw[fx (by rw[GM];exact dH ‹_› ‹_› (by exact ac))]
 cases ms with
 |nil=>exact absurd (G' hm.symm) h0
 |cons=>rfl
theorem tL(hv:eR σ k ss ts o .none B)(n:Nat):aT (cc X) (lv (cc X) (n+24)) (ah X 817 (ge k (vI xs))) σ (St X 817 3)=some (.ok .next (ah X 817 (("mask",.none)::ge k (vI xs))) σ):=
 cm rfl ac ac (tN rfl (dz ac (ba rfl ac rfl rfl hv.at_ rfl rfl) rfl) rfl)
end
section
variable {X:Xp}{own:List (Str×V)}{S M Mk:V}{ts xs:List Int}{o:Int}{as ms:List (Int×Int)}
noncomputable abbrev x4(X:Xp):=sx (St X 817 4) 0
theorem Fa{own:List (Str×V)}(hs:own.lookup ("self":Str)=some (.inst ag k))(hx:own.lookup ("new_shape":Str)=some (vI xs))(hm:own.lookup ("mask":Str)=some Mk)(hv:eR σ k ss ts o M B)(n:Nat):dW (lv (cc X) (n+20)).iv (ah X 817 own) σ [ch (x4 X) 1,ch (x4 X) 2,ch (x4 X) 3,ch (x4 X) 4]=some (.ok ([vI xs,vI ts,.int o,Mk].map .v) σ):=
 aO ac (bA aA (aV rfl ac hx)) (aO ac (bA aA (ba rfl ac hs rfl hv.at_ rfl rfl))
  (aO ac (bA aA (ba rfl ac hs rfl hv.at_ rfl rfl)) (aO ac (bA aA (aV rfl ac hm)) fS)))
theorem vh(h:PB 2000 ms)(hx:IB 1000 xs):PB 2000 (pc ms ss xs):=by
 intro p hp;unfold pc at hp;refine aK (G0.mp hp) fun q hq zz2=> ?_;subst zz2;have a:=h _ (GS hq).1;have b:=hx _ (GS (GS hq).2).2
 cases !(q.2.1==q.2.2)with
 |false=>exact a
 |true=>
  cases !((q.1.1==0)&&((q.1.2==1)&&true))with
  |true=>exact⟨show(0:Int).natAbs≤2000 by exact H9 _,show(0:Int).natAbs≤2000 by exact H9 _⟩
  |false=>exact⟨show(0:Int).natAbs≤2000 by exact H9 _,HV b (by exact H3 ..)⟩
theorem yk(hv:eR σ k ss ts o M B)(hl:ss.length≤4)(h0:ss≠[])(hs: ∀s∈ss,1≤s∧s≤100)(hx:IB 1000 xs)(hxl:xs.length≤900)(n:Nat):
 (xs.length=ss.length→kh ss xs ts=true→(∀x∈xs,0≤x)→gI ((lv (cc X) (n+80)).cf σ 817 [.inst ag k,vI xs] []) σ xs)∧
 ((xs.length≠ss.length∨kh ss xs ts=false∨ ∃x∈xs,x<0)→dh ((lv (cc X) (n+80)).cf σ 817 [.inst ag k,vI xs] []) σ):=by
 have hB:aD X 817=[St X 817 0,St X 817 1,St X 817 2,St X 817 3,St X 817 4]:=rfl
 have fin: ∀so o,(lv (cc X) (n+79)).exs (ah X 817 (ge k (vI xs))) σ [St X 817 0,St X 817 1,St X 817 2,St X 817 3,St X 817 4]=some so→im so=some o→(lv (cc X) (n+80)).cf σ 817 [.inst ag k,vI xs] []=some o:=fun so o h1 h2=>bp (a:=817) (binds:=[("self",.inst ag k),("new_shape",vI xs)]) ⋯ ⋯ ac (hB▸h1) h2
 have t0:=Ff (X:=X) (xs:=xs) hv (bg ‹_› (by exact ac)) hxl (n+58)
 by_cases hq:xs.length=ss.length
 ·rw[hq,beq_self_eq_true]at t0;have s0:aT (cc X) (lv (cc X) (n+78)) (ah X 817 (ge k (vI xs))) σ (St X 817 0)=some (.ok .next (ah X 817 (ge k (vI xs))) σ):=dy rfl t0 rfl;have s1:=FR (X:=X) (xs:=xs) hv (fun s h=>(hs s h).1) (n+58)
  have t2:=FI (X:=X) hv (bg ‹_› (by exact ac)) hq (n+58)
  cases hg:kh ss xs ts with
  |false=>
   rw[hg]at t2
   refine⟨(fun u_ q=>by exact bM q),fun u_=>⟨"AssertionError",σ,.inl rfl,GU _,fin _ _ (ab s0 (ab s1 (bO (cw (v:=false) rfl t2)))) rfl⟩⟩
  |true=>
   rw[hg]at t2;have s2:aT (cc X) (lv (cc X) (n+78)) (ah X 817 (ge k (vI xs))) σ (St X 817 2)=some (.ok .next (ah X 817 (ge k (vI xs))) σ):=cw (v:=true) rfl t2
   have x0:xs≠[]:=fun q=>h0 (G' (by rw[←hq,q];rfl))
   have key: ∃(Mk:V) (ext:Sg),(Mk= .none∨ ∃ms,Mk=vP ms∧ms.length=ss.length∧PB 2000 ms)∧aT (cc X) (lv (cc X) (n+78)) (ah X 817 (ge k (vI xs))) σ (St X 817 3)=some (.ok .next (ah X 817 (("mask",Mk)::ge k (vI xs))) (σ++ext)):=by
    rcases hv.mq with rfl|⟨ms,rfl,lm,pb⟩
    ·exact⟨.none,[],.inl rfl,by rw[G2];exact tL (X:=X) hv (n+54)⟩
    ·refine dw fun kk=> ?_
     refine oE (uj (X:=X) hv (bg ‹_› (by exact ac)) h0 lm hq (n+54)) fun ext h=> ?_<;>(refine kk ?_;clear kk)
     exact⟨_,ext,.inr ⟨_,rfl,by unfold pc;rw[GM,GQ,GQ];exact m3 ‹_› ‹_›,vh pb hx⟩,h⟩
   refine bf key fun Mk ext hM s3=> ?_;have f9:=hv.app (GO σ ext);have iv:=Fa (X:=X) (own:=("mask",Mk)::ge k (vI xs)) rfl rfl rfl f9 (n+57)
   have ib': ∀t∈ts,t.natAbs≤2^30:=fun t q=>HV (hv.ib t q) (by decide)
   by_cases hp: ∀x∈xs,0≤x
   ·refine⟨fun u_ u_ u_=> ?_,fun h=> ?_⟩
    ·have:=kF (X:=X) (σ:=σ++ext) (ss:=xs) (T:=vI ts) (o:=o) (M:=Mk) ⟨by exact dH ‹_› ‹_› (by exact ac),fun s q=>hx s q⟩ x0 hp (.inr ⟨ts,rfl,by have:=hv.lt;exact Gr ‹_› (Gs ‹_›),hM.imp id fun h'=>bW h' fun ms e l q=>⟨ms,e,by exact Gr ‹_› (Gs ‹_›),ib',fun m hm=>HV (q m hm).1 (by decide)⟩⟩) (n+25)
     have:=i6 (X:=X) (own:=("mask",Mk)::ge k (vI xs)) (e:=x4 X) (a:=817) (args:=[ch (x4 X) 1,ch (x4 X) 2,ch (x4 X) 3,ch (x4 X) 4]) (xs:=[vI xs,vI ts,.int o,Mk]) rfl ac rfl iv (GU _) this;refine gb this fun KB T O M' B' p hr=> ?_;exact⟨_,_,T,O,M',B',((GO σ ext).trans p).trans (GO _ _),fin _ _ (ab s0 (ab s1 (ab s2 (ab s3 (aq (dA rfl hr)))))) rfl,cK⟩
    ·refine dw fun kk=> ?_
     rcases h with h|h|⟨x,h1,h2⟩<;>(refine kk ?_;clear kk)
     ·exact absurd hq h
     ·exact Cn h
     ·exact absurd (hp x h1) (by omega)
   ·have hp': ∃x∈xs,x<0:=by
     apply Gq;intro h;refine hp fun x hx=> ?_;apply Gq;intro h'
     exact h ⟨x,hx,by exact Int.not_le.mp ‹_›⟩
    refine⟨fun u_ u_ h=>absurd h hp,fun u_=> ?_⟩
    have:=pw (X:=X) (σ:=σ++ext) (ss:=xs) (T:=vI ts) (o:=o) (M:=Mk) (by assumption) hp' (n+25)
    have:=j8 (own:=("mask",Mk)::ge k (vI xs)) (e:=x4 X) (a:=817) (args:=[ch (x4 X) 1,ch (x4 X) 2,ch (x4 X) 3,ch (x4 X) 4]) (xs:=[vI xs,vI ts,.int o,Mk]) rfl ac rfl iv this;exact⟨"ValueError",_,.inr rfl,GO σ ext,fin _ _ (ab s0 (ab s1 (ab s2 (ab s3 (bO (i9 rfl this)))))) rfl⟩
 ·as_aux_lemma=>
   have e:((xs.length:Int)==(ss.length:Int))=false:=beq_eq_false_iff_ne.mpr (by omega)
   rw[e]at t0;refine⟨fun h=>absurd h hq,fun u_=>⟨"ValueError",σ,.inr rfl,GU _,fin _ _ (bO (en':=ah X 817 (ge k (vI xs))) (KB:=σ) (eM rfl t0 rfl)) rfl⟩⟩
end
section
section
variable {cf:b9}
theorem nE{l:List Int}(h:l.length<64):aJ c cf σ (.builtin "sorted") [.v (vI l)] []=some (.ok (.v (.lst σ.length)) (σ++[aa.lst ((cn l).map V.int)])):=by
 have e:aJ c cf σ (.builtin "sorted") [.v (vI l)] []=(oo σ (vI l)).map fun l=> .ok (.v (.lst σ.length)) (σ++[aa.lst l]):=rfl
 have e2:cU (l.map V.int)=some l:=by
  have:=iF (F:=id) l;simpa using this
 rw[e]
 show(if _ then _ else none:Option _).map _=_
 rw[if_pos (by rw[GM];exact h),e2]
 rfl
noncomputable abbrev eA(n:Nat):List Int:=(GT n).map fun(i:Nat)=>(i:Int)
theorem jZ(h:n≤4):aJ c cf σ (.type "list") [.v (.rng 0 (n:Int) 1)] []=some (.ok (.v (.lst σ.length)) (σ++[aa.lst ((eA n).map V.int)])):=
 qO (P:=fun(n:Nat)=>aJ c cf σ (.type "list") [.v (.rng 0 (n:Int) 1)] []=some (.ok (.v (.lst σ.length)) (σ++[aa.lst ((eA n).map V.int)]))) rfl rfl rfl rfl rfl n (IA h)
theorem fK(n:Nat): ∀(a b:List Int),a.length<n→dR σ n (a.map V.int) (b.map V.int)=some (a==b):=by
 induction n with
 |zero=>exact fun u_ u_ h=>absurd h (Ie _)
 |succ n ih=>
  intro a b h
  cases a with
  |nil=>cases b<;>rfl
  |cons x a=>
  cases b with
  |nil=>rfl
  |cons y b=>
   have ht:=ih a b (Ih h)
   cases n with
   |zero=>exact absurd (Ih h) (Ie _)
   |succ n=>
    show((some (x==y)).bind fun p=>(dR σ (n+1) (a.map V.int) (b.map V.int)).map fun q=>p&&q)=_;rw[ht];rfl
theorem xi{a b:List Int}(hj:σ[j]? =some (aa.lst (a.map V.int)))(hk:σ[k]? =some (aa.lst (b.map V.int)))(h:a.length<190):eh σ .Eq (.lst j) (.lst k)=some (a==b):=by
 show kU σ 200 (.lst j) (.lst k)=_
 have:kU σ 200 (.lst j) (.lst k)=if(a.map V.int).length=(b.map V.int).length then dR σ 199 (a.map V.int) (b.map V.int)else some false:=by
  refine(?_:(aI σ j).bind (fun a=>(aI σ k).bind fun b=>if a.length=b.length then dR σ 199 a b else some false)=_)
  rw[aN hj,aN hk];rfl
 refine(this).symm▸ ?_
 by_cases q:(a.map V.int).length=(b.map V.int).length
 ·rw[if_pos q,fK 199 a b (D4 ‹_› (by exact ac))]
 ·refine(if_neg q).symm▸ ?_
  have:a≠b:=fun h=>q (by rw[h])
  rw[beq_eq_false_iff_ne.mpr this]
theorem vT{a b:List Int}(h:a.length<190):eh σ .Eq (vI a) (vI b)=some (a==b):=fK 199 a b (D4 ‹_› (by exact ac))
end
noncomputable def fg(n:Nat)(ax:List Int):Bool:=cn ax==eA n
theorem fg.mem{ax:List Int}(h:fg n ax=true):ax.length=n∧ ∀a∈ax,0≤a∧a.toNat<n:=by
 have e:cn ax=eA n:=GK h
 refine⟨by rw[←(dE ax).length_eq,e,GM,Hf],fun a ha=> ?_⟩
 have:=(dE ax).mem_iff.mpr ha;rw[e]at this;refine aK (G0.mp this) fun i hi zz2=> ?_;subst zz2;have:=HH.mp hi;exact j0 ‹_›
variable {X:Xp}{own:List (Str×V)}{S M Mk:V}{ts xs ax:List Int}{o:Int}{as ms:List (Int×Int)}
noncomputable abbrev kz(k:Nat)(arg:V):List (Str×V):=[("axis",arg),("self",.inst ag k)]
noncomputable abbrev q0(X:Xp):=sx (St X 824 0) 0
theorem C6(hv:eR σ k ss ts o M B)(hl:ss.length≤4)(ha:ax.length≤60)(n:Nat):(lv (cc X) (n+20)).tr (ah X 824 (kz k (vI ax))) σ (q0 X)=some (.ok (fg ss.length ax) (σ++[aa.lst ((cn ax).map V.int)]++[aa.lst ((eA ss.length).map V.int)])):=by
 have e2:((ss.map V.int).length:Int)=ss.length:=by rw[GM]
 have f9:=hv.app (GO σ [aa.lst ((cn ax).map V.int)])
 refine bx (op:= .Eq) (KC:=σ++[aa.lst ((cn ax).map V.int)]) (x:= .lst σ.length) (y:= .lst (σ++[aa.lst ((cn ax).map V.int)]).length) rfl aA (bK (x:="sorted") (fv:= .builtin "sorted") (v:= .v (vI ax)) (KC:=σ) rfl rfl rfl ac (bA aA (aV (x:="axis") rfl ac rfl)) (nE (fH ‹_› (by exact ac))))
  (bK (x:="list") (fv:= .type "list") (v:= .v (.rng 0 (ss.length:Int) 1)) (KC:=σ++[aa.lst ((cn ax).map V.int)]) rfl rfl rfl ac (zL ac (bK (x:="range") (fv:= .type "range") (v:= .v (.int (ss.length:Int))) (KC:=σ++[aa.lst ((cn ax).map V.int)]) rfl rfl rfl ac
   (zL ac (e2▸kC (l:=ss.map V.int) ⋯ ⋯ rfl ⋯ ⋯ (ba (x:="shape") ⋯ ac rfl rfl f9.at_ rfl rfl) (by rw[GM];exact bg ‹_› (by exact ac)))) rfl)) (jZ hl))
  (xi (bZ (by exact G6)) (by exact G6) (by rw[(dE ax).length_eq];exact fH ‹_› (by exact ac)))
theorem kG{l:List α}{d:α}{f:α→V}{i:Int}(h0:0≤i)(h:i.toNat<l.length)(hl:l.length≤900):gk σ (.tup (l.map f)) i=some (f (l.getD i.toNat d)):=by
 refine oE (Int.eq_ofNat_of_zero_le h0) fun j zz1=> ?_;subst zz1
 have hj:j<l.length:=by simpa using h
 exact jk (by rw[Ha,G1 hj];simp[Hd,hj]) (Em ‹_› ‹_› (by exact ac))
noncomputable abbrev q1(X:Xp)(i:Nat):=ch (sx (St X 824 1) 0) i
theorem Fz(hv:eR σ k ss ts o M B)(hl:ss.length≤4)(hp: ∀a∈ax,0≤a∧a.toNat<ss.length)(ha:ax.length≤60)(n:Nat):(lv (cc X) (n+20)).ev (ah X 824 (kz k (vI ax))) σ (q1 X 1)=some (.ok (vI (ax.map fun a=>ss.getD a.toNat 0)) σ):=by
 have:=hV (c:=cc X) (n:=n+19) (e:=q1 X 1) (σ:=σ) (en:=ah X 824 (kz k (vI ax))) (S:=fun u_=>True) (t:= .seq (ax.map V.int) 0) (as:=ax) (f:=V.int) (b:=fun a=>[("a",.int a)]) (F:=fun a=> .int (ss.getD a.toNat 0)) ⋯ ⋯ rfl (bA aA (aV rfl ac rfl)) rfl trivial (ai _ _) (fH ‹_› (by exact ac))
  (fun a ha own=>⟨by kernel_rfl,c_ (i:=a) ⋯ ⋯ (jb (name:="shape") ⋯ ⋯ ⋯ (oM rfl hv.at_ rfl rfl)) ⋯ (kG (hp a ha).1 (hp a ha).2 (bg ‹_› (by exact ac)))⟩) (fun u_ u_=>rfl)
 rw[this,vI,G_];rfl
theorem FU(hv:eR σ k ss ts o M B)(hl:ss.length≤4)(hp: ∀a∈ax,0≤a∧a.toNat<ss.length)(ha:ax.length≤60)(n:Nat):(lv (cc X) (n+20)).ev (ah X 824 (kz k (vI ax))) σ (q1 X 2)=some (.ok (vI (ax.map fun a=>ts.getD a.toNat 0)) σ):=by
 have e:=hv.lt
 have:=hV (c:=cc X) (n:=n+19) (e:=q1 X 2) (σ:=σ) (en:=ah X 824 (kz k (vI ax))) (S:=fun u_=>True) (t:= .seq (ax.map V.int) 0) (as:=ax) (f:=V.int) (b:=fun a=>[("a",.int a)]) (F:=fun a=> .int (ts.getD a.toNat 0)) ⋯ ⋯ rfl (bA aA (aV rfl ac rfl)) rfl trivial (ai _ _) (fH ‹_› (by exact ac))
  (fun a ha own=>⟨by kernel_rfl,c_ (i:=a) ⋯ ⋯ (jb (name:="strides") ⋯ ⋯ ⋯ (oM rfl hv.at_ rfl rfl)) ⋯ (kG (hp a ha).1 (by have:=(hp a ha).2;exact Ic ‹_› (Gs ‹_›)) (dH ‹_› ‹_› (by exact ac)))⟩) (fun u_ u_=>rfl)
 rw[this,vI,G_];rfl
theorem Fb(hv:eR σ k ss ts o M B)(hl:ss.length≤4)(hp: ∀a∈ax,0≤a∧a.toNat<ss.length)(hal:ax.length=ss.length)(n:Nat): ∃Mk,(Mk= .none∨ ∃ms,Mk=vP ms∧ms.length=ss.length∧PB 2000 ms)∧(lv (cc X) (n+22)).ev (ah X 824 (kz k (vI ax))) σ (q1 X 4)=some (.ok Mk σ):=by
 rcases hv.mq with rfl|⟨ms,rfl,lm,pb⟩
 ·exact⟨.none,.inl rfl,tN (n:=n+21) (KC:=σ) rfl (bx (n:=n+20) (op:= .IsNot) (KC:=σ) (x:=V.none) (y:= .none) ⋯ aA (ba (n:=n+18) (x:="mask") ⋯ ac rfl rfl hv.at_ rfl rfl) rfl rfl) rfl⟩
 ·have:=hV (c:=cc X) (n:=n+20) (e:=ch (q1 X 4) 1) (σ:=σ) (en:=ah X 824 (kz k (vI ax))) (S:=fun u_=>True) (x:= .v (vI ax)) (t:= .seq (ax.map V.int) 0) (as:=ax) (f:=V.int) (b:=fun a=>[("a",.int a)]) (F:=fun a=>pP (ms.getD a.toNat (0,0))) ⋯ ⋯ rfl (bA (n:=n+19) ⋯ (aV (x:="axis") ⋯ ac rfl)) rfl trivial (ai _ _) (Ez ‹_› ‹_› (by exact ac))
   (fun a ha own=>⟨by kernel_rfl,c_ (x:=vP ms) (i:=a) (KC:=σ) ⋯ ⋯ (jb (name:="mask") (x:= .inst ag k) ⋯ ⋯ ⋯ (oM (x:="mask") rfl hv.at_ rfl rfl)) ⋯ (kG (hp a ha).1 (by have:=(hp a ha).2;exact Ic ‹_› (Gs ‹_›)) (dH ‹_› ‹_› (by exact ac)))⟩) (fun u_ u_=>rfl)
  refine⟨vP (ax.map fun a=>ms.getD a.toNat (0,0)),.inr ⟨_,rfl,by rw[GM];exact hal,?_⟩,uh (KC:=σ) rfl (bx (op:= .IsNot) (KC:=σ) (x:=vP ms) (y:= .none) rfl aA (ba (x:="mask") ⋯ ac rfl rfl hv.at_ rfl rfl) rfl rfl) ?_⟩
  ·intro p hp';refine aK (G0.mp hp') fun a ha zz2=> ?_;subst zz2;have h2:=(hp a ha).2;rw[Hd,G1 (Ic ‹_› (Gs ‹_›))];exact pb _ (Hb _)
  ·rw[this,vP,G_];rfl
theorem vD(hv:eR σ k ss ts o M B)(hl:ss.length≤4)(h0:ss≠[])(hs: ∀s∈ss,1≤s∧s≤100)(hal:ax.length≤60)(h:fg ss.length ax=true)(n:Nat):gI ((lv (cc X) (n+80)).cf σ 824 [.inst ag k,vI ax] []) σ (ax.map fun a=>ss.getD a.toNat 0):=by
 have t:=C6 (X:=X) (ax:=ax) hv hl hal (n+58);rw[h]at t;refine oA (fg.mem h) fun h1 h2=> ?_;have s0:aT (cc X) (lv (cc X) (n+78)) (ah X 824 (kz k (vI ax))) σ (St X 824 0)=some (.ok .next (ah X 824 (kz k (vI ax))) _):=cw (v:=true) rfl t;have p1:σ<+:σ++[aa.lst ((cn ax).map V.int)]++[aa.lst ((eA ss.length).map V.int)]:=(GO _ _).trans (GO _ _);have f9:=hv.app p1;generalize σ++[aa.lst ((cn ax).map V.int)]++[aa.lst ((eA ss.length).map V.int)]=Lk at s0 p1 f9;refine aK (Fb (X:=X) (ax:=ax) f9 hl h2 h1 (n+54)) fun Mk hM h4=> ?_
 have hg: ∀i:Int,0≤i∧i.toNat<ss.length→ss.getD i.toNat 0∈ss:=fun i hi=>by
  rw[Hd,G1 hi.2];exact Hb _
 have hgt: ∀i:Int,0≤i∧i.toNat<ss.length→ts.getD i.toNat 0∈ts:=fun i hi=>by
  have:=hv.lt;rw[Hd,G1 (Ic (Gc ‹_›) (Gs ‹_›))];exact Hb _
 have hm: ∀s∈ax.map fun a=>ss.getD a.toNat 0,1≤s∧s≤100:=fun s q=>by
  refine aK (G0.mp q) fun a ha zz2=> ?_;subst zz2;exact hs _ (hg a (h2 a ha))
 have:=kF (X:=X) (σ:=Lk) (ss:=ax.map fun a=>ss.getD a.toNat 0) (T:=vI (ax.map fun a=>ts.getD a.toNat 0)) (o:=o) (M:=Mk) ⟨by rw[GM];exact dH ‹_› ‹_› (by exact ac),fun s q=>by have:=hm s q;exact qA ‹_› (by exact ac)⟩ (fun q=>h0 (G' (by rw[←h1,←GM (f:=fun a:Int=>ss.getD a.toNat 0),q];rfl))) (fun s q=>by have:=hm s q;exact iil ‹_› (by exact ac))
  (.inr ⟨_,rfl,by rw[GM,GM],hM.imp id fun h'=>bW h' fun ms e l q=>⟨ms,e,by rw[GM];exact Gr ‹_› (Gs ‹_›),fun t q'=>by refine aK (G0.mp q') fun a ha zz2=> ?_;subst zz2;exact HV (hv.ib _ (hgt a (h2 a ha))) (by decide),fun m hm=>HV (q m hm).1 (by decide)⟩⟩) (n+25)
 have:=i6 (own:=kz k (vI ax)) (e:=sx (St X 824 1) 0) (a:=824) (args:=[q1 X 1,q1 X 2,q1 X 3,q1 X 4]) (xs:=[vI (ax.map fun a=>ss.getD a.toNat 0),vI (ax.map fun a=>ts.getD a.toNat 0),.int o,Mk]) rfl ac rfl
  (aO ac (zL ac (Fz f9 hl h2 hal (n+57))) (aO ac (zL ac (FU f9 hl h2 hal (n+57))) (aO ac (bA aA (ba rfl ac rfl rfl f9.at_ rfl rfl)) (aO ac (bA aA h4) fS)))) (GU _) this
 refine gb this fun KB T O M' B' p hr=> ?_
 refine⟨_,_,T,O,M',B',(p1.trans p).trans (GO _ _),bp (a:=824) (binds:=[("self",.inst ag k),("axis",vI ax)]) (so:= .ok (.ret (.inst ag KB.length)) (ah X 824 (kz k (vI ax))) (KB++[aa.dct (bc (vI (ax.map fun a=>ss.getD a.toNat 0)) T O M' B')])) ⋯ ⋯ ac ?_ rfl,cK⟩
 rw[show aD X 824=[St X 824 0,St X 824 1]from rfl]
 exact ab s0 (aq (dA rfl hr))
theorem u9(hv:eR σ k ss ts o M B)(hl:ss.length≤4)(hal:ax.length≤60)(h:fg ss.length ax=false)(n:Nat):dh ((lv (cc X) (n+80)).cf σ 824 [.inst ag k,vI ax] []) σ:=by
 have t:=C6 (X:=X) (ax:=ax) hv hl hal (n+58);rw[h]at t;have s0:=cw (s:=St X 824 0) (v:=false) rfl t;have p1:σ<+:σ++[aa.lst ((cn ax).map V.int)]++[aa.lst ((eA ss.length).map V.int)]:=(GO _ _).trans (GO _ _);generalize σ++[aa.lst ((cn ax).map V.int)]++[aa.lst ((eA ss.length).map V.int)]=Lk at s0 p1
 refine⟨"AssertionError",Lk,.inl rfl,p1,bp (a:=824) (binds:=[("self",.inst ag k),("axis",vI ax)]) ⋯ ⋯ ac (so:= .exc "AssertionError" (ah X 824 (kz k (vI ax))) Lk) ?_ rfl⟩
 rw[show aD X 824=[St X 824 0,St X 824 1]from rfl]
 exact bO s0
end
section
theorem jC(h:tr en σ e=some (.ok b σ)):bL tr en σ [e]=some (b,σ):=by
 refine A3 h ?_;cases b<;>rfl
noncomputable def cF(i:Int):Int:=if i<0 then-i else i
theorem oP{a b:Int}(h0:b≠0)(hb:bG b=true):mI σ .FloorDiv (.int a) (.int b)=some (.int (a.fdiv b),σ):=by
 show(if b≠0∧bG b=true then some (a.fdiv b)else none).map _=_
 rw[if_pos ⟨h0,hb⟩];rfl
variable {X:Xp}{own:List (Str×V)}{S M Mk:V}{ts xs mu:List Int}{o:Int}{as ms:List (Int×Int)}
noncomputable def nz(mu:List Int):Bool:=mu.all fun m=> !(m==0)
theorem Eo(ha:mu.length≤900)(n:Nat):(lv (cc X) (n+20)).tr (ah X 829 [("mul",vI mu),("self",.inst ag k)]) σ (sx (St X 829 0) 0)=some (.ok (nz mu) σ):=
 dz ac (iz (S:=fun u_=>True) (t:= .seq (mu.map V.int) 0) (as:=mu) (f:=V.int) (b:=fun p=>[("x",.int p)]) (F:=fun p=> .bool (!(p==0))) rfl ⋯ rfl
  (bA aA (aV rfl ac rfl)) rfl trivial (ai _ _) (fH ‹_› (by exact ac)) (fun p u_ own=>⟨by kernel_rfl,by kernel_rfl⟩) (fun u_ u_=>rfl)) rfl
noncomputable def qR(mu:List Int):Prop:= ∀m∈mu,m≠0∧m.natAbs≤10
theorem um{as:List α}{F:α→Int}(he:e= .Call (.Name ("tuple":Str) (ps (ch e 0))) [ch e 1] [] (ps e))(hg:cJ [ch e 1]=none)(hx:aR c en "tuple"=some (.val (.type "tuple")))(hc:(al [ch e 1]&&bJ c.K (.type "tuple"))=true)(hi:aY (ch e 1)=false)(hl:as.length≤900)
 (h1:(lv c n).ev en σ (ch e 1)=some (.ok (.lst σ.length) (σ++[aa.lst (as.map fun a=>V.int (F a))]))):(lv c (n+2)).ev en σ e=some (.ok (vI (as.map F)) (σ++[aa.lst (as.map fun a=>V.int (F a))])):=by
 have:=xJ he hg hx hc hi h1 (by rw[GM];exact bg ‹_› (by exact ac))
 rw[this,vI,G_];rfl
noncomputable def iP(ts mu:List Int):List Int:=(ts.zip mu).map fun p=>p.1*p.2
theorem FM(hs:own.lookup ("self":Str)=some (.inst ag k))(hu:own.lookup ("mul":Str)=some (vI mu))(hv:eR σ k ss ts o M B)(hl:ss.length≤900)(hm:qR mu)(n:Nat): ∃ext:Sg,aT (cc X) (lv (cc X) (n+20)) (ah X 829 own) σ (St X 829 1)=some (.ok .next (ah X 829 (("strides",vI (iP ts mu))::own)) (σ++ext)):=by
 have e:=hv.lt
 exact⟨_,cm (x:="strides") (xp:=ps (sx (St X 829 1) 1)) rfl ac ac (um (as:=ts.zip mu) (F:=fun p=>p.1*p.2) rfl rfl rfl ac aA (by rw[GQ];exact EX ‹_› ‹_› (by exact ac))
  (bN (S:=fun u_=>True) (x:= .it (.zip [.seq (ts.map V.int) 0,.seq (mu.map V.int) 0])) (t:= .zip [.seq (ts.map V.int) 0,.seq (mu.map V.int) 0]) (as:=ts.zip mu) (f:=fun p=> .tup [.int p.1,.int p.2]) (b:=fun p=>[("m",.int p.2),("z",.int p.1)]) (P:=fun u_=>True) rfl rfl ⋯
   (ez (x:=vI ts) (y:=vI mu) ⋯ rfl rfl ⋯ aA aA (ba (x:="strides") ⋯ ac hs rfl hv.at_ rfl rfl) (aV rfl ac hu) rfl rfl) rfl (fun u_=>trivial)
   (bb (ai _ _) (ai _ _)) (by rw[GQ];exact EL ‹_› ‹_› (by exact ac)) trivial (fun p hp own acc u_=>⟨trivial,by kernel_rfl,cG rfl ⋯ rfl (gK (be (hv.ib _ (GS hp).1) (by decide)) (be (hm _ (GS hp).2).2 (by decide)))⟩)))⟩
noncomputable def fh(ss mu:List Int):List Int:=(ss.zip mu).map fun p=>(p.1+(cF p.2-1)).fdiv (cF p.2)
theorem gf{m:Int}(h:m≠0∧m.natAbs≤10):cF m≠0∧bG (cF m)=true∧1≤cF m∧cF m≤10:=by
 have e:cF m=(m.natAbs:Int):=by
  unfold cF
  by_cases h:m<0
  ·rw[if_pos h];exact(Int.ofNat_natAbs_of_nonpos (GC h)).symm
  ·rw[if_neg h];exact(Int.natAbs_of_nonneg (Gx.mp h)).symm
 have p:0<m.natAbs:=Int.natAbs_pos.mpr h.1;rw[e]
 exact⟨Int.ne_of_gt (Gz.mpr p),be h.2 (by decide),GA.mpr p,GA.mpr h.2⟩
theorem FC(hs:own.lookup ("self":Str)=some (.inst ag k))(hu:own.lookup ("mul":Str)=some (vI mu))(hv:eR σ k ss ts o M B)(hl:ss.length≤900)(hm:qR mu)(n:Nat): ∃ext:Sg,aT (cc X) (lv (cc X) (n+20)) (ah X 829 own) σ (St X 829 2)=some (.ok .next (ah X 829 (("new_shape",vI (fh ss mu))::own)) (σ++ext)):=
 ⟨_,cm (x:="new_shape") (xp:=ps (sx (St X 829 2) 1)) rfl ac ac (um (as:=ss.zip mu) (F:=fun p=>(p.1+(cF p.2-1)).fdiv (cF p.2)) rfl rfl rfl ac aA (by rw[GQ];exact wA ‹_› (by exact ac))
  (bN (S:=fun u_=>True) (x:= .it (.zip [.seq (ss.map V.int) 0,.seq (mu.map V.int) 0])) (t:= .zip [.seq (ss.map V.int) 0,.seq (mu.map V.int) 0]) (as:=ss.zip mu) (f:=fun p=> .tup [.int p.1,.int p.2]) (b:=fun p=>[("m",.int p.2),("s",.int p.1)]) (P:=fun u_=>True) rfl rfl ⋯
   (ez (x:=vI ss) (y:=vI mu) ⋯ rfl rfl ⋯ aA aA (ba (x:="shape") ⋯ ac hs rfl hv.at_ rfl rfl) (aV (x:="mul") rfl ac hu) rfl rfl) rfl (fun u_=>trivial)
   (bb (ai _ _) (ai _ _)) (by rw[GQ];exact r7 ‹_› (by exact ac)) trivial (fun p hp own acc u_=>⟨trivial,by kernel_rfl,cG (KC:=σ++[aa.lst acc]) rfl ⋯ ⋯ (oP (gf (hm _ (GS hp).2)).1 (gf (hm _ (GS hp).2)).2.1)⟩)))⟩
noncomputable abbrev j3(X:Xp):=ch (sx (St X 829 3) 0) 1
theorem F3(hs:own.lookup ("self":Str)=some (.inst ag k))(hu:own.lookup ("mul":Str)=some (vI mu))(hv:eR σ k ss ts o M B)(hl:ss.length≤900)(hml:mu.length=ss.length)(hb:IB 1000 ss)(n:Nat): ∃(z:Int) (ext:Sg),aT (cc X) (lv (cc X) (n+20)) (ah X 829 own) σ (St X 829 3)=some (.ok .next (ah X 829 (("offset",.int z)::own)) (σ++ext)):=by
 have e:=hv.lt
 refine⟨_,_,cm (x:="offset") (xp:=ps (sx (St X 829 3) 1)) rfl ac ac (wq (as:=(ss.zip (ts.zip mu)).filter fun p=>decide (p.2.2<0)) (F:=fun p=>(p.1-1)*p.2.1) rfl rfl rfl ac aA
  (jS rfl (nN (c:=cc X) (e:=j3 X) (S:=fun u_=>True) (x:= .it (.zip [.seq (ss.map V.int) 0,.seq (ts.map V.int) 0,.seq (mu.map V.int) 0])) (t:= .zip [.seq (ss.map V.int) 0,.seq (ts.map V.int) 0,.seq (mu.map V.int) 0]) (as:=ss.zip (ts.zip mu)) (f:=fun p=> .tup [.int p.1,.int p.2.1,.int p.2.2]) (b:=fun p=>[("m",.int p.2.2),("z",.int p.2.1),("s",.int p.1)]) (P:=fun u_=>True) (k:=fun p=>decide (p.2.2<0)) (F:=fun p=> .int ((p.1-1)*p.2.1)) ⋯
   (oh (x:=vI ss) (y:=vI ts) (z:=vI mu) ⋯ rfl rfl ⋯ ac ⋯ aA aA aA (ba (x:="shape") ⋯ ac hs rfl hv.at_ rfl rfl) (ba (x:="strides") ⋯ ac hs rfl hv.at_ rfl rfl) (aV (x:="mul") rfl ac hu) rfl rfl rfl) rfl (fun u_=>trivial)
   (fQ (ai _ _) (ai _ _) (ai _ _) ((Gs ‹_›)) ((Gs ‹_›))) (by rw[GQ];exact r7 ‹_› (by exact ac)) trivial (fun p hp own acc u_=>⟨trivial,by kernel_rfl,?_,fun u_=> ?_⟩))))⟩
 ·rw[show ec (j3 X)=[ch (j3 X) 3]from rfl]
  exact jC (bx (op:= .Lt) (KC:=σ++[aa.lst acc]) (x:= .int p.2.2) (y:= .int 0) rfl aA rfl rfl rfl)
 ·exact cG (op:= .Mult) (KC:=σ++[aa.lst acc]) (KG:=σ++[aa.lst acc]) (x:= .int (p.1-1)) rfl rfl rfl (gK (be (k:=1001) (by have:=hb _ (GS hp).1;exact eB ‹_› (by exact ac)) (by decide)) (be (hv.ib _ (GS (GS hp).2).1) (by decide)))
noncomputable def lK(s x y m:Int):Int:=((bif decide (0<m)then x else s-y)+(cF m-1)).fdiv (cF m)
noncomputable def BE(ms:List (Int×Int))(ss mu:List Int):List (Int×Int):=(ms.zip (ss.zip mu)).map fun p=>(lK p.2.1 p.1.1 p.1.2 p.2.2,lK p.2.1 p.1.2 p.1.1 p.2.2)
theorem tG(hs:own.lookup ("self":Str)=some (.inst ag k))(hv:eR σ k ss ts o .none B)(n:Nat):aT (cc X) (lv (cc X) (n+26)) (ah X 829 own) σ (St X 829 4)=some (.ok .next (ah X 829 (("mask",.none)::own)) σ):=
 cm rfl ac ac (tN rfl (bx rfl aA (ba rfl ac hs rfl hv.at_ rfl rfl) rfl rfl) rfl)
theorem ti(hs:own.lookup ("self":Str)=some (.inst ag k))(hu:own.lookup ("mul":Str)=some (vI mu))(hv:eR σ k ss ts o (vP ms) B)(hl:ss.length≤900)(hml:mu.length=ss.length)(hms:ms.length=ss.length)(hm:qR mu)(n:Nat): ∃ext:Sg,aT (cc X) (lv (cc X) (n+26)) (ah X 829 own) σ (St X 829 4)=some (.ok .next (ah X 829 (("mask",vP (BE ms ss mu))::own)) (σ++ext)):=by
 have half: ∀(p:(Int×Int)×Int×Int) (q:p∈ms.zip (ss.zip mu)) (own:List (Str×V)) (acc:List V) (x y:Int) (e:Expr),e= .BinOp (ch e 0) .FloorDiv (ch e 1) (ps e)→ch e 0= .BinOp (ch (ch e 0) 0) .Add (ch (ch e 0) 1) (ps (ch e 0))→ch (ch e 0) 0= .IfExp (ch (ch (ch e 0) 0) 0) (ch (ch (ch e 0) 0) 1) (ch (ch (ch e 0) 0) 2) (ps (ch (ch e 0) 0))→
  ∀en:En,(lv (cc X) (n+18)).tr en (σ++[aa.lst acc]) (ch (ch (ch e 0) 0) 0)=some (.ok (decide (0<p.2.2)) (σ++[aa.lst acc]))→(lv (cc X) (n+18)).ev en (σ++[aa.lst acc]) (ch (ch (ch e 0) 0) 1)=some (.ok (.int x) (σ++[aa.lst acc]))→(lv (cc X) (n+18)).ev en (σ++[aa.lst acc]) (ch (ch (ch e 0) 0) 2)=some (.ok (.int (p.2.1-y)) (σ++[aa.lst acc]))→
  (lv (cc X) (n+19)).ev en (σ++[aa.lst acc]) (ch (ch e 0) 1)=some (.ok (.int (cF p.2.2-1)) (σ++[aa.lst acc]))→(lv (cc X) (n+20)).ev en (σ++[aa.lst acc]) (ch e 1)=some (.ok (.int (cF p.2.2)) (σ++[aa.lst acc]))→(lv (cc X) (n+21)).ev en (σ++[aa.lst acc]) e=some (.ok (.int (lK p.2.1 x y p.2.2)) (σ++[aa.lst acc])):=by
  intro p q own acc x y e h1 h2 h3 en t0 t1 t2 t3 t4;have ha:=gf (hm _ (GS (GS q).2).2)
  exact cG h1 (cG (x:= .int (bif decide (0<p.2.2)then x else p.2.1-y)) (y:= .int (cF p.2.2-1)) (z:= .int ((bif decide (0<p.2.2)then x else p.2.1-y)+(cF p.2.2-1))) h2 (zl h3 t0 (fun u_=>t1) (fun u_=>t2)) t3 rfl) t4 (oP ha.1 ha.2.1)
 refine⟨_,cm (x:="mask") (xp:=ps (sx (St X 829 4) 1)) rfl ac ac (uh (KC:=σ) rfl (bx (op:= .IsNot) (KC:=σ) (x:=vP ms) (y:= .none) rfl aA (ba (x:="mask") (y:=vP ms) rfl ac hs rfl hv.at_ rfl rfl) rfl rfl)
  (un (as:=ms.zip (ss.zip mu)) (F:=fun p=>(lK p.2.1 p.1.1 p.1.2 p.2.2,lK p.2.1 p.1.2 p.1.1 p.2.2)) rfl rfl rfl ac aA (by rw[GQ];exact EX ‹_› ‹_› (by exact ac))
   (bN (S:=fun u_=>True) (x:= .it (.zip [.seq (ms.map pP) 0,.seq (ss.map V.int) 0,.seq (mu.map V.int) 0])) (t:= .zip [.seq (ms.map pP) 0,.seq (ss.map V.int) 0,.seq (mu.map V.int) 0]) (as:=ms.zip (ss.zip mu)) (f:=fun p=> .tup [pP p.1,.int p.2.1,.int p.2.2]) (b:=fun p=>[("m",.int p.2.2),("s",.int p.2.1),("my",.int p.1.2),("mx",.int p.1.1)]) (P:=fun u_=>True) ⋯ rfl ⋯
    (oh (x:=vP ms) (y:=vI ss) (z:=vI mu) ⋯ rfl rfl ⋯ ⋯ ⋯ ⋯ ⋯ ⋯ (ba (x:="mask") (y:=vP ms) ⋯ ac hs rfl hv.at_ rfl rfl) (ba (x:="shape") ⋯ ac hs rfl hv.at_ rfl rfl) (aV (x:="mul") ⋯ ac hu) rfl rfl rfl) rfl (fun u_=>trivial)
    (fQ (ai _ _) (ai _ _) (ai _ _) (by assumption) (Gr ‹_› (Gs ‹_›))) (by rw[GQ];exact EL ‹_› ‹_› (by exact ac)) trivial (fun p hp own acc u_=>⟨trivial,by kernel_rfl,?_⟩))))⟩
 have key: ∀(e:Expr) (en:En),e= .Tuple [ch e 0,ch e 1] (tk (e)) (ps e)→fq (lv (cc X) (n+21)).ev en (σ++[aa.lst acc]) [ch e 0,ch e 1]=some (.ok [.int (lK p.2.1 p.1.1 p.1.2 p.2.2),.int (lK p.2.1 p.1.2 p.1.1 p.2.2)] (σ++[aa.lst acc]))→(lv (cc X) (n+22)).ev en (σ++[aa.lst acc]) e=some (.ok (pP (lK p.2.1 p.1.1 p.1.2 p.2.2,lK p.2.1 p.1.2 p.1.1 p.2.2)) (σ++[aa.lst acc])):=fun e en he h=>
  (congrArg ((lv (cc X) (n+22)).ev en (σ++[aa.lst acc])) he).trans (gD h (show 2≤2^20 by decide))
 refine key _ _ ⋯ (bz ⋯ (half p hp own acc p.1.1 p.1.2 _ ⋯ ⋯ ⋯ _ ?_ ⋯ ⋯ ⋯ ⋯) (bz ⋯ (half p hp own acc p.1.2 p.1.1 _ ⋯ ⋯ ⋯ _ ?_ ⋯ ⋯ ⋯ ⋯) hY))
 ·exact bx (op:= .Gt) (KC:=σ++[aa.lst acc]) (x:= .int p.2.2) (y:= .int 0) ⋯ ⋯ ⋯ ⋯ rfl
 ·exact bx (op:= .Gt) (KC:=σ++[aa.lst acc]) (x:= .int p.2.2) (y:= .int 0) ⋯ ⋯ ⋯ ⋯ rfl
theorem ln{a b:Int}(h:1≤b):(a.fdiv b).natAbs≤a.natAbs:=by
 rw[Int.fdiv_eq_ediv_of_nonneg a (ilc ‹_› (by exact ac))]
 exact Int.natAbs_ediv_le_natAbs a b
theorem BN{a:Int}(h:1≤a∧a≤10):(a-1).natAbs≤9:=qA (a:=0) (b:=9) ⟨GH h.1,Int.sub_le_sub_right h.2 1⟩ (.refl true)
theorem xX(hs: ∀s∈ss,1≤s∧s≤100)(hm:qR mu): ∀s∈fh ss mu,0≤s∧s≤1000:=by
 intro s h;unfold fh at h;refine aK (G0.mp h) fun p hp zz2=> ?_;subst zz2;have a:=hs _ (GS hp).1;have b:=gf (hm _ (GS hp).2);have c:=ln (a:=p.1+(cF p.2-1)) b.2.2.1
 have d:0≤(p.1+(cF p.2-1)).fdiv (cF p.2):=by
  have w:0≤cF p.2:=Gw (by exact Gv _) b.2.2.1
  rw[Int.fdiv_eq_ediv_of_nonneg _ w]
  exact Int.ediv_nonneg (Int.add_nonneg (Gw (by exact Gv _) a.1) (GH b.2.2.1)) w
 exact⟨d,nlm (HV c (zo (n:=1000) (qA (n:=100) a (.refl true)) (BN b.2.2) (.refl true))) (.refl true)⟩
theorem vr{s x y m:Int}(hs:1≤s∧s≤100)(hx:x.natAbs≤2000)(hy:y.natAbs≤2000)(hm:m≠0∧m.natAbs≤10):(lK s x y m).natAbs≤2^30:=by
 have b:=gf hm;unfold lK;refine HV (ln b.2.2.1) ?_
 cases decide (0<m)with
 |true=>exact zo hx (BN b.2.2) (.refl true)
 |false=>exact zo (Cs (n:=2100) (qA (n:=100) hs (.refl true)) hy (.refl true)) (BN b.2.2) (.refl true)
noncomputable abbrev iW(k:Nat)(arg:V):List (Str×V):=[("mul",arg),("self",.inst ag k)]
noncomputable abbrev j5(X:Xp):=sx (St X 829 5) 0
theorem zb(hv:eR σ k ss ts o M B)(hl:ss.length≤4)(h0:ss≠[])(hs: ∀s∈ss,1≤s∧s≤100)(hml:mu.length=ss.length)(hm:qR mu)(n:Nat):gI ((lv (cc X) (n+80)).cf σ 829 [.inst ag k,vI mu] []) σ (fh ss mu):=by
 have t:=Eo (X:=X) (σ:=σ) (k:=k) (mu:=mu) (dH ‹_› ‹_› (by exact ac)) (n+58)
 have hz:nz mu=true:=GX.mpr fun m q=>by have:=(hm m q).1;simp[this]
 rw[hz]at t;have s0:aT (cc X) (lv (cc X) (n+78)) (ah X 829 (iW k (vI mu))) σ (St X 829 0)=some (.ok .next (ah X 829 (iW k (vI mu))) σ):=cw (v:=true) rfl t
 obtain⟨x1,s1⟩:=FM (X:=X) (own:=iW k (vI mu)) rfl rfl hv (bg ‹_› (by exact ac)) hm (n+58)
 have f9:=hv.app (GO σ x1);have p1:=GO σ x1;generalize σ++x1=Lk at s1 f9 p1;refine dw fun kk=> ?_
 obtain⟨x2,s2⟩:=FC (X:=X) (own:=("strides",vI (iP ts mu))::iW k (vI mu)) rfl rfl f9 (bg ‹_› (by exact ac)) hm (n+58)<;>(refine kk ?_;clear kk)
 have oK:=f9.app (GO Lk x2);have p2:=p1.trans (GO Lk x2);generalize Lk++x2=Lw at s2 oK p2
 obtain⟨z,x3,s3⟩:=F3 (X:=X) (own:=("new_shape",vI (fh ss mu))::("strides",vI (iP ts mu))::iW k (vI mu)) rfl rfl oK (bg ‹_› (by exact ac)) hml (fun s q=>by have:=hs s q;exact qA ‹_› (by exact ac)) (n+58)
 have hv3:=oK.app (GO Lw x3);have p3:=p2.trans (GO Lw x3);generalize Lw++x3=σ3 at s3 hv3 p3
 have key: ∃(Mk:V) (ext:Sg),(Mk= .none∨ ∃ms,Mk=vP ms∧ms.length=ss.length∧ ∀m∈ms,m.1.natAbs≤2^30)∧aT (cc X) (lv (cc X) (n+78)) (ah X 829 (("offset",.int z)::("new_shape",vI (fh ss mu))::("strides",vI (iP ts mu))::iW k (vI mu))) σ3 (St X 829 4)=some (.ok .next (ah X 829 (("mask",Mk)::("offset",.int z)::("new_shape",vI (fh ss mu))::("strides",vI (iP ts mu))::iW k (vI mu))) (σ3++ext)):=by
  rcases hv3.mq with rfl|⟨ms,rfl,lm,pb⟩
  ·exact⟨.none,[],.inl rfl,by rw[G2];exact tG (X:=X) (own:=("offset",.int z)::("new_shape",vI (fh ss mu))::("strides",vI (iP ts mu))::iW k (vI mu)) rfl hv3 (n+52)⟩
  ·refine dw fun kk=> ?_
   obtain⟨ext,h⟩:=ti (X:=X) (own:=("offset",.int z)::("new_shape",vI (fh ss mu))::("strides",vI (iP ts mu))::iW k (vI mu)) rfl rfl hv3 (bg ‹_› (by exact ac)) hml lm hm (n+52)<;>(refine kk ?_;clear kk)
   refine⟨_,ext,.inr ⟨_,rfl,by unfold BE;rw[GM,GQ,GQ];exact m3 ‹_› ‹_›,fun m hm'=> ?_⟩,h⟩
   unfold BE at hm';obtain⟨p,hp,rfl⟩:=G0.mp hm';have a:=pb _ (GS hp).1;exact vr (hs _ (GS (GS hp).2).1) a.1 a.2 (hm _ (GS (GS hp).2).2)
 refine dw fun kk=> ?_;obtain⟨Mk,ext,hM,s4⟩:=key<;>(refine kk ?_;clear kk)
 have hv4:=hv3.app (GO σ3 ext);have p4:=p3.trans (GO σ3 ext);generalize σ3++ext=σ4 at s4 hv4 p4
 have lc:(fh ss mu).length=ss.length:=by unfold fh;rw[GM,GQ];exact D_ ‹_›
 have lm:(iP ts mu).length=ss.length:=by have:=hv.lt;unfold iP;rw[GM,GQ];exact mq ‹_› ‹_›
 have hc:=xX hs hm
 have hb: ∀t∈iP ts mu,t.natAbs≤2^30:=fun t q=>by
  unfold iP at q;obtain⟨p,hp,rfl⟩:=G0.mp q;have a:=hv.ib _ (GS hp).1;have b:=(hm _ (GS hp).2).2;rw[Int.natAbs_mul]
  exact HV (Nat.mul_le_mul a b) (by decide)
 have:=kF (X:=X) (σ:=σ4) (ss:=fh ss mu) (T:=vI (iP ts mu)) (o:=o+z) (M:=Mk) ⟨by exact dH ‹_› ‹_› (by exact ac),fun s q=>by have:=hc s q;exact qA ‹_› (by exact ac)⟩ (fun q=>h0 (G' (by rw[←lc,q];rfl))) (fun s q=>(hc s q).1)
  (.inr ⟨_,rfl,by exact Gr ‹_› (Gs ‹_›),hM.imp id fun h'=>bW h' fun ms e l q=>⟨ms,e,by exact Gr ‹_› (Gs ‹_›),hb,q⟩⟩) (n+25)
 have N: ∀{x:Str} {v:V} {e:Expr} {own:List (Str×V)},e= .Name x (ps e)→dP X 829 x=true→own.lookup x=some v→(lv (cc X) (n+77)).iv (ah X 829 own) σ4 e=some (.ok (.v v) σ4):=fun he hk h=>bA (by rw[he];rfl) (aV he hk h)
 have:=i6 (own:=("mask",Mk)::("offset",.int z)::("new_shape",vI (fh ss mu))::("strides",vI (iP ts mu))::iW k (vI mu)) (e:=j5 X) (a:=829) (args:=[ch (j5 X) 1,ch (j5 X) 2,ch (j5 X) 3,ch (j5 X) 4]) (xs:=[vI (fh ss mu),vI (iP ts mu),.int (o+z),Mk]) rfl ac rfl
  (aO ac (N rfl ac rfl) (aO ac (N rfl ac rfl) (aO ac (bA aA (cG rfl (ba rfl ac rfl rfl hv4.at_ rfl rfl) (aV rfl ac rfl) rfl))
   (aO ac (N rfl ac rfl) fS)))) (GU _) this
 refine dw fun kk=> ?_;obtain⟨KB,T,O,M',B',p,hr⟩:=this<;>(refine kk ?_;clear kk)
 refine⟨_,_,T,O,M',B',(p4.trans p).trans (GO _ _),bp (a:=829) (binds:=[("self",.inst ag k),("mul",vI mu)]) (so:= .ok (.ret (.inst ag KB.length)) (ah X 829 (("mask",Mk)::("offset",.int z)::("new_shape",vI (fh ss mu))::("strides",vI (iP ts mu))::iW k (vI mu))) (KB++[aa.dct (bc (vI (fh ss mu)) T O M' B')])) ⋯ ⋯ ac ?_ rfl,cK⟩
 rw[show aD X 829=[St X 829 0,St X 829 1,St X 829 2,St X 829 3,St X 829 4,St X 829 5]from rfl]
 exact ab s0 (ab s1 (ab s2 (ab s3 (ab s4 (aq (dA rfl hr))))))
theorem yS(hml:mu.length≤900)(h:nz mu=false)(n:Nat):dh ((lv (cc X) (n+80)).cf σ 829 [.inst ag k,vI mu] []) σ:=by
 have t:=Eo (X:=X) (σ:=σ) (k:=k) (mu:=mu) hml (n+58);rw[h]at t;have s0:aT (cc X) (lv (cc X) (n+78)) (ah X 829 (iW k (vI mu))) σ (St X 829 0)=some (.exc "AssertionError" (ah X 829 (iW k (vI mu))) σ):=cw (v:=false) rfl t
 refine⟨"AssertionError",σ,.inl rfl,GU _,bp (a:=829) (binds:=[("self",.inst ag k),("mul",vI mu)]) ⋯ ⋯ ac (so:= .exc "AssertionError" (ah X 829 (iW k (vI mu))) σ) ?_ rfl⟩
 rw[show aD X 829=[St X 829 0,St X 829 1,St X 829 2,St X 829 3,St X 829 4,St X 829 5]from rfl]
 exact bO s0
end
section
section
variable {cls:String}
theorem sR(hc:aY e=false)(h:(lv c n).ev en σ e=some (.exc cls KC)):(lv c (n+1)).iv en σ e=some (.exc cls KC):=
 Av (fun f a k p q=>by rw[q]at hc;exact Cn hc) h rfl
theorem gS(hc:aY e=true)(h:(lv c (n+1)).iv en σ e=some (.exc cls KC)):(lv c (n+1)).ev en σ e=some (.exc cls KC):=by
 refine mF hc fun f a k p q=> ?_;subst q;change cj c (lv c n) en σ f a k p=_ at h;show f_ (cj c (lv c n) en σ f a k p)=_;rw[h];rfl
theorem sq{f:iR}(hs:al [e]=true)(h1:f en σ e=some (.exc cls KC)):dW f en σ [e]=some (.exc cls KC):=by
 show(if db e=true then none else aw (f en σ e) fun x KC=>aw (dW f en KC []) fun xs KG=>some (.ok (x::xs) KG))=_
 rw[if_neg (bj hs).1,h1];rfl
theorem y_(hs:al [e]=true)(h1:f en σ e=some (.exc cls KC)):fq f en σ [e]=some (.exc cls KC):=by
 show(if db e=true then none else aw (f en σ e) fun x KC=>aw (fq f en KC []) fun xs KG=>some (.ok (x::xs) KG))=_
 rw[if_neg (bj hs).1,h1];rfl
theorem zU(he:e= .Tuple [ch e 0] (tk (e)) (ps e))(hs:al [ch e 0]=true)(h:(lv c n).ev en σ (ch e 0)=some (.ok x KC)):(lv c (n+1)).ev en σ e=some (.ok (.tup [x]) KC):=
 (congrArg ((lv c (n+1)).ev en σ) he).trans (gD (bz hs h hY) (show 1≤2^20 by decide))
theorem nC(he:e= .Tuple [ch e 0] (tk (e)) (ps e))(hs:al [ch e 0]=true)(h:(lv c n).ev en σ (ch e 0)=some (.exc cls KC)):(lv c (n+1)).ev en σ e=some (.exc cls KC):=by
 refine(congrArg ((lv c (n+1)).ev en σ) he).trans ?_;show aw (fq (lv c n).ev en σ [ch e 0]) _=_;exact Fm (y_ hs h)
theorem vC(he:e= .BinOp (ch e 0) op (ch e 1) (ps e))(h1:(lv c n).ev en σ (ch e 0)=some (.ok x KC))(h2:(lv c n).ev en KC (ch e 1)=some (.exc cls KG)):(lv c (n+1)).ev en σ e=some (.exc cls KG):=
 (congrArg ((lv c (n+1)).ev en σ) he).trans (rO h1 h2)
theorem m7{x:Str}(he:e= .Call (.Name x (ps (ch e 0))) args [] (ps e))(hg:cJ args=none)(hx:aR c en x=some (.val fv))(hc:(al args&&bJ c.K fv)=true)
 (h1:dW (lv c (n+1)).iv en σ args=some (.exc cls KC)):(lv c (n+2)).iv en σ e=some (.exc cls KC):=by
 rw[he];have hc:=Gg.mp hc;refine gV (jB ?_ hx ?_)
 ·refine(?_:(if(List.isEmpty ([]:List Keyword))=true then(cJ args).map _ else none)=none)
  rw[hg];rfl
 ·unfold eZ
  rw[if_pos (by rw[hc.1,hc.2];rfl)]
  exact Fm h1
end
noncomputable def av:Addr:=match NM.lookup ("ShapeTracker":Str)with
 |some (.ref a)=>a
 |_=>0
noncomputable abbrev cO(vs:V):List (Str×V):=[("views",vs)]
section
variable {X:Xp}{S T M v:V}{own:List (Str×V)}
theorem DB{vs:V}(hk:σ[j]? =some (aa.dct (cO vs)))(hy:dg vs=true):jo (cc X) σ (.inst av j) "views"=some (.val vs):=
 rS hk (attr:=none) ⋯ ⋯ rfl (by rw[hy];rfl)
theorem B3:di (cc X) (σ++[aa.dct []]) (.inst av σ.length) "views" y=some (σ++[aa.dct (cO y)]):=
 i0 (fs:=[]) ⋯ (H9 _)
theorem zu(vs:V)(σ:Sg)(n:Nat):(lv (cc X) (n+12)).cf (σ++[aa.dct []]) 863 [.inst av σ.length,vs] []=some (.ok .none (σ++[aa.dct (cO vs)])):=by
 refine bp (a:=863) (so:= .ok .next (ah X 863 [("views",vs),("self",.inst av σ.length)]) (σ++[aa.dct (cO vs)])) ⋯ (binds:=[("self",.inst av σ.length),("views",vs)]) ⋯ ac ?_ rfl
 rw[show aD X 863=[St X 863 0]from rfl]
 exact aq (gc rfl ac rfl rfl (fM (name:="views") rfl rfl B3))
theorem rT(vs:V)(σ:Sg)(n:Nat):aJ (cc X) (lv (cc X) (n+12)).cf σ (.ref av) [.v vs] []=some (.ok (.v (.inst av σ.length)) (σ++[aa.dct (cO vs)])):=
 sk (xs:=[vs]) (fI:=863) rfl ac rfl rfl (zu vs σ n)
theorem ma{vs:V}(he:e= .Attribute (.Name ("self":Str) (ps (ch e 0))) ("views":Str) (ps e))(hk:dP X a "self"=true)(hs:own.lookup ("self":Str)=some (.inst av j))(hc:σ[j]? =some (aa.dct (cO vs)))(hy:dg vs=true):(lv (cc X) (n+2)).ev (ah X a own) σ e=some (.ok vs σ):=by
 rw[he];exact ol rfl (fV (EI hk hs)) (DB hc hy)
end
noncomputable def d8(r:Option (aG V))(σ:Sg)(ss:List Int):Prop:= ∃j KB vs k T O M B,σ<+:KB∧r=some (.ok (.inst av j) KB)∧KB[j]? =some (aa.dct (cO (.tup (vs++[.inst ag k]))))∧KB[k]? =some (aa.dct (bc (vI ss) T O M B))
theorem d8.elim{r:Option (aG V)}(h:d8 r σ ss)(k: ∀j KB vs k T O M B,σ<+:KB→r=some (.ok (.inst av j) KB)→KB[j]? =some (aa.dct (cO (.tup (vs++[.inst ag k]))))→KB[k]? =some (aa.dct (bc (vI ss) T O M B))→G):G:=by
 obtain⟨a,b,c,d,e,f,g,l,m,o,p,q⟩:=h;exact k a b c d e f g l m o p q
theorem lt5:i<5→i=0∨i=1∨i=2∨i=3∨i=4:=(by decide: ∀i,i<5→i=0∨i=1∨i=2∨i=3∨i=4) i
noncomputable abbrev tE(X:Xp)(a:Addr):=sx (St X a 0) 0
noncomputable abbrev tA(X:Xp)(a:Addr):=ch (tE X a) 1
noncomputable abbrev tC(X:Xp)(a:Addr):=ch (ch (tA X a) 1) 0
structure oO(X:Xp)(a f:Addr)(pn mn:Str):Prop where
 pl:dU X a=true
 bd:aD X a=[St X a 0]
 rt:St X a 0= .Return (some (sx (St X a 0) 0)) (kB (St X a 0))
 b1: ∀x v:V,eU ((dZ X a).params.args.map (·.arg)) [x,v] [] ((o6 X a).map xM)=some [(("self":Str),x),(pn,v)]
 b2: ∀x v:V,hO (dZ X a).scope.names [(("self":Str),x),(pn,v)]=true
 e1:tE X a= .Call (.Name ("ShapeTracker":Str) (ps (ch (tE X a) 0))) [tA X a] [] (ps (tE X a))
 c1:aY (tE X a)=true∧cJ [tA X a]=none∧(al [tA X a]&&bJ (cc X).K (.ref av))=true∧aY (tA X a)=false
 n1: ∀own,aR (cc X) (ah X a own) "ShapeTracker"=some (.val (.ref av))
 e2:tA X a= .BinOp (ch (tA X a) 0) .Add (ch (tA X a) 1) (ps (tA X a))
 e3:ch (tA X a) 0= .Subscript (ch (ch (tA X a) 0) 0) (.Slice (some (ch (ch (ch (tA X a) 0) 1) 0)) (some (ch (ch (ch (tA X a) 0) 1) 1)) none (ps (ch (ch (tA X a) 0) 1))) (ps (ch (tA X a) 0))
 e4:ch (ch (tA X a) 0) 0= .Attribute (.Name ("self":Str) (ps (ch (ch (ch (tA X a) 0) 0) 0))) ("views":Str) (ps (ch (ch (tA X a) 0) 0))
 k1: ∀en σ n,(lv (cc X) (n+3)).ev en σ (ch (ch (ch (tA X a) 0) 1) 0)=some (.ok (.int 0) σ)∧(lv (cc X) (n+3)).ev en σ (ch (ch (ch (tA X a) 0) 1) 1)=some (.ok (.int (-1)) σ)
 e5:ch (tA X a) 1= .Tuple [ch (ch (tA X a) 1) 0] (tk (ch (tA X a) 1)) (ps (ch (tA X a) 1))
 s5:al [tC X a]=true∧aY (tC X a)=true
 e6:tC X a= .Call (.Attribute (ch (ch (tC X a) 0) 0) mn (ps (ch (tC X a) 0))) [ch (tC X a) 1] [] (ps (tC X a))
 p6:(aU (ch (ch (tC X a) 0) 0)&&(ps (ch (tC X a) 0)).endLine==(ps (tC X a)).line&&decide ([ch (tC X a) 1].length+0<20)&&al [ch (tC X a) 1])=true
 e7:ch (ch (tC X a) 0) 0= .Subscript (ch (ch (ch (tC X a) 0) 0) 0) (ch (ch (ch (tC X a) 0) 0) 1) (ps (ch (ch (tC X a) 0) 0))
 s7:bB (ch (ch (ch (tC X a) 0) 0) 1)=true
 e8:ch (ch (ch (tC X a) 0) 0) 0= .Attribute (.Name ("self":Str) (ps (ch (ch (ch (ch (tC X a) 0) 0) 0) 0))) ("views":Str) (ps (ch (ch (ch (tC X a) 0) 0) 0))
 k2: ∀en σ n,(lv (cc X) (n+3)).ev en σ (ch (ch (ch (tC X a) 0) 0) 1)=some (.ok (.int (-1)) σ)
 e9:ch (tC X a) 1= .Name pn (ps (ch (tC X a) 1))
 o1:dP X a "self"=true∧dP X a pn=true∧(("self":Str)==pn)=false
 m1:y8 X ag mn f=true
 m2: ∀S T O M B:V,(eH (bc S T O M B) mn).isNone=true
 f1:dU X f=true∧bJ (cc X).K (.ref f)=true
end
section
variable {X:Xp}{v:V}{f:Addr}{pn:Str}
theorem rR(I:oO X a f pn mn)(hj:σ[j]? =some (aa.dct (cO (.tup [.inst ag k])))){S T M:V}(hk:σ[k]? =some (aa.dct (bc S T O M B)))(hl: ∃o',gu (some o)=some o')(n:Nat)(h:(lv (cc X) (n+10)).cf σ f [.inst ag k,v] []=some o):
 (lv (cc X) (n+11)).ev (ah X a [(pn,v),("self",.inst av j)]) σ (tC X a)=some o:=by
 have hs:G3 ("self":Str) [(pn,v),("self",V.inst av j)]=some (.inst av j):=by
  rw[G5,I.o1.2.2];rfl
 have hp:G3 pn [(pn,v),("self",V.inst av j)]=some v:=Hz;have it:gk σ (.tup [.inst ag k]) (-1)=some (.inst ag k):=rfl;have hx:(lv (cc X) (n+10)).ev (ah X a [(pn,v),("self",.inst av j)]) σ (ch (ch (tC X a) 0) 0)=some (.ok (.inst ag k) σ):=c_ I.e7 I.s7 (ma I.e8 I.o1.1 hs hj rfl) (I.k2 _ _ (n+6)) it
 have ha:dW (lv (cc X) (n+10)).iv (ah X a [(pn,v),("self",.inst av j)]) σ [ch (tC X a) 1]=some (.ok [.v v] σ):=kO (by rw[I.e9];rfl) (bA (by rw[I.e9];rfl) (aV I.e9 I.o1.2.1 hp))
 cases o with
 |ok y KB=>exact ku I.s5.2 (gr I.e6 I.p6 hx (jp hk (I.m2 _ _ _ _ _) I.m1) I.f1.2 ha (eL (xs:=[.inst ag k,v]) I.f1.1 h))
 |exc cls KB=>exact gS I.s5.2 (gr I.e6 I.p6 hx (jp hk (I.m2 _ _ _ _ _) I.m1) I.f1.2 ha (gL (xs:=[.inst ag k,v]) I.f1.1 h))
theorem rX(I:oO X a f pn mn)(hj:σ[j]? =some (aa.dct (cO (.tup [.inst ag k]))))(n:Nat):(lv (cc X) (n+12)).ev (ah X a [(pn,v),("self",.inst av j)]) σ (ch (tA X a) 0)=some (.ok (.tup []) σ):=by
 have hs:G3 ("self":Str) [(pn,v),("self",V.inst av j)]=some (.inst av j):=by
  rw[G5,I.o1.2.2];rfl
 exact CA (v:= .tup [.inst ag k]) (u:= .int (-1)) (t:= .none) (l':=some 0) (u':=some (-1)) (t':=none) I.e3 (ma I.e4 I.o1.1 hs hj rfl) (I.k1 _ _ (n+8)).1 (I.k1 _ _ (n+8)).2 rfl rfl rfl rfl rfl
theorem DZ(I:oO X a f pn mn)(hj:σ[j]? =some (aa.dct (cO (.tup [.inst ag k])))){S T M:V}(hk:σ[k]? =some (aa.dct (bc S T O M B)))(n:Nat)(h:gI ((lv (cc X) (n+10)).cf σ f [.inst ag k,v] []) σ ss):d8 ((lv (cc X) (n+17)).cf σ a [.inst av j,v] []) σ ss:=by
 refine jT h fun k' KB T' O' M' B' p hr hk'=> ?_;have hv:=rR I hj hk ⟨_,rfl⟩ n hr;have hb:(lv (cc X) (n+13)).ev (ah X a [(pn,v),("self",.inst av j)]) σ (tA X a)=some (.ok (.tup [.inst ag k']) KB):=
  cG I.e2 (rX I hj n) (zU I.e5 I.s5.1 hv) rfl
 have hc:=Gg.mp I.c1.2.2.1;have ht:(lv (cc X) (n+15)).ev (ah X a [(pn,v),("self",.inst av j)]) σ (tE X a)=some (.ok (.inst av KB.length) (KB++[aa.dct (cO (.tup [.inst ag k']))])):=
  ku I.c1.1 (cM I.e1 I.c1.2.1 (I.n1 _) I.c1.2.2.1 (kO hc.1 (bA I.c1.2.2.2 hb)) (rT (.tup [.inst ag k']) KB (n+2)))
 refine⟨_,_,[],k',T',O',M',B',p.trans (GO _ _),bp I.pl (I.b1 _ _) (I.b2 _ _) (so:= .ok (.ret (.inst av KB.length)) (ah X a [(pn,v),("self",.inst av j)]) (KB++[aa.dct (cO (.tup [.inst ag k']))])) ?_ rfl,cK,bZ hk'⟩;refine(I.bd).symm▸ ?_;exact aq (dA I.rt ht)
theorem DC(I:oO X a f pn mn)(hj:σ[j]? =some (aa.dct (cO (.tup [.inst ag k])))){S T M:V}(hk:σ[k]? =some (aa.dct (bc S T O M B)))(n:Nat)(h:dh ((lv (cc X) (n+10)).cf σ f [.inst ag k,v] []) σ):dh ((lv (cc X) (n+17)).cf σ a [.inst av j,v] []) σ:=by
 refine dC h fun cls KB hcls p hr=> ?_;have hv:=rR I hj hk ⟨_,rfl⟩ n hr;have hb:(lv (cc X) (n+13)).ev (ah X a [(pn,v),("self",.inst av j)]) σ (tA X a)=some (.exc cls KB):=
  vC I.e2 (rX I hj n) (nC I.e5 I.s5.1 hv)
 have hc:=Gg.mp I.c1.2.2.1;have ht:(lv (cc X) (n+15)).ev (ah X a [(pn,v),("self",.inst av j)]) σ (tE X a)=some (.exc cls KB):=
  gS I.c1.1 (m7 I.e1 I.c1.2.1 (I.n1 _) I.c1.2.2.1 (sq hc.1 (sR I.c1.2.2.2 hb)))
 refine⟨cls,KB,hcls,p,bp I.pl (I.b1 _ _) (I.b2 _ _) (so:= .exc cls (ah X a [(pn,v),("self",.inst av j)]) KB) ?_ rfl⟩;refine(I.bd).symm▸ ?_;exact bO (i9 I.rt ht)
theorem Dz(X:Xp):oO X 978 805 "arg" "pad":=⟨by kernel_rfl,rfl,rfl,fun u_ u_=>by kernel_rfl,fun u_ u_=>ac,rfl,⟨ac,rfl,by kernel_rfl,aA⟩,fun u_=>rfl,rfl,by kernel_rfl,by kernel_rfl,fun u_ u_ u_=>⟨rfl,by kernel_rfl⟩,by kernel_rfl,⟨ac,ac⟩,by kernel_rfl,by kernel_rfl,by kernel_rfl,by kernel_rfl,by kernel_rfl,fun u_ u_ u_=>by kernel_rfl,by kernel_rfl,⟨ac,ac,aA⟩,by kernel_rfl,fun u_ u_ u_ u_ u_=>ac,⟨by kernel_rfl,ac⟩⟩
theorem Dp(X:Xp):oO X 985 812 "arg" "shrink":=⟨by kernel_rfl,rfl,rfl,fun u_ u_=>by kernel_rfl,fun u_ u_=>ac,rfl,⟨ac,rfl,by kernel_rfl,aA⟩,fun u_=>rfl,rfl,by kernel_rfl,by kernel_rfl,fun u_ u_ u_=>⟨rfl,rfl⟩,by kernel_rfl,⟨ac,by kernel_rfl⟩,by kernel_rfl,by kernel_rfl,by kernel_rfl,by kernel_rfl,by kernel_rfl,fun u_ u_ u_=>by kernel_rfl,by kernel_rfl,⟨ac,ac,aA⟩,by kernel_rfl,fun u_ u_ u_ u_ u_=>ac,⟨by kernel_rfl,ac⟩⟩
theorem C9(X:Xp):oO X 992 817 "new_shape" "expand":=⟨by kernel_rfl,rfl,rfl,fun u_ u_=>by kernel_rfl,fun u_ u_=>ac,rfl,⟨ac,rfl,by kernel_rfl,aA⟩,fun u_=>rfl,rfl,by kernel_rfl,by kernel_rfl,fun u_ u_ u_=>⟨rfl,rfl⟩,by kernel_rfl,⟨ac,ac⟩,by kernel_rfl,by kernel_rfl,by kernel_rfl,by kernel_rfl,by kernel_rfl,fun u_ u_ u_=>by kernel_rfl,by kernel_rfl,⟨ac,ac,aA⟩,by kernel_rfl,fun u_ u_ u_ u_ u_=>ac,⟨by kernel_rfl,ac⟩⟩
theorem CN(X:Xp):oO X 999 824 "axis" "permute":=⟨by kernel_rfl,rfl,rfl,fun u_ u_=>by kernel_rfl,fun u_ u_=>ac,rfl,⟨ac,rfl,by kernel_rfl,aA⟩,fun u_=>rfl,rfl,by kernel_rfl,by kernel_rfl,fun u_ u_ u_=>⟨by kernel_rfl,by kernel_rfl⟩,by kernel_rfl,⟨by kernel_rfl,ac⟩,by kernel_rfl,by kernel_rfl,by kernel_rfl,by kernel_rfl,by kernel_rfl,fun u_ u_ u_=>by kernel_rfl,by kernel_rfl,⟨ac,ac,aA⟩,by kernel_rfl,fun u_ u_ u_ u_ u_=>ac,⟨by kernel_rfl,ac⟩⟩
theorem Ac(X:Xp):oO X 1006 829 "mul" "stride":=⟨by kernel_rfl,rfl,rfl,fun u_ u_=>by kernel_rfl,fun u_ u_=>ac,rfl,⟨ac,rfl,by kernel_rfl,aA⟩,fun u_=>rfl,rfl,by kernel_rfl,by kernel_rfl,fun u_ u_ u_=>⟨by kernel_rfl,by kernel_rfl⟩,by kernel_rfl,⟨by kernel_rfl,by kernel_rfl⟩,by kernel_rfl,by kernel_rfl,by kernel_rfl,by kernel_rfl,by kernel_rfl,fun u_ u_ u_=>by kernel_rfl,by kernel_rfl,⟨ac,ac,aA⟩,by kernel_rfl,fun u_ u_ u_ u_ u_=>ac,⟨by kernel_rfl,ac⟩⟩
end
section
variable {X:Xp}{own:List (Str×V)}{S M Mk:V}{ts xs mu:List Int}{o:Int}{as ms:List (Int×Int)}
noncomputable def aS:Int→List Int→Int
 |p,[]=>p
 |p,a::l=>aS (p*a) l
theorem mB(xs:List Int): ∀(p:Int) (i:Nat) (h:i<xs.length),aS p (xs.take (i+1))=aS p (xs.take i)*xs[i]:=by
 induction xs with
 |nil=>intro p i h;exact absurd h (by exact of_decide_eq_false rfl)
 |cons x xs ih=>
  intro p i h
  cases i with
  |zero=>rfl
  |succ i=>exact ih (p*x) i (by simpa using h)
structure lG(X:Xp)(a:Addr)(xn rn:Str):Prop where
 pl:dU X a=true
 bd:aD X a=[St X a 0,St X a 1,St X a 2]
 b1: ∀v:V,eU ((dZ X a).params.args.map (·.arg)) [v] [] ((o6 X a).map xM)=some [(xn,v)]
 b2: ∀v:V,hO (dZ X a).scope.names [(xn,v)]=true
 s0: ∀(v:V) σ n,aT (cc X) (lv (cc X) (n+8)) (ah X a [(xn,v)]) σ (St X a 0)=some (.ok .next (ah X a [(rn,.int 1),(xn,v)]) σ)
 s1:St X a 1= .For (sx (St X a 1) 0) (sx (St X a 1) 1) (aj (St X a 1)) (cW (St X a 1)) (kB (St X a 1))∧dt (sx (St X a 1) 1)=true∧cW (St X a 1)=[]∧aj (St X a 1)=[si (aj (St X a 1)) 0]
 i1:sx (St X a 1) 1= .Name xn (ps (sx (St X a 1) 1))∧dP X a xn=true∧(rn==xn)=false∧(xn==rn)=false
 t1: ∀(own:List (Str×V)) σ f y,eP (cc X) f 8 (sx (St X a 1) 0) (ah X a own) σ y=some (ah X a (("s",y)::own),σ)
 l1:si (aj (St X a 1)) 0= .Assign [.Name rn (ps (sx (si (aj (St X a 1)) 0) 1))] (sx (si (aj (St X a 1)) 0) 0) (kB (si (aj (St X a 1)) 0))∧cr (sx (si (aj (St X a 1)) 0) 0)=true∧ ∀own,bH (ah X a own) rn=true
 l2:sx (si (aj (St X a 1)) 0) 0= .BinOp (ch (sx (si (aj (St X a 1)) 0) 0) 0) .Mult (ch (sx (si (aj (St X a 1)) 0) 0) 1) (ps (sx (si (aj (St X a 1)) 0) 0))
 l3:ch (sx (si (aj (St X a 1)) 0) 0) 0= .Name rn (ps (ch (sx (si (aj (St X a 1)) 0) 0) 0))∧dP X a rn=true
 l4:ch (sx (si (aj (St X a 1)) 0) 0) 1= .Name ("s":Str) (ps (ch (sx (si (aj (St X a 1)) 0) 0) 1))∧dP X a "s"=true∧(rn==("s":Str))=false
 r1:St X a 2= .Return (some (sx (St X a 2) 0)) (kB (St X a 2))∧sx (St X a 2) 0= .Name rn (ps (sx (St X a 2) 0))
theorem AK(I:lG X a xn rn)(hs:bU xs){v:V}(ht:aC σ (.v v)=some t)(tl:aE (fun KB=>KB=σ) t (xs.map V.int))(n:Nat):(lv (cc X) (n+20)).cf σ a [v] []=some (.ok (.int (aS 1 xs)) σ):=by
 have hl:=hs.1;have key:=DP (g:=eP (cc X) (lv (cc X) (n+18)).ev 8) (fs:=(lv (cc X) (n+18)).exs) (target:=sx (St X a 1) 0) (body:=aj (St X a 1)) (as:=xs) (f:=V.int) (σ:=σ) (en:=ah X a [(rn,.int 1),(xn,v)]) (S:=fun KB=>KB=σ)
  (I:=fun i en KB=>KB=σ∧ ∃(own:List (Str×V)),en=ah X a own∧own.lookup rn=some (.int (aS 1 (xs.take i)))∧(aS 1 (xs.take i)).natAbs≤1000^i) (L:=σ.length) (by rintro _ _ _ ⟨rfl,_⟩;exact HW _) (fun u_ u_ u_ h=>h.1) tl (by show xs.length<4096;exact fH ‹_› (by exact ac)) (fun u_ u_=>rfl) ⟨rfl,_,rfl,Hz,HW 1⟩ ?_
 ·obtain⟨en',KB,⟨rfl,own,rfl,h1,h2⟩,hf⟩:=key;rw[List.take_length]at h1
  have s1:aT (cc X) (lv (cc X) (n+18)) (ah X a [(rn,.int 1),(xn,v)]) KB (St X a 1)=some (.ok .next (ah X a own) KB):=by
   refine AU I.s1.1 I.s1.2.1 (bA (by rw[I.i1.1];rfl) (aV I.i1.1 I.i1.2.1 (by rw[G5,I.i1.2.2.2];exact Hz))) ht ?_
   refine(I.s1.2.2.1).symm▸ ?_;exact hf
  refine bp I.pl (I.b1 v) (I.b2 v) (so:= .ok (.ret (.int (aS 1 xs))) (ah X a own) KB) ?_ rfl;refine(I.bd).symm▸ ?_;exact ab (I.s0 v KB (n+10)) (ab s1 (aq (dA I.r1.1 (aV I.r1.2 I.l3.2 h1))))
 ·rintro i hi _ _ ⟨rfl,own,rfl,h1,h2⟩
  have hi4:i<4:=by exact H8 (by assumption) (by assumption)
  have hb:=hs.2 _ (Hb hi)
  have hp:bG (aS 1 (xs.take i))=true:=be h2 (H4 (Nat.pow_le_pow_right (by exact HX _) (H' hi4)) (by decide))
  have ha:bG xs[i]=true:=be hb (by decide)
  refine⟨_,_,ah X a ((rn,.int (aS 1 (xs.take i)*xs[i]))::("s",.int xs[i])::own),_,I.t1 own _ _ _,?_,rfl,_,rfl,?_,?_⟩
  ·refine(I.s1.2.2.2).symm▸ ?_
   exact aq (cm I.l1.1 I.l1.2.1 (I.l1.2.2 _) (cG I.l2 (aV I.l3.1 I.l3.2 (by rw[G5,I.l4.2.2];exact h1)) (aV I.l4.1 I.l4.2.1 Hz) (gK hp ha)))
  ·rw[Hz,mB xs 1 i hi]
  ·rw[mB xs 1 i hi,Int.natAbs_mul,Nat.pow_succ];exact Nat.mul_le_mul h2 hb
theorem P28(X:Xp):lG X 28 "x" "ret":=⟨ac,rfl,fun u_=>by kernel_rfl,fun u_=>ac,fun u_ u_ u_=>rfl,⟨rfl,ac,rfl,rfl⟩,⟨rfl,ac,aA,aA⟩,fun u_ u_ u_ u_=>rfl,⟨rfl,ac,fun u_=>ac⟩,rfl,⟨rfl,ac⟩,⟨rfl,ac,aA⟩,⟨rfl,rfl⟩⟩
theorem xw(X:Xp):lG X 1046 "shape" "found":=⟨by kernel_rfl,rfl,fun u_=>by kernel_rfl,fun u_=>ac,fun u_ u_ u_=>rfl,⟨rfl,ac,rfl,rfl⟩,⟨rfl,ac,aA,aA⟩,fun u_ u_ u_ u_=>rfl,⟨rfl,ac,fun u_=>ac⟩,rfl,⟨rfl,ac⟩,⟨rfl,ac,aA⟩,⟨rfl,rfl⟩⟩
theorem sL(hs:bU xs)(n:Nat)(I:lG X a xn rn):(lv (cc X) (n+20)).cf σ a [vI xs] []=some (.ok (.int (aS 1 xs)) σ):=AK I hs rfl (ai _ _) n
theorem Dg(hs:bU xs)(hj:σ[j]? =some (aa.lst (xs.map V.int)))(n:Nat)(I:lG X a xn rn):(lv (cc X) (n+20)).cf σ a [.lst j] []=some (.ok (.int (aS 1 xs)) σ):=AK I hs (fJ hj) (eu fun KB q=>by rw[q];exact hj) n
theorem BD(hl:ss.length≤900)(n:Nat):(lv (cc X) (n+20)).cf σ 35 [vI ss] []=some (.ok (.bool true) σ):=by
 refine bp (a:=35) (binds:=[("t",vI ss)]) ac ⋯ ac (so:= .ok (.ret (.bool true)) (ah X 35 [("t",vI ss)]) σ) ?_ rfl
 rw[show aD X 35=[St X 35 0]from rfl]
 have:=iz (c:=cc X) (n:=n+17) (σ:=σ) (e:=sx (St X 35 0) 0) (en:=ah X 35 [("t",vI ss)]) (S:=fun u_=>True) (t:= .seq (ss.map V.int) 0) (as:=ss) (f:=V.int) (b:=fun p=>[("s",.int p)]) (F:=fun p=> .bool true) (q:=fun u_=>true) rfl ac rfl
  (bA aA (aV rfl ac rfl)) rfl trivial (ai _ _) (fH ‹_› (by exact ac)) (fun p u_ own=>⟨rfl,rfl⟩) (fun u_ u_=>rfl)
 rw[GX.mpr (fun u_ u_=>rfl)]at this;exact aq (dA rfl this)
end
section
theorem Al(he:e= .BoolOp .And (ch e 0::es) (ps e))(h1:(lv c n).tr en σ (ch e 0)=some (.ok false σ)):(lv c (n+1)).tr en σ e=some (.ok false σ):=by
 rw[he];exact iX (de h1 rfl)
variable {X:Xp}{own:List (Str×V)}{S M Mk:V}{ts xs mu:List Int}{o:Int}{as ms:List (Int×Int)}
theorem DM(hs:own.lookup ("self":Str)=some (.inst ag k))(hx:own.lookup ("new_shape":Str)=some (vI xs))(hv:eR σ k ss ts o M B)(hl:ss.length≤4)(n:Nat):(lv (cc X) (n+20)).tr (ah X 834 own) σ (sx (St X 834 0) 0)=some (.ok (ss==xs) σ):=
 bx (op:= .Eq) (KC:=σ) (x:=vI ss) (y:=vI xs) rfl aA (ba (x:="shape") rfl ac hs rfl hv.at_ rfl rfl) (aV (x:="new_shape") rfl ac hx) (vT (fH ‹_› (by exact ac)))
theorem DL(hx:own.lookup ("new_shape":Str)=some (vI xs))(hl:xs.length≤900)(n:Nat):(lv (cc X) (n+20)).tr (ah X 834 own) σ (sx (St X 834 1) 0)=some (.ok (xs.all fun s=>decide (0≤s)) σ):=
 dz ac (iz (S:=fun u_=>True) (x:= .v (vI xs)) (t:= .seq (xs.map V.int) 0) (as:=xs) (f:=V.int) (b:=fun a=>[("x",.int a)]) (F:=fun a=> .bool (decide (0≤a))) rfl ⋯ rfl
  (bA aA (aV (x:="new_shape") rfl ac hx)) rfl trivial (ai _ _) (fH ‹_› (by exact ac)) (fun a u_ own=>⟨by kernel_rfl,rfl⟩) (fun u_ u_=>rfl)) rfl
theorem Dj(hs:own.lookup ("self":Str)=some (.inst ag k))(hv:eR σ k ss ts o M B)(hp: ∀s∈ss,1≤s)(n:Nat):aT (cc X) (lv (cc X) (n+20)) (ah X 834 own) σ (St X 834 2)=some (.ok .next (ah X 834 own) σ):=by
 refine dy rfl (bx (op:= .In) (KC:=σ) (x:= .int 0) (y:=vI ss) rfl aA rfl (ba (x:="shape") rfl ac hs rfl hv.at_ rfl rfl) ?_) rfl
 rw[kQ]
 have:ss.any (· ==0)=false:=Hu.mpr fun x hx q=>by
  have:=hp x hx
  have q:x=0:=by simpa using q
  exact xne ‹_› ‹_›
 exact congrArg _ (by assumption)
theorem C0(hs:own.lookup ("self":Str)=some (.inst ag k))(hv:eR σ k ss ts o M B)(hl:ss.length≤900)(n:Nat):aT (cc X) (lv (cc X) (n+30)) (ah X 834 own) σ (St X 834 3)=some (.ok .next (ah X 834 (("self_all_int",.bool true)::own)) σ):=
 cm (x:="self_all_int") (xp:=ps (sx (St X 834 3) 1)) rfl ac ac (bK (x:="all_int") (fv:= .ref 35) (v:= .v (vI ss)) (KC:=σ) rfl rfl rfl ac
  (bA aA (ba (x:="shape") rfl ac hs rfl hv.at_ rfl rfl)) (eL (X:=X) (xs:=[vI ss]) ac (BD hl (n+9))))
noncomputable abbrev w4(X:Xp)(i:Nat):=si (aj (St X 834 4)) i
theorem Am(hx:own.lookup ("new_shape":Str)=some (vI xs))(hl:xs.length≤900)(n:Nat):aT (cc X) (lv (cc X) (n+20)) (ah X 834 own) σ (w4 X 0)=some (.ok .next (ah X 834 own) σ):=by
 have:=iz (c:=cc X) (n:=n+18) (σ:=σ) (e:=sx (w4 X 0) 0) (en:=ah X 834 own) (S:=fun u_=>True) (x:= .v (vI xs)) (t:= .seq (xs.map V.int) 0) (as:=xs) (f:=V.int) (b:=fun a=>[("s",.int a)]) (F:=fun a=> .bool true) (q:=fun u_=>true) ⋯ ⋯ rfl
  (bA aA (aV (x:="new_shape") rfl ac hx)) rfl trivial (ai _ _) (fH ‹_› (by exact ac)) (fun a u_ own=>⟨by kernel_rfl,by kernel_rfl⟩) (fun u_ u_=>rfl)
 rw[GX.mpr (fun u_ u_=>rfl)]at this;exact cw (v:=true) rfl (dz ac this rfl)
theorem AI(hs:own.lookup ("self":Str)=some (.inst ag k))(hx:own.lookup ("new_shape":Str)=some (vI xs))(hv:eR σ k ss ts o M B)(h1:bU ss)(h2:bU xs)(n:Nat):(lv (cc X) (n+40)).tr (ah X 834 own) σ (sx (w4 X 1) 0)=some (.ok (!(aS 1 ss==aS 1 xs)) (σ++[aa.lst (xs.map V.int)])):=by
 have l1:=h1.1;have l2:=h2.1
 refine bx (op:= .NotEq) (KC:=σ) (x:= .int (aS 1 ss)) (y:= .int (aS 1 xs)) rfl aA (bK (x:="prod") (fv:= .ref 28) (v:= .v (vI ss)) (KC:=σ) ⋯ rfl rfl ac
  (bA aA (ba (x:="shape") ⋯ ac hs rfl hv.at_ rfl rfl)) (eL (X:=X) (xs:=[vI ss]) ac (sL h1 (n+18) (P28 X))))
  (bK (x:="prod") (fv:= .ref 28) (v:= .v (.lst σ.length)) (KC:=σ++[aa.lst (xs.map V.int)]) ⋯ rfl rfl ac (bA aA
   (bN (S:=fun u_=>True) (x:= .v (vI xs)) (t:= .seq (xs.map V.int) 0) (as:=xs) (f:=V.int) (b:=fun p=>[("s",.int p)]) (P:=fun u_=>True) (F:=V.int) ⋯ rfl ⋯ (bA ⋯ (aV (x:="new_shape") ⋯ ac hx)) rfl (fun u_=>trivial)
    (ai _ _) (fH ‹_› (by exact ac)) trivial (fun p hp own acc u_=>⟨trivial,by kernel_rfl,by kernel_rfl⟩))) (eL (X:=X) (xs:=[.lst σ.length]) ac (Dg h2 (by exact G6) (n+18) (P28 X)))) rfl
theorem EW{x:Int}{r:List Int}(hx:own.lookup ("new_shape":Str)=some (vI (x::r)))(n:Nat):aT (cc X) (lv (cc X) (n+20)) (ah X 834 own) σ (St X 834 5)=some (.ok .next (ah X 834 own) σ):=
 dy rfl (Al (es:=[ch (sx (St X 834 5) 0) 1,ch (sx (St X 834 5) 0) 2]) rfl (bx (op:= .Eq) (KC:=σ) (x:=vI (x::r)) (y:= .tup []) rfl aA (aV (x:="new_shape") rfl ac hx) rfl rfl)) rfl
noncomputable abbrev w6(X:Xp):=sx (si (aj (St X 834 6)) 0) 0
noncomputable abbrev cB(k:Nat)(arg:V):List (Str×V):=[("new_shape",arg),("self",.inst ag k)]
theorem wJ(hv:eR σ k ss ts o M (.bool true))(hl:ss.length≤4)(hs: ∀s∈ss,1≤s∧s≤100)(hx:bU xs)(hx0:xs≠[])(n:Nat):
 ((xs.all fun s=>decide (0≤s))=true→(aS 1 xs==aS 1 ss)=true→gI ((lv (cc X) (n+80)).cf σ 834 [.inst ag k,vI xs] []) σ xs):=by
 intro ha hp
 have fin: ∀so o,(lv (cc X) (n+79)).exs (ah X 834 (cB k (vI xs))) σ (aD X 834)=some so→im so=some o→(lv (cc X) (n+80)).cf σ 834 [.inst ag k,vI xs] []=some o:=fun so o h1 h2=>bp (a:=834) (binds:=[("self",.inst ag k),("new_shape",vI xs)]) ⋯ ⋯ ac h1 h2
 rw[show aD X 834=[St X 834 0,St X 834 1,St X 834 2,St X 834 3,St X 834 4,St X 834 5,St X 834 6,St X 834 7,St X 834 8,St X 834 9]from rfl]at fin
 have t0:=DM (X:=X) (own:=cB k (vI xs)) (xs:=xs) rfl rfl hv hl (n+58)
 cases q:ss==xs with
 |true=>
  rw[q]at t0;have:=GK q;subst this
  exact⟨k,σ,_,_,_,_,GU _,fin _ _ (bk (en':=ah X 834 (cB k (vI ss))) (eM rfl t0 rfl)) rfl,hv.at_⟩
 |false=>
  rw[q]at t0
  have t1:=DL (X:=X) (σ:=σ) (own:=cB k (vI xs)) (xs:=xs) rfl (by have:=hx.1;exact bg ‹_› (by exact ac)) (n+58)
  rw[ha]at t1;have s0:aT (cc X) (lv (cc X) (n+78)) (ah X 834 (cB k (vI xs))) σ (St X 834 0)=some (.ok .next (ah X 834 (cB k (vI xs))) σ):=dy rfl t0 rfl;have s1:aT (cc X) (lv (cc X) (n+78)) (ah X 834 (cB k (vI xs))) σ (St X 834 1)=some (.ok .next (ah X 834 (cB k (vI xs))) σ):=cw (v:=true) rfl t1;have s2:=Dj (X:=X) (own:=cB k (vI xs)) rfl hv (fun s h=>(hs s h).1) (n+58)
  have s3:=C0 (X:=X) (own:=cB k (vI xs)) rfl hv (bg ‹_› (by exact ac)) (n+48)
  have hS:bU ss:=⟨hl,fun s h=>by have:=hs s h;exact qA ‹_› (by exact ac)⟩
  have t4:=AI (X:=X) (own:=("self_all_int",.bool true)::cB k (vI xs)) rfl rfl hv hS hx (n+37)
  have e:(aS 1 ss==aS 1 xs)=true:=by rw[beq_iff_eq]at hp⊢;exact hp.symm
  rw[e]at t4
  have s40:=Am (X:=X) (σ:=σ) (own:=("self_all_int",.bool true)::cB k (vI xs)) (xs:=xs) rfl (by have:=hx.1;exact bg ‹_› (by exact ac)) (n+57)
  have s41:aT (cc X) (lv (cc X) (n+77)) (ah X 834 (("self_all_int",.bool true)::cB k (vI xs))) σ (w4 X 1)=some (.ok .next (ah X 834 (("self_all_int",.bool true)::cB k (vI xs))) (σ++[aa.lst (xs.map V.int)])):=dy rfl t4 rfl
  have s4:aT (cc X) (lv (cc X) (n+78)) (ah X 834 (("self_all_int",.bool true)::cB k (vI xs))) σ (St X 834 4)=some (.ok .next (ah X 834 (("self_all_int",.bool true)::cB k (vI xs))) (σ++[aa.lst (xs.map V.int)])):=by
   refine eM rfl (dz (x:= .bool true) ac (aV (x:="self_all_int") rfl ac rfl) rfl) ?_
   rw[show aj (St X 834 4)=[w4 X 0,w4 X 1]from rfl]
   exact ab s40 (aq s41)
  refine qK (HQ hx0) fun x r zz2=> ?_;subst zz2;have s5:=EW (X:=X) (σ:=σ++[aa.lst ((x::r).map V.int)]) (own:=("self_all_int",.bool true)::cB k (vI (x::r))) rfl (n+58);have p1:=GO σ [aa.lst ((x::r).map V.int)];have f9:=hv.app p1;generalize σ++[aa.lst ((x::r).map V.int)]=Lk at s4 s5 p1 f9
  have hp0: ∀s∈x::r,0≤s:=fun s h=>by
   have:=GX.mp ha s h
   exact of_decide_eq_true (by assumption)
  have:=yH (X:=X) (σ:=Lk) hx hx0 hp0 (n+24);have:=i6 (X:=X) (own:=("self_all_int",.bool true)::cB k (vI (x::r))) (e:=w6 X) (a:=834) (args:=[ch (w6 X) 1]) (xs:=[vI (x::r)]) rfl ac rfl (kO ac (bA aA (aV (x:="new_shape") rfl ac rfl))) (GU _) this;refine gb this fun KB T O M' B' p hr=> ?_
  have s6:aT (cc X) (lv (cc X) (n+78)) (ah X 834 (("self_all_int",.bool true)::cB k (vI (x::r)))) Lk (St X 834 6)=some (.ok (.ret (.inst ag KB.length)) (ah X 834 (("self_all_int",.bool true)::cB k (vI (x::r)))) (KB++[aa.dct (bc (vI (x::r)) T O M' B')])):=by
   refine eM rfl (dz (x:= .bool true) ac (ba (x:="contiguous") (y:= .bool true) rfl ac rfl rfl f9.at_ rfl rfl) rfl) ?_
   rw[show aj (St X 834 6)=[si (aj (St X 834 6)) 0]from rfl]
   exact aq (dA rfl hr)
  exact⟨_,_,T,O,M',B',(p1.trans p).trans (GO _ _),fin _ _ (ab s0 (ab s1 (ab s2 (ab s3 (ab s4 (ab s5 (bk s6))))))) rfl,cK⟩
theorem vQ(hv:eR σ k ss ts o M B)(hl:ss.length≤4)(hs: ∀s∈ss,1≤s∧s≤100)(hx:bU xs)(n:Nat)(h:((xs.all fun s=>decide (0≤s))&&aS 1 xs==aS 1 ss)=false):dh ((lv (cc X) (n+80)).cf σ 834 [.inst ag k,vI xs] []) σ:=by
 have fin: ∀so o,(lv (cc X) (n+79)).exs (ah X 834 (cB k (vI xs))) σ (aD X 834)=some so→im so=some o→(lv (cc X) (n+80)).cf σ 834 [.inst ag k,vI xs] []=some o:=fun so o h1 h2=>bp (a:=834) (binds:=[("self",.inst ag k),("new_shape",vI xs)]) ⋯ ⋯ ac h1 h2
 rw[show aD X 834=[St X 834 0,St X 834 1,St X 834 2,St X 834 3,St X 834 4,St X 834 5,St X 834 6,St X 834 7,St X 834 8,St X 834 9]from rfl]at fin
 have t0:=DM (X:=X) (own:=cB k (vI xs)) (xs:=xs) rfl rfl hv hl (n+58)
 have q:(ss==xs)=false:=by
  rw[beq_eq_false_iff_ne];rintro rfl
  have:(ss.all fun s=>decide (0≤s))=true:=GX.mpr fun s q=>by have:=hs s q;exact decide_eq_true (iil ‹_› (by exact ac))
  rw[this,beq_self_eq_true]at h;exact Cn h
 rw[q]at t0
 have t1:=DL (X:=X) (σ:=σ) (own:=cB k (vI xs)) (xs:=xs) rfl (by have:=hx.1;exact bg ‹_› (by exact ac)) (n+58)
 have s0:aT (cc X) (lv (cc X) (n+78)) (ah X 834 (cB k (vI xs))) σ (St X 834 0)=some (.ok .next (ah X 834 (cB k (vI xs))) σ):=dy rfl t0 rfl
 cases ha:xs.all fun s=>decide (0≤s)with
 |false=>
  rw[ha]at t1;exact⟨"AssertionError",σ,.inl rfl,GU _,fin _ _ (ab s0 (bO (cw (v:=false) rfl t1))) rfl⟩
 |true=>
  rw[ha]at t1 h;have s1:aT (cc X) (lv (cc X) (n+78)) (ah X 834 (cB k (vI xs))) σ (St X 834 1)=some (.ok .next (ah X 834 (cB k (vI xs))) σ):=cw (v:=true) rfl t1;have s2:=Dj (X:=X) (own:=cB k (vI xs)) rfl hv (fun s h=>(hs s h).1) (n+58)
  have s3:=C0 (X:=X) (own:=cB k (vI xs)) rfl hv (bg ‹_› (by exact ac)) (n+48)
  have hS:bU ss:=⟨hl,fun s h=>by have:=hs s h;exact qA ‹_› (by exact ac)⟩
  have t4:=AI (X:=X) (own:=("self_all_int",.bool true)::cB k (vI xs)) rfl rfl hv hS hx (n+37)
  have e:(aS 1 ss==aS 1 xs)=false:=by
   rw[Gl,beq_eq_false_iff_ne]at h;rw[beq_eq_false_iff_ne];exact fun q=>h q.symm
  rw[e]at t4
  have s40:=Am (X:=X) (σ:=σ) (own:=("self_all_int",.bool true)::cB k (vI xs)) (xs:=xs) rfl (by have:=hx.1;exact bg ‹_› (by exact ac)) (n+57)
  have s41:aT (cc X) (lv (cc X) (n+77)) (ah X 834 (("self_all_int",.bool true)::cB k (vI xs))) σ (w4 X 1)=some (.exc "ValueError" (ah X 834 (("self_all_int",.bool true)::cB k (vI xs))) (σ++[aa.lst (xs.map V.int)])):=eM rfl t4 rfl
  have s4:aT (cc X) (lv (cc X) (n+78)) (ah X 834 (("self_all_int",.bool true)::cB k (vI xs))) σ (St X 834 4)=some (.exc "ValueError" (ah X 834 (("self_all_int",.bool true)::cB k (vI xs))) (σ++[aa.lst (xs.map V.int)])):=by
   refine eM rfl (dz (x:= .bool true) ac (aV (x:="self_all_int") rfl ac rfl) rfl) ?_
   rw[show aj (St X 834 4)=[w4 X 0,w4 X 1]from rfl]
   exact ab s40 (bO s41)
  exact⟨"ValueError",_,.inr rfl,GO _ _,fin _ _ (ab s0 (ab s1 (ab s2 (ab s3 (bO s4))))) rfl⟩
end
section
noncomputable def W(kS kL:Nat)(σ:Sg)(ns:List Int)(a b:Int):Sg:=(σ.set kL (aa.lst (ns.map V.int))).set kS (aa.lst [.lst kL,.int a,.int b])
structure Kk(kS kL:Nat)(σ:Sg):Prop where
 ne:kS≠kL
 s:kS<σ.length
 l:kL<σ.length
noncomputable def eF(ns:List Int)(a b:Int):Prop:=ns.length≤100∧0≤b∧b<2147483647
section
variable {kS kL:Nat}{ns ns':List Int}{a b a' b':Int}
theorem l6:(W kS kL σ ns a b).length=σ.length:=by simp[W]
theorem FB(h:Kk kS kL σ):(W kS kL σ ns a b)[kS]? =some (aa.lst [.lst kL,.int a,.int b]):=by
 unfold W;rw[HL (by rw[Hr];exact h.s)]
theorem EJ(h:Kk kS kL σ):(W kS kL σ ns a b)[kL]? =some (aa.lst (ns.map V.int)):=by
 unfold W;rw[Hm h.ne,HL h.l]
theorem Cw(h1:k≠kS)(h2:k≠kL):(W kS kL σ ns a b)[k]? =σ[k]? :=by
 unfold W;rw[Hm (Ne.symm h1),Hm (Ne.symm h2)]
theorem wv:(W kS kL σ ns a b).set kS (aa.lst [.lst kL,.int a',.int b'])=W kS kL σ ns a' b':=by
 unfold W;rw[List.set_set]
theorem BX(h:Kk kS kL σ):(W kS kL σ ns a b).set kL (aa.lst (ns'.map V.int))=W kS kL σ ns' a b:=by
 unfold W;rw[List.set_comm _ _ h.ne,List.set_set]
theorem il(h:Kk kS kL σ):W kS kL (σ++ext) ns a b=W kS kL σ ns a b++ext:=by
 unfold W
 rw[List.set_append_left _ _ h.l,List.set_append_left _ _ (by rw[Hr];exact h.s)]
theorem Kk.app(h:Kk kS kL σ):Kk kS kL (σ++ext):=⟨h.ne,by rw[G4];have:=h.s;exact ady ‹_›,by rw[G4];have:=h.l;exact ady ‹_›⟩
end
theorem pQ(hk:σ[k]? =some (aa.lst l))(h:l[i]? =some y)(hi:i<2^62):gk σ (.lst k) (i:Int)=some y:=by
 have hl:=(GZ.mp h).1;show(aI σ k).bind _=_;rw[aN hk,IE];unfold gE;refine dQ (n62 hi) ?_;rw[Dx hl];exact h
theorem jc{j:Int}(he:e= .Subscript (ch e 0) (ch e 1) (ps e))(hn:bB (ch e 1)=true)(h1:f en σ (ch e 0)=some (.ok (.lst k) KC))(h2:f en KC (ch e 1)=some (.ok (.int j) KG))(h3:dN KG k j y=some KZ):eP c f (n+1) e en σ y=some (en,KZ):=by
 rw[he]
 show(if bB (ch e 1)=true then _ else none)=_
 rw[if_pos hn,h1];show(f en KC (ch e 1)).bind _=_;rw[h2];show(dN KG k j y).map _=_;rw[h3];rfl
theorem xh{cf:b9}{i:Int}(h:lA σ k i=some (y,KC)):aJ c cf σ (.builtin "list.pop") [.v (.lst k),.v (.int i)] []=some (.ok (.v y) KC):=by
 have:aJ c cf σ (.builtin "list.pop") [.v (.lst k),.v (.int i)] []=(lA σ k i).map fun p=> .ok (.v p.1) p.2:=rfl;rw[this,h];rfl
theorem u7(h:σ[k]? =some (.lst l)):iw c σ (.lst k) "pop"=some (.builtin "list.pop",[.lst k]):=by
 show(aI σ k).bind _=_;rw[aN h];rfl
theorem nK{a b:Int}(h0:b≠0)(hb:bG b=true):mI σ .Mod (.int a) (.int b)=some (.int (a.fmod b),σ):=by
 show(if b≠0∧bG b=true then some (a.fmod b)else none).map _=_
 rw[if_pos ⟨h0,hb⟩];rfl
end
section
variable {X:Xp}{own:List (Str×V)}{kS kL:Nat}{ns:List Int}{a b m:Int}
noncomputable abbrev gz(kS:Nat)(m:Int):List (Str×V):=[("many",.int m),("state",.lst kS)]
theorem iN{y:Int}(h:Kk kS kL σ):dN (W kS kL σ ns a b) kS 1 (.int y)=some (W kS kL σ ns y b):=by
 show(aI _ _).bind _=_
 rw[aN (FB h),IE,if_pos ⟨by decide,by decide,show 3≤2^20 by decide⟩]
 show some ((W kS kL σ ns a b).set kS (aa.lst [.lst kL,.int y,.int b]))=_;rw[wv]
theorem re{y:Int}(h:Kk kS kL σ):dN (W kS kL σ ns a b) kS 2 (.int y)=some (W kS kL σ ns a y):=by
 show(aI _ _).bind _=_
 rw[aN (FB h),IE,if_pos ⟨by decide,by decide,show 3≤2^20 by decide⟩]
 show some ((W kS kL σ ns a b).set kS (aa.lst [.lst kL,.int a,.int y]))=_;rw[wv]
theorem AE{aF:Addr}(h:Kk kS kL σ)(hs:own.lookup ("state":Str)=some (.lst kS))(he:e= .Subscript (.Name ("state":Str) (ps (ch e 0))) (ch e 1) (ps e))(hk:dP X aF "state"=true)(hn:bB (ch e 1)=true)(hi:(lv (cc X) (n+3)).ev (ah X aF own) (W kS kL σ ns a b) (ch e 1)=some (.ok (.int (i:Nat)) (W kS kL σ ns a b)))(hy:[V.lst kL,.int a,.int b][i]? =some y)(hi':i<3):(lv (cc X) (n+4)).ev (ah X aF own) (W kS kL σ ns a b) e=some (.ok y (W kS kL σ ns a b)):=by
 refine(congrArg ((lv (cc X) (n+4)).ev (ah X aF own) (W kS kL σ ns a b)) he).trans ?_
 exact sI hn (fV (EI hk hs)) hi (pQ (FB h) hy (D4 ‹_› (by exact ac)))
noncomputable abbrev xN(X:Xp):=si (aj (St X 1039 0)) 0
noncomputable abbrev tkA(X:Xp):=si (aj (xN X)) 0
noncomputable abbrev tkB(X:Xp)(i:Nat):=si (cW (xN X)) i
theorem t_(h:Kk kS kL σ)(n:Nat):(lv (cc X) (n+10)).tr (ah X 1039 (gz kS m)) (W kS kL σ ns a b) (sx (St X 1039 0) 0)=some (.ok (a==0) (W kS kL σ ns a b)):=
 bx rfl aA (AE (i:=1) h rfl rfl ac ac rfl rfl (by exact H0 _)) rfl rfl
theorem wV{x:Int}{r:List Int}(h:Kk kS kL σ)(hl:r.length≤100)(n:Nat):aT (cc X) (lv (cc X) (n+20)) (ah X 1039 (gz kS m)) (W kS kL σ (x::r) a b) (xN X)=some (.ok .next (ah X 1039 (gz kS m)) (W kS kL σ r x b)):=by
 have t:(lv (cc X) (n+20)).tr (ah X 1039 (gz kS m)) (W kS kL σ (x::r) a b) (sx (xN X) 0)=some (.ok true (W kS kL σ (x::r) a b)):=
  dz (x:= .lst kL) ⋯ (AE (i:=0) h rfl rfl ac ac rfl rfl (by exact HX _)) (by
   show(aI _ kL).bind _=_;rw[aN (EJ h)]
   show(if _ then _ else none)=_
   rw[if_pos (by rw[GM,G8];exact Eu ‹_› (by exact ac))];rfl)
 have hp:lA (W kS kL σ (x::r) a b) kL 0=some (.int x,W kS kL σ r a b):=by
  show(aI _ _).bind _=_;rw[aN (EJ h)]
  refine dQ ⟨by rw[GM,G8];exact Eu ‹_› (by exact ac),by exact ac⟩ ?_
  have e:seqIndex? 0 ((x::r).map V.int).length=some 0:=by simp[seqIndex?];try omega
  refine(e).symm▸ ?_;refine(?_:some (V.int x,(W kS kL σ (x::r) a b).set kL (aa.lst (r.map V.int)))=_);rw[BX h]
 refine eM rfl t ?_
 rw[show aj (xN X)=[tkA X]from rfl]
 refine aq (gc (y:= .int x) (KC:=W kS kL σ r a b) rfl ac ⋯ ?_ (jc (j:=1) ⋯ ⋯ rfl rfl (iN h)))
 exact ku ac (gr (name:="pop") (args:=[ch (sx (tkA X) 0) 1]) (fv:= .builtin "list.pop") (first:=[.lst kL]) (vs:=[.v (.int 0)]) ⋯ ⋯ (AE (i:=0) h rfl ⋯ ac ⋯ ⋯ rfl (by decide))
  (u7 (EJ h)) ac (kO ⋯ (bA aA rfl)) (xh hp))
noncomputable def uN(b:Int):Int:=(b*48271+11).fmod 2147483647
theorem tQ(h:Kk kS kL σ)(hb:eF [] a b)(n:Nat):aT (cc X) (lv (cc X) (n+20)) (ah X 1039 (gz kS m)) (W kS kL σ [] a b) (xN X)=some (.ok .next (ah X 1039 (gz kS m)) (W kS kL σ [] (uN b) (uN b))):=by
 have t:(lv (cc X) (n+20)).tr (ah X 1039 (gz kS m)) (W kS kL σ [] a b) (sx (xN X) 0)=some (.ok false (W kS kL σ [] a b)):=
  dz (x:= .lst kL) ⋯ (AE (i:=0) h rfl rfl ac ac rfl rfl (by exact HX _)) (by
   show(aI _ kL).bind _=_;rw[aN (EJ h)]
   rfl)
 refine dy rfl t ?_
 rw[show cW (xN X)=[tkB X 0,tkB X 1]from rfl]
 have s0:bG b=true:=be (k:=2147483647) (by have:=hb.2;exact iat ‹_› (by exact ac)) (by decide)
 refine ab (en':=ah X 1039 (gz kS m)) (KB:=W kS kL σ [] a (uN b)) (gc (y:= .int (uN b)) (KC:=W kS kL σ [] a b) rfl ac ⋯ ?_ (jc (k:=kS) (j:=2) (KC:=W kS kL σ [] a b) (KG:=W kS kL σ [] a b) ⋯ ⋯ rfl rfl (re h)))
  (aq (gc (y:= .int (uN b)) (KC:=W kS kL σ [] a (uN b)) rfl ac ⋯ (AE (i:=2) h rfl ⋯ ac ⋯ rfl rfl (by exact HY _)) (jc (k:=kS) (j:=1) (KC:=W kS kL σ [] a (uN b)) (KG:=W kS kL σ [] a (uN b)) ⋯ ⋯ rfl rfl (iN h))))
 exact cG (op:= .Mod) (x:= .int (b*48271+11)) (y:= .int 2147483647) (KC:=W kS kL σ [] a b) ⋯ (cG (op:= .Add) (x:= .int (b*48271)) (y:= .int 11) (KC:=W kS kL σ [] a b) ⋯ (cG ⋯ (AE (i:=2) h rfl ⋯ ac ⋯ ⋯ rfl (by exact HY _)) ⋯ (gK s0 (by exact ac))) ⋯ rfl) rfl (nK (by omega) (by exact ac))
theorem Cl(b:Int):0≤uN b∧uN b<2147483647:=⟨GI _ (by decide),GJ _ (by decide)⟩
theorem t8(h:Kk kS kL σ)(hm:m≠0)(hm':bG m=true)(n:Nat):(lv (cc X) (n+20)).exs (ah X 1039 (gz kS m)) (W kS kL σ ns a b) [St X 1039 1,St X 1039 2,St X 1039 3]=some (.ok (.ret (.int (a.fmod m))) (ah X 1039 (("found",.int (a.fmod m))::gz kS m)) (W kS kL σ ns (a.fdiv m) b)):=by
 refine ab (en':=ah X 1039 (("found",.int (a.fmod m))::gz kS m)) (KB:=W kS kL σ ns a b) (cm rfl ac ac (cG rfl (AE (i:=1) h rfl ⋯ ac ac rfl rfl (by exact H0 _)) rfl (nK hm hm'))) ?_
 refine ab (en':=ah X 1039 (("found",.int (a.fmod m))::gz kS m)) (KB:=W kS kL σ ns (a.fdiv m) b) (gc rfl ac rfl (cG rfl (AE (i:=1) h rfl rfl ac ac rfl rfl (by exact H0 _)) rfl (oP hm hm'))
  (jc (j:=1) rfl ac rfl rfl (iN h))) ?_
 exact aq rfl
theorem md(h:Kk kS kL σ)(ho:eF ns a b)(hm:0<m)(hm':m≤1000)(n:Nat): ∃(y:Int) (ns':List Int) (a' b':Int),0≤y∧y<m∧eF ns' a' b'∧(lv (cc X) (n+23)).cf (W kS kL σ ns a b) 1039 [.lst kS,.int m] []=some (.ok (.int y) (W kS kL σ ns' a' b')):=by
 have hm0:m≠0:=by exact npn ‹_›
 have hsm:bG m=true:=be (k:=1000) (iad ‹_› ‹_› (by exact ac)) (by decide)
 have fin: ∀(ns':List Int) (a' b':Int),eF ns' a' b'→aT (cc X) (lv (cc X) (n+21)) (ah X 1039 (gz kS m)) (W kS kL σ ns a b) (St X 1039 0)=some (.ok .next (ah X 1039 (gz kS m)) (W kS kL σ ns' a' b'))→ ∃(y:Int) (ns':List Int) (a' b':Int),0≤y∧y<m∧eF ns' a' b'∧(lv (cc X) (n+23)).cf (W kS kL σ ns a b) 1039 [.lst kS,.int m] []=some (.ok (.int y) (W kS kL σ ns' a' b')):=by
  intro ns' a' b' ho' s0
  refine⟨a'.fmod m,ns',a'.fdiv m,b',GI _ hm,GJ _ hm,ho',bp (a:=1039) (binds:=[("state",.lst kS),("many",.int m)]) (so:= .ok (.ret (.int (a'.fmod m))) (ah X 1039 (("found",.int (a'.fmod m))::gz kS m)) (W kS kL σ ns' (a'.fdiv m) b')) ⋯ ⋯ ac ?_ rfl⟩
  rw[show aD X 1039=[St X 1039 0,St X 1039 1,St X 1039 2,St X 1039 3]from rfl]
  exact ab s0 (t8 h hm0 hsm (n+2))
 have t:=t_ (X:=X) (m:=m) (ns:=ns) (a:=a) (b:=b) h (n+11)
 cases q:a==0 with
 |false=>
  rw[q]at t;exact fin ns a b ho (dy rfl t rfl)
 |true=>
  rw[q]at t
  have key: ∀(ns':List Int) (a' b':Int),eF ns' a' b'→aT (cc X) (lv (cc X) (n+20)) (ah X 1039 (gz kS m)) (W kS kL σ ns a b) (xN X)=some (.ok .next (ah X 1039 (gz kS m)) (W kS kL σ ns' a' b'))→ ∃(y:Int) (ns':List Int) (a' b':Int),0≤y∧y<m∧eF ns' a' b'∧(lv (cc X) (n+23)).cf (W kS kL σ ns a b) 1039 [.lst kS,.int m] []=some (.ok (.int y) (W kS kL σ ns' a' b')):=by
   intro ns' a' b' ho' s;refine fin ns' a' b' ho' (eM rfl t ?_)
   rw[show aj (St X 1039 0)=[xN X]from rfl]
   exact aq s
  cases ns with
  |nil=>
   have:=Cl b;exact key [] (uN b) (uN b) ⟨ho.1,this⟩ (tQ h ho n)
  |cons x r=>
   have h1:=ho.1;rw[G8]at h1
   exact key r x b ⟨by exact H' (by assumption),ho.2⟩ (wV h (by exact H' (by assumption)) n)
end
section
section
theorem D2{S:Sg→Prop}{P:En→Prop}{J:Nat→List V→Sg→Prop}{as:List α}{f:α→V}{K:Nat}(ht:aE S t (as.map f))(hS: ∀i acc σ,J i acc σ→S σ)(hl:as.length<az)
 (step: ∀i (hi:i<as.length) en acc σ,J i acc σ→P en→ ∃en' y KG KZ,P en'∧g target en σ (f as[i])=some (en',σ)∧ev en' σ elt=some (.ok y KG)∧cD KG K y=some KZ∧J (i+1) (acc++[y]) KZ) (h0:J 0 [] σ) (hp:P en):
 ∃ys KB,J as.length ys KB∧cE g tr ev target [] elt K az en σ t=some KB:=by
 refine aK ht fun ts zz1 h=> ?_;subst zz1
 have key: ∀(m q i:Nat) (en:En) (acc:List V) (σ:Sg),i+m=as.length→J i acc σ→P en→ ∃ys KB,J as.length ys KB∧cE g tr ev target [] elt K (m+q+1) en σ (ts i)=some KB:=by
  intro m
  induction m with
  |zero=>
   intro q i en acc σ hi hj hp
   obtain rfl:i=as.length:=by assumption
   have e:=(h σ (hS _ _ _ hj)).2;rw[GM]at e;refine⟨acc,σ,hj,?_⟩
   refine(show 0+q+1=q+1 from by simp+arith).symm▸ ?_
   exact nd e
  |succ m ih=>
   intro q i en acc σ hi hj hp
   have hlt:i<as.length:=by exact EQ ‹_›
   refine dw fun kk=> ?_;obtain⟨en',y,KG,KZ,hp',h1,h2,h3,h4⟩:=step i hlt en acc σ hj hp<;>(refine kk ?_;clear kk)
   have hn:=(h σ (hS _ _ _ hj)).1 i (f as[i]) (by simp[hlt])
   refine dw fun kk=> ?_;refine bf (ih q (i+1) en' (acc++[y]) KZ (Eb ‹_›) h4 hp') fun ys KB h5 h6=> ?_<;>(refine kk ?_;clear kk)
   refine⟨ys,KB,h5,?_⟩
   refine(show m+1+q+1=(m+q+1)+1 from by simp+arith).symm▸ ?_
   generalize m+q+1=w at h6⊢
   rw[nw hn h1 (show bL tr _ _ []=_ from rfl) h2 h3,h6]
 have:=key as.length (az-1-as.length) 0 en [] σ (by simp+arith) h0 hp
 rw[show as.length+(az-1-as.length)+1=az from by exact EP ‹_›]at this
 exact this
theorem x9{S:Sg→Prop}{P:En→Prop}{J:Nat→List V→Sg→Prop}{x:IV}{as:List α}{f:α→V}(he:iM e)(hi:ec e=[])(hf:hG en e=true)(hx:(lv c n).iv en σ (ch e 2)=some (.ok x KC))(ht:aC KC x=some t)(tl:aE S t (as.map f))(hS: ∀i acc σ,J i acc σ→S σ)(hl:as.length<4096)
 (step: ∀i (hi:i<as.length) en acc σ,J i acc σ→P en→ ∃en' y KG KZ,P en'∧dq 8 (ch e 1) en σ (f as[i])=some (en',σ)∧(lv c n).ev en' σ (ch e 0)=some (.ok y KG)∧cD KG KC.length y=some KZ∧J (i+1) (acc++[y]) KZ) (h0:J 0 [] (KC++[aa.lst []])) (hp:P (dY (dG e).names en)):
 ∃ys KB,J as.length ys KB∧(lv c (n+1)).ev en σ e=some (.ok (.lst KC.length) KB):=by
 refine dw fun kk=> ?_;refine bf (D2 (tr:=(lv c n).tr) tl hS hl step h0 hp) fun ys KB h1 h2=> ?_<;>(refine kk ?_;clear kk)
 refine⟨ys,KB,h1,jS he (nY hf hx ht ?_)⟩;refine(hi).symm▸ ?_;exact h2
theorem zA{A B:Sg}(h:acc.length≤1000):cD (A++[aa.lst acc]++B) A.length y=some (A++[aa.lst (acc++[y])]++B):=by
 show(aI (A++[aa.lst acc]++B) A.length).bind _=_
 rw[aN (l:=acc) (by simp)]
 refine dQ (bg ‹_› (by exact ac)) ?_
 simp[List.set_append]
end
variable {X:Xp}{own:List (Str×V)}{kS kL:Nat}{ns:List Int}{a b m:Int}
theorem m_(h:Kk kS kL σ)(ho:eF ns a b)(hm:0<m)(hm':m≤1000)(he:e= .Call (.Name ("_law_take":Str) (ps (ch e 0))) [ch e 1,ch e 2] [] (ps e))(hg:cJ [ch e 1,ch e 2]=none)(hx:aR (cc X) en "_law_take"=some (.val (.ref 1039)))(hc:al [ch e 1,ch e 2]=true)(hi:aY (ch e 1)=false)(hj:aY (ch e 2)=false)
 (n:Nat) (h1:(lv (cc X) (n+22)).ev en (W kS kL σ ns a b) (ch e 1)=some (.ok (.lst kS) (W kS kL σ ns a b))) (h2:(lv (cc X) (n+22)).ev en (W kS kL σ ns a b) (ch e 2)=some (.ok (.int m) (W kS kL σ ns a b))):
 ∃(y:Int) (ns':List Int) (a' b':Int),0≤y∧y<m∧eF ns' a' b'∧(lv (cc X) (n+24)).ev en (W kS kL σ ns a b) e=some (.ok (.int y) (W kS kL σ ns' a' b')):=by
 refine dw fun kk=> ?_;refine cC (md (X:=X) h ho hm hm' n) fun y ns' a' b' p1 p2 p3 p4=> ?_<;>(refine kk ?_;clear kk)
 exact⟨y,ns',a',b',p1,p2,p3,ku (by rw[he];rfl) (cM he hg hx (by rw[hc];exact ac) (z9 hc (bA hi h1) (bA hj h2)) (eL (xs:=[.lst kS,.int m]) ⋯ p4))⟩
theorem oG(h:Kk kS kL σ)(ho:eF ns a b)(hm:0<m)(hm':m≤1000)(hlen:(ys.length:Int)=m)(he:e= .Subscript (ch e 0) (ch e 1) (ps e))(hns:bB (ch e 1)=true)(he1:ch e 1= .Call (.Name ("_law_take":Str) (ps (ch (ch e 1) 0))) [ch (ch e 1) 1,ch (ch e 1) 2] [] (ps (ch e 1)))(hg:cJ [ch (ch e 1) 1,ch (ch e 1) 2]=none)(hx:aR (cc X) en "_law_take"=some (.val (.ref 1039)))(hc:al [ch (ch e 1) 1,ch (ch e 1) 2]=true)(hi:aY (ch (ch e 1) 1)=false)(hj:aY (ch (ch e 1) 2)=false)
 (n:Nat) (hd:(lv (cc X) (n+24)).ev en (W kS kL σ ns a b) (ch e 0)=some (.ok (.lst (W kS kL σ ns a b).length) (W kS kL σ ns a b++[aa.lst ys]))) (h1: ∀σz,(lv (cc X) (n+22)).ev en σz (ch (ch e 1) 1)=some (.ok (.lst kS) σz)) (h2: ∀σz,(lv (cc X) (n+22)).ev en σz (ch (ch e 1) 2)=some (.ok (.int m) σz)):
 ∃(y:V) (ns':List Int) (a' b':Int),y∈ys∧eF ns' a' b'∧(lv (cc X) (n+25)).ev en (W kS kL σ ns a b) e=some (.ok y (W kS kL (σ++[aa.lst ys]) ns' a' b')):=by
 rw[←il h]at hd;refine dw fun kk=> ?_;refine cC (m_ (e:=ch e 1) (σ:=σ++[aa.lst ys]) h.app ho hm hm' he1 hg hx hc hi hj n (h1 _) (h2 _)) fun y ns' a' b' p1 p2 p3 p4=> ?_<;>(refine kk ?_;clear kk)
 refine oE (Int.eq_ofNat_of_zero_le p1) fun i zz1=> ?_;subst zz1
 have hiL:i<ys.length:=by exact leq ‹_› ‹_›
 refine⟨ys[i],ns',a',b',Hb hiL,p3,c_ he hns hd p4 (pQ ?_ (G1 hiL) (by omega))⟩
 rw[l6,Cw (by have:=h.s;exact Ib (by assumption)) (by have:=h.l;exact Ib (by assumption))]
 simp
theorem pK{Q:V→Prop}{P:List (Str×V)→Prop}{x:IV}{as:List α}{f:α→V}(h:Kk kS kL σ)(ho:eF ns a b)(he:e= .Call (.Name ("tuple":Str) (ps (ch e 0))) [ch e 1] [] (ps e))(hg:cJ [ch e 1]=none)(hx:aR (cc X) en "tuple"=some (.val (.type "tuple")))(hc:al [ch e 1]=true)(hi:aY (ch e 1)=false)
 (he1:iM (ch e 1)) (hi1:ec (ch e 1)=[]) (hf:hG en (ch e 1)=true) (n:Nat) (hit:(lv (cc X) n).iv en (W kS kL σ ns a b) (ch (ch e 1) 2)=some (.ok x (W kS kL σ ns a b))) (ht:aC (W kS kL σ ns a b) x=some t) (tl:aE (fun u_=>True) t (as.map f)) (hl:as.length≤900)
 (step: ∀i (hi:i<as.length) own' KB ns a b,P own'→Kk kS kL KB→eF ns a b→ ∃own'' y ns' a' b' ext',P own''∧Q y∧eF ns' a' b'∧dq 8 (ch (ch e 1) 1) ⟨am (dG (ch e 1)).names en,own',en.fre,none⟩ (W kS kL KB ns a b) (f as[i])=some (⟨am (dG (ch e 1)).names en,own'',en.fre,none⟩,W kS kL KB ns a b)∧
  (lv (cc X) n).ev ⟨am (dG (ch e 1)).names en,own'',en.fre,none⟩ (W kS kL KB ns a b) (ch (ch e 1) 0)=some (.ok y (W kS kL (KB++ext') ns' a' b')))
 (hp:P (dY (dG (ch e 1)).names en).own):
 ∃(ys:List V) (ext:Sg) (ns':List Int) (a' b':Int),ys.length=as.length∧(∀y∈ys,Q y)∧eF ns' a' b'∧(lv (cc X) (n+3)).ev en (W kS kL σ ns a b) e=some (.ok (.tup ys) (W kS kL (σ++ext) ns' a' b')):=by
 have hsl:=h.s;have hll:=h.l;have R:=x9 (S:=fun u_=>True) (P:=fun en'=> ∃own',en'=⟨am (dG (ch e 1)).names en,own',en.fre,none⟩∧P own')
  (J:=fun i acc KB=> ∃(ext:Sg) (ns:List Int) (a b:Int),acc.length=i∧(∀y∈acc,Q y)∧eF ns a b∧KB=W kS kL (σ++[aa.lst acc]++ext) ns a b) he1 hi1 hf hit ht tl (fun u_ u_ u_ u_=>trivial) (fH ‹_› (by exact ac)) ?_ ⟨[],ns,a,b,rfl,by simp,ho,by rw[G2,il h]⟩ ⟨_,rfl,hp⟩
 ·obtain⟨ys,KB,⟨ext,ns',a',b',q1,q2,q3,rfl⟩,hr⟩:=R
  have e2:(W kS kL (σ++[aa.lst ys]++ext) ns' a' b')[(W kS kL σ ns a b).length]? =some (aa.lst ys):=by
   rw[l6,Cw (by exact Ib (by assumption)) (by exact Ib (by assumption))];simp
  refine⟨ys,[aa.lst ys]++ext,ns',a',b',q1,q2,q3,?_⟩;rw[←GY]
  exact bK (fv:= .type "tuple") (v:= .v (.lst (W kS kL σ ns a b).length)) he hg hx (by rw[hc];exact ac) (bA hi hr) (jI e2 (dH ‹_› ‹_› (by exact ac)))
 ·rintro i hi _ acc _ ⟨ext,eB,a1,b1,q1,q2,q3,rfl⟩ ⟨own',rfl,hp'⟩;refine dw fun kk=> ?_;obtain⟨own'',y,ns2,a2,b2,ext',p1,p2,p3,p4,p5⟩:=step i hi own' (σ++[aa.lst acc]++ext) eB a1 b1 hp' h.app.app q3<;>(refine kk ?_;clear kk)
  refine⟨_,y,_,_,⟨own'',rfl,p1⟩,p4,p5,?_,ext++ext',ns2,a2,b2,by rw[G4,q1];rfl,?_,p3,rfl⟩
  ·rw[GY,il (h.app),il h,il (h.app),il h,l6,←l6 (ns:=ns2) (a:=a2) (b:=b2)]
   exact zA (l8 ‹_› ‹_› ‹_› (by exact ac))
  ·intro z hz;refine dw fun kk=> ?_
   rcases GN.mp hz with hz|hz<;>(refine kk ?_;clear kk)
   ·exact q2 z hz
   ·rw[GP.mp hz];exact p2
noncomputable abbrev mG(kS:Nat)(ss:List Int)(kd:Int):List (Str×V):=[("many",.int (ss.length:Nat)),("kind",.int kd),("shape",vI ss),("state",.lst kS)]
variable {kd:Int}
theorem la0(hl:ss.length≤900)(n:Nat):aT (cc X) (lv (cc X) (n+20)) (ah X 1068 [("kind",.int kd),("shape",vI ss),("state",.lst kS)]) σ (St X 1068 0)=some (.ok .next (ah X 1068 (mG kS ss kd)) σ):=by
 have e2:((ss.map V.int).length:Int)=ss.length:=by rw[GM]
 have:=kC (X:=X) (a:=1068) (own:=[("kind",.int kd),("shape",vI ss),("state",.lst kS)]) (σ:=σ) (e:=sx (St X 1068 0) 0) (n:=n+18) rfl rfl rfl ac aA (aV rfl ac rfl) (by rw[GM];exact bg ‹_› (by exact ac))
 rw[e2]at this;exact cm rfl ac ac this
noncomputable def Cc(i:Nat):Int:=match i with|1=>4|3=>0|5=>1|6=>2|_=>3
theorem Af(i:Nat)(hi:i∈[1,3,5,6,7])(hk:own.lookup ("kind":Str)=some (.int kd))(n:Nat):(lv (cc X) (n+20)).tr (ah X 1068 own) σ (sx (St X 1068 i) 0)=some (.ok (kd==Cc i) σ):=by
 revert i;refine ak ?_ (ak ?_ (ak ?_ (ak ?_ (ak ?_ ck))))
 ·exact bx rfl aA (aV rfl ac hk) rfl rfl
 ·exact bx rfl aA (aV rfl ac hk) rfl rfl
 ·exact bx rfl aA (aV rfl ac hk) rfl rfl
 ·exact bx rfl aA (aV rfl ac hk) rfl rfl
 ·exact bx rfl aA (aV rfl ac hk) rfl rfl
noncomputable abbrev a4(X:Xp):=sx (si (aj (St X 1068 1)) 0) 0
noncomputable abbrev o4(kS:Nat)(own:List (Str×V)):Prop:=own.lookup ("state":Str)=some (.lst kS)
theorem ev4(h:Kk kS kL σ)(ho:eF ns a b)(hl:ss.length≤900)(n:Nat): ∃(ys:List V) (ext:Sg) (ns':List Int) (a' b':Int),ys.length=ss.length∧(∀y∈ys,∃m:Int,y= .int m∧m.natAbs≤3)∧eF ns' a' b'∧(lv (cc X) (n+28)).ev (ah X 1068 (mG kS ss kd)) (W kS kL σ ns a b) (a4 X)=some (.ok (.tup ys) (W kS kL (σ++ext) ns' a' b')):=by
 refine pK (X:=X) (n:=n+25) (as:=ss) (f:=V.int) (P:=o4 kS) (x:= .v (vI ss)) (t:= .seq (ss.map V.int) 0) h ho rfl rfl rfl ⋯ ⋯ ⋯ rfl ⋯ (bA (n:=n+24) aA (aV (x:="shape") ⋯ ac rfl)) rfl (ai _ _) hl ?_ ⋯
 intro i hi own' KB ns a b hp h' ho';refine dw fun kk=> ?_
 refine bP (oG (X:=X) (en:=⟨am (dG (ch (a4 X) 1)).names (ah X 1068 (mG kS ss kd)),("s",.int ss[i])::own',[],none⟩) (e:=ch (ch (a4 X) 1) 0) (m:=5) (ys:=[.int 1,.int (-1),.int 2,.int 0,.int (-3)]) h' ho' (by exact Gv _) (by exact Gv _) rfl ⋯ ⋯ ⋯ rfl ⋯ ⋯ ⋯ ⋯ n ⋯ (fun u_=>bT (x:="state") ⋯ (Gr ⋯ hp)) (fun u_=>by kernel_rfl)) fun y ns2 a2 b2 p1 p2 p3=> ?_<;>(refine kk ?_;clear kk)
 refine⟨("s",.int ss[i])::own',y,ns2,a2,b2,_,hp,?_,p2,by kernel_rfl,p3⟩
 suffices q: ∀y∈(_:List V),∃m:Int,y=V.int m∧m.natAbs≤3 from q y p1
 refine ak ?_ (ak ?_ (ak ?_ (ak ?_ (ak ?_ ck))))<;>exact⟨_,rfl,by decide⟩
end
section
variable {X:Xp}{own:List (Str×V)}{kS kL:Nat}{ns:List Int}{a b m:Int}{kd:Int}
noncomputable abbrev a2(X:Xp):=sx (St X 1068 2) 0
theorem la2(h:Kk kS kL σ)(ho:eF ns a b)(n:Nat)(h1:1≤ss.length)(h3:ss.length≤3): ∃(l:Nat) (c:aa) (ns':List Int) (a' b':Int),l≤4∧ss.length-1≤l∧l≤ss.length+1∧eF ns' a' b'∧aT (cc X) (lv (cc X) (n+25)) (ah X 1068 (mG kS ss kd)) (W kS kL σ ns a b) (St X 1068 2)=some (.ok .next (ah X 1068 (("length",.int (l:Nat))::mG kS ss kd)) (W kS kL (σ++[c]) ns' a' b')):=by
 refine bP (oG (X:=X) (en:=ah X 1068 (mG kS ss kd)) (e:=a2 X) (m:=6) (ys:=[.int (ss.length:Nat),.int (ss.length:Nat),.int (ss.length:Nat),.int (ss.length:Nat),.int ((ss.length:Nat)+1),.int ((ss.length:Nat)-1)]) h ho (by exact Gv _) (by exact Gv _) rfl rfl ac ⋯ rfl rfl ⋯ aA aA n rfl (fun u_=>rfl) (fun u_=>rfl)) fun y ns2 a2' b2 p1 p2 p3=> ?_
 have hy: ∃l:Nat,y= .int (l:Nat)∧l≤4∧ss.length-1≤l∧l≤ss.length+1:=by
  suffices q: ∀y∈(_:List V),∃l:Nat,y=V.int l∧l≤4∧ss.length-1≤l∧l≤ss.length+1 from q y p1
  refine ak ?_ (ak ?_ (ak ?_ (ak ?_ (ak ?_ (ak ?_ ck)))))
  ·exact⟨_,rfl,by exact H_ (by assumption),by simp+arith,by exact H1 _ _⟩
  ·exact⟨_,rfl,by exact H_ (by assumption),by simp+arith,by exact H1 _ _⟩
  ·exact⟨_,rfl,by exact H_ (by assumption),by simp+arith,by exact H1 _ _⟩
  ·exact⟨_,rfl,by exact bg ‹_› (by exact ac),by exact Nat.sub_le _ _,by exact H1 _ _⟩
  ·exact⟨ss.length+1,by congr 1,by exact Eu ‹_› (by exact ac),by omega,by exact HW _⟩
  ·exact⟨ss.length-1,by congr 1;exact Ey ‹_›,by exact FW ‹_› (by exact ac),by exact HW _,by omega⟩
 refine nr hy fun l zz1 q1 q2 q3=> ?_;subst zz1;exact⟨l,_,ns2,a2',b2,q1,q2,q3,p2,cm rfl ac ac p3⟩
noncomputable abbrev mO(kS:Nat)(ss:List Int)(kd:Int)(l:Nat):List (Str×V):=("length",.int (l:Nat))::mG kS ss kd
theorem iV{l:Nat}(h:l≤4):aC σ (.v (.rng 0 (l:Int) 1))=some (.rng 0 (l:Int) 1):=
 qO (P:=fun(l:Nat)=>aC σ (.v (.rng 0 (l:Int) 1))=some (.rng 0 (l:Int) 1)) rfl rfl rfl rfl rfl l (IA h)
theorem A_(he:e= .Tuple [ch e 0,ch e 1] (tk (e)) (ps e))(h0:al [ch e 0]=true)(h1:al [ch e 1]=true)(hx:(lv c n).ev en σ (ch e 0)=some (.ok x KC))(hy:(lv c n).ev en KC (ch e 1)=some (.ok y KG)):(lv c (n+1)).ev en σ e=some (.ok (.tup [x,y]) KG):=
 (congrArg ((lv c (n+1)).ev en σ) he).trans (gD (bz h0 hx (bz h1 hy hY)) (show 2≤2^20 by decide))
noncomputable abbrev zO:List V:=[.int 0,.int 1,.int 2,.int 0,.int (-1)]
noncomputable abbrev A5:List V:=[.int 0,.int 1,.int 0,.int 0,.int (-1)]
noncomputable abbrev yd:List V:=[.int 0,.int 0,.int 1,.int (-1)]
noncomputable abbrev AO:List V:=[.int 0,.int 0,.int (-1),.int 1]
noncomputable abbrev a0(X:Xp):=sx (si (aj (St X 1068 3)) 0) 0
theorem ev0(h:Kk kS kL σ)(ho:eF ns a b){l:Nat}(hl:l≤4)(n:Nat): ∃(ys:List V) (ext:Sg) (ns':List Int) (a' b':Int),ys.length=l∧(∀y∈ys,∃p:Int×Int,y=pP p∧p.1.natAbs≤100∧p.2.natAbs≤100)∧eF ns' a' b'∧(lv (cc X) (n+29)).ev (ah X 1068 (mO kS ss kd l)) (W kS kL σ ns a b) (a0 X)=some (.ok (.tup ys) (W kS kL (σ++ext) ns' a' b')):=by
 have key:=pK (X:=X) (n:=n+26) (e:=a0 X) (en:=ah X 1068 (mO kS ss kd l)) (Q:=fun y=> ∃p:Int×Int,y=pP p∧p.1.natAbs≤100∧p.2.natAbs≤100) (as:=GT (l:Int).toNat) (f:=fun(i:Nat)=>V.int (0+(i:Int))) (P:=o4 kS) (x:= .v (.rng 0 (l:Int) 1)) (t:= .rng 0 (l:Int) 1) h ho rfl rfl rfl ac aA ⋯ rfl ⋯
  (zL (n:=n+25) ac (bK (x:="range") (fv:= .type "range") (v:= .v (.int (l:Nat))) (KC:=W kS kL σ ns a b) ⋯ ⋯ rfl ⋯ (bA ⋯ (aV (x:="length") ⋯ ac rfl)) rfl)) (iV hl) (hX 0 l) (by rw[Hf];omega) ?_ ⋯
 ·rw[Hf,Gy]at key;exact key
 intro i hi own' KB ns a b hp h' ho'
 refine bP (oG (X:=X) (en:=⟨am (dG (ch (a0 X) 1)).names (ah X 1068 (mO kS ss kd l)),("k",.int (0+((GT (l:Int).toNat)[i]:Int)))::own',[],none⟩) (e:=ch (ch (ch (a0 X) 1) 0) 0) (m:=5) (ys:=zO) h' ho' (by exact Gv _) (by exact Gv _) rfl ⋯ ⋯ ⋯ rfl ⋯ ⋯ ⋯ ⋯ n ⋯ (fun u_=>bT (x:="state") ⋯ (Gr ⋯ hp)) (fun u_=>by kernel_rfl)) fun y ns2 a2 b2 p1 p2 p3=> ?_
 refine bP (oG (X:=X) (en:=⟨am (dG (ch (a0 X) 1)).names (ah X 1068 (mO kS ss kd l)),("k",.int (0+((GT (l:Int).toNat)[i]:Int)))::own',[],none⟩) (e:=ch (ch (ch (a0 X) 1) 0) 1) (m:=5) (σ:=KB++[aa.lst zO]) (ys:=A5) h'.app p2 (by exact Gv _) (by exact Gv _) rfl ⋯ ⋯ ⋯ rfl ⋯ ⋯ ⋯ ⋯ n ⋯ (fun u_=>bT (x:="state") ⋯ (Gr ⋯ hp)) (fun u_=>by kernel_rfl)) fun z ns3 a3 b3 r1 r2 r3=> ?_
 refine aK ((show∀y∈zO,∃i:Int,y= .int i∧i.natAbs≤100 by refine ak ?_ (ak ?_ (ak ?_ (ak ?_ (ak ?_ ck))))<;>exact⟨_,rfl,by decide⟩) y p1) fun i1 zz1 j1=> ?_;subst zz1
 refine aK ((show∀y∈A5,∃i:Int,y= .int i∧i.natAbs≤100 by refine ak ?_ (ak ?_ (ak ?_ (ak ?_ (ak ?_ ck))))<;>exact⟨_,rfl,by decide⟩) z r1) fun i2 zz1 j2=> ?_;subst zz1
 refine⟨("k",.int (0+((GT (l:Int).toNat)[i]:Int)))::own',.tup [.int i1,.int i2],ns3,a3,b3,[aa.lst zO]++[aa.lst A5],hp,⟨(i1,i2),rfl,j1,j2⟩,r2,by kernel_rfl,?_⟩
 rw[←GY]
 exact A_ ⋯ ⋯ ⋯ p3 r3
theorem Fj{P:List Int→Prop}(h1: ∀x,P [x])(h2: ∀x y,P [x,y])(h3: ∀x y z,P [x,y,z])(ss:List Int)(a:1≤ss.length)(b:ss.length≤3):P ss:=by
 cases ss with
 |nil=>exact absurd a (by exact Ia _)
 |cons x l=>
  cases l with
  |nil=>exact h1 x
  |cons y l=>
   cases l with
   |nil=>exact h2 x y
   |cons z l=>
    cases l with
    |nil=>exact h3 x y z
    |cons=>exact absurd b (by simp)
theorem F'{P:Nat→Prop}(h0:P 0)(h1:P 1)(h2:P 2)(h3:P 3)(h4:P 4)(l:Nat)(h:l≤4):P l:=by
 rcases lt5 (IA h)with rfl|rfl|rfl|rfl|rfl<;>assumption
theorem vY{l:Nat}(h1:1≤ss.length)(h3:ss.length≤3)(hl:l≤4): ∃xs:List Int,xs.length≤4∧(∀x∈xs,x∈ss∨x=2)∧cA σ (.tup (ss.map V.int++[.int 2])) none (some (l:Int)) none=some (vI xs,σ):=by
 refine⟨(ss++[2]).take l,by rw[HF];exact wA ‹_› (by exact ac),fun x hx=>by simpa using Hw hx,?_⟩
 refine Fj (P:=fun ss=>cA σ (.tup (ss.map V.int++[.int 2])) none (some (l:Int)) none=some (vI ((ss++[2]).take l),σ)) (fun x=> ?_) (fun x y=> ?_) (fun x y z=> ?_) ss h1 h3
 ·exact F' (P:=fun l=>cA σ (.tup ([x].map V.int++[.int 2])) none (some (l:Int)) none=some (vI (([x]++[2]).take l),σ)) rfl rfl rfl ⋯ ⋯ l hl
 ·exact F' (P:=fun l=>cA σ (.tup ([x,y].map V.int++[.int 2])) none (some (l:Int)) none=some (vI (([x,y]++[2]).take l),σ)) rfl rfl rfl rfl ⋯ l hl
 ·exact F' (P:=fun l=>cA σ (.tup ([x,y,z].map V.int++[.int 2])) none (some (l:Int)) none=some (vI (([x,y,z]++[2]).take l),σ)) rfl rfl rfl rfl rfl l hl
theorem la4{l:Nat}(h1:1≤ss.length)(h3:ss.length≤3)(hl:l≤4)(n:Nat): ∃xs:List Int,xs.length≤4∧(∀x∈xs,x∈ss∨x=2)∧aT (cc X) (lv (cc X) (n+20)) (ah X 1068 (mO kS ss kd l)) σ (St X 1068 4)=some (.ok .next (ah X 1068 (("sides",vI xs)::mO kS ss kd l)) σ):=by
 obtain⟨xs,q1,q2,q3⟩:=vY (σ:=σ) (ss:=ss) h1 h3 hl;refine⟨xs,q1,q2,cm rfl ac ac (CA (v:= .tup (ss.map V.int++[.int 2])) (lo:=none) (hi:=some (ch (ch (sx (St X 1068 4) 0) 1) 1)) (st:=none) (sp:=ps (ch (sx (St X 1068 4) 0) 1)) (u:= .int (l:Nat)) (t:= .none) (l':=none) (u':=some (l:Int)) (t':=none) rfl ?_ rfl rfl rfl rfl rfl rfl q3)⟩;refine cG rfl rfl rfl ?_
 exact uZ (by rw[GM];show _+1≤_;exact Eu ‹_› (by exact ac))
noncomputable abbrev eE(kS:Nat)(ss xs:List Int)(kd:Int)(l:Nat):List (Str×V):=("sides",vI xs)::mO kS ss kd l
noncomputable abbrev a1(X:Xp):=sx (si (aj (St X 1068 5)) 0) 0
theorem ev1{xs:List Int}(h:Kk kS kL σ)(ho:eF ns a b){l:Nat}(hl:xs.length≤4)(hx: ∀x∈xs,x.natAbs≤100)(n:Nat): ∃(ys:List V) (ext:Sg) (ns':List Int) (a' b':Int),ys.length=xs.length∧(∀y∈ys,∃p:Int×Int,y=pP p∧p.1.natAbs≤200∧p.2.natAbs≤200)∧eF ns' a' b'∧(lv (cc X) (n+30)).ev (ah X 1068 (eE kS ss xs kd l)) (W kS kL σ ns a b) (a1 X)=some (.ok (.tup ys) (W kS kL (σ++ext) ns' a' b')):=by
 refine pK (X:=X) (n:=n+27) (e:=a1 X) (en:=ah X 1068 (eE kS ss xs kd l)) (as:=xs) (f:=V.int) (P:=o4 kS) (x:= .v (vI xs)) (t:= .seq (xs.map V.int) 0) h ho rfl rfl rfl ac aA ⋯ rfl ⋯
  (bA ⋯ (aV (x:="sides") ⋯ ac rfl)) rfl (ai _ _) (bg ‹_› (by exact ac)) ?_ ⋯
 intro i hi own' KB ns a b hp h' ho';have hb:=hx _ (Hb hi)
 refine bP (oG (X:=X) (en:=⟨am (dG (ch (a1 X) 1)).names (ah X 1068 (eE kS ss xs kd l)),("s",.int xs[i])::own',[],none⟩) (e:=ch (ch (ch (a1 X) 1) 0) 0) (m:=4) (ys:=yd) h' ho' (by exact Gv _) (by exact Gv _) rfl ⋯ ⋯ ⋯ rfl ⋯ ⋯ ⋯ ⋯ (n+1) ⋯ (fun u_=>bT (x:="state") ⋯ (Gr ⋯ hp)) (fun u_=>by kernel_rfl)) fun y ns2 a2 b2 p1 p2 p3=> ?_
 refine bP (oG (X:=X) (en:=⟨am (dG (ch (a1 X) 1)).names (ah X 1068 (eE kS ss xs kd l)),("s",.int xs[i])::own',[],none⟩) (e:=ch (ch (ch (ch (a1 X) 1) 0) 1) 1) (m:=4) (σ:=KB++[aa.lst yd]) (ys:=AO) h'.app p2 (by exact Gv _) (by exact Gv _) rfl ⋯ ⋯ ⋯ rfl ⋯ ⋯ ⋯ ⋯ n ⋯ (fun u_=>bT (x:="state") ⋯ (Gr ⋯ hp)) (fun u_=>by kernel_rfl)) fun z ns3 a3 b3 r1 r2 r3=> ?_
 refine aK ((show∀y∈yd,∃i:Int,y= .int i∧i.natAbs≤100 by refine ak ?_ (ak ?_ (ak ?_ (ak ?_ ck)))<;>exact⟨_,rfl,by decide⟩) y p1) fun i1 zz1 j1=> ?_;subst zz1
 refine aK ((show∀y∈AO,∃i:Int,y= .int i∧i.natAbs≤100 by refine ak ?_ (ak ?_ (ak ?_ (ak ?_ ck)))<;>exact⟨_,rfl,by decide⟩) z r1) fun i2 zz1 j2=> ?_;subst zz1
 refine⟨("s",.int xs[i])::own',.tup [.int i1,.int (xs[i]+i2)],ns3,a3,b3,[aa.lst yd]++[aa.lst AO],hp,⟨(i1,xs[i]+i2),rfl,by exact bg ‹_› (by exact ac),by show(xs[i]+i2).natAbs≤200;exact zo ‹_› ‹_› (by exact ac)⟩,r2,by kernel_rfl,?_⟩
 rw[←GY]
 exact A_ ⋯ ⋯ ⋯ p3 (cG (op:= .Add) (x:= .int xs[i]) ⋯ ⋯ r3 rfl)
noncomputable abbrev ER(X:Xp):=sx (si (aj (St X 1068 6)) 0) 0
theorem ev2{xs:List Int}(h:Kk kS kL σ)(ho:eF ns a b){l:Nat}(hl:xs.length≤4)(hx: ∀x∈xs,x.natAbs≤100)(n:Nat): ∃(ys:List V) (ext:Sg) (ns':List Int) (a' b':Int),ys.length=xs.length∧(∀y∈ys,∃m:Int,y= .int m∧m.natAbs≤100)∧eF ns' a' b'∧(lv (cc X) (n+28)).ev (ah X 1068 (eE kS ss xs kd l)) (W kS kL σ ns a b) (ER X)=some (.ok (.tup ys) (W kS kL (σ++ext) ns' a' b')):=by
 refine pK (X:=X) (n:=n+25) (e:=ER X) (en:=ah X 1068 (eE kS ss xs kd l)) (as:=xs) (f:=V.int) (P:=o4 kS) (x:= .v (vI xs)) (t:= .seq (xs.map V.int) 0) h ho rfl rfl rfl ac aA ⋯ rfl ⋯
  (bA ⋯ (aV (x:="sides") ⋯ ac rfl)) rfl (ai _ _) (bg ‹_› (by exact ac)) ?_ ⋯
 intro i hi own' KB ns a b hp h' ho';have hb:=hx _ (Hb hi)
 refine bP (oG (X:=X) (en:=⟨am (dG (ch (ER X) 1)).names (ah X 1068 (eE kS ss xs kd l)),("s",.int xs[i])::own',[],none⟩) (e:=ch (ch (ER X) 1) 0) (m:=6) (ys:=[.int xs[i],.int xs[i],.int 3,.int 2,.int 0,.int (-1)]) h' ho' (by exact Gv _) (by exact Gv _) rfl ⋯ ⋯ ⋯ rfl ⋯ ⋯ ⋯ ⋯ n ⋯ (fun u_=>bT (x:="state") ⋯ (Gr ⋯ hp)) (fun u_=>by kernel_rfl)) fun y ns2 a2 b2 p1 p2 p3=> ?_
 refine⟨("s",.int xs[i])::own',y,ns2,a2,b2,_,hp,?_,p2,by kernel_rfl,p3⟩
 suffices q: ∀y∈(_:List V),∃m:Int,y=V.int m∧m.natAbs≤100 from q y p1
 refine ak ?_ (ak ?_ (ak ?_ (ak ?_ (ak ?_ (ak ?_ ck)))))
 ·exact⟨_,rfl,hb⟩
 ·exact⟨_,rfl,hb⟩
 ·exact⟨_,rfl,by decide⟩
 ·exact⟨_,rfl,by decide⟩
 ·exact⟨_,rfl,by exact H9 _⟩
 ·exact⟨_,rfl,by decide⟩
noncomputable abbrev a3(X:Xp):=sx (si (aj (St X 1068 7)) 0) 0
theorem ev3{xs:List Int}(h:Kk kS kL σ)(ho:eF ns a b){l:Nat}(hl:l≤4)(hn:ss.length≤3)(n:Nat): ∃(ys:List V) (ext:Sg) (ns':List Int) (a' b':Int),ys.length=l∧(∀y∈ys,∃m:Int,y= .int m∧m.natAbs≤100)∧eF ns' a' b'∧(lv (cc X) (n+33)).ev (ah X 1068 (eE kS ss xs kd l)) (W kS kL σ ns a b) (a3 X)=some (.ok (.tup ys) (W kS kL (σ++ext) ns' a' b')):=by
 have key:=pK (X:=X) (n:=n+30) (e:=a3 X) (en:=ah X 1068 (eE kS ss xs kd l)) (Q:=fun y=> ∃m:Int,y= .int m∧m.natAbs≤100) (as:=GT (l:Int).toNat) (f:=fun(i:Nat)=>V.int (0+(i:Int))) (P:=fun own=>o4 kS own∧own.lookup ("many":Str)=some (.int (ss.length:Nat))) (x:= .v (.rng 0 (l:Int) 1)) (t:= .rng 0 (l:Int) 1) h ho rfl rfl rfl ac aA ⋯ rfl ⋯
  (zL (n:=n+29) ⋯ (bK (n:=n+28) (x:="range") (fv:= .type "range") (v:= .v (.int (l:Nat))) (KC:=W kS kL σ ns a b) ⋯ ⋯ rfl ⋯ (bA ⋯ (aV (x:="length") ⋯ ac rfl)) rfl)) (iV hl) (hX 0 l) (by rw[Hf];omega) ?_ ⟨by kernel_rfl,by kernel_rfl⟩
 ·rw[Hf,Gy]at key;exact key
 rintro i hi own' KB ns a b ⟨hp,hq⟩ h' ho';refine dw fun kk=> ?_
 refine cC (m_ (X:=X) (en:=⟨am (dG (ch (a3 X) 1)).names (ah X 1068 (eE kS ss xs kd l)),("k",.int (0+((GT (l:Int).toNat)[i]:Int)))::own',[],none⟩) (e:=ch (ch (ch (ch (ch (a3 X) 1) 0) 0) 1) 0) (σ:=KB) (m:=2) h' ho' (by exact Gv _) (by exact Gv _) ⋯ rfl ⋯ ⋯ ⋯ ⋯ (n+3) (bT (x:="state") ⋯ (Gr ⋯ hp)) ⋯) fun y1 ns2 a2 b2 p0 p1 p2 p3=> ?_<;>(refine kk ?_;clear kk)
 refine dw fun kk=> ?_
 refine cC (m_ (X:=X) (en:=⟨am (dG (ch (a3 X) 1)).names (ah X 1068 (eE kS ss xs kd l)),("k",.int (0+((GT (l:Int).toNat)[i]:Int)))::own',[],none⟩) (e:=ch (ch (ch (ch (ch (a3 X) 1) 0) 0) 1) 1) (σ:=KB) (m:=3) h' p2 (by exact Gv _) (by exact Gv _) ⋯ rfl ⋯ ⋯ ⋯ ⋯ (n+3) (bT (x:="state") ⋯ (Gr ⋯ hp)) ⋯) fun y2 ns3 a3' b3 r0 r1 r2 r3=> ?_<;>(refine kk ?_;clear kk)
 have hL:(0:Int)<(ss.length:Nat)+1:=by simp+arith
 have hf:=GI (0+((GT (l:Int).toNat)[i]:Int)+y1*y2) hL;have hf':=GJ (0+((GT (l:Int).toNat)[i]:Int)+y1*y2) hL
 refine⟨("k",.int (0+((GT (l:Int).toNat)[i]:Int)))::own',.int ((0+((GT (l:Int).toNat)[i]:Int)+y1*y2).fmod ((ss.length:Nat)+1)),ns3,a3',b3,[],⟨hp,hq⟩,⟨_,rfl,E3 hf (GB hf' (GD (GA.mpr hn) 1)) (.refl true)⟩,r2,by kernel_rfl,?_⟩
 rw[G2]
 exact cG (op:= .Mod) (KC:=W kS kL KB ns3 a3' b3) (KG:=W kS kL KB ns3 a3' b3) (x:= .int (0+((GT (l:Int).toNat)[i]:Int)+y1*y2)) (y:= .int ((ss.length:Nat)+1)) ⋯
  (cG (op:= .Add) (KC:=W kS kL KB ns a b) (x:= .int (0+((GT (l:Int).toNat)[i]:Int))) (y:= .int (y1*y2)) ⋯ ⋯ (cG (op:= .Mult) (x:= .int y1) (y:= .int y2) ⋯ p3 r3 (gK (be (k:=10) (E3 ‹_› ‹_› (by exact ac)) (by decide)) (be (k:=10) (E3 ‹_› ‹_› (by exact ac)) (by decide)))) rfl)
  (cG (op:= .Add) (KC:=W kS kL KB ns3 a3' b3) (x:= .int (ss.length:Nat)) (y:= .int 1) ⋯ (bT (x:="many") ⋯ (Gr ⋯ hq)) ⋯ rfl) (nK (npn ‹_›) (be (k:=10) (by omega) (by decide)))
theorem pv{f:β→V}{B:β→Prop}:(∀y∈ys,∃p,y=f p∧B p)→ ∃ps:List β,ys=ps.map f∧ps.length=ys.length∧ ∀p∈ps,B p:=by
 induction ys with
 |nil=>exact fun u_=>⟨[],rfl,rfl,fun u_ m=>nomatch m⟩
 |cons y ys ih=>
  intro h;refine aK (h y (.head _)) fun p zz1 hp=> ?_;subst zz1;refine bW (ih fun z hz=>h z (.tail _ hz)) fun ps zz1 h2 h3=> ?_;subst zz1
  exact⟨p::ps,rfl,by exact congrArg _ (by assumption),fun q hq=>by
   rcases GW.mp hq with rfl|hq
   ·exact hp
   ·exact h3 q hq⟩
noncomputable def kT(z:Int):List (List Int):=[[z],[1,z],[2,z.fdiv 2],[z+1],[-1,-z],[z,1,1],[-z],[z,0]]
noncomputable abbrev a9(X:Xp):=sx (St X 1068 9) 0
theorem ev5{xs:List Int}(h:Kk kS kL σ)(ho:eF ns a b){l:Nat}(n:Nat): ∃(zs:List Int) (c:aa) (ns':List Int) (a' b':Int),zs∈kT z∧eF ns' a' b'∧(lv (cc X) (n+25)).ev (ah X 1068 (("size",.int z)::eE kS ss xs kd l)) (W kS kL σ ns a b) (a9 X)=some (.ok (vI zs) (W kS kL (σ++[c]) ns' a' b')):=by
 refine dw fun kk=> ?_
 refine bP (oG (X:=X) (en:=ah X 1068 (("size",.int z)::eE kS ss xs kd l)) (e:=a9 X) (m:=8) (ys:=(kT z).map vI) h ho (by exact Gv _) (by exact Gv _) rfl rfl ac ⋯ rfl rfl ⋯ aA aA n rfl (fun u_=>rfl) (fun u_=>rfl)) fun y ns2 a2' b2 p1 p2 p3=> ?_<;>(refine kk ?_;clear kk)
 refine aK (G0.mp p1) fun zs hz zz2=> ?_;subst zz2;exact⟨zs,_,ns2,a2',b2,hz,p2,p3⟩
theorem xS(i:Nat)(hi:i∈[1,3,5,6,7])(hk:own.lookup ("kind":Str)=some (.int kd))(hne:(kd==Cc i)=false)(n:Nat):aT (cc X) (lv (cc X) (n+20)) (ah X 1068 own) σ (St X 1068 i)=some (.ok .next (ah X 1068 own) σ):=by
 have t:=Af (X:=X) (σ:=σ) i hi hk n;rw[hne]at t;revert i;refine ak ?_ (ak ?_ (ak ?_ (ak ?_ (ak ?_ ck))))<;>exact fun u_ t=>dy rfl t rfl
theorem uV{so:V}(i:Nat)(hi:i∈[1,3,5,6,7])(hk:own.lookup ("kind":Str)=some (.int kd))(hne:(kd==Cc i)=true)(n:Nat)(h:(lv (cc X) (n+19)).ev (ah X 1068 own) σ (sx (si (aj (St X 1068 i)) 0) 0)=some (.ok so KB)):aT (cc X) (lv (cc X) (n+20)) (ah X 1068 own) σ (St X 1068 i)=some (.ok (.ret so) (ah X 1068 own) KB):=by
 have t:=Af (X:=X) (σ:=σ) i hi hk n;rw[hne]at t
 have hb:aj (St X 1068 i)=[si (aj (St X 1068 i)) 0]∧si (aj (St X 1068 i)) 0= .Return (some (sx (si (aj (St X 1068 i)) 0) 0)) (kB (si (aj (St X 1068 i)) 0))∧St X 1068 i= .If (sx (St X 1068 i) 0) (aj (St X 1068 i)) (cW (St X 1068 i)) (kB (St X 1068 i)):=by
  clear t h hne;revert i;refine ak ?_ (ak ?_ (ak ?_ (ak ?_ (ak ?_ ck))))<;>exact⟨rfl,rfl,rfl⟩
 refine eM hb.2.2 t ?_;refine(hb.1).symm▸ ?_;exact aq (dA hb.2.1 h)
noncomputable abbrev Dm(kS:Nat)(ss:List Int)(kd:Int):List (Str×V):=[("kind",.int kd),("shape",vI ss),("state",.lst kS)]
theorem hW(n:Nat)(h:(lv (cc X) (n+59)).exs (ah X 1068 (Dm kS ss kd)) σ [St X 1068 0,St X 1068 1,St X 1068 2,St X 1068 3,St X 1068 4,St X 1068 5,St X 1068 6,St X 1068 7,St X 1068 8,St X 1068 9]=some so)(ho:im so=some o):(lv (cc X) (n+60)).cf σ 1068 [.lst kS,vI ss,.int kd] []=some o:=
 bp (a:=1068) (binds:=[("state",.lst kS),("shape",vI ss),("kind",.int kd)]) ⋯ ⋯ ac ((congrArg ((lv (cc X) (n+59)).exs (ah X 1068 (Dm kS ss kd)) σ) (show aD X 1068=_ from rfl)).trans h) ho
noncomputable def zT(kd:Int)(ss:List Int)(v:V):Prop:=
 (kd=4∧ ∃mu,v=vI mu∧mu.length=ss.length∧ ∀m∈mu,m.natAbs≤3)∨(kd=0∧ ∃as,v=vP as∧as.length≤4∧PB 100 as)∨(kd=1∧ ∃as,v=vP as∧as.length≤4∧PB 200 as)∨
 (kd=2∧ ∃xs,v=vI xs∧xs.length≤4∧IB 100 xs)∨(kd=3∧ ∃xs,v=vI xs∧xs.length≤4)
theorem kd3{d:Int}(h:0≤d)(h':d≤4)(a: ¬d=0)(b: ¬d=1)(c: ¬d=2)(e: ¬d=4):d=3:=
 have st: ∀{m:Int},m≤d→ ¬d=m→m+1≤d:=fun h q=>Int.add_one_le_of_lt (GG.mpr ⟨h,Ne.symm q⟩)
 Int.le_antisymm (GF (GG.mpr ⟨h',e⟩)) (st (st (st h a) b) c)
theorem FH(h:Kk kS kL σ)(ho:eF ns a b)(h1:1≤ss.length)(h3:ss.length≤3)(hs: ∀s∈ss,1≤s∧s≤99)(hk:0≤kd∧kd≤4)(n:Nat): ∃(v:V) (ext:Sg) (ns':List Int) (a' b':Int),zT kd ss v∧eF ns' a' b'∧(lv (cc X) (n+60)).cf (W kS kL σ ns a b) 1068 [.lst kS,vI ss,.int kd] []=some (.ok v (W kS kL (σ++ext) ns' a' b')):=by
 have s0:=la0 (X:=X) (σ:=W kS kL σ ns a b) (kS:=kS) (ss:=ss) (kd:=kd) (bg ‹_› (by exact ac)) (n+38)
 by_cases k4:kd=4
 ·subst k4
  refine fO (ev4 (X:=X) (kd:=4) (ss:=ss) h ho (bg ‹_› (by exact ac)) (n+29)) fun ys ext ns' a' b' q1 q2 q3 q4=> ?_
  refine bW (pv q2) fun mu zz1 r1 r2=> ?_;subst zz1
  exact⟨_,ext,ns',a',b',.inl ⟨rfl,mu,rfl,by exact Gr ‹_› ‹_›,r2⟩,q3,hW n (ab s0 (bk (uV (own:=mG kS ss 4) 1 (by exact .head _) rfl rfl (n+38) q4))) rfl⟩
 have s1:=xS (X:=X) (σ:=W kS kL σ ns a b) (own:=mG kS ss kd) (kd:=kd) 1 (by exact .head _) rfl (beq_eq_false_iff_ne.mpr k4) (n+38)
 refine k_ (la2 (X:=X) (kd:=kd) (ss:=ss) h ho (n+33) h1 h3) fun l c eB a1 b1 l1 l2 l3 ho1 s2=> ?_;have hA:=h.app (ext:=[c])
 by_cases k0:kd=0
 ·subst k0;refine fO (ev0 (X:=X) (kd:=0) (ss:=ss) hA ho1 l1 (n+28)) fun ys ext ns' a' b' q1 q2 q3 q4=> ?_;refine bW (pv q2) fun as zz1 r1 r2=> ?_;subst zz1;rw[GY]at q4
  exact⟨_,_,ns',a',b',.inr (.inl ⟨rfl,as,rfl,by omega,r2⟩),q3,hW n (ab s0 (ab s1 (ab s2 (bk (uV (own:=mO kS ss 0 l) 3 (by exact .tail _ (.head _)) rfl rfl (n+38) q4))))) rfl⟩
 have s3:=xS (X:=X) (σ:=W kS kL (σ++[c]) eB a1 b1) (own:=mO kS ss kd l) (kd:=kd) 3 (by exact .tail _ (.head _)) rfl (beq_eq_false_iff_ne.mpr k0) (n+38)
 refine bW (la4 (X:=X) (σ:=W kS kL (σ++[c]) eB a1 b1) (kS:=kS) (ss:=ss) (kd:=kd) h1 h3 l1 (n+38)) fun xs x1 x2 s4=> ?_
 have xb: ∀x∈xs,x.natAbs≤100:=fun x hx=>by
  rcases x2 x hx with q|q
  ·have:=hs x q;exact qA ‹_› (by exact ac)
  ·exact nec ‹_› (by exact ac)
 by_cases k1:kd=1
 ·subst k1;refine fO (ev1 (X:=X) (kd:=1) (ss:=ss) (l:=l) hA ho1 x1 xb (n+27)) fun ys ext ns' a' b' q1 q2 q3 q4=> ?_;refine bW (pv q2) fun as zz1 r1 r2=> ?_;subst zz1;rw[GY]at q4
  exact⟨_,_,ns',a',b',.inr (.inr (.inl ⟨rfl,as,rfl,by exact Ab ‹_› ‹_› ‹_› (by exact ac),r2⟩)),q3,hW n (ab s0 (ab s1 (ab s2 (ab s3 (ab s4 (bk (uV (own:=eE kS ss xs 1 l) 5 (by decide) rfl rfl (n+38) q4))))))) rfl⟩
 have s5:=xS (X:=X) (σ:=W kS kL (σ++[c]) eB a1 b1) (own:=eE kS ss xs kd l) (kd:=kd) 5 (by decide) rfl (beq_eq_false_iff_ne.mpr k1) (n+38)
 by_cases k2:kd=2
 ·subst k2;refine fO (ev2 (X:=X) (kd:=2) (ss:=ss) (l:=l) hA ho1 x1 xb (n+29)) fun ys ext ns' a' b' q1 q2 q3 q4=> ?_;refine bW (pv q2) fun zs zz1 r1 r2=> ?_;subst zz1;rw[GY]at q4
  exact⟨_,_,ns',a',b',.inr (.inr (.inr (.inl ⟨rfl,zs,rfl,by exact Ab ‹_› ‹_› ‹_› (by exact ac),r2⟩))),q3,hW n (ab s0 (ab s1 (ab s2 (ab s3 (ab s4 (ab s5 (bk (uV (own:=eE kS ss xs 2 l) 6 (by decide) rfl rfl (n+38) q4)))))))) rfl⟩
 have s6:=xS (X:=X) (σ:=W kS kL (σ++[c]) eB a1 b1) (own:=eE kS ss xs kd l) (kd:=kd) 6 (by decide) rfl (beq_eq_false_iff_ne.mpr k2) (n+38)
 have k3:kd=3:=kd3 hk.1 hk.2 k0 k1 k2 k4;subst k3;refine fO (ev3 (X:=X) (kd:=3) (ss:=ss) (xs:=xs) hA ho1 l1 h3 (n+24)) fun ys ext ns' a' b' q1 q2 q3 q4=> ?_;refine bW (pv q2) fun zs zz1 r1 r2=> ?_;subst zz1;rw[GY]at q4
 exact⟨_,_,ns',a',b',.inr (.inr (.inr (.inr ⟨rfl,zs,rfl,by omega⟩))),q3,hW n (ab s0 (ab s1 (ab s2 (ab s3 (ab s4 (ab s5 (ab s6 (bk (uV (own:=eE kS ss xs 3 l) 7 (by decide) rfl rfl (n+38) q4))))))))) rfl⟩
theorem Ej(h:Kk kS kL σ)(ho:eF ns a b)(h1:1≤ss.length)(h3:ss.length≤3)(hs: ∀s∈ss,1≤s∧s≤99)(n:Nat): ∃(zs:List Int) (c c':aa) (ns':List Int) (a' b':Int),zs∈kT (aS 1 ss)∧eF ns' a' b'∧(lv (cc X) (n+60)).cf (W kS kL σ ns a b) 1068 [.lst kS,vI ss,.int 5] []=some (.ok (vI zs) (W kS kL (σ++[c]++[c']) ns' a' b')):=by
 have s0:=la0 (X:=X) (σ:=W kS kL σ ns a b) (kS:=kS) (ss:=ss) (kd:=5) (bg ‹_› (by exact ac)) (n+38)
 have s1:=xS (X:=X) (σ:=W kS kL σ ns a b) (own:=mG kS ss 5) (kd:=5) 1 (by exact .head _) rfl rfl (n+38)
 refine dw fun kk=> ?_;refine k_ (la2 (X:=X) (kd:=5) (ss:=ss) h ho (n+33) h1 h3) fun l c eB a1 b1 l1 l2 l3 ho1 s2=> ?_<;>(refine kk ?_;clear kk)
 have hA:=h.app (ext:=[c])
 have s3:=xS (X:=X) (σ:=W kS kL (σ++[c]) eB a1 b1) (own:=mO kS ss 5 l) (kd:=5) 3 (by exact .tail _ (.head _)) rfl rfl (n+38)
 refine dw fun kk=> ?_;refine bW (la4 (X:=X) (σ:=W kS kL (σ++[c]) eB a1 b1) (kS:=kS) (ss:=ss) (kd:=5) h1 h3 l1 (n+38)) fun xs x1 x2 s4=> ?_<;>(refine kk ?_;clear kk)
 have s5:=xS (X:=X) (σ:=W kS kL (σ++[c]) eB a1 b1) (own:=eE kS ss xs 5 l) (kd:=5) 5 (by decide) rfl rfl (n+38)
 have s6:=xS (X:=X) (σ:=W kS kL (σ++[c]) eB a1 b1) (own:=eE kS ss xs 5 l) (kd:=5) 6 (by decide) rfl rfl (n+38)
 have s7:=xS (X:=X) (σ:=W kS kL (σ++[c]) eB a1 b1) (own:=eE kS ss xs 5 l) (kd:=5) 7 (by decide) rfl rfl (n+38)
 have s8:aT (cc X) (lv (cc X) (n+58)) (ah X 1068 (eE kS ss xs 5 l)) (W kS kL (σ++[c]) eB a1 b1) (St X 1068 8)=some (.ok .next (ah X 1068 (("size",.int (aS 1 ss))::eE kS ss xs 5 l)) (W kS kL (σ++[c]) eB a1 b1)):=
  cm (x:="size") (xp:=ps (sx (St X 1068 8) 1)) rfl ac ac (bK (x:="_law_size") (fv:= .ref 1046) (v:= .v (vI ss)) (KC:=W kS kL (σ++[c]) eB a1 b1) rfl rfl rfl ac (bA aA (aV (x:="shape") rfl ac rfl))
   (eL (X:=X) (xs:=[vI ss]) ⋯ (sL ⟨by exact H_ (by assumption),fun s q=>by have:=hs s q;exact qA ‹_› (by exact ac)⟩ (n+37) (xw X))))
 refine dw fun kk=> ?_;refine o0 (ev5 (X:=X) (ss:=ss) (xs:=xs) (kd:=5) (l:=l) (z:=aS 1 ss) hA ho1 (n+33)) fun zs c' ns2 a2' b2 z1 z2 z3=> ?_<;>(refine kk ?_;clear kk)
 exact⟨zs,c,c',ns2,a2',b2,z1,z2,hW n (ab s0 (ab s1 (ab s2 (ab s3 (ab s4 (ab s5 (ab s6 (ab s7 (ab s8 (aq (dA rfl z3))))))))))) rfl⟩
end
section
variable {X:Xp}{own:List (Str×V)}{xs ax mu:List Int}{as:List (Int×Int)}{kd:Int}{arg:V}
theorem Bh(hj:σ[j]? =some (aa.lst l))(hk:σ[k]? =some (aa.lst [])):eh σ .Eq (.lst j) (.lst k)=some l.isEmpty:=by
 show(aI σ j).bind (fun a=>(aI σ k).bind fun b=>if a.length=b.length then dR σ 199 a b else some false)=_
 rw[aN hj,aN hk]
 cases l with
 |nil=>rfl
 |cons=>rfl
theorem tZ{as:List α}{k:α→Bool}{F:α→V}:((as.filter k).map F).isEmpty=as.all fun a=> !k a:=by
 induction as with
 |nil=>rfl
 |cons a as ih=>
  rw[Hv,Hp]
  cases k a with
  |true=>rfl
  |false=>exact ih
theorem pu{S:Sg→Prop}{x:IV}{f F:α→V}{as:List α}{b:α→List (Str×V)}{P:List (Str×V)→Prop}{k:α→Bool}(he:e= .Compare (ch e 0) [.Eq] [ch e 1] (ps e))(hm:lastMarks [.Eq] [ch e 1]=false)(he1:iM (ch e 0))(hf:hG en (ch e 0)=true)(hx:(lv c n).iv en σ (ch (ch e 0) 2)=some (.ok x σ))(ht:aC σ x=some t)(hS: ∀acc,S (σ++[aa.lst acc]))(tl:aE S t (as.map f))(hl:as.length<4096)
 (hp:P (dY (dG (ch e 0)).names en).own) (hb:CR c n (ch e 0) en σ as f b P k F) (h0: ∀σ:Sg,(lv c (n+1)).ev en σ (ch e 1)=some (.ok (.lst σ.length) (σ++[aa.lst []]))): ∃ext:Sg,(lv c (n+2)).ev en σ e=some (.ok (.bool (as.all fun a=> !k a)) (σ++ext)):=by
 refine⟨[aa.lst ((as.filter k).map F)]++[aa.lst []],?_⟩;rw[←tZ (F:=F),←GY]
 exact qy he hm (jS he1 (nN hf hx ht hS tl hl hp hb)) (h0 _) (Bh (bZ (by exact G6)) (by exact G6))
noncomputable abbrev uP(ss:List Int)(kd:Int)(arg:V):List (Str×V):=[("arg",arg),("kind",.int kd),("shape",vI ss)]
noncomputable abbrev fD(ss:List Int)(kd:Int)(arg:V):List (Str×V):=("many",.int (ss.length:Nat))::uP ss kd arg
theorem Cm(hl:ss.length≤900)(n:Nat):aT (cc X) (lv (cc X) (n+20)) (ah X 1058 (uP ss kd arg)) σ (St X 1058 0)=some (.ok .next (ah X 1058 (fD ss kd arg)) σ):=by
 have e2:((ss.map V.int).length:Int)=ss.length:=by rw[GM]
 have:=kC (X:=X) (a:=1058) (own:=uP ss kd arg) (σ:=σ) (e:=sx (St X 1058 0) 0) (n:=n+18) rfl rfl rfl ac aA (aV rfl ac rfl) (by rw[GM];exact bg ‹_› (by exact ac))
 rw[e2]at this;exact cm rfl ac ac this
theorem wh(i:Nat)(hi:i<5)(n:Nat):(lv (cc X) (n+20)).tr (ah X 1058 (fD ss kd arg)) σ (sx (St X 1058 (i+1)) 0)=some (.ok (kd==(i:Int)) σ):=by
 revert i;refine qO ?_ ?_ ?_ ?_ ?_
 all_goals exact bx (op:= .Eq) rfl aA (aV (x:="kind") rfl ac rfl) rfl rfl
theorem C5(X:Xp)(i:Nat)(hi:i<5):St X 1058 (i+1)= .If (sx (St X 1058 (i+1)) 0) (aj (St X 1058 (i+1))) (cW (St X 1058 (i+1))) (kB (St X 1058 (i+1)))∧cW (St X 1058 (i+1))=[]:=by
 revert i;refine qO ?_ ?_ ?_ ?_ ?_
 all_goals exact⟨rfl,rfl⟩
theorem iI(i:Nat)(hi:i<5)(hne:(kd==(i:Int))=false)(n:Nat):aT (cc X) (lv (cc X) (n+20)) (ah X 1058 (fD ss kd arg)) σ (St X 1058 (i+1))=some (.ok .next (ah X 1058 (fD ss kd arg)) σ):=by
 have t:=wh (X:=X) (σ:=σ) (ss:=ss) (kd:=kd) (arg:=arg) i hi n;rw[hne]at t;refine oA (C5 X i hi) fun h1 h2=> ?_
 exact dy h1 t (by rw[h2];rfl)
theorem qa{so:V}(i:Nat)(hi:i<5)(hne:(kd==(i:Int))=true)(n:Nat)(h:(lv (cc X) (n+20)).exs (ah X 1058 (fD ss kd arg)) σ (aj (St X 1058 (i+1)))=some (.ok (.ret so) (ah X 1058 (fD ss kd arg)) KB)):aT (cc X) (lv (cc X) (n+20)) (ah X 1058 (fD ss kd arg)) σ (St X 1058 (i+1))=some (.ok (.ret so) (ah X 1058 (fD ss kd arg)) KB):=by
 have t:=wh (X:=X) (σ:=σ) (ss:=ss) (kd:=kd) (arg:=arg) i hi n;rw[hne]at t;exact eM (C5 X i hi).1 t h
theorem gX(n:Nat)(h:(lv (cc X) (n+59)).exs (ah X 1058 (uP ss kd arg)) σ [St X 1058 0,St X 1058 1,St X 1058 2,St X 1058 3,St X 1058 4,St X 1058 5,St X 1058 6]=some so)(ho:im so=some o):(lv (cc X) (n+60)).cf σ 1058 [vI ss,.int kd,arg] []=some o:=
 bp (a:=1058) (binds:=[("shape",vI ss),("kind",.int kd),("arg",arg)]) ⋯ ⋯ ac ((congrArg ((lv (cc X) (n+59)).exs (ah X 1058 (uP ss kd arg)) σ) (show aD X 1058=_ from rfl)).trans h) ho
theorem ED{f:Nat}(hl:l.length≤900)(he:e= .Compare (ch e 0) [.Eq] [ch e 1] (ps e))(hm:lastMarks [.Eq] [ch e 1]=false)(h0:ch e 0= .Call (.Name ("len":Str) (ps (ch (ch e 0) 0))) [ch (ch e 0) 1] [] (ps (ch e 0)))(hg:cJ [ch (ch e 0) 1]=none)(hn:al [ch (ch e 0) 1]=true)(hi:aY (ch (ch e 0) 1)=false)(h1:ch (ch e 0) 1= .Name ("arg":Str) (ps (ch (ch e 0) 1)))(h2:ch e 1= .Name ("many":Str) (ps (ch e 1)))(n:Nat):
 (lv (cc X) (n+20)).ev (ah X 1058 (fD ss kd (.tup l))) σ e=some (.ok (.bool ((l.length:Int)==(ss.length:Int))) σ):=
 qy he hm (kC h0 hg rfl hn hi (aV h1 ac rfl) (bg ‹_› (by exact ac))) (aV h2 ac rfl) rfl
noncomputable abbrev z1(X:Xp):=sx (si (aj (St X 1058 1)) 0) 0
theorem rZ{a:Bool}(he:e= .BoolOp .And [ch e 0,ch e 1] (ps e))(h1:(lv c n).ev en σ (ch e 0)=some (.ok (.bool a) σ))(h2:a=true→ ∃ext:Sg,(lv c n).ev en σ (ch e 1)=some (.ok (.bool b) (σ++ext))): ∃ext:Sg,(lv c (n+1)).ev en σ e=some (.ok (.bool (a&&b)) (σ++ext)):=by
 have key:(lv c (n+1)).ev en σ e=i7 (lv c n).ev en .And σ [ch e 0,ch e 1]:=(congrArg ((lv c (n+1)).ev en σ) he);refine(key).symm▸ ?_
 cases a with
 |false=>exact⟨[],kW h1 (congrArg (fun s=>some (aG.ok (V.bool false) s)) (G2 σ).symm)⟩
 |true=>
  obtain⟨ext,h2⟩:=h2 rfl;exact⟨ext,kW h1 h2⟩
noncomputable def r9(ss:List Int)(as:List (Int×Int)):Bool:=((as.length:Int)==(ss.length:Int))&&as.all fun p=> !(decide (p.1<0)||decide (p.2<0))
theorem A7(hl:as.length≤900)(hs:ss.length≤900)(n:Nat): ∃ext:Sg,(lv (cc X) (n+60)).cf σ 1058 [vI ss,.int 0,vP as] []=some (.ok (.bool (r9 ss as)) (σ++ext)):=by
 have l1:=ED (X:=X) (σ:=σ) (ss:=ss) (kd:=0) (l:=as.map pP) (f:=0) (e:=ch (z1 X) 0) (by rw[GM];assumption) ⋯ aA ⋯ ⋯ ⋯ ⋯ ⋯ ⋯ (n+36)
 rw[GM]at l1
 obtain⟨ext,h⟩:=rZ (c:=cc X) (e:=z1 X) (b:=as.all fun p=> !(decide (p.1<0)||decide (p.2<0))) rfl l1 (fun u_=>pu (e:=ch (z1 X) 1) (S:=fun u_=>True) (x:= .v (vP as)) (t:= .seq (as.map pP) 0) (as:=as) (f:=pP) (F:=pP) (b:=fun p=>[("row",pP p)]) (P:=fun u_=>True) ⋯ aA ⋯ ⋯
  (bA ⋯ (aV (x:="arg") ⋯ ac rfl)) rfl (fun u_=>trivial) (ai _ _) (fH ‹_› (by exact ac)) trivial (fun p hp own acc u_=>⟨trivial,by kernel_rfl,(congrArg (bL _ _ _) (show ec (ch (ch (z1 X) 1) 0)=[ch (ch (ch (z1 X) 1) 0) 3]from by kernel_rfl)).trans (jC (D1 ⋯ (bx (op:= .Lt) (KC:=σ++[aa.lst acc]) (x:= .int p.1) (y:= .int 0) ⋯ ⋯ ⋯ ⋯ rfl) (fun u_=>bx (op:= .Lt) (KC:=σ++[aa.lst acc]) (x:= .int p.2) (y:= .int 0) ⋯ ⋯ ⋯ ⋯ rfl))),fun u_=>by kernel_rfl⟩) (fun u_=>rfl))
 refine⟨ext,gX n (ab (Cm (by assumption) (n+38)) (bk (qa 0 (by exact HX _) rfl (n+38) ?_))) rfl⟩
 rw[show aj (St X 1058 (0+1))=[si (aj (St X 1058 1)) 0]from rfl]
 exact aq (dA rfl h)
end
section
theorem E2{w x y:Int}(he:e= .Compare (ch e 0) [.LtE,.LtE,.LtE] [ch e 1,ch e 2,ch e 3] (ps e))(hm:lastMarks [.LtE,.LtE,.LtE] [ch e 1,ch e 2,ch e 3]=false)(h0:(lv c n).ev en σ (ch e 0)=some (.ok (.int w) σ))(h1:(lv c n).ev en σ (ch e 1)=some (.ok (.int x) σ))(h2:(lv c n).ev en σ (ch e 2)=some (.ok (.int y) σ))(h3:(lv c n).ev en σ (ch e 3)=some (.ok (.int z) σ)):
 (lv c (n+1)).tr en σ e=some (.ok (decide (w≤x)&&(decide (x≤y)&&decide (y≤z))) σ):=by
 refine(congrArg ((lv c (n+1)).tr en σ) he).trans ?_;refine(?_:BW (lv c n).ev (lv c n).tr en σ (.Compare (ch e 0) [.LtE,.LtE,.LtE] [ch e 1,ch e 2,ch e 3] (ps e))=_);have c1:eh σ .LtE (.int w) (.int x)=some (decide (w≤x)):=rfl;have c2:eh σ .LtE (.int x) (.int y)=some (decide (x≤y)):=rfl;have c3:eh σ .LtE (.int y) (.int z)=some (decide (y≤z)):=rfl
 refine(if_neg (by rw[hm];exact Gi):(if lastMarks [.LtE,.LtE,.LtE] [ch e 1,ch e 2,ch e 3]=true then none else aw ((lv c n).ev en σ (ch e 0)) _)=_).trans ?_
 rw[h0];refine fX h1 c1 ?_
 cases decide (w≤x)with
 |false=>rfl
 |true=>
  refine fX h2 c2 ?_
  cases decide (x≤y)with
  |false=>rfl
  |true=>exact hH h3 c3
variable {X:Xp}{own:List (Str×V)}{xs ax mu:List Int}{as:List (Int×Int)}{kd:Int}{arg:V}
theorem pL{f:β→V}{l:List β}(d:β)(h:i<l.length)(hl:l.length≤900):gk σ (.tup (l.map f)) (0+(i:Int))=some (f (l.getD i d)):=by
 rw[Int.zero_add]
 exact jk (by rw[Ha,G1 h,Hd,G1 h];rfl) (Em ‹_› ‹_› (by exact ac))
theorem jU(he:e= .Call (.Name ("range":Str) (ps (ch e 0))) [ch e 1] [] (ps e))(hg:cJ [ch e 1]=none)(hc:al [ch e 1]=true)(h1:ch e 1= .Name ("many":Str) (ps (ch e 1))):(lv (cc X) (n+6)).iv (ah X 1058 (fD ss kd arg)) σ e=some (.ok (.v (.rng 0 (ss.length:Nat) 1)) σ):=
 zL (by rw[he];rfl) (bK (fv:= .type "range") (v:= .v (.int (ss.length:Nat))) he hg rfl (by rw[hc];exact ac) (bA (by rw[h1];rfl) (aV h1 ac rfl)) rfl)
noncomputable def sg(ss:List Int)(as:List (Int×Int)):Bool:=((as.length:Int)==(ss.length:Int))&&(GT ss.length).all fun i=> !(!(decide (0≤(as.getD i (0,0)).1)&&(decide ((as.getD i (0,0)).1≤(as.getD i (0,0)).2)&&decide ((as.getD i (0,0)).2≤ss.getD i 0))))
noncomputable abbrev z2(X:Xp):=sx (si (aj (St X 1058 2)) 0) 0
noncomputable abbrev z2c(X:Xp):=ch (ch (z2 X) 1) 0
theorem Ci(hl:as.length≤900)(hs:ss.length≤4)(n:Nat): ∃ext:Sg,(lv (cc X) (n+60)).cf σ 1058 [vI ss,.int 1,vP as] []=some (.ok (.bool (sg ss as)) (σ++ext)):=by
 have l1:=ED (X:=X) (σ:=σ) (ss:=ss) (kd:=1) (l:=as.map pP) (f:=0) (e:=ch (z2 X) 0) (by rw[GM];assumption) ⋯ aA ⋯ ⋯ ⋯ ⋯ ⋯ ⋯ (n+36)
 rw[GM]at l1
 obtain⟨ext,h⟩:=rZ (c:=cc X) (e:=z2 X) (b:=(GT ss.length).all fun i=> !(!(decide (0≤(as.getD i (0,0)).1)&&(decide ((as.getD i (0,0)).1≤(as.getD i (0,0)).2)&&decide ((as.getD i (0,0)).2≤ss.getD i 0))))) rfl l1 (fun hq=>by
  have hq:as.length=ss.length:=by have:=GK hq;exact cN ‹_›
  have tl:=hX (S:=fun u_=>True) 0 (ss.length:Nat);rw[Gy]at tl
  refine pu (e:=ch (z2 X) 1) (S:=fun u_=>True) (x:= .v (.rng 0 (ss.length:Nat) 1)) (t:= .rng 0 (ss.length:Nat) 1) (as:=GT ss.length) (f:=fun(i:Nat)=>V.int (0+(i:Int))) (F:=fun(i:Nat)=>V.int (0+(i:Int))) (b:=fun(i:Nat)=>[("k",.int (0+(i:Int)))]) (P:=fun own=>own.lookup ("arg":Str)=some (vP as)∧own.lookup ("shape":Str)=some (vI ss)) ⋯ aA ⋯ ⋯
   (jU ⋯ ⋯ ⋯ ⋯) (iV hs) (fun u_=>trivial) tl (by rw[Hf];exact fH ‹_› (by exact ac)) ⟨by kernel_rfl,by kernel_rfl⟩ (fun i hi own acc hp=>⟨hp,by kernel_rfl,(congrArg (bL _ _ _) (show ec (z2c X)=[ch (z2c X) 3]from by kernel_rfl)).trans (jC ?_),fun u_=>by kernel_rfl⟩) (fun u_=>rfl)
  have hi':i<ss.length:=HH.mp hi
  refine Bp ⋯ (E2 ⋯ ⋯ ⋯
   (c_ (x:=pP (as.getD i (0,0))) (i:=0) (KC:=σ++[aa.lst acc]) ⋯ ⋯ (c_ (x:=vP as) (i:=0+(i:Int)) (KC:=σ++[aa.lst acc]) ⋯ ⋯ (bT (x:="arg") ⋯ (Gr ⋯ hp.1)) ⋯ (pL (0,0) (Fk ‹_› ‹_›) hl)) ⋯ rfl)
   (c_ (x:=pP (as.getD i (0,0))) (i:=1) (KC:=σ++[aa.lst acc]) ⋯ ⋯ (c_ (x:=vP as) (i:=0+(i:Int)) (KC:=σ++[aa.lst acc]) ⋯ ⋯ (bT (x:="arg") ⋯ (Gr ⋯ hp.1)) ⋯ (pL (0,0) (Fk ‹_› ‹_›) hl)) ⋯ rfl)
   (c_ (x:=vI ss) (i:=0+(i:Int)) (KC:=σ++[aa.lst acc]) ⋯ ⋯ (bT (x:="shape") ⋯ (Gr ⋯ hp.2)) ⋯ (pL 0 hi' (bg ‹_› (by exact ac))))))
 refine⟨ext,gX n (ab (Cm (bg ‹_› (by exact ac)) (n+38)) (ab (iI 0 (by exact HX _) rfl (n+38)) (bk (qa 1 (by decide) rfl (n+38) ?_)))) rfl⟩
 rw[show aj (St X 1058 (1+1))=[si (aj (St X 1058 2)) 0]from rfl]
 exact aq (dA rfl h)
noncomputable def kj(ss xs:List Int):Bool:=((xs.length:Int)==(ss.length:Int))&&(GT ss.length).all fun i=> !(!(xs.getD i 0==ss.getD i 0)&&(!(ss.getD i 0==1)||decide (xs.getD i 0<0)))
noncomputable abbrev z3(X:Xp):=sx (si (aj (St X 1058 3)) 1) 0
noncomputable abbrev EK(X:Xp):=ch (z3 X) 0
noncomputable abbrev E6(X:Xp):=si (aj (St X 1058 3)) 0
theorem BY(hl:xs.length≤900)(hs:ss.length≤4)(n:Nat): ∃ext:Sg,(lv (cc X) (n+60)).cf σ 1058 [vI ss,.int 2,vI xs] []=some (.ok (.bool (kj ss xs)) (σ++ext)):=by
 have t0:(lv (cc X) (n+57)).tr (ah X 1058 (fD ss 2 (vI xs))) σ (sx (E6 X) 0)=some (.ok (!((xs.length:Int)==(ss.length:Int))) σ):=by
  have e1:((xs.map V.int).length:Int)=xs.length:=by rw[GM]
  refine(e1)▸ ?_
  exact bx (op:= .NotEq) (KC:=σ) (x:= .int _) (y:= .int _) rfl aA (kC (l:=xs.map V.int) ⋯ ⋯ rfl ⋯ aA (aV (x:="arg") ⋯ ac rfl) (by rw[GM];exact bg ‹_› (by exact ac))) (aV (x:="many") rfl ac rfl) rfl
 have fin: ∀{ext:Sg} {b:Bool},(lv (cc X) (n+58)).exs (ah X 1058 (fD ss 2 (vI xs))) σ [E6 X,si (aj (St X 1058 3)) 1]=some (.ok (.ret (.bool b)) (ah X 1058 (fD ss 2 (vI xs))) (σ++ext))→(lv (cc X) (n+60)).cf σ 1058 [vI ss,.int 2,vI xs] []=some (.ok (.bool b) (σ++ext)):=fun h=>
  gX n (ab (Cm (bg ‹_› (by exact ac)) (n+38)) (ab (iI 0 (by exact HX _) rfl (n+38)) (ab (iI 1 (by exact H3 ..) rfl (n+38)) (bk (qa 2 (by exact H3 ..) rfl (n+38) ((congrArg ((lv (cc X) (n+58)).exs _ σ) (show aj (St X 1058 (2+1))=[E6 X,si (aj (St X 1058 3)) 1]from rfl)).trans h)))))) rfl
 cases hq:((xs.length:Int)==(ss.length:Int))with
 |false=>
  rw[hq]at t0;unfold kj;rw[hq,Bool.false_and]
  exact⟨[],fin (by rw[G2];exact bk (eM rfl t0 rfl))⟩
 |true=>
  rw[hq]at t0;unfold kj;rw[hq,Gl]
  have hq:xs.length=ss.length:=by have:=GK hq;exact cN ‹_›
  have tl:=hX (S:=fun u_=>True) 0 (ss.length:Nat);rw[Gy]at tl;have R:=pu (c:=cc X) (σ:=σ) (en:=ah X 1058 (fD ss 2 (vI xs))) (e:=z3 X) (S:=fun u_=>True) (x:= .v (.rng 0 (ss.length:Nat) 1)) (t:= .rng 0 (ss.length:Nat) 1) (as:=GT ss.length) (f:=fun(i:Nat)=>V.int (0+(i:Int))) (F:=fun(i:Nat)=>V.int (0+(i:Int))) (b:=fun(i:Nat)=>[("k",.int (0+(i:Int)))]) (P:=fun own=>own.lookup ("arg":Str)=some (vI xs)∧own.lookup ("shape":Str)=some (vI ss))
   (k:=fun i=> !(xs.getD i 0==ss.getD i 0)&&(!(ss.getD i 0==1)||decide (xs.getD i 0<0))) rfl aA ⋯ ⋯
   (jU ⋯ ⋯ ⋯ ⋯) (iV hs) (fun u_=>trivial) tl (by rw[Hf];exact fH ‹_› (by exact ac)) ⟨by kernel_rfl,by kernel_rfl⟩ (fun i hi own acc hp=>⟨hp,by kernel_rfl,(congrArg (bL _ _ _) (show ec (EK X)=[ch (EK X) 3]from rfl)).trans (jC (by
    have hi':i<ss.length:=HH.mp hi;have A: ∀{e:Expr} (m:Nat),e= .Subscript (ch e 0) (ch e 1) (ps e)→bB (ch e 1)=true→ch e 0= .Name ("arg":Str) (ps (ch e 0))→ch e 1= .Name ("k":Str) (ps (ch e 1))→(lv (cc X) (m+2)).ev ⟨am (dG (EK X)).names (ah X 1058 (fD ss 2 (vI xs))),("k",.int (0+(i:Int)))::own,[],none⟩ (σ++[aa.lst acc]) e=some (.ok (.int (xs.getD i 0)) (σ++[aa.lst acc])):=fun m h1 h2 h3 h4=>
     c_ (x:=vI xs) (i:=0+(i:Int)) (KC:=σ++[aa.lst acc]) h1 h2 (bT (x:="arg") h3 (Gr ⋯ hp.1)) (bT (x:="k") h4 rfl) (pL 0 (Fk ‹_› ‹_›) hl)
    have B: ∀{e:Expr} (m:Nat),e= .Subscript (ch e 0) (ch e 1) (ps e)→bB (ch e 1)=true→ch e 0= .Name ("shape":Str) (ps (ch e 0))→ch e 1= .Name ("k":Str) (ps (ch e 1))→(lv (cc X) (m+2)).ev ⟨am (dG (EK X)).names (ah X 1058 (fD ss 2 (vI xs))),("k",.int (0+(i:Int)))::own,[],none⟩ (σ++[aa.lst acc]) e=some (.ok (.int (ss.getD i 0)) (σ++[aa.lst acc])):=fun m h1 h2 h3 h4=>
     c_ (x:=vI ss) (i:=0+(i:Int)) (KC:=σ++[aa.lst acc]) h1 h2 (bT (x:="shape") h3 (Gr ⋯ hp.2)) (bT (x:="k") h4 rfl) (pL 0 hi' (bg ‹_› (by exact ac)))
    exact lx ⋯ (bx (op:= .NotEq) (x:= .int _) (y:= .int _) ⋯ ⋯ (A (n+51) ⋯ ⋯ ⋯ ⋯) (B (n+51) ⋯ ⋯ ⋯ ⋯) rfl)
     (fun u_=>D1 ⋯ (bx (op:= .NotEq) (x:= .int _) (y:= .int 1) ⋯ ⋯ (B (n+50) ⋯ ⋯ ⋯ ⋯) ⋯ rfl) (fun u_=>bx (op:= .Lt) (x:= .int _) (y:= .int 0) ⋯ ⋯ (A (n+50) ⋯ ⋯ ⋯ ⋯) ⋯ rfl)))),fun u_=>by kernel_rfl⟩) (fun u_=>rfl)
  obtain⟨ext,h⟩:=R;exact⟨ext,fin (ab (dy rfl t0 rfl) (aq (dA rfl h)))⟩
noncomputable abbrev z4(X:Xp):=sx (si (aj (St X 1058 4)) 0) 0
theorem Bf(hl:ax.length≤60)(hs:ss.length≤4)(n:Nat): ∃ext:Sg,(lv (cc X) (n+60)).cf σ 1058 [vI ss,.int 3,vI ax] []=some (.ok (.bool (fg ss.length ax)) (σ++ext)):=by
 have h:(lv (cc X) (n+57)).ev (ah X 1058 (fD ss 3 (vI ax))) σ (z4 X)=some (.ok (.bool (fg ss.length ax)) (σ++[aa.lst ((cn ax).map V.int)]++[aa.lst ((eA ss.length).map V.int)])):=by
  refine qy (n:=n+56) (op:= .Eq) (KC:=σ++[aa.lst ((cn ax).map V.int)]) (x:= .lst σ.length) (y:= .lst (σ++[aa.lst ((cn ax).map V.int)]).length) rfl aA (bK (n:=n+54) (x:="sorted") (fv:= .builtin "sorted") (v:= .v (vI ax)) (KC:=σ) ⋯ ⋯ rfl ⋯ (bA (n:=n+54) ⋯ (aV (n:=n+53) (x:="arg") ⋯ ac rfl)) (nE (fH ‹_› (by exact ac))))
   (bK (n:=n+54) (x:="list") (fv:= .type "list") (v:= .v (.rng 0 (ss.length:Int) 1)) ⋯ ⋯ rfl ⋯ (jU ⋯ ⋯ ⋯ ⋯) (jZ hs))
   (xi (bZ (by exact G6)) (by exact G6) (by rw[(dE ax).length_eq];exact fH ‹_› (by exact ac)))
 rw[GY]at h;generalize [aa.lst ((cn ax).map V.int)]++[aa.lst ((eA ss.length).map V.int)]=ext at h
 refine⟨ext,gX n (ab (Cm (bg ‹_› (by exact ac)) (n+38)) (ab (iI 0 (by exact HX _) rfl (n+38)) (ab (iI 1 (by decide) rfl (n+38)) (ab (iI 2 (by exact H3 ..) rfl (n+38)) (bk (qa 3 (by exact H0 _) rfl (n+38) ?_)))))) rfl⟩
 rw[show aj (St X 1058 (3+1))=[si (aj (St X 1058 4)) 0]from rfl]
 exact aq (dA rfl h)
noncomputable abbrev z5(X:Xp):=sx (si (aj (St X 1058 5)) 0) 0
noncomputable abbrev z5c(X:Xp):=ch (z5 X) 0
theorem Bi(hl:mu.length≤900)(hs:ss.length≤4)(n:Nat): ∃ext:Sg,(lv (cc X) (n+60)).cf σ 1058 [vI ss,.int 4,vI mu] []=some (.ok (.bool (nz mu)) (σ++ext)):=by
 obtain⟨ext,h⟩:=pu (c:=cc X) (n:=n+55) (σ:=σ) (en:=ah X 1058 (fD ss 4 (vI mu))) (e:=z5 X) (S:=fun u_=>True) (x:= .v (vI mu)) (t:= .seq (mu.map V.int) 0) (as:=mu) (f:=V.int) (F:=V.int) (b:=fun p=>[("m",.int p)]) (P:=fun u_=>True) (k:=fun m=>m==0) rfl aA ⋯ ⋯
  (bA (n:=n+54) ⋯ (aV (n:=n+53) (x:="arg") ⋯ ac rfl)) rfl (fun u_=>trivial) (ai _ _) (fH ‹_› (by exact ac)) trivial (fun p hp own acc u_=>⟨trivial,by kernel_rfl,(congrArg (bL _ _ _) (show ec (z5c X)=[ch (z5c X) 3]from rfl)).trans (jC (bx (n:=n+54) (op:= .Eq) (KC:=σ++[aa.lst acc]) (x:= .int p) (y:= .int 0) ⋯ ⋯ ⋯ ⋯ rfl)),fun u_=>by kernel_rfl⟩) (fun u_=>rfl)
 refine⟨ext,gX n (ab (Cm (bg ‹_› (by exact ac)) (n+38)) (ab (iI 0 (by exact HX _) rfl (n+38)) (ab (iI 1 (by decide) rfl (n+38)) (ab (iI 2 (by exact H3 ..) rfl (n+38)) (ab (iI 3 (by exact H0 _) rfl (n+38)) (bk (qa 4 (by exact HY _) rfl (n+38) ?_))))))) rfl⟩
 rw[show aj (St X 1058 (4+1))=[si (aj (St X 1058 5)) 0]from rfl]
 exact aq (dA rfl h)
noncomputable abbrev z6(X:Xp):=sx (St X 1058 6) 0
noncomputable abbrev z6c(X:Xp):=ch (ch (z6 X) 0) 0
theorem vJ{a:Bool}(he:e= .BoolOp .And [ch e 0,ch e 1] (ps e))(h1: ∃ext:Sg,(lv c n).ev en σ (ch e 0)=some (.ok (.bool a) (σ++ext)))(h2: ∀σ:Sg,(lv c n).ev en σ (ch e 1)=some (.ok (.bool b) σ)): ∃ext:Sg,(lv c (n+1)).ev en σ e=some (.ok (.bool (a&&b)) (σ++ext)):=by
 obtain⟨ext,h1⟩:=h1;have key:(lv c (n+1)).ev en σ e=i7 (lv c n).ev en .And σ [ch e 0,ch e 1]:=(congrArg ((lv c (n+1)).ev en σ) he);refine(key).symm▸ ?_
 cases a with
 |false=>exact⟨ext,kW h1 rfl⟩
 |true=>exact⟨ext,kW h1 (h2 _)⟩
noncomputable def lg(ss xs:List Int):Bool:=(xs.all fun s=> !(decide (s<0)))&&(aS 1 xs==aS 1 ss)
theorem BA(h1:bU xs)(h2:bU ss)(n:Nat): ∃ext:Sg,(lv (cc X) (n+60)).cf σ 1058 [vI ss,.int 5,vI xs] []=some (.ok (.bool (lg ss xs)) (σ++ext)):=by
 have l1:=h1.1;have l2:=h2.1;obtain⟨ext,h⟩:=vJ (c:=cc X) (n:=n+57) (σ:=σ) (en:=ah X 1058 (fD ss 5 (vI xs))) (e:=z6 X) (a:=xs.all fun s=> !(decide (s<0))) (b:=aS 1 xs==aS 1 ss) rfl
  (pu (c:=cc X) (n:=n+55) (σ:=σ) (en:=ah X 1058 (fD ss 5 (vI xs))) (e:=ch (z6 X) 0) (S:=fun u_=>True) (x:= .v (vI xs)) (t:= .seq (xs.map V.int) 0) (as:=xs) (f:=V.int) (F:=V.int) (b:=fun p=>[("s",.int p)]) (P:=fun u_=>True) (k:=fun s=>decide (s<0)) rfl aA ⋯ ⋯
   (bA (n:=n+54) aA (aV (n:=n+53) (x:="arg") ⋯ ac rfl)) rfl (fun u_=>trivial) (ai _ _) (fH ‹_› (by exact ac)) trivial (fun p hp own acc u_=>⟨trivial,by kernel_rfl,(congrArg (bL _ _ _) (show ec (z6c X)=[ch (z6c X) 3]from rfl)).trans (jC (bx (n:=n+54) (op:= .Lt) (KC:=σ++[aa.lst acc]) (x:= .int p) (y:= .int 0) ⋯ ⋯ ⋯ ⋯ rfl)),fun u_=>by kernel_rfl⟩) (fun u_=>rfl))
  (fun σ=>qy (n:=n+56) (op:= .Eq) (KC:=σ) (x:= .int (aS 1 xs)) (y:= .int (aS 1 ss)) rfl aA (bK (n:=n+54) (x:="_law_size") (fv:= .ref 1046) (v:= .v (vI xs)) (KC:=σ) ⋯ ⋯ rfl ⋯ (bA (n:=n+54) aA (aV (n:=n+53) (x:="arg") ⋯ ac rfl)) (eL (X:=X) (xs:=[vI xs]) ⋯ (sL h1 (n+35) (xw X))))
   (bK (n:=n+54) (x:="_law_size") (fv:= .ref 1046) (v:= .v (vI ss)) (KC:=σ) ⋯ ⋯ rfl ⋯ (bA (n:=n+54) aA (aV (n:=n+53) (x:="shape") ⋯ ac rfl)) (eL (xs:=[vI ss]) ⋯ (sL h2 (n+35) (xw X)))) rfl)
 exact⟨ext,gX n (ab (Cm (bg ‹_› (by exact ac)) (n+38)) (ab (iI 0 (by exact HX _) rfl (n+38)) (ab (iI 1 (by decide) rfl (n+38)) (ab (iI 2 (by exact H3 ..) rfl (n+38)) (ab (iI 3 (by exact H0 _) rfl (n+38)) (ab (iI 4 (by exact HY _) rfl (n+38)) (aq (dA rfl h)))))))) rfl⟩
theorem pD:r9 ss as=(lW as&&(as.length:Int)==(ss.length:Int)):=by
 unfold r9 lW;rw[Bool.and_comm];congr 1;congr 1;funext p;rw[Bool.not_or,←decide_not,←decide_not];congr 1<;>(rw[decide_eq_decide];exact Gx)
theorem nF(d:β)(g:Int→β→Bool): ∀{l:List β},l.length=ss.length→((GT ss.length).all fun i=>g (ss.getD i 0) (l.getD i d))=(ss.zip l).all fun p=>g p.1 p.2:=by
 induction ss with
 |nil=>exact fun u_=>by rw[List.zip_nil_left];rfl
 |cons s ss ih=>
  intro l h
  cases l with
  |nil=>exact Nat.noConfusion h
  |cons a l=>
   rw[G8,List.range_succ_eq_map,Hp,List.all_map,Hy,Hp,←ih (Nat.succ.inj h)];rfl
theorem pi:sg ss as=(lV ss as&&(as.length:Int)==(ss.length:Int)):=by
 unfold sg lV;rw[Bool.and_comm]
 cases h:((as.length:Int)==(ss.length:Int))with
 |false=>rw[Bool.and_false,Bool.and_false]
 |true=>
  have hq:as.length=ss.length:=by have:=GK h;exact cN ‹_›
  rw[Gn,Gn,←nF (0,0) (fun s p=>decide (0≤p.1)&&(decide (p.1≤p.2)&&decide (p.2≤s))) hq];simp only[Bool.not_not]
theorem pZ:lg ss xs=((xs.all fun s=>decide (0≤s))&&aS 1 xs==aS 1 ss):=by
 unfold lg;congr 2;funext s;rw[←decide_not,decide_eq_decide];exact Gx
end
section
variable {X:Xp}{own:List (Str×V)}{xs ax mu ts:List Int}{as:List (Int×Int)}{kd:Int}{arg:V}
theorem tY:kj ss xs=(((xs.length:Int)==(ss.length:Int))&&(ss.zip xs).all fun p=> !(!(p.2==p.1)&&(!(p.1==1)||decide (p.2<0)))):=by
 unfold kj
 cases h:((xs.length:Int)==(ss.length:Int))with
 |false=>rfl
 |true=>
  have hq:xs.length=ss.length:=by have:=GK h;exact cN ‹_›
  rw[Gl,Gl,←nF 0 (fun s x=> !(!(x==s)&&(!(s==1)||decide (x<0)))) hq]
theorem kf: ∀{xs ts:List Int},xs.length=ss.length→ts.length=ss.length→(∀s∈ss,1≤s)→(∀p∈ss.zip ts,p.1=1→p.2=0)→((ss.zip xs).all fun p=> !(!(p.2==p.1)&&(!(p.1==1)||decide (p.2<0))))=(kh ss xs ts&&xs.all fun x=>decide (0≤x)):=by
 induction ss with
 |nil=>
  intro xs ts h1 h2 _ _;obtain rfl:=G' h1;rfl
 |cons s ss ih=>
  intro xs ts h1 h2 h3 h4
  cases xs with
  |nil=>exact nomatch h1
  |cons x xs=>
  cases ts with
  |nil=>exact nomatch h2
  |cons t ts=>
  have ih:=ih (xs:=xs) (ts:=ts) (Nat.succ.inj h1) (Nat.succ.inj h2) (fun s q=>h3 s (.tail _ q)) (fun p q=>h4 p (by rw[Hy];exact .tail _ q))
  have hs:=h3 s (.head _)
  have ht:=h4 (s,t) (by rw[Hy];exact .head _)
  unfold kh at ih⊢;simp only[Hy,Hp,ih]
  have key:(!(!(x==s)&&(!(s==1)||decide (x<0))))=(((s==x)||((s==1)&&(t==0)))&&decide (0≤x)):=by
   rw[Bool.eq_iff_iff];simp only[Bool.not_and,Bool.not_not,Bool.or_eq_true,Gh,beq_iff_eq,Gp,Bool.not_or,decide_eq_false_iff_not,decide_eq_true_eq,Bool.not_eq_eq_eq_not,Bool.not_true];constructor
   ·rintro (rfl|⟨rfl,h⟩)
    ·exact⟨.inl rfl,by exact ilc ‹_› (by exact ac)⟩
    ·exact⟨.inr ⟨rfl,ht rfl⟩,by exact Gx.mp ‹_›⟩
   ·rintro ⟨rfl|⟨rfl,_⟩,h⟩
    ·exact .inl rfl
    ·exact .inr ⟨rfl,by omega⟩
  rw[key]
  cases((s==x)||((s==1)&&(t==0)))<;>cases decide (0≤x)<;>simp
noncomputable abbrev pW(ss:List Int)(kd:Int)(arg:V):List (Str×V):=[("arg",arg),("kind",.int kd),("shape",vI ss)]
noncomputable def EM(i:Nat):Int:=match i with|0=>0|1=>1|2=>3|_=>4
theorem xy(i:Nat)(hi:i<4)(n:Nat):(lv (cc X) (n+20)).tr (ah X 1063 (pW ss kd arg)) σ (sx (St X 1063 i) 0)=some (.ok (kd==EM i) σ):=by
 revert i;refine tK ?_ ?_ ?_ ?_
 all_goals exact bx (op:= .Eq) rfl aA (aV (x:="kind") rfl ac rfl) rfl rfl
theorem z7(X:Xp)(i:Nat)(hi:i<4):St X 1063 i= .If (sx (St X 1063 i) 0) (aj (St X 1063 i)) (cW (St X 1063 i)) (kB (St X 1063 i))∧cW (St X 1063 i)=[]∧aj (St X 1063 i)=[si (aj (St X 1063 i)) 0]∧si (aj (St X 1063 i)) 0= .Return (some (sx (si (aj (St X 1063 i)) 0) 0)) (kB (si (aj (St X 1063 i)) 0)):=by
 revert i;refine tK ?_ ?_ ?_ ?_
 all_goals exact⟨rfl,rfl,rfl,rfl⟩
theorem m4(i:Nat)(hi:i<4)(hne:(kd==EM i)=false)(n:Nat):aT (cc X) (lv (cc X) (n+20)) (ah X 1063 (pW ss kd arg)) σ (St X 1063 i)=some (.ok .next (ah X 1063 (pW ss kd arg)) σ):=by
 have t:=xy (X:=X) (σ:=σ) (ss:=ss) (kd:=kd) (arg:=arg) i hi n;rw[hne]at t;refine mN (z7 X i hi) fun h1 h2 u_=> ?_
 exact dy h1 t (by rw[h2];rfl)
theorem sP{so:V}(i:Nat)(hi:i<4)(hne:(kd==EM i)=true)(n:Nat)(h:(lv (cc X) (n+19)).ev (ah X 1063 (pW ss kd arg)) σ (sx (si (aj (St X 1063 i)) 0) 0)=some (.ok so KB)):aT (cc X) (lv (cc X) (n+20)) (ah X 1063 (pW ss kd arg)) σ (St X 1063 i)=some (.ok (.ret so) (ah X 1063 (pW ss kd arg)) KB):=by
 have t:=xy (X:=X) (σ:=σ) (ss:=ss) (kd:=kd) (arg:=arg) i hi n;rw[hne]at t;refine uC (z7 X i hi) fun h1 h2 h3 h4=> ?_;refine eM h1 t ?_;rw[h3];exact aq (dA h4 h)
theorem jf(n:Nat)(h:(lv (cc X) (n+59)).exs (ah X 1063 (pW ss kd arg)) σ [St X 1063 0,St X 1063 1,St X 1063 2,St X 1063 3,St X 1063 4]=some so)(ho:im so=some o):(lv (cc X) (n+60)).cf σ 1063 [vI ss,.int kd,arg] []=some o:=
 bp (a:=1063) (binds:=[("shape",vI ss),("kind",.int kd),("arg",arg)]) ⋯ ⋯ ac ((congrArg ((lv (cc X) (n+59)).exs (ah X 1063 (pW ss kd arg)) σ) (show aD X 1063=_ from rfl)).trans h) ho
theorem D8(hl:ss.length≤900)(n:Nat): ∃ext:Sg,(lv (cc X) (n+60)).cf σ 1063 [vI ss,.int 0,vP as] []=some (.ok (vI (fj ss as)) (σ++ext)):=
 ⟨_,jf n (bk (sP 0 (by decide) rfl (n+38) (um (as:=ss.zip as) (F:=fun p=>p.1+p.2.1+p.2.2) rfl rfl rfl ac aA (by rw[GQ];exact wA ‹_› (by exact ac))
  (bN (S:=fun u_=>True) (x:= .it (.zip [.seq (ss.map V.int) 0,.seq (as.map pP) 0])) (t:= .zip [.seq (ss.map V.int) 0,.seq (as.map pP) 0]) (as:=ss.zip as) (f:=fun p=> .tup [.int p.1,pP p.2]) (b:=fun p=>[("row",pP p.2),("s",.int p.1)]) (P:=fun u_=>True) ⋯ rfl ⋯
   (ez (x:=vI ss) (y:=vP as) ⋯ rfl rfl ⋯ ⋯ ⋯ (aV (x:="shape") ⋯ ac rfl) (aV (x:="arg") ⋯ ac rfl) rfl rfl) rfl (fun u_=>trivial)
   (bb (ai _ _) (ai _ _)) (by rw[GQ];exact r7 ‹_› (by exact ac)) trivial (fun p hp own acc u_=>⟨trivial,by kernel_rfl,by kernel_rfl⟩))))) rfl⟩
theorem CX(hl:as.length≤900)(n:Nat): ∃ext:Sg,(lv (cc X) (n+60)).cf σ 1063 [vI ss,.int 1,vP as] []=some (.ok (vI (eQ as)) (σ++ext)):=
 ⟨_,jf n (ab (m4 0 (by decide) rfl (n+38)) (bk (sP 1 (by decide) rfl (n+38) (um (as:=as) (F:=fun p=>p.2-p.1) rfl rfl rfl ac aA hl
  (bN (S:=fun u_=>True) (t:= .seq (as.map pP) 0) (as:=as) (f:=pP) (b:=fun p=>[("row",pP p)]) (P:=fun u_=>True) ⋯ rfl ⋯
   (bA ⋯ (aV (x:="arg") ⋯ ac rfl)) rfl (fun u_=>trivial)
   (ai _ _) (fH ‹_› (by exact ac)) trivial (fun p hp own acc u_=>⟨trivial,by kernel_rfl,by kernel_rfl⟩)))))) rfl⟩
theorem DJ(hl:ax.length≤900)(hs:ss.length≤4)(hp: ∀a∈ax,0≤a∧a.toNat<ss.length)(n:Nat): ∃ext:Sg,(lv (cc X) (n+60)).cf σ 1063 [vI ss,.int 3,vI ax] []=some (.ok (vI (ax.map fun a=>ss.getD a.toNat 0)) (σ++ext)):=
 ⟨_,jf n (ab (m4 0 (by decide) rfl (n+38)) (ab (m4 1 (by decide) rfl (n+38)) (bk (sP 2 (by decide) rfl (n+38) (um (as:=ax) (F:=fun a=>ss.getD a.toNat 0) rfl rfl rfl ac aA hl
  (bN (S:=fun u_=>True) (x:= .v (vI ax)) (t:= .seq (ax.map V.int) 0) (as:=ax) (f:=V.int) (b:=fun p=>[("a",.int p)]) (P:=fun own=>own.lookup ("shape":Str)=some (vI ss)) ⋯ rfl ⋯
   (bA ⋯ (aV (x:="arg") ⋯ ac rfl)) rfl (fun u_=>trivial)
   (ai _ _) (fH ‹_› (by exact ac)) ⋯ (fun p hp' own acc hq=>⟨hq,by kernel_rfl,c_ (x:=vI ss) (i:=p) ⋯ ⋯ (bT (x:="shape") ⋯ (Gr ⋯ hq)) ⋯ (kG (hp p hp').1 (hp p hp').2 (bg ‹_› (by exact ac)))⟩))))))) rfl⟩
theorem Es(hl:ss.length≤900)(hm:qR mu)(n:Nat): ∃ext:Sg,(lv (cc X) (n+60)).cf σ 1063 [vI ss,.int 4,vI mu] []=some (.ok (vI (fh ss mu)) (σ++ext)):=by
 have e:fh ss mu=(ss.zip mu).map fun p=>(p.1+cF p.2-1).fdiv (cF p.2):=by
  unfold fh;refine Hx fun p u_=> ?_;congr 1;simp+arith
 refine(e).symm▸ ?_
 exact⟨_,jf n (ab (m4 0 (by decide) rfl (n+38)) (ab (m4 1 (by decide) rfl (n+38)) (ab (m4 2 (by decide) rfl (n+38)) (bk (sP 3 (by decide) rfl (n+38) (um (as:=ss.zip mu) (F:=fun p=>(p.1+cF p.2-1).fdiv (cF p.2)) rfl rfl rfl ac aA (by rw[GQ];exact wA ‹_› (by exact ac))
  (bN (S:=fun u_=>True) (x:= .it (.zip [.seq (ss.map V.int) 0,.seq (mu.map V.int) 0])) (t:= .zip [.seq (ss.map V.int) 0,.seq (mu.map V.int) 0]) (as:=ss.zip mu) (f:=fun p=> .tup [.int p.1,.int p.2]) (b:=fun p=>[("m",.int p.2),("s",.int p.1)]) (P:=fun u_=>True) ⋯ rfl ⋯
   (ez (x:=vI ss) (y:=vI mu) ⋯ rfl rfl ⋯ ⋯ ⋯ (aV (x:="shape") ⋯ ac rfl) (aV (x:="arg") ⋯ ac rfl) rfl rfl) rfl (fun u_=>trivial)
   (bb (ai _ _) (ai _ _)) (by rw[GQ];exact r7 ‹_› (by exact ac)) trivial (fun p hp own acc u_=>⟨trivial,by kernel_rfl,cG (op:= .FloorDiv) (KC:=σ++[aa.lst acc]) ⋯ ⋯ ⋯ (oP (gf (hm _ (GS hp).2)).1 (gf (hm _ (GS hp).2)).2.1)⟩)))))))) rfl⟩
theorem uX(h:kd=2∨kd=5)(n:Nat):(lv (cc X) (n+60)).cf σ 1063 [vI ss,.int kd,arg] []=some (.ok arg σ):=by
 have f: ∀i,i<4→(kd==EM i)=false:=by
  intro i hi;rw[beq_eq_false_iff_ne]
  rcases h with rfl|rfl<;>(revert i;refine tK ?_ ?_ ?_ ?_<;>decide)
 exact jf n (ab (m4 0 (by decide) (f 0 (by decide)) (n+38)) (ab (m4 1 (by decide) (f 1 (by decide)) (n+38)) (ab (m4 2 (by decide) (f 2 (by decide)) (n+38)) (ab (m4 3 (by decide) (f 3 (by decide)) (n+38)) (aq (dA rfl (aV rfl ac rfl))))))) rfl
noncomputable def zS(s:Stmt):List ExceptHandler:=(pS s).2.2.2
noncomputable def hT:List ExceptHandler→Expr
 | .ExceptHandler (some t) _ _ _::_=>t
 |_=>default
theorem Bl(X:Xp)(fs:eD)(en:En)(σ:Sg)(b:List Stmt):rI (cc X) fs en σ b (zS (St X 1053 0))=sE (fs en σ b) fun cls en' KB=>if eV (cc X) en' (hT (zS (St X 1053 0))) cls=true then some (.ok (.ret .none) en' KB)else none:=rfl
noncomputable abbrev d9(j:Nat)(kd:Int)(arg:V):List (Str×V):=[("arg",arg),("kind",.int kd),("tracker",.inst av j)]
noncomputable abbrev tb(X:Xp)(i:Nat):=si (aj (St X 1053 0)) i
theorem vA(i:Nat)(hi:i<5)(n:Nat):(lv (cc X) (n+20)).tr (ah X 1053 (d9 j kd arg)) σ (sx (tb X i) 0)=some (.ok (kd==(i:Int)) σ):=by
 revert i;refine qO ?_ ?_ ?_ ?_ ?_
 all_goals exact bx (op:= .Eq) rfl aA (aV (x:="kind") rfl ac rfl) rfl rfl
theorem zR(X:Xp)(i:Nat)(hi:i<5):tb X i= .If (sx (tb X i) 0) (aj (tb X i)) (cW (tb X i)) (kB (tb X i))∧cW (tb X i)=[]∧aj (tb X i)=[si (aj (tb X i)) 0]:=by
 revert i;refine qO ?_ ?_ ?_ ?_ ?_
 all_goals exact⟨rfl,rfl,rfl⟩
theorem iJ(i:Nat)(hi:i<5)(hne:(kd==(i:Int))=false)(n:Nat):aT (cc X) (lv (cc X) (n+20)) (ah X 1053 (d9 j kd arg)) σ (tb X i)=some (.ok .next (ah X 1053 (d9 j kd arg)) σ):=by
 have t:=vA (X:=X) (σ:=σ) (j:=j) (kd:=kd) (arg:=arg) i hi n;rw[hne]at t;refine mN (zR X i hi) fun h1 h2 u_=> ?_
 exact dy h1 t (by rw[h2];rfl)
noncomputable def Cp(X:Xp)(i:Nat):Stmt:=if i=5 then tb X 5 else si (aj (tb X i)) 0
noncomputable abbrev n_(X:Xp)(i:Nat):=sx (Cp X i) 0
structure mr(X:Xp)(i:Nat)(mn:Str)(f:Addr):Prop where
 r:Cp X i= .Return (some (n_ X i)) (kB (Cp X i))
 e:n_ X i= .Call (.Attribute (ch (ch (n_ X i) 0) 0) mn (ps (ch (n_ X i) 0))) [ch (n_ X i) 1] [] (ps (n_ X i))
 p:(aU (ch (ch (n_ X i) 0) 0)&&(ps (ch (n_ X i) 0)).endLine==(ps (n_ X i)).line&&decide ([ch (n_ X i) 1].length+0<20)&&al [ch (n_ X i) 1])=true
 t:ch (ch (n_ X i) 0) 0= .Name ("tracker":Str) (ps (ch (ch (n_ X i) 0) 0))
 a:ch (n_ X i) 1= .Name ("arg":Str) (ps (ch (n_ X i) 1))
 m:y8 X av mn f=true
 m2: ∀vs:V,(eH (cO vs) mn).isNone=true
 f1:dU X f=true∧bJ (cc X).K (.ref f)=true
noncomputable def qZ(en:En):aG V→aL
 | .ok v KB=> .ok (.ret v) en KB
 | .exc cls KB=> .exc cls en KB
theorem An{f:Addr}(I:mr X i mn f){vs:V}(hj:σ[j]? =some (aa.dct (cO vs)))(n:Nat)(h:(lv (cc X) (n+10)).cf σ f [.inst av j,arg] []=some o):(lv (cc X) (n+12)).exs (ah X 1053 (d9 j kd arg)) σ [Cp X i]=some (qZ (ah X 1053 (d9 j kd arg)) o):=by
 have hx:(lv (cc X) (n+10)).ev (ah X 1053 (d9 j kd arg)) σ (ch (ch (n_ X i) 0) 0)=some (.ok (.inst av j) σ):=aV I.t ac rfl
 have ha:dW (lv (cc X) (n+10)).iv (ah X 1053 (d9 j kd arg)) σ [ch (n_ X i) 1]=some (.ok [.v arg] σ):=kO (by rw[I.a];rfl) (bA (by rw[I.a];rfl) (aV I.a ac rfl))
 cases o with
 |ok y KB=>exact aq (dA I.r (ku (show aY (n_ X i)=true by rw[I.e];rfl) (gr I.e I.p hx (jp hj (I.m2 _) I.m) I.f1.2 ha (eL (xs:=[.inst av j,arg]) I.f1.1 h))))
 |exc cls KB=>exact bO (i9 I.r (gS (show aY (n_ X i)=true by rw[I.e];rfl) (gr I.e I.p hx (jp hj (I.m2 _) I.m) I.f1.2 ha (gL (xs:=[.inst av j,arg]) I.f1.1 h))))
theorem qm(hi:i<5){f:Addr}(I:mr X i mn f){vs:V}(hj:σ[j]? =some (aa.dct (cO vs)))(n:Nat)(h:(lv (cc X) (n+28)).cf σ f [.inst av j,arg] []=some o):(lv (cc X) (n+31)).exs (ah X 1053 (d9 j (i:Nat) arg)) σ (aj (St X 1053 0))=some (qZ (ah X 1053 (d9 j (i:Nat) arg)) o):=by
 have m:=An (kd:=(i:Nat)) (arg:=arg) I hj (n+18) h
 rw[show aj (St X 1053 0)=[tb X 0,tb X 1,tb X 2,tb X 3,tb X 4,tb X 5]from rfl]
 have taken:i<5→aT (cc X) (lv (cc X) (n+30)) (ah X 1053 (d9 j (i:Nat) arg)) σ (tb X i)=some (qZ (ah X 1053 (d9 j (i:Nat) arg)) o):=by
  intro h5;have t:=vA (X:=X) (σ:=σ) (j:=j) (kd:=(i:Nat)) (arg:=arg) i h5 (n+10);rw[beq_self_eq_true]at t;refine mN (zR X i h5) fun h1 h2 h3=> ?_;refine eM h1 t ?_;refine(h3).symm▸ ?_
  have:Cp X i=si (aj (tb X i)) 0:=if_neg (by exact Io (by assumption))
  rw[this]at m;exact m
 have stop: ∀{l:List Stmt} {st:Stmt},aT (cc X) (lv (cc X) (n+30)) (ah X 1053 (d9 j (i:Nat) arg)) σ st=some (qZ (ah X 1053 (d9 j (i:Nat) arg)) o)→(lv (cc X) (n+31)).exs (ah X 1053 (d9 j (i:Nat) arg)) σ (st::l)=some (qZ (ah X 1053 (d9 j (i:Nat) arg)) o):=by
  intro l st hs
  cases o with
  |ok v KB=>exact bk hs
  |exc cls KB=>exact bO hs
 rcases lt5 hi with rfl|rfl|rfl|rfl|rfl
 ·exact stop (taken (by assumption))
 ·exact ab (iJ 0 (by exact HX _) rfl (n+10)) (stop (taken (by assumption)))
 ·exact ab (iJ 0 (by exact HX _) rfl (n+10)) (ab (iJ 1 (by decide) rfl (n+10)) (stop (taken (by assumption))))
 ·exact ab (iJ 0 (by exact HX _) rfl (n+10)) (ab (iJ 1 (by exact H3 ..) rfl (n+10)) (ab (iJ 2 (by exact H3 ..) rfl (n+10)) (stop (taken (by assumption)))))
 ·exact ab (iJ 0 (by exact HX _) rfl (n+10)) (ab (iJ 1 (by decide) rfl (n+10)) (ab (iJ 2 (by exact H3 ..) rfl (n+10)) (ab (iJ 3 (by exact H0 _) rfl (n+10)) (stop (taken (by assumption))))))
theorem nq{f:Addr}(I:mr X 5 mn f){vs:V}(hj:σ[j]? =some (aa.dct (cO vs)))(n:Nat)(h:(lv (cc X) (n+29)).cf σ f [.inst av j,arg] []=some o):(lv (cc X) (n+31)).exs (ah X 1053 (d9 j 5 arg)) σ (aj (St X 1053 0))=some (qZ (ah X 1053 (d9 j 5 arg)) o):=by
 rw[show aj (St X 1053 0)=[tb X 0,tb X 1,tb X 2,tb X 3,tb X 4,Cp X 5]from rfl]
 exact ab (iJ 0 (by exact HX _) rfl (n+10)) (ab (iJ 1 (by decide) rfl (n+10)) (ab (iJ 2 (by exact H3 ..) rfl (n+10)) (ab (iJ 3 (by exact H0 _) rfl (n+10)) (ab (iJ 4 (by exact HY _) rfl (n+10)) (An (kd:=5) I hj (n+19) h)))))
noncomputable def C7:aG V→aG V
 | .ok v KB=> .ok v KB
 | .exc _ KB=> .ok .none KB
theorem kK(n:Nat)(h:(lv (cc X) n).exs (ah X 1053 (d9 j kd arg)) σ (aj (St X 1053 0))=some (qZ (ah X 1053 (d9 j kd arg)) o))(ho: ∀cls KB,o= .exc cls KB→cls="AssertionError"∨cls="ValueError"):(lv (cc X) (n+2)).cf σ 1053 [.inst av j,.int kd,arg] []=some (C7 o):=by
 have e:aT (cc X) (lv (cc X) n) (ah X 1053 (d9 j kd arg)) σ (St X 1053 0)=rI (cc X) (lv (cc X) n).exs (ah X 1053 (d9 j kd arg)) σ (aj (St X 1053 0)) (zS (St X 1053 0)):=rfl;rw[Bl,h]at e
 have fin: ∀v KB,aT (cc X) (lv (cc X) n) (ah X 1053 (d9 j kd arg)) σ (St X 1053 0)=some (.ok (.ret v) (ah X 1053 (d9 j kd arg)) KB)→(lv (cc X) (n+2)).cf σ 1053 [.inst av j,.int kd,arg] []=some (.ok v KB):=by
  intro v KB key
  refine bp (a:=1053) (binds:=[("tracker",.inst av j),("kind",.int kd),("arg",arg)]) (so:= .ok (.ret v) (ah X 1053 (d9 j kd arg)) KB) ⋯ ⋯ ac ?_ rfl
  rw[show aD X 1053=[St X 1053 0]from rfl]
  exact aq key
 cases o with
 |ok v KB=>exact fin v KB e
 |exc cls KB=>
  have c:eV (cc X) (ah X 1053 (d9 j kd arg)) (hT (zS (St X 1053 0))) cls=true:=by
   rcases ho cls KB rfl with rfl|rfl<;>kernel_rfl
  exact fin .none KB (e.trans (if_pos c))
theorem mR(hi:i<5){f:Addr}(I:mr X i mn f){vs:V}(hj:σ[j]? =some (aa.dct (cO vs)))(n:Nat):
 (d8 ((lv (cc X) (n+28)).cf σ f [.inst av j,arg] []) σ ss→d8 ((lv (cc X) (n+33)).cf σ 1053 [.inst av j,.int (i:Nat),arg] []) σ ss)∧
 (dh ((lv (cc X) (n+28)).cf σ f [.inst av j,arg] []) σ→ ∃ext:Sg,(lv (cc X) (n+33)).cf σ 1053 [.inst av j,.int (i:Nat),arg] []=some (.ok .none (σ++ext))):=by
 refine⟨fun h=>h.elim fun j' KB vs' k' T O M B p hr q1 q2=> ?_,fun h=>h.el fun cls KB hc p hr=> ?_⟩
 ·exact⟨j',KB,vs',k',T,O,M,B,p,kK (n+31) (qm hi I hj n hr) (fun u_ u_ q=>by exact iQ q),q1,q2⟩
 ·obtain⟨ext,rfl⟩:=p
  exact⟨ext,kK (n+31) (qm hi I hj n hr) (fun u_ u_ q=>by refine Ct q fun zz1 zz2=> ?_;subst zz1;subst zz2;exact hc)⟩
theorem Ao{f:Addr}(I:mr X 5 mn f){vs:V}(hj:σ[j]? =some (aa.dct (cO vs)))(n:Nat):
 (d8 ((lv (cc X) (n+29)).cf σ f [.inst av j,arg] []) σ ss→d8 ((lv (cc X) (n+33)).cf σ 1053 [.inst av j,.int 5,arg] []) σ ss)∧
 (dh ((lv (cc X) (n+29)).cf σ f [.inst av j,arg] []) σ→ ∃ext:Sg,(lv (cc X) (n+33)).cf σ 1053 [.inst av j,.int 5,arg] []=some (.ok .none (σ++ext))):=by
 refine⟨fun h=>h.elim fun j' KB vs' k' T O M B p hr q1 q2=> ?_,fun h=>h.el fun cls KB hc p hr=> ?_⟩
 ·exact⟨j',KB,vs',k',T,O,M,B,p,kK (n+31) (nq I hj n hr) (fun u_ u_ q=>by exact iQ q),q1,q2⟩
 ·obtain⟨ext,rfl⟩:=p
  exact⟨ext,kK (n+31) (nq I hj n hr) (fun u_ u_ q=>by refine Ct q fun zz1 zz2=> ?_;subst zz1;subst zz2;exact hc)⟩
theorem V0(X:Xp):mr X 0 "pad" 978:=⟨rfl,by kernel_rfl,by kernel_rfl,by kernel_rfl,by kernel_rfl,by kernel_rfl,fun u_=>ac,⟨by kernel_rfl,ac⟩⟩
theorem V1(X:Xp):mr X 1 "shrink" 985:=⟨rfl,by kernel_rfl,by kernel_rfl,by kernel_rfl,by kernel_rfl,by kernel_rfl,fun u_=>ac,⟨by kernel_rfl,ac⟩⟩
theorem V2(X:Xp):mr X 2 "expand" 992:=⟨rfl,by kernel_rfl,by kernel_rfl,by kernel_rfl,by kernel_rfl,by kernel_rfl,fun u_=>ac,⟨by kernel_rfl,ac⟩⟩
theorem V3(X:Xp):mr X 3 "permute" 999:=⟨rfl,by kernel_rfl,by kernel_rfl,by kernel_rfl,by kernel_rfl,by kernel_rfl,fun u_=>ac,⟨by kernel_rfl,ac⟩⟩
theorem V4(X:Xp):mr X 4 "stride" 1006:=⟨rfl,by kernel_rfl,by kernel_rfl,by kernel_rfl,by kernel_rfl,by kernel_rfl,fun u_=>ac,⟨by kernel_rfl,ac⟩⟩
theorem V5(X:Xp):mr X 5 "reshape" 1013:=⟨rfl,by kernel_rfl,by kernel_rfl,by kernel_rfl,rfl,by kernel_rfl,fun u_=>ac,⟨by kernel_rfl,ac⟩⟩
noncomputable abbrev m0(X:Xp):=sx (St X 1013 0) 0
noncomputable abbrev ia(j:Nat)(arg:V):List (Str×V):=[("new_shape",arg),("self",.inst av j)]
theorem se(hj:σ[j]? =some (aa.dct (cO (.tup [.inst ag k])))){S T M:V}(hk:σ[k]? =some (aa.dct (bc S T O M B)))(n:Nat)(h:(lv (cc X) (n+10)).cf σ 834 [.inst ag k,arg] []=some o):
 (lv (cc X) (n+11)).ev (ah X 1013 (ia j arg)) σ (m0 X)=some o:=by
 have hx:(lv (cc X) (n+10)).ev (ah X 1013 (ia j arg)) σ (ch (ch (m0 X) 0) 0)=some (.ok (.inst ag k) σ):=c_ (i:= -1) ⋯ ⋯ (ma ⋯ ac rfl hj rfl) rfl rfl
 have ha:dW (lv (cc X) (n+10)).iv (ah X 1013 (ia j arg)) σ [ch (m0 X) 1]=some (.ok [.v arg] σ):=kO ac (bA aA (aV rfl ac rfl))
 cases o with
 |ok y KB=>exact ku ac (gr (name:="reshape") (args:=[ch (m0 X) 1]) (first:=[.inst ag k]) rfl ⋯ hx (jp (f:=834) hk ac ⋯) ac ha (eL (xs:=[.inst ag k,arg]) ⋯ h))
 |exc cls KB=>exact gS ac (gr (name:="reshape") (args:=[ch (m0 X) 1]) (first:=[.inst ag k]) rfl ⋯ hx (jp (f:=834) hk ac ac) ac ha (gL (xs:=[.inst ag k,arg]) ⋯ h))
noncomputable abbrev m1(X:Xp):=sx (si (aj (St X 1013 1)) 0) 0
theorem rtC(hj:σ[j]? =some (aa.dct (cO (.tup [.inst ag k])))){S T M:V}(hk:σ[k]? =some (aa.dct (bc S T O M B)))(n:Nat)(h:gI ((lv (cc X) (n+17)).cf σ 834 [.inst ag k,arg] []) σ ss):d8 ((lv (cc X) (n+20)).cf σ 1013 [.inst av j,arg] []) σ ss:=by
 refine jT h fun k' KB T' O' M' B' p hr hk'=> ?_;have hj':=je p hj;have s0:aT (cc X) (lv (cc X) (n+18)) (ah X 1013 (ia j arg)) σ (St X 1013 0)=some (.ok .next (ah X 1013 (("new_view",.inst ag k')::ia j arg)) KB):=
  cm (x:="new_view") (xp:=ps (sx (St X 1013 0) 1)) rfl ac ac (se (X:=X) hj hk (n+7) hr)
 have t1:(lv (cc X) (n+18)).tr (ah X 1013 (("new_view",.inst ag k')::ia j arg)) KB (sx (St X 1013 1) 0)=some (.ok true KB):=
  bx (op:= .IsNot) (KC:=KB) (x:= .inst ag k') (y:= .none) rfl aA rfl rfl rfl
 have hb:(lv (cc X) (n+15)).ev (ah X 1013 (("new_view",.inst ag k')::ia j arg)) KB (ch (m1 X) 1)=some (.ok (.tup [.inst ag k']) KB):=
  cG (op:= .Add) (KC:=KB) (KG:=KB) (x:= .tup []) (y:= .tup [.inst ag k']) ⋯ (CA (v:= .tup [.inst ag k]) (lo:=some (ch (ch (ch (ch (m1 X) 1) 0) 1) 0)) (hi:=some (ch (ch (ch (ch (m1 X) 1) 0) 1) 1)) (st:=none) (sp:=ps (ch (ch (ch (m1 X) 1) 0) 1)) (l:= .int 0) (u:= .int (-1)) (t:= .none) (l':=some 0) (u':=some (-1)) (t':=none) ⋯ (ma ⋯ ac rfl hj' rfl) ⋯ ⋯ rfl rfl rfl rfl rfl)
   (zU ⋯ ⋯ ⋯) rfl
 have ht:(lv (cc X) (n+17)).ev (ah X 1013 (("new_view",.inst ag k')::ia j arg)) KB (m1 X)=some (.ok (.inst av KB.length) (KB++[aa.dct (cO (.tup [.inst ag k']))])):=
  ku ac (cM (args:=[ch (m1 X) 1]) (fv:= .ref av) rfl rfl rfl ⋯ (kO ac (bA aA hb)) (rT (.tup [.inst ag k']) KB (n+4)))
 refine⟨_,_,[],k',T',O',M',B',p.trans (GO _ _),bp (a:=1013) (binds:=[("self",.inst av j),("new_shape",arg)]) (so:= .ok (.ret (.inst av KB.length)) (ah X 1013 (("new_view",.inst ag k')::ia j arg)) (KB++[aa.dct (cO (.tup [.inst ag k']))])) ⋯ ⋯ ac ?_ rfl,cK,bZ hk'⟩
 rw[show aD X 1013=[St X 1013 0,St X 1013 1,St X 1013 2]from rfl]
 refine ab s0 (bk (eM rfl t1 ?_))
 rw[show aj (St X 1013 1)=[si (aj (St X 1013 1)) 0]from rfl]
 exact aq (dA rfl ht)
theorem rtE(hj:σ[j]? =some (aa.dct (cO (.tup [.inst ag k])))){S T M:V}(hk:σ[k]? =some (aa.dct (bc S T O M B)))(n:Nat)(h:dh ((lv (cc X) (n+17)).cf σ 834 [.inst ag k,arg] []) σ):dh ((lv (cc X) (n+20)).cf σ 1013 [.inst av j,arg] []) σ:=by
 refine dC h fun cls KB hc p hr=> ?_
 have s0:aT (cc X) (lv (cc X) (n+18)) (ah X 1013 (ia j arg)) σ (St X 1013 0)=some (.exc cls (ah X 1013 (ia j arg)) KB):=by
  have e:aT (cc X) (lv (cc X) (n+18)) (ah X 1013 (ia j arg)) σ (St X 1013 0)=bQ (ah X 1013 (ia j arg)) ((lv (cc X) (n+18)).ev (ah X 1013 (ia j arg)) σ (m0 X)) fun y KB=>(eP (cc X) (lv (cc X) (n+18)).ev 8 (sx (St X 1013 0) 1) (ah X 1013 (ia j arg)) KB y).map fun p=> .ok .next p.1 p.2:=rfl;rw[e,se hj hk (n+7) hr];rfl
 refine⟨cls,KB,hc,p,bp (a:=1013) (binds:=[("self",.inst av j),("new_shape",arg)]) (so:= .exc cls (ah X 1013 (ia j arg)) KB) ⋯ ⋯ ac ?_ rfl⟩
 rw[show aD X 1013=[St X 1013 0,St X 1013 1,St X 1013 2]from rfl]
 exact bO s0
end
noncomputable def B7:Option (aG V)→Sg
 |some (.ok _ σ)=>σ
 |_=>[]
noncomputable def CZ(X:Xp)(ss:List Int):Option (aG V):=(lv (cc X) 100).cf [aa.lst [],aa.lst [],aa.lst [],aa.lst [],aa.lst []] 891 [vI ss] []
noncomputable abbrev aM:List (List Int):=[[4],[2,3],[6],[2,2,2],[3,1,2],[1,4],[8],[2,1,3],[2,4],[5]]
noncomputable def CG:List Int→List Int
 |[]=>[]
 |_::r=>aS 1 r::CG r
noncomputable def iH(ss:List Int):List Int:=dT ss (CG ss)
noncomputable abbrev Ay(ss:List Int):aa:=aa.dct (bc (vI ss) (vI (iH ss)) (.int 0) .none (.bool true))
noncomputable abbrev oQ(k:Nat):aa:=aa.dct (cO (.tup [.inst ag k]))
noncomputable def g0(X:Xp)(ss:List Int)(i:Nat):aa:=(B7 (CZ X ss)).getD i (aa.lst [])
theorem BQ(X:Xp)(ss:List Int)(h:ss∈aM)(n:Nat)(c0 c1 c2 c3 c4:aa):(lv (cc X) (n+100)).cf [c0,c1,c2,c3,c4] 891 [vI ss] []=some (.ok (.inst av 11) [c0,c1,c2,c3,c4,g0 X ss 5,g0 X ss 6,g0 X ss 7,g0 X ss 8,g0 X ss 9,Ay ss,oQ 10]):=by
 revert ss;refine ak ?_ (ak ?_ (ak ?_ (ak ?_ (ak ?_ (ak ?_ (ak ?_ (ak ?_ (ak ?_ (ak ?_ ck)))))))))
 all_goals kernel_rfl
noncomputable def ql(ss:List Int):List Int:=ss.map (· +1)
noncomputable def u8(ss:List Int):List (Int×Int):=ss.map fun s=>(1,s+1)
noncomputable abbrev Ed(ss:List Int):aa:=aa.dct (bc (vI (ql ss)) (vI (iH ss)) (.int (-(iH ss).sum)) (vP (u8 ss)) (.bool false))
noncomputable def FK(X:Xp)(ss:List Int):Option (aG V):=(lv (cc X) 100).cf (B7 (CZ X ss)) 978 [.inst av 11,vP (GR ss.length (1,0))] []
noncomputable def g1(X:Xp)(ss:List Int)(i:Nat):aa:=(B7 (FK X ss)).getD i (aa.lst [])
noncomputable abbrev St1(X:Xp)(n:Nat)(c0 c1 c2 c3 c4 c5 c6 c7 c8 c9:aa)(ss:List Int):Prop:=(lv (cc X) (n+100)).cf [c0,c1,c2,c3,c4,c5,c6,c7,c8,c9,Ay ss,oQ 10] 978 [.inst av 11,vP (GR ss.length (1,0))] []=some (.ok (.inst av 18) [c0,c1,c2,c3,c4,c5,c6,c7,c8,c9,Ay ss,oQ 10,g1 X ss 12,g1 X ss 13,g1 X ss 14,g1 X ss 15,g1 X ss 16,Ed ss,oQ 17])
theorem yN(X:Xp)(n:Nat)(c0 c1 c2 c3 c4 c5 c6 c7 c8 c9:aa): ∀ss∈aM.drop 5,St1 X n c0 c1 c2 c3 c4 c5 c6 c7 c8 c9 ss:=by
 refine ak ?_ (ak ?_ (ak ?_ (ak ?_ (ak ?_ ck))))
 all_goals kernel_rfl
theorem Bk(X:Xp)(ss:List Int)(h:ss∈aM)(n:Nat)(c0 c1 c2 c3 c4 c5 c6 c7 c8 c9:aa):St1 X n c0 c1 c2 c3 c4 c5 c6 c7 c8 c9 ss:=by
 revert ss;refine ak ?_ (ak ?_ (ak ?_ (ak ?_ (ak ?_ (yN X n c0 c1 c2 c3 c4 c5 c6 c7 c8 c9)))))
 all_goals kernel_rfl
noncomputable def wI:V→Option (Addr×Nat)
 | .inst C k=>some (C,k)
 |_=>none
noncomputable def okO:aG V→Option (V×Sg)
 | .ok v σ=>some (v,σ)
 |_=>none
noncomputable def BB:aa→Option (List (Str×V))
 | .dct fs=>some fs
 |_=>none
noncomputable def w9(fs:List (Str×V)):Option (List V):=fs.head?.bind fun p=>(eN p.2).bind fun vs=>if fs.tail.isEmpty=true∧p.1=("views":Str)then some vs else none
noncomputable def vH(fs:List (Str×V)):Option V:=fs.head?.bind fun p=>if fs.map (·.1)=[("shape":Str),("strides":Str),("offset":Str),("mask":Str),("contiguous":Str)]then some p.2 else none
noncomputable def EG(m:Nat)(r:Option (aG V)):Option (V×Sg):=(r.bind okO).bind fun o=>(wI o.1).bind fun q=>if q.1=av then(o.2[q.2]?.bind BB).bind fun fs=>(w9 fs).bind fun vs=>vs.getLast?.bind fun v=>(wI v).bind fun u=>if u.1=ag then(o.2[u.2]?.bind BB).bind fun fs=>(vH fs).map fun s=>(s,o.2.take m)else none else none
theorem xC{v:V}{q:Addr×Nat}(e:wI v=some q):v= .inst q.1 q.2:=by cases v<;>first|exact no e|(cases e;rfl)
theorem Ft{r:aG V}{q:V×Sg}(e:okO r=some q):r= .ok q.1 q.2:=by cases r<;>first|exact no e|(cases e;rfl)
theorem z8{r:aa}{q:List (Str×V)}(e:BB r=some q):r= .dct q:=by cases r<;>first|exact no e|(cases e;rfl)
theorem xP{vs:List V}(e:w9 fs=some vs):fs=cO (.tup vs):=by
 cases fs with
 |nil=>exact no e
 |cons p l=>
  refine ae e fun q hq e1=>ae e1 fun ws hw e2=>bI e2 fun h e3=> ?_
  cases hq
  cases IF e3
  obtain⟨n,x⟩:=p;obtain⟨h1,h2⟩:=h
  cases l with
  |cons=>cases h1
  |nil=>
   cases eJ hw
   cases h2
   rfl
theorem vb{l:List (Str×V)}{a:Str}{t:List Str}(h:l.map (·.1)=a::t): ∃x l',l=(a,x)::l'∧l'.map (·.1)=t:=by
 cases l with
 |nil=>cases h
 |cons p l=>exact⟨p.2,l,by rw[←(List.cons.inj h).1],(List.cons.inj h).2⟩
theorem zJ{s:V}(e:vH fs=some s): ∃T O M B,fs=bc s T O M B:=by
 refine ae e fun q hq e1=>bI e1 fun h e2=> ?_
 cases IF e2
 refine bf (vb h) fun x1 l1 h1 k1=> ?_;subst h1
 cases hq
 refine bf (vb k1) fun x2 l2 h2 k2=> ?_;refine bf (vb k2) fun x3 l3 h3 k3=> ?_;refine bf (vb k3) fun x4 l4 h4 k4=> ?_;refine bf (vb k4) fun x5 l5 h5 k5=> ?_;have hn:l5=[]:=List.map_eq_nil_iff.mp k5
 exact⟨x2,x3,x4,x5,by rw[h2,h3,h4,h5,hn]⟩
theorem qY{m:Nat}{r:Option (aG V)}{xs:List Int}(h:EG m r=some (vI xs,σ)):d8 r σ xs:=by
 refine ae h fun o ho w=>ae ho fun r' hr h1=>ae w fun q hq w=>bI w fun hC w=>ae w fun fs hf w=>ae hf fun cl hj h2=>ae w fun vs hv w=>ae w fun v hl w=>ae w fun u hu w=>bI w fun hD w=>ae w fun gs hg w=>ae hg fun cl2 hk h3=>aP w fun s hs w1=> ?_;obtain⟨v',KB⟩:=o;obtain⟨C,j⟩:=q;obtain⟨D,k⟩:=u;have e1:s=vI xs:=congrArg Prod.fst w1;have e2:KB.take m=σ:=congrArg Prod.snd w1;subst e1 e2;have hC:C=av:=hC;have hD:D=ag:=hD;subst hC hD
 cases Ft h1
 cases xC hq
 cases xC hu
 cases z8 h2
 cases z8 h3
 cases xP hv
 obtain⟨T,O,M,B,rfl⟩:=zJ hs;obtain⟨init,rfl⟩:=List.getLast?_eq_some_iff.mp hl;exact⟨j,KB,init,k,T,O,M,B,List.take_prefix _ _,hr,hj,hk⟩
noncomputable abbrev Ew(X:Xp)(ss:List Int)(c0 c1 c2 c3 c4 c5 c6 c7 c8 c9 d0 d1 d2 d3 d4 e0 e1 e2:aa):Sg:=[c0,c1,c2,c3,c4,c5,c6,c7,c8,c9,Ay ss,oQ 10,d0,d1,d2,d3,d4,Ed ss,oQ 17,e0,e1,e2]
noncomputable abbrev FL(X:Xp)(n:Nat)(c0 c1 c2 c3 c4 c5 c6 c7 c8 c9 d0 d1 d2 d3 d4 e0 e1 e2:aa)(ss xs:List Int):Prop:=EG 22 ((lv (cc X) (n+100)).cf (Ew X ss c0 c1 c2 c3 c4 c5 c6 c7 c8 c9 d0 d1 d2 d3 d4 e0 e1 e2) 1013 [.inst av 18,vI xs] [])=some (vI xs,Ew X ss c0 c1 c2 c3 c4 c5 c6 c7 c8 c9 d0 d1 d2 d3 d4 e0 e1 e2)
noncomputable abbrev F7(X:Xp)(n:Nat)(c0 c1 c2 c3 c4 c5 c6 c7 c8 c9 d0 d1 d2 d3 d4 e0 e1 e2:aa)(l:List (List Int)):Prop:= ∀ss∈l,∀xs∈kT (aS 1 (ql ss)),lg (ql ss) xs=true→FL X n c0 c1 c2 c3 c4 c5 c6 c7 c8 c9 d0 d1 d2 d3 d4 e0 e1 e2 ss xs
theorem DU(X:Xp)(n:Nat)(c0 c1 c2 c3 c4 c5 c6 c7 c8 c9 d0 d1 d2 d3 d4 e0 e1 e2:aa):F7 X n c0 c1 c2 c3 c4 c5 c6 c7 c8 c9 d0 d1 d2 d3 d4 e0 e1 e2 (aM.drop 7):=by
 refine ak ?_ (ak ?_ (ak ?_ ck))
 all_goals
  refine ak ?_ (ak ?_ (ak ?_ (ak ?_ (ak ?_ (ak ?_ (ak ?_ (ak ?_ ck)))))))
  all_goals first
   |exact fun hf=>absurd hf (by decide)
   |exact fun u_=>by kernel_rfl
theorem C3(X:Xp)(n:Nat)(c0 c1 c2 c3 c4 c5 c6 c7 c8 c9 d0 d1 d2 d3 d4 e0 e1 e2:aa):F7 X n c0 c1 c2 c3 c4 c5 c6 c7 c8 c9 d0 d1 d2 d3 d4 e0 e1 e2 (aM.drop 4):=by
 refine ak ?_ (ak ?_ (ak ?_ (DU X n c0 c1 c2 c3 c4 c5 c6 c7 c8 c9 d0 d1 d2 d3 d4 e0 e1 e2)))
 all_goals
  refine ak ?_ (ak ?_ (ak ?_ (ak ?_ (ak ?_ (ak ?_ (ak ?_ (ak ?_ ck)))))))
  all_goals first
   |exact fun hf=>absurd hf (by decide)
   |exact fun u_=>by kernel_rfl
theorem Fd(X:Xp)(n:Nat)(c0 c1 c2 c3 c4 c5 c6 c7 c8 c9 d0 d1 d2 d3 d4 e0 e1 e2:aa):F7 X n c0 c1 c2 c3 c4 c5 c6 c7 c8 c9 d0 d1 d2 d3 d4 e0 e1 e2 aM:=by
 refine ak ?_ (ak ?_ (ak ?_ (ak ?_ (C3 X n c0 c1 c2 c3 c4 c5 c6 c7 c8 c9 d0 d1 d2 d3 d4 e0 e1 e2))))
 all_goals
  refine ak ?_ (ak ?_ (ak ?_ (ak ?_ (ak ?_ (ak ?_ (ak ?_ (ak ?_ ck)))))))
  all_goals first
   |exact fun hf=>absurd hf (by decide)
   |exact fun u_=>by kernel_rfl
section
variable {X:Xp}{own:List (Str×V)}{xs ax mu ts:List Int}{as:List (Int×Int)}{kd:Int}{v:V}{M:V}{o:Int}
noncomputable def vM(X:Xp)(σ:Sg)(n j:Nat)(kd:Int)(ss:List Int)(v:V):Prop:= ∃F:Bool,(∀KB m,∃ext:Sg,(lv (cc X) (m+60)).cf KB 1058 [vI ss,.int kd,v] []=some (.ok (.bool F) (KB++ext)))∧
 (F=true→ ∃ss',ss'.length≤100∧d8 ((lv (cc X) (n+120)).cf σ 1053 [.inst av j,.int kd,v] []) σ ss'∧ ∀KB m,∃ext:Sg,(lv (cc X) (m+60)).cf KB 1063 [vI ss,.int kd,v] []=some (.ok (vI ss') (KB++ext)))∧
 (F=false→ ∃ext:Sg,(lv (cc X) (n+120)).cf σ 1053 [.inst av j,.int kd,v] []=some (.ok .none (σ++ext)))
theorem C4(hv:eR σ k ss ts o M B)(hj:σ[j]? =some (oQ k))(h1:1≤ss.length)(h3:ss.length≤3)(hs: ∀s∈ss,1≤s∧s≤99)(hz: ∀p∈ss.zip ts,p.1=1→p.2=0)(hA:zT kd ss v)(n:Nat):vM X σ n j kd ss v:=by
 have h0:ss≠[]:=fun q=>by rw[q]at h1;simp at h1
 rcases hA with⟨rfl,mu,rfl,hl,hm⟩|⟨rfl,as,rfl,hl,hb⟩|⟨rfl,as,rfl,hl,hb⟩|⟨rfl,xs,rfl,hl,hb⟩|⟨rfl,ax,rfl,hl⟩
 ·refine⟨nz mu,fun KB m=>Bi (dH ‹_› ‹_› (by exact ac)) (by exact H_ (by assumption)) m,fun hF=> ?_,fun hF=> ?_⟩
  ·have hM:qR mu:=fun m q=>⟨fun e=>by have:=GX.mp hF m q;simp[e]at this,by have:=hm m q;exact bg ‹_› (by exact ac)⟩
   exact⟨fh ss mu,by unfold fh;rw[GM,GQ];exact wA ‹_› (by exact ac),(mR (i:=4) (by exact HY _) (V4 X) hj (n+87)).1 (DZ (Ac X) hj hv.at_ (n+98) (zb hv (by exact H_ (by assumption)) h0 (fun s q=>by have:=hs s q;exact x7 ‹_› (by exact ac)) hl hM (n+28))),fun KB m=>Es (bg ‹_› (by exact ac)) hM m⟩
  ·exact(mR (ss:=[]) (i:=4) (by exact HY _) (V4 X) hj (n+87)).2 (DC (Ac X) hj hv.at_ (n+98) (yS (dH ‹_› ‹_› (by exact ac)) hF (n+28)))
 ·refine⟨r9 ss as,fun KB m=>A7 (bg ‹_› (by exact ac)) (bg ‹_› (by exact ac)) m,fun hF=> ?_,fun hF=> ?_⟩
  ·rw[pD]at hF
   exact⟨fj ss as,by unfold fj;rw[GM,GQ];exact wA ‹_› (by exact ac),(mR (i:=0) (by exact HX _) (V0 X) hj (n+87)).1 (DZ (Dz X) hj hv.at_ (n+98) (Fc hv (by exact H_ (by assumption)) h0 (fun s q=>by have:=hs s q;exact x7 ‹_› (by exact ac)) hb (bg ‹_› (by exact ac)) hF (n+28))),fun KB m=>D8 (bg ‹_› (by exact ac)) m⟩
  ·rw[pD]at hF
   exact(mR (ss:=[]) (i:=0) (by exact HX _) (V0 X) hj (n+87)).2 (DC (Dz X) hj hv.at_ (n+98) (E8 hv (bg ‹_› (by exact ac)) (bg ‹_› (by exact ac)) hF (n+28)))
 ·refine⟨sg ss as,fun KB m=>Ci (bg ‹_› (by exact ac)) (bg ‹_› (by exact ac)) m,fun hF=> ?_,fun hF=> ?_⟩
  ·rw[pi]at hF
   exact⟨eQ as,by rw[GM];exact bg ‹_› (by exact ac),(mR (i:=1) (by decide) (V1 X) hj (n+87)).1 (DZ (Dp X) hj hv.at_ (n+98) (zB hv (bg ‹_› (by exact ac)) h0 (fun s q=>by have:=hs s q;exact x7 ‹_› (by exact ac)) hb (bg ‹_› (by exact ac)) hF (n+28))),fun KB m=>CX (bg ‹_› (by exact ac)) m⟩
  ·rw[pi]at hF
   exact(mR (ss:=[]) (i:=1) (by exact H3 ..) (V1 X) hj (n+87)).2 (DC (Dp X) hj hv.at_ (n+98) (zt hv (bg ‹_› (by exact ac)) (bg ‹_› (by exact ac)) hF (n+28)))
 ·have E:=yk (X:=X) hv (bg ‹_› (by exact ac)) h0 (fun s q=>by have:=hs s q;exact x7 ‹_› (by exact ac)) (fun x q=>HV (hb x q) (by decide)) (xs:=xs) (bg ‹_› (by exact ac)) (n+28)
  have q:kj ss xs=true↔(xs.length=ss.length∧kh ss xs ts=true∧ ∀x∈xs,0≤x):=by
   rw[tY,Gh,beq_iff_eq];constructor
   ·rintro ⟨h1,h2⟩
    have hq:xs.length=ss.length:=by exact cN ‹_›
    rw[kf (ts:=ts) hq hv.lt (fun s q=>(hs s q).1) hz,Gh]at h2
    exact⟨hq,h2.1,fun x hx=>by simpa using GX.mp h2.2 x hx⟩
   ·rintro ⟨hq,h2,h3⟩
    refine⟨by exact cI ‹_›,?_⟩
    rw[kf (ts:=ts) hq hv.lt (fun s q=>(hs s q).1) hz,h2,Gl];exact GX.mpr fun x hx=>decide_eq_true (h3 x hx)
  refine⟨kj ss xs,fun KB m=>BY (bg ‹_› (by exact ac)) (bg ‹_› (by exact ac)) m,fun hF=> ?_,fun hF=> ?_⟩
  ·refine dw fun kk=> ?_;refine mN (q.mp hF) fun q1 q2 q3=> ?_<;>(refine kk ?_;clear kk)
   exact⟨xs,by exact bg ‹_› (by exact ac),(mR (i:=2) (by decide) (V2 X) hj (n+87)).1 (DZ (C9 X) hj hv.at_ (n+98) (E.1 q1 q2 q3)),fun KB m=>⟨[],by rw[G2];exact uX (.inl rfl) m⟩⟩
  ·refine(mR (ss:=[]) (i:=2) (by decide) (V2 X) hj (n+87)).2 (DC (C9 X) hj hv.at_ (n+98) (E.2 ?_))
   by_cases q1:xs.length=ss.length
   ·cases q2:kh ss xs ts with
    |false=>exact .inr (.inl rfl)
    |true=>
     refine .inr (.inr (Gq fun h=> ?_))
     have:kj ss xs=true:=q.mpr ⟨q1,q2,fun x hx=>Gq fun h'=>h ⟨x,hx,by exact Int.not_le.mp ‹_›⟩⟩
     rw[hF]at this;exact bM this
   ·exact .inl q1
 ·refine⟨fg ss.length ax,fun KB m=>Bf (bg ‹_› (by exact ac)) (bg ‹_› (by exact ac)) m,fun hF=> ?_,fun hF=> ?_⟩
  ·refine oA (fg.mem hF) fun q1 q2=> ?_
   exact⟨ax.map fun a=>ss.getD a.toNat 0,by rw[GM];exact bg ‹_› (by exact ac),(mR (i:=3) (by exact H0 _) (V3 X) hj (n+87)).1 (DZ (CN X) hj hv.at_ (n+98) (vD hv (bg ‹_› (by exact ac)) h0 (fun s q=>by have:=hs s q;exact x7 ‹_› (by exact ac)) (bg ‹_› (by exact ac)) hF (n+28))),fun KB m=>DJ (bg ‹_› (by exact ac)) (bg ‹_› (by exact ac)) q2 m⟩
  ·exact(mR (ss:=[]) (i:=3) (by exact H0 _) (V3 X) hj (n+87)).2 (DC (CN X) hj hv.at_ (n+98) (u9 hv (bg ‹_› (by exact ac)) (bg ‹_› (by exact ac)) hF (n+28)))
theorem BL(hv:eR σ k ss ts o M B)(hj:σ[j]? =some (oQ k))(h1:1≤ss.length)(h3:ss.length≤3)(hs: ∀s∈ss,1≤s∧s≤99)(hx:bU xs)(hx0:xs≠[])(hB:B= .bool true∨(lg ss xs=true→ ∀m,d8 ((lv (cc X) (m+100)).cf σ 1013 [.inst av j,vI xs] []) σ xs))(n:Nat):vM X σ n j 5 ss (vI xs):=by
 have hS:bU ss:=⟨by exact H_ (by assumption),fun s q=>by have:=hs s q;exact qA ‹_› (by exact ac)⟩
 refine⟨lg ss xs,fun KB m=>BA hx hS m,fun hF=>⟨xs,by have:=hx.1;exact bg ‹_› (by exact ac),?_,fun KB m=>⟨[],by rw[G2];exact uX (.inr rfl) m⟩⟩,fun hF=> ?_⟩
 ·refine(Ao (V5 X) hj (n+87)).1 ?_
  rcases hB with rfl|hB
  ·rw[pZ,Gh]at hF
   exact rtC hj hv.at_ (n+96) (wJ hv (by exact H_ (by assumption)) (fun s q=>by have:=hs s q;exact x7 ‹_› (by exact ac)) hx hx0 (n+33) hF.1 hF.2)
  ·exact hB hF (n+16)
 ·rw[pZ]at hF
  exact(Ao (ss:=[]) (V5 X) hj (n+87)).2 (rtE hj hv.at_ (n+96) (vQ hv (by exact H_ (by assumption)) (fun s q=>by have:=hs s q;exact x7 ‹_› (by exact ac)) hx (n+33) hF))
end
section
variable {X:Xp}{own:List (Str×V)}{xs ax mu ts:List Int}{as:List (Int×Int)}{kd:Int}{v:V}{S T M:V}{o:Int}
theorem wC{C:Nat}{p f:Addr}{r:List Value}(hk:σ[k]? =some (.dct fs))(h1:(plainGet c.K C name&&hasDictIn c.K C)=true)(h2:findIn c.K (.ref C) name=some (some (.ref p)))(h3:eH fs name=none)(h4:specialIn c.K (.ref p) "__get__"=some (some (.builtin "property.__get__"))∧takesIn c.K (.ref p)=some true)(h5:recIn c.K p "property"=some (.ref f::r)):jo c σ (.inst C k) name=some (.prop f):=by
 show(fL σ k).bind _=_;rw[l0 hk]
 show(if _ then _ else none)=_
 rw[if_pos h1,h2];show fR _ _ _ _=_;unfold fR;rw[h3]
 show(if _ then _ else none)=_
 rw[if_pos h4,h5];rfl
theorem w7:gk σ (.tup (l++[x])) (-1)=some x:=by
 show gE _ _=_;unfold gE
 refine dQ (by decide) ?_
 have:seqIndex? (-1) (l++[x]).length=some l.length:=by
  simp[seqIndex?]
  try simp+arith
 refine(this).symm▸ ?_;simp
theorem shp(hj:σ[j]? =some (aa.dct (cO (.tup (l++[.inst ag k])))))(hk:σ[k]? =some (aa.dct (bc S T O M B)))(hy:dg S=true)(n:Nat):(lv (cc X) (n+12)).cf σ 917 [.inst av j] []=some (.ok S σ):=by
 refine bp (a:=917) (binds:=[("self",.inst av j)]) (so:= .ok (.ret S) (ah X 917 [("self",.inst av j)]) σ) ⋯ ⋯ ac ?_ rfl
 rw[show aD X 917=[St X 917 0]from rfl]
 exact aq (dA rfl (jb (name:="shape") rfl ac (c_ (i:= -1) rfl ac (ma rfl ac rfl hj rfl) rfl w7) (oM rfl hk rfl hy)))
theorem rB(he:e= .Attribute (ch e 0) ("shape":Str) (ps e))(hp:aU (ch e 0)=true)(hx:(lv (cc X) (n+12)).ev en σ (ch e 0)=some (.ok (.inst av j) σ))(hj:σ[j]? =some (aa.dct (cO (.tup (l++[.inst ag k])))))(hk:σ[k]? =some (aa.dct (bc S T O M B)))(hy:dg S=true):(lv (cc X) (n+13)).ev en σ e=some (.ok S σ):=
 Ei he hp hx (wC (p:=918) (r:=((recIn (cc X).K 918 "property").getD []).tail) hj ⋯ rfl rfl ⟨rfl,rfl⟩ rfl) (shp hj hk hy n) hy
theorem rW{vs:V}(he:e= .Attribute (ch e 0) ("views":Str) (ps e))(hp:aU (ch e 0)=true)(hx:(lv (cc X) n).ev en σ (ch e 0)=some (.ok (.inst av j) σ))(hj:σ[j]? =some (aa.dct (cO vs)))(hy:dg vs=true):(lv (cc X) (n+1)).ev en σ e=some (.ok vs σ):=
 jb he hp hx (DB hj hy)
structure Ch(X:Xp)(e:Expr):Prop where
 c:iM e
 i:ec e=[]
 f: ∀own,hG (ah X 1073 own) e=true
 t: ∀own' own σ,dq 8 (ch e 1) ⟨am (dG e).names (ah X 1073 own),own',(ah X 1073 own).fre,none⟩ σ (.inst ag k)=some (⟨am (dG e).names (ah X 1073 own),(("view":Str),V.inst ag k)::own',(ah X 1073 own).fre,none⟩,σ)
 b:ch e 0= .Tuple [ch (ch e 0) 0,ch (ch e 0) 1,ch (ch e 0) 2,ch (ch e 0) 3] (tk (ch e 0)) (ps (ch e 0))
 s:al [ch (ch e 0) 0]=true∧al [ch (ch e 0) 1]=true∧al [ch (ch e 0) 2]=true∧al [ch (ch e 0) 3]=true
 a:ch (ch e 0) 0= .Attribute (ch (ch (ch e 0) 0) 0) ("shape":Str) (ps (ch (ch e 0) 0))∧ch (ch e 0) 1= .Attribute (ch (ch (ch e 0) 1) 0) ("strides":Str) (ps (ch (ch e 0) 1))∧ch (ch e 0) 2= .Attribute (ch (ch (ch e 0) 2) 0) ("offset":Str) (ps (ch (ch e 0) 2))∧ch (ch e 0) 3= .Attribute (ch (ch (ch e 0) 3) 0) ("mask":Str) (ps (ch (ch e 0) 3))
 n: ∀(i:Nat),i<4→ch (ch (ch e 0) i) 0= .Name ("view":Str) (ps (ch (ch (ch e 0) i) 0))
 l: ∀own' own,aR (cc X) ⟨am (dG e).names (ah X 1073 own),(("view":Str),V.inst ag k)::own',(ah X 1073 own).fre,none⟩ "view"=some (.inst ag k)
theorem rvs(I:Ch (k:=k) X e)(hx:(lv (cc X) (n+9)).ev (ah X 1073 own) σ (ch e 2)=some (.ok (.tup [.inst ag k]) σ))(hi:aY (ch e 2)=false)(hk:σ[k]? =some (aa.dct (bc S T O M B)))(h1:dg S=true)(h2:dg T=true)(h3:dg O=true)(h4:dg M=true):(lv (cc X) (n+11)).ev (ah X 1073 own) σ e=some (.ok (.lst σ.length) (σ++[aa.lst [.tup [S,T,O,M]]])):=by
 refine bN (S:=fun u_=>True) (t:= .seq ([()].map fun u_=>V.inst ag k) 0) (as:=[()]) (f:=fun u_=>V.inst ag k) (b:=fun u_=>[(("view":Str),V.inst ag k)]) (P:=fun u_=>True) (F:=fun u_=> .tup [S,T,O,M]) I.c I.i (I.f own) (bA hi hx) rfl (fun u_=>trivial) (ai _ _) (by decide) trivial (fun a u_ own' acc u_=>⟨trivial,I.t own' own _,?_⟩)
 have hk':(σ++[aa.lst acc])[k]? =some (aa.dct (bc S T O M B)):=bZ hk;have nm: ∀i,i<4→(lv (cc X) (n+8)).ev ⟨am (dG e).names (ah X 1073 own),(("view":Str),V.inst ag k)::own',(ah X 1073 own).fre,none⟩ (σ++[aa.lst acc]) (ch (ch (ch e 0) i) 0)=some (.ok (.inst ag k) (σ++[aa.lst acc])):=fun i hi=>bT (I.n i hi) (I.l own' own)
 have pb: ∀i,i<4→aU (ch (ch (ch e 0) i) 0)=true:=fun i hi=>by rw[I.n i hi];rfl
 exact(congrArg ((lv (cc X) (n+10)).ev _ _) I.b).trans (gD (bz I.s.1 (jb I.a.1 (pb 0 (by decide)) (nm 0 (by decide)) (oM rfl hk' rfl h1)) (bz I.s.2.1 (jb I.a.2.1 (pb 1 (by decide)) (nm 1 (by decide)) (oM rfl hk' rfl h2))
  (bz I.s.2.2.1 (jb I.a.2.2.1 (pb 2 (by decide)) (nm 2 (by decide)) (oM rfl hk' rfl h3)) (bz I.s.2.2.2 (jb I.a.2.2.2 (pb 3 (by decide)) (nm 3 (by decide)) (oM rfl hk' rfl h4)) hY)))) (show 4≤2^20 by decide))
noncomputable abbrev lp(X:Xp):=St X 1073 4
noncomputable abbrev tt(X:Xp)(i:Nat):=si (aj (lp X)) i
noncomputable abbrev vs3(X:Xp):=sx (tt X 3) 0
noncomputable abbrev vs7(X:Xp):=ch (ch (sx (tt X 7) 0) 1) 0
theorem IV3(X:Xp)(k:Nat):Ch (k:=k) X (vs3 X):=⟨by kernel_rfl,rfl,fun u_=>by kernel_rfl,fun u_ u_ u_=>by kernel_rfl,by kernel_rfl,⟨by kernel_rfl,by kernel_rfl,by kernel_rfl,by kernel_rfl⟩,⟨by kernel_rfl,by kernel_rfl,by kernel_rfl,by kernel_rfl⟩,tK ⋯ ⋯ ⋯ ⋯,fun u_ u_=>rfl⟩
theorem IV7(X:Xp)(k:Nat):Ch (k:=k) X (vs7 X):=⟨by kernel_rfl,rfl,fun u_=>by kernel_rfl,fun u_ u_ u_=>by kernel_rfl,by kernel_rfl,⟨by kernel_rfl,by kernel_rfl,by kernel_rfl,by kernel_rfl⟩,⟨by kernel_rfl,by kernel_rfl,by kernel_rfl,by kernel_rfl⟩,tK ⋯ ⋯ ⋯ ⋯,fun u_ u_=>by kernel_rfl⟩
end
section
section
theorem CT(he:e= .BoolOp .And [ch e 0,ch e 1] (ps e))(h1:(lv c n).tr en σ (ch e 0)=some (.ok true σ))(h2:(lv c n).tr en σ (ch e 1)=some (.ok b KC)):(lv c (n+1)).tr en σ e=some (.ok b KC):=by
 refine(he).symm▸ ?_
 exact iX (de h1 (de h2 (by cases b<;>rfl)))
theorem E9(he:e= .BoolOp .Or [ch e 0,ch e 1] (ps e))(h1:(lv c n).tr en σ (ch e 0)=some (.ok false σ))(h2:(lv c n).tr en σ (ch e 1)=some (.ok b KC)):(lv c (n+1)).tr en σ e=some (.ok b KC):=by
 rw[he]
 exact iX (de h1 (de h2 (by cases b<;>rfl)))
theorem fy{a:Bool}(h1:kU σ n x y=some a)(h2:dR σ n l m=some b):dR σ (n+1) (x::l) (y::m)=some (a&&b):=by
 show((kU σ n x y).bind fun a=>(dR σ n l m).map fun b=>a&&b)=_;rw[h1,h2];rfl
theorem CS(n:Nat): ∀(l:List (Int×Int)),l.length<n→dR σ (n+4) (l.map pP) (l.map pP)=some true:=by
 induction n with
 |zero=>exact fun u_ h=>absurd h (Ie _)
 |succ n ih=>
  intro l h
  cases l with
  |nil=>rfl
  |cons p l=>
   have ih:=ih l (Ih h)
   have h1:kU σ (n+4) (pP p) (pP p)=some true:=by
    show dR σ (n+3) [.int p.1,.int p.2] [.int p.1,.int p.2]=_
    have:=fK (σ:=σ) (n+3) [p.1,p.2] [p.1,p.2] (by exact H3 ..)
    rw[beq_self_eq_true]at this;exact this
   exact fy h1 ih
theorem zG{ts:List Int}{o:Int}{M:V}{a b:Nat}(h1:ss.length≤100)(h2:ts.length≤100)(hM:M= .none∨ ∃ms:List (Int×Int),M=vP ms∧ms.length≤100)(ha:σ[a]? =some (aa.lst [.tup [vI ss,vI ts,.int o,M]]))(hb:σ[b]? =some (aa.lst [.tup [vI ss,vI ts,.int o,M]])):eh σ .NotEq (.lst a) (.lst b)=some false:=by
 have e1:kU σ 196 (vI ss) (vI ss)=some true:=by
  have:=fK (σ:=σ) 195 ss ss (fH ‹_› (by exact ac))
  rw[beq_self_eq_true]at this;exact this
 have e2:kU σ 195 (vI ts) (vI ts)=some true:=by
  have:=fK (σ:=σ) 194 ts ts (fH ‹_› (by exact ac))
  rw[beq_self_eq_true]at this;exact this
 have e3:kU σ 194 (.int o) (.int o)=some true:=by
  show some (o==o)=_;rw[beq_self_eq_true]
 have e4:kU σ 193 M M=some true:=by
  rcases hM with rfl|⟨ms,rfl,hl⟩
  ·rfl
  ·exact CS 188 ms (fH ‹_› (by exact ac))
 have e5:kU σ 198 (.tup [vI ss,vI ts,.int o,M]) (.tup [vI ss,vI ts,.int o,M])=some true:=fy e1 (fy e2 (fy e3 (fy e4 (rfl:dR σ 193 [] []=some true))))
 have e6:kU σ 200 (.lst a) (.lst b)=some true:=by
  refine(?_:(aI σ a).bind (fun a=>(aI σ b).bind fun b=>if a.length=b.length then dR σ 199 a b else some false)=_)
  rw[aN ha,aN hb];exact fy e5 (rfl:dR σ 198 [] []=some true)
 refine(?_:(kU σ 200 (.lst a) (.lst b)).map (!·)=_);refine(e6).symm▸ ?_;rfl
end
variable {X:Xp}{own:List (Str×V)}
theorem sw{x1 x2 x3:Str}{f:Addr}{v1 v2 v3:V}(he:e= .Call (.Name fn (ps (ch e 0))) [ch e 1,ch e 2,ch e 3] [] (ps e))(hx:aR (cc X) (ah X 1073 own) fn=some (.val (.ref f)))(hf:dU X f=true∧bJ (cc X).K (.ref f)=true)(n1:ch e 1= .Name x1 (ps (ch e 1)))(n2:ch e 2= .Name x2 (ps (ch e 2)))(n3:ch e 3= .Name x3 (ps (ch e 3)))(k1:dP X 1073 x1=true)(k2:dP X 1073 x2=true)(k3:dP X 1073 x3=true)
 (l1:own.lookup x1=some v1) (l2:own.lookup x2=some v2) (l3:own.lookup x3=some v3) (h:(lv (cc X) (n+10)).cf σ f [v1,v2,v3] []=some (.ok y KB)):(lv (cc X) (n+11)).ev (ah X 1073 own) σ e=some (.ok y KB):=by
 have A: ∀{e:Expr} {x:Str} {v:V},e= .Name x (ps e)→dP X 1073 x=true→own.lookup x=some v→(lv (cc X) (n+10)).iv (ah X 1073 own) σ e=some (.ok (.v v) σ):=fun h1 h2 h3=>bA (by rw[h1];rfl) (aV h1 h2 h3)
 exact ku (by rw[he];rfl) (cM he (by rw[n1,n2,n3];rfl) hx (by rw[n1,n2,n3,hf.2];rfl) (iv3 (by rw[n1];rfl) (by rw[n2,n3];rfl) (A n1 k1 l1) (A n2 k2 l2) (A n3 k3 l3)) (eL (xs:=[v1,v2,v3]) hf.1 h))
variable {xs ts:List Int}{kd o:Int}{v M:V}
theorem DI{ks:Nat}(hv:eR σ k ss ts o M B)(hj:σ[j]? =some (oQ k))(hm:vM X σ n j kd ss v)(h3:ss.length≤3)(hks:σ[ks]? =some (aa.lst [.tup [vI ss,vI ts,.int o,M]]))(lt:own.lookup ("tracker":Str)=some (.inst av j))(lk:own.lookup ("kind":Str)=some (.int kd))(la:own.lookup ("arg":Str)=some v)(ls:own.lookup ("shape":Str)=some (vI ss))(lsh:own.lookup ("shapes":Str)=some (.lst ks)):
 ∃(told:V) (ext:Sg),(lv (cc X) (n+122)).exs (ah X 1073 own) σ [tt X 4,tt X 5,tt X 6,tt X 7]=some (.ok .next (ah X 1073 (("told",told)::own)) (σ++ext)):=by
 refine bW hm fun F hfit hgive hnone=> ?_;have e3:=hv.lt
 --the last statement,wherever the store has come to
 have last: ∀(told:V) (KB:Sg),σ<+:KB→ ∃ext:Sg,(lv (cc X) (n+122)).exs (ah X 1073 (("told",told)::own)) KB [tt X 7]=some (.ok .next (ah X 1073 (("told",told)::own)) (KB++ext)):=by
  intro told KB p;have hv':=hv.app p;have hj':=je p hj;have hks':=je p hks
  have hsh:=rB (X:=X) (l:=[]) (n:=n+106) (σ:=KB) (e:=ch (ch (sx (tt X 7) 0) 0) 0) (en:=ah X 1073 (("told",told)::own)) ⋯ ⋯ (aV (n:=n+117) (x:="tracker") ⋯ ac lt) hj' hv'.at_ rfl
  have t0:(lv (cc X) (n+120)).tr (ah X 1073 (("told",told)::own)) KB (ch (sx (tt X 7) 0) 0)=some (.ok false KB):=by
   refine bx (n:=n+119) (op:= .NotEq) (KC:=KB) (x:=vI ss) (y:=vI ss) ⋯ aA hsh (aV (n:=n+118) (x:="shape") ⋯ ac ls) ?_
   show(eh KB .Eq (vI ss) (vI ss)).map (!·)=_
   rw[vT (fH ‹_› (by exact ac)),beq_self_eq_true]
   rfl
  have hw:=rvs (X:=X) (n:=n+108) (own:=("told",told)::own) (σ:=KB) (IV7 X k) (rW (n:=n+116) ⋯ ⋯ (aV (n:=n+115) (x:="tracker") ⋯ ac lt) hj' rfl) ⋯ hv'.at_ rfl rfl rfl (by rcases hv.mq with rfl|⟨ms,rfl,_⟩<;>rfl)
  have t1:(lv (cc X) (n+120)).tr (ah X 1073 (("told",told)::own)) KB (ch (sx (tt X 7) 0) 1)=some (.ok false (KB++[aa.lst [.tup [vI ss,vI ts,.int o,M]]])):=
   bx (op:= .NotEq) (KC:=KB++[aa.lst [.tup [vI ss,vI ts,.int o,M]]]) (x:= .lst KB.length) (y:= .lst ks) ⋯ aA hw (aV (x:="shapes") ⋯ ac lsh) (zG (bg ‹_› (by exact ac)) (dH ‹_› ‹_› (by exact ac)) (hv.mq.imp id fun h'=>bW h' fun ms e l u_=>⟨ms,e,by exact dH ‹_› ‹_› (by exact ac)⟩) cK (bZ hks'))
  exact⟨[aa.lst [.tup [vI ss,vI ts,.int o,M]]],aq (dy rfl (E9 rfl t0 t1) rfl)⟩
 --what is told
 have told4: ∀(y:V) (KB:Sg),(lv (cc X) (n+120)).cf σ 1053 [.inst av j,.int kd,v] []=some (.ok y KB)→aT (cc X) (lv (cc X) (n+121)) (ah X 1073 own) σ (tt X 4)=some (.ok .next (ah X 1073 (("told",y)::own)) KB):=fun y KB h=>
  cm (x:="told") (xp:=ps (sx (tt X 4) 1)) rfl ac ac (sw (X:=X) (fn:="_law_try") (x1:="tracker") (x2:="kind") (x3:="arg") ⋯ rfl ⟨by kernel_rfl,ac⟩ rfl rfl rfl ac ac ac lt lk la h)
 --told is not None,and whether it fits
 have s5: ∀(y:V) (KB:Sg),(!aX y)=F→ ∃ext:Sg,aT (cc X) (lv (cc X) (n+121)) (ah X 1073 (("told",y)::own)) KB (tt X 5)=some (.ok .next (ah X 1073 (("told",y)::own)) (KB++ext)):=by
  intro y KB hy;refine oE (hfit KB (n+59)) fun ext hf=> ?_
  refine⟨ext,dy (KC:=KB++ext) rfl (bx (op:= .NotEq) (KC:=KB) (x:= .bool (!aX y)) (y:= .bool F) rfl aA (qy (op:= .IsNot) (KC:=KB) (x:=y) (y:= .none) ⋯ aA (aV (x:="told") ⋯ ac rfl) rfl rfl)
   (sw (X:=X) (fn:="_law_fits") (x1:="shape") (x2:="kind") (x3:="arg") ⋯ rfl ⟨by kernel_rfl,ac⟩ ⋯ ⋯ ⋯ ac ac ac ls lk la hf) ?_) rfl⟩
  show(some ((!aX y)==F)).map (!·)=_;rw[hy,beq_self_eq_true];rfl
 have t60: ∀(y:V) (KB:Sg),(lv (cc X) (n+120)).tr (ah X 1073 (("told",y)::own)) KB (ch (sx (tt X 6) 0) 0)=some (.ok (!aX y) KB):=fun y KB=>
  bx (op:= .IsNot) (KC:=KB) (x:=y) (y:= .none) ⋯ aA (aV (x:="told") ⋯ ac rfl) rfl rfl
 cases F with
 |false=>
  refine oE (hnone rfl) fun x1 h1=> ?_;refine oE (s5 .none (σ++x1) rfl) fun x2 h2=> ?_;refine oE (last .none (σ++x1++x2) ((GO _ _).trans (GO _ _))) fun x3 h4=> ?_;refine⟨.none,x1++x2++x3,?_⟩;rw[←GY,←GY];exact ab (told4 .none _ h1) (ab h2 (ab (dy rfl (Al (es:=[ch (sx (tt X 6) 0) 1]) rfl (t60 .none _)) rfl) h4))
 |true=>
  obtain⟨ss',hl',⟨j',KB,vs',k',T',O',M',B',p,hr,hj',hk'⟩,hnew⟩:=hgive rfl;refine oE (s5 (.inst av j') KB rfl) fun x2 h2=> ?_;refine oE (hnew (KB++x2) (n+58)) fun x3 h5=> ?_;refine oE (last (.inst av j') (KB++x2++x3) ((p.trans (GO _ _)).trans (GO _ _))) fun x4 h4=> ?_;refine oE p fun x1 zz1=> ?_;subst zz1
  have t61:(lv (cc X) (n+120)).tr (ah X 1073 (("told",.inst av j')::own)) (σ++x1++x2) (ch (sx (tt X 6) 0) 1)=some (.ok false (σ++x1++x2++x3)):=by
   refine bx (op:= .NotEq) (KC:=σ++x1++x2) (x:=vI ss') (y:=vI ss') ⋯ aA (rB (X:=X) (l:=vs') ⋯ ⋯ (aV (x:="told") ⋯ ac rfl) (bZ hj') (bZ hk') rfl)
    (sw (X:=X) (fn:="_law_new") (x1:="shape") (x2:="kind") (x3:="arg") ⋯ rfl ⟨by kernel_rfl,ac⟩ ⋯ ⋯ ⋯ ac ac ac ls lk la h5) ?_
   show(eh (σ++x1++x2++x3) .Eq (vI ss') (vI ss')).map (!·)=_
   rw[vT (fH ‹_› (by exact ac)),beq_self_eq_true]
   rfl
  refine⟨.inst av j',x1++x2++x3++x4,?_⟩;rw[←GY,←GY,←GY];exact ab (told4 _ _ hr) (ab h2 (ab (dy rfl (CT rfl (t60 _ _) t61) rfl) h4))
end
section
variable {X:Xp}{own:List (Str×V)}{Z:Sg}{kS kL:Nat}{ns:List Int}{a b o:Int}{ts:List Int}{M:V}
theorem B2(h:Kk kS kL Z)(hv:eR Z k ss ts o M B)(h1:k≠kS)(h2:k≠kL):eR (W kS kL (Z++ext) ns a b) k ss ts o M B:=⟨by rw[Cw h1 h2];exact bZ hv.at_,hv.lt,hv.ib,hv.mq⟩
theorem wK(hz:0≤z∧z≤900){xs:List Int}(h:xs∈kT z):bU xs∧xs≠[]:=by
 have A:z.natAbs≤1000:=qA hz (.refl true)
 have hd:(z.fdiv 2).natAbs≤1000:=HV (ln (a:=z) (b:=2) (by exact Gv _)) A
 have B:z.natAbs≤900:=qA hz (.refl true);have O: ∀{k:Int},k.natAbs.ble 1000=true→k.natAbs≤1000:=fun h=>H7 h;have S: ∀{a:Int} {l:List Int},(a::l).length.ble 4=true→(∀s∈a::l,s.natAbs≤1000)→bU (a::l)∧a::l≠[]:=fun h k=>⟨⟨H7 h,k⟩,HG _ _⟩;revert h xs;show∀xs∈kT z,_;refine ak ?_ (ak ?_ (ak ?_ (ak ?_ (ak ?_ (ak ?_ (ak ?_ (ak ?_ ck)))))))
 ·exact S rfl (ak A ck)
 ·exact S rfl (ak (O rfl) (ak A ck))
 ·exact S rfl (ak (O rfl) (ak hd ck))
 ·exact S rfl (ak (zo B (HW 1) (.refl true)) ck)
 ·exact S rfl (ak (O rfl) (ak (E7 B (.refl true)) ck))
 ·exact S rfl (ak A (ak (O rfl) (ak (O rfl) ck)))
 ·exact S rfl (ak (E7 B (.refl true)) ck)
 ·exact S rfl (ak A (ak (O rfl) ck))
structure Cq(X:Xp)(kS kL:Nat)(Z:Sg)(j k:Nat)(ss ts:List Int)(o:Int)(M B:V):Prop where
 kk:Kk kS kL Z
 v:eR Z k ss ts o M B
 jt:Z[j]? =some (oQ k)
 ne:k≠kS∧k≠kL∧j≠kS∧j≠kL
 l1:1≤ss.length
 l3:ss.length≤3
 sd: ∀s∈ss,1≤s∧s≤99
 z: ∀p∈ss.zip ts,p.1=1→p.2=0
 p:0≤aS 1 ss∧aS 1 ss≤900
 b:B= .bool true∨ ∀xs∈kT (aS 1 ss),lg ss xs=true→ ∀(c c' c'':aa) (ns:List Int) (a b:Int) (m:Nat),d8 ((lv (cc X) (m+100)).cf (W kS kL (Z++[c]++[c']++[c'']) ns a b) 1013 [.inst av j,vI xs] []) (W kS kL (Z++[c]++[c']++[c'']) ns a b) xs
theorem Fw(t:Cq X kS kL Z j k ss ts o M B)(ho:eF ns a b)(lst:own.lookup ("state":Str)=some (.lst kS))(ls:own.lookup ("shape":Str)=some (vI ss))(lt:own.lookup ("tracker":Str)=some (.inst av j))(n:Nat):
 ∃(v1 v2 v3 v4 v5:V) (ext:Sg) (ns':List Int) (a' b':Int),eF ns' a' b'∧(lv (cc X) (n+122)).exs (ah X 1073 own) (W kS kL Z ns a b) (aj (lp X))=some (.ok .next (ah X 1073 (("told",v5)::("shapes",v4)::("before",v3)::("arg",v2)::("kind",v1)::own)) (W kS kL (Z++ext) ns' a' b')):=by
 rw[show aj (lp X)=[tt X 0,tt X 1,tt X 2,tt X 3,tt X 4,tt X 5,tt X 6,tt X 7]from rfl]
 refine dw fun kk=> ?_
 refine cC (m_ (X:=X) (en:=ah X 1073 own) (e:=sx (tt X 0) 0) (m:=6) t.kk ho (by exact Gv _) (by exact Gv _) ⋯ rfl rfl ⋯ aA aA (n+97) (aV (x:="state") rfl ac lst) rfl) fun y eB a1 b1 y0 y6 ho1 h0=> ?_<;>(refine kk ?_;clear kk)
 have s0:aT (cc X) (lv (cc X) (n+121)) (ah X 1073 own) (W kS kL Z ns a b) (tt X 0)=some (.ok .next (ah X 1073 (("kind",.int y)::own)) (W kS kL Z eB a1 b1)):=cm (x:="kind") (xp:=ps (sx (tt X 0) 1)) rfl ac ac h0;have s1: ∀(v:V) (KB:Sg),(lv (cc X) (n+120)).cf (W kS kL Z eB a1 b1) 1068 [.lst kS,vI ss,.int y] []=some (.ok v KB)→aT (cc X) (lv (cc X) (n+121)) (ah X 1073 (("kind",.int y)::own)) (W kS kL Z eB a1 b1) (tt X 1)=some (.ok .next (ah X 1073 (("arg",v)::("kind",.int y)::own)) KB):=fun v KB h=>
  cm (x:="arg") (xp:=ps (sx (tt X 1) 1)) rfl ac ac (sw (X:=X) (fn:="_law_arg") (x1:="state") (x2:="shape") (x3:="kind") ⋯ rfl ⟨by kernel_rfl,ac⟩ rfl rfl rfl ac ac ac lst ls rfl h)
 --from the third statement on
 have rest: ∀(v:V) (ext:Sg) (ns2:List Int) (a2 b2:Int),eF ns2 a2 b2→vM X (W kS kL (Z++ext++[aa.lst [.tup [vI ss,vI ts,.int o,M]]]) ns2 a2 b2) n j y ss v→
  ∃(v3 v4 v5:V) (ext':Sg) (ns':List Int) (a' b':Int),eF ns' a' b'∧(lv (cc X) (n+122)).exs (ah X 1073 (("arg",v)::("kind",.int y)::own)) (W kS kL (Z++ext) ns2 a2 b2) [tt X 2,tt X 3,tt X 4,tt X 5,tt X 6,tt X 7]=some (.ok .next (ah X 1073 (("told",v5)::("shapes",v4)::("before",v3)::("arg",v)::("kind",.int y)::own)) (W kS kL (Z++ext') ns' a' b')):=by
  intro v ext ns2 a2 b2 ho2 hm;have f9:=B2 (ext:=ext) (ns:=ns2) (a:=a2) (b:=b2) t.kk t.v t.ne.1 t.ne.2.1
  have hj1:(W kS kL (Z++ext) ns2 a2 b2)[j]? =some (oQ k):=by rw[Cw t.ne.2.2.1 t.ne.2.2.2];exact bZ t.jt
  have s2:aT (cc X) (lv (cc X) (n+121)) (ah X 1073 (("arg",v)::("kind",.int y)::own)) (W kS kL (Z++ext) ns2 a2 b2) (tt X 2)=some (.ok .next (ah X 1073 (("before",.tup [.inst ag k])::("arg",v)::("kind",.int y)::own)) (W kS kL (Z++ext) ns2 a2 b2)):=
   cm (x:="before") (xp:=ps (sx (tt X 2) 1)) rfl ac ac (rW rfl ac (aV (x:="tracker") rfl ac lt) hj1 rfl)
  have s3:aT (cc X) (lv (cc X) (n+121)) (ah X 1073 (("before",.tup [.inst ag k])::("arg",v)::("kind",.int y)::own)) (W kS kL (Z++ext) ns2 a2 b2) (tt X 3)=some (.ok .next (ah X 1073 (("shapes",.lst (W kS kL (Z++ext) ns2 a2 b2).length)::("before",.tup [.inst ag k])::("arg",v)::("kind",.int y)::own)) (W kS kL (Z++ext) ns2 a2 b2++[aa.lst [.tup [vI ss,vI ts,.int o,M]]])):=
   Ai (x:="shapes") (xp:=ps (sx (tt X 3) 1)) ⋯ ⋯ ac (rvs (X:=X) (own:=("before",.tup [.inst ag k])::("arg",v)::("kind",.int y)::own) (IV3 X k) (aV (x:="before") rfl ac rfl) aA f9.at_ rfl rfl rfl (by rcases t.v.mq with rfl|⟨ms,rfl,_⟩<;>rfl))
  rw[←il t.kk.app]at s3;have oK:=B2 (ext:=ext++[aa.lst [.tup [vI ss,vI ts,.int o,M]]]) (ns:=ns2) (a:=a2) (b:=b2) t.kk t.v t.ne.1 t.ne.2.1
  have hj2:(W kS kL (Z++ext++[aa.lst [.tup [vI ss,vI ts,.int o,M]]]) ns2 a2 b2)[j]? =some (oQ k):=by rw[Cw t.ne.2.2.1 t.ne.2.2.2];exact bZ (bZ t.jt)
  rw[←GY]at oK
  refine qK (DI (X:=X) (own:=("shapes",.lst (W kS kL (Z++ext) ns2 a2 b2).length)::("before",.tup [.inst ag k])::("arg",v)::("kind",.int y)::own) (ks:=(W kS kL (Z++ext) ns2 a2 b2).length) oK hj2 hm t.l3 (by rw[il t.kk.app];exact cK) lt rfl rfl ls rfl) fun told ext' h4=> ?_
  refine⟨.tup [.inst ag k],.lst (W kS kL (Z++ext) ns2 a2 b2).length,told,ext++[aa.lst [.tup [vI ss,vI ts,.int o,M]]]++ext',ns2,a2,b2,ho2,?_⟩;rw[←il (t.kk.app.app)]at h4;rw[←GY,←GY];exact ab s2 (ab s3 h4)
 have fin: ∀(v:V) (ext:Sg) (ns2:List Int) (a2 b2:Int),eF ns2 a2 b2→(lv (cc X) (n+120)).cf (W kS kL Z eB a1 b1) 1068 [.lst kS,vI ss,.int y] []=some (.ok v (W kS kL (Z++ext) ns2 a2 b2))→vM X (W kS kL (Z++ext++[aa.lst [.tup [vI ss,vI ts,.int o,M]]]) ns2 a2 b2) n j y ss v→
  ∃(v1 v2 v3 v4 v5:V) (ext:Sg) (ns':List Int) (a' b':Int),eF ns' a' b'∧(lv (cc X) (n+122)).exs (ah X 1073 own) (W kS kL Z ns a b) [tt X 0,tt X 1,tt X 2,tt X 3,tt X 4,tt X 5,tt X 6,tt X 7]=some (.ok .next (ah X 1073 (("told",v5)::("shapes",v4)::("before",v3)::("arg",v2)::("kind",v1)::own)) (W kS kL (Z++ext) ns' a' b')):=by
  intro v ext ns2 a2 b2 ho2 hcf hm;refine dw fun kk=> ?_;obtain⟨v3,v4,v5,ext',ns',a',b',ho',h⟩:=rest v ext ns2 a2 b2 ho2 hm<;>(refine kk ?_;clear kk)
  exact⟨.int y,v,v3,v4,v5,ext',ns',a',b',ho',ab s0 (ab (s1 v _ hcf) h)⟩
 have mk: ∀(ext:Sg) (ns2:List Int) (a2 b2:Int),eR (W kS kL (Z++ext++[aa.lst [.tup [vI ss,vI ts,.int o,M]]]) ns2 a2 b2) k ss ts o M B∧(W kS kL (Z++ext++[aa.lst [.tup [vI ss,vI ts,.int o,M]]]) ns2 a2 b2)[j]? =some (oQ k):=fun ext ns2 a2 b2=>by
  refine⟨?_,by rw[Cw t.ne.2.2.1 t.ne.2.2.2];exact bZ (bZ t.jt)⟩
  rw[GY];exact B2 t.kk t.v t.ne.1 t.ne.2.1
 by_cases h5:y=5
 ·subst h5;refine dw fun kk=> ?_;refine jT (Ej (X:=X) t.kk ho1 t.l1 t.l3 t.sd (n+60)) fun zs c c' ns2 a2 b2 hz ho2 hcf=> ?_<;>(refine kk ?_;clear kk)
  refine dw fun kk=> ?_;refine oA (wK t.p hz) fun q1 q2=> ?_<;>(refine kk ?_;clear kk)
  rw[GY]at hcf;refine fin _ _ ns2 a2 b2 ho2 hcf (BL (mk _ _ _ _).1 (mk _ _ _ _).2 t.l1 t.l3 t.sd q1 q2 (t.b.imp id fun hb hf m=> ?_) n);have:=hb zs hz hf c c' (aa.lst [.tup [vI ss,vI ts,.int o,M]]) ns2 a2 b2 m;rw[GY Z [c] [c']]at this;exact this
 ·refine dw fun kk=> ?_
  refine o0 (FH (X:=X) (kd:=y) t.kk ho1 t.l1 t.l3 t.sd ⟨y0,by exact il4 ‹_› ‹_›⟩ (n+60)) fun v ext ns2 a2 b2 hA ho2 hcf=> ?_<;>(refine kk ?_;clear kk)
  exact fin v ext ns2 a2 b2 ho2 hcf (C4 (mk _ _ _ _).1 (mk _ _ _ _).2 t.l1 t.l3 t.sd t.z hA n)
theorem ca: ∀l:List Int,cy L (l.map V.int)=true
 |[]=>rfl
 |_::l=>ca l
theorem DK(h:Kk kS kL Z)(hl: ∀x∈Z,bu Z.length x=true):(W kS kL Z ns a b).all (bu Z.length)=true:=by
 refine GX.mpr fun x hx=> ?_;unfold W at hx
 rcases List.mem_or_eq_of_mem_set hx with hx|rfl
 ·rcases List.mem_or_eq_of_mem_set hx with hx|rfl
  ·exact hl x hx
  ·exact ca ns
 ·refine(?_:(decide (kL<Z.length)&&(true&&(true&&true)))=true);refine(decide_eq_true h.l).symm▸ ?_;rfl
noncomputable def kg(kS j:Nat)(ss:List Int)(own:List (Str×V)):Prop:=own.lookup ("state":Str)=some (.lst kS)∧own.lookup ("shape":Str)=some (vI ss)∧own.lookup ("tracker":Str)=some (.inst av j)
theorem uv(hk:Kk kS kL Z)(hj:j<Z.length)(hl: ∀x∈Z,bu Z.length x=true)(h:kg kS j ss own)(x y z:Int)(ht:t= .rng x y z): ∃own',kg kS j ss own'∧jw Z.length t (ah X 1073 own) (W kS kL (Z++ext) ns a b)=(ah X 1073 own',W kS kL Z ns a b):=by
 subst ht;unfold jw
 by_cases q:(W kS kL (Z++ext) ns a b).length≤Z.length
 ·refine(if_pos q).symm▸ ?_;rw[l6,G4]at q;have:ext=[]:=G' (ne0 ‹_›);subst this
  exact⟨own,h,by rw[G2]⟩
 ·refine(if_neg q).symm▸ ?_;simp only
  have e1:(W kS kL (Z++ext) ns a b).take Z.length=W kS kL Z ns a b:=by
   rw[il hk,←l6 (ns:=ns) (a:=a) (b:=b),List.take_left'];rfl
  rw[e1,DK hk hl]
  rw[if_pos (by rfl)]
  refine⟨own.filter (fun p=>(own.lookup p.1).any (ic Z.length)),?_,rfl⟩;refine dw fun kk=> ?_;refine mN h fun h1 h2 h3=> ?_<;>(refine kk ?_;clear kk)
  have key: ∀{x:Str} {v:V},own.lookup x=some v→ic Z.length v=true→(own.filter (fun p=>(own.lookup p.1).any (ic Z.length))).lookup x=some v:=by
   intro x v hx hv
   rw[aZ (q:=fun z=>(own.lookup z).any (ic Z.length)),hx,if_pos (by simpa using hv)]
  exact⟨key h1 (decide_eq_true hk.s),key h2 (ca ss),key h3 (decide_eq_true hj)⟩
theorem pX(t:Cq X kS kL Z j k ss ts o M B)(hl: ∀x∈Z,bu Z.length x=true)(n:Nat): ∀(m:Nat) (fuel:Nat) (i:Int) (own:List (Str×V)) (ns:List Int) (a b:Int),m<fuel→kg kS j ss own→eF ns a b→
 ∃(own':List (Str×V)) (ns':List Int) (a' b':Int),kg kS j ss own'∧eF ns' a' b'∧gw Z.length (eP (cc X) (lv (cc X) (n+122)).ev 8) (lv (cc X) (n+122)).exs (sx (lp X) 0) (aj (lp X)) [] fuel (ah X 1073 own) (W kS kL Z ns a b) (.rng i (m:Int) 1)=some (.ok .next (ah X 1073 own') (W kS kL Z ns' a' b')):=by
 intro m;have hj:j<Z.length:=(GZ.mp t.jt).1
 induction m with
 |zero=>
  intro fuel i own ns a b hf hk ho
  obtain⟨f,rfl⟩: ∃f,fuel=f+1:=⟨fuel-1,by exact fu ‹_›⟩
  refine⟨own,ns,a,b,hk,ho,?_⟩;have e:ay (W kS kL Z ns a b) (.rng i ((0:Nat):Int) 1)=some none:=rfl;have e2:(lv (cc X) (n+122)).exs (ah X 1073 own) (W kS kL Z ns a b) []=some (.ok .next (ah X 1073 own) (W kS kL Z ns a b)):=rfl;exact oW e e2
 |succ m ih=>
  intro fuel i own ns a b hf hk ho
  obtain⟨f,rfl⟩: ∃f,fuel=f+1:=⟨fuel-1,by exact fu ‹_›⟩
  have e:ay (W kS kL Z ns a b) (.rng i ((m+1:Nat):Int) 1)=some (some (.int i,.rng (i+1) (m:Int) 1)):=by
   have h0:(0:Int)<((m+1:Nat):Int):=by simp+arith
   have h1:((m+1:Nat):Int)-1=(m:Int):=by simp+arith
   rw[rH,if_pos h0,h1]
  have e2:eP (cc X) (lv (cc X) (n+122)).ev 8 (sx (lp X) 0) (ah X 1073 own) (W kS kL Z ns a b) (.int i)=some (ah X 1073 (("turn",.int i)::own),W kS kL Z ns a b):=rfl;refine dw fun kk=> ?_;obtain⟨v1,v2,v3,v4,v5,ext,eB,a1,b1,ho1,h1⟩:=Fw (own:=("turn",.int i)::own) t ho hk.1 hk.2.1 hk.2.2 n<;>(refine kk ?_;clear kk)
  have hk1:kg kS j ss (("told",v5)::("shapes",v4)::("before",v3)::("arg",v2)::("kind",v1)::("turn",.int i)::own):=hk;refine dw fun kk=> ?_;refine aK (uv (X:=X) (ns:=eB) (a:=a1) (b:=b1) (ext:=ext) (t:= .rng (i+1) (m:Int) 1) t.kk hj hl hk1 _ _ _ rfl) fun own2 hk2 hc=> ?_<;>(refine kk ?_;clear kk)
  refine dw fun kk=> ?_;refine bP (ih f (i+1) own2 eB a1 b1 (Ih ‹_›) hk2 ho1) fun own3 ns3 a3 b3 hk3 ho3 h3=> ?_<;>(refine kk ?_;clear kk)
  refine⟨own3,ns3,a3,b3,hk3,ho3,?_⟩;rw[nv e e2 h1];refine(congr (congr (congrArg _ (congrArg Prod.fst hc)) (congrArg Prod.snd hc)) rfl).trans h3
theorem lpS(t:Cq X kS kL Z j k ss ts o M B)(hl: ∀x∈Z,bu Z.length x=true)(hk:kg kS j ss own)(ho:eF ns a b)(n:Nat): ∃(own':List (Str×V)) (ns':List Int) (a' b':Int),kg kS j ss own'∧eF ns' a' b'∧aT (cc X) (lv (cc X) (n+122)) (ah X 1073 own) (W kS kL Z ns a b) (lp X)=some (.ok .next (ah X 1073 own') (W kS kL Z ns' a' b')):=by
 refine dw fun kk=> ?_
 refine bP (pX t hl n 6 az 0 own ns a b (by decide) hk ho) fun own' ns' a' b' h1 h2 h3=> ?_<;>(refine kk ?_;clear kk)
 refine⟨own',ns',a',b',h1,h2,AU (t:= .rng 0 6 1) rfl ac (zL ac (bK (fv:= .type "range") (v:= .v (.int 6)) rfl rfl rfl ac (bA aA rfl) rfl)) rfl ?_⟩
 rw[l6,show cW (lp X)=[]from rfl]
 exact h3
theorem Ex: ∀n,n<64→(rD n none (some 16) none).length≤16:=by decide+kernel
theorem zQ(l:List Int)(h:l.length<64): ∃l':List Int,lU (l.map V.int) none (some 16) none=l'.map V.int∧l'.length≤16:=by
 have hi:=Ex l.length h;unfold lU;rw[GM];generalize rD l.length none (some 16) none=is at hi;refine⟨is.filterMap (l[·]?),?_,HV (List.length_filterMap_le _ _) hi⟩;rw[List.map_filterMap];congr 1;funext i;rw[Ha]
theorem zk{cf:b9}(h:oY σ k=some l)(hl:l.length≤2^20):aJ c cf σ (.builtin "len") [.v (.lst k)] []=some (.ok (.v (.int l.length)) σ):=by
 show((oY σ k).bind fun l=>if l.length≤2^20 then some (l.length:Int)else none).map (fun i=>aG.ok (IV.v (V.int i)) σ)=_
 rw[h]
 show(if _ then _ else none:Option Int).map _=_
 rw[if_pos hl];rfl
noncomputable abbrev xK(X:Xp):=sx (St X 1032 0) 0
theorem B5(l:List Int)(vs:List Value)(m:Nat)(h:l.length<64)(n:Nat): ∃(c1:aa) (ns:List Int) (l1:List Int),c1=aa.lst (l1.map V.int)∧ns.length≤16∧(lv (cc X) (n+30)).cf [aa.ro (l.map V.int) vs m] 1032 [.lst 0] []=some (.ok (.lst 3) [aa.ro (l.map V.int) vs m,c1,aa.lst (ns.map V.int),aa.lst [.lst 2,.int 0,.int (7+(l.length:Nat))]]):=by
 refine aK (zQ l h) fun l' e1 e2=> ?_
 refine⟨aa.lst (l'.map V.int),l'.map fun k=>(cF k).fmod 1000000007,l',rfl,by rw[GM];exact e2,?_⟩
 refine bp (a:=1032) (binds:=[("script",.lst 0)]) (so:= .ok (.ret (.lst 3)) (ah X 1032 [("script",.lst 0)]) [aa.ro (l.map V.int) vs m,aa.lst (l'.map V.int),aa.lst ((l'.map fun k=>(cF k).fmod 1000000007).map V.int),aa.lst [.lst 2,.int 0,.int (7+(l.length:Nat))]]) ⋯ ⋯ ac ?_ rfl
 rw[show aD X 1032=[St X 1032 0]from rfl]
 refine aq (dA rfl ?_)
 have hc:(lv (cc X) (n+27)).ev (ah X 1032 [("script",.lst 0)]) [aa.ro (l.map V.int) vs m] (ch (xK X) 0)=some (.ok (.lst 2) [aa.ro (l.map V.int) vs m,aa.lst (l'.map V.int),aa.lst ((l'.map fun k=>(cF k).fmod 1000000007).map V.int)]):=by
  have sl:cA [aa.ro (l.map V.int) vs m] (.lst 0) none (some 16) none=some (.lst 1,[aa.ro (l.map V.int) vs m,aa.lst (l'.map V.int)]):=by
   unfold cA
   rw[if_neg (by decide)]
   refine(?_:(if(l.map V.int).length≤2^20 then _ else none)=_)
   rw[if_pos (by rw[GM];exact ET ‹_› (by exact ac)),e1]
   rfl
  have hx:(lv (cc X) (n+26)).iv (ah X 1032 [("script",.lst 0)]) [aa.ro (l.map V.int) vs m] (ch (ch (xK X) 0) 2)=some (.ok (.v (.lst 1)) [aa.ro (l.map V.int) vs m,aa.lst (l'.map V.int)]):=
   bA aA (CA (v:= .lst 0) (lo:=none) (hi:=some (ch (ch (ch (ch (xK X) 0) 2) 1) 1)) (st:=none) (sp:=ps (ch (ch (ch (xK X) 0) 2) 1)) (l:= .none) (u:= .int 16) (t:= .none) (l':=none) (u':=some 16) (t':=none) ⋯ rfl rfl ⋯ rfl rfl rfl rfl sl)
  refine jS ⋯ (nY (KC:=[aa.ro (l.map V.int) vs m,aa.lst (l'.map V.int)]) (t:= .lst 1 0) ⋯ hx rfl ?_)
  have:=AF (σ:=[aa.ro (l.map V.int) vs m,aa.lst (l'.map V.int)]) (g:=dq 8) (tr:=(lv (cc X) (n+26)).tr) (ev:=(lv (cc X) (n+26)).ev) (target:=ch (ch (xK X) 0) 1) (elt:=ch (ch (xK X) 0) 0) (ifs:=ec (ch (xK X) 0)) (S:=fun σ=>σ[1]? =some (aa.lst (l'.map V.int))) (P:=fun en'=> ∃own,en'=⟨am (dG (ch (xK X) 0)).names (ah X 1032 [("script",.lst 0)]),own,[],none⟩) (t:= .lst 1 0) (as:=l') (f:=V.int) (F:=fun k=> .int ((cF k).fmod 1000000007)) (k:=fun u_=>true) (en:=dY (dG (ch (xK X) 0)).names (ah X 1032 [("script",.lst 0)])) (fun u_=>rfl) (eu fun σ h=>h) (by show _<4096;exact fH ‹_› (by exact ac)) ?_ ⟨_,rfl⟩
  ·rw[HR.mpr (fun u_ u_=>rfl)]at this;refine(G_).symm▸ ?_;exact this
  ·rintro k hk _ acc ⟨own,rfl⟩
   exact⟨⟨am (dG (ch (xK X) 0)).names (ah X 1032 [("script",.lst 0)]),("k",.int k)::own,[],none⟩,⟨_,rfl⟩,by kernel_rfl,rfl,fun u_=>cG (op:= .Mod) (KC:=[aa.ro (l.map V.int) vs m,aa.lst (l'.map V.int)]++[aa.lst acc]) (KG:=[aa.ro (l.map V.int) vs m,aa.lst (l'.map V.int)]++[aa.lst acc]) (x:= .int (cF k)) (y:= .int 1000000007) ⋯ ⋯ rfl (nK (by omega) (by assumption))⟩
 have hlen:((l.map V.int).length:Int)=(l.length:Nat):=by rw[GM]
 have key: ∀e:Expr,e= .List [ch e 0,ch e 1,ch e 2] (ps e)→fq (lv (cc X) (n+27)).ev (ah X 1032 [("script",.lst 0)]) [aa.ro (l.map V.int) vs m] [ch e 0,ch e 1,ch e 2]=some (.ok [.lst 2,.int 0,.int (7+(l.length:Nat))] [aa.ro (l.map V.int) vs m,aa.lst (l'.map V.int),aa.lst ((l'.map fun k=>(cF k).fmod 1000000007).map V.int)])→(lv (cc X) (n+28)).ev (ah X 1032 [("script",.lst 0)]) [aa.ro (l.map V.int) vs m] e=some (.ok (.lst 3) [aa.ro (l.map V.int) vs m,aa.lst (l'.map V.int),aa.lst ((l'.map fun k=>(cF k).fmod 1000000007).map V.int),aa.lst [.lst 2,.int 0,.int (7+(l.length:Nat))]]):=fun e he h=>
  (congrArg ((lv (cc X) (n+28)).ev (ah X 1032 [("script",.lst 0)]) [aa.ro (l.map V.int) vs m]) he).trans (yB h (show 3≤2^20 by decide))
 refine key _ rfl (bz ac hc (bz (KC:=[aa.ro (l.map V.int) vs m,aa.lst (l'.map V.int),aa.lst ((l'.map fun k=>(cF k).fmod 1000000007).map V.int)]) ac rfl (bz ac (cG (op:= .Add) (KC:=[aa.ro (l.map V.int) vs m,aa.lst (l'.map V.int),aa.lst ((l'.map fun k=>(cF k).fmod 1000000007).map V.int)]) (x:= .int 7) (y:= .int (l.length:Nat)) rfl rfl
  (bK (x:="len") (fv:= .builtin "len") (v:= .v (.lst 0)) ⋯ ⋯ rfl ⋯ (bA ⋯ rfl) (hlen▸zk rfl (by rw[GM];exact ET ‹_› (by exact ac)))) rfl) hY)))
theorem yv{x:Int}(hx:x<0)(n:Nat):(lv (cc X) (n+70)).cf σ 891 [vI [2,x]] []=some (.exc "ValueError" σ):=by
 refine bp (a:=891) (binds:=[("shape",vI [2,x])]) (so:= .exc "ValueError" (ah X 891 [("shape",vI [2,x])]) σ) ⋯ ⋯ ac ?_ rfl
 rw[show aD X 891=[St X 891 0]from rfl]
 have h:=pA (X:=X) (σ:=σ) (ss:=[2,x]) (show 2≤900 by decide) ⟨x,by exact .tail _ (.head _),hx⟩ (n+12)
 have h2:=j8 (own:=[("shape",vI [2,x])]) (e:=ch (ch (sx (St X 891 0) 0) 1) 0) (a:=891) (args:=[ch (ch (ch (sx (St X 891 0) 0) 1) 0) 1]) (xs:=[vI [2,x]]) ⋯ ⋯ rfl (kO ac (bA aA rfl)) h
 exact bO (i9 rfl (gS ac (m7 (args:=[ch (sx (St X 891 0) 0) 1]) (fv:= .ref av) rfl rfl rfl ⋯ (sq ac (sR aA (nC rfl ac h2))))))
structure C1(ss:List Int):Prop where
 l:1≤ss.length∧ss.length≤3
 s: ∀s∈ss,1≤s∧s≤98
 t:(iH ss).length=ss.length∧IB (2^20) (iH ss)
 z: ∀p∈ss.zip (iH ss),p.1=1→p.2=0
 p:0≤aS 1 ss∧aS 1 ss≤900
 p':0≤aS 1 (ql ss)∧aS 1 (ql ss)≤900
theorem wc(ss:List Int)(h:ss∈aM):C1 ss:=by
 have key: ∀ss∈aM,(decide (1≤ss.length∧ss.length≤3)&&(ss.all fun s=>decide (1≤s∧s≤98))&&decide ((iH ss).length=ss.length)&&((iH ss).all fun t=>decide (t.natAbs≤2^20))&&((ss.zip (iH ss)).all fun p=>decide (p.1=1→p.2=0))&&decide (0≤aS 1 ss∧aS 1 ss≤900)&&decide (0≤aS 1 (ql ss)∧aS 1 (ql ss)≤900))=true:=by decide+kernel
 have:=key ss h;simp only[Gh,decide_eq_true_eq,GX]at this;obtain⟨⟨⟨⟨⟨⟨h1,h2⟩,h3⟩,h4⟩,h5⟩,h6⟩,h7⟩:=this;exact⟨h1,h2,⟨h3,h4⟩,h5,h6,h7⟩
theorem Ae(X:Xp)(ss:List Int)(h:ss∈aM):((bu 12 (g0 X ss 5)&&bu 12 (g0 X ss 6)&&bu 12 (g0 X ss 7)&&bu 12 (g0 X ss 8)&&bu 12 (g0 X ss 9))&&(bu 19 (g0 X ss 5)&&bu 19 (g0 X ss 6)&&bu 19 (g0 X ss 7)&&bu 19 (g0 X ss 8)&&bu 19 (g0 X ss 9)))=true:=by
 revert ss;refine ak ?_ (ak ?_ (ak ?_ (ak ?_ (ak ?_ (ak ?_ (ak ?_ (ak ?_ (ak ?_ (ak ?_ ck)))))))))
 all_goals kernel_rfl
theorem Eg(X:Xp)(ss:List Int)(h:ss∈aM):(bu 19 (g1 X ss 12)&&bu 19 (g1 X ss 13)&&bu 19 (g1 X ss 14)&&bu 19 (g1 X ss 15)&&bu 19 (g1 X ss 16))=true:=by
 revert ss;refine ak ?_ (ak ?_ (ak ?_ (ak ?_ (ak ?_ (ak ?_ (ak ?_ (ak ?_ (ak ?_ (ak ?_ ck)))))))))
 all_goals kernel_rfl
noncomputable abbrev Z0(X:Xp)(ss:List Int)(c0 c1 c2 c3 c4:aa):Sg:=[c0,c1,c2,c3,c4,g0 X ss 5,g0 X ss 6,g0 X ss 7,g0 X ss 8,g0 X ss 9,Ay ss,oQ 10]
noncomputable abbrev Z1(X:Xp)(ss:List Int)(c0 c1 c2 c3 c4:aa):Sg:=[c0,c1,c2,c3,c4,g0 X ss 5,g0 X ss 6,g0 X ss 7,g0 X ss 8,g0 X ss 9,Ay ss,oQ 10,g1 X ss 12,g1 X ss 13,g1 X ss 14,g1 X ss 15,g1 X ss 16,Ed ss,oQ 17]
theorem Fx(h:ss∈aM)(c0 c1 c2 c3 c4:aa):Cq X 3 2 (Z0 X ss c0 c1 c2 c3 c4) 11 10 ss (iH ss) 0 .none (.bool true):=by
 have f:=wc ss h
 exact⟨⟨by decide,show 3<12 by decide,show 2<12 by decide⟩,⟨rfl,f.t.1,f.t.2,.inl rfl⟩,rfl,⟨by decide,by decide,by decide,by decide⟩,f.l.1,f.l.2,fun s q=>by have:=f.s s q;exact x7 ‹_› (by exact ac),f.z,f.p,.inl rfl⟩
theorem qW:(ql ss).length=ss.length:=by simp[ql]
theorem FX(h:ss∈aM)(c0 c1 c2 c3 c4:aa):Cq X 3 2 (Z1 X ss c0 c1 c2 c3 c4) 18 17 (ql ss) (iH ss) (-(iH ss).sum) (vP (u8 ss)) (.bool false):=by
 have f:=wc ss h
 have hs: ∀s∈ql ss,2≤s∧s≤99:=fun s q=>by
  unfold ql at q;refine aK (G0.mp q) fun x hx zz2=> ?_;subst zz2;have:=f.s x hx
  exact iba ‹_› (by exact ac)
 refine⟨⟨by decide,show 3<19 by decide,show 2<19 by decide⟩,⟨rfl,by rw[qW];exact f.t.1,f.t.2,.inr ⟨_,rfl,by simp[u8,ql],fun p q=> ?_⟩⟩,rfl,⟨by decide,by decide,by decide,by decide⟩,by rw[qW];exact f.l.1,by rw[qW];exact f.l.2,fun s q=>by have:=hs s q;exact x7 ‹_› (by exact ac),fun p q q1=> ?_,f.p',.inr fun xs hx hf c c' c'' ns a b m=> ?_⟩
 ·unfold u8 at q;refine aK (G0.mp q) fun x hx zz2=> ?_;subst zz2;have:=f.s x hx
  exact⟨show(1:Int).natAbs≤2000 by decide,show(x+1).natAbs≤2000 by exact nA1 ‹_› (by exact ac)⟩
 ·have:=hs _ (GS q).1;omega
 ·exact qY (Fd X m c0 c1 (aa.lst (ns.map V.int)) (aa.lst [.lst 2,.int a,.int b]) c4 _ _ _ _ _ _ _ _ _ _ c c' c'' ss h xs hx hf)
theorem F5(h:ss∈aM){c0 c1 c2 c3 c4:aa}(q0:bu 12 c0=true)(q1:bu 12 c1=true)(q2:bu 12 c2=true)(q3:bu 12 c3=true)(q4:bu 12 c4=true): ∀x∈Z0 X ss c0 c1 c2 c3 c4,bu (Z0 X ss c0 c1 c2 c3 c4).length x=true:=by
 have g:=Ae X ss h;simp only[Gh]at g;refine dw fun kk=> ?_;obtain⟨⟨⟨⟨⟨g5,g6⟩,g7⟩,g8⟩,g9⟩,_⟩:=g<;>(refine kk ?_;clear kk)
 have v0:bu 12 (Ay ss)=true:=by
  show(cy 12 (ss.map V.int)&&(cy 12 ((iH ss).map V.int)&&_))=true;rw[ca,ca];rfl
 have t:bu 12 (oQ 10)=true:=by kernel_rfl
 refine(?_: ∀x∈Z0 X ss c0 c1 c2 c3 c4,bu 12 x=true)
 exact(GV.mpr ⟨q0,(GV.mpr ⟨q1,(GV.mpr ⟨q2,(GV.mpr ⟨q3,(GV.mpr ⟨q4,(GV.mpr ⟨g5,(GV.mpr ⟨g6,(GV.mpr ⟨g7,(GV.mpr ⟨g8,(GV.mpr ⟨g9,(GV.mpr ⟨v0,(GV.mpr ⟨t,(fun u_ h=>by cases h)⟩)⟩)⟩)⟩)⟩)⟩)⟩)⟩)⟩)⟩)⟩)⟩)
theorem sH: ∀l:List (Int×Int),cy L (l.map pP)=true
 |[]=>rfl
 |_::l=>sH l
theorem Fq(h:ss∈aM){c0 c1 c2 c3 c4:aa}(q0:bu 19 c0=true)(q1:bu 19 c1=true)(q2:bu 19 c2=true)(q3:bu 19 c3=true)(q4:bu 19 c4=true): ∀x∈Z1 X ss c0 c1 c2 c3 c4,bu (Z1 X ss c0 c1 c2 c3 c4).length x=true:=by
 have g:=Ae X ss h;have g':=Eg X ss h;simp only[Gh]at g g';refine dw fun kk=> ?_;obtain⟨_,⟨⟨⟨g5,g6⟩,g7⟩,g8⟩,g9⟩:=g<;>(refine kk ?_;clear kk)
 refine dw fun kk=> ?_;obtain⟨⟨⟨⟨f2,f3⟩,f4⟩,f5⟩,f6⟩:=g'<;>(refine kk ?_;clear kk)
 have v0:bu 19 (Ay ss)=true:=by
  show(cy 19 (ss.map V.int)&&(cy 19 ((iH ss).map V.int)&&_))=true;rw[ca,ca];rfl
 have v1:bu 19 (Ed ss)=true:=by
  show(cy 19 ((ql ss).map V.int)&&(cy 19 ((iH ss).map V.int)&&(true&&(cy 19 ((u8 ss).map pP)&&_))))=true;rw[ca,ca,sH];rfl
 have t:bu 19 (oQ 10)=true:=by kernel_rfl
 have t':bu 19 (oQ 17)=true:=by kernel_rfl
 refine(?_: ∀x∈Z1 X ss c0 c1 c2 c3 c4,bu 19 x=true)
 exact(GV.mpr ⟨q0,(GV.mpr ⟨q1,(GV.mpr ⟨q2,(GV.mpr ⟨q3,(GV.mpr ⟨q4,(GV.mpr ⟨g5,(GV.mpr ⟨g6,(GV.mpr ⟨g7,(GV.mpr ⟨g8,(GV.mpr ⟨g9,(GV.mpr ⟨v0,(GV.mpr ⟨t,(GV.mpr ⟨f2,(GV.mpr ⟨f3,(GV.mpr ⟨f4,(GV.mpr ⟨f5,(GV.mpr ⟨f6,(GV.mpr ⟨v1,(GV.mpr ⟨t',(fun u_ h=>by cases h)⟩)⟩)⟩)⟩)⟩)⟩)⟩)⟩)⟩)⟩)⟩)⟩)⟩)⟩)⟩)⟩)⟩)⟩)⟩)
theorem yt(X:Xp)(fs:eD)(en:En)(σ:Sg)(b:List Stmt):rI (cc X) fs en σ b (zS (St X 1073 5))=sE (fs en σ b) fun cls en' KB=>if eV (cc X) en' (hT (zS (St X 1073 5))) cls=true then some (.ok (.ret (.bool true)) en' KB)else none:=rfl
noncomputable abbrev w5(X:Xp):=sx (si (aj (St X 1073 5)) 0) 0
theorem AS(h:Kk kS kL Z)(ho:eF ns a b)(lst:own.lookup ("state":Str)=some (.lst kS))(n:Nat): ∃(ns':List Int) (a' b':Int),aT (cc X) (lv (cc X) (n+100)) (ah X 1073 own) (W kS kL Z ns a b) (St X 1073 5)=some (.ok (.ret (.bool true)) (ah X 1073 own) (W kS kL Z ns' a' b')):=by
 refine cC (m_ (X:=X) (en:=ah X 1073 own) (e:=ch (ch (ch (w5 X) 1) 1) 1) (m:=3) h ho (by exact Gv _) (by exact Gv _) ⋯ rfl rfl ⋯ ⋯ ⋯ (n+71) (aV (x:="state") ⋯ ac lst) ⋯) fun y eB a1 b1 y0 y3 ho1 h0=> ?_
 have hp:(lv (cc X) (n+97)).ev (ah X 1073 own) (W kS kL Z ns a b) (ch (w5 X) 1)=some (.ok (vI [2,-1-y]) (W kS kL Z eB a1 b1)):=
  A_ (KC:=W kS kL Z ns a b) ⋯ ⋯ ⋯ rfl (cG (op:= .Sub) (KC:=W kS kL Z ns a b) (x:= .int (-1)) (y:= .int y) ⋯ ⋯ h0 rfl)
 have hb:=yv (X:=X) (σ:=W kS kL Z eB a1 b1) (x:= -1-y) (l1y ‹_›) (n+28);have hc:(lv (cc X) (n+99)).ev (ah X 1073 own) (W kS kL Z ns a b) (w5 X)=some (.exc "ValueError" (W kS kL Z eB a1 b1)):=
  gS ac (gr (name:="from_shape") (args:=[ch (w5 X) 1]) (x:= .val (.ref av)) (fv:= .ref 891) (first:=[]) (vs:=[.v (vI [2,-1-y])]) ⋯ ⋯ ⋯ ⋯ ac (kO ac (bA aA hp)) (gL (xs:=[vI [2,-1-y]]) ⋯ hb))
 have hs:(lv (cc X) (n+100)).exs (ah X 1073 own) (W kS kL Z ns a b) (aj (St X 1073 5))=some (.exc "ValueError" (ah X 1073 own) (W kS kL Z eB a1 b1)):=by
  rw[show aj (St X 1073 5)=[si (aj (St X 1073 5)) 0]from rfl]
  have e:aT (cc X) (lv (cc X) (n+99)) (ah X 1073 own) (W kS kL Z ns a b) (si (aj (St X 1073 5)) 0)=bQ (ah X 1073 own) ((lv (cc X) (n+99)).ev (ah X 1073 own) (W kS kL Z ns a b) (w5 X)) fun y KB=>if aX y then some (.ok .next (ah X 1073 own) KB)else none:=rfl
  rw[hc]at e;exact bO e
 have e:aT (cc X) (lv (cc X) (n+100)) (ah X 1073 own) (W kS kL Z ns a b) (St X 1073 5)=rI (cc X) (lv (cc X) (n+100)).exs (ah X 1073 own) (W kS kL Z ns a b) (aj (St X 1073 5)) (zS (St X 1073 5)):=rfl;rw[yt,hs]at e
 have c:eV (cc X) (ah X 1073 own) (hT (zS (St X 1073 5))) "ValueError"=true:=by kernel_rfl
 refine⟨eB,a1,b1,e.trans ?_⟩
 exact(if_pos c:(if _ then _ else none)=_)
theorem w0(Z:Sg)(ns:List Int)(a b:Int):(W 3 2 Z ns a b)[0]? =Z[0]? :=by unfold W;rw[Hm (by decide),Hm (by decide)]
theorem xO(n:Nat)(σ:Sg):(lv (cc X) (n+20)).cf σ 1027 [] []=some (.ok (.lst σ.length) (σ++[aa.lst (aM.map vI)])):=rfl
noncomputable abbrev w3(X:Xp)(i:Nat):=si (aj (St X 1073 3)) i
noncomputable abbrev x1(X:Xp):=sx (St X 1073 1) 0
noncomputable abbrev x2'(X:Xp):=sx (St X 1073 2) 0
theorem xA(l:List Int)(vs:List Value)(m:Nat)(h:l.length<64)(n:Nat): ∃KB,(lv (cc X) (n+150)).cf [aa.ro (l.map V.int) vs m] 1073 [.lst 0] []=some (.ok (.bool true) KB)∧KB[0]? =some (aa.ro (l.map V.int) vs m):=by
 --the state
 refine iC (B5 (X:=X) l vs m h (n+117)) fun c1 ns0 l1 zz3 hns hst=> ?_;subst zz3;have s0:aT (cc X) (lv (cc X) (n+148)) (ah X 1073 [("script",.lst 0)]) [aa.ro (l.map V.int) vs m] (St X 1073 0)=some (.ok .next (ah X 1073 [("state",.lst 3),("script",.lst 0)]) [aa.ro (l.map V.int) vs m,aa.lst (l1.map V.int),aa.lst (ns0.map V.int),aa.lst [.lst 2,.int 0,.int (7+(l.length:Nat))]]):=
  cm (x:="state") (xp:=ps (sx (St X 1073 0) 1)) rfl ac ac (bK (x:="_law_start") (fv:= .ref 1032) (v:= .v (.lst 0)) (KC:=[aa.ro (l.map V.int) vs m]) rfl rfl rfl ac (bA aA rfl) (eL (X:=X) (xs:=[.lst 0]) ⋯ hst))
 have ho0:eF ns0 0 (7+(l.length:Nat)):=⟨by exact bg ‹_› (by exact ac),by exact Gv _,by omega⟩
 --the shape
 have kk4:Kk 3 2 [aa.ro (l.map V.int) vs m,aa.lst (l1.map V.int),aa.lst (ns0.map V.int),aa.lst [.lst 2,.int 0,.int (7+(l.length:Nat))]]:=⟨by omega,show 3<4 by exact HY _,show 2<4 by exact H0 _⟩
 obtain⟨y,eB,a1,b1,p1,ho1,h1⟩:=oG (X:=X) (en:=ah X 1073 [("state",.lst 3),("script",.lst 0)]) (e:=x1 X) (m:=10) (ys:=aM.map vI) (ns:=ns0) (a:=0) (b:=7+(l.length:Nat)) kk4 ho0 (by exact Gv _) (by exact Gv _) rfl rfl ac ⋯ rfl rfl ⋯ aA aA (n+123) (by
  exact ku ac (cM (x:="_law_shapes") (args:=[]) (fv:= .ref 1027) (vs:=[]) rfl rfl rfl ac fS (eL (X:=X) (xs:=[]) ⋯ (xO (n+126) _)))) (fun u_=>rfl) (fun u_=>rfl)
 refine aK (G0.mp p1) fun ss hss zz2=> ?_;subst zz2;have s1:aT (cc X) (lv (cc X) (n+148)) (ah X 1073 [("state",.lst 3),("script",.lst 0)]) [aa.ro (l.map V.int) vs m,aa.lst (l1.map V.int),aa.lst (ns0.map V.int),aa.lst [.lst 2,.int 0,.int (7+(l.length:Nat))]] (St X 1073 1)=some (.ok .next (ah X 1073 [("shape",vI ss),("state",.lst 3),("script",.lst 0)]) [aa.ro (l.map V.int) vs m,aa.lst (l1.map V.int),aa.lst (eB.map V.int),aa.lst [.lst 2,.int a1,.int b1],aa.lst (aM.map vI)]):=
  cm (x:="shape") (xp:=ps (sx (St X 1073 1) 1)) rfl ac ac h1
 --the tracker
 have ht:=BQ X ss hss (n+47) (aa.ro (l.map V.int) vs m) (aa.lst (l1.map V.int)) (aa.lst (eB.map V.int)) (aa.lst [.lst 2,.int a1,.int b1]) (aa.lst (aM.map vI));have s2:aT (cc X) (lv (cc X) (n+148)) (ah X 1073 [("shape",vI ss),("state",.lst 3),("script",.lst 0)]) [aa.ro (l.map V.int) vs m,aa.lst (l1.map V.int),aa.lst (eB.map V.int),aa.lst [.lst 2,.int a1,.int b1],aa.lst (aM.map vI)] (St X 1073 2)=some (.ok .next (ah X 1073 [("tracker",.inst av 11),("shape",vI ss),("state",.lst 3),("script",.lst 0)]) (Z0 X ss (aa.ro (l.map V.int) vs m) (aa.lst (l1.map V.int)) (aa.lst (eB.map V.int)) (aa.lst [.lst 2,.int a1,.int b1]) (aa.lst (aM.map vI)))):=
  cm (x:="tracker") (xp:=ps (sx (St X 1073 2) 1)) rfl ac ac (ku ac (gr (name:="from_shape") (args:=[ch (x2' X) 1]) (x:= .val (.ref av)) (fv:= .ref 891) (first:=[]) (vs:=[.v (vI ss)]) (KC:=[aa.ro (l.map V.int) vs m,aa.lst (l1.map V.int),aa.lst (eB.map V.int),aa.lst [.lst 2,.int a1,.int b1],aa.lst (aM.map vI)]) (KG:=[aa.ro (l.map V.int) vs m,aa.lst (l1.map V.int),aa.lst (eB.map V.int),aa.lst [.lst 2,.int a1,.int b1],aa.lst (aM.map vI)]) rfl ⋯ rfl ⋯ ac (kO ac (bA aA rfl)) (eL (X:=X) (xs:=[vI ss]) ⋯ ht)))
 --what all runs end with
 have finish: ∀{Z:Sg} {j k:Nat} {ss' ts:List Int} {o:Int} {M B:V} {own:List (Str×V)} {ns:List Int} {a b:Int} (st:Stmt),Cq X 3 2 Z j k ss' ts o M B→(∀x∈Z,bu Z.length x=true)→kg 3 j ss' own→eF ns a b→ ∃own' KB,(lv (cc X) (n+149)).exs (ah X 1073 own) (W 3 2 Z ns a b) [lp X,St X 1073 5,st]=some (.ok (.ret (.bool true)) (ah X 1073 own') KB)∧KB[0]? =Z[0]? :=by
  intro Z j k ss' ts o M B own ns a b st t hl hk ho;refine bP (lpS (X:=X) t hl hk ho (n+26)) fun own' ns' a' b' hk' ho' h1=> ?_;refine D0 (AS (X:=X) t.kk ho' hk'.1 (n+48)) fun ns2 a2 b2 h2=> ?_;exact⟨own',_,ab h1 (bk h2),w0 Z ns2 a2 b2⟩
 have out: ∀{own':List (Str×V)} {KB:Sg},(lv (cc X) (n+149)).exs (ah X 1073 [("script",.lst 0)]) [aa.ro (l.map V.int) vs m] [St X 1073 0,St X 1073 1,St X 1073 2,St X 1073 3,lp X,St X 1073 5,St X 1073 6]=some (.ok (.ret (.bool true)) (ah X 1073 own') KB)→KB[0]? =some (aa.ro (l.map V.int) vs m)→ ∃KB,(lv (cc X) (n+150)).cf [aa.ro (l.map V.int) vs m] 1073 [.lst 0] []=some (.ok (.bool true) KB)∧KB[0]? =some (aa.ro (l.map V.int) vs m):=fun hh h0=>
  ⟨_,bp (a:=1073) (binds:=[("script",.lst 0)]) ⋯ ⋯ ac ((congrArg ((lv (cc X) (n+149)).exs _ _) (show aD X 1073=_ from rfl)).trans hh) rfl,h0⟩
 have q2: ∀L,bu L (aa.ro (l.map V.int) vs m)=true∧bu L (aa.lst (l1.map V.int))=true∧bu L (aa.lst (eB.map V.int))=true:=fun L=>⟨ca _,ca _,ca _⟩
 have q3: ∀L,2<L→bu L (aa.lst [.lst 2,.int a1,.int b1])=true:=fun L hL=>by
  refine(?_:(decide (2<L)&&(true&&(true&&true)))=true);rw[decide_eq_true hL];rfl
 have q4: ∀L,bu L (aa.lst (aM.map vI))=true:=fun L=>rfl
 --whether it is padded
 have t0:=Fx (X:=X) hss (aa.ro (l.map V.int) vs m) (aa.lst (l1.map V.int)) (aa.lst (eB.map V.int)) (aa.lst [.lst 2,.int a1,.int b1]) (aa.lst (aM.map vI))
 refine cC (m_ (X:=X) (en:=ah X 1073 [("tracker",.inst av 11),("shape",vI ss),("state",.lst 3),("script",.lst 0)]) (e:=ch (sx (St X 1073 3) 0) 0) (m:=2) (ns:=eB) (a:=a1) (b:=b1) t0.kk ho1 (by exact Gv _) (by decide) ⋯ rfl rfl ⋯ aA aA (n+123) rfl rfl) fun y ns2 a2 b2 y0 y2 ho2 h3=> ?_
 have t3:(lv (cc X) (n+148)).tr (ah X 1073 [("tracker",.inst av 11),("shape",vI ss),("state",.lst 3),("script",.lst 0)]) (W 3 2 (Z0 X ss (aa.ro (l.map V.int) vs m) (aa.lst (l1.map V.int)) (aa.lst (eB.map V.int)) (aa.lst [.lst 2,.int a1,.int b1]) (aa.lst (aM.map vI))) eB a1 b1) (sx (St X 1073 3) 0)=some (.ok (y==0) (W 3 2 (Z0 X ss (aa.ro (l.map V.int) vs m) (aa.lst (l1.map V.int)) (aa.lst (eB.map V.int)) (aa.lst [.lst 2,.int a1,.int b1]) (aa.lst (aM.map vI))) ns2 a2 b2)):=
  bx (op:= .Eq) (x:= .int y) (y:= .int 0) rfl aA h3 rfl rfl
 cases hy:y==0 with
 |false=>
  rw[hy]at t3
  refine bf (finish (St X 1073 6) t0 (F5 hss (q2 12).1 (q2 12).2.1 (q2 12).2.2 (q3 12 (by decide)) (q4 12)) (own:=[("tracker",.inst av 11),("shape",vI ss),("state",.lst 3),("script",.lst 0)]) ⟨rfl,rfl,rfl⟩ ho2) fun own' KB hf h0=> ?_
  exact out (ab s0 (ab s1 (ab s2 (ab (dy rfl t3 rfl) hf)))) h0
 |true=>
  rw[hy]at t3;have t1:=FX (X:=X) hss (aa.ro (l.map V.int) vs m) (aa.lst (l1.map V.int)) (aa.lst (eB.map V.int)) (aa.lst [.lst 2,.int a1,.int b1]) (aa.lst (aM.map vI));have hp:=Bk X ss hss (n+46) (aa.ro (l.map V.int) vs m) (aa.lst (l1.map V.int)) (aa.lst (ns2.map V.int)) (aa.lst [.lst 2,.int a2,.int b2]) (aa.lst (aM.map vI)) (g0 X ss 5) (g0 X ss 6) (g0 X ss 7) (g0 X ss 8) (g0 X ss 9);have hl:=(wc ss hss).l
  have e2:((ss.map V.int).length:Int)=ss.length:=by rw[GM]
  have b0:aT (cc X) (lv (cc X) (n+147)) (ah X 1073 [("tracker",.inst av 11),("shape",vI ss),("state",.lst 3),("script",.lst 0)]) (Z0 X ss (aa.ro (l.map V.int) vs m) (aa.lst (l1.map V.int)) (aa.lst (ns2.map V.int)) (aa.lst [.lst 2,.int a2,.int b2]) (aa.lst (aM.map vI))) (w3 X 0)=some (.ok .next (ah X 1073 [("tracker",.inst av 18),("tracker",.inst av 11),("shape",vI ss),("state",.lst 3),("script",.lst 0)]) (Z1 X ss (aa.ro (l.map V.int) vs m) (aa.lst (l1.map V.int)) (aa.lst (ns2.map V.int)) (aa.lst [.lst 2,.int a2,.int b2]) (aa.lst (aM.map vI)))):=by
   refine cm (x:="tracker") (xp:=ps (sx (w3 X 0) 1)) rfl ac ac (ku ac (gr (name:="pad") (args:=[ch (sx (w3 X 0) 0) 1]) (x:= .inst av 11) (fv:= .ref 978) (first:=[.inst av 11]) (vs:=[.v (vP (GR ss.length (1,0)))]) (KC:=Z0 X ss (aa.ro (l.map V.int) vs m) (aa.lst (l1.map V.int)) (aa.lst (ns2.map V.int)) (aa.lst [.lst 2,.int a2,.int b2]) (aa.lst (aM.map vI))) (KG:=Z0 X ss (aa.ro (l.map V.int) vs m) (aa.lst (l1.map V.int)) (aa.lst (ns2.map V.int)) (aa.lst [.lst 2,.int a2,.int b2]) (aa.lst (aM.map vI)))
    ⋯ ⋯ rfl (jp (f:=978) (fs:=cO (.tup [.inst ag 10])) rfl ac ⋯) ac (kO ac (bA aA ?_)) (eL (X:=X) (xs:=[.inst av 11,vP (GR ss.length (1,0))]) ⋯ hp)))
   refine cG (op:= .Mult) (KC:=Z0 X ss (aa.ro (l.map V.int) vs m) (aa.lst (l1.map V.int)) (aa.lst (ns2.map V.int)) (aa.lst [.lst 2,.int a2,.int b2]) (aa.lst (aM.map vI))) (x:= .tup [pP (1,0)]) (y:= .int (ss.length:Nat)) ⋯ rfl (e2▸kC (l:=ss.map V.int) ⋯ ⋯ rfl ⋯ ⋯ ⋯ (by rw[GM];exact bg (Gc ‹_›) (by exact ac))) ?_
   rw[kR (bg (Gc ‹_›) (by exact ac)),vP,HS]
  have b1':aT (cc X) (lv (cc X) (n+147)) (ah X 1073 [("tracker",.inst av 18),("tracker",.inst av 11),("shape",vI ss),("state",.lst 3),("script",.lst 0)]) (Z1 X ss (aa.ro (l.map V.int) vs m) (aa.lst (l1.map V.int)) (aa.lst (ns2.map V.int)) (aa.lst [.lst 2,.int a2,.int b2]) (aa.lst (aM.map vI))) (w3 X 1)=some (.ok .next (ah X 1073 [("shape",vI (ql ss)),("tracker",.inst av 18),("tracker",.inst av 11),("shape",vI ss),("state",.lst 3),("script",.lst 0)]) (Z1 X ss (aa.ro (l.map V.int) vs m) (aa.lst (l1.map V.int)) (aa.lst (ns2.map V.int)) (aa.lst [.lst 2,.int a2,.int b2]) (aa.lst (aM.map vI)))):=
   cm (x:="shape") (xp:=ps (sx (w3 X 1) 1)) rfl ac ac (rB (X:=X) (l:=[]) (j:=18) (k:=17) rfl ac rfl rfl (show _=some (Ed ss)from rfl) rfl)
  have hb:(lv (cc X) (n+148)).exs (ah X 1073 [("tracker",.inst av 11),("shape",vI ss),("state",.lst 3),("script",.lst 0)]) (W 3 2 (Z0 X ss (aa.ro (l.map V.int) vs m) (aa.lst (l1.map V.int)) (aa.lst (eB.map V.int)) (aa.lst [.lst 2,.int a1,.int b1]) (aa.lst (aM.map vI))) ns2 a2 b2) (aj (St X 1073 3))=some (.ok .next (ah X 1073 [("shape",vI (ql ss)),("tracker",.inst av 18),("tracker",.inst av 11),("shape",vI ss),("state",.lst 3),("script",.lst 0)]) (W 3 2 (Z1 X ss (aa.ro (l.map V.int) vs m) (aa.lst (l1.map V.int)) (aa.lst (eB.map V.int)) (aa.lst [.lst 2,.int a1,.int b1]) (aa.lst (aM.map vI))) ns2 a2 b2)):=by
   rw[show aj (St X 1073 3)=[w3 X 0,w3 X 1]from rfl]
   exact ab b0 (aq b1')
  refine bf (finish (St X 1073 6) t1 (Fq hss (q2 19).1 (q2 19).2.1 (q2 19).2.2 (q3 19 (by decide)) (q4 19)) (own:=[("shape",vI (ql ss)),("tracker",.inst av 18),("tracker",.inst av 11),("shape",vI ss),("state",.lst 3),("script",.lst 0)]) ⟨rfl,rfl,rfl⟩ ho2) fun own' KB hf h0=> ?_
  exact out (ab s0 (ab s1 (ab s2 (ab (eM rfl t3 hb) hf)))) h0
end
noncomputable abbrev gy:OpenRow:=lw.row
theorem sG:(defOf qv gy.name).isSome=true:=by kernel_rfl
noncomputable def dk:DefRec×List (Str×Expr):=(defOf qv gy.name).get sG
theorem A0:defOf qv gy.name=some (dk.1,dk.2):=(Option.some_get sG).symm
theorem A8:gy.prog.theDef gy.name=some (dk.1.params,dk.1.body,dk.1.scope):=by kernel_rfl
theorem Do:kwWritten? dk.1.params.kwonlyargs dk.1.params.kw_defaults=some dk.2:=by kernel_rfl
theorem xd:gy.wellSaid=true:=by
 rw[Fast.te17960256430627541270];unfold Fast.tw17960256430627541270
 repeat' (with_reducible refine Ks ?_ ?_)
 ·exact sd4
 all_goals kernel_rfl
theorem DD:(chainsOk qv&&opensWell gy.prog&&(frees gy.toRowW&&gy.within.isEmpty))=true:=by kernel_rfl
noncomputable abbrev wy(p:Program)(l:List Stmt):Bool:=TablesWhole.wSs TablesWhole.holds p.main.scope ⟨p.main.scope,[],[],[],none⟩ p.main.scope l
noncomputable abbrev EN(p:Program):List Str:=TablesWhole.wSs TablesWhole.gather p.main.scope ⟨p.main.scope,[],[],[],none⟩ p.main.scope p.main.body
theorem AQ{p:Program}{a b:List Stmt}(h2:wy p b=true):wy p a=true→wy p (a++b)=true:=by
 induction a with
 |nil=>exact fun u_=>h2
 |cons x a ih=>exact fun h=>Gg.mpr ((Gg.mp (show(TablesWhole.wS TablesWhole.holds p.main.scope ⟨p.main.scope,[],[],[],none⟩ p.main.scope x&&wy p a)=true from h)).imp id ih)
theorem Er(p:Program)(k:Nat)(h1:p.modules=[])(h2:p.parses=[])(h3:p.harvested=[])(ht:EN p=[])(h0:TablesWhole.noTwice p.main.scope=true)(ha:wy p (p.main.body.take k)=true)(hb:wy p (p.main.body.drop k)=true):p.tablesWhole=true:=by
 have h:=AQ hb ha;rw[List.take_append_drop]at h;unfold Program.tablesWhole TablesWhole.wProgram TablesWhole.wModule;unfold EN at ht;rw[h1,h2,h3,ht];show(((true&&(TablesWhole.noTwice p.main.scope&&(wy p p.main.body&&true)))&&(true&&(true&&(true&&true)))):Bool)=true;rw[h0,h];rfl
theorem tb0:EN gy.prog=[]:=by
 unfold EN;rw[Kz];kernel_rfl
theorem tb1:wy gy.prog (gy.prog.main.body.take 29)=true:=by
 unfold wy;rw[Kz];kernel_rfl
theorem tb2:wy gy.prog (gy.prog.main.body.drop 29)=true:=by
 unfold wy;rw[Kz];kernel_rfl
theorem yo:gy.prog.bare:=⟨rfl,rfl,rfl,rfl,rfl,Er gy.prog 29 rfl rfl rfl tb0 ⋯ tb1 tb2⟩
theorem zq:gy.toRowW.promised:=⟨[.list []],by kernel_rfl,by kernel_rfl⟩
theorem ue(call:WalkX qv m6 (fun u_ u_=>True) yf ya gy.toRowW dk.1 dk.2 fun f vs=>PySem.call f vs):gy.Holds:=
 holds_openX (r:=gy) left (fun u_ u_=>trivial) (fun u_ u_ u_ u_ u_=>trivial) A0 A8 Do (fun s u_=>recFacts_of (by rfl)) (by rfl) xd DD yo zq call
theorem yK{xs:List WData}:WShape.hasItems gy.records xs .int=true→ ∃l:List Int,xs=l.map KA:=by
 induction xs with
 |nil=>exact fun u_=>⟨[],rfl⟩
 |cons x xs ih=>
  intro h
  refine oA (Gg.mp (show(WShape.has gy.records x .int&&WShape.hasItems gy.records xs .int)=true from h)) fun h1 h2=> ?_
  obtain⟨l,rfl⟩:=ih h2
  cases x with
  |int i=>exact⟨i::l,rfl⟩
  |_=>cases h1
theorem Bt{args:List WData}(h:gy.claim.pre args=true): ∃l:List Int,args=[.list (l.map KA)]∧l.length<64:=by
 obtain⟨h1,h2⟩:=Gg.mp h
 cases args with
 |nil=>cases h1
 |cons d r=>
  obtain⟨h3,h4⟩:=Gg.mp (show(WShape.has gy.records d (.list .int)&&WShape.hasAll gy.records r [])=true from h1)
  cases r with
  |cons=>cases h4
  |nil=>
   cases d with
   |list xs=>
    have h5:(WShape.hasItems gy.records xs .int||false)=true:=h3;rw[Go]at h5;obtain⟨l,rfl⟩:=yK h5;refine⟨l,rfl,?_⟩
    rw[show gy.pre= .and (.not (.lt (.lit (.int 63)) (.len (.arg 0)))) (.lit (.bool true))from by kernel_rfl]at h2
    by_cases q:l.length<64
    ·exact q
    ·exfalso
     have e:less? (.int 63) (.int ((l.map KA).length:Nat))=some true:=by
      show some (decide ((63:Int)<((l.map KA).length:Nat)))=_
      rw[decide_eq_true (by rw[GM];omega)]
     simp only[WTm.holds,WTm.value,List.getElem?_cons_zero,e,Option.map_some,Bool.not_true]at h2
     cases h2
   |_=>cases h3
theorem xt{cl:Str→Option Addr}{P:Params}{ord:List DictEntry→List DictEntry}(l:List Int): ∀(s:Shared) (r:List Value×Shared),layAllW gy.records cl P ord (l.map KA) s=some r→r.2.heap=s.heap∧ ∀h ρ,Rs h ρ (l.map V.int) r.1:=by
 induction l with
 |nil=>exact fun s r e=>by obtain rfl:=IF e;exact⟨rfl,fun u_ u_=> .nil⟩
 |cons i l ih=>
  intro s r e
  have e':(match layAllW gy.records cl P ord (l.map KA) {s with toks:=s.toks+1}with|some r=>some ((Kr i s.toks)::r.1,r.2)|none=>none)=some r:=e
  cases q:layAllW gy.records cl P ord (l.map KA) {s with toks:=s.toks+1}with
  |none=>rw[q]at e';exact no e'
  |some r'=>
   rw[q]at e';obtain rfl:=IF e';refine oA (ih _ _ q) fun a b=> ?_;exact⟨a,fun h ρ=> .cons .int (b h ρ)⟩
theorem yC{cl:Str→Option Addr}{P:Params}{ord:List DictEntry→List DictEntry}{l:List Int}{vals:List Value}(e:layAllW gy.records cl P ord [.list (l.map KA)] s=some (vals,KF)):
 ∃vs,vals=[.ref s.heap.objs.size]∧KF.heap=s.heap.push (aB vs 0)∧ ∀h ρ,Rs h ρ (l.map V.int) vs:=by
 have e':(match(match layAllW gy.records cl P ord (l.map KA) s with|some r=>some (Ko r.2.heap.objs.size,{r.2 with heap:=r.2.heap.push {cls:= .type "list",data:= .seq r.1.toArray}})|none=>none:Option (Value×Shared))with|some a=>some ([a.1],a.2)|none=>none)=some (vals,KF):=e
 cases q:layAllW gy.records cl P ord (l.map KA) s with
 |none=>rw[q]at e';cases e'
 |some r=>
  rw[q]at e';obtain⟨a,b⟩:=xt l _ _ q
  cases e'
  exact⟨r.1,by rw[a],by show r.2.heap.push _=_;rw[a],b⟩
noncomputable def Tx:List Addr:=CC.map (·.2)
theorem k_t:(ks.all fun a=> !Tx.contains a&&Nat.blt a 1074)=true:=by kernel_rfl
theorem c_t:(CC.all fun p=> !Tx.contains p.1&&(Nat.blt p.1 1074&&Nat.blt p.2 1074))=true:=by kernel_rfl
noncomputable def vF(K:Frag)(p:Addr×Addr):Bool:=match K.lookup p.1 with
 |some o=>(match o.data with
  | .fields vs=>decide (o.cls= .type "code")&&(decide (vs.getD 11 .none= .ref p.2)&&(decide (vs[11]? =some (.ref p.2))&&((match vs.getD 18 .none with| .str .. =>true|_=>false)&&((match vs.getD 7 .none with| .int .. =>true|_=>false)&&((match vs.getD 9 .none with| .bool _=>true|_=>false)&&((match vs.getD 10 .none with| .int .. =>true|_=>false)&&decide (p.1≠p.2)))))))
  |_=>false)
 |none=>false
theorem Ck(P:Params):(CC.all fun p=>vF (KK P) p)=true:=by kernel_rfl
theorem pq{p:Addr×Addr}(b:vF K p=true)(k:K.In h)(t:h.get? p.2=some wl):gZ h p∧isCodeTable h p.2:=by
 unfold vF at b
 cases q:K.lookup p.1 with
 |none=>rw[q]at b;cases b
 |some o=>
  rw[q]at b;obtain⟨oc,od,da,sl⟩:=o
  cases da with
  |fields vs=>
   obtain⟨b1,b⟩:=Gg.mp (show(decide (oc= .type "code")&&_)=true from b)
   obtain⟨b2,b⟩:=Gg.mp b;obtain⟨b3,b⟩:=Gg.mp b;obtain⟨b4,b⟩:=Gg.mp b;obtain⟨b5,b⟩:=Gg.mp b;obtain⟨b6,b⟩:=Gg.mp b;obtain⟨b7,b8⟩:=Gg.mp b;have e:=k _ _ q
   obtain⟨file,tf,e4⟩: ∃x t,vs.getD 18 .none= .str x t:=by
    cases q:vs.getD 18 .none with
    |str x t=>exact⟨_,_,rfl⟩
    |_=>rw[q]at b4;cases b4
   obtain⟨fl,tg,e5⟩: ∃x t,vs.getD 7 .none= .int x t:=by
    cases q:vs.getD 7 .none with
    |int x t=>exact⟨_,_,rfl⟩
    |_=>rw[q]at b5;cases b5
   obtain⟨inF,e6⟩: ∃x,vs.getD 9 .none= .bool x:=by
    cases q:vs.getD 9 .none with
    |bool x=>exact⟨_,rfl⟩
    |_=>rw[q]at b6;cases b6
   obtain⟨tx,tt,e7⟩: ∃x t,vs.getD 10 .none= .int x t:=by
    cases q:vs.getD 10 .none with
    |int x t=>exact⟨_,_,rfl⟩
    |_=>rw[q]at b7;cases b7
   exact⟨⟨#[],⟨_,vs,file,tf,fl,tg,inF,tx,tt,wl,e,rfl,of_decide_eq_true b2,e4,e5,e6,e7,t,rfl,trivial,of_decide_eq_true b8⟩,fun o' q'=>by rw[t]at q';cases q';rfl⟩,
    ⟨p.1,_,vs,e,of_decide_eq_true b1,rfl,of_decide_eq_true b3⟩⟩
  |_=>cases b
noncomputable def Cz(P:Params):Array DictEntry:=match(KK P).lookup 3 with
 |some o=>(match o.data with| .dict es _=>es|_=> #[])
 |none=> #[]
theorem FP(P:Params): ∃o ep,(KK P).lookup 3=some o∧o.data= .dict (Cz P) ep:=⟨_,_,rfl,rfl⟩
theorem F4(P:Params):(NM.all fun p=>decide (nsFind (Cz P) p.1=some p.2)||(decide (nsFind (Cz P) p.1=none)&&(decide (bootBuiltins p.1=some p.2)&&decide (p.1≠"__name__"))))=true:=by kernel_rfl
theorem Du(P:Params):nsFind (Cz P) dk.1.name=some (.ref 1073):=by kernel_rfl
theorem Ec(P:Params):nsFind (Cz P) "__builtins__"=some (.ref 4):=by kernel_rfl
noncomputable def dX:Obj:={cls:= .none,data:= .freed}
theorem As{b:Addr}(m:b∈Tx): ∃p∈CC,p.2=b:=by
 obtain⟨p,h1,h2⟩:=G0.mp m;exact⟨p,h1,h2⟩
theorem qf{ob:Obj}{o:Obj}(e:(⟨#[dX,dX,dX,dX,ob],{}⟩:Heap).get? a=some o):a=4:=by
 match a,e with
 |0,e=>cases e
 |1,e=>cases e
 |2,e=>cases e
 |3,e=>cases e
 |4,e=>rfl
 |n+5,e=>cases e
theorem vf{ob:Obj}(h:ob.data= .plain):(⟨#[dX,dX,dX,dX,ob],{}⟩:Heap).get? 4=some ob:=by
 obtain⟨c1,c2,c3,c4⟩:=ob;subst h;rfl
theorem vk[BEq α][LawfulBEq α]{a:α}{b:β}{l:List (α×β)}:l.lookup a=some b→(a,b)∈l:=by
 induction l with
 |nil=>exact fun h=>no h
 |cons p l ih=>
  intro h
  replace h:(match a==p.1 with|true=>some p.2|false=>l.lookup a)=some b:=h
  cases q:a==p.1 with
  |true=>
   rw[q]at h;obtain rfl:=IF h;rw[GK q];exact .head _
  |false=>rw[q]at h;exact .tail _ (ih h)
theorem wB:WalkX qv m6 (fun u_ u_=>True) yf ya gy.toRowW dk.1 dk.2 fun f vs=>PySem.call f vs:=by
 intro w KN KF mg mb G Y a o pm cd doc dV kV ho hd hcd hD hmg hg args vals as L hpre hlay hrd hwl hlo;obtain⟨l,rfl,hl⟩:=Bt hpre;obtain⟨ord,hord,hlaid⟩:=L.laid;obtain⟨vs,rfl,hh,hvs⟩:=yC hlaid;obtain⟨y1,y2⟩:=Prod.mk.inj Y;have K0:(KK w.params).In KN.heap:=Frag.in_of (zW _) y1;have K1:(KK w.params).In KF.heap:=K0.keeps L.keeps;have T0: ∀p∈CC,KN.heap.get? p.2=some wl:=List.map_inj_left.mp y2;have T1: ∀p∈CC,KF.heap.get? p.2=some wl:=fun p m=>L.keeps _ _ (T0 p m);obtain⟨o3,ep3,e3,d3⟩:=FP w.params
 have gm: ∀x,mg x=nsFind (Cz w.params) x:=fun x=>by
  obtain⟨o',es,ep,h1,h2,_,h3⟩:=G.T.g;have q:KF.heap.get? mainGlobals=some o3:=K1 3 o3 e3;rw[q]at h1
  cases h1
  rw[d3]at h2
  cases h2
  exact(h3 x).symm
 have ea:a=1073:=by
  rw[gm,Du]at hmg
  cases hmg;rfl
 subst ea
 have sz:1074≤KN.heap.objs.size:=by
  have:((KK w.params).lookup 1073).isSome=true:=by kernel_rfl
  obtain⟨o',e'⟩:=ID.mp this;exact J_ (K0 _ _ e')
 have hz:KF.heap.objs.size=KN.heap.objs.size+1:=by rw[hh];exact Array.size_push ..
 have hn:KF.heap.get? KN.heap.objs.size=some (aB vs 0):=by rw[hh];exact J7 _ rfl
 obtain⟨bm,ob,b1,b2,b3,b4,b5,b6⟩:=G.T.bmain
 have eb:bm=4:=by
  rw[gm,Ec]at b1
  cases b1;rfl
 subst eb;have kt:=GX.mp k_t;have ct:=GX.mp c_t;have cc':=GX.mp (Ck w.params)
 have nT: ∀{x:Addr},(!Tx.contains x)=true→x∉Tx:=fun h m=>by
  rw[HP.mpr m]at h
  cases h
 have lt4: ∀{x:Nat},Nat.blt x 1074=true→x<KN.heap.objs.size:=fun h=>H8 (H7 h) sz
 let X:Xp:=⟨gy.prog,w,KN.heap.objs.size,Tx,mg,mb,⟨#[dX,dX,dX,dX,ob],{}⟩,w.params⟩
 have ok:(cc X).Ok:={
  kold:=fun b o' e=>by
   have m:b∈ks:=by
    rw[zW w.params];exact G0.mpr ⟨_,vk e,rfl⟩
   have:=Gg.mp (kt b m);exact⟨lt4 this.2,nT this.1⟩
  bold:=fun b o' e=>by
   obtain rfl:=qf e
   exact⟨H8 (by decide) sz,nT ⋯⟩
  tcs:=fun p m=>G0.mpr ⟨p,m,rfl⟩
  told:=fun b m=>by
   obtain⟨p,m',rfl⟩:=As m;exact lt4 (Gg.mp (Gg.mp (ct p m')).2).2
  cold:=fun p m=>⟨lt4 (Gg.mp (Gg.mp (ct p m)).2).1,nT (Gg.mp (ct p m)).1⟩
  names:=fun x v e=>by
   have m:(x,v)∈NM:=vk e
   rcases Gj.mp (GX.mp (F4 w.params) _ m)with q|q
   ·exact .inl ((gm x).trans (of_decide_eq_true q))
   ·obtain⟨q1,q⟩:=Gg.mp q;obtain⟨q2,q3⟩:=Gg.mp q;exact .inr ⟨(gm x).trans (of_decide_eq_true q1),(G.T.builtins x (of_decide_eq_true q3)).trans (of_decide_eq_true q2)⟩
  low:=⟨H8 (by decide) sz,H8 (by decide) sz,H8 (by exact HX _) sz⟩
  bmod:=⟨4,ob,b1,b2,vf b6,b4,b5,b6⟩}
 have gd:Gd (cc X) KF.heap:={
  kin:=K1
  lim:=G.T.nolimit
  gl:=G.T.g
  bl:=G.T.b
  stays:=fun b o' e=>by
   obtain rfl:=qf e;have:some ob=some o':=(vf b6).symm.trans e
   cases this
   exact b3
  codes:=fun p m=>(pq (cc' p m) K1 (T1 p m)).1
  size:=by rw[hz];exact H0 _}
 have st:aQ (cc X) ⟨[KN.heap.objs.size],[]⟩ [.ro (l.map V.int) vs 0] KF.heap:={
  nodup:=by simp
  len:=rfl
  at_:=fun k b c h1 h2=>by
   cases k with
   |succ=>cases h1
   |zero=>cases h1;cases h2;exact⟨hn,hvs _ _⟩
  low:=fun b m=>by rw[GP.mp m];exact HW _
  plow:=fun b m=>nomatch m
  disj:=fun b m=>nomatch m}
 obtain⟨KB,e,e0⟩:=xA (X:=X) l vs 0 hl 0
 have run:=(EF (c:=cc X) 150).cf (A:=callerA) e ok st gd ⟨rfl,by decide,by decide,⟨[],rfl,fun u_ m=>nomatch m⟩⟩ (.cons (.lst rfl) .nil) .nil
 refine I7 (I5 run fun r s' post=> ?_)
 cases r with
 |error e=>exact post.elim
 |ok f=>
  cases f with
  |ret v=>
   obtain⟨KD,S,r⟩:=post
   cases r using R.valE
   have pk:KD.r[0]? =some KN.heap.objs.size:=by
    obtain⟨t,q⟩:=S.pre;rw[←q];rfl
   have hn':s'.heap.get? KN.heap.objs.size=some (aB vs 0):=(S.sto.at_ _ _ _ pk e0).1
   have key: ∀b o,KF.heap.get? b=some o→ ∃o',s'.heap.get? b=some o'∧asItWas KF.heap s'.heap b o:=fun b o' h=>by
    by_cases q:b=KN.heap.objs.size
    ·subst q;rw[hn]at h
     cases h
     exact⟨_,hn',.inl hn'⟩
    ·obtain⟨o2,h1,h2⟩:=S.ext b o' (fun m=>q (GP.mp m)) h;refine⟨o2,h1,?_⟩
     rcases h2 with rfl|⟨g,_⟩|⟨m,c1,us,more,d,rfl⟩
     ·exact .inl h1
     ·have:=J_ h;rw[hz]at this;exact absurd (Nat.le_antisymm (Nat.le_of_lt_succ this) g) q
     ·obtain⟨p,mp,rfl⟩:=As m;exact .inr (.inl ⟨(pq (cc' p mp) K1 (T1 p mp)).2,c1,us,more,d,h1⟩)
   refine⟨.inl ⟨_,.bool true,[],rfl,fun u_=>rfl,.bool true,by kernel_rfl,fun u_=>⟨List.nodup_nil,fun u_ m=>nomatch m⟩⟩,⟨fun b o h=>(key b o h).elim fun u_ x=>x.2,fun b o h=>(key b o h).elim fun u_ x=>⟨_,x.1⟩⟩,S.rest.os,fun y hy=>S.rest.bare (fun x hx=>by rw[hg]at hx;simp at hx) y hy⟩
  |_=>exact post.elim
theorem Cu:JJ.Holds:=⟨zh,ue wB⟩
end Mine.Internal
theorem PySem.Challenge.cw_iu0032_05_holds : PySem.Challenge.rw_iu0032_05.Holds :=
  Mine.Internal.Cu
