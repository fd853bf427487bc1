import PyProof.Rows.All
import Wide.All
import OpenK.AllK
import Wide.FinOn
import KE.KItem
import PyProof.GenQ
import PyProof.ConsumeS
import PyProof.TupleOfGen
import Lean
import PySem.Challenge.RW_iu0032_05
set_option Elab.async false
set_option linter.all false
set_option maxRecDepth 100000
set_option maxHeartbeats 0
set_option tactic.hygienic false
set_option genSizeOf false
namespace Mine.Internal
open And renaming left→Ge,right→Gf
open Array renaming getElem?_eq_some_iff→Gg,getElem?_setIfInBounds_self_of_lt→Gh
open Bool renaming and_eq_true_iff→Gi,and_eq_true→Gj,false_ne_true→Gk,or_eq_true_iff→Gl,false_eq_true→Gm,true_and→Gn,rec→Go,and_true→Gp,or_false→Gq,not_eq_true'→Gr
open Classical renaming byContradiction→Gs
open Eq renaming trans→Gu,symm→Gv
open ForInStep renaming yield→Gw
open Int renaming natCast_nonneg→Gx,le_trans→Gy,not_lt→Gz,toNat_natCast→GA,ofNat_lt→GB,ofNat_le→GC,lt_of_lt_of_le→GD,le_of_lt→GE,add_le_add_right→GF,lt_of_le_of_lt→GG,le_of_lt_add_one→GH,lt_iff_le_and_ne→GI,sub_nonneg_of_le→GJ,fmod_nonneg_of_pos→GK,fmod_lt_of_pos→GM
open LawfulBEq renaming eq_of_beq→GN
open List renaming length_map→GO,mem_append→GP,prefix_append→GQ,mem_singleton→GR,length_zip→GS,replicate→GT,of_mem_zip→GU,range→GV,prefix_refl→GW,forall_mem_cons→GX,mem_cons→GY,all_eq_true→GZ,append_assoc→G0,getElem?_eq_some_iff→G1,mem_map→G2,getElem?_eq_getElem→G3,append_nil→G4,lookup→G5,length_append→G6,lookup_cons→G7,getElem?_concat_length→G8,nil_subset→G9,length_cons→G_,mem_append_left→G',map_map→Ha,eq_nil_of_length_eq_zero→Hb,getElem?_map→Hc,getElem_mem→Hd,getElem?_append_left→He,getD_eq_getElem?_getD→Hf,not_mem_nil→Hg,length_range→Hh,size_toArray→Hi,mem_append_right→Hj,forIn_cons→Hk,mem_filterMap→Hl,reverse_cons→Hm,length_eq_zero_iff→Hn,getElem?_set_ne→Ho,mem_of_getElem?→Hp,getElem?_append_right→Hq,all_cons→Hr,getElem?_toArray→Hs,length_set→Ht,any_cons→Hu,isEmpty_iff→Hv,any_eq_false→Hw,filter_cons→Hx,mem_of_mem_take→Hy,map_congr_left→Hz,zip_cons_cons→HA,lookup_cons_self→HB,length_singleton→HC,filterMap_cons→HD,replicate_succ→HE,lookup_append→HF,subset_append_left→HG,length_take→HH,cons_ne_nil→HI,mem_range→HJ,getElem?_eq_none_iff→HK,mem_cons_of_mem→HL,flatten_cons→HM,getElem?_set_self→HN,pairwise_cons→HO,getElem?_zip_eq_some→HP,length_reverse→HQ,contains_iff_mem→HR,exists_cons_of_ne_nil→HS,filter_eq_self→HT,map_replicate→HU,take_succ_eq_append_getElem→HV,eraseIdx_eq_take_drop_succ→HW
open Nat renaming le_trans→HX,le_refl→HY,succ_pos→HZ,lt_succ_self→H0,not_lt→H1,le_succ→H3,le_add_right→H4,le_add_left→H7,lt_of_le_of_lt→H8,le_of_ble_eq_true→H9,lt_of_lt_of_le→H_,zero_le→H',le_succ_of_le→Ia,le_of_lt→Ib,lt_irrefl→Ic,ne_of_gt→Ie,lt_of_lt_of_eq→Ig,not_lt_zero→Ih,add_le_add_left→Ii,lt_of_succ_lt_succ→Ij,min_self→Ik,lt_succ_of_lt→Il,add_le_add_right→Im,add_comm→Io,sub_self→Iq,ne_of_lt→Iu,min_le_left→Iv,lt_of_succ_lt→Iw,zero_add→Ix,le_of_eq→Iy,lt_add_of_pos_right→Iz,add_right_comm→IA,add_right_cancel→IC,lt_succ_of_le→ID
open Option renaming map_eq_some_iff→IE,isSome_iff_exists→IF,bind_some→IG
open Option.some renaming inj→IH
open PySem renaming wpAny→II,wpAny_bind→IJ,wpAny_pure→IK,wpAny_mono→IM,wpAny_field→IN,wpAny_holding→IO,wpAny_rule→IP,wpAny_of_eq→IQ,wpAny_newObj_type→IR,codeAny_builtin→IS,wpAny_call_entry→IT,plainId_quiet→IU,wpAny_standAt→IW,wpAny_callSpecial?_slot→IX,seg_bind_wrap→IY,wpAny_setField_rec→IZ,wpAny_seqItems→I0,wpAny_typeOf→I2,wpAny_setField→I3,wpAny_specialOf→I4,wpAny_updateSeq→I5,wpAny_letGo→I6,codeAny_mono→I7,wpAny_isInstance→I8,wpAny_call→I9,typeIs_int→I_,call_meets→Ja,typeLookup_type→Jb,builtinLookup_eq_fast→Jc,wpAny_items_cons→Jd,isSubtype_type→Je,signature?_of→Jf,wpAny_newTuple→Jg,wpAny_items_nil→Jh,wpAny_truthy_bool→Ji,wpAny_forIn_list→Jj,codeAny_of_tree→Jk,call_function_tree→Jl,wpAny_pyIter_gen→Jm,wpAny_raiseNew_none→Jn,codeAny_call_builtin→Jo,seqSlot_of→Jp
open PySem.Around renaming under_plainId→Jq,frames_deeper→Jr
open PySem.Builtin.List renaming listTooLong→Js,listExtendWith→Jt,listFitsIndex→Ju,listSameRef→Jv,listLengthHint→Jw
open PySem.Builtin.Range renaming rangeSize→Jx,small→Jy
open PySem.Builtin.Slice renaming sliceAdjust→Jz,slicePlaces→JA,sliceApplied→JB
open PySem.Builtin.SmallTypes renaming ownedTupleIsFree→JC,nextOf→JD,ownedTupleHandOut→JE,newClass→JF,fitsIndex→JG,iterAll→JH
open PySem.Builtin.Tuple renaming tupleExact→JI,tupleItemsOf→JJ,tupleIsExact→JK
open PySem.Challenge renaming rw_iu0032_05→JL
open PySem.Code renaming builtin→JM,quiet_builtin→JN
open PySem.F renaming called_tuple→JO,plain_extend_loop→JP,plain_any_loop→JQ,plain_sum_loop→JR,slot_tuple_getitem→JS,slot_lri_next→JT,slot_int_rmul→JU,plain_list_iadd→JV,plain_tuple_new→JW,plain_all_loop→JX,slot_tuple_add→JY,entry_tuple_add→JZ,args_tuple_add_2→J0,slot_range_iterator_next→J1,slot_zip_next→J2,slot_enumerate_next→J3,owner_object→J4,slot_tuple_mul→J5,typeCall_tuple_1→J6,args_object_init_2→J7,entry_extend_loop→J8
open PySem.Heap renaming get?_push_size→J9,get?_push_of_some→J_,size_push→J',lt_size→Ka,get?_update_self→Kb,SameBut→Kc,size_after_update→Kd,get?_update_other→Ke
open PySem.Heap.SameBut renaming update→Kf
open PySem.NameKind renaming free→Kg,cell→Kh
open PySem.Obj renaming mapFields→Ki,mapSeq→Kj,data_mapFields→Kl,isFreed_of_fields→Km,cls_mapFields→Kn
open PySem.PyData renaming keyHash→Ko
open PySem.Str renaming ofString→Kq
open PySem.Value renaming ref→Kr,none→Ks,int→Kt
open PySem.W renaming look_both→Ku,piece_app→Kv,segRun_of→Kw,boot_heap→Kx
open PySem.W.Fast renaming te14364793385576792824→Ky,te10110043849684766642→Kz,te14082659384304107361→KA,te16421684217811934046→KB
open PySem.W.WData renaming int→KC
open PySem PySem.W PyProof.Rows PySem.Calls PySem.SeqAt Builtin.ObjectAttr
local macro_rules | `(⋯) => `(by kernel_rfl)
local macro_rules | `(tactic| ac_rfl) => `(tactic| (change let K0 := _; let Q0 := _; let E0 := _; II _ _ (_ >>= K0) Q0 E0 _; intros))
local macro_rules | `(tactic| and_intros) => `(tactic| (change let K0 := _; let Q0 := _; II _ _ (_ >>= K0) Q0 _ _; intros))
noncomputable abbrev pr:Program:=JL.row.prog
noncomputable def tS(i:Nat):Stmt:=pr.main.body.getD i default
noncomputable def cS(i j:Nat):Stmt:=if h:(tS i).ctorIdx=2 then @Stmt.ClassDef.elim (fun u_=>Stmt) (tS i) h fun u_ u_ u_ b u_ u_ u_ u_ u_ u_ u_=>b.getD j default else tS i
noncomputable def gz(s:Stmt)(c:Value)(q:Str)(g:Addr)(d k m:Value)(an:Option Addr)(cd:Value):Obj:=if h:s.ctorIdx=0 then @Stmt.FunctionDef.elim (fun u_=>Obj) s h fun n a b u_ u_ u_ sc u_ u_ u_=>⟨c,none,.func {name:=n,qualname:=q,params:=a,body:= .stmts b,scope:=sc,globals:=g,closure:=[],defaults:=d,kwdefaults:=k,doc:= .none,pyModule:=m,annotations:=an,code:=cd,closureTuple:= .none,builtins:=0},#[]⟩else default
noncomputable def sv(x:Str)(t:Nat):Value:= .str x t
noncomputable def ke(P:Params)(x:Str)(t:Nat)(v:Value):DictEntry:=⟨Ko P x,.str x t,v⟩
noncomputable def tp(l:List Value):Obj:=⟨.type "tuple",none,.seq l.toArray 0,#[]⟩
noncomputable def fl(l:List Value):Obj:=⟨.none,none,.fields l.toArray,#[]⟩
noncomputable def dc(l:List DictEntry)(n:Nat):Obj:=⟨.type "dict",none,.dict l.toArray n,#[]⟩
noncomputable def it(n:Nat):Value:= .int n 0
noncomputable def cu(t:Nat):Value:=sv "/claim/cut.py" t
noncomputable def F0(l:List Str)(t:Nat):List Value:=(l.zipIdx t).map fun p=> .str p.1 p.2
noncomputable def cd(n q:Str)(t z l g f:Nat)(b:Bool)(a:Nat)(r u v:Value):Obj:=⟨.type "code",none,.fields #[.str n t,.str q (t+1),cu (t+2),it l,it g,it 0,it 0,it f,.ref a,.bool b,it 181,.ref (a+1),.none,r,u,v,it z,it l,cu (z+1)],#[]⟩
noncomputable def ds(t i:Nat):List Value:=[[],[.none],[.bool true],[.bool false],[.none,.int 0 t,.none]].getD i []
noncomputable def ap(c n:Str):Str:=⟨(c.cps.toList++n.cps.toList).toArray⟩
noncomputable def bm(f:String)(v:Value):Obj:=⟨.type "builtin_function_or_method",none,.fields #[.builtin f,v],#[]⟩
noncomputable abbrev Mt:=List Obj×DictEntry×List Value×Nat
noncomputable def mt(P:Params)(x:Stmt)(c:Str)(m:Value)(k a0 t0:Nat):Mt:=if h:x.ctorIdx=0 then @Stmt.FunctionDef.elim (fun u_=>Mt) x h fun n ar u_ dl u_ u_ sc u_ u_ p=>
 let q:=ap c n
 let f:=Nat.beq (k % 2) 0
 let i:=k/2 % 8
 let j:=k/16
 let a:=a0+[0,1,1,1,1].getD i 0
 let t:=t0+[0,0,0,0,1].getD i 0
 let cs:=cond f ((sc.names.filter fun y=>Nat.beq y.2.ctorIdx 1).map (·.1)) []
 let vs:=cond f ((sc.names.filter fun y=>Nat.ble y.2.ctorIdx 1).map (·.1)) []
 let z:=t+3+vs.length+cs.length
 let e:=z+2
 let w:=cond f (a+4) (a+2)
 let r:Nat→Value:=fun n=>cond f (.ref (a+n)) .none
 let d:Value:=cond (Nat.beq i 0) .none (.ref a0)
 let an:=cond (Nat.beq j 2) (some (w+5)) none
 (cond (Nat.beq i 0) [] [tp (ds t0 i)]++tp []::fl []::(cond f [tp (F0 vs (t+3)),tp (F0 cs (t+3+vs.length))] []++gz x .none q 0 .none .none .none none .none::cd n q t z (p.line-dl.length) ar.args.length 3 true a (r 2) (r 3) (.ref w)::
  gz x (.type "function") q 3 d .none m an (.ref (w+1))::[[],[⟨.type "property",none,.fields #[.ref (w+2),.none,.none,.none,.str n (e+1),.bool false],#[]⟩],
   [dc [ke P "__module__" (e+1) m,ke P "__name__" (e+4) (.str n (e+3)),ke P "__qualname__" (e+7) (.str q (e+6)),ke P "__doc__" (e+9) .none,ke P "__annotations__" (e+11) (.ref (w+5))] 5,⟨.type "staticmethod",some (w+3),.fields #[.ref (w+2),.bool false],#[]⟩,dc [] 0]].getD j []),
  ke P n (e+[0,1,12].getD j 0) (.ref (w+2+j)),[it p.line,it p.col,.ref (w+1)],e+[1,2,13].getD j 0)
 else default
noncomputable def ml(P:Params)(i:Nat)(c:Str)(m:Value)(l:List Nat):Nat→Nat→Nat→List Mt:= @List.rec Nat (fun u_=>Nat→Nat→Nat→List Mt) (fun u_ u_ u_=>[]) (fun k u_ ih j a t=>let r:=mt P (cS i j) c m k a t;r::ih (j+1) (a+r.1.length) r.2.2.2) l
noncomputable def cl(P:Params)(N i:Nat)(m:Value)(bs:List Nat)(a t:Nat)(L:List Nat)(pre:List DictEntry)(hs:Bool)(su:List Nat):Mt:=if h:(tS i).ctorIdx=2 then @Stmt.ClassDef.elim (fun u_=>Mt) (tS i) h fun n u_ u_ u_ u_ u_ u_ u_ u_ sa p=>
 let M:=ml P i (ap n ".") m L pre.length (a+7) (t+12+pre.length)
 let y:=a+7+(M.flatMap (·.1)).length
 let s:=M.foldl (fun u_ r=>r.2.2.2) 0
 let u:=s+sa.length
 let E:=pre++M.map (·.2.1)++[ke P "__static_attributes__" u (.ref y)]
 let mo:=ke P "__module__" (t+7) m
 let li:=ke P "__firstlineno__" (t+11) (.int p.line (t+10))
 let r:Value:= .ref (y+2)
 let b:=bs.isEmpty
 let o:Value:= .type "object"
 let v:=cond b (u+4) u
 let B:=(bs.take 1).map Kr
 (tp B::bm "type.__prepare__" (.type "type")::dc (mo::ke P "__qualname__" (t+9) (.str n (t+8))::li::E) (E.length+3)::tp []::fl (M.flatMap (·.2.2.1))::cd n n (t+2) (t+5) p.line 0 0 false (a+3) .none .none .none::
  ⟨.type "frame",none,.plain,#[some (.ref (a+5)),some (.ref 3),some (.ref (a+2)),none,some m,none,some (.ref 0)]⟩::M.flatMap (·.1)++tp (F0 sa s)::
  dc (mo::li::E++cond b [ke P "__dict__" (u+2) (.ref (y+3)),ke P "__weakref__" (u+4) (.ref (y+4))] []++ke P "__doc__" (v+1) .none::cond hs [ke P "__hash__" (v+2) .none] []) (2+cond b 2 0+cond hs 1 0)::
  ⟨.type "type",none,.cls ⟨n,cond b [o] B,r::bs.map Kr++[o],y+1,n,true,[],(su.filter fun x=>Nat.blt x N).map Kr,false,none,false⟩,#[cond b none (some (.ref a)),none,some (.str n t),some (.str n (t+8)),some (.builtin "object.__new__"),some (.bool true)]⟩::
  cond b [⟨.type "getset_descriptor",none,.fields #[sv "__dict__" (u+1),r,.builtin "function.__dict__",.builtin "function.__dict__#set"],#[]⟩,⟨.type "getset_descriptor",none,.fields #[sv "__weakref__" (u+3),r,.builtin "ExceptionGroup.__weakref__",.none],#[]⟩] []++[⟨.type "super",none,.fields #[r,r,r],#[]⟩,bm "object.__init_subclass__" r],
  ke P n (v+cond hs 4 3) r,[it p.line,it 0,.ref (a+5)],0)
 else default
noncomputable def mM:Value:=sv "__main__" 164
noncomputable def mH:Value:=sv "tinygrad.helpers" 194
noncomputable def mS:Value:=sv "tinygrad.shape.symbolic" 223
noncomputable def mV:Value:=sv "tinygrad.shape.view" 1040
noncomputable def mT:Value:=sv "tinygrad.shape.shapetracker" 1263
noncomputable def mL:Value:=sv "law_iu0032_05" 1468
noncomputable def cf(n q:Str)(t z l g a:Nat):Obj:=cd n q t z l g 3 true a (.ref (a+2)) (.ref (a+3)) (.ref (a+4))
noncomputable def cg(n q:Str)(t z l g a:Nat):Obj:=cd n q t z l g 3 true a .none .none (.ref (a+2))
noncomputable def GL(P:Params)(n:Nat):List Mt:=[
 mt P (tS 0) ⟨#[]⟩ mM 0 15 187,
 mt P (tS 2) ⟨#[]⟩ mH 0 22 196,
 mt P (tS 3) ⟨#[]⟩ mH 0 29 205,
 mt P (tS 4) ⟨#[]⟩ mH 0 36 212,
 mt P (tS 6) ⟨#[]⟩ mS 0 43 225,
 cl P n 7 mS [] 50 233 [2,0,0,16,0,0,0,0,0,0,0,0,0,0,0,0,0,0,0,4,0,0,33,33] [ke P "_key" 245 .none] true [289,343,402,612],
 cl P n 8 mS [232] 237 467 [0,16,0,0,0,0] [] false [],
 cl P n 9 mS [232] 292 536 [0,0,0,0,0,0] [] true [],
 mt P (tS 10) ⟨#[]⟩ mS 0 346 604,
 mt P (tS 11) ⟨#[]⟩ mS 0 353 613,
 mt P (tS 12) ⟨#[]⟩ mS 1 360 620,
 mt P (tS 13) ⟨#[]⟩ mS 0 365 626,
 cl P n 14 mS [232] 372 634 [0,0,0] [] false [435,490,531,579],
 cl P n 15 mS [402,232] 405 677 [0,0,0] [] false [],
 cl P n 16 mS [402,232] 438 716 [0,6,0,0,0,0] [] false [],
 cl P n 17 mS [402,232] 493 780 [6,0,0,0] [] false [],
 cl P n 18 mS [402,232] 534 828 [0,4,0,0,0] [] false [],
 cl P n 19 mS [232] 582 884 [0,0,0] [] false [665,694],
 cl P n 20 mS [612,232] 615 925 [1,1,4,1,0,1,17] [] false [],
 cl P n 21 mS [612,232] 668 996 [1,0,1] [] false [],
 mt P (tS 22) ⟨#[]⟩ mS 2 697 1032,
 mt P (tS 24) ⟨#[]⟩ mV 0 705 1042,
 mt P (tS 25) ⟨#[]⟩ mV 0 712 1050,
 mt P (tS 26) ⟨#[]⟩ mV 2 719 1059,
 mt P (tS 27) ⟨#[]⟩ mV 0 727 1076,
 mt P (tS 28) ⟨#[]⟩ mV 0 734 1097,
 cl P n 29 mV [] 741 1109 [0,0,1,41,1,0,0,3,1,0,1,0,1,1,2] [] true [],
 cl P n 31 mT [] 850 1265 [0,0,0,0,32,16,16,16,16,0,6,6,2,0,0,0,0,0,0,0,0] [] true [],
 mt P (tS 33) ⟨#[]⟩ mL 0 1021 1470,
 mt P (tS 34) ⟨#[]⟩ mL 1 1028 1476,
 mt P (tS 35) ⟨#[]⟩ mL 0 1033 1482,
 mt P (tS 36) ⟨#[]⟩ mL 0 1040 1491,
 mt P (tS 37) ⟨#[]⟩ mL 0 1047 1500,
 mt P (tS 38) ⟨#[]⟩ mL 1 1054 1509,
 mt P (tS 39) ⟨#[]⟩ mL 1 1059 1515,
 mt P (tS 40) ⟨#[]⟩ mL 1 1064 1521,
 mt P (tS 41) ⟨#[]⟩ mL 1 1069 1527]
noncomputable def isO(n:Nat)(v:Value):Bool:=if h:v.ctorIdx=Value.ctorIdx (.ref 0)then @Kr.elim (fun u_=>Bool) v h fun a=>Nat.blt a n else false
noncomputable def o3(P:Params)(n:Nat)(m:Value):Obj:=
 let l:=[ke P "__name__" 165 m,ke P "__doc__" 166 .none,ke P "__package__" 167 .none,ke P "__loader__" 168 (.builtin "__main__.__loader__#opaque"),ke P "__spec__" 169 .none,ke P "__annotations__" 170 (.ref 6),ke P "__builtins__" 171 (.ref 4),ke P "__file__" 173 (cu 172),ke P "__cached__" 174 .none]++((GL P n).map (·.2.1)).filter fun e=>isO n e.val
 dc l l.length
noncomputable def o12(P:Params)(n:Nat):Obj:=fl (((GL P n).filter fun e=>isO n e.2.1.val).flatMap (·.2.2.1))
noncomputable def KK(P:Params):Frag:=[
(2,boot_o_2 P),
(3,o3 P 2000 mL),
(27,cf "prod" "prod" 196 202 5 1 22),
(28,gz (tS 2) (.type "function") "prod" 3 .none .none (sv "tinygrad.helpers" 194) none (.ref 27)),
(34,cf "all_int" "all_int" 205 209 10 1 29),
(35,gz (tS 3) (.type "function") "all_int" 3 .none .none (sv "tinygrad.helpers" 194) none (.ref 34)),
(343,⟨.type "type",none,.cls ⟨"NumNode",[.ref 232],[.ref 343,.ref 232,.type "object"],342,"NumNode",true,[],[],false,none,false⟩,#[some (.ref 292),none,some (sv "NumNode" 536),some (sv "NumNode" 544),some (.builtin "object.__new__"),some (.bool true)]⟩),
(710,cf "canonicalize_strides" "canonicalize_strides" 1042 1047 437 2 705),
(711,gz (tS 24) (.type "function") "canonicalize_strides" 3 .none .none (sv "tinygrad.shape.view" 1040) none (.ref 710)),
(717,cf "strides_for_shape" "strides_for_shape" 1050 1056 439 1 712),
(718,gz (tS 25) (.type "function") "strides_for_shape" 3 .none .none (sv "tinygrad.shape.view" 1040) none (.ref 717)),
(719,⟨.type "tuple",none,.seq #[.none] 0,#[]⟩),
(725,cf "_merge_dims" "_merge_dims" 1059 1073 446 3 720),
(726,gz (tS 26) (.type "function") "_merge_dims" 3 (.ref 719) .none (sv "tinygrad.shape.view" 1040) none (.ref 725)),
(732,cf "_reshape_mask" "_reshape_mask" 1076 1094 462 3 727),
(733,gz (tS 27) (.type "function") "_reshape_mask" 3 .none .none (sv "tinygrad.shape.view" 1040) none (.ref 732)),
(753,cf "__init__" "View.__init__" 1121 1130 502 6 748),
(754,gz (cS 29 0) (.type "function") "View.__init__" 3 .none .none (sv "tinygrad.shape.view" 1040) none (.ref 753)),
(767,⟨.type "tuple",none,.seq #[.none,.int 0 1147,.none] 0,#[]⟩),
(771,cg "create" "View.create" 1148 1151 515 4 768),
(772,gz (cS 29 3) (.type "function") "View.create" 3 (.ref 767) .none (sv "tinygrad.shape.view" 1040) (some 775) (.ref 771)),
(774,⟨.type "staticmethod",(some 773),.fields #[.ref 772,.bool false],#[]⟩),
(795,⟨.type "tuple",none,.seq #[.none] 0,#[]⟩),
(799,cg "_unsafe_resize" "View._unsafe_resize" 1187 1190 610 3 796),
(800,gz (cS 29 7) (.type "function") "View._unsafe_resize" 3 (.ref 795) .none (sv "tinygrad.shape.view" 1040) none (.ref 799)),
(804,cg "pad" "View.pad" 1193 1196 620 2 801),
(805,gz (cS 29 8) (.type "function") "View.pad" 3 .none .none (sv "tinygrad.shape.view" 1040) none (.ref 804)),
(811,cf "shrink" "View.shrink" 1199 1204 628 2 806),
(812,gz (cS 29 9) (.type "function") "View.shrink" 3 .none .none (sv "tinygrad.shape.view" 1040) none (.ref 811)),
(816,cg "expand" "View.expand" 1207 1210 632 2 813),
(817,gz (cS 29 10) (.type "function") "View.expand" 3 .none .none (sv "tinygrad.shape.view" 1040) none (.ref 816)),
(823,cf "permute" "View.permute" 1213 1219 642 2 818),
(824,gz (cS 29 11) (.type "function") "View.permute" 3 .none .none (sv "tinygrad.shape.view" 1040) none (.ref 823)),
(828,cg "stride" "View.stride" 1222 1225 646 2 825),
(829,gz (cS 29 12) (.type "function") "View.stride" 3 .none .none (sv "tinygrad.shape.view" 1040) none (.ref 828)),
(833,cg "reshape" "View.reshape" 1228 1231 654 2 830),
(834,gz (cS 29 13) (.type "function") "View.reshape" 3 .none .none (sv "tinygrad.shape.view" 1040) none (.ref 833)),
(844,⟨.type "dict",none,.dict #[ke P "__module__" 1116 (sv "tinygrad.shape.view" 1040),ke P "__firstlineno__" 1120 (.int 500 1119),ke P "__init__" 1132 (.ref 754),ke P "__eq__" 1140 (.ref 761),ke P "size" 1146 (.ref 766),ke P "create" 1165 (.ref 774),ke P "__add__" 1171 (.ref 780),ke P "invert" 1179 (.ref 787),ke P "minify" 1186 (.ref 794),ke P "_unsafe_resize" 1192 (.ref 800),ke P "pad" 1198 (.ref 805),ke P "shrink" 1206 (.ref 812),ke P "expand" 1212 (.ref 817),ke P "permute" 1221 (.ref 824),ke P "stride" 1227 (.ref 829),ke P "reshape" 1233 (.ref 834),ke P "expr" 1248 (.ref 842),ke P "__static_attributes__" 1254 (.ref 843),ke P "__dict__" 1256 (.ref 846),ke P "__weakref__" 1258 (.ref 847),ke P "__doc__" 1259 .none,ke P "__hash__" 1260 .none] 5,#[]⟩),
(845,⟨.type "type",none,.cls ⟨"View",[.type "object"],[.ref 845,.type "object"],844,"View",true,[],[],false,none,false⟩,#[none,none,some (sv "View" 1109),some (sv "View" 1117),some (.builtin "object.__new__"),some (.bool true)]⟩),
(862,cf "__init__" "ShapeTracker.__init__" 1277 1282 705 2 857),
(863,gz (cS 31 0) (.type "function") "ShapeTracker.__init__" 3 .none .none (sv "tinygrad.shape.shapetracker" 1263) none (.ref 862)),
(890,cf "from_shape" "ShapeTracker.from_shape" 1311 1315 720 1 885),
(891,gz (cS 31 4) (.type "function") "ShapeTracker.from_shape" 3 .none .none (sv "tinygrad.shape.shapetracker" 1263) (some 894) (.ref 890)),
(893,⟨.type "staticmethod",(some 892),.fields #[.ref 891,.bool false],#[]⟩),
(916,cf "shape" "ShapeTracker.shape" 1346 1350 732 1 911),
(917,gz (cS 31 7) (.type "function") "ShapeTracker.shape" 3 .none .none (sv "tinygrad.shape.shapetracker" 1263) none (.ref 916)),
(918,⟨.type "property",none,.fields #[.ref 917,.none,.none,.none,sv "shape" 1353,.bool false],#[]⟩),
(977,cf "pad" "ShapeTracker.pad" 1409 1414 762 2 972),
(978,gz (cS 31 15) (.type "function") "ShapeTracker.pad" 3 .none .none (sv "tinygrad.shape.shapetracker" 1263) none (.ref 977)),
(984,cf "shrink" "ShapeTracker.shrink" 1417 1422 765 2 979),
(985,gz (cS 31 16) (.type "function") "ShapeTracker.shrink" 3 .none .none (sv "tinygrad.shape.shapetracker" 1263) none (.ref 984)),
(991,cf "expand" "ShapeTracker.expand" 1425 1430 768 2 986),
(992,gz (cS 31 17) (.type "function") "ShapeTracker.expand" 3 .none .none (sv "tinygrad.shape.shapetracker" 1263) none (.ref 991)),
(998,cf "permute" "ShapeTracker.permute" 1433 1438 771 2 993),
(999,gz (cS 31 18) (.type "function") "ShapeTracker.permute" 3 .none .none (sv "tinygrad.shape.shapetracker" 1263) none (.ref 998)),
(1005,cf "stride" "ShapeTracker.stride" 1441 1446 774 2 1000),
(1006,gz (cS 31 19) (.type "function") "ShapeTracker.stride" 3 .none .none (sv "tinygrad.shape.shapetracker" 1263) none (.ref 1005)),
(1012,cf "reshape" "ShapeTracker.reshape" 1449 1455 777 2 1007),
(1013,gz (cS 31 20) (.type "function") "ShapeTracker.reshape" 3 .none .none (sv "tinygrad.shape.shapetracker" 1263) none (.ref 1012)),
(1015,⟨.type "dict",none,.dict #[ke P "__module__" 1272 (sv "tinygrad.shape.shapetracker" 1263),ke P "__firstlineno__" 1276 (.int 703 1275),ke P "__init__" 1284 (.ref 863),ke P "__eq__" 1292 (.ref 870),ke P "__add__" 1302 (.ref 877),ke P "invert" 1310 (.ref 884),ke P "from_shape" 1329 (.ref 893),ke P "contiguous" 1337 (.ref 902),ke P "consecutive" 1345 (.ref 910),ke P "shape" 1353 (.ref 918),ke P "size" 1361 (.ref 926),ke P "real_size" 1368 (.ref 933),ke P "real_strides" 1376 (.ref 941),ke P "unit_stride_axes" 1384 (.ref 949),ke P "expr_idxs" 1392 (.ref 957),ke P "axis_is_masked" 1400 (.ref 964),ke P "simplify" 1408 (.ref 971),ke P "pad" 1416 (.ref 978),ke P "shrink" 1424 (.ref 985),ke P "expand" 1432 (.ref 992),ke P "permute" 1440 (.ref 999),ke P "stride" 1448 (.ref 1006),ke P "reshape" 1457 (.ref 1013),ke P "__static_attributes__" 1459 (.ref 1014),ke P "__dict__" 1461 (.ref 1017),ke P "__weakref__" 1463 (.ref 1018),ke P "__doc__" 1464 .none,ke P "__hash__" 1465 .none] 5,#[]⟩),
(1016,⟨.type "type",none,.cls ⟨"ShapeTracker",[.type "object"],[.ref 1016,.type "object"],1015,"ShapeTracker",true,[],[],false,none,false⟩,#[none,none,some (sv "ShapeTracker" 1265),some (sv "ShapeTracker" 1273),some (.builtin "object.__new__"),some (.bool true)]⟩),
(1026,cf "_law_shapes" "_law_shapes" 1470 1473 783 0 1021),
(1027,gz (tS 33) (.type "function") "_law_shapes" 3 .none .none (sv "law_iu0032_05" 1468) none (.ref 1026)),
(1031,cg "_law_start" "_law_start" 1476 1479 785 1 1028),
(1032,gz (tS 34) (.type "function") "_law_start" 3 .none .none (sv "law_iu0032_05" 1468) none (.ref 1031)),
(1038,cf "_law_take" "_law_take" 1482 1488 787 2 1033),
(1039,gz (tS 35) (.type "function") "_law_take" 3 .none .none (sv "law_iu0032_05" 1468) none (.ref 1038)),
(1045,cf "_law_size" "_law_size" 1491 1497 797 1 1040),
(1046,gz (tS 36) (.type "function") "_law_size" 3 .none .none (sv "law_iu0032_05" 1468) none (.ref 1045)),
(1052,cf "_law_try" "_law_try" 1500 1506 802 3 1047),
(1053,gz (tS 37) (.type "function") "_law_try" 3 .none .none (sv "law_iu0032_05" 1468) none (.ref 1052)),
(1057,cg "_law_fits" "_law_fits" 1509 1512 817 3 1054),
(1058,gz (tS 38) (.type "function") "_law_fits" 3 .none .none (sv "law_iu0032_05" 1468) none (.ref 1057)),
(1062,cg "_law_new" "_law_new" 1515 1518 832 3 1059),
(1063,gz (tS 39) (.type "function") "_law_new" 3 .none .none (sv "law_iu0032_05" 1468) none (.ref 1062)),
(1067,cg "_law_arg" "_law_arg" 1521 1524 842 3 1064),
(1068,gz (tS 40) (.type "function") "_law_arg" 3 .none .none (sv "law_iu0032_05" 1468) none (.ref 1067)),
(1072,cg "law" "law" 1527 1530 858 1 1069),
(1073,gz (tS 41) (.type "function") "law" 3 .none .none (sv "law_iu0032_05" 1468) none (.ref 1072))]
noncomputable def CC:List (Addr×Addr):=[(27,23),(34,30),(710,706),(717,713),(725,721),(732,728),(753,749),(771,769),(799,797),(804,802),(811,807),(816,814),(823,819),(828,826),(833,831),(862,858),(890,886),(916,912),(977,973),(984,980),(991,987),(998,994),(1005,1001),(1012,1008),(1026,1022),(1031,1029),(1038,1034),(1045,1041),(1052,1048),(1057,1055),(1062,1060),(1067,1065),(1072,1070)]
noncomputable def np(x:Str)(v:Value):Str×Value:=(x,v)
noncomputable def NM:List (Str×Value):=[np "all" (.builtin "all"),np "any" (.builtin "any"),np "tuple" (.type "tuple"),np "zip" (.type "zip"),np "len" (.builtin "len"),np "sum" (.builtin "sum"),np "sorted" (.builtin "sorted"),np "list" (.type "list"),np "range" (.type "range"),np "reversed" (.type "reversed"),np "enumerate" (.type "enumerate"),np "isinstance" (.builtin "isinstance"),np "int" (.type "int"),np "abs" (.builtin "abs"),np "max" (.builtin "max"),np "min" (.builtin "min"),np "ValueError" (.type "ValueError"),np "AssertionError" (.type "AssertionError"),np "View" (.ref 845),np "ShapeTracker" (.ref 1016),np "prod" (.ref 28),np "all_int" (.ref 35),np "canonicalize_strides" (.ref 711),np "strides_for_shape" (.ref 718),np "_merge_dims" (.ref 726),np "_reshape_mask" (.ref 733),np "Variable" (.ref 289),np "NumNode" (.ref 343),np "Node" (.ref 232),np "_law_shapes" (.ref 1027),np "_law_start" (.ref 1032),np "_law_take" (.ref 1039),np "_law_size" (.ref 1046),np "_law_try" (.ref 1053),np "_law_fits" (.ref 1058),np "_law_new" (.ref 1063),np "_law_arg" (.ref 1068)]
noncomputable abbrev lw:=JL
noncomputable abbrev yi:Program:=(Fast.tw2368527892694137696 lw).prog
theorem sd1:Fast.tw8377067652309620493 yi=true:=by kernel_rfl
noncomputable abbrev ro(l:List Nat):Bool:=Fast.tw13343964577679436407 yi yi.main.body {cps:={toList:=l}}
theorem ro1:ro [118,97,114,115]=false:=by kernel_rfl
theorem ro2:ro [100,105,114]=false:=by kernel_rfl
theorem ro3:ro [108,111,99,97,108,115]=false:=by kernel_rfl
theorem Ff{p:Str→Bool}{a b c:Str}(h1:p a=false)(h2:p b=false)(h3:p c=false):R.filterR p [a,b,c]=[]:=by
 show Go (Go (Go [] [c] (p c)) (b::Go [] [c] (p c)) (p b)) (a::Go (Go [] [c] (p c)) (b::Go [] [c] (p c)) (p b)) (p a)=[];rw[h1,h2,h3]
theorem sd2:Fast.tw8326940854005059898 {strict:= !R.allR (Fast.tw5923862056798008813 yi.main.body) (Fast.tw3471404346716756564 Fast.tw17691160309236699985),foot:=none,bare:=R.filterR (Fast.tw13343964577679436407 yi yi.main.body) [{cps:={toList:=[118,97,114,115]}},{cps:={toList:=[100,105,114]}},{cps:={toList:=[108,111,99,97,108,115]}}]} yi.main.body=true:=by
 rw[Ff ro1 ro2 ro3];kernel_rfl
theorem sd3:Fast.tw17119622794617984870 yi yi.main.body (fun x n=>Fast.tw17868728402115742887 n)=true:=by kernel_rfl
theorem sd4:Fast.tw2436336058641802641 (Fast.tw2368527892694137696 lw)=true:=by
 unfold Fast.tw2436336058641802641
 repeat' (with_reducible refine Ku ?_ ?_)
 ·unfold Fast.tw12908688711261696721
  exact Ku (Ku (Ku (Ku (Ku ⋯ ⋯) sd1) ⋯) sd2) sd3
 all_goals kernel_rfl
theorem yj:lw.wellSaid=true:=by
 rw[Fast.te9446332074065402090];unfold Fast.tw9446332074065402090
 repeat' (with_reducible refine Ku ?_ ?_)
 ·unfold Fast.tw17960256430627541270
  repeat' (with_reducible refine Ku ?_ ?_)
  ·exact sd4
  all_goals as_aux_lemma=>kernel_rfl
 all_goals as_aux_lemma=>kernel_rfl
noncomputable def qv:Program:={pr with main:={pr.main with body:=(pr.main.body[41]?).toList}}
noncomputable def ng:List Str:=pr.main.scope.names.map (·.1)
noncomputable def ks:List Addr:=[2,3,27,28,34,35,343,710,711,717,718,719,725,726,732,733,753,754,767,771,772,774,795,799,800,804,805,811,812,816,817,823,824,828,829,833,834,844,845,862,863,890,891,893,916,917,918,977,978,984,985,991,992,998,999,1005,1006,1012,1013,1015,1016,1026,1027,1031,1032,1038,1039,1045,1046,1052,1053,1057,1058,1062,1063,1067,1068,1072,1073]
theorem z9(P:Params):ks=(KK P).map (·.1):=by kernel_rfl
noncomputable def xm:Obj:=⟨.none,none,.fields #[],#[]⟩
noncomputable def yf(s:Shared):List (Option Obj)×List (Option Obj):=(ks.map s.heap.get?,CC.map fun p=>s.heap.get? p.2)
noncomputable def ya(w:World):List (Option Obj)×List (Option Obj):=((KK w.params).map fun p=>some p.2,CC.map fun u_=>some xm)
noncomputable def mds:List Str:=importedModules pr.main.body
noncomputable def mZ:Env:={scope:=pr.main.scope,locals:=mainNs,globals:=mainNs,cells:=[],code:= .ref 13,frame:=some 14}
noncomputable def c0:Code:= .body (behindTheImports pr) mZ
noncomputable def xo:List Frame:=[topFrame default]
noncomputable def bt:List Obj→BT:=fun l=>(l.foldl (fun(x:BT×Nat) o=>(x.1.ins x.2 o,x.2+1)) (.nil,0)).1
noncomputable def Aq:List Obj:=[
 {cls:= .type "tuple",data:= .seq #[]},
 {cls:= .none,data:= .fields #[]},
 cd "<module>" "<module>" 182 185 1 0 0 false 11 .none .none .none,
 {cls:= .type "frame",slots:= #[some (.ref 13),some (.ref 3),some (.ref 3),none,some (.str (Kq "__main__") 164),none,some (.ref 0)]}]
noncomputable def sT(w:World)(os:OsState):SharedT:=⟨bt ((Kx w.params).objs.toList++Aq),15,{},Array.mk [],{},187,os⟩
noncomputable def sB(w:World)(os:OsState):Shared:=⟨Kx w.params,Array.mk [],boot_drawn,boot_toks,os⟩
noncomputable def kA:Option Value:=some (.ref 6)
theorem Bh(w:World)(os:OsState):topGo treeTable pr w 11 kA 12 (sB w os) (topStub pr)=some ((sT w os).abs,⟨denote treeTable c0,c0,default,xo⟩):=by
 rw[Fast.te15667345088766844465,Ky,Fast.te11892475500146522536];kernel_rfl
noncomputable def sS(w:World)(os:OsState)(n t:Nat)(m:Value):SharedT:=⟨((bt (((Kx w.params).objs.toList++Aq++(GL w.params n).flatMap (·.1)).take n)).ins 3 (o3 w.params n m)).ins 12 (o12 w.params n),n,{},Array.mk [],{},t,os⟩
noncomputable def bd(i j:Nat):List Stmt:=((behindTheImports pr).drop i).take j
noncomputable def po(i:Nat):Pos:=(tS i).pos
theorem pc0(w:World)(os:OsState):segRunT treeTable pr w 11 kA 1 1458 (sT w os) (piecesOf (bd 0 8) mZ c0 default xo)=some (.next,sS w os 237 467 mS,c0,po 7):=by
 rw[Kz,Ky];kernel_rfl
theorem pc1(w:World)(os:OsState):segRunT treeTable pr w 11 kA 1 1307 (sS w os 237 467 mS) (piecesOf (bd 8 7) mZ c0 (po 7) xo)=some (.next,sS w os 405 677 mS,c0,po 14):=by
 rw[Kz,Ky];kernel_rfl
theorem pc2(w:World)(os:OsState):segRunT treeTable pr w 11 kA 1 1483 (sS w os 405 677 mS) (piecesOf (bd 15 4) mZ c0 (po 14) xo)=some (.next,sS w os 582 884 mS,c0,po 18):=by
 rw[Kz,Ky];kernel_rfl
theorem pc3(w:World)(os:OsState):segRunT treeTable pr w 11 kA 1 1121 (sS w os 582 884 mS) (piecesOf (bd 19 3) mZ c0 (po 18) xo)=some (.next,sS w os 697 1032 mS,c0,po 21):=by
 rw[Kz,Ky];kernel_rfl
theorem pc4(w:World)(os:OsState):segRunT treeTable pr w 11 kA 1 219 (sS w os 697 1032 mS) (piecesOf (bd 22 7) mZ c0 (po 21) xo)=some (.next,sS w os 741 1109 mV,c0,po 28):=by
 rw[Kz,Ky];kernel_rfl
theorem pc5(w:World)(os:OsState):segRunT treeTable pr w 11 kA 1 796 (sS w os 741 1109 mV) (piecesOf (bd 29 1) mZ c0 (po 28) xo)=some (.next,sS w os 850 1263 mV,c0,po 29):=by
 rw[Kz,Ky];kernel_rfl
theorem pc6(w:World)(os:OsState):segRunT treeTable pr w 11 kA 1 1242 (sS w os 850 1263 mV) (piecesOf (bd 30 2) mZ c0 (po 29) xo)=some (.next,sS w os 1021 1468 mT,c0,po 31):=by
 rw[Kz,Ky];kernel_rfl
theorem pc7(w:World)(os:OsState):segRunT treeTable pr w 11 kA 1 261 (sS w os 1021 1468 mT) (piecesOf (bd 32 10) mZ c0 (po 31) xo)=some (.next,sS w os 1074 1533 mL,c0,po 41):=by
 rw[Kz,Ky];kernel_rfl
theorem AV:behindTheImports pr=bd 0 8++(bd 8 7++(bd 15 4++(bd 19 3++(bd 22 7++(bd 29 1++(bd 30 2++(bd 32 10++[]))))))):=by kernel_rfl
noncomputable def fr(top:type_of% @topRun)(tb:type_of% @treeTable){α:Type}(g:Shared→α)(w:World)(os:OsState):Option α:=(top tb pr w 11 kA 2 (sS w os 1074 1533 mL).abs ⟨doneF .next,c0,po 41,xo⟩).map g
noncomputable def ok1(w:World)(s:Shared):Bool:=staticsOk mds (Kx w.params) s.heap&&namesBound pr s.heap&&gensDone s&&laidKept (Kx w.params) s.heap
noncomputable def see(g:type_of% @openSeen)(s:Shared):=g qv ng mds (fun u_=>true) true s
theorem f1(w:World)(os:OsState):fr @topRun @treeTable (ok1 w) w os=some true:=by
 rw[KA,Ky];kernel_rfl
theorem f2(w:World)(os:OsState):fr @topRun @treeTable (see @openSeen) w os=some (openGood qv ng):=by
 rw[KA,Ky,Fast.te4187177175401517315];kernel_rfl
theorem f3(w:World)(os:OsState):fr @topRun @treeTable (fun s=>(yf s).1) w os=some (ya w).1:=by
 rw[KA,Ky];kernel_rfl
theorem f4(w:World)(os:OsState):fr @topRun @treeTable (fun s=>(yf s).2) w os=some (ya w).2:=by
 rw[KA,Ky];kernel_rfl
theorem BA(w:World)(os:OsState):segRun treeTable pr w 11 kA 1 1 (sT w os).abs (blockOf (behindTheImports pr) mZ c0 default xo)=some (.next,(sT w os).abs,c0,default):=rfl
theorem A7(w:World)(os:OsState): ∃s,topRun treeTable pr w 11 kA (12+(1+(1458+(1307+(1483+(1121+(219+(796+(1242+(261+2)))))))))) (sB w os) (topStub pr)=some s∧ok1 w s=true∧see @openSeen s=openGood qv ng∧yf s=ya w:=by
 obtain⟨s,h,e1⟩:=IE.mp (f1 w os);obtain⟨t,h',e2⟩:=IE.mp (f2 w os);obtain rfl:=IH (h.symm.trans h');obtain⟨t,h',e3⟩:=IE.mp (f3 w os);obtain rfl:=IH (h.symm.trans h');obtain⟨t,h',e4⟩:=IE.mp (f4 w os);obtain rfl:=IH (h.symm.trans h');refine⟨s,go_top (Bh w os) (piece_block (BA w os) ?_),e1,e2,Prod.ext e3 e4⟩;rw[AV];exact Kv (Kw (pc0 w os))<|Kv (Kw (pc1 w os))<|Kv (Kw (pc2 w os))<|Kv (Kw (pc3 w os))<|Kv (Kw (pc4 w os))<|Kv (Kw (pc5 w os))<|Kv (Kw (pc6 w os))<|Kv (Kw (pc7 w os))<|piece_nil h
theorem zM{p q:Program}{ls:List Str}{α:Type}{Yf:Shared→α}{Ya:World→α}{N m₀:Nat}{ann:Option Value}{w:World}{KP KH:Shared}(e:fencedOpening treeTable p w N=some KP)(z1:(KP.heap.isNs mainGlobals&&KP.gens.size==0)=true)(z2:KP.heap.objs.size=m₀)
 (z3:KP.heap.nsMap mainGlobals "__annotations__"=ann) (r:topRun treeTable p w m₀ ann N KP (topStub p)=some KH) (l1:(staticsOk (importedModules p.main.body) KP.heap KH.heap&&namesBound p KH.heap&&gensDone KH&&laidKept KP.heap KH.heap)=true)
 (l2:openSeen q ls (importedModules p.main.body) (fun u_=>true) true KH=openGood q ls) (l3:Yf KH=Ya w):(openEnds treeTable p w N).map (fun s=>(openSeen q ls (importedModules p.main.body) (fun u_=>true) true s,Yf s))=some (openGood q ls,Ya w):=by
 have t:topFrom treeTable p w N KP=some KH:=by
  unfold topFrom;rw[z1,z2,z3,r]
  show(match(staticsOk (importedModules p.main.body) KP.heap KH.heap&&namesBound p KH.heap&&gensDone KH&&laidKept KP.heap KH.heap)with|true=>some KH|false=>none)=some KH
  rw[l1]
 unfold openEnds;rw[e];show(topFrom treeTable p w N KP).map _=_;rw[t,←l2,←l3];rfl
theorem yJ(w:World): ∃os,fencedOpening treeTable pr w 8000=some (sB w os):=by
 obtain⟨⟨h,gs,d,k,os⟩,e,e'⟩:=IE.mp (boot_open (p:=pr) (N:=8000) ⋯ rfl (fun u_=>by kernel_rfl) w)
 obtain⟨rfl,rfl,rfl,rfl⟩:h=Kx w.params∧gs=Array.mk []∧d=boot_drawn∧k=boot_toks:=by simpa only[Prod.mk.injEq,Option.some.injEq]using e'
 exact⟨os,e⟩
theorem left:LeftO pr qv ng (fun u_=>true) yf ya 8000:=fun w=>by
 obtain⟨os,e⟩:=yJ w;obtain⟨s,h1,g1,g2,g3⟩:=A7 w os
 exact zM e ⋯ ⋯ ⋯ (topRun_mono 98 _ _ _ _ h1) g1 g2 g3
section
theorem ac:true=true:=rfl
theorem aA:false=false:=rfl
theorem Em{P:Nat→Prop}{k:Nat}(f: ∀i,i<k→P i)(a:P k)(i:Nat)(h:i<k+1):P i:=(Nat.lt_succ_iff_lt_or_eq.mp h).elim (f i) fun e=>e▸a
theorem uC{P:Nat→Prop}(a:P 0)(b:P 1)(c:P 2)(d:P 3): ∀i,i<4→P i:=Em (Em (Em (Em (fun u_ h=>absurd h (Ih _)) a) b) c) d
theorem qF{P:Nat→Prop}(a:P 0)(b:P 1)(c:P 2)(d:P 3)(e:P 4): ∀i,i<5→P i:=Em (uC a b c d) e
section
variable {a b c d m n i k f x y:Nat}
theorem bg(h:a≤m)(k:m.ble n=true):a≤n:=HX h (H9 k)
theorem fA(h:a≤m)(k:m.succ.ble n=true):a<n:=bg (Nat.succ_le_succ h) k
theorem Df(h:a<m)(k:m.ble n=true):a<n:=bg h k
theorem ER(h:a<m)(k:m.ble n.succ=true):a≤n:=Nat.le_of_succ_le_succ (bg h k)
theorem D4(h:a≤m)(k:(m+c).ble n=true):a+c≤n:=bg (Im h c) k
theorem FD(h:a≤m)(k:(m+c).succ.ble n=true):a+c<n:=D4 (c:=c+1) h k
theorem FK(h:a+1≤m)(k:m.ble n=true):a≤n:=bg (Nat.le_of_succ_le h) k
theorem Fi(h:a≤m)(k:m.ble n=true):a-c≤n:=HX (Nat.sub_le ..) (bg h k)
theorem dI(e:a=c)(h:c≤m)(k:m.ble n=true):a≤n:=bg (e▸h) k
theorem DP(e:a=c)(h:c≤m)(k:m.succ.ble n=true):a<n:=fA (e▸h) k
theorem zZ(e:a=c)(e':c=d)(h:d≤m)(k:m.ble n=true):a≤n:=dI (e.trans e') h k
theorem wq(h:a≤m)(k:m.ble n=true):min a b≤n:=HX (Iv ..) (bg h k)
theorem r_(h:a≤m)(k:m.succ.ble n=true):min a b<n:=H8 (Iv ..) (fA h k)
theorem Fn(e:a=c)(h:c≤m)(k:m.ble n=true):min a b≤n:=wq (e▸h) k
theorem EX(e:a=c)(h:c≤m)(k:m.succ.ble n=true):min a b<n:=r_ (e▸h) k
theorem mft(h:a<m):min a b<m:=H8 (Iv ..) h
theorem mq(e:a=c)(e':b=c):min a b=c:=by rw[e,e',Ik]
theorem Dx(e:b=c):min c b=c:=mq rfl e
theorem mqs(e:b=c):min b c=b:=mq rfl e.symm
theorem m3(e:a=c)(e':b=c):min b (min c a)=c:=mq e' (Dx e)
theorem lts(h:k<min a b):k<a:=H_ h (Iv ..)
theorem CX(h:i<n)(g:n≤m)(k:m.ble x=true):i<x:=H_ h (bg g k)
theorem EU(h:i+(m+1)=n):i<n:=h▸Iz (HZ m)
theorem Ej(h:i+(m+1)=n):i+1+m=n:=by rw[Nat.add_assoc,Io 1];exact h
theorem EN(h:n<k):n+(k-1-n)+1=k:=(congrArg (· +1) (Nat.add_sub_of_le (Nat.le_sub_one_of_lt h))).trans (Nat.sub_add_cancel (H8 (H' _) h))
theorem fu(h:m<f):f=f-1+1:=(Nat.sub_add_cancel (H8 (H' _) h)).symm
theorem FI(h:a+(d+1)<n):a+1+d<n:=by rwa [Nat.add_assoc,Io 1]
theorem rm0(h:a+(d+1)<n):a+d<n:=Iw h
theorem rmz(h:a+(d+1)<n):a<n:=H8 (H4 ..) h
theorem EP(h:a+8*(d+1)+220<n)(k:x≤a+8):x+8*d+220<n:=H8 (Im (HX (Im k (8*d)) (by rw[IA];exact HY _)) 220) h
theorem ru1(h:a+8*(d+1)+220<n):a+1+8*d+220<n:=EP h (Ii (by decide) a)
theorem rux(h:a+8*(d+1)+220<n):a+3+8*d+220<n:=EP h (Ii (by decide) a)
theorem ru0(h:a+8*(d+1)+220<n):a+8*d+220<n:=EP h (H4 ..)
theorem EC(h:a+(b+1)≤n):a+1+b≤n:=Ej (n:=a+(b+1)) rfl▸h
theorem jE(h: ¬i<n)(g:i<n+1):i=n:=Nat.le_antisymm (Nat.le_of_lt_succ g) (Nat.le_of_not_lt h)
theorem cN{a b:Nat}(h:(a:Int)=b):a=b:=Int.natCast_inj.mp h
theorem E6{a b:Nat}(h:((a:Int)==b)=true):a=b:=cN (GN h)
theorem cI{a b:Nat}(h:a=b):(a:Int)=b:=congrArg _ h
theorem n62(h:i<2^62): -(2^62:Int)≤(i:Int)∧(i:Int)<2^62:=by omega
theorem sj:((a+1:Nat):Int)-1=(a:Int):=Int.add_sub_cancel (a:Int) 1
end
section
variable {s t u a b c d:Int}{m n k:Nat}
theorem ib0(h: -(n:Int)≤s)(g:s≤n):s.natAbs≤n:=by omega
theorem qA(h:a≤s∧s≤b)(k:(decide (-(n:Int)≤a)&&decide (b≤n))=true):s.natAbs≤n:=
 have k:=Gi.mp k
 ib0 (Gy (of_decide_eq_true k.1) h.1) (Gy h.2 (of_decide_eq_true k.2))
theorem tbn(h:0≤s)(g:s≤b):s.natAbs≤b.toNat:=ib0 (Gy (Int.neg_nonpos_of_nonneg (Gx _)) h) (Gy g (Int.self_le_toNat b))
theorem iat(h:a≤s∧s<b)(k:(decide (-(n:Int)≤a)&&decide (b≤n))=true):s.natAbs≤n:=qA ⟨h.1,GE h.2⟩ k
theorem F5(h:a≤s)(g:s<b)(k:(decide (-(n:Int)≤a)&&decide (b≤n))=true):s.natAbs≤n:=iat ⟨h,g⟩ k
theorem iad(h:a<s)(g:s≤b)(k:(decide (-(n:Int)≤a)&&decide (b≤n))=true):s.natAbs≤n:=qA ⟨GE h,g⟩ k
theorem yt(h:a≤s∧s≤b)(k:(decide (c≤a)&&decide (b≤d))=true):c≤s∧s≤d:=
 have k:=Gi.mp k
 ⟨Gy (of_decide_eq_true k.1) h.1,Gy h.2 (of_decide_eq_true k.2)⟩
theorem iil(h:a≤s∧s≤b)(k:decide (c≤a)=true):c≤s:=Gy (of_decide_eq_true k) h.1
theorem ilc(h:a≤s)(k:decide (c≤a)=true):c≤s:=Gy (of_decide_eq_true k) h
theorem iba(h:a≤s∧s≤b)(k:(decide (c≤a+1)&&decide (b+1≤d))=true):c≤s+1∧s+1≤d:=
 have k:=Gi.mp k
 ⟨Gy (of_decide_eq_true k.1) (GF h.1 1),Gy (GF h.2 1) (of_decide_eq_true k.2)⟩
theorem nec(e:s=t)(k:t.natAbs.ble n=true):s.natAbs≤n:=e▸H9 k
theorem E8(h:s.natAbs≤m)(k:m.ble n=true):(-s).natAbs≤n:=by rw[Int.natAbs_neg];exact bg h k
theorem zw(h:s.natAbs≤m)(g:t.natAbs≤k)(w:(m+k).ble n=true):(s+t).natAbs≤n:=bg (HX (Int.natAbs_add_le ..) (Nat.add_le_add h g)) w
theorem Cn(h:s.natAbs≤m)(g:t.natAbs≤k)(w:(m+k).ble n=true):(s-t).natAbs≤n:=by rw[Int.sub_eq_add_neg];exact zw h (by rw[Int.natAbs_neg];exact g) w
theorem eK(h:s.natAbs≤m)(w:(m+1).ble n=true):(s-1).natAbs≤n:=Cn h (HY 1) w
end
section
variable {a b c d m n i k f x y:Nat}
theorem lSn(e:a=n+1):n<a:=e▸H0 n
theorem lSp(e:a=n+1):n=a-1:=e▸rfl
theorem rt1(e:n-i=k+1):n-(i+1)=k:=by rw[Nat.sub_add_eq,e];rfl
theorem rt0(h:i<n):n-i=n-i-1+1:=fu (Nat.sub_pos_of_lt h)
theorem rt2(e:n-(i+1)=k):k=n-1-i:=e.symm.trans (by rw[Io];exact Nat.sub_add_eq ..)
theorem lmm(e:b=a)(h:i<b):i<min a b:=by rw[e,Ik];exact e▸h
theorem Fs(h:i<a)(e:((b:Int)==a)=true):i<b:=E6 e▸h
theorem ltr(h:i<b)(e:((b:Int)==a)=true):i<a:=E6 e▸h
theorem cmx(h:a+n<c)(g:k<n):a+1+k<c:=H8 (by rw[Nat.add_assoc,Io 1];exact Ii g a) h
theorem ady(h:a<b):a<b+c:=H_ h (H4 ..)
theorem l8(h:i<n)(g:n≤m)(e:a=i)(k:m.ble x=true):a≤x:=e▸Ib (CX h g k)
theorem l9(h:i<m)(e:a=i)(k:m.ble x=true):a≤x:=e▸Ib (Df h k)
theorem asl(h:a+m≤n):a≤n:=HX (H4 ..) h
theorem ne0(h:a+b≤a):b=0:=Nat.le_zero.mp (Nat.le_of_add_le_add_left h)
theorem dp(h:a+8*d+220<n)(k:m.ble 220=true):a+m<n:=H8 (HX (Ii (H9 k) a) (Im (H4 a (8*d)) 220)) h
theorem bry(g:x≤a+4)(h:a+8*(d+1)+220<n):x+1+3+8*d+220<n:=EP h (Im g 4)
theorem mac:m+1+k+1=m+k+1+1:=congrArg (· +1) (IA m 1 k)
theorem z1k:0+k+1=k+1:=congrArg (· +1) (Ix k)
theorem jlt{s:Int}{l:Nat}(h:a<l)(g:l≤m)(k:decide ((m:Int)≤s)=true):(a:Int)<s:=GD (GB.mpr (H_ h g)) (of_decide_eq_true k)
theorem jm{s:Int}(k:decide (s≤0)=true):s≤(a:Int):=Gy (of_decide_eq_true k) (Gx a)
theorem j0(h:i<n):0≤(i:Int)∧(i:Int).toNat<n:=⟨Gx i,h⟩
theorem DQ(h:1≤a):(a:Int)-1=((a-1:Nat):Int):=(Int.ofNat_sub h).symm
theorem scs{a:Int}:a+(i:Int)+1=a+((i+1:Nat):Int):=Int.add_assoc ..
theorem sct{b:Int}:b-(i:Int)-1=b-((i+1:Nat):Int):=Int.sub_sub b i 1
theorem tn0(h: ¬(1:Int)<((a+1:Nat):Int)):Int.toNat 0=a:=(Nat.le_zero.mp (Nat.le_of_succ_le_succ (GC.mp (Gz.mp h)))).symm
theorem mi1:min (1:Int) ((a:Int)+1)=1:=Int.min_eq_left (Int.le_add_of_nonneg_left (Gx a))
theorem leq{m:Int}(e:(b:Int)=m)(g:(a:Int)<m):a<b:=GB.mp (e▸g)
end
section
variable {s t u a b c d:Int}{m n k:Nat}
theorem ain{p:Prop}(h:a≤s∧(s<b∧p))(k:decide (c≤a)=true):c≤s:=Gy (of_decide_eq_true k) h.1
theorem aiu{p:Prop}(h:a≤s∧(s<b∧p))(k:decide (b≤c)=true):s<c:=GD h.2.1 (of_decide_eq_true k)
theorem ibt(h:a≤s∧s<b)(k:(decide (c≤a)&&decide (b≤d))=true):c≤s∧s<d:=
 have k:=Gi.mp k
 ⟨Gy (of_decide_eq_true k.1) h.1,GD h.2 (of_decide_eq_true k.2)⟩
theorem Fa(h:0≤s∧s≤b)(g:t.natAbs≤k)(w:(b.toNat+k).ble n=true):(s+t).natAbs≤n:=zw (tbn h.1 h.2) g w
theorem nA1(h:1≤s∧s≤b)(w:(b.toNat+1).ble n=true):(s+1).natAbs≤n:=zw (tbn (Gy (by decide) h.1) h.2) (HY 1) w
theorem xne(h:1≤s)(e:s=0):False:=by rw[e]at h;exact absurd h (by decide)
theorem npn(h:0<s): ¬s=0:=Int.ne_of_gt h
theorem C7:s+0+0=s:=by rw[Int.add_zero,Int.add_zero]
theorem bts(h:s.natAbs<k)(w:decide ((k:Int)≤t)=true):s<t:=GD (GG Int.le_natAbs (GB.mpr h)) (of_decide_eq_true w)
theorem btn(h:s.natAbs<k)(w:decide (t≤ -(k:Int))=true):t<s:=GG (of_decide_eq_true w) (Int.neg_lt_of_neg_lt (bts (s:= -s) (k:=k) (by rw[Int.natAbs_neg];exact h) (decide_eq_true (Int.le_refl _))))
theorem tz(h:s≤0):s.toNat=0:=Int.toNat_eq_zero.mpr h
theorem il4{y:Int}(h: ¬y=5)(g:y<6):y≤4:=GH (GI.mpr ⟨GH g,h⟩)
theorem l1y(h:0≤s): -1-s<0:=Int.sub_neg_of_lt (GD (by decide) h)
theorem nlm(h:s.natAbs≤m)(w:decide ((m:Int)≤t)=true):s≤t:=Gy Int.le_natAbs (Gy (GC.mpr h) (of_decide_eq_true w))
theorem lnz(h:0≤s+(m:Int)): -(m:Int)≤s:=by omega
end
end
section
theorem oA{p0:Prop}{p1:Prop}{G:Prop}(h:p0∧p1)(k:p0→p1→G):G:=h.elim fun y1 h=>k y1 h
theorem oE{KN:Sort _}{p0:KN→Prop}{G:Prop}(h: ∃x0,p0 x0)(k: ∀x0,p0 x0→G):G:=h.elim fun x0 h=>k x0 h
theorem mX{p0:Prop}{p1:Prop}{p2:Prop}{G:Prop}(h:p0∧p1∧p2)(k:p0→p1→p2→G):G:=h.elim fun y1 h=>h.elim fun y2 h=>k y1 y2 h
theorem aL{KN:Sort _}{p0:KN→Prop}{p1:KN→Prop}{G:Prop}(h: ∃x0,p0 x0∧p1 x0)(k: ∀x0,p0 x0→p1 x0→G):G:=h.elim fun x0 h=>h.elim fun y1 h=>k x0 y1 h
theorem rh{KN KQ:Sort _}{p0:KN→KQ→Prop}{G:Prop}(h: ∃x0,∃x1,p0 x0 x1)(k: ∀x0,∀x1,p0 x0 x1→G):G:=h.elim fun x0 h=>h.elim fun x1 h=>k x0 x1 h
theorem uq{p0:Prop}{p1:Prop}{p2:Prop}{p3:Prop}{G:Prop}(h:p0∧p1∧p2∧p3)(k:p0→p1→p2→p3→G):G:=h.elim fun y1 h=>h.elim fun y2 h=>h.elim fun y3 h=>k y1 y2 y3 h
theorem Dc{KN:Sort _}{p0:Prop}{p1:KN→Prop}{p2:KN→Prop}{G:Prop}(h:p0∧(∃x0,p1 x0∧p2 x0))(k:p0→ ∀x0,p1 x0→p2 x0→G):G:=h.elim fun y1 h=>h.elim fun x0 h=>h.elim fun y2 h=>k y1 x0 y2 h
theorem bW{KN:Sort _}{p0:KN→Prop}{p1:KN→Prop}{p2:KN→Prop}{G:Prop}(h: ∃x0,p0 x0∧p1 x0∧p2 x0)(k: ∀x0,p0 x0→p1 x0→p2 x0→G):G:=h.elim fun x0 h=>h.elim fun y1 h=>h.elim fun y2 h=>k x0 y1 y2 h
theorem bc{KN KQ:Sort _}{p0:KN→KQ→Prop}{p1:KN→KQ→Prop}{G:Prop}(h: ∃x0,∃x1,p0 x0 x1∧p1 x0 x1)(k: ∀x0,∀x1,p0 x0 x1→p1 x0 x1→G):G:=h.elim fun x0 h=>h.elim fun x1 h=>h.elim fun y1 h=>k x0 x1 y1 h
theorem C1{KN KQ KW:Sort _}{p0:KN→KQ→KW→Prop}{G:Prop}(h: ∃x0,∃x1,∃x2,p0 x0 x1 x2)(k: ∀x0,∀x1,∀x2,p0 x0 x1 x2→G):G:=h.elim fun x0 h=>h.elim fun x1 h=>h.elim fun x2 h=>k x0 x1 x2 h
theorem Ex{p0:Prop}{p1:Prop}{p2:Prop}{p3:Prop}{p4:Prop}{G:Prop}(h:p0∧p1∧p2∧p3∧p4)(k:p0→p1→p2→p3→p4→G):G:=h.elim fun y1 h=>h.elim fun y2 h=>h.elim fun y3 h=>h.elim fun y4 h=>k y1 y2 y3 y4 h
theorem nB{KN:Sort _}{p0:KN→Prop}{p1:KN→Prop}{p2:KN→Prop}{p3:KN→Prop}{G:Prop}(h: ∃x0,p0 x0∧p1 x0∧p2 x0∧p3 x0)(k: ∀x0,p0 x0→p1 x0→p2 x0→p3 x0→G):G:=h.elim fun x0 h=>h.elim fun y1 h=>h.elim fun y2 h=>h.elim fun y3 h=>k x0 y1 y2 y3 h
theorem CB{KN KQ:Sort _}{p0:KN→Prop}{p1:KN→KQ→Prop}{p2:KN→KQ→Prop}{G:Prop}(h: ∃x0,p0 x0∧(∃x1,p1 x0 x1∧p2 x0 x1))(k: ∀x0,p0 x0→ ∀x1,p1 x0 x1→p2 x0 x1→G):G:=h.elim fun x0 h=>h.elim fun y1 h=>h.elim fun x1 h=>h.elim fun y2 h=>k x0 y1 x1 y2 h
theorem dC{KN KQ:Sort _}{p0:KN→KQ→Prop}{p1:KN→KQ→Prop}{p2:KN→KQ→Prop}{G:Prop}(h: ∃x0,∃x1,p0 x0 x1∧p1 x0 x1∧p2 x0 x1)(k: ∀x0,∀x1,p0 x0 x1→p1 x0 x1→p2 x0 x1→G):G:=h.elim fun x0 h=>h.elim fun x1 h=>h.elim fun y1 h=>h.elim fun y2 h=>k x0 x1 y1 y2 h
theorem lG{KN KQ KW:Sort _}{p0:KN→KQ→KW→Prop}{p1:KN→KQ→KW→Prop}{G:Prop}(h: ∃x0,∃x1,∃x2,p0 x0 x1 x2∧p1 x0 x1 x2)(k: ∀x0,∀x1,∀x2,p0 x0 x1 x2→p1 x0 x1 x2→G):G:=h.elim fun x0 h=>h.elim fun x1 h=>h.elim fun x2 h=>h.elim fun y1 h=>k x0 x1 x2 y1 h
theorem BF{KN KQ:Sort _}{p0:Prop}{p1:Prop}{p2:KN→KQ→Prop}{p3:KN→KQ→Prop}{G:Prop}(h:p0∧p1∧(∃x0,∃x1,p2 x0 x1∧p3 x0 x1))(k:p0→p1→ ∀x0,∀x1,p2 x0 x1→p3 x0 x1→G):G:=h.elim fun y1 h=>h.elim fun y2 h=>h.elim fun x0 h=>h.elim fun x1 h=>h.elim fun y3 h=>k y1 y2 x0 x1 y3 h
theorem lh{KN KQ:Sort _}{p0:Prop}{p1:KN→KQ→Prop}{p2:KN→KQ→Prop}{p3:KN→KQ→Prop}{G:Prop}(h:p0∧(∃x0,∃x1,p1 x0 x1∧p2 x0 x1∧p3 x0 x1))(k:p0→ ∀x0,∀x1,p1 x0 x1→p2 x0 x1→p3 x0 x1→G):G:=h.elim fun y1 h=>h.elim fun x0 h=>h.elim fun x1 h=>h.elim fun y2 h=>h.elim fun y3 h=>k y1 x0 x1 y2 y3 h
theorem bU{KN KQ:Sort _}{p0:KN→KQ→Prop}{p1:KN→KQ→Prop}{p2:KN→KQ→Prop}{p3:KN→KQ→Prop}{G:Prop}(h: ∃x0,∃x1,p0 x0 x1∧p1 x0 x1∧p2 x0 x1∧p3 x0 x1)(k: ∀x0,∀x1,p0 x0 x1→p1 x0 x1→p2 x0 x1→p3 x0 x1→G):G:=h.elim fun x0 h=>h.elim fun x1 h=>h.elim fun y1 h=>h.elim fun y2 h=>h.elim fun y3 h=>k x0 x1 y1 y2 y3 h
theorem iJ{KN KQ KW:Sort _}{p0:KN→KQ→KW→Prop}{p1:KN→KQ→KW→Prop}{p2:KN→KQ→KW→Prop}{G:Prop}(h: ∃x0,∃x1,∃x2,p0 x0 x1 x2∧p1 x0 x1 x2∧p2 x0 x1 x2)(k: ∀x0,∀x1,∀x2,p0 x0 x1 x2→p1 x0 x1 x2→p2 x0 x1 x2→G):G:=h.elim fun x0 h=>h.elim fun x1 h=>h.elim fun x2 h=>h.elim fun y1 h=>h.elim fun y2 h=>k x0 x1 x2 y1 y2 h
theorem i4{KN KQ KW:Sort _}{p0:KN→KQ→KW→Prop}{p1:KN→KQ→KW→Prop}{p2:KN→KQ→KW→Prop}{p3:KN→KQ→KW→Prop}{G:Prop}(h: ∃x0,∃x1,∃x2,p0 x0 x1 x2∧p1 x0 x1 x2∧p2 x0 x1 x2∧p3 x0 x1 x2)(k: ∀x0,∀x1,∀x2,p0 x0 x1 x2→p1 x0 x1 x2→p2 x0 x1 x2→p3 x0 x1 x2→G):G:=h.elim fun x0 h=>h.elim fun x1 h=>h.elim fun x2 h=>h.elim fun y1 h=>h.elim fun y2 h=>h.elim fun y3 h=>k x0 x1 x2 y1 y2 y3 h
theorem bN{KN KQ KW K7:Sort _}{p0:KN→KQ→KW→K7→Prop}{p1:KN→KQ→KW→K7→Prop}{p2:KN→KQ→KW→K7→Prop}{G:Prop}(h: ∃x0,∃x1,∃x2,∃x3,p0 x0 x1 x2 x3∧p1 x0 x1 x2 x3∧p2 x0 x1 x2 x3)(k: ∀x0,∀x1,∀x2,∀x3,p0 x0 x1 x2 x3→p1 x0 x1 x2 x3→p2 x0 x1 x2 x3→G):G:=h.elim fun x0 h=>h.elim fun x1 h=>h.elim fun x2 h=>h.elim fun x3 h=>h.elim fun y1 h=>h.elim fun y2 h=>k x0 x1 x2 x3 y1 y2 h
theorem gc{KN KQ KW K7 Lc:Sort _}{p0:KN→KQ→KW→K7→Lc→Prop}{p1:KN→KQ→KW→K7→Lc→Prop}{G:Prop}(h: ∃x0,∃x1,∃x2,∃x3,∃x4,p0 x0 x1 x2 x3 x4∧p1 x0 x1 x2 x3 x4)(k: ∀x0,∀x1,∀x2,∀x3,∀x4,p0 x0 x1 x2 x3 x4→p1 x0 x1 x2 x3 x4→G):G:=h.elim fun x0 h=>h.elim fun x1 h=>h.elim fun x2 h=>h.elim fun x3 h=>h.elim fun x4 h=>h.elim fun y1 h=>k x0 x1 x2 x3 x4 y1 h
theorem k_{KN KQ:Sort _}{p0:Prop}{p1:KN→KQ→Prop}{p2:KN→KQ→Prop}{p3:KN→KQ→Prop}{p4:KN→KQ→Prop}{p5:KN→KQ→Prop}{G:Prop}(h:p0∧(∃x0,∃x1,p1 x0 x1∧p2 x0 x1∧p3 x0 x1∧p4 x0 x1∧p5 x0 x1))(k:p0→ ∀x0,∀x1,p1 x0 x1→p2 x0 x1→p3 x0 x1→p4 x0 x1→p5 x0 x1→G):G:=h.elim fun y1 h=>h.elim fun x0 h=>h.elim fun x1 h=>h.elim fun y2 h=>h.elim fun y3 h=>h.elim fun y4 h=>h.elim fun y5 h=>k y1 x0 x1 y2 y3 y4 y5 h
theorem cC{KN KQ KW K7:Sort _}{p0:KN→KQ→KW→K7→Prop}{p1:KN→KQ→KW→K7→Prop}{p2:KN→KQ→KW→K7→Prop}{p3:KN→KQ→KW→K7→Prop}{G:Prop}(h: ∃x0,∃x1,∃x2,∃x3,p0 x0 x1 x2 x3∧p1 x0 x1 x2 x3∧p2 x0 x1 x2 x3∧p3 x0 x1 x2 x3)(k: ∀x0,∀x1,∀x2,∀x3,p0 x0 x1 x2 x3→p1 x0 x1 x2 x3→p2 x0 x1 x2 x3→p3 x0 x1 x2 x3→G):G:=h.elim fun x0 h=>h.elim fun x1 h=>h.elim fun x2 h=>h.elim fun x3 h=>h.elim fun y1 h=>h.elim fun y2 h=>h.elim fun y3 h=>k x0 x1 x2 x3 y1 y2 y3 h
theorem qz{KN KQ KW K7 Lc:Sort _}{p0:KN→KQ→KW→K7→Lc→Prop}{p1:KN→KQ→KW→K7→Lc→Prop}{p2:KN→KQ→KW→K7→Lc→Prop}{G:Prop}(h: ∃x0,∃x1,∃x2,∃x3,∃x4,p0 x0 x1 x2 x3 x4∧p1 x0 x1 x2 x3 x4∧p2 x0 x1 x2 x3 x4)(k: ∀x0,∀x1,∀x2,∀x3,∀x4,p0 x0 x1 x2 x3 x4→p1 x0 x1 x2 x3 x4→p2 x0 x1 x2 x3 x4→G):G:=h.elim fun x0 h=>h.elim fun x1 h=>h.elim fun x2 h=>h.elim fun x3 h=>h.elim fun x4 h=>h.elim fun y1 h=>h.elim fun y2 h=>k x0 x1 x2 x3 x4 y1 y2 h
theorem fM{KN KQ KW K7 Lc LA:Sort _}{p0:KN→KQ→KW→K7→Lc→LA→Prop}{p1:KN→KQ→KW→K7→Lc→LA→Prop}{G:Prop}(h: ∃x0,∃x1,∃x2,∃x3,∃x4,∃x5,p0 x0 x1 x2 x3 x4 x5∧p1 x0 x1 x2 x3 x4 x5)(k: ∀x0,∀x1,∀x2,∀x3,∀x4,∀x5,p0 x0 x1 x2 x3 x4 x5→p1 x0 x1 x2 x3 x4 x5→G):G:=h.elim fun x0 h=>h.elim fun x1 h=>h.elim fun x2 h=>h.elim fun x3 h=>h.elim fun x4 h=>h.elim fun x5 h=>h.elim fun y1 h=>k x0 x1 x2 x3 x4 x5 y1 h
theorem fB{KN KQ KW K7 Lc:Sort _}{p0:KN→KQ→KW→K7→Lc→Prop}{p1:KN→KQ→KW→K7→Lc→Prop}{p2:KN→KQ→KW→K7→Lc→Prop}{p3:KN→KQ→KW→K7→Lc→Prop}{G:Prop}(h: ∃x0,∃x1,∃x2,∃x3,∃x4,p0 x0 x1 x2 x3 x4∧p1 x0 x1 x2 x3 x4∧p2 x0 x1 x2 x3 x4∧p3 x0 x1 x2 x3 x4)(k: ∀x0,∀x1,∀x2,∀x3,∀x4,p0 x0 x1 x2 x3 x4→p1 x0 x1 x2 x3 x4→p2 x0 x1 x2 x3 x4→p3 x0 x1 x2 x3 x4→G):G:=h.elim fun x0 h=>h.elim fun x1 h=>h.elim fun x2 h=>h.elim fun x3 h=>h.elim fun x4 h=>h.elim fun y1 h=>h.elim fun y2 h=>h.elim fun y3 h=>k x0 x1 x2 x3 x4 y1 y2 y3 h
theorem jy{KN KQ KW K7 Lc LA:Sort _}{p0:KN→KQ→KW→K7→Lc→LA→Prop}{p1:KN→KQ→KW→K7→Lc→LA→Prop}{p2:KN→KQ→KW→K7→Lc→LA→Prop}{G:Prop}(h: ∃x0,∃x1,∃x2,∃x3,∃x4,∃x5,p0 x0 x1 x2 x3 x4 x5∧p1 x0 x1 x2 x3 x4 x5∧p2 x0 x1 x2 x3 x4 x5)(k: ∀x0,∀x1,∀x2,∀x3,∀x4,∀x5,p0 x0 x1 x2 x3 x4 x5→p1 x0 x1 x2 x3 x4 x5→p2 x0 x1 x2 x3 x4 x5→G):G:=h.elim fun x0 h=>h.elim fun x1 h=>h.elim fun x2 h=>h.elim fun x3 h=>h.elim fun x4 h=>h.elim fun x5 h=>h.elim fun y1 h=>h.elim fun y2 h=>k x0 x1 x2 x3 x4 x5 y1 y2 h
theorem fV{KN KQ KW:Sort _}{p0:KN→KQ→KW→Prop}{p1:KN→KQ→KW→Prop}{p2:KN→KQ→KW→Prop}{p3:KN→KQ→KW→Prop}{p4:KN→KQ→KW→Prop}{p5:KN→KQ→KW→Prop}{p6:KN→KQ→KW→Prop}{G:Prop}(h: ∃x0,∃x1,∃x2,p0 x0 x1 x2∧p1 x0 x1 x2∧p2 x0 x1 x2∧p3 x0 x1 x2∧p4 x0 x1 x2∧p5 x0 x1 x2∧p6 x0 x1 x2)(k: ∀x0,∀x1,∀x2,p0 x0 x1 x2→p1 x0 x1 x2→p2 x0 x1 x2→p3 x0 x1 x2→p4 x0 x1 x2→p5 x0 x1 x2→p6 x0 x1 x2→G):G:=h.elim fun x0 h=>h.elim fun x1 h=>h.elim fun x2 h=>h.elim fun y1 h=>h.elim fun y2 h=>h.elim fun y3 h=>h.elim fun y4 h=>h.elim fun y5 h=>h.elim fun y6 h=>k x0 x1 x2 y1 y2 y3 y4 y5 y6 h
theorem md{KN KQ KW K7 Lc:Sort _}{p0:KN→KQ→KW→K7→Lc→Prop}{p1:KN→KQ→KW→K7→Lc→Prop}{p2:KN→KQ→KW→K7→Lc→Prop}{p3:KN→KQ→KW→K7→Lc→Prop}{p4:KN→KQ→KW→K7→Lc→Prop}{G:Prop}(h: ∃x0,∃x1,∃x2,∃x3,∃x4,p0 x0 x1 x2 x3 x4∧p1 x0 x1 x2 x3 x4∧p2 x0 x1 x2 x3 x4∧p3 x0 x1 x2 x3 x4∧p4 x0 x1 x2 x3 x4)(k: ∀x0,∀x1,∀x2,∀x3,∀x4,p0 x0 x1 x2 x3 x4→p1 x0 x1 x2 x3 x4→p2 x0 x1 x2 x3 x4→p3 x0 x1 x2 x3 x4→p4 x0 x1 x2 x3 x4→G):G:=h.elim fun x0 h=>h.elim fun x1 h=>h.elim fun x2 h=>h.elim fun x3 h=>h.elim fun x4 h=>h.elim fun y1 h=>h.elim fun y2 h=>h.elim fun y3 h=>h.elim fun y4 h=>k x0 x1 x2 x3 x4 y1 y2 y3 y4 h
theorem fR{KN KQ KW K7 Lc LA:Sort _}{p0:KN→KQ→KW→K7→Lc→LA→Prop}{p1:KN→KQ→KW→K7→Lc→LA→Prop}{p2:KN→KQ→KW→K7→Lc→LA→Prop}{p3:KN→KQ→KW→K7→Lc→LA→Prop}{G:Prop}(h: ∃x0,∃x1,∃x2,∃x3,∃x4,∃x5,p0 x0 x1 x2 x3 x4 x5∧p1 x0 x1 x2 x3 x4 x5∧p2 x0 x1 x2 x3 x4 x5∧p3 x0 x1 x2 x3 x4 x5)(k: ∀x0,∀x1,∀x2,∀x3,∀x4,∀x5,p0 x0 x1 x2 x3 x4 x5→p1 x0 x1 x2 x3 x4 x5→p2 x0 x1 x2 x3 x4 x5→p3 x0 x1 x2 x3 x4 x5→G):G:=h.elim fun x0 h=>h.elim fun x1 h=>h.elim fun x2 h=>h.elim fun x3 h=>h.elim fun x4 h=>h.elim fun x5 h=>h.elim fun y1 h=>h.elim fun y2 h=>h.elim fun y3 h=>k x0 x1 x2 x3 x4 x5 y1 y2 y3 h
theorem bV{M:Model}{A:Around}{s:Shared}{α:Type}{p:Prop}[Decidable p]{a b:Sem α}{Q:α→Shared→Prop}{E:Value→Shared→Prop}(h: ¬p)(k:II M A b Q E s):II M A (if p then a else b) Q E s:=by rw[if_neg h];exact k
theorem cV{M:Model}{A:Around}{s:Shared}{α:Type}{p:Prop}[Decidable p]{a b:Sem α}{Q:α→Shared→Prop}{E:Value→Shared→Prop}(h:p)(k:II M A a Q E s):II M A (if p then a else b) Q E s:=by rw[if_pos h];exact k
theorem Ab{α:Type}{p:Prop}[Decidable p]{a b c:α}(h: ¬p)(k:b=c):(if p then a else b)=c:=(if_neg h).trans k
theorem dP{α:Type}{p:Prop}[Decidable p]{a b c:α}(h:p)(k:a=c):(if p then a else b)=c:=(if_pos h).trans k
theorem rD{α β:Type}{a b:α}{s t:β}{P:Prop}(e:(a,s)=(b,t))(k:a=b→s=t→P):P:=by cases e;exact k rfl rfl
inductive V where
 |val (v:Value)
 |int (i:Int)
 |str (s:Str)
 |tup (l:List V)
 |lst (k:Nat)
 |inst (C:Addr) (k:Nat)
 |rng (a b d:Int)
 deriving Inhabited
inductive aa where
 |lst (l:List V)
 |dct (fs:List (Str×V))
 |ro (l:List V) (vs:List Value) (n:Nat)
 deriving Inhabited
noncomputable abbrev Sg:=List aa
set_option genInjectivity false in
structure Pl where
 r:List Addr
 p:List Addr
noncomputable def Pl.free(ρ:Pl)(a:Addr):Prop:=a∉ρ.r∧a∉ρ.p
noncomputable abbrev ao(vs:List Value)(n:Nat):Obj:={cls:= .type "tuple",data:= .seq vs.toArray n}
noncomputable abbrev aB(vs:List Value)(n:Nat):Obj:={cls:= .type "list",data:= .seq vs.toArray n}
mutual
inductive R(h:Heap)(ρ:Pl):V→Value→Prop
 |val {v:Value}:R h ρ (.val v) v
 |int {i:Int} {t:Tok}:R h ρ (.int i) (.int i t)
 |str {s:Str} {t:Tok}:R h ρ (.str s) (.str s t)
 |tup {l:List V} {a:Addr} {vs:List Value} {n:Nat}:h.get? a=some (ao vs n)→ρ.free a→Rs h ρ l vs→R h ρ (.tup l) (.ref a)
 |lst {k:Nat} {a:Addr}:ρ.r[k]? =some a→R h ρ (.lst k) (.ref a)
 |inst {C a dx:Addr} {k:Nat}:h.get? a=some (instObj C dx)→ρ.free a→ρ.r[k]? =some dx→R h ρ (.inst C k) (.ref a)
 |rng {a b d:Int} {r:Addr} {t u v:Tok}:IsRange h r a b d t u v→ρ.free r→R h ρ (.rng a b d) (.ref r)
inductive Rs(h:Heap)(ρ:Pl):List V→List Value→Prop
 |nil:Rs h ρ [] []
 |cons {x:V} {v:Value} {l:List V} {vs:List Value}:R h ρ x v→Rs h ρ l vs→Rs h ρ (x::l) (v::vs)
end
theorem no{α:Type}{b:α}{P:Prop}(e:(none:Option α)=some b):P:=nomatch e
theorem DU{α:Type}{b:α}{P:Prop}(e:some b=(none:Option α)):P:=nomatch e
theorem dw{G:Prop}(h: ¬G→False):G:=Gs h
theorem iz{α:Type}{c:Prop}[Decidable c]{x:Option α}{o:α}(e:(if c then x else none)=some o):c∧x=some o:=by
 by_cases h:c
 ·rw[if_pos h]at e;exact⟨h,e⟩
 ·rw[if_neg h]at e;exact no e
theorem sN{α:Type}{c:Prop}[Decidable c]{x:Option α}{o:α}(e:(if c then none else x)=some o): ¬c∧x=some o:=by
 by_cases h:c
 ·rw[if_pos h]at e;exact no e
 ·rw[if_neg h]at e;exact⟨h,e⟩
theorem Al{α:Type}{a b:α}(e:some a=some b):b=a:=by obtain rfl:=IH e;rfl
theorem aN{α β:Type}{x:Option α}{f:α→β}{b:β}{P:Prop}(e:x.map f=some b)(h: ∀a,x=some a→f a=b→P):P:=by
 cases x with
 |none=>exact no e
 |some a=>exact h a rfl (IH e)
theorem ae{α β:Type}{x:Option α}{f:α→Option β}{b:β}{P:Prop}(e:x.bind f=some b)(h: ∀a,x=some a→f a=some b→P):P:=by
 cases x with
 |none=>exact no e
 |some a=>exact h a rfl e
theorem bI{α:Type}{p:Prop}[Decidable p]{x:Option α}{b:α}{P:Prop}(e:(if p then x else none)=some b)(h:p→x=some b→P):P:=by
 by_cases q:p
 ·rw[if_pos q]at e;exact h q e
 ·rw[if_neg q]at e;exact no e
theorem im{α β:Type}{o:Option α}{a:Option β}{f:α→Option β}{b:β}{P:Prop}(e:o.elim a f=some b)(n:o=none→a=some b→P)(k: ∀x,o=some x→f x=some b→P):P:=by
 cases o with
 |none=>exact n rfl e
 |some x=>exact k x rfl e
theorem nc{α:Type}{a:α}{l:List α}{P:Prop}(e:a::l=[]):P:=nomatch e
theorem Cv{α:Type}{a:α}{l:List α}{P:Prop}(e:[]=a::l):P:=nomatch e
theorem Cp{P:Prop}(e:true=false):P:=nomatch e
theorem bM{P:Prop}(e:false=true):P:=nomatch e
theorem eZ{α:Type}{p:Prop}[Decidable p]{x y:Option α}{b:α}{P:Prop}(e:(if p then x else y)=some b)(h:p→x=some b→P)(k: ¬p→y=some b→P):P:=by
 by_cases q:p
 ·rw[if_pos q]at e;exact h q e
 ·rw[if_neg q]at e;exact k q e
theorem dA{α:Type}{p:α→Prop}{a:α}(h:p a): ∀x∈[a],p x:=fun x m=>GR.mp m▸h
theorem aj{α:Type}{p:α→Prop}{a:α}{l:List α}(h:p a)(k: ∀x∈l,p x): ∀x∈a::l,p x:=fun x m=>(GY.mp m).elim (fun e=>e▸h) (k x)
theorem bZ{α:Type}{p:α→Prop}: ∀x∈([]:List α),p x:=fun u_ m=>nomatch m
theorem pO{α:Type}{p:Prop}[Decidable p]{f:p→Option α}{b:α}{P:Prop}(e:(if h:p then f h else none)=some b)(k: ∀h,f h=some b→P):P:=by
 by_cases q:p
 ·rw[dif_pos q]at e;exact k q e
 ·rw[dif_neg q]at e;exact no e
noncomputable def cY(x:V):Option Int:=if h:x.ctorIdx=1 then some (@V.int.elim (fun u_=>Int) x h fun a=>a)else none
noncomputable def gJ(x:V):Option Nat:=if h:x.ctorIdx=4 then some (@V.lst.elim (fun u_=>Nat) x h fun a=>a)else none
noncomputable def eN(x:V):Option (List V):=if h:x.ctorIdx=3 then some (@V.tup.elim (fun u_=>List V) x h fun a=>a)else none
noncomputable def Cf(x:V):Option Str:=if h:x.ctorIdx=2 then some (@V.str.elim (fun u_=>Str) x h fun a=>a)else none
noncomputable def kB(x:V):Option Value:=if h:x.ctorIdx=0 then some (@V.val.elim (fun u_=>Value) x h fun a=>a)else none
noncomputable def nv(x:Value):Option Bool:=if h:x.ctorIdx=3 then some (@Value.bool.elim (fun u_=>Bool) x h fun a=>a)else none
noncomputable def lZ(x:Value):Bool:=x.ctorIdx.beq 0
theorem b_{x:V}{i:Int}(e:cY x=some i):x= .int i:=pO e fun h u_=> @V.int.elim (fun x=>cY x=some i→x= .int i) x h (fun u_ e=>congrArg _ (IH e)) e
theorem gj{x:V}{i:Nat}(e:gJ x=some i):x= .lst i:=pO e fun h u_=> @V.lst.elim (fun x=>gJ x=some i→x= .lst i) x h (fun u_ e=>congrArg _ (IH e)) e
noncomputable def FQ(x:V):Option (Int×Int×Int):=if h:x.ctorIdx=6 then some (@V.rng.elim (fun u_=>Int×Int×Int) x h fun a b d=>(a,b,d))else none
noncomputable def DC(x:V):Option {p:Addr×Nat//x= .inst p.1 p.2}:=if h:x.ctorIdx=5 then some (@V.inst.elim (fun x=>{p:Addr×Nat//x= .inst p.1 p.2}) x h fun a k=>⟨(a,k),rfl⟩)else none
theorem eA{x:V}{i:List V}(e:eN x=some i):x= .tup i:=pO e fun h u_=> @V.tup.elim (fun x=>eN x=some i→x= .tup i) x h (fun u_ e=>congrArg _ (IH e)) e
theorem zW{x:V}{i:Str}(e:Cf x=some i):x= .str i:=pO e fun h u_=> @V.str.elim (fun x=>Cf x=some i→x= .str i) x h (fun u_ e=>congrArg _ (IH e)) e
theorem ix{x:V}{i:Value}(e:kB x=some i):x= .val i:=pO e fun h u_=> @V.val.elim (fun x=>kB x=some i→x= .val i) x h (fun u_ e=>congrArg _ (IH e)) e
theorem oB{x:Value}{i:Bool}(e:nv x=some i):x= .bool i:=pO e fun h u_=> @Value.bool.elim (fun x=>nv x=some i→x= .bool i) x h (fun u_ e=>congrArg _ (IH e)) e
theorem iC{x:Value}(e:lZ x=true):x= .none:=by cases x<;>first|rfl|exact bM e
noncomputable def i7(y:V):Bool:=(kB y).any lZ
theorem ly{y:V}(e:i7 y=true):y= .val .none:=by
 unfold i7 at e
 cases h:kB y with
 |none=>rw[h]at e;exact bM e
 |some w=>rw[h]at e;rw[ix h,iC e]
noncomputable def EE:aa→Option (List V)
 | .lst l=>some l
 |_=>none
noncomputable def aI(σ:Sg)(k:Nat):Option (List V):=σ[k]?.bind EE
theorem bE{σ:Sg}{k:Nat}{l:List V}(e:aI σ k=some l):σ[k]? =some (.lst l):=ae e fun x h w=>by
 cases x with
 |lst=>exact IH w▸h
 |_=>exact no w
noncomputable def rdL:aa→Option (List V)
 | .lst l=>some l
 | .ro l _ _=>some l
 |_=>none
noncomputable def qe(σ:Sg)(k:Nat):Option (List V):=σ[k]?.bind rdL
theorem yQ{σ:Sg}{k:Nat}{l:List V}(h:σ[k]? =some (.lst l)):qe σ k=some l:=by unfold qe;rw[h];rfl
theorem aP{σ:Sg}{k:Nat}{l:List V}(h:σ[k]? =some (.lst l)):aI σ k=some l:=by unfold aI;rw[h];rfl
section
variable {h:Heap}{ρ:Pl}
theorem R.valQ{u v:Value}(r:R h ρ (.val u) v):v=u:=by cases r;rfl
theorem R.noneQ{x:V}(r:R h ρ x .none):x= .val .none:=by cases r;rfl
theorem R.intQ{i:Int}{v:Value}(r:R h ρ (.int i) v): ∃t,v= .int i t:=by cases r;exact⟨_,rfl⟩
theorem R.strQ{i:Str}{v:Value}(r:R h ρ (.str i) v): ∃t,v= .str i t:=by cases r;exact⟨_,rfl⟩
theorem Rs.nilQ{vs:List Value}(r:Rs h ρ [] vs):vs=[]:=by cases r;rfl
theorem Rs.nil2Q{l:List V}(r:Rs h ρ l []):l=[]:=by cases r;rfl
theorem R.valE{u:Value}{motive: ∀v,R h ρ (.val u) v→Prop}(val:motive u .val){v:Value}(r:R h ρ (.val u) v):motive v r:=by cases r;exact val
theorem R.tupE{l:List V}{motive: ∀v,R h ρ (.tup l) v→Prop}(tup: ∀{a vs n} (h1:h.get? a=some (ao vs n)) (f1:ρ.free a) (rs:Rs h ρ l vs),motive (.ref a) (.tup h1 f1 rs)){v:Value}(r:R h ρ (.tup l) v):motive v r:=by cases r with|tup a b c=>exact tup a b c
theorem R.lstE{k:Nat}{motive: ∀v,R h ρ (.lst k) v→Prop}(lst: ∀{a} (h1:ρ.r[k]? =some a),motive (.ref a) (.lst h1)){v:Value}(r:R h ρ (.lst k) v):motive v r:=by cases r with|lst a=>exact lst a
theorem Rs.nilE{motive: ∀vs,Rs h ρ [] vs→Prop}(nil:motive [] .nil){vs:List Value}(r:Rs h ρ [] vs):motive vs r:=by cases r;exact nil
theorem Rs.consE{x:V}{l:List V}{motive: ∀vs,Rs h ρ (x::l) vs→Prop}(cons: ∀{v vs} (r:R h ρ x v) (rs:Rs h ρ l vs),motive (v::vs) (.cons r rs)){vs:List Value}(r:Rs h ρ (x::l) vs):motive vs r:=by cases r with|cons a b=>exact cons a b
end
inductive Rf(h:Heap)(ρ:Pl):List (Str×V)→List DictEntry→Prop
 |nil:Rf h ρ [] []
 |cons {n:Str} {t:Tok} {x:V} {e:DictEntry} {fs:List (Str×V)} {es:List DictEntry}:e.key= .str n t→R h ρ x e.val→Rf h ρ fs es→Rf h ρ ((n,x)::fs) (e::es)
noncomputable abbrev fw(es:List DictEntry)(n:Nat)(sl:Array (Option Value)):Obj:={cls:= .type "dict",data:= .dict es.toArray n,slots:=sl}
noncomputable def fk(h:Heap)(ρ:Pl):aa→Addr→Prop
 | .lst l,a=> ∃vs n,h.get? a=some (aB vs n)∧Rs h ρ l vs
 | .dct fs,a=> ∃es n sl,h.get? a=some (fw es n sl)∧Rf h ρ fs es
 | .ro l vs n,a=>h.get? a=some (aB vs n)∧Rs h ρ l vs
set_option genInjectivity false in
structure Cx where
 prog:Program
 w:World
 K:Frag
 n₀:Nat
 T:List Addr
 cs:List (Addr×Addr)
 mg:Str→Option Value
 mb:Str→Option Value
 base:Heap
 nm:List (Str×Value)
variable (c:Cx)
noncomputable def te(a:Addr)(o o':Obj):Prop:=
 o'=o∨(c.n₀≤a∧(∃es ep,o.data= .dict es ep)∧ ∃sl,o'={o with slots:=sl})∨(a∈c.T∧o.cls= .none∧ ∃vs more,o.data= .fields vs∧o'={o with data:= .fields (vs++more)})
variable {c}
theorem te.refl(a:Addr)(o:Obj):te c a o o:= .inl rfl
theorem te.trans{a:Addr}{o p q:Obj}(x:te c a o p)(y:te c a p q):te c a o q:=by
 rcases x with rfl|⟨g,⟨es,ep,dd⟩,sl,rfl⟩|⟨g,cl,vs,more,d,rfl⟩
 ·exact y
 ·rcases y with rfl|⟨_,_,sl',rfl⟩|⟨_,cl',vs,_,d,_⟩
  ·exact .inr (.inl ⟨g,⟨es,ep,dd⟩,sl,rfl⟩)
  ·exact .inr (.inl ⟨g,⟨es,ep,dd⟩,sl',rfl⟩)
  ·have:o.data= .fields vs:=d;rw[dd]at this;cases this
 ·rcases y with rfl|⟨_,⟨es,ep,dd⟩,_,_⟩|⟨_,_,ws,more',d',rfl⟩
  ·exact .inr (.inr ⟨g,cl,vs,more,d,rfl⟩)
  ·cases dd
  ·have e:ws=vs++more:=by simpa using d'.symm
   subst e
   exact .inr (.inr ⟨g,cl,vs,more++more',d,by rw[Array.append_assoc]⟩)
noncomputable def hU(o:Obj):Bool:=match o.data with
 | .dict .. =>false
 |_=>true
noncomputable def uM(o:Obj):Bool:=hU o&&o.cls != .none
theorem te.frz{a:Addr}{o o':Obj}(x:te c a o o')(f:uM o=true):o'=o:=by
 simp only[Internal.uM,Gj,bne_iff_ne,ne_eq]at f
 rcases x with e|⟨_,⟨es,ep,d⟩,_⟩|⟨_,cl,_⟩
 ·exact e
 ·have:=f.1;unfold hU at this;rw[d]at this;exact bM this
 ·exact absurd cl f.2
theorem te.dict{a:Addr}{o o':Obj}{es:Array DictEntry}{ep:Nat}(x:te c a o o')(f:o.data= .dict es ep):o'.data= .dict es ep:=by
 rcases x with rfl|⟨_,_,_,rfl⟩|⟨_,_,_,_,d,_⟩
 ·exact f
 ·exact f
 ·rw[f]at d;cases d
theorem te.old{a:Addr}{o o':Obj}(x:te c a o o')(f:a<c.n₀)(g:a∉c.T):o'=o:=by
 rcases x with e|⟨m,_⟩|⟨m,_⟩
 ·exact e
 ·exact absurd f (H1.mpr m)
 ·exact absurd m g
variable (c)
noncomputable def eh(S:List Addr)(h h':Heap):Prop:= ∀a o,a∉S→h.get? a=some o→ ∃o',h'.get? a=some o'∧te c a o o'
variable {c}
theorem eh.refl(S:List Addr)(h:Heap):eh c S h h:=fun a o u_ e=>⟨o,e,.refl a o⟩
theorem eh.trans{S:List Addr}{h h' h'':Heap}(x:eh c S h h')(y:eh c S h' h''):eh c S h h'':=fun a o n e=>by
 refine aL (x a o n e) fun o' e' c=> ?_;refine aL (y a o' n e') fun o'' e'' c'=> ?_;exact⟨o'',e'',c.trans c'⟩
theorem eh.trans'{S S':List Addr}{h h' h'':Heap}(x:eh c S h h')(y:eh c S' h' h'')(k: ∀a∈S',a∈S∨h.get? a=none):eh c S h h'':=fun a o n e=>by
 refine aL (x a o n e) fun o' e' c=> ?_
 obtain⟨o'',e'',c'⟩:=y a o' (fun m=>by
  rcases k a m with q|q
  ·exact n q
  ·rw[q]at e;exact no e) e'
 exact⟨o'',e'',c.trans c'⟩
theorem eh.mono{S T:List Addr}{h h':Heap}(x:eh c S h h')(k: ∀a∈S,a∈T):eh c T h h':=fun a o n e=>x a o (fun m=>n (k a m)) e
theorem eh.of_keeps{S:List Addr}{h h':Heap}(k: ∀b o,b∉S→h.get? b=some o→h'.get? b=some o):eh c S h h':=fun a o n e=>⟨o,k a o n e,.refl a o⟩
theorem eh.get{S:List Addr}{h h':Heap}(x:eh c S h h'){a:Addr}{o:Obj}(n:a∉S)(e:h.get? a=some o)(f:uM o=true):h'.get? a=some o:=by
 refine aL (x a o n e) fun o' e' c=> ?_;rw[c.frz f]at e';exact e'
theorem eh.ns{S:List Addr}{h h':Heap}(x:eh c S h h'){a:Addr}{m:Str→Option Value}(n:a∉S)(e:h.Ns a m):h'.Ns a m:=by
 refine iJ e fun o es ep ho hd r=> ?_;refine aL (x a o n ho) fun o' ho' q=> ?_;exact⟨o',es,ep,ho',q.dict hd,r⟩
set_option genInjectivity false in
structure Pl.Le(h:Heap)(ρ KF:Pl):Prop where
 pre:ρ.r<+:KF.r
 free: ∀a o,ρ.free a→h.get? a=some o→KF.free a
theorem Pl.Le.refl(h:Heap)(ρ:Pl):ρ.Le h ρ:=⟨GW _,fun u_ u_ f u_=>f⟩
theorem Pl.Le.get{h:Heap}{ρ KF:Pl}(p:ρ.Le h KF){k:Nat}{a:Addr}(e:ρ.r[k]? =some a):KF.r[k]? =some a:=by
 refine oE p.pre fun t q=> ?_;rw[←q,He (G1.mp e).1];exact e
noncomputable def Pl.Off(ρ:Pl)(S:List Addr):Prop:= ∀a∈S,¬ρ.free a
theorem Pl.Off.nil(ρ:Pl):ρ.Off []:=fun u_ m=>by simp at m
theorem Pl.Off.r(ρ:Pl):ρ.Off ρ.r:=fun u_ m f=>f.1 m
theorem Pl.Off.p{ρ:Pl}{S:List Addr}(h: ∀a∈S,a∈ρ.p):ρ.Off S:=fun a m f=>f.2 (h a m)
theorem Pl.Off.append{ρ:Pl}{S T:List Addr}(x:ρ.Off S)(y:ρ.Off T):ρ.Off (S++T):=fun a m=>(GP.mp m).elim (x a) (y a)
theorem R.both{h:Heap}{ρ:Pl}{P:V→Value→Prop}{Q:List V→List Value→Prop}(val: ∀{v},P (.val v) v)(int: ∀{i t},P (.int i) (.int i t))(str: ∀{i t},P (.str i) (.str i t))
 (tup: ∀{l a vs n},h.get? a=some (ao vs n)→ρ.free a→Rs h ρ l vs→Q l vs→P (.tup l) (.ref a)) (lst: ∀{k a},ρ.r[k]? =some a→P (.lst k) (.ref a))
 (inst: ∀{C a dx k},h.get? a=some (instObj C dx)→ρ.free a→ρ.r[k]? =some dx→P (.inst C k) (.ref a)) (rng: ∀{a b d r t u v},IsRange h r a b d t u v→ρ.free r→P (.rng a b d) (.ref r))
 (nil:Q [] []) (cons: ∀{x v l vs},R h ρ x v→P x v→Rs h ρ l vs→Q l vs→Q (x::l) (v::vs)):(∀{x v},R h ρ x v→P x v)∧(∀{l vs},Rs h ρ l vs→Q l vs):=
 ⟨fun r=>R.rec (motive_1:=fun x v u_=>P x v) (motive_2:=fun l vs u_=>Q l vs) val int str tup lst inst rng nil (fun a b c d=>cons a c b d) r,
  fun r=>Rs.rec (motive_1:=fun x v u_=>P x v) (motive_2:=fun l vs u_=>Q l vs) val int str tup lst inst rng nil (fun a b c d=>cons a c b d) r⟩
theorem Rs.ind{h:Heap}{ρ:Pl}{Q:List V→List Value→Prop}(nil:Q [] [])(cons: ∀{x v l vs},R h ρ x v→Rs h ρ l vs→Q l vs→Q (x::l) (v::vs)){l:List V}{vs:List Value}(r:Rs h ρ l vs):Q l vs:=
 (R.both (P:=fun u_ u_=>True) trivial trivial trivial (fun u_ u_ u_ u_=>trivial) (fun u_=>trivial) (fun u_ u_ u_=>trivial) (fun u_ u_=>trivial) nil fun a u_ b c=>cons a b c).2 r
theorem R.monoB{h h':Heap}{ρ KF:Pl}{S:List Addr}(nl:ρ.Off S)(x:eh c S h h')(p:ρ.Le h KF):(∀{V v},R h ρ V v→R h' KF V v)∧(∀{l vs},Rs h ρ l vs→Rs h' KF l vs):=
 R.both .val .int .str (fun e f u_ r=> .tup (x.get (fun m=>nl _ m f) e rfl) (p.free _ _ f e) r) (fun e=> .lst (p.get e)) (fun e f d=> .inst (x.get (fun m=>nl _ m f) e rfl) (p.free _ _ f e) (p.get d))
  (fun e f=> .rng (x.get (fun m=>nl _ m f) e rfl) (p.free _ _ f e)) .nil fun u_ r u_ rs=> .cons r rs
theorem R.mono{h h':Heap}{ρ KF:Pl}{S:List Addr}(nl:ρ.Off S)(x:eh c S h h')(p:ρ.Le h KF){V:V}{v:Value}:R h ρ V v→R h' KF V v:=(R.monoB nl x p).1
theorem Rs.mono{h h':Heap}{ρ KF:Pl}{S:List Addr}(nl:ρ.Off S)(x:eh c S h h')(p:ρ.Le h KF){l:List V}{vs:List Value}:Rs h ρ l vs→Rs h' KF l vs:=(R.monoB nl x p).2
theorem Rf.mono{h h':Heap}{ρ KF:Pl}{S:List Addr}(nl:ρ.Off S)(x:eh c S h h')(p:ρ.Le h KF){l:List (Str×V)}{es:List DictEntry}(r:Rf h ρ l es):Rf h' KF l es:=
 Rf.rec (motive:=fun l es u_=>Rf h' KF l es) .nil (fun e r u_ ih=> .cons e (R.mono nl x p r) ih) r
theorem Rs.length{h:Heap}{ρ:Pl}{l:List V}{vs:List Value}(r:Rs h ρ l vs):l.length=vs.length:=Rs.ind (Q:=fun l vs=>l.length=vs.length) rfl (fun u_ u_ ih=>congrArg (· +1) ih) r
theorem Rs.sz{h:Heap}{ρ:Pl}{l:List V}{vs:List Value}(r:Rs h ρ l vs)(hz:l.length≤2^20):vs.toArray.size≤sizeLine:=show vs.length≤sizeLine from HX (Iy r.length.symm) (HX hz (by decide))
theorem Rs.sz63{h:Heap}{ρ:Pl}{l:List V}{vs:List Value}(r:Rs h ρ l vs)(hz:l.length≤2^20):(vs.toArray.size:Int)<2^63:=GG (GC.mpr (r.sz hz)) (by decide)
theorem Rs.get{h:Heap}{ρ:Pl}{l:List V}{vs:List Value}{k:Nat}{x:V}(r:Rs h ρ l vs):l[k]? =some x→ ∃v,vs[k]? =some v∧R h ρ x v:=
 Rs.ind (Q:=fun l vs=> ∀k x,l[k]? =some x→ ∃v,vs[k]? =some v∧R h ρ x v) (fun u_ u_ e=>no e) (fun r u_ ih k x e=>by
  cases k with
  |zero=>exact⟨_,rfl,IH e▸r⟩
  |succ k=>exact ih k x e) r k x
theorem Rs.append{h:Heap}{ρ:Pl}{l l':List V}{vs vs':List Value}(r:Rs h ρ l vs)(q:Rs h ρ l' vs'):Rs h ρ (l++l') (vs++vs'):=Rs.ind (Q:=fun l vs=>Rs h ρ (l++l') (vs++vs')) q (fun r u_ ih=> .cons r ih) r
theorem Rs.reverse{h:Heap}{ρ:Pl}{l:List V}{vs:List Value}(r:Rs h ρ l vs):Rs h ρ l.reverse vs.reverse:=
 Rs.ind (Q:=fun l vs=>Rs h ρ l.reverse vs.reverse) .nil (fun r u_ ih=>by rw[Hm,Hm];exact ih.append (.cons r .nil)) r
theorem Rs.drop{h:Heap}{ρ:Pl}{l:List V}{vs:List Value}(k:Nat)(r:Rs h ρ l vs):Rs h ρ (l.drop k) (vs.drop k):=
 Rs.ind (Q:=fun l vs=> ∀k,Rs h ρ (l.drop k) (vs.drop k)) (fun k=>by cases k<;>exact .nil) (fun r rs ih k=>by
  cases k with
  |zero=>exact .cons r rs
  |succ k=>exact ih k) r k
theorem Rs.take{h:Heap}{ρ:Pl}{l:List V}{vs:List Value}(k:Nat)(r:Rs h ρ l vs):Rs h ρ (l.take k) (vs.take k):=
 Rs.ind (Q:=fun l vs=> ∀k,Rs h ρ (l.take k) (vs.take k)) (fun k=>by cases k<;>exact .nil) (fun r rs ih k=>by
  cases k with
  |zero=>exact .nil
  |succ k=>exact .cons r (ih k)) r k
variable (c)in
structure aQ(ρ:Pl)(σ:Sg)(h:Heap):Prop where
 nodup:ρ.r.Nodup
 len:ρ.r.length=σ.length
 at_: ∀(k:Nat) (a:Addr) (l:aa),ρ.r[k]? =some a→σ[k]? =some l→fk h ρ l a
 low: ∀a∈ρ.r,c.n₀≤a
 plow: ∀a∈ρ.p,c.n₀≤a∧a<h.objs.size
 disj: ∀a∈ρ.p,a∉ρ.r
theorem aQ.cls{ρ:Pl}{σ:Sg}{h:Heap}(s:aQ c ρ σ h){a:Addr}(m:a∈ρ.r): ∃o,h.get? a=some o∧(o.cls= .type "list"∨o.cls= .type "dict"):=by
 obtain⟨k,hk,e⟩:=List.mem_iff_getElem.mp m;have hk':k<σ.length:=s.len▸hk
 have:=s.at_ k a σ[k] (by rw[G3 hk,e]) (G3 hk')
 cases q:σ[k]with
 |lst l=>rw[q]at this;refine bc this fun vs n e' u_=> ?_;exact⟨_,e',.inl rfl⟩
 |dct l=>rw[q]at this;refine lG this fun vs n sl e' u_=> ?_;exact⟨_,e',.inr rfl⟩
 |ro l vs n=>rw[q]at this;exact⟨_,this.1,.inl rfl⟩
theorem aQ.rd{ρ:Pl}{σ:Sg}{h:Heap}(s:aQ c ρ σ h){k:Nat}{a:Addr}{l:List V}(h1:ρ.r[k]? =some a)(e:qe σ k=some l): ∃vs n,h.get? a=some (aB vs n)∧Rs h ρ l vs:=ae e fun x hx w=>by
 have:=s.at_ _ _ _ h1 hx
 cases x with
 |lst l'=>obtain rfl:=IH w;exact this
 |dct=>exact no w
 |ro l' vs n=>obtain rfl:=IH w;exact⟨vs,n,this⟩
theorem aQ.notin{ρ:Pl}{σ:Sg}{h:Heap}(s:aQ c ρ σ h){a:Addr}{o:Obj}(e:h.get? a=some o)(c1:o.cls≠ .type "list")(c2:o.cls≠ .type "dict"):a∉ρ.r:=fun m=>by
 refine aL (s.cls m) fun o' e' q=> ?_;rw[e]at e';obtain rfl:=IH e';exact q.elim c1 c2
theorem aQ.lt{ρ:Pl}{σ:Sg}{h:Heap}(s:aQ c ρ σ h){a:Addr}(f: ¬ρ.free a):a<h.objs.size:=by
 by_cases m:a∈ρ.r
 ·refine aL (s.cls m) fun o e u_=> ?_;exact Ka e
 ·by_cases q:a∈ρ.p
  ·exact(s.plow a q).2
  ·exact absurd ⟨m,q⟩ f
theorem aQ.new{ρ:Pl}{σ:Sg}{h:Heap}(s:aQ c ρ σ h){a:Addr}(l:h.objs.size≤a):ρ.free a:=by
 have: ¬ ¬ρ.free a:=fun f=>absurd (s.lt f) (H1.mpr l);exact Classical.not_not.mp this
theorem oZ{h:Heap}{a:Addr}(l:h.objs.size≤a):h.get? a=none:=by
 cases q:h.get? a with
 |none=>rfl
 |some o=>exact absurd (Ka q) (H1.mpr l)
theorem fk.mono{h h':Heap}{ρ KF:Pl}{S:List Addr}(nl:ρ.Off S)(x:eh c S h h')(p:ρ.Le h KF): ∀{l:aa} {a:Addr},a∉S→fk h ρ l a→fk h' KF l a:=fun {l a} n q=>by
 cases l with
 |lst l=>exact bc q fun vs k e r=>⟨vs,k,x.get n e rfl,r.mono nl x p⟩
 |dct l=>
  refine lG q fun vs k sl e r=> ?_;refine aL (x a _ n e) fun o' e' q=> ?_
  rcases q with rfl|⟨_,_,sl',rfl⟩|⟨_,_,_,_,d,_⟩
  ·exact⟨vs,k,sl,e',r.mono nl x p⟩
  ·exact⟨vs,k,sl',e',r.mono nl x p⟩
  ·cases d
 |ro l vs m=>exact⟨x.get n q.1 rfl,q.2.mono nl x p⟩
theorem aQ.mono{h h':Heap}{ρ:Pl}{S P:List Addr}{σ:Sg}(s:aQ c ρ σ h)(nl:ρ.Off S)(x:eh c S h h')(d: ∀a∈ρ.r,a∉S)(hz:h.objs.size≤h'.objs.size)
 (hp: ∀a∈P,a∈ρ.p∨(h.objs.size≤a∧a<h'.objs.size)) (g:c.n₀≤h.objs.size):aQ c ⟨ρ.r,P⟩ σ h' where
 nodup:=s.nodup
 len:=s.len
 at_:=fun k a l h1 h2=>(s.at_ k a l h1 h2).mono (KF:=⟨ρ.r,P⟩) nl x ⟨GW _,fun b o f e=>⟨f.1,fun m=>(hp b m).elim f.2 fun q=>absurd (Ka e) (H1.mpr q.1)⟩⟩ (d a (Hp h1))
 low:=s.low
 plow:=fun a m=>(hp a m).elim (fun q=>⟨(s.plow a q).1,H_ (s.plow a q).2 hz⟩) fun q=>⟨HX g q.1,q.2⟩
 disj:=fun a m n=>(hp a m).elim (fun q=>s.disj a q n) fun q=>absurd (s.lt (fun f=>f.1 n)) (H1.mpr q.1)
theorem eX{α β:Type}{x:Option α}{f:α→Option β}{b:β}{P:Prop}(e:x.bind f=some b)(h: ∀a,f a=some b→P):P:=ae e fun a u_ w=>h a w
theorem Aw{α β:Type}{o:Option α}{a:Option β}{f:α→Option β}{b:β}{P:Prop}(e:o.elim a f=some b)(n:o=none→a=some b→P)(k: ∀x,f x=some b→P):P:=im e n fun x u_ w=>k x w
noncomputable def sM(x:Value):Option String:=if h:x.ctorIdx=8 then some (@Value.type.elim (fun u_=>String) x h fun a=>a)else none
theorem wO{x:Value}{i:String}(e:sM x=some i):x= .type i:=pO e fun h u_=> @Value.type.elim (fun x=>sM x=some i→x= .type i) x h (fun u_ e=>congrArg _ (IH e)) e
noncomputable def ik(e:Expr):Option {p:Str×Pos//e= .Name p.1 p.2}:=if h:e.ctorIdx=23 then @Expr.Name.elim (fun e=>Option {p:Str×Pos//e= .Name p.1 p.2}) e h fun x p=>some ⟨(x,p),rfl⟩else none
noncomputable def kh(e:Expr):Option {p:List Expr×Nat×Pos//e= .Tuple p.1 p.2.1 p.2.2}:=if h:e.ctorIdx=25 then @Expr.Tuple.elim (fun e=>Option {p:List Expr×Nat×Pos//e= .Tuple p.1 p.2.1 p.2.2}) e h fun l k p=>some ⟨(l,k,p),rfl⟩else none
noncomputable def u7(e:Expr):Option {p:Expr×Str×Pos//e= .Attribute p.1 p.2.1 p.2.2}:=if h:e.ctorIdx=20 then @Expr.Attribute.elim (fun e=>Option {p:Expr×Str×Pos//e= .Attribute p.1 p.2.1 p.2.2}) e h fun x n p=>some ⟨(x,n,p),rfl⟩else none
noncomputable def vG(e:Expr):Option {p:Expr×List Expr×List Keyword×Pos//e= .Call p.1 p.2.1 p.2.2.1 p.2.2.2}:=if h:e.ctorIdx=16 then @Expr.Call.elim (fun e=>Option {p:Expr×List Expr×List Keyword×Pos//e= .Call p.1 p.2.1 p.2.2.1 p.2.2.2}) e h fun f a k p=>some ⟨(f,a,k,p),rfl⟩else none
noncomputable def FV(e:Expr):Option {p:Expr×Expr×Pos//e= .Subscript p.1 p.2.1 p.2.2}:=if h:e.ctorIdx=21 then @Expr.Subscript.elim (fun e=>Option {p:Expr×Expr×Pos//e= .Subscript p.1 p.2.1 p.2.2}) e h fun x i p=>some ⟨(x,i,p),rfl⟩else none
noncomputable def F9(e:Expr):Option {p:Expr×List Comprehension×Scope×Pos//e= .GeneratorExp p.1 p.2.1 p.2.2.1 p.2.2.2}:=if h:e.ctorIdx=11 then @Expr.GeneratorExp.elim (fun e=>Option {p:Expr×List Comprehension×Scope×Pos//e= .GeneratorExp p.1 p.2.1 p.2.2.1 p.2.2.2}) e h fun x g s p=>some ⟨(x,g,s,p),rfl⟩else none
noncomputable def lcO(e:Expr):Option {p:Expr×List Comprehension×Scope×Pos//e= .ListComp p.1 p.2.1 p.2.2.1 p.2.2.2}:=if h:e.ctorIdx=8 then @Expr.ListComp.elim (fun e=>Option {p:Expr×List Comprehension×Scope×Pos//e= .ListComp p.1 p.2.1 p.2.2.1 p.2.2.2}) e h fun x g s p=>some ⟨(x,g,s,p),rfl⟩else none
noncomputable def Fy(e:Expr):Option {p:Option Expr×Option Expr×Option Expr×Pos//e= .Slice p.1 p.2.1 p.2.2.1 p.2.2.2}:=if h:e.ctorIdx=26 then @Expr.Slice.elim (fun e=>Option {p:Option Expr×Option Expr×Option Expr×Pos//e= .Slice p.1 p.2.1 p.2.2.1 p.2.2.2}) e h fun l u s p=>some ⟨(l,u,s,p),rfl⟩else none
noncomputable def AN(e:Expr):Option {p:Const×Nat×Pos//e= .Constant p.1 p.2.1 p.2.2}:=if h:e.ctorIdx=19 then @Expr.Constant.elim (fun e=>Option {p:Const×Nat×Pos//e= .Constant p.1 p.2.1 p.2.2}) e h fun k n p=>some ⟨(k,n,p),rfl⟩else none
noncomputable def F'(e:Stmt):Option {p:Option Expr×Pos//e= .Return p.1 p.2}:=if h:e.ctorIdx=3 then @Stmt.Return.elim (fun e=>Option {p:Option Expr×Pos//e= .Return p.1 p.2}) e h fun x p=>some ⟨(x,p),rfl⟩else none
theorem cp0{g:Comprehension}(h:g.is_async=0):g=⟨g.target,g.iter,g.ifs,0⟩:=by
 cases g;subst h;rfl
noncomputable def s_{α:Type}(l:List α):Option {x:α//l=[x]}:=match l with
 |[x]=>some ⟨x,rfl⟩
 |_=>none
noncomputable def Ax(d:Data):Option {p:FuncData//d= .func p}:=if h:d.ctorIdx=7 then @Data.func.elim (fun d=>Option {p:FuncData//d= .func p}) d h fun x=>some ⟨x,rfl⟩else none
noncomputable def FC(d:Data):Option {p:ClassData//d= .cls p}:=if h:d.ctorIdx=8 then @Data.cls.elim (fun d=>Option {p:ClassData//d= .cls p}) d h fun x=>some ⟨x,rfl⟩else none
noncomputable def xW(d:Data):Option {p:Array Value//d= .fields p}:=if h:d.ctorIdx=9 then @Data.fields.elim (fun d=>Option {p:Array Value//d= .fields p}) d h fun x=>some ⟨x,rfl⟩else none
noncomputable def Fk(d:Data):Option {p:Array Value×Nat//d= .seq p.1 p.2}:=if h:d.ctorIdx=2 then @Data.seq.elim (fun d=>Option {p:Array Value×Nat//d= .seq p.1 p.2}) d h fun x n=>some ⟨(x,n),rfl⟩else none
noncomputable def E2(v:Value):Option {p:Str×Tok//v= .str p.1 p.2}:=if h:v.ctorIdx=6 then @Value.str.elim (fun v=>Option {p:Str×Tok//v= .str p.1 p.2}) v h fun x t=>some ⟨(x,t),rfl⟩else none
noncomputable def xJ:FuncBody→Option (List Stmt)
 | .stmts b=>some b
 | .expr _=>none
theorem zE{b:FuncBody}{l:List Stmt}(h:xJ b=some l):b= .stmts l:=by
 cases b with
 |stmts=>exact congrArg _ (IH h)
 |expr=>exact no h
theorem jI{α:Type}{x:Option α}{f:α→Bool}{P:Prop}(e:x.any f=true)(h: ∀a,x=some a→f a=true→P):P:=by
 cases x with
 |none=>exact bM e
 |some a=>exact h a rfl e
end
variable {c:Cx}{A:Around}{ρ:Pl}{σ:Sg}{s:Shared}{M:Model}{KN:Sort _}{fn:Str}{outer:List Env}{value func ob:Expr}{newId:String}{KQ:Sort _}{Γ:Ctx}{α:Type}{h:Heap}{mn:Str}{cells:List (Str×Addr)}{β:Type}{la:Addr}{op:Operator}{KW:Sort _}{target:Expr}{names:List (Str×NameKind)}{C:Addr}{name:Str}{slice elt:Expr}{S:List Addr}{N:List Str}{test:Expr}{Lh:Pl}{args:List Expr}{ga:Addr}{lo:Option Int}{sl:List (Str×V)}{KF:Pl}{K7:Sort _}{KY:Pl}{fs:List (Str×V)}{items:Array Value}{iter:Expr}{T:String}{K:Frag}{L:Nat}{x:V}{o1:Obj}{body:List Stmt}{bs:List Bool}{a' a:Addr}{ss:List Int}{hi:Option Int}{ops:List CmpOp}{K8 D':List Addr}{h':Heap}{j:Nat}{st:Stmt}{Lc:Sort _}{xp:Pos}{v1:Value}{xn:Str}{n:Nat}{O:V}{fd:FuncData}{xs:List V}{k:Nat}{e:Expr}{ifs:List Expr}{fv:Value}{e':Expr}{scope:Scope}{first:List V}{orelse:List Stmt}{l:List V}{kws:List Keyword}{LA:Sort _}{I:List Addr}{KP:Shared}{v2:Value}{pos:Pos}{ext:Sg}{acc:List V}{p1:Prop}{z:Int}{u:Tok}{i:Nat}{kv:List (Str×Value)}{keywords:List (Option Str×Sem Value)}{f0:Value}{m:List V}{es:List Expr}{KD:Sg}{l':List V}{y:V}{G:Prop}{o2:Obj}{v3:Value}{b:Bool}{Ln:Sg}{vs:List Value}{w v:Value}{Ld:Sg}{p2:Prop}{s':Shared}{ys:List V}{KX:Sg}{Q:Value→Shared→Prop}{P:Prop}{kw:List (Str×Value)}{ws:List Value}{rn:Str}{KE:Sg}{binds:List (Str×V)}{KI K3:Sg}{B:V}{s'' KH KL:Shared}{A':Around}{E:Value→Shared→Prop}{gs:GenState}{h'':Heap}
section
theorem eh.cell(x:eh c S h h'){v:Option Value}(n:a∉S)(e:h.IsCell a v):h'.IsCell a v:=by
 refine aL e fun o ho hd=> ?_;refine aL (x a o n ho) fun o' ho' q=> ?_;refine⟨o',ho',?_⟩
 rcases q with rfl|⟨_,_,_,rfl⟩|⟨_,_,_,_,d,_⟩
 ·exact hd
 ·exact hd
 ·rw[hd]at d;cases d
theorem aQ.cell(s:aQ c ρ σ h){v:Option Value}(e:h.IsCell a v):a∉ρ.r:=fun q=>by
 obtain⟨k,hk,e'⟩:=List.mem_iff_getElem.mp q;have hk':k<σ.length:=s.len▸hk;refine aL e fun o ho hd=> ?_
 have:=s.at_ k a σ[k] (by rw[G3 hk,e']) (G3 hk')
 cases q:σ[k]with
 |lst l=>rw[q]at this;refine bc this fun vs n e' u_=> ?_;rw[ho]at e';obtain rfl:=IH e';cases hd
 |dct l=>rw[q]at this;refine lG this fun vs n sl e' u_=> ?_;rw[ho]at e';obtain rfl:=IH e';cases hd
 |ro l vs n=>rw[q]at this;have e':=this.1;rw[ho]at e';obtain rfl:=IH e';cases hd
noncomputable def hN(h:Heap)(p:Addr×Addr):Prop:= ∃ps,h.IsCode p.1 p.2 ps∧ ∀o,h.get? p.2=some o→o.cls= .none
theorem hN.keep{p:Addr×Addr}(x:hN h p)(k1: ∀o,h.get? p.1=some o→h'.get? p.1=some o)(k2: ∀o,h.get? p.2=some o→h'.get? p.2=some o):hN h' p:=by
 obtain⟨ps,⟨o,vs,file,tf,flags,tg,inF,text,tt,op,a,r1,r2,r3,r4,r5,r6,b,r⟩,q⟩:=x;refine⟨ps,⟨o,vs,file,tf,flags,tg,inF,text,tt,op,k1 _ a,r1,r2,r3,r4,r5,r6,k2 _ b,r⟩,fun o' e=> ?_⟩;rw[k2 _ b]at e;obtain rfl:=IH e;exact q _ b
set_option genInjectivity false in
structure Cx.Ok(c:Cx):Prop where
 kold: ∀a o,c.K.lookup a=some o→a<c.n₀∧a∉c.T
 bold: ∀a o,c.base.get? a=some o→a<c.n₀∧a∉c.T
 tcs: ∀p∈c.cs,p.2∈c.T
 told: ∀a∈c.T,a<c.n₀
 cold: ∀p∈c.cs,p.1<c.n₀∧p.1∉c.T
 names: ∀(x:Str) (v:Value),c.nm.lookup x=some v→c.mg x=some v∨(c.mg x=none∧c.mb x=some v)
 low:cStatics<c.n₀∧mainGlobals<c.n₀∧builtinsNs<c.n₀
 bmod: ∃bm o,c.mg "__builtins__"=some (.ref bm)∧bm≠builtinsNs∧c.base.get? bm=some o∧o.cls= .type "module"∧o.dict=some builtinsNs∧o.data= .plain
variable (c)in
structure Gd(h:Heap):Prop where
 kin:c.K.In h
 lim:h.NoLimit
 gl:h.Ns mainGlobals c.mg
 bl:h.Ns builtinsNs c.mb
 stays:c.base.StaysIn h
 codes: ∀p∈c.cs,hN h p
 size:c.n₀≤h.objs.size
theorem Gd.step(ok:c.Ok)(g:Gd c h)(lo: ∀a∈S,c.n₀≤a)(x:eh c S h h')(codes: ∀p∈c.cs,hN h' p)(hz:h.objs.size≤h'.objs.size):Gd c h':=by
 have no: ∀{a},a<c.n₀→a∉S:=fun l m=>absurd l (H1.mpr (lo _ m));refine⟨fun a o e=> ?_,?_,x.ns (no ok.low.2.1) g.gl,x.ns (no ok.low.2.2) g.bl,fun a o e=> ?_,codes,HX g.size hz⟩
 ·refine oA (ok.kold a o e) fun o1 o2=> ?_;refine aL (x a o (no o1) (g.kin a o e)) fun o' e' q=> ?_;rw[q.old o1 o2]at e';exact e'
 ·refine aL g.lim fun mc a b=> ?_;exact⟨mc,x.ns (no ok.low.1) a,b⟩
 ·refine oA (ok.bold a o e) fun o1 o2=> ?_;refine aL (x a o (no o1) (g.stays a o e)) fun o' e' q=> ?_;rw[q.old o1 o2]at e';exact e'
structure oi(s s':Shared):Prop where
 drawn:s'.drawn=s.drawn
 os:s'.os=s.os
 gsize:s.gens.size≤s'.gens.size
 gold: ∀i,i<s.gens.size→s'.gens[i]? =s.gens[i]?
 bare:(∀x∈s.gens,x.bare=true)→ ∀x∈s'.gens,x.bare=true
 hsize:s.heap.objs.size≤s'.heap.objs.size
theorem oi.refl(s:Shared):oi s s:=⟨rfl,rfl,HY _,fun u_ u_=>rfl,id,HY _⟩
theorem oi.trans(x:oi s s')(y:oi s' s''):oi s s'':=
 ⟨y.drawn.trans x.drawn,y.os.trans x.os,HX x.gsize y.gsize,fun i h=>(y.gold i (H_ h x.gsize)).trans (x.gold i h),fun h=>y.bare (x.bare h),HX x.hsize y.hsize⟩
theorem oi.heap{t:Nat}(hz:s.heap.objs.size≤h.objs.size):oi s {s with heap:=h,toks:=t}:=⟨rfl,rfl,HY _,fun u_ u_=>rfl,id,hz⟩
variable (c)in
structure ad(D:List Addr)(ρ:Pl)(s:Shared)(KF:Pl)(KD:Sg)(s':Shared):Prop where
 pre:ρ.r<+:KF.r
 new: ∀a∈KF.r,a∈ρ.r∨s.heap.objs.size≤a
 pnew: ∀a∈KF.p,a∈ρ.p∨s.heap.objs.size≤a
 pold: ∀a∈ρ.p,a∈KF.p
 sto:aQ c KF KD s'.heap
 ext:eh c (D++ρ.r) s.heap s'.heap
 rest:oi s s'
 gd:Gd c s'.heap
variable (c)in
noncomputable abbrev af(ρ:Pl)(s:Shared)(KF:Pl)(KD:Sg)(s':Shared):Prop:=ad c [] ρ s KF KD s'
theorem ad.refl{D:List Addr}(t:aQ c ρ σ s.heap)(g:Gd c s.heap):ad c D ρ s ρ σ s:=⟨GW _,fun u_ h=> .inl h,fun u_ h=> .inl h,fun u_ h=>h,t,.refl _ _,.refl _,g⟩
theorem af.refl(t:aQ c ρ σ s.heap)(g:Gd c s.heap):af c ρ s ρ σ s:=ad.refl t g
theorem ad.le{D:List Addr}(x:ad c D ρ s KF KD s'):ρ.Le s.heap KF:=
 ⟨x.pre,fun a o f e=>⟨fun m=>(x.new a m).elim f.1 fun q=>absurd (Ka e) (H1.mpr q),fun m=>(x.pnew a m).elim f.2 fun q=>absurd (Ka e) (H1.mpr q)⟩⟩
theorem ad.trans'{D:List Addr}(x:ad c D ρ s KF KD s')(y:ad c D' KF s' Lh Ln s'')
 (k: ∀a∈D',a∈D∨s.heap.objs.size≤a):ad c D ρ s Lh Ln s'':=by
 refine⟨x.pre.trans y.pre,fun a m=> ?_,fun a m=> ?_,fun a m=>y.pold a (x.pold a m),y.sto,x.ext.trans' y.ext fun a m=> ?_,x.rest.trans y.rest,y.gd⟩
 ·exact(y.new a m).elim (x.new a) fun q=> .inr (HX x.rest.hsize q)
 ·exact(y.pnew a m).elim (x.pnew a) fun q=> .inr (HX x.rest.hsize q)
 ·rcases GP.mp m with q|q
  ·exact(k a q).imp (fun z=>GP.mpr (.inl z)) oZ
  ·exact(x.new a q).imp (fun z=>GP.mpr (.inr z)) oZ
theorem af.trans(x:af c ρ s KF KD s')(y:af c KF s' Lh Ln s''):af c ρ s Lh Ln s'':=
 ad.trans' x y (fun u_ m=>by simp at m)
theorem ad.trans{D:List Addr}(x:ad c D ρ s KF KD s')(y:ad c D KF s' Lh Ln s''):ad c D ρ s Lh Ln s'':=
 ad.trans' x y (fun u_ m=> .inl m)
theorem af.D{D:List Addr}(x:af c ρ s KF KD s'):ad c D ρ s KF KD s':={x with ext:=x.ext.mono fun a m=>GP.mpr (.inr m)}
theorem ad.off{D:List Addr}(d: ∀a∈D,a∈ρ.p):ρ.Off (D++ρ.r):=(Pl.Off.p d).append (Pl.Off.r ρ)
theorem ad.R{D:List Addr}(d: ∀a∈D,a∈ρ.p)(x:ad c D ρ s KF KD s')(r:R s.heap ρ y v):Internal.R s'.heap KF y v:=r.mono (ad.off d) x.ext x.le
theorem ad.Rs{D:List Addr}(d: ∀a∈D,a∈ρ.p)(x:ad c D ρ s KF KD s'){y:List V}{v:List Value}(r:Rs s.heap ρ y v):Internal.Rs s'.heap KF y v:=r.mono (ad.off d) x.ext x.le
theorem af.R(x:af c ρ s KF KD s')(r:R s.heap ρ y v):Internal.R s'.heap KF y v:=ad.R (by exact G9 _) x r
theorem af.Rs(x:af c ρ s KF KD s'){y:List V}{v:List Value}(r:Rs s.heap ρ y v):Internal.Rs s'.heap KF y v:=ad.Rs (by exact G9 _) x r
set_option genInjectivity false in
structure En where
 names:List (Str×NameKind)
 own:List (Str×V)
 fre:List (Str×V)
 code:Option Addr
inductive j9(h:Heap)(ρ:Pl):Option V→Option Value→Prop
 |no {w:Option Value}:j9 h ρ none w
 |so {x:V} {v:Value}:R h ρ x v→j9 h ρ (some x) (some v)
theorem j9.mono(nl:ρ.Off S)(x:eh c S h h')(p:ρ.Le h KF){a:Option V}{b:Option Value}(o:j9 h ρ a b):j9 h' KF a b:=by
 cases o with
 |no=>exact .no
 |so r=>exact .so (r.mono nl x p)
structure ba(h:Heap)(ρ:Pl)(env:Env)(en:En):Prop where
 kind:env.scope.kind= .function
 names:env.scope.names=en.names
 gl:env.globals=mainGlobals
 bi:env.builtins=builtinsNs
 lo: ∃m,h.Ns env.locals m∧ ∀x,en.names.lookup x=some .local→j9 h ρ (en.own.lookup x) (m x)
 ce: ∀x,en.names.lookup x=some .cell→ ∃a w,env.cells.lookup x=some a∧h.IsCell a w∧a∈ρ.p∧j9 h ρ (en.own.lookup x) w
 fr: ∀x,en.names.lookup x=some .free→ ∃a w,env.cells.lookup x=some a∧h.IsCell a w∧j9 h ρ (en.fre.lookup x) w
 out:env.locals∈ρ.p
 ap: ∀y z a,env.cells.lookup y=some a→env.cells.lookup z=some a→y=z
 cd: ∀cc,en.code=some cc→env.code= .ref cc
theorem ba.monoX{D:List Addr}{env:Env}{en:En}(t:aQ c ρ σ s.heap)(d: ∀a∈D,a∈ρ.p)(x:ad c D ρ s KF KD s')(e:ba s.heap ρ env en)
 (dl:env.locals∉D) (dc: ∀y a w,env.cells.lookup y=some a→s.heap.IsCell a w→a∉D):ba s'.heap KF env en where
 kind:=e.kind
 names:=e.names
 gl:=e.gl
 bi:=e.bi
 lo:=aL e.lo fun m n k=>⟨m,x.ext.ns (fun z=>(GP.mp z).elim dl (t.disj _ e.out)) n,fun y hy=>(k y hy).mono (ad.off d) x.ext x.le⟩
 ce:=fun y hy=>bU (e.ce y hy) fun a w h1 h2 h4 h3=>⟨a,w,h1,x.ext.cell (fun z=>(GP.mp z).elim (dc _ _ _ h1 h2) (t.cell h2)) h2,x.pold _ h4,h3.mono (ad.off d) x.ext x.le⟩
 fr:=fun y hy=>dC (e.fr y hy) fun a w h1 h2 h3=>⟨a,w,h1,x.ext.cell (fun z=>(GP.mp z).elim (dc _ _ _ h1 h2) (t.cell h2)) h2,h3.mono (ad.off d) x.ext x.le⟩
 out:=x.pold _ e.out
 ap:=e.ap
 cd:=e.cd
theorem ba.monoD{D:List Addr}{env:Env}{en:En}(t:aQ c ρ σ s.heap)(d: ∀a∈D,a∈ρ.p)(x:ad c D ρ s KF KD s')(e:ba s.heap ρ env en)
 (dl:env.locals∉D) (dc: ∀y a,env.cells.lookup y=some a→a∉D):ba s'.heap KF env en:=ba.monoX t d x e dl fun y a u_ h u_=>dc y a h
theorem af.env{env:Env}{en:En}(t:aQ c ρ σ s.heap)(x:af c ρ s KF KD s')(e:ba s.heap ρ env en):ba s'.heap KF env en:=
 ba.monoD t (by exact G9 _) x e (by exact Hg) (fun u_ u_ u_=>by exact Hg)
variable (c)in
noncomputable def FF(ρ:Pl)(h:Heap)(l:List Env):Prop:= ∀env∈l,env.scope.kind≠ .module∧ ∃L o,env.frame=some L∧L∈ρ.p∧c.n₀≤L∧h.get? L=some o∧ ∃es ep,o.data= .dict es ep
theorem FF.fun_(ok:c.Ok){l:List Env}:FF c ρ h l→h.FunFrames c.base l:=by
 induction l with
 |nil=>exact fun u_=>trivial
 |cons env r ih=>
  intro f;obtain⟨hk,L,o,hf,_,hn,ho,es,ep,hd⟩:=f env (.head _)
  refine⟨hk,⟨L,o,hf,?_,ho,fun vs q=>by rw[hd]at q;cases q⟩,ih fun e m=>f e (.tail _ m)⟩
  cases q:c.base.get? L with
  |none=>rfl
  |some o'=>exact absurd (ok.bold _ _ q).1 (H1.mpr hn)
noncomputable def cn(D:List Addr)(h h':Heap):Prop:= ∀a∈D,∀o,h.get? a=some o→(∃es ep,o.data= .dict es ep)→ ∃o',h'.get? a=some o'∧ ∃es ep,o'.data= .dict es ep
theorem FF.mono{D:List Addr}{l:List Env}(t:aQ c ρ σ s.heap)(x:ad c D ρ s KF KD s')(fo:cn D s.heap s'.heap)(f:FF c ρ s.heap l):FF c KF s'.heap l:=fun env m=>by
 refine k_ (f env m) fun hk L o hf hp hn ho hd=> ?_
 by_cases hL:L∈D
 ·refine aL (fo L hL o ho hd) fun o' h1 h2=> ?_;exact⟨hk,L,o',hf,x.pold _ hp,hn,h1,h2⟩
 refine aL (x.ext L o (fun z=>(GP.mp z).elim hL (t.disj _ hp)) ho) fun o' ho' q=> ?_;refine⟨hk,L,o',hf,x.pold _ hp,hn,ho',?_⟩;refine rh hd fun es ep hd=> ?_;exact⟨es,ep,q.dict hd⟩
variable (c)in
structure eg(ρ:Pl)(A:Around)(d:Nat)(h:Heap):Prop where
 hand:A.handled=none
 depth:A.depth+d<recursionLimit
 units:A.units+8*d+220<cLine
 frames: ∃l,A.frames=some l∧FF c ρ h l
theorem eg.monoD{d:Nat}{D:List Addr}(t:aQ c ρ σ s.heap)(x:ad c D ρ s KF KD s')(fo:cn D s.heap s'.heap)(r:eg c ρ A d s.heap):eg c KF A d s'.heap where
 hand:=r.hand
 depth:=r.depth
 units:=r.units
 frames:=aL r.frames fun l e f=>⟨l,e,f.mono t x fo⟩
theorem af.room{d:Nat}(t:aQ c ρ σ s.heap)(x:af c ρ s KF KD s')(r:eg c ρ A d s.heap):eg c KF A d s'.heap:=r.monoD t x (fun u_ m=>by simp at m)
end
variable {en en' KU:En}
section
inductive aG(α:Type) where
 |ok (a:α) (σ:Sg)
 |exc (cls:String) (σ:Sg)
theorem iQ{a:α}{s t:Sg}{x:String}(e:aG.ok a s=aG.exc x t):P:=nomatch e
theorem EO{a:α}{s t:Sg}{x:String}(e:aG.exc x t=aG.ok a s):P:=nomatch e
theorem jF{a b:α}{s t:Sg}(e:aG.ok a s=aG.ok b t)(k:a=b→s=t→P):P:=by cases e;exact k rfl rfl
theorem Cw{x y:String}{s t:Sg}(e:(aG.exc x s:aG α)=aG.exc y t)(k:x=y→s=t→P):P:=by cases e;exact k rfl rfl
noncomputable def uN(o:aG α):Option (α×Sg):=match o with
 | .ok x σ=>some (x,σ)
 | .exc _ _=>none
theorem qP{o:aG α}{p:α×Sg}(h:uN o=some p):o= .ok p.1 p.2:=by
 cases o with
 |ok=>obtain rfl:=IH h;rfl
 |exc=>exact no h
noncomputable def f9(h:Heap)(ρ:Pl)(n:Nat)(cls:String)(e:Value):Prop:=
 ∃a oe vs,e= .ref a∧h.get? a=some oe∧oe.cls= .type cls∧oe.data= .fields vs∧n≤a∧a∈ρ.p∧
  (vs[1]? =some .none∨ ∃T oT ts,vs[1]? =some (.ref T)∧n≤T∧T∈ρ.p∧T≠a∧h.get? T=some oT∧oT.data= .fields ts∧ts[3]? =some .none)
theorem f9.mono{n':Nat}{cls:String}{e:Value}(f:f9 h ρ n cls e)(k:n'≤n):f9 h ρ n' cls e:=by
 refine fV f fun a oe vs h1 h2 h3 h4 h5 h6 h7=> ?_;refine⟨a,oe,vs,h1,h2,h3,h4,HX k h5,h6,?_⟩
 rcases h7 with q|⟨T,oT,ts,q1,q2,q3⟩
 ·exact .inl q
 ·exact .inr ⟨T,oT,ts,q1,HX k q2,q3⟩
variable (c)in
noncomputable def cH(ρ:Pl)(s:Shared)(o:aG α):Value→Shared→Prop:=fun e s'=>match o with
 | .exc cls KD=> ∃KF,af c ρ s KF KD s'∧f9 s'.heap KF s.heap.objs.size cls e
 | .ok .. =>False
variable (c)in
noncomputable def b9(rel:Heap→Pl→α→β→Prop)(ρ:Pl)(s:Shared)(o:aG α):β→Shared→Prop:=fun v s'=>match o with
 | .ok x KD=> ∃KF,af c ρ s KF KD s'∧rel s'.heap KF x v
 | .exc .. =>False
variable (c)in
noncomputable def au(rel:Heap→Pl→α→β→Prop)(A:Around)(t:Sem β)(ρ:Pl)(s:Shared)(o:aG α):Prop:=
 II (model c.prog c.w) A t (b9 c rel ρ s o) (cH c ρ s o) s
noncomputable abbrev RB(_:Heap)(_:Pl)(x:Bool)(v:Bool):Prop:=v=x
variable (c)in
noncomputable abbrev bn(A:Around)(t:Sem Value)(ρ:Pl)(s:Shared)(o:aG V):Prop:=au c R A t ρ s o
variable (c)in
noncomputable abbrev Dd(A:Around)(t:Sem (List Value))(ρ:Pl)(s:Shared)(o:aG (List V)):Prop:=au c Rs A t ρ s o
variable (c)in
noncomputable abbrev pZ(A:Around)(t:Sem Bool)(ρ:Pl)(s:Shared)(o:aG Bool):Prop:=au c RB A t ρ s o
theorem cH.trans{cls:String}{e:Value}(x:af c ρ s KF KD s')
 (f:cH c KF s' (.exc cls Ln:aG α) e s''):cH c ρ s (.exc cls Ln:aG β) e s'':=by
 refine aL f fun Lh y fl=> ?_;exact⟨Lh,x.trans y,fl.mono x.rest.hsize⟩
theorem b9.trans{rel:Heap→Pl→α→β→Prop}{o:aG α}{v:β}(x:af c ρ s KF KD s')(f:b9 c rel KF s' o v s''):b9 c rel ρ s o v s'':=by
 cases o with
 |ok a σ=>refine aL f fun Lh y r=> ?_;exact⟨Lh,x.trans y,r⟩
 |exc=>exact f
theorem cH.trans'{o:aG α}{e:Value}(x:af c ρ s KF KD s')(f:cH c KF s' o e s''):cH c ρ s o e s'':=by
 cases o with
 |ok=>exact f.elim
 |exc=>exact f.trans x
theorem au.trans{rel:Heap→Pl→α→β→Prop}{t:Sem β}{o:aG α}(x:af c ρ s KF KD s')(f:au c rel A t KF s' o):
 II (model c.prog c.w) A t (b9 c rel ρ s o) (cH c ρ s o) s':=IM f (fun u_ u_ q=>q.trans x) fun u_ u_ q=>q.trans' x
theorem au.go{rel:Heap→Pl→α→β→Prop}{t:Sem β}{o:aG α}{Q:β→Shared→Prop}(h:au c rel A t ρ s o)
 (hok: ∀x KD,o= .ok x KD→ ∀v s' KF,af c ρ s KF KD s'→rel s'.heap KF x v→Q v s') (hex: ∀cls KD,o= .exc cls KD→ ∀e s',cH c ρ s (.exc cls KD:aG α) e s'→E e s'):
 II (model c.prog c.w) A t Q E s:=by
 refine IM h (fun v s' hq=> ?_) (fun e s' hf=> ?_)
 ·cases o with
  |ok x KD=>refine aL hq fun KF st r=> ?_;exact hok x KD rfl v s' KF st r
  |exc=>exact hq.elim
 ·cases o with
  |ok=>exact hf.elim
  |exc cls KD=>exact hex cls KD rfl e s' hf
theorem cH.as{cls:String}{e:Value}(f:cH c ρ s (.exc cls KD:aG α) e s'):cH c ρ s (.exc cls KD:aG β) e s':=f
noncomputable def aw(o:Option (aG α))(k:α→Sg→Option (aG β)):Option (aG β):=match o with
 |some (.ok a σ)=>k a σ
 |some (.exc cls σ)=>some (.exc cls σ)
 |none=>none
theorem af.toks{D:List Addr}{t:Nat}(st:aQ c ρ σ s.heap)(g:Gd c s.heap):ad c D ρ s ρ σ {s with toks:=t}:=
 ⟨GW _,fun u_ h=> .inl h,fun u_ h=> .inl h,fun u_ h=>h,st,.refl _ _,⟨rfl,rfl,HY _,fun u_ u_=>rfl,id,HY _⟩,g⟩
theorem ad.write{D P:List Addr}{t:Nat}(ok:c.Ok)(st:aQ c ρ σ s.heap)(g:Gd c s.heap)(d: ∀a∈D,a∈ρ.p)
 (k: ∀b o,b∉D→s.heap.get? b=some o→h'.get? b=some o) (hz:s.heap.objs.size≤h'.objs.size) (hP: ∀a∈P,a∈ρ.p∨(s.heap.objs.size≤a∧a<h'.objs.size)) (hP': ∀a∈ρ.p,a∈P):
 ad c D ρ s ⟨ρ.r,P⟩ σ {s with heap:=h',toks:=t}:=by
 have x:eh c D s.heap h':= .of_keeps fun b o n e=>k b o n e;have lo: ∀a∈D,c.n₀≤a:=fun a m=>(st.plow a (d a m)).1;refine⟨GW _,fun u_ h=> .inl h,fun a m=>(hP a m).imp id Ge,hP',st.mono (Pl.Off.p d) x (fun a m n=>st.disj a (d a n) m) hz hP g.size,x.mono fun a m=>GP.mpr (.inl m),.heap hz,g.step ok lo x (fun p hp=> ?_) hz⟩;exact(g.codes p hp).keep (fun o q=>k _ _ (fun m=>absurd (ok.cold p hp).1 (H1.mpr (lo _ m))) q) fun o q=>k _ _ (fun m=>absurd (ok.told _ (ok.tcs p hp)) (H1.mpr (lo _ m))) q
theorem ad.write'{D:List Addr}{t:Nat}(ok:c.Ok)(st:aQ c ρ σ s.heap)(g:Gd c s.heap)(d: ∀a∈D,a∈ρ.p)
 (k: ∀b o,b∉D→s.heap.get? b=some o→h'.get? b=some o) (hz:s.heap.objs.size≤h'.objs.size):ad c D ρ s ρ σ {s with heap:=h',toks:=t}:=
 ad.write (P:=ρ.p) ok st g d k hz (fun u_ m=> .inl m) (fun u_ m=>m)
theorem af.keeps{t:Nat}(ok:c.Ok)(st:aQ c ρ σ s.heap)(g:Gd c s.heap)(k: ∀b o,s.heap.get? b=some o→h'.get? b=some o)(hz:s.heap.objs.size≤h'.objs.size):
 af c ρ s ρ σ {s with heap:=h',toks:=t}:=ad.write' ok st g (by exact G9 _) (fun b o u_ e=>k b o e) hz
theorem af.push{o:Obj}{t:Nat}(ok:c.Ok)(st:aQ c ρ σ s.heap)(g:Gd c s.heap):af c ρ s ρ σ {s with heap:=s.heap.push o,toks:=t}:=
 af.keeps ok st g (fun b u_ e=>J_ _ e) (by rw[J'];exact H3 _)
theorem af.priv{o:Obj}{t:Nat}(ok:c.Ok)(st:aQ c ρ σ s.heap)(g:Gd c s.heap):af c ρ s ⟨ρ.r,s.heap.objs.size::ρ.p⟩ σ {s with heap:=s.heap.push o,toks:=t}:=
 ad.write ok st g (by exact G9 _) (fun b u_ u_ e=>J_ _ e) (by rw[J'];exact H3 _)
  (fun a m=>by rw[J'];rcases GY.mp m with rfl|q;exact .inr ⟨HY _,H0 _⟩;exact .inl q) (fun a m=> .tail _ m)
end
variable {o:aG V}
section
theorem wP{a b:Int}(h:b.natAbs<2^62):Builtin.divisionGoesByPylong a b=false:=by
 unfold Builtin.divisionGoesByPylong;rw[Bool.and_eq_false_iff];left;dsimp only;rw[decide_eq_false_iff_not]
 by_cases hb:b==0
 ·simp[hb]
 ·rw[if_neg hb]
  have h0:b.natAbs≠0:=by simpa using hb
  have:b.natAbs.log2<62:=(Nat.log2_lt h0).mpr h;exact H1.mpr (HX (Nat.succ_le_succ (Nat.div_le_self ..)) (HX this (H9 rfl)))
theorem ma{a:Int}(h:a.natAbs<2^62):Builtin.Int.intBits a≤64:=by
 refine intBits_le_64 ?_ ?_<;>first|exact btn ‹_› (by exact ac)|exact bts ‹_› (by exact ac)
noncomputable def bG(a:Int):Bool:=decide (a.natAbs<2^62)
noncomputable def binI(op:Operator)(a b:Int):Option Int:=match op with
 | .Add=>some (a+b)
 | .Sub=>some (a-b)
 | .Mult=>if bG a&&bG b then some (a*b)else none
 | .FloorDiv=>if b≠0∧bG b then some (a.fdiv b)else none
 | .Mod=>if b≠0∧bG b then some (a.fmod b)else none
 |_=>none
set_option tactic.hygienic true in
theorem un{op:Operator}{a b i:Int}{t u:Tok}(st:aQ c ρ σ s.heap)(g:Gd c s.heap)(e:Internal.binI op a b=some i):
 bn c A (binaryOp op (.int a t) (.int b u)) ρ s (.ok (.int i) σ):=by
 have fin: ∀i',i'=i→ ∃KF,af c ρ s KF σ {s with toks:=s.toks+1}∧R s.heap KF (.int i) (.int i' s.toks):=fun i' q=>⟨ρ,.toks st g,q▸ .int⟩
 unfold Internal.binI at e
 cases op with
 |Add=>obtain rfl:=IH e;exact add_int (fin _ rfl)
 |Sub=>obtain rfl:=IH e;exact sub_int (fin _ rfl)
 |Mult=>
  dsimp only at e
  split at e
  ·rename_i h;obtain rfl:=IH e;simp only[bG,Gj,decide_eq_true_eq]at h;refine mul_int (fin _ rfl) ?_;unfold IntMulOk;have:=ma h.1;simp[shortFactorBits];omega
  ·exact no e
 |FloorDiv=>
  dsimp only at e
  split at e
  ·rename_i h;obtain rfl:=IH e;simp only[bG,decide_eq_true_eq]at h;exact floordiv_int h.1 (fin _ rfl) (.inl (wP h.2))
  ·exact no e
 |Mod=>
  dsimp only at e
  split at e
  ·rename_i h;obtain rfl:=IH e;exact mod_int h.1 (fin _ rfl)
  ·exact no e
 |_=>exact no e
noncomputable abbrev Pl.add(ρ:Pl)(a:Addr):Pl:=⟨ρ.r++[a],ρ.p⟩
theorem af.pushCell{l:aa}{o:Obj}{t:Nat}(ok:c.Ok)(st:aQ c ρ σ s.heap)(g:Gd c s.heap)(r: ∀h' KF,h'.get? s.heap.objs.size=some o→(∀{y:V} {v:Value},Internal.R s.heap ρ y v→Internal.R h' KF y v)→(∀{y:List V} {v:List Value},Internal.Rs s.heap ρ y v→Internal.Rs h' KF y v)→fk h' KF l s.heap.objs.size)(hf:o.isFreed=false:=by rfl):
 af c ρ s (ρ.add s.heap.objs.size) (σ++[l]) {s with heap:=s.heap.push o,toks:=t}:=by
 have k: ∀b o',s.heap.get? b=some o'→(s.heap.push o).get? b=some o':=fun b o' e=>J_ _ e
 have p:af c ρ s ρ σ {s with heap:=s.heap.push o,toks:=t}:=af.keeps ok st g k (by rw[J'];exact H3 _)
 have fr:ρ.free s.heap.objs.size:=st.new (HY _)
 have le:ρ.Le s.heap (ρ.add s.heap.objs.size):=⟨GQ _ _,fun a o f e=>⟨fun m=>(GP.mp m).elim f.1 fun q=>absurd (Ka e) (by rw[GR.mp q];exact Ic _),f.2⟩⟩
 refine⟨le.pre,fun a m=> ?_,fun a m=> .inl m,fun a m=>m,⟨?_,?_,fun j a l' h1 h2=> ?_,fun a m=> ?_,fun a m=> ?_,fun a m n=> ?_⟩,p.ext,p.rest,p.gd⟩
 ·rcases GP.mp m with q|q
  ·exact .inl q
  ·rw[GR.mp q];exact .inr (HY _)
 ·exact List.nodup_append.mpr ⟨st.nodup,by simp,fun a ha b hb q=>fr.1 (by rw[GR.mp hb]at q;exact q▸ha)⟩
 ·rw[G6,G6,st.len];rfl
 ·by_cases hj:j<ρ.r.length
  ·rw[He hj]at h1;rw[He (st.len▸hj)]at h2
   exact(st.at_ j a l' h1 h2).mono (Pl.Off.nil _) (.of_keeps (c:=c) fun b o u_ e=>k b o e) le (by exact Hg)
  ·have hl:=(G1.mp h1).1;rw[G6,HC]at hl
   have ej:j=ρ.r.length:=by exact jE ‹_› ‹_›
   subst ej;rw[Hq (HY _),Iq]at h1;rw[st.len,Hq (HY _),Iq]at h2;obtain rfl:=IH h1;obtain rfl:=IH h2;exact r _ _ (J9 _ hf) (fun q=>q.mono (Pl.Off.nil _) (.of_keeps (c:=c) fun b o u_ e=>k b o e) le) (fun q=>q.mono (Pl.Off.nil _) (.of_keeps (c:=c) fun b o u_ e=>k b o e) le)
 ·rcases GP.mp m with q|q
  ·exact st.low a q
  ·rw[GR.mp q];exact g.size
 ·exact⟨(st.plow a m).1,by have:=(st.plow a m).2;show a<(s.heap.push o).objs.size;rw[J'];exact Il this⟩
 ·rcases GP.mp n with q|q
  ·exact st.disj a m q
  ·rw[GR.mp q]at m;exact absurd (st.plow _ m).2 (Ic _)
theorem aQ.last(st:aQ c ρ σ h)(a:Addr):(ρ.add a).r[σ.length]? =some a:=by
 show(ρ.r++[a])[σ.length]? =_;rw[←st.len,Hq (HY _),Iq];rfl
theorem af.pushList{t:Nat}(ok:c.Ok)(st:aQ c ρ σ s.heap)(g:Gd c s.heap)(r:Internal.Rs s.heap ρ l vs):
 af c ρ s (ρ.add s.heap.objs.size) (σ++[.lst l]) {s with heap:=s.heap.push (aB vs n),toks:=t}:=
 af.pushCell (o:=aB vs n) ok st g fun h' KF e u_ k=>⟨vs,n,e,k r⟩
theorem cU(e:s.heap.get? a=some (ao vs n)):IsTup s.heap a vs.toArray:=⟨_,e,rfl,n,rfl⟩
theorem bS(e:s.heap.get? a=some (aB vs n)):s.heap.IsList a vs.toArray:=⟨_,e,rfl,n,rfl⟩
set_option tactic.hygienic true in
theorem qa{l l':List V}{v v':Value}(ok:c.Ok)(st:aQ c ρ σ s.heap)(g:Gd c s.heap)(r:R s.heap ρ (.tup l) v)(r':R s.heap ρ (.tup l') v')(hz:l.length+l'.length≤2^20):
 bn c A (binaryOp .Add v v') ρ s (.ok (.tup (l++l')) σ):=by
 cases r with
 |tup e ef rs=>
  rename_i a vs n
  cases r' with
  |tup e' ef' rs'=>
   rename_i b ws n';have le:=rs.length;have le':=rs'.length
   by_cases hv:vs=[]
   ·subst hv;have hl:l=[]:=Hn.mp le;subst hl;refine concat_meets (s:=s) ⟨_,e,rfl⟩ ⟨_,e',rfl⟩ noFill_tuple_add seq_tuple_add JY JZ (J0 _ _)
     (tuple_addW0 a b _ ws.toArray n n' none none #[] #[] (by exact ac)) ⟨e,e',ρ,.refl st g,.tup e' ef' rs'⟩
   ·by_cases hw:ws=[]
    ·subst hw;have hl:l'=[]:=Hn.mp le';subst hl;rw[G4];refine concat_meets (s:=s) ⟨_,e,rfl⟩ ⟨_,e',rfl⟩ noFill_tuple_add seq_tuple_add JY JZ (J0 _ _)
      (tuple_addW1 a b vs.toArray _ n n' none none #[] #[] (by simpa using hv) (by exact ac)) ⟨e,e',ρ,.refl st g,.tup e ef rs⟩
    ·refine concat_meets (s:=s) ⟨_,e,rfl⟩ ⟨_,e',rfl⟩ noFill_tuple_add seq_tuple_add JY JZ (J0 _ _)
      (tuple_addW2 a b vs.toArray ws.toArray n n' none none #[] #[] (by simpa using hv) (by simpa using hw) (by rw[Hi,Hi,←le,←le'];exact HX hz (by decide))) ⟨e,e',?_⟩
     have p:af c ρ s ρ σ {s with heap:=s.heap.push (ao (vs++ws) 0),toks:=s.toks}:=af.push ok st g
     have ee:vs.toArray++ws.toArray=(vs++ws).toArray:=by exact List.append_toArray vs ws
     rw[ee];exact⟨ρ,p,.tup (J9 _ rfl) (st.new (HY _)) (p.Rs (rs.append rs'))⟩
end
section
noncomputable def wF(u:Value)(y:V):Option Bool:=if lZ u=true then(if i7 y=true then some true else(eN y).map fun u_=>false)else(nv u).bind fun a=>((kB y).bind nv).map fun b=>a==b
mutual
/-- ==,where it is told of these kinds-/
noncomputable def mi(σ:Sg):Nat→V→V→Option Bool
 |0,_,_=>none
 |n+1,x,y=>match x with
  | .val u=>wF u y
  | .int a=>(cY y).map fun b=>a==b
  | .str a=>(Cf y).map fun b=>a==b
  | .tup a=>if i7 y=true then some false else(eN y).bind fun b=>dN σ n a b
  | .lst j=>(gJ y).bind fun k=>(aI σ j).bind fun a=>(aI σ k).bind fun b=>if a.length=b.length then dN σ n a b else some false
  | .inst _ _=>none
  | .rng _ _ _=>none
/--item by item;false where one is longer-/
noncomputable def dN(σ:Sg):Nat→List V→List V→Option Bool
 |0,_,_=>none
 |n+1,l,m=>match l with
  |[]=>match m with
   |[]=>some true
   |_::_=>some false
  |x::l=>match m with
   |[]=>some false
   |y::m=>(mi σ n x y).bind fun a=>(dN σ n l m).map fun b=>a&&b
end
theorem pT(e:dN σ n l m=some b):
 ∃f:Nat→Bool,(∀j x y,l[j]? =some x→m[j]? =some y→ ∃k,k<n∧mi σ k x y=some (f j))∧b=((GV (min l.length m.length)).all f&&l.length==m.length):=by
 induction n generalizing l m b with
 |zero=>exact no e
 |succ n ih=>
  cases l with
  |nil=>cases m with
   |nil=>exact⟨fun u_=>true,fun u_ u_ u_ h=>no h,(IH e).symm⟩
   |cons=>exact⟨fun u_=>true,fun u_ u_ u_ h=>no h,(IH e).symm⟩
  |cons x l=>cases m with
   |nil=>exact⟨fun u_=>true,fun u_ u_ u_ u_ h=>no h,(IH e).symm⟩
   |cons y m=>
    exact ae e fun p hp w=>aN w fun q hq w=>by
     refine aL (ih hq) fun f h1 h2=> ?_
     refine⟨fun j=>match j with|0=>p|j+1=>f j,fun j x' y' hx hy=> ?_,?_⟩
     ·cases j with
      |zero=>exact⟨n,H0 _,IH hx▸IH hy▸hp⟩
      |succ j=>exact(h1 j x' y' hx hy).elim fun k z=>⟨k,Il z.1,z.2⟩
     ·rw[←w,h2,G_,G_,Nat.succ_min_succ,List.range_succ_eq_map,Hr,List.all_map,Bool.and_assoc,show(l.length+1==m.length+1)=(l.length==m.length)from by simp]
      rfl
theorem rW(st:aQ c ρ σ h): ∀n:Nat,(∀{x y:V} {v:Value} {b:Bool},R h ρ x v→R h ρ y v→mi σ n x y=some b→b=true)∧(∀{l m:List V} {vs:List Value} {b:Bool},Rs h ρ l vs→Rs h ρ m vs→dN σ n l m=some b→b=true):=by
 intro n
 induction n with
 |zero=>exact⟨fun u_ u_ e=>no e,fun u_ u_ e=>no e⟩
 |succ n ih=>
  refine⟨fun {x y v b} r q e=> ?_,fun {l m vs b} r q e=> ?_⟩
  ·cases r with
   |val=>
    refine eZ (show wF v y=some b from e) (fun hu e=> ?_) fun u_ e=>ae e fun a ha e=>aN e fun b' hb e=>ae hb fun w hw hb=> ?_
    ·obtain rfl:=iC hu;obtain rfl:=q.noneQ;exact(IH e).symm
    ·obtain rfl:=oB ha;obtain rfl:=ix hw
     cases q
     obtain rfl:=IH hb;rw[←e];exact beq_self_eq_true _
   |int=>exact aN e fun b' hb w=>by obtain rfl:=b_ hb;cases q;rw[←w];exact beq_self_eq_true _
   |str=>exact aN e fun b' hb w=>by obtain rfl:=zW hb;cases q;rw[←w];exact beq_self_eq_true _
   |tup h1 f1 rs=>
    refine eZ (show(if i7 y=true then some false else(eN y).bind fun b=>dN σ n _ b)=some b from e) (fun hu e=> ?_) fun u_ e=>ae e fun m hm e=> ?_
    ·obtain rfl:=ly hu;cases q
    ·obtain rfl:=eA hm
     cases q with
     |tup h2 f2 qs=>
      rw[h1]at h2
      cases h2
      exact ih.2 rs qs e
   |lst h1=>
    refine ae (show((gJ y).bind fun k=>(aI σ _).bind fun a=>(aI σ k).bind fun b=>if a.length=b.length then dN σ n a b else some false)=some b from e) fun k hk e=>ae e fun a' ha e=>ae e fun b' hb e=> ?_
    obtain rfl:=gj hk
    cases q with
    |lst h2=>
     obtain rfl:=(List.getElem_inj st.nodup).mp ((G1.mp h1).2.trans (G1.mp h2).2.symm);obtain rfl:=IH (ha.symm.trans hb);rw[if_pos rfl]at e
     refine bc (st.at_ _ _ _ h1 (bE ha)) fun vs n' u_ rs=> ?_
     exact ih.2 rs rs e
   |inst=>exact no e
   |rng=>exact no e
  ·cases r with
   |nil=>obtain rfl:=q.nil2Q;exact(IH e).symm
   |cons r rs=>cases q with
    |cons q qs=>exact ae e fun p hp e=>aN e fun p' hq e=>by rw[←e,ih.1 r q hp,ih.2 rs qs hq];rfl
theorem pc(rs:Rs h ρ l vs)(hj:j<vs.toArray.size): ∃x,l[j]? =some x∧R h ρ x vs.toArray[j]:=by
 have hj':j<l.length:=by rw[rs.length];trivial
 refine aL (rs.get (G3 hj')) fun v e r=> ?_;refine⟨l[j],G3 hj',?_⟩
 have:vs.toArray[j]=v:=by
  have:=G1.mp e;simpa using this.2
 rw[this];exact r
theorem cA(e:s.heap.get? a=some (ao vs n)):s.heap.IsTuple a vs.toArray:=⟨_,e,rfl,n,rfl⟩
theorem lN{f:Nat→Bool}(rs:Rs s.heap ρ l vs)(qs:Rs s.heap ρ m ws)
 (ih: ∀k,k<n→ ∀(B:Around) {x y:V} {v w:Value} {b:Bool},mi σ k x y=some b→R s.heap ρ x v→R s.heap ρ y w→B.units+k<cLine→EqAt B s v w b)
 (h1: ∀j x y,l[j]? =some x→m[j]? =some y→ ∃k,k<n∧mi σ k x y=some (f j)) (hu:A.units+n<cLine):
 ∀j (h1:j<vs.toArray.size) (h2:j<ws.toArray.size),EqAt A.in1 s vs.toArray[j] ws.toArray[j] (f j):=fun j hj hj'=>by
 refine aL (pc rs hj) fun x ex rx=> ?_;refine aL (pc qs hj') fun y ey ry=> ?_;refine aL (h1 j x y ex ey) fun k hk ek=> ?_
 exact ih k hk _ ek rx ry (by show A.units+1+k<cLine;exact cmx ‹_› ‹_›)
theorem rN(h:RcAt A s (.ref a) (.ref a') b)(k:a=a'→b=true):EqAt A s (.ref a) (.ref a') b:=by
 by_cases q:a=a'
 ·rw[k q,q];exact .same _
 ·exact .of_refs q h
noncomputable def EK(A:Around)(s:Shared)(v w:Value)(b:Bool):Prop:=RcAt A s v w b∧EqAt A s v w b∧RcNeAt A s v w (!b)
theorem vF{u:Value}(hu:A.units<cLine)(e:wF u y=some b)(q:R s.heap ρ y w):EK A s u w b:=by
 refine eZ e (fun h e=>eZ e (fun h' e=> ?_) fun u_ e=>aN e fun l hl e=> ?_) fun u_ e=>ae e fun a ha e=>aN e fun b' hb e=>ae hb fun w' hw hb=> ?_
 ·obtain rfl:=iC h;obtain rfl:=ly h';obtain rfl:=q.valQ;obtain rfl:=IH e;exact⟨RcAt.none_none,EqAt.same _,RcNeAt.none_none⟩
 ·obtain rfl:=iC h;obtain rfl:=eA hl;obtain rfl:=IH e
  cases q using R.tupE with
  |tup h2 f2 rs2=>
  exact⟨RcAt.none_tuple (cA h2) hu,EqAt.none_tuple (cA h2) hu,RcNeAt.none_tuple (cA h2) hu⟩
 ·obtain rfl:=oB ha;obtain rfl:=ix hw;obtain rfl:=q.valQ;obtain rfl:=oB hb;obtain rfl:=IH e;exact⟨RcAt.bool_bool _ _,EqAt.bool_bool _ _,RcNeAt.bool_bool _ _⟩
theorem wx{k':Nat}(st:aQ c ρ σ s.heap)(hu:A.units+(n+1)<cLine)(h1:s.heap.get? a=some (ao vs k))(h2:s.heap.get? a'=some (ao ws k'))(rs:Rs s.heap ρ l vs)(qs:Rs s.heap ρ m ws)
 (ih: ∀k,k<n→ ∀(B:Around) {x y:V} {v w:Value} {b:Bool},mi σ k x y=some b→R s.heap ρ x v→R s.heap ρ y w→B.units+k<cLine→EqAt B s v w b) (e:dN σ n l m=some b):EK A s (.ref a) (.ref a') b:=by
 have hu':A.units<cLine:=H8 (H4 _ _) hu;refine aL (pT e) fun f g1 g2=> ?_;have pr:=lN (A:=A) rs qs ih g1 (Iw hu);rw[rs.length,qs.length]at g2;have rc:RcAt A s (.ref a) (.ref a') b:=g2▸RcAt.tuples (cA h1) (cA h2) hu' pr
 exact⟨rc,rN rc fun q=>by subst q;rw[h1]at h2;cases h2;exact(rW st n).2 rs qs e,g2▸RcNeAt.tuples (cA h1) (cA h2) hu' pr⟩
theorem wQ{j':Nat}(st:aQ c ρ σ s.heap)(hu:A.units+(n+1)<cLine)(h1:ρ.r[j]? =some a)(h2:ρ.r[j']? =some a')(hl:aI σ j=some l)(hm:aI σ j'=some m)
 (ih: ∀k,k<n→ ∀(B:Around) {x y:V} {v w:Value} {b:Bool},mi σ k x y=some b→R s.heap ρ x v→R s.heap ρ y w→B.units+k<cLine→EqAt B s v w b) (e:(if l.length=m.length then dN σ n l m else some false)=some b):EK A s (.ref a) (.ref a') b:=by
 have hu':A.units<cLine:=H8 (H4 _ _) hu
 refine bc (st.at_ _ _ _ h1 (bE hl)) fun vs k o1 rs=> ?_
 refine bc (st.at_ _ _ _ h2 (bE hm)) fun ws k' o2 qs=> ?_
 have sm (q:a=a'):l=m∧j=j':=by
  subst q;obtain rfl:=(List.getElem_inj st.nodup).mp ((G1.mp h1).2.trans (G1.mp h2).2.symm);exact⟨IH (hl.symm.trans hm),rfl⟩
 refine eZ e (fun hlen e=> ?_) fun hlen e=> ?_
 ·refine aL (pT e) fun f g1 g2=> ?_;have pr:=lN (A:=A) rs qs ih g1 (Iw hu);have hsz:vs.toArray.size=ws.toArray.size:=rs.length.symm.trans (hlen.trans qs.length)
  have eb:b=(GV vs.toArray.size).all f:=by
   rw[g2,hlen,Ik,beq_self_eq_true,Gp];exact congrArg (fun n=>(GV n).all f) (qs.length.trans hsz.symm)
  have rc:RcAt A s (.ref a) (.ref a') b:=eb▸RcAt.lists (bS o1) (bS o2) hsz hu' pr
  exact⟨rc,rN rc fun q=>by obtain rfl:=(sm q).1;exact(rW st n).2 rs rs e,eb▸RcNeAt.lists (bS o1) (bS o2) hsz hu' pr⟩
 ·obtain rfl:=IH e;have hsz:(vs.toArray.size !=ws.toArray.size)=true:=bne_iff_ne.mpr fun q=>hlen (rs.length.trans (q.trans qs.length.symm));have rc:RcAt A s (.ref a) (.ref a') false:=RcAt.lists_lengths (bS o1) (bS o2) hsz hu';exact⟨rc,rN rc fun q=>absurd (congrArg List.length (sm q).1) hlen,RcNeAt.lists_lengths (bS o1) (bS o2) hsz hu'⟩
theorem vw(st:aQ c ρ σ s.heap): ∀(n:Nat) (A:Around) {x y:V} {v w:Value} {b:Bool},mi σ n x y=some b→R s.heap ρ x v→R s.heap ρ y w→A.units+n<cLine→EK A s v w b:=by
 intro n
 induction n using Nat.strongRecOn with
 |ind n ih=>
  intro A x y v w b e r q hu
  cases n with
  |zero=>exact no e
  |succ n=>
   have ih': ∀k,k<n→ ∀(B:Around) {x y:V} {v w:Value} {b:Bool},mi σ k x y=some b→R s.heap ρ x v→R s.heap ρ y w→B.units+k<cLine→EqAt B s v w b:=
    fun k hk B u_ u_ u_ u_ u_ e r q hu=>(ih k (Il hk) B e r q hu).2.1
   have hu':A.units<cLine:=H8 (H4 _ _) hu
   cases r with
   |val=>exact vF hu' e q
   |int=>exact aN e fun b' hb w=>by obtain rfl:=b_ hb;obtain⟨_,rfl⟩:=q.intQ;subst w;exact⟨RcAt.int_int _ _ _ _,EqAt.int_int _ _ _ _,RcNeAt.int_int _ _ _ _⟩
   |str=>exact aN e fun b' hb w=>by obtain rfl:=zW hb;obtain⟨_,rfl⟩:=q.strQ;subst w;exact⟨RcAt.str_str _ _ _ _,EqAt.str_str _ _ _ _,RcNeAt.str_str _ _ _ _⟩
   |tup h1 f1 rs=>
    refine eZ (show(if i7 y=true then some false else(eN y).bind fun b=>dN σ n _ b)=some b from e) (fun h e=> ?_) fun u_ e=>ae e fun m hm e=> ?_
    ·obtain rfl:=ly h;obtain rfl:=q.valQ;obtain rfl:=IH e;exact⟨RcAt.tuple_none (cA h1) hu',EqAt.tuple_none (cA h1) hu',RcNeAt.tuple_none (cA h1) hu'⟩
    ·obtain rfl:=eA hm
     cases q with
     |tup h2 f2 qs=>exact wx st hu h1 h2 rs qs ih' e
   |lst h1=>
    exact ae (show((gJ y).bind fun k=>(aI σ _).bind fun a=>(aI σ k).bind fun b=>if a.length=b.length then dN σ n a b else some false)=some b from e) fun k hk e=>ae e fun a' ha e=>ae e fun b' hb w=>by
     obtain rfl:=gj hk
     cases q with
     |lst h2=>exact wQ st hu h1 h2 ha hb ih' w
   |inst=>exact no e
   |rng=>exact no e
end
section
noncomputable abbrev V.none:V:= .val .none
noncomputable abbrev V.bool(b:Bool):V:= .val (.bool b)
noncomputable def aY(x:V):Bool:=i7 x
theorem hO(r:R h ρ x v):(v== .none)=aY x:=by
 cases r with
 |val=>cases v<;>rfl
 |int=>rfl
 |str=>rfl
 |tup=>rfl
 |lst=>rfl
 |inst=>rfl
 |rng=>rfl
noncomputable abbrev B5:Nat:=200
noncomputable def wz(x y:V)(f:Int→Int→Bool):Option Bool:=(cY x).bind fun a=>(cY y).map fun b=>f a b
noncomputable def FH(x:V):Bool:=(cY x).isSome
noncomputable def Fx(a:Int)(x:V):Bool:=(cY x).any (· ==a)
noncomputable def Bs(a:Int):Value→Bool
 | .int b _=>b==a
 |_=>false
noncomputable def eo(σ:Sg)(op:CmpOp)(x y:V):Option Bool:=match op with
 | .Lt=>wz x y fun a b=>decide (a<b)
 | .LtE=>wz x y fun a b=>decide (a≤b)
 | .Gt=>wz x y fun a b=>decide (b<a)
 | .GtE=>wz x y fun a b=>decide (b≤a)
 | .Eq=>mi σ B5 x y
 | .NotEq=>(mi σ B5 x y).map (!·)
 | .Is=>if i7 y=true then some (aY x)else none
 | .IsNot=>if i7 y=true then some (!aY x)else none
 | .In=>(cY x).bind fun a=>(eN y).bind fun l=>if l.all FH=true then some (l.any (Fx a))else none
 | .NotIn=>none
theorem zv{a:Int}(r:Rs h ρ l vs):l.all FH=true→(∀y∈vs,∃b u,y= .int b u)∧vs.any (Bs a)=l.any (Fx a):=
 Rs.ind (Q:=fun l vs=>l.all FH=true→(∀y∈vs,∃b u,y= .int b u)∧vs.any (Bs a)=l.any (Fx a)) (fun u_=>⟨bZ,rfl⟩) (fun r u_ ih e=>by
  refine oA (Gi.mp e) fun e1 e2=> ?_
  cases r with
  |int=>exact⟨aj ⟨_,_,rfl⟩ (ih e2).1,congrArg _ (ih e2).2⟩
  |_=>exact bM e1) r
theorem gZ{op:CmpOp}(st:aQ c ρ σ s.heap)(g:Gd c s.heap)(hu:A.units+B5<cLine)(e:eo σ op x y=some b)(r:R s.heap ρ x v)(q:R s.heap ρ y w):
 bn c A (compareOp op v w) ρ s (.ok (.bool b) σ):=by
 have fin: ∃KF,af c ρ s KF σ s∧R s.heap KF (.bool b) (.bool b):=⟨ρ,.refl st g,.val⟩;have i2 {f:Int→Int→Bool} (e:wz x y f=some b): ∃i t j u,v= .int i t∧w= .int j u∧b=f i j:=
  ae e fun a ha e=>aN e fun b' hb w'=>by obtain rfl:=b_ ha;obtain rfl:=b_ hb;obtain⟨_,rfl⟩:=r.intQ;obtain⟨_,rfl⟩:=q.intQ;exact⟨_,_,_,_,rfl,rfl,w'.symm⟩
 cases op with
 |Lt=>refine bN (i2 e) fun i t j u zz4 zz5 zz6=> ?_;subst zz4;subst zz5;subst zz6;exact PyProof.Rows.lt_int fin
 |LtE=>refine bN (i2 e) fun i t j u zz4 zz5 zz6=> ?_;subst zz4;subst zz5;subst zz6;exact PyProof.Rows.le_int fin
 |Gt=>refine bN (i2 e) fun i t j u zz4 zz5 zz6=> ?_;subst zz4;subst zz5;subst zz6;exact PyProof.Rows.gt_int fin
 |GtE=>refine bN (i2 e) fun i t j u zz4 zz5 zz6=> ?_;subst zz4;subst zz5;subst zz6;exact PyProof.Rows.ge_int fin
 |Eq=>exact(vw st _ A e r q hu).1 _ _ _ _ fin
 |NotEq=>exact aN e fun b' e' w'=>(vw st _ A e' r q hu).2.2 _ _ _ _ (w'▸fin)
 |Is=>
  exact bI e fun h w'=>by
   obtain rfl:=ly h;obtain rfl:=q.valQ;refine is_none ?_;rw[hO r,IH w'];exact fin
 |IsNot=>
  exact bI e fun h w'=>by
   obtain rfl:=ly h;obtain rfl:=q.valQ;refine isNot_none ?_;rw[hO r,IH w'];exact fin
 |In=>
  exact ae e fun a ha w'=>ae w' fun l hl w'=>bI w' fun hall u'=>by
   obtain rfl:=b_ ha;obtain rfl:=eA hl;obtain⟨_,rfl⟩:=r.intQ
   cases q with
   |tup h2 f2 qs=>
    obtain⟨k1,k2⟩:=zv qs hall;refine in_tupleAt (Bs a) (cA h2) (fun y hy=> ?_) ?_
    ·refine rh (k1 y (Array.mem_toArray.mp hy)) fun b u zz2=> ?_;subst zz2;exact EqAt.int_int _ _ _ _
    ·rw[List.any_toArray,k2,IH u'];exact fin
 |NotIn=>exact no e
noncomputable def bu(σ:Sg)(x:V):Option Bool:= @V.casesOn (fun u_=>Option Bool) x (fun u=>if lZ u=true then some false else nv u) (fun a=>some (a !=0)) (fun u_=>none) (fun l=>if l.length≤2^20 then some (!l.isEmpty)else none) (fun k=>(aI σ k).bind fun l=>if l.length≤2^20 then some (!l.isEmpty)else none) (fun u_ u_=>none) (fun u_ u_ u_=>none)
theorem bX{Q:Bool→Shared→Prop}(st:aQ c ρ σ s.heap)(e:bu σ x=some b)(r:R s.heap ρ x v)(h: ∀t,Q b {s with toks:=t}):II (model c.prog c.w) A (truthy v) Q E s:=by
 have em: ∀{l:List V} {vs:List Value},Rs s.heap ρ l vs→(!vs.toArray.isEmpty)= !l.isEmpty:=fun rs=>by cases rs<;>rfl
 have sz: ∀{l:List V} {vs:List Value},Rs s.heap ρ l vs→l.length≤2^20→vs.toArray.size<2^62:=fun rs h=>H8 (rs.length▸h) (by decide)
 cases r with
 |val=>exact eZ (show(if lZ v=true then some false else nv v)=some b from e) (fun hu w=>by obtain rfl:=iC hu;obtain rfl:=IH w;exact fun u_ u_ u_=>h s.toks) fun u_ w=>by obtain rfl:=oB w;exact Ji (h s.toks)
 |int=>obtain rfl:=IH e;exact PyProof.Rows.truthy_int (h s.toks)
 |tup h1 f1 rs=>exact bI (show(if _≤2^20 then _ else none)=some b from e) fun hz w=>by obtain rfl:=IH w;exact truthy_tuple (cU h1) (GB.mpr (Nat.lt_trans (sz rs hz) (by decide))) (em rs▸h _)
 |lst h1=>
  exact ae (show((aI σ _).bind fun l=>if l.length≤2^20 then some (!l.isEmpty)else none)=some b from e) fun l hl w=>bI w fun hz w=>by
   obtain rfl:=IH w
   refine bc (st.at_ _ _ _ h1 (bE hl)) fun vs n o rs=> ?_
   exact wpAny_truthy_list (bS o) (GB.mpr (Nat.lt_trans (sz rs hz) (by decide))) (em rs▸h _)
 |_=>exact no e
noncomputable def gF(l:List V)(i:Int):Option V:=if-(2^62)≤i∧i<2^62 then(seqIndex? i l.length).bind (l[·]?)else none
noncomputable def gr(σ:Sg)(x:V)(i:Int):Option V:= @V.casesOn (fun u_=>Option V) x (fun u_=>none) (fun u_=>none) (fun u_=>none) (fun l=>gF l i) (fun k=>(aI σ k).bind fun l=>gF l i) (fun u_ u_=>none) (fun u_ u_ u_=>none)
theorem eV{o i:Value}{id:String}{ops:List Value}(hT:s.TypeIs o T)(hl:typeLookup (.type T) "__getitem__"=pure (some (.builtin id)))
 (h:II (model c.prog c.w) A (getItem o i) Q E s) (hs:subscripted slice false o i=operate ops (getItem o i)):II (model c.prog c.w) A (subscriptTail value slice o i) Q E s:=by
 unfold subscriptTail;refine IJ ?_;rw[getitemInPython_of_ne hT.not_modules];refine IJ (I4 hT hl ?_)
 have fin:II (model c.prog c.w) A (subscripted slice false o i) (fun r K_=>II (model c.prog c.w) A (letTemporaryGo value o r>>=fun u_=>pure r) Q E K_) E s:=by
  rw[hs];exact wpAny_operating (IM h (fun r K_ LO=>IJ (wpAny_letTemporaryGo (IK LO))) fun u_ u_ x=>x)
 first
  |exact IK (IJ fin)
  |exact IJ (IK (IJ fin))
  |exact IJ fin
noncomputable def bB(e:Expr):Bool:= !e.ctorIdx.beq 26
theorem eT(h:bB slice=true)(o i:Value):subscripted slice false o i=operate [o,i] (getItem o i):=by
 cases slice<;>first|rfl|exact bM h
theorem rM{i:Int}{t:Tok}(st:aQ c ρ σ s.heap)(g:Gd c s.heap)(hn:bB slice=true)(e:gr σ x i=some y)(r:R s.heap ρ x v):
 bn c A (subscriptTail value slice v (.int i t)) ρ s (.ok y σ):=by
 cases r with
 |tup h1 f1 rs=>
  exact bI (show gF _ i=some y from e) fun hb w=>ae w fun j hj hx=>by
   refine aL (rs.get hx) fun w ew rw'=> ?_
   exact eV (T:="tuple") (cU h1).typeIs JS.lookup (getItem_tuple (cU h1) (Gy (by decide) hb.1) (Int.lt_trans hb.2 (by decide)) (j:=j) (by rw[rs.length]at hj;exact hj) (by simpa using ew) ⟨ρ,.refl st g,rw'⟩) (eT hn _ _)
 |lst h1=>
  exact ae (show((aI σ _).bind fun l=>gF l i)=some y from e) fun l hl w=>bI w fun hb w=>ae w fun j hj hx=>by
   refine bc (st.at_ _ _ _ h1 (bE hl)) fun vs n o rs=> ?_
   refine aL (rs.get hx) fun w ew rw'=> ?_;have hlen:=rs.length;refine eV (T:="list") (bS o).typeIs PySem.F.slot_list_getitem.lookup ?_ (eT hn _ _);unfold seqIndex? at hj;dsimp only at hj
   by_cases h0:i<0
   ·rw[if_pos h0]at hj;refine bI hj fun hc hj=> ?_;obtain rfl:=IH hj;simp only[Gj,decide_eq_true_eq]at hc
    refine wpAny_getItem_list_neg (bS o) h0 (by simp[←hlen];exact lnz (Ge ‹_›)) (Gy (by decide) hb.1) (x:=w) ?_ ⟨ρ,.refl st g,rw'⟩
    simpa [←hlen]using ew
   ·rw[if_neg h0]at hj;refine bI hj fun hc hj=> ?_;obtain rfl:=IH hj
    exact wpAny_getItem_list (bS o) (Gz.mp h0) (Int.lt_trans hb.2 (by decide)) (x:=w) (by simpa using ew) ⟨ρ,.refl st g,rw'⟩
 |_=>exact no e
end
section
theorem Rs.places(r:Rs h ρ l vs)(js:List Nat):Rs h ρ (js.filterMap (l[·]?)) (js.filterMap (vs[·]?)):=by
 induction js with
 |nil=>exact .nil
 |cons j js ih=>
  cases hn:l[j]? with
  |some n=>
   refine aL (r.get hn) fun v hv rv=> ?_;simp only[HD,hn,hv];exact .cons rv ih
  |none=>
   have hv:vs[j]? =none:=by
    rw[HK]at hn⊢;rw[←r.length];exact hn
   simp only[HD,hn,hv];exact ih
noncomputable def gE(x:V):Option (Option Int):= @V.casesOn (fun u_=>Option (Option Int)) x (fun u=>if lZ u=true then some none else none) (fun i=>some (some i)) (fun u_=>none) (fun u_=>none) (fun u_=>none) (fun u_ u_=>none) (fun u_ u_ u_=>none)
theorem my{p:Option Int}(e:gE x=some p)(r:R h ρ x v):IsPart v p:=by
 cases x with
 |val u=>exact bI e fun hu w=>by obtain rfl:=iC hu;obtain rfl:=IH w;obtain rfl:=r.valQ;exact .none
 |int i=>obtain rfl:=IH e;obtain⟨_,rfl⟩:=r.intQ;exact .int _ _
 |_=>exact no e
theorem fq{p:Option Int}{Q:Option Int→Shared→Prop}(h:IsPart v p)(q:Q p s):II (model c.prog c.w) A (Builtin.Slice.slicePartIndex v) Q E s:=by
 cases h with
 |none=>exact slicePart_none q
 |int=>exact slicePart_int q
noncomputable def ci(n:Nat)(lo hi st:Option Int):List Nat:=
 let p:=Jz lo hi (st.getD 1) n
 (GV (JA p.1 p.2 (st.getD 1))).map fun(k:Nat)=>(p.1+(k:Int)*st.getD 1).toNat
noncomputable def ed(n:Nat)(lo hi st:Option Int):Bool:=
 let p:=Jz lo hi (st.getD 1) n
 p.1==0&&st.getD 1==1&&JA p.1 p.2 (st.getD 1)==n
noncomputable def iM(l:List V)(lo hi st:Option Int):List V:=if ed l.length lo hi st then l else(ci l.length lo hi st).filterMap (l[·]?)
noncomputable def qC(n:Nat)(lo hi st:Option Int):List Nat:=sliceRange (sliceBounds lo hi st n).1 (sliceBounds lo hi st n).2.1 (sliceBounds lo hi st n).2.2
noncomputable def mF(l:List V)(lo hi st:Option Int):List V:=(qC l.length lo hi st).filterMap (l[·]?)
noncomputable def cz(σ:Sg)(x:V)(lo hi st:Option Int):Option (V×Sg):=if st=some 0 then none else match x with
 | .tup l=>if l.length≤2^20∧(iM l lo hi st).length≤2^20 then some (.tup (iM l lo hi st),σ)else none
 | .lst k=>(qe σ k).bind fun l=>if l.length≤2^20 then some (.lst σ.length,σ++[.lst (mF l lo hi st)])else none
 |_=>none
theorem jW{sl:Addr}{st:Option Int}{Q:Int×Int×Nat→Shared→Prop}(hs:s.heap.IsSliceOf sl v1 v2 v3)(p1:IsPart v1 lo)(p2:IsPart v2 hi)(p3:IsPart v3 st)
 (h0:st≠some 0)
 (h:Q ((Jz lo hi (st.getD 1) (n:Int)).1,st.getD 1,JA (Jz lo hi (st.getD 1) (n:Int)).1 (Jz lo hi (st.getD 1) (n:Int)).2 (st.getD 1)) s):
 II (model c.prog c.w) A (JB (.ref sl) (pure (n:Int))) Q E s:=by
 refine bW (id hs) fun os hos hcs hds=> ?_;unfold JB Builtin.Slice.sliceFields;refine IJ (IJ (IN hos hds (x:=v1) rfl (IJ (IN hos hds (x:=v2) rfl (IJ (IN hos hds (x:=v3) rfl (IK ?_)))))));refine IJ (fq p3 ?_)
 show II _ _ (if((st.getD 1)==0)=true then _ else _) _ _ s
 rw[if_neg (by
  cases st with
  |none=>decide
  |some d=>simp only[Option.getD_some,beq_iff_eq];exact fun q=>h0 (q▸rfl))]
 refine IJ (fq p1 (IJ (fq p2 (IJ (IK ?_)))));exact IK h
theorem iU{t sl:Addr}{st:Option Int}(ht:IsTup s.heap t items)(hs:s.heap.IsSliceOf sl v1 v2 v3)
 (p1:IsPart v1 lo) (p2:IsPart v2 hi) (p3:IsPart v3 st) (h0:st≠some 0)
 (hw:ed items.size lo hi st=true→Q (.ref t) s)
 (h:ed items.size lo hi st=false→Q (.ref s.heap.objs.size) {s with heap:=s.heap.push (ao ((ci items.size lo hi st).filterMap (items.toList[·]?)) 0)})
 (hsz:((ci items.size lo hi st).filterMap (items.toList[·]?)).length≤sizeLine):II (model c.prog c.w) A (getItem (.ref t) (.ref sl)) Q E s:=by
 refine bW (id hs) fun os hos hcs hds=> ?_;have hTs:s.TypeIs (.ref sl) "slice":=⟨os,hos,hcs⟩;unfold getItem
 try with_reducible refine IO ?_
 first|refine IJ (IK ?_)|skip
 refine IJ (wpAny_sequenceKey ht.typeIs (by rfl) ?_)
 refine IJ (IX (name:=Kq "__getitem__") ht.typeIs F.slot_tuple_getitem
  (IT F.slot_tuple_getitem ht.typeIs F.entry_tuple_getitem ?_ (F.args_tuple_getitem_2 _ _)))
 show II _ _ (JJ (.ref t)>>=_) _ _ s;refine IJ (tupleItemsOf_ ht ?_);refine IJ (I2 hTs ?_)
 refine cV (by decide) ?_
 refine IJ (jW (n:=items.size) hs p1 p2 p3 h0 ?_)
 cases hq:ed items.size lo hi st with
 |true=>
  show II _ _ (if ed items.size lo hi st=true then _ else _) _ _ s
  refine cV hq ?_;refine IJ (m:=JK (.ref t)) (IJ (I2 ht.typeIs (IK ?_)))
  refine cV (by decide) ?_
  first
   |exact IJ (IP (IK ⟨_,rfl,IK (hw hq)⟩))
   |exact IJ (IP (IJ (IK (IK ⟨_,rfl,IK (hw hq)⟩))))
   |exact IJ (IJ (IP (IK (IK ⟨_,rfl,IK (hw hq)⟩))))
 |false=>
  show II _ _ (if ed items.size lo hi st=true then _ else _) _ _ s
  refine bV (by rw[hq];exact Gk) ?_
  have e:((GV (JA (Jz lo hi (st.getD 1) (items.size:Int)).1 (Jz lo hi (st.getD 1) (items.size:Int)).2 (st.getD 1))).filterMap fun(k:Nat)=>
   items[((Jz lo hi (st.getD 1) (items.size:Int)).1+(k:Int)*st.getD 1).toNat]?).toArray=((ci items.size lo hi st).filterMap (items.toList[·]?)).toArray:=by
   unfold ci;rw[List.filterMap_map];congr 2;funext k;simp
  have hdrop:sizeOk (.seq ((ci items.size lo hi st).filterMap (items.toList[·]?)).toArray):=by
   show((ci items.size lo hi st).filterMap (items.toList[·]?)).toArray.size≤sizeLine;rw[Hi];exact hsz
  rw[e]
  first
   |exact IJ (m:=JI _) (IR (IK ⟨_,rfl,IK (h hq)⟩) hdrop)
   |exact IJ (m:=JI _) (IR (IJ (IK (IK ⟨_,rfl,IK (h hq)⟩))) hdrop)
   |exact IJ (IJ (m:=JI _) (IR (IK (IK ⟨_,rfl,IK (h hq)⟩)) hdrop))
   |exact IJ (IJ (m:=JI _) (IR (IK ⟨_,rfl,IK (h hq)⟩) hdrop))
theorem tM{a b d:Option Expr}{p:Pos}(o i:Value): ∃ops,subscripted (.Slice a b d p) false o i=operate ops (getItem o i):=by
 cases d with
 |none=>exact⟨[i,o],rfl⟩
 |some _=>exact⟨[o,i],rfl⟩
theorem fL(l:List α)(js:List Nat):(js.filterMap (l[·]?)).length≤js.length:=List.length_filterMap_le ..
set_option tactic.hygienic true in
theorem qt{value:Expr}{a b d:Option Expr}{p:Pos}{x y:V}{lo hi st:Option Int}{v v1 v2 v3:Value}{KD:Sg}(ok:c.Ok)(t:aQ c ρ σ s.heap)(g:Gd c s.heap)(e:cz σ x lo hi st=some (y,KD))(r:R s.heap ρ x v)
 (p1:IsPart v1 lo) (p2:IsPart v2 hi) (p3:IsPart v3 st):
 II (model c.prog c.w) A (subscriptTail value (.Slice a b d p) v (.ref s.heap.objs.size)) (fun w s'=> ∃KF,af c ρ s KF KD s'∧R s'.heap KF y w) (cH c ρ s (.ok y KD:aG V))
  {s with heap:=s.heap.push {cls:= .type "slice",data:= .fields #[v1,v2,v3]}}:=by
 refine oE (tM (a:=a) (b:=b) (d:=d) (p:=p) v (.ref s.heap.objs.size)) fun ops hops=> ?_
 have sp:af c ρ s ρ σ {s with heap:=s.heap.push {cls:= .type "slice",data:= .fields #[v1,v2,v3]},toks:=s.toks}:=af.push ok t g
 have r2:=sp.R r;have hsl:(s.heap.push {cls:= .type "slice",data:= .fields #[v1,v2,v3]}).IsSliceOf s.heap.objs.size v1 v2 v3:=Heap.IsSliceOf.new ..;unfold cz at e
 split at e
 ·exact no e
 ·rename_i h0
  split at e
  ·rename_i l
   split at e
   ·rename_i hz
    cases IH e
    cases r2 with
    |tup h1 f1 rs=>
     rename_i ta vs n
     have hlen:vs.toArray.size=l.length:=by simp[rs.length]
     refine eV (T:="tuple") (cU (s:={s with heap:=s.heap.push {cls:= .type "slice",data:= .fields #[v1,v2,v3]}}) h1).typeIs JS.lookup
      (iU (cU (s:={s with heap:=s.heap.push {cls:= .type "slice",data:= .fields #[v1,v2,v3]}}) h1) hsl p1 p2 p3 h0 (fun hq=> ?_) (fun hq=> ?_) ?_) hops
     ·rw[hlen]at hq;refine⟨ρ,sp,?_⟩;unfold iM;rw[if_pos hq];exact .tup h1 f1 rs
     ·rw[hlen]at hq;refine⟨ρ,sp.trans (af.push ok sp.sto sp.gd),?_⟩;unfold iM
      rw[if_neg (by rw[hq];exact Gk),hlen]
      have sp2:af c ρ {s with heap:=s.heap.push {cls:= .type "slice",data:= .fields #[v1,v2,v3]}} ρ σ
       {s with heap:=(s.heap.push {cls:= .type "slice",data:= .fields #[v1,v2,v3]}).push (ao ((ci l.length lo hi st).filterMap (vs.toArray.toList[·]?)) 0),toks:=s.toks}:=af.push ok sp.sto sp.gd
      exact .tup (J9 _ rfl) (sp.sto.new (HY _)) (sp2.Rs (by simpa using rs.places _))
     ·rw[hlen];have q:=(rs.places (ci l.length lo hi st)).length;simp only[List.toList_toArray];rw[←q]
      by_cases hw:ed l.length lo hi st=true
      ·have:(ci l.length lo hi st).length=l.length:=by
        unfold ed at hw;unfold ci;simp only[Gj,beq_iff_eq]at hw;simp only[GO,Hh];exact hw.2
       exact HX (fL ..) (by rw[this];exact HX hz.1 (by decide))
      ·have hz2:=hz.2;unfold iM at hz2;rw[if_neg hw]at hz2
       exact HX hz2 (by decide)
   ·exact no e
  ·rename_i k;refine ae e fun l hl e=>bI e fun hz e=> ?_
   cases IH e
   cases r2 with
   |lst h1=>
    refine bc (sp.sto.rd h1 hl) fun vs n o rs=> ?_
    have hlen:vs.toArray.size=l.length:=by simp[rs.length]
    refine eV (T:="list") (bS (s:={s with heap:=s.heap.push {cls:= .type "slice",data:= .fields #[v1,v2,v3]}}) o).typeIs PySem.F.slot_list_getitem.lookup
     (wpAny_getItem_list_slice (bS (s:={s with heap:=s.heap.push {cls:= .type "slice",data:= .fields #[v1,v2,v3]}}) o) hsl p1 p2 p3 h0 ?_ (by rw[hlen];exact HX hz (by decide))) hops
    have ep:slicePick vs.toArray lo hi st=((qC l.length lo hi st).filterMap (vs[·]?)).toArray:=by
     unfold slicePick qC;rw[hlen];simp
    rw[ep];have sp2:=af.pushList (c:=c) (n:=0) (t:=s.toks) ok sp.sto sp.gd (rs.places (qC l.length lo hi st));exact⟨_,sp.trans sp2,.lst (sp.sto.last _)⟩
  ·exact no e
end
section
inductive It where
 |seq (l:List V) (i:Nat)
 |lst (k:Nat) (i:Nat)
 |rng (x left step:Int)
 |revl (k:Nat) (i:Nat)
 |revt (l:List V) (i:Nat)
 |zip (ts:List It)
 |enum (t:It) (n:Int)
 deriving Inhabited
noncomputable def xN(o:Option V)(t:α):Option (V×α):=o.map fun x=>(x,t)
noncomputable def EI(r:Option (List V×List It)):Option (Option (V×It)):=r.elim (some none) fun p=>if p.1.isEmpty=true then none else some (some (.tup p.1,.zip p.2))
mutual
/--none:not told here;some none:at its end-/
noncomputable def ay(σ:Sg):It→Option (Option (V×It))
 | .seq l i=>some (xN l[i]? (.seq l (i+1)))
 | .lst k i=>(aI σ k).map fun l=>xN l[i]? (.lst k (i+1))
 | .rng x left step=>some (if 0<left then some (.int x,.rng (x+step) (left-1) step)else none)
 | .revl k i=>Nat.casesOn i (some none) fun i=>(aI σ k).bind fun l=>l[i]?.map fun x=>some (x,.revl k i)
 | .revt l i=>Nat.casesOn i (some none) fun i=>l[i]?.bind fun x=>if l.length≤2^20 then some (some (x,.revt l i))else none
 | .zip ts=>if ts.length≤64 then(bh σ ts).bind EI else none
 | .enum t n=>(ay σ t).map fun r=>r.map fun p=>(.tup [.int n,p.1],.enum p.2 (n+1))
noncomputable def bh(σ:Sg):List It→Option (Option (List V×List It))
 |[]=>some (some ([],[]))
 |t::ts=>(ay σ t).bind fun r=>r.elim (some none) fun p=>(bh σ ts).map fun q=>q.map fun q=>(p.1::q.1,p.2::q.2)
end
section
variable {t:It}{ts:List It}{n x left step:Int}
theorem u9:ay σ (.seq l i)=some (xN l[i]? (.seq l (i+1))):=rfl
theorem wW:ay σ (.lst k i)=(aI σ k).map fun l=>xN l[i]? (.lst k (i+1)):=rfl
theorem qI:ay σ (.rng x left step)=some (if 0<left then some (.int x,.rng (x+step) (left-1) step)else none):=rfl
theorem w_:ay σ (.zip ts)=if ts.length≤64 then(bh σ ts).bind EI else none:=rfl
theorem sy:ay σ (.enum t n)=(ay σ t).map fun r=>r.map fun p=>(.tup [.int n,p.1],.enum p.2 (n+1)):=rfl
theorem sL:bh σ []=some (some ([],[])):=rfl
theorem jd:bh σ (t::ts)=(ay σ t).bind fun r=>r.elim (some none) fun p=>(bh σ ts).map fun q=>q.map fun q=>(p.1::q.1,p.2::q.2):=rfl
end
noncomputable abbrev jA(f0 f1:Value)(TI TO:Addr):Obj:={cls:= .type "zip",dict:=none,data:= .fields #[f0,f1,.bool false,.ref TI,.ref TO],slots:= #[]}
noncomputable abbrev dM(f0 f1:Value)(it:Addr)(i:Int)(old:Value):Obj:={cls:= .type "enumerate",dict:=none,data:= .fields #[f0,f1,.ref it,rawInt i,.none,old],slots:= #[]}
noncomputable abbrev kG(t:Addr)(i:Int):Obj:={cls:= .type "reversed",data:= .fields #[.ref t,rawInt i]}
noncomputable def dn(h:Heap)(ρ:Pl)(f0:Value):Prop:=f0= .none∨ ∃T vs n,f0=rawInt (T:Nat)∧h.get? T=some (ao vs n)∧ρ.free T
mutual
/--the iterator at a tells what t says;what it is made of lies at I-/
inductive bC(h:Heap)(ρ:Pl):It→List Addr→Addr→Prop
 |seq {l:List V} {i:Nat} {a t:Addr}:IsTupIter h a t i→R h ρ (.tup l) (.ref t)→a∈ρ.p→bC h ρ (.seq l i) [a] a
 |lst {k i:Nat} {a la:Addr}:h.IsListIter a la i→ρ.r[k]? =some la→a∈ρ.p→bC h ρ (.lst k i) [a] a
 |rng {x left step:Int} {a:Addr}:IsRangeIter h a x left step→a∈ρ.p→bC h ρ (.rng x left step) [a] a
 |revl {k i:Nat} {a la:Addr}:h.IsRevIter a la ((i:Int)-1)→ρ.r[k]? =some la→a∈ρ.p→bC h ρ (.revl k i) [a] a
 |revt {l:List V} {i:Nat} {a t:Addr}:h.get? a=some (kG t ((i:Int)-1))→R h ρ (.tup l) (.ref t)→a∈ρ.p→bC h ρ (.revt l i) [a] a
 |zip {ts:List It} {I as:List Addr} {z TI TO:Addr} {f0 f1:Value} {ws:List Value} {m m':Nat}:h.get? z=some (jA f0 f1 TI TO)→dn h ρ f0→h.get? TI=some (ao (as.map .ref) m)→h.get? TO=some (ao ws m')→ws.length=ts.length→
  bD h ρ ts I as→z∈ρ.p→TI∈ρ.p→TO∈ρ.p→z≠TI→z≠TO→TI≠TO→z∉I→TI∉I→TO∉I→bC h ρ (.zip ts) (z::TI::TO::I) z
 |enum {t:It} {n:Int} {I:List Addr} {e a:Addr} {f0 f1 old:Value}:h.get? e=some (dM f0 f1 a n old)→dn h ρ f0→bC h ρ t I a→e∈ρ.p→e∉I→bC h ρ (.enum t n) (e::I) e
inductive bD(h:Heap)(ρ:Pl):List It→List Addr→List Addr→Prop
 |nil:bD h ρ [] [] []
 |cons {t:It} {ts:List It} {I J as:List Addr} {a:Addr}:bC h ρ t I a→bD h ρ ts J as→(∀x∈I,x∉J)→bD h ρ (t::ts) (I++J) (a::as)
end
theorem bC.both{P:It→List Addr→Addr→Prop}{Q:List It→List Addr→List Addr→Prop}(seq: ∀{l i a t},IsTupIter h a t i→R h ρ (.tup l) (.ref t)→a∈ρ.p→P (.seq l i) [a] a)
 (lst: ∀{k i a la},h.IsListIter a la i→ρ.r[k]? =some la→a∈ρ.p→P (.lst k i) [a] a) (rng: ∀{x left step a},IsRangeIter h a x left step→a∈ρ.p→P (.rng x left step) [a] a)
 (revl: ∀{k i a la},h.IsRevIter a la (((i:Nat):Int)-1)→ρ.r[k]? =some la→a∈ρ.p→P (.revl k i) [a] a) (revt: ∀{l i a t},h.get? a=some (kG t (((i:Nat):Int)-1))→R h ρ (.tup l) (.ref t)→a∈ρ.p→P (.revt l i) [a] a)
 (zip: ∀{ts I as z TI TO f0 f1 ws m m'},h.get? z=some (jA f0 f1 TI TO)→dn h ρ f0→h.get? TI=some (ao (as.map .ref) m)→h.get? TO=some (ao ws m')→ws.length=ts.length→
  bD h ρ ts I as→Q ts I as→z∈ρ.p→TI∈ρ.p→TO∈ρ.p→z≠TI→z≠TO→TI≠TO→z∉I→TI∉I→TO∉I→P (.zip ts) (z::TI::TO::I) z)
 (enum: ∀{t n I e a f0 f1 old},h.get? e=some (dM f0 f1 a n old)→dn h ρ f0→bC h ρ t I a→P t I a→e∈ρ.p→e∉I→P (.enum t n) (e::I) e)
 (nil:Q [] [] []) (cons: ∀{t ts I J as a},bC h ρ t I a→P t I a→bD h ρ ts J as→Q ts J as→(∀x∈I,x∉J)→Q (t::ts) (I++J) (a::as)):
 (∀{t I a},bC h ρ t I a→P t I a)∧(∀{ts I as},bD h ρ ts I as→Q ts I as):=
 ⟨fun r=>bC.rec (motive_1:=fun t I a u_=>P t I a) (motive_2:=fun ts I as u_=>Q ts I as) seq lst rng revl revt (fun a b c d e f g1 g2 g3 n1 n2 n3 n4 n5 n6 q=>zip a b c d e f q g1 g2 g3 n1 n2 n3 n4 n5 n6) (fun a b c d e q=>enum a b c q d e) nil (fun a b n c d=>cons a c b d n) r,
  fun r=>bD.rec (motive_1:=fun t I a u_=>P t I a) (motive_2:=fun ts I as u_=>Q ts I as) seq lst rng revl revt (fun a b c d e f g1 g2 g3 n1 n2 n3 n4 n5 n6 q=>zip a b c d e f q g1 g2 g3 n1 n2 n3 n4 n5 n6) (fun a b c d e q=>enum a b c q d e) nil (fun a b n c d=>cons a c b d n) r⟩
theorem bD.ind{Q:List It→List Addr→List Addr→Prop}(nil:Q [] [] [])(cons: ∀{t ts I J as a},bC h ρ t I a→bD h ρ ts J as→Q ts J as→(∀x∈I,x∉J)→Q (t::ts) (I++J) (a::as)){ts:List It}{as:List Addr}(r:bD h ρ ts I as):Q ts I as:=
 (bC.both (P:=fun u_ u_ u_=>True) (fun u_ u_ u_=>trivial) (fun u_ u_ u_=>trivial) (fun u_ u_=>trivial) (fun u_ u_ u_=>trivial) (fun u_ u_ u_=>trivial) (fun u_ u_ u_ u_ u_ u_ u_ u_ u_ u_ u_ u_ u_ u_ u_ u_=>trivial) (fun u_ u_ u_ u_ u_ u_=>trivial) nil fun a u_ b c d=>cons a b c d).2 r
theorem bC.privB:(∀{t I a},bC h ρ t I a→(∀x∈I,x∈ρ.p)∧a∈I)∧(∀{ts I as},bD h ρ ts I as→ ∀x∈I,x∈ρ.p):=
 bC.both (P:=fun u_ I a=>(∀x∈I,x∈ρ.p)∧a∈I) (Q:=fun u_ I u_=> ∀x∈I,x∈ρ.p) (fun u_ u_ p=>⟨dA p,.head _⟩) (fun u_ u_ p=>⟨dA p,.head _⟩) (fun u_ p=>⟨dA p,.head _⟩) (fun u_ u_ p=>⟨dA p,.head _⟩) (fun u_ u_ p=>⟨dA p,.head _⟩)
  (fun u_ u_ u_ u_ u_ u_ ts p1 p2 p3 u_ u_ u_ u_ u_ u_=>⟨aj p1 (aj p2 (aj p3 ts)),.head _⟩) (fun u_ u_ u_ t p u_=>⟨aj p t.1,.head _⟩) bZ fun u_ t u_ ts u_ x m=>(GP.mp m).elim (t.1 x) (ts x)
theorem bC.priv{t:It}:bC h ρ t I a→(∀x∈I,x∈ρ.p)∧a∈I:=bC.privB.1
theorem bD.priv{t:List It}{as:List Addr}:bD h ρ t I as→(∀x∈I,x∈ρ.p):=bC.privB.2
theorem dn.mono(nl:ρ.Off S)(x:eh c S h h')(le:ρ.Le h KF)(H:dn h ρ f0):dn h' KF f0:=by
 rcases H with e|⟨T,vs,n,e,g,f⟩
 ·exact .inl e
 ·exact .inr ⟨T,vs,n,e,x.get (fun m=>nl _ m f) g rfl,le.free _ _ f g⟩
theorem rg(x:eh c S h h'){p:Obj→Prop}(k: ∀o,p o→uM o=true)(n:a∉S)(e: ∃o,h.get? a=some o∧p o): ∃o,h'.get? a=some o∧p o:=e.elim fun o e=>⟨o,x.get n e.1 (k o e.2),e.2⟩
theorem ot{vs:Array Value}(o:Obj)(h:o.cls= .type T∧o.data= .fields vs):uM o=true:=by
 unfold uM hU;rw[h.1,h.2];rfl
theorem bC.monoB(nl:ρ.Off S)(x:eh c S h h')(le:ρ.Le h KF)(pp: ∀a∈ρ.p,a∈KF.p):(∀{t I a},bC h ρ t I a→(∀b∈I,b∉S)→bC h' KF t I a)∧(∀{ts I as},bD h ρ ts I as→(∀b∈I,b∉S)→bD h' KF ts I as):=
 bC.both (P:=fun t I a=>(∀b∈I,b∉S)→bC h' KF t I a) (Q:=fun ts I as=>(∀b∈I,b∉S)→bD h' KF ts I as)
  (fun e r p d=> .seq (rg x ot (d _ (.head _)) e) (r.mono nl x le) (pp _ p)) (fun e r p d=> .lst (rg x ot (d _ (.head _)) e) (le.get r) (pp _ p)) (fun e p d=> .rng (x.get (d _ (.head _)) e rfl) (pp _ p))
  (fun e r p d=> .revl (rg x ot (d _ (.head _)) e) (le.get r) (pp _ p)) (fun e r p d=> .revt (x.get (d _ (.head _)) e rfl) (r.mono nl x le) (pp _ p))
  (fun e1 H e2 e3 l u_ ts p1 p2 p3 n1 n2 n3 n4 n5 n6 d=> .zip (x.get (d _ (.head _)) e1 rfl) (H.mono nl x le) (x.get (d _ (.tail _ (.head _))) e2 rfl) (x.get (d _ (.tail _ (.tail _ (.head _)))) e3 rfl) l (ts fun b m=>d b (.tail _ (.tail _ (.tail _ m)))) (pp _ p1) (pp _ p2) (pp _ p3) n1 n2 n3 n4 n5 n6)
  (fun e H u_ t p n d=> .enum (x.get (d _ (.head _)) e rfl) (H.mono nl x le) (t fun b m=>d b (.tail _ m)) (pp _ p) n) (fun u_=> .nil)
  fun u_ t u_ ts n d=> .cons (t fun b m=>d b (G' _ m)) (ts fun b m=>d b (Hj _ m)) n
theorem bC.mono(nl:ρ.Off S)(x:eh c S h h')(le:ρ.Le h KF)(pp: ∀a∈ρ.p,a∈KF.p){t:It}(d: ∀b∈I,b∉S)(i:bC h ρ t I a):bC h' KF t I a:=(bC.monoB nl x le pp).1 i d
theorem bD.mono(nl:ρ.Off S)(x:eh c S h h')(le:ρ.Le h KF)(pp: ∀a∈ρ.p,a∈KF.p){t:List It}{as:List Addr}(d: ∀b∈I,b∉S)(i:bD h ρ t I as):bD h' KF t I as:=(bC.monoB nl x le pp).2 i d
theorem ad.itr{D:List Addr}{t:It}(st:aQ c ρ σ s.heap)(d: ∀a∈D,a∈ρ.p)(n: ∀a∈I,a∉D)(x:ad c D ρ s KF KD s')(i:bC s.heap ρ t I a):bC s'.heap KF t I a:=
 i.mono (ad.off d) x.ext x.le x.pold fun b m q=>(GP.mp q).elim (n b m) (st.disj b (i.priv.1 b m))
theorem af.itr{t:It}(st:aQ c ρ σ s.heap)(x:af c ρ s KF KD s')(i:bC s.heap ρ t I a):bC s'.heap KF t I a:=ad.itr st (by exact G9 _) (by simp) x i
theorem ad.itrs{D:List Addr}{t:List It}{as:List Addr}(st:aQ c ρ σ s.heap)(d: ∀a∈D,a∈ρ.p)(n: ∀a∈I,a∉D)(x:ad c D ρ s KF KD s')(i:bD s.heap ρ t I as):bD s'.heap KF t I as:=
 i.mono (ad.off d) x.ext x.le x.pold fun b m q=>(GP.mp q).elim (n b m) (st.disj b (i.priv b m))
noncomputable def nE(e:Value)(s:Shared):Prop:= ∃b o,e= .ref b∧s.heap.get? b=some o∧o.cls= .type "StopIteration"
variable (c)in
noncomputable def d_(A:Around)(a:Addr)(s:Shared)(Q:Value→Shared→Prop)(E:Shared→Prop):Prop:=
 II (model c.prog c.w) A (callSpecial? (.ref a) "__next__") (fun r s'=> ∃v,r=some v∧Q v s') (fun e s'=>nE e s'∧E s') s
theorem d_.mono{Q':Value→Shared→Prop}{E E':Shared→Prop}(n:d_ c A a s Q E)(q: ∀v s',Q v s'→Q' v s')(e: ∀s',E s'→E' s'):d_ c A a s Q' E':=
 IM n (fun _ _ ⟨v,h,k⟩=>⟨v,h,q _ _ k⟩) fun _ _ ⟨h,k⟩=>⟨h,e _ k⟩
theorem d_.pyNext{E:Shared→Prop}{E':Value→Shared→Prop}(n:d_ c A a s Q E):II (model c.prog c.w) A (pyNext (.ref a)) (fun r s'=>match r with|some v=>Q v s'|none=>E s') E' s:=by
 unfold PySem.pyNext;refine IJ (wpAny_attempt (IM n (fun r s' h=> ?_) fun e s' h=> ?_))
 ·obtain⟨v,rfl,q⟩:=h;exact IK q
 ·obtain⟨⟨b,o,rfl,ho,hc⟩,q⟩:=h;refine IJ (I8 (T:="StopIteration") (b:=true) ⟨o,ho,hc⟩ isSubtype_stop ?_);exact IK q
theorem d_.nextOf{E:Shared→Prop}(n:d_ c A a s Q E):II (model c.prog c.w) A (JD (.ref a)) Q (fun e s'=>nE e s'∧E s') s:=by
 unfold JD;refine IJ (IM n (fun r s' h=> ?_) fun e s' h=>h);refine aL h fun v zz1 q=> ?_;subst zz1;exact IK q
theorem kf(h: ∀o1 o2:Obj,o2.cls= .type "StopIteration"→o2.isFreed=false→Q (.ref (s.heap.push o1).objs.size) {s with heap:=(s.heap.push o1).push o2}):II M A (newExc (.type "StopIteration") []) Q E s:=by
 simp only[newExc,newTuple]
 refine IJ (IR ?_ (by size_fits))
 refine IJ (m:=firstArgMember _ _) (IQ (a:=Ks) (by first|rfl|(simp only[firstArgMember];rfl)) ?_)
 refine IR ?_ (by size_fits)
 exact h _ _ rfl rfl
theorem eH{Q:α→Shared→Prop}(hh:A.handled=none)
 (h: ∀o1 o2:Obj,o2.cls= .type "StopIteration"→o2.isFreed=false→E (.ref (s.heap.push o1).objs.size) {s with heap:=(s.heap.push o1).push o2}):
 II (model c.prog c.w) A (newExc (.type "StopIteration") []>>=fun e=>raiseNew (α:=α) e) Q E s:=by
 exact IJ (kf fun o1 o2 c f=>Jn hh (h o1 o2 c f))
theorem iZ(x:Kc a h h'): ∀b o,b∉[a]→h.get? b=some o→h'.get? b=some o:=fun b o n e=>(x.2 b (fun q=>n (by simp[q]))).trans e
theorem ad.same{t:Nat}(ok:c.Ok)(st:aQ c ρ σ s.heap)(g:Gd c s.heap)(p:a∈ρ.p)(x:Kc a s.heap h'):ad c [a] ρ s ρ σ {s with heap:=h',toks:=t}:=
 ad.write' ok st g (by simpa using p) (iZ x) (Iy x.1.symm)
theorem ad.same2{t:Nat}(ok:c.Ok)(st:aQ c ρ σ s.heap)(g:Gd c s.heap)(p:a∈ρ.p)(x:Kc a s.heap h'):ad c [a] ρ s ρ σ {s with heap:=(h'.push o1).push o2,toks:=t}:=
 ad.write' ok st g (by simpa using p) (fun b o n e=>J_ _ (J_ _ (iZ x b o n e))) (by rw[J',J',x.1];exact H4 _ 2)
theorem ad.push2{D:List Addr}{t:Nat}(ok:c.Ok)(st:aQ c ρ σ s.heap)(g:Gd c s.heap):ad c D ρ s ρ σ {s with heap:=(s.heap.push o1).push o2,toks:=t}:=
 af.D (af.keeps ok st g (fun b o e=>J_ _ (J_ _ e)) (by rw[J',J'];exact H4 _ 2))
theorem dR{t:Nat}(c2:o2.cls= .type "StopIteration")(f:o2.isFreed=false):nE (.ref (h.push o1).objs.size) {s with heap:=(h.push o1).push o2,toks:=t}:=
 ⟨_,_,rfl,J9 _ f,c2⟩
set_option tactic.hygienic true in
theorem wL{a t:Addr}{l:List V}{i:Nat}(hh:A.handled=none)(ok:c.Ok)(st:aQ c ρ σ s.heap)(g:Gd c s.heap)(hit:IsTupIter s.heap a t i)(r:R s.heap ρ (.tup l) (.ref t))(p:a∈ρ.p):
 d_ c A a s (fun v s'=> ∃x,l[i]? =some x∧ad c [a] ρ s ρ σ s'∧R s'.heap ρ x v∧bC s'.heap ρ (.seq l (i+1)) [a] a) (fun s'=>l[i]? =none∧ad c [a] ρ s ρ σ s'):=by
 cases r with
 |tup h1 f1 rs=>
 rename_i vs n;refine bW (id hit) fun o ho hc hd=> ?_;refine IX (name:=Kq "__next__") hit.typeIs slot_tupleiter_next
  (IT slot_tupleiter_next hit.typeIs entry_tupleiter_next ?_ (args_tupleiter_next _))
 show II _ _ (field (.ref a) 0>>=_) _ _ s;refine IJ (IN ho hd (x:= .ref t) rfl ?_)
 show II _ _ (if(Kr t==Ks)=true then _ else _) _ _ s
 rw[if_neg (show¬((Kr t==Ks)=true)from Gk)]
 show II _ _ (field (.ref a) 1>>=_) _ _ s;refine IJ (IN ho hd (x:= .int i 0) rfl ?_);show II _ _ (seqItems? (.ref t)>>=_) _ _ s;refine IJ (I0 h1 rfl ?_);simp only[GA]
 cases hx:l[i]? with
 |some x=>
  refine aL (rs.get hx) fun v ev rv=> ?_;simp only[Hs,ev]
  refine IJ (I3 ho hd (by exact H0 _) (IK ⟨v,rfl,v,rfl,x,rfl,?_⟩))
  have S:=ad.same (c:=c) (t:=s.toks) ok st g p (Kf (h:=s.heap) (a:=a) (f:=Ki (·.setIfInBounds 1 (rawInt ((i:Int)+1)))))
  refine⟨S,ad.R (by simpa using p) S rv,.seq ⟨_,Kb _ ho (Km (Kl hd _)),(Kn ..).trans hc,?_⟩ (ad.R (by simpa using p) S (.tup h1 f1 rs)) p⟩
  rw[Kl hd];rfl
 |none=>
  have ev:vs[i]? =none:=by rw[HK]at hx⊢;rw[←rs.length];exact hx
  simp only[Hs,ev]
  refine IJ (IP (IJ (I3 ho hd (by exact HZ _) ?_)))
  refine eH (c:=c) hh fun o1 o2 c2 f2=>⟨dR c2 f2,by trivial,?_⟩
  exact ad.same2 ok st g p (Kf ..)
theorem uQ(hh:A.handled=none)(ok:c.Ok)(st:aQ c ρ σ s.heap)(g:Gd c s.heap)(hit:s.heap.IsListIter a la i)(hk:ρ.r[k]? =some la)(hl:σ[k]? =some (.lst l))(p:a∈ρ.p):
 d_ c A a s (fun v s'=> ∃x,l[i]? =some x∧ad c [a] ρ s ρ σ s'∧R s'.heap ρ x v∧bC s'.heap ρ (.lst k (i+1)) [a] a) (fun s'=>l[i]? =none∧ad c [a] ρ s ρ σ s'):=by
 refine bc (st.at_ _ _ _ hk hl) fun vs n h1 rs=> ?_
 refine bW (id hit) fun o ho hc hd=> ?_;refine IX (name:=Kq "__next__") hit.typeIs slot_listiter_next
  (IT slot_listiter_next hit.typeIs entry_listiter_next ?_ (args_listiter_next _))
 show II _ _ (field (.ref a) 0>>=_) _ _ s;refine IJ (IN ho hd (x:= .ref la) rfl ?_)
 show II _ _ (if(Kr la==Ks)=true then _ else _) _ _ s
 rw[if_neg (show¬((Kr la==Ks)=true)from Gk)]
 show II _ _ (field (.ref a) 1>>=_) _ _ s;refine IJ (IN ho hd (x:= .int i 0) rfl ?_);show II _ _ (seqItems? (.ref la)>>=_) _ _ s;refine IJ (I0 h1 rfl ?_);simp only[GA]
 cases hx:l[i]? with
 |some x=>
  refine aL (rs.get hx) fun v ev rv=> ?_;simp only[Hs,ev]
  refine IJ (I3 ho hd (by exact H0 _) (IK ⟨v,rfl,v,rfl,x,rfl,?_⟩))
  have S:=ad.same (c:=c) (t:=s.toks) ok st g p (Kf (h:=s.heap) (a:=a) (f:=Ki (·.setIfInBounds 1 (rawInt ((i:Int)+1)))))
  refine⟨S,ad.R (by simpa using p) S rv,.lst ⟨_,Kb _ ho (Km (Kl hd _)),(Kn ..).trans hc,?_⟩ hk p⟩
  rw[Kl hd];rfl
 |none=>
  have ev:vs[i]? =none:=by rw[HK]at hx⊢;rw[←rs.length];exact hx
  simp only[Hs,ev]
  refine IJ (IP (IJ (I3 ho hd (by exact HZ _) ?_)))
  refine eH (c:=c) hh fun o1 o2 c2 f2=>⟨dR c2 f2,by trivial,?_⟩
  exact ad.same2 ok st g p (Kf ..)
theorem vb{x left step:Int}(hh:A.handled=none)(ok:c.Ok)(st:aQ c ρ σ s.heap)(g:Gd c s.heap)(hit:IsRangeIter s.heap a x left step)(p:a∈ρ.p):
 d_ c A a s (fun v s'=>0<left∧ad c [a] ρ s ρ σ s'∧R s'.heap ρ (.int x) v∧bC s'.heap ρ (.rng (x+step) (left-1) step) [a] a) (fun s'=> ¬0<left∧ad c [a] ρ s ρ σ s'):=by
 have hT:s.TypeIs (.ref a) "range_iterator":=⟨_,hit,rfl⟩;refine IX (name:=Kq "__next__") hT J1 ?_
 by_cases hl:0<left
 ·refine Ja J1 hT F.entry_range_iterator_next (F.args_range_iterator_next_1 _) (AutoRange.range_iterator___next___range_iterator_1 a x left step (by omega)) ⟨hit,?_⟩
  exact⟨_,rfl,hl,ad.same ok st g p ((Kf ..).trans (Kf ..)),.int,.rng (Kb _ (Kb _ hit rfl) rfl) p⟩
 ·refine IT J1 hT F.entry_range_iterator_next ?_ (F.args_range_iterator_next_1 _);show II _ _ (field (.ref a) 0>>=_) _ _ s;refine IJ (IN hit rfl (x:=rawInt x) rfl ?_);show II _ _ (field (.ref a) 1>>=_) _ _ s;refine IJ (IN hit rfl (x:=rawInt left) rfl ?_);show II _ _ (field (.ref a) 2>>=_) _ _ s;refine IJ (IN hit rfl (x:=rawInt step) rfl ?_)
  show II _ _ (if left≤0 then _ else _) _ _ s
  refine cV (Gz.mp ‹_›) ?_;refine IJ (IP ?_)
  first
   |exact eH (c:=c) hh fun o1 o2 c2 f2=>⟨dR c2 f2,hl,ad.push2 ok st g⟩
   |exact IJ (eH (c:=c) hh fun o1 o2 c2 f2=>⟨dR c2 f2,hl,ad.push2 ok st g⟩)
theorem m5(hh:A.handled=none)(ok:c.Ok)(st:aQ c ρ σ s.heap)(g:Gd c s.heap)(hit:s.heap.IsRevIter a la ((i:Int)-1))(hk:ρ.r[k]? =some la)(p:a∈ρ.p):
 (i=0→d_ c A a s (fun u_ u_=>False) (fun s'=>ad c [a] ρ s ρ σ s'))∧
 (∀j x,i=j+1→σ[k]? =some (.lst l)→l[j]? =some x→d_ c A a s (fun v s'=>ad c [a] ρ s ρ σ s'∧R s'.heap ρ x v∧bC s'.heap ρ (.revl k j) [a] a) (fun s'=>False)):=by
 refine bW (id hit) fun o ho hc hd=> ?_;constructor
 ·rintro rfl;refine IX (name:=Kq "__next__") hit.typeIs JT
   (IT JT hit.typeIs F.entry_lri_next ?_ (F.args_lri_next_1 _))
  unfold Builtin.«list_reverseiterator.__next__»;refine IJ (IQ (a:=(Kr a,[])) rfl ?_)
  try dsimp only
  refine IJ (IN ho hd (x:=rawInt (-1)) rfl ?_)
  show II _ _ (if(-1:Int)<0 then _ else _) _ _ s
  refine cV (by decide) ?_
  refine IJ (IP ?_)
  first
   |exact eH (c:=c) hh fun o1 o2 c2 f2=>⟨dR c2 f2,ad.push2 ok st g⟩
   |exact IJ (eH (c:=c) hh fun o1 o2 c2 f2=>⟨dR c2 f2,ad.push2 ok st g⟩)
 ·rintro j x rfl hl hx
  refine bc (st.at_ _ _ _ hk hl) fun vs n h1 rs=> ?_
  refine aL (rs.get hx) fun v ev rv=> ?_;refine IX (name:=Kq "__next__") hit.typeIs JT
   (IT JT hit.typeIs F.entry_lri_next ?_ (F.args_lri_next_1 _))
  unfold Builtin.«list_reverseiterator.__next__»;refine IJ (IQ (a:=(Kr a,[])) rfl ?_)
  try dsimp only
  have ej:((j+1:Nat):Int)-1=(j:Int):=by exact sj
  rw[ej]at hd;refine IJ (IN ho hd (x:=rawInt (j:Int)) rfl ?_)
  show II _ _ (if(j:Int)<0 then _ else _) _ _ s
  refine bV (by omega) ?_
  show II _ _ (field (.ref a) 0>>=_) _ _ s;refine IJ (IN ho hd (x:= .ref la) rfl ?_);show II _ _ (seqItems? (.ref la)>>=_) _ _ s;refine IJ (I0 h1 rfl ?_);simp only[GA,Hs,ev];have S:=ad.same (c:=c) (t:=s.toks) ok st g p (Kf (h:=s.heap) (a:=a) (f:=Ki (·.setIfInBounds 1 (rawInt ((j:Int)-1)))))
  have fin:ad c [a] ρ s ρ σ {s with heap:=s.heap.update a (Ki (·.setIfInBounds 1 (rawInt ((j:Int)-1))))}∧R (s.heap.update a (Ki (·.setIfInBounds 1 (rawInt ((j:Int)-1))))) ρ x v∧bC (s.heap.update a (Ki (·.setIfInBounds 1 (rawInt ((j:Int)-1))))) ρ (.revl k j) [a] a:=by
   refine⟨S,ad.R (by simpa using p) S rv,.revl ⟨_,Kb _ ho (Km (Kl hd _)),(Kn ..).trans hc,?_⟩ hk p⟩
   rw[Kl hd];rfl
  refine IJ (I3 ho hd (by exact H0 _) ?_)
  first
   |exact IK ⟨v,rfl,v,rfl,fin⟩
   |exact IJ (IK (IK ⟨v,rfl,v,rfl,fin⟩))
end
variable {ts:List It}{t t':It}
section
theorem gM:Manifest.owners.lookup (String.ofList ['d','e','s','r','e','v','e','r'].reverse)=some Manifest.sig_reversed:=by kernel_rfl
theorem cM:Slot "reversed" "__next__" "reversed.__next__":=
 .of (owner:="reversed") (n:="__next__") (by rw[Jb,Jc];exact rfl) (by decide+kernel) (by decide+kernel) (by decide+kernel)
  (by first|exact .inl (by decide+kernel)|exact .inr (by decide+kernel)) (by rw[Je];exact rfl)
theorem gN:entryFor table "reversed.__next__"=some Builtin.«reversed.__next__»:=entryFor_of_tree rfl
theorem ir(a:Value):argsOk "reversed.__next__" ⟨[a],[]⟩:=by
 unfold argsOk;rw[Jf (id:="reversed.__next__") (n:=['_','_','t','x','e','n','_','_']) (o:=['d','e','s','r','e','v','e','r']) rfl gM];exact rfl
theorem iq:Slot "reversed" "__iter__" "reversed.__iter__":=
 .of (owner:="reversed") (n:="__iter__") (by rw[Jb,Jc];exact rfl) (by decide+kernel) (by decide+kernel) (by decide+kernel)
  (by first|exact .inl (by decide+kernel)|exact .inr (by decide+kernel)) (by rw[Je];exact rfl)
theorem mN(a:Value):argsOk "reversed.__iter__" ⟨[a],[]⟩:=by
 unfold argsOk;rw[Jf (id:="reversed.__iter__") (n:=['_','_','r','e','t','i','_','_']) (o:=['d','e','s','r','e','v','e','r']) rfl gM];exact rfl
theorem ln:entryFor table "reversed.__iter__"=some Builtin.«dict_keyiterator.__iter__»:=
 entryFor_alias (id':="dict_keyiterator.__iter__") ⋯ (by first|rfl|decide+kernel|(unfold String.splitOn;simp+decide [String.splitOnAux])) (by decide+kernel) ⋯
set_option tactic.hygienic true in
theorem nh{a t:Addr}{l:List V}{i:Nat}(hh:A.handled=none)(ok:c.Ok)(st:aQ c ρ σ s.heap)(g:Gd c s.heap)(hit:s.heap.get? a=some (kG t ((i:Int)-1)))(r:R s.heap ρ (.tup l) (.ref t))(p:a∈ρ.p):
 (i=0→d_ c A a s (fun _ _=>False) (fun s'=>ad c [a] ρ s ρ σ s'))∧
 (∀j x,i=j+1→l[j]? =some x→l.length≤2^20→d_ c A a s (fun v s'=>ad c [a] ρ s ρ σ s'∧R s'.heap ρ x v∧bC s'.heap ρ (.revt l j) [a] a) (fun s'=>False)):=by
 have hT:s.TypeIs (.ref a) "reversed":=⟨_,hit,rfl⟩;constructor
 ·rintro rfl;refine IX (name:=Kq "__next__") hT cM (IT cM hT gN ?_ (ir _));unfold Builtin.«reversed.__next__»;refine IJ (IQ (a:=(Kr a,[])) rfl ?_)
  try dsimp only
  refine IJ (IN hit rfl (x:= .ref t) rfl ?_);refine IJ (IN hit rfl (x:=rawInt (-1)) rfl ?_)
  show II _ _ (if(-1:Int)<0 then _ else _) _ _ s
  refine cV (by decide) ?_
  refine IJ (IP ?_);have key: ∀{α:Type} {Q:α→Shared→Prop} {f:Unit→Sem α},(∀s',ad c [a] ρ s ρ σ s'→II (model c.prog c.w) A.in1 (f ()) Q (fun e s'=>nE e s'∧ad c [a] ρ s ρ σ s') s')→
   II (model c.prog c.w) A.in1 ((do setField (.ref a) 1 (rawInt (-1));setField (.ref a) 0 .none)>>=f) Q (fun e s'=>nE e s'∧ad c [a] ρ s ρ σ s') s:=by
   intro α Q f hf
   refine IJ (IJ (IZ hit (by exact H0 _) fun KR h1 Lu=>IZ h1 (by exact H3 _) fun La h2 hs₂=> ?_))
   exact hf _ (ad.same ok st g p (Lu.trans hs₂))
  refine key fun s' S=> ?_;refine IJ (m:=Builtin.SmallTypes.stopIteration) (eH (c:=c) (A:=A.in1) hh fun o1 o2 c2 f2=>⟨dR c2 f2,?_⟩);exact S.trans (ad.push2 ok S.sto S.gd)
 ·rintro j x rfl hx hz
  cases r with
  |tup h1 f1 rs=>
  rename_i vs n;refine aL (rs.get hx) fun v ev rv=> ?_;refine IX (name:=Kq "__next__") hT cM (IT cM hT gN ?_ (ir _));unfold Builtin.«reversed.__next__»;refine IJ (IQ (a:=(Kr a,[])) rfl ?_)
  try dsimp only
  have ej:((j+1:Nat):Int)-1=(j:Int):=by exact sj
  rw[ej]at hit;have ht:s.TypeIs (.ref t) "tuple":=⟨_,h1,rfl⟩;refine IJ (IN hit rfl (x:= .ref t) rfl ?_);refine IJ (IN hit rfl (x:=rawInt (j:Int)) rfl ?_)
  show II _ _ (if(j:Int)<0 then _ else _) _ _ s
  refine bV (by omega) ?_
  refine IJ (m:=specialOf _ _) (I4 ht JS.lookup ?_);show II _ _ (mkInt j>>=_) _ _ s;refine IJ (wpAny_mkInt ?_);have hlt:j<l.length:=(G1.mp hx).1
  have hsi:seqIndex? (j:Int) vs.toArray.size=some j:=by
   have:j<vs.length:=by rw[←rs.length];exact hlt
   have h0: ¬((j:Int)<0):=by omega
   unfold seqIndex?;simp only[h0,if_false,Hi]
   refine dP (by simp;assumption) ?_
   simp
  refine IJ (wpAny_attempt (getItem_tuple (s:={s with toks:=s.toks+1}) (cU h1) (j:=j) (jm ac) (jlt ‹_› ‹_› (by exact ac)) hsi (x:=v) (by simpa using ev) ?_))
  show II _ _ (field (.ref a) 1>>=_) _ _ _;refine IJ (IN hit rfl (x:=rawInt (j:Int)) rfl ?_);show II _ _ (setField (.ref a) 1 (rawInt ((j:Int)-1))>>=_) _ _ _
  refine IJ (IZ hit (by exact H0 _) fun KR h2 Lu=>IK ⟨v,rfl,v,rfl,?_⟩)
  have S:=ad.same (c:=c) (t:=s.toks+1) ok st g p Lu
  exact⟨S,ad.R (by simpa using p) S rv,.revt h2 (ad.R (by simpa using p) S (.tup h1 f1 rs)) p⟩
end
section
theorem af.itrs{t:List It}{as:List Addr}(st:aQ c ρ σ s.heap)(x:af c ρ s KF KD s')(i:bD s.heap ρ t I as):bD s'.heap KF t I as:=ad.itrs st (by exact G9 _) (by simp) x i
variable (c)in
noncomputable def dH(t:It):Prop:= ∀(A:Around) (s:Shared) (ρ:Pl) (σ:Sg) (I:List Addr) (a:Addr) (r:Option (V×It)),A.handled=none→aQ c ρ σ s.heap→Gd c s.heap→bC s.heap ρ t I a→ay σ t=some r→
 d_ c A a s (fun v s'=> ∃x t',r=some (x,t')∧ad c I ρ s ρ σ s'∧R s'.heap ρ x v∧bC s'.heap ρ t' I a) (fun s'=>r=none∧ad c I ρ s ρ σ s')
theorem bD.snoc{I1:List Addr}{a1:Addr}(i:bC h ρ t I1 a1){as:List Addr}(r:bD h ρ ts I as):(∀x∈I,x∉I1)→bD h ρ (ts++[t]) (I++I1) (as++[a1]):=
 bD.ind (Q:=fun ts I as=>(∀x∈I,x∉I1)→bD h ρ (ts++[t]) (I++I1) (as++[a1])) (fun u_=>by have:=bD.cons i .nil fun u_ u_=>Hg;rw[G4]at this;exact this)
  (fun j u_ ih d n=>G0 .. ▸ .cons j (ih fun x m=>n x (Hj _ m)) fun x m q=>(GP.mp q).elim (d x m) (n x (G' _ m))) r
theorem bD.len{as:List Addr}(r:bD h ρ ts I as):ts.length=as.length:=bD.ind (Q:=fun ts u_ as=>ts.length=as.length) rfl (fun u_ u_ ih u_=>congrArg (· +1) ih) r
theorem ad.wider{D:List Addr}(x:ad c D ρ s KF KD s')(k: ∀a∈D,a∈D'):ad c D' ρ s KF KD s':=
 {x with ext:=x.ext.mono fun a m=>by rcases GP.mp m with q|q;exact GP.mpr (.inl (k a q));exact GP.mpr (.inr q)}
theorem ad.same_at{D:List Addr}(st:aQ c ρ σ s.heap)(x:ad c D ρ s KF KD s'){o:Obj}(p:a∈ρ.p)(n:a∉D)(e:s.heap.get? a=some o)(f:uM o=true):s'.heap.get? a=some o:=
 x.ext.get (fun m=>(GP.mp m).elim n (st.disj a p)) e f
set_option genInjectivity false in
structure ZL where
 tsd:List It
 tsr:List It
 Id:List Addr
 Ir:List Addr
 asd:List Addr
 asr:List Addr
 xs:List V
 vs:List Value
variable (c)in
structure ZC(ρ:Pl)(σ:Sg)(s:Shared)(D I as:List Addr)(ts:List It)(s':Shared)(L:ZL):Prop where
 step:ad c (D++I) ρ s ρ σ s'
 asL:as=L.asd++L.asr
 xl:L.xs.length=L.asd.length
 d:bD s'.heap ρ L.tsd L.Id L.asd
 r:bD s'.heap ρ L.tsr L.Ir L.asr
 IL:I=L.Id++L.Ir
 ap: ∀x∈L.Id,x∉L.Ir
 val:Rs s'.heap ρ L.xs L.vs
 sub: ∀t∈L.tsr,t∈ts
 nx:bh σ ts=(bh σ L.tsr).map (·.map fun p=>(L.xs++p.1,L.tsd++p.2))
theorem bD.inL{Ir Id:List Addr}{x:Addr}(e:I=Id++Ir)(n:x∉I):x∉Id∧x∉Ir:=by
 rw[e]at n;exact⟨fun m=>n (G' _ m),fun m=>n (Hj _ m)⟩
section
variable {D as:List Addr}{L:ZL}
theorem ZC.len(Z:ZC c ρ σ s D I as ts s' L):L.vs.length=L.asd.length:=Z.val.length▸Z.xl
theorem ZC.write{x:Addr}(Z:ZC c ρ σ s D I as ts s' L)(S:ad c [x] ρ s' ρ σ KL)(px:x∈ρ.p)(nI:x∉I)(mD:x∈D):ZC c ρ σ s D I as ts KL L:=
 have pp: ∀a∈[x],a∈ρ.p:=dA px;have nn:=bD.inL Z.IL nI
 {Z with
  step:=Z.step.trans (S.wider (dA (G' _ mD)))
  d:=ad.itrs Z.step.sto pp (fun y m q=>nn.1 (GR.mp q▸m)) S Z.d
  r:=ad.itrs Z.step.sto pp (fun y m q=>nn.2 (GR.mp q▸m)) S Z.r
  val:=ad.Rs pp S Z.val}
theorem ZC.start{x:Addr}(st:aQ c ρ σ s.heap)(S:ad c [x] ρ s ρ σ s')(px:x∈ρ.p)(nI:x∉I)(mD:x∈D)(its:bD s.heap ρ ts I as):ZC c ρ σ s D I as ts s' ⟨[],ts,[],I,[],as,[],[]⟩ where
 step:=S.wider (dA (G' _ mD))
 asL:=rfl
 xl:=rfl
 d:= .nil
 r:=ad.itrs st (dA px) (fun y m q=>nI (GR.mp q▸m)) S its
 IL:=rfl
 ap:=fun u_ m=>nomatch m
 val:= .nil
 sub:=fun u_ m=>m
 nx:=by
  cases bh σ ts with
  |none=>rfl
  |some o=>cases o<;>rfl
theorem j8{r:Option (V×It)}(e:ay σ t=some r):bh σ (t::ts)=r.elim (some none) fun p=>(bh σ ts).map fun q=>q.map fun q=>(p.1::q.1,p.2::q.2):=by rw[jd,e];rfl
theorem ZC.stop(Z:ZC c ρ σ s D I as ts s' L){l:List It}(ht:L.tsr=t::l)(e:ay σ t=some none):bh σ ts=some none:=by rw[Z.nx,ht,j8 e];rfl
theorem ZC.more(Z:ZC c ρ σ s D I as ts s' L){l:List It}{r0:Option (List V×List It)}(ht:L.tsr=t::l)(hr:bh σ ts=some r0): ∃r,ay σ t=some r:=by
 have:=Z.nx.symm.trans hr;rw[ht]at this;exact aN this fun u_ h u_=>ae h fun r h u_=>⟨r,h⟩
theorem ZC.all(Z:ZC c ρ σ s D I as ts s' L)(ht:L.tsr=[]):bh σ ts=some (some (L.xs,L.tsd)):=by
 rw[Z.nx,ht];show some (some (L.xs++[],L.tsd++[]))=_;rw[G4,G4]
noncomputable def Kp(ρ:Pl)(I:List Addr)(s' KL:Shared):Prop:= ∀b o,b∈ρ.p→b∉I→s'.heap.get? b=some o→uM o=true→KL.heap.get? b=some o
set_option tactic.hygienic true in
theorem ZC.turn{a1:Addr}{asr':List Addr}{r0:Option (List V×List It)}(ih: ∀t∈ts,dH c t)(hh:A.handled=none)(Z:ZC c ρ σ s D I as ts s' L)(ha:L.asr=a1::asr')(hr:bh σ ts=some r0):
 II (model c.prog c.w) A (JD (.ref a1)) (fun v KL=> ∃L',ZC c ρ σ s D I as ts KL L'∧L'.asr=asr'∧L'.vs=L.vs++[v]∧Kp ρ I s' KL)
  (fun e KL=>nE e KL∧r0=none∧ad c (D++I) ρ s ρ σ KL∧Kp ρ I s' KL) s':=by
 obtain⟨tsd,tsr,Id,Ir,asd,asr,xs,vs⟩:=L;subst ha;have zr:=Z.r
 cases zr with
 |cons i1 irs dj=>
 rename_i t tsr' I1 J;have inI: ∀x∈I1,x∈I:=fun x m=>Z.IL▸Hj _ (G' _ m);have kp: ∀{KL},ad c I1 ρ s' ρ σ KL→Kp ρ I s' KL:=fun S b o p n e f=>S.same_at Z.step.sto p (fun m=>n (inI b m)) e f;have st2: ∀{KL},ad c I1 ρ s' ρ σ KL→ad c (D++I) ρ s ρ σ KL:=fun S=>Z.step.trans (S.wider fun x m=>Hj _ (inI x m));refine oE (Z.more rfl hr) fun r1 e1=> ?_;refine IM (ih t (Z.sub t (.head _)) A s' ρ σ I1 a1 r1 hh Z.step.sto Z.step.gd i1 e1).nextOf (fun v KL La=> ?_) fun K2 KL La=> ?_
 ·refine bU La fun x t' e2 KJ rv i2=> ?_;subst e2;have pI:=i1.priv.1;refine⟨⟨tsd++[t'],tsr',Id++I1,J,asd++[a1],asr',xs++[x],vs++[v]⟩,?_,rfl,rfl,kp KJ⟩
  exact {
   step:=st2 KJ
   asL:=Z.asL.trans (List.append_cons ..)
   xl:=by rw[G6,G6];exact congrArg (· +1) Z.xl
   d:=bD.snoc i2 (ad.itrs Z.step.sto pI (fun x m q=>Z.ap x m (G' _ q)) KJ Z.d) fun x m q=>Z.ap x m (G' _ q)
   r:=ad.itrs Z.step.sto pI (fun x m q=>dj x q m) KJ irs
   IL:=Z.IL.trans (G0 ..).symm
   ap:=fun x m q=>(GP.mp m).elim (fun y=>Z.ap x y (Hj _ q)) fun y=>dj x y q
   val:=(ad.Rs pI KJ Z.val).append (.cons rv .nil)
   sub:=fun t m=>Z.sub t (.tail _ m)
   nx:=by
    refine Z.nx.trans ?_;rw[j8 e1]
    cases bh σ tsr' with
    |none=>rfl
    |some o=>
     cases o with
     |none=>rfl
     |some p=>exact congrArg (fun q=>some (some q)) (Prod.ext (List.append_cons ..) (List.append_cons ..))}
 ·refine mX La fun hst e2 KJ=> ?_;subst e2;exact⟨hst,IH (hr.symm.trans (Z.stop rfl e1)),st2 KJ,kp KJ⟩
end
theorem Ft{r:Option (V×It)}(e:ay σ (.zip ts)=some r):ts.length≤64∧ ∃r0,bh σ ts=some r0∧(r0=none→r=none)∧ ∀xs ts',r0=some (xs,ts')→xs≠[]∧r=some (.tup xs,.zip ts'):=by
 refine oA (iz e) fun h e=>ae e fun r0 h0 e=>⟨h,r0,h0,fun z=> ?_,fun xs ts' z=> ?_⟩
 ·subst z;exact(IH e).symm
 ·subst z;refine oA (sN e) fun hne w=>⟨fun q=>hne (q▸rfl),(IH w).symm⟩
theorem kx{Q:Option Obj→Shared→Prop}(h:Q (s.heap.get? a) s):II (model c.prog c.w) A (loadIfAlive a) Q E s:=fun u_ u_ u_=>h
theorem u0{vs ws:List α}{v:α}(h:ws.take k=vs)(hk:k<ws.length):(ws.set k v).take (k+1)=vs++[v]:=by
 rw[HV (by rw[Ht];exact hk),List.take_set_of_le (HY _),h]
 simp
structure ZO(as:List Addr)(a TI TO:Addr)(f0 f1:Value)(m m':Nat)(ws:List Value)(s':Shared):Prop where
 z:s'.heap.get? a=some (jA f0 f1 TI TO)
 TI:s'.heap.get? TI=some (ao (as.map .ref) m)
 TO:s'.heap.get? TO=some (ao ws m')
theorem ZO.keep{as:List Addr}{TI TO:Addr}{f1:Value}{m m':Nat}(O:ZO as a TI TO f0 f1 m m' ws s')(p1:a∈ρ.p)(p2:TI∈ρ.p)(p3:TO∈ρ.p)(n4:a∉I)(n5:TI∉I)(n6:TO∉I)(k:Kp ρ I s' KL):ZO as a TI TO f0 f1 m m' ws KL:=
 ⟨k _ _ p1 n4 O.z rfl,k _ _ p2 n5 O.TI rfl,k _ _ p3 n6 O.TO rfl⟩
theorem ad.kp{x:Addr}(st:aQ c ρ σ s'.heap)(S:ad c [x] ρ s' ρ σ KL){b:Addr}{o:Obj}(p:b∈ρ.p)(n:b≠x)(e:s'.heap.get? b=some o)(f:uM o=true):KL.heap.get? b=some o:=S.same_at st p (fun m=>n (GR.mp m)) e f
theorem ZC.fin{D as:List Addr}{L:ZL}{r0:Option (List V×List It)}(Z:ZC c ρ σ s D I as ts s' L)(ha:L.asr=[])(hr:bh σ ts=some r0)(k:r0=some (L.xs,L.tsd)→I=L.Id→as=L.asd→G):G:=by
 obtain⟨tsd,tsr,Id,Ir,asd,asr,xs,vs⟩:=L;subst ha;have zr:=Z.r
 cases zr with
 |nil=>exact k (IH (hr.symm.trans (Z.all rfl))) (Z.IL.trans (G4 _)) (Z.asL.trans (G4 _))
noncomputable abbrev nJ(cls f0 f1:Value)(vs:List Value):Obj:={cls:=cls,dict:=none,data:= .fields (f0::f1::vs).toArray,slots:= #[]}
theorem qk{T:Addr}{cls f1:Value}{Q:Bool→Shared→Prop}(ho:s.heap.get? a=some (nJ cls (rawInt (T:Nat)) f1 vs))(hT:s.heap.get? T=some (ao ws n))
 (hQ: ∀KR g1,KR.get? a=some (nJ cls (rawInt (T:Nat)) g1 vs)→Kc a s.heap KR→Q false {s with heap:=KR}):II (model c.prog c.w) A (JC (.ref a)) Q E s:=by
 unfold JC;refine IJ (IN ho rfl (x:=rawInt (T:Nat)) rfl ?_);refine(?_:II _ _ (loadIfAlive ((T:Nat):Int).toNat>>=_) _ _ s);refine IJ (kx ?_);rw[GA,hT];refine bV Gk ?_;refine IJ (IN ho rfl (x:=f1) rfl ?_)
 by_cases q:(f1 != .bool true)=true
 ·refine cV q ?_;exact IJ (IZ ho (Nat.succ_lt_succ (HZ _)) fun KR LH Lu=>IK (hQ KR _ LH Lu))
 ·refine bV q ?_
  first
   |exact IK (hQ s.heap f1 ho (Kc.refl ..))
   |exact IJ (IK (IK (hQ s.heap f1 ho (Kc.refl ..))))
theorem pY{b:Addr}{cls f1:Value}{Q:Unit→Shared→Prop}(ho:s.heap.get? a=some (nJ cls f0 f1 vs))
 (hQ: ∀KR,KR.get? a=some (nJ cls (rawInt (b:Nat)) (.bool false) vs)→Kc a s.heap KR→Q () {s with heap:=KR}):II (model c.prog c.w) A (JE (.ref a) (.ref b)) Q E s:=by
 unfold JE;exact IJ (IZ ho (HZ _) fun KR g₁ KH=>IZ g₁ (Nat.succ_lt_succ (HZ _)) fun La g₂ KL=>hQ La g₂ (KH.trans KL))
set_option tactic.hygienic true in
theorem A_(ok:c.Ok)(ts:List It)(ih: ∀t∈ts,dH c t):dH c (.zip ts):=by
 intro A s ρ σ I' a r hh st g i e
 cases i with
 |zip hz H hTI hTO hl its p1 p2 p3 n1 n2 n3 n4 n5 n6=>
 rename_i I as TI TO f0 f1 ws m m';refine oA (Ft e) fun hz3 he=>bW he fun r0 hr rn rs=> ?_;have hT:s.TypeIs (.ref a) "zip":=⟨_,hz,rfl⟩
 change let Q0:=_;II _ _ _ Q0 _ _;intros
 refine IX (name:=Kq "__next__") hT J2 (IT J2 hT PySem.F.entry_zip_next ?_ (PySem.F.args_zip_next_1 _));refine(?_:II _ _ (field (.ref a) 2>>=_) _ _ _)
 ac_rfl
 refine IJ (IN hz rfl (x:= .bool false) rfl ?_);refine(?_:II _ _ (field (.ref a) 3>>=_) _ _ _)
 ac_rfl
 refine IJ (IN hz rfl (x:= .ref TI) rfl ?_)
 change let Q0:=_;II _ _ _ Q0 _ _;intros
 refine IJ (I0 hTI rfl ?_)
 have hemp:((as.map Kr).toArray).isEmpty=false:=by
  cases as with
  |cons b bs=>rfl
  |nil=>
   cases its
   exact absurd rfl (rs [] [] (IH hr).symm).1
 have hz2:as.length≤64:=its.len▸hz3;have m1:a∈[a,TI,TO]:= .head _;have m3:TO∈[a,TI,TO]:= .tail _ (.tail _ (.head _));refine bV (hemp▸Gk) ?_;show II _ _ (JC (.ref a)>>=_) _ _ _
 rcases H with rfl|⟨T,vs,n,rfl,hT',fT⟩
 ·change let Q0:=_;II _ _ _ Q0 _ _;intros
  refine IJ ?_;unfold JC
  change let E0:=_;II _ _ _ _ E0 _;intros
  refine IJ (IN hz rfl (x:= .none) rfl (IK ?_));simp only[if_true]
  ac_rfl
  refine IJ (IP ?_)
  ac_rfl
  refine IJ (IN hz rfl (x:= .ref TO) rfl ?_)
  ac_rfl
  refine IJ (IZ hz (HZ _) fun KR LH Lu=> ?_);replace LH:KR.get? a=some (jA .ellipsis f1 TI TO):=LH
  have KG:ad c [a] ρ s ρ σ {s with heap:=KR}:=ad.same (t:=s.toks) ok st g p1 Lu
  ac_rfl
  refine IJ ?_
  change let Q0:=_;II _ _ _ Q0 _ _;intros
  change let B0:=_;II _ _ (forIn _ _ B0) _ _ _;intro B0
  refine Jj _ (fun rest b s'=>b=(none,())∧ ∃L ws',rest=(L.asr.map Kr).zipIdx L.vs.length∧ZC c ρ σ s [a,TI,TO] I as ts s' L∧ZO as a TI TO .ellipsis f1 m m' ws' s'∧ws'.length=as.length∧ws'.take L.vs.length=L.vs) _ ?_ ?_ _ _
   ⟨rfl,⟨[],ts,[],I,[],as,[],[]⟩,ws,rfl,ZC.start st KG p1 n4 m1 its,⟨LH,KG.kp st p2 n1.symm hTI rfl,KG.kp st p3 n2.symm hTO rfl⟩,hl.trans its.len,rfl⟩
  ·rintro p0 rest b s' ⟨rfl,L,ws',hrest,Z,O,hw,ht⟩
   cases ha:L.asr with
   |nil=>rw[ha]at hrest;exact nc hrest
   |cons a1 asr'=>
   rw[ha]at hrest;obtain⟨rfl,rfl⟩:=List.cons.inj hrest
   have hk:L.vs.length<ws'.length:=by rw[hw,Z.len,Z.asL,ha,G6];exact Iz (HZ _)
   ac_rfl
   refine IJ (wpAny_onRaise ?_);refine(?_:II _ _ (JD (.ref a1)>>=_) _ _ _)
   ac_rfl
   refine IJ (IM (Z.turn (A:=A.in1) ih hh ha hr) (fun v KL La=> ?_) fun K2 KL La=> ?_)
   ·refine nB La fun L' Z' h1 h2 k=> ?_;have O2:=O.keep p1 p2 p3 n4 n5 n6 k
    have sz:ws'.length≤sizeLine:=hw▸HX hz2 (by decide)
    change let Q0:=_;II _ _ _ Q0 _ _;intros
    refine IK ?_
    ac_rfl
    refine IJ (I0 O2.TO rfl ?_)
    ac_rfl
    refine IJ (I5 O2.TO rfl ?_ (by assumption) (by simpa using Ia sz))
    ac_rfl
    refine IJ (I6 (IK ⟨rfl,?_⟩))
    have KV:ad c [TO] ρ KL ρ σ {KL with heap:=KL.heap.update TO (Kj (·.setIfInBounds L.vs.length v))}:=ad.same (t:=KL.toks) ok Z'.step.sto Z'.step.gd p3 (Kf ..)
    refine⟨L',ws'.set L.vs.length v,by rw[h1,h2,G6];rfl,Z'.write KV p3 n6 m3,⟨KV.kp Z'.step.sto p1 n2 O2.z rfl,KV.kp Z'.step.sto p2 n3 O2.TI rfl,?_⟩,Ht.trans hw,by rw[h2,G6];exact u0 ht hk⟩
    refine(Kb _ O2.TO rfl).trans ?_;simp[Kj,ao]
   ·refine uq La fun hst e0 KJ k=> ?_;have zz:=(O.keep p1 p2 p3 n4 n5 n6 k).z;refine IZ zz (HZ _) fun LO hz₃ L6=> ?_
    have KV:ad c [a] ρ KL ρ σ {KL with heap:=LO}:=ad.same (t:=KL.toks) ok KJ.sto KJ.gd p1 L6
    refine dC hst fun b o e1 hb hcb=> ?_;refine⟨⟨b,o,e1,(L6.2 b fun q=> ?_).trans hb,hcb⟩,rn e0,KJ.trans (KV.wider (dA (.head _)))⟩;rw[q,zz]at hb;obtain rfl:=IH hb
    exact absurd hcb (by simp)
  ·rintro b s' ⟨rfl,L,ws',hrest,Z,O,hw,ht⟩
   cases ha:L.asr with
   |cons a1 asr'=>rw[ha]at hrest;exact Cv hrest
   |nil=>
   refine Z.fin ha hr fun e0 eI ea=> ?_
   have hv:ws'=L.vs:=by rw[←ht,Z.len,←ea,←hw,List.take_length]
   subst hv;have er:=(rs _ _ e0).2;refine(?_:II _ _ (seqItems? (.ref TO)>>=_) _ _ _)
   ac_rfl
   refine IJ (I0 O.TO rfl ?_)
   ac_rfl
   refine IJ (Jg ?_ (by simpa [hw]using HX hz2 (by decide)))
   have KG:af c ρ s' ρ σ {s' with heap:=s'.heap.push (ao L.vs 0)}:=af.push (t:=s'.toks) ok Z.step.sto Z.step.gd
   have rt:R (s'.heap.push (ao L.vs 0)) ρ (.tup L.xs) (.ref s'.heap.objs.size):= .tup (J9 _ rfl) (Z.step.sto.new (HY _)) (KG.Rs Z.val);have zz:(s'.heap.push (ao L.vs 0)).get? a=some (jA .ellipsis f1 TI TO):=J_ _ O.z;refine(?_:II _ _ (JE (.ref a) (.ref s'.heap.objs.size)>>=_) _ _ _)
   ac_rfl
   refine IJ (pY zz fun L8 hz₅ hs₅=> ?_)
   have KJ:ad c [a] ρ {s' with heap:=s'.heap.push (ao L.vs 0)} ρ σ {s' with heap:=L8}:=ad.same (t:=s'.toks) ok KG.sto KG.gd p1 hs₅
   have KV:ad c [a] ρ s' ρ σ {s' with heap:=L8}:=(af.D KG).trans KJ
   have Z3:=Z.write KV p1 n4 m1;have Mq:=ad.R (dA p1) KJ rt
   change let Q0:=_;II _ _ _ Q0 _ _;intros
   refine IK ⟨_,rfl,_,rfl,.tup L.xs,.zip L.tsd,er,Z3.step,Mq,?_⟩
   cases Mq using R.tupE with
   |tup g1 f1' _=>
   have d3:bD L8 ρ L.tsd I as:=by rw[eI,ea];exact Z3.d
   exact .zip hz₅ (.inr ⟨_,_,_,rfl,g1,f1'⟩) (KV.kp Z.step.sto p2 n1.symm O.TI rfl) (KV.kp Z.step.sto p3 n2.symm O.TO rfl) (Z.len.trans Z.d.len.symm) d3 p1 p2 p3 n1 n2 n3 n4 n5 n6
 ·change let Q0:=_;II _ _ _ Q0 _ _;intros
  refine IJ (qk hz hT' fun KR g1 LH Lu=> ?_)
  have KG:ad c [a] ρ s ρ σ {s with heap:=KR}:=ad.same (t:=s.toks) ok st g p1 Lu
  simp only[Gm,if_false]
  ac_rfl
  refine IJ ?_;rw[←Array.forIn_toList]
  change let Q0:=_;II _ _ _ Q0 _ _;intros
  change let B0:=_;II _ _ (forIn _ _ B0) _ _ _;intro B0
  refine Jj _ (fun rest b s'=> ∃L,b=(none,L.vs.toArray)∧rest=L.asr.map Kr∧ZC c ρ σ s [a,TI,TO] I as ts s' L∧ZO as a TI TO (rawInt (T:Nat)) g1 m m' ws s') _ ?_ ?_ _ _
   ⟨⟨[],ts,[],I,[],as,[],[]⟩,rfl,rfl,ZC.start st KG p1 n4 m1 its,LH,KG.kp st p2 n1.symm hTI rfl,KG.kp st p3 n2.symm hTO rfl⟩
  ·rintro v0 rest b s' ⟨L,rfl,hrest,Z,O⟩
   cases ha:L.asr with
   |nil=>rw[ha]at hrest;exact nc hrest
   |cons a1 asr'=>
   rw[ha]at hrest;obtain⟨rfl,rfl⟩:=List.cons.inj hrest
   ac_rfl
   refine IJ (IO ?_);refine(?_:II _ _ (JD (.ref a1)>>=_) _ _ _)
   ac_rfl
   refine IJ (IM (Z.turn (A:=A.in1) ih hh ha hr) (fun v KL La=> ?_) fun K2 KL La=> ?_)
   ·refine nB La fun L' Z' h1 h2 k=> ?_
    change let Q0:=_;II _ _ _ Q0 _ _;intros
    exact IK (IK ⟨L',by rw[h2];simp,congrArg (·.map Kr) h1.symm,Z',O.keep p1 p2 p3 n4 n5 n6 k⟩)
   ·exact uq La fun hst e0 KJ k=>⟨hst,rn e0,KJ⟩
  ·rintro b s' ⟨L,rfl,hrest,Z,O⟩
   cases ha:L.asr with
   |cons a1 asr'=>rw[ha]at hrest;exact Cv hrest
   |nil=>
   refine Z.fin ha hr fun e0 eI ea=> ?_;have er:=(rs _ _ e0).2;have hxl:L.vs.length=as.length:=ea▸Z.len;refine(?_:II _ _ (newTuple L.vs>>=_) _ _ _)
   ac_rfl
   refine IJ (Jg ?_ (by simpa [hxl]using HX hz2 (by decide)))
   have KG:af c ρ s' ρ σ {s' with heap:=s'.heap.push (ao L.vs 0)}:=af.push (t:=s'.toks) ok Z.step.sto Z.step.gd
   have rt:R (s'.heap.push (ao L.vs 0)) ρ (.tup L.xs) (.ref s'.heap.objs.size):= .tup (J9 _ rfl) (Z.step.sto.new (HY _)) (KG.Rs Z.val)
   change let Q0:=_;II _ _ _ Q0 _ _;intros
   refine IK ⟨_,rfl,_,rfl,.tup L.xs,.zip L.tsd,er,Z.step.trans (af.D KG),rt,?_⟩
   have d3:bD (s'.heap.push (ao L.vs 0)) ρ L.tsd I as:=by rw[eI,ea];exact af.itrs Z.step.sto KG Z.d
   have hps: ∀x∈a::TI::TO::I,x∈ρ.p:=aj p1 (aj p2 (aj p3 its.priv));refine .zip (J_ _ O.z) (.inr ⟨T,vs,n,rfl,?_,fT⟩) (J_ _ O.TI) (J_ _ O.TO) ((hl.trans its.len).trans ((congrArg List.length ea).trans Z.d.len.symm)) d3 p1 p2 p3 n1 n2 n3 n4 n5 n6;exact(Z.step.trans (af.D KG)).ext.get (fun q=>(GP.mp q).elim (fun q=>fT.2 (hps T q)) fT.1) hT' rfl
end
section
set_option tactic.hygienic true in
theorem xQ(ok:c.Ok)(t:It)(ih:dH c t)(n:Int):dH c (.enum t n):=by
 intro A s ρ σ I' a r hh st g i e
 cases i with
 |enum he H it p ni=>
 rename_i I it0 f0 f1 old;have hT:s.TypeIs (.ref a) "enumerate":=⟨_,he,rfl⟩;refine aN e fun r1 e1 er=> ?_
 change let Q0:=_;II _ _ _ Q0 _ _;intros
 change let E0:=_;II _ _ _ _ E0 _;intros
 refine IX (name:=Kq "__next__") hT J3 (IT J3 hT PySem.F.entry_enumerate_next ?_ (PySem.F.args_enumerate_next_1 _));refine(?_:II _ _ (field (.ref a) 2>>=_) _ _ _)
 and_intros
 refine IJ (IN he rfl (x:= .ref it0) rfl ?_);have N:=ih A.in1 s ρ σ I it0 r1 hh st g it e1
 and_intros
 refine IJ (IM N.nextOf (fun v KL La=> ?_) fun K2 KL La=> ?_)
 ·refine bU La fun x t' zz2 KJ rv i2=> ?_;subst zz2;replace er:some (.tup [.int n,x],.enum t' (n+1))=r:=er;subst er;have h2:=KJ.same_at st p ni he rfl;have H2:dn KL.heap ρ f0:=H.mono (ad.off it.priv.1) KJ.ext KJ.le;refine(?_:II _ _ (field (.ref a) 3>>=_) _ _ _)
  and_intros
  refine IJ (IN h2 rfl (x:=rawInt n) rfl ?_);refine(?_:II _ _ (field (.ref a) 4>>=_) _ _ _)
  and_intros
  refine IJ (IN h2 rfl (x:= .none) rfl ?_);refine(?_:II _ _ (mkInt n>>=_) _ _ _)
  and_intros
  refine IJ (wpAny_mkInt ?_)
  refine(?_:II _ _ (setField (.ref a) 3 (rawInt (n+1))>>=_) _ _ {KL with toks:=KL.toks+1})
  and_intros
  refine IJ (IZ h2 (by exact H9 ac) fun LO h3 L6=> ?_)
  replace h3:LO.get? a=some (dM f0 f1 it0 (n+1) old):=h3
  refine(?_:II _ _ (setField (.ref a) 4 .none>>=_) _ _ {KL with heap:=LO,toks:=KL.toks+1})
  and_intros
  refine IJ (IZ h3 (by exact H3 _) fun Lo h4 hs₄=> ?_)
  replace h4:Lo.get? a=some (dM f0 f1 it0 (n+1) old):=h4;have hs:Kc a KL.heap Lo:=L6.trans hs₄
  have KV:ad c [a] ρ KL ρ σ {KL with heap:=Lo,toks:=KL.toks+1}:=ad.same (t:=KL.toks+1) ok KJ.sto KJ.gd p hs
  refine(?_:II _ _ (newTuple [.int n KL.toks,v]>>=_) _ _ {KL with heap:=Lo,toks:=KL.toks+1})
  and_intros
  refine IJ (Jg ?_)
  have K6:af c ρ {KL with heap:=Lo,toks:=KL.toks+1} ρ σ {KL with heap:=Lo.push (ao [.int n KL.toks,v] 0),toks:=KL.toks+1}:=af.push (t:=KL.toks+1) ok KV.sto KV.gd
  have rt:R (Lo.push (ao [.int n KL.toks,v] 0)) ρ (.tup [.int n,x]) (.ref Lo.objs.size):=
   .tup (J9 _ rfl) (KV.sto.new (HY _)) (.cons .int (.cons (K6.R (ad.R (dA p) KV rv)) .nil))
  have h5:(Lo.push (ao [.int n KL.toks,v] 0)).get? a=some (dM f0 f1 it0 (n+1) old):=J_ _ h4;have Li:=KV.trans (af.D K6);have H5:dn (Lo.push (ao [.int n KL.toks,v] 0)) ρ f0:=H2.mono (ad.off (D:=[a]) (dA p)) Li.ext Li.le
  have i5:=ad.itr KJ.sto (dA p) (fun y m q=>ni (by rw[GR.mp q]at m;exact m)) Li i2
  have fin: ∀h' f0' f1' old',h'.get? a=some (dM f0' f1' it0 (n+1) old')→Kc a (Lo.push (ao [.int n KL.toks,v] 0)) h'→(f0'=f0∨f0'=rawInt (Lo.objs.size:Nat))→
   ∃x_1 t'_1,some (V.tup [V.int n,x],It.enum t' (n+1))=some (x_1,t'_1)∧ad c (a::I) ρ s ρ σ {KL with heap:=h',toks:=KL.toks+1}∧R h' ρ x_1 (.ref Lo.objs.size)∧bC h' ρ t'_1 (a::I) a:=by
   intro h' f0' f1' old' hg hsb hf
   have LI:ad c [a] ρ {KL with heap:=Lo.push (ao [.int n KL.toks,v] 0),toks:=KL.toks+1} ρ σ {KL with heap:=h',toks:=KL.toks+1}:=ad.same (t:=KL.toks+1) ok Li.sto Li.gd p hsb
   have rt6:=ad.R (dA p) LI rt
   have H6:dn h' ρ f0':=by
    rcases hf with rfl|rfl
    ·exact H5.mono (ad.off (D:=[a]) (dA p)) LI.ext LI.le
    ·cases rt6 using R.tupE with
     |tup g1 f1 _=>exact .inr ⟨_,_,_,rfl,g1,f1⟩
   exact⟨_,_,rfl,(KJ.wider fun y m=>by exact HL _ (by assumption)).trans ((Li.trans LI).wider (fun _ m=>G' _ m)),rt6,
    .enum hg H6 (ad.itr Li.sto (dA p) (fun y m q=>ni (by rw[GR.mp q]at m;exact m)) LI i5) p ni⟩
  refine(?_:II _ _ (JC (.ref a)>>=_) _ _ _)
  rcases H5 with hf|⟨T,vs,m,hf,hT',fT⟩
  ·and_intros
   refine IJ ?_;unfold JC;replace h5:(Lo.push (ao [.int n KL.toks,v] 0)).get? a=some (dM .none f1 it0 (n+1) old):=hf▸h5;refine IJ (IN h5 rfl (x:= .none) rfl (IK ?_));simp only[if_true]
   and_intros
   refine IJ (IP ?_)
   and_intros
   refine IJ (IN h5 rfl (x:=old) rfl ?_)
   and_intros
   refine IJ (IZ h5 (HY _) fun h₆ h6 hs₆=> ?_);replace h6:h₆.get? a=some (dM .none f1 it0 (n+1) v):=h6;refine(?_:II _ _ (JE (.ref a) (.ref Lo.objs.size)>>=_) _ _ _)
   and_intros
   refine IJ (pY h6 fun h₈ h8 hs₈=> ?_)
   and_intros
   refine IJ (I6 (IK ⟨_,rfl,_,rfl,fin h₈ _ _ _ h8 (hs₆.trans hs₈) (.inr rfl)⟩))
  ·replace h5:(Lo.push (ao [.int n KL.toks,v] 0)).get? a=some (dM (rawInt (T:Nat)) f1 it0 (n+1) old):=hf▸h5
   change let Q0:=_;II _ _ _ Q0 _ _;intros
   refine IJ (qk h5 hT' fun KR g1 LH Lu=> ?_);simp only[Gm,if_false]
   first
    |exact IK ⟨_,rfl,_,rfl,fin KR _ _ _ LH Lu (.inl hf.symm)⟩
    |exact IJ (IK (IK ⟨_,rfl,_,rfl,fin KR _ _ _ LH Lu (.inl hf.symm)⟩))
 ·refine mX La fun hst zz1 KJ=> ?_;subst zz1;exact⟨hst,er.symm,KJ.wider fun y m=> .tail _ m⟩
theorem vW(ok:c.Ok)(l:List V)(k:Nat):dH c (.seq l k):=by
 intro A s ρ σ I a r hh st g i e
 cases i with
 |seq h1 r1 p=>
 obtain rfl:=IH e;exact(wL hh ok st g h1 r1 p).mono (fun v s' h=>nB h fun x hx S rv it=>⟨x,_,congrArg (xN · _) hx,S,rv,it⟩) fun s' h=>⟨congrArg (xN · _) h.1,h.2⟩
theorem wk(ok:c.Ok)(k j:Nat):dH c (.lst k j):=by
 intro A s ρ σ I a r hh st g i e
 cases i with
 |lst h1 r1 p=>
 refine aN e fun l hl e=> ?_;subst e;exact(uQ hh ok st g h1 r1 (bE hl) p).mono (fun v s' h=>nB h fun x hx S rv it=>⟨x,_,congrArg (xN · _) hx,S,rv,it⟩) fun s' h=>⟨congrArg (xN · _) h.1,h.2⟩
theorem wm(ok:c.Ok)(x left step:Int):dH c (.rng x left step):=by
 intro A s ρ σ I a r hh st g i e
 cases i with
 |rng h1 p=>
 obtain rfl:=IH e;exact(vb hh ok st g h1 p).mono (fun v s' h=>uq h fun hx S rv it=>⟨_,_,if_pos hx,S,rv,it⟩) fun s' h=>⟨if_neg h.1,h.2⟩
theorem tO(ok:c.Ok)(k j:Nat):dH c (.revl k j):=by
 intro A s ρ σ I a r hh st g i e
 cases i with
 |revl h1 r1 p=>
 cases j with
 |zero=>
  obtain rfl:=IH e;exact((m5 (l:=[]) hh ok st g h1 r1 p).1 rfl).mono (fun v s' h=>h.elim) fun s' S=>⟨rfl,S⟩
 |succ j=>
  refine ae e fun l hl e=>aN e fun x hx e=> ?_;subst e;exact((m5 hh ok st g h1 r1 p).2 j x rfl (bE hl) hx).mono (fun v s' h=>⟨x,_,rfl,h⟩) fun s' h=>h.elim
theorem uJ(ok:c.Ok)(l:List V)(j:Nat):dH c (.revt l j):=by
 intro A s ρ σ I a r hh st g i e
 cases i with
 |revt h1 r1 p=>
 cases j with
 |zero=>
  obtain rfl:=IH e;exact((nh hh ok st g h1 r1 p).1 rfl).mono (fun v s' h=>h.elim) fun s' S=>⟨rfl,S⟩
 |succ j=>
  refine ae e fun x hx e=>bI e fun hz e=> ?_;obtain rfl:=IH e;exact((nh hh ok st g h1 r1 p).2 j x rfl hx hz).mono (fun v s' h=>⟨x,_,rfl,h⟩) fun s' h=>h.elim
theorem It.next(ok:c.Ok)(t:It):dH c t:=
 It.rec (motive_1:=fun t=>dH c t) (motive_2:=fun ts=> ∀t∈ts,dH c t) (vW ok) (wk ok) (wm ok) (tO ok) (uJ ok) (fun ts ih=>A_ ok ts ih) (fun t n ih=>xQ ok t ih n) bZ (fun t ts h k=>aj h k) t
theorem It.pull{Q:Option Value→Shared→Prop}(hh:A.handled=none)(ok:c.Ok)(st:aQ c ρ σ s.heap)(g:Gd c s.heap)(i:bC s.heap ρ t I a)(hn:ay σ t=some (some (x,t')))
 (h: ∀w KH,ad c I ρ s ρ σ KH→R KH.heap ρ x w→bC KH.heap ρ t' I a→Q (some w) KH):II (model c.prog c.w) A (pyNext (.ref a)) Q E s:=by
 refine IM (It.next ok t A s ρ σ I a _ hh st g i hn).pyNext (fun r KH KR=> ?_) fun u_ u_ z=>z
 cases r with
 |none=>exact DU KR.1
 |some w=>refine bU KR fun x' t'' q S rv i'=> ?_;obtain⟨rfl,rfl⟩:=Prod.mk.inj (IH q);exact h w KH S rv i'
theorem It.pull0{Q:Option Value→Shared→Prop}(hh:A.handled=none)(ok:c.Ok)(st:aQ c ρ σ s.heap)(g:Gd c s.heap)(i:bC s.heap ρ t I a)(hn:ay σ t=some none)
 (h: ∀KH,ad c I ρ s ρ σ KH→Q none KH):II (model c.prog c.w) A (pyNext (.ref a)) Q E s:=by
 refine IM (It.next ok t A s ρ σ I a _ hh st g i hn).pyNext (fun r KH KR=> ?_) fun u_ u_ z=>z
 cases r with
 |some w=>refine bc KR fun x' t'' q u_=> ?_;exact no q
 |none=>exact h KH KR.2
end
section
theorem mv{self:Value}{rest:List Value}{Q:PySem.Fin→Shared→Prop}(hl:typeLookup (.type T) "__init__"=pure (some (.builtin "object.__init__")))
 (hm:Bind.madeBy (.type T)=pure (some newId)) (hne:(some newId !=some "object.__new__")=true) (hT:s.TypeIs self T) (hq:Q (.done (.ret .none)) s):
 II (model c.prog c.w) A (Builtin.«object.__init__» ⟨self::rest,kw⟩) Q E s:=by
 cases rest with
 |nil=>
  cases kw with
  |nil=>exact IK hq
  |cons p kw=>
   repeat (any_goals (first|assumption|wp_step))
 |cons a rest=>
  repeat (any_goals (first|assumption|wp_step))
theorem eq{Bn:Builtin}{args:List Value}(ft:TypeCalled T newId "object.__init__")(hne:(some newId !=some "object.__new__")=true)
 (hct:checkTypeCall T ⟨args,kw⟩=pure ()) (hcn:checkBuiltinCall newId ⟨.type T::args,kw⟩=pure ()) (hok: ∀obj,argsOk "object.__init__" ⟨obj::args,kw⟩) (entryN:entryFor table newId=some Bn)
 (h:II (model c.prog c.w) A.in1.in1 (Bn ⟨.type T::args,kw⟩) (fun fin s'=> ∃v,fin= .done (.ret v)∧s'.TypeIs v T∧Q v s') E s):
 II (model c.prog c.w) A (call (.type T) args kw) Q E s:=by
 obtain⟨cc,tl,hmro⟩:=ft.mro;have hmade:=ft.made;have hsub:=ft.sub;refine I9 (Jk ?_);show II _ _ (callAny (.type T) _) _ _ _
 refine IK ⟨JN _ (by decide+kernel),IS PySem.F.entry_type_call ?_⟩
 rw[Around.under_plain (weight_type_call_type T args kw) rfl];have h1:=ft.notType;have h2:=ft.canCreate
 repeat (any_goals (first|assumption|wp_step))
 refine I7 (R:=wants (fun obj KH=>KH.TypeIs obj T∧Q obj KH) E) (Jo ft.plain entryN (IQ hcn (IM h (fun fin s' h'=>by obtain⟨v,rfl,hv⟩:=h';exact hv) fun u_ u_ x=>x))) fun r KH hr=> ?_
 cases r with
 |error e=>exact hr
 |ok fl=>
  cases fl with
  |ret obj=>
   obtain⟨hT,hq⟩:=hr;have hli:=ft.init.lookup;have hbi:=ft.init.bind obj
   repeat (any_goals (first|assumption|wp_step))
   refine I7 (R:=wants (fun r KL=>r= .none∧Q obj KL) E) (Jo ft.init.plain PySem.F.entry_object_init (ft.init.check _ _ _ _ _ _ _ _ hT (hok obj) (mv hli hmade hne hT ⟨rfl,hq⟩))) fun Lb KL L9=> ?_
   cases Lb with
   |error e=>exact L9
   |ok L_=>
    cases L_ with
    |ret r=>
     obtain⟨rfl,hq⟩:=L9
     repeat (any_goals (first|assumption|wp_step))
    |_=>exact L9.elim
  |_=>exact hr.elim
end
section
inductive IV where
 |v (x:V)
 |it (t:It)
 deriving Inhabited
inductive nS(h:Heap)(ρ:Pl):IV→List Addr→Value→Prop
 |v {x:V} {w:Value}:R h ρ x w→nS h ρ (.v x) [] w
 |it {t:It} {I:List Addr} {a:Addr}:bC h ρ t I a→nS h ρ (.it t) I (.ref a)
noncomputable def CT(σ:Sg):V→Option It
 | .tup l=>some (.seq l 0)
 | .lst k=>(aI σ k).map fun u_=> .lst k 0
 | .rng a b d=>if Jy a b d=true then some (.rng a (Jx a b d) d)else none
 |_=>none
noncomputable def aC(σ:Sg):IV→Option It
 | .it t=>some t
 | .v x=>CT σ x
theorem fF(h:σ[k]? =some (.lst l)):aC σ (.v (.lst k))=some (.lst k 0):=by
 show(aI σ k).map _=_;rw[aP h];rfl
theorem bC.iter_self(i:bC s.heap ρ t I a)(h:Q (.ref a) s):II (model c.prog c.w) A (pyIter (.ref a)) Q E s:=by
 cases i with
 |seq h1 r p=>exact wpAny_pyIter_tupleiter h1 h
 |lst h1 r p=>exact wpAny_pyIter_listiter h1 h
 |rng h1 p=>exact wpAny_pyIter_rangeiter h1 h
 |revl h1 r p=>exact wpAny_pyIter_revIter h1 h
 |revt h1 r p=>
  have hT:s.TypeIs (.ref a) "reversed":=⟨_,h1,rfl⟩;refine wpAny_pyIter_slot hT iq (IT iq hT ln ?_ (mN _));show II _ _ (ret (.ref a)) _ _ s;exact IK ⟨_,rfl,"reversed",_,hT,cM.lookup,h⟩
 |zip h1=>
  have hT:s.TypeIs (.ref a) "zip":=⟨_,h1,rfl⟩;refine wpAny_pyIter_slot hT PySem.F.slot_zip_iter (IT PySem.F.slot_zip_iter hT PySem.F.entry_zip_iter ?_ (PySem.F.args_zip_iter_1 _));show II _ _ (ret (.ref a)) _ _ s;exact IK ⟨_,rfl,"zip",_,hT,J2.lookup,h⟩
 |enum h1=>
  have hT:s.TypeIs (.ref a) "enumerate":=⟨_,h1,rfl⟩;refine wpAny_pyIter_slot hT PySem.F.slot_enumerate_iter (IT PySem.F.slot_enumerate_iter hT PySem.F.entry_enumerate_iter ?_ (PySem.F.args_enumerate_iter_1 _));show II _ _ (ret (.ref a)) _ _ s;exact IK ⟨_,rfl,"enumerate",_,hT,J3.lookup,h⟩
set_option tactic.hygienic true in
theorem dG{iv:IV}{I:List Addr}{t:It}{v:Value}{Q:Value→Shared→Prop}{E:Value→Shared→Prop}(ok:c.Ok)(st:aQ c ρ σ s.heap)(g:Gd c s.heap)(e:aC σ iv=some t)(r:nS s.heap ρ iv I v)
 (h: ∀KF J a s',af c ρ s KF σ s'→bC s'.heap KF t J a→(∀x∈J,x∈I∨s.heap.objs.size≤x)→Q (.ref a) s'):II (model c.prog c.w) A (pyIter v) Q E s:=by
 cases r with
 |it i=>
  obtain rfl:=IH e;exact i.iter_self (h _ _ _ _ (.refl st g) i fun x m=> .inl m)
 |v r=>
  cases r with
  |tup h1 f1 rs=>
   rename_i l ta vs n;obtain rfl:=IH e;have S:=af.priv (c:=c) (ρ:=ρ) (o:={cls:= .type "tuple_iterator",data:= .fields #[.ref ta,.int 0 0]}) (t:=s.toks) ok st g
   refine iter_tuple (cU h1) (h _ _ _ _ S (.seq ⟨_,J9 _ rfl,rfl,rfl⟩ (S.R (.tup h1 f1 rs)) (.head _)) (by simp))
  |lst h1=>
   rename_i k la;refine aN e fun l hl zz=> ?_
   ·subst zz
    refine bc (st.at_ _ _ _ h1 (bE hl)) fun vs n h2 rs=> ?_
    have S:=af.priv (c:=c) (ρ:=ρ) (o:={cls:= .type "list_iterator",data:= .fields #[.ref la,.int 0 0]}) (t:=s.toks) ok st g
    refine wpAny_pyIter_list (bS h2) (h _ _ _ _ S (.lst ⟨_,J9 _ rfl,rfl,rfl⟩ h1 (.head _)) (by simp))
  |rng h1 f1=>
   rename_i x y d ra u1 u2 u3;refine bI e fun hsm zz=> ?_
   ·obtain rfl:=IH zz;have S:=af.priv (c:=c) (ρ:=ρ) (o:={cls:= .type "range_iterator",data:= .fields #[rawInt x,rawInt (Jx x y d),rawInt d]}) (t:=s.toks) ok st g
    exact wpAny_pyIter_range h1 hsm (h _ _ _ _ S (.rng (J9 _ rfl) (.head _)) (by simp))
  |_=>exact no e
inductive cQ(h:Heap)(ρ:Pl):List IV→List Addr→List Value→Prop
 |nil:cQ h ρ [] [] []
 |cons {x:IV} {xs:List IV} {I J:List Addr} {v:Value} {vs:List Value}:nS h ρ x I v→cQ h ρ xs J vs→(∀a∈I,a∉J)→cQ h ρ (x::xs) (I++J) (v::vs)
theorem cQ.nilE{motive: ∀I w,cQ h ρ [] I w→Prop}(nil:motive [] [] .nil){w:List Value}(r:cQ h ρ [] I w):motive I w r:=by cases r;exact nil
theorem nS.priv{x:IV}(r:nS h ρ x I v): ∀a∈I,a∈ρ.p:=by
 cases r with
 |v=>exact G9 _
 |it i=>exact i.priv.1
theorem cQ.priv{x:List IV}{v:List Value}(r:cQ h ρ x I v): ∀a∈I,a∈ρ.p:=cQ.rec (motive:=fun u_ I u_ u_=> ∀a∈I,a∈ρ.p) bZ (fun r u_ u_ ih a m=>(GP.mp m).elim (r.priv a) (ih a)) r
theorem af.ivr{x:IV}(st:aQ c ρ σ s.heap)(S:af c ρ s KF KD s')(r:nS s.heap ρ x I v):nS s'.heap KF x I v:=by
 cases r with
 |v r=>exact .v (S.R r)
 |it i=>exact .it (S.itr st i)
theorem af.ivrs(st:aQ c ρ σ s.heap)(S:af c ρ s KF KD s'){x:List IV}{v:List Value}(r:cQ s.heap ρ x I v):cQ s'.heap KF x I v:=
 cQ.rec (motive:=fun x I v u_=>cQ s'.heap KF x I v) .nil (fun r u_ d ih=> .cons (S.ivr st r) ih d) r
noncomputable def jH(σ:Sg):List IV→Option (List It)
 |[]=>some []
 |x::xs=>(aC σ x).bind fun t=>(jH σ xs).map fun ts=>t::ts
theorem qo(ok:c.Ok){f:Value→Array Value→Sem (ForInStep (Array Value))}(hf: ∀v acc,f v acc=(do let r←holding acc.toList (pyIter v);pure (.yield (acc.push r)))): ∀{xs:List IV} {I:List Addr} {ts:List It} {vs:List Value} {ρ:Pl} {s:Shared} (acc:Array Value) {Q:Array Value→Shared→Prop} {E:Value→Shared→Prop},
 aQ c ρ σ s.heap→Gd c s.heap→jH σ xs=some ts→cQ s.heap ρ xs I vs→
 (∀KF J as s',af c ρ s KF σ s'→bD s'.heap KF ts J as→(∀x∈J,x∈I∨s.heap.objs.size≤x)→Q (acc++(as.map Kr).toArray) s')→II (model c.prog c.w) A (forIn vs acc f) Q E s:=by
 intro xs
 induction xs with
 |nil=>
  intro I ts vs ρ s acc Q E st g e r h
  cases r using cQ.nilE
  obtain rfl:=IH e;rw[List.forIn_nil]
  exact IK (by simpa using h ρ [] [] s (.refl st g) .nil (by simp))
 |cons x xs ih=>
  intro I₀ ts vs ρ s acc Q E st g e r h
  cases r with
  |cons r rs d=>
  refine ae e fun t h1 e=>aN e fun ts' h2 zz=> ?_
  ·subst zz;rw[Hk,hf];refine IJ (IJ (IO (dG ok st g h1 r fun KS I₁ a KH KG Ls k₁=>IK ?_)));refine ih (acc.push (.ref a)) KG.sto KG.gd h2 (KG.ivrs st rs) fun KZ J₂ as KL KJ Lj k₂=> ?_;have:=h KZ (I₁++J₂) (a::as) KL (KG.trans KJ) (.cons (KJ.itr KG.sto Ls) Lj fun y m n=> ?_) fun y m=> ?_
   ·simpa using this
   ·rcases k₂ y n with q|q
    ·rcases k₁ y m with q'|q'
     ·exact d y q' q
     ·exact absurd (st.plow y (rs.priv y q)).2 (H1.mpr q')
    ·exact absurd (KG.sto.plow y (Ls.priv.1 y m)).2 (H1.mpr q)
   ·rcases GP.mp m with q|q
    ·exact(k₁ y q).imp (fun z=>GP.mpr (.inl z)) id
    ·exact(k₂ y q).elim (fun z=> .inl (GP.mpr (.inr z))) fun z=> .inr (HX KG.rest.hsize z)
theorem oO(vs:List Value):JF "zip" ⟨.type "zip"::vs,[]⟩=pure (.type "zip",vs):=by
 unfold JF;exact of_pureOf rfl
theorem pj{xs:List IV}(ok:c.Ok)(st:aQ c ρ σ s.heap)(g:Gd c s.heap)(e:jH σ xs=some ts)(r:cQ s.heap ρ xs I vs)
 (hz:ts.length≤64)
 (hct:checkTypeCall "zip" ⟨vs,[]⟩=pure ()) (hcn:checkBuiltinCall "zip.__new__" ⟨.type "zip"::vs,[]⟩=pure ()) (hok: ∀obj,argsOk "object.__init__" ⟨obj::vs,[]⟩)
 (h: ∀KF J a s',af c ρ s KF σ s'→bC s'.heap KF (.zip ts) J a→(∀x∈J,x∈I∨s.heap.objs.size≤x)→Q (.ref a) s'):II (model c.prog c.w) A (call (.type "zip") vs) Q E s:=by
 refine eq PySem.F.called_zip (by exact ac) hct hcn hok PySem.F.entry_zip_new ?_
 unfold Builtin.«zip.__new__»;refine IJ (IQ (oO vs) ?_);refine IJ (m:=JH vs) ?_;unfold JH;refine IJ (qo ok (fun v acc=>rfl) #[] st g e r fun KS J as KH KG its kJ=>IK ?_);have hl:=its.len
 have hez:(#[]++(as.map Kr).toArray:Array Value).toList=as.map Kr:=by simp
 rw[hez]
 refine IJ (Jg ?_ (by simp[←hl];exact HX hz (by decide)))
 have KJ:af c KS KH _ σ {KH with heap:=KH.heap.push (ao (as.map .ref) 0)}:=af.priv (t:=KH.toks) ok KG.sto KG.gd
 refine IJ (Jg ?_ (by simp[←hl];exact HX hz (by decide)))
 have KV:af c _ {KH with heap:=KH.heap.push (ao (as.map .ref) 0)} _ σ {KH with heap:=(KH.heap.push (ao (as.map .ref) 0)).push (ao ((as.map Kr).map fun u_=> .none) 0)}:=af.priv (t:=KH.toks) ok KJ.sto KJ.gd
 show II _ _ (newObj (.type "zip") (.fields #[.none,.bool false,.bool false,.ref KH.heap.objs.size,.ref (KH.heap.push (ao (as.map .ref) 0)).objs.size])>>=_) _ _ _
 refine IJ (IR ?_ (by size_fits))
 have K6:af c _ {KH with heap:=(KH.heap.push (ao (as.map .ref) 0)).push (ao ((as.map Kr).map fun u_=> .none) 0)} _ σ
  {KH with heap:=((KH.heap.push (ao (as.map .ref) 0)).push (ao ((as.map Kr).map fun u_=> .none) 0)).push (jA .none (.bool false) KH.heap.objs.size (KH.heap.push (ao (as.map .ref) 0)).objs.size)}:=af.priv (t:=KH.toks) ok KV.sto KV.gd
 have z2:(KH.heap.push (ao (as.map .ref) 0)).objs.size=KH.heap.objs.size+1:=J' ..
 have z3:((KH.heap.push (ao (as.map .ref) 0)).push (ao ((as.map Kr).map fun u_=> .none) 0)).objs.size=KH.heap.objs.size+2:=by rw[J',z2]
 have hJ: ∀x∈J,x<KH.heap.objs.size:=fun x m=>(KG.sto.plow x (its.priv x m)).2;refine IK ⟨_,rfl,⟨_,J9 _ rfl,rfl⟩,h _ (((KH.heap.push (ao (as.map .ref) 0)).push (ao ((as.map Kr).map fun u_=> .none) 0)).objs.size::KH.heap.objs.size::(KH.heap.push (ao (as.map .ref) 0)).objs.size::J) _ _ ((KG.trans KJ).trans (KV.trans K6)) ?_ ?_⟩
 ·refine .zip (m:=0) (m':=0) (J9 _ rfl) (.inl rfl) (J_ _ (J_ _ (J9 _ rfl))) (J_ _ (J9 _ rfl)) (by simp[hl])
   ((KJ.trans (KV.trans K6)).itrs KG.sto its) (by exact .head _) (by exact .tail _ (.tail _ (.head _))) (by exact .tail _ (.head _)) ?_ ?_ ?_ ?_ ?_ ?_
  ·rw[z3];exact Ie (Iz (by exact HZ _))
  ·rw[z3,z2];exact Ie (H0 _)
  ·rw[z2];exact Iu (H0 _)
  ·intro m;have:=hJ _ m;rw[z3]at this;exact absurd this (H1.mpr (H4 _ _))
  ·intro m;exact absurd (hJ _ m) (Ic _)
  ·intro m;have:=hJ _ m;rw[z2]at this;exact absurd this (H1.mpr (H4 _ _))
 ·intro x m;have hs:=KG.rest.hsize
  rcases GY.mp m with rfl|m
  ·right;rw[z3];exact HX hs (H4 _ _)
  rcases GY.mp m with rfl|m
  ·right;exact hs
  rcases GY.mp m with rfl|m
  ·right;rw[z2];exact HX hs (H4 _ _)
  ·exact kJ x m
end
variable {o':aG IV}
section
theorem iy(vs:List Value)(kw:List (Str×Value)):JF "enumerate" ⟨.type "enumerate"::vs,kw⟩=pure (.type "enumerate",vs):=by
 unfold JF;exact of_pureOf rfl
theorem ia(a b:Value):checkTypeCall "enumerate" ⟨[a],[("start",b)]⟩=pure ():=by kernel_rfl
theorem iE(a b:Value):checkBuiltinCall "enumerate.__new__" ⟨[.type "enumerate",a],[("start",b)]⟩=pure ():=by kernel_rfl
theorem gf(obj a b:Value):argsOk "object.__init__" ⟨[obj,a],[("start",b)]⟩:=by
 unfold argsOk;rw[Jf (id:="object.__init__") (n:=['_','_','t','i','n','i','_','_']) (o:=['t','c','e','j','b','o']) rfl J4];exact rfl
theorem td{n:Int}{KS:Pl}(ok:c.Ok)(st:aQ c KS σ KH.heap)(g:Gd c KH.heap)(i:bC KH.heap KS t I a)
 (h: ∀KF s',af c KS KH KF σ s'→bC s'.heap KF (.enum t n) (KH.heap.objs.size::I) KH.heap.objs.size→Q (.ref KH.heap.objs.size) s'):
 II (model c.prog c.w) A (newObj (.type "enumerate") (.fields #[.none,.bool false,.ref a,rawInt n,.none,.none])) Q E KH:=by
 have S:af c KS KH _ σ {KH with heap:=KH.heap.push (dM .none (.bool false) a n .none)}:=af.priv (t:=KH.toks) ok st g
 refine IR (h _ _ S (.enum (J9 _ rfl) (.inl rfl) (S.itr st i) (.head _) fun m=> ?_)) (by size_fits)
 exact absurd (st.plow _ (i.priv.1 _ m)).2 (Ic _)
theorem lj{x:Value}{Q:Bool→Shared→Prop}(h: ∀b,Q b s):II M A (Builtin.SmallTypes.calledThroughType x) Q E s:=IJ (wpAny_stack_any fun u_=>IK (h _))
theorem pV{x:IV}{n:Int}(ok:c.Ok)(st:aQ c ρ σ s.heap)(g:Gd c s.heap)(e:aC σ x=some t)(r:nS s.heap ρ x I v)
 (h: ∀KF J a s',af c ρ s KF σ s'→bC s'.heap KF (.enum t n) J a→(∀x∈J,x∈I∨s.heap.objs.size≤x)→Q (.ref a) s'):II (model c.prog c.w) A.in1.in1 (pyIter v>>=fun it=>newObj (.type "enumerate") (.fields #[.none,.bool false,it,rawInt n,.none,.none])>>=fun r=>ret r)
  (fun fin s'=> ∃v,fin= .done (.ret v)∧s'.TypeIs v "enumerate"∧Q v s') E s:=by
 refine IJ (dG ok st g e r fun KS J a KH KG Ls k=> ?_);refine IJ (td ok KG.sto KG.gd Ls fun KZ KL KJ Lj=> ?_);refine IK ⟨_,rfl,?_,h _ _ _ _ (KG.trans KJ) Lj fun y m=> ?_⟩
 ·cases Lj with
  |enum h1=>exact⟨_,h1,rfl⟩
 ·exact(GY.mp m).elim (fun q=> .inr (q▸KG.rest.hsize)) (k y)
theorem uw{x:IV}(ok:c.Ok)(st:aQ c ρ σ s.heap)(g:Gd c s.heap)(e:aC σ x=some t)(r:nS s.heap ρ x I v)
 (h: ∀KF J a s',af c ρ s KF σ s'→bC s'.heap KF (.enum t 0) J a→(∀x∈J,x∈I∨s.heap.objs.size≤x)→Q (.ref a) s'):II (model c.prog c.w) A (call (.type "enumerate") [v]) Q E s:=by
 refine eq PySem.F.called_enumerate (by exact ac) (PySem.F.typeCall_enumerate_1 _) (PySem.F.newCall_enumerate_1 _) (fun obj=>PySem.F.args_object_init_2 obj _) PySem.F.entry_enumerate_new ?_
 unfold Builtin.«enumerate.__new__»;refine IJ (IQ (iy _ _) ?_);dsimp only
 refine cV (by decide) ?_
 and_intros
 refine IJ (lj fun b=> ?_)
 cases b<;>exact pV ok st g e r h
theorem km{x:IV}{n:Int}(ok:c.Ok)(st:aQ c ρ σ s.heap)(g:Gd c s.heap)(e:aC σ x=some t)(r:nS s.heap ρ x I v)(hn:JG n=true)
 (h: ∀KF J a s',af c ρ s KF σ s'→bC s'.heap KF (.enum t n) J a→(∀x∈J,x∈I∨s.heap.objs.size≤x)→Q (.ref a) s'):II (model c.prog c.w) A (call (.type "enumerate") [v] [("start",.int n u)]) Q E s:=by
 refine eq PySem.F.called_enumerate (by exact ac) (ia _ _) (iE _ _) (fun obj=>gf obj _ _) PySem.F.entry_enumerate_new ?_
 unfold Builtin.«enumerate.__new__»;refine IJ (IQ (iy _ _) ?_);dsimp only
 refine cV (by decide) ?_
 and_intros
 refine IJ (lj fun b=> ?_)
 have hn': ¬((!JG n)=true):=by rw[hn];exact Gk
 cases b<;>(refine(?_:II _ _ (if(!JG n)=true then _ else _) _ _ s);exact bV hn' (pV ok st g e r h))
set_option tactic.hygienic true in
theorem oy{k:Nat}{l:List V}{v:Value}{Q:Value→Shared→Prop}{E:Value→Shared→Prop}(ok:c.Ok)(st:aQ c ρ σ s.heap)(g:Gd c s.heap)(e:σ[k]? =some (.lst l))(r:R s.heap ρ (.lst k) v)
 (h: ∀KF J a s',af c ρ s KF σ s'→bC s'.heap KF (.revl k l.length) J a→(∀x∈J,s.heap.objs.size≤x)→Q (.ref a) s'):II (model c.prog c.w) A (call (.type "reversed") [v]) Q E s:=by
 cases r with
 |lst h1=>
 rename_i la
 refine bc (st.at_ _ _ _ h1 e) fun vs n h2 rs=> ?_
 refine call_reversed_list (bS h2) ?_
 have S:af c ρ s _ σ {s with heap:=s.heap.push (revObj la ((vs.toArray.size:Int)-1))}:=af.priv (t:=s.toks) ok st g
 refine h _ _ _ _ S (.revl ⟨_,J9 _ rfl,rfl,?_⟩ h1 (.head _)) (by simp)
 simp[revObj,rs.length]
theorem n8(a:Value):checkTypeCall "reversed" ⟨[a],[]⟩=pure ():=by kernel_rfl
theorem mI:Slot "reversed" "__init__" "object.__init__":=
 .of (owner:="object") (n:="__init__") (by rw[Jb,Jc];exact rfl) (by decide+kernel) (by decide+kernel) (by decide+kernel)
  (by first|exact .inl (by decide+kernel)|exact .inr (by decide+kernel)) (by rw[Je];exact rfl)
theorem rj:TypeCalled "reversed" "reversed.__new__" "object.__init__":=
 ⟨by decide+kernel,PySem.F.create_reversed,⟨_,_,PySem.F.mro_reversed⟩,PySem.F.made_reversed,PySem.F.plain_reversed_new,PySem.F.sub_reversed_self,mI⟩
theorem gx:typeLookup (.type "tuple") "__reversed__"=pure none:=by rw[Jb,Jc];kernel_rfl
theorem lU:isSubtype (.type "tuple") (.type "dict")=pure false:=by rw[Je];exact rfl
set_option tactic.hygienic true in
theorem oP{l:List V}{v:Value}{Q:Value→Shared→Prop}{E:Value→Shared→Prop}(ok:c.Ok)(st:aQ c ρ σ s.heap)(g:Gd c s.heap)(r:R s.heap ρ (.tup l) v)(hz:l.length≤2^20)
 (h: ∀KF J a s',af c ρ s KF σ s'→bC s'.heap KF (.revt l l.length) J a→(∀x∈J,s.heap.objs.size≤x)→Q (.ref a) s'):II (model c.prog c.w) A (call (.type "reversed") [v]) Q E s:=by
 cases id r with
 |tup h1 f1 rs=>
 rename_i ta vs n;have ht:s.TypeIs (.ref ta) "tuple":=⟨_,h1,rfl⟩
 refine eq rj (by exact ac) (n8 _) (PySem.F.newCall_reversed_1 _) (fun obj=>PySem.F.args_object_init_2 obj _) PySem.F.entry_reversed_new ?_
 unfold Builtin.«reversed.__new__»
 and_intros
 refine IJ (IQ (newClass_reversed _) ?_)
 try dsimp only
 and_intros
 refine IJ (IQ (a:=()) (by first|rfl|kernel_rfl) ?_)
 and_intros
 refine IJ (IQ (a:=()) (by first|rfl|kernel_rfl) ?_)
 try dsimp only
 and_intros
 refine IJ (I4 ht gx ?_)
 try dsimp only
 and_intros
 refine IJ ?_;show II _ _ (isInstance (.ref ta) (.type "dict")>>=_) _ _ s
 and_intros
 refine IJ (I8 (T:="tuple") (b:=false) ht lU ?_);show II _ _ (specialOf (.ref ta) (Kq "__getitem__")>>=_) _ _ s
 and_intros
 refine IJ (I4 ht JS.lookup ?_);refine IK ?_;show II _ _ (call (.builtin "len") [.ref ta]>>=_) _ _ s
 and_intros
 refine IJ (len_tuple (cU h1) (rs.sz63 hz) ?_);show II _ _ (newObj (.type "reversed") (.fields #[.ref ta,rawInt (((vs.toArray.size:Nat):Int)-1)])>>=_) _ _ _
 have S:af c ρ s _ σ {s with heap:=s.heap.push (kG ta (((vs.toArray.size:Nat):Int)-1)),toks:=s.toks+1+1}:=af.priv (t:=s.toks+1+1) ok st g
 and_intros
 refine IJ (IR (IK ⟨_,rfl,⟨_,J9 _ rfl,rfl⟩,h _ _ _ _ S (.revt (t:=ta) ?_ (S.R r) (.head _)) (by simp)⟩) (by exact H7 ..))
 have e:((l.length:Nat):Int)-1=((vs.toArray.size:Nat):Int)-1:=by simp[rs.length]
 rw[e];exact J9 _ rfl
end
section
variable {env:Env}
variable (c)in
noncomputable def CM(x:Str):Option V:=(c.nm.lookup x).map V.val
variable (c)in
noncomputable def aR(en:En)(x:Str):Option V:=if(x==("__debug__":Str))=true then none else(en.names.lookup x).bind fun k=> @NameKind.casesOn (fun u_=>Option V) k (en.own.lookup x) (en.own.lookup x) (if(x==("__classdict__":Str))=true then none else en.fre.lookup x) none (CM c x)
theorem hH{x:Str}(ok:c.Ok)(st:aQ c ρ σ s.heap)(g:Gd c s.heap)(er:ba s.heap ρ env en)(e:aR c en x=some y):bn c A (eval (.Name x pos) env) ρ s (.ok y σ):=by
 refine eZ e (fun u_ e=>no e) fun hd e=> ?_;have hd:(x==("__debug__":Str))=false:=Bool.eq_false_iff.mpr hd
 have hk:env.kindOf x=en.names.lookup x:=by rw[←er.names];rfl
 refine ae e fun k hl e=> ?_
 cases k with
 |«local»=>
  refine aL er.lo fun m hn hm=> ?_;have:=hm x hl
  rw[show en.own.lookup x=some y from e]at this
  generalize hq:m x=q at this
  cases this with
  |so r=>exact wpAny_Name (wpAny_loadName_local er.kind (hk.trans hl) hn hq ⟨ρ,.refl st g,r⟩) hd
 |cell=>
  refine bU (er.ce x hl) fun a w h1 h2 u_ h3=> ?_
  rw[show en.own.lookup x=some y from e]at h3
  cases h3 with
  |so r=>exact wpAny_Name (wpAny_loadName_cell er.kind (hk.trans hl) h1 h2 ⟨ρ,.refl st g,r⟩) hd
 |free=>
  refine eZ e (fun u_ e=>no e) fun hcd e=> ?_;refine dC (er.fr x hl) fun a w h1 h2 h3=> ?_;rw[e]at h3
  cases h3 with
  |so r=>exact wpAny_Name (wpAny_loadName_free er.kind (hk.trans hl) h1 h2 ⟨ρ,.refl st g,r⟩ (by simpa using hcd)) hd
 |globalImplicit=>
  have hgl:env.globals=mainGlobals:=er.gl;have hbi:env.builtins=builtinsNs:=er.bi
  refine aL (IE.mp (show(c.nm.lookup x).map V.val=some y from e)) fun v hv zz2=> ?_;subst zz2
  rcases ok.names x v hv with h|⟨h,hb⟩
  ·exact Calls.Name_function_global er.kind (hk.trans hl) (Calls.loadGlobal_global (by rw[hgl];exact g.gl) h ⟨ρ,.refl st g,.val⟩) hd
  ·exact Calls.Name_function_global er.kind (hk.trans hl) (Calls.loadGlobal_builtin (by rw[hgl];exact g.gl) h (by rw[hbi];exact g.bl) hb ⟨ρ,.refl st g,.val⟩) hd
 |globalExplicit=>exact no e
noncomputable def n_(k:Const):Option V:= @Const.casesOn (fun u_=>Option V) k (some .none) (fun b=>some (.bool b)) (fun i=>some (.int i)) (fun u_=>none) (fun u_ u_=>none) (fun x=>some (.str x)) (fun u_=>none) none
theorem lS{k:Const}(st:aQ c ρ σ s.heap)(g:Gd c s.heap)(e:n_ k=some y):bn c A (eval (.Constant k n pos) env) ρ s (.ok y σ):=by
 cases k with
 |int=>obtain rfl:=IH e;exact wpAny_Constant_int ⟨ρ,.toks st g,.int⟩
 |str=>obtain rfl:=IH e;exact wpAny_Constant_str ⟨ρ,.toks st g,.str⟩
 |none=>obtain rfl:=IH e;exact wpAny_Constant_none ⟨ρ,.refl st g,.val⟩
 |bool=>obtain rfl:=IH e;exact wpAny_Constant_bool ⟨ρ,.refl st g,.val⟩
 |_=>exact no e
theorem jO:fillsNumberSlot (.type "tuple") "mul"=pure false:=
 PySem.fillsNumberSlot_seq (id:="tuple.__mul__") (r:=some (.builtin "tuple.__rmul__")) J5.lookup (by decide+kernel) PySem.F.slot_tuple_rmul.lookup (by decide+kernel)
theorem nN:seqRepeat? (.type "tuple")=pure (some (.builtin "tuple.__mul__")):=by
 unfold seqRepeat?
 rw[Jp (T:="tuple") (name:="__mul__") (id:="tuple.__mul__") J5.lookup (by decide+kernel),Jp (T:="tuple") (name:="__rmul__") (id:="tuple.__rmul__") PySem.F.slot_tuple_rmul.lookup (by decide+kernel)]
 rfl
theorem iG(a:Int)(t:Tok)(l:Addr)(items:Array Value)(n:Nat)(d:Option Addr)(sl:Array (Option Value)):
 Meets (Builtin.«int.__rmul__» ⟨[.int a t,.ref l],[]⟩) (fun u_ R s=>s.heap.get? l=some {cls:= .type "tuple",dict:=d,data:= .seq items n,slots:=sl}∧R (.ok (.ret Value.notImplemented)) s):=
 .of_wp fun prog w A R s h=>by obtain⟨hp,g,d,tk,os⟩:=s;refine oA h fun hl h=> ?_;wp_walk;exact⟨_,rfl,h⟩
theorem Rs.rep(r:Rs h ρ l vs)(n:Nat):Rs h ρ (GT n l).flatten (GT n vs).flatten:=by
 induction n with
 |zero=>exact .nil
 |succ n ih=>exact r.append ih
theorem sQ(l:List α)(n:Nat):(GT n l).flatten.length=l.length*n:=by
 induction n with
 |zero=>simp
 |succ n ih=>rw[HE,HM,G6,ih,Nat.mul_succ,Io]
theorem t_(xs:Array α)(n:Nat): ∀(acc:Array α),(GT n xs).foldl (· ++ ·) acc=acc++((GT n xs.toList).flatten).toArray:=by
 induction n with
 |zero=>exact fun acc=>(Array.append_empty).symm
 |succ n ih=>
  intro acc;rw[HE,List.foldl_cons,ih,HE,HM];apply Array.ext';simp
noncomputable def t7(σ:Sg)(x:V)(n:Int):Option (V×Sg):=if-(2^40:Int)≤n∧n<2^40 then @V.casesOn (fun u_=>Option (V×Sg)) x (fun u_=>none) (fun u_=>none) (fun u_=>none) (fun l=>if l.length*n.toNat≤2^20 then some (.tup (GT n.toNat l).flatten,σ)else none)
 (fun k=>(aI σ k).bind fun l=>if l.length*n.toNat≤2^20 then some (.lst σ.length,σ++[.lst (GT n.toNat l).flatten])else none) (fun u_ u_=>none) (fun u_ u_ u_=>none)
 else none
theorem ui{n:Int}{t:Tok}(ok:c.Ok)(st:aQ c ρ σ s.heap)(g:Gd c s.heap)(e:t7 σ x n=some (y,KD))(r:R s.heap ρ x v):bn c A (binaryOp .Mult v (.int n t)) ρ s (.ok y KD):=by
 refine bI e fun hn e=> ?_
 cases x with
 |tup l=>
  refine bI e fun hz e=> ?_;refine rD (IH e) fun q1 q2=> ?_;subst q1;subst q2
  cases id r with
  | @tup l a vs m h1 f1 rs=>
   have hl:=rs.length
   refine wpAny_binaryOp_repeat_ref (T:="tuple") (U:="int") (by exact Gn _) ⟨_,h1,rfl⟩ (fun s'=>I_ s' n t) jO PySem.F.fills_int_mul JU nN PySem.F.slot_int_index.lookup
    (Ja JU (I_ s n t) PySem.F.entry_int_rmul (PySem.F.args_int_rmul_2 _ _) (iG n t a vs.toArray m none #[])
     ⟨h1,rfl,⟨_,h1,rfl⟩,IT J5 ⟨_,h1,rfl⟩ PySem.F.entry_tuple_mul ?_ (PySem.F.args_tuple_mul_2 _ _)⟩)
   have ha:asIndex (.int n t)=pure n:=rfl;show II _ _ (asIndex (.int n t)>>=_) _ _ s;refine IJ (IQ ha ?_)
   have hn2: ¬((decide (n< -(2^63))||decide (n≥2^63))=true):=by simp;exact ibt ‹_› (by exact ac)
   show II _ _ (if(decide (n< -(2^63))||decide (n≥2^63))=true then _ else _) _ _ s
   refine bV hn2 ?_;refine IJ (m:=JJ (.ref a)) (tupleItemsOf_ (cU h1) ?_);dsimp only
   have fin1:(vs.toArray.isEmpty||n==1)=true→(∃KF,af c ρ s KF σ s∧R s.heap KF (.tup (GT n.toNat l).flatten) (.ref a)):=by
    intro hq
    have:(GT n.toNat l).flatten=l:=by
     rcases Gl.mp hq with q|q
     ·have hv:vs=[]:=by simpa using q
      have hl0:l=[]:=Hn.mp (by rw[hl,hv];rfl)
      subst hl0
      exact Hn.mp (by rw[sQ];simp)
     ·have:n=1:=by simpa using q
      subst this;exact G4 _
    rw[this];exact⟨ρ,.refl st g,r⟩
   have fin2: ∀ws:List Value,Rs s.heap ρ (GT n.toNat l).flatten ws→ ∃KF,af c ρ s KF σ {s with heap:=s.heap.push (ao ws 0)}∧R (s.heap.push (ao ws 0)) KF (.tup (GT n.toNat l).flatten) (.ref s.heap.objs.size):=by
    intro ws hw
    have S:af c ρ s ρ σ {s with heap:=s.heap.push (ao ws 0)}:=af.push (t:=s.toks) ok st g
    exact⟨ρ,S,.tup (J9 _ rfl) (st.new (HY _)) (S.Rs hw)⟩
   by_cases hq:(vs.toArray.isEmpty||n==1)=true
   ·refine cV hq ?_;refine IJ (m:=JK (.ref a)) (IJ (I2 (cU h1).typeIs (IK ?_)))
    refine cV (by decide) ?_
    first
     |exact IJ (IP (IK ⟨_,rfl,fin1 hq⟩))
     |exact IJ (IP (IJ (IK (IK ⟨_,rfl,fin1 hq⟩))))
   ·refine bV hq ?_
    by_cases hq2:(decide (n≤0)||vs.toArray.isEmpty)=true
    ·refine cV hq2 ?_
     have e0:(GT n.toNat l).flatten=[]:=by
      rcases Gl.mp hq2 with q|q
      ·have:n≤0:=by simpa using q
       rw[show n.toNat=0 by exact tz ‹_›];rfl
      ·exact absurd (Gl.mpr (.inl q)) hq
     refine IJ (m:=JI _) (IR ?_ (by exact H' _))
     exact IK ⟨_,rfl,fin2 [] (by rw[e0];exact .nil)⟩
    ·refine bV hq2 ?_
     have hsz:vs.toArray.size*n.toNat≤2^20:=by simpa [←hl]using hz
     have hnn: ¬n≤0:=fun q=>hq2 (Gl.mpr (.inl (by simpa using q)))
     have hcast:((vs.toArray.size:Nat):Int)*n=((vs.toArray.size*n.toNat:Nat):Int):=by
      rw[Int.natCast_mul,Int.toNat_of_nonneg (by omega)]
     rw[if_neg (by rw[hcast];omega),if_neg (by unfold Builtin.Tuple.tupleTooMany sizeLine;rw[hcast];simp only[decide_eq_true_eq];omega)]
     have e1:(GT n.toNat vs.toArray).foldl (fun x1 x2=>x1++x2) #[]=((GT n.toNat vs).flatten).toArray:=by
      have:=t_ vs.toArray n.toNat #[];simpa using this
     rw[e1];refine IJ (m:=JI _) (IR ?_ ?_)
     ·exact IK ⟨_,rfl,fin2 _ (rs.rep _)⟩
     ·show((GT n.toNat vs).flatten).toArray.size≤sizeLine;rw[Hi,sQ,←hl];exact HX hz (by decide)
 |lst k=>
  refine ae e fun l hl e=>bI e fun hz e=> ?_;replace hl:=bE hl;refine rD (IH e) fun q1 q2=> ?_;subst q1;subst q2
  cases r with
  | @lst k la h1=>
   refine bc (st.at_ _ _ _ h1 hl) fun vs m h2 rs=> ?_
   have hll:=rs.length
   have hz':vs.toArray.size*n.toNat≤2^20:=by simpa [←hll]using hz
   have hz2:vs.length*n.toNat≤2^20:=by rw[←hll];exact hz
   have hlong: ¬Js (vs.toArray.size*n.toNat)=true:=by
    simp[Js,sizeLine];exact bg ‹_› (by exact ac)
   refine wpAny_binaryOp_repeat_ref (T:="list") (U:="int") (by exact Gn _) ⟨_,h2,rfl⟩ (fun s'=>I_ s' n t) noFill_list_mul PySem.F.fills_int_mul JU repeat_list PySem.F.slot_int_index.lookup
    (Ja JU (I_ s n t) PySem.F.entry_int_rmul (PySem.F.args_int_rmul_2 _ _) (lm_int_rmul_list_any n t la vs.toArray m none #[])
     ⟨h2,rfl,⟨_,h2,rfl⟩,Ja PySem.F.slot_list_mul ⟨_,h2,rfl⟩ PySem.F.entry_list_mul (PySem.F.args_list_mul_2 _ _)
      (lm_list_mul_any la vs.toArray m none #[] n t (by simp[Ju];exact ibt ‹_› (by exact ac)) (by omega) hlong)
      ⟨h2,?_⟩⟩)
   rw[listMul_foldl_if];exact⟨_,af.pushList (n:=0) (t:=s.toks) ok st g (rs.rep n.toNat),.lst (st.last _)⟩
 |_=>exact no e
end
section
variable {env:Env}{d:Nat}
variable (c)in
structure At(A:Around)(env:Env)(en:En)(ρ:Pl)(σ:Sg)(s:Shared)(d:Nat):Prop where
 ok:c.Ok
 st:aQ c ρ σ s.heap
 gd:Gd c s.heap
 er:ba s.heap ρ env en
 room:eg c ρ A d s.heap
theorem At.step(a:At c A env en ρ σ s d)(x:af c ρ s KF KD s'):At c A env en KF KD s' d:=⟨a.ok,x.sto,x.gd,x.env a.st a.er,x.room a.st a.room⟩
set_option tactic.hygienic true in
theorem au.then{α β α':Type}{rel:Heap→Pl→α→β→Prop}{t:Sem β}{KY:Pl}{KP:Shared}{Lk:Option (aG α)}{k:α→Sg→Option (aG α')}{o:aG α'}{Q:β→Shared→Prop}(K4:af c KY KP ρ σ s)
 (e:aw Lk k=some o) (h: ∀o',Lk=some o'→au c rel A t ρ s o') (hk: ∀x KD v s' KF,af c KY KP KF KD s'→rel s'.heap KF x v→k x KD=some o→af c ρ s KF KD s'→Q v s'):
 II (model c.prog c.w) A t Q (cH c KY KP o) s:=by
 unfold aw at e
 split at e
 ·rename_i a KD
  refine(h _ rfl).go (fun x Ln q v s' KF st r=> ?_) (fun cls Ln q=>by exact iQ q)
  refine jF q fun zz1 zz2=> ?_;subst zz1;subst zz2;exact hk _ _ _ _ _ (K4.trans st) r e st
 ·rename_i cls KD;obtain rfl:=IH e
  refine(h _ rfl).go (fun x Ln q=>by exact EO q) (fun cls Ln q e s' f=> ?_)
  refine Cw q fun zz1 zz2=> ?_;subst zz1;subst zz2;exact(f.as (β:=α')).trans K4
 ·exact no e
theorem au.last{rel:Heap→Pl→α→β→Prop}{t:Sem β}{o:aG α}(K4:af c KY KP ρ σ s)(h:au c rel A t ρ s o):II (model c.prog c.w) A t (b9 c rel KY KP o) (cH c KY KP o) s:=h.trans K4
theorem b9.now{rel:Heap→Pl→α→β→Prop}{x:α}{v:β}(K4:af c KY KP ρ σ s)(r:rel s.heap ρ x v):b9 c rel KY KP (.ok x σ) v s:=⟨ρ,K4,r⟩
noncomputable abbrev fP:=En→Sg→Expr→Option (aG V)
noncomputable abbrev lA:=En→Sg→Expr→Option (aG Bool)
variable (c)in
noncomputable def bF(d:Nat)(f:fP):Prop:= ∀{A:Around} {env:Env} {en:En} {ρ:Pl} {σ:Sg} {s:Shared} {e:Expr} {o:aG V},f en σ e=some o→At c A env en ρ σ s d→bn c A (eval e env) ρ s o
variable (c)in
noncomputable def eM(d:Nat)(f:lA):Prop:= ∀{A:Around} {env:Env} {en:En} {ρ:Pl} {σ:Sg} {s:Shared} {e:Expr} {o:aG Bool},f en σ e=some o→At c A env en ρ σ s d→pZ c A (isTrue e env (eval e env)) ρ s o
noncomputable def rS:Operator→Bool
 | .Add=>true
 |_=>false
noncomputable def rQ:Operator→Bool
 | .Mult=>true
 |_=>false
noncomputable def m4(σ:Sg)(op:Operator)(x y:V):Option (V×Sg):=(cY y).elim
 ((eN x).bind fun l=>(eN y).bind fun l'=>if rS op=true∧l.length+l'.length≤2^20 then some (.tup (l++l'),σ)else none)
 fun n=>(cY x).elim (if rQ op=true then t7 σ x n else none) fun a=>(Internal.binI op a n).map fun i=>(.int i,σ)
theorem wX{n:Int}(h:cY x=none):m4 σ .Mult x (.int n)=t7 σ x n:=by
 refine(?_:(cY x).elim (if rQ .Mult=true then t7 σ x n else none) _=_)
 rw[h]
 exact(if_pos rfl:(if rQ .Mult=true then t7 σ x n else none)=_)
theorem xj(h:l.length+l'.length≤2^20):m4 σ .Add (.tup l) (.tup l')=some (.tup (l++l'),σ):=
 (if_pos ⟨rfl,h⟩:(if rS .Add=true∧l.length+l'.length≤2^20 then some (V.tup (l++l'),σ)else none)=_)
theorem sY{z:V}(ok:c.Ok)(st:aQ c ρ σ s.heap)(g:Gd c s.heap)(e:m4 σ op x y=some (z,KD))(r:R s.heap ρ x v)(q:R s.heap ρ y w):bn c A (binaryOp op v w) ρ s (.ok z KD):=by
 refine im e (fun u_ e1=>ae e1 fun l hl e2=>ae e2 fun l' hl' e3=>bI e3 fun h e4=> ?_) fun n hn e1=>im e1 (fun u_ e2=>bI e2 fun h e3=> ?_) fun a ha e2=>aN e2 fun i hi e3=> ?_
 ·obtain rfl:=eA hl;obtain rfl:=eA hl'
  cases Al e4
  cases op with
  |Add=>exact qa ok st g r q h.2
  |_=>exact bM h.1
 ·obtain rfl:=b_ hn;obtain⟨_,rfl⟩:=q.intQ
  cases op with
  |Mult=>exact ui ok st g e3 r
  |_=>exact bM h
 ·obtain rfl:=b_ hn;obtain rfl:=b_ ha
  cases e3
  obtain⟨_,rfl⟩:=r.intQ;obtain⟨_,rfl⟩:=q.intQ;exact un st g hi
noncomputable def yr(f:fP)(en:En)(σ:Sg)(l:Expr)(op:Operator)(r:Expr):Option (aG V):=
 aw (f en σ l) fun x KE=>aw (f en KE r) fun y KI=>(m4 KI op x y).map fun z=> .ok z.1 z.2
theorem tQ{f:fP}{l r:Expr}(hf:bF c d f)(e:yr f en σ l op r=some o)(a:At c A env en ρ σ s d):bn c A (eval (.BinOp l op r pos) env) ρ s o:=by
 refine wpAny_BinOp (au.then (.refl a.st a.gd) e (fun o' h=>hf h a) fun x KE v KH KS KG KO KM u_=>au.then KG KM (fun o' h=>hf h (a.step KG)) fun y KI w KL KZ KJ Lb K2 Lp=> ?_)
 refine aL (IE.mp K2) fun z hz zz2=> ?_;subst zz2;exact(sY a.ok KJ.sto KJ.gd hz (Lp.R KO) Lb).last KJ
theorem zL{f:fP}{x:Expr}(hf:bF c d f)(e:(aw (f en σ x) fun v KE=>(cY v).map fun i=> .ok (.int (-i)) KE)=some o)(a:At c A env en ρ σ s d):
 bn c A (eval (.UnaryOp .USub x pos) env) ρ s o:=by
 refine wpAny_UnaryOp (au.then (.refl a.st a.gd) e (fun o' h=>hf h a) fun x KE v KH KS KG KO KM u_=> ?_)
 refine aN KM fun i hi w=> ?_;subst w;obtain rfl:=b_ hi;obtain⟨_,rfl⟩:=KO.intQ;exact neg_int ⟨KS,KG.trans (af.toks KG.sto KG.gd),.int⟩
theorem yZ{f:fP}{x:Expr}(hf:bF c d f)(e:(aw (f en σ x) fun v KE=>(bu KE v).map fun b=> .ok (.bool (!b)) KE)=some o)(a:At c A env en ρ σ s d):
 bn c A (eval (.UnaryOp .Not x pos) env) ρ s o:=by
 refine wpAny_UnaryOp (au.then (.refl a.st a.gd) e (fun o' h=>hf h a) fun x KE v KH KS KG KO KM u_=> ?_)
 refine aL (IE.mp KM) fun b hb zz2=> ?_;subst zz2;exact not_value (bX (c:=c) KG.sto hb KO fun t=>⟨KS,KG.trans (af.toks KG.sto KG.gd),.val⟩)
theorem t6{f:fP}{g:lA}{t b:Expr}(hf:bF c d f)(hg:eM c d g)(e:(aw (g en σ t) fun v KE=>if v then f en KE b else f en KE e')=some o)(a:At c A env en ρ σ s d):
 bn c A (eval (.IfExp t b e' pos) env) ρ s o:=by
 refine wpAny_IfExp (au.then (.refl a.st a.gd) e (fun o' h=>hg h a) fun x KE v KH KS KG KO KM u_=> ?_)
 cases KO
 cases x
 ·exact(hf KM (a.step KG)).last KG
 ·exact(hf KM (a.step KG)).last KG
noncomputable def dg(e:Expr):Bool:=e.ctorIdx.beq 22
theorem og(h: ¬dg e=true): ∀x p,e≠ .Starred x p:=fun x p q=>h (q▸rfl)
noncomputable def al:List Expr→Bool
 |[]=>true
 |e::es=> !dg e&&al es
theorem bk(h:al (e::es)=true):(¬dg e=true)∧al es=true:=
 have q:=Gi.mp h
 ⟨fun r=>bM ((congrArg not r).symm.trans q.1),q.2⟩
theorem eJ:al es=true→ ∀x p,Expr.Starred x p∉es:=by
 induction es with
 |nil=>exact fun u_ u_ u_=>Hg
 |cons e es ih=>exact fun h x p m=>(GY.mp m).elim (fun q=>og (bk h).1 x p q.symm) (ih (bk h).2 x p)
noncomputable def fg(f:fP)(en:En):Sg→List Expr→Option (aG (List V))
 |σ,[]=>some (.ok [] σ)
 |σ,e::es=>if dg e=true then none else aw (f en σ e) fun x KE=>aw (fg f en KE es) fun xs KI=>some (.ok (x::xs) KI)
theorem gg(h: ∀x p,e≠ .Starred x p):starEach (e::es) env=(false,eval e env)::starEach es env:=by
 cases e<;>first|rfl|exact absurd rfl (h _ _)
theorem pK{f:fP}(hf:bF c d f): ∀{σ:Sg} {ρ:Pl} {s:Shared} {o:aG (List V)},fg f en σ es=some o→At c A env en ρ σ s d→Dd c A (spliced (backTo pos (starEach es env))) ρ s o:=by
 induction es with
 |nil=>
  intro σ ρ s o e a;obtain rfl:=Al e;exact Jh (b9.now (.refl a.st a.gd) .nil)
 |cons x es ih=>
  intro σ ρ s o e a
  refine oA (sN (show(if dg x=true then none else _)=some o from e)) fun hns e=> ?_
  refine Jd (au.then (.refl a.st a.gd) e (fun o' h=>hf h a) fun y KE v KH KS KG KO KM u_=>au.then KG KM (fun o' h=>ih h (a.step KG)) fun ys KI vs KL KZ KJ Lb K2 Lp=> ?_) (gg (og hns))
  obtain rfl:=IH K2;exact b9.now KJ (.cons (Lp.R KO) Lb)
theorem tG{f:fP}(hf:bF c d f)(e:(aw (fg f en σ es) fun xs KE=>if xs.length≤2^20 then some (.ok (.tup xs) KE)else none)=some o)(a:At c A env en ρ σ s d):
 bn c A (eval (.Tuple es k pos) env) ρ s o:=by
 refine wpAny_Tuple (au.then (.refl a.st a.gd) e (fun o' h=>pK hf h a) fun ys KE vs KH KS KG KO KM u_=> ?_)
 refine bI KM fun hz KM=> ?_
 ·obtain rfl:=IH KM
  have S:af c KS KH KS KE {KH with heap:=KH.heap.push (ao vs 0)}:=af.push (t:=KH.toks) a.ok KG.sto KG.gd
  exact⟨by rw[←KO.length];exact HX hz (by decide),b9.now (KG.trans S) (.tup (J9 _ rfl) (KG.sto.new (HY _)) (S.Rs KO))⟩
theorem wD{f:fP}(hf:bF c d f)(e:(aw (fg f en σ es) fun xs KE=>if xs.length≤2^20 then some (.ok (.lst KE.length) (KE++[.lst xs]))else none)=some o)(a:At c A env en ρ σ s d):
 bn c A (eval (.List es pos) env) ρ s o:=by
 refine wpAny_List (au.then (.refl a.st a.gd) e (fun o' h=>pK hf h a) fun ys KE vs KH KS KG KO KM u_=> ?_)
 refine bI KM fun hz KM=> ?_
 ·obtain rfl:=IH KM;have S:=af.pushList (n:=0) (t:=KH.toks) a.ok KG.sto KG.gd KO
  exact⟨by rw[←KO.length];exact HX hz (by decide),b9.now (KG.trans S) (.lst (KG.sto.last _))⟩
end
variable {tr:lA}{ev f:fP}
section
variable {env:Env}{d:Nat}
theorem eg.deep(r:eg c ρ A d h):A.units+Internal.B5<cLine:=by
 have:=r.units;have e:Internal.B5=200:=rfl;exact dp ‹_› ac
noncomputable def jw(w:Bool→α)(f:fP)(en:En):List CmpOp→Sg→V→List Expr→Option (aG α)
 |[],_,_,_=>none
 |op::ops,σ,x,es=>match es with
  |[]=>none
  |e::es=>if ops.isEmpty=es.isEmpty then aw (f en σ e) fun y KE=>(eo KE op x y).bind fun b=>if(ops.isEmpty|| !b)=true then some (.ok (w b) KE)else jw w f en ops KE y es else none
noncomputable abbrev qY(f:fP)(en:En)(σ:Sg)(x:V)(ops:List CmpOp)(es:List Expr):Option (aG V):=jw V.bool f en ops σ x es
noncomputable abbrev qJ(f:fP)(en:En)(σ:Sg)(x:V)(ops:List CmpOp)(es:List Expr):Option (aG Bool):=jw (fun b=>b) f en ops σ x es
theorem gV{w:Bool→α}{op:CmpOp}(h:f en σ e=some (.ok y KE))(hc:eo KE op x y=some b):jw w f en [op] σ x [e]=some (.ok (w b) KE):=by
 show aw (f en σ e) _=_;rw[h];show(eo KE op x y).bind _=_;rw[hc];rfl
theorem fS{w:Bool→α}{op op':CmpOp}{o:aG α}(h:f en σ e=some (.ok y KE))(hc:eo KE op x y=some b)
 (k:(if(!b)=true then some (.ok (w b) KE)else jw w f en (op'::ops) KE y (e'::es))=some o):jw w f en (op::op'::ops) σ x (e::e'::es)=some o:=by
 show aw (f en σ e) _=_;rw[h];show(eo KE op x y).bind _=_;rw[hc];exact k
theorem qL(hf:bF c d f)(h:qY f en σ x ops es=some o)(a:At c A env en ρ σ s d)(r:R s.heap ρ x v):
 bn c A (compareChain pos v ops (evalEach es env)) ρ s o:=by
 induction ops generalizing es σ ρ s x v o with
 |nil=>exact no h
 |cons op ops ih=>
  cases es with
  |nil=>exact no h
  |cons e es=>
   refine bI (show(if ops.isEmpty=es.isEmpty then _ else none)=some o from h) fun hl h=> ?_
   cases ops with
   |nil=>
    cases es with
    |cons=>exact Cp hl
    |nil=>
     refine chain_last (au.then (.refl a.st a.gd) h (fun o' q=>hf q a) fun y KE w KH KS KG KO KM Lf=> ?_)
     refine ae KM fun b hb K2=> ?_;obtain rfl:=Al K2;exact(gZ KG.sto KG.gd a.room.deep hb (Lf.R r) KO).last KG
   |cons op' ops=>
    cases es with
    |nil=>exact bM hl
    |cons e' es=>
     refine chain_link (au.then (.refl a.st a.gd) h (fun o' q=>hf q a) fun y KE w KH KS KG KO KM Lf=> ?_)
     refine ae KM fun b hb K2=> ?_
     refine au.go (gZ (A:=A) KG.sto KG.gd a.room.deep hb (Lf.R r) KO) (fun z KI q u KL KZ KJ Lb=> ?_) (fun u_ u_ q=>by exact iQ q)
     refine jF q fun zz1 zz2=> ?_;subst zz1;subst zz2;obtain rfl:=Lb.valQ;refine Ji ?_
     cases b with
     |true=>exact au.last (KG.trans KJ) (ih (show qY f en KE y (op'::ops) (e'::es)=some o from K2) (a.step (KG.trans KJ)) (KJ.R KO))
     |false=>obtain rfl:=Al K2;exact b9.now (KG.trans KJ) .val
noncomputable def gB(f:fP)(en:En)(σ:Sg)(l:Expr)(ops:List CmpOp)(es:List Expr):Option (aG V):=
 if lastMarks ops es=true then none else aw (f en σ l) fun x KE=>qY f en KE x ops es
set_option tactic.hygienic true in
theorem pg{f:fP}{l:Expr}{ops:List CmpOp}{es:List Expr}{pos:Pos}{o:aG V}(hf:bF c d f)(e:gB f en σ l ops es=some o)(a:At c A env en ρ σ s d):bn c A (eval (.Compare l ops es pos) env) ρ s o:=by
 unfold gB at e
 split at e
 ·exact no e
 rename_i hm
 show II _ A (do compareChain pos (←eval l env) ops (markedEach ops es (evalEach es env))) _ _ s
 rw[markedEach_of_false _ _ _ (by simpa using hm)]
 refine IJ (au.then (.refl a.st a.gd) e (fun o' q=>hf q a) fun y KE w KH KS KG KO KM Lf=> ?_)
 exact au.last KG (qL hf KM (a.step KG) KO)
theorem o4(hf:bF c d f){o:aG Bool}(h:qJ f en σ x ops es=some o)(a:At c A env en ρ σ s d)(r:R s.heap ρ x v):
 pZ c A (testChain pos v ops (evalEach es env)) ρ s o:=by
 induction ops generalizing es σ ρ s x v o with
 |nil=>exact no h
 |cons op ops ih=>
  cases es with
  |nil=>exact no h
  |cons e es=>
   refine bI (show(if ops.isEmpty=es.isEmpty then _ else none)=some o from h) fun hl h=> ?_
   cases ops with
   |nil=>
    cases es with
    |cons=>exact Cp hl
    |nil=>
     refine test_last (au.then (.refl a.st a.gd) h (fun o' q=>hf q a) fun y KE w KH KS KG KO KM Lf=> ?_)
     refine ae KM fun b hb K2=> ?_;obtain rfl:=Al K2
     refine au.go (gZ (A:=A) KG.sto KG.gd a.room.deep hb (Lf.R r) KO) (fun z KI q u KL KZ KJ Lb=> ?_) (fun u_ u_ q=>by exact iQ q)
     refine jF q fun zz1 zz2=> ?_;subst zz1;subst zz2;obtain rfl:=Lb.valQ;exact Ji (b9.now (KG.trans KJ) rfl)
   |cons op' ops=>
    cases es with
    |nil=>exact bM hl
    |cons e' es=>
     refine test_link (au.then (.refl a.st a.gd) h (fun o' q=>hf q a) fun y KE w KH KS KG KO KM Lf=> ?_)
     refine ae KM fun b hb K2=> ?_
     refine au.go (gZ (A:=A) KG.sto KG.gd a.room.deep hb (Lf.R r) KO) (fun z KI q u KL KZ KJ Lb=> ?_) (fun u_ u_ q=>by exact iQ q)
     refine jF q fun zz1 zz2=> ?_;subst zz1;subst zz2;obtain rfl:=Lb.valQ;refine Ji ?_
     cases b with
     |true=>exact au.last (KG.trans KJ) (ih (show qJ f en KE y (op'::ops) (e'::es)=some o from K2) (a.step (KG.trans KJ)) (KJ.R KO))
     |false=>obtain rfl:=Al K2;exact b9.now (KG.trans KJ) rfl
noncomputable def jc(f:fP)(en:En)(op:BoolOp):Sg→List Expr→Option (aG V)
 |_,[]=>none
 |σ,[e]=>f en σ e
 |σ,e::e'::es=>aw (f en σ e) fun x KE=>(bu KE x).bind fun b=>if b=(op== .Or)then some (.ok x KE)else jc f en op KE (e'::es)
theorem ti{op:BoolOp}(hf:bF c d f): ∀{σ:Sg} {ρ:Pl} {s:Shared} {o:aG V},jc f en op σ es=some o→At c A env en ρ σ s d→bn c A (boolOp pos op (evalEach es env)) ρ s o:=by
 induction es with
 |nil=>exact fun h u_=>no h
 |cons e es ih=>
  intro σ ρ s o h a
  cases es with
  |nil=>exact hf h a
  |cons e' es=>
  show II _ A (do
   let v←eval e env
   standAt pos
   let t←holding [v] (truthy v)
   match op,t with
   | .And,false| .Or,true=>pure v
   |_,_=>boolOp pos op (evalEach (e'::es) env)) _ _ s
  refine IJ (au.then (.refl a.st a.gd) h (fun o' q=>hf q a) fun y KE w KH KS KG KO KM Lf=> ?_)
  refine ae KM fun b hb KM=> ?_;refine IJ (IW (IJ (IO (bX (c:=c) KG.sto hb KO fun t=> ?_))));have KJ:=KG.trans (af.toks (t:=t) KG.sto KG.gd);refine eZ KM (fun hop KM=> ?_) fun hop KM=> ?_
  ·obtain rfl:=IH KM;subst hop
   cases op<;>exact IK (b9.now KJ KO)
  ·have:=au.last KJ (ih KM (a.step KJ))
   cases op<;>cases b<;>first|exact absurd rfl hop|exact absurd (by decide) hop|exact this
theorem rz{op:BoolOp}(hf:bF c d f)(e:jc f en op σ es=some o)(a:At c A env en ρ σ s d):bn c A (eval (.BoolOp op es pos) env) ρ s o:=ti hf e a
noncomputable def uE(g:lA)(en:En)(op:BoolOp):Sg→List Expr→Option (aG Bool)
 |σ,[]=>some (.ok (op== .And) σ)
 |σ,e::es=>aw (g en σ e) fun b KE=>if b=(op== .Or)then some (.ok b KE)else uE g en op KE es
theorem vT{g:lA}{op:BoolOp}(hg:eM c d g): ∀{σ:Sg} {ρ:Pl} {s:Shared} {o:aG Bool},uE g en op σ es=some o→At c A env en ρ σ s d→pZ c A (allTrue op es env) ρ s o:=by
 induction es with
 |nil=>
  intro σ ρ s o h a;obtain rfl:=IH h
  cases op
  ·exact wpAny_allTrue_And_nil (b9.now (.refl a.st a.gd) rfl)
  ·exact wpAny_allTrue_Or_nil (b9.now (.refl a.st a.gd) rfl)
 |cons e es ih=>
  intro σ ρ s o h a
  cases op
  ·refine wpAny_allTrue_And_cons (au.then (.refl a.st a.gd) h (fun o' q=>hg q a) fun y KE w KH KS KG KO KM Lf=> ?_)
   cases KO
   cases y
   ·obtain rfl:=IH KM;exact b9.now KG rfl
   ·exact au.last KG (ih KM (a.step KG))
  ·refine wpAny_allTrue_Or_cons (au.then (.refl a.st a.gd) h (fun o' q=>hg q a) fun y KE w KH KS KG KO KM Lf=> ?_)
   cases KO
   cases y
   ·exact au.last KG (ih KM (a.step KG))
   ·obtain rfl:=IH KM;exact b9.now KG rfl
noncomputable def fN(e:Expr):Bool:= !(e.ctorIdx.beq 0||e.ctorIdx.beq 3||e.ctorIdx.beq 5||e.ctorIdx.beq 15)
noncomputable def Ac:UnaryOp→Bool
 | .Not=>true
 |_=>false
noncomputable def xY(f:fP)(en:En)(σ:Sg)(e:Expr):Option (aG Bool):=aw (f en σ e) fun x KE=>(bu KE x).map fun b=> .ok b KE
noncomputable def Cc(f:fP)(g:lA)(en:En)(σ:Sg)(e:Expr):Option (aG Bool):=match e with
 | .UnaryOp op x _=>if Ac op=true then aw (g en σ x) fun b KE=>some (.ok (!b) KE)else none
 | .BoolOp op es _=>uE g en op σ es
 | .IfExp t b e' _=>aw (g en σ t) fun v KE=>if v then g en KE b else g en KE e'
 | .Compare l ops es _=>if lastMarks ops es=true then none else aw (f en σ l) fun x KE=>qJ f en KE x ops es
 |e=>xY f en σ e
theorem xS{g:lA}(h:fN e=true):Cc f g en σ e=xY f en σ e:=by
 cases e<;>first|rfl|exact bM h
theorem nY{ed:Sem Value}(h:fN e=true):isTrue e env ed=(do let v←ed;standAt e.pos;holding [v] (truthy v)):=by
 cases e<;>first|rfl|exact bM h
theorem wl{o:aG Bool}(hf:bF c d f)(hp:fN e=true)(h:xY f en σ e=some o)(a:At c A env en ρ σ s d):pZ c A (isTrue e env (eval e env)) ρ s o:=by
 refine wpAny_isTrue_value (au.then (.refl a.st a.gd) h (fun o' q=>hf q a) fun y KE w KH KS KG KO KM Lf=> ?_) (nY hp)
 refine aL (IE.mp KM) fun b hb zz2=> ?_;subst zz2;exact bX (c:=c) KG.sto hb KO fun t=>b9.now (KG.trans (af.toks (t:=t) KG.sto KG.gd)) rfl
theorem yW{g:lA}{o:aG Bool}(hf:bF c d f)(hg:eM c d g)(h:Cc f g en σ e=some o)(a:At c A env en ρ σ s d):pZ c A (isTrue e env (eval e env)) ρ s o:=by
 cases e with
 |UnaryOp op x p=>
  refine oA (iz (show(if Ac op=true then _ else none)=some o from h)) fun hn h=> ?_
  cases op with
  |Not=>
   refine wpAny_isTrue_Not (au.then (.refl a.st a.gd) h (fun o' q=>hg q a) fun y KE w KH KS KG KO KM Lf=> ?_)
   obtain rfl:=IH KM;subst KO;exact b9.now KG rfl
  |_=>exact bM hn
 |BoolOp op es p=>exact wpAny_isTrue_BoolOp (vT hg h a)
 |IfExp t b e' p=>
  show II _ A (do if←isTrue t env (eval t env)then isTrue b env (eval b env)else isTrue e' env (eval e' env)) _ _ s
  and_intros
  refine IJ (au.then (.refl a.st a.gd) h (fun o' q=>hg q a) fun y KE w KH KS KG KO KM Lf=> ?_)
  cases KO
  cases y
  ·exact au.last KG (hg KM (a.step KG))
  ·exact au.last KG (hg KM (a.step KG))
 |Compare l ops es p=>
  refine oA (sN (show(if lastMarks ops es=true then none else _)=some o from h)) fun hm h=> ?_
  show II _ A (do testChain p (←eval l env) ops (markedEach ops es (evalEach es env))) _ _ s
  rw[markedEach_of_false _ _ _ (by simpa using hm)]
  and_intros
  refine IJ (au.then (.refl a.st a.gd) h (fun o' q=>hf q a) fun y KE w KH KS KG KO KM Lf=> ?_)
  exact au.last KG (o4 hf KM (a.step KG) KO)
 |_=>exact wl hf rfl h a
noncomputable def gu(f:fP)(en:En)(σ:Sg):Option Expr→Option (aG V)
 |none=>some (.ok .none σ)
 |some e=>f en σ e
theorem jv{x:Option Expr}(hf:bF c d f)(h:gu f en σ x=some o)(a:At c A env en ρ σ s d):bn c A (evalPart x env) ρ s o:=by
 cases x with
 |none=>
  obtain rfl:=IH h;rw[evalPart_none];exact IK (b9.now (.refl a.st a.gd) .val)
 |some e=>rw[evalPart_some];exact hf h a
noncomputable def Bf(f:fP)(en:En)(KE:Sg)(x:V)(lo hi st:Option Expr):Option (aG V):=aw (gu f en KE lo) fun l KI=>aw (gu f en KI hi) fun u K3=>aw (gu f en K3 st) fun t Lq=>
 (gE l).bind fun l=>(gE u).bind fun u=>(gE t).bind fun t=>(cz Lq x l u t).map fun r=> .ok r.1 r.2
noncomputable def Bt(f:fP)(en:En)(KE:Sg)(x:V)(e:Expr):Option (aG V):=aw (f en KE e) fun i KI=>(cY i).bind fun i=>(gr KI x i).map fun y=> .ok y KI
noncomputable def Dq(f:fP)(en:En)(σ:Sg)(value slice:Expr):Option (aG V):=aw (f en σ value) fun x KE=>if bB slice=true then Bt f en KE x slice else(Fy slice).bind fun p=>Bf f en KE x p.1.1 p.1.2.1 p.1.2.2.1
theorem mJ(hf:bF c d f)(e:Dq f en σ value slice=some o)(a:At c A env en ρ σ s d):bn c A (eval (.Subscript value slice pos) env) ρ s o:=by
 refine Subscript_ (au.then (.refl a.st a.gd) e (fun o' q=>hf q a) fun x KE w KH KS KG KO KM Lf=> ?_)
 refine eZ KM (fun hn KM=> ?_) fun hn KM=> ?_
 ·refine au.then KG KM (fun o' q=>hf q (a.step KG)) fun i KI w₂ KL KZ KJ Lb K2 Lp=> ?_
  refine ae K2 fun i hi K2=>aN K2 fun y hy zz=> ?_;subst zz;obtain rfl:=b_ hi;obtain⟨_,rfl⟩:=Lb.intQ;exact(rM KJ.sto KJ.gd hn hy (Lp.R KO)).last KJ
 ·refine eX KM fun p KM=> ?_;rw[p.2]
  ·skip
   refine wpAny_Slice (au.then KG KM (fun o' q=>jv hf q (a.step KG)) fun l KI vl KL KZ KJ Lb K2 Lp=>au.then KJ K2 (fun o' q=>jv hf q (a.step KJ)) fun u K3 vu K_ Lw KV LD Lz LS=>
    au.then KV Lz (fun o' q=>jv hf q (a.step KV)) fun t Lq vt LJ LB K6 Ma LP LK=> ?_)
   refine ae LP fun l' hl LU=>ae LU fun u' hu LV=>ae LV fun t' ht Mb=>aN Mb fun q hy zz=> ?_;subst zz;refine IM (qt (value:=value) (a:=p.1.1) (b:=p.1.2.1) (d:=p.1.2.2.1) a.ok K6.sto K6.gd (y:=q.1) (KD:=q.2) hy (LK.R (LS.R (Lp.R KO))) (my hl (LK.R (LS.R Lb))) (my hu (LK.R LD)) (my ht Ma)) (fun w s₅ q=> ?_) fun u_ u_ q=>q.elim;refine aL q fun L0 Li L2=> ?_;exact b9.now (K6.trans Li) L2
noncomputable def db:V→Bool
 | .val v=>handedIn v
 |_=>true
theorem pJ(r:R h ρ x v)(e:db x=true):handedIn v=true:=by
 cases r<;>first|rfl|exact e
noncomputable def ez(fs:List (Str×V))(name:Str):Option V:=(fs.find? (·.1==name)).map (·.2)
theorem Rf.get{es:List DictEntry}(r:Rf h ρ fs es):es.any (·.refKey)=false∧(match ez fs name with|some x=> ∃e,es.find? (·.key.isStr name)=some e∧R h ρ x e.val|none=>es.find? (·.key.isStr name)=none):=by
 induction r with
 |nil=>exact⟨rfl,rfl⟩
 | @cons n t x e fs es hk r rs ih=>
  have hs:e.key.isStr name=(n==name):=by rw[hk];rfl
  refine⟨by simp only[Hu,ih.1,Gq];unfold DictEntry.refKey;rw[hk],?_⟩
  unfold ez;simp only[List.find?_cons,hs]
  cases q:(n==name)with
  |true=>exact⟨e,rfl,r⟩
  |false=>exact ih.2
set_option tactic.hygienic true in
theorem Rf.getL{h:Heap}{name:Str}{fs:List (Str×V)}{es:List DictEntry}(r:Rf h ρ fs es):(match ez fs name with|some x=> ∃v,PySem.W.getL name es=some (some v)∧R h ρ x v|none=>PySem.W.getL name es=some none):=by
 refine oA (r.get (name:=name)) fun i1 i2=> ?_;unfold PySem.W.getL
 split
 ·rename_i x hx;rw[hx]at i2;refine aL i2 fun e he hr=> ?_
  exact⟨e.val,by rw[he],hr⟩
 ·rename_i hx;rw[hx]at i2;simp only at i2;rw[i2];simp[i1]
inductive yh where
 |val (x:V)
 |prop (f:Addr)
noncomputable def kD(x:Value):Option Addr:=if h:x.ctorIdx=10 then some (@Kr.elim (fun u_=>Addr) x h fun a=>a)else none
theorem iY{x:Value}{i:Addr}(e:kD x=some i):x= .ref i:=pO e fun h u_=> @Kr.elim (fun x=>kD x=some i→x= .ref i) x h (fun u_ e=>congrArg _ (IH e)) e
noncomputable def AH:aa→Option (List (Str×V))
 | .dct l=>some l
 |_=>none
noncomputable def fH(σ:Sg)(k:Nat):Option (List (Str×V)):=σ[k]?.bind AH
theorem n7{l:List (Str×V)}(e:fH σ k=some l):σ[k]? =some (.dct l):=ae e fun x h w=>by
 cases x with
 |dct=>exact IH w▸h
 |_=>exact no w
theorem lQ{l:List (Str×V)}(h:σ[k]? =some (.dct l)):fH σ k=some l:=by unfold fH;rw[h];rfl
theorem AA{l:List α}{a:α}(e:l.head?=some a): ∃r,l=a::r:=by
 cases l with
 |nil=>exact no e
 |cons b r=>exact⟨r,by rw[IH e]⟩
noncomputable def gb(K:Frag)(fs:List (Str×V))(name:Str)(attr:Option Value):Option yh:=match ez fs name with
 |some y=>if(noGet K attr&&db y)=true then some (.val y)else none
 |none=>attr.bind fun a=>(kD a).bind fun p=>if specialIn K (.ref p) "__get__"=some (some (.builtin "property.__get__"))∧takesIn K (.ref p)=some true then(recIn K p "property").bind fun l=>l.head?.bind fun f=>(kD f).map .prop else none
noncomputable def DW:CFound→Option Value
 | .val a=>some a
 |_=>none
noncomputable def FS:(x:CFound)→Option {p:Addr×Addr//x= .get (.builtin "staticmethod.__get__") (.ref p.1) .none (.ref p.2)}
 | .get (.builtin "staticmethod.__get__") (.ref p) .none (.ref C)=>some ⟨(p,C),rfl⟩
 |_=>none
theorem Dw{x:CFound}{a:Value}(e:DW x=some a):x= .val a:=by cases x<;>first|exact no e|exact congrArg _ (IH e)
noncomputable def xh(v:Value):Option yh:=if handedIn v=true then some (.val (.val v))else none
noncomputable def BL(K:Frag)(name:Str)(C:Addr):Option yh:=(typeIn K (.ref C)).bind fun mc=>if readsIn K C mc=true then(findCls K (.ref C) mc name).bind fun r=>
 ((DW r).bind xh).or ((FS r).bind fun p=>if p.1.2=C then(recIn K p.1.1 "staticmethod").bind fun l=>l.head?.bind xh else none)
 else none
variable (c)in
noncomputable def ji(σ:Sg)(x:V)(name:Str):Option yh:=match x with
 | .inst C k=>(fH σ k).bind fun fs=>if(plainGet c.K C name&&hasDictIn c.K C)=true then(findIn c.K (.ref C) name).bind (gb c.K fs name)else none
 | .val v=>(kD v).bind (BL c.K name)
 |_=>none
theorem orE{x y:Option α}{b:α}(e:x.or y=some b)(h:x=some b→P)(k:y=some b→P):P:=by
 cases x with
 |none=>exact k e
 |some a=>exact h e
theorem nX{gt:yh}(e:xh v=some gt):handedIn v=true∧gt= .val (.val v):=bI e fun h w=>⟨h,(IH w).symm⟩
theorem Aj{gt:yh}(e:ji c σ x name=some gt)
 (k1: ∀C k fs attr y,x= .inst C k→σ[k]? =some (.dct fs)→plainGet c.K C name=true→hasDictIn c.K C=true→findIn c.K (.ref C) name=some attr→ez fs name=some y→noGet c.K attr=true→db y=true→gt= .val y→P)
 (k2: ∀C k fs p f r,x= .inst C k→σ[k]? =some (.dct fs)→plainGet c.K C name=true→hasDictIn c.K C=true→findIn c.K (.ref C) name=some (some (.ref p))→specialIn c.K (.ref p) "__get__"=some (some (.builtin "property.__get__"))→takesIn c.K (.ref p)=some true→recIn c.K p "property"=some (.ref f::r)→gt= .prop f→P)
 (k3: ∀C mc a,x= .val (.ref C)→typeIn c.K (.ref C)=some mc→readsIn c.K C mc=true→findCls c.K (.ref C) mc name=some (.val a)→handedIn a=true→gt= .val (.val a)→P)
 (k4: ∀C mc p f r,x= .val (.ref C)→typeIn c.K (.ref C)=some mc→readsIn c.K C mc=true→findCls c.K (.ref C) mc name=some (.get (.builtin "staticmethod.__get__") (.ref p) .none (.ref C))→recIn c.K p "staticmethod"=some (f::r)→handedIn f=true→gt= .val (.val f)→P):P:=by
 cases x with
 |inst C k=>
  refine ae (show((fH σ k).bind _)=some gt from e) fun fs hk e=>bI e fun hp e=>ae e fun attr ha e=> ?_
  refine oA (Gi.mp hp) fun hp hh=> ?_
  cases hy:ez fs name with
  |some y=>
   unfold gb at e;rw[hy]at e;exact bI e fun hn e=>k1 C k fs attr y rfl (n7 hk) hp hh ha hy (Gi.mp hn).1 (Gi.mp hn).2 (IH e).symm
  |none=>
   unfold gb at e;rw[hy]at e;refine ae e fun a ha' e=>ae e fun p hp' e=>bI e fun hs e=>ae e fun l hl e=>ae e fun f hf e=>aN e fun f' hf' w=> ?_;refine oE (AA hf) fun r zz1=> ?_;subst zz1;rw[ha',iY hp']at ha;rw[iY hf']at hl;exact k2 C k fs p f' r rfl (n7 hk) hp hh ha hs.1 hs.2 hl w.symm
 |val v=>
  refine ae (show((kD v).bind _)=some gt from e) fun C hC e=>ae e fun mc hmc e=>bI e fun hr e=>ae e fun r hf e=>orE e (fun e=>ae e fun a ha e=> ?_) fun e=>ae e fun p u_ e=>bI e fun hC' e=>ae e fun l hl e=>ae e fun f hf' e=> ?_
  ·rw[Dw ha]at hf
   exact k3 C mc a (by rw[iY hC]) hmc hr hf (nX e).1 (nX e).2
  ·obtain⟨⟨q,C'⟩,h⟩:=p;obtain rfl:C'=C:=hC';refine oE (AA hf') fun r' zz1=> ?_;subst zz1;rw[h]at hf
   exact k4 C' mc q f r' (by rw[iY hC]) hmc hr hf hl (nX e).1 (nX e).2
 |_=>exact no e
variable (c)in
noncomputable def kT(A:Around)(code:Code)(ρ:Pl)(s:Shared)(o:aG V):Prop:=
 codeAny (model c.prog c.w) A code (fun r s'=>match r with| .ok (.ret v)=>b9 c R ρ s o v s'| .ok _=>False| .error e=>cH c ρ s o e s') s
set_option tactic.hygienic true in
theorem kI{h:Heap}{ρ:Pl}{σ:Sg}{C k:Nat}{fs:List (Str×V)}{v:Value}(st:aQ c ρ σ h)(hk:σ[k]? =some (.dct fs))(r:R h ρ (.inst C k) v):
 ∃x es n sl,v= .ref x∧InstAt h x (instObj C (ρ.r[k]?.getD 0)) C (some (fw es n sl))∧h.get? (ρ.r[k]?.getD 0)=some (fw es n sl)∧Rf h ρ fs es:=by
 cases r with
 |inst h1 f1 h2=>
 rename_i a dx
 refine lG (st.at_ _ _ _ h2 hk) fun es n sl h3 rf=> ?_
 have e:ρ.r[k]?.getD 0=dx:=by rw[h2];rfl
 rw[e];exact⟨a,es,n,sl,rfl,⟨h1,rfl,rfl,h3⟩,h3,rf⟩
theorem o0{expr:Bool}(ok:c.Ok)(st:aQ c ρ σ s.heap)(g:Gd c s.heap)(e:ji c σ x name=some (.val y))(r:R s.heap ρ x v):bn c A (getAttr v name expr) ρ s (.ok y σ):=by
 have S:af c ρ s ρ σ {s with toks:=s.toks+1}:=af.toks st g
 refine Aj e (fun C k fs attr y' hx hk hg hh ha hy hn hv q=> ?_) (fun C k fs p f r' hx hk hg hh ha h1 h2 hp q=>nomatch q) (fun C mc a hx hmc hr ha hh q=> ?_) fun C mc p f r' hx hmc hr ha hp hh q=> ?_
 ·subst hx;cases q;refine cC (kI st hk r) fun xa es n sl zz4 I hdx rf=> ?_;subst zz4;have hl:=rf.getL (name:=name);rw[hy]at hl;refine aL hl fun w hw rw'=> ?_
  exact get_value g.kin I (plainGet_of hg).1 (findObj_own hh ha hn (show lookIn name (fw es n sl)=_ from hw)) (pJ rw' hv) (b9.now S (S.R rw'))
 ·subst hx;cases q;obtain rfl:=r.valQ;exact cls_value g.kin hr ha hh (b9.now S .val)
 ·subst hx;cases q;obtain rfl:=r.valQ
  refine cls_bind g.kin hr ha (I9 (sm_get (s:={s with toks:=s.toks+1}) S.gd.kin hp ?_))
  exact handed_on hh (b9.now S .val)
theorem tX{expr:Bool}{fget:Addr}(ok:c.Ok)(st:aQ c ρ σ s.heap)(g:Gd c s.heap)(e:ji c σ x name=some (.prop fget))(r:R s.heap ρ x v)(hy:db y=true)
 (h:kT c A.in1 (.call (.ref fget) ⟨[v],[]⟩) ρ {s with toks:=s.toks+1} (.ok y KD)):bn c A (getAttr v name expr) ρ s (.ok y KD):=by
 have S:af c ρ s ρ σ {s with toks:=s.toks+1}:=af.toks st g
 refine Aj e (fun C k fs attr y' hx hk hg hh ha hy hn hv q=>nomatch q) (fun C k fs p f r' hx hk hg hh ha h1 h2 hp q=> ?_) (fun C mc a hx hmc hr ha hh q=>nomatch q) fun C mc p f r' hx hmc hr ha hp hh q=>nomatch q;subst hx;cases q;refine cC (kI st hk r) fun xa es n sl zz4 I hdx rf=> ?_;subst zz4
 refine get_bind g.kin I (plainGet_of hg).1 (findObj_data (by refine aL (any_some hh) fun cd hc u_=> ?_;rw[hc];rfl) ha h1 h2) (plainGet_of hg).2 (I9 (prop_get (s:={s with toks:=s.toks+1}) S.gd.kin hp (I7 h fun r s' hr=> ?_)))
 cases r with
 |ok fl=>
  cases fl with
  |ret v=>
   refine aL hr fun KF S' r'=> ?_;exact handed_on (pJ r' hy) (b9.now (S.trans S') r')
  |_=>exact hr.elim
 |error e=>exact hr.elim
noncomputable def aX(e:Expr):Bool:=e.ctorIdx.beq 16
noncomputable def aU(e:Expr):Bool:= !aX e
theorem l0{o:Expr}{attr:Str}{ed:Sem Value}(h:aU o=true):attributeBase o attr env ed=ed:=by
 cases o<;>first|rfl|exact bM h
noncomputable abbrev cb:=Sg→Addr→List V→List (Str×V)→Option (aG V)
inductive Rk(h:Heap)(ρ:Pl):List (Str×V)→List (Str×Value)→Prop
 |nil:Rk h ρ [] []
 |cons {n:Str} {x:V} {v:Value} {l:List (Str×V)} {vs:List (Str×Value)}:R h ρ x v→Rk h ρ l vs→Rk h ρ ((n,x)::l) ((n,v)::vs)
variable (c)in
noncomputable def dF(d:Nat)(f:cb):Prop:= ∀{A:Around} {ρ:Pl} {σ:Sg} {s:Shared} {a:Addr} {xs:List V} {ks:List (Str×V)} {vs:List Value} {kv:List (Str×Value)} {o:aG V},f σ a xs ks=some o→
 c.Ok→aQ c ρ σ s.heap→Gd c s.heap→eg c ρ A d s.heap→Rs s.heap ρ xs vs→Rk s.heap ρ ks kv→kT c A (.call (.ref a) ⟨vs,kv⟩) ρ s o
theorem eg.in1(r:eg c ρ A (d+1) h):eg c ρ A.in1 d h where
 hand:=r.hand
 depth:=by have:=r.depth;show A.depth+d<recursionLimit;exact rm0 ‹_›
 units:=by have:=r.units;show A.units+1+8*d+220<cLine;exact ru1 ‹_›
 frames:=r.frames
noncomputable def sH(f:fP)(cf:cb)(en:En)(σ:Sg)(value:Expr)(name:Str):Option (aG V):=if aU value then aw (f en σ value) fun x KE=>(ji c KE x name).bind fun r=> @yh.casesOn (fun u_=>Option (aG V)) r (fun y=>some (.ok y KE)) fun fget=>(cf KE fget [x] []).bind fun o=> @aG.casesOn V (fun u_=>Option (aG V)) o (fun y KI=>if db y then some (.ok y KI)else none) fun u_ u_=>none
 else none
theorem mW{cf:cb}(hf:bF c (d+1) f)(hc:dF c d cf)(e:sH (c:=c) f cf en σ value name=some o)(a:At c A env en ρ σ s (d+1)):bn c A (eval (.Attribute value name pos) env) ρ s o:=by
 refine bI e fun hp e=> ?_
 ·refine Attribute_any_ (au.then (.refl a.st a.gd) e (fun o' h=>hf h a) fun x KE v KH KS KG KO KM u_=> ?_) ?_
  ·refine ae KM fun q hy KM=> ?_
   cases q with
   |val y=>
    obtain rfl:=IH KM;exact(o0 a.ok KG.sto KG.gd hy KO).last KG
   |prop fget=>
    refine ae KM fun q hcf KM=> ?_
    cases q with
    |ok y KI=>
     refine bI KM fun hh KM=> ?_;obtain rfl:=IH KM
     have KJ:af c KS KH KS KE {KH with toks:=KH.toks+1}:=af.toks KG.sto KG.gd
     exact(tX a.ok KG.sto KG.gd hy KO hh (hc hcf a.ok KG.sto KG.gd (a.step KG).room.in1 (.cons KO .nil) .nil)).last KG
    |exc=>exact no KM
  ·rw[arm_eval_Attribute,l0 hp]
noncomputable def Cm(names:List Str):List (Str×α)→List (Str×α)→Option (List (Str×α))
 |sl,[]=>some sl
 |sl,(k,v)::r=>if names.contains k&& !(sl.lookup k).isSome then Cm names (sl++[(k,v)]) r else none
noncomputable def iu:List (Str×α)→List (Str×α)→List (Str×α)
 |sl,[]=>sl
 |sl,(n,v)::r=>iu (if(sl.lookup n).isNone then sl++[(n,v)]else sl) r
noncomputable def eW(names:List Str)(pos:List α)(kw:List (Str×α))(ds:List α):Option (List (Str×α)):=
 if pos.length≤names.length∧ds.length≤names.length then
  (Cm names (names.zip pos) kw).bind fun sl=>
   if((names.take (names.length-ds.length)).filter fun n=>(sl.lookup n).isNone).isEmpty then
    some (names.filterMap fun n=>((iu sl ((names.drop (names.length-ds.length)).zip ds)).lookup n).map (n,·))
   else none
 else none
theorem yl{ds:List Value}{binds:List (Str×Value)}(h1:fd.params.posonlyargs=[])(h2:fd.params.kwonlyargs=[])(h3:fd.params.vararg=none)(h4:fd.params.kwarg=none)
 (hd: ∀{M:Model} {A:Around} {E:Value→Shared→Prop} {Q:Option (Array Value)→Shared→Prop},(∀r:Option (Array Value),(r.getD #[]).toList=ds→Q r s)→II M A (seqItems? fd.defaults) Q E s)
 (e:eW (fd.params.args.map (·.arg)) vs kv ds=some binds):BindsTo s fd ⟨vs,kv⟩ binds:=by
 intro M A E Q hq;obtain⟨nm,qn,⟨po,as,va,ko,kd,ka,df⟩,bd,sc,gl,cl,dv,kwd,dc,pm,an,cd,ct,bl⟩:=fd;subst h1;subst h2;subst h3;subst h4;replace e:eW (as.map (·.arg)) vs kv ds=some binds:=e;refine bI e fun hlen e1=>ae e1 fun sl hsl e2=>bI e2 fun hmiss e3=> ?_;obtain rfl:=IH e3;unfold bindArgs;refine(?_:II _ _ (ForIn.forIn kv ((as.map (·.arg)).zip vs,[]) _>>=_) _ _ s)
 and_intros
 refine IJ ?_
 change let B0:=_;II _ _ (forIn _ _ B0) _ _ _;intro B0
 refine(Jj _ (fun rest b s'=>b.2=[]∧Cm (as.map (·.arg)) b.1 rest=some sl∧s'=s) _ ?_ ?_ _ _ ⟨rfl,hsl,rfl⟩)
 ·intro p rest b s' hb;obtain⟨k,v⟩:=p;obtain⟨b1,b2⟩:=b;refine mX hb fun hb hk hs=> ?_;subst hb;refine bI hk fun hc hk2=> ?_;refine oA (Gi.mp hc) fun hc1 hc2=> ?_
  refine cV (by rw[show(List.contains (List.map (fun x:Arg=>x.arg) as) k)=true from hc1];rfl) ?_
  refine bV (fun q=>by rw[q]at hc2;exact bM hc2) ?_
  exact IK ⟨rfl,hk2,hs⟩
 ·intro b s' hb;obtain⟨b1,b2⟩:=b;refine mX hb fun hb hk hs=> ?_;subst hb;obtain rfl:=hs.symm;obtain rfl:=IH hk
  and_intros
  refine IJ (hd fun r hr=> ?_);subst hr
  have hdrop:((r.getD #[]).toList.drop ((r.getD #[]).toList.length-(as.map (·.arg)).length))=(r.getD #[]).toList:=by rw[Nat.sub_eq_zero_of_le hlen.2];rfl
  refine bV (by simpa using hlen.1) ?_
  refine hdrop.symm▸ ?_;refine bV (fun q=>bM ((congrArg not hmiss).symm.trans q)) ?_
  and_intros
  refine IJ ?_
  change let B0:=_;II _ _ (forIn _ _ B0) _ _ _;intro B0
  refine(Jj _ (fun rest b s''=>iu b rest=iu b1 (((as.map (·.arg)).drop ((as.map (·.arg)).length-(r.getD #[]).toList.length)).zip (r.getD #[]).toList)∧s''=s) _ ?_ ?_ _ _ ⟨rfl,rfl⟩)
  ·intro p rest b s'' hb;obtain⟨n,v⟩:=p;refine oA hb fun hb hs=> ?_
   by_cases q:(G5 n b).isNone=true
   ·refine cV q (IK ⟨?_,hs⟩);exact(congrArg (iu · rest) (if_pos q).symm).trans hb
   ·refine bV q (IK ⟨?_,hs⟩);exact(congrArg (iu · rest) (if_neg q).symm).trans hb
  ·intro b s'' hb;refine oA hb fun hb2 hs=> ?_;obtain rfl:=hs.symm
   and_intros
   refine IJ (IK ?_)
   refine bV (show¬((!([]:List Str).isEmpty)=true)from by exact Gk) ?_
   refine(show b=_ from hb2).symm▸ ?_
   refine IK (?_:Q (List.filterMap _ (as.map (·.arg)++[])) s);refine(G4 (as.map (·.arg))).symm▸ ?_;exact hq
inductive Cd(h:Heap)(ρ:Pl):Option V→Option Value→Prop
 |no:Cd h ρ none none
 |so {x:V} {v:Value}:R h ρ x v→Cd h ρ (some x) (some v)
theorem Cd.opt{a:Option V}{b:Option Value}(o:Cd h ρ a b):j9 h ρ a b:=by
 cases o with
 |no=>exact .no
 |so r=>exact .so r
theorem dJ{n:Str}{l:List (Str×V)}{vs:List (Str×Value)}(r:Rk h ρ l vs):Cd h ρ (l.lookup n) (vs.lookup n):=by
 induction r with
 |nil=>exact .no
 | @cons m x v l vs r rs ih=>
  rw[G7,G7]
  cases(n==m)with
  |true=>exact .so r
  |false=>exact ih
theorem Cd.same{a:Option V}{b:Option Value}(o:Cd h ρ a b):a.isSome=b.isSome∧a.isNone=b.isNone:=by cases o<;>exact⟨rfl,rfl⟩
theorem Rk.snoc{n:Str}(r:R h ρ x v){l:List (Str×V)}{vs:List (Str×Value)}(q:Rk h ρ l vs):Rk h ρ (l++[(n,x)]) (vs++[(n,v)]):=Rk.rec (motive:=fun l vs u_=>Rk h ρ (l++[(n,x)]) (vs++[(n,v)])) (.cons r .nil) (fun q u_ ih=> .cons q ih) q
theorem sr{ns:List Str}(r:Rs h ρ l vs):Rk h ρ (ns.zip l) (ns.zip vs):=
 Rs.ind (Q:=fun l vs=> ∀ns:List Str,Rk h ρ (ns.zip l) (ns.zip vs)) (fun ns=>by rw[List.zip_nil_right,List.zip_nil_right];exact .nil) (fun r u_ ih ns=>by
  cases ns with
  |nil=>exact .nil
  |cons n ns=>exact .cons r (ih ns)) r ns
theorem yG{ks:List (Str×V)}{sv:List (Str×Value)}{o:List (Str×V)}(r:Rk h ρ ks kv)(q:Rk h ρ sl sv)(e:Cm N sl ks=some o): ∃ov,Cm N sv kv=some ov∧Rk h ρ o ov:=by
 induction r generalizing sl sv with
 |nil=>exact⟨sv,rfl,IH e▸q⟩
 | @cons n x v l vs r rs ih=>
  refine bI e fun hc e=> ?_
  refine(?_: ∃ov,(if N.contains n&& !(sv.lookup n).isSome then Cm N (sv++[(n,v)]) vs else none)=some ov∧_)
  rw[←(dJ (n:=n) q).same.1,if_pos hc];exact ih (q.snoc r) e
theorem ud{ks:List (Str×V)}{sv:List (Str×Value)}(r:Rk h ρ ks kv)(q:Rk h ρ sl sv):Rk h ρ (iu sl ks) (iu sv kv):=by
 induction r generalizing sl sv with
 |nil=>exact q
 | @cons n x v l vs r rs ih=>
  refine(?_:Rk h ρ (iu (if(sl.lookup n).isNone then sl++[(n,x)]else sl) l) (iu (if(sv.lookup n).isNone then sv++[(n,v)]else sv) vs))
  rw[←(dJ (n:=n) q).same.2]
  by_cases p:(sl.lookup n).isNone=true
  ·rw[if_pos p,if_pos p];exact ih (q.snoc r)
  ·rw[if_neg p,if_neg p];exact ih q
theorem xB{sv:List (Str×Value)}(q:Rk h ρ sl sv)(N:List Str):Rk h ρ (N.filterMap fun n=>(sl.lookup n).map (n,·)) (N.filterMap fun n=>(sv.lookup n).map (n,·)):=by
 induction N with
 |nil=>exact .nil
 |cons n N ih=>
  have:=dJ (n:=n) q;simp only[HD];generalize sl.lookup n=a at*;generalize sv.lookup n=b at*
  cases this with
  |no=>exact ih
  |so r=>exact .cons r ih
set_option tactic.hygienic true in
theorem s9{h:Heap}{N:List Str}{l:List V}{vs:List Value}{ks:List (Str×V)}{kv:List (Str×Value)}{ds:List V}{dv:List Value}{o:List (Str×V)}(r:Rs h ρ l vs)(q:Rk h ρ ks kv)(p:Rs h ρ ds dv)(e:eW N l ks ds=some o):
 ∃ov,eW N vs kv dv=some ov∧Rk h ρ o ov:=by
 unfold eW at e⊢;rw[←r.length,←p.length]
 split at e
 ·rename_i hl;rw[if_pos hl];refine aL (Option.bind_eq_some_iff.mp e) fun sl hsl e=> ?_;refine aL (yG q (sr r) hsl) fun sv hsv qs=> ?_;rw[hsv,IG]
  have hf:((N.take (N.length-ds.length)).filter fun n=>(sv.lookup n).isNone)=((N.take (N.length-ds.length)).filter fun n=>(sl.lookup n).isNone):=by
   congr 1;funext n;exact(dJ (n:=n) qs).same.2.symm
  rw[hf]
  split at e
  ·rename_i hm;obtain rfl:=IH e;rw[if_pos hm];exact⟨_,rfl,xB (ud (sr p) qs) N⟩
  ·exact no e
 ·exact no e
noncomputable def mR(env:Env):List Addr:=env.locals::env.scope.names.filterMap fun x=>if env.scope.names.lookup x.1=some .cell then env.cells.lookup x.1 else none
set_option tactic.hygienic true in
theorem ba.own{h:Heap}(e:ba h ρ env en): ∀a∈mR env,a∈ρ.p:=by
 intro a m
 rcases GY.mp m with rfl|m
 ·exact e.out
 ·refine aL (Hl.mp m) fun x _ hx=> ?_
  split at hx
  ·rename_i hk
   refine bU (e.ce x.1 (by rw[←e.names];exact hk)) fun a' w h1 h2 h3 _=> ?_
   rw[h1]at hx;obtain rfl:=IH hx;exact h3
  ·exact no hx
variable (c)in
structure bo(env:Env)(ρ:Pl)(s:Shared)(KF:Pl)(KD:Sg)(s':Shared):Prop where
 st:ad c (mR env) ρ s KF KD s'
 fo:cn (mR env) s.heap s'.heap
theorem cn.trans{D:List Addr}(x:cn D h h')(y:cn D h' h''):cn D h h'':=fun a m o e t=>by
 refine aL (x a m o e t) fun o' e' t'=> ?_;exact y a m o' e' t'
theorem bo.trans(x:bo c env ρ s KF KD s')(y:bo c env KF s' Lh Ln s''):bo c env ρ s Lh Ln s'':=⟨x.st.trans y.st,x.fo.trans y.fo⟩
theorem af.fo{D:List Addr}(t:aQ c ρ σ s.heap)(x:af c ρ s KF KD s')(d: ∀a∈D,a∈ρ.p):cn D s.heap s'.heap:=fun a m o e ⟨es,ep,hd⟩=>by
 refine aL (x.ext a o (fun z=>t.disj a (d a m) (by simpa using z)) e) fun o' e' q=> ?_
 exact⟨o',e',es,ep,q.dict hd⟩
theorem af.toS(t:aQ c ρ σ s.heap)(x:af c ρ s KF KD s')(e:ba s.heap ρ env en):bo c env ρ s KF KD s':=⟨x.D,x.fo t e.own⟩
inductive Fl where
 |next
 |brk
 |cont
 |ret (v:V)
inductive C9(h:Heap)(ρ:Pl):Fl→Flow→Prop
 |next:C9 h ρ .next .next
 |brk:C9 h ρ .brk .brk
 |cont:C9 h ρ .cont .cont
 |ret {x:V} {v:Value}:R h ρ x v→C9 h ρ (.ret x) (.ret v)
inductive aM where
 |ok (f:Fl) (en:En) (σ:Sg)
 |exc (cls:String) (en:En) (σ:Sg)
variable (c)in
noncomputable def gk(env:Env)(ρ:Pl)(s:Shared)(o:aM):Flow→Shared→Prop:=fun fl s'=>match o with
 | .ok f en' KD=> ∃KF,bo c env ρ s KF KD s'∧ba s'.heap KF env en'∧C9 s'.heap KF f fl
 | .exc .. =>False
variable (c)in
noncomputable def iI(env:Env)(ρ:Pl)(s:Shared)(o:aM):Value→Shared→Prop:=fun e s'=>match o with
 | .exc cls en' KD=> ∃KF,bo c env ρ s KF KD s'∧ba s'.heap KF env en'∧f9 s'.heap KF s.heap.objs.size cls e
 | .ok .. =>False
variable (c)in
noncomputable def eE(A:Around)(t:Sem Flow)(env:Env)(ρ:Pl)(s:Shared)(o:aM):Prop:=II (model c.prog c.w) A t (gk c env ρ s o) (iI c env ρ s o) s
noncomputable def o9(A:Around)(env:Env):Prop:= ∃outer,A.frames=some (env::outer)
noncomputable abbrev EQ:=En→Sg→Stmt→Option aM
noncomputable abbrev eC:=En→Sg→List Stmt→Option aM
variable (c)in
noncomputable def C3(d:Nat)(f:EQ):Prop:= ∀{A:Around} {env:Env} {en:En} {ρ:Pl} {σ:Sg} {s:Shared} {e:Stmt} {o:aM},f en σ e=some o→At c A env en ρ σ s d→o9 A env→eE c A (exec e env) env ρ s o
variable (c)in
noncomputable def gi(d:Nat)(f:eC):Prop:= ∀{A:Around} {env:Env} {en:En} {ρ:Pl} {σ:Sg} {s:Shared} {e:List Stmt} {o:aM},f en σ e=some o→At c A env en ρ σ s d→o9 A env→eE c A (execs e env) env ρ s o
theorem At.stepS(a:At c A env en ρ σ s d)(x:bo c env ρ s KF KD s')(er:ba s'.heap KF env en'):At c A env en' KF KD s' d:=⟨a.ok,x.st.sto,x.st.gd,er,a.room.monoD a.st x.st x.fo⟩
theorem gk.trans{o:aM}{fl:Flow}(x:bo c env ρ s KF KD s')(p:gk c env KF s' o fl s''):gk c env ρ s o fl s'':=by
 cases o with
 |ok f en' KD=>refine bW p fun Lh y e r=> ?_;exact⟨Lh,x.trans y,e,r⟩
 |exc=>exact p
theorem iI.trans{o:aM}{e:Value}(x:bo c env ρ s KF KD s')(p:iI c env KF s' o e s''):iI c env ρ s o e s'':=by
 cases o with
 |exc cls en' KD=>refine bW p fun Lh y e r=> ?_;exact⟨Lh,x.trans y,e,r.mono x.st.rest.hsize⟩
 |ok=>exact p
theorem eE.last{t:Sem Flow}{o:aM}(x:bo c env ρ s KF KD s')(h:eE c A t env KF s' o):II (model c.prog c.w) A t (gk c env ρ s o) (iI c env ρ s o) s':=
 IM h (fun u_ u_ p=>p.trans x) fun u_ u_ p=>p.trans x
noncomputable def Cg:Fl→Bool
 | .next=>true
 | .brk=>false
 | .cont=>false
 | .ret _=>false
noncomputable def D7:aM→Option (En×Sg)
 | .ok f en σ=>if Cg f=true then some (en,σ)else none
 | .exc _ _ _=>none
noncomputable def BX(f:EQ):En→Sg→List Stmt→Option aM
 |en,σ,[]=>some (.ok .next en σ)
 |en,σ,e::es=>(f en σ e).bind fun so=>(D7 so).elim (some so) fun p=>BX f p.1 p.2 es
theorem wC{f:EQ}(hf:C3 c d f)(tp:o9 A env){es:List Stmt}: ∀{en:En} {σ:Sg} {ρ:Pl} {s:Shared} {o:aM},BX f en σ es=some o→At c A env en ρ σ s d→eE c A (execs es env) env ρ s o:=by
 induction es with
 |nil=>
  intro en σ ρ s o e a;obtain rfl:=IH e;exact wpAny_execs_nil ⟨ρ,(af.refl a.st a.gd).toS a.st a.er,a.er,.next⟩
 |cons x es ih=>
  intro en σ ρ s o e a;refine wpAny_execs_cons ?_;refine ae e fun so hx e=> ?_
  cases so with
  |exc cls en' KD=>
   obtain rfl:=IH e;exact IM (hf hx a tp) (fun fl s' p=>p.elim) fun e s' p=>p
  |ok f' en' KD=>
   refine IM (hf hx a tp) (fun fl s' p=> ?_) fun e s' p=>p.elim;refine bW p fun KF S er r=> ?_
   cases r with
   |next=>exact(ih e (a.stepS S er)).last S
   |brk=>obtain rfl:=IH e;exact⟨KF,S,er,.brk⟩
   |cont=>obtain rfl:=IH e;exact⟨KF,S,er,.cont⟩
   |ret r=>obtain rfl:=IH e;exact⟨KF,S,er,.ret r⟩
set_option tactic.hygienic true in
theorem au.thenS{α β:Type}{rel:Heap→Pl→α→β→Prop}{t:Sem β}{KY:Pl}{KP:Shared}{en:En}{Lk:Option (aG α)}{k:α→Sg→Option aM}{o:aM}{Q:β→Shared→Prop}(a:At c A env en ρ σ s d)(K4:bo c env KY KP ρ σ s)
 (e:(match Lk with|some (.ok x KD)=>k x KD|some (.exc cls KD)=>some (.exc cls en KD)|none=>none)=some o) (h: ∀o',Lk=some o'→au c rel A t ρ s o')
 (hk: ∀x KD v s' KF,bo c env KY KP KF KD s'→At c A env en KF KD s' d→rel s'.heap KF x v→k x KD=some o→af c ρ s KF KD s'→Q v s'):
 II (model c.prog c.w) A t Q (iI c env KY KP o) s:=by
 split at e
 ·rename_i x KD
  refine(h _ rfl).go (fun y Ln q v s' KF st r=> ?_) (fun cls Ln q=>by exact iQ q)
  refine jF q fun zz1 zz2=> ?_;subst zz1;subst zz2;exact hk _ _ _ _ _ (K4.trans (st.toS a.st a.er)) (a.step st) r e st
 ·rename_i cls KD;obtain rfl:=IH e
  refine(h _ rfl).go (fun x Ln q=>by exact EO q) (fun cls Ln q e s' f=> ?_)
  refine Cw q fun zz1 zz2=> ?_;subst zz1;subst zz2;refine aL f fun KF st fl=> ?_;exact⟨KF,K4.trans (st.toS a.st a.er),st.env a.st a.er,fl.mono K4.st.rest.hsize⟩
 ·exact no e
noncomputable def bQ(en:En)(Lk:Option (aG α))(k:α→Sg→Option aM):Option aM:=match Lk with
 |some (.ok x KD)=>k x KD
 |some (.exc cls KD)=>some (.exc cls en KD)
 |none=>none
theorem qM{o:aM}(hf:bF c d f)(h:bQ en (f en σ e) (fun x KD=>some (.ok (.ret x) en KD))=some o)(a:At c A env en ρ σ s d):eE c A (exec (.Return (some e) pos) env) env ρ s o:=by
 refine wpAny_Return_some (au.thenS a ((af.refl a.st a.gd).toS a.st a.er) h (fun o' q=>hf q a) fun x KE v KH KS KG KT KO KM Lf=> ?_);obtain rfl:=IH KM;exact⟨KS,KG,KT.er,.ret KO⟩
theorem By{g:lA}{fs:eC}{t:Expr}{b e':List Stmt}{o:aM}(hg:eM c d g)(hs:gi c d fs)(h:bQ en (g en σ t) (fun x KD=>if x then fs en KD b else fs en KD e')=some o)(a:At c A env en ρ σ s d)(tp:o9 A env):
 eE c A (exec (.If t b e' pos) env) env ρ s o:=by
 refine wpAny_If (au.thenS a ((af.refl a.st a.gd).toS a.st a.er) h (fun o' q=>hg q a) fun x KE v KH KS KG KT KO KM Lf=> ?_)
 cases KO
 cases x
 ·exact(hs KM KT tp).last KG
 ·exact(hs KM KT tp).last KG
end
variable {so:aM}
section
variable {env:Env}{d:Nat}
noncomputable def En.set(en:En)(x:Str)(y:V):En:={en with own:=(x,y)::en.own}
theorem dS{b:Addr}{m:Str→Option Value}{v:Option Value}(n:h.Ns a m)(k:h.IsCell b v):b≠a:=fun e=>by
 subst e;refine iJ n fun o es ep ho hd u_=> ?_;refine aL k fun o' ho' hd'=> ?_;rw[ho]at ho';obtain rfl:=IH ho';rw[hd]at hd';cases hd'
theorem cT{x z:Str}{l:List (Str×V)}:G5 z ((x,y)::l)=if z=x then some y else l.lookup z:=by
 rw[G7]
 by_cases h:z=x
 ·subst h;simp
 ·rw[if_neg h];have:(z==x)=false:=beq_eq_false_iff_ne.mpr h;rw[this]
theorem dL{x:Str}{Q:Unit→Shared→Prop}(a:At c A env en ρ σ s d)(hk:en.names.lookup x=some .local∨en.names.lookup x=some .cell)(r:R s.heap ρ y v)
 (h: ∀s',bo c env ρ s ρ σ s'→ba s'.heap ρ env (en.set x y)→Q () s'):II (model c.prog c.w) A (storeName env x v) Q E s:=by
 have hkind:env.kindOf x=en.names.lookup x:=by rw[←a.er.names];rfl
 rcases hk with hl|hl
 ·refine aL a.er.lo fun m hn hm=> ?_
  refine wpAny_storeName_local (hkind.trans hl) hn (fun h' hn' hs'=> ?_) (by rw[a.er.kind];rfl)
  have S:ad c [env.locals] ρ s ρ σ {s with heap:=h',toks:=s.toks+1}:=ad.same (t:=s.toks+1) a.ok a.st a.gd a.er.out hs'
  have dp: ∀b∈[env.locals],b∈ρ.p:=by simpa using a.er.out
  refine h _ ⟨S.wider (by simp[mR]),fun b mb o e hd=> ?_⟩ ⟨a.er.kind,a.er.names,a.er.gl,a.er.bi,⟨_,hn',fun z hz=> ?_⟩,fun z hz=> ?_,fun z hz=> ?_,a.er.out,a.er.ap,a.er.cd⟩
  ·by_cases q:b=env.locals
   ·subst q;refine iJ hn' fun o' es ep ho' hd' u_=> ?_;exact⟨o',ho',es,ep,hd'⟩
   ·exact⟨o,(hs'.2 b q).trans e,hd⟩
  ·show j9 h' ρ (G5 z ((x,y)::en.own)) _;rw[cT]
   split
   ·exact .so (ad.R dp S r)
   ·exact(hm z hz).mono (ad.off dp) S.ext S.le
  ·have hzx:z≠x:=fun q=>by subst q;rw[show(en.set z y).names=en.names from rfl,hl]at hz;cases IH hz
   refine bU (a.er.ce z hz) fun b w h1 h2 h3 h4=> ?_;refine⟨b,w,h1,S.ext.cell (fun q=>(GP.mp q).elim (fun q=>dS hn h2 (GR.mp q)) (a.st.cell h2)) h2,h3,?_⟩;show j9 h' ρ (G5 z ((x,y)::en.own)) _;rw[cT,if_neg hzx];exact h4.mono (ad.off dp) S.ext S.le
  ·refine dC (a.er.fr z hz) fun b w h1 h2 h4=> ?_;exact⟨b,w,h1,S.ext.cell (fun q=>(GP.mp q).elim (fun q=>dS hn h2 (GR.mp q)) (a.st.cell h2)) h2,h4.mono (ad.off dp) S.ext S.le⟩
 ·refine bU (a.er.ce x hl) fun b w h1 h2 h3 h4=> ?_;refine wpAny_storeName_cell a.er.kind (hkind.trans hl) h1 h2 fun h' hc' hs'=> ?_
  have S:ad c [b] ρ s ρ σ {s with heap:=h'}:=ad.same (t:=s.toks) a.ok a.st a.gd h3 hs'
  have dp: ∀b'∈[b],b'∈ρ.p:=by simpa using h3
  have hb:b∈mR env:=by
   refine HL _ (Hl.mpr ?_)
   have hmem:(x,Kh)∈env.scope.names:=by
    rw[a.er.names];exact mem_of_lookup hl
   exact⟨_,hmem,by rw[a.er.names,if_pos hl];exact h1⟩
  refine aL a.er.lo fun m hn hm=> ?_;have hbl:b≠env.locals:=dS hn h2
  refine h _ ⟨S.wider (by simpa using hb),fun b' mb o e hd=> ?_⟩ ⟨a.er.kind,a.er.names,a.er.gl,a.er.bi,⟨m,hn.sameBut hs' (Ne.symm hbl),fun z hz=> ?_⟩,fun z hz=> ?_,fun z hz=> ?_,a.er.out,a.er.ap,a.er.cd⟩
  ·by_cases q:b'=b
   ·subst q;refine rh hd fun es ep hd=> ?_;refine aL h2 fun o' ho' hd'=> ?_;rw[e]at ho';obtain rfl:=IH ho';rw[hd]at hd';cases hd'
   ·exact⟨o,(hs'.2 b' q).trans e,hd⟩
  ·have hzx:z≠x:=fun q=>by subst q;rw[show(en.set z y).names=en.names from rfl,hl]at hz;cases IH hz
   show j9 h' ρ (G5 z ((x,y)::en.own)) _;rw[cT,if_neg hzx];exact(hm z hz).mono (ad.off dp) S.ext S.le
  ·by_cases hzx:z=x
   ·subst hzx;refine⟨b,_,h1,hc',h3,?_⟩;show j9 h' ρ (G5 z ((z,y)::en.own)) _;rw[cT,if_pos rfl];exact .so (ad.R dp S r)
   ·refine bU (a.er.ce z hz) fun b' w' k1 k2 k3 k4=> ?_;have hne:b'≠b:=fun q=>hzx (a.er.ap z x b (q▸k1) h1);refine⟨b',w',k1,S.ext.cell (fun q=>(GP.mp q).elim (fun q=>hne (GR.mp q)) (a.st.cell k2)) k2,k3,?_⟩;show j9 h' ρ (G5 z ((x,y)::en.own)) _;rw[cT,if_neg hzx];exact k4.mono (ad.off dp) S.ext S.le
  ·refine dC (a.er.fr z hz) fun b' w' k1 k2 k4=> ?_
   have hzx:z≠x:=fun q=>by subst q;rw[show(en.set z y).names=en.names from rfl,hl]at hz;cases IH hz
   have hne:b'≠b:=fun q=>hzx (a.er.ap z x b (q▸k1) h1);exact⟨b',w',k1,S.ext.cell (fun q=>(GP.mp q).elim (fun q=>hne (GR.mp q)) (a.st.cell k2)) k2,k4.mono (ad.off dp) S.ext S.le⟩
theorem wt{k:Str→Option NameKind}{y:Str}(hy:k y=some .local)(l:List (Str×Value)): ∀(m:Str→Option Value),bindL k l m y=(l.reverse.lookup y).or (m y):=by
 induction l with
 |nil=>exact fun u_=>rfl
 |cons p r ih=>
  intro m;unfold bindL;rw[ih,Hm,HF]
  cases r.reverse.lookup y with
  |some w=>rfl
  |none=>
   show(if k p.1=some .local then fun z=>if z=p.1 then some p.2 else m z else m) y=(match y==p.1 with|true=>some p.2|false=>none).or (m y)
   cases hb:y==p.1 with
   |true=>rw[←GN hb,if_pos hy];exact if_pos rfl
   |false=>split;exact if_neg (ne_of_beq_false hb);rfl
theorem u8{k:Str→Option NameKind}{y:Str}(hy:k y≠some .local)(l:List (Str×Value)): ∀(m:Str→Option Value),bindC k l m y=(l.reverse.lookup y).or (m y):=by
 induction l with
 |nil=>exact fun u_=>rfl
 |cons p r ih=>
  intro m;unfold bindC;rw[ih,Hm,HF]
  cases r.reverse.lookup y with
  |some w=>rfl
  |none=>
   show(if k p.1=some .local then m else fun z=>if z=p.1 then some p.2 else m z) y=(match y==p.1 with|true=>some p.2|false=>none).or (m y)
   cases hb:y==p.1 with
   |true=>rw[←GN hb,if_neg hy];exact if_pos rfl
   |false=>split;rfl;exact if_neg (ne_of_beq_false hb)
theorem Rk.append{l l':List (Str×V)}{v v':List (Str×Value)}(r:Rk h ρ l v)(q:Rk h ρ l' v'):Rk h ρ (l++l') (v++v'):=Rk.rec (motive:=fun l v u_=>Rk h ρ (l++l') (v++v')) q (fun r u_ ih=> .cons r ih) r
theorem Rk.reverse{l:List (Str×V)}{v:List (Str×Value)}(r:Rk h ρ l v):Rk h ρ l.reverse v.reverse:=
 Rk.rec (motive:=fun l v u_=>Rk h ρ l.reverse v.reverse) .nil (fun r u_ ih=>by rw[Hm,Hm];exact ih.append (.cons r .nil)) r
theorem Rk.mono(nl:ρ.Off S)(x:eh c S h h')(le:ρ.Le h KF){l:List (Str×V)}{v:List (Str×Value)}(r:Rk h ρ l v):Rk h' KF l v:=Rk.rec (motive:=fun l v u_=>Rk h' KF l v) .nil (fun r u_ ih=> .cons (r.mono nl x le) ih) r
theorem af.Rk(x:af c ρ s KF KD s'){l:List (Str×V)}{v:List (Str×Value)}(r:Internal.Rk s.heap ρ l v):Internal.Rk s'.heap KF l v:=r.mono (ad.off (by exact G9 _)) x.ext x.le
noncomputable def r9(names:List (Str×NameKind)):Bool:=names.all fun n=>n.2 != .free&&(n.2 != .cell||((cellsFrom 0 names []).lookup n.1).isSome)
theorem kY{y:Str}(h:((cellsFrom 0 names []).lookup y).isSome=true):((cellsFrom n names []).lookup y).isSome=true:=by
 have e:=cellsFrom_names names 0 n [] [] rfl
 have key: ∀(l l':List (Str×Addr)),l.map (·.1)=l'.map (·.1)→(l.lookup y).isSome=(l'.lookup y).isSome:=by
  intro l
  induction l with
  |nil=>intro l' q;cases l' with|nil=>rfl|cons=>trivial
  |cons p l ih=>
   intro l' q
   cases l' with
   |nil=>trivial
   |cons p' l'=>
    simp only[List.map_cons,List.cons.injEq]at q;obtain⟨a,b⟩:=p;obtain⟨a',b'⟩:=p';obtain⟨q1,q2⟩:=q;simp only at q1;subst q1;simp only[G7]
    cases(y==a)with
    |true=>rfl
    |false=>exact ih _ q2
 rw[←key _ _ e];exact h
noncomputable def ll:Value→Option Addr
 | .ref a=>some a
 |_=>none
theorem vx(h:ll v=some a):v= .ref a:=by
 cases v<;>cases h
 rfl
theorem DF{qual:Str}{func:Option Addr}{code:Value}{L:Addr}{bv:List (Str×Value)}(ok:c.Ok)(st:aQ c ρ σ s.heap)(g:Gd c s.heap)
 (hk:scope.kind= .function) (hs:r9 scope.names=true) (r:Internal.Rk s.heap ρ binds bv)
 (x:InCallC s (newEnv scope L mainGlobals (cellsFrom (L+1) scope.names []) qual func code none builtinsNs).locals (bindL (newEnv scope L mainGlobals (cellsFrom (L+1) scope.names []) qual func code none builtinsNs).kindOf bv fun u_=>none)
  (newEnv scope L mainGlobals (cellsFrom (L+1) scope.names []) qual func code none builtinsNs).cells (bindC (newEnv scope L mainGlobals (cellsFrom (L+1) scope.names []) qual func code none builtinsNs).kindOf bv fun u_=>none) KH):
 ∃KS,af c ρ s KS σ KH∧L∈KS.p∧ba KH.heap KS (newEnv scope L mainGlobals (cellsFrom (L+1) scope.names []) qual func code none builtinsNs) ⟨scope.names,binds.reverse,[],ll code⟩:=by
 refine rh x.toInCall.same fun h' tk zz2=> ?_;subst zz2;have hn:h'.Ns L _:=x.toInCall.ns;have hfr:s.heap.objs.size≤L:=x.toInCall.fresh;have hz:s.heap.objs.size≤h'.objs.size:=HX hfr (Ib hn.lt)
 have S:af c ρ s ⟨ρ.r,L::((scope.names.filterMap fun y=>(cellsFrom (L+1) scope.names []).lookup y.1)++ρ.p)⟩ σ {s with heap:=h',toks:=tk}:=by
  refine ad.write ok st g (by exact G9 _) (fun b o u_ e=>x.toInCall.keep b o e) hz (fun a m=> ?_) (fun a m=>by simp[m])
  rcases GY.mp m with rfl|m
  ·exact .inr ⟨hfr,hn.lt⟩
  ·rcases GP.mp m with m|m
   ·refine aL (Hl.mp m) fun y u_ hy=> ?_;refine aL (x.cell y.1 a hy) fun o ho u_=> ?_;exact .inr ⟨HX hfr (Ib (x.above y.1 a (mem_of_lookup hy))),Ka ho⟩
   ·exact .inl m
 have rr:=(S.Rk r).reverse;refine⟨_,S,.head _,⟨hk,rfl,rfl,rfl,⟨_,hn,fun y hy=> ?_⟩,fun y hy=> ?_,fun y hy=> ?_,.head _,fun y z a h1 h2=> ?_,fun cc h=>vx h⟩⟩
 ·rw[wt hy,Option.or_none];exact(dJ rr).opt
 ·have hm:(y,Kh)∈scope.names:=mem_of_lookup hy;have h1:=GZ.mp hs _ hm
  have h2:((cellsFrom 0 scope.names []).lookup y).isSome=true:=by trivial
  refine oE (IF.mp (kY (n:=L+1) h2)) fun a ha=> ?_;refine⟨a,_,ha,x.cell y a ha,?_,?_⟩
  ·exact .tail _ (GP.mpr (.inl (Hl.mpr ⟨_,hm,ha⟩)))
  ·have hne:(newEnv scope L mainGlobals (cellsFrom (L+1) scope.names []) qual func code none builtinsNs).kindOf y≠some .local:=by
    show scope.names.lookup y≠_
    rw[show scope.names.lookup y=some .cell from hy];decide
   rw[u8 hne,Option.or_none];exact(dJ rr).opt
 ·have h1:=GZ.mp hs _ (mem_of_lookup hy:(y,Kg)∈scope.names);trivial
 ·exact name_of_addr x.apart (mem_of_lookup h1) (mem_of_lookup h2)
structure i8(F:List Addr)(e:Addr)(oe:Obj)(h h':Heap):Prop where
 size:h'.objs.size=h.objs.size+1
 keep: ∀b o,b≠e→b∉F→h.get? b=some o→h'.get? b=some o
 slots: ∀b o,b≠e→h.get? b=some o→ ∃sl,h'.get? b=some {o with slots:=sl}
 exc:h'.get? e=some (Ki (·.setIfInBounds 1 (.ref h.objs.size)) oe)
 tb: ∃oT ts,h'.get? h.objs.size=some oT∧oT.data= .fields ts∧ts[3]? =some .none
theorem iT{base:Heap}{L e:Addr}{oe:Obj}{vs:Array Value}{head:Value}{hadNext:Bool}{Q:Unit→Shared→Prop}
 (hfr:A.frames=some (env::outer)) (hl:s.heap.FunFrames base (env::outer)) (hf:env.frame=some L) (he:s.heap.get? e=some oe) (hd:oe.data= .fields vs) (hsz:1<vs.size)
 (h: ∀h',i8 ((env::outer).filterMap (·.frame)) e oe s.heap h'→Q () {s with heap:=h'}):
 II M A (do let a←frameOf env;let pl←entryPlaceOf L hadNext;let b←EntryCells.newEntry head a .none (rawInt L) .none pl;setField (.ref e) 1 b) (fun u_ s'=>II M A (setFlight (.ref e) none) Q E s') E s:=by
 have hene:e∉(env::outer).filterMap (·.frame):=fun hm=>by
  refine Dc (hl.mem hm) fun u_ o ho hnf=> ?_;rw[he]at ho;obtain rfl:=IH ho;exact hnf vs hd
 refine IJ (wpAny_frameOf_fun hfr hl hf fun KR Lu=> ?_);refine IJ (wpAny_entryPlaceOf fun pl hpl=> ?_);unfold EntryCells.newEntry newFields;refine IJ (IR ?_ (hpl.sizeOk5 _ _ _ _ _));have Mr:KR.get? e=some oe:=(Lu.2.1 e hene).trans he
 have Ms:=J_ (h:=KR) {cls:= .type "traceback",dict:=none,data:= .fields ([head,.ref L,.none,rawInt L,.none]++(if pl.isEmpty then GT 6 Ks else pl)).toArray} Mr
 refine I3 Ms hd hsz ?_;have hlt:e<KR.objs.size:=Ka Mr;have hTe:KR.objs.size≠e:=Ie hlt;have Mu:=Kl hd (·.setIfInBounds 1 (Kr KR.objs.size));have Mv:=Kb (Ki (·.setIfInBounds 1 (Kr KR.objs.size))) Ms (Km Mu)
 have Mw:=(Ke (KR.push {cls:= .type "traceback",dict:=none,data:= .fields ([head,.ref L,.none,rawInt L,.none]++(if pl.isEmpty then GT 6 Ks else pl)).toArray})
  (Ki (·.setIfInBounds 1 (Kr KR.objs.size))) (Ne.symm hTe)).trans (J9 KR rfl)
 unfold setFlight
 refine IJ (IN Mv Mu (x:= .ref KR.objs.size) (by exact Gh hsz) ?_)
 refine cV ((show(Kr KR.objs.size !=Ks)=true from by simp)) ?_
 refine I3 Mw rfl (by simp only[Hi,G6,G_,List.length_nil]<;>omega) (h _ ?_)
 have hz:KR.objs.size=s.heap.objs.size:=Lu.1;have keep: ∀b o,b≠e→KR.get? b=some o→
  (((KR.push {cls:= .type "traceback",dict:=none,data:= .fields ([head,.ref L,.none,rawInt L,.none]++(if pl.isEmpty then GT 6 Ks else pl)).toArray}).update e (Ki (·.setIfInBounds 1 (Kr KR.objs.size)))).update KR.objs.size
    (Ki (·.setIfInBounds 3 ((none:Option Addr).elim Ks fun f=>rawInt f)))).get? b=some o:=fun b o hbe hb=>by
  have hbT:KR.objs.size≠b:=Ie (Ka hb);rw[Ke _ _ hbT,Ke _ _ (Ne.symm hbe)];exact J_ _ hb
 refine⟨?_,fun b o hbe hbF hb=>keep b o hbe ((Lu.2.1 b hbF).trans hb),fun b o hbe hb=> ?_,?_,?_⟩
 ·rw[Kd,Kd,J',hz]
 ·refine oE (Lu.2.2 b o hb) fun sl hs=> ?_;exact⟨sl,keep b _ hbe hs⟩
 ·rw[Ke _ _ hTe,←hz];exact Mv
 ·have gT:=Kb (Ki (·.setIfInBounds 3 ((none:Option Addr).elim Ks fun f=>rawInt f))) Mw (Km (Kl rfl _));rw[←hz]
  exact⟨_,_,gT,Kl rfl _,by first|(rfl;done)|(rcases hpl with rfl|⟨_,_,_,_,_,_,_,rfl⟩<;>simp)⟩
theorem i8.step{l:List Env}{oa:Obj}{t:Nat}(ok:c.Ok)(st:aQ c ρ σ s.heap)(g:Gd c s.heap)(ff:FF c ρ s.heap l)(ap:a∈ρ.p)(x:i8 (l.filterMap (·.frame)) a oa s.heap h'):
 ad c [a] ρ s ⟨ρ.r,s.heap.objs.size::ρ.p⟩ σ {s with heap:=h',toks:=t}:=by
 have hz:s.heap.objs.size≤h'.objs.size:=by rw[x.size];exact H3 _
 have inF: ∀b∈l.filterMap (·.frame),c.n₀≤b∧ ∃o,s.heap.get? b=some o∧ ∃es ep,o.data= .dict es ep:=fun b m=>by
  refine aL (Hl.mp m) fun env me hf=> ?_;refine k_ (ff env me) fun u_ L o hf' u_ hn ho hd=> ?_;rw[hf]at hf';obtain rfl:=IH hf';exact⟨hn,o,ho,hd⟩
 have ex:eh c [a] s.heap h':=fun b o n e=>by
  have hb:b≠a:=fun q=>n (by simp[q])
  by_cases m:b∈l.filterMap (·.frame)
  ·refine Dc (inF b m) fun hn o' ho' hd=> ?_;rw[e]at ho';obtain rfl:=IH ho';refine oE (x.slots b o hb e) fun sl hs=> ?_;exact⟨_,hs,.inr (.inl ⟨hn,hd,sl,rfl⟩)⟩
  ·exact⟨o,x.keep b o hb m e,.refl b o⟩
 have lo: ∀b∈[a],c.n₀≤b:=by simpa using(st.plow a ap).1
 have old: ∀b o,b<c.n₀→s.heap.get? b=some o→h'.get? b=some o:=fun b o hb e=>x.keep b o (fun q=>absurd hb (H1.mpr (q▸(st.plow a ap).1))) (fun m=>absurd hb (H1.mpr (inF b m).1)) e
 refine⟨GW _,fun u_ m=> .inl m,fun b m=> ?_,fun b m=> .tail _ m,st.mono (P:=s.heap.objs.size::ρ.p) (Pl.Off.p (by simpa using ap)) ex (fun b m n=>st.disj a ap (by rw[GR.mp n]at m;exact m)) hz (fun b m=> ?_) g.size,
  ex.mono fun b m=>GP.mpr (.inl m),.heap hz,g.step ok lo ex (fun p hp=> ?_) hz⟩
 ·rcases GY.mp m with rfl|q
  ·exact .inr (HY _)
  ·exact .inl q
 ·rcases GY.mp m with rfl|q
  ·exact .inr ⟨HY _,by show s.heap.objs.size<h'.objs.size;rw[x.size];exact H0 _⟩
  ·exact .inl q
 ·exact(g.codes p hp).keep (fun o q=>old _ _ (ok.cold p hp).1 q) fun o q=>old _ _ (ok.told _ (ok.tcs p hp)) q
theorem i8.flew{F:List Addr}{oa:Obj}{vs:Array Value}{cls:String}(x:i8 F a oa h h')(hc:oa.cls= .type cls)(hd:oa.data= .fields vs)(hsz:1<vs.size)(lt:a<h.objs.size)(na:n≤a)(ap:a∈ρ.p):
 f9 h' ⟨ρ.r,h.objs.size::ρ.p⟩ n cls (.ref a):=by
 refine dC x.tb fun oT ts k1 k2 k3=> ?_
 refine⟨a,_,_,rfl,x.exc,(Kn ..).trans hc,Kl hd _,na,.tail _ ap,.inr ⟨h.objs.size,oT,ts,by exact Gh hsz,HX na (Ib lt),.head _,Ie lt,k1,k2,k3⟩⟩
theorem gA{cls:String}{e:Value}{Q:Unit→Shared→Prop}(ok:c.Ok)(st:aQ c ρ σ s.heap)(g:Gd c s.heap)(hfr:A.frames=some (env::outer))(hf:env.frame=some L)
 (ff:FF c ρ s.heap (env::outer)) (fl:f9 s.heap ρ n cls e)
 (h: ∀D KF s',(∀a∈D,a∈ρ.p∧n≤a∧ ∃o vs,s.heap.get? a=some o∧o.data= .fields vs)→ad c D ρ s KF σ s'→f9 s'.heap KF n cls e→Q () s'):II (model c.prog c.w) A (noteFrame e env) (fun u_ s'=>II (model c.prog c.w) A (setFlight e none) Q E s') E s:=by
 refine fV fl fun a oa vs zz3 ha hc hd na ap h1=> ?_;subst zz3;have hlt:a<s.heap.objs.size:=Ka ha;unfold noteFrame;simp only[hf]
 rcases h1 with h1|⟨T,oT,ts,h1,nT,Tp,hTa,hT,hdT,h3⟩
 ·refine IJ (IN ha hd h1 ?_)
  refine bV (by decide) ?_
  have hsz:1<vs.size:=(Gg.mp h1).1;refine iT hfr (ff.fun_ ok) hf ha hd hsz fun h' x=> ?_
  exact h [a] _ _ (by simp only[GR,forall_eq];exact⟨ap,na,oa,vs,ha,hd⟩) (x.step (t:=s.toks) ok st g ff ap) (x.flew hc hd hsz hlt na ap)
 ·refine IJ (IN ha hd h1 ?_)
  refine cV ((show(Kr T !=Ks)=true from by simp)) ?_
  refine IJ (IN hT hdT h3 ?_)
  refine bV ((show¬((Ks==rawInt L)=true)from by simp[rawInt])) ?_
  have hsz:1<vs.size:=(Gg.mp h1).1;refine IJ (I3 hT hdT (Gg.mp h3).1 ?_)
  have KG:ad c [T] ρ s ρ σ {s with heap:=s.heap.update T (Ki (·.setIfInBounds 3 Ks))}:=ad.same (t:=s.toks) ok st g Tp (Kf ..)
  have Mx:(s.heap.update T (Ki (·.setIfInBounds 3 Ks))).get? a=some oa:=(Ke _ _ hTa).trans ha
  have My:FF c ρ (s.heap.update T (Ki (·.setIfInBounds 3 Ks))) (env::outer):=ff.mono st KG fun b m o e ⟨es,ep,hd'⟩=>by
   rw[GR.mp m,hT]at e;obtain rfl:=IH e;rw[hdT]at hd';cases hd'
  refine iT (s:={s with heap:=s.heap.update T (Ki (·.setIfInBounds 3 Ks))}) hfr (My.fun_ ok) hf Mx hd hsz fun h' x=> ?_
  have KJ:=x.step (t:=s.toks) ok KG.sto KG.gd My ap
  refine h [T,a] _ _ (by simp only[GY,List.mem_nil_iff,or_false,forall_eq_or_imp,forall_eq];exact⟨⟨Tp,nT,oT,ts,hT,hdT⟩,ap,na,oa,vs,ha,hd⟩) ((KG.wider (by exact HG ..)).trans (KJ.wider (by simp))) (x.flew hc hd hsz ?_ na ap)
  exact Ka Mx
theorem oN{cls:String}{e:Value}{Q:Unit→Shared→Prop}(ok:c.Ok)(st:aQ c ρ σ s.heap)(g:Gd c s.heap)(hfr:A.frames=some (env::outer))(hf:env.frame=some L)
 (ff:FF c ρ s.heap (env::outer)) (fl:f9 s.heap ρ n cls e)
 (h: ∀D KF s',(∀a∈D,a∈ρ.p∧n≤a∧ ∃o vs,s.heap.get? a=some o∧o.data= .fields vs)→ad c D ρ s KF σ s'→f9 s'.heap KF n cls e→Q () s'):II (model c.prog c.w) A (leaving env e) Q E s:=by
 unfold leaving;exact IJ (gA ok st g hfr hf ff fl h)
noncomputable def lY(K:Frag)(a:Addr):Option FuncData:=(K.lookup a).bind fun o=>(Ax o.data).map (·.1)
theorem x6(h:lY K a=some fd): ∃o,K.lookup a=some o∧o.data= .func fd:=ae h fun o ho h=>aN h fun f u_ q=>⟨o,ho,q▸f.2⟩
noncomputable def xe(K:Frag)(fd:FuncData):Bool:=(kD fd.code).any fun cc=>(K.lookup cc).any fun o=>(xW o.data).any fun vs=>(vs.1[1]?).any fun v=>(E2 v).any fun q=>q.1.1==fd.qualname
theorem tZ(X:K.In h)(e:xe K fd=true):h.CodeRec fd.code fd.qualname:=
 jI e fun cc hc e=>jI e fun o ho e=>jI e fun vs u_ e=>jI e fun v hv e=>jI e fun q u_ e=>⟨cc,o,vs.1,q.1.2,iY hc,X _ _ ho,vs.2,hv.trans (congrArg some (q.2.trans (congrArg (fun x=>Value.str x q.1.2) (GN e))))⟩
noncomputable def xM(v:Value):V:= @Value.casesOn (fun u_=>V) v (.val .none) (.val .ellipsis) (.val .notImplemented) (fun b=> .val (.bool b)) (fun i u_=> .int i) (fun a b=> .val (.float a b)) (fun x u_=> .str x) (fun a b=> .val (.bytes a b)) (fun a=> .val (.type a)) (fun a=> .val (.builtin a)) (fun a=> .val (.ref a))
theorem DO(v:Value):R h ρ (xM v) v:=by cases v<;>first|exact .int|exact .str|exact .val
theorem Ei: ∀l:List Value,Rs h ρ (l.map xM) l
 |[]=> .nil
 |v::l=> .cons (DO v) (Ei l)
noncomputable def jX(K:Frag)(fd:FuncData):Option (List Value):=if lZ fd.defaults=true then some []else(kD fd.defaults).bind fun t=>(K.lookup t).bind fun o=>(Fk o.data).map fun p=>p.1.1.toList
noncomputable def kH(K:Frag)(fd:FuncData):Bool:=
 fd.params.posonlyargs.isEmpty&&fd.params.kwonlyargs.isEmpty&&fd.params.vararg.isNone&&fd.params.kwarg.isNone&&fd.closure.isEmpty&&fd.globals==mainGlobals&&fd.builtins==builtinsNs&&fd.scope.kind== .function&& !fd.scope.isCoroutine&& !fd.scope.isGenerator&&r9 fd.scope.names&&xe K fd
noncomputable def hZ(names:List (Str×NameKind))(binds:List (Str×V)):Bool:=binds.all fun b=>names.lookup b.1==some .local||names.lookup b.1==some .cell
noncomputable def flV:Fl→Option V
 | .ret v=>some v
 | .next=>some .none
 | .brk=>none
 | .cont=>none
noncomputable def il:aM→Option (aG V)
 | .ok f _ σ=>(flV f).map fun v=> .ok v σ
 | .exc cls _ σ=>some (.exc cls σ)
variable (c)in
noncomputable def w9(exs:eC):cb:=fun σ a xs ks=>(lY c.K a).bind fun fd=>if kH c.K fd=true then(xJ fd.body).bind fun body=>(jX c.K fd).bind fun ds=>(eW (fd.params.args.map (·.arg)) xs ks (ds.map xM)).bind fun binds=>
 if hZ fd.scope.names binds=true then(exs ⟨fd.scope.names,binds.reverse,[],ll fd.code⟩ σ body).bind il else none
 else none
theorem uY{ds:List Value}(X:c.K.In s.heap)(h:jX c.K fd=some ds){Q:Option (Array Value)→Shared→Prop}(q: ∀r:Option (Array Value),(r.getD #[]).toList=ds→Q r s):
 II M A (seqItems? fd.defaults) Q E s:=by
 refine eZ h (fun hn h=> ?_) fun u_ h=>ae h fun a ha h=>ae h fun o ho h=>aN h fun p u_ h=> ?_
 ·obtain rfl:=IH h;rw[iC hn];exact IK (q none rfl)
 ·rw[iY ha];exact I0 (X _ _ ho) p.2 (q (some p.1.1) h)
theorem Rk.keys{l:List (Str×V)}{v:List (Str×Value)}(r:Rk h ρ l v):v.map (·.1)=l.map (·.1):=Rk.rec (motive:=fun l v u_=>v.map (·.1)=l.map (·.1)) rfl (fun u_ u_ ih=>congrArg (_:: ·) ih) r
theorem uI{exs:eC}(he:gi c d exs):dF c (d+1) (w9 c exs):=by
 intro A ρ σ s a xs ks vs kv o e ok st g room rx rk;refine ae e fun fd hfn KM=>bI KM fun hp K2=>ae K2 fun body hbody Lz=>ae Lz fun ds hds LP=>ae LP fun binds hb LU=>bI LU fun hbo LV=>ae LV fun so hso ho=> ?_;clear e KM K2 Lz LP LU LV;simp only[kH,Gj,Hv,Option.isNone_iff_eq_none,beq_iff_eq,Gr]at hp;refine dw fun kk=> ?_;obtain⟨⟨⟨⟨⟨⟨⟨⟨⟨⟨⟨p1,p2⟩,p3⟩,p4⟩,p5⟩,p6⟩,p7⟩,p8⟩,p9⟩,p10⟩,p11⟩,p12⟩:=hp<;>(refine kk ?_;clear kk)
 refine dw fun kk=> ?_;refine aL (x6 hfn) fun fo hfo hfd=> ?_<;>(refine kk ?_;clear kk)
 refine dw fun kk=> ?_;refine aL (s9 rx rk (Ei ds) hb) fun bv hbv rb=> ?_<;>(refine kk ?_;clear kk)
 have hbind:BindsTo s fd ⟨vs,kv⟩ bv:=yl p1 p2 p3 p4 (fun q=>uY g.kin hds q) hbv
 have hkind: ∀x∈bv,fd.scope.names.lookup x.1=some .local∨(fd.scope.names.lookup x.1=some .cell∧((cellsFrom (s.heap.objs.size+1) fd.scope.names []).lookup x.1).isSome=true):=by
  intro x hx
  have hx':x.1∈binds.map (·.1):=by rw[←rb.keys];exact List.mem_map_of_mem hx
  refine dw fun kk=> ?_;refine aL (G2.mp hx') fun b hbm hbe=> ?_<;>(refine kk ?_;clear kk)
  have:=GZ.mp hbo b hbm;rw[hbe]at this;refine dw fun kk=> ?_
  rcases Gl.mp this with q|q<;>(refine kk ?_;clear kk)
  ·exact .inl (by simpa using q)
  ·as_aux_lemma=>
    have q:fd.scope.names.lookup x.1=some .cell:=by simpa using q
    refine .inr ⟨q,kY ?_⟩;have h1:=GZ.mp p11 _ (mem_of_lookup q);trivial
 refine codeAny_call_function (by have:=room.depth;exact rmz ‹_›) (g.kin _ _ hfo) hfd p9 p10 (zE hbody) (tZ g.kin p12) (hbind _ _ _ _ ?_)
 rw[p5,p6,p7]
 change let E0:=_;II _ _ _ _ E0 _;intros
 refine wpAny_newFunctionEnv_cells p8 hkind fun E hE KH x=> ?_
 have en1: ∃KS,af c ρ s KS σ KH∧s.heap.objs.size∈KS.p∧ba KH.heap KS E ⟨fd.scope.names,binds.reverse,[],ll fd.code⟩∧E.locals=s.heap.objs.size∧E.frame=some s.heap.objs.size∧ ∀b∈mR E,b∈([]:List Addr)∨s.heap.objs.size≤b:=by
  subst hE;refine bW (DF ok st g p8 p11 rb x) fun KS S hL er=>⟨KS,S,hL,er,rfl,rfl,fun b m=> .inr ?_⟩
  rcases GY.mp m with rfl|m
  ·exact HY _
  ·refine aL (Hl.mp m) fun y u_ hy=> ?_;refine oA (iz hy) fun hcc hy=> ?_;exact Ib (x.above y.1 b (mem_of_lookup hy))
 refine bW en1 fun KS S hL KR=>uq KR fun er hloc hfrm own=> ?_;clear en1 KR;refine⟨S.gd.lim,codeAny_func ?_⟩;have MF:eg c KS A (d+1) KH.heap:=S.room st room;refine aL MF.frames fun outer' hfr' hff'=> ?_
 have hff2:FF c KS KH.heap (E::outer'):=by
  intro env m
  rcases GY.mp m with rfl|m
  ·refine aL er.lo fun mm La u_=>iJ La fun o' es ep ho' hd' u_=> ?_
   exact⟨by rw[er.kind];decide,_,o',hfrm,hL,(S.sto.plow _ hL).1,hloc▸ho',es,ep,hd'⟩
  ·exact hff' env m
 have at₁:At c (A.deeper E) _ ⟨fd.scope.names,binds.reverse,[],ll fd.code⟩ KS σ KH d:=
  ⟨ok,S.sto,S.gd,er,⟨room.hand,by have:=room.depth;show A.depth+1+d<_;exact FI ‹_›,by have:=room.units;rw[Around.deeper_units];exact rux ‹_›,⟨_,Jr hfr',hff2⟩⟩⟩
 refine IM (he hso at₁ ⟨_,Jr hfr'⟩) (fun f s' p=> ?_) fun e' s' p=> ?_
 ·cases so with
  |exc=>exact p.elim
  |ok fl en' KD=>
   refine aN ho fun v hv w=> ?_;subst w;refine bW p fun KF T er' r=> ?_;have TT:=ad.trans' S T.st own
   cases r with
   |next=>obtain rfl:=IH hv;exact⟨KF,TT,.val⟩
   |brk=>exact no hv
   |cont=>exact no hv
   |ret r=>obtain rfl:=IH hv;exact⟨KF,TT,r⟩
 ·cases so with
  |ok=>exact p.elim
  |exc cls en' KD=>
   obtain rfl:=IH ho;refine bW p fun KF T er' fl=> ?_;have TT:=ad.trans' S T.st own;refine oN (n:=s.heap.objs.size) ok T.st.sto T.st.gd (Jr hfr') hfrm (hff2.mono S.sto T.st T.fo) (fl.mono S.rest.hsize) fun D Lh s'' hD U fl'=> ?_;exact⟨Lh,ad.trans' TT U (fun b m=> .inr (hD b m).2.1),fl'⟩
noncomputable def cq(e:Expr):Bool:= !((8).ble e.ctorIdx&&e.ctorIdx.ble 10)
theorem p_{t:Option Expr}(h:cq e=true):swapsWith e t n env=pure false:=by
 cases e<;>first|rfl|exact bM h
noncomputable def bH(en:En)(x:Str):Bool:=en.names.lookup x==some .local||en.names.lookup x==some .cell
theorem cR{x:Str}(h:bH en x=true):en.names.lookup x=some .local∨en.names.lookup x=some .cell:=by
 rcases Gl.mp h with q|q
 ·exact .inl (by simpa using q)
 ·exact .inr (by simpa using q)
theorem vA(a:At c A env en ρ σ s d):eE c A (exec (.Pass pos) env) env ρ s (.ok .next en σ):=wpAny_Pass ⟨ρ,(af.refl a.st a.gd).toS a.st a.er,a.er,.next⟩
theorem th(a:At c A env en ρ σ s d):eE c A (exec (.Break pos) env) env ρ s (.ok .brk en σ):=wpAny_Break ⟨ρ,(af.refl a.st a.gd).toS a.st a.er,a.er,.brk⟩
theorem oQ(a:At c A env en ρ σ s d):eE c A (exec (.Continue pos) env) env ρ s (.ok .cont en σ):=wpAny_Continue ⟨ρ,(af.refl a.st a.gd).toS a.st a.er,a.er,.cont⟩
theorem kC(a:At c A env en ρ σ s d):eE c A (exec (.Return none pos) env) env ρ s (.ok (.ret .none) en σ):=wpAny_Return_none ⟨ρ,(af.refl a.st a.gd).toS a.st a.er,a.er,.ret .val⟩
noncomputable def w8(op:Operator)(a b:Int):Option Int:= @Operator.casesOn (fun u_=>Option Int) op (some (a+b)) (some (a-b)) (if bG a&&bG b then some (a*b)else none) none none none none none none none none none none
theorem t8{a b i:Int}{t:Tok}(st:aQ c ρ σ s.heap)(g:Gd c s.heap)(e:w8 op a b=some i):bn c A (inplaceOp op (.int a t) (.int b u)) ρ s (.ok (.int i) σ):=by
 have fin: ∀i',i'=i→ ∃KF,af c ρ s KF σ {s with toks:=s.toks+1}∧R s.heap KF (.int i) (.int i' s.toks):=fun i' q=>⟨ρ,.toks st g,q▸ .int⟩
 cases op with
 |Add=>obtain rfl:=IH e;exact PyProof.Rows.iadd_int (fin _ rfl)
 |Sub=>obtain rfl:=IH e;exact PyProof.Rows.isub_int (fin _ rfl)
 |Mult=>
  refine bI e fun h e=> ?_;obtain rfl:=IH e;simp only[bG,Gj,decide_eq_true_eq]at h;refine PyProof.Rows.imul_int (fin _ rfl) ?_;unfold IntMulOk;have:=ma h.1;simp[shortFactorBits];omega
 |_=>exact no e
theorem pu{x:Str}(st:aQ c ρ σ s.heap)(g:Gd c s.heap)(er:ba s.heap ρ env en)(hx:bH en x=true)(e:en.own.lookup x=some y):bn c A (loadName env x) ρ s (.ok y σ):=by
 have hk:env.kindOf x=en.names.lookup x:=by rw[←er.names];rfl
 rcases cR hx with hl|hl
 ·refine aL er.lo fun m hn hm=> ?_;have:=hm x hl;rw[e]at this;generalize hq:m x=q at this
  cases this with
  |so r=>exact wpAny_loadName_local er.kind (hk.trans hl) hn hq ⟨ρ,.refl st g,r⟩
 ·refine bU (er.ce x hl) fun a w h1 h2 u_ h3=> ?_;rw[e]at h3
  cases h3 with
  |so r=>exact wpAny_loadName_cell er.kind (hk.trans hl) h1 h2 ⟨ρ,.refl st g,r⟩
theorem qD{x:Str}{p:Pos}{o:aM}{i:Int}(hf:bF c d f)(hx:bH en x=true)(hi:en.own.lookup x=some (.int i))
 (h:bQ en (f en σ e) (fun y KD=>match y with| .int j=>(w8 op i j).map fun k=> .ok .next (en.set x (.int k)) KD|_=>none)=some o) (a:At c A env en ρ σ s d):eE c A (exec (.AugAssign (.Name x p) op e pos) env) env ρ s o:=by
 refine wpAny_AugAssign_Name (au.go (pu (A:=A) a.st a.gd a.er hx hi) (fun y Ld q L3 KP KY K4 K8=> ?_) (fun u_ u_ q=>by exact iQ q))
 refine jF q fun zz1 zz2=> ?_;subst zz1;subst zz2;have Lr:=a.step K4;refine au.thenS Lr (K4.toS a.st a.er) h (fun o' q=>hf q Lr) fun y KE v KH KS KG KT KO KM Lf=> ?_
 split at KM
 ·refine aL (IE.mp KM) fun k hk zz2=> ?_;subst zz2;obtain⟨_,rfl⟩:=K8.intQ;obtain⟨_,rfl⟩:=KO.intQ
  refine au.go (t8 (A:=A) KT.st KT.gd hk) (fun z KI q w KL KZ KJ Lb=> ?_) (fun u_ u_ q=>by exact iQ q)
  refine jF q fun zz1 zz2=> ?_;subst zz1;subst zz2;have K9:=KT.step KJ;exact dL K9 (cR hx) Lb fun s' S' er'=>⟨KZ,(KG.trans (KJ.toS KT.st KT.er)).trans S',er',.next⟩
 ·exact no KM
end
theorem jB{p:Pos}{t:Sem Fin}{fs:List Frame}{e:End}(h:Runs M Γ p t fs s e s'):s.heap.objs.size≤s'.heap.objs.size:=by
 induction h<;>(try simp only[Shared.setGen,J',Kd]at*)<;>omega
theorem oq{p:Pos}{r:Result}(h:Returns M Γ p s r s'):s.heap.objs.size≤s'.heap.objs.size:=jB h
theorem rK{p:Pos}{g:Nat}{r:Resume}{res:GenResult}(h:Wakes M Γ p g r s res s'):s.heap.objs.size≤s'.heap.objs.size:=by
 unfold Wakes at h
 split at h
 ·exact h.elim
 ·split at h
  ·refine bU h fun KM KH hr u_ u_ zz5=> ?_;subst zz5;exact(jB hr:(s.setGen g .running).heap.objs.size≤KH.heap.objs.size)
  ·rw[h.2];exact HY _
  ·rw[h.2];exact HY _
 ·refine bU h fun KM KH hr u_ u_ zz5=> ?_;subst zz5;exact(jB hr:(s.setGen g .running).heap.objs.size≤KH.heap.objs.size)
 ·rw[h.2];exact HY _
 ·rw[h.2];exact HY _
theorem zF(M:Model)(Γ:Ctx)(n:Nat)(t:Sem α): ∀(Q:α→Pos→Shared→Prop) (E:Value→Pos→Shared→Prop) (p:Pos) (s:Shared),n≤s.heap.objs.size→Sem.wp M Γ t Q E p s→
 Sem.wp M Γ t (fun a p' s'=>n≤s'.heap.objs.size∧Q a p' s') (fun e p' s'=>n≤s'.heap.objs.size∧E e p' s') p s:=by
 induction t with
 |pure a=>intro Q E p s hn h;exact⟨hn,h⟩
 |raise e=>intro Q E p s hn h;exact⟨hn,h⟩
 |unsupported _=>intro Q E p s _ h;exact h
 |finish _=>intro Q E p s _ h;exact h
 |rule _ k ih=>intro Q E p s hn h;exact ih () Q E p s hn h
 |«at» p' k ih=>intro Q E p s hn h;exact ih () Q E p' s hn h
 |load a _ k ih=>intro Q E p s hn h;refine aL h fun o ho h=> ?_;exact⟨o,ho,ih o Q E p s hn h⟩
 |update a _ f k ih=>intro Q E p s hn h;exact⟨h.1,ih () Q E p _ (by show n≤(s.heap.update a f).objs.size;rw[Kd];exact hn) h.2⟩
 |loadIfAlive a k ih=>intro Q E p s hn h;exact ih _ Q E p s hn h
 |point _ k ih=>intro Q E p s hn h;exact ih () Q E p s hn h
 |register _ _=>intro Q E p s _ h;exact h
 |alloc o k ih=>intro Q E p s hn h;exact ih _ Q E p _ (by show n≤(s.heap.push o).objs.size;rw[J'];exact Ia hn) h
 |fresh k ih=>intro Q E p s hn h;exact ih _ Q E p _ hn h
 |ask k ih=>intro Q E p s hn h;exact ih _ Q E p s hn h
 |choose src m k ih=>intro Q E p s hn h;exact⟨h.1,ih _ Q E p _ hn h.2⟩
 |os q _ k ih=>intro Q E p s hn h;exact ih _ Q E p _ hn h
 |call c hd _ _ k ih=>intro Q E p s hn h;refine bc h fun r s' hr h=> ?_;exact⟨r,s',hr,ih r Q E p s' (HX hn (oq hr)) h⟩
 |handled own k ih=>intro Q E p s hn h;exact ih _ Q E p s hn h
 |genState g k ih=>intro Q E p s hn h;refine aL h fun st hs h=> ?_;exact⟨st,hs,ih _ Q E p s hn h⟩
 |newGen c k ih=>intro Q E p s hn h;exact ih _ Q E p _ hn h
 |resume g r _ k ih=>intro Q E p s hn h;refine bc h fun res s' hw h=> ?_;exact⟨res,s',hw,ih res Q E p s' (HX hn (rK hw)) h⟩
 |yield _ _ _ _=>intro Q E p s _ h;exact h
 |stack k ih=>intro Q E p s hn h;exact ih _ Q E p s hn h
 |fork _ _=>intro Q E p s _ h;exact h
 |thread k ih=>intro Q E p s hn h;exact ih _ Q E p s hn h
 |await _ _ _ _ _=>intro Q E p s _ h;exact h
theorem bw{t:Sem α}{Q:α→Shared→Prop}
 (h:II M A t (fun a s'=>s.heap.objs.size≤s'.heap.objs.size→Q a s') (fun e s'=>s.heap.objs.size≤s'.heap.objs.size→E e s') s):II M A t Q E s:=
 IM (Q:=fun a s'=>s.heap.objs.size≤s'.heap.objs.size∧(s.heap.objs.size≤s'.heap.objs.size→Q a s')) (E:=fun a s'=>s.heap.objs.size≤s'.heap.objs.size∧(s.heap.objs.size≤s'.heap.objs.size→E a s'))
  (fun Γ p hΓ=>zF M Γ _ t _ _ p s (HY _) (h Γ p hΓ)) (fun u_ u_ x=>x.2 x.1) (fun u_ u_ x=>x.2 x.1)
section
variable {env:Env}{d:Nat}
noncomputable def bK(K:Frag)(f:Value):Bool:=(kD f).elim (f.ctorIdx.beq 8||f.ctorIdx.beq 9) fun a=>(K.lookup a).any fun o=>(Ax o.data).isSome||((FC o.data).isSome&&specialIn K (.ref a) "__call__"==some (some (.builtin "type.__call__")))
theorem qW{f:Value}{Q:Keeper→Shared→Prop}(X:K.In s.heap)(h:bK K f=true)(q: ∀k,k=Keeper.frame∨k=Keeper.machine→Q k s):II M A (keeperOf f) Q E s:=by
 cases f with
 |ref a=>
  refine jI h fun o ho h=> ?_;refine IJ (wpAny_load (X _ _ ho) ?_)
  rcases Gl.mp h with h|h
  ·refine oE (IF.mp h) fun f u_=> ?_;rw[f.2];exact IK (q _ (.inl rfl))
  ·have h:=Gi.mp h;refine oE (IF.mp h.1) fun f u_=> ?_;rw[f.2];refine IJ ((looks_specialIn X (GN h.2)).here ?_)
   rw[if_pos (by simp)]
   exact IK (q _ (.inr rfl))
 |type T=>exact IK (q _ (.inr rfl))
 |builtin T=>exact IK (q _ (.inr rfl))
 |_=>exact bM h
theorem jn{f:Value}{args:List (Bool×Sem Value)}{Q:Args→Shared→Prop}(hn:args.any (·.1)=false)(hk:keywords.all (·.1.isSome)=true)
 (h:II M A (spliced args) (fun vs KH=>II M A (evalAll (keywords.map (·.2))) (fun ks KL=>Q ⟨vs,(keywords.filterMap (·.1)).zip ks⟩ KL) E KH) E s):II M A (evalArgs f true args keywords) Q E s:=by
 have key:II M A (spliced args>>=fun vs=>holding vs (do let ks←evalAll (keywords.map (·.2));pure (⟨vs,(keywords.filterMap (·.1)).zip ks⟩:Args))) Q E s:=
  IJ (IM h (fun vs KH KR=>IO (IJ (IM KR (fun ks KL La=>IK La) fun u_ u_ e=>e))) fun u_ u_ e=>e)
 cases args with
 |nil=>
  unfold evalArgs;show II M A (spliced []>>=_) Q E s
  and_intros
  refine IJ (IM h (fun vs KH KR=> ?_) fun u_ u_ e=>e)
  and_intros
  refine IJ (IK ?_);refine IO ?_;simp only[hk,if_true]
  and_intros
  refine IJ (IM KR (fun ks KL La=> ?_) fun u_ u_ x=>x);exact IJ (IK (IK La))
 |cons p rest=>
  obtain⟨b,x⟩:=p
  have hb:b=false:=by
   simp only[Hu,Bool.or_eq_false_iff]at hn;exact hn.1
  subst hb;exact PySem.evalArgs_kw hk h
theorem pd(hk:keywords.all (·.1.isSome)=true):keywords.any (·.1.isNone)=false:=by
 rw[Hw];intro x hx;have:=GZ.mp hk x hx
 cases q:x.1 with
 |none=>rw[q]at this;exact bM this
 |some _=>exact Gk
theorem i0{f:Value}{first:List Value}{args:List (Bool×Sem Value)}
 (hn:args.any (·.1)=false) (hk:keywords.all (·.1.isSome)=true) (hc:bK K f=true)
 (h:II M A (spliced args) (fun vs KH=>II M A (evalAll (keywords.map (·.2))) (fun ks KL=>K.In KL.heap∧II M A (call f (first++vs) ((keywords.filterMap (·.1)).zip ks)) Q E KL) E KH) E s):
 II M A (callWith pos f first args keywords) Q E s:=by
 unfold callWith
 and_intros
 refine IJ (IO (jn hn hk (IM h (fun vs KH KR=>IM KR (fun ks KL La=>IJ (IW ?_)) fun u_ u_ x=>x) fun u_ u_ x=>x)));refine oA La fun X La=> ?_;have tail: ∀{t:Sem Value},II M A t Q E KL→II M A (t>>=fun r=>holding [r] point>>=fun u_=>pure r) Q E KL:=
  fun ht=>IJ (IM ht (fun r KL hr=>IJ (IO (wpAny_point (IK hr)))) fun u_ u_ x=>x)
 rw[show(args.any (·.1)||keywords.any (·.1.isNone))=false from by rw[hn,pd hk];rfl]
 refine IJ (qW X hc fun k hk'=> ?_)
 rcases hk' with rfl|rfl
 ·by_cases q:args.length+2*keywords.length>30
  ·exact cV q (tail La)
  ·exact bV q (tail (by unfold callMarked;exact Calls.wpAny_keep La))
 ·exact tail La
noncomputable abbrev Cy(n:Nat)(h:Heap)(ρ:Pl)(x:IV)(v:Value):Prop:= ∃I,nS h ρ x I v∧ ∀a∈I,n≤a
noncomputable abbrev FB(n:Nat)(h:Heap)(ρ:Pl)(xs:List IV)(vs:List Value):Prop:= ∃I,cQ h ρ xs I vs∧ ∀a∈I,n≤a
noncomputable abbrev iR:=En→Sg→Expr→Option (aG IV)
variable (c)in
noncomputable def ic(d:Nat)(f:iR):Prop:= ∀{A:Around} {env:Env} {en:En} {ρ:Pl} {σ:Sg} {s:Shared} {e:Expr} {o:aG IV},f en σ e=some o→At c A env en ρ σ s d→au c (Cy s.heap.objs.size) A (eval e env) ρ s o
noncomputable def dZ(f:iR)(en:En):Sg→List Expr→Option (aG (List IV))
 |σ,[]=>some (.ok [] σ)
 |σ,e::es=>if dg e=true then none else aw (f en σ e) fun x KE=>aw (dZ f en KE es) fun xs KI=>some (.ok (x::xs) KI)
theorem wh{f:iR}(hf:ic c d f): ∀{σ:Sg} {ρ:Pl} {s:Shared} {o:aG (List IV)},dZ f en σ es=some o→At c A env en ρ σ s d→
 au c (FB s.heap.objs.size) A (spliced (backTo pos (starEach es env))) ρ s o:=by
 induction es with
 |nil=>
  intro σ ρ s o e a;obtain rfl:=Al e;exact Jh (b9.now (.refl a.st a.gd) ⟨[],.nil,fun u_ m=>nomatch m⟩)
 |cons x es ih=>
  intro σ ρ s o e a
  refine oA (sN (show(if dg x=true then none else _)=some o from e)) fun hns e=> ?_
  refine Jd (au.then (.refl a.st a.gd) e (fun o' h=>hf h a) fun y KE v KH KS KG KO KM u_=>au.then KG KM (fun o' h=>ih h (a.step KG)) fun ys KI vs KL KZ KJ Lb K2 Lp=> ?_) (gg (og hns))
  obtain rfl:=IH K2;refine aL KO fun I KO LL=> ?_;refine aL Lb fun J Lb LT=> ?_;refine b9.now KJ ⟨I++J,.cons (Lp.ivr KG.sto KO) Lb fun z m q=> ?_,fun z m=>(GP.mp m).elim (LL z) fun q=>HX KG.rest.hsize (LT z q)⟩;exact absurd (KG.sto.plow z (KO.priv z m)).2 (H1.mpr (LT z q))
theorem fW:(∀x p,Expr.Starred x p∉es)→(backTo pos (starEach es env)).any (·.1)=false:=by
 induction es with
 |nil=>exact fun u_=>rfl
 |cons e es ih=>
  intro h
  have h1: ∀x p,e≠ .Starred x p:=fun x p q=>h x p (by rw[q];exact .head _)
  rw[gg h1];show(false||(backTo pos (starEach es env)).any (·.1))=false;rw[ih fun x p m=>h x p (.tail _ m)];rfl
noncomputable def ue(f:fP)(en:En):Sg→List Keyword→Option (aG (List (Str×V)))
 |σ,[]=>some (.ok [] σ)
 |σ,k::ks=>k.arg.bind fun n=>aw (f en σ k.value) fun x KE=>aw (ue f en KE ks) fun xs KI=>some (.ok ((n,x)::xs) KI)
theorem uP(hf:bF c d f){ks:List Keyword}: ∀{σ:Sg} {ρ:Pl} {s:Shared} {o:aG (List (Str×V))},ue f en σ ks=some o→At c A env en ρ σ s d→
 au c (fun h KF xs vs=>Rk h KF xs (((backToKw pos (keywordEach ks env)).filterMap (·.1)).zip vs)) A (evalAll ((backToKw pos (keywordEach ks env)).map (·.2))) ρ s o:=by
 induction ks with
 |nil=>
  intro σ ρ s o e a;obtain rfl:=IH e;exact kws_nil (b9.now (.refl a.st a.gd) .nil)
 |cons k ks ih=>
  intro σ ρ s o e a;obtain⟨n,x,p⟩:=k
  cases n with
  |none=>exact no e
  |some n=>
  refine kws_cons (au.then (.refl a.st a.gd) e (fun o' h=>hf h a) fun y KE v KH KS KG KO KM u_=>au.then KG KM (fun o' h=>ih h (a.step KG)) fun ys KI vs KL KZ KJ Lb K2 Lp=> ?_)
  obtain rfl:=IH K2;exact b9.now KJ (.cons (Lp.R KO) Lb)
noncomputable def ii:List Keyword→Bool:=fun ks=>ks.all fun|⟨n,_,_⟩=>n.isSome
theorem ph{ks:List Keyword}:ii ks=true→(backToKw pos (keywordEach ks env)).all (·.1.isSome)=true:=by
 induction ks with
 |nil=>exact fun u_=>rfl
 |cons k ks ih=>
  obtain⟨n,v,p⟩:=k;intro h
  replace h:=Gi.mp (show(n.isSome&&ii ks)=true from h)
  exact Gi.mpr ⟨h.1,ih h.2⟩
variable (c)in
noncomputable def qr(D:List Addr)(rel:Heap→Pl→α→β→Prop)(ρ:Pl)(s:Shared)(o:aG α):β→Shared→Prop:=fun v s'=>match o with
 | .ok x KD=> ∃KF,ad c D ρ s KF KD s'∧rel s'.heap KF x v
 | .exc .. =>False
variable (c)in
noncomputable def jz(D:List Addr)(ρ:Pl)(s:Shared)(o:aG α):Value→Shared→Prop:=fun e s'=>match o with
 | .exc cls KD=> ∃KF,ad c D ρ s KF KD s'∧f9 s'.heap KF s.heap.objs.size cls e
 | .ok .. =>False
theorem cH.toD{D:List Addr}{o:aG α}(h:cH c ρ s o v s'):jz c D ρ s o v s':=by
 cases o with
 |exc x KD=>refine aL h fun KF S r=> ?_;exact⟨KF,S.D,r⟩
 |ok=>exact h
noncomputable abbrev mE:=Sg→Value→List IV→List (Str×V)→Option (aG IV)
variable (c)in
noncomputable def zq(d:Nat)(f:mE):Prop:= ∀{A:Around} {ρ:Pl} {σ:Sg} {s:Shared} {fv:Value} {xs:List IV} {ks:List (Str×V)} {I:List Addr} {vs:List Value} {kv:List (Str×Value)} {o:aG IV},f σ fv xs ks=some o→
 c.Ok→aQ c ρ σ s.heap→Gd c s.heap→eg c ρ A d s.heap→cQ s.heap ρ xs I vs→Rk s.heap ρ ks kv→
  II (model c.prog c.w) A (call fv vs kv) (qr c I (fun h KF x v=> ∃J,nS h KF x J v∧ ∀a∈J,a∈I∨s.heap.objs.size≤a) ρ s o) (jz c I ρ s o) s
theorem cQ.append_v{xs:List IV}(r:Rs h ρ l vs)(q:cQ h ρ xs I ws):cQ h ρ (l.map IV.v++xs) I (vs++ws):=
 Rs.ind (Q:=fun l vs=>cQ h ρ (l.map IV.v++xs) I (vs++ws)) q (fun r u_ ih=> .cons (I:=[]) (.v r) ih bZ) r
variable (c)in
noncomputable def fh(iv:iR)(f:fP)(cv:mE)(en:En)(σ:Sg)(fv:Value)(first:List V)(args:List Expr)(kws:List Keyword):Option (aG IV):=
 if al args&&ii kws&&bK c.K fv then aw (dZ iv en σ args) fun xs KE=>aw (ue f en KE kws) fun ks KI=>cv KI fv (first.map .v++xs) ks
 else none
set_option tactic.hygienic true in
theorem lr{iv:iR}{f:fP}{cv:mE}{fv:Value}{first:List V}{fvs:List Value}{args:List Expr}{kws:List Keyword}{pos:Pos}{o:aG IV}(hi:ic c d iv)(hf:bF c d f)(hc:zq c d cv)
 (e:fh c iv f cv en σ fv first args kws=some o) (a:At c A env en ρ σ s d) (r:Rs s.heap ρ first fvs):
 au c (Cy s.heap.objs.size) A (callWith pos fv fvs (backTo pos (starEach args env)) (backToKw pos (keywordEach kws env))) ρ s o:=by
 unfold fh at e
 split at e
 ·rename_i hp;simp only[Gj]at hp;obtain⟨⟨h1,h2⟩,h3⟩:=hp
  refine i0 (K:=c.K) (fW (eJ h1)) (ph h2) h3 (au.then (.refl a.st a.gd) e (fun o' h=>wh hi h a) fun xs KE vs KH KS KG KO KM _=>au.then KG KM (fun o' h=>uP hf h (a.step KG)) fun ks KI kv KL KZ KJ Lb K2 Lp=> ?_)
  refine aL KO fun I KO LL=> ?_;have K9:=a.step KJ;refine⟨KJ.gd.kin,?_⟩;have up: ∀z∈I,z∈([]:List Addr)∨s.heap.objs.size≤z:=fun z m=> .inr (LL z m);refine IM (hc K2 a.ok KJ.sto KJ.gd K9.room (cQ.append_v (KJ.Rs r) (Lp.ivrs KG.sto KO)) Lb) (fun v K_ hq=> ?_) (fun ev K_ fl=> ?_)
  ·cases o with
   |ok x K3=>
    refine CB hq fun Lw KV J LD L4=> ?_;exact⟨Lw,ad.trans' KJ KV up,J,LD,fun z m=>(L4 z m).elim (LL z) fun q=>HX KJ.rest.hsize q⟩
   |exc=>exact hq
  ·cases o with
   |exc cls K3=>
    refine aL fl fun Lw KV f=> ?_;exact⟨Lw,ad.trans' KJ KV up,f.mono KJ.rest.hsize⟩
   |ok=>exact fl
 ·exact no e
end
variable {cv:mE}
section
variable {env:Env}{d:Nat}
noncomputable def DE:yh→Option Value
 | .val x=>kB x
 | .prop _=>none
theorem Dp{x:yh}{f:Value}(e:DE x=some f):x= .val (.val f):=by
 cases x with
 |val=>exact congrArg _ (ix e)
 |prop=>exact no e
variable (c)in
noncomputable def iA(σ:Sg)(x:V)(name:Str):Option (Value×List V):=match x with
 | .lst k=>(aI σ k).bind fun u_=>if name="append" then some (.builtin "list.append",[x])else if name="pop" then some (.builtin "list.pop",[x])else none
 | .inst C k=>(fH σ k).bind fun fs=>if findIn c.K (.ref C) "__getattribute__"=some (some (.builtin "object.__getattribute__"))∧findIn c.K (.ref C) "__getattr__"=some none∧(ez fs name).isNone=true then
  (findIn c.K (.ref C) name).bind fun a=>a.bind fun v=>(kD v).bind fun f=>if typeIn c.K (.ref f)=some (.type "function")then some (.ref f,[x])else none
  else none
 | .val v=>(kD v).bind fun C=>if specialIn c.K (.ref C) "__getattribute__"=some (some (.builtin "type.__getattribute__"))then((ji c σ x name).bind DE).map fun f=>(f,[])else none
 |_=>none
theorem DG{q:Value×List V}(e:iA c σ x name=some q)
 (k1: ∀k l,x= .lst k→σ[k]? =some (.lst l)→name="append"→q=(.builtin "list.append",[x])→P) (k2: ∀k l,x= .lst k→σ[k]? =some (.lst l)→name="pop"→q=(.builtin "list.pop",[x])→P)
 (k3: ∀C k fs f,x= .inst C k→σ[k]? =some (.dct fs)→findIn c.K (.ref C) "__getattribute__"=some (some (.builtin "object.__getattribute__"))→findIn c.K (.ref C) "__getattr__"=some none→ez fs name=none→findIn c.K (.ref C) name=some (some (.ref f))→typeIn c.K (.ref f)=some (.type "function")→q=(.ref f,[x])→P)
 (k4: ∀C f,x= .val (.ref C)→specialIn c.K (.ref C) "__getattribute__"=some (some (.builtin "type.__getattribute__"))→ji c σ x name=some (.val (.val f))→q=(f,[])→P):P:=by
 cases x with
 |lst k=>exact ae e fun l hl e=>eZ e (fun h e=>k1 k l rfl (bE hl) h (IH e).symm) fun u_ e=>bI e fun h e=>k2 k l rfl (bE hl) h (IH e).symm
 |inst C k=>
  exact ae e fun fs hk e=>bI e fun h e=>ae e fun a ha e=>ae e fun v hv e=>ae e fun f hf e=>bI e fun ht e=>
   k3 C k fs f rfl (n7 hk) h.1 h.2.1 (Option.isNone_iff_eq_none.mp h.2.2) (by rw[ha,hv,iY hf]) ht (IH e).symm
 |val v=>exact ae e fun C hC e=>bI e fun h e=>aN e fun f hf e=>ae hf fun g hg hf=>k4 C f (by rw[iY hC]) h (by rw[hg,Dp hf]) e.symm
 |_=>exact no e
theorem tB{f:Value}{pl:Sem Bool}{Q:Value×List Value→Shared→Prop}(ok:c.Ok)(st:aQ c ρ σ s.heap)(g:Gd c s.heap)(e:iA c σ x name=some (f,first))(r:R s.heap ρ x v)
 (h: ∀KF s' fvs,af c ρ s KF σ s'→Rs s'.heap KF first fvs→Q (f,fvs) s'):II (model c.prog c.w) A (getMethod v name pl) Q E s:=by
 refine DG e (fun k l hx hl hn q=> ?_) (fun k l hx hl hn q=> ?_) (fun C k fs fa hx hk h1 h2 h3 hf ht q=> ?_) fun C f' hx hg hv q=> ?_
 ·subst hx hn;refine rD q fun zz1 zz2=> ?_;subst zz1;subst zz2
  cases id r with
  |lst h1=>
  refine bc (st.at_ _ _ _ h1 hl) fun vs n o rs=> ?_
  exact getMethod_builtin (bS o).typeIs PySem.F.plainAttrs_list slot_list_append type_list_append (fun a q=>by cases q;exact⟨_,o,rfl⟩) (h _ _ _ (.refl st g) (.cons r .nil))
 ·subst hx hn;refine rD q fun zz1 zz2=> ?_;subst zz1;subst zz2
  cases id r with
  |lst h1=>
  refine bc (st.at_ _ _ _ h1 hl) fun vs n o rs=> ?_
  exact getMethod_builtin (bS o).typeIs PySem.F.plainAttrs_list PySem.F.slot_list_pop PySem.F.type_list_pop (fun a q=>by cases q;exact⟨_,o,rfl⟩) (h _ _ _ (.refl st g) (.cons r .nil))
 ·subst hx;refine rD q fun zz1 zz2=> ?_;subst zz1;subst zz2;refine cC (kI st hk r) fun xa es n sl zz4 I hdx rf=> ?_;subst zz4;have hl:=rf.getL (name:=name);rw[h3]at hl;refine method_fn g.kin I h1 h2 hf ht ?_ (h _ _ _ (.refl st g) (.cons r .nil));show(lookIn name (fw es n sl)).map (·.isSome)=some false
  rw[show lookIn name (fw es n sl)=some none from hl];rfl
 ·subst hx;refine rD q fun zz1 zz2=> ?_;subst zz1;subst zz2
  cases id r with
  |val=>
  refine method_cls g.kin hg ?_
  refine au.go (o0 (A:=A) ok st g hv r) (fun y KD q w s' KF S r'=> ?_) (fun u_ u_ q=>by exact iQ q)
  refine jF q fun zz1 zz2=> ?_;subst zz1;subst zz2;obtain rfl:=r'.valQ;exact h _ _ _ S .nil
variable (c)in
noncomputable def oJ(iv:iR)(f:fP)(cv:mE)(en:En)(σ:Sg)(func:Expr)(args:List Expr)(kws:List Keyword)(pos:Pos):Option (aG IV):=match u7 func with
 |some p=>if(aU p.1.1&&p.1.2.2.endLine==pos.line&&decide (args.length+kws.length<20)&&al args&&ii kws)=true then
  aw (f en σ p.1.1) fun x KE=>(iA c KE x p.1.2.1).bind fun q=>fh c iv f cv en KE q.1 q.2 args kws
  else none
 |none=>if aX func=true then none else aw (f en σ func) fun x KE=>(kB x).bind fun fv=>fh c iv f cv en KE fv [] args kws
theorem gn(h: ∀o n p,func≠ .Attribute o n p):
 eval (.Call func args kws pos) env=(do callWith pos (←eval func env) [] (backTo pos (starEach args env)) (backToKw pos (keywordEach kws env))):=by
 cases func<;>first|rfl|exact absurd rfl (h _ _ _)
theorem xI{iv:iR}{o:aG IV}(hi:ic c d iv)(hf:bF c d f)(hc:zq c d cv)
 (e:oJ c iv f cv en σ func args kws pos=some o) (a:At c A env en ρ σ s d):au c (Cy s.heap.objs.size) A (eval (.Call func args kws pos) env) ρ s o:=by
 unfold oJ at e
 cases hq:u7 func with
 |some q=>
  rw[hq]at e;obtain⟨⟨ob,name,apos⟩,rfl⟩:=q;refine bI e fun hp e=> ?_
  ·simp only[Gj,decide_eq_true_eq]at hp;obtain⟨⟨⟨⟨h1,h2⟩,h3⟩,h4⟩,h5⟩:=hp;show II _ _ _ _ _ _;rw[arm_eval_Call,l0 h1]
   have few:methodCallForm (args.length+kws.length) (backTo pos (starEach args env)) (backToKw pos (keywordEach kws env))=true:=by
    unfold methodCallForm;rw[ph h5];have:=fW (env:=env) (pos:=pos) (eJ h4);simp only[Gp,Gj,decide_eq_true_eq]
    refine⟨?_,by split<;>omega⟩
    rw[GZ];intro x hx;have:=Hw.mp this x hx;exact(fun {a}↦bi_not.mpr) this
   have hpos:methodCallPos true ob env apos pos=pure pos:=by unfold methodCallPos;exact if_pos (by assumption)
   and_intros
   refine IJ (au.then (.refl a.st a.gd) e (fun o' h=>hf h a) fun x KE v KH KS KG KO KM u_=>IJ (IW ?_))
   refine ae KM fun q hm KM=> ?_
   ·obtain⟨fv,first⟩:=q
    unfold methodCall;rw[few]
    and_intros
    refine IJ (IO (tB a.ok KG.sto KG.gd hm KO fun KZ KL fvs KJ rs=> ?_))
    and_intros
    refine IJ (IQ hpos ?_);have K9:=a.step (KG.trans KJ);refine au.go (lr hi hf hc KM K9 rs) (fun x K3 q w K_ Lw KV LD=> ?_) (fun cls K3 q ev K_ fl=> ?_)
    ·subst q;refine aL LD fun J LD L4=> ?_;exact b9.now ((KG.trans KJ).trans KV) ⟨J,LD,fun z m=>HX (KG.trans KJ).rest.hsize (L4 z m)⟩
    ·subst q;exact fl.trans (KG.trans KJ)
 |none=>
  rw[hq]at e;refine eZ e (fun u_ e=>no e) fun u_ e=> ?_;show II _ _ _ _ _ _
  rw[gn (fun o n p q=>by rw[q]at hq;exact DU hq)]
  and_intros
  refine IJ (au.then (.refl a.st a.gd) e (fun o' h=>hf h a) fun x KE v KH KS KG KO KM u_=> ?_)
  refine ae KM fun fv hv KM=> ?_
  ·obtain rfl:=ix hv;obtain rfl:=KO.valQ;refine au.go (lr hi hf hc KM (a.step KG) .nil) (fun x K3 q w K_ Lw KV LD=> ?_) (fun cls K3 q ev K_ fl=> ?_)
   ·subst q;refine aL LD fun J LD L4=> ?_;exact b9.now (KG.trans KV) ⟨J,LD,fun z m=>HX KG.rest.hsize (L4 z m)⟩
   ·subst q;exact fl.trans KG
theorem af.setCell{l':aa}{t:Nat}(ok:c.Ok)(st:aQ c ρ σ s.heap)(g:Gd c s.heap)(hk:ρ.r[k]? =some la)(x:Kc la s.heap h')
 (r:(∀{y:V} {v:Value},Internal.R s.heap ρ y v→Internal.R h' ρ y v)→(∀{y:List V} {v:List Value},Internal.Rs s.heap ρ y v→Internal.Rs h' ρ y v)→fk h' ρ l' la):af c ρ s ρ (σ.set k l') {s with heap:=h',toks:=t}:=by
 have hm:la∈ρ.r:=Hp hk
 have off:ρ.Off [la]:=fun a m f=>by rw[GR.mp m]at f;exact f.1 hm
 have ex:eh c [la] s.heap h':= .of_keeps fun b o n e=>(x.2 b (fun q=>n (by simp[q]))).trans e
 have le:ρ.Le s.heap ρ:=Pl.Le.refl _ _
 have lo: ∀a∈[la],c.n₀≤a:=by simpa using st.low la hm
 have hz:s.heap.objs.size=h'.objs.size:=x.1.symm;have old: ∀b o,b<c.n₀→s.heap.get? b=some o→h'.get? b=some o:=fun b o hb e=>(x.2 b (fun q=>absurd hb (H1.mpr (q▸st.low la hm)))).trans e;have klen:k<ρ.r.length:=(G1.mp hk).1
 refine⟨GW _,fun u_ m=> .inl m,fun u_ m=> .inl m,fun u_ m=>m,⟨st.nodup,?_,fun j a l h1 h2=> ?_,st.low,fun a m=>⟨(st.plow a m).1,by show a<h'.objs.size;rw[←hz];exact(st.plow a m).2⟩,st.disj⟩,ex.mono fun a m=>by rw[GR.mp m];exact hm,.heap (Iy hz),g.step ok lo ex (fun p hp=> ?_) (Iy hz)⟩
 ·rw[Ht];exact st.len
 ·by_cases hj:j=k
  ·subst hj;rw[hk]at h1;obtain rfl:=IH h1
   rw[HN (by rw[←st.len];exact klen)]at h2
   obtain rfl:=IH h2;exact r (fun q=>q.mono off ex le) (fun q=>q.mono off ex le)
  ·rw[Ho (Ne.symm hj)]at h2
   refine(st.at_ j a l h1 h2).mono off ex le fun m=>hj ?_
   have e:a=la:=GR.mp m;subst e;have hj':=G1.mp h1;have hk':=G1.mp hk;exact(List.getElem_inj st.nodup).mp (hj'.2.trans hk'.2.symm)
 ·exact(g.codes p hp).keep (fun o q=>old _ _ (ok.cold p hp).1 q) fun o q=>old _ _ (ok.told _ (ok.tcs p hp)) q
noncomputable def Ep(σ:Sg)(x:V):Option Int:=((eN x).elim ((gJ x).bind (qe σ)) some).bind fun l=>if l.length≤2^20 then some l.length else none
theorem wo{i:Int}(st:aQ c ρ σ s.heap)(g:Gd c s.heap)(e:Ep σ x=some i)(r:R s.heap ρ x v):bn c A (call (.builtin "len") [v]) ρ s (.ok (.int i) σ):=by
 have S:af c ρ s ρ σ {s with toks:=s.toks+1+1}:=af.toks st g
 refine ae e fun l h KM=>bI KM fun hz K2=> ?_;obtain rfl:=IH K2;refine im h (fun u_ h=>ae h fun k hk hl=> ?_) fun l' h q=> ?_
 ·obtain rfl:=gj hk
  cases r using R.lstE with
  |lst h1=>
  refine bc (st.rd h1 hl) fun vs n o rs=> ?_;exact PySem.Calls.call_len_list (bS o) (rs.sz63 hz) ⟨ρ,S,rs.length▸ .int⟩
 ·obtain rfl:=eA h;obtain rfl:=IH q
  cases r using R.tupE with
  |tup h1 f1 rs=>
  exact PyProof.Rows.len_tuple (cU h1) (rs.sz63 hz) ⟨ρ,S,rs.length▸ .int⟩
theorem xu{i:Int}{t:Tok}(st:aQ c ρ σ s.heap)(g:Gd c s.heap):bn c A (call (.builtin "abs") [.int i t]) ρ s (.ok (.int (if i<0 then-i else i)) σ):=
 call_abs_int fun u tk=>⟨ρ,af.toks st g,.int⟩
theorem uU{a b:Int}{t:Tok}(hh:A.handled=none)(ok:c.Ok)(st:aQ c ρ σ s.heap)(g:Gd c s.heap):bn c A (call (.builtin "max") [.int a t,.int b u]) ρ s (.ok (.int (if b>a then b else a)) σ):=by
 refine bw (max_two_ints hh fun h' tk k hz=>⟨ρ,af.keeps ok st g k hz,?_⟩)
 split<;>exact .int
theorem we{a b:Int}{t:Tok}(hh:A.handled=none)(ok:c.Ok)(st:aQ c ρ σ s.heap)(g:Gd c s.heap):bn c A (call (.builtin "min") [.int a t,.int b u]) ρ s (.ok (.int (if b<a then b else a)) σ):=by
 refine bw (min_two_ints hh fun h' tk k hz=>⟨ρ,af.keeps ok st g k hz,?_⟩)
 split<;>exact .int
noncomputable def om:List V→Option (List Value)
 |[]=>some []
 |x::l=>(kB x).bind fun v=>(om l).map (v:: ·)
noncomputable def DD(K:Frag)(x:V)(cl:V):Option Bool:=(cY x).bind fun u_=>(kB cl).elim ((eN cl).bind fun l=>(om l).bind fun cs=>kitAny K (.type "int") cs) fun cv=>kitOne K (.type "int") cv
theorem x8{cs:List Value}(r:Rs h ρ l vs):om l=some cs→vs=cs:=
 Rs.ind (Q:=fun l vs=> ∀cs,om l=some cs→vs=cs) (fun cs e=>IH e) (fun r u_ ih cs e=>by
  refine ae e fun v hv e=>aN e fun l h w=> ?_;obtain rfl:=ix hv;obtain rfl:=r.valQ
  exact w▸congrArg _ (ih l h)) r cs
theorem wZ{cl:V}(ok:c.Ok)(st:aQ c ρ σ s.heap)(g:Gd c s.heap)(e:DD c.K x cl=some b)(r:R s.heap ρ x v)(q:R s.heap ρ cl w):bn c A (call (.builtin "isinstance") [v,w]) ρ s (.ok (.bool b) σ):=by
 refine ae e fun i hi KM=>im KM (fun u_ K2=>ae K2 fun l hl Lz=>ae Lz fun cs h1 h2=> ?_) fun cv hc K2=> ?_
 ·obtain rfl:=b_ hi;obtain⟨_,rfl⟩:=r.intQ;obtain rfl:=eA hl
  cases q using R.tupE with
  |tup h3 f3 rs=>
  have:=x8 rs h1;subst this;exact kia_tup kitx_int g.kin trivial h3 h2 (fun q=>nomatch q) fun tk=>⟨ρ,af.toks st g,.val⟩
 ·obtain rfl:=b_ hi;obtain⟨_,rfl⟩:=r.intQ;obtain rfl:=ix hc;obtain rfl:=q.valQ;exact kia_one kitx_int g.kin trivial K2 (fun q=>nomatch q) fun tk=>⟨ρ,af.toks st g,.val⟩
theorem uB{n:Int}{t:Tok}(ok:c.Ok)(st:aQ c ρ σ s.heap)(g:Gd c s.heap):bn c A (call (.type "range") [.int n t]) ρ s (.ok (.rng 0 n 1) σ):=by
 refine call_range_1 ?_
 have S:af c ρ s ρ σ {s with heap:=s.heap.push {cls:= .type "range",data:= .fields #[.int 0 s.toks,.int n t,.int 1 (s.toks+1)]},toks:=s.toks+1+1}:=af.push ok st g
 exact⟨ρ,S,.rng (IsRange.new _ _ _ _ _ _ _) (st.new (HY _))⟩
theorem ug{a b:Int}{t:Tok}(ok:c.Ok)(st:aQ c ρ σ s.heap)(g:Gd c s.heap):bn c A (call (.type "range") [.int a t,.int b u]) ρ s (.ok (.rng a b 1) σ):=by
 refine call_range_2 ?_
 have S:af c ρ s ρ σ {s with heap:=s.heap.push {cls:= .type "range",data:= .fields #[.int a t,.int b u,.int 1 s.toks]},toks:=s.toks+1}:=af.push ok st g
 exact⟨ρ,S,.rng (IsRange.new _ _ _ _ _ _ _) (st.new (HY _))⟩
theorem af.newCell{l:aa}{t:Nat}(ok:c.Ok)(st:aQ c ρ σ s.heap)(g:Gd c s.heap)(k: ∀b o,s.heap.get? b=some o→h'.get? b=some o)(hz:s.heap.objs.size≤h'.objs.size)(ha:s.heap.objs.size≤a)
 (r: ∀KF,(∀{y:V} {v:Value},Internal.R s.heap ρ y v→Internal.R h' KF y v)→(∀{y:List V} {v:List Value},Internal.Rs s.heap ρ y v→Internal.Rs h' KF y v)→fk h' KF l a) (r0: ∀KF,fk h' KF l a→a<h'.objs.size):
 af c ρ s (ρ.add a) (σ++[l]) {s with heap:=h',toks:=t}:=by
 have p:af c ρ s ρ σ {s with heap:=h',toks:=t}:=af.keeps ok st g k hz
 have fr:ρ.free a:=st.new ha
 have le:ρ.Le s.heap (ρ.add a):=⟨GQ _ _,fun b o f e=>⟨fun m=>(GP.mp m).elim f.1 fun q=>absurd (Ka e) (by rw[GR.mp q];exact H1.mpr ha),f.2⟩⟩
 have rr:fk h' (ρ.add a) l a:=r _ (fun q=>q.mono (Pl.Off.nil _) (.of_keeps (c:=c) fun b o u_ e=>k b o e) le) (fun q=>q.mono (Pl.Off.nil _) (.of_keeps (c:=c) fun b o u_ e=>k b o e) le);refine⟨le.pre,fun b m=> ?_,fun b m=> .inl m,fun b m=>m,⟨?_,?_,fun j b l' h1 h2=> ?_,fun b m=> ?_,fun b m=> ?_,fun b m n=> ?_⟩,p.ext,p.rest,p.gd⟩
 ·rcases GP.mp m with q|q
  ·exact .inl q
  ·rw[GR.mp q];exact .inr ha
 ·exact List.nodup_append.mpr ⟨st.nodup,by simp,fun b hb b' hb' q=>fr.1 (by rw[GR.mp hb']at q;exact q▸hb)⟩
 ·rw[G6,G6,st.len];rfl
 ·by_cases hj:j<ρ.r.length
  ·rw[He hj]at h1;rw[He (st.len▸hj)]at h2
   exact(st.at_ j b l' h1 h2).mono (Pl.Off.nil _) (.of_keeps (c:=c) fun b o u_ e=>k b o e) le (by exact Hg)
  ·have hl:=(G1.mp h1).1;rw[G6,HC]at hl
   have ej:j=ρ.r.length:=by exact jE ‹_› ‹_›
   subst ej;rw[Hq (HY _),Iq]at h1;rw[st.len,Hq (HY _),Iq]at h2;obtain rfl:=IH h1;obtain rfl:=IH h2;exact rr
 ·rcases GP.mp m with q|q
  ·exact st.low b q
  ·rw[GR.mp q];exact HX g.size ha
 ·exact⟨(st.plow b m).1,H_ (st.plow b m).2 hz⟩
 ·rcases GP.mp n with q|q
  ·exact st.disj b m q
  ·rw[GR.mp q]at m;exact absurd (st.plow _ m).2 (H1.mpr ha)
theorem tV{l:aa}(x:fk h ρ l a):a<h.objs.size:=by
 cases l with
 |lst l=>refine bc x fun u_ u_ e u_=> ?_;exact Ka e
 |dct l=>refine lG x fun u_ u_ u_ e u_=> ?_;exact Ka e
 |ro l vs n=>exact Ka x.1
theorem af.newLst{t:Nat}(ok:c.Ok)(st:aQ c ρ σ s.heap)(g:Gd c s.heap)(k: ∀b o,s.heap.get? b=some o→h'.get? b=some o)(hz:s.heap.objs.size≤h'.objs.size)(ha:s.heap.objs.size≤a)
 (e:h'.get? a=some (aB vs n)) (r: ∀h' KF,(∀{y:List V} {v:List Value},Internal.Rs s.heap ρ y v→Internal.Rs h' KF y v)→Internal.Rs h' KF l vs):af c ρ s (ρ.add a) (σ++[.lst l]) {s with heap:=h',toks:=t}:=
 af.newCell ok st g k hz ha (fun KF u_ q=>⟨vs,n,e,r _ _ q⟩) fun KF x=>tV x
noncomputable def zY(σ:Sg)(x:V):Option (List V):=(eN x).elim ((gJ x).elim ((FQ x).bind fun p=>
 if Jy p.1 p.2.1 p.2.2=true∧(0≤Jx p.1 p.2.1 p.2.2)∧Jx p.1 p.2.1 p.2.2≤2^20 then some ((GV (Jx p.1 p.2.1 p.2.2).toNat).map fun(i:Nat)=>V.int (p.1+i*p.2.2))else none)
 fun k=>(aI σ k).bind fun l=>if l.length≤2^20 then some l else none)
 fun l=>if l.length≤2^20 then some l else none
theorem uc(hh:A.handled=none)(ok:c.Ok)(st:aQ c ρ σ s.heap)(g:Gd c s.heap)(e:zY σ x=some l)(r:R s.heap ρ x v):bn c A (call (.type "list") [v]) ρ s (.ok (.lst σ.length) (σ++[.lst l])):=by
 cases r with
 |tup h1 f1 rs=>
  refine oA (iz e) fun hz e=> ?_;obtain rfl:=IH e;refine bw (call_list_seq _ (.inr rfl) h1 rfl rfl (fun h' c' k e' hz'=> ?_) (rs.sz hz));exact⟨_,af.newLst (n:=c') ok st g k hz' (HY _) e' fun u_ u_ q=>q rs,.lst (st.last _)⟩
 |lst h1=>
  refine ae e fun l hl e=>oA (iz e) fun hz e=> ?_;obtain rfl:=IH e
  refine bc (st.at_ _ _ _ h1 (bE hl)) fun vs n o rs=> ?_
  refine bw (call_list_seq _ (.inl rfl) o rfl rfl (fun h' c' k e' hz'=> ?_) (rs.sz hz));exact⟨_,af.newLst (n:=c') ok st g k hz' (HY _) e' fun u_ u_ q=>q rs,.lst (st.last _)⟩
 | @rng x y dd _ _ _ _ h1 f1=>
  refine oA (iz e) fun hb e=> ?_;obtain rfl:=IH e;replace hb:Jy x y dd=true∧0≤Jx x y dd∧Jx x y dd≤2^20:=hb
  refine bw (call_list_range (n:=(Jx x y dd).toNat) hh h1 hb.1 (Int.toNat_of_nonneg hb.2.1).symm (Int.toNat_le.mpr (Gy hb.2.2 (by decide))) fun h' tk acc' c' k e' items hz'=> ?_)
  refine⟨_,af.newLst (vs:=acc'.toList) (n:=c') (l:=(GV (Jx x y dd).toNat).map fun(i:Nat)=>V.int (x+i*dd)) ok st g k hz' (HY _) (by simpa using e') fun h'' Lh q=> ?_,.lst (st.last _)⟩
  refine oA items fun i1 i2=> ?_
  have key: ∀(n:Nat) (l:List Value),l.length=n→(∀(j:Nat) v,l[j]? =some v→ ∃t:Tok,v=Kt (x+j*dd) t)→Internal.Rs h'' Lh ((GV n).map fun(i:Nat)=>V.int (x+i*dd)) l:=by
   intro n
   induction n with
   |zero=>intro l hl _;rw[Hn.mp hl];exact .nil
   |succ n ih=>
    intro l hl hv
    have hl':l=l.dropLast++[l.getLast (by intro q;rw[q]at hl;cases hl)]:=(List.dropLast_concat_getLast _).symm
    rw[List.range_succ,List.map_append,hl']
    refine(ih l.dropLast (by rw[List.length_dropLast,hl];rfl) fun j v hj=>hv j v ?_).append ?_
    ·have:=G1.mp hj;refine oE this fun h1 h2=> ?_;rw[hl',He h1];exact hj
    ·obtain⟨t,ht⟩:=hv n (l.getLast (by intro q;rw[q]at hl;cases hl)) (by
      rw[G3 (lSn ‹_›),List.getLast_eq_getElem];congr 2;exact lSp ‹_›)
     rw[ht];exact .cons .int .nil
  exact key _ _ (by simpa using i1) fun j v hj=>i2 j v (by simpa using hj)
 |_=>exact no e
theorem kj{Q:List Value→Shared→Prop}(it:Addr){o:Obj}(hT:T="list"∨T="tuple")
 (ho:s.heap.get? it=some o) (hc:o.cls= .type T) (hd:o.data= .seq items n)
 (hQ: ∀h',(∀b o',s.heap.get? b=some o'→h'.get? b=some o')→s.heap.objs.size≤h'.objs.size→Q items.toList {s with heap:=h'}) (hsz:items.size≤sizeLine):
 II (model c.prog c.w) A (collect (.ref it)) Q E s:=bw (wpAny_collect_seq (hsz:=hsz) it hT ho hc hd fun h' k hz=>hQ h' k hz)
open AutoSeq1 (wpAny_loadPart')in
theorem jP(l:Addr)(o:Obj)(items:Array Value)(n:Nat)(hc:o.cls= .type "list")(hd:o.data= .seq items n)(hsz:items.size≤sizeLine):
 Meets (Builtin.«tuple.__new__» ⟨[.type "tuple",.ref l],[]⟩)
  (fun u_ R s=>s.heap.get? l=some o∧ ∀h':Heap,(∀b o',s.heap.get? b=some o'→h'.get? b=some o')→s.heap.objs.size≤h'.objs.size→R (.ok (.ret (.ref h'.objs.size))) {s with heap:=h'.push {cls:= .type "tuple",data:= .seq items}}):=
 .of_wp fun prog w A R s h=>by
  obtain⟨hp,g,d,tk,os⟩:=s;refine oA h fun ht h=> ?_;have hsub:=sub_tuple_self;have hinit:=init_tuple_lookup;have hmh:=madeHere_tuple;have hT:Shared.TypeIs ⟨hp,g,d,tk,os⟩ (.ref l) "list":=⟨o,ht,hc⟩
  wp_walk using wpAny_loadPart' ht,I2 hT,kj (c:=⟨prog,w,default,0,[],[],fun u_=>none,fun u_=>none,default,[]⟩) (hsz:=hsz) l (.inl rfl) ht hc hd
  intro h' hk hz;show II _ _ (JI items.toList.toArray>>=fun v=>ret v) _ _ _;unfold JI
  refine IJ (IR ?_ (by show items.toList.toArray.size≤sizeLine;simpa using hsz))
  refine IK ⟨_,rfl,?_⟩
  have e:items.toList.toArray=items:=by simp
  rw[e];exact h h' hk hz
noncomputable def qS(σ:Sg)(x:V):Option (List V):=(eN x).elim ((gJ x).bind fun k=>(aI σ k).bind fun l=>if l.length≤2^20 then some l else none) some
theorem qR(ok:c.Ok)(st:aQ c ρ σ s.heap)(g:Gd c s.heap)(e:qS σ x=some l)(r:R s.heap ρ x v):bn c A (call (.type "tuple") [v]) ρ s (.ok (.tup l) σ):=by
 refine im e (fun u_ KM=>ae KM fun k hk K2=>ae K2 fun l' hl Lz=>bI Lz fun hz LP=> ?_) fun l' h KM=> ?_
 ·obtain rfl:=gj hk;obtain rfl:=IH LP
  cases r using R.lstE with
  |lst h1=>
  refine bc (st.at_ _ _ _ h1 (bE hl)) fun vs n o rs=> ?_
  refine callType_new JO (by exact ac) (J6 _) (F.newCall_tuple_1 _) (fun obj=>J7 obj _) F.entry_tuple_new
   (jP _ _ vs.toArray n rfl rfl (rs.sz hz)) ⟨o,fun h' k hz'=>⟨⟨_,J9 _ rfl,rfl⟩,?_⟩⟩
  have KG:af c ρ s ρ σ {s with heap:=h',toks:=s.toks}:=af.keeps ok st g k hz'
  have KJ:af c ρ {s with heap:=h'} ρ σ {s with heap:=h'.push (ao vs 0),toks:=s.toks}:=af.push ok KG.sto KG.gd
  exact⟨ρ,KG.trans KJ,.tup (J9 _ rfl) (KG.sto.new (HY _)) ((KG.trans KJ).Rs rs)⟩
 ·obtain rfl:=eA h;obtain rfl:=IH KM
  cases id r with
  |tup h1 f1 rs=>exact call_tuple_tup (cU h1) ⟨ρ,.refl st g,r⟩
theorem Rs.dropLast(r:Rs h ρ l vs):Rs h ρ l.dropLast vs.dropLast:=by
 rw[List.dropLast_eq_take,List.dropLast_eq_take,r.length];exact r.take _
theorem Rs.eraseIdx(k:Nat)(r:Rs h ρ l vs):Rs h ρ (l.eraseIdx k) (vs.eraseIdx k):=by
 rw[HW,HW];exact(r.take k).append (r.drop (k+1))
noncomputable def cD(σ:Sg)(k:Nat)(y:V):Option Sg:=(aI σ k).bind fun l=>if l.length≤2^20 then some (σ.set k (.lst (l++[y])))else none
theorem j_(ok:c.Ok)(st:aQ c ρ σ s.heap)(g:Gd c s.heap)(e:cD σ k y=some KD)(r:R s.heap ρ (.lst k) v)(q:R s.heap ρ y w):bn c A (call (.builtin "list.append") [v,w]) ρ s (.ok .none KD):=by
 refine ae e fun l hl e=>bI e fun hz e=> ?_;obtain rfl:=IH e
 cases r using R.lstE with
 |lst h1=>
 refine bc (st.at_ _ _ _ h1 (bE hl)) fun vs n o rs=> ?_
 refine append_at o (fun h' sb e'=> ?_) (rs.sz hz)
 refine⟨ρ,af.setCell (t:=s.toks) ok st g h1 sb fun k1 k2=>⟨vs++[w],n+1,by rw[e'];simp,(k2 rs).append (.cons (k1 q) .nil)⟩,.val⟩
noncomputable def D5(σ:Sg)(k:Nat):Option (V×Sg):=(aI σ k).bind fun l=>if l.length≤2^20 then l.getLast?.map fun y=>(y,σ.set k (.lst l.dropLast))else none
noncomputable def mC(σ:Sg)(k:Nat)(i:Int):Option (V×Sg):=(aI σ k).bind fun l=>if l.length≤2^20∧Ju i=true then(seqIndex? i l.length).bind fun j=>l[j]?.map fun y=>(y,σ.set k (.lst (l.eraseIdx j)))else none
theorem wj(ok:c.Ok)(st:aQ c ρ σ s.heap)(g:Gd c s.heap)(e:D5 σ k=some (y,KD))(r:R s.heap ρ (.lst k) v):bn c A (call (.builtin "list.pop") [v]) ρ s (.ok y KD):=by
 refine ae e fun l hl e=>bI e fun hz e=>aN e fun y' hy e=> ?_;refine rD e fun zz1 zz2=> ?_;subst zz1;subst zz2
 cases r using R.lstE with
 |lst h1=>
 refine bc (st.at_ _ _ _ h1 (bE hl)) fun vs n o rs=> ?_
 rw[List.getLast?_eq_getElem?]at hy;refine aL (rs.get hy) fun w hw rw'=> ?_
 refine Copied.pop_at o (y:=w) (by simpa [←rs.length]using hw) (fun h' sb e'=> ?_) (rs.sz hz)
 have S:=af.setCell (c:=c) (l':= .lst l.dropLast) (t:=s.toks) ok st g h1 sb fun k1 k2=>⟨vs.dropLast,n+1,by rw[e'];rfl,k2 rs.dropLast⟩
 exact⟨ρ,S,S.R rw'⟩
theorem oD(vs:List Value)(n j:Nat)(hj:j<vs.length):Kj (fun xs=>xs.eraseIdxIfInBounds j) (aB vs n)=aB (vs.eraseIdx j) (n+1):=by
 have h1:vs.toArray.eraseIdxIfInBounds j=(vs.eraseIdx j).toArray:=by
  unfold Array.eraseIdxIfInBounds
  rw[dif_pos (by simpa using hj)]
  simp
 have h2:((vs.eraseIdx j).toArray.size==vs.toArray.size)=false:=by
  simp[List.length_eraseIdx,hj];omega
 simp[Kj,h1];rw[List.length_eraseIdx];simp[hj];omega
theorem qZ{i:Int}{t:Tok}(ok:c.Ok)(st:aQ c ρ σ s.heap)(g:Gd c s.heap)(e:mC σ k i=some (y,KD))(r:R s.heap ρ (.lst k) v):bn c A (call (.builtin "list.pop") [v,.int i t]) ρ s (.ok y KD):=by
 refine ae e fun l hl e=>bI e fun hz e=>ae e fun j hj e=>aN e fun y' hy e=> ?_;refine rD e fun zz1 zz2=> ?_;subst zz1;subst zz2
 cases r using R.lstE with
 |lst h1=>
 refine bc (st.at_ _ _ _ h1 (bE hl)) fun vs n o rs=> ?_
 refine aL (rs.get hy) fun w hw rw'=> ?_;have hjl:j<vs.length:=(G1.mp hw).1
 refine Ja PySem.F.slot_list_pop ⟨_,o,rfl⟩ PySem.F.entry_list_pop (PySem.F.args_list_pop_2 _ _) (PySem.MeetsSeq.list_pop_at _ vs.toArray n i t j w hz.2 (by simpa [←rs.length]using hj) (by simpa using hw) (rs.sz hz.1)) ⟨o,?_⟩
 have me:=oD vs n j hjl
 have S:=af.setCell (c:=c) (l':= .lst (l.eraseIdx j)) (t:=s.toks) ok st g h1 (Kf (f:=Kj fun xs=>xs.eraseIdxIfInBounds j) ..) fun k1 k2=>⟨vs.eraseIdx j,n+1,by rw[Kb _ o (by rw[me];rfl),me],k2 (rs.eraseIdx j)⟩
 exact⟨ρ,S,S.R rw'⟩
noncomputable def cP:List V→Option (List Int)
 |[]=>some []
 |x::l=>(cY x).bind fun i=>(cP l).map (i:: ·)
theorem oF{ns:List Int}(r:Rs h ρ l vs):cP l=some ns→IntsAre vs ns:=
 Rs.ind (Q:=fun l vs=> ∀ns,cP l=some ns→IntsAre vs ns) (fun ns e=>IH e▸ .nil) (fun r u_ ih ns e=>by
  refine ae e fun i hi e=>aN e fun l h w=> ?_;obtain rfl:=b_ hi;obtain⟨_,rfl⟩:=r.intQ
  exact w▸ .cons _ _ (ih l h)) r ns
theorem yv{ns:List Int}(r:IntsAre vs ns):Rs h ρ (ns.map V.int) vs:=by
 induction r with
 |nil=>exact .nil
 |cons _ _ _ ih=>exact .cons .int ih
theorem yX{ns:List Int}(r:IntsAre vs ns): ∃xs:List (Int×Tok),vs=xs.map (fun p=>Kt p.1 p.2)∧ns=xs.map (·.1):=by
 induction r with
 |nil=>exact⟨[],rfl,rfl⟩
 |cons n t r ih=>exact aL ih fun xs h1 h2=>⟨(n,t)::xs,congrArg (_:: ·) h1,congrArg (_:: ·) h2⟩
noncomputable def BS(σ:Sg)(x:V):Option Int:=(gJ x).bind fun k=>(aI σ k).bind fun l=>(cP l).map List.sum
theorem wg{i:Int}(hh:A.handled=none)(ok:c.Ok)(st:aQ c ρ σ s.heap)(g:Gd c s.heap)(e:BS σ x=some i)(r:R s.heap ρ x v):bn c A (call (.builtin "sum") [v]) ρ s (.ok (.int i) σ):=by
 refine ae e fun k hk e=>ae e fun l hl e=>aN e fun ns hns e=> ?_;subst e;obtain rfl:=gj hk
 cases r using R.lstE with
 | @lst la h1=>
 refine bc (st.at_ _ _ _ h1 (bE hl)) fun vs n o rs=> ?_
 refine aL (yX (oF rs hns)) fun xs h2 h3=> ?_
 have hl:s.heap.IsList la (intItems xs.toArray):=by
  have:=bS o;rw[h2]at this;simpa [intItems]using this
 refine bw (sum_intListG hh hl fun h' tk t' k hz=>⟨ρ,af.keeps ok st g k hz,?_⟩)
 rw[preSum_eq,List.take_of_length_le (by simp),show xs.toArray.toList=xs from rfl,←h3]
 exact .int
noncomputable def rA(x:Int):List Int→List Int
 |[]=>[x]
 |y::l=>if x≤y then x::y::l else y::rA x l
noncomputable def cw:List Int→List Int
 |[]=>[]
 |x::l=>rA x (cw l)
theorem m6(x:Int)(l:List Int):(rA x l).Perm (x::l):=by
 induction l with
 |nil=>exact .refl _
 |cons y l ih=>
  refine(?_:(if x≤y then x::y::l else y::rA x l).Perm _)
  split
  ·exact .refl _
  ·exact(ih.cons y).trans (.swap ..)
theorem uR{x:Int}(hx:z≤x): ∀l:List Int,(∀y∈l,z≤y)→ ∀y∈rA x l,z≤y
 |l,h,y,m=>by
  rcases GY.mp ((m6 x l).mem_iff.mp m)with rfl|q
  ·exact hx
  ·exact h y q
set_option tactic.hygienic true in
theorem o8(x:Int)(l:List Int):l.Pairwise (· ≤ ·)→(rA x l).Pairwise (· ≤ ·):=by
 induction l with
 |nil=>exact fun _=>List.pairwise_singleton _ _
 |cons y l ih=>
  intro h;refine oA (HO.mp h) fun h1 h2=> ?_
  refine(?_:(if x≤y then x::y::l else y::rA x l).Pairwise _)
  split
  ·rename_i q
   exact HO.mpr ⟨fun z m=>by rcases GY.mp m with rfl|m;exact q;exact Gy q (h1 z m),h⟩
  ·rename_i q;exact HO.mpr ⟨fun z m=>uR (GE (Int.not_le.mp q)) l h1 z m,ih h2⟩
theorem dE: ∀l:List Int,(cw l).Perm l
 |[]=> .refl _
 |x::l=>(m6 x _).trans ((dE l).cons x)
theorem jo: ∀l:List Int,(cw l).Pairwise (· ≤ ·)
 |[]=> .nil
 |x::l=>o8 x _ (jo l)
theorem wu{ns ns':List Int}(p:ns'.Perm ns)(w:ns'.Pairwise (· ≤ ·)):ns'=cw ns:=
 List.Perm.eq_of_pairwise (le:=(· ≤ ·)) (fun a b u_ u_ h1 h2=>Int.le_antisymm h1 h2) w (jo ns) (p.trans (dE ns).symm)
noncomputable def oI(σ:Sg)(x:V):Option (List V):=((eN x).elim ((gJ x).bind (aI σ)) some).bind fun l=>if l.length<64 then(cP l).map fun ns=>(cw ns).map V.int else none
theorem mx{o:Obj}{ns:List Int}(hT:T="list"∨T="tuple")(ok:c.Ok)(st:aQ c ρ σ s.heap)(g:Gd c s.heap)(ho:s.heap.get? a=some o)(hc:o.cls= .type T)(hd:o.data= .seq vs.toArray n)
 (hI:IntsAre vs ns) (h64:vs.length<64):bn c A (call (.builtin "sorted") [.ref a]) ρ s (.ok (.lst σ.length) (σ++[.lst ((cw ns).map V.int)])):=by
 refine Calls.call_function_entry kind_sorted plain_sorted entry_sorted (args_sorted1 _) ?_;unfold Builtin.«sorted»
 ac_rfl
 refine IJ (m:=checkCount "sorted" 1 1 _) (IK ?_)
 ac_rfl
 refine IJ (kj a hT ho hc hd (fun h' k hz=> ?_) (by simp;exact HX (Ib h64) (by decide)))
 ac_rfl
 refine IJ (wpAny_newList ?_ (by simp;exact HX (Ib h64) (by decide)))
 have KG:af c ρ s ρ σ {s with heap:=h',toks:=s.toks}:=af.keeps ok st g k hz
 have hoL:(h'.push (seqObj "list" vs.toArray 0)).get? h'.objs.size=some (seqObj "list" vs.toArray 0):=J9 _ rfl
 show II _ _ _ _ _ {s with heap:=h'.push (seqObj "list" vs.toArray 0)}
 ac_rfl
 refine IJ (IO (IT slot_list_sort ⟨_,hoL,rfl⟩ entry_list_sort (list_sort_tree hoL hI h64 fun out ns' a1 a2 a3=>⟨_,rfl,?_⟩) (args_list_sort _)));refine IK ⟨_,rfl,?_⟩;have en:=wu a2 a3;subst en;obtain⟨e,he⟩:=sortedHeap_at (out:=out) (vs:=vs) hoL
 have hszN:(sortedHeap (h'.push (seqObj "list" vs.toArray 0)) h'.objs.size vs out).objs.size=h'.objs.size+3:=by
  unfold sortedHeap;rw[Kd,J',J',Kd,J']
 have kk: ∀b o',h'.get? b=some o'→(sortedHeap (h'.push (seqObj "list" vs.toArray 0)) h'.objs.size vs out).get? b=some o':=fun b o' hb=>by
  have hlt:=Ka hb
  rw[sortedHeap_old (Iu hlt) (by rw[J'];exact Il hlt)]
  exact J_ _ hb
 have KJ:=af.newLst (t:=s.toks) (n:=e) (vs:=out.toList) (l:=(cw ns).map V.int) (a:=h'.objs.size) ok KG.sto KG.gd kk (by show h'.objs.size≤_;rw[hszN];exact H4 _ _) (HY _) he fun u_ u_ u_=>yv a1
 exact⟨_,KG.trans KJ,.lst (KG.sto.last _)⟩
theorem pA(ok:c.Ok)(st:aQ c ρ σ s.heap)(g:Gd c s.heap)(e:oI σ x=some l)(r:R s.heap ρ x v):bn c A (call (.builtin "sorted") [v]) ρ s (.ok (.lst σ.length) (σ++[.lst l])):=by
 refine ae e fun l h e=>bI e fun hz e=>aN e fun ns hns e=> ?_;subst e;refine im h (fun u_ h=>ae h fun k hk hl=> ?_) fun l' h q=> ?_
 ·obtain rfl:=gj hk
  cases r using R.lstE with
  |lst h1=>
  refine bc (st.at_ _ _ _ h1 (bE hl)) fun vs n o rs=> ?_
  exact mx (.inl rfl) ok st g o rfl rfl (oF rs hns) (rs.length▸hz)
 ·obtain rfl:=eA h;obtain rfl:=IH q
  cases r using R.tupE with
  |tup h1 f1 rs=>exact mx (.inr rfl) ok st g h1 rfl rfl (oF rs hns) (rs.length▸hz)
noncomputable def mkO(C:Addr)(k:Nat):aG V→Option (aG V)
 | .ok y KD=>if aY y=true then some (.ok (.inst C k) KD)else none
 | .exc cls KD=>some (.exc cls KD)
variable (c)in
noncomputable def nH(cf:cb)(σ:Sg)(C:Addr)(xs:List V)(ks:List (Str×V)):Option (aG V):=if makesIn c.K C=true then(findIn c.K (.ref C) "__init__").bind fun a=>a.bind fun v=>(kD v).bind fun fI=>
 if typeIn c.K (.ref fI)=some (.type "function")then(cf (σ++[.dct []]) fI (.inst C σ.length::xs) ks).bind (mkO C σ.length)else none
 else none
theorem py(C:Addr)(rest:List Value)(kw:List (Str×Value)):(JM "type.__call__" ⟨.ref C::rest,kw⟩).weight=1:=rfl
theorem rF(C:Addr)(rest:List Value)(kw:List (Str×Value)):(JM "type.__call__" ⟨.ref C::rest,kw⟩).cUnits=1:=rfl
theorem eg.made{rest:List Value}(r:eg c ρ A (d+1) h):eg c ρ (A.under (.builtin "type.__call__" ⟨.ref C::rest,kw⟩)) d h where
 hand:=r.hand
 depth:=by
  have:=r.depth;show A.depth+(JM "type.__call__" ⟨.ref C::rest,kw⟩).weight+d<recursionLimit;rw[py];exact FI ‹_›
 units:=by
  have:=r.units;show A.units+(JM "type.__call__" ⟨.ref C::rest,kw⟩).cUnits+8*d+220<cLine;rw[rF];exact ru1 ‹_›
 frames:=r.frames
theorem ua{cf:cb}{ks:List (Str×V)}(hc:dF c d cf)(e:nH c cf σ C xs ks=some o)(ok:c.Ok)(st:aQ c ρ σ s.heap)(g:Gd c s.heap)(room:eg c ρ A (d+1) s.heap)
 (rx:Rs s.heap ρ xs vs) (rk:Rk s.heap ρ ks kv):kT c A (.call (.ref C) ⟨vs,kv⟩) ρ s o:=by
 refine bI e fun hm KM=>ae KM fun a ha K2=>ae K2 fun v hv Lz=>ae Lz fun fI hfI LP=>bI LP fun hf LU=>ae LU fun o' ho' LV=> ?_;clear e KM K2 Lz LP LU
 have hi:findIn c.K (.ref C) "__init__"=some (some (.ref fI)):=by rw[ha,hv,iY hfI]
 obtain⟨h,gs,dr,tk,os⟩:=s;have KG:af c ρ ⟨h,gs,dr,tk,os⟩ (ρ.add h.objs.size) (σ++[.dct []]) ⟨h.push emptyDict,gs,dr,tk,os⟩:=af.pushCell (s:=⟨h,gs,dr,tk,os⟩) (l:= .dct []) (t:=tk) ok st g fun h' KF e u_ u_=>⟨[],0,#[],e,.nil⟩;have KJ:af c (ρ.add h.objs.size) ⟨h.push emptyDict,gs,dr,tk,os⟩ (ρ.add h.objs.size) (σ++[.dct []]) ⟨(h.push emptyDict).push (instObj C h.objs.size),gs,dr,tk,os⟩:=af.push (s:=⟨h.push emptyDict,gs,dr,tk,os⟩) (t:=tk) ok KG.sto KG.gd;have S:=KG.trans KJ;have hsz:(h.push emptyDict).objs.size=h.objs.size+1:=J' ..
 have ri:R ((h.push emptyDict).push (instObj C h.objs.size)) (ρ.add h.objs.size) (.inst C σ.length) (.ref (h.objs.size+1)):=by
  refine .inst (dx:=h.objs.size) ?_ ?_ (st.last _)
  ·rw[←hsz];exact J9 _ rfl
  ·rw[←hsz];exact KG.sto.new (HY _)
 refine make_core (makes_of g.kin hm) (looks_findIn g.kin hi) (fun self=>bind_fn g.kin self hf) (.inl rfl) ?_;refine I7 (hc ho' ok S.sto S.gd (S.room st room).made (.cons ri (S.Rs rx)) (S.Rk rk)) fun r s' z=> ?_
 rcases r with ev|(v|_|_|_)
 ·cases o' with
  |ok y KD=>exact z.elim
  |exc cls KD=>
   obtain rfl:=IH LV;exact cH.trans (α:=V) (β:=V) S z
 ·exact z.elim
 ·exact z.elim
 ·exact z.elim
 ·cases o' with
  |exc=>exact z.elim
  |ok y KD=>
   refine bI LV fun hy Mb=>aL z fun KF T ry=> ?_;obtain rfl:=IH Mb;have:=hO ry;rw[hy]at this;exact⟨GN this,KF,S.trans T,T.R ri⟩
noncomputable def mr(σ:Sg):Nat→It→Option (List V)
 |0,_=>none
 |n+1,t=>(ay σ t).bind fun r=>r.elim (some []) fun p=>(mr σ n p.2).map (p.1:: ·)
theorem ei(vs:List Value)(w:Value)(n:Nat):Kj (·.push w) (aB vs n)=aB (vs++[w]) (n+1):=by
 simp[Kj]
theorem ul{S:Addr}{res:Value}{R:Result→Shared→Prop}(hh:A.handled=none)(ok:c.Ok)(hSI:S∉I)(n:Nat): ∀(t:It) (l:List V) (s:Shared) (acc:List V) (vs:List Value) (k:Nat),mr σ n t=some l→acc.length+l.length≤2^20→
 aQ c ρ σ s.heap→Gd c s.heap→bC s.heap ρ t I a→S∈ρ.p→s.heap.get? S=some (aB vs k)→Internal.Rs s.heap ρ acc vs→
 (∀s' vs' k',ad c (S::I) ρ s ρ σ s'→s'.heap.get? S=some (aB vs' k')→Internal.Rs s'.heap ρ (acc++l) vs'→R (.ok (.ret res)) s')→
 codeAny (model c.prog c.w) A (.builtin "list.extend.loop" ⟨[.ref S,.ref a,res],[]⟩) R s:=by
 induction n with
 |zero=>exact fun u_ u_ u_ u_ u_ u_ e u_ u_ u_ u_ u_ u_ u_ u_=>no e
 |succ n ih=>
  intro t l s acc vs k e hz st g i hp hS ra hR;refine IS J8 ?_;rw[Jq JP _];show II _ A.in1 (pyNext (.ref a)>>=_) _ _ s;refine ae e fun r hn e=> ?_
  and_intros
  refine im e (fun hr e=> ?_) fun p hr e=> ?_
  ·subst hr;obtain rfl:=IH e;refine IJ (It.pull0 (A:=A.in1) hh ok st g i hn fun KH KG=> ?_);have Ll:KH.heap.get? S=some (aB vs k):=KG.ext.get (fun m=>(GP.mp m).elim hSI (st.disj S hp)) hS rfl;refine IK (hR KH vs k (KG.wider fun b m=> .tail _ m) Ll ?_);rw[G4];exact ad.Rs i.priv.1 KG ra
  ·subst hr;refine aN e fun l' hl' e=> ?_;subst e;refine IJ (It.pull (A:=A.in1) hh ok st g i hn fun w KH KG rv Ls=> ?_);have Ll:KH.heap.get? S=some (aB vs k):=KG.ext.get (fun m=>(GP.mp m).elim hSI (st.disj S hp)) hS rfl
   have hv:vs.length≤2^20:=by rw[←ra.length];exact asl ‹_›
   show II _ A.in1 (updateSeq S (·.push w)>>=_) _ _ _
   refine IJ (I5 Ll rfl ?_ (by simp;exact HX hv (by decide)) (by simp;exact HX hv (by decide)))
   have hg:(KH.heap.update S (Kj (·.push w))).get? S=some (aB (vs++[w]) (k+1)):=by
    rw[Kb _ Ll (by rw[ei];rfl),ei]
   have KJ:ad c [S] ρ KH ρ σ {KH with heap:=KH.heap.update S (Kj (·.push w)),toks:=KH.toks}:=ad.same (t:=KH.toks) ok KG.sto KG.gd hp (Kf ..)
   have Lj:=ad.itr KG.sto (by simpa using hp) (fun y m q=>hSI (by rw[GR.mp q]at m;exact m)) KJ Ls
   have Mc:=ad.Rs (by simpa using hp) KJ ((ad.Rs i.priv.1 KG ra).append (.cons rv .nil))
   refine IK ⟨IU JP _,ih p.2 l' _ (acc++[p.1]) (vs++[w]) (k+1) hl' (by simp at hz⊢;exact EC ‹_›) KJ.sto KJ.gd Lj hp hg Mc fun s' vs' k' KV h3 r3=> ?_⟩
   refine hR s' vs' k' (((KG.wider fun b m=> .tail _ m).trans (KJ.wider (by exact HG ..))).trans KV) h3 ?_
   rw[G0]at r3;exact r3
namespace F2
theorem nolen_lri:typeLookup (.type "list_reverseiterator") "__len__"=pure none:=by rw[Jb,Jc];exact rfl
theorem hint_lri:typeLookup (.type "list_reverseiterator") "__length_hint__"=pure (some (.builtin "list_reverseiterator.__length_hint__")):=by rw[Jb,Jc];exact rfl
end F2
theorem oS{Q:List Value→Shared→Prop}(hh:A.handled=none)(ok:c.Ok)(st:aQ c ρ σ s.heap)(g:Gd c s.heap)(e:mr σ n (.revl k i)=some l)(hz:l.length≤2^20)(it:bC s.heap ρ (.revl k i) I a)
 (hQ: ∀KF s' vs,ad c I ρ s KF σ s'→Internal.Rs s'.heap KF l vs→Q vs s'):II (model c.prog c.w) A (collect (.ref a)) Q E s:=by
 unfold collect
 ac_rfl
 refine IJ (wpAny_runValue (IS F.entry_proto_collect ?_));rw[Jq F.plain_proto_collect _];show II _ A.in1 (newList []>>=fun l=>again (.builtin "list.__iadd__" ⟨[l,.ref a],[]⟩)) _ _ s
 ac_rfl
 refine IJ (IR ?_);refine IK ⟨IU JV _,IS F.entry_list_iadd ?_⟩;rw[Jq JV _]
 have K4:af c ρ s ⟨ρ.r,s.heap.objs.size::ρ.p⟩ σ {s with heap:=s.heap.push (aB [] 0),toks:=s.toks}:=af.priv (t:=s.toks) ok st g
 have Md:=K4.itr st it;have hSI:s.heap.objs.size∉I:=fun m=>absurd (st.plow _ (it.priv.1 _ m)).2 (Ic _);have haI:a∈I:=it.priv.2;have hSa:s.heap.objs.size≠a:=fun q=>hSI (q▸haI)
 have h1:Jv (.ref s.heap.objs.size) (.ref a)=false:=by exact decide_eq_false (by assumption)
 have Ll:(s.heap.push (aB [] 0)).get? s.heap.objs.size=some (aB [] 0):=J9 _ rfl
 have hT:Shared.TypeIs {s with heap:=s.heap.push (aB [] 0),toks:=s.toks} (.ref a) "list_reverseiterator":=by
  cases Md with
  |revl h1 r p=>refine bW h1 fun o ho hc u_=> ?_;exact⟨o,ho,hc⟩
 show II _ A.in1 (Jt (.ref s.heap.objs.size) (.ref a) (.ref s.heap.objs.size)) _ _ {s with heap:=s.heap.push (aB [] 0),toks:=s.toks}
 unfold Jt
 ac_rfl
 refine IJ (I2 hT ?_)
 refine bV (by rw[h1];decide) ?_
 ac_rfl
 refine IJ (Md.iter_self ?_)
 ac_rfl
 refine IJ (IO ?_);unfold Jw
 ac_rfl
 refine IJ (I4 hT F2.nolen_lri ?_);show II _ A.in1 (specialOf (Kr a) (Kq "__length_hint__")>>=_) _ _ _
 ac_rfl
 refine IJ (I4 hT F2.hint_lri ?_)
 (generalize dw:("list_reverseiterator.__length_hint__":String)=id0;(fail_if_success (clear dw id0));wp_delta;rw[show splitId id0=some ("list_reverseiterator","__length_hint__")from by subst dw;decide+kernel];subst dw)
 ac_rfl
 refine IJ (I8 (b:=true) hT (by rw[Je];exact rfl) ?_)
 refine IK ?_
 refine bV (by decide) ?_
 refine IK ⟨IU JP _,ul (c:=c) (σ:=σ) hh ok hSI n _ l _ [] [] 0 e (by simpa using hz) K4.sto K4.gd Md (.head _) Ll .nil fun s' vs' k' KG h3 r3=> ?_⟩
 show II _ A (load s.heap.objs.size>>=_) _ _ s'
 ac_rfl
 refine IJ (wpAny_load h3 ?_)
 refine IK (hQ _ s' _ (ad.trans' (K4.D (D:=I)) KG fun b m=> ?_) (by simpa using r3))
 rcases GY.mp m with rfl|q
 ·exact .inr (HY _)
 ·exact .inl q
theorem qO(hh:A.handled=none)(ok:c.Ok)(st:aQ c ρ σ s.heap)(g:Gd c s.heap)(e:mr σ n (.revl k i)=some l)(hz:l.length≤2^20)(it:bC s.heap ρ (.revl k i) I a):
 II (model c.prog c.w) A (call (.type "tuple") [.ref a]) (fun v s'=> ∃KF,ad c I ρ s KF σ s'∧Internal.R s'.heap KF (.tup l) v) (cH c ρ s (.ok (V.tup l) σ)) s:=by
 have ip:=it.priv.1
 have hT:s.TypeIs (.ref a) "list_reverseiterator":=by
  cases it with
  |revl h1 r p=>refine bW h1 fun o ho hc u_=> ?_;exact⟨o,ho,hc⟩
 refine callType_codes (Q₁:=fun obj KH=>KH.TypeIs obj "tuple"∧ ∃KF,ad c I ρ s KF σ KH∧Internal.R KH.heap KF (.tup l) obj) JO (J6 _) F.entry_object_init ?_ fun obj KH KR=> ?_
 ·refine Jk ?_
  show II _ A.in1.in1 (do checkBuiltinCall "tuple.__new__" ⟨[.type "tuple",.ref a],[]⟩;again (.builtin "tuple.__new__" ⟨[.type "tuple",.ref a],[]⟩)) _ _ s
  refine IJ (IQ (F.newCall_tuple_1 _) (IK ⟨IU JW _,IS F.entry_tuple_new ?_⟩));rw[Jq JW _];have hsub:=sub_tuple_self;have hinit:=init_tuple_lookup;have hmh:=madeHere_tuple;have hh':A.in1.in1.handled=none:=hh
  wp_walk using I2 hT,oS (A:=A.in1.in1) hh' ok st g e hz it
  intro KF s' vs S rs;show II _ _ (JI vs.toArray>>=fun v=>ret v) _ _ _;unfold JI
  refine IJ (IR ?_ (by show vs.toArray.size≤sizeLine;simp[←rs.length];exact HX hz (by decide)))
  have KJ:af c KF s' KF σ {s' with heap:=s'.heap.push (ao vs 0),toks:=s'.toks}:=af.push (t:=s'.toks) ok S.sto S.gd
  exact IK ⟨⟨_,J9 _ rfl,rfl⟩,KF,S.trans KJ.D,.tup (J9 _ rfl) (S.sto.new (HY _)) (KJ.Rs rs)⟩
 ·exact⟨KR.1,J7 obj _,object_init_meets JO.init.lookup JO.made (by exact ac) c.prog c.w A.in1 _ KH ⟨KR.1,rfl,KR.2⟩⟩
noncomputable def gv(o:Option (aG V)):Option (aG IV):=o.map fun r=> @aG.casesOn V (fun u_=>aG IV) r (fun x σ=> .ok (.v x) σ) fun cls σ=> .exc cls σ
noncomputable abbrev eY:=Sg→List IV→List (Str×V)→Option (aG IV)
variable (c)in
noncomputable def Az(A:Around)(ρ:Pl)(s:Shared)(f:Value)(I:List Addr)(vs:List Value)(kv:List (Str×Value))(o:aG IV):Prop:=
 II (model c.prog c.w) A (call f vs kv) (qr c I (fun h KF x v=> ∃J,nS h KF x J v∧ ∀a∈J,a∈I∨s.heap.objs.size≤a) ρ s o) (jz c I ρ s o) s
variable (c)in
structure vh(A:Around)(ρ:Pl)(σ:Sg)(s:Shared):Prop where
 hh:A.handled=none
 ok:c.Ok
 st:aQ c ρ σ s.heap
 g:Gd c s.heap
variable (c)in
noncomputable def iK(f:Value)(k:eY):Prop:= ∀{A:Around} {ρ:Pl} {σ:Sg} {s:Shared} {xs:List IV} {ks:List (Str×V)} {I:List Addr} {vs:List Value} {kv:List (Str×Value)} {o:aG IV},
 vh c A ρ σ s→cQ s.heap ρ xs I vs→Rk s.heap ρ ks kv→k σ xs ks=some o→Az c A ρ s f I vs kv o
noncomputable def h1(k:Sg→IV→List (Str×V)→Option (aG IV)):eY:=fun σ xs ks=>match xs with
 |[]=>none
 |x::l=>match l with
  |[]=>k σ x ks
  |_::_=>none
noncomputable def h2(k:Sg→IV→IV→List (Str×V)→Option (aG IV)):eY:=fun σ xs ks=>match xs with
 |[]=>none
 |x::l=>h1 (fun σ y ks=>k σ x y ks) σ l ks
noncomputable def zN(f:Sg→IV→Option (aG IV)):Sg→IV→List (Str×V)→Option (aG IV):=fun σ x ks=>match ks with
 |[]=>f σ x
 |_::_=>none
noncomputable def Dn(f:Sg→V→V→Option (aG IV)):Sg→IV→IV→List (Str×V)→Option (aG IV):=fun σ x y ks=>match x with
 | .v x=>match y with
  | .v y=>match ks with
   |[]=>f σ x y
   |_::_=>none
  | .it _=>none
 | .it _=>none
noncomputable def onV(f:Sg→V→Option (aG IV)):Sg→IV→Option (aG IV):=fun σ x=>match x with
 | .v x=>f σ x
 | .it _=>none
noncomputable def f7(f:Sg→V→Option (aG IV)):eY:=h1 (zN (onV f))
noncomputable def nU(f:Sg→V→V→Option (aG IV)):eY:=h2 (Dn f)
theorem AJ{f:Value}{k:Sg→IV→List (Str×V)→Option (aG IV)}(h: ∀{A ρ σ s x I v ks kv o},vh c A ρ σ s→nS s.heap ρ x I v→Rk s.heap ρ ks kv→k σ x ks=some o→Az c A ρ s f (I++[]) [v] kv o):iK c f (h1 k):=fun S r rk e=>by
 cases r with
 |nil=>exact no e
 |cons r rs _=>
  cases rs with
  |nil=>exact h S r rk e
  |cons=>exact no e
theorem nZ{f:Value}{k:Sg→IV→Option (aG IV)}(h: ∀{A ρ σ s x I v o},vh c A ρ σ s→nS s.heap ρ x I v→k σ x=some o→Az c A ρ s f (I++[]) [v] [] o):iK c f (h1 (zN k)):=AJ fun S r rk e=>by
 cases rk with
 |nil=>exact h S r e
 |cons=>exact no e
theorem fc{f:Value}{k:Sg→V→Option (aG IV)}(h: ∀{A ρ σ s x v o},vh c A ρ σ s→R s.heap ρ x v→k σ x=some o→Az c A ρ s f ([]++[]) [v] [] o):iK c f (f7 k):=nZ fun S r e=>by
 cases r with
 |v r=>exact h S r e
 |it=>exact no e
theorem jD{f:Value}{k:Sg→V→V→Option (aG IV)}(h: ∀{A ρ σ s x v y w o},vh c A ρ σ s→R s.heap ρ x v→R s.heap ρ y w→k σ x y=some o→Az c A ρ s f ([]++([]++[])) [v,w] [] o):iK c f (nU k):=fun S r rk e=>by
 cases r with
 |nil=>exact no e
 |cons r rs _=>
 cases rs with
 |nil=>exact no e
 |cons q qs _=>
 cases qs with
 |cons=>exact no e
 |nil=>
 cases r with
 |it=>exact no e
 |v r=>
 cases q with
 |it=>exact no e
 |v q=>
 cases rk with
 |cons=>exact no e
 |nil=>exact h S r q e
noncomputable def B_(k k':eY):eY:=fun σ xs ks=>(k σ xs ks).or (k' σ xs ks)
theorem lM{f:Value}{k k':eY}(h:iK c f k)(h':iK c f k'):iK c f (B_ k k'):=fun {_ _ σ _ xs ks _ _ _ _} S r rk e=>by
 unfold B_ at e
 cases q:k σ xs ks with
 |none=>rw[q]at e;exact h' S r rk e
 |some o=>rw[q]at e;obtain rfl:=IH e;exact h S r rk q
noncomputable def tD(tab:List (String×eY))(T:String):eY:=fun σ xs ks=>match tab.lookup T with
 |some k=>k σ xs ks
 |none=>none
theorem wT{F:String→Value}{tab:List (String×eY)}:(∀p∈tab,iK c (F p.1) p.2)→iK c (F T) (tD tab T):=by
 induction tab with
 |nil=>intro _;exact fun u_ u_ u_ e=>no e
 |cons p l ih=>
  intro h;exact fun S r rk e=>by
   obtain⟨x,k⟩:=p;unfold tD at e;rw[G7]at e
   cases q:T==x with
   |true=>rw[q]at e;exact GN q▸h _ (.head _) S r rk e
   |false=>rw[q]at e;exact ih (fun p m=>h p (.tail _ m)) S r rk e
noncomputable def Ea:=f7 fun σ x=>(Ep σ x).map fun i=> .ok (.v (.int i)) σ
noncomputable def D0:=f7 fun σ x=>(cY x).map fun i=> .ok (.v (.int (if i<0 then-i else i))) σ
noncomputable def Du:=f7 fun σ x=>(BS σ x).map fun i=> .ok (.v (.int i)) σ
noncomputable def r8:=f7 fun σ x=>(oI σ x).map fun l=> .ok (.v (.lst σ.length)) (σ++[.lst l])
noncomputable def CG:=f7 fun σ x=>(gJ x).bind fun k=>(D5 σ k).map fun p=> .ok (.v p.1) p.2
noncomputable def Dy(K:Frag):=nU fun σ x y=>(DD K x y).map fun b=> .ok (.v (.bool b)) σ
noncomputable def sI:=nU fun σ x y=>(gJ x).bind fun k=>(cD σ k y).map fun KD=> .ok (.v .none) KD
noncomputable def vc:=nU fun σ x y=>(gJ x).bind fun k=>(cY y).bind fun i=>(mC σ k i).map fun p=> .ok (.v p.1) p.2
noncomputable def CF:=nU fun σ x y=>(cY x).bind fun a=>(cY y).map fun b=> .ok (.v (.int (if b>a then b else a))) σ
noncomputable def Do:=nU fun σ x y=>(cY x).bind fun a=>(cY y).map fun b=> .ok (.v (.int (if b<a then b else a))) σ
noncomputable def wM(K:Frag):List (String×eY):=[("len",Ea),("abs",D0),("sum",Du),("sorted",r8),("list.pop",B_ CG vc),("isinstance",Dy K),("list.append",sI),("max",CF),("min",Do)]
theorem bn.iv{t:Sem Value}(h:bn c A t ρ s (.ok y KD)):II (model c.prog c.w) A t (qr c I (fun h KF x v=> ∃J,nS h KF x J v∧ ∀a∈J,a∈I∨s.heap.objs.size≤a) ρ s (.ok (.v y) KD)) (jz c I ρ s (.ok (IV.v y) KD)) s:=
 IM h (fun v s' ⟨KF,S,r⟩=>⟨KF,S.D,[],.v r,by simp⟩) fun u_ u_ f=>f
theorem A5:iK c (.builtin "len") Ea:=fc fun S r e=>aN e fun i hi w=>w▸(wo S.st S.g hi r).iv
theorem Cj:iK c (.builtin "abs") D0:=fc fun S r e=>aN e fun i hi w=>by obtain rfl:=b_ hi;obtain⟨_,rfl⟩:=r.intQ;exact w▸(xu S.st S.g).iv
theorem Bk:iK c (.builtin "sum") Du:=fc fun S r e=>aN e fun i hi w=>w▸(wg S.hh S.ok S.st S.g hi r).iv
theorem uD:iK c (.builtin "sorted") r8:=fc fun S r e=>aN e fun i hi w=>w▸(pA S.ok S.st S.g hi r).iv
theorem Cb:iK c (.builtin "list.pop") CG:=fc fun S r e=>ae e fun k hk w=>aN w fun p hi w=>by obtain rfl:=gj hk;exact w▸(wj S.ok S.st S.g hi r).iv
theorem uZ:iK c (.builtin "list.pop") vc:=jD fun S r q e=>ae e fun k hk w=>ae w fun i hi w=>aN w fun p hp w'=>by obtain rfl:=gj hk;obtain rfl:=b_ hi;obtain⟨_,rfl⟩:=q.intQ;exact w'▸(qZ S.ok S.st S.g hp r).iv
theorem A8:iK c (.builtin "isinstance") (Dy c.K):=jD fun S r q e=>aN e fun i hi w=>w▸(wZ S.ok S.st S.g hi r q).iv
theorem uu:iK c (.builtin "list.append") sI:=jD fun S r q e=>ae e fun k hk w=>aN w fun p hi w=>by obtain rfl:=gj hk;exact w▸(j_ S.ok S.st S.g hi r q).iv
theorem Be:iK c (.builtin "max") CF:=jD fun S r q e=>ae e fun k hk w=>aN w fun i hi w'=>by obtain rfl:=b_ hk;obtain rfl:=b_ hi;obtain⟨_,rfl⟩:=r.intQ;obtain⟨_,rfl⟩:=q.intQ;exact w'▸(uU S.hh S.ok S.st S.g).iv
theorem BJ:iK c (.builtin "min") Do:=jD fun S r q e=>ae e fun k hk w=>aN w fun i hi w'=>by obtain rfl:=b_ hk;obtain rfl:=b_ hi;obtain⟨_,rfl⟩:=r.intQ;obtain⟨_,rfl⟩:=q.intQ;exact w'▸(we S.hh S.ok S.st S.g).iv
theorem BB{id:String}:iK c (.builtin id) (tD (wM c.K) id):=
 wT (F:= .builtin) (aj A5 (aj Cj (aj Bk (aj uD (aj (lM Cb uZ) (aj A8 (aj uu (aj Be (aj BJ bZ)))))))))
namespace F2
theorem tc_zip2(a b:Value):checkTypeCall "zip" ⟨[a,b],[]⟩=pure ():=by kernel_rfl
theorem tc_zip3(a b d:Value):checkTypeCall "zip" ⟨[a,b,d],[]⟩=pure ():=by kernel_rfl
theorem nc_zip2(a b:Value):checkBuiltinCall "zip.__new__" ⟨[.type "zip",a,b],[]⟩=pure ():=by kernel_rfl
theorem nc_zip3(a b d:Value):checkBuiltinCall "zip.__new__" ⟨[.type "zip",a,b,d],[]⟩=pure ():=by kernel_rfl
theorem oi3(o a b:Value):argsOk "object.__init__" ⟨[o,a,b],[]⟩:=by
 unfold argsOk;rw[Jf (id:="object.__init__") (n:=['_','_','t','i','n','i','_','_']) (o:=['t','c','e','j','b','o']) rfl J4];exact rfl
theorem oi4(o a b d:Value):argsOk "object.__init__" ⟨[o,a,b,d],[]⟩:=by
 unfold argsOk;rw[Jf (id:="object.__init__") (n:=['_','_','t','i','n','i','_','_']) (o:=['t','c','e','j','b','o']) rfl J4];exact rfl
end F2
theorem cQ.len{xs:List IV}(r:cQ h ρ xs I vs):vs.length=xs.length:=cQ.rec (motive:=fun xs u_ vs u_=>vs.length=xs.length) rfl (fun u_ u_ u_ ih=>congrArg (· +1) ih) r
theorem Ez{l:List α}(h:l.length=2): ∃a b,l=[a,b]:=by
 cases l with
 |nil=>cases h
 |cons a l=>cases l with
  |nil=>cases h
  |cons b l=>exact⟨a,b,congrArg (a::b:: ·) (Hb (IC (IC h)))⟩
theorem Fe{l:List α}(h:l.length=3): ∃a b d,l=[a,b,d]:=by
 cases l with
 |nil=>cases h
 |cons a l=>
  refine rh (Ez (IC h)) fun b d zz2=> ?_;subst zz2;exact⟨a,b,d,rfl⟩
noncomputable def Ds:eY:=fun σ xs ks=>match ks with
 |[]=>if xs.length=2∨xs.length=3 then(jH σ xs).bind fun ts=>if ts.length≤64 then some (.ok (.it (.zip ts)) σ)else none else none
 |_::_=>none
noncomputable def Ar:=h1 (zN fun σ x=>(aC σ x).map fun t=> .ok (.it (.enum t 0)) σ)
noncomputable def wn:=h1 fun σ x ks=>match ks with
 |[]=>none
 |(k,n)::l=>match l with
  |[]=>(cY n).bind fun n=>if k="start"∧JG n=true then(aC σ x).map fun t=> .ok (.it (.enum t n)) σ else none
  |_::_=>none
noncomputable def zT:=f7 fun σ x=>(zY σ x).map fun l=> .ok (.v (.lst σ.length)) (σ++[.lst l])
noncomputable def wG:=f7 fun σ x=>(qS σ x).map fun l=> .ok (.v (.tup l)) σ
noncomputable def wU:IV→Option (Nat×Nat)
 | .it (.revl k i)=>some (k,i)
 |_=>none
theorem yD{x:IV}{p:Nat×Nat}(e:wU x=some p):x= .it (.revl p.1 p.2):=by
 cases x with
 |v=>exact no e
 |it t=>cases t<;>first|exact no e|(obtain rfl:=IH e;rfl)
noncomputable def ou:=h1 (zN fun σ x=>(wU x).bind fun p=>(mr σ 4096 (.revl p.1 p.2)).bind fun l=>if l.length≤2^20 then some (.ok (.v (.tup l)) σ)else none)
noncomputable def vp:=f7 fun σ x=>(cY x).map fun n=> .ok (.v (.rng 0 n 1)) σ
noncomputable def rT:=nU fun σ x y=>(cY x).bind fun a=>(cY y).map fun b=> .ok (.v (.rng a b 1)) σ
noncomputable def D6:=f7 fun σ x=>(gJ x).bind fun k=>(aI σ k).map fun l=> .ok (.it (.revl k l.length)) σ
noncomputable def z7:=f7 fun σ x=>(eN x).bind fun l=>if l.length≤2^20 then some (.ok (.it (.revt l l.length)) σ)else none
noncomputable def vS:List (String×eY):=[("zip",Ds),("enumerate",B_ Ar wn),("list",zT),("tuple",B_ wG ou),("range",B_ vp rT),("reversed",B_ D6 z7)]
theorem Az.it{f:Value}(h: ∀{Q E},(∀KF J a s',af c ρ s KF KD s'→bC s'.heap KF t J a→(∀x∈J,x∈I∨s.heap.objs.size≤x)→Q (.ref a) s')→II (model c.prog c.w) A (call f vs kv) Q E s):Az c A ρ s f I vs kv (.ok (.it t) KD):=
 h fun KF J u_ u_ S i k=>⟨KF,S.D,J,.it i,k⟩
theorem zy:iK c (.type "zip") Ds:=fun {_ _ _ _ xs _ _ _ _ _} S r rk e=>by
 cases rk with
 |cons=>exact no e
 |nil=>
 refine bI e fun h24 e=>ae e fun ts hts e=>bI e fun hz e=> ?_;obtain rfl:=IH e;refine .it fun fin=> ?_
 rcases h24 with h|h
 ·refine rh (Ez (r.len.trans h)) fun a b zz2=> ?_;subst zz2;exact pj S.ok S.st S.g hts r hz (F2.tc_zip2 _ _) (F2.nc_zip2 _ _) (fun o=>F2.oi3 o _ _) fin
 ·refine C1 (Fe (r.len.trans h)) fun a b d zz3=> ?_;subst zz3;exact pj S.ok S.st S.g hts r hz (F2.tc_zip3 _ _ _) (F2.nc_zip3 _ _ _) (fun o=>F2.oi4 o _ _ _) fin
theorem nD{x:Addr}(q:x∈I∨n≤x):x∈I++[]∨n≤x:=q.imp (fun q=>G' _ q) id
theorem vn:iK c (.type "enumerate") Ar:=nZ fun {A ρ σ s x I v o} S r e=>aN e fun t ht w=>w▸Az.it fun h=>uw S.ok S.st S.g ht r fun KF J a s' S i k=>h KF J a s' S i fun z m=>nD (k z m)
theorem uW:iK c (.type "enumerate") wn:=AJ fun S r rk e=>by
 cases rk with
 |nil=>exact no e
 |cons r1 rk=>
 cases rk with
 |cons=>exact no e
 |nil=>
 refine ae e fun n hn w=>bI w fun hk w=>aN w fun t ht w'=> ?_;obtain rfl:=b_ hn;obtain⟨_,rfl⟩:=r1.intQ;rw[hk.1,←w'];exact .it fun h=>km S.ok S.st S.g ht r hk.2 fun KF J a s' S i k=>h KF J a s' S i fun z m=>nD (k z m)
theorem yH:iK c (.type "list") zT:=fc fun S r e=>aN e fun t ht w=>w▸(uc S.hh S.ok S.st S.g ht r).iv
theorem wJ:iK c (.type "tuple") wG:=fc fun S r e=>aN e fun t ht w=>w▸(qR S.ok S.st S.g ht r).iv
theorem tU:iK c (.type "tuple") ou:=nZ fun S r e=>ae e fun p hp w=>ae w fun l hl w=>bI w fun hz w=>by
 obtain rfl:=yD hp;obtain rfl:=IH w
 cases r with
 |it i=>exact IM (qO S.hh S.ok S.st S.g hl hz i) (fun v s' ⟨KF,S,r'⟩=>⟨KF,S.wider (fun a m=>G' _ m),[],.v r',bZ⟩) fun u_ u_ f=>f.elim
theorem wA:iK c (.type "range") vp:=fc fun S r e=>aN e fun t ht w=>by obtain rfl:=b_ ht;obtain⟨_,rfl⟩:=r.intQ;exact w▸(uB S.ok S.st S.g).iv
theorem tn:iK c (.type "range") rT:=jD fun S r q e=>ae e fun k hk w=>aN w fun i hi w'=>by obtain rfl:=b_ hk;obtain rfl:=b_ hi;obtain⟨_,rfl⟩:=r.intQ;obtain⟨_,rfl⟩:=q.intQ;exact w'▸(ug S.ok S.st S.g).iv
theorem A1:iK c (.type "reversed") D6:=fc fun S r e=>ae e fun k hk w=>aN w fun l hl w'=>by
 obtain rfl:=gj hk;subst w';exact .it fun h=>oy S.ok S.st S.g (bE hl) r fun KF J a s' S i k=>h KF J a s' S i fun z m=> .inr (k z m)
theorem zB:iK c (.type "reversed") z7:=fc fun S r e=>ae e fun l hl w=>bI w fun hz w=>by
 obtain rfl:=eA hl;obtain rfl:=IH w;exact .it fun h=>oP S.ok S.st S.g r hz fun KF J a s' S i k=>h KF J a s' S i fun z m=> .inr (k z m)
theorem B3:iK c (.type T) (tD vS T):=
 wT (F:= .type) (aj zy (aj (lM vn uW) (aj yH (aj (lM wJ tU) (aj (lM wA tn) (aj (lM A1 zB) bZ))))))
noncomputable def ox:List IV→Option (List V)
 |[]=>some []
 | .v x::l=>(ox l).map (x:: ·)
 |_=>none
theorem yx{xs:List IV}(r:cQ h ρ xs I vs):ox xs=some l→Rs h ρ l vs:=
 cQ.rec (motive:=fun xs u_ vs u_=> ∀l,ox xs=some l→Rs h ρ l vs) (fun l e=>IH e▸ .nil) (fun r u_ u_ ih l e=>by
  cases r with
  |v r=>exact aN e fun l' h1 w=>w▸ .cons r (ih l' h1)
  |it=>exact no e) r l
variable (c)in
noncomputable def qX(cf:cb):mE:=fun σ fv xs ks=> @Value.casesOn (fun u_=>Option (aG IV)) fv none none none (fun u_=>none) (fun u_ u_=>none) (fun u_ u_=>none) (fun u_ u_=>none) (fun u_ u_=>none) (fun T=>tD vS T σ xs ks) (fun id=>tD (wM c.K) id σ xs ks) fun a=>(ox xs).bind fun l=>gv (match lY c.K a with
 |some _=>cf σ a l ks
 |none=>nH c cf σ a l ks)
theorem kT.iv{a:Value}(h:kT c A (.call a ⟨vs,kv⟩) ρ s o)(e:gv (some o)=some o'):
 II (model c.prog c.w) A (call a vs kv) (qr c I (fun h KF x v=> ∃J,nS h KF x J v∧ ∀a∈J,a∈I∨s.heap.objs.size≤a) ρ s o') (jz c I ρ s o') s:=by
 refine I9 (I7 h fun r s' z=> ?_)
 cases o with
 |ok x KD=>
  obtain rfl:=IH e
  rcases r with ev|(v|_|_|_)
  ·exact z.elim
  ·exact z.elim
  ·exact z.elim
  ·exact z.elim
  ·refine aL z fun KF S r=> ?_
   exact⟨KF,S.D,[],.v r,by simp⟩
 |exc cls KD=>
  obtain rfl:=IH e
  rcases r with ev|(v|_|_|_)
  ·exact cH.toD (α:=IV) z
  ·exact z.elim
  ·exact z.elim
  ·exact z.elim
  ·exact z.elim
theorem lF{cf:cb}(hc:dF c (d+1) cf)(hc':dF c d cf):zq c (d+1) (qX c cf):=by
 intro A ρ σ s fv xs ks I vs kv o e ok st g room r rk
 cases fv with
 |ref a=>
  refine ae e fun l hl e=> ?_;have rl:=yx r hl;generalize lY c.K a=f at e
  cases f with
  |some _=>
   generalize hq:cf σ a l ks=q at e
   cases q with
   |none=>exact no e
   |some Lk=>exact(hc hq ok st g room rl rk).iv e
  |none=>
   generalize hq:nH c cf σ a l ks=q at e
   cases q with
   |none=>exact no e
   |some Lk=>exact(ua hc' hq ok st g room rl rk).iv e
 |type T=>exact B3 ⟨room.hand,ok,st,g⟩ r rk e
 |builtin id=>exact BB ⟨room.hand,ok,st,g⟩ r rk e
 |_=>exact no e
noncomputable def tL(name:Str)(y:V):List (Str×V)→List (Str×V)
 |[]=>[(name,y)]
 |(n,x)::r=>if(n==name)=true then(n,y)::r else(n,x)::tL name y r
theorem Rf.put{hsh:Int}{t:Tok}(ry:R h ρ y v){es:List DictEntry}(r:Rf h ρ fs es):Rf h ρ (tL name y fs) (putL name hsh (.str name t) v es):=
 Rf.rec (motive:=fun fs es u_=>Rf h ρ (tL name y fs) (putL name hsh (.str name t) v es)) (.cons rfl ry .nil) (fun {n u x e fs es} hk r rs ih=>by
  have hs:e.key.isStr name=(n==name):=by rw[hk];rfl
  refine(?_:Rf h ρ (if(n==name)=true then _ else _) (if e.key.isStr name=true then _ else _))
  rw[hs]
  by_cases q:(n==name)=true
  ·rw[if_pos q,if_pos q];exact .cons hk ry rs
  ·rw[if_neg q,if_neg q];exact .cons hk r ih) r
theorem Rf.len{es:List DictEntry}(r:Rf h ρ fs es):fs.length=es.length:=Rf.rec (motive:=fun fs es u_=>fs.length=es.length) rfl (fun u_ u_ u_ ih=>congrArg (· +1) ih) r
theorem xy(name:Str)(hsh:Int)(k v:Value)(es:List DictEntry):(putL name hsh k v es).length≤es.length+1:=by
 induction es with
 |nil=>exact HY _
 |cons e es ih=>
  unfold putL
  split
  ·exact H3 _
  ·exact Nat.succ_le_succ ih
theorem oX(name:Str)(hsh:Int)(key v:Value)(es:List DictEntry)(n:Nat)(sl:Array (Option Value)):Obj.putName name hsh key v (fw es n sl)=fw (putL name hsh key v es) (putN name es n) sl:=by
 rw[Obj.putName_eq];unfold Obj.putNameByArray fw putN;have h1:=putL_find name hsh key v es;have h2:=any_of_findIdx name es;simp only[List.findIdx?_toArray]
 cases h:List.findIdx? (fun x=>x.key.isStr name) es with
 |none=>rw[h]at h1 h2;rw[←h2,←h1];simp
 |some i=>rw[h]at h1 h2;rw[←h2,←h1];simp
variable (c)in
noncomputable def di(σ:Sg)(x:V)(name:Str)(y:V):Option Sg:=(DC x).bind fun p=>(fH σ p.1.2).bind fun fs=>if findIn c.K (.ref p.1.1) "__setattr__"=some (some (.builtin "object.__setattr__"))∧plainOver c.K p.1.1=true∧takerIn c.K p.1.1 name=some none∧hasDictIn c.K p.1.1=true∧fs.length≤900 then some (σ.set p.1.2 (.dct (tL name y fs)))else none
theorem n9(ok:c.Ok)(st:aQ c ρ σ s.heap)(g:Gd c s.heap)(e:di c σ x name y=some KD)(r:R s.heap ρ x v)(q:R s.heap ρ y w):
 II (model c.prog c.w) A (setAttr v name w) (fun u_ s'=>af c ρ s ρ KD s') E s:=by
 refine eX e fun p KM=>ae KM fun fs hk K2=>bI K2 fun hc Lz=> ?_;clear e KM K2;replace hk:=n7 hk;obtain⟨⟨C,k⟩,rfl⟩:=p;refine Ex hc fun h1 h2 h3 h4 h5=> ?_;obtain rfl:=IH Lz;refine cC (kI st hk r) fun xa es n sl zz4 I hdx rf=> ?_;subst zz4
 have hrk: ∃dx,ρ.r[k]? =some dx:=by
  cases r with
  |inst _ _ h=>exact⟨_,h⟩
 refine oE hrk fun dx hdxk=> ?_
 have edx:ρ.r[k]?.getD 0=dx:=by rw[hdxk];rfl
 rw[edx]at I hdx
 refine set_plain g.kin I h1 (osa_open (s:={s with toks:=s.toks+1}) g.kin I h2 h3 fun b=> ?_)
 refine aL (any_some h4) fun cd hcd hd'=> ?_;obtain⟨hx,hcl,hn,-⟩:=id I
 ac_rfl
 refine IJ (IK (IJ (IJ (wpAny_loadPart hx (IJ (Looks.here (s:={s with toks:=s.toks+1}) (looks_clsIn g.kin hcd) ?_))))))
 rw[hd'];refine IK (a:=some dx) (IJ (IK (IJ ?_)));unfold nsSet
 ac_rfl
 refine IJ (IJ (wpAny_askSetting (IK (IJ (wpAny_mkText (IJ (wpAny_loadPart hdx ?_)))))));dsimp only
 have hc0:(!es.toArray.any (·.key.isStr name)&&es.toArray.any (·.refKey))=false:=by
  rw[←Array.any_toList,←Array.any_toList];have:=(rf.get (name:=name)).1;exact(fun {x y}↦Bool.and_eq_false_imp.mpr) fun a↦this
 rw[aRefKeyMayBeTheName_at,hc0];refine wpAny_updatePart hdx ?_;have pe:=oX name (Ko c.w.params name) (.str name (s.toks+1)) w es n sl
 have hg:(s.heap.update dx (Obj.putName name (Ko c.w.params name) (.str name (s.toks+1)) w)).get? dx=some (fw (putL name (Ko c.w.params name) (.str name (s.toks+1)) w es) (putN name es n) sl):=by
  rw[Kb _ hdx (by rw[pe];rfl),pe]
 have hl:(putL name (Ko c.w.params name) (.str name (s.toks+1)) w es).length≤1000:=by
  have:=xy name (Ko c.w.params name) (.str name (s.toks+1)) w es;have:=rf.len;omega
 ac_rfl
 refine IJ (wpAny_lookBehind hg (pastItsLine_dict (by rw[Hi,sizeLine_eq];exact bg ‹_› (by exact ac))) ?_)
 refine IK ?_
 exact af.setCell (c:=c) (t:=s.toks+1+1) ok st g hdxk (Kf ..) fun k1 k2=>⟨_,_,_,hg,Rf.put (k1 q) (rf.mono (c:=c) (S:=[dx]) (fun a m f=>by rw[GR.mp m]at f;exact f.1 (Hp hdxk)) (.of_keeps fun b o nb eb=>((Kf (h:=s.heap) (a:=dx) (f:=Obj.putName name (Ko c.w.params name) (.str name (s.toks+1)) w)).2 b (fun qq=>nb (by simp[qq]))).trans eb) (Pl.Le.refl _ _))⟩
noncomputable def dO(σ:Sg)(k:Nat)(i:Int)(y:V):Option Sg:=(aI σ k).bind fun l=>if-(2^62)≤i∧i<2^62∧l.length≤2^20 then(seqIndex? i l.length).map fun j=>σ.set k (.lst (l.set j y))else none
theorem l6(vs:List Value)(w:Value)(n j:Nat):Kj (·.setIfInBounds j w) (aB vs n)=aB (vs.set j w) n:=by
 simp[Kj]
theorem Rs.setAt(q:R h ρ y w)(k:Nat)(r:Rs h ρ l vs):Rs h ρ (l.set k y) (vs.set k w):=Rs.ind (Q:=fun l vs=> ∀k,Rs h ρ (l.set k y) (vs.set k w)) (fun u_=> .nil) (fun r rs ih k=>by
 cases k with
 |zero=>exact .cons q rs
 |succ k=>exact .cons r (ih k)) r k
theorem tu{l:Addr}{k:Int}{t:Tok}{Q:Unit→Shared→Prop}(ho:s.heap.get? l=some (aB items.toList n))(h0:k<0)(h1: -(items.size:Int)≤k)(hfit: -(2^63)≤k)
 (hQ:Q () {s with heap:=s.heap.update l (Kj (·.setIfInBounds (k+items.size).toNat v))}):II (model c.prog c.w) A (setItem (.ref l) (.int k t) v) Q E s:=by
 have hl:s.heap.IsList l items:=⟨_,ho,rfl,n,rfl⟩;unfold setItem
 try with_reducible refine IO ?_
 first|refine IJ (IK ?_)|skip
 and_intros
 refine IJ (wpAny_sequenceKey hl.typeIs (by rfl) ?_)
 and_intros
 refine IJ (IX (name:=Kq "__setitem__") hl.typeIs slot_list_setitem
  (IT slot_list_setitem hl.typeIs entry_list_setitem ?_ (args_list_setitem _ _ _)))
 show II _ _ (Builtin.List.listSubscript? (.int k t)>>=_) _ _ s
 and_intros
 refine IJ (wpAny_listSubscript_int (fitsIndex_neg h0 hfit) ?_);clear hfit;have hidx:=seqIndex_neg h0 h1
 have hj:(k+items.size).toNat<items.size:=by omega
 have hx:items[(k+items.size).toNat]? =some items[(k+items.size).toNat]:=Array.getElem?_eq_getElem hj;generalize hkk:(k+items.size).toNat=jj at*
 obtain⟨j,rfl⟩: ∃j:Nat,k=Int.negSucc j:=by
  cases k with
  |ofNat n=>exact absurd h0 (Gz.mpr (Gx n))
  |negSucc n=>exact⟨n,rfl⟩
 show II _ _ ((Builtin.List.listItems (.ref l)>>=fun xs=>pure ((seqIndex? (Int.negSucc j) xs.size).bind fun i=>xs[i]?.map (i,·)))>>=_) _ _ s
 and_intros
 refine IJ (IJ ?_);show II _ _ (seqItems? (.ref l)>>=_) _ _ s
 and_intros
 refine IJ (I0 ho rfl (IK (IK ?_)));simp only[Array.toArray_toList];rw[hidx];simp only[IG,hx,Option.map_some];show II _ _ (setSeqItemAt l jj v>>=_) _ _ s
 and_intros
 refine IJ (wpAny_setSeqItemAt ho rfl ?_)
 first
  |exact IJ (IK (IK ⟨.none,rfl,IK hQ⟩))
  |exact IK ⟨.none,rfl,IK hQ⟩
set_option tactic.hygienic true in
theorem oR{k:Nat}{i:Int}{t:Tok}{y:V}{v w:Value}{KD:Sg}{E:Value→Shared→Prop}(ok:c.Ok)(st:aQ c ρ σ s.heap)(g:Gd c s.heap)(e:dO σ k i y=some KD)(r:R s.heap ρ (.lst k) v)(q:R s.heap ρ y w):
 II (model c.prog c.w) A (setItem v (.int i t) w) (fun _ s'=>af c ρ s ρ KD s') E s:=by
 refine ae e fun l hl KM=>bI KM fun hb K2=>aN K2 fun j hj zz2=> ?_;clear e KM K2;subst zz2
 cases r using R.lstE with
 | @lst la h1=>
 refine bc (st.at_ _ _ _ h1 (bE hl)) fun vs n o rs=> ?_
 have hlen:=rs.length
 have fin: ∀t',af c ρ s ρ (σ.set k (.lst (l.set j y))) {s with heap:=s.heap.update la (Kj (·.setIfInBounds j w)),toks:=t'}:=fun t'=>
  af.setCell ok st g h1 (Kf ..) fun k1 k2=>⟨vs.set j w,n,by rw[Kb _ o (by rw[l6];rfl),l6],Rs.setAt (k1 q) j (k2 rs)⟩
 unfold seqIndex? at hj;dsimp only at hj
 by_cases h0:i<0
 ·rw[if_pos h0]at hj
  split at hj
  ·rename_i hc;obtain rfl:=IH hj;simp only[Gj,decide_eq_true_eq]at hc
   refine tu (items:=vs.toArray) (n:=n) o h0 (by simp[←hlen];exact lnz (Ge ‹_›)) (ain ‹_› (by exact ac)) ?_
   have:=fin s.toks;simpa [hlen]using this
  ·exact no hj
 ·rw[if_neg h0]at hj
  split at hj
  ·rename_i hc;obtain rfl:=IH hj;simp only[Gj,decide_eq_true_eq]at hc
   exact ki_setAt (items:=vs.toArray) (n:=n) o (Gz.mp ‹_›) (aiu ‹_› (by exact ac)) (by simp[←hlen];omega) (fin s.toks)
  ·exact no hj
noncomputable abbrev uK:=Expr→En→Sg→V→Option (En×Sg)
noncomputable def fO(g:uK):List Expr→En→Sg→List V→Option (En×Sg)
 |[],en,σ,l=>match l with
  |[]=>some (en,σ)
  |_::_=>none
 |t::ts,en,σ,l=>match l with
  |[]=>none
  |y::ys=>(g t en σ y).bind fun p=>fO g ts p.1 p.2 ys
variable (c)in
noncomputable def eL(f:fP):Nat→uK
 |0,_,_,_,_=>none
 |n+1,t,en,σ,y=>(ik t).elim ((kh t).elim ((u7 t).elim ((FV t).bind fun p=>
  if bB p.1.2.1=true then(f en σ p.1.1).bind fun r=>(uN r).bind fun q=>(gJ q.1).bind fun k=>(f en q.2 p.1.2.1).bind fun r'=>(uN r').bind fun q'=>(cY q'.1).bind fun j=>(dO q'.2 k j y).map fun K3=>(en,K3)else none)
  fun p=>(f en σ p.1.1).bind fun r=>(uN r).bind fun q=>(di c q.2 q.1 p.1.2.1 y).map fun KI=>(en,KI))
  fun p=>(eN y).bind fun l=>if al p.1.1=true then fO (eL f n) p.1.1 en σ l else none)
  fun p=>if bH en p.1.1=true then some (en.set p.1.1 y,σ)else none
theorem nG{g:uK}: ∀{en en':En} {σ KD:Sg} {l:List V},fO g es en σ l=some (en',KD)→es.length=l.length:=by
 induction es with
 |nil=>intro en en' σ KD l e;cases l with
  |nil=>rfl
  |cons=>exact no e
 |cons t ts ih=>intro en en' σ KD l e;cases l with
  |nil=>exact no e
  |cons y ys=>exact ae e fun p u_ w=>congrArg (· +1) (ih w)
theorem jN:al es=true→assignEach es env=es.map fun t=>(false,assign t env):=by
 induction es with
 |nil=>exact fun u_=>rfl
 |cons e es ih=>
  intro h
  have h1: ∀x p,e≠ .Starred x p:=fun x p q=>eJ h x p (by rw[q];exact .head _)
  have:assignEach (e::es) env=(false,assign e env)::assignEach es env:=by cases e<;>first|rfl|exact absurd rfl (h1 _ _)
  rw[this,ih (bk h).2];rfl
variable (c)in
noncomputable def yI(d:Nat)(g:uK):Prop:= ∀{A:Around} {env:Env} {en en':En} {ρ:Pl} {σ KD:Sg} {s:Shared} {t:Expr} {y:V} {v:Value} {Q:Unit→Shared→Prop} {E:Value→Shared→Prop},g t en σ y=some (en',KD)→At c A env en ρ σ s d→R s.heap ρ y v→
 (∀KF s',bo c env ρ s KF KD s'→ba s'.heap KF env en'→Q () s')→II (model c.prog c.w) A (assign t env v) Q E s
theorem tI{g:uK}(hg:yI c d g): ∀{en en':En} {ρ:Pl} {σ KD:Sg} {s:Shared} {l:List V} {vs:List Value} {Q:Unit→Shared→Prop} {E:Value→Shared→Prop},fO g es en σ l=some (en',KD)→At c A env en ρ σ s d→Rs s.heap ρ l vs→
 (∀KF s',bo c env ρ s KF KD s'→ba s'.heap KF env en'→Q () s')→II (model c.prog c.w) A (assignInOrder (es.map fun t=>assign t env) vs) Q E s:=by
 induction es with
 |nil=>
  intro en en' ρ σ KD s l vs Q E e a r h
  cases l with
  |cons=>exact no e
  |nil=>cases IH e;obtain rfl:=r.nilQ;exact assignInOrder_nil (h _ _ ((af.refl a.st a.gd).toS a.st a.er) a.er)
 |cons t ts ih=>
  intro en en' ρ σ KD s l vs Q E e a r h
  cases l with
  |nil=>exact no e
  |cons y ys=>
   refine ae e fun p h1 w=> ?_
   cases r using Rs.consE with
   |cons r rs=>exact assignInOrder_cons (hg h1 a r fun KS KH KG LQ=>ih w (a.stepS KG LQ) (ad.Rs a.er.own KG.st rs) fun KZ KL KJ LE=>h _ _ (KG.trans KJ) LE)
theorem lI{p:Pos}{Q:Unit→Shared→Prop}(hns:al es=true)(hlen:es.length=l.length)(a:At c A env en ρ σ s d)(r:R s.heap ρ (.tup l) v)
 (h: ∀KH vs,af c ρ s ρ σ KH→Rs KH.heap ρ l vs→II (model c.prog c.w) A (assignInOrder (es.map fun t=>assign t env) vs) Q E KH):II (model c.prog c.w) A (assign (.Tuple es k p) env v) Q E s:=by
 cases id r with
 | @tup _ ta vs m h1 f1 rs=>
 have hm:assignEach es env=es.map fun t=>(false,assign t env):=jN hns;rw[assign_Tuple,hm];refine IJ (IW ?_)
 have hn:(es.map fun t=>(false,assign t env)).length=vs.toArray.size:=by rw[GO,hlen];exact rs.length
 have hstar:(es.map fun t=>(false,assign t env)).findIdx? (·.1)=none:=by
  rw[List.findIdx?_eq_none_iff];intro x hx;refine aL (G2.mp hx) fun t u_ zz2=> ?_;subst zz2;rfl
 unfold unpack;rw[hn,hstar,Ha];refine IJ (IO (bw (unpackItems_tuple a.room.hand (cU h1) fun h' he hz=> ?_)))
 have KG:af c ρ s ρ σ {s with heap:=h',toks:=s.toks}:=af.keeps a.ok a.st a.gd (fun b o eb=>he b o (fun q=>absurd (Ka eb) (by rw[q];exact Ic _)) eb) hz
 exact h _ vs KG (KG.Rs rs)
theorem sU(hf:bF c d f){p:Pos}{Q:Unit→Shared→Prop}(h1:f en σ ob=some (.ok x KE))(h2:di c KE x name y=some KI)(a:At c A env en ρ σ s d)(r:R s.heap ρ y v)
 (h: ∀KF s',bo c env ρ s KF KI s'→ba s'.heap KF env en→Q () s'):II (model c.prog c.w) A (assign (.Attribute ob name p) env v) Q E s:=by
 show II _ A (do
  let ov←holding [v] (eval ob env)
  standAt p.atName
  holding [v,ov] (setAttr ov name v)
  release [v,ov] []) _ _ s
 and_intros
 refine IJ (IO (au.go (hf h1 a) (fun x' KD q w KH KS KG KO=> ?_) (fun u_ u_ q=>by exact iQ q)))
 refine jF q fun zz1 zz2=> ?_;subst zz1;subst zz2
 and_intros
 refine IJ (IW (IJ (IO (IM (n9 (E:=E) a.ok KG.sto KG.gd h2 KO (KG.R r)) (fun u_ KL KJ=> ?_) fun u_ u_ z=>z))));exact wpAny_release (h _ _ ((KG.trans KJ).toS a.st a.er) ((KG.trans KJ).env a.st a.er))
theorem uh(hf:bF c d f){ie:Expr}{p:Pos}{j:Int}{Q:Unit→Shared→Prop}(h1:f en σ ob=some (.ok (.lst k) KE))(h2:f en KE ie=some (.ok (.int j) KI))(h3:dO KI k j y=some K3)(a:At c A env en ρ σ s d)(r:R s.heap ρ y v)
 (h: ∀KF s',bo c env ρ s KF K3 s'→ba s'.heap KF env en→Q () s'):II (model c.prog c.w) A (assign (.Subscript ob ie p) env v) Q E s:=by
 show II _ A (holding [v] (eval ob env)>>=fun ov=>holding [v,ov] (eval ie env)>>=fun iv=>standAt p>>=fun u_=>holding [v,ov,iv] (setItem ov iv v)>>=fun u_=>release _ []) _ _ s
 ac_rfl
 refine IJ (IO (au.go (hf h1 a) (fun x' KD q w KH KS KG KO=> ?_) (fun u_ u_ q=>by exact iQ q)))
 refine jF q fun zz1 zz2=> ?_;subst zz1;subst zz2
 ac_rfl
 refine IJ (IO (au.go (hf h2 (a.step KG)) (fun x' KD q w₂ KL KZ KJ Lb=> ?_) (fun u_ u_ q=>by exact iQ q)))
 refine jF q fun zz1 zz2=> ?_;subst zz1;subst zz2;obtain⟨_,rfl⟩:=Lb.intQ
 ac_rfl
 refine IJ (IW (IJ (IO (IM (oR (E:=E) a.ok KJ.sto KJ.gd h3 (KJ.R KO) (KJ.R (KG.R r))) (fun u_ K_ KV=> ?_) fun u_ u_ z=>z))));exact wpAny_release (h _ _ (((KG.trans KJ).trans KV).toS a.st a.er) (((KG.trans KJ).trans KV).env a.st a.er))
theorem pC(hf:bF c d f)(n:Nat):yI c d (eL c f n):=by
 induction n with
 |zero=>intro A env en en' ρ σ KD s t y v Q E e;exact no e
 |succ n ih=>
  intro A env en en' ρ σ KD s t y v Q E e a r h
  cases t with
  |Name x p=>
   refine oA (iz (show(if bH en x=true then some (en.set x y,σ)else none)=some (en',KD)from e)) fun hx w=> ?_
   obtain⟨rfl,rfl⟩:=Prod.mk.inj (IH w);exact assign_Name (dL a (cR hx) r fun s' S er=>h ρ s' S er)
  |Tuple es k p=>
   refine ae (show((eN y).bind fun l=>if al es=true then fO (eL c f n) es en σ l else none)=some (en',KD)from e) fun l hl w=>bI w fun hns w=> ?_
   obtain rfl:=eA hl;exact lI hns (nG w) a r fun KH vs KG rs=>tI ih w (a.step KG) rs fun KZ KL KJ LE=>h _ _ ((KG.toS a.st a.er).trans KJ) LE
  |Attribute ob name p=>
   refine ae (show((f en σ ob).bind fun r=>(uN r).bind fun q=>(di c q.2 q.1 name y).map fun KI=>(en,KI))=some (en',KD)from e) fun o ho w=>ae w fun q hq w=>aN w fun KI h2 w=> ?_
   cases w
   exact sU hf (qP hq▸ho) h2 a r h
  |Subscript ob ie p=>
   refine bI (show(if bB ie=true then(f en σ ob).bind fun r=>(uN r).bind fun q=>(gJ q.1).bind fun k=>(f en q.2 ie).bind fun r'=>(uN r').bind fun q'=>(cY q'.1).bind fun j=>(dO q'.2 k j y).map fun K3=>(en,K3)else none)=some (en',KD)from e) fun u_ w=>
    ae w fun o ho w=>ae w fun q hq w=>ae w fun k hk w=>ae w fun o' ho' w=>ae w fun q' hq' w=>ae w fun j hj w=>aN w fun K3 h3 w=> ?_
   cases w
   obtain⟨x1,KE⟩:=q;obtain⟨x2,KI⟩:=q';obtain rfl:=gj hk;obtain rfl:=b_ hj;exact uh hf (qP hq▸ho) (qP hq'▸ho') h3 a r h
  |_=>exact no e
end
variable {g:uK}
section
variable {env:Env}{d:Nat}
noncomputable def c_(o:Obj):Bool:=match o.data with
 | .fields _=>true
 | .seq .. =>true
 |_=>false
noncomputable def aV(h:Heap)(I:List Addr):Prop:= ∀b∈I,∃o,h.get? b=some o∧c_ o=true
theorem jT{vs:Array Value}(e: ∃o,h.get? a=some o∧o.cls= .type T∧o.data= .fields vs): ∃o,h.get? a=some o∧c_ o=true:=e.elim fun o e=>⟨o,e.1,by unfold c_;rw[e.2.2]⟩
theorem bC.objsB:(∀{t I a},bC h ρ t I a→aV h I)∧(∀{ts I as},bD h ρ ts I as→aV h I):=
 bC.both (P:=fun u_ I u_=>aV h I) (Q:=fun u_ I u_=>aV h I) (fun e u_ u_=>dA (jT e)) (fun e u_ u_=>dA (jT e)) (fun e u_=>dA ⟨_,e,rfl⟩) (fun e u_ u_=>dA (jT e)) (fun e u_ u_=>dA ⟨_,e,rfl⟩)
  (fun e1 u_ e2 e3 u_ u_ ts u_ u_ u_ u_ u_ u_ u_ u_ u_=>aj ⟨_,e1,rfl⟩ (aj ⟨_,e2,rfl⟩ (aj ⟨_,e3,rfl⟩ ts))) (fun e u_ u_ t u_ u_=>aj ⟨_,e,rfl⟩ t) bZ fun u_ t u_ ts u_ b m=>(GP.mp m).elim (t b) (ts b)
theorem bC.objs(i:bC h ρ t I a): ∀b∈I,∃o,h.get? b=some o∧c_ o=true:=bC.objsB.1 i
theorem aV.locals(p:aV h I)(er:ba h ρ env en):env.locals∉I:=fun m=>by
 refine aL (p _ m) fun o ho hp=> ?_;obtain⟨mm,⟨o',es,ep,ho',hd,_⟩,_⟩:=er.lo;rw[ho]at ho';obtain rfl:=IH ho';unfold c_ at hp;rw[hd]at hp;exact bM hp
theorem aV.cell(p:aV h I){w:Option Value}(i:h.IsCell a w):a∉I:=fun m=>by
 refine aL (p _ m) fun o ho hp=> ?_;refine aL i fun o' ho' hd=> ?_;rw[ho]at ho';obtain rfl:=IH ho';unfold c_ at hp;rw[hd]at hp;exact bM hp
set_option tactic.hygienic true in
theorem aV.own{h:Heap}{I:List Addr}(p:aV h I)(er:ba h ρ env en): ∀b∈I,b∉mR env:=fun b m n=>by
 rcases GY.mp n with rfl|n
 ·exact p.locals er m
 ·refine aL (Hl.mp n) fun x _ hx=> ?_
  split at hx
  ·rename_i hk
   refine bU (er.ce x.1 (by rw[←er.names];exact hk)) fun a' w h1 h2 h3 _=> ?_
   rw[h1]at hx;obtain rfl:=IH hx;exact p.cell h2 m
  ·exact no hx
theorem aV.fo(p:aV h I):cn I h h':=fun a m o e ⟨es,ep,hd⟩=>by
 refine aL (p a m) fun o' ho' hp=> ?_;rw[e]at ho';obtain rfl:=IH ho';unfold c_ at hp;rw[hd]at hp;exact bM hp
theorem ba.monoI{D:List Addr}(t:aQ c ρ σ s.heap)(d: ∀a∈D,a∈ρ.p)(x:ad c D ρ s KF KD s')(e:ba s.heap ρ env en)(p:aV s.heap D):ba s'.heap KF env en:=ba.monoX t d x e (p.locals e) fun u_ u_ u_ u_ h=>p.cell h
theorem At.plain{D:List Addr}(a:At c A env en ρ σ s d)(dp: ∀a∈D,a∈ρ.p)(p:aV s.heap D)(x:ad c D ρ s KF KD s'):At c A env en KF KD s' d:=
 ⟨a.ok,x.sto,x.gd,a.er.monoI a.st dp x p,a.room.monoD a.st x p.fo⟩
theorem bo.plain{D:List Addr}(x:bo c env KY KP ρ σ s)(st:aQ c ρ σ s.heap)(er:ba s.heap ρ env en)(p:aV s.heap D)(y:ad c D ρ s KF KD s')(k: ∀a∈D,KP.heap.objs.size≤a):bo c env KY KP KF KD s':=by
 refine⟨ad.trans' x.st y fun a m=> .inr (k a m),x.fo.trans fun a m o e t=> ?_⟩
 have hD:a∉D:=fun n=>by
  refine aL (p a n) fun o' ho' hp=> ?_;refine rh t fun es ep hd=> ?_;rw[e]at ho';obtain rfl:=IH ho';unfold c_ at hp;rw[hd]at hp;exact bM hp
 refine aL (y.ext a o (fun z=>(GP.mp z).elim hD (st.disj _ (er.own a m))) e) fun o' e' q=> ?_;refine rh t fun es ep hd=> ?_;exact⟨o',e',es,ep,q.dict hd⟩
set_option tactic.hygienic true in
theorem iP{t:It}{I:List Addr}{a:Addr}{target:Expr}{v:Value}{Q:Unit→Shared→Prop}{E:Value→Shared→Prop}(ok:c.Ok)(st:aQ c ρ σ s.heap)(g:Gd c s.heap)(i:bC s.heap ρ t I a)
 (h: ∀s',ad c I ρ s ρ σ s'→bC s'.heap ρ t I a→Q () s'):II (model c.prog c.w) A (letOwnedTupleGo target (.ref a) v) Q E s:=by
 have now:Q () s:=h s (ad.refl st g) i;have ip:=i.priv.1;have key: ∀(o:Obj) (n:String) (vs:Array Value),s.heap.get? a=some o→o.cls= .type n→o.data= .fields vs→
  (∀b,vs[0]? =some (rawInt b)→["enumerate","zip","dict_itemiterator","dict_reverseitemiterator","odict_iterator","itertools.zip_longest","itertools.pairwise"].contains n=true→0<vs.size→Q () {s with heap:=s.heap.update a (Ki (·.setIfInBounds 0 .none))})→
  II (model c.prog c.w) A (letOwnedTupleGo target (.ref a) v) Q E s:=by
  intro o n vs ho hc hd hq;unfold letOwnedTupleGo
  cases target<;>first
   |exact IK now
   |(cases v<;>first
    |exact IK now
    |(rename_i b
      refine IJ (wpAny_load ho ?_);rw[hc,hd];dsimp only
      split
      ·rename_i hcond;refine oA (Gi.mp hcond) fun c1 c2=> ?_
       have c2':vs[0]? =some (rawInt (b:Nat)):=by simpa using c2
       have hsz:0<vs.size:=(Gg.mp c2').1;refine IJ (IP ?_);unfold updateField;refine IJ (wpAny_load ho ?_);rw[hd];dsimp only;refine cV hsz ?_;exact wpAny_update ho (hq _ c2' c1 hsz)
      ·exact IK now))
 cases i with
 |seq e r p=>
  refine bW (id e) fun o ho hc hd=> ?_;refine key o _ _ ho hc hd fun b _ q _=> ?_
  exact absurd q (by decide)
 |lst e r p=>
  refine bW (id e) fun o ho hc hd=> ?_;refine key o _ _ ho hc hd fun b _ q _=> ?_
  exact absurd q (by decide)
 |rng e p=>
  refine key _ _ _ e rfl rfl fun b _ q _=> ?_
  exact absurd q (by decide)
 |revl e r p=>
  refine bW (id e) fun o ho hc hd=> ?_;refine key o _ _ ho hc hd fun b _ q _=> ?_
  exact absurd q (by decide)
 |revt e r p=>
  refine key _ _ _ e rfl rfl fun b _ q _=> ?_
  exact absurd q (by decide)
 |zip e1 H e2 e3 l ts p1 p2 p3 n1 n2 n3 n4 n5 n6=>
  refine key _ _ _ e1 rfl rfl fun b _ q _=> ?_;rename_i TI TO f0 f1 ws m m' I' as
  have S:ad c [a] ρ s ρ σ {s with heap:=s.heap.update a (Ki (·.setIfInBounds 0 .none)),toks:=s.toks}:=ad.same (t:=s.toks) ok st g p1 (Kf ..)
  have off:=ad.off (ρ:=ρ) (D:=[a]) (by simpa using p1)
  have notin: ∀b,b≠a→b∈ρ.p→b∉[a]++ρ.r:=fun b hb hp z=>(GP.mp z).elim (fun z=>hb (GR.mp z)) (st.disj b hp)
  refine h _ (S.wider (by exact HG ..)) ?_
  exact .zip (f0:= .none) (f1:=f1) (Kb _ e1 rfl) (.inl rfl) (S.ext.get (notin _ (Ne.symm n1) p2) e2 rfl) (S.ext.get (notin _ (Ne.symm n2) p3) e3 rfl) l
   (ad.itrs st (by simpa using p1) (fun y m' z=>n4 (by rw[GR.mp z]at m';exact m')) S ts) p1 p2 p3 n1 n2 n3 n4 n5 n6
 |enum e H t p n=>
  refine key _ _ _ e rfl rfl fun b _ q _=> ?_
  have S:ad c [a] ρ s ρ σ {s with heap:=s.heap.update a (Ki (·.setIfInBounds 0 .none)),toks:=s.toks}:=ad.same (t:=s.toks) ok st g p (Kf ..)
  refine h _ (S.wider (by exact HG ..)) ?_
  exact .enum (f0:= .none) (Kb _ e rfl) (.inl rfl) (ad.itr st (by simpa using p) (fun y m' z=>n (by rw[GR.mp z]at m';exact m')) S t) p n
theorem aZ{q:Str→Bool}{x:Str}(l:List (Str×V)):(l.filter fun p=>q p.1).lookup x=if q x then l.lookup x else none:=by
 induction l with
 |nil=>simp
 |cons ny l ih=>
  obtain⟨n,y⟩:=ny
  by_cases hn:x=n
  ·subst hn
   by_cases hq:q x=true
   ·simp[Hx,hq,G7]
   ·simp only[Bool.not_eq_true]at hq;simp[Hx,hq];rw[hq]at ih;simpa using ih
  ·have hb:(x==n)=false:=beq_eq_false_iff_ne.mpr hn
   by_cases hq:q n=true
   ·simp[Hx,hq,G7,hb,ih]
   ·simp only[Bool.not_eq_true]at hq;simp[Hx,hq,G7,hb,ih]
mutual
noncomputable def h_(L:Nat):V→Bool
 | .lst k=>decide (k<L)
 | .inst _ k=>decide (k<L)
 | .tup l=>cr L l
 |_=>true
noncomputable def cr(L:Nat):List V→Bool
 |[]=>true
 |x::l=>h_ L x&&cr L l
end
noncomputable def br(L:Nat):aa→Bool
 | .lst l=>cr L l
 | .dct fs=>cr L (fs.map (·.2))
 | .ro l _ _=>cr L l
noncomputable def jS(L:Nat)(t:It)(en:En)(σ:Sg):En×Sg:=if σ.length≤L then(en,σ)else match t with
 | .rng .. =>if((σ.take L).all (br L)&&cr L (en.fre.map (·.2)))=true then(⟨en.names,en.own.filter (fun p=>(en.own.lookup p.1).any (h_ L)),en.fre,en.code⟩,σ.take L)else(en,σ)
 |_=>(en,σ)
noncomputable abbrev Pl.cut(ρ:Pl)(L:Nat):Pl:=⟨ρ.r.take L,ρ.p⟩
theorem Pl.cut_free(f:ρ.free a):(ρ.cut L).free a:=⟨fun m=>f.1 (Hy m),f.2⟩
theorem R.cutB:(∀{x v},R h ρ x v→h_ L x=true→R h (ρ.cut L) x v)∧(∀{l vs},Rs h ρ l vs→cr L l=true→Rs h (ρ.cut L) l vs):=
 have tk {k a} (e:ρ.r[k]? =some a) (w:decide (k<L)=true):(ρ.cut L).r[k]? =some a:=(List.getElem?_take_of_lt (of_decide_eq_true w)).trans e
 R.both (P:=fun x v=>h_ L x=true→R h (ρ.cut L) x v) (Q:=fun l vs=>cr L l=true→Rs h (ρ.cut L) l vs) (fun u_=> .val) (fun u_=> .int) (fun u_=> .str) (fun e f u_ r w=> .tup e (Pl.cut_free f) (r w)) (fun e w=> .lst (tk e w))
  (fun e f d w=> .inst e (Pl.cut_free f) (tk d w)) (fun e f u_=> .rng e (Pl.cut_free f)) (fun u_=> .nil) fun u_ r u_ rs w=> .cons (r (Gi.mp w).1) (rs (Gi.mp w).2)
theorem R.cut(w:h_ L x=true)(r:R h ρ x v):R h (ρ.cut L) x v:=R.cutB.1 r w
theorem Rs.cut(w:cr L l=true)(r:Rs h ρ l vs):Rs h (ρ.cut L) l vs:=R.cutB.2 r w
theorem Rf.cut{l:List (Str×V)}{es:List DictEntry}(w:cr L (l.map (·.2))=true)(r:Rf h ρ l es):Rf h (ρ.cut L) l es:=
 Rf.rec (motive:=fun l es u_=>cr L (l.map (·.2))=true→Rf h (ρ.cut L) l es) (fun u_=> .nil) (fun e r u_ ih w=> .cons e (R.cut (Gi.mp w).1 r) (ih (Gi.mp w).2)) r w
theorem tc:cr L l=true→ ∀x∈l,h_ L x=true:=by
 induction l with
 |nil=>exact fun u_ u_ m=>nomatch m
 |cons y l ih=>
  intro w x m
  have w:=Gi.mp (show(h_ L y&&cr L l)=true from w)
  cases m with
  |head=>exact w.1
  |tail _ m=>exact ih w.2 x m
theorem re{x:Str}{v:V}{l:List (Str×V)}:l.lookup x=some v→v∈l.map (·.2):=by
 induction l with
 |nil=>exact fun h=>no h
 |cons yw l ih=>
  intro h;rw[G7]at h
  cases q:x==yw.1 with
  |true=>rw[q]at h;obtain rfl:=IH h;exact .head _
  |false=>rw[q]at h;exact .tail _ (ih h)
theorem aQ.cut(t:aQ c ρ σ h)(w:(σ.take L).all (br L)=true):aQ c (ρ.cut L) (σ.take L) h where
 nodup:=(List.take_sublist L ρ.r).nodup t.nodup
 len:=by rw[HH,HH,t.len]
 at_:=fun k a l h1 h2=>by
  have hl:=GZ.mp w l (Hp h2)
  have hk:k<L:=by
   have:=(G1.mp h2).1;rw[HH]at this;exact lts ‹_›
  rw[List.getElem?_take_of_lt hk]at h1 h2
  have:=t.at_ k a l h1 h2
  cases l with
  |lst l=>refine bc this fun vs n e r=> ?_;exact⟨vs,n,e,r.cut hl⟩
  |dct l=>refine lG this fun es n sl e r=> ?_;exact⟨es,n,sl,e,r.cut hl⟩
  |ro l vs n=>exact⟨this.1,this.2.cut hl⟩
 low:=fun a m=>t.low a (Hy m)
 plow:=t.plow
 disj:=fun a m n=>t.disj a m (Hy n)
set_option tactic.hygienic true in
theorem j9.cut{h:Heap}{L:Nat}{x:Option V}{w:Option Value}(o:j9 h ρ x w):j9 h (ρ.cut L) (if x.any (h_ L)then x else none) w:=by
 cases o with
 |no=>exact .no
 |so r=>
  rename_i x v
  cases q:h_ L x with
  |true=>rw[if_pos (by simpa using q)];exact .so (r.cut q)
  |false=>rw[if_neg (by simp[q])];exact .no
theorem ba.cut(e:ba h ρ env en)(w:cr L (en.fre.map (·.2))=true):ba h (ρ.cut L) env ⟨en.names,en.own.filter (fun p=>(en.own.lookup p.1).any (h_ L)),en.fre,en.code⟩ where
 kind:=e.kind
 names:=e.names
 gl:=e.gl
 bi:=e.bi
 lo:=aL e.lo fun m n k=>⟨m,n,fun x hx=>by rw[show G5 x _=_ from aZ (q:=fun z=>(en.own.lookup z).any (h_ L)) en.own];exact(k x hx).cut⟩
 ce:=fun x hx=>bU (e.ce x hx) fun a w h1 h2 h4 h3=>⟨a,w,h1,h2,h4,by rw[show G5 x _=_ from aZ (q:=fun z=>(en.own.lookup z).any (h_ L)) en.own];exact h3.cut⟩
 fr:=fun x hx=>dC (e.fr x hx) fun a w' h1 h2 h3=>⟨a,w',h1,h2,by
  have:=h3.cut (L:=L)
  cases q:en.fre.lookup x with
  |none=>exact .no
  |some v=>
   rw[q,if_pos (by simpa using tc w v (re q))]at this
   exact this⟩
 out:=e.out
 ap:=e.ap
 cd:=e.cd
theorem xi(T:bo c env KY KP ρ σ s)(hL:KY.r.length≤L)(K5:At c A env en ρ σ s d)(i:bC s.heap ρ t I a):
 ∃KF,bo c env KY KP KF (jS L t en σ).2 s∧At c A env (jS L t en σ).1 KF (jS L t en σ).2 s d∧bC s.heap KF t I a:=by
 unfold jS
 by_cases h1:σ.length≤L
 ·rw[if_pos h1];exact⟨ρ,T,K5,i⟩
 rw[if_neg h1]
 cases t with
 |rng=>
  cases h2:((σ.take L).all (br L)&&cr L (en.fre.map (·.2)))with
  |false=>simp only[h2,Gm,if_false];exact⟨ρ,T,K5,i⟩
  |true=>
   simp only[h2,if_true];refine oA (Gi.mp h2) fun h3 h4=> ?_;have st:=K5.st.cut h3
   cases i with
   |rng i1 i2=>exact⟨ρ.cut L,⟨⟨List.prefix_take_iff.mpr ⟨T.st.pre,hL⟩,fun a m=>T.st.new a (Hy m),T.st.pnew,T.st.pold,st,T.st.ext,T.st.rest,T.st.gd⟩,T.fo⟩,⟨K5.ok,st,K5.gd,K5.er.cut h4,⟨K5.room.hand,K5.room.depth,K5.room.units,K5.room.frames⟩⟩,.rng i1 i2⟩
 |_=>exact⟨ρ,T,K5,i⟩
noncomputable def lP(k:En→Sg→Option aM)(so:aM):Option aM:=match so with
 | .exc _ _ _=>none
 | .ok fl en σ=>match fl with
  | .next=>k en σ
  | .cont=>k en σ
  | .brk=>some (.ok .next en σ)
  | .ret v=>some (.ok (.ret v) en σ)
noncomputable def E4(so:aM):Option aM:=match so with
 | .exc _ _ _=>none
 | .ok fl en σ=>some (.ok fl en σ)
theorem m9{k:En→Sg→Option aM}{o:aM}{f:Flow}(h:lP k so=some o)(p:gk c env ρ s so f s'){N B:Prop}{T:Value→Prop}(k1: ∀K' KI KF,k K' KI=some o→bo c env ρ s KF KI s'→ba s'.heap KF env K'→N)
 (k2:gk c env ρ s o .next s'→B) (k3: ∀v,gk c env ρ s o (.ret v) s'→T v):match(generalizing:=false) f with| .next| .cont=>N| .brk=>B| .ret v=>T v:=by
 cases so with
 |exc=>exact p.elim
 |ok fl K' KI=>
  obtain⟨KF,S,er,r⟩:=p
  cases r with
  |next=>exact k1 K' KI KF h S er
  |cont=>exact k1 K' KI KF h S er
  |brk=>obtain rfl:=IH h;exact k2 ⟨KF,S,er,.next⟩
  |ret q=>obtain rfl:=IH h;exact k3 _ ⟨KF,S,er,.ret q⟩
theorem lW{k:En→Sg→Option aM}{o:aM}{e:Value}(h:lP k so=some o)(p:iI c env ρ s so e s'):P:=by
 cases so with
 |exc=>exact no h
 |ok=>exact p.elim
theorem CI{o:aM}(h:E4 so=some o)(k: ∀f en σ,so= .ok f en σ→o= .ok f en σ→P):P:=by
 cases so with
 |exc=>exact no h
 |ok f en σ=>exact k f en σ rfl (IH h).symm
noncomputable def gw(L:Nat)(g:uK)(fs:eC)(target:Expr)(body orelse:List Stmt):Nat→En→Sg→It→Option aM
 |0,_,_,_=>none
 |n+1,en,σ,t=>(ay σ t).bind fun r=>match r with
  |some p=>(g target en σ p.1).bind fun q=>(fs q.1 q.2 body).bind (lP fun K' KI=>gw L g fs target body orelse n (jS L p.2 K' KI).1 (jS L p.2 K' KI).2 p.2)
  |none=>(fs en σ orelse).bind E4
theorem m8{fs:eC}(h1:ay σ t=some (some (x,t')))(h2:g target en σ x=some (KU,KE))(h3:fs KU KE body=some so):
 gw L g fs target body orelse (n+1) en σ t=lP (fun K' KI=>gw L g fs target body orelse n (jS L t' K' KI).1 (jS L t' K' KI).2 t') so:=by
 show(ay σ t).bind _=_;rw[h1];show(g target en σ x).bind _=_;rw[h2];show(fs KU KE body).bind _=_;rw[h3];rfl
theorem qx{fs:eC}{f:Fl}(h1:ay σ t=some none)(h2:fs en σ orelse=some (.ok f KU KE)):gw L g fs target body orelse (n+1) en σ t=some (.ok f KU KE):=by
 show(ay σ t).bind _=_;rw[h1];show(fs en σ orelse).bind _=_;rw[h2];rfl
theorem Fp{fs:eC}{o:aM}(e:gw L g fs target body orelse (n+1) en σ t=some o)
 (k1: ∀x t' KU KE so,ay σ t=some (some (x,t'))→g target en σ x=some (KU,KE)→fs KU KE body=some so→lP (fun K' KI=>gw L g fs target body orelse n (jS L t' K' KI).1 (jS L t' K' KI).2 t') so=some o→P)
 (k2: ∀f KU KE,ay σ t=some none→fs en σ orelse=some (.ok f KU KE)→o= .ok f KU KE→P):P:=
 ae e fun r hn e=>by
  cases r with
  |none=>exact ae e fun so hs w=>CI w fun f KU KE h1 h2=>k2 f KU KE hn (h1▸hs) h2
  |some p=>exact ae e fun q hg w=>ae w fun so hs w=>k1 _ _ _ _ so hn hg hs w
variable (c)in
noncomputable def FZ(A:Around)(env:Env)(d:Nat)(G:Nat→En→Sg→It→Option aM)(o:aM)(KY:Pl)(KP:Shared)(a:Addr)(n:Nat)(s':Shared):Prop:=
 ∃en σ ρ t I,G n en σ t=some o∧bo c env KY KP ρ σ s'∧At c A env en ρ σ s' d∧bC s'.heap ρ t I a∧ ∀b∈I,KP.heap.objs.size≤b
theorem vV{fs:eC}{o:aM}(hg:yI c d g)(hs:gi c d fs)(tp:o9 A env)(n:Nat)(e:gw L g fs target body orelse n en σ t=some o)(hL:KY.r.length≤L)(K4:bo c env KY KP ρ σ s)
 (K5:At c A env en ρ σ s d) (i:bC s.heap ρ t I a) (new: ∀b∈I,KP.heap.objs.size≤b):
 codeAny (model c.prog c.w) A (.forLoop target (.ref a) body orelse env) (fun r s'=>match r with| .ok f=>gk c env KY KP o f s'| .error e=>E e s') s:=by
 refine codeAny_forLoop_any (FZ c A env d (gw L g fs target body orelse) o KY KP a) ?_ n ⟨en,σ,ρ,t,I,e,K4,K5,i,new⟩;rintro n s ⟨en,σ,ρ,t,I,e,K4,K5,i,new⟩;have ip:=i.priv.1
 cases n with
 |zero=>exact no e
 |succ n=>
  refine Fp e (fun x t' KU KE so hn LC hso e=> ?_) fun f KU KE hn ho e=> ?_
  ·refine It.pull K5.room.hand K5.ok K5.st K5.gd i hn fun w KH KG rv Ls=> ?_;have KT:=K5.plain ip i.objs KG;refine iP KT.ok KT.st KT.gd Ls fun KL KJ Lj=> ?_;have K9:=KT.plain ip Ls.objs KJ;refine hg LC K9 (ad.R ip KJ rv) fun Lw K_ KV LM=> ?_;have Lg:=K9.stepS KV LM;have LS:=((K4.plain K5.st K5.er i.objs KG new).plain KT.st KT.er Ls.objs KJ new).trans KV;have LW:=ad.itr K9.st K9.er.own (aV.own Lj.objs K9.er) KV.st Lj;refine IM (hs hso Lg tp) (fun f LJ p=>m9 e p (fun K' KI LB hk K6 LX=> ?_) (fun p=>p.trans LS) fun v p=>p.trans LS) fun ev LJ p=>lW e p;refine bW (xi (LS.trans K6) hL (Lg.stepS K6 LX) (ad.itr Lg.st Lg.er.own (aV.own LW.objs Lg.er) K6.st LW)) fun L0 T₅ LY i₅=> ?_;exact⟨n,H0 _,_,_,L0,t',I,hk,T₅,LY,i₅,new⟩
  ·subst e;refine It.pull0 K5.room.hand K5.ok K5.st K5.gd i hn fun KH KG=> ?_;exact IM (hs ho (K5.plain ip i.objs KG) tp) (fun f' KL p=>p.trans (K4.plain K5.st K5.er i.objs KG new)) fun ev KL p=>p.elim
noncomputable def dq(e:Expr):Bool:= !e.ctorIdx.beq 7
theorem jp(h:dq e=true)(x:Value):foldedSetIterable e env x=pure x:=by
 cases e<;>first|rfl|exact bM h
noncomputable abbrev az:Nat:=4096
noncomputable def lX(iv:iR)(g:uK)(fs:eC)(en:En)(σ:Sg)(target iter:Expr)(body orelse:List Stmt):Option aM:=if dq iter=true then(iv en σ iter).bind fun r=>match r with
 | .ok x KE=>(aC KE x).bind fun t=>gw KE.length g fs target body orelse az en KE t
 | .exc _ _=>none
 else none
theorem zk{iv:iR}{fs:eC}{o:aM}(e:lX iv g fs en σ target iter body orelse=some o)
 (k: ∀x KE t,dq iter=true→iv en σ iter=some (.ok x KE)→aC KE x=some t→gw KE.length g fs target body orelse az en KE t=some o→P):P:=
 bI e fun hn e=>ae e fun r hr e=>by
  cases r with
  |exc=>exact no e
  |ok x KE=>exact ae e fun t ht e=>k x KE t hn hr ht e
theorem y7{iv:iR}{fs:eC}{o:aM}(hi:ic c d iv)(hg:yI c d g)(hs:gi c d fs)(e:lX iv g fs en σ target iter body orelse=some o)(a:At c A env en ρ σ s d)(tp:o9 A env):
 eE c A (exec (.For target iter body orelse pos) env) env ρ s o:=by
 refine IM (E:=fun u_ u_=>False) ?_ (fun u_ u_ z=>z) fun u_ u_ z=>z.elim;refine zk e fun x KE t hns hx ht e=> ?_
 refine wpAny_For (au.go (hi hx a) (fun x' KD q w KH KS KG KO=> ?_) (fun u_ u_ q=>by exact iQ q)) (jp hns)
 refine jF q fun zz1 zz2=> ?_;subst zz1;subst zz2;refine aL KO fun I KO LL=> ?_;refine dG a.ok KG.sto KG.gd ht KO fun KZ J b KL KJ Lj LT=> ?_;refine I7 (vV (E:=fun u_ u_=>False) hg hs tp az e (KG.sto.len▸KG.pre.length_le) ((KG.trans KJ).toS a.st a.er) ((a.step KG).step KJ) Lj fun z m=>(LT z m).elim (LL z) fun q=>HX KG.rest.hsize q) fun r s' z=> ?_
 cases r with
 |ok f=>exact z
 |error ev=>exact z.elim
noncomputable def jG(g:lA)(fs:eC)(test:Expr)(body orelse:List Stmt):Nat→En→Sg→Option aM
 |0,_,_=>none
 |n+1,en,σ=>(g en σ test).bind fun r=>match r with
  | .exc _ _=>none
  | .ok b KE=>match b with
   |true=>(fs en KE body).bind (lP fun K' KI=>jG g fs test body orelse n K' KI)
   |false=>(fs en KE orelse).bind E4
theorem BZ{g:lA}{fs:eC}{o:aM}(e:jG g fs test body orelse (n+1) en σ=some o)
 (k1: ∀KE so,g en σ test=some (.ok true KE)→fs en KE body=some so→lP (fun K' KI=>jG g fs test body orelse n K' KI) so=some o→P)
 (k2: ∀KE f K' KI,g en σ test=some (.ok false KE)→fs en KE orelse=some (.ok f K' KI)→o= .ok f K' KI→P):P:=
 ae e fun r ht e=>by
  cases r with
  |exc=>exact no e
  |ok b KE=>cases b with
   |true=>exact ae e fun so hs w=>k1 KE so ht hs w
   |false=>exact ae e fun so hs w=>CI w fun f K' KI h1 h2=>k2 KE f K' KI ht (h1▸hs) h2
variable (c)in
noncomputable def Bg(A:Around)(env:Env)(d:Nat)(G:Nat→En→Sg→Option aM)(o:aM)(KY:Pl)(KP:Shared)(n:Nat)(s':Shared):Prop:= ∃en σ ρ,G n en σ=some o∧bo c env KY KP ρ σ s'∧At c A env en ρ σ s' d
theorem ux{g:lA}{fs:eC}{o:aM}(hg:eM c d g)(hs:gi c d fs)(e:jG g fs test body orelse az en σ=some o)(a:At c A env en ρ σ s d)(tp:o9 A env):eE c A (exec (.While test body orelse pos) env) env ρ s o:=by
 refine IM (E:=fun u_ u_=>False) ?_ (fun u_ u_ z=>z) fun u_ u_ z=>z.elim;refine wpAny_While ?_
 refine I7 (R:=fun r s'=>match r with| .ok f=>gk c env ρ s o f s'| .error e=>False) ?_ fun r s' z=> ?_
 ·refine codeAny_whileLoop (Bg c A env d (jG g fs test body orelse) o ρ s) ?_ az ⟨en,σ,ρ,e,(af.refl a.st a.gd).toS a.st a.er,a⟩;rintro n KH ⟨en,σ,KS,e,KG,KT⟩
  cases n with
  |zero=>exact no e
  |succ n=>
   refine BZ e (fun KI so ht hso e=> ?_) fun KI f K' K3 ht ho e=> ?_
   ·refine au.go (hg ht KT) (fun x' KD q w KL KZ KJ Lb=> ?_) (fun u_ u_ q=>by exact iQ q)
    refine jF q fun zz1 zz2=> ?_;subst zz1;subst zz2;subst Lb;have Lp:=KG.trans (KJ.toS KT.st KT.er);rw[if_pos rfl];exact IM (hs hso (KT.step KJ) tp) (fun f LJ p=>m9 e p (fun K' KI LB hk K6 LX=>⟨n,H0 _,K',KI,LB,hk,Lp.trans K6,(KT.step KJ).stepS K6 LX⟩) (fun p=>p.trans Lp) fun v p=>p.trans Lp) fun ev LJ p=>lW e p
   ·subst e
    refine au.go (hg ht KT) (fun x' KD q w KL KZ KJ Lb=> ?_) (fun u_ u_ q=>by exact iQ q)
    refine jF q fun zz1 zz2=> ?_;subst zz1;subst zz2;subst Lb
    rw[if_neg (by decide)]
    exact IM (hs ho (KT.step KJ) tp) (fun f' KL p=>p.trans (KG.trans (KJ.toS KT.st KT.er))) fun ev KL p=>p.elim
 ·cases r with
  |ok f=>exact z
  |error ev=>exact z.elim
end
section
variable {env:Env}{d:Nat}
theorem qw{x:Str}{Q:Unit→Shared→Prop}(a:At c A env en ρ σ s d)(hl:en.names.lookup x=some .local)(r:R s.heap ρ y v)
 (h: ∀s',ad c [env.locals] ρ s ρ σ s'→cn [env.locals] s.heap s'.heap→ba s'.heap ρ env (en.set x y)→Q () s'):II (model c.prog c.w) A (storeName env x v) Q E s:=by
 have hkind:env.kindOf x=en.names.lookup x:=by rw[←a.er.names];rfl
 refine aL a.er.lo fun m hn hm=> ?_
 refine wpAny_storeName_local (hkind.trans hl) hn (fun h' hn' hs'=> ?_) (by rw[a.er.kind];rfl)
 have S:ad c [env.locals] ρ s ρ σ {s with heap:=h',toks:=s.toks+1}:=ad.same (t:=s.toks+1) a.ok a.st a.gd a.er.out hs'
 have dp: ∀b∈[env.locals],b∈ρ.p:=by simpa using a.er.out
 refine h _ S (fun b mb o e hd=> ?_) ⟨a.er.kind,a.er.names,a.er.gl,a.er.bi,⟨_,hn',fun z hz=> ?_⟩,fun z hz=> ?_,fun z hz=> ?_,a.er.out,a.er.ap,a.er.cd⟩
 ·have q:b=env.locals:=GR.mp mb;subst q;refine iJ hn' fun o' es ep ho' hd' u_=> ?_;exact⟨o',ho',es,ep,hd'⟩
 ·show j9 h' ρ (G5 z ((x,y)::en.own)) _;rw[cT]
  split
  ·exact .so (ad.R dp S r)
  ·exact(hm z hz).mono (ad.off dp) S.ext S.le
 ·have hzx:z≠x:=fun q=>by subst q;rw[show(en.set z y).names=en.names from rfl,hl]at hz;cases IH hz
  refine bU (a.er.ce z hz) fun b w h1 h2 h3 h4=> ?_;refine⟨b,w,h1,S.ext.cell (fun q=>(GP.mp q).elim (fun q=>dS hn h2 (GR.mp q)) (a.st.cell h2)) h2,h3,?_⟩;show j9 h' ρ (G5 z ((x,y)::en.own)) _;rw[cT,if_neg hzx];exact h4.mono (ad.off dp) S.ext S.le
 ·refine dC (a.er.fr z hz) fun b w h1 h2 h4=> ?_;exact⟨b,w,h1,S.ext.cell (fun q=>(GP.mp q).elim (fun q=>dS hn h2 (GR.mp q)) (a.st.cell h2)) h2,h4.mono (ad.off dp) S.ext S.le⟩
noncomputable def du:Nat→uK
 |0,_,_,_,_=>none
 |n+1,t,en,σ,y=>(ik t).elim ((kh t).bind fun p=>(eN y).bind fun l=>if al p.1.1=true then fO (du n) p.1.1 en σ l else none)
  fun p=>if(en.names.lookup p.1.1==some .local)=true then some (en.set p.1.1 y,σ)else none
theorem At.local{env:Env}(a:At c A env en ρ σ s d)(x:ad c [env.locals] ρ s KF KD s')(fo:cn [env.locals] s.heap s'.heap)(er:ba s'.heap KF env en'):At c A env en' KF KD s' d:=
 ⟨a.ok,x.sto,x.gd,er,a.room.monoD a.st x fo⟩
theorem af.foL(x:af c ρ s KF KD s')(a:At c A env en ρ σ s d):cn [env.locals] s.heap s'.heap:=x.fo a.st (by simpa using a.er.out)
variable (c)in
noncomputable def AL(d:Nat)(g:uK):Prop:= ∀{A:Around} {env:Env} {en en':En} {ρ:Pl} {σ KD:Sg} {s:Shared} {t:Expr} {y:V} {v:Value} {Q:Unit→Shared→Prop} {E:Value→Shared→Prop},g t en σ y=some (en',KD)→At c A env en ρ σ s d→R s.heap ρ y v→
 (∀KF s',ad c [env.locals] ρ s KF KD s'→cn [env.locals] s.heap s'.heap→ba s'.heap KF env en'→Q () s')→II (model c.prog c.w) A (assign t env v) Q E s
theorem ru(hg:AL c d g): ∀{en en':En} {ρ:Pl} {σ KD:Sg} {s:Shared} {l:List V} {vs:List Value} {Q:Unit→Shared→Prop} {E:Value→Shared→Prop},fO g es en σ l=some (en',KD)→At c A env en ρ σ s d→Rs s.heap ρ l vs→
 (∀KF s',ad c [env.locals] ρ s KF KD s'→cn [env.locals] s.heap s'.heap→ba s'.heap KF env en'→Q () s')→II (model c.prog c.w) A (assignInOrder (es.map fun t=>assign t env) vs) Q E s:=by
 induction es with
 |nil=>
  intro en en' ρ σ KD s l vs Q E e a r h
  cases l with
  |cons=>exact no e
  |nil=>cases IH e;obtain rfl:=r.nilQ;exact assignInOrder_nil (h _ _ (ad.refl a.st a.gd) ((af.refl a.st a.gd).foL a) a.er)
 |cons t ts ih=>
  intro en en' ρ σ KD s l vs Q E e a r h
  cases l with
  |nil=>exact no e
  |cons y ys=>
   refine ae e fun p h1 w=> ?_
   cases r using Rs.consE with
   |cons r rs=>exact assignInOrder_cons (hg h1 a r fun KS KH KG Mz LQ=>ih w (a.local KG Mz LQ) (ad.Rs (dA a.er.out) KG rs) fun KZ KL KJ Me LE=>h _ _ (KG.trans KJ) (Mz.trans Me) LE)
theorem nA(n:Nat):AL c d (du n):=by
 induction n with
 |zero=>
  intro A env en en' ρ σ KD s t y v Q E e;exact no e
 |succ n ih=>
  intro A env en en' ρ σ KD s t y v Q E e a r h
  cases t with
  |Name x p=>
   exact bI (show(if(en.names.lookup x==some .local)=true then some (en.set x y,σ)else none)=some (en',KD)from e) fun hx w=>by
    cases IH w
    exact assign_Name (qw a (by simpa using hx) r fun s' S fo er=>h ρ s' S fo er)
  |Tuple es k p=>
   refine ae (show((eN y).bind fun l=>if al es=true then fO (du n) es en σ l else none)=some (en',KD)from e) fun l hl w=>bI w fun hns w=> ?_
   obtain rfl:=eA hl;exact lI hns (nG w) a r fun KH vs KG rs=>ru ih w (a.step KG) rs fun KZ KL KJ Me LE=>h _ _ (KG.D.trans KJ) ((KG.foL a).trans Me) LE
  |_=>exact no e
noncomputable def bJ(g:lA)(en:En):Sg→List Expr→Option (Bool×Sg)
 |σ,[]=>some (true,σ)
 |σ,e::es=>(g en σ e).bind fun r=>match r with
  | .exc _ _=>none
  | .ok b KE=>match b with
   |true=>bJ g en KE es
   |false=>some (false,KE)
theorem pR{Q:Bool→Shared→Prop}:Q false s→
 II M A (forIn ifs false fun c r=>if r=true then do let ok←isTrue c env (eval c env);pure (Gw ok)else pure (Gw r)) Q E s:=by
 induction ifs with
 |nil=>exact fun h=>IK h
 |cons _ ifs ih=>
  intro h;rw[Hk];exact IJ (IK (ih h))
theorem lz{g:lA}(hg:eM c d g){Q:Bool→Shared→Prop}: ∀{σ:Sg} {ρ:Pl} {s:Shared},bJ g en σ ifs=some (b,KD)→At c A env en ρ σ s d→(∀KF s',af c ρ s KF KD s'→Q b s')→
 II (model c.prog c.w) A (forIn ifs true fun c r=>if r=true then do let ok←isTrue c env (eval c env);pure (Gw ok)else pure (Gw r)) Q E s:=by
 induction ifs with
 |nil=>
  intro σ ρ s e a h
  cases IH e
  exact IK (h _ _ (.refl a.st a.gd))
 |cons x ifs ih=>
  intro σ ρ s e a h;rw[Hk];simp only[if_true]
  refine ae (show((g en σ x).bind _)=some (b,KD)from e) fun r hr e=> ?_
  cases r with
  |exc=>exact no e
  |ok t KE=>
  refine IJ (IJ (au.go (hg hr a) (fun x' Ln q w KH KS KG KO=> ?_) (fun u_ u_ q=>by exact iQ q)))
  refine jF q fun zz1 zz2=> ?_;subst zz1;subst zz2;cases KO
  cases t with
  |true=>exact IK (ih e (a.step KG) fun KZ KL KJ=>h _ _ (KG.trans KJ))
  |false=>
   cases IH e
   exact IK (pR (h _ _ KG))
noncomputable def cE(g:uK)(tr:lA)(f:fP)(target:Expr)(ifs:List Expr)(elt:Expr)(k:Nat):Nat→En→Sg→It→Option Sg
 |0,_,_,_=>none
 |n+1,en,σ,t=>(ay σ t).bind fun r=>match r with
  |none=>some σ
  |some p=>(g target en σ p.1).bind fun q=>(bJ tr q.1 q.2 ifs).bind fun b=>match b.1 with
   |true=>(f q.1 b.2 elt).bind fun o=>(uN o).bind fun y=>(cD y.2 k y.1).bind fun Lq=>cE g tr f target ifs elt k n q.1 Lq p.2
   |false=>cE g tr f target ifs elt k n q.1 b.2 p.2
theorem nd(h:ay σ t=some none):cE g tr f target ifs elt k (n+1) en σ t=some σ:=by
 show(ay σ t).bind _=_;rw[h];rfl
theorem lJ(h1:ay σ t=some (some (x,t')))(h2:g target en σ x=some (KU,KE))(h3:bJ tr KU KE ifs=some (b,KI)):
 cE g tr f target ifs elt k (n+1) en σ t=match(generalizing:=false) b with
  |true=>(f KU KI elt).bind fun o=>(uN o).bind fun y=>(cD y.2 k y.1).bind fun Lq=>cE g tr f target ifs elt k n KU Lq t'
  |false=>cE g tr f target ifs elt k n KU KI t':=by
 show(ay σ t).bind _=_;rw[h1];show(g target en σ x).bind _=_;rw[h2];show(bJ tr KU KE ifs).bind _=_;rw[h3]
 cases b<;>rfl
theorem m7{Lq:Sg}(h1:ay σ t=some (some (x,t')))(h2:g target en σ x=some (KU,KE))(h3:bJ tr KU KE ifs=some (true,KI))(h4:f KU KI elt=some (.ok y K3))(h5:cD K3 k y=some Lq):
 cE g tr f target ifs elt k (n+1) en σ t=cE g tr f target ifs elt k n KU Lq t':=by
 rw[lJ h1 h2 h3];show(f KU KI elt).bind _=_;rw[h4];show(cD K3 k y).bind _=_;rw[h5];rfl
theorem Dt{LF:Sg}(e:cE g tr f target ifs elt k (n+1) en σ t=some LF)(k0:ay σ t=some none→σ=LF→P)
 (k1: ∀x t' KU KE KI y K3 Lq,ay σ t=some (some (x,t'))→g target en σ x=some (KU,KE)→bJ tr KU KE ifs=some (true,KI)→f KU KI elt=some (.ok y K3)→cD K3 k y=some Lq→cE g tr f target ifs elt k n KU Lq t'=some LF→P)
 (k2: ∀x t' KU KE KI,ay σ t=some (some (x,t'))→g target en σ x=some (KU,KE)→bJ tr KU KE ifs=some (false,KI)→cE g tr f target ifs elt k n KU KI t'=some LF→P):P:=
 ae e fun r hn e=>by
  cases r with
  |none=>exact k0 hn (IH e)
  |some p=>
   obtain⟨x,t'⟩:=p;refine ae e fun q hg e=>ae e fun b ht e=> ?_;obtain⟨b,KI⟩:=b
   cases b with
   |true=>exact ae e fun o ho e=>ae e fun y hy e=>ae e fun Lq ha e=>k1 _ _ _ _ _ _ _ _ hn hg ht (qP hy▸ho) ha e
   |false=>exact k2 _ _ _ _ _ hn hg ht e
theorem af.fresh{D:List Addr}(x:af c KY KP ρ σ s)(y:ad c D ρ s KF KD s')(k: ∀a∈D,KP.heap.objs.size≤a):af c KY KP KF KD s':=ad.trans' x y fun a m=> .inr (k a m)
variable (c)in
noncomputable def Dr(A:Around)(env:Env)(d:Nat)(G:Nat→En→Sg→It→Option Sg)(LF:Sg)(KY:Pl)(KP:Shared)(a D:Addr)(k:Nat)(n:Nat)(s':Shared):Prop:=
 ∃en σ ρ t I,G n en σ t=some LF∧af c KY KP ρ σ s'∧At c A env en ρ σ s' d∧bC s'.heap ρ t I a∧(∀b∈I,KP.heap.objs.size≤b)∧ρ.r[k]? =some D
theorem oo{D:Addr}(x:ρ.r<+:KF.r)(hk:ρ.r[k]? =some D):KF.r[k]? =some D:=by
 refine oE x fun t q=> ?_;rw[←q,He (G1.mp hk).1];exact hk
theorem uz{LF:Sg}{D:Addr}{R:Result→Shared→Prop}(hg:AL c d g)(ht:eM c d tr)(hf:bF c d f)(n:Nat)
 (e:cE g tr f target ifs elt k n en σ t=some LF) (K4:af c KY KP ρ σ s) (K5:At c A env en ρ σ s d) (i:bC s.heap ρ t I a) (new: ∀b∈I,KP.heap.objs.size≤b) (newC:KP.heap.objs.size≤env.locals) (hk:ρ.r[k]? =some D)
 (hR: ∀en' KF s',af c KY KP KF LF s'→At c A env en' KF LF s' d→KF.r[k]? =some D→R (.ok .next) s'):
 codeAny (model c.prog c.w) A (.compLoop (.ListComp elt [⟨target,iter,ifs,0⟩] scope pos) 0 (.ref a) (.ref D) env) R s:=by
 refine codeAny_loop rfl (Dr c A env d (cE g tr f target ifs elt k) LF KY KP a D k) ?_ n ⟨en,σ,ρ,t,I,e,K4,K5,i,new,hk⟩;rintro n s ⟨en,σ,ρ,t,I,e,K4,K5,i,new,hk⟩
 show II _ A ((compTurn (.ListComp elt [⟨target,iter,ifs,0⟩] scope pos) 0 (.ref a) (.ref D) env).onRaise (fun x=>do noteFrame x env;theTreesLotGoes x)) _ _ s
 refine wpAny_noted ?_;rw[compTurn_list]
 ac_rfl
 refine IJ (IW ?_);have ip:=i.priv.1
 cases n with
 |zero=>exact no e
 |succ n=>
 have run: ∀{x t' KU KE KI b} {F:Bool→Sem Fin} {Q:Fin→Shared→Prop} {E:Value→Shared→Prop},ay σ t=some (some (x,t'))→g target en σ x=some (KU,KE)→bJ tr KU KE ifs=some (b,KI)→
  (∀Lw K_,af c KY KP Lw KI K_→At c A env KU Lw KI K_ d→bC K_.heap Lw t' I a→Lw.r[k]? =some D→II (model c.prog c.w) A (F b) Q E K_)→
  II (model c.prog c.w) A (pyNext (.ref a)) (fun r s'=>II (model c.prog c.w) A (match r with|none=>pure (Fin.done .next)|some v=>letOwnedTupleGo target (.ref a) v>>=fun u_=>assign target env v>>=fun u_=>(forIn ifs true fun c r=>if r=true then do let ok←isTrue c env (eval c env);pure (Gw ok)else pure (Gw r))>>=F) Q E s') E s:=by
  intro x t' KU KE KI b F Q E hn LC htt k;refine It.pull K5.room.hand K5.ok K5.st K5.gd i hn fun w KH KG rv Ls=> ?_;have KT:=K5.plain ip i.objs KG
  ac_rfl
  refine IJ (iP KT.ok KT.st KT.gd Ls fun KL KJ Lj=> ?_);have K9:=KT.plain ip Ls.objs KJ
  ac_rfl
  refine IJ (hg LC K9 (ad.R ip KJ rv) fun Lw K_ KV Mf LM=> ?_);have Lg:=K9.local KV Mf LM
  ac_rfl
  refine IJ (lz ht htt Lg fun LB LJ K6=> ?_)
  exact k LB LJ ((((K4.fresh KG new).fresh KJ new).fresh KV (dA newC)).trans K6) (Lg.step K6) (K6.itr Lg.st (ad.itr K9.st (dA K9.er.out) (fun b m q=>aV.locals Lj.objs K9.er (by rw[GR.mp q]at m;exact m)) KV Lj))
   (oo (((KG.pre.trans KJ.pre).trans KV.pre).trans K6.pre) hk)
 refine Dt e (fun hn e=> ?_) (fun x t' KU KE KI y K3 Lq hn LC htt hy happ e=> ?_) fun x t' KU KE KI hn LC htt e=> ?_
 ·subst e
  ac_rfl
  refine IJ (It.pull0 K5.room.hand K5.ok K5.st K5.gd i hn fun KH KG=> ?_);exact IK (hR en ρ KH (K4.fresh KG new) (K5.plain ip i.objs KG) (oo KG.pre hk))
 ·ac_rfl
  refine IJ (run hn LC htt fun LB LJ LK LN LG L7=> ?_);simp only[if_true]
  ac_rfl
  refine IJ (IJ (au.go (hf hy LN) (fun x' KD q w₅ s₅ L0 Li L2=> ?_) (fun u_ u_ q=>by exact iQ q)))
  refine jF q fun zz1 zz2=> ?_;subst zz1;subst zz2;have LY:=LN.step Li
  ac_rfl
  refine IJ (au.go (j_ (A:=A) LY.ok LY.st LY.gd happ (.lst (oo Li.pre L7)) L2) (fun x' KD q w₆ s₆ ρ₆ LI r₆=> ?_) (fun u_ u_ q=>by exact iQ q))
  refine jF q fun zz1 zz2=> ?_;subst zz1;subst zz2;exact IK (IK ⟨rfl,n,H0 _,KU,Lq,ρ₆,t',I,e,(LK.trans Li).trans LI,LY.step LI,LI.itr LY.st (Li.itr LN.st LG),new,oo (Li.pre.trans LI.pre) L7⟩)
 ·ac_rfl
  refine IJ (run hn LC htt fun LB LJ LK LN LG L7=> ?_);simp only[Gm,if_false];exact IK ⟨rfl,n,H0 _,KU,KI,LB,t',I,e,LK,LN,LG,new,L7⟩
noncomputable def am(names:List (Str×NameKind))(en:En):List (Str×NameKind):=names.map fun(n,k)=>if(k== .free&&en.names.lookup n==some .cell)=true then(n,.cell)else(n,k)
noncomputable def dX(names:List (Str×NameKind))(en:En):En:=⟨am names en,en.own.filter fun p=>(am names en).lookup p.1==some .cell,en.fre,none⟩
noncomputable def dU(names:List (Str×NameKind))(en:En):Bool:=names.all fun n=>n.2 != .cell&&(n.2 != .local||names.lookup n.1==some .local)&&(n.2 != .free||en.names.lookup n.1==some .cell||en.names.lookup n.1==some .free)
noncomputable def jK(cells:List (Str×Addr)):List (Str×NameKind)→List (Str×Addr)→List (Str×Addr)
 |[],acc=>acc
 |(n,k)::r,acc=>if(k== .free)=true then jK cells r ((n,(cells.lookup n).getD 0)::acc)else jK cells r acc
theorem zf(names:List (Str×NameKind)): ∀(acc:List (Str×Addr)),(∀p∈jK cells names acc,p∈acc∨p.2=(cells.lookup p.1).getD 0)∧(∀p∈acc,p∈jK cells names acc)∧ ∀x,(x,Kg)∈names→ ∃p∈jK cells names acc,p.1=x:=by
 induction names with
 |nil=>exact fun acc=>⟨fun u_ m=> .inl m,fun u_ m=>m,fun u_ m=>nomatch m⟩
 |cons nk r ih=>
  obtain⟨n,k⟩:=nk;intro acc
  rw[show jK cells ((n,k)::r) acc=(if(k== .free)=true then jK cells r ((n,(G5 n cells).getD 0)::acc)else jK cells r acc)from rfl]
  by_cases hk:(k== .free)=true
  ·rw[if_pos hk];refine mX (ih ((n,(cells.lookup n).getD 0)::acc)) fun i1 i2 i3=> ?_;refine⟨fun p m=>(i1 p m).elim (fun q=> ?_) .inr,fun p m=>i2 p (.tail _ m),fun x m=> ?_⟩
   ·cases q with
    |head=>exact .inr rfl
    |tail _ q=>exact .inl q
   ·cases m with
    |head=>exact⟨_,i2 _ (.head _),rfl⟩
    |tail _ q=>exact i3 x q
  ·rw[if_neg hk];refine mX (ih acc) fun i1 i2 i3=> ?_;refine⟨i1,i2,fun x m=> ?_⟩
   cases m with
   |head=>exact absurd (beq_self_eq_true _) hk
   |tail _ q=>exact i3 x q
theorem mj(h: ∀n∈scope.names,n.2= .free→ ∃a,env.cells.lookup n.1=some a):closureFor scope env=pure (jK env.cells scope.names []):=by
 have key: ∀(names:List (Str×NameKind)) (acc:List (Str×Addr)),(∀n∈names,n.2= .free→ ∃a,env.cells.lookup n.1=some a)→
  (forIn names acc fun(x:Str×NameKind) (r:List (Str×Addr))=>if(x.2==Kg)=true then do let a←cellOf env x.1;pure (Gw ((x.1,a)::r))else pure (Gw r))=(pure (jK env.cells names acc):Sem (List (Str×Addr))):=by
  intro names
  induction names with
  |nil=>intro acc _;rfl
  |cons x r ih=>
   intro acc hh;obtain⟨n,k⟩:=x;rw[Hk]
   rw[show jK env.cells ((n,k)::r) acc=(if(k== .free)=true then jK env.cells r ((n,(G5 n env.cells).getD 0)::acc)else jK env.cells r acc)from rfl]
   by_cases hk:(k==Kg)=true
   ·refine oE (hh (n,k) (.head _) (by simpa using hk)) fun a ha=> ?_
    have hc:cellOf env n=pure a:=by unfold cellOf;rw[ha]
    simp only[hk,if_true,hc,pure_bind]
    rw[show(G5 n env.cells).getD 0=a by rw[ha];rfl]
    exact ih _ fun m hm=>hh m (.tail _ hm)
   ·simp only[Bool.not_eq_true]at hk;simp only[hk,Gm,if_false,pure_bind];exact ih _ fun m hm=>hh m (.tail _ hm)
 have:=key scope.names [] h;unfold closureFor
 first
  |exact this
  |(rw[←bind_pure (forIn scope.names [] _)]at this;exact this)
  |(simp only[bind_pure];exact this)
theorem oz{x:Str}:(am names en).lookup x=(names.lookup x).map fun k=>if(k== .free&&en.names.lookup x==some .cell)=true then .cell else k:=by
 induction names with
 |nil=>rfl
 |cons p r ih=>
  obtain⟨n,k⟩:=p
  show G5 x ((if(k== .free&&en.names.lookup n==some .cell)=true then(n,.cell)else(n,k))::am r en)=_
  by_cases hx:x=n
  ·subst hx
   split<;>simp_all [G7]
  ·have hb:(x==n)=false:=beq_eq_false_iff_ne.mpr hx
   have:G5 x ((if(k== .free&&en.names.lookup n==some .cell)=true then(n,Kh)else(n,k))::am r en)=G5 x (am r en):=by
    split<;>simp[G7,hb]
   rw[this,ih];simp[G7,hb]
theorem oG{x:Str}(hm:(x,Kg)∈names):(jK cells names []).lookup x=some ((cells.lookup x).getD 0):=by
 refine mX (zf (cells:=cells) names []) fun i1 i2 i3=> ?_;refine aL (i3 x hm) fun p hp hx=> ?_
 have key: ∀l:List (Str×Addr),(∀p∈l,p.2=(cells.lookup p.1).getD 0)→(∃p∈l,p.1=x)→l.lookup x=some ((cells.lookup x).getD 0):=by
  intro l
  induction l with
  |nil=>rintro _ ⟨p,m,_⟩;cases m
  |cons q l ih=>
   rintro h1 ⟨p,m,e⟩;obtain⟨n,a⟩:=q;rw[G7]
   by_cases hx:x=n
   ·subst hx;have:=h1 (x,a) (.head _);simp only[beq_self_eq_true];exact congrArg some this
   ·have hb:(x==n)=false:=beq_eq_false_iff_ne.mpr hx;rw[hb];refine ih (fun p m=>h1 p (.tail _ m)) ⟨p,?_,e⟩
    rcases GY.mp m with q|q
    ·rw[q]at e;exact absurd e.symm hx
    ·exact q
 exact key _ (fun p m=>(i1 p m).elim (fun q=>by cases q) id) ⟨p,hp,hx⟩
theorem jh{x:Str}(h: ∀n∈names,n.2= .free→ ∃a,cells.lookup n.1=some a)(e:(jK cells names []).lookup x=some a):cells.lookup x=some a:=by
 have hm:=mem_of_lookup e
 have key: ∀(names:List (Str×NameKind)) (acc:List (Str×Addr)),(∀n∈names,n.2= .free→ ∃a,cells.lookup n.1=some a)→(∀p∈acc,cells.lookup p.1=some p.2)→ ∀p∈jK cells names acc,cells.lookup p.1=some p.2:=by
  intro names
  induction names with
  |nil=>intro acc _ h2;exact h2
  |cons q r ih=>
   intro acc h1 h2;obtain⟨n,k⟩:=q
   rw[show jK cells ((n,k)::r) acc=(if(k== .free)=true then jK cells r ((n,(G5 n cells).getD 0)::acc)else jK cells r acc)from rfl]
   by_cases hk:(k==Kg)=true
   ·rw[if_pos hk]
    refine oE (h1 (n,k) (.head _) (by simpa using hk)) fun a ha=> ?_
    refine ih _ (fun m hm=>h1 m (.tail _ hm)) fun p m=> ?_
    rcases GY.mp m with rfl|m
    ·show cells.lookup n=some ((cells.lookup n).getD 0)
     rw[show cells.lookup n=some a from ha];rfl
    ·exact h2 p m
   ·rw[if_neg hk];exact ih _ (fun m hm=>h1 m (.tail _ hm)) h2
 exact key names [] h (fun p m=>by cases m) _ hm
theorem ba.frees(er:ba h ρ env en)(hf: ∀n∈scope.names,n.2= .free→en.names.lookup n.1=some .cell∨en.names.lookup n.1=some .free): ∀n∈scope.names,n.2= .free→ ∃a,env.cells.lookup n.1=some a:=fun n m k=>by
 rcases hf n m k with q|q
 ·refine bc (er.ce _ q) fun a w h1 u_=> ?_;exact⟨a,h1⟩
 ·refine bc (er.fr _ q) fun a w h1 u_=> ?_;exact⟨a,h1⟩
theorem fJ(h:dU names en=true):(∀n∈names,n.2≠ .cell)∧(∀n∈names,n.2= .local→names.lookup n.1=some .local)∧ ∀n∈names,n.2= .free→en.names.lookup n.1=some .cell∨en.names.lookup n.1=some .free:=by
 have:=GZ.mp h;refine⟨fun n m q=> ?_,fun n m q=> ?_,fun n m q=> ?_⟩
 ·have:=this n m;simp[q]at this
 ·have:=this n m;simp[q]at this;exact this
 ·have:=this n m;simp[q]at this;exact this
theorem xF(ok:c.Ok)(a:At c A env en ρ σ s d)(hk:scope.kind= .function)(ho:dU scope.names en=true)(hn:h'.Ns s.heap.objs.size fun x=>(([]:List (Str×Value)).reverse).lookup x)
 (sb:Kc s.heap.objs.size (s.heap.push {cls:= .type "dict",data:= .dict #[]}) h'):
 af c ρ s ⟨ρ.r,s.heap.objs.size::ρ.p⟩ σ {s with heap:=h',toks:=s.toks+0}∧
  ba h' ⟨ρ.r,s.heap.objs.size::ρ.p⟩ {newEnv scope s.heap.objs.size env.globals (jK env.cells scope.names []) env.qual none .none (some env) builtinsNs with scope:=relabel scope env} (dX scope.names en):=by
 refine mX (fJ ho) fun o1 o2 o3=> ?_
 have hz:h'.objs.size=s.heap.objs.size+1:=by rw[sb.1,J']
 have S:af c ρ s ⟨ρ.r,s.heap.objs.size::ρ.p⟩ σ {s with heap:=h',toks:=s.toks+0}:=by
  refine ad.write ok a.st a.gd (by exact G9 _) (fun b o u_ e=> ?_) (by rw[hz];exact H3 _) (fun b m=> ?_) (fun b m=> .tail _ m)
  ·exact(sb.2 b (Iu (Ka e))).trans (J_ _ e)
  ·rcases GY.mp m with rfl|m
   ·exact .inr ⟨HY _,by rw[hz];exact H0 _⟩
   ·exact .inl m
 refine⟨S,?_⟩;have er:=S.env a.st a.er;have fr:=a.er.frees o3
 have hnames:(relabel scope env).names=am scope.names en:=by
  unfold relabel am;refine Hz fun n m=> ?_;obtain⟨n,k⟩:=n
  have h1:(env.scope.kind==ScopeKind.function)=true:=by rw[a.er.kind];rfl
  have h2:env.kindOf n=en.names.lookup n:=by rw[←a.er.names];rfl
  simp only[h1,h2,Gp]
 have lk: ∀{x:Str} {k:NameKind},(am scope.names en).lookup x=some k→ ∃Lx,(x,Lx)∈scope.names∧scope.names.lookup x=some Lx∧k=if(Lx== .free&&en.names.lookup x==some .cell)=true then Kh else Lx:=fun {x k} e=>by
  rw[oz]at e;refine aL (IE.mp e) fun Lx h1 h2=> ?_;exact⟨Lx,mem_of_lookup h1,h1,h2.symm⟩
 refine⟨hk,hnames,er.gl,er.bi,⟨_,hn,fun x hx=> ?_⟩,fun x hx=> ?_,fun x hx=> ?_,.head _,fun y z b h1 h2=> ?_,fun cc h=>by exact no h⟩
 ·have:(dX scope.names en).own.lookup x=none:=by
   show(en.own.filter fun p=>(am scope.names en).lookup p.1==some .cell).lookup x=none;rw[aZ (q:=fun x=>(am scope.names en).lookup x==some .cell)]
   rw[show(am scope.names en).lookup x=some .local from hx]
   rfl
  rw[this];exact .no
 ·refine bW (lk hx) fun Lx h1 h1' h2=> ?_
  have hc:(Lx== .free&&en.names.lookup x==some .cell)=true:=by
   by_cases q:(Lx== .free&&en.names.lookup x==some .cell)=true
   ·exact q
   ·rw[if_neg q]at h2;exact absurd h2.symm (o1 _ h1)
  refine oA (Gi.mp hc) fun q1 q2=> ?_
  have q1:Lx= .free:=by simpa using q1
  have q2:en.names.lookup x=some .cell:=by simpa using q2
  subst q1;refine bU (er.ce x q2) fun b w g1 g2 g3 g4=> ?_;refine⟨b,w,?_,g2,g3,?_⟩
  ·show(jK env.cells scope.names []).lookup x=some b;rw[oG h1,g1];rfl
  ·show j9 h' _ ((en.own.filter fun p=>(am scope.names en).lookup p.1==some .cell).lookup x) w;rw[aZ (q:=fun x=>(am scope.names en).lookup x==some .cell)]
   rw[show(am scope.names en).lookup x=some .cell from hx]
   exact g4
 ·refine bW (lk hx) fun Lx h1 h1' h2=> ?_
  have hk0:Lx= .free:=by
   split at h2
   ·cases h2
   ·exact h2.symm
  subst hk0
  have hnc:en.names.lookup x≠some .cell:=by
   intro q;rw[q]at h2;trivial
  have hf:=(o3 _ h1 rfl).resolve_left hnc;refine dC (er.fr x hf) fun b w g1 g2 g4=> ?_;refine⟨b,w,?_,g2,g4⟩;show(jK env.cells scope.names []).lookup x=some b;rw[oG h1,g1];rfl
 ·exact a.er.ap y z b (jh fr h1) (jh fr h2)
variable (c)in
noncomputable def cj(iv:iR)(tr:lA)(f:fP)(en:En)(σ:Sg)(elt:Expr)(gens:List Comprehension)(scope:Scope):Option (aG V):=(s_ gens).bind fun g=>if g.1.is_async=0 then
 if(dq g.1.iter&&scope.kind== .function&&dU scope.names en)=true then(iv en σ g.1.iter).bind fun r=>(uN r).bind fun q=>(aC q.2 q.1).bind fun t=>(cE (du 8) tr f g.1.target g.1.ifs elt q.2.length az (dX scope.names en) (q.2++[.lst []]) t).map fun KI=> .ok (.lst q.2.length) KI else none
 else none
theorem nr{iv:iR}{gens:List Comprehension}(e:cj iv tr f en σ elt gens scope=some o)
 (k: ∀target iter ifs x KE KI t,gens=[⟨target,iter,ifs,0⟩]→dq iter=true→scope.kind= .function→dU scope.names en=true→iv en σ iter=some (.ok x KE)→aC KE x=some t→cE (du 8) tr f target ifs elt KE.length az (dX scope.names en) (KE++[.lst []]) t=some KI→ .ok (.lst KE.length) KI=o→P):P:=
 eX e fun g e=>bI e fun hn e=>bI e fun hp e=>ae e fun r hr e=>ae e fun q hq e=>ae e fun t ht e=>aN e fun KI hc w=>
  have h1:=Gi.mp hp;have h2:=Gi.mp h1.1
  k _ _ _ q.1 q.2 KI t (g.2.trans (congrArg (fun x=>[x]) (cp0 hn))) h2.1 (GN h2.2) h1.2 (qP hq▸hr) ht hc w
theorem rI(ok:c.Ok)(st:aQ c ρ σ s.heap)(g:Gd c s.heap)(h: ∀s',af c ρ s (ρ.add s.heap.objs.size) (σ++[.lst []]) s'→Q (.ref s.heap.objs.size) s'):II (model c.prog c.w) A (newList []) Q E s:=
 wpAny_newList (h _ (af.pushList (n:=0) (t:=s.toks) ok st g .nil)) (by exact H' _)
theorem af.get{D:Addr}(x:ad c D' ρ s KF KD s')(h:ρ.r[k]? =some D):KF.r[k]? =some D:=by
 refine oE x.pre fun t q=> ?_;rw[←q,He (G1.mp h).1];exact h
theorem nw{iv:iR}{pos':Pos}{use:Option (Value→Sem Unit)}{x:IV}(hi:ic c d iv)(ht:eM c d tr)(hf:bF c d f)
 (hns:dq iter=true) (hk:scope.kind= .function) (ho:dU scope.names en=true) (hx:iv en σ iter=some (.ok x KE)) (hit:aC KE x=some t) (hc:cE (du 8) tr f target ifs elt KE.length az (dX scope.names en) (KE++[.lst []]) t=some KI) (a:At c A env en ρ σ s d)
 (hQ: ∀KF s' D C,af c ρ s KF KI s'→R s'.heap KF (.lst KE.length) (.ref D)→C∈KF.p→s.heap.objs.size≤C→(∃m,s'.heap.Ns C m)→compPost (model c.prog c.w) A E use Q (.ref D) C (.ok .next) s'):
 II (model c.prog c.w) A (comprehension (.ListComp elt [⟨target,iter,ifs,0⟩] scope pos) scope env pos' (newList []) false (eval iter env) use) Q E s:=by
 refine mX (fJ ho) fun o1 o2 o3=> ?_;refine wpAny_comprehension_free (g:=⟨target,iter,ifs,0⟩) (gs:=[]) rfl (jp hns) (mj (a.er.frees o3)) hk o2 ?_
 refine au.go (hi hx a) (fun x' KD q w KH KS KG KO=> ?_) (fun u_ u_ q=>by exact iQ q)
 refine jF q fun zz1 zz2=> ?_;subst zz1;subst zz2;refine aL KO fun I KO LL=> ?_;have KT:=a.step KG;refine dG a.ok KG.sto KG.gd hit KO fun KZ J b KL KJ Lj LT=> ?_;have K9:=KT.step KJ;refine rI K9.ok K9.st K9.gd fun K_ KV=> ?_;have Lg:=K9.step KV;have LW:=KV.itr K9.st Lj;have Mg:(KZ.add KL.heap.objs.size).r[KE.length]? =some KL.heap.objs.size:=K9.st.last _
 refine wpAny_newFunctionEnv o1 (by simp) (fun h' hn sb=> ?_) hk
 refine oA (xF a.ok Lg hk ho hn sb) fun K6 LX=> ?_;have S123:=(KG.trans KJ).trans KV;have at₄:At c A _ _ _ _ _ d:=⟨a.ok,K6.sto,K6.gd,LX,K6.room Lg.st Lg.room⟩;have LG:=K6.itr Lg.st LW;have new: ∀z∈J,s.heap.objs.size≤z:=fun z m=>(LT z m).elim (LL z) fun q=>HX KG.rest.hsize q
 have pf:codeAny (model c.prog c.w) A (.compLoop (.ListComp elt [⟨target,iter,ifs,0⟩] scope pos) 0 (.ref b) (.ref KL.heap.objs.size) {newEnv scope K_.heap.objs.size env.globals (jK env.cells scope.names []) env.qual none .none (some env) builtinsNs with scope:=relabel scope env})
  (compPost (model c.prog c.w) A E use Q (.ref KL.heap.objs.size) K_.heap.objs.size) {K_ with heap:=h',toks:=K_.toks+0}:=by
  refine uz (nA 8) ht hf az hc (S123.trans K6) at₄ LG new S123.rest.hsize (af.get K6 Mg) fun en' KF s' S' a' g'=> ?_;exact hQ KF s' _ _ S' (.lst g') a'.er.out S123.rest.hsize (aL a'.er.lo fun m hm u_=>⟨m,hm⟩)
 exact codeAny_compStart_list pf (LG.iter_self pf)
theorem ju{iv:iR}{gens:List Comprehension}(hi:ic c d iv)(ht:eM c d tr)(hf:bF c d f)(e:cj iv tr f en σ elt gens scope=some o)(a:At c A env en ρ σ s d):
 bn c A (eval (.ListComp elt gens scope pos) env) ρ s o:=by
 refine nr e fun target iter ifs x KE KI t hg hns hk ho hx hit hc w=> ?_;subst w;rw[hg];show II _ _ _ _ _ _;rw[eval_ListComp];refine nw hi ht hf hns hk ho hx hit hc a fun KF s' D C S r hC hCn hm=> ?_;refine oE hm fun m hm=> ?_;refine⟨m,hm,fun h' sb=> ?_⟩
 have KJ:ad c [C] KF s' KF KI {s' with heap:=h',toks:=s'.toks}:=ad.same (t:=s'.toks) a.ok S.sto S.gd hC sb
 exact⟨KF,S.fresh KJ (by simpa using hCn),ad.R (by simpa using hC) KJ r⟩
noncomputable def AB(σ:Sg)(k j:Nat):Option Sg:=(aI σ k).bind fun l=>(aI σ j).bind fun m=>if l.length+m.length≤2^20 then some (σ.set k (.lst (l++m)))else none
theorem qB(vs ws:List Value)(n:Nat): ∃n',Kj (fun x=>x++ws.toArray) (aB vs n)=aB (vs++ws) n':=by
 refine⟨if(vs.toArray++ws.toArray).size==vs.toArray.size then n else n+1,?_⟩
 simp[Kj]
theorem yL{j:Nat}{lb:Addr}{n2:Nat}(ok:c.Ok)(st:aQ c ρ σ s.heap)(g:Gd c s.heap)(hz:l.length+m.length≤2^20)(h1:ρ.r[k]? =some la)(o1:s.heap.get? la=some (aB vs n))(rs:Rs s.heap ρ l vs)(o2:s.heap.get? lb=some (aB ws n2))(qs:Rs s.heap ρ m ws):
 bn c A (inplaceOp .Add (.ref la) (.ref lb)) ρ s (.ok (.lst k) (σ.set k (.lst (l++m)))):=by
 have ha:s.TypeIs (.ref la) "list":=⟨_,o1,rfl⟩;have hb:s.TypeIs (.ref lb) "list":=⟨_,o2,rfl⟩;have hlk:typeLookup (.type "list") (dunderI "add")=pure (some (.builtin "list.__iadd__")):=PySem.F.slot_list_iadd.lookup
 have hsq:isSeqSlot (some (.builtin "list.__iadd__"))=true:=by decide+kernel
 have hfi:fillsInplaceSlot (.type "list") "add" (Operator.Add== .Add)=pure false:=by
  unfold fillsInplaceSlot;show(typeLookup (.type "list") (dunderI "add")>>=fun fi=>pure (fi.isSome&& !isSeqSlot fi))=pure false;rw[hlk,pure_bind,hsq];rfl
 have hsi:seqSlot? (.type "list") (dunderI "add")=pure (some (.builtin "list.__iadd__")):=Jp hlk hsq
 have hx:vs.length+ws.length≤2^20:=by rw[←rs.length,←qs.length];exact hz
 unfold inplaceOp;refine IO ?_;refine IJ (I2 ha (IJ (IQ hfi ?_)))
 show II _ A (if false=true then _ else _) _ _ s
 refine bV Gk ?_;refine IJ (PySem.wpAny_binaryOp1_none (nm:="add") ha hb noFill_list_add ?_);refine IJ (IQ hsi ?_);refine IJ (IP ?_)
 have hts:Js (vs.toArray.size+ws.toArray.size)=false:=by
  unfold Js;simp only[decide_eq_false_iff_not,H1,gt_iff_lt];simp
  exact HX hx (by decide)
 refine Ja PySem.F.slot_list_iadd ha PySem.F.entry_list_iadd (PySem.F.args_list_iadd_2 _ _) (PySem.AutoSeq1.list___iadd___list_list_0 la vs.toArray n lb ws.toArray n2 (by rw[hts];simp) (by simp;exact HX (HX (H4 _ _) hx) (by decide)) (by simp;exact HX hx (by decide))) ⟨o1,o2,?_⟩
 refine oE (qB vs ws n) fun n' hn'=> ?_
 have S:=af.setCell (c:=c) (l':= .lst (l++m)) (t:=s.toks) ok st g h1 (Kf (f:=Kj fun x=>x++ws.toArray) ..) fun k1 k2=>⟨vs++ws,n',by rw[Kb _ o1 (by rw[hn'];rfl),hn'],(k2 rs).append (k2 qs)⟩
 exact⟨ρ,S,S.R (.lst h1)⟩
theorem tW(ok:c.Ok)(st:aQ c ρ σ s.heap)(g:Gd c s.heap)(e:AB σ k j=some KD)(r:R s.heap ρ (.lst k) v)(q:R s.heap ρ (.lst j) w):bn c A (inplaceOp .Add v w) ρ s (.ok (.lst k) KD):=
 ae e fun l hl e=>ae e fun m hm e=>bI e fun hz e=>by
  obtain rfl:=IH e
  cases r with
  |lst h1=>
  cases q with
  |lst h2=>
  refine bc (st.at_ _ _ _ h1 (bE hl)) fun vs n o1 rs=> ?_
  refine bc (st.at_ _ _ _ h2 (bE hm)) fun ws n2 o2 qs=> ?_
  exact yL (j:=j) ok st g hz h1 o1 rs o2 qs
noncomputable def y8(f:fP)(en:En)(σ:Sg)(x:Str)(op:Operator)(e:Expr):Option aM:=if bH en x=true then(en.own.lookup x).bind fun z=>match z with
 | .int i=>bQ en (f en σ e) fun y KD=>match y with
  | .int j=>(w8 op i j).map fun k=> .ok .next (en.set x (.int k)) KD
  |_=>none
 | .lst k=>if rS op=true then bQ en (f en σ e) fun y KD=>(gJ y).bind fun j=>(AB KD k j).map fun KI=> .ok .next (en.set x (.lst k)) KI else none
 |_=>none
 else none
theorem Ch(h:rS op=true):op= .Add:=by cases op<;>first|rfl|exact bM h
theorem zD{x:Str}{p:Pos}{o:aM}(hf:bF c d f)(h:y8 f en σ x op e=some o)(a:At c A env en ρ σ s d):eE c A (exec (.AugAssign (.Name x p) op e pos) env) env ρ s o:=by
 refine oA (iz h) fun hx h=> ?_;refine ae h fun z hi h=> ?_
 cases z with
 |int i=>exact qD hf hx hi h a
 |lst k=>
  refine oA (iz h) fun hop h=> ?_;obtain rfl:=Ch hop
  refine wpAny_AugAssign_Name (au.go (pu (A:=A) a.st a.gd a.er hx hi) (fun y Ld q L3 KP KY K4 K8=> ?_) (fun u_ u_ q=>by exact iQ q))
  refine jF q fun zz1 zz2=> ?_;subst zz1;subst zz2;have Lr:=a.step K4;refine au.thenS Lr (K4.toS a.st a.er) h (fun o' q=>hf q Lr) fun y KE v KH KS KG KT KO KM Lf=> ?_;refine ae KM fun j hj w=>aN w fun KI hk w=> ?_;subst w;obtain rfl:=gj hj
  refine au.go (tW (A:=A) KT.ok KT.st KT.gd hk (Lf.R K8) KO) (fun z K3 q w KL KZ KJ Lb=> ?_) (fun u_ u_ q=>by exact iQ q)
  refine jF q fun zz1 zz2=> ?_;subst zz1;subst zz2;exact dL (KT.step KJ) (cR hx) Lb fun s' S' er'=>⟨KZ,(KG.trans (KJ.toS KT.st KT.er)).trans S',er',.next⟩
 |_=>exact no h
set_option tactic.hygienic true in
theorem v_{f:fP}{e:Expr}{pos:Pos}{o:aM}(hf:bF c d f)(hc:cq e=true)(h:bQ en (f en σ e) (fun y KD=>if aY y then some (.ok .next en KD)else none)=some o)(a:At c A env en ρ σ s d):eE c A (exec (.Expr e pos) env) env ρ s o:=by
 refine wpAny_Expr (au.thenS a ((af.refl a.st a.gd).toS a.st a.er) h (fun o' q=>hf q a) fun y KE v KH KS KG KT KO KM Lf=> ?_) (by unfold interactive;rw[a.er.kind];rfl) (p_ hc)
 split at KM
 ·rename_i hy;obtain rfl:=IH KM;have:=hO KO;rw[hy]at this;have hv:v= .none:=GN this;subst hv;exact⟨KS,KG,KT.er,.next⟩
 ·exact no KM
theorem ba.monoG{D:List Addr}(t:aQ c ρ σ s.heap)(d: ∀a∈D,a∈ρ.p)(x:ad c D ρ s KF KD s')(e:ba s.heap ρ env en)(hl:env.locals∉D)(hc: ∀a w,s.heap.IsCell a w→a∉D):ba s'.heap KF env en:=ba.monoX t d x e hl fun u_ u_ u_ u_ h=>hc _ _ h
theorem bo.freshG{D:List Addr}(x:bo c env KY KP ρ σ s)(st:aQ c ρ σ s.heap)(er:ba s.heap ρ env en)(hD: ∀a∈mR env,a∉D)(y:ad c D ρ s KF KD s')(k: ∀a∈D,KP.heap.objs.size≤a):bo c env KY KP KF KD s':=by
 refine⟨ad.trans' x.st y fun a m=> .inr (k a m),x.fo.trans fun a m o e t=> ?_⟩;refine aL (y.ext a o (fun z=>(GP.mp z).elim (hD a m) (st.disj _ (er.own a m))) e) fun o' e' q=> ?_;refine rh t fun es ep hd=> ?_;exact⟨o',e',es,ep,q.dict hd⟩
theorem lf{iv:iR}{x:Str}{p:Pos}{gens:List Comprehension}{cpos:Pos}{o:aM}(hi:ic c d iv)(ht:eM c d tr)(hf:bF c d f)(hx:bH en x=true)
 (h:bQ en (cj iv tr f en σ elt gens scope) (fun y KD=>some (.ok .next (en.set x y) KD))=some o) (a:At c A env en ρ σ s d):eE c A (exec (.Assign [.Name x p] (.ListComp elt gens scope cpos) pos) env) env ρ s o:=by
 obtain⟨b,hb⟩: ∃b,swapsWith (.ListComp elt gens scope cpos) (some (.Name x p)) pos.line env=pure b:=⟨_,rfl⟩
 cases b with
 |false=>
  refine wpAny_Assign_Name (au.thenS a ((af.refl a.st a.gd).toS a.st a.er) h (fun o' q=>ju hi ht hf q a) fun y KE v KH KS KG KT KO KM Lf=> ?_) hb;obtain rfl:=IH KM;exact dL KT (cR hx) KO fun s' S' er'=>⟨KS,KG.trans S',er',.next⟩
 |true=>
  cases hl:cj iv tr f en σ elt gens scope with
  |none=>rw[hl]at h;exact no h
  |some o'=>
   rw[hl]at h;refine nr hl fun target iter ifs xv KE KI t hg hns hk ho hxv hit hc w=> ?_;subst w;obtain rfl:=IH h;rw[hg]at hb⊢
   have fin:II (model c.prog c.w) A (exec (.Assign [.Name x p] (.ListComp elt [⟨target,iter,ifs,0⟩] scope cpos) pos) env) (gk c env ρ s (.ok .next (en.set x (.lst KE.length)) KI)) (fun u_ u_=>False) s:=by
    rw[exec_Assign_Name_used _ _ _ _ hb];refine IJ (IW (IJ ?_))
    show II _ A (do let _←comprehension (.ListComp elt [⟨target,iter,ifs,0⟩] scope cpos) scope env _ (newList []) false (eval iter env) (some (assign (.Name x p) env))) _ _ s
    refine IJ (IM (nw (use:=some (assign (.Name x p) env)) (Q:=fun u_ s'=>gk c env ρ s (.ok .next (en.set x (.lst KE.length)) KI) .next s') (E:=fun u_ u_=>False) hi ht hf hns hk ho hxv hit hc a fun KF s' D C S r hC hCn hm=> ?_) (fun u_ s' hq=>IK (IK hq)) fun u_ u_ z=>z);refine oE hm fun m hm=> ?_;have a':=a.step S;show II _ A (assign (.Name x p) env (.ref D)) _ _ s';refine assign_Name (dL a' (cR hx) r fun s'' S'' er''=> ?_);have old: ∀b∈mR env,b<s.heap.objs.size:=fun b m=>(a.st.plow b (a.er.own b m)).2
    have hCo: ∀b∈mR env,b∉[C]:=fun b m q=>absurd (old b m) (by rw[GR.mp q];exact H1.mpr hCn)
    have hm':s''.heap.Ns C m:=S''.st.ext.ns (fun z=>(GP.mp z).elim (fun z=>hCo C z (by exact .head _)) (S.sto.disj C hC)) hm
    refine⟨m,hm',fun h' sb=> ?_⟩;have hCp:C∈KF.p:=hC
    have KV:ad c [C] KF s'' KF KI {s'' with heap:=h',toks:=s''.toks}:=ad.same (t:=s''.toks) a.ok S''.st.sto S''.st.gd hCp sb
    have T:bo c env ρ s KF KI {s'' with heap:=h',toks:=s''.toks}:=((S.toS a.st a.er).trans S'').freshG S''.st.sto er'' hCo KV (by simpa using hCn)
    refine⟨KF,T,er''.monoG S''.st.sto (by simpa using hCp) KV (fun q=>hCo env.locals (.head _) q) (fun b w i q=> ?_),.next⟩
    rw[GR.mp q]at i;refine iJ hm' fun o1 es ep g1 g2 u_=> ?_;refine aL i fun o2 g3 g4=> ?_;rw[g1]at g3;obtain rfl:=IH g3;rw[g2]at g4;cases g4
   exact IM fin (fun u_ u_ z=>z) fun u_ u_ z=>z.elim
noncomputable def vd(en:En)(line:Nat)(e:Expr):Option Str:=(ik e).bind fun p=>if en.names.lookup p.1.1==some .local&&p.1.2.line==line then some p.1.1 else none
noncomputable def swM(N:List Str)(ts vs:List Expr):Option (Option (List Str)):=if(N.length !=ts.length||N.eraseDups.length !=N.length)=true then some none else if vs.all (foldedForSure 8)=true then some none else if vs.all (constantsAlone 8)=true then none else some (some N)
noncomputable def xq(en:En)(ts vs:List Expr):Option (Option (List Str)):=
 if(!(ts.length==2||ts.length==3)||vs.length !=ts.length)=true then some none
 else if al vs=true then swM (ts.filterMap (vd en ((ts.head?.map (·.pos.line)).getD 0))) ts vs else none
noncomputable def swN(N:List Str)(ts vs:List Expr):Sem (Option (List Str)):=if(N.length !=ts.length||N.eraseDups.length !=N.length)=true then pure none else if vs.all (foldedForSure 8)=true then pure none
 else if vs.all (constantsAlone 8)=true then(unsupported "assign.tuple-of-constant-expressions:order-of-the-stores">>=fun(_:Unit)=>pure (some N))else pure (some N)
noncomputable def swB(b:Bool)(f:Expr→Bool)(g:Expr→Option Str)(ts vs:List Expr):Sem (Option (List Str)):=
 if(!(ts.length==2||ts.length==3)||vs.length !=ts.length||b)=true then pure none else if vs.any f=true then pure none else swN (ts.filterMap g) ts vs
theorem BY{ts vs:List Expr}{r:Option (List Str)}(h:swM N ts vs=some r):swN N ts vs=pure r:=by
 refine eZ h (fun c w=> ?_) fun c w=>(if_neg c).trans (eZ w (fun c w=> ?_) fun c w=>(if_neg c).trans (eZ w (fun u_ w=>no w) fun c w=> ?_))
 ·obtain rfl:=IH w;exact if_pos c
 ·obtain rfl:=IH w;exact if_pos c
 ·obtain rfl:=IH w;exact if_neg c
theorem tF{vs:List Expr}:al vs=true→ ¬vs.any dg=true:=by
 induction vs with
 |nil=>exact fun u_ h=>bM h
 |cons _ _ ih=>exact fun h q=>(Gl.mp q).elim (bk h).1 (ih (bk h).2)
theorem BG{f:Expr→Bool}{g:Expr→Option Str}{ts vs:List Expr}{r:Option (List Str)}(hb:b=false)(hf:f=dg)(hg:g=vd en ((ts.head?.map (·.pos.line)).getD 0))(h:xq en ts vs=some r):swB b f g ts vs=pure r:=by
 subst hb hf hg;refine eZ h (fun c w=> ?_) fun c w=>(if_neg fun q=>c ((Gq _).symm.trans q)).trans (bI w fun c w=>(if_neg (tF c)).trans (BY w));obtain rfl:=IH w;exact if_pos ((Gq _).trans c)
theorem yy{ts vs:List Expr}{k':Nat}{p p':Pos}{r:Option (List Str)}{Mh:Heap}(er:ba Mh ρ env en)(h:xq en ts vs=some r):swappedStores [.Tuple ts k p] (.Tuple vs k' p') env=pure r:=by
 have hb:(env.blockKind != .function)=false:=by unfold Env.blockKind;rw[er.kind];rfl
 have hk: ∀x,env.kindOf x=en.names.lookup x:=fun x=>by rw[←er.names];rfl
 refine(BG hb (funext fun e=> ?_) (funext fun e=> ?_) h:swB _ _ _ ts vs=_)
 ·cases e<;>rfl
 ·cases e with
  |Name x q=>exact congrArg (fun o=>if(o==some NameKind.local&&q.line==(ts.head?.map (·.pos.line)).getD 0)=true then some x else none) (hk x)
  |_=>rfl
noncomputable def Bz(e:Expr):Bool:=e.ctorIdx.beq 23||e.ctorIdx.beq 20||e.ctorIdx.beq 21
noncomputable def jq(en:En)(t e:Expr):Option (Option (List Str)):=match kh t with
 |some p=>match kh e with
  |some q=>xq en p.1.1 q.1.1
  |none=>some none
 |none=>if Bz t=true then some none else none
theorem kW{t:Expr}{r:Option (List Str)}{Mh:Heap}(er:ba Mh ρ env en)(h:jq en t e=some r):swappedStores [t] e env=pure r:=by
 unfold jq at h
 cases h1:kh t with
 |some p=>
  rw[h1]at h;obtain⟨p,rfl⟩:=p
  cases h2:kh e with
  |some q=>
   rw[h2]at h;obtain⟨q,rfl⟩:=q;exact yy er h
  |none=>
   rw[h2]at h
   cases h
   cases e<;>first|rfl|exact DU h2
 |none=>
  rw[h1]at h;refine bI h fun hp w=> ?_
  cases w
  cases t<;>first|rfl|exact bM hp|exact DU h1
noncomputable def rJ:En→List Str→List V→Option En
 |en,[],l=>match l with
  |[]=>some en
  |_::_=>none
 |en,n::ns,l=>match l with
  |[]=>none
  |y::ys=>if bH en n=true then rJ (en.set n y) ns ys else none
theorem pt{ns:List Str}: ∀{en en':En} {ρ:Pl} {s:Shared} {l:List V} {vs:List Value} {Q:Unit→Shared→Prop} {E:Value→Shared→Prop},rJ en ns l=some en'→At c A env en ρ σ s d→Rs s.heap ρ l vs→
 (∀KF s',bo c env ρ s KF σ s'→ba s'.heap KF env en'→Q () s')→II (model c.prog c.w) A (assignInOrder (ns.map fun n=>bindName env n) vs) Q E s:=by
 induction ns with
 |nil=>
  intro en en' ρ s l vs Q E e a r h
  cases l with
  |cons=>exact no e
  |nil=>obtain rfl:=IH e;cases r using Rs.nilE;exact assignInOrder_nil (h _ _ ((af.refl a.st a.gd).toS a.st a.er) a.er)
 |cons n ns ih=>
  intro en en' ρ s l vs Q E e a r h
  cases l with
  |nil=>exact no e
  |cons y ys=>
   refine bI e fun hx w=> ?_
   cases r using Rs.consE with
   |cons r rs=>exact assignInOrder_cons (bindName_ (dL a (cR hx) r fun s' S er'=>ih w (a.stepS S er') (ad.Rs a.er.own S.st rs) fun KZ KL KJ LE=>h _ _ (S.trans KJ) LE))
variable (c)in
noncomputable def hW(f:fP)(en:En)(σ:Sg)(t e:Expr):Option aM:=if cq e=true then(jq en t e).bind fun r=>match r with
 |none=>bQ en (f en σ e) fun y KD=>(eL c f 8 t en KD y).map fun p=> .ok .next p.1 p.2
 |some names=>bQ en (f en σ e) fun y KD=>(eN y).bind fun l=>if l.length=names.length then(rJ en names.reverse l.reverse).map fun en'=> .ok .next en' KD else none
 else none
theorem oj{t:Expr}(h:cq e=true):swapsWithSole [t] e n env=pure false:=p_ h
theorem uF{t:Expr}(h:jq en t e=some none):(assignEach [t] env).map (·.2)=[assign t env]:=by
 cases t<;>first|rfl|exact no h
theorem mO{t:Expr}{o:aM}(hf:bF c d f)(h:hW c f en σ t e=some o)(a:At c A env en ρ σ s d):eE c A (exec (.Assign [t] e pos) env) env ρ s o:=by
 refine oA (iz h) fun hc h=> ?_;show II _ _ _ _ _ _;rw[exec_Assign];refine IJ (IW ?_);rw[oj hc];refine IJ (IK ?_)
 refine bV (by exact Gk) ?_
 refine ae h fun r hsw h=> ?_
 cases r with
 |none=>
  refine IJ (au.thenS a ((af.refl a.st a.gd).toS a.st a.er) h (fun o' q=>hf q a) fun y KE v KH KS KG KT KO KM Lf=> ?_);refine aN KM fun p hg w=> ?_;subst w;rw[kW a.er hsw];refine IJ (IK ?_);rw[uF hsw];unfold assignStores;exact IJ (pC hf 8 hg KT KO fun KZ KL KJ LE=>IK ⟨KZ,KG.trans KJ,LE,.next⟩)
 |some names=>
  refine IJ (au.thenS a ((af.refl a.st a.gd).toS a.st a.er) h (fun o' q=>hf q a) fun y KE v KH KS KG KT KO KM Lf=> ?_);refine ae KM fun l hl w=>bI w fun hlen w=>aN w fun en' hg w=> ?_;subst w;obtain rfl:=eA hl;rw[kW a.er hsw];refine IJ (IK ?_);unfold assignStores;refine IJ (IP ?_)
  cases id KO with
  | @tup _ ta vs m h1 f1 rs=>
  have hn:names.length=vs.toArray.size:=hlen.symm.trans rs.length;rw[hn];refine IJ (bw (unpackItems_tuple KT.room.hand (cU h1) fun h' he hz=> ?_))
  have KJ:af c KS KH KS KE {KH with heap:=h',toks:=KH.toks}:=af.keeps KT.ok KT.st KT.gd (fun b o eb=>he b o (fun q=>absurd (Ka eb) (by rw[q];exact Ic _)) eb) hz
  exact IJ (pt hg (KT.step KJ) (KJ.Rs rs).reverse fun Lw K_ KV LM=>IK ⟨Lw,(KG.trans (KJ.toS KT.st KT.er)).trans KV,LM,.next⟩)
noncomputable abbrev jM(cls:String)(t:Addr):Obj:={cls:= .type cls,data:= .fields #[.ref t,.none,.none,.none,.bool false,.none]}
theorem af.thrown{t:Nat}{e tt:Addr}{cls:String}(ok:c.Ok)(st:aQ c ρ σ s.heap)(g:Gd c s.heap)(k: ∀b o,s.heap.get? b=some o→h'.get? b=some o)(he:h'.get? e=some (jM cls tt))(hn:s.heap.objs.size≤e)(hz:s.heap.objs.size≤h'.objs.size):
 af c ρ s ⟨ρ.r,e::ρ.p⟩ σ {s with heap:=h',toks:=t}∧f9 h' ⟨ρ.r,e::ρ.p⟩ s.heap.objs.size cls (.ref e):=by
 refine⟨ad.write ok st g (by exact G9 _) (fun b o u_ q=>k b o q) hz (fun a m=> ?_) (fun a m=> .tail _ m),e,_,_,rfl,he,rfl,rfl,hn,.head _,.inl rfl⟩
 rcases GY.mp m with rfl|q
 ·exact .inr ⟨hn,Ka he⟩
 ·exact .inl q
theorem tK{cls:String}(hp:PlainExc cls)
 (h: ∀h' e t,(∀b o,s.heap.get? b=some o→h'.get? b=some o)→h'.get? e=some (jM cls t)→s.heap.objs.size≤e→s.heap.objs.size≤h'.objs.size→Q (.ref e) {s with heap:=h'}):II M A (newExc (.type cls) []) Q E s:=by
 unfold newExc newTuple
 and_intros
 refine IJ (IR ?_ (by exact H' _))
 refine IJ (m:=firstArgMember _ _) (IQ (a:=Ks) (by simp only[firstArgMember,hp.first];rfl) ?_)
 rw[hp.own]
 refine IR ?_ (by size_fits)
 exact h _ _ _ (fun b o q=>J_ _ (J_ _ q)) (J9 _ rfl) (by rw[J'];exact H3 _) (by rw[J',J'];exact H4 _ 2)
noncomputable def kF(g:lA)(en:En)(σ:Sg)(test:Expr):Option aM:=bQ en (g en σ test) fun b KD=>if b then some (.ok .next en KD)else some (.exc "AssertionError" en KD)
theorem rG{g:lA}{o:aM}(hg:eM c d g)(h:kF g en σ test=some o)(a:At c A env en ρ σ s d):eE c A (exec (.Assert test none pos) env) env ρ s o:=by
 show II _ _ _ _ _ _;rw[arm_exec_Assert];refine IJ (IW (IJ (au.thenS a ((af.refl a.st a.gd).toS a.st a.er) h (fun o' q=>hg q a) fun b KE v KH KS KG KT KO KM Lf=> ?_)))
 cases KO
 cases b with
 |true=>
  obtain rfl:=IH KM;exact IK ⟨KS,KG,KT.er,.next⟩
 |false=>
  obtain rfl:=IH KM;simp only[Gm,if_false];unfold assertFails valueOfOpt;refine IJ (IK ?_);refine IJ (IW ?_);refine IJ (IP ?_);refine IJ (tK plainExc_AssertionError fun h' e t k he hn hz=>Jn a.room.hand ?_);refine oA (af.thrown (t:=KH.toks) a.ok KT.st KT.gd k he hn hz) fun KJ f=> ?_;exact⟨_,KG.trans (KJ.toS KT.st KT.er),KJ.env KT.st KT.er,f.mono KG.st.rest.hsize⟩
theorem qu{cls initId:String}(F:ExcCallFacts cls newId initId){Q:Fin→Shared→Prop}{hp:Heap}{g:Array GenState}{dr:Drawn}{tk:Nat}{os:OsState}
 (h: ∀h' e t,(∀b o,hp.get? b=some o→h'.get? b=some o)→h'.get? e=some (jM cls t)→hp.objs.size≤e→hp.objs.size≤h'.objs.size→Q (.done (.ret (.ref e))) ⟨h',g,dr,tk,os⟩):
 II (model c.prog c.w) A (Builtin.«type.__call__» ⟨[.type cls,v],[]⟩) Q E ⟨hp,g,dr,tk,os⟩:=by
 have hnt:=F.notType;have hcan:=F.canMake;have hchk:=F.noVector ⟨[v],[]⟩;refine aL F.mro fun m hmro hne=> ?_;have hmade:=F.madeBy
 wp_walk
 refine codeAny_call_builtin_code (JN _ F.quiet) (IQ (F.newOk [v]) ?_)
 refine codeAny_exc_new F.toExcNewFacts ?_ (by size_fits)
 show II _ _ _ _ _ _
 have hget:((hp.push {cls:= .type "tuple",data:= .seq [v].toArray}).push (jM cls hp.objs.size)).get? (hp.objs.size+1)=some (jM cls hp.objs.size):=by heap_get
 refine IJ (I8 ⟨_,hget,rfl⟩ F.sub ?_)
 wp_step
 refine IJ (IO (IX ⟨_,hget,rfl⟩ F.init (I9 (Jo F.init.plain F.initEntry (wpAny_check_exc_init F ⟨_,hget,rfl⟩ ?_)))))
 wp_walk
 refine h _ _ (hp.objs.size+2) (fun b o hb=> ?_) ?_ (H3 _) ?_
 ·rw[Ke _ _ (Ie (Il (Ka hb)))];exact J_ _ (J_ _ (J_ _ hb))
 ·rw[Kb _ (J_ _ hget) rfl];simp only[J'];rfl
 ·rw[Kd];simp only[J'];exact H4 _ 3
theorem qQ{cls initId:String}(F:ExcCallFacts cls newId initId)
 (h: ∀h' e t,(∀b o,s.heap.get? b=some o→h'.get? b=some o)→h'.get? e=some (jM cls t)→s.heap.objs.size≤e→s.heap.objs.size≤h'.objs.size→Q (.ref e) {s with heap:=h'}):
 II (model c.prog c.w) A (call (.type cls) [v]) Q E s:=by
 obtain⟨hp,g,dr,tk,os⟩:=s;refine I9 (Jk ?_);show II _ _ (again (.builtin "type.__call__" ⟨[.type cls,v],[]⟩)) _ _ _
 exact IK ⟨JN _ (by decide+kernel),IS entry_typeCall (qu F h)⟩
noncomputable def xA(c:Cx)(f:fP)(en:En)(σ:Sg)(x:Str)(e:Expr):Option aM:=(aR c en x).bind fun y=>(kB y).bind fun v=>(sM v).bind fun T=>if T="ValueError"∧al [e]=true then bQ en (f en σ e) fun u_ KD=>some (.exc T en KD)else none
theorem ub{x:Str}{np cpos:Pos}{o:aM}(hf:bF c d f)(h:xA c f en σ x e=some o)(a:At c A env en ρ σ s d):
 eE c A (exec (.Raise (some (.Call (.Name x np) [e] [] cpos)) none pos) env) env ρ s o:=by
 refine ae h fun y hx KR=>ae KR fun v hv La=>ae La fun T hT LO=>bI LO fun hT' Lo=> ?_;clear h KR La LO;obtain rfl:=ix hv;obtain rfl:=wO hT;obtain⟨rfl,hns⟩:=hT'
 have hstar:=gg (e:=e) (es:=[]) (env:=env) (fun y p q=>eJ hns y p (by rw[q];exact .head _))
 refine wpAny_Raise_made PySem.F.excRaise_ValueError a.room.hand (wpAny_Call_ofName (au.go (hH (A:=A) (pos:=np) a.ok a.st a.gd a.er hx) (fun y Ld q L3 KP KY K4 K8=> ?_) (fun u_ u_ q=>by exact iQ q)))
 refine jF q fun zz1 zz2=> ?_;subst zz1;subst zz2;obtain rfl:=K8.valQ;have Lr:=a.step K4;have hpl:=fW (env:=env) (pos:=cpos) (eJ hns);refine callWith_excType hpl (jn hpl rfl ?_);refine Jd (au.thenS Lr (K4.toS a.st a.er) Lo (fun o' q=>hf q Lr) fun y KE v KH KS KG KT KO KM Lf=>Jh ?_) hstar;obtain rfl:=IH KM;refine IK (a:=[]) ?_;refine qQ PySem.F.excCall_ValueError fun h' e t k he hn hz=> ?_;obtain⟨KJ,f⟩:=af.thrown (t:=KH.toks) a.ok KT.st KT.gd k he hn hz;exact⟨e,t,rfl,he,_,KG.trans (KJ.toS KT.st KT.er),KJ.env KT.st KT.er,f.mono KG.st.rest.hsize⟩
theorem kX{cls:String}{e:Value}{Q:Unit→Shared→Prop}(ok:c.Ok)(st:aQ c ρ σ s.heap)(g:Gd c s.heap)(fl:f9 s.heap ρ n cls e)
 (h: ∀D s',(∀a∈D,a∈ρ.p∧n≤a∧ ∃o vs,s.heap.get? a=some o∧o.data= .fields vs)→ad c D ρ s ρ σ s'→Q () s'):II (model c.prog c.w) A (setFlight e none) Q E s:=by
 refine fV fl fun a oa vs zz3 ha hc hd na ap h1=> ?_;subst zz3;unfold setFlight
 rcases h1 with h1|⟨T,oT,ts,h1,nT,Tp,hTa,hT,hdT,h3⟩
 ·refine IJ (IN ha hd h1 ?_)
  refine bV (by decide) ?_
  exact IK (h [] s (by simp) (ad.refl st g))
 ·refine IJ (IN ha hd h1 ?_)
  refine cV ((show(Kr T !=Ks)=true from by simp)) ?_
  refine I3 hT hdT (Gg.mp h3).1 ?_
  exact h [T] _ (by simp only[GR,forall_eq];exact⟨Tp,nT,oT,ts,hT,hdT⟩) (ad.same (t:=s.toks) ok st g Tp (Kf ..))
theorem jb{D:List Addr}(k: ∀a∈D,a∈ρ.p∧n≤a∧ ∃o vs,h.get? a=some o∧o.data= .fields vs):aV h D:=fun a m=>by
 refine BF (k a m) fun u_ u_ o vs ho hd=> ?_
 exact⟨o,ho,by unfold c_;rw[hd]⟩
noncomputable def Av:V→Option Value:=kB
theorem AW(e:Av x=some v):x= .val v:=ix e
noncomputable def DY(e:Expr):Option {p:Expr×Expr×Nat×Pos//e= .Tuple [p.1,p.2.1] p.2.2.1 p.2.2.2}:=(kh e).bind fun p=>match p with
 |⟨([x,y],k,p),h⟩=>some ⟨(x,y,k,p),h⟩
 |_=>none
noncomputable def FG:(l:List ExceptHandler)→Option {p:Expr×Const×Nat×Pos×Pos×Pos//l=[.ExceptHandler (some p.1) none [.Return (some (.Constant p.2.1 p.2.2.1 p.2.2.2.1)) p.2.2.2.2.1] p.2.2.2.2.2]}
 |[.ExceptHandler (some t) none [s] hp]=>(F' s).bind fun r=>match r with
  |⟨(some e,rp),h⟩=>(AN e).map fun k=>⟨(t,k.1.1,k.1.2.1,k.1.2.2,rp,hp),congrArg (fun s:Stmt=>[ExceptHandler.ExceptHandler (some t) none [s] hp]) (h.trans (congrArg (fun e:Expr=>Stmt.Return (some e) rp) k.2))⟩
  |_=>none
 |_=>none
noncomputable def rP(T:String):Bool:=subB T (.type "BaseException")==some true&&subB ((Manifest.find? T).elim "type" fun x=>x.metatype) (.type "tuple")==some false
theorem gQ(h:rP T=true):isSubtype (.type T) (.type "BaseException")=pure true∧isSubtype (.type ((Manifest.find? T).elim "type" fun x=>x.metatype)) (.type "tuple")=pure false:=by
 simp only[rP,Gj,beq_iff_eq]at h;exact⟨isSubtype_of_subB h.1,isSubtype_of_subB h.2⟩
variable (c)in
noncomputable def oh(en:En)(x:Str):Option String:=(aR c en x).bind fun y=>(Av y).bind fun v=>(sM v).bind fun T=>if rP T=true then some T else none
theorem et{x:Str}(h:oh c en x=some T):aR c en x=some (.val (.type T))∧rP T=true:=
 ae h fun y hy w=>ae w fun v hv w=>ae w fun T' hT w=>bI w fun he w'=>by
  obtain rfl:=AW hv;obtain rfl:=wO hT;obtain rfl:=IH w';exact⟨hy,he⟩
variable (c)in
noncomputable def eU(en:En)(t:Expr)(cls:String):Bool:=
 ((ik t).any fun p=>(oh c en p.1.1).any fun T=>subB cls (.type T)==some true)||
 ((DY t).any fun p=>(ik p.1.1).any fun q=>(ik p.1.2.1).any fun r=>(oh c en q.1.1).any fun T1=>(oh c en r.1.1).any fun T2=>subB2 cls T1 T2==some true)
theorem yY{x y x' y':Expr}{p:Pos}(h1:x=x')(h2:y=y'):Expr.Tuple [x,y] k p= .Tuple [x',y'] k p:=by rw[h1,h2]
theorem vN{t:Expr}{cls:String}(h:eU c en t cls=true)(k1: ∀x p T,t= .Name x p→aR c en x=some (.val (.type T))→rP T=true→subB cls (.type T)=some true→P)
 (k2: ∀x1 p1 x2 p2 k p T1 T2,t= .Tuple [.Name x1 p1,.Name x2 p2] k p→aR c en x1=some (.val (.type T1))→rP T1=true→aR c en x2=some (.val (.type T2))→rP T2=true→subB2 cls T1 T2=some true→P):P:=
 (Gl.mp h).elim
  (fun h=>jI h fun p u_ h=>jI h fun T hT h=>k1 _ _ T p.2 (et hT).1 (et hT).2 (beq_iff_eq.mp h))
  (fun h=>jI h fun p u_ h=>jI h fun q u_ h=>jI h fun r u_ h=>jI h fun T1 h1 h=>jI h fun T2 h2 h=>k2 _ _ _ _ _ _ T1 T2 (p.2.trans (yY q.2 r.2)) (et h1).1 (et h1).2 (et h2).1 (et h2).2 (beq_iff_eq.mp h))
theorem lT{x:Str}(ok:c.Ok)(st:aQ c ρ σ s.heap)(g:Gd c s.heap)(er:ba s.heap ρ env en)(e:aR c en x=some (.val (.type T)))
 (h: ∀KF s',af c ρ s KF σ s'→Q (.type T) s'):II (model c.prog c.w) A (eval (.Name x pos) env) Q E s:=by
 refine au.go (hH (A:=A) (pos:=pos) ok st g er e) (fun y Ld q L3 KP KY K4 K8=> ?_) (fun u_ u_ q=>by exact iQ q)
 refine jF q fun zz1 zz2=> ?_;subst zz1;subst zz2;obtain rfl:=K8.valQ;exact h _ _ K4
theorem f9.step{cls:String}{e:Value}(st:aQ c ρ σ s.heap)(S:af c ρ s KF KD s')(f:f9 s.heap ρ n cls e):f9 s'.heap KF n cls e:=by
 refine fV f fun x oe vs zz3 h2 h3 h4 h5 h6 h7=> ?_;subst zz3
 have keep: ∀{z:Addr} {o:Obj} {ws:Array Value},z∈ρ.p→s.heap.get? z=some o→o.data= .fields ws→ ∃(o':Obj) (ws':Array Value),s'.heap.get? z=some o'∧o'.cls=o.cls∧o'.data= .fields ws'∧ ∀(i:Nat) (v:Value),ws[i]? =some v→ws'[i]? =some v:=by
  intro z o ws hz hg hdz
  refine aL (S.ext z o (fun q=>st.disj _ hz (by simpa using q)) hg) fun o' ho' q=> ?_
  rcases q with rfl|⟨_,⟨es,ep,dd⟩,_⟩|⟨_,hcl,ws₀,more,d1,rfl⟩
  ·exact⟨_,ws,ho',rfl,hdz,fun u_ u_ q=>q⟩
  ·rw[hdz]at dd;cases dd
  ·rw[hdz]at d1;cases d1
   exact⟨_,_,ho',rfl,rfl,fun i v q=>by rw[Array.getElem?_append_left (Gg.mp q).1];exact q⟩
 refine bU (keep h6 h2 h4) fun o' ws' k1 k2 k3 k4=> ?_;refine⟨x,o',ws',rfl,k1,k2.trans h3,k3,h5,S.pold _ h6,?_⟩
 rcases h7 with q|⟨T,oT,ts,q1,q2,q3,q4,q5,q6,q7⟩
 ·exact .inl (k4 _ _ q)
 ·refine bU (keep q3 q5 q6) fun oT' ts' j1 j2 j3 j4=> ?_;exact .inr ⟨T,oT',ts',k4 _ _ q1,q2,S.pold _ q3,q4,j1,j3,j4 _ _ q7⟩
theorem f9.type{h:Heap}{cls:String}{x:Addr}(f:f9 s.heap ρ n cls (.ref x)):s.TypeIs (.ref x) cls:=by
 refine i4 f fun x' o' ws' q k1 k2 u_=> ?_
 cases q
 exact⟨_,k1,k2⟩
theorem o5{t:Expr}{cls:String}{ex:Value}{Mi:Stmt}{suite:List Stmt}{hp:Pos}{rest:List ExceptHandler}{Q:Flow→Shared→Prop}(hc:eU c en t cls=true)(K4:bo c env KY KP ρ σ s)(a:At c A env en ρ σ s d)
 (fl:f9 s.heap ρ KP.heap.objs.size cls ex)
 (h: ∀A' E' KF s',bo c env KY KP KF σ s'→aQ c KF σ s'.heap→Gd c s'.heap→ba s'.heap KF env en→II (model c.prog c.w) A' (execs (Mi::suite) env) Q E' s'):
 II (model c.prog c.w) A (handleBy ex env (.ExceptHandler (some t) none (Mi::suite) hp::rest)) Q E s:=by
 refine lG (id fl) fun x oe vs zz3 fl'=> ?_;subst zz3;have lt {KS KH} (KG:af c ρ s KS σ KH):KH.TypeIs (.ref x) cls:=(fl.step a.st KG).type (h:=KH.heap);have lw {A':Around} {E':Value→Shared→Prop} {KS:Pl} {KH:Shared} (KG:af c ρ s KS σ KH):II (model c.prog c.w) A' (setFlight (.ref x) none) (fun u_ KL=>II (model c.prog c.w) A' (execs (Mi::suite) env) Q E' KL) E' KH:=
  kX a.ok KG.sto KG.gd (fl.step a.st KG) fun D KL hD KJ=>
   have LQ:=KG.env a.st a.er
   h A' E' KS KL ((K4.trans (KG.toS a.st a.er)).plain KG.sto LQ (jb hD) KJ fun b m=>(hD b m).2.1) KJ.sto KJ.gd (LQ.monoI KG.sto (fun b m=>(hD b m).1) KJ (jb hD))
 refine vN hc (fun y p T e t1 t2 t5=> ?_) fun x1 p1 x2 p2 k p T1 T2 e t1 t2 u1 u2 t5=> ?_
 ·subst e;refine wpAny_handleBy_builtin (X:=cls) (T:=T) (b:=true) (gQ t2).1 (gQ t2).2 (isSubtype_of_subB t5) ?_
  exact lT a.ok a.st a.gd a.er t1 fun KS KH KG=>⟨rfl,lt KG,by rw[if_pos rfl];exact lw KG⟩
 ·subst e;refine dC (subB2_some t5) fun b1 b2 j1 j2 hb=> ?_;refine wpAny_handleBy_tup2 (X:=cls) (T1:=T1) (T2:=T2) (gQ t2).1 (gQ t2).2 (gQ u2).1 (gQ u2).2 (isSubtype_of_subB j1) (isSubtype_of_subB j2) ?_;refine wpAny_Tuple (Jd (lT a.ok a.st a.gd a.er t1 fun KS KH KG=>Jd (lT a.ok KG.sto KG.gd (KG.env a.st a.er) u1 fun KZ KL KJ=>Jh ?_)))
  have KV:af c KZ KL KZ σ {KL with heap:=KL.heap.push (ao [.type T1,.type T2] 0)}:=af.push (t:=KL.toks) a.ok KJ.sto KJ.gd
  exact⟨(by decide:2≤sizeLine),_,rfl,cU (J9 _ rfl),lt ((KG.trans KJ).trans KV),by rw[if_pos hb];exact lw ((KG.trans KJ).trans KV)⟩
noncomputable def sk(o:Option aM)(f:String→En→Sg→Option aM):Option aM:=o.bind fun so=>match so with
 | .ok fl en σ=>some (.ok fl en σ)
 | .exc cls en σ=>f cls en σ
variable (c)in
noncomputable def rH(fs:eC)(en:En)(σ:Sg)(body:List Stmt)(handlers:List ExceptHandler):Option aM:=(FG handlers).bind fun p=>
 sk (fs en σ body) fun cls en' KD=>if eU c en' p.1.1 cls=true then(n_ p.1.2.1).map fun y=> .ok (.ret y) en' KD else none
theorem Fh{fs:eC}{handlers:List ExceptHandler}{o:aM}(h:rH c fs en σ body handlers=some o)
 (k: ∀t k kn kp rp hp so,handlers=[.ExceptHandler (some t) none [.Return (some (.Constant k kn kp)) rp] hp]→fs en σ body=some so→
  sk (some so) (fun cls en' KD=>if eU c en' t cls=true then(n_ k).map fun y=> .ok (.ret y) en' KD else none)=some o→P):P:=
 ae h fun p u_ h=>ae h fun so hb h=>k _ _ _ _ _ _ so p.2 hb h
theorem zd{fs:eC}{handlers:List ExceptHandler}{o:aM}(hs:gi c d fs)(h:rH c fs en σ body handlers=some o)(a:At c A env en ρ σ s d)(tp:o9 A env):eE c A (exec (.Try body handlers [] [] pos) env) env ρ s o:=by
 refine Fh h fun t k kn kp rp hp so e hb h=> ?_;subst e;refine wpAny_Try_except ?_
 cases so with
 |ok fl en' KD=>
  obtain rfl:=IH h;refine IM (hs hb a tp) (fun f KH p=> ?_) fun ex KH p=>p.elim
  cases f with
  |next=>exact wpAny_execs_nil p
  |_=>exact p
 |exc cls en' KD=>
 refine bI h fun hc h=>aN h fun y hy h=> ?_;subst h;refine IM (hs hb a tp) (fun f KH p=>p.elim) fun ex KH p=> ?_;refine bW p fun KS KG LQ fl=> ?_;have KT:=a.stepS KG LQ;refine oE tp fun outer hfr=> ?_;refine aL KT.room.frames fun l hl ff=> ?_;rw[hfr]at hl;obtain rfl:=IH hl;refine bc ((ff env (.head _)).2) fun L oL hf u_=> ?_;refine gA a.ok KT.st KT.gd hfr hf ff fl fun D KZ KL hD KJ L_=> ?_;have K9:=KT.plain (fun b m=>(hD b m).1) (jb hD) KJ;have Lp:=KG.plain KT.st LQ (jb hD) KJ fun b m=>(hD b m).2.1;refine o5 hc Lp K9 L_ fun A' E' Lw K_ LS Mj Mg LM=> ?_
 refine wpAny_execs_cons (wpAny_Return_some (au.go (lS Mj Mg hy) (fun z Ld q L3 LJ LB K6 Ma=> ?_) (fun u_ u_ q=>by exact iQ q)))
 refine jF q fun zz1 zz2=> ?_;subst zz1;subst zz2;exact⟨LB,LS.trans (K6.toS Mj LM),K6.env Mj LM,.ret Ma⟩
section
variable {r P P':List Addr}
theorem Pl.Le.less(k: ∀a∈P,a∈P'):Pl.Le h ⟨r,P'⟩ ⟨r,P⟩:=⟨GW _,fun a o f u_=>⟨f.1,fun m=>f.2 (k a m)⟩⟩
theorem R.less(c:Cx)(k: ∀a∈P,a∈P')(x:R h ⟨r,P'⟩ y v):R h ⟨r,P⟩ y v:=R.mono (c:=c) (S:=[]) (Pl.Off.nil _) (eh.refl [] h) (Pl.Le.less k) x
theorem j9.less(c:Cx)(k: ∀a∈P,a∈P'){y:Option V}{v:Option Value}(x:j9 h ⟨r,P'⟩ y v):j9 h ⟨r,P⟩ y v:=j9.mono (c:=c) (S:=[]) (Pl.Off.nil _) (eh.refl [] h) (Pl.Le.less k) x
theorem dn.less(c:Cx)(k: ∀a∈P,a∈P'){f:Value}(x:dn h ⟨r,P'⟩ f):dn h ⟨r,P⟩ f:=dn.mono (c:=c) (S:=[]) (Pl.Off.nil _) (eh.refl [] h) (Pl.Le.less k) x
theorem bC.lessB(c:Cx)(k: ∀a∈P,a∈P'):(∀{t I a},bC h ⟨r,P'⟩ t I a→(∀x∈I,x∈P)→bC h ⟨r,P⟩ t I a)∧(∀{ts I as},bD h ⟨r,P'⟩ ts I as→(∀x∈I,x∈P)→bD h ⟨r,P⟩ ts I as):=
 bC.both (P:=fun t I a=>(∀x∈I,x∈P)→bC h ⟨r,P⟩ t I a) (Q:=fun ts I as=>(∀x∈I,x∈P)→bD h ⟨r,P⟩ ts I as)
  (fun e x u_ i=> .seq e (x.less c k) (i _ (.head _))) (fun e x u_ i=> .lst e x (i _ (.head _))) (fun e u_ i=> .rng e (i _ (.head _))) (fun e x u_ i=> .revl e x (i _ (.head _))) (fun e x u_ i=> .revt e (x.less c k) (i _ (.head _)))
  (fun e1 H e2 e3 l u_ ts u_ u_ u_ n1 n2 n3 n4 n5 n6 i=> .zip e1 (H.less c k) e2 e3 l (ts fun x m=>i x (.tail _ (.tail _ (.tail _ m)))) (i _ (.head _)) (i _ (.tail _ (.head _))) (i _ (.tail _ (.tail _ (.head _)))) n1 n2 n3 n4 n5 n6)
  (fun e H u_ t u_ n i=> .enum e (H.less c k) (t fun x m=>i x (.tail _ m)) (i _ (.head _)) n) (fun u_=> .nil)
  fun u_ t u_ ts n i=> .cons (t fun x m=>i x (G' _ m)) (ts fun x m=>i x (Hj _ m)) n
theorem bC.less(c:Cx)(k: ∀a∈P,a∈P')(i: ∀x∈I,x∈P)(x:bC h ⟨r,P'⟩ t I a):bC h ⟨r,P⟩ t I a:=(bC.lessB c k).1 x i
theorem aQ.less(k: ∀a∈P,a∈P')(x:aQ c ⟨r,P'⟩ σ h):aQ c ⟨r,P⟩ σ h where
 nodup:=x.nodup
 len:=x.len
 at_:=fun i a l h1 h2=>(x.at_ i a l h1 h2).mono (c:=c) (S:=[]) (Pl.Off.nil _) (eh.refl [] h) (Pl.Le.less k) (by exact Hg)
 low:=x.low
 plow:=fun a m=>x.plow a (k a m)
 disj:=fun a m=>x.disj a (k a m)
theorem ad.less{D:List Addr}(k: ∀a∈P,a∈P')(Lx: ∀a∈KY.p,a∈P)(x:ad c D KY KP ⟨r,P'⟩ σ s):ad c D KY KP ⟨r,P⟩ σ s:=
 ⟨x.pre,x.new,fun a m=>x.pnew a (k a m),Lx,x.sto.less k,x.ext,x.rest,x.gd⟩
theorem ba.less(c:Cx)(k: ∀a∈P,a∈P')(nc: ∀x,en.names.lookup x≠some .cell)(ho:env.locals∈P)(x:ba h ⟨r,P'⟩ env en):ba h ⟨r,P⟩ env en where
 kind:=x.kind
 names:=x.names
 gl:=x.gl
 bi:=x.bi
 lo:=aL x.lo fun m n q=>⟨m,n,fun y hy=>(q y hy).less c k⟩
 ce:=fun y hy=>absurd hy (nc y)
 fr:=fun y hy=>dC (x.fr y hy) fun a w h1 h2 h3=>⟨a,w,h1,h2,h3.less c k⟩
 out:=ho
 ap:=x.ap
 cd:=x.cd
theorem At.less{L1:En}(k: ∀a∈P,a∈P')(nc: ∀x,en.names.lookup x≠some .cell)(Lr:At c A env L1 ⟨K8,P⟩ Ld KP d)(x:At c A env en ⟨r,P'⟩ σ s d):At c A env en ⟨r,P⟩ σ s d:=by
 refine⟨x.ok,x.st.less k,x.gd,x.er.less c k nc Lr.er.out,⟨x.room.hand,x.room.depth,x.room.units,?_⟩⟩;refine aL x.room.frames fun l hl ff=> ?_;refine aL Lr.room.frames fun l₀ MA ff₀=> ?_;rw[hl]at MA;obtain rfl:=IH MA;refine⟨l,hl,fun e m=> ?_⟩;refine k_ (ff e m) fun h1 L o h2 h3 h4 h5 h6=> ?_;refine lh (ff₀ e m) fun u_ L₀ o₀ g2 g3 u_=> ?_;rw[h2]at g2;obtain rfl:=IH g2;exact⟨h1,L,o,h2,g3,h4,h5,h6⟩
end
theorem ad.gens{D:List Addr}{gs:Array GenState}(x:ad c D KY KP ρ σ s)(h1:KP.gens.size≤gs.size)(h2: ∀i,i<KP.gens.size→gs[i]? =KP.gens[i]?)(h3:(∀x∈KP.gens,x.bare=true)→ ∀x∈gs,x.bare=true):
 ad c D KY KP ρ σ {s with gens:=gs}:=⟨x.pre,x.new,x.pnew,x.pold,x.sto,x.ext,⟨x.rest.drawn,x.rest.os,h1,h2,h3,x.rest.hsize⟩,x.gd⟩
theorem ad.setGen{D:List Addr}{g:Nat}(x:ad c D KY KP ρ σ s)(hg:KP.gens.size≤g)(hb:gs.bare=true):ad c D KY KP ρ σ (s.setGen g gs):=by
 refine x.gens (gs:=(s.setGen g gs).gens) ?_ (fun i hi=> ?_) fun h=> ?_
 ·show _≤(s.gens.setIfInBounds g gs).size;rw[Array.size_setIfInBounds];exact x.rest.gsize
 ·show(s.gens.setIfInBounds g gs)[i]? =_
  rw[Array.getElem?_setIfInBounds_ne (by omega)]
  exact x.rest.gold i hi
 ·intro y hy;have h':=x.rest.bare h;obtain⟨i,hi,rfl⟩:=Array.mem_iff_getElem.mp hy
  have hi':i<s.gens.size:=by simpa [Shared.setGen]using hi
  by_cases q:g=i
  ·subst q
   have:(s.setGen g gs).gens[g]=gs:=by simp[Shared.setGen]
   rw[this];exact hb
  ·have:(s.setGen g gs).gens[i]=s.gens[i]:=by show(s.gens.setIfInBounds g gs)[i]=_;exact Array.getElem_setIfInBounds_ne hi' q
   rw[this];exact h' _ (Array.getElem_mem hi')
theorem At.setGen{g:Nat}(a:At c A env en ρ σ s d):At c A env en ρ σ (s.setGen g gs) d:=⟨a.ok,a.st,a.gd,a.er,a.room⟩
noncomputable def mK(g:uK)(tr:lA)(f:fP)(target:Expr)(ifs:List Expr)(elt:Expr):Nat→En→Sg→It→Option (Option (V×En×It)×Sg)
 |0,_,_,_=>none
 |n+1,en,σ,t=>(ay σ t).bind fun r=>match r with
  |none=>some (none,σ)
  |some p=>(g target en σ p.1).bind fun q=>(bJ tr q.1 q.2 ifs).bind fun b=>match b.1 with
   |true=>(f q.1 b.2 elt).bind fun o=>(uN o).map fun y=>(some (y.1,q.1,p.2),y.2)
   |false=>mK g tr f target ifs elt n q.1 b.2 p.2
theorem gnE{r:Option (V×En×It)×Sg}(e:mK g tr f target ifs elt (n+1) en σ t=some r)(k0:ay σ t=some none→(none,σ)=r→P)
 (k1: ∀x t' KU KE KI b,ay σ t=some (some (x,t'))→g target en σ x=some (KU,KE)→bJ tr KU KE ifs=some (b,KI)→(b=true→ ∃y K3,f KU KI elt=some (.ok y K3)∧(some (y,KU,t'),K3)=r)→(b=false→mK g tr f target ifs elt n KU KI t'=some r)→P):P:=
 ae e fun z hn e=>by
  cases z with
  |none=>exact k0 hn (IH e)
  |some p=>exact ae e fun q hg e=>ae e fun b ht e=>k1 _ _ _ _ b.2 b.1 hn hg ht (fun hb=>by
   rw[hb]at e
   exact ae e fun o ho e=>aN e fun y hy e=>⟨y.1,y.2,qP hy▸ho,e⟩) fun hb=>by rw[hb]at e;exact e
noncomputable abbrev zp:=En→Sg→It→Option (Option (V×En×It)×Sg)
noncomputable abbrev sw:=V×En×Sg×It
noncomputable def nF(nx:zp):En→Sg→It→List sw→Option Sg→Prop
 |_,_,_,[],none=>True
 |en,σ,t,[],some KD=>nx en σ t=some (none,KD)
 |en,σ,t,(y,en',KD,t')::l,e=>nx en σ t=some (some (y,en',t'),KD)∧nF nx en' KD t' l e
theorem o6(hg: ∀t en σ y en' KD,g t en σ y=some (en',KD)→en'.names=en.names): ∀{en en':En} {σ KD:Sg} {l:List V},fO g es en σ l=some (en',KD)→en'.names=en.names:=by
 induction es with
 |nil=>intro en en' σ KD l e;cases l with
  |nil=>cases IH e;rfl
  |cons=>exact no e
 |cons t ts ih=>intro en en' σ KD l e;cases l with
  |nil=>exact no e
  |cons y ys=>exact ae e fun p h1 w=>(ih w).trans (hg _ _ _ _ _ _ h1)
theorem kZ(n:Nat): ∀t en σ y en' KD,du n t en σ y=some (en',KD)→en'.names=en.names:=by
 induction n with
 |zero=>intro t en σ y en' KD e;exact no e
 |succ n ih=>
  intro t en σ y en' KD e
  cases t with
  |Name x p=>exact bI (show(if(en.names.lookup x==some .local)=true then some (en.set x y,σ)else none)=some (en',KD)from e) fun u_ w=>by obtain⟨rfl,rfl⟩:=Prod.mk.inj (IH w);rfl
  |Tuple es k p=>exact ae (show((eN y).bind fun l=>if al es=true then fO (du n) es en σ l else none)=some (en',KD)from e) fun l hl w=>bI w fun u_ w=>o6 ih w
  |_=>exact no e
end
variable {nx:zp}{pre rem:List sw}
section
variable {env:Env}{d:Nat}
set_option genInjectivity false in
structure gS where
 A₁:Around
 cenv:Env
 P:List Addr
 Ip:List Addr
 a:Addr
 ρc:Pl
 sc:Shared
 target:Expr
 elt:Expr
 iter:Expr
 ifs:List Expr
 scope:Scope
 pos:Pos
 d:Nat
 L:List sw
 e:Option Sg
noncomputable def gS.D(G:gS):List Addr:=G.cenv.locals::G.Ip
noncomputable def gS.X(G:gS):Expr:= .GeneratorExp G.elt [⟨G.target,G.iter,G.ifs,0⟩] G.scope G.pos
noncomputable def gS.code(G:gS):Code:= .compLoop G.X 0 (.ref G.a) .none G.cenv
noncomputable def gS.rnd(G:gS):Around:=G.A₁.over G.code []
variable (c)in
structure gL(G:gS)(r:List Addr)(en:En)(σ:Sg)(t:It)(s:Shared):Prop where
 step:af c G.ρc G.sc ⟨r,G.P⟩ σ s
 at_:At c G.rnd G.cenv en ⟨r,G.P⟩ σ s G.d
 itr:bC s.heap ⟨r,G.P⟩ t G.Ip G.a
variable (c)in
noncomputable def gY(G:gS):Protocol:=fun m KP v s kap=> ∃pre y en σ t l',G.L=pre++(y,en,σ,t)::l'∧l'.length=m∧ ∃K8 r Ld,aQ c ⟨K8,G.P⟩ Ld KP.heap∧ad c G.D ⟨K8,G.P⟩ KP ⟨r,G.P⟩ σ s∧gL c G r en σ t s∧R s.heap ⟨r,G.P⟩ y v∧
 ((l'≠[]∨G.e.isSome=true)→ ∀s'' r'',gL c G r'' en σ t s''→kap (.send .none) s'')
variable (c)in
noncomputable def gR(G:gS):GenEnd:=fun n KP r s=>r= .ok .next∧(n=0∧ ∃KD,G.e=some KD∧ ∃K8 KO Ld,aQ c ⟨K8,G.P⟩ Ld KP.heap∧ad c G.D ⟨K8,G.P⟩ KP ⟨KO,G.P⟩ KD s∧af c G.ρc G.sc ⟨KO,G.P⟩ KD s)
variable (c)in
noncomputable abbrev Bc(G:gS)(n:Nat)(KP:Shared)(t:Sem Fin)(s:Shared):Prop:=Seg (model c.prog c.w) G.A₁ (gR c G) (gY c G) n KP G.code t [] s
structure oU(G:gS):Prop where
 ρP: ∀x∈G.ρc.p,x∈G.P
 ipP: ∀x∈G.Ip,x∈G.P
 newI: ∀b∈G.Ip,G.sc.heap.objs.size≤b
 newC:G.sc.heap.objs.size≤G.cenv.locals
 co:G.cenv.scope.isCoroutine=false
theorem qg{G:gS}(ok:oU G)(ht:eM c G.d tr)(hf:bF c G.d f){L1:En}{res:Option (V×En×It)}(Lr:At c G.rnd G.cenv L1 ⟨K8,G.P⟩ Ld KP G.d)
 (hend:res=none→n=0∧G.e=some KD)
 (hyld: ∀y en' t',res=some (y,en',t')→ ∃m pre l',n=m+1∧G.L=pre++(y,en',KD,t')::l'∧l'.length=m∧((l'≠[]∨G.e.isSome=true)→ ∀s'' r'',gL c G r'' en' KD t' s''→Bc c G m s'' ((model c.prog c.w).den G.code) s'')):
 ∀(fuel:Nat) {en:En} {σ:Sg} {t:It} {ρ:Pl} {s:Shared},mK (du 8) tr f G.target G.ifs G.elt fuel en σ t=some (res,KD)→(∀x∈G.P,x∈ρ.p)→(∀x,en.names.lookup x≠some .cell)→ad c G.D ⟨K8,G.P⟩ KP ρ σ s→af c G.ρc G.sc ρ σ s→At c G.rnd G.cenv en ρ σ s G.d→bC s.heap ρ t G.Ip G.a→
  Bc c G n KP ((model c.prog c.w).den G.code) s:=by
 intro fuel
 induction fuel with
 |zero=>intro en σ t ρ s e;exact no e
 |succ fuel ih=>
  intro en σ t ρ s e kP nc S T a i;have ip:=i.priv.1;have newI:=ok.newI;show Seg _ _ _ _ _ KP _ ((compTurn (.GeneratorExp G.elt [⟨G.target,G.iter,G.ifs,0⟩] G.scope G.pos) 0 (.ref G.a) .none G.cenv).onRaise (leaving G.cenv)) [] s;rw[compTurn_gen,Sem.onRaise_eq_wrap];refine IY (IW ?_);have inD: ∀b∈G.Ip,b∈G.D:=fun b m=> .tail _ m;refine gnE e (fun hn e=> ?_) fun x t' KU KE KI b hn LC htt ky kn=> ?_
  ·refine rD e fun q1 q2=> ?_;refine oA (hend q1.symm) fun zz0 he=> ?_;subst zz0;refine IY (It.pull0 a.room.hand a.ok a.st a.gd i hn fun KH KG=> ?_);exact seg_end (.ok .next) ⟨rfl,rfl,σ,he.trans (congrArg some q2.symm),K8,ρ.r,Ld,Lr.st,(S.trans (KG.wider inD)).less kP fun x m=>m,(T.fresh KG newI).less kP ok.ρP⟩
  ·refine IY (It.pull a.room.hand a.ok a.st a.gd i hn fun w KH KG rv Ls=> ?_);have KT:=a.plain ip i.objs KG;refine IY (iP KT.ok KT.st KT.gd Ls fun KL KJ Lj=> ?_);have K9:=KT.plain ip Ls.objs KJ;have hn1:=kZ 8 _ _ _ _ _ _ LC;refine IY (nA 8 LC K9 (ad.R ip KJ rv) fun Lw K_ KV Mf LM=> ?_);have Lg:=K9.local KV Mf LM;refine IY (lz ht htt Lg fun LB LJ K6=> ?_);have LN:=Lg.step K6;have LK:=(((T.fresh KG newI).fresh KJ newI).fresh KV (dA ok.newC)).trans K6;have U₄:=((((S.trans (KG.wider inD)).trans (KJ.wider inD)).trans (KV.wider (dA (p:=fun b=>b∈G.D) (.head _)))).trans K6.D)
   have LG:=K6.itr Lg.st (ad.itr K9.st (dA K9.er.out) (fun b m q=>aV.locals Lj.objs K9.er (by rw[GR.mp q]at m;exact m)) KV Lj)
   have MB: ∀x∈G.P,x∈LB.p:=fun x m=>K6.pold x (KV.pold x (kP x m))
   have MC: ∀x,KU.names.lookup x≠some .cell:=fun x=>by rw[hn1];exact nc x
   cases b with
   |true=>
    refine bc (ky rfl) fun y K3 hy q=> ?_;refine rD q fun q1 q2=> ?_;obtain rfl:=q2.symm;simp only[if_true];refine i4 (hyld _ _ _ q1.symm) fun m pre l' zz3 hL hl hk=> ?_;subst zz3
    have hyo: ∀v,yieldOut G.cenv v=yieldValue v:=fun v=>by simp only[yieldOut,ok.co,Gm,if_false]
    simp only[hyo];rw[Sem.bind_eq_wrap',Sem.bind_eq_wrap',Sem.wrap_wrap,Sem.wrap_wrap]
    refine seg_wrap (au.go (hf hy LN) (fun x' Ln q w₅ s₅ L0 Li L2=> ?_) (fun u_ u_ q=>by exact iQ q))
    refine jF q fun zz1 zz2=> ?_;subst zz1;subst zz2;have L5: ∀x∈G.P,x∈L0.p:=fun x m=>Li.pold x (MB x m);refine seg_at (seg_yield rfl rfl rfl ⟨pre,y,KU,KD,t',l',hL,hl,K8,L0.r,Ld,Lr.st,(U₄.trans Li.D).less L5 (fun x m=>m),⟨(LK.trans Li).less L5 ok.ρP,At.less L5 MC Lr (LN.step Li),(Li.itr LN.st LG).less c L5 ok.ipP⟩,L2.less c L5,fun hw s'' r'' ga=> ?_⟩);exact seg_again rfl (hk hw s'' r'' ga)
   |false=>
    simp only[Gm,if_false];exact seg_again rfl (ih (kn rfl) MB MC U₄ LK LN LG)
theorem tq: ∀(fuel:Nat) {en:En} {σ:Sg} {t:It} {y:V} {en':En} {t':It} {KD:Sg},mK (du 8) tr f target ifs elt fuel en σ t=some (some (y,en',t'),KD)→en'.names=en.names:=by
 intro fuel
 induction fuel with
 |zero=>intro en σ t y en' t' KD e;exact no e
 |succ fuel ih=>
  intro en σ t y en' t' KD e;refine gnE e (fun u_ q=>rD q fun q u_=>no q) fun x t₁ KU KE KI b u_ LC u_ ky kn=> ?_;have hn1:=kZ 8 _ _ _ _ _ _ LC
  cases b with
  |true=>refine bc (ky rfl) fun u_ u_ u_ q=> ?_;exact rD q fun q u_=>(congrArg (fun o=>(o.elim en (·.2.1)).names) q).symm.trans hn1
  |false=>rw[ih (kn rfl),hn1]
theorem vM{G:gS}(ok:oU G)(ht:eM c G.d tr)(hf:bF c G.d f): ∀(rem pre:List sw) {en:En} {σ:Sg} {t:It},G.L=pre++rem→nF (mK (du 8) tr f G.target G.ifs G.elt az) en σ t rem G.e→(rem≠[]∨G.e.isSome=true)→(∀x,en.names.lookup x≠some .cell)→
 ∀s r,gL c G r en σ t s→Bc c G rem.length s ((model c.prog c.w).den G.code) s:=by
 intro rem
 induction rem with
 |nil=>
  intro pre en σ t hL hc hw nc s r ga
  cases he:G.e with
  |none=>rw[he]at hw;simp at hw
  |some KD=>
   rw[he]at hc
   exact qg ok ht hf ga.at_ (fun u_=>⟨rfl,he⟩) (fun u_ u_ u_ q=>by exact no q) az hc (fun x m=>m) nc (ad.refl ga.at_.st ga.at_.gd) ga.step ga.at_ ga.itr
 |cons x rem ih=>
  intro pre en σ t hL hc hw nc s r ga;obtain⟨y,en',KD,t'⟩:=x;refine oA hc fun h1 h2=> ?_
  refine qg ok ht hf ga.at_ (fun q=>by exact DU q) (fun y₁ KU t₁ q=> ?_) az h1 (fun x m=>m) nc (ad.refl ga.at_.st ga.at_.gd) ga.step ga.at_ ga.itr
  refine rD (IH q) fun a q=>rD q fun b d=> ?_;subst a;subst b;subst d;refine⟨rem.length,pre,rem,rfl,hL,rfl,fun hw s'' r'' ga'=> ?_⟩
  exact ih (pre++[(y,en',KD,t')]) (by rw[hL];simp) h2 hw (fun x=>by rw[tq az h1];exact nc x) s'' r'' ga'
end
section
variable {env:Env}{d:Nat}
variable (c)in
structure fm(G:gS)(g:Nat)(ga:Addr)(pre rem:List sw)(r:List Addr)(en:En)(σ:Sg)(t:It)(s:Shared):Prop where
 hL:G.L=pre++rem
 gen:s.heap.IsGen ga g
 st:gL c G r en σ t s
 gs: ∃gs,s.gens[g]? =some gs∧((rem≠[]∨G.e.isSome=true)→ ∀s'' r'',gL c G r'' en σ t s''→gs.Goes (model c.prog c.w) G.A₁ (gR c G) (gY c G) rem.length (.send .none) s'')
noncomputable def sR(c:Cx)(G:gS)(s s':Shared):Prop:= ∃K8 Ld,aQ c ⟨K8,G.P⟩ Ld s.heap∧eh c (G.D++K8) s.heap s'.heap
structure dm(G:gS)(g:Nat)(ga:Addr)(A:Around):Prop where
 a1:G.A₁=A.in1
 gnew:G.sc.gens.size≤g
 gaP:ga∈G.P
 gaD:ga∉G.D
 hand:A.handled=none
 room:A.depth<recursionLimit
theorem gL.setGen{G:gS}{r:List Addr}{g:Nat}(x:gL c G r en σ t s)(hg:G.sc.gens.size≤g)(hb:gs.bare=true):gL c G r en σ t (s.setGen g gs):=
 ⟨x.step.setGen hg hb,x.at_.setGen,x.itr⟩
theorem tY{G:gS}{g:Nat}(hD:ga∉G.D)(hP:ga∈G.P)(st:aQ c ⟨K8,G.P⟩ Ld h)(x:eh c (G.D++K8) h h')(i:h.IsGen ga g):h'.IsGen ga g:=by
 refine i4 i fun o nm qn ho h1 h2 h3=> ?_;have hn:ga∉G.D++K8:=fun m=>(GP.mp m).elim hD (st.disj ga hP);refine aL (x ga o hn ho) fun o' ho' q=> ?_
 have:o'=o:=q.frz (by unfold uM hU;rw[h2];simp[h1])
 subst this;exact⟨_,nm,qn,ho',h1,h2,h3⟩
theorem cX{G:gS}{g:Nat}{r:List Addr}(ok:oU G)(kn:dm G g ga A)(x:fm c G g ga pre rem r en σ t s)(hw:rem≠[]∨G.e.isSome=true):
 d_ c A ga s (fun v s'=> ∃y en' KD t' l r',rem=(y,en',KD,t')::l∧fm c G g ga (pre++[(y,en',KD,t')]) l r' en' KD t' s'∧R s'.heap ⟨r',G.P⟩ y v∧sR c G s s')
  (fun s'=>rem=[]∧ ∃KD r',G.e=some KD∧af c G.ρc G.sc ⟨r',G.P⟩ KD s'∧sR c G s s'):=by
 refine dw fun kk=> ?_;obtain⟨hL,hg,st,gs,hgs,hgo⟩:=x<;>(refine kk ?_;clear kk)
 have hgo:=hgo hw _ r (st.setGen (gs:= .running) kn.gnew rfl)
 change let Q0:=_;II _ _ _ Q0 _ _;intros
 change let E1:=_;II _ _ _ _ E1 _;intro E1
 refine IX (name:=Kq "__next__") hg.typeIs slot_gen_next (IT slot_gen_next hg.typeIs entry_gen_next ?_ (args_gen_next _));refine(?_:II _ A.in1 (Builtin.Generator.genWake (.ref ga) (.send .none)) _ _ s);unfold Builtin.Generator.genWake
 change let K1:=_;let Q1:=_;II _ _ (_>>=K1) Q1 _ _;intro K1 Q1
 refine IJ (IO (wpAny_genNumber hg (IJ (wpAny_genState hgs ?_))));rw[kn.a1]at hgo
 suffices main: ∀(K:GenResult→Sem Fin) (J:Unit→Sem Fin),(∀v,K (.yielded v)=ret v)→K (.returned .none)=(newExc (.type "StopIteration") []>>=fun l=>raiseNew l>>=J)→II (model c.prog c.w) A.in1 (roomToWake>>=fun u_=>resume g (.send .none)>>=K) Q1 E1 s by
  cases gs with
  |running=>exact hgo.elim
  |finished=>exact hgo.elim
  |_=>exact main _ _ (fun u_=>rfl) rfl
 intro K J k1 k2
 refine IJ (wpAny_roomToWake st.at_.gd.lim kn.room ?_)
 refine(?_:II _ A.in1 (.resume g (.send .none) [] _) _ _ s);refine wpAny_resumeQ hgs hgo (fun xx KH hx=> ?_) (fun v KH gs' hb hv=> ?_)
 ·obtain⟨rfl,hn,KD,he,K8,KO,Ld,LZ,S,T⟩:=hx;refine(?_:II _ _ (K (.returned .none)) _ _ _);rw[k2]
  refine IJ (kf fun o1 o2 c2 f2=>IJ (Jn (show A.in1.handled=none from kn.hand) ⟨dR c2 f2,Hn.mp hn,KD,KO,he,?_,K8,Ld,LZ,?_⟩))
  ·have T':=T.setGen (g:=g) (gs:= .finished) kn.gnew rfl
   exact T'.trans (ad.push2 (t:=KH.toks) st.at_.ok T'.sto T'.gd)
  ·exact S.ext.trans (eh.of_keeps fun b o u_ e=>J_ _ (J_ _ e))
 ·refine dw fun kk=> ?_;obtain⟨pre',y,en',KD,t',l',hL',hl,K8,KO,Ld,LZ,S,ga',rv,hk⟩:=hv<;>(refine kk ?_;clear kk)
  refine(?_:II _ _ (K (.yielded v)) _ _ _);rw[k1];refine IK ⟨v,rfl,v,rfl,?_⟩
  cases rem with
  |nil=>exact(hk (.inr (hw.resolve_left nofun)) KH KO ga').elim
  |cons x' l=>
   have hlen:l'.length=l.length:=by simpa using hl
   have:=List.append_inj' (hL.symm.trans hL') (by simp[hlen])
   obtain⟨rfl,hx⟩:=this
   cases hx
   refine⟨y,en',KD,t',_,KO,rfl,⟨by rw[hL];simp,?_,ga'.setGen kn.gnew hb,gs',setGen_self (gs:= .running) ?_,fun hw' s'' r'' g''=> ?_⟩,rv,K8,Ld,LZ,S.ext⟩
   ·exact tY kn.gaD kn.gaP LZ S.ext hg
   ·refine(S.rest.gold g ?_).trans (setGen_self hgs);have:=setGen_self (x:= .running) hgs;exact(Gg.mp this).1
   ·have:=hk hw' s'' r'' g'';refine(kn.a1).symm▸ ?_;exact this
theorem nV{o:Obj}{vs:Array Value}{f:Array Value→Array Value}(h:o.data= .fields vs):Ki f o={o with data:= .fields (f vs)}:=by
 obtain⟨a,b,e,k⟩:=o;subst h;rfl
theorem lK{cc P:Addr}{qn:Str}(hc:env.code= .ref cc)(ok:c.Ok)(st:aQ c ρ σ s.heap)(g:Gd c s.heap)(hm:(cc,P)∈c.cs)
 (h: ∀code s',af c ρ s ρ σ s'→Q code s'):II (model c.prog c.w) A (genexprCode env pos qn scope) Q E s:=by
 refine aL (g.codes _ hm) fun ps hok hcls=> ?_;refine dw fun kk=> ?_;obtain⟨o,vs,file,tf,flags,tg,inF,text,tt,op,ho,hd,h11,h2,h7,h9,h10,hop,hpd,htr,hne⟩:=(id hok);refine kk ?_;clear kk;have hPT:P∈c.T:=ok.tcs _ hm;unfold genexprCode codeAt
 rw[hc,if_neg (show¬((Kr cc==Ks)=true)from Gk)]
 refine IJ (wpAny_fieldsOf ho hd ?_);refine(h11).symm▸ ?_;refine IJ (wpAny_fieldsOf hop hpd ?_)
 cases hnf:codeAmong pos ps.toList with
 |some cv=>exact IK (h cv s (.refl st g))
 |none=>
  rw[h2,h7,h9,h10];refine IJ (bw (wpAny_newCode fun c' P' h' tk hk hc' hP' hcode' hrec' hz=> ?_));have hop':=hk _ _ hop;refine IJ (wpAny_updateFieldsOfTheText hop' hpd ?_)
  have hnew:(Ki (fun vs=>if(codeAmong pos vs.toList).isSome=true then vs else vs++ #[rawInt pos.line,rawInt pos.col,.ref c']) op).data=
   .fields (ps++ #[rawInt pos.line,rawInt pos.col,.ref c']):=by
   rw[Kl hpd,hnf];rfl
  have hget:=Kb (h:=h') (fun o=>Ki (fun vs=>if(codeAmong pos vs.toList).isSome=true then vs else
   vs++ #[rawInt pos.line,rawInt pos.col,.ref c']) o) hop' (Km hnew)
  refine IJ (wpAny_fieldsOf hget hnew ?_)
  have hl:(ps++ #[rawInt pos.line,rawInt pos.col,Kr c']).toList=ps.toList++[rawInt pos.line,rawInt pos.col,.ref c']:=by simp
  rw[hl,codeAmong_snoc _ htr hnf]
  generalize hh:h'.update P (fun o=>Ki (fun vs=>if(codeAmong pos vs.toList).isSome=true then vs else vs++ #[rawInt pos.line,rawInt pos.col,.ref c']) o)=h'' at hget⊢
  have keep: ∀b o,b≠P→s.heap.get? b=some o→h''.get? b=some o:=fun b o hb e=>by
   rw[←hh];exact(Kf ..).extBut b o hb (hk b o e)
  have hz':s.heap.objs.size≤h''.objs.size:=by rw[←hh,Kd];exact hz
  have hobj:Ki (fun vs=>if(codeAmong pos vs.toList).isSome=true then vs else vs++ #[rawInt pos.line,rawInt pos.col,.ref c']) op={op with data:= .fields (ps++ #[rawInt pos.line,rawInt pos.col,.ref c'])}:=by
   rw[nV hpd,hnf];rfl
  rw[hobj]at hget
  have ex:eh c [] s.heap h'':=fun b o' u_ e=>by
   by_cases hb:b=P
   ·subst hb;rw[hop]at e;obtain rfl:=IH e;exact⟨_,hget,.inr (.inr ⟨hPT,hcls _ hop,ps,_,hpd,rfl⟩)⟩
   ·exact⟨o',keep b o' hb e,.refl b o'⟩
  refine IK (h _ _ ⟨GW _,fun u_ m=> .inl m,fun u_ m=> .inl m,fun u_ m=>m,st.mono (S:=[]) (P:=ρ.p) (Pl.Off.nil _) ex (by simp) hz' (fun u_ m=> .inl m) g.size,ex.mono (G9 _),.heap hz',g.step ok bZ ex (fun p hp=> ?_) hz'⟩)
  by_cases hpP:p.2=P
  ·as_aux_lemma=>
    refine aL (g.codes p hp) fun ps2 i2 cl2=> ?_;refine dw fun kk=> ?_;obtain⟨o2,vs2,file2,tf2,flags2,tg2,inF2,text2,tt2,op2,k1,k2,k3,k4,k5,k6,k7,k8,k9,k10,k11⟩:=i2;refine kk ?_;clear kk;rw[hpP]at k3 k8 k11;rw[hop]at k8;obtain rfl:=IH k8;rw[hpd]at k9
    cases k9
    have n1:p.1≠P:=k11
    refine⟨ps++ #[rawInt pos.line,rawInt pos.col,.ref c'],⟨o2,vs2,file2,tf2,flags2,tg2,inF2,text2,tt2,_,keep _ _ n1 k1,k2,by rw[hpP];exact k3,k4,k5,k6,k7,by rw[hpP];exact hget,rfl,by rw[hl];exact TriplesOk_snoc _ _ _ _ htr,by rw[hpP];exact n1⟩,fun o' e=> ?_⟩
    rw[hpP,hget]at e;obtain rfl:=IH e;show op.cls= .none;exact hcls _ hop
  ·exact(g.codes p hp).keep (fun o q=>keep _ _ (fun m=>(ok.cold p hp).2 (m▸hPT)) q) fun o q=>keep _ _ hpP q
theorem pG{Q:Addr→Shared→Prop}{r:Addr}(ok:c.Ok)(g:Gd c s.heap)(h:Q builtinsNs s):II (model c.prog c.w) A (builtinsFor mainGlobals r) Q E s:=by
 obtain⟨bm,o,h1,h2,h3,h4,h5,h6⟩:=ok.bmod;exact wpAny_builtinsFor g.gl h1 h2 (g.stays _ _ h3) h4 h5 h6 h
noncomputable def dD(names:List (Str×NameKind))(en:En):En:=⟨names,[],(en.own.filter fun p=>en.names.lookup p.1==some .cell)++(en.fre.filter fun p=>en.names.lookup p.1==some .free),none⟩
theorem zj{it:Value}{code:Value}{gobj:Obj}{t:Nat}(ok:c.Ok)(a:At c A env en ρ σ s d)(hk:scope.kind= .function)(ho:dU scope.names en=true)(hn:h'.Ns s.heap.objs.size fun x=>if x=".0" then some it else none)
 (sb:Kc s.heap.objs.size (s.heap.push {cls:= .type "frame",data:= .dict #[]}) h'):
 af c ρ s ⟨ρ.r,h'.objs.size::s.heap.objs.size::ρ.p⟩ σ {s with heap:=h'.push gobj,toks:=t}∧
  ba (h'.push gobj) ⟨ρ.r,h'.objs.size::s.heap.objs.size::ρ.p⟩ (genEnv scope (jK env.cells scope.names []) s.heap.objs.size code builtinsNs env) (dD scope.names en):=by
 refine mX (fJ ho) fun o1 o2 o3=> ?_
 have hz:h'.objs.size=s.heap.objs.size+1:=by rw[sb.1,J']
 have S:af c ρ s ⟨ρ.r,h'.objs.size::s.heap.objs.size::ρ.p⟩ σ {s with heap:=h'.push gobj,toks:=t}:=by
  refine ad.write ok a.st a.gd (by exact G9 _) (fun b o u_ e=> ?_) (by rw[J',hz];exact H4 _ 2) (fun b m=> ?_) (fun b m=> .tail _ (.tail _ m))
  ·exact J_ _ ((sb.2 b (Iu (Ka e))).trans (J_ _ e))
  ·rw[J']
   rcases GY.mp m with rfl|m
   ·exact .inr ⟨by rw[hz];exact H3 _,H0 _⟩
   ·rcases GY.mp m with rfl|m
    ·exact .inr ⟨HY _,Il (by rw[hz];exact H0 _)⟩
    ·exact .inl m
 refine⟨S,?_⟩;have er:=S.env a.st a.er;have fr:=a.er.frees o3
 refine⟨hk,rfl,er.gl,rfl,⟨_,hn.push _,fun x hx=> .no⟩,fun x hx=>absurd rfl (o1 _ (mem_of_lookup hx)),fun x hx=> ?_,.tail _ (.head _),fun y z b h1 h2=> ?_,fun cc h=>by exact no h⟩
 ·have hm:(x,Kg)∈scope.names:=mem_of_lookup hx
  rcases o3 _ hm rfl with q|q
  ·refine bU (er.ce x q) fun b w g1 g2 g3 g4=> ?_;refine⟨b,w,?_,g2,?_⟩
   ·show(jK env.cells scope.names []).lookup x=some b;rw[oG hm,g1];rfl
   ·show j9 _ _ (((en.own.filter fun p=>en.names.lookup p.1==some .cell)++(en.fre.filter fun p=>en.names.lookup p.1==some .free)).lookup x) w
    rw[HF,aZ (q:=fun x=>en.names.lookup x==some .cell),aZ (q:=fun x=>en.names.lookup x==some .free),show en.names.lookup x=some .cell from q]
    simpa using g4
  ·refine dC (er.fr x q) fun b w g1 g2 g4=> ?_;refine⟨b,w,?_,g2,?_⟩
   ·show(jK env.cells scope.names []).lookup x=some b;rw[oG hm,g1];rfl
   ·show j9 _ _ (((en.own.filter fun p=>en.names.lookup p.1==some .cell)++(en.fre.filter fun p=>en.names.lookup p.1==some .free)).lookup x) w
    rw[HF,aZ (q:=fun x=>en.names.lookup x==some .cell),aZ (q:=fun x=>en.names.lookup x==some .free),show en.names.lookup x=some .free from q]
    trivial
 ·exact a.er.ap y z b (jh fr h1) (jh fr h2)
noncomputable def fC(e:Expr):Bool:= !(e.ctorIdx.beq 24||e.ctorIdx.beq 7)
theorem mQ(h:fC e=true)(x:Value):genFold e env x=pure x:=by
 cases e<;>first|rfl|exact bM h
variable (c)in
structure qU(ρ:Pl)(s:Shared)(en:En)(σ:Sg)(t:It)(target elt iter:Expr)(ifs:List Expr)(scope:Scope)(pos:Pos)(v:Value)(s':Shared)(cenv:Env)(Ip:List Addr)(a ga:Addr)(g:Nat)(KF:Pl):Prop where
 v:v= .ref ga
 step:af c ρ s KF σ s'
 env:ba s'.heap KF cenv (dD scope.names en)
 itr:bC s'.heap KF t Ip a
 gen:s'.heap.IsGen ga g
 gs:s'.gens[g]? =some (.fresh (.compStart (.GeneratorExp elt [⟨target,iter,ifs,0⟩] scope pos) 0 (.ref a) .none cenv))
 gnew:s.gens.size≤g
 newI: ∀b∈Ip,s.heap.objs.size≤b
 newC:s.heap.objs.size≤cenv.locals
 frame:cenv.frame=some cenv.locals
 co:cenv.scope.isCoroutine=false
 gaP:ga∈KF.p
 gaD:ga∉cenv.locals::Ip
 gaN:s.heap.objs.size≤ga
theorem wc{iv:iR}{x:IV}{cc P:Addr}(hi:ic c d iv)(hp:fC iter=true)(hk:scope.kind= .function)(hco:scope.isCoroutine=false)(ho:dU scope.names en=true)
 (h0:scope.names.lookup (".0":Str)=some .local) (hcc:en.code=some cc) (hm:(cc,P)∈c.cs) (hx:iv en σ iter=some (.ok x KE)) (hit:aC KE x=some t) (a:At c A env en ρ σ s d)
 (h: ∀v s' cenv Ip b ga g KF,qU c ρ s en KE t target elt iter ifs scope pos v s' cenv Ip b ga g KF→Q v s'):II (model c.prog c.w) A (eval (.GeneratorExp elt [⟨target,iter,ifs,0⟩] scope pos) env) Q E s:=by
 refine mX (fJ ho) fun o1 o2 o3=> ?_;refine wpAny_GeneratorExp_make hco (mj (a.er.frees o3)) o1 h0 hk (H8 (H4 _ _) a.room.depth) ?_ (mQ hp)
 refine au.go (hi hx a) (fun x' KD q w KH KS KG KO=> ?_) (fun u_ u_ q=>by exact iQ q)
 refine jF q fun zz1 zz2=> ?_;subst zz1;subst zz2;refine aL KO fun I KO LL=> ?_;have KT:=a.step KG;refine dG a.ok KG.sto KG.gd hit KO fun KZ J b KL KJ Lj LT=> ?_;have K9:=KT.step KJ;refine⟨KJ.gd.lim,?_⟩;refine lK (a.er.cd _ hcc) a.ok K9.st K9.gd hm fun code K_ KV=> ?_;have Lg:=K9.step KV;rw[a.er.gl];refine pG a.ok Lg.gd ?_;intro h' hn sb;have LW:=KV.itr K9.st Lj;refine oA (zj (code:=code) (gobj:={cls:= .type "generator",data:= .fields #[.int K_.gens.size 0,.str "<genexpr>" (K_.toks+1),.str (env.qual++"<genexpr>") (K_.toks+1+1)]}) (t:=K_.toks+1+1+1) a.ok Lg hk ho hn sb) fun K6 LX=> ?_;have S123:=(KG.trans KJ).trans KV
 have hz:h'.objs.size=K_.heap.objs.size+1:=by rw[sb.1,J']
 have new: ∀z∈J,s.heap.objs.size≤z:=fun z m=>(LT z m).elim (LL z) fun q=>HX KG.rest.hsize q;have old: ∀z∈J,z<K_.heap.objs.size:=fun z m=>(Lg.st.plow z (LW.priv.1 z m)).2;have T:=S123.trans K6;have LG:=K6.itr Lg.st LW;refine h _ _ (genEnv scope (jK env.cells scope.names []) K_.heap.objs.size code builtinsNs env) J b h'.objs.size K_.gens.size _ ⟨rfl,?_,LX,LG,⟨_,_,_,J9 _ rfl,rfl,rfl,rfl⟩,Array.getElem?_push_size ..,S123.rest.gsize,new,S123.rest.hsize,rfl,hco,.head _,fun m=> ?_,?_⟩
 ·refine T.gens ?_ (fun i hi=> ?_) fun hb y hy=> ?_
  ·rw[Array.size_push];exact Ia S123.rest.gsize
  ·rw[Array.getElem?_push_lt (H_ hi S123.rest.gsize)];rw[←Array.getElem?_eq_getElem];exact S123.rest.gold i hi
  ·rcases Array.mem_push.mp hy with q|rfl
   ·exact S123.rest.bare hb y q
   ·rfl
 ·rcases GY.mp m with q|q
  ·have q:h'.objs.size=K_.heap.objs.size:=q;rw[hz]at q;exact absurd q (Nat.succ_ne_self _)
  ·exact absurd (old _ q) (H1.mpr (by rw[hz];exact H3 _))
 ·rw[hz];exact Ia S123.rest.hsize
theorem sV{G:gS}(ok:oU G)(ht:eM c G.d tr)(hf:bF c G.d f)(hc:nF (mK (du 8) tr f G.target G.ifs G.elt az) en σ t G.L G.e)(hw:G.L≠[]∨G.e.isSome=true)(nc: ∀x,en.names.lookup x≠some .cell)
 {r:List Addr} (ga:gL c G r en σ t s):
 Seg (model c.prog c.w) G.A₁ (gR c G) (gY c G) G.L.length s (.compStart G.X 0 (.ref G.a) .none G.cenv) ((model c.prog c.w).den (.compStart G.X 0 (.ref G.a) .none G.cenv)) [] s:=by
 have pf:=vM ok ht hf G.L [] (by simp) hc hw nc s r ga
 show Seg _ _ _ _ _ s _ ((compStart (.GeneratorExp G.elt [⟨G.target,G.iter,G.ifs,0⟩] G.scope G.pos) 0 (.ref G.a) .none G.cenv).onRaise (leaving G.cenv)) [] s;unfold compStart;rw[Sem.onRaise_eq_wrap];show Seg _ _ _ _ _ s _ ((ask>>=_).wrap _ _ _ _) [] s;refine IY (wpAny_askSetting ?_)
 split
 ·exact seg_again rfl pf
 ·first
   |exact IY (IP (IY (IW (IY (ga.itr.iter_self (seg_again rfl pf))))))
   |(refine IY (IP ?_);show Seg _ _ _ _ _ s _ ((standAt G.iter.pos>>=_).wrap _ _ _ _) [] s;exact IY (IW (IY (ga.itr.iter_self (seg_again rfl pf)))))
noncomputable def lu(A:Around)(cenv:Env)(KZ ρ:Pl)(Ip:List Addr)(a:Addr)(s:Shared)(target elt iter:Expr)(ifs:List Expr)(scope:Scope)(pos:Pos)(d:Nat)(L:List sw)(e:Option Sg):gS:=
 ⟨A.in1,cenv,KZ.p,Ip,a,ρ,s,target,elt,iter,ifs,scope,pos,d,L,e⟩
theorem qU.ready{LR:Around}{cenv:Env}{Ip:List Addr}{g:Nat}{L:List sw}{e:Option Sg}(ok:c.Ok)(ht:eM c d tr)(hf:bF c d f)
 (B:qU c ρ s en σ t target elt iter ifs scope pos v s' cenv Ip a ga g KF) {KZ:Pl} (S:af c KF s' KZ σ KL) (hg:KL.gens=s'.gens) (nc: ∀n∈scope.names,n.2≠ .cell) (hc:nF (mK (du 8) tr f target ifs elt az) (dD scope.names en) σ t L e) (hw:L≠[]∨e.isSome=true)
 (room:eg c KZ LR (d+1) KL.heap) (a1:A.handled=LR.handled) (a2:A.depth=LR.depth) (a3:A.frames=LR.frames) (a4:A.units≤LR.units+4):
 oU (lu A cenv KZ ρ Ip a s target elt iter ifs scope pos d L e)∧dm (lu A cenv KZ ρ Ip a s target elt iter ifs scope pos d L e) g ga A∧
  fm c (lu A cenv KZ ρ Ip a s target elt iter ifs scope pos d L e) g ga [] L KZ.r (dD scope.names en) σ t KL:=by
 have T:=B.step.trans S;have er:=S.env B.step.sto B.env;have i:=S.itr B.step.sto B.itr;have nc': ∀x,(dD scope.names en).names.lookup x≠some .cell:=fun x q=>nc _ (mem_of_lookup q) rfl
 have hroom:eg c KZ (lu A cenv KZ ρ Ip a s target elt iter ifs scope pos d L e).rnd d KL.heap:=by
  refine aL room.frames fun l hl ff=> ?_;refine⟨?_,?_,?_,cenv::l,?_,fun env m=> ?_⟩
  ·show A.handled=none;rw[a1];exact room.hand
  ·show A.depth+1+d<recursionLimit;rw[a2];have:=room.depth;exact FI ‹_›
  ·show A.units+1+3+8*d+220<cLine;have:=room.units;exact bry ‹_› ‹_›
  ·show A.frames.map (cenv:: ·)=some (cenv::l);rw[a3,hl];rfl
  ·rcases GY.mp m with rfl|m
   ·obtain⟨mm,⟨o',es,ep,ho',hd',_⟩,_⟩:=er.lo
    exact⟨by rw[er.kind];decide,_,o',B.frame,er.out,(T.sto.plow _ er.out).1,ho',es,ep,hd'⟩
   ·exact ff env m
 have ok':oU (lu A cenv KZ ρ Ip a s target elt iter ifs scope pos d L e):=⟨T.pold,i.priv.1,B.newI,B.newC,B.co⟩;have at':gL c (lu A cenv KZ ρ Ip a s target elt iter ifs scope pos d L e) KZ.r (dD scope.names en) σ t KL:=⟨T,⟨ok,T.sto,T.gd,er,hroom⟩,i⟩
 refine⟨ok',⟨rfl,B.gnew,S.pold _ B.gaP,B.gaD,by rw[a1];exact room.hand,by rw[a2];have:=room.depth;exact rmz ‹_›⟩,rfl,?_,at',.fresh (.compStart (.GeneratorExp elt [⟨target,iter,ifs,0⟩] scope pos) 0 (.ref a) .none cenv),by rw[hg];exact B.gs,fun hw' s'' r'' g''=>⟨rfl,sV (G:=lu A cenv KZ ρ Ip a s target elt iter ifs scope pos d L e) ok' ht hf hc hw nc' g''⟩⟩
 refine i4 B.gen fun o nm qn ho h1 h2 h3=> ?_
 exact⟨o,nm,qn,S.ext.get (fun m=>B.step.sto.disj _ B.gaP (by simpa using m)) ho (by unfold uM hU;rw[h2];simp[h1]),h1,h2,h3⟩
theorem fm.move{G:gS}{g:Nat}{r:List Addr}{K:List Addr}(ok:oU G)(kn:dm G g ga A')(x:fm c G g ga pre rem r en σ t s)(S:ad c K ⟨r,G.P⟩ s ⟨r,G.P⟩ σ s')(hg:s'.gens=s.gens)
 (hK: ∀a∈K,a∈G.P∧G.sc.heap.objs.size≤a∧a∉G.D∧a≠ga) (pl:aV s.heap K):fm c G g ga pre rem r en σ t s':=by
 refine⟨x.hL,?_,⟨x.st.step.fresh S fun a m=>(hK a m).2.1,x.st.at_.plain (fun a m=>(hK a m).1) pl S,ad.itr x.st.at_.st (fun a m=>(hK a m).1) (fun a m q=>(hK a q).2.2.1 (.tail _ m)) S x.st.itr⟩,by rw[hg];exact x.gs⟩
 refine i4 x.gen fun o nm qn ho h1 h2 h3=> ?_
 exact⟨o,nm,qn,S.ext.get (fun m=>(GP.mp m).elim (fun q=>(hK _ q).2.2.2 rfl) (x.st.at_.st.disj _ kn.gaP)) ho (by unfold uM hU;rw[h2];simp[h1]),h1,h2,h3⟩
theorem fm.toks{G:gS}{g:Nat}{r:List Addr}(ok:oU G)(kn:dm G g ga A')(x:fm c G g ga pre rem r en σ t s):fm c G g ga pre rem r en σ t {s with toks:=k}:=
 x.move ok kn (K:=[]) (af.toks x.st.at_.st x.st.at_.gd) rfl (by simp) (by intro a m;cases m)
noncomputable def d7(nx:zp)(stop:Bool):Nat→En→Sg→It→Option (Bool×Sg)
 |0,_,_,_=>none
 |n+1,en,σ,t=>(nx en σ t).bind fun r=>match r.1 with
  |none=>some (false,r.2)
  |some p=>(bu r.2 p.1).bind fun b=>if b=stop then some (true,r.2)else d7 nx stop n p.2.1 r.2 p.2.2
theorem tJ{stop:Bool}(h:nx en σ t=some (none,KD)):d7 nx stop (n+1) en σ t=some (false,KD):=by
 show(nx en σ t).bind _=_;rw[h];rfl
theorem rO{stop:Bool}(h:nx en σ t=some (some (y,en',t'),KD))(hb:bu KD y=some b):d7 nx stop (n+1) en σ t=if b=stop then some (true,KD)else d7 nx stop n en' KD t':=by
 show(nx en σ t).bind _=_;rw[h];show(bu KD y).bind _=_;rw[hb];rfl
noncomputable def jL(stop:Bool):List sw→Option Sg→Bool→Sg→Prop
 |[],e,b,KX=>e=some KX∧b=false
 |(y,_,KD,_)::l,e,b,KX=>(bu KD y=some (!stop)∧(l≠[]∨e.isSome=true)∧jL stop l e b KX)∨(bu KD y=some stop∧l=[]∧e=none∧b=true∧KX=KD)
theorem AO{a:Bool}(h: ¬a=b):a= !b:=by cases a<;>cases b<;>first|rfl|exact absurd rfl h
theorem lL{stop:Bool}(n:Nat)(e:d7 nx stop n en σ t=some (b,KX)): ∃L e,nF nx en σ t L e∧(L≠[]∨e.isSome=true)∧jL stop L e b KX:=by
 induction n generalizing en σ t with
 |zero=>exact no e
 |succ n ih=>
  refine ae e fun r hn w=> ?_;obtain⟨r,KD⟩:=r
  cases r with
  |none=>cases IH w;exact⟨[],some _,hn,.inr rfl,rfl,rfl⟩
  |some p=>
   refine ae w fun b' hb w=>eZ w (fun hs w=> ?_) fun hs w=> ?_
   ·cases IH w
    subst hs;exact⟨[(p.1,p.2.1,_,p.2.2)],none,⟨hn,trivial⟩,.inl nofun,.inr ⟨hb,rfl,rfl,rfl,rfl⟩⟩
   ·refine dC (ih w) fun L e' h1 h2 h3=> ?_
    exact⟨(p.1,p.2.1,KD,p.2.2)::L,e',⟨hn,h1⟩,.inl nofun,.inl ⟨by rw[hb,AO hs],h2,h3⟩⟩
theorem v7{G:gS}{g:Nat}{R:Result→Shared→Prop}(ok:oU G)(kn:dm G g ga A.in1)(hR: ∀s' r',af c G.ρc G.sc ⟨r',G.P⟩ KX s'→R (.ok (.ret (.bool (!b)))) s'):
 ∀(rem pre:List sw) {en:En} {σ:Sg} {t:It} {r:List Addr} {s:Shared},fm c G g ga pre rem r en σ t s→(rem≠[]∨G.e.isSome=true)→jL false rem G.e b KX→codeAny (model c.prog c.w) A (.builtin "all.loop" ⟨[.ref ga],[]⟩) R s:=by
 intro rem
 induction rem with
 |nil=>
  intro pre en σ t r s x hw hu;refine oA hu fun he zz1=> ?_;subst zz1;refine IS F.entry_all_loop ?_;rw[Jq JX _];show II _ A.in1 (pyNext (.ref ga)>>=_) _ _ s
  ac_rfl
  refine IJ (IM (cX ok kn x hw).pyNext (fun rr KH KR=> ?_) fun u_ u_ z=>z)
  cases rr with
  |some v=>refine fM KR fun u_ u_ u_ u_ u_ u_ q u_=> ?_;exact Cv q
  |none=>
   refine lh KR fun u_ KD r' he' S u_=> ?_;rw[he]at he';obtain rfl:=IH he';exact IJ (IP (IK (hR KH r' S)))
 |cons z rem ih=>
  intro pre en σ t r s x hw hu;obtain⟨Ml,L1,Ld,LZ⟩:=z;refine IS F.entry_all_loop ?_;rw[Jq JX _];show II _ A.in1 (pyNext (.ref ga)>>=_) _ _ s
  ac_rfl
  refine IJ (IM (cX ok kn x hw).pyNext (fun rr KH KR=> ?_) fun u_ u_ z=>z)
  cases rr with
  |none=>exact absurd KR.1 (by exact HI _ _)
  |some v=>
   refine fR KR fun y en' KD t' l r' q x' rv u_=> ?_
   cases q
   rcases hu with⟨hb,hw',hu'⟩|⟨hb,rfl,he,rfl,rfl⟩
   ·ac_rfl
    refine IJ (IO (bX (c:=c) x'.st.at_.st hb rv fun k=> ?_))
    ac_rfl
    refine IJ (I6 ?_);exact IK ⟨IU JX _,ih _ (x'.toks ok kn) hw' hu'⟩
   ·ac_rfl
    refine IJ (IO (bX (c:=c) x'.st.at_.st hb rv fun k=> ?_))
    ac_rfl
    refine IJ (I6 ?_);exact IJ (IP (IK (hR _ r' (x'.toks ok kn).st.step)))
theorem vg{G:gS}{g:Nat}{R:Result→Shared→Prop}(ok:oU G)(kn:dm G g ga A.in1)(hR: ∀s' r',af c G.ρc G.sc ⟨r',G.P⟩ KX s'→R (.ok (.ret (.bool b))) s'):
 ∀(rem pre:List sw) {en:En} {σ:Sg} {t:It} {r:List Addr} {s:Shared},fm c G g ga pre rem r en σ t s→(rem≠[]∨G.e.isSome=true)→jL true rem G.e b KX→codeAny (model c.prog c.w) A (.builtin "any.loop" ⟨[.ref ga],[]⟩) R s:=by
 intro rem
 induction rem with
 |nil=>
  intro pre en σ t r s x hw hu;refine oA hu fun he zz1=> ?_;subst zz1;refine IS F.entry_any_loop ?_;rw[Jq JQ _];show II _ A.in1 (pyNext (.ref ga)>>=_) _ _ s
  ac_rfl
  refine IJ (IM (cX ok kn x hw).pyNext (fun rr KH KR=> ?_) fun u_ u_ z=>z)
  cases rr with
  |some v=>refine fM KR fun u_ u_ u_ u_ u_ u_ q u_=> ?_;exact Cv q
  |none=>
   refine lh KR fun u_ KD r' he' S u_=> ?_;rw[he]at he';obtain rfl:=IH he';exact IJ (IP (IK (hR KH r' S)))
 |cons z rem ih=>
  intro pre en σ t r s x hw hu;obtain⟨Ml,L1,Ld,LZ⟩:=z;refine IS F.entry_any_loop ?_;rw[Jq JQ _];show II _ A.in1 (pyNext (.ref ga)>>=_) _ _ s
  ac_rfl
  refine IJ (IM (cX ok kn x hw).pyNext (fun rr KH KR=> ?_) fun u_ u_ z=>z)
  cases rr with
  |none=>exact absurd KR.1 (by exact HI _ _)
  |some v=>
   refine fR KR fun y en' KD t' l r' q x' rv u_=> ?_
   cases q
   rcases hu with⟨hb,hw',hu'⟩|⟨hb,rfl,he,rfl,rfl⟩
   ·ac_rfl
    refine IJ (IO (bX (c:=c) x'.st.at_.st hb rv fun k=> ?_))
    ac_rfl
    refine IJ (I6 ?_);exact IK ⟨IU JQ _,ih _ (x'.toks ok kn) hw' hu'⟩
   ·ac_rfl
    refine IJ (IO (bX (c:=c) x'.st.at_.st hb rv fun k=> ?_))
    ac_rfl
    refine IJ (I6 ?_);exact IJ (IP (IK (hR _ r' (x'.toks ok kn).st.step)))
theorem vU{G:gS}{g:Nat}{L:List sw}{r:List Addr}(ok:oU G)(kn:dm G g ga A.in1)(x:fm c G g ga [] L r en σ t s)(hw:L≠[]∨G.e.isSome=true)(hu:jL false L G.e b KX)
 (hQ: ∀s' r',af c G.ρc G.sc ⟨r',G.P⟩ KX s'→Q (.bool (!b)) s'):II (model c.prog c.w) A (call (.builtin "all") [.ref ga]) Q E s:=by
 refine Jl F.kind_all F.plain_all F.entry_all (F.args_all1 _) ?_;unfold Builtin.«all»;refine IJ (m:=oneArg "all" _) (IK ?_);refine IJ (Jm x.gen ?_);exact IK ⟨IU JX _,v7 ok kn (fun s' r' S=>hQ s' r' S) L [] x hw hu⟩
theorem wy{G:gS}{g:Nat}{L:List sw}{r:List Addr}(ok:oU G)(kn:dm G g ga A.in1)(x:fm c G g ga [] L r en σ t s)(hw:L≠[]∨G.e.isSome=true)(hu:jL true L G.e b KX)
 (hQ: ∀s' r',af c G.ρc G.sc ⟨r',G.P⟩ KX s'→Q (.bool b) s'):II (model c.prog c.w) A (call (.builtin "any") [.ref ga]) Q E s:=by
 refine Jl F.kind_any F.plain_any F.entry_any (F.args_any1 _) ?_;unfold Builtin.«any»;refine IJ (m:=oneArg "any" _) (IK ?_);refine IJ (Jm x.gen ?_);exact IK ⟨IU JQ _,vg ok kn (fun s' r' S=>hQ s' r' S) L [] x hw hu⟩
noncomputable def d5(nx:zp):Nat→En→Sg→It→Option (List V×Sg)
 |0,_,_,_=>none
 |n+1,en,σ,t=>(nx en σ t).bind fun r=>match r.1 with
  |none=>some ([],r.2)
  |some p=>(d5 nx n p.2.1 r.2 p.2.2).map fun q=>(p.1::q.1,q.2)
theorem mz(n:Nat)(e:d5 nx n en σ t=some (ys,KX)): ∃L,nF nx en σ t L (some KX)∧L.map (·.1)=ys:=by
 induction n generalizing en σ t ys with
 |zero=>exact no e
 |succ n ih=>
  refine ae e fun r hn w=> ?_;obtain⟨r,KD⟩:=r
  cases r with
  |none=>cases IH w;exact⟨[],hn,rfl⟩
  |some p=>
   exact aN w fun q hq w'=>by
    refine rD w' fun zz1 zz2=> ?_;subst zz1;subst zz2;refine aL (ih hq) fun L h3 h4=> ?_;exact⟨(p.1,p.2.1,KD,p.2.2)::L,⟨hn,h3⟩,congrArg (p.1:: ·) h4⟩
theorem sR.kept{G:gS}{S:Addr}{o:Obj}(h:sR c G s s')(hP:S∈G.P)(hD:S∉G.D)(ho:s.heap.get? S=some o)(f:uM o=true):s'.heap.get? S=some o:=by
 refine bc h fun K8 Ld st x=> ?_;exact x.get (fun m=>(GP.mp m).elim hD (st.disj S hP)) ho f
structure Ct(G:gS)(ga S:Addr):Prop where
 P:S∈G.P
 D:S∉G.D
 ne:S≠ga
 new:G.sc.heap.objs.size≤S
theorem fm.write{G:gS}{g:Nat}{S:Addr}{r:List Addr}{f:Obj→Obj}{tk:Nat}(ok:oU G)(kn:dm G g ga A')(w:Ct G ga S)(x:fm c G g ga pre rem r en σ t s)(hS:s.heap.get? S=some (aB vs k)):
 fm c G g ga pre rem r en σ t {s with heap:=s.heap.update S f,toks:=tk}:=
 x.move ok kn (K:=[S]) (ad.same (t:=tk) x.st.at_.ok x.st.at_.st x.st.at_.gd w.P (Kf ..)) rfl (by simp only[GR,forall_eq];exact⟨w.P,w.new,w.D,w.ne⟩) (by
  intro b m;rw[GR.mp m]
  exact⟨_,hS,rfl⟩)
theorem uk{G:gS}{g:Nat}{S:Addr}{R:Result→Shared→Prop}(ok:oU G)(kn:dm G g ga A.in1)(w:Ct G ga S)(he:G.e=some KX):
 ∀(rem pre:List sw) {en:En} {σ:Sg} {t:It} {r:List Addr} {s:Shared} {ns:List Int} {acc:Int} {tA:Tok} {k:Nat} {stage:Int},(stage=0∨stage=2)→fm c G g ga pre rem r en σ t s→cP (rem.map (·.1))=some ns→s.heap.get? S=some (aB [.int acc tA] k)→
  (∀s' r' t',af c G.ρc G.sc ⟨r',G.P⟩ KX s'→R (.ok (.ret (.int (acc+ns.sum) t'))) s')→codeAny (model c.prog c.w) A (.builtin "sum.loop" ⟨[.ref ga,.ref S,rawInt stage,rawInt 0],[]⟩) R s:=by
 intro rem
 induction rem with
 |nil=>
  intro pre en σ t r s ns acc tA k stage hstage x hns hS hR;obtain rfl:=IH hns;refine IS F.entry_sum_loop ?_;refine(Jq JR _).symm▸ ?_;show II _ A.in1 (seqItems? (.ref S)>>=_) _ _ s
  ac_rfl
  refine IJ (I0 hS rfl ?_);refine(?_:II _ A.in1 (tryCatch (pyNext (.ref ga)) _>>=_) _ _ s)
  ac_rfl
  refine IJ (wpAny_tryCatch (IM (cX ok kn x (.inr (by rw[he];rfl))).pyNext (fun rr KH KR=> ?_) fun u_ u_ z=>z))
  cases rr with
  |some v=>refine fM KR fun u_ u_ u_ u_ u_ u_ q u_=> ?_;exact Cv q
  |none=>
   refine lh KR fun u_ KD r' he' T u_=> ?_;rw[he]at he';obtain rfl:=Al he'
   exact IK (by simpa using hR KH r' tA T)
 |cons z rem ih=>
  intro pre en σ t r s ns acc tA k stage hstage x hns hS hR;refine IS F.entry_sum_loop ?_;rw[Jq JR _];refine(?_:II _ A.in1 (seqItems? (.ref S)>>=_) _ _ s)
  ac_rfl
  refine IJ (I0 hS rfl ?_);refine(?_:II _ A.in1 (tryCatch (pyNext (.ref ga)) _>>=_) _ _ s)
  ac_rfl
  refine IJ (wpAny_tryCatch (IM (cX ok kn x (.inr (by rw[he];rfl))).pyNext (fun rr KH KR=> ?_) fun u_ u_ z=>z))
  cases rr with
  |none=>exact absurd KR.1 nofun
  |some v=>
   refine fR KR fun y en' KD t' l r' q x' rv hs=> ?_;obtain⟨rfl,rfl⟩:=List.cons.inj q;have Ll:=hs.kept w.P w.D hS rfl
   refine ae (show(cY y).bind _=some ns from hns) fun i hi e=>aN e fun ns' hns' zz2=> ?_
   subst zz2;obtain rfl:=b_ hi;obtain⟨tt,rfl⟩:=rv.intQ
   have fin: ∀(s':Shared) (r':List Addr) (t':Tok),af c G.ρc G.sc ⟨r',G.P⟩ KX s'→R (.ok (.ret (.int (acc+i+ns'.sum) t'))) s':=fun s' r' t' T=>by
    have:=hR s' r' t' T
    rwa [List.sum_cons,←Int.add_assoc]at this
   refine(fun(tail: ?T)=> ?main) ?tl
   case main=>
    rcases hstage with rfl|rfl
    rotate_left
    ·refine(?_:II _ A.in1 ((holding [Kt i tt] (binaryOp .Add (.int acc tA) (.int i tt))).attempt>>=_) _ _ _);exact tail
    ·show II _ A.in1 (if(_:Bool)=true then(mkInt (acc+i)>>=_)else _) _ _ _
     split
     ·ac_rfl
      refine IJ (wpAny_mkInt ?_);refine(?_:II _ A.in1 (updateSeq S (fun u_=> #[.int (acc+i) KH.toks])>>=_) _ _ _)
      ac_rfl
      refine IJ ?_
      change let Q0:=_;II _ _ _ Q0 _ _;intros
      change let Q0:=_;II _ _ _ Q0 _ _;intros
      refine I5 Ll rfl (IK ⟨IU JR _,ih _ (.inl rfl) ((x'.toks (k:=KH.toks+1) ok kn).write ok kn w Ll) hns' (Kb _ Ll rfl) fin⟩)
     ·exact IJ (IP tail)
   case tl=>
    ac_rfl
    refine IJ (wpAny_attempt (IO (PySem.P.add_int ?_)));refine(?_:II _ A.in1 (updateSeq S (fun u_=> #[.int (acc+i) KH.toks])>>=_) _ _ _)
    ac_rfl
    refine IJ ?_
    change let Q0:=_;II _ _ _ Q0 _ _;intros
    refine I5 Ll rfl ?_;have hS2:=Kb (Kj fun u_=> #[Kt (acc+i) KH.toks]) Ll rfl
    ac_rfl
    refine IJ (I6 ?_)
    ac_rfl
    refine IJ ?_;have x2:=(x'.toks (k:=KH.toks+1) ok kn).write (f:=Kj fun u_=> #[Kt (acc+i) KH.toks]) (tk:=KH.toks+1) ok kn w Ll
    change let Q0:=_;II _ _ _ Q0 _ _;intros
    refine I5 hS2 rfl (IK ⟨IU JR _,ih _ (.inr rfl) (x2.write ok kn w hS2) hns' (Kb _ hS2 rfl) fin⟩)
theorem uG{g:Nat}{i:Int}(hg:s.heap.IsGen ga g)
 (h: ∀tA tk,∃G r en σ t L ns KX,oU G∧dm G g ga A.in1∧Ct G ga s.heap.objs.size∧G.e=some KX∧fm c G g ga [] L r en σ t {s with heap:=s.heap.push (aB [.int 0 tA] 0),toks:=tk}∧cP (L.map (·.1))=some ns∧i=ns.sum∧ ∀s' r' t',af c G.ρc G.sc ⟨r',G.P⟩ KX s'→Q (.int i t') s'):
 II (model c.prog c.w) A (call (.builtin "sum") [.ref ga]) Q E s:=by
 refine Jl F.kind_sum F.plain_sum F.entry_sum (F.args_sum1 _) ?_;unfold Builtin.«sum»
 refine bV (show¬(1:Nat)+0>2 by decide) ?_
 and_intros
 refine IJ (IQ (show Builtin.Builtins.bindParams "sum" ["start"] 0 {}=pure [none]from rfl) ?_)
 and_intros
 refine IJ (Jm hg ?_)
 and_intros
 refine IJ (wpAny_mkInt ?_)
 and_intros
 refine IJ (IK ?_)
 and_intros
 refine IJ ?_;rw[Hk]
 and_intros
 refine IJ (IJ (I8 (T:="int") (b:=false) (I_ _ _ _) PySem.sub_int_str (bV Gk (IK ?_))));refine(?_:II _ _ (forIn (_::_) _ _) _ _ _);rw[Hk]
 and_intros
 refine IJ (IJ (I8 (T:="int") (b:=false) (I_ _ _ _) PySem.sub_int_bytes (bV Gk (IK ?_))));refine(?_:II _ _ (forIn (_::_) _ _) _ _ _);rw[Hk]
 and_intros
 refine IJ (IJ (I8 (T:="int") (b:=false) (I_ _ _ _) PySem.sub_int_bytearray (bV Gk (IK ?_))));refine(?_:II _ _ (forIn [] _ _) _ _ _);rw[List.forIn_nil];refine IK ?_
 and_intros
 refine IJ (IR ?_);obtain⟨G,r,en,σ,t,L,ns,KX,ok,kn,w,he,x,hns,hi,hQ⟩:=h s.toks (s.toks+1);refine IK ⟨IU JR _,uk ok kn w he L [] (Or.inl rfl) x hns (J9 _ rfl) fun s' r' t' T=> ?_⟩;rw[Int.zero_add,←hi];exact hQ s' r' t' T
mutual
noncomputable def jJ:V→Bool
 | .val _=>true
 | .int _=>true
 | .str _=>true
 | .tup l=>bq l
 |_=>false
noncomputable def bq:List V→Bool
 |[]=>true
 |x::l=>jJ x&&bq l
end
theorem R.solidB{r r' P D:List Addr}(st:aQ c ⟨K8,P⟩ Ld h)(x:eh c (D++K8) h h')(hD: ∀a∈D,a∈P)(st':aQ c ⟨r',P⟩ KD h'):
 (∀{y v},R h ⟨r,P⟩ y v→jJ y=true→R h' ⟨r',P⟩ y v)∧(∀{y v},Rs h ⟨r,P⟩ y v→bq y=true→Rs h' ⟨r',P⟩ y v):=
 R.both (P:=fun y v=>jJ y=true→R h' ⟨r',P⟩ y v) (Q:=fun y v=>bq y=true→Rs h' ⟨r',P⟩ y v) (fun u_=> .val) (fun u_=> .int) (fun u_=> .str)
  (fun {_ a vs n} h1 f u_ rs e=>have h2:h'.get? a=some (ao vs n):=x.get (fun m=>(GP.mp m).elim (fun q=>f.2 (hD _ q)) (st.notin h1 (by exact not_eq_of_beq_eq_false rfl) (by exact not_eq_of_beq_eq_false rfl))) h1 rfl
   .tup h2 ⟨st'.notin h2 (by exact not_eq_of_beq_eq_false rfl) (by exact not_eq_of_beq_eq_false rfl),f.2⟩ (rs e)) (fun u_ e=>bM e) (fun u_ u_ u_ e=>bM e) (fun u_ u_ e=>bM e) (fun u_=> .nil) fun u_ q u_ qs e=> .cons (q (Gi.mp e).1) (qs (Gi.mp e).2)
theorem Rs.solid{r r' P D:List Addr}(st:aQ c ⟨K8,P⟩ Ld h)(x:eh c (D++K8) h h')(hD: ∀a∈D,a∈P)(st':aQ c ⟨r',P⟩ KD h'){y:List V}{v:List Value}(e:bq y=true)(q:Rs h ⟨r,P⟩ y v):Rs h' ⟨r',P⟩ y v:=(R.solidB st x hD st').2 q e
theorem lR:bq l=true→bq m=true→bq (l++m)=true:=by
 induction l with
 |nil=>exact fun u_ h=>h
 |cons x l ih=>
  intro h1 h2
  replace h1:=Gi.mp (show(jJ x&&bq l)=true from h1)
  exact Gi.mpr ⟨h1.1,ih h1.2 h2⟩
theorem uy{G:gS}{g:Nat}{S:Addr}{res:Value}{R:Result→Shared→Prop}(ok:oU G)(kn:dm G g ga A.in1)(w:Ct G ga S)(hDP: ∀a∈G.D,a∈G.P)(he:G.e=some KX):
 ∀(rem pre:List sw) {en:En} {σ:Sg} {t:It} {r:List Addr} {s:Shared} {acc:List V} {vs:List Value} {k:Nat},fm c G g ga pre rem r en σ t s→bq (rem.map (·.1))=true→bq acc=true→acc.length+rem.length≤2^20→s.heap.get? S=some (aB vs k)→Internal.Rs s.heap ⟨r,G.P⟩ acc vs→
  (∀s' r' vs' k',af c G.ρc G.sc ⟨r',G.P⟩ KX s'→s'.heap.get? S=some (aB vs' k')→Internal.Rs s'.heap ⟨r',G.P⟩ (acc++rem.map (·.1)) vs'→R (.ok (.ret res)) s')→codeAny (model c.prog c.w) A (.builtin "list.extend.loop" ⟨[.ref S,.ref ga,res],[]⟩) R s:=by
 intro rem
 induction rem with
 |nil=>
  intro pre en σ t r s acc vs k x hsol hsa hz hS ra hR;refine IS J8 ?_;rw[Jq JP _];show II _ A.in1 (pyNext (.ref ga)>>=_) _ _ s
  ac_rfl
  refine IJ (IM (cX ok kn x (.inr (by rw[he];rfl))).pyNext (fun rr KH KR=> ?_) fun u_ u_ z=>z)
  cases rr with
  |some v=>refine fM KR fun u_ u_ u_ u_ u_ u_ q u_=> ?_;exact Cv q
  |none=>
   refine lh KR fun u_ KD r' he' T hs=> ?_;rw[he]at he';obtain rfl:=IH he';refine bc (id hs) fun K8 Ld Mm xx=> ?_
   exact IK (hR KH r' vs k T (hs.kept w.P w.D hS rfl) (by simpa using ra.solid Mm xx hDP T.sto hsa))
 |cons z rem ih=>
  intro pre en σ t r s acc vs k x hsol hsa hz hS ra hR;obtain⟨Ml,L1,Ld,LZ⟩:=z
  replace hsol:=Gi.mp (show(jJ _&&bq _)=true from hsol)
  refine IS J8 ?_;rw[Jq JP _];show II _ A.in1 (pyNext (.ref ga)>>=_) _ _ s
  ac_rfl
  refine IJ (IM (cX ok kn x (.inr (by rw[he];rfl))).pyNext (fun rr KH KR=> ?_) fun u_ u_ z=>z)
  cases rr with
  |none=>exact absurd KR.1 (by exact HI _ _)
  |some v=>
   refine fR KR fun y en' KD t' l r' q x' rv hs=> ?_
   cases q
   have Ll:=hs.kept w.P w.D hS rfl;refine bc (id hs) fun K8 KE Mm xx=> ?_
   have ra₁:=ra.solid Mm xx hDP x'.st.at_.st hsa
   have hv:vs.length≤2^20:=by rw[←ra.length];exact asl ‹_›
   show II _ A.in1 (updateSeq S (·.push v)>>=_) _ _ _
   ac_rfl
   refine IJ (I5 Ll rfl ?_ (by simp;exact HX hv (by decide)) (by simp;exact HX hv (by decide)))
   have hg:(KH.heap.update S (Kj (·.push v))).get? S=some (aB (vs++[v]) (k+1)):=by
    rw[Kb _ Ll (by rw[ei];rfl),ei]
   have KJ:ad c [S] ⟨r',G.P⟩ KH ⟨r',G.P⟩ Ld {KH with heap:=KH.heap.update S (Kj (·.push v)),toks:=KH.toks}:=ad.same (t:=KH.toks) x'.st.at_.ok x'.st.at_.st x'.st.at_.gd w.P (Kf ..)
   have Mc:=ad.Rs (by simpa using w.P) KJ (ra₁.append (.cons rv .nil))
   refine IK ⟨IU JP _,ih _ (acc:=acc++[Ml]) (x'.write (tk:=KH.toks) ok kn w Ll) hsol.2 (lR hsa (by simp[bq,hsol.1])) (by simp at hz⊢;exact EC ‹_›) hg Mc fun s' r'' vs' k' T hS' rr=> ?_⟩
   exact hR s' r'' vs' k' T hS' (by simpa using rr)
theorem o7{g:Nat}{Q:List Value→Shared→Prop}(hg:s.heap.IsGen ga g)
 (h: ∃G r en σ t L KX,oU G∧dm G g ga A.in1∧Ct G ga s.heap.objs.size∧(∀a∈G.D,a∈G.P)∧G.e=some KX∧fm c G g ga [] L r en σ t {s with heap:=s.heap.push (aB [] 0),toks:=s.toks}∧L.map (·.1)=l∧bq l=true∧l.length≤2^20∧
  ∀s' r' vs',af c G.ρc G.sc ⟨r',G.P⟩ KX s'→Internal.Rs s'.heap ⟨r',G.P⟩ l vs'→Q vs' s'):II (model c.prog c.w) A (collect (.ref ga)) Q E s:=by
 obtain⟨G,r,en,σ,t,L,KX,ok,kn,w,hDP,he,x,rfl,hsol,hz,hQ⟩:=h;have hSg:s.heap.objs.size≠ga:=w.ne;unfold collect;refine IJ (wpAny_runValue (IS F.entry_proto_collect ?_));rw[Jq F.plain_proto_collect _];show II _ A.in1 (newList []>>=fun l=>again (.builtin "list.__iadd__" ⟨[l,.ref ga],[]⟩)) _ _ s;refine IJ (IR ?_);refine IK ⟨IU JV _,IS F.entry_list_iadd ?_⟩;rw[Jq JV _]
 show II _ A.in1 (Jt (.ref s.heap.objs.size) (.ref ga) (.ref s.heap.objs.size)) _ _ {s with heap:=s.heap.push (aB [] 0),toks:=s.toks}
 unfold Jt;refine IJ (I2 x.gen.typeIs ?_)
 have h1:Jv (.ref s.heap.objs.size) (.ref ga)=false:=by exact decide_eq_false (by assumption)
 have h2:(Value.type "generator"==Value.type "list")=false:=by exact Gn _
 have h3:(Value.type "generator"==Value.type "tuple")=false:=by assumption
 simp only[h1,h2,h3,Gq,Gm,if_false];refine IJ (Jm x.gen ?_);refine IJ (IO ?_);unfold Jw;refine IJ (I4 x.gen.typeIs F.gen_no_len ?_);show II _ A.in1 (specialOf (Kr ga) (Kq "__length_hint__")>>=_) _ _ _;refine IJ (I4 x.gen.typeIs F.gen_no_hint ?_);refine IK ?_
 show II _ A.in1 (rule "list.extend.makes-room">>=fun u_=>Builtin.List.listTouch (.ref s.heap.objs.size)>>=fun u_=>
  again (.builtin "list.extend.loop" ⟨[.ref s.heap.objs.size,.ref ga,.ref s.heap.objs.size],[]⟩)) _ _ _
 refine IJ (IP ?_);have Ll:(s.heap.push (aB [] 0)).get? s.heap.objs.size=some (aB [] 0):=J9 _ rfl;refine IJ ?_;show II _ A.in1 (updateSeq s.heap.objs.size (·.push .none)>>=fun u_=>updateSeq s.heap.objs.size (·.pop)) _ _ _;refine IJ (I5 Ll rfl ?_);have Mn:=Kb (Kj (·.push Ks)) Ll rfl;refine I5 Mn rfl ?_;have hS₃:=Kb (Kj (·.pop)) Mn rfl;have x2:=x.write (f:=Kj (·.push Ks)) (tk:=s.toks) ok kn w Ll;have x3:=x2.write (f:=Kj (·.pop)) (tk:=s.toks) ok kn w Mn
 refine IK ⟨IU JP _,uy ok kn w hDP he L [] (acc:=[]) x3 hsol rfl (by simpa using hz) hS₃ .nil fun s' r' vs' k' T hS' rr=> ?_⟩
 show II _ A (load s.heap.objs.size>>=_) _ _ s';refine IJ (wpAny_load hS' ?_)
 exact IK (hQ s' r' _ T (by simpa using rr))
theorem pD{g:Nat}(hg:s.heap.IsGen ga g)
 (h: ∃G r en σ t L KX,oU G∧dm G g ga A.in1.in1.in1∧Ct G ga s.heap.objs.size∧(∀a∈G.D,a∈G.P)∧G.e=some KX∧fm c G g ga [] L r en σ t {s with heap:=s.heap.push (aB [] 0),toks:=s.toks}∧L.map (·.1)=l∧bq l=true∧l.length≤2^20∧c.Ok∧
  ∀s' KF v,af c G.ρc G.sc KF KX s'→Internal.R s'.heap KF (.tup l) v→Q v s'):II (model c.prog c.w) A (call (.type "tuple") [.ref ga]) Q E s:=by
 obtain⟨G,r,en,σ,t,L,KX,ok,kn,w,hDP,he,x,hL,hsol,hz,ok',hQ⟩:=h;have hT:s.TypeIs (.ref ga) "generator":=hg.typeIs;refine callType_codes (Q₁:=fun obj KH=>KH.TypeIs obj "tuple"∧Q obj KH) JO (J6 _) F.entry_object_init ?_ fun obj KH KR=> ?_
 ·refine Jk ?_
  show II _ A.in1.in1 (do checkBuiltinCall "tuple.__new__" ⟨[.type "tuple",.ref ga],[]⟩;again (.builtin "tuple.__new__" ⟨[.type "tuple",.ref ga],[]⟩)) _ _ s
  refine IJ (IQ (F.newCall_tuple_1 _) (IK ⟨IU JW _,IS F.entry_tuple_new ?_⟩));rw[Jq JW _];have hsub:=sub_tuple_self;have hinit:=init_tuple_lookup;have hmh:=madeHere_tuple;have hc:=fun {Q':List Value→Shared→Prop} {E':Value→Shared→Prop} (hq: ∀s' r' vs',af c G.ρc G.sc ⟨r',G.P⟩ KX s'→Internal.Rs s'.heap ⟨r',G.P⟩ l vs'→Q' vs' s')=>
   o7 (A:=A.in1.in1) (E:=E') hg ⟨G,r,en,σ,t,L,KX,ok,kn,w,hDP,he,x,hL,hsol,hz,hq⟩
  wp_walk using I2 hT,hc
  intro s' r' vs S rs;show II _ _ (JI vs.toArray>>=fun v=>ret v) _ _ _;unfold JI
  refine IJ (IR ?_ (by show vs.toArray.size≤sizeLine;simp[←rs.length];exact HX hz (by decide)))
  have KJ:af c ⟨r',G.P⟩ s' ⟨r',G.P⟩ KX {s' with heap:=s'.heap.push (ao vs 0),toks:=s'.toks}:=af.push (t:=s'.toks) ok' S.sto S.gd
  exact IK ⟨⟨_,J9 _ rfl,rfl⟩,hQ _ _ _ (S.trans KJ) (.tup (J9 _ rfl) (S.sto.new (HY _)) (KJ.Rs rs))⟩
 ·exact⟨KR.1,J7 obj _,object_init_meets JO.init.lookup JO.made (by exact ac) c.prog c.w A.in1 _ KH ⟨KR.1,rfl,KR.2⟩⟩
end
section
variable {env:Env}{d:Nat}
noncomputable def yU(nx:zp)(en:En)(σ:Sg)(t:It):Option (aG V):=(d7 nx false az en σ t).map fun p=> .ok (.bool (!p.1)) p.2
noncomputable def zg(nx:zp)(en:En)(σ:Sg)(t:It):Option (aG V):=(d7 nx true az en σ t).map fun p=> .ok (.bool p.1) p.2
noncomputable def yz(nx:zp)(en:En)(σ:Sg)(t:It):Option (aG V):=(d5 nx az en σ t).bind fun p=>(cP p.1).map fun ns=> .ok (.int ns.sum) p.2
noncomputable def yM(nx:zp)(en:En)(σ:Sg)(t:It):Option (aG V):=(d5 nx az en σ t).bind fun p=>if(bq p.1&&decide (p.1.length≤2^20))=true then some (.ok (.tup p.1) p.2)else none
noncomputable def sD(fv:Value)(nx:zp)(en:En)(σ:Sg)(t:It):Option (aG V):=match fv with
 | .builtin id=>if id="all" then yU nx en σ t else if id="any" then zg nx en σ t else if id="sum" then yz nx en σ t else none
 | .type T=>if T="tuple" then yM nx en σ t else none
 |_=>none
theorem AT(e:sD fv nx en σ t=some o)(k1: ∀b KX,fv= .builtin "all"→d7 nx false az en σ t=some (b,KX)→o= .ok (.bool (!b)) KX→P)(k2: ∀b KX,fv= .builtin "any"→d7 nx true az en σ t=some (b,KX)→o= .ok (.bool b) KX→P)
 (k3: ∀ys ns KX,fv= .builtin "sum"→d5 nx az en σ t=some (ys,KX)→cP ys=some ns→o= .ok (.int ns.sum) KX→P) (k4: ∀ys KX,fv= .type "tuple"→d5 nx az en σ t=some (ys,KX)→bq ys=true→ys.length≤2^20→o= .ok (.tup ys) KX→P):P:=by
 cases fv with
 |builtin id=>
  exact eZ (show(if id="all" then yU nx en σ t else if id="any" then zg nx en σ t else if id="sum" then yz nx en σ t else none)=some o from e) (fun h e=>aN e fun p hp w=>k1 p.1 p.2 (by exact congrArg _ (by assumption)) hp w.symm) fun u_ e=>
   eZ e (fun h e=>aN e fun p hp w=>k2 p.1 p.2 (by exact congrArg _ (by assumption)) hp w.symm) fun u_ e=>bI e fun h e=>ae e fun p hp e=>aN e fun ns hn w=>k3 p.1 ns p.2 (by rw[h]) hp hn w.symm
 |type T=>exact bI (show(if T="tuple" then yM nx en σ t else none)=some o from e) fun h e=>ae e fun p hp e=>bI e fun hs w=>k4 p.1 p.2 (by exact congrArg _ (by assumption)) hp (Gi.mp hs).1 (of_decide_eq_true (Gi.mp hs).2) (IH w).symm
 |_=>exact no e
variable (c)in
noncomputable def de(iv:iR)(tr:lA)(f:fP)(en:En)(σ:Sg)(fn:Str)(elt target iter:Expr)(ifs:List Expr)(scope:Scope):Option (aG V):=
 if(fC iter&&scope.kind== .function&& !scope.isCoroutine&&dU scope.names en&&scope.names.lookup (".0":Str)==some .local)=true then en.code.bind fun cc=>(aR c en fn).bind fun z=>(kB z).bind fun fv=>(c.cs.lookup cc).bind fun u_=>
  (iv en σ iter).bind fun r=>(uN r).bind fun q=>(aC q.2 q.1).bind fun t=>sD fv (mK (du 8) tr f target ifs elt az) (dD scope.names en) q.2 t
 else none
theorem w7{iv:iR}(e:de c iv tr f en σ fn elt target iter ifs scope=some o)
 (k: ∀cc fv p x KE t,(fC iter&&scope.kind== .function&& !scope.isCoroutine&&dU scope.names en&&scope.names.lookup (".0":Str)==some .local)=true→en.code=some cc→aR c en fn=some (.val fv)→c.cs.lookup cc=some p→iv en σ iter=some (.ok x KE)→aC KE x=some t→
  sD fv (mK (du 8) tr f target ifs elt az) (dD scope.names en) KE t=some o→P):P:=
 bI e fun hp e=>ae e fun cc hcc e=>ae e fun z hz e=>ae e fun fv hfv e=>ae e fun p hP e=>ae e fun r hr e=>ae e fun q hq e=>ae e fun t ht e=>k cc fv p q.1 q.2 t hp hcc (by rw[hz,ix hfv]) hP (qP hq▸hr) ht e
theorem qU.lt{cenv:Env}{Ip:List Addr}{g:Nat}
 (B:qU c ρ s en σ t target elt iter ifs scope pos v s' cenv Ip a ga g KF):s'.heap.objs.size∉cenv.locals::Ip∧s'.heap.objs.size≠ga:=by
 refine⟨fun m=> ?_,fun q=> ?_⟩
 ·rcases GY.mp m with q|q
  ·have:=(B.step.sto.plow _ B.env.out).2;rw[←q]at this;exact absurd this (Ic _)
  ·exact absurd (B.step.sto.plow _ (B.itr.priv.1 _ q)).2 (Ic _)
 ·have:=(B.step.sto.plow _ B.gaP).2;rw[←q]at this;exact absurd this (Ic _)
theorem qc{l:List (Addr×Addr)}{b:Addr}:l.lookup a=some b→(a,b)∈l:=by
 induction l with
 |nil=>exact fun h=>no h
 |cons p l ih=>
  intro h
  replace h:(match a==p.1 with|true=>some p.2|false=>l.lookup a)=some b:=h
  cases q:a==p.1 with
  |true=>
   rw[q]at h;obtain rfl:=IH h;rw[GN q];exact .head _
  |false=>rw[q]at h;exact .tail _ (ih h)
theorem oV{iv:iR}{np gpos:Pos}(hi:ic c (d+1) iv)(ht:eM c d tr)(hf:bF c d f)(e:de c iv tr f en σ fn elt target iter ifs scope=some o)(a:At c A env en ρ σ s (d+1)):
 bn c A (eval (.Call (.Name fn np) [.GeneratorExp elt [⟨target,iter,ifs,0⟩] scope gpos] [] pos) env) ρ s o:=by
 refine w7 e fun cc fv P x KE t hp hcc hfv hP hx hit e=> ?_;simp only[Gj,beq_iff_eq,Gr]at hp;obtain⟨⟨⟨⟨p1,p2⟩,p3⟩,p4⟩,p5⟩:=hp;have hm:(cc,P)∈c.cs:=qc hP;refine mX (fJ p4) fun o1 o2 o3=> ?_;show II _ _ _ _ _ _
 rw[gn (fun u_ u_ u_ q=>by cases q)]
 ac_rfl
 refine IJ (au.go (hH (A:=A) (pos:=np) a.ok a.st a.gd a.er hfv) (fun y Ld q L3 KP KY K4 K8=> ?_) (fun u_ u_ q=>by exact iQ q))
 cases q
 cases K8 using R.valE
 have Lr:=a.step K4;have made: ∀{Q:List Value→Shared→Prop} {E:Value→Shared→Prop},(∀s' cenv Ip b ga g KF,qU c KY KP en KE t target elt iter ifs scope gpos (.ref ga) s' cenv Ip b ga g KF→Q [.ref ga] s')→
  II (model c.prog c.w) A (spliced (backTo pos (starEach [.GeneratorExp elt [⟨target,iter,ifs,0⟩] scope gpos] env))) Q E KP:=by
  intro Q E hq;refine Jd (wc hi p1 p2 p3 p4 p5 hcc hm hx hit Lr fun v s' cenv Ip b ga g KF B=>Jh ?_);have hv:=B.v;subst hv;exact hq s' cenv Ip b ga g KF B
 have road: ∀{fv:Value} {Q:Value→Shared→Prop} {E:Value→Shared→Prop},bK c.K fv=true→(∀s' cenv Ip b ga g KF,qU c KY KP en KE t target elt iter ifs scope gpos (.ref ga) s' cenv Ip b ga g KF→II (model c.prog c.w) A (call fv [.ref ga]) Q E s')→
  II (model c.prog c.w) A (callWith pos fv [] (backTo pos (starEach [.GeneratorExp elt [⟨target,iter,ifs,0⟩] scope gpos] env)) (backToKw pos (keywordEach [] env))) Q E KP:=by
  intro fv Q E hc hq;refine i0 (K:=c.K) rfl rfl hc (made fun s' cenv Ip b ga g KF B=>kws_nil ⟨B.step.gd.kin,?_⟩);exact hq s' cenv Ip b ga g KF B
 have rm: ∀{KF:Pl} {KD:Sg} {s':Shared},af c KY KP KF KD s'→eg c KF A (d+1) s'.heap:=fun S=>S.room Lr.st Lr.room;refine AT e (fun b₁ KX h hu q=> ?_) (fun b₁ KX h hu q=> ?_) (fun ys ns KX h hu hns q=> ?_) fun ys KX h hu hs1 hs2 q=> ?_
 ·subst h q;refine dC (lL _ hu) fun L KU hc hw hus=> ?_;refine road rfl fun s' cenv Ip b ga g KF B=> ?_
  refine mX (B.ready (A:=A.in1) (LR:=A) (L:=L) (e:=KU) a.ok ht hf (.refl B.step.sto B.step.gd) rfl o1 hc hw (rm B.step) rfl rfl rfl (show A.units+1≤A.units+4 from Ii (by decide) _)) fun ok kn xr=> ?_
  exact vU ok kn xr hw hus fun s'' r' S=>b9.now (K4.trans S) .val
 ·subst h q;refine dC (lL _ hu) fun L KU hc hw hus=> ?_;refine road rfl fun s' cenv Ip b ga g KF B=> ?_
  refine mX (B.ready (A:=A.in1) (LR:=A) (L:=L) (e:=KU) a.ok ht hf (.refl B.step.sto B.step.gd) rfl o1 hc hw (rm B.step) rfl rfl rfl (show A.units+1≤A.units+4 from Ii (by decide) _)) fun ok kn xr=> ?_
  exact wy ok kn xr hw hus fun s'' r' S=>b9.now (K4.trans S) .val
 ·subst h q;refine aL (mz _ hu) fun L hc hys=> ?_;refine road rfl fun s' cenv Ip b ga g KF B=> ?_;refine uG (i:=ns.sum) B.gen fun tA tk=> ?_
  have KG:af c KF s' ⟨KF.r,s'.heap.objs.size::KF.p⟩ KE {s' with heap:=s'.heap.push (aB [.int 0 tA] 0),toks:=tk}:=af.priv (t:=tk) a.ok B.step.sto B.step.gd
  refine mX (B.ready (A:=A.in1) (LR:=A) (L:=L) (e:=some KX) a.ok ht hf KG rfl o1 hc (.inr rfl) (rm (B.step.trans KG)) rfl rfl rfl (show A.units+1≤A.units+4 from Ii (by decide) _)) fun ok kn xr=> ?_
  exact⟨_,_,_,_,_,L,ns,KX,ok,kn,⟨.head _,B.lt.1,B.lt.2,B.step.rest.hsize⟩,rfl,xr,by rw[hys];exact hns,rfl,fun s'' r' t' S=>b9.now (K4.trans S) .int⟩
 ·subst h q;refine aL (mz _ hu) fun L hc hys=> ?_;refine road rfl fun s' cenv Ip b ga g KF B=> ?_
  have KG:af c KF s' ⟨KF.r,s'.heap.objs.size::KF.p⟩ KE {s' with heap:=s'.heap.push (aB [] 0),toks:=s'.toks}:=af.priv (t:=s'.toks) a.ok B.step.sto B.step.gd
  refine mX (B.ready (A:=A.in1.in1.in1) (LR:=A) (L:=L) (e:=some KX) a.ok ht hf KG rfl o1 hc (.inr rfl) (rm (B.step.trans KG)) rfl rfl rfl (show A.units+3≤A.units+4 from Ii (by exact H3 _) _)) fun ok kn xr=> ?_
  refine pD (l:=ys) B.gen ⟨_,_,_,_,_,L,KX,ok,kn,⟨.head _,B.lt.1,B.lt.2,B.step.rest.hsize⟩,aj (.tail _ B.env.out) fun z q=> .tail _ (B.itr.priv.1 _ q),rfl,xr,hys,hs1,hs2,a.ok,fun s'' Lh v S r=>b9.now (K4.trans S) r⟩
noncomputable def vD(σ:Sg):Nat→It→Option Bool
 |0,_=>none
 |n+1,t=>(ay σ t).bind fun r=>r.elim (some false) fun p=>(bu σ p.1).bind fun b=>if b=true then some true else vD σ n p.2
theorem BD{R:Result→Shared→Prop}(hh:A.handled=none)(ok:c.Ok)(n:Nat): ∀(t:It) (s:Shared),vD σ n t=some b→aQ c ρ σ s.heap→Gd c s.heap→bC s.heap ρ t I a→
 (∀s',ad c I ρ s ρ σ s'→R (.ok (.ret (.bool b))) s')→codeAny (model c.prog c.w) A (.builtin "any.loop" ⟨[.ref a],[]⟩) R s:=by
 induction n with
 |zero=>exact fun u_ u_ e u_ u_ u_ u_=>no e
 |succ n ih=>
  intro t s e st g i hR;refine IS F.entry_any_loop ?_;rw[Jq JQ _];show II _ A.in1 (pyNext (.ref a)>>=_) _ _ s;refine ae e fun r hn e=> ?_
  and_intros
  refine im e (fun hr e=> ?_) fun p hr e=> ?_
  ·subst hr;obtain rfl:=IH e;exact IJ (It.pull0 (A:=A.in1) hh ok st g i hn fun KH KG=>IJ (IP (IK (hR KH KG))))
  ·subst hr;refine ae e fun b' hb e=> ?_;refine IJ (It.pull (A:=A.in1) hh ok st g i hn fun w KH KG rv Ls=> ?_);show II _ A.in1 (_>>=_) _ _ _;refine IJ (IO (bX (c:=c) KG.sto hb rv fun k=> ?_))
   have KJ:ad c I ρ KH ρ σ {KH with toks:=k}:=af.toks KG.sto KG.gd
   refine IJ (I6 ?_)
   cases b' with
   |true=>
    obtain rfl:=IH e;exact IJ (IP (IK (hR _ (KG.trans KJ))))
   |false=>exact IK ⟨IU JQ _,ih p.2 _ e KG.sto KG.gd Ls fun s' KV=>hR s' ((KG.trans KJ).trans KV)⟩
noncomputable def B9(σ:Sg)(xs:List IV):Option (aG IV):=(s_ xs).bind fun x=>(aC σ x.1).bind fun t=>(vD σ 4096 t).map fun b=> .ok (.v (.bool b)) σ
theorem xC{xs:List IV}{o:aG IV}(hh:A.handled=none)(ok:c.Ok)(st:aQ c ρ σ s.heap)(g:Gd c s.heap)(e:B9 σ xs=some o)(r:cQ s.heap ρ xs I vs):
 II (model c.prog c.w) A (call (.builtin "any") vs) (qr c I (fun h KF x v=> ∃J,nS h KF x J v∧ ∀a∈J,a∈I∨s.heap.objs.size≤a) ρ s o) (jz c I ρ s o) s:=by
 refine ae e fun x u_ e=>ae e fun t ht e=>aN e fun b hb e=> ?_;subst e;rw[x.2]at r
 cases r with
 |cons r rs n1=>
 cases rs using cQ.nilE
 refine Jl F.kind_any F.plain_any F.entry_any (F.args_any1 _) ?_;unfold Builtin.«any»
 and_intros
 refine IJ (m:=oneArg "any" _) (IK ?_)
 and_intros
 refine IJ (dG ok st g ht r fun KF J a s' S i k=> ?_);refine IK ⟨IU JQ _,BD (c:=c) (ρ:=KF) (σ:=σ) hh ok _ _ _ hb S.sto S.gd i fun s'' T=> ?_⟩
 exact⟨KF,ad.trans' S.D T fun z m=>(k z m).imp (fun q=>GP.mpr (.inl q)) id,[],.v .val,by simp⟩
variable (c)in
noncomputable def aJ(cf:cb):mE:=fun σ fv xs ks=>match fv with
 | .builtin id=>if id="any" then match ks with
  |[]=>B9 σ xs
  |_=>none
  else qX c cf σ fv xs ks
 |fv=>qX c cf σ fv xs ks
set_option tactic.hygienic true in
theorem pF{cf:cb}(hc:dF c (d+1) cf)(hc':dF c d cf):zq c (d+1) (aJ c cf):=by
 intro A ρ σ s fv xs ks I vs kv o e ok st g room r rk;unfold aJ at e
 split at e
 ·split at e
  ·rename_i id dw;subst dw
   split at e
   ·cases rk
    exact xC room.hand ok st g e r
   ·exact no e
  ·exact lF hc hc' e ok st g room r rk
 ·exact lF hc hc' e ok st g room r rk
theorem eg.down(r:eg c ρ A (d+1) h):eg c ρ A d h:=⟨r.hand,by have:=r.depth;exact rm0 ‹_›,by have:=r.units;exact ru0 ‹_›,r.frames⟩
theorem At.down(a:At c A env en ρ σ s (d+1)):At c A env en ρ σ s d:=⟨a.ok,a.st,a.gd,a.er,a.room.down⟩
theorem bF.up(h:bF c d f):bF c (d+1) f:=fun e a=>h e a.down
theorem eM.up{f:lA}(h:eM c d f):eM c (d+1) f:=fun e a=>h e a.down
theorem ic.up{f:iR}(h:ic c d f):ic c (d+1) f:=fun e a=>h e a.down
theorem gi.up{f:eC}(h:gi c d f):gi c (d+1) f:=fun e a tp=>h e a.down tp
theorem dF.up{f:cb}(h:dF c d f):dF c (d+1) f:=fun e ok st g room rx rk=>h e ok st g room.down rx rk
noncomputable def f_(o:Option (aG IV)):Option (aG V):=o.bind fun r=> @aG.casesOn IV (fun u_=>Option (aG V)) r (fun x σ=> @IV.casesOn (fun u_=>Option (aG V)) x (fun x=>some (.ok x σ)) fun u_=>none) fun cls σ=>some (.exc cls σ)
theorem au.unlift{t:Sem Value}{o:Option (aG IV)}{o':aG V}(e:f_ o=some o')(h: ∀Lk,o=some Lk→au c (Cy n) A t ρ s Lk):bn c A t ρ s o':=by
 refine ae e fun Lk ho e=> ?_
 cases Lk with
 |ok x KE=>
  cases x with
  |v x=>
   obtain rfl:=IH e
   refine au.go (h _ ho) (fun x KD q v s' KF S r=> ?_) (fun u_ u_ q=>by exact iQ q)
   refine jF q fun zz1 zz2=> ?_;subst zz1;subst zz2;refine aL r fun I r u_=> ?_
   cases r with
   |v r=>exact⟨KF,S,r⟩
  |it t=>exact no e
 |exc cls KE=>
  obtain rfl:=IH e
  refine au.go (h _ ho) (fun x KD q=>by exact EO q) (fun u_ u_ q e' s' fl=> ?_)
  refine Cw q fun zz1 zz2=> ?_;subst zz1;subst zz2;exact fl.as
theorem bn.lift{t:Sem Value}{o:Option (aG V)}(e:gv o=some o')(h: ∀Lk,o=some Lk→bn c A t ρ s Lk):au c (Cy n) A t ρ s o':=by
 refine aN e fun r hr e=> ?_;subst e
 cases r with
 |ok x KE=>
  refine au.go (h _ hr) (fun x KD q v s' KF S r=> ?_) (fun u_ u_ q=>by exact iQ q)
  refine jF q fun zz1 zz2=> ?_;subst zz1;subst zz2;exact⟨KF,S,[],.v r,fun u_ m=>(Hg m).elim⟩
 |exc cls KE=>
  refine au.go (h _ hr) (fun x KD q=>by exact EO q) (fun u_ u_ q e' s' fl=> ?_)
  refine Cw q fun zz1 zz2=> ?_;subst zz1;subst zz2;exact fl.as
set_option genInjectivity false in
structure Lv where
 ev:fP
 iv:iR
 tr:lA
 exs:eC
 cf:cb
variable (c)in
structure gC(n:Nat)(L:Lv):Prop where
 ev:bF c n L.ev
 iv:ic c n L.iv
 tr:eM c n L.tr
 exs:gi c n L.exs
 cf:dF c n L.cf
theorem gC.evU{L:Lv}(k:gC c d L):bF c (d+1) L.ev:=bF.up (f:=L.ev) k.ev
theorem gC.ivU{L:Lv}(k:gC c d L):ic c (d+1) L.iv:=ic.up (f:=L.iv) k.iv
theorem gC.trU{L:Lv}(k:gC c d L):eM c (d+1) L.tr:=eM.up (f:=L.tr) k.tr
theorem gC.exsU{L:Lv}(k:gC c d L):gi c (d+1) L.exs:=gi.up (f:=L.exs) k.exs
theorem gC.cfU{L:Lv}(k:gC c d L):dF c (d+1) L.cf:=dF.up (f:=L.cf) k.cf
noncomputable def cK(l:List Expr):Option (Expr×Expr×Expr×List Expr×Scope):=(s_ l).bind fun e=>(F9 e.1).bind fun p=>(s_ p.1.2.1).bind fun g=>if g.1.is_async=0 then some (p.1.1,g.1.target,g.1.iter,g.1.ifs,p.1.2.2.1)else none
noncomputable def mw(func:Expr)(args:List Expr)(kws:List Keyword):Option (Str×Expr×Expr×Expr×List Expr×Scope):=(ik func).bind fun p=>if kws.isEmpty=true then(cK args).map fun q=>(p.1.1,q)else none
theorem wd{q:Expr×Expr×Expr×List Expr×Scope}(h:cK args=some q): ∃gp,args=[.GeneratorExp q.1 [⟨q.2.1,q.2.2.1,q.2.2.2.1,0⟩] q.2.2.2.2 gp]:=by
 refine eX h fun e h=>eX h fun p h=>eX h fun g h=>bI h fun hn h=> ?_;have w:=IH h;subst w;exact⟨p.1.2.2.2,e.2.trans (congrArg (fun x=>[x]) (p.2.trans (congrArg (fun l=>Expr.GeneratorExp p.1.1 l p.1.2.2.1 p.1.2.2.2) (g.2.trans (congrArg (fun x=>[x]) (cp0 hn))))))⟩
theorem uA{q:Str×Expr×Expr×Expr×List Expr×Scope}(h:mw func args kws=some q):
 ∃np gp,func= .Name q.1 np∧args=[.GeneratorExp q.2.1 [⟨q.2.2.1,q.2.2.2.1,q.2.2.2.2.1,0⟩] q.2.2.2.2.2 gp]∧kws=[]:=by
 refine eX h fun p h=>bI h fun hk h=>aN h fun q h1 h2=> ?_;subst h2;exact oE (wd h1) fun gp w=>⟨p.1.2,gp,p.2,w,Hv.mp hk⟩
variable (c)in
noncomputable def ck(L:Lv)(en:En)(σ:Sg)(func:Expr)(args:List Expr)(kws:List Keyword)(pos:Pos):Option (aG IV):=(mw func args kws).elim (oJ c L.iv L.ev (aJ c L.cf) en σ func args kws pos) fun q=>gv (de c L.iv L.tr L.ev en σ q.1 q.2.1 q.2.2.1 q.2.2.2.1 q.2.2.2.2.1 q.2.2.2.2.2)
theorem j6{L:Lv}{o:aG IV}(ok:gC c d L)(e:ck c L en σ func args kws pos=some o)(a:At c A env en ρ σ s (d+1)):au c (Cy s.heap.objs.size) A (eval (.Call func args kws pos) env) ρ s o:=by
 refine im e (fun u_ e=>xI ok.ivU ok.evU (pF ok.cfU ok.cf) e a) fun q hg e=> ?_;refine dC (uA hg) fun np gp w1 w2 w3=> ?_;rw[w1,w2,w3];exact bn.lift e fun Lk h=>oV ok.ivU ok.tr ok.ev h a
noncomputable def unS(f:fP)(en:En)(σ:Sg)(op:UnaryOp)(x:Expr):Option (aG V):=match op with
 | .USub=>aw (f en σ x) fun v KE=>(cY v).map fun i=> .ok (.int (-i)) KE
 | .Not=>aw (f en σ x) fun v KE=>(bu KE v).map fun b=> .ok (.bool (!b)) KE
 |_=>none
variable (c)in
noncomputable def evS(L:Lv):fP:=fun en σ e=> @Expr.casesOn (fun u_=>Option (aG V)) e (fun op es u_=>jc L.ev en op σ es) (fun u_ u_ u_=>none) (fun l op r u_=>yr L.ev en σ l op r) (fun op x u_=>unS L.ev en σ op x) (fun u_ u_ u_ u_=>none) (fun t b e' u_=>aw (L.tr en σ t) fun v KE=>if v then L.ev en KE b else L.ev en KE e') (fun u_ u_ u_=>none) (fun u_ u_ u_=>none) (fun elt gens scope u_=>cj L.iv L.tr L.ev en σ elt gens scope) (fun u_ u_ u_ u_=>none) (fun u_ u_ u_ u_ u_=>none) (fun u_ u_ u_ u_=>none) (fun u_ u_=>none) (fun u_ u_=>none) (fun u_ u_=>none) (fun l ops es u_=>gB L.ev en σ l ops es) (fun func args kws pos=>f_ (ck c L en σ func args kws pos)) (fun u_ u_ u_ u_=>none) (fun u_ u_=>none) (fun k u_ u_=>(n_ k).map fun y=> .ok y σ) (fun v n u_=>sH (c:=c) L.ev L.cf en σ v n) (fun v sl u_=>Dq L.ev en σ v sl) (fun u_ u_=>none) (fun x u_=>(aR c en x).map fun y=> .ok y σ) (fun es u_=>aw (fg L.ev en σ es) fun xs KE=>if xs.length≤2^20 then some (.ok (.lst KE.length) (KE++[.lst xs]))else none) (fun es u_ u_=>aw (fg L.ev en σ es) fun xs KE=>if xs.length≤2^20 then some (.ok (.tup xs) KE)else none) (fun u_ u_ u_ u_=>none)
theorem y9{L:Lv}(ok:gC c d L):bF c (d+1) (evS c L):=by
 intro A env en ρ σ s e o h a
 cases e with
 |Constant k n p=>refine aL (IE.mp h) fun y hy zz2=> ?_;subst zz2;exact lS a.st a.gd hy
 |Name x p=>refine aL (IE.mp h) fun y hy zz2=> ?_;subst zz2;exact hH a.ok a.st a.gd a.er hy
 |BinOp l op r p=>exact tQ ok.evU h a
 |UnaryOp op x p=>
  cases op with
  |USub=>exact zL ok.evU h a
  |Not=>exact yZ ok.evU h a
  |_=>exact no h
 |IfExp t b e' p=>exact t6 ok.evU ok.trU h a
 |Tuple es k p=>exact tG ok.evU h a
 |List es p=>exact wD ok.evU h a
 |Compare l ops es p=>exact pg ok.evU h a
 |BoolOp op es p=>exact rz ok.evU h a
 |Subscript v sl p=>exact mJ ok.evU h a
 |Attribute v n p=>exact mW ok.evU ok.cf h a
 |ListComp elt gens scope p=>exact ju ok.ivU ok.trU ok.evU h a
 |Call func args kws p=>exact au.unlift h fun Lk q=>j6 ok q a
 |_=>exact no h
variable (c)in
noncomputable def ivS(L:Lv):iR:=fun en σ e=>(vG e).elim (gv (L.ev en σ e)) fun p=>ck c L en σ p.1.1 p.1.2.1 p.1.2.2.1 p.1.2.2.2
theorem yk{L:Lv}(ok:gC c d L):ic c (d+1) (ivS c L):=by
 intro A env en ρ σ s e o h a;refine Aw h (fun u_ h=>bn.lift h fun Lk q=>ok.evU q a) fun p h=> ?_;rw[p.2];exact j6 ok h a
variable (c)in
noncomputable def Dv(L:Lv)(en:En)(σ:Sg)(ts:List Expr)(e:Expr):Option aM:=(s_ ts).bind fun t=>(lcO e).elim (hW c L.ev en σ t.1 e) fun p=>(ik t.1).bind fun q=>
 if bH en q.1.1=true then bQ en (cj L.iv L.tr L.ev en σ p.1.1 p.1.2.1 p.1.2.2.1) fun y KD=>some (.ok .next (en.set q.1.1 y) KD)else none
theorem wH{L:Lv}{ts:List Expr}{o:aM}(ok:gC c d L)(h:Dv c L en σ ts e=some o)(a:At c A env en ρ σ s (d+1)):eE c A (exec (.Assign ts e pos) env) env ρ s o:=by
 refine eX h fun t h=>Aw h (fun u_ h=> ?_) fun p h=>eX h fun q h=>bI h fun hx h=> ?_
 ·rw[t.2];exact mO ok.evU h a
 ·rw[t.2,p.2,q.2];exact lf ok.ivU ok.trU ok.evU hx h a
variable (c)in
noncomputable def Et(L:Lv)(en:En)(σ:Sg)(e:Expr):Option aM:=(vG e).bind fun p=>(ik p.1.1).bind fun q=>(s_ p.1.2.1).bind fun x=>if p.1.2.2.1.isEmpty=true then xA c L.ev en σ q.1.1 x.1 else none
theorem xw{L:Lv}{o:aM}(ok:gC c d L)(h:Et c L en σ e=some o)(a:At c A env en ρ σ s (d+1)):eE c A (exec (.Raise (some e) none pos) env) env ρ s o:=by
 refine eX h fun p h=>eX h fun q h=>eX h fun x h=>bI h fun hk h=> ?_;rw[p.2,q.2,x.2,Hv.mp hk];exact ub ok.evU h a
variable (c)in
noncomputable def aT(L:Lv):EQ:=fun en σ st=> @Stmt.casesOn (fun u_=>Option aM) st (fun u_ u_ u_ u_ u_ u_ u_ u_ u_ u_=>none) (fun u_ u_ u_ u_ u_ u_ u_ u_ u_ u_=>none) (fun u_ u_ u_ u_ u_ u_ u_ u_ u_ u_ u_=>none) (fun e u_=>e.elim (some (.ok (.ret .none) en σ)) fun e=>bQ en (L.ev en σ e) fun x KD=>some (.ok (.ret x) en KD)) (fun u_ u_=>none) (fun ts e u_=>Dv c L en σ ts e) (fun u_ u_ u_ u_ u_ u_ u_=>none) (fun t op e u_=>(ik t).bind fun p=>y8 L.ev en σ p.1.1 op e) (fun u_ u_ u_ u_ u_=>none) (fun target iter body orelse u_=>lX L.iv (eL c L.ev 8) L.exs en σ target iter body orelse) (fun u_ u_ u_ u_ u_=>none) (fun test body orelse u_=>jG L.tr L.exs test body orelse az en σ) (fun t b e' u_=>bQ en (L.tr en σ t) fun x KD=>if x then L.exs en KD b else L.exs en KD e') (fun u_ u_ u_=>none) (fun u_ u_ u_=>none) (fun u_ u_ u_=>none) (fun e m u_=>e.bind fun e=>m.elim (Et c L en σ e) fun u_=>none) (fun body handlers orelse fin u_=>if(orelse.isEmpty&&fin.isEmpty)=true then rH c L.exs en σ body handlers else none) (fun u_ u_ u_ u_ u_=>none) (fun test m u_=>m.elim (kF L.tr en σ test) fun u_=>none) (fun u_ u_=>none) (fun u_ u_ u_ u_=>none) (fun u_ u_=>none) (fun u_ u_=>none) (fun e u_=>if cq e=true then bQ en (L.ev en σ e) fun y KD=>if aY y then some (.ok .next en KD)else none else none) (fun u_=>some (.ok .next en σ)) (fun u_=>some (.ok .brk en σ)) (fun u_=>some (.ok .cont en σ))
theorem xZ{L:Lv}(ok:gC c d L):C3 c (d+1) (aT c L):=by
 intro A env en ρ σ s e o h a tp
 cases e with
 |Return e p=>
  cases e with
  |none=>obtain rfl:=IH h;exact kC a
  |some e=>exact qM ok.evU h a
 |If t b e' p=>exact By ok.trU ok.exsU h a tp
 |Assign ts e p=>exact wH ok h a
 |AugAssign t op e p=>
  refine eX h fun q h=> ?_;rw[q.2];exact zD ok.evU h a
 |For target iter body orelse p=>exact y7 ok.ivU (pC ok.evU 8) ok.exsU h a tp
 |While test body orelse p=>exact ux ok.trU ok.exsU h a tp
 |Assert test m p=>
  cases m with
  |none=>exact rG ok.trU h a
  |some=>exact no h
 |Raise e m p=>
  cases e with
  |none=>exact no h
  |some e=>
   cases m with
   |none=>exact xw ok h a
   |some=>exact no h
 |Try body handlers orelse fin p=>
  refine bI h fun hk h=> ?_;have hk:=Gi.mp hk;obtain rfl:=Hv.mp hk.1;obtain rfl:=Hv.mp hk.2;exact zd ok.exsU h a tp
 |Expr e p=>
  change(if cq e=true then _ else none)=_ at h
  by_cases hn:cq e=true
  ·rw[if_pos hn]at h;exact v_ ok.evU hn h a
  ·rw[if_neg hn]at h;exact no h
 |Pass p=>obtain rfl:=IH h;exact vA a
 |Break p=>obtain rfl:=IH h;exact th a
 |Continue p=>obtain rfl:=IH h;exact oQ a
 |_=>exact no h
variable (c)in
noncomputable def lvS(L:Lv):Lv:=⟨evS c L,ivS c L,Cc L.ev L.tr,BX (aT c L),w9 c L.exs⟩
variable (c)in
noncomputable def lv:Nat→Lv
 |0=>⟨fun u_ u_ u_=>none,fun u_ u_ u_=>none,fun u_ u_ u_=>none,fun u_ u_ u_=>none,fun u_ u_ u_ u_=>none⟩
 |n+1=>lvS c (lv n)
theorem C6(n:Nat):gC c n (lv c n):=by
 induction n with
 |zero=>
  constructor
  ·intro A env en ρ σ s e o h;exact no h
  ·intro A env en ρ σ s e o h;exact no h
  ·intro A env en ρ σ s e o h;exact no h
  ·intro A env en ρ σ s e o h;exact no h
  ·intro A ρ σ s a xs ks vs kv o h;exact no h
 |succ n ih=>exact⟨y9 ih,yk ih,fun e a=>yW ih.evU ih.trU e a,fun e a tp=>wC (xZ ih) tp e a,uI ih.exs⟩
end
noncomputable def cx(q:Program)(w:World)(n₀:Nat)(T:List Addr)(mg mb:Str→Option Value)(base:Heap)(P:Params):Cx:=⟨q,w,KK P,n₀,T,CC,mg,mb,base,NM⟩
section
theorem Ew{ks:List (Str×V)}{ds:List Value}(h1:lY c.K a=some fd)(h2:kH c.K fd=true)(h3:fd.body= .stmts body)(h4:jX c.K fd=some ds)
 (h5:eW (fd.params.args.map (·.arg)) xs ks (ds.map xM)=some binds) (h6:hZ fd.scope.names binds=true) (h:(lv c n).exs ⟨fd.scope.names,binds.reverse,[],ll fd.code⟩ σ body=some so) (ho:il so=some o):(lv c (n+1)).cf σ a xs ks=some o:=by
 show w9 c (lv c n).exs σ a xs ks=some o;show(lY c.K a).bind _=_;rw[h1]
 refine(if_pos h2:(if _ then _ else none)=_).trans ?_
 rw[h3];show(jX c.K fd).bind _=_;rw[h4];show(eW _ _ _ _).bind _=_;rw[h5]
 refine(if_pos h6:(if _ then _ else none)=_).trans ?_
 rw[h];exact ho
theorem aq{o:aM}(h:aT c (lv c n) en σ st=some o):(lv c (n+1)).exs en σ [st]=some o:=by
 show(aT c (lv c n) en σ st).bind _=some o;rw[h]
 cases o with
 |ok f en' KD=>cases f<;>rfl
 |exc=>rfl
theorem ab{r:List Stmt}{o:aM}(h:aT c (lv c n) en σ st=some (.ok .next en' KD))(k:(lv c (n+1)).exs en' KD r=some o):(lv c (n+1)).exs en σ (st::r)=some o:=by
 show(aT c (lv c n) en σ st).bind _=some o;rw[h];exact k
theorem vH{p:Pos}{v:V}(h:(lv c n).ev en σ e=some (.ok v KD)):aT c (lv c n) en σ (.Return (some e) p)=some (.ok (.ret v) en KD):=by
 show bQ en ((lv c n).ev en σ e) _=_;rw[h];rfl
theorem Bp{v:V}(h:mw func args kws=some (fn,elt,target,iter,ifs,scope))
 (k:de c (lv c n).iv (lv c n).tr (lv c n).ev en σ fn elt target iter ifs scope=some (.ok v KD)):(lv c (n+1)).ev en σ (.Call func args kws pos)=some (.ok v KD):=by
 show f_ (ck c (lv c n) en σ func args kws pos)=_;unfold ck;rw[h];exact congrArg (fun o=>f_ (gv o)) k
noncomputable def e_(c:Cx)(en:En)(iter:Expr)(scope:Scope):Bool:=(fC iter&&scope.kind== .function&& !scope.isCoroutine&&dU scope.names en&&scope.names.lookup (".0":Str)==some .local)&&(match en.code with|some cc=>(c.cs.lookup cc).isSome|none=>false)
theorem fQ{x:IV}(hf:e_ c en iter scope=true)(hn:aR c en fn=some (.val fv))(hx:(lv c n).iv en σ iter=some (.ok x KE))(ht:aC KE x=some t):
 de c (lv c n).iv (lv c n).tr (lv c n).ev en σ fn elt target iter ifs scope=sD fv (mK (du 8) (lv c n).tr (lv c n).ev target ifs elt az) (dD scope.names en) KE t:=by
 unfold e_ at hf;refine oA (Gi.mp hf) fun h1 h2=> ?_;unfold de;rw[if_pos h1,hn]
 cases hc:en.code with
 |none=>rw[hc]at h2;exact bM h2
 |some cc=>
  rw[hc]at h2;refine oE (IF.mp h2) fun P hP=> ?_;show(c.cs.lookup cc).bind _=_;rw[hP,hx];show(aC KE x).bind _=_;rw[ht];rfl
theorem tT{x:IV}(hf:e_ c en iter scope=true)(hn:aR c en fn=some (.val (.type "tuple")))(hx:(lv c n).iv en σ iter=some (.ok x KE))(ht:aC KE x=some t)
 (hd:d5 (mK (du 8) (lv c n).tr (lv c n).ev target ifs elt az) az (dD scope.names en) KE t=some (l,KI)) (hs:bq l=true) (hl:l.length≤2^20):de c (lv c n).iv (lv c n).tr (lv c n).ev en σ fn elt target iter ifs scope=some (.ok (.tup l) KI):=by
 rw[fQ hf hn hx ht];show yM _ _ _ _=_;unfold yM;rw[hd]
 show(if(bq l&&decide (l.length≤2^20))=true then _ else none)=_
 rw[hs,decide_eq_true hl];rfl
theorem ty{P:En→Prop}{ts:Nat→It}(h: ∀i y en,ys[i]? =some y→P en→ ∃en',P en'∧nx en σ (ts i)=some (some (y,en',ts (i+1)),σ))(hend: ∀en,P en→nx en σ (ts ys.length)=some (none,σ)):
 ∀(m k i:Nat) (en:En),i+m=ys.length→P en→d5 nx (m+k+1) en σ (ts i)=some (ys.drop i,σ):=by
 intro m
 induction m with
 |zero=>
  intro k i en hi hp
  have hi:i=ys.length:=by assumption
  subst hi
  rw[show 0+k+1=k+1 from by exact z1k]
  show(nx en σ (ts ys.length)).bind _=_;rw[hend en hp,List.drop_length];rfl
 |succ m ih=>
  intro k i en hi hp
  have hlt:i<ys.length:=by exact EU ‹_›
  refine aL (h i ys[i] en (G3 hlt) hp) fun en' hp' he=> ?_
  rw[show m+1+k+1=(m+k+1)+1 from by exact mac]
  have e:=ih k (i+1) en' (Ej ‹_›) hp';generalize m+k+1=q at e⊢;show(nx en σ (ts i)).bind _=_;rw[he];show(d5 nx q en' σ (ts (i+1))).map _=_;rw[e];rw[List.drop_eq_getElem_cons hlt];rfl
theorem tR{P:En→Prop}{ts:Nat→It}(h: ∀i y en,ys[i]? =some y→P en→ ∃en',P en'∧nx en σ (ts i)=some (some (y,en',ts (i+1)),σ))(hend: ∀en,P en→nx en σ (ts ys.length)=some (none,σ))(hl:ys.length<az)(hp:P en):
 d5 nx az en σ (ts 0)=some (ys,σ):=by
 have:=ty h hend ys.length (az-1-ys.length) 0 en (Ix _) hp
 rw[show ys.length+(az-1-ys.length)+1=az from by exact EN ‹_›]at this
 simpa using this
theorem vz(hn:ay σ t=some (some (x,t')))(ha:g target en σ x=some (KU,σ))(hf:f KU σ elt=some (.ok y σ)):mK g tr f target [] elt az en σ t=some (some (y,KU,t'),σ):=by
 show mK g tr f target [] elt (4095+1) en σ t=_;show(ay σ t).bind _=_;rw[hn];show(g target en σ x).bind _=_;rw[ha];show(f KU σ elt).bind _=_;rw[hf];rfl
theorem vr(hn:ay σ t=some none):mK g tr f target ifs elt az en σ t=some (none,σ):=by
 show mK g tr f target ifs elt (4095+1) en σ t=_;show(ay σ t).bind _=_;rw[hn];rfl
theorem BM(e:ay σ t=some none):bh σ (t::ts)=some none:=by rw[jd,e];rfl
theorem wN{ts':List It}(e:ay σ t=some (some (x,t')))(k:bh σ ts=some (some (xs,ts'))):bh σ (t::ts)=some (some (x::xs,t'::ts')):=by rw[jd,e];show(bh σ ts).map _=_;rw[k];rfl
theorem E5(e:ay σ t=some (some (x,t')))(k:bh σ ts=some none):bh σ (t::ts)=some none:=by rw[jd,e];show(bh σ ts).map _=_;rw[k];rfl
theorem nxz{ts':List It}(h:ts.length.ble 64=true)(e:bh σ ts=some (some (x::xs,ts'))):ay σ (.zip ts)=some (some (.tup (x::xs),.zip ts')):=by rw[w_,if_pos (H9 h),e];rfl
theorem Cl(h:ts.length.ble 64=true)(e:bh σ ts=some none):ay σ (.zip ts)=some none:=by rw[w_,if_pos (H9 h),e];rfl
theorem nxq(h:l[i]? =some x):ay σ (.seq l i)=some (some (x,.seq l (i+1))):=by rw[u9,h];rfl
theorem nxe(h:l[i]? =none):ay σ (.seq l i)=some none:=by rw[u9,h];rfl
theorem nxl(g:aI σ k=some l)(h:l[i]? =some x):ay σ (.lst k i)=some (some (x,.lst k (i+1))):=by rw[wW,g];show some (xN l[i]? _)=_;rw[h];rfl
theorem CN(g:aI σ k=some l)(h:l[i]? =none):ay σ (.lst k i)=some none:=by rw[wW,g];show some (xN l[i]? _)=_;rw[h];rfl
theorem Ap{l:List α}{f:α→β}{a:α}(h:l[i]? =some a):(l.map f)[i]? =some (f a):=by rw[Hc,h];rfl
theorem gnl{l:List α}:l[l.length]? =none:=List.getElem?_eq_none (HY _)
end
section
theorem l_{o:Option (aG α)}{k:α→Sg→Option (aG β)}{a:α}{r:Option (aG β)}(h:o=some (.ok a σ))(g:k a σ=r):aw o k=r:=by rw[h];exact g
theorem Fc{o:Option (aG α)}{k:α→Sg→Option (aG β)}{x:String}(h:o=some (.exc x σ)):aw o k=some (.exc x σ):=by rw[h];rfl
theorem AU{o:Option α}{f:α→Option β}{a:α}{r:Option β}(h:o=some a)(g:f a=r):o.bind f=r:=by rw[h];exact g
theorem mpd{o:Option α}{f:α→β}{a:α}{r:Option β}(h:o=some a)(g:some (f a)=r):o.map f=r:=by rw[h];exact g
theorem fY{x:Str}{p:Pos}(h:aR c en x=some y):(lv c (n+1)).ev en σ (.Name x p)=some (.ok y σ):=by
 show(aR c en x).map _=_;rw[h];rfl
theorem Bu{l r:Expr}{p:Pos}{z:V}(h1:(lv c n).ev en σ l=some (.ok x KE))(h2:(lv c n).ev en KE r=some (.ok y KI))(h3:m4 KI op x y=some (z,K3)):(lv c (n+1)).ev en σ (.BinOp l op r p)=some (.ok z K3):=by
 show yr _ en σ l op r=_;exact l_ h1 (l_ h2 (mpd h3 rfl))
theorem q8{l r:Expr}{p:Pos}{cls:String}(h1:(lv c n).ev en σ l=some (.ok x KE))(h2:(lv c n).ev en KE r=some (.exc cls KI)):(lv c (n+1)).ev en σ (.BinOp l op r p)=some (.exc cls KI):=by
 show yr _ en σ l op r=_;exact l_ h1 (Fc h2)
theorem zS{t b:Expr}{p:Pos}{v:Bool}(h1:(lv c n).tr en σ t=some (.ok v KE))(h2:(lv c n).ev en KE (if v then b else e)=some o):(lv c (n+1)).ev en σ (.IfExp t b e p)=some o:=by
 show aw ((lv c n).tr en σ t) _=_;refine l_ h1 ?_
 cases v<;>exact h2
theorem gO:fg f en σ []=some (.ok [] σ):=rfl
theorem bA(hs:al [e]=true)(h1:f en σ e=some (.ok x KE))(h2:fg f en KE es=some (.ok xs KI)):fg f en σ (e::es)=some (.ok (x::xs) KI):=by
 show(if dg e=true then none else aw (f en σ e) fun x KE=>aw (fg f en KE es) fun xs KI=>some (.ok (x::xs) KI))=_
 rw[if_neg (bk hs).1,h1];show aw (fg f en KE es) _=_;rw[h2];rfl
theorem gK{p:Pos}(h:fg (lv c n).ev en σ es=some (.ok xs KE))(hl:xs.length≤2^20):(lv c (n+1)).ev en σ (.Tuple es k p)=some (.ok (.tup xs) KE):=by
 show aw (fg (lv c n).ev en σ es) _=_;exact l_ h (if_pos hl)
theorem yB{p:Pos}(h:fg (lv c n).ev en σ es=some (.ok xs KE))(hl:xs.length≤2^20):(lv c (n+1)).ev en σ (.List es p)=some (.ok (.lst KE.length) (KE++[.lst xs])):=by
 show aw (fg (lv c n).ev en σ es) _=_;exact l_ h (if_pos hl)
theorem n0{p:Pos}(hp:aU e=true)(h:(lv c n).ev en σ e=some (.ok x KE))(hg:ji c KE x name=some (.val y)):(lv c (n+1)).ev en σ (.Attribute e name p)=some (.ok y KE):=by
 show sH _ _ en σ e name=_;exact(if_pos hp).trans (l_ h (AU hg rfl))
theorem zK{p:Pos}{f:Addr}(hp:aU e=true)(h:(lv c n).ev en σ e=some (.ok x KE))(hg:ji c KE x name=some (.prop f))(hc:(lv c n).cf KE f [x] []=some (.ok y KI))(hy:db y=true):(lv c (n+1)).ev en σ (.Attribute e name p)=some (.ok y KI):=by
 show sH _ _ en σ e name=_;exact(if_pos hp).trans (l_ h (AU hg (AU hc (if_pos hy))))
theorem sP{C:Nat}{attr:Option Value}(hk:σ[k]? =some (.dct fs))(h1:(plainGet c.K C name&&hasDictIn c.K C)=true)(h2:findIn c.K (.ref C) name=some attr)(h3:ez fs name=some y)(h4:(noGet c.K attr&&db y)=true):ji c σ (.inst C k) name=some (.val y):=by
 show(fH σ k).bind _=_;rw[lQ hk]
 show(if _ then _ else none)=_
 rw[if_pos h1,h2];show gb _ _ _ _=_;unfold gb;rw[h3];exact if_pos h4
theorem ql{p:Pos}{cls:String}(h:(lv c n).ev en σ e=some (.exc cls KD)):aT c (lv c n) en σ (.Return (some e) p)=some (.exc cls en KD):=by
 show bQ en ((lv c n).ev en σ e) _=_;rw[h];rfl
theorem Db{t:Expr}{b e:List Stmt}{p:Pos}{v:Bool}{o:aM}(h1:(lv c n).tr en σ t=some (.ok v KE))(h2:(lv c n).exs en KE (if v then b else e)=some o):aT c (lv c n) en σ (.If t b e p)=some o:=by
 show bQ en ((lv c n).tr en σ t) _=_;simp only[bQ,h1]
 cases v<;>exact h2
theorem sW{t:Expr}{p:Pos}{v:Bool}(h:(lv c n).tr en σ t=some (.ok v KE)):aT c (lv c n) en σ (.Assert t none p)=some (if v then .ok .next en KE else .exc "AssertionError" en KE):=by
 show kF _ en σ t=_;simp only[kF,bQ,h]
 cases v<;>rfl
theorem BN{x:Str}{p:Pos}(hc:cq e=true)(hx:bH en x=true)(h:(lv c n).ev en σ e=some (.ok y KE)):aT c (lv c n) en σ (.Assign [.Name x xp] e p)=some (.ok .next (en.set x y) KE):=by
 have:hW c (lv c n).ev en σ (.Name x xp) e=some (.ok .next (en.set x y) KE):=by
  unfold hW;refine dP hc ?_;show bQ en _ _=_;rw[h];show Option.map _ (eL c (lv c n).ev (7+1) (.Name x xp) en KE y)=_
  show Option.map _ (if bH en x=true then _ else none)=_
  rw[if_pos hx];rfl
 cases e<;>first
  |exact this
  |exact bM hc
theorem yg{x:Str}{p cp:Pos}{gens:List Comprehension}(hx:bH en x=true)(h:cj (lv c n).iv (lv c n).tr (lv c n).ev en σ elt gens scope=some (.ok y KE)):aT c (lv c n) en σ (.Assign [.Name x xp] (.ListComp elt gens scope cp) p)=some (.ok .next (en.set x y) KE):=by
 show(if bH en x=true then _ else none)=_
 refine dP hx ?_;simp only[bQ,h]
end
section
noncomputable def ww(t:It)(xs:List V):Prop:= ∃ts:Nat→It,ts 0=t∧ ∀σ:Sg,(∀i x,xs[i]? =some x→ay σ (ts i)=some (some (x,ts (i+1))))∧ay σ (ts xs.length)=some none
theorem ww.rng(a b:Int):ww (.rng a b 1) ((GV b.toNat).map fun(i:Nat)=>V.int (a+(i:Int))):=by
 refine⟨fun i=> .rng (a+i) (b-i) 1,by simp,fun σ=>⟨fun i x h=> ?_,?_⟩⟩
 ·have hlt:i<b.toNat:=by
   have:=(G1.mp h).1;simpa using this
  have hx:x= .int (a+i):=by simpa [Hc,List.getElem?_range hlt]using h.symm
  subst hx
  have h0:(0:Int)<b-i:=by omega
  have e1:a+(i:Int)+1=a+((i+1:Nat):Int):=by exact scs
  have e2:b-(i:Int)-1=b-((i+1:Nat):Int):=by exact sct
  rw[qI,if_pos h0,e1,e2]
 ·have h0: ¬(0:Int)<b-((((GV b.toNat).map fun(i:Nat)=>V.int (a+(i:Int))).length:Nat):Int):=by simp;omega
  rw[qI,if_neg h0]
end
section
theorem AG(hc: ∀f a k p,e≠ .Call f a k p)(h:(lv c n).ev en σ e=some o)(ho:gv (some o)=some o'):(lv c (n+1)).iv en σ e=some o':=by
 have:(lv c (n+1)).iv en σ e=gv ((lv c n).ev en σ e):=by
  cases e<;>first|rfl|exact absurd rfl (hc _ _ _ _)
 rw[this,h,ho]
theorem gh{f:iR}:dZ f en σ []=some (.ok [] σ):=rfl
theorem aO{f:iR}{x:IV}{xs:List IV}(hs:al [e]=true)(h1:f en σ e=some (.ok x KE))(h2:dZ f en KE es=some (.ok xs KI)):dZ f en σ (e::es)=some (.ok (x::xs) KI):=by
 show(if dg e=true then none else aw (f en σ e) fun x KE=>aw (dZ f en KE es) fun xs KI=>some (.ok (x::xs) KI))=_
 rw[if_neg (bk hs).1,h1];show aw (dZ f en KE es) _=_;rw[h2];rfl
theorem fD{iv:iR}{xs:List IV}{ks:List (Str×V)}{o:aG IV}(hc:(al args&&ii kws&&bK c.K fv)=true)(h1:dZ iv en σ args=some (.ok xs KE))(h2:ue f en KE kws=some (.ok ks KI))
 (h3:cv KI fv (first.map .v++xs) ks=some o):fh c iv f cv en σ fv first args kws=some o:=by
 unfold fh;refine dP hc ?_;exact l_ h1 (l_ h2 h3)
theorem jQ{x:Str}{np:Pos}{o:aG IV}(hg:mw (.Name x np) args kws=none)(hx:aR c en x=some (.val fv))(h:fh c (lv c (n+1)).iv (lv c (n+1)).ev (aJ c (lv c (n+1)).cf) en σ fv [] args kws=some o):
 ck c (lv c (n+1)) en σ (.Name x np) args kws pos=some o:=by
 unfold ck;rw[hg];show aw ((lv c (n+1)).ev en σ (.Name x np)) _=_;rw[fY hx];exact h
theorem hV{apos:Pos}{o:aG IV}(hp:(aU ob&&apos.endLine==pos.line&&decide (args.length+kws.length<20)&&al args&&ii kws)=true)(hx:(lv c n).ev en σ ob=some (.ok x KE))
 (hm:iA c KE x name=some (fv,first)) (h:fh c (lv c n).iv (lv c n).ev (aJ c (lv c n).cf) en KE fv first args kws=some o):ck c (lv c n) en σ (.Attribute ob name apos) args kws pos=some o:=by
 change(if(aU ob&&apos.endLine==pos.line&&decide (args.length+kws.length<20)&&al args&&ii kws)=true then aw ((lv c n).ev en σ ob) (fun x KE=>(iA c KE x name).bind fun q=>fh c (lv c n).iv (lv c n).ev (aJ c (lv c n).cf) en KE q.1 q.2 args kws)else none)=_
 refine dP hp ?_;exact l_ hx (AU hm h)
theorem y_{o:aG IV}{o':aG V}(h:ck c (lv c n) en σ func args kws pos=some o)(ho:f_ (some o)=some o'):(lv c (n+1)).ev en σ (.Call func args kws pos)=some o':=by
 show f_ (ck c (lv c n) en σ func args kws pos)=_;rw[h,ho]
theorem hX{o:aG IV}(h:ck c (lv c n) en σ func args kws pos=some o):(lv c (n+1)).iv en σ (.Call func args kws pos)=some o:=h
theorem AI{cf:cb}{ks:List (Str×V)}(hf:lY c.K a=some fd)(h:cf σ a xs ks=some o)(ho:gv (some o)=some o'):aJ c cf σ (.ref a) (xs.map .v) ks=some o':=by
 have e:ox (xs.map IV.v)=some xs:=by
  induction xs with
  |nil=>rfl
  |cons x xs ih=>
   have: ∀l:List V,ox (l.map IV.v)=some l:=fun l=>by
    induction l with
    |nil=>rfl
    |cons y l ih=>exact congrArg _ (by assumption)
   exact this _
 show(ox (xs.map IV.v)).bind _=_;rw[e];simp only[IG,hf,h,ho]
end
section
theorem yA{x:IV}(hf:e_ c en iter scope=true)(hn:aR c en fn=some (.val (.builtin "all")))(hx:(lv c n).iv en σ iter=some (.ok x KE))(ht:aC KE x=some t)
 (hd:d7 (mK (du 8) (lv c n).tr (lv c n).ev target ifs elt az) false az (dD scope.names en) KE t=some (b,KI)):de c (lv c n).iv (lv c n).tr (lv c n).ev en σ fn elt target iter ifs scope=some (.ok (.bool (!b)) KI):=by
 rw[fQ hf hn hx ht];show yU _ _ _ _=_;unfold yU;rw[hd];rfl
theorem yo{x:IV}(hf:e_ c en iter scope=true)(hn:aR c en fn=some (.val (.builtin "any")))(hx:(lv c n).iv en σ iter=some (.ok x KE))(ht:aC KE x=some t)
 (hd:d7 (mK (du 8) (lv c n).tr (lv c n).ev target ifs elt az) true az (dD scope.names en) KE t=some (b,KI)):de c (lv c n).iv (lv c n).tr (lv c n).ev en σ fn elt target iter ifs scope=some (.ok (.bool b) KI):=by
 rw[fQ hf hn hx ht];show zg _ _ _ _=_;unfold zg;rw[hd];rfl
theorem yO{x:IV}{ns:List Int}(hf:e_ c en iter scope=true)(hn:aR c en fn=some (.val (.builtin "sum")))(hx:(lv c n).iv en σ iter=some (.ok x KE))(ht:aC KE x=some t)
 (hd:d5 (mK (du 8) (lv c n).tr (lv c n).ev target ifs elt az) az (dD scope.names en) KE t=some (l,KI)) (hl:cP l=some ns):de c (lv c n).iv (lv c n).tr (lv c n).ev en σ fn elt target iter ifs scope=some (.ok (.int ns.sum) KI):=by
 rw[fQ hf hn hx ht];show yz _ _ _ _=_;unfold yz;rw[hd];show(cP l).map _=_;rw[hl];rfl
theorem oH{iv:iR}{x:IV}(hc:(dq iter&&scope.kind== .function&&dU scope.names en)=true)(hx:iv en σ iter=some (.ok x KE))(ht:aC KE x=some t)
 (hd:cE (du 8) tr f target ifs elt KE.length az (dX scope.names en) (KE++[.lst []]) t=some KI):cj iv tr f en σ elt [⟨target,iter,ifs,0⟩] scope=some (.ok (.lst KE.length) KI):=by
 refine(if_pos hc:(if _ then _ else none)=_).trans ?_
 rw[hx];show(aC KE x).bind _=_;rw[ht];show(cE _ _ _ _ _ _ _ _ _ _ _).map _=_;rw[hd];rfl
theorem A2{p:Pos}{x:IV}{o:aM}(hs:dq iter=true)(hx:(lv c n).iv en σ iter=some (.ok x KE))(ht:aC KE x=some t)(h:gw KE.length (eL c (lv c n).ev 8) (lv c n).exs target body orelse az en KE t=some o):
 aT c (lv c n) en σ (.For target iter body orelse p)=some o:=by
 show lX _ _ _ en σ target iter body orelse=some o;unfold lX;rw[if_pos hs,hx];show(aC KE x).bind _=_;rw[ht];exact h
theorem x9{p:Pos}(hc:cq e=true)(h:(lv c n).ev en σ e=some (.ok y KE))(hy:aY y=true):aT c (lv c n) en σ (.Expr e p)=some (.ok .next en KE):=by
 show(if cq e=true then _ else none)=_
 refine dP hc ?_;simp only[bQ,h,hy,if_true]
theorem sg{v sl:Expr}{p:Pos}{i:Int}(hn:bB sl=true)(h1:(lv c n).ev en σ v=some (.ok x KE))(h2:(lv c n).ev en KE sl=some (.ok (.int i) KI))(h3:gr KI x i=some y):(lv c (n+1)).ev en σ (.Subscript v sl p)=some (.ok y KI):=by
 show aw ((lv c n).ev en σ v) _=_;rw[h1]
 refine(if_pos hn:(if bB sl=true then Bt (lv c n).ev en KE x sl else _)=_).trans ?_
 unfold Bt;rw[h2];show(gr KI x i).map _=_;rw[h3];rfl
theorem xH{v:Expr}{lo hi st:Option Expr}{sp p:Pos}{l u t:V}{Lq MD:Sg}{l' u' t':Option Int}(h1:(lv c n).ev en σ v=some (.ok x KE))(h2:gu (lv c n).ev en KE lo=some (.ok l KI))(h3:gu (lv c n).ev en KI hi=some (.ok u K3))(h4:gu (lv c n).ev en K3 st=some (.ok t Lq))
 (p1:gE l=some l') (p2:gE u=some u') (p3:gE t=some t') (h5:cz Lq x l' u' t'=some (y,MD)):(lv c (n+1)).ev en σ (.Subscript v (.Slice lo hi st sp) p)=some (.ok y MD):=by
 show aw ((lv c n).ev en σ v) _=_;rw[h1];show Bf (lv c n).ev en KE x lo hi st=_;unfold Bf;rw[h2];show aw (gu (lv c n).ev en KI hi) _=_;rw[h3];show aw (gu (lv c n).ev en K3 st) _=_;rw[h4];show(gE l).bind _=_;rw[p1,p2,p3];show(cz Lq x l' u' t').map _=_;rw[h5];rfl
theorem B4{l:Expr}{op:CmpOp}{p:Pos}(hm:lastMarks [op] [e]=false)(h1:(lv c n).ev en σ l=some (.ok x KE))(h2:(lv c n).ev en KE e=some (.ok y KI))(h3:eo KI op x y=some b):(lv c (n+1)).ev en σ (.Compare l [op] [e] p)=some (.ok (.bool b) KI):=by
 show gB _ en σ l [op] [e]=_
 refine(if_neg (by rw[hm];exact Gk):(if lastMarks [op] [e]=true then none else aw ((lv c n).ev en σ l) _)=_).trans ?_
 rw[h1];exact gV h2 h3
theorem BE{l:Expr}{op:CmpOp}{p:Pos}(hm:lastMarks [op] [e]=false)(h1:(lv c n).ev en σ l=some (.ok x KE))(h2:(lv c n).ev en KE e=some (.ok y KI))(h3:eo KI op x y=some b):(lv c (n+1)).tr en σ (.Compare l [op] [e] p)=some (.ok b KI):=by
 show Cc (lv c n).ev (lv c n).tr en σ (.Compare l [op] [e] p)=_
 refine(if_neg (by rw[hm];exact Gk):(if lastMarks [op] [e]=true then none else aw ((lv c n).ev en σ l) _)=_).trans ?_
 rw[h1];exact gV h2 h3
theorem Bi(hp:fN e=true)(h1:(lv c n).ev en σ e=some (.ok x KE))(h2:bu KE x=some b):(lv c (n+1)).tr en σ e=some (.ok b KE):=by
 refine(xS hp:Cc (lv c n).ev (lv c n).tr en σ e=_).trans ?_;unfold xY;rw[h1];show(bu KE x).map _=_;rw[h2];rfl
theorem B1{p:Pos}(h:(lv c n).tr en σ e=some (.ok b KE)):(lv c (n+1)).tr en σ (.UnaryOp .Not e p)=some (.ok (!b) KE):=by
 show Cc (lv c n).ev (lv c n).tr en σ (.UnaryOp .Not e p)=_;show aw ((lv c n).tr en σ e) _=_;rw[h];rfl
theorem i9{op:BoolOp}{p:Pos}{o:aG Bool}(h:uE (lv c n).tr en op σ es=some o):(lv c (n+1)).tr en σ (.BoolOp op es p)=some o:=h
theorem dt{g:lA}{op:BoolOp}{o:aG Bool}(h:g en σ e=some (.ok b KE))(k:(if b=(op== .Or)then some (.ok b KE)else uE g en op KE es)=some o):uE g en op σ (e::es)=some o:=by
 exact l_ h k
end
section
theorem rB(xs:List α): ∀(d:Nat) (pre:List α),pre.length=d→((GV xs.length).map fun k=>d+k).filterMap ((pre++xs)[·]?)=xs:=by
 intro d pre hd
 have key: ∀(ys zs:List α),((List.range' zs.length ys.length).filterMap fun k=>(zs++ys)[k]?)=ys:=by
  intro ys
  induction ys with
  |nil=>intro zs;rfl
  |cons y ys ih=>
   intro zs;rw[G_,List.range'_succ,HD]
   have:(zs++y::ys)[zs.length]? =some y:=by simp
   rw[this];have e:=ih (zs++[y]);rw[G6,HC,G0]at e;simp only[List.singleton_append]at e
   exact congrArg _ (by assumption)
 have e:((GV xs.length).map fun k=>d+k)=List.range' d xs.length:=by
  rw[List.range_eq_range',List.map_add_range'];simp
 rw[e];subst hd;exact key xs pre
theorem pz(x:V)(xs:List V):iM (x::xs) (some 1) none none=xs:=by
 have p1:Jz (some 1) none ((none:Option Int).getD 1) ((x::xs).length:Nat)=((1:Int),(((x::xs).length:Nat):Int)):=by
  simp[Jz]
  try exact mi1
 have p2:JA 1 (((x::xs).length:Nat):Int) ((none:Option Int).getD 1)=xs.length:=by
  simp only[JA,Option.getD_none,G_]
  rw[if_pos (by decide)]
  by_cases h:(1:Int)<((xs.length+1:Nat):Int)
  ·rw[if_pos h,Int.ediv_one];simp
  ·rw[if_neg h];exact tn0 ‹_›
 have w:ed (x::xs).length (some 1) none none=false:=by
  unfold ed;rw[p1];rfl
 unfold iM;rw[w,if_neg Gk];unfold ci;rw[p1];simp only;rw[p2]
 have e:((GV xs.length).map fun(k:Nat)=>((1:Int)+(k:Int)*(none:Option Int).getD 1).toNat)=(GV xs.length).map fun k=>1+k:=by
  refine Hz fun k u_=> ?_;simp only[Option.getD_none,Int.mul_one];rfl
 rw[e];exact rB xs 1 [x] rfl
theorem q_(hl:(x::xs).length≤2^20):cz σ (.tup (x::xs)) (some 1) none none=some (.tup xs,σ):=by
 unfold cz
 rw[if_neg (by simp)]
 simp only[pz]
 rw[if_pos ⟨hl,by simp at hl⊢;exact bg ‹_› (by exact ac)⟩]
theorem uj: ∀xs:List α,((GV xs.length).map fun k=>xs.length-1-k).filterMap (xs[·]?)=xs.reverse:=by
 intro xs;rw[List.filterMap_map]
 have key: ∀m,m≤xs.length→(GV m).filterMap (fun k=>xs[xs.length-1-k]?)=xs.reverse.take m:=by
  intro m
  induction m with
  |zero=>intro _;simp
  |succ m ih=>
   intro h
   rw[List.range_succ,List.filterMap_append,ih (Nat.le_of_succ_le ‹_›),HV (by simp;assumption)]
   congr 1
   have:xs[xs.length-1-m]? =some (xs.reverse[m]'(by simp;assumption)):=by
    simp
   simp[this]
 have:=key xs.length (HY _)
 rw[show xs.reverse.take xs.length=xs.reverse from List.take_of_length_le (by simp)]at this
 exact this
theorem pa(l:List V):mF l none none (some (-1))=l.reverse:=by
 unfold mF qC
 have e:sliceRange (sliceBounds none none (some (-1)) l.length).1 (sliceBounds none none (some (-1)) l.length).2.1 (sliceBounds none none (some (-1)) l.length).2.2=(GV l.length).map fun k=>l.length-1-k:=by
  have hb:sliceBounds none none (some (-1)) l.length=((l.length:Int)-1,-1,-1):=rfl;rw[hb];simp only[sliceRange]
  rw[if_neg (by decide)]
  have c:(if((l.length:Int)-1> -1)then((l.length:Int)-1- -1- -1-1)/ - -1 else 0).toNat=l.length:=by
   by_cases h:(l.length:Int)-1> -1
   ·rw[if_pos h];simp
   ·rw[if_neg h];exact(Nat.le_zero.mp (GC.mp (Int.le_of_sub_le_sub_right (b:=0) (c:=1) (Gz.mp h)))).symm
  rw[c];refine Hz fun k hk=> ?_;have:=HJ.mp hk;rw[Int.neg_one_mul,←Int.sub_eq_add_neg,DQ (H8 (H' _) this),←Int.ofNat_sub (Nat.le_sub_one_of_lt this)];rfl
 rw[e];exact uj l
theorem rq(hk:σ[k]? =some (.lst l))(hl:l.length≤2^20):cz σ (.lst k) none none (some (-1))=some (.lst σ.length,σ++[.lst l.reverse]):=by
 unfold cz
 refine Ab (by trivial) ?_
 show(qe σ k).bind _=_;rw[yQ hk]
 show(if _ then _ else none)=_
 rw[if_pos hl,pa]
end
section
set_option genInjectivity false in
structure Xp where
 q:Program
 w:World
 n₀:Nat
 T:List Addr
 mg:Str→Option Value
 mb:Str→Option Value
 base:Heap
 P:Params
noncomputable def cc(X:Xp):Cx:=cx X.q X.w X.n₀ X.T X.mg X.mb X.base X.P
noncomputable def dY(X:Xp)(a:Addr):FuncData:=(lY (KK X.P) a).getD default
noncomputable def aD(X:Xp)(a:Addr):List Stmt:=match(dY X a).body with
 | .stmts b=>b
 |_=>[]
noncomputable def St(X:Xp)(a i:Nat):Stmt:=(aD X a).getD i (.Pass default)
noncomputable def ah(X:Xp)(a:Addr)(own:List (Str×V)):En:=⟨(dY X a).scope.names,own,[],ll (dY X a).code⟩
noncomputable def Ak:List Comprehension→List Expr
 |g::_=>g.target::g.iter::g.ifs
 |[]=>[]
noncomputable def El:List Comprehension→List Expr
 |g::_=>g.ifs
 |[]=>[]
noncomputable def z0:(List Comprehension×Scope)×List Keyword:=(([],default),[])
noncomputable def pE(e:Expr):List Expr×(List Comprehension×Scope)×List Keyword:= @Expr.casesOn (fun u_=>List Expr×(List Comprehension×Scope)×List Keyword) e (fun u_ es u_=>(es,z0)) (fun u_ u_ u_=>([],z0)) (fun l u_ r u_=>([l,r],z0)) (fun u_ x u_=>([x],z0)) (fun u_ u_ u_ u_=>([],z0)) (fun t b e u_=>([t,b,e],z0)) (fun u_ u_ u_=>([],z0)) (fun u_ u_ u_=>([],z0)) (fun e g s u_=>(e::Ak g,(g,s),[])) (fun u_ u_ u_ u_=>([],z0)) (fun u_ u_ u_ u_ u_=>([],z0)) (fun e g s u_=>(e::Ak g,(g,s),[])) (fun u_ u_=>([],z0)) (fun u_ u_=>([],z0)) (fun u_ u_=>([],z0)) (fun l u_ es u_=>(l::es,z0)) (fun f as ks u_=>(f::(as++ks.map (·.value)),([],default),ks)) (fun u_ u_ u_ u_=>([],z0)) (fun u_ u_=>([],z0)) (fun u_ u_ u_=>([],z0)) (fun v u_ u_=>([v],z0)) (fun v s u_=>([v,s],z0)) (fun u_ u_=>([],z0)) (fun u_ u_=>([],z0)) (fun es u_=>(es,z0)) (fun es u_ u_=>(es,z0)) (fun lo hi st u_=>([lo.getD default,hi.getD default,st.getD default],z0))
noncomputable def Fu(e:Expr):List Expr:=(pE e).1
noncomputable def yS(e:Expr):List Keyword:=(pE e).2.2
noncomputable def tk(e:Expr):Nat:=((kh e).map fun p=>p.1.2.1).getD 0
noncomputable def ch(e:Expr)(i:Nat):Expr:=(Fu e).getD i default
noncomputable abbrev ps(e:Expr):Pos:=e.pos
noncomputable def Ad(e:Expr):List Comprehension×Scope:=(pE e).2.1
noncomputable def dK(e:Expr):Scope:=(Ad e).2
noncomputable def ec(e:Expr):List Expr:=El (Ad e).1
noncomputable def pS(s:Stmt):List Expr×List Stmt×List Stmt×List ExceptHandler:= @Stmt.casesOn (fun u_=>List Expr×List Stmt×List Stmt×List ExceptHandler) s (fun u_ u_ u_ u_ u_ u_ u_ u_ u_ u_=>([],[],[],[])) (fun u_ u_ u_ u_ u_ u_ u_ u_ u_ u_=>([],[],[],[])) (fun u_ u_ u_ u_ u_ u_ u_ u_ u_ u_ u_=>([],[],[],[])) (fun e u_=>(e.elim [] fun e=>[e],[],[],[])) (fun u_ u_=>([],[],[],[])) (fun ts e u_=>(e::ts,[],[],[])) (fun u_ u_ u_ u_ u_ u_ u_=>([],[],[],[])) (fun t u_ e u_=>([t,e],[],[],[])) (fun u_ u_ u_ u_ u_=>([],[],[],[])) (fun t i b e u_=>([t,i],b,e,[])) (fun u_ u_ u_ u_ u_=>([],[],[],[])) (fun t b e u_=>([t],b,e,[])) (fun t b e u_=>([t],b,e,[])) (fun u_ u_ u_=>([],[],[],[])) (fun u_ u_ u_=>([],[],[],[])) (fun u_ u_ u_=>([],[],[],[])) (fun e u_ u_=>(e.elim [] fun e=>[e],[],[],[])) (fun b h u_ u_ u_=>([],b,[],h)) (fun u_ u_ u_ u_ u_=>([],[],[],[])) (fun t u_ u_=>([t],[],[],[])) (fun u_ u_=>([],[],[],[])) (fun u_ u_ u_ u_=>([],[],[],[])) (fun u_ u_=>([],[],[],[])) (fun u_ u_=>([],[],[],[])) (fun e u_=>([e],[],[],[])) (fun u_=>([],[],[],[])) (fun u_=>([],[],[],[])) (fun u_=>([],[],[],[]))
noncomputable def CZ(s:Stmt):List Expr:=(pS s).1
noncomputable def sx(s:Stmt)(i:Nat):Expr:=(CZ s).getD i default
noncomputable def ak(s:Stmt):List Stmt:=(pS s).2.1
noncomputable def cW(s:Stmt):List Stmt:=(pS s).2.2.1
noncomputable abbrev kq(s:Stmt):Pos:=s.pos
noncomputable def si(l:List Stmt)(i:Nat):Stmt:=l.getD i (.Pass default)
section
theorem bT{x:Str}(he:e= .Name x (ps e))(h:aR c en x=some y):(lv c (n+1)).ev en σ e=some (.ok y σ):=by
 rw[he];exact fY h
theorem cL{z:V}(he:e= .BinOp (ch e 0) op (ch e 1) (ps e))(h1:(lv c n).ev en σ (ch e 0)=some (.ok x KE))(h2:(lv c n).ev en KE (ch e 1)=some (.ok y KI))(h3:m4 KI op x y=some (z,K3)):(lv c (n+1)).ev en σ e=some (.ok z K3):=
 (congrArg ((lv c (n+1)).ev en σ) he).trans (Bu h1 h2 h3)
theorem iW(he:e= .Attribute (ch e 0) name (ps e))(hp:aU (ch e 0)=true)(h:(lv c n).ev en σ (ch e 0)=some (.ok x KE))(hg:ji c KE x name=some (.val y)):(lv c (n+1)).ev en σ e=some (.ok y KE):=
 (congrArg ((lv c (n+1)).ev en σ) he).trans (n0 hp h hg)
theorem DJ{f:Addr}(he:e= .Attribute (ch e 0) name (ps e))(hp:aU (ch e 0)=true)(h:(lv c n).ev en σ (ch e 0)=some (.ok x KE))(hg:ji c KE x name=some (.prop f))(hc:(lv c n).cf KE f [x] []=some (.ok y KI))(hy:db y=true):(lv c (n+1)).ev en σ e=some (.ok y KI):=
 (congrArg ((lv c (n+1)).ev en σ) he).trans (zK hp h hg hc hy)
theorem cZ{i:Int}(he:e= .Subscript (ch e 0) (ch e 1) (ps e))(hn:bB (ch e 1)=true)(h1:(lv c n).ev en σ (ch e 0)=some (.ok x KE))(h2:(lv c n).ev en KE (ch e 1)=some (.ok (.int i) KI))(h3:gr KI x i=some y):(lv c (n+1)).ev en σ e=some (.ok y KI):=
 (congrArg ((lv c (n+1)).ev en σ) he).trans (sg hn h1 h2 h3)
theorem qf{op:CmpOp}(he:e= .Compare (ch e 0) [op] [ch e 1] (ps e))(hm:lastMarks [op] [ch e 1]=false)(h1:(lv c n).ev en σ (ch e 0)=some (.ok x KE))(h2:(lv c n).ev en KE (ch e 1)=some (.ok y KI))(h3:eo KI op x y=some b):(lv c (n+1)).ev en σ e=some (.ok (.bool b) KI):=
 (congrArg ((lv c (n+1)).ev en σ) he).trans (B4 hm h1 h2 h3)
theorem bx{op:CmpOp}(he:e= .Compare (ch e 0) [op] [ch e 1] (ps e))(hm:lastMarks [op] [ch e 1]=false)(h1:(lv c n).ev en σ (ch e 0)=some (.ok x KE))(h2:(lv c n).ev en KE (ch e 1)=some (.ok y KI))(h3:eo KI op x y=some b):(lv c (n+1)).tr en σ e=some (.ok b KI):=
 (congrArg ((lv c (n+1)).tr en σ) he).trans (BE hm h1 h2 h3)
theorem CW(he:e= .IfExp (ch e 0) (ch e 1) (ch e 2) (ps e))(h0:(lv c n).tr en σ (ch e 0)=some (.ok b σ))(h1:b=true→(lv c n).ev en σ (ch e 1)=some (.ok x σ))(h2:b=false→(lv c n).ev en σ (ch e 2)=some (.ok y σ)):(lv c (n+1)).ev en σ e=some (.ok (bif b then x else y) σ):=
 (congrArg ((lv c (n+1)).ev en σ) he).trans (zS h0 (by cases b with|true=>exact h1 rfl|false=>exact h2 rfl))
theorem CU(he:e= .IfExp (ch e 0) (ch e 1) (ch e 2) (ps e))(h0:(lv c n).tr en σ (ch e 0)=some (.ok b KE))(h1:(lv c n).ev en KE (bif b then ch e 1 else ch e 2)=some o):(lv c (n+1)).ev en σ e=some o:=
 (congrArg ((lv c (n+1)).ev en σ) he).trans (zS h0 (by cases b<;>exact h1))
theorem dz(hp:fN e=true)(h1:(lv c n).ev en σ e=some (.ok x KE))(h2:bu KE x=some b):(lv c (n+1)).tr en σ e=some (.ok b KE):=Bi hp h1 h2
theorem BP(he:e= .UnaryOp .Not (ch e 0) (ps e))(h:(lv c n).tr en σ (ch e 0)=some (.ok b KE)):(lv c (n+1)).tr en σ e=some (.ok (!b) KE):=
 (congrArg ((lv c (n+1)).tr en σ) he).trans (B1 h)
theorem mB{a:Bool}(he:e= .BoolOp .And [ch e 0,ch e 1] (ps e))(h1:(lv c n).tr en σ (ch e 0)=some (.ok a σ))(h2:a=true→(lv c n).tr en σ (ch e 1)=some (.ok b σ)):(lv c (n+1)).tr en σ e=some (.ok (a&&b) σ):=by
 refine(he).symm▸ ?_;refine i9 (dt h1 ?_)
 cases a with
 |false=>rfl
 |true=>exact dt (h2 rfl) (by cases b<;>rfl)
theorem Eu{a:Bool}(he:e= .BoolOp .Or [ch e 0,ch e 1] (ps e))(h1:(lv c n).tr en σ (ch e 0)=some (.ok a σ))(h2:a=false→(lv c n).tr en σ (ch e 1)=some (.ok b σ)):(lv c (n+1)).tr en σ e=some (.ok (a||b) σ):=by
 refine(he).symm▸ ?_;refine i9 (dt h1 ?_)
 cases a with
 |true=>rfl
 |false=>exact dt (h2 rfl) (by cases b<;>rfl)
theorem DZ{a:Bool}(he:e= .BoolOp .And [ch e 0,ch e 1] (ps e))(h1:(lv c n).ev en σ (ch e 0)=some (.ok x σ))(ht:bu σ x=some a)(h2:a=true→(lv c n).ev en σ (ch e 1)=some (.ok y σ)):(lv c (n+1)).ev en σ e=some (.ok (bif a then y else x) σ):=by
 rw[he];show jc _ en .And σ [ch e 0,ch e 1]=_;refine l_ h1 (AU ht ?_)
 cases a with
 |false=>rfl
 |true=>exact h2 rfl
theorem EA{a:Bool}(he:e= .BoolOp .Or [ch e 0,ch e 1] (ps e))(h1:(lv c n).ev en σ (ch e 0)=some (.ok x σ))(ht:bu σ x=some a)(h2:a=false→(lv c n).ev en σ (ch e 1)=some (.ok y σ)):(lv c (n+1)).ev en σ e=some (.ok (bif a then x else y) σ):=by
 rw[he];show jc _ en .Or σ [ch e 0,ch e 1]=_;refine l_ h1 (AU ht ?_)
 cases a with
 |false=>exact h2 rfl
 |true=>rfl
theorem qK{a:Bool}(he:e= .BoolOp .And [ch e 0,ch e 1] (ps e))(h1:(lv c n).ev en σ (ch e 0)=some (.ok (.bool a) σ))(h2:a=true→(lv c n).ev en σ (ch e 1)=some (.ok (.bool b) σ)):(lv c (n+1)).ev en σ e=some (.ok (.bool (a&&b)) σ):=by
 rw[DZ he h1 rfl h2];cases a<;>rfl
theorem Eg{a:Bool}(he:e= .BoolOp .Or [ch e 0,ch e 1] (ps e))(h1:(lv c n).ev en σ (ch e 0)=some (.ok (.bool a) σ))(h2:a=false→(lv c n).ev en σ (ch e 1)=some (.ok (.bool b) σ)):(lv c (n+1)).ev en σ e=some (.ok (.bool (a||b)) σ):=by
 rw[EA he h1 rfl h2];cases a<;>rfl
end
end
section
section
theorem bz(hc:aX e=false)(h:(lv c n).ev en σ e=some (.ok x KE)):(lv c (n+1)).iv en σ e=some (.ok (.v x) KE):=
 AG (fun f a k p q=>by rw[q]at hc;exact Cp hc) h rfl
theorem kU(h:aX e=true)(k: ∀f a kw p,e= .Call f a kw p→P):P:=by
 exact @Expr.Call.elim (fun e=>(∀f a kw p,e= .Call f a kw p→P)→P) e (Nat.eq_of_beq_eq_true h) (fun f a kw p k=>k f a kw p rfl) k
theorem xR(hc:aX e=true)(h:(lv c (n+1)).ev en σ e=some (.ok x KE)):(lv c (n+1)).iv en σ e=some (.ok (.v x) KE):=by
 refine kU hc fun f a k p q=> ?_;subst q;change f_ (ck c (lv c n) en σ f a k p)=_ at h;change ck c (lv c n) en σ f a k p=_
 cases w:ck c (lv c n) en σ f a k p with
 |none=>rw[w]at h;exact no h
 |some o=>
  rw[w]at h
  cases o with
  |exc=>cases IH h
  |ok y KD=>
   cases y with
   |it=>exact no h
   |v y=>cases IH h;rfl
theorem kr(hc:aX e=true)(h:(lv c (n+1)).iv en σ e=some (.ok (.v x) KE)):(lv c (n+1)).ev en σ e=some (.ok x KE):=by
 refine kU hc fun f a k p q=> ?_;subst q;change ck c (lv c n) en σ f a k p=_ at h;show f_ (ck c (lv c n) en σ f a k p)=_;rw[h];rfl
theorem cJ{x:Str}{vs:List IV}{o:aG IV}(he:e= .Call (.Name x (ps (ch e 0))) args [] (ps e))(hg:cK args=none)(hx:aR c en x=some (.val fv))(hc:(al args&&bK c.K fv)=true)
 (h1:dZ (lv c (n+1)).iv en σ args=some (.ok vs KE)) (h2:aJ c (lv c (n+1)).cf KE fv vs []=some o):(lv c (n+2)).iv en σ e=some o:=by
 rw[he];have hc:=Gi.mp hc;refine hX (jQ ?_ hx (fD (xs:=vs) (ks:=[]) ?_ h1 rfl h2))
 ·refine(?_:(if(List.isEmpty ([]:List Keyword))=true then(cK args).map _ else none)=none)
  rw[hg];rfl
 ·rw[hc.1,hc.2];rfl
theorem gq{vs:List IV}{o:aG IV}(he:e= .Call (.Attribute (ch (ch e 0) 0) name (ps (ch e 0))) args [] (ps e))(hp:(aU (ch (ch e 0) 0)&&(ps (ch e 0)).endLine==(ps e).line&&decide (args.length+0<20)&&al args)=true)
 (hx:(lv c n).ev en σ (ch (ch e 0) 0)=some (.ok x KE)) (hm:iA c KE x name=some (fv,first)) (hc:bK c.K fv=true) (h1:dZ (lv c n).iv en KE args=some (.ok vs KI)) (h2:aJ c (lv c n).cf KI fv (first.map .v++vs) []=some o):(lv c (n+1)).iv en σ e=some o:=by
 rw[he];have hs:al args=true:=(Gi.mp hp).2;refine hX (hV ?_ hx hm (fD (xs:=vs) (ks:=[]) ?_ h1 rfl h2))
 ·simpa [ii]using hp
 ·rw[hs,hc];rfl
theorem kQ{f:iR}{x:IV}(hs:al [e]=true)(h1:f en σ e=some (.ok x KE)):dZ f en σ [e]=some (.ok [x] KE):=aO hs h1 gh
theorem Ag{f:iR}{x x':IV}(hs:al [e,e']=true)(h1:f en σ e=some (.ok x KE))(h2:f en KE e'=some (.ok x' KI)):dZ f en σ [e,e']=some (.ok [x,x'] KI):=by
 have a:al [e]=true:=(show(!dg e&&true)=true from Gi.mpr ⟨(Gi.mp hs).1,rfl⟩)
 have b:al [e']=true:=(bk hs).2;exact aO a h1 (kQ b h2)
theorem iv3{f:iR}{e'':Expr}{x x' x'':IV}(h0:al [e]=true)(hs:al [e',e'']=true)(h1:f en σ e=some (.ok x KE))(h2:f en KE e'=some (.ok x' KI))(h3:f en KI e''=some (.ok x'' K3)):dZ f en σ [e,e',e'']=some (.ok [x,x',x''] K3):=
 aO h0 h1 (Ag hs h2 h3)
noncomputable def EH(e:Expr):Option (Str×Expr×Expr×Expr×List Expr×Scope):=(vG e).bind fun p=>mw p.1.1 p.1.2.1 p.1.2.2.1
noncomputable abbrev rZ(e:Expr)(fn:String):Prop:=EH e=some (Kq fn,ch (ch e 1) 0,ch (ch e 1) 1,ch (ch e 1) 2,[],dK (ch e 1))
theorem kN{v:V}(h:EH e=some (fn,elt,target,iter,ifs,scope))(k:de c (lv c n).iv (lv c n).tr (lv c n).ev en σ fn elt target iter ifs scope=some (.ok v KE)):(lv c (n+1)).ev en σ e=some (.ok v KE):=by
 refine eX h fun p h=> ?_;obtain⟨⟨f,a,kw,p⟩,rfl⟩:=p;exact Bp h k
end
section
variable {γ:Type}
noncomputable def aE(S:Sg→Prop)(t:It)(xs:List V):Prop:= ∃ts:Nat→It,ts 0=t∧ ∀σ:Sg,S σ→(∀i x,xs[i]? =some x→ay σ (ts i)=some (some (x,ts (i+1))))∧ay σ (ts xs.length)=some none
theorem ai{S:Sg→Prop}(as:List α)(f:α→V):aE S (.seq (as.map f) 0) (as.map f):=⟨fun i=> .seq (as.map f) i,rfl,fun σ u_=>⟨fun i x h=>nxq h,nxe gnl⟩⟩
theorem eu{S:Sg→Prop}(h: ∀σ,S σ→σ[k]? =some (.lst l)):aE S (.lst k 0) l:=⟨fun i=> .lst k i,rfl,fun σ q=>⟨fun i x hx=>nxl (aP (h σ q)) hx,CN (aP (h σ q)) gnl⟩⟩
theorem a_{S:Sg→Prop}{u:It}{as:List α}{bs:List β}{f:α→V}{g:β→V}(h1:aE S t (as.map f))(h2:aE S u (bs.map g)):aE S (.zip [t,u]) ((as.zip bs).map fun p=>V.tup [f p.1,g p.2]):=by
 obtain⟨ts,rfl,h1⟩:=h1;obtain⟨us,rfl,h2⟩:=h2;refine⟨fun i=> .zip [ts i,us i],rfl,fun σ q=>⟨fun i z hz=> ?_,?_⟩⟩
 ·refine aN ((Hc ..).symm.trans hz) fun p hab e=> ?_;subst e;have w:=HP.mp hab;exact nxz rfl (wN ((h1 σ q).1 i _ (Ap w.1)) (wN ((h2 σ q).1 i _ (Ap w.2)) sL))
 ·rw[GO,GS];have e1:=(h1 σ q).2;have e2:=(h2 σ q).2;rw[GO]at e1 e2
  by_cases hl:as.length≤bs.length
  ·refine(Nat.min_eq_left hl).symm▸ ?_;exact Cl rfl (BM e1)
  ·rw[Nat.min_eq_right (Nat.le_of_not_le ‹_›)];exact Cl rfl (E5 ((h1 σ q).1 bs.length _ (Ap (G3 (Nat.lt_of_not_le ‹_›)))) (BM e2))
theorem f8{S:Sg→Prop}{u v:It}{as:List α}{bs:List β}{cs:List γ}{f:α→V}{g:β→V}{h:γ→V}(h1:aE S t (as.map f))(h2:aE S u (bs.map g))(h3:aE S v (cs.map h))(l1:as.length=bs.length)(l2:as.length=cs.length):aE S (.zip [t,u,v]) ((as.zip (bs.zip cs)).map fun p=>V.tup [f p.1,g p.2.1,h p.2.2]):=by
 obtain⟨ts,rfl,h1⟩:=h1;obtain⟨us,rfl,h2⟩:=h2;obtain⟨vs,rfl,h3⟩:=h3;refine⟨fun i=> .zip [ts i,us i,vs i],rfl,fun σ q=>⟨fun i z hz=> ?_,?_⟩⟩
 ·refine aN ((Hc ..).symm.trans hz) fun p hab e=> ?_;subst e;have w:=HP.mp hab;have w':=HP.mp w.2;exact nxz rfl (wN ((h1 σ q).1 i _ (Ap w.1)) (wN ((h2 σ q).1 i _ (Ap w'.1)) (wN ((h3 σ q).1 i _ (Ap w'.2)) sL)))
 ·have e1:=(h1 σ q).2;rw[GO]at e1;rw[GO,GS,GS,←l1,←l2,Ik,Ik];exact Cl rfl (BM e1)
theorem qG{S:Sg→Prop}{as:List α}{f:α→V}(m:Int)(h:aE S t (as.map f)):aE S (.enum t m) (as.zipIdx.map fun p=> .tup [.int (m+(p.2:Int)),f p.1]):=by
 obtain⟨ts,rfl,h⟩:=h
 refine⟨fun i=> .enum (ts i) (m+i),by simp,fun σ q=>⟨fun i z hz=> ?_,?_⟩⟩
 ·refine aN ((Hc ..).symm.trans hz) fun p hab e=> ?_;subst e;refine aN ((List.getElem?_zipIdx ..).symm.trans hab) fun a ha e=> ?_;subst e;rw[sy,(h σ q).1 i _ (Ap ha),Ix];exact congrArg (fun z=>some (some (V.tup [V.int (m+i),f a],It.enum (ts (i+1)) z))) scs
 ·have e1:=(h σ q).2;rw[GO]at e1;rw[GO,List.length_zipIdx];rw[sy,e1];rfl
theorem gW{S:Sg→Prop}(a b:Int):aE S (.rng a b 1) ((GV b.toNat).map fun(i:Nat)=>V.int (a+(i:Int))):=by
 refine aL (ww.rng a b) fun ts h1 h2=> ?_;exact⟨ts,h1,fun σ u_=>h2 σ⟩
theorem wB{S:Sg→Prop}{P:En→Prop}{as:List α}{f F:α→V}(hS:S σ)(ht:aE S t (as.map f))(hl:as.length<az)(hb: ∀a∈as,∀en,P en→ ∃en',P en'∧g target en σ (f a)=some (en',σ)∧ev en' σ elt=some (.ok (F a) σ))(hp:P en):
 d5 (mK g tr ev target [] elt az) az en σ t=some (as.map F,σ):=by
 refine aL ht fun ts zz1 h=> ?_;subst zz1
 refine tR (P:=P) (ys:=as.map F) (ts:=ts) (fun i y en hy hp=> ?_) (fun en hp=>vr (by rw[GO,←GO (f:=f)];exact(h σ hS).2)) (by rw[GO];exact hl) hp
 refine aN ((Hc ..).symm.trans hy) fun a ha e=> ?_;subst e;refine bW (hb a (Hp ha) en hp) fun en' hp' h1 h2=> ?_;exact⟨en',hp',vz ((h σ hS).1 i (f a) (Ap ha)) h1 h2⟩
theorem aE.nil{S:Sg→Prop}(h:aE S t [])(q:S σ):ay σ t=some none:=aL h fun ts e h=>e▸(h σ q).2
theorem aE.cons{S:Sg→Prop}(h:aE S t (x::xs)): ∃t',aE S t' xs∧ ∀σ,S σ→ay σ t=some (some (x,t')):=
 aL h fun ts e h=>⟨ts 1,⟨fun i=>ts (i+1),rfl,fun σ q=>⟨fun i x=>(h σ q).1 (i+1) x,(h σ q).2⟩⟩,fun σ q=>e▸(h σ q).1 0 x rfl⟩
theorem wb{S:Sg→Prop}{P:En→Prop}{as:List α}{f F:α→V}{q:α→Bool}{stop:Bool}(hS:S σ)(ht:aE S t (as.map f)){w:Nat}(hl:as.length<w)
 (hb: ∀a∈as,∀en,P en→ ∃en',P en'∧g target en σ (f a)=some (en',σ)∧ev en' σ elt=some (.ok (F a) σ)) (hq: ∀a∈as,bu σ (F a)=some (q a)) (hp:P en):
 d7 (mK g tr ev target [] elt az) stop w en σ t=some (as.any fun a=>q a==stop,σ):=by
 induction as generalizing t en w with
 |nil=>cases w with
  |zero=>exact absurd hl (Ih _)
  |succ w=>exact tJ (vr (ht.nil hS))
 |cons a as ih=>cases w with
  |zero=>exact absurd hl (Ih _)
  |succ w=>
   refine aL ht.cons fun t' h' hn=> ?_;refine bW (hb a (.head _) en hp) fun en' hp' h1 h2=> ?_;rw[rO (vz (tr:=tr) (hn σ hS) h1 h2) (hq a (.head _)),Hu]
   cases hs:(q a==stop)with
   |true=>exact if_pos (GN hs)
   |false=>rw[if_neg (ne_of_beq_false hs)];exact ih h' (Ij hl) (fun b m=>hb b (.tail _ m)) (fun b m=>hq b (.tail _ m)) hp'
noncomputable def nj(c:Cx)(n:Nat)(e:Expr)(en:En)(σ:Sg)(as:List α)(f:α→V)(b:α→List (Str×V))(F:α→V):Prop:=
 ∀a∈as,∀own,du 8 (ch (ch e 1) 1) ⟨(dK (ch e 1)).names,own,(dD (dK (ch e 1)).names en).fre,none⟩ σ (f a)=some (⟨(dK (ch e 1)).names,b a++own,(dD (dK (ch e 1)).names en).fre,none⟩,σ)∧
  (lv c n).ev ⟨(dK (ch e 1)).names,b a++own,(dD (dK (ch e 1)).names en).fre,none⟩ σ (ch (ch e 1) 0)=some (.ok (F a) σ)
noncomputable abbrev D9(e:Expr)(en:En)(en':En):Prop:= ∃own,en'=⟨(dK (ch e 1)).names,own,(dD (dK (ch e 1)).names en).fre,none⟩
theorem nj.step{as:List α}{f F:α→V}{b:α→List (Str×V)}(h:nj c n e en σ as f b F): ∀a∈as,∀KU,D9 e en KU→ ∃en',D9 e en en'∧du 8 (ch (ch e 1) 1) KU σ (f a)=some (en',σ)∧(lv c n).ev en' σ (ch (ch e 1) 0)=some (.ok (F a) σ):=
 fun a ha _ ⟨own,he⟩=>⟨_,⟨_,rfl⟩,by rw[he];exact(h a ha own).1,(h a ha own).2⟩
theorem iw{S:Sg→Prop}{x:IV}{as:List α}{f F:α→V}{b:α→List (Str×V)}{q:α→Bool}(he:rZ e "all")(hf:e_ c en (ch (ch e 1) 2) (dK (ch e 1))=true)(hn:aR c en "all"=some (.val (.builtin "all")))(hx:(lv c n).iv en σ (ch (ch e 1) 2)=some (.ok x σ))(ht:aC σ x=some t)
 (hS:S σ) (tl:aE S t (as.map f)) (hl:as.length<4096) (hb:nj c n e en σ as f b F) (hq: ∀a∈as,bu σ (F a)=some (q a)):(lv c (n+1)).ev en σ e=some (.ok (.bool (as.all q)) σ):=by
 have:=kN he (yA hf hn hx ht (wb hS tl hl hb.step hq ⟨_,rfl⟩));rw[this];congr 3;rw[List.not_any_eq_all_not];congr 1;funext a
 cases q a<;>rfl
theorem AD{S:Sg→Prop}{x:IV}{as:List α}{f F:α→V}{b:α→List (Str×V)}{q:α→Bool}(he:rZ e "any")(hf:e_ c en (ch (ch e 1) 2) (dK (ch e 1))=true)(hn:aR c en "any"=some (.val (.builtin "any")))(hx:(lv c n).iv en σ (ch (ch e 1) 2)=some (.ok x σ))(ht:aC σ x=some t)
 (hS:S σ) (tl:aE S t (as.map f)) (hl:as.length<4096) (hb:nj c n e en σ as f b F) (hq: ∀a∈as,bu σ (F a)=some (q a)):(lv c (n+1)).ev en σ e=some (.ok (.bool (as.any q)) σ):=by
 have:=kN he (yo hf hn hx ht (wb hS tl hl hb.step hq ⟨_,rfl⟩));rw[this];simp
theorem iH{F:α→Int}(as:List α):cP (as.map fun a=>V.int (F a))=some (as.map F):=by
 induction as with
 |nil=>rfl
 |cons a as ih=>exact congrArg (Option.map (F a:: ·)) ih
theorem Ey{S:Sg→Prop}{x:IV}{as:List α}{f:α→V}{F:α→Int}{b:α→List (Str×V)}(he:rZ e "sum")(hf:e_ c en (ch (ch e 1) 2) (dK (ch e 1))=true)(hn:aR c en "sum"=some (.val (.builtin "sum")))(hx:(lv c n).iv en σ (ch (ch e 1) 2)=some (.ok x σ))(ht:aC σ x=some t)
 (hS:S σ) (tl:aE S t (as.map f)) (hl:as.length<4096) (hb:nj c n e en σ as f b fun a=> .int (F a)):(lv c (n+1)).ev en σ e=some (.ok (.int (as.map F).sum) σ):=
 kN he (yO hf hn hx ht (wB hS tl hl hb.step ⟨_,rfl⟩) (iH as))
theorem gP{S:Sg→Prop}{x:IV}{as:List α}{f F:α→V}{b:α→List (Str×V)}(he:rZ e "tuple")(hf:e_ c en (ch (ch e 1) 2) (dK (ch e 1))=true)(hn:aR c en "tuple"=some (.val (.type "tuple")))(hx:(lv c n).iv en σ (ch (ch e 1) 2)=some (.ok x σ))(ht:aC σ x=some t)
 (hS:S σ) (tl:aE S t (as.map f)) (hl:as.length<4096) (hb:nj c n e en σ as f b F) (hs: ∀a∈as,jJ (F a)=true):(lv c (n+1)).ev en σ e=some (.ok (.tup (as.map F)) σ):=by
 refine kN he (tT hf hn hx ht (wB hS tl hl hb.step ⟨_,rfl⟩) ?_ (by rw[GO];exact ER ‹_› (by exact ac)))
 clear hb tl hl
 induction as with
 |nil=>rfl
 |cons a as ih=>exact Gi.mpr ⟨hs a (.head _),ih fun b hb=>hs b (.tail _ hb)⟩
noncomputable abbrev iN(e:Expr):Prop:=e= .ListComp (ch e 0) [⟨ch e 1,ch e 2,ec e,0⟩] (dK e) (ps e)
theorem kl(hz:acc.length<2^19):cD (σ++[aa.lst acc]) σ.length y=some (σ++[aa.lst (acc++[y])]):=by
 show(aI (σ++[aa.lst acc]) σ.length).bind _=_
 rw[aP (l:=acc) (by simp)]
 refine dP (ER ‹_› (by exact ac)) ?_
 simp[List.set_append]
theorem C0{S:Sg→Prop}{P:En→Prop}{as:List α}{f F:α→V}{k:α→Bool}(hS: ∀acc,S (σ++[aa.lst acc]))(ht:aE S t (as.map f)){w:Nat}(hl:as.length<w)(ha:acc.length+as.length<az)
 (hb: ∀a∈as,∀en acc,P en→ ∃en',P en'∧g target en (σ++[aa.lst acc]) (f a)=some (en',σ++[aa.lst acc])∧bJ tr en' (σ++[aa.lst acc]) ifs=some (k a,σ++[aa.lst acc])∧(k a=true→ev en' (σ++[aa.lst acc]) elt=some (.ok (F a) (σ++[aa.lst acc])))) (hp:P en):
 cE g tr ev target ifs elt σ.length w en (σ++[aa.lst acc]) t=some (σ++[aa.lst (acc++(as.filter k).map F)]):=by
 induction as generalizing t en w acc with
 |nil=>cases w with
  |zero=>exact absurd hl (Ih _)
  |succ w=>exact(G4 acc).symm▸nd (ht.nil (hS _))
 |cons a as ih=>cases w with
  |zero=>exact absurd hl (Ih _)
  |succ w=>
   refine aL ht.cons fun t' h' hn=> ?_;refine nB (hb a (.head _) en acc hp) fun en' hp' h1 h2 h3=> ?_;have hb':=fun b m=>hb b (.tail _ m)
   cases hk:k a with
   |true=>
    rw[hk]at h2
    rw[m7 (hn _ (hS _)) h1 h2 (h3 hk) (kl (H8 (H4 ..) (H_ ha (H9 rfl)))),ih h' (Ij hl) (by rw[G6];exact(congrArg (· <az) (IA ..)).mpr ha) hb' hp',G0,List.filter_cons_of_pos hk];rfl
   |false=>
    rw[hk]at h2;rw[lJ (hn _ (hS _)) h1 h2,List.filter_cons_of_neg (hk▸Gk)];exact ih h' (Ij hl) (Iw ha) hb' hp'
theorem Aa{S:Sg→Prop}{P:En→Prop}{as:List α}{f F:α→V}{k:α→Bool}(hS: ∀acc,S (σ++[aa.lst acc]))(ht:aE S t (as.map f))(hl:as.length<az)
 (hb: ∀a∈as,∀en acc,P en→ ∃en',P en'∧g target en (σ++[aa.lst acc]) (f a)=some (en',σ++[aa.lst acc])∧bJ tr en' (σ++[aa.lst acc]) ifs=some (k a,σ++[aa.lst acc])∧(k a=true→ev en' (σ++[aa.lst acc]) elt=some (.ok (F a) (σ++[aa.lst acc])))) (hp:P en):
 cE g tr ev target ifs elt σ.length az en (σ++[aa.lst []]) t=some (σ++[aa.lst ((as.filter k).map F)]):=C0 (acc:=[]) hS ht hl (by rw[List.length_nil,Ix];exact hl) hb hp
noncomputable def EJ(c:Cx)(n:Nat)(e:Expr)(en:En)(σ:Sg)(as:List α)(f:α→V)(b:α→List (Str×V))(P:List (Str×V)→Prop)(k:α→Bool)(F:α→V):Prop:=
 ∀a∈as,∀own acc,P own→P (b a++own)∧du 8 (ch e 1) ⟨am (dK e).names en,own,en.fre,none⟩ (σ++[aa.lst acc]) (f a)=some (⟨am (dK e).names en,b a++own,en.fre,none⟩,σ++[aa.lst acc])∧
  bJ (lv c n).tr ⟨am (dK e).names en,b a++own,en.fre,none⟩ (σ++[aa.lst acc]) (ec e)=some (k a,σ++[aa.lst acc])∧
  (k a=true→(lv c n).ev ⟨am (dK e).names en,b a++own,en.fre,none⟩ (σ++[aa.lst acc]) (ch e 0)=some (.ok (F a) (σ++[aa.lst acc])))
noncomputable abbrev hY(en:En)(e:Expr):Bool:=dq (ch e 2)&&(dK e).kind== .function&&dU (dK e).names en
theorem nR{S:Sg→Prop}{x:IV}{as:List α}{f F:α→V}{b:α→List (Str×V)}{P:List (Str×V)→Prop}{k:α→Bool}(hf:hY en e=true)(hx:(lv c n).iv en σ (ch e 2)=some (.ok x σ))(ht:aC σ x=some t)(hS: ∀acc,S (σ++[aa.lst acc]))(tl:aE S t (as.map f))(hl:as.length<4096)
 (hp:P (dX (dK e).names en).own) (hb:EJ c n e en σ as f b P k F):cj (lv c n).iv (lv c n).tr (lv c n).ev en σ (ch e 0) [⟨ch e 1,ch e 2,ec e,0⟩] (dK e)=some (.ok (.lst σ.length) (σ++[aa.lst ((as.filter k).map F)])):=by
 refine oH hf hx ht (Aa (P:=fun en'=> ∃own,en'=⟨am (dK e).names en,own,en.fre,none⟩∧P own) hS tl hl ?_ ⟨_,rfl,hp⟩);rintro a ha _ acc ⟨own,rfl,hp⟩;refine uq (hb a ha own acc hp) fun h0 h1 h2 h3=> ?_;exact⟨_,⟨_,rfl,h0⟩,h1,h2,h3⟩
theorem jR(he:iN e)(h:cj (lv c n).iv (lv c n).tr (lv c n).ev en σ (ch e 0) [⟨ch e 1,ch e 2,ec e,0⟩] (dK e)=some (.ok y KE)):(lv c (n+1)).ev en σ e=some (.ok y KE):=
 (congrArg ((lv c (n+1)).ev en σ) he).trans h
end
end
section
noncomputable abbrev pP(p:Int×Int):V:=V.tup [.int p.1,.int p.2]
noncomputable abbrev vI(l:List Int):V:= .tup (l.map V.int)
noncomputable abbrev vP(l:List (Int×Int)):V:= .tup (l.map pP)
noncomputable def qi(X:Xp)(a:Addr):List Value:=(jX (KK X.P) (dY X a)).getD []
noncomputable def d8(X:Xp)(a:Addr):Bool:=(lY (KK X.P) a).isSome&&kH (KK X.P) (dY X a)&&(jX (KK X.P) (dY X a)).isSome&&(match(dY X a).body with| .stmts _=>true|_=>false)
theorem bp{X:Xp}{ks:List (Str×V)}(hp:d8 X a=true)(hb:eW ((dY X a).params.args.map (·.arg)) xs ks ((qi X a).map xM)=some binds)(hk:hZ (dY X a).scope.names binds=true)
 (h:(lv (cc X) n).exs (ah X a binds.reverse) σ (aD X a)=some so) (ho:il so=some o):(lv (cc X) (n+1)).cf σ a xs ks=some o:=by
 unfold d8 at hp;simp only[Gj]at hp;obtain⟨⟨⟨h1,h2⟩,h3⟩,h4⟩:=hp;obtain⟨fd,hfd⟩:=IF.mp h1
 have e1:dY X a=fd:=by unfold dY;rw[hfd];rfl
 obtain⟨ds,hds⟩:=IF.mp h3
 have e2:qi X a=ds:=by unfold qi;rw[hds];rfl
 have e3:(dY X a).body= .stmts (aD X a):=by
  unfold aD
  cases hB:(dY X a).body with
  |stmts b=>rfl
  |_=>rw[hB]at h4;exact bM h4
 rw[←e1]at hfd;rw[e2]at hb;exact Ew hfd h2 e3 hds hb hk h ho
theorem eR{X:Xp}{ks:List (Str×V)}(hp:d8 X a=true)(h:(lv (cc X) n).cf σ a xs ks=some (.ok y KE)):aJ (cc X) (lv (cc X) n).cf σ (.ref a) (xs.map .v) ks=some (.ok (.v y) KE):=by
 unfold d8 at hp;simp only[Gj]at hp;refine oE (IF.mp hp.1.1.1) fun fd hfd=> ?_;exact AI hfd h rfl
theorem gG{X:Xp}{ks:List (Str×V)}{y:String}(hp:d8 X a=true)(h:(lv (cc X) n).cf σ a xs ks=some (.exc y KE)):aJ (cc X) (lv (cc X) n).cf σ (.ref a) (xs.map .v) ks=some (.exc y KE):=by
 unfold d8 at hp;simp only[Gj]at hp;obtain⟨fd,hfd⟩:=IF.mp hp.1.1.1;exact AI hfd h rfl
theorem zx{x y:Int}(he:e= .IfExp (ch e 0) (ch e 1) (ch e 2) (ps e))(h0:(lv c n).tr en σ (ch e 0)=some (.ok b σ))(h1:b=true→(lv c n).ev en σ (ch e 1)=some (.ok (.int x) σ))(h2:b=false→(lv c n).ev en σ (ch e 2)=some (.ok (.int y) σ)):(lv c (n+1)).ev en σ e=some (.ok (.int (bif b then x else y)) σ):=by
 rw[CW he h0 h1 h2];cases b<;>rfl
variable {X:Xp}
noncomputable def dT(ss ts:List Int):List Int:=(ss.zip ts).map fun p=>bif p.1==1 then 0 else p.2
noncomputable abbrev DV(X:Xp):=sx (St X 711 0) 0
theorem An(ss ts:List Int)(hl:ss.length<4096)(σ:Sg)(n:Nat):(lv (cc X) (n+10)).cf σ 711 [vI ss,vI ts] []=some (.ok (vI (dT ss ts)) σ):=by
 refine bp (a:=711) ac (binds:=[("shape",vI ss),("strides",vI ts)]) ⋯ ac (so:= .ok (.ret (vI (dT ss ts))) (ah X 711 [("strides",vI ts),("shape",vI ss)]) σ) ?_ rfl
 rw[show aD X 711=[.Return (some (DV X)) (kq (St X 711 0))]from rfl]
 refine aq (vH ?_);have:=gP (c:=cc X) (n:=n+7) (σ:=σ) (e:=DV X) (en:=ah X 711 [("strides",vI ts),("shape",vI ss)]) (t:= .zip [.seq (ss.map V.int) 0,.seq (ts.map V.int) 0]) (as:=ss.zip ts) (f:=fun p=> .tup [.int p.1,.int p.2])
  (b:=fun p=>[("st",.int p.2),("s",.int p.1)]) (F:=fun p=> .int (bif p.1==1 then 0 else p.2)) rfl ac rfl rfl rfl (S:=fun u_=>True) trivial (a_ (ai _ _) (ai _ _)) (by rw[GS];exact mft ‹_›)
  (fun p u_ own=>⟨rfl,zx rfl (bx rfl aA rfl rfl rfl) (fun u_=>rfl) (fun u_=>rfl)⟩) (fun p u_=>rfl)
 rw[show(ss.zip ts).map (fun p=>V.int (bif p.1==1 then 0 else p.2))=(dT ss ts).map V.int from(Ha ..).symm]at this
 exact this
theorem ij(ss ts:List Int):(dT ss ts).length=min ss.length ts.length:=by simp[dT]
end
section
section
theorem Ef{fs:eC}{S:Sg→Prop}{I:Nat→En→Sg→Prop}{as:List α}{f:α→V}(hL: ∀i en σ,I i en σ→σ.length≤L)(hS: ∀i en σ,I i en σ→S σ)(ht:aE S t (as.map f))(hl:as.length<az)(hn: ∀en σ,fs en σ []=some (.ok .next en σ))(h0:I 0 en σ)
 (step: ∀i (hi:i<as.length) en σ,I i en σ→ ∃KU KE K' KI,g target en σ (f as[i])=some (KU,KE)∧fs KU KE body=some (.ok .next K' KI)∧I (i+1) K' KI):
 ∃en' KD,I as.length en' KD∧gw L g fs target body [] az en σ t=some (.ok .next en' KD):=by
 refine aL ht fun ts zz1 h=> ?_;subst zz1
 have key: ∀(m k i:Nat) (en:En) (σ:Sg),i+m=as.length→I i en σ→ ∃en' KD,I as.length en' KD∧gw L g fs target body [] (m+k+1) en σ (ts i)=some (.ok .next en' KD):=by
  intro m
  induction m with
  |zero=>
   intro k i en σ hi hp
   have hi:i=as.length:=by assumption
   subst hi;refine⟨en,σ,hp,?_⟩;have e:=(h σ (hS _ _ _ hp)).2;rw[GO]at e
   refine(show 0+k+1=k+1 from by simp+arith).symm▸ ?_
   exact qx e (hn _ _)
  |succ m ih=>
   intro k i en σ hi hp
   have hlt:i<as.length:=by exact EU ‹_›
   refine bN (step i hlt en σ hp) fun KU KE K' KI h1 h2 h3=> ?_;refine bc (ih k (i+1) K' KI (Ej ‹_›) h3) fun en' KD h4 h5=> ?_;refine⟨en',KD,h4,?_⟩
   have hx:=(h σ (hS _ _ _ hp)).1 i (f as[i]) (by simp[hlt])
   refine(show m+1+k+1=(m+k+1)+1 from by simp+arith).symm▸ ?_
   generalize m+k+1=w at h5⊢;have hc:jS L (ts (i+1)) K' KI=(K',KI):=if_pos (hL _ _ _ h3);rw[m8 hx h1 h2];show gw L g fs target body [] w _ _ _=_;rw[hc];exact h5
 refine bc (key as.length (az-1-as.length) 0 en σ (by simp+arith) h0) fun en' KD h1 h2=> ?_
 rw[show as.length+(az-1-as.length)+1=az from by exact EN ‹_›]at h2
 exact⟨en',KD,h1,h2⟩
theorem rE{S:Sg→Prop}(as:List α)(f:α→V)(hl:as.length≤2^20):aE S (.revt (as.map f) as.length) (as.reverse.map f):=by
 refine⟨fun i=> .revt (as.map f) (as.length-i),rfl,fun σ u_=>⟨fun i x hx=> ?_,?_⟩⟩
 ·have hi:i<as.length:=by
   have:=(G1.mp hx).1;simpa using this
  obtain⟨k,hk⟩: ∃k,as.length-i=k+1:=⟨as.length-i-1,by exact rt0 ‹_›⟩
  have hk':as.length-(i+1)=k:=by exact rt1 ‹_›
  have e:(as.map f)[k]? =some x:=by
   rw[←hx,List.map_reverse,List.getElem?_reverse (by simpa using hi)]
   congr 1;simp;exact rt2 ‹_›
  refine(?_:ay σ (.revt (as.map f) (as.length-i))=some (some (x,.revt (as.map f) (as.length-(i+1)))));rw[hk,hk'];show((as.map f)[k]?).bind _=_;rw[e]
  exact if_pos (by rw[GO];exact hl)
 ·as_aux_lemma=>
   refine(?_:ay σ (.revt (as.map f) (as.length-(as.reverse.map f).length))=_)
   refine(show as.length-(as.reverse.map f).length=0 from by simp).symm▸ ?_
   rfl
theorem qp(h:σ[k]? =some (.lst l)):iA c σ (.lst k) "append"=some (.builtin "list.append",[.lst k]):=by
 show(aI σ k).bind _=_;rw[aP h];rfl
theorem ur{p:V}(hk:σ[k]? =some (.lst (acc++[p]))):gr σ (.lst k) (-1)=some p:=by
 show(aI σ k).bind _=_;rw[aP hk];show gF _ _=_;unfold gF
 refine dP (by decide) ?_
 have:seqIndex? (-1) (acc++[p]).length=some acc.length:=by
  simp[seqIndex?]
  try simp+arith
 refine(this).symm▸ ?_;simp
theorem jx{cf:cb}(h:σ[k]? =some (.lst l))(hl:l.length≤2^20):aJ c cf σ (.type "tuple") [.v (.lst k)] []=some (.ok (.v (.tup l)) σ):=by
 have:aJ c cf σ (.type "tuple") [.v (.lst k)] []=((qS σ (.lst k)).map fun l=>aG.ok (IV.v (.tup l)) σ).or (ou σ [.v (.lst k)] []):=rfl;rw[this];show(((aI σ k).bind _).map _).or _=_;rw[aP h]
 show((if _ then _ else none:Option _).map _).or _=_
 rw[if_pos hl];rfl
theorem uo{cf:cb}(h:cD σ k y=some KE):aJ c cf σ (.builtin "list.append") [.v (.lst k),.v y] []=some (.ok (.v .none) KE):=by
 have:aJ c cf σ (.builtin "list.append") [.v (.lst k),.v y] []=(cD σ k y).map fun KD=> .ok (.v .none) KD:=rfl;rw[this,h];rfl
theorem Cz{v:V}{lo hi st:Option Expr}{sp:Pos}{l u t:V}{l' u' t':Option Int}(he:e= .Subscript (ch e 0) (.Slice lo hi st sp) (ps e))(h1:(lv c n).ev en σ (ch e 0)=some (.ok v σ))(h2:gu (lv c n).ev en σ lo=some (.ok l σ))(h3:gu (lv c n).ev en σ hi=some (.ok u σ))(h4:gu (lv c n).ev en σ st=some (.ok t σ))
 (p1:gE l=some l') (p2:gE u=some u') (p3:gE t=some t') (h5:cz σ v l' u' t'=some (y,KE)):(lv c (n+1)).ev en σ e=some (.ok y KE):=
 (congrArg ((lv c (n+1)).ev en σ) he).trans (xH h1 h2 h3 h4 p1 p2 p3 h5)
theorem Ev{s:Stmt}(hs:s= .Expr (sx s 0) (kq s))(hc:cq (sx s 0)=true)(h:(lv c n).ev en σ (sx s 0)=some (.ok y KE))(hy:aY y=true):aT c (lv c n) en σ s=some (.ok .next en KE):=
 (congrArg (aT c (lv c n) en σ) hs).trans (x9 hc h hy)
theorem dB{s:Stmt}(hs:s= .Return (some (sx s 0)) (kq s))(h:(lv c n).ev en σ (sx s 0)=some (.ok y KE)):aT c (lv c n) en σ s=some (.ok (.ret y) en KE):=
 (congrArg (aT c (lv c n) en σ) hs).trans (vH h)
theorem CJ{s:Stmt}{v:Bool}{o:aM}(hs:s= .If (sx s 0) (ak s) (cW s) (kq s))(h1:(lv c n).tr en σ (sx s 0)=some (.ok v KE))(h2:(lv c n).exs en KE (bif v then ak s else cW s)=some o):aT c (lv c n) en σ s=some o:=
 (congrArg (aT c (lv c n) en σ) hs).trans (Db h1 (by cases v<;>exact h2))
theorem cm{s:Stmt}{x:Str}(hs:s= .Assign [.Name x xp] (sx s 0) (kq s))(hc:cq (sx s 0)=true)(hx:bH en x=true)(h:(lv c n).ev en σ (sx s 0)=some (.ok y KE)):aT c (lv c n) en σ s=some (.ok .next (en.set x y) KE):=
 (congrArg (aT c (lv c n) en σ) hs).trans (BN hc hx h)
theorem BW{s:Stmt}{x:IV}{o:aM}(hs:s= .For (sx s 0) (sx s 1) (ak s) (cW s) (kq s))(hn:dq (sx s 1)=true)(hx:(lv c n).iv en σ (sx s 1)=some (.ok x KE))(ht:aC KE x=some t)(h:gw KE.length (eL c (lv c n).ev 8) (lv c n).exs (sx s 0) (ak s) (cW s) az en KE t=some o):
 aT c (lv c n) en σ s=some o:=
 (congrArg (aT c (lv c n) en σ) hs).trans (A2 hn hx ht h)
theorem cy{s:Stmt}{v:Bool}(hs:s= .Assert (sx s 0) none (kq s))(h:(lv c n).tr en σ (sx s 0)=some (.ok v KE)):aT c (lv c n) en σ s=some (if v then .ok .next en KE else .exc "AssertionError" en KE):=
 (congrArg (aT c (lv c n) en σ) hs).trans (sW h)
end
end
section
variable {X:Xp}
theorem be{a:Int}(h:a.natAbs≤k)(hk:k<2^62):bG a=true:=by
 unfold bG;exact decide_eq_true (H8 ‹_› ‹_›)
theorem gH{a b:Int}(ha:bG a=true)(hb:bG b=true):m4 σ .Mult (.int a) (.int b)=some (.int (a*b),σ):=by
 show(if(bG a&&bG b)=true then some (a*b)else none).map _=_
 rw[ha,hb];rfl
noncomputable def bR(l:List Int):Prop:=l.length≤4∧ ∀s∈l,s.natAbs≤1000
noncomputable abbrev jV(X:Xp):=St X 718 2
noncomputable abbrev FA(X:Xp):=sx (si (ak (jV X)) 0) 0
theorem rL(own:List (Str×V)):aR (cc X) (ah X 718 own) "strides"=own.lookup ("strides":Str):=rfl
theorem Ce(own:List (Str×V)):aR (cc X) (ah X 718 own) "shape"=own.lookup ("shape":Str):=rfl
theorem Eb(own:List (Str×V)):aR (cc X) (ah X 718 own) "s"=own.lookup ("s":Str):=rfl
theorem x_{own:List (Str×V)}{p a:Int}(n:Nat)(hst:own.lookup ("strides":Str)=some (.lst σ.length))(hp:bG p=true)(ha:bG a=true)(hz:acc.length≤1000):
 (lv (cc X) (n+12)).exs (ah X 718 (("s",.int a)::own)) (σ++[aa.lst (acc++[.int p])]) (ak (jV X))=some (.ok .next (ah X 718 (("s",.int a)::own)) (σ++[aa.lst (acc++[.int p]++[.int (p*a)])])):=by
 have hσ:(σ++[aa.lst (acc++[V.int p])])[σ.length]? =some (.lst (acc++[V.int p])):=by exact G8
 have hst':G5 ("strides":Str) (("s",V.int a)::own)=some (.lst σ.length):=hst
 rw[show ak (jV X)=[si (ak (jV X)) 0]from rfl]
 refine aq (Ev (y:= .none) rfl ac (kr ac (gq (name:="append") (args:=[ch (FA X) 1]) (x:= .lst σ.length) (fv:= .builtin "list.append") (first:=[.lst σ.length]) (vs:=[.v (.int (p*a))])
  rfl ac (bT (x:="strides") rfl (by rw[rL];exact hst')) (qp hσ) ac (kQ ac (bz aA
   (cL (op:= .Mult) (x:= .int p) (y:= .int a) rfl (cZ (x:= .lst σ.length) (i:= -1) rfl ac (bT (x:="strides") rfl (by rw[rL];exact hst')) rfl (ur hσ))
    (bT (x:="s") rfl (by rw[Eb];rfl)) (gH hp ha)))) (uo (kl (by simp;exact FD ‹_› (by exact ac)))))) rfl)
theorem yq(n:Nat)(r:List Int)(hs:bR r)(ss:V)(σ:Sg):
 ∃(own':List (Str×V)) (acc:List Int),acc.length=r.length+1∧own'.lookup ("strides":Str)=some (.lst σ.length)∧own'.lookup ("shape":Str)=some ss∧
  gw (σ++[aa.lst [V.int 1]]).length (eL (cc X) (lv (cc X) (n+12)).ev 8) (lv (cc X) (n+12)).exs (sx (jV X) 0) (ak (jV X)) [] az (ah X 718 [("strides",.lst σ.length),("shape",ss)]) (σ++[aa.lst [.int 1]]) (.revt (r.map V.int) r.length)=
   some (.ok .next (ah X 718 own') (σ++[aa.lst (acc.map V.int)])):=by
 have:=Ef (en:=ah X 718 [("strides",.lst σ.length),("shape",ss)]) (σ:=σ++[aa.lst [.int 1]]) (g:=eL (cc X) (lv (cc X) (n+12)).ev 8) (fs:=(lv (cc X) (n+12)).exs) (target:=sx (jV X) 0) (body:=ak (jV X)) (as:=r.reverse) (f:=V.int)
  (I:=fun i en KD=> ∃(own:List (Str×V)) (acc:List Int) (p:Int),en=ah X 718 own∧own.lookup ("strides":Str)=some (.lst σ.length)∧own.lookup ("shape":Str)=some ss∧KD=σ++[aa.lst (acc.map V.int++[V.int p])]∧acc.length=i∧p.natAbs≤1000^i)
  (L:=(σ++[aa.lst [V.int 1]]).length) (S:=fun u_=>True) (by rintro _ _ _ ⟨_,_,_,_,_,_,rfl,_⟩;simp) (fun u_ u_ u_ u_=>trivial) (rE r V.int (by have:=hs.1;exact bg ‹_› (by exact ac))) (by rw[HQ];have:=hs.1;show r.length<4096;exact fA ‹_› (by exact ac)) (fun u_ u_=>rfl) ⟨_,[],1,rfl,rfl,rfl,rfl,rfl,by exact HY _⟩ ?_
 ·obtain⟨en',KD,⟨own,acc,p,rfl,h1,h2,rfl,h3,_⟩,h4⟩:=this
  refine⟨own,acc++[p],by simp[h3],h1,h2,?_⟩
  refine(h4).symm▸ ?_;simp
 ·rintro i hi _ _ ⟨own,acc,p,rfl,h1,h2,rfl,h3,h4⟩
  have hi':i<4:=by have:=hs.1;rw[HQ]at hi;exact H_ (by assumption) (by assumption)
  have hb:=hs.2 _ (List.mem_reverse.mp (Hd hi))
  have hp:bG p=true:=be h4 (H8 (Nat.pow_le_pow_right (by exact HZ _) (Ib hi')) (by decide))
  have ha:bG r.reverse[i]=true:=be hb (by decide)
  have t:=x_ (X:=X) (own:=own) (σ:=σ) (acc:=acc.map V.int) (p:=p) (a:=r.reverse[i]) n h1 hp ha (by rw[GO];exact l9 ‹_› ‹_› (by exact ac))
  refine⟨_,_,_,_,show eL (cc X) _ 8 _ _ _ _=some (ah X 718 (("s",.int r.reverse[i])::own),_)from rfl,t,_,acc++[p],p*r.reverse[i],rfl,h1,h2,by simp,by simp[h3],?_⟩
  rw[Int.natAbs_mul,Nat.pow_succ];exact Nat.mul_le_mul h4 hb
noncomputable abbrev wa(X:Xp):=sx (St X 718 3) 0
theorem sfs(a:Int)(r:List Int)(hs:bR (a::r))(σ:Sg)(n:Nat): ∃(ts:List Int) (ext:Sg),ts.length=r.length+1∧(lv (cc X) (n+32)).cf σ 718 [vI (a::r)] []=some (.ok (vI ts) (σ++ext)):=by
 have hl:=hs.1;rw[G_]at hl
 have hr:bR r:=⟨by exact Ib (by assumption),fun s h=>hs.2 s (HL _ h)⟩
 refine bU (yq (X:=X) (n+18) r hr (vI (a::r)) σ) fun own acc k1 k2 k3 k4=> ?_
 refine⟨dT (a::r) acc.reverse,[aa.lst (acc.map V.int),aa.lst (acc.map V.int).reverse],by rw[ij,HQ,G_];exact Dx ‹_›,?_⟩
 refine bp (a:=718) (so:= .ok (.ret (vI (dT (a::r) acc.reverse))) (ah X 718 own) (σ++[aa.lst (acc.map V.int),aa.lst (acc.map V.int).reverse])) ac (binds:=[("shape",vI (a::r))]) ⋯ ac ?_ rfl
 rw[show aD X 718=[St X 718 0,St X 718 1,jV X,St X 718 3]from rfl]
 have t0:bu σ (vI (a::r))=some true:=by
  refine(?_:(if _≤2^20 then some _ else _)=_)
  rw[if_pos (by simp;exact FK ‹_› (by exact ac))];rfl
 have hσ:(σ++[aa.lst (acc.map V.int)])[σ.length]? =some (.lst (acc.map V.int)):=by exact G8
 refine ab (CJ (v:=false) (o:= .ok .next (ah X 718 [("shape",vI (a::r))]) σ) rfl (BP (b:=true) rfl (dz ac (bT (x:="shape") (y:=vI (a::r)) rfl rfl) t0)) rfl) ?_;refine ab (KD:=σ++[aa.lst [.int 1]]) (en':=ah X 718 [("strides",.lst σ.length),("shape",vI (a::r))]) rfl ?_
 refine ab (BW (x:= .it (.revt (r.map V.int) r.length)) (KE:=σ++[aa.lst [.int 1]]) rfl ac ?_ rfl ((congrArg (fun z=>gw _ _ _ _ _ z az _ _ _) (show cW (jV X)=[]from rfl)).trans k4)) ?_
 ·refine cJ (x:="reversed") (args:=[ch (sx (jV X) 1) 1]) (fv:= .type "reversed") (vs:=[.v (.tup (r.map V.int))]) (KE:=σ++[aa.lst [.int 1]]) rfl rfl rfl ac
   (kQ ac (bz aA (Cz (v:=vI (a::r)) (lo:=some (ch (ch (ch (sx (jV X) 1) 1) 1) 0)) (hi:=none) (st:=none) (sp:=ps (ch (ch (sx (jV X) 1) 1) 1)) (l:= .int 1) (u:= .none) (t:= .none) (l':=some 1) (u':=none) (t':=none) rfl rfl rfl rfl rfl rfl rfl rfl (q_ (by simp;exact FK ‹_› (by exact ac)))))) ?_
  have:aJ (cc X) (lv (cc X) (n+29)).cf (σ++[aa.lst [V.int 1]]) (.type "reversed") [.v (.tup (r.map V.int))] []=if(r.map V.int).length≤2^20 then some (.ok (.it (.revt (r.map V.int) (r.map V.int).length)) (σ++[aa.lst [V.int 1]]))else none:=rfl
  refine(?_:aJ _ _ _ (.type "reversed") [.v (.tup (r.map V.int))] []=_)
  rw[this,if_pos (by simp;exact FK ‹_› (by exact ac)),GO]
 refine aq (dB rfl (kr ac (cJ (x:="canonicalize_strides") (args:=[ch (wa X) 1,ch (wa X) 2]) (fv:= .ref 711) (vs:=[.v (vI (a::r)),.v (vI acc.reverse)]) (KE:=σ++[aa.lst (acc.map V.int),aa.lst (acc.map V.int).reverse]) rfl rfl rfl ac
  (Ag (KE:=σ++[aa.lst (acc.map V.int)]) ac (bz aA (bT (x:="shape") rfl (by rw[Ce];exact k3)))
   (cJ (x:="tuple") (args:=[ch (ch (wa X) 2) 1]) (fv:= .type "tuple") (vs:=[.v (.lst (σ.length+1))]) (KE:=σ++[aa.lst (acc.map V.int),aa.lst (acc.map V.int).reverse]) rfl rfl rfl ac
    (kQ ac (bz aA (Cz (v:= .lst σ.length) (lo:=none) (hi:=none) (st:=some (ch (ch (ch (ch (wa X) 2) 1) 1) 2)) (sp:=ps (ch (ch (ch (wa X) 2) 1) 1)) (l:= .none) (u:= .none) (t:= .int (-1)) (l':=none) (u':=none) (t':=some (-1)) (y:= .lst (σ.length+1)) rfl (bT (x:="strides") rfl (by rw[rL];exact k2)) rfl rfl rfl rfl rfl rfl ?_))) ?_)) (eR (X:=X) (xs:=[vI (a::r),vI acc.reverse]) ac (An (a::r) acc.reverse (by rw[G_];exact fA ‹_› (by exact ac)) _ (n+19))))))
 ·as_aux_lemma=>
   have:=rq (σ:=σ++[aa.lst (acc.map V.int)]) hσ (by rw[GO];exact dI ‹_› ‹_› (by exact ac))
   rw[this];simp
 ·have e:(σ++[aa.lst (acc.map V.int),aa.lst (acc.map V.int).reverse])[σ.length+1]? =some (.lst (acc.map V.int).reverse):=by simp
  refine(jx e (by simp;exact dI ‹_› ‹_› (by exact ac))).trans ?_
  rw[←List.map_reverse]
end
section
theorem fX{s:Stmt}(hs:s= .Assign [sx s 1] (sx s 0) (kq s))(hc:cq (sx s 0)=true)(hsw:jq en (sx s 1) (sx s 0)=some none)(h:(lv c n).ev en σ (sx s 0)=some (.ok y KE))(ha:eL c (lv c n).ev 8 (sx s 1) en KE y=some (en',KD)):aT c (lv c n) en σ s=some (.ok .next en' KD):=by
 refine(congrArg (aT c (lv c n) en σ) hs).trans ?_;generalize sx s 0=e at hc hsw h⊢
 have:hW c (lv c n).ev en σ (sx s 1) e=some (.ok .next en' KD):=by
  unfold hW;rw[if_pos hc,hsw];show bQ en _ _=_;rw[h];show(eL _ _ _ _ _ _ _).map _=_;rw[ha];rfl
 cases e<;>first
  |exact this
  |exact bM hc
theorem jl(hc:(decide (findIn c.K (.ref C) "__setattr__"=some (some (.builtin "object.__setattr__")))&&plainOver c.K C&&decide (takerIn c.K C name=some none)&&hasDictIn c.K C)=true)(hl:fs.length≤900):
 di c (σ++[aa.dct fs]) (.inst C σ.length) name y=some (σ++[aa.dct (tL name y fs)]):=by
 simp only[Gj,decide_eq_true_eq]at hc;refine dw fun kk=> ?_;obtain⟨⟨⟨h1,h2⟩,h3⟩,h4⟩:=hc<;>(refine kk ?_;clear kk)
 have e:fH (σ++[aa.dct fs]) σ.length=some fs:=by simp[fH,AH]
 show(fH _ _).bind _=_;rw[e];refine dP ⟨h1,h2,h3,h4,hl⟩ ?_;simp[List.set_append]
theorem fK(he:e= .Attribute (ch e 0) name (ps e))(ho:f en σ (ch e 0)=some (.ok x KE))(hs:di c KE x name y=some KI):eL c f (k+1) e en σ y=some (en,KI):=by
 rw[he];show(f en σ (ch e 0)).bind _=_;rw[ho];show(di c KE x name y).map _=_;rw[hs];rfl
theorem fy{t:Expr}{ts:List Expr}{r:Option (En×Sg)}(h:g t en σ y=some (en',KD))(k:fO g ts en' KD ys=r):fO g (t::ts) en σ (y::ys)=r:=by
 show(g t en σ y).bind _=_;rw[h];exact k
theorem zo{m:Nat}{p:Pos}{r:Option (En×Sg)}(he:e= .Tuple es m p)(hs:al es=true)(h:fO (eL c f k) es en σ l=r):eL c f (k+1) e en σ (.tup l)=r:=by
 rw[he]
 show(if al es=true then _ else none)=_
 first|with_reducible refine cV hs ?_|with_reducible refine dP hs ?_;exact h
noncomputable abbrev CK:List String:=["shape","strides","offset","mask","contiguous"]
noncomputable def ag:Addr:=match NM.lookup ("View":Str)with
 |some (.ref a)=>a
 |_=>0
theorem xT(X:Xp):(CK.all fun x=>(decide (findIn (cc X).K (.ref ag) "__setattr__"=some (some (.builtin "object.__setattr__")))&&plainOver (cc X).K ag&&decide (takerIn (cc X).K ag (Kq x)=some none)&&hasDictIn (cc X).K ag))=true:=by kernel_rfl
variable {X:Xp}
theorem i6{name:String}(hm:CK.contains name=true)(hl:fs.length≤900):di (cc X) (σ++[aa.dct fs]) (.inst ag σ.length) (Kq name) y=some (σ++[aa.dct (tL (Kq name) y fs)]):=
 jl (GZ.mp (xT X) name (HR.mp hm)) hl
noncomputable abbrev bf(S T O M B:V):List (Str×V):=[("shape",S),("strides",T),("offset",O),("mask",M),("contiguous",B)]
noncomputable abbrev vX(x S T O M B:V):List (Str×V):=[("self",x),("shape",S),("strides",T),("offset",O),("mask",M),("contiguous",B)]
noncomputable abbrev xG(x S T O M B:V):List (Str×V):=[("contiguous",B),("mask",M),("offset",O),("strides",T),("shape",S),("self",x)]
noncomputable abbrev pU(X:Xp):=sx (St X 754 0) 1
theorem jk(x S T' O M B:V)(σ:Sg)(n:Nat)(i:Nat)(hi:i<5):(lv (cc X) (n+1)).ev (ah X 754 (xG x S T' O M B)) σ (ch (ch (pU X) i) 0)=some (.ok x σ):=by
 revert i;refine qF ?_ ?_ ?_ ?_ ?_
 all_goals exact rfl
theorem zO{ks:List (Str×V)}(S T' O M B:V)(σ:Sg)(n:Nat)(hb:eW ((dY X 754).params.args.map (·.arg)) (.inst ag σ.length::xs) ks ((qi X 754).map xM)=some (vX (.inst ag σ.length) S T' O M B)):
 (lv (cc X) (n+12)).cf (σ++[aa.dct []]) 754 (.inst ag σ.length::xs) ks=some (.ok .none (σ++[aa.dct (bf S T' O M B)])):=by
 refine bp (a:=754) (so:= .ok .next (ah X 754 (xG (.inst ag σ.length) S T' O M B)) (σ++[aa.dct (bf S T' O M B)])) ac hb ac ?_ rfl
 rw[show aD X 754=[St X 754 0]from rfl]
 refine aq (fX rfl ac rfl rfl ?_);refine zo (es:=[ch (pU X) 0,ch (pU X) 1,ch (pU X) 2,ch (pU X) 3,ch (pU X) 4]) (m:=tk (pU X)) (p:=ps (pU X)) rfl ac ?_
 exact fy (fK (name:="shape") rfl (jk _ _ _ _ _ _ _ (n+9) 0 (by exact HZ _)) (i6 rfl (H9 rfl))) (fy (fK (name:="strides") rfl (jk _ _ _ _ _ _ _ (n+9) 1 (by decide)) (i6 rfl (H9 rfl)))
  (fy (fK (name:="offset") rfl (jk _ _ _ _ _ _ _ (n+9) 2 (by exact H7 ..)) (i6 rfl (H9 rfl))) (fy (fK (name:="mask") rfl (jk _ _ _ _ _ _ _ (n+9) 3 (by exact H3 _)) (i6 rfl (H9 rfl)))
   (fy (fK (name:="contiguous") rfl (jk _ _ _ _ _ _ _ (n+9) 4 (by exact H0 _)) (i6 rfl (H9 rfl))) rfl))))
theorem vL(l:List V):ox (l.map IV.v)=some l:=by
 induction l with
 |nil=>rfl
 |cons x l ih=>exact congrArg (Option.map (x:: ·)) ih
theorem rU{cf:cb}{fI:Addr}{ks:List (Str×V)}(h0:lY c.K C=none)(h1:makesIn c.K C=true)(h2:findIn c.K (.ref C) "__init__"=some (some (.ref fI)))(h3:typeIn c.K (.ref fI)=some (.type "function"))(h:cf (σ++[aa.dct []]) fI (.inst C σ.length::xs) ks=some (.ok .none KD)):
 aJ c cf σ (.ref C) (xs.map .v) ks=some (.ok (.v (.inst C σ.length)) KD):=by
 show(ox (xs.map IV.v)).bind _=_;rw[vL]
 have w:nH c cf σ C xs ks=some (.ok (.inst C σ.length) KD):=by
  refine(if_pos h1:(if _ then _ else none)=_).trans ?_
  rw[h2]
  refine(if_pos h3:(if _ then _ else none)=_).trans ?_
  rw[h];rfl
 show gv (match lY c.K C with|some _=>cf σ C xs ks|none=>nH c cf σ C xs ks)=_
 rw[h0];show gv (nH c cf σ C xs ks)=_;rw[w];rfl
theorem pw{ks:List (Str×V)}(S T' O M B:V)(σ:Sg)(n:Nat)(hb:eW ((dY X 754).params.args.map (·.arg)) (.inst ag σ.length::xs) ks ((qi X 754).map xM)=some (vX (.inst ag σ.length) S T' O M B)):
 aJ (cc X) (lv (cc X) (n+12)).cf σ (.ref ag) (xs.map .v) ks=some (.ok (.v (.inst ag σ.length)) (σ++[aa.dct (bf S T' O M B)])):=
 rU (fI:=754) rfl ac rfl rfl (zO S T' O M B σ n hb)
end
section
section
theorem BR{x:Str}{vs:List IV}{ks:List (Str×V)}{o:aG IV}(he:e= .Call (.Name x (ps (ch e 0))) args (yS e) (ps e))(hg:(yS e).isEmpty=false)(hx:aR c en x=some (.val fv))(hc:(al args&&ii (yS e)&&bK c.K fv)=true)
 (h1:dZ (lv c (n+1)).iv en σ args=some (.ok vs KE)) (hk:ue (lv c (n+1)).ev en KE (yS e)=some (.ok ks KI)) (h2:aJ c (lv c (n+1)).cf KI fv vs ks=some o):(lv c (n+2)).iv en σ e=some o:=by
 refine(congrArg ((lv c (n+2)).iv en σ) he).trans ?_;refine hX (jQ ?_ hx (fD (xs:=vs) (ks:=ks) hc h1 hk h2))
 refine(?_:(if(yS e).isEmpty=true then _ else none)=none)
 rw[hg];rfl
theorem fz(h:l.length≤2^20):bu σ (.tup l)=some (!l.isEmpty):=by
 show(if _≤2^20 then some _ else _)=_
 rw[if_pos h]
theorem kR(a:Int)(ss:List Int):eo σ .In (.int a) (vI ss)=some (ss.any (· ==a)):=by
 have h1: ∀p:V→Bool,(∀i,p (V.int i)=true)→(ss.map V.int).all p=true:=fun p hp=>by
  rw[List.all_map];exact GZ.mpr fun u_ u_=>hp _
 show(if _=true then some _ else none)=_
 rw[if_pos (h1 _ fun u_=>rfl),List.any_map];rfl
theorem oM{cf:cb}(h:l.length≤2^20):aJ c cf σ (.builtin "len") [.v (.tup l)] []=some (.ok (.v (.int l.length)) σ):=by
 have:aJ c cf σ (.builtin "len") [.v (.tup l)] []=(if l.length≤2^20 then some (l.length:Int)else none).map fun i=> .ok (.v (.int i)) σ:=rfl
 rw[this,if_pos h];rfl
theorem kM(h:k≤1000):m4 σ .Mult (.tup [x]) (.int k)=some (.tup (GT k x),σ):=by
 refine(wX rfl).trans ?_;unfold t7
 refine dP (by omega) ?_
 simp only[GA,HC,Nat.one_mul]
 refine dP (by omega) ?_
 have:(GT k [x]).flatten=GT k x:=by
  clear h
  induction k with
  |zero=>rfl
  |succ k ih=>rw[HE,HM,ih];rfl
 rw[this]
theorem ym{cf:cb}(h:σ[k]? =some (.lst (bs.map V.bool)))(hl:bs.length<4096):aJ c cf σ (.builtin "any") [.v (.lst k)] []=some (.ok (.v (.bool (bs.any id))) σ):=by
 have key: ∀(m w i:Nat),i+m=bs.length→vD σ (m+w+1) (.lst k i)=some ((bs.drop i).any id):=by
  intro m
  induction m with
  |zero=>
   intro w i hi
   obtain rfl:i=bs.length:=by assumption
   refine(show 0+w+1=w+1 from by simp+arith).symm▸ ?_
   have e:ay σ (.lst k bs.length)=some none:=CN (aP h) (by simp)
   show(ay _ _).bind _=_;rw[e,List.drop_length,List.any_nil];rfl
  |succ m ih=>
   intro w i hi
   have hlt:i<bs.length:=by exact EU ‹_›
   have e:ay σ (.lst k i)=some (some (V.bool bs[i],.lst k (i+1))):=nxl (aP h) (by simp[hlt])
   have r:=ih w (i+1) (Ej ‹_›)
   refine(show m+1+w+1=(m+w+1)+1 from by simp+arith).symm▸ ?_
   generalize m+w+1=z at r⊢;rw[List.drop_eq_getElem_cons hlt,Hu]
   cases hb:bs[i]with
   |true=>rw[hb]at e;show(ay _ _).bind _=_;rw[e];rfl
   |false=>rw[hb]at e;show(ay _ _).bind _=_;rw[e];exact r
 have:=key bs.length (4095-bs.length) 0 (by simp+arith)
 rw[show bs.length+(4095-bs.length)+1=4096 from by exact EN ‹_›]at this
 refine(?_:B9 σ [.v (.lst k)]=_);show(aC _ _).bind _=_;rw[fF h];show(vD _ _ _).map _=_;rw[this];rfl
theorem u5(n:Nat): ∀(a b:List Int),a.length<n→ ∃t,dN σ n (a.map V.int) (b.map V.int)=some t:=by
 induction n with
 |zero=>exact fun u_ u_ h=>absurd h (Ih _)
 |succ n ih=>
  intro a b h
  cases a with
  |nil=>cases b<;>exact⟨_,rfl⟩
  |cons x a=>
  cases b with
  |nil=>exact⟨_,rfl⟩
  |cons y b=>
  refine oE (ih a b (Ij h)) fun t ht=> ?_
  cases n with
  |zero=>exact absurd h (H1.mpr (H7 _ _))
  |succ n=>
   refine⟨(x==y)&&t,?_⟩;show((some (x==y)).bind fun p=>(dN σ (n+1) (a.map V.int) (b.map V.int)).map fun q=>p&&q)=_;rw[ht];rfl
theorem yn(a b:List Int)(h:a.length<190): ∃t,eo σ .Eq (vI a) (vI b)=some t:=u5 199 a b (Df ‹_› (by exact ac))
end
end
section
section
variable {s:Stmt}
theorem tP(he:e= .IfExp (ch e 0) (ch e 1) (ch e 2) (ps e))(h0:(lv c n).tr en σ (ch e 0)=some (.ok true KE))(h1:(lv c n).ev en KE (ch e 1)=some o):(lv c (n+1)).ev en σ e=some o:=CU he h0 h1
theorem uH(he:e= .IfExp (ch e 0) (ch e 1) (ch e 2) (ps e))(h0:(lv c n).tr en σ (ch e 0)=some (.ok false KE))(h1:(lv c n).ev en KE (ch e 2)=some o):(lv c (n+1)).ev en σ e=some o:=CU he h0 h1
theorem eQ{o:aM}(hs:s= .If (sx s 0) (ak s) (cW s) (kq s))(h1:(lv c n).tr en σ (sx s 0)=some (.ok true KE))(h2:(lv c n).exs en KE (ak s)=some o):aT c (lv c n) en σ s=some o:=CJ hs h1 h2
theorem dy{o:aM}(hs:s= .If (sx s 0) (ak s) (cW s) (kq s))(h1:(lv c n).tr en σ (sx s 0)=some (.ok false KE))(h2:(lv c n).exs en KE (cW s)=some o):aT c (lv c n) en σ s=some o:=CJ hs h1 h2
end
noncomputable def dQ(X:Xp)(a:Addr)(x:Str):Bool:= !(x==("__debug__":Str))&&((dY X a).scope.names.lookup x).any fun k=> @NameKind.casesOn (fun u_=>Bool) k true true false false false
theorem ES{X:Xp}{x:Str}{own:List (Str×V)}{v:V}(hk:dQ X a x=true)(h:own.lookup x=some v):aR (cc X) (ah X a own) x=some v:=by
 unfold dQ at hk;refine oA (Gi.mp hk) fun h1 h2=> ?_;unfold aR
 refine Ab (by exact(fun {a}↦bi_not.mp) h1) ?_
 refine(?_:((dY X a).scope.names.lookup x).bind _=_)
 cases hl:(dY X a).scope.names.lookup x with
 |none=>rw[hl]at h2;exact bM h2
 |some k=>rw[hl]at h2;cases k<;>first|exact h|exact bM h2
theorem aW{X:Xp}{x:Str}{own:List (Str×V)}{v:V}(he:e= .Name x (ps e))(hk:dQ X a x=true)(h:own.lookup x=some v):(lv (cc X) (n+1)).ev (ah X a own) σ e=some (.ok v σ):=bT he (ES hk h)
variable {X:Xp}{own:List (Str×V)}
noncomputable abbrev FR(X:Xp):=sx (St X 772 0) 0
theorem EG(hs:own.lookup ("shape":Str)=some (vI ss))(hl:ss.length≤900)(n:Nat):(lv (cc X) (n+12)).tr (ah X 772 own) σ (FR X)=some (.ok (!(ss.all fun s=>decide (0≤s))) σ):=
 BP rfl (dz ac (iw (S:=fun u_=>True) (t:= .seq (ss.map V.int) 0) (as:=ss) (f:=V.int) (b:=fun a=>[("s",.int a)]) (F:=fun a=> .bool (decide (0≤a))) ⋯ ⋯ rfl
  (bz aA (aW rfl ac hs)) rfl trivial (ai _ _) (fA ‹_› (by exact ac)) (fun a u_ own=>⟨by kernel_rfl,rfl⟩) (fun u_ u_=>rfl)) rfl)
theorem Dh(hs:own.lookup ("shape":Str)=some (vI ss))(hl:ss.length≤900)(h: ∀s∈ss,0≤s)(n:Nat):aT (cc X) (lv (cc X) (n+12)) (ah X 772 own) σ (St X 772 0)=some (.ok .next (ah X 772 own) σ):=by
 refine CJ rfl (EG hs hl n) ?_;have:(ss.all fun s=>decide (0≤s))=true:=GZ.mpr fun s q=>decide_eq_true (h s q);rw[this];exact rfl
theorem AQ(hs:own.lookup ("shape":Str)=some (vI ss))(hl:ss.length≤900)(h: ∃s∈ss,s<0)(n:Nat):aT (cc X) (lv (cc X) (n+12)) (ah X 772 own) σ (St X 772 0)=some (.exc "ValueError" (ah X 772 own) σ):=by
 refine CJ rfl (EG hs hl n) ?_
 have:(ss.all fun s=>decide (0≤s))=false:=by
  refine aL h fun s h1 h2=> ?_
  exact List.all_eq_false.mpr ⟨s,h1,by simpa using h2⟩
 refine(this).symm▸ ?_;exact rfl
noncomputable abbrev xz(X:Xp):=sx (St X 772 1) 0
theorem AS{ts:List Int}(hs:own.lookup ("shape":Str)=some (vI ss))(ht:own.lookup ("strides":Str)=some (vI ts))(hl:ss.length≤900)(hl':ts.length≤900)(h0:ts≠[])(n:Nat):aT (cc X) (lv (cc X) (n+16)) (ah X 772 own) σ (St X 772 1)=some (.ok .next (ah X 772 (("strides",vI (dT ss ts))::own)) σ):=by
 refine cm rfl ac ac (tP rfl (dz ac (aW rfl ac ht) ?_) ?_)
 ·rw[fz (by rw[GO];exact bg ‹_› (by exact ac))]
  cases ts with
  |nil=>exact absurd rfl h0
  |cons=>rfl
 ·exact kr ac (cJ (e:=ch (xz X) 1) (args:=[ch (ch (xz X) 1) 1,ch (ch (xz X) 1) 2]) (fv:= .ref 711) (vs:=[.v (vI ss),.v (vI ts)]) rfl rfl rfl ac
   (Ag ac (bz aA (aW rfl ac hs)) (bz aA (aW rfl ac ht))) (eR (xs:=[vI ss,vI ts]) ac (An ss ts (fA ‹_› (by exact ac)) σ (n+4))))
theorem yb(hs:own.lookup ("shape":Str)=some (vI ss))(ht:own.lookup ("strides":Str)=some .none)(hl:bR ss)(h0:ss≠[])(n:Nat): ∃(ts:List Int) (ext:Sg),ts.length=ss.length∧aT (cc X) (lv (cc X) (n+38)) (ah X 772 own) σ (St X 772 1)=some (.ok .next (ah X 772 (("strides",vI ts)::own)) (σ++ext)):=by
 refine rh (HS h0) fun a r zz2=> ?_;subst zz2;refine bc (sfs (X:=X) a r hl σ (n+4)) fun ts ext h1 h2=> ?_;refine⟨ts,ext,h1,cm rfl ac ac (uH rfl (dz ac (aW rfl ac ht) rfl) ?_)⟩
 exact kr ac (cJ (e:=ch (xz X) 2) (args:=[ch (ch (xz X) 2) 1]) (fv:= .ref 718) (vs:=[.v (vI (a::r))]) rfl rfl rfl ac
  (kQ ac (bz aA (aW rfl ac hs))) (eR (xs:=[vI (a::r)]) ac h2))
noncomputable def aH(r:Option aM)(σ:Sg)(ss:List Int):Prop:= ∃en' KE T O M B,σ<+:KE∧r=some (.ok (.ret (.inst ag KE.length)) en' (KE++[aa.dct (bf (vI ss) T O M B)]))
theorem aH.next{l:List Stmt}(h1:aT c (lv c n) en σ st=some (.ok .next en' KD))(p:σ<+:KD)(h:aH ((lv c (n+1)).exs en' KD l) KD ss):aH ((lv c (n+1)).exs en σ (st::l)) σ ss:=by
 refine fM h fun en' KE T O M B h2 h3=> ?_;exact⟨en',KE,T,O,M,B,p.trans h2,ab h1 h3⟩
noncomputable abbrev Ba(X:Xp):=sx (si (ak (St X 772 2)) 0) 0
theorem zC{l:List Stmt}(hs:own.lookup ("shape":Str)=some (vI ss))(hl:ss.length≤900)(h:0∈ss)(n:Nat):aH ((lv (cc X) (n+21)).exs (ah X 772 own) σ (St X 772 2::l)) σ ss:=by
 refine⟨ah X 772 own,σ,.tup (GT ss.length (.int 0)),.int 0,.none,.bool true,GW _,?_⟩
 have e1:aT (cc X) (lv (cc X) (n+20)) (ah X 772 own) σ (St X 772 2)=some (.ok (.ret (.inst ag σ.length)) (ah X 772 own) (σ++[aa.dct (bf (vI ss) (.tup (GT ss.length (.int 0))) (.int 0) .none (.bool true))])):=by
  refine eQ rfl (bx rfl aA rfl (aW rfl ac hs) ?_) ?_
  ·rw[kR];have:ss.any (· ==0)=true:=List.any_eq_true.mpr ⟨0,h,rfl⟩
   exact congrArg _ (by assumption)
  ·rw[show ak (St X 772 2)=[si (ak (St X 772 2)) 0]from rfl]
   refine aq (dB rfl (kr ac (BR (args:=[ch (Ba X) 1,ch (Ba X) 2]) (fv:= .ref ag) (vs:=[vI ss,.tup (GT ss.length (.int 0))].map .v) (ks:=[("offset",.int 0),("mask",.none),("contiguous",.bool true)]) rfl aA rfl ⋯
    (Ag ac (bz aA (aW rfl ac hs)) (bz aA (cL rfl rfl ?_ (kM (bg ‹_› (by exact ac)))))) rfl (pw (vI ss) (.tup (GT ss.length (.int 0))) (.int 0) .none (.bool true) σ (n+6) ⋯))))
   exact kr ac (cJ (x:="len") (args:=[ch (ch (ch (Ba X) 2) 1) 1]) (fv:= .builtin "len") (vs:=[.v (vI ss)]) ⋯ ⋯ rfl ac (kQ ac (bz aA (aW rfl ac hs))) (by
    have:=oM (c:=cc X) (σ:=σ) (cf:=(lv (cc X) (n+15)).cf) (l:=ss.map V.int) (by rw[GO];exact bg ‹_› (by exact ac))
    rw[GO]at this
    exact this))
 show(aT (cc X) (lv (cc X) (n+20)) (ah X 772 own) σ (St X 772 2)).bind _=_;rw[e1];rfl
theorem AZ(hs:own.lookup ("shape":Str)=some (vI ss))(hl:ss.length≤900)(h:0∉ss)(n:Nat):aT (cc X) (lv (cc X) (n+20)) (ah X 772 own) σ (St X 772 2)=some (.ok .next (ah X 772 own) σ):=by
 refine dy rfl (bx rfl aA rfl (aW rfl ac hs) ?_) rfl;rw[kR]
 have:ss.any (· ==0)=false:=Hw.mpr fun x hx=>by
  intro q
  have:x=0:=by simpa using q
  exact h (this▸hx)
 exact congrArg _ (by assumption)
end
section
section
theorem oK{cf:cb}{x y:IV}{u:It}(h1:aC σ x=some t)(h2:aC σ y=some u):aJ c cf σ (.type "zip") [x,y] []=some (.ok (.it (.zip [t,u])) σ):=by
 have:aJ c cf σ (.type "zip") [x,y] []=(jH σ [x,y]).bind fun ts=>if ts.length≤64 then some (.ok (.it (.zip ts)) σ)else none:=rfl
 rw[this];show((aC σ x).bind fun t=>((aC σ y).bind fun u=>some [u]).map fun ts=>t::ts).bind _=_;rw[h1,h2];rfl
theorem yd{cf:cb}{x y z:IV}{u v:It}(h1:aC σ x=some t)(h2:aC σ y=some u)(h3:aC σ z=some v):aJ c cf σ (.type "zip") [x,y,z] []=some (.ok (.it (.zip [t,u,v])) σ):=by
 have:aJ c cf σ (.type "zip") [x,y,z] []=(jH σ [x,y,z]).bind fun ts=>if ts.length≤64 then some (.ok (.it (.zip ts)) σ)else none:=rfl
 rw[this];show((aC σ x).bind fun t=>((aC σ y).bind fun u=>((aC σ z).bind fun v=>some [v]).map fun ts=>u::ts).map fun ts=>t::ts).bind _=_;rw[h1,h2,h3];rfl
theorem xX{cf:cb}{x:IV}(h1:aC σ x=some t):aJ c cf σ (.type "enumerate") [x] []=some (.ok (.it (.enum t 0)) σ):=by
 show((aC σ x).map fun t=>aG.ok (IV.it (.enum t 0)) σ).or _=_;rw[h1];rfl
theorem DS(h:i<n):seqIndex? (i:Int) n=some i:=by
 unfold seqIndex?;dsimp only;rw[if_neg (Gz.mpr (Gx i))];exact if_pos (Gi.mpr ⟨decide_eq_true (Gx i),decide_eq_true (GB.mpr h)⟩)
theorem ja(h:l[i]? =some y)(hi:i<2^62):gr σ (.tup l) (i:Int)=some y:=by
 have hl:=(G1.mp h).1;show gF l _=_;unfold gF;refine dP (n62 ‹_›) ?_;rw[DS hl];exact h
theorem Es{a d:Bool}(he:e= .BoolOp .And [ch e 0,ch e 1,ch e 2] (ps e))(h1:(lv c n).ev en σ (ch e 0)=some (.ok (.bool a) σ))(h2:(lv c n).ev en σ (ch e 1)=some (.ok (.bool b) σ))(h3:(lv c n).ev en σ (ch e 2)=some (.ok (.bool d) KE)):
 ∃r KD,(KD=σ∨KD=KE)∧(lv c (n+1)).ev en σ e=some (.ok (.bool r) KD):=by
 have key:(lv c (n+1)).ev en σ e=jc (lv c n).ev en .And σ [ch e 0,ch e 1,ch e 2]:=(congrArg ((lv c (n+1)).ev en σ) he);rw[key]
 cases a with
 |false=>exact⟨false,σ,.inl rfl,l_ h1 rfl⟩
 |true=>
  cases b with
  |false=>exact⟨false,σ,.inl rfl,l_ h1 (l_ h2 rfl)⟩
  |true=>exact⟨d,KE,.inr rfl,l_ h1 (l_ h2 h3)⟩
theorem Gb{s:Stmt}{x:Str}{i j k:Int}(hs:s= .AugAssign (.Name x (ps (sx s 0))) op (sx s 1) (kq s))(hx:bH en x=true)(hl:en.own.lookup x=some (.int i))(h:(lv c n).ev en σ (sx s 1)=some (.ok (.int j) KE))(hk:w8 op i j=some k):aT c (lv c n) en σ s=some (.ok .next (en.set x (.int k)) KE):=by
 refine(congrArg (aT c (lv c n) en σ) hs).trans ?_;refine(?_:y8 (lv c n).ev en σ x op (sx s 1)=_);unfold y8;rw[if_pos hx,hl];show bQ en _ _=_;rw[h];show(w8 _ _ _).map _=_;rw[hk];rfl
end
variable {X:Xp}{own:List (Str×V)}{ts:List Int}{ms:List (Int×Int)}{o:Int}
theorem isn(own:List (Str×V))(hm:own.lookup ("mask":Str)=some x)(n:Nat):(lv (cc X) (n+6)).tr (ah X 772 own) σ (ch (sx (St X 772 3) 0) 0)=some (.ok (!aY x) σ):=
 bx rfl aA (aW rfl ac hm) rfl rfl
theorem zb(hm:own.lookup ("mask":Str)=some .none)(n:Nat):aT (cc X) (lv (cc X) (n+14)) (ah X 772 own) σ (St X 772 3)=some (.ok .next (ah X 772 own) σ):=
 dy rfl (mB (a:=false) (b:=true) rfl (isn own hm (n+7)) (fun h=>by exact bM h)) rfl
noncomputable abbrev g3(X:Xp):=ch (sx (St X 772 3) 0) 1
theorem zu(hs:own.lookup ("shape":Str)=some (vI ss))(hm:own.lookup ("mask":Str)=some (vP ms))(hl:ms.length≤900)(n:Nat): ∃own',(own'=own∨own'=(("mask":Str),V.none)::own)∧aT (cc X) (lv (cc X) (n+18)) (ah X 772 own) σ (St X 772 3)=some (.ok .next (ah X 772 own') σ):=by
 have t:(lv (cc X) (n+18)).tr (ah X 772 own) σ (sx (St X 772 3) 0)=some (.ok (true&&(ms.zip ss).all fun p=>(p.1.1==0)&&((p.1.2==p.2)&&true)) σ):=
  mB rfl (isn own hm (n+11)) fun u_=>dz ac (iw (S:=fun u_=>True) (t:= .zip [.seq (ms.map pP) 0,.seq (ss.map V.int) 0]) (as:=ms.zip ss) (f:=fun p=> .tup [pP p.1,.int p.2]) (b:=fun p=>[("s",.int p.2),("m",pP p.1)]) (F:=fun p=> .bool ((p.1.1==0)&&((p.1.2==p.2)&&true)))
   ⋯ ⋯ rfl (cJ (x:="zip") (args:=[ch (ch (ch (g3 X) 1) 2) 1,ch (ch (ch (g3 X) 1) 2) 2]) (fv:= .type "zip") (vs:=[.v (vP ms),.v (vI ss)]) ⋯ rfl rfl ⋯
    (Ag ⋯ (bz aA (aW (x:="mask") ⋯ ac hm)) (bz ⋯ (aW (x:="shape") ⋯ ac hs))) (oK rfl rfl)) rfl trivial (a_ (ai _ _) (ai _ _)) (by rw[GS];exact r_ ‹_› (by exact ac))
   (fun p u_ own=>⟨by kernel_rfl,rfl⟩) (fun u_ u_=>rfl)) rfl
 cases hb:(true&&(ms.zip ss).all fun p=>(p.1.1==0)&&((p.1.2==p.2)&&true))with
 |false=>
  rw[hb]at t;exact⟨own,.inl rfl,dy rfl t rfl⟩
 |true=>
  rw[hb]at t;exact⟨_,.inr rfl,eQ rfl t rfl⟩
theorem yT(hm:own.lookup ("mask":Str)=some .none)(n:Nat):aT (cc X) (lv (cc X) (n+14)) (ah X 772 own) σ (St X 772 4)=some (.ok .next (ah X 772 (("elim",.lst σ.length)::own)) (σ++[aa.lst (([]:List Bool).map V.bool)])):=
 cm rfl ac ac (uH rfl (dz ac (aW rfl ac hm) rfl) rfl)
noncomputable abbrev c4(X:Xp):=ch (sx (St X 772 4) 0) 1
theorem zJ(hm:own.lookup ("mask":Str)=some (vP ms))(hl:ms.length≤900)(h0:ms≠[])(n:Nat): ∃bs:List Bool,bs.length=ms.length∧aT (cc X) (lv (cc X) (n+18)) (ah X 772 own) σ (St X 772 4)=some (.ok .next (ah X 772 (("elim",.lst σ.length)::own)) (σ++[aa.lst (bs.map V.bool)])):=by
 refine⟨ms.map fun p=> !(decide (p.1+1<p.2)),by exact GO ..,cm rfl ac ac (tP rfl (dz ac (aW rfl ac hm) ?_) (jR rfl ?_))⟩
 ·rw[fz (by rw[GO];exact bg ‹_› (by exact ac))]
  cases ms with
  |nil=>exact absurd rfl h0
  |cons=>rfl
 ·have:=nR (n:=n+16) (σ:=σ) (e:=c4 X) (en:=ah X 772 own) (S:=fun u_=>True) (t:= .seq (ms.map pP) 0) (as:=ms) (f:=pP) (b:=fun p=>[("e",.int p.2),("b",.int p.1)]) (P:=fun u_=>True) (F:=fun p=> .bool (!(decide (p.1+1<p.2)))) ac
   (bz aA (aW rfl ac hm)) rfl (fun u_=>trivial) (ai _ _) (fA ‹_› (by exact ac)) trivial (fun p u_ own acc u_=>⟨trivial,by kernel_rfl,rfl,fun u_=>rfl⟩)
  rw[HT.mpr (fun u_ u_=>rfl)]at this;rw[Ha];exact this
theorem yc(hk:own.lookup ("elim":Str)=some (.lst k))(hc:σ[k]? =some (aa.lst (bs.map V.bool)))(hl:bs.length≤900)(n:Nat):(lv (cc X) (n+10)).tr (ah X 772 own) σ (sx (St X 772 5) 0)=some (.ok (bs.any id) σ):=
 dz ac (kr ac (cJ (args:=[ch (sx (St X 772 5) 0) 1]) (fv:= .builtin "any") (vs:=[.v (.lst k)]) rfl rfl rfl ac (kQ ac (bz aA (aW rfl ac hk))) (ym hc (fA ‹_› (by exact ac))))) rfl
noncomputable abbrev b5(X:Xp)(i:Nat):=si (ak (St X 772 5)) i
noncomputable abbrev a5(X:Xp):=si (ak (b5 X 0)) 0
noncomputable def Bd(ts:List Int)(ms:List (Int×Int)):Prop:=(∀t∈ts,t.natAbs≤2^30)∧ ∀m∈ms,m.1.natAbs≤2^30
theorem vC(hs:own.lookup ("shape":Str)=some (vI ss))(hl:ss.length≤900)(n:Nat)(he:e= .Call (.Name ("len":Str) (ps (ch e 0))) [ch e 1] [] (ps e))(hg:cK [ch e 1]=none)(hn:al [ch e 1]=true)(h1:ch e 1= .Name ("shape":Str) (ps (ch e 1)))(hc:aX e=true):(lv (cc X) (n+6)).ev (ah X 772 own) σ e=some (.ok (.int (ss.length:Nat)) σ):=by
 have:=oM (c:=cc X) (σ:=σ) (cf:=(lv (cc X) (n+5)).cf) (l:=ss.map V.int) (by rw[GO];exact bg ‹_› (by exact ac))
 rw[GO]at this
 exact kr hc (cJ (args:=[ch e 1]) (fv:= .builtin "len") (vs:=[.v (vI ss)]) he hg rfl (by rw[hn];exact ac) (kQ hn (bz (by rw[h1];rfl) (aW h1 ac hs))) this)
theorem s50(hs:own.lookup ("shape":Str)=some (vI ss))(ht:own.lookup ("strides":Str)=some (vI ts))(ho:own.lookup ("offset":Str)=some (.int o))(hm:own.lookup ("mask":Str)=some (vP ms))(hl:ss.length≤900)(e1:ts.length=ss.length)(e2:ms.length=ss.length)(hB:Bd ts ms)(n:Nat):
 ∃(own':List (Str×V)) (ts':List Int) (ms':List (Int×Int)) (o':Int),own'.lookup ("shape":Str)=some (vI ss)∧own'.lookup ("strides":Str)=some (vI ts')∧own'.lookup ("offset":Str)=some (.int o')∧own'.lookup ("mask":Str)=some (vP ms')∧own'.lookup ("elim":Str)=own.lookup ("elim":Str)∧ts'.length=ss.length∧ms'.length=ss.length∧Bd ts' ms'∧
  aT (cc X) (lv (cc X) (n+20)) (ah X 772 own) σ (b5 X 0)=some (.ok .next (ah X 772 own') σ):=by
 have t:(lv (cc X) (n+20)).tr (ah X 772 own) σ (sx (b5 X 0) 0)=some (.ok (ms.any fun p=> !(decide (p.1<p.2))) σ):=
  dz ac (AD (S:=fun u_=>True) (x:= .v (vP ms)) (t:= .seq (ms.map pP) 0) (as:=ms) (f:=pP) (b:=fun p=>[("e",.int p.2),("b",.int p.1)]) (F:=fun p=> .bool (!(decide (p.1<p.2)))) ⋯ ⋯ rfl
   (bz aA (aW (x:="mask") rfl ac hm)) rfl trivial (ai _ _) (DP ‹_› ‹_› (by exact ac)) (fun p u_ own=>⟨by kernel_rfl,rfl⟩) (fun u_ u_=>rfl)) rfl
 cases hb:(ms.any fun p=> !(decide (p.1<p.2)))with
 |false=>
  rw[hb]at t;exact⟨own,ts,ms,o,hs,ht,ho,hm,rfl,e1,e2,hB,dy rfl t rfl⟩
 |true=>
  rw[hb]at t
  refine⟨("mask",vP (GT ss.length (0,0)))::("offset",.int 0)::("strides",vI (GT ss.length 0))::own,GT ss.length 0,GT ss.length (0,0),0,hs,rfl,rfl,rfl,rfl,by exact List.length_replicate,by exact List.length_replicate,⟨?_,?_⟩,eQ rfl t ?_⟩
  ·intro t ht;rw[(List.mem_replicate.mp ht).2];exact H' _
  ·intro t ht;rw[(List.mem_replicate.mp ht).2];exact H' _
  rw[show ak (b5 X 0)=[a5 X]from rfl]
  have L:=fun i=>vC (X:=X) (σ:=σ) hs hl (n+11) (e:=ch (ch (sx (a5 X) 0) i) 1)
  refine aq (fX (y:= .tup [vI (GT ss.length 0),.int 0,vP (GT ss.length (0,0))]) (KE:=σ) rfl ac ⋯ ?_ rfl)
  have key: ∀e:Expr,e= .Tuple [ch e 0,ch e 1,ch e 2] (tk (e)) (ps e)→fg (lv (cc X) (n+18)).ev (ah X 772 own) σ [ch e 0,ch e 1,ch e 2]=some (.ok [vI (GT ss.length 0),.int 0,vP (GT ss.length (0,0))] σ)→(lv (cc X) (n+19)).ev (ah X 772 own) σ e=some (.ok (.tup [vI (GT ss.length 0),.int 0,vP (GT ss.length (0,0))]) σ):=fun e he h=>
   (congrArg ((lv (cc X) (n+19)).ev (ah X 772 own) σ) he).trans (gK h (show 3≤2^20 by decide))
  refine key _ ⋯ (bA (KE:=σ) ac (cL (op:= .Mult) (KE:=σ) (x:= .tup [.int 0]) (y:= .int (ss.length:Nat)) ⋯ rfl (L 0 ⋯ ⋯ ⋯ ⋯ ac) ?_)
   (bA (KE:=σ) ac rfl (bA ac (cL (op:= .Mult) ⋯ rfl (L 2 ⋯ ⋯ ⋯ ⋯ ac) ?_) gO)))
  ·rw[kM (bg ‹_› (by exact ac)),vI,HU]
  ·rw[kM (bg ‹_› (by exact ac)),vP,HU]
theorem l7{x:Str}{v:V}(hx:((dY X a).scope.names.lookup x==some .cell)=true)(h:own.lookup x=some v):(dD names (ah X a own)).fre.lookup x=some v:=by
 show(((ah X a own).own.filter fun p=>(ah X a own).names.lookup p.1==some .cell)++(([]:List (Str×V)).filter fun p=>(ah X a own).names.lookup p.1==some .free)).lookup x=some v;rw[List.filter_nil,G4,aZ (q:=fun x=>(ah X a own).names.lookup x==some .cell)];exact(if_pos hx).trans h
noncomputable abbrev EV(X:Xp):=sx (b5 X 1) 1
theorem s51(ht:own.lookup ("strides":Str)=some (vI ts))(ho:own.lookup ("offset":Str)=some (.int o))(hm:own.lookup ("mask":Str)=some (vP ms))(hk:own.lookup ("elim":Str)=some (.lst k))(hc:σ[k]? =some (aa.lst (bs.map V.bool)))(hl:bs.length≤900)(e1:ts.length=bs.length)(e2:ms.length=bs.length)(hB:Bd ts ms)(n:Nat):
 ∃o':Int,aT (cc X) (lv (cc X) (n+20)) (ah X 772 own) σ (b5 X 1)=some (.ok .next (ah X 772 (("offset",.int o')::own)) σ):=by
 have h:=Ey (c:=cc X) (n:=n+19) (σ:=σ) (e:=EV X) (en:=ah X 772 own) (S:=fun KD=>KD=σ) (x:= .it (.enum (.lst k 0) 0)) (t:= .enum (.lst k 0) 0) (as:=bs.zipIdx) (f:=fun p=> .tup [.int (0+(p.2:Int)),.bool p.1]) (F:=fun p=>bif p.1 then ts.getD p.2 0*(ms.getD p.2 (0,0)).1 else 0) (b:=fun p=>[("e",.bool p.1),("i",.int (0+(p.2:Int)))]) ⋯ ⋯ rfl
  (cJ (n:=n+17) (x:="enumerate") (args:=[ch (ch (ch (EV X) 1) 2) 1]) (fv:= .type "enumerate") (vs:=[.v (.lst k)]) (KE:=σ) ⋯ ⋯ rfl ⋯ (kQ ⋯ (bz (n:=n+17) aA (aW (x:="elim") rfl ac hk))) (xX (fF hc))) rfl rfl (qG 0 (eu fun KD q=>by rw[q];exact hc)) (by rw[List.length_zipIdx];exact fA ‹_› (by exact ac)) ?_
 ·exact⟨_,Gb (op:= .Add) rfl ac ho h rfl⟩
 ·intro p hp own';obtain⟨e,i⟩:=p
  have hi:i<bs.length:=by
   have:=List.mem_zipIdx hp;omega
  refine⟨by kernel_rfl,zx (b:=e) ⋯ (dz (x:= .bool e) ⋯ rfl rfl) (fun u_=> ?_) (fun u_=>rfl)⟩
  have z0:(0:Int)+(i:Int)=(i:Int):=by exact Int.zero_add _
  have b1:(ts.getD i 0).natAbs≤2^30:=by
   rw[Hf,G3 (Ig ‹_› (Gv ‹_›))];exact hB.1 _ (Hd _)
  have b2:(ms.getD i (0,0)).1.natAbs≤2^30:=by
   rw[Hf,G3 (Ig ‹_› (Gv ‹_›))];exact hB.2 _ (Hd _)
  refine cL (op:= .Mult) (KE:=σ) (KI:=σ) (x:= .int (ts.getD i 0)) (y:= .int (ms.getD i (0,0)).1) ⋯ (cZ (x:=vI ts) (i:=0+(i:Int)) (KE:=σ) ⋯ ⋯ (bT (x:="strides") ⋯ (Gu rfl (l7 (X:=X) (names:=(dK (ch (EV X) 1)).names) (a:=772) ac ht))) ⋯ ?_)
   (cZ (x:=pP (ms.getD i (0,0))) (i:=0) (KE:=σ) ⋯ ⋯ (cZ (x:=vP ms) (i:=0+(i:Int)) (KE:=σ) ⋯ ⋯ (bT (x:="mask") ⋯ (Gu rfl (l7 (names:=(dK (ch (EV X) 1)).names) (a:=772) ac hm))) ⋯ ?_) ⋯ rfl) (gH (be b1 (by decide)) (be b2 (by decide)))
  ·rw[z0]
   exact ja (by rw[Hc,G3 (Ig ‹_› (Gv ‹_›)),Hf,G3 (Ig ‹_› (Gv ‹_›))];rfl) (CX ‹_› ‹_› (by exact ac))
  ·refine(z0).symm▸ ?_
   exact ja (by rw[Hc,G3 (Ig ‹_› (Gv ‹_›)),Hf,G3 (Ig ‹_› (Gv ‹_›))];rfl) (CX ‹_› ‹_› (by exact ac))
noncomputable abbrev FT(X:Xp):=sx (b5 X 2) 0
theorem s52(ht:own.lookup ("strides":Str)=some (vI ts))(hk:own.lookup ("elim":Str)=some (.lst k))(hc:σ[k]? =some (aa.lst (bs.map V.bool)))(hl:bs.length≤900)(e1:ts.length=bs.length)(n:Nat):
 ∃ts':List Int,ts'.length=ts.length∧aT (cc X) (lv (cc X) (n+20)) (ah X 772 own) σ (b5 X 2)=some (.ok .next (ah X 772 (("strides",vI ts')::own)) σ):=by
 have h:=gP (c:=cc X) (n:=n+19) (σ:=σ) (e:=FT X) (en:=ah X 772 own) (S:=fun KD=>KD=σ) (x:= .it (.zip [.seq (ts.map V.int) 0,.lst k 0])) (t:= .zip [.seq (ts.map V.int) 0,.lst k 0]) (as:=ts.zip bs) (f:=fun p=> .tup [.int p.1,.bool p.2]) (F:=fun p=> .int (bif p.2 then 0 else p.1)) (b:=fun p=>[("e",.bool p.2),("st",.int p.1)]) ⋯ ⋯ rfl
  (cJ (x:="zip") (args:=[ch (ch (ch (FT X) 1) 2) 1,ch (ch (ch (FT X) 1) 2) 2]) (fv:= .type "zip") (vs:=[.v (vI ts),.v (.lst k)]) ⋯ rfl rfl ⋯ (Ag ⋯ (bz aA (aW rfl ac ht)) (bz aA (aW rfl ac hk))) (oK rfl (fF hc))) rfl rfl
  (a_ (ai _ _) (eu fun KD q=>by rw[q];exact hc)) (by rw[GS];exact EX ‹_› ‹_› (by exact ac))
  (fun p u_ own=>⟨by kernel_rfl,zx (b:=p.2) ⋯ (dz ⋯ rfl rfl) (fun u_=>rfl) (fun u_=>rfl)⟩) (fun u_ u_=>rfl)
 refine⟨(ts.zip bs).map fun p=>bif p.2 then 0 else p.1,by rw[GO,GS];exact mqs ‹_›,cm rfl ac ac ?_⟩
 rw[vI,Ha];exact h
end
section
variable {X:Xp}{own:List (Str×V)}{ts:List Int}{ms:List (Int×Int)}{o:Int}{M:V}
noncomputable abbrev g6(X:Xp):=sx (St X 772 6) 0
theorem s6(hs:own.lookup ("shape":Str)=some (vI ss))(ht:own.lookup ("strides":Str)=some (vI ts))(ho:own.lookup ("offset":Str)=some (.int o))(hm:own.lookup ("mask":Str)=some M)(hl:bR ss)(h0:ss≠[])(e1:ts.length=ss.length)(n:Nat):
 ∃(b:Bool) (ext:Sg),aT (cc X) (lv (cc X) (n+50)) (ah X 772 own) σ (St X 772 6)=some (.ok .next (ah X 772 (("contiguous",.bool b)::own)) (σ++ext)):=by
 refine rh (HS h0) fun a r zz2=> ?_;subst zz2;have hl4:=hl.1;refine dw fun kk=> ?_;refine bc (sfs (X:=X) a r hl σ (n+15)) fun ts' ext k1 k2=> ?_<;>(refine kk ?_;clear kk)
 refine oE (yn (σ:=σ++ext) ts ts' (by rw[e1];exact fA ‹_› (by exact ac))) fun t ht'=> ?_
 obtain⟨q,KD,hσ,h⟩:=Es (c:=cc X) (n:=n+49) (σ:=σ) (en:=ah X 772 own) (e:=g6 X) (a:=o==0) (b:=aY M) (d:=t) (KE:=σ++ext) rfl
  (qf (n:=n+48) (op:= .Eq) (KE:=σ) (x:= .int o) (y:= .int 0) rfl aA (aW (n:=n+47) (x:="offset") rfl ac ho) rfl rfl)
  (qf (n:=n+48) (op:= .Is) (KE:=σ) (x:=M) (y:= .none) rfl aA (aW (n:=n+47) (x:="mask") rfl ac hm) rfl rfl)
  (qf (n:=n+48) (op:= .Eq) (KE:=σ) (x:=vI ts) (y:=vI ts') rfl aA (aW (n:=n+47) (x:="strides") rfl ac ht) (kr (n:=n+47) ac (cJ (n:=n+46) (x:="strides_for_shape") (args:=[ch (ch (ch (g6 X) 2) 1) 1]) (fv:= .ref 718) (vs:=[.v (vI (a::r))]) (KE:=σ) rfl rfl rfl ac
   (kQ ac (bz (n:=n+46) aA (aW (n:=n+45) (x:="shape") rfl ac hs))) (eR (X:=X) (n:=n+47) (xs:=[vI (a::r)]) ac k2))) ht')
 have fin:=fun ext=>cm (c:=cc X) (n:=n+50) (σ:=σ) (KE:=σ++ext) (en:=ah X 772 own) (s:=St X 772 6) (x:="contiguous") (xp:=ps (sx (St X 772 6) 1)) (y:= .bool q) rfl ac ac
 rcases hσ with rfl|rfl
 ·exact⟨q,[],by have:=fin [] (by rw[G4];exact h);exact this⟩
 ·exact⟨q,ext,fin ext h⟩
noncomputable abbrev g7(X:Xp):=sx (St X 772 7) 0
theorem s7{T:V}(hs:own.lookup ("shape":Str)=some (vI ss))(ht:own.lookup ("strides":Str)=some T)(ho:own.lookup ("offset":Str)=some O)(hm:own.lookup ("mask":Str)=some M)(hb:own.lookup ("contiguous":Str)=some B)(n:Nat):aH ((lv (cc X) (n+20)).exs (ah X 772 own) σ [St X 772 7]) σ ss:=by
 refine⟨ah X 772 own,σ,T,O,M,B,GW _,aq (dB rfl (kr ac (cJ (x:="View") (args:=[ch (g7 X) 1,ch (g7 X) 2,ch (g7 X) 3,ch (g7 X) 4,ch (g7 X) 5]) (fv:= .ref ag) (vs:=[vI ss,T,O,M,B].map .v) (KE:=σ) rfl rfl rfl ⋯ ?_ (pw (X:=X) (vI ss) T O M B σ (n+6) ⋯))))⟩
 have N: ∀{x:Str} {v:V} {e:Expr},e= .Name x (ps e)→dQ X 772 x=true→own.lookup x=some v→(lv (cc X) (n+18)).iv (ah X 772 own) σ e=some (.ok (.v v) σ):=fun he hk h=>bz (by rw[he];rfl) (aW he hk h)
 exact aO ac (N (x:="shape") rfl ac hs) (aO ac (N (x:="strides") rfl ac ht) (aO ac (N (x:="offset") rfl ac ho) (aO ac (N (x:="mask") rfl ac hm) (aO ac (N (x:="contiguous") rfl ac hb) gh))))
theorem Af(hs:own.lookup ("shape":Str)=some (vI ss))(ht:own.lookup ("strides":Str)=some (vI ts))(ho:own.lookup ("offset":Str)=some (.int o))(hm:own.lookup ("mask":Str)=some M)(hk:own.lookup ("elim":Str)=some (.lst k))(hc:σ[k]? =some (aa.lst (bs.map V.bool)))(hl:bR ss)(h0:ss≠[])(e1:ts.length=ss.length)
 (hM:bs=[]∨ ∃ms,M=vP ms∧ms.length=ss.length∧bs.length=ss.length∧Bd ts ms) (n:Nat):aH ((lv (cc X) (n+51)).exs (ah X 772 own) σ [St X 772 5,St X 772 6,St X 772 7]) σ ss:=by
 have hl4:=hl.1
 have hbl:bs.length≤900:=by
  rcases hM with rfl|⟨_,_,_,e,_⟩
  ·simp
  ·exact dI ‹_› ‹_› (by exact ac)
 have fin: ∀{own':List (Str×V)} {ts':List Int} {o':Int} {M':V},own'.lookup ("shape":Str)=some (vI ss)→own'.lookup ("strides":Str)=some (vI ts')→own'.lookup ("offset":Str)=some (.int o')→own'.lookup ("mask":Str)=some M'→ts'.length=ss.length→aH ((lv (cc X) (n+51)).exs (ah X 772 own') σ [St X 772 6,St X 772 7]) σ ss:=by
  intro own' ts' o' M' a1 a2 a3 a4 a5;refine rh (s6 (X:=X) (σ:=σ) a1 a2 a3 a4 hl h0 a5 n) fun b ext h=> ?_;exact aH.next h (GQ _ _) (s7 (own:=("contiguous",.bool b)::own') (T:=vI ts') (O:= .int o') (M:=M') (B:= .bool b) a1 a2 a3 a4 rfl (n+31))
 have t:=yc (X:=X) hk hc hbl (n+40)
 cases hb:bs.any id with
 |false=>
  rw[hb]at t;exact aH.next (dy (o:= .ok .next (ah X 772 own) σ) rfl t rfl) (GW _) (fin hs ht ho hm e1)
 |true=>
  rw[hb]at t
  rcases hM with rfl|⟨ms,rfl,e2,e3,hB⟩
  ·exact bM hb
  refine dw fun kk=> ?_
  obtain⟨Mo,ts₁,ms₁,Lk,a1,a2,a3,a4,a5,a6,a7,a8,h1⟩:=s50 (X:=X) (σ:=σ) hs ht ho hm (bg ‹_› (by exact ac)) e1 e2 hB (n+29)<;>(refine kk ?_;clear kk)
  rw[hk]at a5;refine dw fun kk=> ?_;refine oE (s51 (X:=X) a2 a3 a4 a5 hc hbl (Gu ‹_› (Gv ‹_›)) (Gu ‹_› (Gv ‹_›)) a8 (n+29)) fun Mp h2=> ?_<;>(refine kk ?_;clear kk)
  refine dw fun kk=> ?_;refine aL (s52 (X:=X) (own:=("offset",.int Mp)::Mo) a2 a5 hc hbl (Gu ‹_› (Gv ‹_›)) (n+29)) fun ME l3 h3=> ?_<;>(refine kk ?_;clear kk)
  refine aH.next (KD:=σ) (en':=ah X 772 (("strides",vI ME)::("offset",.int Mp)::Mo)) (eQ rfl t ?_) (GW _) (fin (own':=("strides",vI ME)::("offset",.int Mp)::Mo) a1 rfl rfl a4 (Gu ‹_› ‹_›))
  rw[show ak (St X 772 5)=[b5 X 0,b5 X 1,b5 X 2]from rfl]
  exact ab h1 (ab h2 (aq h3))
theorem C2(hs:own.lookup ("shape":Str)=some (vI ss))(ht:own.lookup ("strides":Str)=some (vI ts))(ho:own.lookup ("offset":Str)=some (.int o))(hm:own.lookup ("mask":Str)=some M)(hl:bR ss)(h0:ss≠[])(e1:ts.length=ss.length)
 (hM:M= .none∨ ∃ms,M=vP ms∧ms.length=ss.length∧Bd ts ms) (n:Nat):aH ((lv (cc X) (n+51)).exs (ah X 772 own) σ [St X 772 3,St X 772 4,St X 772 5,St X 772 6,St X 772 7]) σ ss:=by
 have hl4:=hl.1
 have none: ∀{own':List (Str×V)},own'.lookup ("shape":Str)=some (vI ss)→own'.lookup ("strides":Str)=some (vI ts)→own'.lookup ("offset":Str)=some (.int o)→own'.lookup ("mask":Str)=some .none→aH ((lv (cc X) (n+51)).exs (ah X 772 own') σ [St X 772 4,St X 772 5,St X 772 6,St X 772 7]) σ ss:=by
  intro own' a1 a2 a3 a4
  exact aH.next (yT (X:=X) (σ:=σ) a4 (n+36)) (GQ _ _) (Af (own:=("elim",.lst σ.length)::own') (bs:=[]) (k:=σ.length) a1 a2 a3 a4 rfl (by exact G8) hl h0 e1 (.inl rfl) n)
 rcases hM with rfl|⟨ms,rfl,e2,hB⟩
 ·exact aH.next (zb (X:=X) hm (n+36)) (GW _) (none hs ht ho hm)
 ·have hms:ms≠[]:=fun q=>by rw[q]at e2;exact h0 (Hb e2.symm)
  refine dw fun kk=> ?_
  refine aL (zu (X:=X) (σ:=σ) hs hm (dI ‹_› ‹_› (by exact ac)) (n+32)) fun own' hd h=> ?_<;>(refine kk ?_;clear kk)
  rcases hd with rfl|rfl
  ·refine dw fun kk=> ?_
   refine aL (zJ (X:=X) (σ:=σ) hm (dI ‹_› ‹_› (by exact ac)) hms (n+32)) fun bs e3 h4=> ?_<;>(refine kk ?_;clear kk)
   exact aH.next h (GW _) (aH.next h4 (GQ _ _) (Af (own:=("elim",.lst σ.length)::own') (bs:=bs) (k:=σ.length) hs ht ho hm rfl (by exact G8) hl h0 e1 (.inr ⟨ms,rfl,e2,by exact Gu ‹_› ‹_›,hB⟩) n))
  ·exact aH.next h (GW _) (none (own':=("mask",V.none)::own) hs ht ho rfl)
end
section
variable {X:Xp}{ts:List Int}{ms:List (Int×Int)}{o:Int}{T M:V}
noncomputable def fZ(r:Option (aG V))(σ:Sg)(ss:List Int):Prop:= ∃KE T O M B,σ<+:KE∧r=some (.ok (.inst ag KE.length) (KE++[aa.dct (bf (vI ss) T O M B)]))
theorem gX{ks:List (Str×V)}(hp:d8 X a=true)(hb:eW ((dY X a).params.args.map (·.arg)) xs ks ((qi X a).map xM)=some binds)(hk:hZ (dY X a).scope.names binds=true)(h:aH ((lv (cc X) n).exs (ah X a binds.reverse) σ (aD X a)) σ ss):fZ ((lv (cc X) (n+1)).cf σ a xs ks) σ ss:=by
 refine fM h fun en' KE T O M B h1 h2=> ?_;exact⟨KE,T,O,M,B,h1,bp hp hb hk h2 rfl⟩
theorem Bd.canon{ts:List Int}{ms:List (Int×Int)}(h:Bd ts ms):Bd (dT ss ts) ms:=by
 refine⟨fun t ht=> ?_,h.2⟩;unfold dT at ht;refine aL (G2.mp ht) fun p hp zz2=> ?_;subst zz2
 cases p.1==1 with
 |true=>show(0:Int).natAbs≤2^30;exact H' _
 |false=>exact h.1 _ (GU hp).2
noncomputable def qV(ss:List Int)(T M:V):Prop:=(T= .none∧M= .none)∨ ∃ts,T=vI ts∧ts.length=ss.length∧(M= .none∨ ∃ms,M=vP ms∧ms.length=ss.length∧Bd ts ms)
noncomputable abbrev fp(S T O M:V):List (Str×V):=[("mask",M),("offset",O),("strides",T),("shape",S)]
theorem sC(hl:bR ss)(h0:ss≠[])(hp: ∀s∈ss,0≤s)(hA:qV ss T M)(n:Nat):aH ((lv (cc X) (n+51)).exs (ah X 772 (fp (vI ss) T (.int o) M)) σ (aD X 772)) σ ss:=by
 have hl4:=hl.1
 rw[show aD X 772=[St X 772 0,St X 772 1,St X 772 2,St X 772 3,St X 772 4,St X 772 5,St X 772 6,St X 772 7]from rfl]
 refine aH.next (Dh rfl (bg ‹_› (by exact ac)) hp (n+38)) (GW _) ?_
 have key: ∀(ts:List Int) (KD:Sg),ts.length=ss.length→(M= .none∨ ∃ms,M=vP ms∧ms.length=ss.length∧Bd ts ms)→aH ((lv (cc X) (n+51)).exs (ah X 772 (("strides",vI ts)::fp (vI ss) T (.int o) M)) KD [St X 772 2,St X 772 3,St X 772 4,St X 772 5,St X 772 6,St X 772 7]) KD ss:=by
  intro ts KD e1 hM
  by_cases hz:0∈ss
  ·exact zC (own:=("strides",vI ts)::fp (vI ss) T (.int o) M) rfl (bg ‹_› (by exact ac)) hz (n+30)
  ·exact aH.next (AZ (own:=("strides",vI ts)::fp (vI ss) T (.int o) M) rfl (bg ‹_› (by exact ac)) hz (n+30)) (GW _) (C2 (own:=("strides",vI ts)::fp (vI ss) T (.int o) M) rfl rfl rfl rfl hl h0 e1 hM n)
 rcases hA with⟨rfl,rfl⟩|⟨ts,rfl,e1,hM⟩
 ·refine dw fun kk=> ?_;refine bc (yb (X:=X) (σ:=σ) (own:=fp (vI ss) .none (.int o) .none) rfl rfl hl h0 (n+12)) fun ts ext e1 h=> ?_<;>(refine kk ?_;clear kk)
  exact aH.next h (GQ _ _) (key ts _ e1 (.inl rfl))
 ·as_aux_lemma=>
   have ht0:ts≠[]:=fun q=>by rw[q]at e1;exact h0 (Hb e1.symm)
   refine aH.next (AS (own:=fp (vI ss) (vI ts) (.int o) M) rfl rfl (bg ‹_› (by exact ac)) (dI ‹_› ‹_› (by exact ac)) ht0 (n+34)) (GW _) (key (dT ss ts) σ (by rw[ij,e1,Ik]) ?_)
   rcases hM with rfl|⟨ms,rfl,e2,hB⟩
   ·exact .inl rfl
   ·exact .inr ⟨ms,rfl,e2,hB.canon⟩
theorem kE(hl:bR ss)(h0:ss≠[])(hp: ∀s∈ss,0≤s)(hA:qV ss T M)(n:Nat):fZ ((lv (cc X) (n+52)).cf σ 772 [vI ss,T,.int o,M] []) σ ss:=
 gX (a:=772) (binds:=[("shape",vI ss),("strides",T),("offset",.int o),("mask",M)]) ⋯ ⋯ ac (sC hl h0 hp hA n)
theorem xP(hl:bR ss)(h0:ss≠[])(hp: ∀s∈ss,0≤s)(n:Nat):fZ ((lv (cc X) (n+52)).cf σ 772 [vI ss] []) σ ss:=
 gX (a:=772) (binds:=[("shape",vI ss),("strides",.none),("offset",.int 0),("mask",.none)]) ⋯ ⋯ ac (sC hl h0 hp (.inl ⟨rfl,rfl⟩) n)
theorem v6(hl:ss.length≤900)(hp: ∃s∈ss,s<0)(n:Nat):(lv (cc X) (n+51)).exs (ah X 772 (fp (vI ss) T (.int o) M)) σ (aD X 772)=some (.exc "ValueError" (ah X 772 (fp (vI ss) T (.int o) M)) σ):=by
 rw[show aD X 772=[St X 772 0,St X 772 1,St X 772 2,St X 772 3,St X 772 4,St X 772 5,St X 772 6,St X 772 7]from rfl]
 have:=AQ (X:=X) (σ:=σ) (own:=fp (vI ss) T (.int o) M) rfl hl hp (n+38);show(aT (cc X) (lv (cc X) (n+50)) _ _ _).bind _=_;rw[this];rfl
theorem pW(hl:ss.length≤900)(hp: ∃s∈ss,s<0)(n:Nat):(lv (cc X) (n+52)).cf σ 772 [vI ss,T,.int o,M] []=some (.exc "ValueError" σ):=
 bp (a:=772) (binds:=[("shape",vI ss),("strides",T),("offset",.int o),("mask",M)]) ⋯ ⋯ ac (v6 hl hp n) rfl
theorem pN(hl:ss.length≤900)(hp: ∃s∈ss,s<0)(n:Nat):(lv (cc X) (n+52)).cf σ 772 [vI ss] []=some (.exc "ValueError" σ):=
 bp (a:=772) (binds:=[("shape",vI ss),("strides",.none),("offset",.int 0),("mask",.none)]) ⋯ ⋯ ac (v6 hl hp n) rfl
end
section
section
theorem i_{x:aa}(p:σ<+:KE)(h:σ[k]? =some x):KE[k]? =some x:=by
 obtain⟨t,rfl⟩:=p;rw[He (G1.mp h).1];exact h
theorem bY{x:aa}{t:Sg}(h:σ[k]? =some x):(σ++t)[k]? =some x:=i_ (GQ _ _) h
noncomputable def CB0(c:Cx)(n:Nat)(e:Expr)(en:En)(σ:Sg)(as:List α)(f:α→V)(b:α→List (Str×V))(P:List (Str×V)→Prop)(F:α→V):Prop:=
 ∀a∈as,∀own acc,P own→P (b a++own)∧du 8 (ch e 1) ⟨am (dK e).names en,own,en.fre,none⟩ (σ++[aa.lst acc]) (f a)=some (⟨am (dK e).names en,b a++own,en.fre,none⟩,σ++[aa.lst acc])∧
  (lv c n).ev ⟨am (dK e).names en,b a++own,en.fre,none⟩ (σ++[aa.lst acc]) (ch e 0)=some (.ok (F a) (σ++[aa.lst acc]))
theorem bO{S:Sg→Prop}{x:IV}{as:List α}{f F:α→V}{b:α→List (Str×V)}{P:List (Str×V)→Prop}(he:iN e)(hi:ec e=[])(hf:hY en e=true)(hx:(lv c n).iv en σ (ch e 2)=some (.ok x σ))(ht:aC σ x=some t)(hS: ∀acc,S (σ++[aa.lst acc]))(tl:aE S t (as.map f))(hl:as.length<4096)
 (hp:P (dX (dK e).names en).own) (hb:CB0 c n e en σ as f b P F):(lv c (n+1)).ev en σ e=some (.ok (.lst σ.length) (σ++[aa.lst (as.map F)])):=by
 refine jR he ?_
 have:=nR (e:=e) hf hx ht hS tl hl hp (fun a ha own acc hp=>⟨(hb a ha own acc hp).1,(hb a ha own acc hp).2.1,by rw[hi];rfl,fun u_=>(hb a ha own acc hp).2.2⟩)
 rw[HT.mpr (fun u_ u_=>rfl)]at this;exact this
theorem zI{cf:cb}{ns:List Int}(h:σ[k]? =some (.lst l))(hl:cP l=some ns):aJ c cf σ (.builtin "sum") [.v (.lst k)] []=some (.ok (.v (.int ns.sum)) σ):=by
 have:aJ c cf σ (.builtin "sum") [.v (.lst k)] []=(BS σ (.lst k)).map fun i=> .ok (.v (.int i)) σ:=rfl;rw[this];show((aI σ k).bind _).map _=_;rw[aP h];show((cP l).map _).map _=_;rw[hl];rfl
theorem bL{x:Str}{v:IV}(he:e= .Call (.Name x (ps (ch e 0))) [ch e 1] [] (ps e))(hg:cK [ch e 1]=none)(hx:aR c en x=some (.val fv))(hc:(al [ch e 1]&&bK c.K fv)=true)
 (h1:(lv c (n+1)).iv en σ (ch e 1)=some (.ok v KE)) (h2:aJ c (lv c (n+1)).cf KE fv [v] []=some (.ok (.v y) KI)):(lv c (n+2)).ev en σ e=some (.ok y KI):=
 kr (by rw[he];rfl) (cJ he hg hx hc (kQ (Gi.mp hc).1 h1) h2)
theorem vY(he:e= .Call (.Name ("tuple":Str) (ps (ch e 0))) [ch e 1] [] (ps e))(hg:cK [ch e 1]=none)(hx:aR c en "tuple"=some (.val (.type "tuple")))(hc:(al [ch e 1]&&bK c.K (.type "tuple"))=true)(hi:aX (ch e 1)=false)
 (h1:(lv c n).ev en σ (ch e 1)=some (.ok (.lst σ.length) (σ++[aa.lst l]))) (hl:l.length≤2^20):(lv c (n+2)).ev en σ e=some (.ok (.tup l) (σ++[aa.lst l])):=
 bL he hg hx hc (bz hi h1) (jx (by exact G8) hl)
theorem wi{as:List α}{F:α→Int}(he:e= .Call (.Name ("sum":Str) (ps (ch e 0))) [ch e 1] [] (ps e))(hg:cK [ch e 1]=none)(hx:aR c en "sum"=some (.val (.builtin "sum")))(hc:(al [ch e 1]&&bK c.K (.builtin "sum"))=true)(hi:aX (ch e 1)=false)
 (h1:(lv c n).ev en σ (ch e 1)=some (.ok (.lst σ.length) (σ++[aa.lst (as.map fun a=>V.int (F a))]))):(lv c (n+2)).ev en σ e=some (.ok (.int (as.map F).sum) (σ++[aa.lst (as.map fun a=>V.int (F a))])):=
 bL he hg hx hc (bz hi h1) (zI (by exact G8) (iH as))
theorem eB{u:It}(he:e= .Call (.Name ("zip":Str) (ps (ch e 0))) [ch e 1,ch e 2] [] (ps e))(hg:cK [ch e 1,ch e 2]=none)(hx:aR c en "zip"=some (.val (.type "zip")))(hc:(al [ch e 1,ch e 2]&&bK c.K (.type "zip"))=true)(hi:aX (ch e 1)=false)(hj:aX (ch e 2)=false)
 (h1:(lv c n).ev en σ (ch e 1)=some (.ok x σ)) (h2:(lv c n).ev en σ (ch e 2)=some (.ok y σ)) (i1:aC σ (.v x)=some t) (i2:aC σ (.v y)=some u):(lv c (n+2)).iv en σ e=some (.ok (.it (.zip [t,u])) σ):=
 cJ he hg hx hc (Ag (Gi.mp hc).1 (bz hi h1) (bz hj h2)) (oK i1 i2)
theorem nP{z:V}{u w:It}(he:e= .Call (.Name ("zip":Str) (ps (ch e 0))) [ch e 1,ch e 2,ch e 3] [] (ps e))(hg:cK [ch e 1,ch e 2,ch e 3]=none)(hx:aR c en "zip"=some (.val (.type "zip")))(hc:(al [ch e 1,ch e 2,ch e 3]&&bK c.K (.type "zip"))=true)(h0:al [ch e 1]=true)(hs:al [ch e 2,ch e 3]=true)(hi:aX (ch e 1)=false)(hj:aX (ch e 2)=false)(hk:aX (ch e 3)=false)
 (h1:(lv c n).ev en σ (ch e 1)=some (.ok x σ)) (h2:(lv c n).ev en σ (ch e 2)=some (.ok y σ)) (h3:(lv c n).ev en σ (ch e 3)=some (.ok z σ)) (i1:aC σ (.v x)=some t) (i2:aC σ (.v y)=some u) (i3:aC σ (.v z)=some w):(lv c (n+2)).iv en σ e=some (.ok (.it (.zip [t,u,w])) σ):=
 cJ he hg hx hc (iv3 h0 hs (bz hi h1) (bz hj h2) (bz hk h3)) (yd i1 i2 i3)
end
section
variable {X:Xp}{S T M:V}{own:List (Str×V)}
theorem FJ(X:Xp):(CK.all fun x=>plainGet (cc X).K ag (Kq x)&&hasDictIn (cc X).K ag&&decide (findIn (cc X).K (.ref ag) (Kq x)=some none))=true:=by kernel_rfl
theorem nO{x:String}(hm:CK.contains x=true)(hk:σ[k]? =some (aa.dct (bf S T O M B)))(hf:ez (bf S T O M B) (Kq x)=some y)(hy:db y=true):ji (cc X) σ (.inst ag k) (Kq x)=some (.val y):=by
 have:=GZ.mp (FJ X) x (HR.mp hm);simp only[Gj,decide_eq_true_eq]at this
 refine sP hk (by rw[this.1.1,this.1.2];rfl) this.2 hf ?_
 rw[hy];rfl
theorem bb{x:String}(he:e= .Attribute (.Name ("self":Str) (ps (ch e 0))) (Kq x) (ps e))(hk:dQ X a "self"=true)(hs:own.lookup ("self":Str)=some (.inst ag k))(hm:CK.contains x=true)(hc:σ[k]? =some (aa.dct (bf S T O M B)))(hf:ez (bf S T O M B) (Kq x)=some y)(hy:db y=true):(lv (cc X) (n+2)).ev (ah X a own) σ e=some (.ok y σ):=by
 rw[he];exact n0 rfl (fY (ES hk hs)) (nO hm hc hf hy)
theorem jf(he:e= .Call (.Attribute (.Name ("View":Str) (ps (ch (ch e 0) 0))) ("create":Str) (ps (ch e 0))) args [] (ps e))(hl:((ps (ch e 0)).endLine==(ps e).line&&decide (args.length+0<20)&&al args)=true)
 (hv:aR (cc X) (ah X a own) "View"=some (.val (.ref ag))) (h1:dZ (lv (cc X) (n+1)).iv (ah X a own) σ args=some (.ok (xs.map .v) KE)) (p:σ<+:KE) (h:fZ ((lv (cc X) (n+1)).cf KE 772 xs []) KE ss):fZ ((lv (cc X) (n+2)).ev (ah X a own) σ e) σ ss:=by
 refine gc h fun KI T O M B q h2=> ?_
 refine⟨KI,T,O,M,B,p.trans q,kr (by rw[he];rfl) ?_⟩
 rw[he];have hs:=(Gi.mp hl).2
 refine hX (hV (fv:= .ref 772) (first:=[]) ?_ (fY hv) ⋯ (fD (xs:=xs.map .v) (ks:=[]) (by rw[hs];exact ac) h1 rfl (eR ⋯ h2)))
 rw[show∀x p,aU (.Name x p)=true from fun u_ u_=>rfl]
 exact Gv ((fun {a b}↦Bool.eq_and_self.mpr) fun a↦hl)
theorem jY{cls:String}(he:e= .Call (.Attribute (.Name ("View":Str) (ps (ch (ch e 0) 0))) ("create":Str) (ps (ch e 0))) args [] (ps e))(hl:((ps (ch e 0)).endLine==(ps e).line&&decide (args.length+0<20)&&al args)=true)
 (hv:aR (cc X) (ah X a own) "View"=some (.val (.ref ag))) (h1:dZ (lv (cc X) (n+1)).iv (ah X a own) σ args=some (.ok (xs.map .v) KE)) (h:(lv (cc X) (n+1)).cf KE 772 xs []=some (.exc cls KI)):(lv (cc X) (n+2)).ev (ah X a own) σ e=some (.exc cls KI):=by
 rw[he];have hs:=(Gi.mp hl).2
 refine y_ (o:= .exc cls KI) (hV (fv:= .ref 772) (first:=[]) ?_ (fY hv) ⋯ (fD (xs:=xs.map .v) (ks:=[]) (by rw[hs];exact ac) h1 rfl (gG ⋯ h))) rfl
 rw[show∀x p,aU (.Name x p)=true from fun u_ u_=>rfl]
 exact Gv ((fun {a b}↦Bool.eq_and_self.mpr) fun a↦hl)
theorem vy{s:Stmt}(hs:s= .Return (some (sx s 0)) (kq s))(h:fZ ((lv (cc X) n).ev (ah X a own) σ (sx s 0)) σ ss):aH ((lv (cc X) (n+1)).exs (ah X a own) σ [s]) σ ss:=by
 refine gc h fun KI T O M B q h2=> ?_;exact⟨_,KI,T,O,M,B,q,aq (dB hs h2)⟩
theorem jr{s:Stmt}{cls:String}(hs:s= .Return (some (sx s 0)) (kq s))(h:(lv c n).ev en σ (sx s 0)=some (.exc cls KE)):aT c (lv c n) en σ s=some (.exc cls en KE):=
 (congrArg (aT c (lv c n) en σ) hs).trans (ql h)
end
end
section
theorem AF{s:Stmt}{x:Str}(hs:s= .Assign [.Name x xp] (.ListComp (ch (sx s 0) 0) [⟨ch (sx s 0) 1,ch (sx s 0) 2,ec (sx s 0),0⟩] (dK (sx s 0)) (ps (sx s 0))) (kq s))(he:iN (sx s 0))(hx:bH en x=true)(h:(lv c (n+1)).ev en σ (sx s 0)=some (.ok y KE)):aT c (lv c n) en σ s=some (.ok .next (en.set x y) KE):=by
 refine(congrArg (aT c (lv c n) en σ) hs).trans (yg hx ?_);rw[he]at h;exact h
variable {X:Xp}{own:List (Str×V)}{S M Mk:V}{ts:List Int}{o:Int}{as ms:List (Int×Int)}
noncomputable def nL(u v:Int):Int:=if v<u then v else u
noncomputable def nQ(u v:Int):Int:=if v>u then v else u
noncomputable def PB(k:Nat)(l:List (Int×Int)):Prop:= ∀p∈l,p.1.natAbs≤k∧p.2.natAbs≤k
noncomputable def IB(k:Nat)(l:List Int):Prop:= ∀t∈l,t.natAbs≤k
theorem r0(hself:own.lookup ("self":Str)=some (.inst ag k))(harg:own.lookup ("arg":Str)=some (vP as))(hv:σ[k]? =some (aa.dct (bf S (vI ts) (.int o) M B)))(hl:ts.length≤900)(ht:IB (2^20) ts)(ha:PB 2000 as)(n:Nat):
 ∃(z:Int) (ext:Sg),aT (cc X) (lv (cc X) (n+20)) (ah X 800 own) σ (St X 800 0)=some (.ok .next (ah X 800 (("offset",.int z)::own)) (σ++ext)):=by
 refine⟨_,_,cm (x:="offset") (xp:=ps (sx (St X 800 0) 1)) rfl ac ac (wi (as:=ts.zip as) (F:=fun p=>p.1*p.2.1) rfl rfl rfl ac aA
  (bO (S:=fun u_=>True) (x:= .it (.zip [.seq (ts.map V.int) 0,.seq (as.map pP) 0])) (t:= .zip [.seq (ts.map V.int) 0,.seq (as.map pP) 0]) (as:=ts.zip as) (f:=fun p=> .tup [.int p.1,pP p.2]) (b:=fun p=>[("x",pP p.2),("s",.int p.1)]) (P:=fun u_=>True) rfl rfl ac
   (eB (x:=vI ts) (y:=vP as) ⋯ rfl rfl ⋯ aA aA (bb (x:="strides") ⋯ ac hself rfl hv rfl rfl) (aW rfl ac harg) rfl rfl) rfl (fun u_=>trivial)
   (a_ (ai _ _) (ai _ _)) (by rw[GS];exact r_ ‹_› (by exact ac)) trivial (fun p hp own acc u_=>⟨trivial,by kernel_rfl,cL rfl rfl ⋯ (gH (be (ht _ (GU hp).1) (by decide)) (be (ha _ (GU hp).2).1 (by decide)))⟩)))⟩
noncomputable abbrev d1(X:Xp)(i:Nat):=si (ak (St X 800 1)) i
noncomputable def jZ(ms as:List (Int×Int)):List (Int×Int):=(ms.zip as).map fun p=>(nQ 0 (nL (p.1.1-p.2.1) (p.2.2-p.2.1)),nQ 0 (nL (p.1.2-p.2.1) (p.2.2-p.2.1)))
noncomputable def pX(ms as:List (Int×Int)):List (Int×Int):=(ms.zip as).map fun p=>(nQ p.1.1 p.2.1,nL p.1.2 p.2.2)
theorem sZ{as:List α}{F:α→Int×Int}(he:e= .Call (.Name ("tuple":Str) (ps (ch e 0))) [ch e 1] [] (ps e))(hg:cK [ch e 1]=none)(hx:aR c en "tuple"=some (.val (.type "tuple")))(hc:(al [ch e 1]&&bK c.K (.type "tuple"))=true)(hi:aX (ch e 1)=false)(hl:as.length≤900)
 (h1:(lv c n).ev en σ (ch e 1)=some (.ok (.lst σ.length) (σ++[aa.lst (as.map fun a=>pP (F a))]))):(lv c (n+2)).ev en σ e=some (.ok (vP (as.map F)) (σ++[aa.lst (as.map fun a=>pP (F a))])):=by
 have:=vY he hg hx hc hi h1 (by rw[GO];exact bg ‹_› (by exact ac))
 rw[this,vP,Ha];rfl
theorem r10(hself:own.lookup ("self":Str)=some (.inst ag k))(harg:own.lookup ("arg":Str)=some (vP as))(hv:σ[k]? =some (aa.dct (bf S (vI ts) (.int o) (vP ms) B)))(hl:ms.length≤900)(n:Nat):
 ∃ext:Sg,aT (cc X) (lv (cc X) (n+20)) (ah X 800 own) σ (d1 X 0)=some (.ok .next (ah X 800 (("nmask",vP (jZ ms as))::own)) (σ++ext)):=
 ⟨_,cm (x:="nmask") (xp:=ps (sx (d1 X 0) 1)) rfl ac ac (sZ (as:=ms.zip as) (F:=fun p=>(nQ 0 (nL (p.1.1-p.2.1) (p.2.2-p.2.1)),nQ 0 (nL (p.1.2-p.2.1) (p.2.2-p.2.1)))) rfl rfl rfl ac aA (by rw[GS];exact wq ‹_› (by exact ac))
  (bO (S:=fun u_=>True) (x:= .it (.zip [.seq (ms.map pP) 0,.seq (as.map pP) 0])) (t:= .zip [.seq (ms.map pP) 0,.seq (as.map pP) 0]) (as:=ms.zip as) (f:=fun p=> .tup [pP p.1,pP p.2]) (b:=fun p=>[("ay",.int p.2.2),("ax",.int p.2.1),("my",.int p.1.2),("mx",.int p.1.1)]) (P:=fun u_=>True) ⋯ rfl ⋯
   (eB (x:=vP ms) (y:=vP as) ⋯ rfl rfl ⋯ aA ⋯ (bb (x:="mask") ⋯ ac hself rfl hv rfl rfl) (aW (x:="arg") ⋯ ac harg) rfl rfl) rfl (fun u_=>trivial)
   (a_ (ai _ _) (ai _ _)) (by rw[GS];exact r_ ‹_› (by exact ac)) trivial (fun p hp own acc u_=>⟨trivial,by kernel_rfl,by kernel_rfl⟩)))⟩
noncomputable abbrev u2(X:Xp):=sx (d1 X 1) 0
theorem r11{nm:List (Int×Int)}(hn:own.lookup ("nmask":Str)=some (vP nm))(hm:own.lookup ("mask":Str)=some Mk)(hM:Mk= .none∨ ∃ms,Mk=vP ms)(hl:nm.length≤900)(n:Nat):
 ∃(ms':List (Int×Int)) (ext:Sg),(ms'=nm∨ ∃ms,Mk=vP ms∧ms'=pX nm ms)∧aT (cc X) (lv (cc X) (n+30)) (ah X 800 own) σ (d1 X 1)=some (.ok .next (ah X 800 (("mask",vP ms')::own)) (σ++ext)):=by
 have t:(lv (cc X) (n+29)).tr (ah X 800 own) σ (ch (u2 X) 0)=some (.ok (!aY Mk) σ):=
  bx (op:= .IsNot) (KE:=σ) (x:=Mk) (y:= .none) rfl aA (aW (x:="mask") rfl ac hm) rfl rfl
 rcases hM with rfl|⟨ms,rfl⟩
 ·refine⟨nm,[],.inl rfl,?_⟩;have:=cm (c:=cc X) (σ:=σ) (KE:=σ) (en:=ah X 800 own) (s:=d1 X 1) (x:="mask") (xp:=ps (sx (d1 X 1) 1)) (y:=vP nm) rfl ac ac (uH rfl t (aW (x:="nmask") rfl ac hn));rw[G4];exact this
 ·refine⟨pX nm ms,[aa.lst ((nm.zip ms).map fun p=>pP (nQ p.1.1 p.2.1,nL p.1.2 p.2.2))],.inr ⟨ms,rfl,rfl⟩,?_⟩
  exact cm (x:="mask") (xp:=ps (sx (d1 X 1) 1)) rfl ac ac (tP rfl t (sZ (as:=nm.zip ms) (F:=fun p=>(nQ p.1.1 p.2.1,nL p.1.2 p.2.2)) rfl rfl rfl ac aA (by rw[GS];exact wq ‹_› (by exact ac))
   (bO (S:=fun u_=>True) (x:= .it (.zip [.seq (nm.map pP) 0,.seq (ms.map pP) 0])) (t:= .zip [.seq (nm.map pP) 0,.seq (ms.map pP) 0]) (as:=nm.zip ms) (f:=fun p=> .tup [pP p.1,pP p.2]) (b:=fun p=>[("my2",.int p.2.2),("mx2",.int p.2.1),("my1",.int p.1.2),("mx1",.int p.1.1)]) (P:=fun u_=>True) ⋯ rfl ⋯
    (eB (x:=vP nm) (y:=vP ms) ⋯ rfl rfl ⋯ ⋯ ⋯ (aW (x:="nmask") ⋯ ac hn) (aW (x:="mask") ⋯ ac hm) rfl rfl) rfl (fun u_=>trivial)
    (a_ (ai _ _) (ai _ _)) (by rw[GS];exact r_ ‹_› (by exact ac)) trivial (fun p hp own acc u_=>⟨trivial,by kernel_rfl,by kernel_rfl⟩))))
noncomputable abbrev eO(as:List (Int×Int)):List Int:=as.map fun p=>p.2-p.1
theorem r2(harg:own.lookup ("arg":Str)=some (vP as))(hl:as.length≤900)(n:Nat):aT (cc X) (lv (cc X) (n+20)) (ah X 800 own) σ (St X 800 2)=some (.ok .next (ah X 800 (("shape",.lst σ.length)::own)) (σ++[aa.lst ((eO as).map V.int)])):=by
 refine AF rfl rfl ac ?_;rw[eO,Ha];exact bO (S:=fun u_=>True) (t:= .seq (as.map pP) 0) (as:=as) (f:=pP) (b:=fun p=>[("y",.int p.2),("x",.int p.1)]) (P:=fun u_=>True) (F:=V.int∘fun p=>p.2-p.1) rfl rfl ac (bz aA (aW rfl ac harg)) rfl (fun u_=>trivial)
  (ai _ _) (fA ‹_› (by exact ac)) trivial (fun p hp own acc u_=>⟨trivial,rfl,rfl⟩)
theorem r3(hm:own.lookup ("mask":Str)=some Mk)(hM:Mk= .none∨ ∃ms,Mk=vP ms∧ms.length≤900)(hs:own.lookup ("shape":Str)=some (.lst j))(hj:σ[j]? =some (aa.lst (ss.map V.int)))(n:Nat):
 ∃own',(own'=own∨own'=(("mask":Str),V.none)::own)∧aT (cc X) (lv (cc X) (n+20)) (ah X 800 own) σ (St X 800 3)=some (.ok .next (ah X 800 own') σ):=by
 have t0:(lv (cc X) (n+19)).tr (ah X 800 own) σ (ch (sx (St X 800 3) 0) 0)=some (.ok (!aY Mk) σ):=
  bx rfl aA (aW rfl ac hm) rfl rfl
 rcases hM with rfl|⟨ms,rfl,hl⟩
 ·exact⟨own,.inl rfl,dy rfl (mB (a:=false) (b:=true) rfl t0 (fun h=>by exact bM h)) rfl⟩
 have t:(lv (cc X) (n+20)).tr (ah X 800 own) σ (sx (St X 800 3) 0)=some (.ok (true&&(ms.zip ss).all fun p=>(p.1.1==0)&&(p.1.2==p.2)) σ):=
  mB rfl t0 fun u_=>dz ac (iw (S:=fun KD=>KD=σ) (t:= .zip [.seq (ms.map pP) 0,.lst j 0]) (as:=ms.zip ss) (f:=fun p=> .tup [pP p.1,.int p.2]) (b:=fun p=>[("s",.int p.2),("m",pP p.1)]) (F:=fun p=> .bool ((p.1.1==0)&&(p.1.2==p.2)))
   ⋯ ⋯ rfl (eB ⋯ rfl rfl ⋯ ⋯ aA (aW (x:="mask") ⋯ ac hm) (aW (x:="shape") ⋯ ac hs) rfl (fF hj)) rfl rfl (a_ (ai _ _) (eu fun KD q=>by rw[q];exact hj)) (by rw[GS];exact r_ ‹_› (by exact ac))
   (fun p u_ own=>⟨by kernel_rfl,qK ⋯ ⋯ (fun u_=>by kernel_rfl)⟩) (fun u_ u_=>rfl)) rfl
 cases hb:(true&&(ms.zip ss).all fun p=>(p.1.1==0)&&(p.1.2==p.2))with
 |false=>
  rw[hb]at t;exact⟨own,.inl rfl,dy rfl t rfl⟩
 |true=>
  rw[hb]at t;exact⟨_,.inr rfl,eQ rfl t rfl⟩
noncomputable abbrev u4(X:Xp):=sx (St X 800 4) 0
theorem r4(hself:own.lookup ("self":Str)=some (.inst ag k))(hv:σ[k]? =some (aa.dct (bf S (vI ts) (.int o) M B)))(hm:own.lookup ("mask":Str)=some Mk)(ho:own.lookup ("offset":Str)=some (.int z))(hs:own.lookup ("shape":Str)=some (.lst j))(hj:σ[j]? =some (aa.lst (ss.map V.int)))
 (hl:bR ss) (h0:ss≠[]) (hp: ∀s∈ss,0≤s) (hA:qV ss (vI ts) Mk) (n:Nat):aH ((lv (cc X) (n+60)).exs (ah X 800 own) σ [St X 800 4]) σ ss:=by
 have hl4:=hl.1;refine vy rfl (jf (args:=[ch (u4 X) 1,ch (u4 X) 2,ch (u4 X) 3,ch (u4 X) 4]) (xs:=[vI ss,vI ts,.int (o+z),Mk]) rfl ac rfl ?_ (GW _) (kE hl h0 hp hA (n+6)))
 refine aO ac (xR ac ?_) (aO ac (bz aA (bb rfl ac hself rfl hv rfl rfl))
  (aO ac (bz aA (cL rfl (bb rfl ac hself rfl hv rfl rfl) (aW rfl ac ho) rfl))
   (aO ac (bz aA (aW rfl ac hm)) gh)))
 exact gP (S:=fun KD=>KD=σ) (t:= .lst j 0) (as:=ss) (f:=V.int) (b:=fun a=>[("s",.int a)]) (F:=V.int) ⋯ ⋯ rfl (bz aA (aW rfl ac hs)) (fF hj) rfl (eu fun KD q=>by rw[q];exact hj) (fA ‹_› (by exact ac))
  (fun a u_ own=>⟨by kernel_rfl,by kernel_rfl⟩) (fun u_ u_=>rfl)
theorem lq{u v:Int}(h:u.natAbs≤k)(h':v.natAbs≤k):(nL u v).natAbs≤k:=by unfold nL;split<;>assumption
theorem lB{u v:Int}(h:u.natAbs≤k)(h':v.natAbs≤k):(nQ u v).natAbs≤k:=by unfold nQ;split<;>assumption
theorem zt(h1:PB 2000 ms)(h2:PB 2000 as):PB 4000 (jZ ms as):=by
 intro p hp;unfold jZ at hp;refine aL (G2.mp hp) fun q hq zz2=> ?_;subst zz2;have a:=h1 _ (GU hq).1;have b:=h2 _ (GU hq).2
 exact⟨lB (by exact H' _) (lq (Cn (Ge ‹_›) (Ge ‹_›) (by exact ac)) (Cn (Gf ‹_›) (Ge ‹_›) (by exact ac))),lB (by exact H' _) (lq (Cn (Gf ‹_›) (Ge ‹_›) (by exact ac)) (Cn (Gf ‹_›) (Ge ‹_›) (by exact ac)))⟩
theorem yF(h1:PB 4000 ms)(h2:PB 4000 as):PB 4000 (pX ms as):=by
 intro p hp;unfold pX at hp;refine aL (G2.mp hp) fun q hq zz2=> ?_;subst zz2;have a:=h1 _ (GU hq).1;have b:=h2 _ (GU hq).2;exact⟨lB a.1 b.1,lq a.2 b.2⟩
structure eS(σ:Sg)(k:Nat)(ss ts:List Int)(o:Int)(M B:V):Prop where
 at_:σ[k]? =some (aa.dct (bf (vI ss) (vI ts) (.int o) M B))
 lt:ts.length=ss.length
 ib:IB (2^20) ts
 mq:M= .none∨ ∃ms,M=vP ms∧ms.length=ss.length∧PB 2000 ms
theorem eS.app{ts:List Int}{o:Int}{M:V}(h:eS σ k ss ts o M B)(p:σ<+:KD):eS KD k ss ts o M B:=⟨i_ p h.at_,h.lt,h.ib,h.mq⟩
theorem AX(hv:eS σ k ss ts o M B)(hl:ss.length≤4)(h0:ss≠[])(ha:as.length=ss.length)(hb:PB 2000 as)(hM:Mk= .none∨ ∃ms,Mk=vP ms∧ms.length=ss.length∧PB 2000 ms)(hs: ∀s∈eO as,0≤s∧s≤1000)(n:Nat):
 aH ((lv (cc X) (n+60)).exs (ah X 800 [("mask",Mk),("arg",vP as),("self",.inst ag k)]) σ (aD X 800)) σ (eO as):=by
 have e3:=hv.lt
 rw[show aD X 800=[St X 800 0,St X 800 1,St X 800 2,St X 800 3,St X 800 4]from rfl]
 refine rh (r0 (X:=X) (own:=[("mask",Mk),("arg",vP as),("self",.inst ag k)]) rfl rfl hv.at_ (dI ‹_› ‹_› (by exact ac)) hv.ib hb (n+39)) fun z ext h1=> ?_
 refine aH.next h1 (GQ _ _) ?_;have f7:=hv.app (GQ σ ext);generalize σ++ext=Lm at f7⊢;have key: ∀(own':List (Str×V)) (Ly:Sg) (Mk':V),Lm<+:Ly→own'.lookup ("self":Str)=some (.inst ag k)→own'.lookup ("arg":Str)=some (vP as)→own'.lookup ("offset":Str)=some (.int z)→own'.lookup ("mask":Str)=some Mk'→(Mk'= .none∨ ∃ms,Mk'=vP ms∧ms.length=ss.length∧PB 4000 ms)→
  aH ((lv (cc X) (n+60)).exs (ah X 800 own') Ly [St X 800 2,St X 800 3,St X 800 4]) Ly (eO as):=by
  intro own' Ly Mk' p a1 a2 a3 a4 hM';have nU:=f7.app p
  refine aH.next (r2 a2 (dI ‹_› ‹_› (by exact ac)) (n+39)) (GQ _ _) ?_
  have hj:(Ly++[aa.lst ((eO as).map V.int)])[Ly.length]? =some (aa.lst ((eO as).map V.int)):=by exact G8
  have hv3:=nU.app (GQ Ly [aa.lst ((eO as).map V.int)])
  refine aL (r3 (X:=X) (own:=("shape",.lst Ly.length)::own') (Mk:=Mk') a4 (hM'.imp id fun h'=>bW h' fun ms e l u_=>⟨ms,e,by exact dI ‹_› ‹_› (by exact ac)⟩) rfl hj (n+39)) fun own2 hd h2=> ?_
  refine aH.next h2 (GW _) ?_
  have S1:bR (eO as):=⟨by rw[GO];exact dI ‹_› ‹_› (by exact ac),fun s q=>by have:=hs s q;exact qA ‹_› (by exact ac)⟩
  have S0:eO as≠[]:=fun q=>h0 (Hb (by rw[←ha,←GO (f:=fun p:Int×Int=>p.2-p.1)];exact congrArg List.length q))
  have lt':ts.length=(eO as).length:=by rw[GO];exact Gu ‹_› (Gv ‹_›)
  have ib': ∀t∈ts,t.natAbs≤2^30:=fun t q=>HX (hv.ib t q) (by decide)
  rcases hd with rfl|rfl
  ·exact r4 (own:=("shape",.lst Ly.length)::own') a1 hv3.at_ a4 a3 rfl hj S1 S0 (fun s q=>(hs s q).1) (.inr ⟨ts,rfl,lt',hM'.imp id fun h'=>bW h' fun ms e l q=>⟨ms,e,by rw[GO];exact Gu ‹_› (Gv ‹_›),ib',fun m hm=>HX (q m hm).1 (by decide)⟩⟩) n
  ·exact r4 (own:=("mask",V.none)::("shape",.lst Ly.length)::own') a1 hv3.at_ rfl a3 rfl hj S1 S0 (fun s q=>(hs s q).1) (.inr ⟨ts,rfl,lt',.inl rfl⟩) n
 have t1:(lv (cc X) (n+59)).tr (ah X 800 [("offset",.int z),("mask",Mk),("arg",vP as),("self",.inst ag k)]) Lm (sx (St X 800 1) 0)=(bu Lm M).map fun b=> .ok b Lm:=by
  rcases hv.mq with rfl|⟨ms,rfl,l,_⟩
  ·exact dz ac (bb rfl ac rfl rfl f7.at_ rfl rfl) rfl
  ·as_aux_lemma=>
    have q:bu Lm (vP ms)=some (!(ms.map pP).isEmpty):=fz (by rw[GO];exact dI ‹_› ‹_› (by exact ac))
    rw[q]
    exact dz ac (bb rfl ac rfl rfl f7.at_ rfl rfl) q
 rcases hv.mq with rfl|⟨ms,rfl,l,hp⟩
 ·exact aH.next (dy rfl t1 rfl) (GW _) (key [("offset",.int z),("mask",Mk),("arg",vP as),("self",.inst ag k)] Lm Mk (GW _) rfl rfl rfl rfl (hM.imp id fun h'=>bW h' fun ms e l q=>⟨ms,e,l,fun m hm=>⟨HX (q m hm).1 (by exact H7 ..),HX (q m hm).2 (by exact H7 ..)⟩⟩))
 ·have q:bu Lm (vP ms)=some true:=by
   rw[fz (by rw[GO];exact dI ‹_› ‹_› (by exact ac))]
   cases ms with
   |nil=>exact absurd (Hb l.symm) h0
   |cons=>rfl
  rw[q]at t1
  have lc:(jZ ms as).length=ss.length:=by unfold jZ;rw[GO,GS];exact mq ‹_› ‹_›
  refine oE (r10 (X:=X) (own:=[("offset",.int z),("mask",Mk),("arg",vP as),("self",.inst ag k)]) rfl rfl f7.at_ (dI ‹_› ‹_› (by exact ac)) (n+38)) fun x1 k1=> ?_
  refine bc (r11 (X:=X) (σ:=Lm++x1) (own:=[("nmask",vP (jZ ms as)),("offset",.int z),("mask",Mk),("arg",vP as),("self",.inst ag k)]) (Mk:=Mk) rfl rfl (hM.imp id fun h'=>aL h' fun ms e u_=>⟨ms,e⟩) (dI ‹_› ‹_› (by exact ac)) (n+28)) fun ms' x2 hm' k2=> ?_
  refine aH.next (en':=ah X 800 [("mask",vP ms'),("nmask",vP (jZ ms as)),("offset",.int z),("mask",Mk),("arg",vP as),("self",.inst ag k)]) (KD:=Lm++x1++x2) (eQ rfl t1 ?_) ((GQ _ _).trans (GQ _ _)) (key [("mask",vP ms'),("nmask",vP (jZ ms as)),("offset",.int z),("mask",Mk),("arg",vP as),("self",.inst ag k)] _ (vP ms') ((GQ _ _).trans (GQ _ _)) rfl rfl rfl rfl (.inr ⟨ms',rfl,?_⟩))
  ·rw[show ak (St X 800 1)=[d1 X 0,d1 X 1]from rfl]
   exact ab k1 (aq k2)
  ·as_aux_lemma=>
    have c:=zt hp hb
    rcases hm' with rfl|⟨ms2,e,rfl⟩
    ·exact⟨lc,c⟩
    ·rcases hM with rfl|⟨ms3,rfl,l3,q3⟩
     ·cases e
     ·obtain rfl:ms3=ms2:=by
       have:=V.tup.inj e
       have inj: ∀a b:List (Int×Int),a.map pP=b.map pP→a=b:=fun a b h=>(List.map_inj_right (fun x y h=>by cases x;cases y;cases h;rfl)).mp h
       exact inj _ _ this
      exact⟨by unfold pX;rw[GO,GS];exact mq ‹_› ‹_›,yF c fun m hm=>⟨HX (q3 m hm).1 (by exact H7 ..),HX (q3 m hm).2 (by exact H7 ..)⟩⟩
end
section
section
theorem BI{vs:List IV}{ks:List (Str×V)}{o:aG IV}(he:e= .Call (.Attribute (ch (ch e 0) 0) name (ps (ch e 0))) args (yS e) (ps e))(hp:(aU (ch (ch e 0) 0)&&(ps (ch e 0)).endLine==(ps e).line&&decide (args.length+(yS e).length<20)&&al args&&ii (yS e))=true)
 (hx:(lv c n).ev en σ (ch (ch e 0) 0)=some (.ok x KE)) (hm:iA c KE x name=some (fv,first)) (hc:bK c.K fv=true) (h1:dZ (lv c n).iv en KE args=some (.ok vs KI)) (hk:ue (lv c n).ev en KI (yS e)=some (.ok ks KI)) (h2:aJ c (lv c n).cf KI fv (first.map .v++vs) ks=some o):(lv c (n+1)).iv en σ e=some o:=by
 refine(congrArg ((lv c (n+1)).iv en σ) he).trans ?_;have h3:=Gi.mp hp;have h4:=Gi.mp h3.1
 exact hX (hV hp hx hm (fD (xs:=vs) (ks:=ks) (by rw[h4.2,h3.2,hc];rfl) h1 hk h2))
theorem Fv{w x y:Int}(he:e= .Compare (ch e 0) [.LtE,.LtE,.LtE] [ch e 1,ch e 2,ch e 3] (ps e))(hm:lastMarks [.LtE,.LtE,.LtE] [ch e 1,ch e 2,ch e 3]=false)(h0:(lv c n).ev en σ (ch e 0)=some (.ok (.int w) σ))(h1:(lv c n).ev en σ (ch e 1)=some (.ok (.int x) σ))(h2:(lv c n).ev en σ (ch e 2)=some (.ok (.int y) σ))(h3:(lv c n).ev en σ (ch e 3)=some (.ok (.int z) σ)):
 (lv c (n+1)).ev en σ e=some (.ok (.bool (decide (w≤x)&&(decide (x≤y)&&decide (y≤z)))) σ):=by
 refine(congrArg ((lv c (n+1)).ev en σ) he).trans ?_;refine(?_:gB (lv c n).ev en σ (ch e 0) [.LtE,.LtE,.LtE] [ch e 1,ch e 2,ch e 3]=_);have c1:eo σ .LtE (.int w) (.int x)=some (decide (w≤x)):=rfl;have c2:eo σ .LtE (.int x) (.int y)=some (decide (x≤y)):=rfl;have c3:eo σ .LtE (.int y) (.int z)=some (decide (y≤z)):=rfl
 refine(if_neg (by rw[hm];exact Gk):(if lastMarks [.LtE,.LtE,.LtE] [ch e 1,ch e 2,ch e 3]=true then none else aw ((lv c n).ev en σ (ch e 0)) _)=_).trans ?_
 rw[h0];refine fS h1 c1 ?_
 cases decide (w≤x)with
 |false=>rfl
 |true=>
  refine fS h2 c2 ?_
  cases decide (x≤y)with
  |false=>rfl
  |true=>exact gV h3 c3
end
section
variable {X:Xp}{S T M:V}{own:List (Str×V)}
noncomputable def yN(X:Xp)(C:Addr)(name:Str)(f:Addr):Bool:=decide (findIn (cc X).K (.ref C) "__getattribute__"=some (some (.builtin "object.__getattribute__")))&&decide (findIn (cc X).K (.ref C) "__getattr__"=some none)&&decide (findIn (cc X).K (.ref C) name=some (some (.ref f)))&&decide (typeIn (cc X).K (.ref f)=some (.type "function"))
theorem iV{f:Addr}(hk:σ[k]? =some (aa.dct fs))(hn:(ez fs name).isNone=true)(h:yN X C name f=true):iA (cc X) σ (.inst C k) name=some (.ref f,[.inst C k]):=by
 unfold yN at h;simp only[Gj,decide_eq_true_eq]at h;refine dw fun kk=> ?_;obtain⟨⟨⟨h1,h2⟩,h3⟩,h4⟩:=h<;>(refine kk ?_;clear kk)
 show(fH σ k).bind _=_;rw[lQ hk]
 show(if _ then _ else none)=_
 rw[if_pos ⟨h1,h2,hn⟩,h3];exact if_pos h4
theorem kz(he:e= .Call (.Name ("len":Str) (ps (ch e 0))) [ch e 1] [] (ps e))(hg:cK [ch e 1]=none)(hx:aR (cc X) (ah X a own) "len"=some (.val (.builtin "len")))(hc:al [ch e 1]=true)(hi:aX (ch e 1)=false)(h1:(lv (cc X) n).ev (ah X a own) σ (ch e 1)=some (.ok (.tup l) σ))(hl:l.length≤2^20):(lv (cc X) (n+2)).ev (ah X a own) σ e=some (.ok (.int l.length) σ):=
 bL he hg hx (by rw[hc];exact ac) (bz hi h1) (oM hl)
end
noncomputable def gI(r:Option (aG V))(σ:Sg)(ss:List Int):Prop:= ∃k KD T O M B,σ<+:KD∧r=some (.ok (.inst ag k) KD)∧KD[k]? =some (aa.dct (bf (vI ss) T O M B))
variable {X:Xp}{own:List (Str×V)}{S M Mk:V}{ts:List Int}{o:Int}{as ms:List (Int×Int)}
noncomputable abbrev p0(X:Xp):=sx (St X 805 0) 0
noncomputable def mA(as:List (Int×Int)):Bool:=as.all fun p=>decide (0≤p.1)&&decide (0≤p.2)
noncomputable abbrev eP(k:Nat)(arg:V):List (Str×V):=[("arg",arg),("self",.inst ag k)]
theorem CO(hv:eS σ k ss ts o M B)(hl:ss.length≤900)(ha:as.length≤900)(n:Nat):(lv (cc X) (n+20)).tr (ah X 805 (eP k (vP as))) σ (p0 X)=some (.ok (mA as&&(as.length:Int)==(ss.length:Int)) σ):=
 mB rfl (dz ac (iw (S:=fun u_=>True) (x:= .v (vP as)) (t:= .seq (as.map pP) 0) (as:=as) (f:=pP) (b:=fun p=>[("e",.int p.2),("b",.int p.1)]) (F:=fun p=> .bool (decide (0≤p.1)&&decide (0≤p.2))) ⋯ ⋯ rfl
  (bz aA (aW (x:="arg") rfl ac rfl)) rfl trivial (ai _ _) (fA ‹_› (by exact ac)) (fun p u_ own=>⟨by kernel_rfl,qK ⋯ rfl (fun u_=>by kernel_rfl)⟩) (fun u_ u_=>rfl)) rfl)
  (fun u_=>by
   have e1:((as.map pP).length:Int)=as.length:=by rw[GO]
   have e2:((ss.map V.int).length:Int)=ss.length:=by rw[GO]
   rw[←e1,←e2]
   exact bx (op:= .Eq) (KE:=σ) (x:= .int _) (y:= .int _) rfl aA (kz (l:=as.map pP) rfl rfl rfl ac aA (aW (x:="arg") rfl ac rfl) (by rw[GO];exact bg ‹_› (by exact ac)))
    (kz (l:=ss.map V.int) rfl rfl rfl ac aA (bb (x:="shape") ⋯ ac rfl rfl hv.at_ rfl rfl) (by rw[GO];exact bg ‹_› (by exact ac))) rfl)
noncomputable abbrev y0(X:Xp)(i:Nat):=si (ak (St X 805 1)) i
theorem FU(n:Nat)(ha:as.length≤900):(lv (cc X) (n+20)).tr (ah X 805 (eP k (vP as))) σ (sx (St X 805 1) 0)=some (.ok (as.any fun p=>p.1 !=0||p.2 !=0) σ):=
 dz ac (AD (S:=fun u_=>True) (t:= .seq (as.map pP) 0) (as:=as) (f:=pP) (b:=fun p=>[("e",.int p.2),("b",.int p.1)]) (F:=fun p=>bif p.1 !=0 then .int p.1 else .int p.2) (q:=fun p=>p.1 !=0||p.2 !=0) rfl ⋯ rfl
  (bz aA (aW rfl ac rfl)) rfl trivial (ai _ _) (fA ‹_› (by exact ac)) (fun p u_ own=>⟨by kernel_rfl,EA rfl rfl rfl (fun u_=>rfl)⟩)
  (fun p u_=>by cases h:p.1 !=0 with|false=>exact rfl|true=>exact congrArg some h)) rfl
noncomputable def uO(ss:List Int)(as:List (Int×Int)):List (Int×Int):=(ss.zip as).map fun p=>(-p.2.1,p.1+p.2.2)
noncomputable def Ck(ss:List Int)(as:List (Int×Int)):List (Int×Int):=(ss.zip as).map fun p=>(p.2.1,p.1+p.2.1)
theorem F8(hv:eS σ k ss ts o M B)(hl:ss.length≤900)(n:Nat): ∃ext:Sg,aT (cc X) (lv (cc X) (n+20)) (ah X 805 (eP k (vP as))) σ (y0 X 0)=some (.ok .next (ah X 805 (("zvarg",vP (uO ss as))::eP k (vP as))) (σ++ext)):=
 ⟨_,cm (x:="zvarg") (xp:=ps (sx (y0 X 0) 1)) rfl ac ac (sZ (as:=ss.zip as) (F:=fun p=>(-p.2.1,p.1+p.2.2)) rfl rfl rfl ac aA (by rw[GS];exact wq ‹_› (by exact ac))
  (bO (S:=fun u_=>True) (x:= .it (.zip [.seq (ss.map V.int) 0,.seq (as.map pP) 0])) (t:= .zip [.seq (ss.map V.int) 0,.seq (as.map pP) 0]) (as:=ss.zip as) (f:=fun p=> .tup [.int p.1,pP p.2]) (b:=fun p=>[("e",.int p.2.2),("b",.int p.2.1),("s",.int p.1)]) (P:=fun u_=>True) ⋯ rfl ⋯
   (eB (x:=vI ss) (y:=vP as) ⋯ rfl rfl ⋯ ⋯ ⋯ (bb (x:="shape") ⋯ ac rfl rfl hv.at_ rfl rfl) (aW (x:="arg") ⋯ ac rfl) rfl rfl) rfl (fun u_=>trivial)
   (a_ (ai _ _) (ai _ _)) (by rw[GS];exact r_ ‹_› (by exact ac)) trivial (fun p hp own acc u_=>⟨trivial,by kernel_rfl,by kernel_rfl⟩)))⟩
theorem Fo{z:V}(hv:eS σ k ss ts o M B)(hl:ss.length≤900)(n:Nat): ∃ext:Sg,aT (cc X) (lv (cc X) (n+20)) (ah X 805 (("zvarg",z)::eP k (vP as))) σ (y0 X 1)=some (.ok .next (ah X 805 (("mask",vP (Ck ss as))::("zvarg",z)::eP k (vP as))) (σ++ext)):=
 ⟨_,cm (x:="mask") (xp:=ps (sx (y0 X 1) 1)) rfl ac ac (sZ (as:=ss.zip as) (F:=fun p=>(p.2.1,p.1+p.2.1)) rfl rfl rfl ac aA (by rw[GS];exact wq ‹_› (by exact ac))
  (bO (S:=fun u_=>True) (x:= .it (.zip [.seq (ss.map V.int) 0,.seq (as.map pP) 0])) (t:= .zip [.seq (ss.map V.int) 0,.seq (as.map pP) 0]) (as:=ss.zip as) (f:=fun p=> .tup [.int p.1,pP p.2]) (b:=fun p=>[("_",.int p.2.2),("b",.int p.2.1),("s",.int p.1)]) (P:=fun u_=>True) ⋯ rfl ⋯
   (eB (x:=vI ss) (y:=vP as) ⋯ rfl rfl ⋯ ⋯ ⋯ (bb (x:="shape") ⋯ ac rfl rfl hv.at_ rfl rfl) (aW (x:="arg") ⋯ ac rfl) rfl rfl) rfl (fun u_=>trivial)
   (a_ (ai _ _) (ai _ _)) (by rw[GS];exact r_ ‹_› (by exact ac)) trivial (fun p hp own acc u_=>⟨trivial,by kernel_rfl,by kernel_rfl⟩)))⟩
end
section
noncomputable def dh(r:Option (aG V))(σ:Sg):Prop:= ∃cls KD,(cls="AssertionError"∨cls="ValueError")∧σ<+:KD∧r=some (.exc cls KD)
theorem dh.el{r:Option (aG V)}(h:dh r σ)(k: ∀cls KD,(cls="AssertionError"∨cls="ValueError")→σ<+:KD→r=some (.exc cls KD)→G):G:=by
 obtain⟨a,b,c,d,e⟩:=h;exact k a b c d e
theorem cG{x:aa}:(σ++[x])[σ.length]? =some x:=by exact G8
theorem bP{l:List Stmt}{cls:String}(h:aT c (lv c n) en σ st=some (.exc cls en' KD)):(lv c (n+1)).exs en σ (st::l)=some (.exc cls en' KD):=by
 show(aT c (lv c n) en σ st).bind _=_;rw[h];rfl
theorem bj{l:List Stmt}{v:V}(h:aT c (lv c n) en σ st=some (.ok (.ret v) en' KD)):(lv c (n+1)).exs en σ (st::l)=some (.ok (.ret v) en' KD):=by
 show(aT c (lv c n) en σ st).bind _=_;rw[h];rfl
variable {X:Xp}{own:List (Str×V)}{S M Mk:V}{ts:List Int}{o:Int}{as ms:List (Int×Int)}
theorem sE(hv:eS σ k ss ts o M B)(hl:ss.length≤4)(h0:ss≠[])(ha:as.length=ss.length)(hb:PB 2000 as)(hM:Mk= .none∨ ∃ms,Mk=vP ms∧ms.length=ss.length∧PB 2000 ms)(hs: ∀s∈eO as,0≤s∧s≤1000){ks:List (Str×V)}(hk:ks=[(("mask":Str),Mk)]∨(ks=[]∧Mk= .none))(n:Nat):
 fZ ((lv (cc X) (n+61)).cf σ 800 [.inst ag k,vP as] ks) σ (eO as):=by
 have r:=AX (X:=X) hv hl h0 ha hb hM hs n
 rcases hk with rfl|⟨rfl,rfl⟩
 ·exact gX (a:=800) (binds:=[("self",.inst ag k),("arg",vP as),("mask",Mk)]) ⋯ ⋯ ac r
 ·exact gX (a:=800) (binds:=[("self",.inst ag k),("arg",vP as),("mask",.none)]) ⋯ ⋯ ac r
noncomputable def fb(ss:List Int)(as:List (Int×Int)):List Int:=(ss.zip as).map fun p=>p.1+p.2.1+p.2.2
noncomputable abbrev y2(X:Xp):=sx (y0 X 2) 0
theorem sJ:eO (uO ss as)=fb ss as:=by
 unfold eO uO fb;rw[Ha];refine Hz fun p u_=> ?_;show p.1+p.2.2- -p.2.1=_;rw[Int.sub_neg];exact Int.add_right_comm ..
theorem qd: ∀{as:List (Int×Int)},as.length=ss.length→(as.any fun p=>p.1 !=0||p.2 !=0)=false→fb ss as=ss:=by
 induction ss with
 |nil=>exact fun u_ u_=>rfl
 |cons s ss ih=>
  intro as h q
  cases as with
  |nil=>exact Nat.noConfusion h
  |cons a as=>
   simp only[Hu,Bool.or_eq_false_iff,bne_eq_false_iff_eq]at q;have:=ih (Nat.succ.inj h) q.2;unfold fb at this⊢;simp only[HA,List.map_cons,this,q.1.1,q.1.2];congr 1;exact C7
theorem F4(hv:eS σ k ss ts o M B)(hl:ss.length≤4)(h0:ss≠[])(hs: ∀s∈ss,0≤s∧s≤100)(ha:PB 100 as)(hal:as.length≤900)(h:(mA as&&(as.length:Int)==(ss.length:Int))=true)(n:Nat):gI ((lv (cc X) (n+80)).cf σ 805 [.inst ag k,vP as] []) σ (fb ss as):=by
 have t:=CO (X:=X) (as:=as) hv (bg ‹_› (by exact ac)) hal (n+58)
 rw[h]at t;refine oA (Gi.mp h) fun h1 h2=> ?_
 have hlen:as.length=ss.length:=by
  have:=GN h2;exact cN ‹_›
 have s0:aT (cc X) (lv (cc X) (n+78)) (ah X 805 (eP k (vP as))) σ (St X 805 0)=some (.ok .next (ah X 805 (eP k (vP as))) σ):=cy (n:=n+78) (v:=true) rfl t;have t1:=FU (X:=X) (σ:=σ) (k:=k) (as:=as) (n+58) hal
 have fin: ∀so o,(lv (cc X) (n+79)).exs (ah X 805 (eP k (vP as))) σ (aD X 805)=some so→il so=some o→(lv (cc X) (n+80)).cf σ 805 [.inst ag k,vP as] []=some o:=fun so o h1 h2=>bp (a:=805) (n:=n+79) (binds:=[("self",.inst ag k),("arg",vP as)]) ⋯ ⋯ ac h1 h2
 rw[show aD X 805=[St X 805 0,St X 805 1,St X 805 2]from rfl]at fin
 cases hz:as.any fun p=>p.1 !=0||p.2 !=0 with
 |false=>
  rw[hz]at t1;rw[qd hlen hz]
  exact⟨k,σ,vI ts,.int o,M,B,GW _,fin _ _ (ab s0 (ab (dy (n:=n+78) rfl t1 rfl) (aq (n:=n+78) (dB (n:=n+78) rfl (aW (n:=n+77) (a:=805) (own:=eP k (vP as)) (x:="self") rfl ac rfl))))) rfl,hv.at_⟩
 |true=>
  rw[hz]at t1
  refine oE (F8 (X:=X) (as:=as) hv (bg ‹_› (by exact ac)) (n+57)) fun x1 k1=> ?_
  have f7:=hv.app (GQ σ x1)
  refine oE (Fo (X:=X) (as:=as) (z:=vP (uO ss as)) f7 (bg ‹_› (by exact ac)) (n+57)) fun x2 k2=> ?_
  have nU:=f7.app (GQ (σ++x1) x2)
  have b1:PB 2000 (uO ss as):=by
   intro p hp;unfold uO at hp;refine aL (G2.mp hp) fun q hq zz2=> ?_;subst zz2;have a:=hs _ (GU hq).1;have b:=ha _ (GU hq).2
   exact⟨by show(-q.2.1).natAbs≤2000;exact E8 (Ge ‹_›) (by exact ac),by show(q.1+q.2.2).natAbs≤2000;exact Fa ‹_› (Gf ‹_›) (by exact ac)⟩
  have b2:PB 2000 (Ck ss as):=by
   intro p hp;unfold Ck at hp;refine aL (G2.mp hp) fun q hq zz2=> ?_;subst zz2;have a:=hs _ (GU hq).1;have b:=ha _ (GU hq).2
   exact⟨by show(q.2.1).natAbs≤2000;exact bg (Ge ‹_›) (by exact ac),by show(q.1+q.2.1).natAbs≤2000;exact Fa ‹_› (Ge ‹_›) (by exact ac)⟩
  have b3: ∀s∈eO (uO ss as),0≤s∧s≤1000:=by
   rw[sJ];intro s hp;unfold fb at hp;refine aL (G2.mp hp) fun q hq zz2=> ?_;subst zz2;have a:=hs _ (GU hq).1;have b:=ha _ (GU hq).2;have c:=GZ.mp h1 _ (GU hq).2;simp only[Gj,decide_eq_true_eq]at c;exact⟨Int.add_nonneg (Int.add_nonneg a.1 c.1) c.2,nlm (zw (n:=1000) (Fa (n:=200) a b.1 (.refl true)) b.2 (.refl true)) (.refl true)⟩
  have l1:(uO ss as).length=ss.length:=by unfold uO;rw[GO,GS];exact Dx ‹_›
  have l2:(Ck ss as).length=ss.length:=by unfold Ck;rw[GO,GS];exact Dx ‹_›
  refine gc (sE (X:=X) nU hl h0 l1 b1 (.inr ⟨_,rfl,l2,b2⟩) b3 (.inl rfl) (n+15)) fun KD T O M' B' p hr=> ?_;rw[sJ]at hr;have hc:(lv (cc X) (n+77)).ev (ah X 805 (("mask",vP (Ck ss as))::("zvarg",vP (uO ss as))::eP k (vP as))) (σ++x1++x2) (y2 X)=some (.ok (.inst ag KD.length) (KD++[aa.dct (bf (vI (fb ss as)) T O M' B')])):=
   kr ac (BI (name:="_unsafe_resize") (args:=[ch (y2 X) 1]) (fv:= .ref 800) (first:=[.inst ag k]) (vs:=[.v (vP (uO ss as))]) (ks:=[("mask",vP (Ck ss as))]) rfl ⋯ (aW rfl ac rfl)
    (iV nU.at_ ac ⋯) ac (kQ ac (bz aA (aW rfl ac rfl))) rfl (eR (xs:=[.inst ag k,vP (uO ss as)]) ⋯ hr))
  have hb:=ab k1 (ab k2 (aq (dB (s:=y0 X 2) rfl hc)))
  rw[←show ak (St X 805 1)=[y0 X 0,y0 X 1,y0 X 2]from rfl]at hb
  exact⟨_,_,T,O,M',B',(((GQ _ _).trans (GQ _ _)).trans p).trans (GQ _ _),fin _ _ (ab s0 (bj (eQ rfl t1 hb))) rfl,cG⟩
theorem E_(hv:eS σ k ss ts o M B)(hl:ss.length≤4)(hal:as.length≤900)(h:(mA as&&(as.length:Int)==(ss.length:Int))=false)(n:Nat):dh ((lv (cc X) (n+80)).cf σ 805 [.inst ag k,vP as] []) σ:=by
 have t:=CO (X:=X) (as:=as) hv (bg ‹_› (by exact ac)) hal (n+58)
 rw[h]at t;have s0:aT (cc X) (lv (cc X) (n+78)) (ah X 805 (eP k (vP as))) σ (St X 805 0)=some (.exc "AssertionError" (ah X 805 (eP k (vP as))) σ):=cy (v:=false) rfl t
 refine⟨"AssertionError",σ,.inl rfl,GW _,bp (a:=805) (binds:=[("self",.inst ag k),("arg",vP as)]) ⋯ ⋯ ac (so:= .exc "AssertionError" (ah X 805 (eP k (vP as))) σ) ?_ rfl⟩
 rw[show aD X 805=[St X 805 0,St X 805 1,St X 805 2]from rfl]
 exact bP s0
noncomputable abbrev k0(X:Xp):=sx (St X 812 0) 0
noncomputable abbrev k1(X:Xp):=sx (St X 812 1) 0
noncomputable def mh(ss:List Int)(as:List (Int×Int)):Bool:=(ss.zip as).all fun p=>decide (0≤p.2.1)&&(decide (p.2.1≤p.2.2)&&decide (p.2.2≤p.1))
theorem CE(hv:eS σ k ss ts o M B)(hl:ss.length≤900)(ha:as.length≤900)(n:Nat):(lv (cc X) (n+20)).tr (ah X 812 (eP k (vP as))) σ (k0 X)=some (.ok (mh ss as&&(as.length:Int)==(ss.length:Int)) σ):=
 mB rfl (dz ac (iw (S:=fun u_=>True) (x:= .it (.zip [.seq (ss.map V.int) 0,.seq (as.map pP) 0])) (t:= .zip [.seq (ss.map V.int) 0,.seq (as.map pP) 0]) (as:=ss.zip as) (f:=fun p=> .tup [.int p.1,pP p.2]) (b:=fun p=>[("e",.int p.2.2),("b",.int p.2.1),("s",.int p.1)]) (F:=fun p=> .bool (decide (0≤p.2.1)&&(decide (p.2.1≤p.2.2)&&decide (p.2.2≤p.1)))) ⋯ ⋯ rfl
  (eB (x:=vI ss) (y:=vP as) ⋯ rfl rfl ⋯ ⋯ ⋯ (bb (x:="shape") ⋯ ac rfl rfl hv.at_ rfl rfl) (aW (x:="arg") ⋯ ac rfl) rfl rfl) rfl trivial
  (a_ (ai _ _) (ai _ _)) (by rw[GS];exact r_ ‹_› (by exact ac)) (fun p u_ own=>⟨by kernel_rfl,Fv ⋯ aA rfl rfl rfl rfl⟩) (fun u_ u_=>rfl)) rfl)
  (fun u_=>by
   have e1:((as.map pP).length:Int)=as.length:=by rw[GO]
   have e2:((ss.map V.int).length:Int)=ss.length:=by rw[GO]
   rw[←e1,←e2]
   exact bx (op:= .Eq) (KE:=σ) (x:= .int _) (y:= .int _) rfl aA (kz (l:=as.map pP) rfl rfl rfl ac aA (aW (x:="arg") rfl ac rfl) (by rw[GO];exact bg ‹_› (by exact ac)))
    (kz (l:=ss.map V.int) rfl rfl rfl ac aA (bb (x:="shape") ⋯ ac rfl rfl hv.at_ rfl rfl) (by rw[GO];exact bg ‹_› (by exact ac))) rfl)
theorem zi(hv:eS σ k ss ts o M B)(hl:ss.length≤4)(h0:ss≠[])(hs: ∀s∈ss,0≤s∧s≤100)(ha:PB 200 as)(hal:as.length≤900)(h:(mh ss as&&(as.length:Int)==(ss.length:Int))=true)(n:Nat):gI ((lv (cc X) (n+80)).cf σ 812 [.inst ag k,vP as] []) σ (eO as):=by
 have t:=CE (X:=X) (as:=as) hv (bg ‹_› (by exact ac)) hal (n+58)
 rw[h]at t;refine oA (Gi.mp h) fun h1 h2=> ?_
 have hlen:as.length=ss.length:=by
  have:=GN h2;exact cN ‹_›
 have s0:aT (cc X) (lv (cc X) (n+78)) (ah X 812 (eP k (vP as))) σ (St X 812 0)=some (.ok .next (ah X 812 (eP k (vP as))) σ):=cy (v:=true) rfl t
 have b3: ∀s∈eO as,0≤s∧s≤1000:=by
  intro s hp;obtain⟨i,hi,rfl⟩:=List.getElem_of_mem hp;rw[GO]at hi
  have hm:(ss[i]'(ltr ‹_› ‹_›),as[i])∈ss.zip as:=by
   rw[show(ss[i]'(ltr ‹_› ‹_›),as[i])=(ss.zip as)[i]'(by rw[GS];exact lmm (E6 ‹_›) ‹_›)from by rw[List.getElem_zip]]
   exact Hd _
  have c:=GZ.mp h1 _ hm;have b:=hs _ (GU hm).1;simp only[Gj,decide_eq_true_eq]at c;rw[List.getElem_map]
  exact⟨GJ c.2.1,Gy (Int.sub_le_self _ c.1) (Gy c.2.2 (Gy b.2 (by exact Gx _)))⟩
 refine gc (sE (X:=X) (as:=as) (Mk:= .none) (ks:=[]) hv hl h0 hlen (fun q hq=>⟨HX (ha q hq).1 (by decide),HX (ha q hq).2 (by decide)⟩) (.inl rfl) b3 (.inr ⟨rfl,rfl⟩) (n+16)) fun KD T O M' B' p hr=> ?_
 have hc:(lv (cc X) (n+78)).ev (ah X 812 (eP k (vP as))) σ (k1 X)=some (.ok (.inst ag KD.length) (KD++[aa.dct (bf (vI (eO as)) T O M' B')])):=
  kr ac (gq (name:="_unsafe_resize") (args:=[ch (k1 X) 1]) (fv:= .ref 800) (first:=[.inst ag k]) (vs:=[.v (vP as)]) rfl ac (aW rfl ac rfl)
   (iV hv.at_ ac ⋯) ac (kQ ac (bz aA (aW rfl ac rfl))) (eR (xs:=[.inst ag k,vP as]) ⋯ hr))
 refine⟨_,_,T,O,M',B',p.trans (GQ _ _),bp (a:=812) (binds:=[("self",.inst ag k),("arg",vP as)]) (so:= .ok (.ret (.inst ag KD.length)) (ah X 812 (eP k (vP as))) (KD++[aa.dct (bf (vI (eO as)) T O M' B')])) ⋯ ⋯ ac ?_ rfl,cG⟩
 rw[show aD X 812=[St X 812 0,St X 812 1]from rfl]
 exact ab s0 (aq (dB rfl hc))
theorem zQ(hv:eS σ k ss ts o M B)(hl:ss.length≤4)(hal:as.length≤900)(h:(mh ss as&&(as.length:Int)==(ss.length:Int))=false)(n:Nat):dh ((lv (cc X) (n+80)).cf σ 812 [.inst ag k,vP as] []) σ:=by
 have t:=CE (X:=X) (as:=as) hv (bg ‹_› (by exact ac)) hal (n+58)
 rw[h]at t;have s0:aT (cc X) (lv (cc X) (n+78)) (ah X 812 (eP k (vP as))) σ (St X 812 0)=some (.exc "AssertionError" (ah X 812 (eP k (vP as))) σ):=cy (v:=false) rfl t
 refine⟨"AssertionError",σ,.inl rfl,GW _,bp (a:=812) (binds:=[("self",.inst ag k),("arg",vP as)]) ⋯ ⋯ ac (so:= .exc "AssertionError" (ah X 812 (eP k (vP as))) σ) ?_ rfl⟩
 rw[show aD X 812=[St X 812 0,St X 812 1]from rfl]
 exact bP s0
noncomputable abbrev fU(k:Nat)(arg:V):List (Str×V):=[("new_shape",arg),("self",.inst ag k)]
variable {xs:List Int}
noncomputable abbrev x0(X:Xp):=sx (St X 817 0) 0
theorem E7(hv:eS σ k ss ts o M B)(hl:ss.length≤900)(ha:xs.length≤900)(n:Nat):(lv (cc X) (n+20)).tr (ah X 817 (fU k (vI xs))) σ (x0 X)=some (.ok (!((xs.length:Int)==(ss.length:Int))) σ):=by
 have e1:((xs.map V.int).length:Int)=xs.length:=by rw[GO]
 have e2:((ss.map V.int).length:Int)=ss.length:=by rw[GO]
 rw[←e1,←e2]
 exact bx rfl aA (kz rfl rfl rfl ac aA (aW rfl ac rfl) (by rw[GO];exact bg ‹_› (by exact ac)))
  (kz rfl rfl rfl ac aA (bb rfl ac rfl rfl hv.at_ rfl rfl) (by rw[GO];exact bg ‹_› (by exact ac))) rfl
theorem Ga(hv:eS σ k ss ts o M B)(hp: ∀s∈ss,1≤s)(n:Nat):aT (cc X) (lv (cc X) (n+20)) (ah X 817 (fU k (vI xs))) σ (St X 817 1)=some (.ok .next (ah X 817 (fU k (vI xs))) σ):=by
 refine dy rfl (bx rfl aA rfl (bb rfl ac rfl rfl hv.at_ rfl rfl) ?_) rfl
 rw[kR]
 have:ss.any (· ==0)=false:=Hw.mpr fun x hx q=>by
  have:=hp x hx
  have q:x=0:=by simpa using q
  exact xne ‹_› ‹_›
 exact congrArg _ (by assumption)
noncomputable abbrev x2(X:Xp):=sx (St X 817 2) 0
noncomputable def kc(ss xs ts:List Int):Bool:=(ss.zip (xs.zip ts)).all fun p=>(p.1==p.2.1)||((p.1==1)&&(p.2.2==0))
theorem Fg(hv:eS σ k ss ts o M B)(hl:ss.length≤900)(hx:xs.length=ss.length)(n:Nat):(lv (cc X) (n+20)).tr (ah X 817 (fU k (vI xs))) σ (x2 X)=some (.ok (kc ss xs ts) σ):=by
 have e:=hv.lt
 exact dz ac (iw (S:=fun u_=>True) (x:= .it (.zip [.seq (ss.map V.int) 0,.seq (xs.map V.int) 0,.seq (ts.map V.int) 0])) (t:= .zip [.seq (ss.map V.int) 0,.seq (xs.map V.int) 0,.seq (ts.map V.int) 0]) (as:=ss.zip (xs.zip ts)) (f:=fun p=> .tup [.int p.1,.int p.2.1,.int p.2.2]) (b:=fun p=>[("st",.int p.2.2),("x",.int p.2.1),("s",.int p.1)]) (F:=fun p=> .bool ((p.1==p.2.1)||((p.1==1)&&(p.2.2==0)))) rfl ⋯ rfl
  (nP (x:=vI ss) (y:=vI xs) (z:=vI ts) ⋯ rfl rfl ⋯ ac ⋯ aA aA aA (bb (x:="shape") ⋯ ac rfl rfl hv.at_ rfl rfl) (aW (x:="new_shape") rfl ac rfl) (bb (x:="strides") ⋯ ac rfl rfl hv.at_ rfl rfl) rfl rfl rfl) rfl trivial
  (f8 (ai _ _) (ai _ _) (ai _ _) ((Gv ‹_›)) ((Gv ‹_›))) (by rw[GS];exact r_ ‹_› (by exact ac)) (fun p u_ own=>⟨by kernel_rfl,Eg rfl rfl (fun u_=>qK ⋯ rfl (fun u_=>rfl))⟩) (fun u_ u_=>rfl)) rfl
theorem EF{x y:Int×Int}(he:e= .IfExp (ch e 0) (ch e 1) (ch e 2) (ps e))(h0:(lv c n).tr en σ (ch e 0)=some (.ok b σ))(h1:b=true→(lv c n).ev en σ (ch e 1)=some (.ok (pP x) σ))(h2:b=false→(lv c n).ev en σ (ch e 2)=some (.ok (pP y) σ)):(lv c (n+1)).ev en σ e=some (.ok (pP (bif b then x else y)) σ):=by
 rw[CW he h0 h1 h2];cases b<;>rfl
noncomputable def pH(ms:List (Int×Int))(ss xs:List Int):List (Int×Int):=(ms.zip (ss.zip xs)).map fun p=>bif !(p.2.1==p.2.2)then(bif !((p.1.1==0)&&((p.1.2==1)&&true))then(0,0)else(0,p.2.2))else p.1
theorem ut(hv:eS σ k ss ts o (vP ms) B)(hl:ss.length≤900)(h0:ss≠[])(hm:ms.length=ss.length)(hx:xs.length=ss.length)(n:Nat): ∃ext:Sg,aT (cc X) (lv (cc X) (n+24)) (ah X 817 (fU k (vI xs))) σ (St X 817 3)=some (.ok .next (ah X 817 (("mask",vP (pH ms ss xs))::fU k (vI xs))) (σ++ext)):=by
 refine⟨_,cm (x:="mask") (xp:=ps (sx (St X 817 3) 1)) rfl ac ac (tP rfl (dz ac (bb (x:="mask") (y:=vP ms) rfl ac rfl rfl hv.at_ rfl rfl) ?_)
  (sZ (as:=ms.zip (ss.zip xs)) (F:=fun p=>bif !(p.2.1==p.2.2)then(bif !((p.1.1==0)&&((p.1.2==1)&&true))then(0,0)else(0,p.2.2))else p.1) rfl rfl rfl ac aA (by rw[GS];exact Fn ‹_› ‹_› (by exact ac))
   (bO (S:=fun u_=>True) (x:= .it (.zip [.seq (ms.map pP) 0,.seq (ss.map V.int) 0,.seq (xs.map V.int) 0])) (t:= .zip [.seq (ms.map pP) 0,.seq (ss.map V.int) 0,.seq (xs.map V.int) 0]) (as:=ms.zip (ss.zip xs)) (f:=fun p=> .tup [pP p.1,.int p.2.1,.int p.2.2]) (b:=fun p=>[("ns",.int p.2.2),("s",.int p.2.1),("m",pP p.1)]) (P:=fun u_=>True) ⋯ rfl ⋯
    (nP (x:=vP ms) (y:=vI ss) (z:=vI xs) ⋯ rfl rfl ⋯ ⋯ ⋯ ⋯ ⋯ ⋯ (bb (x:="mask") ⋯ ac rfl rfl hv.at_ rfl rfl) (bb (x:="shape") ⋯ ac rfl rfl hv.at_ rfl rfl) (aW (x:="new_shape") ⋯ ac rfl) rfl rfl rfl) rfl (fun u_=>trivial)
    (f8 (ai _ _) (ai _ _) (ai _ _) (by assumption) (Gu ‹_› (Gv ‹_›))) (by rw[GS];exact EX ‹_› ‹_› (by exact ac)) trivial (fun p hp own acc u_=>⟨trivial,by kernel_rfl,EF (b:= !(p.2.1==p.2.2)) (x:=bif !((p.1.1==0)&&((p.1.2==1)&&true))then(0,0)else(0,p.2.2)) (y:=p.1) ⋯ (bx (op:= .NotEq) (KE:=σ++[aa.lst acc]) (x:= .int p.2.1) (y:= .int p.2.2) ⋯ ⋯ ⋯ ⋯ rfl)
     (fun u_=>EF ⋯ (bx (op:= .NotEq) (KE:=σ++[aa.lst acc]) (x:=pP p.1) (y:=pP (0,1)) ⋯ ⋯ ⋯ ⋯ rfl) (fun u_=>by kernel_rfl) (fun u_=>by kernel_rfl)) (fun u_=>by kernel_rfl)⟩))))⟩
 rw[fz (by rw[GO];exact dI ‹_› ‹_› (by exact ac))]
 cases ms with
 |nil=>exact absurd (Hb hm.symm) h0
 |cons=>rfl
theorem tw(hv:eS σ k ss ts o .none B)(n:Nat):aT (cc X) (lv (cc X) (n+24)) (ah X 817 (fU k (vI xs))) σ (St X 817 3)=some (.ok .next (ah X 817 (("mask",.none)::fU k (vI xs))) σ):=
 cm rfl ac ac (uH rfl (dz ac (bb rfl ac rfl rfl hv.at_ rfl rfl) rfl) rfl)
end
section
variable {X:Xp}{own:List (Str×V)}{S M Mk:V}{ts xs:List Int}{o:Int}{as ms:List (Int×Int)}
noncomputable abbrev x4(X:Xp):=sx (St X 817 4) 0
theorem FN{own:List (Str×V)}(hs:own.lookup ("self":Str)=some (.inst ag k))(hx:own.lookup ("new_shape":Str)=some (vI xs))(hm:own.lookup ("mask":Str)=some Mk)(hv:eS σ k ss ts o M B)(n:Nat):dZ (lv (cc X) (n+20)).iv (ah X 817 own) σ [ch (x4 X) 1,ch (x4 X) 2,ch (x4 X) 3,ch (x4 X) 4]=some (.ok ([vI xs,vI ts,.int o,Mk].map .v) σ):=
 aO ac (bz aA (aW rfl ac hx)) (aO ac (bz aA (bb rfl ac hs rfl hv.at_ rfl rfl))
  (aO ac (bz aA (bb rfl ac hs rfl hv.at_ rfl rfl)) (aO ac (bz aA (aW rfl ac hm)) gh)))
theorem vE(h:PB 2000 ms)(hx:IB 1000 xs):PB 2000 (pH ms ss xs):=by
 intro p hp;unfold pH at hp;refine aL (G2.mp hp) fun q hq zz2=> ?_;subst zz2;have a:=h _ (GU hq).1;have b:=hx _ (GU (GU hq).2).2
 cases !(q.2.1==q.2.2)with
 |false=>exact a
 |true=>
  cases !((q.1.1==0)&&((q.1.2==1)&&true))with
  |true=>exact⟨show(0:Int).natAbs≤2000 by exact H' _,show(0:Int).natAbs≤2000 by exact H' _⟩
  |false=>exact⟨show(0:Int).natAbs≤2000 by exact H' _,HX b (by exact H7 ..)⟩
theorem yC(hv:eS σ k ss ts o M B)(hl:ss.length≤4)(h0:ss≠[])(hs: ∀s∈ss,1≤s∧s≤100)(hx:IB 1000 xs)(hxl:xs.length≤900)(n:Nat):
 (xs.length=ss.length→kc ss xs ts=true→(∀x∈xs,0≤x)→gI ((lv (cc X) (n+80)).cf σ 817 [.inst ag k,vI xs] []) σ xs)∧
 ((xs.length≠ss.length∨kc ss xs ts=false∨ ∃x∈xs,x<0)→dh ((lv (cc X) (n+80)).cf σ 817 [.inst ag k,vI xs] []) σ):=by
 have hB:aD X 817=[St X 817 0,St X 817 1,St X 817 2,St X 817 3,St X 817 4]:=rfl
 have fin: ∀so o,(lv (cc X) (n+79)).exs (ah X 817 (fU k (vI xs))) σ [St X 817 0,St X 817 1,St X 817 2,St X 817 3,St X 817 4]=some so→il so=some o→(lv (cc X) (n+80)).cf σ 817 [.inst ag k,vI xs] []=some o:=fun so o h1 h2=>bp (a:=817) (binds:=[("self",.inst ag k),("new_shape",vI xs)]) ⋯ ⋯ ac (hB▸h1) h2
 have t0:=E7 (X:=X) (xs:=xs) hv (bg ‹_› (by exact ac)) hxl (n+58)
 by_cases hq:xs.length=ss.length
 ·rw[hq,beq_self_eq_true]at t0;have s0:aT (cc X) (lv (cc X) (n+78)) (ah X 817 (fU k (vI xs))) σ (St X 817 0)=some (.ok .next (ah X 817 (fU k (vI xs))) σ):=dy rfl t0 rfl;have s1:=Ga (X:=X) (xs:=xs) hv (fun s h=>(hs s h).1) (n+58)
  have t2:=Fg (X:=X) hv (bg ‹_› (by exact ac)) hq (n+58)
  cases hg:kc ss xs ts with
  |false=>
   rw[hg]at t2
   refine⟨(fun u_ q=>by exact bM q),fun u_=>⟨"AssertionError",σ,.inl rfl,GW _,fin _ _ (ab s0 (ab s1 (bP (cy (v:=false) rfl t2)))) rfl⟩⟩
  |true=>
   rw[hg]at t2;have s2:aT (cc X) (lv (cc X) (n+78)) (ah X 817 (fU k (vI xs))) σ (St X 817 2)=some (.ok .next (ah X 817 (fU k (vI xs))) σ):=cy (v:=true) rfl t2
   have x0:xs≠[]:=fun q=>h0 (Hb (by rw[←hq,q];rfl))
   have key: ∃(Mk:V) (ext:Sg),(Mk= .none∨ ∃ms,Mk=vP ms∧ms.length=ss.length∧PB 2000 ms)∧aT (cc X) (lv (cc X) (n+78)) (ah X 817 (fU k (vI xs))) σ (St X 817 3)=some (.ok .next (ah X 817 (("mask",Mk)::fU k (vI xs))) (σ++ext)):=by
    rcases hv.mq with rfl|⟨ms,rfl,lm,pb⟩
    ·exact⟨.none,[],.inl rfl,by rw[G4];exact tw (X:=X) hv (n+54)⟩
    ·refine dw fun kk=> ?_
     refine oE (ut (X:=X) hv (bg ‹_› (by exact ac)) h0 lm hq (n+54)) fun ext h=> ?_<;>(refine kk ?_;clear kk)
     exact⟨_,ext,.inr ⟨_,rfl,by unfold pH;rw[GO,GS,GS];exact m3 ‹_› ‹_›,vE pb hx⟩,h⟩
   refine bc key fun Mk ext hM s3=> ?_;have f7:=hv.app (GQ σ ext);have iv:=FN (X:=X) (own:=("mask",Mk)::fU k (vI xs)) rfl rfl rfl f7 (n+57)
   have ib': ∀t∈ts,t.natAbs≤2^30:=fun t q=>HX (hv.ib t q) (by decide)
   by_cases hp: ∀x∈xs,0≤x
   ·refine⟨fun u_ u_ u_=> ?_,fun h=> ?_⟩
    ·have:=kE (X:=X) (σ:=σ++ext) (ss:=xs) (T:=vI ts) (o:=o) (M:=Mk) ⟨by exact dI ‹_› ‹_› (by exact ac),fun s q=>hx s q⟩ x0 hp (.inr ⟨ts,rfl,by have:=hv.lt;exact Gu ‹_› (Gv ‹_›),hM.imp id fun h'=>bW h' fun ms e l q=>⟨ms,e,by exact Gu ‹_› (Gv ‹_›),ib',fun m hm=>HX (q m hm).1 (by decide)⟩⟩) (n+25)
     have:=jf (X:=X) (own:=("mask",Mk)::fU k (vI xs)) (e:=x4 X) (a:=817) (args:=[ch (x4 X) 1,ch (x4 X) 2,ch (x4 X) 3,ch (x4 X) 4]) (xs:=[vI xs,vI ts,.int o,Mk]) rfl ac rfl iv (GW _) this;refine gc this fun KD T O M' B' p hr=> ?_;exact⟨_,_,T,O,M',B',((GQ σ ext).trans p).trans (GQ _ _),fin _ _ (ab s0 (ab s1 (ab s2 (ab s3 (aq (dB rfl hr)))))) rfl,cG⟩
    ·refine dw fun kk=> ?_
     rcases h with h|h|⟨x,h1,h2⟩<;>(refine kk ?_;clear kk)
     ·exact absurd hq h
     ·exact Cp h
     ·exact absurd (hp x h1) (by omega)
   ·have hp': ∃x∈xs,x<0:=by
     apply Gs;intro h;refine hp fun x hx=> ?_;apply Gs;intro h'
     exact h ⟨x,hx,by exact Int.not_le.mp ‹_›⟩
    refine⟨fun u_ u_ h=>absurd h hp,fun u_=> ?_⟩
    have:=pW (X:=X) (σ:=σ++ext) (ss:=xs) (T:=vI ts) (o:=o) (M:=Mk) (by assumption) hp' (n+25)
    have:=jY (own:=("mask",Mk)::fU k (vI xs)) (e:=x4 X) (a:=817) (args:=[ch (x4 X) 1,ch (x4 X) 2,ch (x4 X) 3,ch (x4 X) 4]) (xs:=[vI xs,vI ts,.int o,Mk]) rfl ac rfl iv this;exact⟨"ValueError",_,.inr rfl,GQ σ ext,fin _ _ (ab s0 (ab s1 (ab s2 (ab s3 (bP (jr rfl this)))))) rfl⟩
 ·as_aux_lemma=>
   have e:((xs.length:Int)==(ss.length:Int))=false:=beq_eq_false_iff_ne.mpr (by omega)
   rw[e]at t0;refine⟨fun h=>absurd h hq,fun u_=>⟨"ValueError",σ,.inr rfl,GW _,fin _ _ (bP (en':=ah X 817 (fU k (vI xs))) (KD:=σ) (eQ rfl t0 rfl)) rfl⟩⟩
end
section
section
variable {cf:cb}
theorem nt{l:List Int}(h:l.length<64):aJ c cf σ (.builtin "sorted") [.v (vI l)] []=some (.ok (.v (.lst σ.length)) (σ++[aa.lst ((cw l).map V.int)])):=by
 have e:aJ c cf σ (.builtin "sorted") [.v (vI l)] []=(oI σ (vI l)).map fun l=> .ok (.v (.lst σ.length)) (σ++[aa.lst l]):=rfl
 have e2:cP (l.map V.int)=some l:=by
  have:=iH (F:=id) l;simpa using this
 rw[e]
 show(if _ then _ else none:Option _).map _=_
 rw[if_pos (by rw[GO];exact h),e2]
 rfl
noncomputable abbrev eD(n:Nat):List Int:=(GV n).map fun(i:Nat)=>(i:Int)
theorem kg(h:n≤4):aJ c cf σ (.type "list") [.v (.rng 0 (n:Int) 1)] []=some (.ok (.v (.lst σ.length)) (σ++[aa.lst ((eD n).map V.int)])):=
 qF (P:=fun(n:Nat)=>aJ c cf σ (.type "list") [.v (.rng 0 (n:Int) 1)] []=some (.ok (.v (.lst σ.length)) (σ++[aa.lst ((eD n).map V.int)]))) rfl rfl rfl rfl rfl n (ID h)
theorem fG(n:Nat): ∀(a b:List Int),a.length<n→dN σ n (a.map V.int) (b.map V.int)=some (a==b):=by
 induction n with
 |zero=>exact fun u_ u_ h=>absurd h (Ih _)
 |succ n ih=>
  intro a b h
  cases a with
  |nil=>cases b<;>rfl
  |cons x a=>
  cases b with
  |nil=>rfl
  |cons y b=>
   have ht:=ih a b (Ij h)
   cases n with
   |zero=>exact absurd (Ij h) (Ih _)
   |succ n=>
    show((some (x==y)).bind fun p=>(dN σ (n+1) (a.map V.int) (b.map V.int)).map fun q=>p&&q)=_;rw[ht];rfl
theorem vR{a b:List Int}(hj:σ[j]? =some (aa.lst (a.map V.int)))(hk:σ[k]? =some (aa.lst (b.map V.int)))(h:a.length<190):eo σ .Eq (.lst j) (.lst k)=some (a==b):=by
 show mi σ 200 (.lst j) (.lst k)=_
 have:mi σ 200 (.lst j) (.lst k)=if(a.map V.int).length=(b.map V.int).length then dN σ 199 (a.map V.int) (b.map V.int)else some false:=by
  refine(?_:(aI σ j).bind (fun a=>(aI σ k).bind fun b=>if a.length=b.length then dN σ 199 a b else some false)=_)
  rw[aP hj,aP hk];rfl
 refine(this).symm▸ ?_
 by_cases q:(a.map V.int).length=(b.map V.int).length
 ·rw[if_pos q,fG 199 a b (Df ‹_› (by exact ac))]
 ·refine(if_neg q).symm▸ ?_
  have:a≠b:=fun h=>q (by rw[h])
  rw[beq_eq_false_iff_ne.mpr this]
theorem vv{a b:List Int}(h:a.length<190):eo σ .Eq (vI a) (vI b)=some (a==b):=fG 199 a b (Df ‹_› (by exact ac))
end
noncomputable def fj(n:Nat)(ax:List Int):Bool:=cw ax==eD n
theorem fj.mem{ax:List Int}(h:fj n ax=true):ax.length=n∧ ∀a∈ax,0≤a∧a.toNat<n:=by
 have e:cw ax=eD n:=GN h
 refine⟨by rw[←(dE ax).length_eq,e,GO,Hh],fun a ha=> ?_⟩
 have:=(dE ax).mem_iff.mpr ha;rw[e]at this;refine aL (G2.mp this) fun i hi zz2=> ?_;subst zz2;have:=HJ.mp hi;exact j0 ‹_›
variable {X:Xp}{own:List (Str×V)}{S M Mk:V}{ts xs ax:List Int}{o:Int}{as ms:List (Int×Int)}
noncomputable abbrev ku(k:Nat)(arg:V):List (Str×V):=[("axis",arg),("self",.inst ag k)]
noncomputable abbrev q0(X:Xp):=sx (St X 824 0) 0
theorem DA(hv:eS σ k ss ts o M B)(hl:ss.length≤4)(ha:ax.length≤60)(n:Nat):(lv (cc X) (n+20)).tr (ah X 824 (ku k (vI ax))) σ (q0 X)=some (.ok (fj ss.length ax) (σ++[aa.lst ((cw ax).map V.int)]++[aa.lst ((eD ss.length).map V.int)])):=by
 have e2:((ss.map V.int).length:Int)=ss.length:=by rw[GO]
 have f7:=hv.app (GQ σ [aa.lst ((cw ax).map V.int)])
 refine bx (op:= .Eq) (KE:=σ++[aa.lst ((cw ax).map V.int)]) (x:= .lst σ.length) (y:= .lst (σ++[aa.lst ((cw ax).map V.int)]).length) rfl aA (bL (x:="sorted") (fv:= .builtin "sorted") (v:= .v (vI ax)) (KE:=σ) rfl rfl rfl ac (bz aA (aW (x:="axis") rfl ac rfl)) (nt (fA ‹_› (by exact ac))))
  (bL (x:="list") (fv:= .type "list") (v:= .v (.rng 0 (ss.length:Int) 1)) (KE:=σ++[aa.lst ((cw ax).map V.int)]) rfl rfl rfl ac (xR ac (bL (x:="range") (fv:= .type "range") (v:= .v (.int (ss.length:Int))) (KE:=σ++[aa.lst ((cw ax).map V.int)]) rfl rfl rfl ac
   (xR ac (e2▸kz (l:=ss.map V.int) ⋯ ⋯ rfl ⋯ ⋯ (bb (x:="shape") ⋯ ac rfl rfl f7.at_ rfl rfl) (by rw[GO];exact bg ‹_› (by exact ac)))) rfl)) (kg hl))
  (vR (bY (by exact G8)) (by exact G8) (by rw[(dE ax).length_eq];exact fA ‹_› (by exact ac)))
theorem kO{l:List α}{d:α}{f:α→V}{i:Int}(h0:0≤i)(h:i.toNat<l.length)(hl:l.length≤900):gr σ (.tup (l.map f)) i=some (f (l.getD i.toNat d)):=by
 refine oE (Int.eq_ofNat_of_zero_le h0) fun j zz1=> ?_;subst zz1
 have hj:j<l.length:=by simpa using h
 exact ja (by rw[Hc,G3 hj];simp[Hf,hj]) (CX ‹_› ‹_› (by exact ac))
noncomputable abbrev q1(X:Xp)(i:Nat):=ch (sx (St X 824 1) 0) i
theorem FY(hv:eS σ k ss ts o M B)(hl:ss.length≤4)(hp: ∀a∈ax,0≤a∧a.toNat<ss.length)(ha:ax.length≤60)(n:Nat):(lv (cc X) (n+20)).ev (ah X 824 (ku k (vI ax))) σ (q1 X 1)=some (.ok (vI (ax.map fun a=>ss.getD a.toNat 0)) σ):=by
 have:=gP (c:=cc X) (n:=n+19) (e:=q1 X 1) (σ:=σ) (en:=ah X 824 (ku k (vI ax))) (S:=fun u_=>True) (t:= .seq (ax.map V.int) 0) (as:=ax) (f:=V.int) (b:=fun a=>[("a",.int a)]) (F:=fun a=> .int (ss.getD a.toNat 0)) ⋯ ⋯ rfl (bz aA (aW rfl ac rfl)) rfl trivial (ai _ _) (fA ‹_› (by exact ac))
  (fun a ha own=>⟨by kernel_rfl,cZ (i:=a) ⋯ ⋯ (iW (name:="shape") ⋯ ⋯ ⋯ (nO rfl hv.at_ rfl rfl)) ⋯ (kO (hp a ha).1 (hp a ha).2 (bg ‹_› (by exact ac)))⟩) (fun u_ u_=>rfl)
 rw[this,vI,Ha];rfl
theorem Fm(hv:eS σ k ss ts o M B)(hl:ss.length≤4)(hp: ∀a∈ax,0≤a∧a.toNat<ss.length)(ha:ax.length≤60)(n:Nat):(lv (cc X) (n+20)).ev (ah X 824 (ku k (vI ax))) σ (q1 X 2)=some (.ok (vI (ax.map fun a=>ts.getD a.toNat 0)) σ):=by
 have e:=hv.lt
 have:=gP (c:=cc X) (n:=n+19) (e:=q1 X 2) (σ:=σ) (en:=ah X 824 (ku k (vI ax))) (S:=fun u_=>True) (t:= .seq (ax.map V.int) 0) (as:=ax) (f:=V.int) (b:=fun a=>[("a",.int a)]) (F:=fun a=> .int (ts.getD a.toNat 0)) ⋯ ⋯ rfl (bz aA (aW rfl ac rfl)) rfl trivial (ai _ _) (fA ‹_› (by exact ac))
  (fun a ha own=>⟨by kernel_rfl,cZ (i:=a) ⋯ ⋯ (iW (name:="strides") ⋯ ⋯ ⋯ (nO rfl hv.at_ rfl rfl)) ⋯ (kO (hp a ha).1 (by have:=(hp a ha).2;exact Ig ‹_› (Gv ‹_›)) (dI ‹_› ‹_› (by exact ac)))⟩) (fun u_ u_=>rfl)
 rw[this,vI,Ha];rfl
theorem F1(hv:eS σ k ss ts o M B)(hl:ss.length≤4)(hp: ∀a∈ax,0≤a∧a.toNat<ss.length)(hal:ax.length=ss.length)(n:Nat): ∃Mk,(Mk= .none∨ ∃ms,Mk=vP ms∧ms.length=ss.length∧PB 2000 ms)∧(lv (cc X) (n+22)).ev (ah X 824 (ku k (vI ax))) σ (q1 X 4)=some (.ok Mk σ):=by
 rcases hv.mq with rfl|⟨ms,rfl,lm,pb⟩
 ·exact⟨.none,.inl rfl,uH (n:=n+21) (KE:=σ) rfl (bx (n:=n+20) (op:= .IsNot) (KE:=σ) (x:=V.none) (y:= .none) ⋯ aA (bb (n:=n+18) (x:="mask") ⋯ ac rfl rfl hv.at_ rfl rfl) rfl rfl) rfl⟩
 ·have:=gP (c:=cc X) (n:=n+20) (e:=ch (q1 X 4) 1) (σ:=σ) (en:=ah X 824 (ku k (vI ax))) (S:=fun u_=>True) (x:= .v (vI ax)) (t:= .seq (ax.map V.int) 0) (as:=ax) (f:=V.int) (b:=fun a=>[("a",.int a)]) (F:=fun a=>pP (ms.getD a.toNat (0,0))) ⋯ ⋯ rfl (bz (n:=n+19) ⋯ (aW (x:="axis") ⋯ ac rfl)) rfl trivial (ai _ _) (DP ‹_› ‹_› (by exact ac))
   (fun a ha own=>⟨by kernel_rfl,cZ (x:=vP ms) (i:=a) (KE:=σ) ⋯ ⋯ (iW (name:="mask") (x:= .inst ag k) ⋯ ⋯ ⋯ (nO (x:="mask") rfl hv.at_ rfl rfl)) ⋯ (kO (hp a ha).1 (by have:=(hp a ha).2;exact Ig ‹_› (Gv ‹_›)) (dI ‹_› ‹_› (by exact ac)))⟩) (fun u_ u_=>rfl)
  refine⟨vP (ax.map fun a=>ms.getD a.toNat (0,0)),.inr ⟨_,rfl,by rw[GO];exact hal,?_⟩,tP (KE:=σ) rfl (bx (op:= .IsNot) (KE:=σ) (x:=vP ms) (y:= .none) rfl aA (bb (x:="mask") ⋯ ac rfl rfl hv.at_ rfl rfl) rfl rfl) ?_⟩
  ·intro p hp';refine aL (G2.mp hp') fun a ha zz2=> ?_;subst zz2;have h2:=(hp a ha).2;rw[Hf,G3 (Ig ‹_› (Gv ‹_›))];exact pb _ (Hd _)
  ·rw[this,vP,Ha];rfl
theorem xE(hv:eS σ k ss ts o M B)(hl:ss.length≤4)(h0:ss≠[])(hs: ∀s∈ss,1≤s∧s≤100)(hal:ax.length≤60)(h:fj ss.length ax=true)(n:Nat):gI ((lv (cc X) (n+80)).cf σ 824 [.inst ag k,vI ax] []) σ (ax.map fun a=>ss.getD a.toNat 0):=by
 have t:=DA (X:=X) (ax:=ax) hv hl hal (n+58);rw[h]at t;refine oA (fj.mem h) fun h1 h2=> ?_;have s0:aT (cc X) (lv (cc X) (n+78)) (ah X 824 (ku k (vI ax))) σ (St X 824 0)=some (.ok .next (ah X 824 (ku k (vI ax))) _):=cy (v:=true) rfl t;have p1:σ<+:σ++[aa.lst ((cw ax).map V.int)]++[aa.lst ((eD ss.length).map V.int)]:=(GQ _ _).trans (GQ _ _);have f7:=hv.app p1;generalize σ++[aa.lst ((cw ax).map V.int)]++[aa.lst ((eD ss.length).map V.int)]=Lm at s0 p1 f7;refine aL (F1 (X:=X) (ax:=ax) f7 hl h2 h1 (n+54)) fun Mk hM h4=> ?_
 have hg: ∀i:Int,0≤i∧i.toNat<ss.length→ss.getD i.toNat 0∈ss:=fun i hi=>by
  rw[Hf,G3 hi.2];exact Hd _
 have hgt: ∀i:Int,0≤i∧i.toNat<ss.length→ts.getD i.toNat 0∈ts:=fun i hi=>by
  have:=hv.lt;rw[Hf,G3 (Ig (Gf ‹_›) (Gv ‹_›))];exact Hd _
 have hm: ∀s∈ax.map fun a=>ss.getD a.toNat 0,1≤s∧s≤100:=fun s q=>by
  refine aL (G2.mp q) fun a ha zz2=> ?_;subst zz2;exact hs _ (hg a (h2 a ha))
 have:=kE (X:=X) (σ:=Lm) (ss:=ax.map fun a=>ss.getD a.toNat 0) (T:=vI (ax.map fun a=>ts.getD a.toNat 0)) (o:=o) (M:=Mk) ⟨by rw[GO];exact dI ‹_› ‹_› (by exact ac),fun s q=>by have:=hm s q;exact qA ‹_› (by exact ac)⟩ (fun q=>h0 (Hb (by rw[←h1,←GO (f:=fun a:Int=>ss.getD a.toNat 0),q];rfl))) (fun s q=>by have:=hm s q;exact iil ‹_› (by exact ac))
  (.inr ⟨_,rfl,by rw[GO,GO],hM.imp id fun h'=>bW h' fun ms e l q=>⟨ms,e,by rw[GO];exact Gu ‹_› (Gv ‹_›),fun t q'=>by refine aL (G2.mp q') fun a ha zz2=> ?_;subst zz2;exact HX (hv.ib _ (hgt a (h2 a ha))) (by decide),fun m hm=>HX (q m hm).1 (by decide)⟩⟩) (n+25)
 have:=jf (own:=ku k (vI ax)) (e:=sx (St X 824 1) 0) (a:=824) (args:=[q1 X 1,q1 X 2,q1 X 3,q1 X 4]) (xs:=[vI (ax.map fun a=>ss.getD a.toNat 0),vI (ax.map fun a=>ts.getD a.toNat 0),.int o,Mk]) rfl ac rfl
  (aO ac (xR ac (FY f7 hl h2 hal (n+57))) (aO ac (xR ac (Fm f7 hl h2 hal (n+57))) (aO ac (bz aA (bb rfl ac rfl rfl f7.at_ rfl rfl)) (aO ac (bz aA h4) gh)))) (GW _) this
 refine gc this fun KD T O M' B' p hr=> ?_
 refine⟨_,_,T,O,M',B',(p1.trans p).trans (GQ _ _),bp (a:=824) (binds:=[("self",.inst ag k),("axis",vI ax)]) (so:= .ok (.ret (.inst ag KD.length)) (ah X 824 (ku k (vI ax))) (KD++[aa.dct (bf (vI (ax.map fun a=>ss.getD a.toNat 0)) T O M' B')])) ⋯ ⋯ ac ?_ rfl,cG⟩
 rw[show aD X 824=[St X 824 0,St X 824 1]from rfl]
 exact ab s0 (aq (dB rfl hr))
theorem v9(hv:eS σ k ss ts o M B)(hl:ss.length≤4)(hal:ax.length≤60)(h:fj ss.length ax=false)(n:Nat):dh ((lv (cc X) (n+80)).cf σ 824 [.inst ag k,vI ax] []) σ:=by
 have t:=DA (X:=X) (ax:=ax) hv hl hal (n+58);rw[h]at t;have s0:=cy (s:=St X 824 0) (v:=false) rfl t;have p1:σ<+:σ++[aa.lst ((cw ax).map V.int)]++[aa.lst ((eD ss.length).map V.int)]:=(GQ _ _).trans (GQ _ _);generalize σ++[aa.lst ((cw ax).map V.int)]++[aa.lst ((eD ss.length).map V.int)]=Lm at s0 p1
 refine⟨"AssertionError",Lm,.inl rfl,p1,bp (a:=824) (binds:=[("self",.inst ag k),("axis",vI ax)]) ⋯ ⋯ ac (so:= .exc "AssertionError" (ah X 824 (ku k (vI ax))) Lm) ?_ rfl⟩
 rw[show aD X 824=[St X 824 0,St X 824 1]from rfl]
 exact bP s0
end
section
theorem jC(h:tr en σ e=some (.ok b σ)):bJ tr en σ [e]=some (b,σ):=by
 refine AU h ?_;cases b<;>rfl
noncomputable def cF(i:Int):Int:=if i<0 then-i else i
theorem ow{a b:Int}(h0:b≠0)(hb:bG b=true):m4 σ .FloorDiv (.int a) (.int b)=some (.int (a.fdiv b),σ):=by
 show(if b≠0∧bG b=true then some (a.fdiv b)else none).map _=_
 rw[if_pos ⟨h0,hb⟩];rfl
variable {X:Xp}{own:List (Str×V)}{S M Mk:V}{ts xs mu:List Int}{o:Int}{as ms:List (Int×Int)}
noncomputable def nz(mu:List Int):Bool:=mu.all fun m=> !(m==0)
theorem DM(ha:mu.length≤900)(n:Nat):(lv (cc X) (n+20)).tr (ah X 829 [("mul",vI mu),("self",.inst ag k)]) σ (sx (St X 829 0) 0)=some (.ok (nz mu) σ):=
 dz ac (iw (S:=fun u_=>True) (t:= .seq (mu.map V.int) 0) (as:=mu) (f:=V.int) (b:=fun p=>[("x",.int p)]) (F:=fun p=> .bool (!(p==0))) rfl ⋯ rfl
  (bz aA (aW rfl ac rfl)) rfl trivial (ai _ _) (fA ‹_› (by exact ac)) (fun p u_ own=>⟨by kernel_rfl,by kernel_rfl⟩) (fun u_ u_=>rfl)) rfl
noncomputable def qH(mu:List Int):Prop:= ∀m∈mu,m≠0∧m.natAbs≤10
theorem tH{as:List α}{F:α→Int}(he:e= .Call (.Name ("tuple":Str) (ps (ch e 0))) [ch e 1] [] (ps e))(hg:cK [ch e 1]=none)(hx:aR c en "tuple"=some (.val (.type "tuple")))(hc:(al [ch e 1]&&bK c.K (.type "tuple"))=true)(hi:aX (ch e 1)=false)(hl:as.length≤900)
 (h1:(lv c n).ev en σ (ch e 1)=some (.ok (.lst σ.length) (σ++[aa.lst (as.map fun a=>V.int (F a))]))):(lv c (n+2)).ev en σ e=some (.ok (vI (as.map F)) (σ++[aa.lst (as.map fun a=>V.int (F a))])):=by
 have:=vY he hg hx hc hi h1 (by rw[GO];exact bg ‹_› (by exact ac))
 rw[this,vI,Ha];rfl
noncomputable def iL(ts mu:List Int):List Int:=(ts.zip mu).map fun p=>p.1*p.2
theorem FW(hs:own.lookup ("self":Str)=some (.inst ag k))(hu:own.lookup ("mul":Str)=some (vI mu))(hv:eS σ k ss ts o M B)(hl:ss.length≤900)(hm:qH mu)(n:Nat): ∃ext:Sg,aT (cc X) (lv (cc X) (n+20)) (ah X 829 own) σ (St X 829 1)=some (.ok .next (ah X 829 (("strides",vI (iL ts mu))::own)) (σ++ext)):=by
 have e:=hv.lt
 exact⟨_,cm (x:="strides") (xp:=ps (sx (St X 829 1) 1)) rfl ac ac (tH (as:=ts.zip mu) (F:=fun p=>p.1*p.2) rfl rfl rfl ac aA (by rw[GS];exact Fn ‹_› ‹_› (by exact ac))
  (bO (S:=fun u_=>True) (x:= .it (.zip [.seq (ts.map V.int) 0,.seq (mu.map V.int) 0])) (t:= .zip [.seq (ts.map V.int) 0,.seq (mu.map V.int) 0]) (as:=ts.zip mu) (f:=fun p=> .tup [.int p.1,.int p.2]) (b:=fun p=>[("m",.int p.2),("z",.int p.1)]) (P:=fun u_=>True) rfl rfl ⋯
   (eB (x:=vI ts) (y:=vI mu) ⋯ rfl rfl ⋯ aA aA (bb (x:="strides") ⋯ ac hs rfl hv.at_ rfl rfl) (aW rfl ac hu) rfl rfl) rfl (fun u_=>trivial)
   (a_ (ai _ _) (ai _ _)) (by rw[GS];exact EX ‹_› ‹_› (by exact ac)) trivial (fun p hp own acc u_=>⟨trivial,by kernel_rfl,cL rfl ⋯ rfl (gH (be (hv.ib _ (GU hp).1) (by decide)) (be (hm _ (GU hp).2).2 (by decide)))⟩)))⟩
noncomputable def fe(ss mu:List Int):List Int:=(ss.zip mu).map fun p=>(p.1+(cF p.2-1)).fdiv (cF p.2)
theorem ge{m:Int}(h:m≠0∧m.natAbs≤10):cF m≠0∧bG (cF m)=true∧1≤cF m∧cF m≤10:=by
 have e:cF m=(m.natAbs:Int):=by
  unfold cF
  by_cases h:m<0
  ·rw[if_pos h];exact(Int.ofNat_natAbs_of_nonpos (GE h)).symm
  ·rw[if_neg h];exact(Int.natAbs_of_nonneg (Gz.mp h)).symm
 have p:0<m.natAbs:=Int.natAbs_pos.mpr h.1;rw[e]
 exact⟨Int.ne_of_gt (GB.mpr p),be h.2 (by decide),GC.mpr p,GC.mpr h.2⟩
theorem EZ(hs:own.lookup ("self":Str)=some (.inst ag k))(hu:own.lookup ("mul":Str)=some (vI mu))(hv:eS σ k ss ts o M B)(hl:ss.length≤900)(hm:qH mu)(n:Nat): ∃ext:Sg,aT (cc X) (lv (cc X) (n+20)) (ah X 829 own) σ (St X 829 2)=some (.ok .next (ah X 829 (("new_shape",vI (fe ss mu))::own)) (σ++ext)):=
 ⟨_,cm (x:="new_shape") (xp:=ps (sx (St X 829 2) 1)) rfl ac ac (tH (as:=ss.zip mu) (F:=fun p=>(p.1+(cF p.2-1)).fdiv (cF p.2)) rfl rfl rfl ac aA (by rw[GS];exact wq ‹_› (by exact ac))
  (bO (S:=fun u_=>True) (x:= .it (.zip [.seq (ss.map V.int) 0,.seq (mu.map V.int) 0])) (t:= .zip [.seq (ss.map V.int) 0,.seq (mu.map V.int) 0]) (as:=ss.zip mu) (f:=fun p=> .tup [.int p.1,.int p.2]) (b:=fun p=>[("m",.int p.2),("s",.int p.1)]) (P:=fun u_=>True) rfl rfl ⋯
   (eB (x:=vI ss) (y:=vI mu) ⋯ rfl rfl ⋯ aA aA (bb (x:="shape") ⋯ ac hs rfl hv.at_ rfl rfl) (aW (x:="mul") rfl ac hu) rfl rfl) rfl (fun u_=>trivial)
   (a_ (ai _ _) (ai _ _)) (by rw[GS];exact r_ ‹_› (by exact ac)) trivial (fun p hp own acc u_=>⟨trivial,by kernel_rfl,cL (KE:=σ++[aa.lst acc]) rfl ⋯ ⋯ (ow (ge (hm _ (GU hp).2)).1 (ge (hm _ (GU hp).2)).2.1)⟩)))⟩
noncomputable abbrev j3(X:Xp):=ch (sx (St X 829 3) 0) 1
theorem Fj(hs:own.lookup ("self":Str)=some (.inst ag k))(hu:own.lookup ("mul":Str)=some (vI mu))(hv:eS σ k ss ts o M B)(hl:ss.length≤900)(hml:mu.length=ss.length)(hb:IB 1000 ss)(n:Nat): ∃(z:Int) (ext:Sg),aT (cc X) (lv (cc X) (n+20)) (ah X 829 own) σ (St X 829 3)=some (.ok .next (ah X 829 (("offset",.int z)::own)) (σ++ext)):=by
 have e:=hv.lt
 refine⟨_,_,cm (x:="offset") (xp:=ps (sx (St X 829 3) 1)) rfl ac ac (wi (as:=(ss.zip (ts.zip mu)).filter fun p=>decide (p.2.2<0)) (F:=fun p=>(p.1-1)*p.2.1) rfl rfl rfl ac aA
  (jR rfl (nR (c:=cc X) (e:=j3 X) (S:=fun u_=>True) (x:= .it (.zip [.seq (ss.map V.int) 0,.seq (ts.map V.int) 0,.seq (mu.map V.int) 0])) (t:= .zip [.seq (ss.map V.int) 0,.seq (ts.map V.int) 0,.seq (mu.map V.int) 0]) (as:=ss.zip (ts.zip mu)) (f:=fun p=> .tup [.int p.1,.int p.2.1,.int p.2.2]) (b:=fun p=>[("m",.int p.2.2),("z",.int p.2.1),("s",.int p.1)]) (P:=fun u_=>True) (k:=fun p=>decide (p.2.2<0)) (F:=fun p=> .int ((p.1-1)*p.2.1)) ⋯
   (nP (x:=vI ss) (y:=vI ts) (z:=vI mu) ⋯ rfl rfl ⋯ ac ⋯ aA aA aA (bb (x:="shape") ⋯ ac hs rfl hv.at_ rfl rfl) (bb (x:="strides") ⋯ ac hs rfl hv.at_ rfl rfl) (aW (x:="mul") rfl ac hu) rfl rfl rfl) rfl (fun u_=>trivial)
   (f8 (ai _ _) (ai _ _) (ai _ _) ((Gv ‹_›)) ((Gv ‹_›))) (by rw[GS];exact r_ ‹_› (by exact ac)) trivial (fun p hp own acc u_=>⟨trivial,by kernel_rfl,?_,fun u_=> ?_⟩))))⟩
 ·rw[show ec (j3 X)=[ch (j3 X) 3]from rfl]
  exact jC (bx (op:= .Lt) (KE:=σ++[aa.lst acc]) (x:= .int p.2.2) (y:= .int 0) rfl aA rfl rfl rfl)
 ·exact cL (op:= .Mult) (KE:=σ++[aa.lst acc]) (KI:=σ++[aa.lst acc]) (x:= .int (p.1-1)) rfl rfl rfl (gH (be (k:=1001) (by have:=hb _ (GU hp).1;exact eK ‹_› (by exact ac)) (by decide)) (be (hv.ib _ (GU (GU hp).2).1) (by decide)))
noncomputable def lx(s x y m:Int):Int:=((bif decide (0<m)then x else s-y)+(cF m-1)).fdiv (cF m)
noncomputable def A4(ms:List (Int×Int))(ss mu:List Int):List (Int×Int):=(ms.zip (ss.zip mu)).map fun p=>(lx p.2.1 p.1.1 p.1.2 p.2.2,lx p.2.1 p.1.2 p.1.1 p.2.2)
theorem t9(hs:own.lookup ("self":Str)=some (.inst ag k))(hv:eS σ k ss ts o .none B)(n:Nat):aT (cc X) (lv (cc X) (n+26)) (ah X 829 own) σ (St X 829 4)=some (.ok .next (ah X 829 (("mask",.none)::own)) σ):=
 cm rfl ac ac (uH rfl (bx rfl aA (bb rfl ac hs rfl hv.at_ rfl rfl) rfl rfl) rfl)
theorem um(hs:own.lookup ("self":Str)=some (.inst ag k))(hu:own.lookup ("mul":Str)=some (vI mu))(hv:eS σ k ss ts o (vP ms) B)(hl:ss.length≤900)(hml:mu.length=ss.length)(hms:ms.length=ss.length)(hm:qH mu)(n:Nat): ∃ext:Sg,aT (cc X) (lv (cc X) (n+26)) (ah X 829 own) σ (St X 829 4)=some (.ok .next (ah X 829 (("mask",vP (A4 ms ss mu))::own)) (σ++ext)):=by
 have half: ∀(p:(Int×Int)×Int×Int) (q:p∈ms.zip (ss.zip mu)) (own:List (Str×V)) (acc:List V) (x y:Int) (e:Expr),e= .BinOp (ch e 0) .FloorDiv (ch e 1) (ps e)→ch e 0= .BinOp (ch (ch e 0) 0) .Add (ch (ch e 0) 1) (ps (ch e 0))→ch (ch e 0) 0= .IfExp (ch (ch (ch e 0) 0) 0) (ch (ch (ch e 0) 0) 1) (ch (ch (ch e 0) 0) 2) (ps (ch (ch e 0) 0))→
  ∀en:En,(lv (cc X) (n+18)).tr en (σ++[aa.lst acc]) (ch (ch (ch e 0) 0) 0)=some (.ok (decide (0<p.2.2)) (σ++[aa.lst acc]))→(lv (cc X) (n+18)).ev en (σ++[aa.lst acc]) (ch (ch (ch e 0) 0) 1)=some (.ok (.int x) (σ++[aa.lst acc]))→(lv (cc X) (n+18)).ev en (σ++[aa.lst acc]) (ch (ch (ch e 0) 0) 2)=some (.ok (.int (p.2.1-y)) (σ++[aa.lst acc]))→
  (lv (cc X) (n+19)).ev en (σ++[aa.lst acc]) (ch (ch e 0) 1)=some (.ok (.int (cF p.2.2-1)) (σ++[aa.lst acc]))→(lv (cc X) (n+20)).ev en (σ++[aa.lst acc]) (ch e 1)=some (.ok (.int (cF p.2.2)) (σ++[aa.lst acc]))→(lv (cc X) (n+21)).ev en (σ++[aa.lst acc]) e=some (.ok (.int (lx p.2.1 x y p.2.2)) (σ++[aa.lst acc])):=by
  intro p q own acc x y e h1 h2 h3 en t0 t1 t2 t3 t4;have ha:=ge (hm _ (GU (GU q).2).2)
  exact cL h1 (cL (x:= .int (bif decide (0<p.2.2)then x else p.2.1-y)) (y:= .int (cF p.2.2-1)) (z:= .int ((bif decide (0<p.2.2)then x else p.2.1-y)+(cF p.2.2-1))) h2 (zx h3 t0 (fun u_=>t1) (fun u_=>t2)) t3 rfl) t4 (ow ha.1 ha.2.1)
 refine⟨_,cm (x:="mask") (xp:=ps (sx (St X 829 4) 1)) rfl ac ac (tP (KE:=σ) rfl (bx (op:= .IsNot) (KE:=σ) (x:=vP ms) (y:= .none) rfl aA (bb (x:="mask") (y:=vP ms) rfl ac hs rfl hv.at_ rfl rfl) rfl rfl)
  (sZ (as:=ms.zip (ss.zip mu)) (F:=fun p=>(lx p.2.1 p.1.1 p.1.2 p.2.2,lx p.2.1 p.1.2 p.1.1 p.2.2)) rfl rfl rfl ac aA (by rw[GS];exact Fn ‹_› ‹_› (by exact ac))
   (bO (S:=fun u_=>True) (x:= .it (.zip [.seq (ms.map pP) 0,.seq (ss.map V.int) 0,.seq (mu.map V.int) 0])) (t:= .zip [.seq (ms.map pP) 0,.seq (ss.map V.int) 0,.seq (mu.map V.int) 0]) (as:=ms.zip (ss.zip mu)) (f:=fun p=> .tup [pP p.1,.int p.2.1,.int p.2.2]) (b:=fun p=>[("m",.int p.2.2),("s",.int p.2.1),("my",.int p.1.2),("mx",.int p.1.1)]) (P:=fun u_=>True) ⋯ rfl ⋯
    (nP (x:=vP ms) (y:=vI ss) (z:=vI mu) ⋯ rfl rfl ⋯ ⋯ ⋯ ⋯ ⋯ ⋯ (bb (x:="mask") (y:=vP ms) ⋯ ac hs rfl hv.at_ rfl rfl) (bb (x:="shape") ⋯ ac hs rfl hv.at_ rfl rfl) (aW (x:="mul") ⋯ ac hu) rfl rfl rfl) rfl (fun u_=>trivial)
    (f8 (ai _ _) (ai _ _) (ai _ _) (by assumption) (Gu ‹_› (Gv ‹_›))) (by rw[GS];exact EX ‹_› ‹_› (by exact ac)) trivial (fun p hp own acc u_=>⟨trivial,by kernel_rfl,?_⟩))))⟩
 have key: ∀(e:Expr) (en:En),e= .Tuple [ch e 0,ch e 1] (tk (e)) (ps e)→fg (lv (cc X) (n+21)).ev en (σ++[aa.lst acc]) [ch e 0,ch e 1]=some (.ok [.int (lx p.2.1 p.1.1 p.1.2 p.2.2),.int (lx p.2.1 p.1.2 p.1.1 p.2.2)] (σ++[aa.lst acc]))→(lv (cc X) (n+22)).ev en (σ++[aa.lst acc]) e=some (.ok (pP (lx p.2.1 p.1.1 p.1.2 p.2.2,lx p.2.1 p.1.2 p.1.1 p.2.2)) (σ++[aa.lst acc])):=fun e en he h=>
  (congrArg ((lv (cc X) (n+22)).ev en (σ++[aa.lst acc])) he).trans (gK h (show 2≤2^20 by decide))
 refine key _ _ ⋯ (bA ⋯ (half p hp own acc p.1.1 p.1.2 _ ⋯ ⋯ ⋯ _ ?_ ⋯ ⋯ ⋯ ⋯) (bA ⋯ (half p hp own acc p.1.2 p.1.1 _ ⋯ ⋯ ⋯ _ ?_ ⋯ ⋯ ⋯ ⋯) gO))
 ·exact bx (op:= .Gt) (KE:=σ++[aa.lst acc]) (x:= .int p.2.2) (y:= .int 0) ⋯ ⋯ ⋯ ⋯ rfl
 ·exact bx (op:= .Gt) (KE:=σ++[aa.lst acc]) (x:= .int p.2.2) (y:= .int 0) ⋯ ⋯ ⋯ ⋯ rfl
theorem lV{a b:Int}(h:1≤b):(a.fdiv b).natAbs≤a.natAbs:=by
 rw[Int.fdiv_eq_ediv_of_nonneg a (ilc ‹_› (by exact ac))]
 exact Int.natAbs_ediv_le_natAbs a b
theorem A3{a:Int}(h:1≤a∧a≤10):(a-1).natAbs≤9:=qA (a:=0) (b:=9) ⟨GJ h.1,Int.sub_le_sub_right h.2 1⟩ (.refl true)
theorem zm(hs: ∀s∈ss,1≤s∧s≤100)(hm:qH mu): ∀s∈fe ss mu,0≤s∧s≤1000:=by
 intro s h;unfold fe at h;refine aL (G2.mp h) fun p hp zz2=> ?_;subst zz2;have a:=hs _ (GU hp).1;have b:=ge (hm _ (GU hp).2);have c:=lV (a:=p.1+(cF p.2-1)) b.2.2.1
 have d:0≤(p.1+(cF p.2-1)).fdiv (cF p.2):=by
  have w:0≤cF p.2:=Gy (by exact Gx _) b.2.2.1
  rw[Int.fdiv_eq_ediv_of_nonneg _ w]
  exact Int.ediv_nonneg (Int.add_nonneg (Gy (by exact Gx _) a.1) (GJ b.2.2.1)) w
 exact⟨d,nlm (HX c (zw (n:=1000) (qA (n:=100) a (.refl true)) (A3 b.2.2) (.refl true))) (.refl true)⟩
theorem xf{s x y m:Int}(hs:1≤s∧s≤100)(hx:x.natAbs≤2000)(hy:y.natAbs≤2000)(hm:m≠0∧m.natAbs≤10):(lx s x y m).natAbs≤2^30:=by
 have b:=ge hm;unfold lx;refine HX (lV b.2.2.1) ?_
 cases decide (0<m)with
 |true=>exact zw hx (A3 b.2.2) (.refl true)
 |false=>exact zw (Cn (n:=2100) (qA (n:=100) hs (.refl true)) hy (.refl true)) (A3 b.2.2) (.refl true)
noncomputable abbrev iS(k:Nat)(arg:V):List (Str×V):=[("mul",arg),("self",.inst ag k)]
noncomputable abbrev j5(X:Xp):=sx (St X 829 5) 0
theorem x7(hv:eS σ k ss ts o M B)(hl:ss.length≤4)(h0:ss≠[])(hs: ∀s∈ss,1≤s∧s≤100)(hml:mu.length=ss.length)(hm:qH mu)(n:Nat):gI ((lv (cc X) (n+80)).cf σ 829 [.inst ag k,vI mu] []) σ (fe ss mu):=by
 have t:=DM (X:=X) (σ:=σ) (k:=k) (mu:=mu) (dI ‹_› ‹_› (by exact ac)) (n+58)
 have hz:nz mu=true:=GZ.mpr fun m q=>by have:=(hm m q).1;simp[this]
 rw[hz]at t;have s0:aT (cc X) (lv (cc X) (n+78)) (ah X 829 (iS k (vI mu))) σ (St X 829 0)=some (.ok .next (ah X 829 (iS k (vI mu))) σ):=cy (v:=true) rfl t
 obtain⟨x1,s1⟩:=FW (X:=X) (own:=iS k (vI mu)) rfl rfl hv (bg ‹_› (by exact ac)) hm (n+58)
 have f7:=hv.app (GQ σ x1);have p1:=GQ σ x1;generalize σ++x1=Lm at s1 f7 p1;refine dw fun kk=> ?_
 obtain⟨x2,s2⟩:=EZ (X:=X) (own:=("strides",vI (iL ts mu))::iS k (vI mu)) rfl rfl f7 (bg ‹_› (by exact ac)) hm (n+58)<;>(refine kk ?_;clear kk)
 have nU:=f7.app (GQ Lm x2);have p2:=p1.trans (GQ Lm x2);generalize Lm++x2=Ly at s2 nU p2
 obtain⟨z,x3,s3⟩:=Fj (X:=X) (own:=("new_shape",vI (fe ss mu))::("strides",vI (iL ts mu))::iS k (vI mu)) rfl rfl nU (bg ‹_› (by exact ac)) hml (fun s q=>by have:=hs s q;exact qA ‹_› (by exact ac)) (n+58)
 have hv3:=nU.app (GQ Ly x3);have p3:=p2.trans (GQ Ly x3);generalize Ly++x3=σ3 at s3 hv3 p3
 have key: ∃(Mk:V) (ext:Sg),(Mk= .none∨ ∃ms,Mk=vP ms∧ms.length=ss.length∧ ∀m∈ms,m.1.natAbs≤2^30)∧aT (cc X) (lv (cc X) (n+78)) (ah X 829 (("offset",.int z)::("new_shape",vI (fe ss mu))::("strides",vI (iL ts mu))::iS k (vI mu))) σ3 (St X 829 4)=some (.ok .next (ah X 829 (("mask",Mk)::("offset",.int z)::("new_shape",vI (fe ss mu))::("strides",vI (iL ts mu))::iS k (vI mu))) (σ3++ext)):=by
  rcases hv3.mq with rfl|⟨ms,rfl,lm,pb⟩
  ·exact⟨.none,[],.inl rfl,by rw[G4];exact t9 (X:=X) (own:=("offset",.int z)::("new_shape",vI (fe ss mu))::("strides",vI (iL ts mu))::iS k (vI mu)) rfl hv3 (n+52)⟩
  ·refine dw fun kk=> ?_
   obtain⟨ext,h⟩:=um (X:=X) (own:=("offset",.int z)::("new_shape",vI (fe ss mu))::("strides",vI (iL ts mu))::iS k (vI mu)) rfl rfl hv3 (bg ‹_› (by exact ac)) hml lm hm (n+52)<;>(refine kk ?_;clear kk)
   refine⟨_,ext,.inr ⟨_,rfl,by unfold A4;rw[GO,GS,GS];exact m3 ‹_› ‹_›,fun m hm'=> ?_⟩,h⟩
   unfold A4 at hm';obtain⟨p,hp,rfl⟩:=G2.mp hm';have a:=pb _ (GU hp).1;exact xf (hs _ (GU (GU hp).2).1) a.1 a.2 (hm _ (GU (GU hp).2).2)
 refine dw fun kk=> ?_;obtain⟨Mk,ext,hM,s4⟩:=key<;>(refine kk ?_;clear kk)
 have hv4:=hv3.app (GQ σ3 ext);have p4:=p3.trans (GQ σ3 ext);generalize σ3++ext=σ4 at s4 hv4 p4
 have lc:(fe ss mu).length=ss.length:=by unfold fe;rw[GO,GS];exact Dx ‹_›
 have lm:(iL ts mu).length=ss.length:=by have:=hv.lt;unfold iL;rw[GO,GS];exact mq ‹_› ‹_›
 have hc:=zm hs hm
 have hb: ∀t∈iL ts mu,t.natAbs≤2^30:=fun t q=>by
  unfold iL at q;obtain⟨p,hp,rfl⟩:=G2.mp q;have a:=hv.ib _ (GU hp).1;have b:=(hm _ (GU hp).2).2;rw[Int.natAbs_mul]
  exact HX (Nat.mul_le_mul a b) (by decide)
 have:=kE (X:=X) (σ:=σ4) (ss:=fe ss mu) (T:=vI (iL ts mu)) (o:=o+z) (M:=Mk) ⟨by exact dI ‹_› ‹_› (by exact ac),fun s q=>by have:=hc s q;exact qA ‹_› (by exact ac)⟩ (fun q=>h0 (Hb (by rw[←lc,q];rfl))) (fun s q=>(hc s q).1)
  (.inr ⟨_,rfl,by exact Gu ‹_› (Gv ‹_›),hM.imp id fun h'=>bW h' fun ms e l q=>⟨ms,e,by exact Gu ‹_› (Gv ‹_›),hb,q⟩⟩) (n+25)
 have N: ∀{x:Str} {v:V} {e:Expr} {own:List (Str×V)},e= .Name x (ps e)→dQ X 829 x=true→own.lookup x=some v→(lv (cc X) (n+77)).iv (ah X 829 own) σ4 e=some (.ok (.v v) σ4):=fun he hk h=>bz (by rw[he];rfl) (aW he hk h)
 have:=jf (own:=("mask",Mk)::("offset",.int z)::("new_shape",vI (fe ss mu))::("strides",vI (iL ts mu))::iS k (vI mu)) (e:=j5 X) (a:=829) (args:=[ch (j5 X) 1,ch (j5 X) 2,ch (j5 X) 3,ch (j5 X) 4]) (xs:=[vI (fe ss mu),vI (iL ts mu),.int (o+z),Mk]) rfl ac rfl
  (aO ac (N rfl ac rfl) (aO ac (N rfl ac rfl) (aO ac (bz aA (cL rfl (bb rfl ac rfl rfl hv4.at_ rfl rfl) (aW rfl ac rfl) rfl))
   (aO ac (N rfl ac rfl) gh)))) (GW _) this
 refine dw fun kk=> ?_;obtain⟨KD,T,O,M',B',p,hr⟩:=this<;>(refine kk ?_;clear kk)
 refine⟨_,_,T,O,M',B',(p4.trans p).trans (GQ _ _),bp (a:=829) (binds:=[("self",.inst ag k),("mul",vI mu)]) (so:= .ok (.ret (.inst ag KD.length)) (ah X 829 (("mask",Mk)::("offset",.int z)::("new_shape",vI (fe ss mu))::("strides",vI (iL ts mu))::iS k (vI mu))) (KD++[aa.dct (bf (vI (fe ss mu)) T O M' B')])) ⋯ ⋯ ac ?_ rfl,cG⟩
 rw[show aD X 829=[St X 829 0,St X 829 1,St X 829 2,St X 829 3,St X 829 4,St X 829 5]from rfl]
 exact ab s0 (ab s1 (ab s2 (ab s3 (ab s4 (aq (dB rfl hr))))))
theorem zG(hml:mu.length≤900)(h:nz mu=false)(n:Nat):dh ((lv (cc X) (n+80)).cf σ 829 [.inst ag k,vI mu] []) σ:=by
 have t:=DM (X:=X) (σ:=σ) (k:=k) (mu:=mu) hml (n+58);rw[h]at t;have s0:aT (cc X) (lv (cc X) (n+78)) (ah X 829 (iS k (vI mu))) σ (St X 829 0)=some (.exc "AssertionError" (ah X 829 (iS k (vI mu))) σ):=cy (v:=false) rfl t
 refine⟨"AssertionError",σ,.inl rfl,GW _,bp (a:=829) (binds:=[("self",.inst ag k),("mul",vI mu)]) ⋯ ⋯ ac (so:= .exc "AssertionError" (ah X 829 (iS k (vI mu))) σ) ?_ rfl⟩
 rw[show aD X 829=[St X 829 0,St X 829 1,St X 829 2,St X 829 3,St X 829 4,St X 829 5]from rfl]
 exact bP s0
end
section
section
variable {cls:String}
theorem sh(hc:aX e=false)(h:(lv c n).ev en σ e=some (.exc cls KE)):(lv c (n+1)).iv en σ e=some (.exc cls KE):=
 AG (fun f a k p q=>by rw[q]at hc;exact Cp hc) h rfl
theorem gU(hc:aX e=true)(h:(lv c (n+1)).iv en σ e=some (.exc cls KE)):(lv c (n+1)).ev en σ e=some (.exc cls KE):=by
 refine kU hc fun f a k p q=> ?_;subst q;change ck c (lv c n) en σ f a k p=_ at h;show f_ (ck c (lv c n) en σ f a k p)=_;rw[h];rfl
theorem sf{f:iR}(hs:al [e]=true)(h1:f en σ e=some (.exc cls KE)):dZ f en σ [e]=some (.exc cls KE):=by
 show(if dg e=true then none else aw (f en σ e) fun x KE=>aw (dZ f en KE []) fun xs KI=>some (.ok (x::xs) KI))=_
 rw[if_neg (bk hs).1,h1];rfl
theorem yV(hs:al [e]=true)(h1:f en σ e=some (.exc cls KE)):fg f en σ [e]=some (.exc cls KE):=by
 show(if dg e=true then none else aw (f en σ e) fun x KE=>aw (fg f en KE []) fun xs KI=>some (.ok (x::xs) KI))=_
 rw[if_neg (bk hs).1,h1];rfl
theorem Ay(he:e= .Tuple [ch e 0] (tk (e)) (ps e))(hs:al [ch e 0]=true)(h:(lv c n).ev en σ (ch e 0)=some (.ok x KE)):(lv c (n+1)).ev en σ e=some (.ok (.tup [x]) KE):=
 (congrArg ((lv c (n+1)).ev en σ) he).trans (gK (bA hs h gO) (show 1≤2^20 by decide))
theorem nu(he:e= .Tuple [ch e 0] (tk (e)) (ps e))(hs:al [ch e 0]=true)(h:(lv c n).ev en σ (ch e 0)=some (.exc cls KE)):(lv c (n+1)).ev en σ e=some (.exc cls KE):=by
 refine(congrArg ((lv c (n+1)).ev en σ) he).trans ?_;show aw (fg (lv c n).ev en σ [ch e 0]) _=_;exact Fc (yV hs h)
theorem vJ(he:e= .BinOp (ch e 0) op (ch e 1) (ps e))(h1:(lv c n).ev en σ (ch e 0)=some (.ok x KE))(h2:(lv c n).ev en KE (ch e 1)=some (.exc cls KI)):(lv c (n+1)).ev en σ e=some (.exc cls KI):=
 (congrArg ((lv c (n+1)).ev en σ) he).trans (q8 h1 h2)
theorem nC{x:Str}(he:e= .Call (.Name x (ps (ch e 0))) args [] (ps e))(hg:cK args=none)(hx:aR c en x=some (.val fv))(hc:(al args&&bK c.K fv)=true)
 (h1:dZ (lv c (n+1)).iv en σ args=some (.exc cls KE)):(lv c (n+2)).iv en σ e=some (.exc cls KE):=by
 rw[he];have hc:=Gi.mp hc;refine hX (jQ ?_ hx ?_)
 ·refine(?_:(if(List.isEmpty ([]:List Keyword))=true then(cK args).map _ else none)=none)
  rw[hg];rfl
 ·unfold fh
  rw[if_pos (by rw[hc.1,hc.2];rfl)]
  exact Fc h1
end
noncomputable def av:Addr:=match NM.lookup ("ShapeTracker":Str)with
 |some (.ref a)=>a
 |_=>0
noncomputable abbrev cO(vs:V):List (Str×V):=[("views",vs)]
section
variable {X:Xp}{S T M v:V}{own:List (Str×V)}
theorem De{vs:V}(hk:σ[j]? =some (aa.dct (cO vs)))(hy:db vs=true):ji (cc X) σ (.inst av j) "views"=some (.val vs):=
 sP hk (attr:=none) ⋯ ⋯ rfl (by rw[hy];rfl)
theorem Bx:di (cc X) (σ++[aa.dct []]) (.inst av σ.length) "views" y=some (σ++[aa.dct (cO y)]):=
 jl (fs:=[]) ⋯ (H' _)
theorem yR(vs:V)(σ:Sg)(n:Nat):(lv (cc X) (n+12)).cf (σ++[aa.dct []]) 863 [.inst av σ.length,vs] []=some (.ok .none (σ++[aa.dct (cO vs)])):=by
 refine bp (a:=863) (so:= .ok .next (ah X 863 [("views",vs),("self",.inst av σ.length)]) (σ++[aa.dct (cO vs)])) ⋯ (binds:=[("self",.inst av σ.length),("views",vs)]) ⋯ ac ?_ rfl
 rw[show aD X 863=[St X 863 0]from rfl]
 exact aq (fX rfl ac rfl rfl (fK (name:="views") rfl rfl Bx))
theorem rX(vs:V)(σ:Sg)(n:Nat):aJ (cc X) (lv (cc X) (n+12)).cf σ (.ref av) [.v vs] []=some (.ok (.v (.inst av σ.length)) (σ++[aa.dct (cO vs)])):=
 rU (xs:=[vs]) (fI:=863) rfl ac rfl rfl (yR vs σ n)
theorem lH{vs:V}(he:e= .Attribute (.Name ("self":Str) (ps (ch e 0))) ("views":Str) (ps e))(hk:dQ X a "self"=true)(hs:own.lookup ("self":Str)=some (.inst av j))(hc:σ[j]? =some (aa.dct (cO vs)))(hy:db vs=true):(lv (cc X) (n+2)).ev (ah X a own) σ e=some (.ok vs σ):=by
 rw[he];exact n0 rfl (fY (ES hk hs)) (De hc hy)
end
noncomputable def d9(r:Option (aG V))(σ:Sg)(ss:List Int):Prop:= ∃j KD vs k T O M B,σ<+:KD∧r=some (.ok (.inst av j) KD)∧KD[j]? =some (aa.dct (cO (.tup (vs++[.inst ag k]))))∧KD[k]? =some (aa.dct (bf (vI ss) T O M B))
theorem d9.elim{r:Option (aG V)}(h:d9 r σ ss)(k: ∀j KD vs k T O M B,σ<+:KD→r=some (.ok (.inst av j) KD)→KD[j]? =some (aa.dct (cO (.tup (vs++[.inst ag k]))))→KD[k]? =some (aa.dct (bf (vI ss) T O M B))→G):G:=by
 obtain⟨a,b,c,d,e,f,g,l,m,o,p,q⟩:=h;exact k a b c d e f g l m o p q
theorem lt5:i<5→i=0∨i=1∨i=2∨i=3∨i=4:=(by decide: ∀i,i<5→i=0∨i=1∨i=2∨i=3∨i=4) i
noncomputable abbrev tE(X:Xp)(a:Addr):=sx (St X a 0) 0
noncomputable abbrev tA(X:Xp)(a:Addr):=ch (tE X a) 1
noncomputable abbrev tC(X:Xp)(a:Addr):=ch (ch (tA X a) 1) 0
structure nW(X:Xp)(a f:Addr)(pn mn:Str):Prop where
 pl:d8 X a=true
 bd:aD X a=[St X a 0]
 rt:St X a 0= .Return (some (sx (St X a 0) 0)) (kq (St X a 0))
 b1: ∀x v:V,eW ((dY X a).params.args.map (·.arg)) [x,v] [] ((qi X a).map xM)=some [(("self":Str),x),(pn,v)]
 b2: ∀x v:V,hZ (dY X a).scope.names [(("self":Str),x),(pn,v)]=true
 e1:tE X a= .Call (.Name ("ShapeTracker":Str) (ps (ch (tE X a) 0))) [tA X a] [] (ps (tE X a))
 c1:aX (tE X a)=true∧cK [tA X a]=none∧(al [tA X a]&&bK (cc X).K (.ref av))=true∧aX (tA X a)=false
 n1: ∀own,aR (cc X) (ah X a own) "ShapeTracker"=some (.val (.ref av))
 e2:tA X a= .BinOp (ch (tA X a) 0) .Add (ch (tA X a) 1) (ps (tA X a))
 e3:ch (tA X a) 0= .Subscript (ch (ch (tA X a) 0) 0) (.Slice (some (ch (ch (ch (tA X a) 0) 1) 0)) (some (ch (ch (ch (tA X a) 0) 1) 1)) none (ps (ch (ch (tA X a) 0) 1))) (ps (ch (tA X a) 0))
 e4:ch (ch (tA X a) 0) 0= .Attribute (.Name ("self":Str) (ps (ch (ch (ch (tA X a) 0) 0) 0))) ("views":Str) (ps (ch (ch (tA X a) 0) 0))
 k1: ∀en σ n,(lv (cc X) (n+3)).ev en σ (ch (ch (ch (tA X a) 0) 1) 0)=some (.ok (.int 0) σ)∧(lv (cc X) (n+3)).ev en σ (ch (ch (ch (tA X a) 0) 1) 1)=some (.ok (.int (-1)) σ)
 e5:ch (tA X a) 1= .Tuple [ch (ch (tA X a) 1) 0] (tk (ch (tA X a) 1)) (ps (ch (tA X a) 1))
 s5:al [tC X a]=true∧aX (tC X a)=true
 e6:tC X a= .Call (.Attribute (ch (ch (tC X a) 0) 0) mn (ps (ch (tC X a) 0))) [ch (tC X a) 1] [] (ps (tC X a))
 p6:(aU (ch (ch (tC X a) 0) 0)&&(ps (ch (tC X a) 0)).endLine==(ps (tC X a)).line&&decide ([ch (tC X a) 1].length+0<20)&&al [ch (tC X a) 1])=true
 e7:ch (ch (tC X a) 0) 0= .Subscript (ch (ch (ch (tC X a) 0) 0) 0) (ch (ch (ch (tC X a) 0) 0) 1) (ps (ch (ch (tC X a) 0) 0))
 s7:bB (ch (ch (ch (tC X a) 0) 0) 1)=true
 e8:ch (ch (ch (tC X a) 0) 0) 0= .Attribute (.Name ("self":Str) (ps (ch (ch (ch (ch (tC X a) 0) 0) 0) 0))) ("views":Str) (ps (ch (ch (ch (tC X a) 0) 0) 0))
 k2: ∀en σ n,(lv (cc X) (n+3)).ev en σ (ch (ch (ch (tC X a) 0) 0) 1)=some (.ok (.int (-1)) σ)
 e9:ch (tC X a) 1= .Name pn (ps (ch (tC X a) 1))
 o1:dQ X a "self"=true∧dQ X a pn=true∧(("self":Str)==pn)=false
 m1:yN X ag mn f=true
 m2: ∀S T O M B:V,(ez (bf S T O M B) mn).isNone=true
 f1:d8 X f=true∧bK (cc X).K (.ref f)=true
end
section
variable {X:Xp}{v:V}{f:Addr}{pn:Str}
theorem rV(I:nW X a f pn mn)(hj:σ[j]? =some (aa.dct (cO (.tup [.inst ag k])))){S T M:V}(hk:σ[k]? =some (aa.dct (bf S T O M B)))(hl: ∃o',gv (some o)=some o')(n:Nat)(h:(lv (cc X) (n+10)).cf σ f [.inst ag k,v] []=some o):
 (lv (cc X) (n+11)).ev (ah X a [(pn,v),("self",.inst av j)]) σ (tC X a)=some o:=by
 have hs:G5 ("self":Str) [(pn,v),("self",V.inst av j)]=some (.inst av j):=by
  rw[G7,I.o1.2.2];rfl
 have hp:G5 pn [(pn,v),("self",V.inst av j)]=some v:=HB;have it:gr σ (.tup [.inst ag k]) (-1)=some (.inst ag k):=rfl;have hx:(lv (cc X) (n+10)).ev (ah X a [(pn,v),("self",.inst av j)]) σ (ch (ch (tC X a) 0) 0)=some (.ok (.inst ag k) σ):=cZ I.e7 I.s7 (lH I.e8 I.o1.1 hs hj rfl) (I.k2 _ _ (n+6)) it
 have ha:dZ (lv (cc X) (n+10)).iv (ah X a [(pn,v),("self",.inst av j)]) σ [ch (tC X a) 1]=some (.ok [.v v] σ):=kQ (by rw[I.e9];rfl) (bz (by rw[I.e9];rfl) (aW I.e9 I.o1.2.1 hp))
 cases o with
 |ok y KD=>exact kr I.s5.2 (gq I.e6 I.p6 hx (iV hk (I.m2 _ _ _ _ _) I.m1) I.f1.2 ha (eR (xs:=[.inst ag k,v]) I.f1.1 h))
 |exc cls KD=>exact gU I.s5.2 (gq I.e6 I.p6 hx (iV hk (I.m2 _ _ _ _ _) I.m1) I.f1.2 ha (gG (xs:=[.inst ag k,v]) I.f1.1 h))
theorem rY(I:nW X a f pn mn)(hj:σ[j]? =some (aa.dct (cO (.tup [.inst ag k]))))(n:Nat):(lv (cc X) (n+12)).ev (ah X a [(pn,v),("self",.inst av j)]) σ (ch (tA X a) 0)=some (.ok (.tup []) σ):=by
 have hs:G5 ("self":Str) [(pn,v),("self",V.inst av j)]=some (.inst av j):=by
  rw[G7,I.o1.2.2];rfl
 exact Cz (v:= .tup [.inst ag k]) (u:= .int (-1)) (t:= .none) (l':=some 0) (u':=some (-1)) (t':=none) I.e3 (lH I.e4 I.o1.1 hs hj rfl) (I.k1 _ _ (n+8)).1 (I.k1 _ _ (n+8)).2 rfl rfl rfl rfl rfl
theorem CD(I:nW X a f pn mn)(hj:σ[j]? =some (aa.dct (cO (.tup [.inst ag k])))){S T M:V}(hk:σ[k]? =some (aa.dct (bf S T O M B)))(n:Nat)(h:gI ((lv (cc X) (n+10)).cf σ f [.inst ag k,v] []) σ ss):d9 ((lv (cc X) (n+17)).cf σ a [.inst av j,v] []) σ ss:=by
 refine jy h fun k' KD T' O' M' B' p hr hk'=> ?_;have hv:=rV I hj hk ⟨_,rfl⟩ n hr;have hb:(lv (cc X) (n+13)).ev (ah X a [(pn,v),("self",.inst av j)]) σ (tA X a)=some (.ok (.tup [.inst ag k']) KD):=
  cL I.e2 (rY I hj n) (Ay I.e5 I.s5.1 hv) rfl
 have hc:=Gi.mp I.c1.2.2.1;have ht:(lv (cc X) (n+15)).ev (ah X a [(pn,v),("self",.inst av j)]) σ (tE X a)=some (.ok (.inst av KD.length) (KD++[aa.dct (cO (.tup [.inst ag k']))])):=
  kr I.c1.1 (cJ I.e1 I.c1.2.1 (I.n1 _) I.c1.2.2.1 (kQ hc.1 (bz I.c1.2.2.2 hb)) (rX (.tup [.inst ag k']) KD (n+2)))
 refine⟨_,_,[],k',T',O',M',B',p.trans (GQ _ _),bp I.pl (I.b1 _ _) (I.b2 _ _) (so:= .ok (.ret (.inst av KD.length)) (ah X a [(pn,v),("self",.inst av j)]) (KD++[aa.dct (cO (.tup [.inst ag k']))])) ?_ rfl,cG,bY hk'⟩;refine(I.bd).symm▸ ?_;exact aq (dB I.rt ht)
theorem C4(I:nW X a f pn mn)(hj:σ[j]? =some (aa.dct (cO (.tup [.inst ag k])))){S T M:V}(hk:σ[k]? =some (aa.dct (bf S T O M B)))(n:Nat)(h:dh ((lv (cc X) (n+10)).cf σ f [.inst ag k,v] []) σ):dh ((lv (cc X) (n+17)).cf σ a [.inst av j,v] []) σ:=by
 refine dC h fun cls KD hcls p hr=> ?_;have hv:=rV I hj hk ⟨_,rfl⟩ n hr;have hb:(lv (cc X) (n+13)).ev (ah X a [(pn,v),("self",.inst av j)]) σ (tA X a)=some (.exc cls KD):=
  vJ I.e2 (rY I hj n) (nu I.e5 I.s5.1 hv)
 have hc:=Gi.mp I.c1.2.2.1;have ht:(lv (cc X) (n+15)).ev (ah X a [(pn,v),("self",.inst av j)]) σ (tE X a)=some (.exc cls KD):=
  gU I.c1.1 (nC I.e1 I.c1.2.1 (I.n1 _) I.c1.2.2.1 (sf hc.1 (sh I.c1.2.2.2 hb)))
 refine⟨cls,KD,hcls,p,bp I.pl (I.b1 _ _) (I.b2 _ _) (so:= .exc cls (ah X a [(pn,v),("self",.inst av j)]) KD) ?_ rfl⟩;refine(I.bd).symm▸ ?_;exact bP (jr I.rt ht)
theorem DR(X:Xp):nW X 978 805 "arg" "pad":=⟨by kernel_rfl,rfl,rfl,fun u_ u_=>by kernel_rfl,fun u_ u_=>ac,rfl,⟨ac,rfl,by kernel_rfl,aA⟩,fun u_=>rfl,rfl,by kernel_rfl,by kernel_rfl,fun u_ u_ u_=>⟨rfl,by kernel_rfl⟩,by kernel_rfl,⟨ac,ac⟩,by kernel_rfl,by kernel_rfl,by kernel_rfl,by kernel_rfl,by kernel_rfl,fun u_ u_ u_=>by kernel_rfl,by kernel_rfl,⟨ac,ac,aA⟩,by kernel_rfl,fun u_ u_ u_ u_ u_=>ac,⟨by kernel_rfl,ac⟩⟩
theorem CS(X:Xp):nW X 985 812 "arg" "shrink":=⟨by kernel_rfl,rfl,rfl,fun u_ u_=>by kernel_rfl,fun u_ u_=>ac,rfl,⟨ac,rfl,by kernel_rfl,aA⟩,fun u_=>rfl,rfl,by kernel_rfl,by kernel_rfl,fun u_ u_ u_=>⟨rfl,rfl⟩,by kernel_rfl,⟨ac,by kernel_rfl⟩,by kernel_rfl,by kernel_rfl,by kernel_rfl,by kernel_rfl,by kernel_rfl,fun u_ u_ u_=>by kernel_rfl,by kernel_rfl,⟨ac,ac,aA⟩,by kernel_rfl,fun u_ u_ u_ u_ u_=>ac,⟨by kernel_rfl,ac⟩⟩
theorem DB(X:Xp):nW X 992 817 "new_shape" "expand":=⟨by kernel_rfl,rfl,rfl,fun u_ u_=>by kernel_rfl,fun u_ u_=>ac,rfl,⟨ac,rfl,by kernel_rfl,aA⟩,fun u_=>rfl,rfl,by kernel_rfl,by kernel_rfl,fun u_ u_ u_=>⟨rfl,rfl⟩,by kernel_rfl,⟨ac,ac⟩,by kernel_rfl,by kernel_rfl,by kernel_rfl,by kernel_rfl,by kernel_rfl,fun u_ u_ u_=>by kernel_rfl,by kernel_rfl,⟨ac,ac,aA⟩,by kernel_rfl,fun u_ u_ u_ u_ u_=>ac,⟨by kernel_rfl,ac⟩⟩
theorem DH(X:Xp):nW X 999 824 "axis" "permute":=⟨by kernel_rfl,rfl,rfl,fun u_ u_=>by kernel_rfl,fun u_ u_=>ac,rfl,⟨ac,rfl,by kernel_rfl,aA⟩,fun u_=>rfl,rfl,by kernel_rfl,by kernel_rfl,fun u_ u_ u_=>⟨by kernel_rfl,by kernel_rfl⟩,by kernel_rfl,⟨by kernel_rfl,ac⟩,by kernel_rfl,by kernel_rfl,by kernel_rfl,by kernel_rfl,by kernel_rfl,fun u_ u_ u_=>by kernel_rfl,by kernel_rfl,⟨ac,ac,aA⟩,by kernel_rfl,fun u_ u_ u_ u_ u_=>ac,⟨by kernel_rfl,ac⟩⟩
theorem As(X:Xp):nW X 1006 829 "mul" "stride":=⟨by kernel_rfl,rfl,rfl,fun u_ u_=>by kernel_rfl,fun u_ u_=>ac,rfl,⟨ac,rfl,by kernel_rfl,aA⟩,fun u_=>rfl,rfl,by kernel_rfl,by kernel_rfl,fun u_ u_ u_=>⟨by kernel_rfl,by kernel_rfl⟩,by kernel_rfl,⟨by kernel_rfl,by kernel_rfl⟩,by kernel_rfl,by kernel_rfl,by kernel_rfl,by kernel_rfl,by kernel_rfl,fun u_ u_ u_=>by kernel_rfl,by kernel_rfl,⟨ac,ac,aA⟩,by kernel_rfl,fun u_ u_ u_ u_ u_=>ac,⟨by kernel_rfl,ac⟩⟩
end
section
variable {X:Xp}{own:List (Str×V)}{S M Mk:V}{ts xs mu:List Int}{o:Int}{as ms:List (Int×Int)}
noncomputable def aS:Int→List Int→Int
 |p,[]=>p
 |p,a::l=>aS (p*a) l
theorem ld(xs:List Int): ∀(p:Int) (i:Nat) (h:i<xs.length),aS p (xs.take (i+1))=aS p (xs.take i)*xs[i]:=by
 induction xs with
 |nil=>intro p i h;exact absurd h (by exact of_decide_eq_false rfl)
 |cons x xs ih=>
  intro p i h
  cases i with
  |zero=>rfl
  |succ i=>exact ih (p*x) i (by simpa using h)
structure lO(X:Xp)(a:Addr)(xn rn:Str):Prop where
 pl:d8 X a=true
 bd:aD X a=[St X a 0,St X a 1,St X a 2]
 b1: ∀v:V,eW ((dY X a).params.args.map (·.arg)) [v] [] ((qi X a).map xM)=some [(xn,v)]
 b2: ∀v:V,hZ (dY X a).scope.names [(xn,v)]=true
 s0: ∀(v:V) σ n,aT (cc X) (lv (cc X) (n+8)) (ah X a [(xn,v)]) σ (St X a 0)=some (.ok .next (ah X a [(rn,.int 1),(xn,v)]) σ)
 s1:St X a 1= .For (sx (St X a 1) 0) (sx (St X a 1) 1) (ak (St X a 1)) (cW (St X a 1)) (kq (St X a 1))∧dq (sx (St X a 1) 1)=true∧cW (St X a 1)=[]∧ak (St X a 1)=[si (ak (St X a 1)) 0]
 i1:sx (St X a 1) 1= .Name xn (ps (sx (St X a 1) 1))∧dQ X a xn=true∧(rn==xn)=false∧(xn==rn)=false
 t1: ∀(own:List (Str×V)) σ f y,eL (cc X) f 8 (sx (St X a 1) 0) (ah X a own) σ y=some (ah X a (("s",y)::own),σ)
 l1:si (ak (St X a 1)) 0= .Assign [.Name rn (ps (sx (si (ak (St X a 1)) 0) 1))] (sx (si (ak (St X a 1)) 0) 0) (kq (si (ak (St X a 1)) 0))∧cq (sx (si (ak (St X a 1)) 0) 0)=true∧ ∀own,bH (ah X a own) rn=true
 l2:sx (si (ak (St X a 1)) 0) 0= .BinOp (ch (sx (si (ak (St X a 1)) 0) 0) 0) .Mult (ch (sx (si (ak (St X a 1)) 0) 0) 1) (ps (sx (si (ak (St X a 1)) 0) 0))
 l3:ch (sx (si (ak (St X a 1)) 0) 0) 0= .Name rn (ps (ch (sx (si (ak (St X a 1)) 0) 0) 0))∧dQ X a rn=true
 l4:ch (sx (si (ak (St X a 1)) 0) 0) 1= .Name ("s":Str) (ps (ch (sx (si (ak (St X a 1)) 0) 0) 1))∧dQ X a "s"=true∧(rn==("s":Str))=false
 r1:St X a 2= .Return (some (sx (St X a 2) 0)) (kq (St X a 2))∧sx (St X a 2) 0= .Name rn (ps (sx (St X a 2) 0))
theorem AC(I:lO X a xn rn)(hs:bR xs){v:V}(ht:aC σ (.v v)=some t)(tl:aE (fun KD=>KD=σ) t (xs.map V.int))(n:Nat):(lv (cc X) (n+20)).cf σ a [v] []=some (.ok (.int (aS 1 xs)) σ):=by
 have hl:=hs.1;have key:=Ef (g:=eL (cc X) (lv (cc X) (n+18)).ev 8) (fs:=(lv (cc X) (n+18)).exs) (target:=sx (St X a 1) 0) (body:=ak (St X a 1)) (as:=xs) (f:=V.int) (σ:=σ) (en:=ah X a [(rn,.int 1),(xn,v)]) (S:=fun KD=>KD=σ)
  (I:=fun i en KD=>KD=σ∧ ∃(own:List (Str×V)),en=ah X a own∧own.lookup rn=some (.int (aS 1 (xs.take i)))∧(aS 1 (xs.take i)).natAbs≤1000^i) (L:=σ.length) (by rintro _ _ _ ⟨rfl,_⟩;exact HY _) (fun u_ u_ u_ h=>h.1) tl (by show xs.length<4096;exact fA ‹_› (by exact ac)) (fun u_ u_=>rfl) ⟨rfl,_,rfl,HB,HY 1⟩ ?_
 ·obtain⟨en',KD,⟨rfl,own,rfl,h1,h2⟩,hf⟩:=key;rw[List.take_length]at h1
  have s1:aT (cc X) (lv (cc X) (n+18)) (ah X a [(rn,.int 1),(xn,v)]) KD (St X a 1)=some (.ok .next (ah X a own) KD):=by
   refine BW I.s1.1 I.s1.2.1 (bz (by rw[I.i1.1];rfl) (aW I.i1.1 I.i1.2.1 (by rw[G7,I.i1.2.2.2];exact HB))) ht ?_
   refine(I.s1.2.2.1).symm▸ ?_;exact hf
  refine bp I.pl (I.b1 v) (I.b2 v) (so:= .ok (.ret (.int (aS 1 xs))) (ah X a own) KD) ?_ rfl;refine(I.bd).symm▸ ?_;exact ab (I.s0 v KD (n+10)) (ab s1 (aq (dB I.r1.1 (aW I.r1.2 I.l3.2 h1))))
 ·rintro i hi _ _ ⟨rfl,own,rfl,h1,h2⟩
  have hi4:i<4:=by exact H_ (by assumption) (by assumption)
  have hb:=hs.2 _ (Hd hi)
  have hp:bG (aS 1 (xs.take i))=true:=be h2 (H8 (Nat.pow_le_pow_right (by exact HZ _) (Ib hi4)) (by decide))
  have ha:bG xs[i]=true:=be hb (by decide)
  refine⟨_,_,ah X a ((rn,.int (aS 1 (xs.take i)*xs[i]))::("s",.int xs[i])::own),_,I.t1 own _ _ _,?_,rfl,_,rfl,?_,?_⟩
  ·refine(I.s1.2.2.2).symm▸ ?_
   exact aq (cm I.l1.1 I.l1.2.1 (I.l1.2.2 _) (cL I.l2 (aW I.l3.1 I.l3.2 (by rw[G7,I.l4.2.2];exact h1)) (aW I.l4.1 I.l4.2.1 HB) (gH hp ha)))
  ·rw[HB,ld xs 1 i hi]
  ·rw[ld xs 1 i hi,Int.natAbs_mul,Nat.pow_succ];exact Nat.mul_le_mul h2 hb
theorem P28(X:Xp):lO X 28 "x" "ret":=⟨ac,rfl,fun u_=>by kernel_rfl,fun u_=>ac,fun u_ u_ u_=>rfl,⟨rfl,ac,rfl,rfl⟩,⟨rfl,ac,aA,aA⟩,fun u_ u_ u_ u_=>rfl,⟨rfl,ac,fun u_=>ac⟩,rfl,⟨rfl,ac⟩,⟨rfl,ac,aA⟩,⟨rfl,rfl⟩⟩
theorem uS(X:Xp):lO X 1046 "shape" "found":=⟨by kernel_rfl,rfl,fun u_=>by kernel_rfl,fun u_=>ac,fun u_ u_ u_=>rfl,⟨rfl,ac,rfl,rfl⟩,⟨rfl,ac,aA,aA⟩,fun u_ u_ u_ u_=>rfl,⟨rfl,ac,fun u_=>ac⟩,rfl,⟨rfl,ac⟩,⟨rfl,ac,aA⟩,⟨rfl,rfl⟩⟩
theorem rR(hs:bR xs)(n:Nat)(I:lO X a xn rn):(lv (cc X) (n+20)).cf σ a [vI xs] []=some (.ok (.int (aS 1 xs)) σ):=AC I hs rfl (ai _ _) n
theorem C_(hs:bR xs)(hj:σ[j]? =some (aa.lst (xs.map V.int)))(n:Nat)(I:lO X a xn rn):(lv (cc X) (n+20)).cf σ a [.lst j] []=some (.ok (.int (aS 1 xs)) σ):=AC I hs (fF hj) (eu fun KD q=>by rw[q];exact hj) n
theorem A6(hl:ss.length≤900)(n:Nat):(lv (cc X) (n+20)).cf σ 35 [vI ss] []=some (.ok (.bool true) σ):=by
 refine bp (a:=35) (binds:=[("t",vI ss)]) ac ⋯ ac (so:= .ok (.ret (.bool true)) (ah X 35 [("t",vI ss)]) σ) ?_ rfl
 rw[show aD X 35=[St X 35 0]from rfl]
 have:=iw (c:=cc X) (n:=n+17) (σ:=σ) (e:=sx (St X 35 0) 0) (en:=ah X 35 [("t",vI ss)]) (S:=fun u_=>True) (t:= .seq (ss.map V.int) 0) (as:=ss) (f:=V.int) (b:=fun p=>[("s",.int p)]) (F:=fun p=> .bool true) (q:=fun u_=>true) rfl ac rfl
  (bz aA (aW rfl ac rfl)) rfl trivial (ai _ _) (fA ‹_› (by exact ac)) (fun p u_ own=>⟨rfl,rfl⟩) (fun u_ u_=>rfl)
 rw[GZ.mpr (fun u_ u_=>rfl)]at this;exact aq (dB rfl this)
end
section
theorem z_(he:e= .BoolOp .And (ch e 0::es) (ps e))(h1:(lv c n).tr en σ (ch e 0)=some (.ok false σ)):(lv c (n+1)).tr en σ e=some (.ok false σ):=by
 rw[he];exact i9 (dt h1 rfl)
variable {X:Xp}{own:List (Str×V)}{S M Mk:V}{ts xs mu:List Int}{o:Int}{as ms:List (Int×Int)}
theorem Ee(hs:own.lookup ("self":Str)=some (.inst ag k))(hx:own.lookup ("new_shape":Str)=some (vI xs))(hv:eS σ k ss ts o M B)(hl:ss.length≤4)(n:Nat):(lv (cc X) (n+20)).tr (ah X 834 own) σ (sx (St X 834 0) 0)=some (.ok (ss==xs) σ):=
 bx (op:= .Eq) (KE:=σ) (x:=vI ss) (y:=vI xs) rfl aA (bb (x:="shape") rfl ac hs rfl hv.at_ rfl rfl) (aW (x:="new_shape") rfl ac hx) (vv (fA ‹_› (by exact ac)))
theorem DI(hx:own.lookup ("new_shape":Str)=some (vI xs))(hl:xs.length≤900)(n:Nat):(lv (cc X) (n+20)).tr (ah X 834 own) σ (sx (St X 834 1) 0)=some (.ok (xs.all fun s=>decide (0≤s)) σ):=
 dz ac (iw (S:=fun u_=>True) (x:= .v (vI xs)) (t:= .seq (xs.map V.int) 0) (as:=xs) (f:=V.int) (b:=fun a=>[("x",.int a)]) (F:=fun a=> .bool (decide (0≤a))) rfl ⋯ rfl
  (bz aA (aW (x:="new_shape") rfl ac hx)) rfl trivial (ai _ _) (fA ‹_› (by exact ac)) (fun a u_ own=>⟨by kernel_rfl,rfl⟩) (fun u_ u_=>rfl)) rfl
theorem DX(hs:own.lookup ("self":Str)=some (.inst ag k))(hv:eS σ k ss ts o M B)(hp: ∀s∈ss,1≤s)(n:Nat):aT (cc X) (lv (cc X) (n+20)) (ah X 834 own) σ (St X 834 2)=some (.ok .next (ah X 834 own) σ):=by
 refine dy rfl (bx (op:= .In) (KE:=σ) (x:= .int 0) (y:=vI ss) rfl aA rfl (bb (x:="shape") rfl ac hs rfl hv.at_ rfl rfl) ?_) rfl
 rw[kR]
 have:ss.any (· ==0)=false:=Hw.mpr fun x hx q=>by
  have:=hp x hx
  have q:x=0:=by simpa using q
  exact xne ‹_› ‹_›
 exact congrArg _ (by assumption)
theorem CP(hs:own.lookup ("self":Str)=some (.inst ag k))(hv:eS σ k ss ts o M B)(hl:ss.length≤900)(n:Nat):aT (cc X) (lv (cc X) (n+30)) (ah X 834 own) σ (St X 834 3)=some (.ok .next (ah X 834 (("self_all_int",.bool true)::own)) σ):=
 cm (x:="self_all_int") (xp:=ps (sx (St X 834 3) 1)) rfl ac ac (bL (x:="all_int") (fv:= .ref 35) (v:= .v (vI ss)) (KE:=σ) rfl rfl rfl ac
  (bz aA (bb (x:="shape") rfl ac hs rfl hv.at_ rfl rfl)) (eR (X:=X) (xs:=[vI ss]) ac (A6 hl (n+9))))
noncomputable abbrev w4(X:Xp)(i:Nat):=si (ak (St X 834 4)) i
theorem z8(hx:own.lookup ("new_shape":Str)=some (vI xs))(hl:xs.length≤900)(n:Nat):aT (cc X) (lv (cc X) (n+20)) (ah X 834 own) σ (w4 X 0)=some (.ok .next (ah X 834 own) σ):=by
 have:=iw (c:=cc X) (n:=n+18) (σ:=σ) (e:=sx (w4 X 0) 0) (en:=ah X 834 own) (S:=fun u_=>True) (x:= .v (vI xs)) (t:= .seq (xs.map V.int) 0) (as:=xs) (f:=V.int) (b:=fun a=>[("s",.int a)]) (F:=fun a=> .bool true) (q:=fun u_=>true) ⋯ ⋯ rfl
  (bz aA (aW (x:="new_shape") rfl ac hx)) rfl trivial (ai _ _) (fA ‹_› (by exact ac)) (fun a u_ own=>⟨by kernel_rfl,by kernel_rfl⟩) (fun u_ u_=>rfl)
 rw[GZ.mpr (fun u_ u_=>rfl)]at this;exact cy (v:=true) rfl (dz ac this rfl)
theorem Au(hs:own.lookup ("self":Str)=some (.inst ag k))(hx:own.lookup ("new_shape":Str)=some (vI xs))(hv:eS σ k ss ts o M B)(h1:bR ss)(h2:bR xs)(n:Nat):(lv (cc X) (n+40)).tr (ah X 834 own) σ (sx (w4 X 1) 0)=some (.ok (!(aS 1 ss==aS 1 xs)) (σ++[aa.lst (xs.map V.int)])):=by
 have l1:=h1.1;have l2:=h2.1
 refine bx (op:= .NotEq) (KE:=σ) (x:= .int (aS 1 ss)) (y:= .int (aS 1 xs)) rfl aA (bL (x:="prod") (fv:= .ref 28) (v:= .v (vI ss)) (KE:=σ) ⋯ rfl rfl ac
  (bz aA (bb (x:="shape") ⋯ ac hs rfl hv.at_ rfl rfl)) (eR (X:=X) (xs:=[vI ss]) ac (rR h1 (n+18) (P28 X))))
  (bL (x:="prod") (fv:= .ref 28) (v:= .v (.lst σ.length)) (KE:=σ++[aa.lst (xs.map V.int)]) ⋯ rfl rfl ac (bz aA
   (bO (S:=fun u_=>True) (x:= .v (vI xs)) (t:= .seq (xs.map V.int) 0) (as:=xs) (f:=V.int) (b:=fun p=>[("s",.int p)]) (P:=fun u_=>True) (F:=V.int) ⋯ rfl ⋯ (bz ⋯ (aW (x:="new_shape") ⋯ ac hx)) rfl (fun u_=>trivial)
    (ai _ _) (fA ‹_› (by exact ac)) trivial (fun p hp own acc u_=>⟨trivial,by kernel_rfl,by kernel_rfl⟩))) (eR (X:=X) (xs:=[.lst σ.length]) ac (C_ h2 (by exact G8) (n+18) (P28 X)))) rfl
theorem Gc{x:Int}{r:List Int}(hx:own.lookup ("new_shape":Str)=some (vI (x::r)))(n:Nat):aT (cc X) (lv (cc X) (n+20)) (ah X 834 own) σ (St X 834 5)=some (.ok .next (ah X 834 own) σ):=
 dy rfl (z_ (es:=[ch (sx (St X 834 5) 0) 1,ch (sx (St X 834 5) 0) 2]) rfl (bx (op:= .Eq) (KE:=σ) (x:=vI (x::r)) (y:= .tup []) rfl aA (aW (x:="new_shape") rfl ac hx) rfl rfl)) rfl
noncomputable abbrev w6(X:Xp):=sx (si (ak (St X 834 6)) 0) 0
noncomputable abbrev cB(k:Nat)(arg:V):List (Str×V):=[("new_shape",arg),("self",.inst ag k)]
theorem vj(hv:eS σ k ss ts o M (.bool true))(hl:ss.length≤4)(hs: ∀s∈ss,1≤s∧s≤100)(hx:bR xs)(hx0:xs≠[])(n:Nat):
 ((xs.all fun s=>decide (0≤s))=true→(aS 1 xs==aS 1 ss)=true→gI ((lv (cc X) (n+80)).cf σ 834 [.inst ag k,vI xs] []) σ xs):=by
 intro ha hp
 have fin: ∀so o,(lv (cc X) (n+79)).exs (ah X 834 (cB k (vI xs))) σ (aD X 834)=some so→il so=some o→(lv (cc X) (n+80)).cf σ 834 [.inst ag k,vI xs] []=some o:=fun so o h1 h2=>bp (a:=834) (binds:=[("self",.inst ag k),("new_shape",vI xs)]) ⋯ ⋯ ac h1 h2
 rw[show aD X 834=[St X 834 0,St X 834 1,St X 834 2,St X 834 3,St X 834 4,St X 834 5,St X 834 6,St X 834 7,St X 834 8,St X 834 9]from rfl]at fin
 have t0:=Ee (X:=X) (own:=cB k (vI xs)) (xs:=xs) rfl rfl hv hl (n+58)
 cases q:ss==xs with
 |true=>
  rw[q]at t0;have:=GN q;subst this
  exact⟨k,σ,_,_,_,_,GW _,fin _ _ (bj (en':=ah X 834 (cB k (vI ss))) (eQ rfl t0 rfl)) rfl,hv.at_⟩
 |false=>
  rw[q]at t0
  have t1:=DI (X:=X) (σ:=σ) (own:=cB k (vI xs)) (xs:=xs) rfl (by have:=hx.1;exact bg ‹_› (by exact ac)) (n+58)
  rw[ha]at t1;have s0:aT (cc X) (lv (cc X) (n+78)) (ah X 834 (cB k (vI xs))) σ (St X 834 0)=some (.ok .next (ah X 834 (cB k (vI xs))) σ):=dy rfl t0 rfl;have s1:aT (cc X) (lv (cc X) (n+78)) (ah X 834 (cB k (vI xs))) σ (St X 834 1)=some (.ok .next (ah X 834 (cB k (vI xs))) σ):=cy (v:=true) rfl t1;have s2:=DX (X:=X) (own:=cB k (vI xs)) rfl hv (fun s h=>(hs s h).1) (n+58)
  have s3:=CP (X:=X) (own:=cB k (vI xs)) rfl hv (bg ‹_› (by exact ac)) (n+48)
  have hS:bR ss:=⟨hl,fun s h=>by have:=hs s h;exact qA ‹_› (by exact ac)⟩
  have t4:=Au (X:=X) (own:=("self_all_int",.bool true)::cB k (vI xs)) rfl rfl hv hS hx (n+37)
  have e:(aS 1 ss==aS 1 xs)=true:=by rw[beq_iff_eq]at hp⊢;exact hp.symm
  rw[e]at t4
  have s40:=z8 (X:=X) (σ:=σ) (own:=("self_all_int",.bool true)::cB k (vI xs)) (xs:=xs) rfl (by have:=hx.1;exact bg ‹_› (by exact ac)) (n+57)
  have s41:aT (cc X) (lv (cc X) (n+77)) (ah X 834 (("self_all_int",.bool true)::cB k (vI xs))) σ (w4 X 1)=some (.ok .next (ah X 834 (("self_all_int",.bool true)::cB k (vI xs))) (σ++[aa.lst (xs.map V.int)])):=dy rfl t4 rfl
  have s4:aT (cc X) (lv (cc X) (n+78)) (ah X 834 (("self_all_int",.bool true)::cB k (vI xs))) σ (St X 834 4)=some (.ok .next (ah X 834 (("self_all_int",.bool true)::cB k (vI xs))) (σ++[aa.lst (xs.map V.int)])):=by
   refine eQ rfl (dz (x:= .bool true) ac (aW (x:="self_all_int") rfl ac rfl) rfl) ?_
   rw[show ak (St X 834 4)=[w4 X 0,w4 X 1]from rfl]
   exact ab s40 (aq s41)
  refine rh (HS hx0) fun x r zz2=> ?_;subst zz2;have s5:=Gc (X:=X) (σ:=σ++[aa.lst ((x::r).map V.int)]) (own:=("self_all_int",.bool true)::cB k (vI (x::r))) rfl (n+58);have p1:=GQ σ [aa.lst ((x::r).map V.int)];have f7:=hv.app p1;generalize σ++[aa.lst ((x::r).map V.int)]=Lm at s4 s5 p1 f7
  have hp0: ∀s∈x::r,0≤s:=fun s h=>by
   have:=GZ.mp ha s h
   exact of_decide_eq_true (by assumption)
  have:=xP (X:=X) (σ:=Lm) hx hx0 hp0 (n+24);have:=jf (X:=X) (own:=("self_all_int",.bool true)::cB k (vI (x::r))) (e:=w6 X) (a:=834) (args:=[ch (w6 X) 1]) (xs:=[vI (x::r)]) rfl ac rfl (kQ ac (bz aA (aW (x:="new_shape") rfl ac rfl))) (GW _) this;refine gc this fun KD T O M' B' p hr=> ?_
  have s6:aT (cc X) (lv (cc X) (n+78)) (ah X 834 (("self_all_int",.bool true)::cB k (vI (x::r)))) Lm (St X 834 6)=some (.ok (.ret (.inst ag KD.length)) (ah X 834 (("self_all_int",.bool true)::cB k (vI (x::r)))) (KD++[aa.dct (bf (vI (x::r)) T O M' B')])):=by
   refine eQ rfl (dz (x:= .bool true) ac (bb (x:="contiguous") (y:= .bool true) rfl ac rfl rfl f7.at_ rfl rfl) rfl) ?_
   rw[show ak (St X 834 6)=[si (ak (St X 834 6)) 0]from rfl]
   exact aq (dB rfl hr)
  exact⟨_,_,T,O,M',B',(p1.trans p).trans (GQ _ _),fin _ _ (ab s0 (ab s1 (ab s2 (ab s3 (ab s4 (ab s5 (bj s6))))))) rfl,cG⟩
theorem vQ(hv:eS σ k ss ts o M B)(hl:ss.length≤4)(hs: ∀s∈ss,1≤s∧s≤100)(hx:bR xs)(n:Nat)(h:((xs.all fun s=>decide (0≤s))&&aS 1 xs==aS 1 ss)=false):dh ((lv (cc X) (n+80)).cf σ 834 [.inst ag k,vI xs] []) σ:=by
 have fin: ∀so o,(lv (cc X) (n+79)).exs (ah X 834 (cB k (vI xs))) σ (aD X 834)=some so→il so=some o→(lv (cc X) (n+80)).cf σ 834 [.inst ag k,vI xs] []=some o:=fun so o h1 h2=>bp (a:=834) (binds:=[("self",.inst ag k),("new_shape",vI xs)]) ⋯ ⋯ ac h1 h2
 rw[show aD X 834=[St X 834 0,St X 834 1,St X 834 2,St X 834 3,St X 834 4,St X 834 5,St X 834 6,St X 834 7,St X 834 8,St X 834 9]from rfl]at fin
 have t0:=Ee (X:=X) (own:=cB k (vI xs)) (xs:=xs) rfl rfl hv hl (n+58)
 have q:(ss==xs)=false:=by
  rw[beq_eq_false_iff_ne];rintro rfl
  have:(ss.all fun s=>decide (0≤s))=true:=GZ.mpr fun s q=>by have:=hs s q;exact decide_eq_true (iil ‹_› (by exact ac))
  rw[this,beq_self_eq_true]at h;exact Cp h
 rw[q]at t0
 have t1:=DI (X:=X) (σ:=σ) (own:=cB k (vI xs)) (xs:=xs) rfl (by have:=hx.1;exact bg ‹_› (by exact ac)) (n+58)
 have s0:aT (cc X) (lv (cc X) (n+78)) (ah X 834 (cB k (vI xs))) σ (St X 834 0)=some (.ok .next (ah X 834 (cB k (vI xs))) σ):=dy rfl t0 rfl
 cases ha:xs.all fun s=>decide (0≤s)with
 |false=>
  rw[ha]at t1;exact⟨"AssertionError",σ,.inl rfl,GW _,fin _ _ (ab s0 (bP (cy (v:=false) rfl t1))) rfl⟩
 |true=>
  rw[ha]at t1 h;have s1:aT (cc X) (lv (cc X) (n+78)) (ah X 834 (cB k (vI xs))) σ (St X 834 1)=some (.ok .next (ah X 834 (cB k (vI xs))) σ):=cy (v:=true) rfl t1;have s2:=DX (X:=X) (own:=cB k (vI xs)) rfl hv (fun s h=>(hs s h).1) (n+58)
  have s3:=CP (X:=X) (own:=cB k (vI xs)) rfl hv (bg ‹_› (by exact ac)) (n+48)
  have hS:bR ss:=⟨hl,fun s h=>by have:=hs s h;exact qA ‹_› (by exact ac)⟩
  have t4:=Au (X:=X) (own:=("self_all_int",.bool true)::cB k (vI xs)) rfl rfl hv hS hx (n+37)
  have e:(aS 1 ss==aS 1 xs)=false:=by
   rw[Gn,beq_eq_false_iff_ne]at h;rw[beq_eq_false_iff_ne];exact fun q=>h q.symm
  rw[e]at t4
  have s40:=z8 (X:=X) (σ:=σ) (own:=("self_all_int",.bool true)::cB k (vI xs)) (xs:=xs) rfl (by have:=hx.1;exact bg ‹_› (by exact ac)) (n+57)
  have s41:aT (cc X) (lv (cc X) (n+77)) (ah X 834 (("self_all_int",.bool true)::cB k (vI xs))) σ (w4 X 1)=some (.exc "ValueError" (ah X 834 (("self_all_int",.bool true)::cB k (vI xs))) (σ++[aa.lst (xs.map V.int)])):=eQ rfl t4 rfl
  have s4:aT (cc X) (lv (cc X) (n+78)) (ah X 834 (("self_all_int",.bool true)::cB k (vI xs))) σ (St X 834 4)=some (.exc "ValueError" (ah X 834 (("self_all_int",.bool true)::cB k (vI xs))) (σ++[aa.lst (xs.map V.int)])):=by
   refine eQ rfl (dz (x:= .bool true) ac (aW (x:="self_all_int") rfl ac rfl) rfl) ?_
   rw[show ak (St X 834 4)=[w4 X 0,w4 X 1]from rfl]
   exact ab s40 (bP s41)
  exact⟨"ValueError",_,.inr rfl,GQ _ _,fin _ _ (ab s0 (ab s1 (ab s2 (ab s3 (bP s4))))) rfl⟩
end
section
noncomputable def W(kS kL:Nat)(σ:Sg)(ns:List Int)(a b:Int):Sg:=(σ.set kL (aa.lst (ns.map V.int))).set kS (aa.lst [.lst kL,.int a,.int b])
structure Kk(kS kL:Nat)(σ:Sg):Prop where
 ne:kS≠kL
 s:kS<σ.length
 l:kL<σ.length
noncomputable def eG(ns:List Int)(a b:Int):Prop:=ns.length≤100∧0≤b∧b<2147483647
section
variable {kS kL:Nat}{ns ns':List Int}{a b a' b':Int}
theorem lg:(W kS kL σ ns a b).length=σ.length:=by simp[W]
theorem Fd(h:Kk kS kL σ):(W kS kL σ ns a b)[kS]? =some (aa.lst [.lst kL,.int a,.int b]):=by
 unfold W;rw[HN (by rw[Ht];exact h.s)]
theorem EL(h:Kk kS kL σ):(W kS kL σ ns a b)[kL]? =some (aa.lst (ns.map V.int)):=by
 unfold W;rw[Ho h.ne,HN h.l]
theorem Cu(h1:k≠kS)(h2:k≠kL):(W kS kL σ ns a b)[k]? =σ[k]? :=by
 unfold W;rw[Ho (Ne.symm h1),Ho (Ne.symm h2)]
theorem xc:(W kS kL σ ns a b).set kS (aa.lst [.lst kL,.int a',.int b'])=W kS kL σ ns a' b':=by
 unfold W;rw[List.set_set]
theorem Bb(h:Kk kS kL σ):(W kS kL σ ns a b).set kL (aa.lst (ns'.map V.int))=W kS kL σ ns' a b:=by
 unfold W;rw[List.set_comm _ _ h.ne,List.set_set]
theorem io(h:Kk kS kL σ):W kS kL (σ++ext) ns a b=W kS kL σ ns a b++ext:=by
 unfold W
 rw[List.set_append_left _ _ h.l,List.set_append_left _ _ (by rw[Ht];exact h.s)]
theorem Kk.app(h:Kk kS kL σ):Kk kS kL (σ++ext):=⟨h.ne,by rw[G6];have:=h.s;exact ady ‹_›,by rw[G6];have:=h.l;exact ady ‹_›⟩
end
theorem pq(hk:σ[k]? =some (aa.lst l))(h:l[i]? =some y)(hi:i<2^62):gr σ (.lst k) (i:Int)=some y:=by
 have hl:=(G1.mp h).1;show(aI σ k).bind _=_;rw[aP hk,IG];unfold gF;refine dP (n62 hi) ?_;rw[DS hl];exact h
theorem jg{j:Int}(he:e= .Subscript (ch e 0) (ch e 1) (ps e))(hn:bB (ch e 1)=true)(h1:f en σ (ch e 0)=some (.ok (.lst k) KE))(h2:f en KE (ch e 1)=some (.ok (.int j) KI))(h3:dO KI k j y=some K3):eL c f (n+1) e en σ y=some (en,K3):=by
 rw[he]
 show(if bB (ch e 1)=true then _ else none)=_
 rw[if_pos hn,h1];show(f en KE (ch e 1)).bind _=_;rw[h2];show(dO KI k j y).map _=_;rw[h3];rfl
theorem vf{cf:cb}{i:Int}(h:mC σ k i=some (y,KE)):aJ c cf σ (.builtin "list.pop") [.v (.lst k),.v (.int i)] []=some (.ok (.v y) KE):=by
 have:aJ c cf σ (.builtin "list.pop") [.v (.lst k),.v (.int i)] []=(mC σ k i).map fun p=> .ok (.v p.1) p.2:=rfl;rw[this,h];rfl
theorem uT(h:σ[k]? =some (.lst l)):iA c σ (.lst k) "pop"=some (.builtin "list.pop",[.lst k]):=by
 show(aI σ k).bind _=_;rw[aP h];rfl
theorem nM{a b:Int}(h0:b≠0)(hb:bG b=true):m4 σ .Mod (.int a) (.int b)=some (.int (a.fmod b),σ):=by
 show(if b≠0∧bG b=true then some (a.fmod b)else none).map _=_
 rw[if_pos ⟨h0,hb⟩];rfl
end
section
variable {X:Xp}{own:List (Str×V)}{kS kL:Nat}{ns:List Int}{a b m:Int}
noncomputable abbrev gD(kS:Nat)(m:Int):List (Str×V):=[("many",.int m),("state",.lst kS)]
theorem iD{y:Int}(h:Kk kS kL σ):dO (W kS kL σ ns a b) kS 1 (.int y)=some (W kS kL σ ns y b):=by
 show(aI _ _).bind _=_
 rw[aP (Fd h),IG,if_pos ⟨by decide,by decide,show 3≤2^20 by decide⟩]
 show some ((W kS kL σ ns a b).set kS (aa.lst [.lst kL,.int y,.int b]))=_;rw[xc]
theorem qE{y:Int}(h:Kk kS kL σ):dO (W kS kL σ ns a b) kS 2 (.int y)=some (W kS kL σ ns a y):=by
 show(aI _ _).bind _=_
 rw[aP (Fd h),IG,if_pos ⟨by decide,by decide,show 3≤2^20 by decide⟩]
 show some ((W kS kL σ ns a b).set kS (aa.lst [.lst kL,.int a,.int y]))=_;rw[xc]
theorem Ai{aF:Addr}(h:Kk kS kL σ)(hs:own.lookup ("state":Str)=some (.lst kS))(he:e= .Subscript (.Name ("state":Str) (ps (ch e 0))) (ch e 1) (ps e))(hk:dQ X aF "state"=true)(hn:bB (ch e 1)=true)(hi:(lv (cc X) (n+3)).ev (ah X aF own) (W kS kL σ ns a b) (ch e 1)=some (.ok (.int (i:Nat)) (W kS kL σ ns a b)))(hy:[V.lst kL,.int a,.int b][i]? =some y)(hi':i<3):(lv (cc X) (n+4)).ev (ah X aF own) (W kS kL σ ns a b) e=some (.ok y (W kS kL σ ns a b)):=by
 refine(congrArg ((lv (cc X) (n+4)).ev (ah X aF own) (W kS kL σ ns a b)) he).trans ?_
 exact sg hn (fY (ES hk hs)) hi (pq (Fd h) hy (Df ‹_› (by exact ac)))
noncomputable abbrev xL(X:Xp):=si (ak (St X 1039 0)) 0
noncomputable abbrev tkA(X:Xp):=si (ak (xL X)) 0
noncomputable abbrev tkB(X:Xp)(i:Nat):=si (cW (xL X)) i
theorem uf(h:Kk kS kL σ)(n:Nat):(lv (cc X) (n+10)).tr (ah X 1039 (gD kS m)) (W kS kL σ ns a b) (sx (St X 1039 0) 0)=some (.ok (a==0) (W kS kL σ ns a b)):=
 bx rfl aA (Ai (i:=1) h rfl rfl ac ac rfl rfl (by exact H3 _)) rfl rfl
theorem wY{x:Int}{r:List Int}(h:Kk kS kL σ)(hl:r.length≤100)(n:Nat):aT (cc X) (lv (cc X) (n+20)) (ah X 1039 (gD kS m)) (W kS kL σ (x::r) a b) (xL X)=some (.ok .next (ah X 1039 (gD kS m)) (W kS kL σ r x b)):=by
 have t:(lv (cc X) (n+20)).tr (ah X 1039 (gD kS m)) (W kS kL σ (x::r) a b) (sx (xL X) 0)=some (.ok true (W kS kL σ (x::r) a b)):=
  dz (x:= .lst kL) ⋯ (Ai (i:=0) h rfl rfl ac ac rfl rfl (by exact HZ _)) (by
   show(aI _ kL).bind _=_;rw[aP (EL h)]
   show(if _ then _ else none)=_
   rw[if_pos (by rw[GO,G_];exact D4 ‹_› (by exact ac))];rfl)
 have hp:mC (W kS kL σ (x::r) a b) kL 0=some (.int x,W kS kL σ r a b):=by
  show(aI _ _).bind _=_;rw[aP (EL h)]
  refine dP ⟨by rw[GO,G_];exact D4 ‹_› (by exact ac),by exact ac⟩ ?_
  have e:seqIndex? 0 ((x::r).map V.int).length=some 0:=by simp[seqIndex?];try omega
  refine(e).symm▸ ?_;refine(?_:some (V.int x,(W kS kL σ (x::r) a b).set kL (aa.lst (r.map V.int)))=_);rw[Bb h]
 refine eQ rfl t ?_
 rw[show ak (xL X)=[tkA X]from rfl]
 refine aq (fX (y:= .int x) (KE:=W kS kL σ r a b) rfl ac ⋯ ?_ (jg (j:=1) ⋯ ⋯ rfl rfl (iD h)))
 exact kr ac (gq (name:="pop") (args:=[ch (sx (tkA X) 0) 1]) (fv:= .builtin "list.pop") (first:=[.lst kL]) (vs:=[.v (.int 0)]) ⋯ ⋯ (Ai (i:=0) h rfl ⋯ ac ⋯ ⋯ rfl (by decide))
  (uT (EL h)) ac (kQ ⋯ (bz aA rfl)) (vf hp))
noncomputable def uL(b:Int):Int:=(b*48271+11).fmod 2147483647
theorem tj(h:Kk kS kL σ)(hb:eG [] a b)(n:Nat):aT (cc X) (lv (cc X) (n+20)) (ah X 1039 (gD kS m)) (W kS kL σ [] a b) (xL X)=some (.ok .next (ah X 1039 (gD kS m)) (W kS kL σ [] (uL b) (uL b))):=by
 have t:(lv (cc X) (n+20)).tr (ah X 1039 (gD kS m)) (W kS kL σ [] a b) (sx (xL X) 0)=some (.ok false (W kS kL σ [] a b)):=
  dz (x:= .lst kL) ⋯ (Ai (i:=0) h rfl rfl ac ac rfl rfl (by exact HZ _)) (by
   show(aI _ kL).bind _=_;rw[aP (EL h)]
   rfl)
 refine dy rfl t ?_
 rw[show cW (xL X)=[tkB X 0,tkB X 1]from rfl]
 have s0:bG b=true:=be (k:=2147483647) (by have:=hb.2;exact iat ‹_› (by exact ac)) (by decide)
 refine ab (en':=ah X 1039 (gD kS m)) (KD:=W kS kL σ [] a (uL b)) (fX (y:= .int (uL b)) (KE:=W kS kL σ [] a b) rfl ac ⋯ ?_ (jg (k:=kS) (j:=2) (KE:=W kS kL σ [] a b) (KI:=W kS kL σ [] a b) ⋯ ⋯ rfl rfl (qE h)))
  (aq (fX (y:= .int (uL b)) (KE:=W kS kL σ [] a (uL b)) rfl ac ⋯ (Ai (i:=2) h rfl ⋯ ac ⋯ rfl rfl (by exact H0 _)) (jg (k:=kS) (j:=1) (KE:=W kS kL σ [] a (uL b)) (KI:=W kS kL σ [] a (uL b)) ⋯ ⋯ rfl rfl (iD h))))
 exact cL (op:= .Mod) (x:= .int (b*48271+11)) (y:= .int 2147483647) (KE:=W kS kL σ [] a b) ⋯ (cL (op:= .Add) (x:= .int (b*48271)) (y:= .int 11) (KE:=W kS kL σ [] a b) ⋯ (cL ⋯ (Ai (i:=2) h rfl ⋯ ac ⋯ ⋯ rfl (by exact H0 _)) ⋯ (gH s0 (by exact ac))) ⋯ rfl) rfl (nM (by omega) (by exact ac))
theorem BK(b:Int):0≤uL b∧uL b<2147483647:=⟨GK _ (by decide),GM _ (by decide)⟩
theorem tm(h:Kk kS kL σ)(hm:m≠0)(hm':bG m=true)(n:Nat):(lv (cc X) (n+20)).exs (ah X 1039 (gD kS m)) (W kS kL σ ns a b) [St X 1039 1,St X 1039 2,St X 1039 3]=some (.ok (.ret (.int (a.fmod m))) (ah X 1039 (("found",.int (a.fmod m))::gD kS m)) (W kS kL σ ns (a.fdiv m) b)):=by
 refine ab (en':=ah X 1039 (("found",.int (a.fmod m))::gD kS m)) (KD:=W kS kL σ ns a b) (cm rfl ac ac (cL rfl (Ai (i:=1) h rfl ⋯ ac ac rfl rfl (by exact H3 _)) rfl (nM hm hm'))) ?_
 refine ab (en':=ah X 1039 (("found",.int (a.fmod m))::gD kS m)) (KD:=W kS kL σ ns (a.fdiv m) b) (fX rfl ac rfl (cL rfl (Ai (i:=1) h rfl rfl ac ac rfl rfl (by exact H3 _)) rfl (ow hm hm'))
  (jg (j:=1) rfl ac rfl rfl (iD h))) ?_
 exact aq rfl
theorem lE(h:Kk kS kL σ)(ho:eG ns a b)(hm:0<m)(hm':m≤1000)(n:Nat): ∃(y:Int) (ns':List Int) (a' b':Int),0≤y∧y<m∧eG ns' a' b'∧(lv (cc X) (n+23)).cf (W kS kL σ ns a b) 1039 [.lst kS,.int m] []=some (.ok (.int y) (W kS kL σ ns' a' b')):=by
 have hm0:m≠0:=by exact npn ‹_›
 have hsm:bG m=true:=be (k:=1000) (iad ‹_› ‹_› (by exact ac)) (by decide)
 have fin: ∀(ns':List Int) (a' b':Int),eG ns' a' b'→aT (cc X) (lv (cc X) (n+21)) (ah X 1039 (gD kS m)) (W kS kL σ ns a b) (St X 1039 0)=some (.ok .next (ah X 1039 (gD kS m)) (W kS kL σ ns' a' b'))→ ∃(y:Int) (ns':List Int) (a' b':Int),0≤y∧y<m∧eG ns' a' b'∧(lv (cc X) (n+23)).cf (W kS kL σ ns a b) 1039 [.lst kS,.int m] []=some (.ok (.int y) (W kS kL σ ns' a' b')):=by
  intro ns' a' b' ho' s0
  refine⟨a'.fmod m,ns',a'.fdiv m,b',GK _ hm,GM _ hm,ho',bp (a:=1039) (binds:=[("state",.lst kS),("many",.int m)]) (so:= .ok (.ret (.int (a'.fmod m))) (ah X 1039 (("found",.int (a'.fmod m))::gD kS m)) (W kS kL σ ns' (a'.fdiv m) b')) ⋯ ⋯ ac ?_ rfl⟩
  rw[show aD X 1039=[St X 1039 0,St X 1039 1,St X 1039 2,St X 1039 3]from rfl]
  exact ab s0 (tm h hm0 hsm (n+2))
 have t:=uf (X:=X) (m:=m) (ns:=ns) (a:=a) (b:=b) h (n+11)
 cases q:a==0 with
 |false=>
  rw[q]at t;exact fin ns a b ho (dy rfl t rfl)
 |true=>
  rw[q]at t
  have key: ∀(ns':List Int) (a' b':Int),eG ns' a' b'→aT (cc X) (lv (cc X) (n+20)) (ah X 1039 (gD kS m)) (W kS kL σ ns a b) (xL X)=some (.ok .next (ah X 1039 (gD kS m)) (W kS kL σ ns' a' b'))→ ∃(y:Int) (ns':List Int) (a' b':Int),0≤y∧y<m∧eG ns' a' b'∧(lv (cc X) (n+23)).cf (W kS kL σ ns a b) 1039 [.lst kS,.int m] []=some (.ok (.int y) (W kS kL σ ns' a' b')):=by
   intro ns' a' b' ho' s;refine fin ns' a' b' ho' (eQ rfl t ?_)
   rw[show ak (St X 1039 0)=[xL X]from rfl]
   exact aq s
  cases ns with
  |nil=>
   have:=BK b;exact key [] (uL b) (uL b) ⟨ho.1,this⟩ (tj h ho n)
  |cons x r=>
   have h1:=ho.1;rw[G_]at h1
   exact key r x b ⟨by exact Ib (by assumption),ho.2⟩ (wY h (by exact Ib (by assumption)) n)
end
section
section
theorem C8{S:Sg→Prop}{P:En→Prop}{J:Nat→List V→Sg→Prop}{as:List α}{f:α→V}{K:Nat}(ht:aE S t (as.map f))(hS: ∀i acc σ,J i acc σ→S σ)(hl:as.length<az)
 (step: ∀i (hi:i<as.length) en acc σ,J i acc σ→P en→ ∃en' y KI K3,P en'∧g target en σ (f as[i])=some (en',σ)∧ev en' σ elt=some (.ok y KI)∧cD KI K y=some K3∧J (i+1) (acc++[y]) K3) (h0:J 0 [] σ) (hp:P en):
 ∃ys KD,J as.length ys KD∧cE g tr ev target [] elt K az en σ t=some KD:=by
 refine aL ht fun ts zz1 h=> ?_;subst zz1
 have key: ∀(m q i:Nat) (en:En) (acc:List V) (σ:Sg),i+m=as.length→J i acc σ→P en→ ∃ys KD,J as.length ys KD∧cE g tr ev target [] elt K (m+q+1) en σ (ts i)=some KD:=by
  intro m
  induction m with
  |zero=>
   intro q i en acc σ hi hj hp
   obtain rfl:i=as.length:=by assumption
   have e:=(h σ (hS _ _ _ hj)).2;rw[GO]at e;refine⟨acc,σ,hj,?_⟩
   refine(show 0+q+1=q+1 from by simp+arith).symm▸ ?_
   exact nd e
  |succ m ih=>
   intro q i en acc σ hi hj hp
   have hlt:i<as.length:=by exact EU ‹_›
   refine dw fun kk=> ?_;obtain⟨en',y,KI,K3,hp',h1,h2,h3,h4⟩:=step i hlt en acc σ hj hp<;>(refine kk ?_;clear kk)
   have hn:=(h σ (hS _ _ _ hj)).1 i (f as[i]) (by simp[hlt])
   refine dw fun kk=> ?_;refine bc (ih q (i+1) en' (acc++[y]) K3 (Ej ‹_›) h4 hp') fun ys KD h5 h6=> ?_<;>(refine kk ?_;clear kk)
   refine⟨ys,KD,h5,?_⟩
   refine(show m+1+q+1=(m+q+1)+1 from by simp+arith).symm▸ ?_
   generalize m+q+1=w at h6⊢
   rw[m7 hn h1 (show bJ tr _ _ []=_ from rfl) h2 h3,h6]
 have:=key as.length (az-1-as.length) 0 en [] σ (by simp+arith) h0 hp
 rw[show as.length+(az-1-as.length)+1=az from by exact EN ‹_›]at this
 exact this
theorem zH{S:Sg→Prop}{P:En→Prop}{J:Nat→List V→Sg→Prop}{x:IV}{as:List α}{f:α→V}(he:iN e)(hi:ec e=[])(hf:hY en e=true)(hx:(lv c n).iv en σ (ch e 2)=some (.ok x KE))(ht:aC KE x=some t)(tl:aE S t (as.map f))(hS: ∀i acc σ,J i acc σ→S σ)(hl:as.length<4096)
 (step: ∀i (hi:i<as.length) en acc σ,J i acc σ→P en→ ∃en' y KI K3,P en'∧du 8 (ch e 1) en σ (f as[i])=some (en',σ)∧(lv c n).ev en' σ (ch e 0)=some (.ok y KI)∧cD KI KE.length y=some K3∧J (i+1) (acc++[y]) K3) (h0:J 0 [] (KE++[aa.lst []])) (hp:P (dX (dK e).names en)):
 ∃ys KD,J as.length ys KD∧(lv c (n+1)).ev en σ e=some (.ok (.lst KE.length) KD):=by
 refine dw fun kk=> ?_;refine bc (C8 (tr:=(lv c n).tr) tl hS hl step h0 hp) fun ys KD h1 h2=> ?_<;>(refine kk ?_;clear kk)
 refine⟨ys,KD,h1,jR he (oH hf hx ht ?_)⟩;refine(hi).symm▸ ?_;exact h2
theorem yp{A B:Sg}(h:acc.length≤1000):cD (A++[aa.lst acc]++B) A.length y=some (A++[aa.lst (acc++[y])]++B):=by
 show(aI (A++[aa.lst acc]++B) A.length).bind _=_
 rw[aP (l:=acc) (by simp)]
 refine dP (bg ‹_› (by exact ac)) ?_
 simp[List.set_append]
end
variable {X:Xp}{own:List (Str×V)}{kS kL:Nat}{ns:List Int}{a b m:Int}
theorem m_(h:Kk kS kL σ)(ho:eG ns a b)(hm:0<m)(hm':m≤1000)(he:e= .Call (.Name ("_law_take":Str) (ps (ch e 0))) [ch e 1,ch e 2] [] (ps e))(hg:cK [ch e 1,ch e 2]=none)(hx:aR (cc X) en "_law_take"=some (.val (.ref 1039)))(hc:al [ch e 1,ch e 2]=true)(hi:aX (ch e 1)=false)(hj:aX (ch e 2)=false)
 (n:Nat) (h1:(lv (cc X) (n+22)).ev en (W kS kL σ ns a b) (ch e 1)=some (.ok (.lst kS) (W kS kL σ ns a b))) (h2:(lv (cc X) (n+22)).ev en (W kS kL σ ns a b) (ch e 2)=some (.ok (.int m) (W kS kL σ ns a b))):
 ∃(y:Int) (ns':List Int) (a' b':Int),0≤y∧y<m∧eG ns' a' b'∧(lv (cc X) (n+24)).ev en (W kS kL σ ns a b) e=some (.ok (.int y) (W kS kL σ ns' a' b')):=by
 refine dw fun kk=> ?_;refine cC (lE (X:=X) h ho hm hm' n) fun y ns' a' b' p1 p2 p3 p4=> ?_<;>(refine kk ?_;clear kk)
 exact⟨y,ns',a',b',p1,p2,p3,kr (by rw[he];rfl) (cJ he hg hx (by rw[hc];exact ac) (Ag hc (bz hi h1) (bz hj h2)) (eR (xs:=[.lst kS,.int m]) ⋯ p4))⟩
theorem ol(h:Kk kS kL σ)(ho:eG ns a b)(hm:0<m)(hm':m≤1000)(hlen:(ys.length:Int)=m)(he:e= .Subscript (ch e 0) (ch e 1) (ps e))(hns:bB (ch e 1)=true)(he1:ch e 1= .Call (.Name ("_law_take":Str) (ps (ch (ch e 1) 0))) [ch (ch e 1) 1,ch (ch e 1) 2] [] (ps (ch e 1)))(hg:cK [ch (ch e 1) 1,ch (ch e 1) 2]=none)(hx:aR (cc X) en "_law_take"=some (.val (.ref 1039)))(hc:al [ch (ch e 1) 1,ch (ch e 1) 2]=true)(hi:aX (ch (ch e 1) 1)=false)(hj:aX (ch (ch e 1) 2)=false)
 (n:Nat) (hd:(lv (cc X) (n+24)).ev en (W kS kL σ ns a b) (ch e 0)=some (.ok (.lst (W kS kL σ ns a b).length) (W kS kL σ ns a b++[aa.lst ys]))) (h1: ∀σz,(lv (cc X) (n+22)).ev en σz (ch (ch e 1) 1)=some (.ok (.lst kS) σz)) (h2: ∀σz,(lv (cc X) (n+22)).ev en σz (ch (ch e 1) 2)=some (.ok (.int m) σz)):
 ∃(y:V) (ns':List Int) (a' b':Int),y∈ys∧eG ns' a' b'∧(lv (cc X) (n+25)).ev en (W kS kL σ ns a b) e=some (.ok y (W kS kL (σ++[aa.lst ys]) ns' a' b')):=by
 rw[←io h]at hd;refine dw fun kk=> ?_;refine cC (m_ (e:=ch e 1) (σ:=σ++[aa.lst ys]) h.app ho hm hm' he1 hg hx hc hi hj n (h1 _) (h2 _)) fun y ns' a' b' p1 p2 p3 p4=> ?_<;>(refine kk ?_;clear kk)
 refine oE (Int.eq_ofNat_of_zero_le p1) fun i zz1=> ?_;subst zz1
 have hiL:i<ys.length:=by exact leq ‹_› ‹_›
 refine⟨ys[i],ns',a',b',Hd hiL,p3,cZ he hns hd p4 (pq ?_ (G3 hiL) (by omega))⟩
 rw[lg,Cu (by have:=h.s;exact Ie (by assumption)) (by have:=h.l;exact Ie (by assumption))]
 simp
theorem qy{Q:V→Prop}{P:List (Str×V)→Prop}{x:IV}{as:List α}{f:α→V}(h:Kk kS kL σ)(ho:eG ns a b)(he:e= .Call (.Name ("tuple":Str) (ps (ch e 0))) [ch e 1] [] (ps e))(hg:cK [ch e 1]=none)(hx:aR (cc X) en "tuple"=some (.val (.type "tuple")))(hc:al [ch e 1]=true)(hi:aX (ch e 1)=false)
 (he1:iN (ch e 1)) (hi1:ec (ch e 1)=[]) (hf:hY en (ch e 1)=true) (n:Nat) (hit:(lv (cc X) n).iv en (W kS kL σ ns a b) (ch (ch e 1) 2)=some (.ok x (W kS kL σ ns a b))) (ht:aC (W kS kL σ ns a b) x=some t) (tl:aE (fun u_=>True) t (as.map f)) (hl:as.length≤900)
 (step: ∀i (hi:i<as.length) own' KD ns a b,P own'→Kk kS kL KD→eG ns a b→ ∃own'' y ns' a' b' ext',P own''∧Q y∧eG ns' a' b'∧du 8 (ch (ch e 1) 1) ⟨am (dK (ch e 1)).names en,own',en.fre,none⟩ (W kS kL KD ns a b) (f as[i])=some (⟨am (dK (ch e 1)).names en,own'',en.fre,none⟩,W kS kL KD ns a b)∧
  (lv (cc X) n).ev ⟨am (dK (ch e 1)).names en,own'',en.fre,none⟩ (W kS kL KD ns a b) (ch (ch e 1) 0)=some (.ok y (W kS kL (KD++ext') ns' a' b')))
 (hp:P (dX (dK (ch e 1)).names en).own):
 ∃(ys:List V) (ext:Sg) (ns':List Int) (a' b':Int),ys.length=as.length∧(∀y∈ys,Q y)∧eG ns' a' b'∧(lv (cc X) (n+3)).ev en (W kS kL σ ns a b) e=some (.ok (.tup ys) (W kS kL (σ++ext) ns' a' b')):=by
 have hsl:=h.s;have hll:=h.l;have R:=zH (S:=fun u_=>True) (P:=fun en'=> ∃own',en'=⟨am (dK (ch e 1)).names en,own',en.fre,none⟩∧P own')
  (J:=fun i acc KD=> ∃(ext:Sg) (ns:List Int) (a b:Int),acc.length=i∧(∀y∈acc,Q y)∧eG ns a b∧KD=W kS kL (σ++[aa.lst acc]++ext) ns a b) he1 hi1 hf hit ht tl (fun u_ u_ u_ u_=>trivial) (fA ‹_› (by exact ac)) ?_ ⟨[],ns,a,b,rfl,by simp,ho,by rw[G4,io h]⟩ ⟨_,rfl,hp⟩
 ·obtain⟨ys,KD,⟨ext,ns',a',b',q1,q2,q3,rfl⟩,hr⟩:=R
  have e2:(W kS kL (σ++[aa.lst ys]++ext) ns' a' b')[(W kS kL σ ns a b).length]? =some (aa.lst ys):=by
   rw[lg,Cu (by exact Ie (by assumption)) (by exact Ie (by assumption))];simp
  refine⟨ys,[aa.lst ys]++ext,ns',a',b',q1,q2,q3,?_⟩;rw[←G0]
  exact bL (fv:= .type "tuple") (v:= .v (.lst (W kS kL σ ns a b).length)) he hg hx (by rw[hc];exact ac) (bz hi hr) (jx e2 (dI ‹_› ‹_› (by exact ac)))
 ·rintro i hi _ acc _ ⟨ext,eK,a1,b1,q1,q2,q3,rfl⟩ ⟨own',rfl,hp'⟩;refine dw fun kk=> ?_;obtain⟨own'',y,ns2,a2,b2,ext',p1,p2,p3,p4,p5⟩:=step i hi own' (σ++[aa.lst acc]++ext) eK a1 b1 hp' h.app.app q3<;>(refine kk ?_;clear kk)
  refine⟨_,y,_,_,⟨own'',rfl,p1⟩,p4,p5,?_,ext++ext',ns2,a2,b2,by rw[G6,q1];rfl,?_,p3,rfl⟩
  ·rw[G0,io (h.app),io h,io (h.app),io h,lg,←lg (ns:=ns2) (a:=a2) (b:=b2)]
   exact yp (l8 ‹_› ‹_› ‹_› (by exact ac))
  ·intro z hz;refine dw fun kk=> ?_
   rcases GP.mp hz with hz|hz<;>(refine kk ?_;clear kk)
   ·exact q2 z hz
   ·rw[GR.mp hz];exact p2
noncomputable abbrev mU(kS:Nat)(ss:List Int)(kd:Int):List (Str×V):=[("many",.int (ss.length:Nat)),("kind",.int kd),("shape",vI ss),("state",.lst kS)]
variable {kd:Int}
theorem la0(hl:ss.length≤900)(n:Nat):aT (cc X) (lv (cc X) (n+20)) (ah X 1068 [("kind",.int kd),("shape",vI ss),("state",.lst kS)]) σ (St X 1068 0)=some (.ok .next (ah X 1068 (mU kS ss kd)) σ):=by
 have e2:((ss.map V.int).length:Int)=ss.length:=by rw[GO]
 have:=kz (X:=X) (a:=1068) (own:=[("kind",.int kd),("shape",vI ss),("state",.lst kS)]) (σ:=σ) (e:=sx (St X 1068 0) 0) (n:=n+18) rfl rfl rfl ac aA (aW rfl ac rfl) (by rw[GO];exact bg ‹_› (by exact ac))
 rw[e2]at this;exact cm rfl ac ac this
noncomputable def A0(i:Nat):Int:=match i with|1=>4|3=>0|5=>1|6=>2|_=>3
theorem zR(i:Nat)(hi:i∈[1,3,5,6,7])(hk:own.lookup ("kind":Str)=some (.int kd))(n:Nat):(lv (cc X) (n+20)).tr (ah X 1068 own) σ (sx (St X 1068 i) 0)=some (.ok (kd==A0 i) σ):=by
 revert i;refine aj ?_ (aj ?_ (aj ?_ (aj ?_ (aj ?_ bZ))))
 ·exact bx rfl aA (aW rfl ac hk) rfl rfl
 ·exact bx rfl aA (aW rfl ac hk) rfl rfl
 ·exact bx rfl aA (aW rfl ac hk) rfl rfl
 ·exact bx rfl aA (aW rfl ac hk) rfl rfl
 ·exact bx rfl aA (aW rfl ac hk) rfl rfl
noncomputable abbrev a4(X:Xp):=sx (si (ak (St X 1068 1)) 0) 0
noncomputable abbrev o_(kS:Nat)(own:List (Str×V)):Prop:=own.lookup ("state":Str)=some (.lst kS)
theorem ev4(h:Kk kS kL σ)(ho:eG ns a b)(hl:ss.length≤900)(n:Nat): ∃(ys:List V) (ext:Sg) (ns':List Int) (a' b':Int),ys.length=ss.length∧(∀y∈ys,∃m:Int,y= .int m∧m.natAbs≤3)∧eG ns' a' b'∧(lv (cc X) (n+28)).ev (ah X 1068 (mU kS ss kd)) (W kS kL σ ns a b) (a4 X)=some (.ok (.tup ys) (W kS kL (σ++ext) ns' a' b')):=by
 refine qy (X:=X) (n:=n+25) (as:=ss) (f:=V.int) (P:=o_ kS) (x:= .v (vI ss)) (t:= .seq (ss.map V.int) 0) h ho rfl rfl rfl ⋯ ⋯ ⋯ rfl ⋯ (bz (n:=n+24) aA (aW (x:="shape") ⋯ ac rfl)) rfl (ai _ _) hl ?_ ⋯
 intro i hi own' KD ns a b hp h' ho';refine dw fun kk=> ?_
 refine bN (ol (X:=X) (en:=⟨am (dK (ch (a4 X) 1)).names (ah X 1068 (mU kS ss kd)),("s",.int ss[i])::own',[],none⟩) (e:=ch (ch (a4 X) 1) 0) (m:=5) (ys:=[.int 1,.int (-1),.int 2,.int 0,.int (-3)]) h' ho' (by exact Gx _) (by exact Gx _) rfl ⋯ ⋯ ⋯ rfl ⋯ ⋯ ⋯ ⋯ n ⋯ (fun u_=>bT (x:="state") ⋯ (Gu ⋯ hp)) (fun u_=>by kernel_rfl)) fun y ns2 a2 b2 p1 p2 p3=> ?_<;>(refine kk ?_;clear kk)
 refine⟨("s",.int ss[i])::own',y,ns2,a2,b2,_,hp,?_,p2,by kernel_rfl,p3⟩
 suffices q: ∀y∈(_:List V),∃m:Int,y=V.int m∧m.natAbs≤3 from q y p1
 refine aj ?_ (aj ?_ (aj ?_ (aj ?_ (aj ?_ bZ))))<;>exact⟨_,rfl,by decide⟩
end
section
variable {X:Xp}{own:List (Str×V)}{kS kL:Nat}{ns:List Int}{a b m:Int}{kd:Int}
noncomputable abbrev a2(X:Xp):=sx (St X 1068 2) 0
theorem la2(h:Kk kS kL σ)(ho:eG ns a b)(n:Nat)(h1:1≤ss.length)(h3:ss.length≤3): ∃(l:Nat) (c:aa) (ns':List Int) (a' b':Int),l≤4∧ss.length-1≤l∧l≤ss.length+1∧eG ns' a' b'∧aT (cc X) (lv (cc X) (n+25)) (ah X 1068 (mU kS ss kd)) (W kS kL σ ns a b) (St X 1068 2)=some (.ok .next (ah X 1068 (("length",.int (l:Nat))::mU kS ss kd)) (W kS kL (σ++[c]) ns' a' b')):=by
 refine bN (ol (X:=X) (en:=ah X 1068 (mU kS ss kd)) (e:=a2 X) (m:=6) (ys:=[.int (ss.length:Nat),.int (ss.length:Nat),.int (ss.length:Nat),.int (ss.length:Nat),.int ((ss.length:Nat)+1),.int ((ss.length:Nat)-1)]) h ho (by exact Gx _) (by exact Gx _) rfl rfl ac ⋯ rfl rfl ⋯ aA aA n rfl (fun u_=>rfl) (fun u_=>rfl)) fun y ns2 a2' b2 p1 p2 p3=> ?_
 have hy: ∃l:Nat,y= .int (l:Nat)∧l≤4∧ss.length-1≤l∧l≤ss.length+1:=by
  suffices q: ∀y∈(_:List V),∃l:Nat,y=V.int l∧l≤4∧ss.length-1≤l∧l≤ss.length+1 from q y p1
  refine aj ?_ (aj ?_ (aj ?_ (aj ?_ (aj ?_ (aj ?_ bZ)))))
  ·exact⟨_,rfl,by exact Ia (by assumption),by simp+arith,by exact H4 _ _⟩
  ·exact⟨_,rfl,by exact Ia (by assumption),by simp+arith,by exact H4 _ _⟩
  ·exact⟨_,rfl,by exact Ia (by assumption),by simp+arith,by exact H4 _ _⟩
  ·exact⟨_,rfl,by exact bg ‹_› (by exact ac),by exact Nat.sub_le _ _,by exact H4 _ _⟩
  ·exact⟨ss.length+1,by congr 1,by exact D4 ‹_› (by exact ac),by omega,by exact HY _⟩
  ·exact⟨ss.length-1,by congr 1;exact DQ ‹_›,by exact Fi ‹_› (by exact ac),by exact HY _,by omega⟩
 refine nB hy fun l zz1 q1 q2 q3=> ?_;subst zz1;exact⟨l,_,ns2,a2',b2,q1,q2,q3,p2,cm rfl ac ac p3⟩
noncomputable abbrev mY(kS:Nat)(ss:List Int)(kd:Int)(l:Nat):List (Str×V):=("length",.int (l:Nat))::mU kS ss kd
theorem je{l:Nat}(h:l≤4):aC σ (.v (.rng 0 (l:Int) 1))=some (.rng 0 (l:Int) 1):=
 qF (P:=fun(l:Nat)=>aC σ (.v (.rng 0 (l:Int) 1))=some (.rng 0 (l:Int) 1)) rfl rfl rfl rfl rfl l (ID h)
theorem Bl(he:e= .Tuple [ch e 0,ch e 1] (tk (e)) (ps e))(h0:al [ch e 0]=true)(h1:al [ch e 1]=true)(hx:(lv c n).ev en σ (ch e 0)=some (.ok x KE))(hy:(lv c n).ev en KE (ch e 1)=some (.ok y KI)):(lv c (n+1)).ev en σ e=some (.ok (.tup [x,y]) KI):=
 (congrArg ((lv c (n+1)).ev en σ) he).trans (gK (bA h0 hx (bA h1 hy gO)) (show 2≤2^20 by decide))
noncomputable abbrev xV:List V:=[.int 0,.int 1,.int 2,.int 0,.int (-1)]
noncomputable abbrev BO:List V:=[.int 0,.int 1,.int 0,.int 0,.int (-1)]
noncomputable abbrev yP:List V:=[.int 0,.int 0,.int 1,.int (-1)]
noncomputable abbrev Ca:List V:=[.int 0,.int 0,.int (-1),.int 1]
noncomputable abbrev a0(X:Xp):=sx (si (ak (St X 1068 3)) 0) 0
theorem ev0(h:Kk kS kL σ)(ho:eG ns a b){l:Nat}(hl:l≤4)(n:Nat): ∃(ys:List V) (ext:Sg) (ns':List Int) (a' b':Int),ys.length=l∧(∀y∈ys,∃p:Int×Int,y=pP p∧p.1.natAbs≤100∧p.2.natAbs≤100)∧eG ns' a' b'∧(lv (cc X) (n+29)).ev (ah X 1068 (mY kS ss kd l)) (W kS kL σ ns a b) (a0 X)=some (.ok (.tup ys) (W kS kL (σ++ext) ns' a' b')):=by
 have key:=qy (X:=X) (n:=n+26) (e:=a0 X) (en:=ah X 1068 (mY kS ss kd l)) (Q:=fun y=> ∃p:Int×Int,y=pP p∧p.1.natAbs≤100∧p.2.natAbs≤100) (as:=GV (l:Int).toNat) (f:=fun(i:Nat)=>V.int (0+(i:Int))) (P:=o_ kS) (x:= .v (.rng 0 (l:Int) 1)) (t:= .rng 0 (l:Int) 1) h ho rfl rfl rfl ac aA ⋯ rfl ⋯
  (xR (n:=n+25) ac (bL (x:="range") (fv:= .type "range") (v:= .v (.int (l:Nat))) (KE:=W kS kL σ ns a b) ⋯ ⋯ rfl ⋯ (bz ⋯ (aW (x:="length") ⋯ ac rfl)) rfl)) (je hl) (gW 0 l) (by rw[Hh];omega) ?_ ⋯
 ·rw[Hh,GA]at key;exact key
 intro i hi own' KD ns a b hp h' ho'
 refine bN (ol (X:=X) (en:=⟨am (dK (ch (a0 X) 1)).names (ah X 1068 (mY kS ss kd l)),("k",.int (0+((GV (l:Int).toNat)[i]:Int)))::own',[],none⟩) (e:=ch (ch (ch (a0 X) 1) 0) 0) (m:=5) (ys:=xV) h' ho' (by exact Gx _) (by exact Gx _) rfl ⋯ ⋯ ⋯ rfl ⋯ ⋯ ⋯ ⋯ n ⋯ (fun u_=>bT (x:="state") ⋯ (Gu ⋯ hp)) (fun u_=>by kernel_rfl)) fun y ns2 a2 b2 p1 p2 p3=> ?_
 refine bN (ol (X:=X) (en:=⟨am (dK (ch (a0 X) 1)).names (ah X 1068 (mY kS ss kd l)),("k",.int (0+((GV (l:Int).toNat)[i]:Int)))::own',[],none⟩) (e:=ch (ch (ch (a0 X) 1) 0) 1) (m:=5) (σ:=KD++[aa.lst xV]) (ys:=BO) h'.app p2 (by exact Gx _) (by exact Gx _) rfl ⋯ ⋯ ⋯ rfl ⋯ ⋯ ⋯ ⋯ n ⋯ (fun u_=>bT (x:="state") ⋯ (Gu ⋯ hp)) (fun u_=>by kernel_rfl)) fun z ns3 a3 b3 r1 r2 r3=> ?_
 refine aL ((show∀y∈xV,∃i:Int,y= .int i∧i.natAbs≤100 by refine aj ?_ (aj ?_ (aj ?_ (aj ?_ (aj ?_ bZ))))<;>exact⟨_,rfl,by decide⟩) y p1) fun i1 zz1 j1=> ?_;subst zz1
 refine aL ((show∀y∈BO,∃i:Int,y= .int i∧i.natAbs≤100 by refine aj ?_ (aj ?_ (aj ?_ (aj ?_ (aj ?_ bZ))))<;>exact⟨_,rfl,by decide⟩) z r1) fun i2 zz1 j2=> ?_;subst zz1
 refine⟨("k",.int (0+((GV (l:Int).toNat)[i]:Int)))::own',.tup [.int i1,.int i2],ns3,a3,b3,[aa.lst xV]++[aa.lst BO],hp,⟨(i1,i2),rfl,j1,j2⟩,r2,by kernel_rfl,?_⟩
 rw[←G0]
 exact Bl ⋯ ⋯ ⋯ p3 r3
theorem FL{P:List Int→Prop}(h1: ∀x,P [x])(h2: ∀x y,P [x,y])(h3: ∀x y z,P [x,y,z])(ss:List Int)(a:1≤ss.length)(b:ss.length≤3):P ss:=by
 cases ss with
 |nil=>exact absurd a (by exact Ic _)
 |cons x l=>
  cases l with
  |nil=>exact h1 x
  |cons y l=>
   cases l with
   |nil=>exact h2 x y
   |cons z l=>
    cases l with
    |nil=>exact h3 x y z
    |cons=>exact absurd b (by simp)
theorem E3{P:Nat→Prop}(h0:P 0)(h1:P 1)(h2:P 2)(h3:P 3)(h4:P 4)(l:Nat)(h:l≤4):P l:=by
 rcases lt5 (ID h)with rfl|rfl|rfl|rfl|rfl<;>assumption
theorem wR{l:Nat}(h1:1≤ss.length)(h3:ss.length≤3)(hl:l≤4): ∃xs:List Int,xs.length≤4∧(∀x∈xs,x∈ss∨x=2)∧cz σ (.tup (ss.map V.int++[.int 2])) none (some (l:Int)) none=some (vI xs,σ):=by
 refine⟨(ss++[2]).take l,by rw[HH];exact wq ‹_› (by exact ac),fun x hx=>by simpa using Hy hx,?_⟩
 refine FL (P:=fun ss=>cz σ (.tup (ss.map V.int++[.int 2])) none (some (l:Int)) none=some (vI ((ss++[2]).take l),σ)) (fun x=> ?_) (fun x y=> ?_) (fun x y z=> ?_) ss h1 h3
 ·exact E3 (P:=fun l=>cz σ (.tup ([x].map V.int++[.int 2])) none (some (l:Int)) none=some (vI (([x]++[2]).take l),σ)) rfl rfl rfl ⋯ ⋯ l hl
 ·exact E3 (P:=fun l=>cz σ (.tup ([x,y].map V.int++[.int 2])) none (some (l:Int)) none=some (vI (([x,y]++[2]).take l),σ)) rfl rfl rfl rfl ⋯ l hl
 ·exact E3 (P:=fun l=>cz σ (.tup ([x,y,z].map V.int++[.int 2])) none (some (l:Int)) none=some (vI (([x,y,z]++[2]).take l),σ)) rfl rfl rfl rfl rfl l hl
theorem la4{l:Nat}(h1:1≤ss.length)(h3:ss.length≤3)(hl:l≤4)(n:Nat): ∃xs:List Int,xs.length≤4∧(∀x∈xs,x∈ss∨x=2)∧aT (cc X) (lv (cc X) (n+20)) (ah X 1068 (mY kS ss kd l)) σ (St X 1068 4)=some (.ok .next (ah X 1068 (("sides",vI xs)::mY kS ss kd l)) σ):=by
 obtain⟨xs,q1,q2,q3⟩:=wR (σ:=σ) (ss:=ss) h1 h3 hl;refine⟨xs,q1,q2,cm rfl ac ac (Cz (v:= .tup (ss.map V.int++[.int 2])) (lo:=none) (hi:=some (ch (ch (sx (St X 1068 4) 0) 1) 1)) (st:=none) (sp:=ps (ch (sx (St X 1068 4) 0) 1)) (u:= .int (l:Nat)) (t:= .none) (l':=none) (u':=some (l:Int)) (t':=none) rfl ?_ rfl rfl rfl rfl rfl rfl q3)⟩;refine cL rfl rfl rfl ?_
 exact xj (by rw[GO];show _+1≤_;exact D4 ‹_› (by exact ac))
noncomputable abbrev eF(kS:Nat)(ss xs:List Int)(kd:Int)(l:Nat):List (Str×V):=("sides",vI xs)::mY kS ss kd l
noncomputable abbrev a1(X:Xp):=sx (si (ak (St X 1068 5)) 0) 0
theorem ev1{xs:List Int}(h:Kk kS kL σ)(ho:eG ns a b){l:Nat}(hl:xs.length≤4)(hx: ∀x∈xs,x.natAbs≤100)(n:Nat): ∃(ys:List V) (ext:Sg) (ns':List Int) (a' b':Int),ys.length=xs.length∧(∀y∈ys,∃p:Int×Int,y=pP p∧p.1.natAbs≤200∧p.2.natAbs≤200)∧eG ns' a' b'∧(lv (cc X) (n+30)).ev (ah X 1068 (eF kS ss xs kd l)) (W kS kL σ ns a b) (a1 X)=some (.ok (.tup ys) (W kS kL (σ++ext) ns' a' b')):=by
 refine qy (X:=X) (n:=n+27) (e:=a1 X) (en:=ah X 1068 (eF kS ss xs kd l)) (as:=xs) (f:=V.int) (P:=o_ kS) (x:= .v (vI xs)) (t:= .seq (xs.map V.int) 0) h ho rfl rfl rfl ac aA ⋯ rfl ⋯
  (bz ⋯ (aW (x:="sides") ⋯ ac rfl)) rfl (ai _ _) (bg ‹_› (by exact ac)) ?_ ⋯
 intro i hi own' KD ns a b hp h' ho';have hb:=hx _ (Hd hi)
 refine bN (ol (X:=X) (en:=⟨am (dK (ch (a1 X) 1)).names (ah X 1068 (eF kS ss xs kd l)),("s",.int xs[i])::own',[],none⟩) (e:=ch (ch (ch (a1 X) 1) 0) 0) (m:=4) (ys:=yP) h' ho' (by exact Gx _) (by exact Gx _) rfl ⋯ ⋯ ⋯ rfl ⋯ ⋯ ⋯ ⋯ (n+1) ⋯ (fun u_=>bT (x:="state") ⋯ (Gu ⋯ hp)) (fun u_=>by kernel_rfl)) fun y ns2 a2 b2 p1 p2 p3=> ?_
 refine bN (ol (X:=X) (en:=⟨am (dK (ch (a1 X) 1)).names (ah X 1068 (eF kS ss xs kd l)),("s",.int xs[i])::own',[],none⟩) (e:=ch (ch (ch (ch (a1 X) 1) 0) 1) 1) (m:=4) (σ:=KD++[aa.lst yP]) (ys:=Ca) h'.app p2 (by exact Gx _) (by exact Gx _) rfl ⋯ ⋯ ⋯ rfl ⋯ ⋯ ⋯ ⋯ n ⋯ (fun u_=>bT (x:="state") ⋯ (Gu ⋯ hp)) (fun u_=>by kernel_rfl)) fun z ns3 a3 b3 r1 r2 r3=> ?_
 refine aL ((show∀y∈yP,∃i:Int,y= .int i∧i.natAbs≤100 by refine aj ?_ (aj ?_ (aj ?_ (aj ?_ bZ)))<;>exact⟨_,rfl,by decide⟩) y p1) fun i1 zz1 j1=> ?_;subst zz1
 refine aL ((show∀y∈Ca,∃i:Int,y= .int i∧i.natAbs≤100 by refine aj ?_ (aj ?_ (aj ?_ (aj ?_ bZ)))<;>exact⟨_,rfl,by decide⟩) z r1) fun i2 zz1 j2=> ?_;subst zz1
 refine⟨("s",.int xs[i])::own',.tup [.int i1,.int (xs[i]+i2)],ns3,a3,b3,[aa.lst yP]++[aa.lst Ca],hp,⟨(i1,xs[i]+i2),rfl,by exact bg ‹_› (by exact ac),by show(xs[i]+i2).natAbs≤200;exact zw ‹_› ‹_› (by exact ac)⟩,r2,by kernel_rfl,?_⟩
 rw[←G0]
 exact Bl ⋯ ⋯ ⋯ p3 (cL (op:= .Add) (x:= .int xs[i]) ⋯ ⋯ r3 rfl)
noncomputable abbrev EY(X:Xp):=sx (si (ak (St X 1068 6)) 0) 0
theorem ev2{xs:List Int}(h:Kk kS kL σ)(ho:eG ns a b){l:Nat}(hl:xs.length≤4)(hx: ∀x∈xs,x.natAbs≤100)(n:Nat): ∃(ys:List V) (ext:Sg) (ns':List Int) (a' b':Int),ys.length=xs.length∧(∀y∈ys,∃m:Int,y= .int m∧m.natAbs≤100)∧eG ns' a' b'∧(lv (cc X) (n+28)).ev (ah X 1068 (eF kS ss xs kd l)) (W kS kL σ ns a b) (EY X)=some (.ok (.tup ys) (W kS kL (σ++ext) ns' a' b')):=by
 refine qy (X:=X) (n:=n+25) (e:=EY X) (en:=ah X 1068 (eF kS ss xs kd l)) (as:=xs) (f:=V.int) (P:=o_ kS) (x:= .v (vI xs)) (t:= .seq (xs.map V.int) 0) h ho rfl rfl rfl ac aA ⋯ rfl ⋯
  (bz ⋯ (aW (x:="sides") ⋯ ac rfl)) rfl (ai _ _) (bg ‹_› (by exact ac)) ?_ ⋯
 intro i hi own' KD ns a b hp h' ho';have hb:=hx _ (Hd hi)
 refine bN (ol (X:=X) (en:=⟨am (dK (ch (EY X) 1)).names (ah X 1068 (eF kS ss xs kd l)),("s",.int xs[i])::own',[],none⟩) (e:=ch (ch (EY X) 1) 0) (m:=6) (ys:=[.int xs[i],.int xs[i],.int 3,.int 2,.int 0,.int (-1)]) h' ho' (by exact Gx _) (by exact Gx _) rfl ⋯ ⋯ ⋯ rfl ⋯ ⋯ ⋯ ⋯ n ⋯ (fun u_=>bT (x:="state") ⋯ (Gu ⋯ hp)) (fun u_=>by kernel_rfl)) fun y ns2 a2 b2 p1 p2 p3=> ?_
 refine⟨("s",.int xs[i])::own',y,ns2,a2,b2,_,hp,?_,p2,by kernel_rfl,p3⟩
 suffices q: ∀y∈(_:List V),∃m:Int,y=V.int m∧m.natAbs≤100 from q y p1
 refine aj ?_ (aj ?_ (aj ?_ (aj ?_ (aj ?_ (aj ?_ bZ)))))
 ·exact⟨_,rfl,hb⟩
 ·exact⟨_,rfl,hb⟩
 ·exact⟨_,rfl,by decide⟩
 ·exact⟨_,rfl,by decide⟩
 ·exact⟨_,rfl,by exact H' _⟩
 ·exact⟨_,rfl,by decide⟩
noncomputable abbrev a3(X:Xp):=sx (si (ak (St X 1068 7)) 0) 0
theorem ev3{xs:List Int}(h:Kk kS kL σ)(ho:eG ns a b){l:Nat}(hl:l≤4)(hn:ss.length≤3)(n:Nat): ∃(ys:List V) (ext:Sg) (ns':List Int) (a' b':Int),ys.length=l∧(∀y∈ys,∃m:Int,y= .int m∧m.natAbs≤100)∧eG ns' a' b'∧(lv (cc X) (n+33)).ev (ah X 1068 (eF kS ss xs kd l)) (W kS kL σ ns a b) (a3 X)=some (.ok (.tup ys) (W kS kL (σ++ext) ns' a' b')):=by
 have key:=qy (X:=X) (n:=n+30) (e:=a3 X) (en:=ah X 1068 (eF kS ss xs kd l)) (Q:=fun y=> ∃m:Int,y= .int m∧m.natAbs≤100) (as:=GV (l:Int).toNat) (f:=fun(i:Nat)=>V.int (0+(i:Int))) (P:=fun own=>o_ kS own∧own.lookup ("many":Str)=some (.int (ss.length:Nat))) (x:= .v (.rng 0 (l:Int) 1)) (t:= .rng 0 (l:Int) 1) h ho rfl rfl rfl ac aA ⋯ rfl ⋯
  (xR (n:=n+29) ⋯ (bL (n:=n+28) (x:="range") (fv:= .type "range") (v:= .v (.int (l:Nat))) (KE:=W kS kL σ ns a b) ⋯ ⋯ rfl ⋯ (bz ⋯ (aW (x:="length") ⋯ ac rfl)) rfl)) (je hl) (gW 0 l) (by rw[Hh];omega) ?_ ⟨by kernel_rfl,by kernel_rfl⟩
 ·rw[Hh,GA]at key;exact key
 rintro i hi own' KD ns a b ⟨hp,hq⟩ h' ho';refine dw fun kk=> ?_
 refine cC (m_ (X:=X) (en:=⟨am (dK (ch (a3 X) 1)).names (ah X 1068 (eF kS ss xs kd l)),("k",.int (0+((GV (l:Int).toNat)[i]:Int)))::own',[],none⟩) (e:=ch (ch (ch (ch (ch (a3 X) 1) 0) 0) 1) 0) (σ:=KD) (m:=2) h' ho' (by exact Gx _) (by exact Gx _) ⋯ rfl ⋯ ⋯ ⋯ ⋯ (n+3) (bT (x:="state") ⋯ (Gu ⋯ hp)) ⋯) fun y1 ns2 a2 b2 p0 p1 p2 p3=> ?_<;>(refine kk ?_;clear kk)
 refine dw fun kk=> ?_
 refine cC (m_ (X:=X) (en:=⟨am (dK (ch (a3 X) 1)).names (ah X 1068 (eF kS ss xs kd l)),("k",.int (0+((GV (l:Int).toNat)[i]:Int)))::own',[],none⟩) (e:=ch (ch (ch (ch (ch (a3 X) 1) 0) 0) 1) 1) (σ:=KD) (m:=3) h' p2 (by exact Gx _) (by exact Gx _) ⋯ rfl ⋯ ⋯ ⋯ ⋯ (n+3) (bT (x:="state") ⋯ (Gu ⋯ hp)) ⋯) fun y2 ns3 a3' b3 r0 r1 r2 r3=> ?_<;>(refine kk ?_;clear kk)
 have hL:(0:Int)<(ss.length:Nat)+1:=by simp+arith
 have hf:=GK (0+((GV (l:Int).toNat)[i]:Int)+y1*y2) hL;have hf':=GM (0+((GV (l:Int).toNat)[i]:Int)+y1*y2) hL
 refine⟨("k",.int (0+((GV (l:Int).toNat)[i]:Int)))::own',.int ((0+((GV (l:Int).toNat)[i]:Int)+y1*y2).fmod ((ss.length:Nat)+1)),ns3,a3',b3,[],⟨hp,hq⟩,⟨_,rfl,F5 hf (GD hf' (GF (GC.mpr hn) 1)) (.refl true)⟩,r2,by kernel_rfl,?_⟩
 rw[G4]
 exact cL (op:= .Mod) (KE:=W kS kL KD ns3 a3' b3) (KI:=W kS kL KD ns3 a3' b3) (x:= .int (0+((GV (l:Int).toNat)[i]:Int)+y1*y2)) (y:= .int ((ss.length:Nat)+1)) ⋯
  (cL (op:= .Add) (KE:=W kS kL KD ns a b) (x:= .int (0+((GV (l:Int).toNat)[i]:Int))) (y:= .int (y1*y2)) ⋯ ⋯ (cL (op:= .Mult) (x:= .int y1) (y:= .int y2) ⋯ p3 r3 (gH (be (k:=10) (F5 ‹_› ‹_› (by exact ac)) (by decide)) (be (k:=10) (F5 ‹_› ‹_› (by exact ac)) (by decide)))) rfl)
  (cL (op:= .Add) (KE:=W kS kL KD ns3 a3' b3) (x:= .int (ss.length:Nat)) (y:= .int 1) ⋯ (bT (x:="many") ⋯ (Gu ⋯ hq)) ⋯ rfl) (nM (npn ‹_›) (be (k:=10) (by omega) (by decide)))
theorem qj{f:β→V}{B:β→Prop}:(∀y∈ys,∃p,y=f p∧B p)→ ∃ps:List β,ys=ps.map f∧ps.length=ys.length∧ ∀p∈ps,B p:=by
 induction ys with
 |nil=>exact fun u_=>⟨[],rfl,rfl,fun u_ m=>nomatch m⟩
 |cons y ys ih=>
  intro h;refine aL (h y (.head _)) fun p zz1 hp=> ?_;subst zz1;refine bW (ih fun z hz=>h z (.tail _ hz)) fun ps zz1 h2 h3=> ?_;subst zz1
  exact⟨p::ps,rfl,by exact congrArg _ (by assumption),fun q hq=>by
   rcases GY.mp hq with rfl|hq
   ·exact hp
   ·exact h3 q hq⟩
noncomputable def mf(z:Int):List (List Int):=[[z],[1,z],[2,z.fdiv 2],[z+1],[-1,-z],[z,1,1],[-z],[z,0]]
noncomputable abbrev a9(X:Xp):=sx (St X 1068 9) 0
theorem ev5{xs:List Int}(h:Kk kS kL σ)(ho:eG ns a b){l:Nat}(n:Nat): ∃(zs:List Int) (c:aa) (ns':List Int) (a' b':Int),zs∈mf z∧eG ns' a' b'∧(lv (cc X) (n+25)).ev (ah X 1068 (("size",.int z)::eF kS ss xs kd l)) (W kS kL σ ns a b) (a9 X)=some (.ok (vI zs) (W kS kL (σ++[c]) ns' a' b')):=by
 refine dw fun kk=> ?_
 refine bN (ol (X:=X) (en:=ah X 1068 (("size",.int z)::eF kS ss xs kd l)) (e:=a9 X) (m:=8) (ys:=(mf z).map vI) h ho (by exact Gx _) (by exact Gx _) rfl rfl ac ⋯ rfl rfl ⋯ aA aA n rfl (fun u_=>rfl) (fun u_=>rfl)) fun y ns2 a2' b2 p1 p2 p3=> ?_<;>(refine kk ?_;clear kk)
 refine aL (G2.mp p1) fun zs hz zz2=> ?_;subst zz2;exact⟨zs,_,ns2,a2',b2,hz,p2,p3⟩
theorem ye(i:Nat)(hi:i∈[1,3,5,6,7])(hk:own.lookup ("kind":Str)=some (.int kd))(hne:(kd==A0 i)=false)(n:Nat):aT (cc X) (lv (cc X) (n+20)) (ah X 1068 own) σ (St X 1068 i)=some (.ok .next (ah X 1068 own) σ):=by
 have t:=zR (X:=X) (σ:=σ) i hi hk n;rw[hne]at t;revert i;refine aj ?_ (aj ?_ (aj ?_ (aj ?_ (aj ?_ bZ))))<;>exact fun u_ t=>dy rfl t rfl
theorem wE{so:V}(i:Nat)(hi:i∈[1,3,5,6,7])(hk:own.lookup ("kind":Str)=some (.int kd))(hne:(kd==A0 i)=true)(n:Nat)(h:(lv (cc X) (n+19)).ev (ah X 1068 own) σ (sx (si (ak (St X 1068 i)) 0) 0)=some (.ok so KD)):aT (cc X) (lv (cc X) (n+20)) (ah X 1068 own) σ (St X 1068 i)=some (.ok (.ret so) (ah X 1068 own) KD):=by
 have t:=zR (X:=X) (σ:=σ) i hi hk n;rw[hne]at t
 have hb:ak (St X 1068 i)=[si (ak (St X 1068 i)) 0]∧si (ak (St X 1068 i)) 0= .Return (some (sx (si (ak (St X 1068 i)) 0) 0)) (kq (si (ak (St X 1068 i)) 0))∧St X 1068 i= .If (sx (St X 1068 i) 0) (ak (St X 1068 i)) (cW (St X 1068 i)) (kq (St X 1068 i)):=by
  clear t h hne;revert i;refine aj ?_ (aj ?_ (aj ?_ (aj ?_ (aj ?_ bZ))))<;>exact⟨rfl,rfl,rfl⟩
 refine eQ hb.2.2 t ?_;refine(hb.1).symm▸ ?_;exact aq (dB hb.2.1 h)
noncomputable abbrev DK(kS:Nat)(ss:List Int)(kd:Int):List (Str×V):=[("kind",.int kd),("shape",vI ss),("state",.lst kS)]
theorem hG(n:Nat)(h:(lv (cc X) (n+59)).exs (ah X 1068 (DK kS ss kd)) σ [St X 1068 0,St X 1068 1,St X 1068 2,St X 1068 3,St X 1068 4,St X 1068 5,St X 1068 6,St X 1068 7,St X 1068 8,St X 1068 9]=some so)(ho:il so=some o):(lv (cc X) (n+60)).cf σ 1068 [.lst kS,vI ss,.int kd] []=some o:=
 bp (a:=1068) (binds:=[("state",.lst kS),("shape",vI ss),("kind",.int kd)]) ⋯ ⋯ ac ((congrArg ((lv (cc X) (n+59)).exs (ah X 1068 (DK kS ss kd)) σ) (show aD X 1068=_ from rfl)).trans h) ho
noncomputable def Ah(kd:Int)(ss:List Int)(v:V):Prop:=
 (kd=4∧ ∃mu,v=vI mu∧mu.length=ss.length∧ ∀m∈mu,m.natAbs≤3)∨(kd=0∧ ∃as,v=vP as∧as.length≤4∧PB 100 as)∨(kd=1∧ ∃as,v=vP as∧as.length≤4∧PB 200 as)∨
 (kd=2∧ ∃xs,v=vI xs∧xs.length≤4∧IB 100 xs)∨(kd=3∧ ∃xs,v=vI xs∧xs.length≤4)
theorem kd3{d:Int}(h:0≤d)(h':d≤4)(a: ¬d=0)(b: ¬d=1)(c: ¬d=2)(e: ¬d=4):d=3:=
 have st: ∀{m:Int},m≤d→ ¬d=m→m+1≤d:=fun h q=>Int.add_one_le_of_lt (GI.mpr ⟨h,Ne.symm q⟩)
 Int.le_antisymm (GH (GI.mpr ⟨h',e⟩)) (st (st (st h a) b) c)
theorem Fr(h:Kk kS kL σ)(ho:eG ns a b)(h1:1≤ss.length)(h3:ss.length≤3)(hs: ∀s∈ss,1≤s∧s≤99)(hk:0≤kd∧kd≤4)(n:Nat): ∃(v:V) (ext:Sg) (ns':List Int) (a' b':Int),Ah kd ss v∧eG ns' a' b'∧(lv (cc X) (n+60)).cf (W kS kL σ ns a b) 1068 [.lst kS,vI ss,.int kd] []=some (.ok v (W kS kL (σ++ext) ns' a' b')):=by
 have s0:=la0 (X:=X) (σ:=W kS kL σ ns a b) (kS:=kS) (ss:=ss) (kd:=kd) (bg ‹_› (by exact ac)) (n+38)
 by_cases k4:kd=4
 ·subst k4
  refine fB (ev4 (X:=X) (kd:=4) (ss:=ss) h ho (bg ‹_› (by exact ac)) (n+29)) fun ys ext ns' a' b' q1 q2 q3 q4=> ?_
  refine bW (qj q2) fun mu zz1 r1 r2=> ?_;subst zz1
  exact⟨_,ext,ns',a',b',.inl ⟨rfl,mu,rfl,by exact Gu ‹_› ‹_›,r2⟩,q3,hG n (ab s0 (bj (wE (own:=mU kS ss 4) 1 (by exact .head _) rfl rfl (n+38) q4))) rfl⟩
 have s1:=ye (X:=X) (σ:=W kS kL σ ns a b) (own:=mU kS ss kd) (kd:=kd) 1 (by exact .head _) rfl (beq_eq_false_iff_ne.mpr k4) (n+38)
 refine md (la2 (X:=X) (kd:=kd) (ss:=ss) h ho (n+33) h1 h3) fun l c eK a1 b1 l1 l2 l3 ho1 s2=> ?_;have hA:=h.app (ext:=[c])
 by_cases k0:kd=0
 ·subst k0;refine fB (ev0 (X:=X) (kd:=0) (ss:=ss) hA ho1 l1 (n+28)) fun ys ext ns' a' b' q1 q2 q3 q4=> ?_;refine bW (qj q2) fun as zz1 r1 r2=> ?_;subst zz1;rw[G0]at q4
  exact⟨_,_,ns',a',b',.inr (.inl ⟨rfl,as,rfl,by omega,r2⟩),q3,hG n (ab s0 (ab s1 (ab s2 (bj (wE (own:=mY kS ss 0 l) 3 (by exact .tail _ (.head _)) rfl rfl (n+38) q4))))) rfl⟩
 have s3:=ye (X:=X) (σ:=W kS kL (σ++[c]) eK a1 b1) (own:=mY kS ss kd l) (kd:=kd) 3 (by exact .tail _ (.head _)) rfl (beq_eq_false_iff_ne.mpr k0) (n+38)
 refine bW (la4 (X:=X) (σ:=W kS kL (σ++[c]) eK a1 b1) (kS:=kS) (ss:=ss) (kd:=kd) h1 h3 l1 (n+38)) fun xs x1 x2 s4=> ?_
 have xb: ∀x∈xs,x.natAbs≤100:=fun x hx=>by
  rcases x2 x hx with q|q
  ·have:=hs x q;exact qA ‹_› (by exact ac)
  ·exact nec ‹_› (by exact ac)
 by_cases k1:kd=1
 ·subst k1;refine fB (ev1 (X:=X) (kd:=1) (ss:=ss) (l:=l) hA ho1 x1 xb (n+27)) fun ys ext ns' a' b' q1 q2 q3 q4=> ?_;refine bW (qj q2) fun as zz1 r1 r2=> ?_;subst zz1;rw[G0]at q4
  exact⟨_,_,ns',a',b',.inr (.inr (.inl ⟨rfl,as,rfl,by exact zZ ‹_› ‹_› ‹_› (by exact ac),r2⟩)),q3,hG n (ab s0 (ab s1 (ab s2 (ab s3 (ab s4 (bj (wE (own:=eF kS ss xs 1 l) 5 (by decide) rfl rfl (n+38) q4))))))) rfl⟩
 have s5:=ye (X:=X) (σ:=W kS kL (σ++[c]) eK a1 b1) (own:=eF kS ss xs kd l) (kd:=kd) 5 (by decide) rfl (beq_eq_false_iff_ne.mpr k1) (n+38)
 by_cases k2:kd=2
 ·subst k2;refine fB (ev2 (X:=X) (kd:=2) (ss:=ss) (l:=l) hA ho1 x1 xb (n+29)) fun ys ext ns' a' b' q1 q2 q3 q4=> ?_;refine bW (qj q2) fun zs zz1 r1 r2=> ?_;subst zz1;rw[G0]at q4
  exact⟨_,_,ns',a',b',.inr (.inr (.inr (.inl ⟨rfl,zs,rfl,by exact zZ ‹_› ‹_› ‹_› (by exact ac),r2⟩))),q3,hG n (ab s0 (ab s1 (ab s2 (ab s3 (ab s4 (ab s5 (bj (wE (own:=eF kS ss xs 2 l) 6 (by decide) rfl rfl (n+38) q4)))))))) rfl⟩
 have s6:=ye (X:=X) (σ:=W kS kL (σ++[c]) eK a1 b1) (own:=eF kS ss xs kd l) (kd:=kd) 6 (by decide) rfl (beq_eq_false_iff_ne.mpr k2) (n+38)
 have k3:kd=3:=kd3 hk.1 hk.2 k0 k1 k2 k4;subst k3;refine fB (ev3 (X:=X) (kd:=3) (ss:=ss) (xs:=xs) hA ho1 l1 h3 (n+24)) fun ys ext ns' a' b' q1 q2 q3 q4=> ?_;refine bW (qj q2) fun zs zz1 r1 r2=> ?_;subst zz1;rw[G0]at q4
 exact⟨_,_,ns',a',b',.inr (.inr (.inr (.inr ⟨rfl,zs,rfl,by omega⟩))),q3,hG n (ab s0 (ab s1 (ab s2 (ab s3 (ab s4 (ab s5 (ab s6 (bj (wE (own:=eF kS ss xs 3 l) 7 (by decide) rfl rfl (n+38) q4))))))))) rfl⟩
theorem C5(h:Kk kS kL σ)(ho:eG ns a b)(h1:1≤ss.length)(h3:ss.length≤3)(hs: ∀s∈ss,1≤s∧s≤99)(n:Nat): ∃(zs:List Int) (c c':aa) (ns':List Int) (a' b':Int),zs∈mf (aS 1 ss)∧eG ns' a' b'∧(lv (cc X) (n+60)).cf (W kS kL σ ns a b) 1068 [.lst kS,vI ss,.int 5] []=some (.ok (vI zs) (W kS kL (σ++[c]++[c']) ns' a' b')):=by
 have s0:=la0 (X:=X) (σ:=W kS kL σ ns a b) (kS:=kS) (ss:=ss) (kd:=5) (bg ‹_› (by exact ac)) (n+38)
 have s1:=ye (X:=X) (σ:=W kS kL σ ns a b) (own:=mU kS ss 5) (kd:=5) 1 (by exact .head _) rfl rfl (n+38)
 refine dw fun kk=> ?_;refine md (la2 (X:=X) (kd:=5) (ss:=ss) h ho (n+33) h1 h3) fun l c eK a1 b1 l1 l2 l3 ho1 s2=> ?_<;>(refine kk ?_;clear kk)
 have hA:=h.app (ext:=[c])
 have s3:=ye (X:=X) (σ:=W kS kL (σ++[c]) eK a1 b1) (own:=mY kS ss 5 l) (kd:=5) 3 (by exact .tail _ (.head _)) rfl rfl (n+38)
 refine dw fun kk=> ?_;refine bW (la4 (X:=X) (σ:=W kS kL (σ++[c]) eK a1 b1) (kS:=kS) (ss:=ss) (kd:=5) h1 h3 l1 (n+38)) fun xs x1 x2 s4=> ?_<;>(refine kk ?_;clear kk)
 have s5:=ye (X:=X) (σ:=W kS kL (σ++[c]) eK a1 b1) (own:=eF kS ss xs 5 l) (kd:=5) 5 (by decide) rfl rfl (n+38)
 have s6:=ye (X:=X) (σ:=W kS kL (σ++[c]) eK a1 b1) (own:=eF kS ss xs 5 l) (kd:=5) 6 (by decide) rfl rfl (n+38)
 have s7:=ye (X:=X) (σ:=W kS kL (σ++[c]) eK a1 b1) (own:=eF kS ss xs 5 l) (kd:=5) 7 (by decide) rfl rfl (n+38)
 have s8:aT (cc X) (lv (cc X) (n+58)) (ah X 1068 (eF kS ss xs 5 l)) (W kS kL (σ++[c]) eK a1 b1) (St X 1068 8)=some (.ok .next (ah X 1068 (("size",.int (aS 1 ss))::eF kS ss xs 5 l)) (W kS kL (σ++[c]) eK a1 b1)):=
  cm (x:="size") (xp:=ps (sx (St X 1068 8) 1)) rfl ac ac (bL (x:="_law_size") (fv:= .ref 1046) (v:= .v (vI ss)) (KE:=W kS kL (σ++[c]) eK a1 b1) rfl rfl rfl ac (bz aA (aW (x:="shape") rfl ac rfl))
   (eR (X:=X) (xs:=[vI ss]) ⋯ (rR ⟨by exact Ia (by assumption),fun s q=>by have:=hs s q;exact qA ‹_› (by exact ac)⟩ (n+37) (uS X))))
 refine dw fun kk=> ?_;refine qz (ev5 (X:=X) (ss:=ss) (xs:=xs) (kd:=5) (l:=l) (z:=aS 1 ss) hA ho1 (n+33)) fun zs c' ns2 a2' b2 z1 z2 z3=> ?_<;>(refine kk ?_;clear kk)
 exact⟨zs,c,c',ns2,a2',b2,z1,z2,hG n (ab s0 (ab s1 (ab s2 (ab s3 (ab s4 (ab s5 (ab s6 (ab s7 (ab s8 (aq (dB rfl z3))))))))))) rfl⟩
end
section
variable {X:Xp}{own:List (Str×V)}{xs ax mu:List Int}{as:List (Int×Int)}{kd:Int}{arg:V}
theorem BH(hj:σ[j]? =some (aa.lst l))(hk:σ[k]? =some (aa.lst [])):eo σ .Eq (.lst j) (.lst k)=some l.isEmpty:=by
 show(aI σ j).bind (fun a=>(aI σ k).bind fun b=>if a.length=b.length then dN σ 199 a b else some false)=_
 rw[aP hj,aP hk]
 cases l with
 |nil=>rfl
 |cons=>rfl
theorem tv{as:List α}{k:α→Bool}{F:α→V}:((as.filter k).map F).isEmpty=as.all fun a=> !k a:=by
 induction as with
 |nil=>rfl
 |cons a as ih=>
  rw[Hx,Hr]
  cases k a with
  |true=>rfl
  |false=>exact ih
theorem oW{S:Sg→Prop}{x:IV}{f F:α→V}{as:List α}{b:α→List (Str×V)}{P:List (Str×V)→Prop}{k:α→Bool}(he:e= .Compare (ch e 0) [.Eq] [ch e 1] (ps e))(hm:lastMarks [.Eq] [ch e 1]=false)(he1:iN (ch e 0))(hf:hY en (ch e 0)=true)(hx:(lv c n).iv en σ (ch (ch e 0) 2)=some (.ok x σ))(ht:aC σ x=some t)(hS: ∀acc,S (σ++[aa.lst acc]))(tl:aE S t (as.map f))(hl:as.length<4096)
 (hp:P (dX (dK (ch e 0)).names en).own) (hb:EJ c n (ch e 0) en σ as f b P k F) (h0: ∀σ:Sg,(lv c (n+1)).ev en σ (ch e 1)=some (.ok (.lst σ.length) (σ++[aa.lst []]))): ∃ext:Sg,(lv c (n+2)).ev en σ e=some (.ok (.bool (as.all fun a=> !k a)) (σ++ext)):=by
 refine⟨[aa.lst ((as.filter k).map F)]++[aa.lst []],?_⟩;rw[←tv (F:=F),←G0]
 exact qf he hm (jR he1 (nR hf hx ht hS tl hl hp hb)) (h0 _) (BH (bY (by exact G8)) (by exact G8))
noncomputable abbrev u6(ss:List Int)(kd:Int)(arg:V):List (Str×V):=[("arg",arg),("kind",.int kd),("shape",vI ss)]
noncomputable abbrev fE(ss:List Int)(kd:Int)(arg:V):List (Str×V):=("many",.int (ss.length:Nat))::u6 ss kd arg
theorem Co(hl:ss.length≤900)(n:Nat):aT (cc X) (lv (cc X) (n+20)) (ah X 1058 (u6 ss kd arg)) σ (St X 1058 0)=some (.ok .next (ah X 1058 (fE ss kd arg)) σ):=by
 have e2:((ss.map V.int).length:Int)=ss.length:=by rw[GO]
 have:=kz (X:=X) (a:=1058) (own:=u6 ss kd arg) (σ:=σ) (e:=sx (St X 1058 0) 0) (n:=n+18) rfl rfl rfl ac aA (aW rfl ac rfl) (by rw[GO];exact bg ‹_› (by exact ac))
 rw[e2]at this;exact cm rfl ac ac this
theorem uV(i:Nat)(hi:i<5)(n:Nat):(lv (cc X) (n+20)).tr (ah X 1058 (fE ss kd arg)) σ (sx (St X 1058 (i+1)) 0)=some (.ok (kd==(i:Int)) σ):=by
 revert i;refine qF ?_ ?_ ?_ ?_ ?_
 all_goals exact bx (op:= .Eq) rfl aA (aW (x:="kind") rfl ac rfl) rfl rfl
theorem Dm(X:Xp)(i:Nat)(hi:i<5):St X 1058 (i+1)= .If (sx (St X 1058 (i+1)) 0) (ak (St X 1058 (i+1))) (cW (St X 1058 (i+1))) (kq (St X 1058 (i+1)))∧cW (St X 1058 (i+1))=[]:=by
 revert i;refine qF ?_ ?_ ?_ ?_ ?_
 all_goals exact⟨rfl,rfl⟩
theorem iF(i:Nat)(hi:i<5)(hne:(kd==(i:Int))=false)(n:Nat):aT (cc X) (lv (cc X) (n+20)) (ah X 1058 (fE ss kd arg)) σ (St X 1058 (i+1))=some (.ok .next (ah X 1058 (fE ss kd arg)) σ):=by
 have t:=uV (X:=X) (σ:=σ) (ss:=ss) (kd:=kd) (arg:=arg) i hi n;rw[hne]at t;refine oA (Dm X i hi) fun h1 h2=> ?_
 exact dy h1 t (by rw[h2];rfl)
theorem oY{so:V}(i:Nat)(hi:i<5)(hne:(kd==(i:Int))=true)(n:Nat)(h:(lv (cc X) (n+20)).exs (ah X 1058 (fE ss kd arg)) σ (ak (St X 1058 (i+1)))=some (.ok (.ret so) (ah X 1058 (fE ss kd arg)) KD)):aT (cc X) (lv (cc X) (n+20)) (ah X 1058 (fE ss kd arg)) σ (St X 1058 (i+1))=some (.ok (.ret so) (ah X 1058 (fE ss kd arg)) KD):=by
 have t:=uV (X:=X) (σ:=σ) (ss:=ss) (kd:=kd) (arg:=arg) i hi n;rw[hne]at t;exact eQ (Dm X i hi).1 t h
theorem g_(n:Nat)(h:(lv (cc X) (n+59)).exs (ah X 1058 (u6 ss kd arg)) σ [St X 1058 0,St X 1058 1,St X 1058 2,St X 1058 3,St X 1058 4,St X 1058 5,St X 1058 6]=some so)(ho:il so=some o):(lv (cc X) (n+60)).cf σ 1058 [vI ss,.int kd,arg] []=some o:=
 bp (a:=1058) (binds:=[("shape",vI ss),("kind",.int kd),("arg",arg)]) ⋯ ⋯ ac ((congrArg ((lv (cc X) (n+59)).exs (ah X 1058 (u6 ss kd arg)) σ) (show aD X 1058=_ from rfl)).trans h) ho
theorem Dj{f:Nat}(hl:l.length≤900)(he:e= .Compare (ch e 0) [.Eq] [ch e 1] (ps e))(hm:lastMarks [.Eq] [ch e 1]=false)(h0:ch e 0= .Call (.Name ("len":Str) (ps (ch (ch e 0) 0))) [ch (ch e 0) 1] [] (ps (ch e 0)))(hg:cK [ch (ch e 0) 1]=none)(hn:al [ch (ch e 0) 1]=true)(hi:aX (ch (ch e 0) 1)=false)(h1:ch (ch e 0) 1= .Name ("arg":Str) (ps (ch (ch e 0) 1)))(h2:ch e 1= .Name ("many":Str) (ps (ch e 1)))(n:Nat):
 (lv (cc X) (n+20)).ev (ah X 1058 (fE ss kd (.tup l))) σ e=some (.ok (.bool ((l.length:Int)==(ss.length:Int))) σ):=
 qf he hm (kz h0 hg rfl hn hi (aW h1 ac rfl) (bg ‹_› (by exact ac))) (aW h2 ac rfl) rfl
noncomputable abbrev z1(X:Xp):=sx (si (ak (St X 1058 1)) 0) 0
theorem se{a:Bool}(he:e= .BoolOp .And [ch e 0,ch e 1] (ps e))(h1:(lv c n).ev en σ (ch e 0)=some (.ok (.bool a) σ))(h2:a=true→ ∃ext:Sg,(lv c n).ev en σ (ch e 1)=some (.ok (.bool b) (σ++ext))): ∃ext:Sg,(lv c (n+1)).ev en σ e=some (.ok (.bool (a&&b)) (σ++ext)):=by
 have key:(lv c (n+1)).ev en σ e=jc (lv c n).ev en .And σ [ch e 0,ch e 1]:=(congrArg ((lv c (n+1)).ev en σ) he);refine(key).symm▸ ?_
 cases a with
 |false=>exact⟨[],l_ h1 (congrArg (fun s=>some (aG.ok (V.bool false) s)) (G4 σ).symm)⟩
 |true=>
  obtain⟨ext,h2⟩:=h2 rfl;exact⟨ext,l_ h1 h2⟩
noncomputable def sO(ss:List Int)(as:List (Int×Int)):Bool:=((as.length:Int)==(ss.length:Int))&&as.all fun p=> !(decide (p.1<0)||decide (p.2<0))
theorem AY(hl:as.length≤900)(hs:ss.length≤900)(n:Nat): ∃ext:Sg,(lv (cc X) (n+60)).cf σ 1058 [vI ss,.int 0,vP as] []=some (.ok (.bool (sO ss as)) (σ++ext)):=by
 have l1:=Dj (X:=X) (σ:=σ) (ss:=ss) (kd:=0) (l:=as.map pP) (f:=0) (e:=ch (z1 X) 0) (by rw[GO];assumption) ⋯ aA ⋯ ⋯ ⋯ ⋯ ⋯ ⋯ (n+36)
 rw[GO]at l1
 obtain⟨ext,h⟩:=se (c:=cc X) (e:=z1 X) (b:=as.all fun p=> !(decide (p.1<0)||decide (p.2<0))) rfl l1 (fun u_=>oW (e:=ch (z1 X) 1) (S:=fun u_=>True) (x:= .v (vP as)) (t:= .seq (as.map pP) 0) (as:=as) (f:=pP) (F:=pP) (b:=fun p=>[("row",pP p)]) (P:=fun u_=>True) ⋯ aA ⋯ ⋯
  (bz ⋯ (aW (x:="arg") ⋯ ac rfl)) rfl (fun u_=>trivial) (ai _ _) (fA ‹_› (by exact ac)) trivial (fun p hp own acc u_=>⟨trivial,by kernel_rfl,(congrArg (bJ _ _ _) (show ec (ch (ch (z1 X) 1) 0)=[ch (ch (ch (z1 X) 1) 0) 3]from by kernel_rfl)).trans (jC (Eu ⋯ (bx (op:= .Lt) (KE:=σ++[aa.lst acc]) (x:= .int p.1) (y:= .int 0) ⋯ ⋯ ⋯ ⋯ rfl) (fun u_=>bx (op:= .Lt) (KE:=σ++[aa.lst acc]) (x:= .int p.2) (y:= .int 0) ⋯ ⋯ ⋯ ⋯ rfl))),fun u_=>by kernel_rfl⟩) (fun u_=>rfl))
 refine⟨ext,g_ n (ab (Co (by assumption) (n+38)) (bj (oY 0 (by exact HZ _) rfl (n+38) ?_))) rfl⟩
 rw[show ak (St X 1058 (0+1))=[si (ak (St X 1058 1)) 0]from rfl]
 exact aq (dB rfl h)
end
section
theorem Fw{w x y:Int}(he:e= .Compare (ch e 0) [.LtE,.LtE,.LtE] [ch e 1,ch e 2,ch e 3] (ps e))(hm:lastMarks [.LtE,.LtE,.LtE] [ch e 1,ch e 2,ch e 3]=false)(h0:(lv c n).ev en σ (ch e 0)=some (.ok (.int w) σ))(h1:(lv c n).ev en σ (ch e 1)=some (.ok (.int x) σ))(h2:(lv c n).ev en σ (ch e 2)=some (.ok (.int y) σ))(h3:(lv c n).ev en σ (ch e 3)=some (.ok (.int z) σ)):
 (lv c (n+1)).tr en σ e=some (.ok (decide (w≤x)&&(decide (x≤y)&&decide (y≤z))) σ):=by
 refine(congrArg ((lv c (n+1)).tr en σ) he).trans ?_;refine(?_:Cc (lv c n).ev (lv c n).tr en σ (.Compare (ch e 0) [.LtE,.LtE,.LtE] [ch e 1,ch e 2,ch e 3] (ps e))=_);have c1:eo σ .LtE (.int w) (.int x)=some (decide (w≤x)):=rfl;have c2:eo σ .LtE (.int x) (.int y)=some (decide (x≤y)):=rfl;have c3:eo σ .LtE (.int y) (.int z)=some (decide (y≤z)):=rfl
 refine(if_neg (by rw[hm];exact Gk):(if lastMarks [.LtE,.LtE,.LtE] [ch e 1,ch e 2,ch e 3]=true then none else aw ((lv c n).ev en σ (ch e 0)) _)=_).trans ?_
 rw[h0];refine fS h1 c1 ?_
 cases decide (w≤x)with
 |false=>rfl
 |true=>
  refine fS h2 c2 ?_
  cases decide (x≤y)with
  |false=>rfl
  |true=>exact gV h3 c3
variable {X:Xp}{own:List (Str×V)}{xs ax mu:List Int}{as:List (Int×Int)}{kd:Int}{arg:V}
theorem pM{f:β→V}{l:List β}(d:β)(h:i<l.length)(hl:l.length≤900):gr σ (.tup (l.map f)) (0+(i:Int))=some (f (l.getD i d)):=by
 rw[Int.zero_add]
 exact ja (by rw[Hc,G3 h,Hf,G3 h];rfl) (CX ‹_› ‹_› (by exact ac))
theorem jU(he:e= .Call (.Name ("range":Str) (ps (ch e 0))) [ch e 1] [] (ps e))(hg:cK [ch e 1]=none)(hc:al [ch e 1]=true)(h1:ch e 1= .Name ("many":Str) (ps (ch e 1))):(lv (cc X) (n+6)).iv (ah X 1058 (fE ss kd arg)) σ e=some (.ok (.v (.rng 0 (ss.length:Nat) 1)) σ):=
 xR (by rw[he];rfl) (bL (fv:= .type "range") (v:= .v (.int (ss.length:Nat))) he hg rfl (by rw[hc];exact ac) (bz (by rw[h1];rfl) (aW h1 ac rfl)) rfl)
noncomputable def sK(ss:List Int)(as:List (Int×Int)):Bool:=((as.length:Int)==(ss.length:Int))&&(GV ss.length).all fun i=> !(!(decide (0≤(as.getD i (0,0)).1)&&(decide ((as.getD i (0,0)).1≤(as.getD i (0,0)).2)&&decide ((as.getD i (0,0)).2≤ss.getD i 0))))
noncomputable abbrev z2(X:Xp):=sx (si (ak (St X 1058 2)) 0) 0
noncomputable abbrev z2c(X:Xp):=ch (ch (z2 X) 1) 0
theorem BC(hl:as.length≤900)(hs:ss.length≤4)(n:Nat): ∃ext:Sg,(lv (cc X) (n+60)).cf σ 1058 [vI ss,.int 1,vP as] []=some (.ok (.bool (sK ss as)) (σ++ext)):=by
 have l1:=Dj (X:=X) (σ:=σ) (ss:=ss) (kd:=1) (l:=as.map pP) (f:=0) (e:=ch (z2 X) 0) (by rw[GO];assumption) ⋯ aA ⋯ ⋯ ⋯ ⋯ ⋯ ⋯ (n+36)
 rw[GO]at l1
 obtain⟨ext,h⟩:=se (c:=cc X) (e:=z2 X) (b:=(GV ss.length).all fun i=> !(!(decide (0≤(as.getD i (0,0)).1)&&(decide ((as.getD i (0,0)).1≤(as.getD i (0,0)).2)&&decide ((as.getD i (0,0)).2≤ss.getD i 0))))) rfl l1 (fun hq=>by
  have hq:as.length=ss.length:=by have:=GN hq;exact cN ‹_›
  have tl:=gW (S:=fun u_=>True) 0 (ss.length:Nat);rw[GA]at tl
  refine oW (e:=ch (z2 X) 1) (S:=fun u_=>True) (x:= .v (.rng 0 (ss.length:Nat) 1)) (t:= .rng 0 (ss.length:Nat) 1) (as:=GV ss.length) (f:=fun(i:Nat)=>V.int (0+(i:Int))) (F:=fun(i:Nat)=>V.int (0+(i:Int))) (b:=fun(i:Nat)=>[("k",.int (0+(i:Int)))]) (P:=fun own=>own.lookup ("arg":Str)=some (vP as)∧own.lookup ("shape":Str)=some (vI ss)) ⋯ aA ⋯ ⋯
   (jU ⋯ ⋯ ⋯ ⋯) (je hs) (fun u_=>trivial) tl (by rw[Hh];exact fA ‹_› (by exact ac)) ⟨by kernel_rfl,by kernel_rfl⟩ (fun i hi own acc hp=>⟨hp,by kernel_rfl,(congrArg (bJ _ _ _) (show ec (z2c X)=[ch (z2c X) 3]from by kernel_rfl)).trans (jC ?_),fun u_=>by kernel_rfl⟩) (fun u_=>rfl)
  have hi':i<ss.length:=HJ.mp hi
  refine BP ⋯ (Fw ⋯ ⋯ ⋯
   (cZ (x:=pP (as.getD i (0,0))) (i:=0) (KE:=σ++[aa.lst acc]) ⋯ ⋯ (cZ (x:=vP as) (i:=0+(i:Int)) (KE:=σ++[aa.lst acc]) ⋯ ⋯ (bT (x:="arg") ⋯ (Gu ⋯ hp.1)) ⋯ (pM (0,0) (Fs ‹_› ‹_›) hl)) ⋯ rfl)
   (cZ (x:=pP (as.getD i (0,0))) (i:=1) (KE:=σ++[aa.lst acc]) ⋯ ⋯ (cZ (x:=vP as) (i:=0+(i:Int)) (KE:=σ++[aa.lst acc]) ⋯ ⋯ (bT (x:="arg") ⋯ (Gu ⋯ hp.1)) ⋯ (pM (0,0) (Fs ‹_› ‹_›) hl)) ⋯ rfl)
   (cZ (x:=vI ss) (i:=0+(i:Int)) (KE:=σ++[aa.lst acc]) ⋯ ⋯ (bT (x:="shape") ⋯ (Gu ⋯ hp.2)) ⋯ (pM 0 hi' (bg ‹_› (by exact ac))))))
 refine⟨ext,g_ n (ab (Co (bg ‹_› (by exact ac)) (n+38)) (ab (iF 0 (by exact HZ _) rfl (n+38)) (bj (oY 1 (by decide) rfl (n+38) ?_)))) rfl⟩
 rw[show ak (St X 1058 (1+1))=[si (ak (St X 1058 2)) 0]from rfl]
 exact aq (dB rfl h)
noncomputable def kb(ss xs:List Int):Bool:=((xs.length:Int)==(ss.length:Int))&&(GV ss.length).all fun i=> !(!(xs.getD i 0==ss.getD i 0)&&(!(ss.getD i 0==1)||decide (xs.getD i 0<0)))
noncomputable abbrev z3(X:Xp):=sx (si (ak (St X 1058 3)) 1) 0
noncomputable abbrev ET(X:Xp):=ch (z3 X) 0
noncomputable abbrev F7(X:Xp):=si (ak (St X 1058 3)) 0
theorem Bq(hl:xs.length≤900)(hs:ss.length≤4)(n:Nat): ∃ext:Sg,(lv (cc X) (n+60)).cf σ 1058 [vI ss,.int 2,vI xs] []=some (.ok (.bool (kb ss xs)) (σ++ext)):=by
 have t0:(lv (cc X) (n+57)).tr (ah X 1058 (fE ss 2 (vI xs))) σ (sx (F7 X) 0)=some (.ok (!((xs.length:Int)==(ss.length:Int))) σ):=by
  have e1:((xs.map V.int).length:Int)=xs.length:=by rw[GO]
  refine(e1)▸ ?_
  exact bx (op:= .NotEq) (KE:=σ) (x:= .int _) (y:= .int _) rfl aA (kz (l:=xs.map V.int) ⋯ ⋯ rfl ⋯ aA (aW (x:="arg") ⋯ ac rfl) (by rw[GO];exact bg ‹_› (by exact ac))) (aW (x:="many") rfl ac rfl) rfl
 have fin: ∀{ext:Sg} {b:Bool},(lv (cc X) (n+58)).exs (ah X 1058 (fE ss 2 (vI xs))) σ [F7 X,si (ak (St X 1058 3)) 1]=some (.ok (.ret (.bool b)) (ah X 1058 (fE ss 2 (vI xs))) (σ++ext))→(lv (cc X) (n+60)).cf σ 1058 [vI ss,.int 2,vI xs] []=some (.ok (.bool b) (σ++ext)):=fun h=>
  g_ n (ab (Co (bg ‹_› (by exact ac)) (n+38)) (ab (iF 0 (by exact HZ _) rfl (n+38)) (ab (iF 1 (by exact H7 ..) rfl (n+38)) (bj (oY 2 (by exact H7 ..) rfl (n+38) ((congrArg ((lv (cc X) (n+58)).exs _ σ) (show ak (St X 1058 (2+1))=[F7 X,si (ak (St X 1058 3)) 1]from rfl)).trans h)))))) rfl
 cases hq:((xs.length:Int)==(ss.length:Int))with
 |false=>
  rw[hq]at t0;unfold kb;rw[hq,Bool.false_and]
  exact⟨[],fin (by rw[G4];exact bj (eQ rfl t0 rfl))⟩
 |true=>
  rw[hq]at t0;unfold kb;rw[hq,Gn]
  have hq:xs.length=ss.length:=by have:=GN hq;exact cN ‹_›
  have tl:=gW (S:=fun u_=>True) 0 (ss.length:Nat);rw[GA]at tl;have R:=oW (c:=cc X) (σ:=σ) (en:=ah X 1058 (fE ss 2 (vI xs))) (e:=z3 X) (S:=fun u_=>True) (x:= .v (.rng 0 (ss.length:Nat) 1)) (t:= .rng 0 (ss.length:Nat) 1) (as:=GV ss.length) (f:=fun(i:Nat)=>V.int (0+(i:Int))) (F:=fun(i:Nat)=>V.int (0+(i:Int))) (b:=fun(i:Nat)=>[("k",.int (0+(i:Int)))]) (P:=fun own=>own.lookup ("arg":Str)=some (vI xs)∧own.lookup ("shape":Str)=some (vI ss))
   (k:=fun i=> !(xs.getD i 0==ss.getD i 0)&&(!(ss.getD i 0==1)||decide (xs.getD i 0<0))) rfl aA ⋯ ⋯
   (jU ⋯ ⋯ ⋯ ⋯) (je hs) (fun u_=>trivial) tl (by rw[Hh];exact fA ‹_› (by exact ac)) ⟨by kernel_rfl,by kernel_rfl⟩ (fun i hi own acc hp=>⟨hp,by kernel_rfl,(congrArg (bJ _ _ _) (show ec (ET X)=[ch (ET X) 3]from rfl)).trans (jC (by
    have hi':i<ss.length:=HJ.mp hi;have A: ∀{e:Expr} (m:Nat),e= .Subscript (ch e 0) (ch e 1) (ps e)→bB (ch e 1)=true→ch e 0= .Name ("arg":Str) (ps (ch e 0))→ch e 1= .Name ("k":Str) (ps (ch e 1))→(lv (cc X) (m+2)).ev ⟨am (dK (ET X)).names (ah X 1058 (fE ss 2 (vI xs))),("k",.int (0+(i:Int)))::own,[],none⟩ (σ++[aa.lst acc]) e=some (.ok (.int (xs.getD i 0)) (σ++[aa.lst acc])):=fun m h1 h2 h3 h4=>
     cZ (x:=vI xs) (i:=0+(i:Int)) (KE:=σ++[aa.lst acc]) h1 h2 (bT (x:="arg") h3 (Gu ⋯ hp.1)) (bT (x:="k") h4 rfl) (pM 0 (Fs ‹_› ‹_›) hl)
    have B: ∀{e:Expr} (m:Nat),e= .Subscript (ch e 0) (ch e 1) (ps e)→bB (ch e 1)=true→ch e 0= .Name ("shape":Str) (ps (ch e 0))→ch e 1= .Name ("k":Str) (ps (ch e 1))→(lv (cc X) (m+2)).ev ⟨am (dK (ET X)).names (ah X 1058 (fE ss 2 (vI xs))),("k",.int (0+(i:Int)))::own,[],none⟩ (σ++[aa.lst acc]) e=some (.ok (.int (ss.getD i 0)) (σ++[aa.lst acc])):=fun m h1 h2 h3 h4=>
     cZ (x:=vI ss) (i:=0+(i:Int)) (KE:=σ++[aa.lst acc]) h1 h2 (bT (x:="shape") h3 (Gu ⋯ hp.2)) (bT (x:="k") h4 rfl) (pM 0 hi' (bg ‹_› (by exact ac)))
    exact mB ⋯ (bx (op:= .NotEq) (x:= .int _) (y:= .int _) ⋯ ⋯ (A (n+51) ⋯ ⋯ ⋯ ⋯) (B (n+51) ⋯ ⋯ ⋯ ⋯) rfl)
     (fun u_=>Eu ⋯ (bx (op:= .NotEq) (x:= .int _) (y:= .int 1) ⋯ ⋯ (B (n+50) ⋯ ⋯ ⋯ ⋯) ⋯ rfl) (fun u_=>bx (op:= .Lt) (x:= .int _) (y:= .int 0) ⋯ ⋯ (A (n+50) ⋯ ⋯ ⋯ ⋯) ⋯ rfl)))),fun u_=>by kernel_rfl⟩) (fun u_=>rfl)
  obtain⟨ext,h⟩:=R;exact⟨ext,fin (ab (dy rfl t0 rfl) (aq (dB rfl h)))⟩
noncomputable abbrev z4(X:Xp):=sx (si (ak (St X 1058 4)) 0) 0
theorem B8(hl:ax.length≤60)(hs:ss.length≤4)(n:Nat): ∃ext:Sg,(lv (cc X) (n+60)).cf σ 1058 [vI ss,.int 3,vI ax] []=some (.ok (.bool (fj ss.length ax)) (σ++ext)):=by
 have h:(lv (cc X) (n+57)).ev (ah X 1058 (fE ss 3 (vI ax))) σ (z4 X)=some (.ok (.bool (fj ss.length ax)) (σ++[aa.lst ((cw ax).map V.int)]++[aa.lst ((eD ss.length).map V.int)])):=by
  refine qf (n:=n+56) (op:= .Eq) (KE:=σ++[aa.lst ((cw ax).map V.int)]) (x:= .lst σ.length) (y:= .lst (σ++[aa.lst ((cw ax).map V.int)]).length) rfl aA (bL (n:=n+54) (x:="sorted") (fv:= .builtin "sorted") (v:= .v (vI ax)) (KE:=σ) ⋯ ⋯ rfl ⋯ (bz (n:=n+54) ⋯ (aW (n:=n+53) (x:="arg") ⋯ ac rfl)) (nt (fA ‹_› (by exact ac))))
   (bL (n:=n+54) (x:="list") (fv:= .type "list") (v:= .v (.rng 0 (ss.length:Int) 1)) ⋯ ⋯ rfl ⋯ (jU ⋯ ⋯ ⋯ ⋯) (kg hs))
   (vR (bY (by exact G8)) (by exact G8) (by rw[(dE ax).length_eq];exact fA ‹_› (by exact ac)))
 rw[G0]at h;generalize [aa.lst ((cw ax).map V.int)]++[aa.lst ((eD ss.length).map V.int)]=ext at h
 refine⟨ext,g_ n (ab (Co (bg ‹_› (by exact ac)) (n+38)) (ab (iF 0 (by exact HZ _) rfl (n+38)) (ab (iF 1 (by decide) rfl (n+38)) (ab (iF 2 (by exact H7 ..) rfl (n+38)) (bj (oY 3 (by exact H3 _) rfl (n+38) ?_)))))) rfl⟩
 rw[show ak (St X 1058 (3+1))=[si (ak (St X 1058 4)) 0]from rfl]
 exact aq (dB rfl h)
noncomputable abbrev z5(X:Xp):=sx (si (ak (St X 1058 5)) 0) 0
noncomputable abbrev z5c(X:Xp):=ch (z5 X) 0
theorem Bm(hl:mu.length≤900)(hs:ss.length≤4)(n:Nat): ∃ext:Sg,(lv (cc X) (n+60)).cf σ 1058 [vI ss,.int 4,vI mu] []=some (.ok (.bool (nz mu)) (σ++ext)):=by
 obtain⟨ext,h⟩:=oW (c:=cc X) (n:=n+55) (σ:=σ) (en:=ah X 1058 (fE ss 4 (vI mu))) (e:=z5 X) (S:=fun u_=>True) (x:= .v (vI mu)) (t:= .seq (mu.map V.int) 0) (as:=mu) (f:=V.int) (F:=V.int) (b:=fun p=>[("m",.int p)]) (P:=fun u_=>True) (k:=fun m=>m==0) rfl aA ⋯ ⋯
  (bz (n:=n+54) ⋯ (aW (n:=n+53) (x:="arg") ⋯ ac rfl)) rfl (fun u_=>trivial) (ai _ _) (fA ‹_› (by exact ac)) trivial (fun p hp own acc u_=>⟨trivial,by kernel_rfl,(congrArg (bJ _ _ _) (show ec (z5c X)=[ch (z5c X) 3]from rfl)).trans (jC (bx (n:=n+54) (op:= .Eq) (KE:=σ++[aa.lst acc]) (x:= .int p) (y:= .int 0) ⋯ ⋯ ⋯ ⋯ rfl)),fun u_=>by kernel_rfl⟩) (fun u_=>rfl)
 refine⟨ext,g_ n (ab (Co (bg ‹_› (by exact ac)) (n+38)) (ab (iF 0 (by exact HZ _) rfl (n+38)) (ab (iF 1 (by decide) rfl (n+38)) (ab (iF 2 (by exact H7 ..) rfl (n+38)) (ab (iF 3 (by exact H3 _) rfl (n+38)) (bj (oY 4 (by exact H0 _) rfl (n+38) ?_))))))) rfl⟩
 rw[show ak (St X 1058 (4+1))=[si (ak (St X 1058 5)) 0]from rfl]
 exact aq (dB rfl h)
noncomputable abbrev z6(X:Xp):=sx (St X 1058 6) 0
noncomputable abbrev z6c(X:Xp):=ch (ch (z6 X) 0) 0
theorem xk{a:Bool}(he:e= .BoolOp .And [ch e 0,ch e 1] (ps e))(h1: ∃ext:Sg,(lv c n).ev en σ (ch e 0)=some (.ok (.bool a) (σ++ext)))(h2: ∀σ:Sg,(lv c n).ev en σ (ch e 1)=some (.ok (.bool b) σ)): ∃ext:Sg,(lv c (n+1)).ev en σ e=some (.ok (.bool (a&&b)) (σ++ext)):=by
 obtain⟨ext,h1⟩:=h1;have key:(lv c (n+1)).ev en σ e=jc (lv c n).ev en .And σ [ch e 0,ch e 1]:=(congrArg ((lv c (n+1)).ev en σ) he);refine(key).symm▸ ?_
 cases a with
 |false=>exact⟨ext,l_ h1 rfl⟩
 |true=>exact⟨ext,l_ h1 (h2 _)⟩
noncomputable def lD(ss xs:List Int):Bool:=(xs.all fun s=> !(decide (s<0)))&&(aS 1 xs==aS 1 ss)
theorem Br(h1:bR xs)(h2:bR ss)(n:Nat): ∃ext:Sg,(lv (cc X) (n+60)).cf σ 1058 [vI ss,.int 5,vI xs] []=some (.ok (.bool (lD ss xs)) (σ++ext)):=by
 have l1:=h1.1;have l2:=h2.1;obtain⟨ext,h⟩:=xk (c:=cc X) (n:=n+57) (σ:=σ) (en:=ah X 1058 (fE ss 5 (vI xs))) (e:=z6 X) (a:=xs.all fun s=> !(decide (s<0))) (b:=aS 1 xs==aS 1 ss) rfl
  (oW (c:=cc X) (n:=n+55) (σ:=σ) (en:=ah X 1058 (fE ss 5 (vI xs))) (e:=ch (z6 X) 0) (S:=fun u_=>True) (x:= .v (vI xs)) (t:= .seq (xs.map V.int) 0) (as:=xs) (f:=V.int) (F:=V.int) (b:=fun p=>[("s",.int p)]) (P:=fun u_=>True) (k:=fun s=>decide (s<0)) rfl aA ⋯ ⋯
   (bz (n:=n+54) aA (aW (n:=n+53) (x:="arg") ⋯ ac rfl)) rfl (fun u_=>trivial) (ai _ _) (fA ‹_› (by exact ac)) trivial (fun p hp own acc u_=>⟨trivial,by kernel_rfl,(congrArg (bJ _ _ _) (show ec (z6c X)=[ch (z6c X) 3]from rfl)).trans (jC (bx (n:=n+54) (op:= .Lt) (KE:=σ++[aa.lst acc]) (x:= .int p) (y:= .int 0) ⋯ ⋯ ⋯ ⋯ rfl)),fun u_=>by kernel_rfl⟩) (fun u_=>rfl))
  (fun σ=>qf (n:=n+56) (op:= .Eq) (KE:=σ) (x:= .int (aS 1 xs)) (y:= .int (aS 1 ss)) rfl aA (bL (n:=n+54) (x:="_law_size") (fv:= .ref 1046) (v:= .v (vI xs)) (KE:=σ) ⋯ ⋯ rfl ⋯ (bz (n:=n+54) aA (aW (n:=n+53) (x:="arg") ⋯ ac rfl)) (eR (X:=X) (xs:=[vI xs]) ⋯ (rR h1 (n+35) (uS X))))
   (bL (n:=n+54) (x:="_law_size") (fv:= .ref 1046) (v:= .v (vI ss)) (KE:=σ) ⋯ ⋯ rfl ⋯ (bz (n:=n+54) aA (aW (n:=n+53) (x:="shape") ⋯ ac rfl)) (eR (xs:=[vI ss]) ⋯ (rR h2 (n+35) (uS X)))) rfl)
 exact⟨ext,g_ n (ab (Co (bg ‹_› (by exact ac)) (n+38)) (ab (iF 0 (by exact HZ _) rfl (n+38)) (ab (iF 1 (by decide) rfl (n+38)) (ab (iF 2 (by exact H7 ..) rfl (n+38)) (ab (iF 3 (by exact H3 _) rfl (n+38)) (ab (iF 4 (by exact H0 _) rfl (n+38)) (aq (dB rfl h)))))))) rfl⟩
theorem qh:sO ss as=(mA as&&(as.length:Int)==(ss.length:Int)):=by
 unfold sO mA;rw[Bool.and_comm];congr 1;congr 1;funext p;rw[Bool.not_or,←decide_not,←decide_not];congr 1<;>(rw[decide_eq_decide];exact Gz)
theorem nq(d:β)(g:Int→β→Bool): ∀{l:List β},l.length=ss.length→((GV ss.length).all fun i=>g (ss.getD i 0) (l.getD i d))=(ss.zip l).all fun p=>g p.1 p.2:=by
 induction ss with
 |nil=>exact fun u_=>by rw[List.zip_nil_left];rfl
 |cons s ss ih=>
  intro l h
  cases l with
  |nil=>exact Nat.noConfusion h
  |cons a l=>
   rw[G_,List.range_succ_eq_map,Hr,List.all_map,HA,Hr,←ih (Nat.succ.inj h)];rfl
theorem pB:sK ss as=(mh ss as&&(as.length:Int)==(ss.length:Int)):=by
 unfold sK mh;rw[Bool.and_comm]
 cases h:((as.length:Int)==(ss.length:Int))with
 |false=>rw[Bool.and_false,Bool.and_false]
 |true=>
  have hq:as.length=ss.length:=by have:=GN h;exact cN ‹_›
  rw[Gp,Gp,←nq (0,0) (fun s p=>decide (0≤p.1)&&(decide (p.1≤p.2)&&decide (p.2≤s))) hq];simp only[Bool.not_not]
theorem pL:lD ss xs=((xs.all fun s=>decide (0≤s))&&aS 1 xs==aS 1 ss):=by
 unfold lD;congr 2;funext s;rw[←decide_not,decide_eq_decide];exact Gz
end
section
variable {X:Xp}{own:List (Str×V)}{xs ax mu ts:List Int}{as:List (Int×Int)}{kd:Int}{arg:V}
theorem sX:kb ss xs=(((xs.length:Int)==(ss.length:Int))&&(ss.zip xs).all fun p=> !(!(p.2==p.1)&&(!(p.1==1)||decide (p.2<0)))):=by
 unfold kb
 cases h:((xs.length:Int)==(ss.length:Int))with
 |false=>rfl
 |true=>
  have hq:xs.length=ss.length:=by have:=GN h;exact cN ‹_›
  rw[Gn,Gn,←nq 0 (fun s x=> !(!(x==s)&&(!(s==1)||decide (x<0)))) hq]
theorem j7: ∀{xs ts:List Int},xs.length=ss.length→ts.length=ss.length→(∀s∈ss,1≤s)→(∀p∈ss.zip ts,p.1=1→p.2=0)→((ss.zip xs).all fun p=> !(!(p.2==p.1)&&(!(p.1==1)||decide (p.2<0))))=(kc ss xs ts&&xs.all fun x=>decide (0≤x)):=by
 induction ss with
 |nil=>
  intro xs ts h1 h2 _ _;obtain rfl:=Hb h1;rfl
 |cons s ss ih=>
  intro xs ts h1 h2 h3 h4
  cases xs with
  |nil=>exact nomatch h1
  |cons x xs=>
  cases ts with
  |nil=>exact nomatch h2
  |cons t ts=>
  have ih:=ih (xs:=xs) (ts:=ts) (Nat.succ.inj h1) (Nat.succ.inj h2) (fun s q=>h3 s (.tail _ q)) (fun p q=>h4 p (by rw[HA];exact .tail _ q))
  have hs:=h3 s (.head _)
  have ht:=h4 (s,t) (by rw[HA];exact .head _)
  unfold kc at ih⊢;simp only[HA,Hr,ih]
  have key:(!(!(x==s)&&(!(s==1)||decide (x<0))))=(((s==x)||((s==1)&&(t==0)))&&decide (0≤x)):=by
   rw[Bool.eq_iff_iff];simp only[Bool.not_and,Bool.not_not,Bool.or_eq_true,Gj,beq_iff_eq,Gr,Bool.not_or,decide_eq_false_iff_not,decide_eq_true_eq,Bool.not_eq_eq_eq_not,Bool.not_true];constructor
   ·rintro (rfl|⟨rfl,h⟩)
    ·exact⟨.inl rfl,by exact ilc ‹_› (by exact ac)⟩
    ·exact⟨.inr ⟨rfl,ht rfl⟩,by exact Gz.mp ‹_›⟩
   ·rintro ⟨rfl|⟨rfl,_⟩,h⟩
    ·exact .inl rfl
    ·exact .inr ⟨rfl,by omega⟩
  rw[key]
  cases((s==x)||((s==1)&&(t==0)))<;>cases decide (0≤x)<;>simp
noncomputable abbrev qm(ss:List Int)(kd:Int)(arg:V):List (Str×V):=[("arg",arg),("kind",.int kd),("shape",vI ss)]
noncomputable def EW(i:Nat):Int:=match i with|0=>0|1=>1|2=>3|_=>4
theorem wV(i:Nat)(hi:i<4)(n:Nat):(lv (cc X) (n+20)).tr (ah X 1063 (qm ss kd arg)) σ (sx (St X 1063 i) 0)=some (.ok (kd==EW i) σ):=by
 revert i;refine uC ?_ ?_ ?_ ?_
 all_goals exact bx (op:= .Eq) rfl aA (aW (x:="kind") rfl ac rfl) rfl rfl
theorem Ae(X:Xp)(i:Nat)(hi:i<4):St X 1063 i= .If (sx (St X 1063 i) 0) (ak (St X 1063 i)) (cW (St X 1063 i)) (kq (St X 1063 i))∧cW (St X 1063 i)=[]∧ak (St X 1063 i)=[si (ak (St X 1063 i)) 0]∧si (ak (St X 1063 i)) 0= .Return (some (sx (si (ak (St X 1063 i)) 0) 0)) (kq (si (ak (St X 1063 i)) 0)):=by
 revert i;refine uC ?_ ?_ ?_ ?_
 all_goals exact⟨rfl,rfl,rfl,rfl⟩
theorem mP(i:Nat)(hi:i<4)(hne:(kd==EW i)=false)(n:Nat):aT (cc X) (lv (cc X) (n+20)) (ah X 1063 (qm ss kd arg)) σ (St X 1063 i)=some (.ok .next (ah X 1063 (qm ss kd arg)) σ):=by
 have t:=wV (X:=X) (σ:=σ) (ss:=ss) (kd:=kd) (arg:=arg) i hi n;rw[hne]at t;refine mX (Ae X i hi) fun h1 h2 u_=> ?_
 exact dy h1 t (by rw[h2];rfl)
theorem sq{so:V}(i:Nat)(hi:i<4)(hne:(kd==EW i)=true)(n:Nat)(h:(lv (cc X) (n+19)).ev (ah X 1063 (qm ss kd arg)) σ (sx (si (ak (St X 1063 i)) 0) 0)=some (.ok so KD)):aT (cc X) (lv (cc X) (n+20)) (ah X 1063 (qm ss kd arg)) σ (St X 1063 i)=some (.ok (.ret so) (ah X 1063 (qm ss kd arg)) KD):=by
 have t:=wV (X:=X) (σ:=σ) (ss:=ss) (kd:=kd) (arg:=arg) i hi n;rw[hne]at t;refine uq (Ae X i hi) fun h1 h2 h3 h4=> ?_;refine eQ h1 t ?_;rw[h3];exact aq (dB h4 h)
theorem iX(n:Nat)(h:(lv (cc X) (n+59)).exs (ah X 1063 (qm ss kd arg)) σ [St X 1063 0,St X 1063 1,St X 1063 2,St X 1063 3,St X 1063 4]=some so)(ho:il so=some o):(lv (cc X) (n+60)).cf σ 1063 [vI ss,.int kd,arg] []=some o:=
 bp (a:=1063) (binds:=[("shape",vI ss),("kind",.int kd),("arg",arg)]) ⋯ ⋯ ac ((congrArg ((lv (cc X) (n+59)).exs (ah X 1063 (qm ss kd arg)) σ) (show aD X 1063=_ from rfl)).trans h) ho
theorem CL(hl:ss.length≤900)(n:Nat): ∃ext:Sg,(lv (cc X) (n+60)).cf σ 1063 [vI ss,.int 0,vP as] []=some (.ok (vI (fb ss as)) (σ++ext)):=
 ⟨_,iX n (bj (sq 0 (by decide) rfl (n+38) (tH (as:=ss.zip as) (F:=fun p=>p.1+p.2.1+p.2.2) rfl rfl rfl ac aA (by rw[GS];exact wq ‹_› (by exact ac))
  (bO (S:=fun u_=>True) (x:= .it (.zip [.seq (ss.map V.int) 0,.seq (as.map pP) 0])) (t:= .zip [.seq (ss.map V.int) 0,.seq (as.map pP) 0]) (as:=ss.zip as) (f:=fun p=> .tup [.int p.1,pP p.2]) (b:=fun p=>[("row",pP p.2),("s",.int p.1)]) (P:=fun u_=>True) ⋯ rfl ⋯
   (eB (x:=vI ss) (y:=vP as) ⋯ rfl rfl ⋯ ⋯ ⋯ (aW (x:="shape") ⋯ ac rfl) (aW (x:="arg") ⋯ ac rfl) rfl rfl) rfl (fun u_=>trivial)
   (a_ (ai _ _) (ai _ _)) (by rw[GS];exact r_ ‹_› (by exact ac)) trivial (fun p hp own acc u_=>⟨trivial,by kernel_rfl,by kernel_rfl⟩))))) rfl⟩
theorem DN(hl:as.length≤900)(n:Nat): ∃ext:Sg,(lv (cc X) (n+60)).cf σ 1063 [vI ss,.int 1,vP as] []=some (.ok (vI (eO as)) (σ++ext)):=
 ⟨_,iX n (ab (mP 0 (by decide) rfl (n+38)) (bj (sq 1 (by decide) rfl (n+38) (tH (as:=as) (F:=fun p=>p.2-p.1) rfl rfl rfl ac aA hl
  (bO (S:=fun u_=>True) (t:= .seq (as.map pP) 0) (as:=as) (f:=pP) (b:=fun p=>[("row",pP p)]) (P:=fun u_=>True) ⋯ rfl ⋯
   (bz ⋯ (aW (x:="arg") ⋯ ac rfl)) rfl (fun u_=>trivial)
   (ai _ _) (fA ‹_› (by exact ac)) trivial (fun p hp own acc u_=>⟨trivial,by kernel_rfl,by kernel_rfl⟩)))))) rfl⟩
theorem D_(hl:ax.length≤900)(hs:ss.length≤4)(hp: ∀a∈ax,0≤a∧a.toNat<ss.length)(n:Nat): ∃ext:Sg,(lv (cc X) (n+60)).cf σ 1063 [vI ss,.int 3,vI ax] []=some (.ok (vI (ax.map fun a=>ss.getD a.toNat 0)) (σ++ext)):=
 ⟨_,iX n (ab (mP 0 (by decide) rfl (n+38)) (ab (mP 1 (by decide) rfl (n+38)) (bj (sq 2 (by decide) rfl (n+38) (tH (as:=ax) (F:=fun a=>ss.getD a.toNat 0) rfl rfl rfl ac aA hl
  (bO (S:=fun u_=>True) (x:= .v (vI ax)) (t:= .seq (ax.map V.int) 0) (as:=ax) (f:=V.int) (b:=fun p=>[("a",.int p)]) (P:=fun own=>own.lookup ("shape":Str)=some (vI ss)) ⋯ rfl ⋯
   (bz ⋯ (aW (x:="arg") ⋯ ac rfl)) rfl (fun u_=>trivial)
   (ai _ _) (fA ‹_› (by exact ac)) ⋯ (fun p hp' own acc hq=>⟨hq,by kernel_rfl,cZ (x:=vI ss) (i:=p) ⋯ ⋯ (bT (x:="shape") ⋯ (Gu ⋯ hq)) ⋯ (kO (hp p hp').1 (hp p hp').2 (bg ‹_› (by exact ac)))⟩))))))) rfl⟩
theorem CQ(hl:ss.length≤900)(hm:qH mu)(n:Nat): ∃ext:Sg,(lv (cc X) (n+60)).cf σ 1063 [vI ss,.int 4,vI mu] []=some (.ok (vI (fe ss mu)) (σ++ext)):=by
 have e:fe ss mu=(ss.zip mu).map fun p=>(p.1+cF p.2-1).fdiv (cF p.2):=by
  unfold fe;refine Hz fun p u_=> ?_;congr 1;simp+arith
 refine(e).symm▸ ?_
 exact⟨_,iX n (ab (mP 0 (by decide) rfl (n+38)) (ab (mP 1 (by decide) rfl (n+38)) (ab (mP 2 (by decide) rfl (n+38)) (bj (sq 3 (by decide) rfl (n+38) (tH (as:=ss.zip mu) (F:=fun p=>(p.1+cF p.2-1).fdiv (cF p.2)) rfl rfl rfl ac aA (by rw[GS];exact wq ‹_› (by exact ac))
  (bO (S:=fun u_=>True) (x:= .it (.zip [.seq (ss.map V.int) 0,.seq (mu.map V.int) 0])) (t:= .zip [.seq (ss.map V.int) 0,.seq (mu.map V.int) 0]) (as:=ss.zip mu) (f:=fun p=> .tup [.int p.1,.int p.2]) (b:=fun p=>[("m",.int p.2),("s",.int p.1)]) (P:=fun u_=>True) ⋯ rfl ⋯
   (eB (x:=vI ss) (y:=vI mu) ⋯ rfl rfl ⋯ ⋯ ⋯ (aW (x:="shape") ⋯ ac rfl) (aW (x:="arg") ⋯ ac rfl) rfl rfl) rfl (fun u_=>trivial)
   (a_ (ai _ _) (ai _ _)) (by rw[GS];exact r_ ‹_› (by exact ac)) trivial (fun p hp own acc u_=>⟨trivial,by kernel_rfl,cL (op:= .FloorDiv) (KE:=σ++[aa.lst acc]) ⋯ ⋯ ⋯ (ow (ge (hm _ (GU hp).2)).1 (ge (hm _ (GU hp).2)).2.1)⟩)))))))) rfl⟩
theorem xD(h:kd=2∨kd=5)(n:Nat):(lv (cc X) (n+60)).cf σ 1063 [vI ss,.int kd,arg] []=some (.ok arg σ):=by
 have f: ∀i,i<4→(kd==EW i)=false:=by
  intro i hi;rw[beq_eq_false_iff_ne]
  rcases h with rfl|rfl<;>(revert i;refine uC ?_ ?_ ?_ ?_<;>decide)
 exact iX n (ab (mP 0 (by decide) (f 0 (by decide)) (n+38)) (ab (mP 1 (by decide) (f 1 (by decide)) (n+38)) (ab (mP 2 (by decide) (f 2 (by decide)) (n+38)) (ab (mP 3 (by decide) (f 3 (by decide)) (n+38)) (aq (dB rfl (aW rfl ac rfl))))))) rfl
noncomputable def Ao(s:Stmt):List ExceptHandler:=(pS s).2.2.2
noncomputable def hT:List ExceptHandler→Expr
 | .ExceptHandler (some t) _ _ _::_=>t
 |_=>default
theorem B2(X:Xp)(fs:eC)(en:En)(σ:Sg)(b:List Stmt):rH (cc X) fs en σ b (Ao (St X 1053 0))=sk (fs en σ b) fun cls en' KD=>if eU (cc X) en' (hT (Ao (St X 1053 0))) cls=true then some (.ok (.ret .none) en' KD)else none:=rfl
noncomputable abbrev dW(j:Nat)(kd:Int)(arg:V):List (Str×V):=[("arg",arg),("kind",.int kd),("tracker",.inst av j)]
noncomputable abbrev tb(X:Xp)(i:Nat):=si (ak (St X 1053 0)) i
theorem uX(i:Nat)(hi:i<5)(n:Nat):(lv (cc X) (n+20)).tr (ah X 1053 (dW j kd arg)) σ (sx (tb X i) 0)=some (.ok (kd==(i:Int)) σ):=by
 revert i;refine qF ?_ ?_ ?_ ?_ ?_
 all_goals exact bx (op:= .Eq) rfl aA (aW (x:="kind") rfl ac rfl) rfl rfl
theorem zU(X:Xp)(i:Nat)(hi:i<5):tb X i= .If (sx (tb X i) 0) (ak (tb X i)) (cW (tb X i)) (kq (tb X i))∧cW (tb X i)=[]∧ak (tb X i)=[si (ak (tb X i)) 0]:=by
 revert i;refine qF ?_ ?_ ?_ ?_ ?_
 all_goals exact⟨rfl,rfl,rfl⟩
theorem iO(i:Nat)(hi:i<5)(hne:(kd==(i:Int))=false)(n:Nat):aT (cc X) (lv (cc X) (n+20)) (ah X 1053 (dW j kd arg)) σ (tb X i)=some (.ok .next (ah X 1053 (dW j kd arg)) σ):=by
 have t:=uX (X:=X) (σ:=σ) (j:=j) (kd:=kd) (arg:=arg) i hi n;rw[hne]at t;refine mX (zU X i hi) fun h1 h2 u_=> ?_
 exact dy h1 t (by rw[h2];rfl)
noncomputable def Cr(X:Xp)(i:Nat):Stmt:=if i=5 then tb X 5 else si (ak (tb X i)) 0
noncomputable abbrev nK(X:Xp)(i:Nat):=sx (Cr X i) 0
structure lC(X:Xp)(i:Nat)(mn:Str)(f:Addr):Prop where
 r:Cr X i= .Return (some (nK X i)) (kq (Cr X i))
 e:nK X i= .Call (.Attribute (ch (ch (nK X i) 0) 0) mn (ps (ch (nK X i) 0))) [ch (nK X i) 1] [] (ps (nK X i))
 p:(aU (ch (ch (nK X i) 0) 0)&&(ps (ch (nK X i) 0)).endLine==(ps (nK X i)).line&&decide ([ch (nK X i) 1].length+0<20)&&al [ch (nK X i) 1])=true
 t:ch (ch (nK X i) 0) 0= .Name ("tracker":Str) (ps (ch (ch (nK X i) 0) 0))
 a:ch (nK X i) 1= .Name ("arg":Str) (ps (ch (nK X i) 1))
 m:yN X av mn f=true
 m2: ∀vs:V,(ez (cO vs) mn).isNone=true
 f1:d8 X f=true∧bK (cc X).K (.ref f)=true
noncomputable def qT(en:En):aG V→aM
 | .ok v KD=> .ok (.ret v) en KD
 | .exc cls KD=> .exc cls en KD
theorem zX{f:Addr}(I:lC X i mn f){vs:V}(hj:σ[j]? =some (aa.dct (cO vs)))(n:Nat)(h:(lv (cc X) (n+10)).cf σ f [.inst av j,arg] []=some o):(lv (cc X) (n+12)).exs (ah X 1053 (dW j kd arg)) σ [Cr X i]=some (qT (ah X 1053 (dW j kd arg)) o):=by
 have hx:(lv (cc X) (n+10)).ev (ah X 1053 (dW j kd arg)) σ (ch (ch (nK X i) 0) 0)=some (.ok (.inst av j) σ):=aW I.t ac rfl
 have ha:dZ (lv (cc X) (n+10)).iv (ah X 1053 (dW j kd arg)) σ [ch (nK X i) 1]=some (.ok [.v arg] σ):=kQ (by rw[I.a];rfl) (bz (by rw[I.a];rfl) (aW I.a ac rfl))
 cases o with
 |ok y KD=>exact aq (dB I.r (kr (show aX (nK X i)=true by rw[I.e];rfl) (gq I.e I.p hx (iV hj (I.m2 _) I.m) I.f1.2 ha (eR (xs:=[.inst av j,arg]) I.f1.1 h))))
 |exc cls KD=>exact bP (jr I.r (gU (show aX (nK X i)=true by rw[I.e];rfl) (gq I.e I.p hx (iV hj (I.m2 _) I.m) I.f1.2 ha (gG (xs:=[.inst av j,arg]) I.f1.1 h))))
theorem pi(hi:i<5){f:Addr}(I:lC X i mn f){vs:V}(hj:σ[j]? =some (aa.dct (cO vs)))(n:Nat)(h:(lv (cc X) (n+28)).cf σ f [.inst av j,arg] []=some o):(lv (cc X) (n+31)).exs (ah X 1053 (dW j (i:Nat) arg)) σ (ak (St X 1053 0))=some (qT (ah X 1053 (dW j (i:Nat) arg)) o):=by
 have m:=zX (kd:=(i:Nat)) (arg:=arg) I hj (n+18) h
 rw[show ak (St X 1053 0)=[tb X 0,tb X 1,tb X 2,tb X 3,tb X 4,tb X 5]from rfl]
 have taken:i<5→aT (cc X) (lv (cc X) (n+30)) (ah X 1053 (dW j (i:Nat) arg)) σ (tb X i)=some (qT (ah X 1053 (dW j (i:Nat) arg)) o):=by
  intro h5;have t:=uX (X:=X) (σ:=σ) (j:=j) (kd:=(i:Nat)) (arg:=arg) i h5 (n+10);rw[beq_self_eq_true]at t;refine mX (zU X i h5) fun h1 h2 h3=> ?_;refine eQ h1 t ?_;refine(h3).symm▸ ?_
  have:Cr X i=si (ak (tb X i)) 0:=if_neg (by exact Iu (by assumption))
  rw[this]at m;exact m
 have stop: ∀{l:List Stmt} {st:Stmt},aT (cc X) (lv (cc X) (n+30)) (ah X 1053 (dW j (i:Nat) arg)) σ st=some (qT (ah X 1053 (dW j (i:Nat) arg)) o)→(lv (cc X) (n+31)).exs (ah X 1053 (dW j (i:Nat) arg)) σ (st::l)=some (qT (ah X 1053 (dW j (i:Nat) arg)) o):=by
  intro l st hs
  cases o with
  |ok v KD=>exact bj hs
  |exc cls KD=>exact bP hs
 rcases lt5 hi with rfl|rfl|rfl|rfl|rfl
 ·exact stop (taken (by assumption))
 ·exact ab (iO 0 (by exact HZ _) rfl (n+10)) (stop (taken (by assumption)))
 ·exact ab (iO 0 (by exact HZ _) rfl (n+10)) (ab (iO 1 (by decide) rfl (n+10)) (stop (taken (by assumption))))
 ·exact ab (iO 0 (by exact HZ _) rfl (n+10)) (ab (iO 1 (by exact H7 ..) rfl (n+10)) (ab (iO 2 (by exact H7 ..) rfl (n+10)) (stop (taken (by assumption)))))
 ·exact ab (iO 0 (by exact HZ _) rfl (n+10)) (ab (iO 1 (by decide) rfl (n+10)) (ab (iO 2 (by exact H7 ..) rfl (n+10)) (ab (iO 3 (by exact H3 _) rfl (n+10)) (stop (taken (by assumption))))))
theorem nf{f:Addr}(I:lC X 5 mn f){vs:V}(hj:σ[j]? =some (aa.dct (cO vs)))(n:Nat)(h:(lv (cc X) (n+29)).cf σ f [.inst av j,arg] []=some o):(lv (cc X) (n+31)).exs (ah X 1053 (dW j 5 arg)) σ (ak (St X 1053 0))=some (qT (ah X 1053 (dW j 5 arg)) o):=by
 rw[show ak (St X 1053 0)=[tb X 0,tb X 1,tb X 2,tb X 3,tb X 4,Cr X 5]from rfl]
 exact ab (iO 0 (by exact HZ _) rfl (n+10)) (ab (iO 1 (by decide) rfl (n+10)) (ab (iO 2 (by exact H7 ..) rfl (n+10)) (ab (iO 3 (by exact H3 _) rfl (n+10)) (ab (iO 4 (by exact H0 _) rfl (n+10)) (zX (kd:=5) I hj (n+19) h)))))
noncomputable def D3:aG V→aG V
 | .ok v KD=> .ok v KD
 | .exc _ KD=> .ok .none KD
theorem kK(n:Nat)(h:(lv (cc X) n).exs (ah X 1053 (dW j kd arg)) σ (ak (St X 1053 0))=some (qT (ah X 1053 (dW j kd arg)) o))(ho: ∀cls KD,o= .exc cls KD→cls="AssertionError"∨cls="ValueError"):(lv (cc X) (n+2)).cf σ 1053 [.inst av j,.int kd,arg] []=some (D3 o):=by
 have e:aT (cc X) (lv (cc X) n) (ah X 1053 (dW j kd arg)) σ (St X 1053 0)=rH (cc X) (lv (cc X) n).exs (ah X 1053 (dW j kd arg)) σ (ak (St X 1053 0)) (Ao (St X 1053 0)):=rfl;rw[B2,h]at e
 have fin: ∀v KD,aT (cc X) (lv (cc X) n) (ah X 1053 (dW j kd arg)) σ (St X 1053 0)=some (.ok (.ret v) (ah X 1053 (dW j kd arg)) KD)→(lv (cc X) (n+2)).cf σ 1053 [.inst av j,.int kd,arg] []=some (.ok v KD):=by
  intro v KD key
  refine bp (a:=1053) (binds:=[("tracker",.inst av j),("kind",.int kd),("arg",arg)]) (so:= .ok (.ret v) (ah X 1053 (dW j kd arg)) KD) ⋯ ⋯ ac ?_ rfl
  rw[show aD X 1053=[St X 1053 0]from rfl]
  exact aq key
 cases o with
 |ok v KD=>exact fin v KD e
 |exc cls KD=>
  have c:eU (cc X) (ah X 1053 (dW j kd arg)) (hT (Ao (St X 1053 0))) cls=true:=by
   rcases ho cls KD rfl with rfl|rfl<;>kernel_rfl
  exact fin .none KD (e.trans (if_pos c))
theorem mG(hi:i<5){f:Addr}(I:lC X i mn f){vs:V}(hj:σ[j]? =some (aa.dct (cO vs)))(n:Nat):
 (d9 ((lv (cc X) (n+28)).cf σ f [.inst av j,arg] []) σ ss→d9 ((lv (cc X) (n+33)).cf σ 1053 [.inst av j,.int (i:Nat),arg] []) σ ss)∧
 (dh ((lv (cc X) (n+28)).cf σ f [.inst av j,arg] []) σ→ ∃ext:Sg,(lv (cc X) (n+33)).cf σ 1053 [.inst av j,.int (i:Nat),arg] []=some (.ok .none (σ++ext))):=by
 refine⟨fun h=>h.elim fun j' KD vs' k' T O M B p hr q1 q2=> ?_,fun h=>h.el fun cls KD hc p hr=> ?_⟩
 ·exact⟨j',KD,vs',k',T,O,M,B,p,kK (n+31) (pi hi I hj n hr) (fun u_ u_ q=>by exact iQ q),q1,q2⟩
 ·obtain⟨ext,rfl⟩:=p
  exact⟨ext,kK (n+31) (pi hi I hj n hr) (fun u_ u_ q=>by refine Cw q fun zz1 zz2=> ?_;subst zz1;subst zz2;exact hc)⟩
theorem z'{f:Addr}(I:lC X 5 mn f){vs:V}(hj:σ[j]? =some (aa.dct (cO vs)))(n:Nat):
 (d9 ((lv (cc X) (n+29)).cf σ f [.inst av j,arg] []) σ ss→d9 ((lv (cc X) (n+33)).cf σ 1053 [.inst av j,.int 5,arg] []) σ ss)∧
 (dh ((lv (cc X) (n+29)).cf σ f [.inst av j,arg] []) σ→ ∃ext:Sg,(lv (cc X) (n+33)).cf σ 1053 [.inst av j,.int 5,arg] []=some (.ok .none (σ++ext))):=by
 refine⟨fun h=>h.elim fun j' KD vs' k' T O M B p hr q1 q2=> ?_,fun h=>h.el fun cls KD hc p hr=> ?_⟩
 ·exact⟨j',KD,vs',k',T,O,M,B,p,kK (n+31) (nf I hj n hr) (fun u_ u_ q=>by exact iQ q),q1,q2⟩
 ·obtain⟨ext,rfl⟩:=p
  exact⟨ext,kK (n+31) (nf I hj n hr) (fun u_ u_ q=>by refine Cw q fun zz1 zz2=> ?_;subst zz1;subst zz2;exact hc)⟩
theorem V0(X:Xp):lC X 0 "pad" 978:=⟨rfl,by kernel_rfl,by kernel_rfl,by kernel_rfl,by kernel_rfl,by kernel_rfl,fun u_=>ac,⟨by kernel_rfl,ac⟩⟩
theorem V1(X:Xp):lC X 1 "shrink" 985:=⟨rfl,by kernel_rfl,by kernel_rfl,by kernel_rfl,by kernel_rfl,by kernel_rfl,fun u_=>ac,⟨by kernel_rfl,ac⟩⟩
theorem V2(X:Xp):lC X 2 "expand" 992:=⟨rfl,by kernel_rfl,by kernel_rfl,by kernel_rfl,by kernel_rfl,by kernel_rfl,fun u_=>ac,⟨by kernel_rfl,ac⟩⟩
theorem V3(X:Xp):lC X 3 "permute" 999:=⟨rfl,by kernel_rfl,by kernel_rfl,by kernel_rfl,by kernel_rfl,by kernel_rfl,fun u_=>ac,⟨by kernel_rfl,ac⟩⟩
theorem V4(X:Xp):lC X 4 "stride" 1006:=⟨rfl,by kernel_rfl,by kernel_rfl,by kernel_rfl,by kernel_rfl,by kernel_rfl,fun u_=>ac,⟨by kernel_rfl,ac⟩⟩
theorem V5(X:Xp):lC X 5 "reshape" 1013:=⟨rfl,by kernel_rfl,by kernel_rfl,by kernel_rfl,rfl,by kernel_rfl,fun u_=>ac,⟨by kernel_rfl,ac⟩⟩
noncomputable abbrev m0(X:Xp):=sx (St X 1013 0) 0
noncomputable abbrev ig(j:Nat)(arg:V):List (Str×V):=[("new_shape",arg),("self",.inst av j)]
theorem sA(hj:σ[j]? =some (aa.dct (cO (.tup [.inst ag k])))){S T M:V}(hk:σ[k]? =some (aa.dct (bf S T O M B)))(n:Nat)(h:(lv (cc X) (n+10)).cf σ 834 [.inst ag k,arg] []=some o):
 (lv (cc X) (n+11)).ev (ah X 1013 (ig j arg)) σ (m0 X)=some o:=by
 have hx:(lv (cc X) (n+10)).ev (ah X 1013 (ig j arg)) σ (ch (ch (m0 X) 0) 0)=some (.ok (.inst ag k) σ):=cZ (i:= -1) ⋯ ⋯ (lH ⋯ ac rfl hj rfl) rfl rfl
 have ha:dZ (lv (cc X) (n+10)).iv (ah X 1013 (ig j arg)) σ [ch (m0 X) 1]=some (.ok [.v arg] σ):=kQ ac (bz aA (aW rfl ac rfl))
 cases o with
 |ok y KD=>exact kr ac (gq (name:="reshape") (args:=[ch (m0 X) 1]) (first:=[.inst ag k]) rfl ⋯ hx (iV (f:=834) hk ac ⋯) ac ha (eR (xs:=[.inst ag k,arg]) ⋯ h))
 |exc cls KD=>exact gU ac (gq (name:="reshape") (args:=[ch (m0 X) 1]) (first:=[.inst ag k]) rfl ⋯ hx (iV (f:=834) hk ac ac) ac ha (gG (xs:=[.inst ag k,arg]) ⋯ h))
noncomputable abbrev m1(X:Xp):=sx (si (ak (St X 1013 1)) 0) 0
theorem rtC(hj:σ[j]? =some (aa.dct (cO (.tup [.inst ag k])))){S T M:V}(hk:σ[k]? =some (aa.dct (bf S T O M B)))(n:Nat)(h:gI ((lv (cc X) (n+17)).cf σ 834 [.inst ag k,arg] []) σ ss):d9 ((lv (cc X) (n+20)).cf σ 1013 [.inst av j,arg] []) σ ss:=by
 refine jy h fun k' KD T' O' M' B' p hr hk'=> ?_;have hj':=i_ p hj;have s0:aT (cc X) (lv (cc X) (n+18)) (ah X 1013 (ig j arg)) σ (St X 1013 0)=some (.ok .next (ah X 1013 (("new_view",.inst ag k')::ig j arg)) KD):=
  cm (x:="new_view") (xp:=ps (sx (St X 1013 0) 1)) rfl ac ac (sA (X:=X) hj hk (n+7) hr)
 have t1:(lv (cc X) (n+18)).tr (ah X 1013 (("new_view",.inst ag k')::ig j arg)) KD (sx (St X 1013 1) 0)=some (.ok true KD):=
  bx (op:= .IsNot) (KE:=KD) (x:= .inst ag k') (y:= .none) rfl aA rfl rfl rfl
 have hb:(lv (cc X) (n+15)).ev (ah X 1013 (("new_view",.inst ag k')::ig j arg)) KD (ch (m1 X) 1)=some (.ok (.tup [.inst ag k']) KD):=
  cL (op:= .Add) (KE:=KD) (KI:=KD) (x:= .tup []) (y:= .tup [.inst ag k']) ⋯ (Cz (v:= .tup [.inst ag k]) (lo:=some (ch (ch (ch (ch (m1 X) 1) 0) 1) 0)) (hi:=some (ch (ch (ch (ch (m1 X) 1) 0) 1) 1)) (st:=none) (sp:=ps (ch (ch (ch (m1 X) 1) 0) 1)) (l:= .int 0) (u:= .int (-1)) (t:= .none) (l':=some 0) (u':=some (-1)) (t':=none) ⋯ (lH ⋯ ac rfl hj' rfl) ⋯ ⋯ rfl rfl rfl rfl rfl)
   (Ay ⋯ ⋯ ⋯) rfl
 have ht:(lv (cc X) (n+17)).ev (ah X 1013 (("new_view",.inst ag k')::ig j arg)) KD (m1 X)=some (.ok (.inst av KD.length) (KD++[aa.dct (cO (.tup [.inst ag k']))])):=
  kr ac (cJ (args:=[ch (m1 X) 1]) (fv:= .ref av) rfl rfl rfl ⋯ (kQ ac (bz aA hb)) (rX (.tup [.inst ag k']) KD (n+4)))
 refine⟨_,_,[],k',T',O',M',B',p.trans (GQ _ _),bp (a:=1013) (binds:=[("self",.inst av j),("new_shape",arg)]) (so:= .ok (.ret (.inst av KD.length)) (ah X 1013 (("new_view",.inst ag k')::ig j arg)) (KD++[aa.dct (cO (.tup [.inst ag k']))])) ⋯ ⋯ ac ?_ rfl,cG,bY hk'⟩
 rw[show aD X 1013=[St X 1013 0,St X 1013 1,St X 1013 2]from rfl]
 refine ab s0 (bj (eQ rfl t1 ?_))
 rw[show ak (St X 1013 1)=[si (ak (St X 1013 1)) 0]from rfl]
 exact aq (dB rfl ht)
theorem rtE(hj:σ[j]? =some (aa.dct (cO (.tup [.inst ag k])))){S T M:V}(hk:σ[k]? =some (aa.dct (bf S T O M B)))(n:Nat)(h:dh ((lv (cc X) (n+17)).cf σ 834 [.inst ag k,arg] []) σ):dh ((lv (cc X) (n+20)).cf σ 1013 [.inst av j,arg] []) σ:=by
 refine dC h fun cls KD hc p hr=> ?_
 have s0:aT (cc X) (lv (cc X) (n+18)) (ah X 1013 (ig j arg)) σ (St X 1013 0)=some (.exc cls (ah X 1013 (ig j arg)) KD):=by
  have e:aT (cc X) (lv (cc X) (n+18)) (ah X 1013 (ig j arg)) σ (St X 1013 0)=bQ (ah X 1013 (ig j arg)) ((lv (cc X) (n+18)).ev (ah X 1013 (ig j arg)) σ (m0 X)) fun y KD=>(eL (cc X) (lv (cc X) (n+18)).ev 8 (sx (St X 1013 0) 1) (ah X 1013 (ig j arg)) KD y).map fun p=> .ok .next p.1 p.2:=rfl;rw[e,sA hj hk (n+7) hr];rfl
 refine⟨cls,KD,hc,p,bp (a:=1013) (binds:=[("self",.inst av j),("new_shape",arg)]) (so:= .exc cls (ah X 1013 (ig j arg)) KD) ⋯ ⋯ ac ?_ rfl⟩
 rw[show aD X 1013=[St X 1013 0,St X 1013 1,St X 1013 2]from rfl]
 exact bP s0
end
noncomputable def BV:Option (aG V)→Sg
 |some (.ok _ σ)=>σ
 |_=>[]
noncomputable def Er(X:Xp)(ss:List Int):Option (aG V):=(lv (cc X) 100).cf [aa.lst [],aa.lst [],aa.lst [],aa.lst [],aa.lst []] 891 [vI ss] []
noncomputable abbrev aK:List (List Int):=[[4],[2,3],[6],[2,2,2],[3,1,2],[1,4],[8],[2,1,3],[2,4],[5]]
noncomputable def Dg:List Int→List Int
 |[]=>[]
 |_::r=>aS 1 r::Dg r
noncomputable def iB(ss:List Int):List Int:=dT ss (Dg ss)
noncomputable abbrev zV(ss:List Int):aa:=aa.dct (bf (vI ss) (vI (iB ss)) (.int 0) .none (.bool true))
noncomputable abbrev oC(k:Nat):aa:=aa.dct (cO (.tup [.inst ag k]))
noncomputable def g0(X:Xp)(ss:List Int)(i:Nat):aa:=(BV (Er X ss)).getD i (aa.lst [])
theorem BQ(X:Xp)(ss:List Int)(h:ss∈aK)(n:Nat)(c0 c1 c2 c3 c4:aa):(lv (cc X) (n+100)).cf [c0,c1,c2,c3,c4] 891 [vI ss] []=some (.ok (.inst av 11) [c0,c1,c2,c3,c4,g0 X ss 5,g0 X ss 6,g0 X ss 7,g0 X ss 8,g0 X ss 9,zV ss,oC 10]):=by
 revert ss;refine aj ?_ (aj ?_ (aj ?_ (aj ?_ (aj ?_ (aj ?_ (aj ?_ (aj ?_ (aj ?_ (aj ?_ bZ)))))))))
 all_goals kernel_rfl
noncomputable def pQ(ss:List Int):List Int:=ss.map (· +1)
noncomputable def wr(ss:List Int):List (Int×Int):=ss.map fun s=>(1,s+1)
noncomputable abbrev Ec(ss:List Int):aa:=aa.dct (bf (vI (pQ ss)) (vI (iB ss)) (.int (-(iB ss).sum)) (vP (wr ss)) (.bool false))
noncomputable def Fq(X:Xp)(ss:List Int):Option (aG V):=(lv (cc X) 100).cf (BV (Er X ss)) 978 [.inst av 11,vP (GT ss.length (1,0))] []
noncomputable def g1(X:Xp)(ss:List Int)(i:Nat):aa:=(BV (Fq X ss)).getD i (aa.lst [])
noncomputable abbrev St1(X:Xp)(n:Nat)(c0 c1 c2 c3 c4 c5 c6 c7 c8 c9:aa)(ss:List Int):Prop:=(lv (cc X) (n+100)).cf [c0,c1,c2,c3,c4,c5,c6,c7,c8,c9,zV ss,oC 10] 978 [.inst av 11,vP (GT ss.length (1,0))] []=some (.ok (.inst av 18) [c0,c1,c2,c3,c4,c5,c6,c7,c8,c9,zV ss,oC 10,g1 X ss 12,g1 X ss 13,g1 X ss 14,g1 X ss 15,g1 X ss 16,Ec ss,oC 17])
theorem yE(X:Xp)(n:Nat)(c0 c1 c2 c3 c4 c5 c6 c7 c8 c9:aa): ∀ss∈aK.drop 5,St1 X n c0 c1 c2 c3 c4 c5 c6 c7 c8 c9 ss:=by
 refine aj ?_ (aj ?_ (aj ?_ (aj ?_ (aj ?_ bZ))))
 all_goals kernel_rfl
theorem AR(X:Xp)(ss:List Int)(h:ss∈aK)(n:Nat)(c0 c1 c2 c3 c4 c5 c6 c7 c8 c9:aa):St1 X n c0 c1 c2 c3 c4 c5 c6 c7 c8 c9 ss:=by
 revert ss;refine aj ?_ (aj ?_ (aj ?_ (aj ?_ (aj ?_ (yE X n c0 c1 c2 c3 c4 c5 c6 c7 c8 c9)))))
 all_goals kernel_rfl
noncomputable def vo:V→Option (Addr×Nat)
 | .inst C k=>some (C,k)
 |_=>none
noncomputable def okO:aG V→Option (V×Sg)
 | .ok v σ=>some (v,σ)
 |_=>none
noncomputable def B7:aa→Option (List (Str×V))
 | .dct fs=>some fs
 |_=>none
noncomputable def wK(fs:List (Str×V)):Option (List V):=fs.head?.bind fun p=>(eN p.2).bind fun vs=>if fs.tail.isEmpty=true∧p.1=("views":Str)then some vs else none
noncomputable def wv(fs:List (Str×V)):Option V:=fs.head?.bind fun p=>if fs.map (·.1)=[("shape":Str),("strides":Str),("offset":Str),("mask":Str),("contiguous":Str)]then some p.2 else none
noncomputable def D2(m:Nat)(r:Option (aG V)):Option (V×Sg):=(r.bind okO).bind fun o=>(vo o.1).bind fun q=>if q.1=av then(o.2[q.2]?.bind B7).bind fun fs=>(wK fs).bind fun vs=>vs.getLast?.bind fun v=>(vo v).bind fun u=>if u.1=ag then(o.2[u.2]?.bind B7).bind fun fs=>(wv fs).map fun s=>(s,o.2.take m)else none else none
theorem wf{v:V}{q:Addr×Nat}(e:vo v=some q):v= .inst q.1 q.2:=by cases v<;>first|exact no e|(cases e;rfl)
theorem FM{r:aG V}{q:V×Sg}(e:okO r=some q):r= .ok q.1 q.2:=by cases r<;>first|exact no e|(cases e;rfl)
theorem AE{r:aa}{q:List (Str×V)}(e:B7 r=some q):r= .dct q:=by cases r<;>first|exact no e|(cases e;rfl)
theorem zl{vs:List V}(e:wK fs=some vs):fs=cO (.tup vs):=by
 cases fs with
 |nil=>exact no e
 |cons p l=>
  refine ae e fun q hq e1=>ae e1 fun ws hw e2=>bI e2 fun h e3=> ?_
  cases hq
  cases IH e3
  obtain⟨n,x⟩:=p;obtain⟨h1,h2⟩:=h
  cases l with
  |cons=>cases h1
  |nil=>
   cases eA hw
   cases h2
   rfl
theorem vq{l:List (Str×V)}{a:Str}{t:List Str}(h:l.map (·.1)=a::t): ∃x l',l=(a,x)::l'∧l'.map (·.1)=t:=by
 cases l with
 |nil=>cases h
 |cons p l=>exact⟨p.2,l,by rw[←(List.cons.inj h).1],(List.cons.inj h).2⟩
theorem zn{s:V}(e:wv fs=some s): ∃T O M B,fs=bf s T O M B:=by
 refine ae e fun q hq e1=>bI e1 fun h e2=> ?_
 cases IH e2
 refine bc (vq h) fun x1 l1 h1 k1=> ?_;subst h1
 cases hq
 refine bc (vq k1) fun x2 l2 h2 k2=> ?_;refine bc (vq k2) fun x3 l3 h3 k3=> ?_;refine bc (vq k3) fun x4 l4 h4 k4=> ?_;refine bc (vq k4) fun x5 l5 h5 k5=> ?_;have hn:l5=[]:=List.map_eq_nil_iff.mp k5
 exact⟨x2,x3,x4,x5,by rw[h2,h3,h4,h5,hn]⟩
theorem q9{m:Nat}{r:Option (aG V)}{xs:List Int}(h:D2 m r=some (vI xs,σ)):d9 r σ xs:=by
 refine ae h fun o ho w=>ae ho fun r' hr h1=>ae w fun q hq w=>bI w fun hC w=>ae w fun fs hf w=>ae hf fun cl hj h2=>ae w fun vs hv w=>ae w fun v hl w=>ae w fun u hu w=>bI w fun hD w=>ae w fun gs hg w=>ae hg fun cl2 hk h3=>aN w fun s hs w1=> ?_;obtain⟨v',KD⟩:=o;obtain⟨C,j⟩:=q;obtain⟨D,k⟩:=u;have e1:s=vI xs:=congrArg Prod.fst w1;have e2:KD.take m=σ:=congrArg Prod.snd w1;subst e1 e2;have hC:C=av:=hC;have hD:D=ag:=hD;subst hC hD
 cases FM h1
 cases wf hq
 cases wf hu
 cases AE h2
 cases AE h3
 cases zl hv
 obtain⟨T,O,M,B,rfl⟩:=zn hs;obtain⟨init,rfl⟩:=List.getLast?_eq_some_iff.mp hl;exact⟨j,KD,init,k,T,O,M,B,List.take_prefix _ _,hr,hj,hk⟩
noncomputable abbrev DT(X:Xp)(ss:List Int)(c0 c1 c2 c3 c4 c5 c6 c7 c8 c9 d0 d1 d2 d3 d4 e0 e1 e2:aa):Sg:=[c0,c1,c2,c3,c4,c5,c6,c7,c8,c9,zV ss,oC 10,d0,d1,d2,d3,d4,Ec ss,oC 17,e0,e1,e2]
noncomputable abbrev Fb(X:Xp)(n:Nat)(c0 c1 c2 c3 c4 c5 c6 c7 c8 c9 d0 d1 d2 d3 d4 e0 e1 e2:aa)(ss xs:List Int):Prop:=D2 22 ((lv (cc X) (n+100)).cf (DT X ss c0 c1 c2 c3 c4 c5 c6 c7 c8 c9 d0 d1 d2 d3 d4 e0 e1 e2) 1013 [.inst av 18,vI xs] [])=some (vI xs,DT X ss c0 c1 c2 c3 c4 c5 c6 c7 c8 c9 d0 d1 d2 d3 d4 e0 e1 e2)
noncomputable abbrev DL(X:Xp)(n:Nat)(c0 c1 c2 c3 c4 c5 c6 c7 c8 c9 d0 d1 d2 d3 d4 e0 e1 e2:aa)(l:List (List Int)):Prop:= ∀ss∈l,∀xs∈mf (aS 1 (pQ ss)),lD (pQ ss) xs=true→Fb X n c0 c1 c2 c3 c4 c5 c6 c7 c8 c9 d0 d1 d2 d3 d4 e0 e1 e2 ss xs
theorem Ek(X:Xp)(n:Nat)(c0 c1 c2 c3 c4 c5 c6 c7 c8 c9 d0 d1 d2 d3 d4 e0 e1 e2:aa):DL X n c0 c1 c2 c3 c4 c5 c6 c7 c8 c9 d0 d1 d2 d3 d4 e0 e1 e2 (aK.drop 8):=by
 refine aj ?_ (aj ?_ bZ)
 all_goals
  refine aj ?_ (aj ?_ (aj ?_ (aj ?_ (aj ?_ (aj ?_ (aj ?_ (aj ?_ bZ)))))))
  all_goals first
   |exact fun hf=>absurd hf (by decide)
   |exact fun u_=>by kernel_rfl
theorem CR(X:Xp)(n:Nat)(c0 c1 c2 c3 c4 c5 c6 c7 c8 c9 d0 d1 d2 d3 d4 e0 e1 e2:aa):DL X n c0 c1 c2 c3 c4 c5 c6 c7 c8 c9 d0 d1 d2 d3 d4 e0 e1 e2 (aK.drop 6):=by
 refine aj ?_ (aj ?_ (Ek X n c0 c1 c2 c3 c4 c5 c6 c7 c8 c9 d0 d1 d2 d3 d4 e0 e1 e2))
 all_goals
  refine aj ?_ (aj ?_ (aj ?_ (aj ?_ (aj ?_ (aj ?_ (aj ?_ (aj ?_ bZ)))))))
  all_goals first
   |exact fun hf=>absurd hf (by decide)
   |exact fun u_=>by kernel_rfl
theorem Dl(X:Xp)(n:Nat)(c0 c1 c2 c3 c4 c5 c6 c7 c8 c9 d0 d1 d2 d3 d4 e0 e1 e2:aa):DL X n c0 c1 c2 c3 c4 c5 c6 c7 c8 c9 d0 d1 d2 d3 d4 e0 e1 e2 (aK.drop 4):=by
 refine aj ?_ (aj ?_ (CR X n c0 c1 c2 c3 c4 c5 c6 c7 c8 c9 d0 d1 d2 d3 d4 e0 e1 e2))
 all_goals
  refine aj ?_ (aj ?_ (aj ?_ (aj ?_ (aj ?_ (aj ?_ (aj ?_ (aj ?_ bZ)))))))
  all_goals first
   |exact fun hf=>absurd hf (by decide)
   |exact fun u_=>by kernel_rfl
theorem CY(X:Xp)(n:Nat)(c0 c1 c2 c3 c4 c5 c6 c7 c8 c9 d0 d1 d2 d3 d4 e0 e1 e2:aa):DL X n c0 c1 c2 c3 c4 c5 c6 c7 c8 c9 d0 d1 d2 d3 d4 e0 e1 e2 (aK.drop 2):=by
 refine aj ?_ (aj ?_ (Dl X n c0 c1 c2 c3 c4 c5 c6 c7 c8 c9 d0 d1 d2 d3 d4 e0 e1 e2))
 all_goals
  refine aj ?_ (aj ?_ (aj ?_ (aj ?_ (aj ?_ (aj ?_ (aj ?_ (aj ?_ bZ)))))))
  all_goals first
   |exact fun hf=>absurd hf (by decide)
   |exact fun u_=>by kernel_rfl
theorem FE(X:Xp)(n:Nat)(c0 c1 c2 c3 c4 c5 c6 c7 c8 c9 d0 d1 d2 d3 d4 e0 e1 e2:aa):DL X n c0 c1 c2 c3 c4 c5 c6 c7 c8 c9 d0 d1 d2 d3 d4 e0 e1 e2 aK:=by
 refine aj ?_ (aj ?_ (CY X n c0 c1 c2 c3 c4 c5 c6 c7 c8 c9 d0 d1 d2 d3 d4 e0 e1 e2))
 all_goals
  refine aj ?_ (aj ?_ (aj ?_ (aj ?_ (aj ?_ (aj ?_ (aj ?_ (aj ?_ bZ)))))))
  all_goals first
   |exact fun hf=>absurd hf (by decide)
   |exact fun u_=>by kernel_rfl
section
variable {X:Xp}{own:List (Str×V)}{xs ax mu ts:List Int}{as:List (Int×Int)}{kd:Int}{v:V}{M:V}{o:Int}
noncomputable def vm(X:Xp)(σ:Sg)(n j:Nat)(kd:Int)(ss:List Int)(v:V):Prop:= ∃F:Bool,(∀KD m,∃ext:Sg,(lv (cc X) (m+60)).cf KD 1058 [vI ss,.int kd,v] []=some (.ok (.bool F) (KD++ext)))∧
 (F=true→ ∃ss',ss'.length≤100∧d9 ((lv (cc X) (n+120)).cf σ 1053 [.inst av j,.int kd,v] []) σ ss'∧ ∀KD m,∃ext:Sg,(lv (cc X) (m+60)).cf KD 1063 [vI ss,.int kd,v] []=some (.ok (vI ss') (KD++ext)))∧
 (F=false→ ∃ext:Sg,(lv (cc X) (n+120)).cf σ 1053 [.inst av j,.int kd,v] []=some (.ok .none (σ++ext)))
theorem Da(hv:eS σ k ss ts o M B)(hj:σ[j]? =some (oC k))(h1:1≤ss.length)(h3:ss.length≤3)(hs: ∀s∈ss,1≤s∧s≤99)(hz: ∀p∈ss.zip ts,p.1=1→p.2=0)(hA:Ah kd ss v)(n:Nat):vm X σ n j kd ss v:=by
 have h0:ss≠[]:=fun q=>by rw[q]at h1;simp at h1
 rcases hA with⟨rfl,mu,rfl,hl,hm⟩|⟨rfl,as,rfl,hl,hb⟩|⟨rfl,as,rfl,hl,hb⟩|⟨rfl,xs,rfl,hl,hb⟩|⟨rfl,ax,rfl,hl⟩
 ·refine⟨nz mu,fun KD m=>Bm (dI ‹_› ‹_› (by exact ac)) (by exact Ia (by assumption)) m,fun hF=> ?_,fun hF=> ?_⟩
  ·have hM:qH mu:=fun m q=>⟨fun e=>by have:=GZ.mp hF m q;simp[e]at this,by have:=hm m q;exact bg ‹_› (by exact ac)⟩
   exact⟨fe ss mu,by unfold fe;rw[GO,GS];exact wq ‹_› (by exact ac),(mG (i:=4) (by exact H0 _) (V4 X) hj (n+87)).1 (CD (As X) hj hv.at_ (n+98) (x7 hv (by exact Ia (by assumption)) h0 (fun s q=>by have:=hs s q;exact yt ‹_› (by exact ac)) hl hM (n+28))),fun KD m=>CQ (bg ‹_› (by exact ac)) hM m⟩
  ·exact(mG (ss:=[]) (i:=4) (by exact H0 _) (V4 X) hj (n+87)).2 (C4 (As X) hj hv.at_ (n+98) (zG (dI ‹_› ‹_› (by exact ac)) hF (n+28)))
 ·refine⟨sO ss as,fun KD m=>AY (bg ‹_› (by exact ac)) (bg ‹_› (by exact ac)) m,fun hF=> ?_,fun hF=> ?_⟩
  ·rw[qh]at hF
   exact⟨fb ss as,by unfold fb;rw[GO,GS];exact wq ‹_› (by exact ac),(mG (i:=0) (by exact HZ _) (V0 X) hj (n+87)).1 (CD (DR X) hj hv.at_ (n+98) (F4 hv (by exact Ia (by assumption)) h0 (fun s q=>by have:=hs s q;exact yt ‹_› (by exact ac)) hb (bg ‹_› (by exact ac)) hF (n+28))),fun KD m=>CL (bg ‹_› (by exact ac)) m⟩
  ·rw[qh]at hF
   exact(mG (ss:=[]) (i:=0) (by exact HZ _) (V0 X) hj (n+87)).2 (C4 (DR X) hj hv.at_ (n+98) (E_ hv (bg ‹_› (by exact ac)) (bg ‹_› (by exact ac)) hF (n+28)))
 ·refine⟨sK ss as,fun KD m=>BC (bg ‹_› (by exact ac)) (bg ‹_› (by exact ac)) m,fun hF=> ?_,fun hF=> ?_⟩
  ·rw[pB]at hF
   exact⟨eO as,by rw[GO];exact bg ‹_› (by exact ac),(mG (i:=1) (by decide) (V1 X) hj (n+87)).1 (CD (CS X) hj hv.at_ (n+98) (zi hv (bg ‹_› (by exact ac)) h0 (fun s q=>by have:=hs s q;exact yt ‹_› (by exact ac)) hb (bg ‹_› (by exact ac)) hF (n+28))),fun KD m=>DN (bg ‹_› (by exact ac)) m⟩
  ·rw[pB]at hF
   exact(mG (ss:=[]) (i:=1) (by exact H7 ..) (V1 X) hj (n+87)).2 (C4 (CS X) hj hv.at_ (n+98) (zQ hv (bg ‹_› (by exact ac)) (bg ‹_› (by exact ac)) hF (n+28)))
 ·have E:=yC (X:=X) hv (bg ‹_› (by exact ac)) h0 (fun s q=>by have:=hs s q;exact yt ‹_› (by exact ac)) (fun x q=>HX (hb x q) (by decide)) (xs:=xs) (bg ‹_› (by exact ac)) (n+28)
  have q:kb ss xs=true↔(xs.length=ss.length∧kc ss xs ts=true∧ ∀x∈xs,0≤x):=by
   rw[sX,Gj,beq_iff_eq];constructor
   ·rintro ⟨h1,h2⟩
    have hq:xs.length=ss.length:=by exact cN ‹_›
    rw[j7 (ts:=ts) hq hv.lt (fun s q=>(hs s q).1) hz,Gj]at h2
    exact⟨hq,h2.1,fun x hx=>by simpa using GZ.mp h2.2 x hx⟩
   ·rintro ⟨hq,h2,h3⟩
    refine⟨by exact cI ‹_›,?_⟩
    rw[j7 (ts:=ts) hq hv.lt (fun s q=>(hs s q).1) hz,h2,Gn];exact GZ.mpr fun x hx=>decide_eq_true (h3 x hx)
  refine⟨kb ss xs,fun KD m=>Bq (bg ‹_› (by exact ac)) (bg ‹_› (by exact ac)) m,fun hF=> ?_,fun hF=> ?_⟩
  ·refine dw fun kk=> ?_;refine mX (q.mp hF) fun q1 q2 q3=> ?_<;>(refine kk ?_;clear kk)
   exact⟨xs,by exact bg ‹_› (by exact ac),(mG (i:=2) (by decide) (V2 X) hj (n+87)).1 (CD (DB X) hj hv.at_ (n+98) (E.1 q1 q2 q3)),fun KD m=>⟨[],by rw[G4];exact xD (.inl rfl) m⟩⟩
  ·refine(mG (ss:=[]) (i:=2) (by decide) (V2 X) hj (n+87)).2 (C4 (DB X) hj hv.at_ (n+98) (E.2 ?_))
   by_cases q1:xs.length=ss.length
   ·cases q2:kc ss xs ts with
    |false=>exact .inr (.inl rfl)
    |true=>
     refine .inr (.inr (Gs fun h=> ?_))
     have:kb ss xs=true:=q.mpr ⟨q1,q2,fun x hx=>Gs fun h'=>h ⟨x,hx,by exact Int.not_le.mp ‹_›⟩⟩
     rw[hF]at this;exact bM this
   ·exact .inl q1
 ·refine⟨fj ss.length ax,fun KD m=>B8 (bg ‹_› (by exact ac)) (bg ‹_› (by exact ac)) m,fun hF=> ?_,fun hF=> ?_⟩
  ·refine oA (fj.mem hF) fun q1 q2=> ?_
   exact⟨ax.map fun a=>ss.getD a.toNat 0,by rw[GO];exact bg ‹_› (by exact ac),(mG (i:=3) (by exact H3 _) (V3 X) hj (n+87)).1 (CD (DH X) hj hv.at_ (n+98) (xE hv (bg ‹_› (by exact ac)) h0 (fun s q=>by have:=hs s q;exact yt ‹_› (by exact ac)) (bg ‹_› (by exact ac)) hF (n+28))),fun KD m=>D_ (bg ‹_› (by exact ac)) (bg ‹_› (by exact ac)) q2 m⟩
  ·exact(mG (ss:=[]) (i:=3) (by exact H3 _) (V3 X) hj (n+87)).2 (C4 (DH X) hj hv.at_ (n+98) (v9 hv (bg ‹_› (by exact ac)) (bg ‹_› (by exact ac)) hF (n+28)))
theorem Bo(hv:eS σ k ss ts o M B)(hj:σ[j]? =some (oC k))(h1:1≤ss.length)(h3:ss.length≤3)(hs: ∀s∈ss,1≤s∧s≤99)(hx:bR xs)(hx0:xs≠[])(hB:B= .bool true∨(lD ss xs=true→ ∀m,d9 ((lv (cc X) (m+100)).cf σ 1013 [.inst av j,vI xs] []) σ xs))(n:Nat):vm X σ n j 5 ss (vI xs):=by
 have hS:bR ss:=⟨by exact Ia (by assumption),fun s q=>by have:=hs s q;exact qA ‹_› (by exact ac)⟩
 refine⟨lD ss xs,fun KD m=>Br hx hS m,fun hF=>⟨xs,by have:=hx.1;exact bg ‹_› (by exact ac),?_,fun KD m=>⟨[],by rw[G4];exact xD (.inr rfl) m⟩⟩,fun hF=> ?_⟩
 ·refine(z' (V5 X) hj (n+87)).1 ?_
  rcases hB with rfl|hB
  ·rw[pL,Gj]at hF
   exact rtC hj hv.at_ (n+96) (vj hv (by exact Ia (by assumption)) (fun s q=>by have:=hs s q;exact yt ‹_› (by exact ac)) hx hx0 (n+33) hF.1 hF.2)
  ·exact hB hF (n+16)
 ·rw[pL]at hF
  exact(z' (ss:=[]) (V5 X) hj (n+87)).2 (rtE hj hv.at_ (n+96) (vQ hv (by exact Ia (by assumption)) (fun s q=>by have:=hs s q;exact yt ‹_› (by exact ac)) hx (n+33) hF))
end
section
variable {X:Xp}{own:List (Str×V)}{xs ax mu ts:List Int}{as:List (Int×Int)}{kd:Int}{v:V}{S T M:V}{o:Int}
theorem vk{C:Nat}{p f:Addr}{r:List Value}(hk:σ[k]? =some (.dct fs))(h1:(plainGet c.K C name&&hasDictIn c.K C)=true)(h2:findIn c.K (.ref C) name=some (some (.ref p)))(h3:ez fs name=none)(h4:specialIn c.K (.ref p) "__get__"=some (some (.builtin "property.__get__"))∧takesIn c.K (.ref p)=some true)(h5:recIn c.K p "property"=some (.ref f::r)):ji c σ (.inst C k) name=some (.prop f):=by
 show(fH σ k).bind _=_;rw[lQ hk]
 show(if _ then _ else none)=_
 rw[if_pos h1,h2];show gb _ _ _ _=_;unfold gb;rw[h3]
 show(if _ then _ else none)=_
 rw[if_pos h4,h5];rfl
theorem vi:gr σ (.tup (l++[x])) (-1)=some x:=by
 show gF _ _=_;unfold gF
 refine dP (by decide) ?_
 have:seqIndex? (-1) (l++[x]).length=some l.length:=by
  simp[seqIndex?]
  try simp+arith
 refine(this).symm▸ ?_;simp
theorem shp(hj:σ[j]? =some (aa.dct (cO (.tup (l++[.inst ag k])))))(hk:σ[k]? =some (aa.dct (bf S T O M B)))(hy:db S=true)(n:Nat):(lv (cc X) (n+12)).cf σ 917 [.inst av j] []=some (.ok S σ):=by
 refine bp (a:=917) (binds:=[("self",.inst av j)]) (so:= .ok (.ret S) (ah X 917 [("self",.inst av j)]) σ) ⋯ ⋯ ac ?_ rfl
 rw[show aD X 917=[St X 917 0]from rfl]
 exact aq (dB rfl (iW (name:="shape") rfl ac (cZ (i:= -1) rfl ac (lH rfl ac rfl hj rfl) rfl vi) (nO rfl hk rfl hy)))
theorem rC(he:e= .Attribute (ch e 0) ("shape":Str) (ps e))(hp:aU (ch e 0)=true)(hx:(lv (cc X) (n+12)).ev en σ (ch e 0)=some (.ok (.inst av j) σ))(hj:σ[j]? =some (aa.dct (cO (.tup (l++[.inst ag k])))))(hk:σ[k]? =some (aa.dct (bf S T O M B)))(hy:db S=true):(lv (cc X) (n+13)).ev en σ e=some (.ok S σ):=
 DJ he hp hx (vk (p:=918) (r:=((recIn (cc X).K 918 "property").getD []).tail) hj ⋯ rfl rfl ⟨rfl,rfl⟩ rfl) (shp hj hk hy n) hy
theorem sn{vs:V}(he:e= .Attribute (ch e 0) ("views":Str) (ps e))(hp:aU (ch e 0)=true)(hx:(lv (cc X) n).ev en σ (ch e 0)=some (.ok (.inst av j) σ))(hj:σ[j]? =some (aa.dct (cO vs)))(hy:db vs=true):(lv (cc X) (n+1)).ev en σ e=some (.ok vs σ):=
 iW he hp hx (De hj hy)
structure Bw(X:Xp)(e:Expr):Prop where
 c:iN e
 i:ec e=[]
 f: ∀own,hY (ah X 1073 own) e=true
 t: ∀own' own σ,du 8 (ch e 1) ⟨am (dK e).names (ah X 1073 own),own',(ah X 1073 own).fre,none⟩ σ (.inst ag k)=some (⟨am (dK e).names (ah X 1073 own),(("view":Str),V.inst ag k)::own',(ah X 1073 own).fre,none⟩,σ)
 b:ch e 0= .Tuple [ch (ch e 0) 0,ch (ch e 0) 1,ch (ch e 0) 2,ch (ch e 0) 3] (tk (ch e 0)) (ps (ch e 0))
 s:al [ch (ch e 0) 0]=true∧al [ch (ch e 0) 1]=true∧al [ch (ch e 0) 2]=true∧al [ch (ch e 0) 3]=true
 a:ch (ch e 0) 0= .Attribute (ch (ch (ch e 0) 0) 0) ("shape":Str) (ps (ch (ch e 0) 0))∧ch (ch e 0) 1= .Attribute (ch (ch (ch e 0) 1) 0) ("strides":Str) (ps (ch (ch e 0) 1))∧ch (ch e 0) 2= .Attribute (ch (ch (ch e 0) 2) 0) ("offset":Str) (ps (ch (ch e 0) 2))∧ch (ch e 0) 3= .Attribute (ch (ch (ch e 0) 3) 0) ("mask":Str) (ps (ch (ch e 0) 3))
 n: ∀(i:Nat),i<4→ch (ch (ch e 0) i) 0= .Name ("view":Str) (ps (ch (ch (ch e 0) i) 0))
 l: ∀own' own,aR (cc X) ⟨am (dK e).names (ah X 1073 own),(("view":Str),V.inst ag k)::own',(ah X 1073 own).fre,none⟩ "view"=some (.inst ag k)
theorem rvs(I:Bw (k:=k) X e)(hx:(lv (cc X) (n+9)).ev (ah X 1073 own) σ (ch e 2)=some (.ok (.tup [.inst ag k]) σ))(hi:aX (ch e 2)=false)(hk:σ[k]? =some (aa.dct (bf S T O M B)))(h1:db S=true)(h2:db T=true)(h3:db O=true)(h4:db M=true):(lv (cc X) (n+11)).ev (ah X 1073 own) σ e=some (.ok (.lst σ.length) (σ++[aa.lst [.tup [S,T,O,M]]])):=by
 refine bO (S:=fun u_=>True) (t:= .seq ([()].map fun u_=>V.inst ag k) 0) (as:=[()]) (f:=fun u_=>V.inst ag k) (b:=fun u_=>[(("view":Str),V.inst ag k)]) (P:=fun u_=>True) (F:=fun u_=> .tup [S,T,O,M]) I.c I.i (I.f own) (bz hi hx) rfl (fun u_=>trivial) (ai _ _) (by decide) trivial (fun a u_ own' acc u_=>⟨trivial,I.t own' own _,?_⟩)
 have hk':(σ++[aa.lst acc])[k]? =some (aa.dct (bf S T O M B)):=bY hk;have nm: ∀i,i<4→(lv (cc X) (n+8)).ev ⟨am (dK e).names (ah X 1073 own),(("view":Str),V.inst ag k)::own',(ah X 1073 own).fre,none⟩ (σ++[aa.lst acc]) (ch (ch (ch e 0) i) 0)=some (.ok (.inst ag k) (σ++[aa.lst acc])):=fun i hi=>bT (I.n i hi) (I.l own' own)
 have pb: ∀i,i<4→aU (ch (ch (ch e 0) i) 0)=true:=fun i hi=>by rw[I.n i hi];rfl
 exact(congrArg ((lv (cc X) (n+10)).ev _ _) I.b).trans (gK (bA I.s.1 (iW I.a.1 (pb 0 (by decide)) (nm 0 (by decide)) (nO rfl hk' rfl h1)) (bA I.s.2.1 (iW I.a.2.1 (pb 1 (by decide)) (nm 1 (by decide)) (nO rfl hk' rfl h2))
  (bA I.s.2.2.1 (iW I.a.2.2.1 (pb 2 (by decide)) (nm 2 (by decide)) (nO rfl hk' rfl h3)) (bA I.s.2.2.2 (iW I.a.2.2.2 (pb 3 (by decide)) (nm 3 (by decide)) (nO rfl hk' rfl h4)) gO)))) (show 4≤2^20 by decide))
noncomputable abbrev lp(X:Xp):=St X 1073 4
noncomputable abbrev tt(X:Xp)(i:Nat):=si (ak (lp X)) i
noncomputable abbrev vs3(X:Xp):=sx (tt X 3) 0
noncomputable abbrev vs7(X:Xp):=ch (ch (sx (tt X 7) 0) 1) 0
theorem IV3(X:Xp)(k:Nat):Bw (k:=k) X (vs3 X):=⟨by kernel_rfl,rfl,fun u_=>by kernel_rfl,fun u_ u_ u_=>by kernel_rfl,by kernel_rfl,⟨by kernel_rfl,by kernel_rfl,by kernel_rfl,by kernel_rfl⟩,⟨by kernel_rfl,by kernel_rfl,by kernel_rfl,by kernel_rfl⟩,uC ⋯ ⋯ ⋯ ⋯,fun u_ u_=>rfl⟩
theorem IV7(X:Xp)(k:Nat):Bw (k:=k) X (vs7 X):=⟨by kernel_rfl,rfl,fun u_=>by kernel_rfl,fun u_ u_ u_=>by kernel_rfl,by kernel_rfl,⟨by kernel_rfl,by kernel_rfl,by kernel_rfl,by kernel_rfl⟩,⟨by kernel_rfl,by kernel_rfl,by kernel_rfl,by kernel_rfl⟩,uC ⋯ ⋯ ⋯ ⋯,fun u_ u_=>by kernel_rfl⟩
end
section
section
theorem Di(he:e= .BoolOp .And [ch e 0,ch e 1] (ps e))(h1:(lv c n).tr en σ (ch e 0)=some (.ok true σ))(h2:(lv c n).tr en σ (ch e 1)=some (.ok b KE)):(lv c (n+1)).tr en σ e=some (.ok b KE):=by
 refine(he).symm▸ ?_
 exact i9 (dt h1 (dt h2 (by cases b<;>rfl)))
theorem F3(he:e= .BoolOp .Or [ch e 0,ch e 1] (ps e))(h1:(lv c n).tr en σ (ch e 0)=some (.ok false σ))(h2:(lv c n).tr en σ (ch e 1)=some (.ok b KE)):(lv c (n+1)).tr en σ e=some (.ok b KE):=by
 rw[he]
 exact i9 (dt h1 (dt h2 (by cases b<;>rfl)))
theorem fx{a:Bool}(h1:mi σ n x y=some a)(h2:dN σ n l m=some b):dN σ (n+1) (x::l) (y::m)=some (a&&b):=by
 show((mi σ n x y).bind fun a=>(dN σ n l m).map fun b=>a&&b)=_;rw[h1,h2];rfl
theorem D8(n:Nat): ∀(l:List (Int×Int)),l.length<n→dN σ (n+4) (l.map pP) (l.map pP)=some true:=by
 induction n with
 |zero=>exact fun u_ h=>absurd h (Ih _)
 |succ n ih=>
  intro l h
  cases l with
  |nil=>rfl
  |cons p l=>
   have ih:=ih l (Ij h)
   have h1:mi σ (n+4) (pP p) (pP p)=some true:=by
    show dN σ (n+3) [.int p.1,.int p.2] [.int p.1,.int p.2]=_
    have:=fG (σ:=σ) (n+3) [p.1,p.2] [p.1,p.2] (by exact H7 ..)
    rw[beq_self_eq_true]at this;exact this
   exact fx h1 ih
theorem xU{ts:List Int}{o:Int}{M:V}{a b:Nat}(h1:ss.length≤100)(h2:ts.length≤100)(hM:M= .none∨ ∃ms:List (Int×Int),M=vP ms∧ms.length≤100)(ha:σ[a]? =some (aa.lst [.tup [vI ss,vI ts,.int o,M]]))(hb:σ[b]? =some (aa.lst [.tup [vI ss,vI ts,.int o,M]])):eo σ .NotEq (.lst a) (.lst b)=some false:=by
 have e1:mi σ 196 (vI ss) (vI ss)=some true:=by
  have:=fG (σ:=σ) 195 ss ss (fA ‹_› (by exact ac))
  rw[beq_self_eq_true]at this;exact this
 have e2:mi σ 195 (vI ts) (vI ts)=some true:=by
  have:=fG (σ:=σ) 194 ts ts (fA ‹_› (by exact ac))
  rw[beq_self_eq_true]at this;exact this
 have e3:mi σ 194 (.int o) (.int o)=some true:=by
  show some (o==o)=_;rw[beq_self_eq_true]
 have e4:mi σ 193 M M=some true:=by
  rcases hM with rfl|⟨ms,rfl,hl⟩
  ·rfl
  ·exact D8 188 ms (fA ‹_› (by exact ac))
 have e5:mi σ 198 (.tup [vI ss,vI ts,.int o,M]) (.tup [vI ss,vI ts,.int o,M])=some true:=fx e1 (fx e2 (fx e3 (fx e4 (rfl:dN σ 193 [] []=some true))))
 have e6:mi σ 200 (.lst a) (.lst b)=some true:=by
  refine(?_:(aI σ a).bind (fun a=>(aI σ b).bind fun b=>if a.length=b.length then dN σ 199 a b else some false)=_)
  rw[aP ha,aP hb];exact fx e5 (rfl:dN σ 198 [] []=some true)
 refine(?_:(mi σ 200 (.lst a) (.lst b)).map (!·)=_);refine(e6).symm▸ ?_;rfl
end
variable {X:Xp}{own:List (Str×V)}
theorem r7{x1 x2 x3:Str}{f:Addr}{v1 v2 v3:V}(he:e= .Call (.Name fn (ps (ch e 0))) [ch e 1,ch e 2,ch e 3] [] (ps e))(hx:aR (cc X) (ah X 1073 own) fn=some (.val (.ref f)))(hf:d8 X f=true∧bK (cc X).K (.ref f)=true)(n1:ch e 1= .Name x1 (ps (ch e 1)))(n2:ch e 2= .Name x2 (ps (ch e 2)))(n3:ch e 3= .Name x3 (ps (ch e 3)))(k1:dQ X 1073 x1=true)(k2:dQ X 1073 x2=true)(k3:dQ X 1073 x3=true)
 (l1:own.lookup x1=some v1) (l2:own.lookup x2=some v2) (l3:own.lookup x3=some v3) (h:(lv (cc X) (n+10)).cf σ f [v1,v2,v3] []=some (.ok y KD)):(lv (cc X) (n+11)).ev (ah X 1073 own) σ e=some (.ok y KD):=by
 have A: ∀{e:Expr} {x:Str} {v:V},e= .Name x (ps e)→dQ X 1073 x=true→own.lookup x=some v→(lv (cc X) (n+10)).iv (ah X 1073 own) σ e=some (.ok (.v v) σ):=fun h1 h2 h3=>bz (by rw[h1];rfl) (aW h1 h2 h3)
 exact kr (by rw[he];rfl) (cJ he (by rw[n1,n2,n3];rfl) hx (by rw[n1,n2,n3,hf.2];rfl) (iv3 (by rw[n1];rfl) (by rw[n2,n3];rfl) (A n1 k1 l1) (A n2 k2 l2) (A n3 k3 l3)) (eR (xs:=[v1,v2,v3]) hf.1 h))
variable {xs ts:List Int}{kd o:Int}{v M:V}
theorem D1{ks:Nat}(hv:eS σ k ss ts o M B)(hj:σ[j]? =some (oC k))(hm:vm X σ n j kd ss v)(h3:ss.length≤3)(hks:σ[ks]? =some (aa.lst [.tup [vI ss,vI ts,.int o,M]]))(lt:own.lookup ("tracker":Str)=some (.inst av j))(lk:own.lookup ("kind":Str)=some (.int kd))(la:own.lookup ("arg":Str)=some v)(ls:own.lookup ("shape":Str)=some (vI ss))(lsh:own.lookup ("shapes":Str)=some (.lst ks)):
 ∃(told:V) (ext:Sg),(lv (cc X) (n+122)).exs (ah X 1073 own) σ [tt X 4,tt X 5,tt X 6,tt X 7]=some (.ok .next (ah X 1073 (("told",told)::own)) (σ++ext)):=by
 refine bW hm fun F hfit hgive hnone=> ?_;have e3:=hv.lt
 --the last statement,wherever the store has come to
 have last: ∀(told:V) (KD:Sg),σ<+:KD→ ∃ext:Sg,(lv (cc X) (n+122)).exs (ah X 1073 (("told",told)::own)) KD [tt X 7]=some (.ok .next (ah X 1073 (("told",told)::own)) (KD++ext)):=by
  intro told KD p;have hv':=hv.app p;have hj':=i_ p hj;have hks':=i_ p hks
  have hsh:=rC (X:=X) (l:=[]) (n:=n+106) (σ:=KD) (e:=ch (ch (sx (tt X 7) 0) 0) 0) (en:=ah X 1073 (("told",told)::own)) ⋯ ⋯ (aW (n:=n+117) (x:="tracker") ⋯ ac lt) hj' hv'.at_ rfl
  have t0:(lv (cc X) (n+120)).tr (ah X 1073 (("told",told)::own)) KD (ch (sx (tt X 7) 0) 0)=some (.ok false KD):=by
   refine bx (n:=n+119) (op:= .NotEq) (KE:=KD) (x:=vI ss) (y:=vI ss) ⋯ aA hsh (aW (n:=n+118) (x:="shape") ⋯ ac ls) ?_
   show(eo KD .Eq (vI ss) (vI ss)).map (!·)=_
   rw[vv (fA ‹_› (by exact ac)),beq_self_eq_true]
   rfl
  have hw:=rvs (X:=X) (n:=n+108) (own:=("told",told)::own) (σ:=KD) (IV7 X k) (sn (n:=n+116) ⋯ ⋯ (aW (n:=n+115) (x:="tracker") ⋯ ac lt) hj' rfl) ⋯ hv'.at_ rfl rfl rfl (by rcases hv.mq with rfl|⟨ms,rfl,_⟩<;>rfl)
  have t1:(lv (cc X) (n+120)).tr (ah X 1073 (("told",told)::own)) KD (ch (sx (tt X 7) 0) 1)=some (.ok false (KD++[aa.lst [.tup [vI ss,vI ts,.int o,M]]])):=
   bx (op:= .NotEq) (KE:=KD++[aa.lst [.tup [vI ss,vI ts,.int o,M]]]) (x:= .lst KD.length) (y:= .lst ks) ⋯ aA hw (aW (x:="shapes") ⋯ ac lsh) (xU (bg ‹_› (by exact ac)) (dI ‹_› ‹_› (by exact ac)) (hv.mq.imp id fun h'=>bW h' fun ms e l u_=>⟨ms,e,by exact dI ‹_› ‹_› (by exact ac)⟩) cG (bY hks'))
  exact⟨[aa.lst [.tup [vI ss,vI ts,.int o,M]]],aq (dy rfl (F3 rfl t0 t1) rfl)⟩
 --what is told
 have told4: ∀(y:V) (KD:Sg),(lv (cc X) (n+120)).cf σ 1053 [.inst av j,.int kd,v] []=some (.ok y KD)→aT (cc X) (lv (cc X) (n+121)) (ah X 1073 own) σ (tt X 4)=some (.ok .next (ah X 1073 (("told",y)::own)) KD):=fun y KD h=>
  cm (x:="told") (xp:=ps (sx (tt X 4) 1)) rfl ac ac (r7 (X:=X) (fn:="_law_try") (x1:="tracker") (x2:="kind") (x3:="arg") ⋯ rfl ⟨by kernel_rfl,ac⟩ rfl rfl rfl ac ac ac lt lk la h)
 --told is not None,and whether it fits
 have s5: ∀(y:V) (KD:Sg),(!aY y)=F→ ∃ext:Sg,aT (cc X) (lv (cc X) (n+121)) (ah X 1073 (("told",y)::own)) KD (tt X 5)=some (.ok .next (ah X 1073 (("told",y)::own)) (KD++ext)):=by
  intro y KD hy;refine oE (hfit KD (n+59)) fun ext hf=> ?_
  refine⟨ext,dy (KE:=KD++ext) rfl (bx (op:= .NotEq) (KE:=KD) (x:= .bool (!aY y)) (y:= .bool F) rfl aA (qf (op:= .IsNot) (KE:=KD) (x:=y) (y:= .none) ⋯ aA (aW (x:="told") ⋯ ac rfl) rfl rfl)
   (r7 (X:=X) (fn:="_law_fits") (x1:="shape") (x2:="kind") (x3:="arg") ⋯ rfl ⟨by kernel_rfl,ac⟩ ⋯ ⋯ ⋯ ac ac ac ls lk la hf) ?_) rfl⟩
  show(some ((!aY y)==F)).map (!·)=_;rw[hy,beq_self_eq_true];rfl
 have t60: ∀(y:V) (KD:Sg),(lv (cc X) (n+120)).tr (ah X 1073 (("told",y)::own)) KD (ch (sx (tt X 6) 0) 0)=some (.ok (!aY y) KD):=fun y KD=>
  bx (op:= .IsNot) (KE:=KD) (x:=y) (y:= .none) ⋯ aA (aW (x:="told") ⋯ ac rfl) rfl rfl
 cases F with
 |false=>
  refine oE (hnone rfl) fun x1 h1=> ?_;refine oE (s5 .none (σ++x1) rfl) fun x2 h2=> ?_;refine oE (last .none (σ++x1++x2) ((GQ _ _).trans (GQ _ _))) fun x3 h4=> ?_;refine⟨.none,x1++x2++x3,?_⟩;rw[←G0,←G0];exact ab (told4 .none _ h1) (ab h2 (ab (dy rfl (z_ (es:=[ch (sx (tt X 6) 0) 1]) rfl (t60 .none _)) rfl) h4))
 |true=>
  obtain⟨ss',hl',⟨j',KD,vs',k',T',O',M',B',p,hr,hj',hk'⟩,hnew⟩:=hgive rfl;refine oE (s5 (.inst av j') KD rfl) fun x2 h2=> ?_;refine oE (hnew (KD++x2) (n+58)) fun x3 h5=> ?_;refine oE (last (.inst av j') (KD++x2++x3) ((p.trans (GQ _ _)).trans (GQ _ _))) fun x4 h4=> ?_;refine oE p fun x1 zz1=> ?_;subst zz1
  have t61:(lv (cc X) (n+120)).tr (ah X 1073 (("told",.inst av j')::own)) (σ++x1++x2) (ch (sx (tt X 6) 0) 1)=some (.ok false (σ++x1++x2++x3)):=by
   refine bx (op:= .NotEq) (KE:=σ++x1++x2) (x:=vI ss') (y:=vI ss') ⋯ aA (rC (X:=X) (l:=vs') ⋯ ⋯ (aW (x:="told") ⋯ ac rfl) (bY hj') (bY hk') rfl)
    (r7 (X:=X) (fn:="_law_new") (x1:="shape") (x2:="kind") (x3:="arg") ⋯ rfl ⟨by kernel_rfl,ac⟩ ⋯ ⋯ ⋯ ac ac ac ls lk la h5) ?_
   show(eo (σ++x1++x2++x3) .Eq (vI ss') (vI ss')).map (!·)=_
   rw[vv (fA ‹_› (by exact ac)),beq_self_eq_true]
   rfl
  refine⟨.inst av j',x1++x2++x3++x4,?_⟩;rw[←G0,←G0,←G0];exact ab (told4 _ _ hr) (ab h2 (ab (dy rfl (Di rfl (t60 _ _) t61) rfl) h4))
end
section
variable {X:Xp}{own:List (Str×V)}{Z:Sg}{kS kL:Nat}{ns:List Int}{a b o:Int}{ts:List Int}{M:V}
theorem A9(h:Kk kS kL Z)(hv:eS Z k ss ts o M B)(h1:k≠kS)(h2:k≠kL):eS (W kS kL (Z++ext) ns a b) k ss ts o M B:=⟨by rw[Cu h1 h2];exact bY hv.at_,hv.lt,hv.ib,hv.mq⟩
theorem xg(hz:0≤z∧z≤900){xs:List Int}(h:xs∈mf z):bR xs∧xs≠[]:=by
 have A:z.natAbs≤1000:=qA hz (.refl true)
 have hd:(z.fdiv 2).natAbs≤1000:=HX (lV (a:=z) (b:=2) (by exact Gx _)) A
 have B:z.natAbs≤900:=qA hz (.refl true);have O: ∀{k:Int},k.natAbs.ble 1000=true→k.natAbs≤1000:=fun h=>H9 h;have S: ∀{a:Int} {l:List Int},(a::l).length.ble 4=true→(∀s∈a::l,s.natAbs≤1000)→bR (a::l)∧a::l≠[]:=fun h k=>⟨⟨H9 h,k⟩,HI _ _⟩;revert h xs;show∀xs∈mf z,_;refine aj ?_ (aj ?_ (aj ?_ (aj ?_ (aj ?_ (aj ?_ (aj ?_ (aj ?_ bZ)))))))
 ·exact S rfl (aj A bZ)
 ·exact S rfl (aj (O rfl) (aj A bZ))
 ·exact S rfl (aj (O rfl) (aj hd bZ))
 ·exact S rfl (aj (zw B (HY 1) (.refl true)) bZ)
 ·exact S rfl (aj (O rfl) (aj (E8 B (.refl true)) bZ))
 ·exact S rfl (aj A (aj (O rfl) (aj (O rfl) bZ)))
 ·exact S rfl (aj (E8 B (.refl true)) bZ)
 ·exact S rfl (aj A (aj (O rfl) bZ))
structure CA(X:Xp)(kS kL:Nat)(Z:Sg)(j k:Nat)(ss ts:List Int)(o:Int)(M B:V):Prop where
 kk:Kk kS kL Z
 v:eS Z k ss ts o M B
 jt:Z[j]? =some (oC k)
 ne:k≠kS∧k≠kL∧j≠kS∧j≠kL
 l1:1≤ss.length
 l3:ss.length≤3
 sd: ∀s∈ss,1≤s∧s≤99
 z: ∀p∈ss.zip ts,p.1=1→p.2=0
 p:0≤aS 1 ss∧aS 1 ss≤900
 b:B= .bool true∨ ∀xs∈mf (aS 1 ss),lD ss xs=true→ ∀(c c' c'':aa) (ns:List Int) (a b:Int) (m:Nat),d9 ((lv (cc X) (m+100)).cf (W kS kL (Z++[c]++[c']++[c'']) ns a b) 1013 [.inst av j,vI xs] []) (W kS kL (Z++[c]++[c']++[c'']) ns a b) xs
theorem Fz(t:CA X kS kL Z j k ss ts o M B)(ho:eG ns a b)(lst:own.lookup ("state":Str)=some (.lst kS))(ls:own.lookup ("shape":Str)=some (vI ss))(lt:own.lookup ("tracker":Str)=some (.inst av j))(n:Nat):
 ∃(v1 v2 v3 v4 v5:V) (ext:Sg) (ns':List Int) (a' b':Int),eG ns' a' b'∧(lv (cc X) (n+122)).exs (ah X 1073 own) (W kS kL Z ns a b) (ak (lp X))=some (.ok .next (ah X 1073 (("told",v5)::("shapes",v4)::("before",v3)::("arg",v2)::("kind",v1)::own)) (W kS kL (Z++ext) ns' a' b')):=by
 rw[show ak (lp X)=[tt X 0,tt X 1,tt X 2,tt X 3,tt X 4,tt X 5,tt X 6,tt X 7]from rfl]
 refine dw fun kk=> ?_
 refine cC (m_ (X:=X) (en:=ah X 1073 own) (e:=sx (tt X 0) 0) (m:=6) t.kk ho (by exact Gx _) (by exact Gx _) ⋯ rfl rfl ⋯ aA aA (n+97) (aW (x:="state") rfl ac lst) rfl) fun y eK a1 b1 y0 y6 ho1 h0=> ?_<;>(refine kk ?_;clear kk)
 have s0:aT (cc X) (lv (cc X) (n+121)) (ah X 1073 own) (W kS kL Z ns a b) (tt X 0)=some (.ok .next (ah X 1073 (("kind",.int y)::own)) (W kS kL Z eK a1 b1)):=cm (x:="kind") (xp:=ps (sx (tt X 0) 1)) rfl ac ac h0;have s1: ∀(v:V) (KD:Sg),(lv (cc X) (n+120)).cf (W kS kL Z eK a1 b1) 1068 [.lst kS,vI ss,.int y] []=some (.ok v KD)→aT (cc X) (lv (cc X) (n+121)) (ah X 1073 (("kind",.int y)::own)) (W kS kL Z eK a1 b1) (tt X 1)=some (.ok .next (ah X 1073 (("arg",v)::("kind",.int y)::own)) KD):=fun v KD h=>
  cm (x:="arg") (xp:=ps (sx (tt X 1) 1)) rfl ac ac (r7 (X:=X) (fn:="_law_arg") (x1:="state") (x2:="shape") (x3:="kind") ⋯ rfl ⟨by kernel_rfl,ac⟩ rfl rfl rfl ac ac ac lst ls rfl h)
 --from the third statement on
 have rest: ∀(v:V) (ext:Sg) (ns2:List Int) (a2 b2:Int),eG ns2 a2 b2→vm X (W kS kL (Z++ext++[aa.lst [.tup [vI ss,vI ts,.int o,M]]]) ns2 a2 b2) n j y ss v→
  ∃(v3 v4 v5:V) (ext':Sg) (ns':List Int) (a' b':Int),eG ns' a' b'∧(lv (cc X) (n+122)).exs (ah X 1073 (("arg",v)::("kind",.int y)::own)) (W kS kL (Z++ext) ns2 a2 b2) [tt X 2,tt X 3,tt X 4,tt X 5,tt X 6,tt X 7]=some (.ok .next (ah X 1073 (("told",v5)::("shapes",v4)::("before",v3)::("arg",v)::("kind",.int y)::own)) (W kS kL (Z++ext') ns' a' b')):=by
  intro v ext ns2 a2 b2 ho2 hm;have f7:=A9 (ext:=ext) (ns:=ns2) (a:=a2) (b:=b2) t.kk t.v t.ne.1 t.ne.2.1
  have hj1:(W kS kL (Z++ext) ns2 a2 b2)[j]? =some (oC k):=by rw[Cu t.ne.2.2.1 t.ne.2.2.2];exact bY t.jt
  have s2:aT (cc X) (lv (cc X) (n+121)) (ah X 1073 (("arg",v)::("kind",.int y)::own)) (W kS kL (Z++ext) ns2 a2 b2) (tt X 2)=some (.ok .next (ah X 1073 (("before",.tup [.inst ag k])::("arg",v)::("kind",.int y)::own)) (W kS kL (Z++ext) ns2 a2 b2)):=
   cm (x:="before") (xp:=ps (sx (tt X 2) 1)) rfl ac ac (sn rfl ac (aW (x:="tracker") rfl ac lt) hj1 rfl)
  have s3:aT (cc X) (lv (cc X) (n+121)) (ah X 1073 (("before",.tup [.inst ag k])::("arg",v)::("kind",.int y)::own)) (W kS kL (Z++ext) ns2 a2 b2) (tt X 3)=some (.ok .next (ah X 1073 (("shapes",.lst (W kS kL (Z++ext) ns2 a2 b2).length)::("before",.tup [.inst ag k])::("arg",v)::("kind",.int y)::own)) (W kS kL (Z++ext) ns2 a2 b2++[aa.lst [.tup [vI ss,vI ts,.int o,M]]])):=
   AF (x:="shapes") (xp:=ps (sx (tt X 3) 1)) ⋯ ⋯ ac (rvs (X:=X) (own:=("before",.tup [.inst ag k])::("arg",v)::("kind",.int y)::own) (IV3 X k) (aW (x:="before") rfl ac rfl) aA f7.at_ rfl rfl rfl (by rcases t.v.mq with rfl|⟨ms,rfl,_⟩<;>rfl))
  rw[←io t.kk.app]at s3;have nU:=A9 (ext:=ext++[aa.lst [.tup [vI ss,vI ts,.int o,M]]]) (ns:=ns2) (a:=a2) (b:=b2) t.kk t.v t.ne.1 t.ne.2.1
  have hj2:(W kS kL (Z++ext++[aa.lst [.tup [vI ss,vI ts,.int o,M]]]) ns2 a2 b2)[j]? =some (oC k):=by rw[Cu t.ne.2.2.1 t.ne.2.2.2];exact bY (bY t.jt)
  rw[←G0]at nU
  refine rh (D1 (X:=X) (own:=("shapes",.lst (W kS kL (Z++ext) ns2 a2 b2).length)::("before",.tup [.inst ag k])::("arg",v)::("kind",.int y)::own) (ks:=(W kS kL (Z++ext) ns2 a2 b2).length) nU hj2 hm t.l3 (by rw[io t.kk.app];exact cG) lt rfl rfl ls rfl) fun told ext' h4=> ?_
  refine⟨.tup [.inst ag k],.lst (W kS kL (Z++ext) ns2 a2 b2).length,told,ext++[aa.lst [.tup [vI ss,vI ts,.int o,M]]]++ext',ns2,a2,b2,ho2,?_⟩;rw[←io (t.kk.app.app)]at h4;rw[←G0,←G0];exact ab s2 (ab s3 h4)
 have fin: ∀(v:V) (ext:Sg) (ns2:List Int) (a2 b2:Int),eG ns2 a2 b2→(lv (cc X) (n+120)).cf (W kS kL Z eK a1 b1) 1068 [.lst kS,vI ss,.int y] []=some (.ok v (W kS kL (Z++ext) ns2 a2 b2))→vm X (W kS kL (Z++ext++[aa.lst [.tup [vI ss,vI ts,.int o,M]]]) ns2 a2 b2) n j y ss v→
  ∃(v1 v2 v3 v4 v5:V) (ext:Sg) (ns':List Int) (a' b':Int),eG ns' a' b'∧(lv (cc X) (n+122)).exs (ah X 1073 own) (W kS kL Z ns a b) [tt X 0,tt X 1,tt X 2,tt X 3,tt X 4,tt X 5,tt X 6,tt X 7]=some (.ok .next (ah X 1073 (("told",v5)::("shapes",v4)::("before",v3)::("arg",v2)::("kind",v1)::own)) (W kS kL (Z++ext) ns' a' b')):=by
  intro v ext ns2 a2 b2 ho2 hcf hm;refine dw fun kk=> ?_;obtain⟨v3,v4,v5,ext',ns',a',b',ho',h⟩:=rest v ext ns2 a2 b2 ho2 hm<;>(refine kk ?_;clear kk)
  exact⟨.int y,v,v3,v4,v5,ext',ns',a',b',ho',ab s0 (ab (s1 v _ hcf) h)⟩
 have mk: ∀(ext:Sg) (ns2:List Int) (a2 b2:Int),eS (W kS kL (Z++ext++[aa.lst [.tup [vI ss,vI ts,.int o,M]]]) ns2 a2 b2) k ss ts o M B∧(W kS kL (Z++ext++[aa.lst [.tup [vI ss,vI ts,.int o,M]]]) ns2 a2 b2)[j]? =some (oC k):=fun ext ns2 a2 b2=>by
  refine⟨?_,by rw[Cu t.ne.2.2.1 t.ne.2.2.2];exact bY (bY t.jt)⟩
  rw[G0];exact A9 t.kk t.v t.ne.1 t.ne.2.1
 by_cases h5:y=5
 ·subst h5;refine dw fun kk=> ?_;refine jy (C5 (X:=X) t.kk ho1 t.l1 t.l3 t.sd (n+60)) fun zs c c' ns2 a2 b2 hz ho2 hcf=> ?_<;>(refine kk ?_;clear kk)
  refine dw fun kk=> ?_;refine oA (xg t.p hz) fun q1 q2=> ?_<;>(refine kk ?_;clear kk)
  rw[G0]at hcf;refine fin _ _ ns2 a2 b2 ho2 hcf (Bo (mk _ _ _ _).1 (mk _ _ _ _).2 t.l1 t.l3 t.sd q1 q2 (t.b.imp id fun hb hf m=> ?_) n);have:=hb zs hz hf c c' (aa.lst [.tup [vI ss,vI ts,.int o,M]]) ns2 a2 b2 m;rw[G0 Z [c] [c']]at this;exact this
 ·refine dw fun kk=> ?_
  refine qz (Fr (X:=X) (kd:=y) t.kk ho1 t.l1 t.l3 t.sd ⟨y0,by exact il4 ‹_› ‹_›⟩ (n+60)) fun v ext ns2 a2 b2 hA ho2 hcf=> ?_<;>(refine kk ?_;clear kk)
  exact fin v ext ns2 a2 b2 ho2 hcf (Da (mk _ _ _ _).1 (mk _ _ _ _).2 t.l1 t.l3 t.sd t.z hA n)
theorem ca: ∀l:List Int,cr L (l.map V.int)=true
 |[]=>rfl
 |_::l=>ca l
theorem Dk(h:Kk kS kL Z)(hl: ∀x∈Z,br Z.length x=true):(W kS kL Z ns a b).all (br Z.length)=true:=by
 refine GZ.mpr fun x hx=> ?_;unfold W at hx
 rcases List.mem_or_eq_of_mem_set hx with hx|rfl
 ·rcases List.mem_or_eq_of_mem_set hx with hx|rfl
  ·exact hl x hx
  ·exact ca ns
 ·refine(?_:(decide (kL<Z.length)&&(true&&(true&&true)))=true);refine(decide_eq_true h.l).symm▸ ?_;rfl
noncomputable def ki(kS j:Nat)(ss:List Int)(own:List (Str×V)):Prop:=own.lookup ("state":Str)=some (.lst kS)∧own.lookup ("shape":Str)=some (vI ss)∧own.lookup ("tracker":Str)=some (.inst av j)
theorem uv(hk:Kk kS kL Z)(hj:j<Z.length)(hl: ∀x∈Z,br Z.length x=true)(h:ki kS j ss own)(x y z:Int)(ht:t= .rng x y z): ∃own',ki kS j ss own'∧jS Z.length t (ah X 1073 own) (W kS kL (Z++ext) ns a b)=(ah X 1073 own',W kS kL Z ns a b):=by
 subst ht;unfold jS
 by_cases q:(W kS kL (Z++ext) ns a b).length≤Z.length
 ·refine(if_pos q).symm▸ ?_;rw[lg,G6]at q;have:ext=[]:=Hb (ne0 ‹_›);subst this
  exact⟨own,h,by rw[G4]⟩
 ·refine(if_neg q).symm▸ ?_;simp only
  have e1:(W kS kL (Z++ext) ns a b).take Z.length=W kS kL Z ns a b:=by
   rw[io hk,←lg (ns:=ns) (a:=a) (b:=b),List.take_left'];rfl
  rw[e1,Dk hk hl]
  rw[if_pos (by rfl)]
  refine⟨own.filter (fun p=>(own.lookup p.1).any (h_ Z.length)),?_,rfl⟩;refine dw fun kk=> ?_;refine mX h fun h1 h2 h3=> ?_<;>(refine kk ?_;clear kk)
  have key: ∀{x:Str} {v:V},own.lookup x=some v→h_ Z.length v=true→(own.filter (fun p=>(own.lookup p.1).any (h_ Z.length))).lookup x=some v:=by
   intro x v hx hv
   rw[aZ (q:=fun z=>(own.lookup z).any (h_ Z.length)),hx,if_pos (by simpa using hv)]
  exact⟨key h1 (decide_eq_true hk.s),key h2 (ca ss),key h3 (decide_eq_true hj)⟩
theorem pf(t:CA X kS kL Z j k ss ts o M B)(hl: ∀x∈Z,br Z.length x=true)(n:Nat): ∀(m:Nat) (fuel:Nat) (i:Int) (own:List (Str×V)) (ns:List Int) (a b:Int),m<fuel→ki kS j ss own→eG ns a b→
 ∃(own':List (Str×V)) (ns':List Int) (a' b':Int),ki kS j ss own'∧eG ns' a' b'∧gw Z.length (eL (cc X) (lv (cc X) (n+122)).ev 8) (lv (cc X) (n+122)).exs (sx (lp X) 0) (ak (lp X)) [] fuel (ah X 1073 own) (W kS kL Z ns a b) (.rng i (m:Int) 1)=some (.ok .next (ah X 1073 own') (W kS kL Z ns' a' b')):=by
 intro m;have hj:j<Z.length:=(G1.mp t.jt).1
 induction m with
 |zero=>
  intro fuel i own ns a b hf hk ho
  obtain⟨f,rfl⟩: ∃f,fuel=f+1:=⟨fuel-1,by exact fu ‹_›⟩
  refine⟨own,ns,a,b,hk,ho,?_⟩;have e:ay (W kS kL Z ns a b) (.rng i ((0:Nat):Int) 1)=some none:=rfl;have e2:(lv (cc X) (n+122)).exs (ah X 1073 own) (W kS kL Z ns a b) []=some (.ok .next (ah X 1073 own) (W kS kL Z ns a b)):=rfl;exact qx e e2
 |succ m ih=>
  intro fuel i own ns a b hf hk ho
  obtain⟨f,rfl⟩: ∃f,fuel=f+1:=⟨fuel-1,by exact fu ‹_›⟩
  have e:ay (W kS kL Z ns a b) (.rng i ((m+1:Nat):Int) 1)=some (some (.int i,.rng (i+1) (m:Int) 1)):=by
   have h0:(0:Int)<((m+1:Nat):Int):=by simp+arith
   have h1:((m+1:Nat):Int)-1=(m:Int):=by simp+arith
   rw[qI,if_pos h0,h1]
  have e2:eL (cc X) (lv (cc X) (n+122)).ev 8 (sx (lp X) 0) (ah X 1073 own) (W kS kL Z ns a b) (.int i)=some (ah X 1073 (("turn",.int i)::own),W kS kL Z ns a b):=rfl;refine dw fun kk=> ?_;obtain⟨v1,v2,v3,v4,v5,ext,eK,a1,b1,ho1,h1⟩:=Fz (own:=("turn",.int i)::own) t ho hk.1 hk.2.1 hk.2.2 n<;>(refine kk ?_;clear kk)
  have hk1:ki kS j ss (("told",v5)::("shapes",v4)::("before",v3)::("arg",v2)::("kind",v1)::("turn",.int i)::own):=hk;refine dw fun kk=> ?_;refine aL (uv (X:=X) (ns:=eK) (a:=a1) (b:=b1) (ext:=ext) (t:= .rng (i+1) (m:Int) 1) t.kk hj hl hk1 _ _ _ rfl) fun own2 hk2 hc=> ?_<;>(refine kk ?_;clear kk)
  refine dw fun kk=> ?_;refine bN (ih f (i+1) own2 eK a1 b1 (Ij ‹_›) hk2 ho1) fun own3 ns3 a3 b3 hk3 ho3 h3=> ?_<;>(refine kk ?_;clear kk)
  refine⟨own3,ns3,a3,b3,hk3,ho3,?_⟩;rw[m8 e e2 h1];refine(congr (congr (congrArg _ (congrArg Prod.fst hc)) (congrArg Prod.snd hc)) rfl).trans h3
theorem lpS(t:CA X kS kL Z j k ss ts o M B)(hl: ∀x∈Z,br Z.length x=true)(hk:ki kS j ss own)(ho:eG ns a b)(n:Nat): ∃(own':List (Str×V)) (ns':List Int) (a' b':Int),ki kS j ss own'∧eG ns' a' b'∧aT (cc X) (lv (cc X) (n+122)) (ah X 1073 own) (W kS kL Z ns a b) (lp X)=some (.ok .next (ah X 1073 own') (W kS kL Z ns' a' b')):=by
 refine dw fun kk=> ?_
 refine bN (pf t hl n 6 az 0 own ns a b (by decide) hk ho) fun own' ns' a' b' h1 h2 h3=> ?_<;>(refine kk ?_;clear kk)
 refine⟨own',ns',a',b',h1,h2,BW (t:= .rng 0 6 1) rfl ac (xR ac (bL (fv:= .type "range") (v:= .v (.int 6)) rfl rfl rfl ac (bz aA rfl) rfl)) rfl ?_⟩
 rw[lg,show cW (lp X)=[]from rfl]
 exact h3
theorem CV: ∀n,n<64→(qC n none (some 16) none).length≤16:=by decide+kernel
theorem zh(l:List Int)(h:l.length<64): ∃l':List Int,mF (l.map V.int) none (some 16) none=l'.map V.int∧l'.length≤16:=by
 have hi:=CV l.length h;unfold mF;rw[GO];generalize qC l.length none (some 16) none=is at hi;refine⟨is.filterMap (l[·]?),?_,HX (List.length_filterMap_le _ _) hi⟩;rw[List.map_filterMap];congr 1;funext i;rw[Hc]
theorem yu{cf:cb}(h:qe σ k=some l)(hl:l.length≤2^20):aJ c cf σ (.builtin "len") [.v (.lst k)] []=some (.ok (.v (.int l.length)) σ):=by
 show((qe σ k).bind fun l=>if l.length≤2^20 then some (l.length:Int)else none).map (fun i=>aG.ok (IV.v (V.int i)) σ)=_
 rw[h]
 show(if _ then _ else none:Option Int).map _=_
 rw[if_pos hl];rfl
noncomputable abbrev xK(X:Xp):=sx (St X 1032 0) 0
theorem BU(l:List Int)(vs:List Value)(m:Nat)(h:l.length<64)(n:Nat): ∃(c1:aa) (ns:List Int) (l1:List Int),c1=aa.lst (l1.map V.int)∧ns.length≤16∧(lv (cc X) (n+30)).cf [aa.ro (l.map V.int) vs m] 1032 [.lst 0] []=some (.ok (.lst 3) [aa.ro (l.map V.int) vs m,c1,aa.lst (ns.map V.int),aa.lst [.lst 2,.int 0,.int (7+(l.length:Nat))]]):=by
 refine aL (zh l h) fun l' e1 e2=> ?_
 refine⟨aa.lst (l'.map V.int),l'.map fun k=>(cF k).fmod 1000000007,l',rfl,by rw[GO];exact e2,?_⟩
 refine bp (a:=1032) (binds:=[("script",.lst 0)]) (so:= .ok (.ret (.lst 3)) (ah X 1032 [("script",.lst 0)]) [aa.ro (l.map V.int) vs m,aa.lst (l'.map V.int),aa.lst ((l'.map fun k=>(cF k).fmod 1000000007).map V.int),aa.lst [.lst 2,.int 0,.int (7+(l.length:Nat))]]) ⋯ ⋯ ac ?_ rfl
 rw[show aD X 1032=[St X 1032 0]from rfl]
 refine aq (dB rfl ?_)
 have hc:(lv (cc X) (n+27)).ev (ah X 1032 [("script",.lst 0)]) [aa.ro (l.map V.int) vs m] (ch (xK X) 0)=some (.ok (.lst 2) [aa.ro (l.map V.int) vs m,aa.lst (l'.map V.int),aa.lst ((l'.map fun k=>(cF k).fmod 1000000007).map V.int)]):=by
  have sl:cz [aa.ro (l.map V.int) vs m] (.lst 0) none (some 16) none=some (.lst 1,[aa.ro (l.map V.int) vs m,aa.lst (l'.map V.int)]):=by
   unfold cz
   rw[if_neg (by decide)]
   refine(?_:(if(l.map V.int).length≤2^20 then _ else none)=_)
   rw[if_pos (by rw[GO];exact ER ‹_› (by exact ac)),e1]
   rfl
  have hx:(lv (cc X) (n+26)).iv (ah X 1032 [("script",.lst 0)]) [aa.ro (l.map V.int) vs m] (ch (ch (xK X) 0) 2)=some (.ok (.v (.lst 1)) [aa.ro (l.map V.int) vs m,aa.lst (l'.map V.int)]):=
   bz aA (Cz (v:= .lst 0) (lo:=none) (hi:=some (ch (ch (ch (ch (xK X) 0) 2) 1) 1)) (st:=none) (sp:=ps (ch (ch (ch (xK X) 0) 2) 1)) (l:= .none) (u:= .int 16) (t:= .none) (l':=none) (u':=some 16) (t':=none) ⋯ rfl rfl ⋯ rfl rfl rfl rfl sl)
  refine jR ⋯ (oH (KE:=[aa.ro (l.map V.int) vs m,aa.lst (l'.map V.int)]) (t:= .lst 1 0) ⋯ hx rfl ?_)
  have:=Aa (σ:=[aa.ro (l.map V.int) vs m,aa.lst (l'.map V.int)]) (g:=du 8) (tr:=(lv (cc X) (n+26)).tr) (ev:=(lv (cc X) (n+26)).ev) (target:=ch (ch (xK X) 0) 1) (elt:=ch (ch (xK X) 0) 0) (ifs:=ec (ch (xK X) 0)) (S:=fun σ=>σ[1]? =some (aa.lst (l'.map V.int))) (P:=fun en'=> ∃own,en'=⟨am (dK (ch (xK X) 0)).names (ah X 1032 [("script",.lst 0)]),own,[],none⟩) (t:= .lst 1 0) (as:=l') (f:=V.int) (F:=fun k=> .int ((cF k).fmod 1000000007)) (k:=fun u_=>true) (en:=dX (dK (ch (xK X) 0)).names (ah X 1032 [("script",.lst 0)])) (fun u_=>rfl) (eu fun σ h=>h) (by show _<4096;exact fA ‹_› (by exact ac)) ?_ ⟨_,rfl⟩
  ·rw[HT.mpr (fun u_ u_=>rfl)]at this;refine(Ha).symm▸ ?_;exact this
  ·rintro k hk _ acc ⟨own,rfl⟩
   exact⟨⟨am (dK (ch (xK X) 0)).names (ah X 1032 [("script",.lst 0)]),("k",.int k)::own,[],none⟩,⟨_,rfl⟩,by kernel_rfl,rfl,fun u_=>cL (op:= .Mod) (KE:=[aa.ro (l.map V.int) vs m,aa.lst (l'.map V.int)]++[aa.lst acc]) (KI:=[aa.ro (l.map V.int) vs m,aa.lst (l'.map V.int)]++[aa.lst acc]) (x:= .int (cF k)) (y:= .int 1000000007) ⋯ ⋯ rfl (nM (by omega) (by assumption))⟩
 have hlen:((l.map V.int).length:Int)=(l.length:Nat):=by rw[GO]
 have key: ∀e:Expr,e= .List [ch e 0,ch e 1,ch e 2] (ps e)→fg (lv (cc X) (n+27)).ev (ah X 1032 [("script",.lst 0)]) [aa.ro (l.map V.int) vs m] [ch e 0,ch e 1,ch e 2]=some (.ok [.lst 2,.int 0,.int (7+(l.length:Nat))] [aa.ro (l.map V.int) vs m,aa.lst (l'.map V.int),aa.lst ((l'.map fun k=>(cF k).fmod 1000000007).map V.int)])→(lv (cc X) (n+28)).ev (ah X 1032 [("script",.lst 0)]) [aa.ro (l.map V.int) vs m] e=some (.ok (.lst 3) [aa.ro (l.map V.int) vs m,aa.lst (l'.map V.int),aa.lst ((l'.map fun k=>(cF k).fmod 1000000007).map V.int),aa.lst [.lst 2,.int 0,.int (7+(l.length:Nat))]]):=fun e he h=>
  (congrArg ((lv (cc X) (n+28)).ev (ah X 1032 [("script",.lst 0)]) [aa.ro (l.map V.int) vs m]) he).trans (yB h (show 3≤2^20 by decide))
 refine key _ rfl (bA ac hc (bA (KE:=[aa.ro (l.map V.int) vs m,aa.lst (l'.map V.int),aa.lst ((l'.map fun k=>(cF k).fmod 1000000007).map V.int)]) ac rfl (bA ac (cL (op:= .Add) (KE:=[aa.ro (l.map V.int) vs m,aa.lst (l'.map V.int),aa.lst ((l'.map fun k=>(cF k).fmod 1000000007).map V.int)]) (x:= .int 7) (y:= .int (l.length:Nat)) rfl rfl
  (bL (x:="len") (fv:= .builtin "len") (v:= .v (.lst 0)) ⋯ ⋯ rfl ⋯ (bz ⋯ rfl) (hlen▸yu rfl (by rw[GO];exact ER ‹_› (by exact ac)))) rfl) gO)))
theorem za{x:Int}(hx:x<0)(n:Nat):(lv (cc X) (n+70)).cf σ 891 [vI [2,x]] []=some (.exc "ValueError" σ):=by
 refine bp (a:=891) (binds:=[("shape",vI [2,x])]) (so:= .exc "ValueError" (ah X 891 [("shape",vI [2,x])]) σ) ⋯ ⋯ ac ?_ rfl
 rw[show aD X 891=[St X 891 0]from rfl]
 have h:=pN (X:=X) (σ:=σ) (ss:=[2,x]) (show 2≤900 by decide) ⟨x,by exact .tail _ (.head _),hx⟩ (n+12)
 have h2:=jY (own:=[("shape",vI [2,x])]) (e:=ch (ch (sx (St X 891 0) 0) 1) 0) (a:=891) (args:=[ch (ch (ch (sx (St X 891 0) 0) 1) 0) 1]) (xs:=[vI [2,x]]) ⋯ ⋯ rfl (kQ ac (bz aA rfl)) h
 exact bP (jr rfl (gU ac (nC (args:=[ch (sx (St X 891 0) 0) 1]) (fv:= .ref av) rfl rfl rfl ⋯ (sf ac (sh aA (nu rfl ac h2))))))
structure Eh(ss:List Int):Prop where
 l:1≤ss.length∧ss.length≤3
 s: ∀s∈ss,1≤s∧s≤98
 t:(iB ss).length=ss.length∧IB (2^20) (iB ss)
 z: ∀p∈ss.zip (iB ss),p.1=1→p.2=0
 p:0≤aS 1 ss∧aS 1 ss≤900
 p':0≤aS 1 (pQ ss)∧aS 1 (pQ ss)≤900
theorem vO(ss:List Int)(h:ss∈aK):Eh ss:=by
 have key: ∀ss∈aK,(decide (1≤ss.length∧ss.length≤3)&&(ss.all fun s=>decide (1≤s∧s≤98))&&decide ((iB ss).length=ss.length)&&((iB ss).all fun t=>decide (t.natAbs≤2^20))&&((ss.zip (iB ss)).all fun p=>decide (p.1=1→p.2=0))&&decide (0≤aS 1 ss∧aS 1 ss≤900)&&decide (0≤aS 1 (pQ ss)∧aS 1 (pQ ss)≤900))=true:=by decide+kernel
 have:=key ss h;simp only[Gj,decide_eq_true_eq,GZ]at this;obtain⟨⟨⟨⟨⟨⟨h1,h2⟩,h3⟩,h4⟩,h5⟩,h6⟩,h7⟩:=this;exact⟨h1,h2,⟨h3,h4⟩,h5,h6,h7⟩
theorem AK(X:Xp)(ss:List Int)(h:ss∈aK):((br 12 (g0 X ss 5)&&br 12 (g0 X ss 6)&&br 12 (g0 X ss 7)&&br 12 (g0 X ss 8)&&br 12 (g0 X ss 9))&&(br 19 (g0 X ss 5)&&br 19 (g0 X ss 6)&&br 19 (g0 X ss 7)&&br 19 (g0 X ss 8)&&br 19 (g0 X ss 9)))=true:=by
 revert ss;refine aj ?_ (aj ?_ (aj ?_ (aj ?_ (aj ?_ (aj ?_ (aj ?_ (aj ?_ (aj ?_ (aj ?_ bZ)))))))))
 all_goals kernel_rfl
theorem ED(X:Xp)(ss:List Int)(h:ss∈aK):(br 19 (g1 X ss 12)&&br 19 (g1 X ss 13)&&br 19 (g1 X ss 14)&&br 19 (g1 X ss 15)&&br 19 (g1 X ss 16))=true:=by
 revert ss;refine aj ?_ (aj ?_ (aj ?_ (aj ?_ (aj ?_ (aj ?_ (aj ?_ (aj ?_ (aj ?_ (aj ?_ bZ)))))))))
 all_goals kernel_rfl
noncomputable abbrev Z0(X:Xp)(ss:List Int)(c0 c1 c2 c3 c4:aa):Sg:=[c0,c1,c2,c3,c4,g0 X ss 5,g0 X ss 6,g0 X ss 7,g0 X ss 8,g0 X ss 9,zV ss,oC 10]
noncomputable abbrev Z1(X:Xp)(ss:List Int)(c0 c1 c2 c3 c4:aa):Sg:=[c0,c1,c2,c3,c4,g0 X ss 5,g0 X ss 6,g0 X ss 7,g0 X ss 8,g0 X ss 9,zV ss,oC 10,g1 X ss 12,g1 X ss 13,g1 X ss 14,g1 X ss 15,g1 X ss 16,Ec ss,oC 17]
theorem F_(h:ss∈aK)(c0 c1 c2 c3 c4:aa):CA X 3 2 (Z0 X ss c0 c1 c2 c3 c4) 11 10 ss (iB ss) 0 .none (.bool true):=by
 have f:=vO ss h
 exact⟨⟨by decide,show 3<12 by decide,show 2<12 by decide⟩,⟨rfl,f.t.1,f.t.2,.inl rfl⟩,rfl,⟨by decide,by decide,by decide,by decide⟩,f.l.1,f.l.2,fun s q=>by have:=f.s s q;exact yt ‹_› (by exact ac),f.z,f.p,.inl rfl⟩
theorem qN:(pQ ss).length=ss.length:=by simp[pQ]
theorem FO(h:ss∈aK)(c0 c1 c2 c3 c4:aa):CA X 3 2 (Z1 X ss c0 c1 c2 c3 c4) 18 17 (pQ ss) (iB ss) (-(iB ss).sum) (vP (wr ss)) (.bool false):=by
 have f:=vO ss h
 have hs: ∀s∈pQ ss,2≤s∧s≤99:=fun s q=>by
  unfold pQ at q;refine aL (G2.mp q) fun x hx zz2=> ?_;subst zz2;have:=f.s x hx
  exact iba ‹_› (by exact ac)
 refine⟨⟨by decide,show 3<19 by decide,show 2<19 by decide⟩,⟨rfl,by rw[qN];exact f.t.1,f.t.2,.inr ⟨_,rfl,by simp[wr,pQ],fun p q=> ?_⟩⟩,rfl,⟨by decide,by decide,by decide,by decide⟩,by rw[qN];exact f.l.1,by rw[qN];exact f.l.2,fun s q=>by have:=hs s q;exact yt ‹_› (by exact ac),fun p q q1=> ?_,f.p',.inr fun xs hx hf c c' c'' ns a b m=> ?_⟩
 ·unfold wr at q;refine aL (G2.mp q) fun x hx zz2=> ?_;subst zz2;have:=f.s x hx
  exact⟨show(1:Int).natAbs≤2000 by decide,show(x+1).natAbs≤2000 by exact nA1 ‹_› (by exact ac)⟩
 ·have:=hs _ (GU q).1;omega
 ·exact q9 (FE X m c0 c1 (aa.lst (ns.map V.int)) (aa.lst [.lst 2,.int a,.int b]) c4 _ _ _ _ _ _ _ _ _ _ c c' c'' ss h xs hx hf)
theorem E9(h:ss∈aK){c0 c1 c2 c3 c4:aa}(q0:br 12 c0=true)(q1:br 12 c1=true)(q2:br 12 c2=true)(q3:br 12 c3=true)(q4:br 12 c4=true): ∀x∈Z0 X ss c0 c1 c2 c3 c4,br (Z0 X ss c0 c1 c2 c3 c4).length x=true:=by
 have g:=AK X ss h;simp only[Gj]at g;refine dw fun kk=> ?_;obtain⟨⟨⟨⟨⟨g5,g6⟩,g7⟩,g8⟩,g9⟩,_⟩:=g<;>(refine kk ?_;clear kk)
 have v0:br 12 (zV ss)=true:=by
  show(cr 12 (ss.map V.int)&&(cr 12 ((iB ss).map V.int)&&_))=true;rw[ca,ca];rfl
 have t:br 12 (oC 10)=true:=by kernel_rfl
 refine(?_: ∀x∈Z0 X ss c0 c1 c2 c3 c4,br 12 x=true)
 exact(GX.mpr ⟨q0,(GX.mpr ⟨q1,(GX.mpr ⟨q2,(GX.mpr ⟨q3,(GX.mpr ⟨q4,(GX.mpr ⟨g5,(GX.mpr ⟨g6,(GX.mpr ⟨g7,(GX.mpr ⟨g8,(GX.mpr ⟨g9,(GX.mpr ⟨v0,(GX.mpr ⟨t,(fun u_ h=>by cases h)⟩)⟩)⟩)⟩)⟩)⟩)⟩)⟩)⟩)⟩)⟩)⟩)
theorem sF: ∀l:List (Int×Int),cr L (l.map pP)=true
 |[]=>rfl
 |_::l=>sF l
theorem FX(h:ss∈aK){c0 c1 c2 c3 c4:aa}(q0:br 19 c0=true)(q1:br 19 c1=true)(q2:br 19 c2=true)(q3:br 19 c3=true)(q4:br 19 c4=true): ∀x∈Z1 X ss c0 c1 c2 c3 c4,br (Z1 X ss c0 c1 c2 c3 c4).length x=true:=by
 have g:=AK X ss h;have g':=ED X ss h;simp only[Gj]at g g';refine dw fun kk=> ?_;obtain⟨_,⟨⟨⟨g5,g6⟩,g7⟩,g8⟩,g9⟩:=g<;>(refine kk ?_;clear kk)
 refine dw fun kk=> ?_;obtain⟨⟨⟨⟨f2,f3⟩,f4⟩,f5⟩,f6⟩:=g'<;>(refine kk ?_;clear kk)
 have v0:br 19 (zV ss)=true:=by
  show(cr 19 (ss.map V.int)&&(cr 19 ((iB ss).map V.int)&&_))=true;rw[ca,ca];rfl
 have v1:br 19 (Ec ss)=true:=by
  show(cr 19 ((pQ ss).map V.int)&&(cr 19 ((iB ss).map V.int)&&(true&&(cr 19 ((wr ss).map pP)&&_))))=true;rw[ca,ca,sF];rfl
 have t:br 19 (oC 10)=true:=by kernel_rfl
 have t':br 19 (oC 17)=true:=by kernel_rfl
 refine(?_: ∀x∈Z1 X ss c0 c1 c2 c3 c4,br 19 x=true)
 exact(GX.mpr ⟨q0,(GX.mpr ⟨q1,(GX.mpr ⟨q2,(GX.mpr ⟨q3,(GX.mpr ⟨q4,(GX.mpr ⟨g5,(GX.mpr ⟨g6,(GX.mpr ⟨g7,(GX.mpr ⟨g8,(GX.mpr ⟨g9,(GX.mpr ⟨v0,(GX.mpr ⟨t,(GX.mpr ⟨f2,(GX.mpr ⟨f3,(GX.mpr ⟨f4,(GX.mpr ⟨f5,(GX.mpr ⟨f6,(GX.mpr ⟨v1,(GX.mpr ⟨t',(fun u_ h=>by cases h)⟩)⟩)⟩)⟩)⟩)⟩)⟩)⟩)⟩)⟩)⟩)⟩)⟩)⟩)⟩)⟩)⟩)⟩)⟩)
theorem yK(X:Xp)(fs:eC)(en:En)(σ:Sg)(b:List Stmt):rH (cc X) fs en σ b (Ao (St X 1073 5))=sk (fs en σ b) fun cls en' KD=>if eU (cc X) en' (hT (Ao (St X 1073 5))) cls=true then some (.ok (.ret (.bool true)) en' KD)else none:=rfl
noncomputable abbrev w5(X:Xp):=sx (si (ak (St X 1073 5)) 0) 0
theorem AM(h:Kk kS kL Z)(ho:eG ns a b)(lst:own.lookup ("state":Str)=some (.lst kS))(n:Nat): ∃(ns':List Int) (a' b':Int),aT (cc X) (lv (cc X) (n+100)) (ah X 1073 own) (W kS kL Z ns a b) (St X 1073 5)=some (.ok (.ret (.bool true)) (ah X 1073 own) (W kS kL Z ns' a' b')):=by
 refine cC (m_ (X:=X) (en:=ah X 1073 own) (e:=ch (ch (ch (w5 X) 1) 1) 1) (m:=3) h ho (by exact Gx _) (by exact Gx _) ⋯ rfl rfl ⋯ ⋯ ⋯ (n+71) (aW (x:="state") ⋯ ac lst) ⋯) fun y eK a1 b1 y0 y3 ho1 h0=> ?_
 have hp:(lv (cc X) (n+97)).ev (ah X 1073 own) (W kS kL Z ns a b) (ch (w5 X) 1)=some (.ok (vI [2,-1-y]) (W kS kL Z eK a1 b1)):=
  Bl (KE:=W kS kL Z ns a b) ⋯ ⋯ ⋯ rfl (cL (op:= .Sub) (KE:=W kS kL Z ns a b) (x:= .int (-1)) (y:= .int y) ⋯ ⋯ h0 rfl)
 have hb:=za (X:=X) (σ:=W kS kL Z eK a1 b1) (x:= -1-y) (l1y ‹_›) (n+28);have hc:(lv (cc X) (n+99)).ev (ah X 1073 own) (W kS kL Z ns a b) (w5 X)=some (.exc "ValueError" (W kS kL Z eK a1 b1)):=
  gU ac (gq (name:="from_shape") (args:=[ch (w5 X) 1]) (x:= .val (.ref av)) (fv:= .ref 891) (first:=[]) (vs:=[.v (vI [2,-1-y])]) ⋯ ⋯ ⋯ ⋯ ac (kQ ac (bz aA hp)) (gG (xs:=[vI [2,-1-y]]) ⋯ hb))
 have hs:(lv (cc X) (n+100)).exs (ah X 1073 own) (W kS kL Z ns a b) (ak (St X 1073 5))=some (.exc "ValueError" (ah X 1073 own) (W kS kL Z eK a1 b1)):=by
  rw[show ak (St X 1073 5)=[si (ak (St X 1073 5)) 0]from rfl]
  have e:aT (cc X) (lv (cc X) (n+99)) (ah X 1073 own) (W kS kL Z ns a b) (si (ak (St X 1073 5)) 0)=bQ (ah X 1073 own) ((lv (cc X) (n+99)).ev (ah X 1073 own) (W kS kL Z ns a b) (w5 X)) fun y KD=>if aY y then some (.ok .next (ah X 1073 own) KD)else none:=rfl
  rw[hc]at e;exact bP e
 have e:aT (cc X) (lv (cc X) (n+100)) (ah X 1073 own) (W kS kL Z ns a b) (St X 1073 5)=rH (cc X) (lv (cc X) (n+100)).exs (ah X 1073 own) (W kS kL Z ns a b) (ak (St X 1073 5)) (Ao (St X 1073 5)):=rfl;rw[yK,hs]at e
 have c:eU (cc X) (ah X 1073 own) (hT (Ao (St X 1073 5))) "ValueError"=true:=by kernel_rfl
 refine⟨eK,a1,b1,e.trans ?_⟩
 exact(if_pos c:(if _ then _ else none)=_)
theorem w0(Z:Sg)(ns:List Int)(a b:Int):(W 3 2 Z ns a b)[0]? =Z[0]? :=by unfold W;rw[Ho (by decide),Ho (by decide)]
theorem zc(n:Nat)(σ:Sg):(lv (cc X) (n+20)).cf σ 1027 [] []=some (.ok (.lst σ.length) (σ++[aa.lst (aK.map vI)])):=rfl
noncomputable abbrev w3(X:Xp)(i:Nat):=si (ak (St X 1073 3)) i
noncomputable abbrev x1(X:Xp):=sx (St X 1073 1) 0
noncomputable abbrev x2'(X:Xp):=sx (St X 1073 2) 0
theorem vB(l:List Int)(vs:List Value)(m:Nat)(h:l.length<64)(n:Nat): ∃KD,(lv (cc X) (n+150)).cf [aa.ro (l.map V.int) vs m] 1073 [.lst 0] []=some (.ok (.bool true) KD)∧KD[0]? =some (aa.ro (l.map V.int) vs m):=by
 --the state
 refine iJ (BU (X:=X) l vs m h (n+117)) fun c1 ns0 l1 zz3 hns hst=> ?_;subst zz3;have s0:aT (cc X) (lv (cc X) (n+148)) (ah X 1073 [("script",.lst 0)]) [aa.ro (l.map V.int) vs m] (St X 1073 0)=some (.ok .next (ah X 1073 [("state",.lst 3),("script",.lst 0)]) [aa.ro (l.map V.int) vs m,aa.lst (l1.map V.int),aa.lst (ns0.map V.int),aa.lst [.lst 2,.int 0,.int (7+(l.length:Nat))]]):=
  cm (x:="state") (xp:=ps (sx (St X 1073 0) 1)) rfl ac ac (bL (x:="_law_start") (fv:= .ref 1032) (v:= .v (.lst 0)) (KE:=[aa.ro (l.map V.int) vs m]) rfl rfl rfl ac (bz aA rfl) (eR (X:=X) (xs:=[.lst 0]) ⋯ hst))
 have ho0:eG ns0 0 (7+(l.length:Nat)):=⟨by exact bg ‹_› (by exact ac),by exact Gx _,by omega⟩
 --the shape
 have kk4:Kk 3 2 [aa.ro (l.map V.int) vs m,aa.lst (l1.map V.int),aa.lst (ns0.map V.int),aa.lst [.lst 2,.int 0,.int (7+(l.length:Nat))]]:=⟨by omega,show 3<4 by exact H0 _,show 2<4 by exact H3 _⟩
 obtain⟨y,eK,a1,b1,p1,ho1,h1⟩:=ol (X:=X) (en:=ah X 1073 [("state",.lst 3),("script",.lst 0)]) (e:=x1 X) (m:=10) (ys:=aK.map vI) (ns:=ns0) (a:=0) (b:=7+(l.length:Nat)) kk4 ho0 (by exact Gx _) (by exact Gx _) rfl rfl ac ⋯ rfl rfl ⋯ aA aA (n+123) (by
  exact kr ac (cJ (x:="_law_shapes") (args:=[]) (fv:= .ref 1027) (vs:=[]) rfl rfl rfl ac gh (eR (X:=X) (xs:=[]) ⋯ (zc (n+126) _)))) (fun u_=>rfl) (fun u_=>rfl)
 refine aL (G2.mp p1) fun ss hss zz2=> ?_;subst zz2;have s1:aT (cc X) (lv (cc X) (n+148)) (ah X 1073 [("state",.lst 3),("script",.lst 0)]) [aa.ro (l.map V.int) vs m,aa.lst (l1.map V.int),aa.lst (ns0.map V.int),aa.lst [.lst 2,.int 0,.int (7+(l.length:Nat))]] (St X 1073 1)=some (.ok .next (ah X 1073 [("shape",vI ss),("state",.lst 3),("script",.lst 0)]) [aa.ro (l.map V.int) vs m,aa.lst (l1.map V.int),aa.lst (eK.map V.int),aa.lst [.lst 2,.int a1,.int b1],aa.lst (aK.map vI)]):=
  cm (x:="shape") (xp:=ps (sx (St X 1073 1) 1)) rfl ac ac h1
 --the tracker
 have ht:=BQ X ss hss (n+47) (aa.ro (l.map V.int) vs m) (aa.lst (l1.map V.int)) (aa.lst (eK.map V.int)) (aa.lst [.lst 2,.int a1,.int b1]) (aa.lst (aK.map vI));have s2:aT (cc X) (lv (cc X) (n+148)) (ah X 1073 [("shape",vI ss),("state",.lst 3),("script",.lst 0)]) [aa.ro (l.map V.int) vs m,aa.lst (l1.map V.int),aa.lst (eK.map V.int),aa.lst [.lst 2,.int a1,.int b1],aa.lst (aK.map vI)] (St X 1073 2)=some (.ok .next (ah X 1073 [("tracker",.inst av 11),("shape",vI ss),("state",.lst 3),("script",.lst 0)]) (Z0 X ss (aa.ro (l.map V.int) vs m) (aa.lst (l1.map V.int)) (aa.lst (eK.map V.int)) (aa.lst [.lst 2,.int a1,.int b1]) (aa.lst (aK.map vI)))):=
  cm (x:="tracker") (xp:=ps (sx (St X 1073 2) 1)) rfl ac ac (kr ac (gq (name:="from_shape") (args:=[ch (x2' X) 1]) (x:= .val (.ref av)) (fv:= .ref 891) (first:=[]) (vs:=[.v (vI ss)]) (KE:=[aa.ro (l.map V.int) vs m,aa.lst (l1.map V.int),aa.lst (eK.map V.int),aa.lst [.lst 2,.int a1,.int b1],aa.lst (aK.map vI)]) (KI:=[aa.ro (l.map V.int) vs m,aa.lst (l1.map V.int),aa.lst (eK.map V.int),aa.lst [.lst 2,.int a1,.int b1],aa.lst (aK.map vI)]) rfl ⋯ rfl ⋯ ac (kQ ac (bz aA rfl)) (eR (X:=X) (xs:=[vI ss]) ⋯ ht)))
 --what all runs end with
 have finish: ∀{Z:Sg} {j k:Nat} {ss' ts:List Int} {o:Int} {M B:V} {own:List (Str×V)} {ns:List Int} {a b:Int} (st:Stmt),CA X 3 2 Z j k ss' ts o M B→(∀x∈Z,br Z.length x=true)→ki 3 j ss' own→eG ns a b→ ∃own' KD,(lv (cc X) (n+149)).exs (ah X 1073 own) (W 3 2 Z ns a b) [lp X,St X 1073 5,st]=some (.ok (.ret (.bool true)) (ah X 1073 own') KD)∧KD[0]? =Z[0]? :=by
  intro Z j k ss' ts o M B own ns a b st t hl hk ho;refine bN (lpS (X:=X) t hl hk ho (n+26)) fun own' ns' a' b' hk' ho' h1=> ?_;refine C1 (AM (X:=X) t.kk ho' hk'.1 (n+48)) fun ns2 a2 b2 h2=> ?_;exact⟨own',_,ab h1 (bj h2),w0 Z ns2 a2 b2⟩
 have out: ∀{own':List (Str×V)} {KD:Sg},(lv (cc X) (n+149)).exs (ah X 1073 [("script",.lst 0)]) [aa.ro (l.map V.int) vs m] [St X 1073 0,St X 1073 1,St X 1073 2,St X 1073 3,lp X,St X 1073 5,St X 1073 6]=some (.ok (.ret (.bool true)) (ah X 1073 own') KD)→KD[0]? =some (aa.ro (l.map V.int) vs m)→ ∃KD,(lv (cc X) (n+150)).cf [aa.ro (l.map V.int) vs m] 1073 [.lst 0] []=some (.ok (.bool true) KD)∧KD[0]? =some (aa.ro (l.map V.int) vs m):=fun hh h0=>
  ⟨_,bp (a:=1073) (binds:=[("script",.lst 0)]) ⋯ ⋯ ac ((congrArg ((lv (cc X) (n+149)).exs _ _) (show aD X 1073=_ from rfl)).trans hh) rfl,h0⟩
 have q2: ∀L,br L (aa.ro (l.map V.int) vs m)=true∧br L (aa.lst (l1.map V.int))=true∧br L (aa.lst (eK.map V.int))=true:=fun L=>⟨ca _,ca _,ca _⟩
 have q3: ∀L,2<L→br L (aa.lst [.lst 2,.int a1,.int b1])=true:=fun L hL=>by
  refine(?_:(decide (2<L)&&(true&&(true&&true)))=true);rw[decide_eq_true hL];rfl
 have q4: ∀L,br L (aa.lst (aK.map vI))=true:=fun L=>rfl
 --whether it is padded
 have t0:=F_ (X:=X) hss (aa.ro (l.map V.int) vs m) (aa.lst (l1.map V.int)) (aa.lst (eK.map V.int)) (aa.lst [.lst 2,.int a1,.int b1]) (aa.lst (aK.map vI))
 refine cC (m_ (X:=X) (en:=ah X 1073 [("tracker",.inst av 11),("shape",vI ss),("state",.lst 3),("script",.lst 0)]) (e:=ch (sx (St X 1073 3) 0) 0) (m:=2) (ns:=eK) (a:=a1) (b:=b1) t0.kk ho1 (by exact Gx _) (by decide) ⋯ rfl rfl ⋯ aA aA (n+123) rfl rfl) fun y ns2 a2 b2 y0 y2 ho2 h3=> ?_
 have t3:(lv (cc X) (n+148)).tr (ah X 1073 [("tracker",.inst av 11),("shape",vI ss),("state",.lst 3),("script",.lst 0)]) (W 3 2 (Z0 X ss (aa.ro (l.map V.int) vs m) (aa.lst (l1.map V.int)) (aa.lst (eK.map V.int)) (aa.lst [.lst 2,.int a1,.int b1]) (aa.lst (aK.map vI))) eK a1 b1) (sx (St X 1073 3) 0)=some (.ok (y==0) (W 3 2 (Z0 X ss (aa.ro (l.map V.int) vs m) (aa.lst (l1.map V.int)) (aa.lst (eK.map V.int)) (aa.lst [.lst 2,.int a1,.int b1]) (aa.lst (aK.map vI))) ns2 a2 b2)):=
  bx (op:= .Eq) (x:= .int y) (y:= .int 0) rfl aA h3 rfl rfl
 cases hy:y==0 with
 |false=>
  rw[hy]at t3
  refine bc (finish (St X 1073 6) t0 (E9 hss (q2 12).1 (q2 12).2.1 (q2 12).2.2 (q3 12 (by decide)) (q4 12)) (own:=[("tracker",.inst av 11),("shape",vI ss),("state",.lst 3),("script",.lst 0)]) ⟨rfl,rfl,rfl⟩ ho2) fun own' KD hf h0=> ?_
  exact out (ab s0 (ab s1 (ab s2 (ab (dy rfl t3 rfl) hf)))) h0
 |true=>
  rw[hy]at t3;have t1:=FO (X:=X) hss (aa.ro (l.map V.int) vs m) (aa.lst (l1.map V.int)) (aa.lst (eK.map V.int)) (aa.lst [.lst 2,.int a1,.int b1]) (aa.lst (aK.map vI));have hp:=AR X ss hss (n+46) (aa.ro (l.map V.int) vs m) (aa.lst (l1.map V.int)) (aa.lst (ns2.map V.int)) (aa.lst [.lst 2,.int a2,.int b2]) (aa.lst (aK.map vI)) (g0 X ss 5) (g0 X ss 6) (g0 X ss 7) (g0 X ss 8) (g0 X ss 9);have hl:=(vO ss hss).l
  have e2:((ss.map V.int).length:Int)=ss.length:=by rw[GO]
  have b0:aT (cc X) (lv (cc X) (n+147)) (ah X 1073 [("tracker",.inst av 11),("shape",vI ss),("state",.lst 3),("script",.lst 0)]) (Z0 X ss (aa.ro (l.map V.int) vs m) (aa.lst (l1.map V.int)) (aa.lst (ns2.map V.int)) (aa.lst [.lst 2,.int a2,.int b2]) (aa.lst (aK.map vI))) (w3 X 0)=some (.ok .next (ah X 1073 [("tracker",.inst av 18),("tracker",.inst av 11),("shape",vI ss),("state",.lst 3),("script",.lst 0)]) (Z1 X ss (aa.ro (l.map V.int) vs m) (aa.lst (l1.map V.int)) (aa.lst (ns2.map V.int)) (aa.lst [.lst 2,.int a2,.int b2]) (aa.lst (aK.map vI)))):=by
   refine cm (x:="tracker") (xp:=ps (sx (w3 X 0) 1)) rfl ac ac (kr ac (gq (name:="pad") (args:=[ch (sx (w3 X 0) 0) 1]) (x:= .inst av 11) (fv:= .ref 978) (first:=[.inst av 11]) (vs:=[.v (vP (GT ss.length (1,0)))]) (KE:=Z0 X ss (aa.ro (l.map V.int) vs m) (aa.lst (l1.map V.int)) (aa.lst (ns2.map V.int)) (aa.lst [.lst 2,.int a2,.int b2]) (aa.lst (aK.map vI))) (KI:=Z0 X ss (aa.ro (l.map V.int) vs m) (aa.lst (l1.map V.int)) (aa.lst (ns2.map V.int)) (aa.lst [.lst 2,.int a2,.int b2]) (aa.lst (aK.map vI)))
    ⋯ ⋯ rfl (iV (f:=978) (fs:=cO (.tup [.inst ag 10])) rfl ac ⋯) ac (kQ ac (bz aA ?_)) (eR (X:=X) (xs:=[.inst av 11,vP (GT ss.length (1,0))]) ⋯ hp)))
   refine cL (op:= .Mult) (KE:=Z0 X ss (aa.ro (l.map V.int) vs m) (aa.lst (l1.map V.int)) (aa.lst (ns2.map V.int)) (aa.lst [.lst 2,.int a2,.int b2]) (aa.lst (aK.map vI))) (x:= .tup [pP (1,0)]) (y:= .int (ss.length:Nat)) ⋯ rfl (e2▸kz (l:=ss.map V.int) ⋯ ⋯ rfl ⋯ ⋯ ⋯ (by rw[GO];exact bg (Gf ‹_›) (by exact ac))) ?_
   rw[kM (bg (Gf ‹_›) (by exact ac)),vP,HU]
  have b1':aT (cc X) (lv (cc X) (n+147)) (ah X 1073 [("tracker",.inst av 18),("tracker",.inst av 11),("shape",vI ss),("state",.lst 3),("script",.lst 0)]) (Z1 X ss (aa.ro (l.map V.int) vs m) (aa.lst (l1.map V.int)) (aa.lst (ns2.map V.int)) (aa.lst [.lst 2,.int a2,.int b2]) (aa.lst (aK.map vI))) (w3 X 1)=some (.ok .next (ah X 1073 [("shape",vI (pQ ss)),("tracker",.inst av 18),("tracker",.inst av 11),("shape",vI ss),("state",.lst 3),("script",.lst 0)]) (Z1 X ss (aa.ro (l.map V.int) vs m) (aa.lst (l1.map V.int)) (aa.lst (ns2.map V.int)) (aa.lst [.lst 2,.int a2,.int b2]) (aa.lst (aK.map vI)))):=
   cm (x:="shape") (xp:=ps (sx (w3 X 1) 1)) rfl ac ac (rC (X:=X) (l:=[]) (j:=18) (k:=17) rfl ac rfl rfl (show _=some (Ec ss)from rfl) rfl)
  have hb:(lv (cc X) (n+148)).exs (ah X 1073 [("tracker",.inst av 11),("shape",vI ss),("state",.lst 3),("script",.lst 0)]) (W 3 2 (Z0 X ss (aa.ro (l.map V.int) vs m) (aa.lst (l1.map V.int)) (aa.lst (eK.map V.int)) (aa.lst [.lst 2,.int a1,.int b1]) (aa.lst (aK.map vI))) ns2 a2 b2) (ak (St X 1073 3))=some (.ok .next (ah X 1073 [("shape",vI (pQ ss)),("tracker",.inst av 18),("tracker",.inst av 11),("shape",vI ss),("state",.lst 3),("script",.lst 0)]) (W 3 2 (Z1 X ss (aa.ro (l.map V.int) vs m) (aa.lst (l1.map V.int)) (aa.lst (eK.map V.int)) (aa.lst [.lst 2,.int a1,.int b1]) (aa.lst (aK.map vI))) ns2 a2 b2)):=by
   rw[show ak (St X 1073 3)=[w3 X 0,w3 X 1]from rfl]
   exact ab b0 (aq b1')
  refine bc (finish (St X 1073 6) t1 (FX hss (q2 19).1 (q2 19).2.1 (q2 19).2.2 (q3 19 (by decide)) (q4 19)) (own:=[("shape",vI (pQ ss)),("tracker",.inst av 18),("tracker",.inst av 11),("shape",vI ss),("state",.lst 3),("script",.lst 0)]) ⟨rfl,rfl,rfl⟩ ho2) fun own' KD hf h0=> ?_
  exact out (ab s0 (ab s1 (ab s2 (ab (eQ rfl t3 hb) hf)))) h0
end
noncomputable abbrev gy:OpenRow:=lw.row
theorem sG:(defOf qv gy.name).isSome=true:=by kernel_rfl
noncomputable def dk:DefRec×List (Str×Expr):=(defOf qv gy.name).get sG
theorem AP:defOf qv gy.name=some (dk.1,dk.2):=(Option.some_get sG).symm
theorem Ci:gy.prog.theDef gy.name=some (dk.1.params,dk.1.body,dk.1.scope):=by kernel_rfl
theorem Dz:kwWritten? dk.1.params.kwonlyargs dk.1.params.kw_defaults=some dk.2:=by kernel_rfl
theorem ve:gy.wellSaid=true:=by
 rw[Fast.te17960256430627541270];unfold Fast.tw17960256430627541270
 repeat' (with_reducible refine Ku ?_ ?_)
 ·exact sd4
 all_goals kernel_rfl
theorem Ed:(chainsOk qv&&opensWell gy.prog&&(frees gy.toRowW&&gy.within.isEmpty))=true:=by kernel_rfl
noncomputable abbrev vZ(p:Program)(l:List Stmt):Bool:=TablesWhole.wSs TablesWhole.holds p.main.scope ⟨p.main.scope,[],[],[],none⟩ p.main.scope l
noncomputable abbrev EM(p:Program):List Str:=TablesWhole.wSs TablesWhole.gather p.main.scope ⟨p.main.scope,[],[],[],none⟩ p.main.scope p.main.body
theorem Bj{p:Program}{a b:List Stmt}(h2:vZ p b=true):vZ p a=true→vZ p (a++b)=true:=by
 induction a with
 |nil=>exact fun u_=>h2
 |cons x a ih=>exact fun h=>Gi.mpr ((Gi.mp (show(TablesWhole.wS TablesWhole.holds p.main.scope ⟨p.main.scope,[],[],[],none⟩ p.main.scope x&&vZ p a)=true from h)).imp id ih)
theorem CH(p:Program)(k:Nat)(h1:p.modules=[])(h2:p.parses=[])(h3:p.harvested=[])(ht:EM p=[])(h0:TablesWhole.noTwice p.main.scope=true)(ha:vZ p (p.main.body.take k)=true)(hb:vZ p (p.main.body.drop k)=true):p.tablesWhole=true:=by
 have h:=Bj hb ha;rw[List.take_append_drop]at h;unfold Program.tablesWhole TablesWhole.wProgram TablesWhole.wModule;unfold EM at ht;rw[h1,h2,h3,ht];show(((true&&(TablesWhole.noTwice p.main.scope&&(vZ p p.main.body&&true)))&&(true&&(true&&(true&&true)))):Bool)=true;rw[h0,h];rfl
theorem tb0:EM gy.prog=[]:=by
 unfold EM;rw[KB];kernel_rfl
theorem tb1:vZ gy.prog (gy.prog.main.body.take 29)=true:=by
 unfold vZ;rw[KB];kernel_rfl
theorem tb2:vZ gy.prog (gy.prog.main.body.drop 29)=true:=by
 unfold vZ;rw[KB];kernel_rfl
theorem ze:gy.prog.bare:=⟨rfl,rfl,rfl,rfl,rfl,CH gy.prog 29 rfl rfl rfl tb0 ⋯ tb1 tb2⟩
theorem zA:gy.toRowW.promised:=⟨[.list []],by kernel_rfl,by kernel_rfl⟩
theorem tN(call:WalkX qv ng (fun u_ u_=>True) yf ya gy.toRowW dk.1 dk.2 fun f vs=>PySem.call f vs):gy.Holds:=
 holds_openX (r:=gy) left (fun u_ u_=>trivial) (fun u_ u_ u_ u_ u_=>trivial) AP Ci Dz (fun s u_=>recFacts_of (by rfl)) (by rfl) ve Ed ze zA call
theorem zP{xs:List WData}:WShape.hasItems gy.records xs .int=true→ ∃l:List Int,xs=l.map KC:=by
 induction xs with
 |nil=>exact fun u_=>⟨[],rfl⟩
 |cons x xs ih=>
  intro h
  refine oA (Gi.mp (show(WShape.has gy.records x .int&&WShape.hasItems gy.records xs .int)=true from h)) fun h1 h2=> ?_
  obtain⟨l,rfl⟩:=ih h2
  cases x with
  |int i=>exact⟨i::l,rfl⟩
  |_=>cases h1
theorem Bv{args:List WData}(h:gy.claim.pre args=true): ∃l:List Int,args=[.list (l.map KC)]∧l.length<64:=by
 obtain⟨h1,h2⟩:=Gi.mp h
 cases args with
 |nil=>cases h1
 |cons d r=>
  obtain⟨h3,h4⟩:=Gi.mp (show(WShape.has gy.records d (.list .int)&&WShape.hasAll gy.records r [])=true from h1)
  cases r with
  |cons=>cases h4
  |nil=>
   cases d with
   |list xs=>
    have h5:(WShape.hasItems gy.records xs .int||false)=true:=h3;rw[Gq]at h5;obtain⟨l,rfl⟩:=zP h5;refine⟨l,rfl,?_⟩
    rw[show gy.pre= .and (.not (.lt (.lit (.int 63)) (.len (.arg 0)))) (.lit (.bool true))from by kernel_rfl]at h2
    by_cases q:l.length<64
    ·exact q
    ·exfalso
     have e:less? (.int 63) (.int ((l.map KC).length:Nat))=some true:=by
      show some (decide ((63:Int)<((l.map KC).length:Nat)))=_
      rw[decide_eq_true (by rw[GO];omega)]
     simp only[WTm.holds,WTm.value,List.getElem?_cons_zero,e,Option.map_some,Bool.not_true]at h2
     cases h2
   |_=>cases h3
theorem xt{cl:Str→Option Addr}{P:Params}{ord:List DictEntry→List DictEntry}(l:List Int): ∀(s:Shared) (r:List Value×Shared),layAllW gy.records cl P ord (l.map KC) s=some r→r.2.heap=s.heap∧ ∀h ρ,Rs h ρ (l.map V.int) r.1:=by
 induction l with
 |nil=>exact fun s r e=>by obtain rfl:=IH e;exact⟨rfl,fun u_ u_=> .nil⟩
 |cons i l ih=>
  intro s r e
  have e':(match layAllW gy.records cl P ord (l.map KC) {s with toks:=s.toks+1}with|some r=>some ((Kt i s.toks)::r.1,r.2)|none=>none)=some r:=e
  cases q:layAllW gy.records cl P ord (l.map KC) {s with toks:=s.toks+1}with
  |none=>rw[q]at e';exact no e'
  |some r'=>
   rw[q]at e';obtain rfl:=IH e';refine oA (ih _ _ q) fun a b=> ?_;exact⟨a,fun h ρ=> .cons .int (b h ρ)⟩
theorem xO{cl:Str→Option Addr}{P:Params}{ord:List DictEntry→List DictEntry}{l:List Int}{vals:List Value}(e:layAllW gy.records cl P ord [.list (l.map KC)] s=some (vals,KH)):
 ∃vs,vals=[.ref s.heap.objs.size]∧KH.heap=s.heap.push (aB vs 0)∧ ∀h ρ,Rs h ρ (l.map V.int) vs:=by
 have e':(match(match layAllW gy.records cl P ord (l.map KC) s with|some r=>some (Kr r.2.heap.objs.size,{r.2 with heap:=r.2.heap.push {cls:= .type "list",data:= .seq r.1.toArray}})|none=>none:Option (Value×Shared))with|some a=>some ([a.1],a.2)|none=>none)=some (vals,KH):=e
 cases q:layAllW gy.records cl P ord (l.map KC) s with
 |none=>rw[q]at e';cases e'
 |some r=>
  rw[q]at e';obtain⟨a,b⟩:=xt l _ _ q
  cases e'
  exact⟨r.1,by rw[a],by show r.2.heap.push _=_;rw[a],b⟩
noncomputable def Tx:List Addr:=CC.map (·.2)
theorem k_t:(ks.all fun a=> !Tx.contains a&&Nat.blt a 1074)=true:=by kernel_rfl
theorem c_t:(CC.all fun p=> !Tx.contains p.1&&(Nat.blt p.1 1074&&Nat.blt p.2 1074))=true:=by kernel_rfl
noncomputable def xd(K:Frag)(p:Addr×Addr):Bool:=match K.lookup p.1 with
 |some o=>(match o.data with
  | .fields vs=>decide (o.cls= .type "code")&&(decide (vs.getD 11 .none= .ref p.2)&&(decide (vs[11]? =some (.ref p.2))&&((match vs.getD 18 .none with| .str .. =>true|_=>false)&&((match vs.getD 7 .none with| .int .. =>true|_=>false)&&((match vs.getD 9 .none with| .bool _=>true|_=>false)&&((match vs.getD 10 .none with| .int .. =>true|_=>false)&&decide (p.1≠p.2)))))))
  |_=>false)
 |none=>false
theorem B6(P:Params):(CC.all fun p=>xd (KK P) p)=true:=by kernel_rfl
theorem pv{p:Addr×Addr}(b:xd K p=true)(k:K.In h)(t:h.get? p.2=some xm):hN h p∧isCodeTable h p.2:=by
 unfold xd at b
 cases q:K.lookup p.1 with
 |none=>rw[q]at b;cases b
 |some o=>
  rw[q]at b;obtain⟨oc,od,da,sl⟩:=o
  cases da with
  |fields vs=>
   obtain⟨b1,b⟩:=Gi.mp (show(decide (oc= .type "code")&&_)=true from b)
   obtain⟨b2,b⟩:=Gi.mp b;obtain⟨b3,b⟩:=Gi.mp b;obtain⟨b4,b⟩:=Gi.mp b;obtain⟨b5,b⟩:=Gi.mp b;obtain⟨b6,b⟩:=Gi.mp b;obtain⟨b7,b8⟩:=Gi.mp b;have e:=k _ _ q
   obtain⟨file,tf,e4⟩: ∃x t,vs.getD 18 .none= .str x t:=by
    cases q:vs.getD 18 .none with
    |str x t=>exact⟨_,_,rfl⟩
    |_=>rw[q]at b4;cases b4
   obtain⟨fl,tg,e5⟩: ∃x t,vs.getD 7 .none= .int x t:=by
    cases q:vs.getD 7 .none with
    |int x t=>exact⟨_,_,rfl⟩
    |_=>rw[q]at b5;cases b5
   obtain⟨inF,e6⟩: ∃x,vs.getD 9 .none= .bool x:=by
    cases q:vs.getD 9 .none with
    |bool x=>exact⟨_,rfl⟩
    |_=>rw[q]at b6;cases b6
   obtain⟨tx,tt,e7⟩: ∃x t,vs.getD 10 .none= .int x t:=by
    cases q:vs.getD 10 .none with
    |int x t=>exact⟨_,_,rfl⟩
    |_=>rw[q]at b7;cases b7
   exact⟨⟨#[],⟨_,vs,file,tf,fl,tg,inF,tx,tt,xm,e,rfl,of_decide_eq_true b2,e4,e5,e6,e7,t,rfl,trivial,of_decide_eq_true b8⟩,fun o' q'=>by rw[t]at q';cases q';rfl⟩,
    ⟨p.1,_,vs,e,of_decide_eq_true b1,rfl,of_decide_eq_true b3⟩⟩
  |_=>cases b
noncomputable def Cq(P:Params):Array DictEntry:=match(KK P).lookup 3 with
 |some o=>(match o.data with| .dict es _=>es|_=> #[])
 |none=> #[]
theorem FP(P:Params): ∃o ep,(KK P).lookup 3=some o∧o.data= .dict (Cq P) ep:=⟨_,_,rfl,rfl⟩
theorem F6(P:Params):(NM.all fun p=>decide (nsFind (Cq P) p.1=some p.2)||(decide (nsFind (Cq P) p.1=none)&&(decide (bootBuiltins p.1=some p.2)&&decide (p.1≠"__name__"))))=true:=by kernel_rfl
theorem EB(P:Params):nsFind (Cq P) dk.1.name=some (.ref 1073):=by kernel_rfl
theorem Eo(P:Params):nsFind (Cq P) "__builtins__"=some (.ref 4):=by kernel_rfl
noncomputable def d6:Obj:={cls:= .none,data:= .freed}
theorem Am{b:Addr}(m:b∈Tx): ∃p∈CC,p.2=b:=by
 obtain⟨p,h1,h2⟩:=G2.mp m;exact⟨p,h1,h2⟩
theorem qb{ob:Obj}{o:Obj}(e:(⟨#[d6,d6,d6,d6,ob],{}⟩:Heap).get? a=some o):a=4:=by
 match a,e with
 |0,e=>cases e
 |1,e=>cases e
 |2,e=>cases e
 |3,e=>cases e
 |4,e=>rfl
 |n+5,e=>cases e
theorem vK{ob:Obj}(h:ob.data= .plain):(⟨#[d6,d6,d6,d6,ob],{}⟩:Heap).get? 4=some ob:=by
 obtain⟨c1,c2,c3,c4⟩:=ob;subst h;rfl
theorem wI[BEq α][LawfulBEq α]{a:α}{b:β}{l:List (α×β)}:l.lookup a=some b→(a,b)∈l:=by
 induction l with
 |nil=>exact fun h=>no h
 |cons p l ih=>
  intro h
  replace h:(match a==p.1 with|true=>some p.2|false=>l.lookup a)=some b:=h
  cases q:a==p.1 with
  |true=>
   rw[q]at h;obtain rfl:=IH h;rw[GN q];exact .head _
  |false=>rw[q]at h;exact .tail _ (ih h)
theorem v8:WalkX qv ng (fun u_ u_=>True) yf ya gy.toRowW dk.1 dk.2 fun f vs=>PySem.call f vs:=by
 intro w KP KH mg mb G Y a o pm cd doc dV kV ho hd hcd hD hmg hg args vals as L hpre hlay hrd hwl hlo;obtain⟨l,rfl,hl⟩:=Bv hpre;obtain⟨ord,hord,hlaid⟩:=L.laid;obtain⟨vs,rfl,hh,hvs⟩:=xO hlaid;obtain⟨y1,y2⟩:=Prod.mk.inj Y;have K0:(KK w.params).In KP.heap:=Frag.in_of (z9 _) y1;have K1:(KK w.params).In KH.heap:=K0.keeps L.keeps;have T0: ∀p∈CC,KP.heap.get? p.2=some xm:=List.map_inj_left.mp y2;have T1: ∀p∈CC,KH.heap.get? p.2=some xm:=fun p m=>L.keeps _ _ (T0 p m);obtain⟨o3,ep3,e3,d3⟩:=FP w.params
 have gm: ∀x,mg x=nsFind (Cq w.params) x:=fun x=>by
  obtain⟨o',es,ep,h1,h2,_,h3⟩:=G.T.g;have q:KH.heap.get? mainGlobals=some o3:=K1 3 o3 e3;rw[q]at h1
  cases h1
  rw[d3]at h2
  cases h2
  exact(h3 x).symm
 have ea:a=1073:=by
  rw[gm,EB]at hmg
  cases hmg;rfl
 subst ea
 have sz:1074≤KP.heap.objs.size:=by
  have:((KK w.params).lookup 1073).isSome=true:=by kernel_rfl
  obtain⟨o',e'⟩:=IF.mp this;exact Ka (K0 _ _ e')
 have hz:KH.heap.objs.size=KP.heap.objs.size+1:=by rw[hh];exact Array.size_push ..
 have hn:KH.heap.get? KP.heap.objs.size=some (aB vs 0):=by rw[hh];exact J9 _ rfl
 obtain⟨bm,ob,b1,b2,b3,b4,b5,b6⟩:=G.T.bmain
 have eb:bm=4:=by
  rw[gm,Eo]at b1
  cases b1;rfl
 subst eb;have kt:=GZ.mp k_t;have ct:=GZ.mp c_t;have cc':=GZ.mp (B6 w.params)
 have nT: ∀{x:Addr},(!Tx.contains x)=true→x∉Tx:=fun h m=>by
  rw[HR.mpr m]at h
  cases h
 have lt4: ∀{x:Nat},Nat.blt x 1074=true→x<KP.heap.objs.size:=fun h=>H_ (H9 h) sz
 let X:Xp:=⟨gy.prog,w,KP.heap.objs.size,Tx,mg,mb,⟨#[d6,d6,d6,d6,ob],{}⟩,w.params⟩
 have ok:(cc X).Ok:={
  kold:=fun b o' e=>by
   have m:b∈ks:=by
    rw[z9 w.params];exact G2.mpr ⟨_,wI e,rfl⟩
   have:=Gi.mp (kt b m);exact⟨lt4 this.2,nT this.1⟩
  bold:=fun b o' e=>by
   obtain rfl:=qb e
   exact⟨H_ (by decide) sz,nT ⋯⟩
  tcs:=fun p m=>G2.mpr ⟨p,m,rfl⟩
  told:=fun b m=>by
   obtain⟨p,m',rfl⟩:=Am m;exact lt4 (Gi.mp (Gi.mp (ct p m')).2).2
  cold:=fun p m=>⟨lt4 (Gi.mp (Gi.mp (ct p m)).2).1,nT (Gi.mp (ct p m)).1⟩
  names:=fun x v e=>by
   have m:(x,v)∈NM:=wI e
   rcases Gl.mp (GZ.mp (F6 w.params) _ m)with q|q
   ·exact .inl ((gm x).trans (of_decide_eq_true q))
   ·obtain⟨q1,q⟩:=Gi.mp q;obtain⟨q2,q3⟩:=Gi.mp q;exact .inr ⟨(gm x).trans (of_decide_eq_true q1),(G.T.builtins x (of_decide_eq_true q3)).trans (of_decide_eq_true q2)⟩
  low:=⟨H_ (by decide) sz,H_ (by decide) sz,H_ (by exact HZ _) sz⟩
  bmod:=⟨4,ob,b1,b2,vK b6,b4,b5,b6⟩}
 have gd:Gd (cc X) KH.heap:={
  kin:=K1
  lim:=G.T.nolimit
  gl:=G.T.g
  bl:=G.T.b
  stays:=fun b o' e=>by
   obtain rfl:=qb e;have:some ob=some o':=(vK b6).symm.trans e
   cases this
   exact b3
  codes:=fun p m=>(pv (cc' p m) K1 (T1 p m)).1
  size:=by rw[hz];exact H3 _}
 have st:aQ (cc X) ⟨[KP.heap.objs.size],[]⟩ [.ro (l.map V.int) vs 0] KH.heap:={
  nodup:=by simp
  len:=rfl
  at_:=fun k b c h1 h2=>by
   cases k with
   |succ=>cases h1
   |zero=>cases h1;cases h2;exact⟨hn,hvs _ _⟩
  low:=fun b m=>by rw[GR.mp m];exact HY _
  plow:=fun b m=>nomatch m
  disj:=fun b m=>nomatch m}
 obtain⟨KD,e,e0⟩:=vB (X:=X) l vs 0 hl 0
 have run:=(C6 (c:=cc X) 150).cf (A:=callerA) e ok st gd ⟨rfl,by decide,by decide,⟨[],rfl,fun u_ m=>nomatch m⟩⟩ (.cons (.lst rfl) .nil) .nil
 refine I9 (I7 run fun r s' post=> ?_)
 cases r with
 |error e=>exact post.elim
 |ok f=>
  cases f with
  |ret v=>
   obtain⟨KF,S,r⟩:=post
   cases r using R.valE
   have pk:KF.r[0]? =some KP.heap.objs.size:=by
    obtain⟨t,q⟩:=S.pre;rw[←q];rfl
   have hn':s'.heap.get? KP.heap.objs.size=some (aB vs 0):=(S.sto.at_ _ _ _ pk e0).1
   have key: ∀b o,KH.heap.get? b=some o→ ∃o',s'.heap.get? b=some o'∧asItWas KH.heap s'.heap b o:=fun b o' h=>by
    by_cases q:b=KP.heap.objs.size
    ·subst q;rw[hn]at h
     cases h
     exact⟨_,hn',.inl hn'⟩
    ·obtain⟨o2,h1,h2⟩:=S.ext b o' (fun m=>q (GR.mp m)) h;refine⟨o2,h1,?_⟩
     rcases h2 with rfl|⟨g,_⟩|⟨m,c1,us,more,d,rfl⟩
     ·exact .inl h1
     ·have:=Ka h;rw[hz]at this;exact absurd (Nat.le_antisymm (Nat.le_of_lt_succ this) g) q
     ·obtain⟨p,mp,rfl⟩:=Am m;exact .inr (.inl ⟨(pv (cc' p mp) K1 (T1 p mp)).2,c1,us,more,d,h1⟩)
   refine⟨.inl ⟨_,.bool true,[],rfl,fun u_=>rfl,.bool true,by kernel_rfl,fun u_=>⟨List.nodup_nil,fun u_ m=>nomatch m⟩⟩,⟨fun b o h=>(key b o h).elim fun u_ x=>x.2,fun b o h=>(key b o h).elim fun u_ x=>⟨_,x.1⟩⟩,S.rest.os,fun y hy=>S.rest.bare (fun x hx=>by rw[hg]at hx;simp at hx) y hy⟩
  |_=>exact post.elim
theorem Cs:JL.Holds:=⟨yj,tN v8⟩
end Mine.Internal
theorem PySem.Challenge.cw_iu0032_05_holds : PySem.Challenge.rw_iu0032_05.Holds :=
  Mine.Internal.Cs
