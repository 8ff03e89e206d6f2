import PyProof.Rows.All
import PyProof.CompUse
import Wide.All
import OpenK.AllK
import Wide.FinOn
import Lean
import PySem.Challenge.RW_mt0007_01
set_option Elab.async false
set_option linter.all false
set_option maxRecDepth 100000
set_option maxHeartbeats 0
set_option bootstrap.genMatcherCode false
set_option genSizeOf false
set_option backward.eqns.nonrecursive false
set_option backward.eqns.deepRecursiveSplit false
open And renaming intro→Wc
open Array renaming mk→jB,length_toList→vF,getElem?_eq_getElem→Oj,getD→ŧ,size_push→aE6,replicate→aE7
open Bool renaming and_self→fD,and_eq_true→fU,false_ne_true→lE,false_eq_true→lF,and_eq_true_iff→pD,true_and→qL,noConfusion→zF,and_true→E9,or_false→aMq
open Char renaming toNat→aO4
open Classical renaming byContradiction→eH,em→Oa
open False renaming elim→dD
open ForInStep renaming yield→yV
open Int renaming toNat_natCast→eL,toNat_of_nonneg→gS,ofNat_lt→jW,fmod_nonneg_of_pos→tI,natCast_nonneg→xJ,fmod_lt_of_pos→xK,fmod_eq_emod_of_nonneg→xL,lt_trichotomy→Jc,sub_zero→Yx,lt_trans→Yy,max_eq_right→aIo,emod_nonneg→aI0,ofNat_inj→aMv,ofNat_le→aOv,le_of_eq→aOw,neg_sub→aO3
open List renaming mem_of_getElem?→aG,mem_singleton→aM,getD_eq_getElem?_getD→aP,mem_cons→aR,mem_cons_self→aU,toArray→aY,mem_cons_of_mem→bB,length_map→bC,getElem?_eq_getElem→bJ,length_append→bK,map_append→bX,map_cons→cC,length_cons→cQ,mem_append→cV,getElem?_eq_some_iff→cW,append_nil→eO,all_cons→eT,getElem?_map→fK,length_pos_iff→fS,getD_cons_zero→fT,pairwise_cons→gE,length_nil→gI,all_eq_true→gN,nil_append→hG,append_assoc→iJ,zip_cons_cons→iT,cons_append→jO,all_nil→jQ,eq_nil_of_length_eq_zero→jZ,getElem_of_mem→kK,not_mem_nil→kT,lookup_cons→kU,getElem_mem→kW,replicate→lD,drop_eq_getElem_cons→lT,nodup_cons→lV,size_toArray→lY,pairwise_append→lZ,flatMap_cons→mA,length_take→mP,drop_length→mQ,take_of_length_le→nV,singleton_append→oO,getElem?_inj→oX,getElem?_append_right→pC,getElem?_append_left→qH,forIn_cons→qX,mem_map→sH,filter_eq_nil_iff→sK,getElem?_eq_none→tP,length_drop→tW,flatMap_nil→tX,perm_iff_count→vJ,getD_cons_succ→vK,map_map→wE,range→wP,exists_cons_of_ne_nil→wQ,pairwise_map→yO,length_range→yP,take_length→zD,all→zE,take_append_drop→Bs,drop_eq_drop_min→Bt,take_succ→Ce,mem_append_left→Cf,map_take→E6,map_drop→E7,filter_append→Fi,map_nil→Gl,of_mem_zip→Ln,take→To,pairwise_singleton→Tp,append_eq_nil_iff→Wa,take_eq_take_min→Yv,mem_append_right→Yw,mem_of_mem_tail→Y4,dropLast_concat→Y5,forIn_toArray→ű,filter_congr→aDd,count_append→aDe,count_cons→aIn,drop_take→aIy,count_nil→aIz,perm_nil→aMo,Pairwise→aMp,foldl→aO2
open List.Pairwise renaming nil→Oh,imp_of_mem→aOu
open List.Perm renaming append_left→Og,trans→Y6
open List.cons renaming injEq→jV
open Nat renaming le_refl→bG,le_trans→bZ,lt_of_lt_of_le→cG,zero_le→cJ,pos_of_ne_zero→dU,le_add_right→dW,add_assoc→eN,lt_add_of_pos_right→fC,le_of_not_lt→fI,ne_of_lt→fM,lt_irrefl→fP,lt_succ_self→gQ,zero_add→gW,lt_of_le_of_lt→hF,le_of_lt_succ→jF,le_succ→jG,ne_of_gt→jU,exists_eq_add_of_le→kF,not_lt_zero→kI,not_lt→kJ,le_of_lt→kR,le_antisymm→lX,beq→mG,sub_lt_sub_left→mO,lt_of_not_le→nA,add_zero→qF,add_comm→qG,lt_or_ge→tG,le_of_eq→tH,le_of_ble_eq_true→tV,le_add_left→vI,lt_of_add_lt_add_left→yN,succ_ne_self→Aq,add_sub_cancel_left→Ar,succ_pos→Bf,sub_lt_sub_right→Dw,one_pos→Dx,mul_one→Dy,ble→D5,add_one_sub_one→E4,add_lt_add_left→E5,lt_trichotomy→I9,lt_trans→Ja,min_eq_right→Kd,zero_lt_one→N8,sub_le→Qr,exists_eq_add_of_lt→V9,le_total→Yu,add_left_cancel→ů,sub_lt→aDb,eq_or_lt_of_le→aDc,succ_le_of_lt→aE1,lt_succ_of_lt→aE2,not_lt_of_le→aIj,not_le_of_lt→aIk,min_le_right→aIl,strongRecOn→aIv,min_eq_left→aIw,max_eq_left→aIx,add_le_add→aMn,zero_mul→aOt,le_zero→aO1
open Ne renaming symm→qZ
open Option renaming none→aF,map_eq_some_iff→cH,isSome_iff_exists→fN,map→nD,getD_some→Gk
open Option.some renaming inj→eR
open Or renaming inl→nC,inr→oY
open Prod.mk renaming injEq→qE
open Pure renaming pure→Tn
open PyProof renaming noPylong_of_log2→N7
open PyProof.Rows renaming callWith_type→kE,assign_Name→Gj,MethodCall_→aIm,same_iff→aOz,mod_int→aO0
open PySem renaming wpAny_bind→aH,wpAny_pure→aW,wpAny_mono→bL,Value→bM,wpAny→bT,wpAny_holding→bY,Shared→dE,Addr→dF,starEach→dR,Heap→dT,OsState→dY,Params→fL,wpAny_standAt→gC,World→gD,sizeLine→hW,standAt→jD,wpAny_call→jH,codeAny→jI,Str→jY,wpAny_eqBool_int→kA,compEnvC→kH,Around→kS,callWith→lA,wpAny_call_entry→lO,letOwnedTupleGo→mJ,sizeLine_eq→mN,wpAny_callSpecial?_slot→nZ,PyData→oC,codeAny_mono→oV,assignEach→oW,codeAny_call_builtin→qK,cellsFrom→qW,NameKind→rP,wpAny_newObj_type→uE,Stmt→vD,Obj→wM,FuncData→wN,wpAny_specialOf→xF,wpAny_execs_nil→xG,Result→xH,Program→yM,wpAny_seqItems→yX,wpAny_rule→yY,isSubtype_type→yZ,wpAny_items_cons→B9,isSubtype→Ca,typeLookup→Dv,wpAny_updateSeq→D0,typeLookup_type→D1,codeAny_of_tree→D2,codeAny_builtin→D3,Sem→E1,wpAny_field→Fw,codeAny_forLoop_any→I7,wpAny_release→Jg,wpAny_pyIter_tuple→Ka,wpAny_load→Kb,wpAny_truthy_bool→N5,wpAny_pyIter_list→N6,Builtin→Ob,wpAny_items_nil→Tl,wpAny_tryCatch→Yp,wpAny_is_other→Yq,Scope→Ys,PlainAttrs→Yt,wpAny_comprehension_free→ţ,wpAny_attempt→Ť,wpAny_For→ŭ,list_append→Ů,Model→Ű,wpAny_lt_int→aC8,Fin→aC9,wpAny_notOrdered_dict→aE0,wpAny_updateDictKeys→aIh,wpAny_newFunctionEnv→aIi,wpAny_evalPart_none→aIs,wpAny_Assign_stores→aIt,wpAny_dictFind_int→aMm,wpAny_sequenceKey→aMr,wpAny_pyIter_enum→aMs,wpAny_pyHash_int→aOo,wpAny_isInstance→aOp,wpAny_Dict_empty→aOq,call→aOs
open PySem.Around renaming in1_units→Gr,under_plainId→Wb,in1_depth→ų
open PySem.Bind renaming checkArgs→aI1,madeBy→aOy
open PySem.BindsTo renaming of_eq→aE5
open PySem.Builtin renaming divisionGoesByPylong→nJ
open PySem.Builtin.Dict renaming notOrdered→aO9,missed→aPa
open PySem.Builtin.Frozenset renaming withSetAsKey→aIp,oneOther→aIq,addrOf→aIr
open PySem.Builtin.Int renaming intBits→Au
open PySem.Builtin.List renaming listExtendWith→E8,listTooLong→Gp,listSameRef→Gq,listItems→Ji,listUpdate→aO5,listSubscript?→aO6,listLengthHint→aO7,listFitsIndex→aO8
open PySem.Builtin.Range renaming rangeSize→Gn
open PySem.Builtin.Slots renaming bestBase→aOx
open PySem.Calls renaming callWith_builtin→At,call_function_entry→Oi,callWith_function→Qw,loadGlobal_global→aPb,loadGlobal_builtin→aPc,call_len_list→aPd,Name_function_global→aPe
open PySem.Code renaming builtin→Gm,quiet_builtin→Ų
open PySem.F renaming plainAttrs_list→bP,slot_list_append→bW,slot_list_extend→lU,slot_list_pop→rZ,args_tuple_add_2→xI,entry_tuple_add→yL,slot_tuple_add→zA,slot_tuple_iterator_next→E2,slot_dict_setdefault→I8,args_list_append_2→Kc,plain_extend_loop→Lh,entry_list_append→Lj,entry_extend_loop→Lk,plainAttrs_dict→Of,entry_list_pop→Qp,entry_dict_get→Qq,slot_int_rmul→Qt,slot_dict_get→Qu
open PySem.Flow renaming next→aE4
open PySem.Heap renaming get?_push_size→cA,get?_push_of_some→cF,lt_size→dQ,get?_update_other→gF,size_push→gJ,get?_update_self→jJ,SameBut→pW,ExtBut→Y7
open PySem.Heap.IsSliceOf renaming new→aMw
open PySem.Heap.SameBut renaming update→oP
open PySem.IsL renaming new→Jb
open PySem.Meets renaming of_wp→aMu
open PySem.Obj renaming mapSeq→iI,isFreed_of_dict→E3,data_mapDictKeys→Ŧ,data_mapFields→aDa
open PySem.PyData renaming depthAll→Jh,eqv→Lm,strOk→Qv,canLayAll0→ť,depth→aIu
open PySem.SeqAt renaming shaped→Tm,noMix→aMt
open PySem.Str renaming ofString→aC
open PySem.Value renaming none→jA,type→lB,ref→lR,isInt→qY,int→Cd,builtin→D4
open PySem.W renaming behindTheImports→oB,Looks→rQ,Frag→As
open PySem.W.Hook renaming says→aE3
open PySem.W.Looks renaming of_pure→kQ,ld→N9
open PySem.Walks renaming tuple→Yr,list→aOr
open String renaming ofList→Oe
open PySem PySem.W PyProof.Rows
noncomputable section
namespace MineH
section
set_option backward.match.sparseCases false
noncomputable abbrev prog:yM:=PySem.Challenge.pw_mt0007_01
noncomputable def Uh:vD→Arguments×List vD×Ys×(List vD→vD)
 |.FunctionDef _ a b _ _ _ s _ _ _=>(a,b,s,fun _=>default)
 |.ClassDef n e k b d t s u v w p=>(default,b,s,fun c=>.ClassDef n e k c d t s u v w p)
 |_=>(default,[],default,fun _=>default)
def bS(s:vD):List vD:=(Uh s).2.1
def aL4:List Nat→List vD→vD
 |[],_=>default
 |i::r,b=>match b.drop i with
  |[]=>default
  |s::_=>match r with
   |[]=>s
   |_=>aL4 r (bS s)
def at_(r:List Nat):vD:=aL4 r PySem.Challenge.pw_mt0007_01.main.body
def Ik(s:vD):Arguments:=(Uh s).1
def Nc(s:vD):Ys:=(Uh s).2.2.1
noncomputable def aEs(b:List vD):jY:=(docOf b).getD Str.empty
def fnDoc(s:vD):jY:=aEs (bS s)
def Eu(s:vD):jY:=aEs (bS s)
theorem Ö(cs:List Char):aC (Oe cs)=⟨(cs.map aO4).toArray⟩:=by rw [Str.ofString_eq_toList,String.toList_ofList]
noncomputable def aH1:List Char:=by
 refine (fun (h:Eu (at_ [5])=aC (Oe ?cs))=>?cs) ?h
 case h=>exact rfl
noncomputable def aCa:jY:=⟨(aH1.map aO4).toArray⟩
noncomputable def sv(x:String)(t:Tok):bM:=.str (aC x) t
noncomputable def iv(n:Int):bM:=.int n 0
noncomputable def rv(n:Nat):bM:=.ref n
noncomputable def Ck(l:List bM):wM:=⟨.type "tuple",aF,.seq l.toArray 0, #[]⟩
noncomputable def fdO(l:List bM):wM:=⟨.none,aF,.fields l.toArray, #[]⟩
noncomputable def cdO(l:List bM):wM:=⟨.type "code",aF,.fields l.toArray, #[]⟩
def foO(c:bM)(nm qn:String)(p:List Nat)(g:Nat)(df kd dc pm:bM)(an:Option Nat)(co ct:bM)(b:Nat):wM:=⟨c,aF,.func {name:=aC nm,qualname:=aC qn,params:=Ik (at_ p),body:=.stmts (bS (at_ p)),scope:=Nc (at_ p),globals:=g,closure:=[],defaults:=df,kwdefaults:=kd,doc:=dc,pyModule:=pm,annotations:=an,code:=co,closureTuple:=ct,builtins:=b}, #[]⟩
def iA(P:fL)(x:String)(t:Tok)(v:bM):DictEntry:=⟨PyData.keyHash P (aC x),sv x t,v⟩
def aMy(d:jY)(s:vD):vD:=(Uh s).2.2.2 (.Expr (.Constant (.str d) 0 ⟨71,4,143,7⟩) ⟨71,4,143,7⟩::(bS s).tail)
noncomputable def aJi(f:vD→vD):Nat→List vD→List vD
 |0,s::r=>f s::r
 |n+1,s::r=>s::aJi f n r
 |_,[]=>[]
def aFs(d:jY)(p:yM):yM:={p with main:={p.main with body:=aJi (aMy d) 5 p.main.body}}
def pwQ:yM:=aFs aCa PySem.Challenge.pw_mt0007_01
theorem aH0:Eu (at_ [5])=aCa:=(show Eu (at_ [5])=aC (Oe aH1) by kernel_rfl).trans (Ö aH1)
theorem aJn:PySem.Challenge.pw_mt0007_01=pwQ:=(show PySem.Challenge.pw_mt0007_01=aFs (Eu (at_ [5])) PySem.Challenge.pw_mt0007_01 by kernel_rfl).trans (congrArg (fun d=>aFs d PySem.Challenge.pw_mt0007_01) aH0)
noncomputable def wO:bM:=sv "cpy313.difflib" 194
noncomputable def mdM:bM:=sv "__main__" 164
noncomputable def Uv:bM:=(sv "law_mt0007_01" 583)
noncomputable def X9(l:List DictEntry)(n:Nat):wM:=⟨.type "dict",aF,.dict l.toArray n, #[]⟩
noncomputable def nmV:Nat→List String→List bM
 |_,[]=>[]
 |t,s::r=>sv s t::nmV (t+1) r
noncomputable def lnV(b:Nat):List Nat→List bM
 |x::y::r=>iv x::iv b::rv y::lnV b r
 |_=>[]
noncomputable def Od(m:bM)(p:List Nat)(n q:String)(df d:bM)(c:Nat):wM:=foO (.type "function") n q p 3 df .none d m aF (rv c) .none 0
noncomputable def fnT(p:List Nat)(n q:String):wM:=foO .none n q p 0 .none .none .none .none aF .none .none 0
noncomputable def fcO(k:Nat)(n q:String)(t u l a:Nat)(r:List bM):wM:=cdO (sv n t::sv q (t+1)::sv "/claim/cut.py" (t+2)::iv l::iv a::iv 0::iv 0::iv 3::rv k::.bool true::iv 181::rv (k+1)::.none::(r++[iv u,iv l,sv "/claim/cut.py" (u+1)]))
noncomputable def fdV(p:List Nat)(u:Nat)(d:Bool):bM:=bif d then .str (fnDoc (at_ p)) (u+2)else .none
noncomputable def fG(m:bM)(k:Nat)(p:List Nat)(n q:String)(t:Nat)(ns:List String)(l a:Nat)(df:bM)(d:Bool):List wM:=
 [Ck [],fdO [],Ck (nmV (t+3) ns),Ck [],fnT p n q,fcO k n q t (t+3+ns.length) l a [rv (k+2),rv (k+3),rv (k+4)],Od m p n q df (fdV p (t+3+ns.length) d) (k+5)]
noncomputable def fH(m:bM)(k:Nat)(p:List Nat)(n q:String)(t l a:Nat)(df:bM)(d:Bool):List wM:=
 [Ck [],fdO [],fnT p n q,fcO k n q t (t+3) l a [.none,.none,rv (k+2)],Od m p n q df (fdV p (t+3) d) (k+3)]
noncomputable def nth:List wM→Nat→wM
 |[],_=>default
 |x::_,0=>x
 |_::r,n+1=>nth r n
noncomputable def W3(L:List wM)(n:Nat):Nat→Nat→Nat→BT
 |0,_,_=>.nil
 |k+1,i,s=>bif D5 n i then .nil else .node (nth L i) (W3 L n k (i+s) (2*s)) (W3 L n k (i+2*s) (2*s))
def aJ2:wM:=Ck []
def aJ1:wM:=fdO []
def aJ0:wM:=cdO [(sv "<module>" 182),(sv "<module>" 183),(sv "/claim/cut.py" 184),(iv 1),(iv 0),(iv 0),(iv 0),(iv 0),(rv 11),(.bool false),(iv 181),(rv 12),.none,.none,.none,.none,(iv 185),(iv 1),(sv "/claim/cut.py" 186)]
def aJz:wM:=⟨(.type "frame"),aF,.plain, #[(some (rv 13)),(some (rv 3)),(some (rv 3)),aF,(some (sv "__main__" 164)),aF,(some (rv 0))]⟩
def trA(P:fL):BT:=(.node (boot_o_0 P) (.node (boot_o_1 P) (.node (boot_o_3 P) (.node (boot_o_7 P) .nil .nil) (.node aJ2 .nil .nil)) (.node (boot_o_5 P) (.node (boot_o_9 P) .nil .nil) (.node aJ0 .nil .nil))) (.node (boot_o_2 P) (.node (boot_o_4 P) (.node (boot_o_8 P) .nil .nil) (.node aJ1 .nil .nil)) (.node (boot_o_6 P) (.node (boot_o_10 P) .nil .nil) (.node aJz .nil .nil))))
def stA(w:gD)(os:dY):SharedT:=⟨trA w.params,15,{},jB [],{},187,os⟩
def O8:wM:=Od wO [3,4] "__new__" "Match.__new__" .none (.str (fnDoc (at_ [3,4])) 283) 81
def O7:wM:=foO (.type "function") "_make" "Match._make" [3,5] 3 .none .none (.str (fnDoc (at_ [3,5])) 293) (sv "cpy313.difflib" 194) (some 92) (rv 88) .none 0
def o135v0:wM:=⟨(.type "type"),aF,(.cls {name:=(aC "Match"),bases:=[(.type "tuple")],mro:=[(rv 135),(.type "tuple"),(.type "object")],ns:=134,qualname:=(aC "Match"),hasDict:=false,slotNames:=[],subclasses:=[],abstract:=false,collection:=aF,hasDel:=false}), #[(some (rv 65)),aF,(some (sv "Match" 253)),(some (sv "Match" 261)),(some .none),(some (.bool false))]⟩
def Ec:wM:=Od wO [5,1] "__init__" "SequenceMatcher.__init__" (rv 153) (.str (fnDoc (at_ [5,1])) 416) 159
def o167v0:wM:=Od wO [5,2] "set_seqs" "SequenceMatcher.set_seqs" .none (.str (fnDoc (at_ [5,2])) 426) 166
def o174v0:wM:=Od wO [5,3] "set_seq1" "SequenceMatcher.set_seq1" .none (.str (fnDoc (at_ [5,3])) 435) 173
def o181v0:wM:=Od wO [5,4] "set_seq2" "SequenceMatcher.set_seq2" .none (.str (fnDoc (at_ [5,4])) 444) 180
def o188v0:wM:=Od wO [5,5] "__chain_b" "SequenceMatcher.__chain_b" .none .none 187
def o196v0:wM:=Od wO [5,6] "find_longest_match" "SequenceMatcher.find_longest_match" (rv 189) (.str (fnDoc (at_ [5,6])) 490) 195
def o203v0:wM:=Od wO [5,7] "get_matching_blocks" "SequenceMatcher.get_matching_blocks" .none (.str (fnDoc (at_ [5,7])) 517) 202
def o210v0:wM:=Od wO [5,8] "get_opcodes" "SequenceMatcher.get_opcodes" .none (.str (fnDoc (at_ [5,8])) 532) 209
def o253v0:wM:=Od Uv [7] "_law_spots" "_law_spots" .none .none 252
def o258v0:wM:=Od Uv [8] "_law_version" "_law_version" .none .none 257
def o265v0:wM:=Od Uv [9] "_law_rule" "_law_rule" .none .none 264
def o270v0:wM:=Od Uv [10] "_law_due" "_law_due" .none .none 269
def o277v0:wM:=Od Uv [11] "_law_changes" "_law_changes" .none .none 276
def o284v0:wM:=Od Uv [12] "_law_merge" "_law_merge" .none .none 283
def o289v0:wM:=Od Uv [13] "law" "law" .none .none 288
noncomputable def L4l(P:fL):List wM:=[[boot_o_0 P,boot_o_1 P,boot_o_2 P,X9 [iA P "__name__" 165 (sv "law_mt0007_01" 583),iA P "__doc__" 166 .none,iA P "__package__" 167 .none,iA P "__loader__" 168 (.builtin "__main__.__loader__#opaque"),iA P "__spec__" 169 .none,iA P "__annotations__" 170 (rv 6),iA P "__builtins__" 171 (rv 4),iA P "__file__" 173 (sv "/claim/cut.py" 172),iA P "__cached__" 174 .none,iA P "_wall" 193 (rv 21),iA P "_tuplegetter" 252 (rv 60),iA P "Match" 380 (rv 135),iA P "_calculate_ratio" 388 (rv 145),iA P "SequenceMatcher" 582 (rv 242),iA P "_law_spots" 602 (rv 253),iA P "_law_version" 608 (rv 258),iA P "_law_rule" 617 (rv 265),iA P "_law_due" 623 (rv 270),iA P "_law_changes" 643 (rv 277),iA P "_law_merge" 671 (rv 284),iA P "law" 677 (rv 289)] 21,boot_o_4 P,boot_o_5 P,boot_o_6 P,boot_o_7 P,boot_o_8 P,boot_o_9 P,boot_o_10 P,Ck [],fdO (lnV 0 [1,20,5,27,23,71,66,144,70,151,463,252,483,257,485,264,489,269,504,276,514,283,536,288]),cdO [(sv "<module>" 182),(sv "<module>" 183),(sv "/claim/cut.py" 184),(iv 1),(iv 0),(iv 0),(iv 0),(iv 0),(rv 11),(.bool false),(iv 181),(rv 12),.none,.none,.none,.none,(iv 185),(iv 1),(sv "/claim/cut.py" 186)],⟨(.type "frame"),aF,.plain, #[(some (rv 13)),(some (rv 3)),(some (rv 3)),aF,(some (sv "__main__" 164)),aF,(some (rv 0))]⟩],
 fG mdM 15 [0] "_wall" "_wall" 187 ["k"] 1 1 .none false,
 [Ck [],⟨(.type "builtin_function_or_method"),aF,(.fields #[(.builtin "type.__prepare__"),(.type "type")]), #[]⟩,X9 [iA P "__module__" 203 wO,iA P "__qualname__" 205 (sv "_tuplegetter" 204),iA P "__firstlineno__" 207 (.int 5 206),iA P "__init__" 216 (rv 35),iA P "__get__" 225 (rv 43),iA P "__set__" 234 (rv 50),iA P "__delete__" 242 (rv 57),iA P "__static_attributes__" 245 (rv 58)] 8,Ck [],fdO (lnV 4 [7,34,11,42,18,49,21,56]),cdO [(sv "_tuplegetter" 198),(sv "_tuplegetter" 199),(sv "/claim/cut.py" 200),(iv 5),(iv 0),(iv 0),(iv 0),(iv 0),(rv 25),(.bool false),(iv 181),(rv 26),.none,.none,.none,.none,(iv 201),(iv 5),(sv "/claim/cut.py" 202)],⟨(.type "frame"),aF,.plain, #[(some (rv 27)),(some (rv 3)),(some (rv 24)),aF,(some wO),aF,(some (rv 0))]⟩],
 fG wO 29 [2,0] "__init__" "_tuplegetter.__init__" 208 ["self","index","doc"] 7 3 .none false,
 [Ck [.none]],
 fG wO 37 [2,1] "__get__" "_tuplegetter.__get__" 217 ["self","obj","objtype"] 11 3 (rv 36) false,
 fG wO 44 [2,2] "__set__" "_tuplegetter.__set__" 226 ["self","obj","value"] 18 3 .none false,
 fG wO 51 [2,3] "__delete__" "_tuplegetter.__delete__" 235 ["self","obj"] 21 2 .none false,
 [Ck (nmV 243 ["__doc__","index"]),X9 [iA P "__module__" 203 wO,iA P "__firstlineno__" 207 (.int 5 206),iA P "__init__" 216 (rv 35),iA P "__get__" 225 (rv 43),iA P "__set__" 234 (rv 50),iA P "__delete__" 242 (rv 57),iA P "__static_attributes__" 245 (rv 58),iA P "__dict__" 247 (rv 61),iA P "__weakref__" 249 (rv 62),iA P "__doc__" 250 .none] 4,⟨(.type "type"),aF,(.cls {name:=(aC "_tuplegetter"),bases:=[(.type "object")],mro:=[(rv 60),(.type "object")],ns:=59,qualname:=(aC "_tuplegetter"),hasDict:=true,slotNames:=[],subclasses:=[],abstract:=false,collection:=aF,hasDel:=false}), #[aF,aF,(some (sv "_tuplegetter" 196)),(some (sv "_tuplegetter" 204)),(some (.builtin "object.__new__")),(some (.bool true))]⟩,⟨(.type "getset_descriptor"),aF,(.fields #[(sv "__dict__" 246),(rv 60),(.builtin "function.__dict__"),(.builtin "function.__dict__#set")]), #[]⟩,⟨(.type "getset_descriptor"),aF,(.fields #[(sv "__weakref__" 248),(rv 60),(.builtin "ExceptionGroup.__weakref__"),.none]), #[]⟩,⟨(.type "super"),aF,(.fields #[(rv 60),(rv 60),(rv 60)]), #[]⟩,⟨(.type "builtin_function_or_method"),aF,(.fields #[(.builtin "object.__init_subclass__"),(rv 60)]), #[]⟩,Ck [(.type "tuple")],⟨(.type "builtin_function_or_method"),aF,(.fields #[(.builtin "type.__prepare__"),(.type "type")]), #[]⟩,X9 [iA P "__module__" 260 wO,iA P "__qualname__" 262 (sv "Match" 261),iA P "__firstlineno__" 264 (.int 23 263),iA P "__doc__" 266 (.str (Eu (at_ [3])) 265),iA P "__slots__" 268 (rv 73),iA P "_fields" 272 (rv 74),iA P "_field_defaults" 273 (rv 75),iA P "__new__" 284 (rv 82),iA P "_make" 306 (rv 91),iA P "_replace" 317 (rv 100),iA P "__replace__" 318 (rv 100),iA P "__repr__" 326 (rv 107),iA P "_asdict" 333 (rv 114),iA P "__getnewargs__" 341 (rv 121),iA P "__match_args__" 345 (rv 122),iA P "a" 355 (rv 124),iA P "b" 365 (rv 127),iA P "size" 375 (rv 130),iA P "__static_attributes__" 376 (rv 132),iA P "__classcell__" 377 (rv 68)] 20,⟨(.type "cell"),aF,(.cell (some (rv 135))), #[]⟩,Ck [],fdO (lnV 4 [29,81,34,88,41,99,52,106,56,113,59,120]),cdO [(sv "Match" 255),(sv "Match" 256),(sv "/claim/cut.py" 257),(iv 23),(iv 0),(iv 0),(iv 0),(iv 0),(rv 69),(.bool false),(iv 181),(rv 70),.none,.none,.none,.none,(iv 258),(iv 23),(sv "/claim/cut.py" 259)],⟨(.type "frame"),aF,.plain, #[(some (rv 71)),(some (rv 3)),(some (rv 67)),aF,(some wO),aF,(some (rv 0))]⟩,Ck [],Ck (nmV 269 ["a","b","size"]),X9 [] 0],
 fG wO 76 [3,4] "__new__" "Match.__new__" 274 ["_cls","a","b","size"] 29 4 .none true,
 [Ck [],fdO [],Ck (nmV 288 ["cls","iterable","result"]),Ck [],foO .none "_make" "Match._make" [3,5] 0 .none .none .none .none aF .none .none 0,cdO [(sv "_make" 285),(sv "Match._make" 286),(sv "/claim/cut.py" 287),(iv 33),(iv 2),(iv 0),(iv 0),(iv 3),(rv 83),(.bool true),(iv 181),(rv 84),.none,(rv 85),(rv 86),(rv 87),(iv 291),(iv 33),(sv "/claim/cut.py" 292)],foO (.type "function") "_make" "Match._make" [3,5] 3 .none .none (.str (fnDoc (at_ [3,5])) 293) wO (some 92) (rv 88) .none 0,X9 [iA P "__module__" 295 wO,iA P "__name__" 298 (sv "_make" 297),iA P "__qualname__" 301 (sv "Match._make" 300),iA P "__doc__" 303 (sv "Make a new Match object from a sequence or iterable" 293),iA P "__annotations__" 305 (rv 92)] 5,⟨(.type "classmethod"),(some 90),(.fields #[(rv 89),(.bool false)]), #[]⟩,X9 [] 0,Ck [(rv 68)],Ck (nmV 310 ["__class__"]),fdO [],Ck (nmV 311 ["self","kwds","result"]),Ck [],foO .none "_replace" "Match._replace" [3,6] 0 .none .none .none .none aF .none .none 0,cdO [(sv "_replace" 307),(sv "Match._replace" 308),(sv "/claim/cut.py" 309),(iv 41),(iv 1),(iv 1),(iv 0),(iv 11),(rv 94),(.bool true),(iv 181),(rv 95),.none,(rv 96),(rv 97),(rv 98),(iv 314),(iv 41),(sv "/claim/cut.py" 315)],⟨(.type "function"),aF,(.func {name:=(aC "_replace"),qualname:=(aC "Match._replace"),params:=Ik (at_ [3,6]),body:=.stmts (bS (at_ [3,6])),scope:=Nc (at_ [3,6]),globals:=3,closure:=[((aC "__class__"),68)],defaults:=.none,kwdefaults:=.none,doc:=(.str (fnDoc (at_ [3,6])) 316),pyModule:=wO,annotations:=aF,code:=(rv 99),closureTuple:=(rv 93),builtins:=0}), #[]⟩],
 fG wO 101 [3,8] "__repr__" "Match.__repr__" 319 ["self"] 52 1 .none true,
 fG wO 108 [3,9] "_asdict" "Match._asdict" 327 ["self"] 56 1 .none false,
 fG wO 115 [3,10] "__getnewargs__" "Match.__getnewargs__" 334 ["self"] 59 1 .none true,
 [Ck (nmV 342 ["a","b","size"]),X9 [iA P "index" 352 (.int 0 346),iA P "__doc__" 354 (sv "Alias for field number 0" 347)] 2,⟨(rv 60),(some 123),.plain, #[]⟩,⟨(.type "frame"),aF,(.dict #[iA P "self" 348 (rv 124),iA P "index" 349 (.int 0 346),iA P "doc" 350 (sv "Alias for field number 0" 347)] 3), #[]⟩,X9 [iA P "index" 362 (.int 1 356),iA P "__doc__" 364 (sv "Alias for field number 1" 357)] 2,⟨(rv 60),(some 126),.plain, #[]⟩,⟨(.type "frame"),aF,(.dict #[iA P "self" 358 (rv 127),iA P "index" 359 (.int 1 356),iA P "doc" 360 (sv "Alias for field number 1" 357)] 3), #[]⟩,X9 [iA P "index" 372 (.int 2 366),iA P "__doc__" 374 (sv "Alias for field number 2" 367)] 2,⟨(rv 60),(some 129),.plain, #[]⟩,⟨(.type "frame"),aF,(.dict #[iA P "self" 368 (rv 130),iA P "index" 369 (.int 2 366),iA P "doc" 370 (sv "Alias for field number 2" 367)] 3), #[]⟩,Ck [],⟨(.type "list"),aF,(.seq #[] 0), #[]⟩,X9 [iA P "__module__" 260 wO,iA P "__firstlineno__" 264 (.int 23 263),iA P "__doc__" 266 (.str (Eu (at_ [3])) 265),iA P "__slots__" 268 (rv 73),iA P "_fields" 272 (rv 74),iA P "_field_defaults" 273 (rv 75),iA P "__new__" 284 (rv 136),iA P "_make" 306 (rv 91),iA P "_replace" 317 (rv 100),iA P "__replace__" 318 (rv 100),iA P "__repr__" 326 (rv 107),iA P "_asdict" 333 (rv 114),iA P "__getnewargs__" 341 (rv 121),iA P "__match_args__" 345 (rv 122),iA P "a" 355 (rv 124),iA P "b" 365 (rv 127),iA P "size" 375 (rv 130),iA P "__static_attributes__" 376 (rv 132)] 2,⟨(.type "type"),aF,(.cls {name:=(aC "Match"),bases:=[(.type "tuple")],mro:=[(rv 135),(.type "tuple"),(.type "object")],ns:=134,qualname:=(aC "Match"),hasDict:=false,slotNames:=[],subclasses:=[],abstract:=false,collection:=aF,hasDel:=false}), #[(some (rv 65)),aF,(some (sv "Match" 253)),(some (sv "Match" 261)),(some .none),(some (.bool false))]⟩,⟨(.type "staticmethod"),aF,(.fields #[(rv 82)]), #[]⟩,⟨(.type "super"),aF,(.fields #[(rv 135),(rv 135),(rv 135)]), #[]⟩,⟨(.type "builtin_function_or_method"),aF,(.fields #[(.builtin "object.__init_subclass__"),(rv 135)]), #[]⟩],
 fG wO 139 [4] "_calculate_ratio" "_calculate_ratio" 381 ["matches","length"] 66 2 .none false,
 [Ck [],⟨(.type "builtin_function_or_method"),aF,(.fields #[(.builtin "type.__prepare__"),(.type "type")]), #[]⟩,X9 [iA P "__module__" 396 wO,iA P "__qualname__" 398 (sv "SequenceMatcher" 397),iA P "__firstlineno__" 400 (.int 70 399),iA P "__doc__" 402 (.str aCa 401),iA P "__init__" 417 (rv 160),iA P "set_seqs" 427 (rv 167),iA P "set_seq1" 436 (rv 174),iA P "set_seq2" 445 (rv 181),iA P "_SequenceMatcher__chain_b" 463 (rv 188),iA P "find_longest_match" 491 (rv 196),iA P "get_matching_blocks" 518 (rv 203),iA P "get_opcodes" 533 (rv 210),iA P "get_grouped_opcodes" 542 (rv 218),iA P "ratio" 551 (rv 225),iA P "quick_ratio" 558 (rv 232),iA P "real_quick_ratio" 565 (rv 239),iA P "__static_attributes__" 576 (rv 240)] 17,Ck [],fdO (lnV 4 [145,159,173,166,184,173,209,180,236,187,260,195,335,202,383,209,430,217,433,224,457,231,460,238]),cdO [(sv "SequenceMatcher" 391),(sv "SequenceMatcher" 392),(sv "/claim/cut.py" 393),(iv 70),(iv 0),(iv 0),(iv 0),(iv 0),(rv 149),(.bool false),(iv 181),(rv 150),.none,.none,.none,.none,(iv 394),(iv 70),(sv "/claim/cut.py" 395)],⟨(.type "frame"),aF,.plain, #[(some (rv 151)),(some (rv 3)),(some (rv 148)),aF,(some wO),aF,(some (rv 0))]⟩,Ck [.none,(sv "" 404),(sv "" 405),(.bool true)]],
 fG wO 154 [5,1] "__init__" "SequenceMatcher.__init__" 406 ["self","isjunk","a","b","autojunk"] 145 5 (rv 153) true,
 fG wO 161 [5,2] "set_seqs" "SequenceMatcher.set_seqs" 418 ["self","a","b"] 173 3 .none true,
 fG wO 168 [5,3] "set_seq1" "SequenceMatcher.set_seq1" 428 ["self","a"] 184 2 .none true,
 fG wO 175 [5,4] "set_seq2" "SequenceMatcher.set_seq2" 437 ["self","b"] 209 2 .none true,
 fG wO 182 [5,5] "__chain_b" "SequenceMatcher.__chain_b" 446 ["self","b","b2j","i","elt","indices","junk","isjunk","popular","n","ntest","idxs"] 236 1 .none false,
 [Ck [(.int 0 464),.none,(.int 0 465),.none]],
 fG wO 190 [5,6] "find_longest_match" "SequenceMatcher.find_longest_match" 466 ["self","alo","ahi","blo","bhi","a","b","b2j","isbjunk","besti","bestj","bestsize","j2len","nothing","i","j2lenget","newj2len","j","k"] 260 5 (rv 189) true,
 fG wO 197 [5,7] "get_matching_blocks" "SequenceMatcher.get_matching_blocks" 492 ["self","la","lb","queue","matching_blocks","alo","ahi","blo","bhi","i","j","k","x","i1","j1","k1","non_adjacent","i2","j2","k2"] 335 1 .none true,
 fG wO 204 [5,8] "get_opcodes" "SequenceMatcher.get_opcodes" 519 ["self","i","j","answer","ai","bj","size","tag"] 383 1 .none true,
 [Ck [(.int 3 534)]],
 fG wO 212 [5,9] "get_grouped_opcodes" "SequenceMatcher.get_grouped_opcodes" 535 ["self","n"] 430 2 (rv 211) false,
 fG wO 219 [5,10] "ratio" "SequenceMatcher.ratio" 543 ["self","matches"] 433 1 .none true,
 fG wO 226 [5,11] "quick_ratio" "SequenceMatcher.quick_ratio" 552 ["self"] 457 1 .none false,
 fG wO 233 [5,12] "real_quick_ratio" "SequenceMatcher.real_quick_ratio" 559 ["self"] 460 1 .none false,
 [Ck (nmV 566 ["a","autojunk","b","b2j","bjunk","bpopular","fullbcount","isjunk","matching_blocks","opcodes"]),X9 [iA P "__module__" 396 wO,iA P "__firstlineno__" 400 (.int 70 399),iA P "__doc__" 402 (.str aCa 401),iA P "__init__" 417 (rv 160),iA P "set_seqs" 427 (rv 167),iA P "set_seq1" 436 (rv 174),iA P "set_seq2" 445 (rv 181),iA P "_SequenceMatcher__chain_b" 463 (rv 188),iA P "find_longest_match" 491 (rv 196),iA P "get_matching_blocks" 518 (rv 203),iA P "get_opcodes" 533 (rv 210),iA P "get_grouped_opcodes" 542 (rv 218),iA P "ratio" 551 (rv 225),iA P "quick_ratio" 558 (rv 232),iA P "real_quick_ratio" 565 (rv 239),iA P "__static_attributes__" 576 (rv 240),iA P "__dict__" 578 (rv 243),iA P "__weakref__" 580 (rv 244)] 3,⟨(.type "type"),aF,(.cls {name:=(aC "SequenceMatcher"),bases:=[(.type "object")],mro:=[(rv 242),(.type "object")],ns:=241,qualname:=(aC "SequenceMatcher"),hasDict:=true,slotNames:=[],subclasses:=[],abstract:=false,collection:=aF,hasDel:=false}), #[aF,aF,(some (sv "SequenceMatcher" 389)),(some (sv "SequenceMatcher" 397)),(some (.builtin "object.__new__")),(some (.bool true))]⟩,⟨(.type "getset_descriptor"),aF,(.fields #[(sv "__dict__" 577),(rv 242),(.builtin "function.__dict__"),(.builtin "function.__dict__#set")]), #[]⟩,⟨(.type "getset_descriptor"),aF,(.fields #[(sv "__weakref__" 579),(rv 242),(.builtin "ExceptionGroup.__weakref__"),.none]), #[]⟩,⟨(.type "super"),aF,(.fields #[(rv 242),(rv 242),(rv 242)]), #[]⟩,⟨(.type "builtin_function_or_method"),aF,(.fields #[(.builtin "object.__init_subclass__"),(rv 242)]), #[]⟩],
 fG Uv 247 [7] "_law_spots" "_law_spots" 585 ["script","first","spots","pieces","n","x","left","forms","c","own","piece","states"] 463 1 .none false,
 fH Uv 254 [8] "_law_version" "_law_version" 603 483 2 .none false,
 fG Uv 259 [9] "_law_rule" "_law_rule" 609 ["base","one","other"] 485 3 .none false,
 fH Uv 266 [10] "_law_due" "_law_due" 618 489 4 .none false,
 fG Uv 271 [11] "_law_changes" "_law_changes" 624 ["codes","base","text","side","rows","i","j","last","tag","i1","i2","j1","j2","same"] 504 4 .none false,
 fG Uv 278 [12] "_law_merge" "_law_merge" 644 ["matcher","base","one","other","rows","told","merged","done","low","high","words","ways","reach","i1","i2","side","tag","text","old","left","right","way"] 514 4 .none false,
 fH Uv 285 [13] "law" "law" 672 536 1 .none false].flatten
noncomputable def tr4(P:fL):BT:=W3 (L4l P) 290 10 0 1
def st4(w:gD)(os:dY):SharedT:=⟨tr4 w.params,290,{},jB [],{},678,os⟩
def env:Env:={scope:=prog.main.scope,locals:=mainNs,globals:=mainNs,cells:=[],code:=(.ref 13),frame:=some 14}
def cod:Code:=.body (oB prog) env
noncomputable def ann:Option bM:=some (.ref 6)
noncomputable def frs:List Frame:=[topFrame ⟨0,0,0,0⟩]
noncomputable abbrev Ţ:=Array Nat→(Nat→Bool)→Nat→Nat→Bool
noncomputable def Ŕ:Ţ:= @Array.any Nat
noncomputable def aIc:Ţ:=fun a p i n=>if i=0∧n=a.size then a.toList.any p else a.any p i n
theorem aC3:Ŕ=aIc:=by
 funext a p i n;unfold aIc;by_cases h:i=0∧n=a.size
 ·rw [if_pos h,h.1,h.2];exact Array.any_toList.symm
 ·rw [if_neg h];rfl
noncomputable def Zu:Ţ→Ob:=by
 refine (?c:(F:Ţ→Ob)→Ob.«type.__new__»=F Ŕ→Ţ→Ob) ?F ?h
 case h=>
  delta Ob.«type.__new__»;generalize hg:Ŕ=g;unfold Ŕ at hg;rw [hg]
 case c=>exact fun F _=>F
def T2:Ob:=Zu aIc
theorem Rb:Ob.«type.__new__»=T2:=(show Ob.«type.__new__»=Zu Ŕ from rfl).trans (congrArg Zu aC3)
noncomputable def tb(id:String):Option Ob:=if id="type.__new__" then some T2 else treeTable id
theorem aJe:treeTable "type.__new__"=some Ob.«type.__new__»:=by kernel_rfl
theorem aJd:treeTable=tb:=by
 funext id;unfold tb;by_cases h:id="type.__new__"
 ·subst h;rw [if_pos rfl,aJe,Rb]
 ·rw [if_neg h]
noncomputable def aLq(p:yM):Env:={scope:=p.main.scope,locals:=mainNs,globals:=mainNs,cells:=[],code:=(.ref 13),frame:=some 14}
def aL0(p:yM):Code:=.body (oB p) (aLq p)
def LQ(p:yM)(w:gD)(os:dY):Option (Flow×SharedT×Code×Pos):=segRunT tb p w 11 ann 1 2348 (stA w os) (piecesOf (oB p) (aLq p) (aL0 p) ⟨0,0,0,0⟩ frs)
theorem aMz(w:gD)(os:dY):LQ pwQ w os=some (aE4,st4 w os,aL0 pwQ,⟨536,0,551,15⟩):=by kernel_rfl
theorem aM0(w:gD)(os:dY):segRunT tb PySem.Challenge.pw_mt0007_01 w 11 ann 1 2348 (stA w os) (piecesOf (oB prog) env cod ⟨0,0,0,0⟩ frs)=some (aE4,st4 w os,cod,⟨536,0,551,15⟩):=by have h:=aMz w os;rw [←aJn]at h;exact h
end
noncomputable def frA:List dF:=[1,2,3,15,17,18,20,21,29,31,32,34,35,36,37,39,40,42,43,44,46,47,49,50,51,53,54,56,57,58,59,60,61,62,65,68,73,74,75,76,78,79,81,82,83,85,86,88,89,90,91,92,93,94,96,97,99,100,101,103,104,106,107,108,110,111,113,114,115,117,118,120,121,122,123,124,126,127,129,130,132,134,135,136,139,141,142,144,145,153,154,156,157,159,160,161,163,164,166,167,168,170,171,173,174,175,177,178,180,181,182,184,185,187,188,189,190,192,193,195,196,197,199,200,202,203,204,206,207,209,210,211,212,214,215,217,218,219,221,222,224,225,226,228,229,231,232,233,235,236,238,239,240,241,242,243,244,247,249,250,252,253,254,257,258,259,261,262,264,265,266,269,270,271,273,274,276,277,278,280,281,283,284,285,288,289]
def fr(P:fL):As:=frA.map fun a=>(a,((tr4 P).get a).getD default)
def Ms:Hook:=kHook fr frA (fun _=>by kernel_rfl)
def q:yM:={prog with main:={prog.main with body:=(oB prog).drop 13}}
noncomputable def loose:List jY:=[aC "_wall",aC "_tuplegetter",aC "Match",aC "_calculate_ratio",aC "SequenceMatcher",aC "_law_spots",aC "_law_version",aC "_law_rule",aC "_law_due",aC "_law_changes",aC "_law_merge"]
def H1(P:fL):dT:=absHeap (tr4 P) 290 {}
abbrev row:OpenRow:=PySem.Challenge.rw_mt0007_01.row
noncomputable def Xt(s:dE):Bool:=xlAt q [] s&&recOk (RowW.records row.toRowW) s
theorem lon(w:gD)(_:dY):frA.map (H1 w.params).get?=(fr w.params).map fun p=>some p.2:=by kernel_rfl
def aNz(w:gD)(os:dY):=staticsOk (importedModules prog.main.body) (boot_heap w.params) (H1 w.params)
theorem loa(w:gD)(os:dY):aNz w os=true:=by kernel_rfl
def aNy(w:gD)(os:dY):=namesBound prog (H1 w.params)
theorem lob(w:gD)(os:dY):aNy w os=true:=by kernel_rfl
def aNx(w:gD)(os:dY):=gensDone ⟨H1 w.params,jB [],{},678,os⟩
theorem loc(w:gD)(os:dY):aNx w os=true:=by kernel_rfl
def aNw(w:gD)(os:dY):=laidKept (boot_heap w.params) (H1 w.params)
theorem lod(w:gD)(os:dY):aNw w os=true:=by kernel_rfl
def aNv(w:gD)(os:dY):=seen ((recsOf q).map (·.name)) (ownsOf q) [] {(⟨H1 w.params,jB [],{},678,os⟩:dE)with gens:= #[]}
noncomputable def aNu(w:gD)(_:dY):=expectedOf q
theorem loe(w:gD)(os:dY):aNv w os=aNu w os:=by kernel_rfl
def aNt(w:gD)(os:dY):=(H1 w.params).bltView
noncomputable def aNs(w:gD)(_:dY):=bltViewBooted
theorem lof(w:gD)(os:dY):aNt w os=aNs w os:=by kernel_rfl
def aNr(w:gD)(os:dY):=(H1 w.params).keysOk (looseW q loose) ((recsOf q).map (·.name)) ((litsOf q).map (·.1)) ((clssOf q (looseW q loose)).map (·.name))&& (H1 w.params).accountedOkI (importedModules prog.main.body)&& (H1 w.params).isNs mainGlobals&& (H1 w.params).isNs builtinsNs&&tablesOk q (H1 w.params)&&Xt ⟨H1 w.params,jB [],{},678,os⟩&& (if true then (jB []:Array GenState).size==0 else !leftWithCleanup (jB []))
theorem log(w:gD)(os:dY):aNr w os=true:=by kernel_rfl
def aNq(w:gD)(os:dY):=tabsOk q ⟨H1 w.params,jB [],{},678,os⟩
theorem loh(w:gD)(os:dY):aNq w os=true:=by kernel_rfl
def aNp(w:gD)(os:dY):=pinSeenD q (drecsOf q) ⟨H1 w.params,jB [],{},678,os⟩
noncomputable def aNo(w:gD)(_:dY):=pinGoodD (drecsOf q)
theorem loi(w:gD)(os:dY):aNp w os=aNo w os:=by kernel_rfl
def aNn(w:gD)(os:dY):=plainSeenE q (looseW q loose) ⟨H1 w.params,jB [],{},678,os⟩
def aNm(w:gD)(_:dY):=plainGoodE q (looseW q loose)
theorem loj(w:gD)(os:dY):aNn w os=aNm w os:=by kernel_rfl
def aNl(w:gD)(os:dY):=plainSeenD q loose ⟨H1 w.params,jB [],{},678,os⟩
def aNk(w:gD)(_:dY):=plainGoodD q loose
theorem lok(w:gD)(os:dY):aNl w os=aNk w os:=by kernel_rfl
def aNj(w:gD)(os:dY):=wideSeen q ⟨H1 w.params,jB [],{},678,os⟩
noncomputable def aNi(w:gD)(_:dY):=wideGood q
theorem lol(w:gD)(os:dY):aNj w os=aNi w os:=by kernel_rfl
def aNh(w:gD)(os:dY):=clsSeenW q loose ⟨H1 w.params,jB [],{},678,os⟩
def aNg(w:gD)(_:dY):=clsGoodW q loose
theorem lom(w:gD)(os:dY):aNh w os=aNg w os:=by kernel_rfl
theorem aOe{a b c d:Bool}(x:a=true)(y:b=true)(z:c=true)(u:d=true):(a&&b&&c&&d)=true:=by rw [x,y,z,u];rfl
theorem aNf(w:gD)(os:dY):(((staticsOk (importedModules prog.main.body) (boot_heap w.params) (H1 w.params)&&namesBound prog (H1 w.params)&&gensDone ⟨H1 w.params,jB [],{},678,os⟩&&laidKept (boot_heap w.params) (H1 w.params)),
 openSeen q loose (importedModules prog.main.body) Xt true ⟨H1 w.params,jB [],{},678,os⟩,frA.map (H1 w.params).get?))=(true,openGood q loose,(fr w.params).map fun p=>some p.2):=
 looks_pair (aOe (loa w os) (lob w os) (loc w os) (lod w os)) (looks_pair (looks_pair (loe w os) (looks_pair (lof w os) (looks_pair (log w os) (looks_pair (loh w os) (looks_pair (loi w os) (looks_pair (loj w os) (looks_pair (lok w os) (looks_pair (lol w os) (lom w os))))))))) (lon w os))
def aM7(w:gD)(os:dY):Option (dE×Thread):=topGo treeTable prog w 11 ann 12 ⟨boot_heap w.params,jB [],boot_drawn,boot_toks,os⟩ (topStub prog)
def aM6(w:gD)(os:dY):Option (dE×Thread):=some ((stA w os).abs,⟨denote treeTable cod,cod,⟨0,0,0,0⟩,frs⟩)
theorem Yz(w:gD)(os:dY):aM7 w os=aM6 w os:=by kernel_rfl
def aOd(w:gD)(os:dY):Option (Flow×dE×Code×Pos):=segRun treeTable prog w 11 ann 1 1 (stA w os).abs (blockOf (oB prog) env cod ⟨0,0,0,0⟩ frs)
def aOc(w:gD)(os:dY):Option (Flow×dE×Code×Pos):=some (aE4,(stA w os).abs,cod,⟨0,0,0,0⟩)
theorem J5(w:gD)(os:dY):aOd w os=aOc w os:=by kernel_rfl
def aN9(w:gD)(os:dY):Option dE:=topRun treeTable prog w 11 ann 2 (st4 w os).abs ⟨doneF .next,cod,⟨536,0,551,15⟩,frs⟩
def aN8(w:gD)(os:dY):Option dE:=some ⟨H1 w.params,jB [],{},678,os⟩
theorem fin(w:gD)(os:dY):aN9 w os=aN8 w os:=by kernel_rfl
theorem run(w:gD)(os:dY):topRun treeTable prog w 11 ann (12+(1+(2348+2))) ⟨boot_heap w.params,jB [],boot_drawn,boot_toks,os⟩ (topStub prog)=some ⟨H1 w.params,jB [],{},678,os⟩:=by refine go_top (Yz w os) (piece_block (q:=⟨0,0,0,0⟩) (J5 w os) ?_);rw [←eO (oB prog)];refine piece_app (q:=⟨0,0,0,0⟩) (by rw [aJd];exact segRun_of (aM0 w os)) ?_;exact fin w os
theorem left:LeftO prog q loose Xt (Hook.obs Ms) (Hook.val Ms) 4812:=by refine LeftO.of_pieces (H₀:=boot_heap) (H₁:=H1) (gs₀:=jB []) (gs₁:=jB []) (d₀:=boot_drawn) (d₁:={}) (k₀:=boot_toks) (k₁:=678) (m₀:=11) (ann:=ann) (M:=(12+(1+(2348+2)))) (boot_open (by kernel_rfl) (by decide) (fun _=>by kernel_rfl)) (fun w=>by kernel_rfl) run (by decide+kernel) (fun w=>?_);funext os;exact aNf w os
def dlaw:DefRec:=⟨aC "law",Ik (at_ [13]),bS (at_ [13]),Nc (at_ [13]),⟨536,0,551,15⟩⟩
theorem aN4:defOf q row.name=some (dlaw,[]):=by kernel_rfl
theorem aBj:row.prog.theDef row.name=some (dlaw.params,dlaw.body,dlaw.scope):=by kernel_rfl
theorem hkw:kwWritten? dlaw.params.kwonlyargs dlaw.params.kw_defaults=some []:=by kernel_rfl
theorem zC:(chainsOk q&&opensWell row.prog&& (frees row.toRowW&&row.within.isEmpty))=true:=by decide+kernel
theorem aLh:row.prog.bare:=⟨rfl,rfl,rfl,rfl,rfl,by decide+kernel⟩
theorem hd(walk:WalkO q loose (XL q []) (aE3 Ms) row.toRowW dlaw [] fun f vs=>aOs f vs):PySem.Challenge.rw_mt0007_01.Holds:=by
 refine holds_law (by kernel_rfl) fun a=>?_;refine holds_open (r:=row) (q:=q) (loose:=loose) (Xt:=Xt) (XP:=XL q []) (Yf:=Hook.obs Ms) (Ya:=Hook.val Ms) (YP:=aE3 Ms) (d:=dlaw) (kwd:=[]) (N:=4812) left (Hook.of Ms) (Hook.keeps Ms) (fun s e=>xl_of s (pD.mp e).1) XL.keeps aN4 aBj hkw (fun s e=>recFacts_of (pD.mp e).2) (by kernel_rfl) (by assumption) zC aLh ?hw walk
 case hw=>w_witness2
end MineH
namespace Mine
noncomputable abbrev prog:yM:=MineH.row.prog
def Hyp(w:gD)(S:dE):Prop:=(MineH.fr w.params).In S.heap∧∃p loose mg mb,TopRead p loose mg mb S.heap
def Yn(w:gD)(S:dE):Prop:=∀(xs:List Int)(l:dF)(qv:List bM),xs.length≤1000000→S.heap.IsList l (aY qv)→IntsAre qv xs→
 bT (model prog w) callerA (call (.ref 289) [.ref l]) (fun v s'=>v=.bool true∧∃h' ap,s'={S with heap:=h',toks:=ap}∧∀b o,S.heap.get? b=some o→h'.get? b=some o) (fun _ _=>False) S
theorem aEn:∃p:gD×dE,(Hyp p.1 p.2→Yn p.1 p.2)→∀w S,Hyp w S→Yn w S:=by
 by_cases h:∃p:gD×dE,¬(Hyp p.1 p.2→Yn p.1 p.2)
 ·exact h.elim fun p a=>⟨p,fun q=>(a q).elim⟩
 ·exact ⟨(⟨fun _ _=>0,{strHash:=fun _=>0,shareClass:=id,mergeTok:=id,idOf:=fun _=>0,idOfShared:=fun _ _=>0,followText:=fun _=>false,idOfImm:=fun _=>0}⟩,{}),fun _ w S=>eH fun q=>h ⟨(w,S),q⟩⟩
@[irreducible] noncomputable def wS:gD×dE:=aEn.choose
@[irreducible] def w:gD:=wS.1
@[irreducible] def S:dE:=wS.2
theorem aFa(h:Hyp w S→Yn w S):∀w S,Hyp w S→Yn w S:=aEn.choose_spec (by unfold w S wS at h;exact h)
end Mine
namespace Mine.Li
section
set_option backward.match.sparseCases false
set_option genInjectivity false
set_option genCtorIdx false
inductive U where
 |v (i:Nat)|n (k:Nat)|add (a b:U)|mul (k:Nat) (a:U)|sub (a b:U)|neg (a:U)|cs (a:U)
 |le (z:Bool) (a b:U)|eq (z:Bool) (a b:U)|and (a b:U)|or (a b:U)|imp (a b:U)|ff|df (o:Nat) (a b:U)
inductive E where
 |n (a:Nat)|z (x:Int)
noncomputable def E.nat:E→Nat
 |.n a=>a
 |.z x=>x.toNat
noncomputable def E.int:E→Int
 |.n a=>a
 |.z x=>x
noncomputable def get:List E→Nat→E
 |[],_=>.n 0
 |a::_,0=>a
 |_::r,i+1=>get r i
def U.t(ρ:List E):U→Nat
 |.v i=>(get ρ i).nat
 |.n k=>k
 |.add a b=>a.t ρ+b.t ρ
 |.mul k a=>k*a.t ρ
 |.sub _ _=>0
 |.neg _=>0
 |.cs _=>0
 |.le _ _ _=>0
 |.eq _ _ _=>0
 |.and _ _=>0
 |.or _ _=>0
 |.imp _ _=>0
 |.ff=>0
 |.df _ _ _=>0
def U.z(ρ:List E):U→Int
 |.v i=>(get ρ i).int
 |.n k=>(k:Int)
 |.add a b=>a.z ρ+b.z ρ
 |.mul k a=>(k:Int)*a.z ρ
 |.sub a b=>a.z ρ-b.z ρ
 |.neg a=> - a.z ρ
 |.cs a=>(a.t ρ:Int)
 |.le _ _ _=>0
 |.eq _ _ _=>0
 |.and _ _=>0
 |.or _ _=>0
 |.imp _ _=>0
 |.ff=>0
 |.df _ _ _=>0
def leP(ρ:List E)(a b:U):Bool→Prop
 |false=>a.t ρ≤b.t ρ
 |true=>a.z ρ≤b.z ρ
def eqP(ρ:List E)(a b:U):Bool→Prop
 |false=>a.t ρ=b.t ρ
 |true=>a.z ρ=b.z ρ
def U.p(ρ:List E):U→Prop
 |.v _=>True
 |.n _=>True
 |.add _ _=>True
 |.mul _ _=>True
 |.sub _ _=>True
 |.neg _=>True
 |.cs _=>True
 |.le z a b=>leP ρ a b z
 |.eq z a b=>eqP ρ a b z
 |.and a b=>a.p ρ∧b.p ρ
 |.or a b=>a.p ρ∨b.p ρ
 |.imp a b=>a.p ρ→b.p ρ
 |.ff=>False
 |.df _ _ _=>True
theorem cg{c e:Type}{f:c→c→e}{a d b b':c}(h:a=d)(k:b=b'):f a b=f d b':=h▸k▸rfl
noncomputable def U.sh:U→U
 |.v i=>.v (i+1)
 |.n k=>.n k
 |.add a b=>.add a.sh b.sh
 |.mul k a=>.mul k a.sh
 |.sub a b=>.sub a.sh b.sh
 |.neg a=>.neg a.sh
 |.cs a=>.cs a.sh
 |.le z a b=>.le z a.sh b.sh
 |.eq z a b=>.eq z a.sh b.sh
 |.and a b=>.and a.sh b.sh
 |.or a b=>.or a.sh b.sh
 |.imp a b=>.imp a.sh b.sh
 |.ff=>.ff
 |.df o a b=>.df o a b
theorem Gw(x:E)(c:List E):∀e:U,e.sh.t (x::c)=e.t c:=by
 intro e
 induction e with
 |add a b d f=>exact cg d f
 |mul k a g=>exact congrArg (k*·) g
 |_=>rfl
theorem We(x:E)(c:List E):∀e:U,e.sh.z (x::c)=e.z c:=by
 intro e
 induction e with
 |add a b d f=>exact cg d f
 |sub a b d f=>exact cg d f
 |mul k a g=>exact congrArg ((k:Int)*·) g
 |neg a g=>exact congrArg (- ·) g
 |cs a=>exact congrArg Nat.cast (Gw x c a)
 |_=>rfl
theorem aM8(x:E)(c:List E):∀e:U,e.sh.p (x::c)=e.p c:=by
 intro e
 induction e with
 |le z a b=>cases z with
  |false=>exact cg (Gw x c a) (Gw x c b)
  |true=>exact cg (f:=fun x y:Int=>x≤y) (We x c a) (We x c b)
 |eq z a b=>cases z with
  |false=>exact cg (Gw x c a) (Gw x c b)
  |true=>exact cg (We x c a) (We x c b)
 |and a b d g=>exact cg d g
 |or a b d g=>exact cg d g
 |imp a b d g=>exact cg (f:=fun x y:Prop=>x→y) d g
 |_=>rfl
noncomputable def Fk:List Nat→List Nat→List Nat
 |[],y=>y
 |a::x,y=>match y with
  |[]=>a::x
  |b::y=>(a+b)::Fk x y
noncomputable def Q9:Nat→List Nat
 |0=>[1]
 |i+1=>0::Q9 i
def U.l:U→List Nat
 |.v i=>0::Q9 (2*i)
 |.n k=>[k]
 |.add a b=>Fk a.l b.l
 |.mul k a=>a.l.map (k*·)
 |.sub _ _=>[]
 |.neg _=>[]
 |.cs _=>[]
 |.le _ _ _=>[]
 |.eq _ _ _=>[]
 |.and _ _=>[]
 |.or _ _=>[]
 |.imp _ _=>[]
 |.ff=>[]
 |.df _ _ _=>[]
def U.w:U→Bool→List Nat
 |.v i=>fun c=>bif c then 0::Q9 (2*i)else 0::Q9 (2*i+1)
 |.n k=>fun c=>bif c then[k]else[]
 |.add a b=>fun c=>Fk (a.w c) (b.w c)
 |.mul k a=>fun c=>(a.w c).map (k*·)
 |.sub a b=>fun c=>Fk (a.w c) (b.w (!c))
 |.neg a=>fun c=>a.w (!c)
 |.cs a=>fun c=>bif c then a.l else[]
 |.le _ _ _=>fun _=>[]
 |.eq _ _ _=>fun _=>[]
 |.and _ _=>fun _=>[]
 |.or _ _=>fun _=>[]
 |.imp _ _=>fun _=>[]
 |.ff=>fun _=>[]
 |.df _ _ _=>fun _=>[]
noncomputable def vG:List Nat→List Nat→Nat
 |a::x,r::ρ=>a*r+vG x ρ
 |_,_=>0
theorem pL:∀(x y c:List Nat),vG (Fk x y) c=vG x c+vG y c:=by
 intro x
 induction x with
 |nil=>intro y c;exact ((congrArg (·+vG y c) (by cases c<;>rfl)).trans (gW _)).symm
 |cons a x d=>
  intro y c
  cases c with
  |nil=>cases y<;>rfl
  |cons r c=>cases y with
   |nil=>rfl
   |cons b y=>refine (?_:(a+b)*r+vG (Fk x y) c=(a*r+vG x c)+(b*r+vG y c));rw [d,Nat.add_mul,Nat.add_add_add_comm]
theorem Ag(k:Nat):∀(x b:List Nat),vG (x.map (k*·)) b=k*vG x b:=by
 intro x
 induction x with
 |nil=>intro b;exact (by cases b<;>rfl:vG [] b=0).trans (congrArg (k*·) (by cases b<;>rfl:vG [] b=0)).symm
 |cons a x c=>
  intro b
  cases b with
  |nil=>rfl
  |cons r b=>refine (?_:k*a*r+vG (x.map (k*·)) b=k*(a*r+vG x b));rw [c,Nat.mul_add,Nat.mul_assoc]
noncomputable def vec:List E→List Nat
 |[]=>[]
 |e::r=>e.nat::(bif (match e with|.n _=>true|.z _=>false)then 0 else (-e.int).toNat)::vec r
abbrev ve(ρ:List E):List Nat:=1::vec ρ
theorem ľ(x:List Nat):vG x []=0:=by cases x<;>rfl
theorem aB9(a:List Nat):vG [] a=0:=by cases a<;>rfl
theorem Jx(x a:List Nat)(r:Nat):vG (0::x) (r::a)=vG x a:=(congrArg (·+vG x a) (aOt r)).trans (gW _)
theorem aHz(a:List Nat)(r:Nat):vG [1] (r::a)=r:=(congrArg (1*r+·) (aB9 a)).trans (Nat.one_mul r)
theorem eqD{z:Int}{P N p n:Nat}(a:P=p)(b:N=n)(h:z=(p:Int)-n):z=(P:Int)-N:=by rw [a,b];exact h
theorem aEr(i:Nat):∀b:List E,vG (Q9 (2*i)) (vec b)=(get b i).nat∧(get b i).int=(vG (Q9 (2*i)) (vec b):Int)-vG (Q9 (2*i+1)) (vec b):=by
 induction i with
 |zero=>
  intro b
  cases b with
  |nil=>exact ⟨rfl,rfl⟩
  |cons e b=>
   refine ⟨aHz _ _,eqD (aHz _ _) ((Jx _ _ _).trans (aHz _ _)) ?_⟩
   cases e with
   |n a=>exact (Yx _).symm
   |z x=>exact (Int.toNat_sub_toNat_neg x).symm
 |succ i c=>
  intro b
  cases b with
  |nil=>exact ⟨ľ _,eqD (ľ _) (ľ _) rfl⟩
  |cons e b=>exact ⟨((Jx _ _ _).trans (Jx _ _ _)).trans (c b).1,eqD ((Jx _ _ _).trans (Jx _ _ _)) ((Jx _ _ _).trans (Jx _ _ _)) (c b).2⟩
theorem Ľ(c:List E):∀e:U,vG e.l (ve c)=e.t c:=by
 intro e
 induction e with
 |v i=>exact (Jx _ _ _).trans (aEr i c).1
 |n k=>exact (congrArg (k*1+·) (aB9 _)).trans (Dy k)
 |add a b d f=>exact (pL _ _ _).trans (cg d f)
 |mul k a g=>exact (Ag k _ _).trans (congrArg (k*·) g)
 |_=>rfl
theorem ad1(a b c d:Int):(a-b)+(c-d)=(a+c)-(b+d):=by simp only [Int.sub_eq_add_neg,Int.neg_add,Int.add_assoc,Int.add_left_comm]
theorem ad2(a b c d:Int):(a-b)-(c-d)=(a+d)-(b+c):=(congrArg (a-b+·) (aO3 c d)).trans (ad1 a b d c)
theorem aEq(c:List E):∀e:U,e.z c=(vG (e.w true) (ve c):Int)-vG (e.w false) (ve c):=by
 intro e
 induction e with
 |v i=>exact eqD (Jx _ _ _) (Jx _ _ _) (aEr i c).2
 |n k=>exact eqD ((congrArg (k*1+·) (aB9 _)).trans (Dy k)) rfl (Yx _).symm
 |add a b d f=>exact eqD (pL _ _ _) (pL _ _ _) ((cg d f).trans (ad1 _ _ _ _))
 |sub a b d f=>exact eqD (pL _ _ _) (pL _ _ _) ((cg d f).trans (ad2 _ _ _ _))
 |mul k a g=>exact eqD (Ag k _ _) (Ag k _ _) ((congrArg ((k:Int)*·) g).trans (Int.mul_sub _ _ _))
 |neg a g=>exact (congrArg (- ·) g).trans (aO3 _ _)
 |cs a=>exact eqD (Ľ c a) rfl (Yx _).symm
 |_=>rfl
def lh(a b:U)(z:Bool):List Nat:=bif z then Fk (a.w true) (b.w false)else a.l
theorem Hn(c:List E)(a b:U)(z:Bool):leP c a b z↔vG (lh a b z) (ve c)≤vG (lh b a z) (ve c):=by
 cases z with
 |false=>exact (Ľ c a).symm▸(Ľ c b).symm▸.rfl
 |true=>refine (pL (a.w true) (b.w false) (ve c)).symm▸(pL (b.w true) (a.w false) (ve c)).symm▸?_;unfold leP;rw [aEq c a,aEq c b];omega
theorem aHw(c:List E)(a b:U)(z:Bool):eqP c a b z↔leP c a b z∧leP c b a z:=by
 cases z with
 |false=>exact ⟨fun h=>⟨tH h,tH h.symm⟩,fun h=>lX h.1 h.2⟩
 |true=>exact ⟨fun h=>⟨aOw h,aOw h.symm⟩,fun h=>Int.le_antisymm h.1 h.2⟩
noncomputable abbrev Cs:=List (List Nat×List Nat)
abbrev Kn:=Cs→Nat→Option Nat
def up(x:List Nat):List Nat:=Fk [1] x
def rle(a b:List Nat)(p:Bool)(k:Kn)(cs:Cs):Nat→Option Nat:=bif p then k ((a,b)::cs)else k ((up b,a)::cs)
def rbo(x y:Kn):Kn:=fun cs s=>(x cs s).bind (y cs)
def ref:U→Bool→Kn→Kn
 |.v _=>fun _ k=>k
 |.n _=>fun _ k=>k
 |.add _ _=>fun _ k=>k
 |.mul _ _=>fun _ k=>k
 |.sub _ _=>fun _ k=>k
 |.neg _=>fun _ k=>k
 |.cs _=>fun _ k=>k
 |.le z a b=>fun p k=>rle (lh a b z) (lh b a z) p k
 |.eq z a b=>fun p k=>bif p then rle (lh b a z) (lh a b z) true (rle (lh a b z) (lh b a z) true k)else rbo (rle (lh b a z) (lh a b z) false k) (rle (lh a b z) (lh b a z) false k)
 |.and a b=>fun p k=>bif p then ref a p (ref b p k)else rbo (ref a p k) (ref b p k)
 |.or a b=>fun p k=>bif p then rbo (ref a p k) (ref b p k)else ref a p (ref b p k)
 |.imp a b=>fun p k=>bif p then rbo (ref a (!p) k) (ref b p k)else ref a (!p) (ref b p k)
 |.ff=>fun p k=>bif p then fun _ s=>some s else k
 |.df _ _ _=>fun _ k=>k
def tot(b:Nat):Cs→Nat→Nat×List Nat×List Nat
 |[],s=>(s,[],[])
 |c::cs,s=>match tot b cs (s/b)with
  |(s',L,R)=>(s',Fk (c.1.map (s%b*·)) L,Fk (c.2.map (s%b*·)) R)
noncomputable def leL:List Nat→List Nat→Bool
 |[],_=>true
 |r::R,L=>match L with
  |[]=>D5 r 0&&leL R []
  |l::L=>D5 r l&&leL R L
def bad:List Nat→List Nat→Bool
 |[],l::_=>D5 1 l
 |r::R,l::L=>D5 (r+1) l&&leL R L
 |_,_=>false
def aLd(b:Nat):Kn:=fun cs s=>match tot b cs s with
 |(s',L,R)=>bif bad R L then some s' else none
def Hs(ρ:List E):Cs→Prop
 |[]=>True
 |c::cs=>vG c.1 (ve ρ)≤vG c.2 (ve ρ)∧Hs ρ cs
theorem aFm{a:List E}(b:Nat):∀(cs:Cs)(s:Nat),Hs a cs→vG (tot b cs s).2.1 (ve a)≤vG (tot b cs s).2.2 (ve a):=by
 intro cs
 induction cs with
 |nil=>exact fun _ _=>bG _
 |cons c cs d=>intro s h;refine (?_:vG (Fk _ _) _≤vG (Fk _ _) _);rw [pL,pL,Ag,Ag];exact aMn (Nat.mul_le_mul_left _ h.1) (d _ h.2)
theorem aG1:∀(R L a:List Nat),leL R L=true→vG R a≤vG L a:=by
 intro R
 induction R with
 |nil=>intro L a _;exact bZ (tH (aB9 a)) (cJ _)
 |cons r R b=>
  intro L a h
  cases a with
  |nil=>exact cJ _
  |cons x a=>cases L with
   |nil=>have h':=(fU _ _).mp h;refine (?_:r*x+vG R a≤0);rw [aO1.mp (tV h'.1),aOt,gW];exact bZ (b [] a h'.2) (tH (by cases a<;>rfl))
   |cons l L=>have h':=(fU _ _).mp h;exact aMn (Nat.mul_le_mul_right _ (tV h'.1)) (b L a h'.2)
theorem aH7:∀(R L a:List Nat),bad R L=true→vG R (1::a)<vG L (1::a):=by
 intro R L a h
 cases L with
 |nil=>cases R<;>exact nomatch h
 |cons l L=>cases R with
  |nil=>exact cG (tV h) (bZ (tH (Dy l).symm) (dW _ _))
  |cons r R=>have h':=(fU _ _).mp h;refine (?_:r*1+vG R a<l*1+vG L a);rw [Dy,Dy];exact Nat.add_lt_add_of_lt_of_le (tV h'.1) (aG1 R L a h'.2)
def So(ρ:List E)(q:Prop)(k:Kn):Prop:=∀cs s s',k cs s=some s'→Hs ρ cs→q→False
theorem aA0{a:List E}{q:Prop}(b:Nat):So a q (aLd b):=fun cs s f e h _=>by
 have c:bad (tot b cs s).2.2 (tot b cs s).2.1=true:=by
  cases d:bad (tot b cs s).2.2 (tot b cs s).2.1 with
  |true=>rfl
  |false=>exact nomatch (congrArg (fun x:Bool=>bif x then some (tot b cs s).1 else none) d).symm.trans e
 exact fP _ (cG (aH7 _ _ (vec a) c) (aFm b cs s h))
theorem aAi{x:Option Nat}{f:Nat→Option Nat}{b:Nat}{C:Prop}(e:x.bind f=some b)(k:∀a,x=some a→f a=some b→C):C:=by
 cases x with
 |none=>exact nomatch e
 |some a=>exact k a rfl e
theorem aFk(a:List E)(x:List Nat):vG (up x) (ve a)=1+vG x (ve a):=(pL _ _ _).trans rfl
def Hp(p:Bool)(q:Prop):Prop:=match p with
 |true=>q
 |false=>¬q
theorem G6{c:List E}{q r:Prop}{a b:List Nat}{k:Kn}(i:r↔vG a (ve c)≤vG b (ve c))(p:Bool)(f:So c q k):So c (Hp p r∧q) (rle a b p k):=fun cs s g e h d=>by
 cases p with
 |true=>exact f _ _ _ e ⟨i.mp d.1,h⟩ d.2
 |false=>exact f _ _ _ e ⟨(aFk c b).symm▸qG 1 _▸nA fun z=>d.1 (i.mpr z),h⟩ d.2
theorem L1{a:List E}{q r t:Prop}{x y:Kn}(hx:So a q x)(hy:So a r y)(h:t→q∨r):So a t (rbo x y):=fun _ _ _ e b c=>aAi e fun _ d f=>(h c).elim (hx _ _ _ d b) (hy _ _ _ f b)
theorem Km{a:List E}{q r:Prop}{x:Kn}(hx:So a q x)(h:r→q):So a r x:=fun cs s b e c d=>hx cs s b e c (h d)
theorem É{d:List E}{q:Prop}:∀(f:U)(p:Bool)(k:Kn),So d q k→So d (Hp p (f.p d)∧q) (ref f p k):=by
 intro f
 induction f generalizing q with
 |le z a b=>exact fun p k c=>G6 (Hn d a b z) p c
 |eq z a b=>
  intro p k c;have i:=aHw d a b z
  cases p with
  |true=>exact Km (G6 (Hn d b a z) true (G6 (Hn d a b z) true c)) fun h=>⟨(i.mp h.1).2,(i.mp h.1).1,h.2⟩
  |false=>exact L1 (G6 (Hn d b a z) false c) (G6 (Hn d a b z) false c) fun h=>(Oa (leP d a b z)).elim (fun w=>.inl ⟨fun j=>h.1 (i.mpr ⟨w,j⟩),h.2⟩) fun w=>.inr ⟨w,h.2⟩
 |and a b e g=>
  intro p k c
  cases p with
  |true=>exact Km (e true _ (g true k c)) fun h=>⟨h.1.1,h.1.2,h.2⟩
  |false=>exact L1 (e false k c) (g false k c) fun h=>(Oa (a.p d)).elim (fun w=>.inr ⟨fun j=>h.1 ⟨w,j⟩,h.2⟩) fun w=>.inl ⟨w,h.2⟩
 |or a b e g=>
  intro p k c
  cases p with
  |true=>exact L1 (e true k c) (g true k c) fun h=>h.1.imp (fun w=>⟨w,h.2⟩) fun w=>⟨w,h.2⟩
  |false=>exact Km (e false _ (g false k c)) fun h=>⟨fun w=>h.1 (.inl w),fun w=>h.1 (.inr w),h.2⟩
 |imp a b e g=>
  intro p k c
  cases p with
  |true=>exact L1 (e false k c) (g true k c) fun h=>(Oa (a.p d)).elim (fun w=>.inr ⟨h.1 w,h.2⟩) fun w=>.inl ⟨w,h.2⟩
  |false=>exact Km (e true _ (g false k c)) fun h=>⟨eH fun w=>h.1 fun j=>(w j).elim,fun w=>h.1 fun _=>w,h.2⟩
 |ff=>
  intro p k c
  cases p with
  |true=>exact fun _ _ _ _ _ h=>h.1
  |false=>exact Km c And.right
 |_=>exact fun p k c=>Km c And.right
noncomputable def opU:Nat→U→U→U
 |0,x,y=>.add x y
 |1,x,y=>.le false x y
 |2,x,y=>.le false (.add x (.n 1)) y
 |3,x,y=>.eq false x y
 |4,x,y=>.and x y
 |5,x,y=>.or x y
 |6,x,y=>.imp x y
 |_,x,y=>.sub x y
noncomputable def Ha:U→Nat
 |.v _=>0
 |.n k=>k
 |.add _ _=>0
 |.mul _ _=>0
 |.sub _ _=>0
 |.neg _=>0
 |.cs _=>0
 |.le _ _ _=>0
 |.eq _ _ _=>0
 |.and _ _=>0
 |.or _ _=>0
 |.imp _ _=>0
 |.ff=>0
 |.df _ _ _=>0
noncomputable def dfV(o:Nat)(a b:U)(ρ:List E):Nat:=bif mG o 0 then a.t ρ-b.t ρ else bif mG o 1 then min (a.t ρ) (b.t ρ)else bif mG o 2 then max (a.t ρ) (b.t ρ)else (a.z ρ).toNat
noncomputable def orU(a b c d:U):U:=.or (.and a b) (.and c d)
def dfU(o:Nat)(a b d:U):U:=bif mG o 0 then orU (.le false b a) (.eq false (.add d b) a) (.le false (.add a (.n 1)) b) (.eq false d (.n 0))else bif mG o 1 then orU (.le false a b) (.eq false d a) (.le false b a) (.eq false d b)else bif mG o 2 then orU (.le false a b) (.eq false d b) (.le false b a) (.eq false d a)else orU (.le true (.n 0) a) (.eq true (.cs d) a) (.le true (.add a (.n 1)) (.n 0)) (.eq false d (.n 0))
theorem lv{x:E}{c:List E}{f:Nat→Nat→Prop}{a b:U}(h:f (a.t c) (b.t c)):f (a.sh.t (x::c)) (b.sh.t (x::c)):=(Gw x c a).symm▸(Gw x c b).symm▸h
theorem lz{x:E}{b:List E}{f:Int→Prop}{a:U}(h:f (a.z b)):f (a.sh.z (x::b)):=(We x b a).symm▸h
theorem aLu(o:Nat)(a b:U)(c:List E):(dfU o a.sh b.sh (.v 0)).p (.n (dfV o a b c)::c):=by
 unfold dfU dfV
 cases mG o 0 with
 |true=>exact (tG (a.t c) (b.t c)).symm.imp (fun h=>⟨lv h,(lv (f:=fun x y=>a.t c-b.t c+y=x) (Nat.sub_add_cancel h):_+b.sh.t _=a.sh.t _)⟩) fun h=>⟨lv h,Nat.sub_eq_zero_of_le (kR h)⟩
 |false=>cases mG o 1 with
  |true=>exact (Yu (a.t c) (b.t c)).imp (fun h=>⟨lv h,(aIw h).trans (Gw _ _ _).symm⟩) fun h=>⟨lv h,(Kd h).trans (Gw _ _ _).symm⟩
  |false=>cases mG o 2 with
   |true=>exact (Yu (a.t c) (b.t c)).imp (fun h=>⟨lv h,(Nat.max_eq_right h).trans (Gw _ _ _).symm⟩) fun h=>⟨lv h,(aIx h).trans (Gw _ _ _).symm⟩
   |false=>exact (Int.lt_or_le (a.z c) 0).symm.imp (fun h=>⟨lz h,(gS h).trans (We _ _ _).symm⟩) fun h=>⟨lz (f:=fun x=>x<0) h,Int.toNat_of_nonpos (Int.le_of_lt h)⟩
def stU(s:Nat)(st:List U):List U:=
 bif D5 s 4 then .v s::st else bif mG s 6 then .n 0::st else bif mG s 7 then .n 1::st else bif mG s 18 then .ff::st else
 match st with
 |[]=>[]
 |y::r=>bif D5 24 s then .n (Ha y*8+(s-24))::r else bif mG s 20 then .neg y::r else bif mG s 21 then .cs y::r else bif mG s 5 then .v (Ha y+5)::r else match r with
  |[]=>[]
  |x::r=>bif mG s 19 then (match r with|[]=>[]|z::r=>.df (Ha y) z x::r)else bif mG s 22 then .le true x y::r else bif mG s 23 then .eq true x y::r else bif D5 s 15 then opU (s-8) x y::r else .mul (Ha x) y::r
def dec:Nat→Nat→List U→List U×Nat
 |0,c,st=>(st,c)
 |m+1,c,st=>bif mG (c%32) 17 then (st,c/32)else dec m (c/32) (stU (c%32) st)
noncomputable def isD:U→Option (Nat×U×U)
 |.v _=>none
 |.n _=>none
 |.add _ _=>none
 |.mul _ _=>none
 |.sub _ _=>none
 |.neg _=>none
 |.cs _=>none
 |.le _ _ _=>none
 |.eq _ _ _=>none
 |.and _ _=>none
 |.or _ _=>none
 |.imp _ _=>none
 |.ff=>none
 |.df o a b=>some (o,a,b)
def dn(g:U):List U→List E→Prop
 |[],ρ=>g.p ρ
 |h::r,ρ=>(isD h).elim (h.p ρ→dn g r ρ) fun x=>dn g r (.n (dfV x.1 x.2.1 x.2.2 ρ)::ρ)
def dnS:List U→List E→Prop
 |[],_=>True
 |g::r,ρ=>dn g r.reverse ρ
def quz:Nat→(List E→Prop)→Prop
 |0,f=>f []
 |m+1,f=>∀{x:Int},quz m fun l=>f (.z x::l)
def qu:Nat→Nat→(List E→Prop)→Prop
 |0,k,f=>quz k f
 |m+1,k,f=>∀{a:Nat},qu m k fun l=>f (.n a::l)
def Den(c:Nat):Prop:=qu (c%16) (c/16%8) (dnS (dec 200 (c/128) []).1)
def aF0:List U→Kn→Kn
 |[],k=>k
 |h::r,k=>aF0 r (ref h true k)
def chL(k:Kn)(g:U):List U→List U→Nat→Bool
 |[],fs,s=>(aF0 fs (ref g false k) [] s).isSome
 |h::r,fs,s=>(isD h).elim (chL k g r (h::fs) s) fun x=>chL k g r (dfU x.1 x.2.1.sh x.2.2.sh (.v 0)::fs.map U.sh) s
def chS(k:Kn):List U→Nat→Bool
 |[],_=>false
 |g::r,s=>chL k g r.reverse [] s
def chk(c:Nat):Bool:=chS (aLd (2^((dec 200 (c/128) []).2%16))) (dec 200 (c/128) []).1 ((dec 200 (c/128) []).2/16)
def Dn(c:Nat):Prop:=match chk c with
 |true=>Den c
 |false=>True
def Al(ρ:List E):List U→Prop
 |[]=>True
 |f::fs=>f.p ρ∧Al ρ fs
theorem aL9(x:E){b:List E}:∀{a:List U},Al b a→Al (x::b) (a.map U.sh):=by
 intro a
 induction a with
 |nil=>exact id
 |cons f a c=>exact fun h=>⟨(aM8 x b f).symm▸h.1,c h.2⟩
theorem π{c:List E}{q:Prop}:∀(a:List U)(k:Kn),So c q k→So c (Al c a∧q) (aF0 a k):=by
 intro a
 induction a generalizing q with
 |nil=>exact fun k d cs s g e h b=>d cs s g e h b.2
 |cons f a i=>exact fun k d cs s g e h b=>i _ (É f true k d) cs s g e h ⟨b.1.2,b.1.1,b.2⟩
theorem el2{X:Type}{o:Option X}{a:Bool}{b:X→Bool}{P:Prop}{Q:X→Prop}(e:o.elim a b=true)(h0:a=true→P)(c:∀x,b x=true→Q x):o.elim P Q:=by
 cases o with
 |none=>exact h0 e
 |some x=>exact c x e
theorem aH2{k:Kn}(d:∀a q,So a q k){g:U}{s:Nat}:∀(l b:List U)(a:List E),chL k g l b s=true→Al a b→dn g l a:=by
 intro l
 induction l with
 |nil=>exact fun b a e al=>eH fun f=>(fN.mp e).elim fun i j=>π b _ (É g false k (d a True)) [] s i j trivial ⟨al,f,trivial⟩
 |cons h r c=>exact fun b a e al=>el2 e (fun e m=>c _ _ e ⟨m,al⟩) fun x e=>c _ _ e ⟨aLu x.1 x.2.1 x.2.2 a,aL9 _ al⟩
theorem aF1:∀(m:Nat)(f:List E→Prop),(∀b,f b)→quz m f:=by
 intro m
 induction m with
 |zero=>exact fun f h=>h []
 |succ m c=>exact fun f h a=>c _ fun l=>h (.z a::l)
theorem aJm:∀(m k:Nat)(f:List E→Prop),(∀b,f b)→qu m k f:=by
 intro m
 induction m with
 |zero=>exact aF1
 |succ m c=>exact fun k f h a=>c _ _ fun l=>h (.n a::l)
theorem aN0{c:Nat}(h:chk c=true):Den c:=by
 refine aJm _ _ _ fun a=>?_;unfold chk at h
 cases hd:(dec 200 (c/128) []).1 with
 |nil=>exact trivial
 |cons g r=>rw [hd]at h;exact aH2 (fun a q=>aA0 _) _ _ a h trivial
theorem _root_.Mine.aS(c:Nat):Dn c:=by
 unfold Dn
 cases h:chk c with
 |true=>exact aN0 h
 |false=>exact trivial
noncomputable def _root_.Mine.Cz:=0x8c538c6318c70db300
noncomputable def _root_.Mine.Fm:=0x8c538c6318c70da300
noncomputable def _root_.Mine.Qs:=0x39c62a18123420e20ccc7003
noncomputable def _root_.Mine.Xa:=0x68c52102f18c6318e1829c77e7002
noncomputable def _root_.Mine.Ks:=0x4629c6318c6386300
noncomputable def _root_.Mine.ln5:=0x128221851212294518ad070052241c73320e20ccc1002
noncomputable def _root_.Mine.ln6:=0x146326dce8d1910a8746854183dcc8d1910a874685418382
noncomputable def _root_.Mine.Mj:=0xc62908121002
noncomputable def _root_.Mine.ln8:=0x3200000000020100800019000000000100804020000004000000000000000640019000004020198a6083831af190531138d78c532601c6bc624cc838833320e1004
noncomputable def _root_.Mine.ln9:=0xc80000000008040000c80000000008040200000040000000000000c8003200000806629820e0c6bc622601c6bc624cc838833320e1003
noncomputable def _root_.Mine.Xh:=0x58c5200a71df9c2bc6318c6386002
noncomputable def _root_.Mine.Ml:=0x2314a04808101003
noncomputable def _root_.Mine.Mk:=0x318a42048507002
noncomputable def _root_.Mine.aG0:=0x146326dce8d9910a8746854183dcc8d9910a874685418382
noncomputable def _root_.Mine.Xg:=0x90918ba4b005213ccc7001
noncomputable def _root_.Mine.Pf:=0xe314880910521003
noncomputable def _root_.Mine.Xf:=0xc62e95aa141ea074941002
noncomputable def _root_.Mine.aLb:=0x1060841821061241848884471811451251448c5683802e92c6248873320e20ccc1002
noncomputable def _root_.Mine.Sh:=0xc636a8507a8141002
noncomputable def _root_.Mine.Xe:=0x318a71df9c09c6766001
noncomputable def _root_.Mine.aGz:=0x68c5224040bc6318c638612718ce79ed9901003
noncomputable def _root_.Mine.Xd:=0x8c538c6318c70dd300
noncomputable def _root_.Mine.Sf:=0x318a50708121002
noncomputable def _root_.Mine.aGy:=0x208d462a1814129d89105253112314cc7006
noncomputable def _root_.Mine.Xc:=0x4629c6318c6386380
noncomputable def _root_.Mine.Xb:=0xc6291202048901003
noncomputable def _root_.Mine.ú:=0x318a71df9c0ac6766001
noncomputable def _root_.Mine.aAx:=0x318a718c6318c60e056307001
noncomputable def _root_.Mine.aAw:=0xf18a8664a0614004910540304
noncomputable def _root_.Mine.ù:=0x8c538c6318c70dc300
noncomputable def _root_.Mine.aLa:=0xc8004020000640020198a601c6bc61a600c6bc61ccc1003
noncomputable def _root_.Mine.aAv:=0x3c314850703a4b00521002
noncomputable def _root_.Mine.aK9:=0x40001c800662900538c1c4980b1af182bc6318c6386003
noncomputable def _root_.Mine.ø:=0xc62941c2838121002
noncomputable def _root_.Mine.ö:=0x16315080b10541003
noncomputable def _root_.Mine.õ:=0xc637aa02045435002
noncomputable def _root_.Mine.aK8:=0x718a868e70e880b474002a1a39c3a20838b470a786004
noncomputable def _root_.Mine.aGx:=0x12163150c091a041508d331d01003
noncomputable def _root_.Mine.aGw:=0x111a3150c0e92841520620ccc1003
noncomputable def _root_.Mine.aAu:=0xe31505031280818921004
noncomputable def _root_.Mine.ô:=0xe315044a00921003
noncomputable def _root_.Mine.aK7:=0x1106461c8065518c568201040ccc20ccc838507003
noncomputable def _root_.Mine.aK6:=0xc4160a08c414a51462b02023508d331d0114cc7002
noncomputable def _root_.Mine.aGv:=0x14314e3bf382f4385d2b1907091
noncomputable def _root_.Mine.ó:=0x618ba4b08141002
noncomputable def _root_.Mine.ò:=0x318daa1a8121002
noncomputable def _root_.Mine.ñ:=0x318a40174941002
noncomputable def _root_.Mine.W9:=0xc62a08141002
noncomputable def _root_.Mine.aGu:=0x46b8c5201a423508d331d01003
noncomputable def _root_.Mine.W8:=0xc62a09941002
noncomputable def _root_.Mine.aAt:=0x8ac6291052604cc1002
noncomputable def _root_.Mine.aK5:=0x718a718ce79ed990102719d9829863a6c6bc6002
noncomputable def _root_.Mine.aGt:=0x3d18ac434886940c0810521004
noncomputable def _root_.Mine.aAs:=0x38c5420a44800540303
noncomputable def _root_.Mine.ð:=0x18c64900541002
noncomputable def _root_.Mine.aK4:=0x1c629c67bfd990102719d9829863a6c6bc6002
noncomputable def _root_.Mine.aK3:=0x10a1194a315a0234008e92841591021ccc1004
noncomputable def _root_.Mine.aK2:=0x2323902b18a5070112124cc838833320e1003
noncomputable def _root_.Mine.aGs:=0x38c5481882940c4800540304
noncomputable def _root_.Mine.W7:=0x2314a020002
noncomputable def _root_.Mine.aK1:=0x36080d258c5420250138d223ccc714cc7002
noncomputable def _root_.Mine.aK0:=0x718a86880b464002a1a20838b460a746004
noncomputable def _root_.Mine.aGr:=0xc6291202838122420e1003
noncomputable def _root_.Mine.aGq:=0x66315040e92c20520e1002
noncomputable def _root_.Mine.aAr:=0xc31749603241a301
noncomputable def _root_.Mine.aKz:=0x8c8e40ac6290112124cc838833320e1003
noncomputable def _root_.Mine.aKy:=0x58c52041c29c77e741c2bc6318c6386002
noncomputable def _root_.Mine.aKx:=0x68c52102f18c6318e1829c6339e7b66002
noncomputable def _root_.Mine.aAq:=0x318a90708141002
noncomputable def _root_.Mine.aAp:=0x318a44048901003
noncomputable def _root_.Mine.aKw:=0x212d922b18a401b0c53d98c29ecc6020
noncomputable def _root_.Mine.aKv:=0x2e3148029c60e24882bc6318c6386003
noncomputable def _root_.Mine.aKu:=0xc629c67664090102b19d99081a041004
noncomputable def _root_.Mine.aKt:=0x4858c524420e3024881854114cc7004
noncomputable def _root_.Mine.aGp:=0x318a50741c204a0e1002
noncomputable def _root_.Mine.aGo:=0x318a719d980ac6766001
noncomputable def _root_.Mine.aKs:=0x1928a71df9c0ac60e14c11a30746002
noncomputable def _root_.Mine.aKr:=0xe314e35fd99010271df9c2ac6766002
noncomputable def _root_.Mine.aKq:=0xbe7c6292980929889185241cce1005
noncomputable def _root_.Mine.aKp:=0x318a718ce79ed99010271af1901002
noncomputable def _root_.Mine.aGn:=0x91462a081213ccc7001
noncomputable def _root_.Mine.aGm:=0x92c6290094114cc7002
noncomputable def _root_.Mine.aGl:=0x18c56841c2040507002
noncomputable def _root_.Mine.aKo:=0x18c5424630702848e70e880747003
noncomputable def _root_.Mine.aKn:=0x4922c18c54013a4b0094114cc7002
noncomputable def _root_.Mine.aKm:=0x944a918ad030a1071814114cc7003
noncomputable def _root_.Mine.aKl:=0x58c5200a71af182bc6318c6386002
noncomputable def _root_.Mine.aKk:=0xa6315882e928416290710521003
noncomputable def _root_.Mine.aKj:=0x23249462b41c014850714cc7002
noncomputable def _root_.Mine.aKi:=0x1a314840bc6318c63860a747002
noncomputable def _root_.Mine.aKh:=0x1a3150c8b410480814818901005
noncomputable def _root_.Mine.aGk:=0xc62a10122420e1003
noncomputable def _root_.Mine.aKg:=0x6314e318c6318c1c09c77e7001
noncomputable def _root_.Mine.aKf:=0x4468c52340809089230ccc1003
noncomputable def _root_.Mine.aKe:=0xe3149108184092206258901005
noncomputable def _root_.Mine.aGj:=0xc31749603a41a301
noncomputable def _root_.Mine.aGi:=0xa31749670241a301
noncomputable def _root_.Mine.aKd:=0x318a718c6318e180ac6766001
noncomputable def _root_.Mine.aKc:=0x318a719eff6602719eff66001
noncomputable def _root_.Mine.aKb:=0x78c649189211a44800540304
noncomputable def _root_.Mine.aEh:=0x58c5404082a199681a041004
noncomputable def _root_.Mine.aEg:=0x38c54141d071280250507003
noncomputable def _root_.Mine.aEf:=0x18c5681a048081081a041004
noncomputable def _root_.Mine.aEe:=0x7462b41c4841c2058901003
noncomputable def _root_.Mine.aEd:=0x1c632481031290310521004
noncomputable def _root_.Mine.aEc:=0xc629420e208128120e1003
noncomputable def _root_.Mine.aEb:=0x1631563070ac0156307002
noncomputable def _root_.Mine.U1:=0x118daa0301
noncomputable def _root_.Mine.aEa:=0x2522a462b081420cce1002
noncomputable def _root_.Mine.aD9:=0xc6291a0280192340901004
noncomputable def _root_.Mine.aD8:=0xe3150c091a10710541004
noncomputable def _root_.Mine.aD7:=0xa718a420b54229ecc6091
noncomputable def _root_.Mine.aD6:=0xe31485031240818921004
noncomputable def _root_.Mine.aD5:=0xe31509030282348901004
noncomputable def _root_.Mine.aD4:=0x2314a1081882040901004
noncomputable def _root_.Mine.aD3:=0x318a44808122420e1003
noncomputable def _root_.Mine.aD2:=0x318a9071058a10521003
noncomputable def _root_.Mine.aD1:=0x318a44841c2050901003
noncomputable def _root_.Mine.aD0:=0x318a5031202048901004
noncomputable def _root_.Mine.aDz:=0x318a507005d250507002
noncomputable def _root_.Mine.aDy:=0x318a8680814340901004
noncomputable def _root_.Mine.aDx:=0x18c5680a0e0420e1002
noncomputable def _root_.Mine.aDw:=0x38c54112802520e1003
noncomputable def _root_.Mine.aDv:=0x3dc62a10d401cce1003
noncomputable def _root_.Mine.aDu:=0x38c5480984a00921003
noncomputable def _root_.Mine.aDt:=0x38c5211240818921004
noncomputable def _root_.Mine.aDs:=0x58c5400ab660af66002
noncomputable def _root_.Mine.U0:=0x8c547300
noncomputable def _root_.Mine.ü:=0x2314a0e0381
noncomputable def _root_.Mine.û:=0x231520e0001
end
end Mine.Li
namespace Mine
noncomputable abbrev tU:=dE→Prop
noncomputable abbrev lK:=List jY
noncomputable abbrev nH:=List Nat
noncomputable abbrev fZ:=List bM
noncomputable abbrev bH:=List Int
noncomputable abbrev iB:=dF→Prop
abbrev rX:=bM→tU
theorem nn{p:Prop}(h:(p→False)→False):p:=eH h
theorem Jl{f g:Type}{a c:f}{b d:g}{P:Prop}(e:some (a,b)=some (c,d))(k:a=c→b=d→P):P:=by cases e;exact k rfl rfl
theorem nW{b:Type}{a c:b}{P:Prop}(e:some a=some c)(k:a=c→P):P:=by cases e;exact k rfl
theorem soT{f g:Type}{a c:f}{b d:g}{P:Prop}(e:(a,b)=(c,d))(k:a=c→b=d→P):P:=by cases e;exact k rfl rfl
theorem hU{b:Type}{a:b}{P:Prop}(e:aF=some a):P:=by cases e
theorem Ly{b:Type}{a:b}{P:Prop}(e:some a=aF):P:=by cases e
inductive V where
 |none
 |bool (b:Bool)
 |int (i:Int)
 |str (s:jY)
 |tup (l:List V)
 |lst (l:List V)
 |scr (l:List V)
 |mt (l:List V)
 |dct (ks:bH) (vs:List V)
 |set0
 |ref (n:Nat)
 |inst (n:Nat)
 |fn (v:bM)
 |bm (id:String) (self:V)
 deriving Inhabited
mutual
noncomputable def V.pure:V→Bool
 |.tup l=>cS l
 |.lst l=>cS l
 |.scr l=>cS l
 |.mt l=>cS l
 |.dct _ vs=>cS vs
 |.ref _=>false
 |.inst _=>false
 |.bm _ s=>s.pure
 |.none=>true
 |.bool _=>true
 |.int _=>true
 |.str _=>true
 |.set0=>true
 |.fn _=>true
noncomputable def cS:List V→Bool
 |[]=>true
 |d::l=>d.pure&&cS l
end
theorem pQ:V.pure (.tup l)=cS l:=rfl
theorem pP:V.pure (.lst l)=cS l:=rfl
theorem pO:V.pure (.none)=true:=rfl
theorem pN:V.pure (.bool a)=true:=rfl
theorem mU:V.pure (.int a)=true:=rfl
theorem mT:V.pure (.str a)=true:=rfl
theorem cP:cS []=true:=rfl
theorem cO:cS (d::l)=(d.pure&&cS l):=rfl
noncomputable abbrev T3:=Nat×Nat×Nat
structure Cr(A B:bH)(alo ahi blo bhi i j k:Nat):Prop where
 a0:alo≤i
 a1:i+k≤ahi
 b0:blo≤j
 b1:j+k≤bhi
 eq:∀t,t<k→A.getD (i+t) 0=B.getD (j+t) 0
def I3(p q:Nat×Nat):Prop:=p.1<q.1∨(p.1=q.1∧p.2≤q.2)
structure vB(A B:bH)(alo ahi blo bhi:Nat)(t:T3):Prop where
 zero:t.2.2=0→t=(alo,blo,0)
 cr:0<t.2.2→Cr A B alo ahi blo bhi t.1 t.2.1 t.2.2
 max:∀i j k,0<k→Cr A B alo ahi blo bhi i j k→k≤t.2.2∧(k=t.2.2→I3 (t.1,t.2.1) (i,j))
theorem vB.uniq(x:vB A B alo ahi blo bhi t)(y:vB A B alo ahi blo bhi u):t=u:=by
 obtain ⟨i,j,k⟩:=t;obtain ⟨d,f,a⟩:=u;by_cases h:k=0
 ·by_cases h':a=0
  ·exact (x.zero h).trans (y.zero h').symm
  ·have:=(x.max _ _ _ (dU h') (y.cr (dU h'))).1;simp only at this;exact dD (aS 0x7218c9200ba4b30566002 h h' this)
 ·by_cases h':a=0
  ·have:=(y.max _ _ _ (dU h) (x.cr (dU h))).1;simp only at this;exact dD (aS 0xb818c92102cc174966002 h h' this)
  ·obtain ⟨a1,b⟩:=x.max _ _ _ (dU h') (y.cr (dU h'));obtain ⟨b1,c⟩:=y.max _ _ _ (dU h) (x.cr (dU h));simp only at a1 b b1 c;have e:k=a:=aS 0x3a315802900521002 a1 b1;have l1:=b e.symm;have l2:=c e;unfold I3 at l1 l2;simp only at l1 l2;simp only [qE];exact aS 0x206021101884828608514285218250194286318c630c58c5840b2988b189ac490a65886a10dac494c458c4a18961006 e l1 l2
open Classical in
def Nd(A B:bH)(alo ahi blo bhi:Nat):T3:=if h:∃t,vB A B alo ahi blo bhi t then h.choose else (alo,blo,0)
theorem S3(h:vB A B alo ahi blo bhi t):Nd A B alo ahi blo bhi=t:=by unfold Nd;have hx:∃t,vB A B alo ahi blo bhi t:=⟨t,h⟩;rw [dif_pos hx];exact hx.choose_spec.uniq h
def J5(A B:bH):Nat→Nat→Nat→Nat→Nat→List T3
 |0,_,_,_,_=>[]
 |f+1,alo,ahi,blo,bhi=>match Nd A B alo ahi blo bhi with
  |(i,j,k)=>if k=0 then[]else J5 A B f alo i blo j++(i,j,k)::J5 A B f (i+k) ahi (j+k) bhi
theorem Ak:J5 A B 0 a b c u4=([]):=rfl
theorem Aj:J5 A B (f+1) alo ahi blo bhi=(match Nd A B alo ahi blo bhi with
 |(i,j,k)=>if k=0 then[]else J5 A B f alo i blo j++(i,j,k)::J5 A B f (i+k) ahi (j+k) bhi):=rfl
noncomputable def glue:T3→List T3→List T3
 |(i,j,k),[]=>if k=0 then[]else[(i,j,k)]
 |(i,j,k),(i',j',k')::r=>if i+k=i'∧j+k=j' then glue (i,j,k+k') r else if k=0 then glue (i',j',k') r else (i,j,k)::glue (i',j',k') r
theorem C8:glue (i,j,k) []=(if k=0 then[]else[(i,j,k)]):=rfl
theorem C7:glue (i,j,k) ((a,b,c)::r)=(if i+k=a∧j+k=b then glue (i,j,k+c) r else if k=0 then glue (a,b,c) r else (i,j,k)::glue (a,b,c) r):=rfl
def mbs(A B:bH):List T3:=glue (0,0,0) (J5 A B A.length 0 A.length 0 B.length)++[(A.length,B.length,0)]
inductive mZ where
 |replace|delete|insert|equal
 deriving DecidableEq,Inhabited
noncomputable abbrev Qm:=mZ×Nat×Nat×Nat×Nat
noncomputable def wV:Nat→Nat→List T3→List Qm
 |_,_,[]=>[]
 |i,j,(ai,bj,k)::r=>(if i<ai∧j<bj then[(mZ.replace,i,ai,j,bj)]else if i<ai then[(mZ.delete,i,ai,j,bj)]else if j<bj then[(mZ.insert,i,ai,j,bj)]else[])++
   (if k=0 then[]else[(mZ.equal,ai,ai+k,bj,bj+k)])++wV (ai+k) (bj+k) r
theorem Ga:wV a b []=([]):=rfl
theorem F9:wV i j ((a,b,k)::r)=((if i<a∧j<b then[(mZ.replace,i,a,j,b)]else if i<a then[(mZ.delete,i,a,j,b)]else if j<b then[(mZ.insert,i,a,j,b)]else[])++
  (if k=0 then[]else[(mZ.equal,a,a+k,b,b+k)])++wV (a+k) (b+k) r):=rfl
def ops(A B:bH):List Qm:=wV 0 0 (mbs A B)
noncomputable def mZ.s:mZ→jY
 |.replace=>aC "replace"
 |.delete=>aC "delete"
 |.insert=>aC "insert"
 |.equal=>aC "equal"
noncomputable def vN(n:Nat):V:=.int n
def vL(l:bH):V:=.lst (l.map V.int)
def xM(t:T3):V:=.mt [vN t.1,vN t.2.1,vN t.2.2]
def Ch(t:Qm):V:=.tup [.str t.1.s,vN t.2.1,vN t.2.2.1,vN t.2.2.2.1,vN t.2.2.2.2]
def xP(A B:bH):V:=.lst ((mbs A B).map xM)
def xO(A B:bH):V:=.lst ((ops A B).map Ch)
def iN(k:Int):Nat→bH→nH
 |_,[]=>[]
 |i,x::r=>if x=k then i::iN k (i+1) r else iN k (i+1) r
theorem xW:iN k a []=([]):=rfl
theorem xV:iN k i (x::r)=(if x=k then i::iN k (i+1) r else iN k (i+1) r):=rfl
structure Ey where
 a:Option bH
 b:Option bH
 auto:Bool
def vS:Option bH→V
 |some l=>vL l
 |aF=>.str (aC "")
noncomputable def nM:List (jY×V)→jY→Option V
 |[],_=>aF
 |(x,v)::r,s=>if s=x then some v else nM r s
theorem Hl:nM [] a=(aF):=rfl
theorem Hk:nM ((x,v)::r) s=(if s=x then some v else nM r s):=rfl
def rY(b:bH)(v:V):Prop:=∃ks vs,v=.dct ks vs∧ks.length=vs.length∧∀k,(ks.zip vs).lookup k=if iN k 0 b=[]then aF else some (.lst ((iN k 0 b).map vN))
structure Bp(m:Ey)(as:List (jY×V)):Prop where
 pure:∀p∈as,p.2.pure=true
 junk:nM as (aC "isjunk")=some .none
 a:nM as (aC "a")=some (vS m.a)
 b:nM as (aC "b")=some (vS m.b)
 auto:nM as (aC "autojunk")=some (.bool m.auto)
 bjunk:nM as (aC "bjunk")=some .set0
 b2j:∃c,nM as (aC "b2j")=some c∧rY (m.b.getD []) c
 mb:nM as (aC "matching_blocks")=some .none∨(∃A B,m.a=some A∧m.b=some B∧nM as (aC "matching_blocks")=some (xP A B))
 oc:nM as (aC "opcodes")=some .none∨(∃A B,m.a=some A∧m.b=some B∧nM as (aC "opcodes")=some (xO A B))
section
set_option backward.match.sparseCases false
noncomputable abbrev nX:=Option V
noncomputable abbrev bV:=List V
noncomputable abbrev mH:=List (jY×V)
noncomputable abbrev lQ:=List (Nat×dF)
noncomputable def lk{α:Type}:List (Nat×α)→Nat→Option α
 |[],_=>aF
 |(y,a)::r,x=>if x=y then some a else lk r x
theorem fF{a:Type}{b:Nat}:lk ([]:List (Nat×a)) b=(aF):=rfl
theorem fE{b:Type}{y:Nat}{a:b}{r:List (Nat×b)}{x:Nat}:lk ((y,a)::r) x=(if x=y then some a else lk r x):=rfl
noncomputable def kX{α:Type}(x:Nat)(a:α):List (Nat×α)→List (Nat×α)
 |[]=>[(x,a)]
 |(y,b)::r=>if x=y then (x,a)::r else (y,b)::kX x a r
theorem Ë{b:Type}{x:Nat}{a:b}:kX x a []=([(x,a)]):=rfl
theorem Ê{c:Type}{x:Nat}{a:c}{y:Nat}{b:c}{r:List (Nat×c)}:kX x a ((y,b)::r)=(if x=y then (x,a)::r else (y,b)::kX x a r):=rfl
theorem iU{c:Type}(x:Nat)(a:c):∀(l:List (Nat×c))(y:Nat),lk (kX x a l) y=if y=x then some a else lk l y:=by
 intro f
 induction f with
 |nil=>intro y;rfl
 |cons g r i=>
  obtain ⟨z,b⟩:=g;intro y;simp only [Ë,Ê];by_cases h:x=z
  ·subst h;rw [if_pos rfl];by_cases hy:y=x
   ·simp [fF,fE,hy]
   ·simp [fF,fE,hy]
  ·rw [if_neg h];by_cases d:y=z
   ·subst d;have:y≠x:=fun e=>h e.symm;simp [fF,fE,this]
   ·simp only [fF,fE,if_neg d];exact i y
theorem ý{c:Type}{a:c}:∀{l:List (Nat×c)}{x:Nat},lk l x=some a→(x,a)∈l:=by
 intro d
 induction d with
 |nil=>intros;first|contradiction|(rename_i h;cases h;done)
 |cons f r g=>
  obtain ⟨y,b⟩:=f;intro x;intro h;simp only [fF,fE]at h;split at h
  ·rename_i e;subst e;cases h;exact aU
  ·exact bB _ (g h)
noncomputable def ob{α β:Type}(x:Option α)(f:α→Option β):Option β:=match x with
 |some a=>f a
 |aF=>aF
theorem Ma{b c:Type}(a:b)(f:b→Option c):ob (some a) f=f a:=rfl
structure IfC{β:Type}(c:Prop)(x:Option β)(r:β):Prop where
 left:c
 right:x=some r
theorem iC{a:Type}{c:Prop}[Decidable c]{x:Option a}{r:a}(e:(if c then x else aF)=some r):IfC c x r:=by
 by_cases h:c
 ·rw [if_pos h]at e;exact ⟨h,e⟩
 ·rw [if_neg h]at e;exact hU e
inductive aOg{α β:Type}(x:Option α)(f:α→Option β)(r:β):Prop
 |mk (a:α) (e:x=some a) (q:f a=some r)
theorem dS{a b:Type}{x:Option a}{f:a→Option b}{r:b}(e:ob x f=some r):aOg x f r:=by
 cases x with
 |none=>(exact hU e)
 |some p=>exact ⟨p,rfl,e⟩
noncomputable def xN:dF:=242
noncomputable def rJ:dF:=135
inductive vC(h:dT)(a:dF):Prop
 |mk (o:wM) (e:h.get? a=some o)
inductive Bc(h:dT)(a:dF)(items:Array bM):Prop
 |mk (o:wM) (e:h.get? a=some o) (r:o.cls=.ref rJ∧∃n,o.data=.seq items n)
inductive Dt(h:dT)(a:dF)(ks:bH)(xs:fZ):Prop
 |mk (f:Int→Option bM) (m:h.IntMap a f) (o:∀o,h.get? a=some o→o.dict=aF∧o.slots= #[]) (l:h.DictLe a ks.length) (q:ks.length=xs.length∧∀k,f k=(ks.zip xs).lookup k)
def Ti(h:dT)(a:dF):Prop:=∃jd:Bool,h.get? a=some {cls:=.type "set",dict:=aF,data:=.set #[] 0 (.fresh 0 0 jd)}
inductive aOl(h:dT)(a:dF)(id:String)(self:bM):Prop
 |mk (o:wM) (e:h.get? a=some o) (r:o.cls=.type "builtin_function_or_method"∧o.dict=aF∧o.data=.fields #[.builtin id,self])
def aOi(h:dT)(a:dF)(xs:fZ):Prop:=∃k,IsT h a (aY xs) k
def aMg(h:dT)(a:dF)(xs:fZ):Prop:=∃k,IsL h a (aY xs) k
def aOj(h:dT)(a:dF)(xs:fZ):Prop:=h.IsList a (aY xs)
def aOk(h:dT)(a:dF)(xs:fZ):Prop:=Bc h a (aY xs)
def aMh(h:dT)(ks:bH)(a:dF)(xs:fZ):Prop:=Dt h a ks xs
inductive Y1(P:dF→fZ→Prop)(Y:iB)(v:bM)(L:fZ→Prop):Prop
 |mk (a:dF) (xs:fZ) (e:v=.ref a) (ny:¬Y a) (p:P a xs) (r:L xs)
inductive aEy(P:bM→Prop)(L:fZ→Prop)(xs:fZ):Prop
 |mk (x:bM) (r:fZ) (e:xs=x::r) (p:P x) (q:L r)
inductive aOf(D:lQ)(n:Nat)(v:bM):Prop
 |mk (a:dF) (e:v=.ref a) (d:lk D n=some a)
inductive aMb(D:lQ)(Y:iB)(h:dT)(n:Nat)(v:bM):Prop
 |mk (a x:dF) (e:v=.ref x) (ny:¬Y x) (d:lk D n=some a) (o:h.get? x=some (instObj xN a))
inductive RBm(Y:iB)(h:dT)(id:String)(v:bM)(L:bM→Prop):Prop
 |mk (a:dF) (u:bM) (e:v=.ref a) (ny:¬Y a) (b:aOl h a id u) (r:L u)
mutual
def gG(D:lQ)(Y:iB)(h:dT):V→bM→Prop
 |.none,v=>v=.none
 |.bool b,v=>v=.bool b
 |.int i,v=>∃t,v=.int i t
 |.str s,v=>∃t,v=.str s t
 |.tup l,v=>Y1 (aOi h) Y v (bO D Y h l)
 |.lst l,v=>Y1 (aMg h) Y v (bO D Y h l)
 |.scr l,v=>Y1 (aOj h) Y v (bO D Y h l)
 |.mt l,v=>Y1 (aOk h) Y v (bO D Y h l)
 |.dct ks vs,v=>Y1 (aMh h ks) Y v (bO D Y h vs)
 |.set0,v=>∃a,v=.ref a∧¬Y a∧Ti h a
 |.ref n,v=>aOf D n v
 |.inst n,v=>aMb D Y h n v
 |.fn u,v=>v=u
 |.bm id s,v=>RBm Y h id v (gG D Y h s)
def bO(D:lQ)(Y:iB)(h:dT):bV→fZ→Prop
 |[],xs=>xs=[]
 |d::l,xs=>aEy (gG D Y h d) (bO D Y h l) xs
end
theorem nU{D:lQ}{Y:iB}{h:dT}{xs}:bO D Y h [] xs=(xs=[]):=rfl
theorem nR{D:lQ}{Y:iB}{h:dT}{d l xs}:bO D Y h (d::l) xs=aEy (gG D Y h d) (bO D Y h l) xs:=rfl
theorem vC.no{h:dT}{a:dF}{C:Prop}(x:vC h a)(e:h.get? a=aF):C:=by
 cases x with
 |mk o b=>exact hU (e.symm.trans b)
theorem Dt.keep{h h':dT}{a:dF}{ks:bH}{xs:fZ}(x:Dt h a ks xs)(c:∀o,h.get? a=some o→h'.get? a=some o):Dt h' a ks xs:=by refine nn fun g=>?_;obtain ⟨f,⟨o,es,i,b,r⟩,ex,le,e⟩:=x;refine g ?_;exact ⟨f,⟨o,es,i,c o b,r⟩,fun j d=>by (replace d:=(c o b)▸d;cases d;exact ex o b),le.of_same b (c o b),e⟩
theorem Dt.lt{h:dT}{a:dF}{ks:bH}{xs:fZ}(x:Dt h a ks xs):vC h a:=by obtain ⟨f,⟨o,es,c,b,r⟩,_⟩:=x;exact ⟨o,b⟩
section
variable{D D':lQ}{Y Y':iB}{h h':dT}
theorem uU{a:dF}{o:wM}(b:∀a,Y' a→Y a∨h.get? a=aF)(c:h.get? a=some o)(d:¬Y a):¬Y' a:=fun m=>(b a m).elim d fun e=>by replace e:=c▸e;cases e
mutual
theorem gG.step(g:∀b o,h.get? b=some o→¬Y b→h'.get? b=some o)(j:∀n a,lk D n=some a→lk D' n=some a)(i:∀a,Y' a→Y a∨h.get? a=aF):
  ∀(d:V)(v:bM),gG D Y h d v→gG D' Y' h' d v
 |.none,v,x=>x
 |.bool _,v,x=>x
 |.int _,v,x=>x
 |.str _,v,x=>x
 |.fn _,v,x=>x
 |.tup l,v,x=>by obtain ⟨a,xs,rfl,f,⟨k,c⟩,y⟩:=x;exact ⟨a,xs,rfl,uU i c f,⟨k,g a _ c f⟩,bO.step g j i l xs y⟩
 |.lst l,v,x=>by obtain ⟨a,xs,rfl,f,⟨k,c⟩,y⟩:=x;exact ⟨a,xs,rfl,uU i c f,⟨k,g a _ c f⟩,bO.step g j i l xs y⟩
 |.scr l,v,x=>by obtain ⟨a,xs,rfl,f,⟨o,c,r⟩,y⟩:=x;exact ⟨a,xs,rfl,uU i c f,⟨o,g a o c f,r⟩,bO.step g j i l xs y⟩
 |.mt l,v,x=>by obtain ⟨a,xs,rfl,f,⟨o,c,r⟩,y⟩:=x;exact ⟨a,xs,rfl,uU i c f,⟨o,g a o c f,r⟩,bO.step g j i l xs y⟩
 |.dct ks vs,v,x=>by obtain ⟨a,xs,rfl,f,z,y⟩:=x;obtain ⟨o,c⟩:=z.lt;exact ⟨a,xs,rfl,uU i c f,z.keep fun m p=>g a m p f,bO.step g j i vs xs y⟩
 |.set0,v,x=>by obtain ⟨a,rfl,f,t,c⟩:=x;exact ⟨a,rfl,uU i c f,t,g a _ c f⟩
 |.ref n,v,x=>by obtain ⟨a,rfl,e⟩:=x;exact ⟨a,rfl,j _ _ e⟩
 |.inst n,v,x=>by obtain ⟨a,y,rfl,hy,e,c⟩:=x;exact ⟨a,y,rfl,uU i c hy,j _ _ e,g y _ c hy⟩
 |.bm id s,v,x=>by obtain ⟨a,u,rfl,f,⟨o,c,r⟩,y⟩:=x;exact ⟨a,u,rfl,uU i c f,⟨o,g a o c f,r⟩,gG.step g j i s u y⟩
theorem bO.step(c:∀b o,h.get? b=some o→¬Y b→h'.get? b=some o)(e:∀n a,lk D n=some a→lk D' n=some a)(f:∀a,Y' a→Y a∨h.get? a=aF):
  ∀(l:bV)(xs:fZ),bO D Y h l xs→bO D' Y' h' l xs
 |[],xs,x=>x
 |d::l,xs,x=>by obtain ⟨u,r,rfl,y,z⟩:=x;exact ⟨u,r,rfl,gG.step c e f d u y,bO.step c e f l r z⟩
end
end
theorem bO.length{D:lQ}{Y:iB}{h:dT}:∀{l:bV}{xs:fZ},bO D Y h l xs→xs.length=l.length:=by
 intro a
 induction a with
 |nil=>intro xs;intro x;subst x;rfl
 |cons d l b=>intro xs;intro x;obtain ⟨u,r,rfl,_,z⟩:=x;simp [b z]
theorem bO.get{D:lQ}{Y:iB}{h:dT}:∀{l:bV}{xs:fZ},bO D Y h l xs→∀{i:Nat}{d:V},l[i]?=some d→∃x,xs[i]?=some x∧gG D Y h d x:=by
 intro a
 induction a with
 |nil=>intro _;intro _;intro i;intro d;intro e;simp at e
 |cons d l b=>
  intro xs;intro x;intro i;intro c;intro e;obtain ⟨u,r,rfl,y,z⟩:=x
  cases i with
  |zero=>simp at e;subst e;exact ⟨u,rfl,y⟩
  |succ i=>exact b z (by exact e)
theorem bO.append{D:lQ}{Y:iB}{h:dT}:∀{l:bV}{xs:fZ}{l':bV}{b:fZ},bO D Y h l xs→bO D Y h l' b→bO D Y h (l++l') (xs++b):=by
 intro c
 induction c with
 |nil=>intro xs;intro l';intro b;intro x;intro y;subst x;exact y
 |cons d l e=>intro xs;intro l';intro b;intro x;intro y;obtain ⟨u,r,rfl,a,z⟩:=x;exact ⟨u,r++b,rfl,a,e z y⟩
theorem bO.take{D:lQ}{Y:iB}{h:dT}:∀(n:Nat){l:bV}{xs:fZ},bO D Y h l xs→bO D Y h (l.take n) (xs.take n):=by
 intro b
 induction b with
 |zero=>intro l;intro xs;intro _;rfl
 |succ n e=>
  intro c
  cases c with
  |nil=>intro xs;intro x;subst x;rfl
  |cons d l=>intro xs;intro x;obtain ⟨u,r,rfl,a,z⟩:=x;exact ⟨u,r.take n,rfl,a,e z⟩
theorem bO.drop{D:lQ}{Y:iB}{h:dT}:∀(n:Nat){l:bV}{xs:fZ},bO D Y h l xs→bO D Y h (l.drop n) (xs.drop n):=by
 intro c
 induction c with
 |zero=>intro l;intro xs;intro x;exact x
 |succ n b=>
  intro e
  cases e with
  |nil=>intro xs;intro x;subst x;rfl
  |cons d l=>intro xs;intro x;obtain ⟨u,r,rfl,a,z⟩:=x;exact b z
theorem bO.nil{D:lQ}{Y:iB}{h:dT}:bO D Y h [] []:=by simp [nU,nR]
theorem bO.cons{D:lQ}{Y:iB}{h:dT}{d:V}{l:bV}{x:bM}{r:fZ}(a:gG D Y h d x)(b:bO D Y h l r):bO D Y h (d::l) (x::r):=by exact ⟨x,r,rfl,a,b⟩
inductive gM where
 |list (vs:bV)
 |dict (ks:bH) (vs:bV)
 |attrs (as:mH)
 |mat (m:Ey)
 deriving Inhabited
def liC:gM→Option bV
 |.list l=>some l
 |_=>aF
def rN:lK:=[aC "isjunk",aC "a",aC "b",aC "autojunk",aC "matching_blocks",aC "opcodes",aC "fullbcount",aC "b2j",aC "bjunk",aC "bpopular"]
inductive aIg(D:lQ)(Y:iB)(h:dT)(m:jY→Option bM)(p:jY×V):Prop
 |mk (u:bM) (e:m p.1=some u) (r:gG D Y h p.2 u)
inductive Qo(D:lQ)(Y:iB)(h:dT)(a:dF)(as:mH):Prop
 |mk (m:jY→Option bM) (n:h.Ns1 a m) (w:Within m rN) (r:∀p∈as,aIg D Y h m p)
inductive CAt(P:dF→fZ→Prop)(a:dF)(L:fZ→Prop):Prop
 |mk (xs:fZ) (p:P a xs) (r:L xs)
inductive aOn(D:lQ)(Y:iB)(h:dT)(a:dF)(m:Ey):Prop
 |mk (as:mH) (ok:Bp m as) (r:Qo D Y h a as)
def iP(D:lQ)(Y:iB)(h:dT)(a:dF):gM→Prop
 |.list vs=>CAt (aMg h) a (bO D Y h vs)
 |.dict ks vs=>CAt (aMh h ks) a (bO D Y h vs)
 |.attrs as=>Qo D Y h a as
 |.mat m=>aOn D Y h a m
inductive vA where
 |loc (L:dF)
 |cel (c:dF)
noncomputable def vA.adr:vA→dF
 |.loc L=>L
 |.cel c=>c
def Holds(h:dT):vA→jY→bM→Prop
 |.loc L,s,u=>∃m,h.Ns L m∧m s=some u
 |.cel c,_,u=>h.IsCell c (some u)
def uD(h:dT):vA→Prop
 |.loc L=>∃m,h.Ns L m
 |.cel c=>∃u,h.IsCell c u
structure Fx where
 env:Env
 bnd:List (Nat×vA×jY)
 Z:List dF
structure St where
 loc:List (Nat×V)
 cells:List (Nat×gM)
 next:Nat
structure iL(F:Fx):Prop where
 kind:F.env.scope.kind=.function
 inZ:∀x p s,lk F.bnd x=some (p,s)→p.adr∈F.Z
 dist:∀x y p s p' s',lk F.bnd x=some (p,s)→lk F.bnd y=some (p',s')→x≠y→p.adr≠p'.adr∨∃L,p=.loc L∧p'=.loc L∧s≠s'
def Yf(F:Fx)(X:iB)(D:lQ)(a:dF):Prop:=a∈F.Z∨X a∨∃n,lk D n=some a
def iW(N:List dF)(X:iB):iB:=fun a=>a∈N∨X a
theorem Y9{F:Fx}{N:List dF}{X:iB}{D:lQ}{a:dF}(e:Yf F X D a):Yf F (iW N X) D a:=e.imp id (Or.imp .inr id)
theorem Eb{c:Type}{P:c→Prop}{a:c}(h:P a):∀b∈[a],P b:=fun _ d=>aM.mp d▸h
inductive aMd(F:Fx)(X:iB)(D:lQ)(h:dT)(x:Nat)(v:V):Prop
 |mk (p:vA) (s:jY) (u:bM) (e1:lk F.bnd x=some (p,s)) (e2:Holds h p s u) (e3:gG D (Yf F X D) h v u)
inductive aMk(F:Fx)(X:iB)(D:lQ)(h:dT)(n:Nat)(c:gM):Prop
 |mk (a:dF) (e1:lk D n=some a) (e2:iP D (Yf F X D) h a c)
structure aMa(F:Fx)(X:iB)(h:dT)(n:Nat)(a:dF)(k:Nat):Prop where
 z:a∉F.Z
 x:¬X a
 b:S.heap.get? a=aF
 h:vC h a
 l:n<k
structure iZ(F:Fx)(X:iB)(D:lQ)(σ:St)(h:dT):Prop where
 base:∀b o,S.heap.get? b=some o→h.get? b=some o
 loc:∀x v,lk σ.loc x=some v→aMd F X D h x v
 frm:∀x p s,lk F.bnd x=some (p,s)→uD h p
 cel:∀n c,lk σ.cells n=some c→aMk F X D h n c
 inj:∀n m a,lk D n=some a→lk D m=some a→n=m
 sep:∀n a,lk D n=some a→aMa F X h n a σ.next
 zfr:∀a∈F.Z,S.heap.get? a=aF∧vC h a
 xal:∀a,X a→vC h a
theorem iZ.yal{F:Fx}{X:iB}{D:lQ}{σ:St}{h:dT}(m:iZ F X D σ h){a:dF}(q:Yf F X D a):vC h a:=by
 rcases q with z|z|⟨j,z⟩
 ·exact (m.zfr a z).2
 ·exact m.xal a z
 ·exact (m.sep j a z).h
structure oU(F:Fx)(D:lQ)(h:dT)(D':lQ)(h':dT):Prop where
 keep:∀b o,h.get? b=some o→b∉F.Z→(∀n,lk D n≠some b)→h'.get? b=some o
 ext:∀n a,lk D n=some a→lk D' n=some a
 new:∀n a,lk D' n=some a→lk D n=some a∨h.get? a=aF
 al:∀b o,h.get? b=some o→vC h' b
theorem oU.refl{F:Fx}{D:lQ}{h:dT}:oU F D h D h:=⟨fun _ _ e _ _=>e,fun _ _ e=>e,fun _ _ e=>.inl e,fun _ o e=>⟨o,e⟩⟩
theorem oU.trans{F:Fx}{D D₁ D₂:lQ}{h h₁ f:dT}(x:oU F D h D₁ h₁)(y:oU F D₁ h₁ D₂ f):oU F D h D₂ f:=by
 refine ⟨fun b o e g i=>?_,fun n a e=>y.ext n a (x.ext n a e),fun n a e=>?_,fun b o e=>let ⟨c,d⟩:=x.al b o e;y.al b c d⟩
 ·refine y.keep b o (x.keep b o e g i) g fun n d=>?_;rcases x.new n b d with q|q
  ·exact i n q
  ·replace q:=e▸q;cases q
 ·rcases y.new n a e with q|q
  ·exact x.new n a q
  ·refine .inr ?_
   cases j:h.get? a with
   |none=>rfl
   |some c=>obtain ⟨o,k⟩:=x.al a c j;replace q:=k▸q;cases q
theorem gG.on{F:Fx}{X:iB}{D D':lQ}{σ:St}{h h':dT}{d:V}{v:bM}(m:iZ F X D σ h)(x:oU F D h D' h')(r:gG D (Yf F X D) h d v):gG D' (Yf F X D') h' d v:=by
 refine gG.step (fun b o e c=>x.keep b o e (fun q=>c (.inl q)) fun n q=>c (.inr (.inr ⟨n,q⟩))) x.ext (fun a f=>?_) d v r;rcases f with q|q|⟨n,q⟩
 ·exact .inl (.inl q)
 ·exact .inl (.inr (.inl q))
 ·rcases x.new n a q with q|q
  ·exact .inl (.inr (.inr ⟨n,q⟩))
  ·exact .inr q
theorem bO.on{F:Fx}{X:iB}{D D':lQ}{σ:St}{h h':dT}{d:bV}{v:fZ}(m:iZ F X D σ h)(x:oU F D h D' h')(r:bO D (Yf F X D) h d v):bO D' (Yf F X D') h' d v:=by
 refine bO.step (fun b o e c=>x.keep b o e (fun q=>c (.inl q)) fun n q=>c (.inr (.inr ⟨n,q⟩))) x.ext (fun a f=>?_) d v r;rcases f with q|q|⟨n,q⟩
 ·exact .inl (.inl q)
 ·exact .inl (.inr (.inl q))
 ·rcases x.new n a q with q|q
  ·exact .inl (.inr (.inr ⟨n,q⟩))
  ·exact .inr q
theorem Holds.keep{h h':dT}{p:vA}{s:jY}{u:bM}(x:Holds h p s u)(b:∀o,h.get? p.adr=some o→h'.get? p.adr=some o):Holds h' p s u:=by
 cases p with
 |loc L=>refine nn fun d=>?_;obtain ⟨m,⟨o,a1,f,a,r⟩,e⟩:=x;refine d ?_;exact ⟨m,⟨o,a1,f,b o a,r⟩,e⟩
 |cel c=>obtain ⟨o,a,r⟩:=x;exact ⟨o,b o a,r⟩
theorem uD.keep{h h':dT}{p:vA}(x:uD h p)(b:∀o,h.get? p.adr=some o→h'.get? p.adr=some o):uD h' p:=by
 cases p with
 |loc L=>obtain ⟨m,⟨o,a1,d,a,r⟩⟩:=x;exact ⟨m,⟨o,a1,d,b o a,r⟩⟩
 |cel c=>obtain ⟨u,o,a,r⟩:=x;exact ⟨u,o,b o a,r⟩
theorem Ns.keep1{h h':dT}{a:dF}{m:jY→Option bM}(x:h.Ns a m)(b:∀o,h.get? a=some o→h'.get? a=some o):h'.Ns a m:=by refine nn fun c=>?_;obtain ⟨o,a1,d,e,r⟩:=x;refine c ?_;exact ⟨o,a1,d,b o e,r⟩
theorem iP.on{D D':lQ}{Y Y':iB}{h h':dT}{a:dF}{c:gM}(i:∀d v,gG D Y h d v→gG D' Y' h' d v)(j:∀d v,bO D Y h d v→bO D' Y' h' d v)(b:∀o,h.get? a=some o→h'.get? a=some o)(x:iP D Y h a c):iP D' Y' h' a c:=by
 cases c with
 |list vs=>obtain ⟨xs,⟨k,l⟩,y⟩:=x;exact ⟨xs,⟨k,b _ l⟩,j _ _ y⟩
 |dict ks vs=>obtain ⟨xs,z,y⟩:=x;exact ⟨xs,z.keep b,j _ _ y⟩
 |attrs as=>obtain ⟨m,f,le,y⟩:=x;exact ⟨m,f.at b,le,fun p g=>let ⟨u,e,z⟩:=y p g;⟨u,e,i _ _ z⟩⟩
 |mat n=>obtain ⟨as,ok,m,f,le,y⟩:=x;exact ⟨as,ok,m,f.at b,le,fun p g=>let ⟨u,e,z⟩:=y p g;⟨u,e,i _ _ z⟩⟩
theorem iZ.grow{F:Fx}{X:iB}{D:lQ}{σ:St}{h h':dT}(m:iZ F X D σ h)(d:∀b o,h.get? b=some o→h'.get? b=some o):iZ F X D σ h' where
 base:=fun b o e=>d b o (m.base b o e)
 loc:=fun x v e=>let ⟨p,s,u,g,i,j⟩:=m.loc x v e;⟨p,s,u,g,i.keep fun o=>d _ o,gG.step (fun b o e _=>d b o e) (fun _ _ e=>e) (fun _ e=>.inl e) _ _ j⟩
 frm:=fun x p s e=>(m.frm x p s e).keep fun o=>d _ o
 cel:=fun n c e=>let ⟨a,g,i⟩:=m.cel n c e;⟨a,g,i.on (fun _ _=>gG.step (fun b o e _=>d b o e) (fun _ _ e=>e) (fun _ e=>.inl e) _ _) (fun _ _=>bO.step (fun b o e _=>d b o e) (fun _ _ e=>e) (fun _ e=>.inl e) _ _) fun o=>d _ o⟩
 inj:=m.inj
 sep:=fun n a e=>let ⟨a1,f,k,⟨o,l⟩,r⟩:=m.sep n a e;⟨a1,f,k,⟨o,d _ _ l⟩,r⟩
 zfr:=fun a e=>let ⟨a1,o,f⟩:=m.zfr a e;⟨a1,o,d _ _ f⟩
 xal:=fun a e=>let ⟨o,f⟩:=m.xal a e;⟨o,d _ _ f⟩
theorem oU.grow{F:Fx}{D:lQ}{h h':dT}(a:∀b o,h.get? b=some o→h'.get? b=some o):oU F D h D h':=⟨fun b o e _ _=>a b o e,fun _ _ e=>e,fun _ _ e=>.inl e,fun b o e=>⟨o,a b o e⟩⟩
theorem dL(h:dT)(o:wM):∀b a,h.get? b=some a→(h.push o).get? b=some a:=fun _ _ e=>cF o e
theorem eV(h:dT):h.get? h.objs.size=aF:=by
 cases e:h.get? h.objs.size with
 |none=>rfl
 |some o=>exact absurd (dQ e) (fP _)
theorem iZ.cell{F:Fx}{X:iB}{D:lQ}{σ:St}{h h':dT}{a:dF}{c:gM}(m:iZ F X D σ h)(g:∀b o,h.get? b=some o→h'.get? b=some o)(i:h.get? a=aF)(J:vC h' a)
  (L:∀D' Y',(∀d v,gG D (Yf F X D) h d v→gG D' Y' h' d v)→(∀d v,bO D (Yf F X D) h d v→bO D' Y' h' d v)→iP D' Y' h' a c):
  iZ F X ((σ.next,a)::D) {σ with cells:=(σ.next,c)::σ.cells,next:=σ.next+1} h'∧oU F D h ((σ.next,a)::D) h':=by
 have C:∀n b,lk D n=some b→lk ((σ.next,a)::D) n=some b:=fun n b e=>by simp [fF,fE,(fun n b e=>fM (m.sep n b e).l) n b e,e]
 have G:∀n b,lk D n=some b→b≠a:=fun n b e q=>by refine nn fun N=>?_;obtain ⟨o,f⟩:=(m.sep n b e).h;refine N ?_;replace f:=q▸f;replace f:=i▸f;cases f
 have l:∀n b,lk ((σ.next,a)::D) n=some b→(n=σ.next∧b=a)∨(n≠σ.next∧lk D n=some b):=fun n b e=>by
  simp only [fF,fE]at e;split at e
  ·exact .inl ⟨by assumption,by cases e;rfl⟩
  ·exact .inr ⟨by assumption,e⟩
 have st:oU F D h ((σ.next,a)::D) h':=⟨fun b o e _ _=>g b o e,C,fun n b e=>by
   rcases l n b e with ⟨_,rfl⟩|⟨_,q⟩
   ·exact .inr i
   ·exact .inl q,fun b o e=>⟨o,g b o e⟩⟩
 have r:∀d v,gG D (Yf F X D) h d v→gG ((σ.next,a)::D) (Yf F X ((σ.next,a)::D)) h' d v:=fun d v=>gG.on m st;have H:∀d v,bO D (Yf F X D) h d v→bO ((σ.next,a)::D) (Yf F X ((σ.next,a)::D)) h' d v:=fun d v=>bO.on m st;refine ⟨⟨fun b o e=>g b o (m.base b o e),fun x v e=>?_,fun x p s e=>(m.frm x p s e).keep fun o=>g _ o,fun n O e=>?_,fun n t b e P=>?_,fun n b e=>?_,fun b e=>?_,fun b e=>?_⟩,st⟩
 ·obtain ⟨p,s,u,y,A,Q⟩:=m.loc x v e;exact ⟨p,s,u,y,A.keep fun o=>g _ o,r _ _ Q⟩
 ·simp only [fF,fE]at e;by_cases B:n=σ.next
  ·replace e:=(if_pos B)▸e;cases e;exact ⟨a,by simp [fF,fE,B],L _ _ r H⟩
  ·replace e:=(if_neg B)▸e;obtain ⟨b,y,A⟩:=m.cel n O e;exact ⟨b,C n b y,A.on r H fun o=>g _ o⟩
 ·rcases l n b e with ⟨rfl,rfl⟩|⟨R,j⟩<;>rcases l t b P with ⟨rfl,T⟩|⟨r1,I⟩
  ·rfl
  ·exact absurd rfl (G t _ I)
  ·exact absurd T (G n _ j)
  ·exact m.inj n t b j I
 ·rcases l n b e with ⟨rfl,rfl⟩|⟨R,j⟩
  ·refine ⟨fun z=>?_,fun z=>?_,?_,J,gQ _⟩
   ·obtain ⟨o,f⟩:=(m.zfr _ z).2;rw [i]at f;cases f
   ·obtain ⟨o,f⟩:=m.xal _ z;rw [i]at f;cases f
   ·cases q:S.heap.get? b with
    |none=>rfl
    |some o=>replace i:=(m.base b o q)▸i;cases i
  ·replace j:=m.sep n b j;obtain ⟨a1,k,W,⟨o,Z⟩,a5⟩:=j;exact ⟨a1,k,W,⟨o,g _ _ Z⟩,aE2 a5⟩
 ·obtain ⟨a1,o,k⟩:=m.zfr b e;exact ⟨a1,o,g _ _ k⟩
 ·obtain ⟨o,k⟩:=m.xal b e;exact ⟨o,g _ _ k⟩
theorem iZ.turn{F:Fx}{X:iB}{D:lQ}{σ:St}{h h':dT}{n:Nat}{a:dF}{c:gM}(fk:iL F)(m:iZ F X D σ h)(l:lk D n=some a)(f:∀b o,b≠a→h.get? b=some o→h'.get? b=some o)(B:vC h' a)
  (C:∀Y',(∀d v,gG D (Yf F X D) h d v→gG D Y' h' d v)→(∀d v,bO D (Yf F X D) h d v→bO D Y' h' d v)→iP D Y' h' a c):
  iZ F X D {σ with cells:=kX n c σ.cells} h'∧oU F D h D h':=by
 obtain ⟨z,O,G,P,Q⟩:=m.sep n a l;have r:∀b o,h.get? b=some o→vC h' b:=fun b o e=>by
  by_cases q:b=a
  ·subst q;exact B
  ·exact ⟨o,f b o q e⟩
 have st:oU F D h D h':=⟨fun b o e _ g=>f b o (fun q=>g n (q▸l)) e,fun _ _ e=>e,fun _ _ e=>.inl e,r⟩;have t:∀d v,gG D (Yf F X D) h d v→gG D (Yf F X D) h' d v:=fun d v=>gG.on m st;have A:∀d v,bO D (Yf F X D) h d v→bO D (Yf F X D) h' d v:=fun d v=>bO.on m st;refine ⟨⟨fun b o e=>f b o (fun q=>by replace e:=q▸e;replace e:=G▸e;cases e) (m.base b o e),fun x v e=>?_,fun x p s e=>?_,fun i H e=>?_,m.inj,fun i b e=>?_,fun b e=>?_,fun b e=>?_⟩,st⟩
 ·obtain ⟨p,s,u,j,y,I⟩:=m.loc x v e;exact ⟨p,s,u,j,y.keep fun o=>f _ o (fun q=>z (q▸fk.inZ x p s j)),t _ _ I⟩
 ·exact (m.frm x p s e).keep fun o=>f _ o (fun q=>z (q▸fk.inZ x p s e))
 ·rw [iU]at e;by_cases g:i=n
  ·replace e:=(if_pos g)▸e;cases e;subst g;exact ⟨a,l,C _ t A⟩
  ·replace e:=(if_neg g)▸e;obtain ⟨b,j,y⟩:=m.cel i H e;exact ⟨b,j,y.on t A fun o=>f _ o (fun q=>g (m.inj i n a (q▸j) l))⟩
 ·obtain ⟨a1,k,J,⟨o,L⟩,N⟩:=m.sep i b e;exact ⟨a1,k,J,r b o L,N⟩
 ·obtain ⟨a1,o,k⟩:=m.zfr b e;exact ⟨a1,r b o k⟩
 ·obtain ⟨o,k⟩:=m.xal b e;exact r b o k
theorem iZ.turn2{F:Fx}{X:iB}{D:lQ}{σ:St}{h h':dT}{n:Nat}{a:dF}{c:gM}(fk:iL F)(m:iZ F X D σ h)(l:lk D n=some a)(f:∀b o,b≠a→h.get? b=some o→h'.get? b=some o)(A:vC h' a)
  (B:iP D (Yf F X D) h' a c):
  iZ F X D {σ with cells:=kX n c σ.cells} h'∧oU F D h D h':=by
 obtain ⟨y,N,C,O,P⟩:=m.sep n a l;have r:∀b o,h.get? b=some o→vC h' b:=fun b o e=>by
  by_cases q:b=a
  ·subst q;exact A
  ·exact ⟨o,f b o q e⟩
 have st:oU F D h D h':=⟨fun b o e _ g=>f b o (fun q=>g n (q▸l)) e,fun _ _ e=>e,fun _ _ e=>.inl e,r⟩;have z:∀d v,gG D (Yf F X D) h d v→gG D (Yf F X D) h' d v:=fun d v=>gG.on m st;refine ⟨⟨fun b o e=>f b o (fun q=>by replace e:=q▸e;replace e:=C▸e;cases e) (m.base b o e),fun x v e=>?_,fun x p s e=>?_,fun i G e=>?_,m.inj,fun i b e=>?_,fun b e=>?_,fun b e=>?_⟩,st⟩
 ·obtain ⟨p,s,u,j,t,H⟩:=m.loc x v e;exact ⟨p,s,u,j,t.keep fun o=>f _ o (fun q=>y (q▸fk.inZ x p s j)),z _ _ H⟩
 ·exact (m.frm x p s e).keep fun o=>f _ o (fun q=>y (q▸fk.inZ x p s e))
 ·rw [iU]at e;by_cases g:i=n
  ·replace e:=(if_pos g)▸e;cases e;subst g;exact ⟨a,l,B⟩
  ·replace e:=(if_neg g)▸e;obtain ⟨b,j,t⟩:=m.cel i G e;exact ⟨b,j,t.on z (fun d v=>bO.on m st) fun o=>f _ o (fun q=>g (m.inj i n a (q▸j) l))⟩
 ·obtain ⟨a1,k,I,⟨o,J⟩,L⟩:=m.sep i b e;exact ⟨a1,k,I,r b o J,L⟩
 ·obtain ⟨a1,o,k⟩:=m.zfr b e;exact ⟨a1,r b o k⟩
 ·obtain ⟨o,k⟩:=m.xal b e;exact r b o k
theorem iZ.store{F:Fx}{X:iB}{D:lQ}{σ:St}{h h':dT}{x:Nat}{p:vA}{s:jY}{v:V}{u:bM}(fk:iL F)(m:iZ F X D σ h)(hx:lk F.bnd x=some (p,s))(g:∀b o,b≠p.adr→h.get? b=some o→h'.get? b=some o)
  (i:Holds h' p s u) (Q:∀a k,a≠s→(∃L,p=.loc L)→Holds h p a k→Holds h' p a k) (z:gG D (Yf F X D) h v u):
  iZ F X D {σ with loc:=kX x v σ.loc} h'∧oU F D h D h':=by
 have A:=fk.inZ x p s hx;obtain ⟨J,B⟩:=m.zfr _ A;have N:uD h' p:=by
  clear B
  cases p with
  |loc L=>obtain ⟨O,e,_⟩:=i;exact ⟨O,e⟩
  |cel c=>exact ⟨_,i⟩
 have r:∀b o,h.get? b=some o→vC h' b:=fun b o e=>by
  by_cases q:b=p.adr
  ·subst q;clear B
   cases p with
   |loc L=>obtain ⟨O,⟨C,_,_,R,_⟩,_⟩:=i;exact ⟨C,R⟩
   |cel c=>obtain ⟨C,f,_⟩:=i;exact ⟨C,f⟩
  ·exact ⟨o,g b o q e⟩
 have st:oU F D h D h':=⟨fun b o e T _=>g b o (fun q=>T (q▸A)) e,fun _ _ e=>e,fun _ _ e=>.inl e,r⟩;have G:∀d v,gG D (Yf F X D) h d v→gG D (Yf F X D) h' d v:=fun d v=>gG.on m st;refine ⟨⟨fun b o e=>g b o (fun q=>by replace e:=q▸e;replace e:=J▸e;cases e) (m.base b o e),fun y w e=>?_,fun y j a e=>?_,fun n c e=>?_,m.inj,fun n b e=>?_,fun b e=>?_,fun b e=>?_⟩,st⟩
 ·rw [iU]at e;by_cases hy:y=x
  ·replace e:=(if_pos hy)▸e;cases e;exact ⟨p,s,u,hy▸hx,i,G _ _ z⟩
  ·replace e:=(if_neg hy)▸e;clear i J B;obtain ⟨j,a,k,f,t,W⟩:=m.loc y w e;refine ⟨j,a,k,f,?_,G _ _ W⟩;rcases fk.dist y x j a p s f hx hy with q|⟨L,H,I,P⟩
   ·exact t.keep fun o=>g _ o q
   ·subst H;subst I;exact Q a k P ⟨L,rfl⟩ t
 ·by_cases q:j.adr=p.adr
  ·by_cases hy:y=x
   ·subst hy;replace hx:=e▸hx;cases hx;exact N
   ·rcases fk.dist y x j a p s e hx hy with Z|⟨L,H,I,P⟩
    ·exact absurd q Z
    ·refine H▸?_;refine I▸?_;exact N
  ·exact (m.frm y j a e).keep fun o=>g _ o q
 ·obtain ⟨b,f,t⟩:=m.cel n c e;exact ⟨b,f,t.on G (fun d v=>bO.on m st) fun o=>g _ o (fun q=>(m.sep n b f).z (q▸A))⟩
 ·obtain ⟨a1,l,a3,⟨o,a4⟩,a5⟩:=m.sep n b e;exact ⟨a1,l,a3,r b o a4,a5⟩
 ·obtain ⟨a1,o,l⟩:=m.zfr b e;exact ⟨a1,r b o l⟩
 ·obtain ⟨o,l⟩:=m.xal b e;exact r b o l
section
variable{D D':lQ}{Y Y':iB}{h h':dT}
mutual
theorem gG.stepP(f:∀b o,h.get? b=some o→¬Y b→h'.get? b=some o)(g:∀a,Y' a→Y a∨h.get? a=aF):
  ∀(d:V)(v:bM),d.pure=true→gG D Y h d v→gG D' Y' h' d v
 |.none,v,_,x=>x
 |.bool _,v,_,x=>x
 |.int _,v,_,x=>x
 |.str _,v,_,x=>x
 |.fn _,v,_,x=>x
 |.tup l,v,p,x=>by obtain ⟨a,xs,rfl,c,⟨k,e⟩,y⟩:=x;exact ⟨a,xs,rfl,uU g e c,⟨k,f a _ e c⟩,bO.stepP f g l xs p y⟩
 |.lst l,v,p,x=>by obtain ⟨a,xs,rfl,c,⟨k,e⟩,y⟩:=x;exact ⟨a,xs,rfl,uU g e c,⟨k,f a _ e c⟩,bO.stepP f g l xs p y⟩
 |.scr l,v,p,x=>by obtain ⟨a,xs,rfl,c,⟨o,e,r⟩,y⟩:=x;exact ⟨a,xs,rfl,uU g e c,⟨o,f a o e c,r⟩,bO.stepP f g l xs p y⟩
 |.mt l,v,p,x=>by obtain ⟨a,xs,rfl,c,⟨o,e,r⟩,y⟩:=x;exact ⟨a,xs,rfl,uU g e c,⟨o,f a o e c,r⟩,bO.stepP f g l xs p y⟩
 |.dct ks vs,v,p,x=>by obtain ⟨a,xs,rfl,c,z,y⟩:=x;obtain ⟨o,e⟩:=z.lt;exact ⟨a,xs,rfl,uU g e c,z.keep fun i j=>f a i j c,bO.stepP f g vs xs p y⟩
 |.set0,v,_,x=>by obtain ⟨a,rfl,c,m,e⟩:=x;exact ⟨a,rfl,uU g e c,m,f a _ e c⟩
 |.ref n,v,p,x=>by cases p
 |.inst n,v,p,x=>by cases p
 |.bm id s,v,p,x=>by obtain ⟨a,u,rfl,c,⟨o,e,r⟩,y⟩:=x;exact ⟨a,u,rfl,uU g e c,⟨o,f a o e c,r⟩,gG.stepP f g s u p y⟩
theorem bO.stepP(c:∀b o,h.get? b=some o→¬Y b→h'.get? b=some o)(e:∀a,Y' a→Y a∨h.get? a=aF):
  ∀(l:bV)(xs:fZ),cS l=true→bO D Y h l xs→bO D' Y' h' l xs
 |[],xs,_,x=>x
 |d::l,xs,p,x=>by simp only [cP,cO,fU]at p;obtain ⟨u,r,rfl,y,z⟩:=x;exact ⟨u,r,rfl,gG.stepP c e d u p.1 y,bO.stepP c e l r p.2 z⟩
end
end
structure B7(F:Fx)(k:Nat)(D:lQ)(h:dT)(D':lQ)(h':dT):Prop where
 keep:∀b o,h.get? b=some o→b∉F.Z→(∀n,lk D n≠some b)→h'.get? b=some o
 ext:∀n a,n<k→lk D n=some a→lk D' n=some a
 new:∀n a,lk D' n=some a→lk D n=some a∨h.get? a=aF
 al:∀b o,h.get? b=some o→vC h' b
theorem oU.toK{F:Fx}{D D':lQ}{h h':dT}(x:oU F D h D' h')(k:Nat):B7 F k D h D' h':=⟨x.keep,fun n a _=>x.ext n a,x.new,x.al⟩
theorem B7.trans{F:Fx}{k:Nat}{D D₁ D₂:lQ}{h h₁ f:dT}(x:B7 F k D h D₁ h₁)(y:B7 F k D₁ h₁ D₂ f):B7 F k D h D₂ f:=by
 refine ⟨fun b o e g i=>?_,fun n a j e=>y.ext n a j (x.ext n a j e),fun n a e=>?_,fun b o e=>let ⟨c,d⟩:=x.al b o e;y.al b c d⟩
 ·refine y.keep b o (x.keep b o e g i) g fun n d=>?_;rcases x.new n b d with q|q
  ·exact i n q
  ·replace q:=e▸q;cases q
 ·rcases y.new n a e with q|q
  ·exact x.new n a q
  ·refine .inr ?_
   cases l:h.get? a with
   |none=>rfl
   |some c=>obtain ⟨o,m⟩:=x.al a c l;replace q:=m▸q;cases q
theorem gG.onK{F:Fx}{X:iB}{k:Nat}{D D':lQ}{h h':dT}{d:V}{v:bM}(x:B7 F k D h D' h')(p:d.pure=true)(r:gG D (Yf F X D) h d v):gG D' (Yf F X D') h' d v:=by
 refine gG.stepP (fun b o e c=>x.keep b o e (fun q=>c (.inl q)) fun n q=>c (.inr (.inr ⟨n,q⟩))) (fun a f=>?_) d v p r;rcases f with q|q|⟨n,q⟩
 ·exact .inl (.inl q)
 ·exact .inl (.inr (.inl q))
 ·rcases x.new n a q with q|q
  ·exact .inl (.inr (.inr ⟨n,q⟩))
  ·exact .inr q
theorem bO.onK{F:Fx}{X:iB}{k:Nat}{D D':lQ}{h h':dT}{d:bV}{v:fZ}(x:B7 F k D h D' h')(p:cS d=true)(r:bO D (Yf F X D) h d v):bO D' (Yf F X D') h' d v:=by
 refine bO.stepP (fun b o e c=>x.keep b o e (fun q=>c (.inl q)) fun n q=>c (.inr (.inr ⟨n,q⟩))) (fun a f=>?_) d v p r;rcases f with q|q|⟨n,q⟩
 ·exact .inl (.inl q)
 ·exact .inl (.inr (.inl q))
 ·rcases x.new n a q with q|q
  ·exact .inl (.inr (.inr ⟨n,q⟩))
  ·exact .inr q
def Wk(k:Nat)(σ σ':St):Prop:=∀(F:Fx)(X:iB)(D:lQ)(h:dT),iL F→iZ F X D σ h→
 ∃D',iZ F X D' σ' h∧(∀n a,n<k→lk D n=some a→lk D' n=some a)∧∀n a,lk D' n=some a→lk D n=some a
theorem Wk.refl{k:Nat}{σ:St}:Wk k σ σ:=fun _ _ D _ _ m=>⟨D,m,fun _ _ _ e=>e,fun _ _ e=>e⟩
theorem Wk.trans{k:Nat}{σ σ' d:St}(x:Wk k σ σ')(y:Wk k σ' d):Wk k σ d:=fun F X D h fk m=>by refine nn fun g=>?_;replace m:=x F X D h fk m;obtain ⟨D',m',a,b⟩:=m;obtain ⟨D'',i,j,b'⟩:=y F X D' h fk m';refine g ?_;exact ⟨D'',i,fun n c f e=>j n c f (a n c f e),fun n c e=>b n c (b' n c e)⟩
theorem iZ.dropX{F:Fx}{X X':iB}{D:lQ}{σ:St}{h:dT}(m:iZ F X D σ h)(b:∀a,X' a→X a):iZ F X' D σ h:=by
 have i:∀a,Yf F X' D a→Yf F X D a∨h.get? a=aF:=fun a e=>by
  rcases e with q|q|q
  ·exact .inl (.inl q)
  ·exact .inl (.inr (.inl (b a q)))
  ·exact .inl (.inr (.inr q))
 have j:∀d v,gG D (Yf F X D) h d v→gG D (Yf F X' D) h d v:=fun d v=>gG.step (fun _ _ e _=>e) (fun _ _ e=>e) i d v;exact ⟨m.base,fun x v e=>let ⟨p,s,u,f,g,k⟩:=m.loc x v e;⟨p,s,u,f,g,j _ _ k⟩,m.frm,fun n c e=>let ⟨a,f,g⟩:=m.cel n c e;⟨a,f,g.on j (fun d v=>bO.step (fun _ _ e _=>e) (fun _ _ e=>e) i d v) fun _ e=>e⟩,m.inj,
  fun n a e=>let ⟨a1,l,o,r,t⟩:=m.sep n a e;⟨a1,fun q=>l (b a q),o,r,t⟩,m.zfr,fun a e=>m.xal a (b a e)⟩
theorem iZ.addX{F:Fx}{X:iB}{N:List dF}{D:lQ}{σ:St}{h h':dT}(m:iZ F X D σ h)(f:∀b o,h.get? b=some o→h'.get? b=some o)(i:∀a∈N,h.get? a=aF∧vC h' a):iZ F (iW N X) D σ h':=by
 have r:∀a,Yf F (iW N X) D a→Yf F X D a∨h.get? a=aF:=fun a e=>by
  rcases e with q|q|q
  ·exact .inl (.inl q)
  ·rcases q with q|q
   ·exact .inr (i a q).1
   ·exact .inl (.inr (.inl q))
  ·exact .inl (.inr (.inr q))
 have t:∀d v,gG D (Yf F X D) h d v→gG D (Yf F (iW N X) D) h' d v:=fun d v=>gG.step (fun b o e _=>f b o e) (fun _ _ e=>e) r d v;refine ⟨fun b o e=>f b o (m.base b o e),fun x v e=>let ⟨p,s,u,j,k,y⟩:=m.loc x v e;⟨p,s,u,j,k.keep fun o=>f _ o,t _ _ y⟩,fun x p s e=>(m.frm x p s e).keep fun o=>f _ o,
  fun n c e=>let ⟨a,j,k⟩:=m.cel n c e;⟨a,j,k.on t (fun d v=>bO.step (fun b o e _=>f b o e) (fun _ _ e=>e) r d v) fun o=>f _ o⟩,m.inj,fun n a e=>?_,fun a e=>let ⟨a1,o,l⟩:=m.zfr a e;⟨a1,o,f _ _ l⟩,fun a e=>?_⟩
 ·obtain ⟨a1,l,z,⟨o,g⟩,A⟩:=m.sep n a e;refine ⟨a1,fun q=>?_,z,⟨o,f _ _ g⟩,A⟩;rcases q with q|q
  ·replace g:=((i a q).1)▸g;cases g
  ·exact l q
 ·rcases e with q|q
  ·exact (i a q).2
  ·obtain ⟨o,B⟩:=m.xal a q;exact ⟨o,f _ _ B⟩
theorem iZ.turnX{F:Fx}{X:iB}{N:List dF}{D:lQ}{σ:St}{h h':dT}(fk:iL F)(m:iZ F X D σ h)(j:∀a∈N,X a)(r:∀a∈N,a∉F.Z)(y:∀a∈N,S.heap.get? a=aF)(f:∀b o,b∉N→h.get? b=some o→h'.get? b=some o)(z:∀b∈N,vC h' b):
  iZ F X D σ h':=by
 have t:∀d v,gG D (Yf F X D) h d v→gG D (Yf F X D) h' d v:=fun d v=>gG.step (fun b o e k=>f b o (fun q=>k (.inr (.inl (j b q)))) e) (fun _ _ e=>e) (fun _ e=>.inl e) d v;have al:∀b o,h.get? b=some o→vC h' b:=fun b o e=>by
  by_cases q:b∈N
  ·exact z b q
  ·exact ⟨o,f b o q e⟩
 refine ⟨fun b o e=>f b o (fun q=>by replace e:=(y b q)▸e;cases e) (m.base b o e),fun x v e=>?_,fun x p s e=>(m.frm x p s e).keep fun o=>f _ o (fun q=>r _ q (fk.inZ x p s e)),fun n c e=>?_,m.inj,fun n a e=>?_,fun a e=>?_,fun a e=>?_⟩
 ·obtain ⟨p,s,u,g,l,A⟩:=m.loc x v e;exact ⟨p,s,u,g,l.keep fun o=>f _ o (fun q=>r _ q (fk.inZ x p s g)),t _ _ A⟩
 ·obtain ⟨a,g,l⟩:=m.cel n c e;exact ⟨a,g,l.on t (fun d v=>bO.step (fun b o e k=>f b o (fun q=>k (.inr (.inl (j b q)))) e) (fun _ _ e=>e) (fun _ e=>.inl e) d v) fun o=>f _ o (fun q=>(m.sep n a g).x (j a q))⟩
 ·obtain ⟨a1,i,B,⟨o,C⟩,G⟩:=m.sep n a e;exact ⟨a1,i,B,al a o C,G⟩
 ·obtain ⟨a1,o,i⟩:=m.zfr a e;exact ⟨a1,al a o i⟩
 ·obtain ⟨o,i⟩:=m.xal a e;exact al a o i
end
noncomputable abbrev iS:=St→Prop
noncomputable abbrev jK(h:dT)(tk:Nat):dE:={S with heap:=h,toks:=tk}
structure wD(n:Nat)(A:kS):Prop where
 hd:A.handled=aF
 dep:A.depth+2*n<recursionLimit
 uni:A.units+10*n+100<cLine
theorem wD.in1(h:wD n A)(a:0<n):wD (n-1) A.in1:=⟨h.hd,by have:=h.dep;simp only [ų];exact aS 0x942528a86880346128688074614cc7003 this,by have:=h.uni;simp only [Gr];exact aS 0x2002000140229150d1ce1d10068e838943473874403a3894134cc7003 a this⟩
theorem wD.mono(h:wD n A)(a:k≤n):wD k A:=⟨h.hd,by have:=h.dep;exact aS 0x12945434401a309434403a30921004 a this,by have:=h.uni;exact aS 0x508a4543473874401a38943473874403a38921004 a this⟩
inductive Fl where
 |next|brk|cont
 |ret (v:V)
abbrev RT(α β:Type):=lQ→iB→dT→β→α→Prop
def rV:RT bM V:=fun D Y h d v=>gG D Y h d v
def rVs:RT fZ bV:=fun D Y h d v=>bO D Y h d v
def rB:RT Bool Bool:=fun _ _ _ b c=>b=c
def rU:RT Unit Unit:=fun _ _ _ _ _=>True
inductive J8(D:lQ)(Y:iB)(h:dT):Fl→Flow→Prop
 |next:J8 D Y h .next .next
 |brk:J8 D Y h .brk .brk
 |cont:J8 D Y h .cont .cont
 |ret {v:V} {u:bM} (r:gG D Y h v u):J8 D Y h (.ret v) (.ret u)
abbrev rF:RT Flow Fl:=J8
inductive uC{α β:Type}(R:RT α β)(F:Fx)(X:iB)(D:lQ)(h:dT)(Q:β→iS)(a:α)(s':dE):Prop
 |mk (h':dT) (ap:Nat) (D':lQ) (σ':St) (b:β) (e:s'=jK h' ap) (st:oU F D h D' h') (m:iZ F X D' σ' h') (r:R D' (Yf F X D') h' b a) (q:Q b σ'):uC R F X D h Q a s'
theorem uC.on{α β:Type}{R:RT α β}{X:iB}{Q:β→iS}{a:α}{c:dE}(st:oU F D h D₁ h₁)(p:uC R F X D₁ h₁ Q a c):uC R F X D h Q a c:=by obtain ⟨h',d,D',σ',b,e,f,m',r,q⟩:=p;exact ⟨h',d,D',σ',b,e,st.trans f,m',r,q⟩
section
def TW{α β:Type}(R:RT α β)(n:Nat)(F:Fx)(ds:bV)(t:fZ→E1 α)(σ:St)(Q:β→iS):Prop:=
 ∀A X D h tk vs,wD n A→iZ F X D σ h→bO D (Yf F X D) h ds vs→bT (model prog w) A (t vs) (uC R F X D h Q) (fun _ _=>False) (jK h tk)
abbrev EW(n:Nat)(F:Fx)(e:Expr)(σ:St)(Q:V→iS):Prop:=TW rV n F [] (fun _=>eval e F.env) σ Q
abbrev BW(n:Nat)(F:Fx)(e:Expr)(σ:St)(Q:Bool→iS):Prop:=TW rB n F [] (fun _=>isTrue e F.env (eval e F.env)) σ Q
end
section
variable{n:Nat}{F:Fx}{σ:St}{α β γ δ:Type}{R:RT α β}{R':RT γ δ}{ds:bV}
theorem TW.mono{t:fZ→E1 α}{Q Q':β→iS}(x:TW R n F ds t σ Q)(h:∀b σ',Q b σ'→Q' b σ'):TW R n F ds t σ Q':=by intro A X D c tk vs ok m r;refine bL (x A X D c tk vs ok m r) (fun a g p=>?_) fun _ _ e=>e;obtain ⟨h',d,D',σ',b,e,st,m',f,q⟩:=p;exact ⟨h',d,D',σ',b,e,st,m',f,h b σ' q⟩
theorem TW.at{t:fZ→E1 α}{Q:β→iS}{X:iB}{K:α→tU}(x:TW R n F ds t σ Q)(ok:wD n A)(m:iZ F X D σ h)(r:bO D (Yf F X D) h ds vs)
  (k:∀a h₁ c D₁ σ₁ b,oU F D h D₁ h₁→iZ F X D₁ σ₁ h₁→R D₁ (Yf F X D₁) h₁ b a→Q b σ₁→K a (jK h₁ c)):bT (model prog w) A (t vs) K (fun _ _=>False) (jK h tk):=by
 refine bL (x A X D h tk vs ok m r) (fun a g p=>?_) fun _ _ e=>e;obtain ⟨h',d,D',σ',b,rfl,st,m',f,q⟩:=p;exact k a h' d D' σ' b st m' f q
theorem TW.bind{t:fZ→E1 α}{k:α→fZ→E1 γ}{Q:δ→iS}{K:β→iS}(x:TW R n F ds t σ K)
  (y:∀b σ₁,K b σ₁→∀A X D h tk vs a,wD n A→iZ F X D σ₁ h→bO D (Yf F X D) h ds vs→R D (Yf F X D) h b a→bT (model prog w) A (k a vs) (uC R' F X D h Q) (fun _ _=>False) (jK h tk)):
  TW R' n F ds (fun vs=>t vs>>=fun a=>k a vs) σ Q:=by
 intro A X D h tk vs ok m r;refine aH (x.at ok m r fun a h₁ d D₁ σ₁ b st f g q=>?_);exact bL (y b σ₁ q A X D₁ h₁ d vs a ok f (r.on m st) g) (fun c i p=>p.on st) fun _ _ e=>e
theorem TW.pure{a:fZ→α}{Q:β→iS}(c:∀D Y h vs,bO D Y h ds vs→R D Y h b (a vs))(q:Q b σ):TW R n F ds (fun vs=>Tn (a vs)) σ Q:=by intro A X D h tk vs ok m r;exact aW ⟨h,tk,D,σ,b,rfl,.refl,m,c _ _ _ _ r,q⟩
theorem aHq{Q:V→iS}(q:Q (.int i) σ):EW n F (.Constant (.int i) k a) σ Q:=by intro A X D h tk vs ok m r;exact wpAny_Constant_int ⟨h,tk+1,D,σ,.int i,rfl,.refl,m,⟨_,rfl⟩,q⟩
theorem aHo{Q:V→iS}(q:Q (.str x) σ):EW n F (.Constant (.str x) k a) σ Q:=by intro A X D h tk vs ok m r;exact wpAny_Constant_str ⟨h,tk+1,D,σ,.str x,rfl,.refl,m,⟨_,rfl⟩,q⟩
theorem aBx{Q:V→iS}(q:Q .none σ):EW n F (.Constant .none k a) σ Q:=by intro A X D h tk vs ok m r;exact wpAny_Constant_none ⟨h,tk,D,σ,.none,rfl,.refl,m,rfl,q⟩
theorem aBz{Q:V→iS}(q:Q (.bool b) σ):EW n F (.Constant (.bool b) k a) σ Q:=by intro A X D h tk vs ok m r;exact wpAny_Constant_bool ⟨h,tk,D,σ,.bool b,rfl,.refl,m,rfl,q⟩
def Ŗ(env:Env):vA→jY→Prop
 |.loc L,s=>env.locals=L∧env.kindOf s=some .local
 |.cel c,s=>env.kindOf s=some .cell∧env.cells.lookup s=some c
theorem Uz{X:iB}{K:rX}(fk:iL F)(m:iZ F X D σ h)(f:lk σ.loc x=some v)(g:lk F.bnd x=some (p,s))(a:Ŗ F.env p s)
  (k:∀u,gG D (Yf F X D) h v u→K u (jK h tk)):bT (model prog w) A (loadName F.env s) K (fun _ _=>False) (jK h tk):=by
 obtain ⟨o,r,u,b,d,e⟩:=m.loc x v f;rw [g]at b;cases b
 cases p with
 |loc L=>obtain ⟨t,i,j⟩:=d;obtain ⟨rfl,l⟩:=a;exact wpAny_loadName_local fk.kind l i j (k u e)
 |cel c=>exact wpAny_loadName_cell fk.kind a.1 a.2 d (k u e)
theorem aHm{Q:V→iS}(fk:iL F)(a:lk σ.loc x=some v)(b:lk F.bnd x=some (p,s))(c:Ŗ F.env p s)(hd:(s== ("__debug__":jY))=false)(q:Q v σ):
  EW n F (.Name s e) σ Q:=by
 intro A X D h tk vs ok m r;exact wpAny_Name (Uz fk m a b c fun u d=>⟨h,tk,D,σ,v,rfl,.refl,m,d,q⟩) hd
theorem Cn{X:iB}{K:Unit→tU}(fk:iL F)(m:iZ F X D σ h)(f:lk F.bnd x=some (p,s))(g:Ŗ F.env p s)(r:gG D (Yf F X D) h v u)
  (k:∀h' G,iZ F X D {σ with loc:=kX x v σ.loc} h'→oU F D h D h'→K () (jK h' G)):bT (model prog w) A (storeName F.env s u) K (fun _ _=>False) (jK h tk):=by
 have t:=m.frm x p s f
 cases p with
 |loc L=>
  obtain ⟨rfl,H⟩:=g;obtain ⟨mm,y⟩:=t;refine wpAny_storeName_local H y (fun h' z i=>?_) (by rw [fk.kind];rfl);have I:∀a d,a≠s→(∃L,vA.loc F.env.locals=.loc L)→Holds h (.loc F.env.locals) a d→Holds h' (.loc F.env.locals) a d:=fun a d B _ e=>by
   obtain ⟨m2,j,J⟩:=e;refine ⟨_,z,?_⟩;rw [if_neg B];obtain ⟨o,es,ep,N,hd,n8,O⟩:=y;obtain ⟨P,Q,r9,T,C,W,Y⟩:=j;have:o=P:=by have:=N.symm.trans T;cases this;rfl
   subst this;have:es=Q:=by rw [hd]at C;cases C;rfl
   subst this;rw [←O a,Y a];exact J
  obtain ⟨m',st⟩:=iZ.store fk m f (fun b o l e=>(i.2 b l).trans e) ⟨_,z,by simp⟩ I r;exact k h' _ m' st
 |cel c=>obtain ⟨uu,Z⟩:=t;refine wpAny_storeName_cell fk.kind g.1 g.2 Z (fun h' jk i=>?_);obtain ⟨m',st⟩:=iZ.store fk m f (fun b o l e=>(i.2 b l).trans e) jk (fun a d B ⟨L,e⟩ _=>by cases e) r;exact k h' _ m' st
end
section
set_option backward.match.sparseCases false
inductive uZ{α β:Type}(R:RT α β)(F:Fx)(X:iB)(k:Nat)(D:lQ)(h:dT)(Q:β→iS)(a:α)(s':dE):Prop
 |mk (h':dT) (ap:Nat) (D':lQ) (σ':St) (b:β) (e:s'=jK h' ap) (st:B7 F k D h D' h') (m:iZ F X D' σ' h') (r:R D' (Yf F X D') h' b a) (q:Q b σ'):uZ R F X k D h Q a s'
theorem uZ.on{c d:Type}{R:RT c d}{X:iB}{Q:d→iS}{a:c}{f:dE}(st:B7 F k D h D₁ h₁)(p:uZ R F X k D₁ h₁ Q a f):uZ R F X k D h Q a f:=by obtain ⟨h',g,D',σ',b,e,i,m',r,q⟩:=p;exact ⟨h',g,D',σ',b,e,st.trans i,m',r,q⟩
section
def SW(k n:Nat)(F:Fx)(b:List vD)(σ:St)(Q:Fl→iS):Prop:=
 ∀A X D h tk,wD n A→iZ F X D σ h→bT (model prog w) A (execs b F.env) (uZ rF F X k D h Q) (fun _ _=>False) (jK h tk)
def XW(k n:Nat)(F:Fx)(b:vD)(σ:St)(Q:Fl→iS):Prop:=
 ∀A X D h tk,wD n A→iZ F X D σ h→bT (model prog w) A (exec b F.env) (uZ rF F X k D h Q) (fun _ _=>False) (jK h tk)
def GW(n:Nat)(F:Fx)(t:Expr)(v:V)(σ:St)(Q:iS):Prop:=
 ∀A X D h tk u,wD n A→iZ F X D σ h→gG D (Yf F X D) h v u→bT (model prog w) A (assign t F.env u) (uC rU F X D h fun _=>Q) (fun _ _=>False) (jK h tk)
end
section
variable{k n:Nat}{F:Fx}{σ:St}{Q:Fl→iS}
theorem zJ(q:Q .next σ):SW k n F [] σ Q:=fun A X D h tk ok m=>
 xG ⟨h,tk,D,σ,.next,rfl,oU.refl.toK k,m,J8.next,q⟩
theorem gX{st:vD}{rest:List vD}(x:XW k n F st σ fun f σ'=>match f with|.next=>SW k n F rest σ' Q|f=>Q f σ'):SW k n F (st::rest) σ Q:=fun A X D h tk ok m=>by
 refine wpAny_execs_cons (bL (x A X D h tk ok m) (fun f d p=>?_) fun _ _ e=>e);obtain ⟨h',a,D',σ',b,rfl,c,m',r,q⟩:=p;cases r
 ·exact bL (q A X D' h' a ok m') (fun _ _ p=>p.on c) fun _ _ e=>e
 ·exact ⟨h',a,D',σ',.brk,rfl,c,m',.brk,q⟩
 ·exact ⟨h',a,D',σ',.cont,rfl,c,m',.cont,q⟩
 ·exact ⟨h',a,D',σ',.ret _,rfl,c,m',.ret ‹_›,q⟩
theorem jC{Q':Fl→iS}(x:SW k n F b σ Q)(y:∀f σ',Q f σ'→Q' f σ'):SW k n F b σ Q':=fun A X D h tk ok m=>by refine bL (x A X D h tk ok m) (fun f d p=>?_) fun _ _ e=>e;obtain ⟨h',a,D',σ',b,e,c,m',r,q⟩:=p;exact ⟨h',a,D',σ',b,e,c,m',r,y _ _ q⟩
theorem T5(fk:iL F)(x:Wk k σ σ')(y:SW k n F b σ' Q):SW k n F b σ Q:=fun A X D h tk ok m=>by refine nn fun c=>?_;obtain ⟨D',m',d,g⟩:=x F X D h fk m;refine c ?_;refine bL (y A X D' h tk ok m') (fun f i p=>p.on ⟨fun _ _ e _ _=>e,d,fun n a e=>.inl (g n a e),fun _ o e=>⟨o,e⟩⟩) fun _ _ e=>e
theorem aE9(fk:iL F)(i:lk σ.loc x=some old)(f:lk F.bnd x=some (p,s))(g:Ŗ F.env p s)
  (y:EW n F e σ fun v σ₁=>TW rV n F [old,v] (fun vs=>match vs with|[a,b]=>inplaceOp j a b|_=>pure .none) σ₁ fun r d=>Q .next {d with loc:=kX x r d.loc}):XW k n F (.AugAssign (.Name s pos') j e J) σ Q:=fun A X D h tk ok m=>by
 refine wpAny_AugAssign_Name (Uz fk m i f g fun u l=>?_);refine y.at ok m bO.nil fun a h₁ L D₁ σ₁ v st o r q=>?_;refine q.at ok o (.cons (l.on m st) (.cons r .nil)) fun c N O D₂ d t z B C G=>?_;refine Cn fk B f g C fun h' H m' I=>?_;exact ⟨h',H,D₂,_,.next,rfl,((st.trans z).trans I).toK k,m',J8.next,G⟩
theorem Tq(y:BW n F test σ fun b σ₁=>if b=true then SW k n F body σ₁ Q else SW k n F orelse σ₁ Q):XW k n F (.If test body orelse d) σ Q:=fun A X D h tk ok m=>by
 refine wpAny_If (y.at ok m bO.nil fun b h₁ a D₁ σ₁ b' st c r q=>?_);obtain rfl:b'=b:=r;cases b'
 ·exact bL (q A X D₁ h₁ a ok c) (fun _ _ p=>p.on (st.toK k)) fun _ _ e=>e
 ·exact bL (q A X D₁ h₁ a ok c) (fun _ _ p=>p.on (st.toK k)) fun _ _ e=>e
theorem aE8(y:EW n F e σ fun v σ₁=>Q (.ret v) σ₁):XW k n F (.Return (some e) d) σ Q:=fun A X D h tk ok m=>
 wpAny_Return_some (y.at ok m bO.nil fun a h₁ b D₁ σ₁ v st c r q=>⟨h₁,b,D₁,σ₁,.ret v,rfl,st.toK k,c,.ret r,q⟩)
theorem Lo(q:Q (.ret .none) σ):XW k n F (.Return none a) σ Q:=fun A X D h tk ok m=>
 wpAny_Return_none ⟨h,tk,D,σ,.ret .none,rfl,oU.refl.toK k,m,.ret rfl,q⟩
theorem Zd(q:Q .brk σ):XW k n F (.Break a) σ Q:=fun A X D h tk ok m=>wpAny_Break ⟨h,tk,D,σ,.brk,rfl,oU.refl.toK k,m,J8.brk,q⟩
theorem Ŵ(q:Q .cont σ):XW k n F (.Continue a) σ Q:=fun A X D h tk ok m=>wpAny_Continue ⟨h,tk,D,σ,.cont,rfl,oU.refl.toK k,m,J8.cont,q⟩
theorem Cg(hi:interactive F.env=false)(f:swapsWith e none g.line F.env=pure false)(y:EW n F e σ fun v σ₁=>(v=.none∨∃x,v=.str x)∧Q .next σ₁):XW k n F (.Expr e g) σ Q:=fun A X D h tk ok m=>by
 refine wpAny_Expr (y.at ok m bO.nil fun a h₁ b D₁ σ₁ v st c r q=>?_) hi f;obtain ⟨i,d⟩:=q;rcases i with rfl|⟨x,rfl⟩
 ·subst r;exact ⟨h₁,b,D₁,σ₁,.next,rfl,st.toK k,c,J8.next,d⟩
 ·obtain ⟨t,rfl⟩:=r;exact ⟨h₁,b,D₁,σ₁,.next,rfl,st.toK k,c,J8.next,d⟩
inductive aId(F:Fx)(X:iB)(k:Nat)(D:lQ)(h:dT)(I:Nat→iS)(i:Nat)(s':dE):Prop
 |mk (h':dT) (ap:Nat) (D':lQ) (σ':St) (e:s'=jK h' ap) (st:B7 F k D h D' h') (m:iZ F X D' σ' h') (hI:I i σ'):aId F X k D h I i s'
theorem Za(fk:iL F)(I:Nat→iS)(j:Nat)(H:I j σ)
  (J:∀i σ',I i σ'→BW n F test σ' fun b σ₁=>if b=true then SW k n F body σ₁ (fun f l=>match f with
    |.next=>∃c d,c<i∧Wk k l d∧I c d
    |.cont=>∃c d,c<i∧Wk k l d∧I c d
    |.brk=>Q .next l
    |.ret v=>Q (.ret v) l)else Q .next σ₁):XW k n F (.While test body [] ak) σ Q:=fun A X D h tk ok m=>by
 refine wpAny_While (codeAny_whileLoop (aId F X k D h I) (fun i s' L=>?_) j ⟨h,tk,D,σ,rfl,oU.refl.toK k,m,H⟩);obtain ⟨h',ap,D',σ',rfl,z,m',N⟩:=L;refine bL ((J i σ' N).at ok m' bO.nil fun b h₁ B D₁ σ₁ b' st C r q=>?_) (fun _ _ x=>x) fun _ _ x=>x.elim;obtain rfl:b'=b:=r;cases b'
 ·exact xG ⟨h₁,B,D₁,σ₁,.next,rfl,z.trans (st.toK k),C,J8.next,q⟩
 ·dsimp only [if_true]at q⊢;refine bL (q A X D₁ h₁ B ok C) (fun f se p=>?_) fun _ _ x=>x.elim;obtain ⟨g,s,D₃,d,f',rfl,O,y,P,t⟩:=p;have st4:=(z.trans (st.toK k)).trans O;have again:(∃c u,c<i∧Wk k d u∧I c u)→∃G,G<i∧aId F X k D h I G (jK g s):=by rintro ⟨c,u,lt,R,T⟩;refine nn fun W=>?_;obtain ⟨D₄,Y,Z,e2⟩:=R F X D₃ g fk y;refine W ?_;exact ⟨c,lt,g,s,D₄,u,rfl,st4.trans ⟨fun _ _ e _ _=>e,Z,fun n a e=>.inl (e2 n a e),fun _ o e=>⟨o,e⟩⟩,Y,T⟩
  cases P
  ·exact again t
  ·exact ⟨g,s,D₃,d,.next,rfl,st4,y,J8.next,t⟩
  ·exact again t
  ·exact ⟨g,s,D₃,d,.ret _,rfl,st4,y,.ret ‹_›,t⟩
end
end
section
set_option backward.match.sparseCases false
def one{α:Type}[Inhabited α](t:bM→E1 α):fZ→E1 α
 |[a]=>t a
 |_=>Tn default
def two(t:bM→bM→E1 bM):fZ→E1 bM
 |[a,b]=>t a b
 |_=>Tn .none
def three(t:bM→bM→bM→E1 bM):fZ→E1 bM
 |[a,b,c]=>t a b c
 |_=>Tn .none
def Iy(σ:St):V→Option bV
 |.lst l=>some l
 |.ref n=>ob (lk σ.cells n) liC
 |_=>aF
section
variable{n:Nat}{F:Fx}{σ:St}{Q:V→iS}
theorem aFl{b c:Type}[Inhabited b]{R:RT b c}{Q:c→iS}{t:bM→E1 b}(k:∀A X D h tk u,wD n A→iZ F X D σ h→gG D (Yf F X D) h a u→bT (model prog w) A (t u) (uC R F X D h Q) (fun _ _=>False) (jK h tk)):
  TW R n F [a] (one t) σ Q:=fun A X D h tk vs ok m r=>by
 simp only [nU,nR]at r;obtain ⟨u,d,rfl,r1,rfl⟩:=r;exact k A X D h tk u ok m r1
theorem tK{t:bM→bM→E1 bM}(k:∀A X D h tk u v,wD n A→iZ F X D σ h→gG D (Yf F X D) h a u→gG D (Yf F X D) h b v→bT (model prog w) A (t u v) (uC rV F X D h Q) (fun _ _=>False) (jK h tk)):
  TW rV n F [a,b] (two t) σ Q:=fun A X D h tk vs ok m r=>by
 simp only [nU,nR]at r;obtain ⟨u,d,rfl,r1,v,e,rfl,c,rfl⟩:=r;exact k A X D h tk u v ok m r1 c
theorem gY{X:iB}(m:iZ F X D σ h)(r:gG D (Yf F X D) h u v)(q:Q u σ):uC rV F X D h Q v (jK h tk):=⟨h,tk,D,σ,u,rfl,.refl,m,r,q⟩
theorem nL{Y:iB}:gG D Y h (.int i) (.int i t):=by exact ⟨_,rfl⟩
theorem pG{Y:iB}:gG D Y h (.bool b) (.bool b):=rfl
theorem Cq{Y:iB}:gG D Y h .none .none:=rfl
theorem aHs(x:EW n F l σ fun a σ₁=>EW n F r σ₁ fun b c=>TW rV n F [a,b] (two (binaryOp g)) c Q):EW n F (.BinOp l g r B) σ Q:=fun A X D h tk vs ok m _=>by refine wpAny_BinOp (x.at ok m bO.nil fun a h₁ C D₁ σ₁ u i d j k=>?_);refine k.at ok d bO.nil fun b o s D₂ c v f t y z=>?_;exact bL (z A X D₂ o s [a,b] ok t (.cons (j.on d f) (.cons y .nil))) (fun _ _ p=>p.on (i.trans f)) fun _ _ e=>e
theorem aHr(i:behindInMarks c r=false)(x:EW n F l σ fun a σ₁=>EW n F r σ₁ fun b d=>TW rV n F [a,b] (two (compareOp c)) d Q):EW n F (.Compare l [c] [r] C) σ Q:=fun A X D h tk vs ok m _=>by refine wpAny_Compare1 (x.at ok m bO.nil fun a h₁ G D₁ σ₁ u j f k o=>?_) i;refine o.at ok f bO.nil fun b s t D₂ d v g y z B=>?_;exact bL (B A X D₂ s t [a,b] ok y (.cons (k.on f g) (.cons z .nil))) (fun _ _ p=>p.on (j.trans g)) fun _ _ e=>e
theorem Nu{Q:Bool→iS}(j:behindInMarks e r=false)(x:EW n F l σ fun a σ₁=>EW n F r σ₁ fun b f=>TW rV n F [a,b] (two (compareOp e)) f fun c d=>∃v,c=.bool v∧Q v d):BW n F (.Compare l [e] [r] L) σ Q:=fun A X D h tk vs ok m _=>by refine wpAny_isTrue_Compare1 (x.at ok m bO.nil fun a h₁ N D₁ σ₁ u k g o p=>?_) j;refine p.at ok g bO.nil fun b O P D₂ f v i s t y=>?_;refine y.at ok s (.cons (o.on g i) (.cons t .nil)) fun c B C D₃ d R G H I J=>?_;obtain ⟨z,rfl,q⟩:=J;subst I;exact N5 ⟨B,C,D₃,d,z,rfl,(k.trans i).trans G,H,rfl,q⟩
theorem aH5{Q:Bool→iS}(y:BW n F x σ fun b σ₁=>Q (!b) σ₁):BW n F (.UnaryOp .Not x g) σ Q:=fun A X D h tk vs ok m _=>by refine wpAny_isTrue_Not (y.at ok m bO.nil fun b h₁ a D₁ σ₁ b' c d e f=>?_);obtain rfl:b'=b:=e;exact ⟨h₁,a,D₁,σ₁,_,rfl,c,d,rfl,f⟩
def Qk(n:Nat)(F:Fx)(op:BoolOp)(es:List Expr)(σ:St)(Q:Bool→iS):Prop:=TW rB n F [] (fun _=>allTrue op es F.env) σ Q
theorem aCt{Q:Bool→iS}(y:Qk n F a es σ Q):BW n F (.BoolOp a es b) σ Q:=fun A X D h tk vs ok m r=>wpAny_isTrue_BoolOp (y A X D h tk vs ok m r)
theorem Qj{Q:Bool→iS}(q:Q true σ):Qk n F .And [] σ Q:=fun A X D h tk vs ok m r=>wpAny_allTrue_And_nil ⟨h,tk,D,σ,true,rfl,.refl,m,rfl,q⟩
theorem Te{Q:Bool→iS}(q:Q false σ):Qk n F .Or [] σ Q:=fun A X D h tk vs ok m r=>wpAny_allTrue_Or_nil ⟨h,tk,D,σ,false,rfl,.refl,m,rfl,q⟩
theorem N0{Q:Bool→iS}(y:BW n F e σ fun b σ₁=>if b=true then Qk n F .And es σ₁ Q else Q false σ₁):Qk n F .And (e::es) σ Q:=fun A X D h tk vs ok m r=>by
 refine wpAny_allTrue_And_cons (y.at ok m bO.nil fun b h₁ a D₁ σ₁ b' c d g f=>?_);obtain rfl:b'=b:=g;cases b'
 ·exact ⟨h₁,a,D₁,σ₁,false,rfl,c,d,rfl,f⟩
 ·exact bL (f A X D₁ h₁ a [] ok d bO.nil) (fun _ _ p=>p.on c) fun _ _ e=>e
theorem Qi{Q:Bool→iS}(y:BW n F e σ fun b σ₁=>if b=true then Q true σ₁ else Qk n F .Or es σ₁ Q):Qk n F .Or (e::es) σ Q:=fun A X D h tk vs ok m r=>by
 refine wpAny_allTrue_Or_cons (y.at ok m bO.nil fun b h₁ a D₁ σ₁ b' c d g f=>?_);obtain rfl:b'=b:=g;cases b'
 ·exact bL (f A X D₁ h₁ a [] ok d bO.nil) (fun _ _ p=>p.on c) fun _ _ e=>e
 ·exact ⟨h₁,a,D₁,σ₁,true,rfl,c,d,rfl,f⟩
theorem aHp(y:BW n F c σ fun t σ₁=>if t=true then EW n F a σ₁ Q else EW n F b σ₁ Q):EW n F (.IfExp c a b k) σ Q:=fun A X D h tk vs ok m _=>by
 refine wpAny_IfExp (y.at ok m bO.nil fun b h₁ d D₁ σ₁ b' f g j i=>?_);obtain rfl:b'=b:=j;cases b'
 ·exact bL (i A X D₁ h₁ d [] ok g bO.nil) (fun _ _ p=>p.on f) fun _ _ e=>e
 ·exact bL (i A X D₁ h₁ d [] ok g bO.nil) (fun _ _ p=>p.on f) fun _ _ e=>e
theorem tY{f:bM→bM→E1 bM}{Q:V→iS}(y:∀A X D h tk t c,wD n A→iZ F X D σ h→bT (model prog w) A (f (.int a t) (.int b c)) (uC rV F X D h Q) (fun _ _=>False) (jK h tk)):TW rV n F [.int a,.int b] (two f) σ Q:=tK fun A X D h tk u v ok m d e=>by obtain ⟨t,rfl⟩:=d;obtain ⟨c,rfl⟩:=e;exact y A X D h tk t c ok m
theorem aF6(q:Q (.int (a+b)) σ):TW rV n F [.int a,.int b] (two (binaryOp .Add)) σ Q:=tY fun A X D h tk t c ok m=>P.add_int (gY m nL q)
theorem aAb(q:Q (.int (a+b)) σ):TW rV n F [.int a,.int b] (two (inplaceOp .Add)) σ Q:=tY fun A X D h tk t c ok m=>P.iadd_int (gY m nL q)
theorem aF2(q:Q (.int (a-b)) σ):TW rV n F [.int a,.int b] (two (binaryOp .Sub)) σ Q:=tY fun A X D h tk t c ok m=>P.sub_int (gY m nL q)
theorem aF4(c:IntMulOk a b)(q:Q (.int (a*b)) σ):TW rV n F [.int a,.int b] (two (binaryOp .Mult)) σ Q:=tY fun A X D h tk t d ok m=>P.mul_int (gY m nL q) c
theorem aJq(q:Q (.bool (decide (a<b))) σ):TW rV n F [.int a,.int b] (two (compareOp .Lt)) σ Q:=tY fun A X D h tk t c ok m=>P.lt_int (gY m pG q)
theorem aJr(q:Q (.bool (decide (a≤b))) σ):TW rV n F [.int a,.int b] (two (compareOp .LtE)) σ Q:=tY fun A X D h tk t c ok m=>P.le_int (gY m pG q)
theorem aJs(q:Q (.bool (decide (b<a))) σ):TW rV n F [.int a,.int b] (two (compareOp .Gt)) σ Q:=tY fun A X D h tk t c ok m=>P.gt_int (gY m pG q)
theorem aJt(q:Q (.bool (decide (b≤a))) σ):TW rV n F [.int a,.int b] (two (compareOp .GtE)) σ Q:=tY fun A X D h tk t c ok m=>P.ge_int (gY m pG q)
theorem aF5(c:b≠0)(q:Q (.int (a.fmod b)) σ):TW rV n F [.int a,.int b] (two (binaryOp .Mod)) σ Q:=tY fun A X D h tk t d ok m=>aO0 c (gY m nL q)
theorem Wv(c:b=match v with|.none=>true|_=>false)(d:∀u,v≠.fn u)(q:Q (.bool b) σ):TW rV n F [v,.none] (two (compareOp .Is)) σ Q:=tK fun A X D h tk u f ok m a e=>by subst e;refine is_none (gY m ?_ q);subst c;cases v<;>first|(subst a;rfl)|(obtain ⟨_,rfl⟩:=a;rfl)|(obtain ⟨_,_,rfl,_⟩:=a;rfl)|(obtain ⟨_,rfl,_⟩:=a;rfl)|(exact absurd rfl (d _))
theorem L8(c:b=match v with|.none=>false|_=>true)(d:∀u,v≠.fn u)(q:Q (.bool b) σ):TW rV n F [v,.none] (two (compareOp .IsNot)) σ Q:=tK fun A X D h tk u f ok m a e=>by subst e;refine isNot_none (gY m ?_ q);subst c;cases v<;>first|(subst a;rfl)|(obtain ⟨_,rfl⟩:=a;rfl)|(obtain ⟨_,_,rfl,_⟩:=a;rfl)|(obtain ⟨_,rfl,_⟩:=a;rfl)|(exact absurd rfl (d _))
inductive GL(F:Fx)(X:iB)(D:lQ)(h:dT)(l:bV)(u:bM):Prop
 |mk (a:dF) (xs:fZ) (k:Nat) (e:u=.ref a) (p:IsL h a (aY xs) k) (r:bO D (Yf F X D) h l xs)
theorem Jt{X:iB}(m:iZ F X D σ h)(e:Iy σ v=some l)(r:gG D (Yf F X D) h v u):GL F X D h l u:=by
 cases v<;>simp only [Iy]at e<;>first|cases e|skip
 ·obtain ⟨a,xs,rfl,_,⟨k,b⟩,y⟩:=r;exact ⟨a,xs,k,rfl,b,y⟩
 ·rename_i i;obtain ⟨a,rfl,g⟩:=r
  cases d:lk σ.cells i with
  |none=>rw [d]at e;exact hU e
  |some c=>
   rw [d]at e
   cases c with
   |list l'=>refine nW e ?_;rintro rfl;obtain ⟨j,f,xs,⟨k,b⟩,y⟩:=m.cel i _ d;rw [g]at f;refine nW f ?_;rintro rfl;exact ⟨a,xs,k,rfl,b,y⟩
   |dict _ _=>(exact hU e)
   |attrs _=>(exact hU e)
   |mat _=>(exact hU e)
theorem Ct{X:iB}(m:iZ F X D σ h)(c:h.get? a=aF)(d:∀b o,h.get? b=some o→h'.get? b=some o)(f:∃k,IsL h' a (aY xs) k)(r:bO D (Yf F X D) h l xs):gG D (Yf F X D) h' (.lst l) (.ref a):=by
 refine ⟨a,xs,rfl,fun q=>?_,f,bO.step (fun b o e _=>d b o e) (fun _ _ e=>e) (fun _ e=>.inl e) _ _ r⟩;rcases q with q|q|⟨i,q⟩
 ·exact ((m.zfr a q).2).no c
 ·exact (m.xal a q).no c
 ·exact ((m.sep i a q).h).no c
theorem O1{X:iB}(m:iZ F X D σ h)(c:h.get? a=aF)(d:∀b o,h.get? b=some o→h'.get? b=some o)(f:∃k,IsT h' a (aY xs) k)(r:bO D (Yf F X D) h l xs):gG D (Yf F X D) h' (.tup l) (.ref a):=by
 refine ⟨a,xs,rfl,fun q=>?_,f,bO.step (fun b o e _=>d b o e) (fun _ _ e=>e) (fun _ e=>.inl e) _ _ r⟩;rcases q with q|q|⟨i,q⟩
 ·exact ((m.zfr a q).2).no c
 ·exact (m.xal a q).no c
 ·exact ((m.sep i a q).h).no c
theorem aAd(e:Iy σ a=some l)(f:Iy σ b=some l')(g:l.length+l'.length≤hW)(q:Q (.lst (l++l')) σ):TW rV n F [a,b] (two (binaryOp .Add)) σ Q:=tK fun A X D h tk u v ok m i j=>by obtain ⟨x,xs,k,rfl,hx,c⟩:=Jt m e i;obtain ⟨y,o,p,rfl,hy,d⟩:=Jt m f j;refine P.add_list hx hy ⟨_,tk,D,σ,.lst (l++l'),rfl,oU.grow (dL _ _),m.grow (dL _ _),?_,q⟩ (by simpa [c.length,d.length]using g);refine Ct m (eV _) (dL _ _) ⟨0,?_⟩ (c.append d);have:=Jb h (xs.toArray++o.toArray);simpa using this
theorem ψ(d:Iy σ a=some l)(b:l.length≤hW)(q:Q (.int l.length) σ):TW rV n F [a] (one fun u=>call (.builtin "len") [u]) σ Q:=aFl fun A X D h tk u ok m e=>by obtain ⟨x,xs,k,rfl,hx,c⟩:=Jt m d e;refine aPd hx.isList (by simp [c.length];rw [mN]at b;exact aS 0xc636c6318c6318c6318c6318c6318c1d07a8138c6318c6307001 b) ?_;refine gY m ?_ q;rw [show ((aY xs).size:Int)=(l.length:Int) by simp [c.length]];exact nL
end
end
section
set_option backward.match.sparseCases false
section
def Y3(n:Nat)(F:Fx)(ak:Pos)(es:List Expr)(σ:St)(Q:bV→iS):Prop:=TW rVs n F [] (fun _=>spliced (backTo ak (dR es F.env))) σ Q
def PW(n:Nat)(F:Fx)(e:Option Expr)(σ:St)(Q:Option Int→iS):Prop:=match e with
 |aF=>Q aF σ
 |some e=>EW n F e σ fun v σ₁=>∃i,v=.int i∧Q (some i) σ₁
end
noncomputable def K9(lo:Option Int)(n:Nat):Nat:=match lo with
 |aF=>0
 |some i=>(max 0 (min (if i<0 then i+n else i) n)).toNat
noncomputable def Vy(hi:Option Int)(n:Nat):Nat:=match hi with
 |aF=>n
 |some i=>(max 0 (min (if i<0 then i+n else i) n)).toNat
def pySl{α:Type}(l:List α)(lo hi:Option Int):List α:=(l.drop (K9 lo l.length)).take (Vy hi l.length-K9 lo l.length)
theorem G1(xs:fZ)(lo hi:Option Int):slicePick (aY xs) lo hi aF=(pySl xs lo hi).toArray:=by
 unfold slicePick pySl;have e:sliceBounds lo hi aF (aY xs).size=(((K9 lo xs.length:Nat):Int),((Vy hi xs.length:Nat):Int),(1:Int)):=by simp only [sliceBounds,Option.getD_none,K9,Vy,lY];cases lo<;>cases hi<;>simp<;>lia
 rw [e];dsimp only;rw [sliceRange_one]
 congr 1
 have:=pick_run (aY xs) (K9 lo xs.length) (Vy hi xs.length-K9 lo xs.length);simpa using this
section
variable{n:Nat}{F:Fx}{σ:St}{Q:V→iS}
theorem aHu{Q:bV→iS}(q:Q [] σ):Y3 n F a [] σ Q:=fun A X D h tk vs ok m _=>Tl ⟨h,tk,D,σ,[],rfl,.refl,m,bO.nil,q⟩
theorem aB3{Q:bV→iS}(g:dR (e::es) F.env=(false,eval e F.env)::dR es F.env)(x:EW n F e σ fun v σ₁=>Y3 n F i es σ₁ fun vs c=>Q (v::vs) c):Y3 n F i (e::es) σ Q:=fun A X D h tk vs ok m _=>by refine B9 (x.at ok m bO.nil fun a h₁ y D₁ σ₁ u j d k l=>?_) g;refine TW.at l ok d bO.nil fun b o p D₂ c us f r s t=>?_;exact ⟨o,p,D₂,c,u::us,rfl,j.trans f,r,.cons (k.on d f) s,t⟩
theorem ı(x:Y3 n F e es σ fun vs σ₁=>vs.length≤hW∧Q (.tup vs) σ₁):EW n F (.Tuple es k e) σ Q:=fun A X D h tk vs ok m _=>by refine wpAny_Tuple (TW.at x ok m bO.nil fun b h₁ f D₁ σ₁ us g a c d=>?_);refine ⟨by rw [bO.length c];exact d.1,_,f,D₁,σ₁,.tup us,rfl,g.trans (oU.grow (dL _ _)),a.grow (dL _ _),?_,d.2⟩;exact O1 a (eV _) (dL _ _) ⟨0,IsT.new _ _⟩ c
theorem aBy(x:Y3 n F e es σ fun vs σ₁=>vs.length≤hW∧Q (.lst vs) σ₁):EW n F (.List es e) σ Q:=fun A X D h tk vs ok m _=>by refine wpAny_List (TW.at x ok m bO.nil fun b h₁ f D₁ σ₁ us g a c d=>?_);refine ⟨by rw [bO.length c];exact d.1,_,f,D₁,σ₁,.lst us,rfl,g.trans (oU.grow (dL _ _)),a.grow (dL _ _),?_,d.2⟩;exact Ct a (eV _) (dL _ _) ⟨0,Jb _ _⟩ c
theorem aM9{X:iB}(m:iZ F X D σ h)(r:bO D (Yf F X D) h us xs)(q:Q (.ref σ.next) {σ with cells:=(σ.next,.list us)::σ.cells,next:=σ.next+1}):
  uC rV F X D h Q (.ref h.objs.size) (jK (h.push {cls:=.type "list",data:=.seq (aY xs)}) tk):=by
 obtain ⟨m',st⟩:=m.cell (c:=.list us) (dL _ _) (eV _) ⟨_,cA _ rfl⟩ (fun D' Y' _ a=>⟨xs,⟨0,Jb _ _⟩,a _ _ r⟩);exact ⟨_,tk,_,_,.ref σ.next,rfl,st,m',by exact ⟨_,rfl,by simp [fF,fE]⟩,q⟩
theorem ĳ(x:Y3 n F d es σ fun vs σ₁=>vs.length≤hW∧Q (.ref σ₁.next) {σ₁ with cells:=(σ₁.next,.list vs)::σ₁.cells,next:=σ₁.next+1}):EW n F (.List es d) σ Q:=fun A X D h tk vs ok m _=>by refine wpAny_List (TW.at x ok m bO.nil fun b h₁ g D₁ σ₁ us e f a c=>?_);exact ⟨by rw [bO.length a];exact c.1,(aM9 f a c.2).on e⟩
theorem aHn(x:EW n F value σ fun o σ₁=>EW n F c σ₁ fun i d=>TW rV n F [o,i] (two (subscriptTail value c)) d Q):EW n F (.Subscript value c B) σ Q:=fun A X D h tk vs ok m _=>by refine Subscript_ (x.at ok m bO.nil fun a h₁ C D₁ σ₁ u j f k l=>?_);refine l.at ok f bO.nil fun b r s D₂ d v g t y z=>?_;exact bL (z A X D₂ r s [a,b] ok t (.cons (k.on f g) (.cons y .nil))) (fun _ _ p=>p.on (j.trans g)) fun _ _ e=>e
theorem ω(e:seqIndex? i l.length=some k)(hd:l[k]?=some d)(b: -2^63≤i∧i<2^63)(f:∀o i,subscripted g false o i=operate [o,i] (getItem o i))(q:Q d σ):TW rV n F [.tup l,.int i] (two (subscriptTail value g)) σ Q:=tK fun A X D h tk u v ok m j p=>by obtain ⟨a,xs,rfl,_,⟨s,hx⟩,c⟩:=j;obtain ⟨t,rfl⟩:=p;obtain ⟨y,hy,r⟩:=c.get hd;exact tail_any ⟨_,hx,rfl⟩ PySem.F.slot_tuple_getitem.lookup (P.getItem_tuple hx b.1 b.2 (by simpa [c.length]using e) (by simpa using hy) (gY m r q)) (f _ _)
theorem Ui{X:iB}{K:rX}{Q:Option Int→iS}(x:PW n F e σ Q)(ok:wD n A)(m:iZ F X D σ h)
  (k:∀a h₁ b D₁ σ₁ i,oU F D h D₁ h₁→iZ F X D₁ σ₁ h₁→IsPart a i→Q i σ₁→K a (jK h₁ b)):bT (model prog w) A (evalPart e F.env) K (fun _ _=>False) (jK h tk):=by
 cases e with
 |none=>exact aIs (k _ h tk D σ _ .refl m .none x)
 |some e=>refine wpAny_evalPart_some (TW.at x ok m bO.nil fun a h₁ b D₁ σ₁ u c d f g=>?_);obtain ⟨i,rfl,q⟩:=g;obtain ⟨t,rfl⟩:=f;exact k _ h₁ b D₁ σ₁ _ c d (.int i t) q
def asS(σ:St):V→Option bV
 |.scr l=>some l
 |v=>Iy σ v
inductive GS(F:Fx)(X:iB)(D:lQ)(h:dT)(l:bV)(u:bM):Prop
 |mk (a:dF) (xs:fZ) (e:u=.ref a) (p:h.IsList a (aY xs)) (r:bO D (Yf F X D) h l xs)
theorem aLi{X:iB}(m:iZ F X D σ h)(e:asS σ v=some l)(r:gG D (Yf F X D) h v u):GS F X D h l u:=by
 cases v with
 |scr l'=>simp only [asS]at e;refine nW e ?_;rintro rfl;obtain ⟨a,xs,rfl,_,b,y⟩:=r;exact ⟨a,xs,rfl,b,y⟩
 |_=>simp only [asS]at e;obtain ⟨a,xs,k,rfl,hx,c⟩:=Jt m e r;exact ⟨a,xs,rfl,hx.isList,c⟩
theorem bO.pySl{Y:iB}(r:bO D Y h l xs)(lo hi:Option Int):bO D Y h (pySl l lo hi) (pySl xs lo hi):=by unfold Mine.pySl;rw [r.length];exact bO.take _ (bO.drop _ r)
theorem Ĳ(x:EW n F value σ fun o σ₁=>PW n F lower σ₁ fun lo k=>PW n F upper k fun hi d=>∃l,asS d o=some l∧l.length≤hW∧Q (.lst (pySl l lo hi)) d):
  EW n F (.Subscript value (.Slice lower upper aF p) T) σ Q:=fun A X D h tk vs ok m _=>by
 refine Subscript_ (x.at ok m bO.nil fun a h₁ W D₁ σ₁ u B r C G=>wpAny_Slice ?_);refine Ui G ok r fun f Y Z D₂ k lo s t H I=>?_;refine Ui I ok t fun g c J D₃ d hi v i L N=>aIs ?_;obtain ⟨l,O,P,q⟩:=N;have R:=(gG.on r s C).on t v;obtain ⟨b,xs,rfl,hx,y⟩:=aLi i O R;have z:=hx.push {cls:=.type "slice",data:=.fields #[f,g,.none]};refine tail_any z.typeIs list_getitem_lookup (wpAny_getItem_list_slice z (aMw ..) H L .none (by simp) ?_ (by simpa [y.length]using P)) rfl;have j:∀b o,c.get? b=some o→((c.push {cls:=.type "slice",data:=.fields #[f,g,.none]}).push {cls:=.type "list",data:=.seq (slicePick (aY xs) lo hi aF)}).get? b=some o:=fun b o e=>dL _ _ _ _ (dL _ _ _ _ e);refine ⟨_,J,D₃,d,.lst (pySl l lo hi),rfl,((B.trans s).trans v).trans (oU.grow j),i.grow j,?_,q⟩;refine Ct i ?_ j ⟨0,?_⟩ (y.pySl lo hi)
 ·cases e:c.get? (c.push {cls:=.type "slice",data:=.fields #[f,g,.none]}).objs.size with
  |none=>rfl
  |some o=>exact absurd (dQ e) (by rw [gJ];exact kJ.mpr (jG _))
 ·have:=Jb (c.push {cls:=.type "slice",data:=.fields #[f,g,.none]}) (slicePick (aY xs) lo hi aF);rw [G1]at this⊢;exact this
theorem aAc(c:b≠0)(d:nJ a b=false)(q:Q (.int (a.fdiv b)) σ):TW rV n F [.int a,.int b] (two (binaryOp .FloorDiv)) σ Q:=tK fun A X D h tk u v ok m e f=>by obtain ⟨t,rfl⟩:=e;obtain ⟨g,rfl⟩:=f;exact floordiv_int c (gY m nL q) (.inl d)
end
end
def Qa(id:String)(vs:fZ):E1 bM:=call (.builtin id) vs
def aMi(σ:St)(u:V)(T:String):Prop:=∀(F:Fx)(X:iB)(D:lQ)(h:dT)(v:bM),iZ F X D σ h→gG D (Yf F X D) h u v→∃a o,v=.ref a∧h.get? a=some o∧o.cls=.type T∧o.dict=aF
theorem Xv(e:Iy σ u=some l):aMi σ u "list":=fun F X D h v m r=>by obtain ⟨a,xs,k,rfl,hx,b⟩:=Jt m e r;exact ⟨a,_,rfl,hx,rfl,rfl⟩
def nE(F:Fx):List Expr→Prop
 |[]=>True
 |e::es=>dR (e::es) F.env=(false,eval e F.env)::dR es F.env∧nE F es
section
variable{n:Nat}{F:Fx}{σ:St}{Q:V→iS}
theorem lL:∀{es:List Expr},nE F es→(backTo a (dR es F.env)).any (·.1)=false:=by
 intro b
 induction b with
 |nil=>intro _;exact rfl
 |cons e es c=>intro h;rw [h.1];show (false|| (backTo a (dR es F.env)).any (·.1))=false;rw [c h.2];rfl
theorem pU{X:iB}{K:Args→tU}{Q:bV→iS}(j:nE F es)(x:Y3 n F b es σ Q)(ok:wD n A)(m:iZ F X D σ h)
  (k:∀vs h₁ a D₁ σ₁ us,oU F D h D₁ h₁→iZ F X D₁ σ₁ h₁→bO D₁ (Yf F X D₁) h₁ us vs→Q us σ₁→K ⟨vs,[]⟩ (jK h₁ a)):bT (model prog w) A (evalArgs f true (backTo b (dR es F.env)) []) K (fun _ _=>False) (jK h tk):=by
 cases es with
 |nil=>unfold evalArgs;refine aH (TW.at (t:=fun _=>spliced (backTo b (dR [] F.env))) x ok m bO.nil fun vs h₁ a D₁ σ₁ us c d g i=>aH (aW (bY ?_)));exact aH (aW (aH (aW (aW (k vs h₁ a D₁ σ₁ us c d g i)))))
 |cons e es=>
  have hx:=fun vs=>x A X D h tk vs ok m;have l:backTo b (dR (e::es) F.env)=(false,eval e F.env)::backTo b (dR es F.env):=by rw [j.1];rfl
  unfold Y3 at x;simp only [l]at x⊢;exact Calls.evalArgs_plain (TW.at x ok m bO.nil fun vs h₁ a D₁ σ₁ us c d g i=>k vs h₁ a D₁ σ₁ us c d g i)
theorem Nh{o:Expr}{name:jY}{d c:Pos}{args:List Expr}{v:E1 Bool}{T id:String}(slot:Slot T name id)(y:typeOf (.builtin id)=pure (.type "method_descriptor"))(z:Yt T)
  (B:eval (.Call (.Attribute o name d) args [] c) F.env=(do
   let i←eval o F.env
   jD d.atName
   let (f,first)←holding [i] (getMethod i name v)
   lA c f first (backTo c (dR args F.env)) []))
  (j:nE F args)
  (x:EW n F o σ fun u σ₁=>aMi σ₁ u T∧Y3 n F c args σ₁ fun us k=>TW rV n F (u::us) (Qa id) k Q):EW n F (.Call (.Attribute o name d) args [] c) σ Q:=fun A X D h tk vs ok m _=>by
 refine aIm (x.at ok m bO.nil fun a h₁ O D₁ σ₁ u C g l r=>?_) B;obtain ⟨b,ob,rfl,s,G,hd⟩:=r.1 F X D₁ h₁ a g l;refine getMethod_builtin ⟨_,s,G⟩ z slot y (fun a e=>by cases e;exact ⟨_,s,hd⟩) ?_;refine At (lL j) (pU j r.2 ok g fun us H I D₂ k ds t J L N=>?_);exact bL (N A X D₂ H I (.ref b::us) ok J (.cons (gG.on g t l) L)) (fun _ _ p=>p.on (C.trans t)) fun _ _ e=>e
inductive CL(F:Fx)(X:iB)(D:lQ)(h:dT)(i:Nat)(l:bV)(u:bM):Prop
 |mk (a:dF) (xs:fZ) (k:Nat) (e:u=.ref a) (d:lk D i=some a) (p:IsL h a (aY xs) k) (r:bO D (Yf F X D) h l xs)
theorem La{X:iB}(m:iZ F X D σ h)(e:lk σ.cells i=some (.list l))(r:gG D (Yf F X D) h (.ref i) u):CL F X D h i l u:=by obtain ⟨a,rfl,b⟩:=r;obtain ⟨f,c,xs,⟨k,d⟩,y⟩:=m.cel i _ e;rw [b]at c;refine nW c ?_;rintro rfl;exact ⟨a,xs,k,rfl,b,d,y⟩
theorem Os{X:iB}{f:Array bM→Array bM}(fk:iL F)(m:iZ F X D σ h)(l:lk D i=some a)(hx:IsL h a (aY xs) k)(p:f (aY xs)=aY j)(r:bO D (Yf F X D) h l' j)(rv:gG D (Yf F X D) h d v)
  (q:Q d {σ with cells:=kX i (.list l') σ.cells}):uC rV F X D h Q v (jK (h.update a (iI f)) tk):=by
 have g:=hx.update f;obtain ⟨m',st⟩:=m.turn (c:=.list l') fk l (fun b o s e=>(gF h _ (qZ s)).trans e) ⟨_,g⟩ (fun Y' _ t=>⟨j,⟨_,by rw [p]at g;exact g⟩,t _ _ r⟩);exact ⟨_,tk,D,_,d,rfl,st,m',gG.on m st rv,q⟩
theorem Ww(fk:iL F)(e:lk σ.cells i=some (.list l))(c:l.length≤hW)(q:Q .none {σ with cells:=kX i (.list (l++[d])) σ.cells}):TW rV n F [.ref i,d] (Qa "list.append") σ Q:=fun A X D h tk vs ok m r=>by simp only [nU,nR]at r;obtain ⟨u,j,rfl,r1,v,o,rfl,f,rfl⟩:=r;obtain ⟨a,xs,k,rfl,g,hx,b⟩:=La m e r1;refine call_meets bW ⟨_,hx,rfl⟩ Lj (Kc _ _) (Ů a (aY xs) k v (by simpa [b.length]using c)) ⟨hx,?_⟩;exact Os fk m g hx (by simp) (b.append (.cons f .nil)) Cq q
theorem aF3(fk:iL F)(e:lk σ.cells i=some (.list (l++[d])))(f:l.length<hW)(q:Q d {σ with cells:=kX i (.list l) σ.cells}):TW rV n F [.ref i] (Qa "list.pop") σ Q:=fun A X D h tk vs ok m r=>by
 simp only [nU,nR]at r;obtain ⟨u,p,rfl,r1,rfl⟩:=r;obtain ⟨a,xs,k,rfl,g,hx,c⟩:=La m e r1;obtain ⟨y,hy,j⟩:=c.get (i:=l.length) (d:=d) (by simp);have b:xs.length=l.length+1:=by simpa using c.length
 refine call_meets rZ ⟨_,hx,rfl⟩ Qp (PySem.F.args_list_pop_1 _) (MeetsSeq.list_pop_last a (aY xs) k y (by simpa [b]using hy) (by simp [b];exact aS 0x318a42838141002 f)) ⟨hx,?_⟩;have o:bO D (Yf F X D) h l (xs.take l.length):=by have:=bO.take l.length c;simpa using this
 refine Os fk m g hx ?_ o j q;have:(aY xs).size-1=l.length:=by simp [b]
 rw [this];apply Array.ext';rw [Array.toList_eraseIdxIfInBounds];simp [List.eraseIdx_eq_take_drop_succ,List.drop_eq_nil_of_le (tH b)]
end
theorem iZ.leave{F:Fx}{X:iB}{N:List dF}{D:lQ}{σ:St}{h h':dT}(fk:iL F)(m:iZ F (iW N X) D σ h)(j:∀a∈N,a∉F.Z)(A:∀a∈N,S.heap.get? a=aF)(B:∀a∈N,¬X a)(f:∀b o,b∉N→h.get? b=some o→h'.get? b=some o):iZ F X D σ h':=by
 have t:∀b∈N,Yf F (iW N X) D b:=fun b q=>.inr (.inl (nC q));have y:∀a,Yf F X D a→Yf F (iW N X) D a∨h.get? a=aF:=fun _ e=>.inl (Y9 e);have z:∀d v,gG D (Yf F (iW N X) D) h d v→gG D (Yf F X D) h' d v:=fun d v=>gG.step (fun b o e l=>f b o (fun q=>l (t b q)) e) (fun _ _ e=>e) y d v;refine ⟨fun b o e=>f b o (fun q=>by replace e:=(A b q)▸e;exact hU e) (m.base b o e),fun x v e=>?_,fun x p s e=>(m.frm x p s e).keep fun o=>f _ o (fun q=>j _ q (fk.inZ x p s e)),fun n c e=>?_,m.inj,fun n a e=>?_,fun a e=>?_,fun a e=>?_⟩
 ·obtain ⟨p,s,u,i,r,C⟩:=m.loc x v e;exact ⟨p,s,u,i,r.keep fun o=>f _ o (fun q=>j _ q (fk.inZ x p s i)),z _ _ C⟩
 ·obtain ⟨a,i,r⟩:=m.cel n c e;exact ⟨a,i,r.on z (fun d v=>bO.step (fun b o e l=>f b o (fun q=>l (t b q)) e) (fun _ _ e=>e) y d v) fun o=>f _ o (fun q=>(m.sep n a i).x (nC q))⟩
 ·obtain ⟨a1,g,G,⟨o,H⟩,I⟩:=m.sep n a e;exact ⟨a1,fun q=>g (oY q),G,⟨o,f a o (fun q=>g (nC q)) H⟩,I⟩
 ·obtain ⟨a1,o,g⟩:=m.zfr a e;exact ⟨a1,o,f a o (fun q=>j a q e) g⟩
 ·obtain ⟨o,g⟩:=m.xal a (oY e);exact ⟨o,f a o (fun q=>B a q e) g⟩
noncomputable def wZ:List String:=["enumerate","zip","dict_itemiterator","dict_reverseitemiterator","odict_iterator","itertools.zip_longest","itertools.pairwise"]
theorem Hm{M:Ű}{A:kS}{E:rX}{s:dE}{b:Expr}{I:dF}{o:wM}{T:String}{v:bM}{Q:Unit→tU}(d:s.heap.get? I=some o)(e:o.cls=.type T)(f:wZ.contains T=false)(q:Q () s):bT M A (mJ b (.ref I) v) Q E s:=by
 have c:bT M A (do
   let o←load I
   match o.cls,o.data with
   |.type n,.fields vs=>
    if wZ.contains n&&vs[0]?==some (rawInt (match v with|.ref a=>a|_=>0))then
     rule "for.unpacks-the-owned-tuple"
     updateField I 0 .none
   |_,_=>pure ()) Q E s:=by
  refine aH (Kb d ?_);refine e▸?_;cases o.data<;>first|exact aW q|skip
  dsimp only;refine f▸?_;exact aW q
 cases b<;>first|exact aW q|skip
 ·cases v<;>first|exact aW q|exact c
 ·cases v<;>first|exact aW q|exact c
section
variable{k n:Nat}{F:Fx}{σ:St}{Q:Fl→iS}
theorem aBk{s:jY}{a:Pos}{x:Nat}{p:vA}{v:V}{Q:iS}(fk:iL F)(b:lk F.bnd x=some (p,s))(c:Ŗ F.env p s)(q:Q {σ with loc:=kX x v σ.loc}):GW n F (.Name s a) v σ Q:=fun A X D h tk u ok m r=>by refine Gj (Cn fk m b c r fun h' d m' e=>?_);exact ⟨h',d,D,_,(),rfl,e,m',trivial,q⟩
def aC4(k:Nat)(Q:Fl→iS)(J:iS):Fl→iS:=fun f ao=>match f with
 |.next=>∃bq,Wk k ao bq∧J bq
 |.cont=>∃bq,Wk k ao bq∧J bq
 |.brk=>Q .next ao
 |.ret v=>Q (.ret v) ao
inductive ś(F:Fx)(X:iB)(k:Nat)(D:lQ)(h₀:dT)(I:List dF)(N:Nat)(Sx:Nat→dT→Prop)(J:Nat→iS)(j:Nat)(s':dE):Prop
 |mk (i:Nat) (h':dT) (ap:Nat) (D':lQ) (σ':St) (ej:j=N+1-i) (hi:i≤N) (e:s'=jK h' ap) (st:B7 F k D h₀ D' h') (m:iZ F (iW I X) D' σ' h') (sx:Sx i h') (hJ:J i σ'):ś F X k D h₀ I N Sx J j s'
theorem Pe{X:iB}{D D₅:lQ}{h₀ c:dT}{d:Nat}{Ns:List dF}{N i:Nat}{Sx:Nat→dT→Prop}{J:Nat→iS}{g:St}{f:Flow}{f':Fl}(fk:iL F)(p:∀a∈Ns,a∉F.Z)(s:∀a∈Ns,S.heap.get? a=aF)(t:∀a∈Ns,¬X a)
  (st:B7 F k D h₀ D₅ c) (m:iZ F (iW Ns X) D₅ g c) (r:rF D₅ (Yf F (iW Ns X) D₅) c f' f) (q:aC4 k Q (J (i+1)) f' g) (lt:i<N) (sx:Sx (i+1) c):
  match f with
  |.next|.cont=>∃m,m<N+1-i∧ś F X k D h₀ Ns N Sx J m (jK c d)
  |.brk=>uZ rF F X k D h₀ Q .next (jK c d)
  |.ret v=>uZ rF F X k D h₀ Q (.ret v) (jK c d):=by
 have l:=m.leave fk p s t (fun b o _ e=>e);have again:(∃h,Wk k g h∧J (i+1) h)→∃m,m<N+1-i∧ś F X k D h₀ Ns N Sx J m (jK c d):=by rintro ⟨h,u,j⟩;refine nn fun x=>?_;obtain ⟨D₄,y,z,A⟩:=u F (iW Ns X) D₅ c fk m;refine x ?_;exact ⟨N+1-(i+1),mO (aE2 lt) (gQ i),i+1,c,d,D₄,h,rfl,lt,rfl,st.trans ⟨fun _ _ e _ _=>e,z,fun n a e=>.inl (A n a e),fun _ o e=>⟨o,e⟩⟩,y,sx,j⟩
 cases r
 ·exact again q
 ·exact ⟨c,d,D₅,g,.next,rfl,st,l,J8.next,q⟩
 ·exact again q
 ·refine ⟨c,d,D₅,g,.ret _,rfl,st,l,.ret (gG.step (fun b o e _=>e) (fun _ _ e=>e) (fun a e=>?_) _ _ ‹_›),q⟩;rcases e with q|q|q
  ·exact .inl (.inl q)
  ·exact .inl (.inr (.inl (oY q)))
  ·exact .inl (.inr (.inr q))
theorem Į{A:kS}{X:iB}{D:lQ}{h₀ h:dT}{tk:Nat}{O:Expr}{body:List vD}{I:dF}{R:List dF}{N:Nat}{P:Nat→bM→Prop}{Sx:Nat→dT→Prop}{ds:Nat→V}{T:String}
  (fk:iL F) (ok:wD n A) (W:Walks prog w A I R [I] N P Sx) (s:∀i h,Sx i h→∃o,h.get? I=some o∧o.cls=.type T) (hT:wZ.contains T=false)
  (m:iZ F X D σ h₀) (u:∀b o,h₀.get? b=some o→h.get? b=some o) (c:h₀.get? I=aF) (Y:Sx 0 h)
  (Z:∀b∈R,b=I∨(b∉F.Z∧(∀i,lk D i≠some b)∧vC h₀ b))
  (hP:∀i v h' D',i<N→P i v→B7 F k D h₀ D' h'→gG D' (Yf F (iW [I] X) D') h' (ds i) v)
  (J:Nat→iS) (hJ:J 0 σ)
  (cm:∀i σ',i<N→J i σ'→GW n F O (ds i) σ' fun σ₁=>SW k n F body σ₁ (aC4 k Q (J (i+1))))
  (done:∀σ',J N σ'→Q .next σ'):
  jI (model prog w) A (.forLoop O (.ref I) body [] F.env) (fun r y=>match r with|.ok f=>uZ rF F X k D h₀ Q f y|.error e=>cameBackBy (model prog w) A F.env (fun _ _=>False) e y) (jK h tk):=by
 have t:I∉F.Z:=fun z=>((m.zfr I z).2).no c;have oe:¬X I:=fun z=>(m.xal I z).no c;have B:S.heap.get? I=aF:=by
  cases q:S.heap.get? I with
  |none=>rfl
  |some o=>rw [m.base I o q]at c;exact Ly c
 have m1:=m.addX u fun a l=>by obtain rfl:a=I:=aM.mp l;exact ⟨c,let ⟨o,e,_⟩:=s 0 h Y;⟨o,e⟩⟩
 refine I7 (ś F X k D h₀ [I] N Sx J) (fun j y hs=>?_) (N+1)
  ⟨0,h,tk,D,σ,rfl,cJ _,rfl,⟨fun b o e _ _=>u b o e,fun _ _ _ e=>e,fun _ _ e=>.inl e,fun b o e=>⟨o,u b o e⟩⟩,m1,Y,hJ⟩
 obtain ⟨i,h',ap,D',σ',rfl,hi,rfl,st,m',sx,sg⟩:=hs;rcases tG i N with lt|ge
 ·refine W.item i _ _ _ lt sx fun v h₁ C si G d=>?_;have ag:=m'.turnX fk (fun a l=>nC l) (Eb t) (Eb B) d (fun a l=>by refine (aM.mp l)▸?_;obtain ⟨o,e,_⟩:=s _ _ G;exact ⟨o,e⟩);have ah:B7 F k D h₀ D' h₁:=⟨fun b o e H hd=>d b o (fun q=>by rw [aM.mp q,c]at e;exact hU e) (st.keep b o e H hd),st.ext,st.new,fun b o e=>by obtain ⟨g,L⟩:=st.al b o e;exact ⟨g,d b g (fun q=>by rw [aM.mp q,c]at e;exact hU e) L⟩⟩;obtain ⟨oI,eI,cI⟩:=s _ _ G;refine Hm eI cI hT ?_;refine bL ((cm i σ' lt sg) A (iW [I] X) D' h₁ C v ok ag (hP i v h₁ D' lt si ah)) (fun _ g6 p=>?_) fun _ _ x=>x.elim;obtain ⟨az,bg,D₂,ao,_,rfl,ar,bw,_,d0⟩:=p;refine bL (d0 A (iW [I] X) D₂ az bg ok bw) (fun f se p=>?_) fun _ _ x=>x.elim;obtain ⟨bc,bz,D₃,bq,f',rfl,c9,c8,g5,im⟩:=p;have i7:=(ar.toK k).trans c9;have mj:∀i a,lk D' i=some a→a≠I:=fun j a e q=>(m'.sep j a e).x (nC (by simp [q]));have w7:=W.frame _ _ _ G fun b hb o e=>by
   refine i7.keep b o e ?_ ?_
   ·rcases Z b hb with rfl|⟨z,_,_⟩
    ·exact t
    ·exact z
   ·intro j ej;clear s hP eI bw m1 ag;rcases Z b hb with rfl|⟨_,z2,g,z3⟩
    ·exact mj j b ej rfl
    ·rcases st.new j b ej with q|q
     ·exact z2 j q
     ·rw [z3]at q;exact Ly q
  exact Pe fk (Eb t) (Eb B) (Eb oe) (ah.trans i7) c8 g5 im lt w7
 ·obtain rfl:i=N:=lX hi ge;refine W.done _ _ _ sx fun h₁ C d=>xG ?_;refine ⟨h₁,C,D',σ',.next,rfl,⟨fun b o e H hd=>d b o (fun q=>by rw [aM.mp q,c]at e;exact hU e) (st.keep b o e H hd),st.ext,st.new,fun b o e=>?_⟩,(m'.leave fk (Eb t) (Eb B) (Eb oe) d),J8.next,done σ' sg⟩;obtain ⟨g,L⟩:=st.al b o e;exact ⟨g,d b g (fun q=>by rw [aM.mp q,c]at e;exact hU e) L⟩
end
section
set_option backward.match.sparseCases false
def nF{α β:Type}(g:α→Option β):List α→Option (List β)
 |[]=>some []
 |a::l=>ob (g a) fun b=>ob (nF g l) fun r=>some (b::r)
theorem A1{a b:Type}{g:a→Option b}:nF g []=(some []):=rfl
theorem A0{c d:Type}{g:c→Option d}{a l}:nF g (a::l)=(ob (g a) fun b=>ob (nF g l) fun r=>some (b::r)):=rfl
inductive aMc{α β:Type}(g:α→Option β)(a:α)(l:List α)(l':List β):Prop
 |mk (b:β) (r:List β) (e1:g a=some b) (e2:nF g l=some r) (e:l'=b::r)
theorem Eg{c d:Type}{g:c→Option d}{a:c}{l:List c}{l':List d}(e:nF g (a::l)=some l'):aMc g a l l':=by obtain ⟨b,f,e⟩:=dS e;obtain ⟨r,h,e⟩:=dS e;exact ⟨b,r,f,h,(eR e).symm⟩
inductive FnR(Y:iB)(h:dT)(P:V→Prop)(v:bM)(s':dE):Prop
 |mk (h':dT) (ap:Nat) (r:V) (e:s'=jK h' ap) (k:∀b o,h.get? b=some o→h'.get? b=some o) (p:r.pure=true) (l:gG [] Y h' r v) (q:P r):FnR Y h P v s'
def Ŝ(n:Nat)(f:bM)(ds:bV)(P:V→Prop):Prop:=
 ∀A (Y:iB) h tk vs,wD n A→(∀b o,S.heap.get? b=some o→h.get? b=some o)→(∀a,Y a→vC h a)→bO [] Y h ds vs→
  bT (model prog w) A (call f vs) (FnR Y h P) (fun _ _=>False) (jK h tk)
section
variable{n:Nat}{F:Fx}{σ:St}{Q:V→iS}
theorem aJb{P:V→Prop}(j:cS ds=true)(c:Ŝ n f ds P)(q:∀r,r.pure=true→P r→Q r σ):TW rV n F ds (fun vs=>call f vs) σ Q:=fun A X D h tk vs ok m r=>by
 refine bL (c A (Yf F X D) h tk vs ok m.base (fun a k=>?_) (bO.stepP (fun _ _ e _=>e) (fun _ e=>.inl e) _ _ j r)) (fun v t p=>?_) fun _ _ e=>e
 ·rcases k with z|z|⟨i,z⟩
  ·exact (m.zfr a z).2
  ·exact m.xal a z
  ·exact (m.sep i a z).h
 ·obtain ⟨h',l,b,rfl,d,g,o,s⟩:=p;exact ⟨h',l,D,σ,b,rfl,oU.grow d,m.grow d,gG.stepP (fun _ _ e _=>e) (fun _ e=>.inl e) _ _ g o,q b g s⟩
noncomputable def Uf(L:dF)(names:List (jY×rP))(s:jY):vA:=match names.lookup s with
 |some .cell=>.cel (((qW (L+1) names []).lookup s).getD 0)
 |_=>.loc L
noncomputable def W3(L:dF)(names:List (jY×rP)):Nat→lK→List (Nat×vA×jY)
 |_,[]=>[]
 |i,s::r=>(i,Uf L names s,s)::W3 L names (i+1) r
theorem Rz:W3 L names a []=([]):=rfl
theorem Ry:W3 L names i (s::r)=((i,Uf L names s,s)::W3 L names (i+1) r):=rfl
def wH(fd:wN)(L a:dF)(tab:lK):Fx where
 env:=callEnvC fd L a
 bnd:=W3 L fd.scope.names 0 tab
 Z:=L::(W3 L fd.scope.names 0 tab).map fun x=>x.2.1.adr
theorem Mg:∀{tab:lK}{i:Nat},lk (W3 L names i tab) x=some (p,s)→i≤x∧tab[x-i]?=some s∧p=Uf L names s:=by
 intro d
 induction d with
 |nil=>intro i;intro e;simp [Rz,Ry,fF,fE]at e
 |cons t tab f=>
  intro i;intro e;dsimp only [Rz,Ry,fF,fE]at e;by_cases h:x=i
  ·rw [if_pos h]at e;refine Jl e ?_;rintro rfl rfl;subst h;simp
  ·rw [if_neg h]at e;obtain ⟨a,b,c⟩:=f e;refine ⟨aS Mk a,?_,c⟩;rw [show x-i=(x-(i+1))+1 by exact aS ln5 a];exact b
end
end
theorem Ld{a:jY→Option rP}:∀{b:List (jY×bM)}{m:jY→Option bM},s∉b.map (·.1)→bindL a b m s=m s
 |[],m,_=>rfl
 |(x,v)::r,m,h=>by
  simp only [cC,aR,not_or]at h;unfold bindL;rw [Ld h.2];split
  ·exact if_neg h.1
  ·rfl
theorem Le{a:jY→Option rP}:∀{b:List (jY×bM)}{m:jY→Option bM},s∉b.map (·.1)→bindC a b m s=m s
 |[],m,_=>rfl
 |(x,v)::r,m,h=>by
  simp only [cC,aR,not_or]at h;unfold bindC;rw [Le h.2];split
  ·rfl
  ·exact if_neg h.1
theorem Qe{c:jY→Option rP}(d:c s=some .local):∀{b:List (jY×bM)}{m:jY→Option bM},(b.map (·.1)).Nodup→(s,v)∈b→bindL c b m s=some v
 |(x,u)::r,m,a,f=>by
  simp only [cC,lV]at a;unfold bindL;rcases aR.mp f with e|e
  ·refine soT e ?_;rintro rfl rfl;rw [Ld a.1,if_pos d,if_pos rfl]
  ·exact Qe d a.2 e
theorem Qf{c:jY→Option rP}(d:c s≠some .local):∀{b:List (jY×bM)}{m:jY→Option bM},(b.map (·.1)).Nodup→(s,v)∈b→bindC c b m s=some v
 |(x,u)::r,m,a,f=>by
  simp only [cC,lV]at a;unfold bindC;rcases aR.mp f with e|e
  ·refine soT e ?_;rintro rfl rfl;rw [Le a.1,if_neg d,if_pos rfl]
  ·exact Qf d a.2 e
def Ba:Nat→bV→List (Nat×V)
 |_,[]=>[]
 |i,d::r=>(i,d)::Ba (i+1) r
theorem U9:Ba a []=([]):=rfl
theorem U8:Ba i (d::r)=((i,d)::Ba (i+1) r):=rfl
theorem Va:∀{ds:bV}{i:Nat},lk (Ba i ds) x=some v→i≤x∧ds[x-i]?=some v
 |[],i,e=>by simp [U9,U8,fF,fE]at e
 |d::ds,i,e=>by
  simp only [U9,U8,fF,fE]at e;by_cases h:x=i
  ·rw [if_pos h]at e;refine nW e ?_;rintro rfl;subst h;simp
  ·rw [if_neg h]at e;obtain ⟨a,b⟩:=Va e;refine ⟨aS Mk a,?_⟩;rw [show x-i=(x-(i+1))+1 by exact aS ln5 a];simpa using b
theorem R0:∀{tab:lK}{i x:Nat},i≤x→tab[x-i]?=some s→lk (W3 L names i tab) x=some (Uf L names s,s)
 |[],i,x,_,e=>by simp at e
 |t::tab,i,x,hx,e=>by
  simp only [Rz,Ry,fF,fE];by_cases h:x=i
  ·subst h;simp at e;simp [e]
  ·rw [if_neg h];refine R0 (aS aAv hx h) ?_;rw [show x-i=(x-(i+1))+1 by exact aS aLb hx h]at e;simpa using e
structure kO(fd:wN)(tab:lK):Prop where
 co:fd.scope.isCoroutine=false
 gen:fd.scope.isGenerator=false
 kind:fd.scope.kind=.function
 clo:fd.closure=[]
 nodup:tab.Nodup
 names:∀s∈tab,fd.scope.names.lookup s=some .local∨(fd.scope.names.lookup s=some .cell∧∀n,((qW n fd.scope.names []).lookup s).isSome=true)
section
variable{fd:wN}{tab:lK}
theorem P8(L:Nat)(names:List (jY×rP)):CellsOk (pushCells ⟨aE7 (L+1) {cls:=.none},{}⟩ names) (L+1) (qW (L+1) names []):=by have:=cellsFrom_ok names ⟨aE7 (L+1) {cls:=.none},{}⟩ (L+1) [] ⟨fun _ _ a=>(nomatch a),Oh⟩ (by simp);simpa using this
theorem kO.fx(d:kO fd tab)(L a:dF):iL (wH fd L a tab)where
 kind:=d.kind
 inZ:=fun x p s e=>bB _ (sH.mpr ⟨_,ý e,rfl⟩)
 dist:=fun x y p s A f e g t=>by
  replace e:=Mg e;obtain ⟨_,h,rfl⟩:=e;replace g:=Mg g;obtain ⟨_,i,rfl⟩:=g;have u:=aG h;have j:s≠f:=fun q=>t (by subst q;have l1:=(cW.mp h).1;have:=(oX l1 d.nodup).mp (h.trans i.symm);exact aS 0x40208040040204595462b189600ccc614cc6002 this);have ok:=P8 L fd.scope.names;unfold Uf;rcases d.names s u with q|⟨q,k⟩<;>rcases d.names f (aG i)with r|⟨r,l⟩<;>rw [q,r]
  ·exact .inr ⟨L,rfl,rfl,j⟩
  ·obtain ⟨c,b⟩:=fN.mp (l (L+1));refine .inl ?_;rw [b];have:=(ok.empty _ _ (mem_of_lookup b)).2;exact fM this
  ·obtain ⟨c,b⟩:=fN.mp (k (L+1));refine .inl ?_;rw [b];have:=(ok.empty _ _ (mem_of_lookup b)).2;exact jU this
  ·obtain ⟨c,b⟩:=fN.mp (k (L+1));obtain ⟨v,m⟩:=fN.mp (l (L+1));refine .inl ?_;refine (?_:((qW (L+1) fd.scope.names []).lookup s).getD 0≠((qW (L+1) fd.scope.names []).lookup f).getD 0);rw [b,m];intro (z:c=v);exact j (name_of_addr ok.apart (mem_of_lookup b) (z▸mem_of_lookup m))
end
noncomputable def F0(env:Env):Fx:=⟨env,[],[]⟩
section
variable{n:Nat}{fd:wN}{tab:lK}{fa:dF}{o:wM}{body:List vD}{ds:bV}{P:V→Prop}
theorem Bb{s:dE}{R:xH→tU}
  (i:A.depth<recursionLimit) (j:s.heap.get? a=some o) (k:o.data=.func fd) (l:s.heap.NoLimit) (m:s.heap.CodeRec fd.code fd.qualname)
  (p:fd.body=.stmts body) (r:BindsTo s fd ⟨t,[]⟩ binds) (u:fd.closure=[])
  (y:∀x∈binds,fd.scope.names.lookup x.1=some .local∨(fd.scope.names.lookup x.1=some .cell∧((qW (s.heap.objs.size+1) fd.scope.names []).lookup x.1).isSome=true))
  (h:∀g,InCallC s (callEnvC fd s.heap.objs.size a).locals (bindL (callEnvC fd s.heap.objs.size a).kindOf binds fun _=>aF) (callEnvC fd s.heap.objs.size a).cells
    (bindC (callEnvC fd s.heap.objs.size a).kindOf binds fun _=>aF) g→
   bT (model prog w) (A.deeper (callEnvC fd s.heap.objs.size a)) (execs body (callEnvC fd s.heap.objs.size a)) (fun f b=>R (.ok (.ret (match f with|.ret v=>v|_=>.none))) b)
    (fun e b=>bT (model prog w) (A.deeper (callEnvC fd s.heap.objs.size a)) (leaving (callEnvC fd s.heap.objs.size a) e) (fun _ c=>R (.error e) c) (fun z c=>R (.error z) c) b) g)
  (d:fd.scope.isCoroutine=false) (B:fd.scope.isGenerator=false) (C:fd.scope.kind=.function):
  jI (model prog w) A (.call (.ref a) ⟨t,[]⟩) R s:=by
 refine codeAny_call_function i j k d B p m (r _ _ _ _ ?_);refine u▸?_;refine wpAny_newFunctionEnv_cells C y fun env D b x=>?_;subst D;exact ⟨l.keeps x.toInCall.keep,codeAny_func (h b x)⟩
theorem ĸ{Y:iB}{R:xH→tU}(d:kO fd tab)(j5:S.heap.get? fa=some o)(dq:o.data=.func fd)(d6:S.heap.NoLimit)(jl:S.heap.CodeRec fd.code fd.qualname)(dr:fd.body=.stmts body)
  (dh:BindsTo (jK h tk) fd ⟨Q,[]⟩ ((tab.take ds.length).zip vs)) (T:ds.length≤tab.length) (ok:wD (n+1) A) (C:iZ (F0 env) Y D ⟨[],cs,nx⟩ h) (hr:bO D (Yf (F0 env) Y D) h ds vs)
  (k:∀h₁ W,(∀b o,h.get? b=some o→h₁.get? b=some o)→(∀a∈(wH fd h.objs.size fa tab).Z,h.get? a=aF)→iZ (wH fd h.objs.size fa tab) Y D ⟨Ba 0 ds,cs,nx⟩ h₁→wD n (A.deeper (wH fd h.objs.size fa tab).env)→
   bT (model prog w) (A.deeper (wH fd h.objs.size fa tab).env) (execs body (wH fd h.objs.size fa tab).env) (fun f s'=>R (.ok (.ret (match f with|.ret v=>v|_=>.none))) s') (fun _ _=>False) (jK h₁ W)):
  jI (model prog w) A (.call (.ref fa) ⟨Q,[]⟩) R (jK h tk):=by
 have F:=C.base;have X:((tab.take ds.length).zip vs).map (·.1)=tab.take ds.length:=by rw [List.map_fst_zip];simp only [mP,(hr.length)];exact aS 0x598c52104ce1002
 refine Bb (by have:=ok.dep;exact aS 0x6315080a1220838746003 this) (F _ _ j5) dq (d6.keeps F) (jl.keeps F) dr dh d.clo (fun x hx=>?_) (fun ew G=>?_) d.co d.gen d.kind
 ·rcases d.names x.1 ((fun x hx=>List.mem_of_mem_take (Ln hx).1:∀x∈(tab.take ds.length).zip vs,x.1∈tab) x hx)with q|⟨q,H⟩
  ·exact .inl q
  ·exact .inr ⟨q,H _⟩
 ·obtain ⟨h₁,W,e⟩:=G.toInCall.same;have m:∀b o,h.get? b=some o→h₁.get? b=some o:=fun b o q=>by have:=G.toInCall.keep b o q;replace this:=e▸this;exact this
  have I:=G.toInCall.ns;replace I:=e▸I;have O:=G.cell;replace O:=e▸O;have hL:=eV h;have Z:∀s∈tab,h.get? (Uf h.objs.size fd.scope.names s).adr=aF∧uD h₁ (Uf h.objs.size fd.scope.names s)∧vC h₁ (Uf h.objs.size fd.scope.names s).adr:=fun s l=>by
   unfold Uf;rcases d.names s l with q|⟨q,H⟩<;>refine q▸?_
   ·obtain ⟨g,es,ep,y,r⟩:=I;exact ⟨hL,⟨_,g,es,ep,y,r⟩,g,y⟩
   ·obtain ⟨c,J⟩:=fN.mp (H (h.objs.size+1));refine (?_:h.get? (((qW (h.objs.size+1) fd.scope.names []).lookup s).getD 0)=_∧uD h₁ (.cel (((qW (h.objs.size+1) fd.scope.names []).lookup s).getD 0))∧vC h₁ (((qW (h.objs.size+1) fd.scope.names []).lookup s).getD 0));refine J▸?_;have jk:=J;have ic:=O s c jk;refine ⟨?_,⟨_,ic⟩,let ⟨g,y,_⟩:=ic;⟨g,y⟩⟩
    cases q:h.get? c with
    |none=>exact q
    |some g=>exact absurd (dQ q) (kJ.mpr (kR ((G.above) s c (mem_of_lookup jk))))
  have L:∀a∈(wH fd h.objs.size fa tab).Z,h.get? a=aF∧vC h₁ a:=fun a N=>by
   rcases aR.mp N with rfl|N
   ·obtain ⟨g,_,_,y,_⟩:=I;exact ⟨hL,g,y⟩
   ·replace N:=sH.mp N;obtain ⟨⟨i,p,s⟩,B,rfl⟩:=N;have l:s∈tab∧p=Uf h.objs.size fd.scope.names s:=by
     have:∀(t:lK)(j:Nat),(i,p,s)∈W3 h.objs.size fd.scope.names j t→s∈t∧p=Uf h.objs.size fd.scope.names s:=by
      intro t
      induction t with
      |nil=>intro j h;cases h
      |cons x r ih=>
       intro j B;rcases aR.mp B with e|B
       ·cases e;exact ⟨aU,rfl⟩
       ·exact ⟨bB _ (ih _ B).1,(ih _ B).2⟩
     exact this tab 0 B
    refine l.2▸?_;exact ⟨(Z s l.1).1,(Z s l.1).2.2⟩
  have xb:∀a,Yf (wH fd h.objs.size fa tab) Y D a→Yf (F0 env) Y D a∨h.get? a=aF:=fun a q=>by
   rcases q with q|q|q
   ·exact .inr (L a q).1
   ·exact .inl (.inr (.inl q))
   ·exact .inl (.inr (.inr q))
  have sim:iZ (wH fd h.objs.size fa tab) Y D ⟨Ba 0 ds,cs,nx⟩ h₁:=by
   refine ⟨fun b o q=>m b o (F b o q),fun x v q=>?_,fun x p s q=>?_,fun i c q=>?_,C.inj,fun i a q=>?_,fun a q=>⟨?_,(L a q).2⟩,fun a q=>let ⟨o,ho⟩:=C.xal a q;⟨o,m a o ho⟩⟩
   ·obtain ⟨_,hv⟩:=Va q;have hx:x<ds.length:=(cW.mp hv).1;obtain ⟨u,hu,ru⟩:=(bO.step (fun b o e _=>m b o e) (fun _ _ e=>e) xb _ _ hr).get hv;have l:tab[x-0]?=some (tab[x]'(by lia)):=by simp
    refine ⟨Uf h.objs.size fd.scope.names (tab[x]'(aS ô T hx)),tab[x]'(aS ô T hx),u,R0 (cJ _) l,?_,ru⟩;have su:(tab[x]'(aS ô T hx),u)∈(tab.take ds.length).zip vs:=by rw [List.mem_iff_getElem?];refine ⟨x,?_⟩;rw [List.getElem?_zip_eq_some];exact ⟨by rw [List.getElem?_take,if_pos hx];trivial,by exact hu⟩
    have jm:(((tab.take ds.length).zip vs).map (·.1)).Nodup:=by simp only [X];exact d.nodup.sublist (List.take_sublist _ _)
    unfold Uf;rcases d.names _ (kW _)with q|⟨q,H⟩<;>refine q▸?_
    ·exact ⟨_,I,Qe q jm su⟩
    ·obtain ⟨c,J⟩:=fN.mp (H (h.objs.size+1));refine (?_:h₁.IsCell (((qW (h.objs.size+1) fd.scope.names []).lookup _).getD 0) (some u));refine J▸?_;have ic:=O _ c J;rw [Qf (by show fd.scope.names.lookup _≠_;rw [q];intro z;cases z) jm su]at ic;exact ic
   ·obtain ⟨_,l,rfl⟩:=Mg q;exact (Z s (aG l)).2.1
   ·obtain ⟨a,e1,e2⟩:=C.cel i c q;exact ⟨a,e1,e2.on (gG.step (fun b o e _=>m b o e) (fun _ _ e=>e) xb) (bO.step (fun b o e _=>m b o e) (fun _ _ e=>e) xb) fun o=>m _ o⟩
   ·obtain ⟨a1,a2,a3,⟨g,a4⟩,a5⟩:=C.sep i a q;exact ⟨fun z=>by (rw [(L a z).1]at a4;exact hU a4),a2,a3,⟨g,m _ _ a4⟩,a5⟩
   ·cases q':S.heap.get? a with
    |none=>rfl
    |some g=>have z:=(L a q).1;rw [F a g q']at z;exact Ly z
  simp only [e];exact bL (k h₁ W m (fun a q=>(L a q).1) sim (⟨ok.hd,by have:=ok.dep;refine (?_:A.depth+1+2*n<_);exact aS 0x318a8488074641c0a1220838746003 this,by have:=ok.uni;refine (?_:A.units+3+10*n+100<_);exact aS 0x6315091ce1d100e8e8d980a1239c3a20838747003 this⟩)) (fun _ _ x=>x) fun _ _ x=>x.elim
theorem aLr{Y:iB}{R:xH→tU}(d:kO fd tab)(g:S.heap.get? fa=some o)(l:o.data=.func fd)(m:S.heap.NoLimit)(r:S.heap.CodeRec fd.code fd.qualname)(t:fd.body=.stmts body)
  (u:bindArgs fd ⟨vs,[]⟩=pure ((tab.take ds.length).zip vs)) (y:ds.length≤tab.length) (ok:wD (n+1) A) (z:∀b o,S.heap.get? b=some o→h.get? b=some o) (B:∀a,Y a→vC h a) (C:bO D Y h ds vs)
  (F:∀i a,lk D i=some a→Y a) (G:cS ds=true)
  (k:∀h₁ H,(∀b o,h.get? b=some o→h₁.get? b=some o)→(∀a∈(wH fd h.objs.size fa tab).Z,h.get? a=aF)→iZ (wH fd h.objs.size fa tab) Y [] ⟨Ba 0 ds,[],0⟩ h₁→wD n (A.deeper (wH fd h.objs.size fa tab).env)→
   bT (model prog w) (A.deeper (wH fd h.objs.size fa tab).env) (execs body (wH fd h.objs.size fa tab).env) (fun f I=>R (.ok (.ret (match f with|.ret v=>v|_=>.none))) I) (fun _ _=>False) (jK h₁ H)):
  jI (model prog w) A (.call (.ref fa) ⟨vs,[]⟩) R (jK h tk):=
 ĸ (env:=callEnvC fd h.objs.size fa) d g l m r t (aE5 u) y ok ⟨z,fun x v q=>by simp [fF,fE]at q,fun x p s q=>by simp [F0,fF,fE]at q,fun i c q=>by simp [fF,fE]at q,fun i j a q=>by simp [fF,fE]at q,fun i a q=>by simp [fF,fE]at q,fun a q=>(by cases q),B⟩
  (bO.stepP (fun _ _ e _=>e) (fun a q=>by
   rcases q with q|q|⟨i,q⟩
   ·cases q
   ·exact .inl q
   ·simp [fF,fE]at q) _ _ G C) k
end
section
set_option backward.match.sparseCases false
def aFy(g:V→nX):gM→nX
 |.list l=>(nF g l).map .lst
 |.dict ks l=>(nF g l).map (.dct ks)
 |.attrs _=>aF
 |.mat _=>aF
def aJk(k:Nat)(cs:List (Nat×gM))(g:V→nX):V→nX
 |.tup l=>(nF g l).map .tup
 |.lst l=>(nF g l).map .lst
 |.mt l=>(nF g l).map .mt
 |.dct ks l=>(nF g l).map (.dct ks)
 |.ref n=>if n<k then some (.ref n)else ob (lk cs n) fun c=>aFy g c
 |.inst n=>if n<k then some (.inst n)else aF
 |.bm id s=>(g s).map (.bm id)
 |_=>aF
def rA:Nat→Nat→List (Nat×gM)→V→nX
 |0,_,_,_=>aF
 |f+1,k,cs,v=>if v.pure=true then some v else aJk k cs (rA f k cs) v
theorem nB{g:V→nX}{D:lQ}{Y:iB}{h:dT}{D':lQ}{Y':iB}{h':dT}(c:∀v a u,g v=some a→gG D Y h v u→gG D' Y' h' a u):
  ∀{l l':bV}{us:fZ},nF g l=some l'→bO D Y h l us→bO D' Y' h' l' us:=by
 intro l
 induction l with
 |nil=>intro l' us e r;refine nW e ?_;rintro rfl;exact r
 |cons v l d=>intro l' us e r;replace e:=Eg e;obtain ⟨b,p,f,i,rfl⟩:=e;obtain ⟨u,j,rfl,k,m⟩:=r;exact ⟨u,j,rfl,c v b u f k,d i m⟩
theorem Y1.imp{P:dF→fZ→Prop}{Y Y':iB}{v:bM}{L L':fZ→Prop}(r:Y1 P Y v L)(b:∀a,¬Y a→¬Y' a)(c:∀xs,L xs→L' xs):Y1 P Y' v L':=let ⟨a,xs,e,n,p,q⟩:=r;⟨a,xs,e,b a n,p,c xs q⟩
def tF(k:Nat):lQ→lQ
 |[]=>[]
 |(n,a)::r=>if n<k then (n,a)::tF k r else tF k r
theorem Qh{k:Nat}:tF k []=([]):=rfl
theorem Qg{k:Nat}{n a r}:tF k ((n,a)::r)=(if n<k then (n,a)::tF k r else tF k r):=rfl
theorem qN(k:Nat):∀(D:lQ)(n:Nat),lk (tF k D) n=if n<k then lk D n else aF:=by
 intro d
 induction d with
 |nil=>intro n;simp [Qh,Qg,fF,fE]
 |cons f r b=>
  obtain ⟨m,a⟩:=f;intro n;simp only [Qh,Qg];by_cases h:m<k
  ·rw [if_pos h];simp only [fF,fE];by_cases e:n=m
   ·subst e;simp [h]
   ·simp only [if_neg e];exact b n
  ·rw [if_neg h,b n];by_cases c:n<k
   ·have:n≠m:=fun q=>h (q▸c);simp [fF,fE,this]
   ·simp [c]
theorem Cp{F:Fx}{X:iB}{D:lQ}{σ:St}{h:dT}(m:iZ F X D σ h)(k:Nat):∀(f:Nat)(v j:V)(u:bM),rA f k σ.cells v=some j→gG D (Yf F X D) h v u→gG (tF k D) (Yf F X (tF k D)) h j u:=by
 have t:∀a,Yf F X (tF k D) a→Yf F X D a:=fun a q=>by
  rcases q with q|q|⟨n,q⟩
  ·exact .inl q
  ·exact .inr (.inl q)
  ·rw [qN]at q;exact .inr (.inr ⟨n,(iC q).right⟩)
 have p:∀a,¬Yf F X D a→¬Yf F X (tF k D) a:=fun a q z=>q (t a z);intro f
 induction f with
 |zero=>exact fun v j u e _=>hU e
 |succ f g=>
  intro v j u e r;have e:(if v.pure=true then some v else aJk k σ.cells (rA f k σ.cells) v)=some j:=e;by_cases G:v.pure=true
  ·replace e:=(if_pos G)▸e;refine nW e ?_;rintro rfl;exact gG.stepP (fun _ _ e _=>e) (fun a q=>.inl (t a q)) _ _ G r
  ·replace e:=(if_neg G)▸e;clear G
   cases v with
   |tup l=>obtain ⟨l',b,rfl⟩:=cH.mp e;exact Y1.imp r p fun xs=>nB g b
   |lst l=>obtain ⟨l',b,rfl⟩:=cH.mp e;exact Y1.imp r p fun xs=>nB g b
   |mt l=>obtain ⟨l',b,rfl⟩:=cH.mp e;exact Y1.imp r p fun xs=>nB g b
   |dct ks l=>obtain ⟨l',b,rfl⟩:=cH.mp e;exact Y1.imp r p fun xs=>nB g b
   |ref i=>
    have e:(if i<k then some (V.ref i)else ob (lk σ.cells i) fun c=>aFy (rA f k σ.cells) c)=some j:=e;obtain ⟨a,rfl,d⟩:=r;by_cases hi:i<k
    ·replace e:=(if_pos hi)▸e;refine nW e ?_;rintro rfl;exact ⟨a,rfl,by rw [qN,if_pos hi];exact d⟩
    ·rw [if_neg hi]at e;replace e:=dS e;obtain ⟨c,H,e⟩:=e;replace H:=m.cel i c H;obtain ⟨O,b,y⟩:=H;replace b:=d▸b;refine nW b ?_;rintro rfl;have A:¬Yf F X (tF k D) a:=fun z=>by
      rcases z with q|q|⟨n,q⟩
      ·exact (m.sep i a d).z q
      ·exact (m.sep i a d).x q
      ·rw [qN]at q;obtain ⟨J,q⟩:=iC q;exact hi (m.inj n i a q d▸J)
     cases c with
     |list l=>refine nn fun I=>?_;obtain ⟨l',b,rfl⟩:=cH.mp e;obtain ⟨xs,B,C⟩:=y;refine I ?_;exact ⟨a,xs,rfl,A,B,nB g b C⟩
     |dict ks l=>obtain ⟨l',b,rfl⟩:=cH.mp e;refine nn fun I=>?_;obtain ⟨xs,B,C⟩:=y;refine I ?_;exact ⟨a,xs,rfl,A,B,nB g b C⟩
     |attrs as=>exact hU e
     |mat Q=>exact hU e
   |inst i=>replace e:=iC e;obtain ⟨hi,e⟩:=e;refine nW e ?_;rintro rfl;obtain ⟨a,x,rfl,hx,d,L⟩:=r;exact ⟨a,x,rfl,p x hx,by rw [qN,if_pos hi];exact d,L⟩
   |bm id s=>obtain ⟨R,b,rfl⟩:=cH.mp e;obtain ⟨a,N,rfl,d,B,C⟩:=r;exact ⟨a,N,rfl,p a d,B,g _ _ _ b C⟩
   |none=>exact hU e
   |bool _=>exact hU e
   |int _=>exact hU e
   |str _=>exact hU e
   |scr _=>exact hU e
   |set0=>exact hU e
   |fn _=>exact hU e
noncomputable def xB:Nat:=30
theorem qJ{b c:Type}{x:Option b}{f:b→Option c}{a:b}{r:Option c}(e:x=some a)(q:f a=r):ob x f=r:=by subst e;exact q
def Mi(g:V→nX):List (Nat×V)→Option (List (Nat×V))
 |[]=>some []
 |(x,v)::r=>ob (g v) fun v'=>ob (Mi g r) fun r'=>some ((x,v')::r')
theorem cU{g:V→nX}{x:Nat}{v a:V}{r b:List (Nat×V)}(e:g v=some a)(c:Mi g r=some b):Mi g ((x,v)::r)=some ((x,a)::b):=qJ e (qJ c rfl)
theorem aAz{g:V→nX}{l l':List (Nat×V)}{x:Nat}{c:V}(e:Mi g l=some l')(h:lk l' x=some c):∃v,lk l x=some v∧g v=some c:=by
 induction l generalizing l' with
 |nil=>obtain rfl:=eR e;cases h
 |cons p r d=>
  obtain ⟨y,v⟩:=p;obtain ⟨j,f,e⟩:=dS e;obtain ⟨k,i,e⟩:=dS e;obtain rfl:=eR e;by_cases q:x=y
  ·exact ⟨v,if_pos q,f.trans ((if_pos q).symm.trans h)⟩
  ·obtain ⟨v,a,b⟩:=d i ((if_neg q).symm.trans h);exact ⟨v,(if_neg q).trans a,b⟩
def zO(g:V→nX):mH→Option mH
 |[]=>some []
 |(x,v)::r=>ob (g v) fun v'=>ob (zO g r) fun r'=>some ((x,v')::r')
theorem Hh{g:V→nX}{x:jY}{v a:V}{r b:mH}(e:g v=some a)(c:zO g r=some b):zO g ((x,v)::r)=some ((x,a)::b):=qJ e (qJ c rfl)
theorem Pa{g:V→nX}{l l':mH}{p:jY×V}(e:zO g l=some l')(h:p∈l'):∃v,(p.1,v)∈l∧g v=some p.2:=by
 induction l generalizing l' with
 |nil=>obtain rfl:=eR e;cases h
 |cons q r d=>
  obtain ⟨y,v⟩:=q;obtain ⟨c,f,e⟩:=dS e;obtain ⟨j,i,e⟩:=dS e;obtain rfl:=eR e;rcases aR.mp h with q|q
  ·subst q;exact ⟨v,aU,f⟩
  ·obtain ⟨c,a,b⟩:=d i q;exact ⟨c,bB _ a,b⟩
def Js(g:V→nX):gM→Option gM
 |.list l=>(nF g l).map .list
 |.dict ks l=>(nF g l).map (.dict ks)
 |.attrs as=>(zO g as).map .attrs
 |.mat m=>some (.mat m)
def tT(k:Nat)(g:V→nX):List (Nat×gM)→Option (List (Nat×gM))
 |[]=>some []
 |(n,c)::r=>if n<k then (ob (Js g c) fun c'=>ob (tT k g r) fun r'=>some ((n,c')::r'))else tT k g r
theorem þ{k:Nat}{g:V→nX}{l l':List (Nat×gM)}{n:Nat}{d:gM}(e:tT k g l=some l')(h:lk l' n=some d):n<k∧∃c,lk l n=some c∧Js g c=some d:=by
 induction l generalizing l' with
 |nil=>obtain rfl:=eR e;cases h
 |cons p r f=>
  obtain ⟨y,v⟩:=p;by_cases hy:y<k
  ·replace e:=(if_pos hy).symm.trans e;obtain ⟨m,i,e⟩:=dS e;obtain ⟨s,j,e⟩:=dS e;obtain rfl:=eR e;by_cases q:n=y
   ·exact ⟨q▸hy,v,if_pos q,i.trans ((if_pos q).symm.trans h)⟩
   ·obtain ⟨a,v,b,c⟩:=f j ((if_neg q).symm.trans h);exact ⟨a,v,(if_neg q).trans b,c⟩
  ·obtain ⟨a,v,b,c⟩:=f ((if_neg hy).symm.trans e) h;exact ⟨a,v,(if_neg fun q:n=y=>hy (q▸a)).trans b,c⟩
def frz(k:Nat)(σ:St):Option St:=ob (Mi (rA xB k σ.cells) σ.loc) fun l=>ob (tT k (rA xB k σ.cells) σ.cells) fun c=>some ⟨l,c,k⟩
theorem Sz{k:Nat}{σ σ':St}(e:frz k σ=some σ'):Wk k σ σ':=fun F X D h fk m=>by
 obtain ⟨l,Q,e⟩:=dS e;obtain ⟨c,R,e⟩:=dS e;obtain rfl:=eR e;have r:=fun v T u=>Cp m k xB v T u;have f:∀n a,lk (tF k D) n=some a→n<k∧lk D n=some a:=fun n a q=>by
  rw [qN]at q;split at q
  ·exact ⟨by assumption,q⟩
  ·exact hU q
 refine ⟨tF k D,⟨m.base,fun x v q=>?_,m.frm,fun n c' q=>?_,fun n J a q y=>m.inj n J a (f n a q).2 (f J a y).2,fun n a q=>?_,m.zfr,m.xal⟩,fun n a g q=>by rw [qN,if_pos g];exact q,fun n a q=>(f n a q).2⟩
 ·obtain ⟨W,i,d⟩:=aAz Q q;obtain ⟨p,s,u,a1,b,z⟩:=m.loc x W i;exact ⟨p,s,u,a1,b,r _ _ _ d z⟩
 ·obtain ⟨g,L,i,d⟩:=þ R q;replace i:=m.cel n L i;obtain ⟨a,a1,b⟩:=i;refine ⟨a,by rw [qN,if_pos g];exact a1,?_⟩
  cases L with
  |list l'=>obtain ⟨N,j,rfl⟩:=cH.mp d;obtain ⟨xs,hx,A⟩:=b;exact ⟨xs,hx,nB r j A⟩
  |dict ks l'=>obtain ⟨N,j,rfl⟩:=cH.mp d;obtain ⟨xs,hx,A⟩:=b;exact ⟨xs,hx,nB r j A⟩
  |attrs as=>obtain ⟨N,j,rfl⟩:=cH.mp d;obtain ⟨O,B,C,G⟩:=b;refine ⟨O,B,C,fun p t=>?_⟩;obtain ⟨v,c1,c2⟩:=Pa j t;obtain ⟨u,H,I⟩:=G _ c1;exact ⟨u,H,r _ _ _ c2 I⟩
  |mat O=>
   refine nW d ?_;rintro rfl;refine nn fun Y=>?_;obtain ⟨as,ok,Z,B,C,G⟩:=b;refine Y ?_;refine ⟨as,ok,Z,B,C,fun p t=>?_⟩;obtain ⟨u,H,I⟩:=G _ t;exact ⟨u,H,gG.stepP (fun _ _ e _=>e) (fun a q=>by
    rcases q with q|q|⟨n,q⟩
    ·exact .inl (.inl q)
    ·exact .inl (.inr (.inl q))
    ·exact .inl (.inr (.inr ⟨n,(f n a q).2⟩))) _ _ (ok.pure p t) I⟩
 ·obtain ⟨g,y⟩:=f n a q;obtain ⟨a1,b,z,a4,a5⟩:=m.sep n a y;exact ⟨a1,b,z,a4,g⟩
noncomputable def Fc(l:List (Nat×V)):nH→List (Nat×V)
 |[]=>[]
 |x::xs=>match lk l x with
  |some v=>(x,v)::Fc l xs
  |aF=>Fc l xs
theorem Pk{l:List (Nat×V)}:Fc l []=([]):=rfl
theorem Pj{l:List (Nat×V)}{x xs}:Fc l (x::xs)=(match lk l x with
 |some v=>(x,v)::Fc l xs
 |aF=>Fc l xs):=rfl
theorem ÿ{l:List (Nat×V)}{x:Nat}{v:V}:∀{xs:nH},lk (Fc l xs) x=some v→lk l x=some v:=by
 intro b
 induction b with
 |nil=>intro e;simp [Pk,Pj,fF,fE]at e
 |cons y xs a=>
  intro e;simp only [Pk,Pj]at e
  cases q:lk l y with
  |none=>rw [q]at e;exact a e
  |some u=>
   replace e:=q▸e;simp only [fF,fE]at e;split at e
   ·rename_i h;subst h;refine nW e ?_;rintro rfl;exact q
   ·exact a e
def C1(xs:nH)(σ:St):St:={σ with loc:=Fc σ.loc xs}
theorem ā{k:Nat}{xs:nH}{σ:St}:Wk k σ (C1 xs σ):=fun F X D h fk m=>
 ⟨D,⟨m.base,fun x v e=>m.loc x v (ÿ e),m.frm,m.cel,m.inj,m.sep,m.zfr,m.xal⟩,fun _ _ _ e=>e,fun _ _ e=>e⟩
def Gf(xs:nH)(k:Nat)(σ:St):Option St:=frz k (C1 xs σ)
theorem B4{k:Nat}{xs:nH}{σ σ':St}(e:Gf xs k σ=some σ'):Wk k σ σ':=ā.trans (Sz e)
theorem pF{f k:Nat}{cs:List (Nat×gM)}{v:V}(h:v.pure=true):rA (f+1) k cs v=some v:=if_pos h
theorem eA{k:Nat}{cs:List (Nat×gM)}{v:V}(h:v.pure=true):rA xB k cs v=some v:=pF h
theorem Kq{f k:Nat}{cs:List (Nat×gM)}:∀{vs:bV},cS vs=true→nF (rA (f+1) k cs) vs=some vs:=by
 intro vs
 induction vs with
 |nil=>intro _;rfl
 |cons v r b=>intro a;simp only [cP,cO,fU]at a;simp only [A1,A0];rw [b a.2,pF a.1];rfl
theorem F7{f k n:Nat}{cs:List (Nat×gM)}(a:¬n<k):rA (f+1) k cs (.ref n)=ob (lk cs n) fun c=>aFy (rA f k cs) c:=by refine (?_:(if n<k then _ else _)=_);rw [if_neg a]
theorem oZ{a b:Type}{g:a→Option b}{v:a}{c:b}{r:List a}{d:List b}(e:g v=some c)(f:nF g r=some d):nF g (v::r)=some (c::d):=by simp only [A1,A0];rw [e,f];rfl
theorem F6{f k:Nat}{cs:List (Nat×gM)}{l l':bV}(a:(V.tup l).pure=false)(e:nF (rA f k cs) l=some l'):rA (f+1) k cs (.tup l)=some (.tup l'):=
 (if_neg (by refine a▸?_;exact lE)).trans (congrArg (nD V.tup) e)
theorem μ{f k:Nat}{cs:List (Nat×gM)}{l l':bV}(a:(V.lst l).pure=false)(e:nF (rA f k cs) l=some l'):rA (f+1) k cs (.lst l)=some (.lst l'):=
 (if_neg (by refine a▸?_;exact lE)).trans (congrArg (nD V.lst) e)
def aMj(P:V→Prop):Fl→iS:=fun f σ'=>match f with
 |.ret v=>∃r,rA xB 0 σ'.cells v=some r∧r.pure=true∧P r
 |.next=>P .none
 |_=>False
def Yl(n:Nat)(f:bM)(ds:bV)(P:V→Prop):Prop:=
 ∀A (Y:iB) h tk vs,wD n A→(∀b o,S.heap.get? b=some o→h.get? b=some o)→(∀a,Y a→vC h a)→bO [] Y h ds vs→
  jI (model prog w) A (.call f ⟨vs,[]⟩) (wants (FnR Y h P) (fun _ _=>False)) (jK h tk)
section
variable{n:Nat}{fd:wN}{tab:lK}{fa:dF}{o:wM}{body:List vD}{ds:bV}{P:V→Prop}
theorem Yl.c{f:bM}(x:Yl n f ds P):Ŝ n f ds P:=fun A Y h tk vs ok a b d=>jH (x A Y h tk vs ok a b d)
theorem Ac(d:kO fd tab)(l:S.heap.get? fa=some o)(s:o.data=.func fd)(t:S.heap.NoLimit)(u:S.heap.CodeRec fd.code fd.qualname)(v:fd.body=.stmts body)
  (y:∀vs:fZ,vs.length=ds.length→bindArgs fd ⟨vs,[]⟩=pure ((tab.take ds.length).zip vs)) (B:ds.length≤tab.length) (C:cS ds=true)
  (D:∀L,SW 0 n (wH fd L fa tab) body ⟨Ba 0 ds,[],0⟩ (aMj P)):Yl (n+1) (.ref fa) ds P:=by
 intro A Y h tk vs ok F G c;refine aLr d l s t u v (y vs c.length) B ok F G c (fun i a q=>by simp [fF,fE]at q) C fun h₁ H I J m N=>?_;refine bL (D h.objs.size _ Y [] h₁ H N m) (fun f W p=>?_) fun _ _ x=>x;obtain ⟨h',g,D',σ',f',rfl,st,m',r,q⟩:=p;have j:∀b o,h.get? b=some o→h'.get? b=some o:=fun b o e=>st.keep b o (I b o e) (fun z=>by rw [J b z]at e;exact hU e) (fun i z=>by simp [fF,fE]at z)
 cases r with
 |brk=>exact q.elim
 |cont=>exact q.elim
 |next=>exact ⟨h',g,.none,rfl,j,rfl,rfl,q⟩
 |ret r=>refine nn fun O=>?_;obtain ⟨Q,R,k,T⟩:=q;refine O ?_;exact ⟨h',g,Q,rfl,j,k,gG.stepP (fun _ _ e _=>e) (fun _ z=>.inl (.inr (.inl z))) _ _ k (Cp m' 0 xB _ _ _ R r),T⟩
theorem aHk(d:kO fd tab)(a:S.heap.get? fa=some o)(b:o.data=.func fd)(c:S.heap.NoLimit)(e:S.heap.CodeRec fd.code fd.qualname)(f:fd.body=.stmts body)
  (g:∀vs:fZ,vs.length=ds.length→bindArgs fd ⟨vs,[]⟩=pure ((tab.take ds.length).zip vs)) (h:ds.length≤tab.length) (i:cS ds=true)
  (j:∀L,SW 0 n (wH fd L fa tab) body ⟨Ba 0 ds,[],0⟩ (aMj P)):Ŝ (n+1) (.ref fa) ds P:=
 (Ac d a b c e f g h i j).c
end
end
section
set_option backward.match.sparseCases false
noncomputable abbrev M(α:Type):=St→Option (α×St)
abbrev Bd:=gM→bV→Option (gM×V)
abbrev pV:=bV→M V
noncomputable def bd{α β:Type}(x:Option (α×St))(f:α→St→Option β):Option β:=match x with
 |some (a,σ)=>f a σ
 |aF=>aF
inductive aOh{α β:Type}(x:Option (α×St))(f:α→St→Option β)(r:β):Prop
 |mk (a:α) (σ:St) (e:x=some (a,σ)) (q:f a σ=some r)
theorem dZ{a b:Type}{x:Option (a×St)}{f:a→St→Option b}{r:b}(e:bd x f=some r):aOh x f r:=by
 cases x with
 |none=>(exact hU e)
 |some p=>exact ⟨p.1,p.2,rfl,e⟩
structure B8{β:Type}(b:β)(σ':St)(c:β)(τ:St):Prop where
 l:b=c
 r:σ'=τ
theorem B8.of{c:Type}{a b:c}(e:some (a,σ)=some (b,τ)):B8 b τ a σ:=by cases e;exact ⟨rfl,rfl⟩
theorem lM{a:Type}{b:a}{P:a→iS}(h:P b σ'):∀c τ,B8 b σ' c τ→P c τ:=by rintro _ _ ⟨rfl,rfl⟩;exact h
theorem TW.atE{b d:Type}{R:RT b d}{t:fZ→E1 b}{v:d}{X:iB}{K:b→tU}(x:TW R n F ds t σ (B8 v σ'))(ok:wD n A)(m:iZ F X D σ h)(r:bO D (Yf F X D) h ds vs)
  (k:∀a h₁ c D₁,oU F D h D₁ h₁→iZ F X D₁ σ' h₁→R D₁ (Yf F X D₁) h₁ v a→K a (jK h₁ c)):bT (model prog w) A (t vs) K (fun _ _=>False) (jK h tk):=
 x.at ok m r fun a h₁ c D₁ _ _ st m r ⟨e,f⟩=>k a h₁ c D₁ st (f▸m) (e▸r)
theorem œ{X:iB}{K:Args→tU}(b:nE F es)(x:Y3 n F c es σ (B8 us σ'))(ok:wD n A)(m:iZ F X D σ h)
  (k:∀vs h₁ a D₁,oU F D h D₁ h₁→iZ F X D₁ σ' h₁→bO D₁ (Yf F X D₁) h₁ us vs→K ⟨vs,[]⟩ (jK h₁ a)):bT (model prog w) A (evalArgs f true (backTo c (dR es F.env)) []) K (fun _ _=>False) (jK h tk):=
 pU b x ok m fun vs h₁ a D₁ _ _ st m r ⟨d,e⟩=>k vs h₁ a D₁ st (e▸m) (d▸r)
noncomputable def lim:Nat:=1048576
theorem pA:lim≤hW:=by decide
theorem U4:lim+lim≤hW:=by decide
section
variable(n:Nat)(F:Fx)
def ImT{α β:Type}(R:RT α β)(ds:bV)(t:fZ→E1 α)(g:M β):Prop:=∀σ b σ',g σ=some (b,σ')→TW R n F ds t σ (B8 b σ')
def kC(e:Expr)(g:M V):Prop:=∀σ v σ',g σ=some (v,σ')→EW n F e σ (B8 v σ')
def Ŭ(e:Expr)(g:M Bool):Prop:=∀σ v σ',g σ=some (v,σ')→BW n F e σ (B8 v σ')
def ImA(op:BoolOp)(es:List Expr)(g:M Bool):Prop:=∀σ v σ',g σ=some (v,σ')→Qk n F op es σ (B8 v σ')
def yK(ak:Pos)(es:List Expr)(g:M bV):Prop:=∀σ v σ',g σ=some (v,σ')→Y3 n F ak es σ (B8 v σ')
def ImP(e:Option Expr)(g:M (Option Int)):Prop:=∀σ v σ',g σ=some (v,σ')→PW n F e σ (B8 v σ')
def I5(t:Expr)(g:V→St→Option St):Prop:=∀σ v σ',g v σ=some σ'→GW n F t v σ (fun τ=>σ'=τ)
def Ez(s:vD)(g:Nat→M Fl):Prop:=∀k σ f σ',g k σ=some (f,σ')→XW k n F s σ (B8 f σ')
def E0(b:List vD)(g:Nat→M Fl):Prop:=∀k σ f σ',g k σ=some (f,σ')→SW k n F b σ (B8 f σ')
def Gi(t:bM→bM→E1 bM)(f:V→V→M V):Prop:=∀a b,ImT n F rV [a,b] (two t) (f a b)
end
def aJ(x:Nat):M V:=fun σ=>(lk σ.loc x).map fun v=>(v,σ)
def bQ(x:Nat)(v:V)(σ:St):Option St:=some {σ with loc:=kX x v σ.loc}
noncomputable def gK(v:V):M V:=fun σ=>some (v,σ)
def bD(f:V→V→M V)(gl gr:M V):M V:=fun σ=>bd (gl σ) fun a σ=>bd (gr σ) fun b σ=>f a b σ
def Sy(g:M Bool):M Bool:=fun σ=>bd (g σ) fun b σ=>some (!b,σ)
def mL(g h:M Bool):M Bool:=fun σ=>bd (g σ) fun b σ=>if b=true then h σ else some (false,σ)
def My(g h:M Bool):M Bool:=fun σ=>bd (g σ) fun b σ=>if b=true then some (true,σ)else h σ
def rM{α:Type}(c:M Bool)(a b:M α):M α:=fun σ=>bd (c σ) fun t σ=>if t=true then a σ else b σ
noncomputable def asB:V→Option Bool
 |.bool b=>some b
 |_=>aF
noncomputable def Iz:V→Option Int
 |.int i=>some i
 |_=>aF
def Ix:V→Option Nat
 |.ref n=>some n
 |_=>aF
def aV{β:Type}(f:V→bV→Option β):bV→Option β
 |[]=>aF
 |v::r=>f v r
def aN{β:Type}(x:Option β):bV→Option β
 |[]=>x
 |_::_=>aF
def aE{β:Type}(x:Option β)(f:V→bV→Option β):bV→Option β
 |[]=>x
 |v::r=>f v r
@[elab_as_elim] theorem nQ {a:Type} {f:V→bV→Option a} {P:bV→Prop} {r:a} (e:aV f us=some r) (k:∀v t,f v t=some r→P (v::t)):P us:=by
 cases us with
 |nil=>exact hU e
 |cons v t=>exact k v t e
@[elab_as_elim] theorem oM {a:Type} {x:Option a} {P:bV→Prop} {r:a} (e:aN x us=some r) (k:x=some r→P []):P us:=by
 cases us with
 |nil=>exact k e
 |cons v t=>exact hU e
def aL{β:Type}(σ:St)(n:Nat)(f:bV→Option β):Option β:=ob (lk σ.cells n) fun c=>ob (liC c) f
inductive AL{β:Type}(σ:St)(n:Nat)(f:bV→Option β)(r:β):Prop
 |mk (l:bV) (h:lk σ.cells n=some (.list l)) (q:f l=some r)
theorem O6{a:Type}{f:bV→Option a}{r:a}(e:aL σ n f=some r):AL σ n f r:=by
 obtain ⟨c,h,e⟩:=dS e
 cases c with
 |list l=>exact ⟨l,h,e⟩
 |dict _ _=>exact hU e
 |attrs _=>exact hU e
 |mat _=>exact hU e
theorem ŕ{a:Type}{f:bV→Option a}(h:lk σ.cells n=some (.list l)):aL σ n f=f l:=by unfold aL;rw [h];rfl
def diC:gM→Option (bH×bV)
 |.dict ks vs=>some (ks,vs)
 |_=>aF
def aD{β:Type}(σ:St)(n:Nat)(f:bH×bV→Option β):Option β:=ob (lk σ.cells n) fun c=>ob (diC c) f
inductive AD{β:Type}(σ:St)(n:Nat)(f:bH×bV→Option β)(r:β):Prop
 |mk (ks:bH) (vs:bV) (h:lk σ.cells n=some (.dict ks vs)) (q:f (ks,vs)=some r)
theorem aDl{a:Type}{f:bH×bV→Option a}{r:a}(e:aD σ n f=some r):AD σ n f r:=by
 obtain ⟨c,h,e⟩:=dS e
 cases c with
 |dict ks vs=>exact ⟨ks,vs,h,e⟩
 |list _=>exact hU e
 |attrs _=>exact hU e
 |mat _=>exact hU e
theorem aEw{a:Type}{f:bH×bV→Option a}(h:lk σ.cells n=some (.dict ks vs)):aD σ n f=f (ks,vs):=by unfold aD;rw [h];rfl
inductive Ob1{α β:Type}(c:α→V)(f:α→Option β)(v:V)(r:β):Prop
 |mk (i:α) (e:v=c i) (q:f i=some r)
@[elab_as_elim] theorem Kp {a:Type} {f:Nat→Option a} {P:V→Prop} {r:a} (e:ob (Ix v) f=some r) (k:∀n,f n=some r→P (.ref n)):P v:=by cases v<;>first|exact k _ e|exact hU e
@[elab_as_elim] theorem yR {a:Type} {f:Int→Option a} {P:V→Prop} {r:a} (e:ob (Iz v) f=some r) (k:∀n,f n=some r→P (.int n)):P v:=by cases v<;>first|exact k _ e|exact hU e
theorem Õ{a:Type}{f:Nat→Option a}{r:a}(e:ob (Ix v) f=some r):Ob1 V.ref f v r:=Kp e fun n e=>⟨n,rfl,e⟩
theorem aDk{a:Type}{f:Int→Option a}{r:a}(e:ob (Iz v) f=some r):Ob1 V.int f v r:=yR e fun n e=>⟨n,rfl,e⟩
def aIa:V→Option (bH×bV)
 |.dct ks vs=>some (ks,vs)
 |_=>aF
@[elab_as_elim] theorem aDo {a:Type} {f:bH×bV→Option a} {P:V→Prop} {r:a} (e:ob (aIa v) f=some r) (k:∀ks vs,f (ks,vs)=some r→P (.dct ks vs)):P v:=by cases v<;>first|exact k _ _ e|exact hU e
noncomputable def aL8:V→Option (String×V)
 |.bm id u=>some (id,u)
 |_=>aF
@[elab_as_elim] theorem aJy {a:Type} {f:String×V→Option a} {P:V→Prop} {r:a} (e:ob (aL8 v) f=some r) (k:∀id u,f (id,u)=some r→P (.bm id u)):P v:=by cases v<;>first|exact k _ _ e|exact hU e
noncomputable def aH8:V→Option Unit
 |.set0=>some ()
 |_=>aF
@[elab_as_elim] theorem aDm {a:Type} {f:Unit→Option a} {P:V→Prop} {r:a} (e:ob (aH8 v) f=some r) (k:f ()=some r→P .set0):P v:=by cases v<;>first|exact k e|exact hU e
def aI{β:Type}(f:Int→bV→Option β):bV→Option β:=aV fun v t=>ob (Iz v) fun i=>f i t
@[elab_as_elim] theorem Bo {a:Type} {f:Int→bV→Option a} {P:bV→Prop} {r:a} (e:aI f us=some r) (k:∀i t,f i t=some r→P (.int i::t)):P us:=
 nQ e fun v t e=>yR e fun i e=>k i t e
def aI3{β:Type}(f:Int→Int→Int→bV→Option β):bV→Option β:=aI fun a=>aI fun b=>aI fun c=>f a b c
@[elab_as_elim] theorem I0 {d:Type} {f:Int→Int→Int→bV→Option d} {P:bV→Prop} {r:d} (e:aI3 f us=some r) (k:∀a b c t,f a b c t=some r→P (.int a::.int b::.int c::t)):P us:=
 Bo e fun a _ e=>Bo e fun b _ e=>Bo e fun c t e=>k a b c t e
def J6:V→Option bV
 |.tup l=>some l
 |_=>aF
@[elab_as_elim] theorem Un {a:Type} {f:bV→Option a} {P:V→Prop} {r:a} (e:ob (J6 v) f=some r) (k:∀l,f l=some r→P (.tup l)):P v:=by cases v<;>first|exact k _ e|exact hU e
def aC1:V→Option bV
 |.mt l=>some l
 |_=>aF
@[elab_as_elim] theorem Ú {a:Type} {f:bV→Option a} {P:V→Prop} {r:a} (e:ob (aC1 v) f=some r) (k:∀l,f l=some r→P (.mt l)):P v:=by cases v<;>first|exact k _ e|exact hU e
noncomputable def aL7:V→Option bM
 |.fn u=>some u
 |_=>aF
@[elab_as_elim] theorem aJx {a:Type} {f:bM→Option a} {P:V→Prop} {r:a} (e:ob (aL7 v) f=some r) (k:∀u,f u=some r→P (.fn u)):P v:=by cases v<;>first|exact k _ e|exact hU e
noncomputable def Yh:V→Option Nat
 |.inst n=>some n
 |_=>aF
@[elab_as_elim] theorem Ù {a:Type} {f:Nat→Option a} {P:V→Prop} {r:a} (e:ob (Yh v) f=some r) (k:∀n,f n=some r→P (.inst n)):P v:=by cases v<;>first|exact k _ e|exact hU e
def atC:gM→Option mH
 |.attrs as=>some as
 |_=>aF
def aA{β:Type}(σ:St)(n:Nat)(f:mH→Option β):Option β:=ob (lk σ.cells n) fun c=>ob (atC c) f
@[elab_as_elim] theorem aDp {a:Type} {f:mH→Option a} {P:gM→Prop} {r:a} (e:ob (atC c) f=some r) (k:∀as,f as=some r→P (.attrs as)):P c:=by cases c<;>first|exact k _ e|exact hU e
inductive AA{β:Type}(σ:St)(n:Nat)(f:mH→Option β)(r:β):Prop
 |mk (as:mH) (h:lk σ.cells n=some (.attrs as)) (q:f as=some r)
theorem Ø{a:Type}{f:mH→Option a}{r:a}(e:aA σ n f=some r):AA σ n f r:=by obtain ⟨c,h,e⟩:=dS e;revert h;exact aDp e fun as e h=>⟨as,h,e⟩
theorem aEx{a:Type}{f:mH→Option a}(h:lk σ.cells n=some (.attrs as)):aA σ n f=f as:=by unfold aA;rw [h];rfl
noncomputable def oo{α β:Type}(x:Option α)(f:α→Option β)(g:Option β):Option β:=match x with
 |some a=>f a
 |aF=>g
def aC2:V→Option bV
 |.lst l=>some l
 |_=>aF
@[elab_as_elim] theorem Rx {a:Type} {f:bV→Option a} {P:V→Prop} {r:a} (e:ob (aC2 v) f=some r) (k:∀l,f l=some r→P (.lst l)):P v:=by cases v<;>first|exact k _ e|exact hU e
noncomputable def onN{β:Type}(v:V)(x:Option β):Option β:=match v with
 |.none=>x
 |_=>aF
@[elab_as_elim] theorem aDn {a:Type} {f:Int→Option a} {g:Option a} {P:V→Prop} {r:a} (e:oo (Iz v) f g=some r) (k:∀n,f n=some r→P (.int n)) (d:g=some r→P v):P v:=by cases v<;>first|exact k _ e|exact d e
@[elab_as_elim] theorem Um {a:Type} {f:bV→Option a} {g:Option a} {P:V→Prop} {r:a} (e:oo (J6 v) f g=some r) (k:∀n,f n=some r→P (.tup n)) (d:g=some r→P v):P v:=by cases v<;>first|exact k _ e|exact d e
@[elab_as_elim] theorem Ñ {a:Type} {x:Option a} {P:V→Prop} {r:a} (e:onN v x=some r) (k:x=some r→P .none):P v:=by cases v<;>first|exact k e|exact hU e
theorem aDj{a:Type}{f:Nat→Option a}{r:a}(e:ob (Yh v) f=some r):Ob1 V.inst f v r:=Ù e fun n e=>⟨n,rfl,e⟩
noncomputable def maC:gM→Option Ey
 |.mat m=>some m
 |_=>aF
@[elab_as_elim] theorem Uo {a:Type} {f:Ey→Option a} {P:gM→Prop} {r:a} (e:ob (maC c) f=some r) (k:∀m,f m=some r→P (.mat m)):P c:=by cases c<;>first|exact k _ e|exact hU e
def aL6:V→Option bV
 |.scr l=>some l
 |_=>aF
@[elab_as_elim] theorem aF9 {a:Type} {f:bV→Option a} {P:V→Prop} {r:a} (e:ob (aL6 v) f=some r) (k:∀l,f l=some r→P (.scr l)):P v:=by cases v<;>first|exact k _ e|exact hU e
noncomputable def aL5:V→Option jY
 |.str s=>some s
 |_=>aF
@[elab_as_elim] theorem aF8 {a:Type} {f:jY→Option a} {P:V→Prop} {r:a} (e:ob (aL5 v) f=some r) (k:∀s,f s=some r→P (.str s)):P v:=by cases v<;>first|exact k _ e|exact hU e
def eE(g:M V):M Bool:=fun σ=>bd (g σ) fun v σ=>(asB v).map fun b=>(b,σ)
def bI:M bV:=fun σ=>some ([],σ)
def aK(g:M V)(h:M bV):M bV:=fun σ=>bd (g σ) fun v σ=>bd (h σ) fun vs σ=>some (v::vs,σ)
def eQ(g:M bV):M V:=fun σ=>bd (g σ) fun vs σ=>if vs.length≤lim then some (.tup vs,σ)else aF
def gV(g:M bV):M V:=fun σ=>bd (g σ) fun vs σ=>if vs.length≤lim then some (.lst vs,σ)else aF
noncomputable def aAj(c:gM)(σ:St):V×St:=(.ref σ.next,{σ with cells:=(σ.next,c)::σ.cells,next:=σ.next+1})
def mW(g:M bV):M V:=fun σ=>bd (g σ) fun vs σ=>if vs.length≤lim then some (aAj (.list vs) σ)else aF
def fY(g:M V):M (Option Int):=fun σ=>bd (g σ) fun v σ=>(Iz v).map fun i=>(some i,σ)
noncomputable def yB:M (Option Int):=fun σ=>some (aF,σ)
def iE(g:M V)(l u:M (Option Int)):M V:=fun σ=>bd (g σ) fun o σ=>bd (l σ) fun lo σ=>bd (u σ) fun hi σ=>ob (asS σ o) fun xs=>if xs.length≤lim then some (.lst (pySl xs lo hi),σ)else aF
def dP(g h:Nat→M Fl):Nat→M Fl:=fun k σ=>bd (g k σ) fun f σ=>match f with
 |.next=>h k σ
 |f=>some (f,σ)
def Ĩ(h:Nat→M Fl):Nat→M Fl:=fun k σ=>ob (frz k σ) fun σ=>h k σ
noncomputable def kY(f:Fl):Nat→M Fl:=fun _ σ=>some (f,σ)
def eS(g:M V)(t:V→St→Option St):Nat→M Fl:=fun _ σ=>bd (g σ) fun v σ=>ob (t v σ) fun σ=>some (.next,σ)
def M0(x:Nat)(f:V→V→M V)(g:M V):Nat→M Fl:=fun _ σ=>ob (lk σ.loc x) fun old=>bd (g σ) fun v σ=>bd (f old v σ) fun r σ=>some (.next,{σ with loc:=kX x r σ.loc})
def uK(c:M Bool)(a b:Nat→M Fl):Nat→M Fl:=fun k σ=>bd (c σ) fun t σ=>if t=true then a k σ else b k σ
def uA(g:M V):Nat→M Fl:=fun _ σ=>bd (g σ) fun v σ=>some (.ret v,σ)
def tE(g:M V):Nat→M Fl:=fun _ σ=>bd (g σ) fun v σ=>match v with
 |.none=>some (.next,σ)
 |.str _=>some (.next,σ)
 |_=>aF
def whG(xs:nH)(k:Nat)(t:M Bool)(b:M Fl):Nat→M Fl
 |0,_=>aF
 |n+1,σ=>bd (t σ) fun c σ=>if c=true then bd (b σ) fun f σ=>match f with
   |.next=>ob (Gf xs k σ) fun σ=>whG xs k t b n σ
   |.cont=>ob (Gf xs k σ) fun σ=>whG xs k t b n σ
   |.brk=>some (.next,σ)
   |.ret v=>some (.ret v,σ)
  else some (.next,σ)
noncomputable def aCw:Nat:=1048576
def qA(xs:nH)(t:M Bool)(b:Nat→M Fl):Nat→M Fl:=fun k σ=>if k≤σ.next then whG xs σ.next t (b σ.next) aCw σ else aF
def oD(xs:nH)(h:Nat→M Fl):Nat→M Fl:=fun k σ=>h k (C1 xs σ)
theorem aIb(e:(asB c).map (fun b=>(b,σ))=some (v,σ')):∃b,c=.bool b∧B8 v σ' b σ:=by
 cases c with
 |bool b=>exact ⟨b,rfl,.of e⟩
 |_=>exact hU e
theorem aH9(e:(Iz c).map (fun i=>(some i,σ))=some (v,σ')):∃i,c=.int i∧B8 v σ' (some i) σ:=by
 cases c with
 |int b=>exact ⟨b,rfl,.of e⟩
 |_=>exact hU e
theorem aLt(e:tE (fun σ=>some (v,σ)) 0 σ=some (f,σ')):(v=.none∨∃x,v=.str x)∧B8 f σ' .next σ:=by
 cases v with
 |none=>exact ⟨.inl rfl,.of e⟩
 |str x=>exact ⟨.inr ⟨x,rfl⟩,.of e⟩
 |_=>exact hU e
section
variable{n:Nat}{F:Fx}
theorem aBd(fk:iL F)(a:lk F.bnd x=some (p,s))(b:Ŗ F.env p s)(hd:(s== ("__debug__":jY))=false):kC n F (.Name s c) (aJ x):=fun σ v σ' e=>by
 unfold aJ at e
 cases h:lk σ.loc x with
 |none=>rw [h]at e;exact hU e
 |some u=>rw [h]at e;exact aHm fk h a b hd (.of e)
theorem bE:kC n F (.Constant (.int i) k a) (gK (.int i)):=fun σ v σ' e=>by exact aHq (.of e)
theorem iH:kC n F (.Constant (.str x) k a) (gK (.str x)):=fun σ v σ' e=>by exact aHo (.of e)
theorem pJ:kC n F (.Constant .none k a) (gK .none):=fun σ v σ' e=>by exact aBx (.of e)
theorem Hv:kC n F (.Constant (.bool b) k a) (gK (.bool b)):=fun σ v σ' e=>by exact aBz (.of e)
theorem bN{f:V→V→M V}(o:Gi n F (binaryOp c) f)(x:kC n F l d)(y:kC n F r gr):kC n F (.BinOp l c r j) (bD f d gr):=fun σ v σ' e=>by refine nn fun g=>?_;obtain ⟨a,σ₁,h,e⟩:=dZ e;obtain ⟨b,k,i,e⟩:=dZ e;refine g ?_;refine aHs ((x σ _ _ h).mono ?_);refine lM ?_;refine (y _ _ _ i).mono ?_;refine lM ?_;exact o _ _ _ _ _ e
theorem aBg{f:V→V→M V}(o:Gi n F (compareOp c) f)(x:kC n F l d)(y:kC n F r gr)(g:behindInMarks c r=false):kC n F (.Compare l [c] [r] k) (bD f d gr):=fun σ v σ' e=>by refine nn fun h=>?_;obtain ⟨a,σ₁,i,e⟩:=dZ e;obtain ⟨b,m,j,e⟩:=dZ e;refine h ?_;refine aHr g ((x σ _ _ i).mono ?_);refine lM ?_;refine (y _ _ _ j).mono ?_;refine lM ?_;exact o _ _ _ _ _ e
theorem cT{f:V→V→M V}(o:Gi n F (compareOp d) f)(x:kC n F l g)(y:kC n F r gr)(h:behindInMarks d r=false):Ŭ n F (.Compare l [d] [r] m) (eE (bD f g gr)):=fun σ v σ' e=>by obtain ⟨c,p,e,i⟩:=dZ e;replace e:=dZ e;obtain ⟨a,σ₁,j,e⟩:=e;replace e:=dZ e;obtain ⟨b,s,k,e⟩:=e;refine Nu h ((x σ _ _ j).mono ?_);refine lM ?_;refine (y _ _ _ k).mono ?_;refine lM ?_;exact (o _ _ _ _ _ e).mono (lM (aIb i))
theorem Mq(y:Ŭ n F x g):Ŭ n F (.UnaryOp .Not x c) (Sy g):=fun σ v σ' e=>by obtain ⟨a,σ₁,b,e⟩:=dZ e;refine aH5 ((y _ _ _ b).mono ?_);refine lM ?_;exact (.of e)
theorem mE(y:ImA n F a es g):Ŭ n F (.BoolOp a es b) g:=fun σ v σ' e=>aCt (y _ _ _ e)
theorem pK:ImA n F .And [] (fun σ=>some (true,σ)):=fun σ v σ' e=>by exact Qj (.of e)
theorem Mr:ImA n F .Or [] (fun σ=>some (false,σ)):=fun σ v σ' e=>by exact Te (.of e)
theorem gT(x:Ŭ n F e g)(y:ImA n F .And es h):ImA n F .And (e::es) (mL g h):=fun σ v σ' e=>by
 obtain ⟨a,σ₁,b,e⟩:=dZ e;refine N0 ((x _ _ _ b).mono ?_);refine lM ?_;cases a
 ·exact (.of e)
 ·exact y _ _ _ e
theorem B0(x:Ŭ n F e g)(y:ImA n F .Or es h):ImA n F .Or (e::es) (My g h):=fun σ v σ' e=>by
 obtain ⟨a,σ₁,b,e⟩:=dZ e;refine Qi ((x _ _ _ b).mono ?_);refine lM ?_;cases a
 ·exact y _ _ _ e
 ·exact (.of e)
theorem oR(x:Ŭ n F c d)(y:kC n F a f)(z:kC n F b g):kC n F (.IfExp c a b i) (rM d f g):=fun σ v σ' e=>by
 obtain ⟨t,σ₁,h,e⟩:=dZ e;refine aHp ((x _ _ _ h).mono ?_);refine lM ?_;cases t
 ·exact z _ _ _ e
 ·exact y _ _ _ e
theorem aO:yK n F a [] bI:=fun σ v σ' e=>by exact aHu (.of e)
theorem cR(x:kC n F e g)(y:yK n F c es h)(d:dR (e::es) F.env=(false,eval e F.env)::dR es F.env):yK n F c (e::es) (aK g h):=fun σ v σ' e=>by refine nn fun f=>?_;obtain ⟨a,σ₁,i,e⟩:=dZ e;obtain ⟨b,k,j,e⟩:=dZ e;refine f ?_;refine aB3 d ((x _ _ _ i).mono ?_);refine lM ?_;refine (y _ _ _ j).mono ?_;refine lM ?_;exact (.of e)
theorem cE(x:yK n F b es g):kC n F (.Tuple es k b) (eQ g):=fun σ v σ' e=>by
 obtain ⟨a,σ₁,c,e⟩:=dZ e;split at e
 ·refine ı ((x _ _ _ c).mono ?_);refine lM ?_;exact ⟨bZ ‹_› pA,.of e⟩
 ·exact hU e
theorem eD(x:yK n F b es g):kC n F (.List es b) (gV g):=fun σ v σ' e=>by
 obtain ⟨a,σ₁,c,e⟩:=dZ e;split at e
 ·refine aBy ((x _ _ _ c).mono ?_);refine lM ?_;exact ⟨bZ ‹_› pA,.of e⟩
 ·exact hU e
theorem gR(x:yK n F b es g):kC n F (.List es b) (mW g):=fun σ v σ' e=>by
 obtain ⟨a,σ₁,c,e⟩:=dZ e;split at e
 ·refine ĳ ((x _ _ _ c).mono ?_);refine lM ?_;exact ⟨bZ ‹_› pA,.of e⟩
 ·exact hU e
theorem dM{f:V→V→M V}(o:Gi n F (subscriptTail value c) f)(x:kC n F value d)(y:kC n F c g):kC n F (.Subscript value c k) (bD f d g):=fun σ v σ' e=>by refine nn fun h=>?_;obtain ⟨a,σ₁,i,e⟩:=dZ e;obtain ⟨b,l,j,e⟩:=dZ e;refine h ?_;refine aHn ((x σ _ _ i).mono ?_);refine lM ?_;refine (y _ _ _ j).mono ?_;refine lM ?_;exact o _ _ _ _ _ e
theorem zP:ImP n F aF yB:=fun σ v σ' e=>by exact (.of e)
theorem gU(x:kC n F e g):ImP n F (some e) (fY g):=fun σ v σ' e=>by replace e:=dZ e;obtain ⟨a,σ₁,b,e⟩:=e;exact (x _ _ _ b).mono (lM (aH9 e))
theorem PW.mono{Q Q':Option Int→iS}(x:PW n F e σ Q)(h:∀b σ',Q b σ'→Q' b σ'):PW n F e σ Q':=by
 cases e with
 |none=>exact h _ _ x
 |some e=>exact TW.mono x fun b σ' ⟨i,a,c⟩=>⟨i,a,h _ _ c⟩
theorem jP(x:kC n F value g)(y:ImP n F lower l)(z:ImP n F upper u):kC n F (.Subscript value (.Slice lower upper aF p) k) (iE g l u):=fun σ v σ' e=>by
 refine nn fun d=>?_;obtain ⟨a,σ₁,f,e⟩:=dZ e;obtain ⟨b,m,h,e⟩:=dZ e;obtain ⟨c,o,i,e⟩:=dZ e;obtain ⟨xs,j,e⟩:=dS e;refine d ?_;split at e
 ·refine Ĳ ((x _ _ _ f).mono ?_);refine lM ?_;refine (y _ _ _ h).mono ?_;refine lM ?_;refine (z _ _ _ i).mono ?_;refine lM ?_;exact ⟨xs,j,bZ ‹_› pA,.of e⟩
 ·exact hU e
theorem hV:E0 n F [] (kY .next):=fun k σ f σ' e=>by exact zJ (.of e)
theorem XW.mono{Q Q':Fl→iS}(x:XW k n F s σ Q)(y:∀f σ',Q f σ'→Q' f σ'):XW k n F s σ Q':=fun A X D h tk ok m=>by refine bL (x A X D h tk ok m) (fun f d p=>?_) fun _ _ e=>e;obtain ⟨h',a,D',σ',b,e,c,m',r,q⟩:=p;exact ⟨h',a,D',σ',b,e,c,m',r,y _ _ q⟩
theorem uZ.lower{d f:Type}{R:RT d f}{X:iB}{Q:f→iS}{a:d}{g:dE}(i:k≤j)(p:uZ R F X j D h Q a g):uZ R F X k D h Q a g:=by obtain ⟨h',l,D',σ',b,e,c,m',r,q⟩:=p;exact ⟨h',l,D',σ',b,e,⟨c.keep,fun n a m=>c.ext n a (cG m i),c.new,c.al⟩,m',r,q⟩
theorem XW.lower{Q:Fl→iS}(a:k≤b)(x:XW b n F s σ Q):XW k n F s σ Q:=fun A X D h tk ok m=>
 bL (x A X D h tk ok m) (fun _ _ p=>p.lower a) fun _ _ e=>e
theorem bF{g h:Nat→M Fl}(x:Ez n F s g)(y:E0 n F rest h):E0 n F (s::rest) (dP g h):=fun k σ f σ' e=>by
 obtain ⟨a,σ₁,b,e⟩:=dZ e;refine gX ((x k _ _ _ b).mono ?_);refine lM ?_;cases a
 ·exact y k _ _ _ e
 ·exact (.of e)
 ·exact (.of e)
 ·exact (.of e)
theorem cM{g:Nat→M Fl}(x:Ez n F s g):E0 n F [s] g:=fun k σ f σ' e=>by
 refine gX ((x k _ _ _ e).mono ?_);refine lM ?_;cases f
 ·exact zJ ⟨rfl,rfl⟩
 all_goals exact ⟨rfl,rfl⟩
theorem Vc{h:Nat→M Fl}(fk:iL F)(y:E0 n F b h):E0 n F b (Ĩ h):=fun k σ f σ' e=>by obtain ⟨σ₁,a,e⟩:=dS e;exact T5 fk (Sz a) (y k _ _ _ e)
theorem eK{h:Nat→M Fl}(fk:iL F)(y:E0 n F b h):E0 n F b (oD xs h):=fun k σ f σ' e=>T5 fk ā (y k _ _ _ e)
theorem đ(fk:iL F)(a:lk F.bnd x=some (p,s))(b:Ŗ F.env p s):I5 n F (.Name s c) (bQ x):=fun σ v σ' e=>by refine nW e ?_;rintro rfl;exact aBk fk a b rfl
theorem aBc{f:V→V→M V}(fk:iL F)(b:lk F.bnd x=some (p,s))(c:Ŗ F.env p s)(o:Gi n F (inplaceOp d) f)
  (y:kC n F e g):Ez n F (.AugAssign (.Name s pos') d e m) (M0 x f g):=fun k σ f σ' e=>by
 refine nn fun h=>?_;obtain ⟨old,i,e⟩:=dS e;obtain ⟨a,σ₁,j,e⟩:=dZ e;obtain ⟨r,t,l,e⟩:=dZ e;refine h ?_;refine aE9 fk i b c ((y _ _ _ j).mono ?_);refine lM ?_;refine (o _ _ _ _ _ l).mono ?_;refine lM ?_;exact (.of e)
theorem iQ{a b:Nat→M Fl}(x:Ŭ n F test c)(y:E0 n F body a)(z:E0 n F orelse b):Ez n F (.If test body orelse g) (uK c a b):=fun k σ f σ' e=>by
 obtain ⟨t,σ₁,d,e⟩:=dZ e;refine Tq ((x _ _ _ d).mono ?_);refine lM ?_;cases t
 ·exact z k _ _ _ e
 ·exact y k _ _ _ e
theorem kP(y:kC n F e g):Ez n F (.Return (some e) c) (uA g):=fun k σ f σ' e=>by obtain ⟨a,σ₁,b,e⟩:=dZ e;refine aE8 ((y _ _ _ b).mono ?_);refine lM ?_;exact (.of e)
theorem Xs:Ez n F (.Break a) (kY .brk):=fun k σ f σ' e=>by exact Zd (.of e)
theorem ď:Ez n F (.Continue a) (kY .cont):=fun k σ f σ' e=>by exact Ŵ (.of e)
theorem eC(hi:interactive F.env=false)(b:swapsWith e none c.line F.env=pure false)(y:kC n F e g):Ez n F (.Expr e c) (tE g):=fun k σ f σ' e=>by replace e:=dZ e;obtain ⟨a,σ₁,d,e⟩:=e;exact Cg hi b ((y _ _ _ d).mono (lM (aLt e)))
theorem rL{b:Nat→M Fl}(fk:iL F)(x:Ŭ n F test c)(y:E0 n F body b):Ez n F (.While test body [] m) (qA xs c b):=fun k σ f σ' e=>by
 unfold qA at e;split at e
 ·rename_i h;refine XW.lower h (Za fk (fun i τ=>whG xs σ.next c (b σ.next) i τ=some (f,σ')) aCw e fun i τ hi=>?_)
  cases i with
  |zero=>(exact hU hi)
  |succ i=>
   obtain ⟨t,σ₁,j,hi⟩:=dZ hi;refine (x _ _ _ j).mono ?_;refine lM ?_;cases t
   ·exact (.of hi)
   ·obtain ⟨g,o,l,hi⟩:=dZ hi;refine jC (y _ _ _ _ l) ?_;refine lM ?_;cases g
    ·obtain ⟨a,d,hi⟩:=dS hi;exact ⟨i,a,gQ _,B4 d,hi⟩
    ·exact (.of hi)
    ·obtain ⟨a,d,hi⟩:=dS hi;exact ⟨i,a,gQ _,B4 d,hi⟩
    ·exact (.of hi)
 ·exact hU e
end
end
mutual
noncomputable def S8:V→Option oC
 |.none=>some .none
 |.bool b=>some (.bool b)
 |.int i=>some (.int i)
 |.str s=>some (.str s)
 |.tup l=>(Yb l).map .tuple
 |.lst l=>(Yb l).map .list
 |_=>aF
noncomputable def Yb:bV→Option (List oC)
 |[]=>some []
 |v::l=>ob (S8 v) fun d=>ob (Yb l) fun r=>some (d::r)
end
mutual
theorem K6{Y:iB}:∀(v:V)(d:oC)(u:bM),S8 v=some d→gG D Y h v u→∃as,Reads h u d as
 |.none,d,u,e,r=>by cases e;cases r;exact ⟨_,.none⟩
 |.bool b,d,u,e,r=>by cases e;cases r;exact ⟨_,.bool b⟩
 |.int b,d,u,e,r=>by cases e;obtain ⟨t,rfl⟩:=r;exact ⟨_,.int b t⟩
 |.str b,d,u,e,r=>by cases e;obtain ⟨t,rfl⟩:=r;exact ⟨_,.str b t⟩
 |.tup l,d,u,e,r=>by obtain ⟨ds,c,rfl⟩:=cH.mp e;obtain ⟨a,xs,rfl,_,⟨k,hx⟩,f⟩:=r;obtain ⟨as,q⟩:=B5 l ds xs c f;exact ⟨_,.tuple hx rfl rfl q⟩
 |.lst l,d,u,e,r=>by obtain ⟨ds,c,rfl⟩:=cH.mp e;obtain ⟨a,xs,rfl,_,⟨k,hx⟩,f⟩:=r;obtain ⟨as,q⟩:=B5 l ds xs c f;exact ⟨_,.list hx rfl rfl q⟩
 |.scr _,d,u,e,r=>hU e
 |.mt _,d,u,e,r=>hU e
 |.dct _ _,d,u,e,r=>hU e
 |.set0,d,u,e,r=>hU e
 |.ref _,d,u,e,r=>hU e
 |.inst _,d,u,e,r=>hU e
 |.fn _,d,u,e,r=>hU e
 |.bm _ _,d,u,e,r=>hU e
theorem B5{Y:iB}:∀(l:bV)(ds:List oC)(us:fZ),Yb l=some ds→bO D Y h l us→∃as,ReadsAll h us ds as
 |[],ds,us,e,r=>by cases e;cases r;exact ⟨_,.nil⟩
 |v::l,ds,us,e,r=>by obtain ⟨d,a,e⟩:=dS e;obtain ⟨b,c,e⟩:=dS e;cases e;obtain ⟨u,f,rfl,g,i⟩:=r;obtain ⟨as,q⟩:=K6 v d u a g;obtain ⟨k,j⟩:=B5 l b f c i;exact ⟨_,.cons q j⟩
end
def S7(σ:St)(a:V):Option oC:=ob (rA xB 0 σ.cells a) fun v=>ob (S8 v) fun d=>if Tm d=true then some d else aF
def gII(f:Int→Int→M V):V→V→M V:=fun a b σ=>ob (Iz a) fun x=>ob (Iz b) fun y=>f x y σ
def fQ:V→V→M V:=fun a b σ=>oo (Iz a) (fun x=>ob (Iz b) fun y=>some (.int (x+y),σ)) (oo (J6 a) (fun l=>ob (J6 b) fun l'=>if l.length+l'.length≤lim then some (.tup (l++l'),σ)else aF)
 (ob (Iy σ a) fun l=>ob (Iy σ b) fun l'=>if l.length+l'.length≤lim then some (.lst (l++l'),σ)else aF))
def H7:V→V→M V:=gII fun a b σ=>some (.int (a+b),σ)
def B2:V→V→M V:=gII fun a b σ=>some (.int (a-b),σ)
def B3:V→V→M V:=fun a b σ=>ob (Iz b) fun k=>oo (Iz a) (fun x=>if Au x≤64 then some (.int (x*k),σ)else aF)
 (ob (Iy σ a) fun l=>if 0≤k∧k<1000∧l.length*k.toNat≤lim then some (.lst (lD k.toNat l).flatten,σ)else aF)
def mF:V→V→M V:=gII fun a b σ=>if b≠0∧nJ a b=false then some (.int (a.fdiv b),σ)else aF
def oJ:V→V→M V:=gII fun a b σ=>if b≠0 then some (.int (a.fmod b),σ)else aF
def Cc:V→V→M V:=gII fun a b σ=>some (.bool (decide (a<b)),σ)
def gLe:V→V→M V:=gII fun a b σ=>some (.bool (decide (a≤b)),σ)
def gGt:V→V→M V:=gII fun a b σ=>some (.bool (decide (b<a)),σ)
def gGe:V→V→M V:=gII fun a b σ=>some (.bool (decide (b≤a)),σ)
def qS:V→V→M V:=fun a b σ=>ob (S7 σ a) fun x=>ob (S7 σ b) fun y=>some (.bool (Lm x y),σ)
def Di:V→V→M V:=fun a b σ=>ob (S7 σ a) fun x=>ob (S7 σ b) fun y=>some (.bool (!Lm x y),σ)
noncomputable def Hb:V→Bool
 |.fn _=>false
 |_=>true
noncomputable def isN:V→Bool
 |.none=>true
 |_=>false
def aHg:V→V→M V:=fun a b σ=>onN b (if Hb a=true then some (.bool (isN a),σ)else aF)
def Ĥ:V→V→M V:=fun a b σ=>onN b (if Hb a=true then some (.bool (!isN a),σ)else aF)
def eF:V→V→M V:=fun a b σ=>ob (Iz b) fun i=>oo (J6 a) (fun l=>if 0≤i∧l.length≤lim then (l[i.toNat]?).map fun d=>(d,σ)else aF)
 (ob (asS σ a) fun l=>if 0≤i∧l.length≤lim then (l[i.toNat]?).map fun d=>(d,σ)else aF)
section
variable{n:Nat}{F:Fx}
theorem dX:Gi n F (binaryOp .Add) fQ:=fun a b σ v σ' e=>by
 refine aDn e (fun x e=>?_) fun e=>?_
 ·exact yR e fun y e=>aF6 (.of e)
 refine Um e (fun l e=>?_) fun e=>?_
 ·refine Un e fun l' e=>?_;obtain ⟨f,e⟩:=iC e
  ·refine Jl e ?_;rintro rfl rfl;refine tK fun A X D h tk u v ok m r s=>?_;have g:=r;have i:=s;obtain ⟨x,xs,rfl,nx,⟨k,hx⟩,j⟩:=r;obtain ⟨y,c,rfl,B,⟨o,hy⟩,p⟩:=s;have e:xs.toArray++c.toArray=(xs++c).toArray:=by simp
   by_cases d:xs=[]
   ·have:=jZ (by rw [←j.length,d];rfl);subst this;refine concat_meets ⟨_,hx,rfl⟩ ⟨_,hy,rfl⟩ noFill_tuple_add seq_tuple_add zA yL (xI _ _)
     (tuple_addW0 x y xs.toArray c.toArray k o _ _ _ _ (by simp [d])) ⟨hx,hy,gY m i ⟨rfl,rfl⟩⟩
   ·by_cases hw:c=[]
    ·have:=jZ (by rw [←p.length,hw];rfl);subst this;refine concat_meets ⟨_,hx,rfl⟩ ⟨_,hy,rfl⟩ noFill_tuple_add seq_tuple_add zA yL (xI _ _)
      (tuple_addW1 x y xs.toArray c.toArray k o _ _ _ _ (by simpa using d) (by simp [hw])) ⟨hx,hy,gY m g ⟨by simp,rfl⟩⟩
    ·refine concat_meets ⟨_,hx,rfl⟩ ⟨_,hy,rfl⟩ noFill_tuple_add seq_tuple_add zA yL (xI _ _)
      (tuple_addW2 x y xs.toArray c.toArray k o _ _ _ _ (by simpa using d) (by simpa using hw) (by rw [lY,lY];exact (by refine j.length▸?_;refine p.length▸?_;exact bZ f pA:xs.length+c.length≤hW))) ⟨hx,hy,?_⟩
     refine ⟨_,tk,D,_,.tup (l++l'),rfl,oU.grow (dL _ _),m.grow (dL _ _),?_,rfl,rfl⟩;refine O1 m (eV _) (dL _ _) ⟨0,?_⟩ (j.append p);have:=IsT.new h (xs.toArray++c.toArray);rw [e]at this⊢;exact this
 ·obtain ⟨l,t,e⟩:=dS e;obtain ⟨l',z,e⟩:=dS e;obtain ⟨f,e⟩:=iC e;exact aAd t z (bZ f pA) (.of e)
theorem Ab{t:bM→bM→E1 bM}{f:Int→Int→M V}(k:∀a b σ v σ',f a b σ=some (v,σ')→TW rV n F [.int a,.int b] (two t) σ (B8 v σ')):Gi n F t (gII f):=fun a b σ v σ' e=>by refine yR e fun a e=>?_;exact yR e fun b e=>k a b σ v σ' e
theorem Dj:Gi n F (inplaceOp .Add) H7:=Ab fun a b σ v σ' e=>aAb (.of e)
theorem oT:Gi n F (binaryOp .Sub) B2:=Ab fun a b σ v σ' e=>aF2 (.of e)
theorem vX:Gi n F (binaryOp .Mult) B3:=fun a b σ v σ' e=>by
 refine yR e fun k e=>?_;refine aDn e (fun x e=>?_) fun e=>?_
 ·obtain ⟨h,e⟩:=iC e;exact aF4 (.of_left h) (.of e)
 ·obtain ⟨l,o,e⟩:=dS e;obtain ⟨p,e⟩:=iC e
  ·refine nn fun r=>?_;obtain ⟨h0,s,y⟩:=p;refine r ?_;refine tK fun A X D h tk u v ok m c z=>?_;replace c:=Jt m o c;obtain ⟨x,xs,j,rfl,hx,d⟩:=c;obtain ⟨t,rfl⟩:=z;have B:l.length*k.toNat≤2^24:=bZ y (by decide);refine wpAny_binaryOp_repeat_ref (by decide) ⟨_,hx,rfl⟩ (fun C=>typeIs_int C k t) noFill_list_mul PySem.F.fills_int_mul Qt repeat_list PySem.F.slot_int_index.lookup
    (call_meets Qt (typeIs_int _ k t) PySem.F.entry_int_rmul (PySem.F.args_int_rmul_2 _ _) (int___rmul___int_list k t x (aY xs) j)
     ⟨hx,rfl,⟨_,hx,rfl⟩,call_meets PySem.F.slot_list_mul ⟨_,hx,rfl⟩ PySem.F.entry_list_mul (PySem.F.args_list_mul_2 _ _)
      (AutoListH.list___mul___list_int_3 x (aY xs) j k t (by simp [aO8];exact aS 0xe8c596c6318c6318c6318c6318c6318c1d0705814c6318c6318c6318c6318c6318c1ed8efce8382c0310 h0 s) (by refine ((by simp only [lY,d.length]:(aY xs).size*k.toNat=l.length*k.toNat))▸?_;exact aS 0x318ba4a07ffffffffffffffffffffffff9938c6318c6307001 B) (by simp [Gp,hW,d.length];assumption))
      ⟨hx,?_⟩⟩)
   refine ⟨_,tk,D,_,.lst (lD k.toNat l).flatten,rfl,oU.grow (dL _ _),m.grow (dL _ _),?_,.of e⟩;have G:∀j:Nat,bO D (Yf F X D) h (lD j l).flatten (lD j xs).flatten:=by
    intro j
    induction j with
    |zero=>exact bO.nil
    |succ j H=>exact d.append H
   refine Ct m (eV _) (dL _ _) ⟨0,?_⟩ (G _);have:=Jb h (aO2 (fun f g=>f++g) #[] (lD (if (aY xs).isEmpty=true then 0 else k.toNat) (aY xs)));have I:(aO2 (fun f g=>f++g) #[] (lD (if (aY xs).isEmpty=true then 0 else k.toNat) (aY xs)))=(lD k.toNat xs).flatten.toArray:=by
    simp only [listMul_foldl];by_cases i:xs=[]
    ·subst i;simp
    ·have:(aY xs).isEmpty=false:=by simpa using i
     refine this▸?_;rfl
   rw [I]at this⊢;exact this
theorem lJ:Gi n F (binaryOp .FloorDiv) mF:=Ab fun a b σ v σ' e=>by obtain ⟨h,e⟩:=iC e;exact aAc h.1 h.2 (.of e)
theorem kB:Gi n F (binaryOp .Mod) oJ:=Ab fun a b σ v σ' e=>by obtain ⟨h,e⟩:=iC e;exact aF5 h (.of e)
theorem qC:Gi n F (compareOp .Lt) Cc:=Ab fun a b σ v σ' e=>aJq (.of e)
theorem aHf:Gi n F (compareOp .LtE) gLe:=Ab fun a b σ v σ' e=>aJr (.of e)
theorem H8:Gi n F (compareOp .Gt) gGt:=Ab fun a b σ v σ' e=>aJs (.of e)
theorem ħ:Gi n F (compareOp .GtE) gGe:=Ab fun a b σ v σ' e=>aJt (.of e)
theorem yG{X:iB}(m:iZ F X D σ h)(e:S7 σ a=some d)(r:gG D (Yf F X D) h a u):Tm d=true∧∃as,Reads h u d as:=by refine nn fun b=>?_;obtain ⟨v,c,e⟩:=dS e;obtain ⟨g,f,e⟩:=dS e;refine b ?_;obtain ⟨h,e⟩:=iC e;cases e;exact ⟨h,K6 v d u f (Cp m 0 xB a v u c r)⟩
theorem jT:Gi n F (compareOp .Eq) qS:=fun a b σ v σ' e=>by refine nn fun c=>?_;obtain ⟨x,d,e⟩:=dS e;obtain ⟨y,f,e⟩:=dS e;refine c ?_;refine tK fun A X D h tk u v ok m g i=>?_;refine nn fun c=>?_;obtain ⟨j,as,r1⟩:=yG m d g;obtain ⟨k,o,l⟩:=yG m f i;refine c ?_;exact eq_dataH r1 l j k (by have:=ok.uni;exact aS aKo this) (gY m pG (.of e))
theorem yC:Gi n F (compareOp .NotEq) Di:=fun a b σ v σ' e=>by refine nn fun c=>?_;obtain ⟨x,d,e⟩:=dS e;obtain ⟨y,f,e⟩:=dS e;refine c ?_;refine tK fun A X D h tk u v ok m g i=>?_;refine nn fun c=>?_;obtain ⟨j,as,r1⟩:=yG m d g;obtain ⟨k,o,l⟩:=yG m f i;refine c ?_;exact ne_dataH r1 l j k (by have:=ok.uni;exact aS aKo this) (gY m pG (.of e))
theorem Vl:Gi n F (compareOp .Is) aHg:=fun a b σ v σ' e=>by refine Ñ e fun e=>?_;obtain ⟨c,e⟩:=iC e;exact Wv (by cases a<;>rfl) (fun u h=>by subst h;cases c) (.of e)
theorem Ps:Gi n F (compareOp .IsNot) Ĥ:=fun a b σ v σ' e=>by refine Ñ e fun e=>?_;obtain ⟨c,e⟩:=iC e;exact L8 (by cases a<;>rfl) (fun u h=>by subst h;cases c) (.of e)
theorem aAa{Q:V→iS}(c:asS σ a=some l)(h0:0≤i)(hd:l[i.toNat]?=some d)(e:l.length≤hW)(f:∀o i,subscripted g false o i=operate [o,i] (getItem o i))(q:Q d σ):TW rV n F [a,.int i] (two (subscriptTail value g)) σ Q:=tK fun A X D h tk u v ok m b j=>by replace b:=aLi m c b;obtain ⟨x,xs,rfl,hx,k⟩:=b;obtain ⟨t,rfl⟩:=j;refine nn fun p=>?_;obtain ⟨y,hy,r⟩:=k.get hd;refine p ?_;have s:=(cW.mp hd).1;refine tail_any hx.typeIs slot_list_getitem.lookup (wpAny_getItem_list hx h0 (by simp only [mN]at e;lia) (by simpa using hy) (gY m r q)) (f _ _)
theorem dN(g:∀o i,subscripted h false o i=operate [o,i] (getItem o i)):Gi n F (subscriptTail value h) eF:=fun a b σ v σ' e=>by
 refine yR e fun i e=>?_;refine Um e (fun l e=>?_) fun e=>?_
 ·obtain ⟨c,e⟩:=iC e;obtain ⟨d,f,e⟩:=cH.mp e;have k:=(cW.mp f).1;have m:lim=1048576:=rfl;have p:=c.1;have r:=c.2;refine ω ?_ f ⟨by lia,by lia⟩ g (.of (congrArg some e));unfold seqIndex?;simp only [(by lia:¬i<0),if_false];rw [if_pos (by simp;lia)]
 ·obtain ⟨l,f,e⟩:=dS e;obtain ⟨c,e⟩:=iC e;obtain ⟨d,j,e⟩:=cH.mp e;exact aAa f c.1 j (bZ c.2 pA) g (.of (congrArg some e))
end
section
set_option backward.match.sparseCases false
def Glo(env:Env)(s:jY)(v:bM):Prop:=
 ∀A h tk (K:rX),(∀b o,S.heap.get? b=some o→h.get? b=some o)→K v (jK h tk)→bT (model prog w) A (loadGlobal env s) K (fun _ _=>False) (jK h tk)
def aMl(f:bM):Prop:=(∃id,f=.builtin id)∨(∃T,f=.type T)∨(∃a o fd,f=.ref a∧S.heap.get? a=some o∧o.data=.func fd)
section
variable(n:Nat)(F:Fx)
def Dr(f:bM)(d:pV):Prop:=∀us,ImT n F rV us (fun vs=>call f vs) (d us)
inductive Am(A:kS)(X:iB)(D:lQ)(h₀ h₁:dT)(I:dF)(ds:bV):Prop
 |mk (fp:List dF) (P:Nat→bM→Prop) (Sx:Nat→dT→Prop) (T:String) (W:Walks prog w A I fp [I] ds.length P Sx) (hc:∀i h,Sx i h→∃o,h.get? I=some o∧o.cls=.type T) (hT:wZ.contains T=false) (hk:∀b o,h₀.get? b=some o→h₁.get? b=some o) (hI:h₀.get? I=aF) (st:Sx 0 h₁)
  (hf:∀b∈fp,b=I∨(b∉F.Z∧¬X b∧(∀i,lk D i≠some b)∧vC h₀ b))
  (hP:∀i v D' Y' h',i<ds.length→P i v→(∀b o,h₀.get? b=some o→¬Yf F X D b→h'.get? b=some o)→(∀a,Y' a→Yf F X D a∨h₀.get? a=aF)→gG D' Y' h' (ds.getD i .none) v):Am A X D h₀ h₁ I ds
inductive IwR(A:kS)(X:iB)(D:lQ)(h:dT)(Q:bV→iS)(it:bM)(g6:dE):Prop
 |mk (h₀:dT) (D₀:lQ) (g8:St) (ds:bV) (I:dF) (h₁:dT) (ae:Nat) (ei:it=.ref I) (e:g6=jK h₁ ae) (st:oU F D h D₀ h₀) (m:iZ F X D₀ g8 h₀) (w:Am F A X D₀ h₀ h₁ I ds) (q:Q ds g8):IwR A X D h Q it g6
def IW(e:Expr)(σ:St)(Q:bV→iS):Prop:=∀A X D h tk,wD n A→iZ F X D σ h→
 bT (model prog w) A (eval e F.env) (fun x ew=>bT (model prog w) A (pyIter x) (IwR F A X D h Q) (fun _ _=>False) ew) (fun _ _=>False) (jK h tk)
def Y2(e:Expr)(g:M bV):Prop:=∀σ ds σ',g σ=some (ds,σ')→IW n F e σ (B8 ds σ')
end
def gB(d:pV)(g:M bV):M V:=fun σ=>bd (g σ) fun us σ=>d us σ
def Do(den:bV→nX):pV:=fun us σ=>if cS us=true then ob (den us) fun r=>some (r,σ)else aF
def Dm:pV:=fun us σ=>aV (fun a=>aN (ob (Iy σ a) fun l=>if l.length≤lim then some (.int l.length,σ)else aF)) us
def aDi(l:bV):Option bV:=if cS l=true then some l else aF
def U6(v:V):Option bV:=oo (J6 v) aDi (ob (aC2 v) aDi)
def iF(g:M V):M bV:=fun σ=>bd (g σ) fun v σ=>ob (U6 v) fun ds=>some (ds,σ)
def G5(a b:Int):bV:=(wP (b-a).toNat).map fun (i:Nat)=>V.int (a+i)
noncomputable def Bj(a b:Int):Bool:=decide (-(2^62)≤a)&&decide (a<2^62)&&decide (-(2^62)≤b)&&decide (b<2^62)
def yA(g:M bV):M bV:=fun σ=>bd (g σ) fun us σ=>aI (fun b r=>aE (if Bj 0 b=true then some (G5 0 b,σ)else aF) (fun v r=>aN (ob (Iz v) fun c=>if Bj b c=true then some (G5 b c,σ)else aF) r) r) us
def Ju(xs:nH)(k:Nat)(b:V→M Fl):bV→M Fl
 |[],σ=>some (.next,σ)
 |v::r,σ=>bd (b v σ) fun f σ=>match f with
  |.next=>ob (Gf xs k σ) fun σ=>Ju xs k b r σ
  |.cont=>ob (Gf xs k σ) fun σ=>Ju xs k b r σ
  |.brk=>some (.next,σ)
  |.ret v=>some (.ret v,σ)
def yD(xs:nH)(gi:M bV)(gt:V→St→Option St)(gb:Nat→M Fl):Nat→M Fl:=fun k σ=>bd (gi σ) fun ds σ=>if k≤σ.next then Ju xs σ.next (fun v τ=>ob (gt v τ) fun τ=>gb σ.next τ) ds σ else aF
def Zt(gs:List (V→St→Option St))(ds:bV)(σ:St):Option St:=match gs,ds with
 |[],[]=>some σ
 |g::gs,d::ds=>ob (g d σ) fun σ=>Zt gs ds σ
 |_,_=>aF
section
variable{n:Nat}{F:Fx}
theorem Ē(fk:iL F)(a:F.env.kindOf s=some .globalImplicit)(b:Glo F.env s v)(hd:(s== ("__debug__":jY))=false):kC n F (.Name s c) (gK (.fn v)):=fun σ u σ' e=>by intro A X D h tk vs ok m r;refine aPe fk.kind a (b A h tk _ m.base ?_) hd;exact ⟨h,tk,D,σ,.fn v,rfl,.refl,m,by rfl,.of e⟩
theorem fV{d:pV}(x:kC n F f (gK (.fn v)))(H:aMl v)(o:Dr n F v d)(t:nE F args)(y:yK n F u args g)
  (I:eval (.Call f args [] u) F.env=(do lA u (←eval f F.env) [] (backTo u (dR args F.env)) [])):kC n F (.Call f args [] u) (gB d g):=fun σ r σ' e=>by
 obtain ⟨us,σ₁,C,e⟩:=dZ e;intro A X D h tk vs ok m _;refine (?_:bT _ _ (eval (.Call f args [] u) F.env) _ _ _);refine I▸?_;refine aH (TW.atE (x σ _ _ rfl) ok m bO.nil ?_);rintro J h₀ Q D₀ L m₀ N;clear x;subst N;have G:∀(b:fZ) h₁ c D₁ i j,oU F D₀ h₀ D₁ h₁→iZ F X D₁ i h₁→bO D₁ (Yf F X D₁) h₁ j b→B8 us σ₁ j i→bT (model prog w) A (call J b) (uC rV F X D h (B8 r σ')) (fun _ _=>False) (jK h₁ c):=by rintro b h₁ c D₁ i j l k s ⟨rfl,rfl⟩;exact bL (o us _ _ _ e A X D₁ h₁ c b ok k s) (fun _ _ p=>p.on (L.trans l)) fun _ _ z=>z
 rcases H with ⟨id,rfl⟩|⟨T,rfl⟩|⟨a,O,fd,rfl,P,hd⟩
 ·refine At (lL t) (pU t (y _ _ _ C) ok m₀ fun b h₁ c D₁ i j l k s B=>?_);exact G b h₁ c D₁ i j l k s B
 ·refine kE (lL t) (pU t (y _ _ _ C) ok m₀ fun b h₁ c D₁ i j l k s B=>?_);exact G b h₁ c D₁ i j l k s B
 ·refine Qw (o:=O) (fd:=fd) (pU t (y _ _ _ C) ok m₀ fun b h₁ c D₁ i j l k s B=>?_);exact ⟨⟨k.base _ _ P,hd⟩,G b h₁ c D₁ i j l k s B⟩
theorem G9{den:bV→nX}(c:∀us r,cS us=true→den us=some r→Ŝ n f us (fun x=>x=r)):Dr n F f (Do den):=fun us σ r σ' e=>by
 unfold Do at e;split at e
 ·obtain ⟨a,b,e⟩:=dS e;refine aJb ‹_› (c us _ ‹_› b) ?_;rintro a _ rfl;exact (.of e)
 ·exact hU e
theorem rT:Dr n F (.builtin "len") Dm:=fun us σ rv σ' e=>by refine nQ e fun a _ e=>?_;refine oM e fun e=>?_;obtain ⟨l,b,e⟩:=dS e;obtain ⟨c,e⟩:=iC e;intro A X D h tk vs ok m r;have d:=(ψ (Q:=B8 rv σ') b (bZ c pA) (.of e)) A X D h tk vs ok m r;obtain ⟨u,f,rfl,r1,rfl⟩:=r;exact d
theorem D9(h:cS l=true):(l.getD i .none).pure=true:=by
 induction l generalizing i with
 |nil=>rfl
 |cons d l a=>
  simp only [cP,cO,fU]at h
  cases i with
  |zero=>exact h.1
  |succ i=>exact a h.2
theorem Ok{X:iB}(f:A.handled=aF)(m:iZ F X D σ h)(g:cS l=true)(c:¬Yf F X D a)(hx:IsL h a (aY xs) k)(e:bO D (Yf F X D) h l xs):
  Am F A X D h (h.push {cls:=.type "list_iterator",data:=.fields #[.ref a,.int 0 0]}) h.objs.size l:=by
 have W:=aOr (prog:=prog) (w:=w) f h.objs.size a (fM (dQ hx)) (aY xs);replace W:=(by simp [e.length]:(aY xs).size=l.length)▸W;refine ⟨_,_,_,"list_iterator",W,fun i h' st=>?_,by decide,dL _ _,eV _,⟨⟨_,cA _ rfl,rfl,rfl⟩,hx.isList.push _⟩,fun b j=>?_,fun i v D' Y' h' hi p r s=>?_⟩
 ·obtain ⟨⟨o,t,u,_⟩,_⟩:=st;exact ⟨o,t,u⟩
 ·rcases aR.mp j with q|q
  ·exact .inl q
  ·obtain rfl:=aM.mp q;exact .inr ⟨fun z=>c (.inl z),fun z=>c (.inr (.inl z)),fun i z=>c (.inr (.inr ⟨i,z⟩)),_,hx⟩
 ·have hd:l[i]?=some (l.getD i .none):=by simp [aP,hi]
  obtain ⟨x,y,B⟩:=e.get hd;have:x=v:=by
   have d:xs[i]?=some v:=by simpa using p
   replace d:=y▸d;refine nW d ?_;rintro rfl;rfl
  subst this;exact gG.stepP r s _ _ (D9 g) B
theorem Q1{X:iB}(f:A.handled=aF)(m:iZ F X D σ h)(g:cS l=true)(c:¬Yf F X D a)(hx:IsT h a (aY xs) k)(e:bO D (Yf F X D) h l xs):
  Am F A X D h (h.push {cls:=.type "tuple_iterator",data:=.fields #[.ref a,.int 0 0]}) h.objs.size l:=by
 have W:=Yr (prog:=prog) (w:=w) f h.objs.size a (fM (dQ hx)) (aY xs);replace W:=(by simp [e.length]:(aY xs).size=l.length)▸W;have j:h.IsTuple a (aY xs):=⟨_,hx,rfl,_,rfl⟩;refine ⟨_,_,_,"tuple_iterator",W,fun i h' st=>?_,by decide,dL _ _,eV _,⟨⟨_,cA _ rfl,rfl,rfl⟩,j.push _⟩,fun b p=>?_,fun i v D' Y' h' hi r s t=>?_⟩
 ·obtain ⟨⟨o,u,y,_⟩,_⟩:=st;exact ⟨o,u,y⟩
 ·rcases aR.mp p with q|q
  ·exact .inl q
  ·obtain rfl:=aM.mp q;exact .inr ⟨fun z=>c (.inl z),fun z=>c (.inr (.inl z)),fun i z=>c (.inr (.inr ⟨i,z⟩)),_,hx⟩
 ·have hd:l[i]?=some (l.getD i .none):=by simp [aP,hi]
  obtain ⟨x,B,C⟩:=e.get hd;have:x=v:=by
   have d:xs[i]?=some v:=by simpa using r
   replace d:=B▸d;refine nW d ?_;rintro rfl;rfl
  subst this;exact gG.stepP s t _ _ (D9 g) C
theorem aA5{X:iB}{K:rX}(ok:wD n A)(m:iZ F X D σ h)(e:U6 v=some ds)(r:gG D (Yf F X D) h v u)
  (k:∀I h₁,Am F A X D h h₁ I ds→K (.ref I) (jK h₁ tk)):bT (model prog w) A (pyIter u) K (fun _ _=>False) (jK h tk):=by
 revert r;refine Um e (fun l e=>?_) fun e=>Rx e fun l e=>?_
 ·obtain ⟨b,e⟩:=iC e;refine nW e ?_;rintro rfl ⟨a,xs,rfl,c,⟨j,hx⟩,d⟩;exact Ka ⟨_,hx,rfl,_,rfl⟩ (k _ _ (Q1 ok.hd m b c hx d))
 ·obtain ⟨b,e⟩:=iC e;refine nW e ?_;rintro rfl ⟨a,xs,rfl,c,⟨j,hx⟩,d⟩;exact N6 hx.isList (k _ _ (Ok ok.hd m b c hx d))
theorem pR(x:kC n F e g):Y2 n F e (iF g):=fun σ ds σ' e=>by obtain ⟨v,σ₁,b,e⟩:=dZ e;replace e:=dS e;obtain ⟨l,c,e⟩:=e;cases e;intro A X D h tk ok m;refine TW.atE (x _ _ _ b) ok m bO.nil ?_;rintro u h₁ d D₁ f a i;exact aA5 ok a c i fun I j k=>⟨h₁,D₁,_,ds,I,j,d,rfl,rfl,f,a,k,rfl,rfl⟩
theorem È{X:iB}(d:A.handled=aF):Am F A X D h (h.push {cls:=.type "range_iterator",data:=.fields #[rawInt a,rawInt (Gn a b 1),rawInt 1]}) h.objs.size (G5 a b):=by
 refine ⟨_,_,_,"range_iterator",(Walks.range d h.objs.size a 1 (G5 a b).length),fun i h' st=>⟨_,st,rfl⟩,by decide,dL _ _,eV _,?_,fun c f=>.inl (aM.mp f),fun i v D' Y' h' hi g k l=>?_⟩
 ·have e:Gn a b 1=((G5 a b).length:Int)-((0:Nat):Int):=by rw [rangeSize_one];simp only [G5,bC,yP];split<;>lia
  refine e▸?_;have j:a+((0:Nat):Int)*1=a:=by simp
  rw [j];exact cA _ rfl
 ·obtain ⟨t,rfl⟩:=g;have:(G5 a b).getD i .none=.int (a+i):=by simp only [G5,bC,yP]at hi;simp [G5,aP,hi]
  refine this▸?_;refine ((by simp:a+(i:Int)*1=a+i))▸?_;exact nL
theorem Ej(x:kC n F (.Name "range" p) (gK (.fn (.type "range"))))(l:nE F args)(y:yK n F i args g)
  (J:eval (.Call (.Name "range" p) args [] i) F.env=(do lA i (←eval (.Name "range" p) F.env) [] (backTo i (dR args F.env)) [])):Y2 n F (.Call (.Name "range" p) args [] i) (yA g):=fun σ ds σ' e=>by
 replace e:=dZ e;obtain ⟨us,σ₁,s,e⟩:=e;intro A X D h tk ok m;refine aH (TW.atE (x σ _ _ rfl) ok m bO.nil ?_);rintro L h₀ N D₀ z m₀ B;subst B;refine kE (lL l) (pU l (y _ _ _ s) ok m₀ ?_);rintro O h₁ f D₁ P Q C G H ⟨rfl,rfl⟩;have fin:∀(a b:Int)(o:wM)(j:Nat)(t u v:Tok),o={cls:=.type "range",data:=.fields #[.int a t,.int b u,.int 1 v]}→Bj a b=true→ds=G5 a b→σ'=σ₁→
   bT (model prog w) A (pyIter (.ref h₁.objs.size)) (IwR F A X D h (B8 ds σ')) (fun _ _=>False) (jK (h₁.push o) j):=by
  rintro a b o j t u v rfl d rfl rfl;simp only [Bj,fU,decide_eq_true_eq]at d;refine wpAny_pyIter_range (IsRange.new h₁ a b 1 t u v) (small_one d.1.1.1 d.1.1.2 d.1.2 d.2) ?_;exact ⟨_,D₁,_,_,_,_,j,rfl,rfl,(z.trans C).trans (oU.grow (dL _ _)),G.grow (dL _ _),È ok.hd,⟨rfl,rfl⟩⟩
 revert H;refine Bo e ?_;clear e;intro b r e
 cases r with
 |nil=>replace e:=iC e;obtain ⟨d,e⟩:=e;refine Jl e ?_;rintro rfl rfl;rintro ⟨_,_,rfl,⟨t,rfl⟩,k⟩;cases k;exact call_range_1 (fin 0 b _ (f+1+1) f t (f+1) rfl d rfl rfl)
 |cons v r=>refine oM e ?_;clear e;intro e;refine yR e ?_;clear e;intro c e;replace e:=iC e;obtain ⟨d,e⟩:=e;refine Jl e ?_;rintro rfl rfl;rintro ⟨_,_,rfl,⟨t,rfl⟩,_,_,rfl,⟨I,rfl⟩,k⟩;cases k;exact call_range_2 (fin b c _ (f+1) t I f rfl d rfl rfl)
theorem qO{gt:V→St→Option St}{l:Nat→M Fl}(fk:iL F)(x:Y2 n F iter G)(y:I5 n F H gt)(z:E0 n F body l)(J:∀x,foldedSetIterable iter F.env x=pure x):
  Ez n F (.For H iter body [] ak) (yD xs G gt l):=fun k σ f σ' e=>by
 obtain ⟨ds,σ₁,L,e⟩:=dZ e;split at e
 ·rename_i N;intro A X D h tk ok m;refine ŭ (bL (x _ _ _ L A X D h tk ok m) (fun xv ew h₁=>bL h₁ (fun it g6 p=>?_) fun _ _ q=>q) fun _ _ q=>q) J;obtain ⟨h₀,D₀,g8,qy,I,bo,O,rfl,rfl,st,m₀,⟨fp,P,Sx,T,W,R,Y,Z,B,de,jq,hP⟩,rfl,rfl⟩:=p;have dg:=Į (Q:=B8 f σ') (tk:=O) fk ok W R Y m₀ Z B de (fun b g=>(jq b g).imp id fun ⟨q1,_,q2⟩=>⟨q1,q2⟩)
   (fun i v h' D' hi hv C=>hP i v D' _ h' hi hv (fun b o e g=>C.keep b o e (fun q=>g (.inl q)) fun n q=>g (.inr (.inr ⟨n,q⟩))) fun a ha=>by
    rcases ha with q|q|⟨j,q⟩
    ·exact .inl (.inl q)
    ·rcases q with q|q
     ·exact .inr (by refine (aM.mp q)▸?_;exact B)
     ·exact .inl (.inr (.inl q))
    ·rcases C.new j a q with q|q
     ·exact .inl (.inr (.inr ⟨j,q⟩))
     ·exact .inr q)
   (fun i τ=>Ju xs σ₁.next (fun v τ=>ob (gt v τ) fun τ=>l σ₁.next τ) (ds.drop i) τ=some (f,σ')) (by exact e)
   (fun i τ hi c=>by
    have hd:ds.drop i=ds.getD i .none::ds.drop (i+1):=by simp [aP,hi]
    simp only [hd]at c;obtain ⟨fl,cb,d,c⟩:=dZ c;replace d:=dS d;obtain ⟨bf,e4,d⟩:=d;intro A X D h tk u ok m r;refine bL (y _ _ _ e4 A X D h tk u ok m r) (fun _ s' p=>?_) fun _ _ q=>q;obtain ⟨h',ap,D',il,b,rfl,xg,lj,j4,rfl⟩:=p;refine ⟨h',ap,D',_,b,rfl,xg,lj,j4,?_⟩;refine jC (z _ _ _ _ d) ?_;refine lM ?_;cases fl
    ·obtain ⟨s,t,c⟩:=dS c;exact ⟨s,B4 t,c⟩
    ·exact (.of c)
    ·obtain ⟨s,t,c⟩:=dS c;exact ⟨s,B4 t,c⟩
    ·exact (.of c))
   (fun τ c=>by rw [mQ]at c;exact (.of c))
  exact oV dg fun r s' p=>by
   cases r with
   |ok f'=>exact (uZ.lower N p).on (st.toK k)
   |error e=>exact p
 ·exact hU e
end
end
section
set_option backward.match.sparseCases false
theorem X8{E:rX}{P:Nat→bM→Prop}{Sx:Nat→dT→Prop}(W:Walks prog w A I B [I] N P Sx):
  ∀(n i:Nat)(s:dE)(Q:fZ→tU),i+n≤N→Sx i s.heap→
   (∀vs h' f,vs.length=n→(∀(j:Nat) v,vs[j]?=some v→P (i+j) v)→Sx (i+n) h'→(∀b o,b≠I→s.heap.get? b=some o→h'.get? b=some o)→Q vs {s with heap:=h',toks:=f})→
   bT (model prog w) A (draw (.ref I) n) Q E s:=by
 intro g
 induction g with
 |zero=>intro i;intro s;intro Q;intro a;intro st;intro c;refine (?_:bT _ _ (pure []) Q E s);exact aW (c [] s.heap s.toks rfl (fun j v e=>by simp at e) st fun _ _ _ e=>e)
 |succ n h=>
  intro i;intro s;intro Q;intro a;intro st;intro c;refine (?_:bT _ _ (pyNext (.ref I)>>=_) Q E s);refine aH (W.item i s _ _ (aS aGk a) st fun v h₁ C k l m=>?_);refine aH (bY (h (i+1) _ _ (aS aGr a) l fun vs p r t x y z=>aW ?_));refine c (v::vs) p r (by simp [t]) (fun j u e=>?_) (by refine (show i+(n+1)=i+1+n by exact aS aDx)▸?_;exact y) fun b o d e=>z b o d (m b o (by simpa using d) e)
  cases j with
  |zero=>simp at e;subst e;exact k
  |succ j=>refine (show i+(j+1)=i+1+j by exact aS aDx)▸?_;exact x j u (by exact e)
theorem oQ{E:rX}{s:dE}{Q:fZ→tU}(g:n=items.length)
  (h:∀K:Bool→tU,K false s→bT (model prog w) A (notIterableAtAll u) K E s)
  (k:∀K:rX,(∀I h₁ c Sx,Walks prog w A I c [I] items.length (fun i v=>items[i]?=some v) Sx→Sx 0 h₁→s.heap.get? I=aF→(∀b o,s.heap.get? b=some o→h₁.get? b=some o)→K (.ref I) {s with heap:=h₁})→bT (model prog w) A (pyIter u) K E s)
  (l:∀h' m,(∀b o,s.heap.get? b=some o→h'.get? b=some o)→Q items {s with heap:=h',toks:=m}):bT (model prog w) A (unpackItems u n aF) Q E s:=by
 subst g;refine aH (h _ ?_);refine aH (bY (k _ fun I h₁ c Sx W st p r=>?_));refine aH (bY (X8 W items.length 0 _ _ (aS 0x23148100301) st fun vs G H t x y z=>?_));have a:vs=items:=by
  apply List.ext_getElem? fun j=>?_
  cases d:vs[j]? with
  |none=>
   have:items.length≤j:=by have:=List.getElem?_eq_none_iff.mp d;exact aS 0x16314882910161003 t this
   simp only [tP this]
  |some v=>have:=x j v d;simpa using this.symm
 subst a;rw [if_neg (by simp)];refine aH (bY (W.done _ _ _ (by simpa using y) fun B C D=>?_));refine aW (l B C fun b o e=>?_);have f:b≠I:=fun q=>by simp only [q,p]at e;exact hU e
 exact D b o (by simpa using f) (z b o f (r b o e))
def Sj(v:V):Option bV:=oo (J6 v) some (ob (aC2 v) some)
def Jf(gs:List (V→St→Option St))(v:V)(σ:St):Option St:=ob (Sj v) fun ds=>Zt gs ds σ
def Ge(gs:List (V→St→Option St))(v:V)(σ:St):Option St:=ob (Sj v) fun ds=>Zt gs ds.reverse σ
noncomputable def Fo(gs:List (V→St→Option St))(v:V)(σ:St):Option St:=match gs with
 |[]=>some σ
 |g::gs=>ob (g v σ) fun σ=>Fo gs v σ
section
variable{n:Nat}{F:Fx}
theorem zH{X:iB}{K:fZ→tU}(ok:wD n A)(m:iZ F X D σ h)(e:Sj v=some ds)(x:j=ds.length)(r:gG D (Yf F X D) h v u)
  (k:∀us h' g,iZ F X D σ h'→oU F D h D h'→bO D (Yf F X D) h' ds us→K us (jK h' g)):bT (model prog w) A (unpackItems u j aF) K (fun _ _=>False) (jK h tk):=by
 revert r;refine Um e (fun l e=>?_) fun e=>Rx e fun l e=>?_
 ·refine nW e ?_;rintro rfl ⟨a,xs,rfl,z,⟨c,hx⟩,p⟩;have y:h.IsTuple a (aY xs):=⟨_,hx,rfl,_,rfl⟩;refine oQ (items:=xs) (by simp only [x,p.length]) (fun K d=>?_) (fun K d=>?_) fun h' g f=>?_
  ·exact aH (xF ⟨_,hx,rfl⟩ PySem.F.slot_tuple_iter.lookup (aW d))
  ·have t:=fM (dQ hx);refine Ka y (d _ _ [h.objs.size,a] (fun i h'=>h'.IsTupleIter h.objs.size a i∧h'.IsTuple a (aY xs)) (by simpa using (Yr ok.hd h.objs.size a t (aY xs))) ⟨⟨_,cA _ rfl,rfl,rfl⟩,y.push _⟩ (eV _) (dL _ _))
  ·exact k xs h' g (m.grow f) (oU.grow f) (bO.step (fun b o e _=>f b o e) (fun _ _ e=>e) (fun _ e=>.inl e) _ _ p)
 ·refine nW e ?_;rintro rfl ⟨a,xs,rfl,z,⟨c,hx⟩,p⟩;refine oQ (items:=xs) (by refine x▸?_;exact p.length▸rfl) (fun K d=>?_) (fun K d=>?_) fun h' g f=>?_
  ·exact aH (xF ⟨_,hx,rfl⟩ slot_list_iter.lookup (aW d))
  ·have t:a≠h.objs.size:=fM (dQ hx);refine N6 (s:=jK h tk) hx.isList (d _ _ [h.objs.size,a] (fun i h'=>h'.IsListIter h.objs.size a i∧h'.IsList a (aY xs)) (by simpa using (aOr (prog:=prog) (w:=w) ok.hd h.objs.size a t (aY xs))) ⟨⟨_,cA _ rfl,rfl,rfl⟩,hx.isList.push _⟩ (eV _) (dL _ _))
  ·exact k xs h' g (m.grow f) (oU.grow f) (bO.step (fun b o e _=>f b o e) (fun _ _ e=>e) (fun _ e=>.inl e) _ _ p)
def N1(n:Nat)(F:Fx)(ts:List (bM→E1 Unit))(gs:List (V→St→Option St)):Prop:=ts.length=gs.length∧∀ds σ σ',Zt gs ds σ=some σ'→∀A X D h tk us,wD n A→iZ F X D σ h→bO D (Yf F X D) h ds us→
 bT (model prog w) A (assignInOrder ts us) (uC rU F X D h fun _ τ=>σ'=τ) (fun _ _=>False) (jK h tk)
theorem lW:N1 n F [] []:=⟨rfl,fun ds σ σ' e A X D h tk us ok m r=>by
 cases ds with
 |nil=>refine nW e ?_;rintro rfl;exact assignInOrder_nil ⟨h,tk,D,_,(),rfl,.refl,m,trivial,rfl⟩
 |cons d ds=>(exact hU e)⟩
theorem xQ{gs:List (V→St→Option St)}:∀{ds:bV}{σ σ':St},Zt gs ds σ=some σ'→ds.length=gs.length:=by
 induction gs with
 |nil=>intro ds σ σ' e;cases ds with
  |nil=>rfl
  |cons d ds=>(exact hU e)
 |cons g gs a=>intro ds σ σ' e;cases ds with
  |nil=>(exact hU e)
  |cons d ds=>obtain ⟨σ₁,b,e⟩:=dS e;simp [a e]
theorem Ot{t:bM→E1 Unit}{a:List (bM→E1 Unit)}{g:V→St→Option St}{gs:List (V→St→Option St)}
  (x:∀σ v σ',g v σ=some σ'→∀A X D h tk u,wD n A→iZ F X D σ h→gG D (Yf F X D) h v u→bT (model prog w) A (t u) (uC rU F X D h fun _ τ=>σ'=τ) (fun _ _=>False) (jK h tk))
  (y:N1 n F a gs):N1 n F (t::a) (g::gs):=⟨by simp [y.1],fun ds σ σ' e A X D h tk us ok m r=>by
 cases ds with
 |nil=>(exact hU e)
 |cons d ds=>obtain ⟨σ₁,c,e⟩:=dS e;obtain ⟨u,f,rfl,i,j⟩:=r;refine assignInOrder_cons (bL (x _ _ _ c A X D h tk u ok m i) (fun _ l p=>?_) fun _ _ q=>q);obtain ⟨h',k,D',o,b,rfl,st,m',_,rfl⟩:=p;exact bL (y.2 _ _ _ e A X D' h' k f ok m' (bO.on m st j)) (fun _ _ p=>p.on st) fun _ _ q=>q⟩
def I4(n:Nat)(F:Fx)(es:List Expr)(gs:List (V→St→Option St)):Prop:=(oW es F.env).findIdx? (·.1)=aF∧N1 n F ((oW es F.env).map (·.2)) gs
theorem jL:I4 n F [] []:=⟨rfl,lW⟩
theorem dA{g:V→St→Option St}{gs:List (V→St→Option St)}(x:I5 n F e g)(y:I4 n F es gs)(a:oW (e::es) F.env=(false,assign e F.env)::oW es F.env):I4 n F (e::es) (g::gs):=by unfold I4;refine a▸?_;refine ⟨?_,Ot (fun σ v σ' q A X D h tk u ok m r=>x σ v σ' q A X D h tk u ok m r) y.2⟩;have:=y.1;rw [List.findIdx?_cons];rw [this];rfl
theorem lC{gs:List (V→St→Option St)}(x:I4 n F es gs):I5 n F (.Tuple es c f) (Jf gs):=fun σ v σ' e=>by obtain ⟨ds,a,e⟩:=dS e;intro A X D h tk u ok m r;refine aH (gC ?_);unfold unpack;refine x.1▸?_;refine aH (bY (zH ok m a (by simp only [xQ e,←x.2.1];simp:(oW es F.env).length=ds.length) r fun us h' b m' st d=>?_));exact bL (x.2.2 _ _ _ e A X D h' b us ok m' d) (fun _ _ p=>p.on st) fun _ _ q=>q
theorem dH{gt:V→St→Option St}(x:kC n F e g)(y:I5 n F t gt)(c:swapsWithSole [t] e d.line F.env=pure false)(hw:swappedStores [t] e F.env=pure aF)(i:(oW [t] F.env).map (·.2)=[assign t F.env]):Ez n F (.Assign [t] e d) (eS g gt):=fun k σ f σ' q=>by refine nn fun j=>?_;obtain ⟨a,σ₁,l,q⟩:=dZ q;obtain ⟨C,o,q⟩:=dS q;refine j ?_;intro A X D h tk ok m;refine aIt (TW.atE (x _ _ _ l) ok m bO.nil ?_) c hw;rintro u h₁ s D₁ st v r;refine i▸?_;refine bL (y _ _ _ o A X D₁ h₁ s u ok v r) (fun _ G p=>?_) fun _ _ q=>q;obtain ⟨h',z,D',H,b,rfl,B,m',_,rfl⟩:=p;exact ⟨h',z,D',_,.next,rfl,(st.trans B).toK k,m',J8.next,.of q⟩
theorem kN{gs:List (V→St→Option St)}(x:kC n F e g)(y:N1 n F (names.reverse.map fun n=>bindName F.env n) gs)(v:swapsWithSole [.Tuple es c tpos] e B.line F.env=pure false)(hw:swappedStores [.Tuple es c tpos] e F.env=pure (some names)):Ez n F (.Assign [.Tuple es c tpos] e B) (eS g (Ge gs)):=fun k σ f σ' q=>by
 refine nn fun C=>?_;obtain ⟨a,σ₁,G,q⟩:=dZ q;obtain ⟨Z,i,q⟩:=dS q;obtain ⟨ds,o,i⟩:=dS i;refine C ?_;intro A X D h tk ok m;refine Assign_Tuple_swapped (TW.atE (x _ _ _ G) ok m bO.nil ?_) v hw;rintro u h₁ ae D₁ st H r;have s:names.length=ds.length:=by have a1:=xQ i;have t:=y.1;simp at a1 t;exact aS 0x4da315804b08961003 a1 t
 refine zH ok H o s r fun us j I J L N=>?_;have O:bO D₁ (Yf F X D₁) j ds.reverse us.reverse:=by
  clear i o s;have:∀(l:bV)(xs:fZ),bO D₁ (Yf F X D₁) j l xs→bO D₁ (Yf F X D₁) j l.reverse xs.reverse:=by
   intro l
   induction l with
   |nil=>intro xs q;subst q;exact bO.nil
   |cons d l P=>intro xs q;obtain ⟨z,Q,rfl,R,T⟩:=q;simp only [List.reverse_cons];exact (P Q T).append (.cons R .nil)
  exact this _ _ N
 refine bL (y.2 _ _ _ i A X D₁ j I us.reverse ok J O) (fun _ s' p=>?_) fun _ _ q=>q;obtain ⟨h',W,D',il,b,rfl,Y,m',_,rfl⟩:=p;exact ⟨h',W,D',_,.next,rfl,((st.trans L).trans Y).toK k,m',J8.next,.of q⟩
theorem Zz{names:lK}{a:List (bM→E1 Unit)}{gs:List (V→St→Option St)}(fk:iL F)(b:lk F.bnd x=some (p,s))(c:Ŗ F.env p s)(y:N1 n F a gs):N1 n F ((fun v=>bindName F.env s v)::a) (bQ x::gs):=
 Ot (fun σ v σ' e A X D h tk u ok m r=>by refine nW e ?_;rintro rfl;exact bindName_ (Cn fk m b c r fun h' d m' f=>⟨h',d,D,_,(),rfl,f,m',trivial,rfl⟩)) y
inductive Ř(n:Nat)(F:Fx):List Expr→List (V→St→Option St)→Prop where
 |nil:Ř n F [] []
 |cons {t:Expr} {ts:List Expr} {g:V→St→Option St} {gs:List (V→St→Option St)} (x:I5 n F t g) (y:Ř n F ts gs):Ř n F (t::ts) (g::gs)
theorem Ny{X:iB}(ok:wD n A){gs:List (V→St→Option St)}(y:Ř n F h gs):∀(σ₁:St) D₁ h₁ c,iZ F X D₁ σ₁ h₁→gG D₁ (Yf F X D₁) h₁ a u→Fo gs a σ₁=some σ'→
   bT (model prog w) A (assignAll u (h.map fun t=>assign t F.env)) (uC rU F X D₁ h₁ fun _ τ=>σ'=τ) (fun _ _=>False) (jK h₁ c):=by
 induction y with
 |nil=>intro σ₁ D₁ h₁ c e r d;refine nW d ?_;rintro rfl;exact aW ⟨h₁,c,D₁,_,(),rfl,.refl,e,trivial,rfl⟩
 |cons x y i=>
  intro σ₁ D₁ h₁ c e r d;obtain ⟨l,f,d⟩:=dS d
  cases y with
  |nil=>refine nW d ?_;rintro rfl;exact x _ _ _ f A X D₁ h₁ c u ok e r
  | @cons m j o gs' s y=>refine aH (bY (bL (x _ _ _ f A X D₁ h₁ c u ok e r) (fun _ v p=>?_) fun _ _ q=>q));obtain ⟨h',k,D',z,b,rfl,g,m',_,rfl⟩:=p;exact bL (i _ D' h' k m' (gG.on e g r) d) (fun _ _ p=>p.on g) fun _ _ q=>q
theorem mV{gs:List (V→St→Option St)}(x:kC n F e g)(y:Ř n F c gs)(d:swapsWithSole c e i.line F.env=pure false)(hw:swappedStores c e F.env=pure aF)(j:(oW c F.env).map (·.2)=c.map fun t=>assign t F.env):Ez n F (.Assign c e i) (eS g (Fo gs)):=fun k σ f σ' q=>by refine nn fun l=>?_;obtain ⟨a,σ₁,o,q⟩:=dZ q;obtain ⟨G,s,q⟩:=dS q;refine l ?_;intro A X D h tk ok m;refine aIt (TW.atE (x _ _ _ o) ok m bO.nil ?_) d hw;rintro u h₁ v D₁ st z r;refine j▸?_;refine bL (Ny ok y _ D₁ h₁ v z r s) (fun _ H p=>?_) fun _ _ q=>q;obtain ⟨h',B,D',I,b,rfl,C,m',_,rfl⟩:=p;exact ⟨h',B,D',_,.next,rfl,(st.trans C).toK k,m',J8.next,.of q⟩
end
end
def eY:pV:=fun us σ=>aV (fun u=>aV fun d=>aN (ob (Ix u) fun i=>aL σ i fun l=>if l.length≤lim then some (.none,{σ with cells:=kX i (.list (l++[d])) σ.cells})else aF)) us
def wC:pV:=fun us σ=>aV (fun u=>aV fun d=>aN (ob (Ix u) fun i=>aL σ i fun l=>ob (Iy σ d) fun l'=>if l.length≤lim∧l'.length≤lim then some (.none,{σ with cells:=kX i (.list (l++l')) σ.cells})else aF)) us
def aCg:pV:=fun us σ=>aV (fun u r=>ob (Ix u) fun i=>aL σ i fun l=>aE (if l.length≤lim then ob l.getLast? fun d=>some (d,{σ with cells:=kX i (.list l.dropLast) σ.cells})else aF)
 (fun v r=>aN (ob (Iz v) fun k=>if k=0 then aV (fun d l=>if l.length≤lim then some (d,{σ with cells:=kX i (.list l) σ.cells})else aF) l else aF) r) r) us
def vE(d:pV)(go:M V)(ga:M bV):M V:=fun σ=>bd (go σ) fun u σ=>ob (Iy σ u) fun _=>bd (ga σ) fun us σ=>d (u::us) σ
def ġ(go gi:M V)(v:V)(σ:St):Option St:=bd (go σ) fun o σ=>bd (gi σ) fun i σ=>ob (Ix o) fun n=>ob (Iz i) fun k=>aL σ n fun l=>if 0≤k∧k.toNat<l.length∧l.length≤lim then some {σ with cells:=kX n (.list (l.set k.toNat v)) σ.cells}else aF
section
variable{n:Nat}{F:Fx}
def OpB(n:Nat)(F:Fx)(id:String)(d:pV):Prop:=∀us,ImT n F rV us (Qa id) (d us)
theorem gH(fk:iL F):OpB n F "list.append" eY:=fun us σ v σ' e=>by refine nQ e fun _ _ e=>?_;refine nQ e fun _ _ e=>?_;refine oM e fun e=>?_;refine Kp e fun i e=>?_;refine nn fun a=>?_;obtain ⟨l,b,e⟩:=O6 e;obtain ⟨c,e⟩:=iC e;refine a ?_;exact Ww fk b (bZ c pA) (.of e)
theorem xT(fk:iL F):OpB n F "list.extend" wC:=fun us σ v σ' e=>by
 refine nQ e fun _ _ e=>?_;refine nQ e fun _ _ e=>?_;refine oM e fun e=>?_;refine Kp e fun i e=>?_;refine nn fun o=>?_;obtain ⟨l,p,e⟩:=O6 e;obtain ⟨l',s,e⟩:=dS e;obtain ⟨f,e⟩:=iC e;refine o ?_;intro A X D h tk vs ok m r;simp only [nU,nR]at r;obtain ⟨u,B,rfl,r1,v,C,rfl,t,rfl⟩:=r;obtain ⟨a,xs,k,rfl,x,hx,c⟩:=La m p r1;obtain ⟨b,d,y,rfl,hy,g⟩:=Jt m s t;have j:=U4;have c3:(aY xs).size+(aY d).size≤hW:=by simp [c.length,g.length];exact aS 0x1e3148d02024680858908921004 f j
 refine call_meets lU ⟨_,hx,rfl⟩ PySem.F.entry_list_extend (PySem.F.args_list_extend_2 _ _) (AutoSeq1.list_extend_list_list_0 a (aY xs) k b (aY d) y (by have z:=mN;simp only [Gp,fU,decide_eq_true_eq,not_and,kJ];intro _;assumption) (by simp [c.length];exact aS 0x58c523024680858908921004 f j:(aY xs).size≤hW) (aS 0x318a5071202048901003 c3:(aY xs).size+(aY d).size≤hW+1)) ⟨hx,hy,?_⟩;exact Os fk m x hx (by simp) (c.append g) Cq (.of e)
theorem Ul(fk:iL F):OpB n F "list.pop" aCg:=fun us σ v σ' e=>by
 refine nQ e fun _ r e=>?_;refine Kp e ?_;clear e;intro i e;replace e:=O6 e;obtain ⟨l,j,e⟩:=e;have o:=U4
 cases r with
 |nil=>replace e:=iC e;obtain ⟨b,e⟩:=e;replace e:=dS e;obtain ⟨d,c,e⟩:=e;replace c:=List.getLast?_eq_some_iff.mp c;obtain ⟨f,rfl⟩:=c;rw [Y5]at e;simp only [bK,List.length_singleton]at b;exact aF3 fk j (aS 0x345150449020e248500003 o b) (.of e)
 |cons x r=>
  refine oM e ?_;clear e;intro e;refine yR e ?_;clear e;intro k e;replace e:=iC e;obtain ⟨rfl,p⟩:=e
  cases l with
  |nil=>exact hU p
  |cons d l=>
  obtain ⟨b,g⟩:=iC p;intro A X D h tk vs ok m r;obtain ⟨u,N,rfl,r1,x,O,rfl,z,B⟩:=r;cases B;obtain ⟨t,rfl⟩:=z;obtain ⟨a,xs,k,rfl,C,hx,G⟩:=La m j r1;obtain ⟨y,f,rfl,H,s⟩:=G;have I:=s.length;have J:(aY (y::f)).size≤hW:=by
   have L:1≤lim:=by decide
   simp;exact aS 0x1b8c52141c6901d621a40248500004 o b I L
  refine call_meets rZ ⟨_,hx,rfl⟩ Qp (PySem.F.args_list_pop_2 _ _) (MeetsSeq.list_pop_at a (aY (y::f)) k 0 t 0 y (by decide) (by simp [seqIndex?]) (by rfl) J) ⟨hx,?_⟩;exact Os fk m C hx (by simp) s H (.of g)
theorem jS{o:Expr}{name:jY}{b a:Pos}{args:List Expr}{i:E1 Bool}{id:String}{d:pV}{c:M V}{g:M bV}(slot:Slot "list" name id)(j:typeOf (.builtin id)=pure (.type "method_descriptor"))(k:Yt "list")(ob:OpB n F id d)
  (x:kC n F o c) (m:nE F args) (y:yK n F a args g)
  (p:eval (.Call (.Attribute o name b) args [] a) F.env=(do
   let h←eval o F.env
   jD b.atName
   let (f,first)←holding [h] (getMethod h name i)
   lA a f first (backTo a (dR args F.env)) [])):kC n F (.Call (.Attribute o name b) args [] a) (vE d c g):=fun σ v σ' e=>by
 refine nn fun r=>?_;obtain ⟨u,σ₁,s,e⟩:=dZ e;obtain ⟨l,t,e⟩:=dS e;obtain ⟨us,A,z,e⟩:=dZ e;refine r ?_;refine Nh slot j k p m ((x _ _ _ s).mono ?_);refine lM ?_;refine ⟨Xv t,TW.mono (y _ _ _ z) ?_⟩;refine lM ?_;exact ob _ _ _ _ e
theorem Rn{E:rX}{s:dE}{Q:Unit→tU}(a:IsL s.heap l items c)
  (h0:0≤k) (d:k<2^63) (f:k.toNat<items.size) (e:Q () {s with heap:=s.heap.update l (iI (·.setIfInBounds k.toNat v))}):
  bT (model prog w) A (setItem (.ref l) (.int k t) v) Q E s:=by
 have b:s.TypeIs (.ref l) "list":=⟨_,a,rfl⟩;unfold setItem;try with_reducible refine bY ?_
 first|refine aH (aW ?_)|skip
 refine aH (aMr b (by decide) ?_);refine aH (nZ b slot_list_setitem
  (lO slot_list_setitem b entry_list_setitem ?_ (args_list_setitem _ _ _)))
 refine (?_:bT _ _ (aO6 (.int k t)>>=_) _ _ s);refine aH (wpAny_listSubscript_int (fitsIndex_of h0 d) ?_);clear d;replace h0:=Int.eq_ofNat_of_zero_le h0;obtain ⟨j,rfl⟩:=h0;refine (?_:bT _ _ ((seqItemAt l j>>=fun r=>pure (r.map (j,·)))>>=_) _ _ s);refine aH (aH (wpAny_seqItemAt a rfl (aW ?_)));refine (Oj (by exact f:j<items.size))▸?_;refine (?_:bT _ _ (setSeqItemAt l j v>>=_) _ _ s);refine aH (wpAny_setSeqItemAt a rfl ?_);first
  |exact aH (aW (aW ⟨.none,rfl,aW e⟩))
  |exact aW ⟨.none,rfl,aW e⟩
theorem Vd(fk:iL F)(x:kC n F o T)(y:kC n F i W):I5 n F (.Subscript o i ak) (ġ T W):=fun σ v σ' e=>by
 obtain ⟨ov,σ₁,Y,e⟩:=dZ e;replace e:=dZ e;obtain ⟨iv,I,Z,e⟩:=e;replace e:=Õ e;obtain ⟨j,rfl,J⟩:=e;obtain ⟨k,rfl,L⟩:=aDk J;obtain ⟨l,N,p⟩:=O6 L;clear e;clear J;clear L;replace p:=iC p;obtain ⟨s,e6⟩:=p;refine nW e6 ?_;rintro rfl;intro A X D h tk u ok m r;refine aH (bY (TW.atE (x _ _ _ Y) ok m bO.nil ?_));rintro xk h₁ ae D₁ O B av;refine aH (bY (TW.atE (y _ _ _ Z) ok B bO.nil ?_));rintro xl C bg D₂ G P da;have H:=gG.on B G av;replace H:=La P N H;obtain ⟨a,xs,c,rfl,ha,hx,R⟩:=H;obtain ⟨t,rfl⟩:=da;have bp:lim=1048576:=rfl;refine aH (gC (aH (bY (Rn hx s.1 (by lia) (by simp [R.length];exact s.2.1) (Jg ?_)))));have xm:bO D₂ (Yf F X D₂) C (l.set k.toNat v) (xs.set k.toNat u):=by
  clear s N;have:∀(l:bV)(xs:fZ)(j:Nat),bO D₂ (Yf F X D₂) C l xs→bO D₂ (Yf F X D₂) C (l.set j v) (xs.set j u):=by
   intro l
   induction l with
   |nil=>intro xs j q;subst q;exact bO.nil
   |cons d l ih=>
    intro xs j q;obtain ⟨z,zs,rfl,q1,g⟩:=q
    cases j with
    |zero=>exact .cons (gG.on B G (gG.on m O r)) g
    |succ j=>exact .cons q1 (ih zs j g)
  exact this _ _ _ R
 obtain ⟨h',ap,D',il,b,e',cq,m',r',g⟩:=Os (Q:=fun _ τ=>{I with cells:=kX j (gM.list (l.set k.toNat v)) I.cells}=τ) fk P ha hx (f:=fun z=>z.setIfInBounds k.toNat u) (by simp) xm Cq rfl;exact ⟨h',ap,D',il,(),e',(O.trans G).trans cq,m',trivial,g⟩
end
structure Dz(F:Fx)(tab:List (Nat×jY)):Prop where
 fk:iL F
 ok:∀x s,(x,s)∈tab→∃p,lk F.bnd x=some (p,s)∧Ŗ F.env p s
noncomputable def Ha:Nat→lK→List (Nat×jY)
 |_,[]=>[]
 |i,s::r=>(i,s)::Ha (i+1) r
theorem Û:∀{tab:lK}{i:Nat},(x,s)∈Ha i tab→i≤x∧tab[x-i]?=some s:=by
 intro c
 induction c with
 |nil=>intro i;intro h;cases h
 |cons t tab d=>
  intro i;intro h;rcases aR.mp h with e|h
  ·refine soT e ?_;rintro rfl rfl;simp
  ·obtain ⟨a,b⟩:=d h;refine ⟨aS Mk a,?_⟩;rw [show x-i=(x-(i+1))+1 by exact aS ln5 a];simpa using b
theorem kO.tab{fd:wN}{tab:lK}(d:kO fd tab)(L a:dF):Dz (wH fd L a tab) (Ha 0 tab)where
 fk:=d.fx L a
 ok:=fun x s h=>by
  obtain ⟨_,b⟩:=Û h;refine ⟨_,R0 (cJ _) b,?_⟩;have f:=aG b;unfold Uf;rcases d.names s f with q|⟨q,g⟩<;>rw [q]
  ·exact ⟨rfl,q⟩
  ·obtain ⟨c,e⟩:=fN.mp (g (L+1));rw [e];exact ⟨q,e⟩
section
variable{n:Nat}{F:Fx}{tab:List (Nat×jY)}
theorem cY(T:Dz F tab)(h:(x,s)∈tab)(hd:(s== ("__debug__":jY))=false):kC n F (.Name s c) (aJ x):=by obtain ⟨p,a,b⟩:=T.ok x s h;exact aBd T.fk a b hd
theorem qP(T:Dz F tab)(h:(x,s)∈tab):I5 n F (.Name s c) (bQ x):=by obtain ⟨p,a,b⟩:=T.ok x s h;exact đ T.fk a b
theorem C4{f:V→V→M V}(T:Dz F tab)(h:(x,s)∈tab)(o:Gi n F (inplaceOp a) f)
  (y:kC n F e g):Ez n F (.AugAssign (.Name s pos') a e d) (M0 x f g):=by
 obtain ⟨p,b,c⟩:=T.ok x s h;exact aBc T.fk b c o y
theorem eJ{a:List (bM→E1 Unit)}{gs:List (V→St→Option St)}(T:Dz F tab)(h:(x,s)∈tab)(y:N1 n F a gs):N1 n F ((fun v=>bindName F.env s v)::a) (bQ x::gs):=by obtain ⟨p,b,c⟩:=T.ok x s h;exact Zz (names:=[]) T.fk b c y
end
section
set_option backward.match.sparseCases false
def Eo(g:M V):M V:=fun σ=>bd (g σ) fun v σ=>(Iz v).map fun i=>(.int (-i),σ)
def Fn(n:Nat):Option Bool:=if n≤lim then some (decide (n≠0))else aF
def aJc:V→Option Bool
 |.none=>some false
 |.bool b=>some b
 |.int i=>some (i != 0)
 |.str s=>Fn s.length
 |.scr l=>Fn l.length
 |_=>aF
def ſ(σ:St)(v:V):Option Bool:=oo (aJc v) some (ob (Iy σ v) fun l=>Fn l.length)
@[elab_as_elim] theorem ž {P:V→Bool→Prop} (e:oo (aJc v) some g=some b) (a:P .none false) (f:∀b,P (.bool b) b) (j:∀i,P (.int i) (i != 0)) (k:∀s,Fn s.length=some b→P (.str s) b)
  (m:∀l,Fn l.length=some b→P (.scr l) b) (d:g=some b→P v b):P v b:=by
 cases v with
 |none=>exact nW e fun q=>q▸a
 |bool c=>exact nW e fun q=>q▸f c
 |int i=>exact nW e fun q=>q▸j i
 |str s=>cases h:Fn s.length with
  |none=>exact d ((congrArg (fun x=>oo x some g) h).symm.trans e)
  |some c=>exact nW ((congrArg (fun x=>oo x some g) h).symm.trans e) fun q=>k s (h.trans (congrArg some q))
 |scr l=>cases h:Fn l.length with
  |none=>exact d ((congrArg (fun x=>oo x some g) h).symm.trans e)
  |some c=>exact nW ((congrArg (fun x=>oo x some g) h).symm.trans e) fun q=>m l (h.trans (congrArg some q))
 |_=>exact d e
def qB(g:M V):M Bool:=fun σ=>bd (g σ) fun v σ=>(ſ σ v).map fun b=>(b,σ)
section
variable{n:Nat}{F:Fx}
theorem C5(x:kC n F e g):kC n F (.UnaryOp .USub e d) (Eo g):=fun σ v σ' q=>by
 replace q:=dZ q;obtain ⟨a,σ₁,b,q⟩:=q;cases a<;>simp only [Iz,nD]at q<;>first|cases q|skip
 intro A X D h tk vs ok m _;refine wpAny_UnaryOp (TW.atE (x _ _ _ b) ok m bO.nil ?_);rintro u h₁ f D₁ st c r;obtain ⟨t,rfl⟩:=r;exact P.neg_int ((gY c nL ⟨rfl,rfl⟩).on st)
theorem Wm{X:iB}{K:Bool→tU}(m:iZ F X D σ h)(e:ſ σ v=some b)(r:gG D (Yf F X D) h v u)(k:∀p,K b (jK h p)):bT (model prog w) A (truthy u) K (fun _ _=>False) (jK h tk):=by
 have j:lim=1048576:=rfl;have list:∀(a:dF)(xs:fZ)(l:bV),h.IsList a (aY xs)→bO D (Yf F X D) h l xs→Fn l.length=some b→bT (model prog w) A (truthy (.ref a)) K (fun _ _=>False) (jK h tk):=by
  intro a xs l f d g;obtain ⟨o,g⟩:=iC g;refine wpAny_truthy_list f (by simp [d.length];exact aS 0x718db18c6318c6318c6318c6318c630741ea14802bc6318c6386002 j o) ?_;have:(!(aY xs).isEmpty)=b:=by refine Eq.trans ?_ (eR g);have:=d.length;clear o;clear g;cases xs<;>cases l<;>simp_all
  refine this▸?_;exact k _
 clear j;revert list k r;refine ž e ?_ ?_ ?_ ?_ ?_ ?_
 ·intro r k _;cases r;exact aW (k _)
 ·intro b r k _;cases r;exact N5 (k _)
 ·rintro i ⟨t,rfl⟩ k _;exact P.truthy_int (k _)
 ·rintro s e ⟨t,rfl⟩ k _;obtain ⟨f,e⟩:=iC e;have j:lim=1048576:=rfl;refine P.truthy_str (by lia) ?_;have:((s.length:Int) != 0)=b:=by
   refine Eq.trans ?_ (eR e);by_cases q:s.length=0
   ·simp [q]
   ·have:(s.length:Int)≠0:=aS 0x160c5d2b9aa074966001 q;simp [q]
  refine this▸?_;exact k _
 ·rintro l e ⟨a,xs,rfl,_,f,d⟩ _ list;exact list a xs _ f d e
 ·intro e r k list;obtain ⟨l,x,e⟩:=dS e;obtain ⟨a,xs,c,rfl,hx,d⟩:=Jt m x r;exact list a xs l hx.isList d e
theorem nN(x:kC n F e g)(f:isTrue e F.env (eval e F.env)=(do let v←eval e F.env;jD e.pos;holding [v] (truthy v))):Ŭ n F e (qB g):=fun σ v σ' q=>by
 obtain ⟨a,σ₁,i,q⟩:=dZ q
 cases c:ſ σ₁ a with
 |none=>rw [c]at q;exact hU q
 |some b=>replace q:=c▸q;intro A X D h tk vs ok m _;refine wpAny_isTrue_value (TW.atE (x _ _ _ i) ok m bO.nil ?_) f;rintro u h₁ k D₁ st d r;exact Wm d c r fun j=>⟨h₁,j,D₁,_,_,rfl,st,d,rfl,.of q⟩
def Py(f f':V→V→M V)(gl gr qz:M V):M V:=fun σ=>bd (gl σ) fun a σ=>bd (gr σ) fun b σ=>bd (f a b σ) fun c σ=>ob (asB c) fun t=>if t=true then bd (qz σ) fun b' σ=>f' b b' σ else some (.bool false,σ)
theorem Ĕ{f f':V→V→M V}(o:Gi n F (compareOp g) f)(N:Gi n F (compareOp op') f')(x:kC n F l O)(y:kC n F r gr)(z:kC n F d P)
  (Q:eval (.Compare l [g,op'] [r,d] i) F.env=(do compareChain i (←eval l F.env) [g,op'] [eval r F.env,eval d F.env])):kC n F (.Compare l [g,op'] [r,d] i) (Py f f' O gr P):=fun σ v σ' q=>by
 refine nn fun R=>?_;obtain ⟨a,σ₁,T,q⟩:=dZ q;obtain ⟨b,ao,W,q⟩:=dZ q;obtain ⟨c,bq,Y,q⟩:=dZ q;refine R ?_;replace q:=dS q;obtain ⟨t,s,q⟩:=q;intro A X D h tk vs ok m _;refine (?_:bT _ _ (eval (.Compare l [g,op'] [r,d] i) F.env) _ _ _);refine Q▸?_;refine aH (TW.atE (x _ _ _ T) ok m bO.nil ?_);rintro u h₁ ae D₁ Z B av;refine (?_:bT _ _ (holding [u] (eval r F.env)>>=_) _ _ _);refine aH (bY (TW.atE (y _ _ _ W) ok B bO.nil ?_));rintro C az bg D₂ G H I;refine aH (gC (aH (bY (TW.atE (o _ _ _ _ _ Y) ok H (.cons (gG.on B G av) (.cons I .nil)) ?_))));rintro w' bc bz D₃ J j g5;cases c<;>simp only [asB]at s<;>first|cases s|skip
 subst g5;refine aH (Jg (aH (bY (N5 ?_))));have F5:=(Z.trans G).trans J;cases t
 ·exact aW ⟨bc,bz,D₃,_,_,rfl,F5,j,pG,.of q⟩
 ·obtain ⟨b',fj,e5,q⟩:=dZ q;refine (?_:bT _ _ (holding [C] (eval d F.env)>>=_) _ _ _);refine aH (bY (TW.atE (z _ _ _ e5) ok j bO.nil ?_));rintro k f7 j7 D₄ L je xo;refine aH (gC (wpAny_operateT ?_));exact bL (N _ _ _ _ _ q A X D₄ f7 j7 [C,k] ok je (.cons (gG.on j L (gG.on H J I)) (.cons xo .nil))) (fun _ _ p=>p.on (F5.trans L)) fun _ _ e=>e
end
end
def Y0(C:dF):Nat→lK→List (Nat×vA×jY)
 |_,[]=>[]
 |i,s::r=>(i,.loc C,s)::Y0 C (i+1) r
theorem Hf:Y0 C a []=([]):=rfl
theorem He:Y0 C i (s::r)=((i,.loc C,s)::Y0 C (i+1) r):=rfl
def tB(F:Fx)(scope:Ys)(cl:List (jY×dF))(C:dF)(base:Nat)(names:lK):Fx where
 env:=kH scope cl C F.env
 bnd:=F.bnd++Y0 C base names
 Z:=C::F.Z
theorem wX{c:Type}:∀(a b:List (Nat×c))(x:Nat),lk (a++b) x=match lk a x with|some v=>some v|aF=>lk b x:=by
 intro d
 induction d with
 |nil=>intro b;intro x;exact rfl
 |cons e a f=>
  obtain ⟨y,v⟩:=e;intro b;intro x;dsimp only [jO,fF,fE];split
  ·rfl
  ·exact f b x
theorem aGd:∀{tab:lK}{i:Nat},lk (Y0 C i tab) x=some (p,s)→i≤x∧tab[x-i]?=some s∧p=.loc C:=by
 intro d
 induction d with
 |nil=>intro i;intro e;simp [Hf,He,fF,fE]at e
 |cons t tab f=>
  intro i;intro e;dsimp only [Hf,He,fF,fE]at e;by_cases h:x=i
  ·rw [if_pos h]at e;refine Jl e ?_;rintro rfl rfl;subst h;simp
  ·rw [if_neg h]at e;refine nn fun g=>?_;obtain ⟨a,b,c⟩:=f e;refine g ?_;refine ⟨aS Mk a,?_,c⟩;simp only [show x-i=(x-(i+1))+1 by exact aS ln5 a];exact b
theorem aGc:∀{tab:lK}{i x:Nat},i≤x→tab[x-i]?=some s→lk (Y0 C i tab) x=some (.loc C,s):=by
 intro a
 induction a with
 |nil=>intro i;intro x;intro _;intro e;simp at e
 |cons t tab b=>
  intro i;intro x;intro hx;intro e;dsimp only [Hf,He,fF,fE];by_cases h:x=i
  ·subst h;simp at e;simp [e]
  ·refine (if_neg h)▸?_;refine b (aS aAv hx h) ?_;replace e:=(show x-i=(x-(i+1))+1 by exact aS aLb hx h)▸e;simpa using e
section
variable{F:Fx}{scope:Ys}{cl:List (jY×dF)}{C:dF}{base:Nat}{names:lK}
theorem A4(b:∀x q,lk F.bnd x=some q→x<base)(e:lk (tB F scope cl C base names).bnd x=some (p,s)):lk F.bnd x=some (p,s)∨(base≤x∧names[x-base]?=some s∧p=.loc C):=by
 have a:lk (F.bnd++Y0 C base names) x=some (p,s):=e;rw [wX]at a
 cases q:lk F.bnd x with
 |some v=>rw [q]at a;exact .inl a
 |none=>rw [q]at a;exact .inr (aGd a)
theorem Gc(e:lk F.bnd x=some q):lk (tB F scope cl C base names).bnd x=some q:=by refine (?_:lk (F.bnd++Y0 C base names) x=some q);simp only [wX,e]
theorem aG5(fk:iL F)(h:scope.kind=.function)(b:C∉F.Z)(i:names.Nodup)(a:∀x q,lk F.bnd x=some q→x<base):iL (tB F scope cl C base names)where
 kind:=h
 inZ:=fun x p s e=>by
  rcases A4 a e with q|⟨_,_,rfl⟩
  ·exact bB _ (fk.inZ x p s q)
  ·exact aU
 dist:=fun x y p s c d e j f=>by
  rcases A4 a e with q|⟨k,g,rfl⟩<;>rcases A4 a j with r|⟨r1,l,rfl⟩
  ·exact fk.dist x y p s c d q r f
  ·exact .inl fun z=>b (by have:=fk.inZ x p s q;rw [z]at this;exact this)
  ·exact .inl fun z=>b (by have:=fk.inZ y c d r;rw [←z]at this;exact this)
  ·refine .inr ⟨C,rfl,rfl,fun z=>f ?_⟩;subst z;have:=(oX ((cW.mp g).1) i).mp (g.trans l.symm);exact aS 0x821042084101102211194518ac825802920d221ccc21ccc1003 k r1 this
theorem Vb(T:Dz F tab)(g:scope.kind=.function)(i:C∉F.Z)(j:names.Nodup)(d:∀x q,lk F.bnd x=some q→x<base)
  (k:∀p∈cap,p∈tab∧F.env.kindOf p.2=some .cell∧(relabel scope F.env).names.lookup p.2=some .cell∧cl.lookup p.2=F.env.cells.lookup p.2)
  (l:∀s∈names,(relabel scope F.env).names.lookup s=some .local):Dz (tB F scope cl C base names) (cap++Ha base names)where
 fk:=aG5 T.fk g i j d
 ok:=fun x s h=>by
  rcases cV.mp h with h|h
  ·obtain ⟨a,b,m,o⟩:=k _ h;refine nn fun r=>?_;obtain ⟨p,e,f⟩:=T.ok x s a;refine r ?_;refine ⟨p,Gc e,?_⟩;clear e
   cases p with
   |loc L=>have:=f.2;replace this:=b▸this;cases this
   |cel c=>exact ⟨m,by simp only [←f.2];exact o⟩
  ·obtain ⟨a,b⟩:=Û h;refine ⟨.loc C,?_,rfl,l s (aG b)⟩;refine (?_:lk (F.bnd++Y0 C base names) x=_);rw [wX]
   cases q:lk F.bnd x with
   |some v=>exact absurd (d x v q) (aS 0x318ba4a00521002 a)
   |none=>exact aGc a b
end
inductive Ap(F:Fx)(X:iB)(D:lQ)(h:dT)(a:dF)(l:bV):Prop
 |mk (us:fZ) (c:Nat) (i:IsL h a (aY us) c) (r:bO D (Yf F X D) h l us):Ap F X D h a l
noncomputable def zx(a:dF)(F:Fx):Fx:={F with Z:=a::F.Z}
theorem oU.zx(x:oU F D h D' h'):oU (zx a F) D h D' h':=⟨fun b o e c=>x.keep b o e fun q=>c (bB _ q),x.ext,x.new,x.al⟩
inductive CbR(F:Fx)(X:iB)(D:lQ)(h:dT)(a:dF)(l:bV)(σ':St)(s':dE):Prop
 |mk (h':dT) (ap:Nat) (D':lQ) (e:s'=jK h' ap) (st:oU (zx a F) D h D' h') (m:iZ F X D' σ' h') (ac:Ap F X D' h' a l):CbR F X D h a l σ' s'
section
variable(n:Nat)(F:Fx)
def CB(a:dF){α:Type}(b:E1 α)(σ:St)(xs:bV)(σ':St):Prop:=∀A X D h tk l,wD n A→X a→a∉F.Z→S.heap.get? a=aF→iZ F X D σ h→Ap F X D h a l→l.length+xs.length≤hW→
 bT (model prog w) A b (fun _ s'=>CbR F X D h a (l++xs) σ' s') (fun _ _=>False) (jK h tk)
end
def yJ(gt:V→St→Option St)(gb:M bV):bV→M bV
 |[],σ=>some ([],σ)
 |v::r,σ=>ob (gt v σ) fun σ=>bd (gb σ) fun xs σ=>bd (yJ gt gb r σ) fun ys σ=>some (xs++ys,σ)
theorem Np{gt:V→St→Option St}:yJ gt a [] σ=(some ([],σ)):=rfl
theorem No{gt:V→St→Option St}:yJ gt a (v::r) σ=(ob (gt v σ) fun σ=>bd (a σ) fun xs σ=>bd (yJ gt a r σ) fun b σ=>some (xs++b,σ)):=rfl
def lP(ge:M V):M bV:=fun σ=>bd (ge σ) fun x σ=>some ([x],σ)
def H6(gi:M bV)(gt:V→St→Option St)(gb:M bV):M bV:=fun σ=>bd (gi σ) fun ds σ=>yJ gt gb ds σ
section
variable{n:Nat}{F:Fx}
theorem Ap.on{X:iB}(m:iZ F X D σ h)(b:X a)(d:a∉F.Z)(st:oU F D h D' h')(x:Ap F X D h a l):Ap F X D' h' a l:=by obtain ⟨us,c,e,f⟩:=x;exact ⟨us,c,st.keep a _ e d (fun j q=>(m.sep j a q).x b),bO.on m st f⟩
theorem Nr(fk:iL F)(x:kC n F y B)(e:lP B σ=some (xs,σ')):CB n F a (eval y F.env>>=fun x=>call (.builtin "list.append") [.ref a,x]>>=fun _=>pure ()) σ xs σ':=by
 replace e:=dZ e;obtain ⟨v,σ₁,G,e⟩:=e;refine Jl e ?_;rintro rfl rfl;intro A X D h tk l ok i p H m I s;refine aH (TW.at (x _ _ _ G) ok m bO.nil ?_);rintro u h₁ J D₁ _ _ st L r ⟨rfl,rfl⟩;obtain ⟨us,c,j,t⟩:=I.on m i p st;simp only [cQ,gI]at s;refine aH (call_meets bW ⟨_,j,rfl⟩ Lj (Kc _ _) (Ů a (aY us) c u (by simp [(t.length)];exact aS 0xc62908121420e6002 s)) ⟨j,aW ?_⟩);have k:=j.update (fun z=>z.push u);have g:∀b o,b∉[a]→h₁.get? b=some o→(h₁.update a (iI fun z=>z.push u)).get? b=some o:=fun b o f e=>(gF h₁ _ (fun q=>f (by simp [q]))).trans e;have N:∀b o,h₁.get? b=some o→vC (h₁.update a (iI fun z=>z.push u)) b:=fun b o e=>by
  by_cases q:b=a
  ·subst q;exact ⟨_,k⟩
  ·exact ⟨o,g b o (by simpa using q) e⟩
 refine ⟨_,J,D₁,rfl,st.zx.trans ⟨fun b o e f _=>g b o (fun q=>f (by refine (aM.mp q)▸?_;exact aU)) e,fun _ _ e=>e,fun _ _ e=>.inl e,N⟩,(L.turnX fk (fun b f=>by refine (aM.mp f)▸?_;exact i) (fun b f=>by refine (aM.mp f)▸?_;exact p) (fun b f=>by refine (aM.mp f)▸?_;exact H) g (fun b f=>by simp only [aM.mp f];exact ⟨_,k⟩)),us++[u],_,(by simp:(aY us).push u=(us++[u]).toArray)▸k,(fun d v=>bO.step (fun b o e f=>g b o (fun q=>f (.inr (.inl (by simp only [aM.mp q];exact i)))) e) (fun _ _ e=>e) (fun _ e=>.inl e) d v) _ _ (t.append (.cons r .nil))⟩
inductive An(F:Fx)(A:kS)(X:iB)(D:lQ)(h:dT)(I:dF)(ds:bV):Prop
 |mk (iz:I∉F.Z) (ix:¬X I) (ib:S.heap.get? I=aF) (fp:List dF) (P:Nat→bM→Prop) (Sx:Nat→dT→Prop) (T:String) (W:Walks prog w A I fp [I] ds.length P Sx) (hc:∀i h,Sx i h→∃o,h.get? I=some o∧o.cls=.type T) (hT:wZ.contains T=false) (st:Sx 0 h)
  (hf:∀b∈fp,b=I∨(b∉F.Z∧¬X b∧(∀i,lk D i≠some b)∧vC h b))
  (hP:∀i v D' Y' h',i<ds.length→P i v→(∀b o,h.get? b=some o→¬Yf F (iW [I] X) D b→h'.get? b=some o)→(∀a,Y' a→Yf F (iW [I] X) D a∨h.get? a=aF)→gG D' Y' h' (ds.getD i .none) v):An F A X D h I ds
theorem Am.toIn{X:iB}(m:iZ F X D σ h₀)(j:Am F A X D h₀ h I ds):An F A X D h I ds∧iZ F (iW [I] X) D σ h∧(∀b o,h₀.get? b=some o→h.get? b=some o)∧h₀.get? I=aF:=by
 obtain ⟨k,P,Sx,T,W,f,l,d,a,g,p,r⟩:=j;have s:S.heap.get? I=aF:=by
  cases q:S.heap.get? I with
  |none=>rfl
  |some o=>rw [m.base I o q]at a;exact Ly a
 have t:∀i,lk D i≠some I:=fun i q=>((m.sep i I q).h).no a;have u:=m.addX d fun b c=>by obtain rfl:b=I:=aM.mp c;exact ⟨a,let ⟨o,e,_⟩:=f 0 h g;⟨o,e⟩⟩
 refine ⟨⟨(fun q=>((m.zfr I q).2).no a),(fun q=>(m.xal I q).no a),s,k,P,Sx,T,W,f,l,g,fun b c=>(p b c).imp id fun ⟨x,y,z,o,B⟩=>⟨x,y,z,o,d _ _ B⟩,fun i v D' Y' h' hi G H J=>r i v D' Y' h' hi G (fun b o e c=>H b o (d b o e) fun q=>?_) fun b c=>?_⟩,u,d,a⟩
 ·rcases q with q|q|q
  ·exact c (.inl q)
  ·rcases q with q|q
   ·rw [aM.mp q,a]at e;exact hU e
   ·exact c (.inr (.inl q))
  ·exact c (.inr (.inr q))
 ·rcases J b c with q|q
  ·rcases q with q|q|q
   ·exact .inl (.inl q)
   ·rcases q with q|q
    ·exact .inr (by refine (aM.mp q)▸?_;exact a)
    ·exact .inl (.inr (.inl q))
   ·exact .inl (.inr (.inr q))
  ·refine .inr ?_
   cases L:h₀.get? b with
   |none=>rfl
   |some o=>rw [d b o L]at q;exact Ly q
structure aIe(I a:dF)(F:Fx)(D:lQ)(h:dT)(D':lQ)(h':dT):Prop where
 keep:∀b o,h.get? b=some o→b∉(zx I (zx a F)).Z→(∀n,lk D n≠some b)→h'.get? b=some o
 ext:∀n a,lk D n=some a→lk D' n=some a
 new:∀n a,lk D' n=some a→lk D n=some a∨h.get? a=aF
 al:∀b o,b≠I→h.get? b=some o→vC h' b
inductive CbI(F:Fx)(X:iB)(D:lQ)(h:dT)(I a:dF)(l:bV)(σ':St)(r:xH)(s':dE):Prop
 |mk (er:r=.ok .next) (h':dT) (ap:Nat) (D':lQ) (e:s'=jK h' ap) (st:aIe I a F D h D' h') (m:iZ F X D' σ' h') (ac:Ap F X D' h' a l):CbI F X D h I a l σ' r s'
theorem aIe.from(x:aIe I a F D h D' h')(c:∀b o,h₀.get? b=some o→h.get? b=some o)(f:h₀.get? I=aF):oU (zx a F) D h₀ D' h':=by
 have d:∀b o,h₀.get? b=some o→b≠I:=fun b o e q=>by rw [q,f]at e;exact hU e
 refine ⟨fun b o e g hd=>x.keep b o (c b o e) (fun q=>?_) hd,x.ext,fun n b e=>?_,fun b o e=>x.al b o (d b o e) (c b o e)⟩
 ·rcases aR.mp q with q|q
  ·exact d b o e q
  ·exact g q
 ·rcases x.new n b e with q|q
  ·exact .inl q
  ·refine .inr ?_
   cases i:h₀.get? b with
   |none=>rfl
   |some o=>rw [c b o i]at q;exact Ly q
inductive CbV(F:Fx)(X:iB)(D:lQ)(h:dT)(I a:dF)(ds xs l:bV)(gt:V→St→Option St)(gb:M bV)(Sx:Nat→dT→Prop)(σ':St)(j:Nat)(s':dE):Prop
 |mk (i:Nat) (h':dT) (ap:Nat) (D':lQ) (τ:St) (ys zs:bV) (ej:j=ds.length+1-i) (hi:i≤ds.length) (e:s'=jK h' ap) (st:oU (zx I (zx a F)) D h D' h') (m:iZ F (iW [I] X) D' τ h') (sx:Sx i h') (ac:Ap F (iW [I] X) D' h' a (l++ys)) (eg:yJ gt gb (ds.drop i) τ=some (zs,σ')) (ex:xs=ys++zs):CbV F X D h I a ds xs l gt gb Sx σ' j s'
theorem Et{X:iB}{gt:V→St→Option St}
  (fk:iL F) (ok:wD n A) (m:X a) (hZ:a∉F.Z) (hB:S.heap.get? a=aF) (hq:(Code.compLoop e d (.ref I) (.ref a) F.env).quiet=true)
  (tm:∀(K:Fin→tU)(E:rX)(s:dE),bT (model prog w) A (compTurn e d (.ref I) (.ref a) F.env) K (notedBy (model prog w) A F.env E) s→bT (model prog w) (A.under (.compLoop e d (.ref I) (.ref a) F.env)) ((model prog w).den (.compLoop e d (.ref I) (.ref a) F.env)) K E s)
  (d8:compTurn e d (.ref I) (.ref a) F.env=(jD p>>=fun _=>pyNext (.ref I)>>=fun r=>match r with
   |none=>pure (.done .next)
   |some v=>mJ q7 (.ref I) v>>=fun _=>assign q7 F.env v>>=fun _=>body>>=fun _=>again (.compLoop e d (.ref I) (.ref a) F.env)))
  (wk:An F A X D h I ds) (m1:iZ F (iW [I] X) D σ h) (ls:Ap F (iW [I] X) D h a l)
  (y:I5 n F q7 gt) (z:∀σ xs σ',gb σ=some (xs,σ')→CB n F a body σ xs σ') (eg:yJ gt gb ds σ=some (xs,σ')) (x:l.length+xs.length≤hW):
  jI (model prog w) A (.compLoop e d (.ref I) (.ref a) F.env) (CbI F X D h I a (l++xs) σ') (jK h tk):=by
 obtain ⟨B,oe,k8,fp,P,Sx,T,W,fw,hT,de,G,hP⟩:=wk;have H:I≠a:=fun q=>oe (q▸m);have nI:∀b,b∉(zx I (zx a F)).Z→b∉[I]:=fun b f q=>f (by refine (aM.mp q)▸?_;exact aU);refine codeAny_loop hq (CbV F X D h I a ds xs l gt gb Sx σ') (fun j s' hj=>?_) (ds.length+1)
  ⟨0,h,tk,D,σ,[],xs,rfl,cJ _,rfl,.refl,m1,de,by simpa using ls,by simpa using eg,rfl⟩
 obtain ⟨i,h',ap,D',τ,t,zs,rfl,hi,rfl,st,m',sx,tn,g,J⟩:=hj;have to:∀(h₁:dT),(vC h₁ I)→(∀b o,b∉[I]→h'.get? b=some o→h₁.get? b=some o)→oU (zx I (zx a F)) D' h' D' h₁:=fun h₁ oj k=>⟨fun b o e u _=>k b o (nI b u) e,fun _ _ e=>e,fun _ _ e=>.inl e,fun b o e=>by
  by_cases q:b=I
  ·subst q;exact oj
  ·exact ⟨o,k b o (by simpa using q) e⟩⟩
 refine tm _ _ _ ?_;refine d8▸?_;refine aH (gC ?_);clear hq tm d8 m1 ls;rcases tG i ds.length with lt|ge
 ·refine aH (W.item i _ _ _ lt sx fun v h₁ L si iq k=>?_);obtain ⟨oI,N,cI⟩:=fw _ _ iq;have ag:=m'.turnX fk (fun a O=>nC O) (Eb B) (Eb k8) k (fun a O=>by refine (aM.mp O)▸?_;exact ⟨_,N⟩);have om:Ap F (iW [I] X) D' h₁ a (l++t):=by obtain ⟨us,c,Q,R⟩:=tn;exact ⟨us,c,k _ _ (by simpa using qZ H) Q,bO.step (fun b o e f=>k b o (fun q=>f (.inr (.inl (nC q)))) e) (fun _ _ e=>e) (fun _ e=>.inl e) _ _ R⟩
  have Y:=st.trans (to h₁ ⟨_,N⟩ k);refine aH (Hm N cI hT ?_);have hd:ds.drop i=ds.getD i .none::ds.drop (i+1):=by simp [aP,lt]
  rw [hd]at g;obtain ⟨bf,e1,g⟩:=dS g;obtain ⟨mr,cb,e2,g⟩:=dZ g;replace g:=dZ g;obtain ⟨tp,gj,e3,g⟩:=g;cases g;have rv:gG D' (Yf F (iW [I] X) D') h₁ (ds.getD i .none) v:=hP i v D' _ h₁ lt si (fun b o e f=>Y.keep b o e (fun q=>by
    rcases aR.mp q with q|q
    ·exact f (.inr (.inl (nC (by simp [q]))))
    ·rcases aR.mp q with q|q
     ·exact f (.inr (.inl (oY (q▸m))))
     ·exact f (.inl q)) fun n q=>f (.inr (.inr ⟨n,q⟩))) fun b f=>by
   rcases f with q|q|⟨j,q⟩
   ·exact .inl (.inl q)
   ·exact .inl (.inr (.inl q))
   ·rcases Y.new j b q with q|q
    ·exact .inl (.inr (.inr ⟨j,q⟩))
    ·exact .inr q
  refine aH (bL (y _ _ _ e1 A (iW [I] X) D' h₁ L v ok ag rv) (fun _ g6 Z=>?_) fun _ _ q=>q.elim);obtain ⟨az,bg,D₂,_,_,rfl,ar,bw,_,rfl⟩:=Z;refine aH (bL (z _ _ _ e2 A (iW [I] X) D₂ az bg (l++t) ok (oY m) hZ hB bw (om.on ag (oY m) hZ ar) (by rw [J]at x;simp at x⊢;exact aS 0x318a488120204910840c41005 x:(l++t).length+mr.length≤hW)) (fun _ se Z=>?_) fun _ _ q=>q.elim);obtain ⟨bc,bz,D₃,rfl,c9,c8,oq⟩:=Z;have i7:=ar.zx.trans c9;have mj:∀i b,lk D' i=some b→b≠I:=fun j b e q=>(m'.sep j b e).x (nC (by simp [q]));have w7:=W.frame _ _ _ iq fun b f o e=>by
   refine i7.keep b o e ?_ ?_
   ·intro q;rcases aR.mp q with q|q
    ·rcases G b f with r|⟨_,r2,_⟩
     ·exact H (r.symm.trans q)
     ·exact r2 (q▸m)
    ·rcases G b f with rfl|⟨r,_,_⟩
     ·exact B q
     ·exact r q
   ·intro j ej;rcases G b f with rfl|⟨_,_,z2,o',z3⟩
    ·exact mj j b ej rfl
    ·rcases st.new j b ej with q|q
     ·exact z2 j q
     ·replace q:=z3▸q;cases q
  refine aW ⟨rfl,ds.length+1-(i+1),aS 0x1282902918a80150873309070ccc838507002 lt,i+1,bc,bz,D₃,_,t++mr,tp,rfl,lt,rfl,Y.trans i7.zx,c8,w7,by simpa using oq,e3,by rw [J];simp⟩
 ·obtain rfl:i=ds.length:=lX hi ge;replace g:=mQ▸g;cases g;have hnI:vC h' I:=let ⟨o,e,_⟩:=fw _ _ sx;⟨o,e⟩;refine aH (W.done _ _ _ sx fun h₁ L k=>aW ?_);obtain ⟨us,c,Q,R⟩:=tn;refine ⟨rfl,h₁,L,D',rfl,?_,(m'.leave fk (Eb B) (Eb k8) (Eb oe) k),us,c,k _ _ (by simpa using qZ H) Q,?_⟩
  ·exact ⟨fun b o e u hd=>k b o (nI b u) (st.keep b o e u hd),st.ext,st.new,fun b o f e=>let ⟨o',e'⟩:=st.al b o e;⟨o',k b o' (by simpa using f) e'⟩⟩
  ·refine J▸?_;have:=bO.step (h':=h₁) (D':=D') (Y':=Yf F (iW [I] X) D') (fun b o e f=>k b o (fun q=>f (.inr (.inl (nC q)))) e) (fun _ _ e=>e) (fun _ e=>.inl e) _ _ R;simpa using (fun D' h' d v=>bO.step (fun _ _ e _=>e) (fun _ _ e=>e) (fun _ q=>.inl (Y9 q)) d v:∀(D':lQ)(h':dT)(d:bV)(v:fZ),bO D' (Yf F (iW [I] X) D') h' d v→bO D' (Yf F X D') h' d v) _ _ _ _ this
end
noncomputable def J0{α:Type}(k:Nat):List (Nat×α)→List (Nat×α)
 |[]=>[]
 |(n,a)::r=>if n<k then (n,a)::J0 k r else J0 k r
theorem Vx{a:Type}:J0 k ([]:List (Nat×a))=([]):=rfl
theorem Vw{b:Type}{a:b}{r:List (Nat×b)}:J0 k ((n,a)::r)=(if n<k then (n,a)::J0 k r else J0 k r):=rfl
theorem U2{d:Type}(k:Nat):∀(D:List (Nat×d))(n:Nat),lk (J0 k D) n=if n<k then lk D n else aF:=by
 intro f
 induction f with
 |nil=>intro n;simp [Vx,Vw,fF,fE]
 |cons g r b=>
  obtain ⟨m,a⟩:=g;intro n;simp only [Vx,Vw];by_cases h:m<k
  ·rw [if_pos h];simp only [fF,fE];by_cases e:n=m
   ·subst e;simp [h]
   ·simp only [if_neg e];exact b n
  ·rw [if_neg h];refine (b n)▸?_;by_cases c:n<k
   ·have:n≠m:=fun q=>h (q▸c);simp [fF,fE,this]
   ·simp [c]
def Jz(k:Nat)(σ:St):St:={σ with loc:=J0 k σ.loc}
def uY(base:Nat)(gi:M bV)(gt:V→St→Option St)(gb:M bV):M V:=fun σ=>bd (gi σ) fun ds σ=>bd (yJ gt gb ds σ) fun xs σ=>if xs.length≤lim then some (.lst xs,Jz base σ)else aF
section
variable{n:Nat}{F:Fx}
theorem An.self{X:iB}{K:rX}{E:rX}(a:An F A X D h I ds)(k:K (.ref I) (jK h tk)):bT (model prog w) A (pyIter (.ref I)) K E (jK h tk):=by refine nn fun b=>?_;obtain ⟨_,_,_,d,P,Sx,T,W,_,_,c,_,_⟩:=a;refine b ?_;exact W.self 0 _ _ _ c k
theorem yH{R:xH→tU}{s:dE}(j:gens[d]?=some g)(k:(g.is_async != 0)=false)
  (h0:jI (model prog w) A (.compLoop (.ListComp b gens scope c) d e f env) R s)
  (h:bT (model prog w) A (pyIter e) (fun i a=>jI (model prog w) A (.compLoop (.ListComp b gens scope c) d i f env) R a) (notedBy (model prog w) A env fun x a=>R (.error x) a) s):
  jI (model prog w) A (.compStart (.ListComp b gens scope c) d e f env) R s:=by
 refine D2 ?_;show bT _ _ ((compStart (.ListComp b gens scope c) d e f env).onRaise (fun x=>do noteFrame x env;jD theWindowsPlace)) _ _ s;refine wpAny_notedAt ?_;unfold compStart;refine (j)▸?_;refine (?_:bT _ _ (if (g.is_async != 0)=true then _ else _) _ _ s);refine k▸?_;refine (?_:bT _ _ (ask>>=_) _ _ s);refine aH (wpAny_askSetting (wpAny_ite ?_));split
 ·first
   |exact aH (aW (aW (Wc rfl h0)))
   |exact aW (Wc rfl h0)
 ·refine aH (yY ?_);refine (?_:bT _ _ (jD g.iter.pos>>=_) _ _ s);exact aH (gC (aH (bL h (fun i a h'=>aW (Wc rfl h')) fun _ _ x=>x)))
theorem yI(K:Fin→tU)(E:rX)(s:dE)(h:bT (model prog w) A (compTurn (.ListComp b gens scope c) d (.ref I) (.ref a) env) K (notedBy (model prog w) A env E) s):
  bT (model prog w) (A.under (.compLoop (.ListComp b gens scope c) d (.ref I) (.ref a) env)) ((model prog w).den (.compLoop (.ListComp b gens scope c) d (.ref I) (.ref a) env)) K E s:=by
 show bT _ _ ((compTurn (.ListComp b gens scope c) d (.ref I) (.ref a) env).onRaise (fun x=>do noteFrame x env;theTreesLotGoes x)) _ _ s;exact wpAny_noted h
theorem aCs{a:dF}{i:Expr}{gens:List Comprehension}{scope:Ys}{j p:Pos}{d:Nat}{k iter:Expr}{body:E1 Unit}{B:M bV}{gt:V→St→Option St}{C:M bV}{σ σ':St}{xs:bV}(fk:iL F)(s:∃g,gens[d]?=some g∧(g.is_async != 0)=false)
  (P:∀x,foldedSetIterable iter F.env x=pure x)
  (Q:∀I,compTurn (.ListComp i gens scope j) d (.ref I) (.ref a) F.env=(jD p>>=fun _=>pyNext (.ref I)>>=fun r=>match r with
   |none=>pure (.done .next)
   |some v=>mJ k (.ref I) v>>=fun _=>assign k F.env v>>=fun _=>body>>=fun _=>again (.compLoop (.ListComp i gens scope j) d (.ref I) (.ref a) F.env)))
  (x:Y2 n F iter B) (y:I5 n F k gt) (z:∀σ xs σ',C σ=some (xs,σ')→CB n F a body σ xs σ') (e:H6 B gt C σ=some (xs,σ')):
  CB n F a (eval iter F.env>>=fun x=>jD iter.pos>>=fun _=>foldedSetIterable iter F.env x>>=fun x=>holding [x] (pyIter x)>>=fun G=>runOwn (.compStart (.ListComp i gens scope j) d G (.ref a) F.env) F.env>>=fun _=>pure ()) σ xs σ':=by
 refine nn fun f=>?_;obtain ⟨ds,σ₁,R,e⟩:=dZ e;obtain ⟨g,T,W⟩:=s;refine f ?_;intro A X D h tk l ok H J Y m Z hs;refine aH (bL (x _ _ _ R A X D h tk ok m) (fun xv ew h₁=>aH (gC (aH (wpAny_of_eq (P xv) (aH (bY (bL h₁ (fun G g6 t=>?_) fun _ _ q=>q))))))) fun _ _ q=>q);obtain ⟨h₀,D₀,g8,qy,I,bo,ae,rfl,rfl,st,m₀,wk,rfl,rfl⟩:=t;refine nn fun f=>?_;obtain ⟨L,m1,u,N⟩:=wk.toIn m₀;refine f ?_;have ls:Ap F (iW [I] X) D₀ bo a l:=by
  refine nn fun f=>?_;obtain ⟨us,c,hu,ru⟩:=(Z.on m H J st);refine f ?_;refine ⟨us,c,u _ _ hu,bO.step (fun b o e _=>u b o e) (fun _ _ e=>e) (fun b q=>?_) _ _ ru⟩;rcases q with q|q|q
  ·exact .inl (.inl q)
  ·rcases q with q|q
   ·exact .inr (by refine (aM.mp q)▸?_;exact N)
   ·exact .inl (.inr (.inl q))
  ·exact .inl (.inr (.inr q))
 have O:=Et (tk:=ae) fk ok H J Y rfl yI (Q I) L m1 ls y z e hs;refine aH (wpAny_runOwn (oV (yH T W O (L.self O)) fun r s' t=>?_));obtain ⟨rfl,h',ap,D',rfl,j8,m',gk⟩:=t;exact aW ⟨h',ap,D',rfl,st.zx.trans (j8.from u N),m',gk⟩
theorem iZ.into{X:iB}{base:Nat}(m:iZ F X D σ h)(B:∀x q,lk F.bnd x=some q→x<base)(f:∀b o,h.get? b=some o→h'.get? b=some o)(l:h.get? C=aF){r:jY→Option bM}(t:h'.Ns C r):iZ (tB F scope cl C base names) X D σ h':=by
 have y:∀a,Yf (tB F scope cl C base names) X D a→Yf F X D a∨h.get? a=aF:=fun a q=>by
  rcases q with q|q|q
  ·rcases aR.mp q with q|q
   ·exact .inr (q▸l)
   ·exact .inl (.inl q)
  ·exact .inl (.inr (.inl q))
  ·exact .inl (.inr (.inr q))
 have z:∀d v,gG D (Yf F X D) h d v→gG D (Yf (tB F scope cl C base names) X D) h' d v:=fun d v=>gG.step (fun b o e _=>f b o e) (fun _ _ e=>e) y d v;have ne:∀b o,h.get? b=some o→b≠C:=fun b o e q=>by rw [q,l]at e;exact hU e
 refine ⟨fun b o e=>f b o (m.base b o e),fun x v e=>?_,fun x p s e=>?_,fun i c e=>?_,m.inj,fun i a e=>?_,fun a e=>?_,fun a e=>?_⟩
 ·obtain ⟨p,s,u,j,k,G⟩:=m.loc x v e;exact ⟨p,s,u,Gc j,k.keep fun o=>f _ o,z _ _ G⟩
 ·rcases A4 B e with q|⟨_,_,rfl⟩
  ·exact (m.frm x p s q).keep fun o=>f _ o
  ·exact ⟨r,t⟩
 ·obtain ⟨a,j,k⟩:=m.cel i c e;exact ⟨a,j,k.on z (fun d v=>bO.step (fun b o e _=>f b o e) (fun _ _ e=>e) y d v) fun o=>f _ o⟩
 ·obtain ⟨a1,g,H,⟨o,A⟩,I⟩:=m.sep i a e;refine ⟨fun q=>?_,g,H,⟨o,f _ _ A⟩,I⟩;rcases aR.mp q with q|q
  ·exact ne a o A q
  ·exact a1 q
 ·rcases aR.mp e with q|q
  ·subst q;refine ⟨?_,(let ⟨o,_,_,e,_⟩:=t;⟨o,e⟩)⟩
   cases q:S.heap.get? a with
   |none=>rfl
   |some o=>exact absurd rfl (ne a o (m.base a o q))
  ·obtain ⟨a1,o,g⟩:=m.zfr a q;exact ⟨a1,o,f _ _ g⟩
 ·obtain ⟨o,g⟩:=m.xal a e;exact ⟨o,f _ _ g⟩
theorem iZ.outof{X:iB}{base:Nat}(fk:iL F)(r:C∉F.Z)(t:¬X C)(y:∀x q,lk F.bnd x=some q→x<base)(m:iZ (tB F scope cl C base names) X D σ h)(f:∀b o,b≠C→h.get? b=some o→h'.get? b=some o):iZ F X D (Jz base σ) h':=by
 have B:∀a,Yf F X D a→Yf (tB F scope cl C base names) X D a∨h.get? a=aF:=fun a q=>by
  rcases q with q|q|q
  ·exact .inl (.inl (bB _ q))
  ·exact .inl (.inr (.inl q))
  ·exact .inl (.inr (.inr q))
 have g:∀b o,h.get? b=some o→¬Yf (tB F scope cl C base names) X D b→h'.get? b=some o:=fun b o e y=>f b o (fun q=>y (.inl (by refine q▸?_;exact aU))) e;have G:∀d v,gG D (Yf (tB F scope cl C base names) X D) h d v→gG D (Yf F X D) h' d v:=fun d v=>gG.step g (fun _ _ e=>e) B d v;refine ⟨fun b o e=>f b o (fun q=>by rw [q,((m.zfr C aU).1)]at e;exact hU e) (m.base b o e),fun x v e=>?_,fun x p s e=>?_,fun i c e=>?_,m.inj,fun i a e=>?_,fun a e=>?_,fun a e=>?_⟩
 ·have k:lk (J0 base σ.loc) x=some v:=e;simp only [U2]at k;split at k
  ·rename_i hx;obtain ⟨p,s,u,l,A,H⟩:=m.loc x v k;rcases A4 y l with q|⟨q,_,_⟩
   ·exact ⟨p,s,u,q,A.keep fun o=>f _ o (fun z=>r (z▸fk.inZ x p s q)),G _ _ H⟩
   ·exact dD (aS ð hx q)
  ·exact hU k
 ·exact (m.frm x p s (Gc e)).keep fun o=>f _ o (fun z=>r (z▸fk.inZ x p s e))
 ·obtain ⟨a,l,A⟩:=m.cel i c e;exact ⟨a,l,A.on G (fun d v=>bO.step g (fun _ _ e=>e) B d v) fun o=>f _ o (fun z=>(m.sep i a l).z (by refine z▸?_;exact aU))⟩
 ·obtain ⟨a1,j,I,⟨o,J⟩,L⟩:=m.sep i a e;exact ⟨fun q=>a1 (bB _ q),j,I,⟨o,f _ _ (fun z=>a1 (by refine z▸?_;exact aU)) J⟩,L⟩
 ·obtain ⟨a1,o,j⟩:=m.zfr a (bB _ e);exact ⟨a1,o,f _ _ (fun z=>r (z▸e)) j⟩
 ·obtain ⟨o,j⟩:=m.xal a e;exact ⟨o,f _ _ (fun z=>t (z▸e)) j⟩
theorem An.up{X:iB}(t:An F A X D h I ds)(f:∀b o,h.get? b=some o→h'.get? b=some o)(g:h.get? a=aF)(j:h.get? C=aF):An (tB F scope cl C base names) A (iW [a] X) D h' I ds:=by
 obtain ⟨u,x,y,m,P,Sx,T,W,p,z,r,s,B⟩:=t;have ne:∀b o c,h.get? b=some o→h.get? c=aF→b≠c:=fun b o c e G q=>by rw [q,G]at e;exact hU e
 obtain ⟨Z,k,_⟩:=p 0 h r;have al:∀b∈m,vC h b:=fun b d=>by
  rcases s b d with rfl|⟨_,_,_,q⟩
  ·exact ⟨_,k⟩
  ·exact q
 refine ⟨fun q=>?_,fun q=>?_,y,m,P,Sx,T,W,p,z,W.frame _ _ _ r fun b d o e=>f b o e,fun b d=>?_,fun i v D' Y' H hi J L N=>B i v D' Y' H hi J (fun b o e d=>L b o (f b o e) fun q=>?_) fun b d=>?_⟩
 ·rcases aR.mp q with q|q
  ·exact ne _ _ _ k j q
  ·exact u q
 ·rcases q with q|q
  ·exact ne _ _ _ k g (aM.mp q)
  ·exact x q
 ·refine (s b d).imp id fun ⟨O,Q,R,o,l⟩=>⟨fun q=>?_,fun q=>?_,R,o,f _ _ l⟩
  ·rcases aR.mp q with q|q
   ·exact ne _ _ _ l j q
   ·exact O q
  ·rcases q with q|q
   ·exact ne _ _ _ l g (aM.mp q)
   ·exact Q q
 ·rcases q with q|q|q
  ·rcases aR.mp q with q|q
   ·exact ne _ _ _ e j q
   ·exact d (.inl q)
  ·rcases q with q|q|q
   ·exact d (.inr (.inl (nC q)))
   ·exact ne _ _ _ e g (aM.mp q)
   ·exact d (.inr (.inl (oY q)))
  ·exact d (.inr (.inr q))
 ·rcases N b d with q|q
  ·rcases q with q|q|q
   ·rcases aR.mp q with q|q
    ·exact .inr (q▸j)
    ·exact .inl (.inl q)
   ·rcases q with q|q|q
    ·exact .inl (.inr (.inl (nC q)))
    ·exact .inr (by refine (aM.mp q)▸?_;exact g)
    ·exact .inl (.inr (.inl (oY q)))
   ·exact .inl (.inr (.inr q))
  ·refine .inr ?_
   cases Y:h.get? b with
   |none=>rfl
   |some o=>rw [f b o Y]at q;exact Ly q
end
section
variable{n:Nat}{F:Fx}
theorem ē{body:dF→dF→E1 Unit}{gt:V→St→Option St}
  (fk:iL F) (f:∀x q,lk F.bnd x=some q→x<base) (ca:names≠[]) (ha:(g.is_async != 0)=false)
  (ou:eval (.ListComp j (g::gs) scope k) F.env=comprehension (.ListComp j (g::gs) scope k) scope F.env pos' (newList []) false (eval g.iter F.env))
  (hf:∀x,foldedSetIterable g.iter F.env x=pure x) (dv:closureFor scope F.env=pure cl) (cu:∀y∈scope.names,y.2≠.cell) (Z:scope.kind=.function)
  (cz:∀y∈scope.names,y.2=.local→scope.names.lookup y.1=some .local)
  (ln:∀C,C∉F.Z→iL (tB F scope cl C base names))
  (d8:∀C a I,compTurn (.ListComp j (g::gs) scope k) 0 (.ref I) (.ref a) (kH scope cl C F.env)=(jD p>>=fun _=>pyNext (.ref I)>>=fun r=>match r with
   |none=>pure (.done .next)
   |some v=>mJ g.target (.ref I) v>>=fun _=>assign g.target (kH scope cl C F.env) v>>=fun _=>body C a>>=fun _=>again (.compLoop (.ListComp j (g::gs) scope k) 0 (.ref I) (.ref a) (kH scope cl C F.env))))
  (x:Y2 n F g.iter gi) (y:∀C,C∉F.Z→I5 n (tB F scope cl C base names) g.target gt)
  (z:∀C a,C∉F.Z→∀σ xs σ',gb σ=some (xs,σ')→CB n (tB F scope cl C base names) a (body C a) σ xs σ'):
  kC n F (.ListComp j (g::gs) scope k) (uY base gi gt gb):=fun σ v σ' e=>by
 replace e:=dZ e;obtain ⟨ds,σ₁,e1,e⟩:=e;replace e:=dZ e;obtain ⟨xs,ao,e2,e⟩:=e;split at e
 ·rename_i d6;refine Jl e ?_;rintro rfl rfl;intro A X D h tk vs ok m _;refine (?_:bT _ _ (eval (.ListComp j (g::gs) scope k) F.env) _ _ _);refine ou▸?_;refine ţ rfl hf dv Z cz (bL (x _ _ _ e1 A X D h tk ok m) (fun xv ew h₁=>bL h₁ (fun it g6 H=>?_) fun _ _ q=>q) fun _ _ q=>q);refine nn fun J=>?_;obtain ⟨h₀,D₀,g8,qy,I,d,ae,rfl,rfl,st,m₀,wk,rfl,rfl⟩:=H;obtain ⟨wi,l,t,fo⟩:=wk.toIn m₀;refine J ?_;refine uE (aIi cu (by intro y hy;simp at hy) (fun L N O=>?_) Z);dsimp only at N O⊢;generalize P:d.push {cls:=.type "list",dict:=aF,data:=.seq ([]:fZ).toArray}=H2 at N O⊢;have Q:∀b o,d.get? b=some o→H2.get? b=some o:=fun b o e=>P▸dL _ _ b o e;have R:∀b o,H2.get? b=some o→L.get? b=some o:=fun b o e=>O.extBut b o (fM (dQ e)) (dL _ _ b o e);have u:∀b o,d.get? b=some o→L.get? b=some o:=fun b o e=>R b o (Q b o e);have aN:d.get? d.objs.size=aF:=eV _;have T:H2.get? H2.objs.size=aF:=eV _;have W:d.get? H2.objs.size=aF:=by
   cases q:d.get? H2.objs.size with
   |none=>rfl
   |some o=>rw [Q _ _ q]at T;exact Ly T
  have tq:∀b,d.get? b=aF→h₀.get? b=aF:=fun b e=>by
   cases q:h₀.get? b with
   |none=>rfl
   |some o=>rw [t _ _ q]at e;exact Ly e
  have tu:=P▸Jb _ _;have i8:∀b,d.get? b=aF→b∉F.Z∧¬X b∧(∀i,lk D₀ i≠some b)∧S.heap.get? b=aF:=fun b e=>by
   refine ⟨fun q=>?_,fun q=>?_,fun i q=>?_,?_⟩
   ·exact ((l.zfr b q).2).no e
   ·exact (l.xal b (oY q)).no e
   ·exact ((l.sep i b q).h).no e
   ·cases q:S.heap.get? b with
    |none=>rfl
    |some o=>rw [l.base b o q]at e;exact Ly e
  refine nn fun J=>?_;obtain ⟨aZ,aX,aD,aB⟩:=i8 _ aN;obtain ⟨B,cX,cD,cB⟩:=i8 _ W;refine J ?_;have tw:d.objs.size≠H2.objs.size:=by simp only [(by simp only [←P,gJ]:H2.objs.size=d.objs.size+1)];exact fM (gQ _)
  have m2:=l.addX Q fun b f=>by obtain rfl:=aM.mp f;exact ⟨aN,_,tu⟩
  have v6:iZ (tB F scope cl H2.objs.size base names) (iW [I] (iW [d.objs.size] X)) D₀ σ₁ L:=(m2.into f R T N).dropX fun b q=>by
   rcases q with q|q|q
   ·exact oY (nC q)
   ·exact nC q
   ·exact oY (oY q)
  have q8:=wi.up (scope:=scope) (cl:=cl) (base:=base) (names:=names) u aN W;have v7:d.objs.size∉(tB F scope cl H2.objs.size base names).Z:=fun q=>by
   rcases aR.mp q with q|q
   ·exact tw q
   ·exact aZ q
  have i3:=Et (F:=tB F scope cl H2.objs.size base names) (tk:=ae+([]:List (jY×bM)).length) (ln _ B) ok (nC (by simp)) v7 aB rfl yI (d8 _ _ I) q8 v6 (⟨[],0,R _ _ tu,bO.nil⟩) (y _ B) (z _ _ B) e2 (bZ (by simpa using d6) pA);refine oV (yH (g:=g) rfl ha i3 (q8.self i3)) fun r s' H=>?_;obtain ⟨rfl,h',ap,D',rfl,G,m',gk⟩:=H
  obtain ⟨nm,ns,xu⟩:∃a b,names=a::b:=by cases names with
   |nil=>exact absurd rfl ca
   |cons a b=>exact ⟨a,b,rfl⟩
  have o8:uD h' (.loc H2.objs.size):=m'.frm base (.loc H2.objs.size) nm (by
   refine (?_:lk (F.bnd++Y0 H2.objs.size base names) base=_);simp only [wX]
   cases q:lk F.bnd base with
   |some v=>exact absurd (f base v q) (fP _)
   |none=>refine xu▸?_;simp [Hf,He,fF,fE])
  obtain ⟨mm,xw⟩:=o8;refine ⟨mm,xw,fun Y ka=>?_⟩;have s:∀b o,b≠H2.objs.size→h'.get? b=some o→Y.get? b=some o:=fun b o f e=>ka.extBut b o f e;have xy:oU F D₀ h₀ D' Y:=by
   have nn:∀b o,h₀.get? b=some o→b≠I∧b≠d.objs.size∧b≠H2.objs.size:=fun b o e=>⟨fun q=>(by rw [q,fo]at e;exact hU e),fun q=>(by rw [q,tq _ aN]at e;exact hU e),fun q=>(by rw [q,tq _ W]at e;exact hU e)⟩;refine ⟨fun b o e hz hd=>s b o (nn b o e).2.2 (G.keep b o (u _ _ (t _ _ e)) (fun q=>?_) hd),G.ext,fun i b e=>?_,fun b o e=>?_⟩
   ·rcases aR.mp q with q|q
    ·exact (nn b o e).1 q
    ·rcases aR.mp q with q|q
     ·exact (nn b o e).2.1 q
     ·rcases aR.mp q with q|q
      ·exact (nn b o e).2.2 q
      ·exact hz q
   ·rcases G.new i b e with q|q
    ·exact .inl q
    ·refine .inr ?_
     cases q':h₀.get? b with
     |none=>rfl
     |some o=>rw [u _ _ (t _ _ q')]at q;exact Ly q
   ·obtain ⟨o',e'⟩:=G.al b o (nn b o e).1 (u _ _ (t _ _ e));exact ⟨o',s b o' (nn b o e).2.2 e'⟩
  refine ⟨Y,ap,D',Jz base ao,.lst xs,rfl,st.trans xy,(iZ.outof fk B cX f (m'.dropX fun b q=>oY q) s),?_,rfl,rfl⟩;obtain ⟨us,c,hu,ru⟩:=gk;refine ⟨_,us,rfl,fun q=>?_,⟨c,s _ _ tw hu⟩,?_⟩
  ·rcases q with q|q|⟨i,q⟩
   ·exact aZ q
   ·exact aX q
   ·exact (fun i q=>(m'.sep i _ q).x (nC (by simp))) i q
  ·refine bO.step (fun b o e f=>s b o (fun q=>f (.inl (by simp only [q];exact aU))) e) (fun _ _ e=>e) (fun b q=>?_) _ _ ru;rcases q with q|q|q
   ·exact .inl (.inl (bB _ q))
   ·exact .inl (.inr (.inl (oY q)))
   ·exact .inl (.inr (.inr q))
 ·exact hU e
end
section
set_option backward.match.sparseCases false
def Ae:Nat→bV→bV
 |_,[]=>[]
 |i,d::r=>.tup [.int i,d]::Ae (i+1) r
theorem Ip:Ae a []=([]):=rfl
theorem Io:Ae i (d::r)=(.tup [.int i,d]::Ae (i+1) r):=rfl
def Ź(gs:List (V→St→Option St))(p:V)(σ:St):Option St:=match p with
 |.tup l=>Zt gs l σ
 |_=>aF
def Vn(xs:nH)(ga:M V)(gs:List (V→St→Option St))(gb:Nat→M Fl):Nat→M Fl:=fun k σ=>bd (ga σ) fun v σ=>ob (aC2 v) fun l=>if cS l=true∧k≤σ.next then Ju xs σ.next (fun p τ=>ob (Ź gs p τ) fun τ=>gb σ.next τ) (Ae 0 l) σ else aF
theorem Iq:∀(l:bV)(i j:Nat),i<l.length→(Ae j l).drop i=.tup [.int ((j+i:Nat):Int),l.getD i .none]::(Ae j l).drop (i+1)
 |[],i,j,h=>by simp at h
 |d::l,0,j,h=>by rfl
 |d::l,i+1,j,h=>by have:=Iq l i (j+1) (by simpa using h);simp only [Ip,Io,List.drop_succ_cons]at this⊢;simp only [this];simp [eN,qG 1 i]
theorem yE:∀(l:bV)(j:Nat),(Ae j l).length=l.length
 |[],j=>rfl
 |d::l,j=>by simp [Ip,Io,yE l (j+1)]
section
variable{n:Nat}{F:Fx}
theorem Pz{X:iB}{gs:List (V→St→Option St)}{Q:Fl→iS}
  (fk:iL F) (ok:wD n A) (v8:e≠p) (m:iZ F X D σ h₀) (G:∀b o,h₀.get? b=some o→h.get? b=some o) (B:h₀.get? e=aF) (fo:h₀.get? p=aF)
  (he:∃old,IsEnum h e p 0 old) (ik:h.IsListIter p l 0) (nl:¬Yf F X D l) (v:IsL h₀ l (aY xs) kk) (rx:bO D (Yf F X D) h₀ ds xs) (hp:cS ds=true) (g:I4 n F es gs)
  (J:Nat→iS) (hJ:J 0 σ)
  (cm:∀(i:Nat) σ',i<ds.length→J i σ'→∃σ₁,Zt gs [.int i,ds.getD i .none] σ'=some σ₁∧SW k n F body σ₁ (aC4 k Q (J (i+1))))
  (done:∀σ',J ds.length σ'→Q .next σ'):
  jI (model prog w) A (.forLoop (.Tuple es c tpos) (.ref e) body [] F.env) (fun r P=>match r with|.ok f=>uZ rF F X k D h₀ Q f P|.error e=>cameBackBy (model prog w) A F.env (fun _ _=>False) e P) (jK h tk):=by
 have nz:∀b,h₀.get? b=aF→b∉F.Z∧¬X b∧(∀i,lk D i≠some b)∧S.heap.get? b=aF:=fun b e=>by
  refine ⟨fun q=>?_,fun q=>?_,fun i q=>?_,?_⟩
  ·exact ((m.zfr b q).2).no e
  ·exact (m.xal b q).no e
  ·exact ((m.sep i b q).h).no e
  ·cases q:S.heap.get? b with
   |none=>rfl
   |some o=>rw [m.base b o q]at e;exact Ly e
 have y:∀b∈[e,p],h₀.get? b=aF:=fun b d=>by
  rcases aR.mp d with rfl|d
  ·exact B
  ·refine (aM.mp d)▸?_;exact fo
 have W:=WalksT.enumerate (prog:=prog) (w:=w) ok.hd e p l v8 (fun q=>by simp only [q,IsL,B]at v;exact hU v) (fun q=>by simp only [q,IsL,fo]at v;exact hU v) (aY xs);replace W:=(by simp [rx.length]:(aY xs).size=ds.length)▸W;have alive:∀(i:Nat) h,((∃old,IsEnum h e p i old)∧h.IsListIter p l i∧h.IsList l (aY xs))→∀b∈[e,p],vC h b:=fun i h st b d=>by
  refine nn fun ng=>?_;obtain ⟨⟨old,a1⟩,⟨o,H,_⟩,_⟩:=st;refine ng ?_;rcases aR.mp d with rfl|d
  ·exact ⟨_,a1⟩
  ·simp only [aM.mp d];exact ⟨o,H⟩
 have R:(∃old,IsEnum h e p 0 old)∧h.IsListIter p l 0∧h.IsList l (aY xs):=⟨he,ik,IsL.isList (G _ _ v)⟩;refine I7 (ś F X k D h₀ [e,p] ds.length (fun i h'=>(∃old,IsEnum h' e p i old)∧h'.IsListIter p l i∧h'.IsList l (aY xs)) J) (fun j P hs=>?_) (ds.length+1)
  ⟨0,h,tk,D,σ,rfl,cJ _,rfl,⟨fun b o e _ _=>G b o e,fun _ _ _ e=>e,fun _ _ e=>.inl e,fun b o e=>⟨o,G b o e⟩⟩,(m.addX G fun b d=>⟨y b d,alive 0 h R b d⟩),R,hJ⟩
 obtain ⟨i,h',ap,D',σ',rfl,hi,rfl,st,m',sx,sg⟩:=hs;have I:∀b∈[e,p],b∉F.Z:=fun b d=>(nz b (y b d)).1;have Y:∀b∈[e,p],S.heap.get? b=aF:=fun b d=>(nz b (y b d)).2.2.2;have qw:∀b∈[e,p],¬X b:=fun b d=>(nz b (y b d)).2.1;have tz:∀(h₁:dT),(∀b o,b∉[e,p]→h'.get? b=some o→h₁.get? b=some o)→B7 F k D h₀ D' h₁:=fun h₁ u=>by
  have nn:∀b o,h₀.get? b=some o→b∉[e,p]:=fun b o e q=>by rw [y b q]at e;exact hU e
  exact ⟨fun b o e hz hd=>u b o (nn b o e) (st.keep b o e hz hd),st.ext,st.new,fun b o e=>let ⟨o',e'⟩:=st.al b o e;⟨o',u b o' (nn b o e) e'⟩⟩
 rcases tG i ds.length with lt|ge
 ·refine W.item i _ _ _ lt sx ?_;clear sx;intro T og h₁ ae si _ hT mid u;refine W.go es c tpos i T _ _ _ mid fun s Z ir=>?_;have k9:∀b o,b∉[e,p]→h'.get? b=some o→s.get? b=some o:=fun b o d e=>ir b o d (u b o d e);have bw:=m'.turnX fk (fun a ha=>nC ha) I Y k9 (alive (i+1) s Z);have ar:=tz s k9;obtain ⟨t,x,hx,rfl⟩:=si;have L:s.IsTuple T #[.int i t,x]:=by obtain ⟨o,ho,r⟩:=hT;exact ⟨o,ir T o (W.apart i T _ mid) ho,r⟩
  obtain ⟨C,jv,tc⟩:=rx.get (by simp [aP,lt]:ds[i]?=some (ds.getD i .none));obtain rfl:C=x:=by
   have c7:xs[i]?=some x:=by simpa using hx
   replace c7:=jv▸c7;refine nW c7 ?_;rintro rfl;rfl
  have rv:gG D' (Yf F (iW [e,p] X) D') s (ds.getD i .none) C:=by
   refine gG.stepP (fun b o e d=>ar.keep b o e (fun q=>d (.inl q)) fun n q=>d (.inr (.inr ⟨n,q⟩))) (fun b q=>?_) _ _ (D9 hp) tc;rcases q with q|q|⟨j,q⟩
   ·exact .inl (.inl q)
   ·rcases q with q|q
    ·exact .inr (y b q)
    ·exact .inl (.inr (.inl q))
   ·rcases ar.new j b q with q|q
    ·exact .inl (.inr (.inr ⟨j,q⟩))
    ·exact .inr q
  obtain ⟨σ₁,eu,t4⟩:=cm i σ' lt sg;dsimp only [assign_Tuple];refine aH (gC ?_);unfold unpack;refine g.1▸?_;have aw:(oW es F.env).length=[Cd i t,C].length:=by have a1:=xQ eu;have H:=g.2.1;simp at a1 H⊢;exact aS 0x1368c57a305600ac1a302 a1 H
  refine aH (bY (oQ aw (fun K hK=>?_) (fun K hK=>?_) fun bc bz N=>?_))
  ·exact aH (xF L.typeIs PySem.F.slot_tuple_iter.lookup (aW hK))
  ·have ca:T≠s.objs.size:=by obtain ⟨o,ho,_⟩:=L;exact fM (dQ ho)
   refine Ka L (hK _ _ [s.objs.size,T] (fun i h'=>h'.IsTupleIter s.objs.size T i∧h'.IsTuple T #[.int _ t,C]) (by simpa using (Yr ok.hd s.objs.size T ca #[.int i t,C])) ⟨⟨_,cA _ rfl,rfl,rfl⟩,L.push _⟩ (eV _) (dL _ _))
  refine bL (g.2.2 _ _ _ eu A (iW [e,p] X) D' bc bz _ ok (bw.grow N) (.cons nL (.cons (gG.step (fun b o e _=>N b o e) (fun _ _ e=>e) (fun _ e=>.inl e) _ _ rv) .nil))) (fun _ aa7 pp=>?_) fun _ _ q=>q.elim;obtain ⟨f7,j7,D₄,_,_,rfl,jo,je,_,rfl⟩:=pp;refine bL (t4 A (iW [e,p] X) D₄ f7 j7 ok je) (fun f aa8 pp=>?_) fun _ _ q=>q.elim;obtain ⟨d5,gf,D₅,ip,f',rfl,t5,xz,x4,x5⟩:=pp;have t6:=(jo.toK k).trans t5;have hND:∀i b,lk D' i=some b→b∉[e,p]:=fun j b O q=>(m'.sep j b O).x (nC q);have sx5:=W.frame (i+1) bc d5 (W.frame _ _ _ Z fun b _ o e=>N b o e) fun b d o eo=>by
   have gd:b∈[e,p]∨b=l:=by simpa [or_assoc]using d
   refine t6.keep b o eo ?_ ?_
   ·rcases gd with q|rfl
    ·exact I b q
    ·exact fun z=>nl (.inl z)
   ·intro j O;clear ik d mid Z alive R;rcases gd with q|rfl
    ·exact hND j b O q
    ·rcases st.new j b O with q|q
     ·exact nl (.inr (.inr ⟨j,q⟩))
     ·rw [v]at q;exact Ly q
  exact Pe fk I Y qw ((ar.trans ((oU.grow N).toK k)).trans t6) xz x4 x5 lt sx5
 ·obtain rfl:i=ds.length:=lX hi ge;refine W.done _ _ _ sx fun h₁ ae u=>xG ?_;exact ⟨h₁,ae,D',σ',.next,rfl,tz h₁ u,m'.leave fk I Y qw u,J8.next,done σ' sg⟩
theorem Ď{gs:List (V→St→Option St)}{s:Nat→M Fl}(fk:iL F)(x:kC n F (.Name "enumerate" p) (gK (.fn (.type "enumerate"))))(G:nE F [arg])(y:kC n F arg H)(O:dR [arg] F.env=(false,eval arg F.env)::dR [] F.env)
  (g:I4 n F es gs) (z:E0 n F body s)
  (he:eval (.Call (.Name "enumerate" p) [arg] [] ipos) F.env=(do lA ipos (←eval (.Name "enumerate" p) F.env) [] (backTo ipos (dR [arg] F.env)) []))
  (P:∀x,foldedSetIterable (.Call (.Name "enumerate" p) [arg] [] ipos) F.env x=pure x):
  Ez n F (.For (.Tuple es c tpos) (.Call (.Name "enumerate" p) [arg] [] ipos) body [] ak) (Vn R H gs s):=fun k σ f σ' q=>by
 obtain ⟨v,σ₁,t,q⟩:=dZ q;revert t;refine Rx q fun l q t=>?_
 ·obtain ⟨⟨T,W⟩,q⟩:=iC q
  ·intro A X D h tk ok m;refine ŭ ?_ P;refine aH (TW.atE (x σ _ _ rfl) ok m bO.nil ?_);rintro fv h₀ gh D₀ Y m₀ Z;subst Z;have ya:yK n F ipos [arg] (aK H bI):=cR y aO O;refine kE (lL G) (pU G (ya _ [.lst l] σ₁ (by simp [aK,t,bd,bI])) ok m₀ ?_);rintro gv h₁ ae D₁ _ _ ah ag I ⟨rfl,rfl⟩;simp only [nU,nR]at I;obtain ⟨u,r',rfl,ru,rfl⟩:=I;obtain ⟨a,xs,rfl,na,⟨kk,hx⟩,rx⟩:=ru;refine call_enumerate_list hx.isList fun az J hI t7 ot=>?_;have L:∀b,h₁.objs.size≤b→h₁.get? b=aF:=fun b hb=>by
    cases q:h₁.get? b with
    |none=>rfl
    |some o=>exact absurd (dQ q) (kJ.mpr hb)
   refine aMs J ?_;have dg:=Pz (Q:=B8 f σ') (c:=c) (tpos:=tpos) (tk:=ae) fk ok (Aq _) ag ot (L _ (jG _)) (L _ (bG _)) ⟨_,J⟩ hI na hx rx T g
    (fun i τ=>Ju R σ₁.next (fun p τ=>ob (Ź gs p τ) fun τ=>s σ₁.next τ) ((Ae 0 l).drop i) τ=some (f,σ')) (by exact q)
    (fun i τ hi d=>by
     simp only [Iq l i 0 hi]at d;obtain ⟨fl,cb,j,d⟩:=dZ d;replace j:=dS j;obtain ⟨bf,e4,j⟩:=j;refine ⟨bf,by simpa [Ź]using e4,jC (z _ _ _ _ j) ?_⟩;refine lM ?_;cases fl
     ·obtain ⟨B,C,d⟩:=dS d;exact ⟨B,B4 C,d⟩
     ·exact (.of d)
     ·obtain ⟨B,C,d⟩:=dS d;exact ⟨B,B4 C,d⟩
     ·exact (.of d))
    (fun τ d=>by rw [←yE l 0,mQ]at d;exact (.of d))
   exact oV dg fun r s' N=>by
    cases r with
    |ok f'=>exact (uZ.lower W N).on ((Y.trans ah).toK k)
    |error e=>exact N
end
end
noncomputable def Ye(env:Env):List (jY×rP)→List (jY×dF)→List (jY×dF)
 |[],cs=>cs
 |(n,k)::r,cs=>Ye env r (if (k==.free)=true then (n,(env.cells.lookup n).getD 0)::cs else cs)
theorem aCm:Ye env [] cs=(cs):=rfl
theorem aCl:Ye env ((n,k)::r) cs=(Ye env r (if (k==.free)=true then (n,(env.cells.lookup n).getD 0)::cs else cs)):=rfl
noncomputable def lN(scope:Ys)(env:Env):List (jY×dF):=Ye env scope.names []
theorem aCn(env:Env):∀(names:List (jY×rP))(cs:List (jY×dF)),(∀x∈names,(x.2==.free)=true→(env.cells.lookup x.1).isSome=true)→
  (forIn names cs fun (x:jY×rP) r=>(do
   if x.2==.free then
    let a←cellOf env x.1
    pure (yV ((x.1,a)::r))
   else pure (yV r):E1 (ForInStep (List (jY×dF)))))=pure (Ye env names cs):=by
 intro e
 induction e with
 |nil=>intro cs;intro h;rfl
 |cons f r g=>
  obtain ⟨n,k⟩:=f;intro cs;intro h;have c:=fun cs=>g cs fun x hx=>h x (bB _ hx);simp only [qX];simp only [aCm,aCl];by_cases b:(k==NameKind.free)=true
  ·obtain ⟨a,d⟩:=fN.mp (h (n,k) aU b);simp only [b,if_true];simp only [(by unfold cellOf;simp only [d]:cellOf env n=pure a)];simp only [d,Gk];exact c _
  ·simp only [b];exact c _
theorem J2(h:∀x∈scope.names,(x.2==.free)=true→(env.cells.lookup x.1).isSome=true):closureFor scope env=pure (lN scope env):=by
 show (forIn scope.names [] (fun x r=>(do
   if x.2==.free then
    let a←cellOf env x.1
    pure (yV ((x.1,a)::r))
   else pure (yV r):E1 (ForInStep (List (jY×dF)))))>>=fun r=>pure r)=pure (lN scope env)
 rw [(aCn env scope.names [] h)];rfl
theorem Ee(h:tab.length≤k):∀x q,lk (wH fd L a tab).bnd x=some q→x<k:=fun x q e=>by obtain ⟨p,s⟩:=q;obtain ⟨_,b,_⟩:=Mg e;have:=(cW.mp b).1;exact aS 0x102e3150c2a1012314cc6003 h this
theorem Ai(h:(scope.names.all fun x=> !(x.2==.free)|| (env.cells.lookup x.1).isSome)=true):closureFor scope env=pure (lN scope env):=
 J2 fun x hx a=>by have:=gN.mp h x hx;replace this:=a▸this;exact this
inductive Br(F:Fx)(scope:Ys)(tab:List (Nat×jY)):List (Nat×jY)→Prop where
 |nil:Br F scope tab []
 |cons {p:Nat×jY} {r:List (Nat×jY)} (h1:p∈tab) (h2:F.env.kindOf p.2=some .cell) (h3:(relabel scope F.env).names.lookup p.2=some .cell) (h4:(lN scope F.env).lookup p.2=F.env.cells.lookup p.2) (h:Br F scope tab r):Br F scope tab (p::r)
theorem Br.at(x:Br F scope tab cap):∀p∈cap,p∈tab∧F.env.kindOf p.2=some .cell∧(relabel scope F.env).names.lookup p.2=some .cell∧(lN scope F.env).lookup p.2=F.env.cells.lookup p.2:=by
 induction x with
 |nil=>exact fun p a=>by cases a
 |cons b c d e _ f=>
  intro p a;rcases aR.mp a with rfl|a
  ·exact ⟨b,c,d,e⟩
  ·exact f p a
inductive Bq(F:Fx)(scope:Ys):lK→Prop where
 |nil:Bq F scope []
 |cons {s:jY} {r:lK} (h1:(relabel scope F.env).names.lookup s=some .local) (h:Bq F scope r):Bq F scope (s::r)
theorem Bq.at(x:Bq F scope names):∀s∈names,(relabel scope F.env).names.lookup s=some .local:=by
 induction x with
 |nil=>exact fun p a=>by cases a
 |cons b _ c=>
  intro p a;rcases aR.mp a with rfl|a
  ·exact b
  ·exact c p a
section
variable{n:Nat}{F:Fx}{tab:List (Nat×jY)}
theorem Ky{body:dF→dF→E1 Unit}{gt:V→St→Option St}
  (T:Dz F tab) (h:∀x q,lk F.bnd x=some q→x<base) (l:names≠[]) (m:names.Nodup) (o:(g.is_async != 0)=false)
  (s:eval (.ListComp c (g::gs) scope d) F.env=comprehension (.ListComp c (g::gs) scope d) scope F.env pos' (newList []) false (eval g.iter F.env))
  (t:∀x,foldedSetIterable g.iter F.env x=pure x) (u:(scope.names.all fun x=> !(x.2==.free)|| (F.env.cells.lookup x.1).isSome)=true) (A:(scope.names.all fun y=>y.2 != .cell)=true) (i:scope.kind=.function)
  (B:(scope.names.all fun y=>y.2 != .local||scope.names.lookup y.1==some .local)=true) (D:Br F scope tab cap) (G:Bq F scope names)
  (H:∀C a I,compTurn (.ListComp c (g::gs) scope d) 0 (.ref I) (.ref a) (kH scope (lN scope F.env) C F.env)=(jD p>>=fun _=>pyNext (.ref I)>>=fun r=>match r with
   |none=>pure (.done .next)
   |some v=>mJ g.target (.ref I) v>>=fun _=>assign g.target (kH scope (lN scope F.env) C F.env) v>>=fun _=>body C a>>=fun _=>again (.compLoop (.ListComp c (g::gs) scope d) 0 (.ref I) (.ref a) (kH scope (lN scope F.env) C F.env))))
  (x:Y2 n F g.iter J) (y:∀C,Dz (tB F scope (lN scope F.env) C base names) (cap++Ha base names)→I5 n (tB F scope (lN scope F.env) C base names) g.target gt)
  (z:∀C a,Dz (tB F scope (lN scope F.env) C base names) (cap++Ha base names)→∀σ xs σ',L σ=some (xs,σ')→CB n (tB F scope (lN scope F.env) C base names) a (body C a) σ xs σ'):
  kC n F (.ListComp c (g::gs) scope d) (uY base J gt L):=by
 have f:∀C,C∉F.Z→Dz (tB F scope (lN scope F.env) C base names) (cap++Ha base names):=fun C b=>Vb T i b m h D.at G.at;refine ē T.fk h l o s t (Ai u) (fun y hy=>?_) i (fun y hy N=>?_) (fun C b=>(f C b).fk) H x (fun C b=>y C (f C b)) (fun C a b=>z C a (f C b))
 ·have:=gN.mp A y hy;intro e;replace this:=e▸this;exact absurd this (by decide)
 ·have:=gN.mp B y hy;replace this:=N▸this
  cases j:scope.names.lookup y.1 with
  |none=>rw [j]at this;exact absurd this (by decide)
  |some k=>rw [j]at this;cases k<;>first|rfl|exact absurd this (by decide)
end
section
variable{n:Nat}{F:Fx}{tab:List (Nat×jY)}
theorem aHa{gt:V→St→Option St}
  (T:Dz F tab) (c:∀x q,lk F.bnd x=some q→x<base) (d:names≠[]) (e:names.Nodup)
  (f:∀x,foldedSetIterable b F.env x=pure x) (g:(scope.names.all fun x=> !(x.2==.free)|| (F.env.cells.lookup x.1).isSome)=true) (h:(scope.names.all fun y=>y.2 != .cell)=true) (i:scope.kind=.function)
  (j:(scope.names.all fun y=>y.2 != .local||scope.names.lookup y.1==some .local)=true) (k:Br F scope tab cap) (l:Bq F scope names)
  (x:Y2 n F b m) (y:∀C,Dz (tB F scope (lN scope F.env) C base names) (cap++Ha base names)→I5 n (tB F scope (lN scope F.env) C base names) o gt)
  (z:∀C,Dz (tB F scope (lN scope F.env) C base names) (cap++Ha base names)→kC n (tB F scope (lN scope F.env) C base names) p r):
  kC n F (.ListComp p [⟨o,b,[],0⟩] scope s) (uY base m gt (lP r)):=
 Ky T c d e rfl rfl f g h i j k l (fun _ _ _=>rfl) x y (fun C a T1 _ _ _ q=>Nr T1.fk (z C T1) q)
theorem Nn(e b c f a:Expr)(scope:Ys)(g:Pos)(d h:bM)(env:Env):compTurn (.ListComp e [⟨b,c,[],0⟩,⟨f,a,[],0⟩] scope g) 0 d h env=(jD c.pos>>=fun _=>pyNext d>>=fun r=>match r with
   |none=>pure (.done .next)
   |some v=>mJ b d v>>=fun _=>assign b env v>>=fun _=>eval a env>>=fun x=>jD a.pos>>=fun _=>foldedSetIterable a env x>>=fun x=>holding [x] (pyIter x)>>=fun i=>runOwn (.compStart (.ListComp e [⟨b,c,[],0⟩,⟨f,a,[],0⟩] scope g) 1 i h env) env>>=fun _=>again (.compLoop (.ListComp e [⟨b,c,[],0⟩,⟨f,a,[],0⟩] scope g) 0 d h env)):=rfl
theorem aG9{gt c:V→St→Option St}
  (T:Dz F tab) (i:∀x q,lk F.bnd x=some q→x<base) (j:names≠[]) (k:names.Nodup)
  (l:∀x,foldedSetIterable d F.env x=pure x) (m:∀C x,foldedSetIterable b (kH scope (lN scope F.env) C F.env) x=pure x) (o:(scope.names.all fun x=> !(x.2==.free)|| (F.env.cells.lookup x.1).isSome)=true) (p:(scope.names.all fun y=>y.2 != .cell)=true) (s:scope.kind=.function)
  (t:(scope.names.all fun y=>y.2 != .local||scope.names.lookup y.1==some .local)=true) (u:Br F scope tab cap) (A:Bq F scope names)
  (x:Y2 n F d B) (y:∀C,Dz (tB F scope (lN scope F.env) C base names) (cap++Ha base names)→I5 n (tB F scope (lN scope F.env) C base names) e gt)
  (D:∀C,Dz (tB F scope (lN scope F.env) C base names) (cap++Ha base names)→Y2 n (tB F scope (lN scope F.env) C base names) b gi1)
  (y1:∀C,Dz (tB F scope (lN scope F.env) C base names) (cap++Ha base names)→I5 n (tB F scope (lN scope F.env) C base names) f c)
  (z:∀C,Dz (tB F scope (lN scope F.env) C base names) (cap++Ha base names)→kC n (tB F scope (lN scope F.env) C base names) g G):
  kC n F (.ListComp g [⟨e,d,[],0⟩,⟨f,b,[],0⟩] scope h) (uY base B gt (H6 gi1 c (lP G))):=
 Ky
  (body:=fun C a=>eval b (kH scope (lN scope F.env) C F.env)>>=fun x=>jD b.pos>>=fun _=>foldedSetIterable b (kH scope (lN scope F.env) C F.env) x>>=fun x=>holding [x] (pyIter x)>>=fun H=>runOwn (.compStart (.ListComp g [⟨e,d,[],0⟩,⟨f,b,[],0⟩] scope h) 1 H (.ref a) (kH scope (lN scope F.env) C F.env)) (kH scope (lN scope F.env) C F.env)>>=fun _=>pure ())
  T i j k rfl rfl l o p s t u A (fun C a I=>(Nn g e d f b scope h (.ref I) (.ref a) (kH scope (lN scope F.env) C F.env)).trans (by congr 1;funext _;congr 1;funext r;cases r with|none=>rfl|some v=>simp only [bind_assoc,pure_bind])) x y
  (fun C a T1 _ _ _ q=>aCs T1.fk ⟨_,rfl,rfl⟩ (m C) (fun _=>rfl) (D C T1) (y1 C T1) (fun _ _ _ q=>Nr T1.fk (z C T1) q) q)
end
def aCh:pV:=fun us σ=>aI (fun a=>aI fun b=>aN (some (.int (if a<b then b else a),σ))) us
section
variable{n:Nat}{F:Fx}
theorem aAg:Dr n F (.builtin "max") aCh:=fun us σ r σ' e=>by
 refine Bo e fun a _ e=>?_;refine Bo e fun b _ e=>?_;refine oM e fun e=>?_;intro A X D h tk vs ok m r;obtain ⟨_,_,rfl,⟨t,rfl⟩,_,_,rfl,⟨g,rfl⟩,d⟩:=r;cases d;refine max_two_ints ok.hd fun h' f c=>⟨h',f,D,σ,_,rfl,oU.grow c,m.grow c,?_,.of e⟩;by_cases q:a<b
 ·rw [if_pos q,if_pos q];exact nL
 ·rw [if_neg q,if_neg q];exact nL
end
theorem U3:∀{l:mH}{s:jY}{v:V},nM l s=some v→(s,v)∈l:=by
 intro a
 induction a with
 |nil=>intros;first|contradiction|(rename_i h;cases h;done)
 |cons b r c=>
  obtain ⟨x,u⟩:=b;intro s;intro v;intro e;simp only [Hl,Hk]at e;split at e
  ·rename_i q;refine nW e ?_;rintro rfl;subst q;exact aU
  ·exact bB _ (c e)
def rD(name:jY)(g:M V):M V:=fun σ=>bd (g σ) fun o σ=>ob (Yh o) fun n=>aA σ n fun as=>ob (nM as name) fun v=>if Hb v=true then some (v,σ)else aF
structure Fu(K:As)(name:jY):Prop where
 get:plainGet K xN name=true
 dict:hasDictIn K xN=true
 own:∃pe,findIn K (.ref xN) name=some pe∧noGet K pe=true
theorem Xw{Y:iB}(a:Hb v=true)(r:gG D Y h v u):handedIn u=true:=by cases v<;>first|(subst r;rfl)|(obtain ⟨_,rfl⟩:=r;rfl)|(obtain ⟨_,_,rfl,_⟩:=r;rfl)|(obtain ⟨_,rfl,_⟩:=r;rfl)|(simp [Hb]at a)
theorem Mb{h:dT}{a:dF}{m:jY→Option bM}(b:h.Ns a m)(name:jY):∃od,h.get? a=some od∧lookIn name od=some (m name):=by
 refine nn fun c=>?_;obtain ⟨o,es,l,d,hd,f,g⟩:=b;refine c ?_;refine ⟨o,d,?_⟩;have:=g name;unfold lookIn;refine hd▸?_;simp only [nsFind,findBy,←Array.find?_toList]at this;dsimp only
 cases q:es.toList.find? (·.key.isStr name)with
 |none=>simp only [q,Option.map_none]at this;refine this▸?_;rw [if_neg];intro z;rw [List.any_eq_true]at z;obtain ⟨e,i,j⟩:=z;obtain ⟨n,t,k⟩:=f e (Array.mem_toList_iff.mp i);simp [DictEntry.refKey,k]at j
 |some e=>simp only [q,Option.map_some]at this;simp only [←this]
section
variable{n:Nat}{F:Fx}{K:As}
theorem aC0{X:iB}{tk:Nat}{i:Nat}{g:Bool}{Kk:rX}(j:K.In S.heap)(c:Fu K name)(m:iZ F X D σ h)(l:lk σ.cells i=some (.attrs as))(p:(name,v)∈as)(s:Hb v=true)(r:gG D (Yf F X D) h (.inst i) o)
  (k:∀u t,gG D (Yf F X D) h v u→Kk u (jK h t)):bT (model prog w) A (getAttr o name g) Kk (fun _ _=>False) (jK h tk):=by
 refine nn fun b=>?_;obtain ⟨a,x,rfl,nx,y,hx⟩:=r;obtain ⟨J,d,L,z,N,B⟩:=m.cel i _ l;refine b ?_;replace d:=y▸d;refine nW d ?_;rintro rfl;obtain ⟨u,C,e⟩:=B _ p;refine nn fun b=>?_;obtain ⟨O,G,H⟩:=c.own;obtain ⟨od,I,f⟩:=Mb z.ns name;refine b ?_;simp only [C]at f;refine get_value (j.keeps m.base) ⟨hx,rfl,rfl,I⟩ (plainGet_of c.get).1 (findObj_own c.dict G H f) (Xw s e) (k u _ e)
theorem jM(b:K.In S.heap)(c:Fu K name)(x:kC n F (.Name s p) g):kC n F (.Attribute (.Name s p) name d) (rD name g):=fun σ v σ' q=>by refine nn fun e=>?_;obtain ⟨o,σ₁,f,q⟩:=dZ q;replace q:=aDj q;obtain ⟨i,rfl,j⟩:=q;obtain ⟨as,k,l⟩:=Ø j;obtain ⟨H,t,y⟩:=dS l;obtain ⟨z,B⟩:=iC y;refine e ?_;intro A X D h tk vs ok m _;refine (?_:bT _ _ (eval (.Name s p) F.env>>=fun o=>jD d.atName>>=fun _=>holding [o] (getAttr o name true)>>=fun r=>letTemporaryGo (.Name s p) o r>>=fun _=>pure r) _ _ _);refine aH (TW.atE (x _ _ _ f) ok m bO.nil ?_);rintro u h₁ I D₁ st a r;refine aH (gC (aH (bY (aC0 b c a k (U3 t) z r fun J C G=>?_))));exact aH (aW (aW ⟨h₁,C,D₁,_,_,rfl,st,a,G,.of B⟩))
end
section
set_option backward.match.sparseCases false
def pH:gM→Prop
 |.attrs as=>∀p∈as,p.2.pure=true
 |.mat _=>True
 |_=>False
theorem iP.P{Y Y':iB}(f:pH c)(i:∀b o,h.get? b=some o→¬Y b→h'.get? b=some o)(j:∀o,h.get? a=some o→h'.get? a=some o)(k:∀a,Y' a→Y a∨h.get? a=aF)(x:iP D Y h a c):iP D' Y' h' a c:=by
 cases c with
 |list l=>exact f.elim
 |dict ks vs=>exact f.elim
 |attrs as=>obtain ⟨m,g,le,y⟩:=x;exact ⟨m,g.at j,le,fun p d=>let ⟨u,e,z⟩:=y p d;⟨u,e,gG.stepP i k _ _ (f p d) z⟩⟩
 |mat r=>obtain ⟨as,ok,m,g,le,y⟩:=x;exact ⟨as,ok,m,g.at j,le,fun p d=>let ⟨u,e,z⟩:=y p d;⟨u,e,gG.stepP i k _ _ (ok.pure p d) z⟩⟩
theorem ì{X:iB}(m:iZ F X D σ h)(k:Nat)(e:Js (rA xB k σ.cells) c=some l)(x:iP D (Yf F X D) h a c):iP (tF k D) (Yf F X (tF k D)) h a l:=by
 have d:=fun v r u=>Cp m k xB v r u
 cases c with
 |list l'=>obtain ⟨i,b,rfl⟩:=cH.mp e;refine nn fun f=>?_;obtain ⟨xs,hx,g⟩:=x;refine f ?_;exact ⟨xs,hx,nB d b g⟩
 |dict ks l'=>obtain ⟨i,b,rfl⟩:=cH.mp e;obtain ⟨xs,hx,g⟩:=x;exact ⟨xs,hx,nB d b g⟩
 |attrs as=>obtain ⟨i,b,rfl⟩:=cH.mp e;obtain ⟨j,s,t,y⟩:=x;refine ⟨j,s,t,fun p z=>?_⟩;refine nn fun f=>?_;obtain ⟨v,c1,c2⟩:=Pa b z;obtain ⟨u,A,B⟩:=y _ c1;refine f ?_;exact ⟨u,A,d _ _ _ c2 B⟩
 |mat j=>
  refine nW e ?_;rintro rfl;exact iP.P trivial (fun _ _ e _=>e) (fun _ e=>e) (fun a q=>by
   rcases q with q|q|⟨n,q⟩
   ·exact .inl (.inl q)
   ·exact .inl (.inr (.inl q))
   ·simp only [qN]at q;split at q
    ·exact .inl (.inr (.inr ⟨n,q⟩))
    ·exact hU q) x
theorem aCq{Y:iB}(f:pH c)(r:iP D Y h a c)(hx:h.get? x=some (instObj C i)):x≠a:=by
 have g:∀m,h.Ns1 a m→x≠a:=fun m b e=>by obtain ⟨o,es,j,d,hd,_⟩:=b;replace d:=e▸d;replace d:=hx▸d;refine nW d ?_;rintro rfl;cases hd
 cases c with
 |list l=>exact f.elim
 |dict ks vs=>exact f.elim
 |attrs as=>obtain ⟨m,b,_⟩:=r;exact g m b
 |mat k=>obtain ⟨_,_,m,b,_⟩:=r;exact g m b
inductive aC5(Y:iB)(h:dT)(c:dF)(P:gM→V→Prop)(v:bM)(s':dE):Prop
 |mk (h':dT) (ap:Nat) (c1:gM) (r:V) (e:s'=jK h' ap) (k:∀b o,b≠c→h.get? b=some o→h'.get? b=some o) (x:vC h' c) (pc:pH c1) (p:r.pure=true) (cr:iP [] (iW [c] Y) h' c c1) (l:gG [] (iW [c] Y) h' r v) (q:P c1 r):aC5 Y h c P v s'
def qV(n:Nat)(f:bM)(c0:gM)(ds:bV)(P:gM→V→Prop):Prop:=
 ∀A (Y:iB) h tk x c vs,wD n A→(∀b o,S.heap.get? b=some o→h.get? b=some o)→(∀a,Y a→vC h a)→¬Y c→S.heap.get? c=aF→¬Y x→h.get? x=some (instObj xN c)→iP [] (iW [c] Y) h c c0→bO [] (iW [c] Y) h ds vs→
  bT (model prog w) A (call f (.ref x::vs)) (aC5 Y h c P) (fun _ _=>False) (jK h tk)
def Yk(n:Nat)(f:bM)(c0:gM)(ds:bV)(P:gM→V→Prop):Prop:=
 ∀A (Y:iB) h tk x c vs,wD n A→(∀b o,S.heap.get? b=some o→h.get? b=some o)→(∀a,Y a→vC h a)→¬Y c→S.heap.get? c=aF→¬Y x→h.get? x=some (instObj xN c)→iP [] (iW [c] Y) h c c0→bO [] (iW [c] Y) h ds vs→
  jI (model prog w) A (.call f ⟨.ref x::vs,[]⟩) (wants (aC5 Y h c P) (fun _ _=>False)) (jK h tk)
theorem Yk.c{P:gM→V→Prop}(x:Yk n f c0 ds P):qV n f c0 ds P:=fun A Y h tk a c vs a1 b d e g i j k l=>jH (x A Y h tk a c vs a1 b d e g i j k l)
def ŝ(P:gM→V→Prop):Fl→iS:=fun f σ'=>match f with
 |.ret v=>∃c1 i6 r,lk σ'.cells 0=some c1∧Js (rA xB 1 σ'.cells) c1=some i6∧pH i6∧rA xB 1 σ'.cells v=some r∧r.pure=true∧P i6 r
 |.next=>∃c1 i6,lk σ'.cells 0=some c1∧Js (rA xB 1 σ'.cells) c1=some i6∧pH i6∧P i6 .none
 |_=>False
section
variable{n:Nat}{fd:wN}{tab:lK}{fa:dF}{o:wM}{body:List vD}{ds:bV}{P:gM→V→Prop}{c0:gM}
theorem Me(d:kO fd tab)(j5:S.heap.get? fa=some o)(dq:o.data=.func fd)(d6:S.heap.NoLimit)(jl:S.heap.CodeRec fd.code fd.qualname)(dr:fd.body=.stmts body)
(t9:∀D Y h,bO D Y h dds dvs) (dh:∀h tk (vs:fZ),(∀b o,S.heap.get? b=some o→h.get? b=some o)→vs.length=ds.length+1→BindsTo (jK h tk) fd ⟨vs,[]⟩ ((tab.take (.inst 0::(ds++dds):bV).length).zip (vs++dvs))) (aw:(.inst 0::(ds++dds):bV).length≤tab.length) (G:pH c0)
  (hb:∀L,SW 1 n (wH fd L fa tab) body ⟨Ba 0 (.inst 0::(ds++dds)),[(0,c0)],1⟩ (ŝ P)) (hp:cS ds=true):Yk (n+1) (.ref fa) c0 ds P:=by
 intro A Y h tk x c vs ok R hY x8 ua x9 hx cr T;obtain ⟨oc,W⟩:vC h c:=by
  have X:∀m,h.Ns1 c m→vC h c:=fun m ⟨o,_,_,ho,_⟩=>⟨o,ho⟩
  cases c0 with
  |list l=>exact G.elim
  |dict ks vs=>exact G.elim
  |attrs as=>obtain ⟨m,H,_⟩:=cr;exact X m H
  |mat mm=>obtain ⟨_,_,m,H,_⟩:=cr;exact X m H
 have l0:∀i a,lk [(0,c)] i=some a→i=0∧a=c:=fun i a q=>by
  simp only [fF,fE]at q;split at q
  ·refine nW q ?_;rintro rfl;exact ⟨by assumption,rfl⟩
  ·exact hU q
 have t:∀(env:Env) a,Yf (F0 env) Y [(0,c)] a→iW [c] Y a∨h.get? a=aF:=fun env a q=>by
  rcases q with q|q|⟨i,q⟩
  ·cases q
  ·exact .inl (.inr q)
  ·exact .inl (.inl (by simp only [(l0 i a q).2];exact aM.mpr rfl))
 have m0:iZ (F0 (callEnvC fd h.objs.size fa)) Y [(0,c)] ⟨[],[(0,c0)],1⟩ h:=by
  refine ⟨R,fun x v q=>by simp [fF,fE]at q,fun x p s q=>by simp [F0,fF,fE]at q,fun i c' q=>?_,fun i j a q q'=>by simp only [(l0 i a q).1,(l0 j a q').1],fun i a q=>?_,fun a q=>(by cases q),hY⟩
  ·simp only [fF,fE]at q;split at q
   ·rename_i e;refine nW q ?_;rintro rfl;exact ⟨c,by simp [fF,fE,e],cr.P G (fun _ _ e _=>e) (fun _ e=>e) (t _)⟩
   ·exact hU q
  ·obtain ⟨rfl,rfl⟩:=l0 i a q;exact ⟨fun z=>(by cases z),x8,ua,⟨oc,W⟩,N8⟩
 have yb:bO [(0,c)] (Yf (F0 (callEnvC fd h.objs.size fa)) Y [(0,c)]) h (.inst 0::(ds++dds)) (.ref x::vs++dvs):=by
  refine .cons ?_ ((bO.stepP (fun _ _ e _=>e) (t _) _ _ hp T).append (t9 _ _ _));refine ⟨c,x,rfl,fun q=>?_,by rfl,hx⟩;rcases q with q|q|⟨i,q⟩
  ·cases q
  ·exact x9 q
  ·exact (aCq G cr hx) (l0 i x q).2
 refine ĸ (ds:=.inst 0::(ds++dds)) d j5 dq d6 jl dr (dh _ _ _ R (by simp [(T.length)])) aw ok m0 yb fun h₁ ae Z hz m oh=>?_;refine bL (hb h.objs.size _ Y [(0,c)] h₁ ae oh m) (fun f s' p=>?_) fun _ _ z=>z;obtain ⟨h',ap,D',σ',f',rfl,st,m',r,q⟩:=p;have jn:∀b o,b≠c→h.get? b=some o→h'.get? b=some o:=fun b o I e=>st.keep b o (Z b o e) (fun z=>by rw [hz b z]at e;exact hU e) (fun i z=>I (l0 i b z).2);have u:lk D' 0=some c:=st.ext 0 c N8 (by rfl);have mw:∀a,iW [c] Y a→Yf (wH fd h.objs.size fa tab) Y (tF 1 D') a∨h'.get? a=aF:=fun a z=>by
  rcases z with z|z
  ·rw [aM.mp z];exact .inl (.inr (.inr ⟨0,by rw [qN,if_pos N8];exact u⟩))
  ·exact .inl (.inr (.inl z))
 obtain ⟨y,ub⟩:=st.al c oc (Z c oc W);have fin:∀c1 g,lk σ'.cells 0=some c1→Js (rA xB 1 σ'.cells) c1=some g→pH g→iP [] (iW [c] Y) h' c g:=fun c1 g B C k=>by obtain ⟨a,J,z2⟩:=m'.cel 0 c1 B;replace J:=u▸J;refine nW J ?_;rintro rfl;exact (ì m' 1 C z2).P k (fun _ _ e _=>e) (fun _ e=>e) mw
 cases r with
 |brk=>exact q.elim
 |cont=>exact q.elim
 |next=>refine nn fun N=>?_;obtain ⟨c1,g,B,C,k,O⟩:=q;refine N ?_;exact ⟨h',ap,g,.none,rfl,jn,⟨y,ub⟩,k,rfl,fin c1 g B C k,rfl,O⟩
 |ret r=>refine nn fun N=>?_;obtain ⟨c1,g,r',B,C,k,e5,e6,O⟩:=q;refine N ?_;exact ⟨h',ap,g,r',rfl,jn,⟨y,ub⟩,k,e6,fin c1 g B C k,gG.stepP (fun _ _ e _=>e) mw _ _ e6 (Cp m' 1 xB _ _ _ e5 r),O⟩
theorem vR(d:kO fd tab)(a:S.heap.get? fa=some o)(b:o.data=.func fd)(c:S.heap.NoLimit)(e:S.heap.CodeRec fd.code fd.qualname)(f:fd.body=.stmts body)
  (g:∀vs:fZ,vs.length=ds.length+1→bindArgs fd ⟨vs,[]⟩=pure ((tab.take (ds.length+1)).zip vs)) (i:ds.length+1≤tab.length) (j:pH c0)
  (k:∀L,SW 1 n (wH fd L fa tab) body ⟨Ba 0 (.inst 0::ds),[(0,c0)],1⟩ (ŝ P)) (l:cS ds=true):qV (n+1) (.ref fa) c0 ds P:=
 (Me d a b c e f (fun _ _ _=>.nil) (fun h tk vs _ m=>by rw [eO,eO];exact aE5 (g vs m)) (by rw [eO];exact i) j (by rw [eO];exact k) l).c
end
section
variable{n:Nat}{F:Fx}{σ:St}{Q:V→iS}
theorem D6{P:gM→V→Prop}(fk:iL F)(e:lk σ.cells i=some c0)(t:pH c0)(y:cS ds=true)(c:qV n f c0 ds P)(q:∀c1 r,pH c1→r.pure=true→P c1 r→Q r {σ with cells:=kX i c1 σ.cells}):
  TW rV n F (.inst i::ds) (fun vs=>call f vs) σ Q:=fun A X D h tk vs ok m r=>by
 obtain ⟨u,us,rfl,B,C⟩:=r;obtain ⟨a,x,rfl,nx,d,hx⟩:=B;obtain ⟨T,g,cr⟩:=m.cel i c0 e;replace g:=d▸g;refine nW g ?_;rintro rfl;obtain ⟨W,Y,G,Z,s5⟩:=m.sep i a d;have j:∀b,iW [a] (fun b=>Yf F X D b∧b≠a) b→Yf F X D b∨h.get? b=aF:=fun b z=>by
  rcases z with z|z
  ·rw [aM.mp z];exact .inl (.inr (.inr ⟨i,d⟩))
  ·exact .inl z.1
 have k:∀(h':dT) b,Yf F X D b→iW [a] (fun b=>Yf F X D b∧b≠a) b∨h'.get? b=aF:=fun h' b z=>by
  by_cases q:b=a
  ·exact .inl (.inl (by simp only [q];exact aM.mpr rfl))
  ·exact .inl (.inr ⟨z,q⟩)
 refine bL (c A (fun b=>Yf F X D b∧b≠a) h tk x a us ok m.base (fun b z=>(fun b=>m.yal) b z.1) (fun z=>z.2 rfl) G (fun z=>nx z.1) hx (cr.P t (fun _ _ e _=>e) (fun _ e=>e) j) (bO.stepP (fun _ _ e _=>e) j _ _ y C)) (fun v s' p=>?_) fun _ _ z=>z;obtain ⟨h',H,c1,l,rfl,I,J,pc,s,L,N,O⟩:=p;obtain ⟨m',st⟩:=m.turn2 fk d (fun b o R e=>I b o R e) J (L.P pc (fun _ _ e _=>e) (fun _ e=>e) (k h'));exact ⟨h',H,D,_,l,rfl,st,m',gG.stepP (fun _ _ e _=>e) (k h') _ _ s N,q c1 l pc s O⟩
end
end
section
set_option backward.match.sparseCases false
open PySem PySem.W PyProof.Rows Builtin Builtin.ObjectAttr
def yF(s:jY):mH→mH
 |[]=>[]
 |(x,v)::r=>if x=s then yF s r else (x,v)::yF s r
theorem Nm:yF s []=([]):=rfl
theorem Nl:yF s ((x,v)::r)=(if x=s then yF s r else (x,v)::yF s r):=rfl
def iK(s:jY)(v:V)(l:mH):mH:=(s,v)::yF s l
theorem oH:∀{l:mH},p∈yF s l→p∈l∧p.1≠s:=by
 intro b
 induction b with
 |nil=>intro h;cases h
 |cons c r a=>
  obtain ⟨x,v⟩:=c;intro h;simp only [Nm,Nl]at h;split at h
  ·exact ⟨bB _ (a h).1,(a h).2⟩
  ·rename_i e;rcases aR.mp h with rfl|h
   ·exact ⟨aU,e⟩
   ·exact ⟨bB _ (a h).1,(a h).2⟩
theorem tA:∀{l:mH},t≠s→nM (yF s l) t=nM l t:=by
 intro b
 induction b with
 |nil=>intro h;exact rfl
 |cons c r a=>
  obtain ⟨x,v⟩:=c;intro h;simp only [Nm,Nl];by_cases e:x=s
  ·subst e;rw [if_pos rfl,a h];simp [Hl,Hk,h]
  ·refine (if_neg e)▸?_;simp only [Hl,Hk];by_cases q:t=x
   ·simp [q]
   ·simp only [if_neg q];exact a h
theorem kM:nM (iK s v l) t=if t=s then some v else nM l t:=by
 by_cases e:t=s
 ·simp [iK,Hl,Hk,e]
 ·refine (if_neg e)▸?_;refine (tA (l:=l) e)▸?_;simp [iK,Hl,Hk,e]
theorem nsC{Y:iB}(d:(∃as,c=.attrs as)∨∃m,c=.mat m)(x:iP D Y h a c):∃m,h.Ns1 a m∧Within m rN:=by
 rcases d with ⟨as,rfl⟩|⟨m,rfl⟩
 ·obtain ⟨m,b,le,_⟩:=x;exact ⟨m,b,le⟩
 ·obtain ⟨_,_,m,b,le,_⟩:=x;exact ⟨m,b,le⟩
structure I2(K:As)(name:jY)(f:dF):Prop where
 get:plainGet K xN name=true
 find:findIn K (.ref xN) name=some (some (.ref f))
 typ:typeIn K (.ref f)=some (.type "function")
 own:name∉rN
 fn:∃o fd,S.heap.get? f=some o∧o.data=.func fd
structure Dp(K:As)(name:jY):Prop where
 set:findIn K (.ref xN) "__setattr__"=some (some (.builtin "object.__setattr__"))
 over:plainOver K xN=true
 take:takerIn K xN name=some aF
 dict:(clsIn K xN).any (·.hasDict)=true
 own:name∈rN
def Dh(name:jY)(go:M V)(v:V)(σ:St):Option St:=bd (go σ) fun o σ=>ob (Yh o) fun i=>aA σ i fun as=>some {σ with cells:=kX i (.attrs (iK name v as)) σ.cells}
noncomputable def aBa:gM→Bool
 |.attrs _=>true
 |.mat _=>true
 |_=>false
theorem aA9(h:aBa c=true):(∃as,c=.attrs as)∨∃m,c=.mat m:=by
 cases c<;>first|cases h|skip
 ·exact .inl ⟨_,rfl⟩
 ·exact .inr ⟨_,rfl⟩
def Vk(d:Bd)(go:M V)(ga:M bV):M V:=fun σ=>bd (go σ) fun o σ=>match o with
 |.inst i=>ob (lk σ.cells i) fun c=>if aBa c=true then bd (ga σ) fun us σ=>ob (lk σ.cells i) fun c0=>if cS us=true then ob (d c0 us) fun x=>some (x.2,{σ with cells:=kX i x.1 σ.cells})else aF else aF
 |_=>aF
section
variable{n:Nat}{F:Fx}{K:As}
theorem Rm{E:rX}{s:dE}{m:jY→Option bM}{Q:Unit→tU}(X:K.In s.heap)(c:Dp K name)(hx:s.heap.get? x=some (instObj xN a))(g:s.heap.Ns1 a m)(hw:Within m rN)
  (q:∀h' i,h'.Ns1 a (fun y=>if y=name then some v else m y)→pW a s.heap h'→Q () {s with heap:=h',toks:=i}):bT (model prog w) A (setAttr (.ref x) name v) Q E s:=by
 refine nn fun d=>?_;obtain ⟨od,j,_⟩:=Mb g.ns name;refine d ?_;have I:InstAt s.heap x (instObj xN a) xN (some od):=⟨hx,rfl,rfl,j⟩;refine set_plain X I c.set (osa_open X I c.over c.take fun b=>?_);refine nn fun d=>?_;obtain ⟨t,k,hd⟩:=any_some c.dict;refine d ?_;refine aH (aW (aH (aH (wpAny_loadPart hx (aH (Looks.here (looks_clsIn X k) ?_))))));simp only [hd];refine aW (aH (aW (aH (wpAny_nsSet1 g fun h' h l=>?_))));have f:Within (fun y=>if y=name then some v else m y) rN:=fun y hy=>by
  by_cases e:y=name
  ·refine e▸?_;exact c.own
  ·exact hw y (by simpa only [if_neg e]using hy)
 refine nn fun d=>?_;obtain ⟨u,es,z,o,p,r⟩:=h.count f;refine d ?_;refine aH (wpAny_lookBehind o (by refine p▸?_;exact pastItsLine_dict (bZ r (by decide))) (aW ?_));exact q h' _ h l
theorem iV(C:K.In S.heap)(fk:iL F)(c:Dp K name)(x:kC n F (.Name s p) G):I5 n F (.Attribute (.Name s p) name ak) (Dh name G):=fun σ v σ' q=>by
 obtain ⟨o,σ₁,d,q⟩:=dZ q;revert d;refine Ù q fun i q d=>?_
 ·obtain ⟨as,H,q⟩:=Ø q
  ·refine nW q ?_;rintro rfl;intro A X D h tk u ok m I;refine aH (bY (TW.atE (x _ _ _ d) ok m bO.nil ?_));rintro ov h₁ ae D₁ st f r;obtain ⟨a,xx,rfl,nx,l,hx⟩:=r;refine nn fun g=>?_;obtain ⟨a',j,mm,J,t,L⟩:=f.cel i _ H;refine g ?_;replace j:=l▸j;refine nW j ?_;rintro rfl;refine aH (gC (aH (bY (Rm (C.keeps f.base) c hx J t fun h' N z O=>?_))));obtain ⟨m',P⟩:=f.turn (c:=.attrs (iK name v as)) fk l (fun b o Q e=>(O.2 b Q).trans e) (let ⟨o,_,_,R,_⟩:=z;⟨o,R⟩) (fun Y' B fg=>⟨_,z,fun y hy=>by
    by_cases e:y=name
    ·refine e▸?_;exact c.own
    ·exact t y (by simpa only [if_neg e]using hy),fun p' k=>by
     rcases aR.mp k with rfl|k
     ·exact ⟨u,by simp,B _ _ (I.on m st)⟩
     ·obtain ⟨T,W⟩:=oH k;refine nn fun g=>?_;obtain ⟨Y,Z,d2⟩:=L _ T;refine g ?_;exact ⟨Y,by simp [W,Z],B _ _ d2⟩⟩)
   exact Jg ⟨h',N,D₁,_,(),rfl,st.trans P,m',trivial,rfl⟩
theorem xC{Q:V→iS}(J:K.In S.heap)(c:I2 K name f)
  (L:eval (.Call (.Attribute o name v) args [] g) F.env=(do
   let y←eval o F.env
   jD v.atName
   let (f,first)←holding [y] (getMethod y name pl)
   lA g f first (backTo g (dR args F.env)) []))
  (N:nE F args)
  (x:EW n F o σ fun u σ₁=>∃i c0,u=.inst i∧lk σ₁.cells i=some c0∧((∃as,c0=.attrs as)∨∃m,c0=.mat m)∧Y3 n F g args σ₁ fun us B=>TW rV n F (.inst i::us) (fun vs=>call (.ref f) vs) B Q):EW n F (.Call (.Attribute o name v) args [] g) σ Q:=fun A X D h tk vs ok m _=>by
 refine aIm (x.at ok m bO.nil fun a h₁ ae D₁ σ₁ u O j C k=>?_) L;refine nn fun d=>?_;obtain ⟨i,c0,rfl,P,l,k⟩:=k;refine d ?_;have R:=C;obtain ⟨b,T,rfl,nx,W,hx⟩:=C;obtain ⟨b',r,cr⟩:=j.cel i _ P;replace r:=W▸r;refine nW r ?_;rintro rfl;refine nn fun d=>?_;obtain ⟨G,Y,hw⟩:=nsC l cr;obtain ⟨od,Z,hl⟩:=Mb Y.ns name;refine d ?_;have s:G name=aF:=by
  cases q:G name with
  |none=>rfl
  |some z=>exact absurd (hw name (by refine q▸?_;intro z;exact Ly z)) c.own
 refine nn fun d=>?_;obtain ⟨of,fd,x6,t⟩:=c.fn;refine d ?_;refine method_fn (od:=some od) (J.keeps j.base) ⟨hx,rfl,rfl,Z⟩ (plainGet_of c.get).1 (plainGet_of c.get).2 c.find c.typ (by refine (?_:(lookIn name od).map _=_);refine hl▸?_;refine s▸?_;rfl) ?_;refine Qw (o:=of) (fd:=fd) (pU N k ok j fun us az bg D₂ B ds H I da d0=>?_);exact ⟨⟨I.base _ _ x6,t⟩,bL (d0 A X D₂ az bg (.ref T::us) ok I (.cons (gG.on j H R) da)) (fun _ _ p=>p.on (O.trans H)) fun _ _ e=>e⟩
theorem uJ{d:Bd}(j:K.In S.heap)(fk:iL F)(c:I2 K name f)
  (hd:∀c0 us c1 r,cS us=true→d c0 us=some (c1,r)→pH c0∧qV n (.ref f) c0 us (fun c k=>c=c1∧k=r))
  (x:kC n F o l) (m:nE F args) (y:yK n F a args p)
  (s:eval (.Call (.Attribute o name g) args [] a) F.env=(do
   let b←eval o F.env
   jD g.atName
   let (f,first)←holding [b] (getMethod b name G)
   lA a f first (backTo a (dR args F.env)) [])):kC n F (.Call (.Attribute o name g) args [] a) (Vk d l p):=fun σ v σ' q=>by
 replace q:=dZ q;obtain ⟨b,σ₁,t,q⟩:=q;split at q
 ·rename_i i;replace q:=dS q;obtain ⟨u,z,q⟩:=q;split at q
  case isFalse=>(exact hU q)
  rename_i A;replace q:=dZ q;obtain ⟨us,H,B,q⟩:=q;replace q:=dS q;obtain ⟨c0,C,q⟩:=q;split at q
  ·rename_i h;replace q:=dS q;obtain ⟨⟨c1,r⟩,e,q⟩:=q;refine Jl q ?_;rintro rfl rfl;refine xC j c s m ((x _ _ _ t).mono ?_);refine lM ?_;refine ⟨i,u,rfl,z,aA9 A,TW.mono (y _ _ _ B) ?_⟩;refine lM ?_;replace e:=hd c0 us c1 r h e;obtain ⟨pc,D⟩:=e;refine D6 fk C pc h D ?_;rintro _ _ _ _ ⟨rfl,rfl⟩;exact ⟨rfl,rfl⟩
  ·exact hU q
 ·exact hU q
end
end
noncomputable abbrev Lb(id:String)(self:bM):wM:={cls:=.type "builtin_function_or_method",data:=.fields #[.builtin id,self]}
theorem Bv:Slot "method_descriptor" "__get__" "method_descriptor.__get__":=
 .of (owner:="method_descriptor") (n:="__get__") (by kernel_rfl) (by decide+kernel) (by decide+kernel) (by decide+kernel) (.inl (by decide+kernel)) (by kernel_rfl)
theorem P2:entryFor table "method_descriptor.__get__"=some Ob.«method_descriptor.__get__»:=entryFor_of_tree (by kernel_rfl)
theorem Td(a b c:bM):argsOk "method_descriptor.__get__" ⟨[a,b,c],[]⟩:=by unfold argsOk;kernel_rfl
theorem Þ:Dv (.type "method_descriptor") "__set__"=pure none:=by rw [D1,builtinLookup_eq_fast];kernel_rfl
theorem à:Dv (.type "method_descriptor") "__delete__"=pure none:=by rw [D1,builtinLookup_eq_fast];kernel_rfl
theorem Jj:typeOf (.builtin "dict.get")=pure (.type "method_descriptor"):=by show builtinType _=_;rw [builtinType_eq_fast];kernel_rfl
theorem Cj:typeOf (.builtin "set.__contains__")=pure (.type "method_descriptor"):=by show builtinType _=_;rw [builtinType_eq_fast];kernel_rfl
structure Yo(T:String)(name:jY)(id ga:String):Prop where
 slot:Slot T name id
 typ:typeOf (.builtin id)=pure (.type "method_descriptor")
 own:".".intercalate (id.cutAt '.').dropLast=T
 told:Manifest.toldItsClass.contains id=false
 sub:Ca (.type T) (.type T)=pure true
 gaS:Slot T "__getattribute__" ga
 entry:entryFor table ga=some Ob.«object.__getattribute__»
 args:∀a b:bM,argsOk ga ⟨[a,b],[]⟩
 copied:(["__module__","__name__","__qualname__","__doc__","__annotations__"]:lK).contains name=false
theorem ç{T id h:String}{name:jY}(b:Yo T name id h)(a:dF)(o:wM)(i:o.cls=.type T):
  Meets (Ob.«method_descriptor.__get__» ⟨[.builtin id,.ref a,.type T],[]⟩) (fun A R s=>s.heap.get? a=some o∧R (.ok (.ret (.ref s.heap.objs.size))) {s with heap:=s.heap.push (Lb id (.ref a))}):=
 aMu fun prog w A R s c=>by
  obtain ⟨j,g,d,tk,os⟩:=s;obtain ⟨hx,c⟩:=c;have k:(⟨j,g,d,tk,os⟩:dE).TypeIs (.ref a) T:=⟨_,hx,i⟩;unfold Ob.«method_descriptor.__get__»;have e:=b.told;have f:=b.own;have l:=b.sub;repeat (any_goals (first|assumption|wp_step))
  all_goals (try simp only [e,f])
  repeat (any_goals (first|assumption|wp_step))
  all_goals (try simp only [e,f])
  repeat (any_goals (first|assumption|wp_step))
  exact ⟨_,rfl,c⟩
theorem Zf{a:Type}{M:Ű}{A:kS}{Q:a→tU}{E:rX}{s:dE}{t b:E1 a}(h:t=b)(x:bT M A b Q E s):bT M A t Q E s:=h▸x
theorem Pb{T id j:String}{name:jY}(b:Yo T name id j)(a:dF)(o:wM)(e:o.cls=.type T)(hd:o.dict=aF)(i:(∃es k,o.data=.dict es k)∨∃xs m t,o.data=.set xs m t)(u:Tok):
  Meets (Ob.«object.__getattribute__» ⟨[.ref a,.str name u],[]⟩) (fun A R s=>s.heap.get? a=some o∧R (.ok (.ret (.ref s.heap.objs.size))) {s with heap:=s.heap.push (Lb id (.ref a))}):=
 aMu fun prog w A R s f=>by
  obtain ⟨c,g,d,tk,os⟩:=s;obtain ⟨hx,f⟩:=f;have n:(⟨c,g,d,tk,os⟩:dE).TypeIs (.ref a) T:=⟨_,hx,e⟩;unfold Ob.«object.__getattribute__»;have p:=b.slot.lookup;have l:=b.typ;have r:=Bv.lookup;have v:=Þ;have x:=à;have y:=fun s=>Bv.bind s;obtain ⟨oc,od,S8,z⟩:=o;dsimp only at e hd i;subst e hd;have h:∀{Q:rX}{E:rX}{A':kS},Q (.ref c.objs.size) {heap:=c.push (Lb id (.ref a)),gens:=g,drawn:=d,toks:=tk,os:=os}→bT (model prog w) A' (call (.builtin "method_descriptor.__get__") [.builtin id,.ref a,.type T]) Q E ⟨c,g,d,tk,os⟩:=fun q=>
   call_meets Bv l P2 (Td _ _ _) (ç b a _ rfl) ⟨hx,q⟩
  repeat (any_goals (first|assumption|(with_reducible refine h ?_)|wp_step))
  refine Zf (show _=instanceDict a false by rcases i with ⟨es,k,rfl⟩|⟨xs,m,t,rfl⟩<;>rfl) ?_;repeat (any_goals (first|assumption|(with_reducible refine h ?_)|wp_step))
  rw [b.copied];repeat (any_goals (first|assumption|(with_reducible refine h ?_)|wp_step))
  exact ⟨_,rfl,f⟩
theorem Sv{A:kS}{E:rX}{s:dE}{T id f:String}{name:jY}{a:dF}{o:wM}{Q:rX}(b:Yo T name id f)(hx:s.heap.get? a=some o)(h:o.cls=.type T)(hd:o.dict=aF)(i:(∃es k,o.data=.dict es k)∨∃xs m t,o.data=.set xs m t)
  (q:∀tk,Q (.ref s.heap.objs.size) {s with heap:=s.heap.push (Lb id (.ref a)),toks:=tk}):bT (model prog w) A (getAttr (.ref a) name true) Q E s:=by
 obtain ⟨c,g,d,tk,os⟩:=s;obtain ⟨oc,od,S8,n⟩:=o;dsimp only at h hd i;subst h hd;have j:∀e,(⟨c,g,d,e,os⟩:dE).TypeIs (.ref a) T:=fun _=>⟨_,hx,rfl⟩;have p:=b.gaS.lookup;have r:=b.gaS.bind (.ref a);have l:∀{Q:rX}{E:rX}{A':kS}{e:Nat}{u:Tok},Q (.ref c.objs.size) {heap:=c.push (Lb id (.ref a)),gens:=g,drawn:=d,toks:=e,os:=os}→bT (model prog w) A' (call (.builtin f) [.ref a,.str name u]) Q E ⟨c,g,d,e,os⟩:=fun q=>
  call_meets b.gaS (j _) b.entry (b.args _ _) (Pb b a _ rfl rfl i _) ⟨hx,q⟩
 repeat (any_goals (first|assumption|exact j _|((with_reducible show bT _ _ (call (D4 _) _ _) _ _ _);refine l ?_)|wp_step))
 exact q _
theorem Œ:Yo "dict" (aC "get") "dict.get" "dict.__getattribute__":=
 ⟨Qu,Jj,by decide+kernel,by decide+kernel,by kernel_rfl,PySem.F.slot_dict_getattribute,am_entry_dict_getattribute,PySem.F.args_dict_getattribute_2,by decide+kernel⟩
theorem J4:Yo "set" (aC "__contains__") "set.__contains__" "set.__getattribute__":=
 ⟨PySem.F.slot_set_contains,Cj,by decide+kernel,by decide+kernel,by kernel_rfl,PySem.F.slot_set_getattribute,entryFor_alias (id':="object.__getattribute__") (by kernel_rfl) (by decide+kernel) (by decide+kernel) (by kernel_rfl),PySem.F.args_set_getattribute_2,by decide+kernel⟩
structure š(h:dT)(d:dF)(f:Int→Option bM)(n:Nat):Prop where
 ex:∃es ep,h.get? d=some {cls:=.type "dict",dict:=aF,data:=.dict es ep,slots:= #[]}∧IntKeys es∧es.size≤n∧∀k,findBy qY es k=f k
theorem š.map{f:Int→Option bM}(x:š h d f n):h.IntMap d f:=by refine nn fun a=>?_;obtain ⟨es,b,c,e,_,g⟩:=x.ex;refine a ?_;exact ⟨_,es,b,c,rfl,rfl,e,g⟩
theorem mD:Dt h d ks xs↔ks.length=xs.length∧∃f,š h d f ks.length∧∀k,f k=(ks.zip xs).lookup k:=by
 constructor
 ·rintro ⟨f,⟨o,es,g,a,m,hd,i,j⟩,ex,le,l,e⟩;obtain ⟨n,p⟩:=ex o a;have r:=le _ _ _ a hd;obtain ⟨c,t,u,v⟩:=o;dsimp only at m hd n p;subst m hd n p;exact ⟨l,f,⟨es,g,a,i,r,j⟩,e⟩
 ·rintro ⟨l,f,⟨es,g,a,i,le,j⟩,e⟩;refine ⟨f,⟨_,es,g,a,rfl,rfl,i,j⟩,fun o b=>?_,fun o x y b s=>?_,l,e⟩
  ·replace b:=a▸b;refine nW b ?_;rintro rfl;exact ⟨rfl,rfl⟩
  ·replace b:=a▸b;refine nW b ?_;rintro rfl;cases s;exact le
theorem S6{E:rX}{s:dE}{f:Int→Option bM}{Q:Unit→tU}(x:š s.heap d f n)(h:n≤hW)
  (q:∀h',š h' d (fun y=>if y=k then some v else f y) (n+1)→pW d s.heap h'→Q () {s with heap:=h',toks:=s.toks+1}):bT (model prog w) A (dictSet d (.int k t) v) Q E s:=by
 refine nn fun g=>?_;obtain ⟨es,j,a,b,le,c⟩:=x.ex;refine g ?_;refine bY (aH (aOo ?_));refine bY (aH (aMm a rfl b ?_))
 cases hi:es.findIdx? fun e=>qY k e.key with
 |some i=>
  refine aH (yY (aH (wpAny_updateDict a rfl (wpAny_point (q _ ⟨_,_,jJ _ a (E3 (Obj.data_mapDict rfl _)),b.modify i v,?_,fun y=>?_⟩ (oP ..))))))
  ·simp only [Array.size_modify];exact aS Sf le
  ·rw [findBy_modify qY Value.isInt_inj es k y v i hi,c]
 |none=>
  refine aH (yY (aIh a rfl (q _ ⟨_,_,jJ _ a (E3 (Ŧ rfl _)),b.push k t v,?_,fun y=>?_⟩ (oP ..))))
  ·simp only [aE6];exact aS ø le
  ·refine (findBy_push qY es k y _ _ v (fun z=>?_) hi).trans (by rw [c]);refine (?_:(k==z)=decide (z=k));by_cases e:z=k
   ·simp [e]
   ·have:¬k=z:=fun q=>e q.symm;simp [e,this]
section
set_option backward.match.sparseCases false
theorem Y8{Y:iB}(k:Int):∀{ks:bH}{vs:bV}{xs:fZ},bO D Y h vs xs→ks.length=xs.length→
  (∃v x,(ks.zip vs).lookup k=some v∧(ks.zip xs).lookup k=some x∧gG D Y h v x)∨((ks.zip vs).lookup k=aF∧(ks.zip xs).lookup k=aF):=by
 intro b
 induction b with
 |nil=>intro vs;intro xs;intro _;intro _;exact .inr ⟨by rfl,by rfl⟩
 |cons a ks c=>
  intro f
  cases f with
  |nil=>intro xs;intro r;intro e;subst r;simp at e
  |cons d vs=>
   intro xs;intro r;intro e;obtain ⟨u,us,rfl,r1,g⟩:=r;simp only [iT,kU];by_cases q:k==a
   ·rw [q];exact .inl ⟨d,u,rfl,rfl,r1⟩
   ·rw [show (k==a)=false by simpa using q];exact c g (by simpa using e)
theorem Ho{f:Int→Option bM}(a:ks.length=xs.length)(e:∀y,f y=(ks.zip xs).lookup y)(x:š h' d (fun y=>if y=k then some v else f y) (ks.length+1)):Dt h' d (k::ks) (v::xs):=by
 refine mD.mpr ⟨by simp [a],_,x,fun y=>?_⟩;simp only [iT,kU];by_cases q:y=k
 ·subst q;simp
 ·rw [if_neg q,e,show (y==k)=false by simpa using q]
def Yc:pV:=fun us σ=>aV (fun u=>aV fun y=>aV fun d=>aN (ob (aIa u) fun p=>ob (Iz y) fun k=>some (((p.1.zip p.2).lookup k).getD d,σ))) us
noncomputable def aN1:V→Bool
 |.dct _ _=>true
 |_=>false
def gDM(d:pV)(go:M V)(ga:M bV):M V:=fun σ=>bd (go σ) fun u σ=>if aN1 u=true then bd (ga σ) fun us σ=>d (u::us) σ else aF
noncomputable def aHh:M V:=fun σ=>some (aAj (.dict [] []) σ)
def Ģ(go gi:M V)(v:V)(σ:St):Option St:=bd (go σ) fun o σ=>bd (gi σ) fun i σ=>ob (Ix o) fun n=>ob (Iz i) fun k=>aD σ n fun p=>if p.1.length≤lim then some {σ with cells:=kX n (.dict (k::p.1) (v::p.2)) σ.cells}else aF
def gBm(g:M V):M V:=fun σ=>bd (g σ) fun o σ=>ob (aIa o) fun p=>some (.bm "dict.get" (.dct p.1 p.2),σ)
def aHi(g:M V):M V:=fun σ=>bd (g σ) fun o σ=>ob (aH8 o) fun _=>some (.bm "set.__contains__" .set0,σ)
def vY(go:M V)(ga:M bV):M V:=fun σ=>bd (go σ) fun o σ=>ob (aL8 o) fun p=>bd (ga σ) fun us σ=>
  if p.1="dict.get" then Yc (p.2::us) σ
  else if p.1="set.__contains__" then ob (aH8 p.2) fun _=>aV (fun y=>aN (ob (Iz y) fun _=>some (.bool false,σ))) us
  else aF
section
variable{n:Nat}{F:Fx}{K:As}
theorem Xu:kC n F (.Dict [] [] c) (gK (.dct [] [])):=fun σ v σ' e=>by intro A X D h tk vs ok m _;have a:=dL h {cls:=.type "dict",data:=.dict #[]};refine aOq ⟨_,tk,D,σ,_,rfl,oU.grow a,m.grow a,?_,.of e⟩;refine ⟨h.objs.size,[],rfl,fun q=>?_,mD.mpr ⟨rfl,fun _=>aF,⟨#[],0,cA _ rfl,fun e b=>by simp at b,by trivial,fun k=>rfl⟩,fun k=>rfl⟩,bO.nil⟩;exact (m.yal q).no (eV _)
theorem Kx:kC n F (.Dict [] [] b) aHh:=fun σ v σ' e=>by intro A X D h tk vs ok m _;obtain ⟨m',st⟩:=m.cell (c:=.dict [] []) (dL h {cls:=.type "dict",data:=.dict #[]}) (eV h) ⟨_,cA _ rfl⟩ (fun D' Y' _ d=>⟨[],mD.mpr ⟨rfl,fun _=>aF,⟨#[],0,cA _ rfl,fun e a=>by simp at a,by trivial,fun k=>rfl⟩,fun k=>rfl⟩,bO.nil⟩);refine aOq ⟨_,tk,_,_,_,rfl,st,m',?_,.of e⟩;exact ⟨_,rfl,by simp [fF,fE]⟩
theorem Vu{X:iB}{R:xH→tU}(x:Dt h a ks xs)(j:bO D (Yf F X D) h vs xs)(l:gG D (Yf F X D) h d u)
  (q:∀r m,gG D (Yf F X D) h (((ks.zip vs).lookup k).getD d) r→R (.ok (.ret r)) (jK h m)):
  bT (model prog w) A.in1 (Ob.«dict.get» ⟨[.ref a,.int k t,u],[]⟩) (fun fin b=>match fin with|.done f=>R (.ok f) b|.again i=>i.quiet=true∧jI (model prog w) A i R b) (fun e b=>R (.error e) b) (jK h tk):=by
 refine nn fun o=>?_;obtain ⟨p,f,df,s⟩:=mD.mp x;refine o ?_;refine (?_:bT _ _ (dictGet a (.int k t)>>=_) _ _ _);refine aH (wpAny_dictGet_int df.map ?_);rw [s];rcases Y8 k j p with ⟨v,z,c,g,y⟩|⟨c,g⟩
 ·refine g▸?_;replace q:=c▸q;exact aW (q z _ y)
 ·refine g▸?_;replace q:=c▸q;refine (?_:bT _ _ (aPa a (.int k t)>>=_) _ _ _);exact aH (wpAny_missed_int (aW (q u _ l)))
@[elab_as_elim] theorem Vt {P:V→bV→Prop} (e:Yc (u::us) σ=some (r,σ')) (q:∀ks vs k d,some (((ks.zip vs).lookup k).getD d,σ)=some (r,σ')→P (.dct ks vs) [.int k,d]):P u us:=by refine nQ (us:=us) e fun y _ e=>?_;refine nQ e fun d _ e=>?_;refine oM e fun e=>?_;refine aDo e fun ks vs e=>?_;exact yR e fun k e=>q ks vs k d e
theorem Ð:OpB n F "dict.get" Yc:=fun us σ v σ' e=>by
 cases us with
 |nil=>exact hU e
 |cons u us=>
 refine Vt e fun ks vs k d e=>?_;intro A X D h tk s ok m r;obtain ⟨u,_,rfl,r1,y,_,rfl,b,z,_,rfl,c,g⟩:=r;cases g;obtain ⟨a,xs,rfl,x,hx,i⟩:=r1;obtain ⟨t,rfl⟩:=b;have j:(jK h tk).TypeIs (.ref a) "dict":=by obtain ⟨_,f,⟨es,B,l,_⟩,_⟩:=mD.mp hx;exact ⟨_,l,rfl⟩
 refine jH (qK Qu.plain Qq (Qu.check _ _ _ _ _ _ _ _ j (PySem.F.args_dict_get_3 _ _ _) (Vu (R:=wants (uC rV F X D h (B8 v σ')) (fun _ _=>False)) hx i c fun C o p=>?_)));exact ⟨h,o,D,σ,_,rfl,.refl,m,p,.of e⟩
theorem aG8{o:Expr}{name:jY}{c b:Pos}{args:List Expr}{j:E1 Bool}{id:String}{d:pV}{e:M V}{g:M bV}(slot:Slot "dict" name id)(k:typeOf (.builtin id)=pure (.type "method_descriptor"))(l:Yt "dict")(ob:OpB n F id d)
  (x:kC n F o e) (p:nE F args) (y:yK n F b args g)
  (s:eval (.Call (.Attribute o name c) args [] b) F.env=(do
   let i←eval o F.env
   jD c.atName
   let (f,first)←holding [i] (getMethod i name j)
   lA b f first (backTo b (dR args F.env)) [])):kC n F (.Call (.Attribute o name c) args [] b) (gDM d e g):=fun σ v σ' q=>by
 obtain ⟨u,σ₁,t,q⟩:=dZ q;split at q
 ·rename_i hd;replace q:=dZ q;obtain ⟨us,C,z,q⟩:=q;refine Nh slot k l s p ((x _ _ _ t).mono ?_);refine lM ?_;refine ⟨fun F X D h v m r=>?_,TW.mono (y _ _ _ z) ?_⟩
  ·cases u<;>first|cases hd|skip
   obtain ⟨a,xs,rfl,G,hx,H⟩:=r;refine nn fun A=>?_;obtain ⟨_,f,⟨es,I,B,_⟩,_⟩:=mD.mp hx;refine A ?_;exact ⟨a,_,rfl,B,rfl,rfl⟩
  ·refine lM ?_;exact ob _ _ _ _ q
 ·exact hU q
theorem Đ(fk:iL F)(x:kC n F o L)(y:kC n F i N):I5 n F (.Subscript o i ak) (Ģ L N):=fun σ v σ' e=>by replace e:=dZ e;obtain ⟨ov,σ₁,O,e⟩:=e;replace e:=dZ e;obtain ⟨iv,ao,P,e⟩:=e;obtain ⟨j,rfl,d⟩:=Õ e;obtain ⟨k,rfl,p⟩:=aDk d;replace p:=aDl p;obtain ⟨ks,vs,Q,z⟩:=p;replace z:=iC z;obtain ⟨R,T⟩:=z;refine nW T ?_;rintro rfl;intro A X D h tk u ok m r;rw [assign_Subscript];refine aH (bY (TW.atE (x _ _ _ O) ok m bO.nil ?_));rintro xk h₁ ae D₁ G B W;refine aH (bY (TW.atE (y _ _ _ P) ok B bO.nil ?_));rintro xl Y Z D₂ C H da;have tf:=gG.on B C W;obtain ⟨a,rfl,I⟩:=tf;obtain ⟨t,rfl⟩:=da;refine nn fun g=>?_;obtain ⟨a',d,xs,hx,rx⟩:=H.cel j _ Q;refine g ?_;replace d:=I▸d;refine nW d ?_;rintro rfl;refine nn fun g=>?_;obtain ⟨e0,f,df,ef⟩:=mD.mp hx;refine g ?_;have l:=df.map.typeIs (s:=jK Y Z);refine aH (gC (aH (bY ?_)));refine bY (aH (aMr l (by decide) ?_));refine aH (nZ l slot_dict_setitem (lO slot_dict_setitem l entry_dict_setitem ?_ (args_dict_setitem _ _ _)));refine (?_:bT _ _ (aO9 "__setitem__" ⟨[.ref a,.int k t,u],[]⟩>>=_) _ _ _);refine aH (aE0 l ?_);refine (?_:bT _ _ (dictSet a (.int k t) u>>=_) _ _ _);refine aH (S6 df (bZ R pA) fun h' yc d7=>?_);have J:=Ho e0 ef yc;refine nn fun g=>?_;obtain ⟨oz,yd⟩:=J.lt;obtain ⟨m',cq⟩:=H.turn (c:=.dict (k::ks) (v::vs)) fk I (fun b o hb e=>(d7.2 b hb).trans e) ⟨oz,yd⟩ (fun Y' hr fg=>⟨u::xs,J,.cons (hr _ _ (gG.on B C (gG.on m G r))) (fg _ _ rx)⟩);refine g ?_;exact aW ⟨.none,rfl,aW (Jg ⟨h',_,D₂,_,(),rfl,(G.trans C).trans cq,m',trivial,rfl⟩)⟩
theorem Ve{o:Expr}{name:jY}{c:Pos}{T id s:String}{g l:M V}(b:Yo T name id s)(x:kC n F o g)(y:eval (.Attribute o name c) F.env=(eval o F.env>>=fun f=>jD c.atName>>=fun _=>holding [f] (getAttr f name true)>>=fun r=>letTemporaryGo o f r>>=fun _=>pure r))
  (i:∀σ v σ',l σ=some (v,σ')→∃u,g σ=some (u,σ')∧v=.bm id u∧∀(D:lQ) Y h d,gG D Y h u d→∃a ob,d=.ref a∧¬Y a∧h.get? a=some ob∧ob.cls=.type T∧ob.dict=aF∧((∃es k,ob.data=.dict es k)∨∃xs m t,ob.data=.set xs m t)):kC n F (.Attribute o name c) l:=fun σ v σ' q=>by
 obtain ⟨u,z,rfl,B⟩:=i _ _ _ q;intro A X D h tk vs ok m _;refine (?_:bT _ _ (eval (.Attribute o name c) F.env) _ _ _);refine y▸?_;refine aH (TW.atE (x _ _ _ z) ok m bO.nil ?_);rintro d h₁ L D₁ st p r;refine nn fun C=>?_;obtain ⟨a,ob,rfl,N,G,H,hd,I⟩:=B D₁ _ h₁ d r;refine C ?_;have j:=dL h₁ (Lb id (.ref a));refine aH (gC (aH (bY (Sv b G H hd I fun J=>aH (wpAny_letTemporaryGo (aW ?_))))));refine ⟨_,J,D₁,_,_,rfl,st.trans (oU.grow j),p.grow j,?_,rfl,rfl⟩;refine ⟨h₁.objs.size,.ref a,rfl,fun q=>?_,⟨_,cA _ rfl,rfl,rfl,rfl⟩,(gG.step (fun b o e _=>j b o e) (fun _ _ e=>e) (fun _ e=>.inl e) _ _ r)⟩;exact (p.yal q).no (eV _)
theorem aBi(x:kC n F o g)(i:eval (.Attribute o (aC "get") d) F.env=(eval o F.env>>=fun b=>jD d.atName>>=fun _=>holding [b] (getAttr b (aC "get") true)>>=fun r=>letTemporaryGo o b r>>=fun _=>pure r)):kC n F (.Attribute o (aC "get") d) (gBm g):=by refine Ve Œ x i fun σ v σ' e=>?_;replace e:=dZ e;obtain ⟨u,σ₁,c,e⟩:=e;revert c;refine aDo e ?_;clear e;intro ks vs e c;refine Jl e ?_;rintro rfl rfl;refine ⟨_,c,rfl,fun D Y h m r=>?_⟩;refine nn fun j=>?_;obtain ⟨a,xs,rfl,k,hx,p⟩:=r;obtain ⟨_,f,⟨es,s,l,_⟩,_⟩:=mD.mp hx;refine j ?_;exact ⟨a,_,rfl,k,l,rfl,rfl,.inl ⟨_,_,rfl⟩⟩
theorem aBh(x:kC n F o g)(f:eval (.Attribute o (aC "__contains__") d) F.env=(eval o F.env>>=fun b=>jD d.atName>>=fun _=>holding [b] (getAttr b (aC "__contains__") true)>>=fun r=>letTemporaryGo o b r>>=fun _=>pure r)):kC n F (.Attribute o (aC "__contains__") d) (aHi g):=by refine Ve J4 x f fun σ v σ' e=>?_;replace e:=dZ e;obtain ⟨u,σ₁,c,e⟩:=e;revert c;refine aDm e ?_;clear e;intro e c;refine Jl e ?_;rintro rfl rfl;refine ⟨_,c,rfl,fun D Y h l r=>?_⟩;refine nn fun i=>?_;obtain ⟨a,rfl,j,m,k⟩:=r;refine i ?_;exact ⟨a,_,rfl,j,k,rfl,rfl,.inr ⟨_,_,_,rfl⟩⟩
theorem P9{A:kS}{E:rX}{s:dE}{c:Pos}{u:dF}{ob:wM}{id:String}{self:bM}{args:List (Bool×E1 bM)}{Q:rX}(d:args.any (·.1)=false)
  (h:bT (model prog w) A (evalArgs (.ref u) true args []) (fun x a=>(a.heap.get? u=some ob∧ob.cls=.type "builtin_function_or_method"∧ob.data=.fields #[.builtin id,self])∧bT (model prog w) A (call (.ref u) x.pos x.kw) Q E a) E s):bT (model prog w) A (lA c (.ref u) [] args []) Q E s:=by
 refine aH (bY (bL h (fun x a h₁=>aH (gC ?_)) fun _ _ x=>x));refine nn fun e=>?_;obtain ⟨⟨f,b,hd⟩,g⟩:=h₁;refine e ?_;clear h;obtain ⟨oc,od,S8,j⟩:=ob;dsimp only at b hd;subst b hd;rw [d,List.any_nil,aMq];refine aH ?_;refine aH (Kb f ?_);refine aW ?_;exact aH (bL g (fun r k i=>aH (bY (wpAny_point (aW i)))) fun _ _ x=>x)
theorem Vz{A:kS}{E:rX}{s:dE}{u:dF}{ob:wM}{id:String}{self:bM}{vs:fZ}{B:Ob}{Q:rX}(g:s.heap.get? u=some ob)(b:ob.cls=.type "builtin_function_or_method")(hd:ob.data=.fields #[.builtin id,self])(c:plainId id=true)(i:entryFor table id=some B)
  (j:∀{A':kS}{E':rX}{K:Unit→tU},K () s→bT (model prog w) A' (checkBoundCall id ⟨self::vs,[]⟩) K E' s)
  (h:bT (model prog w) A.in1 (B ⟨self::vs,[]⟩) (fun fin a=>match fin with|.done f=>wants Q E (.ok f) a|.again d=>d.quiet=true∧jI (model prog w) A d (wants Q E) a) (fun e a=>wants Q E (.error e) a) s):bT (model prog w) A (call (.ref u) vs) Q E s:=by
 refine nn fun k=>?_;obtain ⟨oc,od,S8,l⟩:=ob;refine k ?_;dsimp only at b hd;subst b hd;refine jH (D2 ?_);refine (?_:bT _ A.in1 (callAny (.ref u) ⟨vs,[]⟩) _ _ s);refine aH (Kb g ?_);refine aH (j ?_);refine aH (aW (aW ?_));refine ⟨plainId_quiet c _,D3 i ?_⟩;refine (Wb c _)▸?_;exact h
end
end
theorem aCo{E:rX}{s:dE}{K:Unit→tU}(b:s.heap.get? a=some {cls:=.type "dict",dict:=aF,data:=.dict es e,slots:= #[]})(q:K () s):bT (model prog w) A (checkBoundCall "dict.get" ⟨[.ref a,x,y],[]⟩) K E s:=by
 obtain ⟨c,g,d,tk,os⟩:=s;have f:(⟨c,g,d,tk,os⟩:dE).TypeIs (.ref a) "dict":=⟨_,b,rfl⟩;have h:Ca (.type "dict") (.type "module")=pure false:=by rw [yZ];kernel_rfl
 have i:Ca (.type "dict") (.type "type")=pure false:=by rw [yZ];kernel_rfl
 have j:Manifest.varargsMethods.contains "dict.get"=false:=by decide+kernel
 unfold checkBoundCall;repeat (any_goals (first|assumption|wp_step))
theorem Nq{E:rX}{s:dE}{K:Unit→tU}(b:s.heap.get? a=some {cls:=.type "set",dict:=aF,data:=.set #[] 0 (.fresh 0 0 e)})(q:K () s):bT (model prog w) A (checkBoundCall "set.__contains__" ⟨[.ref a,x],[]⟩) K E s:=by
 obtain ⟨c,g,d,tk,os⟩:=s;have f:(⟨c,g,d,tk,os⟩:dE).TypeIs (.ref a) "set":=⟨_,b,rfl⟩;have h:Ca (.type "set") (.type "module")=pure false:=by rw [yZ];kernel_rfl
 have i:Ca (.type "set") (.type "type")=pure false:=by rw [yZ];kernel_rfl
 have j:Manifest.varargsMethods.contains "set.__contains__"=false:=by decide+kernel
 unfold checkBoundCall;repeat (any_goals (first|assumption|wp_step))
theorem ζ(x:Ti h a):h.SetOf (intKind prog w) a (fun _=>false) 0:=by obtain ⟨b,c⟩:=x;refine ⟨_, #[],0,.fresh 0 0 b,c,⟨rfl,rfl,rfl⟩,rfl,fun e d=>by simp at d,fun k=>?_,by decide,by cases b<;>rfl,rfl⟩;simp
theorem P7{s:dE}{R:xH→tU}(x:Ti s.heap a)(q:∀g,R (.ok (.ret (.bool false))) {s with toks:=g}):
  bT (model prog w) A.in1 (Ob.«frozenset.__contains__» ⟨[.ref a,.int k t],[]⟩) (fun fin b=>match fin with|.done f=>R (.ok f) b|.again c=>c.quiet=true∧jI (model prog w) A c R b) (fun e b=>R (.error e) b) s:=by
 have h:=ζ x;have d:(intKind prog w).is k (.int k t)=true:=by show qY k (.int k t)=true;simp [qY]
 unfold Ob.«frozenset.__contains__» aIq;simp only [List.isEmpty_nil,bind_assoc];unfold aIr aIp setContains;refine aH (aW (aH (aW (aH (Yp (bY (aH ((intKind prog w).pyHash d (aH (wpAny_setFind_of (s:={s with toks:=s.toks+1}) d rfl h fun r i=>?_))))))))));refine aW ?_;show bT _ _ (ret (Value.bool r.isSome)) _ _ _;rw [i];exact aW (q _)
section
variable{n:Nat}{F:Fx}{K:As}
theorem uV(x:kC n F (.Name s p) go)(Q:nE F args)(y:yK n F i args ga)
  (he:eval (.Call (.Name s p) args [] i) F.env=(do lA i (←eval (.Name s p) F.env) [] (backTo i (dR args F.env)) [])):kC n F (.Call (.Name s p) args [] i) (vY go ga):=fun σ r σ' e=>by
 obtain ⟨o,σ₁,G,e⟩:=dZ e;revert G;refine aJy e fun id self e G=>?_;obtain ⟨us,ao,T,b⟩:=dZ e;clear e;intro A X D h tk vs ok m _;show bT _ _ (eval (.Call (.Name s p) args [] i) F.env) _ _ _;rw [he];refine aH (TW.atE (x σ _ _ G) ok m bO.nil ?_);rintro fv h₀ gh D₀ W m₀ Y;have aa0:=Y;obtain ⟨u,sv,rfl,nu,⟨ob,ho,H,hd,I⟩,rs⟩:=Y;have hu:∀h₁ D₁,oU F D₀ h₀ D₁ h₁→h₁.get? u=some ob:=fun h₁ D₁ st=>st.keep u ob ho (fun z=>nu (.inl z)) (fun j z=>nu (.inr (.inr ⟨j,z⟩)));refine P9 (ob:=ob) (id:=id) (self:=sv) (lL Q) (pU Q (y _ _ _ T) ok m₀ ?_);rintro gv h₁ l D₁ di g9 B Z c ⟨rfl,rfl⟩;have J:=hu h₁ D₁ B;have g:=gG.on m₀ B rs;refine ⟨⟨J,H,I⟩,?_⟩;clear T;split at b
 ·rename_i L;cases L;revert c g;refine Vt (u:=self) b fun ks ws k d b c g=>?_;obtain ⟨yv,_,rfl,N,zv,_,rfl,O,r4⟩:=c;cases r4;obtain ⟨a,xs,rfl,na,hx,rx⟩:=g;obtain ⟨t,rfl⟩:=N;have jv:=hx;obtain ⟨_,f,⟨es,ep,C,_⟩,_⟩:=mD.mp jv;refine Vz (s:=jK h₁ l) J H I Qu.plain Qq (fun q=>aCo (s:=jK h₁ l) C q) (Vu (R:=wants (uC rV F X D h (B8 r σ')) (fun _ _=>False)) hx rx O fun r' P rr=>?_);exact ⟨h₁,P,D₁,_,_,rfl,W.trans B,Z,rr,.of b⟩
 ·obtain ⟨L,b⟩:=iC b;cases L;revert c g;refine aDm (v:=self) b fun b=>?_;refine nQ b fun y _ b=>?_;refine oM b fun b=>?_;refine yR b fun k b c g=>?_;obtain ⟨yv,_,rfl,N,O⟩:=c;cases O;obtain ⟨a,rfl,na,jd,C⟩:=g;obtain ⟨t,rfl⟩:=N;refine Vz (s:=jK h₁ l) J H I PySem.F.slot_set_contains.plain entry_set_contains (fun q=>Nq (s:=jK h₁ l) C q) (P7 (s:=jK h₁ l) (R:=wants (uC rV F X D h (B8 r σ')) (fun _ _=>False)) ⟨jd,C⟩ fun P=>?_);exact ⟨h₁,P,D₁,_,_,rfl,W.trans B,Z,pG,.of b⟩
end
inductive Ev(lt:Nat→Nat→Bool)(n:Nat){α:Type}:KasT α→α→Prop where
 |ret (a:α):Ev lt n (.ret a) a
 |ask {i j:Nat} {k:Bool→KasT α} {a:α} (hi:i<n) (hj:j<n) (ca:i≠j) (h:Ev lt n (k (lt i j)) a):Ev lt n (.ask i j k) a
theorem Ev.bind{lt:Nat→Nat→Bool}{c d:Type}{t:KasT c}{a:c}{f:c→KasT d}{b:d}(x:Ev lt n t a)(y:Ev lt n (f a) b):Ev lt n (t.bind f) b:=by
 induction x with
 |ret=>exact y
 |ask hi e g _ h=>exact .ask hi e g (h y)
theorem Ev.wp{lt:Nat→Nat→Bool}{c:Type}{t:KasT c}{a:c}{cmp:Nat→Nat→(Bool→tU)→tU}{I:tU}{Q:c→tU}(x:Ev lt n t a)
  (e:∀i j C s,i<n→j<n→i≠j→I s→(∀b,I b→C (lt i j) b)→cmp i j C s) (d:∀s,I s→Q a s):∀s,I s→t.kasWp cmp Q s:=by
 induction x with
 |ret=>exact d
 |ask hi f g _ h=>exact fun s k=>e _ _ _ s hi f g k fun b l=>h d b l
structure rO(n:Nat)(p:Array Nat):Prop where
 size:p.size=n
 perm:p.toList.Perm (wP n)
structure pM(lt:Nat→Nat→Bool)(n:Nat):Prop where
 tot:∀i j,i<n→j<n→i≠j→lt i j=false→lt j i=true
 tr:∀i j k,i<n→j<n→k<n→lt i j=true→lt j k=true→lt i k=true
def Ql(lt:Nat→Nat→Bool)(p:Array Nat)(k:Nat):Prop:=∀i j,i<j→j<k→lt (p.getD i 0) (p.getD j 0)=true
def Ym(lt:Nat→Nat→Bool)(p:Array Nat)(k:Nat):Prop:=∀i j,i<j→j<k→lt (p.getD j 0) (p.getD i 0)=true
section
variable{lt:Nat→Nat→Bool}{n:Nat}{p:Array Nat}
theorem Dd(p:Array Nat)(i:Nat):p.getD i 0=(p[i]?).getD 0:=by simp
theorem rO.bd(g:rO n p)(h:i<n):p.getD i 0<n:=by
 have hi:i<p.size:=by simp only [g.size];exact h
 have:p[i]∈wP n:=g.perm.mem_iff.mp (by simp);simpa [ŧ,hi]using this
theorem rO.ne(g:rO n p)(hi:i<n)(c:j<n)(h:i≠j):p.getD i 0≠p.getD j 0:=by
 have a:i<p.toList.length:=by simp only [vF,g.size];exact hi
 intro e;have a1:i<p.size:=by exact a
 have b:j<p.size:=by exact (by simp only [vF,g.size];exact c:j<p.toList.length)
 refine h ((oX a (g.perm.nodup_iff.mpr List.nodup_range)).mp ?_);simp [a1,b,(by simpa [ŧ,a1,b]using e:p[i]=p[j])]
theorem rO.of_perm(g:rO n p)(h:q.Perm p):rO n q:=⟨by rw [h.size_eq,g.size],(Array.perm_iff_toList_perm.mp h).trans g.perm⟩
theorem Ķ(g:rO n p)(st:pM lt n):∀(f a:Nat),1≤a→a+f≤n→Ql lt p a→∃m,Ev lt n (kas_asc p f a) m∧a≤m∧m≤a+f∧Ql lt p m∧(m=a+f∨lt (p.getD m 0) (p.getD (m-1) 0)=true):=by
 intro s
 induction s with
 |zero=>intro a _ _ h;exact ⟨a,.ret a,bG _,bG _,h,.inl rfl⟩
 |succ f t=>
  intro a k b h;have d:a<n:=aS aGk b
  cases c:lt (p.getD a 0) (p.getD (a-1) 0)with
  |true=>exact ⟨a,.ask (g.bd d) (g.bd (aS Qs b)) (g.ne d (aS Qs b) (aS Xg k)) (by rw [c];exact .ret a),bG _,aS 0x8c52841c20002,h,.inr c⟩
  |false=>
   have o:=st.tot _ _ (g.bd d) (g.bd (aS Qs b)) (g.ne d (aS Qs b) (aS Xg k)) c;have h':Ql lt p (a+1):=fun i j l u=>by
    by_cases e:j=a
    ·subst e;by_cases r:i=j-1
     ·refine r▸?_;exact o
     ·exact st.tr _ _ _ (g.bd (aS aD8 l b)) (g.bd (aS Qs b)) (g.bd d) (h i (j-1) (aS aKn l r) (aS aGn k)) o
    ·exact h i j l (aS aGq u e)
   refine nn fun v=>?_;obtain ⟨m,e,x,y,A,B⟩:=t (a+1) (aS ü) (aS aGr b) h';refine v ?_;exact ⟨m,.ask (g.bd d) (g.bd (aS Qs b)) (g.ne d (aS Qs b) (aS Xg k)) (by refine c▸?_;exact e),aS Mk x,aS aEc y,A,B.imp (fun z=>aS 0x7462b420e208168120e1003 z) id⟩
theorem aB2(g:rO n p)(st:pM lt n):∀(f a:Nat),1≤a→a+f≤n→Ym lt p a→∃m,Ev lt n (kas_desc f p a 0) (p,m,0)∧a≤m∧m≤a+f∧Ym lt p m:=by
 intro r
 induction r with
 |zero=>intro a _ _ h;exact ⟨a,.ret _,bG _,bG _,h⟩
 |succ f s=>
  intro a k b h;have d:a<n:=aS aGk b
  cases c:lt (p.getD a 0) (p.getD (a-1) 0)with
  |true=>
   have h':Ym lt p (a+1):=fun i j l t=>by
    by_cases e:j=a
    ·subst e;by_cases o:i=j-1
     ·refine o▸?_;exact c
     ·exact st.tr _ _ _ (g.bd d) (g.bd (aS Qs b)) (g.bd (aS aD8 l b)) c (h i (j-1) (aS aKn l o) (aS aGn k))
    ·exact h i j l (aS aGq t e)
   refine nn fun u=>?_;obtain ⟨m,e,v,x,y⟩:=s (a+1) (aS ü) (aS aGr b) h';refine u ?_;exact ⟨m,.ask (g.bd d) (g.bd (aS Qs b)) (g.ne d (aS Qs b) (aS Xg k)) (by rw [c];exact e),aS Mk v,aS aEc x,y⟩
  |false=>exact ⟨a,.ask (g.bd d) (g.bd (aS Qs b)) (g.ne d (aS Qs b) (aS Xg k)) (by rw [c];exact .ask (g.bd (aS Qs b)) (g.bd d) (g.ne (aS Qs b) d (aS 0x90a18ba4b081213ccc7001 k)) (by rw [(st.tot _ _ (g.bd d) (g.bd (by exact aS Qs b)) (g.ne d (by exact aS Qs b) (by exact aS Xg k)) c)];exact .ret _)),bG _,by exact aS 0x8c52841c20002,h⟩
theorem Φ(g:rO n p)(c:m≤n)(h:Ym lt p m):Ql lt (kas_rev p 0 m) m:=fun i j b a=>by
 have e:∀k,k<m→(kas_rev p 0 m).getD k 0=p.getD (m-1-k) 0:=fun k d=>by rw [Dd,Dd];unfold kas_rev;rw [getElem?_mirror_all (by rw [g.size];exact c),if_pos ⟨cJ _,d⟩];simp
 rw [e i (Ja b a),e j a];have f:=Nat.le_sub_one_of_lt a;exact h _ _ (mO (cG b f) b) (hF (Qr _ _) (aDb (hF (cJ _) a) Dx))
theorem aB0(g:rO n p)(st:pM lt n)(b:1≤m)(a:m≤n)(h:Ym lt p m):∃r,Ev lt n (kas_tail3 m n p) r∧1≤r.1∧r.1≤n∧rO n r.2∧Ql lt r.2 r.1:=by have c:rO n (kas_rev p 0 m):=g.of_perm (mirror_perm _ _ _ _);obtain ⟨k,e,d,f,i,_⟩:=Ķ c st (n-m) m b (aS 0x24518a4280092114cc1002 a) (Φ g a h);exact ⟨(k,kas_rev p 0 m),e.bind (.ret _),by exact aS 0xe31484e908120382 b d,by exact aS 0x4858c5211a50010d2114cc1003 a f,c,i⟩
theorem ĵ(g:rO n p)(st:pM lt n)(a:1≤n):∃r,Ev lt n (kas_count n p) r∧1≤r.1∧r.1≤n∧rO n r.2∧Ql lt r.2 r.1:=by
 obtain ⟨k,e,h,s,t,u⟩:=Ķ g st (n-1) 1 (bG _) (aS 0x24518a42801d213ccc7001 a) (fun i j l o=>by exact dD (aS 0x18c64a38541002 l o));unfold kas_count;by_cases b:k=n
 ·exact ⟨(k,p),e.bind (by simp [b];exact .ret _),h,by exact aS 0xc62908161002 b,g,t⟩
 ·by_cases d:k>1
  ·have c:=t 0 (k-1) (aS 0x92c62a019413ccc7001 d) (aS aGn h);refine ⟨(k,p),e.bind ?_,h,by exact aS 0x4858c52112500389213ccc7002 a s,g,t⟩;rw [if_neg (by simpa using b),if_pos d];exact .ask (g.bd (aS 0xc62a01920381 a)) (g.bd (aS aK1 a s)) (g.ne (aS 0xc62a01920381 a) (aS aK1 a s) (aS 0x91618ba4b019413ccc7001 d)) (by rw [c];exact .ret _)
  ·have v:k=1:=aS 0xe8c56703a4a01d20381 h d;subst v;have:∃r,Ev lt n (kas_descPart 1 n p) r∧1≤r.1∧r.1≤n∧rO n r.2∧Ql lt r.2 r.1:=by
    have hd:Ym lt p 2:=fun i j l o=>by
     have f:i=0:=aS 0xe462b3015a30541002 l o;have x:j=1:=aS 0x7462b3855a30541002 l o;subst f x;rcases u with z|z
     ·exact dD (aS 0x244818986325a0073ba4b09d213ccc7001 a b z)
     ·exact z
    obtain ⟨m,y,A,B,C⟩:=aB2 g st (n-2) 2 (aS 0x118a746380) (aS 0xd11248c52140346749613a42799b46001 a b) hd;obtain ⟨r,f,r1⟩:=aB0 g st (by exact aS 0x18c5203a41a301 A) (by exact aS 0x644264c62908928068c2749613a42799b46002 a b B) C;exact ⟨r,y.bind (by simpa using f),r1⟩
   obtain ⟨r,f,r1⟩:=this;refine ⟨r,e.bind ?_,r1⟩;rw [if_neg (by simpa using b),if_neg d];exact f
theorem Ĵ(g:rO n p)(st:pM lt n)(a:k<n)(A:Ql lt p k):∀(f l r:Nat),l≤r→r≤k→r-l≤f→(∀i,i<l→lt (p.getD i 0) (p.getD k 0)=true)→(∀i,r≤i→i<k→lt (p.getD k 0) (p.getD i 0)=true)→
  ∃m,Ev lt n (kas_place p k f l r) m∧m≤k∧(∀i,i<m→lt (p.getD i 0) (p.getD k 0)=true)∧(∀i,m≤i→i<k→lt (p.getD k 0) (p.getD i 0)=true):=by
 intro D
 induction D with
 |zero=>intro l r v d o s t;exact ⟨l,.ret l,aS Pf v d,s,fun i hi=>t i (aS 0x11ae3148c291892604cc1003 o hi)⟩
 |succ f B=>
  intro l r v d o s t;unfold kas_place;by_cases e:l ≥ r
  ·rw [if_pos e];exact ⟨l,.ret l,aS Pf v d,s,fun i hi=>t i (aS Pf e hi)⟩
  ·rw [if_neg e];have F:=nA e;have a1:l≤(l+r)/2:=by lia
   have h:(l+r)/2<r:=by lia
   revert a1 h;generalize (l+r)/2=x;intro a1 h;have u:=cG h d;have b:=Ja u a;have ne:=jU u
   cases c:lt (p.getD k 0) (p.getD x 0)with
   |true=>
    obtain ⟨m,y,z⟩:=B l x a1 (kR u) (jF (cG (Dw a1 h) o)) s (fun i hi j=>by
     rcases aDc hi with rfl|hi
     ·exact c
     ·exact st.tr _ _ _ (g.bd a) (g.bd b) (g.bd (Ja j a)) c (A _ _ hi j))
    exact ⟨m,.ask (g.bd a) (g.bd b) (g.ne a b ne) (by rw [c];exact y),z⟩
   |false=>
    have C:=st.tot _ _ (g.bd a) (g.bd b) (g.ne a b ne) c;obtain ⟨m,y,z⟩:=B (x+1) r h d (jF (cG (mO F (Nat.lt_succ_of_le a1)) o)) (fun i hi=>by
     rcases aDc (jF hi)with rfl|hi
     ·exact C
     ·exact st.tr _ _ _ (g.bd (Ja hi b)) (g.bd b) (g.bd a) (A _ _ hi u) C) t
    exact ⟨m,.ask (g.bd a) (g.bd b) (g.ne a b ne) (by rw [c];exact y),z⟩
theorem aHt(st:pM lt n):∀(f k:Nat)(p:Array Nat),rO n p→k+f=n→Ql lt p k→∃q,Ev lt n (kas_bin f p k) q∧rO n q∧Ql lt q n:=by
 intro o
 induction o with
 |zero=>intro k p g h b;exact ⟨p,.ret p,g,by rw [←h];exact b⟩
 |succ f r=>
  intro k p g h b;have c:k<n:=aS 0xc62a10162420e1003 h;obtain ⟨l,e,l1,l2,s⟩:=Ĵ g st c b k 0 k (cJ _) (bG _) (aS 0x418c52104cc6001) (fun i hi=>by exact dD (aS 0x118c946001 hi)) (fun i t u=>by exact dD (aS 0x18c64a00521002 t u));have v:rO n (bubble p k (k-l)):=g.of_perm (bubble_perm _ _ _);have d:∀i,(bubble p k (k-l)).getD i 0=if i=l then p.getD k 0 else if l<i∧i≤k then p.getD (i-1) 0 else p.getD i 0:=fun i=>by
   rw [Dd,getElem?_bubble (by rw [g.size];exact c) _ (by exact aS 0x198c52104cc1002),Nat.sub_sub_self l1];split
   ·rw [Dd]
   ·split<;>rw [Dd]
  have x:Ql lt (bubble p k (k-l)) (k+1):=fun i j a m=>by
   rw [d i,d j];by_cases c1:j=l
   ·subst c1;rw [if_pos rfl,if_neg (by exact aS ó a),if_neg (by exact aS 0x618ba4c4880a00541003 a)];exact l2 i (aS W9 a)
   ·rw [if_neg c1];by_cases c2:i=l
    ·subst c2;rw [if_pos rfl,if_pos ⟨aS W9 a,aS 0x318a420520e1002 m⟩];exact s _ (aS aGm a) (aS 0x4858c543029071854114cc7003 a m)
    ·rw [if_neg c2];split<;>split<;>exact b _ _ (by lia) (by lia)
  obtain ⟨q,y,z⟩:=r (k+1) _ v (aS 0x7462b1202838162420e1003 h) x;exact ⟨q,e.bind y,z⟩
theorem aB1(st:pM lt n)(c:1≤n):∃q,Ev lt n (kas_sort n) q∧rO n q∧Ql lt q n:=by
 have d:rO n (aY (wP n)):=⟨by simp,by simp⟩;obtain ⟨r,e,r1,f,a,b⟩:=ĵ d st c;unfold kas_sort;by_cases h:r.1<n
 ·obtain ⟨q,g,i⟩:=aHt st (n-max r.1 1) (max r.1 1) r.2 a (aS 0x4e220a124e220a123158d000a862998029e8c7002 h) (by rw [aIx r1];exact b);exact ⟨q,e.bind (by rw [if_pos h];exact g),i⟩
 ·exact ⟨r.2,e.bind (by rw [if_neg h];exact .ret _),a,by rw [show n=r.1 by exact aS 0xe8c5600ba4a08121002 f h];exact b⟩
end
structure V7(A:kS)(s:dE)(a:dF)(vs:fZ)(κ:SortKind)(lt:Nat→Nat→Bool):Prop where
 kind:∀(H:dT) tk (Q:SortKind→tU),(∀b o,b≠a→s.heap.get? b=some o→H.get? b=some o)→(∀ap,Q κ {s with heap:=H,toks:=ap})→bT (model prog w) A (keyKind' vs.toArray) Q (fun _ _=>False) {s with heap:=H,toks:=tk}
 cmp:∀(H:dT) tk i j (C:Bool→tU),(∀b o,b≠a→s.heap.get? b=some o→H.get? b=some o)→i<vs.length→j<vs.length→i≠j→(∀ap,C (lt i j) {s with heap:=H,toks:=ap})→bT (model prog w) A (keyLt' κ (vs.getD i jA) (vs.getD j jA)) C (fun _ _=>False) {s with heap:=H,toks:=tk}
theorem Wd:∀(vs:fZ),vs.length<2→(vs.toArray.zip vs.toArray).map (·.2)=aY ((aY (wP vs.length)).toList.map fun i=>vs.getD i jA)
 |[],_=>by simp
 |[v],_=>by simp
 |_::_::_,h=>by simp only [cQ]at h;exact dD (aS 0x23192b4641d07001 h)
theorem C0{E:rX}{s:dE}{lt:Nat→Nat→Bool}{P:aC9→tU}(l:s.heap.get? a=some (seqObj "list" vs.toArray n))(v:vs.length<64)(st:pM lt vs.length)(c:2≤vs.length→V7 A s a vs κ lt)
  (h:∀(p:Array Nat) h' d,rO vs.length p→Ql lt p vs.length→(∀b o,b≠a→s.heap.get? b=some o→h'.get? b=some o)→(∃m,h'.get? a=some (seqObj "list" (aY (p.toList.map fun i=>vs.getD i jA)) m))→P (.done (.ret .none)) {s with heap:=h',toks:=d}):
  bT (model prog w) A (Ob.«list.sort» ⟨[.ref a],[]⟩) P E s:=by
 refine nn fun D=>?_;obtain ⟨y,F⟩:∃y,(s.heap.update a (iI fun _=>(#[]:Array bM))).get? a=some (seqObj "list" #[] y):=⟨_,get?_update_seq l fun _=> #[]⟩;refine D ?_;generalize G:((s.heap.update a (iI fun _=>(#[]:Array bM))).push (seqObj "tuple" vs.toArray 0)).push (seqObj "list" #[] 0)=H;have r:H.get? a=some (seqObj "list" #[] y):=by rw [←G];exact cF _ (cF _ F)
 have keep:∀b o,b≠a→s.heap.get? b=some o→H.get? b=some o:=fun b o t e=>by refine G▸?_;exact cF _ (cF _ ((gF _ _ (qZ t)).trans e))
 have fin:∀(p:Array Nat) d,rO vs.length p→Ql lt p vs.length→P (.done (.ret .none)) {s with heap:=H.update a (iI fun _=>aY (p.toList.map fun i=>vs.getD i jA)),toks:=d}:=fun p d g X=>
  h p _ d g X (fun b o t e=>(gF _ _ (qZ t)).trans (keep b o t e)) ⟨_,get?_update_seq r fun _=>aY (p.toList.map fun i=>vs.getD i jA)⟩
 rw [list_sort_plain];refine aH (listItems_at l rfl ?_);refine aH (listUpdate_at l rfl ?_ (by refine lY▸?_;rw [mN];exact aS aAx v) (cJ _));refine aH (seqEpoch_at F rfl ?_);refine aH (wpAny_newTuple ?_ (by refine (?_:vs.length≤_);rw [mN];exact aS aAx v));refine aH (wpAny_newList ?_ (cJ _));refine bY ?_;have Y:((s.heap.update a (iI fun _=>(#[]:Array bM))).push {cls:=.type "tuple",data:=.seq vs.toArray.toList.toArray}).push {cls:=.type "list",data:=.seq ([]:fZ).toArray}=H:=by rw [←G]
 refine (?_:bT (model prog w) A _ P E {s with heap:=((s.heap.update a (iI fun _=>(#[]:Array bM))).push {cls:=.type "tuple",data:=.seq vs.toArray.toList.toArray}).push {cls:=.type "list",data:=.seq ([]:fZ).toArray}});refine Y▸?_;dsimp only;by_cases k:vs.toArray.size<2
 ·rw [if_pos k,if_pos k];refine aH (aW ?_);refine aH (aW ?_);dsimp only;have z:vs.length<2:=by exact k
  have Z:rO vs.length (aY (wP vs.length)):=⟨by simp,by rfl⟩;have I:=Wd vs z;refine aH (seqEpoch_at r rfl ?_);refine aH (listUpdate_at r rfl ?_ (cJ _) (by simp only [I,lY,bC,yP,mN];exact aS 0x6314a0f8c6318c630702b46001 z));simp only [bne_self_eq_false,lF];refine aW ?_;have:=fin _ s.toks Z (fun i j J L=>by exact dD (aS 0x38c64a009420ab46003 z J L));replace this:=I▸this;exact this
 ·rw [if_neg k];refine (if_neg k)▸?_;have N:2≤vs.length:=by simpa using k
  have cc:=c N;try clear l;try clear c;try clear h;try clear b;try clear o;try clear t;try clear g;try clear X;try clear ref;try clear a;try clear y;try clear F;try clear get;try clear _update_seq;try clear v9;try clear yg;try clear map;try clear aa9;try clear bM;try clear (dQ l);try clear Y;try clear z;try clear Z;try clear I
  refine aH (bL (cc.kind H s.toks (fun u f=>u=κ∧∃d,f={s with heap:=H,toks:=d}) keep fun d=>⟨rfl,d,rfl⟩) ?_ fun _ _ x=>x.elim);rintro u f ⟨rfl,d,rfl⟩;refine nn fun D=>?_;obtain ⟨q,eq,gq,sq⟩:=aB1 st (aS 0x18c5203a41a301 N);refine D ?_;refine aH (bL (kat_run (Q:=fun B f=>∃p:Array Nat,arrOf B=p.map (kas_item (vs.toArray.zip vs.toArray))∧failedOf B=none∧p=q∧∃d,f={s with heap:=H,toks:=d})
   rfl N v (fun p' B f a1 a2 a3 a4=>⟨p',a2,a3,a4⟩)
   (eq.wp (fun i j C f hi L J O hC=>?_) (fun f O=>⟨rfl,O⟩) _ ⟨d,rfl⟩)) ?_ fun _ _ e=>e)
  ·obtain ⟨R,rfl⟩:=O;exact cc.cmp H R i j C keep hi L J fun T=>hC _ ⟨T,rfl⟩
  ·rintro ⟨⟨⟩,B⟩ f ⟨p,W,hf,rfl,R,rfl⟩;dsimp only;rw [(kat_snds rfl W)];refine aH (seqEpoch_at r rfl ?_);refine aH (listUpdate_at r rfl ?_ (cJ _) (by simp only [lY,bC,vF,gq.size,mN];exact aS 0xc62941f18c6318c60e056307001 v));rw [hf];simp only [bne_self_eq_false,lF];exact aW (fin p R gq sq)
noncomputable abbrev K3:=Int×Int×Int
noncomputable def Cb(x y:K3):Bool:=decide (x.1<y.1)|| (decide (x.1=y.1)&& (decide (x.2.1<y.2.1)|| (decide (x.2.1=y.2.1)&&decide (x.2.2<y.2.2))))
theorem A2:Cb x y=true↔x.1<y.1∨(x.1=y.1∧(x.2.1<y.2.1∨(x.2.1=y.2.1∧x.2.2<y.2.2))):=by simp [Cb]
theorem Eh(a:Cb x y=true)(b:Cb y z=true):Cb x z=true:=by
 rw [A2]at *;rcases a with a|⟨c,a⟩<;>rcases b with b|⟨d,b⟩
 ·exact .inl (Yy a b)
 ·exact .inl (d▸a)
 ·exact .inl (by rw [c];exact b)
 ·refine .inr ⟨c.trans d,?_⟩;rcases a with a|⟨e,a⟩<;>rcases b with b|⟨f,b⟩
  ·exact .inl (Yy a b)
  ·exact .inl (f▸a)
  ·exact .inl (by rw [e];exact b)
  ·exact .inr ⟨e.trans f,Yy a b⟩
theorem Ux(h:x≠y)(g:Cb x y=false):Cb y x=true:=by
 obtain ⟨a,b,c⟩:=x;obtain ⟨d,b',e⟩:=y;rw [A2];have f:¬Cb (a,b,c) (d,b',e)=true:=by rw [g];simp
 rw [A2]at f;rcases Jc d a with q|q|q
 ·exact .inl q
 ·refine .inr ⟨q,?_⟩;rcases Jc b' b with r|r|r
  ·exact .inl r
  ·refine .inr ⟨r,?_⟩;rcases Jc e c with u|u|u
   ·exact u
   ·exact absurd (show (a,b,c)=(d,b',e) by rw [show d=a from q,show b'=b from r,show e=c from u]) h
   ·exact absurd (.inr ⟨Eq.symm q,.inr ⟨Eq.symm r,u⟩⟩) f
  ·exact absurd (.inr ⟨Eq.symm q,.inl r⟩) f
 ·exact absurd (.inl q) f
theorem aAo:Cb x x=false:=by
 cases h:Cb x x with
 |false=>rfl
 |true=>rw [A2]at h;exact dD (aS 0x4c6326b1acb090715c21b05070dc00b0107030 h)
noncomputable def Sk(x:K3×V):List (K3×V)→List (K3×V)
 |[]=>[x]
 |y::r=>if Cb x.1 y.1=true then x::y::r else y::Sk x r
theorem Mn:Sk x []=([x]):=rfl
theorem Mm:Sk x (y::r)=(if Cb x.1 y.1=true then x::y::r else y::Sk x r):=rfl
def isK:List (K3×V)→List (K3×V)
 |[]=>[]
 |x::r=>Sk x (isK r)
theorem Kw(x:K3×V):∀l,(Sk x l).Perm (x::l):=by
 intro a
 induction a with
 |nil=>exact .refl _
 |cons y r b=>
  simp only [Mn,Mm];split
  ·exact .refl _
  ·exact ((b).cons y).trans (.swap _ _ _)
theorem C3:∀l,(isK l).Perm l:=by
 intro a
 induction a with
 |nil=>exact .refl _
 |cons x r b=>exact (Kw x _).trans ((b).cons x)
def SK:List (K3×V)→Prop:=aMp fun x y=>Cb x.1 y.1=true
theorem Pl(x:K3×V):∀l,SK l→(∀y∈l,x.1≠y.1)→SK (Sk x l):=by
 intro c
 induction c with
 |nil=>intro _ _;simp [Mn,Mm,SK]
 |cons y r d=>
  intro h b;simp only [Mn,Mm];have h':=gE.mp h;split
  ·rename_i q;refine gE.mpr ⟨fun z a=>?_,h⟩;rcases aR.mp a with rfl|a
   ·exact q
   ·exact Eh q (h'.1 z a)
  ·rename_i q;refine gE.mpr ⟨fun z a=>?_,d h'.2 fun z a=>b z (bB _ a)⟩;rcases aR.mp ((Kw x r).mem_iff.mp a)with rfl|a
   ·exact Ux (b y aU) (by simpa using q)
   ·exact h'.1 z a
theorem By:∀l,(l.map (·.1)).Nodup→SK (isK l):=by
 intro a
 induction a with
 |nil=>intro _;exact Oh
 |cons x r b=>intro h;simp only [cC,lV]at h;refine Pl x _ (b h.2) fun y hy e=>h.1 ?_;rw [e];exact sH.mpr ⟨y,(C3 r).mem_iff.mp hy,rfl⟩
theorem D7:∀{l l':List (K3×V)},SK l→SK l'→l.Perm l'→l=l':=by
 intro c
 induction c with
 |nil=>intro l';intro _;intro _;intro p;exact (aMo.mp p.symm).symm
 |cons x r d=>
  intro f
  cases f with
  |nil=>intro _;intro _;intro p;have:=aMo.mp p;cases this
  |cons y g=>
   intro h;intro h';intro p;have a:=gE.mp h;have b:=gE.mp h';have e:x=y:=by
    rcases aR.mp (p.mem_iff.mp aU)with q|q
    ·exact q
    ·rcases aR.mp (p.mem_iff.mpr (aU))with z|z
     ·exact z.symm
     ·have:=Eh (a.1 y z) (b.1 x q);rw [aAo]at this;cases this
   subst e;rw [d a.2 b.2 (List.perm_cons x |>.mp p)]
def Pi(k:V→Option K3):bV→Option (List (K3×V))
 |[]=>some []
 |v::r=>ob (k v) fun x=>ob (Pi k r) fun l=>some ((x,v)::l)
theorem U5{k:V→Option K3}:Pi k (v::r)=(ob (k v) fun x=>ob (Pi k r) fun l=>some ((x,v)::l)):=rfl
theorem Ph{k:V→Option K3}:∀{l:bV}{c:List (K3×V)},Pi k l=some c→c.map (·.2)=l∧∀x∈c,k x.2=some x.1:=by
 intro l
 induction l with
 |nil=>intro c e;refine nW e ?_;rintro rfl;exact ⟨rfl,fun _ h=>by cases h⟩
 |cons v r d=>
  intro c e;obtain ⟨x,f,e⟩:=dS e;obtain ⟨l,g,e⟩:=dS e;refine nW e ?_;rintro rfl;obtain ⟨a,b⟩:=d g;exact ⟨by simp [a],fun y hy=>by
   rcases aR.mp hy with rfl|hy
   ·exact f
   ·exact b y hy⟩
noncomputable def î(kl:List (K3×V))(i j:Nat):Bool:=Cb ((kl.map (·.1)).getD i (0,0,0)) ((kl.map (·.1)).getD j (0,0,0))
theorem Fb(h:(c.map (·.1)).Nodup):pM (î c) c.length where
 tr:=fun i j k _ _ _ a b=>Eh a b
 tot:=fun i j hi d f e=>by
  refine Ux (fun q=>f ?_) e;have l1:i<(c.map (·.1)).length:=by simpa using hi
  have l2:j<(c.map (·.1)).length:=by simpa using d
  refine (oX l1 h).mp ?_;rw [aP,aP,bJ l1,bJ l2]at q;rw [bJ l1,bJ l2];simpa using q
theorem Hg{a:Type}(d:a):∀(l:List a),(wP l.length).map (fun i=>l.getD i d)=l:=fun l=>by
 apply List.ext_getElem
 ·simp
 ·intro i b c;simp at b;simp [b]
theorem Ox(h:(a.map (·.1)).Nodup)(g:rO a.length p)(s:Ql (î a) p a.length):p.toList.map (fun i=>(a.map (·.2)).getD i .none)=(isK a).map (·.2):=by
 have e:p.toList.map (fun i=>a.getD i ((0,0,0),.none))=isK a:=by
  refine D7 ?_ (By a h) (((g.perm.map _).trans (by rw [Hg])).trans (C3 a).symm);unfold SK;rw [List.pairwise_iff_getElem];intro i j hi b f;simp only [bC,vF,g.size]at hi b;have:=s i j f b;simp only [List.getElem_map];have k:i<p.size:=by rw [g.size];exact hi
  have l:j<p.size:=by rw [g.size];exact b
  have c:=g.bd hi;have d:=g.bd b;simp only [î,ŧ,k,l,dif_pos]at this c d;simp only [Array.getElem_toList];have m:p[i]<a.length:=by simpa using c
  have n:p[j]<a.length:=by simpa using d
  simpa [aP,m,n]using this
 rw [←e,wE];refine List.map_congr_left fun i hi=>?_;have:i<a.length:=by simpa using (g.perm.mem_iff.mp hi)
 simp [aP,this]
inductive F2{α β:Type}(R:α→β→Prop):List α→List β→Prop where
 |nil:F2 R [] []
 |cons {x:α} {y:β} {l:List α} {m:List β} (h:R x y) (r:F2 R l m):F2 R (x::l) (y::m)
def aA3:V→Option K3:=fun v=>ob (J6 v) (aI3 fun a b c _=>some (a,b,c))
inductive Tg(h:dT)(v:bM)(k:K3):Prop
 |mk (x:dF) (ts:fZ) (n t1 t2 t3:Nat) (e:v=.ref x) (p:IsT h x (aY (.int k.1 t1::.int k.2.1 t2::.int k.2.2 t3::ts)) n)
theorem Ż{Y:iB}(e:aA3 v=some k)(r:gG D Y h v u):Tg h u k∧∃x,u=.ref x∧¬Y x:=by revert r;refine Un e ?_;clear e;intro l e;refine I0 e ?_;clear e;intro a b c t e r;refine nW e ?_;rintro rfl;refine nn fun d=>?_;obtain ⟨x,xs,rfl,nx,⟨n,hx⟩,_,_,rfl,⟨f,rfl⟩,_,_,rfl,⟨g,rfl⟩,_,i,rfl,⟨j,rfl⟩,_⟩:=r;refine d ?_;exact ⟨⟨x,i,n,f,g,j,rfl,hx⟩,x,rfl,nx⟩
section
variable{A:kS}{s:dE}
theorem aCk{C:Bool→tU}{E:rX}(x:Tg s.heap u k)(y:Tg s.heap v g)(j:k≠g)(q:∀l,C (Cb k g) {s with toks:=l}):bT (model prog w) A (keyLt' (tuples' true) u v) C E s:=by
 obtain ⟨x,B,n,D,F,G,rfl,hx⟩:=x;obtain ⟨y,m,H,o,p,r,rfl,hy⟩:=y;refine nn fun t=>?_;obtain ⟨a,b,c⟩:=k;obtain ⟨f,b',e⟩:=g;refine t ?_;have d:=q s.toks;refine kat_lt hx rfl hy rfl ?_;refine kat_cons (kA ?_);by_cases h:a=f
 ·subst h;rw [show (a==a)=true by simp];refine kat_yes (kat_cons (kA ?_));by_cases i:b=b'
  ·subst i;rw [show (b==b)=true by simp];refine kat_yes (kat_cons (kA ?_));rw [show (c==e)=false by simpa using (fun z=>j (by rw [z]))];refine kat_no ?_;have:Cb (a,b,c) (a,b,e)=decide (c<e):=by simp [Cb]
   simp only [this]at d;exact kat_one _ _ (aC8 d)
  ·simp only [show (b==b')=false by simpa using i];refine kat_no ?_;have:Cb (a,b,c) (a,b',e)=decide (b<b'):=by simp [Cb,i]
   simp only [this]at d;exact kat_one _ _ (aC8 d)
 ·simp only [show (a==f)=false by simpa using h];refine kat_no ?_;have:Cb (a,b,c) (f,b',e)=decide (a<f):=by simp [Cb,h]
  simp only [this]at d;exact oneLt_int d
end
theorem Av(c:∀b o,b≠a→h.get? b=some o→H.get? b=some o)(x:Tg h v k)(d:v≠.ref a):Tg H v k:=by obtain ⟨x,e,n,f,g,i,rfl,hx⟩:=x;exact ⟨x,e,n,f,g,i,rfl,c x _ (fun q=>d (by exact q▸rfl)) hx⟩
theorem Si(x:F2 (Tg h) vs ks):∃d,KatTups h vs d∧d.length=vs.length∧∀f∈d,∃i t,f=Cd i t:=by
 induction x with
 |nil=>exact ⟨[],trivial,rfl,fun _ q=>by cases q⟩
 |cons h _ e=>
  obtain ⟨x,j,n,k,l,m,rfl,hx⟩:=h;refine nn fun g=>?_;obtain ⟨d,a,b,c⟩:=e;refine g ?_;exact ⟨_::d,KatTups.cons hx rfl rfl rfl a,congrArg Nat.succ b,fun f q=>by
   rcases aR.mp q with rfl|q
   ·exact ⟨_,_,rfl⟩
   ·exact c f q⟩
theorem Ep{a b:Type}{R:a→b→Prop}{d:a}{e:b}{l:List a}{m:List b}(x:F2 R l m):∀{i:Nat},i<l.length→R (l.getD i d) (m.getD i e):=by
 induction x with
 |nil=>exact fun h=>absurd h (kI _)
 |cons h _ c=>
  intro i hi
  cases i with
  |zero=>exact h
  |succ i=>exact c (Nat.lt_of_succ_lt_succ hi)
theorem Ng{a b:Type}{R:a→b→Prop}{l:List a}{m:List b}(x:F2 R l m):l.length=m.length:=by
 induction x with
 |nil=>rfl
 |cons _ _ c=>exact congrArg Nat.succ c
theorem S4{b c:Type}{R R':b→c→Prop}{l:List b}{m:List c}(h:∀x∈l,∀y,R x y→R' x y)(x:F2 R l m):F2 R' l m:=by
 induction x with
 |nil=>exact .nil
 |cons a _ d=>exact .cons (h _ aU _ a) (d fun x hx=>h x (bB _ hx))
theorem Ă{Y:iB}{g:V→Option K3}{P:bM→K3→Prop}(i:∀{v:V}{u:bM}{k:K3},g v=some k→gG D Y h v u→P u k∧∃x,u=.ref x∧¬Y x):∀{l:bV}{f:List (K3×V)}{vs:fZ},Pi g l=some f→bO D Y h l vs→F2 P vs (f.map (·.1))∧∀v∈vs,∃x,v=.ref x∧¬Y x:=by
 intro l
 induction l with
 |nil=>intro f vs e r;refine nW e ?_;rintro rfl;cases r;exact ⟨.nil,fun _ q=>by cases q⟩
 |cons d l j=>
  intro f vs e r;replace e:=dS e;obtain ⟨x,m,e⟩:=e;replace e:=dS e;obtain ⟨l',n,e⟩:=e;refine nW e ?_;rintro rfl;obtain ⟨u,us,rfl,r1,o⟩:=r;obtain ⟨a,b⟩:=j n o;obtain ⟨c,z⟩:=i m r1;exact ⟨.cons c a,fun v q=>by
   rcases aR.mp q with rfl|q
   ·exact z
   ·exact b v q⟩
theorem Yd{s:dE}(k:2≤vs.length)(f:F2 (Tg s.heap) vs (b.map (·.1)))(d:∀v∈vs,v≠.ref a)(l:(b.map (·.1)).Nodup):V7 A s a vs (tuples' true) (î b)where
 kind:=fun H tk Q c q=>by
  refine nn fun m=>?_;obtain ⟨D,n,o,p⟩:=Si (S4 (fun x hx y t=>Av c t (d x hx)) f);refine m ?_;refine kat_kind (T:=.type "int") n (aS 0x3462a099600a41a302 k o) (fun v r=>?_) (by decide) ?_
  ·obtain ⟨i,t,rfl⟩:=p v r;exact kQ rfl
  ·exact q tk
 cmp:=fun H tk i j C c hi e u q=>by
  have g:∀i,i<vs.length→vs.getD i jA∈vs:=fun i hi=>by simp [aP,hi]
  refine aCk (Av c (Ep f hi) (d _ (g i hi))) (Av c (Ep f e) (d _ (g j e))) (fun z=>u ?_) fun B=>q B;have h:=Ng f;have l1:i<(b.map (·.1)).length:=aS ö hi h;have l2:j<(b.map (·.1)).length:=aS ö e h;refine (oX l1 l).mp ?_;simp only [aP,bJ l1,bJ l2]at z;simp only [bJ l1,bJ l2];simpa using z
section
set_option backward.match.sparseCases false
def Gz(k:V→Option K3)(l:bV):Option bV:=ob (Pi k l) fun kl=>if (kl.map (·.1)).Nodup∧kl.length<64 then some ((isK kl).map (·.2))else aF
def Vr:pV:=fun us σ=>aV (fun a=>aN (ob (Iy σ a) fun l=>ob (Gz aA3 l) fun l'=>some (aAj (.list l') σ))) us
section
variable{n:Nat}{F:Fx}
theorem Wq{E:rX}{s:dE}{lt:Nat→Nat→Bool}{Q:rX}(r:s.heap.IsList l vs.toArray)(d:vs.length<64)(st:pM lt vs.length)
  (c:∀f,(∀b o,s.heap.get? b=some o→f.get? b=some o)→2≤vs.length→V7 A.in1.in1 {s with heap:=f} (s.heap.objs.size+1) vs κ lt)
  (h:∀(p:Array Nat) h' e,rO vs.length p→Ql lt p vs.length→(∀b o,s.heap.get? b=some o→h'.get? b=some o)→(∃m,h'.get? (s.heap.objs.size+1)=some (seqObj "list" (aY (p.toList.map fun i=>vs.getD i jA)) m))→Q (.ref (s.heap.objs.size+1)) {s with heap:=h',toks:=e}):
  bT (model prog w) A (call (.builtin "sorted") [.ref l]) Q E s:=by
 refine Oi kind_sorted plain_sorted entry_sorted (args_sorted1 _) ?_;unfold Ob.«sorted»;refine aH (aW ?_);refine aH (collect_list r ?_ (by rw [mN];exact aS aAx d));refine aH (wpAny_newList ?_ (by rw [mN];exact aS aAx d));have j:((s.heap.push (seqObj "list" #[] 0)).update s.heap.objs.size (iI (·++vs.toArray))).objs.size=s.heap.objs.size+1:=by simp only [Heap.size_update,size_push']
 generalize k:((s.heap.push (seqObj "list" #[] 0)).update s.heap.objs.size (iI (·++vs.toArray))).push (seqObj "list" vs.toArray 0)=H;have a:H.get? (s.heap.objs.size+1)=some (seqObj "list" vs.toArray 0):=by simp only [←k,←j];exact cA _ rfl
 have keep:∀b o,s.heap.get? b=some o→H.get? b=some o:=fun b o q=>by rw [←k];exact cF _ ((gF _ _ (qZ (fM (dQ q)))).trans (cF _ q))
 refine (?_:bT _ _ _ _ _ {s with heap:=H});refine j▸?_;refine aH (bY (lO slot_list_sort ⟨_,a,rfl⟩ entry_list_sort (C0 (κ:=κ) a d st (c H keep) fun p h' e g t u v=>⟨_,rfl,?_⟩) (args_list_sort _)));exact aW ⟨_,rfl,h p h' e g t (fun b o q=>u b o (fun z=>absurd (z▸dQ q) (kJ.mpr (jG _))) (keep b o q)) v⟩
theorem bO.pick{Y:iB}(r:bO D Y h l vs):∀{p:nH},(∀i∈p,i<l.length)→bO D Y h (p.map fun i=>l.getD i .none) (p.map fun i=>vs.getD i jA)
 |[],_=>bO.nil
 |i::p,a=>by
  refine nn fun b=>?_;obtain ⟨x,c,e⟩:=r.get (i:=i) (d:=l.getD i .none) (by simp [aP,(a i aU)]);refine b ?_;have:vs.getD i jA=x:=by simp [aP,c]
  simp only [cC];simp only [this];exact .cons e (r.pick fun j f=>a j (bB _ f))
theorem Rw:Dr n F (.builtin "sorted") Vr:=fun us σ r σ' e=>by
 refine nQ e fun v _ e=>?_;refine oM e fun e=>?_
 ·refine nn fun s=>?_;obtain ⟨l,P,e⟩:=dS e;obtain ⟨l',f,e⟩:=dS e;replace f:=dS f;obtain ⟨G,H,f⟩:=f;refine s ?_;split at f
  ·rename_i Q;refine nn fun s=>?_;obtain ⟨z,R⟩:=Q;refine s ?_;refine nW f ?_;rintro rfl;intro A X D h tk ws ok m r;simp only [nU,nR]at r;obtain ⟨u,_,rfl,r1,rfl⟩:=r;obtain ⟨a,vs,k,rfl,hx,I⟩:=Jt m P r1;obtain ⟨B,ca⟩:=Ă Ż H I;have C:vs.length=G.length:=by simp only [Ng B];simp
   have J:=(Ph H).1.symm;have L:∀v∈vs,v≠.ref (h.objs.size+1):=fun v T q=>by subst q;obtain ⟨i,hi,W⟩:=kK T;obtain ⟨x,ts,nn,t1,t2,t3,ex,Y⟩:=Ep (d:=jA) (e:=(0,0,0)) B hi;replace ex:=(aP)▸ex;replace ex:=(bJ hi)▸ex;replace ex:=W▸ex;cases ex;exact absurd (dQ Y) (kJ.mpr (jG _))
   refine Wq (κ:=tuples' true) hx.isList (aS aEb R C) (by simp only [C];exact Fb z) (fun h1 Z h2=>?_) fun p h' ap g N hk j=>?_
   ·exact Yd h2 (S4 (fun x hx y t=>Av (fun b o _ e=>Z b o e) t (L x hx)) B) L z
   ·rw [C]at g N;have O:=I.pick fun i hi=>by have:=g.perm.mem_iff.mp hi;refine J▸?_;simpa using this
    rw [J,(Ox z g N)]at O;obtain ⟨mm,j⟩:=j;have pd:h.get? (h.objs.size+1)=aF:=by
     cases q:h.get? (h.objs.size+1)with
     |none=>rfl
     |some o=>exact absurd (dQ q) (kJ.mpr (jG _))
    obtain ⟨m',cq⟩:=m.cell (c:=.list ((isK G).map (·.2))) hk pd ⟨_,j⟩ (fun D' Y' hr fg=>⟨_,⟨mm,j⟩,fg _ _ O⟩);exact ⟨h',ap,_,_,_,rfl,cq,m',by exact ⟨_,rfl,by simp [fF,fE]⟩,.of e⟩
  ·exact hU f
end
end
section
open PySem PySem.W PyProof.Rows PySem.Calls
section
variable{M:Ű}{A:kS}{α:Type}{Q:α→tU}{E:rX}{s:dE}{x y:E1 α}
theorem Qx(h:bT M A x Q E s):bT M A (if true=true then x else y) Q E s:=by rw [if_pos rfl];exact h
theorem Q0(h:bT M A y Q E s):bT M A (if false=true then x else y) Q E s:=by rw [if_neg lE];exact h
theorem Qy(e:c=true)(h:bT M A x Q E s):bT M A (if c=true then x else y) Q E s:=by rw [if_pos e];exact h
theorem Qz(e:c=false)(h:bT M A y Q E s):bT M A (if c=true then x else y) Q E s:=by rw [if_neg (by rw [e];exact lE)];exact h
theorem Tt(h:bT M A y Q E s):bT M A (if (!true)=true then x else y) Q E s:=Q0 h
theorem Tu(h:bT M A x Q E s):bT M A (if (!false)=true then x else y) Q E s:=Qx h
theorem Tv{b:Type}[BEq b][LawfulBEq b]{a:b}(h:bT M A x Q E s):bT M A (if (a==a)=true then x else y) Q E s:=by refine (if_pos (beq_self_eq_true a))▸?_;exact h
theorem Ts{b:Type}[BEq b][LawfulBEq b]{a:b}(h:bT M A y Q E s):bT M A (if (a != a)=true then x else y) Q E s:=by rw [if_neg (by rw [bne_self_eq_false];exact lE)];exact h
end
structure yW(K:As)(pn fn pm fm:dF):Prop where
 obj:∃oc od cd sl,K.lookup rJ=some ⟨oc,od,.cls cd,sl⟩∧cd.abstract=false∧cd.hasDel=false∧cd.mro=[.ref rJ,.type "tuple",.type "object"]∧cd.bases=[.type "tuple"]∧sl.toList[4]?=some (some .none)
 call:specialIn K (.ref rJ) "__call__"=some (some (.builtin "type.__call__"))
 typ:instIn K (.ref rJ) (.type "type")=some true
 init:findIn K (.ref rJ) "__init__"=some (some (.builtin "object.__init__"))
 reads:readsIn K rJ (.type "type")=true
 new:findCls K (.ref rJ) (.type "type") "__new__"=some (.get (.builtin "staticmethod.__get__") (.ref pn) .none (.ref rJ))
 newR:∃rest,recIn K pn "staticmethod"=some (.ref fn::rest)
 tnew:findCls K (.type "tuple") (.type "type") "__new__"=some (.val (.builtin "tuple.__new__"))
 make:findCls K (.ref rJ) (.type "type") "_make"=some (.get (.builtin "classmethod.__get__") (.ref pm) .none (.ref rJ))
 makeR:∃rest,recIn K pm "classmethod"=some (.ref fm::rest)
 iter:findIn K (.ref rJ) "__iter__"=some (some (.builtin "tuple.__iter__"))
 lt:findIn K (.ref rJ) "__lt__"=some (some (.builtin "tuple.__lt__"))
section
variable{A:kS}{E:rX}{s:dE}{K:As}{pn fn pm fm:dF}
theorem Gb{M:Ű}{h:dT}(X:K.In h)(c:yW K pn fn pm fm):rQ M h (aOy (.ref rJ)) none:=by refine nn fun d=>?_;obtain ⟨oc,od,a,g,b,i,j,e,l,f⟩:=c.obj;refine d ?_;intro A Q E s k q;refine aH (((looks_clsIn X (by unfold clsIn;exact b▸rfl:clsIn K rJ=some a)).andThen .now:rQ M h (mroOf (.ref rJ)) a.mro) A _ E s k ?_);refine e▸?_;rw [qX];refine aH (aH (aH (aH (wpAny_loadPart (k _ _ (X _ _ b)) (aW ?_)))));dsimp only;refine (Array.getElem?_toList)▸?_;refine f▸?_;exact aW (aW (aW q))
theorem Tc:aOx [.type "tuple"]=pure (.type "tuple"):=by kernel_rfl
theorem aAl{M:Ű}{h:dT}(X:K.In h)(c:yW K pn fn pm fm):rQ M h (Bind.staticBase (.ref rJ)) (.type "tuple"):=by
 refine nn fun d=>?_;obtain ⟨oc,od,a,i,e,j,l,f,g,m⟩:=c.obj;refine d ?_;have b:clsIn K rJ=some a:=by unfold clsIn;exact e▸rfl
 intro A Q E s k q;refine aH (((looks_clsIn X b).andThen .now:rQ M h (mroOf (.ref rJ)) a.mro) A _ E s k ?_);refine f▸?_;rw [qX];refine aH (aH (aH ((Gb X c) A _ E s k ?_)));dsimp only;refine aH ((looks_clsIn X b) A _ E s k ?_);refine g▸?_;refine Tc▸?_;refine aW ?_;dsimp only;rw [qX];refine PySem.F.called_tuple.made▸?_;exact aH (aH (aW (aW (aW (aW q)))))
theorem Ed{M:Ű}{h:dT}(X:K.In h)(c:yW K pn fn pm fm){b:bM}(a:[lR rJ,.type "tuple",.type "object"].contains b=true):rQ M h (Ca (.ref rJ) b) true:=by refine nn fun d=>?_;obtain ⟨oc,od,e,i,f,j,k,g,l,m⟩:=c.obj;refine d ?_;refine looks_mroIn X ?_;unfold mroIn;refine ((by unfold clsIn;rw [f]:clsIn K rJ=some e))▸?_;rw [Option.bind_some,g,if_neg (by decide),a]
theorem Xp:builtinKind "tuple.__new__"=some .builtinFn:=by decide+kernel
theorem Rj:splitId "tuple.__new__"=some ("tuple","__new__"):=by decide+kernel
theorem Rs:plainId "tuple.__new__"=true:=by decide+kernel
theorem Z7:Manifest.signature? "tuple.__new__"=some ⟨.constructor,"tuple","tuple",.cls,[⟨"iterable",.posOnly,false⟩]⟩:=by kernel_rfl
theorem ŋ(a b:bM):aI1 "tuple.__new__" ⟨.constructor,"tuple","tuple",.cls,[⟨"iterable",.posOnly,false⟩]⟩ ⟨[a,b],[]⟩=pure ():=by kernel_rfl
theorem aAk{M:Ű}{h:dT}(X:K.In h)(c:yW K pn fn pm fm):rQ M h (isType (.ref rJ)) true:=by refine nn fun a=>?_;obtain ⟨oc,od,d,e,b,_⟩:=c.obj;refine a ?_;exact (N9 (X _ _ b)).andThen .now
theorem Δ{R:xH→tU}{t:dF}{items:Array bM}(X:K.In s.heap)(c:yW K pn fn pm fm)(k:s.heap.IsTuple t items)(j:items.size≤1000)
  (q:∀h' l x,(∀b o,s.heap.get? b=some o→h'.get? b=some o)→s.heap.get? x=aF→Bc h' x items→R (.ok (.ret (.ref x))) {s with heap:=h',toks:=l}):jI (model prog w) A (.call (.builtin "tuple.__new__") ⟨[.ref rJ,.ref t],[]⟩) R s:=by
 have v:=X;obtain ⟨f,g,d,tk,os⟩:=s;have B:=Gb (M:=model prog w) X c;have base:=aAl (M:=model prog w) X c;have typ:=aAk (M:=model prog w) X c;have m:rQ (model prog w) f (aOy (.type "tuple")) (some "tuple.__new__"):=kQ PySem.F.called_tuple.made;have chk:rQ (model prog w) f (aI1 "tuple.__new__" ⟨.constructor,"tuple","tuple",.cls,[⟨"iterable",.posOnly,false⟩]⟩ ⟨[.ref rJ,.ref t],[]⟩) ():=kQ (ŋ _ _);have sub:=Ed (M:=model prog w) X c (b:=.type "tuple") (by decide);refine codeAny_call_builtin_code (Ų _ (by decide+kernel)) ?_;rw [checkBuiltinCall,Xp,Rj];refine Z7▸?_;repeat (first|(with_reducible refine Tt ?_)|(with_reducible refine Tv ?_)|(with_reducible refine Ts ?_)|(with_reducible refine Qx ?_)|(with_reducible refine Q0 ?_)|(with_reducible refine Tu ?_)|lk)
 refine D3 PySem.F.entry_tuple_new ?_;rw [Wb Rs _];unfold Ob.«tuple.__new__»;have hi:=looks_findIn (M:=model prog w) X c.init;refine nn fun n=>?_;obtain ⟨o,p,r,nn,hd⟩:=k;refine n ?_;repeat (first|(with_reducible refine wpAny_collect_seq t (T:="tuple") (.inr rfl) p r hd ?_ ?_)|(with_reducible refine Tt ?_)|(with_reducible refine Tv ?_)|(with_reducible refine Ts ?_)|(with_reducible refine Qx ?_)|(with_reducible refine Q0 ?_)|(with_reducible refine Tu ?_)|lk)
 ·intro a h;have X1:=(fun a h=>X.keeps h:∀(a:dT),(∀b o,f.get? b=some o→a.get? b=some o)→K.In a) a h;obtain ⟨oc,od,C,D,i,F,u,G,H,I⟩:=c.obj;refine aH (aW (aH (wpAny_alloc (aH ?_))));unfold newObj;dsimp only;refine (if_neg (by simp only [mN];simp;exact aS aKg j:¬(items.toList.toArray.size>hW)))▸?_;refine aH (wpAny_alloc ?_);dsimp only;refine aH (aH (Kb (cF _ (cF _ (X1 _ _ i))) (aW ?_)));refine u▸?_;refine aW (aW ?_);refine q _ _ _ (fun b o e=>cF _ (cF _ (h b o e))) ?_ ⟨_,cA _ rfl,rfl,_,rfl⟩;refine (?_:f.get? _=aF)
  cases z:f.get? (a.push {cls:=lB "dict",data:=Data.dict #[]}).objs.size with
  |none=>rfl
  |some J=>have:=dQ (h _ _ z);rw [gJ]at this;exact absurd this (kJ.mpr (jG _))
 ·simp only [mN];exact aS aKg j
end
end
section
open PySem PySem.W PyProof.Rows PySem.Calls
def Ġ(ga:M bV):M V:=fun σ=>bd (ga σ) fun us σ=>aV (fun u=>aV fun t=>aN (ob (aL7 u) fun v=>ob (J6 t) fun l=>if v=.ref rJ∧l.length≤1000 then some (.mt l,σ)else aF)) us
section
variable{n:Nat}{F:Fx}{K:As}{pn fn pm fm:dF}
theorem Wl:findIn K (.type "type") "__getattribute__"=some (some (.builtin "type.__getattribute__")):=by kernel_rfl
theorem Xz{E:rX}{s:dE}{Q:bM×fZ→tU}(X:K.In s.heap)(c:yW K pn fn pm fm)(h:∀tk,Q (.builtin "tuple.__new__",[]) {s with toks:=tk}):
  bT (model prog w) A (getMethod (.type "tuple") (aC "__new__") b) Q E s:=by
 have L0:rQ (model prog w) s.heap (typeOf (.type "tuple")) (.type "type"):=kQ (by first|rfl|kernel_rfl:typeOf (.type "tuple")=pure (.type "type"));have a:findIn K (.type "type") "__getattribute__"=some (some (.builtin "type.__getattribute__")):=Wl;refine aH (aH (L0.here ((looks_findIn X a).here ?_)));dsimp only;refine aH (bL ?_ (fun _ _ z=>aW z) fun _ _ z=>z);refine cls_open X (kQ (by unfold opaqueClassAbove;dsimp only;rfl:opaqueClassAbove (.type "tuple")=pure none)) L0 a (looks_hook X (by rfl)) (by rfl) c.tnew ?_;refine aW ?_;refine (?_:bT _ _ (handedOut (.builtin "tuple.__new__")) _ _ _);exact aW (h _)
theorem Po(r:K.In S.heap)(c:yW K pn fn pm fm)(x:kC n F o (gK (.fn (.type "tuple"))))(s:nE F args)(y:yK n F a args C)
  (G:eval (.Call (.Attribute o (aC "__new__") u) args [] a) F.env=(do
   let d←eval o F.env
   jD u.atName
   let (f,first)←holding [d] (getMethod d (aC "__new__") Y)
   lA a f first (backTo a (dR args F.env)) [])):kC n F (.Call (.Attribute o (aC "__new__") u) args [] a) (Ġ C):=fun σ v σ' q=>by
 replace q:=dZ q;obtain ⟨us,σ₁,g,q⟩:=q;revert g;refine nQ q ?_;clear q;intro _ _ q;refine nQ q ?_;clear q;intro _ _ q;refine oM q ?_;clear q;intro q;refine aJx q ?_;clear q;intro Z q;refine Un q ?_;clear q;intro l q;obtain ⟨⟨H,I⟩,q9⟩:=iC q;cases H;refine Jl q9 ?_;rintro rfl rfl g;intro A X D h tk vs ok m _;refine aIm (TW.atE (x σ _ _ rfl) ok m bO.nil ?_) G;rintro d h₀ gh D₀ J m₀ L;cases L;refine Xz (r.keeps m₀.base) c fun i=>?_;refine (?_:bT _ _ _ _ _ (jK h₀ i));refine At (lL s) (œ s (y _ _ _ g) ok m₀ ?_);rintro gv h₁ ae D₁ N j O;obtain ⟨_,_,rfl,P,_,_,rfl,⟨t,xs,rfl,nt,⟨k,Q⟩,B⟩,R⟩:=O;cases P;cases R;refine jH (Δ (r.keeps j.base) c ⟨_,Q,rfl,_,rfl⟩ (by simpa [B.length]using I) fun h' i z p T W=>?_);refine ⟨h',i,D₁,_,_,rfl,(J.trans N).trans (oU.grow p),j.grow p,?_,rfl,rfl⟩;refine ⟨z,xs,rfl,fun q=>?_,W,bO.step (fun b o e _=>p b o e) (fun _ _ e=>e) (fun _ e=>.inl e) _ _ B⟩;exact (j.yal q).no T
end
end
section
open PySem PySem.W PyProof.Rows PySem.Calls
section
variable{K:As}{pn fn pm fm:dF}
theorem Sc{s:dE}{R:xH→tU}(X₀:K.In h₀)(p:∀b o,h₀.get? b=some o→s.heap.get? b=some o)(c:yW K pn fn pm fm)(r:∀x,argsOk "object.__init__" ⟨.ref x::rest,[]⟩)
  (u:∀tk,bT (model prog w) (A.under (.builtin "type.__call__" ⟨.ref rJ::rest,[]⟩)) (call (.ref fn) (.ref rJ::rest)) (fun v h=>∃x items,v=.ref x∧(∀b o,h₀.get? b=some o→h.heap.get? b=some o)∧Bc h.heap x items∧R (.ok (.ret v)) h) (fun _ _=>False) {s with toks:=tk}):
  jI (model prog w) A (.call (.ref rJ) ⟨rest,[]⟩) R s:=by
 obtain ⟨oc,od,i,Q,f,T,W,y,Y,Z⟩:=c.obj;have X:=X₀.keeps p;have B:=X _ _ f;have C:=looks_specialIn (M:=model prog w) X c.call;have typ:=looks_instIn (M:=model prog w) X c.typ;have yh:=Gb (M:=model prog w) X c;have D:clsIn K rJ=some i:=by unfold clsIn;rw [f]
 have hm:rQ (model prog w) s.heap (mroOf (.ref rJ)) i.mro:=(looks_clsIn X D).andThen .now;obtain ⟨hp,g,d,t,os⟩:=s;refine D2 ?_;refine nd_load B ?_;show bT _ _ (callAny.viaDunder (.ref rJ) _) _ _ _;unfold callAny.viaDunder;refine aH (C.at ?_);dsimp only;rw [tc_bind];refine aH (aW (aH (aW ?_)));refine aW (a:=Fin.again (.call (.builtin "type.__call__") ⟨.ref rJ::rest,[]⟩)) (Wc rfl ?_);refine codeAny_call_builtin_at (Ų _ (by decide+kernel)) entry_typeCall (check_slot tc_kind tc_split typ (tc_args _ _ _) ?_);unfold Ob.«type.__call__»;have j:i.mro.isEmpty=false:=by rw [y];rfl
 obtain ⟨rr,k⟩:=c.newR;repeat (first|(with_reducible refine bL (u _) ?_ (fun _ _ z=>z.elim))|(with_reducible refine Qz j ?_)|(with_reducible refine cls_bind X c.reads c.new (jH (sm_get X k (handed_on rfl ?_))))|lk)
 rintro v ⟨h',g',d',t',G⟩ ⟨x,items,rfl,H,⟨I,l,J,nn,uj⟩,m⟩;have X':K.In h':=X₀.keeps H;have L:rQ (model prog w) h' (typeOf (.ref x)) (.ref rJ):=by have:=(N9 (M:=model prog w) (part:=none) l);have e:rQ (model prog w) h' (typeOf (.ref x)) I.cls:=(N9 l).andThen .now;rwa[J]at e
 have s1:=Ed (M:=model prog w) X' c (b:=.ref rJ) (by decide);have N:=Ed (M:=model prog w) X' c (b:=.type "object") (by decide);have i1:=looks_findIn (M:=model prog w) X' c.init;have b1:rQ (model prog w) h' (bindSpecial (.builtin "object.__init__") (.ref x)) (.builtin "object.__init__",[.ref x]):=kQ (oi_bind _);have O:=Gb (M:=model prog w) X' c;have P:rQ (model prog w) h' (isInstance (.ref x) (.type "object")) true:=L.andThen N;unfold isInstance callSpecial? specialOf;repeat (first|(with_reducible refine jH ?_)|lk)
 refine qK oi_plain entry_oi (@check_slot (model prog w) _ _ _ "object.__init__" "object" "__init__" (.ref x) rest [] _ oi_kind oi_split P (r x) ?_);unfold Ob.«object.__init__»
 cases rest with
 |nil=>(repeat lk);exact m
 |cons r0 rest=>(repeat lk);exact m
def ņ:pV:=fun us σ=>aI3 (fun a b c=>aN (some (.mt [.int a,.int b,.int c],σ))) us
theorem Ò(a b c d:bM):argsOk "object.__init__" ⟨[a,b,c,d],[]⟩:=by unfold argsOk;kernel_rfl
theorem wD.under(h:wD (n+1) A):wD n (A.under (.builtin "type.__call__" ⟨.ref rJ::vs,[]⟩)):=by
 have hw:(Gm "type.__call__" ⟨.ref rJ::vs,[]⟩).weight≤2:=by first|(show (1:Nat)≤2;decide)|(show (0:Nat)≤2;decide)|decide
 have a:(Gm "type.__call__" ⟨.ref rJ::vs,[]⟩).cUnits≤4:=by first|(show (1:Nat)≤4;decide)|(show (4:Nat)≤4;decide)
 exact ⟨h.hd,by have:=h.dep;refine (?_:A.depth+_+2*n<_);exact aS aK0 hw this,by have:=h.uni;refine (?_:A.units+_+10*n+100<_);exact aS aK8 a this⟩
variable{n:Nat}{F:Fx}
theorem Wy(j:K.In S.heap)(c:yW K pn fn pm fm)(k:∀a b c:Int,Ŝ n (.ref fn) [.fn (.ref rJ),.int a,.int b,.int c] (fun r=>r=.mt [.int a,.int b,.int c])):Dr (n+1) F (.ref rJ) ņ:=fun us σ r σ' e=>by
 refine I0 e fun a b g _ e=>?_;refine oM e fun e=>?_;refine Jl e ?_;rintro rfl rfl;intro A X D h tk vs ok m r;obtain ⟨_,_,rfl,⟨l,rfl⟩,_,_,rfl,⟨o,rfl⟩,_,_,rfl,⟨s,rfl⟩,rfl⟩:=r;refine jH (Sc (j.keeps m.base) (fun _ _ e=>e) c (fun x=>Ò _ _ _ _) fun t=>?_);refine bL (k a b g _ (Yf F X D) h t [.ref rJ,.int a l,.int b o,.int g s] ok.under m.base (fun b=>m.yal) ?_) (fun v C p=>?_) fun _ _ z=>z
 ·exact ⟨_,_,rfl,rfl,_,_,rfl,⟨_,rfl⟩,_,_,rfl,⟨_,rfl⟩,_,_,rfl,⟨_,rfl⟩,rfl⟩
 ·obtain ⟨h',u,(r),rfl,d,y,i,rfl⟩:=p;have f:=i;refine nn fun B=>?_;obtain ⟨x,xs,rfl,nx,hx,_⟩:=i;refine B ?_;exact ⟨x,_,rfl,d,hx,h',u,D,σ,_,rfl,oU.grow d,m.grow d,gG.stepP (fun _ _ e _=>e) (fun _ e=>.inl e) _ _ y f,rfl,rfl⟩
end
end
section
open PySem PySem.W PyProof.Rows PySem.Calls
theorem Bc.at(x:Bc h a items)(k:∀o,h.get? a=some o→h'.get? a=some o):Bc h' a items:=by obtain ⟨o,b,r⟩:=x;exact ⟨o,k o b,r⟩
section
variable{K:As}{pn fn pm fm:dF}
theorem Ur{E:rX}{s:dE}{Q:Option bM→tU}(e:A.handled=aF)(c:s.heap.IsTupleIter a t i)(f:Bc s.heap t items)
  (g:∀x h',items[i]?=some x→h'.IsTupleIter a t (i+1)→pW a s.heap h'→Q (some x) {s with heap:=h'}) (h:∀h',items[i]?=aF→Y7 a s.heap h'→Q aF {s with heap:=h'}):bT (model prog w) A (pyNext (.ref a)) Q E s:=by
 obtain ⟨o,b,j,hd⟩:=id c;obtain ⟨l,k,_,m,d⟩:=f;unfold pyNext;refine aH (Ť (nZ c.typeIs E2 (lO E2 c.typeIs PySem.F.entry_tuple_iterator_next ?_ (PySem.F.args_tuple_iterator_next_1 _))));show bT _ _ (field (.ref a) 0>>=_) _ _ s;refine aH (Fw b hd rfl ?_);show bT _ _ (if (lR t==jA)=true then _ else _) _ _ s;rw [if_neg (show ¬((lR t==jA)=true)from lE)];refine aH (Fw b hd rfl ?_);refine aH (yX k d ?_)
 cases hx:items[i]? with
 |some x=>simp only [eL,hx];refine aH (wpAny_setField b hd (by simp) (aW ⟨x,rfl,aW (g x _ hx ?_ (oP ..))⟩));exact ⟨_,jJ _ b (Obj.isFreed_of_fields (aDa hd _)),(Obj.cls_mapFields ..).trans j,by rw [aDa hd];simp [rawInt]⟩
 |none=>
  simp only [eL,hx];refine aH (yY (aH (wpAny_setField b hd (by simp) ?_)));refine aH ?_;simp only [newExc,newTuple];refine aH (uE ?_ (by size_fits));refine aH (wpAny_of_eq (by first|rfl|(simp only [firstArgMember];rfl)) ?_);refine uE ?_ (by size_fits);unfold raiseNew;refine aH (wpAny_handled ?_);first|rw [show A.in1.handled=none from e]|rw [e]
  refine aH (aW (wpAny_throw ?_));refine aH (aOp ⟨_,cA _ rfl,rfl⟩ isSubtype_stop ?_);exact aW (h _ hx (((oP ..).extBut.push _).push _))
theorem Zg(f:A.handled=aF)(I a:dF)(k:a≠I)(items:Array bM):
  Walks prog w A I [I,a] [I] items.size (fun i v=>items[i]?=some v) (fun i h=>h.IsTupleIter I a i∧Bc h a items)where
 sub:=fun b c=>by simp at c;simp [c]
 frame:=fun _ _ _ st g=>⟨st.1.at fun o e=>g I (by simp) o e,st.2.at fun o e=>g a (by simp) o e⟩
 item:=fun i s Q E hi st d=>Ur f st.1 st.2 (fun x h' hx l j=>d _ h' s.toks hx ⟨l,st.2.at fun o e=>(j.2 a k).trans e⟩ fun b o c e=>j.extBut b o (fun h=>c (by simp [h])) e) (fun h' hx=>by simp at hx;exact dD (aS ð hi hx))
 done:=fun s Q E st d=>Ur f st.1 st.2 (fun x h' hx=>by simp at hx) fun h' _ m=>d h' s.toks fun b o c e=>m b o (fun h=>c (by simp [h])) e
 self:=fun _ _ _ _ st d=>wpAny_pyIter_tupleiter st.1 d
theorem rI{M:Ű}{h:dT}{x:dF}{items:Array bM}(a:Bc h x items):rQ M h (typeOf (.ref x)) (.ref rJ):=by obtain ⟨o,b,c,_⟩:=a;have e:rQ M h (typeOf (.ref x)) o.cls:=(N9 b).andThen .now;rwa[c]at e
theorem aA4{A:kS}{E:rX}{s:dE}{x:dF}{items:Array bM}{Q:rX}(X:K.In s.heap)(c:yW K pn fn pm fm)(f:Bc s.heap x items)
  (q:Q (.ref s.heap.objs.size) {s with heap:=s.heap.push {cls:=.type "tuple_iterator",data:=.fields #[.ref x,.int 0 0]}}):bT (model prog w) A (pyIter (.ref x)) Q E s:=by
 have h:=rI (M:=model prog w) f;have k:=looks_findIn (M:=model prog w) X c.iter;have b1:rQ (model prog w) s.heap (bindSpecial (.builtin "tuple.__iter__") (.ref x)) (.builtin "tuple.__iter__",[.ref x]):=kQ (PySem.F.slot_tuple_iter.bind _);have i:=Ed (M:=model prog w) X c (b:=.type "tuple") (by decide);have j:rQ (model prog w) s.heap (isInstance (.ref x) (.type "tuple")) true:=h.andThen i;obtain ⟨a,g,d,tk,os⟩:=s;unfold pyIter specialOf;have fin:∀{R:xH→tU}{A':kS},R (.ok (.ret (.ref a.objs.size))) ⟨a.push {cls:=.type "tuple_iterator",data:=.fields #[.ref x,.int 0 0]},g,d,tk,os⟩→jI (model prog w) A' (.call (.builtin "tuple.__iter__") ⟨[.ref x],[]⟩) R ⟨a,g,d,tk,os⟩:=fun r=>by refine qK PySem.F.slot_tuple_iter.plain PySem.F.entry_tuple_iter (@check_slot (model prog w) _ _ _ "tuple.__iter__" "tuple" "__iter__" (.ref x) [] [] _ (by decide+kernel) (by decide+kernel) j (PySem.F.args_tuple_iter_1 _) ?_);show bT _ _ (do ret (←newFields "tuple_iterator" [.ref x,rawInt 0])) _ _ _;exact aH (uE (aW r))
 have l:rQ (model prog w) (a.push {cls:=.type "tuple_iterator",data:=.fields #[.ref x,.int 0 0]}) (typeOf (.ref a.objs.size)) (.type "tuple_iterator"):=(N9 (cA _ rfl)).andThen .now;have m:rQ (model prog w) (a.push {cls:=.type "tuple_iterator",data:=.fields #[.ref x,.int 0 0]}) (Dv (.type "tuple_iterator") (aC "__next__")) (some (.builtin "tuple_iterator.__next__")):=kQ E2.lookup;repeat lk
 by_cases e:(model prog w).w.params.followText "special-get-raises"=true
 ·rw [if_pos e];repeat (first|(with_reducible refine jH (fin ?_))|lk)
  exact q
 ·rw [if_neg e];refine Yp ?_;repeat (first|(with_reducible refine jH (fin ?_))|lk)
  exact q
end
end
section
set_option backward.match.sparseCases false
open PySem PySem.W PyProof.Rows PySem.Calls
def X0(gs:List (V→St→Option St))(v:V)(σ:St):Option St:=ob (aC1 v) fun l=>Zt gs l σ
section
variable{n:Nat}{F:Fx}{K:As}{pn fn pm fm:dF}
theorem Bz{gs:List (V→St→Option St)}(g:K.In S.heap)(j:yW K pn fn pm fm)(x:I4 n F es gs):I5 n F (.Tuple es c B) (X0 gs):=fun σ v σ' e=>by
 refine Ú e fun ds e=>?_
 ·intro A X D h tk u ok m r;refine aH (gC ?_);unfold unpack;refine x.1▸?_;have l:(oW es F.env).length=ds.length:=by simp only [xQ e,←x.2.1];simp
  obtain ⟨a,xs,rfl,C,hx,k⟩:=r;refine aH (bY (oQ (items:=xs) (by simp only [l,k.length]) (fun Kk d=>?_) (fun Kk d=>?_) fun h' s f=>?_))
  ·exact aH (aH ((rI hx).here ((looks_findIn (g.keeps m.base) j.iter).here (aW d))))
  ·have t:a≠h.objs.size:=by obtain ⟨o,y,_⟩:=hx;exact fM (dQ y)
   refine aA4 (g.keeps m.base) j hx (d _ _ [h.objs.size,a] (fun i h'=>h'.IsTupleIter h.objs.size a i∧Bc h' a (aY xs)) (by simpa using (Zg ok.hd h.objs.size a t (aY xs))) ⟨⟨_,cA _ rfl,rfl,rfl⟩,hx.at (dL _ _ a)⟩ (eV _) (dL _ _))
  ·have z:=bO.step (fun b o e _=>f b o e) (fun _ _ e=>e) (fun _ e=>.inl e) _ _ k;exact bL (x.2.2 _ _ _ e A X D h' s xs ok (m.grow f) z) (fun _ _ p=>p.on (oU.grow f)) fun _ _ q=>q
def aEu:pV:=fun us σ=>aV (fun u=>aN (ob (aC1 u) fun l=>if l.length≤1000 then some (.int l.length,σ)else aF)) us
end
end
section
open PySem PySem.W PyProof.Rows PySem.Calls
inductive Mt3(h:dT)(v:bM)(k:K3):Prop
 |mk (x:dF) (t1 t2 t3:Nat) (e:v=.ref x) (p:Bc h x (aY [.int k.1 t1,.int k.2.1 t2,.int k.2.2 t3]))
section
variable{K:As}{pn fn pm fm:dF}
theorem aJ3{s:dE}{R:xH→tU}(X:K.In s.heap)(r:yW K pn fn pm fm)(hx:Bc s.heap x (aY [.int a O,.int b P,.int c T]))(hy:Bc s.heap y (aY [.int i W,.int b' Y,.int e Z]))
  (v:(a,b,c)≠(i,b',e)) (q:R (.ok (.ret (.bool (Cb (a,b,c) (i,b',e))))) s):jI (model prog w) A (.call (.builtin "tuple.__lt__") ⟨[.ref x,.ref y],[]⟩) R s:=by
 have B:=rI (M:=model prog w) hx;have n:=Ed (M:=model prog w) X r (b:=.type "tuple") (by decide);have iy:rQ (model prog w) s.heap (isInstance (.ref y) (.type "tuple")) true:=(rI hy).andThen n;refine nn fun C=>?_;obtain ⟨D,ui,F,nx,o⟩:=hx;obtain ⟨G,H,k,ny,j⟩:=hy;obtain ⟨cx,dx,I,J⟩:=D;obtain ⟨cy,dy,L,N⟩:=G;refine C ?_;dsimp only at o j;clear X F k;subst o j;obtain ⟨hp,g,d,tk,os⟩:=s;refine qK PySem.F.slot_tuple_lt.plain PySem.F.entry_tuple_lt (@check_slot (model prog w) _ _ _ "tuple.__lt__" "tuple" "__lt__" (.ref x) [.ref y] [] _ (by decide+kernel) (by decide+kernel) (B.andThen n) (PySem.F.args_tuple_lt_2 _ _) ?_);unfold Ob.«tuple.__lt__»;have f:∀{p q:Int}{t u:Tok}{A:kS}{Q:rX}{E:rX}{s:dE},Q (.bool (decide (p<q))) s→bT (model prog w) A (richCompare .Lt (.int p t) (.int q u)) Q E s:=fun h=>aC8 h;repeat (first|(with_reducible refine kA ?_)|(with_reducible refine f ?_)|lk)
 by_cases l:a=i
 ·subst l;refine Qz (by simp) ?_;repeat (first|(with_reducible refine kA ?_)|(with_reducible refine f ?_)|lk)
  by_cases m:b=b'
  ·subst m;refine Qz (by simp) ?_;repeat (first|(with_reducible refine kA ?_)|(with_reducible refine f ?_)|lk)
   refine Qy (by simpa using (fun z=>v (by rw [z]))) ?_;have:Cb (a,b,c) (a,b,e)=decide (c<e):=by simp [Cb]
   replace q:=this▸q;repeat (first|(with_reducible refine kA ?_)|(with_reducible refine f ?_)|lk)
   exact q
  ·refine Qy (by simpa using m) ?_;have:Cb (a,b,c) (a,b',e)=decide (b<b'):=by simp [Cb,m]
   rw [this]at q;repeat (first|(with_reducible refine kA ?_)|(with_reducible refine f ?_)|lk)
   exact q
 ·refine Qy (by simpa using l) ?_;have:Cb (a,b,c) (i,b',e)=decide (a<i):=by simp [Cb,l]
  rw [this]at q;repeat (first|(with_reducible refine kA ?_)|(with_reducible refine f ?_)|lk)
  exact q
end
end
section
open PySem PySem.W PyProof.Rows PySem.Calls
section
variable{K:As}{pn fn pm fm:dF}
theorem aF7{E:rX}{s:dE}{C:Bool→tU}(X:K.In s.heap)(b:yW K pn fn pm fm)(e:A.units<cLine)(hx:Bc s.heap x (aY [.int k.1 h,.int k.2.1 i,.int k.2.2 j]))(hy:Bc s.heap y (aY [.int a.1 l,.int a.2.1 m,.int a.2.2 n]))
  (f:k≠a) (q:C (Cb k a) s):bT (model prog w) A (keyLt' oneType' (.ref x) (.ref y)) C E s:=by
 have o:=rI (M:=model prog w) hx;have l1:=looks_findIn (M:=model prog w) X b.lt;have b1:rQ (model prog w) s.heap (bindSpecial (.builtin "tuple.__lt__") (.ref x)) (.builtin "tuple.__lt__",[.ref x]):=kQ (PySem.F.slot_tuple_lt.bind _);have fin:∀{R:xH→tU}{A':kS},R (.ok (.ret (.bool (Cb k a)))) s→jI (model prog w) A' (.call (.builtin "tuple.__lt__") ⟨[.ref x,.ref y],[]⟩) R s:=fun r=>aJ3 X b hx hy f r;rw [keyLt'_oneType,oneLt'_eq];dsimp only [if_true];refine aH (wpAny_cRoomFor e ?_);clear X hx hy;obtain ⟨p,g,d,tk,os⟩:=s;repeat lk
 by_cases c:(model prog w).w.params.followText "special-get-raises"=true
 ·rw [if_pos c];repeat (first|(with_reducible refine jH (fin ?_))|lk)
  exact q
 ·rw [if_neg c];refine Yp ?_;repeat (first|(with_reducible refine jH (fin ?_))|lk)
  exact q
end
end
section
open PySem PySem.W PyProof.Rows PySem.Calls
def kMt:V→Option K3:=fun v=>ob (aC1 v) (aI3 fun a b c=>aN (some (a,b,c)))
theorem aGa{Y:iB}(e:kMt v=some k)(r:gG D Y h v u):Mt3 h u k∧∃x,u=.ref x∧¬Y x:=by revert r;refine Ú e ?_;clear e;intro l e;refine I0 e ?_;clear e;intro a b c t e;refine oM e ?_;clear e;intro e r;refine nW e ?_;rintro rfl;refine nn fun d=>?_;obtain ⟨x,xs,rfl,nx,hx,_,_,rfl,⟨f,rfl⟩,_,_,rfl,⟨g,rfl⟩,_,m,rfl,⟨i,rfl⟩,j⟩:=r;refine d ?_;cases j;exact ⟨⟨x,f,g,i,rfl,hx⟩,x,rfl,nx⟩
theorem Hd(c:∀b o,b≠a→h.get? b=some o→H.get? b=some o)(x:Mt3 h v k)(d:v≠.ref a):Mt3 H v k:=by obtain ⟨x,e,f,g,rfl,hx⟩:=x;exact ⟨x,e,f,g,rfl,hx.at fun o=>c x o (fun q=>d (by exact q▸rfl))⟩
section
variable{K:As}{pn fn pm fm:dF}
theorem Ŋ{s:dE}(X₀:K.In h₀)(p:∀b o,h₀.get? b=some o→s.heap.get? b=some o)(r:h₀.get? a=aF)(u:yW K pn fn pm fm)(B:A.units<cLine)(D:2≤vs.length)(f:F2 (Mt3 s.heap) vs (g.map (·.1)))(h:∀v∈vs,v≠.ref a)(G:(g.map (·.1)).Nodup):V7 A s a vs oneType' (î g)where
 kind:=fun H tk Q c q=>by refine kas_kind (T:=.ref rJ) D (fun v I=>?_) (by decide) (by decide) (q tk);obtain ⟨i,hi,J⟩:=kK I;obtain ⟨x,L,N,O,ex,hx⟩:=Ep (d:=jA) (e:=(0,0,0)) (S4 (fun x hx y t=>Hd c t (h x hx)) f) hi;simp only [aP,bJ hi,J]at ex;subst ex;exact rI hx
 cmp:=fun H tk i j C c hi k P q=>by
  have l:∀i,i<vs.length→vs.getD i jA∈vs:=fun i hi=>by simp [aP,hi]
  obtain ⟨x,L,N,O,ex,hx⟩:=Hd c (Ep f hi) (h _ (l i hi));obtain ⟨y,W,X,Y,R,hy⟩:=Hd c (Ep f k) (h _ (l j k));refine ex▸?_;refine R▸?_;refine aF7 (X₀.keeps fun b o e=>c b o (fun z=>by simp only [z,r]at e;exact hU e) (p b o e):K.In H) u B hx hy (fun z=>P ?_) (q tk);have m:=Ng f;have l1:i<(g.map (·.1)).length:=aS ö hi m;have l2:j<(g.map (·.1)).length:=aS ö k m;refine (oX l1 G).mp ?_;simp only [aP,bJ l1,bJ l2]at z;simp only [bJ l1,bJ l2];simpa using z
def Ń:pV:=fun us σ=>aV (fun u=>aN (ob (Ix u) fun n=>aL σ n fun l=>ob (Gz kMt l) fun l'=>some (.none,{σ with cells:=kX n (.list l') σ.cells}))) us
variable{n:Nat}{F:Fx}
theorem Wz(N:K.In S.heap)(O:yW K pn fn pm fm)(fk:iL F):OpB n F "list.sort" Ń:=fun us σ v σ' e=>by
 refine nQ e fun _ _ e=>?_;refine oM e fun e=>?_;refine Kp e fun j e=>?_;refine nn fun s=>?_;obtain ⟨l,P,e⟩:=O6 e;obtain ⟨l',d,e⟩:=dS e;replace d:=dS d;obtain ⟨B,C,d⟩:=d;replace d:=iC d;obtain ⟨⟨t,Q⟩,d⟩:=d;refine s ?_;refine nW d ?_;rintro rfl;intro A X D h tk ws ok m r;obtain ⟨u,_,rfl,r1,R⟩:=r;cases R;obtain ⟨a,xs,k,rfl,y,hx,G⟩:=La m P r1;obtain ⟨H,T⟩:=Ă aGa C G;have z:xs.length=B.length:=by simp only [Ng H];simp
 have I:=(Ph C).1.symm;have W:∀v∈xs,v≠.ref a:=fun v Y q=>by obtain ⟨x,ex,nx⟩:=T v Y;replace ex:=q▸ex;cases ex;exact nx (.inr (.inr ⟨j,y⟩))
 refine lO slot_list_sort ⟨_,hx,rfl⟩ entry_list_sort (C0 (κ:=oneType') hx (aS aEb Q z) (by simp only [z];exact Fb t) (fun Z=>Ŋ N m.base (m.sep j a y).b O (by have:=ok.uni;simp only [Gr];exact aS 0x6315090702848e70e880747003 this:A.in1.units<cLine) Z H W t) fun p h' ap g J hk f=>⟨_,rfl,?_⟩) (args_list_sort _);rw [z]at g J;have L:=G.pick fun i hi=>by have:=g.perm.mem_iff.mp hi;refine I▸?_;simpa using this
 rw [I,(Ox t g J)]at L;refine nn fun s=>?_;obtain ⟨mm,f⟩:=f;obtain ⟨m',cq⟩:=m.turn (c:=.list ((isK B).map (·.2))) fk y (fun b o hb e=>hk b o hb e) ⟨_,f⟩ (fun Y' hr fg=>⟨_,⟨mm,f⟩,fg _ _ L⟩);refine s ?_;exact ⟨h',ap,D,_,.none,rfl,cq,m',Cq,.of e⟩
end
end
section
set_option backward.match.sparseCases false
open PySem PySem.W PyProof.Rows PySem.Calls
section
variable{n:Nat}{F:Fx}{K:As}{pn fn pm fm:dF}
theorem Kz{d:pV}(i:K.In S.heap)(j:keepIn K v=true)(x:kC n F f (gK (.fn v)))(o:Dr n F v d)(b:nE F args)(y:yK n F a args g)
  (k:eval (.Call f args [] a) F.env=(do lA a (←eval f F.env) [] (backTo a (dR args F.env)) [])):kC n F (.Call f args [] a) (gB d g):=fun σ r σ' e=>by
 obtain ⟨us,σ₁,l,e⟩:=dZ e;intro A X D h tk vs ok m _;refine (?_:bT _ _ (eval (.Call f args [] a) F.env) _ _ _);refine k▸?_;refine aH (TW.atE (x σ _ _ rfl) ok m bO.nil ?_);clear x;rintro H h₀ I D₀ s m₀ t;subst t;refine callWith_of (by rw [lL b];rfl) (fun h X=>keeps_K j h X) (pU b (y _ _ _ l) ok m₀ ?_);rintro u h₁ B D₁ _ _ C c G ⟨rfl,rfl⟩;refine ⟨i.keeps c.base,?_⟩;exact bL (o us _ _ _ e A X D₁ h₁ B u ok c G) (fun _ _ p=>p.on (s.trans C)) fun _ _ z=>z
def Vs(d:bV→Option Ey):pV:=fun us σ=>if cS us=true then ob (d us) fun m=>some (.inst σ.next,{σ with cells:=(σ.next,.mat m)::σ.cells,next:=σ.next+1})else aF
theorem Í{d:bV→Option Ey}(fk:iL F)(k:K.In S.heap)(L:makesIn K xN=true)(hi:findIn K (.ref xN) "__init__"=some (some (.ref fi)))(N:typeIn K (.ref fi)=some (.type "function"))
  (hd:∀us m,cS us=true→d us=some m→∀A (Y:iB) h tk x c vs,wD n A→(∀b o,S.heap.get? b=some o→h.get? b=some o)→(∀a,Y a→vC h a)→¬Y c→S.heap.get? c=aF→¬Y x→h.get? x=some (instObj xN c)→iP [] (iW [c] Y) h c (.attrs [])→bO [] (iW [c] Y) h us vs→
   jI (model prog w) A (.call (.ref fi) ⟨.ref x::vs,[]⟩) (fun r C=>match r with
    |.ok (.ret v)=>v=.none∧∃h' l,C=jK h' l∧(∀b o,b≠c→h.get? b=some o→h'.get? b=some o)∧(vC h' c)∧iP [] (iW [c] Y) h' c (.mat m)
    |_=>False) (jK h tk)):Dr (n+1) F (.ref xN) (Vs d):=fun us σ r σ' e=>by
 unfold Vs at e;split at e
 ·rename_i f;replace e:=dS e;obtain ⟨m',O,e⟩:=e;refine Jl e ?_;rintro rfl rfl;intro A X D h tk vs ok m r;have G:∀b,Yf F X D b→vC h b:=fun b=>m.yal;have i:∀b o,h.get? b=some o→((h.push emptyDict).push (instObj xN h.objs.size)).get? b=some o:=fun b o e=>cF _ (cF _ e);have hx:((h.push emptyDict).push (instObj xN h.objs.size)).get? (h.objs.size+1)=some (instObj xN h.objs.size):=by have:=cA (o:=instObj xN h.objs.size) (h.push emptyDict) rfl;rwa[gJ]at this
  have fr:∀b,h.objs.size≤b→h.get? b=aF:=fun b s=>by
   cases q:h.get? b with
   |none=>rfl
   |some o=>exact absurd (dQ q) (kJ.mpr s)
  have g:∀b,h.objs.size≤b→¬Yf F X D b:=fun b s z=>by obtain ⟨o,j⟩:=G b z;rw [fr b s]at j;exact hU j
  have P:S.heap.get? h.objs.size=aF:=by
   cases q:S.heap.get? h.objs.size with
   |none=>rfl
   |some o=>have:=m.base _ _ q;rw [fr _ (bG _)]at this;exact hU this
  refine jH (make_core (makes_of (k.keeps m.base) L) (looks_findIn (k.keeps m.base) hi) (fun self=>bind_fn (k.keeps m.base) self N) (.inl rfl) ?_);have Q:wD n (A.under (.builtin "type.__call__" ⟨.ref xN::vs,[]⟩)):=by
   have hw:(Gm "type.__call__" ⟨.ref xN::vs,[]⟩).weight≤2:=by first|(show (1:Nat)≤2;decide)|(show (0:Nat)≤2;decide)|decide
   have R:(Gm "type.__call__" ⟨.ref xN::vs,[]⟩).cUnits≤4:=by first|(show (1:Nat)≤4;decide)|(show (4:Nat)≤4;decide)
   exact ⟨ok.hd,by have:=ok.dep;refine (?_:A.depth+_+2*n<_);exact aS aK0 hw this,by have:=ok.uni;refine (?_:A.units+_+10*n+100<_);exact aS aK8 R this⟩
  have T:((h.push emptyDict).push (instObj xN h.objs.size)).Ns1 h.objs.size (fun _=>aF):=by refine Heap.Ns1.of_empty ⟨_, #[],0,(cF _ (cA _ rfl)),rfl,fun e W=>by simp at W,fun name=>rfl⟩
  have Z:∀b,iW [h.objs.size] (Yf F X D) b→Yf F X D b∨h.get? b=aF:=fun b z=>by
   rcases z with z|z
   ·rw [aM.mp z];exact .inr (fr _ (bG _))
   ·exact .inl z
  refine oV (hd us m' f O _ (Yf F X D) ((h.push emptyDict).push (instObj xN h.objs.size)) tk (h.objs.size+1) h.objs.size vs Q (fun b o q=>i b o (m.base b o q)) (fun b z=>let ⟨o,j⟩:=G b z;⟨o,i b o j⟩) (g _ (bG _)) P (g _ (jG _)) hx
   ⟨_,T,fun y hy=>absurd rfl hy,fun p f=>by cases f⟩ (bO.stepP (fun b o e _=>i b o e) Z _ _ f r)) fun r C z=>?_
  rcases r with e|(v|_|_|_)<;>first|exact z.elim|skip
  refine nn fun t=>?_;obtain ⟨rfl,h',l,rfl,H,I,cr⟩:=z;refine t ?_;have u:=cr;refine nn fun t=>?_;obtain ⟨as,dj,mm,yj,yk,_⟩:=cr;obtain ⟨ag,ah⟩:=m.cell (c:=.attrs []) (fun b o e=>H b o (fun q=>by rw [q,fr _ (bG _)]at e;exact hU e) (i b o e)) (fr _ (bG _)) I (fun D' Y' hr fg=>⟨mm,yj,yk,fun p f=>by cases f⟩);refine t ?_;have ha:lk ((σ.next,h.objs.size)::D) σ.next=some h.objs.size:=by simp [fF,fE]
  obtain ⟨J,ar⟩:=ag.turn2 fk ha (fun b o _ e=>e) I (iP.P (c:=.mat m') trivial (fun _ _ e _=>e) (fun _ e=>e) (fun b z=>by
   rcases z with z|z|⟨B,z⟩
   ·exact .inl (.inr (.inl z))
   ·exact .inl (.inr (.inr (.inl z)))
   ·simp only [fF,fE]at z;split at z
    ·refine nW z ?_;rintro rfl;exact .inl (.inl (aM.mpr rfl))
    ·exact .inl (.inr (.inr (.inr ⟨B,z⟩)))) u)
  have f:kX σ.next (gM.mat m') ((σ.next,gM.attrs [])::σ.cells)=(σ.next,gM.mat m')::σ.cells:=if_pos rfl;rw [f]at J;refine ⟨rfl,h',l,_,_,_,rfl,ah.trans ar,J,?_,rfl,rfl⟩;refine ⟨h.objs.size,h.objs.size+1,rfl,fun q=>?_,by trivial,H _ _ (Aq _) hx⟩;rcases q with z|z|⟨B,z⟩
  ·exact g _ (jG _) (.inl z)
  ·exact g _ (jG _) (.inr (.inl z))
  ·simp only [fF,fE]at z;split at z
   ·exact absurd (eR z) (fM (gQ _))
   ·exact g _ (jG _) (.inr (.inr ⟨B,z⟩))
 ·exact hU e
end
end
section
open PySem PySem.W PyProof.Rows PySem.Calls
theorem Ut:mroOf (.type "map")=pure [.type "map",.type "object"]:=by rw [mroOf_type];kernel_rfl
theorem Hi:Dv (.type "map") "__new__"=pure (some (.builtin "map.__new__")):=by kernel_rfl
theorem Jm:Slot "map" "__init__" "object.__init__":=
 .of (owner:="object") (n:="__init__") (by kernel_rfl) (by decide+kernel) (by decide+kernel) (by decide+kernel) (by first|exact .inl (by decide+kernel)|exact .inr (by decide+kernel)) (by kernel_rfl)
theorem Cm:Ca (.type "map") (.type "map")=pure true:=by rw [yZ];kernel_rfl
theorem Ta:TypeCalled "map" "map.__new__" "object.__init__":=
 ⟨by decide+kernel,by decide+kernel,⟨_,_,Ut⟩,madeBy_type Ut Hi (by decide+kernel),by decide+kernel,Cm,Jm⟩
theorem Lu(a b:bM):checkTypeCall "map" ⟨[a,b],[]⟩=pure ():=by kernel_rfl
theorem O9(a b:bM):checkBuiltinCall "map.__new__" ⟨[.type "map",a,b],[]⟩=pure ():=by kernel_rfl
theorem Jw:entryFor table "map.__new__"=some Ob.«map.__new__»:=entryFor_of_tree (by kernel_rfl)
theorem Ó(a b c:bM):argsOk "object.__init__" ⟨[a,b,c],[]⟩:=by unfold argsOk;kernel_rfl
noncomputable abbrev rK(t:dF)(f:bM):wM:={cls:=.type "map",data:=.fields #[.ref t,f]}
noncomputable abbrev Kv(l:dF):wM:={cls:=.type "list_iterator",data:=.fields #[.ref l,.int 0 0]}
theorem Jq(f:bM)(l:dF)(items:Array bM):
  Meets (Ob.«map.__new__» ⟨[.type "map",f,.ref l],[]⟩) (fun _ R s=>s.heap.IsList l items∧∀h',h'=((s.heap.push (Kv l)).push {cls:=.type "tuple",data:=.seq #[.ref s.heap.objs.size]}).push (rK (s.heap.objs.size+1) f)→R (.ok (.ret (.ref (s.heap.objs.size+2)))) {s with heap:=h'}):=
 .of_wp fun prog w A R s h=>by
  obtain ⟨b,g,d,tk,os⟩:=s;obtain ⟨a,h⟩:=h;have c:=Cm;unfold Ob.«map.__new__»;repeat (any_goals (first|assumption|(with_reducible refine N6 a ?_)|wp_step))
  refine ⟨_,rfl,?_⟩;have z:=h _ rfl;rw [gJ,gJ];first|exact z|simpa [gJ]using z
section
variable{A:kS}{E:rX}{s:dE}
theorem Ő{Q:rX}(a:s.heap.IsList l items)
  (q:∀h',h'=((s.heap.push (Kv l)).push {cls:=.type "tuple",data:=.seq #[.ref s.heap.objs.size]}).push (rK (s.heap.objs.size+1) f)→Q (.ref (s.heap.objs.size+2)) {s with heap:=h'}):bT (model prog w) A (call (.type "map") [f,.ref l]) Q E s:=by
 refine callType_new Ta (by decide) (Lu _ _) (O9 _ _) (fun obj=>Ó obj _ _) Jw (Jq f l items) ⟨a,fun h' e=>⟨?_,q h' e⟩⟩;have:h'.get? (s.heap.objs.size+2)=some (rK (s.heap.objs.size+1) f):=by refine e▸?_;have z:=cA (o:=rK (s.heap.objs.size+1) f) ((s.heap.push (Kv l)).push {cls:=.type "tuple",data:=.seq #[.ref s.heap.objs.size]}) rfl;rwa[gJ,gJ]at z
 exact ⟨_,this,rfl⟩
end
theorem pE:Slot "map" "__next__" "map.__next__":=
 .of (owner:="map") (n:="__next__") (by kernel_rfl) (by decide+kernel) (by decide+kernel) (by decide+kernel) (by first|exact .inl (by decide+kernel)|exact .inr (by decide+kernel)) (by kernel_rfl)
theorem Bg:Slot "map" "__iter__" "map.__iter__":=
 .of (owner:="map") (n:="__iter__") (by kernel_rfl) (by decide+kernel) (by decide+kernel) (by decide+kernel) (by first|exact .inl (by decide+kernel)|exact .inr (by decide+kernel)) (by kernel_rfl)
theorem Af:entryFor table "map.__next__"=some Ob.«map.__next__»:=entryFor_of_tree (by kernel_rfl)
theorem Bn(a:bM):argsOk "map.__next__" ⟨[a],[]⟩:=by unfold argsOk;kernel_rfl
theorem J7(a:bM):argsOk "map.__iter__" ⟨[a],[]⟩:=by unfold argsOk;kernel_rfl
theorem Sd:Dv (.type "map") "__len__"=pure none:=by rw [D1,builtinLookup_eq_fast];kernel_rfl
theorem Pd:Dv (.type "map") "__length_hint__"=pure none:=by rw [D1,builtinLookup_eq_fast];kernel_rfl
#check @entryFor_of_tree
end
section
open PySem PySem.W PyProof.Rows PySem.Calls
theorem Ir:entryFor table "map.__iter__"=some Ob.«dict_keyiterator.__iter__»:=
 entryFor_alias (id':="dict_keyiterator.__iter__") (by kernel_rfl) (by decide+kernel) (by decide+kernel) (by kernel_rfl)
section
variable{A:kS}{E:rX}{s:dE}
theorem Jr{M T I l:dF}{f:bM}{n i:Nat}{items:Array bM}{x:bM}{P:aC9→tU}(a:s.heap.get? M=some (rK T f))(e:s.heap.get? T=some {cls:=.type "tuple",data:=.seq #[.ref I] n})(h:s.heap.IsListIter I l i)(j:s.heap.IsList l items)(hx:items[i]?=some x)(k:M≠I)
  (m:∀h',h'.IsListIter I l (i+1)→pW I s.heap h'→bT (model prog w) A (call f [x]) (fun v b=>P (.done (.ret v)) b) E {s with heap:=h'}):bT (model prog w) A (Ob.«map.__next__» ⟨[.ref M],[]⟩) P E s:=by
 obtain ⟨p,g,d,tk,os⟩:=s;unfold Ob.«map.__next__»;refine aH (aW ?_);dsimp only;refine aH (Fw a rfl rfl ?_);refine aH (yX e rfl ?_);dsimp only;refine aH ?_;rw [ű,qX];refine aH (aH (bY (wpAny_nextOf_list_item h j hx fun h' o c=>aW ?_)));dsimp only;rw [List.forIn_nil];refine aW ?_;refine aH (Fw ((c.2 M k).trans a) rfl rfl (aH (bY ?_)));exact bL (m h' o c) (fun v b z=>aH (wpAny_letGo (aW z))) fun _ _ z=>z
theorem Mh{M T I l:dF}{f:bM}{n i:Nat}{items:Array bM}{P:aC9→tU}(a:A.handled=aF)(b:s.heap.get? M=some (rK T f))(c:s.heap.get? T=some {cls:=.type "tuple",data:=.seq #[.ref I] n})(h:s.heap.IsListIter I l i)(j:s.heap.IsList l items)(hx:items[i]?=aF)
  (k:∀h' e,Y7 I s.heap h'→(∃o,h'.get? e=some o∧o.cls=.type "StopIteration")→E (.ref e) {s with heap:=h'}):bT (model prog w) A (Ob.«map.__next__» ⟨[.ref M],[]⟩) P E s:=by
 obtain ⟨m,g,d,tk,os⟩:=s;unfold Ob.«map.__next__»;refine aH (aW ?_);dsimp only;refine aH (Fw b rfl rfl ?_);refine aH (yX c rfl ?_);dsimp only;refine aH ?_;rw [ű,qX];exact aH (aH (bY (wpAny_nextOf_list_end a h j hx k)))
theorem Jp{M T I l:dF}{f:bM}{n i:Nat}{items:Array bM}{x:bM}{Q:Option bM→tU}(c:s.heap.get? M=some (rK T f))(g:s.heap.get? T=some {cls:=.type "tuple",data:=.seq #[.ref I] n})(h:s.heap.IsListIter I l i)(j:s.heap.IsList l items)(hx:items[i]?=some x)(k:M≠I)
  (m:∀h',h'.IsListIter I l (i+1)→pW I s.heap h'→bT (model prog w) A.in1 (call f [x]) (fun v d=>Q (some v) d) (fun _ _=>False) {s with heap:=h'}):bT (model prog w) A (pyNext (.ref M)) Q E s:=by
 have e:s.TypeIs (.ref M) "map":=⟨_,c,rfl⟩;unfold pyNext;refine aH (Ť (nZ e pE (lO pE e Af (Jr c g h j hx k fun h' a b=>?_) (Bn _))));exact bL (m h' a b) (fun v d z=>⟨v,rfl,aW z⟩) fun _ _ z=>z.elim
theorem Mc{M T I l:dF}{f:bM}{n i:Nat}{items:Array bM}{Q:Option bM→tU}(g:A.handled=aF)(c:s.heap.get? M=some (rK T f))(h:s.heap.get? T=some {cls:=.type "tuple",data:=.seq #[.ref I] n})(j:s.heap.IsListIter I l i)(k:s.heap.IsList l items)(hx:items[i]?=aF)
  (m:∀h',Y7 I s.heap h'→Q aF {s with heap:=h'}):bT (model prog w) A (pyNext (.ref M)) Q E s:=by
 have d:s.TypeIs (.ref M) "map":=⟨_,c,rfl⟩;unfold pyNext;refine aH (Ť (nZ d pE (lO pE d Af (Mh g c h j k hx fun h' e a b=>?_) (Bn _))));obtain ⟨o,p,r⟩:=b;refine aH (aOp ⟨o,p,r⟩ isSubtype_stop ?_);exact aW (m h' a)
end
end
section
open PySem PySem.W PyProof.Rows PySem.Calls
theorem Yg{E:rX}{s:dE}{Q:rX}(a:s.heap.get? q=some (methodObj f self))(b:∀id,f≠.builtin id)
  (h:jI (model prog w) A (.call f ⟨self::vs,[]⟩) (wants Q E) s):bT (model prog w) A (call (.ref q) vs) Q E s:=by
 refine jH (D2 ?_);refine aH (Kb a ?_);clear a;cases f<;>first|exact absurd rfl (b _)|exact aW ⟨rfl,h⟩
section
variable{n:Nat}
theorem aBw{A:kS}{Y:iB}{L M T I l q:dF}{f self:bM}{nT:Nat}{xs:fZ}{ds es:bV}{gx:bM}{R:xH→tU}(ok:wD n A.in1.in1)(hf:∀id,f≠.builtin id)(B:Y L)(yl:Y I)(hLM:L≠M)(ym:L≠I)(hLT:L≠T)(hLq:L≠q)(hLl:L≠l)(re:M≠I)(hIT:T≠I)(C:q≠I)(hIl:l≠I)
  (hSL:S.heap.get? L=aF) (hSI:S.heap.get? I=aF) (hpd:cS ds=true) (aw:xs.length≤lim) (D:es.length=ds.length)
  (hfn:∀(i:Nat) d e,ds[i]?=some d→es[i]?=some e→Yl n f [.fn self,d] (fun r=>r=e)):
  ∀(k i:Nat)(h:dT)(tk:Nat)(t:fZ)(c:Nat),xs.length-i=k→i≤xs.length→(∀b o,S.heap.get? b=some o→h.get? b=some o)→(∀a,Y a→vC h a)→h.get? M=some (rK T (.ref q))→h.get? T=some {cls:=.type "tuple",data:=.seq #[.ref I] nT}→h.get? q=some (methodObj f self)→h.IsListIter I l i→h.IsList l (aY xs)→bO [] Y h ds xs→IsL h L (aY t) c→bO [] Y h (es.take i) t→
   (∀h' ap J c',(∀b o,b≠L→b≠I→h.get? b=some o→h'.get? b=some o)→IsL h' L (aY J) c'→bO [] Y h' es J→R (.ok (.ret gx)) (jK h' ap))→
   jI (model prog w) A (.builtin "list.extend.loop" ⟨[.ref L,.ref M,gx],[]⟩) R (jK h tk):=by
 intro k
 induction k with
 |zero=>intro i h tk t c N hi hb hY O P hq ik Q F hL G hR;have ln:i=xs.length:=aS 0xe0c14a31584490896604cc1002 N hi;subst ln;refine D3 Lk ?_;refine (?_:bT _ A.in1 (pyNext (.ref M)>>=_) _ _ _);refine aH (Mc ok.hd O P ik Q (by simp) fun h' he=>aW ?_);have W:=F.length;refine hR h' tk t c (fun b o _ y e=>he b o y e) (he L _ ym hL) ?_;rw [(by rw [nV];exact aS 0x1a314880b08961003 D W:es.take xs.length=es)]at G;exact bO.step (fun b o e p=>he b o (fun z=>p (z▸yl)) e) (fun _ _ e=>e) (fun _ e=>.inl e) _ _ G
 |succ k ih=>
  intro i h tk t c N hi hb hY O P hq ik Q F hL G hR;have i9:i<xs.length:=aS 0x30d18a8225a0e304cc1003 N;have W:=F.length;have H:i<ds.length:=aS ö i9 W;have v8:i<es.length:=aS 0x2b18a8025846a18961004 D i9 W;obtain ⟨x,ex,rx⟩:=F.get (i:=i) (d:=ds[i]) (by simp [H]);refine D3 Lk ?_;refine (?_:bT _ A.in1 (pyNext (.ref M)>>=_) _ _ _);refine aH (Jp O P ik Q (by simpa using ex) re fun h₁ km un=>?_);have g:∀b o,b≠I→h.get? b=some o→h₁.get? b=some o:=fun b o y e=>(un.2 b y).trans e;have uo:∀d v,bO [] Y h d v→bO [] Y h₁ d v:=bO.step (fun b o e p=>g b o (fun z=>p (z▸yl)) e) (fun _ _ e=>e) (fun _ e=>.inl e);have l6:∀a,Y a→vC h₁ a:=fun a ya=>by
   by_cases z:a=I
   ·subst z;obtain ⟨o,u,_⟩:=km;exact ⟨o,u⟩
   ·obtain ⟨o,u⟩:=hY a ya;exact ⟨o,g a o z u⟩
  have px:∀b o,S.heap.get? b=some o→h₁.get? b=some o:=fun b o e=>g b o (fun z=>by rw [z,hSI]at e;exact hU e) (hb b o e);refine (?_:bT _ _ (call (.ref q) [x]) _ _ (jK h₁ tk));refine Yg (s:=jK h₁ tk) (g q _ C hq) hf (oV (hfn i ds[i] es[i] (by simp [H]) (by simp [v8]) A.in1.in1 Y h₁ tk [self,x] ok px l6 (.cons (by rfl) (.cons ((gG.step (fun b o e p=>g b o (fun z=>p (z▸yl)) e) (fun _ _ e=>e) (fun _ e=>.inl e)) _ _ rx) .nil))) fun r s' z=>?_);rcases r with e|(_|_|_|v)<;>first|exact z.elim|skip
  obtain ⟨X,bg,r',rfl,j,pr,rr,rfl⟩:=z;have nh:IsL X L (aY t) c:=j _ _ (g L _ ym hL);have uq:=G.length;refine aH (D0 nh rfl (aW ⟨plainId_quiet Lh _,?_⟩) (by simp [uq];have:=pA;exact aS aKq aw hi this) (by simp [uq];have:=pA;exact aS aKq aw hi this));have hn:=nh.update (·.push v);have m:∀b o,b≠L→X.get? b=some o→(X.update L (iI (·.push v))).get? b=some o:=fun b o Z e=>(gF _ _ (qZ Z)).trans e;have i7:∀d v',bO [] Y h₁ d v'→bO [] Y (X.update L (iI (·.push v))) d v':=bO.step (fun b o e p=>m b o (fun z=>p (z▸B)) (j b o e)) (fun _ _ e=>e) (fun _ e=>.inl e);refine ih (i+1) _ bg (t++[v]) _ (by exact aS 0x12442211012654595462b2016839033320e20ccc1003 N) i9 (fun b o e=>m b o (fun z=>by rw [z,hSL]at e;exact hU e) (j b o (px b o e))) (fun a ya=>?_) (m M _ (qZ hLM) (j _ _ (g M _ re O))) (m T _ (qZ hLT) (j _ _ (g T _ hIT P))) (m q _ (qZ hLq) (j _ _ (g q _ C hq))) (km.at fun o e=>m I o (qZ ym) (j I o e)) ?_ (i7 _ _ (uo _ _ F)) (by have z:=hn;simp at z;exact z) ?_ fun h' ap J c' k4 h4 r4=>?_
  ·by_cases z:a=L
   ·subst z;exact ⟨_,hn⟩
   ·obtain ⟨o,u⟩:=l6 a ya;exact ⟨o,m a o z (j a o u)⟩
  ·obtain ⟨o,u,rr⟩:=Q;exact ⟨o,m l o (qZ hLl) (j l o (g l o hIl u)),rr⟩
  ·rw [List.take_succ_eq_append_getElem v8];exact (i7 _ _ (uo _ _ G)).append (.cons ((gG.step (fun b o e p=>m b o (fun z=>p (z▸B)) e) (fun _ _ e=>e) (fun _ e=>.inl e)) _ _ rr) .nil)
  ·exact hR h' ap J c' (fun b o Z y e=>k4 b o Z y (m b o Z (j b o (g b o y e)))) h4 r4
end
end
section
open PySem PySem.W PyProof.Rows PySem.Calls
section
theorem ă{A:kS}{E:rX}{s:dE}{M T:dF}{f:bM}{Q:rX}(b:s.heap.get? M=some (rK T f))(h:Q (.ref M) s):bT (model prog w) A (pyIter (.ref M)) Q E s:=by have a:s.TypeIs (.ref M) "map":=⟨_,b,rfl⟩;refine wpAny_pyIter_slot a Bg (lO Bg a Ir ?_ (J7 _));exact aW ⟨_,rfl,"map",_,a,pE.lookup,h⟩
theorem Pg{A:kS}{E:rX}{s:dE}{M T:dF}{f:bM}{Q:rX}(c:s.heap.get? M=some (rK T f))
  (m:∀h' n,(∀b o,s.heap.get? b=some o→h'.get? b=some o)→IsL h' s.heap.objs.size #[] n→jI (model prog w) A.in1 (.builtin "list.extend.loop" ⟨[.ref s.heap.objs.size,.ref M,.none],[]⟩) (wants (fun r p=>r=.none∧Q (.ref s.heap.objs.size) p) E) {s with heap:=h'}):
  bT (model prog w) A (call (.type "list") [.ref M]) Q E s:=by
 have t:=dQ c;have d:=jU t;refine callType_codes (Q₁:=fun obj i=>obj=.ref s.heap.objs.size∧i={s with heap:=s.heap.push {cls:=.type "list",data:=.seq #[]}}) PySem.F.called_list (PySem.F.typeCall_list_1 _) PySem.F.entry_list_init (code_list_new _ ⟨rfl,rfl⟩) fun obj i h₁=>?_;obtain ⟨rfl,rfl⟩:=h₁;have a:(s.heap.push {cls:=.type "list",data:=.seq #[]}).get? s.heap.objs.size=some {cls:=.type "list",data:=.seq #[]}:=cA _ rfl;refine ⟨⟨_,a,rfl⟩,PySem.F.args_list_init_2 _ _,?_⟩;show bT _ A.in1.in1 (do let old←Ji (.ref s.heap.objs.size);aO5 (.ref s.heap.objs.size) (fun _=> #[]);letGo old.toList.reverse;E8 (.ref s.heap.objs.size) (.ref M) .none) _ _ _;refine aH ?_;unfold Ji;refine aH (yX a rfl (aW ?_));refine aH (D0 a rfl ?_);have j:=jJ (iI (fun _=>(#[]:Array bM))) a rfl;have g:∀b o,s.heap.get? b=some o→((s.heap.push {cls:=.type "list",data:=.seq #[]}).update s.heap.objs.size (iI (fun _=>(#[]:Array bM)))).get? b=some o:=fun b o e=>
  (gF _ _ (qZ (fM (dQ e)))).trans (cF _ e)
 refine aH (wpAny_letGo ?_);unfold E8;have h:∀tk,({s with heap:=(s.heap.push {cls:=.type "list",data:=.seq #[]}).update s.heap.objs.size (iI (fun _=>(#[]:Array bM))),toks:=tk}:dE).TypeIs (.ref M) "map":=fun tk=>⟨_,g M _ c,rfl⟩;refine aH (wpAny_typeOf (h s.toks) ?_);have u:Gq (.ref s.heap.objs.size) (.ref M)=false:=by simp [Gq,d]
 have v:(lB "map"==lB "list")=false:=by decide
 have x:(lB "map"==lB "tuple")=false:=by decide
 simp only [u,v,x,aMq,lF,if_false];refine aH (ă (g M _ c) ?_);refine aH (bY ?_);unfold aO7;refine aH (xF (h s.toks) Sd ?_);refine aH (xF (h s.toks) Pd ?_);refine aW ?_;refine aH (yY (aH ?_));refine aH (D0 j rfl ?_);have k:=jJ (iI (·.push jA)) j rfl;refine D0 k rfl ?_;have y:=jJ (iI (·.pop)) k rfl;refine aW ⟨plainId_quiet Lh _,m _ _ (fun b o e=>?_) y⟩;have l:=qZ (fM (dQ e));exact (gF _ _ l).trans ((gF _ _ l).trans (g b o e))
end
end
section
open PySem PySem.W PyProof.Rows PySem.Calls
def æ:V→nX:=fun v=>ob (J6 v) (aI3 fun a b c=>aN (some (.mt [.int a,.int b,.int c])))
@[elab_as_elim] theorem Uu {P:V→V→Prop} (e:æ v=some r) (k:∀a b c,P (.tup [.int a,.int b,.int c]) (.mt [.int a,.int b,.int c])):P v r:=by refine Un e ?_;clear e;intro l e;refine I0 e ?_;clear e;intro a b c t e;refine oM e ?_;clear e;intro e;refine nW e ?_;rintro rfl;exact k a b c
def ģ(g:M V):M V:=fun σ=>bd (g σ) fun a σ=>ob (Iy σ a) fun l=>ob (nF æ l) fun l'=>if l.length≤lim then some (.lst l',σ)else aF
theorem ë{g:V→nX}:∀{l l':bV},nF g l=some l'→l'.length=l.length∧∀(i:Nat) d e,l[i]?=some d→l'[i]?=some e→g d=some e:=by
 intro k
 induction k with
 |nil=>intro l';intro h;refine nW h ?_;rintro rfl;exact ⟨rfl,fun i d e q=>by simp at q⟩
 |cons v l m=>
  intro l';intro h;simp only [A1,A0]at h
  cases c:g v with
  |none=>rw [c]at h;exact hU h
  |some o=>
   cases f:nF g l with
   |none=>rw [c,f]at h;exact hU h
   |some r=>
    replace h:=c▸h;replace h:=f▸h;refine nW h ?_;rintro rfl;obtain ⟨a,b⟩:=m f;refine ⟨by simp [a],fun i d e q j=>?_⟩
    cases i with
    |zero=>simp at q j;subst q j;exact c
    |succ i=>exact b i d e (by exact q) (by exact j)
theorem W2:∀{l l':bV},nF æ l=some l'→cS l=true∧cS l'=true:=by
 intro l
 induction l with
 |nil=>intro l' h;refine nW h ?_;rintro rfl;exact ⟨rfl,rfl⟩
 |cons v l d=>intro l' h;replace h:=Eg h;obtain ⟨f,r,c,e,rfl⟩:=h;obtain ⟨a,b⟩:=d e;revert c;refine fun c=>Uu c fun _ _ _=>?_;exact ⟨a,b⟩
section
variable{n:Nat}{F:Fx}{K:As}{pn fn pm fm:dF}
theorem aBe(hK:K.In S.heap)(mo:yW K pn fn pm fm)(fk:iL F)
  (x1:kC (n+1) F (.Name "list" p1) (gK (.fn (.type "list")))) (x2:kC (n+1) F (.Name "map" C) (gK (.fn (.type "map")))) (x3:kC (n+1) F (.Name "Match" t) (gK (.fn (.ref rJ)))) (y:kC (n+1) F e g)
  (uv:∀a b c:Int,Yl n (.ref fm) [.fn (.ref rJ),.tup [.int a,.int b,.int c]] (fun r=>r=.mt [.int a,.int b,.int c]))
  (he1:eval (.Call (.Name "list" p1) [.Call (.Name "map" C) [.Attribute (.Name "Match" t) "_make" u,e] [] G] [] p6) F.env=(do lA p6 (←eval (.Name "list" p1) F.env) [] (backTo p6 (dR [.Call (.Name "map" C) [.Attribute (.Name "Match" t) "_make" u,e] [] G] F.env)) []))
  (he2:eval (.Call (.Name "map" C) [.Attribute (.Name "Match" t) "_make" u,e] [] G) F.env=(do lA G (←eval (.Name "map" C) F.env) [] (backTo G (dR [.Attribute (.Name "Match" t) "_make" u,e] F.env)) []))
  (O:dR [.Call (.Name "map" C) [.Attribute (.Name "Match" t) "_make" u,e] [] G] F.env=(false,eval (.Call (.Name "map" C) [.Attribute (.Name "Match" t) "_make" u,e] [] G) F.env)::dR [] F.env)
  (Q:dR [.Attribute (.Name "Match" t) "_make" u,e] F.env=(false,eval (.Attribute (.Name "Match" t) "_make" u) F.env)::dR [e] F.env) (R:dR [e] F.env=(false,eval e F.env)::dR [] F.env):
  kC (n+1) F (.Call (.Name "list" p1) [.Call (.Name "map" C) [.Attribute (.Name "Match" t) "_make" u,e] [] G] [] p6) (ģ g):=fun σ v σ' p=>by
 replace p:=dZ p;obtain ⟨a,σ₁,e1,p⟩:=p;replace p:=dS p;obtain ⟨l,e2,p⟩:=p;replace p:=dS p;obtain ⟨l',e3,p⟩:=p;split at p
 case isFalse=>(exact hU p)
 rename_i d6;refine Jl p ?_;rintro rfl rfl;intro A X D h tk vs ok m _;refine (?_:bT _ _ (eval (.Call (.Name "list" p1) [.Call (.Name "map" C) [.Attribute (.Name "Match" t) "_make" u,e] [] G] [] p6) F.env) _ _ _);refine aH (TW.atE (x1 σ _ _ rfl) ok m bO.nil ?_);rintro fv h₀ gh D₀ cv m₀ e8;subst e8;refine callWith_type1 (B9 ?_ O) O rfl;refine aH (TW.atE (x2 _ _ _ rfl) ok m₀ bO.nil ?_);rintro fv h₁ ae D₁ ah ag av;subst av;refine callWith_type1 (B9 ?_ Q) Q (by refine R▸?_;rfl);refine (?_:bT _ _ (eval (.Name "Match" t) F.env>>=fun o=>jD u.atName>>=fun _=>holding [o] (getAttr o "_make" true)>>=fun r=>letTemporaryGo (.Name "Match" t) o r>>=fun _=>pure r) _ _ _);refine aH (TW.atE (x3 _ _ _ rfl) ok ag bO.nil ?_);rintro fv x bg D₂ ar bw da;subst da;obtain ⟨rest,yp⟩:=mo.makeR;refine aH (gC (aH (bY (cls_bind (hK.keeps bw.base) mo.reads mo.make (jH (cm_get (hK.keeps bw.base) yp (handed_on rfl ?_)))))));refine aH (aW (aW ?_));have kq:=dL x (methodObj (.ref fm) (.ref rJ));have mq:=bw.grow kq;have hq0:(x.push (methodObj (.ref fm) (.ref rJ))).get? x.objs.size=some (methodObj (.ref fm) (.ref rJ)):=cA _ rfl;have nq:¬Yf F X D₂ x.objs.size:=fun z=>by exact (bw.yal z).no (eV _)
 refine (?_:bT _ _ _ _ _ (jK (x.push (methodObj (.ref fm) (.ref rJ))) (bg+1)));refine B9 (TW.atE (y _ _ _ e1) ok mq bO.nil ?_) R;rintro lv k J D₃ c9 H g5;refine Tl ?_;replace g5:=Jt H e2 g5;obtain ⟨la,xs,kk,rfl,yq,rx⟩:=g5;have W:=c9.keep _ _ hq0 (fun z=>nq (.inl z)) (fun j z=>nq (.inr (.inr ⟨j,z⟩)));refine Ő yq.isList fun B e4=>?_;refine Tl ?_;refine (?_:bT _ _ (call (.type "list") [.ref (k.objs.size+2)]) _ _ (jK B J));have Z:=e4;have sz:B.objs.size=k.objs.size+3:=by simp only [Z,gJ]
 have k4:∀b o,k.get? b=some o→B.get? b=some o:=fun b o q=>by rw [Z];exact cF _ (cF _ (cF _ q))
 have hM4:B.get? (k.objs.size+2)=some (rK (k.objs.size+1) (.ref x.objs.size)):=by refine Z▸?_;have z:=cA (o:=rK (k.objs.size+1) (.ref x.objs.size)) ((k.push (Kv la)).push {cls:=.type "tuple",data:=.seq #[.ref k.objs.size]}) rfl;rwa[gJ,gJ]at z
 have hT4:B.get? (k.objs.size+1)=some {cls:=.type "tuple",data:=.seq #[.ref k.objs.size]}:=by refine Z▸?_;refine cF _ ?_;have z:=cA (o:={cls:=.type "tuple",data:=.seq #[.ref k.objs.size]}) (k.push (Kv la)) rfl;rwa[gJ]at z
 have v3:B.get? k.objs.size=some (Kv la):=by rw [Z];exact cF _ (cF _ (cA _ rfl))
 have lq:x.objs.size<k.objs.size:=dQ W;have ll:la<k.objs.size:=dQ yq;have fr:∀b,k.objs.size≤b→k.get? b=aF:=fun b hb=>by
  cases q:k.get? b with
  |none=>rfl
  |some o=>exact absurd (dQ q) (kJ.mpr hb)
 have frS:∀b,k.objs.size≤b→S.heap.get? b=aF:=fun b hb=>by
  cases q:S.heap.get? b with
  |none=>rfl
  |some o=>have z:=H.base _ _ q;rw [fr b hb]at z;exact hU z
 have f5:∀b,Yf F X D₃ b→vC k b:=fun b z=>by
  rcases z with z|z|⟨j,z⟩
  ·exact (H.zfr b z).2
  ·exact H.xal b z
  ·exact (H.sep j b z).h
 refine nn fun ng=>?_;obtain ⟨pl,pl'⟩:=W2 e3;obtain ⟨yr,mk'⟩:=ë e3;refine ng ?_;refine Pg (s:=jK B J) hM4 fun d5 ux k5 hL5=>?_;refine (?_:jI _ _ _ _ (jK d5 J));have uy:IsL d5 (k.objs.size+3) (aY []) ux:=by have z:=hL5;rw [show (jK B J).heap.objs.size=k.objs.size+3 from sz]at z;exact z
 refine (show (jK B J).heap.objs.size=k.objs.size+3 from sz)▸?_;have L:∀b o,k.get? b=some o→d5.get? b=some o:=fun b o q=>k5 b o (k4 b o q);have hYs:∀b,(Yf F X D₃ b∨b=k.objs.size+3∨b=k.objs.size)→Yf F X D₃ b∨k.get? b=aF:=fun b z=>by
  rcases z with z|rfl|rfl
  ·exact .inl z
  ·exact .inr (fr _ (dW _ _))
  ·exact .inr (fr _ (bG _))
 refine aBw (A:=A.in1) (Y:=fun b=>Yf F X D₃ b∨b=k.objs.size+3∨b=k.objs.size) (M:=k.objs.size+2) (T:=k.objs.size+1) (I:=k.objs.size) (l:=la) (q:=x.objs.size) (f:=.ref fm) (self:=.ref rJ) (xs:=xs) (ds:=l) (es:=l') (⟨ok.hd,by have:=ok.dep;simp only [ų];exact aS 0xc62a12201d180a1220838746003 this,by have:=ok.uni;simp only [Gr];exact aS 0x318a848e70e88074741d0741c0a1239c3a20838747003 this⟩:wD n A.in1.in1.in1) (fun id z=>by cases z) (.inr (.inl rfl)) (.inr (.inr rfl)) (jU (gQ _)) (jU (fC (by decide))) (jU (E5 (by decide) _)) (jU (cG lq (dW _ _))) (jU (cG ll (dW _ _))) (jU (fC (by decide))) (jU (gQ _)) (fM lq) (fM ll)
  (frS _ (dW _ _)) (frS _ (bG _)) pl (by refine rx.length▸?_;exact d6) yr (fun i d ee hd hee=>?_) xs.length 0 d5 J [] ux rfl (cJ _) (fun b o q=>L b o (H.base b o q)) (fun b z=>?_) (k5 _ _ hM4) (k5 _ _ hT4) (L _ _ W) ⟨_,k5 _ _ v3,rfl,rfl⟩ ?_ (bO.stepP (fun b o q _=>L b o q) hYs _ _ pl rx) uy (by exact bO.nil) fun h' ap gk c' k6 hL6 r6=>?_
 ·have z:=mk' i d ee hd hee;exact Uu (P:=fun d ee=>Yl n (.ref fm) [.fn (.ref rJ),d] (fun r=>r=ee)) z fun a b c=>uv a b c
 ·rcases z with z|rfl|rfl
  ·obtain ⟨o,N⟩:=f5 b z;exact ⟨o,L b o N⟩
  ·exact ⟨_,uy⟩
  ·exact ⟨_,k5 _ _ v3⟩
 ·obtain ⟨o,N,rr⟩:=yq.isList;exact ⟨o,L _ _ N,rr⟩
 ·have kf:∀b o,k.get? b=some o→h'.get? b=some o:=fun b o q=>k6 b o (fun z=>by rw [z,fr _ (dW _ _)]at q;exact hU q) (fun z=>by rw [z,fr _ (bG _)]at q;exact hU q) (L b o q);refine ⟨rfl,h',ap,D₃,_,_,rfl,(((cv.trans ah).trans ar).trans ((oU.grow kq).trans c9)).trans (oU.grow kf),H.grow kf,?_,rfl,rfl⟩;refine ⟨k.objs.size+3,gk,rfl,fun z=>?_,⟨c',hL6⟩,bO.stepP (fun _ _ e _=>e) (fun b z=>.inl (.inl z)) _ _ pl' r6⟩;obtain ⟨o,N⟩:=f5 _ z;rw [fr _ (dW _ _)]at N;exact hU N
end
end
section
open PySem PySem.W PyProof.Rows PySem.Calls
section
variable{n:Nat}{F:Fx}{K:As}{pn fn pm fm:dF}
theorem Ï(b:K.In S.heap)(c:yW K pn fn pm fm)(d:findIn K (.ref rJ) "__len__"=some (some (.builtin "tuple.__len__"))):Dr n F (.builtin "len") aEu:=fun us σ r σ' e=>by
 refine nQ e ?_;clear e;intro _ _ e;refine oM e ?_;clear e;intro e;refine Ú e ?_;clear e;intro l e;replace e:=iC e;obtain ⟨s,e⟩:=e;refine Jl e ?_;rintro rfl rfl;intro A X D h tk vs ok m r;obtain ⟨_,_,rfl,⟨x,xs,rfl,nx,hx,f⟩,g⟩:=r;cases g;have a:=f.length;have XX:=b.keeps m.base;have i:=rI (M:=model prog w) hx;have l1:=looks_findIn (M:=model prog w) XX d;have b1:rQ (model prog w) h (bindSpecial (.builtin "tuple.__len__") (.ref x)) (.builtin "tuple.__len__",[.ref x]):=kQ (PySem.F.slot_tuple_len.bind _);refine nn fun j=>?_;obtain ⟨t,k,u,o,p⟩:=hx;refine j ?_;have fin:∀{R:xH→tU}{A':kS}{tk:Nat},R (.ok (.ret (.int (xs.length:Int) tk))) (jK h (tk+1))→jI (model prog w) A' (.call (.builtin "tuple.__len__") ⟨[.ref x],[]⟩) R (jK h tk):=fun r=>by refine qK PySem.F.slot_tuple_len.plain PySem.F.entry_tuple_len (@check_slot (model prog w) _ _ _ "tuple.__len__" "tuple" "__len__" (.ref x) [] [] _ (by decide+kernel) (by decide+kernel) (i.andThen (Ed XX c (by decide))) (PySem.F.args_tuple_len_1 _) ?_);unfold Ob.«tuple.__len__»;refine aH (aW ?_);dsimp only;refine aH (aH (yX k p (aW ?_)));exact aH (wpAny_mkInt (aW r))
 refine Oi kind_len plain_len entry_len (args_len1 _) ?_;unfold Ob.«len»;refine aH (aW ?_);refine aH ?_;unfold callSpecial? specialOf;repeat (first|(with_reducible refine jH (fin ?_))|lk)
 rw [if_neg (by rw [a];lia)];refine aH (wpAny_mkInt (aW ⟨_,rfl,h,_,D,σ,_,rfl,.refl,m,?_,rfl,rfl⟩));refine (?_:gG D (Yf F X D) h (.int (l.length:Int)) (.int (xs.length:Int) _));refine a▸?_;exact nL
end
end
section
open PySem PySem.W PyProof.Rows PySem.Calls
theorem O2{Y:iB}:∀{A B:bH}{xs:fZ},bO D Y h (A.map V.int) xs→bO D Y h (B.map V.int) xs→A=B:=by
 intro d
 induction d with
 |nil=>
  intro f
  cases f with
  |nil=>intro _;intro _;intro _;exact rfl
  |cons b B=>intro xs;intro r;intro c;simp only [Gl,cC,nU,nR]at r c;subst r;obtain ⟨_,_,e,_⟩:=c;cases e
 |cons a A g=>
  intro i
  cases i with
  |nil=>intro xs;intro r;intro c;simp only [Gl,cC,nU,nR]at r c;subst c;obtain ⟨_,_,e,_⟩:=r;cases e
  |cons b B=>intro xs;intro r;intro c;simp only [cC,nU,nR]at r c;obtain ⟨_,_,rfl,⟨t,rfl⟩,j⟩:=r;obtain ⟨_,_,e,⟨l,k⟩,r2'⟩:=c;cases e;cases k;rw [g j r2']
section
variable{n:Nat}{F:Fx}{σ:St}{Q:V→iS}
theorem G8(i:((∃A,v=vL A)∧(c=.none∨(∃B,c=vL B)∨∃s,c=.str s))∨((∃s,v=.str s)∧c=.none))(q:∀b,(b=true→v=c)→Q (.bool b) σ):TW rV n F [v,c] (two (compareOp .Is)) σ Q:=tK fun A X D h tk u r ok m g d=>by
 have f:uC rV F X D h Q (.bool false) (jK h tk):=gY m pG (q false (fun z=>by cases z));rcases i with ⟨⟨A,rfl⟩,j⟩|⟨⟨s,rfl⟩,rfl⟩
 ·obtain ⟨a,xs,rfl,x,⟨k,hx⟩,l⟩:=g;rcases j with rfl|⟨B,rfl⟩|⟨s,rfl⟩
  ·subst d;exact Yq rfl (fun z=>by cases z) f
  ·obtain ⟨b,o,rfl,nb,⟨y,hy⟩,p⟩:=d;by_cases e:a=b
   ·subst e;have:xs=o:=by have z:=hx.symm.trans hy;cases z;rfl
    subst this;exact wpAny_is_ref_self (gY m pG (q true fun _=>by rw [O2 l p]))
   ·exact wpAny_is_ref_other e hx hy (show lB "list"≠lB "tuple" by decide) f
  ·obtain ⟨t,rfl⟩:=d;exact Yq rfl (fun z=>by cases z) f
 ·obtain ⟨t,rfl⟩:=g;subst d;exact Yq rfl (fun z=>by cases z) f
end
end
section
set_option backward.match.sparseCases false
open PySem PySem.W PyProof.Rows PySem.Calls
def ń:pV:=fun us σ=>aN (some (.set0,σ)) us
def Ň:pV:=fun us σ=>aV (fun u=>aN (ob (aL5 u) fun s=>if s.length≤lim then some (.int s.length,σ)else aF)) us
section
variable{n:Nat}{F:Fx}
theorem O5:Dr n F (.type "set") ń:=fun us σ r σ' e=>by
 refine oM e fun e=>?_
 ·intro A X D h tk vs ok m r;obtain rfl:=r;refine call_set_0 fun a=>?_;have b:=dL h {cls:=.type "set",dict:=aF,data:=.set #[] 0 (.fresh 0 0 a)};refine ⟨_,tk,D,σ,_,rfl,oU.grow b,m.grow b,?_,.of e⟩;refine ⟨h.objs.size,rfl,fun q=>?_,a,cA _ rfl⟩;exact (m.yal q).no (eV _)
theorem Î:Dr n F (.builtin "len") Ň:=fun us σ r σ' e=>by refine nQ e fun _ _ e=>?_;refine oM e fun e=>?_;refine aF8 e fun s e=>?_;obtain ⟨b,e⟩:=iC e;intro A X D h tk vs ok m r;obtain ⟨_,_,rfl,⟨t,rfl⟩,a⟩:=r;cases a;refine len_str (by have c:lim=1048576:=rfl;lia) ?_;exact ⟨h,_,D,σ,_,rfl,.refl,m,nL,.of e⟩
end
end
section
open PySem PySem.W PyProof.Rows PySem.Calls
section
variable{n:Nat}{F:Fx}
theorem Zc{Q:Fl→iS}(fk:iL F)(x:kC n F (.Name "enumerate" p) (gK (.fn (.type "enumerate"))))(i:nE F [arg])(y:kC n F arg l)(C:dR [arg] F.env=(false,eval arg F.env)::dR [] F.env)
  (he:eval (.Call (.Name "enumerate" p) [arg] [] ipos) F.env=(do lA ipos (←eval (.Name "enumerate" p) F.env) [] (backTo ipos (dR [arg] F.env)) []))
  (G:∀x,foldedSetIterable (.Call (.Name "enumerate" p) [arg] [] ipos) F.env x=pure x) (H:l σ=some (.str (aC ""),σ₁)) (q:Q .next σ₁):
  XW k n F (.For (.Tuple es c tpos) (.Call (.Name "enumerate" p) [arg] [] ipos) body [] ak) σ Q:=by
 intro A X D h tk ok m;refine ŭ ?_ G;refine aH (TW.atE (x σ _ _ rfl) ok m bO.nil ?_);rintro fv h₀ gh D₀ I m₀ J;subst J;have L:yK n F ipos [arg] (aK l bI):=cR y aO C;refine kE (lL i) (pU i (L _ [.str (aC "")] σ₁ (by simp [aK,H,bd,bI])) ok m₀ ?_);rintro gv h₁ f D₁ _ _ N O P ⟨rfl,rfl⟩;obtain ⟨_,_,rfl,⟨t,rfl⟩,rfl⟩:=P;refine call_enumerate_str fun a r g t7 R=>?_;have W:=WalksT.enumerateD (prog:=prog) (w:=w) (Draws.strAscii (A:=A.in1) ok.hd h₁.objs.size (aC "") t) (h₁.objs.size+1) (Aq _) (by simp) (by simp);have s:a.IsStrIter h₁.objs.size "str_ascii_iterator" (aC "") t 0:=by
  have z:strIterType (aC "")="str_ascii_iterator":=by decide+kernel
  replace g:=z▸g;exact g
 refine W.self 0 (jK a f) _ _ ⟨⟨_,r⟩,s⟩ ?_;refine I7 (fun j u=>j=1∧u=jK a f) (fun j u T=>?_) 1 ⟨rfl,rfl⟩;obtain ⟨rfl,rfl⟩:=T;have h0:(aC "").cps.size=0:=by decide+kernel
 refine W.done (jK a f) _ _ ⟨⟨_,r⟩,s⟩ fun v Y Z=>xG ?_;have B:∀b o,h₁.get? b=some o→v.get? b=some o:=fun b o e=>Z b o (fun z=>by
  have d:=dQ e;rcases aR.mp z with z|z
  ·rw [z]at d;exact absurd d (kJ.mpr (jG _))
  ·rw [aM.mp z]at d;exact absurd d (fP _)) (R b o e)
 exact ⟨v,Y,D₁,_,.next,rfl,((I.trans N).trans (oU.grow B)).toK k,O.grow B,J8.next,q⟩
end
end
section
set_option backward.match.sparseCases false
open PySem PySem.W PyProof.Rows PySem.Calls
section
variable{n:Nat}
theorem Hc(b:∀as,Bp m as→qV n f (.attrs as) ds (fun c r=>∃a,c=.attrs a∧Bp m' a∧r=r0)):qV n f (.mat m) ds (fun c r=>c=.mat m'∧r=r0):=by intro A Y h tk x c vs ok d e g i j hx cr k;obtain ⟨as,l,o⟩:=cr;refine bL (b as l A Y h tk x c vs ok d e g i j hx o k) (fun v F p=>?_) fun _ _ z=>z;obtain ⟨h',s,c1,r,rfl,t,u,G,y,B,C,a,rfl,D,rfl⟩:=p;exact ⟨h',s,.mat m',r,rfl,t,u,trivial,y,⟨a,D,B⟩,C,rfl,rfl⟩
end
end
section
set_option backward.match.sparseCases false
open PySem PySem.W PyProof.Rows PySem.Calls
theorem P6{E:rX}{s:dE}{f:Int→Option bM}{Q:rX}(x:š s.heap d f n)(p:n≤hW)
  (j:∀u,f k=some u→Q u {s with toks:=s.toks+1})
  (l:f k=aF→∀h',š h' d (fun y=>if y=k then some v else f y) (n+1)→pW d s.heap h'→Q v {s with heap:=h',toks:=s.toks+1}):bT (model prog w) A (dictSetDefault d (.int k t) v) Q E s:=by
 refine nn fun m=>?_;obtain ⟨es,r,b,h,le,c⟩:=x.ex;refine m ?_;refine bY (aH (aOo ?_));refine aH (aMm b rfl h ?_)
 cases hi:es.findIdx? fun e=>qY k e.key with
 |some i=>
  have a:f k=(es[i]?).map (·.val):=by simp only [←c k,findBy_of_findIdx?,hi]
  refine aH (wpAny_dictEntries b rfl ?_)
  cases g:es[i]? with
  |none=>exfalso;have:=Array.findIdx?_eq_some_iff_findIdx_eq.mp hi;have o:=this.1;rw [Oj o]at g;exact nomatch g
  |some e=>simp only [g]at a;exact aH (yY (aW (j e.val a)))
 |none=>
  refine aH (yY (aH (aIh b rfl (aW (l (by simp only [←c k,findBy_of_findIdx?,hi]:f k=aF) _ ⟨_,_,jJ _ b (E3 (Ŧ rfl _)),h.push k t v,?_,fun y=>?_⟩ (oP ..))))))
  ·simp only [aE6];exact aS ø le
  ·refine (findBy_push qY es k y _ _ v (fun z=>?_) hi).trans (by rw [c]);refine (?_:(k==z)=decide (z=k));by_cases e:z=k
   ·simp [e]
   ·have:¬k=z:=fun q=>e q.symm;simp [e,this]
def K8:pV:=fun us σ=>aV (fun u=>aV fun y=>aV fun d=>aN (ob (Ix u) fun n=>ob (Iz y) fun k=>aD σ n fun p=>if p.1.length≤lim then
 ((p.1.zip p.2).lookup k).elim (some (d,{σ with cells:=kX n (.dict (k::p.1) (d::p.2)) σ.cells})) fun v=>some (v,σ)else aF)) us
def aA8(σ:St):V→Bool
 |.ref n=>match lk σ.cells n with
  |some (.dict _ _)=>true
  |_=>false
 |_=>false
theorem aA7(h:aA8 σ u=true):∃j ks vs,u=.ref j∧lk σ.cells j=some (.dict ks vs):=by
 cases u<;>first|cases h|skip
 rename_i j;unfold aA8 at h;dsimp only at h
 cases e:lk σ.cells j with
 |none=>replace h:=e▸h;cases h
 |some c=>cases c<;>simp only [e]at h<;>first|exact ⟨j,_,_,rfl,e⟩|cases h
def aBu(d:pV)(go:M V)(ga:M bV):M V:=fun σ=>bd (go σ) fun u σ=>if aA8 σ u=true then bd (ga σ) fun us σ=>d (u::us) σ else aF
section
variable{n:Nat}{F:Fx}{K:As}
theorem W0(fk:iL F)(C:vC S.heap sysModules):OpB n F "dict.setdefault" K8:=fun us σ v σ' e=>by
 refine nQ e ?_;clear e;intro _ _ e;refine nQ e ?_;clear e;intro _ _ e;refine nQ e ?_;clear e;intro Y _ e;refine oM e ?_;clear e;intro e;refine Kp e ?_;clear e;intro j e;refine yR e ?_;clear e;intro k e;replace e:=aDl e;obtain ⟨ks,vs,Z,e⟩:=e;replace e:=iC e;obtain ⟨L,e⟩:=e;intro A X D h tk ws ok m r;obtain ⟨u,_,rfl,r1,y,_,rfl,r2,z,_,rfl,N,r4⟩:=r;cases r4;obtain ⟨a,rfl,G⟩:=r1;obtain ⟨t,rfl⟩:=r2;obtain ⟨a',g,xs,hx,O⟩:=m.cel j _ Z;replace g:=G▸g;cases g;have hd:(a==sysModules)=false:=by
  cases q:a==sysModules with
  |false=>rfl
  |true=>obtain ⟨o,i⟩:=C;replace i:=(eq_of_beq q)▸i;replace i:=((m.sep j a G).b)▸i;cases i
 refine nn fun H=>?_;obtain ⟨P,f,df,x⟩:=mD.mp hx;refine H ?_;have Q:(∀u,f k=some u→uC rV F X D h (B8 v σ') u {jK h tk with toks:=tk+1})→(f k=aF→∀h',š h' a (fun y=>if y=k then some z else f y) (ks.length+1)→pW a h h'→uC rV F X D h (B8 v σ') z {jK h tk with heap:=h',toks:=tk+1})→ks.length≤hW→
   bT (model prog w) A (Qa "dict.setdefault" [lR a,Cd k t,z]) (uC rV F X D h (B8 v σ')) (fun _ _=>False) (jK h tk):=fun q1 q2 d=>by
  have mt:MeetsIn prog w (Ob.«dict.setdefault» ⟨[lR a,Cd k t,z],[]⟩) (fun _ R s=>∃f n,š s.heap a f n∧n≤hW∧(∀u,f k=some u→R (.ok (.ret u)) {s with toks:=s.toks+1})∧(f k=aF→∀h',š h' a (fun y=>if y=k then some z else f y) (n+1)→pW a s.heap h'→R (.ok (.ret z)) {s with heap:=h',toks:=s.toks+1})):=
   .of_wp fun A R s ⟨f,n,T,d,C,h2⟩=>by unfold Ob.«dict.setdefault»;refine aH ?_;refine aH (aE0 T.map.typeIs ?_);refine (?_:bT _ _ (pure (a,Cd k t,some z)) _ _ s);refine aW ?_;refine (?_:bT _ _ (if (a==sysModules)=true then _ else (dictSetDefault a (Cd k t) z>>=_)) _ _ s);rw [if_neg (by rw [hd];exact lE)];exact aH (P6 T d (fun v hv=>aW ⟨v,rfl,C v hv⟩) fun l h' jb I=>aW ⟨z,rfl,h2 l h' jb I⟩)
  exact call_meetsIn I8 (df.map.typeIs) PySem.F.entry_dict_setdefault (PySem.F.args_dict_setdefault_3 _ _ _) mt ⟨f,ks.length,df,d,q1,q2⟩
 rcases Y8 k O P with ⟨v1,z1,J,B,g⟩|⟨J,B⟩
 ·rw [J]at e;refine Q (fun u p=>?_) (fun l=>by rw [x,B]at l;cases l) (bZ L pA);rw [x,B]at p;cases p;exact ⟨h,tk+1,D,σ,_,rfl,.refl,m,g,.of e⟩
 ·replace e:=J▸e;refine Jl e ?_;rintro rfl rfl;refine Q (fun u p=>by rw [x,B]at p;cases p) (fun l h' yc I=>?_) (bZ L pA);have d:=Ho P x yc;refine nn fun H=>?_;obtain ⟨oz,yd⟩:=d.lt;obtain ⟨m',W⟩:=m.turn (c:=.dict (k::ks) (Y::vs)) fk G (fun b o hb e=>(I.2 b hb).trans e) ⟨oz,yd⟩ (fun Y' hr fg=>⟨z::xs,d,.cons (hr _ _ N) (fg _ _ O)⟩);refine H ?_;exact ⟨h',_,D,_,_,rfl,W,m',gG.on m W N,rfl,rfl⟩
theorem aBf{o:Expr}{name:jY}{c b:Pos}{args:List Expr}{p:E1 Bool}{id:String}{d:pV}{i:M V}{k:M bV}(slot:Slot "dict" name id)(s:typeOf (.builtin id)=pure (.type "method_descriptor"))(t:Yt "dict")(ob:OpB n F id d)
  (x:kC n F o i) (z:nE F args) (y:yK n F b args k)
  (A:eval (.Call (.Attribute o name c) args [] b) F.env=(do
   let l←eval o F.env
   jD c.atName
   let (f,first)←holding [l] (getMethod l name p)
   lA b f first (backTo b (dR args F.env)) [])):kC n F (.Call (.Attribute o name c) args [] b) (aBu d i k):=fun σ v σ' q=>by
 obtain ⟨u,σ₁,B,q⟩:=dZ q;split at q
 ·rename_i hd;replace q:=dZ q;obtain ⟨us,J,C,q⟩:=q;refine Nh slot s t A z ((x _ _ _ B).mono ?_);refine lM ?_;refine ⟨fun F X D h v m r=>?_,TW.mono (y _ _ _ C) ?_⟩
  ·obtain ⟨j,ks,vs,rfl,G⟩:=aA7 hd;obtain ⟨a,rfl,H⟩:=r;refine nn fun e=>?_;obtain ⟨L,g,xs,hx,N⟩:=m.cel j _ G;refine e ?_;replace g:=H▸g;refine nW g ?_;rintro rfl;refine nn fun e=>?_;obtain ⟨_,f,⟨es,O,I,_⟩,_⟩:=mD.mp hx;refine e ?_;exact ⟨a,_,rfl,I,rfl,rfl⟩
  ·refine lM ?_;exact ob _ _ _ _ q
 ·exact hU q
end
end
section
open PySem PySem.W PyProof.Rows PySem.Calls
theorem Wk.of_lk(b:∀x v,lk σ'.loc x=some v→lk σ.loc x=some v)(d:∀n c,lk σ'.cells n=some c→lk σ.cells n=some c)(f:σ.next≤σ'.next):Wk k σ σ':=fun F X D h fk m=>
 ⟨D,⟨m.base,fun x v e=>m.loc x v (b x v e),m.frm,fun n c e=>m.cel n c (d n c e),m.inj,fun n a e=>let ⟨a1,g,i,j,l⟩:=m.sep n a e;⟨a1,g,i,j,cG l f⟩,m.zfr,m.xal⟩,fun _ _ _ e=>e,fun _ _ e=>e⟩
section
variable{n:Nat}{F:Fx}
theorem Zb{gs:List (V→St→Option St)}{Q:Fl→iS}(fk:iL F)(x:kC n F (.Name "enumerate" p) (gK (.fn (.type "enumerate"))))(d:nE F [arg])(y:kC n F arg z)(B:dR [arg] F.env=(false,eval arg F.env)::dR [] F.env)
  (g:I4 n F es gs)
  (he:eval (.Call (.Name "enumerate" p) [arg] [] ipos) F.env=(do lA ipos (←eval (.Name "enumerate" p) F.env) [] (backTo ipos (dR [arg] F.env)) []))
  (C:∀x,foldedSetIterable (.Call (.Name "enumerate" p) [arg] [] ipos) F.env x=pure x)
  (G:z σ=some (.lst l,σ₁)) (H:cS l=true) (J:Nat→iS) (I:J 0 σ₁)
  (L:∀(i:Nat) σ',i<l.length→J i σ'→∃σ₁,Zt gs [.int i,l.getD i .none] σ'=some σ₁∧SW k n F body σ₁ (aC4 k Q (J (i+1))))
  (done:∀σ',J l.length σ'→Q .next σ'):
  XW k n F (.For (.Tuple es c tpos) (.Call (.Name "enumerate" p) [arg] [] ipos) body [] ak) σ Q:=by
 intro A X D h tk ok m;refine ŭ ?_ C;refine aH (TW.at (x σ _ _ rfl) ok m bO.nil ?_);rintro fv h₀ gh D₀ g8 b N m₀ O ⟨rfl,rfl⟩;subst O;refine kE (lL d) (pU d ((cR y aO B) _ [.lst l] σ₁ (by simp [aK,G,bd,bI])) ok m₀ ?_);rintro gv h₁ P D₁ _ _ R T f ⟨rfl,rfl⟩;simp only [nU,nR]at f;obtain ⟨u,r',rfl,W,rfl⟩:=f;obtain ⟨a,xs,rfl,Y,⟨kk,hx⟩,Z⟩:=W;refine call_enumerate_list hx.isList fun az j hI t7 ot=>?_;have t:∀b,h₁.objs.size≤b→h₁.get? b=aF:=fun b hb=>by
  cases q:h₁.get? b with
  |none=>rfl
  |some o=>exact absurd (dQ q) (kJ.mpr hb)
 refine aMs (s:=jK az P) j ?_;exact oV (Pz fk ok (Aq _) T ot (t _ (jG _)) (t _ (bG _)) ⟨_,j⟩ hI Y hx Z H g J I L done) fun r s' v=>by
  cases r with
  |ok f'=>exact v.on ((N.trans R).toK k)
  |error e=>exact v
end
end
section
variable{n:Nat}{F:Fx}
theorem iZ.outX{X:iB}{base:Nat}(fk:iL F)(B:C∉F.Z)(l:∀x q,lk F.bnd x=some q→x<base)(m:iZ (tB F scope cl C base names) X D σ h):iZ F (iW [C] X) D (Jz base σ) h:=by
 have j:∀a,Yf F (iW [C] X) D a→Yf (tB F scope cl C base names) X D a∨h.get? a=aF:=fun a q=>by
  rcases q with q|q|q
  ·exact .inl (.inl (bB _ q))
  ·rcases q with q|q
   ·exact .inl (.inl (by simp only [aM.mp q];exact aU))
   ·exact .inl (.inr (.inl q))
  ·exact .inl (.inr (.inr q))
 have k:∀d v,gG D (Yf (tB F scope cl C base names) X D) h d v→gG D (Yf F (iW [C] X) D) h d v:=fun d v=>gG.step (fun _ _ e _=>e) (fun _ _ e=>e) j d v;refine ⟨m.base,fun x v e=>?_,fun x p s e=>m.frm x p s (Gc e),fun i c e=>?_,m.inj,fun i a e=>?_,fun a e=>m.zfr a (bB _ e),fun a e=>?_⟩
 ·have b:lk (J0 base σ.loc) x=some v:=e;rw [U2]at b;split at b
  ·rename_i hx;refine nn fun o=>?_;obtain ⟨p,s,u,f,g,r⟩:=m.loc x v b;refine o ?_;rcases A4 l f with q|⟨q,_,_⟩
   ·exact ⟨p,s,u,q,g,k _ _ r⟩
   ·exact dD (aS ð hx q)
  ·exact hU b
 ·obtain ⟨a,f,g⟩:=m.cel i c e;exact ⟨a,f,g.on k (fun d v=>bO.step (fun _ _ e _=>e) (fun _ _ e=>e) j d v) fun _ e=>e⟩
 ·obtain ⟨a1,t,y,z,A⟩:=m.sep i a e;refine ⟨fun q=>a1 (bB _ q),fun q=>?_,y,z,A⟩;rcases q with q|q
  ·exact a1 (by refine (aM.mp q)▸?_;exact aU)
  ·exact t q
 ·rcases e with e|e
  ·simp only [aM.mp e];exact (m.zfr C aU).2
  ·exact m.xal a e
theorem Xr{body:dF→dF→E1 Unit}{gt:V→St→Option St}
  (fk:iL F) (B:∀x q,lk F.bnd x=some q→x<base) (ca:names≠[]) (ha:(g.is_async != 0)=false)
  (uz:swapsWith (.ListComp G (g::gs) scope H) (some (.Name yn py)) spos.line F.env=pure true) (yu:lk F.bnd xi=some (p0,yn)) (ek:Ŗ F.env p0 yn)
  (ou:∀u,evalThenUse (.ListComp G (g::gs) scope H) F.env u=(comprehension (.ListComp G (g::gs) scope H) scope F.env pos' (newList []) false (eval g.iter F.env) (some u)>>=fun _=>pure ()))
  (hf:∀x,foldedSetIterable g.iter F.env x=pure x) (dv:closureFor scope F.env=pure cl) (cu:∀y∈scope.names,y.2≠.cell) (cn:scope.kind=.function)
  (cz:∀y∈scope.names,y.2=.local→scope.names.lookup y.1=some .local)
  (ln:∀C,C∉F.Z→iL (tB F scope cl C base names))
  (d8:∀C a I,compTurn (.ListComp G (g::gs) scope H) 0 (.ref I) (.ref a) (kH scope cl C F.env)=(jD p>>=fun _=>pyNext (.ref I)>>=fun r=>match r with
   |none=>pure (.done .next)
   |some v=>mJ g.target (.ref I) v>>=fun _=>assign g.target (kH scope cl C F.env) v>>=fun _=>body C a>>=fun _=>again (.compLoop (.ListComp G (g::gs) scope H) 0 (.ref I) (.ref a) (kH scope cl C F.env))))
  (x:Y2 n F g.iter gi) (y:∀C,C∉F.Z→I5 n (tB F scope cl C base names) g.target gt)
  (z:∀C a,C∉F.Z→∀σ xs σ',gb σ=some (xs,σ')→CB n (tB F scope cl C base names) a (body C a) σ xs σ'):
  Ez n F (.Assign [.Name yn py] (.ListComp G (g::gs) scope H) spos) (eS (uY base gi gt gb) (bQ xi)):=fun k σ f σ' e=>by
 refine nn fun l=>?_;replace e:=dZ e;obtain ⟨v,σv,j,e⟩:=e;replace j:=dZ j;obtain ⟨ds,σ₁,e1,j⟩:=j;replace j:=dZ j;obtain ⟨xs,ao,e2,j⟩:=j;refine l ?_;split at j
 ·rename_i d6;refine Jl j ?_;rintro rfl rfl;refine Jl e ?_;rintro rfl rfl;intro A X D h tk ok m;refine (exec_Assign_Name_used _ _ _ _ uz)▸?_;refine aH (gC (aH ?_));rw [ou];refine aH (bL ?_ (fun _ s' hq=>aW (aW hq)) fun _ _ z=>z);refine ţ rfl hf dv cn cz (bL (x _ _ _ e1 A X D h tk ok m) (fun xv ew h₁=>bL h₁ (fun it g6 T=>?_) fun _ _ q=>q) fun _ _ q=>q);refine nn fun l=>?_;obtain ⟨h₀,D₀,g8,qy,I,d,ae,rfl,rfl,st,m₀,wk,rfl,rfl⟩:=T;obtain ⟨wi,J,O,fo⟩:=wk.toIn m₀;refine l ?_;refine uE (aIi cu (by intro y hy;simp at hy) (fun W Y Z=>?_) cn);dsimp only at Y Z⊢;generalize o0:d.push {cls:=.type "list",dict:=aF,data:=.seq ([]:fZ).toArray}=H2 at Y Z⊢;have k9:∀b o,d.get? b=some o→H2.get? b=some o:=fun b o e=>o0▸dL _ _ b o e;have jw:∀b o,H2.get? b=some o→W.get? b=some o:=fun b o e=>Z.extBut b o (fM (dQ e)) (dL _ _ b o e);have P:∀b o,d.get? b=some o→W.get? b=some o:=fun b o e=>jw b o (k9 b o e);have aN:d.get? d.objs.size=aF:=eV _;have o7:H2.get? H2.objs.size=aF:=eV _;have cN:d.get? H2.objs.size=aF:=by
   cases q:d.get? H2.objs.size with
   |none=>rfl
   |some o=>rw [k9 _ _ q]at o7;exact Ly o7
  have tq:∀b,d.get? b=aF→h₀.get? b=aF:=fun b e=>by
   cases q:h₀.get? b with
   |none=>rfl
   |some o=>rw [O _ _ q]at e;exact Ly e
  have tu:=o0▸Jb _ _;have i8:∀b,d.get? b=aF→b∉F.Z∧¬X b∧(∀i,lk D₀ i≠some b)∧S.heap.get? b=aF:=fun b e=>by
   refine ⟨fun q=>?_,fun q=>?_,fun i q=>?_,?_⟩
   ·exact ((J.zfr b q).2).no e
   ·exact (J.xal b (oY q)).no e
   ·exact ((J.sep i b q).h).no e
   ·cases q:S.heap.get? b with
    |none=>rfl
    |some o=>rw [J.base b o q]at e;exact Ly e
  refine nn fun l=>?_;obtain ⟨aZ,aX,aD,aB⟩:=i8 _ aN;obtain ⟨t,cX,cD,cB⟩:=i8 _ cN;refine l ?_;have tw:d.objs.size≠H2.objs.size:=by simp only [(by rw [←o0,gJ]:H2.objs.size=d.objs.size+1)];exact fM (gQ _)
  have m2:=J.addX k9 fun b B=>by obtain rfl:=aM.mp B;exact ⟨aN,_,tu⟩
  have v6:iZ (tB F scope cl H2.objs.size base names) (iW [I] (iW [d.objs.size] X)) D₀ σ₁ W:=(m2.into B jw o7 Y).dropX fun b q=>by
   rcases q with q|q|q
   ·exact oY (nC q)
   ·exact nC q
   ·exact oY (oY q)
  have q8:=wi.up (scope:=scope) (cl:=cl) (base:=base) (names:=names) P aN cN;have v7:d.objs.size∉(tB F scope cl H2.objs.size base names).Z:=fun q=>by
   rcases aR.mp q with q|q
   ·exact tw q
   ·exact aZ q
  have i3:=Et (F:=tB F scope cl H2.objs.size base names) (tk:=ae+([]:List (jY×bM)).length) (ln _ t) ok (nC (by simp)) v7 aB rfl yI (d8 _ _ I) q8 v6 (⟨[],0,jw _ _ tu,bO.nil⟩) (y _ t) (z _ _ t) e2 (bZ (by simpa using d6) pA);clear v6 v7;refine oV (yH (g:=g) rfl ha i3 (q8.self i3)) fun r s' T=>?_;refine nn fun l=>?_;clear ln y z q8 i3;obtain ⟨rfl,h',ap,D',rfl,Q,m',gk⟩:=T;refine l ?_
  obtain ⟨nm,ns,xu⟩:∃a b,names=a::b:=by cases names with
   |nil=>exact absurd rfl ca
   |cons a b=>exact ⟨a,b,rfl⟩
  have o8:uD h' (.loc H2.objs.size):=m'.frm base (.loc H2.objs.size) nm (by
   refine (?_:lk (F.bnd++Y0 H2.objs.size base names) base=_);simp only [wX]
   cases q:lk F.bnd base with
   |some v=>exact absurd (B base v q) (fP _)
   |none=>refine xu▸?_;simp [Hf,He,fF,fE])
  refine nn fun l=>?_;obtain ⟨mm,xw⟩:=o8;have nn:∀b o,h₀.get? b=some o→b≠I∧b≠d.objs.size∧b≠H2.objs.size:=fun b o e=>⟨fun q=>(by rw [q,fo]at e;exact hU e),fun q=>(by rw [q,tq _ aN]at e;exact hU e),fun q=>(by rw [q,tq _ cN]at e;exact hU e)⟩;have xy:oU F D₀ h₀ D' h':=by
   refine ⟨fun b o e hz hd=>Q.keep b o (P _ _ (O _ _ e)) (fun q=>?_) hd,Q.ext,fun i b e=>?_,fun b o e=>Q.al b o (nn b o e).1 (P _ _ (O _ _ e))⟩
   ·rcases aR.mp q with q|q
    ·exact (nn b o e).1 q
    ·rcases aR.mp q with q|q
     ·exact (nn b o e).2.1 q
     ·rcases aR.mp q with q|q
      ·exact (nn b o e).2.2 q
      ·exact hz q
   ·rcases Q.new i b e with q|q
    ·exact .inl q
    ·refine .inr ?_
     cases q':h₀.get? b with
     |none=>rfl
     |some o=>rw [P _ _ (O _ _ q')]at q;exact Ly q
  obtain ⟨us,c,hu,ru⟩:=gk;refine l ?_;have yw:gG D' (Yf F (iW [H2.objs.size] X) D') h' (.lst xs) (.ref d.objs.size):=by
   refine ⟨_,us,rfl,fun q=>?_,⟨c,hu⟩,?_⟩
   ·rcases q with q|(q|q)|⟨i,q⟩
    ·exact aZ q
    ·exact tw (aM.mp q)
    ·exact aX q
    ·exact (fun i q=>(m'.sep i _ q).x (nC (by simp))) i q
   ·refine bO.step (fun _ _ e _=>e) (fun _ _ e=>e) (fun b q=>?_) _ _ ru;rcases q with q|(q|q)|q
    ·exact .inl (.inl (bB _ q))
    ·exact .inl (.inl (by simp only [aM.mp q];exact aU))
    ·exact .inl (.inr (.inl (oY q)))
    ·exact .inl (.inr (.inr q))
  refine Gj (Cn fk (iZ.outX fk t B (m'.dropX fun b q=>oY q)) yu ek yw fun az bg m6 L=>?_);refine ⟨mm,?_,fun j9 ka=>?_⟩
  ·exact Ns.keep1 xw (fun o e=>L.keep _ o e t (fun i q=>(m'.sep i _ q).z (by exact aU):∀i,lk D' i≠some H2.objs.size))
  ·have m7:iZ F X D' {Jz base ao with loc:=kX xi (.lst xs) (Jz base ao).loc} j9:=iZ.leave (N:=[H2.objs.size]) fk m6 (fun b s=>by refine (aM.mp s)▸?_;exact t) (fun b s=>by refine (aM.mp s)▸?_;exact cB) (fun b s=>by refine (aM.mp s)▸?_;exact cX) (fun b o s e=>ka.extBut b o (fun q=>s (by simp only [q];exact aM.mpr rfl)) e);have R:=xy.trans L;have stf:oU F D₀ h₀ D' j9:=⟨fun b o e hz hd=>ka.extBut b o (nn b o e).2.2 (R.keep b o e hz hd),R.ext,R.new,fun b o e=>by obtain ⟨o',e'⟩:=R.al b o e;exact ⟨o',ka.extBut b o' (nn b o e).2.2 e'⟩⟩;exact ⟨j9,bg,D',_,.next,rfl,(st.trans stf).toK k,m7,J8.next,rfl,rfl⟩
 ·exact hU j
end
section
variable{n:Nat}{F:Fx}{tab:List (Nat×jY)}
theorem Sn{body:dF→dF→E1 Unit}{gt:V→St→Option St}
  (T:Dz F tab) (h:∀x q,lk F.bnd x=some q→x<base) (l:names≠[]) (m:names.Nodup) (o:(g.is_async != 0)=false)
  (s:swapsWith (.ListComp c (g::gs) scope d) (some (.Name yn py)) spos.line F.env=pure true) (hy:(xi,yn)∈tab)
  (t:∀u,evalThenUse (.ListComp c (g::gs) scope d) F.env u=(comprehension (.ListComp c (g::gs) scope d) scope F.env pos' (newList []) false (eval g.iter F.env) (some u)>>=fun _=>pure ()))
  (A:∀x,foldedSetIterable g.iter F.env x=pure x) (B:(scope.names.all fun x=> !(x.2==.free)|| (F.env.cells.lookup x.1).isSome)=true) (D:(scope.names.all fun y=>y.2 != .cell)=true) (i:scope.kind=.function)
  (G:(scope.names.all fun y=>y.2 != .local||scope.names.lookup y.1==some .local)=true) (H:Br F scope tab cap) (J:Bq F scope names)
  (L:∀C a I,compTurn (.ListComp c (g::gs) scope d) 0 (.ref I) (.ref a) (kH scope (lN scope F.env) C F.env)=(jD p>>=fun _=>pyNext (.ref I)>>=fun r=>match r with
   |none=>pure (.done .next)
   |some v=>mJ g.target (.ref I) v>>=fun _=>assign g.target (kH scope (lN scope F.env) C F.env) v>>=fun _=>body C a>>=fun _=>again (.compLoop (.ListComp c (g::gs) scope d) 0 (.ref I) (.ref a) (kH scope (lN scope F.env) C F.env))))
  (x:Y2 n F g.iter N) (y:∀C,Dz (tB F scope (lN scope F.env) C base names) (cap++Ha base names)→I5 n (tB F scope (lN scope F.env) C base names) g.target gt)
  (z:∀C a,Dz (tB F scope (lN scope F.env) C base names) (cap++Ha base names)→∀σ xs σ',O σ=some (xs,σ')→CB n (tB F scope (lN scope F.env) C base names) a (body C a) σ xs σ'):
  Ez n F (.Assign [.Name yn py] (.ListComp c (g::gs) scope d) spos) (eS (uY base N gt O) (bQ xi)):=by
 refine nn fun P=>?_;obtain ⟨X,Q,R⟩:=T.ok xi yn hy;refine P ?_;have f:∀C,C∉F.Z→Dz (tB F scope (lN scope F.env) C base names) (cap++Ha base names):=fun C b=>Vb T i b m h H.at J.at;refine Xr T.fk h l o s Q R t A (Ai B) (fun y hy=>?_) i (fun y hy W=>?_) (fun C b=>(f C b).fk) L x (fun C b=>y C (f C b)) (fun C a b=>z C a (f C b))
 ·have:=gN.mp D y hy;intro e;replace this:=e▸this;exact absurd this (by decide)
 ·have:=gN.mp G y hy;replace this:=W▸this
  cases j:scope.names.lookup y.1 with
  |none=>rw [j]at this;exact absurd this (by decide)
  |some k=>rw [j]at this;cases k<;>first|rfl|exact absurd this (by decide)
theorem aBb{gt:V→St→Option St}
  (T:Dz F tab) (e:swapsWith (.ListComp c [⟨d,b,[],0⟩] scope f) (some (.Name yn py)) spos.line F.env=pure true) (hy:(xi,yn)∈tab) (g:∀x q,lk F.bnd x=some q→x<base) (h:names≠[]) (i:names.Nodup)
  (j:∀x,foldedSetIterable b F.env x=pure x) (k:(scope.names.all fun x=> !(x.2==.free)|| (F.env.cells.lookup x.1).isSome)=true) (l:(scope.names.all fun y=>y.2 != .cell)=true) (m:scope.kind=.function)
  (o:(scope.names.all fun y=>y.2 != .local||scope.names.lookup y.1==some .local)=true) (p:Br F scope tab cap) (r:Bq F scope names)
  (x:Y2 n F b s) (y:∀C,Dz (tB F scope (lN scope F.env) C base names) (cap++Ha base names)→I5 n (tB F scope (lN scope F.env) C base names) d gt)
  (z:∀C,Dz (tB F scope (lN scope F.env) C base names) (cap++Ha base names)→kC n (tB F scope (lN scope F.env) C base names) c t):
  Ez n F (.Assign [.Name yn py] (.ListComp c [⟨d,b,[],0⟩] scope f) spos) (eS (uY base s gt (lP t)) (bQ xi)):=
 Sn T g h i rfl e hy (fun _=>rfl) j k l m o p r (fun _ _ _=>rfl) x y (fun C a T1 _ _ _ q=>Nr T1.fk (z C T1) q)
end
section
set_option backward.match.sparseCases false
def Go(x:Option (Fl×St))(P:Fl→iS):Prop:=∃f τ,x=some (f,τ)∧P f τ
def GB(c:M Bool)(σ:St)(Q:Bool→iS):Prop:=∃b τ,c σ=some (b,τ)∧Q b τ
theorem Go.mono{P Q:Fl→iS}(h:Go x P)(y:∀f τ,P f τ→Q f τ):Go x Q:=let ⟨f,τ,e,p⟩:=h;⟨f,τ,e,y f τ p⟩
theorem bR{g h:Nat→M Fl}{P:Fl→iS}(x:Go (g k σ) fun f τ=>match f with|.next=>Go (h k τ) P|f=>P f τ):Go (dP g h k σ) P:=by
 obtain ⟨f,τ,e,p⟩:=x;unfold dP;rw [e];cases f
 ·exact p
 all_goals exact ⟨_,_,rfl,p⟩
theorem ĺ{t:V→St→Option St}(e:g σ=some (v,τ))(a:t v τ=some τ'):eS g t k σ=some (.next,τ'):=by unfold eS;rw [e];show ob (t v τ) _=_;rw [a];rfl
theorem dK{t:V→St→Option St}{P:Fl→iS}(e:g σ=some (v,τ))(a:t v τ=some τ')(p:P .next τ'):Go (eS g t k σ) P:=⟨.next,τ',ĺ e a,p⟩
theorem qQ{P:Fl→iS}(e:g σ=some (v,τ))(p:P (.ret v) τ):Go (uA g k σ) P:=⟨.ret v,τ,by unfold uA;rw [e];rfl,p⟩
theorem mI{P:Fl→iS}(e:g σ=some (.none,τ))(p:P .next τ):Go (tE g k σ) P:=⟨.next,τ,by unfold tE;rw [e];rfl,p⟩
theorem H0{P:Fl→iS}(p:P .next σ):Go (tE (gK (.str x)) k σ) P:=⟨.next,σ,rfl,p⟩
theorem iR{P:Fl→iS}(p:P f σ):Go (kY f k σ) P:=⟨f,σ,rfl,p⟩
theorem fW{h:Nat→M Fl}{P:Fl→iS}(e:C1 xs σ=σ')(p:Go (h k σ') P):Go (oD xs h k σ) P:=by unfold oD;rw [e];exact p
theorem Ě{h:Nat→M Fl}{P:Fl→iS}(e:frz k σ=some σ')(p:Go (h k σ') P):Go (Ĩ h k σ) P:=by unfold Ĩ;rw [e];exact p
theorem nP{a b:Nat→M Fl}{P:Fl→iS}(x:GB c σ fun t τ=>if t=true then Go (a k τ) P else Go (b k τ) P):Go (uK c a b k σ) P:=by
 obtain ⟨t,τ,e,p⟩:=x;unfold uK;rw [e];show Go (if t=true then a k τ else b k τ) P;split
 ·rwa[if_pos ‹_›]at p
 ·rwa[if_neg ‹_›]at p
theorem Ss{a b:Nat→M Fl}{P:Fl→iS}(e:c σ=some (true,τ))(p:Go (a k τ) P):Go (uK c a b k σ) P:=nP ⟨true,τ,e,p⟩
theorem zQ{a b:Nat→M Fl}{P:Fl→iS}(e:c σ=some (false,τ))(p:Go (b k τ) P):Go (uK c a b k σ) P:=nP ⟨false,τ,e,p⟩
theorem Su{f:V→V→M V}{P:Fl→iS}(a:lk σ.loc x=some old)(b:g σ=some (v,τ))(c:f old v τ=some (r,τ'))(p:P .next {τ' with loc:=kX x r τ'.loc}):Go (M0 x f g k σ) P:=
 ⟨.next,_,by unfold M0;rw [a];show bd (g σ) _=_;rw [b];show bd (f old v τ) _=_;rw [c];rfl,p⟩
theorem gZ{Q:Bool→iS}(e:c σ=some (b,τ))(q:Q b τ):GB c σ Q:=⟨b,τ,e,q⟩
theorem jN{Q:Bool→iS}(x:GB g σ fun b τ=>if b=true then GB h τ Q else Q false τ):GB (mL g h) σ Q:=by
 obtain ⟨t,τ,e,p⟩:=x;unfold mL GB;show∃b τ',bd (g σ) _=_∧_;rw [e];cases t
 ·exact ⟨false,τ,rfl,p⟩
 ·exact p
theorem aEk{Q:Bool→iS}(x:GB g σ fun b τ=>if b=true then Q true τ else GB h τ Q):GB (My g h) σ Q:=by
 obtain ⟨t,τ,e,p⟩:=x;unfold My GB;show∃b τ',bd (g σ) _=_∧_;rw [e];cases t
 ·exact p
 ·exact ⟨true,τ,rfl,p⟩
theorem Sw{Q:Bool→iS}(x:GB g σ fun b τ=>Q (!b) τ):GB (Sy g) σ Q:=by obtain ⟨t,τ,e,p⟩:=x;exact ⟨!t,τ,by unfold Sy;rw [e];rfl,p⟩
theorem Em{Q:Bool→iS}(q:Q b σ):GB (fun σ=>some (b,σ)) σ Q:=⟨b,σ,rfl,q⟩
inductive V5(xs:nH)(k:Nat)(J:Nat→iS)(m:Nat)(bf:St):Prop
 |mk (cb:St) (m':Nat) (e:Gf xs k bf=some cb) (l:m'<m) (j:J m' cb)
def Nx(Q:iS):Fl→iS:=fun f τ=>match f with
 |.next=>Q τ
 |_=>False
def Tf(xs:nH)(k:Nat)(J:Nat→iS)(m:Nat)(P:Fl→iS):Fl→iS:=fun f bf=>match f with
 |.next=>V5 xs k J m bf
 |.cont=>V5 xs k J m bf
 |.brk=>P .next bf
 |.ret v=>P (.ret v) bf
inductive I6(xs:nH)(k:Nat)(J:iS)(bf:St):Prop
 |mk (cb:St) (e:Gf xs k bf=some cb) (j:J cb)
def Ao(xs:nH)(k:Nat)(J:iS)(E:iS)(Rt:V→iS):Fl→iS:=fun f bf=>match f with
 |.next=>I6 xs k J bf
 |.cont=>I6 xs k J bf
 |.brk=>E bf
 |.ret v=>Rt v bf
def FiP(N:iS)(Rt:V→iS):Fl→iS
 |.next,τ=>N τ
 |.ret v,τ=>Rt v τ
 |.brk,_=>False
 |.cont,_=>False
theorem P0{b:V→M Fl}(E:iS)(Rt:V→iS):∀(ds:bV)(J:Nat→iS)(σ:St),J 0 σ→
  (∀i τ v,ds[i]?=some v→J i τ→Go (b v τ) (Ao xs k (J (i+1)) E Rt))→
  Go (Ju xs k b ds σ) (FiP (fun τ=>J ds.length τ∨E τ) Rt):=by
 intro g
 induction g with
 |nil=>intro J σ h0 _;exact ⟨.next,σ,rfl,.inl h0⟩
 |cons v r j=>
  intro J σ h0 step;obtain ⟨f,c,e,p⟩:=step 0 σ v rfl h0;have again:∀a,J 1 a→Go (Ju xs k b r a) (FiP (fun τ=>J (v::r).length τ∨E τ) Rt):=fun a h=>by refine (j (fun i=>J (i+1)) a h fun i τ u l m=>?_).mono fun f τ p=>p;exact step (i+1) τ u (by simpa using l) m
  show Go (bd (b v σ) _) _;rw [e];cases f
  ·obtain ⟨a,d,h⟩:=p;show Go (ob (Gf xs k c) fun σ=>Ju xs k b r σ) _;rw [d];exact again a h
  ·exact ⟨.next,c,rfl,.inr p⟩
  ·obtain ⟨a,d,h⟩:=p;show Go (ob (Gf xs k c) fun σ=>Ju xs k b r σ) _;rw [d];exact again a h
  ·exact ⟨.ret _,c,rfl,p⟩
theorem uW{gt:V→St→Option St}{c:Nat→M Fl}{P:Fl→iS}(E:iS)(J:Nat→iS)(e:d σ=some (ds,τ))(g:k≤τ.next)(h0:J 0 τ)
  (step:∀i a v,ds[i]?=some v→J i a→∃τ',gt v a=some τ'∧Go (c τ.next τ') (Ao xs τ.next (J (i+1)) E (fun v=>P (.ret v))))
  (done:∀τ',J ds.length τ'∨E τ'→P .next τ'):Go (yD xs d gt c k σ) P:=by
 have h:=P0 (b:=fun v a=>ob (gt v a) fun a=>c τ.next a) E (fun v=>P (.ret v)) ds J τ h0 (fun i a v j l=>by obtain ⟨τ',m,p⟩:=step i a v j l;rw [m];exact p);unfold yD;rw [e];show Go (if k≤τ.next then _ else _) _;rw [if_pos g];refine h.mono fun f τ' p=>?_;cases f
 ·exact done τ' p
 ·exact p.elim
 ·exact p.elim
 ·exact p
theorem ŵ{P:Fl→iS}(J:Nat→iS)(step:∀m τ,J m τ→GB t τ fun c τ'=>if c=true then Go (b τ') (Tf xs k J m P)else P .next τ'):∀(n m:Nat)(σ:St),m<n→J m σ→Go (whG xs k t b n σ) P:=by
 intro r
 induction r with
 |zero=>intro m σ h _;exact absurd h (kI _)
 |succ n o=>
  intro m σ h j;obtain ⟨c,τ',e,p⟩:=step m σ j;show Go (bd (t σ) _) _;rw [e];show Go (if c=true then _ else _) _;cases c
  ·rw [if_neg (by decide)];rw [if_neg (by decide)]at p;exact ⟨.next,τ',rfl,p⟩
  ·rw [if_pos rfl];rw [if_pos rfl]at p;obtain ⟨f,a,s,p⟩:=p;rw [s];cases f
   ·obtain ⟨d,m',g,i,l⟩:=p;show Go (ob (Gf xs k a) _) _;rw [g];exact o m' d (aS aDw h i) l
   ·exact ⟨.next,a,rfl,p⟩
   ·obtain ⟨d,m',g,i,l⟩:=p;show Go (ob (Gf xs k a) _) _;rw [g];exact o m' d (aS aDw h i) l
   ·exact ⟨.ret _,a,rfl,p⟩
theorem C6{b:Nat→M Fl}{P:Fl→iS}(J:Nat→iS)(m:Nat)(a:m<aCw)(d:k≤σ.next)(h0:J m σ)(step:∀m τ,J m τ→GB t τ fun c τ'=>if c=true then Go (b σ.next τ') (Tf xs σ.next J m P)else P .next τ'):Go (qA xs t b k σ) P:=by unfold qA;rw [if_pos d];exact ŵ J step aCw m σ a h0
theorem A6{b:Nat→M Fl}{P:Fl→iS}(a:k≤σ.next)(e:GB t σ fun c τ=>c=false∧P .next τ):Go (qA xs t b k σ) P:=by refine C6 (fun _ τ=>τ=σ) 0 (by decide) a rfl fun m τ d=>?_;subst d;obtain ⟨c,τ',e,rfl,p⟩:=e;exact ⟨false,τ',e,p⟩
def Gy(k:Nat):V→Bool
 |.ref n=>decide (n<k)
 |.inst n=>decide (n<k)
 |v=>v.pure
theorem G4(h:Gy k v=true):rA xB k cs v=some v:=by
 cases v<;>first|exact eA h|skip
 ·exact (if_pos (of_decide_eq_true h):(if _ then some _ else _)=_)
 ·exact (if_pos (of_decide_eq_true h):(if _ then some _ else _)=_)
theorem W5:∀{l:List (Nat×V)},(l.all fun p=>Gy k p.2)=true→Mi (rA xB k cs) l=some l:=by
 intro a
 induction a with
 |nil=>intro _;exact rfl
 |cons b r c=>obtain ⟨x,v⟩:=b;intro h;replace h:=pD.mp h;exact cU (G4 h.1) (c h.2)
theorem uH:∀{l:bV},(l.all fun p=>Gy k p)=true→nF (rA xB k cs) l=some l:=by
 intro a
 induction a with
 |nil=>intro _;exact rfl
 |cons v r b=>intro h;replace h:=pD.mp h;exact oZ (G4 h.1) (b h.2)
theorem Kr:∀{l:mH},(l.all fun p=>Gy k p.2)=true→zO (rA xB k cs) l=some l:=by
 intro a
 induction a with
 |nil=>intro _;exact rfl
 |cons b r c=>obtain ⟨x,v⟩:=b;intro h;replace h:=pD.mp h;exact Hh (G4 h.1) (c h.2)
def Co(k:Nat):gM→Bool
 |.list l=>l.all fun p=>Gy k p
 |.dict _ l=>l.all fun p=>Gy k p
 |.attrs as=>as.all fun p=>Gy k p.2
 |.mat _=>true
theorem eB(h:Co k c=true):Js (rA xB k cs) c=some c:=by
 cases c with
 |list l=>show (nF _ l).map _=_;rw [uH h];rfl
 |dict ks l=>show (nF _ l).map _=_;rw [uH h];rfl
 |attrs as=>show (zO _ as).map _=_;rw [Kr h];rfl
 |mat m=>rfl
theorem dO{g:V→nX}(a:n<k)(e:Js g c=some b)(d:tT k g r=some f):tT k g ((n,c)::r)=some ((n,b)::f):=(if_pos a).trans (qJ e (qJ d rfl))
theorem lH{g:V→nX}(a:¬n<k)(b:tT k g r=some d):tT k g ((n,c)::r)=some d:=(if_neg a).trans b
theorem iM{g:V→nX}:tT k g []=some []:=rfl
theorem S1(e:Mi (rA xB k cs) loc=some loc')(a:tT k (rA xB k cs) cs=some b):frz k ⟨loc,cs,n⟩=some ⟨loc',b,k⟩:=qJ e (qJ a rfl)
theorem M9(a:C1 xs σ=⟨loc,cs,n⟩)(e:Mi (rA xB k cs) loc=some loc')(b:tT k (rA xB k cs) cs=some c):Gf xs k σ=some ⟨loc',c,k⟩:=by unfold Gf;rw [a];exact S1 e b
theorem mX(a:C1 xs σ=⟨loc,cs,n⟩)(e:(loc.all fun p=>Gy k p.2)=true)(b:tT k (rA xB k cs) cs=some c):Gf xs k σ=some ⟨loc,c,k⟩:=M9 a (W5 e) b
theorem fX(h:v.pure=true):Gy k v=true:=by cases v<;>first|exact h|cases h
theorem A8(h:∀p∈as,p.2.pure=true):Co k (.attrs as)=true:=gN.mpr fun p a=>fX (h p a)
theorem eM:∀{l:bV},cS l=true→(l.all fun p=>Gy k p)=true:=by
 intro a
 induction a with
 |nil=>intro _;exact rfl
 |cons v r b=>intro h;simp only [cP,cO,fU]at h;simp only [eT,fX h.1,b h.2,fD]
theorem Ç(a:¬n<k)(e:lk cs n=some (.dict ks vs))(b:cS vs=true):rA xB k cs (.ref n)=some (.dct ks vs):=by refine (F7 a).trans ?_;rw [e];exact congrArg (nD (V.dct ks)) (Kq b)
theorem zL(a:¬n<k)(e:lk cs n=some (.list vs))(b:cS vs=true):rA (f+2) k cs (.ref n)=some (.lst vs):=by refine (F7 a).trans ?_;rw [e];exact congrArg (nD V.lst) (Kq b)
theorem wT(a:¬n<k)(e:lk cs n=some (.list vs))(b:cS vs=true):rA xB k cs (.ref n)=some (.lst vs):=zL a e b
end
section
set_option backward.match.sparseCases false
theorem aT(h:lk σ.loc x=some v):aJ x σ=some (v,σ):=by unfold aJ;rw [h];rfl
theorem mK(a:g σ=some (.inst n,τ))(b:lk τ.cells n=some (.attrs as))(c:nM as d=some v)(e:Hb v=true):rD d g σ=some (v,τ):=by unfold rD;rw [a];show aA τ n _=_;rw [aEx b];rw [c];show (if Hb v=true then _ else _)=_;rw [if_pos e]
theorem bU:bI σ=some ([],σ):=rfl
theorem aQ(e:g σ=some (v,τ))(a:h τ=some (vs,τ')):aK g h σ=some (v::vs,τ'):=by unfold aK;rw [e];show bd (h τ) _=_;rw [a];rfl
theorem hO(e:g σ=some (vs,τ))(a:vs.length≤lim):eQ g σ=some (.tup vs,τ):=by unfold eQ;rw [e];show (if vs.length≤lim then _ else _)=_;rw [if_pos a]
theorem qI(e:g σ=some (vs,τ))(a:vs.length≤lim):gV g σ=some (.lst vs,τ):=by unfold gV;rw [e];show (if vs.length≤lim then _ else _)=_;rw [if_pos a]
theorem pX(e:g σ=some (vs,τ))(a:vs.length≤lim):mW g σ=some (.ref τ.next,{τ with cells:=(τ.next,.list vs)::τ.cells,next:=τ.next+1}):=by unfold mW;rw [e];show (if vs.length≤lim then _ else _)=_;rw [if_pos a];rfl
theorem dC{f:V→V→M V}(e:g σ=some (a,τ))(c:h τ=some (b,τ'))(d:f a b τ'=r):bD f g h σ=r:=by unfold bD;rw [e];show bd (h τ) _=_;rw [c];exact d
theorem kD(e:g σ=some (.bool b,τ)):eE g σ=some (b,τ):=by unfold eE;rw [e];rfl
theorem kL{d:pV}(e:g σ=some (us,τ))(ed:d us τ=r):gB d g σ=r:=by unfold gB;rw [e];exact ed
theorem yQ(e:g σ=some (v,τ))(h:ſ τ v=some b):qB g σ=some (b,τ):=by unfold qB;rw [e];show (ſ τ v).map _=_;rw [h];rfl
theorem sL{d:pV}(e:b σ=some (u,τ))(c:Iy τ u=some l)(f:a τ=some (us,τ'))(ed:d (u::us) τ'=r):vE d b a σ=r:=by unfold vE;rw [e];show ob (Iy τ u) _=_;rw [c];show bd (a τ) _=_;rw [f];exact ed
theorem rE(h:l[n]?=some v)(a:l.length≤lim):eF (.lst l) (vN n) σ=some (v,σ):=by show (if (0:Int)≤(n:Int)∧l.length≤lim then _ else _)=_;rw [if_pos ⟨aS U1,a⟩];rw [eL,h];rfl
theorem tJ(h:l[n]?=some v)(a:l.length≤lim):eF (.tup l) (vN n) σ=some (v,σ):=by show (if (0:Int)≤(n:Int)∧l.length≤lim then _ else _)=_;rw [if_pos ⟨aS U1,a⟩];rw [eL,h];rfl
theorem vM(e:g σ=some (.lst l,τ))(a:cS l=true):iF g σ=some (l,τ):=by unfold iF;rw [e];exact qJ (if_pos a) rfl
theorem jE(h:lk σ.cells i=some (.list l))(a:l.length≤lim):eY [.ref i,d] σ=some (.none,{σ with cells:=kX i (.list (l++[d])) σ.cells}):=by show aL σ i _=_;rw [ŕ h];rw [if_pos a]
theorem aFc(e:g σ=some (.inst i,τ))(h:lk τ.cells i=some (.attrs as)):Dh a g v σ=some {τ with cells:=kX i (.attrs (iK a v as)) τ.cells}:=by unfold Dh;rw [e];show aA τ i _=_;rw [aEx h]
theorem Wh{d:Bd}(e:a σ=some (.inst i,τ))(h:lk τ.cells i=some c)(b:aBa c=true)(f:g τ=some (us,τ'))(h':lk τ'.cells i=some c0)(j:cS us=true)(ed:d c0 us=some (c1,r)):
  Vk d a g σ=some (r,{τ' with cells:=kX i c1 τ'.cells}):=by
 unfold Vk;rw [e];show ob (lk τ.cells i) _=_;rw [h];show (if aBa c=true then _ else _)=_;rw [if_pos b];rw [f];show ob (lk τ'.cells i) _=_;rw [h'];show (if cS us=true then _ else _)=_;rw [if_pos j,ed];rfl
theorem Ÿ(e:g σ=some ([.int a,.int b],τ))(h:Bj a b=true):yA g σ=some (G5 a b,τ):=by unfold yA;rw [e];show (if Bj a b=true then _ else _)=_;rw [if_pos h]
theorem On(e:g σ=some ([.int b],τ))(h:Bj 0 b=true):yA g σ=some (G5 0 b,τ):=by unfold yA;rw [e];show (if Bj 0 b=true then _ else _)=_;rw [if_pos h]
theorem Ž(h:Iy σ (.ref n)=some l)(a:l.length≤lim):ſ σ (.ref n)=some (decide (l.length≠0)):=by exact qJ h (if_pos a)
theorem Lq:H7 (vN a) (vN b) σ=some (vN (a+b),σ):=by show some (V.int ((a:Int)+(b:Int)),σ)=_;rw [show (a:Int)+(b:Int)=((a+b:Nat):Int) by exact aS õ];rfl
theorem Q6:fQ (vN a) (vN b) σ=some (vN (a+b),σ):=by show some (V.int ((a:Int)+(b:Int)),σ)=_;rw [show (a:Int)+(b:Int)=((a+b:Nat):Int) by exact aS õ];rfl
theorem aI7(e:g σ=some (u,τ))(h:Iy τ u=some l)(h':nF æ l=some l')(a:l.length≤lim):ģ g σ=some (.lst l',τ):=by unfold ģ;rw [e];simp only [bd,h,ob,h'];rw [if_pos a]
theorem Tz(hx:lk σ.loc x=some (vN a))(hy:lk σ.loc y=some (vN b)):eE (bD Cc (aJ x) (aJ y)) σ=some (decide (a<b),σ):=by
 refine kD (dC (aT hx) (aT hy) ?_);show some (V.bool (decide ((a:Int)<(b:Int))),σ)=_
 congr 3
 exact decide_eq_decide.mpr jW
theorem lI(h:(s==x)=false):nM ((x,v)::as) s=nM as s:=by show (if s=x then some v else nM as s)=_;rw [if_neg (by simpa using h)]
theorem T4(h:s.length≤lim∧decide (s.length≠0)=b)(σ:St):ſ σ (.str s)=some b:=by obtain ⟨h,rfl⟩:=h;show oo (Fn s.length) some _=_;rw [show Fn s.length=some _ from if_pos h];rfl
theorem ż(a:mZ)(σ:St):ſ σ (.str a.s)=some true:=T4 (by cases a<;>decide+kernel) σ
theorem Wn(σ:St):ſ σ (.str (aC ""))=some false:=T4 (by decide+kernel) σ
end
section
open PySem PySem.W PyProof.Rows PySem.Calls
def aBs(nm:jY)(d:mH→Option (mH×V))(go:M V):M V:=fun σ=>bd (go σ) fun o σ=>ob (Yh o) fun i=>aA σ i fun al=>ob al.head? fun y=>ob (Ix y.2) fun j=>if y.1=nm∧(al.tail.all fun p=>p.2.pure)=true then ob (d al.tail) fun p=>some (p.2,{σ with cells:=kX i (.attrs ((nm,.ref j)::p.1)) σ.cells})else aF
section
variable{n:Nat}{F:Fx}{σ:St}{K:As}
theorem ź(fk:iL F)(e:lk σ.cells i=some (.attrs ((g,.ref j)::as)))(N:∀p∈as,p.2.pure=true)
  (c:∀a,qV n f (.attrs ((g,.fn (.ref a))::as)) [] (fun c s=>(∃k,c=.attrs k∧(g,V.fn (.ref a))∈k∧∀p∈H,p∈k)∧s=r)):
  TW rV n F [.inst i] (fun vs=>call f vs) σ (B8 r {σ with cells:=kX i (.attrs ((g,.ref j)::H)) σ.cells}):=fun A X D h tk vs ok m r=>by
 simp only [nU,nR]at r;obtain ⟨u,us,rfl,O,P⟩:=r;subst P;obtain ⟨a,x,rfl,nx,l,hx⟩:=O;obtain ⟨a',t,cr⟩:=m.cel i _ e;replace t:=l▸t;refine nW t ?_;rintro rfl;obtain ⟨s1,s2,Q,s4,s5⟩:=m.sep i a l;obtain ⟨R,T,hw,I⟩:=cr;obtain ⟨u0,y,B⟩:=I (g,.ref j) aU;obtain ⟨a0,rfl,W⟩:=B;have C:iP D (Yf F X D) h a (.attrs ((g,.fn (.ref a0))::as)):=⟨R,T,hw,fun p d=>by
  rcases aR.mp d with rfl|d
  ·exact ⟨.ref a0,y,by rfl⟩
  ·exact I p (bB _ d)⟩
 have Y:pH (.attrs ((g,.fn (.ref a0))::as)):=fun p d=>by
  rcases aR.mp d with rfl|d
  ·rfl
  ·exact N p d
 have Z:∀b,iW [a] (fun b=>Yf F X D b∧b≠a) b→Yf F X D b∨h.get? b=aF:=fun b z=>by
  rcases z with z|z
  ·rw [aM.mp z];exact .inl (.inr (.inr ⟨i,l⟩))
  ·exact .inl z.1
 have J:∀(h':dT) b,Yf F X D b→iW [a] (fun b=>Yf F X D b∧b≠a) b∨h'.get? b=aF:=fun h' b z=>by
  by_cases q:b=a
  ·exact .inl (.inl (by simp only [q];exact aM.mpr rfl))
  ·exact .inl (.inr ⟨z,q⟩)
 refine bL (c a0 A (fun b=>Yf F X D b∧b≠a) h tk x a [] ok m.base (fun b z=>(fun b=>m.yal) b z.1) (fun z=>z.2 rfl) Q (fun z=>nx z.1) hx (C.P Y (fun _ _ e _=>e) (fun _ e=>e) Z) bO.nil) (fun v s' p=>?_) fun _ _ z=>z;obtain ⟨h',ap,c1,s,rfl,hk,my,pc,pr,uc,rr,⟨k,rfl,uf,G⟩,rfl⟩:=p;obtain ⟨m1,yj,yk,L⟩:=uc.P pc (fun _ _ e _=>e) (fun _ e=>e) (J h');obtain ⟨m',st⟩:=m.turn2 (c:=.attrs ((g,.ref j)::H)) fk l (fun b o hb e=>hk b o hb e) my ⟨m1,yj,yk,fun p d=>by
  rcases aR.mp d with rfl|d
  ·obtain ⟨u,hu,ru⟩:=L _ uf;subst ru;exact ⟨_,hu,by exact ⟨a0,rfl,W⟩⟩
  ·exact L p (G p d)⟩
 exact ⟨h',ap,D,_,s,rfl,st,m',gG.stepP (fun _ _ e _=>e) (J h') _ _ pr rr,rfl,rfl⟩
theorem Sp{d:mH→Option (mH×V)}(D:K.In S.heap)(fk:iL F)(c:I2 K name f)
  (hd:∀as b r,(∀p∈as,p.2.pure=true)→d as=some (b,r)→∀a,qV n (.ref f) (.attrs ((u,.fn (.ref a))::as)) [] (fun c G=>(∃e,c=.attrs e∧(u,V.fn (.ref a))∈e∧∀p∈b,p∈e)∧G=r))
  (x:kC n F o H)
  (I:eval (.Call (.Attribute o name z) [] [] g) F.env=(do
   let h←eval o F.env
   jD z.atName
   let (f,first)←holding [h] (getMethod h name R)
   lA g f first (backTo g (dR [] F.env)) [])):kC n F (.Call (.Attribute o name z) [] [] g) (aBs u d H):=fun σ v σ' q=>by
 replace q:=dZ q;obtain ⟨h,σ₁,J,q⟩:=q;replace q:=aDj q;obtain ⟨i,rfl,k⟩:=q;replace k:=Ø k;obtain ⟨al,A,l⟩:=k;replace l:=dS l;obtain ⟨y,B,m⟩:=l
 cases al with
 |nil=>exact hU B
 |cons T as=>
 cases B;obtain ⟨W,X⟩:=y;replace m:=Õ m;obtain ⟨j,L,s⟩:=m;cases L;replace s:=iC s;obtain ⟨⟨hx,N⟩,t⟩:=s;cases hx;replace t:=dS t;obtain ⟨⟨b,r⟩,O,P⟩:=t;refine Jl P ?_;rintro rfl rfl;have C:∀p∈as,p.2.pure=true:=fun p Q=>gN.mp N p Q;refine xC D c I trivial ((x _ _ _ J).mono ?_);refine lM ?_;refine ⟨i,_,rfl,A,.inl ⟨_,rfl⟩,(aO _ _ _ rfl).mono ?_⟩;refine lM ?_;exact ź fk A C (hd as b r C O)
end
end
section
set_option backward.match.sparseCases false
def edB(f:bV→Bool):V→Bool
 |.none=>true
 |.int _=>true
 |.str s=>Qv s
 |.tup l=>f l
 |.lst l=>f l
 |_=>false
def ed:Nat→V→Bool
 |0=>edB fun _=>false
 |n+1=>edB fun l=>l.all (ed n)
inductive EdV(f:bV→Bool):V→Prop
 |none:EdV f .none
 |int (i:Int):EdV f (.int i)
 |str (s:jY) (h:Qv s=true):EdV f (.str s)
 |tup (l:bV) (h:f l=true):EdV f (.tup l)
 |lst (l:bV) (h:f l=true):EdV f (.lst l)
theorem edV{f:bV→Bool}:∀{v:V},edB f v=true→EdV f v
 |.none,_=>.none
 |.int i,_=>.int i
 |.str s,h=>.str s h
 |.tup l,h=>.tup l h
 |.lst l,h=>.lst l h
 |.bool _,h=>(nomatch h)
 |.scr _,h=>(nomatch h)
 |.mt _,h=>(nomatch h)
 |.dct _ _,h=>(nomatch h)
 |.set0,h=>(nomatch h)
 |.ref _,h=>(nomatch h)
 |.inst _,h=>(nomatch h)
 |.fn _,h=>(nomatch h)
 |.bm _ _,h=>(nomatch h)
noncomputable def á(f:List oC→Bool):oC→Bool
 |.bool _=>false
 |.dict _=>false
 |.list l=>f l
 |.tuple l=>f l
 |_=>true
noncomputable def nb:Nat→oC→Bool
 |0=>á fun _=>false
 |n+1=>á fun l=>l.all (nb n)
inductive ş(f:List oC→Bool)(n:Nat)(v:V):Prop
 |mk (p:v.pure=true) (d:oC) (e:S8 v=some d) (c:d.canLay0=true) (k:d.depth≤n) (b:á f d=true)
inductive Š(f:List oC→Bool)(n:Nat)(l:bV):Prop
 |mk (p:cS l=true) (ds:List oC) (e:Yb l=some ds) (c:ť ds=true) (k:Jh ds<n) (b:f ds=true)
theorem Vp{f:bV→Bool}{g:List oC→Bool}(a:∀l,f l=true→Š g n l)(h:edB f v=true):ş g n v:=by
 cases edV h with
 |none=>exact ⟨rfl,.none,rfl,rfl,cJ _,rfl⟩
 |int i=>exact ⟨rfl,.int i,rfl,rfl,cJ _,rfl⟩
 |str s h=>exact ⟨rfl,.str s,rfl,h,cJ _,rfl⟩
 |tup l h=>obtain ⟨p,ds,e,c,k,b⟩:=a l h;exact ⟨p,.tuple ds,congrArg (nD _) e,c,by (rw [aIu];exact k),b⟩
 |lst l h=>obtain ⟨p,ds,e,c,k,b⟩:=a l h;exact ⟨p,.list ds,congrArg (nD _) e,c,by (rw [aIu];exact k),b⟩
theorem Yi{b:Type}{p:b→Bool}{a:b}{l:List b}(h:(a::l).all p=true):p a=true∧l.all p=true:=by rwa[eT,fU]at h
theorem aCf{f:V→Bool}{g:List oC→Bool}(c:∀v,f v=true→ş g n v):∀l:bV,l.all f=true→Š (fun l=>l.all (á g)) (n+1) l:=by
 intro l
 induction l with
 |nil=>intro _;exact ⟨rfl,[],rfl,rfl,by simp [Jh],rfl⟩
 |cons a r b=>intro h;obtain ⟨e,i⟩:=Yi h;obtain ⟨j,d,k,c1,m,b1⟩:=c a e;obtain ⟨o,ds,p,c2,s,t⟩:=b i;refine ⟨by simp only [cP,cO,j,o,fD],d::ds,?_,by simp [ť,c1,c2],by simp [Jh];exact aS 0xd2c62a41c60520e3124619e8c1003 m s,by rw [eT,b1,t];rfl⟩;show ob (S8 a) _=_;rw [k];rw [p];rfl
def nbF:Nat→List oC→Bool
 |0=>fun _=>false
 |n+1=>fun l=>l.all (nb n)
theorem Ł:∀(n:Nat)(v:V),ed n v=true→ş (nbF n) n v:=by
 intro n
 induction n with
 |zero=>exact fun v h=>Vp (fun _ h=>zF h) h
 |succ n a=>refine fun v h=>Vp (fun l h=>?_) h;have:=aCf (a) l h;cases n<;>exact this
@[elab_as_elim] theorem lt3 {P:Nat→Prop} (h:k<3) (a:P 0) (b:P 1) (c:P 2):P k:=by
 cases k with
 |zero=>exact a
 |succ k=>cases k with
  |zero=>exact b
  |succ k=>cases k with
   |zero=>exact c
   |succ k=>exact absurd h (kJ.mpr (vI 3 k))
theorem aB6(n:Nat)(v:V)(h:ed n v=true):v.pure=true:=(Ł n v h).1
theorem Uq{f:List oC→Bool}(a:∀l l',f l=true→f l'=true→SeqAt.noMixAll l l'=true):∀x y,á f x=true→á f y=true→aMt x y=true:=by intro x y h h';cases x<;>cases y<;>first|rfl|(exact zF h)|(exact zF h')|exact a _ _ h h'
theorem ß:∀(n:Nat)(x y:oC),á (nbF n) x=true→á (nbF n) y=true→aMt x y=true:=by
 intro n
 induction n with
 |zero=>exact Uq fun _ _ h=>zF h
 |succ n a=>
  refine Uq fun l l' h h'=>SeqAt.noMixAll_of_all a l l' (gN.mp ?_) (gN.mp ?_)
  ·cases n<;>exact h
  ·cases n<;>exact h'
mutual
noncomputable def vd:oC→V
 |.none=>.none
 |.bool b=>.bool b
 |.int i=>.int i
 |.str s=>.str s
 |.list l=>.lst (vdL l)
 |.tuple l=>.tup (vdL l)
 |.dict _=>.none
noncomputable def vdL:List oC→bV
 |[]=>[]
 |d::l=>vd d::vdL l
end
mutual
theorem Q2:∀(a:V)(x:oC),S8 a=some x→vd x=a
 |.none,x,e=>by cases e;rfl
 |.bool b,x,e=>by cases e;rfl
 |.int i,x,e=>by cases e;rfl
 |.str s,x,e=>by cases e;rfl
 |.tup l,x,e=>by obtain ⟨ds,c,rfl⟩:=cH.mp e;exact congrArg V.tup (Lp l ds c)
 |.lst l,x,e=>by obtain ⟨ds,c,rfl⟩:=cH.mp e;exact congrArg V.lst (Lp l ds c)
 |.scr _,_,e=>hU e
 |.mt _,_,e=>hU e
 |.dct _ _,_,e=>hU e
 |.set0,_,e=>hU e
 |.ref _,_,e=>hU e
 |.inst _,_,e=>hU e
 |.fn _,_,e=>hU e
 |.bm _ _,_,e=>hU e
theorem Lp:∀(l:bV)(ds:List oC),Yb l=some ds→vdL ds=l
 |[],ds,e=>by cases e;rfl
 |a::l,ds,e=>by obtain ⟨d,b,e⟩:=dS e;obtain ⟨r,c,e⟩:=dS e;cases e;exact congr (congrArg List.cons (Q2 a d b)) (Lp l r c)
end
theorem aHv(f:á (nbF n) x=true)(g:á (nbF n) y=true)(c:S8 a=some x)(d:S8 b=some y):Lm x y=true↔a=b:=by rw [←SeqAt.same_eq_eqv x y (ß n x y f g),aOz];exact ⟨fun e=>by rw [←Q2 a x c,e,Q2 b y d],fun e=>eR (c.symm.trans ((congrArg S8 e).trans d))⟩
inductive aOm(σ:St)(a a':V):Prop
 |mk (d:oC) (e:S7 σ a=some d) (f:S8 a'=some d) (b:á (nbF 64) d=true)
theorem Vq(f:rA xB 0 σ.cells a=some c)(g:ed 64 c=true):aOm σ a c:=by obtain ⟨_,d,e,h,i,b⟩:=Ł 64 c g;refine ⟨d,?_,e,b⟩;unfold S7;rw [f];show ob (S8 c) _=_;rw [e];exact if_pos (by unfold Tm;rw [h,decide_eq_true i];rfl)
theorem Kg{P:Prop}[Decidable P](d:rA xB 0 σ.cells a=some c)(e:rA xB 0 σ.cells b=some b')(f:ed 64 c=true)(g:ed 64 b'=true)(i:c=b'↔P):qS a b σ=some (.bool (decide P),σ)∧Di a b σ=some (.bool (!decide P),σ):=by
 obtain ⟨x,j,k,b1⟩:=Vq d f;obtain ⟨y,l,m,n⟩:=Vq e g;have h:Lm x y=decide P:=by rw [Bool.eq_iff_iff,aHv b1 n k m,i,decide_eq_true_iff]
 unfold qS Di;rw [j,l,←h];exact ⟨rfl,rfl⟩
theorem aB7(n:Nat):∀l:bH,(l.map V.int).all (ed n)=true:=by
 intro b
 induction b with
 |nil=>exact rfl
 |cons a r c=>simp only [cC,eT,c,E9];cases n<;>rfl
theorem Vo(n:Nat)(l:bH):ed (n+1) (vL l)=true:=aB7 n l
theorem Kh(a b:Int):qS (.int a) (.int b) σ=some (.bool (decide (a=b)),σ):=by rfl
theorem Gh(a n:Nat):(max 0 (min (if (a:Int)<0 then (a:Int)+n else a) n)).toNat=min a n:=by
 rw [if_neg (Int.not_lt.mpr (xJ a))];rcases Yu a n with h|h
 ·rw [Int.min_eq_left (aOv.mpr h),aIw h,aIo (xJ _),eL]
 ·rw [Int.min_eq_right (aOv.mpr h),Kd h,aIo (xJ _),eL]
theorem L2{c:Type}{l:List c}{a b:Nat}:pySl l (some (a:Int)) (some (b:Int))=(l.drop a).take (b-a):=by show (l.drop (max 0 (min (if (a:Int)<0 then (a:Int)+l.length else a) l.length)).toNat).take ((max 0 (min (if (b:Int)<0 then (b:Int)+l.length else b) l.length)).toNat-(max 0 (min (if (a:Int)<0 then (a:Int)+l.length else a) l.length)).toNat)=_;rw [Gh,Gh,←aIy,←aIy,←Yv];exact Bt.trans (by rw [Nat.min_assoc,Kd (List.length_take_le' b l),←Bt])
theorem ς{b:Type}{l:List b}{a:Nat}:pySl l (some (a:Int)) aF=l.drop a:=by show (l.drop (max 0 (min (if (a:Int)<0 then (a:Int)+l.length else a) l.length)).toNat).take (l.length-(max 0 (min (if (a:Int)<0 then (a:Int)+l.length else a) l.length)).toNat)=_;rw [Gh,←Bt,nV (by rw [tW];exact Nat.sub_le_sub_left (Nat.min_le_left _ _) _)]
theorem υ{a:Type}{l:List a}{b:Nat}:pySl l aF (some (b:Int))=l.take b:=by show l.take (max 0 (min (if (b:Int)<0 then (b:Int)+l.length else b) l.length)).toNat=_;rw [Gh,←Yv]
theorem tC{a:Type}{l:List a}(d:a)(h:i<l.length):l[i]?=some (l.getD i d):=by rw [bJ h,aP,bJ h];rfl
theorem sZ{a b:Type}{f:a→b}{l:List a}(d:a)(h:i<l.length):(l.map f)[i]?=some (f (l.getD i d)):=by rw [fK,tC d h];rfl
end
section
set_option backward.match.sparseCases false
noncomputable def Up:Expr→Bool
 |.Starred _ _=>false
 |_=>true
theorem mR(h:Up e=true):dR (e::es) env=(false,eval e env)::dR es env:=by cases e<;>first|rfl|cases h
end
section
variable{n:Nat}{F:Fx}{tab:List (Nat×jY)}
theorem lc(T:Dz F tab)(i:Nat)(h:tab[i]?=some (x,s):=by rfl)(hd:(s== ("__debug__":jY))=false:=by decide):kC n F (.Name s a) (aJ x):=cY T (aG h) hd
theorem lg(T:Dz F tab)(i:Nat)(h:tab[i]?=some (x,s):=by rfl):I5 n F (.Name s a) (bQ x):=qP T (aG h)
theorem ic(x:kC n F e g)(y:yK n F a es h)(b:Up e=true:=by rfl):yK n F a (e::es) (aK g h):=cR x y (mR b)
theorem ig{g:V→St→Option St}{gs:List (V→St→Option St)}(x:I5 n F e g)(y:I4 n F es gs)(a:oW (e::es) F.env=(false,assign e F.env)::oW es F.env:=by rfl):I4 n F (e::es) (g::gs):=dA x y a
end
section
set_option backward.match.sparseCases false
theorem llc{b:Type}{n:Nat}{P:List b→Prop}(k:∀a vs,vs.length=n→P (a::vs))(vs:List b)(h:vs.length=n+1):P vs:=by
 cases vs with
 |nil=>cases h
 |cons a r=>exact k a r (Nat.succ.inj h)
theorem ll0{a:Type}{P:List a→Prop}(k:P [])(vs:List a)(h:vs.length=0):P vs:=jZ h▸k
theorem ll1{b:Type}{P:List b→Prop}(k:∀a,P [a]):∀vs:List b,vs.length=1→P vs:=llc fun a=>ll0 (k a)
theorem ll2{c:Type}{P:List c→Prop}(k:∀a b,P [a,b]):∀vs:List c,vs.length=2→P vs:=llc fun a=>ll1 (k a)
theorem ll3{d:Type}{P:List d→Prop}(k:∀a b c,P [a,b,c]):∀vs:List d,vs.length=3→P vs:=llc fun a=>ll2 (k a)
theorem ll4{e:Type}{P:List e→Prop}(k:∀a b c d,P [a,b,c,d]):∀vs:List e,vs.length=4→P vs:=llc fun a=>ll3 (k a)
theorem ll5{f:Type}{P:List f→Prop}(k:∀a b c d e,P [a,b,c,d,e]):∀vs:List f,vs.length=5→P vs:=llc fun a=>ll4 (k a)
theorem iG{b:Type}{P:b→Prop}{a:b}{l:List b}(h:P a)(t:∀x∈l,P x):∀x∈a::l,P x:=List.forall_mem_cons.mpr ⟨h,t⟩
noncomputable def ą:Option rP→Bool
 |some .local=>true
 |_=>false
theorem Ą{x:Option rP}(h:ą x=true):x=some .local:=by
 cases x with
 |none=>cases h
 |some k=>cases k<;>first|rfl|cases h
theorem kO.ofC{fd:wN}{tab:lK}(cs:lK)(h:(!fd.scope.isCoroutine&& (!fd.scope.isGenerator&& (decide (fd.scope.kind=.function)&& (fd.closure.isEmpty&& (decide tab.Nodup&&tab.all fun s=>ą (fd.scope.names.lookup s)||cs.contains s)))))=true)
  (a:∀s∈cs,fd.scope.names.lookup s=some .cell∧∀n,((qW n fd.scope.names []).lookup s).isSome=true):kO fd tab:=by
 simp only [fU,Bool.not_eq_true',decide_eq_true_eq,List.isEmpty_iff,gN,Bool.or_eq_true]at h;obtain ⟨b,c,d,e,f,g⟩:=h;exact ⟨b,c,d,e,f,fun s i=>(g s i).imp Ą fun z=>a s (List.contains_iff_mem.mp z)⟩
theorem kO.of{fd:wN}{tab:lK}(h:(!fd.scope.isCoroutine&& (!fd.scope.isGenerator&& (decide (fd.scope.kind=.function)&& (fd.closure.isEmpty&& (decide tab.Nodup&&tab.all fun s=>ą (fd.scope.names.lookup s)|| [].contains s)))))=true):kO fd tab:=.ofC [] h fun _ h=>nomatch h
end
section
set_option backward.match.sparseCases false
open MineH (at_ bS fr O8 O7)
noncomputable def iY(o:wM):wN:=match o.data with
 |.func fd=>fd
 |_=>default
noncomputable def wI:List (jY×bM):=[(aC "tuple",.type "tuple"),(aC "len",.builtin "len"),(aC "set",.type "set"),(aC "enumerate",.type "enumerate"),(aC "range",.type "range"),(aC "list",.type "list"),(aC "map",.type "map"),(aC "sorted",.builtin "sorted"),(aC "max",.builtin "max"),(aC "Match",.ref 135),(aC "SequenceMatcher",.ref 242),(aC "_law_spots",.ref 253),(aC "_law_version",.ref 258),(aC "_law_rule",.ref 265),(aC "_law_due",.ref 270),(aC "_law_changes",.ref 277),(aC "_law_merge",.ref 284)]
structure Gd:Prop where
 K:(fr w.params).In S.heap
 lim:S.heap.NoLimit
 glo:∀env:Env,env.globals=mainGlobals→env.builtins=builtinsNs→∀s v,(s,v)∈wI→Glo env s v
theorem Vh:(aC "tuple",lB "tuple")∈wI:=aG (i:=0) rfl
theorem zS:(aC "len",D4 "len")∈wI:=aG (i:=1) rfl
theorem aEl:(aC "set",lB "set")∈wI:=aG (i:=2) rfl
theorem zY:(aC "enumerate",lB "enumerate")∈wI:=aG (i:=3) rfl
theorem Mv:(aC "range",lB "range")∈wI:=aG (i:=4) rfl
theorem aHe:(aC "list",lB "list")∈wI:=aG (i:=5) rfl
theorem aLm:(aC "map",lB "map")∈wI:=aG (i:=6) rfl
theorem ğ:(aC "sorted",D4 "sorted")∈wI:=aG (i:=7) rfl
theorem aLl:(aC "max",D4 "max")∈wI:=aG (i:=8) rfl
theorem Vi:(aC "Match",lR 135)∈wI:=aG (i:=9) rfl
theorem Dg:(aC "SequenceMatcher",lR 242)∈wI:=aG (i:=10) rfl
theorem Mx:(aC "_law_spots",lR 253)∈wI:=aG (i:=11) rfl
theorem zZ:(aC "_law_version",lR 258)∈wI:=aG (i:=12) rfl
theorem Fd:(aC "_law_rule",lR 265)∈wI:=aG (i:=13) rfl
theorem H5:(aC "_law_due",lR 270)∈wI:=aG (i:=14) rfl
theorem Aa:(aC "_law_changes",lR 277)∈wI:=aG (i:=15) rfl
theorem Df:(aC "_law_merge",lR 284)∈wI:=aG (i:=16) rfl
theorem Gd.one(G:Gd):vC S.heap sysModules:=⟨boot_o_1 w.params,G.K 1 _ (by kernel_rfl)⟩
theorem Gd.e(G:Gd)(fk:iL F)(a:F.env.globals=mainGlobals)(b:F.env.builtins=builtinsNs)(c:(s,v)∈wI)(d:F.env.kindOf s=some .globalImplicit)(hd:(s== ("__debug__":jY))=false):kC n F (.Name s f) (gK (.fn v)):=
 Ē fk d (G.glo _ a b _ _ c) hd
theorem Mf(P:fL):yW (fr P) 136 82 91 89 where
 obj:=⟨_,_,_,_,(by kernel_rfl:(fr P).lookup rJ=some MineH.o135v0),rfl,rfl,rfl,rfl,rfl⟩
 call:=by kernel_rfl
 typ:=by kernel_rfl
 init:=by kernel_rfl
 reads:=by kernel_rfl
 new:=by kernel_rfl
 newR:=⟨((recIn (fr P) 136 "staticmethod").getD []).tail,by kernel_rfl⟩
 tnew:=by kernel_rfl
 make:=by kernel_rfl
 makeR:=⟨((recIn (fr P) 91 "classmethod").getD []).tail,by kernel_rfl⟩
 iter:=by kernel_rfl
 lt:=by kernel_rfl
def Rc:lK:=[aC "_cls",aC "a",aC "b",aC "size"]
theorem aLw(P:fL):kO (iY O8) Rc:=.of (by kernel_rfl)
def aN5:Nat→M Fl:=dP (tE (gK (.str (aC "Create new instance of Match(a, b, size)")))) (uA (Ġ (aK (aJ 0) (aK (eQ (aK (aJ 1) (aK (aJ 2) (aK (aJ 3) bI)))) bI))))
theorem aLf(G:Gd):E0 n (wH (iY O8) L 82 Rc) (bS (at_ [3,4])) aN5:=by
 have T:=(aLw w.params).tab L 82;exact bF (eC rfl rfl iH) (cM (kP (Po G.K (Mf w.params) (G.e T.fk rfl rfl Vh (by kernel_rfl) (by decide)) ⟨rfl,rfl,trivial⟩
  (cR (cY T (aG (i:=0) rfl) (by decide)) (cR (cE (cR (cY T (aG (i:=1) rfl) (by decide)) (cR (cY T (aG (i:=2) rfl) (by decide)) (cR (cY T (aG (i:=3) rfl) (by decide)) aO rfl) rfl) rfl)) aO rfl) rfl) rfl)))
theorem aLo(G:Gd)(a b c:Int):Yl (n+1) (.ref 82) [.fn (.ref rJ),.int a,.int b,.int c] (fun r=>r=.mt [.int a,.int b,.int c]):=by
 refine Ac (fd:=iY O8) (o:=O8) (tab:=Rc) (body:=bS (at_ [3,4])) (aLw w.params) (G.K 82 _ (by kernel_rfl)) rfl G.lim (codeRec_of G.K (by kernel_rfl)) rfl (fun vs h=>?_) (by show (4:Nat)≤4;decide) rfl fun L=>?_
 ·revert vs;exact ll4 fun _ _ _ _=>by kernel_rfl
 ·refine jC (aLf G 0 _ _ _ (by rfl)) ?_;rintro _ _ ⟨rfl,rfl⟩;exact ⟨_,rfl,rfl,rfl⟩
noncomputable def Vm:Nat→M Fl:=fun _ _=>aF
theorem Hu:E0 n F b Vm:=fun k σ f σ' e=>by exact hU e
def Lv:lK:=[aC "cls",aC "iterable",aC "result"]
theorem aEt(P:fL):kO (iY O7) Lv:=.of (by kernel_rfl)
def aLn:Nat→M Fl:=dP (tE (gK (.str (aC "Make a new Match object from a sequence or iterable")))) (dP (eS (Ġ (aK (aJ 0) (aK (aJ 1) bI))) (bQ 2))
 (dP (uK (eE (bD Di (gB aEu (aK (aJ 2) bI)) (gK (.int 3)))) Vm (kY .next)) (uA (aJ 2))))
theorem aG7(G:Gd):E0 n (wH (iY O7) L 89 Lv) (bS (at_ [3,5])) aLn:=by
 have T:=(aEt w.params).tab L 89;exact bF (eC rfl rfl iH) (bF (dH (Po G.K (Mf w.params) (G.e T.fk rfl rfl Vh (by kernel_rfl) (by decide)) ⟨rfl,rfl,trivial⟩
  (cR (cY T (aG (i:=0) rfl) (by decide)) (cR (cY T (aG (i:=1) rfl) (by decide)) aO rfl) rfl) rfl) (qP T (aG (i:=2) rfl)) rfl rfl rfl)
  (bF (iQ (cT yC (fV (G.e T.fk rfl rfl zS (by kernel_rfl) (by decide)) (.inl ⟨_,rfl⟩) (Ï G.K (Mf w.params) (by kernel_rfl)) ⟨rfl,trivial⟩ (cR (cY T (aG (i:=2) rfl) (by decide)) aO rfl) rfl) bE rfl) Hu hV) (cM (kP (cY T (aG (i:=2) rfl) (by decide))))))
theorem aHj(G:Gd)(a b c:Int):Yl (n+1) (.ref 89) [.fn (.ref rJ),.tup [.int a,.int b,.int c]] (fun r=>r=.mt [.int a,.int b,.int c]):=by
 refine Ac (fd:=iY O7) (o:=O7) (tab:=Lv) (body:=bS (at_ [3,5])) (aEt w.params) (G.K 89 _ (by kernel_rfl)) rfl G.lim (codeRec_of G.K (by kernel_rfl)) rfl (fun vs h=>?_) (by show (2:Nat)≤3;decide) rfl fun L=>?_
 ·revert vs;exact ll2 fun _ _=>by kernel_rfl
 ·refine jC (aG7 G 0 _ _ _ (by rfl)) ?_;rintro _ _ ⟨rfl,rfl⟩;exact ⟨_,rfl,rfl,rfl⟩
end
section
open MineH (at_ bS fr o174v0)
def Zw:lK:=[aC "self",aC "a"]
theorem dS1(P:fL):kO (iY o174v0) Zw:=.of (by kernel_rfl)
theorem smA(P:fL):Fu (fr P) (aC "a"):=⟨by kernel_rfl,by kernel_rfl,_,(by kernel_rfl:findIn (fr P) (.ref xN) (aC "a")=some aF),by kernel_rfl⟩
theorem saA(P:fL):Dp (fr P) (aC "a"):=⟨by kernel_rfl,by kernel_rfl,by kernel_rfl,by kernel_rfl,by decide⟩
theorem aFu(P:fL):Dp (fr P) (aC "matching_blocks"):=⟨by kernel_rfl,by kernel_rfl,by kernel_rfl,by kernel_rfl,by decide⟩
theorem aFt(P:fL):Dp (fr P) (aC "opcodes"):=⟨by kernel_rfl,by kernel_rfl,by kernel_rfl,by kernel_rfl,by decide⟩
theorem oG:∀A:bH,cS (A.map V.int)=true:=by
 intro a
 induction a with
 |nil=>exact rfl
 |cons _ r b=>simp [cP,cO,pQ,pP,pO,pN,mU,mT,b]
theorem eP(A:bH):(vL A).pure=true:=by simp [vL,pQ,pP,pO,pN,mU,mT,oG]
theorem uI{g:V→nX}:∀{as:mH},(∀p∈as,g p.2=some p.2)→zO g as=some as:=by
 intro a
 induction a with
 |nil=>intro _;exact rfl
 |cons b r c=>obtain ⟨x,v⟩:=b;intro h;exact Hh (h (x,v) aU) (c fun p d=>h p (bB _ d))
theorem mS1(G:Gd)(m:Ey)(A:bH):qV (n+1) (.ref 174) (.mat m) [vL A] (fun c r=>c=.mat {m with a:=some A}∧r=.none):=by
 refine Hc fun as f=>vR (fd:=iY o174v0) (o:=o174v0) (tab:=Zw) (body:=bS (at_ [5,3])) (dS1 w.params) (G.K 174 _ (by kernel_rfl)) rfl G.lim (codeRec_of G.K (by kernel_rfl)) rfl (fun vs h=>?_) (by show (2:Nat)≤2;decide) (fun p d=>f.pure p d) (fun L=>?_) (by simp [cP,cO,eP])
 ·revert vs;exact ll2 fun _ _=>by kernel_rfl
 ·have T:=(dS1 w.params).tab L 174;refine gX ((eC rfl rfl iH 1 _ _ _ rfl).mono ?_);rintro _ _ ⟨rfl,rfl⟩;refine gX (Tq (Nu rfl ((cY T (aG (i:=1) rfl) (by decide) _ _ _ rfl).mono ?_)));rintro _ _ ⟨rfl,rfl⟩;have l:Hb (vS m.a)=true:=by cases m.a<;>rfl
  refine (jM G.K (smA w.params) (cY T (aG (i:=0) rfl) (by decide)) _ (vS m.a) ⟨Ba 0 [.inst 0,vL A],[(0,.attrs as)],1⟩ (mK (n:=0) (as:=as) rfl rfl f.a l)).mono ?_;rintro _ _ ⟨rfl,rfl⟩;refine G8 (.inl ⟨⟨A,rfl⟩,?_⟩) fun b u=>⟨b,rfl,?_⟩
  ·cases q:m.a with
   |none=>exact .inr (.inr ⟨_,rfl⟩)
   |some B=>exact .inr (.inl ⟨B,rfl⟩)
  ·cases b
   ·simp only [lF,if_false];refine zJ ?_;refine jC (bF (dH (cY T (aG (i:=1) rfl) (by decide)) (iV G.K T.fk (saA w.params) (cY T (aG (i:=0) rfl) (by decide))) rfl rfl rfl) (cM (mV pJ (.cons (iV G.K T.fk (aFu w.params) (cY T (aG (i:=0) rfl) (by decide))) (.cons (iV G.K T.fk (aFt w.params) (cY T (aG (i:=0) rfl) (by decide))) .nil)) rfl rfl rfl)) 1 _ _ _ rfl) ?_;rintro _ _ ⟨rfl,rfl⟩;have k:∀p∈iK (aC "opcodes") V.none (iK (aC "matching_blocks") V.none (iK (aC "a") (vL A) as)),p.2.pure=true:=fun p d=>by
     rcases aR.mp d with rfl|d
     ·rfl
     ·rcases aR.mp (oH d).1 with rfl|d
      ·rfl
      ·rcases aR.mp (oH d).1 with rfl|d
       ·exact eP A
       ·exact f.pure p (oH d).1
    refine ⟨.attrs (iK (aC "opcodes") V.none (iK (aC "matching_blocks") V.none (iK (aC "a") (vL A) as))),.attrs (iK (aC "opcodes") V.none (iK (aC "matching_blocks") V.none (iK (aC "a") (vL A) as))),rfl,?_,k,_,rfl,?_,rfl⟩
    ·show (zO _ _).map gM.attrs=_;rw [uI fun p d=>eA (k p d)];rfl
    ·have ne:∀{s t:String},(aC s==aC t)=false→aC s≠aC t:=fun h e=>by rw [e]at h;simp at h
     refine ⟨k,?_,?_,?_,?_,?_,?_,.inl ?_,.inl ?_⟩;all_goals simp only [kM]
     ·rw [if_neg (by decide),if_neg (by decide),if_neg (by decide)];exact f.junk
     ·rw [if_neg (by decide),if_neg (by decide),if_pos trivial];rfl
     ·rw [if_neg (by decide),if_neg (by decide),if_neg (by decide)];exact f.b
     ·rw [if_neg (by decide),if_neg (by decide),if_neg (by decide)];exact f.auto
     ·rw [if_neg (by decide),if_neg (by decide),if_neg (by decide)];exact f.bjunk
     ·rw [if_neg (by decide),if_neg (by decide),if_neg (by decide)];exact f.b2j
     ·rw [if_neg (by decide),if_pos trivial]
     ·rw [if_pos trivial]
   ·simp only [if_true];have g:=(u rfl).symm;refine gX (Lo ?_);refine ⟨.attrs as,.attrs as,.none,rfl,?_,f.pure,rfl,rfl,as,rfl,?_,rfl⟩
    ·show (zO _ as).map gM.attrs=_;rw [uI fun p d=>eA (f.pure p d)];rfl
    ·have j:m.a=some A:=by
      cases q:m.a with
      |none=>rw [q]at g;cases g
      |some B=>
       rw [q]at g;have inj:∀A B:bH,B.map V.int=A.map V.int→B=A:=fun A=>by
        induction A with
        |nil=>intro B h;cases B with|nil=>rfl|cons b B=>cases h
        |cons a A v=>intro B h;cases B with|nil=>cases h|cons b B=>simp only [cC,jV,V.int.injEq]at h;rw [h.1,v B h.2]
       simp only [vS,vL,V.lst.injEq]at g;rw [inj A B g]
     have:({m with a:=some A}:Ey)=m:=by cases m;simp at j;simp [j]
     rw [this];exact f
end
section
open MineH (at_ bS fr o188v0)
def Zy:lK:=[aC "self",aC "b",aC "b2j",aC "i",aC "elt",aC "indices",aC "junk",aC "isjunk",aC "popular",aC "n",aC "ntest",aC "idxs"]
theorem dCb(P:fL):kO (iY o188v0) Zy:=.of (by kernel_rfl)
theorem smB(P:fL):Fu (fr P) (aC "b"):=⟨by kernel_rfl,by kernel_rfl,_,(by kernel_rfl:findIn (fr P) (.ref xN) (aC "b")=some aF),by kernel_rfl⟩
theorem smJ(P:fL):Fu (fr P) (aC "isjunk"):=⟨by kernel_rfl,by kernel_rfl,_,(by kernel_rfl:findIn (fr P) (.ref xN) (aC "isjunk")=some aF),by kernel_rfl⟩
theorem aMx(P:fL):Fu (fr P) (aC "autojunk"):=⟨by kernel_rfl,by kernel_rfl,_,(by kernel_rfl:findIn (fr P) (.ref xN) (aC "autojunk")=some aF),by kernel_rfl⟩
theorem aJj(P:fL):Dp (fr P) (aC "b2j"):=⟨by kernel_rfl,by kernel_rfl,by kernel_rfl,by kernel_rfl,by decide⟩
theorem aM3(P:fL):Dp (fr P) (aC "bjunk"):=⟨by kernel_rfl,by kernel_rfl,by kernel_rfl,by kernel_rfl,by decide⟩
theorem aM2(P:fL):Dp (fr P) (aC "bpopular"):=⟨by kernel_rfl,by kernel_rfl,by kernel_rfl,by kernel_rfl,by decide⟩
theorem A5(k x:Int):∀(l:bH)(s:Nat),iN k s (l++[x])=iN k s l++if x=k then[s+l.length]else[]:=by
 intro a
 induction a with
 |nil=>intro s;by_cases h:x=k<;>rfl
 |cons y l b=>
  intro s;have:=b (s+1);by_cases h:y=k
  ·simp only [jO,xW,xV,h,if_true,this];simp [eN,qG 1]
  ·simp only [jO,xW,xV,h,if_false,this];simp [eN,qG 1]
theorem aDr{a b:Type}(f:a→b)(k:Int):∀(ks:bH)(ns:List a),(ks.zip (ns.map f)).lookup k=((ks.zip ns).lookup k).map f:=by
 intro c
 induction c with
 |nil=>intro ns;simp
 |cons x ks d=>
  intro e
  cases e with
  |nil=>rfl
  |cons n ns=>
   simp only [cC,iT,kU];cases k==x
   ·exact d ns
   ·rfl
theorem ï{a:Type}(k:Int)(n:a):∀{ks:bH}{ns:List a},(ks.zip ns).lookup k=some n→(k,n)∈ks.zip ns:=by
 intro b
 induction b with
 |nil=>intro ns;intro h;simp at h
 |cons x ks c=>
  intro d
  cases d with
  |nil=>intro h;simp at h
  |cons m ns=>
   intro h;simp only [iT,kU]at h⊢;cases e:k==x
   ·rw [e]at h;exact bB _ (c h)
   ·rw [e]at h;refine nW h ?_;rintro rfl;rw [eq_of_beq e];exact aU
theorem W6{d:Type}(k:Int):∀{ks:bH}{ns:List d},ks.length=ns.length→(ks.zip ns).lookup k=aF→k∉ks:=by
 intro a
 induction a with
 |nil=>intro ns;intro _;intro h;simp
 |cons x ks b=>
  intro c
  cases c with
  |nil=>intro h;intro _;simp at h
  |cons m ns=>
   intro f;intro h;simp only [iT,kU]at h;cases e:k==x
   ·rw [e]at h;have:=b (by simpa using f) h;simp only [aR,not_or];exact ⟨fun q=>by simp [q]at e,this⟩
   ·rw [e]at h;exact Ly h
theorem Uy{b:Type}{n:b}:∀{ks:bH}{ns:List b},ks.Nodup→(k,n)∈ks.zip ns→(ks.zip ns).lookup k=some n:=by
 intro c
 induction c with
 |nil=>intro ns;intro _;intro h;simp at h
 |cons x ks a=>
  intro d
  cases d with
  |nil=>intro _;intro h;simp at h
  |cons m ns=>
   intro hd;intro h;simp only [iT,kU]at h⊢;rcases aR.mp h with h|h
   ·refine soT h ?_;rintro rfl rfl;simp
   ·have e:=(Ln h).1;have:k≠x:=fun q=>by subst q;exact (lV.mp hd).1 e
    rw [show (k==x)=false by simpa using this];exact a (lV.mp hd).2 h
structure CbJ(B:bH)(g4:mH)(i:Nat)(σ:St)(ks:bH)(ns:nH):Prop where
 l0:lk σ.loc 0=some (.inst 0)
 l1:lk σ.loc 1=some (vL B)
 l2:lk σ.loc 2=some (.ref 1)
 c0:lk σ.cells 0=some (.attrs g4)
 c1:lk σ.cells 1=some (.dict ks (ns.map V.ref))
 len:ks.length=ns.length
 at_:∀k n,(k,n)∈ks.zip ns→lk σ.cells n=some (.list ((iN k 0 (B.take i)).map vN))∧2≤n∧n<σ.next∧iN k 0 (B.take i)≠[]
 nn:ns.Nodup
 kn:ks.Nodup
 all:∀k,k∉ks→iN k 0 (B.take i)=[]
 le:ks.length≤i
 nx:2≤σ.next
theorem Hw(k:Int):∀(l:bH)(s:Nat),(iN k s l).length≤l.length:=by
 intro a
 induction a with
 |nil=>intro s;exact bG _
 |cons y l b=>intro s;have:=b (s+1);simp only [xW,xV];split<;>simp<;>omega
theorem Cy{a:Type}{k:Int}{n:a}{ks:bH}{ns:List a}(h:(k,n)∈ks.zip ns):k∈ks∧n∈ns:=Ln h
theorem ŏ(h0:c σ0=some (.ref n,⟨kX 4 (.int b) (kX 3 (.int i) a),cs,nx⟩))(h:lk cs n=some (.list l))(d:l.length≤lim):
  (dP (eS c (bQ 5)) (tE (vE eY (aJ 5) (aK (aJ 3) bI)))) 1 σ0=some (.next,⟨kX 5 (.ref n) (kX 4 (.int b) (kX 3 (.int i) a)),kX n (.list (l++[.int i])) cs,nx⟩):=by
 refine (?_:bd (bd (c σ0) _) _=_);rw [h0];refine (?_:bd (vE eY (aJ 5) (aK (aJ 3) bI) ⟨kX 5 (.ref n) (kX 4 (.int b) (kX 3 (.int i) a)),cs,nx⟩) _=_);rw [sL (aT (by rw [iU,if_pos rfl]:lk (kX 5 (V.ref n) (kX 4 (.int b) (kX 3 (.int i) a))) 5=some (.ref n))) (by show ob (lk cs n) liC=_;rw [h];rfl) (aQ (aT (by rw [iU,if_neg (by decide),iU,if_neg (by decide),iU,if_pos rfl]:lk (kX 5 (V.ref n) (kX 4 (.int b) (kX 3 (.int i) a))) 3=some (.int i))) bU) (jE h d)];rfl
theorem aCr{B:bH}{i:Nat}{ks:bH}{ns:nH}(hi:i<B.length)(H:B.length<200)(j:CbJ B Q i σ ks ns):
  ∃σ' R T,(dP (eS (aBu K8 (aJ 2) (aK (aJ 4) (aK (mW bI) bI))) (bQ 5)) (tE (vE eY (aJ 5) (aK (aJ 3) bI)))) 1 {σ with loc:=kX 4 (.int (B.getD i 0)) (kX 3 (.int i) σ.loc)}=some (.next,σ')∧CbJ B Q (i+1) σ' R T:=by
 have I:lim=1048576:=rfl;have t:B.take (i+1)=B.take i++[B.getD i 0]:=by simp only [Ce,bJ hi,aP,bJ hi];rfl
 have J:ks.length≤lim:=by have:=j.le;exact aS 0x76314886900d78c6318c70c25633b30541004 hi H I this
 have u:lk ((σ.next,gM.list [])::σ.cells) 1=some (.dict ks (ns.map V.ref)):=by simp only [fF,fE];rw [if_neg (by have:=j.nx;exact aS aGj this)];exact j.c1
 generalize Z:B.getD i 0=b at *;have L:(B.take i).length=i:=by simp;exact aS aEa hi
 have h:(aBu K8 (aJ 2) (aK (aJ 4) (aK (mW bI) bI))) {σ with loc:=kX 4 (.int b) (kX 3 (.int i) σ.loc)}=K8 [.ref 1,.int b,.ref σ.next] ⟨kX 4 (.int b) (kX 3 (.int i) σ.loc),(σ.next,.list [])::σ.cells,σ.next+1⟩:=by simp [aBu,aJ,iU,j.l2,bd,aA8,j.c1,aK,mW,bI,aAj]
 cases e:(ks.zip ns).lookup b with
 |some n=>
  have c:=ï b n e;refine nn fun v=>?_;obtain ⟨a1,N,W,a4⟩:=j.at_ b n c;refine v ?_;have x:K8 [.ref 1,.int b,.ref σ.next] ⟨kX 4 (.int b) (kX 3 (.int i) σ.loc),(σ.next,.list [])::σ.cells,σ.next+1⟩=some (.ref n,⟨kX 4 (.int b) (kX 3 (.int i) σ.loc),(σ.next,.list [])::σ.cells,σ.next+1⟩):=by show aD _ 1 _=_;rw [aEw u];rw [if_pos J,aDr,e];rfl
  have y:lk ((σ.next,gM.list [])::σ.cells) n=some (.list ((iN b 0 (B.take i)).map vN)):=by simp only [fF,fE];rw [if_neg (by exact aS ó W)];exact a1
  refine ⟨⟨kX 5 (.ref n) (kX 4 (.int b) (kX 3 (.int i) σ.loc)),kX n (.list ((iN b 0 (B.take i)).map vN++[.int i])) ((σ.next,.list [])::σ.cells),σ.next+1⟩,ks,ns,?_,?_⟩
  ·exact ŏ (h.trans x) y (by rw [bC];exact (fun k=>by have:=Hw k (B.take i) 0;simp at this;exact aS 0xeeec6291912022f18c6318e186ac676614ce1004 H I this:∀k,(iN k 0 (B.take i)).length≤lim) b)
  ·refine ⟨by simp [iU,j.l0],by simp [iU,j.l1],by simp [iU,j.l2],?_,?_,j.len,?_,j.nn,j.kn,?_,Nat.le_succ_of_le j.le,by have:=j.nx;show 2≤σ.next+1;exact aS 0xc62941c1a3241a301 this⟩
   ·simp only [iU];rw [if_neg (by exact aS aAr N)];simp only [fF,fE];rw [if_neg (by have:=j.nx;exact aS aAr this)];exact j.c0
   ·simp only [iU];rw [if_neg (by exact aS aGj N)];exact u
   ·intro k m a;obtain ⟨b1,o,d,A⟩:=j.at_ k m a;have f:=A5 k b (B.take i) 0;rw [t,f,L];by_cases q:b=k
    ·subst q;have:m=n:=by have:=Uy j.kn a;rw [e]at this;refine nW this ?_;rintro rfl;rfl
     subst this;refine ⟨by simp [iU,vN],o,by show m<σ.next+1;exact aS aAq d,by simp⟩
    ·have X:m≠n:=fun z=>by
      subst z;obtain ⟨p,r,s⟩:=kK a;obtain ⟨O,P,C⟩:=kK c;simp only [List.getElem_zip,qE]at s C;have:p=O:=by
       have D:O<ns.length:=by simp at P;exact aS aDv P
       exact (List.getElem_inj j.nn (h₀:=(by simp at r;exact aS aDv r:p<ns.length)) (h₁:=D)).mp (s.2.trans C.2.symm)
      subst this;exact q (C.1.symm.trans s.1)
     refine ⟨?_,o,by show m<σ.next+1;exact aS aAq d,by simp [A]⟩;simp only [iU];rw [if_neg X,if_neg q];simp only [fF,fE];rw [if_neg (by exact aS ó d)];simpa using b1
   ·intro k g;have f:=A5 k b (B.take i) 0;rw [t,f,j.all k g,if_neg (fun z=>by subst z;exact g (Cy c).1)];rfl
 |none=>
  have F:=W6 b j.len e;have x:K8 [.ref 1,.int b,.ref σ.next] ⟨kX 4 (.int b) (kX 3 (.int i) σ.loc),(σ.next,.list [])::σ.cells,σ.next+1⟩=some (.ref σ.next,⟨kX 4 (.int b) (kX 3 (.int i) σ.loc),kX 1 (.dict (b::ks) ((σ.next::ns).map V.ref)) ((σ.next,.list [])::σ.cells),σ.next+1⟩):=by show aD _ 1 _=_;rw [aEw u];show (if ks.length≤lim then _ else _)=_;rw [if_pos J,aDr,e];rfl
  have y:lk (kX 1 (.dict (b::ks) ((σ.next::ns).map V.ref)) ((σ.next,gM.list [])::σ.cells)) σ.next=some (.list []):=by simp only [iU];rw [if_neg (by have:=j.nx;exact aS aGi this)];simp [fF,fE]
  refine ⟨⟨kX 5 (.ref σ.next) (kX 4 (.int b) (kX 3 (.int i) σ.loc)),kX σ.next (.list ([]++[.int i])) (kX 1 (.dict (b::ks) ((σ.next::ns).map V.ref)) ((σ.next,.list [])::σ.cells)),σ.next+1⟩,b::ks,σ.next::ns,?_,?_⟩
  ·exact ŏ (h.trans x) y (cJ _)
  ·have ne:∀m∈ns,m≠σ.next:=fun m c z=>by
    refine nn fun v=>?_;obtain ⟨p,r,s⟩:=kK c;refine v ?_;have D:p<ks.length:=by have:=j.len;exact aS 0x1a315080b08941003 r this
    have:(ks[p],ns[p])∈ks.zip ns:=by have:=kW (l:=ks.zip ns) (n:=p) (by simp;exact aS 0xaa6315006a08d421cce1003 r D);simpa using this
    have:=(j.at_ _ _ this).2.2.1;exact aS 0x546325044b00961003 z s this
   have Y:iN b 0 (B.take i)=[]:=j.all b F;refine ⟨by simp [iU,j.l0],by simp [iU,j.l1],by simp [iU,j.l2],?_,?_,by simp [j.len],?_,?_,?_,?_,?_,by have:=j.nx;show 2≤σ.next+1;exact aS 0xc62941c1a3241a301 this⟩
   ·simp only [iU];rw [if_neg (by have:=j.nx;exact aS aAr this),if_neg (by exact aS 0x43174967300)];simp only [fF,fE];rw [if_neg (by have:=j.nx;exact aS aAr this)];exact j.c0
   ·simp only [iU];rw [if_neg (by have:=j.nx;exact aS aGj this)];simp
   ·intro k m a;have f:=A5 k b (B.take i) 0;rw [t,f,L];simp only [iT,aR,qE]at a;rcases a with ⟨rfl,rfl⟩|a
    ·refine ⟨by simp [iU,Y,vN],j.nx,gQ _,by simp⟩
    ·obtain ⟨b1,o,d,A⟩:=j.at_ k m a;have G:¬b=k:=fun z=>by subst z;exact F (Cy a).1
     refine ⟨?_,o,by show m<σ.next+1;exact aS aAq d,by simp [A]⟩;simp only [iU];rw [if_neg (by exact aS ó d),if_neg (by exact aS aGi o),if_neg G];simp only [fF,fE];rw [if_neg (by exact aS ó d)];simpa using b1
   ·exact lV.mpr ⟨fun c=>ne _ c rfl,j.nn⟩
   ·exact lV.mpr ⟨F,j.kn⟩
   ·intro k g;simp only [aR,not_or]at g;have f:=A5 k b (B.take i) 0;rw [t,f,j.all k g.2,if_neg (fun z=>g.1 z.symm)];rfl
   ·show (b::ks).length≤i+1;simp;exact j.le
theorem í{g:V→nX}(h:zO g as=some a):Js g (.attrs as)=some (.attrs a):=congrArg (nD gM.attrs) h
theorem Se{g:V→nX}:∀{l:List (Nat×gM)},(∀p∈l,¬p.1<k)→tT k g l=some []:=by
 intro a
 induction a with
 |nil=>intro _;exact rfl
 |cons b r d=>obtain ⟨n,c⟩:=b;intro h;exact lH (h (n,c) aU) (d fun p e=>h p (bB _ e))
theorem ê{a:Type}{g:V→nX}{f:a→V}{f':a→V}:∀{l:List a},(∀v∈l,g (f v)=some (f' v))→nF g (l.map f)=some (l.map f'):=by
 intro b
 induction b with
 |nil=>intro _;exact rfl
 |cons v r c=>intro h;rw [cC];simp only [A1,A0];rw [h v aU,c fun p d=>h p (bB _ d)];rfl
theorem Xi{b e:Type}{f:b→Nat×e}:∀{l:List b}{a:b},(l.map fun x=>(f x).1).Nodup→a∈l→lk (l.map f) (f a).1=some (f a).2:=by
 intro c
 induction c with
 |nil=>intro a;intro _;intro h;cases h
 |cons x r d=>
  intro a;intro hd;intro h;simp only [cC,lV]at hd⊢;rcases aR.mp h with rfl|h
  ·exact if_pos rfl
  ·have:(f a).1≠(f x).1:=fun q=>hd.1 (by simp only [←q];exact List.mem_map_of_mem h);rw [show f x=((f x).1,(f x).2)from rfl];simp only [fF,fE];rw [if_neg this];exact d hd.2 h
def Ŏ(B:bH)(ks:bH):V:=.dct ks (ks.map fun k=>.lst ((iN k 0 B).map vN))
theorem J3(a:ks.Nodup)(b:∀k∈ks,iN k 0 B≠[])(c:∀k,k∉ks→iN k 0 B=[]):rY B (Ŏ B ks):=by
 refine ⟨ks,_,rfl,by simp,fun k=>?_⟩;by_cases h:k∈ks
 ·rw [if_neg (b k h)];refine Uy a ?_;refine nn fun d=>?_;obtain ⟨i,hi,e⟩:=kK h;refine d ?_;have:=kW (l:=ks.zip (ks.map fun k=>V.lst ((iN k 0 B).map vN))) (n:=i) (by simp;exact hi);simpa [e]using this
 ·rw [if_pos (c k h)];have:∀{ks:bH}{vs:bV},k∉ks→(ks.zip vs).lookup k=aF:=by
   intro ks
   induction ks with
   |nil=>intro vs _;simp
   |cons x ks f=>
    intro vs h
    cases vs with
    |nil=>simp
    |cons v vs=>simp only [aR,not_or]at h;simp only [iT,kU,show (k==x)=false by simpa using h.1];exact f h.2
  exact this h
theorem rH:∀(l:nH),cS (l.map vN)=true:=by
 intro a
 induction a with
 |nil=>exact rfl
 |cons _ r b=>exact b
theorem ō(B ks:bH):(Ŏ B ks).pure=true:=by
 unfold Ŏ;change cS _=true
 induction ks with
 |nil=>rfl
 |cons k ks a=>simp only [cC,cP,cO,pQ,pP,pO,pN,mU,mT,rH];exact a
theorem aH3(z:∀p∈as,p.2.pure=true)(j:CbJ B (iK (aC "b2j") (.ref 1) as) B.length σ ks ns):
  ∃ks,rY B (Ŏ B ks)∧Wk 1 σ ⟨[(0,.inst 0),(1,vL B)],[(0,.attrs (iK (aC "b2j") (Ŏ B ks) as))],1⟩:=by
 have o:B.take B.length=B:=zD;refine ⟨ks,J3 j.kn (fun k r=>?_) (fun k r=>by have:=j.all k r;rwa[o]at this),?_⟩
 ·obtain ⟨i,hi,e⟩:=kK r;have b:=j.len;have a:(k,ns[i])∈ks.zip ns:=by have:=kW (l:=ks.zip ns) (n:=i) (by simp;exact aS 0x2b52315006b105411cce1003 hi b);simpa [e]using this
  have:=(j.at_ k _ a).2.2.2;rwa[o]at this
 ·let f:Int×Nat→Nat×gM:=fun p=>(p.2,.list ((iN p.1 0 B).map vN));have s:(ks.zip ns).map (fun x=>(f x).1)=ns:=by refine (?_:(ks.zip ns).map Prod.snd=ns);rw [List.map_snd_zip];have:=j.len;exact aS 0x1462900561002 this
  have A:((ks.zip ns).map fun x=>(f x).1).Nodup:=by rw [s];exact j.nn
  have C:Wk 1 σ ⟨[(0,.inst 0),(1,vL B)],(0,.attrs (iK (aC "b2j") (.ref 1) as))::(1,.dict ks (ns.map V.ref))::(ks.zip ns).map f,σ.next⟩:=by
   refine Wk.of_lk (fun x v e=>?_) (fun n c e=>?_) (bG _)
   ·simp only [fF,fE]at e;split at e
    ·rename_i q;subst q;refine nW e ?_;rintro rfl;exact j.l0
    ·split at e
     ·rename_i q;subst q;refine nW e ?_;rintro rfl;exact j.l1
     ·exact hU e
   ·simp only [fF,fE]at e;split at e
    ·rename_i q;subst q;refine nW e ?_;rintro rfl;exact j.c0
    ·split at e
     ·rename_i q;subst q;refine nW e ?_;rintro rfl;exact j.c1
     ·have a:=ý e;obtain ⟨p,d,D⟩:=sH.mp a;obtain ⟨k,m⟩:=p;refine soT D ?_;rintro rfl rfl;have:=(j.at_ k m d).1;rw [o]at this;exact this
  refine C.trans (Sz ?_);generalize t:((0,gM.attrs (iK (aC "b2j") (.ref 1) as))::(1,gM.dict ks (ns.map V.ref))::(ks.zip ns).map f)=cs;have r1:∀k n,(k,n)∈ks.zip ns→rA 29 1 cs (.ref n)=some (.lst ((iN k 0 B).map vN)):=fun k n a=>by
   refine nn fun F=>?_;obtain ⟨a1,u,P,Q⟩:=j.at_ k n a;refine F ?_;have:lk cs n=some (.list ((iN k 0 B).map vN)):=by rw [←t];simp only [fF,fE];rw [if_neg (by exact aS 0xa31749660241a301 u)];rw [if_neg (by exact aS aGi u)];exact Xi (f:=f) A a
   refine (F7 (f:=28) (by exact aS 0x631749470241a301 u)).trans ?_;rw [this];exact congrArg (nD V.lst) (ê (f':=vN) fun v _=>pF (f:=27) rfl)
  have G:rA xB 1 cs (.ref 1)=some (Ŏ B ks):=by
   refine (F7 (f:=29) (fP 1)).trans ?_;rw [(by rw [←t];rfl:lk cs 1=some (.dict ks (ns.map V.ref)))];have:∀{ks:bH}{ns:nH},ks.length=ns.length→(∀k n,(k,n)∈ks.zip ns→rA 29 1 cs (.ref n)=some (.lst ((iN k 0 B).map vN)))→nF (rA 29 1 cs) (ns.map V.ref)=some (ks.map fun k=>V.lst ((iN k 0 B).map vN)):=by
    intro ks
    induction ks with
    |nil=>intro ns b _;cases ns with|nil=>rfl|cons n ns=>simp at b
    |cons k ks H=>
     intro ns b h
     cases ns with
     |nil=>simp at b
     |cons n ns=>simp only [cC];simp only [A1,A0];rw [h k n aU,H (by simpa using b) fun I J a=>h I J (bB _ a)];rfl
   exact congrArg (nD (V.dct ks)) (this j.len r1)
  have y:zO (rA xB 1 cs) (iK (aC "b2j") (.ref 1) as)=some (iK (aC "b2j") (Ŏ B ks) as):=Hh G (uI fun p d=>eA (z p (oH d).1));have L:Mi (rA xB 1 cs) [(0,.inst 0),(1,vL B)]=some [(0,.inst 0),(1,vL B)]:=cU rfl (cU (eA (eP B)) rfl);have N:tT 1 (rA xB 1 cs) cs=some [(0,.attrs (iK (aC "b2j") (Ŏ B ks) as))]:=by
   refine (fun (q:∀g,zO g (iK (aC "b2j") (.ref 1) as)=some (iK (aC "b2j") (Ŏ B ks) as)→tT 1 g cs=some [(0,.attrs (iK (aC "b2j") (Ŏ B ks) as))])=>q _ y) fun g y=>?_;rw [←t];refine dO Dx (í y) (lH (fP 1) (Se fun p d=>?_))
   ·obtain ⟨q,O,rfl⟩:=sH.mp d;have:=(j.at_ q.1 q.2 O).2.1;show ¬q.2<1;exact aS 0x631749470241a301 this
  exact qJ L (qJ N rfl)
end
section
open MineH (at_ bS fr o188v0)
section
variable{n:Nat}
def gT1:Nat→M Fl:=eS (rD (aC "b") (aJ 0)) (bQ 1)
def gT2:Nat→M Fl:=eS aHh (Fo [Dh (aC "b2j") (aJ 0),bQ 2])
def Vj(dl:pV):Nat→M Fl:=dP (eS (gB ń bI) (Fo [Dh (aC "bjunk") (aJ 0),bQ 6])) (dP (eS (rD (aC "isjunk") (aJ 0)) (bQ 7)) (dP (uK (qB (aJ 7)) Vm (kY .next))
 (dP (eS (gB ń bI) (Fo [Dh (aC "bpopular") (aJ 0),bQ 8])) (dP (eS (gB dl (aK (aJ 1) bI)) (bQ 9)) (uK (mL (qB (rD (aC "autojunk") (aJ 0))) (mL (eE (bD gGe (aJ 9) (gK (.int 200)))) (fun σ=>some (true,σ)))) Vm (kY .next))))))
variable{L:dF}
abbrev FCb(L:dF):Fx:=wH (iY o188v0) L 188 Zy
theorem aN3(G:Gd):Ez n (FCb L) ((bS (at_ [5,5])).getD 0 default) gT1:=by have T:=(dCb w.params).tab L 188;exact dH (jM G.K (smB w.params) (cY T (aG (i:=0) rfl) (by decide))) (qP T (aG (i:=1) rfl)) rfl rfl rfl
theorem aN2(G:Gd):Ez n (FCb L) ((bS (at_ [5,5])).getD 1 default) gT2:=by have T:=(dCb w.params).tab L 188;exact mV Kx (.cons (iV G.K T.fk (aJj w.params) (cY T (aG (i:=0) rfl) (by decide))) (.cons (qP T (aG (i:=2) rfl)) .nil)) rfl rfl rfl
theorem aG6(G:Gd){dl:pV}(a:Dr n (FCb L) (.builtin "len") dl):E0 n (FCb L) ((bS (at_ [5,5])).drop 3) (Vj dl):=by
 have T:=(dCb w.params).tab L 188;exact bF (mV (fV (G.e T.fk rfl rfl aEl (by kernel_rfl) (by decide)) (.inr (.inl ⟨_,rfl⟩)) O5 trivial aO rfl) (.cons (iV G.K T.fk (aM3 w.params) (cY T (aG (i:=0) rfl) (by decide))) (.cons (qP T (aG (i:=6) rfl)) .nil)) rfl rfl rfl)
  (bF (dH (jM G.K (smJ w.params) (cY T (aG (i:=0) rfl) (by decide))) (qP T (aG (i:=7) rfl)) rfl rfl rfl)
  (bF (iQ (nN (cY T (aG (i:=7) rfl) (by decide)) rfl) Hu hV)
  (bF (mV (fV (G.e T.fk rfl rfl aEl (by kernel_rfl) (by decide)) (.inr (.inl ⟨_,rfl⟩)) O5 trivial aO rfl) (.cons (iV G.K T.fk (aM2 w.params) (cY T (aG (i:=0) rfl) (by decide))) (.cons (qP T (aG (i:=8) rfl)) .nil)) rfl rfl rfl)
  (bF (dH (fV (G.e T.fk rfl rfl zS (by kernel_rfl) (by decide)) (.inl ⟨_,rfl⟩) a ⟨rfl,trivial⟩ (cR (cY T (aG (i:=1) rfl) (by decide)) aO rfl) rfl) (qP T (aG (i:=9) rfl)) rfl rfl rfl)
  (cM (iQ (mE (gT (nN (jM G.K (aMx w.params) (cY T (aG (i:=0) rfl) (by decide))) rfl) (gT (cT ħ (cY T (aG (i:=9) rfl) (by decide)) bE rfl) pK))) Hu hV))))))
def Nt(as:mH)(ch:V):mH:=iK (aC "bpopular") .set0 (iK (aC "bjunk") .set0 (iK (aC "b2j") ch as))
theorem Zv{dl:pV}(r:nM as (aC "isjunk")=some .none)(x:nM as (aC "autojunk")=some (.bool m))(z:(a.getD []).length<200)
  (hd:∀σ,dl [vS a] σ=some (.int (a.getD []).length,σ)):
  ∃σ',Vj dl 1 ⟨[(0,.inst 0),(1,vS a)],[(0,.attrs (iK (aC "b2j") ch as))],1⟩=some (.next,σ')∧lk σ'.cells 0=some (.attrs (Nt as ch)):=by
 have i:decide ((200:Int)≤((a.getD []).length:Int))=false:=by lia
 have d:∀{l:mH}{s t:jY}{v u:V},t≠s→nM l t=some u→nM (iK s v l) t=some u:=fun h e=>kM.trans ((if_neg h).trans e);let j:=iK (aC "bjunk") .set0 (iK (aC "b2j") ch as);let y:St:=⟨[(0,.inst 0),(1,vS a),(6,.set0)],[(0,.attrs j)],1⟩;let o:St:=⟨[(0,.inst 0),(1,vS a),(6,.set0),(7,.none)],[(0,.attrs j)],1⟩;let p:St:=⟨[(0,.inst 0),(1,vS a),(6,.set0),(7,.none),(8,.set0)],[(0,.attrs (Nt as ch))],1⟩;let c:St:=⟨[(0,.inst 0),(1,vS a),(6,.set0),(7,.none),(8,.set0),(9,.int (a.getD []).length)],[(0,.attrs (Nt as ch))],1⟩;have g:Go (Vj dl 1 ⟨[(0,.inst 0),(1,vS a)],[(0,.attrs (iK (aC "b2j") ch as))],1⟩) fun f τ=>f=.next∧τ=c:=by
  unfold Vj;refine bR (dK (v:=.set0) (τ':=y) (kL (us:=[]) rfl rfl) rfl ?_);refine bR (dK (v:=.none) (τ':=o) (mK (n:=0) (as:=j) rfl rfl (d (by decide) (d (by decide) r)) rfl) rfl ?_);refine bR (zQ (τ:=o) rfl (iR ?_));refine bR (dK (v:=.set0) (τ':=p) (kL (us:=[]) rfl rfl) rfl ?_);refine bR (dK (τ:=p) (τ':=c) (kL (us:=[vS a]) rfl (hd _)) rfl ?_);refine nP (jN (gZ (b:=m) (τ:=c) (yQ (mK (n:=0) (as:=Nt as ch) rfl rfl (d (by decide) (d (by decide) (d (by decide) x))) rfl) rfl) ?_));have k:Go (kY .next 1 c) fun f τ=>f=.next∧τ=c:=iR ⟨rfl,rfl⟩
  cases m with
  |false=>exact k
  |true=>exact jN (gZ (b:=false) (τ:=c) (kD (congrArg (fun b=>some (V.bool b,c)) i)) k)
 obtain ⟨f,τ,e,rfl,rfl⟩:=g;exact ⟨_,e,rfl⟩
theorem wB(B:bH)(h:B.length<200)(σ:St):Dm [vL B] σ=some (.int B.length,σ):=by have a:lim=1048576:=rfl;show (if (B.map V.int).length≤lim then some (V.int (B.map V.int).length,σ)else aF)=_;rw [bC,if_pos (by exact aS 0x68c52102f18c6318e182ac6766002 h a)]
theorem aCi(σ:St):Ň [.str (aC "")] σ=some (.int 0,σ):=by rfl
theorem uR(a:∀p∈as,p.2.pure=true)(b:ch.pure=true):∀p∈Nt as ch,p.2.pure=true:=fun p h=>by
 rcases aR.mp h with rfl|h
 ·rfl
 ·rcases aR.mp (oH h).1 with rfl|h
  ·rfl
  ·rcases aR.mp (oH h).1 with rfl|h
   ·exact b
   ·exact a p (oH h).1
theorem mCb(G:Gd)(as:mH)(a:Option bH)(x:Bool)(b:∀p∈as,p.2.pure=true)(y:nM as (aC "isjunk")=some .none)(z:nM as (aC "autojunk")=some (.bool x))(A:nM as (aC "b")=some (vS a))(d:(a.getD []).length<200):
  qV (n+1) (.ref 188) (.attrs as) [] (fun c r=>∃ch,rY (a.getD []) ch∧ch.pure=true∧c=.attrs (Nt as ch)∧r=.none):=by
 have C:Hb (vS a)=true:=by cases a<;>rfl
 refine vR (fd:=iY o188v0) (o:=o188v0) (tab:=Zy) (body:=bS (at_ [5,5])) (dCb w.params) (G.K 188 _ (by kernel_rfl)) rfl G.lim (codeRec_of G.K (by kernel_rfl)) rfl (fun vs h=>?_) (by refine (?_:(1:Nat)≤12);decide) b (fun L=>?_) (by simp [cP,cO])
 ·revert vs;exact ll1 fun _=>by kernel_rfl
 ·have T:=(dCb w.params).tab L 188;have fin:∀ch,rY (a.getD []) ch→ch.pure=true→∀dl,Dr n (FCb L) (.builtin "len") dl→(∀σ,dl [vS a] σ=some (.int (a.getD []).length,σ))→
    SW 1 n (FCb L) ((bS (at_ [5,5])).drop 3) ⟨[(0,.inst 0),(1,vS a)],[(0,.attrs (iK (aC "b2j") ch as))],1⟩ (ŝ (fun c r=>∃ch,rY (a.getD []) ch∧ch.pure=true∧c=.attrs (Nt as ch)∧r=.none)):=fun ch f g dl D hd=>by
   obtain ⟨σ',e,F⟩:=Zv (ch:=ch) y z d hd;refine jC (aG6 G D 1 _ _ _ e) ?_;rintro _ _ ⟨rfl,rfl⟩;refine ⟨_,.attrs (Nt as ch),F,?_,uR b g,ch,f,g,rfl,rfl⟩;refine (?_:(zO _ _).map gM.attrs=_);rw [uI fun p m=>eA (uR b g p m)];rfl
  refine gX ((aN3 G 1 _ .next ⟨[(0,.inst 0),(1,vS a)],[(0,.attrs as)],1⟩ (ĺ (mK (n:=0) (as:=as) rfl rfl A C) rfl)).mono ?_);rintro _ _ ⟨rfl,rfl⟩;refine gX ((aN2 G 1 _ .next ⟨[(0,.inst 0),(1,vS a),(2,.ref 1)],[(1,.dict [] []),(0,.attrs (iK (aC "b2j") (.ref 1) as))],2⟩ (ĺ (v:=.ref 1) rfl rfl)).mono ?_);rintro _ _ ⟨rfl,rfl⟩
  cases a with
  |none=>refine gX (Zc T.fk (G.e T.fk rfl rfl zY (by kernel_rfl) (by decide)) ⟨rfl,trivial⟩ (cY T (aG (i:=1) rfl) (by decide)) rfl rfl (fun _=>rfl) (σ₁:=⟨[(0,.inst 0),(1,vS aF),(2,.ref 1)],[(1,.dict [] []),(0,.attrs (iK (aC "b2j") (.ref 1) as))],2⟩) (by rfl) ?_);refine T5 (σ':=⟨[(0,.inst 0),(1,vS aF)],[(0,.attrs (iK (aC "b2j") (.dct [] []) as))],1⟩) T.fk (B4 (xs:=[0,1]) ?_) (fin (.dct [] []) ⟨[],[],rfl,rfl,fun k=>rfl⟩ rfl Ň Î aCi);have H:zO (rA xB 1 [(1,.dict [] []),(0,.attrs (iK (aC "b2j") (.ref 1) as))]) (iK (aC "b2j") (.ref 1) as)=some (iK (aC "b2j") (.dct [] []) as):=Hh rfl (uI fun p m=>eA (b p (oH m).1));show frz 1 ⟨[(0,.inst 0),(1,vS aF)],[(1,.dict [] []),(0,.attrs (iK (aC "b2j") (.ref 1) as))],2⟩=_;have I:tT 1 (rA xB 1 [(1,.dict [] []),(0,.attrs (iK (aC "b2j") (.ref 1) as))]) [(1,.dict [] []),(0,.attrs (iK (aC "b2j") (.ref 1) as))]=some [(0,.attrs (iK (aC "b2j") (.dct [] []) as))]:=lH (fP 1) (dO Dx (í H) rfl);exact qJ rfl (qJ I rfl)
  |some B=>
   refine gX (Zb T.fk (G.e T.fk rfl rfl zY (by kernel_rfl) (by decide)) ⟨rfl,trivial⟩ (cY T (aG (i:=1) rfl) (by decide)) rfl (gs:=[bQ 3,bQ 4]) (dA (qP T (aG (i:=3) rfl)) (dA (qP T (aG (i:=4) rfl)) jL rfl) rfl) rfl (fun _=>rfl)
    (l:=B.map V.int) (σ₁:=⟨[(0,.inst 0),(1,vS (some B)),(2,.ref 1)],[(1,.dict [] []),(0,.attrs (iK (aC "b2j") (.ref 1) as))],2⟩) (by rfl) (oG B)
    (fun i σ=>∃ks ns,CbJ B (iK (aC "b2j") (.ref 1) as) i σ ks ns) ⟨[],[],rfl,rfl,rfl,rfl,rfl,rfl,(fun _ _ h=>by cases h),by simp,by simp,fun k _=>rfl,bG _,bG _⟩ (fun i σ hi ⟨ks,ns,j⟩=>?_) (fun σ ⟨ks,ns,j⟩=>?_))
   ·have t:i<B.length:=by simpa using hi
    have s:=d;obtain ⟨σ',J,N,e,O⟩:=aCr t s j;have P:(B.map V.int).getD i .none=.int (B.getD i 0):=by simp [aP,t]
    refine ⟨{σ with loc:=kX 4 (.int (B.getD i 0)) (kX 3 (.int i) σ.loc)},by rw [P];rfl,?_⟩;refine jC (bF (dH (aBf I8 rfl Of (W0 T.fk G.one) (cY T (aG (i:=2) rfl) (by decide)) (by exact ⟨rfl,rfl,trivial⟩) (cR (cY T (aG (i:=4) rfl) (by decide)) (cR (gR aO) aO rfl) rfl) rfl) (qP T (aG (i:=5) rfl)) rfl rfl rfl)
     (cM (eC rfl rfl (jS bW rfl bP (gH T.fk) (cY T (aG (i:=5) rfl) (by decide)) (by exact ⟨rfl,trivial⟩) (cR (cY T (aG (i:=3) rfl) (by decide)) aO rfl) rfl))) 1 _ _ _ e) ?_
    rintro _ _ ⟨rfl,rfl⟩;exact ⟨_,Wk.refl,J,N,O⟩
   ·have Q:CbJ B (iK (aC "b2j") (.ref 1) as) B.length σ ks ns:=by simpa using j
    obtain ⟨u,f,R⟩:=aH3 b Q;exact T5 T.fk R (fin (Ŏ B u) f (ō B u) Dm rT (wB B d))
end
end
section
open MineH (at_ bS fr o174v0 o181v0)
section
variable{n:Nat}
def Th(aa:Option bH)(v0:V):Prop:=v0=.none∨((∃A,aa=some A)∧((∃B,v0=vL B)∨∃s,v0=.str s))
theorem Th.seq{b:Option bH}{a:V}(h:Th b a):((∃A,vS b=vL A)∧(a=.none∨(∃B,a=vL B)∨∃s,a=.str s))∨((∃s,vS b=.str s)∧a=.none):=by
 rcases h with rfl|⟨⟨A,rfl⟩,h⟩
 ·cases b with
  |none=>exact .inr ⟨⟨_,rfl⟩,rfl⟩
  |some A=>exact .inl ⟨⟨A,rfl⟩,.inl rfl⟩
 ·exact .inl ⟨⟨A,rfl⟩,.inr h⟩
theorem Th.nf{b:Option bH}{a:V}(h:Th b a):Hb a=true:=by rcases h with rfl|⟨_,⟨B,rfl⟩|⟨s,rfl⟩⟩<;>rfl
theorem vO:∀a,(vS a).pure=true
 |aF=>rfl
 |some A=>eP A
def Oy(as:mH)(aa:Option bH):mH:=iK (aC "opcodes") V.none (iK (aC "matching_blocks") V.none (iK (aC "a") (vS aa) as))
theorem kG(a:v.pure=true)(b:∀p∈as,p.2.pure=true):∀p∈iK s v as,p.2.pure=true:=fun p h=>by
 rcases aR.mp h with rfl|h
 ·exact a
 ·exact b p (oH h).1
theorem uQ(a:Option bH)(b:∀p∈as,p.2.pure=true):∀p∈Oy as a,p.2.pure=true:=kG rfl (kG rfl (kG (vO a) b))
theorem rW{k:Nat}(a:∀p∈as,p.2.pure=true):Js (rA xB k cs) (.attrs as)=some (.attrs as):=by refine (?_:(zO _ as).map gM.attrs=_);rw [uI fun p b=>eA (a p b)];rfl
theorem aNc(G:Gd)(as:mH)(a:Option bH)(e:V)(d:∀p∈as,p.2.pure=true)(g:nM as (aC "a")=some e)(f:Th a e):
  qV (n+1) (.ref 174) (.attrs as) [vS a] (fun c r=>r=.none∧((e=vS a∧c=.attrs as)∨c=.attrs (Oy as a))):=by
 refine vR (fd:=iY o174v0) (o:=o174v0) (tab:=Zw) (body:=bS (at_ [5,3])) (dS1 w.params) (G.K 174 _ (by kernel_rfl)) rfl G.lim (codeRec_of G.K (by kernel_rfl)) rfl (fun vs h=>?_) (by refine (?_:(2:Nat)≤2);decide) d (fun L=>?_) (by simp [cP,cO,vO])
 ·revert vs;exact ll2 fun _ _=>by kernel_rfl
 ·have T:=(dS1 w.params).tab L 174;refine gX ((eC rfl rfl iH 1 _ _ _ rfl).mono ?_);rintro _ _ ⟨rfl,rfl⟩;refine gX (Tq (Nu rfl ((cY T (aG (i:=1) rfl) (by decide) _ _ _ rfl).mono ?_)));rintro _ _ ⟨rfl,rfl⟩;refine (jM G.K (smA w.params) (cY T (aG (i:=0) rfl) (by decide)) _ e ⟨Ba 0 [.inst 0,vS a],[(0,.attrs as)],1⟩ (mK (n:=0) (as:=as) rfl rfl g f.nf)).mono ?_;rintro _ _ ⟨rfl,rfl⟩;refine G8 f.seq fun b j=>⟨b,rfl,?_⟩;cases b
  ·simp only [lF,if_false];refine zJ ?_;refine jC (bF (dH (cY T (aG (i:=1) rfl) (by decide)) (iV G.K T.fk (saA w.params) (cY T (aG (i:=0) rfl) (by decide))) rfl rfl rfl) (cM (mV pJ (.cons (iV G.K T.fk (aFu w.params) (cY T (aG (i:=0) rfl) (by decide))) (.cons (iV G.K T.fk (aFt w.params) (cY T (aG (i:=0) rfl) (by decide))) .nil)) rfl rfl rfl)) 1 _ _ _ rfl) ?_;rintro _ _ ⟨rfl,rfl⟩;exact ⟨.attrs (Oy as a),.attrs (Oy as a),rfl,rW (uQ a d),uQ a d,rfl,.inr rfl⟩
  ·simp only [if_true];refine gX (Lo ?_);exact ⟨.attrs as,.attrs as,.none,rfl,rW d,d,rfl,rfl,rfl,.inl ⟨(j rfl).symm,rfl⟩⟩
def aDh:lK:=[aC "self",aC "b"]
theorem dS2(P:fL):kO (iY o181v0) aDh:=.of (by kernel_rfl)
theorem saB(P:fL):Dp (fr P) (aC "b"):=⟨by kernel_rfl,by kernel_rfl,by kernel_rfl,by kernel_rfl,by decide⟩
theorem aM1(P:fL):Dp (fr P) (aC "fullbcount"):=⟨by kernel_rfl,by kernel_rfl,by kernel_rfl,by kernel_rfl,by decide⟩
theorem Sb(G:Gd)(a:plainGet (fr w.params) xN name=true)(b:findIn (fr w.params) (.ref xN) name=some (some (.ref f)))(c:typeIn (fr w.params) (.ref f)=some (.type "function"))(d:name∉rN)(e:(fr w.params).lookup f=some o)(g:o.data=.func fd):I2 (fr w.params) name f:=
 ⟨a,b,c,d,o,fd,G.K f o e,g⟩
theorem aNb(G:Gd):I2 (fr w.params) (aC "_SequenceMatcher__chain_b") 188:=Sb G (by kernel_rfl) (by kernel_rfl) (by kernel_rfl) (by decide) (o:=MineH.o188v0) (by kernel_rfl) rfl
def Jo(as:mH)(bb:Option bH):mH:=iK (aC "fullbcount") V.none (iK (aC "opcodes") V.none (iK (aC "matching_blocks") V.none (iK (aC "b") (vS bb) as)))
theorem uP{as:mH}(a:Option bH)(b:∀p∈as,p.2.pure=true):∀p∈Jo as a,p.2.pure=true:=kG rfl (kG rfl (kG rfl (kG (vO a) b)))
theorem pI{s t:jY}(h:(s==t)=false):s≠t:=by simpa using h
theorem aJ8(G:Gd)(as:mH)(a:Option bH)(e:V)(f:Bool)(d:∀p∈as,p.2.pure=true)(l:nM as (aC "b")=some e)(k:Th a e)
  (m:nM as (aC "isjunk")=some .none) (s:nM as (aC "autojunk")=some (.bool f)) (t:(a.getD []).length<200):
  qV (n+2) (.ref 181) (.attrs as) [vS a] (fun c r=>r=.none∧((e=vS a∧c=.attrs as)∨∃ch,rY (a.getD []) ch∧ch.pure=true∧c=.attrs (Nt (Jo as a) ch))):=by
 refine vR (fd:=iY o181v0) (o:=o181v0) (tab:=aDh) (body:=bS (at_ [5,4])) (dS2 w.params) (G.K 181 _ (by kernel_rfl)) rfl G.lim (codeRec_of G.K (by kernel_rfl)) rfl (fun vs h=>?_) (by refine (?_:(2:Nat)≤2);decide) d (fun L=>?_) (by simp [cP,cO,vO])
 ·revert vs;exact ll2 fun _ _=>by kernel_rfl
 ·have T:=(dS2 w.params).tab L 181;refine gX ((eC rfl rfl iH 1 _ _ _ rfl).mono ?_);rintro _ _ ⟨rfl,rfl⟩;refine gX (Tq (Nu rfl ((cY T (aG (i:=1) rfl) (by decide) _ _ _ rfl).mono ?_)));rintro _ _ ⟨rfl,rfl⟩;refine (jM G.K (smB w.params) (cY T (aG (i:=0) rfl) (by decide)) _ e ⟨Ba 0 [.inst 0,vS a],[(0,.attrs as)],1⟩ (mK (n:=0) (as:=as) rfl rfl l k.nf)).mono ?_;rintro _ _ ⟨rfl,rfl⟩;refine G8 k.seq fun b u=>⟨b,rfl,?_⟩;cases b
  ·simp only [lF,if_false];refine zJ ?_;refine gX ((dH (cY T (aG (i:=1) rfl) (by decide)) (iV G.K T.fk (saB w.params) (cY T (aG (i:=0) rfl) (by decide))) rfl rfl rfl 1 _ _ _ rfl).mono ?_);rintro _ _ ⟨rfl,rfl⟩;refine gX ((mV pJ (.cons (iV G.K T.fk (aFu w.params) (cY T (aG (i:=0) rfl) (by decide))) (.cons (iV G.K T.fk (aFt w.params) (cY T (aG (i:=0) rfl) (by decide))) .nil)) rfl rfl rfl 1 _ _ _ rfl).mono ?_);rintro _ _ ⟨rfl,rfl⟩;refine gX ((dH pJ (iV G.K T.fk (aM1 w.params) (cY T (aG (i:=0) rfl) (by decide))) rfl rfl rfl 1 _ _ _ rfl).mono ?_);rintro _ _ ⟨rfl,rfl⟩;have v:nM (Jo as a) (aC "b")=some (vS a):=by simp only [Jo,kM];rw [if_neg (pI (by decide)),if_neg (pI (by decide)),if_neg (pI (by decide)),if_pos trivial]
   have g:nM (Jo as a) (aC "isjunk")=some .none:=by simp only [Jo,kM];rw [if_neg (pI (by decide)),if_neg (pI (by decide)),if_neg (pI (by decide)),if_neg (pI (by decide))];exact m
   have x:nM (Jo as a) (aC "autojunk")=some (.bool f):=by simp only [Jo,kM];rw [if_neg (pI (by decide)),if_neg (pI (by decide)),if_neg (pI (by decide)),if_neg (pI (by decide))];exact s
   refine gX (Cg rfl rfl (xC G.K (aNb G) rfl (by exact trivial) ((cY T (aG (i:=0) rfl) (by decide) _ _ _ rfl).mono ?_)));rintro _ _ ⟨rfl,rfl⟩;refine ⟨0,.attrs (Jo as a),rfl,rfl,.inl ⟨_,rfl⟩,(aO _ _ _ rfl).mono ?_⟩;rintro _ _ ⟨rfl,rfl⟩;refine D6 T.fk (c0:=.attrs (Jo as a)) rfl (uP a d) rfl (mCb G (Jo as a) a f (uP a d) g x v t) ?_;rintro _ _ _ _ ⟨ch,y,j,rfl,rfl⟩;refine ⟨.inl rfl,zJ ?_⟩;exact ⟨.attrs (Nt (Jo as a) ch),.attrs (Nt (Jo as a) ch),rfl,rW (uR (uP a d) j),uR (uP a d) j,rfl,.inr ⟨ch,y,j,rfl⟩⟩
  ·simp only [if_true];refine gX (Lo ?_);exact ⟨.attrs as,.attrs as,.none,rfl,rW d,d,rfl,rfl,rfl,.inl ⟨(u rfl).symm,rfl⟩⟩
end
end
section
open MineH (at_ bS fr Ec o167v0)
section
variable{n:Nat}
theorem Bx:nM (Nt as ch) s=if s=aC "bpopular" then some .set0 else if s=aC "bjunk" then some .set0 else if s=aC "b2j" then some ch else nM as s:=by simp only [Nt,kM]
theorem Hj:nM (Jo as a) s=if s=aC "fullbcount" then some .none else if s=aC "opcodes" then some .none else if s=aC "matching_blocks" then some .none else if s=aC "b" then some (vS a)else nM as s:=by simp only [Jo,kM]
theorem Ei{as:mH}{a:Option bH}{s:jY}:nM (Oy as a) s=if s=aC "opcodes" then some .none else if s=aC "matching_blocks" then some .none else if s=aC "a" then some (vS a)else nM as s:=by simp only [Oy,kM]
theorem Hq:∀{A B:bH},B.map V.int=A.map V.int→B=A:=by
 intro c
 induction c with
 |nil=>
  intro d
  cases d with
  |nil=>intro _;exact rfl
  |cons b B=>intro h;cases h
 |cons a A e=>
  intro f
  cases f with
  |nil=>intro h;cases h
  |cons b B=>intro h;simp only [cC,jV,V.int.injEq]at h;simp only [h.1,e h.2]
theorem aFi(h:vS m=vL B):m=some B:=by
 cases m with
 |none=>cases h
 |some A=>simp only [vS,vL,V.lst.injEq]at h;rw [Hq h]
theorem aA6(m:Option bH)(B:bH):Th (some B) (vS m):=by
 cases m with
 |none=>exact .inr ⟨⟨_,rfl⟩,.inr ⟨_,rfl⟩⟩
 |some A=>exact .inr ⟨⟨_,rfl⟩,.inl ⟨_,rfl⟩⟩
theorem fO{c:Type}{s t:jY}{a b:c}(h:(s==t)=false):(if s=t then a else b)=b:=if_neg (pI h)
theorem Pc{m:Ey}{as:mH}{ch:V}{c:Option bH}(e:∀p∈as,p.2.pure=true)(f:nM as (aC "isjunk")=some .none)(g:nM as (aC "a")=some (vS m.a))(d:nM as (aC "autojunk")=some (.bool m.auto))(h:rY (c.getD []) ch)(i:ch.pure=true):Bp {m with b:=c} (Nt (Jo as c) ch)where
 pure:=uR (uP _ e) i
 junk:=by rw [Bx,fO (by decide),fO (by decide),fO (by decide),Hj,fO (by decide),fO (by decide),fO (by decide),fO (by decide)];exact f
 a:=by rw [Bx,fO (by decide),fO (by decide),fO (by decide),Hj,fO (by decide),fO (by decide),fO (by decide),fO (by decide)];exact g
 b:=by rfl
 auto:=by rw [Bx,fO (by decide),fO (by decide),fO (by decide),Hj,fO (by decide),fO (by decide),fO (by decide),fO (by decide)];exact d
 bjunk:=by rw [Bx,fO (by decide),if_pos rfl]
 b2j:=⟨ch,by rw [Bx,fO (by decide),fO (by decide),if_pos rfl],h⟩
 mb:=.inl (by rw [Bx,fO (by decide),fO (by decide),fO (by decide),Hj,fO (by decide),fO (by decide),if_pos rfl])
 oc:=.inl (by rw [Bx,fO (by decide),fO (by decide),fO (by decide),Hj,fO (by decide),if_pos rfl])
theorem mS2(G:Gd)(m:Ey)(B:bH)(f:B.length<200):qV (n+2) (.ref 181) (.mat m) [vL B] (fun c r=>c=.mat {m with b:=some B}∧r=.none):=by
 refine Hc fun as a=>?_;have:=aJ8 (n:=n) G as (some B) (vS m.b) m.auto a.pure a.b (aA6 _ _) a.junk a.auto f;refine fun A Y h tk x c vs a1 g i j k l o s t=>bL (this A Y h tk x c vs a1 g i j k l o s t) (fun v N p=>?_) fun _ _ z=>z;obtain ⟨h',u,c1,r,e,y,C,D,F,H,I,rfl,p⟩:=p;refine ⟨h',u,c1,.none,e,y,C,D,F,H,I,?_⟩;rcases p with ⟨q,rfl⟩|⟨ch,J,L,rfl⟩
 ·have d:=aFi q;have:({m with b:=some B}:Ey)=m:=by cases m;simp at d;simp [d]
  exact ⟨as,rfl,by rw [this];exact a,rfl⟩
 ·exact ⟨_,rfl,Pc a.pure a.junk a.a a.auto J L,rfl⟩
def aDg:lK:=[aC "self",aC "a",aC "b"]
theorem dSs(P:fL):kO (iY o167v0) aDg:=.of (by kernel_rfl)
theorem aJ4(G:Gd):I2 (fr w.params) (aC "set_seq1") 174:=Sb G (by kernel_rfl) (by kernel_rfl) (by kernel_rfl) (by decide) (o:=MineH.o174v0) (by kernel_rfl) rfl
theorem aGe(G:Gd):I2 (fr w.params) (aC "set_seq2") 181:=Sb G (by kernel_rfl) (by kernel_rfl) (by kernel_rfl) (by decide) (o:=MineH.o181v0) (by kernel_rfl) rfl
theorem aNa(G:Gd):I2 (fr w.params) (aC "set_seqs") 167:=Sb G (by kernel_rfl) (by kernel_rfl) (by kernel_rfl) (by decide) (o:=MineH.o167v0) (by kernel_rfl) rfl
theorem aDf(a:Option bH):V.none≠vS a:=fun e=>by cases a<;>cases e
theorem mSs(G:Gd)(as:mH)(a b:Option bH)(e:Bool)(d:∀p∈as,p.2.pure=true)(f:nM as (aC "a")=some .none)(k:nM as (aC "b")=some .none)
  (l:nM as (aC "isjunk")=some .none) (m:nM as (aC "autojunk")=some (.bool e)) (s:(b.getD []).length<200):
  qV (n+3) (.ref 167) (.attrs as) [vS a,vS b] (fun c r=>r=.none∧∃ch,rY (b.getD []) ch∧ch.pure=true∧c=.attrs (Nt (Jo (Oy as a) b) ch)):=by
 refine vR (fd:=iY o167v0) (o:=o167v0) (tab:=aDg) (body:=bS (at_ [5,2])) (dSs w.params) (G.K 167 _ (by kernel_rfl)) rfl G.lim (codeRec_of G.K (by kernel_rfl)) rfl (fun vs h=>?_) (by refine (?_:(3:Nat)≤3);decide) d (fun L=>?_) (by simp [cP,cO,vO])
 ·revert vs;exact ll3 fun _ _ _=>by kernel_rfl
 ·have T:=(dSs w.params).tab L 167;refine gX ((eC rfl rfl iH 1 _ _ _ rfl).mono ?_);rintro _ _ ⟨rfl,rfl⟩;refine gX (Cg rfl rfl (xC G.K (aJ4 G) rfl (by exact ⟨rfl,trivial⟩) ((cY T (aG (i:=0) rfl) (by decide) _ _ _ rfl).mono ?_)));rintro _ _ ⟨rfl,rfl⟩;refine ⟨0,.attrs as,rfl,rfl,.inl ⟨_,rfl⟩,((cR (cY T (aG (i:=1) rfl) (by decide)) aO rfl) _ _ _ rfl).mono ?_⟩;rintro _ _ ⟨rfl,rfl⟩;refine D6 T.fk (c0:=.attrs as) rfl d (by simp [cP,cO,vO]) (aNc (n:=n+1) G as a .none d f (.inl rfl)) ?_;rintro _ _ _ _ ⟨rfl,⟨q,_⟩|rfl⟩
  ·exact absurd q (aDf _)
  refine ⟨.inl rfl,?_⟩;refine gX (Cg rfl rfl (xC G.K (aGe G) rfl (by exact ⟨rfl,trivial⟩) ((cY T (aG (i:=0) rfl) (by decide) _ _ _ rfl).mono ?_)));rintro _ _ ⟨rfl,rfl⟩;refine ⟨0,.attrs (Oy as a),rfl,rfl,.inl ⟨_,rfl⟩,((cR (cY T (aG (i:=2) rfl) (by decide)) aO rfl) _ _ _ rfl).mono ?_⟩;rintro _ _ ⟨rfl,rfl⟩;refine D6 T.fk (c0:=.attrs (Oy as a)) rfl (uQ a d) (by simp [cP,cO,vO]) (aJ8 (n:=n) G (Oy as a) b .none e (uQ a d) (by rw [Ei,fO (by decide),fO (by decide),fO (by decide)];exact k:nM (Oy as a) (aC "b")=some .none) (.inl rfl) (by rw [Ei,fO (by decide),fO (by decide),fO (by decide)];exact l:nM (Oy as a) (aC "isjunk")=some .none) (by rw [Ei,fO (by decide),fO (by decide),fO (by decide)];exact m:nM (Oy as a) (aC "autojunk")=some (.bool e)) s) ?_;rintro _ _ _ _ ⟨rfl,⟨q,_⟩|⟨ch,t,g,rfl⟩⟩
  ·exact absurd q (aDf _)
  refine ⟨.inl rfl,zJ ?_⟩;have j:=uR (uP b (uQ a d)) g;exact ⟨.attrs (Nt (Jo (Oy as a) b) ch),.attrs (Nt (Jo (Oy as a) b) ch),rfl,rW j,j,rfl,ch,t,g,rfl⟩
def Zx:lK:=[aC "self",aC "isjunk",aC "a",aC "b",aC "autojunk"]
theorem dIn(P:fL):kO (iY Ec) Zx:=.of (by kernel_rfl)
theorem saJ(P:fL):Dp (fr P) (aC "isjunk"):=⟨by kernel_rfl,by kernel_rfl,by kernel_rfl,by kernel_rfl,by decide⟩
theorem aM4(P:fL):Dp (fr P) (aC "autojunk"):=⟨by kernel_rfl,by kernel_rfl,by kernel_rfl,by kernel_rfl,by decide⟩
def Pm(au:Bool):mH:=iK (aC "autojunk") (.bool au) (iK (aC "b") .none (iK (aC "a") .none (iK (aC "isjunk") .none [])))
theorem mIn(G:Gd)(b e:Option bH)(a:Bool)(t:(e.getD []).length<200){ds dds:bV}{dvs:fZ}(f:ds++dds=[.none,vS b,vS e,.bool a])(g:cS ds=true)(u:∀D Y h,bO D Y h dds dvs)
  (v:∀K vs,vs.length=ds.length+1→peek (fr w.params) K (bindArgs (iY Ec) ⟨vs,[]⟩)=some (Zx.zip (vs++dvs))):
  Yk (n+4) (.ref 160) (.attrs []) ds (fun c r=>r=.none∧∃as,c=.attrs as∧Bp ⟨b,e,a⟩ as):=by
 refine Me (fd:=iY Ec) (o:=Ec) (tab:=Zx) (body:=bS (at_ [5,1])) (dIn w.params) (G.K 160 _ (by kernel_rfl)) rfl G.lim (codeRec_of G.K (by kernel_rfl)) rfl u (fun h tk vs x y=>?_) (by rw [f];refine (?_:(5:Nat)≤5);decide) (fun p d=>by cases d) (fun L=>?_) g
 ·refine kp_binds (G.K.keeps x) fun K=>?_;rw [v K vs y,f];rfl
 ·rw [f];have T:=(dIn w.params).tab L 160;refine gX ((eC rfl rfl iH 1 _ _ _ rfl).mono ?_);rintro _ _ ⟨rfl,rfl⟩;refine gX ((dH (cY T (aG (i:=1) rfl) (by decide)) (iV G.K T.fk (saJ w.params) (cY T (aG (i:=0) rfl) (by decide))) rfl rfl rfl 1 _ _ _ rfl).mono ?_);rintro _ _ ⟨rfl,rfl⟩;refine gX ((mV pJ (.cons (iV G.K T.fk (saA w.params) (cY T (aG (i:=0) rfl) (by decide))) (.cons (iV G.K T.fk (saB w.params) (cY T (aG (i:=0) rfl) (by decide))) .nil)) rfl rfl rfl 1 _ _ _ rfl).mono ?_);rintro _ _ ⟨rfl,rfl⟩;refine gX ((dH (cY T (aG (i:=4) rfl) (by decide)) (iV G.K T.fk (aM4 w.params) (cY T (aG (i:=0) rfl) (by decide))) rfl rfl rfl 1 _ _ _ rfl).mono ?_);rintro _ _ ⟨rfl,rfl⟩;have d:∀p∈Pm a,p.2.pure=true:=kG rfl (kG rfl (kG rfl (kG rfl fun p d=>by cases d)));refine gX (Cg rfl rfl (xC G.K (aNa G) rfl (by exact ⟨rfl,rfl,trivial⟩) ((cY T (aG (i:=0) rfl) (by decide) _ _ _ rfl).mono ?_)));rintro _ _ ⟨rfl,rfl⟩;refine ⟨0,.attrs (Pm a),rfl,rfl,.inl ⟨_,rfl⟩,((cR (cY T (aG (i:=2) rfl) (by decide)) (cR (cY T (aG (i:=3) rfl) (by decide)) aO rfl) rfl) _ _ _ rfl).mono ?_⟩;rintro _ _ ⟨rfl,rfl⟩;have j:nM (Pm a) (aC "isjunk")=some .none:=by simp only [Pm,kM];rw [fO (by decide),fO (by decide),fO (by decide),if_pos trivial]
  have k:nM (Pm a) (aC "autojunk")=some (.bool a):=by simp only [Pm,kM];rw [if_pos trivial]
  refine D6 T.fk (c0:=.attrs (Pm a)) rfl d (by simp [cP,cO,vO]) (mSs (n:=n) G (Pm a) b e a d (by simp only [Pm,kM];rw [fO (by decide),fO (by decide),if_pos trivial]:nM (Pm a) (aC "a")=some .none) (by simp only [Pm,kM];rw [fO (by decide),if_pos trivial]:nM (Pm a) (aC "b")=some .none) j k t) ?_;rintro _ _ _ _ ⟨rfl,ch,z,l,rfl⟩;refine ⟨.inl rfl,zJ ?_⟩;have s:=uR (uP e (uQ b d)) l;refine ⟨.attrs (Nt (Jo (Oy (Pm a) b) e) ch),.attrs (Nt (Jo (Oy (Pm a) b) e) ch),rfl,rW s,s,rfl,_,rfl,?_⟩;refine Pc (m:=⟨b,aF,a⟩) (uQ b d) ?_ ?_ ?_ z l
  ·rw [Ei,fO (by decide),fO (by decide),fO (by decide)];exact j
  ·rw [Ei,fO (by decide),fO (by decide),if_pos rfl]
  ·rw [Ei,fO (by decide),fO (by decide),fO (by decide)];exact k
end
end
section
open MineH (at_ bS fr)
theorem aJg(P:fL):Fu (fr P) (aC "a"):=⟨by kernel_rfl,by kernel_rfl,_,(by kernel_rfl:findIn (fr P) (.ref xN) (aC "a")=some aF),by kernel_rfl⟩
theorem aJf(P:fL):Fu (fr P) (aC "b"):=⟨by kernel_rfl,by kernel_rfl,_,(by kernel_rfl:findIn (fr P) (.ref xN) (aC "b")=some aF),by kernel_rfl⟩
theorem pY(P:fL):Fu (fr P) (aC "matching_blocks"):=⟨by kernel_rfl,by kernel_rfl,_,(by kernel_rfl:findIn (fr P) (.ref xN) (aC "matching_blocks")=some aF),by kernel_rfl⟩
theorem Bw(P:fL):Dp (fr P) (aC "matching_blocks"):=⟨by kernel_rfl,by kernel_rfl,by kernel_rfl,by kernel_rfl,by decide⟩
theorem G0(P:fL):Fu (fr P) (aC "opcodes"):=⟨by kernel_rfl,by kernel_rfl,_,(by kernel_rfl:findIn (fr P) (.ref xN) (aC "opcodes")=some aF),by kernel_rfl⟩
theorem Ro(P:fL):Dp (fr P) (aC "opcodes"):=⟨by kernel_rfl,by kernel_rfl,by kernel_rfl,by kernel_rfl,by decide⟩
theorem aFq(P:fL):Fu (fr P) (aC "b2j"):=⟨by kernel_rfl,by kernel_rfl,_,(by kernel_rfl:findIn (fr P) (.ref xN) (aC "b2j")=some aF),by kernel_rfl⟩
theorem Z6(P:fL):Fu (fr P) (aC "bjunk"):=⟨by kernel_rfl,by kernel_rfl,_,(by kernel_rfl:findIn (fr P) (.ref xN) (aC "bjunk")=some aF),by kernel_rfl⟩
section
theorem aJ6(G:Gd):I2 (fr w.params) (aC "find_longest_match") 196:=Sb G (by kernel_rfl) (by kernel_rfl) (by kernel_rfl) (by decide) (o:=MineH.o196v0) (by kernel_rfl) rfl
theorem aJ5(G:Gd):I2 (fr w.params) (aC "get_matching_blocks") 203:=Sb G (by kernel_rfl) (by kernel_rfl) (by kernel_rfl) (by decide) (o:=MineH.o203v0) (by kernel_rfl) rfl
theorem aDq(G:Gd):I2 (fr w.params) (aC "get_opcodes") 210:=Sb G (by kernel_rfl) (by kernel_rfl) (by kernel_rfl) (by decide) (o:=MineH.o210v0) (by kernel_rfl) rfl
end
end
section
open MineH (at_ bS fr)
def Rf:lK:=[aC "self",aC "alo",aC "ahi",aC "blo",aC "bhi",aC "a",aC "b",aC "b2j",aC "isbjunk",aC "besti",aC "bestj",aC "bestsize",aC "j2len",aC "nothing",aC "i",aC "j2lenget",aC "newj2len",aC "j",aC "k"]
theorem aLz(P:fL):kO (iY MineH.o196v0) Rf:=.of (by kernel_rfl)
def Ih:Nat→M Fl:=(dP (uK (eE (bD Cc (aJ 17) (aJ 3))) (kY .cont) (kY .next)) (oD [1,2,3,4,5,6,7,8,9,10,11,13,14,15,16,17] (dP (uK (eE (bD gGe (aJ 17) (aJ 4))) (kY .brk) (kY .next)) (oD [1,2,3,4,5,6,7,8,9,10,11,13,14,15,16,17] (dP (eS (bD fQ (vY (aJ 15) (aK (bD B2 (aJ 17) (gK (.int 1))) (aK (gK (.int 0)) bI))) (gK (.int 1))) (Fo [(bQ 18),(Ģ (aJ 16) (aJ 17))])) (uK (eE (bD gGt (aJ 18) (aJ 11))) (eS (eQ (aK (bD fQ (bD B2 (aJ 14) (aJ 18)) (gK (.int 1))) (aK (bD fQ (bD B2 (aJ 17) (aJ 18)) (gK (.int 1))) (aK (aJ 18) bI)))) (Ge [bQ 11,bQ 10,bQ 9])) (kY .next)))))))
def ĩ:Nat→M Fl:=(eS (aJ 16) (bQ 12))
def Px:Nat→M Fl:=(dP (eS (gBm (aJ 12)) (bQ 15)) (dP (eS aHh (bQ 16)) (oD [1,2,3,4,5,6,7,8,9,10,11,13,14,15,16] (dP (yD [1,2,3,4,5,6,7,8,9,10,11,13,14,15,16] (iF (gDM Yc (aJ 7) (aK (bD eF (aJ 5) (aJ 14)) (aK (aJ 13) bI)))) (bQ 17) (Ih)) (oD [1,2,3,4,5,6,7,8,9,10,11,13,16] (ĩ))))))
def ĭ:Nat→M Fl:=(eS (eQ (aK (bD B2 (aJ 9) (gK (.int 1))) (aK (bD B2 (aJ 10) (gK (.int 1))) (aK (bD fQ (aJ 11) (gK (.int 1))) bI)))) (Ge [bQ 11,bQ 10,bQ 9]))
def Ĭ:Nat→M Fl:=(M0 11 H7 (gK (.int 1)))
def ī:Nat→M Fl:=(eS (eQ (aK (bD B2 (aJ 9) (gK (.int 1))) (aK (bD B2 (aJ 10) (gK (.int 1))) (aK (bD fQ (aJ 11) (gK (.int 1))) bI)))) (Ge [bQ 11,bQ 10,bQ 9]))
def Ī:Nat→M Fl:=(eS (bD fQ (aJ 11) (gK (.int 1))) (bQ 11))
def Pw:Nat→M Fl:=(uA (gB ņ (aK (aJ 9) (aK (aJ 10) (aK (aJ 11) bI)))))
def Ib:Nat→M Fl:=(oD [2,4,5,6,8,9,10,11] (dP (qA [2,4,5,6,8,9,10,11] (mL (eE (bD Cc (bD fQ (aJ 9) (aJ 11)) (aJ 2))) (mL (eE (bD Cc (bD fQ (aJ 10) (aJ 11)) (aJ 4))) (mL (qB (vY (aJ 8) (aK (bD eF (aJ 6) (bD fQ (aJ 10) (aJ 11))) bI))) (mL (eE (bD qS (bD eF (aJ 5) (bD fQ (aJ 9) (aJ 11))) (bD eF (aJ 6) (bD fQ (aJ 10) (aJ 11))))) (fun σ=>some (true,σ)))))) (Ī)) (oD [9,10,11] (Pw))))
def Ic:Nat→M Fl:=(oD [1,2,3,4,5,6,8,9,10,11] (dP (qA [1,2,3,4,5,6,8,9,10,11] (mL (eE (bD gGt (aJ 9) (aJ 1))) (mL (eE (bD gGt (aJ 10) (aJ 3))) (mL (qB (vY (aJ 8) (aK (bD eF (aJ 6) (bD B2 (aJ 10) (gK (.int 1)))) bI))) (mL (eE (bD qS (bD eF (aJ 5) (bD B2 (aJ 9) (gK (.int 1)))) (bD eF (aJ 6) (bD B2 (aJ 10) (gK (.int 1)))))) (fun σ=>some (true,σ)))))) (ī)) (Ib)))
def Ie:Nat→M Fl:=(oD [1,2,3,4,5,6,8,9,10,11] (dP (qA [1,2,3,4,5,6,8,9,10,11] (mL (eE (bD Cc (bD fQ (aJ 9) (aJ 11)) (aJ 2))) (mL (eE (bD Cc (bD fQ (aJ 10) (aJ 11)) (aJ 4))) (mL (Sy (qB (vY (aJ 8) (aK (bD eF (aJ 6) (bD fQ (aJ 10) (aJ 11))) bI)))) (mL (eE (bD qS (bD eF (aJ 5) (bD fQ (aJ 9) (aJ 11))) (bD eF (aJ 6) (bD fQ (aJ 10) (aJ 11))))) (fun σ=>some (true,σ)))))) (Ĭ)) (Ic)))
def Ig:Nat→M Fl:=(oD [1,2,3,4,5,6,8,9,10,11] (dP (qA [1,2,3,4,5,6,8,9,10,11] (mL (eE (bD gGt (aJ 9) (aJ 1))) (mL (eE (bD gGt (aJ 10) (aJ 3))) (mL (Sy (qB (vY (aJ 8) (aK (bD eF (aJ 6) (bD B2 (aJ 10) (gK (.int 1)))) bI)))) (mL (eE (bD qS (bD eF (aJ 5) (bD B2 (aJ 9) (gK (.int 1)))) (bD eF (aJ 6) (bD B2 (aJ 10) (gK (.int 1)))))) (fun σ=>some (true,σ)))))) (ĭ)) (Ie)))
def aBt:Nat→M Fl:=(dP (tE (gK (.str (MineH.fnDoc (at_ [5,6]))))) (dP (eS (eQ (aK (rD (aC "a") (aJ 0)) (aK (rD (aC "b") (aJ 0)) (aK (rD (aC "b2j") (aJ 0)) (aK (aHi (rD (aC "bjunk") (aJ 0))) bI))))) (Jf [(bQ 5),(bQ 6),(bQ 7),(bQ 8)])) (dP (uK (eE (bD aHg (aJ 2) (gK .none))) (eS (gB Dm (aK (aJ 5) bI)) (bQ 2)) (kY .next)) (oD [1,2,3,4,5,6,7,8] (dP (uK (eE (bD aHg (aJ 4) (gK .none))) (eS (gB Dm (aK (aJ 6) bI)) (bQ 4)) (kY .next)) (oD [1,2,3,4,5,6,7,8] (dP (eS (eQ (aK (aJ 1) (aK (aJ 3) (aK (gK (.int 0)) bI)))) (Ge [bQ 11,bQ 10,bQ 9])) (dP (eS (gK (.dct [] [])) (bQ 12)) (dP (eS (gV bI) (bQ 13)) (oD [1,2,3,4,5,6,7,8,9,10,11,12,13] (dP (yD [1,2,3,4,5,6,7,8,9,10,11,12,13] (yA (aK (aJ 1) (aK (aJ 2) bI))) (bQ 14) (Px)) (Ig))))))))))))
theorem aLg(G:Gd):E0 (n+2) (wH (iY MineH.o196v0) L 196 Rf) (bS (at_ [5,6])) (aBt):=by have T:=(aLz w.params).tab L 196;exact (bF (eC rfl rfl iH) (bF (dH (cE (ic (jM G.K (aJg w.params) (lc T 0)) (ic (jM G.K (aJf w.params) (lc T 0)) (ic (jM G.K (aFq w.params) (lc T 0)) (ic (aBh (jM G.K (Z6 w.params) (lc T 0)) rfl) aO))))) (lC (dA (lg T 5) (dA (lg T 6) (dA (lg T 7) (ig (lg T 8) jL) rfl) rfl) rfl)) rfl rfl rfl) (bF (iQ (cT Vl (lc T 2) pJ rfl) (cM (dH (fV (G.e T.fk rfl rfl zS (by kernel_rfl) (by decide)) (.inl ⟨_,rfl⟩) rT (by exact ⟨rfl,trivial⟩) (ic (lc T 5) aO) rfl) (lg T 2) rfl rfl rfl)) hV) (eK T.fk (bF (iQ (cT Vl (lc T 4) pJ rfl) (cM (dH (fV (G.e T.fk rfl rfl zS (by kernel_rfl) (by decide)) (.inl ⟨_,rfl⟩) rT (by exact ⟨rfl,trivial⟩) (ic (lc T 6) aO) rfl) (lg T 4) rfl rfl rfl)) hV) (eK T.fk (bF (kN (cE (ic (lc T 1) (ic (lc T 3) (ic bE aO)))) (eJ T (aG (i:=11) rfl) (eJ T (aG (i:=10) rfl) (eJ T (aG (i:=9) rfl) lW))) rfl rfl) (bF (dH Xu (lg T 12) rfl rfl rfl) (bF (dH (eD aO) (lg T 13) rfl rfl rfl) (eK T.fk (bF (qO T.fk (Ej (G.e T.fk rfl rfl Mv (by kernel_rfl) (by decide)) (by exact ⟨rfl,⟨rfl,trivial⟩⟩) (ic (lc T 1) (ic (lc T 2) aO)) rfl) (lg T 14) (bF (dH (aBi (lc T 12) rfl) (lg T 15) rfl rfl rfl) (bF (dH Kx (lg T 16) rfl rfl rfl) (eK T.fk (bF (qO T.fk (pR (aG8 Qu rfl Of Ð (lc T 7) (by exact ⟨rfl,⟨rfl,trivial⟩⟩) (ic (dM (dN fun _ _=>rfl) (lc T 5) (lc T 14)) (ic (lc T 13) aO)) rfl)) (lg T 17) (bF (iQ (cT qC (lc T 17) (lc T 3) rfl) (cM ď) hV) (eK T.fk (bF (iQ (cT ħ (lc T 17) (lc T 4) rfl) (cM Xs) hV) (eK T.fk (bF (mV (bN dX (uV (lc T 15) (by exact ⟨rfl,⟨rfl,trivial⟩⟩) (ic (bN oT (lc T 17) bE) (ic bE aO)) rfl) bE) (.cons (lg T 18) (.cons (Đ T.fk (lc T 16) (lc T 17)) .nil)) rfl rfl rfl) (cM (iQ (cT H8 (lc T 18) (lc T 11) rfl) (cM (kN (cE (ic (bN dX (bN oT (lc T 14) (lc T 18)) bE) (ic (bN dX (bN oT (lc T 17) (lc T 18)) bE) (ic (lc T 18) aO)))) (eJ T (aG (i:=11) rfl) (eJ T (aG (i:=10) rfl) (eJ T (aG (i:=9) rfl) lW))) rfl rfl)) hV))))))) fun _=>rfl) (eK T.fk (cM (dH (lc T 16) (lg T 12) rfl rfl rfl))))))) fun _=>rfl) (eK T.fk (bF (rL T.fk (mE (gT (cT H8 (lc T 9) (lc T 1) rfl) (gT (cT H8 (lc T 10) (lc T 3) rfl) (gT (Mq (nN (uV (lc T 8) (by exact ⟨rfl,trivial⟩) (ic (dM (dN fun _ _=>rfl) (lc T 6) (bN oT (lc T 10) bE)) aO) rfl) rfl)) (gT (cT jT (dM (dN fun _ _=>rfl) (lc T 5) (bN oT (lc T 9) bE)) (dM (dN fun _ _=>rfl) (lc T 6) (bN oT (lc T 10) bE)) rfl) pK))))) (cM (kN (cE (ic (bN oT (lc T 9) bE) (ic (bN oT (lc T 10) bE) (ic (bN dX (lc T 11) bE) aO)))) (eJ T (aG (i:=11) rfl) (eJ T (aG (i:=10) rfl) (eJ T (aG (i:=9) rfl) lW))) rfl rfl))) (eK T.fk (bF (rL T.fk (mE (gT (cT qC (bN dX (lc T 9) (lc T 11)) (lc T 2) rfl) (gT (cT qC (bN dX (lc T 10) (lc T 11)) (lc T 4) rfl) (gT (Mq (nN (uV (lc T 8) (by exact ⟨rfl,trivial⟩) (ic (dM (dN fun _ _=>rfl) (lc T 6) (bN dX (lc T 10) (lc T 11))) aO) rfl) rfl)) (gT (cT jT (dM (dN fun _ _=>rfl) (lc T 5) (bN dX (lc T 9) (lc T 11))) (dM (dN fun _ _=>rfl) (lc T 6) (bN dX (lc T 10) (lc T 11))) rfl) pK))))) (cM (C4 T (aG (i:=11) rfl) Dj bE))) (eK T.fk (bF (rL T.fk (mE (gT (cT H8 (lc T 9) (lc T 1) rfl) (gT (cT H8 (lc T 10) (lc T 3) rfl) (gT (nN (uV (lc T 8) (by exact ⟨rfl,trivial⟩) (ic (dM (dN fun _ _=>rfl) (lc T 6) (bN oT (lc T 10) bE)) aO) rfl) rfl) (gT (cT jT (dM (dN fun _ _=>rfl) (lc T 5) (bN oT (lc T 9) bE)) (dM (dN fun _ _=>rfl) (lc T 6) (bN oT (lc T 10) bE)) rfl) pK))))) (cM (kN (cE (ic (bN oT (lc T 9) bE) (ic (bN oT (lc T 10) bE) (ic (bN dX (lc T 11) bE) aO)))) (eJ T (aG (i:=11) rfl) (eJ T (aG (i:=10) rfl) (eJ T (aG (i:=9) rfl) lW))) rfl rfl))) (eK T.fk (bF (rL T.fk (mE (gT (cT qC (bN dX (lc T 9) (lc T 11)) (lc T 2) rfl) (gT (cT qC (bN dX (lc T 10) (lc T 11)) (lc T 4) rfl) (gT (nN (uV (lc T 8) (by exact ⟨rfl,trivial⟩) (ic (dM (dN fun _ _=>rfl) (lc T 6) (bN dX (lc T 10) (lc T 11))) aO) rfl) rfl) (gT (cT jT (dM (dN fun _ _=>rfl) (lc T 5) (bN dX (lc T 9) (lc T 11))) (dM (dN fun _ _=>rfl) (lc T 6) (bN dX (lc T 10) (lc T 11))) rfl) pK))))) (cM (dH (bN dX (lc T 11) bE) (lg T 11) rfl rfl rfl))) (eK T.fk (cM (kP (Kz G.K (by kernel_rfl) (G.e T.fk rfl rfl Vi (by kernel_rfl) (by decide)) (Wy G.K (Mf w.params) fun a b c=>(aLo G a b c).c) (by exact ⟨rfl,⟨rfl,⟨rfl,trivial⟩⟩⟩) (ic (lc T 9) (ic (lc T 10) (ic (lc T 11) aO))) rfl)))))))))))))))))))))))
end
section
open MineH (at_ bS fr)
def Re:lK:=[aC "self",aC "la",aC "lb",aC "queue",aC "matching_blocks",aC "alo",aC "ahi",aC "blo",aC "bhi",aC "i",aC "j",aC "k",aC "x",aC "i1",aC "j1",aC "k1",aC "non_adjacent",aC "i2",aC "j2",aC "k2"]
theorem aLy(P:fL):kO (iY MineH.o203v0) Re:=.of (by kernel_rfl)
def Dk(am:Bd):Nat→M Fl:=(dP (eS (vE aCg (aJ 3) bI) (Jf [(bQ 5),(bQ 6),(bQ 7),(bQ 8)])) (dP (eS (Vk am (aJ 0) (aK (aJ 5) (aK (aJ 6) (aK (aJ 7) (aK (aJ 8) bI))))) (Fo [(X0 [(bQ 9),(bQ 10),(bQ 11)]),(bQ 12)])) (uK (qB (aJ 11)) (dP (tE (vE eY (aJ 4) (aK (aJ 12) bI))) (dP (uK (mL (eE (bD Cc (aJ 5) (aJ 9))) (mL (eE (bD Cc (aJ 7) (aJ 10))) (fun σ=>some (true,σ)))) (tE (vE eY (aJ 3) (aK (eQ (aK (aJ 5) (aK (aJ 9) (aK (aJ 7) (aK (aJ 10) bI))))) bI))) (kY .next)) (oD [0,1,2,3,4,6,8,9,10,11] (uK (mL (eE (bD Cc (bD fQ (aJ 9) (aJ 11)) (aJ 6))) (mL (eE (bD Cc (bD fQ (aJ 10) (aJ 11)) (aJ 8))) (fun σ=>some (true,σ)))) (tE (vE eY (aJ 3) (aK (eQ (aK (bD fQ (aJ 9) (aJ 11)) (aK (aJ 6) (aK (bD fQ (aJ 10) (aJ 11)) (aK (aJ 8) bI))))) bI))) (kY .next))))) (kY .next))))
def Ia(am:Bd):Nat→M Fl:=(uK (mL (eE (bD qS (bD fQ (aJ 13) (aJ 15)) (aJ 17))) (mL (eE (bD qS (bD fQ (aJ 14) (aJ 15)) (aJ 18))) (fun σ=>some (true,σ)))) (M0 15 H7 (aJ 19)) (dP (uK (qB (aJ 15)) (tE (vE eY (aJ 16) (aK (eQ (aK (aJ 13) (aK (aJ 14) (aK (aJ 15) bI)))) bI))) (kY .next)) (oD [0,1,2,16,17,18,19] (eS (eQ (aK (aJ 17) (aK (aJ 18) (aK (aJ 19) bI)))) (Ge [bQ 15,bQ 14,bQ 13])))))
def Pu(am:Bd):Nat→M Fl:=(dP (uK (qB (aJ 15)) (tE (vE eY (aJ 16) (aK (eQ (aK (aJ 13) (aK (aJ 14) (aK (aJ 15) bI)))) bI))) (kY .next)) (oD [0,1,2,16] (dP (tE (vE eY (aJ 16) (aK (eQ (aK (aJ 1) (aK (aJ 2) (aK (gK (.int 0)) bI)))) bI))) (dP (eS (ģ (aJ 16)) (Dh (aC "matching_blocks") (aJ 0))) (uA (rD (aC "matching_blocks") (aJ 0)))))))
def Pv(am:Bd):Nat→M Fl:=(dP (tE (vE Ń (aJ 4) bI)) (Ĩ (dP (eS (gK (.int 0)) (Fo [(bQ 13),(bQ 14),(bQ 15)])) (dP (eS (mW bI) (bQ 16)) (oD [0,1,2,4,13,14,15,16] (dP (yD [0,1,2,13,14,15,16] (iF (aJ 4)) (X0 [(bQ 17),(bQ 18),(bQ 19)]) (Ia am)) (oD [0,1,2,13,14,15,16] (Pu am))))))))
def Ħ(am:Bd):Nat→M Fl:=(dP (tE (gK (.str (MineH.fnDoc (at_ [5,7]))))) (dP (uK (eE (bD Ĥ (rD (aC "matching_blocks") (aJ 0)) (gK .none))) (uA (rD (aC "matching_blocks") (aJ 0))) (kY .next)) (oD [0] (dP (eS (eQ (aK (gB Dm (aK (rD (aC "a") (aJ 0)) bI)) (aK (gB Dm (aK (rD (aC "b") (aJ 0)) bI)) bI))) (Ge [bQ 2,bQ 1])) (dP (eS (mW (aK (eQ (aK (gK (.int 0)) (aK (aJ 1) (aK (gK (.int 0)) (aK (aJ 2) bI))))) bI)) (bQ 3)) (dP (eS (mW bI) (bQ 4)) (oD [0,1,2,3,4] (dP (qA [0,1,2,3,4] (qB (aJ 3)) (Dk am)) (oD [0,1,2,4] (Pv am))))))))))
theorem aEj(G:Gd){d:Bd}(e:∀c0 us c1 r,cS us=true→d c0 us=some (c1,r)→pH c0∧qV (n+2) (.ref 196) c0 us (fun c f=>c=c1∧f=r)):E0 (n+2) (wH (iY MineH.o203v0) L 203 Re) (bS (at_ [5,7])) (Ħ d):=by have T:=(aLy w.params).tab L 203;exact (bF (eC rfl rfl iH) (bF (iQ (cT Ps (jM G.K (pY w.params) (lc T 0)) pJ rfl) (cM (kP (jM G.K (pY w.params) (lc T 0)))) hV) (eK T.fk (bF (kN (cE (ic (fV (G.e T.fk rfl rfl zS (by kernel_rfl) (by decide)) (.inl ⟨_,rfl⟩) rT (by exact ⟨rfl,trivial⟩) (ic (jM G.K (aJg w.params) (lc T 0)) aO) rfl) (ic (fV (G.e T.fk rfl rfl zS (by kernel_rfl) (by decide)) (.inl ⟨_,rfl⟩) rT (by exact ⟨rfl,trivial⟩) (ic (jM G.K (aJf w.params) (lc T 0)) aO) rfl) aO))) (eJ T (aG (i:=2) rfl) (eJ T (aG (i:=1) rfl) lW)) rfl rfl) (bF (dH (gR (ic (by refine cE ?_;exact (ic bE (ic (lc T 1) (ic bE (ic (lc T 2) aO))))) aO)) (lg T 3) rfl rfl rfl) (bF (dH (gR aO) (lg T 4) rfl rfl rfl) (eK T.fk (bF (rL T.fk (nN (lc T 3) rfl) (bF (dH (jS rZ rfl bP (Ul T.fk) (lc T 3) (by exact trivial) aO rfl) (lC (dA (lg T 5) (dA (lg T 6) (dA (lg T 7) (ig (lg T 8) jL) rfl) rfl) rfl)) rfl rfl rfl) (bF (mV (uJ G.K T.fk (aJ6 G) e (lc T 0) (by exact ⟨rfl,⟨rfl,⟨rfl,⟨rfl,trivial⟩⟩⟩⟩) (ic (lc T 5) (ic (lc T 6) (ic (lc T 7) (ic (lc T 8) aO)))) rfl) (.cons (Bz G.K (Mf w.params) (dA (lg T 9) (dA (lg T 10) (ig (lg T 11) jL) rfl) rfl)) (.cons (lg T 12) .nil)) rfl rfl rfl) (cM (iQ (nN (lc T 11) rfl) (bF (eC rfl rfl (jS bW rfl bP (gH T.fk) (lc T 4) (by exact ⟨rfl,trivial⟩) (ic (lc T 12) aO) rfl)) (bF (iQ (mE (gT (cT qC (lc T 5) (lc T 9) rfl) (gT (cT qC (lc T 7) (lc T 10) rfl) pK))) (cM (eC rfl rfl (jS bW rfl bP (gH T.fk) (lc T 3) (by exact ⟨rfl,trivial⟩) (ic (by refine cE ?_;exact (ic (lc T 5) (ic (lc T 9) (ic (lc T 7) (ic (lc T 10) aO))))) aO) rfl))) hV) (eK T.fk (cM (iQ (mE (gT (cT qC (bN dX (lc T 9) (lc T 11)) (lc T 6) rfl) (gT (cT qC (bN dX (lc T 10) (lc T 11)) (lc T 8) rfl) pK))) (cM (eC rfl rfl (jS bW rfl bP (gH T.fk) (lc T 3) (by exact ⟨rfl,trivial⟩) (ic (by refine cE ?_;exact (ic (bN dX (lc T 9) (lc T 11)) (ic (lc T 6) (ic (bN dX (lc T 10) (lc T 11)) (ic (lc T 8) aO))))) aO) rfl))) hV))))) hV))))) (eK T.fk (bF (eC rfl rfl (jS PySem.F.slot_list_sort rfl bP (Wz G.K (Mf w.params) T.fk) (lc T 4) (by exact trivial) aO rfl)) (Vc T.fk (bF (mV bE (.cons (lg T 13) (.cons (lg T 14) (.cons (lg T 15) .nil))) rfl rfl rfl) (bF (dH (gR aO) (lg T 16) rfl rfl rfl) (eK T.fk (bF (qO T.fk (pR (lc T 4)) (Bz G.K (Mf w.params) (dA (lg T 17) (dA (lg T 18) (ig (lg T 19) jL) rfl) rfl)) (cM (iQ (mE (gT (cT jT (bN dX (lc T 13) (lc T 15)) (lc T 17) rfl) (gT (cT jT (bN dX (lc T 14) (lc T 15)) (lc T 18) rfl) pK))) (cM (C4 T (aG (i:=15) rfl) Dj (lc T 19))) (bF (iQ (nN (lc T 15) rfl) (cM (eC rfl rfl (jS bW rfl bP (gH T.fk) (lc T 16) (by exact ⟨rfl,trivial⟩) (ic (by refine cE ?_;exact (ic (lc T 13) (ic (lc T 14) (ic (lc T 15) aO)))) aO) rfl))) hV) (eK T.fk (cM (kN (cE (ic (lc T 17) (ic (lc T 18) (ic (lc T 19) aO)))) (eJ T (aG (i:=15) rfl) (eJ T (aG (i:=14) rfl) (eJ T (aG (i:=13) rfl) lW))) rfl rfl)))))) fun _=>rfl) (eK T.fk (bF (iQ (nN (lc T 15) rfl) (cM (eC rfl rfl (jS bW rfl bP (gH T.fk) (lc T 16) (by exact ⟨rfl,trivial⟩) (ic (by refine cE ?_;exact (ic (lc T 13) (ic (lc T 14) (ic (lc T 15) aO)))) aO) rfl))) hV) (eK T.fk (bF (eC rfl rfl (jS bW rfl bP (gH T.fk) (lc T 16) (by exact ⟨rfl,trivial⟩) (ic (by refine cE ?_;exact (ic (lc T 1) (ic (lc T 2) (ic bE aO)))) aO) rfl)) (bF (dH (aBe G.K (Mf w.params) T.fk (G.e T.fk rfl rfl aHe (by kernel_rfl) (by decide)) (G.e T.fk rfl rfl aLm (by kernel_rfl) (by decide)) (G.e T.fk rfl rfl Vi (by kernel_rfl) (by decide)) (lc T 16) (fun a b c=>aHj G a b c) rfl rfl rfl rfl rfl) (iV G.K T.fk (Bw w.params) (lc T 0)) rfl rfl rfl) (cM (kP (jM G.K (pY w.params) (lc T 0))))))))))))))))))))))))
end
section
open MineH (at_ bS fr)
def Rd:lK:=[aC "self",aC "i",aC "j",aC "answer",aC "ai",aC "bj",aC "size",aC "tag"]
theorem aLx(P:fL):kO (iY MineH.o210v0) Rd:=.of (by kernel_rfl)
def H9(aq:mH→Option (mH×V)):Nat→M Fl:=(dP (eS (gK (.str (aC ""))) (bQ 7)) (dP (uK (mL (eE (bD Cc (aJ 1) (aJ 4))) (mL (eE (bD Cc (aJ 2) (aJ 5))) (fun σ=>some (true,σ)))) (eS (gK (.str (aC "replace"))) (bQ 7)) (uK (eE (bD Cc (aJ 1) (aJ 4))) (eS (gK (.str (aC "delete"))) (bQ 7)) (uK (eE (bD Cc (aJ 2) (aJ 5))) (eS (gK (.str (aC "insert"))) (bQ 7)) (kY .next)))) (oD [1,2,3,4,5,6,7] (dP (uK (qB (aJ 7)) (tE (vE eY (aJ 3) (aK (eQ (aK (aJ 7) (aK (aJ 1) (aK (aJ 4) (aK (aJ 2) (aK (aJ 5) bI)))))) bI))) (kY .next)) (oD [3,4,5,6] (dP (eS (eQ (aK (bD fQ (aJ 4) (aJ 6)) (aK (bD fQ (aJ 5) (aJ 6)) bI))) (Ge [bQ 2,bQ 1])) (uK (qB (aJ 6)) (tE (vE eY (aJ 3) (aK (eQ (aK (gK (.str (aC "equal"))) (aK (aJ 4) (aK (aJ 1) (aK (aJ 5) (aK (aJ 2) bI)))))) bI))) (kY .next))))))))
def Pt(aq:mH→Option (mH×V)):Nat→M Fl:=(uA (aJ 3))
def ĥ(aq:mH→Option (mH×V)):Nat→M Fl:=(dP (tE (gK (.str (MineH.fnDoc (at_ [5,8]))))) (dP (uK (eE (bD Ĥ (rD (aC "opcodes") (aJ 0)) (gK .none))) (uA (rD (aC "opcodes") (aJ 0))) (kY .next)) (oD [0] (dP (eS (gK (.int 0)) (Fo [(bQ 1),(bQ 2)])) (dP (eS (mW bI) (Fo [(Dh (aC "opcodes") (aJ 0)),(bQ 3)])) (oD [0,1,2,3] (dP (yD [1,2,3] (iF (aBs (aC "opcodes") aq (aJ 0))) (X0 [(bQ 4),(bQ 5),(bQ 6)]) (H9 aq)) (oD [3] (Pt aq)))))))))
theorem aEi(G:Gd){d:mH→Option (mH×V)}(f:∀as e r,(∀p∈as,p.2.pure=true)→d as=some (e,r)→∀a,qV (n+2) (.ref 203) (.attrs ((aC "opcodes",.fn (.ref a))::as)) [] (fun c g=>(∃b,c=.attrs b∧(aC "opcodes",V.fn (.ref a))∈b∧∀p∈e,p∈b)∧g=r)):E0 (n+2) (wH (iY MineH.o210v0) L 210 Rd) (bS (at_ [5,8])) (ĥ d):=by have T:=(aLx w.params).tab L 210;exact (bF (eC rfl rfl iH) (bF (iQ (cT Ps (jM G.K (G0 w.params) (lc T 0)) pJ rfl) (cM (kP (jM G.K (G0 w.params) (lc T 0)))) hV) (eK T.fk (bF (mV bE (.cons (lg T 1) (.cons (lg T 2) .nil)) rfl rfl rfl) (bF (mV (gR aO) (.cons (iV G.K T.fk (Ro w.params) (lc T 0)) (.cons (lg T 3) .nil)) rfl rfl rfl) (eK T.fk (bF (qO T.fk (pR (Sp G.K T.fk (aJ5 G) f (lc T 0) rfl)) (Bz G.K (Mf w.params) (dA (lg T 4) (dA (lg T 5) (ig (lg T 6) jL) rfl) rfl)) (bF (dH iH (lg T 7) rfl rfl rfl) (bF (iQ (mE (gT (cT qC (lc T 1) (lc T 4) rfl) (gT (cT qC (lc T 2) (lc T 5) rfl) pK))) (cM (dH iH (lg T 7) rfl rfl rfl)) (cM (iQ (cT qC (lc T 1) (lc T 4) rfl) (cM (dH iH (lg T 7) rfl rfl rfl)) (cM (iQ (cT qC (lc T 2) (lc T 5) rfl) (cM (dH iH (lg T 7) rfl rfl rfl)) hV))))) (eK T.fk (bF (iQ (nN (lc T 7) rfl) (cM (eC rfl rfl (jS bW rfl bP (gH T.fk) (lc T 3) (by exact ⟨rfl,trivial⟩) (ic (by refine cE ?_;exact (ic (lc T 7) (ic (lc T 1) (ic (lc T 4) (ic (lc T 2) (ic (lc T 5) aO)))))) aO) rfl))) hV) (eK T.fk (bF (kN (cE (ic (bN dX (lc T 4) (lc T 6)) (ic (bN dX (lc T 5) (lc T 6)) aO))) (eJ T (aG (i:=2) rfl) (eJ T (aG (i:=1) rfl) lW)) rfl rfl) (cM (iQ (nN (lc T 6) rfl) (cM (eC rfl rfl (jS bW rfl bP (gH T.fk) (lc T 3) (by exact ⟨rfl,trivial⟩) (ic (by refine cE ?_;exact (ic iH (ic (lc T 4) (ic (lc T 1) (ic (lc T 5) (ic (lc T 2) aO)))))) aO) rfl))) hV)))))))) fun _=>rfl) (eK T.fk (cM (kP (lc T 3)))))))))))
end
section
set_option backward.match.sparseCases false
def LS(A B:bH)(alo blo:Nat):Nat→Nat→Nat
 |i+1,j+1=>if alo≤i∧blo≤j∧A.getD i 0=B.getD j 0 then LS A B alo blo i j+1 else 0
 |_,_=>0
theorem Fh:LS A B alo blo (i+1) (j+1)=(if alo≤i∧blo≤j∧A.getD i 0=B.getD j 0 then LS A B alo blo i j+1 else 0):=rfl
theorem Fg:LS A B alo blo 0 j=0:=rfl
theorem Ff:LS A B alo blo (i+1) 0=0:=rfl
section
variable{A B:bH}{alo ahi blo bhi:Nat}
theorem V6:∀(i j:Nat),LS A B alo blo i j≤i∧LS A B alo blo i j≤j∧(0<LS A B alo blo i j→alo+LS A B alo blo i j≤i∧blo+LS A B alo blo i j≤j):=by
 intro a
 induction a with
 |zero=>intro j;simp [Fh,Fg,Ff]
 |succ i b=>
  intro c
  cases c with
  |zero=>simp [Fh,Fg,Ff]
  |succ j=>
   obtain ⟨d,e,f⟩:=b j;simp only [Fh,Fg,Ff];split
   ·rename_i h;refine ⟨aS ø d,aS ø e,fun _=>?_⟩;by_cases h0:LS A B alo blo i j=0
    ·rw [h0];exact aS 0x988c58941c6841cc24a0e1420e6031972988918921024 h
    ·have:=f (aS 0xe18a80674966001 h0);exact aS 0x7462c4a0e4420e11a50712107081892202348901005 this
   ·exact ⟨aS 0x2314a0e0301,aS 0x2314a0e0301,fun h=>absurd h (aS 0x23174946300)⟩
theorem aMe:∀(i j t:Nat),t<LS A B alo blo i j→A.getD (i-LS A B alo blo i j+t) 0=B.getD (j-LS A B alo blo i j+t) 0:=by
 intro d
 induction d with
 |zero=>intro j;intro t;intro h;simp [Fh,Fg,Ff]at h
 |succ i e=>
  intro f
  cases f with
  |zero=>intro t;intro h;simp [Fh,Fg,Ff]at h
  |succ j=>
   intro t;intro h;have a:=V6 (A:=A) (B:=B) (alo:=alo) (blo:=blo) i j;simp only [Fh,Fg,Ff]at h⊢;split at h
   ·rename_i c;rw [if_pos c];by_cases b:t<LS A B alo blo i j
    ·have:=e j t b;rw [show i+1-(LS A B alo blo i j+1)+t=i-LS A B alo blo i j+t by exact aS aK7,show j+1-(LS A B alo blo i j+1)+t=j-LS A B alo blo i j+t by exact aS aK7];exact this
    ·rw [show i+1-(LS A B alo blo i j+1)+t=i by exact aS 0x24090241202150322a0c62b0a0a703a4a114ea41c453b18e62468114c90a044508c91892114cc838507006 a h b,show j+1-(LS A B alo blo i j+1)+t=j by exact aS 0x22088221102150322a0c62b0a0a703a4a114ea41c453b18e62428114c91a044508c90892314cc838507006 a h b];exact c.2.2
   ·exact aS 0x2863710546021 h
theorem aMf(hi:i≤ahi)(b:j≤bhi)(h:0<LS A B alo blo i j):Cr A B alo ahi blo bhi (i-LS A B alo blo i j) (j-LS A B alo blo i j) (LS A B alo blo i j):=by obtain ⟨c,d,a⟩:=V6 (A:=A) (B:=B) (alo:=alo) (blo:=blo) i j;have:=a h;exact ⟨aS 0x883251862900dcc494c8111214086a1194234cc1005 h a,aS aKf hi c,aS 0x10864630c520299cc48502299244086a1194234cc1005 h a,aS aKf b d,aMe i j⟩
theorem aIf:∀(k i j:Nat),Cr A B alo ahi blo bhi i j k→k≤LS A B alo blo (i+k) (j+k):=by
 intro a
 induction a with
 |zero=>intro i j h;exact cJ _
 |succ k b=>intro i j h;have:=b i j ⟨h.a0,by have:=h.a1;exact aS aD3 this,h.b0,by have:=h.b1;exact aS aD3 this,fun t c=>h.eq t (aS aAq c)⟩;show k+1≤LS A B alo blo (i+k+1) (j+k+1);simp only [Fh,Fg,Ff];rw [if_pos ⟨by have:=h.a0;exact aS 0x318a50208121003 this,by have:=h.b0;exact aS 0x318a50208121003 this,h.eq k (aS û)⟩];exact aS ø this
structure Be(A B:bH)(alo ahi blo bhi:Nat)(Pr:Nat→Nat→Prop)(t:T3):Prop where
 zero:t.2.2=0→t=(alo,blo,0)
 cr:0<t.2.2→Cr A B alo ahi blo bhi t.1 t.2.1 t.2.2∧Pr (t.1+t.2.2-1) (t.2.1+t.2.2-1)
 max:∀i j k,0<k→Cr A B alo ahi blo bhi i j k→Pr (i+k-1) (j+k-1)→k≤t.2.2∧(k=t.2.2→I3 (t.1,t.2.1) (i,j))
theorem Be.start{Pr:Nat→Nat→Prop}(h:∀i j,Pr i j→i<alo):Be A B alo ahi blo bhi Pr (alo,blo,0):=
 ⟨fun _=>rfl,fun h=>absurd h (fP 0),fun i j k a c p=>by have:=h _ _ p;have:=c.a0;exact dD (aS 0x8d718c9211a860508d331d01003 a ‹_› this)⟩
theorem Be.ext{Pr Pr':Nat→Nat→Prop}(x:Be A B alo ahi blo bhi Pr t)(b:∀i j,Pr i j→Pr' i j)(d:∀i j,alo≤i→i<ahi→blo≤j→j<bhi→A.getD i 0=B.getD j 0→Pr' i j→Pr i j):Be A B alo ahi blo bhi Pr' t:=
 ⟨x.zero,fun h=>⟨(x.cr h).1,b _ _ (x.cr h).2⟩,fun i j k a c p=>x.max i j k a c (d _ _ (by have:=c.a0;exact aS aGu a this) (by have:=c.a1;exact aS aGx a this) (by have:=c.b0;exact aS aGu a this) (by have:=c.b1;exact aS aGx a this) (by have:=c.eq (k-1) (aS 0x91462a0814134cc7001 a);rwa[show i+(k-1)=i+k-1 by exact aS aK6 a,show j+(k-1)=j+k-1 by exact aS aK6 a]at this) p)⟩
theorem Be.best{Pr:Nat→Nat→Prop}(x:Be A B alo ahi blo bhi Pr t)(h:∀i j,alo≤i→i<ahi→Pr i j):vB A B alo ahi blo bhi t:=
 ⟨x.zero,fun h=>(x.cr h).1,fun i j k a c=>x.max i j k a c (h _ _ (by have:=c.a0;exact aS aGu a this) (by have:=c.a1;exact aS aGx a this))⟩
theorem T6(d:0<c)(h:a+c-1<b+c-1):a<b:=by
 cases c with
 |zero=>exact absurd d (fP 0)
 |succ c=>exact Nat.lt_of_add_lt_add_right h
theorem Θ(d:0<c)(h:a+c-1=b+c-1):a=b:=by
 cases c with
 |zero=>exact absurd d (fP 0)
 |succ c=>exact Nat.add_right_cancel h
theorem F4(a:0<k)(h:i+k-1=n):i+k=n+1:=by
 cases k with
 |zero=>exact absurd a (fP 0)
 |succ k=>rw [←h];rfl
theorem Be.step{Pr:Nat→Nat→Prop}(x:Be A B alo ahi blo bhi Pr t)(y:∀d f,Pr d f→d<i∨(d=i∧f<j))(hi:i<ahi)(G:j<bhi)(m:0<LS A B alo blo (i+1) (j+1)):
  Be A B alo ahi blo bhi (fun d f=>Pr d f∨(d=i∧f=j)) (if t.2.2<LS A B alo blo (i+1) (j+1)then (i+1-LS A B alo blo (i+1) (j+1),j+1-LS A B alo blo (i+1) (j+1),LS A B alo blo (i+1) (j+1))else t):=by
 obtain ⟨r,s,_⟩:=V6 (A:=A) (B:=B) (alo:=alo) (blo:=blo) (i+1) (j+1);have cr:=aMf (A:=A) (B:=B) (alo:=alo) (blo:=blo) (ahi:=ahi) (bhi:=bhi) (aE1 hi) (aE1 G) m;have n:∀d f k,0<k→Cr A B alo ahi blo bhi d f k→(d+k-1=i∧f+k-1=j)→k≤LS A B alo blo (i+1) (j+1):=fun d f k g c ⟨H,I⟩=>by have:=aIf k d f c;rwa[F4 g H,F4 g I]at this
 revert r s cr n m;generalize LS A B alo blo (i+1) (j+1)=l;intro m r s cr n;obtain ⟨a,u⟩:=kF r;obtain ⟨b,v⟩:=kF s;have z:i+1-l=a:=by rw [u,Ar]
 have C:j+1-l=b:=by rw [v,Ar]
 rw [z,C]at cr;rw [z,C];by_cases h:t.2.2<l
 ·rw [if_pos h];refine ⟨fun h0=>absurd h0 (jU m),fun _=>⟨cr,.inr ⟨?_,?_⟩⟩,fun d f k g c p=>?_⟩
  ·show a+l-1=i;rw [qG,←u];rfl
  ·show b+l-1=j;rw [qG,←v];rfl
  ·rcases p with p|p
   ·have q:=hF (x.max d f k g c p).1 h;exact ⟨kR q,fun e=>absurd e (fM q)⟩
   ·refine ⟨n d f k g c p,fun e=>.inr ?_⟩;have D:=F4 g p.1;have F:=F4 g p.2;rw [u,show k=l from e,qG]at D;rw [v,show k=l from e,qG]at F;exact ⟨(ů D).symm,tH (ů F).symm⟩
 ·rw [if_neg h];refine ⟨x.zero,fun h0=>⟨(x.cr h0).1,.inl (x.cr h0).2⟩,fun d f k g c p=>?_⟩;rcases p with p|p
  ·exact x.max d f k g c p
  ·refine ⟨bZ (n d f k g c p) (fI h),fun e=>?_⟩;have o:=e▸g;obtain ⟨c1,c2⟩:=x.cr o;rw [←p.1,←p.2,e]at y;rcases y _ _ c2 with q|⟨q,J⟩
   ·exact .inl (T6 o q)
   ·exact .inr ⟨Θ o q,kR (T6 o J)⟩
theorem wW:∀{l:bH}{s j:Nat},j∈iN x s l↔s≤j∧j<s+l.length∧l.getD (j-s) 0=x
 |[],s,j=>by simp [xW,xV];exact aS 0x1831739d2b88ca00521012
 |y::l,s,j=>by
  have d:=wW (x:=x) (l:=l) (s:=s+1) (j:=j);have f:(s+1≤j∧j<s+1+l.length∧l.getD (j-(s+1)) 0=x)↔s+1≤j∧j<s+(y::l).length∧(y::l).getD (j-s) 0=x:=by
   constructor
   ·rintro ⟨a,b,c⟩;refine ⟨a,by simp;exact aS 0xc62a420e208148120e1003 b,?_⟩;rw [show j-s=(j-(s+1))+1 by exact aS ln5 a];simpa using c
   ·rintro ⟨a,b,c⟩;refine ⟨a,by simp at b;exact aS 0xc62a409070814841c41003 b,?_⟩;rw [show j-s=(j-(s+1))+1 by exact aS ln5 a]at c;simpa using c
  simp only [xW,xV];split
  ·rename_i h;simp only [aR,d,f];constructor
   ·rintro (rfl|⟨a,b,c⟩)
    ·exact ⟨bG _,by simp,by simpa using h⟩
    ·exact ⟨aS Mk a,b,c⟩
   ·rintro ⟨a,b,c⟩;by_cases e:j=s
    ·exact .inl e
    ·exact .inr ⟨aS aAv a e,b,c⟩
  ·rename_i h;rw [d,f];constructor
   ·rintro ⟨a,b,c⟩;exact ⟨aS Mk a,b,c⟩
   ·rintro ⟨a,b,c⟩;refine ⟨?_,b,c⟩;by_cases e:j=s
    ·subst e;exact absurd (by simpa using c) h
    ·exact aS aAv a e
theorem Pp:∀{l:bH}{s:Nat},(iN x s l).Pairwise (·<·):=by
 intro b
 induction b with
 |nil=>intro s;simp [xW,xV]
 |cons y l a=>
  intro s;simp only [xW,xV];split
  ·refine gE.mpr ⟨fun j c=>?_,a⟩;have:=(wW.mp c).1;exact aS 0x318a82048507002 this
  ·exact a
theorem Hx(h:(iN x s l)[p]?=some j):(∀a∈(iN x s l).take p,a<j)∧(∀a∈(iN x s l).drop p,j≤a)∧(iN x s l).take (p+1)=(iN x s l).take p++[j]:=by
 have c:=Pp (x:=x) (l:=l) (s:=s);obtain ⟨f,e⟩:=cW.mp h;have hd:(iN x s l).drop p=j::(iN x s l).drop (p+1):=by rw [lT f,e]
 rw [←Bs p (iN x s l),lZ]at c;obtain ⟨i,d,g⟩:=c;refine ⟨fun a b=>g a b j (by rw [hd];exact aU),fun a b=>?_,by rw [Ce,h];rfl⟩;rw [hd]at d b;rcases aR.mp b with rfl|b
 ·exact bG _
 ·exact kR ((gE.mp d).1 a b)
end
end
structure Tk(A B:bH)(as:mH):Prop where
 pure:∀p∈as,p.2.pure=true
 a:nM as (aC "a")=some (vL A)
 b:nM as (aC "b")=some (vL B)
 bjunk:nM as (aC "bjunk")=some .set0
 b2j:∃c,nM as (aC "b2j")=some c∧rY B c
theorem aFz{a b i:Nat}(h:(G5 a b)[i]?=some v):i<b-a∧v=vN (a+i):=by
 unfold G5 at h;have c:(((b:Int)-(a:Int)).toNat)=b-a:=by simp
 rw [c]at h;by_cases hi:i<b-a
 ·simp [hi]at h;exact ⟨hi,by rw [←h];simp [vN]⟩
 ·simp [hi]at h
theorem ν(a b:Nat):(G5 a b).length=b-a:=by unfold G5;rw [bC,yP];exact aS 0x220c8c3900caa318ac01998419ecc67d435002
theorem Mz(a b:Int)(σ:St):qS (.int a) (.int b) σ=some (.bool (decide (a=b)),σ):=by refine (?_:some (V.bool (a==b),σ)=_);rfl
section
variable{A B:bH}{alo ahi blo bhi:Nat}{as:mH}{ch:V}
def sO(A B:bH)(alo ahi blo bhi:Nat)(as:mH)(ch:V)(t:T3)(ks:bH)(es:nH):St:=
 ⟨[(1,vN alo),(2,vN ahi),(3,vN blo),(4,vN bhi),(5,vL A),(6,vL B),(7,ch),(8,.bm "set.__contains__" .set0),(9,vN t.1),(10,vN t.2.1),(11,vN t.2.2),(12,.dct ks (es.map vN)),(13,.lst [])],[(0,.attrs as)],1⟩
def sI(A B:bH)(alo ahi blo bhi:Nat)(as:mH)(ch:V)(t:T3)(i:Nat)(ks:bH)(es:nH)(fz:bH)(f6:nH):St:=
 ⟨[(1,vN alo),(2,vN ahi),(3,vN blo),(4,vN bhi),(5,vL A),(6,vL B),(7,ch),(8,.bm "set.__contains__" .set0),(9,vN t.1),(10,vN t.2.1),(11,vN t.2.2),(13,.lst []),(14,vN i),(15,.bm "dict.get" (.dct ks (es.map vN))),(16,.ref 1)],[(1,.dict fz (f6.map vN)),(0,.attrs as)],2⟩
def sW(A B:bH)(alo ahi blo bhi:Nat)(as:mH)(t:T3):St:=
 ⟨[(1,vN alo),(2,vN ahi),(3,vN blo),(4,vN bhi),(5,vL A),(6,vL B),(8,.bm "set.__contains__" .set0),(9,vN t.1),(10,vN t.2.1),(11,vN t.2.2)],[(0,.attrs as)],1⟩
def PM(A B:bH)(alo blo bhi i:Nat)(ks:bH)(es:nH):Prop:=ks.length≤B.length∧∀j:Nat,j≤bhi→((ks.zip (es.map vN)).lookup ((j:Int)-1)).getD (.int 0)=vN (LS A B alo blo i j)
def NM(A B:bH)(alo blo bhi i p:Nat)(ks:bH)(es:nH):Prop:=ks.length≤p∧∀j:Nat,j≤bhi→((ks.zip (es.map vN)).lookup ((j:Int)-1)).getD (.int 0)=vN (if 1≤j∧j-1∈(iN (A.getD i 0) 0 B).take p then LS A B alo blo (i+1) j else 0)
theorem N4(h:¬(alo≤i∧blo≤j∧A.getD i 0=B.getD j 0)):LS A B alo blo (i+1) (j+1)=0:=by simp only [Fh,Fg,Ff];rw [if_neg h]
theorem NM.pm(c:bhi≤B.length)(h:NM A B alo blo bhi i p ks es)(d:p≤B.length)(f:∀j,j+1≤bhi→j∈iN (A.getD i 0) 0 B→j∈(iN (A.getD i 0) 0 B).take p):PM A B alo blo bhi (i+1) ks es:=by
 refine ⟨bZ h.1 d,fun j a=>?_⟩;simp only [h.2 j a]
 cases j with
 |zero=>rfl
 |succ j=>
  by_cases b:j∈(iN (A.getD i 0) 0 B).take p
  ·rw [if_pos ⟨aS ü,b⟩]
  ·rw [if_neg (fun z=>b z.2),N4];rintro ⟨_,_,e⟩;exact b (f j a (wW.mpr ⟨cJ _,aS 0xe31520261240838921003 c a,by simpa using e.symm⟩))
theorem NM.skip(h:NM A B alo blo bhi i p ks es)(d:(iN (A.getD i 0) 0 B)[p]?=some j)(f:j<blo):NM A B alo blo bhi i (p+1) ks es:=by
 refine ⟨by have:=h.1;exact aS Sf this,fun c g=>?_⟩;simp only [h.2 c g,(Hx d).2.2];by_cases e:1≤c∧c-1=j
 ·have:LS A B alo blo (i+1) c=0:=by obtain ⟨q,rfl⟩:∃q,c=q+1:=⟨c-1,aS 0x912109118ad070058b101213ccc7002 e⟩;refine N4 ?_;rintro ⟨_,b,_⟩;exact aS 0x2014c6324846c5880941c2750c5331d07003 f e b
  rw [this];simp
 ·have:(1≤c∧c-1∈To p (iN (A.getD i 0) 0 B)++[j])↔(1≤c∧c-1∈To p (iN (A.getD i 0) 0 B)):=by
   simp only [cV,aM];constructor
   ·rintro ⟨a,b|b⟩
    ·exact ⟨a,b⟩
    ·exact absurd ⟨a,b⟩ e
   ·rintro ⟨a,b⟩;exact ⟨a,.inl b⟩
  simp only [this]
theorem NM.add(h:NM A B alo blo bhi i p ks es)(d:(iN (A.getD i 0) 0 B)[p]?=some j):NM A B alo blo bhi i (p+1) ((j:Int)::ks) (LS A B alo blo (i+1) (j+1)::es):=by
 refine ⟨by have:=h.1;simp;omega,fun c f=>?_⟩;rw [(Hx d).2.2];simp only [cC,iT,kU];by_cases e:1≤c∧c-1=j
 ·have:((c:Int)-1== (j:Int))=true:=by simp;exact aS 0x20c84654637a89e7a858b101213ccc7002 e
  rw [this,if_pos ⟨e.1,by simp [e.2]⟩];rw [show c=j+1 by exact aS 0x832119518ad071058b101213ccc7002 e];rfl
 ·have g:((c:Int)-1== (j:Int))=false:=by simp;exact aS 0xc8863561862e95ea279ea17498b101213ccc7002 e
  rw [g];rw [h.2 c f];have:(1≤c∧c-1∈To p (iN (A.getD i 0) 0 B)++[j])↔(1≤c∧c-1∈To p (iN (A.getD i 0) 0 B)):=by
   simp only [cV,aM];constructor
   ·rintro ⟨a,b|b⟩
    ·exact ⟨a,b⟩
    ·exact absurd ⟨a,b⟩ e
   ·rintro ⟨a,b⟩;exact ⟨a,.inl b⟩
  simp only [this]
def sF(A B:bH)(alo ahi blo bhi:Nat)(as:mH)(ch:V)(t:T3)(fz:bH)(f6:nH):St:=
 ⟨[(1,vN alo),(2,vN ahi),(3,vN blo),(4,vN bhi),(5,vL A),(6,vL B),(7,ch),(8,.bm "set.__contains__" .set0),(9,vN t.1),(10,vN t.2.1),(11,vN t.2.2),(13,.lst []),(16,.ref 1)],[(1,.dict fz (f6.map vN)),(0,.attrs as)],2⟩
theorem iD{c:Sort _}{p:Prop}[Decidable p]{a b:c}(h:p):(if decide p=true then a else b)=a:=if_pos (decide_eq_true h)
theorem fJ{c:Sort _}{p:Prop}[Decidable p]{a b:c}(h:¬p):(if decide p=true then a else b)=b:=if_neg (by simpa using h)
theorem aFj{a:Nat}:V.int ((a:Int)+1)=vN (a+1):=by rfl
theorem C2(a:lk σ.loc 8=some (.bm "set.__contains__" .set0))(b:g σ=some (.int k,σ)):qB (vY (aJ 8) (aK g bI)) σ=some (false,σ):=by refine yQ (v:=.bool false) ?_ rfl;unfold vY;rw [aT a];refine (?_:bd (aK g bI σ) _=_);rw [aQ b bU];rfl
theorem vU(hx:lk σ.loc x=some (vL L))(b:g σ=some (.int (n:Int),σ))(a:n<L.length)(c:L.length<200):bD eF (aJ x) g σ=some (.int (L.getD n 0),σ):=by
 have e:L[n]?=some (L.getD n 0):=by simp only [bJ a,aP,bJ a];rfl
 refine dC (aT hx) b (rE ?_ ?_)
 ·simp only [fK,e];rfl
 ·rw [bC];show _≤1048576;exact aS aKd c
theorem ķ(d:g σ=some (.int a,σ))(e:c σ=some (.int b,σ)):eE (bD qS g c) σ=some (decide (a=b),σ):=by unfold eE bD;rw [d];refine (?_:bd (bd (c σ) _) _=_);rw [e];refine (?_:bd (qS (.int a) (.int b) σ) _=_);rw [Mz];rfl
inductive JI(A B:bH)(alo ahi blo bhi:Nat)(as:mH)(ch:V)(i0:Nat)(ks:bH)(es:nH)(p:Nat)(τ:St):Prop
 |mk (t':T3) (fz:bH) (f6:nH) (e:τ=sI A B alo ahi blo bhi as ch t' i0 ks es fz f6) (n:NM A B alo blo bhi i0 p fz f6) (b:Be A B alo ahi blo bhi (fun i' j'=>(alo≤i'∧i'<i0)∨(i'=i0∧j'∈(iN (A.getD i0 0) 0 B).take p)) t')
inductive EI(A B:bH)(alo ahi blo bhi:Nat)(as:mH)(ch:V)(i0:Nat)(τ:St):Prop
 |mk (t':T3) (fz:bH) (f6:nH) (e:C1 [1,2,3,4,5,6,7,8,9,10,11,13,16] τ=sF A B alo ahi blo bhi as ch t' fz f6) (n:PM A B alo blo bhi (i0+1) fz f6) (b:Be A B alo ahi blo bhi (fun i' _=>alo≤i'∧i'<i0+1) t')
inductive JO(A B:bH)(alo ahi blo bhi:Nat)(as:mH)(ch:V)(i:Nat)(τ:St):Prop
 |mk (t:T3) (ks:bH) (es:nH) (e:τ=sO A B alo ahi blo bhi as ch t ks es) (n:PM A B alo blo bhi (alo+i) ks es) (b:Be A B alo ahi blo bhi (fun i' _=>alo≤i'∧i'<alo+i) t)
theorem X3{ks0:bH}{d p:Nat}{ks:bH}{es:nH}(rk:(V.dct ks0 vs0).pure=true)(de:∀k,Co k (.attrs as)=true)(h2:ahi≤A.length)(h4:bhi≤B.length)(hA:A.length<200)(hB:B.length<200)(oj:d<ahi)(wd:alo≤d)
  (pm:PM A B alo blo bhi d ks es) (o:((iN (A.getD d 0) 0 B).map vN)[p]?=some v) (u8:JI A B alo ahi blo bhi as (.dct ks0 vs0) d ks es p O):
  ∃τ',bQ 17 v O=some τ'∧Go (Ih 2 τ') (Ao [1,2,3,4,5,6,7,8,9,10,11,13,14,15,16] 2 (JI A B alo ahi blo bhi as (.dct ks0 vs0) d ks es (p+1)) (EI A B alo ahi blo bhi as (.dct ks0 vs0) d) (fun _ _=>False)):=by
 have bp:lim=1048576:=rfl;obtain ⟨e,g,m,e1,F,P⟩:=u8;subst e1;obtain ⟨j,r,rfl⟩:∃j,(iN (A.getD d 0) 0 B)[p]?=some j∧v=vN j:=by
  rw [fK]at o
  cases q:(iN (A.getD d 0) 0 B)[p]? with
  |none=>rw [q]at o;exact hU o
  |some j=>rw [q]at o;refine nW o ?_;rintro rfl;exact ⟨j,rfl,rfl⟩
 have Q:=wW.mp (aG r);have s:=(cW.mp r).1;have aw:=Hw (A.getD d 0) B 0;obtain ⟨R,t,G⟩:=Hx r;have hjB:j<B.length:=by have:=Q.2.1;exact aS 0x918a820632e31290130120322 Q
 have T:A.getD d 0=B.getD j 0:=by have:=Q.2.2;exact this.symm
 have W:∀(H:T3)(u:bH)(x:nH)(τ:St),C1 [1,2,3,4,5,6,7,8,9,10,11,13,14,15,16] τ=sI A B alo ahi blo bhi as (.dct ks0 vs0) H d ks es u x→NM A B alo blo bhi d (p+1) u x→Be A B alo ahi blo bhi (fun f l=>(alo≤f∧f<d)∨(f=d∧l∈(iN (A.getD d 0) 0 B).take (p+1))) H→
   I6 [1,2,3,4,5,6,7,8,9,10,11,13,14,15,16] 2 (JI A B alo ahi blo bhi as (.dct ks0 vs0) d ks es (p+1)) τ:=fun H u x τ hk y I=>by
  refine ⟨_,mX hk ?_ (dO (by decide) (eB (c:=.dict u (x.map vN)) (eM (rH _))) (dO (by decide) (eB (de 2)) iM)),H,u,x,rfl,y,I⟩;have X:(V.bm "dict.get" (.dct ks (es.map vN))).pure=true:=rH es;simp only [eT,jQ,fX (eP A),fX (eP B),fX rk,fX X];rfl
 refine ⟨⟨[(1,vN alo),(2,vN ahi),(3,vN blo),(4,vN bhi),(5,vL A),(6,vL B),(7,.dct ks0 vs0),(8,.bm "set.__contains__" .set0),(9,vN e.1),(10,vN e.2.1),(11,vN e.2.2),(13,.lst []),(14,vN d),(15,.bm "dict.get" (.dct ks (es.map vN))),(16,.ref 1),(17,vN j)],[(1,.dict g (m.map vN)),(0,.attrs as)],2⟩,rfl,?_⟩;unfold Ih;refine bR (nP (gZ rfl ?_));by_cases z:j<blo
 ·rw [iD (by exact aS Sh z)];refine iR ?_;refine W e g m _ rfl (F.skip r z) ?_;refine P.ext (fun i j h=>?_) fun f l _ _ C _ _ h=>?_
  ·rw [G];exact h.imp id fun ⟨a,b⟩=>⟨a,Cf _ b⟩
  ·rw [G]at h;refine h.imp id fun ⟨a,b⟩=>⟨a,?_⟩;rcases cV.mp b with b|b
   ·exact b
   ·rw [aM.mp b]at C;exact dD (aS ð z C)
 rw [fJ (by exact aS Xf z)];refine iR ?_;refine fW (σ':=⟨[(1,vN alo),(2,vN ahi),(3,vN blo),(4,vN bhi),(5,vL A),(6,vL B),(7,.dct ks0 vs0),(8,.bm "set.__contains__" .set0),(9,vN e.1),(10,vN e.2.1),(11,vN e.2.2),(13,.lst []),(14,vN d),(15,.bm "dict.get" (.dct ks (es.map vN))),(16,.ref 1),(17,vN j)],[(1,.dict g (m.map vN)),(0,.attrs as)],2⟩) rfl ?_;refine bR (nP (gZ rfl ?_));by_cases n:bhi≤j
 ·rw [iD (by exact aS ò n)];refine iR ?_;refine ⟨e,g,m,rfl,F.pm h4 (by exact aS 0xe314880910541003 s aw) fun l j3 D=>?_,P.ext (fun f l h=>?_) fun f l _ _ _ C he h=>?_⟩
  ·rw [←Bs p (iN (A.getD d 0) 0 B)]at D;rcases cV.mp D with q|q
   ·exact q
   ·have:=t _ q;exact dD (aS 0x718c9220a40838921003 n j3 this)
  ·rcases h with h|⟨rfl,_⟩
   ·exact ⟨h.1,by exact aS aD2 h⟩
   ·exact ⟨by exact aS Mj wd,by exact aS û⟩
  ·by_cases q:f<d
   ·exact .inl ⟨h.1,q⟩
   ·have:f=d:=by exact aS aKk h q
    subst this;refine .inr ⟨rfl,?_⟩;have D:l∈iN (A.getD f 0) 0 B:=wW.mpr ⟨cJ _,by exact aS aDu h4 C,by simpa using he.symm⟩;rw [←Bs p (iN (A.getD f 0) 0 B)]at D;rcases cV.mp D with Y|Y
    ·exact Y
    ·have:=t _ Y;exact dD (aS 0x1c6324882a00921003 n C this)
 rw [fJ (by exact aS 0x318ba56a86a074921002 n)];refine iR ?_;refine fW (σ':=⟨[(1,vN alo),(2,vN ahi),(3,vN blo),(4,vN bhi),(5,vL A),(6,vL B),(7,.dct ks0 vs0),(8,.bm "set.__contains__" .set0),(9,vN e.1),(10,vN e.2.1),(11,vN e.2.2),(13,.lst []),(14,vN d),(15,.bm "dict.get" (.dct ks (es.map vN))),(16,.ref 1),(17,vN j)],[(1,.dict g (m.map vN)),(0,.attrs as)],2⟩) rfl ?_;have hE:LS A B alo blo (d+1) (j+1)=LS A B alo blo d j+1:=by show (if _ then _ else _)=_;rw [if_pos ⟨by exact aS Mj wd,by exact aS ñ z,T⟩]
 generalize J:LS A B alo blo (d+1) (j+1)=E at *;have Z:=V6 (A:=A) (B:=B) (alo:=alo) (blo:=blo) (d+1) (j+1);rw [J]at Z;refine bR (dK (v:=vN E) (τ:=⟨[(1,vN alo),(2,vN ahi),(3,vN blo),(4,vN bhi),(5,vL A),(6,vL B),(7,.dct ks0 vs0),(8,.bm "set.__contains__" .set0),(9,vN e.1),(10,vN e.2.1),(11,vN e.2.2),(13,.lst []),(14,vN d),(15,.bm "dict.get" (.dct ks (es.map vN))),(16,.ref 1),(17,vN j)],[(1,.dict g (m.map vN)),(0,.attrs as)],2⟩)
  (τ':=⟨[(1,vN alo),(2,vN ahi),(3,vN blo),(4,vN bhi),(5,vL A),(6,vL B),(7,.dct ks0 vs0),(8,.bm "set.__contains__" .set0),(9,vN e.1),(10,vN e.2.1),(11,vN e.2.2),(13,.lst []),(14,vN d),(15,.bm "dict.get" (.dct ks (es.map vN))),(16,.ref 1),(17,vN j),(18,vN E)],[(1,.dict ((j:Int)::g) ((E::m).map vN)),(0,.attrs as)],2⟩) ?_ ?_ ?_)
 ·have e4:=pm.2 j (by exact aS 0x318a40174921002 n);show bd (some ((((ks.zip (es.map vN)).lookup ((j:Int)-1)).getD (.int 0)),_)) _=_;rw [e4];show some (V.int ((LS A B alo blo d j:Int)+1),_)=_;rw [aFj,hE]
 ·have hks:g.length≤lim:=by have:=F.1;exact aS 0x6f18a4244888900d4312f18c6318e182ac6766005 hB bp s aw this
  simp [Fo,bQ,Ë,Ê,ob,Ģ,Ix,Iz,aD,diC,aJ,fF,fE,bd,vN,hks]
 ·refine nP (gZ rfl ?_);have y:=F.add r;rw [J]at y;have I:=P.step (i:=d) (j:=j) (fun f l h=>?_) oj (by exact aS 0x318a80174921002 n) (by exact aS 0xa8c54032d0710561003 J hE);rw [J]at I;have L:Be A B alo ahi blo bhi (fun f l=>(alo≤f∧f<d)∨(f=d∧l∈(iN (A.getD d 0) 0 B).take (p+1))) (if e.2.2<E then (d+1-E,j+1-E,E)else e):=by
   refine I.ext (fun f l h=>?_) fun f l _ _ _ _ _ h=>?_
   ·rw [G];rcases h with (h|⟨a,b⟩)|⟨a,b⟩
    ·exact .inl h
    ·exact .inr ⟨a,Cf _ b⟩
    ·exact .inr ⟨a,Yw _ (aM.mpr b)⟩
   ·rw [G]at h;rcases h with h|⟨a,b⟩
    ·exact .inl (.inl h)
    ·rcases cV.mp b with b|b
     ·exact .inl (.inr ⟨a,b⟩)
     ·exact .inr ⟨a,aM.mp b⟩
  ·by_cases N:e.2.2<E
   ·rw [iD (by exact aS Sh N)];rw [if_pos N]at L;refine dK (v:=.tup [vN (d+1-E),vN (j+1-E),vN E]) (τ:=⟨[(1,vN alo),(2,vN ahi),(3,vN blo),(4,vN bhi),(5,vL A),(6,vL B),(7,.dct ks0 vs0),(8,.bm "set.__contains__" .set0),(9,vN e.1),(10,vN e.2.1),(11,vN e.2.2),(13,.lst []),(14,vN d),(15,.bm "dict.get" (.dct ks (es.map vN))),(16,.ref 1),(17,vN j),(18,vN E)],[(1,.dict ((j:Int)::g) ((E::m).map vN)),(0,.attrs as)],2⟩) ?_ rfl ?_
    ·show some (V.tup [V.int ((d:Int)-(E:Int)+1),V.int ((j:Int)-(E:Int)+1),V.int (E:Int)],_)=_;have q1:(d:Int)-(E:Int)+1=((d+1-E:Nat):Int):=by exact aS 0x90909121048509118dea041df51542c6398941c68114c941c281114232507189283845330507005 Z
     have q2:(j:Int)-(E:Int)+1=((j+1-E:Nat):Int):=by exact aS 0x88888911048509118dea041df51542c6398941c28114c941c6811142325070892838c5330507005 Z
     rw [q1,q2];rfl
    ·exact W (d+1-E,j+1-E,E) ((j:Int)::g) (E::m) _ rfl y L
   ·rw [fJ (by exact aS Xf N)];rw [if_neg N]at L;refine iR ?_;exact W e ((j:Int)::g) (E::m) _ rfl y L
  ·rcases h with h|⟨a,b⟩
   ·exact .inl h.2
   ·exact .inr ⟨a,R _ b⟩
theorem X2{ks0:bH}{i:Nat}(u:(V.dct ks0 vs0).pure=true)(xf:ks0.length=vs0.length)(D:∀k,(ks0.zip vs0).lookup k=if iN k 0 B=[]then aF else some (.lst ((iN k 0 B).map vN)))(x:∀k,Co k (.attrs as)=true)(g:ahi≤A.length)(l:bhi≤B.length)(y:A.length<200)(F:B.length<200)
  (m:(G5 alo ahi)[i]?=some v) (G:JO A B alo ahi blo bhi as (.dct ks0 vs0) i H):
  ∃τ',bQ 14 v H=some τ'∧Go (Px 1 τ') (Ao [1,2,3,4,5,6,7,8,9,10,11,12,13] 1 (JO A B alo ahi blo bhi as (.dct ks0 vs0) (i+1)) (fun _=>False) (fun _ _=>False)):=by
 have bp:lim=1048576:=rfl;obtain ⟨t,ks,es,I,J,L⟩:=G;subst I;obtain ⟨hi,rfl⟩:=aFz m;generalize c:alo+i=a at *;have n:a<ahi:=aS 0x60e8c54122c88189401ccc1004 hi c;refine ⟨_,rfl,?_⟩;refine bR (dK rfl rfl ?_);refine bR (dK rfl rfl ?_);refine fW (σ':=sI A B alo ahi blo bhi as (.dct ks0 vs0) t a ks es [] []) rfl ?_;have hx:A[a]?=some (A.getD a 0):=by rw [bJ (by exact aS ô g n),aP,bJ (by exact aS ô g n)];rfl
 have N:(iF (gDM Yc (aJ 7) (aK (bD eF (aJ 5) (aJ 14)) (aK (aJ 13) bI)))) (sI A B alo ahi blo bhi as (.dct ks0 vs0) t a ks es [] [])=some ((iN (A.getD a 0) 0 B).map vN,sI A B alo ahi blo bhi as (.dct ks0 vs0) t a ks es [] []):=by
  have O:(bD eF (aJ 5) (aJ 14)) (sI A B alo ahi blo bhi as (.dct ks0 vs0) t a ks es [] [])=some (.int (A.getD a 0),sI A B alo ahi blo bhi as (.dct ks0 vs0) t a ks es [] []):=by exact rE (by rw [fK,hx];rfl) (by rw [bC];show _≤1048576;exact aS aKd y)
  have P:((ks0.zip vs0).lookup (A.getD a 0)).getD (.lst [])=.lst ((iN (A.getD a 0) 0 B).map vN):=by
   rw [D];by_cases q:iN (A.getD a 0) 0 B=[]
   ·rw [if_pos q,q];rfl
   ·rw [if_neg q];rfl
  have Q:(gDM Yc (aJ 7) (aK (bD eF (aJ 5) (aJ 14)) (aK (aJ 13) bI))) (sI A B alo ahi blo bhi as (.dct ks0 vs0) t a ks es [] [])=some (.lst ((iN (A.getD a 0) 0 B).map vN),sI A B alo ahi blo bhi as (.dct ks0 vs0) t a ks es [] []):=by show bd (bd ((bD eF (aJ 5) (aJ 14)) (sI A B alo ahi blo bhi as (.dct ks0 vs0) t a ks es [] [])) _) _=_;rw [O];show some (((ks0.zip vs0).lookup (A.getD a 0)).getD (.lst []),_)=_;rw [P]
  exact vM Q (rH _)
 refine bR (uW (EI A B alo ahi blo bhi as (.dct ks0 vs0) a) (JI A B alo ahi blo bhi as (.dct ks0 vs0) a ks es)
  N (jG _) ⟨t,[],[],rfl,⟨bG _,fun j _=>by simp;rfl⟩,L.ext (fun i j h=>.inl h) fun i j _ _ _ _ _ h=>by simpa using h⟩ (fun p R v m o=>X3 u x g l y F n (by exact aS 0x318a44058901003 c) J m o) (fun τ' hd=>?_))
 have T:EI A B alo ahi blo bhi as (.dct ks0 vs0) a τ':=by
  rcases hd with ⟨b,d,e,rfl,z,f⟩|hd
  ·have W:=Hw (A.getD a 0) B 0;rw [bC]at z f;refine ⟨b,d,e,rfl,z.pm l W fun C _ X=>by rw [zD];exact X,f.ext (fun r C h=>?_) fun r C _ _ _ Y Z h=>?_⟩
   ·rcases h with h|⟨rfl,_⟩
    ·exact ⟨h.1,by exact aS aD2 h⟩
    ·exact ⟨by exact aS 0x318a44058901003 c,by exact aS û⟩
   ·by_cases q:r<a
    ·exact .inl ⟨h.1,q⟩
    ·have:r=a:=by exact aS aKk h q
     subst this;refine .inr ⟨rfl,?_⟩;rw [zD];exact wW.mpr ⟨cJ _,by exact aS aDu l Y,by simpa using Z.symm⟩
  ·exact hd
 obtain ⟨b,d,e,hk,s,f⟩:=T;show Go _ _;refine fW hk ?_;refine dK rfl rfl ?_;refine ⟨sO A B alo ahi blo bhi as (.dct ks0 vs0) b d e,?_,b,d,e,rfl,by rw [show alo+(i+1)=a+1 by exact aS aEe c];exact s,by rw [show alo+(i+1)=a+1 by exact aS aEe c];exact f⟩;refine M9 rfl (loc':=[(1,vN alo),(2,vN ahi),(3,vN blo),(4,vN bhi),(5,vL A),(6,vL B),(7,.dct ks0 vs0),(8,.bm "set.__contains__" .set0),(9,vN b.1),(10,vN b.2.1),(11,vN b.2.2),(12,.dct d (e.map vN)),(13,.lst [])]) ?_ (lH (by decide) (dO (by decide) (eB (x 1)) iM));exact cU rfl (cU rfl (cU rfl (cU rfl (cU (eA (eP A)) (cU (eA (eP B)) (cU (eA u) (cU rfl (cU rfl (cU rfl (cU rfl (cU (Ç (by decide) rfl (rH _)) (cU rfl rfl))))))))))))
theorem į{ks0:bH}{vs0:bV}{ks:bH}{es:nH}(a:vB A B alo ahi blo bhi t)(C:alo≤ahi)(v:ahi≤A.length)(D:blo≤bhi)(g:bhi≤B.length)(z:A.length<200)(h:B.length<200):
  Go (Ig 1 (sW A B alo ahi blo bhi as t)) (fun f τ=>f=.ret (xM t)∧lk τ.cells 0=some (.attrs as)):=by
 have F:alo<t.1→blo<t.2.1→A.getD (t.1-1) 0≠B.getD (t.2.1-1) 0:=fun d i e=>by
  have G:=dU fun h0=>by have:=a.zero h0;rw [this]at d;exact absurd d (fP _)
  have c:=a.cr G;have:=(a.max (t.1-1) (t.2.1-1) (t.2.2+1) (Bf _) ⟨aS aGm d,by have:=c.a1;exact aS aKt d this,aS aGm i,by have:=c.b1;exact aS aKt i this,fun u k=>by
   cases u with
   |zero=>exact e
   |succ u=>rw [show t.1-1+(u+1)=t.1+u by exact aS aKm d,show t.2.1-1+(u+1)=t.2.1+u by exact aS aKm i];exact c.eq u (by exact aS 0xc62a0814838507002 k)⟩).1
  exact aS 0x463248107001 this
 have H:t.1+t.2.2<ahi→t.2.1+t.2.2<bhi→A.getD (t.1+t.2.2) 0≠B.getD (t.2.1+t.2.2) 0:=fun d i e=>by
  have lo:alo≤t.1∧blo≤t.2.1:=by
   by_cases h0:t.2.2=0
   ·have:=a.zero h0;rw [this];exact ⟨bG _,bG _⟩
   ·have c:=a.cr (dU h0);exact ⟨c.a0,c.b0⟩
  have:=(a.max t.1 t.2.1 (t.2.2+1) (Bf _) ⟨lo.1,by exact aS aD1 d,lo.2,by exact aS aD1 i,fun u k=>by
   by_cases q:u=t.2.2
   ·subst q;exact e
   ·have c:=a.cr (by exact aS 0x6631504ce92c20520e1002 k q);exact c.eq u (by exact aS aGq k q)⟩).1
  exact aS 0x463248107001 this
 have bnd:t.1≤ahi∧t.2.1≤bhi:=by
  by_cases h0:t.2.2=0
  ·have:=a.zero h0;rw [this];exact ⟨C,D⟩
  ·have c:=a.cr (dU h0);exact ⟨by have:=c.a1;exact aS aAp this,by have:=c.b1;exact aS aAp this⟩
 have l:∀{x n:Nat},lk (sW A B alo ahi blo bhi as t).loc x=some (vN n)→0<n→bD B2 (aJ x) (gK (.int 1)) (sW A B alo ahi blo bhi as t)=some (.int ((n-1:Nat):Int),sW A B alo ahi blo bhi as t):=fun {x n} hx I=>by refine dC (aT hx) rfl ?_;show some (V.int ((n:Int)-1),_)=_;rw [show (n:Int)-1=((n-1:Nat):Int) by exact aS 0x232494637a81e7a854134cc7001 I]
 have o:∀{x y n m:Nat},lk (sW A B alo ahi blo bhi as t).loc x=some (vN n)→lk (sW A B alo ahi blo bhi as t).loc y=some (vN m)→bD fQ (aJ x) (aJ y) (sW A B alo ahi blo bhi as t)=some (.int ((n+m:Nat):Int),sW A B alo ahi blo bhi as t):=fun {x y n m} hx hy=>by refine dC (aT hx) (aT hy) ?_;show some (V.int ((n:Int)+(m:Int)),_)=_;rw [show (n:Int)+(m:Int)=((n+m:Nat):Int) by exact aS õ]
 unfold Ig;refine fW (σ':=sW A B alo ahi blo bhi as t) rfl ?_;refine bR (A6 (bG _) (jN (gZ rfl ?_)));have p:Go (Ie 1 (sW A B alo ahi blo bhi as t)) (fun f τ=>f=.ret (xM t)∧lk τ.cells 0=some (.attrs as)):=by
  unfold Ie;refine fW (σ':=sW A B alo ahi blo bhi as t) rfl ?_;refine bR (A6 (bG _) (jN (gZ (b:=decide (t.1+t.2.2<ahi)) (τ:=sW A B alo ahi blo bhi as t) ?_ ?_)))
  ·show some (decide ((t.1:Int)+(t.2.2:Int)<(ahi:Int)),_)=_
   congr 2;exact decide_eq_decide.mpr (jW (n:=_+_))
  have r:Go (Ic 1 (sW A B alo ahi blo bhi as t)) (fun f τ=>f=.ret (xM t)∧lk τ.cells 0=some (.attrs as)):=by
   unfold Ic;refine fW (σ':=sW A B alo ahi blo bhi as t) rfl ?_;refine bR (A6 (bG _) (jN (gZ rfl ?_)));have s:Go (Ib 1 (sW A B alo ahi blo bhi as t)) (fun f τ=>f=.ret (xM t)∧lk τ.cells 0=some (.attrs as)):=by
    let j:St:=⟨[(2,vN ahi),(4,vN bhi),(5,vL A),(6,vL B),(8,.bm "set.__contains__" .set0),(9,vN t.1),(10,vN t.2.1),(11,vN t.2.2)],[(0,.attrs as)],1⟩;unfold Ib;refine fW (σ':=j) rfl ?_;refine bR (A6 (bG _) (jN (gZ (b:=decide (t.1+t.2.2<ahi)) (τ:=j) ?_ ?_)))
    ·show some (decide ((t.1:Int)+(t.2.2:Int)<(ahi:Int)),_)=_
     congr 2;exact decide_eq_decide.mpr (jW (n:=_+_))
    have fin:Go (oD [9,10,11] Pw 1 j) (fun f τ=>f=.ret (xM t)∧lk τ.cells 0=some (.attrs as)):=fW rfl (qQ rfl ⟨rfl,rfl⟩);by_cases c1:t.1+t.2.2<ahi
    ·rw [iD c1];refine jN (gZ (b:=decide (t.2.1+t.2.2<bhi)) (τ:=j) ?_ ?_)
     ·show some (decide ((t.2.1:Int)+(t.2.2:Int)<(bhi:Int)),_)=_
      congr 2;exact decide_eq_decide.mpr (jW (n:=_+_))
     by_cases c2:t.2.1+t.2.2<bhi
     ·rw [iD c2];refine jN (gZ (b:=false) (τ:=j) (C2 rfl (vU rfl (n:=t.2.1+t.2.2) ?_ (by exact aS aAu g c2) h)) ⟨rfl,fin⟩);show some (V.int ((t.2.1:Int)+(t.2.2:Int)),_)=_;rw [show (t.2.1:Int)+(t.2.2:Int)=((t.2.1+t.2.2:Nat):Int) by exact aS õ]
     ·rw [fJ c2];exact ⟨rfl,fin⟩
    ·rw [fJ c1];exact ⟨rfl,fin⟩
   by_cases c1:alo<t.1
   ·rw [iD (by exact aS Sh c1)];refine jN (gZ rfl ?_);by_cases c2:blo<t.2.1
    ·rw [iD (by exact aS Sh c2)];exact jN (gZ (b:=false) (τ:=sW A B alo ahi blo bhi as t) (C2 rfl (vU rfl (l rfl (by exact aS W8 c2)) (by exact aS aGy g bnd c2) h)) ⟨rfl,s⟩)
    ·rw [fJ (by exact aS Xf c2)];exact ⟨rfl,s⟩
   ·rw [fJ (by exact aS Xf c1)];exact ⟨rfl,s⟩
  by_cases c1:t.1+t.2.2<ahi
  ·rw [iD c1];refine jN (gZ (b:=decide (t.2.1+t.2.2<bhi)) (τ:=sW A B alo ahi blo bhi as t) ?_ ?_)
   ·show some (decide ((t.2.1:Int)+(t.2.2:Int)<(bhi:Int)),_)=_
    congr 2;exact decide_eq_decide.mpr (jW (n:=_+_))
   by_cases c2:t.2.1+t.2.2<bhi
   ·rw [iD c2];refine jN (Sw (gZ (b:=false) (τ:=sW A B alo ahi blo bhi as t) (C2 rfl (vU rfl (o rfl rfl) (by exact aS aAu g c2) h)) ?_));show GB _ _ _;refine jN (gZ (ķ (vU rfl (o rfl rfl) (by exact aS aAu v c1) z) (vU rfl (o rfl rfl) (by exact aS aAu g c2) h)) ?_);rw [fJ (H c1 c2)];exact ⟨rfl,r⟩
   ·rw [fJ c2];exact ⟨rfl,r⟩
  ·rw [fJ c1];exact ⟨rfl,r⟩
 by_cases c1:alo<t.1
 ·rw [iD (by exact aS Sh c1)];refine jN (gZ rfl ?_);by_cases c2:blo<t.2.1
  ·rw [iD (by exact aS Sh c2)];refine jN (Sw (gZ (b:=false) (τ:=sW A B alo ahi blo bhi as t) (C2 rfl (vU rfl (l rfl (by exact aS W8 c2)) (by exact aS aGy g bnd c2) h)) ?_));show GB _ _ _;refine jN (gZ (ķ (vU rfl (l rfl (by exact aS W8 c1)) (by exact aS 0x208e462a1814129d89298891052314cc7006 v bnd c1) z) (vU rfl (l rfl (by exact aS W8 c2)) (by exact aS aGy g bnd c2) h)) ?_);rw [fJ (F c1 c2)];exact ⟨rfl,p⟩
  ·rw [fJ (by exact aS Xf c2)];exact ⟨rfl,p⟩
 ·rw [fJ (by exact aS Xf c1)];exact ⟨rfl,p⟩
theorem aBv(h:Tk A B as)(m:alo≤ahi)(d:ahi≤A.length)(C:blo≤bhi)(n:bhi≤B.length)(l:A.length<200)(o:B.length<200):
  Go (aBt 1 ⟨Ba 0 [.inst 0,vN alo,vN ahi,vN blo,vN bhi],[(0,.attrs as)],1⟩) (fun f τ=>f=.ret (xM (Nd A B alo ahi blo bhi))∧lk τ.cells 0=some (.attrs as)):=by
 obtain ⟨ch,r,ks0,vs0,rfl,D,F⟩:=h.b2j;have G:=h.pure _ (U3 r);have H:∀k,Co k (.attrs as)=true:=fun k=>A8 h.pure;have I:Bj alo ahi=true:=by simp [Bj];exact aS 0x3f8c596c6318c6318c6318c6318c6318e1907a86d8c6318c6318c6318c6318c631c320f502b19d984910521003 m d l
 let s:St:=⟨[(0,.inst 0),(1,vN alo),(2,vN ahi),(3,vN blo),(4,vN bhi)],[(0,.attrs as)],1⟩;let u:St:=⟨[(0,.inst 0),(1,vN alo),(2,vN ahi),(3,vN blo),(4,vN bhi),(5,vL A),(6,vL B),(7,.dct ks0 vs0),(8,.bm "set.__contains__" .set0)],[(0,.attrs as)],1⟩;let c:St:=⟨[(1,vN alo),(2,vN ahi),(3,vN blo),(4,vN bhi),(5,vL A),(6,vL B),(7,.dct ks0 vs0),(8,.bm "set.__contains__" .set0)],[(0,.attrs as)],1⟩;let x:St:=sO A B alo ahi blo bhi as (.dct ks0 vs0) (alo,blo,0) [] [];refine (?_:Go (aBt 1 s) _);unfold aBt;refine bR (H0 ?_);refine bR (dK (v:=.tup [vL A,vL B,.dct ks0 vs0,.bm "set.__contains__" .set0]) (τ:=s) (τ':=u) (hO (aQ (mK (aT rfl) rfl h.a rfl) (aQ (mK (aT rfl) rfl h.b rfl) (aQ (mK (aT rfl) rfl r rfl) (aQ (by unfold aHi;rw [mK (aT rfl) rfl h.bjunk rfl];rfl) bU)))) (by exact aS ù)) rfl ?_);refine bR (zQ (τ:=u) rfl (iR ?_));refine fW (σ':=c) rfl ?_;refine bR (zQ (τ:=c) rfl (iR ?_));refine fW (σ':=c) rfl ?_;refine bR (dK (τ:=c) (v:=.tup [vN alo,vN blo,vN 0]) rfl rfl ?_);refine bR (dK rfl rfl ?_);refine bR (dK rfl rfl ?_);refine fW (σ':=x) rfl ?_;refine bR (uW (fun _=>False) (JO A B alo ahi blo bhi as (.dct ks0 vs0)) (ds:=G5 alo ahi) (τ:=x) (Ÿ (aQ (aT rfl) (aQ (aT rfl) bU)) I) (bG _)
  ⟨_,_,_,rfl,⟨cJ _,fun j _=>?_⟩,Be.start fun i j ⟨a,b⟩=>aS 0x618a8016290600521002 ‹_›⟩ (fun i P v J L=>?_) (fun τ' hd=>?_))
 ·cases j with
  |zero=>cases alo<;>rfl
  |succ j=>
   show _=vN (LS A B alo blo alo (j+1));rw [show LS A B alo blo alo (j+1)=0 by
    cases alo with
    |zero=>rfl
    |succ a=>exact N4 (aS 0x40c5d2632e41a44148107023)]
   rfl
 ·obtain ⟨τ',e,g⟩:=X2 G D F H d n l o J L;refine ⟨τ',e,g.mono fun f τ p=>?_⟩;cases f<;>first|exact p|exact p.elim
 ·obtain ⟨t,ks,es,rfl,Q,y⟩:=hd.resolve_right id;rw [ν]at y;have z:=y.best fun i j N O=>⟨N,aS 0x26b18a90010d411ccc1003 O⟩;rw [S3 z];refine fW (σ':=sW A B alo ahi blo bhi as t) rfl ?_;exact į (ks0:=ks0) (vs0:=vs0) (ks:=ks) (es:=es) z m d C n l o
end
section
open MineH (at_ bS fr)
section
variable{n:Nat}
theorem aNe(G:Gd)(h:Tk A B as)(a:alo≤ahi)(b:ahi≤A.length)(d:blo≤bhi)(g:bhi≤B.length)(i:A.length<200)(j:B.length<200):
  qV (n+3) (.ref 196) (.attrs as) [vN alo,vN ahi,vN blo,vN bhi] (fun c r=>c=.attrs as∧r=xM (Nd A B alo ahi blo bhi)):=by
 refine Yk.c (Me (dds:=[]) (dvs:=[]) (fd:=iY MineH.o196v0) (o:=MineH.o196v0) (tab:=Rf) (body:=bS (at_ [5,6])) (aLz w.params) (G.K 196 _ (by kernel_rfl)) rfl G.lim (codeRec_of G.K (by kernel_rfl)) rfl (fun _ _ _=>bO.nil) (fun h tk vs k m=>?_) (by show (5:Nat)≤19;decide) h.pure (fun L=>?_) rfl)
 ·revert vs;exact ll5 fun _ _ _ _ _=>kp_binds (G.K.keeps k) fun K=>by kernel_rfl
 ·obtain ⟨f,τ,e,rfl,l⟩:=aBv (as:=as) h a b d g i j;refine jC (aLg G 1 _ _ _ e) ?_;rintro _ _ ⟨rfl,rfl⟩;exact ⟨.attrs as,.attrs as,_,l,rW h.pure,h.pure,eA (by rfl),by rfl,rfl,rfl⟩
end
end
theorem Il(h:Nd A B alo ahi blo bhi=(i,j,k))(a:k≠0):Cr A B alo ahi blo bhi i j k:=by
 unfold Nd at h;split at h
 ·rename_i hx;have:=hx.choose_spec.cr;rw [h]at this;exact this (dU a)
 ·simp only [qE]at h;exact absurd h.2.2.symm a
theorem P1(h:ahi≤alo∨bhi≤blo):Nd A B alo ahi blo bhi=(alo,blo,0):=
 S3 ⟨fun _=>rfl,fun h=>absurd h (fP 0),fun i j k a c=>by have:=c.a0;have:=c.a1;have:=c.b0;have:=c.b1;exact dD (aS 0x67e0c649120853a4a71a408214c92982a219a918921007 h a ‹_› ‹_› ‹_› this)⟩
theorem xE(h:ahi≤alo∨bhi≤blo):∀f,J5 A B f alo ahi blo bhi=[]:=by
 intro a
 induction a with
 |zero=>exact rfl
 |succ f b=>simp only [Ak,Aj];rw [P1 h];rfl
theorem Qc:∀(f f' alo ahi blo bhi:Nat),ahi-alo≤f→ahi-alo≤f'→J5 A B f alo ahi blo bhi=J5 A B f' alo ahi blo bhi:=by
 intro n
 induction n with
 |zero=>intro f';intro alo;intro ahi;intro blo;intro bhi;intro h;intro _;rw [xE (.inl (by exact aS aAt h)),xE (.inl (by exact aS aAt h))]
 |succ f b=>
  intro o
  cases o with
  |zero=>intro alo;intro ahi;intro blo;intro bhi;intro _;intro h;rw [xE (.inl (by exact aS aAt h)),xE (.inl (by exact aS aAt h))]
  |succ f'=>
   intro alo;intro ahi;intro blo;intro bhi;intro h;intro h';simp only [Ak,Aj];rcases e:Nd A B alo ahi blo bhi with ⟨i,j,k⟩;dsimp only;by_cases a:k=0
   ·simp only [if_pos a,if_pos a]
   ·have c:=Il e a;have:=c.a0;have:=c.a1;have d:=dU a;have g:=cG (fC d) c.a1;have l:=Dw c.a0 g;have m:=mO (hF c.a0 g) (hF c.a0 (fC d));rw [b f' alo i blo j (jF (cG l h)) (jF (cG l h')),b f' (i+k) ahi (j+k) bhi (jF (cG m h)) (jF (cG m h'))]
theorem Nv:∀(f alo ahi blo bhi:Nat)(t:T3),t∈J5 A B f alo ahi blo bhi→alo≤t.1∧t.1+t.2.2≤ahi∧blo≤t.2.1∧t.2.1+t.2.2≤bhi∧0<t.2.2:=by
 intro d
 induction d with
 |zero=>intro alo ahi blo bhi t h;simp [Ak,Aj]at h
 |succ f b=>
  intro alo ahi blo bhi t h;simp only [Ak,Aj]at h;rcases e:Nd A B alo ahi blo bhi with ⟨i,j,k⟩;rw [e]at h;dsimp only at h;by_cases a:k=0
  ·rw [if_pos a]at h;cases h
  ·rw [if_neg a]at h;have c:=Il e a;have:=c.a0;have:=c.a1;have:=c.b0;have:=c.b1;rcases cV.mp h with h|h
   ·have:=b alo i blo j t h;exact aS 0xd1426448462c6318a2e8c649105d18bc324bc3176648905d18a7494e53318c628ba31923417462f0c92f0c5d99204174629d25394c9220234890100a ‹_› ‹_› this
   ·rcases aR.mp h with rfl|h
    ·simp only;exact aS 0x210c52518208208062c6318a019253a005324a622468009220a4a7400a6494c448d001244174966007 a ‹_› ‹_› ‹_› this
    ·have:=b (i+k) ahi (j+k) bhi t h;exact aS 0xc1524468462c6318a29cc92f0c829cbb324bb30925d1905394c92980c6318a29cc92f0c829cbb324bb3208349746414e5324a6410291892100a ‹_› ‹_› this
theorem Tb:∀(f alo ahi blo bhi:Nat),(J5 A B f alo ahi blo bhi).Pairwise fun t u=>t.1<u.1:=by
 intro h
 induction h with
 |zero=>intro alo ahi blo bhi;simp [Ak,Aj]
 |succ f d=>
  intro alo ahi blo bhi;simp only [Ak,Aj];rcases e:Nd A B alo ahi blo bhi with ⟨i,j,k⟩;dsimp only;by_cases b:k=0
  ·rw [if_pos b];exact .nil
  ·rw [if_neg b];have c:=Il e b;have:=c.a0;have:=c.a1;have:=c.b0;have:=c.b1;refine lZ.mpr ⟨d alo i blo j,gE.mpr ⟨fun u a=>?_,d (i+k) ahi (j+k) bhi⟩,fun t l u a=>?_⟩
   ·have:=Nv f _ _ _ _ u a;simp only;exact aS 0x30c018a8416318c50cc92e8c8194e929d002992440c491200174966008 b this
   ·have g:=Nv f _ _ _ _ t l;rcases aR.mp a with rfl|a
    ·simp only;exact aS 0x263150c2c6318a119253a045324a62246810521007 g
    ·have:=Nv f _ _ _ _ u a;exact aS 0x4c231517660b18c628bc31925f9905e18be324be320ba314e92f4c82f0c5d9925d9905d186c6318a119253a045324a6224681052100d g this
noncomputable abbrev Q4:=Nat×Nat×Nat×Nat
def bl(A B:bH)(q:Q4):List T3:=J5 A B (q.2.1-q.1) q.1 q.2.1 q.2.2.1 q.2.2.2
theorem aL3:bl A B (alo,ahi,blo,bhi)=match Nd A B alo ahi blo bhi with
  |(i,j,k)=>if k=0 then[]else bl A B (alo,i,blo,j)++(i,j,k)::bl A B (i+k,ahi,j+k,bhi):=by
 rcases e:Nd A B alo ahi blo bhi with ⟨i,j,k⟩;dsimp only;refine (?_:J5 A B (ahi-alo) alo ahi blo bhi=_);by_cases h:ahi≤alo
 ·rw [xE (.inl h)];have:=P1 (A:=A) (B:=B) (alo:=alo) (ahi:=ahi) (blo:=blo) (bhi:=bhi) (.inl h);rw [e]at this;simp only [qE]at this;rw [if_pos this.2.2]
 ·obtain ⟨f,b⟩:∃f,ahi-alo=f+1:=⟨ahi-alo-1,aS 0x20a0a0a09491c241462b41c017492314cc704cc1002 h⟩;rw [b];simp only [Ak,Aj];rw [e];dsimp only;by_cases a:k=0
  ·rw [if_pos a,if_pos a]
  ·rw [if_neg a,if_neg a];have c:=Il e a;have:=c.a0;have:=c.a1;show _=J5 A B (i-alo) alo i blo j++(i,j,k)::J5 A B (ahi-(i+k)) (i+k) ahi (j+k) bhi;rw [Qc f (i-alo) alo i blo j (aS 0x108042200101080445e01062929809120a723a4b314eb41ca60ccc21ccc1005 b a this) (aS 0x8c520001),Qc f (ahi-(i+k)) (i+k) ahi (j+k) bhi (aS 0x84021100080840222f00831494e04906e92cc532d0729c33320830ccc1005 b a ‹_›) (aS 0x8c520001)]
theorem V0(h:ahi≤alo∨bhi≤blo):bl A B (alo,ahi,blo,bhi)=[]:=xE h _
def kt(t:T3):K3×V:=(((t.1:Int),(t.2.1:Int),(t.2.2:Int)),xM t)
theorem aA2:∀a:List T3,Pi kMt (a.map xM)=some (a.map kt):=by
 intro b
 induction b with
 |nil=>exact rfl
 |cons t r c=>rw [cC,U5,c];rfl
theorem Ws{b a:List T3}(c:b.Perm a)(d:a.Pairwise fun t u=>t.1<u.1)(g:a.length<64):Gz kMt (b.map xM)=some (a.map xM):=by
 unfold Gz;rw [aA2];have i:SK (a.map kt):=by unfold SK;rw [yO];refine d.imp fun {t u} h=>A2.mpr (.inl ?_);refine (?_:(t.1:Int)<(u.1:Int));exact aS Sh h
 have f:((b.map kt).map (·.1)).Nodup:=by
  have j:((a.map kt).map (·.1)).Nodup:=by rw [wE];refine yO.mpr (d.imp fun {t u} h e=>?_);have:=congrArg Prod.fst e;exact aS 0xc3195ea1a8141002 h this
  exact (((c.map kt).map (·.1)).nodup_iff).mpr j
 show (if _ then _ else _)=_;rw [if_pos ⟨f,by rw [bC,c.length_eq];exact g⟩];rw [D7 (By _ f) i ((C3 _).trans (c.map kt)),wE];rfl
section
open MineH (at_ bS fr)
theorem zN:∀l:List T3,cS (l.map xM)=true:=by
 intro a
 induction a with
 |nil=>exact rfl
 |cons _ r b=>exact b
def vQ(q:Q4):V:=.tup [vN q.1,vN q.2.1,vN q.2.2.1,vN q.2.2.2]
def vT(t:T3):V:=.tup [vN t.1,vN t.2.1,vN t.2.2]
theorem Zr:∀l:List Q4,cS (l.map vQ)=true:=by
 intro a
 induction a with
 |nil=>exact rfl
 |cons _ r b=>simp only [cC,cP,cO];rw [b];rfl
theorem Zp:∀l:List T3,cS (l.map vT)=true:=by
 intro a
 induction a with
 |nil=>exact rfl
 |cons _ r b=>simp only [cC,cP,cO];rw [b];rfl
open Classical in
def dFl(A B:bH):Bd:=fun c us=>ob (atC c) fun as=>aI (fun a=>aI fun b=>aI fun c'=>aI fun d=>aN (if Tk A B as∧A.length<200∧B.length<200∧0≤a∧a≤b∧b≤A.length∧0≤c'∧c'≤d∧d≤B.length then some (.attrs as,xM (Nd A B a.toNat b.toNat c'.toNat d.toNat))else aF)) us
open Classical in
theorem aCj(h:Tk A B as)(a:A.length<200)(b:B.length<200)(c:alo≤ahi)(d:ahi≤A.length)(e:blo≤bhi)(f:bhi≤B.length):
  dFl A B (.attrs as) [vN alo,vN ahi,vN blo,vN bhi]=some (.attrs as,xM (Nd A B alo ahi blo bhi)):=by
 show (if _ then _ else _)=_;rw [if_pos ⟨h,a,b,aS U1,aS ò c,aS ò d,aS U1,aS ò e,aS ò f⟩];rfl
open Classical in
theorem ň(G:Gd)(A B:bH):∀c0 us c1 r,cS us=true→dFl A B c0 us=some (c1,r)→pH c0∧qV (n+3) (.ref 196) c0 us (fun c i=>c=c1∧i=r):=fun c0 us c1 r p e=>by refine aDp e fun as e=>?_;refine Bo e fun a _ e=>?_;refine Bo e fun b _ e=>?_;refine Bo e fun c _ e=>?_;refine Bo e fun d _ e=>?_;refine oM e fun e=>?_;obtain ⟨j,e⟩:=iC e;obtain ⟨h,k,l,a0,f,m,c0,g,o⟩:=j;refine Jl e ?_;rintro rfl rfl;refine ⟨h.pure,?_⟩;have:=aNe (n:=n) G (alo:=a.toNat) (ahi:=b.toNat) (blo:=c.toNat) (bhi:=d.toNat) h (aS aKw f) (aS aD7 m) (aS aKw g) (aS aD7 o) k l;simp only [vN]at this;rwa[gS a0,gS (by exact aS 0xe31b04d6082c0320 a0 f:0≤b),gS c0,gS (by exact aS 0xe31b04d6082c0320 c0 g:0≤d)]at this
section
variable{A B:bH}{as:mH}
def sQ(A B:bH)(as:mH)(q:List Q4)(ms:List T3):St:=
 ⟨[(0,.inst 0),(1,vN A.length),(2,vN B.length),(3,.ref 1),(4,.ref 2)],[(2,.list (ms.map xM)),(1,.list (q.reverse.map vQ)),(0,.attrs as)],3⟩
def sB(A B:bH)(as:mH)(q:List Q4)(ms:List T3)(e:Q4)(t:T3):St:=
 ⟨[(0,.inst 0),(1,vN A.length),(2,vN B.length),(3,.ref 1),(4,.ref 2),(5,vN e.1),(6,vN e.2.1),(7,vN e.2.2.1),(8,vN e.2.2.2),(9,vN t.1),(10,vN t.2.1),(11,vN t.2.2),(12,xM t)],[(2,.list (ms.map xM)),(1,.list (q.reverse.map vQ)),(0,.attrs as)],3⟩
def sP(A B:bH)(as:mH)(q:List Q4)(ms:List T3)(e:Q4):St:=
 ⟨[(0,.inst 0),(1,vN A.length),(2,vN B.length),(3,.ref 1),(4,.ref 2),(5,vN e.1),(6,vN e.2.1),(7,vN e.2.2.1),(8,vN e.2.2.2)],[(2,.list (ms.map xM)),(1,.list (q.reverse.map vQ)),(0,.attrs as)],3⟩
def QOk(A B:bH)(q:List Q4):Prop:=∀e∈q,e.1≤e.2.1∧e.2.1≤A.length∧e.2.2.1≤e.2.2.2∧e.2.2.2≤B.length
noncomputable def mu(q:List Q4):Nat:=(q.map fun e=>2*(e.2.1-e.1)+1).sum
theorem Ku:∀q:List Q4,q.length≤mu q:=by
 intro a
 induction a with
 |nil=>exact bG _
 |cons e q b=>have:=b;simp only [mu,cC,List.sum_cons,cQ]at this⊢;exact aS 0x18c5280a0f0168c838121003 this
theorem Md(e:Q4)(q:List Q4):mu (e::q)=2*(e.2.1-e.1)+1+mu q:=by rfl
inductive JQ(A B:bH)(as:mH)(m:Nat)(τ:St):Prop
 |mk (q:List Q4) (ms:List T3) (e:τ=sQ A B as q ms) (k:QOk A B q) (u:m=mu q) (l:m≤500) (p:(ms++q.flatMap (bl A B)).Perm (bl A B (0,A.length,0,B.length)))
theorem aGb{q:List Q4}{a:List T3}(h:(a++q.flatMap (bl A B)).Perm (bl A B (0,A.length,0,B.length)))(b:(bl A B (0,A.length,0,B.length)).length<64):a.length<64:=by have:=h.length_eq;simp only [bK]at this;exact aS 0x58c558c1c2b0204156307003 b this
theorem aCz(p:Prop)[Decidable p]{x:Int}{y:Int}(h:x<y↔p):some (V.bool (decide (x<y)),σ)=some (V.bool (decide p),σ):=by
 congr 3
 exact decide_eq_decide.mpr h
theorem Ĝ(h:Tk A B as)(hA:A.length<200)(hB:B.length<200)(hl:(bl A B (0,A.length,0,B.length)).length<64){m:Nat}{P:Fl→iS}(hj:JQ A B as m τ)(hP:∀a:List T3,a.Perm (bl A B (0,A.length,0,B.length))→P .next (sQ A B as [] a)):
  GB (qB (aJ 3)) τ fun c τ'=>if c=true then Go (Dk (dFl A B) 3 τ') (Tf [0,1,2,3,4] 3 (JQ A B as) m P)else P .next τ':=by
 have I:lim=1048576:=rfl;obtain ⟨q,a,rfl,D,rfl,r,perm⟩:=hj;have de:∀k,Co k (.attrs as)=true:=fun k=>A8 h.pure;have zf:=aGb perm hl;have F:=Ku q;have t:∀(o:List Q4)(G:List T3)(τ:St),C1 [0,1,2,3,4] τ=sQ A B as o G→QOk A B o→mu o<mu q→(G++o.flatMap (bl A B)).Perm (bl A B (0,A.length,0,B.length))→V5 [0,1,2,3,4] 3 (JQ A B as) (mu q) τ:=fun o G τ e oh lt' vi=>
  ⟨_,mu o,mX e (by rfl) (dO (by decide) (eB (c:=.list (G.map xM)) (eM (zN _))) (dO (by decide) (eB (c:=.list (o.reverse.map vQ)) (eM (Zr _))) (dO (by decide) (eB (de 3)) iM))),lt',o,G,rfl,oh,rfl,aS 0x38c53cf7cc150029e7be6002 r lt',vi⟩
 cases q with
 |nil=>refine ⟨false,_,yQ (v:=.ref 1) (aT rfl) rfl,?_⟩;exact hP a (by simpa using perm)
 |cons e q=>
  obtain ⟨alo,ahi,blo,bhi⟩:=e;obtain ⟨o1,J,o3,L⟩:=D (alo,ahi,blo,bhi) aU;have Q:QOk A B q:=fun x hx=>D x (bB _ hx);rw [Md]at t r F;simp only at o1 J o3 L t r F;rw [cQ]at F;have R:(((alo,ahi,blo,bhi)::q).reverse.map vQ)=q.reverse.map vQ++[vQ (alo,ahi,blo,bhi)]:=by simp
  have vj:(q.reverse.map vQ++[vQ (alo,ahi,blo,bhi)]).length≤lim:=by simp;exact aS 0x1718a40838d28120f00e8c838d3cf7cc8120f00e8cbc6318c6386004 I r F
  refine ⟨true,sQ A B as ((alo,ahi,blo,bhi)::q) a,yQ (v:=.ref 1) (aT rfl) ?_,?_⟩
  ·refine (Ž (l:=((alo,ahi,blo,bhi)::q).reverse.map vQ) rfl (by rw [R];exact vj)).trans ?_;rw [R];simp
  unfold Dk;refine bR (dK (v:=vQ (alo,ahi,blo,bhi)) (τ:=sQ A B as q a) (τ':=sP A B as q a (alo,ahi,blo,bhi)) ?_ rfl ?_)
  ·refine sL (u:=.ref 1) (aT rfl) rfl bU ?_;show (if (((alo,ahi,blo,bhi)::q).reverse.map vQ).length≤lim then ((((alo,ahi,blo,bhi)::q).reverse.map vQ).getLast?).map (fun d=>(d,({sQ A B as ((alo,ahi,blo,bhi)::q) a with cells:=kX 1 (.list (((alo,ahi,blo,bhi)::q).reverse.map vQ).dropLast) (sQ A B as ((alo,ahi,blo,bhi)::q) a).cells}:St)))else aF)=_;rw [R,if_pos vj,List.getLast?_concat,Y5];rfl
  rcases T:Nd A B alo ahi blo bhi with ⟨i,j,k⟩;have p:=aL3 (A:=A) (B:=B) (alo:=alo) (ahi:=ahi) (blo:=blo) (bhi:=bhi);rw [T]at p;dsimp only at p;refine bR (dK (v:=xM (i,j,k)) (τ:=sP A B as q a (alo,ahi,blo,bhi)) (τ':=sB A B as q a (alo,ahi,blo,bhi) (i,j,k)) ?_ rfl ?_)
  ·have:=aCj h hA hB o1 J o3 L;rw [T]at this;exact Wh (τ:=sP A B as q a (alo,ahi,blo,bhi)) (τ':=sP A B as q a (alo,ahi,blo,bhi)) (i:=0) (c:=.attrs as) (c0:=.attrs as) (aT rfl) rfl rfl (aQ (aT rfl) (aQ (aT rfl) (aQ (aT rfl) (aQ (aT rfl) bU)))) rfl rfl this
  refine nP (gZ (b:=decide (k≠0)) (τ:=sB A B as q a (alo,ahi,blo,bhi) (i,j,k)) (yQ (v:=vN k) (aT rfl) ?_) ?_)
  ·show some ((k:Int) != 0)=_
   congr 1
   by_cases g:k=0
   ·subst g;rfl
   ·simp [g]
  by_cases g:k=0
  ·rw [fJ (by simpa using g)];rw [if_pos g]at p;refine iR ?_;refine t q a _ rfl Q (by exact aS 0x462a4010780746002) ?_;rw [mA,p]at perm;exact perm
  rw [iD g];rw [if_neg g]at p;have c:=Il T g;have W:=c.a0;have H:=c.a1;have cb0:=c.b0;have X:=c.b1;have fy:0<k:=dU g;let C:St:=⟨[(0,.inst 0),(1,vN A.length),(2,vN B.length),(3,.ref 1),(4,.ref 2),(5,vN alo),(6,vN ahi),(7,vN blo),(8,vN bhi),(9,vN i),(10,vN j),(11,vN k),(12,xM (i,j,k))],[(2,.list ((a++[(i,j,k)]).map xM)),(1,.list (q.reverse.map vQ)),(0,.attrs as)],3⟩;refine bR (mI (τ:=C) (sL (u:=.ref 2) (aT rfl) rfl (aQ (aT rfl) bU) ?_) ?_)
  ·refine (jE (l:=a.map xM) rfl (by simp;exact aS 0x2c62900558c1c2bc6318c6386002 I zf)).trans ?_;show some (V.none,_)=some (V.none,C);simp only [C,bX,cC,Gl];rfl
  have two:∀f:List Q4,(f=q∨f=(alo,i,blo,j)::q)→(f.flatMap (bl A B)).Perm (bl A B (alo,i,blo,j)++q.flatMap (bl A B))→mu f≤2*(i-alo)+1+mu q→QOk A B f→∀(s:St),s=(⟨[(0,.inst 0),(1,vN A.length),(2,vN B.length),(3,.ref 1),(4,.ref 2),(6,vN ahi),(8,vN bhi),(9,vN i),(10,vN j),(11,vN k)],[(2,.list ((a++[(i,j,k)]).map xM)),(1,.list (f.reverse.map vQ)),(0,.attrs as)],3⟩:St)→
    Go ((uK (mL (eE (bD Cc (bD fQ (aJ 9) (aJ 11)) (aJ 6))) (mL (eE (bD Cc (bD fQ (aJ 10) (aJ 11)) (aJ 8))) (fun σ=>some (true,σ)))) (tE (vE eY (aJ 3) (aK (eQ (aK (bD fQ (aJ 9) (aJ 11)) (aK (aJ 6) (aK (bD fQ (aJ 10) (aJ 11)) (aK (aJ 8) bI))))) bI))) (kY .next)) 3 s) (Tf [0,1,2,3,4] 3 (JQ A B as) (2*(ahi-alo)+1+mu q) P):=fun f _ pq N Y s hs=>by
   have zi:=Ku f;have O:∀{x y n m:Nat},lk s.loc x=some (vN n)→lk s.loc y=some (vN m)→bD fQ (aJ x) (aJ y) s=some (vN (n+m),s):=fun {x y n m} hx hy=>dC (aT hx) (aT hy) (by show some (V.int ((n:Int)+(m:Int)),_)=_;rw [show (n:Int)+(m:Int)=((n+m:Nat):Int) by exact aS õ];rfl);subst hs;have done:¬(i+k<ahi∧j+k<bhi)→(a++[(i,j,k)]++f.flatMap (bl A B)).Perm (bl A B (0,A.length,0,B.length)):=fun Z=>by have e2:bl A B (i+k,ahi,j+k,bhi)=[]:=V0 (by exact aS 0x2e18b52808c89404027498a2202350901005 Z);rw [mA,p,e2]at perm;refine Y6 ?_ perm;refine vJ.mpr fun x=>?_;have:=vJ.mp pq x;simp only [aDe,aIn,aIz]at this⊢;exact aS 0x7462b42048410c11a008410c35a041005 this
   refine nP (jN (gZ (b:=decide (i+k<ahi)) (kD (dC (O rfl rfl) (aT rfl) (aCz _ jW))) ?_));by_cases c1:i+k<ahi
   ·rw [iD c1];refine jN (gZ (b:=decide (j+k<bhi)) (kD (dC (O rfl rfl) (aT rfl) (aCz _ jW))) ?_);by_cases c2:j+k<bhi
    ·rw [iD c2];refine Em ?_;show Go _ _;refine mI (sL (u:=.ref 1) (aT rfl) rfl (aQ (hO (aQ (O rfl rfl) (aQ (aT rfl) (aQ (O rfl rfl) (aQ (aT rfl) bU)))) (by show (4:Nat)≤1048576;exact aS ù)) bU) (jE (l:=f.reverse.map vQ) rfl (by simp;exact aS 0x915141000100091512024564a29298bb328482f0c4497462ecc9414e83c01a317464f3df320a741e01d1978c6318c70c534cc21ccc1008 I r N zi c1))) ?_;refine t ((i+k,ahi,j+k,bhi)::f) (a++[(i,j,k)]) _ ?_ (fun x hx=>?_) ?_ ?_
     ·have:((i+k,ahi,j+k,bhi)::f).reverse.map vQ=f.reverse.map vQ++[vQ (i+k,ahi,j+k,bhi)]:=by simp
      simp only [sQ,this];rfl
     ·rcases aR.mp hx with rfl|hx
      ·exact ⟨by simp only;exact aS 0xc6291202050901003 c1,by simp only;exact aS Mj J,by simp only;exact aS 0xc6291202050901003 c2,by simp only;exact aS Mj L⟩
      ·exact Y x hx
     ·rw [Md];simp only;exact aS 0x800008000002000200008000020080000800000200800008000002000200008000020002000080000200105002200002001044422000020051520bb320f0068c82e8c83c03a328a6414e34a0bb320f0168c5d192323a4b314f330c93320811ccc1006 g W N c1
     ·rw [mA,p]at perm;refine Y6 ?_ perm;refine vJ.mpr fun x=>?_;have:=vJ.mp pq x;rw [mA];simp only [aDe,aIn,aIz]at this⊢;exact aS 0x7462b42048410a608d08014c8410c35a041006 this
    ·rw [fJ c2];refine iR ?_;exact t f (a++[(i,j,k)]) _ rfl Y (by exact aS 0x4111001010401022064a2a414e83c01a314ca220ba3092829d0780746299221ccc21ccc1006 W N c1) (done fun z=>c2 z.2)
   ·rw [fJ c1];refine iR ?_;exact t f (a++[(i,j,k)]) _ rfl Y (by exact aS 0x202800020080020000200820080002001111280020051520ba320f0068c53a505d19078074629d24414c24886e92cc534cc21ccc1006 g W H N) (done fun z=>c1 z.1)
  refine bR (nP (jN (gZ (b:=decide (alo<i)) (τ:=C) (kD (dC (aT rfl) (aT rfl) (aCz _ jW))) ?_)));have nw:¬(alo<i∧blo<j)→Go (oD [0,1,2,3,4,6,8,9,10,11] (uK (mL (eE (bD Cc (bD fQ (aJ 9) (aJ 11)) (aJ 6))) (mL (eE (bD Cc (bD fQ (aJ 10) (aJ 11)) (aJ 8))) (fun σ=>some (true,σ)))) (tE (vE eY (aJ 3) (aK (eQ (aK (bD fQ (aJ 9) (aJ 11)) (aK (aJ 6) (aK (bD fQ (aJ 10) (aJ 11)) (aK (aJ 8) bI))))) bI))) (kY .next)) 3 C) (Tf [0,1,2,3,4] 3 (JQ A B as) (2*(ahi-alo)+1+mu q) P):=fun Z=>by refine fW rfl ?_;have e1:bl A B (alo,i,blo,j)=[]:=V0 (by exact aS 0x2e18b5221a4017498a18941004 Z);exact two q (.inl rfl) (by rw [e1];exact .refl _) (by exact aS 0x46294010780746002) Q _ rfl
  by_cases c1:alo<i
  ·rw [iD c1];refine jN (gZ (b:=decide (blo<j)) (τ:=C) (kD (dC (aT rfl) (aT rfl) (aCz _ jW))) ?_);by_cases c2:blo<j
   ·rw [iD c2];refine Em ?_;show Go _ _;refine mI (sL (u:=.ref 1) (aT rfl) rfl (aQ (hO (aQ (aT rfl) (aQ (aT rfl) (aQ (aT rfl) (aQ (aT rfl) bU)))) (by show (4:Nat)≤1048576;exact aS ù)) bU) (jE (l:=q.reverse.map vQ) rfl (by simp;exact aS 0x5c62900d28120f00e8c838d3cf7cc8120f00e8cbc6318c6386004 I r F))) ?_;show Go _ _;refine fW rfl ?_;refine two ((alo,i,blo,j)::q) (.inr rfl) (.refl _) (by rw [Md];exact bG _) (fun x hx=>?_) _ ?_
    ·rcases aR.mp hx with rfl|hx
     ·exact ⟨by simp only;exact aS 0xc62908141002 c1,by simp only;exact aS aDt J H,by simp only;exact aS 0xc62908141002 c2,by simp only;exact aS aDt L X⟩
     ·exact Q x hx
    ·have:((alo,i,blo,j)::q).reverse.map vQ=q.reverse.map vQ++[vQ (alo,i,blo,j)]:=by simp
     rw [this];rfl
   ·rw [fJ c2];exact iR (nw fun z=>c2 z.2)
  ·rw [fJ c1];exact iR (nw fun z=>c1 z.1)
end
end
section
open MineH (at_ bS fr)
section
variable{A B:bH}{as:mH}
def sN(A B:bH)(as:mH)(x:List (Nat×V))(cur:T3)(b8:List T3):St:=
 ⟨(0,.inst 0)::(1,vN A.length)::(2,vN B.length)::(x++[(13,vN cur.1),(14,vN cur.2.1),(15,vN cur.2.2),(16,.ref 1)]),[(1,.list (b8.map vT)),(0,.attrs as)],2⟩
inductive JN(A B:bH)(as:mH)(bs:List T3)(p:Nat)(τ:St):Prop
 |mk (x:List (Nat×V)) (cur:T3) (b8:List T3) (h:x=[]∨x=[(4,V.lst (bs.map xM))]) (e:τ=sN A B as x cur b8) (l:b8.length≤p) (g:b8++glue cur (bs.drop p)=glue (0,0,0) bs)
theorem Xy:glue (i,j,k) ((a,b,c)::r)=if i+k=a∧j+k=b then glue (i,j,k+c) r else if k=0 then glue (a,b,c) r else (i,j,k)::glue (a,b,c) r:=rfl
theorem Ğ:glue (i,j,k) []=if k=0 then[]else[(i,j,k)]:=rfl
theorem ĝ(P:∀k,Co k (.attrs as)=true)(Q:h.length<64)(R:h[p]?=some t)(T:JN A B as h p τ):
  ∃τ',X0 [bQ 17,bQ 18,bQ 19] (xM t) τ=some τ'∧Go (Ia (dFl A B) 2 τ') (Ao [0,1,2,13,14,15,16] 2 (JN A B as h (p+1)) (fun _=>False) (fun _ _=>False)):=by
 obtain ⟨x,⟨i,j,d⟩,o,hx,rfl,H,C⟩:=T;obtain ⟨f,g,tk⟩:=t;obtain ⟨L,W⟩:=cW.mp R;have hd:h.drop p=(f,g,tk)::h.drop (p+1):=by simp only [lT L,W]
 simp only [hd,Xy]at C;have J:∀(I:T3)(F:List T3)(τ:St),C1 [0,1,2,13,14,15,16] τ=sN A B as [] I F→F.length≤p+1→F++glue I (h.drop (p+1))=glue (0,0,0) h→I6 [0,1,2,13,14,15,16] 2 (JN A B as h (p+1)) τ:=fun I F τ e X Y=>
  ⟨_,mX e (by rfl) (dO (by decide) (eB (c:=.list (F.map vT)) (eM (Zp _))) (dO (by decide) (eB (P 2)) iM)),[],I,F,.inl rfl,rfl,X,Y⟩
 have N:∀(a b c:Nat),(decide ((a:Int)+(b:Int)=(c:Int)))=decide (a+b=c):=fun a b c=>decide_eq_decide.mpr (aMv (m:=a+b));rcases hx with rfl|rfl;all_goals
  refine ⟨_,rfl,?_⟩;unfold Ia;refine nP (jN (gZ (b:=decide (i+d=f)) (kD (dC (dC (aT rfl) (aT rfl) rfl) (aT rfl) ((Mz _ _ _).trans (by rw [N])))) ?_));have O:¬(i+d=f∧j+d=g)→∀s:St,(s=⟨(0,.inst 0)::(1,vN A.length)::(2,vN B.length)::([]++[(13,vN i),(14,vN j),(15,vN d),(16,.ref 1),(17,vN f),(18,vN g),(19,vN tk)]),[(1,.list (o.map vT)),(0,.attrs as)],2⟩∨s=⟨(0,.inst 0)::(1,vN A.length)::(2,vN B.length)::([(4,V.lst (h.map xM))]++[(13,vN i),(14,vN j),(15,vN d),(16,.ref 1),(17,vN f),(18,vN g),(19,vN tk)]),[(1,.list (o.map vT)),(0,.attrs as)],2⟩)→
    Go ((dP (uK (qB (aJ 15)) (tE (vE eY (aJ 16) (aK (eQ (aK (aJ 13) (aK (aJ 14) (aK (aJ 15) bI)))) bI))) (kY .next)) (oD [0,1,2,16,17,18,19] (eS (eQ (aK (aJ 17) (aK (aJ 18) (aK (aJ 19) bI)))) (Ge [bQ 15,bQ 14,bQ 13])))) 2 s) (Ao [0,1,2,13,14,15,16] 2 (JN A B as h (p+1)) (fun _=>False) (fun _ _=>False)):=fun Z s y=>by
   rw [if_neg Z]at C;have G:lk s.loc 15=some (vN d):=by rcases y with rfl|rfl<;>rfl
   refine bR (nP (gZ (b:=decide (d≠0)) (τ:=s) (yQ (v:=vN d) (aT G) ?_) ?_))
   ·show some ((d:Int) != 0)=_
    congr 1
    by_cases D:d=0
    ·subst D;rfl
    ·simp [D]
   by_cases D:d=0
   ·rw [fJ (by simpa using D)];rw [if_pos D]at C;refine iR ?_;refine fW (σ':=⟨[(0,.inst 0),(1,vN A.length),(2,vN B.length),(16,.ref 1),(17,vN f),(18,vN g),(19,vN tk)],[(1,.list (o.map vT)),(0,.attrs as)],2⟩) (by rcases y with rfl|rfl<;>rfl) ?_;refine dK (v:=vT (f,g,tk)) (hO (aQ (aT rfl) (aQ (aT rfl) (aQ (aT rfl) bU))) (by exact aS Cz)) rfl ?_;exact J (f,g,tk) o _ rfl (aS Sf H) C
   ·rw [iD D];rw [if_neg D]at C;refine mI (τ:={s with cells:=[(1,.list ((o++[(i,j,d)]).map vT)),(0,.attrs as)]}) (sL (u:=.ref 1) (us:=[vT (i,j,d)]) (l:=o.map vT) (τ:=s) (τ':=s) (aT (by rcases y with rfl|rfl<;>rfl)) (by rcases y with rfl|rfl<;>rfl) (aQ (hO (aQ (aT (by rcases y with rfl|rfl<;>rfl)) (aQ (aT (by rcases y with rfl|rfl<;>rfl)) (aQ (aT G) bU))) (by exact aS Cz)) bU) ((jE (l:=o.map vT) (by rcases y with rfl|rfl<;>rfl) (by simp;exact aS 0x3718a4225006918978c6318c70c156307004 Q (rfl:lim=1048576) H L)).trans (by rw [bX];rcases y with rfl|rfl<;>rfl))) ?_;refine fW (σ':=⟨[(0,.inst 0),(1,vN A.length),(2,vN B.length),(16,.ref 1),(17,vN f),(18,vN g),(19,vN tk)],[(1,.list ((o++[(i,j,d)]).map vT)),(0,.attrs as)],2⟩) (by rcases y with rfl|rfl<;>rfl) ?_;refine dK (v:=vT (f,g,tk)) (hO (aQ (aT rfl) (aQ (aT rfl) (aQ (aT rfl) bU))) (by exact aS Cz)) rfl ?_;refine J (f,g,tk) (o++[(i,j,d)]) _ rfl (by simp;exact aS Mj H) ?_;rw [iJ];exact C
  by_cases c1:i+d=f
  ·rw [iD c1];refine jN (gZ (b:=decide (j+d=g)) (kD (dC (dC (aT rfl) (aT rfl) rfl) (aT rfl) ((Mz _ _ _).trans (by rw [N])))) ?_);by_cases c2:j+d=g
   ·rw [iD c2];refine Em ?_;rw [if_pos ⟨c1,c2⟩]at C;refine Su (old:=vN d) (v:=vN tk) (r:=vN (d+tk)) rfl (aT rfl) Lq ?_;exact J (i,j,d+tk) o _ rfl (aS Sf H) C
   ·rw [fJ c2];exact O (fun z=>c2 z.2) _ (by first|exact .inl rfl|exact .inr rfl)
  ·rw [fJ c1];exact O (fun z=>c1 z.1) _ (by first|exact .inl rfl|exact .inr rfl)
theorem aAy:∀l:List T3,nF æ (l.map vT)=some (l.map xM):=by
 intro a
 induction a with
 |nil=>exact rfl
 |cons t r b=>rw [cC];simp only [A1,A0];rw [b];rfl
theorem Pq:∀(d:List T3)(c:T3),(glue c d).length≤d.length+1:=by
 intro g
 induction g with
 |nil=>intro h;obtain ⟨i,j,k⟩:=h;simp only [C8,C7];split<;>simp
 |cons l r a=>
  obtain ⟨e,f,b⟩:=l;intro m;obtain ⟨i,j,k⟩:=m;simp only [C8,C7];split
  ·have:=a (i,j,k+b);simp;exact aS aGp this
  ·split
   ·have:=a (e,f,b);simp;exact aS aGp this
   ·have:=a (e,f,b);simp;exact aS 0xc62941c204a0e1002 this
theorem è:mbs A B=glue (0,0,0) (bl A B (0,A.length,0,B.length))++[(A.length,B.length,0)]:=rfl
theorem aBp(h:Tk A B as)(jt:nM as (aC "matching_blocks")=some .none)(F:A.length<200)(W:B.length<200)(y:(bl A B (0,A.length,0,B.length)).length<64):
  Go (Ħ (dFl A B) 1 ⟨[(0,.inst 0)],[(0,.attrs as)],1⟩) fun f τ=>f=.ret (xP A B)∧lk τ.cells 0=some (.attrs (iK (aC "matching_blocks") (xP A B) as)):=by
 have I:lim=1048576:=rfl;have X:∀k,Co k (.attrs as)=true:=fun k=>A8 h.pure;let G:St:=⟨[(0,.inst 0)],[(0,.attrs as)],1⟩;refine (?_:Go (Ħ (dFl A B) 1 G) _);refine bR (H0 ?_);refine bR (zQ (τ:=G) (kD (dC (mK (aT rfl) rfl jt rfl) rfl rfl)) (iR ?_));refine fW (σ':=G) rfl ?_;let s1:St:=⟨[(0,.inst 0),(1,vN A.length),(2,vN B.length)],[(0,.attrs as)],1⟩;refine bR (dK (v:=.tup [vN A.length,vN B.length]) (τ:=G) (τ':=⟨[(0,.inst 0),(2,vN B.length),(1,vN A.length)],[(0,.attrs as)],1⟩) (hO (aQ (kL (aQ (mK (aT rfl) rfl h.a rfl) bU) (wB A F _)) (aQ (kL (aQ (mK (aT rfl) rfl h.b rfl) bU) (wB B W _)) bU)) (by refine (?_:(2:Nat)≤1048576);simp)) rfl ?_);refine bR (dK (v:=.ref 1) (τ:=⟨[(0,.inst 0),(2,vN B.length),(1,vN A.length)],[(1,.list [vQ (0,A.length,0,B.length)]),(0,.attrs as)],2⟩) (pX (τ:=⟨[(0,.inst 0),(2,vN B.length),(1,vN A.length)],[(0,.attrs as)],1⟩) (vs:=[vQ (0,A.length,0,B.length)]) (aQ (v:=vQ (0,A.length,0,B.length)) (hO (aQ (v:=vN 0) rfl (aQ (v:=vN A.length) (aT rfl) (aQ (v:=vN 0) rfl (aQ (v:=vN B.length) (aT rfl) bU)))) (by refine (?_:(4:Nat)≤1048576);exact aS ù)) bU) (by exact aS Xc)) rfl ?_);refine bR (dK (v:=.ref 2) (pX bU (by exact aS Ks)) rfl ?_);refine fW (σ':=sQ A B as [(0,A.length,0,B.length)] []) rfl ?_;have wl:Go (qA [0,1,2,3,4] (qB (aJ 3)) (Dk (dFl A B)) 1 (sQ A B as [(0,A.length,0,B.length)] [])) fun f τ=>f=.next∧∃a:List T3,a.Perm (bl A B (0,A.length,0,B.length))∧τ=sQ A B as [] a:=by
  refine C6 (JQ A B as) (2*A.length+1) (by exact aS 0x125156318c631c320f0068cac6766001 F) (by show (1:Nat)≤3;decide) ⟨_,_,rfl,fun e he=>?_,?_,by exact aS 0x12514f3df320f0068cac6766001 F,?_⟩ (fun m τ J=>Ĝ (P:=fun f τ=>f=.next∧∃a:List T3,a.Perm (bl A B (0,A.length,0,B.length))∧τ=sQ A B as [] a) h F W y J (fun a L=>⟨rfl,a,L,rfl⟩))
  ·rw [aM.mp he];exact ⟨cJ _,bG _,cJ _,bG _⟩
  ·simp [mu]
  ·simp
 refine bR (wl.mono ?_);rintro _ _ ⟨rfl,a,L,rfl⟩;show Go _ _;let N:St:=⟨[(0,.inst 0),(1,vN A.length),(2,vN B.length),(4,.ref 2)],[(2,.list (a.map xM)),(1,.list []),(0,.attrs as)],3⟩;refine fW (σ':=N) rfl ?_;unfold Pv;have vm:aMp (fun t u:T3=>t.1<u.1) (bl A B (0,A.length,0,B.length)):=Tb _ _ _ _ _;generalize O:bl A B (0,A.length,0,B.length)=c at *;let s3:St:=⟨[(0,.inst 0),(1,vN A.length),(2,vN B.length),(4,.ref 2)],[(2,.list (c.map xM)),(1,.list []),(0,.attrs as)],3⟩;refine bR (mI (τ:=s3) (sL (u:=.ref 2) (τ:=N) (τ':=N) (us:=[]) (l:=a.map xM) (aT rfl) rfl bU (by show ob (Gz kMt (a.map xM)) _=_;rw [Ws L vm y];rfl)) ?_);let s4:St:=⟨[(0,.inst 0),(1,vN A.length),(2,vN B.length),(4,.lst (c.map xM))],[(0,.attrs as)],1⟩;refine Ě (σ':=s4) (S1 (cU rfl (cU rfl (cU rfl (cU (wT (by decide) rfl (zN _)) rfl)))) (lH (by decide) (lH (by decide) (dO (by decide) (eB (X 1)) iM)))) ?_;refine bR (dK rfl rfl ?_);refine bR (dK (v:=.ref 1) (pX bU (by show (0:Nat)≤1048576;exact aS Ks)) rfl ?_);refine fW (σ':=sN A B as [(4,.lst (c.map xM))] (0,0,0) []) rfl ?_;refine bR (uW (fun _=>False) (JN A B as c) (ds:=c.map xM) (τ:=sN A B as [(4,.lst (c.map xM))] (0,0,0) []) (vM (aT rfl) (zN _)) (jG _) ⟨_,_,_,.inr rfl,rfl,bG _,rfl⟩ (fun i md v z J=>?_) (fun τ' hd=>?_))
 ·rw [fK]at z
  cases Q:c[i]? with
  |none=>rw [Q]at z;exact hU z
  |some t=>rw [Q]at z;refine nW z ?_;rintro rfl;obtain ⟨τ',e,g⟩:=ĝ X y Q J;refine ⟨τ',e,g.mono fun f τ p=>?_⟩;cases f<;>first|exact p|exact p.elim
 ·obtain ⟨x,⟨R,T,d⟩,C,hx,rfl,Y,r⟩:=hd.resolve_right id;rw [bC]at Y r;rw [mQ,Ğ]at r;show Go _ _;refine fW (σ':=sN A B as [] (R,T,d) C) (by rcases hx with rfl|rfl<;>rfl) ?_;unfold Pu;have fin:∀(o:List T3),o=glue (0,0,0) c→∀s:St,C1 [0,1,2,16] s=⟨[(0,.inst 0),(1,vN A.length),(2,vN B.length),(16,.ref 1)],[(1,.list (o.map vT)),(0,.attrs as)],2⟩→Go ((oD [0,1,2,16] (dP (tE (vE eY (aJ 16) (aK (eQ (aK (aJ 1) (aK (aJ 2) (aK (gK (.int 0)) bI)))) bI))) (dP (eS (ģ (aJ 16)) (Dh (aC "matching_blocks") (aJ 0))) (uA (rD (aC "matching_blocks") (aJ 0)))))) 1 s) fun f τ=>f=.ret (xP A B)∧lk τ.cells 0=some (.attrs (iK (aC "matching_blocks") (xP A B) as)):=fun o Z s hs=>by
   have wb:o.length≤65:=by rw [Z];have:=Pq c (0,0,0);exact aS 0x38c539c1c2941c0156307002 y this
   refine fW hs ?_;have D:xP A B=.lst ((o++[(A.length,B.length,0)]).map xM):=by unfold xP;rw [è,O,Z]
   let H:St:=⟨[(0,.inst 0),(1,vN A.length),(2,vN B.length),(16,.ref 1)],[(1,.list ((o++[(A.length,B.length,0)]).map vT)),(0,.attrs as)],2⟩;refine bR (mI (τ:=H) (sL (u:=.ref 1) (us:=[vT (A.length,B.length,0)]) (l:=o.map vT) (aT rfl) rfl (aQ (hO (aQ (aT rfl) (aQ (aT rfl) (aQ rfl bU))) (by show (3:Nat)≤1048576;exact aS Cz)) bU) ((jE (l:=o.map vT) rfl (by simp;exact aS 0x2c62900539c1c2bc6318c6386002 I wb)).trans (by simp only [H,bX];rfl))) ?_);refine bR (dK (v:=xP A B) (τ:=H) (τ':=⟨[(0,.inst 0),(1,vN A.length),(2,vN B.length),(16,.ref 1)],[(1,.list ((o++[(A.length,B.length,0)]).map vT)),(0,.attrs (iK (aC "matching_blocks") (xP A B) as))],2⟩) ?_ (aFc (i:=0) (aT rfl) rfl) ?_)
   ·rw [D];exact aI7 (τ:=H) (u:=.ref 1) (aT rfl) rfl (aAy _) (by simp;exact aS 0xb18a40838539c1c2bc6318c6386002 I wb)
   ·exact qQ (mK (n:=0) (aT rfl) rfl (by rw [kM,if_pos rfl]) (by rw [D];rfl)) ⟨rfl,rfl⟩
  refine bR (nP (gZ (b:=decide (d≠0)) (yQ (v:=vN d) (aT rfl) ?_) ?_))
  ·show some ((d:Int) != 0)=_
   congr 1
   by_cases j:d=0
   ·subst j;rfl
   ·simp [j]
  by_cases j:d=0
  ·rw [fJ (by simpa using j)];rw [if_pos j,eO]at r;exact iR (fin C r _ rfl)
  ·rw [iD j];rw [if_neg j]at r;refine mI (sL (u:=.ref 1) (us:=[vT (R,T,d)]) (l:=C.map vT) (aT rfl) rfl (aQ (hO (aQ (aT rfl) (aQ (aT rfl) (aQ (aT rfl) bU))) (by show (3:Nat)≤1048576;exact aS Cz)) bU) (jE (l:=C.map vT) rfl (by simp;exact aS 0x2e314804908958c1c2bc6318c6386003 I y Y))) ?_;refine fin (C++[(R,T,d)]) r _ ?_;rw [bX];rfl
theorem ě(c:∀p∈as,p.2.pure=true)(a:nM as (aC "matching_blocks")=some (xP A B)):
  Go (Ħ (dFl A B) 1 ⟨[(0,.inst 0)],[(0,.attrs as)],1⟩) fun f τ=>f=.ret (xP A B)∧lk τ.cells 0=some (.attrs as):=by
 let b:St:=⟨[(0,.inst 0)],[(0,.attrs as)],1⟩;refine (?_:Go (Ħ (dFl A B) 1 b) _);refine bR (H0 ?_);refine bR (Ss (τ:=b) (kD (dC (mK (aT rfl) rfl a rfl) rfl rfl)) ?_);exact qQ (mK (aT rfl) rfl a rfl) ⟨rfl,rfl⟩
end
section
variable{n:Nat}
theorem uG(A B:bH):(xP A B).pure=true:=zN _
end
end
section
set_option backward.match.sparseCases false
open MineH (at_ bS fr)
def U7:nX→Bool
 |some .none=>true
 |_=>false
def gA(A B:bH)(as:mH):mH:=if U7 (nM as (aC "matching_blocks"))=true then iK (aC "matching_blocks") (xP A B) as else as
structure Fv(A B:bH)(as:mH):Prop where
 at_:Tk A B as
 mb:nM as (aC "matching_blocks")=some .none∨nM as (aC "matching_blocks")=some (xP A B)
 la:A.length<200
 lb:B.length<200
 few:(bl A B (0,A.length,0,B.length)).length<64
section
variable{n:Nat}
theorem aKa(G:Gd)(h:Fv A B as):qV (n+4) (.ref 203) (.attrs as) [] (fun c r=>c=.attrs (gA A B as)∧r=xP A B):=by
 refine vR (fd:=iY MineH.o203v0) (o:=MineH.o203v0) (tab:=Re) (body:=bS (at_ [5,7])) (aLy w.params) (G.K 203 _ (by kernel_rfl)) rfl G.lim (codeRec_of G.K (by kernel_rfl)) rfl (fun vs h=>?_) (by refine (?_:(1:Nat)≤20);decide) h.at_.pure (fun L=>?_) rfl
 ·revert vs;exact ll1 fun _=>by kernel_rfl
 ·rcases h.mb with a|a
  ·obtain ⟨f,τ,e,rfl,b⟩:=aBp h.at_ a h.la h.lb h.few;refine jC (aEj G (ň G A B) 1 _ _ _ e) ?_;rintro _ _ ⟨rfl,rfl⟩;have d:=kG (s:=aC "matching_blocks") (uG A B) h.at_.pure;exact ⟨_,_,_,b,rW d,d,eA (uG A B),uG A B,by unfold gA;rw [a];rfl,rfl⟩
  ·obtain ⟨f,τ,e,rfl,b⟩:=ě h.at_.pure a;refine jC (aEj G (ň G A B) 1 _ _ _ e) ?_;rintro _ _ ⟨rfl,rfl⟩;exact ⟨_,_,_,b,rW h.at_.pure,h.at_.pure,eA (uG A B),uG A B,by unfold gA;rw [a];rfl,rfl⟩
end
open Classical in
def dG(A B:bH):mH→Option (mH×V):=fun as=>if Fv A B as then some (gA A B as,xP A B)else aF
theorem Fv.pin(h:Fv A B as)(a:dF):Fv A B ((aC "opcodes",.fn (.ref a))::as):=by
 refine ⟨⟨fun p b=>?_,?_,?_,?_,?_⟩,?_,h.la,h.lb,h.few⟩
 ·rcases aR.mp b with rfl|b
  ·rfl
  ·exact h.at_.pure p b
 all_goals rw [lI (by decide)]
 ·exact h.at_.a
 ·exact h.at_.b
 ·exact h.at_.bjunk
 ·exact h.at_.b2j
 ·exact h.mb
theorem aEv(G:Gd)(A B:bH):∀as d r,(∀p∈as,p.2.pure=true)→dG A B as=some (d,r)→∀a,qV (n+4) (.ref 203) (.attrs ((aC "opcodes",.fn (.ref a))::as)) [] (fun c g=>(∃f,c=.attrs f∧(aC "opcodes",V.fn (.ref a))∈f∧∀p∈d,p∈f)∧g=r):=fun as d r b e a=>by
 unfold dG at e;split at e
 ·rename_i h;refine Jl e ?_;rintro rfl rfl;have:=aKa (n:=n) G (h.pin a);refine fun A' Y i tk x c vs a1 j k l m o s t u=>bL (this A' Y i tk x c vs a1 j k l m o s t u) (fun v N p=>?_) fun _ _ z=>z;refine nn fun y=>?_;obtain ⟨h',C,c1,r,e,D,F,H,I,J,L,rfl,rfl⟩:=p;refine y ?_;refine ⟨h',C,_,_,e,D,F,H,I,J,L,⟨_,rfl,?_,?_⟩,rfl⟩
  ·unfold gA;split
   ·refine bB _ ?_;exact aU
   ·exact aU
  ·unfold gA;rw [lI (by decide)];split
   ·intro p b;rcases aR.mp b with rfl|b
    ·exact aU
    ·refine bB _ ?_;simp only [Nm,Nl];rw [if_neg (pI (by decide))];exact bB _ b
   ·exact fun p b=>bB _ b
 ·exact hU e
section
variable{A B:bH}{as:mH}
theorem uL:∀l:List Qm,cS (l.map Ch)=true:=by
 intro a
 induction a with
 |nil=>exact rfl
 |cons _ r b=>exact b
theorem uF(A B:bH):(xO A B).pure=true:=uL _
def sG(as:mH)(x:List (Nat×V))(i j:Nat)(b8:List Qm):St:=
 ⟨x++[(1,vN i),(2,vN j),(3,.ref 1)],[(1,.list (b8.map Ch)),(0,.attrs ((aC "opcodes",.ref 1)::as))],2⟩
inductive JG(as:mH)(bs:List T3)(p:Nat)(τ:St):Prop
 |mk (x:List (Nat×V)) (i j:Nat) (b8:List Qm) (h:x=[]∨x=[(0,V.inst 0)]) (e:τ=sG as x i j b8) (l:b8.length≤2*p) (g:b8++wV i j (bs.drop p)=wV 0 0 bs)
theorem Ko:wV i j ((a,b,k)::r)=(if i<a∧j<b then[(mZ.replace,i,a,j,b)]else if i<a then[(mZ.delete,i,a,j,b)]else if j<b then[(mZ.insert,i,a,j,b)]else[])++
   (if k=0 then[]else[(mZ.equal,a,a+k,b,b+k)])++wV (a+k) (b+k) r:=rfl
theorem Z0(a:1<k)(b:∀p∈as,p.2.pure=true):Co k (.attrs ((aC "opcodes",.ref 1)::as))=true:=by refine (?_:(zE _ _)=true);simp only [eT,fU];exact ⟨by simp [Gy,a],A8 b⟩
theorem ę{d:mH→Option (mH×V)}(ze:∀p∈as,p.2.pure=true)(Z:m.length<1000)(P:m[p]?=some t)(hj:JG as m p τ):
  ∃τ',X0 [bQ 4,bQ 5,bQ 6] (xM t) τ=some τ'∧Go (H9 d 2 τ') (Ao [1,2,3] 2 (JG as m (p+1)) (fun _=>False) (fun _ _=>False)):=by
 have bp:lim=1048576:=rfl;obtain ⟨x,i,j,r,hx,rfl,Q,H⟩:=hj;obtain ⟨a,g,k⟩:=t;obtain ⟨R,ep⟩:=cW.mp P;have hd:m.drop p=(a,g,k)::m.drop (p+1):=by simp only [lT R,ep]
 simp only [hd,Ko]at H;have cm:∀(J L:Nat)(G:List Qm)(τ:St),C1 [1,2,3] τ=sG as [] J L G→G.length≤2*(p+1)→G++wV J L (m.drop (p+1))=wV 0 0 m→I6 [1,2,3] 2 (JG as m (p+1)) τ:=fun J L G τ e T I=>
  ⟨_,mX e (by rfl) (dO (by decide) (eB (c:=.list (G.map Ch)) (eM (uL _))) (dO (by decide) (eB (Z0 (by decide) ze)) iM)),[],J,L,G,.inl rfl,rfl,T,I⟩
 let F:jY→List Qm→St:=fun h o=>⟨[(1,vN i),(2,vN j),(3,.ref 1),(4,vN a),(5,vN g),(6,vN k),(7,.str h)],[(1,.list (o.map Ch)),(0,.attrs ((aC "opcodes",.ref 1)::as))],2⟩;have rest:∀(o:List Qm),o.length≤2*p+1→o++((if k=0 then[]else[(mZ.equal,a,a+k,g,g+k)])++wV (a+k) (g+k) (m.drop (p+1)))=wV 0 0 m→∀s:St,C1 [3,4,5,6] s=⟨[(3,.ref 1),(4,vN a),(5,vN g),(6,vN k)],[(1,.list (o.map Ch)),(0,.attrs ((aC "opcodes",.ref 1)::as))],2⟩→
   Go ((oD [3,4,5,6] (dP (eS (eQ (aK (bD fQ (aJ 4) (aJ 6)) (aK (bD fQ (aJ 5) (aJ 6)) bI))) (Ge [bQ 2,bQ 1])) (uK (qB (aJ 6)) (tE (vE eY (aJ 3) (aK (eQ (aK (gK (.str (aC "equal"))) (aK (aJ 4) (aK (aJ 1) (aK (aJ 5) (aK (aJ 2) bI)))))) bI))) (kY .next)))) 2 s) (Ao [1,2,3] 2 (JG as m (p+1)) (fun _=>False) (fun _ _=>False)):=fun o W N s y=>by
  refine fW y ?_;let O:St:=⟨[(3,.ref 1),(4,vN a),(5,vN g),(6,vN k),(2,vN (g+k)),(1,vN (a+k))],[(1,.list (o.map Ch)),(0,.attrs ((aC "opcodes",.ref 1)::as))],2⟩;refine bR (dK (v:=.tup [vN (a+k),vN (g+k)]) (τ':=O) (hO (aQ (dC (aT rfl) (aT rfl) Q6) (aQ (dC (aT rfl) (aT rfl) Q6) bU)) (by exact aS Fm)) rfl ?_);refine nP (gZ (b:=decide (k≠0)) (τ:=O) (yQ (v:=vN k) (aT rfl) ?_) ?_)
  ·show some ((k:Int) != 0)=_
   congr 1
   by_cases C:k=0
   ·subst C;rfl
   ·simp [C]
  by_cases C:k=0
  ·rw [fJ (by simpa using C)];rw [if_pos C,hG]at N;refine iR ?_;exact cm (a+k) (g+k) o _ rfl (aS 0x318a608387460250780746002 W) N
  ·rw [iD C];rw [if_neg C]at N;refine mI (sL (u:=.ref 1) (us:=[Ch (mZ.equal,a,a+k,g,g+k)]) (l:=o.map Ch) (τ:=O) (τ':=O) (aT rfl) rfl (aQ (hO (aQ rfl (aQ (aT rfl) (aQ (aT rfl) (aQ (aT rfl) (aQ (aT rfl) bU))))) (by exact aS Xd)) bU) (jE (l:=o.map Ch) rfl (by simp;exact aS 0x2494a2908d283c05a30d4012f18c6318e182ac77e7004 Z bp R W))) ?_;refine cm (a+k) (g+k) (o++[(mZ.equal,a,a+k,g,g+k)]) _ ?_ (by simp;exact aS 0xc629820e1d19070250780746002 W) ?_
   ·simp only [sG,bX];rfl
   ·rw [iJ];exact N
 have qh:∀(h:mZ),h≠.equal→(if i<a∧j<g then[(mZ.replace,i,a,j,g)]else if i<a then[(mZ.delete,i,a,j,g)]else if j<g then[(mZ.insert,i,a,j,g)]else[])=[(h,i,a,j,g)]→Go ((dP (uK (qB (aJ 7)) (tE (vE eY (aJ 3) (aK (eQ (aK (aJ 7) (aK (aJ 1) (aK (aJ 4) (aK (aJ 2) (aK (aJ 5) bI)))))) bI))) (kY .next)) (oD [3,4,5,6] (dP (eS (eQ (aK (bD fQ (aJ 4) (aJ 6)) (aK (bD fQ (aJ 5) (aJ 6)) bI))) (Ge [bQ 2,bQ 1])) (uK (qB (aJ 6)) (tE (vE eY (aJ 3) (aK (eQ (aK (gK (.str (aC "equal"))) (aK (aJ 4) (aK (aJ 1) (aK (aJ 5) (aK (aJ 2) bI)))))) bI))) (kY .next))))) 2 (F h.s r)) (Ao [1,2,3] 2 (JG as m (p+1)) (fun _=>False) (fun _ _=>False)):=fun h _ X=>by rw [X]at H;refine bR (Ss (τ:=F h.s r) (yQ (v:=.str h.s) (aT rfl) (ż h _)) ?_);refine mI (sL (u:=.ref 1) (us:=[Ch (h,i,a,j,g)]) (l:=r.map Ch) (τ:=F h.s r) (τ':=F h.s r) (aT rfl) rfl (aQ (hO (aQ (aT rfl) (aQ (aT rfl) (aQ (aT rfl) (aQ (aT rfl) (aQ (aT rfl) bU))))) (by exact aS Xd)) bU) (jE (l:=r.map Ch) rfl (by simp;exact aS 0x91928a4225006980f4612f18c6318e182ac77e7004 Z bp Q R))) ?_;refine rest (r++[(h,i,a,j,g)]) (by simp;exact aS 0x318a601d180980746002 Q) (by simpa [iJ]using H) _ ?_;simp only [bX];rfl
 have kv:(if i<a∧j<g then[(mZ.replace,i,a,j,g)]else if i<a then[(mZ.delete,i,a,j,g)]else if j<g then[(mZ.insert,i,a,j,g)]else[])=[]→Go ((dP (uK (qB (aJ 7)) (tE (vE eY (aJ 3) (aK (eQ (aK (aJ 7) (aK (aJ 1) (aK (aJ 4) (aK (aJ 2) (aK (aJ 5) bI)))))) bI))) (kY .next)) (oD [3,4,5,6] (dP (eS (eQ (aK (bD fQ (aJ 4) (aJ 6)) (aK (bD fQ (aJ 5) (aJ 6)) bI))) (Ge [bQ 2,bQ 1])) (uK (qB (aJ 6)) (tE (vE eY (aJ 3) (aK (eQ (aK (gK (.str (aC "equal"))) (aK (aJ 4) (aK (aJ 1) (aK (aJ 5) (aK (aJ 2) bI)))))) bI))) (kY .next))))) 2 (F (aC "") r)) (Ao [1,2,3] 2 (JG as m (p+1)) (fun _=>False) (fun _ _=>False)):=fun X=>by rw [X]at H;refine bR (zQ (τ:=F (aC "") r) (yQ (v:=.str (aC "")) (aT rfl) (Wn _)) (iR ?_));exact rest r (aS 0xc62941e01d180980746002 Q) (by simpa [iJ]using H) _ rfl
 rcases hx with rfl|rfl;all_goals
  refine ⟨_,rfl,?_⟩;unfold H9;refine bR (dK rfl rfl ?_);refine bR (nP (jN (gZ (b:=decide (i<a)) (Tz rfl rfl) ?_)));have two:¬(i<a∧j<g)→∀s:St,(s=⟨[(1,vN i),(2,vN j),(3,.ref 1),(4,vN a),(5,vN g),(6,vN k),(7,.str (aC ""))],[(1,.list (r.map Ch)),(0,.attrs ((aC "opcodes",.ref 1)::as))],2⟩∨s=⟨[(0,.inst 0),(1,vN i),(2,vN j),(3,.ref 1),(4,vN a),(5,vN g),(6,vN k),(7,.str (aC ""))],[(1,.list (r.map Ch)),(0,.attrs ((aC "opcodes",.ref 1)::as))],2⟩)→
    Go ((uK (eE (bD Cc (aJ 1) (aJ 4))) (eS (gK (.str (aC "delete"))) (bQ 7)) (uK (eE (bD Cc (aJ 2) (aJ 5))) (eS (gK (.str (aC "insert"))) (bQ 7)) (kY .next))) 2 s) (Nx fun τ=>∃h:jY,C1 [1,2,3,4,5,6,7] τ=F h r∧((∃D:mZ,D≠.equal∧h=D.s∧(if i<a∧j<g then[(mZ.replace,i,a,j,g)]else if i<a then[(mZ.delete,i,a,j,g)]else if j<g then[(mZ.insert,i,a,j,g)]else[])=[(D,i,a,j,g)])∨(h=aC ""∧(if i<a∧j<g then[(mZ.replace,i,a,j,g)]else if i<a then[(mZ.delete,i,a,j,g)]else if j<g then[(mZ.insert,i,a,j,g)]else[])=[]))):=fun hn s y=>by
   have e4:lk s.loc 4=some (vN a):=by rcases y with rfl|rfl<;>rfl
   rw [if_neg hn];refine nP (gZ (b:=decide (i<a)) (τ:=s) (Tz (by rcases y with rfl|rfl<;>rfl:lk s.loc 1=some (vN i)) e4) ?_);by_cases c1:i<a
   ·rw [iD c1,if_pos c1];refine dK rfl rfl ⟨mZ.delete.s,?_,.inl ⟨.delete,by decide,rfl,rfl⟩⟩;rcases y with rfl|rfl<;>rfl
   ·rw [fJ c1,if_neg c1];refine nP (gZ (b:=decide (j<g)) (τ:=s) (Tz (by rcases y with rfl|rfl<;>rfl:lk s.loc 2=some (vN j)) (by rcases y with rfl|rfl<;>rfl:lk s.loc 5=some (vN g))) ?_);by_cases c2:j<g
    ·rw [iD c2,if_pos c2];refine dK rfl rfl ⟨mZ.insert.s,?_,.inl ⟨.insert,by decide,rfl,rfl⟩⟩;rcases y with rfl|rfl<;>rfl
    ·rw [fJ c2,if_neg c2];refine iR ⟨aC "",?_,.inr ⟨rfl,rfl⟩⟩;rcases y with rfl|rfl<;>rfl
  have Y:∀τ:St,(∃h:jY,C1 [1,2,3,4,5,6,7] τ=F h r∧((∃D:mZ,D≠.equal∧h=D.s∧(if i<a∧j<g then[(mZ.replace,i,a,j,g)]else if i<a then[(mZ.delete,i,a,j,g)]else if j<g then[(mZ.insert,i,a,j,g)]else[])=[(D,i,a,j,g)])∨(h=aC ""∧(if i<a∧j<g then[(mZ.replace,i,a,j,g)]else if i<a then[(mZ.delete,i,a,j,g)]else if j<g then[(mZ.insert,i,a,j,g)]else[])=[])))→
    Go ((oD [1,2,3,4,5,6,7] (dP (uK (qB (aJ 7)) (tE (vE eY (aJ 3) (aK (eQ (aK (aJ 7) (aK (aJ 1) (aK (aJ 4) (aK (aJ 2) (aK (aJ 5) bI)))))) bI))) (kY .next)) (oD [3,4,5,6] (dP (eS (eQ (aK (bD fQ (aJ 4) (aJ 6)) (aK (bD fQ (aJ 5) (aJ 6)) bI))) (Ge [bQ 2,bQ 1])) (uK (qB (aJ 6)) (tE (vE eY (aJ 3) (aK (eQ (aK (gK (.str (aC "equal"))) (aK (aJ 4) (aK (aJ 1) (aK (aJ 5) (aK (aJ 2) bI)))))) bI))) (kY .next)))))) 2 τ) (Ao [1,2,3] 2 (JG as m (p+1)) (fun _=>False) (fun _ _=>False)):=fun τ ⟨h,C,P⟩=>by
   refine fW C ?_;rcases P with ⟨D,T,rfl,I⟩|⟨rfl,I⟩
   ·exact qh D T I
   ·exact kv I
  by_cases c1:i<a
  ·rw [iD c1];refine jN (gZ (b:=decide (j<g)) (Tz rfl rfl) ?_);by_cases c2:j<g
   ·rw [iD c2];refine Em ?_;refine dK rfl rfl (Y _ ⟨mZ.replace.s,rfl,.inl ⟨.replace,by decide,rfl,if_pos ⟨c1,c2⟩⟩⟩)
   ·rw [fJ c2];refine (two (fun z=>c2 z.2) _ (by first|exact .inl rfl|exact .inr rfl)).mono fun f τ p=>?_;cases f<;>first|exact Y τ p|exact p.elim
  ·rw [fJ c1];refine (two (fun z=>c1 z.1) _ (by first|exact .inl rfl|exact .inr rfl)).mono fun f τ p=>?_;cases f<;>first|exact Y τ p|exact p.elim
end
end
section
open MineH (at_ bS fr)
section
variable{A B:bH}{as:mH}
theorem Uw:(mbs A B).length≤(bl A B (0,A.length,0,B.length)).length+2:=by simp only [è,bK];have:=Pq (bl A B (0,A.length,0,B.length)) (0,0,0);simp;omega
theorem Fv.del(h:Fv A B as):Fv A B (yF (aC "opcodes") as):=by
 refine ⟨⟨fun p a=>h.at_.pure p (oH a).1,?_,?_,?_,?_⟩,?_,h.la,h.lb,h.few⟩;all_goals rw [tA (pI (by decide))]
 ·exact h.at_.a
 ·exact h.at_.b
 ·exact h.at_.bjunk
 ·exact h.at_.b2j
 ·exact h.mb
theorem L3(a:∀p∈as,p.2.pure=true):∀p∈gA A B as,p.2.pure=true:=by
 unfold gA;split
 ·exact kG (uG A B) a
 ·exact a
def oA(A B:bH)(as:mH):mH:=(aC "opcodes",xO A B)::gA A B (yF (aC "opcodes") as)
theorem aBn(h:Fv A B as)(s:nM as (aC "opcodes")=some .none):
  Go (ĥ (dG A B) 1 ⟨[(0,.inst 0)],[(0,.attrs as)],1⟩) fun f τ=>f=.ret (.ref 1)∧∃a,τ.cells=[(1,.list (a.map Ch)),(0,.attrs ((aC "opcodes",.ref 1)::gA A B (yF (aC "opcodes") as)))]∧a=ops A B:=by
 have F:lim=1048576:=rfl;let c:St:=⟨[(0,.inst 0)],[(0,.attrs as)],1⟩;refine (?_:Go (ĥ (dG A B) 1 c) _);refine bR (H0 ?_);refine bR (zQ (τ:=c) (kD (dC (mK (aT rfl) rfl s rfl) rfl rfl)) (iR ?_));refine fW (σ':=c) rfl ?_;let m:St:=⟨[(0,.inst 0),(1,vN 0),(2,vN 0)],[(0,.attrs as)],1⟩;refine bR (dK (v:=vN 0) (τ:=c) (τ':=m) rfl rfl ?_);let k:St:=⟨[(0,.inst 0),(1,vN 0),(2,vN 0),(3,.ref 1)],[(1,.list []),(0,.attrs ((aC "opcodes",.ref 1)::yF (aC "opcodes") as))],2⟩;refine bR (dK (v:=.ref 1) (τ':=k) (pX (τ:=m) bU (by refine (?_:(0:Nat)≤1048576);simp)) rfl ?_);refine fW (σ':=k) rfl ?_;have hd:=h.del;let o:St:=sG (gA A B (yF (aC "opcodes") as)) [(0,.inst 0)] 0 0 [];have u:∀p∈gA A B (yF (aC "opcodes") as),p.2.pure=true:=L3 hd.at_.pure;have call:aBs (aC "opcodes") (dG A B) (aJ 0) k=some (xP A B,o):=by unfold aBs;show (if aC "opcodes"=aC "opcodes"∧((yF (aC "opcodes") as).all fun p=>p.2.pure)=true then ob (dG A B (yF (aC "opcodes") as)) _ else aF)=_;rw [if_pos ⟨rfl,gN.mpr hd.at_.pure⟩];unfold dG;rw [if_pos hd];rfl
 have y:(mbs A B).length<1000:=by have:=Uw (A:=A) (B:=B);have:=h.few;exact aS 0xe31563bf38158c1c29468c1002 ‹_› this
 refine bR (uW (fun _=>False) (JG (gA A B (yF (aC "opcodes") as)) (mbs A B)) (ds:=(mbs A B).map xM) (τ:=o) (vM call (zN _)) (by show (1:Nat)≤2;decide) ⟨_,0,0,[],.inr rfl,rfl,bG _,rfl⟩ (fun i G v b z=>?_) (fun τ' C=>?_))
 ·rw [fK]at b
  cases l:(mbs A B)[i]? with
  |none=>rw [l]at b;exact hU b
  |some t=>rw [l]at b;refine nW b ?_;rintro rfl;obtain ⟨τ',e,g⟩:=ę (d:=dG A B) u y l z;refine ⟨τ',e,g.mono fun f τ p=>?_⟩;cases f<;>first|exact p|exact p.elim
 ·obtain ⟨x,i,j,a,hx,rfl,H,r⟩:=C.resolve_right id;rw [bC,mQ]at r;have D:a=ops A B:=by unfold ops;rw [←r];simp [Ga,F9]
  refine fW (σ':=⟨[(3,.ref 1)],[(1,.list (a.map Ch)),(0,.attrs ((aC "opcodes",.ref 1)::gA A B (yF (aC "opcodes") as)))],2⟩) (by rcases hx with rfl|rfl<;>rfl) ?_;unfold Pt;exact qQ (aT rfl) ⟨rfl,a,rfl,D⟩
theorem Ę(a:nM as (aC "opcodes")=some (xO A B)):
  Go (ĥ (dG A B) 1 ⟨[(0,.inst 0)],[(0,.attrs as)],1⟩) fun f τ=>f=.ret (xO A B)∧lk τ.cells 0=some (.attrs as):=by
 let b:St:=⟨[(0,.inst 0)],[(0,.attrs as)],1⟩;refine (?_:Go (ĥ (dG A B) 1 b) _);refine bR (H0 ?_);refine bR (Ss (τ:=b) (kD (dC (mK (aT rfl) rfl a rfl) rfl rfl)) ?_);exact qQ (mK (aT rfl) rfl a rfl) ⟨rfl,rfl⟩
theorem aBr(c:Bp m as)(e:m.a=some A)(d:m.b=some B)(h:A.length<200)(i:B.length<200)(j:(bl A B (0,A.length,0,B.length)).length<64):Fv A B as:=by
 refine ⟨⟨c.pure,by have:=c.a;rwa[e]at this,by have:=c.b;rwa[d]at this,c.bjunk,by have:=c.b2j;rwa[d]at this⟩,?_,h,i,j⟩;rcases c.mb with q|⟨A',B',f,g,q⟩
 ·exact .inl q
 ·rw [e]at f;rw [d]at g;refine nW f ?_;rintro rfl;refine nW g ?_;rintro rfl;exact .inr q
theorem Kt(h:(s==aC "matching_blocks")=false):nM (gA A B as) s=nM as s:=by
 unfold gA;split
 ·rw [kM,if_neg (pI h)]
 ·rfl
theorem aJ7(h:Fv A B as):nM (gA A B as) (aC "matching_blocks")=some (xP A B):=by
 unfold gA;rcases h.mb with q|q
 ·rw [q,if_pos (by rfl),kM,if_pos rfl]
 ·rw [q,if_neg (by simp [U7,xP]),q]
theorem é(c:Bp m as)(e:m.a=some A)(f:m.b=some B)(h:Fv A B as):Bp m (oA A B as):=by
 refine ⟨fun p d=>?_,?_,?_,?_,?_,?_,?_,?_,.inr ⟨A,B,e,f,?_⟩⟩
 ·rcases aR.mp d with rfl|d
  ·exact uF A B
  ·exact L3 h.del.at_.pure p d
 ·unfold oA;rw [lI (by decide),Kt (by decide),tA (pI (by decide))];exact c.junk
 ·unfold oA;rw [lI (by decide),Kt (by decide),tA (pI (by decide))];exact c.a
 ·unfold oA;rw [lI (by decide),Kt (by decide),tA (pI (by decide))];exact c.b
 ·unfold oA;rw [lI (by decide),Kt (by decide),tA (pI (by decide))];exact c.auto
 ·unfold oA;rw [lI (by decide),Kt (by decide),tA (pI (by decide))];exact c.bjunk
 ·unfold oA;rw [lI (by decide),Kt (by decide),tA (pI (by decide))];exact c.b2j
 ·unfold oA;rw [lI (by decide)];exact .inr ⟨A,B,e,f,aJ7 h.del⟩
 ·unfold oA;show (if _ then _ else _)=_;rw [if_pos rfl]
end
section
variable{n:Nat}{A B:bH}
theorem aJ9(G:Gd)(m:Ey)(j:m.a=some A)(k:m.b=some B)(u:A.length<200)(v:B.length<200)(x:(bl A B (0,A.length,0,B.length)).length<64):
  qV (n+5) (.ref 210) (.mat m) [] (fun c r=>c=.mat m∧r=xO A B):=by
 refine Hc fun as d=>?_;have h:=aBr d j k u v x;refine vR (fd:=iY MineH.o210v0) (o:=MineH.o210v0) (tab:=Rd) (body:=bS (at_ [5,8])) (aLx w.params) (G.K 210 _ (by kernel_rfl)) rfl G.lim (codeRec_of G.K (by kernel_rfl)) rfl (fun vs h=>?_) (by refine (?_:(1:Nat)≤8);decide) d.pure (fun L=>?_) rfl
 ·revert vs;exact ll1 fun _=>by kernel_rfl
 ·have g:nM as (aC "opcodes")=some .none∨nM as (aC "opcodes")=some (xO A B):=by
   rcases d.oc with q|⟨A',B',l,s,q⟩
   ·exact .inl q
   ·rw [j]at l;rw [k]at s;refine nW l ?_;rintro rfl;refine nW s ?_;rintro rfl;exact .inr q
  rcases g with g|g
  ·obtain ⟨f,τ,e,rfl,z,i,rfl⟩:=aBn h g;refine jC (aEi G (aEv G A B) 1 _ _ _ e) ?_;rintro _ _ ⟨rfl,rfl⟩;have t:=é d j k h;have r1:rA xB 1 τ.cells (.ref 1)=some (xO A B):=by rw [i];exact wT (by decide) rfl (uL _)
   refine ⟨_,.attrs (oA A B as),_,by rw [i];rfl,?_,t.pure,r1,uF A B,oA A B as,rfl,t,rfl⟩;refine (?_:(zO _ _).map gM.attrs=_);exact congrArg (nD gM.attrs) (Hh r1 (Kr (gN.mpr fun p y=>fX (L3 h.del.at_.pure p y))))
  ·obtain ⟨f,τ,e,rfl,i⟩:=Ę g;refine jC (aEi G (aEv G A B) 1 _ _ _ e) ?_;rintro _ _ ⟨rfl,rfl⟩;exact ⟨_,_,_,i,rW d.pure,d.pure,eA (uF A B),uF A B,as,rfl,d,rfl⟩
end
end
section
open MineH (at_ bS fr)
noncomputable def xR:lK:=[aC "base",aC "one",aC "other"]
theorem cL(P:fL):kO (iY MineH.o265v0) xR:=.of (by kernel_rfl)
def B1:Nat→M Fl:=(dP (uK (My (eE (bD qS (aJ 1) (aJ 2))) (My (eE (bD qS (aJ 2) (aJ 0))) (fun σ=>some (false,σ)))) (uA (aJ 1)) (kY .next)) (oD [0,1,2] (uA (rM (eE (bD qS (aJ 1) (aJ 0))) (aJ 2) (Eo (gK (.int 1)))))))
theorem Pn(G:Gd):E0 (n) (wH (iY MineH.o265v0) L 265 xR) (bS (at_ [9])) (B1):=by have T:=(cL w.params).tab L 265;exact (bF (iQ (mE (B0 (cT jT (lc T 1) (lc T 2) rfl) (B0 (cT jT (lc T 2) (lc T 0) rfl) Mr))) (cM (kP (lc T 1))) hV) (eK T.fk (cM (kP (oR (cT jT (lc T 1) (lc T 0) rfl) (lc T 2) (C5 bE))))))
end
section
open MineH (at_ bS fr)
noncomputable def tM:lK:=[aC "spots",aC "v"]
theorem cK(P:fL):kO (iY MineH.o258v0) tM:=.ofC [aC "v"] (by kernel_rfl) (iG ⟨by kernel_rfl,fun L=>by kernel_rfl⟩ (fun _ h=>nomatch h))
def wJ:Nat→M Fl:=(uA (uY 100 (iF (aJ 0)) (Jf [(bQ 100),(bQ 101),(bQ 102)]) (H6 (iF (bD fQ (aJ 100) (bD eF (aJ 101) (bD eF (aJ 102) (aJ 1))))) (bQ 103) (lP (aJ 103)))))
theorem Hr(G:Gd):E0 (n) (wH (iY MineH.o258v0) L 258 tM) (bS (at_ [8])) (wJ):=by have T:=(cK w.params).tab L 258;exact (cM (kP (aG9 (base:=100) (names:=[aC "piece",aC "forms",aC "states",aC "item"]) (cap:=[(1,aC "v")]) T (Ee (by decide)) (by decide) (by decide) (fun _=>rfl) (fun _ _=>rfl) rfl rfl rfl rfl (.cons (aG (i:=1) rfl) rfl rfl rfl .nil) (.cons rfl (.cons rfl (.cons rfl (.cons rfl .nil)))) (pR (lc T 0)) (fun C T1=>(lC (dA (lg T1 1) (dA (lg T1 2) (ig (lg T1 3) jL) rfl) rfl))) (fun C T1=>(pR (bN dX (lc T1 1) (dM (dN fun _ _=>rfl) (lc T1 2) (dM (dN fun _ _=>rfl) (lc T1 3) (lc T1 0)))))) (fun C T1=>(lg T1 4)) (fun C T1=>(lc T1 4)))))
end
section
open MineH (at_ bS fr)
noncomputable def tN:lK:=[aC "codes",aC "base",aC "text",aC "side",aC "rows",aC "i",aC "j",aC "last",aC "tag",aC "i1",aC "i2",aC "j1",aC "j2",aC "same"]
theorem eW(P:fL):kO (iY MineH.o277v0) tN:=.of (by kernel_rfl)
def oS:Nat→M Fl:=(dP (eS (Py qS Di (iE (aJ 1) (fY (aJ 9)) (fY (aJ 10))) (iE (aJ 2) (fY (aJ 11)) (fY (aJ 12))) (gV bI)) (bQ 13)) (dP (uK (My (eE (bD Di (eQ (aK (aJ 9) (aK (aJ 11) bI))) (eQ (aK (aJ 5) (aK (aJ 6) bI))))) (My (eE (bD Di (aJ 13) (bD qS (aJ 8) (gK (.str (aC "equal")))))) (My (eE (bD qS (aJ 13) (aJ 7))) (fun σ=>some (false,σ))))) (uA (gV (aK (eQ (aK (gK (.int 0)) (aK (gK (.int 0)) (aK (aJ 3) (aK (gK (.str (aC "fault"))) (aK (gV (aK (gK (.str (aC "fault"))) bI)) bI)))))) bI))) (kY .next)) (oD [1,2,3,4,8,9,10,11,12,13] (dP (uK (Sy (qB (aJ 13))) (tE (vE eY (aJ 4) (aK (eQ (aK (aJ 9) (aK (aJ 10) (aK (aJ 3) (aK (aJ 8) (aK (iE (aJ 2) (fY (aJ 11)) (fY (aJ 12))) bI)))))) bI))) (kY .next)) (oD [1,2,3,4,10,12,13] (eS (eQ (aK (aJ 10) (aK (aJ 12) (aK (aJ 13) bI)))) (Ge [bQ 7,bQ 6,bQ 5])))))))
def xA:Nat→M Fl:=(uA (rM (eE (bD qS (eQ (aK (aJ 5) (aK (aJ 6) bI))) (eQ (aK (gB Dm (aK (aJ 1) bI)) (aK (gB Dm (aK (aJ 2) bI)) bI))))) (aJ 4) (gV (aK (eQ (aK (gK (.int 0)) (aK (gK (.int 0)) (aK (aJ 3) (aK (gK (.str (aC "fault"))) (aK (gV (aK (gK (.str (aC "fault"))) bI)) bI)))))) bI))))
def wK:Nat→M Fl:=(dP (eS (eQ (aK (mW bI) (aK (gK (.int 0)) (aK (gK (.int 0)) (aK (gK .none) bI))))) (Jf [(bQ 4),(bQ 5),(bQ 6),(bQ 7)])) (oD [0,1,2,3,4,5,6,7] (dP (yD [1,2,3,4,5,6,7] (iF (aJ 0)) (Jf [(bQ 8),(bQ 9),(bQ 10),(bQ 11),(bQ 12)]) (oS)) (oD [1,2,3,4,5,6] (xA)))))
theorem Ht(G:Gd):E0 (n) (wH (iY MineH.o277v0) L 277 tN) (bS (at_ [11])) (wK):=by have T:=(eW w.params).tab L 277;exact (bF (dH (cE (ic (gR aO) (ic bE (ic bE (ic pJ aO))))) (lC (dA (lg T 4) (dA (lg T 5) (dA (lg T 6) (ig (lg T 7) jL) rfl) rfl) rfl)) rfl rfl rfl) (eK T.fk (bF (qO T.fk (pR (lc T 0)) (lC (dA (lg T 8) (dA (lg T 9) (dA (lg T 10) (dA (lg T 11) (ig (lg T 12) jL) rfl) rfl) rfl) rfl)) (bF (dH (Ĕ jT yC (jP (lc T 1) (gU (lc T 9)) (gU (lc T 10))) (jP (lc T 2) (gU (lc T 11)) (gU (lc T 12))) (eD aO) rfl) (lg T 13) rfl rfl rfl) (bF (iQ (mE (B0 (cT yC (by refine cE ?_;exact (ic (lc T 9) (ic (lc T 11) aO))) (by refine cE ?_;exact (ic (lc T 5) (ic (lc T 6) aO))) rfl) (B0 (cT yC (lc T 13) (aBg jT (lc T 8) iH rfl) rfl) (B0 (cT jT (lc T 13) (lc T 7) rfl) Mr)))) (cM (kP (eD (ic (by refine cE ?_;exact (ic bE (ic bE (ic (lc T 3) (ic iH (ic (eD (ic iH aO)) aO)))))) aO)))) hV) (eK T.fk (bF (iQ (Mq (nN (lc T 13) rfl)) (cM (eC rfl rfl (jS bW rfl bP (gH T.fk) (lc T 4) (by exact ⟨rfl,trivial⟩) (ic (by refine cE ?_;exact (ic (lc T 9) (ic (lc T 10) (ic (lc T 3) (ic (lc T 8) (ic (jP (lc T 2) (gU (lc T 11)) (gU (lc T 12))) aO)))))) aO) rfl))) hV) (eK T.fk (cM (kN (cE (ic (lc T 10) (ic (lc T 12) (ic (lc T 13) aO)))) (eJ T (aG (i:=7) rfl) (eJ T (aG (i:=6) rfl) (eJ T (aG (i:=5) rfl) lW))) rfl rfl))))))) fun _=>rfl) (eK T.fk (cM (kP (oR (cT jT (by refine cE ?_;exact (ic (lc T 5) (ic (lc T 6) aO))) (by refine cE ?_;exact (ic (fV (G.e T.fk rfl rfl zS (by kernel_rfl) (by decide)) (.inl ⟨_,rfl⟩) rT (by exact ⟨rfl,trivial⟩) (ic (lc T 1) aO) rfl) (ic (fV (G.e T.fk rfl rfl zS (by kernel_rfl) (by decide)) (.inl ⟨_,rfl⟩) rT (by exact ⟨rfl,trivial⟩) (ic (lc T 2) aO) rfl) aO))) rfl) (lc T 4) (eD (ic (by refine cE ?_;exact (ic bE (ic bE (ic (lc T 3) (ic iH (ic (eD (ic iH aO)) aO)))))) aO)))))))))
end
section
open MineH (at_ bS fr)
noncomputable def wG:lK:=[aC "matcher",aC "base",aC "one",aC "other",aC "rows",aC "told",aC "merged",aC "done",aC "low",aC "high",aC "words",aC "ways",aC "reach",aC "i1",aC "i2",aC "side",aC "tag",aC "text",aC "old",aC "left",aC "right",aC "way"]
theorem dJ(P:fL):kO (iY MineH.o284v0) wG:=.of (by kernel_rfl)
def pS(bk bh:Bd)(eW:pV)(ay:Bd):Nat→M Fl:=(dP (eS (vE aCg (aJ 4) (aK (gK (.int 0)) bI)) (Jf [(bQ 13),(bQ 14),(bQ 15),(bQ 16),(bQ 17)])) (dP (tE (vE eY (bD eF (aJ 10) (aJ 15)) (aK (aJ 16) bI))) (dP (tE (vE wC (bD eF (aJ 11) (aJ 15)) (aK (bD fQ (iE (aJ 1) (fY (bD eF (aJ 12) (aJ 15))) (fY (aJ 13))) (rM (eE (bD qS (aJ 16) (gK (.str (aC "delete"))))) (gV bI) (aJ 17))) bI))) (dP (eS (rM (eE (bD qS (aJ 16) (gK (.str (aC "insert"))))) (aJ 13) (aJ 14)) (ġ (aJ 12) (aJ 15))) (eS (gB aCh (aK (aJ 9) (aK (aJ 14) bI))) (bQ 9))))))
def yU(bk bh:Bd)(eW:pV)(ay:Bd):Nat→M Fl:=(dP (eS (eQ (aK (iE (aJ 1) (fY (aJ 8)) (fY (aJ 9))) (aK (bD fQ (bD eF (aJ 11) (gK (.int 0))) (iE (aJ 1) (fY (bD eF (aJ 12) (gK (.int 0)))) (fY (aJ 9)))) (aK (bD fQ (bD eF (aJ 11) (gK (.int 1))) (iE (aJ 1) (fY (bD eF (aJ 12) (gK (.int 1)))) (fY (aJ 9)))) bI)))) (Ge [bQ 20,bQ 19,bQ 18])) (dP (eS (rM (My (eE (bD qS (aJ 19) (aJ 20))) (My (eE (bD qS (aJ 20) (aJ 18))) (fun σ=>some (false,σ)))) (aJ 19) (rM (eE (bD qS (aJ 19) (aJ 18))) (aJ 20) (gV (aK (gV (aK (aJ 18) (aK (aJ 19) (aK (aJ 20) bI)))) bI)))) (bQ 21)) (dP (tE (vE eY (aJ 5) (aK (eQ (aK (aJ 8) (aK (aJ 9) (aK (aJ 10) bI)))) bI))) (dP (tE (vE wC (aJ 6) (aK (bD fQ (iE (aJ 1) (fY (aJ 7)) (fY (aJ 8))) (aJ 21)) bI))) (eS (aJ 9) (bQ 7))))))
def qR(bk bh:Bd)(eW:pV)(ay:Bd):Nat→M Fl:=(dP (eS (eQ (aK (bD eF (bD eF (aJ 4) (gK (.int 0))) (gK (.int 0))) (aK (bD eF (bD eF (aJ 4) (gK (.int 0))) (gK (.int 1))) bI))) (Ge [bQ 9,bQ 8])) (dP (eS (eQ (aK (gV (aK (mW bI) (aK (mW bI) bI))) (aK (gV (aK (mW bI) (aK (mW bI) bI))) (aK (mW (aK (aJ 8) (aK (aJ 8) bI))) bI)))) (Ge [bQ 12,bQ 11,bQ 10])) (oD [1,4,5,6,7,8,9,10,11,12] (dP (qA [1,4,5,6,7,8,9,10,11,12] (mL (eE (bD Di (aJ 4) (gV bI))) (mL (eE (bD gLe (bD eF (bD eF (aJ 4) (gK (.int 0))) (gK (.int 0))) (aJ 9))) (fun σ=>some (true,σ)))) (pS bk bh eW ay)) (oD [1,4,5,6,7,8,9,10,11,12] (yU bk bh eW ay))))))
def zW(bk bh:Bd)(eW:pV)(ay:Bd):Nat→M Fl:=(uA (eQ (aK (aJ 5) (aK (bD fQ (aJ 6) (iE (aJ 1) (fY (aJ 7)) yB)) bI))))
def zX(bk bh:Bd)(eW:pV)(ay:Bd):Nat→M Fl:=(dP (tE (Vk bk (aJ 0) (aK (aJ 1) bI))) (dP (tE (Vk bh (aJ 0) (aK (aJ 2) bI))) (dP (eS (gB eW (aK (Vk ay (aJ 0) bI) (aK (aJ 1) (aK (aJ 2) (aK (gK (.int 0)) bI))))) (bQ 4)) (dP (tE (Vk bh (aJ 0) (aK (aJ 3) bI))) (dP (eS (gB Vr (aK (bD fQ (aJ 4) (gB eW (aK (Vk ay (aJ 0) bI) (aK (aJ 1) (aK (aJ 3) (aK (gK (.int 1)) bI)))))) bI)) (bQ 4)) (dP (eS (eQ (aK (mW bI) (aK (mW bI) (aK (gK (.int 0)) bI)))) (Ge [bQ 7,bQ 6,bQ 5])) (oD [1,4,5,6,7] (dP (qA [1,4,5,6,7] (eE (bD Di (aJ 4) (gV bI))) (qR bk bh eW ay)) (oD [1,5,6,7] (zW bk bh eW ay))))))))))
theorem Mp(G:Gd){b:Bd}(j:∀c0 us c1 r,cS us=true→b c0 us=some (c1,r)→pH c0∧qV (n) (.ref 174) c0 us (fun c a=>c=c1∧a=r)){d:Bd}(e:∀c0 us c1 r,cS us=true→d c0 us=some (c1,r)→pH c0∧qV (n) (.ref 181) c0 us (fun c a=>c=c1∧a=r)){eW:pV}(f:∀F,Dr (n) F (.ref 277) eW){g:Bd}(h:∀c0 us c1 r,cS us=true→g c0 us=some (c1,r)→pH c0∧qV (n) (.ref 210) c0 us (fun c a=>c=c1∧a=r)):E0 (n) (wH (iY MineH.o284v0) L 284 wG) (bS (at_ [12])) (zX b d eW g):=by have T:=(dJ w.params).tab L 284;exact (bF (eC rfl rfl (uJ G.K T.fk (aJ4 G) j (lc T 0) (by exact ⟨rfl,trivial⟩) (ic (lc T 1) aO) rfl)) (bF (eC rfl rfl (uJ G.K T.fk (aGe G) e (lc T 0) (by exact ⟨rfl,trivial⟩) (ic (lc T 2) aO) rfl)) (bF (dH (fV (G.e T.fk rfl rfl Aa (by kernel_rfl) (by decide)) (.inr (.inr ⟨277,_,_,rfl,G.K 277 MineH.o277v0 (by kernel_rfl),rfl⟩)) (f _) (by exact ⟨rfl,⟨rfl,⟨rfl,⟨rfl,trivial⟩⟩⟩⟩) (ic (uJ G.K T.fk (aDq G) h (lc T 0) (by exact trivial) aO rfl) (ic (lc T 1) (ic (lc T 2) (ic bE aO)))) rfl) (lg T 4) rfl rfl rfl) (bF (eC rfl rfl (uJ G.K T.fk (aGe G) e (lc T 0) (by exact ⟨rfl,trivial⟩) (ic (lc T 3) aO) rfl)) (bF (dH (fV (G.e T.fk rfl rfl ğ (by kernel_rfl) (by decide)) (.inl ⟨_,rfl⟩) Rw (by exact ⟨rfl,trivial⟩) (ic (bN dX (lc T 4) (fV (G.e T.fk rfl rfl Aa (by kernel_rfl) (by decide)) (.inr (.inr ⟨277,_,_,rfl,G.K 277 MineH.o277v0 (by kernel_rfl),rfl⟩)) (f _) (by exact ⟨rfl,⟨rfl,⟨rfl,⟨rfl,trivial⟩⟩⟩⟩) (ic (uJ G.K T.fk (aDq G) h (lc T 0) (by exact trivial) aO rfl) (ic (lc T 1) (ic (lc T 3) (ic bE aO)))) rfl)) aO) rfl) (lg T 4) rfl rfl rfl) (bF (kN (cE (ic (gR aO) (ic (gR aO) (ic bE aO)))) (eJ T (aG (i:=7) rfl) (eJ T (aG (i:=6) rfl) (eJ T (aG (i:=5) rfl) lW))) rfl rfl) (eK T.fk (bF (rL T.fk (cT yC (lc T 4) (eD aO) rfl) (bF (kN (cE (ic (dM (dN fun _ _=>rfl) (dM (dN fun _ _=>rfl) (lc T 4) bE) bE) (ic (dM (dN fun _ _=>rfl) (dM (dN fun _ _=>rfl) (lc T 4) bE) bE) aO))) (eJ T (aG (i:=9) rfl) (eJ T (aG (i:=8) rfl) lW)) rfl rfl) (bF (kN (cE (ic (eD (ic (gR aO) (ic (gR aO) aO))) (ic (eD (ic (gR aO) (ic (gR aO) aO))) (ic (gR (ic (lc T 8) (ic (lc T 8) aO))) aO)))) (eJ T (aG (i:=12) rfl) (eJ T (aG (i:=11) rfl) (eJ T (aG (i:=10) rfl) lW))) rfl rfl) (eK T.fk (bF (rL T.fk (mE (gT (cT yC (lc T 4) (eD aO) rfl) (gT (cT aHf (dM (dN fun _ _=>rfl) (dM (dN fun _ _=>rfl) (lc T 4) bE) bE) (lc T 9) rfl) pK))) (bF (dH (jS rZ rfl bP (Ul T.fk) (lc T 4) (by exact ⟨rfl,trivial⟩) (ic bE aO) rfl) (lC (dA (lg T 13) (dA (lg T 14) (dA (lg T 15) (dA (lg T 16) (ig (lg T 17) jL) rfl) rfl) rfl) rfl)) rfl rfl rfl) (bF (eC rfl rfl (jS bW rfl bP (gH T.fk) (dM (dN fun _ _=>rfl) (lc T 10) (lc T 15)) (by exact ⟨rfl,trivial⟩) (ic (lc T 16) aO) rfl)) (bF (eC rfl rfl (jS lU rfl bP (xT T.fk) (dM (dN fun _ _=>rfl) (lc T 11) (lc T 15)) (by exact ⟨rfl,trivial⟩) (ic (bN dX (jP (lc T 1) (gU (dM (dN fun _ _=>rfl) (lc T 12) (lc T 15))) (gU (lc T 13))) (oR (cT jT (lc T 16) iH rfl) (eD aO) (lc T 17))) aO) rfl)) (bF (dH (oR (cT jT (lc T 16) iH rfl) (lc T 13) (lc T 14)) (Vd T.fk (lc T 12) (lc T 15)) rfl rfl rfl) (cM (dH (fV (G.e T.fk rfl rfl aLl (by kernel_rfl) (by decide)) (.inl ⟨_,rfl⟩) aAg (by exact ⟨rfl,⟨rfl,trivial⟩⟩) (ic (lc T 9) (ic (lc T 14) aO)) rfl) (lg T 9) rfl rfl rfl))))))) (eK T.fk (bF (kN (cE (ic (jP (lc T 1) (gU (lc T 8)) (gU (lc T 9))) (ic (bN dX (dM (dN fun _ _=>rfl) (lc T 11) bE) (jP (lc T 1) (gU (dM (dN fun _ _=>rfl) (lc T 12) bE)) (gU (lc T 9)))) (ic (bN dX (dM (dN fun _ _=>rfl) (lc T 11) bE) (jP (lc T 1) (gU (dM (dN fun _ _=>rfl) (lc T 12) bE)) (gU (lc T 9)))) aO)))) (eJ T (aG (i:=20) rfl) (eJ T (aG (i:=19) rfl) (eJ T (aG (i:=18) rfl) lW))) rfl rfl) (bF (dH (oR (mE (B0 (cT jT (lc T 19) (lc T 20) rfl) (B0 (cT jT (lc T 20) (lc T 18) rfl) Mr))) (lc T 19) (oR (cT jT (lc T 19) (lc T 18) rfl) (lc T 20) (eD (ic (eD (ic (lc T 18) (ic (lc T 19) (ic (lc T 20) aO)))) aO)))) (lg T 21) rfl rfl rfl) (bF (eC rfl rfl (jS bW rfl bP (gH T.fk) (lc T 5) (by exact ⟨rfl,trivial⟩) (ic (by refine cE ?_;exact (ic (lc T 8) (ic (lc T 9) (ic (lc T 10) aO)))) aO) rfl)) (bF (eC rfl rfl (jS lU rfl bP (xT T.fk) (lc T 6) (by exact ⟨rfl,trivial⟩) (ic (bN dX (jP (lc T 1) (gU (lc T 7)) (gU (lc T 8))) (lc T 21)) aO) rfl)) (cM (dH (lc T 9) (lg T 7) rfl rfl rfl)))))))))))) (eK T.fk (cM (kP (by refine cE ?_;exact (ic (lc T 5) (ic (bN dX (lc T 6) (jP (lc T 1) (gU (lc T 7)) zP)) aO))))))))))))))
end
section
open MineH (at_ bS fr)
noncomputable def zI:lK:=[aC "spots",aC "r",aC "s",aC "t",aC "told",aC "merged",aC "low",aC "piece",aC "forms",aC "states",aC "old",aC "left",aC "right",aC "state",aC "words",aC "side",aC "new",aC "word"]
theorem eG(P:fL):kO (iY MineH.o270v0) zI:=.ofC [aC "forms",aC "states"] (by kernel_rfl) (iG ⟨by kernel_rfl,fun L=>by kernel_rfl⟩ (iG ⟨by kernel_rfl,fun L=>by kernel_rfl⟩ (fun _ h=>nomatch h)))
def xY(cL:pV):Nat→M Fl:=(dP (eS (rM (eE (bD qS (aJ 10) (gV bI))) (gK (.str (aC "insert"))) (rM (eE (bD qS (aJ 16) (gV bI))) (gK (.str (aC "delete"))) (gK (.str (aC "replace"))))) (bQ 17)) (tE (vE eY (aJ 14) (aK (rM (eE (bD qS (bD eF (aJ 9) (aJ 15)) (bD eF (aJ 9) (aJ 1)))) (gV bI) (gV (aK (aJ 17) bI))) bI))))
def xX(cL:pV):Nat→M Fl:=(dP (M0 6 H7 (gB Dm (aK (aJ 7) bI))) (dP (uK (eE (bD Di (aJ 14) (gV (aK (gV bI) (aK (gV bI) bI))))) (tE (vE eY (aJ 4) (aK (eQ (aK (aJ 6) (aK (bD fQ (aJ 6) (gB Dm (aK (aJ 10) bI))) (aK (aJ 14) bI)))) bI))) (kY .next)) (oD [1,2,3,4,5,6,7,8,10,11,12,13] (dP (tE (vE wC (aJ 5) (aK (bD fQ (aJ 7) (rM (eE (bD Cc (aJ 13) (gK (.int 0)))) (gV (aK (gV (aK (aJ 10) (aK (aJ 11) (aK (aJ 12) bI)))) bI)) (bD eF (aJ 8) (aJ 13)))) bI))) (M0 6 H7 (gB Dm (aK (aJ 10) bI)))))))
def xZ(cL:pV):Nat→M Fl:=(dP (eS (uY 100 (iF (eQ (aK (aJ 1) (aK (aJ 2) (aK (aJ 3) bI))))) (bQ 100) (lP (bD eF (aJ 8) (bD eF (aJ 9) (aJ 100))))) (Jf [(bQ 10),(bQ 11),(bQ 12)])) (dP (eS (gB cL (aK (bD eF (aJ 9) (aJ 1)) (aK (bD eF (aJ 9) (aJ 2)) (aK (bD eF (aJ 9) (aJ 3)) bI)))) (bQ 13)) (dP (eS (mW bI) (bQ 14)) (oD [1,2,3,4,5,6,7,8,9,10,11,12,13,14] (dP (yD [1,2,3,4,5,6,7,8,9,10,11,12,13,14] (iF (eQ (aK (eQ (aK (aJ 2) (aK (aJ 11) bI))) (aK (eQ (aK (aJ 3) (aK (aJ 12) bI))) bI)))) (Jf [(bQ 15),(bQ 16)]) (xY cL)) (oD [1,2,3,4,5,6,7,8,10,11,12,13,14] (xX cL)))))))
def De(cL:pV):Nat→M Fl:=(uA (eQ (aK (aJ 4) (aK (aJ 5) bI))))
def En(cL:pV):Nat→M Fl:=(dP (eS (eQ (aK (mW bI) (aK (mW bI) (aK (gK (.int 0)) bI)))) (Ge [bQ 6,bQ 5,bQ 4])) (oD [0,1,2,3,4,5,6] (dP (yD [1,2,3,4,5,6] (iF (aJ 0)) (Jf [(bQ 7),(bQ 8),(bQ 9)]) (xZ cL)) (oD [4,5] (De cL)))))
theorem Sm(G:Gd){cL:pV}(a:∀F,Dr (n) F (.ref 265) cL):E0 (n) (wH (iY MineH.o270v0) L 270 zI) (bS (at_ [10])) (En cL):=by have T:=(eG w.params).tab L 270;exact (bF (kN (cE (ic (gR aO) (ic (gR aO) (ic bE aO)))) (eJ T (aG (i:=6) rfl) (eJ T (aG (i:=5) rfl) (eJ T (aG (i:=4) rfl) lW))) rfl rfl) (eK T.fk (bF (qO T.fk (pR (lc T 0)) (lC (dA (lg T 7) (dA (lg T 8) (ig (lg T 9) jL) rfl) rfl)) (bF (dH (aHa (base:=100) (names:=[aC "v"]) (cap:=[(8,aC "forms"),(9,aC "states")]) T (Ee (by decide)) (by decide) (by decide) (fun _=>rfl) rfl rfl rfl rfl (.cons (aG (i:=8) rfl) rfl rfl rfl (.cons (aG (i:=9) rfl) rfl rfl rfl .nil)) (.cons rfl .nil) (pR (by refine cE ?_;exact (ic (lc T 1) (ic (lc T 2) (ic (lc T 3) aO))))) (fun C T1=>(lg T1 2)) (fun C T1=>(dM (dN fun _ _=>rfl) (lc T1 0) (dM (dN fun _ _=>rfl) (lc T1 1) (lc T1 2))))) (lC (dA (lg T 10) (dA (lg T 11) (ig (lg T 12) jL) rfl) rfl)) rfl rfl rfl) (bF (dH (fV (G.e T.fk rfl rfl Fd (by kernel_rfl) (by decide)) (.inr (.inr ⟨265,_,_,rfl,G.K 265 MineH.o265v0 (by kernel_rfl),rfl⟩)) (a _) (by exact ⟨rfl,⟨rfl,⟨rfl,trivial⟩⟩⟩) (ic (dM (dN fun _ _=>rfl) (lc T 9) (lc T 1)) (ic (dM (dN fun _ _=>rfl) (lc T 9) (lc T 2)) (ic (dM (dN fun _ _=>rfl) (lc T 9) (lc T 3)) aO))) rfl) (lg T 13) rfl rfl rfl) (bF (dH (gR aO) (lg T 14) rfl rfl rfl) (eK T.fk (bF (qO T.fk (pR (by refine cE ?_;exact (ic (by refine cE ?_;exact (ic (lc T 2) (ic (lc T 11) aO))) (ic (by refine cE ?_;exact (ic (lc T 3) (ic (lc T 12) aO))) aO)))) (lC (dA (lg T 15) (ig (lg T 16) jL) rfl)) (bF (dH (oR (cT jT (lc T 10) (eD aO) rfl) iH (oR (cT jT (lc T 16) (eD aO) rfl) iH iH)) (lg T 17) rfl rfl rfl) (cM (eC rfl rfl (jS bW rfl bP (gH T.fk) (lc T 14) (by exact ⟨rfl,trivial⟩) (ic (oR (cT jT (dM (dN fun _ _=>rfl) (lc T 9) (lc T 15)) (dM (dN fun _ _=>rfl) (lc T 9) (lc T 1)) rfl) (eD aO) (eD (ic (lc T 17) aO))) aO) rfl)))) fun _=>rfl) (eK T.fk (bF (C4 T (aG (i:=6) rfl) Dj (fV (G.e T.fk rfl rfl zS (by kernel_rfl) (by decide)) (.inl ⟨_,rfl⟩) rT (by exact ⟨rfl,trivial⟩) (ic (lc T 7) aO) rfl)) (bF (iQ (cT yC (lc T 14) (eD (ic (eD aO) (ic (eD aO) aO))) rfl) (cM (eC rfl rfl (jS bW rfl bP (gH T.fk) (lc T 4) (by exact ⟨rfl,trivial⟩) (ic (by refine cE ?_;exact (ic (lc T 6) (ic (bN dX (lc T 6) (fV (G.e T.fk rfl rfl zS (by kernel_rfl) (by decide)) (.inl ⟨_,rfl⟩) rT (by exact ⟨rfl,trivial⟩) (ic (lc T 10) aO) rfl)) (ic (lc T 14) aO)))) aO) rfl))) hV) (eK T.fk (bF (eC rfl rfl (jS lU rfl bP (xT T.fk) (lc T 5) (by exact ⟨rfl,trivial⟩) (ic (bN dX (lc T 7) (oR (cT qC (lc T 13) bE rfl) (eD (ic (eD (ic (lc T 10) (ic (lc T 11) (ic (lc T 12) aO)))) aO)) (dM (dN fun _ _=>rfl) (lc T 8) (lc T 13)))) aO) rfl)) (cM (C4 T (aG (i:=6) rfl) Dj (fV (G.e T.fk rfl rfl zS (by kernel_rfl) (by decide)) (.inl ⟨_,rfl⟩) rT (by exact ⟨rfl,trivial⟩) (ic (lc T 10) aO) rfl))))))))))))) fun _=>rfl) (eK T.fk (cM (kP (by refine cE ?_;exact (ic (lc T 4) (ic (lc T 5) aO)))))))))
end
section
open MineH (at_ bS fr)
noncomputable def rS:lK:=[aC "script",aC "first",aC "spots",aC "pieces",aC "n",aC "x",aC "left",aC "forms",aC "c",aC "own",aC "piece",aC "states"]
theorem dI(P:fL):kO (iY MineH.o253v0) rS:=.of (by kernel_rfl)
def zV:Nat→M Fl:=(dP (eS (gV (aK (bD fQ (bD fQ (bD B3 (gK (.int 8)) (aJ 4)) (bD B3 (gK (.int 2)) (aJ 8))) (gK (.int 2))) (aK (bD fQ (bD fQ (bD B3 (gK (.int 8)) (aJ 4)) (bD B3 (gK (.int 2)) (aJ 8))) (gK (.int 3))) bI))) (bQ 9)) (uK (eE (bD qS (bD oJ (bD mF (aJ 6) (gK (.int 8))) (gK (.int 4))) (aJ 8))) (tE (vE eY (aJ 7) (aK (rM (eE (bD qS (bD oJ (aJ 1) (gK (.int 2))) (gK (.int 0)))) (gV bI) (bD fQ (bD fQ (iE (aJ 9) yB (fY (gK (.int 1)))) (gV (aK (bD oJ (bD mF (aJ 6) (gK (.int 4))) (gK (.int 2))) bI))) (iE (aJ 9) (fY (gK (.int 1))) yB))) bI))) (tE (vE eY (aJ 7) (aK (iE (aJ 9) yB (fY (bD fQ (gK (.int 1)) (bD oJ (bD mF (aJ 6) (bD eF (eQ (aK (gK (.int 32)) (aK (gK (.int 64)) (aK (gK (.int 128)) bI)))) (aJ 8))) (gK (.int 2)))))) bI)))))
def zT:Nat→M Fl:=(dP (eS (iE (gV (aK (bD B3 (gK (.int 8)) (aJ 4)) (aK (bD fQ (bD B3 (gK (.int 8)) (aJ 4)) (gK (.int 1))) bI))) yB (fY (bD fQ (gK (.int 1)) (bD oJ (aJ 6) (gK (.int 2)))))) (bQ 10)) (dP (uK (eE (bD qS (bD oJ (aJ 1) (gK (.int 2))) (gK (.int 1)))) (eS (bD fQ (gV (aK (bD oJ (bD mF (aJ 6) (gK (.int 2))) (gK (.int 2))) (aK (bD oJ (bD mF (aJ 6) (gK (.int 2))) (gK (.int 2))) bI))) (bD B3 (gV (aK (bD oJ (bD mF (aJ 6) (gK (.int 4))) (gK (.int 2))) (aK (bD oJ (bD mF (aJ 6) (gK (.int 4))) (gK (.int 2))) bI))) (bD oJ (aJ 6) (gK (.int 2))))) (bQ 10)) (kY .next)) (oD [1,2,3,5,7,10] (dP (tE (vE wC (aJ 3) (aK (bD B3 (aJ 10) (bD oJ (aJ 1) (gK (.int 2)))) bI))) (tE (vE eY (aJ 2) (aK (eQ (aK (aJ 10) (aK (aJ 7) (aK (eQ (aK (bD oJ (aJ 5) (gK (.int 3))) (aK (bD oJ (bD mF (aJ 5) (gK (.int 3))) (gK (.int 3))) (aK (bD oJ (bD mF (aJ 5) (gK (.int 9))) (gK (.int 3))) bI)))) bI)))) bI)))))))
def uX:Nat→M Fl:=(dP (eS (eQ (aK (bD mF (aJ 5) (gK (.int 27))) (aK (mW bI) bI))) (Ge [bQ 7,bQ 6])) (oD [1,2,3,4,5,6,7] (dP (yD [1,2,3,4,5,6,7] (yA (aK (gK (.int 3)) bI)) (bQ 8) (zV)) (oD [1,2,3,4,5,6,7] (zT)))))
def zU:Nat→M Fl:=(dP (uK (eE (bD qS (bD oJ (bD mF (aJ 1) (gK (.int 2))) (gK (.int 2))) (gK (.int 1)))) (eS (eQ (aK (gV bI) (aK (bD eF (bD eF (aJ 2) (gK (.int 0))) (gK (.int 1))) (aK (bD eF (bD eF (aJ 2) (gK (.int 0))) (gK (.int 2))) bI)))) (ġ (aJ 2) (gK (.int 0)))) (kY .next)) (oD [1,2,3] (dP (eS (eQ (aK (bD oJ (bD mF (aJ 1) (gK (.int 4))) (gK (.int 3))) (aK (bD oJ (bD mF (aJ 1) (gK (.int 12))) (gK (.int 3))) (aK (bD oJ (bD mF (aJ 1) (gK (.int 36))) (gK (.int 3))) bI)))) (bQ 11)) (uA (bD fQ (aJ 2) (gV (aK (eQ (aK (gV (aK (Eo (gK (.int 4))) (aK (Eo (gK (.int 5))) bI))) (aK (gV (aK (gV bI) (aK (bD fQ (gV (aK (Eo (gK (.int 1))) bI)) (aJ 3)) (aK (gV (aK (Eo (gK (.int 2))) bI)) bI)))) (aK (aJ 11) bI)))) bI)))))))
def vV:Nat→M Fl:=(dP (eS (rM (qB (aJ 0)) (bD eF (aJ 0) (gK (.int 0))) (gK (.int 0))) (bQ 1)) (dP (eS (eQ (aK (mW bI) (aK (mW bI) bI))) (Ge [bQ 3,bQ 2])) (oD [0,1,2,3] (dP (Vn [1,2,3] (bD fQ (iE (aJ 0) (fY (gK (.int 1))) (fY (gK (.int 13)))) (gV (aK (gK (.int 5)) (aK (gK (.int 141)) (aK (gK (.int 12)) bI))))) [(bQ 4),(bQ 5)] (uX)) (oD [1,2,3] (zU))))))
theorem Mo(G:Gd):E0 (n) (wH (iY MineH.o253v0) L 253 rS) (bS (at_ [7])) (vV):=by have T:=(dI w.params).tab L 253;exact (bF (dH (oR (nN (lc T 0) rfl) (dM (dN fun _ _=>rfl) (lc T 0) bE) bE) (lg T 1) rfl rfl rfl) (bF (kN (cE (ic (gR aO) (ic (gR aO) aO))) (eJ T (aG (i:=3) rfl) (eJ T (aG (i:=2) rfl) lW)) rfl rfl) (eK T.fk (bF (Ď T.fk (G.e T.fk rfl rfl zY (by kernel_rfl) (by decide)) (by exact ⟨rfl,trivial⟩) (bN dX (jP (lc T 0) (gU bE) (gU bE)) (eD (ic bE (ic bE (ic bE aO))))) rfl (dA (lg T 4) (ig (lg T 5) jL) rfl) (bF (kN (cE (ic (bN lJ (lc T 5) bE) (ic (gR aO) aO))) (eJ T (aG (i:=7) rfl) (eJ T (aG (i:=6) rfl) lW)) rfl rfl) (eK T.fk (bF (qO T.fk (Ej (G.e T.fk rfl rfl Mv (by kernel_rfl) (by decide)) (by exact ⟨rfl,trivial⟩) (ic bE aO) rfl) (lg T 8) (bF (dH (eD (ic (bN dX (bN dX (bN vX bE (lc T 4)) (bN vX bE (lc T 8))) bE) (ic (bN dX (bN dX (bN vX bE (lc T 4)) (bN vX bE (lc T 8))) bE) aO))) (lg T 9) rfl rfl rfl) (cM (iQ (cT jT (bN kB (bN lJ (lc T 6) bE) bE) (lc T 8) rfl) (cM (eC rfl rfl (jS bW rfl bP (gH T.fk) (lc T 7) (by exact ⟨rfl,trivial⟩) (ic (oR (cT jT (bN kB (lc T 1) bE) bE rfl) (eD aO) (bN dX (bN dX (jP (lc T 9) zP (gU bE)) (eD (ic (bN kB (bN lJ (lc T 6) bE) bE) aO))) (jP (lc T 9) (gU bE) zP))) aO) rfl))) (cM (eC rfl rfl (jS bW rfl bP (gH T.fk) (lc T 7) (by exact ⟨rfl,trivial⟩) (ic (jP (lc T 9) zP (gU (bN dX bE (bN kB (bN lJ (lc T 6) (dM (dN fun _ _=>rfl) (by refine cE ?_;exact (ic bE (ic bE (ic bE aO)))) (lc T 8))) bE)))) aO) rfl)))))) fun _=>rfl) (eK T.fk (bF (dH (jP (eD (ic (bN vX bE (lc T 4)) (ic (bN dX (bN vX bE (lc T 4)) bE) aO))) zP (gU (bN dX bE (bN kB (lc T 6) bE)))) (lg T 10) rfl rfl rfl) (bF (iQ (cT jT (bN kB (lc T 1) bE) bE rfl) (cM (dH (bN dX (eD (ic (bN kB (bN lJ (lc T 6) bE) bE) (ic (bN kB (bN lJ (lc T 6) bE) bE) aO))) (bN vX (eD (ic (bN kB (bN lJ (lc T 6) bE) bE) (ic (bN kB (bN lJ (lc T 6) bE) bE) aO))) (bN kB (lc T 6) bE))) (lg T 10) rfl rfl rfl)) hV) (eK T.fk (bF (eC rfl rfl (jS lU rfl bP (xT T.fk) (lc T 3) (by exact ⟨rfl,trivial⟩) (ic (bN vX (lc T 10) (bN kB (lc T 1) bE)) aO) rfl)) (cM (eC rfl rfl (jS bW rfl bP (gH T.fk) (lc T 2) (by exact ⟨rfl,trivial⟩) (ic (by refine cE ?_;exact (ic (lc T 10) (ic (lc T 7) (ic (by refine cE ?_;exact (ic (bN kB (lc T 5) bE) (ic (bN kB (bN lJ (lc T 5) bE) bE) (ic (bN kB (bN lJ (lc T 5) bE) bE) aO)))) aO)))) aO) rfl))))))))))) rfl fun _=>rfl) (eK T.fk (bF (iQ (cT jT (bN kB (bN lJ (lc T 1) bE) bE) bE rfl) (cM (dH (by refine cE ?_;exact (ic (eD aO) (ic (dM (dN fun _ _=>rfl) (dM (dN fun _ _=>rfl) (lc T 2) bE) bE) (ic (dM (dN fun _ _=>rfl) (dM (dN fun _ _=>rfl) (lc T 2) bE) bE) aO)))) (Vd T.fk (lc T 2) bE) rfl rfl rfl)) hV) (eK T.fk (bF (dH (by refine cE ?_;exact (ic (bN kB (bN lJ (lc T 1) bE) bE) (ic (bN kB (bN lJ (lc T 1) bE) bE) (ic (bN kB (bN lJ (lc T 1) bE) bE) aO)))) (lg T 11) rfl rfl rfl) (cM (kP (bN dX (lc T 2) (eD (ic (by refine cE ?_;exact (ic (eD (ic (C5 bE) (ic (C5 bE) aO))) (ic (eD (ic (eD aO) (ic (bN dX (eD (ic (C5 bE) aO)) (lc T 3)) (ic (eD (ic (C5 bE) aO)) aO)))) (ic (lc T 11) aO)))) aO)))))))))))))
end
section
open MineH (at_ bS fr)
noncomputable def tL:lK:=[aC "script",aC "spots",aC "versions",aC "orders",aC "matcher",aC "r",aC "s",aC "t",aC "more",aC "piece",aC "forms",aC "states",aC "state"]
theorem dlaw(P:fL):kO (iY MineH.o289v0) tL:=.ofC [aC "spots"] (by kernel_rfl) (iG ⟨by kernel_rfl,fun L=>by kernel_rfl⟩ (fun _ h=>nomatch h))
def C9:M V:=(eQ (aK (eQ (aK (gK (.int 0)) (aK (gK (.int 1)) (aK (gK (.int 2)) bI)))) (aK (eQ (aK (gK (.int 1)) (aK (gK (.int 2)) (aK (gK (.int 0)) bI)))) (aK (eQ (aK (gK (.int 2)) (aK (gK (.int 0)) (aK (gK (.int 1)) bI)))) (aK (eQ (aK (gK (.int 0)) (aK (gK (.int 2)) (aK (gK (.int 1)) bI)))) (aK (eQ (aK (gK (.int 2)) (aK (gK (.int 1)) (aK (gK (.int 0)) bI)))) (aK (eQ (aK (gK (.int 1)) (aK (gK (.int 0)) (aK (gK (.int 2)) bI)))) bI)))))))
def Db(dI cK af dJ eG cL:pV):Nat→M Fl:=(uK (eE (bD Di (gB dJ (aK (aJ 4) (aK (bD eF (aJ 2) (aJ 5)) (aK (bD eF (aJ 2) (aJ 6)) (aK (bD eF (aJ 2) (aJ 7)) bI))))) (gB eG (aK (aJ 1) (aK (aJ 5) (aK (aJ 6) (aK (aJ 7) bI))))))) (uA (gK (.bool false))) (kY .next))
def Dc(dI cK af dJ eG cL:pV):Nat→M Fl:=(dP (eS (gB cL (aK (bD eF (aJ 11) (aJ 5)) (aK (bD eF (aJ 11) (aJ 6)) (aK (bD eF (aJ 11) (aJ 7)) bI)))) (bQ 12)) (tE (vE eY (aJ 8) (aK (eQ (aK (aJ 9) (aK (aJ 10) (aK (bD fQ (aJ 11) (eQ (aK (rM (eE (bD Cc (aJ 12) (gK (.int 0)))) (bD eF (aJ 11) (aJ 5)) (aJ 12)) bI))) bI)))) bI))))
def H3(dI cK af dJ eG cL:pV):Nat→M Fl:=(Ĩ (uK (eE (bD Di (gB dJ (aK (aJ 4) (aK (bD eF (aJ 2) (aJ 6)) (aK (gB cK (aK (aJ 8) (aK (gK (.int 3)) bI))) (aK (bD eF (aJ 2) (aJ 5)) bI))))) (gB eG (aK (aJ 8) (aK (aJ 6) (aK (gK (.int 3)) (aK (aJ 5) bI))))))) (uA (gK (.bool false))) (kY .next)))
def Da(dI cK af dJ eG cL:pV):Nat→M Fl:=(dP (eS (mW bI) (bQ 8)) (oD [1,2,4,5,6,7,8] (dP (yD [1,2,4,5,6,7,8] (iF (aJ 1)) (Jf [(bQ 9),(bQ 10),(bQ 11)]) (Dc dI cK af dJ eG cL)) (oD [1,2,4,5,6,8] (H3 dI cK af dJ eG cL)))))
def Vg(dI cK af dJ eG cL:pV):Nat→M Fl:=(uA (gK (.bool true)))
def Mu(dI cK af dJ eG cL:pV):Nat→M Fl:=(oD [1,2,3,4] (dP (yD [1,2,4] (iF (aJ 3)) (Jf [(bQ 5),(bQ 6),(bQ 7)]) (Da dI cK af dJ eG cL)) (oD [] (Vg dI cK af dJ eG cL))))
def aBq(dI cK af dJ eG cL:pV):Nat→M Fl:=(dP (eS (gB dI (aK (aJ 0) bI)) (bQ 1)) (dP (eS (uY 100 (yA (aK (gK (.int 3)) bI)) (bQ 100) (lP (gB cK (aK (aJ 1) (aK (aJ 100) bI))))) (bQ 2)) (dP (eS C9 (bQ 3)) (dP (eS (gB af bI) (bQ 4)) (oD [1,2,3,4] (dP (yD [1,2,3,4] (iF (aJ 3)) (Jf [(bQ 5),(bQ 6),(bQ 7)]) (Db dI cK af dJ eG cL)) (Mu dI cK af dJ eG cL)))))))
theorem aLc:bS (at_ [13])=[(bS (at_ [13])).getD 0 default,(bS (at_ [13])).getD 1 default,(bS (at_ [13])).getD 2 default,(bS (at_ [13])).getD 3 default,(bS (at_ [13])).getD 4 default,(bS (at_ [13])).getD 5 default,(bS (at_ [13])).getD 6 default]:=by kernel_rfl
section
variable{n:Nat}{L:dF}(G:Gd){dI:pV}(bx:∀F,Dr (n) F (.ref 253) dI){cK:pV}(be:∀F,Dr (n) F (.ref 258) cK){af:pV}(ba:Dr (n) (wH (iY MineH.o289v0) L 289 tL) (.ref 242) af){dJ:pV}(br:∀F,iL F→Dr (n) F (.ref 284) dJ){eG:pV}(b7:∀F,Dr (n) F (.ref 270) eG){cL:pV}(bu:∀F,Dr (n) F (.ref 265) cL)
include G bx be ba br b7 bu
theorem č:Ez (n) (wH (iY MineH.o289v0) L 289 tL) ((bS (at_ [13])).getD 0 default) (eS (gB dI (aK (aJ 0) bI)) (bQ 1)):=by have T:=(dlaw w.params).tab L 289;exact (dH (fV (G.e T.fk rfl rfl Mx (by kernel_rfl) (by decide)) (.inr (.inr ⟨253,_,_,rfl,G.K 253 MineH.o253v0 (by kernel_rfl),rfl⟩)) (bx _) (by exact ⟨rfl,trivial⟩) (ic (lc T 0) aO) rfl) (lg T 1) rfl rfl rfl)
theorem Č:Ez (n) (wH (iY MineH.o289v0) L 289 tL) ((bS (at_ [13])).getD 1 default) (eS (uY 100 (yA (aK (gK (.int 3)) bI)) (bQ 100) (lP (gB cK (aK (aJ 1) (aK (aJ 100) bI))))) (bQ 2)):=by have T:=(dlaw w.params).tab L 289;exact (aBb (base:=100) (names:=[aC "v"]) (cap:=[(1,aC "spots")]) T rfl (aG (i:=2) rfl) (Ee (by decide)) (by decide) (by decide) (fun _=>rfl) rfl rfl rfl rfl (.cons (aG (i:=1) rfl) rfl rfl rfl .nil) (.cons rfl .nil) (Ej (G.e T.fk rfl rfl Mv (by kernel_rfl) (by decide)) (by exact ⟨rfl,trivial⟩) (ic bE aO) rfl) (fun C T1=>(lg T1 1)) (fun C T1=>(fV (G.e T1.fk rfl rfl zZ (by kernel_rfl) (by decide)) (.inr (.inr ⟨258,_,_,rfl,G.K 258 MineH.o258v0 (by kernel_rfl),rfl⟩)) (be _) (by exact ⟨rfl,⟨rfl,trivial⟩⟩) (ic (lc T1 0) (ic (lc T1 1) aO)) rfl)))
theorem ċ:Ez (n) (wH (iY MineH.o289v0) L 289 tL) ((bS (at_ [13])).getD 2 default) (eS C9 (bQ 3)):=by
 have T:=(dlaw w.params).tab L 289;exact (by
  unfold C9;refine dH ?_ ?_ ?_ ?_ ?_;rotate_left 1
  ·exact (lg T 3)
  ·rfl
  ·rfl
  ·rfl
  refine cE ?_;refine cR ?_ ?_ ?_;rotate_left 2;exact mR rfl
  ·refine cE ?_;refine cR ?_ ?_ ?_;rotate_left 2;exact mR rfl
   ·exact bE
   refine cR ?_ ?_ ?_;rotate_left 2;exact mR rfl
   ·exact bE
   refine cR ?_ ?_ ?_;rotate_left 2;exact mR rfl
   ·exact bE
   exact aO
  refine cR ?_ ?_ ?_;rotate_left 2;exact mR rfl
  ·refine cE ?_;refine cR ?_ ?_ ?_;rotate_left 2;exact mR rfl
   ·exact bE
   refine cR ?_ ?_ ?_;rotate_left 2;exact mR rfl
   ·exact bE
   refine cR ?_ ?_ ?_;rotate_left 2;exact mR rfl
   ·exact bE
   exact aO
  refine cR ?_ ?_ ?_;rotate_left 2;exact mR rfl
  ·refine cE ?_;refine cR ?_ ?_ ?_;rotate_left 2;exact mR rfl
   ·exact bE
   refine cR ?_ ?_ ?_;rotate_left 2;exact mR rfl
   ·exact bE
   refine cR ?_ ?_ ?_;rotate_left 2;exact mR rfl
   ·exact bE
   exact aO
  refine cR ?_ ?_ ?_;rotate_left 2;exact mR rfl
  ·refine cE ?_;refine cR ?_ ?_ ?_;rotate_left 2;exact mR rfl
   ·exact bE
   refine cR ?_ ?_ ?_;rotate_left 2;exact mR rfl
   ·exact bE
   refine cR ?_ ?_ ?_;rotate_left 2;exact mR rfl
   ·exact bE
   exact aO
  refine cR ?_ ?_ ?_;rotate_left 2;exact mR rfl
  ·refine cE ?_;refine cR ?_ ?_ ?_;rotate_left 2;exact mR rfl
   ·exact bE
   refine cR ?_ ?_ ?_;rotate_left 2;exact mR rfl
   ·exact bE
   refine cR ?_ ?_ ?_;rotate_left 2;exact mR rfl
   ·exact bE
   exact aO
  refine cR ?_ ?_ ?_;rotate_left 2;exact mR rfl
  ·refine cE ?_;refine cR ?_ ?_ ?_;rotate_left 2;exact mR rfl
   ·exact bE
   refine cR ?_ ?_ ?_;rotate_left 2;exact mR rfl
   ·exact bE
   refine cR ?_ ?_ ?_;rotate_left 2;exact mR rfl
   ·exact bE
   exact aO
  exact aO
 )
theorem Ċ:Ez (n) (wH (iY MineH.o289v0) L 289 tL) ((bS (at_ [13])).getD 3 default) (eS (gB af bI) (bQ 4)):=by have T:=(dlaw w.params).tab L 289;exact (dH (Kz G.K (by kernel_rfl) (G.e T.fk rfl rfl Dg (by kernel_rfl) (by decide)) ba (by exact trivial) aO rfl) (lg T 4) rfl rfl rfl)
theorem ĉ:Ez (n) (wH (iY MineH.o289v0) L 289 tL) ((bS (at_ [13])).getD 4 default) (yD [1,2,3,4] (iF (aJ 3)) (Jf [(bQ 5),(bQ 6),(bQ 7)]) (Db dI cK af dJ eG cL)):=by have T:=(dlaw w.params).tab L 289;exact (qO T.fk (pR (lc T 3)) (lC (dA (lg T 5) (dA (lg T 6) (ig (lg T 7) jL) rfl) rfl)) (cM (iQ (cT yC (fV (G.e T.fk rfl rfl Df (by kernel_rfl) (by decide)) (.inr (.inr ⟨284,_,_,rfl,G.K 284 MineH.o284v0 (by kernel_rfl),rfl⟩)) (br _ T.fk) (by exact ⟨rfl,⟨rfl,⟨rfl,⟨rfl,trivial⟩⟩⟩⟩) (ic (lc T 4) (ic (dM (dN fun _ _=>rfl) (lc T 2) (lc T 5)) (ic (dM (dN fun _ _=>rfl) (lc T 2) (lc T 6)) (ic (dM (dN fun _ _=>rfl) (lc T 2) (lc T 7)) aO)))) rfl) (fV (G.e T.fk rfl rfl H5 (by kernel_rfl) (by decide)) (.inr (.inr ⟨270,_,_,rfl,G.K 270 MineH.o270v0 (by kernel_rfl),rfl⟩)) (b7 _) (by exact ⟨rfl,⟨rfl,⟨rfl,⟨rfl,trivial⟩⟩⟩⟩) (ic (lc T 1) (ic (lc T 5) (ic (lc T 6) (ic (lc T 7) aO)))) rfl) rfl) (cM (kP Hv)) hV)) fun _=>rfl)
theorem Ĉ:Ez (n) (wH (iY MineH.o289v0) L 289 tL) ((bS (at_ [13])).getD 5 default) (yD [1,2,4] (iF (aJ 3)) (Jf [(bQ 5),(bQ 6),(bQ 7)]) (Da dI cK af dJ eG cL)):=by have T:=(dlaw w.params).tab L 289;exact (qO T.fk (pR (lc T 3)) (lC (dA (lg T 5) (dA (lg T 6) (ig (lg T 7) jL) rfl) rfl)) (bF (dH (gR aO) (lg T 8) rfl rfl rfl) (eK T.fk (bF (qO T.fk (pR (lc T 1)) (lC (dA (lg T 9) (dA (lg T 10) (ig (lg T 11) jL) rfl) rfl)) (bF (dH (fV (G.e T.fk rfl rfl Fd (by kernel_rfl) (by decide)) (.inr (.inr ⟨265,_,_,rfl,G.K 265 MineH.o265v0 (by kernel_rfl),rfl⟩)) (bu _) (by exact ⟨rfl,⟨rfl,⟨rfl,trivial⟩⟩⟩) (ic (dM (dN fun _ _=>rfl) (lc T 11) (lc T 5)) (ic (dM (dN fun _ _=>rfl) (lc T 11) (lc T 6)) (ic (dM (dN fun _ _=>rfl) (lc T 11) (lc T 7)) aO))) rfl) (lg T 12) rfl rfl rfl) (cM (eC rfl rfl (jS bW rfl bP (gH T.fk) (lc T 8) (by exact ⟨rfl,trivial⟩) (ic (by refine cE ?_;exact (ic (lc T 9) (ic (lc T 10) (ic (bN dX (lc T 11) (by refine cE ?_;exact (ic (oR (cT qC (lc T 12) bE rfl) (dM (dN fun _ _=>rfl) (lc T 11) (lc T 5)) (lc T 12)) aO))) aO)))) aO) rfl)))) fun _=>rfl) (eK T.fk (Vc T.fk (cM (iQ (cT yC (fV (G.e T.fk rfl rfl Df (by kernel_rfl) (by decide)) (.inr (.inr ⟨284,_,_,rfl,G.K 284 MineH.o284v0 (by kernel_rfl),rfl⟩)) (br _ T.fk) (by exact ⟨rfl,⟨rfl,⟨rfl,⟨rfl,trivial⟩⟩⟩⟩) (ic (lc T 4) (ic (dM (dN fun _ _=>rfl) (lc T 2) (lc T 6)) (ic (fV (G.e T.fk rfl rfl zZ (by kernel_rfl) (by decide)) (.inr (.inr ⟨258,_,_,rfl,G.K 258 MineH.o258v0 (by kernel_rfl),rfl⟩)) (be _) (by exact ⟨rfl,⟨rfl,trivial⟩⟩) (ic (lc T 8) (ic bE aO)) rfl) (ic (dM (dN fun _ _=>rfl) (lc T 2) (lc T 5)) aO)))) rfl) (fV (G.e T.fk rfl rfl H5 (by kernel_rfl) (by decide)) (.inr (.inr ⟨270,_,_,rfl,G.K 270 MineH.o270v0 (by kernel_rfl),rfl⟩)) (b7 _) (by exact ⟨rfl,⟨rfl,⟨rfl,⟨rfl,trivial⟩⟩⟩⟩) (ic (lc T 8) (ic (lc T 6) (ic bE (ic (lc T 5) aO)))) rfl) rfl) (cM (kP Hv)) hV))))))) fun _=>rfl)
theorem ć:Ez (n) (wH (iY MineH.o289v0) L 289 tL) ((bS (at_ [13])).getD 6 default) (uA (gK (.bool true))):=by have T:=(dlaw w.params).tab L 289;exact (kP Hv)
theorem aLe:E0 (n) (wH (iY MineH.o289v0) L 289 tL) (bS (at_ [13])) (aBq dI cK af dJ eG cL):=by have T:=(dlaw w.params).tab L 289;rw [aLc];have a:= @č n L G dI bx cK be af ba dJ br eG b7 cL bu;have b:= @Č n L G dI bx cK be af ba dJ br eG b7 cL bu;have c:= @ċ n L G dI bx cK be af ba dJ br eG b7 cL bu;have d:= @Ċ n L G dI bx cK be af ba dJ br eG b7 cL bu;have e:= @ĉ n L G dI bx cK be af ba dJ br eG b7 cL bu;have f:= @Ĉ n L G dI bx cK be af ba dJ br eG b7 cL bu;have g:= @ć n L G dI bx cK be af ba dJ br eG b7 cL bu;generalize h0:(bS (at_ [13])).getD 0 default=h at a⊢;generalize i:(bS (at_ [13])).getD 1 default=j at b⊢;generalize k:(bS (at_ [13])).getD 2 default=l at c⊢;generalize m:(bS (at_ [13])).getD 3 default=o at d⊢;generalize p:(bS (at_ [13])).getD 4 default=r at e⊢;generalize s:(bS (at_ [13])).getD 5 default=t at f⊢;generalize u:(bS (at_ [13])).getD 6 default=v at g⊢;refine bF a ?_;refine bF b ?_;refine bF c ?_;refine bF d ?_;refine eK T.fk ?_;refine bF e ?_;refine eK T.fk ?_;refine bF f ?_;refine eK T.fk ?_;exact cM g
end
end
section
open MineH (at_ bS fr)
noncomputable def oF(b o t:Int):Int:=if o=t∨t=b then o else if o=b then t else -1
theorem Zk(hx:lk σ.loc x=some (.int a))(hy:lk σ.loc y=some (.int b)):eE (bD qS (aJ x) (aJ y)) σ=some (decide (a=b),σ):=kD (dC (aT hx) (aT hy) (Kh a b))
theorem wR(e:c σ=some (t,τ))(d:t=true→a τ=r)(f:t=false→b τ=r):rM c a b σ=r:=by
 unfold rM;rw [e];cases t
 ·exact f rfl
 ·exact d rfl
theorem Æ(b o t:Int):Go (B1 0 ⟨[(0,.int b),(1,.int o),(2,.int t)],[],0⟩) fun f τ=>f=.ret (.int (oF b o t)):=by
 let c:St:=⟨[(0,.int b),(1,.int o),(2,.int t)],[],0⟩;unfold B1 oF;refine bR (nP (aEk (gZ (Zk (σ:=c) (a:=o) (b:=t) rfl rfl) ?_)));by_cases d:o=t
 ·rw [iD d];have e:(if o=t∨t=b then o else if o=b then t else -1)=o:=if_pos (.inl d);exact qQ (aT rfl) (by rw [e])
 ·rw [fJ d];refine aEk (gZ (Zk (σ:=c) (a:=t) (b:=b) rfl rfl) ?_);by_cases g:t=b
  ·rw [iD g];have e:(if o=t∨t=b then o else if o=b then t else -1)=o:=if_pos (.inr g);exact qQ (aT rfl) (by rw [e])
  ·rw [fJ g];have i:(if o=t∨t=b then o else if o=b then t else -1)=(if o=b then t else -1):=if_neg (fun z=>z.elim d g);refine Em ?_;refine iR ?_;refine fW (σ':=c) rfl ?_;refine qQ (τ:=c) (v:=.int (if o=b then t else -1)) ?_ (by rw [i]);refine wR (Zk (σ:=c) (a:=o) (b:=b) rfl rfl) (fun h=>?_) (fun h=>?_)
   ·rw [if_pos (of_decide_eq_true h)];rfl
   ·rw [if_neg (of_decide_eq_false h)];rfl
section
variable{n:Nat}
theorem aL1(G:Gd)(b o t:Int):Ŝ (n+1) (.ref 265) [.int b,.int o,.int t] (fun r=>r=.int (oF b o t)):=by
 refine Yl.c (Ac (fd:=iY MineH.o265v0) (o:=MineH.o265v0) (tab:=xR) (body:=bS (at_ [9])) (cL w.params) (G.K 265 _ (by kernel_rfl)) rfl G.lim (codeRec_of G.K (by kernel_rfl)) rfl (fun vs h=>?_) (by show (3:Nat)≤3;decide) rfl fun L=>?_)
 ·revert vs;exact ll3 fun _ _ _=>by kernel_rfl
 ·obtain ⟨f,τ,e,rfl⟩:=Æ b o t;refine jC (Pn G 0 _ _ _ e) ?_;rintro _ _ ⟨rfl,rfl⟩;exact ⟨_,rfl,rfl,rfl⟩
end
def wA:bV→nX:=aI3 fun b o t=>aN (some (.int (oF b o t)))
theorem Ì(G:Gd)(F:Fx):Dr (n+1) F (.ref 265) (Do wA):=G9 fun us r _ e=>by refine I0 e fun b o t _ e=>?_;refine oM e fun e=>?_;cases e;exact aL1 G _ _ _
abbrev eX:=bH×List bH×nH
def jX(s:eX):V:=.tup [vL s.1,.lst (s.2.1.map vL),.tup (s.2.2.map vN)]
def frm(s:eX)(v:Nat):bH:=s.2.1.getD (s.2.2.getD v 0) []
noncomputable def eZ(sp:List eX)(v:Nat):bH:=sp.flatMap fun s=>s.1++frm s v
structure Fs(v:Nat)(s:eX):Prop where
 a:v<s.2.2.length
 b:s.2.2.getD v 0<s.2.1.length
 c:s.1.length≤1000
 d:s.2.1.length≤1000
 e:s.2.2.length≤1000
 f:∀f∈s.2.1,f.length≤1000
theorem Ci:∀l:List bH,cS (l.map vL)=true:=by
 intro b
 induction b with
 |nil=>exact rfl
 |cons a r c=>simp only [cC,cP,cO,eP,qL];exact c
theorem Zq(s:eX):(jX s).pure=true:=by show cS [vL s.1,.lst (s.2.1.map vL),.tup (s.2.2.map vN)]=true;simp only [cP,cO,eP,pQ,pP,pO,pN,mU,mT,Ci,rH,fD]
theorem iX:∀l:List eX,cS (l.map jX)=true:=by
 intro b
 induction b with
 |nil=>exact rfl
 |cons a r c=>simp only [cC,cP,cO,Zq,qL];exact c
theorem S5(x:Nat):∀(ds:bV)(σ:St),∃σ',yJ (bQ x) (lP (aJ x)) ds σ=some (ds,σ')∧σ'.cells=σ.cells∧σ'.next=σ.next∧∀y,y≠x→lk σ'.loc y=lk σ.loc y:=by
 intro a
 induction a with
 |nil=>intro σ;exact ⟨σ,rfl,rfl,rfl,fun _ _=>rfl⟩
 |cons d r b=>
  intro σ;obtain ⟨σ',e,c,f,g⟩:=b {σ with loc:=kX x d σ.loc};refine ⟨σ',?_,c,f,fun y hy=>?_⟩
  ·simp only [Np,No];show bd (lP (aJ x) {σ with loc:=kX x d σ.loc}) _=_;have:aJ x {σ with loc:=kX x d σ.loc}=some (d,{σ with loc:=kX x d σ.loc}):=aT (by simp [iU]);unfold lP;rw [this];show bd (yJ (bQ x) (lP (aJ x)) r {σ with loc:=kX x d σ.loc}) _=_;rw [e];rfl
  ·rw [g y hy];simp [iU,hy]
theorem Wf:∀(e:List eX)(σ:St),lk σ.loc 1=some (vN v)→(∀s∈e,Fs v s)→∃σ',yJ (Jf [bQ 100,bQ 101,bQ 102]) (H6 (iF (bD fQ (aJ 100) (bD eF (aJ 101) (bD eF (aJ 102) (aJ 1))))) (bQ 103) (lP (aJ 103))) (e.map jX) σ=some ((eZ e v).map V.int,σ')∧σ'.cells=σ.cells:=by
 intro t
 induction t with
 |nil=>intro σ _ _;exact ⟨σ,rfl,rfl⟩
 |cons s r u=>
  intro σ x zC;obtain ⟨p,b,st⟩:=s;obtain ⟨j,f,k,l,m,o⟩:=zC (p,b,st) aU;simp only at j f k l m o;let σ1:St:={σ with loc:=kX 102 (.tup (st.map vN)) (kX 101 (.lst (b.map vL)) (kX 100 (vL p) σ.loc))};have y:Jf [bQ 100,bQ 101,bQ 102] (jX (p,b,st)) σ=some σ1:=rfl;have l1:lk σ1.loc 1=some (vN v):=by simp [σ1,iU,x]
  have z:(st.map vN)[v]?=some (vN (st.getD v 0)):=sZ 0 j;have g:(b.map vL)[st.getD v 0]?=some (vL (b.getD (st.getD v 0) [])):=sZ [] f;have h:=o _ (aG (tC [] f));have i:lim=1048576:=rfl;have A:bD fQ (aJ 100) (bD eF (aJ 101) (bD eF (aJ 102) (aJ 1))) σ1=some (vL (p++b.getD (st.getD v 0) []),σ1):=by refine dC (a:=vL p) (aT (by simp [σ1,iU])) (dC (a:=.lst (b.map vL)) (aT (by simp [σ1,iU])) (dC (a:=.tup (st.map vN)) (aT (by simp [σ1,iU])) (aT l1) (tJ z (by simp;exact aS Xa m i))) (rE g (by simp;exact aS Xa l i))) ?_;show (if (p.map V.int).length+((b.getD (st.getD v 0) []).map V.int).length≤lim then some (V.lst (p.map V.int++(b.getD (st.getD v 0) []).map V.int),σ1)else aF)=_;rw [if_pos (by simp only [bC];exact aS 0xe8c5224040bc6318c63861271df9c29c77e7003 k h i),←bX];rfl
  obtain ⟨d,B,c2,H,C⟩:=S5 103 ((p++b.getD (st.getD v 0) []).map V.int) σ1;have l2:lk d.loc 1=some (vN v):=by rw [C 1 (by decide)];exact l1
  obtain ⟨c,D,c3⟩:=u d l2 fun s F=>zC s (bB _ F);refine ⟨c,?_,c3.trans c2⟩;simp only [cC];simp only [Np,No];rw [y];show bd (H6 _ _ _ σ1) _=_;have G:H6 (iF (bD fQ (aJ 100) (bD eF (aJ 101) (bD eF (aJ 102) (aJ 1))))) (bQ 103) (lP (aJ 103)) σ1=some ((p++b.getD (st.getD v 0) []).map V.int,d):=by unfold H6;rw [vM A (oG _)];exact B
  rw [G];show bd (yJ _ _ (r.map jX) d) _=_;rw [D];show some ((p++b.getD (st.getD v 0) []).map V.int++(eZ r v).map V.int,c)=_;rw [←bX];rfl
theorem Ol(zC:∀s∈a,Fs v s)(c:(eZ a v).length≤1000):Go (wJ 0 ⟨[(0,.lst (a.map jX)),(1,vN v)],[],0⟩) fun f τ=>f=.ret (vL (eZ a v)):=by have d:lim=1048576:=rfl;let b:St:=⟨[(0,.lst (a.map jX)),(1,vN v)],[],0⟩;unfold wJ;obtain ⟨σ',e,_⟩:=Wf a b rfl zC;refine qQ (v:=vL (eZ a v)) (τ:=Jz 100 σ') ?_ rfl;unfold uY;rw [vM (aT (v:=.lst (a.map jX)) rfl) (iX a)];show bd (yJ _ _ (a.map jX) b) _=_;rw [e];show (if ((eZ a v).map V.int).length≤lim then _ else _)=_;rw [if_pos (by simp only [bC];exact aS Xa c d)];rfl
section
variable{n:Nat}
theorem ő(G:Gd)(zC:∀s∈a,Fs v s)(b:(eZ a v).length≤1000):Ŝ (n+1) (.ref 258) [.lst (a.map jX),vN v] (fun r=>r=vL (eZ a v)):=by
 refine Yl.c (Ac (fd:=iY MineH.o258v0) (o:=MineH.o258v0) (tab:=tM) (body:=bS (at_ [8])) (cK w.params) (G.K 258 _ (by kernel_rfl)) rfl G.lim (codeRec_of G.K (by kernel_rfl)) rfl (fun vs h=>?_) (by show (2:Nat)≤2;decide) (by simp only [cP,cO,pQ,pP,pO,pN,mU,mT,iX];rfl) fun L=>?_)
 ·revert vs;exact ll2 fun _ _=>by kernel_rfl
 ·obtain ⟨f,τ,e,rfl⟩:=Ol zC b;refine jC (Hr G 0 _ _ _ e) ?_;rintro _ _ ⟨rfl,rfl⟩;exact ⟨_,eA (eP _),eP _,rfl⟩
end
end
section
open MineH (at_ bS fr)
abbrev vH:=Nat×Nat×Nat×mZ×bH
def jR(r:vH):V:=.tup [vN r.1,vN r.2.1,vN r.2.2.1,.str r.2.2.2.1.s,vL r.2.2.2.2]
def pB(L:bH)(a b:Nat):bH:=(L.drop a).take (b-a)
def wL(A B:bH):List Qm→Nat→Nat→Option Bool→Prop
 |[],i,j,_=>i=A.length∧j=B.length
 |(bv,i1,i2,j1,j2)::r,i,j,cf=>i1=i∧j1=j∧i1≤i2∧i2≤A.length∧j1≤j2∧j2≤B.length∧((pB A i1 i2=pB B j1 j2∧pB B j1 j2≠[])↔bv=.equal)∧cf≠some (decide (bv=.equal))∧wL A B r i2 j2 (some (decide (bv=.equal)))
theorem V8:wL A B ((d,e,b,c,a)::r) i j f=(e=i∧c=j∧e≤b∧b≤A.length∧c≤a∧a≤B.length∧((pB A e b=pB B c a∧pB B c a≠[])↔d=.equal)∧f≠some (decide (d=.equal))∧wL A B r b a (some (decide (d=.equal)))):=rfl
def eU(B:bH)(side:Nat):List Qm→List vH
 |[]=>[]
 |(bv,i1,i2,j1,j2)::r=>if bv=.equal then eU B side r else (i1,i2,side,bv,pB B j1 j2)::eU B side r
theorem D8:eU B side []=([]):=rfl
theorem wU:eU B side ((a,b,c,d,e)::r)=(if a=.equal then eU B side r else (b,c,side,a,pB B d e)::eU B side r):=rfl
noncomputable def Oq:Option Bool→V
 |aF=>.none
 |some b=>.bool b
theorem Q8:∀l,(Oq l).pure=true
 |aF=>rfl
 |some _=>rfl
theorem Wi(r:vH):(jR r).pure=true:=by refine (?_:cS [vN r.1,vN r.2.1,vN r.2.2.1,.str r.2.2.2.1.s,vL r.2.2.2.2]=true);simp only [cP,cO,eP];rfl
theorem rG:∀l:List vH,cS (l.map jR)=true:=by
 intro b
 induction b with
 |nil=>exact rfl
 |cons a r c=>simp only [cC,cP,cO,Wi];exact c
theorem aFn(t:mZ):Qv t.s=true:=by cases t<;>decide+kernel
theorem aFo(t u:mZ):t.s=u.s↔t=u:=by cases t<;>cases u<;>decide+kernel
theorem It(n:Nat)(t:mZ):ed n (.str t.s)=true:=by cases n<;>exact aFn t
theorem aEp(n a:Nat):ed n (vN a)=true:=by cases n<;>rfl
theorem Ls(t u:mZ):qS (.str t.s) (.str u.s) σ=some (.bool (decide (t=u)),σ):=
 (Kg (eA rfl) (eA rfl) (It 64 t) (It 64 u) ⟨fun e=>(aFo t u).mp (V.str.inj e),congrArg fun t:mZ=>V.str t.s⟩).1
theorem aI5(a b:Bool):Di (.bool a) (.bool b) σ=some (.bool (!(a==b)),σ):=by cases a<;>cases b<;>rfl
theorem aI9(a b:Bool):qS (.bool a) (.bool b) σ=some (.bool (a==b),σ):=by cases a<;>cases b<;>rfl
theorem aFf(a:Bool):qS (.bool a) .none σ=some (.bool false,σ):=by cases a<;>rfl
theorem Zm(a b:bH):qS (vL a) (vL b) σ=some (.bool (decide (a=b)),σ)∧Di (vL a) (vL b) σ=some (.bool (!decide (a=b)),σ):=
 Kg (eA (eP a)) (eA (eP b)) (Vo 63 a) (Vo 63 b) ⟨fun e=>Hq (V.lst.inj e),congrArg vL⟩
theorem Zn(a b:bH):qS (vL a) (vL b) σ=some (.bool (decide (a=b)),σ):=(Zm a b).1
theorem aI4(a b:bH):Di (vL a) (vL b) σ=some (.bool (!decide (a=b)),σ):=(Zm a b).2
theorem Zl(a b:Nat):qS (.tup [vN a,vN b]) (.tup [vN a,vN b]) σ=some (.bool true,σ)∧Di (.tup [vN a,vN b]) (.tup [vN a,vN b]) σ=some (.bool false,σ):=
 Kg (P:=True) (eA rfl) (eA rfl) rfl rfl ⟨fun _=>trivial,fun _=>rfl⟩
theorem aI6(a b:Nat):Di (.tup [vN a,vN b]) (.tup [vN a,vN b]) σ=some (.bool false,σ):=(Zl a b).2
theorem aJa(a b:Nat):qS (.tup [vN a,vN b]) (.tup [vN a,vN b]) σ=some (.bool true,σ):=(Zl a b).1
theorem aFb(hx:lk σ.loc x=some (vL L))(hy:lk σ.loc y=some (vN a))(d:lk σ.loc z=some (vN b))(g:a≤L.length)(i:b≤L.length)(e:L.length≤1000):iE (aJ x) (fY (aJ y)) (fY (aJ z)) σ=some (vL (pB L a b),σ):=by
 have f:lim=1048576:=rfl;unfold iE;rw [aT hx];refine (?_:bd (fY (aJ y) σ) _=_);have c:∀{y a:Nat},lk σ.loc y=some (vN a)→fY (aJ y) σ=some (some (a:Int),σ):=fun h=>by unfold fY;rw [aT h];rfl
 rw [c hy];show bd (fY (aJ z) σ) _=_;rw [c d];show (if (L.map V.int).length≤lim then some (V.lst (pySl (L.map V.int) (some (a:Int)) (some (b:Int))),σ)else aF)=_;rw [if_pos (by rw [bC];exact aS Xa e f),L2];simp only [pB,vL,E6,E7]
theorem aFg{f f':V→V→M V}(d:e σ=some (a,σ))(g:gr σ=some (b,σ))(h:f a b σ=some (.bool t,σ))(i:c σ=some (b',σ))(j:t=true→f' b b' σ=r)(k:t=false→r=some (.bool false,σ)):Py f f' e gr c σ=r:=by
 unfold Py;simp only [d];refine (?_:bd (gr σ) _=_);simp only [g];show bd (f a b σ) _=_;rw [h];show (if t=true then bd (c σ) _ else _)=_;cases t
 ·exact (k rfl).symm
 ·rw [if_pos rfl,i];exact j rfl
section
variable{A B:bH}{side:Nat}
def sC(A B:bH)(side:Nat)(x:List (Nat×V))(i j:Nat)(cf:Option Bool)(b8:List vH):St:=
 ⟨x++[(1,vL A),(2,vL B),(3,vN side),(4,.ref 0),(5,vN i),(6,vN j),(7,Oq cf)],[(0,.list (b8.map jR))],1⟩
inductive JC(A B:bH)(side:Nat)(cs:List Qm)(p:Nat)(τ:St):Prop
 |mk (x:List (Nat×V)) (i j:Nat) (cf:Option Bool) (b8:List vH) (h:x=[]∨x=[(0,V.lst (cs.map Ch))]) (e:τ=sC A B side x i j cf b8) (l:b8.length≤p) (g:b8++eU B side (cs.drop p)=eU B side cs) (c:wL A B (cs.drop p) i j cf)
theorem Ō(hA:A.length≤1000)(hB:B.length≤1000)(hn:cs.length≤1000)(ht:cs[p]?=some t)(hj:JC A B side cs p τ):
  ∃τ',Jf [bQ 8,bQ 9,bQ 10,bQ 11,bQ 12] (Ch t) τ=some τ'∧Go (oS 1 τ') (Ao [1,2,3,4,5,6,7] 1 (JC A B side cs (p+1)) (fun _=>False) (fun _ _=>False)):=by
 have bp:lim=1048576:=rfl;obtain ⟨x,i,j,G,m,hx,rfl,R,C,H⟩:=hj;obtain ⟨k,g,h,d,f⟩:=t;obtain ⟨hp,ep⟩:=cW.mp ht;have hd:cs.drop p=(k,g,h,d,f)::cs.drop (p+1):=by rw [lT hp,ep]
 rw [hd]at C H;obtain ⟨rfl,rfl,a1,a2,b1,I,n3,vn,H⟩:=H;have cm:∀(J N:Nat)(l':Option Bool)(y:List vH)(τ:St),C1 [1,2,3,4,5,6,7] τ=sC A B side [] J N l' y→y.length≤p+1→y++eU B side (cs.drop (p+1))=eU B side cs→wL A B (cs.drop (p+1)) J N l'→I6 [1,2,3,4,5,6,7] 1 (JC A B side cs (p+1)) τ:=fun J N l' y τ e T W h3=>
  ⟨_,mX e (by refine (?_:(zE [_,_,_,_,_,_,_] _)=true);simp only [eT,jQ,fX (eP A),fX (eP B),fX (Q8 l')];rfl) (dO (by decide) (eB (c:=.list (y.map jR)) (eM (rG _))) iM),[],J,N,l',y,.inl rfl,rfl,T,W,h3⟩
 generalize D:decide (k=mZ.equal)=s at *;let st:List (Nat×V)→St:=fun x=>⟨x++[(1,vL A),(2,vL B),(3,vN side),(4,.ref 0),(5,vN g),(6,vN d),(7,Oq G),(8,.str k.s),(9,vN g),(10,vN h),(11,vN d),(12,vN f)],[(0,.list (m.map jR))],1⟩;let O:List (Nat×V)→St:=fun x=>⟨x++[(1,vL A),(2,vL B),(3,vN side),(4,.ref 0),(5,vN g),(6,vN d),(7,Oq G),(8,.str k.s),(9,vN g),(10,vN h),(11,vN d),(12,vN f),(13,.bool s)],[(0,.list (m.map jR))],1⟩;have same:∀σ:St,lk σ.loc 1=some (vL A)→lk σ.loc 2=some (vL B)→lk σ.loc 9=some (vN g)→lk σ.loc 10=some (vN h)→lk σ.loc 11=some (vN d)→lk σ.loc 12=some (vN f)→Py qS Di (iE (aJ 1) (fY (aJ 9)) (fY (aJ 10))) (iE (aJ 2) (fY (aJ 11)) (fY (aJ 12))) (gV bI) σ=some (.bool s,σ):=fun σ l1 l2 l9 X Y Z=>by
  have d7:s=(decide (pB A g h=pB B d f)&& !decide (pB B d f=[])):=by
   rw [←D];by_cases q:k=.equal
   ·obtain ⟨P,Q⟩:=n3.mpr q;simp [q,P,Q]
   ·have:¬(pB A g h=pB B d f∧pB B d f≠[]):=fun z=>q (n3.mp z);simp only [q,decide_false];by_cases P:pB A g h=pB B d f
    ·by_cases Q:pB B d f=[]
     ·simp [Q]
     ·exact absurd ⟨P,Q⟩ this
    ·simp [P]
  refine aFg (a:=vL (pB A g h)) (b:=vL (pB B d f)) (b':=vL []) (t:=decide (pB A g h=pB B d f)) (aFb l1 l9 X (aS Pf a1 a2) a2 hA) (aFb l2 Y Z (aS Pf b1 I) I hB) (Zn _ _) (qI bU (by exact aS Ks)) (fun z=>?_) (fun z=>?_)
  ·rw [aI4,d7,z];simp
  ·rw [d7,z];simp
 have l8:=D;have rest:∀σ:St,C1 [1,2,3,4,8,9,10,11,12,13] σ=⟨[(1,vL A),(2,vL B),(3,vN side),(4,.ref 0),(8,.str k.s),(9,vN g),(10,vN h),(11,vN d),(12,vN f),(13,.bool s)],[(0,.list (m.map jR))],1⟩→
   Go ((oD [1,2,3,4,8,9,10,11,12,13] (dP (uK (Sy (qB (aJ 13))) (tE (vE eY (aJ 4) (aK (eQ (aK (aJ 9) (aK (aJ 10) (aK (aJ 3) (aK (aJ 8) (aK (iE (aJ 2) (fY (aJ 11)) (fY (aJ 12))) bI)))))) bI))) (kY .next)) (oD [1,2,3,4,10,12,13] (eS (eQ (aK (aJ 10) (aK (aJ 12) (aK (aJ 13) bI)))) (Ge [bQ 7,bQ 6,bQ 5]))))) 1 σ) (Ao [1,2,3,4,5,6,7] 1 (JC A B side cs (p+1)) (fun _=>False) (fun _ _=>False)):=fun σ hk=>by
  let r:List vH→St:=fun o=>⟨[(1,vL A),(2,vL B),(3,vN side),(4,.ref 0),(8,.str k.s),(9,vN g),(10,vN h),(11,vN d),(12,vN f),(13,.bool s)],[(0,.list (o.map jR))],1⟩;refine fW (σ':=r m) hk ?_;have fin:∀o:List vH,o.length≤p+1→o++eU B side (cs.drop (p+1))=eU B side cs→Go ((oD [1,2,3,4,10,12,13] (eS (eQ (aK (aJ 10) (aK (aJ 12) (aK (aJ 13) bI)))) (Ge [bQ 7,bQ 6,bQ 5]))) 1 (r o)) (Ao [1,2,3,4,5,6,7] 1 (JC A B side cs (p+1)) (fun _=>False) (fun _ _=>False)):=fun o T W=>by refine fW rfl ?_;refine dK (v:=.tup [vN h,vN f,.bool s]) (hO (aQ (aT rfl) (aQ (aT rfl) (aQ (aT rfl) bU))) (by exact aS Cz)) rfl ?_;exact cm h f (some s) o _ rfl T W H
  refine bR (nP (Sw (gZ (b:=s) (τ:=r m) (yQ (v:=.bool s) (aT rfl) rfl) ?_)));cases sj:s
  ·have qk:=of_decide_eq_false (D.trans sj);rw [wU,if_neg qk]at C;refine mI (τ:=r (m++[(g,h,side,k,pB B d f)])) (sL (u:=.ref 0) (us:=[jR (g,h,side,k,pB B d f)]) (l:=m.map jR) (τ:=r m) (τ':=r m) (aT rfl) rfl (aQ (hO (aQ (aT rfl) (aQ (aT rfl) (aQ (aT rfl) (aQ (aT rfl) (aQ (aFb (a:=d) (b:=f) (L:=B) rfl rfl rfl (by exact aS Pf b1 I) I hB) bU))))) (by show (5:Nat)≤1048576;exact aS Xd)) bU) ((jE (l:=m.map jR) rfl (by simp;exact aS 0x6e314844a00d2312f18c6318e1829c77e7004 hn bp R hp)).trans (by simp only [r,bX];rfl))) ?_;exact fin (m++[(g,h,side,k,pB B d f)]) (by simp;exact aS Mj R) (by rw [iJ];exact C)
  ·have qk:k=.equal:=of_decide_eq_true (D.trans sj);rw [wU,if_pos qk]at C;show Go _ _;exact iR (fin m (by exact aS Sf R) C)
 have n4:∀σ:St,lk σ.loc 9=some (vN g)→lk σ.loc 11=some (vN d)→lk σ.loc 5=some (vN g)→lk σ.loc 6=some (vN d)→lk σ.loc 13=some (.bool s)→lk σ.loc 8=some (.str k.s)→lk σ.loc 7=some (Oq G)→
   (My (eE (bD Di (eQ (aK (aJ 9) (aK (aJ 11) bI))) (eQ (aK (aJ 5) (aK (aJ 6) bI))))) (My (eE (bD Di (aJ 13) (bD qS (aJ 8) (gK (.str (aC "equal")))))) (My (eE (bD qS (aJ 13) (aJ 7))) (fun σ=>some (false,σ))))) σ=some (false,σ):=fun σ m9 m11 m5 m6 F m8 m7=>by
  have t1:eE (bD Di (eQ (aK (aJ 9) (aK (aJ 11) bI))) (eQ (aK (aJ 5) (aK (aJ 6) bI)))) σ=some (false,σ):=kD (dC (hO (aQ (aT m9) (aQ (aT m11) bU)) (by show (2:Nat)≤1048576;exact aS Fm)) (hO (aQ (aT m5) (aQ (aT m6) bU)) (by show (2:Nat)≤1048576;exact aS Fm)) (aI6 _ _));have t2:eE (bD Di (aJ 13) (bD qS (aJ 8) (gK (.str (aC "equal"))))) σ=some (false,σ):=kD (dC (aT F) (dC (aT m8) rfl (Ls k .equal)) ((aI5 _ _).trans (by rw [D];simp)));have t3:eE (bD qS (aJ 13) (aJ 7)) σ=some (false,σ):=by
   refine kD (dC (aT F) (aT m7) ?_)
   cases hl:G with
   |none=>exact aFf s
   |some b=>refine (aI9 s b).trans ?_;have:s≠b:=fun z=>vn (by rw [hl,z]);simp [this]
  simp only [My,t1,t2,t3,bd,lF,if_false]
 rcases hx with rfl|rfl
 ·refine ⟨st [],rfl,?_⟩;unfold oS;refine bR (dK (τ:=st []) (τ':=O []) (same _ rfl rfl rfl rfl rfl rfl) rfl ?_);refine bR (zQ (τ:=O []) (n4 _ rfl rfl rfl rfl rfl rfl rfl) (iR ?_));exact rest _ rfl
 ·refine ⟨st [(0,V.lst (cs.map Ch))],rfl,?_⟩;unfold oS;refine bR (dK (τ:=st [(0,V.lst (cs.map Ch))]) (τ':=O [(0,V.lst (cs.map Ch))]) (same _ rfl rfl rfl rfl rfl rfl) rfl ?_);refine bR (zQ (τ:=O [(0,V.lst (cs.map Ch))]) (n4 _ rfl rfl rfl rfl rfl rfl rfl) (iR ?_));exact rest _ rfl
theorem aCp(m:A.length<200)(o:B.length<200)(z:cs.length≤1000)(C:wL A B cs 0 0 aF):
  Go (wK 0 ⟨[(0,.lst (cs.map Ch)),(1,vL A),(2,vL B),(3,vN side)],[],0⟩) fun f τ=>f=.ret (.ref 0)∧lk τ.cells 0=some (.list ((eU B side cs).map jR)):=by
 let r:St:=⟨[(0,.lst (cs.map Ch)),(1,vL A),(2,vL B),(3,vN side)],[],0⟩;refine (?_:Go (wK 0 r) _);let k:St:=sC A B side [(0,.lst (cs.map Ch))] 0 0 aF [];refine bR (dK (v:=.tup [.ref 0,vN 0,vN 0,.none]) (τ:=⟨[(0,.lst (cs.map Ch)),(1,vL A),(2,vL B),(3,vN side)],[(0,.list [])],1⟩) (τ':=k) (hO (aQ (pX (τ:=r) bU (by refine (?_:(0:Nat)≤1048576);exact aS Ks)) (aQ rfl (aQ rfl (aQ rfl bU)))) (by refine (?_:(4:Nat)≤1048576);exact aS ù)) rfl ?_);refine fW (σ':=k) rfl ?_;refine bR (uW (fun _=>False) (JC A B side cs) (ds:=cs.map Ch) (τ:=k) (vM (aT rfl) (uL _)) (by show (0:Nat)≤1;decide) ⟨_,0,0,aF,[],.inr rfl,rfl,bG _,rfl,C⟩ (fun i H v c D=>?_) (fun τ' F=>?_))
 ·rw [fK]at c
  cases l:cs[i]? with
  |none=>rw [l]at c;cases c
  |some t=>rw [l]at c;cases c;obtain ⟨τ',e,g⟩:=Ō (aS ú m) (aS ú o) z l D;refine ⟨τ',e,g.mono fun f τ p=>?_⟩;cases f<;>first|exact p|exact p.elim
 ·obtain ⟨x,i,j,I,s,hx,rfl,J,u,y⟩:=F.resolve_right id;rw [bC,mQ]at u y;obtain ⟨rfl,rfl⟩:=y;have G:s=eU B side cs:=by rw [←u];simp [D8,wU]
  let d:St:=⟨[(1,vL A),(2,vL B),(3,vN side),(4,.ref 0),(5,vN A.length),(6,vN B.length)],[(0,.list (s.map jR))],1⟩;refine fW (σ':=d) (by rcases hx with rfl|rfl<;>rfl) ?_;unfold xA;refine qQ (τ:=d) (v:=.ref 0) ?_ ⟨rfl,by rw [←G];rfl⟩;refine wR (t:=true) (τ:=d) (kD (dC (τ:=d) (τ':=d) (a:=.tup [vN A.length,vN B.length]) (b:=.tup [vN A.length,vN B.length]) (hO (aQ (aT rfl) (aQ (aT rfl) bU)) (by exact aS Fm)) (hO (aQ (kL (aQ (aT rfl) bU) (wB A m _)) (aQ (kL (aQ (aT rfl) bU) (wB B o _)) bU)) (by exact aS Fm)) (aJa _ _))) (fun _=>aT rfl) (fun h=>by cases h)
end
section
variable{n:Nat}
theorem Qb(G:Gd)(a:A.length<200)(b:B.length<200)(c:cs.length≤1000)(d:wL A B cs 0 0 aF):Ŝ (n+1) (.ref 277) [.lst (cs.map Ch),vL A,vL B,vN side] (fun r=>r=.lst ((eU B side cs).map jR)):=by
 refine Yl.c (Ac (fd:=iY MineH.o277v0) (o:=MineH.o277v0) (tab:=tN) (body:=bS (at_ [11])) (eW w.params) (G.K 277 _ (by kernel_rfl)) rfl G.lim (codeRec_of G.K (by kernel_rfl)) rfl (fun vs h=>?_) (by refine (?_:(4:Nat)≤14);decide) (by simp only [cP,cO,pQ,pP,pO,pN,mU,mT,uL,eP];rfl) fun L=>?_)
 ·revert vs;exact ll4 fun _ _ _ _=>by kernel_rfl
 ·obtain ⟨f,τ,e,rfl,g⟩:=aCp (side:=side) a b c d;refine jC (Ht G 0 _ _ _ e) ?_;rintro _ _ ⟨rfl,rfl⟩;exact ⟨.lst ((eU B side cs).map jR),wT (kI _) g (rG _),rG _,rfl⟩
end
end
section
open MineH (at_ bS fr)
structure Lg where
 high:Nat
 w0:List mZ
 w1:List mZ
 y0:bH
 y1:bH
 r0:Nat
 r1:Nat
def rC(A:bH)(r:Nat)(row:vH):bH:=pB A r row.1++(if row.2.2.2.1=.delete then[]else row.2.2.2.2)
noncomputable def Bi(row:vH):Nat:=if row.2.2.2.1=.insert then row.1 else row.2.1
def Lg.add(A:bH)(g:Lg)(row:vH):Lg:=
 if row.2.2.1=0 then {g with high:=max g.high row.2.1,w0:=g.w0++[row.2.2.2.1],y0:=g.y0++rC A g.r0 row,r0:=Bi row}
 else {g with high:=max g.high row.2.1,w1:=g.w1++[row.2.2.2.1],y1:=g.y1++rC A g.r1 row,r1:=Bi row}
def wY(A:bH):List vH→Lg→Lg×List vH
 |[],g=>(g,[])
 |row::r,g=>if row.1≤g.high then wY A r (g.add A row)else (g,row::r)
theorem Hz:wY A [] g=((g,[])):=rfl
theorem Hy:wY A (row::r) g=(if row.1≤g.high then wY A r (g.add A row)else (g,row::r)):=rfl
inductive qD where
 |i (x:Int)
 |c (a b d:bH)
def gO:qD→V
 |.i x=>.int x
 |.c a b d=>.lst [vL a,vL b,vL d]
noncomputable abbrev kZ:=Nat×Nat×List mZ×List mZ
def zB(l:List mZ):bV:=l.map fun t=>V.str t.s
def gL(t:kZ):V:=.tup [vN t.1,vN t.2.1,.lst [.lst (zB t.2.2.1),.lst (zB t.2.2.2)]]
theorem Kf(hx:d σ=some (vL L,σ))(hy:gy σ=some (vN a,σ))(e:gz σ=some (vN b,σ))(f:L.length≤1000):iE d (fY gy) (fY gz) σ=some (vL (pB L a b),σ):=by
 unfold iE;rw [hx];refine (?_:bd (fY gy σ) _=_);have c:∀{g:M V}{a:Nat},g σ=some (vN a,σ)→fY g σ=some (some (a:Int),σ):=fun h=>by unfold fY;rw [h];rfl
 rw [c hy];show bd (fY gz σ) _=_;rw [c e];show (if (L.map V.int).length≤lim then some (V.lst (pySl (L.map V.int) (some (a:Int)) (some (b:Int))),σ)else aF)=_;rw [if_pos (by rw [bC];exact aS Xa f (rfl:lim=1048576)),L2];simp only [pB,vL,E6,E7]
theorem Bu(a:lk σ.cells c=some (.list l))(h:l[n]?=some v)(b:l.length≤lim):eF (.ref c) (vN n) σ=some (v,σ):=
 qJ (x:=asS σ (.ref c)) (f:=fun l=>if (0:Int)≤(n:Int)∧l.length≤lim then (l[((n:Int)).toNat]?).map fun d=>(d,σ)else aF) (qJ a rfl) ((if_pos ⟨xJ n,b⟩).trans (by rw [eL,h];rfl))
theorem Zo(c:a.length+b.length≤1000000):fQ (vL a) (vL b) σ=some (vL (a++b),σ):=by refine (?_:(if (a.map V.int).length+(b.map V.int).length≤lim then some (V.lst (a.map V.int++b.map V.int),σ)else aF)=_);rw [if_pos (by simp only [bC];exact aS aGz c (rfl:lim=1048576)),←bX];rfl
theorem aI8:gLe (vN a) (vN b) σ=some (.bool (decide (a≤b)),σ):=by
 refine (?_:some (V.bool (decide ((a:Int)≤(b:Int))),σ)=_)
 congr 3
 exact decide_eq_decide.mpr (by simp)
theorem aFd(h:lk σ.cells i=some (.list (d::l)))(a:l.length≤lim):aCg [.ref i,.int 0] σ=some (d,{σ with cells:=kX i (.list l) σ.cells}):=by refine (?_:aL σ i _=_);rw [ŕ h];refine (?_:(if (0:Int)=0 then (if l.length≤lim then _ else aF)else aF)=_);rw [if_pos rfl,if_pos a]
theorem zG(h:lk σ.cells i=some (.list l))(h':Iy σ d=some l')(b:l.length≤lim)(a:l'.length≤lim):wC [.ref i,d] σ=some (.none,{σ with cells:=kX i (.list (l++l')) σ.cells}):=by refine (?_:aL σ i _=_);rw [ŕ h];simp only [h'];exact if_pos ⟨b,a⟩
theorem aFe:aCh [vN a,vN b] σ=some (vN (max a b),σ):=by
 refine (?_:some (V.int _,σ)=_)
 congr 3
 lia
theorem Ax:∀l:List mZ,cS (zB l)=true:=by
 intro a
 induction a with
 |nil=>exact rfl
 |cons _ r b=>exact b
theorem Wj(x:qD):(gO x).pure=true:=by
 cases x with
 |i x=>rfl
 |c a b d=>refine (?_:cS [vL a,vL b,vL d]=true);simp only [cP,cO,eP,fD]
theorem oE:∀l:List qD,cS (l.map gO)=true:=by
 intro b
 induction b with
 |nil=>exact rfl
 |cons a r c=>simp only [cC,cP,cO,Wj];exact c
theorem Q7(t:kZ):(gL t).pure=true:=by refine (?_:cS [vN t.1,vN t.2.1,.lst [.lst (zB t.2.2.1),.lst (zB t.2.2.2)]]=true);simp only [cP,cO,pQ,pP,pO,pN,mU,mT,Ax,vN,fD]
theorem lG:∀l:List kZ,cS (l.map gL)=true:=by
 intro b
 induction b with
 |nil=>exact rfl
 |cons a r c=>simp only [cC,cP,cO,Q7];exact c
theorem aHx(r:vH):ed 63 (jR r)=true:=by refine (?_:zE [vN r.1,vN r.2.1,vN r.2.2.1,.str r.2.2.2.1.s,vL r.2.2.2.2] (ed 62)=true);simp only [eT,jQ,aEp,It,Vo,fD]
theorem aB5:∀l:List vH,(l.map jR).all (ed 63)=true:=by
 intro b
 induction b with
 |nil=>exact rfl
 |cons a r c=>simp only [cC,eT,aHx];exact c
structure I1(r:vH):Prop where
 le:r.1≤r.2.1
 hi:r.2.1≤200
 side:r.2.2.1=0∨r.2.2.1=1
 text:r.2.2.2.2.length≤200
section
variable{A:bH}{mm:Ey}
def Oc(A:bH)(mm:Ey)(rows:List vH)(told:List kZ)(mg:List qD)(dn low:Nat)(g:Lg):St:=
 ⟨[(1,vL A),(4,.ref 1),(5,.ref 2),(6,.ref 3),(7,vN dn),(8,vN low),(9,vN g.high),(10,.lst [.ref 4,.ref 5]),(11,.lst [.ref 6,.ref 7]),(12,.ref 8)],
  [(8,.list [vN g.r0,vN g.r1]),(7,.list (g.y1.map V.int)),(6,.list (g.y0.map V.int)),(5,.list (zB g.w1)),(4,.list (zB g.w0)),(3,.list (mg.map gO)),(2,.list (told.map gL)),(1,.list (rows.map jR)),(0,.mat mm)],9⟩
theorem Ay(ok:I1 row)(b:A.length≤200):(rC A r row).length≤400:=by
 unfold rC;rw [bK];have a:(pB A r row.1).length≤200:=by unfold pB;simp only [mP,tW];exact bZ (aIl _ _) (bZ (Qr _ _) b)
 have:=ok.text;split
 ·simp;exact aS 0x318a71af1809c6766001 a
 ·simp;exact aS 0x718a71af190102719d9829c6766002 a this
theorem aN6(e:C1 [1,4,5,6,7,8,9,10,11,12] τ=Oc A mm rows told mg dn low g):Gf [1,4,5,6,7,8,9,10,11,12] 9 τ=some (Oc A mm rows told mg dn low g):=by
 refine M9 e ?_ (dO (by decide) (eB (c:=.list [vN g.r0,vN g.r1]) rfl) (dO (by decide) (eB (c:=.list (g.y1.map V.int)) (eM (oG _))) (dO (by decide) (eB (c:=.list (g.y0.map V.int)) (eM (oG _))) (dO (by decide) (eB (c:=.list (zB g.w1)) (eM (Ax _))) (dO (by decide) (eB (c:=.list (zB g.w0)) (eM (Ax _)))
  (dO (by decide) (eB (c:=.list (mg.map gO)) (eM (oE _))) (dO (by decide) (eB (c:=.list (told.map gL)) (eM (lG _))) (dO (by decide) (eB (c:=.list (rows.map jR)) (eM (rG _))) (dO (by decide) rfl iM)))))))))
 exact cU (eA (eP A)) (cU rfl (cU rfl (cU rfl (cU rfl (cU rfl (cU rfl (cU rfl (cU rfl (cU rfl rfl)))))))))
structure GB0(g:Lg)(n:Nat):Prop where
 a:g.y0.length≤400*n
 b:g.y1.length≤400*n
 c:g.w0.length≤n
 d:g.w1.length≤n
inductive JI3(A:bH)(mm:Ey)(told:List kZ)(mg:List qD)(dn low:Nat)(N:Nat)(gx:Lg×List vH)(m:Nat)(τ:St):Prop
 |mk (rows:List vH) (g:Lg) (e:τ=Oc A mm rows told mg dn low g) (u:m=rows.length) (l:m≤N) (b:GB0 g (N-m)) (r:wY A rows g=gx) (o:∀r∈rows,I1 r)
theorem Jy{c:Type}{a b:c}[Decidable (a=b)]:decide (a≠b)= !decide (a=b):=by by_cases h:a=b<;>simp [h]
theorem Uc(h:lk σ.cells 1=some (.list (rows.map jR)))(a:lk σ.loc 4=some (.ref 1)):eE (bD Di (aJ 4) (gV bI)) σ=some (decide (rows≠[]),σ):=by rw [Jy];exact kD (dC (aT a) (qI bU (by refine (?_:(0:Nat)≤1048576);simp)) (Kg (P:=rows=[]) (wT (by decide) h (rG _)) (eA rfl) (aB5 rows) rfl ⟨fun e=>List.map_eq_nil_iff.mp (V.lst.inj e),fun e=>by rw [e];rfl⟩).2)
theorem Sl{P:Fl→iS}{d1 d2:Bd}{d3:pV}{d4:Bd}(p:A.length≤200)(O:N≤64)(hj:JI3 A mm told mg dn low N k m τ)(F:∀g,GB0 g N→k.1=g→P .next (Oc A mm k.2 told mg dn low k.1)):
  GB (mL (eE (bD Di (aJ 4) (gV bI))) (mL (eE (bD gLe (bD eF (bD eF (aJ 4) (gK (.int 0))) (gK (.int 0))) (aJ 9))) (fun σ=>some (true,σ)))) τ fun c τ'=>if c=true then Go (pS d1 d2 d3 d4 9 τ') (Tf [1,4,5,6,7,8,9,10,11,12] 9 (JI3 A mm told mg dn low N k) m P)else P .next τ':=by
 have o:lim=1048576:=rfl;obtain ⟨rows,g,rfl,rfl,Q,Z,R,zC⟩:=hj;have s:GB0 g N:=by obtain ⟨b1,t,G,y⟩:=Z;have hh:N-rows.length≤N:=Qr _ _;exact ⟨aS aLa b1,aS aLa t,by exact bZ (by assumption) (by assumption),aS 0x39c62908d201ccc1003 y⟩
 refine jN (gZ (Uc (rows:=rows) rfl rfl) ?_)
 cases rows with
 |nil=>
  rw [fJ (by simp)];have:k=(g,[]):=by rw [←R];rfl
  rw [this]at F;exact F g s rfl
 |cons row r=>
  rw [iD (by simp)];have ok:=zC row aU;have H:r.length+1≤N:=by simpa using Q
  refine jN (gZ (b:=decide (row.1≤g.high)) (τ:=Oc A mm (row::r) told mg dn low g) (kD (dC (dC (dC (aT rfl) rfl (Bu (n:=0) (v:=jR row) rfl rfl (by simp;exact aS 0x3631485071240838978c6318c70c14e307003 O o H:((row::r).map jR).length≤lim))) rfl (tJ (n:=0) (v:=vN row.1) rfl (by exact aS Xd))) (aT rfl) aI8)) ?_);by_cases B:row.1≤g.high
  ·rw [iD B];refine Em ?_;obtain ⟨b1,t,G,y⟩:=Z;have pf:N-r.length=(N-(row::r).length)+1:=by simp;exact aS ln5 H
   have gl:GB0 (g.add A row) (N-r.length):=by
    rw [pf];have l0:=Ay (A:=A) (r:=g.r0) ok p;have l1:=Ay (A:=A) (r:=g.r1) ok p;unfold Lg.add;split
    ·refine ⟨by simp;exact aS ln8 b1 l0,by simp;exact aS ln9 t,by simp;exact aS aKz G,by simp;exact aS aK2 y⟩
    ·refine ⟨by simp;exact aS ln9 b1,by simp;exact aS ln8 t l1,by simp;exact aS aK2 G,by simp;exact aS aKz y⟩
   have cm:∀T:St,C1 [1,4,5,6,7,8,9,10,11,12] T=Oc A mm r told mg dn low (g.add A row)→V5 [1,4,5,6,7,8,9,10,11,12] 9 (JI3 A mm told mg dn low N k) ((row::r).length) T:=fun T e=>
    ⟨_,r.length,aN6 e,by simp,r,g.add A row,rfl,rfl,by exact aS Mk H,gl,(by rw [←R];show _=(if row.1≤g.high then _ else _);rw [if_pos B]:wY A r (g.add A row)=k),fun x hx=>zC x (bB _ hx)⟩
   obtain ⟨i,f,side,d,text⟩:=row;obtain ⟨W,X,I,Y⟩:=ok;simp only at W X I Y B;have l0:(rC A g.r0 (i,f,side,d,text)).length≤400:=Ay ⟨W,X,I,Y⟩ p;have l1:(rC A g.r1 (i,f,side,d,text)).length≤400:=Ay ⟨W,X,I,Y⟩ p;have J:N-((i,f,side,d,text)::r).length≤64:=by exact aS 0xa718a71838138c1c33320e1002 O
   have qo:∀σ:St,lk σ.loc 16=some (.str d.s)→eE (bD qS (aJ 16) (gK (.str (aC "insert")))) σ=some (decide (d=.insert),σ):=fun σ h=>kD (dC (aT h) rfl (Ls d .insert));have C:∀σ:St,lk σ.loc 16=some (.str d.s)→lk σ.loc 17=some (vL text)→rM (eE (bD qS (aJ 16) (gK (.str (aC "delete"))))) (gV bI) (aJ 17) σ=some (vL (if d=.delete then[]else text),σ):=fun σ h h'=>by
    refine wR ((fun σ h=>kD (dC (aT h) rfl (Ls d .delete)):∀σ:St,lk σ.loc 16=some (.str d.s)→eE (bD qS (aJ 16) (gK (.str (aC "delete")))) σ=some (decide (d=.delete),σ)) σ h) (fun z=>?_) (fun z=>?_)
    ·rw [if_pos (of_decide_eq_true z)];exact qI bU (by show (0:Nat)≤1048576;exact aS Ks)
    ·rw [if_neg (of_decide_eq_false z)];exact aT h'
   have D:∀σ:St,lk σ.loc 16=some (.str d.s)→lk σ.loc 13=some (vN i)→lk σ.loc 14=some (vN f)→rM (eE (bD qS (aJ 16) (gK (.str (aC "insert"))))) (aJ 13) (aJ 14) σ=some (vN (Bi (i,f,side,d,text)),σ):=fun σ h h' j9=>by
    unfold Bi;refine wR (qo σ h) (fun z=>?_) (fun z=>?_)
    ·rw [if_pos (of_decide_eq_true z)];exact aT h'
    ·rw [if_neg (of_decide_eq_false z)];exact aT j9
   let j:Nat→List mZ→List mZ→bH→bH→Nat→Nat→St:=fun hi w0 w1 y0 y1 r0 r1=>⟨[(1,vL A),(4,.ref 1),(5,.ref 2),(6,.ref 3),(7,vN dn),(8,vN low),(9,vN hi),(10,.lst [.ref 4,.ref 5]),(11,.lst [.ref 6,.ref 7]),(12,.ref 8),(13,vN i),(14,vN f),(15,vN side),(16,.str d.s),(17,vL text)],
    [(8,.list [vN r0,vN r1]),(7,.list (y1.map V.int)),(6,.list (y0.map V.int)),(5,.list (zB w1)),(4,.list (zB w0)),(3,.list (mg.map gO)),(2,.list (told.map gL)),(1,.list (r.map jR)),(0,.mat mm)],9⟩
   unfold pS;refine bR (dK (v:=jR (i,f,side,d,text)) (τ:=Oc A mm r told mg dn low g) (τ':=j g.high g.w0 g.w1 g.y0 g.y1 g.r0 g.r1) (sL (u:=.ref 1) (us:=[.int 0]) (aT rfl) rfl rfl (aFd (l:=r.map jR) rfl (by simp;exact aS 0xd8c5211240838978c6318c70c14e307003 O o H))) rfl ?_);have vo:∀σ:St,lk σ.loc 9=some (vN g.high)→lk σ.loc 14=some (vN f)→gB aCh (aK (aJ 9) (aK (aJ 14) bI)) σ=some (vN (max g.high f),σ):=fun σ h h'=>kL (aQ (aT h) (aQ (aT h') bU)) aFe;rcases I with rfl|rfl
   ·refine bR (mI (τ:=j g.high (g.w0++[d]) g.w1 g.y0 g.y1 g.r0 g.r1) (sL (u:=.ref 4) (us:=[.str d.s]) (l:=zB g.w0) (dC (aT rfl) (aT rfl) (rE (n:=0) rfl (by show (2:Nat)≤1048576;exact aS Fm))) rfl (aQ (aT rfl) bU) ((jE (l:=zB g.w0) rfl (by unfold zB;rw [bC];exact aS aKv o G J:(zB g.w0).length≤lim)).trans (by simp only [j,zB,bX];rfl))) ?_);refine bR (mI (τ:=j g.high (g.w0++[d]) g.w1 (g.y0++rC A g.r0 (i,f,0,d,text)) g.y1 g.r0 g.r1) (sL (u:=.ref 6) (us:=[vL (rC A g.r0 (i,f,0,d,text))]) (l:=g.y0.map V.int) (dC (aT rfl) (aT rfl) (rE (n:=0) rfl (by show (2:Nat)≤1048576;exact aS Fm))) rfl
     (aQ (dC (Kf (L:=A) (a:=g.r0) (b:=i) (aT rfl) (dC (aT rfl) (aT rfl) (Bu (n:=0) rfl rfl (by show (2:Nat)≤1048576;exact aS Fm))) (aT rfl) (by exact aS Xe p)) (C _ rfl rfl) (Zo (by unfold rC at l0;rw [bK]at l0;simp only at l0;exact aS aKp l0))) bU)
     ((zG (l:=g.y0.map V.int) (l':=(rC A g.r0 (i,f,0,d,text)).map V.int) rfl rfl (by rw [bC];exact aS aK9 o b1 J) (by rw [bC];exact aS aKl o l0)).trans (by simp only [j,bX];rfl))) ?_)
    refine bR (dK (v:=vN (Bi (i,f,0,d,text))) (τ':=j g.high (g.w0++[d]) g.w1 (g.y0++rC A g.r0 (i,f,0,d,text)) g.y1 (Bi (i,f,0,d,text)) g.r1) (D _ rfl rfl rfl) rfl ?_);refine dK (v:=vN (max g.high f)) (vo _ rfl rfl) rfl ?_;exact cm _ rfl
   ·refine bR (mI (τ:=j g.high g.w0 (g.w1++[d]) g.y0 g.y1 g.r0 g.r1) (sL (u:=.ref 5) (us:=[.str d.s]) (l:=zB g.w1) (dC (aT rfl) (aT rfl) (rE (n:=1) rfl (by show (2:Nat)≤1048576;exact aS Fm))) rfl (aQ (aT rfl) bU) ((jE (l:=zB g.w1) rfl (by unfold zB;rw [bC];exact aS aKv o y J:(zB g.w1).length≤lim)).trans (by simp only [j,zB,bX];rfl))) ?_);refine bR (mI (τ:=j g.high g.w0 (g.w1++[d]) g.y0 (g.y1++rC A g.r1 (i,f,1,d,text)) g.r0 g.r1) (sL (u:=.ref 7) (us:=[vL (rC A g.r1 (i,f,1,d,text))]) (l:=g.y1.map V.int) (dC (aT rfl) (aT rfl) (rE (n:=1) rfl (by show (2:Nat)≤1048576;exact aS Fm))) rfl
     (aQ (dC (Kf (L:=A) (a:=g.r1) (b:=i) (aT rfl) (dC (aT rfl) (aT rfl) (Bu (n:=1) rfl rfl (by show (2:Nat)≤1048576;exact aS Fm))) (aT rfl) (by exact aS Xe p)) (C _ rfl rfl) (Zo (by unfold rC at l1;rw [bK]at l1;simp only at l1;exact aS aKp l1))) bU)
     ((zG (l:=g.y1.map V.int) (l':=(rC A g.r1 (i,f,1,d,text)).map V.int) rfl rfl (by rw [bC];exact aS aK9 o t J) (by rw [bC];exact aS aKl o l1)).trans (by simp only [j,bX];rfl))) ?_)
    refine bR (dK (v:=vN (Bi (i,f,1,d,text))) (τ':=j g.high g.w0 (g.w1++[d]) g.y0 (g.y1++rC A g.r1 (i,f,1,d,text)) g.r0 (Bi (i,f,1,d,text))) (D _ rfl rfl rfl) rfl ?_);refine dK (v:=vN (max g.high f)) (vo _ rfl rfl) rfl ?_;exact cm _ rfl
  ·rw [fJ B];have:k=(g,row::r):=by rw [←R];show (if row.1≤g.high then _ else _)=_;rw [if_neg B]
   rw [this]at F;exact F g s rfl
end
end
section
open MineH (at_ bS fr)
def tQ(old left right:bH):List qD:=if left=right∨right=old then left.map .i else if left=old then right.map .i else[.c old left right]
noncomputable def Sq(row:vH):Lg:=⟨row.2.1,[],[],[],[],row.1,row.1⟩
def nO(A:bH)(row:vH)(r:List vH):Lg×List vH:=wY A (row::r) (Sq row)
def Gx(A:bH)(row:vH)(g:Lg):List qD:=tQ (pB A row.1 g.high) (g.y0++pB A g.r0 g.high) (g.y1++pB A g.r1 g.high)
def yS(A:bH):Nat→List vH→Nat→List kZ→List qD→List kZ×List qD
 |0,_,dn,t,m=>(t,m++(A.drop dn).map .i)
 |_+1,[],dn,t,m=>(t,m++(A.drop dn).map .i)
 |f+1,row::r,dn,t,m=>yS A f (nO A row r).2 (nO A row r).1.high (t++[(row.1,(nO A row r).1.high,(nO A row r).1.w0,(nO A row r).1.w1)]) (m++((pB A dn row.1).map .i++Gx A row (nO A row r).1))
theorem ä:yS A 0 a dn t m=((t,m++(A.drop dn).map .i)):=rfl
theorem ã:yS A (a+1) [] dn t m=((t,m++(A.drop dn).map .i)):=rfl
theorem â:yS A (f+1) (row::r) dn t m=(yS A f (nO A row r).2 (nO A row r).1.high (t++[(row.1,(nO A row r).1.high,(nO A row r).1.w0,(nO A row r).1.w1)]) (m++((pB A dn row.1).map .i++Gx A row (nO A row r).1))):=rfl
theorem K0(A:bH):∀(rows:List vH)(g:Lg),(wY A rows g).2.length≤rows.length∧∀x∈(wY A rows g).2,x∈rows:=by
 intro a
 induction a with
 |nil=>intro g;exact ⟨bG _,fun _ h=>h⟩
 |cons row r b=>
  intro g;simp only [Hz,Hy];split
  ·obtain ⟨c,d⟩:=b (g.add A row);exact ⟨by simp;exact aS Sf c,fun x hx=>bB _ (d x hx)⟩
  ·exact ⟨bG _,fun _ h=>h⟩
theorem Xx(h:row.1≤row.2.1):(nO A row r).2.length≤r.length:=by unfold nO;simp only [Hz,Hy];rw [if_pos (by exact h)];exact (K0 A r _).1
theorem A3(l:bH):(l.map qD.i).map gO=l.map V.int:=by rw [wE];rfl
theorem Ψ(L:bH)(a b:Nat):(pB L a b).length≤L.length:=by unfold pB;simp only [mP,tW];exact bZ (aIl _ _) (Qr _ _)
section
variable{A:bH}{mm:Ey}
def sMo(A:bH)(mm:Ey)(rows:List vH)(told:List kZ)(mg:List qD)(dn:Nat):St:=
 ⟨[(1,vL A),(4,.ref 1),(5,.ref 2),(6,.ref 3),(7,vN dn)],[(3,.list (mg.map gO)),(2,.list (told.map gL)),(1,.list (rows.map jR)),(0,.mat mm)],4⟩
inductive JO3(A:bH)(mm:Ey)(gx:List kZ×List qD)(m:Nat)(τ:St):Prop
 |mk (rows:List vH) (told:List kZ) (mg:List qD) (dn f:Nat) (e:τ=sMo A mm rows told mg dn) (u:m=rows.length) (l:rows.length≤f) (r:yS A f rows dn told mg=gx) (o:∀r∈rows,I1 r) (t:told.length+rows.length≤40) (g:mg.length+16400*rows.length≤656000)
theorem Fz(c:a.length+b.length≤1000000):fQ (.lst a) (.lst b) σ=some (.lst (a++b),σ):=by have d:lim=1048576:=rfl;refine (?_:(if a.length+b.length≤lim then some (V.lst (a++b),σ)else aF)=_);rw [if_pos (by exact aS aGz c d)]
theorem Fy(d:lk σ.cells c=some (.list a))(e:a.length+b.length≤1000000):fQ (.ref c) (.lst b) σ=some (.lst (a++b),σ):=by have g:lim=1048576:=rfl;exact qJ (x:=Iy σ (.ref c)) (f:=fun l=>ob (Iy σ (.lst b)) fun l'=>if l.length+l'.length≤lim then some (V.lst (l++l'),σ)else aF) (qJ d rfl) (if_pos (aS aGz e g))
theorem Ef{g:V→nX}(h:nF g l=some l')(h':g v=some b):nF g (l++[v])=some (l'++[b]):=by
 induction l generalizing l' with
 |nil=>cases h;exact oZ h' rfl
 |cons a r c=>obtain ⟨f,i,d,e,rfl⟩:=Eg h;exact oZ d (c e)
theorem Rv{P:Fl→iS}{X Y:Bd}{Z:pV}{d4:Bd}(k:A.length≤200)(G:JO3 A mm H m τ)
  (hP:∀told mg dn,mg.length≤656000→(told,mg++(A.drop dn).map qD.i)=H→P .next (sMo A mm [] told mg dn)):
  GB (eE (bD Di (aJ 4) (gV bI))) τ fun c τ'=>if c=true then Go (qR X Y Z d4 4 τ') (Tf [1,4,5,6,7] 4 (JO3 A mm H) m P)else P .next τ':=by
 have B:lim=1048576:=rfl;obtain ⟨rows,told,mg,dn,f,rfl,rfl,I,gm,zC,o,C⟩:=G;refine gZ (Uc (rows:=rows) rfl rfl) ?_
 cases rows with
 |nil=>refine hP told mg dn (by simpa using C) ?_;simp only [←gm];cases f<;>rfl
 |cons row r=>
  have ok:=zC row aU;rw [cQ]at I o C;obtain ⟨f',rfl⟩:∃f',f=f'+1:=⟨f-1,aS aKj I⟩;have aw:((row::r).map jR).length≤lim:=by simp;exact aS 0xb18a40838938e99083882bc6318c6386003 B o
  have s:=Xx (A:=A) (r:=r) ok.le;have t:∀x∈(nO A row r).2,x∈row::r:=(K0 A (row::r) (Sq row)).2;have J:yS A f' (nO A row r).2 (nO A row r).1.high (told++[(row.1,(nO A row r).1.high,(nO A row r).1.w0,(nO A row r).1.w1)]) (mg++((pB A dn row.1).map .i++Gx A row (nO A row r).1))=H:=gm;unfold qR;let s1:St:=⟨[(1,vL A),(4,.ref 1),(5,.ref 2),(6,.ref 3),(7,vN dn),(9,vN row.2.1),(8,vN row.1)],[(3,.list (mg.map gO)),(2,.list (told.map gL)),(1,.list ((row::r).map jR)),(0,.mat mm)],4⟩;refine bR (dK (v:=.tup [vN row.1,vN row.2.1]) (τ:=sMo A mm (row::r) told mg dn) (τ':=s1) (hO (aQ (dC (dC (aT rfl) rfl (Bu (n:=0) (v:=jR row) rfl rfl aw)) rfl (tJ (n:=0) (v:=vN row.1) rfl (by show (5:Nat)≤1048576;exact aS Xd))) (aQ (dC (dC (aT rfl) rfl (Bu (n:=0) (v:=jR row) rfl rfl aw)) rfl (tJ (n:=1) (v:=vN row.2.1) rfl (by show (5:Nat)≤1048576;exact aS Xd))) bU)) (by show (2:Nat)≤1048576;exact aS Fm)) rfl ?_);let s2:St:=⟨[(1,vL A),(4,.ref 1),(5,.ref 2),(6,.ref 3),(7,vN dn),(9,vN row.2.1),(8,vN row.1)],[(8,.list [vN row.1,vN row.1]),(7,.list []),(6,.list []),(5,.list []),(4,.list []),(3,.list (mg.map gO)),(2,.list (told.map gL)),(1,.list ((row::r).map jR)),(0,.mat mm)],9⟩;refine bR (dK (v:=.tup [.lst [.ref 4,.ref 5],.lst [.ref 6,.ref 7],.ref 8]) (τ:=s2) (hO (aQ (qI (aQ (pX (τ:=s1) bU (by show (0:Nat)≤1048576;exact aS Ks)) (aQ (pX bU (by show (0:Nat)≤1048576;exact aS Ks)) bU)) (by show (2:Nat)≤1048576;exact aS Fm)) (aQ (qI (aQ (pX bU (by show (0:Nat)≤1048576;exact aS Ks)) (aQ (pX bU (by show (0:Nat)≤1048576;exact aS Ks)) bU)) (by show (2:Nat)≤1048576;exact aS Fm)) (aQ (pX (vs:=[vN row.1,vN row.1]) (aQ (aT rfl) (aQ (aT rfl) bU)) (by show (2:Nat)≤1048576;exact aS Fm)) bU))) (by show (3:Nat)≤1048576;exact aS Cz)) rfl ?_);refine fW (σ':=Oc A mm (row::r) told mg dn row.1 (Sq row)) rfl ?_;generalize hq:nO A row r=q at *;have wl:Go (qA [1,4,5,6,7,8,9,10,11,12] (mL (eE (bD Di (aJ 4) (gV bI))) (mL (eE (bD gLe (bD eF (bD eF (aJ 4) (gK (.int 0))) (gK (.int 0))) (aJ 9))) (fun σ=>some (true,σ)))) (pS X Y Z d4) 4 (Oc A mm (row::r) told mg dn row.1 (Sq row))) fun f τ=>f=.next∧GB0 q.1 40∧τ=Oc A mm q.2 told mg dn row.1 q.1:=by
   refine C6 (JI3 A mm told mg dn row.1 40 q) (row::r).length (by show _<1048576;simp;exact aS 0x63156318c631c320e14e3a6420e1002 o) (by show (4:Nat)≤9;decide) ⟨row::r,Sq row,rfl,rfl,by simp;exact aS 0xc629ff0c14e3a6420e1002 o,⟨cJ _,cJ _,cJ _,cJ _⟩,hq,zC⟩
    (fun m τ G=>Sl (P:=fun f τ=>f=.next∧GB0 q.1 40∧τ=Oc A mm q.2 told mg dn row.1 q.1) k (by exact aS 0x8c538c1f1d300) G (fun g hg e=>⟨rfl,by rw [e];exact hg,rfl⟩))
  refine bR (wl.mono ?_);rintro _ _ ⟨rfl,⟨b1,N,b3,b4⟩,rfl⟩;show Go _ _;obtain ⟨g,rest⟩:=q;simp only at b1 N b3 b4 s t J;refine fW (σ':=Oc A mm rest told mg dn row.1 g) rfl ?_;unfold yU;have j:∀a b,(pB A a b).length≤200:=fun a b=>bZ (Ψ A a b) k;generalize O:pB A row.1 g.high=old;generalize Q:g.y0++pB A g.r0 g.high=left;generalize R:g.y1++pB A g.r1 g.high=right;have lo:old.length≤200:=by rw [←O];exact j _ _
  have ll:left.length≤16200:=by rw [←Q,bK];have:=j g.r0 g.high;exact aS aK4 b1 this
  have lr:right.length≤16200:=by rw [←R,bK];have:=j g.r1 g.high;exact aS aK4 N this
  have vq:Gx A row g=tQ old left right:=by unfold Gx;rw [O,Q,R]
  rw [vq]at J;have cells:List (Nat×gM):=(Oc A mm rest told mg dn row.1 g).cells;let i:St:=⟨[(1,vL A),(4,.ref 1),(5,.ref 2),(6,.ref 3),(7,vN dn),(8,vN row.1),(9,vN g.high),(10,.lst [.ref 4,.ref 5]),(11,.lst [.ref 6,.ref 7]),(12,.ref 8),(20,vL right),(19,vL left),(18,vL old)],(Oc A mm rest told mg dn row.1 g).cells,9⟩;have n5:∀(n:Nat)(v:V),[vN g.r0,vN g.r1][n]?=some v→bD eF (aJ 12) (gK (.int (n:Int))) (Oc A mm rest told mg dn row.1 g)=some (v,Oc A mm rest told mg dn row.1 g):=fun n v h=>dC (aT rfl) rfl (Bu (n:=n) rfl h (by show (2:Nat)≤1048576;exact aS Fm));refine bR (dK (v:=.tup [vL old,vL left,vL right]) (τ:=Oc A mm rest told mg dn row.1 g) (τ':=i) (hO (aQ (by rw [←O];exact Kf (aT rfl) (aT rfl) (aT rfl) (by exact aS Xe k)) (aQ (by
    rw [←Q];refine (dC (dC (aT rfl) rfl (rE (n:=0) rfl (by show (2:Nat)≤1048576;exact aS Fm))) (Kf (aT rfl) (n5 0 _ rfl) (aT rfl) (by exact aS Xe k)) (Fy (a:=g.y0.map V.int) rfl (by simp only [bC];have:=j g.r0 g.high;exact aS aK5 b1 this))).trans ?_;rw [←bX];rfl) (aQ (by
    rw [←R];refine (dC (dC (aT rfl) rfl (rE (n:=1) rfl (by show (2:Nat)≤1048576;exact aS Fm))) (Kf (aT rfl) (n5 1 _ rfl) (aT rfl) (by exact aS Xe k)) (Fy (a:=g.y1.map V.int) rfl (by simp only [bC];have:=j g.r1 g.high;exact aS aK5 N this))).trans ?_;rw [←bX];rfl) bU))) (by show (3:Nat)≤1048576;exact aS Cz)) rfl ?_)
  have T:∀{x y:Nat}{a b:bH},lk i.loc x=some (vL a)→lk i.loc y=some (vL b)→eE (bD qS (aJ x) (aJ y)) i=some (decide (a=b),i):=fun hx hy=>kD (dC (aT hx) (aT hy) (Zn _ _));have zk:rM (My (eE (bD qS (aJ 19) (aJ 20))) (My (eE (bD qS (aJ 20) (aJ 18))) (fun σ=>some (false,σ)))) (aJ 19) (rM (eE (bD qS (aJ 19) (aJ 18))) (aJ 20) (gV (aK (gV (aK (aJ 18) (aK (aJ 19) (aK (aJ 20) bI)))) bI))) i=some (.lst ((tQ old left right).map gO),i):=by
   have t1:=T (x:=19) (y:=20) (a:=left) (b:=right) rfl rfl;have t2:=T (x:=20) (y:=18) (a:=right) (b:=old) rfl rfl;have t3:=T (x:=19) (y:=18) (a:=left) (b:=old) rfl rfl;have W:My (eE (bD qS (aJ 19) (aJ 20))) (My (eE (bD qS (aJ 20) (aJ 18))) (fun σ=>some (false,σ))) i=some (decide (left=right∨right=old),i):=by
    simp only [My,t1,t2,bd];by_cases h1:left=right
    ·simp [h1]
    ·by_cases h2:right=old
     ·simp [h2]
     ·simp [h1,h2]
   refine wR W (fun h=>?_) (fun h=>?_)
   ·rw [tQ,if_pos (of_decide_eq_true h),A3];exact aT rfl
   ·rw [tQ,if_neg (of_decide_eq_false h)];refine wR t3 (fun h=>?_) (fun h=>?_)
    ·rw [if_pos (of_decide_eq_true h),A3];exact aT rfl
    ·rw [if_neg (of_decide_eq_false h)];exact qI (aQ (qI (aQ (aT rfl) (aQ (aT rfl) (aQ (aT rfl) bU))) (by show (3:Nat)≤1048576;exact aS Cz)) bU) (by show (1:Nat)≤1048576;exact aS Xc)
  have vr:(tQ old left right).length≤16200:=by
   unfold tQ;split
   ·simp;exact aS aKc ll
   ·split<;>simp<;>exact aS aKc lr
  let z:St:=⟨[(1,vL A),(4,.ref 1),(5,.ref 2),(6,.ref 3),(7,vN dn),(8,vN row.1),(9,vN g.high),(10,.lst [.ref 4,.ref 5]),(11,.lst [.ref 6,.ref 7]),(12,.ref 8),(20,vL right),(19,vL left),(18,vL old),(21,.lst ((tQ old left right).map gO))],(Oc A mm rest told mg dn row.1 g).cells,9⟩;refine bR (dK (τ:=i) (τ':=z) zk rfl ?_);let D:V:=.tup [vN row.1,vN g.high,.lst [.ref 4,.ref 5]];let p:bV→List (Nat×gM):=fun ml=>[(8,.list [vN g.r0,vN g.r1]),(7,.list (g.y1.map V.int)),(6,.list (g.y0.map V.int)),(5,.list (zB g.w1)),(4,.list (zB g.w0)),(3,.list ml),(2,.list (told.map gL++[D])),(1,.list (rest.map jR)),(0,.mat mm)];let F:St:=⟨z.loc,p (mg.map gO),9⟩;refine bR (mI (τ:=F) (sL (u:=.ref 2) (us:=[D]) (l:=told.map gL) (τ:=z) (τ':=z) (aT rfl) rfl (aQ (hO (aQ (aT rfl) (aQ (aT rfl) (aQ (aT rfl) bU))) (by show (3:Nat)≤1048576;exact aS Cz)) bU) (jE (l:=told.map gL) rfl (by simp;exact aS 0x2c62900538e99083882bc6318c6386003 B o))) ?_);let d:List qD:=(pB A dn row.1).map qD.i++tQ old left right;let s6:St:=⟨z.loc,p ((mg++d).map gO),9⟩;have vt:d.length≤16400:=by show (List.map qD.i (pB A dn row.1)++tQ old left right).length≤_;rw [bK,bC];have:=j dn row.1;exact aS 0x718a71ac638640029c67660a719eff66002 vr this
  refine bR (mI (τ:=s6) (sL (u:=.ref 3) (us:=[.lst (d.map gO)]) (l:=mg.map gO) (τ:=F) (τ':=F) (aT rfl) rfl (aQ ((dC (Kf (L:=A) (a:=dn) (b:=row.1) (aT rfl) (aT rfl) (aT rfl) (by exact aS Xe k)) (aT (v:=.lst ((tQ old left right).map gO)) rfl) (Fz (by simp only [bC];have:=j dn row.1;exact aS 0x1c629c6339e7b6640029c67660a719eff66002 vr this))).trans (by show some (V.lst ((pB A dn row.1).map V.int++(tQ old left right).map gO),F)=_;rw [←A3,←bX])) bU) ((zG (l:=mg.map gO) (l':=d.map gO) rfl rfl (by rw [bC];exact aS 0x2c62900538c6b38e68c8820e2c6b18e182bc6318c6386003 B C) (by rw [bC];exact aS 0x163148029c6b18e182bc6318c6386002 B vt)).trans (by rw [←bX];rfl))) ?_);refine dK (v:=vN g.high) (aT rfl) rfl ?_;refine ⟨sMo A mm rest (told++[(row.1,g.high,g.w0,g.w1)]) (mg++d) g.high,rest.length,?_,by simp;exact aS 0x318a90708121002 s,rest,told++[(row.1,g.high,g.w0,g.w1)],mg++d,g.high,f',rfl,rfl,by exact aS 0xe31484490092838507003 I s,J,fun x hx=>zC x (t x hx),by simp;exact aS 0xe314e3a640907024224e3a6420e1003 o s,by rw [bK];exact aS 0x600800010003f14e31ace39a32202c6b18e19030271ac63861a4224e31ace39a322083871ac6386004 C s vt⟩;have r4:rA 28 4 (p ((mg++d).map gO)) (.ref 4)=some (.lst (zB g.w0)):=zL (f:=26) (by decide) rfl (Ax _);have r5:rA 28 4 (p ((mg++d).map gO)) (.ref 5)=some (.lst (zB g.w1)):=zL (f:=26) (by decide) rfl (Ax _);have rt:rA xB 4 (p ((mg++d).map gO)) D=some (gL (row.1,g.high,g.w0,g.w1)):=
   F6 (f:=29) rfl (oZ (pF (f:=28) rfl) (oZ (pF (f:=28) rfl) (oZ (μ (f:=28) rfl (oZ r4 (oZ r5 rfl))) rfl)))
  refine M9 (loc:=[(1,vL A),(4,.ref 1),(5,.ref 2),(6,.ref 3),(7,vN g.high)]) (cs:=p ((mg++d).map gO)) (n:=9) rfl (cU (eA (eP A)) (cU rfl (cU rfl (cU rfl (cU rfl rfl)))))
   (lH (by decide) (lH (by decide) (lH (by decide) (lH (by decide) (lH (by decide) (dO (by decide) (eB (c:=.list ((mg++d).map gO)) (eM (oE _))) (dO (by decide) ?_ (dO (by decide) (eB (c:=.list (rest.map jR)) (eM (rG _))) (dO (by decide) rfl iM)))))))))
  show (nF _ (told.map gL++[D])).map gM.list=_;rw [Ef (uH (eM (lG told))) rt];simp
end
end
section
set_option backward.match.sparseCases false
open MineH (at_ bS fr)
def zM(x y:vH):Prop:=x.1<y.1∨(x.1=y.1∧(x.2.1<y.2.1∨(x.2.1=y.2.1∧x.2.2.1<y.2.2.1)))
def kr(r:vH):K3×V:=(((r.1:Int),(r.2.1:Int),(r.2.2.1:Int)),jR r)
theorem Xq:∀a:List vH,Pi aA3 (a.map jR)=some (a.map kr):=by
 intro b
 induction b with
 |nil=>exact rfl
 |cons t r c=>rw [cC,U5,c];rfl
theorem Wr{b a:List vH}(c:b.Perm a)(d:a.Pairwise zM)(g:a.length<64):Gz aA3 (b.map jR)=some (a.map jR):=by
 unfold Gz;rw [Xq];have i:SK (a.map kr):=by unfold SK;rw [yO];refine d.imp fun {t u} h=>A2.mpr ?_;refine (?_:(t.1:Int)<(u.1:Int)∨((t.1:Int)=(u.1:Int)∧((t.2.1:Int)<(u.2.1:Int)∨((t.2.1:Int)=(u.2.1:Int)∧(t.2.2.1:Int)<(u.2.2.1:Int)))));unfold zM at h;exact h.imp jW.mpr (And.imp (congrArg _) (Or.imp jW.mpr (And.imp (congrArg _) jW.mpr)))
 have f:((b.map kr).map (·.1)).Nodup:=by
  have j:((a.map kr).map (·.1)).Nodup:=by rw [wE];refine yO.mpr (d.imp fun {t u} h e=>?_);unfold zM at h;exact aS 0x8448c03195ea535497a8ea2bd4350358d628a622c6250c4b08141006 h (congrArg Prod.fst e) (congrArg (fun z=>z.2.1) e:(t.2.1:Int)=(u.2.1:Int)) (congrArg (fun z=>z.2.2) e:(t.2.2.1:Int)=(u.2.2.1:Int))
  exact (((c.map kr).map (·.1)).nodup_iff).mpr j
 show (if _ then _ else _)=_;rw [if_pos ⟨f,by rw [bC,c.length_eq];exact g⟩];rw [D7 (By _ f) i ((C3 _).trans (c.map kr)),wE];rfl
theorem aI2{σ:St}{c:M V}{a b:M (Option Int)}{lo hi:Option Int}{L:bH}(hx:c σ=some (vL L,σ))(hy:a σ=some (lo,σ))(d:b σ=some (hi,σ))(e:L.length≤1000):iE c a b σ=some (.lst (pySl (L.map V.int) lo hi),σ):=by unfold iE;rw [hx];refine (?_:bd (a σ) _=_);rw [hy];refine (?_:bd (b σ) _=_);rw [d];show (if (L.map V.int).length≤lim then some (V.lst (pySl (L.map V.int) lo hi),σ)else aF)=_;rw [if_pos (by rw [bC];exact aS Xa e (rfl:lim=1048576))]
section
variable{A B C:bH}
open Classical in
def aCe(A:bH):Bd:=fun c us=>ob (maC c) fun m=>if us=[vL A]then some (.mat {m with a:=some A},.none)else aF
open Classical in
def ŀ(B C:bH):Bd:=fun c us=>ob (maC c) fun m=>if us=[vL B]then some (.mat {m with b:=some B},.none)else if us=[vL C]then some (.mat {m with b:=some C},.none)else aF
def Ŀ(A B C:bH):Bd:=fun c us=>ob (maC c) fun m=>aN (ob m.a fun A'=>ob m.b fun B'=>open Classical in if A'=A∧(B'=B∨B'=C)then some (.mat m,xO A' B')else aF) us
open Classical in
def Ah(A B C:bH):bV→nX:=fun us=>if us=[xO A B,vL A,vL B,vN 0]then some (.lst ((eU B 0 (ops A B)).map jR))else if us=[xO A C,vL A,vL C,vN 1]then some (.lst ((eU C 1 (ops A C)).map jR))else aF
structure tO(A B:bH):Prop where
 la:A.length<200
 lb:B.length<200
 few:(bl A B (0,A.length,0,B.length)).length<64
 ch:wL A B (ops A B) 0 0 aF
theorem Uk:(ops A B).length≤2*((bl A B (0,A.length,0,B.length)).length+2):=by
 have c:∀(l:List T3)(i j:Nat),(wV i j l).length≤2*l.length:=by
  intro l
  induction l with
  |nil=>intro i j;exact bG _
  |cons t r d=>
   intro i j;obtain ⟨a,b,k⟩:=t;simp only [Ko,bK,bK];have e:(if i<a∧j<b then[(mZ.replace,i,a,j,b)]else if i<a then[(mZ.delete,i,a,j,b)]else if j<b then[(mZ.insert,i,a,j,b)]else[]).length≤1:=by
    split
    ·exact bG _
    ·split
     ·simp
     ·split<;>simp
   have:=d (a+k) (b+k);simp only [cQ];exact aS 0xf18a60838f464090102603d184938527004 e (by split<;>simp:(if k=0 then[]else[(mZ.equal,a,a+k,b,b+k)]).length≤1) this
 have:=c (mbs A B) 0 0;have:=Uw (A:=A) (B:=B);unfold ops;exact aS 0x32514c11a30b460251a3082980746003 ‹_› this
theorem W4{m:Ey}{R:List vH}{told:List kZ}{mg:List qD}(p:tO A B)(h2:tO A C)(s:(eU B 0 (ops A B)++eU C 1 (ops A C)).Perm R)(D:R.Pairwise zM)(zC:∀r∈R,I1 r)(j:R.length≤40)(F:yS A R.length R 0 [] []=(told,mg)):
  Go (zX (aCe A) (ŀ B C) (Do (Ah A B C)) (Ŀ A B C) 1 ⟨[(0,.inst 0),(1,vL A),(2,vL B),(3,vL C)],[(0,.mat m)],1⟩) fun f τ=>(∃(t:List kZ)(d:List qD),f=.ret (.tup [.ref 2,.lst (mg.map gO)])∧τ.cells=[(3,.list (d.map gO)),(2,.list (t.map gL)),(1,.list (([]:List vH).map jR)),(0,.mat ⟨some A,some C,m.auto⟩)]∧t=told):=by
 have bp:lim=1048576:=rfl;let st:nX→Ey→List (Nat×V)→St:=fun _ m x=>⟨(0,.inst 0)::(1,vL A)::(2,vL B)::(3,vL C)::x,[(0,.mat m)],1⟩;have G:∀m,Vk (aCe A) (aJ 0) (aK (aJ 1) bI) (st none m [])=some (.none,st none {m with a:=some A} []):=fun m=>
  Wh (τ:=st none m []) (τ':=st none m []) (i:=0) (c:=.mat m) (c0:=.mat m) (aT rfl) rfl rfl (aQ (aT rfl) bU) rfl (by simp only [cP,cO,eP];rfl) (if_pos rfl)
 have H:∀m x,Vk (ŀ B C) (aJ 0) (aK (aJ 2) bI) (st none m x)=some (.none,st none {m with b:=some B} x):=fun m x=>
  Wh (τ:=st none m x) (τ':=st none m x) (i:=0) (c:=.mat m) (c0:=.mat m) (aT rfl) rfl rfl (aQ (aT rfl) bU) rfl (by simp only [cP,cO,eP];rfl) (if_pos rfl)
 have I:∀m x,Vk (ŀ B C) (aJ 0) (aK (aJ 3) bI) (st none m x)=some (.none,st none {m with b:=some C} x):=fun m x=>
  Wh (τ:=st none m x) (τ':=st none m x) (i:=0) (c:=.mat m) (c0:=.mat m) (aT rfl) rfl rfl (aQ (aT rfl) bU) rfl (by simp only [cP,cO,eP];rfl) (by
   by_cases q:B=C
   ·subst q;exact if_pos rfl
   ·have:¬[vL C]=[vL B]:=fun z=>by simp only [jV,and_true,vL,V.lst.injEq]at z;exact q (Hq z).symm
    exact (if_neg this).trans (if_pos rfl))
 have J:∀g x,Vk (Ŀ A B C) (aJ 0) bI (st none ⟨some A,some B,g⟩ x)=some (xO A B,st none ⟨some A,some B,g⟩ x):=fun g x=>
  Wh (τ:=st none ⟨some A,some B,g⟩ x) (τ':=st none ⟨some A,some B,g⟩ x) (i:=0) (c:=.mat ⟨some A,some B,g⟩) (c0:=.mat ⟨some A,some B,g⟩) (aT rfl) rfl rfl bU rfl rfl (if_pos ⟨rfl,.inl rfl⟩)
 have N:∀g x,Vk (Ŀ A B C) (aJ 0) bI (st none ⟨some A,some C,g⟩ x)=some (xO A C,st none ⟨some A,some C,g⟩ x):=fun g x=>
  Wh (τ:=st none ⟨some A,some C,g⟩ x) (τ':=st none ⟨some A,some C,g⟩ x) (i:=0) (c:=.mat ⟨some A,some C,g⟩) (c0:=.mat ⟨some A,some C,g⟩) (aT rfl) rfl rfl bU rfl rfl (if_pos ⟨rfl,.inr rfl⟩)
 have O:¬[xO A C,vL A,vL C,vN 1]=[xO A B,vL A,vL B,vN 0]:=fun z=>by simp only [jV,vN,V.int.injEq]at z;lia
 have Q:∀σ:St,Do (Ah A B C) [xO A B,vL A,vL B,vN 0] σ=some (.lst ((eU B 0 (ops A B)).map jR),σ):=fun σ=>by unfold Do;rw [if_pos (by simp only [cP,cO,uF,eP];rfl:cS [xO A B,vL A,vL B,vN 0]=true)];unfold Ah;rw [if_pos rfl];rfl
 have T:∀σ:St,Do (Ah A B C) [xO A C,vL A,vL C,vN 1] σ=some (.lst ((eU C 1 (ops A C)).map jR),σ):=fun σ=>by unfold Do;rw [if_pos (by simp only [cP,cO,uF,eP];rfl:cS [xO A C,vL A,vL C,vN 1]=true)];unfold Ah;rw [if_neg O,if_pos rfl];rfl
 have u:=s.length_eq;rw [bK]at u;unfold zX;refine bR (mI (G m) ?_);refine bR (mI (H {m with a:=some A} []) ?_);refine bR (dK (v:=.lst ((eU B 0 (ops A B)).map jR)) (τ':=st none ⟨some A,some B,m.auto⟩ [(4,.lst ((eU B 0 (ops A B)).map jR))]) (kL (aQ (J m.auto []) (aQ (aT rfl) (aQ (aT rfl) (aQ (v:=vN 0) rfl bU)))) (Q _)) rfl ?_);refine bR (mI (I ⟨some A,some B,m.auto⟩ [(4,.lst ((eU B 0 (ops A B)).map jR))]) ?_);let k:St:=st none ⟨some A,some C,m.auto⟩ [(4,.lst ((eU B 0 (ops A B)).map jR))];refine bR (dK (v:=.ref 1) (τ:=⟨k.loc,[(1,.list (R.map jR)),(0,.mat ⟨some A,some C,m.auto⟩)],2⟩) (τ':=⟨[(0,.inst 0),(1,vL A),(2,vL B),(3,vL C),(4,.ref 1)],[(1,.list (R.map jR)),(0,.mat ⟨some A,some C,m.auto⟩)],2⟩)
  (kL (us:=[.lst ((eU B 0 (ops A B)++eU C 1 (ops A C)).map jR)]) (τ:=k) (aQ ((dC (τ:=k) (τ':=k) (aT (v:=.lst ((eU B 0 (ops A B)).map jR)) rfl) (kL (aQ (N m.auto _) (aQ (aT rfl) (aQ (aT rfl) (aQ (v:=vN 1) rfl bU)))) (T _)) (Fz (by simp only [bC];exact aS 0x2c629c6339e7b664082b020414e3a6003 j u))).trans (by rw [←bX])) bU) (by have:=Wr s D (aS 0xc62ac60e04e3a6001 j);exact qJ this rfl)) rfl ?_)
 refine bR (dK (v:=.tup [.ref 2,.ref 3,vN 0]) (hO (aQ (pX bU (by exact aS Ks)) (aQ (pX bU (by exact aS Ks)) (aQ (v:=vN 0) rfl bU))) (by exact aS Cz)) rfl ?_);let h:Ey:=⟨some A,some C,m.auto⟩;refine fW (σ':=sMo A h R [] [] 0) rfl ?_;have W:Go (qA [1,4,5,6,7] (eE (bD Di (aJ 4) (gV bI))) (qR (aCe A) (ŀ B C) (Do (Ah A B C)) (Ŀ A B C)) 1 (sMo A h R [] [] 0)) fun f τ=>f=.next∧∃t d dn,d.length≤656000∧(t,d++(A.drop dn).map qD.i)=(told,mg)∧τ=sMo A h [] t d dn:=by
  refine C6 (JO3 A h (told,mg)) R.length (by show _<1048576;exact aS 0x18c558c6318c70c04e3a6001 j) (by show (1:Nat)≤4;decide) ⟨R,[],[],0,R.length,rfl,rfl,bG _,F,zC,by simpa using j,by simp;exact aS 0x80200007e29c6359c73468031ac63864e3a6001 j⟩
   (fun m τ X=>Rv (P:=fun f τ=>f=.next∧∃t d dn,d.length≤656000∧(t,d++(A.drop dn).map qD.i)=(told,mg)∧τ=sMo A h [] t d dn) (by have:=p.la;exact aS aGo this) X (fun t d dn l e=>⟨rfl,t,d,dn,l,e,rfl⟩))
 refine bR (W.mono ?_);rintro _ _ ⟨rfl,t,d,dn,l,e,rfl⟩;simp only [qE]at e;obtain ⟨Y,Z⟩:=e;show Go _ _;let o:St:=⟨[(1,vL A),(5,.ref 2),(6,.ref 3),(7,vN dn)],[(3,.list (d.map gO)),(2,.list (t.map gL)),(1,.list (([]:List vH).map jR)),(0,.mat h)],4⟩;refine fW (σ':=o) rfl ?_;unfold zW;have y:=p.la;refine qQ (τ:=o) (v:=.tup [.ref 2,.lst (mg.map gO)]) (hO (aQ (aT rfl) (aQ ((dC (aT rfl) (b:=.lst ((A.drop dn).map V.int)) (τ':=o) ?_ (Fy (a:=d.map gO) rfl (by simp only [bC,tW];exact aS 0x34f18a718ce79ed99001ab19d9829c6359c73461ccc1003 l y))).trans (by rw [←A3,←bX,Z])) bU)) (by show (2:Nat)≤1048576;exact aS Fm)) ⟨t,d,rfl,rfl,Y⟩;refine (aI2 (L:=A) (lo:=some (dn:Int)) (hi:=aF) (aT rfl) rfl rfl (by exact aS ú y)).trans ?_;have:pySl (A.map V.int) (some (dn:Int)) aF=(A.drop dn).map V.int:=by rw [ς,E7]
 rw [this]
end
section
variable{n:Nat}{A B C:bH}
theorem aJw(G:Gd)(a:tO A B)(b:tO A C)(F:Fx):Dr (n+1) F (.ref 277) (Do (Ah A B C)):=G9 fun us r _ e=>by
 have d:=b.few;unfold Ah at e;split at e
 ·rename_i c;subst c;cases e;exact Qb (side:=0) G a.la a.lb (aS aKs (Uk (A:=A) (B:=B)) (a.few)) a.ch
 ·split at e
  ·rename_i c;subst c;cases e;exact Qb (side:=1) G b.la b.lb (aS aKs (Uk (A:=A) (B:=C)) d) b.ch
  ·cases e
open Classical in
theorem aCd(G:Gd)(A:bH):∀c0 us c1 r,cS us=true→aCe A c0 us=some (c1,r)→pH c0∧qV (n+1) (.ref 174) c0 us (fun c a=>c=c1∧a=r):=fun c0 us c1 r _ e=>by refine Uo e fun m e=>?_;obtain ⟨b,d⟩:=iC e;subst b;cases d;exact ⟨trivial,mS1 G _ A⟩
open Classical in
theorem aCc(G:Gd)(b:B.length<200)(d:C.length<200):∀c0 us c1 r,cS us=true→ŀ B C c0 us=some (c1,r)→pH c0∧qV (n+2) (.ref 181) c0 us (fun c f=>c=c1∧f=r):=fun c0 us c1 r _ e=>by
 refine Uo e fun m e=>?_;by_cases a:us=[vL B]
 ·subst a;replace e:=(if_pos rfl).symm.trans e;cases e;exact ⟨trivial,mS2 G _ B b⟩
 ·replace e:=(if_neg a).symm.trans e;obtain ⟨a,g⟩:=iC e;subst a;cases g;exact ⟨trivial,mS2 G _ C d⟩
theorem aCb(G:Gd)(a:tO A B)(b:tO A C):∀c0 us c1 r,cS us=true→Ŀ A B C c0 us=some (c1,r)→pH c0∧qV (n+5) (.ref 210) c0 us (fun c d=>c=c1∧d=r):=fun c0 us c1 r i e=>by
 refine Uo e ?_;clear e;intro m e;refine oM e ?_;clear e;intro e;replace e:=dS e;obtain ⟨A',f,e⟩:=e;replace e:=dS e;obtain ⟨B',g,e⟩:=e;replace e:=iC e;obtain ⟨h,e⟩:=e;obtain ⟨j,b',k⟩:=m;cases f;cases g;cases e;obtain ⟨rfl,rfl|rfl⟩:=h
 ·exact ⟨trivial,aJ9 G _ rfl rfl a.la a.lb a.few⟩
 ·exact ⟨trivial,aJ9 G _ rfl rfl b.la b.lb b.few⟩
theorem aGg(G:Gd)(a:tO A B)(b:tO A C)(g:(eU B 0 (ops A B)++eU C 1 (ops A C)).Perm R)(i:R.Pairwise zM)(zC:∀r∈R,I1 r)(j:R.length≤40)(k:yS A R.length R 0 [] []=(told,mg)):
  qV (n+6) (.ref 284) (.mat m) [vL A,vL B,vL C] (fun c r=>c=.mat ⟨some A,some C,m.auto⟩∧r=.tup [.lst (told.map gL),.lst (mg.map gO)]):=by
 refine vR (fd:=iY MineH.o284v0) (o:=MineH.o284v0) (tab:=wG) (body:=bS (at_ [12])) (dJ w.params) (G.K 284 _ (by kernel_rfl)) rfl G.lim (codeRec_of G.K (by kernel_rfl)) rfl (fun vs h=>?_) (by refine (?_:(4:Nat)≤22);decide) (by refine (?_:True);trivial) (fun L=>?_) (by simp only [cP,cO,eP];rfl)
 ·revert vs;exact ll4 fun _ _ _ _=>by kernel_rfl
 ·obtain ⟨f,τ,e,t,l,rfl,d,rfl⟩:=W4 (m:=m) a b g i zC j k;refine jC (Mp G (aCd (n:=n+4) G A) (aCc (n:=n+3) G a.lb b.lb) (fun F=>aJw (n:=n+4) G a b F) (aCb (n:=n) G a b) 1 _ _ _ e) ?_;rintro _ _ ⟨rfl,rfl⟩;refine ⟨.mat ⟨some A,some C,m.auto⟩,.mat ⟨some A,some C,m.auto⟩,.tup [.lst (t.map gL),.lst (mg.map gO)],by rw [d];rfl,rfl,(by refine (?_:True);trivial),?_,?_,rfl,rfl⟩
  ·rw [d];exact F6 (f:=29) rfl (oZ (zL (f:=27) (by decide) rfl (lG _)) (oZ (pF (f:=28) (oE _)) rfl))
  ·simp only [pQ,pP,pO,pN,mU,mT,cP,cO,lG,oE,fD]
end
end
section
open MineH (at_ bS fr)
def oL(old new:bH):mZ:=if old=[]then .insert else if new=[]then .delete else .replace
def fR(s:eX)(v:Nat):Nat:=s.2.2.getD v 0
def iO(s:eX)(r v:Nat):List mZ:=if fR s v=fR s r then[]else[oL (frm s r) (frm s v)]
def uB(s:eX)(r a b:Nat):List qD:=if oF (fR s r) (fR s a) (fR s b)<0 then[.c (frm s r) (frm s a) (frm s b)]else ((s.2.1.getD (oF (fR s r) (fR s a) (fR s b)).toNat []).map .i)
def Bl(r a b:Nat):List eX→Nat→List kZ→List qD→List kZ×List qD
 |[],_,t,m=>(t,m)
 |s::sp,low,t,m=>Bl r a b sp (low+s.1.length+(frm s r).length)
   (if iO s r a=[]∧iO s r b=[]then t else t++[(low+s.1.length,low+s.1.length+(frm s r).length,iO s r a,iO s r b)])
   (m++(s.1.map .i++uB s r a b))
theorem P5:Bl r a b [] c t m=((t,m)):=rfl
theorem P4:Bl r a b (s::c) low t m=(Bl r a b c (low+s.1.length+(frm s r).length)
  (if iO s r a=[]∧iO s r b=[]then t else t++[(low+s.1.length,low+s.1.length+(frm s r).length,iO s r a,iO s r b)])
  (m++(s.1.map .i++uB s r a b))):=rfl
theorem sU(b o t:Nat):oF b o t= -1∨oF b o t=(o:Int)∨oF b o t=(t:Int):=by
 unfold oF;split
 ·exact .inr (.inl rfl)
 ·split
  ·exact .inr (.inr rfl)
  ·exact .inl rfl
section
variable{r a b:Nat}
structure Ş(r a b:Nat)(s:eX):Prop where
 r:Fs r s
 a:Fs a s
 b:Fs b s
def vW(l:List mZ):V:=.lst (zB l)
theorem F1(l:List mZ):(vW l).pure=true:=Ax l
theorem aLs(n:Nat)(l:List mZ):ed (n+1) (vW l)=true:=by
 refine (?_:(zB l).all (ed n)=true)
 induction l with
 |nil=>rfl
 |cons t r c=>refine (?_:(ed n (.str t.s)&& (zB r).all (ed n))=true);simp only [It,c];rfl
theorem aFh:vW l=.lst []↔l=[]:=by unfold vW zB;cases l<;>simp
def sD(s:eX)(r a b low:Nat)(told:List kZ)(mg:List qD)(x:List (Nat×V))(ws:bV):St:=
 ⟨[(1,vN r),(2,vN a),(3,vN b),(4,.ref 0),(5,.ref 1),(6,vN low),(7,vL s.1),(8,.lst (s.2.1.map vL)),(9,.tup (s.2.2.map vN)),(10,vL (frm s r)),(11,vL (frm s a)),(12,vL (frm s b)),(13,.int (oF (fR s r) (fR s a) (fR s b))),(14,.ref 2)]++x,
  [(2,.list ws),(1,.list (mg.map gO)),(0,.list (told.map gL))],3⟩
def sDo(r a b low:Nat)(told:List kZ)(mg:List qD)(x:List (Nat×V)):St:=
 ⟨x++[(1,vN r),(2,vN a),(3,vN b),(4,.ref 0),(5,.ref 1),(6,vN low)],[(1,.list (mg.map gO)),(0,.list (told.map gL))],2⟩
theorem Rr:∀{l:bV}{v:V},cS l=true→v.pure=true→cS (l++[v])=true:=by
 intro c
 induction c with
 |nil=>intro v;intro _;intro h;refine (?_:(v.pure&&true)=true);rw [h];rfl
 |cons a l d=>intro v;intro h;intro e;simp only [cP,cO,fU]at h;simp only [jO,cP,cO,h.1,qL];exact d h.2 e
theorem aN7(f:cS d=true)(e:C1 [1,2,3,4,5,6,7,8,9,10,11,12,13,14] τ=sD s r a b low told mg [] d):Gf [1,2,3,4,5,6,7,8,9,10,11,12,13,14] 3 τ=some (sD s r a b low told mg [] d):=by refine mX e ?_ (dO (by decide) (eB (c:=.list d) (eM f)) (dO (by decide) (eB (c:=.list (mg.map gO)) (eM (oE _))) (dO (by decide) (eB (c:=.list (told.map gL)) (eM (lG _))) iM)));have g:(V.lst (s.2.1.map vL)).pure=true:=Ci _;have h:(V.tup (s.2.2.map vN)).pure=true:=rH _;simp only [eO,eT,jQ,fX (eP s.1),fX (eP (frm s r)),fX (eP (frm s a)),fX (eP (frm s b)),fX g,fX h];rfl
theorem P3{low side:Nat}{den:bV→nX}(k:Fs v s)(m:Fs r s)(n:new=frm s v)(o:c.length≤10)(f:cS c=true):
  Go (xY (Do den) 3 (sD s r a b low told mg [(15,vN v),(16,vL new)] c)) (Nx fun p=>Gf [1,2,3,4,5,6,7,8,9,10,11,12,13,14] 3 p=some (sD s r a b low told mg [] (c++[vW (iO s r v)]))):=by
 have g:lim=1048576:=rfl;obtain ⟨t,B,C,D,i,F⟩:=k;obtain ⟨y,G,H,I,J,L⟩:=m;subst n;let e:=sD s r a b low told mg [(15,vN v),(16,vL (frm s v))] c;have j:∀{x:Nat}{l:bH},lk e.loc x=some (vL l)→eE (bD qS (aJ x) (gV bI)) e=some (decide (l=[]),e):=fun {x l} hx=>kD (dC (aT hx) (qI (vs:=[]) bU (by refine (?_:(0:Nat)≤1048576);exact aS Ks)) (Zn l []));let d:=sD s r a b low told mg [(15,vN v),(16,vL (frm s v)),(17,.str (oL (frm s r) (frm s v)).s)] c;refine bR (dK (v:=.str (oL (frm s r) (frm s v)).s) (τ:=e) (τ':=d) ?_ rfl ?_)
 ·unfold oL;refine wR (j (x:=10) (l:=frm s r) rfl) (fun h=>?_) (fun h=>?_)
  ·rw [if_pos (of_decide_eq_true h)];rfl
  ·rw [if_neg (of_decide_eq_false h)];refine wR (j (x:=16) (l:=frm s v) rfl) (fun h=>?_) (fun h=>?_)
   ·rw [if_pos (of_decide_eq_true h)];rfl
   ·rw [if_neg (of_decide_eq_false h)];rfl
 ·have z:eE (bD qS (bD eF (aJ 9) (aJ 15)) (bD eF (aJ 9) (aJ 1))) d=some (decide (fR s v=fR s r),d):=by
   refine kD (dC (dC (aT rfl) (aT rfl) (tJ (v:=vN (fR s v)) (sZ 0 t) (by simp;exact aS Xh g i))) (dC (aT rfl) (aT rfl) (tJ (v:=vN (fR s r)) (sZ 0 y) (by simp;exact aS Xh g i))) ?_);refine (Kh _ _).trans ?_
   congr 3
   exact decide_eq_decide.mpr aMv
  have hw:rM (eE (bD qS (bD eF (aJ 9) (aJ 15)) (bD eF (aJ 9) (aJ 1)))) (gV bI) (gV (aK (aJ 17) bI)) d=some (vW (iO s r v),d):=by
   unfold iO;refine wR z (fun h=>?_) (fun h=>?_)
   ·rw [if_pos (of_decide_eq_true h)];exact qI bU (by exact aS Ks)
   ·rw [if_neg (of_decide_eq_false h)];exact qI (aQ (aT rfl) bU) (by exact aS Xc)
  refine mI (sL (u:=.ref 2) (us:=[vW (iO s r v)]) (l:=c) (τ:=d) (τ':=d) (aT rfl) rfl (aQ hw bU) (jE (l:=c) rfl (aS aKi o g))) ?_;have A:cS (c++[vW (iO s r v)])=true:=Rr f (F1 _);exact aN7 A rfl
theorem ļ{den:bV→nX}(ok:Ş r a b s)(I:C1 [1,2,3,4,5,6,7,8,10,11,12,13,14] τ=⟨[(1,vN r),(2,vN a),(3,vN b),(4,.ref 0),(5,.ref 1),(6,vN low),(7,vL s.1),(8,.lst (s.2.1.map vL)),(10,vL (frm s r)),(11,vL (frm s a)),(12,vL (frm s b)),(13,.int (oF (fR s r) (fR s a) (fR s b))),(14,.ref 2)],[(2,.list [vW (iO s r a),vW (iO s r b)]),(1,.list (mg.map gO)),(0,.list (told.map gL))],3⟩)
  (o:s.1.length<200) (D:(frm s r).length<200) (J:told.length≤1000) (L:mg.length≤100000):
  Go ((oD [1,2,3,4,5,6,7,8,10,11,12,13,14] (xX (Do den))) 2 τ) (Nx fun p=>Gf [1,2,3,4,5,6] 2 p=some (sDo r a b (low+s.1.length+(frm s r).length) (if iO s r a=[]∧iO s r b=[]then told else told++[(low+s.1.length,low+s.1.length+(frm s r).length,iO s r a,iO s r b)]) (mg++(s.1.map .i++uB s r a b)) [])):=by
 have m:lim=1048576:=rfl;obtain ⟨⟨a1,a2,a3,N,a5,a6⟩,⟨b1,t,b3,b4,b5,F⟩,⟨c1,c2,c3,c4,c5,G⟩⟩:=ok;let g:Nat→bV→bV→St:=fun low e x=>⟨[(1,vN r),(2,vN a),(3,vN b),(4,.ref 0),(5,.ref 1),(6,vN low),(7,vL s.1),(8,.lst (s.2.1.map vL)),(10,vL (frm s r)),(11,vL (frm s a)),(12,vL (frm s b)),(13,.int (oF (fR s r) (fR s a) (fR s b))),(14,.ref 2)],[(2,.list [vW (iO s r a),vW (iO s r b)]),(1,.list x),(0,.list e)],3⟩;let i:Nat→bV→bV→St:=fun low e x=>⟨[(1,vN r),(2,vN a),(3,vN b),(4,.ref 0),(5,.ref 1),(6,vN low),(7,vL s.1),(8,.lst (s.2.1.map vL)),(10,vL (frm s r)),(11,vL (frm s a)),(12,vL (frm s b)),(13,.int (oF (fR s r) (fR s a) (fR s b)))],[(2,.list [vW (iO s r a),vW (iO s r b)]),(1,.list x),(0,.list e)],3⟩;refine fW (σ':=g low (told.map gL) (mg.map gO)) I ?_;refine bR (Su (old:=vN low) (v:=vN s.1.length) (r:=vN (low+s.1.length)) (τ:=g low (told.map gL) (mg.map gO)) (τ':=g low (told.map gL) (mg.map gO)) rfl (kL (aQ (aT rfl) bU) (wB s.1 o _)) Lq ?_);let d:=low+s.1.length;have O:eE (bD Di (aJ 14) (gV (aK (gV bI) (aK (gV bI) bI)))) (g d (told.map gL) (mg.map gO))=some (!decide (iO s r a=[]∧iO s r b=[]),g d (told.map gL) (mg.map gO)):=by
  have Q:cS [vW (iO s r a),vW (iO s r b)]=true:=by simp only [cP,cO,F1];rfl
  exact kD (dC (aT rfl) (qI (aQ (qI bU (by exact aS Ks)) (aQ (qI bU (by exact aS Ks)) bU)) (by exact aS Fm))
   (Kg (P:=iO s r a=[]∧iO s r b=[]) (wT (by decide) rfl Q) (eA rfl) (by show zE [vW (iO s r a),vW (iO s r b)] (ed 63)=true;simp only [eT,jQ,aLs,fD]) rfl (by simp only [V.lst.injEq,jV,and_true,aFh])).2)
 have R:gB Dm (aK (aJ 10) bI) (g d (told.map gL) (mg.map gO))=some (vN (frm s r).length,g d (told.map gL) (mg.map gO)):=kL (aQ (aT rfl) bU) (wB (frm s r) D _);have items:∀e:bV,bD fQ (aJ 7) (rM (eE (bD Cc (aJ 13) (gK (.int 0)))) (gV (aK (gV (aK (aJ 10) (aK (aJ 11) (aK (aJ 12) bI)))) bI)) (bD eF (aJ 8) (aJ 13))) (i d e (mg.map gO))=some (.lst ((s.1.map qD.i++uB s r a b).map gO),i d e (mg.map gO)):=fun e=>by
  have T:eE (bD Cc (aJ 13) (gK (.int 0))) (i d e (mg.map gO))=some (decide (oF (fR s r) (fR s a) (fR s b)<0),i d e (mg.map gO)):=rfl;have W:rM (eE (bD Cc (aJ 13) (gK (.int 0)))) (gV (aK (gV (aK (aJ 10) (aK (aJ 11) (aK (aJ 12) bI)))) bI)) (bD eF (aJ 8) (aJ 13)) (i d e (mg.map gO))=some (.lst ((uB s r a b).map gO),i d e (mg.map gO)):=by
   unfold uB;refine wR T (fun h=>?_) (fun h=>?_)
   ·rw [if_pos (of_decide_eq_true h)];exact qI (aQ (qI (aQ (aT rfl) (aQ (aT rfl) (aQ (aT rfl) bU))) (by show (3:Nat)≤1048576;exact aS Cz)) bU) (by show (1:Nat)≤1048576;exact aS Xc)
   ·have j:=of_decide_eq_false h;rw [if_neg j,A3];have X:∃k:Nat,oF (fR s r) (fR s a) (fR s b)=(k:Int)∧k<s.2.1.length:=by
     rcases sU (fR s r) (fR s a) (fR s b)with q|q|q
     ·lia
     ·exact ⟨fR s a,q,t⟩
     ·exact ⟨fR s b,q,c2⟩
    obtain ⟨k,Y,y⟩:=X;refine dC (b:=.int (oF (fR s r) (fR s a) (fR s b))) (aT rfl) (aT rfl) ?_;rw [Y,eL];exact rE (sZ [] y) (by rw [bC];exact aS Xh m N)
  have z:(uB s r a b).length≤1000:=by
   unfold uB;split
   ·simp
   ·rename_i j;rw [bC];rcases sU (fR s r) (fR s a) (fR s b)with q|q|q
    ·exact aS aGv j q
    ·rw [q,eL];exact F _ (aG (tC [] t))
    ·rw [q,eL];exact G _ (aG (tC [] c2))
  refine (dC (aT rfl) W (Fz (by simp only [bC];exact aS 0x718a718ce79ed99010271df9c2ac6766002 o z))).trans ?_;rw [←A3,←bX]
 have z:(s.1.map qD.i++uB s r a b).length≤2000:=by
  rw [bK,bC];have:(uB s r a b).length≤1000:=by
   unfold uB;split
   ·simp
   ·rename_i j;rw [bC];rcases sU (fR s r) (fR s a) (fR s b)with q|q|q
    ·exact aS aGv j q
    ·rw [q,eL];exact F _ (aG (tC [] t))
    ·rw [q,eL];exact G _ (aG (tC [] c2))
  exact aS aKr o this
 have H:∀(e:bV)(A:List kZ)(σ:St),C1 [1,2,3,4,5,6,7,8,10,11,12,13] σ=i d e (mg.map gO)→nF (rA xB 2 [(2,.list [vW (iO s r a),vW (iO s r b)]),(1,.list ((mg++(s.1.map qD.i++uB s r a b)).map gO)),(0,.list e)]) e=some (A.map gL)→
   Go ((oD [1,2,3,4,5,6,7,8,10,11,12,13] (dP (tE (vE wC (aJ 5) (aK (bD fQ (aJ 7) (rM (eE (bD Cc (aJ 13) (gK (.int 0)))) (gV (aK (gV (aK (aJ 10) (aK (aJ 11) (aK (aJ 12) bI)))) bI)) (bD eF (aJ 8) (aJ 13)))) bI))) (M0 6 H7 (gB Dm (aK (aJ 10) bI))))) 2 σ) (Nx fun p=>Gf [1,2,3,4,5,6] 2 p=some (sDo r a b (low+s.1.length+(frm s r).length) A (mg++(s.1.map .i++uB s r a b)) [])):=fun e A σ Z B=>by
  refine fW Z ?_;let C:=i d e ((mg++(s.1.map qD.i++uB s r a b)).map gO);refine bR (mI (τ:=C) (sL (u:=.ref 1) (us:=[.lst ((s.1.map qD.i++uB s r a b).map gO)]) (l:=mg.map gO) (τ:=i d e (mg.map gO)) (τ':=i d e (mg.map gO)) (aT rfl) rfl (aQ (items e) bU) ((zG (l:=mg.map gO) (l':=(s.1.map qD.i++uB s r a b).map gO) rfl rfl (by rw [bC];exact aS 0x3462908178c6318c70c14e39ade366002 L m) (by rw [bC];exact aS 0xb18a4014e35fd982bc6318c6386002 m z)).trans (by rw [←bX];rfl))) ?_);refine Su (old:=vN d) (v:=vN (frm s r).length) (r:=vN (d+(frm s r).length)) (τ:=C) (τ':=C) rfl (kL (aQ (aT rfl) bU) (wB (frm s r) D _)) Lq ?_;refine mX (loc:=[(1,vN r),(2,vN a),(3,vN b),(4,.ref 0),(5,.ref 1),(6,vN (d+(frm s r).length))]) rfl rfl (lH (by decide) (dO (by decide) (eB (c:=.list ((mg++(s.1.map qD.i++uB s r a b)).map gO)) (eM (oE _))) (dO (by decide) ?_ iM)));show (nF _ e).map gM.list=_;rw [B];rfl
 refine bR (nP (gZ O ?_));by_cases q:iO s r a=[]∧iO s r b=[]
 ·rw [if_neg (by simp [q])];rw [if_pos q];refine iR ?_;exact H (told.map gL) told _ rfl (uH (eM (lG told)))
 ·rw [if_pos (by simp [q])];rw [if_neg q];let n:V:=.tup [vN d,vN (d+(frm s r).length),.ref 2];let s7:=g d (told.map gL++[n]) (mg.map gO);refine mI (τ:=s7) (sL (u:=.ref 0) (us:=[n]) (l:=told.map gL) (τ:=g d (told.map gL) (mg.map gO)) (τ':=g d (told.map gL) (mg.map gO)) (aT rfl) rfl (aQ (hO (aQ (aT rfl) (aQ (dC (aT rfl) R Q6) (aQ (aT rfl) bU))) (by show (3:Nat)≤1048576;exact aS Cz)) bU) (jE (l:=told.map gL) rfl (by simp;exact aS Xa J m))) ?_;refine H (told.map gL++[n]) (told++[(d,d+(frm s r).length,iO s r a,iO s r b)]) _ rfl ?_;rw [show (told++[(d,d+(frm s r).length,iO s r a,iO s r b)]).map gL=told.map gL++[gL (d,d+(frm s r).length,iO s r a,iO s r b)] by simp];refine Ef (uH (eM (lG told))) ?_;generalize u6:[(2,gM.list [vW (iO s r a),vW (iO s r b)]),(1,gM.list ((mg++(s.1.map qD.i++uB s r a b)).map gO)),(0,gM.list (told.map gL++[n]))]=cs;have hl:lk cs 2=some (.list [vW (iO s r a),vW (iO s r b)]):=by rw [←u6];rfl
  exact F6 (f:=29) rfl (oZ (pF (f:=28) rfl) (oZ (pF (f:=28) rfl) (oZ (zL (f:=27) (by decide) hl (by show cS [vW (iO s r a),vW (iO s r b)]=true;simp only [cP,cO,F1];rfl)) rfl)))
end
end
section
open MineH (at_ bS fr)
section
variable{r a b:Nat}
theorem Na(ok:Fs v s)(d:lk σ.loc 8=some (.lst (s.2.1.map vL)))(e:lk σ.loc 9=some (.tup (s.2.2.map vN)))(hx:lk σ.loc x=some (vN v)):bD eF (aJ 8) (bD eF (aJ 9) (aJ x)) σ=some (vL (frm s v),σ):=by have c:lim=1048576:=rfl;obtain ⟨f,g,j,h,i,k⟩:=ok;exact dC (aT d) (dC (aT e) (aT hx) (tJ (v:=vN (fR s v)) (sZ 0 f) (by simp;exact aS Xh c i))) (rE (sZ [] g) (by simp;exact aS Xh c h))
theorem Q5{gt:V→St→Option St}(e:gt d σ=some τ)(f:c τ=some (x,τ'))(g:yJ gt (lP c) ds τ'=some (xs,τ'')):yJ gt (lP c) (d::ds) σ=some (x::xs,τ''):=by
 simp only [Np,No];rw [e];refine (?_:bd (lP c τ) _=_);have:lP c τ=some ([x],τ'):=by unfold lP;rw [f];rfl
 rw [this];show bd (yJ gt (lP c) ds τ') _=_;rw [g];rfl
inductive JD(r a b:Nat)(sp:List eX)(gx:List kZ×List qD)(p:Nat)(τ:St):Prop
 |mk (x:List (Nat×V)) (low:Nat) (told:List kZ) (mg:List qD) (h:x=[]∨x=[(0,V.lst (sp.map jX))]) (e:τ=sDo r a b low told mg x) (l:told.length≤p) (g:mg.length≤2000*p) (d:Bl r a b (sp.drop p) low told mg=gx)
theorem Ļ(g:e.length≤40)(zC:Ş r a b s)(u:s.1.length<200)(H:(frm s r).length<200)(I:e[p]?=some s)(k:JD r a b e A p τ):
  ∃τ',Jf [bQ 7,bQ 8,bQ 9] (jX s) τ=some τ'∧Go (xZ (Do wA) 2 τ') (Ao [1,2,3,4,5,6] 2 (JD r a b e A (p+1)) (fun _=>False) (fun _ _=>False)):=by
 obtain ⟨x,low,told,mg,hx,rfl,l,B,C⟩:=k;obtain ⟨m,J⟩:=cW.mp I;rw [(by simp only [lT m,J]:e.drop p=s::e.drop (p+1))]at C;have L:(s.1.map qD.i++uB s r a b).length≤2000:=by
  refine nn fun N=>?_;obtain ⟨_,⟨b1,O,b3,b4,b5,P⟩,⟨c1,c2,c3,c4,c5,Q⟩⟩:=zC;refine N ?_;rw [bK,bC];have:(uB s r a b).length≤1000:=by
   unfold uB;split
   ·exact Bf _
   ·rename_i g;rw [bC];rcases sU (fR s r) (fR s a) (fR s b)with q|q|q
    ·exact aS aGv g q
    ·rw [q,eL];exact P _ (aG (tC [] O))
    ·rw [q,eL];exact Q _ (aG (tC [] c2))
  exact aS aKr u this
 have R:∀σ:St,C1 [1,2,3,4,5,6,7,8,9,10,11,12,13,14] σ=sD s r a b low told mg [] []→Go ((oD [1,2,3,4,5,6,7,8,9,10,11,12,13,14] (dP (yD [1,2,3,4,5,6,7,8,9,10,11,12,13,14] (iF (eQ (aK (eQ (aK (aJ 2) (aK (aJ 11) bI))) (aK (eQ (aK (aJ 3) (aK (aJ 12) bI))) bI)))) (Jf [(bQ 15),(bQ 16)]) (xY (Do wA))) (oD [1,2,3,4,5,6,7,8,10,11,12,13,14] (xX (Do wA))))) 2 σ) (Ao [1,2,3,4,5,6] 2 (JD r a b e A (p+1)) (fun _=>False) (fun _ _=>False)):=fun σ T=>by
  refine fW T ?_;let h:bV:=[.tup [vN a,vL (frm s a)],.tup [vN b,vL (frm s b)]];have o:cS h=true:=by show ((V.tup [vN a,vL (frm s a)]).pure&& ((V.tup [vN b,vL (frm s b)]).pure&&true))=true;simp only [pQ,pP,pO,pN,mU,mT,cP,cO,eP];rfl
  have W:iF (eQ (aK (eQ (aK (aJ 2) (aK (aJ 11) bI))) (aK (eQ (aK (aJ 3) (aK (aJ 12) bI))) bI))) (sD s r a b low told mg [] [])=some (h,sD s r a b low told mg [] []):=by unfold iF;rw [hO (aQ (hO (aQ (aT rfl) (aQ (aT rfl) bU)) (by exact aS Fm)) (aQ (hO (aQ (aT rfl) (aQ (aT rfl) bU)) (by exact aS Fm)) bU)) (by exact aS Fm)];exact qJ (if_pos o) rfl
  refine bR (uW (fun _=>False) (fun i τ=>τ=sD s r a b low told mg [] (([vW (iO s r a),vW (iO s r b)]).take i)) (ds:=h) (τ:=sD s r a b low told mg [] []) W (by show (2:Nat)≤3;decide) rfl (fun i md v d k=>?_) (fun τ' X=>?_))
  ·subst k
   match i,d with
   |0,d=>cases d;refine ⟨sD s r a b low told mg [(15,vN a),(16,vL (frm s a))] [],rfl,(P3 (side:=0) zC.a zC.r rfl (by simp) rfl).mono fun f τ q=>?_⟩;cases f<;>first|exact q.elim|exact ⟨_,q,rfl⟩
   |1,d=>cases d;refine ⟨sD s r a b low told mg [(15,vN b),(16,vL (frm s b))] [vW (iO s r a)],rfl,(P3 (side:=0) zC.b zC.r rfl (by simp) (by simp only [cP,cO,F1];rfl)).mono fun f τ q=>?_⟩;cases f<;>first|exact q.elim|exact ⟨_,q,rfl⟩
   |i+2,d=>simp [h]at d
  ·have Y:=X.resolve_right id;subst Y;show Go _ _;refine (ļ (den:=wA) (low:=low) (told:=told) (mg:=mg) zC rfl u H (by exact aS 0x1e314e3bf38540124414e3a6003 g l m) (by exact aS 0x3e8001fa0006e29c735bc6cc15004980b1afecc14e3a6003 g B m)).mono fun f τ q=>?_;cases f<;>first|exact q.elim|skip
   refine ⟨_,q,[],_,_,_,.inl rfl,rfl,?_,?_,C⟩
   ·split
    ·exact aS Sf l
    ·simp;exact aS Mj l
   ·rw [bK];exact aS 0xe314c1070e35fd99020271afecc24c038d7f66003 B L
 let c:List (Nat×V)→St:=fun y=>⟨x++[(1,vN r),(2,vN a),(3,vN b),(4,.ref 0),(5,.ref 1),(6,vN low),(7,vL s.1),(8,.lst (s.2.1.map vL)),(9,.tup (s.2.2.map vN))]++y,[(1,.list (mg.map gO)),(0,.list (told.map gL))],2⟩;refine ⟨c [],by rcases hx with rfl|rfl<;>rfl,?_⟩;have l1:∀y,lk (c y).loc 1=some (vN r):=fun y=>by rcases hx with rfl|rfl<;>rfl
 have l2:∀y,lk (c y).loc 2=some (vN a):=fun y=>by rcases hx with rfl|rfl<;>rfl
 have D:∀y,lk (c y).loc 3=some (vN b):=fun y=>by rcases hx with rfl|rfl<;>rfl
 have t:∀y,lk (c y).loc 8=some (.lst (s.2.1.map vL)):=fun y=>by rcases hx with rfl|rfl<;>rfl
 have j:∀y,lk (c y).loc 9=some (.tup (s.2.2.map vN)):=fun y=>by rcases hx with rfl|rfl<;>rfl
 have lh:∀v,lk (c [(100,v)]).loc 100=some v:=fun v=>by rcases hx with rfl|rfl<;>rfl
 have F:∀v w,bQ 100 v (c [(100,w)])=some (c [(100,v)]):=fun v w=>by rcases hx with rfl|rfl<;>rfl
 have Z:uY 100 (iF (eQ (aK (aJ 1) (aK (aJ 2) (aK (aJ 3) bI))))) (bQ 100) (lP (bD eF (aJ 8) (bD eF (aJ 9) (aJ 100)))) (c [])=some (.lst [vL (frm s r),vL (frm s a),vL (frm s b)],c []):=by
  unfold uY;have hi:iF (eQ (aK (aJ 1) (aK (aJ 2) (aK (aJ 3) bI)))) (c [])=some ([vN r,vN a,vN b],c []):=by unfold iF;rw [hO (aQ (aT (l1 [])) (aQ (aT (l2 [])) (aQ (aT (D [])) bU))) (by show (3:Nat)≤1048576;exact aS Cz)];rfl
  rw [hi];show bd (yJ (bQ 100) (lP _) [vN r,vN a,vN b] (c [])) _=_;rw [Q5 ((fun v=>by rcases hx with rfl|rfl<;>rfl:∀v,bQ 100 v (c [])=some (c [(100,v)])) _) (Na zC.r (t _) (j _) (lh _)) (Q5 (F _ _) (Na zC.a (t _) (j _) (lh _)) (Q5 (F _ _) (Na zC.b (t _) (j _) (lh _)) rfl))];show some (V.lst [vL (frm s r),vL (frm s a),vL (frm s b)],Jz 100 (c [(100,vN b)]))=_;have:Jz 100 (c [(100,vN b)])=c []:=by rcases hx with rfl|rfl<;>rfl
  rw [this]
 unfold xZ;let y1:List (Nat×V):=[(10,vL (frm s r)),(11,vL (frm s a)),(12,vL (frm s b))];let G:List (Nat×V):=[(10,vL (frm s r)),(11,vL (frm s a)),(12,vL (frm s b)),(13,.int (oF (fR s r) (fR s a) (fR s b)))];refine bR (dK (τ':=c y1) Z (by rcases hx with rfl|rfl<;>rfl) ?_);have st:∀{v z:Nat},Fs v s→lk (c y1).loc z=some (vN v)→bD eF (aJ 9) (aJ z) (c y1)=some (vN (fR s v),c y1):=fun {v z} ok hz=>dC (aT (j _)) (aT hz) (tJ (sZ 0 ok.1) (by have:=ok.e;simp;exact aS Xh (rfl:lim=1048576) this));refine bR (dK (v:=.int (oF (fR s r) (fR s a) (fR s b))) (τ:=c y1) (τ':=c G) (kL (aQ (st zC.r (l1 _)) (aQ (st zC.a (l2 _)) (aQ (st zC.b (D _)) bU))) rfl) (by rcases hx with rfl|rfl<;>rfl) ?_);refine bR (dK (v:=.ref 2) (pX (τ:=c G) bU (by show (0:Nat)≤1048576;exact aS Ks)) rfl ?_);exact R _ (by rcases hx with rfl|rfl<;>rfl)
theorem aB8(m:c.length≤40)(zC:∀s∈c,Ş r a b s∧s.1.length<200∧(frm s r).length<200):
  Go (En (Do wA) 0 ⟨[(0,.lst (c.map jX)),(1,vN r),(2,vN a),(3,vN b)],[],0⟩) fun f τ=>f=.ret (.tup [.ref 0,.ref 1])∧∃told mg,τ.cells=[(1,.list (mg.map gO)),(0,.list (told.map gL))]∧Bl r a b c 0 [] []=(told,mg):=by
 let j:St:=⟨[(0,.lst (c.map jX)),(1,vN r),(2,vN a),(3,vN b)],[],0⟩;refine (?_:Go (En (Do wA) 0 j) _);refine bR (dK (v:=.tup [.ref 0,.ref 1,vN 0]) (hO (aQ (pX (τ:=j) bU (by exact aS Ks)) (aQ (pX bU (by exact aS Ks)) (aQ (v:=vN 0) rfl bU))) (by exact aS Cz)) rfl ?_);let k:=sDo r a b 0 [] [] [(0,V.lst (c.map jX))];refine fW (σ':=k) rfl ?_;refine bR (uW (fun _=>False) (JD r a b c (Bl r a b c 0 [] [])) (ds:=c.map jX) (τ:=k) (vM (aT rfl) (iX _)) (by show (0:Nat)≤2;decide) ⟨_,0,[],[],.inr rfl,rfl,bG _,bG _,rfl⟩ (fun i B v d o=>?_) (fun τ' t=>?_))
 ·rw [fK]at d
  cases h:c[i]? with
  |none=>rw [h]at d;cases d
  |some s=>rw [h]at d;cases d;refine nn fun u=>?_;obtain ⟨y,z,A⟩:=zC s (aG h);obtain ⟨τ',e,g⟩:=Ļ m y z A h o;refine u ?_;refine ⟨τ',e,g.mono fun f τ p=>?_⟩;cases f<;>first|exact p|exact p.elim
 ·obtain ⟨x,low,told,mg,hx,rfl,h,C,l⟩:=t.resolve_right id;rw [bC,mQ]at l;refine fW (σ':=⟨[(4,.ref 0),(5,.ref 1)],[(1,.list (mg.map gO)),(0,.list (told.map gL))],2⟩) (by rcases hx with rfl|rfl<;>rfl) ?_;unfold De;exact qQ (hO (aQ (aT rfl) (aQ (aT rfl) bU)) (by exact aS Fm)) ⟨rfl,told,mg,rfl,l.symm⟩
end
section
variable{n:Nat}
theorem aOb(G:Gd)(i:c.length≤40)(zC:∀s∈c,Ş r a b s∧s.1.length<200∧(frm s r).length<200)(j:Bl r a b c 0 [] []=(told,mg)):Ŝ (n+2) (.ref 270) [.lst (c.map jX),vN r,vN a,vN b] (fun x=>x=.tup [.lst (told.map gL),.lst (mg.map gO)]):=by
 refine Yl.c (Ac (fd:=iY MineH.o270v0) (o:=MineH.o270v0) (tab:=zI) (body:=bS (at_ [10])) (eG w.params) (G.K 270 _ (by kernel_rfl)) rfl G.lim (codeRec_of G.K (by kernel_rfl)) rfl (fun vs h=>?_) (by refine (?_:(4:Nat)≤18);decide) (by simp only [cP,cO,pQ,pP,pO,pN,mU,mT,iX];rfl) fun L=>?_)
 ·revert vs;exact ll4 fun _ _ _ _=>by kernel_rfl
 ·obtain ⟨f,τ,e,rfl,t,m,d,g⟩:=aB8 i zC;rw [j]at g;cases g;refine jC (Sm G (fun F=>Ì (n:=n) G F) 0 _ _ _ e) ?_;rintro _ _ ⟨rfl,rfl⟩;refine ⟨.tup [.lst (told.map gL),.lst (mg.map gO)],?_,by simp only [pQ,pP,pO,pN,mU,mT,cP,cO,lG,oE,fD],rfl⟩;show (ob (rA 29 0 τ.cells (.ref 0)) _).map V.tup=_;rw [(zL (f:=27) (k:=0) (n:=0) (cs:=τ.cells) (kI _) (by rw [d];rfl) (lG told))];show (ob (ob (rA 29 0 τ.cells (.ref 1)) _) _).map V.tup=_;rw [(zL (f:=27) (k:=0) (n:=1) (cs:=τ.cells) (kI _) (by rw [d];rfl) (oE mg))];rfl
end
end
section
open MineH (at_ bS fr)
noncomputable def qm(x d m:Int):Int:=(x.fdiv d).fmod m
noncomputable def Fq(c:Nat):Int:=if c=0 then 32 else if c=1 then 64 else 128
def mY(first left:Int)(n c:Nat):bH:=
 if qm left 8 4=(c:Int)then (if first.fmod 2=0 then[]else[8*(n:Int)+2*(c:Int)+2,qm left 4 2,8*(n:Int)+2*(c:Int)+3])
 else[8*(n:Int)+2*(c:Int)+2,8*(n:Int)+2*(c:Int)+3].take (1+(qm left (Fq c) 2).toNat)
def gP(first left:Int)(n:Nat):bH:=
 if first.fmod 2=1 then[qm left 2 2,qm left 2 2]++(lD (left.fmod 2).toNat [qm left 4 2,qm left 4 2]).flatten
 else[8*(n:Int),8*(n:Int)+1].take (1+(left.fmod 2).toNat)
theorem Zj(e:g σ=some (.int a,σ))(c:b≠0)(d:b.natAbs.log2<9000):bD mF g (gK (.int b)) σ=some (.int (a.fdiv b),σ):=by refine dC e rfl ?_;refine (?_:(if b≠0∧nJ a b=false then some (V.int (a.fdiv b),σ)else aF)=_);rw [if_pos ⟨c,N7 d⟩]
theorem Fa(e:g σ=some (.int a,σ))(c:b≠0):bD oJ g (gK (.int b)) σ=some (.int (a.fmod b),σ):=by refine dC e rfl ?_;refine (?_:(if b≠0 then some (V.int (a.fmod b),σ)else aF)=_);rw [if_pos c]
theorem Oo(h:lk σ.loc x=some (.int a))(hd:d≠0)(b:d.natAbs.log2<9000)(c:m≠0):bD oJ (bD mF (aJ x) (gK (.int d))) (gK (.int m)) σ=some (.int (qm a d m),σ):=Fa (Zj (aT h) hd b) c
theorem Q3(h:lk σ.loc x=some (.int a))(b:Au k≤64):bD B3 (gK (.int k)) (aJ x) σ=some (.int (k*a),σ):=by refine dC rfl (aT h) ?_;refine (?_:(if Au k≤64 then some (V.int (k*a),σ)else aF)=_);rw [if_pos b]
theorem å(a:Int):a.fmod 2=0∨a.fmod 2=1:=by rw [xL a (by decide)];lia
theorem Cu(a d:Int)(b:0<m):0≤qm a d m∧qm a d m<m:=by unfold qm;rw [xL _ (by exact aS 0x318d806b0107310 b)];exact ⟨aI0 _ (aS 0x1462e95cc0b0107310 b),Int.emod_lt_of_pos _ b⟩
theorem Lr(e:g σ=some (vL L,σ))(b:a σ=some (vN k,σ))(c:L.length≤1000):iE g yB (fY a) σ=some (vL (L.take k),σ):=by
 have d:lim=1048576:=rfl;unfold iE;rw [e];refine (?_:bd (fY a σ) _=_);have f:fY a σ=some (some (k:Int),σ):=by unfold fY;rw [b];rfl
 rw [f];show (if (L.map V.int).length≤lim then some (V.lst (pySl (L.map V.int) aF (some (k:Int))),σ)else aF)=_;rw [if_pos (by rw [bC];exact aS Xa c d)];have:pySl (L.map V.int) aF (some (k:Int))=(L.take k).map V.int:=by rw [υ,E6]
 rw [this];rfl
theorem Ũ(l:bH)(σ:St)(g:M bV)(e:g σ=some (l.map V.int,σ))(a:l.length≤1000):gV g σ=some (vL l,σ):=qI e (by rw [bC];refine (?_:_≤1048576);exact aS 0x318a718c6318e1809c77e7001 a)
section
variable{first x left:Int}{n:Nat}
def sS(first x left:Int)(n:Nat)(forms:bV)(pcs spots:bV)(ex:List (Nat×V)):St:=
 ⟨[(1,.int first),(2,.ref 0),(3,.ref 1),(4,vN n),(5,.int x),(6,.int left),(7,.ref 2)]++ex,[(2,.list forms),(1,.list pcs),(0,.list spots)],3⟩
theorem Ov(o:c<3)(O:n<1000)(A:forms.length≤10):
  Go (zV 3 (sS first x left n forms pcs spots [(8,vN c)])) (Nx fun τ=>C1 [1,2,3,4,5,6,7] τ=sS first x left n (forms++[vL (mY first left n c)]) pcs spots []):=by
 have i:lim=1048576:=rfl;let f:=sS first x left n forms pcs spots [(8,vN c)]
 let own:bH:=[8*(n:Int)+2*(c:Int)+2,8*(n:Int)+2*(c:Int)+3];let d:=sS first x left n forms pcs spots [(8,vN c),(9,vL own)]
 have p:bD B3 (gK (.int 8)) (aJ 4) f=some (.int (8*(n:Int)),f):=Q3 (x:=4) (a:=(n:Int)) rfl (by decide);have r:bD B3 (gK (.int 2)) (aJ 8) f=some (.int (2*(c:Int)),f):=Q3 (x:=8) (a:=(c:Int)) rfl (by decide);have add:∀{g h:M V}{a b:Int}{s:St},g s=some (.int a,s)→h s=some (.int b,s)→bD fQ g h s=some (.int (a+b),s):=fun e j=>dC e j rfl;refine bR (dK (v:=vL own) (τ:=f) (τ':=d) (Ũ own f _ (aQ (add (add p r) rfl) (aQ (add (add p r) rfl) bU)) (by simp [own])) rfl ?_);refine nP (gZ (b:=decide (qm left 8 4=(c:Int))) (τ:=d) (kD (dC (Oo (x:=6) rfl (by decide) (by decide) (by decide)) (aT rfl) (Kh _ _))) ?_);have fin:∀(g:M V),g d=some (vL (mY first left n c),d)→Go (tE (vE eY (aJ 7) (aK g bI)) 3 d) (Nx fun τ=>C1 [1,2,3,4,5,6,7] τ=sS first x left n (forms++[vL (mY first left n c)]) pcs spots []):=fun g e=>
  mI (sL (u:=.ref 2) (us:=[vL (mY first left n c)]) (l:=forms) (τ:=d) (τ':=d) (aT rfl) rfl (aQ e bU) (jE (l:=forms) rfl (by exact aS aKi A i))) rfl
 by_cases h:qm left 8 4=(c:Int)
 ·rw [iD h];refine fin _ ?_;unfold mY;rw [if_pos h];have B:eE (bD qS (bD oJ (aJ 1) (gK (.int 2))) (gK (.int 0))) d=some (decide (first.fmod 2=0),d):=kD (dC (Fa (aT rfl) (by decide)) rfl (Kh _ _));refine wR B (fun z=>?_) (fun z=>?_)
  ·rw [if_pos (of_decide_eq_true z)];exact qI bU (by show (0:Nat)≤1048576;exact aS Ks)
  ·rw [if_neg (of_decide_eq_false z)];have C:iE (aJ 9) yB (fY (gK (.int 1))) d=some (vL [8*(n:Int)+2*(c:Int)+2],d):=Lr (L:=own) (k:=1) (aT rfl) rfl (by simp [own]);have D:iE (aJ 9) (fY (gK (.int 1))) yB d=some (vL [8*(n:Int)+2*(c:Int)+3],d):=by unfold iE;rw [aT (v:=vL own) (by rfl)];show (if (own.map V.int).length≤lim then some (V.lst (pySl (own.map V.int) (some 1) aF),d)else aF)=_;rw [if_pos (by simp [own];exact aS 0x14629068cbc6318c6386001 i)];rfl
   have F:gV (aK (bD oJ (bD mF (aJ 6) (gK (.int 4))) (gK (.int 2))) bI) d=some (vL [qm left 4 2],d):=Ũ [qm left 4 2] d _ (aQ (Oo (x:=6) rfl (by decide) (by decide) (by decide)) bU) (by simp);have t:∀{g h:M V}{a b:bH},a.length≤10→b.length≤10→g d=some (vL a,d)→h d=some (vL b,d)→bD fQ g h d=some (vL (a++b),d):=fun {g h a b} G H e j=>dC e j (by show (if (a.map V.int).length+(b.map V.int).length≤lim then some (V.lst (a.map V.int++b.map V.int),d)else aF)=_;rw [if_pos (by simp only [bC];exact aS 0xb8c52040829d1c49d1c2bc6318c6386003 i G H),←bX];rfl);exact t (by simp) (by simp) (t (by simp) (by simp) C F) D
 ·rw [fJ h];refine fin _ ?_;unfold mY;rw [if_neg h];obtain ⟨I,P⟩:=Cu left (Fq c) (m:=2) (by decide);refine Lr (L:=own) (aT rfl) ?_ (by simp [own]);have J:bD eF (eQ (aK (gK (.int 32)) (aK (gK (.int 64)) (aK (gK (.int 128)) bI)))) (aJ 8) d=some (.int (Fq c),d):=by refine dC (hO (aQ rfl (aQ rfl (aQ rfl bU))) (by show (3:Nat)≤1048576;exact aS Cz)) (aT rfl) (tJ ?_ (by show (3:Nat)≤1048576;exact aS Cz));exact lt3 o rfl rfl rfl
  have y:Fq c≠0∧(Fq c).natAbs.log2<9000:=lt3 o (by decide) (by decide) (by decide);have N:bD oJ (bD mF (aJ 6) (bD eF (eQ (aK (gK (.int 32)) (aK (gK (.int 64)) (aK (gK (.int 128)) bI)))) (aJ 8))) (gK (.int 2)) d=some (.int (qm left (Fq c) 2),d):=by refine Fa (dC (aT rfl) J ?_) (by decide);show (if Fq c≠0∧nJ left (Fq c)=false then some (V.int (left.fdiv (Fq c)),d)else aF)=_;rw [if_pos ⟨y.1,N7 y.2⟩]
  refine (add (a:=1) rfl N).trans ?_;show some (V.int (1+qm left (Fq c) 2),d)=some (V.int ((1+(qm left (Fq c) 2).toNat:Nat):Int),d)
  congr 3
  exact aS 0x9492518dea801d013d8269ecc6010 I
end
end
section
open MineH (at_ bS fr)
theorem X6:∀(l:bV)(j i:Nat),(Ae j l)[i]?=(l[i]?).map fun v=>V.tup [.int ((j+i:Nat):Int),v]:=by
 intro a
 induction a with
 |nil=>intro j;intro i;rfl
 |cons d l b=>
  intro j;intro c
  cases c with
  |zero=>rfl
  |succ i=>have:=b (j+1) i;simp only [Ip,Io,List.getElem?_cons_succ,this];rw [show j+1+i=j+(i+1) by exact aS aGl]
theorem aBo{gs:List (V→St→Option St)}{d:Nat→M Fl}{P:Fl→iS}(E:iS)(J:Nat→iS)(e:h σ=some (.lst l,τ))(j:cS l=true)(m:k≤τ.next)(h0:J 0 τ)
  (step:∀i a v,l[i]?=some v→J i a→∃τ',Zt gs [.int (i:Int),v] a=some τ'∧Go (d τ.next τ') (Ao xs τ.next (J (i+1)) E (fun v=>P (.ret v))))
  (done:∀τ',J l.length τ'∨E τ'→P .next τ'):Go (Vn xs h gs d k σ) P:=by
 have n:=P0 (xs:=xs) (k:=τ.next) (b:=fun p a=>ob (Ź gs p a) fun a=>d τ.next a) E (fun v=>P (.ret v)) (Ae 0 l) J τ h0 (fun i a v c o=>by
  rw [X6]at c
  cases g:l[i]? with
  |none=>rw [g]at c;cases c
  |some u=>rw [g]at c;cases c;obtain ⟨τ',r,p⟩:=step i a u g o;refine (?_:Go (ob (Zt gs [.int ((0+i:Nat):Int),u] a) _) _);rw [gW,r];exact p)
 unfold Vn;rw [e];show Go (if cS l=true∧k≤τ.next then _ else _) _;rw [if_pos ⟨j,m⟩];refine n.mono fun f τ' p=>?_;rw [yE]at p;cases f
 ·exact done τ' p
 ·exact p.elim
 ·exact p.elim
 ·exact p
def sM(first:Int)(n:Nat)(x:Int):eX:=
 (gP first (x.fdiv 27) n,[mY first (x.fdiv 27) n 0,mY first (x.fdiv 27) n 1,mY first (x.fdiv 27) n 2],[(x.fmod 3).toNat,(qm x 3 3).toNat,(qm x 9 3).toNat])
def Lx(first:Int):Nat→bH→List eX
 |_,[]=>[]
 |n,x::r=>sM first n x::Lx first (n+1) r
theorem Rl:Lx first a []=([]):=rfl
theorem Rk:Lx first n (x::r)=(sM first n x::Lx first (n+1) r):=rfl
def nK(k:Nat)(l:bH):bH:=(lD k l).flatten
def Ug(first:Int):Nat→bH→bH
 |_,[]=>[]
 |n,x::r=>nK (first.fmod 2).toNat (gP first (x.fdiv 27) n)++Ug first (n+1) r
theorem L5:Ug first a []=([]):=rfl
theorem L4:Ug first n (x::r)=(nK (first.fmod 2).toNat (gP first (x.fdiv 27) n)++Ug first (n+1) r):=rfl
theorem Z4(first x:Int):∀(l:bH)(n:Nat),Lx first n (l++[x])=Lx first n l++[sM first (n+l.length) x]:=by
 intro a
 induction a with
 |nil=>intro n;rfl
 |cons y l b=>intro n;simp only [jO,Rl,Rk,b (n+1),cQ];rw [show n+1+l.length=n+(l.length+1) by exact aS aGl]
theorem O4(first x:Int):∀(l:bH)(n:Nat),Ug first n (l++[x])=Ug first n l++nK (first.fmod 2).toNat (gP first (x.fdiv 27) (n+l.length)):=by
 intro a
 induction a with
 |nil=>intro n;simp [L5,L4]
 |cons y l b=>intro n;simp only [jO,L5,L4,b (n+1),cQ,iJ];rw [show n+1+l.length=n+(l.length+1) by exact aS aGl]
theorem uS(first left:Int)(n:Nat):(gP first left n).length≤4:=by unfold gP;rcases å left with h|h<;>rw [h]<;>split<;>simp
theorem Aw(a:k≤1)(b:l.length≤4):(nK k l).length≤4:=by
 unfold nK
 cases k with
 |zero=>exact cJ 4
 |succ k=>obtain rfl:=aO1.mp (Nat.le_of_succ_le_succ a);simpa using b
theorem Tx(e:g σ=some (vL L,σ))(a:h σ=some (.int k,σ))(b:k=0∨k=1)(c:L.length≤1000):bD B3 g h σ=some (vL (nK k.toNat L),σ):=by
 have d:lim=1048576:=rfl;have f:0≤k∧k<1000∧(L.map V.int).length*k.toNat≤lim:=by
  rw [bC];rcases b with rfl|rfl
  ·exact ⟨by decide,by decide,by simp⟩
  ·exact ⟨by decide,by decide,by simp;exact aS Xa c d⟩
 refine dC e a ?_;refine (if_pos f).trans ?_;show some (V.lst _,σ)=some (V.lst (nK k.toNat L |>.map V.int),σ);unfold nK;rw [List.map_flatten,List.map_replicate]
section
variable{first:Int}
def sE(first:Int)(y:List (Nat×V))(pcs:bH)(dz:List eX):St:=
 ⟨y++[(1,.int first),(2,.ref 0),(3,.ref 1)],[(1,.list (pcs.map V.int)),(0,.list (dz.map jX))],2⟩
inductive JE(first:Int)(s0:V)(xs:bH)(p:Nat)(τ:St):Prop
 |mk (y:List (Nat×V)) (h:y=[]∨y=[(0,s0)]) (e:τ=sE first y (Ug first 0 (xs.take p)) (Lx first 0 (xs.take p))) (l:(Ug first 0 (xs.take p)).length≤4*p)
theorem Ri(Y:forms.length≤3)(z:pcs.length≤1000)(A:d.length≤1000):
  Go (oD [1,2,3,4,5,6,7] zT 2 (sS first x (x.fdiv 27) n (forms.map vL) (pcs.map V.int) (d.map jX) [])) (Nx fun τ=>Gf [1,2,3] 2 τ=some (sE first [] (pcs++nK (first.fmod 2).toNat (gP first (x.fdiv 27) n)) (d++[(gP first (x.fdiv 27) n,forms,[(x.fmod 3).toNat,(qm x 3 3).toNat,(qm x 9 3).toNat])]))):=by
 have y:lim=1048576:=rfl;let left:=x.fdiv 27;let o:=sS first x left n (forms.map vL) (pcs.map V.int) (d.map jX) []
 have B:C1 [1,2,3,4,5,6,7] o=o:=rfl;refine fW B ?_;have add:∀{g h:M V}{a b:Int}{s:St},g s=some (.int a,s)→h s=some (.int b,s)→bD fQ g h s=some (.int (a+b),s):=fun e Q=>dC e Q rfl;have I:bD B3 (gK (.int 8)) (aJ 4) o=some (.int (8*(n:Int)),o):=Q3 (x:=4) (a:=(n:Int)) rfl (by decide);obtain C:=å left;let i:bH:=[8*(n:Int),8*(n:Int)+1].take (1+(left.fmod 2).toNat);let j:bH→St:=fun p=>sS first x left n (forms.map vL) (pcs.map V.int) (d.map jX) [(10,vL p)]
 refine bR (dK (v:=vL i) (τ:=o) (τ':=j i) (Lr (L:=[8*(n:Int),8*(n:Int)+1]) (k:=1+(left.fmod 2).toNat) (Ũ [8*(n:Int),8*(n:Int)+1] o _ (aQ I (aQ (add I rfl) bU)) (by simp)) ((add (a:=1) rfl (Fa (aT (v:=.int left) rfl) (by decide))).trans (by
   refine (?_:some (V.int (1+left.fmod 2),o)=some (V.int ((1+(left.fmod 2).toNat:Nat):Int),o))
   congr 3
   rcases C with h|h<;>rw [h]<;>rfl)) (by simp)) rfl ?_)
 have J:∀s,s=j (gP first left n)→Go ((oD [1,2,3,5,7,10] (dP (tE (vE wC (aJ 3) (aK (bD B3 (aJ 10) (bD oJ (aJ 1) (gK (.int 2)))) bI))) (tE (vE eY (aJ 2) (aK (eQ (aK (aJ 10) (aK (aJ 7) (aK (eQ (aK (bD oJ (aJ 5) (gK (.int 3))) (aK (bD oJ (bD mF (aJ 5) (gK (.int 3))) (gK (.int 3))) (aK (bD oJ (bD mF (aJ 5) (gK (.int 9))) (gK (.int 3))) bI)))) bI)))) bI))))) 2 s) (Nx fun τ=>Gf [1,2,3] 2 τ=some (sE first [] (pcs++nK (first.fmod 2).toNat (gP first left n)) (d++[(gP first left n,forms,[(x.fmod 3).toNat,(qm x 3 3).toNat,(qm x 9 3).toNat])]))):=fun s A=>by
  subst A;have N:=uS first left n
  generalize gP first left n=pc at *
  have D:=Aw (k:=(first.fmod 2).toNat) (l:=pc) (by rcases å first with h|h<;>rw [h]<;>decide) N;let cs:bV→bV→List (Nat×gM):=fun F G=>[(2,.list (forms.map vL)),(1,.list F),(0,.list G)];let r:bV→bV→St:=fun F G=>⟨[(1,.int first),(2,.ref 0),(3,.ref 1),(5,.int x),(7,.ref 2),(10,vL pc)],cs F G,3⟩;refine fW (σ':=r (pcs.map V.int) (d.map jX)) rfl ?_;refine bR (mI (τ:=r ((pcs++nK (first.fmod 2).toNat pc).map V.int) (d.map jX)) (sL (u:=.ref 1) (us:=[vL (nK (first.fmod 2).toNat pc)]) (l:=pcs.map V.int) (τ:=r (pcs.map V.int) (d.map jX)) (τ':=r (pcs.map V.int) (d.map jX)) (aT rfl) rfl (aQ (Tx (aT rfl) (Fa (aT rfl) (by decide)) (å first) (aS 0xc629c77e702786001 N)) bU) ((zG (l:=pcs.map V.int) (l':=(nK (first.fmod 2).toNat pc).map V.int) rfl rfl (by rw [bC];exact aS Xa z y) (by rw [bC];exact aS 0x163148029e182bc6318c6386002 y D)).trans (by rw [←bX];rfl))) ?_);let t:V:=.tup [vL pc,.ref 2,.tup [.int (x.fmod 3),.int (qm x 3 3),.int (qm x 9 3)]];refine mI (sL (u:=.ref 0) (us:=[t]) (l:=d.map jX) (τ:=r ((pcs++nK (first.fmod 2).toNat pc).map V.int) (d.map jX)) (τ':=r ((pcs++nK (first.fmod 2).toNat pc).map V.int) (d.map jX)) (aT rfl) rfl (aQ (hO (aQ (aT rfl) (aQ (aT rfl) (aQ (hO (aQ (Fa (aT (v:=.int x) rfl) (by decide)) (aQ (Oo (x:=5) rfl (by decide) (by decide) (by decide)) (aQ (Oo (x:=5) rfl (by decide) (by decide) (by decide)) bU))) (by exact aS Cz)) bU))) (by show (3:Nat)≤1048576;exact aS Cz)) bU) (jE (l:=d.map jX) rfl (by simp;exact aS Xa A y))) ?_;refine mX (loc:=[(1,.int first),(2,.ref 0),(3,.ref 1)]) (cs:=cs ((pcs++nK (first.fmod 2).toNat pc).map V.int) (d.map jX++[t])) (n:=3) rfl rfl (lH (by decide) (dO (by decide) (eB (c:=.list ((pcs++nK (first.fmod 2).toNat pc).map V.int)) (eM (oG _))) (dO (by decide) ?_ iM)));show (nF _ (d.map jX++[t])).map gM.list=_;have R:rA xB 2 (cs ((pcs++nK (first.fmod 2).toNat pc).map V.int) (d.map jX++[t])) t=some (jX (pc,forms,[(x.fmod 3).toNat,(qm x 3 3).toNat,(qm x 9 3).toNat])):=by
   have T:x.fmod 3=((x.fmod 3).toNat:Int):=by rw [gS];rw [xL x (by decide)];exact aI0 _ (by decide)
   have W:qm x 3 3=((qm x 3 3).toNat:Int):=by rw [gS (Cu x 3 (m:=3) (by decide)).1]
   have X:qm x 9 3=((qm x 9 3).toNat:Int):=by rw [gS (Cu x 9 (m:=3) (by decide)).1]
   have z:t.pure=false:=by show cS [vL pc,.ref 2,.tup [.int (x.fmod 3),.int (qm x 3 3),.int (qm x 9 3)]]=false;simp only [cP,cO,eP];rfl
   refine (F6 (f:=29) z (oZ (pF (f:=28) (eP pc)) (oZ (zL (f:=27) (vs:=forms.map vL) (by decide) rfl ?_) (oZ (pF (f:=28) rfl) rfl)))).trans ?_
   ·exact Ci forms
   ·simp only [jX,cC,Gl,vN];rw [←T,←W,←X]
  rw [Ef (uH (eM (iX d))) R];simp
 refine bR (nP (gZ (b:=decide (first.fmod 2=1)) (τ:=j i) (kD (dC (Fa (aT (v:=.int first) rfl) (by decide)) rfl (Kh _ _))) ?_));by_cases h:first.fmod 2=1
 ·rw [iD h];have O:bD oJ (bD mF (aJ 6) (gK (.int 2))) (gK (.int 2)) (j i)=some (.int (qm left 2 2),j i):=Oo (x:=6) rfl (by decide) (by decide) (by decide);have P:bD oJ (bD mF (aJ 6) (gK (.int 4))) (gK (.int 2)) (j i)=some (.int (qm left 4 2),j i):=Oo (x:=6) rfl (by decide) (by decide) (by decide);have H:gP first left n=[qm left 2 2,qm left 2 2]++nK (left.fmod 2).toNat [qm left 4 2,qm left 4 2]:=by unfold gP nK;rw [if_pos h]
  have D:=Aw (k:=(left.fmod 2).toNat) (l:=[qm left 4 2,qm left 4 2]) (by rcases C with h|h<;>rw [h]<;>decide) (by simp);refine dK (v:=vL (gP first left n)) (τ:=j i) (τ':=j (gP first left n)) ?_ rfl (J _ rfl);rw [H];refine dC (Ũ [qm left 2 2,qm left 2 2] _ _ (aQ O (aQ O bU)) (by simp)) (Tx (Ũ [qm left 4 2,qm left 4 2] _ _ (aQ P (aQ P bU)) (by simp)) (Fa (aT (v:=.int left) rfl) (by decide)) C (by simp)) ?_;show (if (([qm left 2 2,qm left 2 2]:bH).map V.int).length+((nK (left.fmod 2).toNat [qm left 4 2,qm left 4 2]).map V.int).length≤lim then some (V.lst (([qm left 2 2,qm left 2 2]:bH).map V.int++(nK (left.fmod 2).toNat [qm left 4 2,qm left 4 2]).map V.int),j i)else aF)=_;rw [if_pos (by simp only [bC];simp;exact aS 0xb18a4080e8c9e182bc6318c6386002 y D),←bX];rfl
 ·rw [fJ h];have H:gP first left n=i:=by unfold gP;rw [if_neg h]
  refine iR (J _ ?_);rw [H]
end
end
section
open MineH (at_ bS fr)
section
variable{first:Int}
def tS(first:Int)(y:List (Nat×V))(n:Nat)(x:Int)(pcs:bV)(dz:bV):St:=
 ⟨y++[(1,.int first),(2,.ref 0),(3,.ref 1),(4,vN n),(5,.int x)],[(1,.list pcs),(0,.list dz)],2⟩
def mM(first left:Int)(n:Nat):Nat→List bH
 |0=>[]
 |c+1=>mM first left n c++[mY first left n c]
theorem S2:mM first left n 0=([]):=rfl
theorem Ij:mM first left n (c+1)=(mM first left n c++[mY first left n c]):=rfl
theorem Fe(first left:Int)(n:Nat):∀c,(mM first left n c).length=c:=by
 intro a
 induction a with
 |zero=>exact rfl
 |succ c b=>simp [S2,Ij,b]
theorem aM5(i:Nat)(v:V)(h:(G5 0 3)[i]?=some v):i<3∧v=vN i:=by have hi:=(cW.mp h).1;revert h;exact lt3 (P:=fun i=>(G5 0 3)[i]?=some v→i<3∧v=vN i) hi (fun h=>⟨by decide,(eR h).symm⟩) (fun h=>⟨by decide,(eR h).symm⟩) fun h=>⟨by decide,(eR h).symm⟩
theorem Rh(hy:y=[]∨y=[(0,z)])(k:n<1000)(l:pcs.length≤1000)(m:a.length≤1000):
  Go (uX 2 (tS first y n x (pcs.map V.int) (a.map jX))) (Nx fun τ=>Gf [1,2,3] 2 τ=some (sE first [] (pcs++nK (first.fmod 2).toNat (gP first (x.fdiv 27) n)) (a++[sM first n x]))):=by
 have A:lim=1048576:=rfl;let left:=x.fdiv 27;let b:=tS first y n x (pcs.map V.int) (a.map jX)
 let g:St:=⟨y++[(1,.int first),(2,.ref 0),(3,.ref 1),(4,vN n),(5,.int x)],[(2,.list []),(1,.list (pcs.map V.int)),(0,.list (a.map jX))],3⟩;let i:St:=⟨y++[(1,.int first),(2,.ref 0),(3,.ref 1),(4,vN n),(5,.int x),(7,.ref 2),(6,.int left)],[(2,.list []),(1,.list (pcs.map V.int)),(0,.list (a.map jX))],3⟩;let d:Nat→St:=fun c=>sS first x left n ((mM first left n c).map vL) (pcs.map V.int) (a.map jX) []
 have o:lk b.loc 5=some (.int x):=by rcases hy with rfl|rfl<;>rfl
 have st:Ge [bQ 7,bQ 6] (V.tup [.int left,.ref 2]) g=some i:=by rcases hy with rfl|rfl<;>rfl
 have r:C1 [1,2,3,4,5,6,7] i=d 0:=by rcases hy with rfl|rfl<;>rfl
 unfold uX;refine bR (dK (v:=.tup [.int left,.ref 2]) (τ:=g) (τ':=i) (hO (aQ (τ:=b) (Zj (aT o) (by decide) (by decide)) (aQ (τ:=g) (v:=.ref 2) ?_ bU)) (by exact aS Fm)) st ?_)
 ·rfl
 refine fW r ?_;refine bR (uW (fun _=>False) (fun c τ=>τ=d c) (ds:=G5 0 3) (τ:=d 0) (On (aQ rfl bU) (by decide)) (by exact aS 0x2314ecda300) rfl ?_ ?_)
 ·intro c B v s t;subst t;obtain ⟨j,rfl⟩:=aM5 c v s;refine ⟨sS first x left n ((mM first left n c).map vL) (pcs.map V.int) (a.map jX) [(8,vN c)],rfl,?_⟩;refine (Ov (first:=first) (x:=x) (left:=left) (n:=n) (c:=c) (forms:=(mM first left n c).map vL) (pcs:=pcs.map V.int) (spots:=a.map jX) j k (by rw [bC,Fe];exact aS 0x318a74702b66001 j)).mono fun f τ p=>?_;have fin:C1 [1,2,3,4,5,6,7] τ=sS first x left n ((mM first left n c).map vL++[vL (mY first left n c)]) (pcs.map V.int) (a.map jX) []→I6 [1,2,3,4,5,6,7] 3 (fun τ=>τ=d (c+1)) τ:=fun e=>by
   refine ⟨_,?_,rfl⟩;have q:d (c+1)=sS first x left n ((mM first left n c).map vL++[vL (mY first left n c)]) (pcs.map V.int) (a.map jX) []:=by
    show sS first x left n ((mM first left n c++[mY first left n c]).map vL) _ _ _=_
    rw [bX];rfl
   rw [q];refine mX (loc:=(sS first x left n [] [] [] []).loc) (cs:=(sS first x left n ((mM first left n c).map vL++[vL (mY first left n c)]) (pcs.map V.int) (a.map jX) []).cells) (n:=3) e rfl ?_;have u:(mM first left n c).map vL++[vL (mY first left n c)]=(mM first left n (c+1)).map vL:=by rw [Ij,bX];rfl
   rw [u];exact dO (by decide) (eB (eM (Ci _))) (dO (by decide) (eB (eM (oG _))) (dO (by decide) (eB (eM (iX _))) iM))
  cases f
  ·exact fin p
  ·exact p.elim
  ·exact p.elim
  ·exact p.elim
 ·rintro τ' (rfl|h)
  ·exact Ri (forms:=mM first left n 3) (by rw [Fe];exact aS 0x2314ecdb300) l m
  ·exact h.elim
end
end
section
open MineH (at_ bS fr)
def T7(first:Int):nH:=[(qm first 4 3).toNat,(qm first 12 3).toNat,(qm first 36 3).toNat]
def Bk(first:Int)(pcs:bH):eX:=([-4, -5],[[],[-1]++pcs,[-2]],T7 first)
noncomputable def S9(first:Int)(dz:List eX):List eX:=match dz with
 |[]=>[]
 |s::r=>if qm first 2 2=1 then ([],s.2)::r else s::r
def xD(sc:bH):bH:=(sc.drop 1).take 12++[5,141,12]
def Ad(sc:bH):Int:=match sc with
 |[]=>0
 |x::_=>x
def uM(sc:bH):List eX:=S9 (Ad sc) (Lx (Ad sc) 0 (xD sc))++[Bk (Ad sc) (Ug (Ad sc) 0 (xD sc))]
section
variable{first:Int}
theorem Wp(C:pcs.length≤1000)(t:o.length≤1000)(h0:o≠[]):
  Go (zU 0 (sE first [] pcs o)) fun f _=>f=.ret (.lst ((S9 first o++[Bk first pcs]).map jX)):=by
 have y:lim=1048576:=rfl;obtain ⟨s,r,rfl⟩:∃s r,o=s::r:=by
  cases o with
  |nil=>exact absurd rfl h0
  |cons s r=>exact ⟨s,r,rfl⟩
 let g:=sE first [] pcs (s::r)
 have A:∀i:List eX,i.length≤1000→i=S9 first (s::r)→Go ((oD [1,2,3] (dP (eS (eQ (aK (bD oJ (bD mF (aJ 1) (gK (.int 4))) (gK (.int 3))) (aK (bD oJ (bD mF (aJ 1) (gK (.int 12))) (gK (.int 3))) (aK (bD oJ (bD mF (aJ 1) (gK (.int 36))) (gK (.int 3))) bI)))) (bQ 11)) (uA (bD fQ (aJ 2) (gV (aK (eQ (aK (gV (aK (Eo (gK (.int 4))) (aK (Eo (gK (.int 5))) bI))) (aK (gV (aK (gV bI) (aK (bD fQ (gV (aK (Eo (gK (.int 1))) bI)) (aJ 3)) (aK (gV (aK (Eo (gK (.int 2))) bI)) bI)))) (aK (aJ 11) bI)))) bI)))))) 0 (sE first [] pcs i)) fun f _=>f=.ret (.lst ((S9 first (s::r)++[Bk first pcs]).map jX)):=fun i D e=>by
  rw [←e];let j:=sE first [] pcs i
  let p:V:=.tup ((T7 first).map vN);let c:St:=⟨[(1,.int first),(2,.ref 0),(3,.ref 1),(11,p)],[(1,.list (pcs.map V.int)),(0,.list (i.map jX))],2⟩;refine fW (σ':=j) rfl ?_;have z:∀d:Int,d≠0→d.natAbs.log2<9000→bD oJ (bD mF (aJ 1) (gK (.int d))) (gK (.int 3)) j=some (vN (qm first d 3).toNat,j):=fun d hd F=>by refine (Oo (x:=1) (a:=first) rfl hd F (by decide)).trans ?_;refine (?_:some (V.int (qm first d 3),j)=some (V.int (((qm first d 3).toNat:Nat):Int),j));rw [gS (Cu first d (m:=3) (by decide)).1]
  refine bR (dK (v:=p) (τ:=j) (τ':=c) (hO (aQ (z 4 (by decide) (by decide)) (aQ (z 12 (by decide) (by decide)) (aQ (z 36 (by decide) (by decide)) bU))) (by refine (?_:(3:Nat)≤1048576);exact aS Cz)) rfl ?_);have u:∀k:Int,Eo (gK (.int k)) c=some (.int (-k),c):=fun k=>rfl;have w0:=Ũ [-4, -5] c _ (aQ (u 4) (aQ (u 5) bU)) (by simp);have w1:=Ũ [] c _ bU (by simp);have G:=Ũ [-1] c _ (aQ (u 1) bU) (by simp);have H:gV (aK (Eo (gK (.int 2))) bI) c=some (vL [-2],c):=Ũ [-2] c _ (aQ (u 2) bU) (by simp);have I:bD fQ (gV (aK (Eo (gK (.int 1))) bI)) (aJ 3) c=some (vL ([-1]++pcs),c):=by refine dC G (aT (v:=.ref 1) rfl) ?_;show (if (([-1]:bH).map V.int).length+(pcs.map V.int).length≤lim then some (V.lst (([-1]:bH).map V.int++pcs.map V.int),c)else aF)=_;rw [if_pos (by simp only [bC];simp;exact aS 0x1a31485003af18c6318e1829c77e7002 C y),←bX];rfl
  refine qQ (dC (a:=.ref 0) (b:=.lst [jX (Bk first pcs)]) (τ:=c) (τ':=c) (aT rfl) (qI (aQ (hO (aQ w0 (aQ (qI (aQ w1 (aQ I (aQ H bU))) (by show (3:Nat)≤1048576;exact aS Cz)) (aQ (aT rfl) bU))) (by show (3:Nat)≤1048576;exact aS Cz)) bU) (by show (1:Nat)≤1048576;exact aS Xc)) (Fy (a:=i.map jX) rfl (by simp;exact aS 0x318a7ffc679ed9809c77e7001 D))) ?_;rw [bX];rfl
 refine bR (nP (gZ (b:=decide (qm first 2 2=1)) (τ:=g) (kD (dC (Oo (x:=1) (a:=first) rfl (by decide) (by decide) (by decide)) rfl (Kh _ _))) ?_));by_cases h:qm first 2 2=1
 ·rw [iD h];let sv:V:=jX ([],s.2);have B:bD eF (aJ 2) (gK (.int 0)) g=some (jX s,g):=dC (a:=.ref 0) (b:=vN 0) (aT rfl) rfl (Bu (l:=(s::r).map jX) rfl rfl (by simp only [bC]at *;exact aS aKy y t));have J:bD eF (bD eF (aJ 2) (gK (.int 0))) (gK (.int 1)) g=some (.lst (s.2.1.map vL),g):=dC (b:=vN 1) B rfl (tJ rfl (by show (3:Nat)≤1048576;exact aS Cz));have L:bD eF (bD eF (aJ 2) (gK (.int 0))) (gK (.int 2)) g=some (.tup (s.2.2.map vN),g):=dC (b:=vN 2) B rfl (tJ rfl (by show (3:Nat)≤1048576;exact aS Cz));refine dK (v:=sv) (τ:=g) (τ':=sE first [] pcs (([],s.2)::r)) (hO (aQ (qI bU (by show (0:Nat)≤1048576;exact aS Ks)) (aQ J (aQ L bU))) (by show (3:Nat)≤1048576;exact aS Cz)) ?_ (A _ (by simp only [cQ]at *;exact aS 0x318a71df9d070271df9d07001 t) (by unfold S9;simp only [if_pos h]));show (if (0:Int)≤0∧(0:Int).toNat<((s::r).map jX).length∧((s::r).map jX).length≤lim then _ else _)=_;rw [if_pos ⟨by decide,by simp,by simp only [bC]at *;exact aS aKy y t⟩];rfl
 ·rw [fJ h];exact iR (A _ t (by unfold S9;simp only [if_neg h]))
theorem aBm(h:lk σ.loc x=some (.scr L))(c:L.length≤lim):iE (aJ x) (fY (gK (.int 1))) (fY (gK (.int 13))) σ=some (.lst ((L.drop 1).take 12),σ):=by
 unfold iE;rw [aT h];refine (?_:(if L.length≤lim then some (V.lst (pySl L (some 1) (some 13)),σ)else aF)=_);rw [if_pos c]
 congr 3
 exact L2 (a:=1) (b:=13)
theorem Ĺ(a:bH):(xD a).length≤15∧3≤(xD a).length:=by unfold xD;simp only [bK,mP,cQ,gI];exact aS 0x6c4c62c4a10741d07303664fce841d0741cc099c1c381
theorem Lw(first:Int):∀(l:bH)(n:Nat),(Lx first n l).length=l.length:=by
 intro a
 induction a with
 |nil=>intro _;exact rfl
 |cons x r b=>intro n;simp [Rl,Rk,b (n+1)]
theorem X5:∀{a:bH},lk σ.loc 0=some (.scr (a.map V.int))→a.length≤1000000→rM (qB (aJ 0)) (bD eF (aJ 0) (gK (.int 0))) (gK (.int 0)) σ=some (.int (Ad a),σ):=fun {a} h d=>by
 have e:lim=1048576:=rfl;have c:(a.map V.int).length≤lim:=by rw [bC];exact aS aKx d e
 have f:qB (aJ 0) σ=some (decide ((a.map V.int).length≠0),σ):=by refine yQ (aT h) ?_;show oo (Fn (a.map V.int).length) some _=_;rw [show Fn (a.map V.int).length=some _ from if_pos c];rfl
 refine wR f (fun z=>?_) (fun z=>?_)
 ·cases a with
  |nil=>simp at z
  |cons x r=>refine dC (b:=.int 0) (aT h) rfl ?_;show (if (0:Int)≤0∧((x::r).map V.int).length≤lim then some (V.int x,σ)else aF)=_;rw [if_pos ⟨by decide,c⟩];rfl
 ·cases a with
  |nil=>rfl
  |cons x r=>simp at z
theorem Wo(m:a.length≤1000000):Go (vV 0 ⟨[(0,.scr (a.map V.int))],[],0⟩) fun f _=>f=.ret (.lst ((uM a).map jX)):=by
 have u:lim=1048576:=rfl;let first:=Ad a
 let S0:V:=.scr (a.map V.int);let o:St:=⟨[(0,S0)],[],0⟩;let r:St:=⟨[(0,S0),(1,.int first)],[],0⟩;let s:St:=⟨[(0,S0),(1,.int first),(3,.ref 1),(2,.ref 0)],[(1,.list []),(0,.list [])],2⟩;let c:St:=sE first [(0,S0)] [] []
 have z:(a.map V.int).length≤lim:=by rw [bC];exact aS aKx m u
 refine (?_:Go (vV 0 o) _);unfold vV;refine bR (dK (v:=.int first) (τ:=o) (τ':=r) (X5 rfl m) rfl ?_);refine bR (dK (v:=.tup [.ref 0,.ref 1]) (τ:=⟨r.loc,s.cells,2⟩) (τ':=s) rfl rfl ?_);refine fW (σ':=c) rfl ?_;have A:bD fQ (iE (aJ 0) (fY (gK (.int 1))) (fY (gK (.int 13)))) (gV (aK (gK (.int 5)) (aK (gK (.int 141)) (aK (gK (.int 12)) bI)))) c=some (.lst ((xD a).map V.int),c):=by refine dC (aBm (x:=0) (L:=a.map V.int) rfl z) (Ũ [5,141,12] c _ (aQ rfl (aQ rfl (aQ rfl bU))) (by simp)) ?_;refine (Fz (by simp;exact aS 0x598c53dfe33cf6cc099c1c381)).trans ?_;unfold xD;rw [bX,E6,E7]
 obtain ⟨d,g⟩:=Ĺ a;refine bR (aBo (fun _=>False) (fun p τ=>JE first S0 (xD a) p τ) (l:=(xD a).map V.int) (τ:=c) A (oG _) (by exact aS 0x118a746300) ⟨[(0,S0)],.inr rfl,rfl,by simp [L5,L4]⟩ ?_ ?_)
 ·rintro i B v e ⟨y,hy,rfl,b⟩;rw [fK]at e
  cases hx:(xD a)[i]? with
  |none=>rw [hx]at e;cases e
  |some x=>
   rw [hx]at e;cases e;have hi:=(cW.mp hx).1;have t:(xD a).take (i+1)=(xD a).take i++[x]:=by rw [Ce,hx];rfl
   have j:((xD a).take i).length=i:=by rw [mP];exact aS aEa hi
   refine ⟨tS first y i x ((Ug first 0 ((xD a).take i)).map V.int) ((Lx first 0 ((xD a).take i)).map jX),by rcases hy with rfl|rfl<;>rfl,?_⟩;refine (Rh (first:=first) hy (by exact aS 0xe31563bf385400a7e7002 d hi) (aS 0x4309c538efce15004980b860a7e7003 d b hi) (by rw [Lw,j];exact aS 0xe314e3bf385400a7e7002 d hi)).mono fun f τ p=>?_
   cases f with
   |next=>
    refine ⟨_,p,[],.inl rfl,?_,?_⟩
    ·rw [t,O4,Z4,j,gW]
    ·rw [t,O4,j,gW,bK];have:=Aw (k:=(first.fmod 2).toNat) (l:=gP first (x.fdiv 27) i) (by rcases å first with h|h<;>rw [h]<;>decide) (uS _ _ _);exact aS 0x718a6083878640809e184980786003 b this
   |cont=>exact p.elim
   |brk=>exact p.elim
   |ret v=>exact p.elim
 ·rintro τ' (⟨y,hy,rfl,b⟩|h)
  ·rw [bC]at b⊢;rw [nV (bG _)]at b⊢;refine fW (σ':=sE first [] (Ug first 0 (xD a)) (Lx first 0 (xD a))) (by rcases hy with rfl|rfl<;>rfl) ?_;refine Wp (aS 0x10938a71df9c29803860a7e7002 d b) (by rw [Lw];exact aS 0xc629c77e7027e7001 d) (fun h=>?_);have:=Lw first (xD a) 0
   rw [h]at this;simp at this;exact aS 0x618c9603241b301 g this
  ·exact h.elim
variable{n:Nat}
theorem aH4(G:Gd)(c:a.length≤1000000):Ŝ (n+1) (.ref 253) [.scr (a.map V.int)] (fun r=>r=.lst ((uM a).map jX)):=by
 refine Yl.c (Ac (fd:=iY MineH.o253v0) (o:=MineH.o253v0) (tab:=rS) (body:=bS (at_ [7])) (dI w.params) (G.K 253 _ (by kernel_rfl)) rfl G.lim (codeRec_of G.K (by kernel_rfl)) rfl (fun vs h=>?_) (by refine (?_:(1:Nat)≤rS.length);decide) (by refine (?_:(cS (a.map V.int)&&true)=true);rw [oG];rfl) fun L=>?_)
 ·revert vs;exact ll1 fun _=>by kernel_rfl
 ·obtain ⟨f,τ,e,rfl⟩:=Wo c;refine jC (Mo G 0 _ _ _ e) ?_;rintro _ _ ⟨rfl,rfl⟩;have b:(V.lst ((uM a).map jX)).pure=true:=iX _;exact ⟨_,eA b,b,rfl⟩
end
end
section
open MineH (at_ bS fr)
def wF:bV→Option bH
 |[]=>some []
 |.int i::r=>(wF r).map (i::·)
 |_::_=>aF
theorem Kj:wF []=(some []):=rfl
theorem Ki:wF (.int i::r)=((wF r).map (i::·)):=rfl
def ũ:V→Option bH
 |.lst l=>wF l
 |_=>aF
theorem Gv:∀L:bH,wF (L.map V.int)=some L:=by
 intro a
 induction a with
 |nil=>exact rfl
 |cons x r b=>simp only [cC,Kj,Ki,b];rfl
theorem Kl:∀{l:bV}{L:bH},wF l=some L→l=L.map V.int:=by
 intro b
 induction b with
 |nil=>intro L;intro h;cases h;rfl
 |cons v r c=>
  intro L;intro h
  cases v with
  |int x=>
   simp only [Kj,Ki]at h
   cases a:wF r with
   |none=>rw [a]at h;cases h
   |some R=>rw [a]at h;cases h;rw [c a];rfl
  |_=>cases h
theorem Gu(L:bH):ũ (vL L)=some L:=Gv L
theorem Ra(h:ũ v=some L):v=vL L:=by cases v<;>first|(simp only [ũ]at h;rw [Kl h];rfl)|cases h
def B6(den:Bd):pV:=fun us σ=>aV (fun u ds=>ob (Yh u) fun i=>if cS ds=true then ob (lk σ.cells i) fun c=>ob (den c ds) fun p=>some (p.2,{σ with cells:=kX i p.1 σ.cells})else aF) us
section
variable{n:Nat}{F:Fx}
theorem aAf{den:Bd}(fk:iL F)(c:∀c0 ds p,cS ds=true→den c0 ds=some p→pH c0∧qV n f c0 ds (fun c1 r=>c1=p.1∧r=p.2)):Dr n F f (B6 den):=fun us σ r σ' e=>by refine nQ e fun _ ds e=>?_;refine Ù e fun i e=>?_;obtain ⟨a,e⟩:=iC e;obtain ⟨c0,b,e⟩:=dS e;obtain ⟨p,d,e⟩:=dS e;cases e;obtain ⟨g,m⟩:=c c0 ds p a d;refine D6 fk b g a m ?_;rintro c1 r _ _ ⟨rfl,rfl⟩;exact ⟨rfl,rfl⟩
end
inductive Ds(A B C:bH)(told:List kZ)(mg:List qD):Prop
 |mk (l:tO A B) (r:tO A C) (R:List vH) (p:(eU B 0 (ops A B)++eU C 1 (ops A C)).Perm R) (s:R.Pairwise zM) (o:∀r∈R,I1 r) (n:R.length≤40) (e:yS A R.length R 0 [] []=(told,mg))
def Fj(p:List kZ×List qD):V:=.tup [.lst (p.1.map gL),.lst (p.2.map gO)]
def qU(dp:bH→bH→bH→Option (List kZ×List qD)):Bd:=fun c ds=>ob (maC c) fun m=>aV (fun a=>aV fun b=>aV fun d=>aN (ob (ũ a) fun A=>ob (ũ b) fun B=>ob (ũ d) fun C=>ob (dp A B C) fun p=>some (.mat ⟨some A,some C,m.auto⟩,Fj p))) ds
section
variable{n:Nat}{F:Fx}
theorem Wx(G:Gd)(fk:iL F){c:bH→bH→bH→Option (List kZ×List qD)}(f:∀A B C t mg,c A B C=some (t,mg)→Ds A B C t mg):Dr (n+6) F (.ref 284) (B6 (qU c)):=
 aAf fk fun c0 ds p x e=>by refine Uo e fun m e=>?_;refine nQ e fun a _ e=>?_;refine nQ e fun b _ e=>?_;refine nQ e fun d _ e=>?_;refine oM e fun e=>?_;obtain ⟨A,g,e⟩:=dS e;obtain ⟨B,h,e⟩:=dS e;obtain ⟨C,i,e⟩:=dS e;obtain ⟨⟨t,mg⟩,j,e⟩:=dS e;cases e;cases Ra g;cases Ra h;cases Ra i;obtain ⟨k,l,R,o,r,s,u,v⟩:=f A B C t mg j;exact ⟨trivial,aGg G k l o r s u v⟩
theorem K4{a:bH→bH→bH→Option (List kZ×List qD)}(b:lk σ.cells i=some (.mat m))(h:a A B C=some p):B6 (qU a) [.inst i,vL A,vL B,vL C] σ=some (Fj p,{σ with cells:=kX i (.mat ⟨some A,some C,m.auto⟩) σ.cells}):=by refine (?_:(if cS [vL A,vL B,vL C]=true then _ else _)=_);rw [if_pos (by simp only [cS,eP,fD])];simp only [b];refine (?_:ob (ob (ũ (vL A)) fun A=>ob (ũ (vL B)) fun B=>ob (ũ (vL C)) fun C=>ob (a A B C) fun p=>some (gM.mat ⟨some A,some C,m.auto⟩,Fj p)) _=_);rw [Gu,Ma,Gu,Ma,Gu,Ma,h];rfl
end
end
section
open MineH (at_ bS fr Ec)
def aLv:bV→Option Ey:=fun us=>match us with
 |[]=>some ⟨aF,aF,true⟩
 |_=>aF
section
variable{n:Nat}{F:Fx}
theorem aNd(G:Gd):Yk (n+4) (.ref 160) (.attrs []) [] (fun c r=>r=.none∧∃as,c=.attrs as∧Bp ⟨aF,aF,true⟩ as):=
 mIn G aF aF true (by decide) (ds:=[]) (dds:=[.none,vS aF,vS aF,.bool true]) (dvs:=[.none,.str (aC "") 404,.str (aC "") 405,.bool true]) rfl rfl (fun D Y h=>by simp only [nU,nR,vS,gG];exact ⟨_,_,rfl,rfl,_,_,rfl,⟨_,rfl⟩,_,_,rfl,⟨_,rfl⟩,_,_,rfl,rfl,rfl⟩) (fun K vs h=>by revert vs;exact ll1 fun _=>by kernel_rfl)
theorem aAh(G:Gd)(fk:iL F):Dr (n+5) F (.ref 242) (Vs aLv):=
 Í (fi:=160) fk G.K (by kernel_rfl) (by kernel_rfl) (by kernel_rfl) fun us m I e A Y h tk x c vs a1 g i j k l p s t=>by
  cases us with
  |cons u r=>cases e
  |nil=>
   cases e;refine oV (aNd G A Y h tk x c vs a1 g i j k l p s t) ?_;intro r d q;have fin:∀v,(aC5 Y h c (fun c1 r=>r=V.none∧∃as,c1=gM.attrs as∧Bp ⟨aF,aF,true⟩ as) v d)→v=.none∧∃h' a,d=jK h' a∧(∀b o,b≠c→h.get? b=some o→h'.get? b=some o)∧(vC h' c)∧iP [] (iW [c] Y) h' c (.mat ⟨aF,aF,true⟩):=by rintro v ⟨h',a,c1,r,y,z,B,J,L,C,D,rfl,as,rfl,H⟩;exact ⟨D,h',a,y,z,B,as,H,C⟩
   cases r with
   |error e=>exact q.elim
   |ok f=>cases f<;>first|exact fin _ q|exact q.elim|cases q
end
end
section
open MineH (at_ bS fr)
theorem Zs(h:vL A=vL B):A=B:=by have:=congrArg ũ h;rw [Gu,Gu]at this;exact eR this
theorem Cx{c:Type}{f:c→V}(d:∀a b,f a=f b→a=b):∀l l':List c,l.map f=l'.map f→l=l':=by
 intro e
 induction e with
 |nil=>
  intro g
  cases g with
  |nil=>intro _;exact rfl
  |cons b r=>intro h;cases h
 |cons a r i=>
  intro j
  cases j with
  |nil=>intro h;cases h
  |cons b k=>intro h;simp only [cC,jV]at h;rw [d a b h.1,i k h.2]
theorem Gs(a b:Nat)(h:vN a=vN b):a=b:=by simp only [vN,V.int.injEq]at h;exact aS 0x1d18ac20bd435002 h
theorem T0(s d:eX)(h:jX s=jX d):s=d:=by obtain ⟨a,b,c⟩:=s;obtain ⟨i,b',j⟩:=d;simp only [jX,V.tup.injEq,jV,V.lst.injEq,and_true]at h;obtain ⟨e,f,g⟩:=h;rw [Zs e,Cx (fun _ _=>Zs) _ _ f,Cx Gs _ _ g]
def Iv:bV→nX:=aV fun u=>aN (ob (aL6 u) fun l=>ob (wF l) fun sc=>if sc.length≤1000000 then some (.lst ((uM sc).map jX))else aF)
def Lf(sp:List eX)(v:Nat):Prop:=(∀s∈sp,Fs v s)∧(eZ sp v).length≤1000
open Classical in
def Iu:bV→nX:=fun us=>if h:∃p:List eX×Nat,us=[.lst (p.1.map jX),vN p.2]∧Lf p.1 p.2 then some (vL (eZ h.choose.1 h.choose.2))else aF
theorem K2(c:Lf a v):Iu [.lst (a.map jX),vN v]=some (vL (eZ a v)):=by unfold Iu;have h:∃p:List eX×Nat,[V.lst (a.map jX),vN v]=[.lst (p.1.map jX),vN p.2]∧Lf p.1 p.2:=⟨(a,v),rfl,c⟩;rw [dif_pos h];have d:=h.choose_spec;revert d;generalize h.choose=q;rintro ⟨b,_⟩;simp only [jV,V.lst.injEq,and_true]at b;rw [←Cx T0 _ _ b.1,←Gs _ _ b.2]
def Du(sp:List eX)(r a b:Nat):Prop:=sp.length≤40∧∀s∈sp,Ş r a b s∧s.1.length<200∧(frm s r).length<200
def Er(sp:List eX)(r a b:Nat):List kZ×List qD:=Bl r a b sp 0 [] []
open Classical in
def Iw:bV→nX:=fun us=>if h:∃p:List eX×Nat×Nat×Nat,us=[.lst (p.1.map jX),vN p.2.1,vN p.2.2.1,vN p.2.2.2]∧Du p.1 p.2.1 p.2.2.1 p.2.2.2 then some (Fj (Er h.choose.1 h.choose.2.1 h.choose.2.2.1 h.choose.2.2.2))else aF
theorem K5(e:Du d r a b):Iw [.lst (d.map jX),vN r,vN a,vN b]=some (Fj (Er d r a b)):=by unfold Iw;have h:∃p:List eX×Nat×Nat×Nat,[V.lst (d.map jX),vN r,vN a,vN b]=[.lst (p.1.map jX),vN p.2.1,vN p.2.2.1,vN p.2.2.2]∧Du p.1 p.2.1 p.2.2.1 p.2.2.2:=⟨(d,r,a,b),rfl,e⟩;rw [dif_pos h];have f:=h.choose_spec;revert f;generalize h.choose=q;rintro ⟨c,_⟩;simp only [jV,V.lst.injEq,and_true]at c;rw [←Cx T0 _ _ c.1,←Gs _ _ c.2.1,←Gs _ _ c.2.2.1,←Gs _ _ c.2.2.2]
section
variable{n:Nat}{F:Fx}
theorem aAe(G:Gd):Dr (n+1) F (.ref 253) (Do Iv):=G9 fun us r _ e=>by refine nQ e fun _ _ e=>?_;refine oM e fun e=>?_;refine aF9 e fun l e=>?_;obtain ⟨c,a,e⟩:=dS e;obtain ⟨b,e⟩:=iC e;cases e;rw [Kl a];exact aH4 G b
theorem aJu(G:Gd):Dr (n+1) F (.ref 258) (Do Iu):=G9 fun us r _ e=>by
 unfold Iu at e;split at e
 ·rename_i h;have a:=h.choose_spec;revert a e;generalize h.choose=q;intro e a;cases e;obtain ⟨b,c,d⟩:=a;rw [b];exact ő G c d
 ·cases e
theorem aJv(G:Gd):Dr (n+2) F (.ref 270) (Do Iw):=G9 fun us r _ e=>by
 unfold Iw at e;split at e
 ·rename_i h;have a:=h.choose_spec;revert a e;generalize h.choose=q;intro e a;cases e;obtain ⟨b,c,d⟩:=a;rw [b];exact aOb G c d rfl
 ·cases e
end
end
section
open MineH (at_ bS fr)
theorem Nz{b:Type}{f:b→V}{p:V→Bool}(h:∀a,p (f a)=true):∀l:List b,(l.map f).all p=true:=by
 intro c
 induction c with
 |nil=>exact rfl
 |cons a r d=>simp only [cC,eT,h a,qL];exact d
theorem aB4(n:Nat)(t:kZ):ed (n+3) (gL t)=true:=by
 show zE [vN t.1,vN t.2.1,.lst [.lst (zB t.2.2.1),.lst (zB t.2.2.2)]] (ed (n+2))=true;have e:∀l:List mZ,ed (n+1) (.lst (zB l))=true:=fun l=>Nz (fun a=>It n a) l;have b:ed (n+2) (.lst [.lst (zB t.2.2.1),.lst (zB t.2.2.2)])=true:=by show zE [V.lst (zB t.2.2.1),.lst (zB t.2.2.2)] (ed (n+1))=true;simp only [eT,jQ,e,fD]
 simp only [eT,jQ,aEp,b,fD]
theorem aHy(n:Nat)(t:qD):ed (n+2) (gO t)=true:=by
 cases t with
 |i x=>rfl
 |c a b d=>show zE [vL a,vL b,vL d] (ed (n+1))=true;simp only [eT,jQ,Vo,fD]
theorem Ni(n:Nat)(p:List kZ×List qD):ed (n+5) (Fj p)=true:=by show zE [.lst (p.1.map gL),.lst (p.2.map gO)] (ed (n+4))=true;have b:ed (n+4) (.lst (p.1.map gL))=true:=Nz (fun a=>aB4 n a) p.1;have c:ed (n+4) (.lst (p.2.map gO))=true:=Nz (fun a=>aHy (n+1) a) p.2;simp only [eT,jQ,b,c,fD]
theorem Us(p:List kZ×List qD):Di (Fj p) (Fj p) σ=some (.bool false,σ):=by have a:=aB6 64 _ (Ni 59 p);exact (Kg (P:=True) (eA a) (eA a) (Ni 59 p) (Ni 59 p) ⟨fun _=>trivial,fun _=>rfl⟩).2
end
section
open MineH (at_ bS fr)
abbrev ł:pV:=Do Iv
abbrev K7:pV:=Do Iu
abbrev Vv:pV:=Do Iw
abbrev Ņ:pV:=Do wA
abbrev ū:pV:=Vs aLv
section
variable{dp:bH→bH→bH→Option (List kZ×List qD)}{sp:List eX}
def tR(sp:List eX):V:=.lst [vL (eZ sp 0),vL (eZ sp 1),vL (eZ sp 2)]
def lS(sp:List eX)(m:Ey)(nx:Nat)(ex:List (Nat×V)):St:=⟨[(1,.lst (sp.map jX)),(2,tR sp),(3,.tup [.tup [vN 0,vN 1,vN 2],.tup [vN 1,vN 2,vN 0],.tup [vN 2,vN 0,vN 1],.tup [vN 0,vN 2,vN 1],.tup [vN 2,vN 1,vN 0],.tup [vN 1,vN 0,vN 2]]),(4,.inst 0)]++ex,[(0,.mat m)],nx⟩
theorem Xl(g:r<3)(h:s<3)(j:t<3)(hd:Du sp r s t)(l:dp (eZ sp r) (eZ sp s) (eZ sp t)=some (Er sp r s t)):
  Go (Db ł K7 ū (B6 (qU dp)) Vv Ņ 1 (lS sp m 1 [(5,vN r),(6,vN s),(7,vN t)])) fun f τ=>f=.next∧τ=lS sp ⟨some (eZ sp r),some (eZ sp t),m.auto⟩ 1 [(5,vN r),(6,vN s),(7,vN t)]:=by
 have u:lim=1048576:=rfl;let d:=lS sp m 1 [(5,vN r),(6,vN s),(7,vN t)];let c:=lS sp ⟨some (eZ sp r),some (eZ sp t),m.auto⟩ 1 [(5,vN r),(6,vN s),(7,vN t)];have e:∀(y k:Nat),k<3→lk d.loc y=some (vN k)→bD eF (aJ 2) (aJ y) d=some (vL (eZ sp k),d):=fun y k n hy=>by refine dC (a:=tR sp) (b:=vN k) (aT rfl) (aT hy) (rE ?_ (by exact aS Cz));exact lt3 n rfl rfl rfl
 have mg:gB (B6 (qU dp)) (aK (aJ 4) (aK (bD eF (aJ 2) (aJ 5)) (aK (bD eF (aJ 2) (aJ 6)) (aK (bD eF (aJ 2) (aJ 7)) bI)))) d=some (Fj (Er sp r s t),c):=
  kL (aQ (v:=.inst 0) (aT rfl) (aQ (e 5 r g rfl) (aQ (e 6 s h rfl) (aQ (e 7 t j rfl) bU)))) (K4 (i:=0) (m:=m) rfl l)
 have o:cS [V.lst (sp.map jX),vN r,vN s,vN t]=true:=by simp only [cP,cO,pQ,pP,pO,pN,mU,mT,iX];rfl
 have p:gB Vv (aK (aJ 1) (aK (aJ 5) (aK (aJ 6) (aK (aJ 7) bI)))) c=some (Fj (Er sp r s t),c):=
  kL (us:=[V.lst (sp.map jX),vN r,vN s,vN t]) (τ:=c) (aQ (aT rfl) (aQ (aT rfl) (aQ (aT rfl) (aQ (aT rfl) bU)))) (by unfold Vv Do;rw [if_pos o,K5 hd];rfl)
 unfold Db;refine nP (gZ (b:=false) (τ:=c) (kD (dC mg p (Us _))) ?_);exact iR ⟨rfl,rfl⟩
end
end
section
open MineH (at_ bS fr)
noncomputable def A9:List (Nat×Nat×Nat):=[(0,1,2),(1,2,0),(2,0,1),(0,2,1),(2,1,0),(1,0,2)]
def Op(o:Nat×Nat×Nat):V:=.tup [vN o.1,vN o.2.1,vN o.2.2]
theorem F8:∀o∈A9,o.1<3∧o.2.1<3∧o.2.2<3:=by decide
section
variable{dp:bH→bH→bH→Option (List kZ×List qD)}{sp:List eX}
theorem Xo(c:k≤1){P:Fl→iS}(hd:∀o∈A9,Du sp o.1 o.2.1 o.2.2)(d:∀o∈A9,dp (eZ sp o.1) (eZ sp o.2.1) (eZ sp o.2.2)=some (Er sp o.1 o.2.1 o.2.2))(done:∀m',P .next (lS sp m' 1 [])):
  Go (yD [1,2,3,4] (iF (aJ 3)) (Jf [(bQ 5),(bQ 6),(bQ 7)]) (Db ł K7 ū (B6 (qU dp)) Vv Ņ) k (lS sp m 1 [])) P:=by
 have e:iF (aJ 3) (lS sp m 1 [])=some (A9.map Op,lS sp m 1 []):=by unfold iF;rw [aT (v:=.tup (A9.map Op)) (by rfl)];rfl
 refine uW (fun _=>False) (fun _ τ=>∃m',τ=lS sp m' 1 []) e c ⟨m,rfl⟩ ?_ ?_
 ·rintro i t v hi ⟨m',rfl⟩;rw [fK]at hi
  cases a:A9[i]? with
  |none=>rw [a]at hi;cases hi
  |some o=>
   rw [a]at hi;cases hi;have b:=aG a;obtain ⟨g,j,l⟩:=F8 o b;refine ⟨lS sp m' 1 [(5,vN o.1),(6,vN o.2.1),(7,vN o.2.2)],rfl,?_⟩;refine (Xl g j l (hd o b) (d o b)).mono ?_;rintro f τ ⟨rfl,rfl⟩;have p:cS (sp.map jX)=true:=iX _;refine ⟨lS sp ⟨some (eZ sp o.1),some (eZ sp o.2.2),m'.auto⟩ 1 [],?_,_,rfl⟩;refine mX (loc:=(lS sp m 1 []).loc) (cs:=[(0,.mat ⟨some (eZ sp o.1),some (eZ sp o.2.2),m'.auto⟩)]) (n:=1) rfl ?_ (dO (by exact aS U0) rfl iM);have r:(V.lst (sp.map jX)).pure=true:=p;have s:(tR sp).pure=true:=by show cS [vL (eZ sp 0),vL (eZ sp 1),vL (eZ sp 2)]=true;simp only [cP,cO,eP,fD]
   simp only [lS,eT,eO,jQ,fX r,fX s,qL,E9];rfl
 ·rintro τ' (⟨m',rfl⟩|h)
  ·exact done m'
  ·exact h.elim
end
end
section
open MineH (at_ bS fr)
def F5(s:eX)(v:Nat):Nat:=s.2.2.getD v 0
def sY(r o t:Nat)(s:eX):eX:=(s.1,s.2.1,s.2.2++[if oF (F5 s r) (F5 s o) (F5 s t)<0 then F5 s r else (oF (F5 s r) (F5 s o) (F5 s t)).toNat])
section
variable{sp:List eX}
def mS(sp:List eX)(m:Ey)(r o t:Nat)(l:List eX)(ex:List (Nat×V)):St:=⟨[(1,.lst (sp.map jX)),(2,tR sp),(4,.inst 0),(5,vN r),(6,vN o),(7,vN t),(8,.ref 1)]++ex,[(1,.list (l.map jX)),(0,.mat m)],2⟩
theorem Xk{B:bH→bH→bH→Option (List kZ×List qD)}(j:r<s.2.2.length)(C:o<s.2.2.length)(D:t<s.2.2.length)(n:s.2.2.length≤1000)(g:l.length≤1000):
  Go (Dc ł K7 ū (B6 (qU B)) Vv Ņ 2 (mS sp m r o t l [(9,vL s.1),(10,.lst (s.2.1.map vL)),(11,.tup (s.2.2.map vN))])) fun f τ=>f=.next∧∃x,τ=mS sp m r o t (l++[sY r o t s]) [(9,vL s.1),(10,.lst (s.2.1.map vL)),(11,.tup (s.2.2.map vN)),(12,x)]:=by
 have i:lim=1048576:=rfl;let p:List (Nat×V):=[(9,vL s.1),(10,.lst (s.2.1.map vL)),(11,.tup (s.2.2.map vN))];let d:=mS sp m r o t l p;let q:Int:=oF (F5 s r) (F5 s o) (F5 s t);let c:=mS sp m r o t l (p++[(12,.int q)]);have e:∀(σ:St)(y k:Nat),k<s.2.2.length→lk σ.loc 11=some (.tup (s.2.2.map vN))→lk σ.loc y=some (vN k)→bD eF (aJ 11) (aJ y) σ=some (vN (F5 s k),σ):=fun σ y k A F hy=>by refine dC (b:=vN k) (aT F) (aT hy) (tJ ?_ (by rw [bC];exact aS Xa n i));rw [fK,bJ A];show some (vN s.2.2[k])=some (vN (s.2.2.getD k 0));rw [aP,bJ A];rfl
 have G:gB Ņ (aK (bD eF (aJ 11) (aJ 5)) (aK (bD eF (aJ 11) (aJ 6)) (aK (bD eF (aJ 11) (aJ 7)) bI))) d=some (.int q,d):=
  kL (us:=[vN (F5 s r),vN (F5 s o),vN (F5 s t)]) (τ:=d) (aQ (e d 5 r j rfl rfl) (aQ (e d 6 o C rfl rfl) (aQ (e d 7 t D rfl rfl) bU))) rfl
 unfold Dc;refine bR (dK (v:=.int q) (τ:=d) (τ':=c) G rfl ?_);let z:Nat:=if q<0 then F5 s r else q.toNat
 have lt:eE (bD Cc (aJ 12) (gK (.int 0))) c=some (decide (q<0),c):=kD (dC (a:=.int q) (b:=.int 0) (aT rfl) rfl rfl);have H:rM (eE (bD Cc (aJ 12) (gK (.int 0)))) (bD eF (aJ 11) (aJ 5)) (aJ 12) c=some (vN z,c):=by
  refine wR lt (fun h=>?_) (fun h=>?_)
  ·have:z=F5 s r:=if_pos (of_decide_eq_true h);rw [this];exact e c 5 r j rfl rfl
  ·have I:=of_decide_eq_false h;have:z=q.toNat:=if_neg I;rw [this];refine (aT (v:=.int q) rfl).trans ?_;show some (V.int q,c)=some (V.int ((q.toNat:Nat):Int),c);rw [gS (by lia)]
 have ad:bD fQ (aJ 11) (eQ (aK (rM (eE (bD Cc (aJ 12) (gK (.int 0)))) (bD eF (aJ 11) (aJ 5)) (aJ 12)) bI)) c=some (.tup ((s.2.2++[z]).map vN),c):=by refine dC (a:=.tup (s.2.2.map vN)) (b:=.tup [vN z]) (aT rfl) (hO (aQ H bU) (by show (1:Nat)≤1048576;exact aS Xc)) ?_;show (if (s.2.2.map vN).length+[vN z].length≤lim then some (V.tup (s.2.2.map vN++[vN z]),c)else aF)=_;rw [if_pos (by simp;exact aS 0x1a314850702f18c6318e1829c77e7002 n i),bX];rfl
 refine mI (sL (u:=.ref 1) (us:=[jX (sY r o t s)]) (l:=l.map jX) (τ:=c) (τ':=c) (aT rfl) rfl (aQ (hO (aQ (aT rfl) (aQ (aT rfl) (aQ ad bU))) (by show (3:Nat)≤1048576;exact aS Cz)) bU) (jE (l:=l.map jX) rfl (by simp;exact aS Xa g i))) ⟨rfl,.int q,?_⟩;unfold mS;rw [bX];rfl
end
end
section
open MineH (at_ bS fr)
section
variable{sp:List eX}
theorem Xn{b:bH→bH→bH→Option (List kZ×List qD)}{P:Fl→iS}(c:∀s∈sp,r<s.2.2.length∧o<s.2.2.length∧t<s.2.2.length∧s.2.2.length≤1000)(d:sp.length≤1000)(done:P .next (mS sp m r o t (sp.map (sY r o t)) [])):
  Go (yD [1,2,4,5,6,7,8] (iF (aJ 1)) (Jf [(bQ 9),(bQ 10),(bQ 11)]) (Dc ł K7 ū (B6 (qU b)) Vv Ņ) 1 (mS sp m r o t [] [])) P:=by
 have a:cS (sp.map jX)=true:=iX _;refine uW (fun _=>False) (fun i τ=>τ=mS sp m r o t ((sp.take i).map (sY r o t)) []) (ds:=sp.map jX) (τ:=mS sp m r o t [] []) (vM (aT rfl) a) (by exact aS 0x118a746380) rfl ?_ ?_
 ·rintro i z v hi rfl;rw [fK]at hi
  cases hx:sp[i]? with
  |none=>rw [hx]at hi;cases hi
  |some s=>
   rw [hx]at hi;cases hi;have e:=aG hx;obtain ⟨g,j,k,l⟩:=c s e;have p:sp.take (i+1)=sp.take i++[s]:=by rw [Ce,hx];rfl
   refine ⟨mS sp m r o t ((sp.take i).map (sY r o t)) [(9,vL s.1),(10,.lst (s.2.1.map vL)),(11,.tup (s.2.2.map vN))],rfl,?_⟩;refine (Xk g j k l (by rw [bC,mP];exact aS 0xf718a71df9c09c77e714ce1002 d)).mono ?_;rintro f τ ⟨rfl,x,rfl⟩;refine ⟨_,?_,rfl⟩;rw [p,bX];have u:(V.lst (sp.map jX)).pure=true:=a;have y:(tR sp).pure=true:=by show cS [vL (eZ sp 0),vL (eZ sp 1),vL (eZ sp 2)]=true;simp only [cP,cO,eP,fD]
   refine mX (loc:=(mS sp m r o t [] []).loc) (cs:=(mS sp m r o t ((sp.take i).map (sY r o t)++[sY r o t s]) []).cells) (n:=2) rfl ?_ (dO (by exact aS 0x118ab46380) (eB (eM (iX _))) (dO (by exact aS 0x118ab46300) rfl iM));simp only [mS,eT,eO,jQ,fX u,fX y,qL,E9];rfl
 ·rintro τ' (rfl|h)
  ·rw [bC,nV (bG _)];exact done
  ·exact h.elim
end
end
section
open MineH (at_ bS fr)
section
variable{sp:List eX}
def nS(sp:List eX)(m:Ey)(ex:List (Nat×V)):St:=⟨[(1,.lst (sp.map jX)),(2,tR sp),(4,.inst 0)]++ex,[(0,.mat m)],1⟩
theorem Xm{g:bH→bH→bH→Option (List kZ×List qD)}(n:r<3)(p:o<3)(h:Lf c 3)(hd:Du c o 3 r)(s:g (eZ sp o) (eZ c 3) (eZ sp r)=some (Er c o 3 r)):
  Go (H3 ł K7 ū (B6 (qU g)) Vv Ņ 1 ⟨[(1,.lst (sp.map jX)),(2,tR sp),(4,.inst 0),(5,vN r),(6,vN o),(8,.ref 1)],[(1,.list (c.map jX)),(0,.mat m)],2⟩) fun f τ=>f=.next∧∃m' ex,τ=nS sp m' [(5,vN r),(6,vN o),(8,ex)]∧ex.pure=true:=by
 have B:lim=1048576:=rfl;let M:V:=.lst (c.map jX);let d:=nS sp m [(5,vN r),(6,vN o),(8,M)];let e:=nS sp ⟨some (eZ sp o),some (eZ sp r),m.auto⟩ [(5,vN r),(6,vN o),(8,M)];have j:M.pure=true:=iX _;have t:(V.lst (sp.map jX)).pure=true:=iX _;have u:(tR sp).pure=true:=by show cS [vL (eZ sp 0),vL (eZ sp 1),vL (eZ sp 2)]=true;simp only [cP,cO,eP,fD]
 unfold H3;refine Ě (σ':=d) (S1 (cU (eA t) (cU (eA u) (cU rfl (cU rfl (cU rfl (cU (wT (vs:=c.map jX) (by exact aS 0x23174947380) rfl (iX _)) rfl)))))) (lH (by exact aS 0x23174947380) (dO (by exact aS U0) rfl iM))) ?_;have l:∀(y k:Nat),k<3→lk d.loc y=some (vN k)→bD eF (aJ 2) (aJ y) d=some (vL (eZ sp k),d):=fun y k h hy=>by refine dC (a:=tR sp) (b:=vN k) (aT rfl) (aT hy) (rE ?_ (by show (3:Nat)≤1048576;exact aS Cz));exact lt3 h rfl rfl rfl
 have x:cS [M,vN 3]=true:=by simp only [cP,cO,j];rfl
 have ve:gB K7 (aK (aJ 8) (aK (gK (.int 3)) bI)) d=some (vL (eZ c 3),d):=
  kL (us:=[M,vN 3]) (τ:=d) (aQ (aT rfl) (aQ rfl bU)) (by unfold K7 Do;rw [if_pos x,K2 h];rfl)
 have mg:gB (B6 (qU g)) (aK (aJ 4) (aK (bD eF (aJ 2) (aJ 6)) (aK (gB K7 (aK (aJ 8) (aK (gK (.int 3)) bI))) (aK (bD eF (aJ 2) (aJ 5)) bI)))) d=some (Fj (Er c o 3 r),e):=
  kL (aQ (v:=.inst 0) (aT rfl) (aQ (l 6 o p rfl) (aQ ve (aQ (l 5 r n rfl) bU)))) (K4 (i:=0) (m:=m) rfl s)
 have z:cS [M,vN o,vN 3,vN r]=true:=by simp only [cP,cO,j];rfl
 have A:gB Vv (aK (aJ 8) (aK (aJ 6) (aK (gK (.int 3)) (aK (aJ 5) bI)))) e=some (Fj (Er c o 3 r),e):=
  kL (us:=[M,vN o,vN 3,vN r]) (τ:=e) (aQ (aT rfl) (aQ (aT rfl) (aQ rfl (aQ (aT rfl) bU)))) (by unfold Vv Do;rw [if_pos z,K5 hd];rfl)
 refine nP (gZ (b:=false) (τ:=e) (kD (dC mg A (Us _))) ?_);exact iR ⟨rfl,_,M,rfl,j⟩
end
end
section
open MineH (at_ bS fr)
section
variable{sp:List eX}
def aEz(dp:bH→bH→bH→Option (List kZ×List qD))(sp:List eX)(r o t:Nat):Prop:=
 Lf (sp.map (sY r o t)) 3∧Du (sp.map (sY r o t)) o 3 r∧dp (eZ sp o) (eZ (sp.map (sY r o t)) 3) (eZ sp r)=some (Er (sp.map (sY r o t)) o 3 r)
theorem Xj{c:bH→bH→bH→Option (List kZ×List qD)}(d:r<3)(e:o<3)(g:∀s∈sp,r<s.2.2.length∧o<s.2.2.length∧t<s.2.2.length∧s.2.2.length≤1000)(h:sp.length≤1000)(a:aEz c sp r o t)(σ:St)
  (b:σ=lS sp m 1 [(5,vN r),(6,vN o),(7,vN t)]∨σ=nS sp m [(5,vN r),(6,vN o),(7,vN t)]):
  Go (Da ł K7 ū (B6 (qU c)) Vv Ņ 1 σ) fun f τ=>f=.next∧∃m',Gf [1,2,4] 1 τ=some (nS sp m' []):=by
 have i:(V.lst (sp.map jX)).pure=true:=iX _;have j:(tR sp).pure=true:=by show cS [vL (eZ sp 0),vL (eZ sp 1),vL (eZ sp 2)]=true;simp only [cP,cO,eP,fD]
 unfold Da;let σ1:St:={σ with loc:=σ.loc++[(8,.ref 1)],cells:=(1,.list [])::σ.cells,next:=2};have k:C1 [1,2,4,5,6,7,8] σ1=mS sp m r o t [] []:=by rcases b with rfl|rfl<;>rfl
 refine bR (dK (v:=.ref 1) (τ:={σ with cells:=(1,.list [])::σ.cells,next:=2}) (τ':=σ1) (by rcases b with rfl|rfl<;>rfl) (by rcases b with rfl|rfl<;>rfl) ?_);refine fW k ?_;refine bR (Xn g h ?_);refine fW (σ':=⟨[(1,.lst (sp.map jX)),(2,tR sp),(4,.inst 0),(5,vN r),(6,vN o),(8,.ref 1)],[(1,.list ((sp.map (sY r o t)).map jX)),(0,.mat m)],2⟩) rfl ?_;refine (Xm d e a.1 a.2.1 a.2.2).mono ?_;rintro f τ ⟨rfl,m',ex,rfl,_⟩;refine ⟨rfl,m',?_⟩;refine mX (loc:=(nS sp m' []).loc) (cs:=[(0,.mat m')]) (n:=1) rfl ?_ (dO (aS U0) rfl iM);simp only [nS,eT,eO,jQ,fX i,fX j,qL,E9];rfl
end
end
section
open MineH (at_ bS fr)
structure Qn(dp:bH→bH→bH→Option (List kZ×List qD))(sp:List eX):Prop where
 len:sp.length≤1000
 st:∀s∈sp,s.2.2.length=3
 ver:∀v,v<3→Lf sp v
 due:∀o∈A9,Du sp o.1 o.2.1 o.2.2
 one:∀o∈A9,dp (eZ sp o.1) (eZ sp o.2.1) (eZ sp o.2.2)=some (Er sp o.1 o.2.1 o.2.2)
 two:∀o∈A9,aEz dp sp o.1 o.2.1 o.2.2
section
variable{dp:bH→bH→bH→Option (List kZ×List qD)}{sp:List eX}
theorem aG3(g:j≤1)(k:Qn dp sp)(l:n=lS sp m 1 []):Go (Mu ł K7 ū (B6 (qU dp)) Vv Ņ j n) fun f _=>f=.ret (.bool true):=by
 subst l;unfold Mu;refine fW (σ':=lS sp m 1 []) rfl ?_;have p:iF (aJ 3) (lS sp m 1 [])=some (A9.map Op,lS sp m 1 []):=by unfold iF;rw [aT (v:=.tup (A9.map Op)) (by rfl)];rfl
 refine bR (uW (fun _=>False) (fun _ τ=>∃m',τ=lS sp m' 1 []∨τ=nS sp m' []) p g ⟨m,.inl rfl⟩ ?_ ?_)
 ·rintro i y v hi ⟨m',r⟩;rw [fK]at hi
  cases hx:A9[i]? with
  |none=>rw [hx]at hi;cases hi
  |some o=>
   rw [hx]at hi;cases hi;have b:=aG hx;obtain ⟨c,d,t⟩:=F8 o b;have u:∀s∈sp,o.1<s.2.2.length∧o.2.1<s.2.2.length∧o.2.2<s.2.2.length∧s.2.2.length≤1000:=fun s h=>by rw [k.st s h];exact ⟨c,d,t,by decide⟩
   have fin:∀τ',τ'=lS sp m' 1 [(5,vN o.1),(6,vN o.2.1),(7,vN o.2.2)]∨τ'=nS sp m' [(5,vN o.1),(6,vN o.2.1),(7,vN o.2.2)]→Go (Da ł K7 ū (B6 (qU dp)) Vv Ņ 1 τ') fun f x=>f=.next∧∃a,Gf [1,2,4] 1 x=some (nS sp a []):=fun τ' h=>Xj c d u k.len (k.two o b) τ' h;rcases r with rfl|rfl
   ·refine ⟨lS sp m' 1 [(5,vN o.1),(6,vN o.2.1),(7,vN o.2.2)],rfl,(fin _ (.inl rfl)).mono ?_⟩;rintro f τ ⟨rfl,a,e⟩;exact ⟨_,e,a,.inr rfl⟩
   ·refine ⟨nS sp m' [(5,vN o.1),(6,vN o.2.1),(7,vN o.2.2)],rfl,(fin _ (.inr rfl)).mono ?_⟩;rintro f τ ⟨rfl,a,e⟩;exact ⟨_,e,a,.inr rfl⟩
 ·rintro τ' _;refine fW rfl ?_;unfold Vg;exact qQ rfl rfl
end
end
section
open MineH (at_ bS fr)
section
variable{dp:bH→bH→bH→Option (List kZ×List qD)}
theorem aG2(σ:St):C9 σ=some (.tup (A9.map Op),σ):=by have d:lim=1048576:=rfl;have one:∀a b c:Int,eQ (aK (gK (.int a)) (aK (gK (.int b)) (aK (gK (.int c)) bI))) σ=some (.tup [.int a,.int b,.int c],σ):=fun a b c=>hO (aQ rfl (aQ rfl (aQ rfl bU))) (by exact aS Cz);unfold C9;exact hO (aQ (one 0 1 2) (aQ (one 1 2 0) (aQ (one 2 0 1) (aQ (one 0 2 1) (aQ (one 2 1 0) (aQ (one 1 0 2) bU)))))) (by exact aS 0x8c538c6318c70de300)
theorem aA1(n:b.length≤1000000)(k:Qn dp (uM b)):Go (aBq ł K7 ū (B6 (qU dp)) Vv Ņ 0 ⟨[(0,.scr (b.map V.int))],[],0⟩) fun f _=>f=.ret (.bool true):=by
 have o:lim=1048576:=rfl;let S0:V:=.scr (b.map V.int);have p:cS [S0]=true:=by refine (?_:(cS (b.map V.int)&&true)=true);rw [oG];rfl
 have ds:Iv [S0]=some (.lst ((uM b).map jX)):=by show ob (wF (b.map V.int)) _=_;rw [Gv];show (if b.length≤1000000 then _ else _)=_;rw [if_pos n]
 generalize uM b=a at *;have r:(V.lst (a.map jX)).pure=true:=iX _;let g:St:=⟨[(0,S0)],[],0⟩;let d:St:=⟨[(0,S0),(1,.lst (a.map jX))],[],0⟩;let h:St:=⟨[(0,S0),(1,.lst (a.map jX)),(2,tR a)],[],0⟩;let j:St:=⟨[(0,S0),(1,.lst (a.map jX)),(2,tR a),(3,.tup (A9.map Op))],[],0⟩;let l:Ey:=⟨aF,aF,true⟩;let m:St:=⟨[(0,S0),(1,.lst (a.map jX)),(2,tR a),(3,.tup (A9.map Op)),(4,.inst 0)],[(0,.mat l)],1⟩;show Go (aBq ł K7 ū (B6 (qU dp)) Vv Ņ 0 g) _;unfold aBq;refine bR (dK (v:=.lst (a.map jX)) (τ:=g) (τ':=d) (kL (us:=[S0]) (τ:=g) (aQ (aT rfl) bU) (by unfold ł Do;rw [if_pos p,ds];rfl)) rfl ?_);refine bR (dK (v:=tR a) (τ:=d) (τ':=h) ?_ rfl ?_)
 ·let c:Nat→St:=fun v=>⟨[(0,S0),(1,.lst (a.map jX)),(100,vN v)],[],0⟩;have i:∀v,v<3→lP (gB K7 (aK (aJ 1) (aK (aJ 100) bI))) (c v)=some ([vL (eZ a v)],c v):=fun v s=>by
   have t:cS [V.lst (a.map jX),vN v]=true:=by simp only [cP,cO,r];rfl
   have e:gB K7 (aK (aJ 1) (aK (aJ 100) bI)) (c v)=some (vL (eZ a v),c v):=
    kL (us:=[.lst (a.map jX),vN v]) (τ:=c v) (aQ (aT rfl) (aQ (aT rfl) bU)) (by unfold K7 Do;rw [if_pos t,K2 (k.ver v s)];rfl)
   unfold lP;rw [e];rfl
  have cg:yJ (bQ 100) (lP (gB K7 (aK (aJ 1) (aK (aJ 100) bI)))) (G5 0 3) d=some ([vL (eZ a 0),vL (eZ a 1),vL (eZ a 2)],c 2):=by show bd (lP (gB K7 (aK (aJ 1) (aK (aJ 100) bI))) (c 0)) _=_;rw [i 0 (by decide)];show bd (bd (lP (gB K7 (aK (aJ 1) (aK (aJ 100) bI))) (c 1)) _) _=_;rw [i 1 (by decide)];show bd (bd (bd (lP (gB K7 (aK (aJ 1) (aK (aJ 100) bI))) (c 2)) _) _) _=_;rw [i 2 (by decide)];rfl
  unfold uY;rw [On (aQ rfl bU) (by decide)];show bd (yJ _ _ (G5 0 3) d) _=_;rw [cg];show (if 3≤lim then some (tR a,Jz 100 (c 2))else aF)=_;rw [if_pos (by exact aS 0x1462906ccbc6318c6386001 o)];rfl
 refine bR (dK (v:=.tup (A9.map Op)) (τ:=h) (τ':=j) (aG2 h) rfl ?_);refine bR (dK (v:=.inst 0) (τ:=⟨j.loc,m.cells,1⟩) (τ':=m) rfl rfl ?_);refine fW (σ':=lS a l 1 []) rfl ?_;refine bR (Xo (by exact aS 0x8c527300) k.due k.one fun m'=>?_);exact aG3 (by exact aS 0x8c527300) k rfl
end
end
section
open MineH (at_ bS fr)
section
variable{n:Nat}{L:dF}
theorem aFp(G:Gd){a:bH→bH→bH→Option (List kZ×List qD)}(c:∀A B C t mg,a A B C=some (t,mg)→Ds A B C t mg)(d:b.length≤1000000)(k:Qn a (uM b)):
  SW 0 (n+6) (wH (iY MineH.o289v0) L 289 tL) (bS (at_ [13])) ⟨[(0,.scr (b.map V.int))],[],0⟩ (fun f _=>f=.ret (.bool true)):=by
 obtain ⟨f,τ,e,rfl⟩:=aA1 d k;refine jC (aLe (n:=n+6) G (fun F=>aAe (n:=n+5) G) (fun F=>aJu (n:=n+5) G) (aAh (n:=n+1) G ((dlaw w.params).tab L 289).fk) (fun F fk=>Wx (n:=n) G fk c) (fun F=>aJv (n:=n+4) G) (fun F=>Ì (n:=n+5) G F) 0 _ _ _ e) ?_;rintro _ _ ⟨rfl,rfl⟩;rfl
end
end
theorem Sa{P:Nat→Prop}(h:∃n,P n):∃n,P n∧∀m,P m→n≤m:=by
 obtain ⟨n,b⟩:=h
 induction n using aIv with
 |_ n c=>
  by_cases h:∃m,m<n∧P m
  ·obtain ⟨m,a,d⟩:=h;exact c m a d
  ·exact ⟨n,b,fun m a=>fI fun e=>h ⟨m,e,a⟩⟩
theorem aGf{P:Nat→Prop}(e:∀n,P n→n≤b)(h:∃n,P n):∃n,P n∧∀m,P m→m≤n:=by
 obtain ⟨n,f⟩:=h
 induction hd:b-n using aIv generalizing n with
 |_ d g=>
  by_cases h:∃m,n<m∧P m
  ·obtain ⟨m,a,c⟩:=h;exact g (b-m) (by simp only [←hd];exact mO (cG a (e m c)) a) m c rfl
  ·exact ⟨n,f,fun m a=>fI fun i=>h ⟨m,i,a⟩⟩
theorem aCy(A B:bH)(alo ahi blo bhi:Nat):∃t,vB A B alo ahi blo bhi t:=by
 by_cases h:∃k,0<k∧∃i j,Cr A B alo ahi blo bhi i j k
 ·obtain ⟨k,⟨f,o⟩,p⟩:=aGf (b:=ahi) (fun n r=>by obtain ⟨_,i,j,c⟩:=r;have:=c.a1;exact aS 0x318a44148901003 this) h;obtain ⟨i,⟨s,c0⟩,u⟩:=Sa o;obtain ⟨j,c,v⟩:=Sa (P:=fun j=>Cr A B alo ahi blo bhi i j k) ⟨s,c0⟩;refine ⟨(i,j,k),fun e=>absurd e (jU f),fun _=>c,fun d g x y l=>⟨p x ⟨y,d,g,l⟩,fun e=>?_⟩⟩;subst e;have a:=u d ⟨g,l⟩;rcases tG i d with m|m
  ·exact .inl m
  ·have e:i=d:=aS 0x56315840900521002 a m;exact .inr ⟨e,v g (e▸l)⟩
 ·exact ⟨(alo,blo,0),fun _=>rfl,fun e=>absurd e (fP 0),fun i j k f c=>absurd ⟨k,f,i,j,c⟩ h⟩
theorem İ(A B:bH)(alo ahi blo bhi:Nat):vB A B alo ahi blo bhi (Nd A B alo ahi blo bhi):=by obtain ⟨t,h⟩:=aCy A B alo ahi blo bhi;simp only [S3 h];exact h
def Bef(e f:T3):Prop:=e.1+e.2.2≤f.1∧e.2.1+e.2.2≤f.2.1
def OnE(Es:List T3)(i j:Nat):Prop:=∃e∈Es,∃t,t<e.2.2∧i=e.1+t∧j=e.2.1+t
structure Al(A B:bH)(Es:List T3):Prop where
 ord:Es.Pairwise Bef
 run:∀e∈Es,0<e.2.2∧Cr A B 0 A.length 0 B.length e.1 e.2.1 e.2.2
 max:∀e∈Es,∀i j k t t',Cr A B 0 A.length 0 B.length i j k→t<k→t'<e.2.2→i+t=e.1+t'→j+t=e.2.1+t'→e.1≤i∧i+k≤e.1+e.2.2
 off:∀i j k,0<k→Cr A B 0 A.length 0 B.length i j k→(∀t,t<k→¬OnE Es (i+t) (j+t))→
   (∃e∈Es,e.1≤i∧i+k≤e.1+e.2.2∧(k<e.2.2∨e.2.1<j∨∃e'∈Es,e'.2.1≤j∧j+k≤e'.2.1+e'.2.2))∨
   (∃e∈Es,e.2.1≤j∧j+k≤e.2.1+e.2.2∧(k<e.2.2∨e.1<i))∨
   (∃f∈Es,k<f.2.2∧(i<f.1∧f.2.1+f.2.2≤j∨j<f.2.1∧f.1+f.2.2≤i))
def InR(alo ahi blo bhi:Nat)(e:T3):Prop:=alo≤e.1∧e.1+e.2.2≤ahi∧blo≤e.2.1∧e.2.1+e.2.2≤bhi
noncomputable instance aOa(alo ahi blo bhi:Nat)(e:T3):Decidable (InR alo ahi blo bhi e):=inferInstanceAs (Decidable (_∧_∧_∧_))
def Rg(Es:List T3)(alo ahi blo bhi:Nat):Prop:=∀e∈Es,(e.1+e.2.2≤alo∧e.2.1+e.2.2≤blo)∨(ahi≤e.1∧bhi≤e.2.1)∨InR alo ahi blo bhi e
section
variable{A B:bH}{Es:List T3}{alo ahi blo bhi:Nat}
theorem Cr.mono(h:Cr A B alo ahi blo bhi i j k)(e:a≤alo)(f:ahi≤b)(g:c≤blo)(l:bhi≤d):Cr A B a b c d i j k:=by have:=h.a0;have:=h.a1;have:=h.b0;have:=h.b1;exact ⟨aS Pf e ‹_›,aS aD6 f ‹_›,aS Pf g ‹_›,aS aD6 l this,h.eq⟩
theorem Al.inR(al:Al A B Es){e:T3}(a:e∈Es)(h:InR alo ahi blo bhi e):Cr A B alo ahi blo bhi e.1 e.2.1 e.2.2:=by obtain ⟨b,c,d,f⟩:=h;exact ⟨b,c,d,f,(al.run e a).2.eq⟩
theorem Uj{l:List T3}(h:l.Pairwise Bef):∀e∈l,∀f∈l,e=f∨Bef e f∨Bef f e:=by
 induction l with
 |nil=>intro e a;cases a
 |cons x r k=>
  obtain ⟨d,m⟩:=gE.mp h;intro e a f g;rcases aR.mp a with i|j
  ·rcases aR.mp g with b|c
   ·exact .inl (i.trans b.symm)
   ·exact .inr (.inl (i▸d f c))
  ·rcases aR.mp g with b|c
   ·exact .inr (.inr (b▸d e j))
   ·exact k m e j f c
theorem aCx(al:Al A B Es)(D:Rg Es alo ahi blo bhi)(ha:ahi≤A.length)(hb:bhi≤B.length){t:T3}(h:vB A B alo ahi blo bhi t)(m:0<t.2.2):t∈Es:=by
 obtain ⟨i,j,k⟩:=t;simp only at m;have c:=h.cr m;simp only at c;have cg:=c.mono (cJ _) ha (cJ _) hb;have c1:=c.a0;have c2:=c.a1;have c3:=c.b0;have P:=c.b1;have r:∀e∈Es,InR alo ahi blo bhi e→e.2.2≤k∧(e.2.2=k→I3 (i,j) (e.1,e.2.1)):=fun e d hi=>by exact h.max e.1 e.2.1 e.2.2 (al.run e d).1 (al.inR d hi)
 have Pm:∀e∈Es,e.1≤i→i<e.1+e.2.2→InR alo ahi blo bhi e:=fun e d g l=>by
  rcases D e d with ⟨a,b⟩|⟨a,b⟩|a
  ·exact dD (aS aEd c1 l a)
  ·exact dD (aS aKb m c2 g a)
  ·exact a
 have s:∀e∈Es,e.2.1≤j→j<e.2.1+e.2.2→InR alo ahi blo bhi e:=fun e d g l=>by
  rcases D e d with ⟨a,b⟩|⟨a,b⟩|a
  ·exact dD (aS aEd c3 l b)
  ·exact dD (aS aKb m P g b)
  ·exact a
 by_cases Q:∃t,t<k∧OnE Es (i+t) (j+t)
 ·obtain ⟨t,F,e,d,t',R,G,T⟩:=Q;obtain ⟨W,m2⟩:=al.max e d i j k t t' cg F R G T;have o:=Pm e d (aS Mj W) (aS 0x58c5480904b4008818941005 R G);have:=(r e d o).1;have:(i,j,k)=e:=by obtain ⟨x,y,z⟩:=e;simp only at *;simp only [qE];exact aS 0x1a072ed20e123163165d18a7594c45880929cba32505d184829c0900968194c80916818901008 G T W m2 this
  rw [this];exact d
 ·have u:∀t,t<k→¬OnE Es (i+t) (j+t):=fun t F ho=>Q ⟨t,F,ho⟩;exfalso;rcases al.off i j k m cg u with ⟨e,d,g,l,p⟩|⟨e,d,g,l,p⟩|⟨f,X,g,l⟩
  ·have o:=Pm e d (aS Mj g) (aS aGs m l);obtain ⟨b1,H⟩:=r e d o;have n:=H (aS aGt g l b1);unfold I3 at n;simp only at n;rcases p with p|p|⟨I,J,v,C⟩
   ·exact aS 0x18c64a00521002 b1 p
   ·exact aS 0x786325086d624625802a00521004 g n p
   ·have yb:=s I J (aS Mj v) (aS aGs m C);obtain ⟨L,N⟩:=r I J yb;have O:=N (aS aGt v C L);unfold I3 at O;simp only at O;rcases Uj al.ord e d I J with rfl|⟨Y,Z⟩|⟨Y,Z⟩
    ·refine u 0 m ⟨e,d,0,aS aAw m g l,aS 0x58ec315a0c04182d624625802a00521004 g n,aS 0xb518ad06120c34a0024046918921004 b1 v C⟩
    ·exact aS 0x73a831924a740ca6490a76b12531161128224a0614004910540307 m g l n v Z
    ·exact aS 0xf54c63248505314ed62464594e2514e24a0a61a0044906910540307 m g v C O Y
  ·have o:=s e d (aS Mj g) (aS aGs m l);obtain ⟨b1,H⟩:=r e d o;have n:=H (aS aGt g l b1);unfold I3 at n;simp only at n;exact aS 0x4ae30c64d624a622c4350869005aa18941006 p b1 n
  ·have o:InR alo ahi blo bhi f:=by
    rcases D f X with ⟨a,b⟩|⟨a,b⟩|a
    ·exact dD (aS 0x3350c649120a729920414e46b121414e4514c36246829ca65102918921007 c1 c3 l a b)
    ·exact dD (aS 0x66aa31924a7224a6135890a0ba314ca29c6c48d05d18a7514c1491001a44800540308 m c2 P l a b)
    ·exact a
   have:=(r f X o).1;exact aS ð g this
theorem Nf{l1 l2:List T3}{t:T3}(p q r:T3→Bool)(b:p t=true)(c:∀e∈l1,p e=q e)(d:∀e∈l2,p e=r e)(f:∀e∈t::l2,q e=false)(g:∀e∈l1,r e=false)(h:r t=false):
  (l1++t::l2).filter p=(l1++t::l2).filter q++t::(l1++t::l2).filter r:=by
 have a1:=aDd c;have i:=aDd d;have j:(t::l2).filter q=[]:=sK.mpr fun e a=>by simp [f e a]
 have k:l1.filter r=[]:=sK.mpr fun e a=>by simp [g e a]
 rw [Fi,Fi,Fi,j,k,a1,eO,List.filter_cons_of_pos b,i,List.filter_cons_of_neg (by simp [h])];rfl
theorem aH6(al:Al A B Es):∀(f alo ahi blo bhi:Nat),ahi-alo≤f→ahi≤A.length→bhi≤B.length→Rg Es alo ahi blo bhi→J5 A B f alo ahi blo bhi=Es.filter fun e=>decide (InR alo ahi blo bhi e):=by
 intro O
 induction O with
 |zero=>intro alo ahi blo bhi s t u v;symm;refine sK.mpr fun e g=>?_;have:=(al.run e g).1;simp only [decide_eq_true_eq];rintro ⟨P,Q,h3,h4⟩;exact aS 0x11d78c6490a0644904a1992604cc1004 s this P Q
 |succ f D=>
  intro alo ahi blo bhi s t u v;have x:=İ A B alo ahi blo bhi;simp only [Ak,Aj];rcases e:Nd A B alo ahi blo bhi with ⟨i,j,k⟩;simp only [e]at x;dsimp only;by_cases n:k=0
  ·rw [if_pos n];symm;refine sK.mpr fun e g=>?_;simp only [decide_eq_true_eq];intro hi;have p:=(al.run e g).1;have:=(x.max e.1 e.2.1 e.2.2 p (al.inR g hi)).1;simp only at this;exact aS 0x1c6324802a09966002 n p this
  ·rw [if_neg n];have F:=aCx al v t u x (dU n);have c:=x.cr (dU n);have c1:=c.a0;have c2:=c.a1;have c3:=c.b0;have C:=c.b1;simp only at c1 c2 c3 C;have o:=Uj al.ord (i,j,k) F;have R:Rg Es alo i blo j:=fun e g=>by
    have p:=(al.run e g).1;rcases o e g with rfl|⟨l,m⟩|⟨l,m⟩
    ·exact .inr (.inl ⟨bG _,bG _⟩)
    ·simp only at l m;exact .inr (.inl ⟨aS aAp l,aS aAp m⟩)
    ·simp only at l m;rcases v e g with a|⟨a,b⟩|⟨a1,G,H,I⟩
     ·exact .inl a
     ·exact dD (aS 0x7c0c64918921410691200174966005 n c2 l a)
     ·exact .inr (.inr ⟨aS Mj a1,aS Xb l,aS Mj H,aS Xb m⟩)
   have T:Rg Es (i+k) ahi (j+k) bhi:=fun e g=>by
    have p:=(al.run e g).1;rcases o e g with rfl|⟨l,m⟩|⟨l,m⟩
    ·exact .inl ⟨bG _,bG _⟩
    ·simp only at l m;rcases v e g with ⟨a,b⟩|a|⟨a1,G,H,I⟩
     ·exact dD (aS 0x7c0c6490a08348d001244174966005 n c1 l a)
     ·exact .inr (.inl a)
     ·exact .inr (.inr ⟨aS Xb l,aS Xb G,aS Xb m,aS Xb I⟩)
    ·simp only at l m;exact .inl ⟨aS aD0 l,aS aD0 m⟩
   have y:=dU n;have z:=cG (fC y) c2;have J:=kR (cG (fC y) C);rw [D alo i blo j (jF (cG (Dw c1 z) s)) (bZ (kR z) t) (bZ J u) R,
    D (i+k) ahi (j+k) bhi (jF (cG (mO (hF c1 z) (hF c1 (fC y))) s)) t u T]
   obtain ⟨l1,l2,rfl⟩:=List.append_of_mem F;obtain ⟨_,W,X⟩:=lZ.mp al.ord;obtain ⟨Y,p5⟩:=gE.mp W;have L:∀e∈l1++(i,j,k)::l2,0<e.2.2:=fun e g=>(al.run e g).1;have b1:∀e∈l1,e.1+e.2.2≤i∧e.2.1+e.2.2≤j∧0<e.2.2:=fun e g=>by obtain ⟨l,m⟩:=X e g (i,j,k) (aU ..);exact ⟨l,m,L e (Cf _ g)⟩
   have N:∀e∈l2,i+k≤e.1∧j+k≤e.2.1∧0<e.2.2:=fun e g=>by obtain ⟨l,m⟩:=Y e g;exact ⟨l,m,L e (Yw _ (bB _ g))⟩
   symm;refine Nf _ _ _ (decide_eq_true ⟨c1,c2,c3,C⟩) (fun e g=>?_) (fun e g=>?_) (fun e g=>?_) (fun e g=>?_) (decide_eq_false fun ⟨l,m,r,Z⟩=>by simp only at l m r Z;exact aS 0x70c6490a00174966002 n l)
   ·obtain ⟨l,m,_⟩:=b1 e g;exact decide_eq_decide.mpr ⟨fun ⟨a,_,b,_⟩=>⟨a,l,b,m⟩,fun ⟨a,b,c,d⟩=>⟨a,bZ b (kR z),c,bZ d J⟩⟩
   ·obtain ⟨l,m,_⟩:=N e g;exact decide_eq_decide.mpr ⟨fun ⟨_,a,_,b⟩=>⟨l,a,m,b⟩,fun ⟨a,b,c,d⟩=>⟨bZ c1 (bZ (dW _ _) a),b,bZ c3 (bZ (dW _ _) c),d⟩⟩
   ·rcases aR.mp g with rfl|g
    ·exact decide_eq_false fun ⟨_,h,_⟩=>absurd h (aIk (fC y))
    ·obtain ⟨l,_,r⟩:=N e g;exact decide_eq_false fun ⟨_,h,_⟩=>absurd h (aIk (hF (bZ (dW i k) l) (fC r)))
   ·obtain ⟨l,_,r⟩:=b1 e g;exact decide_eq_false fun ⟨h,_⟩=>fP _ (cG (fC r) (bZ l (bZ (dW i k) h)))
theorem Lc(al:Al A B Es):J5 A B A.length 0 A.length 0 B.length=Es:=by
 have b:∀e∈Es,InR 0 A.length 0 B.length e:=fun e a=>by have c:=(al.run e a).2;exact ⟨c.a0,c.a1,c.b0,c.b1⟩
 rw [aH6 al A.length 0 A.length 0 B.length (aS 0x418c52104cc6001) (bG _) (bG _) fun e a=>.inr (.inr (b e a))];exact List.filter_eq_self.mpr fun e a=>by simp only [decide_eq_true_eq];exact b e a
end
abbrev Sg:=bH×bH×bH
noncomputable def G3:Sg:=([],[],[])
def sx:Sg→bH:=fun s=>s.2.1
def sy:Sg→bH:=fun s=>s.2.2
def fl(h:Sg→bH)(L:List Sg):bH:=L.flatMap fun s=>s.1++h s
def gt(L:List Sg)(m:Nat):bH:=(L.getD m G3).1
def xt(h:Sg→bH)(L:List Sg)(m:Nat):bH:=h (L.getD m G3)
noncomputable def oN(h:Sg→bH)(L:List Sg)(m:Nat):Nat:=(fl h (L.take m)).length
section
variable{h:Sg→bH}{L:List Sg}{m m' i t:Nat}
theorem pT(s:Sg)(r:List Sg):fl h (s::r)=s.1++h s++fl h r:=by rfl
theorem uT:oN h L 0=0:=by rfl
theorem sX(s:Sg)(r:List Sg)(m:Nat):oN h (s::r) (m+1)=s.1.length+(h s).length+oN h r m:=by unfold oN;simp only [List.take_succ_cons,pT];simp [eN]
theorem tZ(s:Sg)(r:List Sg)(m:Nat):gt (s::r) (m+1)=gt r m:=by rfl
theorem rR(s:Sg)(r:List Sg)(m:Nat):xt h (s::r) (m+1)=xt h r m:=by rfl
theorem mC(h0:h G3=[]):∀(L:List Sg)(m:Nat),oN h L (m+1)=oN h L m+(gt L m).length+(xt h L m).length:=by
 intro a
 induction a with
 |nil=>intro m;simp [oN,gt,xt,fl,h0,G3];rw [show h ([],[],[])=[]from h0];rfl
 |cons s r b=>
  intro c
  cases c with
  |zero=>simp only [sX,uT,uT];simp [gt,xt]
  |succ m=>rw [sX,sX,tZ,rR,b m];ac_rfl
theorem Cw:oN h L L.length=(fl h L).length:=by unfold oN;rw [zD]
theorem sV(h0:h G3=[])(a:m≤m'):oN h L m≤oN h L m':=by
 induction a with
 |refl=>exact bG _
 |step _ b=>simp only [mC h0];exact aS 0xc62940d0208121004 b
theorem aEm(h0:h G3=[]):∀(L:List Sg)(m t:Nat),t<(gt L m++xt h L m).length→(fl h L).getD (oN h L m+t) 0=(gt L m++xt h L m).getD t 0:=by
 intro b
 induction b with
 |nil=>intro m;intro t;intro a;simp [gt,xt,G3]at a;rw [show h ([],[],[])=[]from h0]at a;simp at a
 |cons s r c=>
  intro d
  cases d with
  |zero=>
   intro t;intro a;have e:t<(s.1++h s).length:=by exact a
   simp only [uT,pT,gW,aP,qH e];simp [gt,xt]
  |succ m=>intro t;intro a;rw [tZ,rR]at a⊢;rw [←c m t a,pT,sX,aP,pC (by rw [bK,eN];exact dW _ _),←aP,bK,eN,Ar]
theorem X4(h0:h G3=[])(a:t<(gt L m).length):(fl h L).getD (oN h L m+t) 0=(gt L m).getD t 0:=by rw [aEm h0 L m t (by simp;exact Nat.le_add_right_of_le ‹_›),aP,qH a,←aP]
theorem Jv(h0:h G3=[])(a:t<(xt h L m).length):(fl h L).getD (oN h L m+(gt L m).length+t) 0=(xt h L m).getD t 0:=by
 rw [eN,aEm h0 L m _ (by simp;assumption),aP,pC (by exact dW _ _),←aP]
 congr 1;simp
theorem ĕ(a:L.length≤m):gt L m=[]:=by unfold gt;rw [aP,tP a];rfl
theorem yT(a:gt L m≠[]):m<L.length:=nA fun h=>a (ĕ h)
theorem Gg(h0:h G3=[])(hi:i<(fl h L).length):∃m,m<L.length∧oN h L m≤i∧i<oN h L (m+1):=by
 obtain ⟨m,b,a⟩:=Sa (P:=fun m=>i<oN h L m) ⟨L.length,by simp only [Cw];exact hi⟩
 cases m with
 |zero=>exact absurd ‹_› (kI _)
 |succ m=>
  have c:=fI fun q=>by have:=a m q;exact absurd ‹_› (fP _)
  refine ⟨m,nA fun q=>?_,c,b⟩;have:=a L.length (by simp only [Cw];exact hi);exact absurd ‹_› (kJ.mpr ‹_›)
theorem xU(h0:h G3=[])(a:m<L.length):oN h L m+(gt L m).length+(xt h L m).length≤(fl h L).length:=by rw [←Cw,←mC h0];exact sV h0 a
theorem Tr(a:t<(xt h L m).length):(xt h L m).getD t 0∈xt h L m:=by simp only [aP,bJ a];exact kW a
theorem Nw(a:m<L.length):L.getD m G3∈L:=by simp only [aP,bJ a];exact kW a
end
structure aC6(Z:Int→Prop)(h:Sg→bH)(L:List Sg):Prop where
 h0:h G3=[]
 n:∀i i',i<(fl h L).length→i'<(fl h L).length→(fl h L).getD i 0=(fl h L).getD i' 0→¬Z ((fl h L).getD i 0)→i=i'
 fin:∀m,L.length≤m+1→xt h L m=[]
 hd:∀m,xt h L m≠[]→¬Z ((xt h L m).getD 0 0)
 lst:∀m,gt L (m+1)≠[]→xt h L m≠[]→¬Z ((xt h L m).getD ((xt h L m).length-1) 0)
 zz:(∃v,Z v)→∀m,gt L (m+1)≠[]→xt h L m≠[]∧∀t,t+1<(xt h L m).length→¬(Z ((xt h L m).getD t 0)∧Z ((xt h L m).getD (t+1) 0))
structure J9(Z:Int→Prop)(L:List Sg):Prop where
 x:aC6 Z sx L
 y:aC6 Z sy L
 c2:∀s∈L,∀s'∈L,∀v∈s.2.1,v∈s'.2.2→Z v
 c3:∀s∈L,∀v∈s.2.1,v∉s.2.2
 ne:∀m,m+1<L.length→xt sx L m≠[]∨xt sy L m≠[]
 gn:∀m,0<m→m+1<L.length→gt L m≠[]
 two:(∃v,Z v)→∀m,gt L m≠[]→2≤(gt L m).length
noncomputable def Qd:Nat→Nat→List Sg→List T3
 |_,_,[]=>[]
 |i,j,s::r=>(if s.1=[]then[]else[(i,j,s.1.length)])++Qd (i+s.1.length+s.2.1.length) (j+s.1.length+s.2.2.length) r
theorem Ex:Qd a b []=([]):=rfl
theorem Ew:Qd i j (s::r)=((if s.1=[]then[]else[(i,j,s.1.length)])++Qd (i+s.1.length+s.2.1.length) (j+s.1.length+s.2.2.length) r):=rfl
theorem A7:∀(L:List Sg)(i j:Nat)(e:T3),e∈Qd i j L↔∃m,gt L m≠[]∧e=(i+oN sx L m,j+oN sy L m,(gt L m).length):=by
 intro d
 induction d with
 |nil=>intro i j e;simp only [Ex,Ew,kT,false_iff];rintro ⟨m,h,_⟩;exact h (ĕ (cJ _))
 |cons s r f=>
  intro i j e;simp only [Ex,Ew];rw [cV,f];constructor
  ·rintro (h|⟨m,a,b⟩)
   ·split at h
    ·cases h
    ·rename_i c;rw [aM]at h;exact ⟨0,c,by rw [uT,uT,h];rfl⟩
   ·refine ⟨m+1,by rw [tZ];exact a,?_⟩;rw [sX,sX,tZ,b,←eN,←eN,←eN,←eN];rfl
  ·rintro ⟨m,a,b⟩
   cases m with
   |zero=>
    left
    have c:s.1≠[]:=a;rw [if_neg c,aM,b,uT,uT];rfl
   |succ m=>
    right
    rw [tZ]at a;refine ⟨m,a,?_⟩;rw [b,sX,sX,tZ,←eN,←eN,←eN,←eN];rfl
theorem aCu:∀(L:List Sg)(i j:Nat),(Qd i j L).Pairwise Bef:=by
 intro b
 induction b with
 |nil=>intro i j;exact .nil
 |cons s r c=>
  intro i j;refine lZ.mpr ⟨?_,c _ _,fun e a f d=>?_⟩
  ·split
   ·exact .nil
   ·exact Tp _ _
  ·split at a
   ·cases a
   ·rw [aM]at a;obtain ⟨m,_,rfl⟩:=(A7 r _ _ f).mp d;subst a;constructor
    ·simp only;exact aS 0x8c5281a04808101004
    ·simp only;exact aS 0x8c5281a04808101004
section
variable{Z:Int→Prop}{L:List Sg}
theorem Jd:sx G3=[]:=rfl
theorem Jk:sy G3=[]:=rfl
theorem L9:OnE (Qd 0 0 L) i j↔∃m t,t<(gt L m).length∧i=oN sx L m+t∧j=oN sy L m+t:=by
 constructor
 ·rintro ⟨e,d,t,a,b,c⟩;obtain ⟨m,_,rfl⟩:=(A7 L 0 0 e).mp d;exact ⟨m,t,a,by simpa using b,by simpa using c⟩
 ·rintro ⟨m,t,a,b,c⟩;exact ⟨_,(A7 L 0 0 _).mpr ⟨m,fun q=>by rw [q]at a;exact absurd a (kI _),rfl⟩,t,a,by simpa using b,by simpa using c⟩
theorem Mw{h:Sg→bH}(h0:h G3=[])(a:t<(gt L m).length)(e:i=oN h L m+t)(b:oN h L m'+(gt L m').length≤i)(c:i<oN h L (m'+1)):False:=by
 rcases I9 m m' with q|q|q
 ·have:=sV (L:=L) h0 q;rw [mC h0]at this;exact aS 0xb8c649220a740469120a622d0018941007 a e b this
 ·subst q;exact aS 0x2c632489011ad0018941004 a e b
 ·have:=sV (L:=L) h0 q;exact aS 0xb18c9211a8605a041004 e c this
theorem Ze(h0:h G3=[])(q:¬i<oN h L m+(gt L m).length)(a:i<oN h L (m+1)):∃t,t<(xt h L m).length∧i=oN h L m+(gt L m).length+t:=by obtain ⟨t,rfl⟩:=kF (fI q);rw [mC h0]at a;exact ⟨t,yN a,rfl⟩
theorem Ô(h0:h G3=[])(a:m<L.length)(b:t<(gt L m).length):oN h L m+t<(fl h L).length:=
 cG (E5 b _) (bZ (dW _ _) (xU h0 a))
theorem Ā(h0:h G3=[])(q:xt h L m≠[]):oN h L m+(gt L m).length≤oN h L (m+1)-1∧oN h L (m+1)-1<oN h L (m+1)∧(fl h L).getD (oN h L (m+1)-1) 0=(xt h L m).getD ((xt h L m).length-1) 0:=by refine nn fun b=>?_;obtain ⟨c,a⟩:=V9 (fS.mpr q);refine b ?_;rw [gW]at a;rw [(by rw [mC h0,a];rfl:oN h L (m+1)=oN h L m+(gt L m).length+c+1),a];exact ⟨dW _ _,gQ _,Jv h0 (by simp only [a];exact gQ _)⟩
theorem J9.uniq(k:J9 Z L)(hi:i<(fl sx L).length)(d:j<(fl sy L).length)(e:(fl sx L).getD i 0=(fl sy L).getD j 0)(b:¬Z ((fl sx L).getD i 0)):OnE (Qd 0 0 L) i j:=by
 obtain ⟨m,f,a1,g⟩:=Gg Jd hi;obtain ⟨m',l,b1,c⟩:=Gg Jk d;by_cases q:i<oN sx L m+(gt L m).length
 ·replace a1:=kF a1;obtain ⟨t,rfl⟩:=a1;have a:=yN q;exact L9.mpr ⟨m,t,a,rfl,k.y.n _ _ d (Ô Jk f a) (by simp only [←e,(X4 (h:=sx) Jd a),X4 (h:=sy) Jk a]) (by refine e▸?_;exact b)⟩
 ·exfalso;by_cases n:j<oN sy L m'+(gt L m').length
  ·replace b1:=kF b1;obtain ⟨t,rfl⟩:=b1;have a:=yN n;exact Mw Jd a (k.x.n _ _ hi (Ô Jd l a) (by simp only [X4 (h:=sx) Jd a,e,X4 (h:=sy) Jk a]) b) (fI q) g
  ·obtain ⟨t,o,rfl⟩:=Ze Jd q g;replace c:=Ze Jk n c;obtain ⟨r,p,rfl⟩:=c;refine b (k.c2 _ (Nw f) _ (Nw l) _ ?_ ?_)
   ·simp only [Jv (h:=sx) Jd o];exact Tr o
   ·simp only [e,Jv (h:=sy) Jk p];exact Tr p
theorem Ý(a:oN sx L m+(gt L m).length≤i)(b:i<oN sx L (m+1)):¬OnE (Qd 0 0 L) i j:=fun h=>by obtain ⟨m',t,c,d,e⟩:=L9.mp h;exact Mw Jd c d a b
theorem Ü(a:oN sy L m+(gt L m).length≤j)(b:j<oN sy L (m+1)):¬OnE (Qd 0 0 L) i j:=fun h=>by obtain ⟨m',t,c,e,d⟩:=L9.mp h;exact Mw Jk c d a b
theorem J9.behind(k:J9 Z L)(c:oN sx L m+(gt L m).length<(fl sx L).length)(d:oN sy L m+(gt L m).length<(fl sy L).length)(n:m<L.length):(fl sx L).getD (oN sx L m+(gt L m).length) 0≠(fl sy L).getD (oN sy L m+(gt L m).length) 0:=fun e=>by
 have b:=mC Jd L m;have j:=mC Jk L m;have l:=nA fun q=>by
  have f:=k.x.fin m q;rw [f]at b;have:oN sx L (m+1)=(fl sx L).length:=by simp only [show m+1=L.length by exact lX ‹_› ‹_›,Cw]
  simp only [gI]at b;exact aS 0x1618c9621ad064040350901004 c b this
 rcases k.ne m l with q|q
 ·have a:=fS.mpr q;have g:=Jv (h:=sx) (L:=L) (m:=m) (t:=0) Jd a;simp only [qF]at g;exact Ý (m:=m) (by exact bG _) (by exact aS aEh b a) (k.uniq c d e (by simp only [g];exact k.x.hd m q))
 ·have a:=fS.mpr q;have g:=Jv (h:=sy) (L:=L) (m:=m) (t:=0) Jk a;simp only [qF]at g;exact Ü (m:=m) (by exact bG _) (aS aEh j a) (k.uniq c d e (by simp only [e,g];exact k.y.hd m q))
theorem J9.ahead(k:J9 Z L)(c:gt L (m+1)≠[])(l:0<oN sx L (m+1))(n:0<oN sy L (m+1)):(fl sx L).getD (oN sx L (m+1)-1) 0≠(fl sy L).getD (oN sy L (m+1)-1) 0:=fun e=>by
 have d:=yT c;have a:=cG (aDb l Dx) (bZ (bZ (dW _ _) (dW _ _)) (xU Jd d));have b:=cG (aDb n Dx) (bZ (bZ (dW _ _) (dW _ _)) (xU Jk d));rcases k.ne m d with q|q
 ·obtain ⟨f,g,j⟩:=Ā (h:=sx) Jd q;exact Ý f g (k.uniq a b e (by simp only [j];exact k.x.lst m c q))
 ·obtain ⟨f,g,j⟩:=Ā (h:=sy) Jk q;exact Ü f g (k.uniq a b e (by simp only [e,j];exact k.y.lst m c q))
theorem aC6.zrun{h:Sg→bH}(a:aC6 Z h L)(gn:∀m,0<m→m+1<L.length→gt L m≠[])(C:m<L.length)(D:oN h L m≤i)(u:i<oN h L (m+1))(f:0<k)(c:i+k≤(fl h L).length)(d:∀t,t<k→Z ((fl h L).getD (i+t) 0)):
  (i+k≤oN h L m+(gt L m).length)∨(oN h L m+(gt L m).length≤i∧(k=1∨gt L (m+1)=[])):=by
 have j:=mC a.h0 L m;have n:∃v,Z v:=⟨_,d 0 f⟩;by_cases q:i<oN h L m+(gt L m).length
 ·left
  refine fI fun o=>?_;have l:=d (oN h L m+(gt L m).length-i) (Nat.sub_lt_left_of_lt_add (kR q) o);rw [Nat.add_sub_cancel' (kR q)]at l;by_cases hx:xt h L m=[]
  ·by_cases b:gt L (m+1)=[]
   ·have e:=mC a.h0 L (m+1);rw [hx]at j;rw [b]at e;by_cases x:m+2<L.length
    ·exact gn (m+1) (by exact vI _ _) x b
    ·rw [a.fin (m+1) (by exact fI ‹_›)]at e;simp only [gI]at j e;have:=sV (L:=L) (m:=L.length) (m':=m+1+1) a.h0 (by exact fI ‹_›);rw [Cw]at this;exact aS 0x16c632494e25a0c830ca752020414c45a0c82988348901007 c j o e this
   ·exact (a.zz n m b).1 hx
  ·have y:=fS.mpr hx;have g:=Jv (h:=h) (L:=L) (m:=m) (t:=0) a.h0 y;simp only [qF]at g;simp only [g]at l;exact a.hd m hx l
 ·right
  refine ⟨by exact fI ‹_›,?_⟩;by_cases p:k=1
  ·exact .inl p
  ·right
   refine eH fun b=>?_;obtain ⟨t,r,rfl⟩:=Ze a.h0 q u;have s:=Jv (h:=h) a.h0 r▸d 0 f;obtain ⟨y1,A⟩:=a.zz n m b;by_cases c:t+1<(xt h L m).length
   ·exact A _ c ⟨s,Jv (h:=h) a.h0 c▸(d 1 (Nat.lt_of_le_of_ne f fun z=>p z.symm))⟩
   ·have B:=lX (fI c) r;have:=a.lst m b y1;rw [B]at this;exact this s
theorem J9.al(k:J9 Z L):Al (fl sx L) (fl sy L) (Qd 0 0 L)where
 ord:=aCu L 0 0
 run:=fun e o=>by obtain ⟨m,b,rfl⟩:=(A7 L 0 0 e).mp o;have l1:=xU Jd (yT b);have l2:=xU Jk (yT b);refine ⟨fS.mpr b,cJ _,by simp only;exact aS aD9 l1,cJ _,by simp only;exact aS aD9 l2,fun t f=>?_⟩;simp only [gW];simp only [X4 Jd f,X4 Jk f]
 max:=fun e o i j n t t' c f X r C=>by
  replace o:=(A7 L 0 0 e).mp o;obtain ⟨m,b,rfl⟩:=o;have l1:=xU Jd (yT b);have l2:=xU Jk (yT b);have c1:=c.a1;have c3:=c.b1;simp only [gW]at *;constructor
  ·refine fI fun q=>?_
   cases m with
   |zero=>exact absurd q (kI _)
   |succ m=>obtain ⟨d,hd⟩:=V9 q;have hy:oN sy L (m+1)=j+d+1:=aS 0x19cd18ad07414e4299683a0a700968194c80916818901007 r C hd;refine k.ahead b (by rw [hd];exact Bf _) (by rw [hy];exact Bf _) ?_;rw [hd,hy];exact c.eq d (aS 0xd462a094cb41d053086b4106800941006 f r hd)
  ·refine fI fun q=>?_;obtain ⟨d,hd⟩:=kF (show i≤oN sx L m+(gt L m).length by exact aS 0x58c5280904b4008818941005 X r);have hy:oN sy L m+(gt L m).length=j+d:=aS 0x19cd18ad05d188829ca65a0ba3010538968194c80916818901008 r C hd;refine k.behind (m:=m) (cG q c1) (by rw [hy];exact cG (E5 (aS aKh q hd) _) c3) (yT b) ?_;rw [hd,hy];exact c.eq d (aS aKh q hd)
 off:=fun i j n g c Y=>by
  have c1:=c.a1;have c3:=c.b1;have zx:∀t,t<n→Z ((fl sx L).getD (i+t) 0):=fun t f=>eH fun q=>Y t f (k.uniq (by exact aS aD5 c1 f) (by exact aS aD5 c3 f) (c.eq t f) q);have zy:∀t,t<n→Z ((fl sy L).getD (j+t) 0):=fun t f=>by rw [←c.eq t f];exact zx t f
  have ez:∃v,Z v:=⟨_,zx 0 g⟩;have two:=k.two ez;obtain ⟨m,b,a1,D⟩:=Gg (h:=sx) (i:=i) (L:=L) Jd (by exact aS aAs g c1);obtain ⟨m',F,b1,y⟩:=Gg (h:=sy) (i:=j) (L:=L) Jk (by exact aS aAs g c3);have r:=mC Jd L m;have C:=mC Jk L m';have s:∀m,gt L m≠[]→(oN sx L m,oN sy L m,(gt L m).length)∈Qd 0 0 L:=fun m h=>(A7 L 0 0 _).mpr ⟨m,h,by rw [gW,gW]⟩;have G:∀{m},0<(gt L m).length→gt L m≠[]:=fun h=>fS.mp h;have P:∀m,m<L.length→gt L (m+1)=[]→∀p,gt L p≠[]→p≤m:=fun m b a p z=>by
   refine fI fun q=>?_;have:=yT z;by_cases Q:m+2<L.length
   ·exact k.gn (m+1) (by exact vI _ _) Q a
   ·have:p=m+1:=by exact aS 0x3c8c5683802e92848d180a10541003 q this Q
    exact z (this▸a)
  rcases k.x.zrun k.gn b a1 D g (by assumption) zx with H|⟨I,A⟩
  ·have a:gt L m≠[]:=G (by exact aS aAw g a1 H);refine .inl ⟨_,s m a,a1,H,?_⟩;rcases k.y.zrun k.gn F b1 y g (by assumption) zy with l|⟨B,x⟩
   ·have za:gt L m'≠[]:=G (by exact aS aAw g b1 l);exact .inr (.inr ⟨_,s m' za,b1,l⟩)
   ·rcases x with rfl|x
    ·exact .inl (two m a)
    ·refine .inr (.inl ?_);have z:=P m' F x m a;have lg:=fS.mpr a;simp only;rcases tG m m' with q|q
     ·have:oN sy L (m+1)≤oN sy L m':=sV (L:=L) (h:=sy) Jk q;rw [mC Jk]at this;exact aS 0x3f18a8853a4682e8c8298a74a0a60a0024906910540308 g a1 b1 H this
     ·have:m=m':=by exact lX ‹_› ‹_›
      subst this;exact aS aAs lg B
  ·right
   rcases k.y.zrun k.gn F b1 y g (by assumption) zy with l|⟨B,x⟩
   ·have a:gt L m'≠[]:=G (by exact aS aAw g b1 l);refine .inl ⟨_,s m' a,b1,l,?_⟩;rcases A with rfl|A
    ·exact .inl (two m' a)
    ·right
     have z:=P m b A m' a;have lg:=fS.mpr a;simp only;rcases tG m' m with q|q
     ·have:oN sx L (m'+1)≤oN sx L m:=sV (L:=L) (h:=sx) Jd q;rw [mC Jd]at this;exact aS 0x3f18a8453a4282e8c8298a74a0a61a0044906910540308 g a1 b1 l this
     ·have:m'=m:=by exact lX ‹_› ‹_›
      subst this;exact aS aAs lg I
   ·right
    refine nn fun ng=>?_;obtain ⟨u,J,hu⟩:=Ze Jd (aIj I) D;obtain ⟨u',N,zr⟩:=Ze Jk (aIj B) y;refine ng ?_;have R:m+1<L.length:=nA fun q=>(fS.mp (hF (cJ _) J)) (k.x.fin m q);have T:m'+1<L.length:=nA fun q=>(fS.mp (hF (cJ _) N)) (k.y.fin m' q);rcases I9 m m' with q|q|q
    ·have a:=k.gn m' (by exact aS W8 q) T;have O:n=1:=by
      rcases A with h|h
      ·exact h
      ·exact absurd h (k.gn (m+1) (by exact vI _ _) (by exact aS aEg T q))
     subst O;refine ⟨_,s m' a,two m' a,.inl ⟨?_,B⟩⟩;have:oN sx L (m+1)≤oN sx L m':=sV (L:=L) (h:=sx) Jd q;simp only;exact aS 0xe315080910541003 D this
    ·subst q;exfalso;have W:=c.eq 0 g;rw [qF,qF,hu,zr,Jv (h:=sx) Jd J,Jv (h:=sy) Jk N]at W;exact k.c3 _ (Nw b) _ (Tr (h:=sx) J) (by simp only [W];exact Tr (h:=sy) N)
    ·have a:=k.gn m (by exact aS W8 q) R;have O:n=1:=by
      rcases x with h|h
      ·exact h
      ·exact absurd h (k.gn (m'+1) (by exact vI _ _) (by exact aS aEg R q))
     subst O;refine ⟨_,s m a,two m a,.inr ⟨?_,I⟩⟩;have:oN sy L (m'+1)≤oN sy L m:=sV (L:=L) (h:=sy) Jk q;simp only;exact aS 0xe315080910541003 y this
end
def ŗ(e f:T3):Prop:=e.1+e.2.2=f.1∧e.2.1+e.2.2=f.2.1
theorem Vf:∀(l:List T3)(e:T3),0<e.2.2→(e::l).Pairwise (fun a b=>¬ŗ a b)→(∀f∈l,0<f.2.2)→glue e l=e::l:=by
 intro g
 induction g with
 |nil=>intro m;obtain ⟨i,j,k⟩:=m;intro c;intro _;intro _;simp only at c;simp only [C8,C7];rw [if_neg (by exact aS 0x518ba4b30140301 c)]
 |cons o r p=>obtain ⟨s,t,u⟩:=o;intro v;obtain ⟨i,j,k⟩:=v;intro c;intro h;intro d;obtain ⟨x,y⟩:=gE.mp h;have n:=x _ (aU ..);simp only [ŗ]at n c;simp only [C8,C7];rw [if_neg n,if_neg (by exact aS 0x518ba4b30140301 c),p (s,t,u) (d _ (aU ..)) y fun f z=>d f (bB _ z)]
theorem aHb(h:l.Pairwise (fun a b=>¬ŗ a b))(c:∀f∈l,0<f.2.2):glue (0,0,0) l=l:=by
 match l,h,c with
 |[],_,_=>rfl
 |(i,j,k)::r,h,c=>
  have d:=c _ (aU ..);have e:∀f∈r,0<f.2.2:=fun f g=>c f (bB _ g);simp only [C8,C7];split
  ·rename_i q;have:((0,0,0+k):T3)=(i,j,k):=by rw [←q.1,←q.2,gW]
   rw [this];exact Vf r _ d h e
  ·rw [if_pos trivial];exact Vf r _ d h e
theorem Al.glue(al:Al A B Es):glue (0,0,0) Es=Es:=by
 refine aHb ?_ fun f a=>(al.run f a).1;refine aOu ?_ al.ord;rintro e f b a _ ⟨c,d⟩;obtain ⟨g,c1⟩:=al.run e b;obtain ⟨h,c2⟩:=al.run f a;have a1:=c1.a1;have l:=c1.b1;have i:=c2.a1;have j:=c2.b1;have:=al.max e b e.1 e.2.1 (e.2.2+f.2.2) 0 0 ⟨cJ _,aS aKe c i,cJ _,aS aKe d j,fun t k=>by
  by_cases q:t<e.2.2
  ·exact c1.eq t q
  ·have:=c2.eq (t-e.2.2) (aS 0x1a58c543029031054334cc1003 h k);rw [show f.1+(t-e.2.2)=e.1+t by exact aS aK3 c q,show f.2.1+(t-e.2.2)=e.2.1+t by exact aS aK3 d q]at this;exact this⟩ (aS 0x318a90101940302 g) g rfl rfl
 exact aS 0xa3193128105080082908540303 h this
theorem Al.mbs(al:Al A B Es):mbs A B=Es++[(A.length,B.length,0)]:=by unfold Mine.mbs;simp only [Lc al,al.glue]
def Nk(old new:bH):mZ:=if old=[]then .insert else if new=[]then .delete else .replace
noncomputable def Ru(i' i j' j:Nat):List Qm:=if i'<i∧j'<j then[(mZ.replace,i',i,j',j)]else if i'<i then[(mZ.delete,i',i,j',j)]else if j'<j then[(mZ.insert,i',i,j',j)]else[]
def tD(i j:Nat)(s:Sg):List Qm:=if s.2.1=[]∧s.2.2=[]then[]else[(Nk s.2.1 s.2.2,i+s.1.length,i+s.1.length+s.2.1.length,j+s.1.length,j+s.1.length+s.2.2.length)]
noncomputable def Fp(i j:Nat)(s:Sg):List Qm:=if s.1=[]then[]else[(mZ.equal,i,i+s.1.length,j,j+s.1.length)]
def Ea:Nat→Nat→List Sg→List Qm
 |_,_,[]=>[]
 |i,j,s::r=>Fp i j s++(tD i j s++Ea (i+s.1.length+s.2.1.length) (j+s.1.length+s.2.2.length) r)
theorem L7:Ea a b []=([]):=rfl
theorem L6:Ea i j (s::r)=(Fp i j s++(tD i j s++Ea (i+s.1.length+s.2.1.length) (j+s.1.length+s.2.2.length) r)):=rfl
theorem H4(i j:Nat)(s:Sg):tD i j s=Ru (i+s.1.length) (i+s.1.length+s.2.1.length) (j+s.1.length) (j+s.1.length+s.2.2.length):=by
 obtain ⟨g,x,y⟩:=s;unfold tD Ru Nk;simp only
 cases x with
 |nil=>cases y with
  |nil=>simp
  |cons b y=>simp
 |cons a x=>cases y with
  |nil=>simp
  |cons b y=>simp
theorem Cv(a b i j k:Nat)(r:List T3):wV a b ((i,j,k)::r)=Ru a i b j++(if k=0 then[]else[(mZ.equal,i,i+k,j,j+k)])++wV (i+k) (j+k) r:=by rfl
theorem O3(i j:Nat):Ru i i j j=[]:=by unfold Ru;simp
def Tj:List Sg→Prop
 |[]=>True
 |[s]=>s.2.1=[]∧s.2.2=[]
 |s::t::r=>s.1≠[]∧Tj (t::r)
theorem G7:∀(L:List Sg)(a b i j:Nat),Tj L→wV a b (Qd i j L++[(i+(fl sx L).length,j+(fl sy L).length,0)])=Ru a i b j++Ea i j L
 |[],a,b,i,j,_=>by simp only [Ex,Ew,hG,fl,tX,gI,qF,L7,L6];rw [Cv,if_pos rfl];simp [Ga,F9]
 |[(g,x,y)],a,b,i,j,h=>by
  obtain ⟨e,f⟩:=h;simp only at e f;subst e;subst f;by_cases c:g=[]
  ·subst c;simp only [Ex,Ew,if_true,hG,fl,mA,tX,sx,sy,eO,gI,qF,L7,L6,Fp,tD,and_self];rw [Cv,if_pos rfl];simp [Ga,F9]
  ·have d:¬g.length=0:=fun q=>c (jZ q);simp only [Ex,Ew,if_neg c,fl,mA,tX,sx,sy,eO,L7,L6,Fp,tD,and_self,if_true,jO,hG];rw [Cv,Cv,if_neg d,O3,if_pos rfl];simp [Ga,F9]
 |s::t::r,a,b,i,j,h=>by
  obtain ⟨c,k⟩:=h;have d:¬s.1.length=0:=fun q=>c (jZ q);have l:=G7 (t::r) (i+s.1.length) (j+s.1.length) (i+s.1.length+s.2.1.length) (j+s.1.length+s.2.2.length) k;have m:i+(fl sx (s::t::r)).length=i+s.1.length+s.2.1.length+(fl sx (t::r)).length:=by rw [pT];simp only [bK,sx];exact aS aEf
  have n:j+(fl sy (s::t::r)).length=j+s.1.length+s.2.2.length+(fl sy (t::r)).length:=by rw [pT];simp only [bK,sy];exact aS aEf
  rw [m,n];show wV a b ((if s.1=[]then[]else[(i,j,s.1.length)])++Qd (i+s.1.length+s.2.1.length) (j+s.1.length+s.2.2.length) (t::r)++_)=Ru a i b j++(Fp i j s++(tD i j s++Ea (i+s.1.length+s.2.1.length) (j+s.1.length+s.2.2.length) (t::r)));rw [if_neg c,iJ];rw [oO,Cv,if_neg d,l,H4];unfold Fp;rw [if_neg c,iJ]
def Ś:List Sg→Prop
 |[]=>True
 |[s]=>s.2.1=[]∧s.2.2=[]
 |s::t::r=>Tj (t::r)
theorem Tj.one:∀{L:List Sg},Tj L→Ś L
 |[],_=>trivial
 |[_],h=>h
 |_::_::_,h=>h.2
theorem Wu:∀(L:List Sg),Ś L→wV 0 0 (Qd 0 0 L++[((fl sx L).length,(fl sy L).length,0)])=Ea 0 0 L:=fun L h=>by
 have z:=gW;by_cases a:Tj L
 ·have:=G7 L 0 0 0 0 a;rw [z,z,O3]at this;exact this
 ·match L,h with
  |[],_=>exact absurd trivial a
  |[s],h=>exact absurd h a
  |(g,x,y)::t::r,h=>
   have b:=eH fun q=>a ⟨q,h⟩;subst b;have:=G7 (t::r) 0 0 x.length y.length h;have c:(fl sx (([],x,y)::t::r)).length=x.length+(fl sx (t::r)).length:=by rw [pT];simp only [bK,sx,gI];exact aS 0x6315a02040500302
   have d:(fl sy (([],x,y)::t::r)).length=y.length+(fl sy (t::r)).length:=by rw [pT];simp only [bK,sy,gI];exact aS 0x6315a02040500302
   rw [c,d];show wV 0 0 ([]++Qd (0+0+x.length) (0+0+y.length) (t::r)++_)=[]++(tD 0 0 ([],x,y)++Ea (0+0+x.length) (0+0+y.length) (t::r));rw [hG,hG,H4,gI,z,z,z,this]
theorem J9.full:∀{L:List Sg},(∀m,L.length≤m+1→xt sx L m=[])→(∀m,L.length≤m+1→xt sy L m=[])→(∀m,m+1<L.length→gt L m≠[])→Tj L
 |[],_,_,_=>trivial
 |[s],b,c,_=>⟨b 0 (bG _),c 0 (bG _)⟩
 |s::t::r,b,c,d=>⟨d 0 (by simp),J9.full (fun m a=>by have:=b (m+1) (by simp at a⊢;exact aS Mj a);rwa[rR]at this) (fun m a=>by have:=c (m+1) (by simp at a⊢;exact aS Mj a);rwa[rR]at this) fun m a=>by have:=d (m+1) (by simp at a⊢;exact aS W9 a);rwa[tZ]at this⟩
theorem J9.full1{Z:Int→Prop}(k:J9 Z L):Ś L:=by
 match L,k with
 |[],_=>trivial
 |[s],k=>exact ⟨k.x.fin 0 (bG _),k.y.fin 0 (bG _)⟩
 |s::t::r,k=>
  refine J9.full (fun m a=>?_) (fun m a=>?_) fun m a=>?_
  ·have:=k.x.fin (m+1) (by simp at a⊢;exact aS Mj a);rwa[rR]at this
  ·have:=k.y.fin (m+1) (by simp at a⊢;exact aS Mj a);rwa[rR]at this
  ·have:=k.gn (m+1) (aS 0x231520e0301) (by simp at a⊢;exact aS W9 a);rwa[tZ]at this
theorem aJp{Z:Int→Prop}(k:J9 Z L):ops (fl sx L) (fl sy L)=Ea 0 0 L:=by unfold Mine.ops;rw [k.al.mbs];exact Wu L k.full1
theorem aCv:∀(L:List Sg)(i j:Nat),(Qd i j L).length≤L.length:=by
 intro a
 induction a with
 |nil=>intro _ _;exact bG _
 |cons s r b=>intro i j;simp only [Ex,Ew];have:=b (i+s.1.length+s.2.1.length) (j+s.1.length+s.2.2.length);split<;>simp<;>omega
theorem xS(p x q:bH)(c:a=p.length)(d:b=p.length+x.length):pB (p++x++q) a b=x:=by subst c;subst d;unfold pB;simp only [iJ,List.drop_left,show p.length+x.length-p.length=x.length by exact aS 0x1106a315881330101002,List.take_left]
theorem X7(o n:bH):oL o n=Nk o n:=rfl
theorem Nj(o n:bH):Nk o n≠.equal:=by by_cases h:o=[]<;>by_cases h':n=[]<;>simp [Nk,h,h']
def Fit(L:List Sg):Prop:=∀s∈L,∀v∈s.2.1,v∉s.2.2
theorem aHl(h:∀v∈x,v∉y):¬(x=y∧y≠[]):=by rintro ⟨rfl,hy⟩;obtain ⟨a,l,rfl⟩:=wQ hy;exact h a (aU ..) (aU ..)
theorem aHd(c:A=a++s.1++s.2.1++qa)(f:B=b++s.1++s.2.2++qb)(j:∀v∈s.2.1,v∉s.2.2)
  (k:(s.2.1≠[]∨s.2.2≠[])→g≠some false) (h0:s.2.1=[]→s.2.2=[]→wL A B r (a.length+s.1.length) (b.length+s.1.length) g) (l:(s.2.1≠[]∨s.2.2≠[])→wL A B r (a.length+s.1.length+s.2.1.length) (b.length+s.1.length+s.2.2.length) (some false)):
  wL A B (tD a.length b.length s++r) (a.length+s.1.length) (b.length+s.1.length) g:=by
 unfold tD;split
 ·rename_i q;exact h0 q.1 q.2
 ·rename_i q;have i:s.2.1≠[]∨s.2.2≠[]:=by
   by_cases e:s.2.1=[]
   ·exact .inr fun m=>q ⟨e,m⟩
   ·exact .inl e
  have n:pB A (a.length+s.1.length) (a.length+s.1.length+s.2.1.length)=s.2.1:=by rw [c];exact xS (a++s.1) s.2.1 qa (by simp) (by simp)
  have sB:pB B (b.length+s.1.length) (b.length+s.1.length+s.2.2.length)=s.2.2:=by rw [f];exact xS (b++s.1) s.2.2 qb (by simp) (by simp)
  have d:decide (Nk s.2.1 s.2.2=.equal)=false:=decide_eq_false (Nj _ _);show wL A B ((Nk s.2.1 s.2.2,_,_,_,_)::r) _ _ _;rw [V8];rw [d,n,sB];refine ⟨rfl,rfl,aS Ml,?_,aS Ml,?_,⟨fun h=>absurd h (aHl j),fun h=>absurd h (Nj _ _)⟩,k i,l i⟩
  ·rw [c];simp;exact aS aD4
  ·rw [f];simp;exact aS aD4
theorem aEo(c:A=a++s.1++qa)(d:B=b++s.1++qb)(f:s.1≠[]→e≠some true)(h0:s.1=[]→wL A B r (a.length+s.1.length) (b.length+s.1.length) e)(g:s.1≠[]→wL A B r (a.length+s.1.length) (b.length+s.1.length) (some true)):
  wL A B (Fp a.length b.length s++r) a.length b.length e:=by
 unfold Fp;split
 ·rename_i q;have:=h0 q;rw [q]at this;exact this
 ·rename_i q;have h:pB A a.length (a.length+s.1.length)=s.1:=by rw [c];exact xS a s.1 qa rfl rfl
  have sB:pB B b.length (b.length+s.1.length)=s.1:=by rw [d];exact xS b s.1 qb rfl rfl
  refine (?_:wL A B ((mZ.equal,_,_,_,_)::r) _ _ _);rw [V8];rw [h,sB,show decide (mZ.equal=mZ.equal)=true from decide_eq_true rfl];refine ⟨rfl,rfl,aS W7,?_,aS W7,?_,⟨fun _=>rfl,fun _=>⟨rfl,q⟩⟩,f q,g q⟩
  ·rw [c];simp
  ·rw [d];simp
def aC7:List Sg→Prop
 |[]=>True
 |[s]=>s.2.1=[]∧s.2.2=[]
 |s::t::r=>(s.2.1≠[]∨s.2.2≠[])∧(t.1=[]→t.2.1=[]∧t.2.2=[])∧aC7 (t::r)
theorem χ:∀(L:List Sg)(a b:bH)(c:Option Bool),aC7 L→Fit L→A=a++fl sx L→B=b++fl sy L→c≠some true→(c=some false→∀s r,L=s::r→s.1=[]→s.2.1=[]∧s.2.2=[])→wL A B (Ea a.length b.length L) a.length b.length c:=by
 intro H
 induction H with
 |nil=>intro a;intro b;intro c;intro _;intro _;intro d;intro f;intro _;intro _;simp only [fl,tX,eO]at d f;subst d;subst f;exact ⟨rfl,rfl⟩
 |cons s I J=>
  cases I with
  |nil=>
   intro a;intro b;intro c;intro m;intro n;intro d;intro f;intro o;intro C;obtain ⟨h,k⟩:=m;obtain ⟨g,x,y⟩:=s;simp only at h k;subst h;subst k;simp only [fl,mA,tX,eO,sx,sy]at d f;show wL A B (Fp _ _ (g,[],[])++(tD _ _ (g,[],[])++[])) _ _ _;have e:∀i j,tD i j (g,[],[])=[]:=fun i j=>by simp [tD]
   rw [e];have D:∀l,wL A B [] (a.length+g.length) (b.length+g.length) l:=fun l=>by rw [d,f];exact ⟨by simp,by simp⟩
   exact aEo (qa:=[]) (qb:=[]) (s:=(g,[],[])) (by simpa using d) (by simpa using f) (fun _=>o) (fun _=>D _) (fun _=>D _)
  |cons t r=>
   intro a;intro b;intro c;intro m;intro n;intro d;intro f;intro o;intro C;obtain ⟨h,k,N⟩:=m;have O:Fit (t::r):=fun u P=>n u (bB _ P);have p:A=a++s.1++s.2.1++fl sx (t::r):=by rw [d,pT];simp [sx]
   have v:B=b++s.1++s.2.2++fl sy (t::r):=by rw [f,pT];simp [sy]
   have F:=J (a++s.1++s.2.1) (b++s.1++s.2.2) (some false) N O p v (by decide) (fun _ R T e Q=>by cases e;exact k Q);have l1:(a++s.1++s.2.1).length=a.length+s.1.length+s.2.1.length:=by simp [eN]
   have l2:(b++s.1++s.2.2).length=b.length+s.1.length+s.2.2.length:=by simp [eN]
   rw [l1,l2]at F;have G:∀c:Option Bool,c≠some false→wL A B (tD a.length b.length s++Ea (a.length+s.1.length+s.2.1.length) (b.length+s.1.length+s.2.2.length) (t::r)) (a.length+s.1.length) (b.length+s.1.length) c:=fun c z=>
    aHd p v (n s (aU ..)) (fun _=>z) (fun e W=>by rcases h with q|q<;>contradiction) (fun _=>F)
   refine aEo (qa:=s.2.1++fl sx (t::r)) (qb:=s.2.2++fl sy (t::r)) (by rw [p];simp) (by rw [v];simp) (fun _=>o) (fun e=>G _ ?_) (fun _=>G _ (by decide));intro z;obtain ⟨X,Y⟩:=C z s (t::r) rfl e;rcases h with q|q<;>contradiction
def rwG(side:Nat):Nat→List Sg→List vH
 |_,[]=>[]
 |i,s::r=>(if s.2.1=[]∧s.2.2=[]then[]else[(i+s.1.length,i+s.1.length+s.2.1.length,side,Nk s.2.1 s.2.2,s.2.2)])++rwG side (i+s.1.length+s.2.1.length) r
theorem Bh(B:bH)(side:Nat):∀l l':List Qm,eU B side (l++l')=eU B side l++eU B side l':=by
 intro f
 induction f with
 |nil=>intro _;exact rfl
 |cons g r h=>obtain ⟨a,b,c,d,e⟩:=g;intro l';refine (?_:(if a=.equal then eU B side (r++l')else (b,c,side,a,pB B d e)::eU B side (r++l'))=(if a=.equal then eU B side r else (b,c,side,a,pB B d e)::eU B side r)++eU B side l');rw [h l'];split<;>rfl
theorem Wt(side:Nat):∀(L:List Sg)(i:Nat)(a:bH),B=a++fl sy L→eU B side (Ea i a.length L)=rwG side i L:=by
 intro d
 induction d with
 |nil=>intro i a _;exact rfl
 |cons s r b=>
  intro i a e;have c:B=a++s.1++s.2.2++fl sy r:=by simp only [e,pT];simp [sy]
  have b:=b (i+s.1.length+s.2.1.length) (a++s.1++s.2.2) c;rw [show (a++s.1++s.2.2).length=a.length+s.1.length+s.2.2.length by simp [eN]]at b;show eU B side (Fp _ _ s++(tD _ _ s++Ea (i+s.1.length+s.2.1.length) (a.length+s.1.length+s.2.2.length) r))=_++rwG side (i+s.1.length+s.2.1.length) r;rw [Bh,Bh,b];have f:eU B side (Fp i a.length s)=[]:=by
   unfold Fp;split
   ·rfl
   ·simp only [D8,wU,if_true]
  have g:eU B side (tD i a.length s)=if s.2.1=[]∧s.2.2=[]then[]else[(i+s.1.length,i+s.1.length+s.2.1.length,side,Nk s.2.1 s.2.2,s.2.2)]:=by
   have sB:pB B (a.length+s.1.length) (a.length+s.1.length+s.2.2.length)=s.2.2:=by rw [c];exact xS (a++s.1) s.2.2 _ (by simp) (by simp)
   unfold tD;split
   ·rfl
   ·simp only [D8,wU,if_neg (Nj _ _),sB]
  rw [f,g];rfl
theorem aLk{Z:Int→Prop}(k:J9 Z L):aC7 L:=by
 have f:∀(L:List Sg),(∀m,L.length≤m+1→xt sx L m=[])→(∀m,L.length≤m+1→xt sy L m=[])→(∀m,m+1<L.length→xt sx L m≠[]∨xt sy L m≠[])→(∀m,0<m→m+1<L.length→gt L m≠[])→aC7 L:=by
  intro L
  induction L with
  |nil=>intros;trivial
  |cons s r g=>
   intro b c d e
   cases r with
   |nil=>exact ⟨b 0 (bG _),c 0 (bG _)⟩
   |cons t r=>
    refine ⟨d 0 (by simp),fun h=>?_,g (fun m a=>?_) (fun m a=>?_) (fun m a=>?_) (fun m h0 a=>?_)⟩
    ·cases r with
     |nil=>exact ⟨b 1 (bG _),c 1 (bG _)⟩
     |cons u r=>exact absurd h (e 1 (by simp) (by simp))
    ·have:=b (m+1) (by simp at a⊢;exact aS Mj a);rwa[rR]at this
    ·have:=c (m+1) (by simp at a⊢;exact aS Mj a);rwa[rR]at this
    ·have:=d (m+1) (by simp at a⊢;exact aS W9 a);rwa[rR,rR]at this
    ·have:=e (m+1) (aS 0x231520e0301) (by simp at a⊢;exact aS W9 a);rwa[tZ]at this
 exact f L k.x.fin k.y.fin k.ne k.gn
theorem chL{Z:Int→Prop}(k:J9 Z L):wL (fl sx L) (fl sy L) (ops (fl sx L) (fl sy L)) 0 0 aF:=by rw [aJp k];exact χ L [] [] aF (aLk k) k.c3 rfl rfl (by simp) (by simp)
theorem aJl{Z:Int→Prop}(k:J9 Z L)(side:Nat):eU (fl sy L) side (ops (fl sx L) (fl sy L))=rwG side 0 L:=by rw [aJp k];exact Wt side L 0 [] rfl
theorem aJh{Z:Int→Prop}(k:J9 Z L)(la:(fl sx L).length<200)(lb:(fl sy L).length<200)(a:L.length<64):tO (fl sx L) (fl sy L)where
 la:=la
 lb:=lb
 few:=by refine (?_:(J5 _ _ ((fl sx L).length-0) 0 _ 0 _).length<64);simp only [Nat.sub_zero,Lc k.al];have:=aCv L 0 0;exact aS 0xe31563070a40156307002 a this
 ch:=chL k
noncomputable def Jn(a b:Nat):bH→List eX→List Sg
 |cur,[]=>[(cur,[],[])]
 |cur,s::r=>if fR s a=fR s b then Jn a b (cur++s.1++frm s a) r else (cur++s.1,frm s a,frm s b)::Jn a b [] r
theorem uO:Jn a b cur []=([(cur,[],[])]):=rfl
theorem uN:Jn a b cur (s::r)=(if fR s a=fR s b then Jn a b (cur++s.1++frm s a) r else (cur++s.1,frm s a,frm s b)::Jn a b [] r):=rfl
section
variable{a b:Nat}{Z:Int→Prop}
theorem Ii(h:fR s a=fR s b):frm s a=frm s b:=by unfold fR at h;unfold frm;rw [h]
theorem mB(s:eX)(r:List eX)(v:Nat):eZ (s::r) v=s.1++frm s v++eZ r v:=by rfl
theorem Z9:∀(c:List eX)(cur:bH),fl sx (Jn a b cur c)=cur++eZ c a:=by
 intro e
 induction e with
 |nil=>intro cur;simp [uO,uN,fl,sx,eZ]
 |cons s r d=>
  intro cur;simp only [uO,uN];split
  ·simp only [d,mB];simp
  ·rw [pT,d,mB];simp [sx]
theorem Z8:∀(c:List eX)(cur:bH),fl sy (Jn a b cur c)=cur++eZ c b:=by
 intro e
 induction e with
 |nil=>intro cur;simp [uO,uN,fl,sy,eZ]
 |cons s r d=>
  intro cur;simp only [uO,uN];split
  ·rename_i h;simp only [d,mB,Ii h];simp
  ·rw [pT,d,mB];simp [sy]
theorem Ω:∀(c:List eX)(cur:bH),(Jn a b cur c).length≤c.length+1:=by
 intro e
 induction e with
 |nil=>intro cur;exact bG _
 |cons s r d=>
  intro cur;simp only [uO,uN];split
  ·have:=d (cur++s.1++frm s a);simp only [cQ];exact aS aGp this
  ·have:=d [];rw [cQ,cQ];exact aS 0xc62941d070a0e04a0e1002 this
def Ū(a b side:Nat):Nat→List eX→List vH
 |_,[]=>[]
 |i,s::r=>(if fR s b=fR s a then[]else[(i+s.1.length,i+s.1.length+(frm s a).length,side,oL (frm s a) (frm s b),frm s b)])++Ū a b side (i+s.1.length+(frm s a).length) r
theorem aFw:Ū a b side c []=([]):=rfl
theorem aFv:Ū a b side i (s::r)=((if fR s b=fR s a then[]else[(i+s.1.length,i+s.1.length+(frm s a).length,side,oL (frm s a) (frm s b),frm s b)])++Ū a b side (i+s.1.length+(frm s a).length) r):=rfl
theorem ι(side:Nat):∀(c:List eX)(cur:bH)(i:Nat),(∀s∈c,fR s a≠fR s b→frm s a≠[]∨frm s b≠[])→rwG side i (Jn a b cur c)=Ū a b side (i+cur.length) c:=by
 intro g
 induction g with
 |nil=>intro cur i _;rfl
 |cons s r d=>
  intro cur i h;have f:∀s∈r,fR s a≠fR s b→frm s a≠[]∨frm s b≠[]:=fun u j=>h u (bB _ j);simp only [uO,uN,aFw,aFv];by_cases q:fR s a=fR s b
  ·rw [if_pos q,if_pos q.symm,d _ _ f,hG]
   congr 1;simp;exact aS 0x18c5681a0480810840c41004
  ·rw [if_neg q,if_neg fun e=>q e.symm];show (if frm s a=[]∧frm s b=[]then[]else _)++rwG side _ (Jn a b [] r)=_;have:¬(frm s a=[]∧frm s b=[]):=fun e=>by
    rcases h s (aU ..) q with q|q
    ·exact q e.1
    ·exact q e.2
   rw [if_neg this,d _ _ f];simp only [bK,gI,qF,←eN,X7]
def NZ(Z:Int→Prop)(l:bH):Prop:=∀i i',i<l.length→i'<l.length→l.getD i 0=l.getD i' 0→¬Z (l.getD i 0)→i=i'
theorem El{l l':bH}{i:Nat}(h:i<l.length):(l++l').getD i 0=l.getD i 0:=by rw [aP,qH h,←aP]
theorem Ek{l l':bH}{i:Nat}(h:l.length≤i):(l++l').getD i 0=l'.getD (i-l.length) 0:=by rw [aP,pC h,←aP]
theorem zR{l:bH}{i:Nat}(h:i<l.length):l.getD i 0∈l:=by simp only [aP,bJ h];exact kW h
theorem NZ.app{l l':bH}(h:NZ Z l)(h':NZ Z l')(d:∀v∈l,v∈l'→Z v):NZ Z (l++l'):=fun i f hi g e z=>by
 simp only [bK]at hi g;by_cases q:i<l.length
 ·rw [El q]at e z;by_cases c:f<l.length
  ·rw [El c]at e;exact h i f q c e z
  ·rw [Ek (by exact aS ñ c)]at e;exact absurd (d _ (zR q) (by simp only [e];exact zR (aS aGw g c))) z
 ·rw [Ek (by exact aS ñ q)]at e z;by_cases c:f<l.length
  ·rw [El c]at e;exact absurd (d _ (by rw [e];exact zR c) (zR (by exact aS aGw hi q))) z
  ·rw [Ek (by exact aS ñ c)]at e;have:=h' _ _ (by exact aS aGw hi q) (by exact aS 0x365462a201d25086a41041520821ccc1004 hi g q) e z;exact aS 0x821042084101102211194518ac825802e928647494314cc21ccc1003 q c this
theorem NZ.nil:NZ Z []:=fun i c hi=>absurd hi (kI _)
noncomputable def fm(s:eX)(c:Nat):bH:=s.2.1.getD c []
def Tkn(s:eX)(v:Int):Prop:=v∈s.1∨∃c,v∈fm s c
theorem F3(h:v∈frm s x):Tkn s v:=.inr ⟨_,h⟩
structure Yj(Z:Int→Prop)(lo hi:Int)(s:eX):Prop where
 own:∀v,Tkn s v→¬Z v→lo≤v∧v<hi
 nz:∀c,NZ Z (s.1++fm s c)
 dis:∀c c',c≠c'→∀v∈fm s c,v∉fm s c'
 ne:∀c c',c<3→c'<3→c≠c'→fm s c≠[]∨fm s c'≠[]
 hd:∀c,fm s c≠[]→¬Z ((fm s c).getD 0 0)
structure SpR(Z:Int→Prop)(s:eX):Prop where
 lst:∀c,fm s c≠[]→¬Z ((fm s c).getD ((fm s c).length-1) 0)
 zz:(∃v,Z v)→∀c,c<3→fm s c≠[]∧∀t,t+1<(fm s c).length→¬(Z ((fm s c).getD t 0)∧Z ((fm s c).getD (t+1) 0))
def Dq(Z:Int→Prop):Int→List eX→Prop
 |_,[]=>True
 |n,s::r=>match r with
  |[]=>Yj Z (-5) 0 s
  |t::_=>Yj Z (8*n) (8*n+8) s∧SpR Z s∧t.1≠[]∧((∃v,Z v)→2≤t.1.length)∧Dq Z (n+1) r
theorem N3{Z:Int→Prop}:Dq Z c []=(True):=rfl
theorem N2{Z:Int→Prop}:Dq Z n (s::r)=(match r with
 |[]=>Yj Z (-5) 0 s
 |t::_=>Yj Z (8*n) (8*n+8) s∧SpR Z s∧t.1≠[]∧((∃v,Z v)→2≤t.1.length)∧Dq Z (n+1) r):=rfl
theorem Dq.spc(h:Dq Z n (s::r)):∃lo hi,Yj Z lo hi s:=by
 simp only [N3,N2]at h;split at h
 ·exact ⟨_,_,h⟩
 ·exact ⟨_,_,h.1⟩
theorem Dq.tail(h:Dq Z n (s::r)):Dq Z (n+1) r:=by
 simp only [N3,N2]at h;split at h
 ·trivial
 ·exact h.2.2.2.2
theorem Dq.mem:∀{d:List eX}{n:Int},Dq Z n d→∀s∈d,∃lo hi,Yj Z lo hi s
 |u::r,n,h,s,c=>by
  rcases aR.mp c with e|c
  ·subst e;exact h.spc
  ·exact h.tail.mem s c
theorem Dq.tok:∀{g:List eX}{n:Int},Dq Z n g→∀s∈g,∀v,Tkn s v→¬Z v→8*n≤v∨v<0
 |u::r,n,h,s,c,v,d,f=>by
  rcases aR.mp c with e|c
  ·subst e;simp only [N3,N2]at h;split at h
   ·exact .inr (h.own v d f).2
   ·exact .inl (h.1.own v d f).1
  ·have:=h.tail.tok s c v d f;exact aS 0xb862db19070d830060edb19070d83041c183a0 this
theorem Dq.first(h0:0≤n)(h:Dq Z n (s::r))(c:t∈r)(e:Tkn s v)(f:Tkn t v):Z v:=eH fun d=>by
 have q:=h.tail.tok t c v f d;simp only [N3,N2]at h;split at h
 ·cases c
 ·have:=h.1.own v e d;exact aS 0x8110010148c996460f0060e8386c1803076d8c8386c1820e0c1ec0320 h0 q this
theorem Dq.same:∀{c:List eX}{n:Int},0≤n→Dq Z n c→∀s∈c,∀t∈c,∀v,Tkn s v→Tkn t v→¬Z v→s=t
 |u::r,n,h0,h,s,l,t,j,v,d,f,g=>by
  rcases aR.mp l with e|k
  ·rcases aR.mp j with i|pt
   ·exact e.trans i.symm
   ·subst e;exact absurd (h.first h0 pt d f) g
  ·rcases aR.mp j with i|pt
   ·subst i;exact absurd (h.first h0 k f d) g
   ·exact h.tail.same (aS 0x318d90701ac0310 h0) s k t pt v d f g
theorem Γ(h:v∈eZ d x):∃s∈d,Tkn s v:=by
 unfold eZ at h;obtain ⟨s,c,h⟩:=List.mem_flatMap.mp h;rcases cV.mp h with h|h
 ·exact ⟨s,c,.inl h⟩
 ·exact ⟨s,c,F3 h⟩
theorem Dq.nz:∀{f:List eX}{n:Int},0≤n→Dq Z n f→NZ Z (eZ f x)
 |[],_,_,_=>NZ.nil
 |s::r,n,h0,h=>by
  rw [mB];obtain ⟨lo,hi,c⟩:=h.spc;refine NZ.app (c.nz _) (h.tail.nz (aS 0x318d90701ac0310 h0)) fun v d e=>?_;obtain ⟨t,g,e⟩:=Γ e;refine h.first h0 g ?_ e;rcases cV.mp d with d|d
  ·exact .inl d
  ·exact F3 d
structure Pst(Z:Int→Prop)(s t:Sg):Prop where
 ne:s.2.1≠[]∨s.2.2≠[]
 gn:t.1=[]→t.2.1=[]∧t.2.2=[]
 hx:s.2.1≠[]→¬Z (s.2.1.getD 0 0)
 hy:s.2.2≠[]→¬Z (s.2.2.getD 0 0)
 lx:t.1≠[]→s.2.1≠[]→¬Z (s.2.1.getD (s.2.1.length-1) 0)
 ly:t.1≠[]→s.2.2≠[]→¬Z (s.2.2.getD (s.2.2.length-1) 0)
 zx:(∃v,Z v)→t.1≠[]→s.2.1≠[]∧∀t,t+1<s.2.1.length→¬(Z (s.2.1.getD t 0)∧Z (s.2.1.getD (t+1) 0))
 zy:(∃v,Z v)→t.1≠[]→s.2.2≠[]∧∀t,t+1<s.2.2.length→¬(Z (s.2.2.getD t 0)∧Z (s.2.2.getD (t+1) 0))
def Adj(Z:Int→Prop):List Sg→Prop
 |[]=>True
 |s::r=>match r with
  |[]=>s.2.1=[]∧s.2.2=[]
  |t::_=>Pst Z s t∧Adj Z r
theorem Adj.at:∀{L:List Sg},Adj Z L→∀m,m+1<L.length→Pst Z (L.getD m G3) (L.getD (m+1) G3)
 |[s],_,m,c=>by simp at c
 |s::t::r,h,0,c=>h.1
 |s::t::r,h,m+1,c=>Adj.at (L:=t::r) h.2 m (by simp at c⊢;omega)
theorem Adj.end:∀{L:List Sg},Adj Z L→∀m,L.length≤m+1→(L.getD m G3).2.1=[]∧(L.getD m G3).2.2=[]
 |[],_,m,c=>⟨rfl,rfl⟩
 |[s],h,0,c=>h
 |[s],h,m+1,c=>⟨rfl,rfl⟩
 |s::t::r,h,0,c=>by simp at c
 |s::t::r,h,m+1,c=>Adj.end (L:=t::r) h.2 m (by simp at c⊢;omega)
theorem aGh(ad:Adj Z L)(nx:NZ Z (fl sx L))(e:NZ Z (fl sy L))(c2:∀s∈L,∀f∈L,∀v∈s.2.1,v∈f.2.2→Z v)(c3:Fit L)(two:(∃v,Z v)→∀s∈L,s.1≠[]→2≤s.1.length):J9 Z L where
 x:={
  h0:=rfl
  n:=nx
  fin:=fun m c=>(ad.end m c).1
  hd:=fun m c=>by
   by_cases q:m+1<L.length
   ·exact (ad.at m q).hx c
   ·exact absurd (ad.end m (aS aDz q)).1 c
  lst:=fun m d c=>(ad.at m (yT d)).lx d c
  zz:=fun z m d=>(ad.at m (yT d)).zx z d}
 y:={
  h0:=rfl
  n:=e
  fin:=fun m c=>(ad.end m c).2
  hd:=fun m c=>by
   by_cases q:m+1<L.length
   ·exact (ad.at m q).hy c
   ·exact absurd (ad.end m (aS aDz q)).2 c
  lst:=fun m d c=>(ad.at m (yT d)).ly d c
  zz:=fun z m d=>(ad.at m (yT d)).zy z d}
 c2:=c2
 c3:=c3
 ne:=fun m c=>(ad.at m c).ne
 gn:=fun m h0 c d=>by
  obtain ⟨p,rfl⟩:∃p,m=p+1:=⟨m-1,aS 0x8c92518ad070054134cc7001 h0⟩;obtain ⟨g,h⟩:=(ad.at p (aS 0x318a8283814141d07002 c)).gn d;rcases (ad.at (p+1) c).ne with q|q
  ·exact q g
  ·exact q h
 two:=fun z m d=>two z _ (Nw (yT d)) d
theorem Á:∀(r:List eX)(cur:bH),∃t c,Jn a b cur r=t::c∧(r=[]→t=(cur,[],[]))∧(cur≠[]→t.1≠[])∧(∀u d,r=u::d→u.1≠[]→t.1≠[]):=by
 intro j
 induction j with
 |nil=>intro cur;exact ⟨_,_,rfl,fun _=>rfl,fun h=>h,fun _ _ e=>by cases e⟩
 |cons s r k=>
  intro cur;simp only [uO,uN];split
  ·obtain ⟨t,c,e,l,i,m⟩:=k (cur++s.1++frm s a);refine ⟨t,c,e,(fun e=>by cases e),(fun f=>i (by simp [f])),fun u d e g=>?_⟩;cases e;exact i (by simp [g])
  ·refine ⟨_,_,rfl,(fun e=>by cases e),(fun f=>by simp [f]),fun u d e g=>?_⟩;cases e;simp [g]
theorem ε:∀(g:List eX)(cur:bH)(n:Int),Dq Z n g→(∀s∈g,fR s a<3∧fR s b<3)→Adj Z (Jn a b cur g):=by
 intro o
 induction o with
 |nil=>intro cur n _ _;exact ⟨rfl,rfl⟩
 |cons s r d=>
  intro cur n h l;have m:∀s∈r,fR s a<3∧fR s b<3:=fun u i=>l u (bB _ i);obtain ⟨j,k⟩:=l s (aU ..);simp only [uO,uN];split
  ·exact d _ _ h.tail m
  ·rename_i q;have d:=d [] _ h.tail m;obtain ⟨t,B,e,p,_,v⟩:=Á (a:=a) (b:=b) r [];rw [e]at d⊢;obtain ⟨lo,hi,c⟩:=h.spc;refine ⟨?_,d⟩
   cases r with
   |nil=>have x:=p rfl;subst x;exact ⟨c.ne _ _ j k q,fun _=>⟨rfl,rfl⟩,c.hd _,c.hd _,fun z=>absurd rfl z,fun z=>absurd rfl z,fun _ z=>absurd rfl z,fun _ z=>absurd rfl z⟩
   |cons u y=>obtain ⟨_,f,i,_,_⟩:=h;have A:=v u y rfl i;exact ⟨c.ne _ _ j k q,fun z=>absurd z A,c.hd _,c.hd _,fun _=>f.lst _,fun _=>f.lst _,fun z _=>f.zz z _ j,fun z _=>f.zz z _ k⟩
theorem Lz:∀(f:List eX)(cur:bH),∀t∈Jn a b cur f,(t.2.1=[]∧t.2.2=[])∨∃s∈f,fR s a≠fR s b∧t.2.1=frm s a∧t.2.2=frm s b:=by
 intro g
 induction g with
 |nil=>intro cur t c;rw [show Jn a b cur []=[(cur,[],[])]from rfl,aM]at c;subst c;exact .inl ⟨rfl,rfl⟩
 |cons s r i=>
  intro cur t c;have up:∀cur,t∈Jn a b cur r→(t.2.1=[]∧t.2.2=[])∨∃d∈s::r,fR d a≠fR d b∧t.2.1=frm d a∧t.2.2=frm d b:=fun cur h=>by
   rcases i cur t h with q|⟨u,j,q⟩
   ·exact .inl q
   ·exact .inr ⟨u,bB _ j,q⟩
  simp only [uO,uN]at c;split at c
  ·exact up _ c
  ·rename_i q;rcases aR.mp c with e|c
   ·subst e;exact .inr ⟨s,aU ..,q,rfl,rfl⟩
   ·exact up _ c
theorem Ub:∀(f:List eX)(cur:bH),(∀s∈f,2≤s.1.length)→(f=[]→cur=[]∨2≤cur.length)→∀t∈Jn a b cur f,t.1≠[]→2≤t.1.length:=by
 intro l
 induction l with
 |nil=>
  intro cur _ h t c d;simp only [show Jn a b cur []=[(cur,[],[])]from rfl,aM]at c;subst c;rcases h rfl with q|q
  ·exact absurd q d
  ·exact q
 |cons s r g=>
  intro cur i h t c d;have j:∀s∈r,2≤s.1.length:=fun u m=>i u (bB _ m);have k:=i s (aU ..);simp only [uO,uN]at c;split at c
  ·exact g _ j (fun _=>.inr (by simp;exact aS 0x318a5081003a3241a303 k)) t c d
  ·rcases aR.mp c with e|c
   ·subst e;simp;exact aS 0xc6294003a3241a302 k
   ·exact g [] j (fun _=>.inl rfl) t c d
theorem À(h0:s.1=[]∨2≤s.1.length)(f:∀s∈r,2≤s.1.length)(g:r≠[]):∀t∈Jn a b [] (s::r),t.1≠[]→2≤t.1.length:=fun t c d=>by
 simp only [uO,uN]at c;split at c
 ·exact Ub r _ f (fun e=>absurd e g) t c d
 ·rcases aR.mp c with e|c
  ·subst e;rcases h0 with q|q
   ·exact absurd q d
   ·exact q
  ·exact Ub r [] f (fun _=>.inl rfl) t c d
theorem Dq.len2:∀{r:List eX}{n:Int}{s:eX},Dq Z n (s::r)→(∃v,Z v)→∀t∈r,2≤t.1.length:=by
 intro f
 induction f with
 |nil=>intros;first|contradiction|(rename_i h;cases h;done)
 |cons u r c=>
  intro n;intro s;intro h;intro z;intro t;intro d;rcases aR.mp d with e|d
  ·subst e;exact h.2.2.2.1 z
  ·exact c h.tail z t d
theorem Dq.pc:∀{r:List eX}{n:Int}{s:eX},Dq Z n (s::r)→∀t∈r,t.1≠[]:=by
 intro f
 induction f with
 |nil=>intros;first|contradiction|(rename_i h;cases h;done)
 |cons u r c=>
  intro n;intro s;intro h;intro t;intro d;rcases aR.mp d with e|d
  ·subst e;exact h.2.2.1
  ·exact c h.tail t d
theorem aFr(h0:0≤n)(h:Dq Z n (s::r))(m:∀u∈s::r,fR u a<3∧fR u b<3)(o:(∃v,Z v)→s.1=[]∨2≤s.1.length)(p:r≠[]):J9 Z (Jn a b [] (s::r)):=by
 refine aGh (ε _ _ n h m) (by rw [Z9];exact h.nz h0) (by rw [Z8];exact h.nz h0) (fun t i x y v e f=>?_) (fun t i v e f=>?_) fun z=>À (o z) (h.len2 z) p
 ·rcases Lz _ _ t i with q|⟨u,g,d,j,l⟩
  ·replace e:=q.1▸e;cases e
  ·rcases Lz _ _ x y with q|⟨A,B,F,C,k⟩
   ·replace f:=q.2▸f;cases f
   ·replace e:=j▸e;replace f:=k▸f;refine eH fun D=>?_;have:=h.same h0 u g A B v (F3 e) (F3 f) D;subst this;obtain ⟨lo,hi,c⟩:=h.mem u g;exact c.dis _ _ d v e f
 ·rcases Lz _ _ t i with q|⟨u,g,d,j,l⟩
  ·replace e:=q.1▸e;cases e
  ·rw [j]at e;rw [l]at f;obtain ⟨lo,hi,c⟩:=h.mem u g;exact c.dis _ _ d v e f
end
section
variable{Z:Int→Prop}{r s t:Nat}
def pZ(r v side i:Nat)(u:eX):List vH:=if fR u v=fR u r then[]else[(i+u.1.length,i+u.1.length+(frm u r).length,side,oL (frm u r) (frm u v),frm u v)]
def Je(r s t:Nat):Nat→List eX→List vH
 |_,[]=>[]
 |i,u::q=>pZ r s 0 i u++(pZ r t 1 i u++Je r s t (i+u.1.length+(frm u r).length) q)
theorem Ã:Je r s t a []=([]):=rfl
theorem Â:Je r s t i (u::q)=(pZ r s 0 i u++(pZ r t 1 i u++Je r s t (i+u.1.length+(frm u r).length) q)):=rfl
theorem Ä:∀(a:List eX)(i:Nat),(Ū r s 0 i a++Ū r t 1 i a).Perm (Je r s t i a):=by
 intro b
 induction b with
 |nil=>intro i;exact .refl _
 |cons u q c=>intro i;refine (?_:((pZ r s 0 i u++Ū r s 0 (i+u.1.length+(frm u r).length) q)++(pZ r t 1 i u++Ū r t 1 (i+u.1.length+(frm u r).length) q)).Perm _);simp only [iJ];refine Og _ ?_;refine (List.perm_append_comm_assoc _ _ _).trans (Og _ (c _))
theorem qM(h:x∈pZ r v side i u):x=(i+u.1.length,i+u.1.length+(frm u r).length,side,oL (frm u r) (frm u v),frm u v):=by
 unfold pZ at h;split at h
 ·cases h
 ·exact aM.mp h
theorem η:∀(a:List eX)(i:Nat)(x:vH),x∈Je r s t i a→i≤x.1:=by
 intro b
 induction b with
 |nil=>intros;first|contradiction|(rename_i h;cases h;done)
 |cons u q c=>
  intro i;intro x;intro h;rcases cV.mp h with h|h
  ·rw [qM h];simp only;exact aS W7
  ·rcases cV.mp h with h|h
   ·rw [qM h];simp only;exact aS W7
   ·have:=c _ x h;exact aS 0xc6291812340901004 this
theorem Å:∀(b:List eX)(i:Nat),(∀u∈b,u.1≠[])→∀x∈Je r s t i b,i<x.1:=by
 intro c
 induction c with
 |nil=>intros;first|contradiction|(rename_i h;cases h;done)
 |cons u q e=>
  intro i;intro d;intro x;intro h;have a:=fS.mpr (d u (aU ..));rcases cV.mp h with h|h
  ·rw [qM h];simp only;exact aS 0x318a90008540302 a
  ·rcases cV.mp h with h|h
   ·rw [qM h];simp only;exact aS 0x318a90008540302 a
   ·have:=η q _ x h;exact aS 0xe3150c291a04800540304 a this
theorem Rp:∀(b:List eX)(i:Nat),(∀u∈b.tail,u.1≠[])→(Je r s t i b).Pairwise zM:=by
 intro d
 induction d with
 |nil=>intro i _;exact .nil
 |cons u q a=>
  intro i e;have c:=e;have a:=a (i+u.1.length+(frm u r).length) (fun w hw=>c w (Y4 hw));have lt:=Å (r:=r) (s:=s) (t:=t) q (i+u.1.length+(frm u r).length) c;have one:∀v side,(pZ r v side i u).Pairwise zM:=fun v side=>by
   unfold pZ;split
   ·exact .nil
   ·exact Tp _ _
  refine lZ.mpr ⟨one _ _,lZ.mpr ⟨one _ _,a,fun x hx y hy=>?_⟩,fun x hx y hy=>?_⟩
  ·rw [qM hx];have:=lt y hy;refine .inl ?_;simp only;exact aS aDy this
  ·rw [qM hx];rcases cV.mp hy with hy|hy
   ·rw [qM hy];exact .inr ⟨rfl,.inr ⟨rfl,by simp only;exact aS U0⟩⟩
   ·have:=lt y hy;refine .inl ?_;simp only;exact aS aDy this
theorem θ:∀(b:List eX)(i:Nat),(Je r s t i b).length≤2*b.length:=by
 intro c
 induction c with
 |nil=>intro i;exact bG _
 |cons u q a=>
  intro i;have a:=a (i+u.1.length+(frm u r).length);have one:∀v side,(pZ r v side i u).length≤1:=fun v side=>by unfold pZ;split<;>simp
  have d:=one s 0;have e:=one t 1;simp only [Ã,Â];simp only [bK,bK,cQ];exact aS 0xf18a6083874642003124e349c4980746004 a d e
theorem aFx:∀(b:List eX)(i:Nat),i+(eZ b r).length<200→(∀u∈b,(frm u s).length<200∧(frm u t).length<200)→∀x∈Je r s t i b,I1 x:=by
 intro d
 induction d with
 |nil=>intros;first|contradiction|(rename_i h;cases h;done)
 |cons u q e=>
  intro i;intro a;intro c;intro x;intro h;simp only [mB,bK,bK]at a;obtain ⟨f,g⟩:=c u (aU ..);rcases cV.mp h with h|h
  ·rw [qM h];exact ⟨by simp only;exact aS Ml,by simp only;exact aS aKu a,.inl rfl,by simp only;exact aS aGo f⟩
  ·rcases cV.mp h with h|h
   ·rw [qM h];exact ⟨by simp only;exact aS Ml,by simp only;exact aS aKu a,.inr rfl,by simp only;exact aS aGo g⟩
   ·exact e _ (aS 0x318ab19d99034090102b19d99081a041004 a) (fun w hw=>c w (bB _ hw)) x h
theorem Nb{lo hi:Int}(c:Yj Z lo hi u){x y:Nat}(hx:fR u x<3)(hy:fR u y<3):frm u x=frm u y↔fR u x=fR u y:=by
 refine ⟨fun e=>eH fun n=>?_,Ii⟩;have b:=e;have d:∀l:bH,fm u (fR u x)=l→fm u (fR u y)=l→l≠[]→False:=fun l f g h=>by obtain ⟨a,l',rfl⟩:=wQ h;exact c.dis _ _ n a (by rw [f];exact aU ..) (by rw [g];exact aU ..)
 rcases c.ne _ _ hx hy n with q|q
 ·exact d _ rfl b.symm q
 ·exact d _ b rfl q
theorem Ke{lo hi:Int}(c:Yj Z lo hi u)(g:fR u r<3)(i:fR u s<3)(j:fR u t<3):tQ (frm u r) (frm u s) (frm u t)=uB u r s t:=by
 have a:∀n:Nat,((n:Int)).toNat=n:=fun n=>eL n;have nn:∀n:Nat,¬((n:Int)<0):=fun n=>by simp
 unfold tQ uB oF;have k:(frm u s=frm u t∨frm u t=frm u r)↔(fR u s=fR u t∨fR u t=fR u r):=by simp only [Nb c i j,Nb c j g]
 have l:=Nb c i g;by_cases b:fR u s=fR u t∨fR u t=fR u r
 ·have e:(fR u s:Int)=(fR u t:Int)∨(fR u t:Int)=(fR u r:Int):=aS 0x165659aa862dbd4550dea1a81ab10561003 b;rw [if_pos (k.mpr b),if_pos e,if_neg (nn _),a];rfl
 ·have e:¬((fR u s:Int)=(fR u t:Int)∨(fR u t:Int)=(fR u r:Int)):=aS 0x165a569a862e936f515437a86a0749ab10561003 b;rw [if_neg (fun h=>b (k.mp h)),if_neg e];by_cases d:fR u s=fR u r
  ·have f:(fR u s:Int)=(fR u r:Int):=aS 0x1d18dea1a8161002 d;rw [if_pos (l.mpr d),if_pos f,if_neg (nn _),a];rfl
  ·have f:¬(fR u s:Int)=(fR u r:Int):=aS 0x2e18ba57a86a074961002 d;rw [if_neg (fun h=>d (l.mp h)),if_neg f,if_pos (by decide)]
theorem zK(A:bH)(a:Nat):pB A a a=[]:=by unfold pB;simp
theorem G2(d:a≤b)(e:b≤c):pB A a c=pB A a b++pB A b c:=by unfold pB;simp only [show c-a=(b-a)+(c-b) by exact aS 0x4409220820804404440309220809262289a562896522892315a00112465324a624cc414cc21ccc1003 d e,List.take_add,List.drop_drop,show a+(b-a)=b by exact aS 0x948a918ac280092114cc1002 d]
theorem Ė:∀{rows:List vH},(∀x∈rows,g.high<x.1)→wY A rows g=(g,rows):=by
 intro a
 induction a with
 |nil=>intro _;exact rfl
 |cons x r b=>intro h;simp only [Hz,Hy];rw [if_neg (by have:=h x (aU ..);exact aS 0x318ba4900541002 this)]
noncomputable def gw(u:eX)(r v:Nat):bH:=if fR u v=fR u r then[]else frm u v
noncomputable def gr(u:eX)(r v i:Nat):Nat:=if fR u v=fR u r then i+u.1.length else i+u.1.length+(frm u r).length
def Ud(u:eX)(r v:Nat):bH:=if oL (frm u r) (frm u v)=.delete then[]else frm u v
theorem Oz:Ud u r v=frm u v:=by
 unfold Ud oL;by_cases a:frm u r=[]
 ·simp [a]
 ·by_cases b:frm u v=[]
  ·simp [a,b]
  ·simp [a,b]
theorem O0:Bi (i+u.1.length,i+u.1.length+(frm u r).length,side,oL (frm u r) (frm u v),frm u v)=i+u.1.length+(frm u r).length:=by
 unfold Bi oL;by_cases a:frm u r=[]
 ·simp [a]
 ·by_cases b:frm u v=[]
  ·simp [a,b]
  ·simp [a,b]
theorem ė(e:pZ r s 0 i u++(pZ r t 1 i u++rest)=x::rows)(f:¬(fR u s=fR u r∧fR u t=fR u r))(k:∀y∈rest,i+u.1.length+(frm u r).length<y.1):
  x.1=i+u.1.length∧nO A x rows=(⟨i+u.1.length+(frm u r).length,iO u r s,iO u r t,gw u r s,gw u r t,gr u r s i,gr u r t i⟩,rest):=by
 have c:x.1=i+u.1.length∧x.2.1=i+u.1.length+(frm u r).length:=by
  have hx:x∈pZ r s 0 i u++(pZ r t 1 i u++rest):=by rw [e];exact aU ..
  unfold pZ at e;by_cases a:fR u s=fR u r
  ·have b:¬fR u t=fR u r:=fun h=>f ⟨a,h⟩;rw [if_pos a,if_neg b]at e;cases e;exact ⟨rfl,rfl⟩
  ·rw [if_neg a]at e;cases e;exact ⟨rfl,rfl⟩
 refine ⟨c.1,?_⟩;unfold nO;rw [←e];have l:Sq x=⟨i+u.1.length+(frm u r).length,[],[],[],[],i+u.1.length,i+u.1.length⟩:=by unfold Sq;rw [c.1,c.2]
 rw [l];have j:∀n:Nat,max n n=n:=fun n=>Nat.max_self n;have st:∀g:Lg,g.high=i+u.1.length+(frm u r).length→wY A rest g=(g,rest):=fun g h=>Ė (by rw [h];exact k);have a0:∀g:Lg,g.high=i+u.1.length+(frm u r).length→g.r0=i+u.1.length→g.add A (i+u.1.length,i+u.1.length+(frm u r).length,0,oL (frm u r) (frm u s),frm u s)={g with w0:=g.w0++[oL (frm u r) (frm u s)],y0:=g.y0++frm u s,r0:=i+u.1.length+(frm u r).length}:=fun g a b=>by unfold Lg.add;rw [if_pos rfl,O0];unfold rC;rw [b,zK,a,j,hG];have:=Oz (u:=u) (r:=r) (v:=s);unfold Ud at this;rw [this,←a]
 have a1:∀g:Lg,g.high=i+u.1.length+(frm u r).length→g.r1=i+u.1.length→g.add A (i+u.1.length,i+u.1.length+(frm u r).length,1,oL (frm u r) (frm u t),frm u t)={g with w1:=g.w1++[oL (frm u r) (frm u t)],y1:=g.y1++frm u t,r1:=i+u.1.length+(frm u r).length}:=fun g a b=>by unfold Lg.add;rw [if_neg (by decide:¬((1:Nat)=0)),O0];unfold rC;rw [b,zK,a,j,hG];have:=Oz (u:=u) (r:=r) (v:=t);unfold Ud at this;rw [this,←a]
 have step:∀(g:Lg)(row:vH)(d:List vH),row.1≤g.high→wY A (row::d) g=wY A d (g.add A row):=fun g row d h=>by show (if row.1≤g.high then _ else _)=_;rw [if_pos h]
 unfold pZ iO gw gr;by_cases a:fR u s=fR u r
 ·by_cases b:fR u t=fR u r
  ·exact absurd ⟨a,b⟩ f
  ·simp only [if_pos a,if_neg b,hG,oO];rw [step _ _ _ (by simp only;exact aS Ml),a1 _ rfl rfl,st _ rfl];rfl
 ·by_cases b:fR u t=fR u r
  ·simp only [if_neg a,if_pos b,hG,oO];rw [step _ _ _ (by simp only;exact aS Ml),a0 _ rfl rfl,st _ rfl];rfl
  ·simp only [if_neg a,if_neg b,oO];rw [step _ _ _ (by simp only;exact aS Ml),a0 _ rfl rfl,step _ _ _ (by simp only;exact aS Ml),a1 _ rfl rfl,st _ rfl];rfl
theorem W1(A:bH)(f dn:Nat)(t:List kZ)(m:List qD):yS A f [] dn t m=(t,m++(A.drop dn).map .i):=by cases f<;>rfl
theorem aAn{A:bH}:∀(d:List eX)(Yz:bH)(i dn f:Nat)(told:List kZ)(mg:List qD),A=Yz++eZ d r→i=Yz.length→dn≤i→(Je r s t i d).length≤f→(∀u∈d,(∃lo hi,Yj Z lo hi u)∧fR u r<3∧fR u s<3∧fR u t<3)→(∀u∈d.tail,u.1≠[])→
  yS A f (Je r s t i d) dn told mg=Bl r s t d i told (mg++(pB A dn i).map .i):=by
 intro L
 induction L with
 |nil=>intro Yz i dn f told mg g hi hd b n o;simp only [Ã,Â,P5,P4];rw [W1];have:eZ [] r=[]:=rfl;simp only [this,eO]at g;unfold pB;rw [nV (by rw [tW,g,hi];exact aS 0x8c520001)]
 |cons u q z=>
  intro Yz i dn f told mg g hi hd b n o;obtain ⟨⟨lo,T,c⟩,B,C,st⟩:=n u (aU ..);have D:=fun w hw=>n w (bB u hw);have F:∀w∈q.tail,w.1≠[]:=fun w hw=>o w (Y4 hw);simp only [mB]at g;have m:A=(Yz++u.1++frm u r)++eZ q r:=by simp only [g];simp
  have l2:i+u.1.length+(frm u r).length=(Yz++u.1++frm u r).length:=by refine hi▸?_;simp [eN]
  have G:pB A i (i+u.1.length)=u.1:=by rw [m,hi];rw [show Yz++u.1++frm u r++eZ q r=Yz++u.1++(frm u r++eZ q r) by simp];exact xS Yz u.1 _ rfl rfl
  have p:pB A (i+u.1.length) (i+u.1.length+(frm u r).length)=frm u r:=by rw [m];exact xS (Yz++u.1) (frm u r) _ (by rw [hi];simp) (by rw [hi];simp)
  simp only [P5,P4];by_cases a:fR u s=fR u r∧fR u t=fR u r
  ·have j:iO u r s=[]:=by unfold iO;rw [if_pos a.1]
   have k:iO u r t=[]:=by unfold iO;rw [if_pos a.2]
   rw [if_pos ⟨j,k⟩];have N:Je r s t i (u::q)=Je r s t (i+u.1.length+(frm u r).length) q:=by refine (?_:pZ r s 0 i u++(pZ r t 1 i u++_)=_);unfold pZ;refine (if_pos a.1)▸?_;refine (if_pos a.2)▸?_;rfl
   rw [N]at b⊢;rw [z _ _ dn f told mg m l2 (aS 0xc62940d0208121004 hd) b D F]
   congr 1
   simp only [G2 hd (show i≤i+u.1.length+(frm u r).length by exact aS 0x8c52812020003),G2 (show i≤i+u.1.length by exact aS W7) (show i+u.1.length≤i+u.1.length+(frm u r).length by exact aS Ml),G,p,←Ke c B C st];have:tQ (frm u r) (frm u s) (frm u t)=(frm u r).map .i:=by unfold tQ;rw [Ii a.1,Ii a.2,if_pos (.inl rfl)]
   rw [this];simp
  ·have nn:¬(iO u r s=[]∧iO u r t=[]):=by
    rintro ⟨j,k⟩;unfold iO at j k;refine a ⟨?_,?_⟩
    ·split at j
     ·assumption
     ·cases j
    ·split at k
     ·assumption
     ·cases k
   rw [if_neg nn];have O:∀y∈Je r s t (i+u.1.length+(frm u r).length) q,i+u.1.length+(frm u r).length<y.1:=Å q _ o;obtain ⟨x,rows,e⟩:∃x rows,Je r s t i (u::q)=x::rows:=by
    refine wQ fun h0=>a ?_;have h0:pZ r s 0 i u++(pZ r t 1 i u++_)=[]:=h0;obtain ⟨a1,l⟩:=Wa.mp h0;obtain ⟨l,_⟩:=Wa.mp l;unfold pZ at a1 l;refine ⟨?_,?_⟩
    ·split at a1
     ·assumption
     ·cases a1
    ·split at l
     ·assumption
     ·cases l
   obtain ⟨H,P⟩:=ė (A:=A) (rest:=Je r s t (i+u.1.length+(frm u r).length) q) e a O;rw [e]at b⊢;obtain ⟨f',rfl⟩:∃f',f=f'+1:=⟨f-1,by simp at b;exact aS aKj b⟩;simp only [ä,ã,â];rw [P];simp only;have Q:(Je r s t (i+u.1.length+(frm u r).length) q).length≤f':=by
    have I:=congrArg List.length e;have:(Je r s t i (u::q)).length=(pZ r s 0 i u).length+((pZ r t 1 i u).length+(Je r s t (i+u.1.length+(frm u r).length) q).length):=by show (pZ r s 0 i u++(pZ r t 1 i u++_)).length=_;rw [bK,bK]
    rw [cQ]at b I;have:1≤(pZ r s 0 i u).length+(pZ r t 1 i u).length:=by
     unfold pZ;by_cases J:fR u s=fR u r
     ·rw [if_neg fun h=>a ⟨J,h⟩];simp
     ·rw [if_neg J];simp
    exact aS 0xb631484a64a0833ad082988312d070092838507006 b I ‹_› this
   rw [z _ _ _ f' _ _ m l2 (bG _) Q D F,zK,H]
   congr 1
   have R:Gx A x ⟨i+u.1.length+(frm u r).length,iO u r s,iO u r t,gw u r s,gw u r t,gr u r s i,gr u r t i⟩=uB u r s t:=by
    unfold Gx;rw [H,←Ke c B C st];simp only;have one:∀v,gw u r v++pB A (gr u r v i) (i+u.1.length+(frm u r).length)=frm u v:=fun v=>by
     unfold gw gr;by_cases h:fR u v=fR u r
     ·rw [if_pos h,if_pos h,p,Ii h];rfl
     ·rw [if_neg h,if_neg h,zK,eO]
    rw [one,one,p]
   rw [R,G2 hd (show i≤i+u.1.length by exact aS W7),G];simp
end
structure Ft(Z:Int→Prop)(sp:List eX)(k:Nat):Prop where
 reg:Dq Z 0 sp
 cut:∃s l m,sp=s::(l++[m])∧l.length≤15∧((∃v,Z v)→s.1=[]∨2≤s.1.length)∧(∀u∈s::l,u.1.length≤4∧∀c,(fm u c).length≤3)∧m.1.length≤2∧∀c,(fm m c).length≤64
 three:∀u∈sp,u.2.1.length=3∧u.2.2.length=k∧∀v,fR u v<3
section
variable{Z:Int→Prop}{sp:List eX}{k:Nat}
theorem Zi(l l':List eX)(v:Nat):eZ (l++l') v=eZ l v++eZ l' v:=by simp [eZ]
theorem Ŷ(v:Nat):∀l:List eX,(∀u∈l,u.1.length≤4∧∀c,(fm u c).length≤3)→(eZ l v).length≤7*l.length:=by
 intro b
 induction b with
 |nil=>intro _;exact bG _
 |cons u l a=>intro h;obtain ⟨d,e⟩:=h u (aU ..);have f:=e (fR u v);have a:=a fun w hw=>h w (bB _ hw);simp only [mB,bK,bK,cQ];exact aS 0x3c629820e3f99024040980fe6127660a786004 d f a
theorem Ft.ver(g:Ft Z sp k)(v:Nat):(eZ sp v).length<200:=by obtain ⟨s,l,m,rfl,a,_,b,c,d⟩:=g.cut;have:=Ŷ v (s::l) b;have e:=d (fR m v);simp only [←jO,Zi,bK,mB m [],bK,bK];simp only [cQ]at this;have:(eZ [] v).length=0:=rfl;exact aS 0x1c920938ab19d99082206112cc44e3071a608383e6127460a7e7005 a c ‹_› e this
theorem Ft.small(g:Ft Z sp k):∀u∈sp,u.1.length≤4∧∀c,(fm u c).length≤64:=by
 obtain ⟨s,l,m,rfl,i,_,b,d,e⟩:=g.cut;intro u a;simp only [←jO]at a;rcases cV.mp a with a|a
 ·obtain ⟨f,h⟩:=b u a;exact ⟨f,fun c=>by have:=h c;exact aS 0x6314e30702766001 this⟩
 ·rw [aM]at a;subst a;exact ⟨aS 0x318a78602746001 d,e⟩
theorem Ft.len(g:Ft Z sp k):sp.length≤17:=by obtain ⟨s,l,m,rfl,a,_⟩:=g.cut;simp;omega
theorem Ft.lok(g:Ft Z sp k)(a b:Nat):J9 Z (Jn a b [] sp):=by have reg:=g.reg;have c:=g.three;obtain ⟨s,l,m,rfl,e,h0,_⟩:=g.cut;exact aFr (Int.le_refl _) reg (fun u d=>⟨(c u d).2.2 _,(c u d).2.2 _⟩) h0 (by simp)
theorem Ft.sd(g:Ft Z sp k)(a b:Nat):tO (eZ sp a) (eZ sp b):=by have h:=g.lok a b;have c:=Z9 (a:=a) (b:=b) sp [];have d:=Z8 (a:=a) (b:=b) sp [];have:=Ω (a:=a) (b:=b) sp [];have:=g.len;have q:=aJh h (by rw [c];exact g.ver a) (by rw [d];exact g.ver b) (aS 0x38c558c1c09ce8c14a0e1002 ‹_› this);rwa[c,d]at q
theorem Ft.rows(g:Ft Z sp k)(a b side:Nat):eU (eZ sp b) side (ops (eZ sp a) (eZ sp b))=Ū a b side 0 sp:=by
 have h:=g.lok a b;have e:=Z9 (a:=a) (b:=b) sp [];have f:=Z8 (a:=a) (b:=b) sp [];simp only [hG]at e f;have q:=aJl h side;rw [e,f]at q;rw [q,ι side sp [] 0 fun s d n=>?_]
 ·rfl
 ·obtain ⟨lo,hi,c⟩:=g.reg.mem s d;exact c.ne _ _ ((g.three s d).2.2 _) ((g.three s d).2.2 _) n
theorem Ft.mrg(g:Ft Z sp k)(r s t:Nat):Ds (eZ sp r) (eZ sp s) (eZ sp t) (Er sp r s t).1 (Er sp r s t).2:=by
 have b:=g.small;have c:∀u∈sp.tail,u.1≠[]:=by have reg:=g.reg;obtain ⟨s,l,m,rfl,_⟩:=g.cut;exact reg.pc
 refine ⟨g.sd r s,g.sd r t,Je r s t 0 sp,?_,Rp sp 0 c,aFx sp 0 (by have:=g.ver r;exact aS 0xc62ac6766400cac6766001 this) (fun u a=>?_),?_,?_⟩
 ·simp only [g.rows r s 0,g.rows r t 1];exact Ä sp 0
 ·have d:=(b u a).2 (fR u s);have e:=(b u a).2 (fR u t);exact aS 0xe8c58ac67660ab19d9809c60e14e307002 d e
 ·have:=θ (r:=r) (s:=s) (t:=t) sp 0;have:=g.len;exact aS 0x1928a71d30139d182980746002 ‹_› this
 ·have:=aAn (r:=r) (s:=s) (t:=t) sp [] 0 0 (Je r s t 0 sp).length [] [] rfl rfl (bG _) (bG _) (fun u a=>⟨g.reg.mem u a,(g.three u a).2.2 _,(g.three u a).2.2 _,(g.three u a).2.2 _⟩) c;rw [zK]at this;exact this
end
theorem Rq(a:zM x y)(b:zM y x):x=y:=by unfold zM at a b;exact dD (aS 0x422289112b456319358d6288532c435086b005400b58d628a622c6250c4b08141006 a b)
theorem aAm(h:Ds A B C t m)(h':Ds A B C c m'):(t,m)=(c,m'):=by obtain ⟨_,_,R,p,s,_,_,e⟩:=h;obtain ⟨_,_,R',d,f,_,_,g⟩:=h';have:=List.Perm.eq_of_pairwise (fun a b _ _=>Rq) s f (p.symm.trans d);subst this;exact e.symm.trans g
open Classical in
def Wg(A B C:bH):Option (List kZ×List qD):=if h:∃p:List kZ×List qD,Ds A B C p.1 p.2 then some h.choose else aF
theorem Tw(h:Ds A B C p.1 p.2):Wg A B C=some p:=by unfold Wg;have hx:∃p:List kZ×List qD,Ds A B C p.1 p.2:=⟨p,h⟩;rw [dif_pos hx];have:=aAm hx.choose_spec h;exact congrArg some this
theorem ŷ(A B C:bH)(t:List kZ)(m:List qD)(h:Wg A B C=some (t,m)):Ds A B C t m:=by
 unfold Wg at h;split at h
 ·rename_i hx;have:=hx.choose_spec;cases h':hx.choose;rw [h']at h this;cases h;exact this
 ·cases h
section
variable{Z:Int→Prop}{sp:List eX}
theorem Ft.spOk(g:Ft Z sp k)(h:k≤4)(i:v<k):∀u∈sp,Fs v u:=fun u a=>by obtain ⟨b,d,j⟩:=g.three u a;obtain ⟨l,m⟩:=g.small u a;refine ⟨aS 0x1a315080b08941003 i d,by have:=j v;unfold fR at this;exact aS aDs b this,aS 0xc629c77e702786001 l,aS 0xc629c77e702f66001 b,aS 0x16314e3bf385600a786002 h d,fun f n=>?_⟩;obtain ⟨c,o,e⟩:=List.mem_iff_getElem.mp n;have:=m c;unfold fm at this;rw [aP,bJ o]at this;rw [←e];simp only [Gk]at this;exact aS 0x18c538efce04e307001 this
theorem Ft.due(g:Ft Z sp k)(d:k≤4)(e:r<k)(f:a<k)(h:b<k):Du sp r a b:=by
 refine ⟨by have:=g.len;exact aS 0xc629c74c04e746001 this,fun s c=>⟨⟨g.spOk d e s c,g.spOk d f s c,g.spOk d h s c⟩,?_,?_⟩⟩
 ·have:=(g.small s c).1;exact aS 0xc62ac676602786001 this
 ·have:=(g.small s c).2 (fR s r);exact aS 0x18c558cecc04e307001 this
theorem Ue(f:eX→eX)(b:∀u,(f u).1=u.1)(i:∀u,(f u).2.1=u.2.1):∀(sp:List eX)(n:Int),Dq Z n sp→Dq Z n (sp.map f)
 |[],_,_=>trivial
 |s::r,n,h=>by
  have a:∀u c,fm (f u) c=fm u c:=fun u c=>by unfold fm;rw [i]
  have d:∀u lo hi,Yj Z lo hi u→Yj Z lo hi (f u):=fun u lo hi c=>by
   refine ⟨fun v e=>c.own v ?_,fun x=>?_,fun x y=>?_,fun x y=>?_,fun x=>?_⟩
   ·rcases e with e|⟨x,e⟩
    ·exact .inl (b u▸e)
    ·exact .inr ⟨x,a u x▸e⟩
   ·rw [b,a];exact c.nz x
   ·rw [a,a];exact c.dis x y
   ·rw [a,a];exact c.ne x y
   ·rw [a];exact c.hd x
  have g:∀u,SpR Z u→SpR Z (f u):=fun u c=>by
   refine ⟨fun x=>?_,fun z x=>?_⟩
   ·rw [a];exact c.lst x
   ·rw [a];exact c.zz z x
  cases r with
  |nil=>exact d _ _ _ h
  |cons t r=>obtain ⟨a1,j,l,m,o⟩:=h;exact ⟨d _ _ _ a1,g _ j,by rw [b];exact l,by rw [b];exact m,Ue f b i (t::r) (n+1) o⟩
theorem T9(h:u.2.2.length=3)(c:∀v,fR u v<3):(∀v,v<3→fR (sY r o t u) v=fR u v)∧∀v,fR (sY r o t u) v<3:=by
 have a:∀v,v<3→fR (sY r o t u) v=fR u v:=fun v b=>by unfold fR sY;simp only;rw [aP,qH (by exact aS aDs h b),←aP]
 refine ⟨a,fun v=>?_⟩;rcases I9 v 3 with b|b|b
 ·rw [a v b];exact c v
 ·subst b;unfold fR sY;simp only;rw [aP,pC (by exact aS 0x318a76602f66001 h),h];simp only [Nat.sub_self,List.getElem?_cons_zero,Gk];have d:=c r;have e:F5 u o<3:=c o;have f:F5 u t<3:=c t;split
  ·exact d
  ·rcases sU (F5 u r) (F5 u o) (F5 u t)with q|q|q<;>rw [q]<;>lia
 ·unfold fR sY;simp only;rw [aP,tP (by simp;exact aS 0xe31485070283b32f66002 h b)];simp
theorem Ft.mor(g:Ft Z sp 3)(r o t:Nat):Ft Z (sp.map (sY r o t)) 4 where
 reg:=Ue (sY r o t) (fun _=>rfl) (fun _=>rfl) sp 0 g.reg
 cut:=by obtain ⟨s,l,m,rfl,c,d,e,f,h⟩:=g.cut;refine ⟨sY r o t s,l.map (sY r o t),sY r o t m,by simp,by simpa using c,d,fun u a=>?_,f,h⟩;rw [←cC]at a;obtain ⟨w,hw,rfl⟩:=sH.mp a;exact e w hw
 three:=fun u a=>by obtain ⟨w,hw,rfl⟩:=sH.mp a;obtain ⟨a1,b,i⟩:=g.three w hw;refine ⟨a1,?_,(T9 b i).2⟩;refine (?_:(w.2.2++[_]).length=4);simp [b]
theorem Om(g:Ft Z sp 3)(r o t:Nat)(b:v<3):eZ (sp.map (sY r o t)) v=eZ sp v:=by
 have a:=g.three;clear g
 induction sp with
 |nil=>rfl
 |cons u q c=>
  simp only [cC,mB,mB,c fun w hw=>a w (bB _ hw)];obtain ⟨a1,d,e⟩:=a u (aU ..);have:frm (sY r o t u) v=frm u v:=by refine (?_:u.2.1.getD (fR (sY r o t u) v) []=u.2.1.getD (fR u v) []);rw [(T9 d e).1 v b]
  rw [this];rfl
theorem Ft.law(g:Ft Z sp 3):Qn Wg sp where
 len:=by have:=g.len;exact aS 0x18c538efce04e746001 this
 st:=fun s f=>(g.three s f).2.1
 ver:=fun v h=>⟨g.spOk (by decide) h,by have:=g.ver v;exact aS ú this⟩
 due:=fun o a=>by obtain ⟨b,c,e⟩:=F8 o a;exact g.due (by decide) b c e
 one:=fun o a=>Tw (g.mrg _ _ _)
 two:=fun o a=>by obtain ⟨b,c,e⟩:=F8 o a;have d:=g.mor o.1 o.2.1 o.2.2;refine ⟨⟨d.spOk (by decide) (by decide),by have:=d.ver 3;exact aS ú this⟩,d.due (by decide) (aS 0x318ab8602b66001 c) (by decide) (aS 0x318ab8602b66001 b),?_⟩;rw [←Om g o.1 o.2.1 o.2.2 c,←Om g o.1 o.2.1 o.2.2 b];exact Tw (d.mrg _ _ _)
end
def ZZ(first:Int)(v:Int):Prop:=first.fmod 2=1∧(v=0∨v=1)
theorem qm2(x d:Int):qm x d 2=0∨qm x d 2=1:=by unfold qm;have a:=tI (x.fdiv d) (b:=2) (by decide);have c:=xK (x.fdiv d) (b:=2) (by decide);omega
theorem fm2(x:Int):x.fmod 2=0∨x.fmod 2=1:=by have a:=tI x (b:=2) (by decide);have c:=xK x (b:=2) (by decide);lia
theorem qm3(x d:Int):(qm x d 3).toNat<3:=by unfold qm;have a:=tI (x.fdiv d) (b:=3) (by decide);have c:=xK (x.fdiv d) (b:=3) (by decide);omega
theorem fm3(x:Int):(x.fmod 3).toNat<3:=by have a:=tI x (b:=3) (by decide);have c:=xK x (b:=3) (by decide);lia
section
variable{Z:Int→Prop}
theorem NZ.cons{a:Int}{l:bH}(h:NZ Z l)(d:a∈l→Z a):NZ Z (a::l):=by
 refine NZ.app (l:=[a]) (l':=l) (fun i f hi b _ _=>?_) h fun v c e=>?_
 ·simp at hi b;exact aS 0x246315840b30566002 hi b
 ·rw [aM]at c;subst c;exact d e
theorem NZ.all(h:∀v∈l,Z v):NZ Z l:=fun i b hi _ _ a=>absurd (h _ (zR hi)) a
end
section
variable{first:Int}
theorem vP(left:Int)(n:Nat):(first.fmod 2=1∧∃p q:Int,(p=0∨p=1)∧(q=0∨q=1)∧(gP first left n=[p,p]∨gP first left n=[p,p,q,q]))∨(first.fmod 2=0∧(gP first left n=[8*(n:Int)]∨gP first left n=[8*(n:Int),8*(n:Int)+1])):=by
 unfold gP;rcases fm2 first with h|h
 ·right
  refine ⟨h,?_⟩;rw [if_neg (by exact aS 0x618ba57382e6010 h)];rcases fm2 left with h'|h'
  ·left;rw [h'];rfl
  ·right;rw [h'];rfl
 ·left
  refine ⟨h,qm left 2 2,qm left 4 2,qm2 _ _,qm2 _ _,?_⟩;rw [if_pos h];rcases fm2 left with h'|h'
  ·left;rw [h'];rfl
  ·right;rw [h'];rfl
theorem oK(left:Int)(n c:Nat):(qm left 8 4=(c:Int)∧((first.fmod 2=0∧mY first left n c=[])∨(first.fmod 2=1∧∃q:Int,(q=0∨q=1)∧mY first left n c=[8*(n:Int)+2*(c:Int)+2,q,8*(n:Int)+2*(c:Int)+3])))∨
  (qm left 8 4≠(c:Int)∧(mY first left n c=[8*(n:Int)+2*(c:Int)+2]∨mY first left n c=[8*(n:Int)+2*(c:Int)+2,8*(n:Int)+2*(c:Int)+3])):=by
 unfold mY;by_cases h:qm left 8 4=(c:Int)
 ·left
  refine ⟨h,?_⟩;rw [if_pos h];rcases fm2 first with h'|h'
  ·left;exact ⟨h',by rw [if_pos h']⟩
  ·right;exact ⟨h',qm left 4 2,qm2 _ _,by rw [if_neg (by exact aS 0x918ba57302e7010 h')]⟩
 ·right
  refine ⟨h,?_⟩;rw [if_neg h];rcases qm2 left (Fq c)with h'|h'
  ·left;rw [h'];rfl
  ·right;rw [h'];rfl
theorem Az(h:v∈gP first left n):(first.fmod 2=1∧(v=0∨v=1))∨(first.fmod 2=0∧8*(n:Int)≤v∧v<8*(n:Int)+2):=by
 rcases vP (first:=first) left n with ⟨o,p,q,a,b,e|e⟩|⟨o,e|e⟩<;>rw [e]at h<;>simp only [aR,kT,or_false]at h
 ·left;refine ⟨o,?_⟩;exact aS 0xad2ad4ad2ad4b2cad4b2cad4316dce1b982db8037005b7382e6020 a h
 ·left;refine ⟨o,?_⟩;exact aS 0x1529152a1529152a4589458a4589458a1616152a1616152a4589458a4589458a1529152a1529152a4646458a4646458a1616152a1616152a4646458a4646458a18b6e715cc26b5b708ae115c02b804db9c37305b7382e6030 a b h
 ·right;refine ⟨o,?_⟩;lia
 ·right;refine ⟨o,?_⟩;lia
theorem Dl(h:v∈mY first left n c):(v=8*(n:Int)+2*(c:Int)+2∨v=8*(n:Int)+2*(c:Int)+3)∨(qm left 8 4=(c:Int)∧first.fmod 2=1∧(v=0∨v=1)):=by
 rcases oK (first:=first) left n c with ⟨a,⟨o,e⟩|⟨o,q,b,e⟩⟩|⟨a,e|e⟩<;>rw [e]at h<;>simp only [aR,kT,or_false]at h
 ·rcases h with h|h|h
  ·exact .inl (.inl h)
  ·right;refine ⟨a,o,?_⟩;exact aS 0xad2ad4b2cad4316dce1b9837005b7382e6020 b h
  ·exact .inl (.inr h)
 ·exact .inl (.inl h)
 ·exact .inl h
theorem qT(pc:bH):fm (pc,(sM first n x).2) c=if c<3 then mY first (x.fdiv 27) n c else[]:=by
 match c with
 |0=>rfl
 |1=>rfl
 |2=>rfl
 |c+3=>rfl
theorem Ow(x:Int)(n:Nat)(i:pc=[]∨pc=gP first (x.fdiv 27) n):Yj (ZZ first) (8*(n:Int)) (8*(n:Int)+8) (pc,(sM first n x).2)where
 own:=fun v a b=>by
  rcases a with a|⟨c,a⟩
  ·rcases i with e|e
   ·rw [e]at a;cases a
   ·rw [e]at a;rcases Az a with h|h
    ·exact absurd h b
    ·exact aS 0x6518b2c8c1e15060e838ac2854183b196468d0a830741c56142a0c1ee60a1 h
  ·rw [qT]at a;split at a
   ·rcases Dl a with h|⟨_,h⟩
    ·exact aS 0x10a230a2251659183c2a1c1d0715850a87076dd1b32215068d0a870715d1a32215068d0a870712b66012 ‹_› h
    ·exact absurd h b
   ·cases a
 nz:=fun c=>by
  have l:NZ (ZZ first) pc:=by
   rcases i with e|e
   ·rw [e];exact NZ.nil
   ·rw [e];rcases vP (first:=first) (x.fdiv 27) n with ⟨o,_⟩|⟨o,j|j⟩
    ·exact NZ.all fun v a=>by
      rcases Az a with h|h
      ·exact h
      ·exact dD (aS 0x2418c98cb2346854183a0e2b0a15060f7306e70a1 o h)
    ·rw [j];exact NZ.nil.cons fun h=>by cases h
    ·rw [j];exact (NZ.nil.cons fun h=>by cases h).cons fun h=>by rw [aM]at h;exact dD (aS 0x8632ba0f0a830785418381 h)
  have m:NZ (ZZ first) (fm (pc,(sM first n x).2) c):=by
   rw [qT];split
   ·rcases oK (first:=first) (x.fdiv 27) n c with ⟨d,⟨o,e⟩|⟨o,q,g,e⟩⟩|⟨d,e|e⟩<;>rw [e]
    ·exact NZ.nil
    ·refine ((NZ.nil.cons fun h=>by cases h).cons fun h=>?_).cons fun h=>?_
     ·rw [aM]at h;exact dD (aS 0x6618cae8d9910a874685418389b738ae6112 g h)
     ·simp only [aR,kT,or_false]at h;exact dD (aS 0x94946326dd1b322150e8d0a8307468c88543a342a0c1ee2468c88543a342a0c1db738ae6112 g h)
    ·exact NZ.nil.cons fun h=>by cases h
    ·exact (NZ.nil.cons fun h=>by cases h).cons fun h=>by rw [aM]at h;exact dD (aS 0x8632ba366442a1d1a15060e8d1910a874685418382 h)
   ·exact NZ.nil
  refine l.app m fun v a f=>?_;rcases i with e|e
  ·rw [e]at a;cases a
  ·rw [e]at a;rw [qT]at f;split at f
   ·rcases Az a with h|h
    ·exact h
    ·rcases Dl f with h'|⟨_,h'⟩
     ·exact dD (aS 0x6186326dd1b322150e8d0a83071dd1a322150e8d0a83071b196468d0a830741c761c2a0c1ee6122 h h')
     ·exact h'
   ·cases f
 dis:=fun c k d v a f=>by
  rw [qT]at a f;split at a
  ·split at f
   ·have:=Dl a;have:=Dl f;lia
   ·cases f
  ·cases a
 ne:=fun c k d p r=>by
  rw [qT,qT,if_pos d,if_pos p];rcases oK (first:=first) (x.fdiv 27) n c with ⟨h,⟨o,e⟩|⟨o,q,g,e⟩⟩|⟨h,e|e⟩
  ·rcases oK (first:=first) (x.fdiv 27) n k with ⟨h',_⟩|⟨h',e|e⟩
   ·exact dD (aS 0xcd8632bd422bd40274961012 r h h')
   ·right;rw [e];simp
   ·right;rw [e];simp
  ·left;rw [e];simp
  ·left;rw [e];simp
  ·left;rw [e];simp
 hd:=fun c d b=>by
  rw [qT]at d b;split at d
  ·rename_i s;rw [if_pos s]at b;obtain ⟨_,b⟩:=b;rcases oK (first:=first) (x.fdiv 27) n c with ⟨h,⟨o,e⟩|⟨o,q,g,e⟩⟩|⟨h,e|e⟩<;>rw [e]at b
   ·exact d e
   ·simp only [fT]at b;exact aS ln6 b
   ·simp only [fT]at b;exact aS ln6 b
   ·simp only [fT]at b;exact aS ln6 b
  ·exact d rfl
theorem Ou(x:Int)(n:Nat)(pc:bH):SpR (ZZ first) (pc,(sM first n x).2)where
 lst:=fun c d a=>by
  rw [qT]at d a;split at d
  ·rename_i j;rw [if_pos j]at a;obtain ⟨_,a⟩:=a;rcases oK (first:=first) (x.fdiv 27) n c with ⟨h,⟨o,e⟩|⟨o,q,k,e⟩⟩|⟨h,e|e⟩<;>rw [e]at a
   ·exact d e
   ·simp only [cQ,gI,vK,fT,E4]at a;exact aS aG0 a
   ·simp only [cQ,gI,vK,fT,E4,gW]at a;exact aS ln6 a
   ·simp only [cQ,gI,vK,fT,E4,gW]at a;exact aS aG0 a
  ·exact d rfl
 zz:=fun ⟨w,o,_⟩ c d=>by
  rw [qT,if_pos d];rcases oK (first:=first) (x.fdiv 27) n c with ⟨h,⟨i,e⟩|⟨i,q,k,e⟩⟩|⟨h,e|e⟩
  ·exact dD (aS 0x48c657302e7010 o i)
  ·rw [e];refine ⟨by simp,fun t b=>?_⟩;rintro ⟨⟨_,f⟩,⟨_,g⟩⟩
   match t,b with
   |0,_=>simp only [fT]at f;exact aS ln6 f
   |1,_=>simp only [vK,fT,Nat.reduceAdd]at g;exact aS aG0 g
   |t+2,b=>simp at b;exact aS 0x463256cc83a346001 b
  ·rw [e];exact ⟨by simp,fun t b=>by simp at b⟩
  ·rw [e];refine ⟨by simp,fun t b=>?_⟩;rintro ⟨⟨_,f⟩,⟨_,g⟩⟩
   match t,b with
   |0,_=>simp only [fT]at f;exact aS ln6 f
   |t+1,b=>simp at b;exact aS 0x23192b4641d07001 b
theorem aJo:∀(l:bH)(n:Nat),∀v∈Ug first n l,ZZ first v:=by
 intro b
 induction b with
 |nil=>intro _ v h;cases h
 |cons x l c=>
  intro n v h;rcases cV.mp h with h|h
  ·unfold nK at h;obtain ⟨l',d,e⟩:=List.mem_flatten.mp h;obtain ⟨a,rfl⟩:=List.mem_replicate.mp d;rcases Az e with q|q
   ·exact q
   ·rw [q.1]at a;exact absurd rfl a
  ·exact c (n+1) v h
theorem vZ(pcs:bH)(c:Nat):fm (Bk first pcs) c=if c=1 then[-1]++pcs else if c=2 then[-2]else[]:=by
 match c with
 |0=>rfl
 |1=>rfl
 |2=>rfl
 |c+3=>rfl
theorem Z3(h:∀v∈pcs,ZZ first v):Yj (ZZ first) (-5) 0 (Bk first pcs)where
 own:=fun v a d=>by
  rcases a with a|⟨c,a⟩
  ·have a:v∈([-4, -5]:bH):=a;simp only [aR,kT,or_false]at a;exact aS 0x1d7462cb190705814e99b7a74c0bd386010 a
  ·rw [vZ]at a;split at a
   ·rcases cV.mp a with a|a
    ·rw [aM]at a;exact aS 0xe8c596320e0b029d35e87010 a
    ·exact absurd (h v a) d
   ·split at a
    ·rw [aM]at a;exact aS 0x1d18b2c641c16053a6bd346010 a
    ·cases a
 nz:=fun c=>by
  have n:NZ (ZZ first) ([-4, -5]:bH):=(NZ.nil.cons fun h=>by cases h).cons fun h=>by rw [aM]at h;exact dD (aS 0x118caf4e9a9c300 h)
  refine NZ.app (l:=[-4, -5]) n ?_ fun v a b=>?_
  ·rw [vZ];split
   ·exact (NZ.all h).cons fun o=>h _ o
   ·split
    ·exact NZ.nil.cons fun h=>by cases h
    ·exact NZ.nil
  ·simp only [aR,kT,or_false]at a;rw [vZ]at b;split at b
   ·rcases cV.mp b with b|b
    ·rw [aM]at b;exact dD (aS 0x6618caf4381b7a74c0bd386010 a b)
    ·exact h v b
   ·split at b
    ·rw [aM]at b;exact dD (aS 0xcc3195e9a301b7a74c0bd386010 a b)
    ·cases b
 dis:=fun c g f v a b=>by
  have k:∀c,v∈fm (Bk first pcs) c→(c=1∧(v= -1∨0≤v))∨(c=2∧v= -2):=fun c a=>by
   rw [vZ]at a;split at a
   ·rename_i e
    left
    refine ⟨e,?_⟩;rcases cV.mp a with a|a
    ·rw [aM]at a;exact .inl a
    ·have:=(h v a).2;exact aS 0x4d4d0c5b601af4381b7382e6010 this
   ·split at a
    ·rename_i e;rw [aM]at a;exact .inr ⟨e,a⟩
    ·cases a
  have:=k c a;have:=k g b;exact aS 0x2901212a8a95148a4a4610270823884442138418c9acbd34612f460b1b611af4389670b597a68c25e8c0636c235e8712ce074961012 f ‹_› this
 ne:=fun c g f p r=>by
  rw [vZ,vZ];by_cases i:c=1
  ·left;rw [if_pos i];simp
  ·by_cases m:c=2
   ·left;rw [if_neg i,if_pos m];simp
   ·right
    by_cases j:g=1
    ·rw [if_pos j];simp
    ·rw [if_neg j,if_pos (by exact aS 0x11224488301a119101a11860c183086244243060c1912244888418324315e8c1749670ba4bd180e92ce07496102b660ab66002 f p r i m j)];simp
 hd:=fun c f d=>by
  rw [vZ]at f d;obtain ⟨_,d⟩:=d;split at f
  ·rename_i e;rw [if_pos e]at d;simp only [oO,fT]at d;exact aS 0x286326dcf43dcd4380 d
  ·rename_i e;rw [if_neg e]at d;split at f
   ·rename_i s;rw [if_pos s]at d;simp only [fT]at d;exact aS 0xa18c9b73d346b9a9a300 d
   ·exact f rfl
theorem ξ(c:∀v∈pcs,ZZ first v):∀(l:bH)(n:Nat)(pc:bH)(x:Int),(pc=[]∨pc=gP first (x.fdiv 27) n)→Dq (ZZ first) (n:Int) ((pc,(sM first n x).2)::(Lx first (n+1) l++[Bk first pcs])):=by
 intro d
 induction d with
 |nil=>intro n pc x h;exact ⟨Ow x n h,Ou x n pc,by simp [Bk],fun _=>by exact bG _,Z3 c⟩
 |cons y l a=>
  intro n pc x h;have a:=a (n+1) (gP first (y.fdiv 27) (n+1)) y (.inr rfl);have b:=vP (first:=first) (y.fdiv 27) (n+1);refine ⟨Ow x n h,Ou x n pc,?_,?_,a⟩
  ·show gP first (y.fdiv 27) (n+1)≠[]
   rcases b with ⟨_,p,q,_,_,e|e⟩|⟨_,e|e⟩<;>rw [e]<;>simp
  ·rintro ⟨w,o,_⟩;show 2≤(gP first (y.fdiv 27) (n+1)).length;rcases b with ⟨_,p,q,_,_,e|e⟩|⟨f,e⟩
   ·rw [e];simp
   ·rw [e];simp
   ·exact aS 0x48629068d7306e7091 o f
theorem K1(left:Int)(n c:Nat):(mY first left n c).length≤3:=by rcases oK (first:=first) left n c with ⟨h,⟨o,e⟩|⟨o,q,a,e⟩⟩|⟨h,e|e⟩<;>rw [e]<;>simp
theorem φ:∀(l:bH)(n:Nat),(Ug first n l).length≤4*l.length:=by
 intro b
 induction b with
 |nil=>intro _;exact bG _
 |cons x l a=>intro n;have a:=a (n+1);have:=Aw (k:=(first.fmod 2).toNat) (l:=gP first (x.fdiv 27) n) (by rcases fm2 first with h|h<;>rw [h]<;>decide) (uS _ _ _);simp only [L5,L4];simp only [bK,cQ];omega
theorem Ua:∀(l:bH)(n:Nat),∀u∈Lx first n l,∃m x,u=sM first m x:=by
 intro a
 induction a with
 |nil=>intro _ u h;cases h
 |cons x l b=>
  intro n u h;rcases aR.mp h with h|h
  ·exact ⟨n,x,h⟩
  ·exact b (n+1) u h
theorem Z5:∀(l:bH)(n:Nat),(Lx first n l).length=l.length:=by
 intro a
 induction a with
 |nil=>intro _;exact rfl
 |cons x l b=>intro n;simp only [Rl,Rk];simp only [cQ,b,cQ]
theorem Z2(c:Nat):(fm (sM first n x) c).length≤3:=by
 have:fm (sM first n x) c=if c<3 then mY first (x.fdiv 27) n c else[]:=qT (gP first (x.fdiv 27) n)
 rw [this];split
 ·exact K1 _ _ _
 ·simp
theorem Z1(h:∀x∈u.2.2,x<3)(v:Nat):fR u v<3:=by
 unfold fR;by_cases q:v<u.2.2.length
 ·rw [aP,bJ q];exact h _ (kW q)
 ·rw [aP,tP (by exact aS ñ q)];decide
theorem T8(v:Nat):fR (pc,(sM first n x).2) v<3:=Z1 (fun y hy=>by
 have hy:y∈[(x.fmod 3).toNat,(qm x 3 3).toNat,(qm x 9 3).toNat]:=hy;simp only [aR,kT,or_false]at hy;rcases hy with e|e|e<;>rw [e]
 ·exact fm3 _
 ·exact qm3 _ _
 ·exact qm3 _ _) v
theorem Ξ(v:Nat):fR (Bk first pcs) v<3:=Z1 (fun y hy=>by have hy:y∈[(qm first 4 3).toNat,(qm first 12 3).toNat,(qm first 36 3).toNat]:=hy;simp only [aR,kT,or_false]at hy;rcases hy with e|e|e<;>rw [e]<;>exact qm3 _ _) v
end
theorem Sr(b:bH):Ft (ZZ (Ad b)) (uM b) 3:=by
 obtain ⟨x,l,e,g⟩:∃x l,xD b=x::l∧l.length≤14:=by
  unfold xD;have:((b.drop 1).take 12).length≤12:=by rw [mP];exact aS 0x166314f0e099c1c381
  cases h:(b.drop 1).take 12 with
  |nil=>exact ⟨5,[141,12],rfl,by decide⟩
  |cons y r=>rw [h]at this;refine ⟨y,r++[5,141,12],rfl,?_⟩;simp at this⊢;omega
 unfold uM;refine e▸?_;generalize Ad b=first
 have i:=aJo (first:=first) (x::l) 0;have d:=φ (first:=first) (x::l) 0;generalize Ug first 0 (x::l)=pcs at i d
 obtain ⟨pc,f,j⟩:∃pc,(pc=[]∨pc=gP first (x.fdiv 27) 0)∧S9 first (Lx first 0 (x::l))=(pc,(sM first 0 x).2)::Lx first 1 l:=by
  refine (?_:∃pc,(pc=[]∨pc=gP first (x.fdiv 27) 0)∧(if qm first 2 2=1 then ([],(sM first 0 x).2)::Lx first 1 l else sM first 0 x::Lx first 1 l)=(pc,(sM first 0 x).2)::Lx first 1 l);split
  ·exact ⟨[],.inl rfl,rfl⟩
  ·exact ⟨_,.inr rfl,rfl⟩
 refine j▸?_;refine ⟨ξ i l 0 pc x f,⟨_,_,_,rfl,by rw [Z5];exact aS 0x318a7e7027c7001 g,?_,?_,?_,?_⟩,?_⟩
 ·rintro ⟨w,o,_⟩;rcases f with e|e
  ·exact .inl e
  ·right
   refine (?_:2≤pc.length);refine e▸?_;rcases vP (first:=first) (x.fdiv 27) 0 with ⟨_,p,q,_,_,e|e⟩|⟨k,e⟩
   ·rw [e];simp
   ·rw [e];simp
   ·exact aS 0x48629068d7306e7091 o k
 ·intro u a;rcases aR.mp a with e|a
  ·subst e;refine ⟨?_,fun c=>?_⟩
   ·refine (?_:pc.length≤4);rcases f with e|e<;>refine e▸?_
    ·simp
    ·exact uS _ _ _
   ·rw [qT];split
    ·exact K1 _ _ _
    ·simp
  ·obtain ⟨m,y,rfl⟩:=Ua l 1 u a;exact ⟨uS _ _ _,Z2⟩
 ·refine (?_:2≤2);exact aS 0x2314e8da300
 ·intro c;rw [vZ];split
  ·simp only [cQ]at d;simp;exact aS 0x212714ffe60a608383860a7c7002 g d
  ·split<;>simp
 ·intro u a;rcases cV.mp a with a|a
  ·rcases aR.mp a with e|a
   ·subst e;exact ⟨rfl,rfl,T8⟩
   ·obtain ⟨m,y,rfl⟩:=Ua l 1 u a;exact ⟨rfl,rfl,T8 (pc:=gP first (y.fdiv 27) m)⟩
  ·rw [aM]at a;subst a;exact ⟨rfl,rfl,Ξ⟩
theorem aG4(a:bH):Qn Wg (uM a):=(Sr a).law
section
open MineH (at_ bS fr)
inductive ř(K:As)(s:jY)(v:bM):Prop where
 |own (e:nsIn K mainGlobals s=some (some v))
 |built (e:nsIn K mainGlobals s=some aF) (b:bootBuiltins s=some v) (n:s≠"__name__")
theorem aHc{K:As}{p:yM}{loose:lK}{mg mb:jY→Option bM}{env:Env}{s:jY}{v:bM}(X:K.In S.heap)(T:TopRead p loose mg mb S.heap)(c:env.globals=mainGlobals)(d:env.builtins=builtinsNs)(at_:ř K s v):Glo env s v:=fun A h tk Q a q=>by
 have T':=T.keeps a
 cases at_ with
 |own e=>exact aPb (env:=env) (c▸T'.g) (mg_of (X.keeps a) T'.g e) q
 |built e b n=>exact aPc (env:=env) (c▸T'.g) (ns_none_of (X.keeps a) T'.g e) (d▸T'.b) ((T'.builtins _ n).trans b) q
theorem aBl(P:fL):∀s v,(s,v)∈wI→ř (fr P) s v:=fun s v h=>
 (show∀p∈wI,ř (fr P) p.1 p.2 from (iG (.built (by kernel_rfl) (by kernel_rfl) (by decide))
  (iG (.built (by kernel_rfl) (by kernel_rfl) (by decide))
  (iG (.built (by kernel_rfl) (by kernel_rfl) (by decide))
  (iG (.built (by kernel_rfl) (by kernel_rfl) (by decide))
  (iG (.built (by kernel_rfl) (by kernel_rfl) (by decide))
  (iG (.built (by kernel_rfl) (by kernel_rfl) (by decide))
  (iG (.built (by kernel_rfl) (by kernel_rfl) (by decide))
  (iG (.built (by kernel_rfl) (by kernel_rfl) (by decide))
  (iG (.built (by kernel_rfl) (by kernel_rfl) (by decide))
  (iG (.own (by kernel_rfl))
  (iG (.own (by kernel_rfl))
  (iG (.own (by kernel_rfl))
  (iG (.own (by kernel_rfl))
  (iG (.own (by kernel_rfl))
  (iG (.own (by kernel_rfl))
  (iG (.own (by kernel_rfl))
  (iG (.own (by kernel_rfl))
  (fun _ h=>nomatch h))))))))))))))))))) (s,v) h
theorem aLj{p:yM}{mg mb:jY→Option bM}(X:(fr w.params).In S.heap)(T:TopRead p loose mg mb S.heap):Gd where
 K:=X
 lim:=T.nolimit
 glo:=fun env a b s v h=>aHc X T a b (aBl w.params s v h)
theorem aLp(G:Gd){a:bH}(b:a.length≤1000000):Ŝ 7 (.ref 289) [.scr (a.map V.int)] (fun r=>r=.bool true):=by
 refine aHk (n:=6) (fd:=iY MineH.o289v0) (o:=MineH.o289v0) (tab:=tL) (body:=bS (at_ [13])) (dlaw w.params) (G.K 289 _ (by kernel_rfl)) rfl G.lim (codeRec_of G.K (by kernel_rfl)) rfl (fun vs h=>?_) (by show (1:Nat)≤13;decide) ?_ fun L=>?_
 ·revert vs;exact ll1 fun _=>by kernel_rfl
 ·refine (?_:(cS (a.map V.int)&&true)=true);rw [oG];rfl
 ·refine jC (aFp (n:=0) G ŷ b (aG4 a)) ?_;rintro f τ rfl;exact ⟨_,rfl,rfl,rfl⟩
end
section
open MineH
theorem Ć{Y:iB}(i:IntsAre vs xs):bO D Y h (xs.map V.int) vs:=by
 induction i with
 |nil=>exact bO.nil
 |cons n t i a=>exact bO.cons ⟨t,rfl⟩ a
theorem ŉ:Hyp w S→Yn w S:=by rintro ⟨KX,_,_,_,_,T⟩ xs l a b d f;have c:=aLp (aLj KX T) b callerA (fun _=>False) S.heap S.toks [lR l] ⟨rfl,by decide+kernel,by decide+kernel⟩ (fun _ _ e=>e) (fun _ e=>e.elim) (bO.cons ⟨l,a,rfl,id,d,Ć f⟩ bO.nil);refine bL c (fun v j p=>?_) fun _ _ e=>e.elim;obtain ⟨h',g,r,rfl,h,_,i,rfl⟩:=p;exact ⟨i,h',g,rfl,h⟩
theorem Zh:WalkO q loose (XL q []) (aE3 Ms) row.toRowW MineH.dlaw [] fun f vs=>aOs f vs:=by
 intro w h i mg mb G Y j o A B doc C D F hd H I k m args J as n r b c d;have KX:=kIn_of Y;have T:=topRead_of G.T;have g:mg (aC "law")=some (.ref j):=k;rw [mg_of KX T.g (show nsIn (fr w.params) mainGlobals (aC "law")=some (some (.ref 289)) by kernel_rfl)]at g;cases g
 wrow_args n r b c d
 rename_i xs _ _ _ _ _ _ _ l s _ t _ _ _ u _ x _;refine bL (aFa ŉ w i ⟨KX,_,_,_,_,T⟩ xs l s (by exact aS 0x6314e319cf3db301d2b54083d7ff301 x) t u) (fun v L p=>?_) fun _ _ e=>e.elim;obtain ⟨rfl,h',N,rfl,y⟩:=p;refine ⟨.inl ⟨_,.bool true,[],rfl,fun cls=>rfl,.bool true,?_,fun _=>⟨.nil,fun a z=>by cases z⟩⟩,OldK.of_keep y,rfl,.of_eq m⟩
 wrow_post
theorem holds1:PySem.Challenge.rw_mt0007_01.Holds:=hd Zh
end
end Mine
end
theorem PySem.Challenge.cw_mt0007_01_holds : PySem.Challenge.rw_mt0007_01.Holds :=
  Mine.holds1
