import PyProof.Rows.All
import PyProof.CompUse
import Wide.All
import OpenK.AllK
import Wide.FinOn
import Lean
import PySem.Challenge.RW_mt0007_02
set_option Elab.async false
set_option linter.all false
set_option maxRecDepth 100000
set_option maxHeartbeats 0
set_option bootstrap.genMatcherCode false
set_option genSizeOf false
set_option backward.eqns.nonrecursive false
set_option backward.eqns.deepRecursiveSplit false
open And renaming right→Wu,intro→Wv
open Array renaming mk→jP,length_toList→vK,getElem?_eq_getElem→Oe,getD→ť,size_push→aFq,replicate→aFr
open Bool renaming false_ne_true→aY,and_self→eW,and_eq_true→gG,false_eq_true→mH,eq_false_iff→nC,and_eq_true_iff→nD,noConfusion→zO,or_eq_true→Bs,not_false→C2,not_true→Fj,eq_iff_iff→Lc,or_false→Rj,not_eq_true'→aDk,and_false→aJa
open Char renaming toNat→aPm
open Classical renaming byContradiction→fL,em→Nt
open False renaming elim→fJ
open ForInStep renaming yield→zE
open Int renaming ofNat_lt→jV,toNat_natCast→lJ,toNat_of_nonneg→qT,natCast_nonneg→xY,sub_zero→I5,lt_trichotomy→I6,lt_trans→Y5,max_eq_right→aIw,ofNat_le→aPd,le_of_eq→aPe,neg_sub→aPl
open List renaming mem_of_getElem?→aG,mem_singleton→aM,mem_cons_of_mem→aQ,mem_cons_self→aR,length_append→aS,getD_eq_getElem?_getD→aT,mem_cons→aU,toArray→bD,length_map→bF,getElem?_eq_getElem→bK,append_nil→bP,append_assoc→bU,map_append→cE,length_pos_iff→cQ,map_cons→cS,getElem?_eq_some_iff→cU,length_nil→cV,mem_append→dC,nil_append→dK,cons_append→dX,length_cons→eJ,pairwise_cons→eM,length_singleton→eV,all_eq_true→fR,getElem?_map→gJ,all_cons→gV,length_range→gY,drop_eq_getElem_cons→iL,zip_cons_cons→jF,pairwise_append→jG,filter_eq_nil_iff→jQ,mem_append_right→kF,range→kN,not_mem_nil→kO,drop_length→kP,mem_append_left→kW,eq_nil_of_length_eq_zero→kX,flatMap_cons→lF,filter_cons_of_pos→lG,filter_cons_of_neg→lH,getElem_of_mem→lN,lookup_cons→mA,getElem_mem→mB,filter_append→mG,nodup_cons→mX,size_toArray→nB,pairwise_singleton→nX,length_drop→nZ,append_eq_nil_iff→oP,forIn_cons→oU,getElem?_inj→pL,replicate→pR,exists_cons_of_ne_nil→pS,mem_map→qG,all_nil→qH,take_of_length_le→tA,map_map→tB,length_take→tZ,flatMap_nil→uA,perm_iff_count→vV,map_eq_nil_iff→vX,map_nil→wL,getElem?_append_right→xB,getElem?_append_left→yB,pairwise_map→zB,take_length→zM,any_eq_true→zN,take_append_drop→B7,length_filter_le→B8,getElem?_eq_none→B9,drop_eq_drop_min→Ca,all→C1,filter_eq_self→Eh,map_take→Fg,map_drop→Fh,of_mem_zip→La,mem_filter→Lb,mem_range→Oa,pairwise_iff_getElem→Q9,take→T8,flatMap_eq_nil_iff→T9,take_eq_take_min→Y4,mem_of_mem_take→Zd,length→Ze,forall_mem_cons→Zf,dropLast_concat→Zg,map_congr_left→Ť,forIn_toArray→Ů,filter_congr→aDi,count_append→aDj,mem_flatMap→aFl,cons_ne_nil→aFm,count_cons→aIv,take_succ→aI6,forIn_nil→aI7,drop_take→aI8,count_nil→aI9,perm_nil→aM3,Pairwise→aM4,foldl→aPk
open List.Pairwise renaming nil→Ob,imp_of_mem→aPc
open List.Perm renaming eq_of_pairwise→wY,trans→Zh
open List.cons renaming injEq→iR,inj→ů
open Nat renaming le_refl→bG,le_trans→bR,lt_of_lt_of_le→bT,zero_le→bW,le_add_right→cC,add_assoc→dD,le_of_not_lt→dJ,pos_of_ne_zero→dM,exists_eq_add_of_le→dZ,lt_of_le_of_lt→eY,lt_irrefl→fF,le_succ→fI,lt_add_of_pos_right→fO,not_lt_zero→fS,ne_of_lt→fW,lt_succ_self→gX,zero_add→iH,add_zero→iI,ne_of_gt→jC,le_antisymm→jD,lt_of_not_le→jI,lt_of_succ_lt→jT,le_of_lt_succ→jU,lt_of_add_lt_add_left→kE,le_of_lt→lX,beq→nL,not_lt→nN,sub_lt_sub_left→nW,lt_trans→oT,le_of_eq→qO,one_pos→rR,add_sub_cancel_left→rS,lt_or_ge→tM,le_add_right_of_le→tN,add_comm→tO,le_of_ble_eq_true→tY,add_lt_add_left→wK,succ_pos→wX,exists_eq_add_of_lt→Ap,sub_lt→Bp,sub_le→Bq,lt_of_succ_lt_succ→Br,le_add_left→B6,sub_lt_sub_right→D8,mul_one→D9,ble→Eg,lt_trichotomy→I3,succ_ne_self→J6,not_lt_of_le→J7,not_le_of_lt→J8,min_le_right→J9,min_eq_right→Ka,zero_lt_one→Nq,le_total→Y3,le_sub_one_of_lt→Ţ,add_le_add_right→ţ,add_left_cancel→Ŭ,lt_of_le_of_ne→aDg,eq_or_lt_of_le→aDh,succ_le_of_lt→aFi,lt_succ_of_lt→aFj,le_succ_of_le→aFk,strongRecOn→aI2,min_eq_left→aI4,max_eq_left→aI5,add_le_add→aM2,zero_mul→aPb
open Ne renaming symm→rN
open Option renaming none→aF,map_eq_some_iff→cP,isSome_iff_exists→fX,map→nA
open Option.some renaming inj→gM,injEq→aPx
open Or renaming inl→oG,inr→pN
open Prod.mk renaming injEq→qN
open Pure renaming pure→T7
open PyProof.Rows renaming callWith_type→oO,assign_Name→G1,MethodCall_→aIu,same_iff→aPi,mod_int→aPj
open PySem renaming wpAny_bind→aH,wpAny_pure→bC,wpAny_mono→bN,Value→bO,wpAny→bX,wpAny_holding→cJ,Addr→cY,Shared→dI,Heap→dS,starEach→eC,OsState→eF,Params→fV,World→gN,wpAny_standAt→hG,sizeLine→iC,Str→jX,wpAny_call→kA,compEnvC→kB,codeAny→kC,PyData→kR,wpAny_eqBool_int→lD,Around→lL,standAt→lV,wpAny_call_entry→mT,callWith→mW,sizeLine_eq→nV,wpAny_callSpecial?_slot→oR,assignEach→pK,letOwnedTupleGo→pQ,codeAny_call_builtin→qS,codeAny_mono→rH,cellsFrom→rI,NameKind→sR,wpAny_newObj_type→uL,Stmt→uM,FuncData→uN,Obj→wJ,wpAny_specialOf→xU,wpAny_execs_nil→xV,Result→xW,Program→zA,wpAny_seqItems→zI,wpAny_rule→zJ,isSubtype_type→zK,wpAny_items_cons→Cw,isSubtype→Cx,typeLookup→D7,wpAny_updateSeq→Ec,typeLookup_type→Ed,codeAny_of_tree→Ee,codeAny_builtin→Ef,Sem→Fd,wpAny_field→Ge,codeAny_forLoop_any→I1,wpAny_release→Ja,wpAny_pyIter_tuple→J3,wpAny_load→J4,wpAny_truthy_bool→No,wpAny_pyIter_list→Np,Builtin→Nu,wpAny_items_nil→T6,wpAny_tryCatch→Yz,wpAny_is_other→Y0,PlainAttrs→Y2,wpAny_comprehension_free→Ş,wpAny_attempt→ş,wpAny_For→ũ,Scope→Ū,list_append→ū,Model→ŭ,wpAny_lt_int→aDd,Fin→aDe,wpAny_notOrdered_dict→aFh,wpAny_updateDictKeys→aIs,wpAny_newFunctionEnv→aIt,wpAny_evalPart_none→aI0,wpAny_Assign_stores→aI1,wpAny_dictFind_int→aM1,wpAny_sequenceKey→aM5,wpAny_pyHash_int→aO6,wpAny_isInstance→aO7,wpAny_Dict_empty→aO8,call→aPa
open PySem.Around renaming in1_units→G6,under_plainId→Wt,in1_depth→ű
open PySem.Bind renaming checkArgs→aJb,madeBy→aPg
open PySem.BindsTo renaming of_eq→aFp
open PySem.Builtin renaming divisionGoesByPylong→I7
open PySem.Builtin.Dict renaming notOrdered→aPr,missed→aPs
open PySem.Builtin.Frozenset renaming withSetAsKey→aIx,oneOther→aIy,addrOf→aIz
open PySem.Builtin.Int renaming intBits→Od
open PySem.Builtin.List renaming listExtendWith→Fi,listTooLong→G4,listSameRef→G5,listItems→Jc,listUpdate→aPn,listSubscript?→aPo,listLengthHint→aPp,listFitsIndex→aPq
open PySem.Builtin.Range renaming rangeSize→G3
open PySem.Builtin.Slots renaming bestBase→aPf
open PySem.Calls renaming callWith_builtin→Ar,call_function_entry→Oc,callWith_function→Ri,loadGlobal_global→aPt,loadGlobal_builtin→aPu,call_len_list→aPv,Name_function_global→aPw
open PySem.Code renaming builtin→G2,quiet_builtin→Ű
open PySem.F renaming plainAttrs_list→bQ,slot_list_append→cA,slot_list_extend→kM,slot_list_pop→sZ,args_tuple_add_2→xX,entry_tuple_add→yZ,slot_tuple_add→zL,slot_tuple_iterator_next→Fe,slot_dict_setdefault→I2,args_list_append_2→J5,plain_extend_loop→K7,entry_list_append→K8,entry_extend_loop→K9,plainAttrs_dict→N0,entry_list_pop→Qz,entry_dict_get→Q0,slot_int_rmul→Rd,slot_dict_get→Re
open PySem.Flow renaming next→aFo
open PySem.Heap renaming get?_push_size→cF,get?_push_of_some→cK,lt_size→dR,get?_update_other→gO,size_push→gS,get?_update_self→kG,SameBut→qI,ExtBut→Zi
open PySem.Heap.IsSliceOf renaming new→aM8
open PySem.Heap.SameBut renaming update→pD
open PySem.IsL renaming new→I4
open PySem.Meets renaming of_wp→aM7
open PySem.Obj renaming mapSeq→iQ,isFreed_of_dict→Ff,data_mapDictKeys→š,data_mapFields→aDf
open PySem.PyData renaming eqv→tP,depthAll→Jb,strOk→Rf,depth→Rh,canLayAll0→Š
open PySem.SeqAt renaming canLay_of_shaped→sM,shaped→vU,noMix→aM6
open PySem.Str renaming ofString→aC
open PySem.Value renaming none→jO,type→mF,ref→mV,isInt→rK,builtin→yY,int→C0
open PySem.W renaming behindTheImports→oS,Looks→sS,Frag→Aq
open PySem.W.Hook renaming says→aFn
open PySem.W.Looks renaming of_pure→lW,ld→Nr
open PySem.Walks renaming tuple→Y1,list→aO9
open String renaming ofList→Nz
open PySem PySem.W PyProof.Rows
noncomputable section
namespace MineH
noncomputable abbrev prog:zA:=PySem.Challenge.pw_mt0007_02
noncomputable def Uw:uM→Arguments×List uM×Ū×(List uM→uM)
 |.FunctionDef _ a b _ _ _ s _ _ _=>(a,b,s,fun _=>default)
 |.ClassDef n e k b d t s u v w p=>(default,b,s,fun c=>.ClassDef n e k c d t s u v w p)
 |_=>(default,[],default,fun _=>default)
def cL(s:uM):List uM:=(Uw s).2.1
def aMj:List Nat→List uM→uM
 |[],_=>default
 |i::r,b=>match b.drop i with
  |[]=>default
  |s::_=>match r with
   |[]=>s
   |_=>aMj r (cL s)
def at_(r:List Nat):uM:=aMj r PySem.Challenge.pw_mt0007_02.main.body
def Io(s:uM):Arguments:=(Uw s).1
def Mw(s:uM):Ū:=(Uw s).2.2.1
noncomputable def aE8(b:List uM):jX:=(docOf b).getD Str.empty
def fnDoc(s:uM):jX:=aE8 (cL s)
def E9(s:uM):jX:=aE8 (cL s)
theorem à(cs:List Char):aC (Nz cs)=⟨(cs.map aPm).toArray⟩:=by rw [Str.ofString_eq_toList,String.toList_ofList]
noncomputable def aH9:List Char:=by
 refine (fun (h:E9 (at_ [5])=aC (Nz ?cs))=>?cs) ?h
 case h=>exact rfl
noncomputable def aCf:jX:=⟨(aH9.map aPm).toArray⟩
noncomputable def sv(x:String)(t:Tok):bO:=.str (aC x) t
noncomputable def iv(n:Int):bO:=.int n 0
noncomputable def rv(n:Nat):bO:=.ref n
noncomputable def C7(l:List bO):wJ:=⟨.type "tuple",aF,.seq l.toArray 0, #[]⟩
noncomputable def fdO(l:List bO):wJ:=⟨.none,aF,.fields l.toArray, #[]⟩
noncomputable def cdO(l:List bO):wJ:=⟨.type "code",aF,.fields l.toArray, #[]⟩
def foO(c:bO)(nm qn:String)(p:List Nat)(g:Nat)(df kd dc pm:bO)(an:Option Nat)(co ct:bO)(b:Nat):wJ:=⟨c,aF,.func {name:=aC nm,qualname:=aC qn,params:=Io (at_ p),body:=.stmts (cL (at_ p)),scope:=Mw (at_ p),globals:=g,closure:=[],defaults:=df,kwdefaults:=kd,doc:=dc,pyModule:=pm,annotations:=an,code:=co,closureTuple:=ct,builtins:=b}, #[]⟩
def iJ(P:fV)(x:String)(t:Tok)(v:bO):DictEntry:=⟨PyData.keyHash P (aC x),sv x t,v⟩
def aNa(d:jX)(s:uM):uM:=(Uw s).2.2.2 (.Expr (.Constant (.str d) 0 ⟨71,4,143,7⟩) ⟨71,4,143,7⟩::(cL s).tail)
noncomputable def aJq(f:uM→uM):Nat→List uM→List uM
 |0,s::r=>f s::r
 |n+1,s::r=>s::aJq f n r
 |_,[]=>[]
def aGd(d:jX)(p:zA):zA:={p with main:={p.main with body:=aJq (aNa d) 5 p.main.body}}
def pwQ:zA:=aGd aCf PySem.Challenge.pw_mt0007_02
theorem aH8:E9 (at_ [5])=aCf:=(show E9 (at_ [5])=aC (Nz aH9) by kernel_rfl).trans (à aH9)
theorem aJw:PySem.Challenge.pw_mt0007_02=pwQ:=(show PySem.Challenge.pw_mt0007_02=aGd (E9 (at_ [5])) PySem.Challenge.pw_mt0007_02 by kernel_rfl).trans (congrArg (fun d=>aGd d PySem.Challenge.pw_mt0007_02) aH8)
noncomputable def xA:bO:=sv "cpy313.difflib" 194
noncomputable def mdM:bO:=sv "__main__" 164
noncomputable def U8:bO:=(sv "law_mt0007_02" 583)
noncomputable def Yj(l:List DictEntry)(n:Nat):wJ:=⟨.type "dict",aF,.dict l.toArray n, #[]⟩
noncomputable def nmV:Nat→List String→List bO
 |_,[]=>[]
 |t,s::r=>sv s t::nmV (t+1) r
noncomputable def lnV(b:Nat):List Nat→List bO
 |x::y::r=>iv x::iv b::rv y::lnV b r
 |_=>[]
noncomputable def Nw(m:bO)(p:List Nat)(n q:String)(df d:bO)(c:Nat):wJ:=foO (.type "function") n q p 3 df .none d m aF (rv c) .none 0
noncomputable def fnT(p:List Nat)(n q:String):wJ:=foO .none n q p 0 .none .none .none .none aF .none .none 0
noncomputable def fcO(k:Nat)(n q:String)(t u l a:Nat)(r:List bO):wJ:=cdO (sv n t::sv q (t+1)::sv "/claim/cut.py" (t+2)::iv l::iv a::iv 0::iv 0::iv 3::rv k::.bool true::iv 181::rv (k+1)::.none::(r++[iv u,iv l,sv "/claim/cut.py" (u+1)]))
noncomputable def fdV(p:List Nat)(u:Nat)(d:Bool):bO:=bif d then .str (fnDoc (at_ p)) (u+2)else .none
noncomputable def fG(m:bO)(k:Nat)(p:List Nat)(n q:String)(t:Nat)(ns:List String)(l a:Nat)(df:bO)(d:Bool):List wJ:=
 [C7 [],fdO [],C7 (nmV (t+3) ns),C7 [],fnT p n q,fcO k n q t (t+3+ns.length) l a [rv (k+2),rv (k+3),rv (k+4)],Nw m p n q df (fdV p (t+3+ns.length) d) (k+5)]
noncomputable def fH(m:bO)(k:Nat)(p:List Nat)(n q:String)(t l a:Nat)(df:bO)(d:Bool):List wJ:=
 [C7 [],fdO [],fnT p n q,fcO k n q t (t+3) l a [.none,.none,rv (k+2)],Nw m p n q df (fdV p (t+3) d) (k+3)]
noncomputable def nth:List wJ→Nat→wJ
 |[],_=>default
 |x::_,0=>x
 |_::r,n+1=>nth r n
noncomputable def Xk(L:List wJ)(n:Nat):Nat→Nat→Nat→BT
 |0,_,_=>.nil
 |k+1,i,s=>bif Eg n i then .nil else .node (nth L i) (Xk L n k (i+s) (2*s)) (Xk L n k (i+2*s) (2*s))
def aKc:wJ:=C7 []
def aKb:wJ:=fdO []
def aKa:wJ:=cdO [(sv "<module>" 182),(sv "<module>" 183),(sv "/claim/cut.py" 184),(iv 1),(iv 0),(iv 0),(iv 0),(iv 0),(rv 11),(.bool false),(iv 181),(rv 12),.none,.none,.none,.none,(iv 185),(iv 1),(sv "/claim/cut.py" 186)]
def aJ9:wJ:=⟨(.type "frame"),aF,.plain, #[(some (rv 13)),(some (rv 3)),(some (rv 3)),aF,(some (sv "__main__" 164)),aF,(some (rv 0))]⟩
def trA(P:fV):BT:=(.node (boot_o_0 P) (.node (boot_o_1 P) (.node (boot_o_3 P) (.node (boot_o_7 P) .nil .nil) (.node aKc .nil .nil)) (.node (boot_o_5 P) (.node (boot_o_9 P) .nil .nil) (.node aKa .nil .nil))) (.node (boot_o_2 P) (.node (boot_o_4 P) (.node (boot_o_8 P) .nil .nil) (.node aKb .nil .nil)) (.node (boot_o_6 P) (.node (boot_o_10 P) .nil .nil) (.node aJ9 .nil .nil))))
def stA(w:gN)(os:eF):SharedT:=⟨trA w.params,15,{},jP [],{},187,os⟩
def O6:wJ:=Nw xA [3,4] "__new__" "Match.__new__" .none (.str (fnDoc (at_ [3,4])) 283) 81
def O5:wJ:=foO (.type "function") "_make" "Match._make" [3,5] 3 .none .none (.str (fnDoc (at_ [3,5])) 293) (sv "cpy313.difflib" 194) (some 92) (rv 88) .none 0
def o135v0:wJ:=⟨(.type "type"),aF,(.cls {name:=(aC "Match"),bases:=[(.type "tuple")],mro:=[(rv 135),(.type "tuple"),(.type "object")],ns:=134,qualname:=(aC "Match"),hasDict:=false,slotNames:=[],subclasses:=[],abstract:=false,collection:=aF,hasDel:=false}), #[(some (rv 65)),aF,(some (sv "Match" 253)),(some (sv "Match" 261)),(some .none),(some (.bool false))]⟩
def Ew:wJ:=Nw xA [5,1] "__init__" "SequenceMatcher.__init__" (rv 153) (.str (fnDoc (at_ [5,1])) 416) 159
def o167v0:wJ:=Nw xA [5,2] "set_seqs" "SequenceMatcher.set_seqs" .none (.str (fnDoc (at_ [5,2])) 426) 166
def o174v0:wJ:=Nw xA [5,3] "set_seq1" "SequenceMatcher.set_seq1" .none (.str (fnDoc (at_ [5,3])) 435) 173
def o181v0:wJ:=Nw xA [5,4] "set_seq2" "SequenceMatcher.set_seq2" .none (.str (fnDoc (at_ [5,4])) 444) 180
def o188v0:wJ:=Nw xA [5,5] "__chain_b" "SequenceMatcher.__chain_b" .none .none 187
def o196v0:wJ:=Nw xA [5,6] "find_longest_match" "SequenceMatcher.find_longest_match" (rv 189) (.str (fnDoc (at_ [5,6])) 490) 195
def o203v0:wJ:=Nw xA [5,7] "get_matching_blocks" "SequenceMatcher.get_matching_blocks" .none (.str (fnDoc (at_ [5,7])) 517) 202
def o210v0:wJ:=Nw xA [5,8] "get_opcodes" "SequenceMatcher.get_opcodes" .none (.str (fnDoc (at_ [5,8])) 532) 209
def o251v0:wJ:=Nw U8 [7] "_law_things" "_law_things" .none .none 250
def o256v0:wJ:=Nw U8 [8] "_law_row" "_law_row" .none .none 255
def o261v0:wJ:=Nw U8 [9] "_law_words" "_law_words" .none .none 260
def o266v0:wJ:=Nw U8 [10] "_law_due" "_law_due" .none .none 265
def o273v0:wJ:=Nw U8 [11] "_law_changes" "_law_changes" .none .none 272
def o280v0:wJ:=Nw U8 [12] "_law_merge" "_law_merge" .none .none 279
def o285v0:wJ:=Nw U8 [13] "law" "law" .none .none 284
noncomputable def L4l(P:fV):List wJ:=[[boot_o_0 P,boot_o_1 P,boot_o_2 P,Yj [iJ P "__name__" 165 (sv "law_mt0007_02" 583),iJ P "__doc__" 166 .none,iJ P "__package__" 167 .none,iJ P "__loader__" 168 (.builtin "__main__.__loader__#opaque"),iJ P "__spec__" 169 .none,iJ P "__annotations__" 170 (rv 6),iJ P "__builtins__" 171 (rv 4),iJ P "__file__" 173 (sv "/claim/cut.py" 172),iJ P "__cached__" 174 .none,iJ P "_wall" 193 (rv 21),iJ P "_tuplegetter" 252 (rv 60),iJ P "Match" 380 (rv 135),iJ P "_calculate_ratio" 388 (rv 145),iJ P "SequenceMatcher" 582 (rv 242),iJ P "_law_things" 590 (rv 251),iJ P "_law_row" 596 (rv 256),iJ P "_law_words" 602 (rv 261),iJ P "_law_due" 608 (rv 266),iJ P "_law_changes" 628 (rv 273),iJ P "_law_merge" 656 (rv 280),iJ P "law" 662 (rv 285)] 21,boot_o_4 P,boot_o_5 P,boot_o_6 P,boot_o_7 P,boot_o_8 P,boot_o_9 P,boot_o_10 P,C7 [],fdO (lnV 0 [1,20,5,27,23,71,66,144,70,151,463,250,481,255,487,260,499,265,516,272,526,279,547,284]),cdO [(sv "<module>" 182),(sv "<module>" 183),(sv "/claim/cut.py" 184),(iv 1),(iv 0),(iv 0),(iv 0),(iv 0),(rv 11),(.bool false),(iv 181),(rv 12),.none,.none,.none,.none,(iv 185),(iv 1),(sv "/claim/cut.py" 186)],⟨(.type "frame"),aF,.plain, #[(some (rv 13)),(some (rv 3)),(some (rv 3)),aF,(some (sv "__main__" 164)),aF,(some (rv 0))]⟩],
 fG mdM 15 [0] "_wall" "_wall" 187 ["k"] 1 1 .none false,
 [C7 [],⟨(.type "builtin_function_or_method"),aF,(.fields #[(.builtin "type.__prepare__"),(.type "type")]), #[]⟩,Yj [iJ P "__module__" 203 xA,iJ P "__qualname__" 205 (sv "_tuplegetter" 204),iJ P "__firstlineno__" 207 (.int 5 206),iJ P "__init__" 216 (rv 35),iJ P "__get__" 225 (rv 43),iJ P "__set__" 234 (rv 50),iJ P "__delete__" 242 (rv 57),iJ P "__static_attributes__" 245 (rv 58)] 8,C7 [],fdO (lnV 4 [7,34,11,42,18,49,21,56]),cdO [(sv "_tuplegetter" 198),(sv "_tuplegetter" 199),(sv "/claim/cut.py" 200),(iv 5),(iv 0),(iv 0),(iv 0),(iv 0),(rv 25),(.bool false),(iv 181),(rv 26),.none,.none,.none,.none,(iv 201),(iv 5),(sv "/claim/cut.py" 202)],⟨(.type "frame"),aF,.plain, #[(some (rv 27)),(some (rv 3)),(some (rv 24)),aF,(some xA),aF,(some (rv 0))]⟩],
 fG xA 29 [2,0] "__init__" "_tuplegetter.__init__" 208 ["self","index","doc"] 7 3 .none false,
 [C7 [.none]],
 fG xA 37 [2,1] "__get__" "_tuplegetter.__get__" 217 ["self","obj","objtype"] 11 3 (rv 36) false,
 fG xA 44 [2,2] "__set__" "_tuplegetter.__set__" 226 ["self","obj","value"] 18 3 .none false,
 fG xA 51 [2,3] "__delete__" "_tuplegetter.__delete__" 235 ["self","obj"] 21 2 .none false,
 [C7 (nmV 243 ["__doc__","index"]),Yj [iJ P "__module__" 203 xA,iJ P "__firstlineno__" 207 (.int 5 206),iJ P "__init__" 216 (rv 35),iJ P "__get__" 225 (rv 43),iJ P "__set__" 234 (rv 50),iJ P "__delete__" 242 (rv 57),iJ P "__static_attributes__" 245 (rv 58),iJ P "__dict__" 247 (rv 61),iJ P "__weakref__" 249 (rv 62),iJ P "__doc__" 250 .none] 4,⟨(.type "type"),aF,(.cls {name:=(aC "_tuplegetter"),bases:=[(.type "object")],mro:=[(rv 60),(.type "object")],ns:=59,qualname:=(aC "_tuplegetter"),hasDict:=true,slotNames:=[],subclasses:=[],abstract:=false,collection:=aF,hasDel:=false}), #[aF,aF,(some (sv "_tuplegetter" 196)),(some (sv "_tuplegetter" 204)),(some (.builtin "object.__new__")),(some (.bool true))]⟩,⟨(.type "getset_descriptor"),aF,(.fields #[(sv "__dict__" 246),(rv 60),(.builtin "function.__dict__"),(.builtin "function.__dict__#set")]), #[]⟩,⟨(.type "getset_descriptor"),aF,(.fields #[(sv "__weakref__" 248),(rv 60),(.builtin "ExceptionGroup.__weakref__"),.none]), #[]⟩,⟨(.type "super"),aF,(.fields #[(rv 60),(rv 60),(rv 60)]), #[]⟩,⟨(.type "builtin_function_or_method"),aF,(.fields #[(.builtin "object.__init_subclass__"),(rv 60)]), #[]⟩,C7 [(.type "tuple")],⟨(.type "builtin_function_or_method"),aF,(.fields #[(.builtin "type.__prepare__"),(.type "type")]), #[]⟩,Yj [iJ P "__module__" 260 xA,iJ P "__qualname__" 262 (sv "Match" 261),iJ P "__firstlineno__" 264 (.int 23 263),iJ P "__doc__" 266 (.str (E9 (at_ [3])) 265),iJ P "__slots__" 268 (rv 73),iJ P "_fields" 272 (rv 74),iJ P "_field_defaults" 273 (rv 75),iJ P "__new__" 284 (rv 82),iJ P "_make" 306 (rv 91),iJ P "_replace" 317 (rv 100),iJ P "__replace__" 318 (rv 100),iJ P "__repr__" 326 (rv 107),iJ P "_asdict" 333 (rv 114),iJ P "__getnewargs__" 341 (rv 121),iJ P "__match_args__" 345 (rv 122),iJ P "a" 355 (rv 124),iJ P "b" 365 (rv 127),iJ P "size" 375 (rv 130),iJ P "__static_attributes__" 376 (rv 132),iJ P "__classcell__" 377 (rv 68)] 20,⟨(.type "cell"),aF,(.cell (some (rv 135))), #[]⟩,C7 [],fdO (lnV 4 [29,81,34,88,41,99,52,106,56,113,59,120]),cdO [(sv "Match" 255),(sv "Match" 256),(sv "/claim/cut.py" 257),(iv 23),(iv 0),(iv 0),(iv 0),(iv 0),(rv 69),(.bool false),(iv 181),(rv 70),.none,.none,.none,.none,(iv 258),(iv 23),(sv "/claim/cut.py" 259)],⟨(.type "frame"),aF,.plain, #[(some (rv 71)),(some (rv 3)),(some (rv 67)),aF,(some xA),aF,(some (rv 0))]⟩,C7 [],C7 (nmV 269 ["a","b","size"]),Yj [] 0],
 fG xA 76 [3,4] "__new__" "Match.__new__" 274 ["_cls","a","b","size"] 29 4 .none true,
 [C7 [],fdO [],C7 (nmV 288 ["cls","iterable","result"]),C7 [],foO .none "_make" "Match._make" [3,5] 0 .none .none .none .none aF .none .none 0,cdO [(sv "_make" 285),(sv "Match._make" 286),(sv "/claim/cut.py" 287),(iv 33),(iv 2),(iv 0),(iv 0),(iv 3),(rv 83),(.bool true),(iv 181),(rv 84),.none,(rv 85),(rv 86),(rv 87),(iv 291),(iv 33),(sv "/claim/cut.py" 292)],foO (.type "function") "_make" "Match._make" [3,5] 3 .none .none (.str (fnDoc (at_ [3,5])) 293) xA (some 92) (rv 88) .none 0,Yj [iJ P "__module__" 295 xA,iJ P "__name__" 298 (sv "_make" 297),iJ P "__qualname__" 301 (sv "Match._make" 300),iJ P "__doc__" 303 (sv "Make a new Match object from a sequence or iterable" 293),iJ P "__annotations__" 305 (rv 92)] 5,⟨(.type "classmethod"),(some 90),(.fields #[(rv 89),(.bool false)]), #[]⟩,Yj [] 0,C7 [(rv 68)],C7 (nmV 310 ["__class__"]),fdO [],C7 (nmV 311 ["self","kwds","result"]),C7 [],foO .none "_replace" "Match._replace" [3,6] 0 .none .none .none .none aF .none .none 0,cdO [(sv "_replace" 307),(sv "Match._replace" 308),(sv "/claim/cut.py" 309),(iv 41),(iv 1),(iv 1),(iv 0),(iv 11),(rv 94),(.bool true),(iv 181),(rv 95),.none,(rv 96),(rv 97),(rv 98),(iv 314),(iv 41),(sv "/claim/cut.py" 315)],⟨(.type "function"),aF,(.func {name:=(aC "_replace"),qualname:=(aC "Match._replace"),params:=Io (at_ [3,6]),body:=.stmts (cL (at_ [3,6])),scope:=Mw (at_ [3,6]),globals:=3,closure:=[((aC "__class__"),68)],defaults:=.none,kwdefaults:=.none,doc:=(.str (fnDoc (at_ [3,6])) 316),pyModule:=xA,annotations:=aF,code:=(rv 99),closureTuple:=(rv 93),builtins:=0}), #[]⟩],
 fG xA 101 [3,8] "__repr__" "Match.__repr__" 319 ["self"] 52 1 .none true,
 fG xA 108 [3,9] "_asdict" "Match._asdict" 327 ["self"] 56 1 .none false,
 fG xA 115 [3,10] "__getnewargs__" "Match.__getnewargs__" 334 ["self"] 59 1 .none true,
 [C7 (nmV 342 ["a","b","size"]),Yj [iJ P "index" 352 (.int 0 346),iJ P "__doc__" 354 (sv "Alias for field number 0" 347)] 2,⟨(rv 60),(some 123),.plain, #[]⟩,⟨(.type "frame"),aF,(.dict #[iJ P "self" 348 (rv 124),iJ P "index" 349 (.int 0 346),iJ P "doc" 350 (sv "Alias for field number 0" 347)] 3), #[]⟩,Yj [iJ P "index" 362 (.int 1 356),iJ P "__doc__" 364 (sv "Alias for field number 1" 357)] 2,⟨(rv 60),(some 126),.plain, #[]⟩,⟨(.type "frame"),aF,(.dict #[iJ P "self" 358 (rv 127),iJ P "index" 359 (.int 1 356),iJ P "doc" 360 (sv "Alias for field number 1" 357)] 3), #[]⟩,Yj [iJ P "index" 372 (.int 2 366),iJ P "__doc__" 374 (sv "Alias for field number 2" 367)] 2,⟨(rv 60),(some 129),.plain, #[]⟩,⟨(.type "frame"),aF,(.dict #[iJ P "self" 368 (rv 130),iJ P "index" 369 (.int 2 366),iJ P "doc" 370 (sv "Alias for field number 2" 367)] 3), #[]⟩,C7 [],⟨(.type "list"),aF,(.seq #[] 0), #[]⟩,Yj [iJ P "__module__" 260 xA,iJ P "__firstlineno__" 264 (.int 23 263),iJ P "__doc__" 266 (.str (E9 (at_ [3])) 265),iJ P "__slots__" 268 (rv 73),iJ P "_fields" 272 (rv 74),iJ P "_field_defaults" 273 (rv 75),iJ P "__new__" 284 (rv 136),iJ P "_make" 306 (rv 91),iJ P "_replace" 317 (rv 100),iJ P "__replace__" 318 (rv 100),iJ P "__repr__" 326 (rv 107),iJ P "_asdict" 333 (rv 114),iJ P "__getnewargs__" 341 (rv 121),iJ P "__match_args__" 345 (rv 122),iJ P "a" 355 (rv 124),iJ P "b" 365 (rv 127),iJ P "size" 375 (rv 130),iJ P "__static_attributes__" 376 (rv 132)] 2,⟨(.type "type"),aF,(.cls {name:=(aC "Match"),bases:=[(.type "tuple")],mro:=[(rv 135),(.type "tuple"),(.type "object")],ns:=134,qualname:=(aC "Match"),hasDict:=false,slotNames:=[],subclasses:=[],abstract:=false,collection:=aF,hasDel:=false}), #[(some (rv 65)),aF,(some (sv "Match" 253)),(some (sv "Match" 261)),(some .none),(some (.bool false))]⟩,⟨(.type "staticmethod"),aF,(.fields #[(rv 82)]), #[]⟩,⟨(.type "super"),aF,(.fields #[(rv 135),(rv 135),(rv 135)]), #[]⟩,⟨(.type "builtin_function_or_method"),aF,(.fields #[(.builtin "object.__init_subclass__"),(rv 135)]), #[]⟩],
 fG xA 139 [4] "_calculate_ratio" "_calculate_ratio" 381 ["matches","length"] 66 2 .none false,
 [C7 [],⟨(.type "builtin_function_or_method"),aF,(.fields #[(.builtin "type.__prepare__"),(.type "type")]), #[]⟩,Yj [iJ P "__module__" 396 xA,iJ P "__qualname__" 398 (sv "SequenceMatcher" 397),iJ P "__firstlineno__" 400 (.int 70 399),iJ P "__doc__" 402 (.str aCf 401),iJ P "__init__" 417 (rv 160),iJ P "set_seqs" 427 (rv 167),iJ P "set_seq1" 436 (rv 174),iJ P "set_seq2" 445 (rv 181),iJ P "_SequenceMatcher__chain_b" 463 (rv 188),iJ P "find_longest_match" 491 (rv 196),iJ P "get_matching_blocks" 518 (rv 203),iJ P "get_opcodes" 533 (rv 210),iJ P "get_grouped_opcodes" 542 (rv 218),iJ P "ratio" 551 (rv 225),iJ P "quick_ratio" 558 (rv 232),iJ P "real_quick_ratio" 565 (rv 239),iJ P "__static_attributes__" 576 (rv 240)] 17,C7 [],fdO (lnV 4 [145,159,173,166,184,173,209,180,236,187,260,195,335,202,383,209,430,217,433,224,457,231,460,238]),cdO [(sv "SequenceMatcher" 391),(sv "SequenceMatcher" 392),(sv "/claim/cut.py" 393),(iv 70),(iv 0),(iv 0),(iv 0),(iv 0),(rv 149),(.bool false),(iv 181),(rv 150),.none,.none,.none,.none,(iv 394),(iv 70),(sv "/claim/cut.py" 395)],⟨(.type "frame"),aF,.plain, #[(some (rv 151)),(some (rv 3)),(some (rv 148)),aF,(some xA),aF,(some (rv 0))]⟩,C7 [.none,(sv "" 404),(sv "" 405),(.bool true)]],
 fG xA 154 [5,1] "__init__" "SequenceMatcher.__init__" 406 ["self","isjunk","a","b","autojunk"] 145 5 (rv 153) true,
 fG xA 161 [5,2] "set_seqs" "SequenceMatcher.set_seqs" 418 ["self","a","b"] 173 3 .none true,
 fG xA 168 [5,3] "set_seq1" "SequenceMatcher.set_seq1" 428 ["self","a"] 184 2 .none true,
 fG xA 175 [5,4] "set_seq2" "SequenceMatcher.set_seq2" 437 ["self","b"] 209 2 .none true,
 fG xA 182 [5,5] "__chain_b" "SequenceMatcher.__chain_b" 446 ["self","b","b2j","i","elt","indices","junk","isjunk","popular","n","ntest","idxs"] 236 1 .none false,
 [C7 [(.int 0 464),.none,(.int 0 465),.none]],
 fG xA 190 [5,6] "find_longest_match" "SequenceMatcher.find_longest_match" 466 ["self","alo","ahi","blo","bhi","a","b","b2j","isbjunk","besti","bestj","bestsize","j2len","nothing","i","j2lenget","newj2len","j","k"] 260 5 (rv 189) true,
 fG xA 197 [5,7] "get_matching_blocks" "SequenceMatcher.get_matching_blocks" 492 ["self","la","lb","queue","matching_blocks","alo","ahi","blo","bhi","i","j","k","x","i1","j1","k1","non_adjacent","i2","j2","k2"] 335 1 .none true,
 fG xA 204 [5,8] "get_opcodes" "SequenceMatcher.get_opcodes" 519 ["self","i","j","answer","ai","bj","size","tag"] 383 1 .none true,
 [C7 [(.int 3 534)]],
 fG xA 212 [5,9] "get_grouped_opcodes" "SequenceMatcher.get_grouped_opcodes" 535 ["self","n"] 430 2 (rv 211) false,
 fG xA 219 [5,10] "ratio" "SequenceMatcher.ratio" 543 ["self","matches"] 433 1 .none true,
 fG xA 226 [5,11] "quick_ratio" "SequenceMatcher.quick_ratio" 552 ["self"] 457 1 .none false,
 fG xA 233 [5,12] "real_quick_ratio" "SequenceMatcher.real_quick_ratio" 559 ["self"] 460 1 .none false,
 [C7 (nmV 566 ["a","autojunk","b","b2j","bjunk","bpopular","fullbcount","isjunk","matching_blocks","opcodes"]),Yj [iJ P "__module__" 396 xA,iJ P "__firstlineno__" 400 (.int 70 399),iJ P "__doc__" 402 (.str aCf 401),iJ P "__init__" 417 (rv 160),iJ P "set_seqs" 427 (rv 167),iJ P "set_seq1" 436 (rv 174),iJ P "set_seq2" 445 (rv 181),iJ P "_SequenceMatcher__chain_b" 463 (rv 188),iJ P "find_longest_match" 491 (rv 196),iJ P "get_matching_blocks" 518 (rv 203),iJ P "get_opcodes" 533 (rv 210),iJ P "get_grouped_opcodes" 542 (rv 218),iJ P "ratio" 551 (rv 225),iJ P "quick_ratio" 558 (rv 232),iJ P "real_quick_ratio" 565 (rv 239),iJ P "__static_attributes__" 576 (rv 240),iJ P "__dict__" 578 (rv 243),iJ P "__weakref__" 580 (rv 244)] 3,⟨(.type "type"),aF,(.cls {name:=(aC "SequenceMatcher"),bases:=[(.type "object")],mro:=[(rv 242),(.type "object")],ns:=241,qualname:=(aC "SequenceMatcher"),hasDict:=true,slotNames:=[],subclasses:=[],abstract:=false,collection:=aF,hasDel:=false}), #[aF,aF,(some (sv "SequenceMatcher" 389)),(some (sv "SequenceMatcher" 397)),(some (.builtin "object.__new__")),(some (.bool true))]⟩,⟨(.type "getset_descriptor"),aF,(.fields #[(sv "__dict__" 577),(rv 242),(.builtin "function.__dict__"),(.builtin "function.__dict__#set")]), #[]⟩,⟨(.type "getset_descriptor"),aF,(.fields #[(sv "__weakref__" 579),(rv 242),(.builtin "ExceptionGroup.__weakref__"),.none]), #[]⟩,⟨(.type "super"),aF,(.fields #[(rv 242),(rv 242),(rv 242)]), #[]⟩,⟨(.type "builtin_function_or_method"),aF,(.fields #[(.builtin "object.__init_subclass__"),(rv 242)]), #[]⟩],
 fH U8 247 [7] "_law_things" "_law_things" 585 463 1 .none false,
 fH U8 252 [8] "_law_row" "_law_row" 591 481 2 .none false,
 fH U8 257 [9] "_law_words" "_law_words" 597 487 2 .none false,
 fH U8 262 [10] "_law_due" "_law_due" 603 499 3 .none false,
 fG U8 267 [11] "_law_changes" "_law_changes" 609 ["codes","base","text","side","rows","i","j","last","tag","i1","i2","j1","j2","same"] 516 4 .none false,
 fG U8 274 [12] "_law_merge" "_law_merge" 629 ["matcher","base","one","other","rows","told","merged","done","low","high","words","ways","reach","i1","i2","side","tag","text","old","left","right","way"] 526 4 .none false,
 fH U8 281 [13] "law" "law" 657 547 1 .none false].flatten
noncomputable def tr4(P:fV):BT:=Xk (L4l P) 286 10 0 1
def st4(w:gN)(os:eF):SharedT:=⟨tr4 w.params,286,{},jP [],{},663,os⟩
def env:Env:={scope:=prog.main.scope,locals:=mainNs,globals:=mainNs,cells:=[],code:=(.ref 13),frame:=some 14}
def cod:Code:=.body (oS prog) env
noncomputable def ann:Option bO:=some (.ref 6)
noncomputable def frs:List Frame:=[topFrame ⟨0,0,0,0⟩]
noncomputable abbrev ŝ:=Array Nat→(Nat→Bool)→Nat→Nat→Bool
noncomputable def ő:ŝ:= @Array.any Nat
noncomputable def aIn:ŝ:=fun a p i n=>if i=0∧n=a.size then a.toList.any p else a.any p i n
theorem aC9:ő=aIn:=by
 funext a p i n;unfold aIn;by_cases h:i=0∧n=a.size
 ·rw [if_pos h,h.1,h.2];exact Array.any_toList.symm
 ·rw [if_neg h];rfl
noncomputable def Z7:ŝ→Nu:=by
 refine (?c:(F:ŝ→Nu)→Nu.«type.__new__»=F ő→ŝ→Nu) ?F ?h
 case h=>
  delta Nu.«type.__new__»;generalize hg:ő=g;unfold ő at hg;rw [hg]
 case c=>exact fun F _=>F
def Uj:Nu:=Z7 aIn
theorem Ry:Nu.«type.__new__»=Uj:=(show Nu.«type.__new__»=Z7 ő from rfl).trans (congrArg Z7 aC9)
noncomputable def tb(id:String):Option Nu:=if id="type.__new__" then some Uj else treeTable id
theorem aJm:treeTable "type.__new__"=some Nu.«type.__new__»:=by kernel_rfl
theorem aJl:treeTable=tb:=by
 funext id;unfold tb;by_cases h:id="type.__new__"
 ·subst h;rw [if_pos rfl,aJm,Ry]
 ·rw [if_neg h]
noncomputable def aL6(p:zA):Env:={scope:=p.main.scope,locals:=mainNs,globals:=mainNs,cells:=[],code:=(.ref 13),frame:=some 14}
def aMg(p:zA):Code:=.body (oS p) (aL6 p)
def LQ(p:zA)(w:gN)(os:eF):Option (Flow×SharedT×Code×Pos):=segRunT tb p w 11 ann 1 2329 (stA w os) (piecesOf (oS p) (aL6 p) (aMg p) ⟨0,0,0,0⟩ frs)
theorem aNb(w:gN)(os:eF):LQ pwQ w os=some (aFo,st4 w os,aMg pwQ,⟨547,0,559,15⟩):=by kernel_rfl
theorem aNc(w:gN)(os:eF):segRunT tb PySem.Challenge.pw_mt0007_02 w 11 ann 1 2329 (stA w os) (piecesOf (oS prog) env cod ⟨0,0,0,0⟩ frs)=some (aFo,st4 w os,cod,⟨547,0,559,15⟩):=by have h:=aNb w os;rw [←aJw]at h;exact h
noncomputable def frA:List cY:=[1,2,3,15,17,18,20,21,29,31,32,34,35,36,37,39,40,42,43,44,46,47,49,50,51,53,54,56,57,58,59,60,61,62,65,68,73,74,75,76,78,79,81,82,83,85,86,88,89,90,91,92,93,94,96,97,99,100,101,103,104,106,107,108,110,111,113,114,115,117,118,120,121,122,123,124,126,127,129,130,132,134,135,136,139,141,142,144,145,153,154,156,157,159,160,161,163,164,166,167,168,170,171,173,174,175,177,178,180,181,182,184,185,187,188,189,190,192,193,195,196,197,199,200,202,203,204,206,207,209,210,211,212,214,215,217,218,219,221,222,224,225,226,228,229,231,232,233,235,236,238,239,240,241,242,243,244,247,250,251,252,255,256,257,260,261,262,265,266,267,269,270,272,273,274,276,277,279,280,281,284,285]
def fr(P:fV):Aq:=frA.map fun a=>(a,((tr4 P).get a).getD default)
def Mn:Hook:=kHook fr frA (fun _=>by kernel_rfl)
def q:zA:={prog with main:={prog.main with body:=(oS prog).drop 13}}
noncomputable def loose:List jX:=[aC "_wall",aC "_tuplegetter",aC "Match",aC "_calculate_ratio",aC "SequenceMatcher",aC "_law_things",aC "_law_row",aC "_law_words",aC "_law_due",aC "_law_changes",aC "_law_merge"]
def H1(P:fV):dS:=absHeap (tr4 P) 286 {}
abbrev row:OpenRow:=PySem.Challenge.rw_mt0007_02.row
noncomputable def Xt(s:dI):Bool:=xlAt q [] s&&recOk (RowW.records row.toRowW) s
theorem lon(w:gN)(_:eF):frA.map (H1 w.params).get?=(fr w.params).map fun p=>some p.2:=by kernel_rfl
def aOd(w:gN)(os:eF):=staticsOk (importedModules prog.main.body) (boot_heap w.params) (H1 w.params)
theorem loa(w:gN)(os:eF):aOd w os=true:=by kernel_rfl
def aOc(w:gN)(os:eF):=namesBound prog (H1 w.params)
theorem lob(w:gN)(os:eF):aOc w os=true:=by kernel_rfl
def aOb(w:gN)(os:eF):=gensDone ⟨H1 w.params,jP [],{},663,os⟩
theorem loc(w:gN)(os:eF):aOb w os=true:=by kernel_rfl
def aOa(w:gN)(os:eF):=laidKept (boot_heap w.params) (H1 w.params)
theorem lod(w:gN)(os:eF):aOa w os=true:=by kernel_rfl
def aN9(w:gN)(os:eF):=seen ((recsOf q).map (·.name)) (ownsOf q) [] {(⟨H1 w.params,jP [],{},663,os⟩:dI)with gens:= #[]}
noncomputable def aN8(w:gN)(_:eF):=expectedOf q
theorem loe(w:gN)(os:eF):aN9 w os=aN8 w os:=by kernel_rfl
def aN7(w:gN)(os:eF):=(H1 w.params).bltView
noncomputable def aN6(w:gN)(_:eF):=bltViewBooted
theorem lof(w:gN)(os:eF):aN7 w os=aN6 w os:=by kernel_rfl
def aN5(w:gN)(os:eF):=(H1 w.params).keysOk (looseW q loose) ((recsOf q).map (·.name)) ((litsOf q).map (·.1)) ((clssOf q (looseW q loose)).map (·.name))&& (H1 w.params).accountedOkI (importedModules prog.main.body)&& (H1 w.params).isNs mainGlobals&& (H1 w.params).isNs builtinsNs&&tablesOk q (H1 w.params)&&Xt ⟨H1 w.params,jP [],{},663,os⟩&& (if true then (jP []:Array GenState).size==0 else !leftWithCleanup (jP []))
theorem log(w:gN)(os:eF):aN5 w os=true:=by kernel_rfl
def aN4(w:gN)(os:eF):=tabsOk q ⟨H1 w.params,jP [],{},663,os⟩
theorem loh(w:gN)(os:eF):aN4 w os=true:=by kernel_rfl
def aN3(w:gN)(os:eF):=pinSeenD q (drecsOf q) ⟨H1 w.params,jP [],{},663,os⟩
noncomputable def aN2(w:gN)(_:eF):=pinGoodD (drecsOf q)
theorem loi(w:gN)(os:eF):aN3 w os=aN2 w os:=by kernel_rfl
def aN1(w:gN)(os:eF):=plainSeenE q (looseW q loose) ⟨H1 w.params,jP [],{},663,os⟩
def aN0(w:gN)(_:eF):=plainGoodE q (looseW q loose)
theorem loj(w:gN)(os:eF):aN1 w os=aN0 w os:=by kernel_rfl
def aNz(w:gN)(os:eF):=plainSeenD q loose ⟨H1 w.params,jP [],{},663,os⟩
def aNy(w:gN)(_:eF):=plainGoodD q loose
theorem lok(w:gN)(os:eF):aNz w os=aNy w os:=by kernel_rfl
def aNx(w:gN)(os:eF):=wideSeen q ⟨H1 w.params,jP [],{},663,os⟩
noncomputable def aNw(w:gN)(_:eF):=wideGood q
theorem lol(w:gN)(os:eF):aNx w os=aNw w os:=by kernel_rfl
def aNv(w:gN)(os:eF):=clsSeenW q loose ⟨H1 w.params,jP [],{},663,os⟩
def aNu(w:gN)(_:eF):=clsGoodW q loose
theorem lom(w:gN)(os:eF):aNv w os=aNu w os:=by kernel_rfl
theorem aOt{a b c d:Bool}(x:a=true)(y:b=true)(z:c=true)(u:d=true):(a&&b&&c&&d)=true:=by rw [x,y,z,u];rfl
theorem aNt(w:gN)(os:eF):(((staticsOk (importedModules prog.main.body) (boot_heap w.params) (H1 w.params)&&namesBound prog (H1 w.params)&&gensDone ⟨H1 w.params,jP [],{},663,os⟩&&laidKept (boot_heap w.params) (H1 w.params)),
 openSeen q loose (importedModules prog.main.body) Xt true ⟨H1 w.params,jP [],{},663,os⟩,frA.map (H1 w.params).get?))=(true,openGood q loose,(fr w.params).map fun p=>some p.2):=
 looks_pair (aOt (loa w os) (lob w os) (loc w os) (lod w os)) (looks_pair (looks_pair (loe w os) (looks_pair (lof w os) (looks_pair (log w os) (looks_pair (loh w os) (looks_pair (loi w os) (looks_pair (loj w os) (looks_pair (lok w os) (looks_pair (lol w os) (lom w os))))))))) (lon w os))
def aNj(w:gN)(os:eF):Option (dI×Thread):=topGo treeTable prog w 11 ann 12 ⟨boot_heap w.params,jP [],boot_drawn,boot_toks,os⟩ (topStub prog)
def aNi(w:gN)(os:eF):Option (dI×Thread):=some ((stA w os).abs,⟨denote treeTable cod,cod,⟨0,0,0,0⟩,frs⟩)
theorem zF(w:gN)(os:eF):aNj w os=aNi w os:=by kernel_rfl
def aOs(w:gN)(os:eF):Option (Flow×dI×Code×Pos):=segRun treeTable prog w 11 ann 1 1 (stA w os).abs (blockOf (oS prog) env cod ⟨0,0,0,0⟩ frs)
def aOr(w:gN)(os:eF):Option (Flow×dI×Code×Pos):=some (aFo,(stA w os).abs,cod,⟨0,0,0,0⟩)
theorem Jx(w:gN)(os:eF):aOs w os=aOr w os:=by kernel_rfl
def aOn(w:gN)(os:eF):Option dI:=topRun treeTable prog w 11 ann 2 (st4 w os).abs ⟨doneF .next,cod,⟨547,0,559,15⟩,frs⟩
def aOm(w:gN)(os:eF):Option dI:=some ⟨H1 w.params,jP [],{},663,os⟩
theorem fin(w:gN)(os:eF):aOn w os=aOm w os:=by kernel_rfl
theorem run(w:gN)(os:eF):topRun treeTable prog w 11 ann (12+(1+(2329+2))) ⟨boot_heap w.params,jP [],boot_drawn,boot_toks,os⟩ (topStub prog)=some ⟨H1 w.params,jP [],{},663,os⟩:=by refine go_top (zF w os) (piece_block (q:=⟨0,0,0,0⟩) (Jx w os) ?_);rw [←bP (oS prog)];refine piece_app (q:=⟨0,0,0,0⟩) (by rw [aJl];exact segRun_of (aNc w os)) ?_;exact fin w os
theorem left:LeftO prog q loose Xt (Hook.obs Mn) (Hook.val Mn) 4774:=by refine LeftO.of_pieces (H₀:=boot_heap) (H₁:=H1) (gs₀:=jP []) (gs₁:=jP []) (d₀:=boot_drawn) (d₁:={}) (k₀:=boot_toks) (k₁:=663) (m₀:=11) (ann:=ann) (M:=(12+(1+(2329+2)))) (boot_open (by kernel_rfl) (by decide) (fun _=>by kernel_rfl)) (fun w=>by kernel_rfl) run (by decide+kernel) (fun w=>?_);funext os;exact aNt w os
def dlaw:DefRec:=⟨aC "law",Io (at_ [13]),cL (at_ [13]),Mw (at_ [13]),⟨547,0,559,15⟩⟩
theorem aOj:defOf q row.name=some (dlaw,[]):=by kernel_rfl
theorem aBn:row.prog.theDef row.name=some (dlaw.params,dlaw.body,dlaw.scope):=by kernel_rfl
theorem hkw:kwWritten? dlaw.params.kwonlyargs dlaw.params.kw_defaults=some []:=by kernel_rfl
theorem Y7:(chainsOk q&&opensWell row.prog&& (frees row.toRowW&&row.within.isEmpty))=true:=by decide+kernel
theorem aLy:row.prog.bare:=⟨rfl,rfl,rfl,rfl,rfl,by decide+kernel⟩
theorem hd(walk:WalkO q loose (XL q []) (aFn Mn) row.toRowW dlaw [] fun f vs=>aPa f vs):PySem.Challenge.rw_mt0007_02.Holds:=by
 refine holds_law (by kernel_rfl) fun a=>?_;refine holds_open (r:=row) (q:=q) (loose:=loose) (Xt:=Xt) (XP:=XL q []) (Yf:=Hook.obs Mn) (Ya:=Hook.val Mn) (YP:=aFn Mn) (d:=dlaw) (kwd:=[]) (N:=4774) left (Hook.of Mn) (Hook.keeps Mn) (fun s e=>xl_of s (nD.mp e).1) XL.keeps aOj aBn hkw (fun s e=>recFacts_of (nD.mp e).2) (by kernel_rfl) (by assumption) Y7 aLy ?hw walk
 case hw=>w_witness2
end MineH
namespace Mine
noncomputable abbrev prog:zA:=MineH.row.prog
def Hyp(w:gN)(S:dI):Prop:=(MineH.fr w.params).In S.heap∧∃p loose mg mb,TopRead p loose mg mb S.heap
def Yx(w:gN)(S:dI):Prop:=∀(xs:List Int)(l:cY)(qv:List bO),xs.length≤1000000→S.heap.IsList l (bD qv)→IntsAre qv xs→
 bX (model prog w) callerA (call (.ref 285) [.ref l]) (fun v s'=>v=.bool true∧∃h' ao,s'={S with heap:=h',toks:=ao}∧∀b o,S.heap.get? b=some o→h'.get? b=some o) (fun _ _=>False) S
theorem aE3:∃p:gN×dI,(Hyp p.1 p.2→Yx p.1 p.2)→∀w S,Hyp w S→Yx w S:=by
 by_cases h:∃p:gN×dI,¬(Hyp p.1 p.2→Yx p.1 p.2)
 ·exact h.elim fun p a=>⟨p,fun q=>(a q).elim⟩
 ·exact ⟨(⟨fun _ _=>0,{strHash:=fun _=>0,shareClass:=id,mergeTok:=id,idOf:=fun _=>0,idOfShared:=fun _ _=>0,followText:=fun _=>false,idOfImm:=fun _=>0}⟩,{}),fun _ w S=>fL fun q=>h ⟨(w,S),q⟩⟩
@[irreducible] noncomputable def wS:gN×dI:=aE3.choose
@[irreducible] def w:gN:=wS.1
@[irreducible] def S:dI:=wS.2
theorem aFu(h:Hyp w S→Yx w S):∀w S,Hyp w S→Yx w S:=aE3.choose_spec (by unfold w S wS at h;exact h)
end Mine
namespace Mine.Li
section
set_option backward.match.sparseCases false
set_option genInjectivity false
set_option genCtorIdx false
inductive U where
 |v (i:Nat)|n (k:Nat)|add (a b:U)|mul (k:Nat) (a:U)|sub (a b:U)|neg (a:U)|cs (a:U)
 |le (z:Bool) (a b:U)|eq (z:Bool) (a b:U)|and (a b:U)|or (a b:U)|imp (a b:U)|ff|df (o:Nat) (a b:U)
inductive E where
 |n (a:Nat)|z (x:Int)
noncomputable def E.nat:E→Nat
 |.n a=>a
 |.z x=>x.toNat
noncomputable def E.int:E→Int
 |.n a=>a
 |.z x=>x
noncomputable def get:List E→Nat→E
 |[],_=>.n 0
 |a::_,0=>a
 |_::r,i+1=>get r i
def U.t(ρ:List E):U→Nat
 |.v i=>(get ρ i).nat
 |.n k=>k
 |.add a b=>a.t ρ+b.t ρ
 |.mul k a=>k*a.t ρ
 |.sub _ _=>0
 |.neg _=>0
 |.cs _=>0
 |.le _ _ _=>0
 |.eq _ _ _=>0
 |.and _ _=>0
 |.or _ _=>0
 |.imp _ _=>0
 |.ff=>0
 |.df _ _ _=>0
def U.z(ρ:List E):U→Int
 |.v i=>(get ρ i).int
 |.n k=>(k:Int)
 |.add a b=>a.z ρ+b.z ρ
 |.mul k a=>(k:Int)*a.z ρ
 |.sub a b=>a.z ρ-b.z ρ
 |.neg a=> - a.z ρ
 |.cs a=>(a.t ρ:Int)
 |.le _ _ _=>0
 |.eq _ _ _=>0
 |.and _ _=>0
 |.or _ _=>0
 |.imp _ _=>0
 |.ff=>0
 |.df _ _ _=>0
def leP(ρ:List E)(a b:U):Bool→Prop
 |false=>a.t ρ≤b.t ρ
 |true=>a.z ρ≤b.z ρ
def eqP(ρ:List E)(a b:U):Bool→Prop
 |false=>a.t ρ=b.t ρ
 |true=>a.z ρ=b.z ρ
def U.p(ρ:List E):U→Prop
 |.v _=>True
 |.n _=>True
 |.add _ _=>True
 |.mul _ _=>True
 |.sub _ _=>True
 |.neg _=>True
 |.cs _=>True
 |.le z a b=>leP ρ a b z
 |.eq z a b=>eqP ρ a b z
 |.and a b=>a.p ρ∧b.p ρ
 |.or a b=>a.p ρ∨b.p ρ
 |.imp a b=>a.p ρ→b.p ρ
 |.ff=>False
 |.df _ _ _=>True
theorem cg{c e:Type}{f:c→c→e}{a d b b':c}(h:a=d)(k:b=b'):f a b=f d b':=h▸k▸rfl
noncomputable def U.sh:U→U
 |.v i=>.v (i+1)
 |.n k=>.n k
 |.add a b=>.add a.sh b.sh
 |.mul k a=>.mul k a.sh
 |.sub a b=>.sub a.sh b.sh
 |.neg a=>.neg a.sh
 |.cs a=>.cs a.sh
 |.le z a b=>.le z a.sh b.sh
 |.eq z a b=>.eq z a.sh b.sh
 |.and a b=>.and a.sh b.sh
 |.or a b=>.or a.sh b.sh
 |.imp a b=>.imp a.sh b.sh
 |.ff=>.ff
 |.df o a b=>.df o a b
theorem G9(x:E)(c:List E):∀e:U,e.sh.t (x::c)=e.t c:=by
 intro e
 induction e with
 |add a b d f=>exact cg d f
 |mul k a g=>exact congrArg (k*·) g
 |_=>rfl
theorem Wx(x:E)(c:List E):∀e:U,e.sh.z (x::c)=e.z c:=by
 intro e
 induction e with
 |add a b d f=>exact cg d f
 |sub a b d f=>exact cg d f
 |mul k a g=>exact congrArg ((k:Int)*·) g
 |neg a g=>exact congrArg (- ·) g
 |cs a=>exact congrArg Nat.cast (G9 x c a)
 |_=>rfl
theorem aNk(x:E)(c:List E):∀e:U,e.sh.p (x::c)=e.p c:=by
 intro e
 induction e with
 |le z a b=>cases z with
  |false=>exact cg (G9 x c a) (G9 x c b)
  |true=>exact cg (f:=fun x y:Int=>x≤y) (Wx x c a) (Wx x c b)
 |eq z a b=>cases z with
  |false=>exact cg (G9 x c a) (G9 x c b)
  |true=>exact cg (Wx x c a) (Wx x c b)
 |and a b d g=>exact cg d g
 |or a b d g=>exact cg d g
 |imp a b d g=>exact cg (f:=fun x y:Prop=>x→y) d g
 |_=>rfl
noncomputable def F3:List Nat→List Nat→List Nat
 |[],y=>y
 |a::x,y=>match y with
  |[]=>a::x
  |b::y=>(a+b)::F3 x y
noncomputable def Rx:Nat→List Nat
 |0=>[1]
 |i+1=>0::Rx i
def U.l:U→List Nat
 |.v i=>0::Rx (2*i)
 |.n k=>[k]
 |.add a b=>F3 a.l b.l
 |.mul k a=>a.l.map (k*·)
 |.sub _ _=>[]
 |.neg _=>[]
 |.cs _=>[]
 |.le _ _ _=>[]
 |.eq _ _ _=>[]
 |.and _ _=>[]
 |.or _ _=>[]
 |.imp _ _=>[]
 |.ff=>[]
 |.df _ _ _=>[]
def U.w:U→Bool→List Nat
 |.v i=>fun c=>bif c then 0::Rx (2*i)else 0::Rx (2*i+1)
 |.n k=>fun c=>bif c then[k]else[]
 |.add a b=>fun c=>F3 (a.w c) (b.w c)
 |.mul k a=>fun c=>(a.w c).map (k*·)
 |.sub a b=>fun c=>F3 (a.w c) (b.w (!c))
 |.neg a=>fun c=>a.w (!c)
 |.cs a=>fun c=>bif c then a.l else[]
 |.le _ _ _=>fun _=>[]
 |.eq _ _ _=>fun _=>[]
 |.and _ _=>fun _=>[]
 |.or _ _=>fun _=>[]
 |.imp _ _=>fun _=>[]
 |.ff=>fun _=>[]
 |.df _ _ _=>fun _=>[]
noncomputable def vR:List Nat→List Nat→Nat
 |a::x,r::ρ=>a*r+vR x ρ
 |_,_=>0
theorem pZ:∀(x y c:List Nat),vR (F3 x y) c=vR x c+vR y c:=by
 intro x
 induction x with
 |nil=>intro y c;exact ((congrArg (·+vR y c) (by cases c<;>rfl)).trans (iH _)).symm
 |cons a x d=>
  intro y c
  cases c with
  |nil=>cases y<;>rfl
  |cons r c=>cases y with
   |nil=>rfl
   |cons b y=>refine (?_:(a+b)*r+vR (F3 x y) c=(a*r+vR x c)+(b*r+vR y c));rw [d,Nat.add_mul,Nat.add_add_add_comm]
theorem Ah(k:Nat):∀(x b:List Nat),vR (x.map (k*·)) b=k*vR x b:=by
 intro x
 induction x with
 |nil=>intro b;exact (by cases b<;>rfl:vR [] b=0).trans (congrArg (k*·) (by cases b<;>rfl:vR [] b=0)).symm
 |cons a x c=>
  intro b
  cases b with
  |nil=>rfl
  |cons r b=>refine (?_:k*a*r+vR (x.map (k*·)) b=k*(a*r+vR x b));rw [c,Nat.mul_add,Nat.mul_assoc]
noncomputable def vec:List E→List Nat
 |[]=>[]
 |e::r=>e.nat::(bif (match e with|.n _=>true|.z _=>false)then 0 else (-e.int).toNat)::vec r
abbrev ve(ρ:List E):List Nat:=1::vec ρ
theorem Ŀ(x:List Nat):vR x []=0:=by cases x<;>rfl
theorem aCe(a:List Nat):vR [] a=0:=by cases a<;>rfl
theorem Js(x a:List Nat)(r:Nat):vR (0::x) (r::a)=vR x a:=(congrArg (·+vR x a) (aPb r)).trans (iH _)
theorem aH7(a:List Nat)(r:Nat):vR [1] (r::a)=r:=(congrArg (1*r+·) (aCe a)).trans (Nat.one_mul r)
theorem eqD{z:Int}{P N p n:Nat}(a:P=p)(b:N=n)(h:z=(p:Int)-n):z=(P:Int)-N:=by rw [a,b];exact h
theorem aE7(i:Nat):∀b:List E,vR (Rx (2*i)) (vec b)=(get b i).nat∧(get b i).int=(vR (Rx (2*i)) (vec b):Int)-vR (Rx (2*i+1)) (vec b):=by
 induction i with
 |zero=>
  intro b
  cases b with
  |nil=>exact ⟨rfl,rfl⟩
  |cons e b=>
   refine ⟨aH7 _ _,eqD (aH7 _ _) ((Js _ _ _).trans (aH7 _ _)) ?_⟩
   cases e with
   |n a=>exact (I5 _).symm
   |z x=>exact (Int.toNat_sub_toNat_neg x).symm
 |succ i c=>
  intro b
  cases b with
  |nil=>exact ⟨Ŀ _,eqD (Ŀ _) (Ŀ _) rfl⟩
  |cons e b=>exact ⟨((Js _ _ _).trans (Js _ _ _)).trans (c b).1,eqD ((Js _ _ _).trans (Js _ _ _)) ((Js _ _ _).trans (Js _ _ _)) (c b).2⟩
theorem ľ(c:List E):∀e:U,vR e.l (ve c)=e.t c:=by
 intro e
 induction e with
 |v i=>exact (Js _ _ _).trans (aE7 i c).1
 |n k=>exact (congrArg (k*1+·) (aCe _)).trans (D9 k)
 |add a b d f=>exact (pZ _ _ _).trans (cg d f)
 |mul k a g=>exact (Ah k _ _).trans (congrArg (k*·) g)
 |_=>rfl
theorem ad1(a b c d:Int):(a-b)+(c-d)=(a+c)-(b+d):=by simp only [Int.sub_eq_add_neg,Int.neg_add,Int.add_assoc,Int.add_left_comm]
theorem ad2(a b c d:Int):(a-b)-(c-d)=(a+d)-(b+c):=(congrArg (a-b+·) (aPl c d)).trans (ad1 a b d c)
theorem aE6(c:List E):∀e:U,e.z c=(vR (e.w true) (ve c):Int)-vR (e.w false) (ve c):=by
 intro e
 induction e with
 |v i=>exact eqD (Js _ _ _) (Js _ _ _) (aE7 i c).2
 |n k=>exact eqD ((congrArg (k*1+·) (aCe _)).trans (D9 k)) rfl (I5 _).symm
 |add a b d f=>exact eqD (pZ _ _ _) (pZ _ _ _) ((cg d f).trans (ad1 _ _ _ _))
 |sub a b d f=>exact eqD (pZ _ _ _) (pZ _ _ _) ((cg d f).trans (ad2 _ _ _ _))
 |mul k a g=>exact eqD (Ah k _ _) (Ah k _ _) ((congrArg ((k:Int)*·) g).trans (Int.mul_sub _ _ _))
 |neg a g=>exact (congrArg (- ·) g).trans (aPl _ _)
 |cs a=>exact eqD (ľ c a) rfl (I5 _).symm
 |_=>rfl
def lh(a b:U)(z:Bool):List Nat:=bif z then F3 (a.w true) (b.w false)else a.l
theorem Hy(c:List E)(a b:U)(z:Bool):leP c a b z↔vR (lh a b z) (ve c)≤vR (lh b a z) (ve c):=by
 cases z with
 |false=>exact (ľ c a).symm▸(ľ c b).symm▸.rfl
 |true=>refine (pZ (a.w true) (b.w false) (ve c)).symm▸(pZ (b.w true) (a.w false) (ve c)).symm▸?_;unfold leP;rw [aE6 c a,aE6 c b];omega
theorem aH4(c:List E)(a b:U)(z:Bool):eqP c a b z↔leP c a b z∧leP c b a z:=by
 cases z with
 |false=>exact ⟨fun h=>⟨qO h,qO h.symm⟩,fun h=>jD h.1 h.2⟩
 |true=>exact ⟨fun h=>⟨aPe h,aPe h.symm⟩,fun h=>Int.le_antisymm h.1 h.2⟩
noncomputable abbrev Cs:=List (List Nat×List Nat)
abbrev Kn:=Cs→Nat→Option Nat
def up(x:List Nat):List Nat:=F3 [1] x
def rle(a b:List Nat)(p:Bool)(k:Kn)(cs:Cs):Nat→Option Nat:=bif p then k ((a,b)::cs)else k ((up b,a)::cs)
def rbo(x y:Kn):Kn:=fun cs s=>(x cs s).bind (y cs)
def ref:U→Bool→Kn→Kn
 |.v _=>fun _ k=>k
 |.n _=>fun _ k=>k
 |.add _ _=>fun _ k=>k
 |.mul _ _=>fun _ k=>k
 |.sub _ _=>fun _ k=>k
 |.neg _=>fun _ k=>k
 |.cs _=>fun _ k=>k
 |.le z a b=>fun p k=>rle (lh a b z) (lh b a z) p k
 |.eq z a b=>fun p k=>bif p then rle (lh b a z) (lh a b z) true (rle (lh a b z) (lh b a z) true k)else rbo (rle (lh b a z) (lh a b z) false k) (rle (lh a b z) (lh b a z) false k)
 |.and a b=>fun p k=>bif p then ref a p (ref b p k)else rbo (ref a p k) (ref b p k)
 |.or a b=>fun p k=>bif p then rbo (ref a p k) (ref b p k)else ref a p (ref b p k)
 |.imp a b=>fun p k=>bif p then rbo (ref a (!p) k) (ref b p k)else ref a (!p) (ref b p k)
 |.ff=>fun p k=>bif p then fun _ s=>some s else k
 |.df _ _ _=>fun _ k=>k
def tot(b:Nat):Cs→Nat→Nat×List Nat×List Nat
 |[],s=>(s,[],[])
 |c::cs,s=>match tot b cs (s/b)with
  |(s',L,R)=>(s',F3 (c.1.map (s%b*·)) L,F3 (c.2.map (s%b*·)) R)
noncomputable def leL:List Nat→List Nat→Bool
 |[],_=>true
 |r::R,L=>match L with
  |[]=>Eg r 0&&leL R []
  |l::L=>Eg r l&&leL R L
def bad:List Nat→List Nat→Bool
 |[],l::_=>Eg 1 l
 |r::R,l::L=>Eg (r+1) l&&leL R L
 |_,_=>false
def aLu(b:Nat):Kn:=fun cs s=>match tot b cs s with
 |(s',L,R)=>bif bad R L then some s' else none
def Hs(ρ:List E):Cs→Prop
 |[]=>True
 |c::cs=>vR c.1 (ve ρ)≤vR c.2 (ve ρ)∧Hs ρ cs
theorem aF6{a:List E}(b:Nat):∀(cs:Cs)(s:Nat),Hs a cs→vR (tot b cs s).2.1 (ve a)≤vR (tot b cs s).2.2 (ve a):=by
 intro cs
 induction cs with
 |nil=>exact fun _ _=>bG _
 |cons c cs d=>intro s h;refine (?_:vR (F3 _ _) _≤vR (F3 _ _) _);rw [pZ,pZ,Ah,Ah];exact aM2 (Nat.mul_le_mul_left _ h.1) (d _ h.2)
theorem aHb:∀(R L a:List Nat),leL R L=true→vR R a≤vR L a:=by
 intro R
 induction R with
 |nil=>intro L a _;exact bR (qO (aCe a)) (bW _)
 |cons r R b=>
  intro L a h
  cases a with
  |nil=>exact bW _
  |cons x a=>cases L with
   |nil=>have h':=(gG _ _).mp h;refine (?_:r*x+vR R a≤0);rw [Nat.le_zero.mp (tY h'.1),aPb,iH];exact bR (b [] a h'.2) (qO (by cases a<;>rfl))
   |cons l L=>have h':=(gG _ _).mp h;exact aM2 (Nat.mul_le_mul_right _ (tY h'.1)) (b L a h'.2)
theorem aIg:∀(R L a:List Nat),bad R L=true→vR R (1::a)<vR L (1::a):=by
 intro R L a h
 cases L with
 |nil=>cases R<;>exact nomatch h
 |cons l L=>cases R with
  |nil=>exact bT (tY h) (bR (qO (D9 l).symm) (cC _ _))
  |cons r R=>have h':=(gG _ _).mp h;refine (?_:r*1+vR R a<l*1+vR L a);rw [D9,D9];exact Nat.add_lt_add_of_lt_of_le (tY h'.1) (aHb R L a h'.2)
def So(ρ:List E)(q:Prop)(k:Kn):Prop:=∀cs s s',k cs s=some s'→Hs ρ cs→q→False
theorem aA2{a:List E}{q:Prop}(b:Nat):So a q (aLu b):=fun cs s s' e h _=>by
 have c:bad (tot b cs s).2.2 (tot b cs s).2.1=true:=by
  cases d:bad (tot b cs s).2.2 (tot b cs s).2.1 with
  |true=>rfl
  |false=>exact nomatch (congrArg (fun x:Bool=>bif x then some (tot b cs s).1 else none) d).symm.trans e
 exact fF _ (bT (aIg _ _ (vec a) c) (aF6 b cs s h))
theorem ω{x:Option Nat}{f:Nat→Option Nat}{s':Nat}{C:Prop}(e:x.bind f=some s')(k:∀a,x=some a→f a=some s'→C):C:=by
 cases x with
 |none=>exact nomatch e
 |some a=>exact k a rfl e
theorem aF4(a:List E)(x:List Nat):vR (up x) (ve a)=1+vR x (ve a):=(pZ _ _ _).trans rfl
def Hp(p:Bool)(q:Prop):Prop:=match p with
 |true=>q
 |false=>¬q
theorem Hg{c:List E}{q r:Prop}{a b:List Nat}{k:Kn}(i:r↔vR a (ve c)≤vR b (ve c))(p:Bool)(f:So c q k):So c (Hp p r∧q) (rle a b p k):=fun cs s s' e h d=>by
 cases p with
 |true=>exact f _ _ _ e ⟨i.mp d.1,h⟩ d.2
 |false=>exact f _ _ _ e ⟨(aF4 c b).symm▸tO 1 _▸jI fun z=>d.1 (i.mpr z),h⟩ d.2
theorem Ls{a:List E}{q r t:Prop}{x y:Kn}(c:So a q x)(d:So a r y)(h:t→q∨r):So a t (rbo x y):=fun _ _ _ e b f=>ω e fun _ g i=>(h f).elim (c _ _ _ g b) (d _ _ _ i b)
theorem Kd{a:List E}{q r:Prop}{x:Kn}(b:So a q x)(h:r→q):So a r x:=fun cs s s' e c d=>b cs s s' e c (h d)
theorem Î{d:List E}{q:Prop}:∀(f:U)(p:Bool)(k:Kn),So d q k→So d (Hp p (f.p d)∧q) (ref f p k):=by
 intro f
 induction f generalizing q with
 |le z a b=>exact fun p k c=>Hg (Hy d a b z) p c
 |eq z a b=>
  intro p k c;have i:=aH4 d a b z
  cases p with
  |true=>exact Kd (Hg (Hy d b a z) true (Hg (Hy d a b z) true c)) fun h=>⟨(i.mp h.1).2,(i.mp h.1).1,h.2⟩
  |false=>exact Ls (Hg (Hy d b a z) false c) (Hg (Hy d a b z) false c) fun h=>(Nt (leP d a b z)).elim (fun w=>.inl ⟨fun j=>h.1 (i.mpr ⟨w,j⟩),h.2⟩) fun w=>.inr ⟨w,h.2⟩
 |and a b e g=>
  intro p k c
  cases p with
  |true=>exact Kd (e true _ (g true k c)) fun h=>⟨h.1.1,h.1.2,h.2⟩
  |false=>exact Ls (e false k c) (g false k c) fun h=>(Nt (a.p d)).elim (fun w=>.inr ⟨fun j=>h.1 ⟨w,j⟩,h.2⟩) fun w=>.inl ⟨w,h.2⟩
 |or a b e g=>
  intro p k c
  cases p with
  |true=>exact Ls (e true k c) (g true k c) fun h=>h.1.imp (fun w=>⟨w,h.2⟩) fun w=>⟨w,h.2⟩
  |false=>exact Kd (e false _ (g false k c)) fun h=>⟨fun w=>h.1 (.inl w),fun w=>h.1 (.inr w),h.2⟩
 |imp a b e g=>
  intro p k c
  cases p with
  |true=>exact Ls (e false k c) (g true k c) fun h=>(Nt (a.p d)).elim (fun w=>.inr ⟨h.1 w,h.2⟩) fun w=>.inl ⟨w,h.2⟩
  |false=>exact Kd (e true _ (g false k c)) fun h=>⟨fL fun w=>h.1 fun j=>(w j).elim,fun w=>h.1 fun _=>w,h.2⟩
 |ff=>
  intro p k c
  cases p with
  |true=>exact fun _ _ _ _ _ h=>h.1
  |false=>exact Kd c Wu
 |_=>exact fun p k c=>Kd c Wu
noncomputable def opU:Nat→U→U→U
 |0,x,y=>.add x y
 |1,x,y=>.le false x y
 |2,x,y=>.le false (.add x (.n 1)) y
 |3,x,y=>.eq false x y
 |4,x,y=>.and x y
 |5,x,y=>.or x y
 |6,x,y=>.imp x y
 |_,x,y=>.sub x y
noncomputable def Hj:U→Nat
 |.v _=>0
 |.n k=>k
 |.add _ _=>0
 |.mul _ _=>0
 |.sub _ _=>0
 |.neg _=>0
 |.cs _=>0
 |.le _ _ _=>0
 |.eq _ _ _=>0
 |.and _ _=>0
 |.or _ _=>0
 |.imp _ _=>0
 |.ff=>0
 |.df _ _ _=>0
noncomputable def dfV(o:Nat)(a b:U)(ρ:List E):Nat:=bif nL o 0 then a.t ρ-b.t ρ else bif nL o 1 then min (a.t ρ) (b.t ρ)else bif nL o 2 then max (a.t ρ) (b.t ρ)else (a.z ρ).toNat
noncomputable def orU(a b c d:U):U:=.or (.and a b) (.and c d)
def dfU(o:Nat)(a b d:U):U:=bif nL o 0 then orU (.le false b a) (.eq false (.add d b) a) (.le false (.add a (.n 1)) b) (.eq false d (.n 0))else bif nL o 1 then orU (.le false a b) (.eq false d a) (.le false b a) (.eq false d b)else bif nL o 2 then orU (.le false a b) (.eq false d b) (.le false b a) (.eq false d a)else orU (.le true (.n 0) a) (.eq true (.cs d) a) (.le true (.add a (.n 1)) (.n 0)) (.eq false d (.n 0))
theorem lv{x:E}{c:List E}{f:Nat→Nat→Prop}{a b:U}(h:f (a.t c) (b.t c)):f (a.sh.t (x::c)) (b.sh.t (x::c)):=(G9 x c a).symm▸(G9 x c b).symm▸h
theorem lz{x:E}{b:List E}{f:Int→Prop}{a:U}(h:f (a.z b)):f (a.sh.z (x::b)):=(Wx x b a).symm▸h
theorem aMa(o:Nat)(a b:U)(c:List E):(dfU o a.sh b.sh (.v 0)).p (.n (dfV o a b c)::c):=by
 unfold dfU dfV
 cases nL o 0 with
 |true=>exact (tM (a.t c) (b.t c)).symm.imp (fun h=>⟨lv h,(lv (f:=fun x y=>a.t c-b.t c+y=x) (Nat.sub_add_cancel h):_+b.sh.t _=a.sh.t _)⟩) fun h=>⟨lv h,Nat.sub_eq_zero_of_le (lX h)⟩
 |false=>cases nL o 1 with
  |true=>exact (Y3 (a.t c) (b.t c)).imp (fun h=>⟨lv h,(aI4 h).trans (G9 _ _ _).symm⟩) fun h=>⟨lv h,(Ka h).trans (G9 _ _ _).symm⟩
  |false=>cases nL o 2 with
   |true=>exact (Y3 (a.t c) (b.t c)).imp (fun h=>⟨lv h,(Nat.max_eq_right h).trans (G9 _ _ _).symm⟩) fun h=>⟨lv h,(aI5 h).trans (G9 _ _ _).symm⟩
   |false=>exact (Int.lt_or_le (a.z c) 0).symm.imp (fun h=>⟨lz h,(qT h).trans (Wx _ _ _).symm⟩) fun h=>⟨lz (f:=fun x=>x<0) h,Int.toNat_of_nonpos (Int.le_of_lt h)⟩
def stU(s:Nat)(st:List U):List U:=
 bif Eg s 4 then .v s::st else bif nL s 6 then .n 0::st else bif nL s 7 then .n 1::st else bif nL s 18 then .ff::st else
 match st with
 |[]=>[]
 |y::r=>bif Eg 24 s then .n (Hj y*8+(s-24))::r else bif nL s 20 then .neg y::r else bif nL s 21 then .cs y::r else bif nL s 5 then .v (Hj y+5)::r else match r with
  |[]=>[]
  |x::r=>bif nL s 19 then (match r with|[]=>[]|z::r=>.df (Hj y) z x::r)else bif nL s 22 then .le true x y::r else bif nL s 23 then .eq true x y::r else bif Eg s 15 then opU (s-8) x y::r else .mul (Hj x) y::r
def dec:Nat→Nat→List U→List U×Nat
 |0,c,st=>(st,c)
 |m+1,c,st=>bif nL (c%32) 17 then (st,c/32)else dec m (c/32) (stU (c%32) st)
noncomputable def isD:U→Option (Nat×U×U)
 |.v _=>none
 |.n _=>none
 |.add _ _=>none
 |.mul _ _=>none
 |.sub _ _=>none
 |.neg _=>none
 |.cs _=>none
 |.le _ _ _=>none
 |.eq _ _ _=>none
 |.and _ _=>none
 |.or _ _=>none
 |.imp _ _=>none
 |.ff=>none
 |.df o a b=>some (o,a,b)
def dn(g:U):List U→List E→Prop
 |[],ρ=>g.p ρ
 |h::r,ρ=>(isD h).elim (h.p ρ→dn g r ρ) fun x=>dn g r (.n (dfV x.1 x.2.1 x.2.2 ρ)::ρ)
def dnS:List U→List E→Prop
 |[],_=>True
 |g::r,ρ=>dn g r.reverse ρ
def quz:Nat→(List E→Prop)→Prop
 |0,f=>f []
 |m+1,f=>∀{x:Int},quz m fun l=>f (.z x::l)
def qu:Nat→Nat→(List E→Prop)→Prop
 |0,k,f=>quz k f
 |m+1,k,f=>∀{a:Nat},qu m k fun l=>f (.n a::l)
def Den(c:Nat):Prop:=qu (c%16) (c/16%8) (dnS (dec 200 (c/128) []).1)
def aGh:List U→Kn→Kn
 |[],k=>k
 |h::r,k=>aGh r (ref h true k)
def chL(k:Kn)(g:U):List U→List U→Nat→Bool
 |[],fs,s=>(aGh fs (ref g false k) [] s).isSome
 |h::r,fs,s=>(isD h).elim (chL k g r (h::fs) s) fun x=>chL k g r (dfU x.1 x.2.1.sh x.2.2.sh (.v 0)::fs.map U.sh) s
def chS(k:Kn):List U→Nat→Bool
 |[],_=>false
 |g::r,s=>chL k g r.reverse [] s
def chk(c:Nat):Bool:=chS (aLu (2^((dec 200 (c/128) []).2%16))) (dec 200 (c/128) []).1 ((dec 200 (c/128) []).2/16)
def Dn(c:Nat):Prop:=match chk c with
 |true=>Den c
 |false=>True
def Al(ρ:List E):List U→Prop
 |[]=>True
 |f::fs=>f.p ρ∧Al ρ fs
theorem aMn(x:E){b:List E}:∀{a:List U},Al b a→Al (x::b) (a.map U.sh):=by
 intro a
 induction a with
 |nil=>exact id
 |cons f a c=>exact fun h=>⟨(aNk x b f).symm▸h.1,c h.2⟩
theorem ζ{c:List E}{q:Prop}:∀(a:List U)(k:Kn),So c q k→So c (Al c a∧q) (aGh a k):=by
 intro a
 induction a generalizing q with
 |nil=>exact fun k d cs s s' e h b=>d cs s s' e h b.2
 |cons f a g=>exact fun k d cs s s' e h b=>g _ (Î f true k d) cs s s' e h ⟨b.1.2,b.1.1,b.2⟩
theorem el2{X:Type}{o:Option X}{a:Bool}{b:X→Bool}{P:Prop}{Q:X→Prop}(e:o.elim a b=true)(h0:a=true→P)(c:∀x,b x=true→Q x):o.elim P Q:=by
 cases o with
 |none=>exact h0 e
 |some x=>exact c x e
theorem aIb{k:Kn}(d:∀a q,So a q k){g:U}{s:Nat}:∀(l b:List U)(a:List E),chL k g l b s=true→Al a b→dn g l a:=by
 intro l
 induction l with
 |nil=>exact fun b a e al=>fL fun f=>(fX.mp e).elim fun s' i=>ζ b _ (Î g false k (d a True)) [] s s' i trivial ⟨al,f,trivial⟩
 |cons h r c=>exact fun b a e al=>el2 e (fun e j=>c _ _ e ⟨j,al⟩) fun x e=>c _ _ e ⟨aMa x.1 x.2.1 x.2.2 a,aMn _ al⟩
theorem aGi:∀(m:Nat)(f:List E→Prop),(∀b,f b)→quz m f:=by
 intro m
 induction m with
 |zero=>exact fun f h=>h []
 |succ m c=>exact fun f h a=>c _ fun l=>h (.z a::l)
theorem aJv:∀(m k:Nat)(f:List E→Prop),(∀b,f b)→qu m k f:=by
 intro m
 induction m with
 |zero=>exact aGi
 |succ m c=>exact fun k f h a=>c _ _ fun l=>h (.n a::l)
theorem aOe{c:Nat}(h:chk c=true):Den c:=by
 refine aJv _ _ _ fun a=>?_;unfold chk at h
 cases hd:(dec 200 (c/128) []).1 with
 |nil=>exact trivial
 |cons g r=>rw [hd]at h;exact aIb (fun a q=>aA2 _) _ _ a h trivial
theorem _root_.Mine.bE(c:Nat):Dn c:=by
 unfold Dn
 cases h:chk c with
 |true=>exact aOe h
 |false=>exact trivial
noncomputable def _root_.Mine.Rb:=0x39c62a18123420e20ccc7003
noncomputable def _root_.Mine.ln1:=0x128221851212294518ad070052241c73320e20ccc1002
noncomputable def _root_.Mine.ln2:=0x3200000000020100800019000000000100804020000004000000000000000640019000004020198a6083831af190531138d78c532601c6bc624cc838833320e1004
noncomputable def _root_.Mine.Ra:=0xc62908121002
noncomputable def _root_.Mine.ln4:=0xc80000000008040000c80000000008040200000040000000000000c8003200000806629820e0c6bc622601c6bc624cc838833320e1003
noncomputable def _root_.Mine.ln5:=0x68c52102f18c6318e1829c77e7002
noncomputable def _root_.Mine.ln6:=0x38c5420a44800540303
noncomputable def _root_.Mine.ln7:=0x318a42048507002
noncomputable def _root_.Mine.ln8:=0x90918ba4b005213ccc7001
noncomputable def _root_.Mine.ln9:=0xe314880910521003
noncomputable def _root_.Mine.Xs:=0xc62e95aa141ea074941002
noncomputable def _root_.Mine.aLr:=0x1060841821061241848884471811451251448c5683802e92c6248873320e20ccc1002
noncomputable def _root_.Mine.Sw:=0xc636a8507a8141002
noncomputable def _root_.Mine.Xr:=0x318a71df9c09c6766001
noncomputable def _root_.Mine.aHa:=0x68c5224040bc6318c638612718ce79ed9901003
noncomputable def _root_.Mine.aAz:=0x1a3150c8b410480814818901005
noncomputable def _root_.Mine.aAy:=0x1e314e3bf38921128014e7a6003
noncomputable def _root_.Mine.ý:=0xe31573870a8014ff86002
noncomputable def _root_.Mine.aG9:=0x208d462a1814129d89105253112314cc7006
noncomputable def _root_.Mine.Xq:=0xc6291202048901003
noncomputable def _root_.Mine.Sv:=0x18c64900541002
noncomputable def _root_.Mine.aLq:=0x19cd18ad05d188829ca65a0ba3010538968194c80916818901008
noncomputable def _root_.Mine.aAx:=0x318a718c6318c60e056307001
noncomputable def _root_.Mine.aAw:=0xf18a8664a0614004910540304
noncomputable def _root_.Mine.aAv:=0x58c5404082a199681a041004
noncomputable def _root_.Mine.Xp:=0x318a50708121002
noncomputable def _root_.Mine.aLp:=0x19cd18ad07414e4299683a0a700968194c80916818901007
noncomputable def _root_.Mine.aLo:=0xc8004020000640020198a601c6bc61a600c6bc61ccc1003
noncomputable def _root_.Mine.aAu:=0x3c314850703a4b00521002
noncomputable def _root_.Mine.aAt:=0xc6291202838122420e1003
noncomputable def _root_.Mine.aLn:=0x40001c800662900538c1c4980b1af182bc6318c6386003
noncomputable def _root_.Mine.aAs:=0xc6291a0280192340901004
noncomputable def _root_.Mine.ü:=0xc62941c2838121002
noncomputable def _root_.Mine.û:=0x16315080b10541003
noncomputable def _root_.Mine.ú:=0xc637aa02045435002
noncomputable def _root_.Mine.aLm:=0x718a868e70e880b474002a1a39c3a20838b470a786004
noncomputable def _root_.Mine.aG8:=0x12163150c091a041508d331d01003
noncomputable def _root_.Mine.aAr:=0xe31505031280818921004
noncomputable def _root_.Mine.aAq:=0xe31509030282348901004
noncomputable def _root_.Mine.aAp:=0xe314a0e11250700921003
noncomputable def _root_.Mine.aLl:=0x191900203114e39ade36612601c6766128014e7a6003
noncomputable def _root_.Mine.ù:=0xe315044a00921003
noncomputable def _root_.Mine.aLk:=0x1106461c8065518c568201040ccc20ccc838507003
noncomputable def _root_.Mine.aLj:=0xc4160a08c414a51462b02023508d331d0114cc7002
noncomputable def _root_.Mine.ø:=0x618ba4b08141002
noncomputable def _root_.Mine.ö:=0x318daa1a8121002
noncomputable def _root_.Mine.aAo:=0x92c6290094114cc7002
noncomputable def _root_.Mine.aG7:=0x46b8c5201a423508d331d01003
noncomputable def _root_.Mine.Xo:=0xc62a09941002
noncomputable def _root_.Mine.aAn:=0x8ac6291052604cc1002
noncomputable def _root_.Mine.aLi:=0x718a718ce79ed990102719d9829863a6c6bc6002
noncomputable def _root_.Mine.aG6:=0x3d18ac434886940c0810521004
noncomputable def _root_.Mine.aLh:=0x1c629c67bfd990102719d9829863a6c6bc6002
noncomputable def _root_.Mine.aLg:=0x10a1194a315a0234008e92841591021ccc1004
noncomputable def _root_.Mine.aLf:=0x2323902b18a5070112124cc838833320e1003
noncomputable def _root_.Mine.aG5:=0x38c5481882940c4800540304
noncomputable def _root_.Mine.aAm:=0xc62a10122420e1003
noncomputable def _root_.Mine.aLe:=0x36080d258c5420250138d223ccc714cc7002
noncomputable def _root_.Mine.aLd:=0x718a86880b464002a1a20838b460a746004
noncomputable def _root_.Mine.aLc:=0x24cd9111062d6af4602ce05980ae1907001
noncomputable def _root_.Mine.aG4:=0x66315040e92c20520e1002
noncomputable def _root_.Mine.aAl:=0xc31749603241a301
noncomputable def _root_.Mine.aLb:=0x8c8e40ac6290112124cc838833320e1003
noncomputable def _root_.Mine.aAk:=0xc3192c2048507002
noncomputable def _root_.Mine.aLa:=0xd462a094cb41d053086b4106800941006
noncomputable def _root_.Mine.aK9:=0x2c62900538e6b78d982bc6318c6386002
noncomputable def _root_.Mine.aAj:=0x318a90708141002
noncomputable def _root_.Mine.aAi:=0x318a44048901003
noncomputable def _root_.Mine.aK8:=0x212d922b18a401b0c53d98c29ecc6020
noncomputable def _root_.Mine.aK7:=0x2e3148029c60e24882bc6318c6386003
noncomputable def _root_.Mine.aK6:=0x4858c524420e3024881854114cc7004
noncomputable def _root_.Mine.aG3:=0x318a71df9c0ac6766001
noncomputable def _root_.Mine.aK5:=0x1928a71df9c0ac60e14c11a30746002
noncomputable def _root_.Mine.aK4:=0xbe7c6292980929889185241cce1005
noncomputable def _root_.Mine.aK3:=0x318a718ce79ed99010271af1901002
noncomputable def _root_.Mine.aK2:=0xf18a8a64004a185253208818941006
noncomputable def _root_.Mine.aG2:=0x18c5680a0e0420e1002
noncomputable def _root_.Mine.aG1:=0x91462a081213ccc7001
noncomputable def _root_.Mine.aK1:=0x18c5424630702848e70e880747003
noncomputable def _root_.Mine.aK0:=0x4922c18c54013a4b0094114cc7002
noncomputable def _root_.Mine.aKz:=0x944a918ad030a1071814114cc7003
noncomputable def _root_.Mine.aKy:=0x58c5200a71af182bc6318c6386002
noncomputable def _root_.Mine.aKx:=0x1e862a120e1749670244800540303
noncomputable def _root_.Mine.aKw:=0x38c538cecc14a00831829e6f46002
noncomputable def _root_.Mine.aKv:=0xa6315882e928416290710521003
noncomputable def _root_.Mine.aKu:=0x1a314840bc6318c63860a786002
noncomputable def _root_.Mine.aKt:=0xc629c6339e7b6641c09e63c7001
noncomputable def _root_.Mine.aG0:=0xc6291812340901004
noncomputable def _root_.Mine.aAh:=0xc62a08141002
noncomputable def _root_.Mine.aKs:=0x6314e318c6318c1c09c77e7001
noncomputable def _root_.Mine.aKr:=0x4468c52340809089230ccc1003
noncomputable def _root_.Mine.aKq:=0x1618c9621ad064040350901004
noncomputable def _root_.Mine.aKp:=0xe3149108184092206258901005
noncomputable def _root_.Mine.aKo:=0x6314e319cf3db320e04e3a6001
noncomputable def _root_.Mine.aKn:=0xe314e33b3052801829e6f46002
noncomputable def _root_.Mine.aGz:=0xc31749603a41a301
noncomputable def _root_.Mine.aGy:=0xa31749670241a301
noncomputable def _root_.Mine.aKm:=0x318a718c6318e180ac6766001
noncomputable def _root_.Mine.aKl:=0x318a719eff6602719eff66001
noncomputable def _root_.Mine.aKk:=0x78c649189211a44800540304
noncomputable def _root_.Mine.aEx:=0x58c5280904b4008818941005
noncomputable def _root_.Mine.aEw:=0x38c54141d071280250507003
noncomputable def _root_.Mine.aEv:=0x18c5681a048081081a041004
noncomputable def _root_.Mine.aEu:=0x38c5434100a0912340901005
noncomputable def _root_.Mine.aEt:=0x15a4316ace05980ad9907001
noncomputable def _root_.Mine.aEs:=0x78c53ce1c49089400a747003
noncomputable def _root_.Mine.aEr:=0x7462b41c4841c2058901003
noncomputable def _root_.Mine.aEq:=0x1c632481031290310521004
noncomputable def _root_.Mine.aEp:=0x3462a120e05e8c148901003
noncomputable def _root_.Mine.aEo:=0xc629420e208128120e1003
noncomputable def _root_.Mine.aEn:=0x1631563070ac0156307002
noncomputable def _root_.Mine.Vd:=0x118daa0301
noncomputable def _root_.Mine.aEm:=0xc629c77e741c09e63c7001
noncomputable def _root_.Mine.aEl:=0xe3150c091a10710541004
noncomputable def _root_.Mine.aEk:=0xa718a420b54229ecc6091
noncomputable def _root_.Mine.aEj:=0xe31485031240818921004
noncomputable def _root_.Mine.aEi:=0x2314a1081882040901004
noncomputable def _root_.Mine.aEh:=0x318a44808122420e1003
noncomputable def _root_.Mine.aEg:=0x318a9071058a10521003
noncomputable def _root_.Mine.aEf:=0x318a44841c2050901003
noncomputable def _root_.Mine.aEe:=0x318a50741c204a0e1002
noncomputable def _root_.Mine.aEd:=0x318a5031202048901004
noncomputable def _root_.Mine.aEc:=0xd18a8405e8c148901003
noncomputable def _root_.Mine.aEb:=0x318a71df9c09e63c7001
noncomputable def _root_.Mine.aEa:=0x318ab19d9809e6f46001
noncomputable def _root_.Mine.aD9:=0x38c54112802520e1003
noncomputable def _root_.Mine.aD8:=0x3dc62a10d401cce1003
noncomputable def _root_.Mine.aD7:=0x38c5480984a00921003
noncomputable def _root_.Mine.aD6:=0x38c5211240818921004
noncomputable def _root_.Mine.aD5:=0x18c538efce04ff86001
noncomputable def _root_.Mine.ÿ:=0x2314a0e0381
noncomputable def _root_.Mine.þ:=0x231520e0001
end
end Mine.Li
namespace Mine
noncomputable abbrev tX:=dI→Prop
noncomputable abbrev mE:=List jX
noncomputable abbrev nM:=List Nat
noncomputable abbrev gI:=List bO
noncomputable abbrev aW:=List Int
noncomputable abbrev iK:=cY→Prop
abbrev sX:=bO→tX
theorem nn{p:Prop}(h:(p→False)→False):p:=fL h
theorem I8{f g:Type}{a c:f}{b d:g}{P:Prop}(e:some (a,b)=some (c,d))(k:a=c→b=d→P):P:=by cases e;exact k rfl rfl
theorem oQ{b:Type}{a c:b}{P:Prop}(e:some a=some c)(k:a=c→P):P:=by cases e;exact k rfl
theorem soT{f g:Type}{a c:f}{b d:g}{P:Prop}(e:(a,b)=(c,d))(k:a=c→b=d→P):P:=by cases e;exact k rfl rfl
theorem iE{b:Type}{a:b}{P:Prop}(e:aF=some a):P:=by cases e
theorem Lp{b:Type}{a:b}{P:Prop}(e:some a=aF):P:=by cases e
inductive V where
 |none
 |bool (b:Bool)
 |int (i:Int)
 |str (s:jX)
 |tup (l:List V)
 |lst (l:List V)
 |scr (l:List V)
 |mt (l:List V)
 |dct (ks:aW) (vs:List V)
 |set0
 |ref (n:Nat)
 |inst (n:Nat)
 |fn (v:bO)
 |bm (id:String) (self:V)
 deriving Inhabited
mutual
noncomputable def V.pure:V→Bool
 |.tup l=>eB l
 |.lst l=>eB l
 |.scr l=>eB l
 |.mt l=>eB l
 |.dct _ vs=>eB vs
 |.ref _=>false
 |.inst _=>false
 |.bm _ s=>s.pure
 |.none=>true
 |.bool _=>true
 |.int _=>true
 |.str _=>true
 |.set0=>true
 |.fn _=>true
noncomputable def eB:List V→Bool
 |[]=>true
 |d::l=>d.pure&&eB l
end
theorem A2:V.pure (.tup l)=eB l:=rfl
theorem qC:V.pure (.lst l)=eB l:=rfl
theorem Az:V.pure (.none)=true:=rfl
theorem yI:V.pure (.bool a)=true:=rfl
theorem tD:V.pure (.int a)=true:=rfl
theorem xF:V.pure (.str a)=true:=rfl
theorem dT:eB []=true:=rfl
theorem dQ:eB (d::l)=(d.pure&&eB l):=rfl
noncomputable abbrev T3:=Nat×Nat×Nat
structure Cr(A B:aW)(alo ahi blo bhi i j k:Nat):Prop where
 a0:alo≤i
 a1:i+k≤ahi
 b0:blo≤j
 b1:j+k≤bhi
 eq:∀t,t<k→A.getD (i+t) 0=B.getD (j+t) 0
def Iz(p q:Nat×Nat):Prop:=p.1<q.1∨(p.1=q.1∧p.2≤q.2)
structure tV(A B:aW)(alo ahi blo bhi:Nat)(t:T3):Prop where
 zero:t.2.2=0→t=(alo,blo,0)
 cr:0<t.2.2→Cr A B alo ahi blo bhi t.1 t.2.1 t.2.2
 max:∀i j k,0<k→Cr A B alo ahi blo bhi i j k→k≤t.2.2∧(k=t.2.2→Iz (t.1,t.2.1) (i,j))
theorem tV.uniq(x:tV A B alo ahi blo bhi t)(y:tV A B alo ahi blo bhi u):t=u:=by
 obtain ⟨i,j,k⟩:=t;obtain ⟨i',d,a⟩:=u;by_cases h:k=0
 ·by_cases h':a=0
  ·exact (x.zero h).trans (y.zero h').symm
  ·have:=(x.max _ _ _ (dM h') (y.cr (dM h'))).1;simp only at this;exact fJ (bE 0x7218c9200ba4b30566002 h h' this)
 ·by_cases h':a=0
  ·have:=(y.max _ _ _ (dM h) (x.cr (dM h))).1;simp only at this;exact fJ (bE 0xb818c92102cc174966002 h h' this)
  ·obtain ⟨a1,b⟩:=x.max _ _ _ (dM h') (y.cr (dM h'));obtain ⟨b1,c⟩:=y.max _ _ _ (dM h) (x.cr (dM h));simp only at a1 b b1 c;have e:k=a:=bE 0x3a315802900521002 a1 b1;have l1:=b e.symm;have l2:=c e;unfold Iz at l1 l2;simp only at l1 l2;simp only [qN];exact bE 0x206021101884828608514285218250194286318c630c58c5840b2988b189ac490a65886a10dac494c458c4a18961006 e l1 l2
open Classical in
def Mx(A B:aW)(alo ahi blo bhi:Nat):T3:=if h:∃t,tV A B alo ahi blo bhi t then h.choose else (alo,blo,0)
theorem Tj(h:tV A B alo ahi blo bhi t):Mx A B alo ahi blo bhi=t:=by unfold Mx;have a:∃t,tV A B alo ahi blo bhi t:=⟨t,h⟩;rw [dif_pos a];exact a.choose_spec.uniq h
def Jx(A B:aW):Nat→Nat→Nat→Nat→Nat→List T3
 |0,_,_,_,_=>[]
 |f+1,alo,ahi,blo,bhi=>match Mx A B alo ahi blo bhi with
  |(i,j,k)=>if k=0 then[]else Jx A B f alo i blo j++(i,j,k)::Jx A B f (i+k) ahi (j+k) bhi
theorem Ak:Jx A B 0 a b c u4=([]):=rfl
theorem Aj:Jx A B (f+1) alo ahi blo bhi=(match Mx A B alo ahi blo bhi with
 |(i,j,k)=>if k=0 then[]else Jx A B f alo i blo j++(i,j,k)::Jx A B f (i+k) ahi (j+k) bhi):=rfl
noncomputable def glue:T3→List T3→List T3
 |(i,j,k),[]=>if k=0 then[]else[(i,j,k)]
 |(i,j,k),(i',j',k')::r=>if i+k=i'∧j+k=j' then glue (i,j,k+k') r else if k=0 then glue (i',j',k') r else (i,j,k)::glue (i',j',k') r
theorem Dq:glue (i,j,k) []=(if k=0 then[]else[(i,j,k)]):=rfl
theorem Dp:glue (i,j,k) ((i',a,b)::r)=(if i+k=i'∧j+k=a then glue (i,j,k+b) r else if k=0 then glue (i',a,b) r else (i,j,k)::glue (i',a,b) r):=rfl
def mbs(A B:aW):List T3:=glue (0,0,0) (Jx A B A.length 0 A.length 0 B.length)++[(A.length,B.length,0)]
inductive mU where
 |replace|delete|insert|equal
 deriving DecidableEq,Inhabited
noncomputable abbrev Iw:=mU×Nat×Nat×Nat×Nat
noncomputable def xG:Nat→Nat→List T3→List Iw
 |_,_,[]=>[]
 |i,j,(ai,bj,k)::r=>(if i<ai∧j<bj then[(mU.replace,i,ai,j,bj)]else if i<ai then[(mU.delete,i,ai,j,bj)]else if j<bj then[(mU.insert,i,ai,j,bj)]else[])++
   (if k=0 then[]else[(mU.equal,ai,ai+k,bj,bj+k)])++xG (ai+k) (bj+k) r
theorem Gm:xG a b []=([]):=rfl
theorem Gl:xG i j ((a,b,k)::r)=((if i<a∧j<b then[(mU.replace,i,a,j,b)]else if i<a then[(mU.delete,i,a,j,b)]else if j<b then[(mU.insert,i,a,j,b)]else[])++
  (if k=0 then[]else[(mU.equal,a,a+k,b,b+k)])++xG (a+k) (b+k) r):=rfl
def ops(A B:aW):List Iw:=xG 0 0 (mbs A B)
noncomputable def mU.s:mU→jX
 |.replace=>aC "replace"
 |.delete=>aC "delete"
 |.insert=>aC "insert"
 |.equal=>aC "equal"
noncomputable def vN(n:Nat):V:=.int n
noncomputable def vL(l:aW):V:=.lst (l.map V.int)
def xZ(t:T3):V:=.mt [vN t.1,vN t.2.1,vN t.2.2]
def C5(t:Iw):V:=.tup [.str t.1.s,vN t.2.1,vN t.2.2.1,vN t.2.2.2.1,vN t.2.2.2.2]
def yE(A B:aW):V:=.lst ((mbs A B).map xZ)
def yD(A B:aW):V:=.lst ((ops A B).map C5)
noncomputable def iT(k:Int):Nat→aW→nM
 |_,[]=>[]
 |i,x::r=>if x=k then i::iT k (i+1) r else iT k (i+1) r
theorem yM:iT k a []=([]):=rfl
theorem yL:iT k i (x::r)=(if x=k then i::iT k (i+1) r else iT k (i+1) r):=rfl
structure Iy where
 a:Option aW
 b:Option aW
 auto:Bool
def vS:Option aW→V
 |some l=>vL l
 |aF=>.str (aC "")
noncomputable def oM:List (jX×V)→jX→Option V
 |[],_=>aF
 |(x,v)::r,s=>if s=x then some v else oM r s
theorem Hw:oM [] a=(aF):=rfl
theorem Hv:oM ((x,v)::r) s=(if s=x then some v else oM r s):=rfl
def sY(b:aW)(v:V):Prop:=∃ks vs,v=.dct ks vs∧ks.length=vs.length∧∀k,(ks.zip vs).lookup k=if iT k 0 b=[]then aF else some (.lst ((iT k 0 b).map vN))
structure B3(m:Iy)(as:List (jX×V)):Prop where
 pure:∀p∈as,p.2.pure=true
 junk:oM as (aC "isjunk")=some .none
 a:oM as (aC "a")=some (vS m.a)
 b:oM as (aC "b")=some (vS m.b)
 auto:oM as (aC "autojunk")=some (.bool m.auto)
 bjunk:oM as (aC "bjunk")=some .set0
 b2j:∃c,oM as (aC "b2j")=some c∧sY (m.b.getD []) c
 mb:oM as (aC "matching_blocks")=some .none∨(∃A B,m.a=some A∧m.b=some B∧oM as (aC "matching_blocks")=some (yE A B))
 oc:oM as (aC "opcodes")=some .none∨(∃A B,m.a=some A∧m.b=some B∧oM as (aC "opcodes")=some (yD A B))
section
set_option backward.match.sparseCases false
noncomputable abbrev qM:=Option V
noncomputable abbrev cG:=List V
noncomputable abbrev lT:=List (jX×V)
noncomputable abbrev mS:=List (Nat×cY)
noncomputable def lk{α:Type}:List (Nat×α)→Nat→Option α
 |[],_=>aF
 |(y,a)::r,x=>if x=y then some a else lk r x
theorem fN{a:Type}{b:Nat}:lk ([]:List (Nat×a)) b=(aF):=rfl
theorem fM{b:Type}{y:Nat}{a:b}{r:List (Nat×b)}{x:Nat}:lk ((y,a)::r) x=(if x=y then some a else lk r x):=rfl
noncomputable def lQ{α:Type}(x:Nat)(a:α):List (Nat×α)→List (Nat×α)
 |[]=>[(x,a)]
 |(y,b)::r=>if x=y then (x,a)::r else (y,b)::lQ x a r
theorem Ð{b:Type}{x:Nat}{a:b}:lQ x a []=([(x,a)]):=rfl
theorem Ï{c:Type}{x:Nat}{a:c}{y:Nat}{b:c}{r:List (Nat×c)}:lQ x a ((y,b)::r)=(if x=y then (x,a)::r else (y,b)::lQ x a r):=rfl
theorem kU{c:Type}(x:Nat)(a:c):∀(l:List (Nat×c))(y:Nat),lk (lQ x a l) y=if y=x then some a else lk l y:=by
 intro g
 induction g with
 |nil=>intro y;rfl
 |cons i r j=>
  obtain ⟨z,b⟩:=i;intro y;simp only [Ð,Ï];by_cases h:x=z
  ·subst h;rw [if_pos rfl];by_cases d:y=x
   ·simp [fN,fM,d]
   ·simp [fN,fM,d]
  ·rw [if_neg h];by_cases f:y=z
   ·subst f;have:y≠x:=fun e=>h e.symm;simp [fN,fM,this]
   ·simp only [fN,fM,if_neg f];exact j y
theorem Ā{c:Type}{a:c}:∀{l:List (Nat×c)}{x:Nat},lk l x=some a→(x,a)∈l:=by
 intro d
 induction d with
 |nil=>intros;first|contradiction|(rename_i h;cases h;done)
 |cons f r g=>
  obtain ⟨y,b⟩:=f;intro x;intro h;simp only [fN,fM]at h;split at h
  ·rename_i e;subst e;cases h;exact aR
  ·exact aQ _ (g h)
noncomputable def ob{α β:Type}(x:Option α)(f:α→Option β):Option β:=match x with
 |some a=>f a
 |aF=>aF
structure IfC{β:Type}(c:Prop)(x:Option β)(r:β):Prop where
 left:c
 right:x=some r
theorem iS{a:Type}{c:Prop}[Decidable c]{x:Option a}{r:a}(e:(if c then x else aF)=some r):IfC c x r:=by
 by_cases h:c
 ·rw [if_pos h]at e;exact ⟨h,e⟩
 ·rw [if_neg h]at e;exact iE e
inductive aOw{α β:Type}(x:Option α)(f:α→Option β)(r:β):Prop
 |mk (a:α) (e:x=some a) (q:f a=some r)
theorem dO{a b:Type}{x:Option a}{f:a→Option b}{r:b}(e:ob x f=some r):aOw x f r:=by
 cases x with
 |none=>(exact iE e)
 |some p=>exact ⟨p,rfl,e⟩
noncomputable def yA:cY:=242
noncomputable def rY:cY:=135
inductive vI(h:dS)(a:cY):Prop
 |mk (o:wJ) (e:h.get? a=some o)
inductive Bn(h:dS)(a:cY)(items:Array bO):Prop
 |mk (o:wJ) (e:h.get? a=some o) (r:o.cls=.ref rY∧∃n,o.data=.seq items n)
inductive D5(h:dS)(a:cY)(ks:aW)(xs:gI):Prop
 |mk (f:Int→Option bO) (m:h.IntMap a f) (o:∀o,h.get? a=some o→o.dict=aF∧o.slots= #[]) (l:h.DictLe a ks.length) (q:ks.length=xs.length∧∀k,f k=(ks.zip xs).lookup k)
def T4(h:dS)(a:cY):Prop:=∃jb:Bool,h.get? a=some {cls:=.type "set",dict:=aF,data:=.set #[] 0 (.fresh 0 0 jb)}
inductive aO1(h:dS)(a:cY)(id:String)(self:bO):Prop
 |mk (o:wJ) (e:h.get? a=some o) (r:o.cls=.type "builtin_function_or_method"∧o.dict=aF∧o.data=.fields #[.builtin id,self])
def aOy(h:dS)(a:cY)(xs:gI):Prop:=∃k,IsT h a (bD xs) k
def aMv(h:dS)(a:cY)(xs:gI):Prop:=∃k,IsL h a (bD xs) k
def aOz(h:dS)(a:cY)(xs:gI):Prop:=h.IsList a (bD xs)
def aO0(h:dS)(a:cY)(xs:gI):Prop:=Bn h a (bD xs)
def aMw(h:dS)(ks:aW)(a:cY)(xs:gI):Prop:=D5 h a ks xs
inductive Za(P:cY→gI→Prop)(Y:iK)(v:bO)(L:gI→Prop):Prop
 |mk (a:cY) (xs:gI) (e:v=.ref a) (ny:¬Y a) (p:P a xs) (r:L xs)
inductive aFg(P:bO→Prop)(L:gI→Prop)(xs:gI):Prop
 |mk (x:bO) (r:gI) (e:xs=x::r) (p:P x) (q:L r)
inductive aOv(D:mS)(n:Nat)(v:bO):Prop
 |mk (a:cY) (e:v=.ref a) (d:lk D n=some a)
inductive aMq(D:mS)(Y:iK)(h:dS)(n:Nat)(v:bO):Prop
 |mk (a x:cY) (e:v=.ref x) (ny:¬Y x) (d:lk D n=some a) (o:h.get? x=some (instObj yA a))
inductive RBm(Y:iK)(h:dS)(id:String)(v:bO)(L:bO→Prop):Prop
 |mk (a:cY) (u:bO) (e:v=.ref a) (ny:¬Y a) (b:aO1 h a id u) (r:L u)
mutual
def gQ(D:mS)(Y:iK)(h:dS):V→bO→Prop
 |.none,v=>v=.none
 |.bool b,v=>v=.bool b
 |.int i,v=>∃t,v=.int i t
 |.str s,v=>∃t,v=.str s t
 |.tup l,v=>Za (aOy h) Y v (bS D Y h l)
 |.lst l,v=>Za (aMv h) Y v (bS D Y h l)
 |.scr l,v=>Za (aOz h) Y v (bS D Y h l)
 |.mt l,v=>Za (aO0 h) Y v (bS D Y h l)
 |.dct ks vs,v=>Za (aMw h ks) Y v (bS D Y h vs)
 |.set0,v=>∃a,v=.ref a∧¬Y a∧T4 h a
 |.ref n,v=>aOv D n v
 |.inst n,v=>aMq D Y h n v
 |.fn u,v=>v=u
 |.bm id s,v=>RBm Y h id v (gQ D Y h s)
def bS(D:mS)(Y:iK)(h:dS):cG→gI→Prop
 |[],xs=>xs=[]
 |d::l,xs=>aFg (gQ D Y h d) (bS D Y h l) xs
end
theorem pJ{D:mS}{Y:iK}{h:dS}{xs}:bS D Y h [] xs=(xs=[]):=rfl
theorem pI{D:mS}{Y:iK}{h:dS}{d l xs}:bS D Y h (d::l) xs=aFg (gQ D Y h d) (bS D Y h l) xs:=rfl
theorem vI.no{h:dS}{a:cY}{C:Prop}(x:vI h a)(e:h.get? a=aF):C:=by
 cases x with
 |mk o b=>exact iE (e.symm.trans b)
theorem D5.keep{h h':dS}{a:cY}{ks:aW}{xs:gI}(x:D5 h a ks xs)(c:∀o,h.get? a=some o→h'.get? a=some o):D5 h' a ks xs:=by refine nn fun g=>?_;obtain ⟨f,⟨o,es,i,b,r⟩,ex,le,e⟩:=x;refine g ?_;exact ⟨f,⟨o,es,i,c o b,r⟩,fun j d=>by (replace d:=(c o b)▸d;cases d;exact ex o b),le.of_same b (c o b),e⟩
theorem D5.lt{h:dS}{a:cY}{ks:aW}{xs:gI}(x:D5 h a ks xs):vI h a:=by obtain ⟨f,⟨o,es,c,b,r⟩,_⟩:=x;exact ⟨o,b⟩
section
variable{D D':mS}{Y Y':iK}{h h':dS}
theorem vB{a:cY}{o:wJ}(b:∀a,Y' a→Y a∨h.get? a=aF)(c:h.get? a=some o)(d:¬Y a):¬Y' a:=fun m=>(b a m).elim d fun e=>by replace e:=c▸e;cases e
mutual
theorem gQ.step(g:∀b o,h.get? b=some o→¬Y b→h'.get? b=some o)(j:∀n a,lk D n=some a→lk D' n=some a)(i:∀a,Y' a→Y a∨h.get? a=aF):
  ∀(d:V)(v:bO),gQ D Y h d v→gQ D' Y' h' d v
 |.none,v,x=>x
 |.bool _,v,x=>x
 |.int _,v,x=>x
 |.str _,v,x=>x
 |.fn _,v,x=>x
 |.tup l,v,x=>by obtain ⟨a,xs,rfl,f,⟨k,c⟩,y⟩:=x;exact ⟨a,xs,rfl,vB i c f,⟨k,g a _ c f⟩,bS.step g j i l xs y⟩
 |.lst l,v,x=>by obtain ⟨a,xs,rfl,f,⟨k,c⟩,y⟩:=x;exact ⟨a,xs,rfl,vB i c f,⟨k,g a _ c f⟩,bS.step g j i l xs y⟩
 |.scr l,v,x=>by obtain ⟨a,xs,rfl,f,⟨o,c,r⟩,y⟩:=x;exact ⟨a,xs,rfl,vB i c f,⟨o,g a o c f,r⟩,bS.step g j i l xs y⟩
 |.mt l,v,x=>by obtain ⟨a,xs,rfl,f,⟨o,c,r⟩,y⟩:=x;exact ⟨a,xs,rfl,vB i c f,⟨o,g a o c f,r⟩,bS.step g j i l xs y⟩
 |.dct ks vs,v,x=>by obtain ⟨a,xs,rfl,f,z,y⟩:=x;obtain ⟨o,c⟩:=z.lt;exact ⟨a,xs,rfl,vB i c f,z.keep fun p t=>g a p t f,bS.step g j i vs xs y⟩
 |.set0,v,x=>by obtain ⟨a,rfl,f,A,c⟩:=x;exact ⟨a,rfl,vB i c f,A,g a _ c f⟩
 |.ref n,v,x=>by obtain ⟨a,rfl,e⟩:=x;exact ⟨a,rfl,j _ _ e⟩
 |.inst n,v,x=>by obtain ⟨a,y,rfl,m,e,c⟩:=x;exact ⟨a,y,rfl,vB i c m,j _ _ e,g y _ c m⟩
 |.bm id s,v,x=>by obtain ⟨a,u,rfl,f,⟨o,c,r⟩,y⟩:=x;exact ⟨a,u,rfl,vB i c f,⟨o,g a o c f,r⟩,gQ.step g j i s u y⟩
theorem bS.step(c:∀b o,h.get? b=some o→¬Y b→h'.get? b=some o)(e:∀n a,lk D n=some a→lk D' n=some a)(f:∀a,Y' a→Y a∨h.get? a=aF):
  ∀(l:cG)(xs:gI),bS D Y h l xs→bS D' Y' h' l xs
 |[],xs,x=>x
 |d::l,xs,x=>by obtain ⟨u,r,rfl,y,z⟩:=x;exact ⟨u,r,rfl,gQ.step c e f d u y,bS.step c e f l r z⟩
end
end
theorem bS.length{D:mS}{Y:iK}{h:dS}:∀{l:cG}{xs:gI},bS D Y h l xs→xs.length=l.length:=by
 intro a
 induction a with
 |nil=>intro xs;intro x;subst x;rfl
 |cons d l b=>intro xs;intro x;obtain ⟨u,r,rfl,_,z⟩:=x;simp [b z]
theorem bS.get{D:mS}{Y:iK}{h:dS}:∀{l:cG}{xs:gI},bS D Y h l xs→∀{i:Nat}{d:V},l[i]?=some d→∃x,xs[i]?=some x∧gQ D Y h d x:=by
 intro a
 induction a with
 |nil=>intro _;intro _;intro i;intro d;intro e;simp at e
 |cons d l b=>
  intro xs;intro x;intro i;intro c;intro e;obtain ⟨u,r,rfl,y,z⟩:=x
  cases i with
  |zero=>simp at e;subst e;exact ⟨u,rfl,y⟩
  |succ i=>exact b z (by exact e)
theorem bS.append{D:mS}{Y:iK}{h:dS}:∀{l:cG}{xs:gI}{l':cG}{b:gI},bS D Y h l xs→bS D Y h l' b→bS D Y h (l++l') (xs++b):=by
 intro c
 induction c with
 |nil=>intro xs;intro l';intro b;intro x;intro y;subst x;exact y
 |cons d l e=>intro xs;intro l';intro b;intro x;intro y;obtain ⟨u,r,rfl,a,z⟩:=x;exact ⟨u,r++b,rfl,a,e z y⟩
theorem bS.take{D:mS}{Y:iK}{h:dS}:∀(n:Nat){l:cG}{xs:gI},bS D Y h l xs→bS D Y h (l.take n) (xs.take n):=by
 intro b
 induction b with
 |zero=>intro l;intro xs;intro _;rfl
 |succ n e=>
  intro c
  cases c with
  |nil=>intro xs;intro x;subst x;rfl
  |cons d l=>intro xs;intro x;obtain ⟨u,r,rfl,a,z⟩:=x;exact ⟨u,r.take n,rfl,a,e z⟩
theorem bS.drop{D:mS}{Y:iK}{h:dS}:∀(n:Nat){l:cG}{xs:gI},bS D Y h l xs→bS D Y h (l.drop n) (xs.drop n):=by
 intro e
 induction e with
 |zero=>intro l;intro xs;intro x;exact x
 |succ n b=>
  intro c
  cases c with
  |nil=>intro xs;intro x;subst x;rfl
  |cons d l=>intro xs;intro x;obtain ⟨u,r,rfl,a,z⟩:=x;exact b z
theorem bS.nil{D:mS}{Y:iK}{h:dS}:bS D Y h [] []:=by simp [pJ,pI]
theorem bS.cons{D:mS}{Y:iK}{h:dS}{d:V}{l:cG}{x:bO}{r:gI}(a:gQ D Y h d x)(b:bS D Y h l r):bS D Y h (d::l) (x::r):=by exact ⟨x,r,rfl,a,b⟩
inductive gC where
 |list (vs:cG)
 |dict (ks:aW) (vs:cG)
 |attrs (as:lT)
 |mat (m:Iy)
 deriving Inhabited
def liC:gC→Option cG
 |.list l=>some l
 |_=>aF
noncomputable def sH:mE:=[aC "isjunk",aC "a",aC "b",aC "autojunk",aC "matching_blocks",aC "opcodes",aC "fullbcount",aC "b2j",aC "bjunk",aC "bpopular"]
inductive aIr(D:mS)(Y:iK)(h:dS)(m:jX→Option bO)(p:jX×V):Prop
 |mk (u:bO) (e:m p.1=some u) (r:gQ D Y h p.2 u)
inductive Qy(D:mS)(Y:iK)(h:dS)(a:cY)(as:lT):Prop
 |mk (m:jX→Option bO) (n:h.Ns1 a m) (w:Within m sH) (r:∀p∈as,aIr D Y h m p)
inductive CAt(P:cY→gI→Prop)(a:cY)(L:gI→Prop):Prop
 |mk (xs:gI) (p:P a xs) (r:L xs)
inductive aO5(D:mS)(Y:iK)(h:dS)(a:cY)(m:Iy):Prop
 |mk (as:lT) (ok:B3 m as) (r:Qy D Y h a as)
def jB(D:mS)(Y:iK)(h:dS)(a:cY):gC→Prop
 |.list vs=>CAt (aMv h) a (bS D Y h vs)
 |.dict ks vs=>CAt (aMw h ks) a (bS D Y h vs)
 |.attrs as=>Qy D Y h a as
 |.mat m=>aO5 D Y h a m
inductive qL where
 |loc (L:cY)
 |cel (c:cY)
noncomputable def qL.adr:qL→cY
 |.loc L=>L
 |.cel c=>c
def Holds(h:dS):qL→jX→bO→Prop
 |.loc L,s,u=>∃m,h.Ns L m∧m s=some u
 |.cel c,_,u=>h.IsCell c (some u)
def uK(h:dS):qL→Prop
 |.loc L=>∃m,h.Ns L m
 |.cel c=>∃u,h.IsCell c u
structure Fx where
 env:Env
 bnd:List (Nat×qL×jX)
 Z:List cY
structure St where
 loc:List (Nat×V)
 cells:List (Nat×gC)
 next:Nat
structure iY(F:Fx):Prop where
 kind:F.env.scope.kind=.function
 inZ:∀x p s,lk F.bnd x=some (p,s)→p.adr∈F.Z
 dist:∀x y p s p' s',lk F.bnd x=some (p,s)→lk F.bnd y=some (p',s')→x≠y→p.adr≠p'.adr∨∃L,p=.loc L∧p'=.loc L∧s≠s'
def Yf(F:Fx)(X:iK)(D:mS)(a:cY):Prop:=a∈F.Z∨X a∨∃n,lk D n=some a
def jK(N:List cY)(X:iK):iK:=fun a=>a∈N∨X a
theorem Zk{F:Fx}{N:List cY}{X:iK}{D:mS}{a:cY}(e:Yf F X D a):Yf F (jK N X) D a:=e.imp id (Or.imp .inr id)
theorem Et{c:Type}{P:c→Prop}{a:c}(h:P a):∀b∈[a],P b:=fun _ d=>aM.mp d▸h
inductive aMs(F:Fx)(X:iK)(D:mS)(h:dS)(x:Nat)(v:V):Prop
 |mk (p:qL) (s:jX) (u:bO) (e1:lk F.bnd x=some (p,s)) (e2:Holds h p s u) (e3:gQ D (Yf F X D) h v u)
inductive aMz(F:Fx)(X:iK)(D:mS)(h:dS)(n:Nat)(c:gC):Prop
 |mk (a:cY) (e1:lk D n=some a) (e2:jB D (Yf F X D) h a c)
structure aMo(F:Fx)(X:iK)(h:dS)(n:Nat)(a:cY)(k:Nat):Prop where
 z:a∉F.Z
 x:¬X a
 b:S.heap.get? a=aF
 h:vI h a
 l:n<k
structure jN(F:Fx)(X:iK)(D:mS)(σ:St)(h:dS):Prop where
 base:∀b o,S.heap.get? b=some o→h.get? b=some o
 loc:∀x v,lk σ.loc x=some v→aMs F X D h x v
 frm:∀x p s,lk F.bnd x=some (p,s)→uK h p
 cel:∀n c,lk σ.cells n=some c→aMz F X D h n c
 inj:∀n m a,lk D n=some a→lk D m=some a→n=m
 sep:∀n a,lk D n=some a→aMo F X h n a σ.next
 zfr:∀a∈F.Z,S.heap.get? a=aF∧vI h a
 xal:∀a,X a→vI h a
theorem jN.yal{F:Fx}{X:iK}{D:mS}{σ:St}{h:dS}(m:jN F X D σ h){a:cY}(q:Yf F X D a):vI h a:=by
 rcases q with z|z|⟨j,z⟩
 ·exact (m.zfr a z).2
 ·exact m.xal a z
 ·exact (m.sep j a z).h
structure pC(F:Fx)(D:mS)(h:dS)(D':mS)(h':dS):Prop where
 keep:∀b o,h.get? b=some o→b∉F.Z→(∀n,lk D n≠some b)→h'.get? b=some o
 ext:∀n a,lk D n=some a→lk D' n=some a
 new:∀n a,lk D' n=some a→lk D n=some a∨h.get? a=aF
 al:∀b o,h.get? b=some o→vI h' b
theorem pC.refl{F:Fx}{D:mS}{h:dS}:pC F D h D h:=⟨fun _ _ e _ _=>e,fun _ _ e=>e,fun _ _ e=>.inl e,fun _ o e=>⟨o,e⟩⟩
theorem pC.trans{F:Fx}{D D₁ D₂:mS}{h h₁ f:dS}(x:pC F D h D₁ h₁)(y:pC F D₁ h₁ D₂ f):pC F D h D₂ f:=by
 refine ⟨fun b o e g i=>?_,fun n a e=>y.ext n a (x.ext n a e),fun n a e=>?_,fun b o e=>let ⟨c,d⟩:=x.al b o e;y.al b c d⟩
 ·refine y.keep b o (x.keep b o e g i) g fun n d=>?_;rcases x.new n b d with q|q
  ·exact i n q
  ·replace q:=e▸q;cases q
 ·rcases y.new n a e with q|q
  ·exact x.new n a q
  ·refine .inr ?_
   cases j:h.get? a with
   |none=>rfl
   |some c=>obtain ⟨o,k⟩:=x.al a c j;replace q:=k▸q;cases q
theorem gQ.on{F:Fx}{X:iK}{D D':mS}{σ:St}{h h':dS}{d:V}{v:bO}(m:jN F X D σ h)(x:pC F D h D' h')(r:gQ D (Yf F X D) h d v):gQ D' (Yf F X D') h' d v:=by
 refine gQ.step (fun b o e c=>x.keep b o e (fun q=>c (.inl q)) fun n q=>c (.inr (.inr ⟨n,q⟩))) x.ext (fun a f=>?_) d v r;rcases f with q|q|⟨n,q⟩
 ·exact .inl (.inl q)
 ·exact .inl (.inr (.inl q))
 ·rcases x.new n a q with q|q
  ·exact .inl (.inr (.inr ⟨n,q⟩))
  ·exact .inr q
theorem bS.on{F:Fx}{X:iK}{D D':mS}{σ:St}{h h':dS}{d:cG}{v:gI}(m:jN F X D σ h)(x:pC F D h D' h')(r:bS D (Yf F X D) h d v):bS D' (Yf F X D') h' d v:=by
 refine bS.step (fun b o e c=>x.keep b o e (fun q=>c (.inl q)) fun n q=>c (.inr (.inr ⟨n,q⟩))) x.ext (fun a f=>?_) d v r;rcases f with q|q|⟨n,q⟩
 ·exact .inl (.inl q)
 ·exact .inl (.inr (.inl q))
 ·rcases x.new n a q with q|q
  ·exact .inl (.inr (.inr ⟨n,q⟩))
  ·exact .inr q
theorem Holds.keep{h h':dS}{p:qL}{s:jX}{u:bO}(x:Holds h p s u)(b:∀o,h.get? p.adr=some o→h'.get? p.adr=some o):Holds h' p s u:=by
 cases p with
 |loc L=>refine nn fun d=>?_;obtain ⟨m,⟨o,a1,f,a,r⟩,e⟩:=x;refine d ?_;exact ⟨m,⟨o,a1,f,b o a,r⟩,e⟩
 |cel c=>obtain ⟨o,a,r⟩:=x;exact ⟨o,b o a,r⟩
theorem uK.keep{h h':dS}{p:qL}(x:uK h p)(b:∀o,h.get? p.adr=some o→h'.get? p.adr=some o):uK h' p:=by
 cases p with
 |loc L=>obtain ⟨m,⟨o,a1,d,a,r⟩⟩:=x;exact ⟨m,⟨o,a1,d,b o a,r⟩⟩
 |cel c=>obtain ⟨u,o,a,r⟩:=x;exact ⟨u,o,b o a,r⟩
theorem Ns.keep1{h h':dS}{a:cY}{m:jX→Option bO}(x:h.Ns a m)(b:∀o,h.get? a=some o→h'.get? a=some o):h'.Ns a m:=by refine nn fun c=>?_;obtain ⟨o,a1,d,e,r⟩:=x;refine c ?_;exact ⟨o,a1,d,b o e,r⟩
theorem jB.on{D D':mS}{Y Y':iK}{h h':dS}{a:cY}{c:gC}(i:∀d v,gQ D Y h d v→gQ D' Y' h' d v)(j:∀d v,bS D Y h d v→bS D' Y' h' d v)(b:∀o,h.get? a=some o→h'.get? a=some o)(x:jB D Y h a c):jB D' Y' h' a c:=by
 cases c with
 |list vs=>obtain ⟨xs,⟨k,l⟩,y⟩:=x;exact ⟨xs,⟨k,b _ l⟩,j _ _ y⟩
 |dict ks vs=>obtain ⟨xs,z,y⟩:=x;exact ⟨xs,z.keep b,j _ _ y⟩
 |attrs as=>obtain ⟨m,f,le,y⟩:=x;exact ⟨m,f.at b,le,fun p g=>let ⟨u,e,z⟩:=y p g;⟨u,e,i _ _ z⟩⟩
 |mat n=>obtain ⟨as,ok,m,f,le,y⟩:=x;exact ⟨as,ok,m,f.at b,le,fun p g=>let ⟨u,e,z⟩:=y p g;⟨u,e,i _ _ z⟩⟩
theorem jN.grow{F:Fx}{X:iK}{D:mS}{σ:St}{h h':dS}(m:jN F X D σ h)(d:∀b o,h.get? b=some o→h'.get? b=some o):jN F X D σ h' where
 base:=fun b o e=>d b o (m.base b o e)
 loc:=fun x v e=>let ⟨p,s,u,g,i,j⟩:=m.loc x v e;⟨p,s,u,g,i.keep fun o=>d _ o,gQ.step (fun b o e _=>d b o e) (fun _ _ e=>e) (fun _ e=>.inl e) _ _ j⟩
 frm:=fun x p s e=>(m.frm x p s e).keep fun o=>d _ o
 cel:=fun n c e=>let ⟨a,g,i⟩:=m.cel n c e;⟨a,g,i.on (fun _ _=>gQ.step (fun b o e _=>d b o e) (fun _ _ e=>e) (fun _ e=>.inl e) _ _) (fun _ _=>bS.step (fun b o e _=>d b o e) (fun _ _ e=>e) (fun _ e=>.inl e) _ _) fun o=>d _ o⟩
 inj:=m.inj
 sep:=fun n a e=>let ⟨a1,f,k,⟨o,l⟩,r⟩:=m.sep n a e;⟨a1,f,k,⟨o,d _ _ l⟩,r⟩
 zfr:=fun a e=>let ⟨a1,o,f⟩:=m.zfr a e;⟨a1,o,d _ _ f⟩
 xal:=fun a e=>let ⟨o,f⟩:=m.xal a e;⟨o,d _ _ f⟩
theorem pC.grow{F:Fx}{D:mS}{h h':dS}(a:∀b o,h.get? b=some o→h'.get? b=some o):pC F D h D h':=⟨fun b o e _ _=>a b o e,fun _ _ e=>e,fun _ _ e=>.inl e,fun b o e=>⟨o,a b o e⟩⟩
theorem dL(h:dS)(o:wJ):∀b a,h.get? b=some a→(h.push o).get? b=some a:=fun _ _ e=>cK o e
theorem fE(h:dS):h.get? h.objs.size=aF:=by
 cases e:h.get? h.objs.size with
 |none=>rfl
 |some o=>exact absurd (dR e) (fF _)
theorem jN.cell{F:Fx}{X:iK}{D:mS}{σ:St}{h h':dS}{a:cY}{c:gC}(m:jN F X D σ h)(g:∀b o,h.get? b=some o→h'.get? b=some o)(i:h.get? a=aF)(J:vI h' a)
  (L:∀D' Y',(∀d v,gQ D (Yf F X D) h d v→gQ D' Y' h' d v)→(∀d v,bS D (Yf F X D) h d v→bS D' Y' h' d v)→jB D' Y' h' a c):
  jN F X ((σ.next,a)::D) {σ with cells:=(σ.next,c)::σ.cells,next:=σ.next+1} h'∧pC F D h ((σ.next,a)::D) h':=by
 have C:∀n b,lk D n=some b→lk ((σ.next,a)::D) n=some b:=fun n b e=>by simp [fN,fM,(fun n b e=>fW (m.sep n b e).l) n b e,e]
 have G:∀n b,lk D n=some b→b≠a:=fun n b e q=>by refine nn fun N=>?_;obtain ⟨o,f⟩:=(m.sep n b e).h;refine N ?_;replace f:=q▸f;replace f:=i▸f;cases f
 have l:∀n b,lk ((σ.next,a)::D) n=some b→(n=σ.next∧b=a)∨(n≠σ.next∧lk D n=some b):=fun n b e=>by
  simp only [fN,fM]at e;split at e
  ·exact .inl ⟨by assumption,by cases e;rfl⟩
  ·exact .inr ⟨by assumption,e⟩
 have st:pC F D h ((σ.next,a)::D) h':=⟨fun b o e _ _=>g b o e,C,fun n b e=>by
   rcases l n b e with ⟨_,rfl⟩|⟨_,q⟩
   ·exact .inr i
   ·exact .inl q,fun b o e=>⟨o,g b o e⟩⟩
 have r:∀d v,gQ D (Yf F X D) h d v→gQ ((σ.next,a)::D) (Yf F X ((σ.next,a)::D)) h' d v:=fun d v=>gQ.on m st;have H:∀d v,bS D (Yf F X D) h d v→bS ((σ.next,a)::D) (Yf F X ((σ.next,a)::D)) h' d v:=fun d v=>bS.on m st;refine ⟨⟨fun b o e=>g b o (m.base b o e),fun x v e=>?_,fun x p s e=>(m.frm x p s e).keep fun o=>g _ o,fun n O e=>?_,fun n t b e P=>?_,fun n b e=>?_,fun b e=>?_,fun b e=>?_⟩,st⟩
 ·obtain ⟨p,s,u,y,A,Q⟩:=m.loc x v e;exact ⟨p,s,u,y,A.keep fun o=>g _ o,r _ _ Q⟩
 ·simp only [fN,fM]at e;by_cases B:n=σ.next
  ·replace e:=(if_pos B)▸e;cases e;exact ⟨a,by simp [fN,fM,B],L _ _ r H⟩
  ·replace e:=(if_neg B)▸e;obtain ⟨b,y,A⟩:=m.cel n O e;exact ⟨b,C n b y,A.on r H fun o=>g _ o⟩
 ·rcases l n b e with ⟨rfl,rfl⟩|⟨R,j⟩<;>rcases l t b P with ⟨rfl,T⟩|⟨r1,I⟩
  ·rfl
  ·exact absurd rfl (G t _ I)
  ·exact absurd T (G n _ j)
  ·exact m.inj n t b j I
 ·rcases l n b e with ⟨rfl,rfl⟩|⟨R,j⟩
  ·refine ⟨fun z=>?_,fun z=>?_,?_,J,gX _⟩
   ·obtain ⟨o,f⟩:=(m.zfr _ z).2;rw [i]at f;cases f
   ·obtain ⟨o,f⟩:=m.xal _ z;rw [i]at f;cases f
   ·cases q:S.heap.get? b with
    |none=>rfl
    |some o=>replace i:=(m.base b o q)▸i;cases i
  ·replace j:=m.sep n b j;obtain ⟨a1,k,W,⟨o,Z⟩,a5⟩:=j;exact ⟨a1,k,W,⟨o,g _ _ Z⟩,aFj a5⟩
 ·obtain ⟨a1,o,k⟩:=m.zfr b e;exact ⟨a1,o,g _ _ k⟩
 ·obtain ⟨o,k⟩:=m.xal b e;exact ⟨o,g _ _ k⟩
theorem jN.turn{F:Fx}{X:iK}{D:mS}{σ:St}{h h':dS}{n:Nat}{a:cY}{c:gC}(fk:iY F)(m:jN F X D σ h)(l:lk D n=some a)(f:∀b o,b≠a→h.get? b=some o→h'.get? b=some o)(B:vI h' a)
  (C:∀Y',(∀d v,gQ D (Yf F X D) h d v→gQ D Y' h' d v)→(∀d v,bS D (Yf F X D) h d v→bS D Y' h' d v)→jB D Y' h' a c):
  jN F X D {σ with cells:=lQ n c σ.cells} h'∧pC F D h D h':=by
 obtain ⟨z,O,G,P,Q⟩:=m.sep n a l;have r:∀b o,h.get? b=some o→vI h' b:=fun b o e=>by
  by_cases q:b=a
  ·subst q;exact B
  ·exact ⟨o,f b o q e⟩
 have st:pC F D h D h':=⟨fun b o e _ g=>f b o (fun q=>g n (q▸l)) e,fun _ _ e=>e,fun _ _ e=>.inl e,r⟩;have t:∀d v,gQ D (Yf F X D) h d v→gQ D (Yf F X D) h' d v:=fun d v=>gQ.on m st;have A:∀d v,bS D (Yf F X D) h d v→bS D (Yf F X D) h' d v:=fun d v=>bS.on m st;refine ⟨⟨fun b o e=>f b o (fun q=>by replace e:=q▸e;replace e:=G▸e;cases e) (m.base b o e),fun x v e=>?_,fun x p s e=>?_,fun i H e=>?_,m.inj,fun i b e=>?_,fun b e=>?_,fun b e=>?_⟩,st⟩
 ·obtain ⟨p,s,u,j,y,I⟩:=m.loc x v e;exact ⟨p,s,u,j,y.keep fun o=>f _ o (fun q=>z (q▸fk.inZ x p s j)),t _ _ I⟩
 ·exact (m.frm x p s e).keep fun o=>f _ o (fun q=>z (q▸fk.inZ x p s e))
 ·rw [kU]at e;by_cases g:i=n
  ·replace e:=(if_pos g)▸e;cases e;subst g;exact ⟨a,l,C _ t A⟩
  ·replace e:=(if_neg g)▸e;obtain ⟨b,j,y⟩:=m.cel i H e;exact ⟨b,j,y.on t A fun o=>f _ o (fun q=>g (m.inj i n a (q▸j) l))⟩
 ·obtain ⟨a1,k,J,⟨o,L⟩,N⟩:=m.sep i b e;exact ⟨a1,k,J,r b o L,N⟩
 ·obtain ⟨a1,o,k⟩:=m.zfr b e;exact ⟨a1,r b o k⟩
 ·obtain ⟨o,k⟩:=m.xal b e;exact r b o k
theorem jN.turn2{F:Fx}{X:iK}{D:mS}{σ:St}{h h':dS}{n:Nat}{a:cY}{c:gC}(fk:iY F)(m:jN F X D σ h)(l:lk D n=some a)(f:∀b o,b≠a→h.get? b=some o→h'.get? b=some o)(A:vI h' a)
  (B:jB D (Yf F X D) h' a c):
  jN F X D {σ with cells:=lQ n c σ.cells} h'∧pC F D h D h':=by
 obtain ⟨y,N,C,O,P⟩:=m.sep n a l;have r:∀b o,h.get? b=some o→vI h' b:=fun b o e=>by
  by_cases q:b=a
  ·subst q;exact A
  ·exact ⟨o,f b o q e⟩
 have st:pC F D h D h':=⟨fun b o e _ g=>f b o (fun q=>g n (q▸l)) e,fun _ _ e=>e,fun _ _ e=>.inl e,r⟩;have z:∀d v,gQ D (Yf F X D) h d v→gQ D (Yf F X D) h' d v:=fun d v=>gQ.on m st;refine ⟨⟨fun b o e=>f b o (fun q=>by replace e:=q▸e;replace e:=C▸e;cases e) (m.base b o e),fun x v e=>?_,fun x p s e=>?_,fun i G e=>?_,m.inj,fun i b e=>?_,fun b e=>?_,fun b e=>?_⟩,st⟩
 ·obtain ⟨p,s,u,j,t,H⟩:=m.loc x v e;exact ⟨p,s,u,j,t.keep fun o=>f _ o (fun q=>y (q▸fk.inZ x p s j)),z _ _ H⟩
 ·exact (m.frm x p s e).keep fun o=>f _ o (fun q=>y (q▸fk.inZ x p s e))
 ·rw [kU]at e;by_cases g:i=n
  ·replace e:=(if_pos g)▸e;cases e;subst g;exact ⟨a,l,B⟩
  ·replace e:=(if_neg g)▸e;obtain ⟨b,j,t⟩:=m.cel i G e;exact ⟨b,j,t.on z (fun d v=>bS.on m st) fun o=>f _ o (fun q=>g (m.inj i n a (q▸j) l))⟩
 ·obtain ⟨a1,k,I,⟨o,J⟩,L⟩:=m.sep i b e;exact ⟨a1,k,I,r b o J,L⟩
 ·obtain ⟨a1,o,k⟩:=m.zfr b e;exact ⟨a1,r b o k⟩
 ·obtain ⟨o,k⟩:=m.xal b e;exact r b o k
theorem jN.store{F:Fx}{X:iK}{D:mS}{σ:St}{h h':dS}{x:Nat}{p:qL}{s:jX}{v:V}{u:bO}(fk:iY F)(m:jN F X D σ h)(a:lk F.bnd x=some (p,s))(i:∀b o,b≠p.adr→h.get? b=some o→h'.get? b=some o)
  (j:Holds h' p s u) (R:∀s' l,s'≠s→(∃L,p=.loc L)→Holds h p s' l→Holds h' p s' l) (B:gQ D (Yf F X D) h v u):
  jN F X D {σ with loc:=lQ x v σ.loc} h'∧pC F D h D h':=by
 have C:=fk.inZ x p s a;obtain ⟨O,G⟩:=m.zfr _ C;have r:uK h' p:=by
  clear G
  cases p with
  |loc L=>obtain ⟨P,e,_⟩:=j;exact ⟨P,e⟩
  |cel c=>exact ⟨_,j⟩
 have z:∀b o,h.get? b=some o→vI h' b:=fun b o e=>by
  by_cases q:b=p.adr
  ·subst q;clear G
   cases p with
   |loc L=>obtain ⟨P,⟨H,_,_,T,_⟩,_⟩:=j;exact ⟨H,T⟩
   |cel c=>obtain ⟨H,f,_⟩:=j;exact ⟨H,f⟩
  ·exact ⟨o,i b o q e⟩
 have st:pC F D h D h':=⟨fun b o e W _=>i b o (fun q=>W (q▸C)) e,fun _ _ e=>e,fun _ _ e=>.inl e,z⟩;have I:∀d v,gQ D (Yf F X D) h d v→gQ D (Yf F X D) h' d v:=fun d v=>gQ.on m st;refine ⟨⟨fun b o e=>i b o (fun q=>by replace e:=q▸e;replace e:=O▸e;cases e) (m.base b o e),fun y w e=>?_,fun y k s' e=>?_,fun n c e=>?_,m.inj,fun n b e=>?_,fun b e=>?_,fun b e=>?_⟩,st⟩
 ·rw [kU]at e;by_cases g:y=x
  ·replace e:=(if_pos g)▸e;cases e;exact ⟨p,s,u,g▸a,j,I _ _ B⟩
  ·replace e:=(if_neg g)▸e;clear j O G;obtain ⟨k,s',l,f,A,Z⟩:=m.loc y w e;refine ⟨k,s',l,f,?_,I _ _ Z⟩;rcases fk.dist y x k s' p s f a g with q|⟨L,J,N,Q⟩
   ·exact A.keep fun o=>i _ o q
   ·subst J;subst N;exact R s' l Q ⟨L,rfl⟩ A
 ·by_cases q:k.adr=p.adr
  ·by_cases g:y=x
   ·subst g;replace a:=e▸a;cases a;exact r
   ·rcases fk.dist y x k s' p s e a g with q'|⟨L,J,N,Q⟩
    ·exact absurd q q'
    ·refine J▸?_;refine N▸?_;exact r
  ·exact (m.frm y k s' e).keep fun o=>i _ o q
 ·obtain ⟨b,f,A⟩:=m.cel n c e;exact ⟨b,f,A.on I (fun d v=>bS.on m st) fun o=>i _ o (fun q=>(m.sep n b f).z (q▸C))⟩
 ·obtain ⟨a1,t,a3,⟨o,a4⟩,a5⟩:=m.sep n b e;exact ⟨a1,t,a3,z b o a4,a5⟩
 ·obtain ⟨a1,o,t⟩:=m.zfr b e;exact ⟨a1,z b o t⟩
 ·obtain ⟨o,t⟩:=m.xal b e;exact z b o t
section
variable{D D':mS}{Y Y':iK}{h h':dS}
mutual
theorem gQ.stepP(f:∀b o,h.get? b=some o→¬Y b→h'.get? b=some o)(g:∀a,Y' a→Y a∨h.get? a=aF):
  ∀(d:V)(v:bO),d.pure=true→gQ D Y h d v→gQ D' Y' h' d v
 |.none,v,_,x=>x
 |.bool _,v,_,x=>x
 |.int _,v,_,x=>x
 |.str _,v,_,x=>x
 |.fn _,v,_,x=>x
 |.tup l,v,p,x=>by obtain ⟨a,xs,rfl,c,⟨k,e⟩,y⟩:=x;exact ⟨a,xs,rfl,vB g e c,⟨k,f a _ e c⟩,bS.stepP f g l xs p y⟩
 |.lst l,v,p,x=>by obtain ⟨a,xs,rfl,c,⟨k,e⟩,y⟩:=x;exact ⟨a,xs,rfl,vB g e c,⟨k,f a _ e c⟩,bS.stepP f g l xs p y⟩
 |.scr l,v,p,x=>by obtain ⟨a,xs,rfl,c,⟨o,e,r⟩,y⟩:=x;exact ⟨a,xs,rfl,vB g e c,⟨o,f a o e c,r⟩,bS.stepP f g l xs p y⟩
 |.mt l,v,p,x=>by obtain ⟨a,xs,rfl,c,⟨o,e,r⟩,y⟩:=x;exact ⟨a,xs,rfl,vB g e c,⟨o,f a o e c,r⟩,bS.stepP f g l xs p y⟩
 |.dct ks vs,v,p,x=>by obtain ⟨a,xs,rfl,c,z,y⟩:=x;obtain ⟨o,e⟩:=z.lt;exact ⟨a,xs,rfl,vB g e c,z.keep fun i j=>f a i j c,bS.stepP f g vs xs p y⟩
 |.set0,v,_,x=>by obtain ⟨a,rfl,c,m,e⟩:=x;exact ⟨a,rfl,vB g e c,m,f a _ e c⟩
 |.ref n,v,p,x=>by cases p
 |.inst n,v,p,x=>by cases p
 |.bm id s,v,p,x=>by obtain ⟨a,u,rfl,c,⟨o,e,r⟩,y⟩:=x;exact ⟨a,u,rfl,vB g e c,⟨o,f a o e c,r⟩,gQ.stepP f g s u p y⟩
theorem bS.stepP(c:∀b o,h.get? b=some o→¬Y b→h'.get? b=some o)(e:∀a,Y' a→Y a∨h.get? a=aF):
  ∀(l:cG)(xs:gI),eB l=true→bS D Y h l xs→bS D' Y' h' l xs
 |[],xs,_,x=>x
 |d::l,xs,p,x=>by simp only [dT,dQ,gG]at p;obtain ⟨u,r,rfl,y,z⟩:=x;exact ⟨u,r,rfl,gQ.stepP c e d u p.1 y,bS.stepP c e l r p.2 z⟩
end
end
structure Ct(F:Fx)(k:Nat)(D:mS)(h:dS)(D':mS)(h':dS):Prop where
 keep:∀b o,h.get? b=some o→b∉F.Z→(∀n,lk D n≠some b)→h'.get? b=some o
 ext:∀n a,n<k→lk D n=some a→lk D' n=some a
 new:∀n a,lk D' n=some a→lk D n=some a∨h.get? a=aF
 al:∀b o,h.get? b=some o→vI h' b
theorem pC.toK{F:Fx}{D D':mS}{h h':dS}(x:pC F D h D' h')(k:Nat):Ct F k D h D' h':=⟨x.keep,fun n a _=>x.ext n a,x.new,x.al⟩
theorem Ct.trans{F:Fx}{k:Nat}{D D₁ D₂:mS}{h h₁ f:dS}(x:Ct F k D h D₁ h₁)(y:Ct F k D₁ h₁ D₂ f):Ct F k D h D₂ f:=by
 refine ⟨fun b o e g i=>?_,fun n a j e=>y.ext n a j (x.ext n a j e),fun n a e=>?_,fun b o e=>let ⟨c,d⟩:=x.al b o e;y.al b c d⟩
 ·refine y.keep b o (x.keep b o e g i) g fun n d=>?_;rcases x.new n b d with q|q
  ·exact i n q
  ·replace q:=e▸q;cases q
 ·rcases y.new n a e with q|q
  ·exact x.new n a q
  ·refine .inr ?_
   cases l:h.get? a with
   |none=>rfl
   |some c=>obtain ⟨o,m⟩:=x.al a c l;replace q:=m▸q;cases q
def Wk(k:Nat)(σ σ':St):Prop:=∀(F:Fx)(X:iK)(D:mS)(h:dS),iY F→jN F X D σ h→
 ∃D',jN F X D' σ' h∧(∀n a,n<k→lk D n=some a→lk D' n=some a)∧∀n a,lk D' n=some a→lk D n=some a
theorem Wk.refl{k:Nat}{σ:St}:Wk k σ σ:=fun _ _ D _ _ m=>⟨D,m,fun _ _ _ e=>e,fun _ _ e=>e⟩
theorem Wk.trans{k:Nat}{σ σ' d:St}(x:Wk k σ σ')(y:Wk k σ' d):Wk k σ d:=fun F X D h fk m=>by refine nn fun g=>?_;replace m:=x F X D h fk m;obtain ⟨D',m',a,b⟩:=m;obtain ⟨D'',i,j,b'⟩:=y F X D' h fk m';refine g ?_;exact ⟨D'',i,fun n c f e=>j n c f (a n c f e),fun n c e=>b n c (b' n c e)⟩
theorem jN.dropX{F:Fx}{X X':iK}{D:mS}{σ:St}{h:dS}(m:jN F X D σ h)(b:∀a,X' a→X a):jN F X' D σ h:=by
 have i:∀a,Yf F X' D a→Yf F X D a∨h.get? a=aF:=fun a e=>by
  rcases e with q|q|q
  ·exact .inl (.inl q)
  ·exact .inl (.inr (.inl (b a q)))
  ·exact .inl (.inr (.inr q))
 have j:∀d v,gQ D (Yf F X D) h d v→gQ D (Yf F X' D) h d v:=fun d v=>gQ.step (fun _ _ e _=>e) (fun _ _ e=>e) i d v;exact ⟨m.base,fun x v e=>let ⟨p,s,u,f,g,k⟩:=m.loc x v e;⟨p,s,u,f,g,j _ _ k⟩,m.frm,fun n c e=>let ⟨a,f,g⟩:=m.cel n c e;⟨a,f,g.on j (fun d v=>bS.step (fun _ _ e _=>e) (fun _ _ e=>e) i d v) fun _ e=>e⟩,m.inj,
  fun n a e=>let ⟨a1,l,o,r,t⟩:=m.sep n a e;⟨a1,fun q=>l (b a q),o,r,t⟩,m.zfr,fun a e=>m.xal a (b a e)⟩
theorem jN.addX{F:Fx}{X:iK}{N:List cY}{D:mS}{σ:St}{h h':dS}(m:jN F X D σ h)(f:∀b o,h.get? b=some o→h'.get? b=some o)(i:∀a∈N,h.get? a=aF∧vI h' a):jN F (jK N X) D σ h':=by
 have r:∀a,Yf F (jK N X) D a→Yf F X D a∨h.get? a=aF:=fun a e=>by
  rcases e with q|q|q
  ·exact .inl (.inl q)
  ·rcases q with q|q
   ·exact .inr (i a q).1
   ·exact .inl (.inr (.inl q))
  ·exact .inl (.inr (.inr q))
 have t:∀d v,gQ D (Yf F X D) h d v→gQ D (Yf F (jK N X) D) h' d v:=fun d v=>gQ.step (fun b o e _=>f b o e) (fun _ _ e=>e) r d v;refine ⟨fun b o e=>f b o (m.base b o e),fun x v e=>let ⟨p,s,u,j,k,y⟩:=m.loc x v e;⟨p,s,u,j,k.keep fun o=>f _ o,t _ _ y⟩,fun x p s e=>(m.frm x p s e).keep fun o=>f _ o,
  fun n c e=>let ⟨a,j,k⟩:=m.cel n c e;⟨a,j,k.on t (fun d v=>bS.step (fun b o e _=>f b o e) (fun _ _ e=>e) r d v) fun o=>f _ o⟩,m.inj,fun n a e=>?_,fun a e=>let ⟨a1,o,l⟩:=m.zfr a e;⟨a1,o,f _ _ l⟩,fun a e=>?_⟩
 ·obtain ⟨a1,l,z,⟨o,g⟩,A⟩:=m.sep n a e;refine ⟨a1,fun q=>?_,z,⟨o,f _ _ g⟩,A⟩;rcases q with q|q
  ·replace g:=((i a q).1)▸g;cases g
  ·exact l q
 ·rcases e with q|q
  ·exact (i a q).2
  ·obtain ⟨o,B⟩:=m.xal a q;exact ⟨o,f _ _ B⟩
theorem jN.turnX{F:Fx}{X:iK}{N:List cY}{D:mS}{σ:St}{h h':dS}(fk:iY F)(m:jN F X D σ h)(j:∀a∈N,X a)(r:∀a∈N,a∉F.Z)(y:∀a∈N,S.heap.get? a=aF)(f:∀b o,b∉N→h.get? b=some o→h'.get? b=some o)(z:∀b∈N,vI h' b):
  jN F X D σ h':=by
 have t:∀d v,gQ D (Yf F X D) h d v→gQ D (Yf F X D) h' d v:=fun d v=>gQ.step (fun b o e k=>f b o (fun q=>k (.inr (.inl (j b q)))) e) (fun _ _ e=>e) (fun _ e=>.inl e) d v;have al:∀b o,h.get? b=some o→vI h' b:=fun b o e=>by
  by_cases q:b∈N
  ·exact z b q
  ·exact ⟨o,f b o q e⟩
 refine ⟨fun b o e=>f b o (fun q=>by replace e:=(y b q)▸e;cases e) (m.base b o e),fun x v e=>?_,fun x p s e=>(m.frm x p s e).keep fun o=>f _ o (fun q=>r _ q (fk.inZ x p s e)),fun n c e=>?_,m.inj,fun n a e=>?_,fun a e=>?_,fun a e=>?_⟩
 ·obtain ⟨p,s,u,g,l,A⟩:=m.loc x v e;exact ⟨p,s,u,g,l.keep fun o=>f _ o (fun q=>r _ q (fk.inZ x p s g)),t _ _ A⟩
 ·obtain ⟨a,g,l⟩:=m.cel n c e;exact ⟨a,g,l.on t (fun d v=>bS.step (fun b o e k=>f b o (fun q=>k (.inr (.inl (j b q)))) e) (fun _ _ e=>e) (fun _ e=>.inl e) d v) fun o=>f _ o (fun q=>(m.sep n a g).x (j a q))⟩
 ·obtain ⟨a1,i,B,⟨o,C⟩,G⟩:=m.sep n a e;exact ⟨a1,i,B,al a o C,G⟩
 ·obtain ⟨a1,o,i⟩:=m.zfr a e;exact ⟨a1,al a o i⟩
 ·obtain ⟨o,i⟩:=m.xal a e;exact al a o i
end
noncomputable abbrev iX:=St→Prop
noncomputable abbrev kD(h:dS)(tk:Nat):dI:={S with heap:=h,toks:=tk}
structure wI(n:Nat)(A:lL):Prop where
 hd:A.handled=aF
 dep:A.depth+2*n<recursionLimit
 uni:A.units+10*n+100<cLine
theorem wI.in1(h:wI n A)(a:0<n):wI (n-1) A.in1:=⟨h.hd,by have:=h.dep;simp only [ű];exact bE 0x942528a86880346128688074614cc7003 this,by have:=h.uni;simp only [G6];exact bE 0x2002000140229150d1ce1d10068e838943473874403a3894134cc7003 a this⟩
theorem wI.mono(h:wI n A)(a:k≤n):wI k A:=⟨h.hd,by have:=h.dep;exact bE 0x12945434401a309434403a30921004 a this,by have:=h.uni;exact bE 0x508a4543473874401a38943473874403a38921004 a this⟩
inductive Fl where
 |next|brk|cont
 |ret (v:V)
abbrev RT(α β:Type):=mS→iK→dS→β→α→Prop
def rV:RT bO V:=fun D Y h d v=>gQ D Y h d v
def rVs:RT gI cG:=fun D Y h d v=>bS D Y h d v
def rB:RT Bool Bool:=fun _ _ _ b c=>b=c
def rU:RT Unit Unit:=fun _ _ _ _ _=>True
inductive J0(D:mS)(Y:iK)(h:dS):Fl→Flow→Prop
 |next:J0 D Y h .next .next
 |brk:J0 D Y h .brk .brk
 |cont:J0 D Y h .cont .cont
 |ret {v:V} {u:bO} (r:gQ D Y h v u):J0 D Y h (.ret v) (.ret u)
abbrev rF:RT Flow Fl:=J0
inductive uJ{α β:Type}(R:RT α β)(F:Fx)(X:iK)(D:mS)(h:dS)(Q:β→iX)(a:α)(s':dI):Prop
 |mk (h':dS) (ao:Nat) (D':mS) (σ':St) (b:β) (e:s'=kD h' ao) (st:pC F D h D' h') (m:jN F X D' σ' h') (r:R D' (Yf F X D') h' b a) (q:Q b σ'):uJ R F X D h Q a s'
theorem uJ.on{α β:Type}{R:RT α β}{X:iK}{Q:β→iX}{a:α}{s':dI}(st:pC F D h D₁ h₁)(p:uJ R F X D₁ h₁ Q a s'):uJ R F X D h Q a s':=by obtain ⟨h',c,D',σ',b,e,d,m',r,q⟩:=p;exact ⟨h',c,D',σ',b,e,st.trans d,m',r,q⟩
section
def TW{α β:Type}(R:RT α β)(n:Nat)(F:Fx)(ds:cG)(t:gI→Fd α)(σ:St)(Q:β→iX):Prop:=
 ∀A X D h tk vs,wI n A→jN F X D σ h→bS D (Yf F X D) h ds vs→bX (model prog w) A (t vs) (uJ R F X D h Q) (fun _ _=>False) (kD h tk)
abbrev EW(n:Nat)(F:Fx)(e:Expr)(σ:St)(Q:V→iX):Prop:=TW rV n F [] (fun _=>eval e F.env) σ Q
abbrev BW(n:Nat)(F:Fx)(e:Expr)(σ:St)(Q:Bool→iX):Prop:=TW rB n F [] (fun _=>isTrue e F.env (eval e F.env)) σ Q
end
section
variable{n:Nat}{F:Fx}{σ:St}{α β γ δ:Type}{R:RT α β}{R':RT γ δ}{ds:cG}
theorem TW.mono{t:gI→Fd α}{Q Q':β→iX}(x:TW R n F ds t σ Q)(h:∀b σ',Q b σ'→Q' b σ'):TW R n F ds t σ Q':=by intro A X D c tk vs ok m r;refine bN (x A X D c tk vs ok m r) (fun a s' p=>?_) fun _ _ e=>e;obtain ⟨h',d,D',σ',b,e,st,m',f,q⟩:=p;exact ⟨h',d,D',σ',b,e,st,m',f,h b σ' q⟩
theorem TW.at{t:gI→Fd α}{Q:β→iX}{X:iK}{K:α→tX}(x:TW R n F ds t σ Q)(ok:wI n A)(m:jN F X D σ h)(r:bS D (Yf F X D) h ds vs)
  (k:∀a h₁ c D₁ σ₁ b,pC F D h D₁ h₁→jN F X D₁ σ₁ h₁→R D₁ (Yf F X D₁) h₁ b a→Q b σ₁→K a (kD h₁ c)):bX (model prog w) A (t vs) K (fun _ _=>False) (kD h tk):=by
 refine bN (x A X D h tk vs ok m r) (fun a s' p=>?_) fun _ _ e=>e;obtain ⟨h',d,D',σ',b,rfl,st,m',f,q⟩:=p;exact k a h' d D' σ' b st m' f q
theorem TW.bind{t:gI→Fd α}{k:α→gI→Fd γ}{Q:δ→iX}{K:β→iX}(x:TW R n F ds t σ K)
  (y:∀b σ₁,K b σ₁→∀A X D h tk vs a,wI n A→jN F X D σ₁ h→bS D (Yf F X D) h ds vs→R D (Yf F X D) h b a→bX (model prog w) A (k a vs) (uJ R' F X D h Q) (fun _ _=>False) (kD h tk)):
  TW R' n F ds (fun vs=>t vs>>=fun a=>k a vs) σ Q:=by
 intro A X D h tk vs ok m r;refine aH (x.at ok m r fun a h₁ d D₁ σ₁ b st f g q=>?_);exact bN (y b σ₁ q A X D₁ h₁ d vs a ok f (r.on m st) g) (fun c s' p=>p.on st) fun _ _ e=>e
theorem TW.pure{a:gI→α}{Q:β→iX}(c:∀D Y h vs,bS D Y h ds vs→R D Y h b (a vs))(q:Q b σ):TW R n F ds (fun vs=>T7 (a vs)) σ Q:=by intro A X D h tk vs ok m r;exact bC ⟨h,tk,D,σ,b,rfl,.refl,m,c _ _ _ _ r,q⟩
theorem aHz{Q:V→iX}(q:Q (.int i) σ):EW n F (.Constant (.int i) k a) σ Q:=by intro A X D h tk vs ok m r;exact wpAny_Constant_int ⟨h,tk+1,D,σ,.int i,rfl,.refl,m,⟨_,rfl⟩,q⟩
theorem aHx{Q:V→iX}(q:Q (.str x) σ):EW n F (.Constant (.str x) k a) σ Q:=by intro A X D h tk vs ok m r;exact wpAny_Constant_str ⟨h,tk+1,D,σ,.str x,rfl,.refl,m,⟨_,rfl⟩,q⟩
theorem aB4{Q:V→iX}(q:Q .none σ):EW n F (.Constant .none k a) σ Q:=by intro A X D h tk vs ok m r;exact wpAny_Constant_none ⟨h,tk,D,σ,.none,rfl,.refl,m,rfl,q⟩
theorem aB6{Q:V→iX}(q:Q (.bool b) σ):EW n F (.Constant (.bool b) k a) σ Q:=by intro A X D h tk vs ok m r;exact wpAny_Constant_bool ⟨h,tk,D,σ,.bool b,rfl,.refl,m,rfl,q⟩
def œ(env:Env):qL→jX→Prop
 |.loc L,s=>env.locals=L∧env.kindOf s=some .local
 |.cel c,s=>env.kindOf s=some .cell∧env.cells.lookup s=some c
theorem Vc{X:iK}{K:sX}(fk:iY F)(m:jN F X D σ h)(f:lk σ.loc x=some v)(g:lk F.bnd x=some (p,s))(a:œ F.env p s)
  (k:∀u,gQ D (Yf F X D) h v u→K u (kD h tk)):bX (model prog w) A (loadName F.env s) K (fun _ _=>False) (kD h tk):=by
 obtain ⟨o,s',u,b,d,e⟩:=m.loc x v f;rw [g]at b;cases b
 cases p with
 |loc L=>obtain ⟨r,i,j⟩:=d;obtain ⟨rfl,l⟩:=a;exact wpAny_loadName_local fk.kind l i j (k u e)
 |cel c=>exact wpAny_loadName_cell fk.kind a.1 a.2 d (k u e)
theorem aHv{Q:V→iX}(fk:iY F)(a:lk σ.loc x=some v)(b:lk F.bnd x=some (p,s))(c:œ F.env p s)(hd:(s== ("__debug__":jX))=false)(q:Q v σ):
  EW n F (.Name s e) σ Q:=by
 intro A X D h tk vs ok m r;exact wpAny_Name (Vc fk m a b c fun u d=>⟨h,tk,D,σ,v,rfl,.refl,m,d,q⟩) hd
theorem C9{X:iK}{K:Unit→tX}(fk:iY F)(m:jN F X D σ h)(d:lk F.bnd x=some (p,s))(f:œ F.env p s)(l:gQ D (Yf F X D) h v u)
  (k:∀h' C,jN F X D {σ with loc:=lQ x v σ.loc} h'→pC F D h D h'→K () (kD h' C)):bX (model prog w) A (storeName F.env s u) K (fun _ _=>False) (kD h tk):=by
 have r:=m.frm x p s d
 cases p with
 |loc L=>
  obtain ⟨rfl,G⟩:=f;obtain ⟨mm,t⟩:=r;refine wpAny_storeName_local G t (fun h' y g=>?_) (by rw [fk.kind];rfl);have H:∀s' a,s'≠s→(∃L,qL.loc F.env.locals=.loc L)→Holds h (.loc F.env.locals) s' a→Holds h' (.loc F.env.locals) s' a:=fun s' a z _ e=>by
   obtain ⟨m2,i,I⟩:=e;refine ⟨_,y,?_⟩;rw [if_neg z];obtain ⟨o,es,ep,J,hd,sn,N⟩:=t;obtain ⟨O,P,so,Q,B,T,W⟩:=i;have:o=O:=by have:=J.symm.trans Q;cases this;rfl
   subst this;have:es=P:=by rw [hd]at B;cases B;rfl
   subst this;rw [←N s',W s'];exact I
  obtain ⟨m',st⟩:=jN.store fk m d (fun b o j e=>(g.2 b j).trans e) ⟨_,y,by simp⟩ H l;exact k h' _ m' st
 |cel c=>obtain ⟨uu,Y⟩:=r;refine wpAny_storeName_cell fk.kind f.1 f.2 Y (fun h' Z g=>?_);obtain ⟨m',st⟩:=jN.store fk m d (fun b o j e=>(g.2 b j).trans e) Z (fun s' a z ⟨L,e⟩ _=>by cases e) l;exact k h' _ m' st
end
section
set_option backward.match.sparseCases false
inductive vH{α β:Type}(R:RT α β)(F:Fx)(X:iK)(k:Nat)(D:mS)(h:dS)(Q:β→iX)(a:α)(s':dI):Prop
 |mk (h':dS) (ao:Nat) (D':mS) (σ':St) (b:β) (e:s'=kD h' ao) (st:Ct F k D h D' h') (m:jN F X D' σ' h') (r:R D' (Yf F X D') h' b a) (q:Q b σ'):vH R F X k D h Q a s'
theorem vH.on{c d:Type}{R:RT c d}{X:iK}{Q:d→iX}{a:c}{s':dI}(st:Ct F k D h D₁ h₁)(p:vH R F X k D₁ h₁ Q a s'):vH R F X k D h Q a s':=by obtain ⟨h',f,D',σ',b,e,g,m',r,q⟩:=p;exact ⟨h',f,D',σ',b,e,st.trans g,m',r,q⟩
section
def SW(k n:Nat)(F:Fx)(b:List uM)(σ:St)(Q:Fl→iX):Prop:=
 ∀A X D h tk,wI n A→jN F X D σ h→bX (model prog w) A (execs b F.env) (vH rF F X k D h Q) (fun _ _=>False) (kD h tk)
def XW(k n:Nat)(F:Fx)(b:uM)(σ:St)(Q:Fl→iX):Prop:=
 ∀A X D h tk,wI n A→jN F X D σ h→bX (model prog w) A (exec b F.env) (vH rF F X k D h Q) (fun _ _=>False) (kD h tk)
def GW(n:Nat)(F:Fx)(t:Expr)(v:V)(σ:St)(Q:iX):Prop:=
 ∀A X D h tk u,wI n A→jN F X D σ h→gQ D (Yf F X D) h v u→bX (model prog w) A (assign t F.env u) (uJ rU F X D h fun _=>Q) (fun _ _=>False) (kD h tk)
end
section
variable{k n:Nat}{F:Fx}{σ:St}{Q:Fl→iX}
theorem Cc(q:Q .next σ):SW k n F [] σ Q:=fun A X D h tk ok m=>
 xV ⟨h,tk,D,σ,.next,rfl,pC.refl.toK k,m,J0.next,q⟩
theorem iZ{st:uM}{d:List uM}(x:XW k n F st σ fun f σ'=>match f with|.next=>SW k n F d σ' Q|f=>Q f σ'):SW k n F (st::d) σ Q:=fun A X D h tk ok m=>by
 refine wpAny_execs_cons (bN (x A X D h tk ok m) (fun f s' p=>?_) fun _ _ e=>e);obtain ⟨h',a,D',σ',b,rfl,c,m',r,q⟩:=p;cases r
 ·exact bN (q A X D' h' a ok m') (fun _ _ p=>p.on c) fun _ _ e=>e
 ·exact ⟨h',a,D',σ',.brk,rfl,c,m',.brk,q⟩
 ·exact ⟨h',a,D',σ',.cont,rfl,c,m',.cont,q⟩
 ·exact ⟨h',a,D',σ',.ret _,rfl,c,m',.ret ‹_›,q⟩
theorem jY{Q':Fl→iX}(x:SW k n F b σ Q)(y:∀f σ',Q f σ'→Q' f σ'):SW k n F b σ Q':=fun A X D h tk ok m=>by refine bN (x A X D h tk ok m) (fun f s' p=>?_) fun _ _ e=>e;obtain ⟨h',a,D',σ',b,e,c,m',r,q⟩:=p;exact ⟨h',a,D',σ',b,e,c,m',r,y _ _ q⟩
theorem Ul(fk:iY F)(x:Wk k σ σ')(y:SW k n F b σ' Q):SW k n F b σ Q:=fun A X D h tk ok m=>by refine nn fun c=>?_;obtain ⟨D',m',d,g⟩:=x F X D h fk m;refine c ?_;refine bN (y A X D' h tk ok m') (fun f s' p=>p.on ⟨fun _ _ e _ _=>e,d,fun n a e=>.inl (g n a e),fun _ o e=>⟨o,e⟩⟩) fun _ _ e=>e
theorem aFt(fk:iY F)(i:lk σ.loc x=some old)(f:lk F.bnd x=some (p,s))(g:œ F.env p s)
  (y:EW n F e σ fun v σ₁=>TW rV n F [old,v] (fun vs=>match vs with|[a,b]=>inplaceOp j a b|_=>pure .none) σ₁ fun r d=>Q .next {d with loc:=lQ x r d.loc}):XW k n F (.AugAssign (.Name s pos') j e J) σ Q:=fun A X D h tk ok m=>by
 refine wpAny_AugAssign_Name (Vc fk m i f g fun u l=>?_);refine y.at ok m bS.nil fun a h₁ L D₁ σ₁ v st o r q=>?_;refine q.at ok o (.cons (l.on m st) (.cons r .nil)) fun c N O D₂ d t z B C G=>?_;refine C9 fk B f g C fun h' H m' I=>?_;exact ⟨h',H,D₂,_,.next,rfl,((st.trans z).trans I).toK k,m',J0.next,G⟩
theorem Zm(y:BW n F test σ fun b σ₁=>if b=true then SW k n F body σ₁ Q else SW k n F orelse σ₁ Q):XW k n F (.If test body orelse d) σ Q:=fun A X D h tk ok m=>by
 refine wpAny_If (y.at ok m bS.nil fun b h₁ a D₁ σ₁ b' st c r q=>?_);obtain rfl:b'=b:=r;cases b'
 ·exact bN (q A X D₁ h₁ a ok c) (fun _ _ p=>p.on (st.toK k)) fun _ _ e=>e
 ·exact bN (q A X D₁ h₁ a ok c) (fun _ _ p=>p.on (st.toK k)) fun _ _ e=>e
theorem aFs(y:EW n F e σ fun v σ₁=>Q (.ret v) σ₁):XW k n F (.Return (some e) d) σ Q:=fun A X D h tk ok m=>
 wpAny_Return_some (y.at ok m bS.nil fun a h₁ b D₁ σ₁ v st c r q=>⟨h₁,b,D₁,σ₁,.ret v,rfl,st.toK k,c,.ret r,q⟩)
theorem Ua(q:Q (.ret .none) σ):XW k n F (.Return none a) σ Q:=fun A X D h tk ok m=>
 wpAny_Return_none ⟨h,tk,D,σ,.ret .none,rfl,pC.refl.toK k,m,.ret rfl,q⟩
theorem Zp(q:Q .brk σ):XW k n F (.Break a) σ Q:=fun A X D h tk ok m=>wpAny_Break ⟨h,tk,D,σ,.brk,rfl,pC.refl.toK k,m,J0.brk,q⟩
theorem Ų(q:Q .cont σ):XW k n F (.Continue a) σ Q:=fun A X D h tk ok m=>wpAny_Continue ⟨h,tk,D,σ,.cont,rfl,pC.refl.toK k,m,J0.cont,q⟩
theorem C3(hi:interactive F.env=false)(f:swapsWith e none g.line F.env=pure false)(y:EW n F e σ fun v σ₁=>(v=.none∨∃x,v=.str x)∧Q .next σ₁):XW k n F (.Expr e g) σ Q:=fun A X D h tk ok m=>by
 refine wpAny_Expr (y.at ok m bS.nil fun a h₁ b D₁ σ₁ v st c r q=>?_) hi f;obtain ⟨i,d⟩:=q;rcases i with rfl|⟨x,rfl⟩
 ·subst r;exact ⟨h₁,b,D₁,σ₁,.next,rfl,st.toK k,c,J0.next,d⟩
 ·obtain ⟨t,rfl⟩:=r;exact ⟨h₁,b,D₁,σ₁,.next,rfl,st.toK k,c,J0.next,d⟩
inductive aIo(F:Fx)(X:iK)(k:Nat)(D:mS)(h:dS)(I:Nat→iX)(i:Nat)(s':dI):Prop
 |mk (h':dS) (ao:Nat) (D':mS) (σ':St) (e:s'=kD h' ao) (st:Ct F k D h D' h') (m:jN F X D' σ' h') (hI:I i σ'):aIo F X k D h I i s'
theorem Zl(fk:iY F)(I:Nat→iX)(j:Nat)(G:I j σ)
  (H:∀i σ',I i σ'→BW n F test σ' fun b σ₁=>if b=true then SW k n F body σ₁ (fun f l=>match f with
    |.next=>∃i' c,i'<i∧Wk k l c∧I i' c
    |.cont=>∃i' c,i'<i∧Wk k l c∧I i' c
    |.brk=>Q .next l
    |.ret v=>Q (.ret v) l)else Q .next σ₁):XW k n F (.While test body [] ah) σ Q:=fun A X D h tk ok m=>by
 refine wpAny_While (codeAny_whileLoop (aIo F X k D h I) (fun i s' J=>?_) j ⟨h,tk,D,σ,rfl,pC.refl.toK k,m,G⟩);obtain ⟨h',ao,D',σ',rfl,z,m',L⟩:=J;refine bN ((H i σ' L).at ok m' bS.nil fun b h₁ B D₁ σ₁ b' st C r q=>?_) (fun _ _ x=>x) fun _ _ x=>x.elim;obtain rfl:b'=b:=r;cases b'
 ·exact xV ⟨h₁,B,D₁,σ₁,.next,rfl,z.trans (st.toK k),C,J0.next,q⟩
 ·dsimp only [if_true]at q⊢;refine bN (q A X D₁ h₁ B ok C) (fun f sp p=>?_) fun _ _ x=>x.elim;obtain ⟨d,s,D₃,c,f',rfl,N,y,O,t⟩:=p;have st4:=(z.trans (st.toK k)).trans N;have again:(∃i' u,i'<i∧Wk k c u∧I i' u)→∃g,g<i∧aIo F X k D h I g (kD d s):=by rintro ⟨i',u,lt,P,R⟩;refine nn fun T=>?_;obtain ⟨D₄,W,Y,Z⟩:=P F X D₃ d fk y;refine T ?_;exact ⟨i',lt,d,s,D₄,u,rfl,st4.trans ⟨fun _ _ e _ _=>e,Y,fun n a e=>.inl (Z n a e),fun _ o e=>⟨o,e⟩⟩,W,R⟩
  cases O
  ·exact again t
  ·exact ⟨d,s,D₃,c,.next,rfl,st4,y,J0.next,t⟩
  ·exact again t
  ·exact ⟨d,s,D₃,c,.ret _,rfl,st4,y,.ret ‹_›,t⟩
end
end
section
set_option backward.match.sparseCases false
noncomputable def one{α:Type}[Inhabited α](t:bO→Fd α):gI→Fd α
 |[a]=>t a
 |_=>T7 default
noncomputable def two(t:bO→bO→Fd bO):gI→Fd bO
 |[a,b]=>t a b
 |_=>T7 .none
def Gz(σ:St):V→Option cG
 |.lst l=>some l
 |.ref n=>ob (lk σ.cells n) liC
 |_=>aF
section
variable{n:Nat}{F:Fx}{σ:St}{Q:V→iX}
theorem aF5{b c:Type}[Inhabited b]{R:RT b c}{Q:c→iX}{t:bO→Fd b}(k:∀A X D h tk u,wI n A→jN F X D σ h→gQ D (Yf F X D) h a u→bX (model prog w) A (t u) (uJ R F X D h Q) (fun _ _=>False) (kD h tk)):
  TW R n F [a] (one t) σ Q:=fun A X D h tk vs ok m r=>by
 simp only [pJ,pI]at r;obtain ⟨u,d,rfl,r1,rfl⟩:=r;exact k A X D h tk u ok m r1
theorem qU{t:bO→bO→Fd bO}(k:∀A X D h tk u v,wI n A→jN F X D σ h→gQ D (Yf F X D) h a u→gQ D (Yf F X D) h b v→bX (model prog w) A (t u v) (uJ rV F X D h Q) (fun _ _=>False) (kD h tk)):
  TW rV n F [a,b] (two t) σ Q:=fun A X D h tk vs ok m r=>by
 simp only [pJ,pI]at r;obtain ⟨u,d,rfl,r1,v,e,rfl,c,rfl⟩:=r;exact k A X D h tk u v ok m r1 c
theorem gT{X:iK}(m:jN F X D σ h)(r:gQ D (Yf F X D) h u v)(q:Q u σ):uJ rV F X D h Q v (kD h tk):=⟨h,tk,D,σ,u,rfl,.refl,m,r,q⟩
theorem oK{Y:iK}:gQ D Y h (.int i) (.int i t):=by exact ⟨_,rfl⟩
theorem mJ{Y:iK}:gQ D Y h (.bool b) (.bool b):=rfl
theorem Dc{Y:iK}:gQ D Y h .none .none:=rfl
theorem aH1(x:EW n F l σ fun a σ₁=>EW n F r σ₁ fun b c=>TW rV n F [a,b] (two (binaryOp g)) c Q):EW n F (.BinOp l g r B) σ Q:=fun A X D h tk vs ok m _=>by refine wpAny_BinOp (x.at ok m bS.nil fun a h₁ C D₁ σ₁ u i d j k=>?_);refine k.at ok d bS.nil fun b o s D₂ c v f t y z=>?_;exact bN (z A X D₂ o s [a,b] ok t (.cons (j.on d f) (.cons y .nil))) (fun _ _ p=>p.on (i.trans f)) fun _ _ e=>e
theorem aH0(i:behindInMarks c r=false)(x:EW n F l σ fun a σ₁=>EW n F r σ₁ fun b d=>TW rV n F [a,b] (two (compareOp c)) d Q):EW n F (.Compare l [c] [r] C) σ Q:=fun A X D h tk vs ok m _=>by refine wpAny_Compare1 (x.at ok m bS.nil fun a h₁ G D₁ σ₁ u j f k o=>?_) i;refine o.at ok f bS.nil fun b s t D₂ d v g y z B=>?_;exact bN (B A X D₂ s t [a,b] ok y (.cons (k.on f g) (.cons z .nil))) (fun _ _ p=>p.on (j.trans g)) fun _ _ e=>e
theorem Ts{Q:Bool→iX}(j:behindInMarks e r=false)(x:EW n F l σ fun a σ₁=>EW n F r σ₁ fun b f=>TW rV n F [a,b] (two (compareOp e)) f fun c d=>∃v,c=.bool v∧Q v d):BW n F (.Compare l [e] [r] L) σ Q:=fun A X D h tk vs ok m _=>by refine wpAny_isTrue_Compare1 (x.at ok m bS.nil fun a h₁ N D₁ σ₁ u k g o p=>?_) j;refine p.at ok g bS.nil fun b O P D₂ f v i s t y=>?_;refine y.at ok s (.cons (o.on g i) (.cons t .nil)) fun c B C D₃ d R G H I J=>?_;obtain ⟨z,rfl,q⟩:=J;subst I;exact No ⟨B,C,D₃,d,z,rfl,(k.trans i).trans G,H,rfl,q⟩
theorem aIe{Q:Bool→iX}(y:BW n F x σ fun b σ₁=>Q (!b) σ₁):BW n F (.UnaryOp .Not x g) σ Q:=fun A X D h tk vs ok m _=>by refine wpAny_isTrue_Not (y.at ok m bS.nil fun b h₁ a D₁ σ₁ b' c d e f=>?_);obtain rfl:b'=b:=e;exact ⟨h₁,a,D₁,σ₁,_,rfl,c,d,rfl,f⟩
def Qr(n:Nat)(F:Fx)(op:BoolOp)(es:List Expr)(σ:St)(Q:Bool→iX):Prop:=TW rB n F [] (fun _=>allTrue op es F.env) σ Q
theorem aC0{Q:Bool→iX}(y:Qr n F a es σ Q):BW n F (.BoolOp a es b) σ Q:=fun A X D h tk vs ok m r=>wpAny_isTrue_BoolOp (y A X D h tk vs ok m r)
theorem Qq{Q:Bool→iX}(q:Q true σ):Qr n F .And [] σ Q:=fun A X D h tk vs ok m r=>wpAny_allTrue_And_nil ⟨h,tk,D,σ,true,rfl,.refl,m,rfl,q⟩
theorem Tw{Q:Bool→iX}(q:Q false σ):Qr n F .Or [] σ Q:=fun A X D h tk vs ok m r=>wpAny_allTrue_Or_nil ⟨h,tk,D,σ,false,rfl,.refl,m,rfl,q⟩
theorem Nk{Q:Bool→iX}(y:BW n F e σ fun b σ₁=>if b=true then Qr n F .And es σ₁ Q else Q false σ₁):Qr n F .And (e::es) σ Q:=fun A X D h tk vs ok m r=>by
 refine wpAny_allTrue_And_cons (y.at ok m bS.nil fun b h₁ a D₁ σ₁ b' c d g f=>?_);obtain rfl:b'=b:=g;cases b'
 ·exact ⟨h₁,a,D₁,σ₁,false,rfl,c,d,rfl,f⟩
 ·exact bN (f A X D₁ h₁ a [] ok d bS.nil) (fun _ _ p=>p.on c) fun _ _ e=>e
theorem Qp{Q:Bool→iX}(y:BW n F e σ fun b σ₁=>if b=true then Q true σ₁ else Qr n F .Or es σ₁ Q):Qr n F .Or (e::es) σ Q:=fun A X D h tk vs ok m r=>by
 refine wpAny_allTrue_Or_cons (y.at ok m bS.nil fun b h₁ a D₁ σ₁ b' c d g f=>?_);obtain rfl:b'=b:=g;cases b'
 ·exact bN (f A X D₁ h₁ a [] ok d bS.nil) (fun _ _ p=>p.on c) fun _ _ e=>e
 ·exact ⟨h₁,a,D₁,σ₁,true,rfl,c,d,rfl,f⟩
theorem aHy(y:BW n F c σ fun t σ₁=>if t=true then EW n F a σ₁ Q else EW n F b σ₁ Q):EW n F (.IfExp c a b k) σ Q:=fun A X D h tk vs ok m _=>by
 refine wpAny_IfExp (y.at ok m bS.nil fun b h₁ d D₁ σ₁ b' f g j i=>?_);obtain rfl:b'=b:=j;cases b'
 ·exact bN (i A X D₁ h₁ d [] ok g bS.nil) (fun _ _ p=>p.on f) fun _ _ e=>e
 ·exact bN (i A X D₁ h₁ d [] ok g bS.nil) (fun _ _ p=>p.on f) fun _ _ e=>e
theorem uB{f:bO→bO→Fd bO}{Q:V→iX}(y:∀A X D h tk t c,wI n A→jN F X D σ h→bX (model prog w) A (f (.int a t) (.int b c)) (uJ rV F X D h Q) (fun _ _=>False) (kD h tk)):TW rV n F [.int a,.int b] (two f) σ Q:=qU fun A X D h tk u v ok m d e=>by obtain ⟨t,rfl⟩:=d;obtain ⟨c,rfl⟩:=e;exact y A X D h tk t c ok m
theorem aGn(q:Q (.int (a+b)) σ):TW rV n F [.int a,.int b] (two (binaryOp .Add)) σ Q:=uB fun A X D h tk t c ok m=>P.add_int (gT m oK q)
theorem π(q:Q (.int (a+b)) σ):TW rV n F [.int a,.int b] (two (inplaceOp .Add)) σ Q:=uB fun A X D h tk t c ok m=>P.iadd_int (gT m oK q)
theorem aGj(q:Q (.int (a-b)) σ):TW rV n F [.int a,.int b] (two (binaryOp .Sub)) σ Q:=uB fun A X D h tk t c ok m=>P.sub_int (gT m oK q)
theorem aGl(c:IntMulOk a b)(q:Q (.int (a*b)) σ):TW rV n F [.int a,.int b] (two (binaryOp .Mult)) σ Q:=uB fun A X D h tk t d ok m=>P.mul_int (gT m oK q) c
theorem aJy(q:Q (.bool (decide (a<b))) σ):TW rV n F [.int a,.int b] (two (compareOp .Lt)) σ Q:=uB fun A X D h tk t c ok m=>P.lt_int (gT m mJ q)
theorem aJz(q:Q (.bool (decide (a≤b))) σ):TW rV n F [.int a,.int b] (two (compareOp .LtE)) σ Q:=uB fun A X D h tk t c ok m=>P.le_int (gT m mJ q)
theorem aJ0(q:Q (.bool (decide (b<a))) σ):TW rV n F [.int a,.int b] (two (compareOp .Gt)) σ Q:=uB fun A X D h tk t c ok m=>P.gt_int (gT m mJ q)
theorem aJ1(q:Q (.bool (decide (b≤a))) σ):TW rV n F [.int a,.int b] (two (compareOp .GtE)) σ Q:=uB fun A X D h tk t c ok m=>P.ge_int (gT m mJ q)
theorem aGm(c:b≠0)(q:Q (.int (a.fmod b)) σ):TW rV n F [.int a,.int b] (two (binaryOp .Mod)) σ Q:=uB fun A X D h tk t d ok m=>aPj c (gT m oK q)
theorem Xc(c:b=match v with|.none=>true|_=>false)(d:∀u,v≠.fn u)(q:Q (.bool b) σ):TW rV n F [v,.none] (two (compareOp .Is)) σ Q:=qU fun A X D h tk u f ok m a e=>by subst e;refine is_none (gT m ?_ q);subst c;cases v<;>first|(subst a;rfl)|(obtain ⟨_,rfl⟩:=a;rfl)|(obtain ⟨_,_,rfl,_⟩:=a;rfl)|(obtain ⟨_,rfl,_⟩:=a;rfl)|(exact absurd rfl (d _))
theorem L1(c:b=match v with|.none=>false|_=>true)(d:∀u,v≠.fn u)(q:Q (.bool b) σ):TW rV n F [v,.none] (two (compareOp .IsNot)) σ Q:=qU fun A X D h tk u f ok m a e=>by subst e;refine isNot_none (gT m ?_ q);subst c;cases v<;>first|(subst a;rfl)|(obtain ⟨_,rfl⟩:=a;rfl)|(obtain ⟨_,_,rfl,_⟩:=a;rfl)|(obtain ⟨_,rfl,_⟩:=a;rfl)|(exact absurd rfl (d _))
inductive GL(F:Fx)(X:iK)(D:mS)(h:dS)(l:cG)(u:bO):Prop
 |mk (a:cY) (xs:gI) (k:Nat) (e:u=.ref a) (p:IsL h a (bD xs) k) (r:bS D (Yf F X D) h l xs)
theorem Bw{X:iK}(m:jN F X D σ h)(e:Gz σ v=some l)(r:gQ D (Yf F X D) h v u):GL F X D h l u:=by
 cases v<;>simp only [Gz]at e<;>first|cases e|skip
 ·obtain ⟨a,xs,rfl,_,⟨k,b⟩,y⟩:=r;exact ⟨a,xs,k,rfl,b,y⟩
 ·rename_i i;obtain ⟨a,rfl,g⟩:=r
  cases d:lk σ.cells i with
  |none=>rw [d]at e;exact iE e
  |some c=>
   rw [d]at e
   cases c with
   |list l'=>refine oQ e ?_;rintro rfl;obtain ⟨j,f,xs,⟨k,b⟩,y⟩:=m.cel i _ d;rw [g]at f;refine oQ f ?_;rintro rfl;exact ⟨a,xs,k,rfl,b,y⟩
   |dict _ _=>(exact iE e)
   |attrs _=>(exact iE e)
   |mat _=>(exact iE e)
theorem Dd{X:iK}(m:jN F X D σ h)(c:h.get? a=aF)(d:∀b o,h.get? b=some o→h'.get? b=some o)(f:∃k,IsL h' a (bD xs) k)(r:bS D (Yf F X D) h l xs):gQ D (Yf F X D) h' (.lst l) (.ref a):=by
 refine ⟨a,xs,rfl,fun q=>?_,f,bS.step (fun b o e _=>d b o e) (fun _ _ e=>e) (fun _ e=>.inl e) _ _ r⟩;rcases q with q|q|⟨i,q⟩
 ·exact ((m.zfr a q).2).no c
 ·exact (m.xal a q).no c
 ·exact ((m.sep i a q).h).no c
theorem Oz{X:iK}(m:jN F X D σ h)(c:h.get? a=aF)(d:∀b o,h.get? b=some o→h'.get? b=some o)(f:∃k,IsT h' a (bD xs) k)(r:bS D (Yf F X D) h l xs):gQ D (Yf F X D) h' (.tup l) (.ref a):=by
 refine ⟨a,xs,rfl,fun q=>?_,f,bS.step (fun b o e _=>d b o e) (fun _ _ e=>e) (fun _ e=>.inl e) _ _ r⟩;rcases q with q|q|⟨i,q⟩
 ·exact ((m.zfr a q).2).no c
 ·exact (m.xal a q).no c
 ·exact ((m.sep i a q).h).no c
theorem υ(e:Gz σ a=some l)(f:Gz σ b=some l')(g:l.length+l'.length≤iC)(q:Q (.lst (l++l')) σ):TW rV n F [a,b] (two (binaryOp .Add)) σ Q:=qU fun A X D h tk u v ok m i j=>by obtain ⟨x,xs,k,rfl,o,c⟩:=Bw m e i;obtain ⟨y,p,s,rfl,r,d⟩:=Bw m f j;refine P.add_list o r ⟨_,tk,D,σ,.lst (l++l'),rfl,pC.grow (dL _ _),m.grow (dL _ _),?_,q⟩ (by simpa [c.length,d.length]using g);refine Dd m (fE _) (dL _ _) ⟨0,?_⟩ (c.append d);have:=I4 h (xs.toArray++p.toArray);simpa using this
theorem μ(d:Gz σ a=some l)(b:l.length≤iC)(q:Q (.int l.length) σ):TW rV n F [a] (one fun u=>call (.builtin "len") [u]) σ Q:=aF5 fun A X D h tk u ok m e=>by obtain ⟨x,xs,k,rfl,f,c⟩:=Bw m d e;refine aPv f.isList (by simp [c.length];rw [nV]at b;exact bE 0xc636c6318c6318c6318c6318c6318c1d07a8138c6318c6307001 b) ?_;refine gT m ?_ q;rw [show ((bD xs).size:Int)=(l.length:Int) by simp [c.length]];exact oK
end
end
section
set_option backward.match.sparseCases false
section
def Zc(n:Nat)(F:Fx)(ah:Pos)(es:List Expr)(σ:St)(Q:cG→iX):Prop:=TW rVs n F [] (fun _=>spliced (backTo ah (eC es F.env))) σ Q
def PW(n:Nat)(F:Fx)(e:Option Expr)(σ:St)(Q:Option Int→iX):Prop:=match e with
 |aF=>Q aF σ
 |some e=>EW n F e σ fun v σ₁=>∃i,v=.int i∧Q (some i) σ₁
end
noncomputable def D2(lo:Option Int)(n:Nat):Nat:=match lo with
 |aF=>0
 |some i=>(max 0 (min (if i<0 then i+n else i) n)).toNat
noncomputable def Wi(hi:Option Int)(n:Nat):Nat:=match hi with
 |aF=>n
 |some i=>(max 0 (min (if i<0 then i+n else i) n)).toNat
def pySl{α:Type}(l:List α)(lo hi:Option Int):List α:=(l.drop (D2 lo l.length)).take (Wi hi l.length-D2 lo l.length)
theorem Hd(xs:gI)(lo hi:Option Int):slicePick (bD xs) lo hi aF=(pySl xs lo hi).toArray:=by
 unfold slicePick pySl;have e:sliceBounds lo hi aF (bD xs).size=(((D2 lo xs.length:Nat):Int),((Wi hi xs.length:Nat):Int),(1:Int)):=by simp only [sliceBounds,Option.getD_none,D2,Wi,nB];cases lo<;>cases hi<;>simp<;>lia
 rw [e];dsimp only;rw [sliceRange_one]
 congr 1
 have:=pick_run (bD xs) (D2 lo xs.length) (Wi hi xs.length-D2 lo xs.length);simpa using this
section
variable{n:Nat}{F:Fx}{σ:St}{Q:V→iX}
theorem aH3{Q:cG→iX}(q:Q [] σ):Zc n F a [] σ Q:=fun A X D h tk vs ok m _=>T6 ⟨h,tk,D,σ,[],rfl,.refl,m,bS.nil,q⟩
theorem aCa{Q:cG→iX}(g:eC (e::es) F.env=(false,eval e F.env)::eC es F.env)(x:EW n F e σ fun v σ₁=>Zc n F i es σ₁ fun vs c=>Q (v::vs) c):Zc n F i (e::es) σ Q:=fun A X D h tk vs ok m _=>by refine Cw (x.at ok m bS.nil fun a h₁ y D₁ σ₁ u j d k l=>?_) g;refine TW.at l ok d bS.nil fun b o p D₂ c us f r s t=>?_;exact ⟨o,p,D₂,c,u::us,rfl,j.trans f,r,.cons (k.on d f) s,t⟩
theorem Ĳ(x:Zc n F e es σ fun vs σ₁=>vs.length≤iC∧Q (.tup vs) σ₁):EW n F (.Tuple es k e) σ Q:=fun A X D h tk vs ok m _=>by refine wpAny_Tuple (TW.at x ok m bS.nil fun b h₁ f D₁ σ₁ us g a c d=>?_);refine ⟨by rw [bS.length c];exact d.1,_,f,D₁,σ₁,.tup us,rfl,g.trans (pC.grow (dL _ _)),a.grow (dL _ _),?_,d.2⟩;exact Oz a (fE _) (dL _ _) ⟨0,IsT.new _ _⟩ c
theorem aB5(x:Zc n F e es σ fun vs σ₁=>vs.length≤iC∧Q (.lst vs) σ₁):EW n F (.List es e) σ Q:=fun A X D h tk vs ok m _=>by refine wpAny_List (TW.at x ok m bS.nil fun b h₁ f D₁ σ₁ us g a c d=>?_);refine ⟨by rw [bS.length c];exact d.1,_,f,D₁,σ₁,.lst us,rfl,g.trans (pC.grow (dL _ _)),a.grow (dL _ _),?_,d.2⟩;exact Dd a (fE _) (dL _ _) ⟨0,I4 _ _⟩ c
theorem aNm{X:iK}(m:jN F X D σ h)(r:bS D (Yf F X D) h us xs)(q:Q (.ref σ.next) {σ with cells:=(σ.next,.list us)::σ.cells,next:=σ.next+1}):
  uJ rV F X D h Q (.ref h.objs.size) (kD (h.push {cls:=.type "list",data:=.seq (bD xs)}) tk):=by
 obtain ⟨m',st⟩:=m.cell (c:=.list us) (dL _ _) (fE _) ⟨_,cF _ rfl⟩ (fun D' Y' _ a=>⟨xs,⟨0,I4 _ _⟩,a _ _ r⟩);exact ⟨_,tk,_,_,.ref σ.next,rfl,st,m',by exact ⟨_,rfl,by simp [fN,fM]⟩,q⟩
theorem Ĵ(x:Zc n F d es σ fun vs σ₁=>vs.length≤iC∧Q (.ref σ₁.next) {σ₁ with cells:=(σ₁.next,.list vs)::σ₁.cells,next:=σ₁.next+1}):EW n F (.List es d) σ Q:=fun A X D h tk vs ok m _=>by refine wpAny_List (TW.at x ok m bS.nil fun b h₁ g D₁ σ₁ us e f a c=>?_);exact ⟨by rw [bS.length a];exact c.1,(aNm f a c.2).on e⟩
theorem aHw(x:EW n F value σ fun o σ₁=>EW n F c σ₁ fun i d=>TW rV n F [o,i] (two (subscriptTail value c)) d Q):EW n F (.Subscript value c B) σ Q:=fun A X D h tk vs ok m _=>by refine Subscript_ (x.at ok m bS.nil fun a h₁ C D₁ σ₁ u j f k l=>?_);refine l.at ok f bS.nil fun b r s D₂ d v g t y z=>?_;exact bN (z A X D₂ r s [a,b] ok t (.cons (k.on f g) (.cons y .nil))) (fun _ _ p=>p.on (j.trans g)) fun _ _ e=>e
theorem ν(f:seqIndex? i l.length=some k)(hd:l[k]?=some d)(b: -2^63≤i∧i<2^63)(g:∀o i,subscripted j false o i=operate [o,i] (getItem o i))(q:Q d σ):TW rV n F [.tup l,.int i] (two (subscriptTail value j)) σ Q:=qU fun A X D h tk u v ok m p r=>by obtain ⟨a,xs,rfl,_,⟨z,c⟩,e⟩:=p;obtain ⟨t,rfl⟩:=r;obtain ⟨y,s,x⟩:=e.get hd;exact tail_any ⟨_,c,rfl⟩ PySem.F.slot_tuple_getitem.lookup (P.getItem_tuple c b.1 b.2 (by simpa [e.length]using f) (by simpa using s) (gT m x q)) (g _ _)
theorem Ux{X:iK}{K:sX}{Q:Option Int→iX}(x:PW n F e σ Q)(ok:wI n A)(m:jN F X D σ h)
  (k:∀a h₁ b D₁ σ₁ i,pC F D h D₁ h₁→jN F X D₁ σ₁ h₁→IsPart a i→Q i σ₁→K a (kD h₁ b)):bX (model prog w) A (evalPart e F.env) K (fun _ _=>False) (kD h tk):=by
 cases e with
 |none=>exact aI0 (k _ h tk D σ _ .refl m .none x)
 |some e=>refine wpAny_evalPart_some (TW.at x ok m bS.nil fun a h₁ b D₁ σ₁ u c d f g=>?_);obtain ⟨i,rfl,q⟩:=g;obtain ⟨t,rfl⟩:=f;exact k _ h₁ b D₁ σ₁ _ c d (.int i t) q
def ŧ(σ:St):V→Option cG
 |.scr l=>some l
 |v=>Gz σ v
inductive GS(F:Fx)(X:iK)(D:mS)(h:dS)(l:cG)(u:bO):Prop
 |mk (a:cY) (xs:gI) (e:u=.ref a) (p:h.IsList a (bD xs)) (r:bS D (Yf F X D) h l xs)
theorem aBw{X:iK}(m:jN F X D σ h)(e:ŧ σ v=some l)(r:gQ D (Yf F X D) h v u):GS F X D h l u:=by
 cases v with
 |scr l'=>simp only [ŧ]at e;refine oQ e ?_;rintro rfl;obtain ⟨a,xs,rfl,_,b,y⟩:=r;exact ⟨a,xs,rfl,b,y⟩
 |_=>simp only [ŧ]at e;obtain ⟨a,xs,k,rfl,c,d⟩:=Bw m e r;exact ⟨a,xs,rfl,c.isList,d⟩
theorem bS.pySl{Y:iK}(r:bS D Y h l xs)(lo hi:Option Int):bS D Y h (pySl l lo hi) (pySl xs lo hi):=by unfold Mine.pySl;rw [r.length];exact bS.take _ (bS.drop _ r)
theorem ĳ(x:EW n F value σ fun o σ₁=>PW n F lower σ₁ fun lo k=>PW n F upper k fun hi d=>∃l,ŧ d o=some l∧l.length≤iC∧Q (.lst (pySl l lo hi)) d):
  EW n F (.Subscript value (.Slice lower upper aF p) W) σ Q:=fun A X D h tk vs ok m _=>by
 refine Subscript_ (x.at ok m bS.nil fun a h₁ Y D₁ σ₁ u B r C G=>wpAny_Slice ?_);refine Ux G ok r fun f Z bf D₂ k lo s t H I=>?_;refine Ux I ok t fun g c J D₃ d hi v i L N=>aI0 ?_;obtain ⟨l,O,P,q⟩:=N;have R:=(gQ.on r s C).on t v;obtain ⟨b,xs,rfl,T,y⟩:=aBw i O R;have z:=T.push {cls:=.type "slice",data:=.fields #[f,g,.none]};refine tail_any z.typeIs list_getitem_lookup (wpAny_getItem_list_slice z (aM8 ..) H L .none (by simp) ?_ (by simpa [y.length]using P)) rfl;have j:∀b o,c.get? b=some o→((c.push {cls:=.type "slice",data:=.fields #[f,g,.none]}).push {cls:=.type "list",data:=.seq (slicePick (bD xs) lo hi aF)}).get? b=some o:=fun b o e=>dL _ _ _ _ (dL _ _ _ _ e);refine ⟨_,J,D₃,d,.lst (pySl l lo hi),rfl,((B.trans s).trans v).trans (pC.grow j),i.grow j,?_,q⟩;refine Dd i ?_ j ⟨0,?_⟩ (y.pySl lo hi)
 ·cases e:c.get? (c.push {cls:=.type "slice",data:=.fields #[f,g,.none]}).objs.size with
  |none=>rfl
  |some o=>exact absurd (dR e) (by rw [gS];exact nN.mpr (fI _))
 ·have:=I4 (c.push {cls:=.type "slice",data:=.fields #[f,g,.none]}) (slicePick (bD xs) lo hi aF);rw [Hd]at this⊢;exact this
theorem ς(c:b≠0)(d:I7 a b=false)(q:Q (.int (a.fdiv b)) σ):TW rV n F [.int a,.int b] (two (binaryOp .FloorDiv)) σ Q:=qU fun A X D h tk u v ok m e f=>by obtain ⟨t,rfl⟩:=e;obtain ⟨g,rfl⟩:=f;exact floordiv_int c (gT m oK q) (.inl d)
end
end
def Qh(id:String)(vs:gI):Fd bO:=call (.builtin id) vs
def aMx(σ:St)(u:V)(T:String):Prop:=∀(F:Fx)(X:iK)(D:mS)(h:dS)(v:bO),jN F X D σ h→gQ D (Yf F X D) h u v→∃a o,v=.ref a∧h.get? a=some o∧o.cls=.type T∧o.dict=aF
theorem X3(e:Gz σ u=some l):aMx σ u "list":=fun F X D h v m r=>by obtain ⟨a,xs,k,rfl,b,c⟩:=Bw m e r;exact ⟨a,_,rfl,b,rfl,rfl⟩
def oW(F:Fx):List Expr→Prop
 |[]=>True
 |e::es=>eC (e::es) F.env=(false,eval e F.env)::eC es F.env∧oW F es
section
variable{n:Nat}{F:Fx}{σ:St}{Q:V→iX}
theorem nR:∀{es:List Expr},oW F es→(backTo a (eC es F.env)).any (·.1)=false:=by
 intro b
 induction b with
 |nil=>intro _;exact rfl
 |cons e es c=>intro h;rw [h.1];show (false|| (backTo a (eC es F.env)).any (·.1))=false;rw [c h.2];rfl
theorem rG{X:iK}{K:Args→tX}{Q:cG→iX}(j:oW F es)(x:Zc n F b es σ Q)(ok:wI n A)(m:jN F X D σ h)
  (k:∀vs h₁ a D₁ σ₁ us,pC F D h D₁ h₁→jN F X D₁ σ₁ h₁→bS D₁ (Yf F X D₁) h₁ us vs→Q us σ₁→K ⟨vs,[]⟩ (kD h₁ a)):bX (model prog w) A (evalArgs f true (backTo b (eC es F.env)) []) K (fun _ _=>False) (kD h tk):=by
 cases es with
 |nil=>unfold evalArgs;refine aH (TW.at (t:=fun _=>spliced (backTo b (eC [] F.env))) x ok m bS.nil fun vs h₁ a D₁ σ₁ us c d g i=>aH (bC (cJ ?_)));exact aH (bC (aH (bC (bC (k vs h₁ a D₁ σ₁ us c d g i)))))
 |cons e es=>
  have o:=fun vs=>x A X D h tk vs ok m;have l:backTo b (eC (e::es) F.env)=(false,eval e F.env)::backTo b (eC es F.env):=by rw [j.1];rfl
  unfold Zc at x;simp only [l]at x⊢;exact Calls.evalArgs_plain (TW.at x ok m bS.nil fun vs h₁ a D₁ σ₁ us c d g i=>k vs h₁ a D₁ σ₁ us c d g i)
theorem M0{o:Expr}{name:jX}{d c:Pos}{args:List Expr}{v:Fd Bool}{T id:String}(slot:Slot T name id)(y:typeOf (.builtin id)=pure (.type "method_descriptor"))(z:Y2 T)
  (B:eval (.Call (.Attribute o name d) args [] c) F.env=(do
   let i←eval o F.env
   lV d.atName
   let (f,first)←holding [i] (getMethod i name v)
   mW c f first (backTo c (eC args F.env)) []))
  (j:oW F args)
  (x:EW n F o σ fun u σ₁=>aMx σ₁ u T∧Zc n F c args σ₁ fun us k=>TW rV n F (u::us) (Qh id) k Q):EW n F (.Call (.Attribute o name d) args [] c) σ Q:=fun A X D h tk vs ok m _=>by
 refine aIu (x.at ok m bS.nil fun a h₁ O D₁ σ₁ u C g l r=>?_) B;obtain ⟨b,ob,rfl,s,G,hd⟩:=r.1 F X D₁ h₁ a g l;refine getMethod_builtin ⟨_,s,G⟩ z slot y (fun a e=>by cases e;exact ⟨_,s,hd⟩) ?_;refine Ar (nR j) (rG j r.2 ok g fun us H I D₂ k ds t J L N=>?_);exact bN (N A X D₂ H I (.ref b::us) ok J (.cons (gQ.on g t l) L)) (fun _ _ p=>p.on (C.trans t)) fun _ _ e=>e
inductive CL(F:Fx)(X:iK)(D:mS)(h:dS)(i:Nat)(l:cG)(u:bO):Prop
 |mk (a:cY) (xs:gI) (k:Nat) (e:u=.ref a) (d:lk D i=some a) (p:IsL h a (bD xs) k) (r:bS D (Yf F X D) h l xs)
theorem Kz{X:iK}(m:jN F X D σ h)(e:lk σ.cells i=some (.list l))(r:gQ D (Yf F X D) h (.ref i) u):CL F X D h i l u:=by obtain ⟨a,rfl,b⟩:=r;obtain ⟨f,c,xs,⟨k,d⟩,y⟩:=m.cel i _ e;rw [b]at c;refine oQ c ?_;rintro rfl;exact ⟨a,xs,k,rfl,b,d,y⟩
theorem Om{X:iK}{f:Array bO→Array bO}(fk:iY F)(m:jN F X D σ h)(l:lk D i=some a)(p:IsL h a (bD xs) k)(s:f (bD xs)=bD j)(r:bS D (Yf F X D) h l' j)(rv:gQ D (Yf F X D) h d v)
  (q:Q d {σ with cells:=lQ i (.list l') σ.cells}):uJ rV F X D h Q v (kD (h.update a (iQ f)) tk):=by
 have g:=p.update f;obtain ⟨m',st⟩:=m.turn (c:=.list l') fk l (fun b o t e=>(gO h _ (rN t)).trans e) ⟨_,g⟩ (fun Y' _ u=>⟨j,⟨_,by rw [s]at g;exact g⟩,u _ _ r⟩);exact ⟨_,tk,D,_,d,rfl,st,m',gQ.on m st rv,q⟩
theorem Xd(fk:iY F)(e:lk σ.cells i=some (.list l))(f:l.length≤iC)(q:Q .none {σ with cells:=lQ i (.list (l++[d])) σ.cells}):TW rV n F [.ref i,d] (Qh "list.append") σ Q:=fun A X D h tk vs ok m r=>by simp only [pJ,pI]at r;obtain ⟨u,o,rfl,r1,v,p,rfl,g,rfl⟩:=r;obtain ⟨a,xs,k,rfl,j,b,c⟩:=Kz m e r1;refine call_meets cA ⟨_,b,rfl⟩ K8 (J5 _ _) (ū a (bD xs) k v (by simpa [c.length]using f)) ⟨b,?_⟩;exact Om fk m j b (by simp) (c.append (.cons g .nil)) Dc q
theorem aGk(fk:iY F)(e:lk σ.cells i=some (.list (l++[d])))(g:l.length<iC)(q:Q d {σ with cells:=lQ i (.list l) σ.cells}):TW rV n F [.ref i] (Qh "list.pop") σ Q:=fun A X D h tk vs ok m r=>by
 simp only [pJ,pI]at r;obtain ⟨u,t,rfl,r1,rfl⟩:=r;obtain ⟨a,xs,k,rfl,j,c,f⟩:=Kz m e r1;obtain ⟨y,o,p⟩:=f.get (i:=l.length) (d:=d) (by simp);have b:xs.length=l.length+1:=by simpa using f.length
 refine call_meets sZ ⟨_,c,rfl⟩ Qz (PySem.F.args_list_pop_1 _) (MeetsSeq.list_pop_last a (bD xs) k y (by simpa [b]using o) (by simp [b];exact bE 0x318a42838141002 g)) ⟨c,?_⟩;have s:bS D (Yf F X D) h l (xs.take l.length):=by have:=bS.take l.length f;simpa using this
 refine Om fk m j c ?_ s p q;have:(bD xs).size-1=l.length:=by simp [b]
 rw [this];apply Array.ext';rw [Array.toList_eraseIdxIfInBounds];simp [List.eraseIdx_eq_take_drop_succ,List.drop_eq_nil_of_le (qO b)]
end
theorem jN.leave{F:Fx}{X:iK}{N:List cY}{D:mS}{σ:St}{h h':dS}(fk:iY F)(m:jN F (jK N X) D σ h)(j:∀a∈N,a∉F.Z)(A:∀a∈N,S.heap.get? a=aF)(B:∀a∈N,¬X a)(f:∀b o,b∉N→h.get? b=some o→h'.get? b=some o):jN F X D σ h':=by
 have t:∀b∈N,Yf F (jK N X) D b:=fun b q=>.inr (.inl (oG q));have y:∀a,Yf F X D a→Yf F (jK N X) D a∨h.get? a=aF:=fun _ e=>.inl (Zk e);have z:∀d v,gQ D (Yf F (jK N X) D) h d v→gQ D (Yf F X D) h' d v:=fun d v=>gQ.step (fun b o e l=>f b o (fun q=>l (t b q)) e) (fun _ _ e=>e) y d v;refine ⟨fun b o e=>f b o (fun q=>by replace e:=(A b q)▸e;exact iE e) (m.base b o e),fun x v e=>?_,fun x p s e=>(m.frm x p s e).keep fun o=>f _ o (fun q=>j _ q (fk.inZ x p s e)),fun n c e=>?_,m.inj,fun n a e=>?_,fun a e=>?_,fun a e=>?_⟩
 ·obtain ⟨p,s,u,i,r,C⟩:=m.loc x v e;exact ⟨p,s,u,i,r.keep fun o=>f _ o (fun q=>j _ q (fk.inZ x p s i)),z _ _ C⟩
 ·obtain ⟨a,i,r⟩:=m.cel n c e;exact ⟨a,i,r.on z (fun d v=>bS.step (fun b o e l=>f b o (fun q=>l (t b q)) e) (fun _ _ e=>e) y d v) fun o=>f _ o (fun q=>(m.sep n a i).x (oG q))⟩
 ·obtain ⟨a1,g,G,⟨o,H⟩,I⟩:=m.sep n a e;exact ⟨a1,fun q=>g (pN q),G,⟨o,f a o (fun q=>g (oG q)) H⟩,I⟩
 ·obtain ⟨a1,o,g⟩:=m.zfr a e;exact ⟨a1,o,f a o (fun q=>j a q e) g⟩
 ·obtain ⟨o,g⟩:=m.xal a (pN e);exact ⟨o,f a o (fun q=>B a q e) g⟩
noncomputable def xM:List String:=["enumerate","zip","dict_itemiterator","dict_reverseitemiterator","odict_iterator","itertools.zip_longest","itertools.pairwise"]
theorem Hx{M:ŭ}{A:lL}{E:sX}{s:dI}{b:Expr}{I:cY}{o:wJ}{T:String}{v:bO}{Q:Unit→tX}(d:s.heap.get? I=some o)(e:o.cls=.type T)(f:xM.contains T=false)(q:Q () s):bX M A (pQ b (.ref I) v) Q E s:=by
 have c:bX M A (do
   let o←load I
   match o.cls,o.data with
   |.type n,.fields vs=>
    if xM.contains n&&vs[0]?==some (rawInt (match v with|.ref a=>a|_=>0))then
     rule "for.unpacks-the-owned-tuple"
     updateField I 0 .none
   |_,_=>pure ()) Q E s:=by
  refine aH (J4 d ?_);refine e▸?_;cases o.data<;>first|exact bC q|skip
  dsimp only;refine f▸?_;exact bC q
 cases b<;>first|exact bC q|skip
 ·cases v<;>first|exact bC q|exact c
 ·cases v<;>first|exact bC q|exact c
section
variable{k n:Nat}{F:Fx}{σ:St}{Q:Fl→iX}
theorem aBo{s:jX}{a:Pos}{x:Nat}{p:qL}{v:V}{Q:iX}(fk:iY F)(b:lk F.bnd x=some (p,s))(c:œ F.env p s)(q:Q {σ with loc:=lQ x v σ.loc}):GW n F (.Name s a) v σ Q:=fun A X D h tk u ok m r=>by refine G1 (C9 fk m b c r fun h' d m' e=>?_);exact ⟨h',d,D,_,(),rfl,e,m',trivial,q⟩
def aDa(k:Nat)(Q:Fl→iX)(J:iX):Fl→iX:=fun f am=>match f with
 |.next=>∃bn,Wk k am bn∧J bn
 |.cont=>∃bn,Wk k am bn∧J bn
 |.brk=>Q .next am
 |.ret v=>Q (.ret v) am
inductive Ř(F:Fx)(X:iK)(k:Nat)(D:mS)(h₀:dS)(I:List cY)(N:Nat)(Sx:Nat→dS→Prop)(J:Nat→iX)(j:Nat)(s':dI):Prop
 |mk (i:Nat) (h':dS) (ao:Nat) (D':mS) (σ':St) (ej:j=N+1-i) (hi:i≤N) (e:s'=kD h' ao) (st:Ct F k D h₀ D' h') (m:jN F (jK I X) D' σ' h') (sx:Sx i h') (hJ:J i σ'):Ř F X k D h₀ I N Sx J j s'
theorem Pf{X:iK}{D D₅:mS}{h₀ c:dS}{d:Nat}{Ns:List cY}{N i:Nat}{Sx:Nat→dS→Prop}{J:Nat→iX}{g:St}{f:Flow}{f':Fl}(fk:iY F)(p:∀a∈Ns,a∉F.Z)(s:∀a∈Ns,S.heap.get? a=aF)(t:∀a∈Ns,¬X a)
  (st:Ct F k D h₀ D₅ c) (m:jN F (jK Ns X) D₅ g c) (r:rF D₅ (Yf F (jK Ns X) D₅) c f' f) (q:aDa k Q (J (i+1)) f' g) (lt:i<N) (sx:Sx (i+1) c):
  match f with
  |.next|.cont=>∃m,m<N+1-i∧Ř F X k D h₀ Ns N Sx J m (kD c d)
  |.brk=>vH rF F X k D h₀ Q .next (kD c d)
  |.ret v=>vH rF F X k D h₀ Q (.ret v) (kD c d):=by
 have l:=m.leave fk p s t (fun b o _ e=>e);have again:(∃h,Wk k g h∧J (i+1) h)→∃m,m<N+1-i∧Ř F X k D h₀ Ns N Sx J m (kD c d):=by rintro ⟨h,u,j⟩;refine nn fun x=>?_;obtain ⟨D₄,y,z,A⟩:=u F (jK Ns X) D₅ c fk m;refine x ?_;exact ⟨N+1-(i+1),nW (aFj lt) (gX i),i+1,c,d,D₄,h,rfl,lt,rfl,st.trans ⟨fun _ _ e _ _=>e,z,fun n a e=>.inl (A n a e),fun _ o e=>⟨o,e⟩⟩,y,sx,j⟩
 cases r
 ·exact again q
 ·exact ⟨c,d,D₅,g,.next,rfl,st,l,J0.next,q⟩
 ·exact again q
 ·refine ⟨c,d,D₅,g,.ret _,rfl,st,l,.ret (gQ.step (fun b o e _=>e) (fun _ _ e=>e) (fun a e=>?_) _ _ ‹_›),q⟩;rcases e with q|q|q
  ·exact .inl (.inl q)
  ·exact .inl (.inr (.inl (pN q)))
  ·exact .inl (.inr (.inr q))
theorem P3{A:lL}{X:iK}{D:mS}{h₀ h:dS}{tk:Nat}{L:Expr}{body:List uM}{I:cY}{O:List cY}{N:Nat}{P:Nat→bO→Prop}{Sx:Nat→dS→Prop}{ds:Nat→V}{T:String}
  (fk:iY F) (ok:wI n A) (W:Walks prog w A I O [I] N P Sx) (s:∀i h,Sx i h→∃o,h.get? I=some o∧o.cls=.type T) (hT:xM.contains T=false)
  (m:jN F X D σ h₀) (u:∀b o,h₀.get? b=some o→h.get? b=some o) (c:h₀.get? I=aF) (R:Sx 0 h)
  (Y:∀b∈O,b=I∨(b∉F.Z∧(∀i,lk D i≠some b)∧vI h₀ b))
  (Z:∀i v h' D',i<N→P i v→Ct F k D h₀ D' h'→gQ D' (Yf F (jK [I] X) D') h' (ds i) v)
  (J:Nat→iX) (hJ:J 0 σ)
  (cf:∀i σ',i<N→J i σ'→GW n F L (ds i) σ' fun σ₁=>SW k n F body σ₁ (aDa k Q (J (i+1))))
  (done:∀σ',J N σ'→Q .next σ'):
  kC (model prog w) A (.forLoop L (.ref I) body [] F.env) (fun r s'=>match r with|.ok f=>vH rF F X k D h₀ Q f s'|.error e=>cameBackBy (model prog w) A F.env (fun _ _=>False) e s') (kD h tk):=by
 have t:I∉F.Z:=fun z=>((m.zfr I z).2).no c;have ot:¬X I:=fun z=>(m.xal I z).no c;have y:S.heap.get? I=aF:=by
  cases q:S.heap.get? I with
  |none=>rfl
  |some o=>rw [m.base I o q]at c;exact Lp c
 have m1:=m.addX u fun a l=>by obtain rfl:a=I:=aM.mp l;exact ⟨c,let ⟨o,e,_⟩:=s 0 h R;⟨o,e⟩⟩
 refine I1 (Ř F X k D h₀ [I] N Sx J) (fun j s' hs=>?_) (N+1)
  ⟨0,h,tk,D,σ,rfl,bW _,rfl,⟨fun b o e _ _=>u b o e,fun _ _ _ e=>e,fun _ _ e=>.inl e,fun b o e=>⟨o,u b o e⟩⟩,m1,R,hJ⟩
 obtain ⟨i,h',ao,D',σ',rfl,hi,rfl,st,m',sx,su⟩:=hs;rcases tM i N with lt|ge
 ·refine W.item i _ _ _ lt sx fun v h₁ B sw C d=>?_;have ae:=m'.turnX fk (fun a l=>oG l) (Et t) (Et y) d (fun a l=>by refine (aM.mp l)▸?_;obtain ⟨o,e,_⟩:=s _ _ C;exact ⟨o,e⟩);have ag:Ct F k D h₀ D' h₁:=⟨fun b o e G hd=>d b o (fun q=>by rw [aM.mp q,c]at e;exact iE e) (st.keep b o e G hd),st.ext,st.new,fun b o e=>by obtain ⟨g,H⟩:=st.al b o e;exact ⟨g,d b g (fun q=>by rw [aM.mp q,c]at e;exact iE e) H⟩⟩;obtain ⟨oI,eI,cI⟩:=s _ _ C;refine Hx eI cI hT ?_;refine bN ((cf i σ' lt su) A (jK [I] X) D' h₁ B v ok ae (Z i v h₁ D' lt sw ag)) (fun _ g4 p=>?_) fun _ _ x=>x.elim;obtain ⟨aw,bf,D₂,am,_,rfl,aq,bt,_,dp⟩:=p;refine bN (dp A (jK [I] X) D₂ aw bf ok bt) (fun f sp p=>?_) fun _ _ x=>x.elim;obtain ⟨ba,bw,D₃,bn,f',rfl,c5,cz,gx,im⟩:=p;have i8:=(aq.toK k).trans c5;have ma:∀i a,lk D' i=some a→a≠I:=fun j a e q=>(m'.sep j a e).x (oG (by simp [q]));have xo:=W.frame _ _ _ C fun b hb o e=>by
   refine i8.keep b o e ?_ ?_
   ·rcases Y b hb with rfl|⟨z,_,_⟩
    ·exact t
    ·exact z
   ·intro j ej;clear s Z eI bt m1 ae;rcases Y b hb with rfl|⟨_,z2,g,z3⟩
    ·exact ma j b ej rfl
    ·rcases st.new j b ej with q|q
     ·exact z2 j q
     ·rw [z3]at q;exact Lp q
  exact Pf fk (Et t) (Et y) (Et ot) (ag.trans i8) cz gx im lt xo
 ·obtain rfl:i=N:=jD hi ge;refine W.done _ _ _ sx fun h₁ B d=>xV ?_;refine ⟨h₁,B,D',σ',.next,rfl,⟨fun b o e G hd=>d b o (fun q=>by rw [aM.mp q,c]at e;exact iE e) (st.keep b o e G hd),st.ext,st.new,fun b o e=>?_⟩,(m'.leave fk (Et t) (Et y) (Et ot) d),J0.next,done σ' su⟩;obtain ⟨g,H⟩:=st.al b o e;exact ⟨g,d b g (fun q=>by rw [aM.mp q,c]at e;exact iE e) H⟩
end
section
set_option backward.match.sparseCases false
def oX{α β:Type}(g:α→Option β):List α→Option (List β)
 |[]=>some []
 |a::l=>ob (g a) fun b=>ob (oX g l) fun r=>some (b::r)
theorem A6{a b:Type}{g:a→Option b}:oX g []=(some []):=rfl
theorem A5{c d:Type}{g:c→Option d}{a l}:oX g (a::l)=(ob (g a) fun b=>ob (oX g l) fun r=>some (b::r)):=rfl
inductive aMr{α β:Type}(g:α→Option β)(a:α)(l:List α)(l':List β):Prop
 |mk (b:β) (r:List β) (e1:g a=some b) (e2:oX g l=some r) (e:l'=b::r)
theorem Ez{c d:Type}{g:c→Option d}{a:c}{l:List c}{l':List d}(e:oX g (a::l)=some l'):aMr g a l l':=by obtain ⟨b,f,e⟩:=dO e;obtain ⟨r,h,e⟩:=dO e;exact ⟨b,r,f,h,(gM e).symm⟩
inductive FnR(Y:iK)(h:dS)(P:V→Prop)(v:bO)(s':dI):Prop
 |mk (h':dS) (ao:Nat) (r:V) (e:s'=kD h' ao) (k:∀b o,h.get? b=some o→h'.get? b=some o) (p:r.pure=true) (l:gQ [] Y h' r v) (q:P r):FnR Y h P v s'
def Zb(n:Nat)(f:bO)(ds:cG)(P:V→Prop):Prop:=
 ∀A (Y:iK) h tk vs,wI n A→(∀b o,S.heap.get? b=some o→h.get? b=some o)→(∀a,Y a→vI h a)→bS [] Y h ds vs→
  bX (model prog w) A (call f vs) (FnR Y h P) (fun _ _=>False) (kD h tk)
section
variable{n:Nat}{F:Fx}{σ:St}{Q:V→iX}
theorem aJj{P:V→Prop}(j:eB ds=true)(c:Zb n f ds P)(q:∀r,r.pure=true→P r→Q r σ):TW rV n F ds (fun vs=>call f vs) σ Q:=fun A X D h tk vs ok m r=>by
 refine bN (c A (Yf F X D) h tk vs ok m.base (fun a k=>?_) (bS.stepP (fun _ _ e _=>e) (fun _ e=>.inl e) _ _ j r)) (fun v s' p=>?_) fun _ _ e=>e
 ·rcases k with z|z|⟨i,z⟩
  ·exact (m.zfr a z).2
  ·exact m.xal a z
  ·exact (m.sep i a z).h
 ·obtain ⟨h',l,b,rfl,d,g,o,s⟩:=p;exact ⟨h',l,D,σ,b,rfl,pC.grow d,m.grow d,gQ.stepP (fun _ _ e _=>e) (fun _ e=>.inl e) _ _ g o,q b g s⟩
noncomputable def Uv(L:cY)(names:List (jX×sR))(s:jX):qL:=match names.lookup s with
 |some .cell=>.cel (((rI (L+1) names []).lookup s).getD 0)
 |_=>.loc L
noncomputable def Xk(L:cY)(names:List (jX×sR)):Nat→mE→List (Nat×qL×jX)
 |_,[]=>[]
 |i,s::r=>(i,Uv L names s,s)::Xk L names (i+1) r
theorem Sm:Xk L names a []=([]):=rfl
theorem Sl:Xk L names i (s::r)=((i,Uv L names s,s)::Xk L names (i+1) r):=rfl
def wZ(fd:uN)(L a:cY)(tab:mE):Fx where
 env:=callEnvC fd L a
 bnd:=Xk L fd.scope.names 0 tab
 Z:=L::(Xk L fd.scope.names 0 tab).map fun x=>x.2.1.adr
theorem L9:∀{tab:mE}{i:Nat},lk (Xk L names i tab) x=some (p,s)→i≤x∧tab[x-i]?=some s∧p=Uv L names s:=by
 intro d
 induction d with
 |nil=>intro i;intro e;simp [Sm,Sl,fN,fM]at e
 |cons t tab f=>
  intro i;intro e;dsimp only [Sm,Sl,fN,fM]at e;by_cases h:x=i
  ·rw [if_pos h]at e;refine I8 e ?_;rintro rfl rfl;subst h;simp
  ·rw [if_neg h]at e;obtain ⟨a,b,c⟩:=f e;refine ⟨bE ln7 a,?_,c⟩;rw [show x-i=(x-(i+1))+1 by exact bE ln1 a];exact b
end
end
theorem K4{a:jX→Option sR}:∀{b:List (jX×bO)}{m:jX→Option bO},s∉b.map (·.1)→bindL a b m s=m s
 |[],m,_=>rfl
 |(x,v)::r,m,h=>by
  simp only [cS,aU,not_or]at h;unfold bindL;rw [K4 h.2];split
  ·exact if_neg h.1
  ·rfl
theorem K5{a:jX→Option sR}:∀{b:List (jX×bO)}{m:jX→Option bO},s∉b.map (·.1)→bindC a b m s=m s
 |[],m,_=>rfl
 |(x,v)::r,m,h=>by
  simp only [cS,aU,not_or]at h;unfold bindC;rw [K5 h.2];split
  ·rfl
  ·exact if_neg h.1
theorem Qk{c:jX→Option sR}(d:c s=some .local):∀{b:List (jX×bO)}{m:jX→Option bO},(b.map (·.1)).Nodup→(s,v)∈b→bindL c b m s=some v
 |(x,u)::r,m,a,f=>by
  simp only [cS,mX]at a;unfold bindL;rcases aU.mp f with e|e
  ·refine soT e ?_;rintro rfl rfl;rw [K4 a.1,if_pos d,if_pos rfl]
  ·exact Qk d a.2 e
theorem Ql{c:jX→Option sR}(d:c s≠some .local):∀{b:List (jX×bO)}{m:jX→Option bO},(b.map (·.1)).Nodup→(s,v)∈b→bindC c b m s=some v
 |(x,u)::r,m,a,f=>by
  simp only [cS,mX]at a;unfold bindC;rcases aU.mp f with e|e
  ·refine soT e ?_;rintro rfl rfl;rw [K5 a.1,if_neg d,if_pos rfl]
  ·exact Ql d a.2 e
noncomputable def Bh:Nat→cG→List (Nat×V)
 |_,[]=>[]
 |i,d::r=>(i,d)::Bh (i+1) r
theorem Vk:Bh a []=([]):=rfl
theorem Vj:Bh i (d::r)=((i,d)::Bh (i+1) r):=rfl
theorem Vl:∀{ds:cG}{i:Nat},lk (Bh i ds) x=some v→i≤x∧ds[x-i]?=some v
 |[],i,e=>by simp [Vk,Vj,fN,fM]at e
 |d::ds,i,e=>by
  simp only [Vk,Vj,fN,fM]at e;by_cases h:x=i
  ·rw [if_pos h]at e;refine oQ e ?_;rintro rfl;subst h;simp
  ·rw [if_neg h]at e;obtain ⟨a,b⟩:=Vl e;refine ⟨bE ln7 a,?_⟩;rw [show x-i=(x-(i+1))+1 by exact bE ln1 a];simpa using b
theorem Sn:∀{tab:mE}{i x:Nat},i≤x→tab[x-i]?=some s→lk (Xk L names i tab) x=some (Uv L names s,s)
 |[],i,x,_,e=>by simp at e
 |t::tab,i,x,a,e=>by
  simp only [Sm,Sl,fN,fM];by_cases h:x=i
  ·subst h;simp at e;simp [e]
  ·rw [if_neg h];refine Sn (bE aAu a h) ?_;rw [show x-i=(x-(i+1))+1 by exact bE aLr a h]at e;simpa using e
structure lU(fd:uN)(tab:mE):Prop where
 co:fd.scope.isCoroutine=false
 gen:fd.scope.isGenerator=false
 kind:fd.scope.kind=.function
 clo:fd.closure=[]
 nodup:tab.Nodup
 names:∀s∈tab,fd.scope.names.lookup s=some .local∨(fd.scope.names.lookup s=some .cell∧∀n,((rI n fd.scope.names []).lookup s).isSome=true)
section
variable{fd:uN}{tab:mE}
theorem Qf(L:Nat)(names:List (jX×sR)):CellsOk (pushCells ⟨aFr (L+1) {cls:=.none},{}⟩ names) (L+1) (rI (L+1) names []):=by have:=cellsFrom_ok names ⟨aFr (L+1) {cls:=.none},{}⟩ (L+1) [] ⟨fun _ _ a=>(nomatch a),Ob⟩ (by simp);simpa using this
theorem lU.fx(d:lU fd tab)(L a:cY):iY (wZ fd L a tab)where
 kind:=d.kind
 inZ:=fun x p s e=>aQ _ (qG.mpr ⟨_,Ā e,rfl⟩)
 dist:=fun x y p s v s' e f m=>by
  replace e:=L9 e;obtain ⟨_,g,rfl⟩:=e;replace f:=L9 f;obtain ⟨_,h,rfl⟩:=f;have t:=aG g;have i:s≠s':=fun q=>m (by subst q;have l1:=(cU.mp g).1;have:=(pL l1 d.nodup).mp (g.trans h.symm);exact bE 0x40208040040204595462b189600ccc614cc6002 this);have ok:=Qf L fd.scope.names;unfold Uv;rcases d.names s t with q|⟨q,j⟩<;>rcases d.names s' (aG h)with r|⟨r,k⟩<;>rw [q,r]
  ·exact .inr ⟨L,rfl,rfl,i⟩
  ·obtain ⟨c,b⟩:=fX.mp (k (L+1));refine .inl ?_;rw [b];have:=(ok.empty _ _ (mem_of_lookup b)).2;exact fW this
  ·obtain ⟨c,b⟩:=fX.mp (j (L+1));refine .inl ?_;rw [b];have:=(ok.empty _ _ (mem_of_lookup b)).2;exact jC this
  ·obtain ⟨c,b⟩:=fX.mp (j (L+1));obtain ⟨u,l⟩:=fX.mp (k (L+1));refine .inl ?_;refine (?_:((rI (L+1) fd.scope.names []).lookup s).getD 0≠((rI (L+1) fd.scope.names []).lookup s').getD 0);rw [b,l];intro (z:c=u);exact i (name_of_addr ok.apart (mem_of_lookup b) (z▸mem_of_lookup l))
end
noncomputable def F0(env:Env):Fx:=⟨env,[],[]⟩
section
variable{n:Nat}{fd:uN}{tab:mE}{fa:cY}{o:wJ}{body:List uM}{ds:cG}{P:V→Prop}
theorem Bl{s:dI}{R:xW→tX}
  (g:A.depth<recursionLimit) (i:s.heap.get? a=some o) (j:o.data=.func fd) (k:s.heap.NoLimit) (l:s.heap.CodeRec fd.code fd.qualname)
  (m:fd.body=.stmts body) (p:BindsTo s fd ⟨r,[]⟩ binds) (t:fd.closure=[])
  (u:∀x∈binds,fd.scope.names.lookup x.1=some .local∨(fd.scope.names.lookup x.1=some .cell∧((rI (s.heap.objs.size+1) fd.scope.names []).lookup x.1).isSome=true))
  (h:∀d,InCallC s (callEnvC fd s.heap.objs.size a).locals (bindL (callEnvC fd s.heap.objs.size a).kindOf binds fun _=>aF) (callEnvC fd s.heap.objs.size a).cells
    (bindC (callEnvC fd s.heap.objs.size a).kindOf binds fun _=>aF) d→
   bX (model prog w) (A.deeper (callEnvC fd s.heap.objs.size a)) (execs body (callEnvC fd s.heap.objs.size a)) (fun f s'=>R (.ok (.ret (match f with|.ret v=>v|_=>.none))) s')
    (fun e s'=>bX (model prog w) (A.deeper (callEnvC fd s.heap.objs.size a)) (leaving (callEnvC fd s.heap.objs.size a) e) (fun _ b=>R (.error e) b) (fun y b=>R (.error y) b) s') d)
  (c:fd.scope.isCoroutine=false) (z:fd.scope.isGenerator=false) (B:fd.scope.kind=.function):
  kC (model prog w) A (.call (.ref a) ⟨r,[]⟩) R s:=by
 refine codeAny_call_function g i j c z m l (p _ _ _ _ ?_);refine t▸?_;refine wpAny_newFunctionEnv_cells B u fun env C s' x=>?_;subst C;exact ⟨k.keeps x.toInCall.keep,codeAny_func (h s' x)⟩
theorem ĺ{Y:iK}{R:xW→tX}(d:lU fd tab)(jv:S.heap.get? fa=some o)(dg:o.data=.func fd)(dv:S.heap.NoLimit)(jh:S.heap.CodeRec fd.code fd.qualname)(dh:fd.body=.stmts body)
  (c9:BindsTo (kD h tk) fd ⟨T,[]⟩ ((tab.take ds.length).zip vs)) (W:ds.length≤tab.length) (ok:wI (n+1) A) (F:jN (F0 env) Y D ⟨[],cs,nx⟩ h) (hr:bS D (Yf (F0 env) Y D) h ds vs)
  (k:∀h₁ X,(∀b o,h.get? b=some o→h₁.get? b=some o)→(∀a∈(wZ fd h.objs.size fa tab).Z,h.get? a=aF)→jN (wZ fd h.objs.size fa tab) Y D ⟨Bh 0 ds,cs,nx⟩ h₁→wI n (A.deeper (wZ fd h.objs.size fa tab).env)→
   bX (model prog w) (A.deeper (wZ fd h.objs.size fa tab).env) (execs body (wZ fd h.objs.size fa tab).env) (fun f s'=>R (.ok (.ret (match f with|.ret v=>v|_=>.none))) s') (fun _ _=>False) (kD h₁ X)):
  kC (model prog w) A (.call (.ref fa) ⟨T,[]⟩) R (kD h tk):=by
 have G:=F.base;have Z:((tab.take ds.length).zip vs).map (·.1)=tab.take ds.length:=by rw [List.map_fst_zip];simp only [tZ,(hr.length)];exact bE 0x598c52104ce1002
 refine Bl (by have:=ok.dep;exact bE 0x6315080a1220838746003 this) (G _ _ jv) dg (dv.keeps G) (jh.keeps G) dh c9 d.clo (fun x m=>?_) (fun d0 H=>?_) d.co d.gen d.kind
 ·rcases d.names x.1 ((fun x m=>Zd (La m).1:∀x∈(tab.take ds.length).zip vs,x.1∈tab) x m)with q|⟨q,I⟩
  ·exact .inl q
  ·exact .inr ⟨q,I _⟩
 ·obtain ⟨h₁,X,e⟩:=H.toInCall.same;have y:∀b o,h.get? b=some o→h₁.get? b=some o:=fun b o q=>by have:=H.toInCall.keep b o q;replace this:=e▸this;exact this
  have J:=H.toInCall.ns;replace J:=e▸J;have Q:=H.cell;replace Q:=e▸Q;have hL:=fE h;have cw:∀s∈tab,h.get? (Uv h.objs.size fd.scope.names s).adr=aF∧uK h₁ (Uv h.objs.size fd.scope.names s)∧vI h₁ (Uv h.objs.size fd.scope.names s).adr:=fun s l=>by
   unfold Uv;rcases d.names s l with q|⟨q,I⟩<;>refine q▸?_
   ·obtain ⟨g,es,ep,B,r⟩:=J;exact ⟨hL,⟨_,g,es,ep,B,r⟩,g,B⟩
   ·obtain ⟨c,L⟩:=fX.mp (I (h.objs.size+1));refine (?_:h.get? (((rI (h.objs.size+1) fd.scope.names []).lookup s).getD 0)=_∧uK h₁ (.cel (((rI (h.objs.size+1) fd.scope.names []).lookup s).getD 0))∧vI h₁ (((rI (h.objs.size+1) fd.scope.names []).lookup s).getD 0));refine L▸?_;have oj:=L;have ic:=Q s c oj;refine ⟨?_,⟨_,ic⟩,let ⟨g,B,_⟩:=ic;⟨g,B⟩⟩
    cases q:h.get? c with
    |none=>exact q
    |some g=>exact absurd (dR q) (nN.mpr (lX ((H.above) s c (mem_of_lookup oj))))
  have N:∀a∈(wZ fd h.objs.size fa tab).Z,h.get? a=aF∧vI h₁ a:=fun a O=>by
   rcases aU.mp O with rfl|O
   ·obtain ⟨g,_,_,B,_⟩:=J;exact ⟨hL,g,B⟩
   ·replace O:=qG.mp O;obtain ⟨⟨i,p,s⟩,C,rfl⟩:=O;have l:s∈tab∧p=Uv h.objs.size fd.scope.names s:=by
     have:∀(t:mE)(j:Nat),(i,p,s)∈Xk h.objs.size fd.scope.names j t→s∈t∧p=Uv h.objs.size fd.scope.names s:=by
      intro t
      induction t with
      |nil=>intro j h;cases h
      |cons x r ih=>
       intro j C;rcases aU.mp C with e|C
       ·cases e;exact ⟨aR,rfl⟩
       ·exact ⟨aQ _ (ih _ C).1,(ih _ C).2⟩
     exact this tab 0 C
    refine l.2▸?_;exact ⟨(cw s l.1).1,(cw s l.1).2.2⟩
  have xu:∀a,Yf (wZ fd h.objs.size fa tab) Y D a→Yf (F0 env) Y D a∨h.get? a=aF:=fun a q=>by
   rcases q with q|q|q
   ·exact .inr (N a q).1
   ·exact .inl (.inr (.inl q))
   ·exact .inl (.inr (.inr q))
  have sim:jN (wZ fd h.objs.size fa tab) Y D ⟨Bh 0 ds,cs,nx⟩ h₁:=by
   refine ⟨fun b o q=>y b o (G b o q),fun x v q=>?_,fun x p s q=>?_,fun i c q=>?_,F.inj,fun i a q=>?_,fun a q=>⟨?_,(N a q).2⟩,fun a q=>let ⟨o,ho⟩:=F.xal a q;⟨o,y a o ho⟩⟩
   ·obtain ⟨_,hv⟩:=Vl q;have m:x<ds.length:=(cU.mp hv).1;obtain ⟨u,hu,ru⟩:=(bS.step (fun b o e _=>y b o e) (fun _ _ e=>e) xu _ _ hr).get hv;have l:tab[x-0]?=some (tab[x]'(by lia)):=by simp
    refine ⟨Uv h.objs.size fd.scope.names (tab[x]'(bE ù W m)),tab[x]'(bE ù W m),u,Sn (bW _) l,?_,ru⟩;have te:(tab[x]'(bE ù W m),u)∈(tab.take ds.length).zip vs:=by rw [List.mem_iff_getElem?];refine ⟨x,?_⟩;rw [List.getElem?_zip_eq_some];exact ⟨by rw [List.getElem?_take,if_pos m];trivial,by exact hu⟩
    have ji:(((tab.take ds.length).zip vs).map (·.1)).Nodup:=by simp only [Z];exact d.nodup.sublist (List.take_sublist _ _)
    unfold Uv;rcases d.names _ (mB _)with q|⟨q,I⟩<;>refine q▸?_
    ·exact ⟨_,J,Qk q ji te⟩
    ·obtain ⟨c,L⟩:=fX.mp (I (h.objs.size+1));refine (?_:h₁.IsCell (((rI (h.objs.size+1) fd.scope.names []).lookup _).getD 0) (some u));refine L▸?_;have ic:=Q _ c L;rw [Ql (by show fd.scope.names.lookup _≠_;rw [q];intro z;cases z) ji te]at ic;exact ic
   ·obtain ⟨_,l,rfl⟩:=L9 q;exact (cw s (aG l)).2.1
   ·obtain ⟨a,e1,e2⟩:=F.cel i c q;exact ⟨a,e1,e2.on (gQ.step (fun b o e _=>y b o e) (fun _ _ e=>e) xu) (bS.step (fun b o e _=>y b o e) (fun _ _ e=>e) xu) fun o=>y _ o⟩
   ·obtain ⟨a1,a2,a3,⟨g,a4⟩,a5⟩:=F.sep i a q;exact ⟨fun z=>by (rw [(N a z).1]at a4;exact iE a4),a2,a3,⟨g,y _ _ a4⟩,a5⟩
   ·cases q':S.heap.get? a with
    |none=>rfl
    |some g=>have z:=(N a q).1;rw [G a g q']at z;exact Lp z
  simp only [e];exact bN (k h₁ X y (fun a q=>(N a q).1) sim (⟨ok.hd,by have:=ok.dep;refine (?_:A.depth+1+2*n<_);exact bE 0x318a8488074641c0a1220838746003 this,by have:=ok.uni;refine (?_:A.units+3+10*n+100<_);exact bE 0x6315091ce1d100e8e8d980a1239c3a20838747003 this⟩)) (fun _ _ x=>x) fun _ _ x=>x.elim
theorem aL7{Y:iK}{R:xW→tX}(d:lU fd tab)(g:S.heap.get? fa=some o)(l:o.data=.func fd)(m:S.heap.NoLimit)(r:S.heap.CodeRec fd.code fd.qualname)(t:fd.body=.stmts body)
  (u:bindArgs fd ⟨vs,[]⟩=pure ((tab.take ds.length).zip vs)) (y:ds.length≤tab.length) (ok:wI (n+1) A) (z:∀b o,S.heap.get? b=some o→h.get? b=some o) (B:∀a,Y a→vI h a) (C:bS D Y h ds vs)
  (F:∀i a,lk D i=some a→Y a) (G:eB ds=true)
  (k:∀h₁ H,(∀b o,h.get? b=some o→h₁.get? b=some o)→(∀a∈(wZ fd h.objs.size fa tab).Z,h.get? a=aF)→jN (wZ fd h.objs.size fa tab) Y [] ⟨Bh 0 ds,[],0⟩ h₁→wI n (A.deeper (wZ fd h.objs.size fa tab).env)→
   bX (model prog w) (A.deeper (wZ fd h.objs.size fa tab).env) (execs body (wZ fd h.objs.size fa tab).env) (fun f s'=>R (.ok (.ret (match f with|.ret v=>v|_=>.none))) s') (fun _ _=>False) (kD h₁ H)):
  kC (model prog w) A (.call (.ref fa) ⟨vs,[]⟩) R (kD h tk):=
 ĺ (env:=callEnvC fd h.objs.size fa) d g l m r t (aFp u) y ok ⟨z,fun x v q=>by simp [fN,fM]at q,fun x p s q=>by simp [F0,fN,fM]at q,fun i c q=>by simp [fN,fM]at q,fun i j a q=>by simp [fN,fM]at q,fun i a q=>by simp [fN,fM]at q,fun a q=>(by cases q),B⟩
  (bS.stepP (fun _ _ e _=>e) (fun a q=>by
   rcases q with q|q|⟨i,q⟩
   ·cases q
   ·exact .inl q
   ·simp [fN,fM]at q) _ _ G C) k
end
section
set_option backward.match.sparseCases false
def aGf(g:V→qM):gC→qM
 |.list l=>(oX g l).map .lst
 |.dict ks l=>(oX g l).map (.dct ks)
 |.attrs _=>aF
 |.mat _=>aF
def aJu(k:Nat)(cs:List (Nat×gC))(g:V→qM):V→qM
 |.tup l=>(oX g l).map .tup
 |.lst l=>(oX g l).map .lst
 |.mt l=>(oX g l).map .mt
 |.dct ks l=>(oX g l).map (.dct ks)
 |.ref n=>if n<k then some (.ref n)else ob (lk cs n) fun c=>aGf g c
 |.inst n=>if n<k then some (.inst n)else aF
 |.bm id s=>(g s).map (.bm id)
 |_=>aF
def rJ:Nat→Nat→List (Nat×gC)→V→qM
 |0,_,_,_=>aF
 |f+1,k,cs,v=>if v.pure=true then some v else aJu k cs (rJ f k cs) v
theorem oE{g:V→qM}{D:mS}{Y:iK}{h:dS}{D':mS}{Y':iK}{h':dS}(c:∀v a u,g v=some a→gQ D Y h v u→gQ D' Y' h' a u):
  ∀{l l':cG}{us:gI},oX g l=some l'→bS D Y h l us→bS D' Y' h' l' us:=by
 intro l
 induction l with
 |nil=>intro l' us e r;refine oQ e ?_;rintro rfl;exact r
 |cons v l d=>intro l' us e r;replace e:=Ez e;obtain ⟨b,p,f,i,rfl⟩:=e;obtain ⟨u,j,rfl,k,m⟩:=r;exact ⟨u,j,rfl,c v b u f k,d i m⟩
theorem Za.imp{P:cY→gI→Prop}{Y Y':iK}{v:bO}{L L':gI→Prop}(r:Za P Y v L)(b:∀a,¬Y a→¬Y' a)(c:∀xs,L xs→L' xs):Za P Y' v L':=let ⟨a,xs,e,n,p,q⟩:=r;⟨a,xs,e,b a n,p,c xs q⟩
noncomputable def tK(k:Nat):mS→mS
 |[]=>[]
 |(n,a)::r=>if n<k then (n,a)::tK k r else tK k r
theorem Qo{k:Nat}:tK k []=([]):=rfl
theorem Qn{k:Nat}{n a r}:tK k ((n,a)::r)=(if n<k then (n,a)::tK k r else tK k r):=rfl
theorem qZ(k:Nat):∀(D:mS)(n:Nat),lk (tK k D) n=if n<k then lk D n else aF:=by
 intro d
 induction d with
 |nil=>intro n;simp [Qo,Qn,fN,fM]
 |cons f r b=>
  obtain ⟨m,a⟩:=f;intro n;simp only [Qo,Qn];by_cases h:m<k
  ·rw [if_pos h];simp only [fN,fM];by_cases e:n=m
   ·subst e;simp [h]
   ·simp only [if_neg e];exact b n
  ·rw [if_neg h,b n];by_cases c:n<k
   ·have:n≠m:=fun q=>h (q▸c);simp [fN,fM,this]
   ·simp [c]
theorem Db{F:Fx}{X:iK}{D:mS}{σ:St}{h:dS}(m:jN F X D σ h)(k:Nat):∀(f:Nat)(v j:V)(u:bO),rJ f k σ.cells v=some j→gQ D (Yf F X D) h v u→gQ (tK k D) (Yf F X (tK k D)) h j u:=by
 have t:∀a,Yf F X (tK k D) a→Yf F X D a:=fun a q=>by
  rcases q with q|q|⟨n,q⟩
  ·exact .inl q
  ·exact .inr (.inl q)
  ·rw [qZ]at q;exact .inr (.inr ⟨n,(iS q).right⟩)
 have p:∀a,¬Yf F X D a→¬Yf F X (tK k D) a:=fun a q z=>q (t a z);intro f
 induction f with
 |zero=>exact fun v j u e _=>iE e
 |succ f g=>
  intro v j u e r;have e:(if v.pure=true then some v else aJu k σ.cells (rJ f k σ.cells) v)=some j:=e;by_cases G:v.pure=true
  ·replace e:=(if_pos G)▸e;refine oQ e ?_;rintro rfl;exact gQ.stepP (fun _ _ e _=>e) (fun a q=>.inl (t a q)) _ _ G r
  ·replace e:=(if_neg G)▸e;clear G
   cases v with
   |tup l=>obtain ⟨l',b,rfl⟩:=cP.mp e;exact Za.imp r p fun xs=>oE g b
   |lst l=>obtain ⟨l',b,rfl⟩:=cP.mp e;exact Za.imp r p fun xs=>oE g b
   |mt l=>obtain ⟨l',b,rfl⟩:=cP.mp e;exact Za.imp r p fun xs=>oE g b
   |dct ks l=>obtain ⟨l',b,rfl⟩:=cP.mp e;exact Za.imp r p fun xs=>oE g b
   |ref i=>
    have e:(if i<k then some (V.ref i)else ob (lk σ.cells i) fun c=>aGf (rJ f k σ.cells) c)=some j:=e;obtain ⟨a,rfl,d⟩:=r;by_cases hi:i<k
    ·replace e:=(if_pos hi)▸e;refine oQ e ?_;rintro rfl;exact ⟨a,rfl,by rw [qZ,if_pos hi];exact d⟩
    ·rw [if_neg hi]at e;replace e:=dO e;obtain ⟨c,H,e⟩:=e;replace H:=m.cel i c H;obtain ⟨Q,b,y⟩:=H;replace b:=d▸b;refine oQ b ?_;rintro rfl;have A:¬Yf F X (tK k D) a:=fun z=>by
      rcases z with q|q|⟨n,q⟩
      ·exact (m.sep i a d).z q
      ·exact (m.sep i a d).x q
      ·rw [qZ]at q;obtain ⟨J,q⟩:=iS q;exact hi (m.inj n i a q d▸J)
     cases c with
     |list l=>refine nn fun I=>?_;obtain ⟨l',b,rfl⟩:=cP.mp e;obtain ⟨xs,B,C⟩:=y;refine I ?_;exact ⟨a,xs,rfl,A,B,oE g b C⟩
     |dict ks l=>obtain ⟨l',b,rfl⟩:=cP.mp e;refine nn fun I=>?_;obtain ⟨xs,B,C⟩:=y;refine I ?_;exact ⟨a,xs,rfl,A,B,oE g b C⟩
     |attrs as=>exact iE e
     |mat R=>exact iE e
   |inst i=>replace e:=iS e;obtain ⟨hi,e⟩:=e;refine oQ e ?_;rintro rfl;obtain ⟨a,x,rfl,L,d,N⟩:=r;exact ⟨a,x,rfl,p x L,by rw [qZ,if_pos hi];exact d,N⟩
   |bm id s=>obtain ⟨s',b,rfl⟩:=cP.mp e;obtain ⟨a,O,rfl,d,B,C⟩:=r;exact ⟨a,O,rfl,p a d,B,g _ _ _ b C⟩
   |none=>exact iE e
   |bool _=>exact iE e
   |int _=>exact iE e
   |str _=>exact iE e
   |scr _=>exact iE e
   |set0=>exact iE e
   |fn _=>exact iE e
noncomputable def vP:Nat:=30
theorem qX{b c:Type}{x:Option b}{f:b→Option c}{a:b}{r:Option c}(e:x=some a)(q:f a=r):ob x f=r:=by subst e;exact q
def Jl(g:V→qM):List (Nat×V)→Option (List (Nat×V))
 |[]=>some []
 |(x,v)::r=>ob (g v) fun v'=>ob (Jl g r) fun r'=>some ((x,v')::r')
theorem cO{g:V→qM}{x:Nat}{v a:V}{r b:List (Nat×V)}(e:g v=some a)(c:Jl g r=some b):Jl g ((x,v)::r)=some ((x,a)::b):=qX e (qX c rfl)
theorem aA1{g:V→qM}{l l':List (Nat×V)}{x:Nat}{c:V}(e:Jl g l=some l')(h:lk l' x=some c):∃v,lk l x=some v∧g v=some c:=by
 induction l generalizing l' with
 |nil=>obtain rfl:=gM e;cases h
 |cons p r d=>
  obtain ⟨y,v⟩:=p;obtain ⟨j,f,e⟩:=dO e;obtain ⟨k,i,e⟩:=dO e;obtain rfl:=gM e;by_cases q:x=y
  ·exact ⟨v,if_pos q,f.trans ((if_pos q).symm.trans h)⟩
  ·obtain ⟨v,a,b⟩:=d i ((if_neg q).symm.trans h);exact ⟨v,(if_neg q).trans a,b⟩
def Ci(g:V→qM):lT→Option lT
 |[]=>some []
 |(x,v)::r=>ob (g v) fun v'=>ob (Ci g r) fun r'=>some ((x,v')::r')
theorem Ho{g:V→qM}{x:jX}{v a:V}{r b:lT}(e:g v=some a)(c:Ci g r=some b):Ci g ((x,v)::r)=some ((x,a)::b):=qX e (qX c rfl)
theorem Pb{g:V→qM}{l l':lT}{p:jX×V}(e:Ci g l=some l')(h:p∈l'):∃v,(p.1,v)∈l∧g v=some p.2:=by
 induction l generalizing l' with
 |nil=>obtain rfl:=gM e;cases h
 |cons q r d=>
  obtain ⟨y,v⟩:=q;obtain ⟨c,f,e⟩:=dO e;obtain ⟨j,i,e⟩:=dO e;obtain rfl:=gM e;rcases aU.mp h with q|q
  ·subst q;exact ⟨v,aR,f⟩
  ·obtain ⟨c,a,b⟩:=d i q;exact ⟨c,aQ _ a,b⟩
def Jm(g:V→qM):gC→Option gC
 |.list l=>(oX g l).map .list
 |.dict ks l=>(oX g l).map (.dict ks)
 |.attrs as=>(Ci g as).map .attrs
 |.mat m=>some (.mat m)
def tH(k:Nat)(g:V→qM):List (Nat×gC)→Option (List (Nat×gC))
 |[]=>some []
 |(n,c)::r=>if n<k then (ob (Jm g c) fun c'=>ob (tH k g r) fun r'=>some ((n,c')::r'))else tH k g r
theorem ā{k:Nat}{g:V→qM}{l l':List (Nat×gC)}{n:Nat}{f:gC}(e:tH k g l=some l')(h:lk l' n=some f):n<k∧∃c,lk l n=some c∧Jm g c=some f:=by
 induction l generalizing l' with
 |nil=>obtain rfl:=gM e;cases h
 |cons p r i=>
  obtain ⟨y,v⟩:=p;by_cases d:y<k
  ·replace e:=(if_pos d).symm.trans e;obtain ⟨s,j,e⟩:=dO e;obtain ⟨t,m,e⟩:=dO e;obtain rfl:=gM e;by_cases q:n=y
   ·exact ⟨q▸d,v,if_pos q,j.trans ((if_pos q).symm.trans h)⟩
   ·obtain ⟨a,v,b,c⟩:=i m ((if_neg q).symm.trans h);exact ⟨a,v,(if_neg q).trans b,c⟩
  ·obtain ⟨a,v,b,c⟩:=i ((if_neg d).symm.trans e) h;exact ⟨a,v,(if_neg fun q:n=y=>d (q▸a)).trans b,c⟩
def frz(k:Nat)(σ:St):Option St:=ob (Jl (rJ vP k σ.cells) σ.loc) fun l=>ob (tH k (rJ vP k σ.cells) σ.cells) fun c=>some ⟨l,c,k⟩
theorem Ti{k:Nat}{σ σ':St}(e:frz k σ=some σ'):Wk k σ σ':=fun F X D h fk m=>by
 obtain ⟨l,R,e⟩:=dO e;obtain ⟨c,T,e⟩:=dO e;obtain rfl:=gM e;have r:=fun v W u=>Db m k vP v W u;have f:∀n a,lk (tK k D) n=some a→n<k∧lk D n=some a:=fun n a q=>by
  rw [qZ]at q;split at q
  ·exact ⟨by assumption,q⟩
  ·exact iE q
 refine ⟨tK k D,⟨m.base,fun x v q=>?_,m.frm,fun n c' q=>?_,fun n L a q y=>m.inj n L a (f n a q).2 (f L a y).2,fun n a q=>?_,m.zfr,m.xal⟩,fun n a g q=>by rw [qZ,if_pos g];exact q,fun n a q=>(f n a q).2⟩
 ·obtain ⟨Y,i,d⟩:=aA1 R q;obtain ⟨p,s,u,a1,b,z⟩:=m.loc x Y i;exact ⟨p,s,u,a1,b,r _ _ _ d z⟩
 ·obtain ⟨g,N,i,d⟩:=ā T q;replace i:=m.cel n N i;obtain ⟨a,a1,b⟩:=i;refine ⟨a,by rw [qZ,if_pos g];exact a1,?_⟩
  cases N with
  |list l'=>obtain ⟨O,j,rfl⟩:=cP.mp d;obtain ⟨xs,A,B⟩:=b;exact ⟨xs,A,oE r j B⟩
  |dict ks l'=>obtain ⟨O,j,rfl⟩:=cP.mp d;obtain ⟨xs,A,B⟩:=b;exact ⟨xs,A,oE r j B⟩
  |attrs as=>obtain ⟨O,j,rfl⟩:=cP.mp d;obtain ⟨Q,C,G,H⟩:=b;refine ⟨Q,C,G,fun p t=>?_⟩;obtain ⟨v,c1,c2⟩:=Pb j t;obtain ⟨u,I,J⟩:=H _ c1;exact ⟨u,I,r _ _ _ c2 J⟩
  |mat Q=>
   refine oQ d ?_;rintro rfl;refine nn fun Z=>?_;obtain ⟨as,ok,m2,C,G,H⟩:=b;refine Z ?_;refine ⟨as,ok,m2,C,G,fun p t=>?_⟩;obtain ⟨u,I,J⟩:=H _ t;exact ⟨u,I,gQ.stepP (fun _ _ e _=>e) (fun a q=>by
    rcases q with q|q|⟨n,q⟩
    ·exact .inl (.inl q)
    ·exact .inl (.inr (.inl q))
    ·exact .inl (.inr (.inr ⟨n,(f n a q).2⟩))) _ _ (ok.pure p t) J⟩
 ·obtain ⟨g,y⟩:=f n a q;obtain ⟨a1,b,z,a4,a5⟩:=m.sep n a y;exact ⟨a1,b,z,a4,g⟩
noncomputable def Fo(l:List (Nat×V)):nM→List (Nat×V)
 |[]=>[]
 |x::xs=>match lk l x with
  |some v=>(x,v)::Fo l xs
  |aF=>Fo l xs
theorem xK{l:List (Nat×V)}:Fo l []=([]):=rfl
theorem xJ{l:List (Nat×V)}{x xs}:Fo l (x::xs)=(match lk l x with
 |some v=>(x,v)::Fo l xs
 |aF=>Fo l xs):=rfl
theorem Ă{l:List (Nat×V)}{x:Nat}{v:V}:∀{xs:nM},lk (Fo l xs) x=some v→lk l x=some v:=by
 intro b
 induction b with
 |nil=>intro e;simp [xK,xJ,fN,fM]at e
 |cons y xs a=>
  intro e;simp only [xK,xJ]at e
  cases q:lk l y with
  |none=>rw [q]at e;exact a e
  |some u=>
   replace e:=q▸e;simp only [fN,fM]at e;split at e
   ·rename_i h;subst h;refine oQ e ?_;rintro rfl;exact q
   ·exact a e
def A9(xs:nM)(σ:St):St:={σ with loc:=Fo σ.loc xs}
theorem Ą{k:Nat}{xs:nM}{σ:St}:Wk k σ (A9 xs σ):=fun F X D h fk m=>
 ⟨D,⟨m.base,fun x v e=>m.loc x v (Ă e),m.frm,m.cel,m.inj,m.sep,m.zfr,m.xal⟩,fun _ _ _ e=>e,fun _ _ e=>e⟩
def Rc(xs:nM)(k:Nat)(σ:St):Option St:=frz k (A9 xs σ)
theorem Cp{k:Nat}{xs:nM}{σ σ':St}(e:Rc xs k σ=some σ'):Wk k σ σ':=Ą.trans (Ti e)
theorem uV{f k:Nat}{cs:List (Nat×gC)}{v:V}(h:v.pure=true):rJ (f+1) k cs v=some v:=if_pos h
theorem dF{k:Nat}{cs:List (Nat×gC)}{v:V}(h:v.pure=true):rJ vP k cs v=some v:=uV h
theorem Ki{f k:Nat}{cs:List (Nat×gC)}:∀{vs:cG},eB vs=true→oX (rJ (f+1) k cs) vs=some vs:=by
 intro vs
 induction vs with
 |nil=>intro _;rfl
 |cons v r b=>intro a;simp only [dT,dQ,gG]at a;simp only [A6,A5];rw [b a.2,uV a.1];rfl
theorem Gj{f k n:Nat}{cs:List (Nat×gC)}(a:¬n<k):rJ (f+1) k cs (.ref n)=ob (lk cs n) fun c=>aGf (rJ f k cs) c:=by refine (?_:(if n<k then _ else _)=_);rw [if_neg a]
theorem qY{a b:Type}{g:a→Option b}{v:a}{c:b}{r:List a}{d:List b}(e:g v=some c)(f:oX g r=some d):oX g (v::r)=some (c::d):=by simp only [A6,A5];rw [e,f];rfl
theorem Gi{f k:Nat}{cs:List (Nat×gC)}{l l':cG}(a:(V.tup l).pure=false)(e:oX (rJ f k cs) l=some l'):rJ (f+1) k cs (.tup l)=some (.tup l'):=
 (if_neg (by refine a▸?_;exact aY)).trans (congrArg (nA V.tup) e)
theorem Φ{f k:Nat}{cs:List (Nat×gC)}{l l':cG}(a:(V.lst l).pure=false)(e:oX (rJ f k cs) l=some l'):rJ (f+1) k cs (.lst l)=some (.lst l'):=
 (if_neg (by refine a▸?_;exact aY)).trans (congrArg (nA V.lst) e)
def aMy(P:V→Prop):Fl→iX:=fun f σ'=>match f with
 |.ret v=>∃r,rJ vP 0 σ'.cells v=some r∧r.pure=true∧P r
 |.next=>P .none
 |_=>False
def Yv(n:Nat)(f:bO)(ds:cG)(P:V→Prop):Prop:=
 ∀A (Y:iK) h tk vs,wI n A→(∀b o,S.heap.get? b=some o→h.get? b=some o)→(∀a,Y a→vI h a)→bS [] Y h ds vs→
  kC (model prog w) A (.call f ⟨vs,[]⟩) (wants (FnR Y h P) (fun _ _=>False)) (kD h tk)
section
variable{n:Nat}{fd:uN}{tab:mE}{fa:cY}{o:wJ}{body:List uM}{ds:cG}{P:V→Prop}
theorem Yv.c{f:bO}(x:Yv n f ds P):Zb n f ds P:=fun A Y h tk vs ok a b d=>kA (x A Y h tk vs ok a b d)
theorem Ae(d:lU fd tab)(l:S.heap.get? fa=some o)(s:o.data=.func fd)(t:S.heap.NoLimit)(u:S.heap.CodeRec fd.code fd.qualname)(v:fd.body=.stmts body)
  (y:∀vs:gI,vs.length=ds.length→bindArgs fd ⟨vs,[]⟩=pure ((tab.take ds.length).zip vs)) (B:ds.length≤tab.length) (C:eB ds=true)
  (D:∀L,SW 0 n (wZ fd L fa tab) body ⟨Bh 0 ds,[],0⟩ (aMy P)):Yv (n+1) (.ref fa) ds P:=by
 intro A Y h tk vs ok F G c;refine aL7 d l s t u v (y vs c.length) B ok F G c (fun i a q=>by simp [fN,fM]at q) C fun h₁ H I J m N=>?_;refine bN (D h.objs.size _ Y [] h₁ H N m) (fun f s' p=>?_) fun _ _ x=>x;obtain ⟨h',g,D',σ',f',rfl,st,m',r,q⟩:=p;have j:∀b o,h.get? b=some o→h'.get? b=some o:=fun b o e=>st.keep b o (I b o e) (fun z=>by rw [J b z]at e;exact iE e) (fun i z=>by simp [fN,fM]at z)
 cases r with
 |brk=>exact q.elim
 |cont=>exact q.elim
 |next=>exact ⟨h',g,.none,rfl,j,rfl,rfl,q⟩
 |ret r=>refine nn fun O=>?_;obtain ⟨Q,R,k,T⟩:=q;refine O ?_;exact ⟨h',g,Q,rfl,j,k,gQ.stepP (fun _ _ e _=>e) (fun _ z=>.inl (.inr (.inl z))) _ _ k (Db m' 0 vP _ _ _ R r),T⟩
theorem aHt(d:lU fd tab)(a:S.heap.get? fa=some o)(b:o.data=.func fd)(c:S.heap.NoLimit)(e:S.heap.CodeRec fd.code fd.qualname)(f:fd.body=.stmts body)
  (g:∀vs:gI,vs.length=ds.length→bindArgs fd ⟨vs,[]⟩=pure ((tab.take ds.length).zip vs)) (h:ds.length≤tab.length) (i:eB ds=true)
  (j:∀L,SW 0 n (wZ fd L fa tab) body ⟨Bh 0 ds,[],0⟩ (aMy P)):Zb (n+1) (.ref fa) ds P:=
 (Ae d a b c e f g h i j).c
end
end
section
set_option backward.match.sparseCases false
noncomputable abbrev M(α:Type):=St→Option (α×St)
abbrev Cu:=gC→cG→Option (gC×V)
abbrev qR:=cG→M V
noncomputable def bd{α β:Type}(x:Option (α×St))(f:α→St→Option β):Option β:=match x with
 |some (a,σ)=>f a σ
 |aF=>aF
inductive aOx{α β:Type}(x:Option (α×St))(f:α→St→Option β)(r:β):Prop
 |mk (a:α) (σ:St) (e:x=some (a,σ)) (q:f a σ=some r)
theorem eG{a b:Type}{x:Option (a×St)}{f:a→St→Option b}{r:b}(e:bd x f=some r):aOx x f r:=by
 cases x with
 |none=>(exact iE e)
 |some p=>exact ⟨p.1,p.2,rfl,e⟩
structure Cv{β:Type}(b:β)(σ':St)(c:β)(τ:St):Prop where
 l:b=c
 r:σ'=τ
theorem Cv.of{c:Type}{a b:c}(e:some (a,σ)=some (b,τ)):Cv b τ a σ:=by cases e;exact ⟨rfl,rfl⟩
theorem mR{a:Type}{b:a}{P:a→iX}(h:P b σ'):∀c τ,Cv b σ' c τ→P c τ:=by rintro _ _ ⟨rfl,rfl⟩;exact h
theorem TW.atE{b d:Type}{R:RT b d}{t:gI→Fd b}{v:d}{X:iK}{K:b→tX}(x:TW R n F ds t σ (Cv v σ'))(ok:wI n A)(m:jN F X D σ h)(r:bS D (Yf F X D) h ds vs)
  (k:∀a h₁ c D₁,pC F D h D₁ h₁→jN F X D₁ σ' h₁→R D₁ (Yf F X D₁) h₁ v a→K a (kD h₁ c)):bX (model prog w) A (t vs) K (fun _ _=>False) (kD h tk):=
 x.at ok m r fun a h₁ c D₁ _ _ st m r ⟨e,f⟩=>k a h₁ c D₁ st (f▸m) (e▸r)
theorem Ő{X:iK}{K:Args→tX}(b:oW F es)(x:Zc n F c es σ (Cv us σ'))(ok:wI n A)(m:jN F X D σ h)
  (k:∀vs h₁ a D₁,pC F D h D₁ h₁→jN F X D₁ σ' h₁→bS D₁ (Yf F X D₁) h₁ us vs→K ⟨vs,[]⟩ (kD h₁ a)):bX (model prog w) A (evalArgs f true (backTo c (eC es F.env)) []) K (fun _ _=>False) (kD h tk):=
 rG b x ok m fun vs h₁ a D₁ _ _ st m r ⟨d,e⟩=>k vs h₁ a D₁ st (e▸m) (d▸r)
noncomputable def lim:Nat:=1048576
theorem oY:lim≤iC:=by decide
theorem Vg:lim+lim≤iC:=by decide
section
variable(n:Nat)(F:Fx)
def ImT{α β:Type}(R:RT α β)(ds:cG)(t:gI→Fd α)(g:M β):Prop:=∀σ b σ',g σ=some (b,σ')→TW R n F ds t σ (Cv b σ')
def lM(e:Expr)(g:M V):Prop:=∀σ v σ',g σ=some (v,σ')→EW n F e σ (Cv v σ')
def Yu(e:Expr)(g:M Bool):Prop:=∀σ v σ',g σ=some (v,σ')→BW n F e σ (Cv v σ')
def ImA(op:BoolOp)(es:List Expr)(g:M Bool):Prop:=∀σ v σ',g σ=some (v,σ')→Qr n F op es σ (Cv v σ')
def zH(ah:Pos)(es:List Expr)(g:M cG):Prop:=∀σ v σ',g σ=some (v,σ')→Zc n F ah es σ (Cv v σ')
def ImP(e:Option Expr)(g:M (Option Int)):Prop:=∀σ v σ',g σ=some (v,σ')→PW n F e σ (Cv v σ')
def I9(t:Expr)(g:V→St→Option St):Prop:=∀σ v σ',g v σ=some σ'→GW n F t v σ (fun τ=>σ'=τ)
def Fy(s:uM)(g:Nat→M Fl):Prop:=∀k σ f σ',g k σ=some (f,σ')→XW k n F s σ (Cv f σ')
def Fc(b:List uM)(g:Nat→M Fl):Prop:=∀k σ f σ',g k σ=some (f,σ')→SW k n F b σ (Cv f σ')
def Ft(t:bO→bO→Fd bO)(f:V→V→M V):Prop:=∀a b,ImT n F rV [a,b] (two t) (f a b)
end
def aJ(x:Nat):M V:=fun σ=>(lk σ.loc x).map fun v=>(v,σ)
def bY(x:Nat)(v:V)(σ:St):Option St:=some {σ with loc:=lQ x v σ.loc}
noncomputable def gK(v:V):M V:=fun σ=>some (v,σ)
def bH(f:V→V→M V)(gl gr:M V):M V:=fun σ=>bd (gl σ) fun a σ=>bd (gr σ) fun b σ=>f a b σ
def Tf(g:M Bool):M Bool:=fun σ=>bd (g σ) fun b σ=>some (!b,σ)
def kL(g h:M Bool):M Bool:=fun σ=>bd (g σ) fun b σ=>if b=true then h σ else some (false,σ)
def Te(g h:M Bool):M Bool:=fun σ=>bd (g σ) fun b σ=>if b=true then some (true,σ)else h σ
def xP{α:Type}(c:M Bool)(a b:M α):M α:=fun σ=>bd (c σ) fun t σ=>if t=true then a σ else b σ
noncomputable def asB:V→Option Bool
 |.bool b=>some b
 |_=>aF
noncomputable def G0:V→Option Int
 |.int i=>some i
 |_=>aF
def Iu:V→Option Nat
 |.ref n=>some n
 |_=>aF
noncomputable def aV{β:Type}(f:V→cG→Option β):cG→Option β
 |[]=>aF
 |v::r=>f v r
noncomputable def aN{β:Type}(x:Option β):cG→Option β
 |[]=>x
 |_::_=>aF
noncomputable def aE{β:Type}(x:Option β)(f:V→cG→Option β):cG→Option β
 |[]=>x
 |v::r=>f v r
@[elab_as_elim] theorem pB {a:Type} {f:V→cG→Option a} {P:cG→Prop} {r:a} (e:aV f us=some r) (k:∀v t,f v t=some r→P (v::t)):P us:=by
 cases us with
 |nil=>exact iE e
 |cons v t=>exact k v t e
@[elab_as_elim] theorem pM {a:Type} {x:Option a} {P:cG→Prop} {r:a} (e:aN x us=some r) (k:x=some r→P []):P us:=by
 cases us with
 |nil=>exact k e
 |cons v t=>exact iE e
def aL{β:Type}(σ:St)(n:Nat)(f:cG→Option β):Option β:=ob (lk σ.cells n) fun c=>ob (liC c) f
inductive AL{β:Type}(σ:St)(n:Nat)(f:cG→Option β)(r:β):Prop
 |mk (l:cG) (h:lk σ.cells n=some (.list l)) (q:f l=some r)
theorem O4{a:Type}{f:cG→Option a}{r:a}(e:aL σ n f=some r):AL σ n f r:=by
 obtain ⟨c,h,e⟩:=dO e
 cases c with
 |list l=>exact ⟨l,h,e⟩
 |dict _ _=>exact iE e
 |attrs _=>exact iE e
 |mat _=>exact iE e
theorem Œ{a:Type}{f:cG→Option a}(h:lk σ.cells n=some (.list l)):aL σ n f=f l:=by unfold aL;rw [h];rfl
def diC:gC→Option (aW×cG)
 |.dict ks vs=>some (ks,vs)
 |_=>aF
def aD{β:Type}(σ:St)(n:Nat)(f:aW×cG→Option β):Option β:=ob (lk σ.cells n) fun c=>ob (diC c) f
inductive AD{β:Type}(σ:St)(n:Nat)(f:aW×cG→Option β)(r:β):Prop
 |mk (ks:aW) (vs:cG) (h:lk σ.cells n=some (.dict ks vs)) (q:f (ks,vs)=some r)
theorem aDy{a:Type}{f:aW×cG→Option a}{r:a}(e:aD σ n f=some r):AD σ n f r:=by
 obtain ⟨c,h,e⟩:=dO e
 cases c with
 |dict ks vs=>exact ⟨ks,vs,h,e⟩
 |list _=>exact iE e
 |attrs _=>exact iE e
 |mat _=>exact iE e
theorem aFe{a:Type}{f:aW×cG→Option a}(h:lk σ.cells n=some (.dict ks vs)):aD σ n f=f (ks,vs):=by unfold aD;rw [h];rfl
inductive Ob1{α β:Type}(c:α→V)(f:α→Option β)(v:V)(r:β):Prop
 |mk (i:α) (e:v=c i) (q:f i=some r)
@[elab_as_elim] theorem Kg {a:Type} {f:Nat→Option a} {P:V→Prop} {r:a} (e:ob (Iu v) f=some r) (k:∀n,f n=some r→P (.ref n)):P v:=by cases v<;>first|exact k _ e|exact iE e
@[elab_as_elim] theorem zC {a:Type} {f:Int→Option a} {P:V→Prop} {r:a} (e:ob (G0 v) f=some r) (k:∀n,f n=some r→P (.int n)):P v:=by cases v<;>first|exact k _ e|exact iE e
theorem ß{a:Type}{f:Nat→Option a}{r:a}(e:ob (Iu v) f=some r):Ob1 V.ref f v r:=Kg e fun n e=>⟨n,rfl,e⟩
theorem aDx{a:Type}{f:Int→Option a}{r:a}(e:ob (G0 v) f=some r):Ob1 V.int f v r:=zC e fun n e=>⟨n,rfl,e⟩
noncomputable def aIl:V→Option (aW×cG)
 |.dct ks vs=>some (ks,vs)
 |_=>aF
@[elab_as_elim] theorem aD0 {a:Type} {f:aW×cG→Option a} {P:V→Prop} {r:a} (e:ob (aIl v) f=some r) (k:∀ks vs,f (ks,vs)=some r→P (.dct ks vs)):P v:=by cases v<;>first|exact k _ _ e|exact iE e
noncomputable def aMm:V→Option (String×V)
 |.bm id u=>some (id,u)
 |_=>aF
@[elab_as_elim] theorem aJ8 {a:Type} {f:String×V→Option a} {P:V→Prop} {r:a} (e:ob (aMm v) f=some r) (k:∀id u,f (id,u)=some r→P (.bm id u)):P v:=by cases v<;>first|exact k _ _ e|exact iE e
noncomputable def aIi:V→Option Unit
 |.set0=>some ()
 |_=>aF
@[elab_as_elim] theorem aDz {a:Type} {f:Unit→Option a} {P:V→Prop} {r:a} (e:ob (aIi v) f=some r) (k:f ()=some r→P .set0):P v:=by cases v<;>first|exact k e|exact iE e
def aI{β:Type}(f:Int→cG→Option β):cG→Option β:=aV fun v t=>ob (G0 v) fun i=>f i t
@[elab_as_elim] theorem Bz {a:Type} {f:Int→cG→Option a} {P:cG→Prop} {r:a} (e:aI f us=some r) (k:∀i t,f i t=some r→P (.int i::t)):P us:=
 pB e fun v t e=>zC e fun i e=>k i t e
def aI3{β:Type}(f:Int→Int→Int→cG→Option β):cG→Option β:=aI fun a=>aI fun b=>aI fun c=>f a b c
@[elab_as_elim] theorem Nl {d:Type} {f:Int→Int→Int→cG→Option d} {P:cG→Prop} {r:d} (e:aI3 f us=some r) (k:∀a b c t,f a b c t=some r→P (.int a::.int b::.int c::t)):P us:=
 Bz e fun a _ e=>Bz e fun b _ e=>Bz e fun c t e=>k a b c t e
def Jy:V→Option cG
 |.tup l=>some l
 |_=>aF
@[elab_as_elim] theorem U2 {a:Type} {f:cG→Option a} {P:V→Prop} {r:a} (e:ob (Jy v) f=some r) (k:∀l,f l=some r→P (.tup l)):P v:=by cases v<;>first|exact k _ e|exact iE e
def aC7:V→Option cG
 |.mt l=>some l
 |_=>aF
@[elab_as_elim] theorem ã {a:Type} {f:cG→Option a} {P:V→Prop} {r:a} (e:ob (aC7 v) f=some r) (k:∀l,f l=some r→P (.mt l)):P v:=by cases v<;>first|exact k _ e|exact iE e
noncomputable def aMl:V→Option bO
 |.fn u=>some u
 |_=>aF
@[elab_as_elim] theorem aJ7 {a:Type} {f:bO→Option a} {P:V→Prop} {r:a} (e:ob (aMl v) f=some r) (k:∀u,f u=some r→P (.fn u)):P v:=by cases v<;>first|exact k _ e|exact iE e
noncomputable def Yr:V→Option Nat
 |.inst n=>some n
 |_=>aF
@[elab_as_elim] theorem â {a:Type} {f:Nat→Option a} {P:V→Prop} {r:a} (e:ob (Yr v) f=some r) (k:∀n,f n=some r→P (.inst n)):P v:=by cases v<;>first|exact k _ e|exact iE e
noncomputable def atC:gC→Option lT
 |.attrs as=>some as
 |_=>aF
def aA{β:Type}(σ:St)(n:Nat)(f:lT→Option β):Option β:=ob (lk σ.cells n) fun c=>ob (atC c) f
@[elab_as_elim] theorem aD2 {a:Type} {f:lT→Option a} {P:gC→Prop} {r:a} (e:ob (atC c) f=some r) (k:∀as,f as=some r→P (.attrs as)):P c:=by cases c<;>first|exact k _ e|exact iE e
inductive AA{β:Type}(σ:St)(n:Nat)(f:lT→Option β)(r:β):Prop
 |mk (as:lT) (h:lk σ.cells n=some (.attrs as)) (q:f as=some r)
theorem á{a:Type}{f:lT→Option a}{r:a}(e:aA σ n f=some r):AA σ n f r:=by obtain ⟨c,h,e⟩:=dO e;revert h;exact aD2 e fun as e h=>⟨as,h,e⟩
theorem aFf{a:Type}{f:lT→Option a}(h:lk σ.cells n=some (.attrs as)):aA σ n f=f as:=by unfold aA;rw [h];rfl
noncomputable def oo{α β:Type}(x:Option α)(f:α→Option β)(g:Option β):Option β:=match x with
 |some a=>f a
 |aF=>g
def aIj:V→Option cG
 |.lst l=>some l
 |_=>aF
@[elab_as_elim] theorem ä {a:Type} {f:cG→Option a} {P:V→Prop} {r:a} (e:ob (aIj v) f=some r) (k:∀l,f l=some r→P (.lst l)):P v:=by cases v<;>first|exact k _ e|exact iE e
noncomputable def onN{β:Type}(v:V)(x:Option β):Option β:=match v with
 |.none=>x
 |_=>aF
@[elab_as_elim] theorem å {a:Type} {f:Int→Option a} {g:Option a} {P:V→Prop} {r:a} (e:oo (G0 v) f g=some r) (k:∀n,f n=some r→P (.int n)) (d:g=some r→P v):P v:=by cases v<;>first|exact k _ e|exact d e
@[elab_as_elim] theorem U1 {a:Type} {f:cG→Option a} {g:Option a} {P:V→Prop} {r:a} (e:oo (Jy v) f g=some r) (k:∀n,f n=some r→P (.tup n)) (d:g=some r→P v):P v:=by cases v<;>first|exact k _ e|exact d e
@[elab_as_elim] theorem Ü {a:Type} {x:Option a} {P:V→Prop} {r:a} (e:onN v x=some r) (k:x=some r→P .none):P v:=by cases v<;>first|exact k e|exact iE e
theorem aDw{a:Type}{f:Nat→Option a}{r:a}(e:ob (Yr v) f=some r):Ob1 V.inst f v r:=â e fun n e=>⟨n,rfl,e⟩
noncomputable def maC:gC→Option Iy
 |.mat m=>some m
 |_=>aF
@[elab_as_elim] theorem aD1 {a:Type} {f:Iy→Option a} {P:gC→Prop} {r:a} (e:ob (maC c) f=some r) (k:∀m,f m=some r→P (.mat m)):P c:=by cases c<;>first|exact k _ e|exact iE e
noncomputable def aMk:V→Option jX
 |.str s=>some s
 |_=>aF
@[elab_as_elim] theorem aGp {a:Type} {f:jX→Option a} {P:V→Prop} {r:a} (e:ob (aMk v) f=some r) (k:∀s,f s=some r→P (.str s)):P v:=by cases v<;>first|exact k _ e|exact iE e
def dU(g:M V):M Bool:=fun σ=>bd (g σ) fun v σ=>(asB v).map fun b=>(b,σ)
def bJ:M cG:=fun σ=>some ([],σ)
def aK(g:M V)(h:M cG):M cG:=fun σ=>bd (g σ) fun v σ=>bd (h σ) fun vs σ=>some (v::vs,σ)
def fY(g:M cG):M V:=fun σ=>bd (g σ) fun vs σ=>if vs.length≤lim then some (.tup vs,σ)else aF
def gE(g:M cG):M V:=fun σ=>bd (g σ) fun vs σ=>if vs.length≤lim then some (.lst vs,σ)else aF
noncomputable def ê(c:gC)(σ:St):V×St:=(.ref σ.next,{σ with cells:=(σ.next,c)::σ.cells,next:=σ.next+1})
def lZ(g:M cG):M V:=fun σ=>bd (g σ) fun vs σ=>if vs.length≤lim then some (ê (.list vs) σ)else aF
def gP(g:M V):M (Option Int):=fun σ=>bd (g σ) fun v σ=>(G0 v).map fun i=>(some i,σ)
noncomputable def pP:M (Option Int):=fun σ=>some (aF,σ)
def iA(g:M V)(l u:M (Option Int)):M V:=fun σ=>bd (g σ) fun o σ=>bd (l σ) fun lo σ=>bd (u σ) fun hi σ=>ob (ŧ σ o) fun xs=>if xs.length≤lim then some (.lst (pySl xs lo hi),σ)else aF
def dW(g h:Nat→M Fl):Nat→M Fl:=fun k σ=>bd (g k σ) fun f σ=>match f with
 |.next=>h k σ
 |f=>some (f,σ)
def Yc(h:Nat→M Fl):Nat→M Fl:=fun k σ=>ob (frz k σ) fun σ=>h k σ
noncomputable def lS(f:Fl):Nat→M Fl:=fun _ σ=>some (f,σ)
def eS(g:M V)(t:V→St→Option St):Nat→M Fl:=fun _ σ=>bd (g σ) fun v σ=>ob (t v σ) fun σ=>some (.next,σ)
def P1(x:Nat)(f:V→V→M V)(g:M V):Nat→M Fl:=fun _ σ=>ob (lk σ.loc x) fun old=>bd (g σ) fun v σ=>bd (f old v σ) fun r σ=>some (.next,{σ with loc:=lQ x r σ.loc})
def rP(c:M Bool)(a b:Nat→M Fl):Nat→M Fl:=fun k σ=>bd (c σ) fun t σ=>if t=true then a k σ else b k σ
def wT(g:M V):Nat→M Fl:=fun _ σ=>bd (g σ) fun v σ=>some (.ret v,σ)
def sE(g:M V):Nat→M Fl:=fun _ σ=>bd (g σ) fun v σ=>match v with
 |.none=>some (.next,σ)
 |.str _=>some (.next,σ)
 |_=>aF
def whG(xs:nM)(k:Nat)(t:M Bool)(b:M Fl):Nat→M Fl
 |0,_=>aF
 |n+1,σ=>bd (t σ) fun c σ=>if c=true then bd (b σ) fun f σ=>match f with
   |.next=>ob (Rc xs k σ) fun σ=>whG xs k t b n σ
   |.cont=>ob (Rc xs k σ) fun σ=>whG xs k t b n σ
   |.brk=>some (.next,σ)
   |.ret v=>some (.ret v,σ)
  else some (.next,σ)
noncomputable def aC2:Nat:=1048576
def qK(xs:nM)(t:M Bool)(b:Nat→M Fl):Nat→M Fl:=fun k σ=>if k≤σ.next then whG xs σ.next t (b σ.next) aC2 σ else aF
def qD(xs:nM)(h:Nat→M Fl):Nat→M Fl:=fun k σ=>h k (A9 xs σ)
theorem aIm(e:(asB c).map (fun b=>(b,σ))=some (v,σ')):∃b,c=.bool b∧Cv v σ' b σ:=by
 cases c with
 |bool b=>exact ⟨b,rfl,.of e⟩
 |_=>exact iE e
theorem aIk(e:(G0 c).map (fun i=>(some i,σ))=some (v,σ')):∃i,c=.int i∧Cv v σ' (some i) σ:=by
 cases c with
 |int b=>exact ⟨b,rfl,.of e⟩
 |_=>exact iE e
theorem aL9(e:sE (fun σ=>some (v,σ)) 0 σ=some (f,σ')):(v=.none∨∃x,v=.str x)∧Cv f σ' .next σ:=by
 cases v with
 |none=>exact ⟨.inl rfl,.of e⟩
 |str x=>exact ⟨.inr ⟨x,rfl⟩,.of e⟩
 |_=>exact iE e
section
variable{n:Nat}{F:Fx}
theorem aBh(fk:iY F)(a:lk F.bnd x=some (p,s))(b:œ F.env p s)(hd:(s== ("__debug__":jX))=false):lM n F (.Name s c) (aJ x):=fun σ v σ' e=>by
 unfold aJ at e
 cases h:lk σ.loc x with
 |none=>rw [h]at e;exact iE e
 |some u=>rw [h]at e;exact aHv fk h a b hd (.of e)
theorem bM:lM n F (.Constant (.int i) k a) (gK (.int i)):=fun σ v σ' e=>by exact aHz (.of e)
theorem jA:lM n F (.Constant (.str x) k a) (gK (.str x)):=fun σ v σ' e=>by exact aHx (.of e)
theorem pX:lM n F (.Constant .none k a) (gK .none):=fun σ v σ' e=>by exact aB4 (.of e)
theorem Dm:lM n F (.Constant (.bool b) k a) (gK (.bool b)):=fun σ v σ' e=>by exact aB6 (.of e)
theorem cH{f:V→V→M V}(o:Ft n F (binaryOp c) f)(x:lM n F l d)(y:lM n F r g):lM n F (.BinOp l c r k) (bH f d g):=fun σ v σ' e=>by refine nn fun h=>?_;obtain ⟨a,σ₁,i,e⟩:=eG e;obtain ⟨b,m,j,e⟩:=eG e;refine h ?_;refine aH1 ((x σ _ _ i).mono ?_);refine mR ?_;refine (y _ _ _ j).mono ?_;refine mR ?_;exact o _ _ _ _ _ e
theorem Gr{f:V→V→M V}(o:Ft n F (compareOp c) f)(x:lM n F l d)(y:lM n F r g)(h:behindInMarks c r=false):lM n F (.Compare l [c] [r] m) (bH f d g):=fun σ v σ' e=>by refine nn fun i=>?_;obtain ⟨a,σ₁,j,e⟩:=eG e;obtain ⟨b,p,k,e⟩:=eG e;refine i ?_;refine aH0 h ((x σ _ _ j).mono ?_);refine mR ?_;refine (y _ _ _ k).mono ?_;refine mR ?_;exact o _ _ _ _ _ e
theorem cW{f:V→V→M V}(o:Ft n F (compareOp d) f)(x:lM n F l g)(y:lM n F r h)(i:behindInMarks d r=false):Yu n F (.Compare l [d] [r] p) (dU (bH f g h)):=fun σ v σ' e=>by obtain ⟨c,s,e,j⟩:=eG e;replace e:=eG e;obtain ⟨a,σ₁,k,e⟩:=e;replace e:=eG e;obtain ⟨b,t,m,e⟩:=e;refine Ts i ((x σ _ _ k).mono ?_);refine mR ?_;refine (y _ _ _ m).mono ?_;refine mR ?_;exact (o _ _ _ _ _ e).mono (mR (aIm j))
theorem Mm(y:Yu n F x g):Yu n F (.UnaryOp .Not x c) (Tf g):=fun σ v σ' e=>by obtain ⟨a,σ₁,b,e⟩:=eG e;refine aIe ((y _ _ _ b).mono ?_);refine mR ?_;exact (.of e)
theorem kK(y:ImA n F a es g):Yu n F (.BoolOp a es b) g:=fun σ v σ' e=>aC0 (y _ _ _ e)
theorem lR:ImA n F .And [] (fun σ=>some (true,σ)):=fun σ v σ' e=>by exact Qq (.of e)
theorem Vp:ImA n F .Or [] (fun σ=>some (false,σ)):=fun σ v σ' e=>by exact Tw (.of e)
theorem fC(x:Yu n F e g)(y:ImA n F .And es h):ImA n F .And (e::es) (kL g h):=fun σ v σ' e=>by
 obtain ⟨a,σ₁,b,e⟩:=eG e;refine Nk ((x _ _ _ b).mono ?_);refine mR ?_;cases a
 ·exact (.of e)
 ·exact y _ _ _ e
theorem H5(x:Yu n F e g)(y:ImA n F .Or es h):ImA n F .Or (e::es) (Te g h):=fun σ v σ' e=>by
 obtain ⟨a,σ₁,b,e⟩:=eG e;refine Qp ((x _ _ _ b).mono ?_);refine mR ?_;cases a
 ·exact y _ _ _ e
 ·exact (.of e)
theorem uD(x:Yu n F c gc)(y:lM n F a d)(z:lM n F b gb):lM n F (.IfExp c a b g) (xP gc d gb):=fun σ v σ' e=>by
 obtain ⟨t,σ₁,f,e⟩:=eG e;refine aHy ((x _ _ _ f).mono ?_);refine mR ?_;cases t
 ·exact z _ _ _ e
 ·exact y _ _ _ e
theorem aO:zH n F a [] bJ:=fun σ v σ' e=>by exact aH3 (.of e)
theorem hW(x:lM n F e g)(y:zH n F c es h)(d:eC (e::es) F.env=(false,eval e F.env)::eC es F.env):zH n F c (e::es) (aK g h):=fun σ v σ' e=>by refine nn fun f=>?_;obtain ⟨a,σ₁,i,e⟩:=eG e;obtain ⟨b,k,j,e⟩:=eG e;refine f ?_;refine aCa d ((x _ _ _ i).mono ?_);refine mR ?_;refine (y _ _ _ j).mono ?_;refine mR ?_;exact (.of e)
theorem cR(x:zH n F b es g):lM n F (.Tuple es k b) (fY g):=fun σ v σ' e=>by
 obtain ⟨a,σ₁,c,e⟩:=eG e;split at e
 ·refine Ĳ ((x _ _ _ c).mono ?_);refine mR ?_;exact ⟨bR ‹_› oY,.of e⟩
 ·exact iE e
theorem dY(x:zH n F b es g):lM n F (.List es b) (gE g):=fun σ v σ' e=>by
 obtain ⟨a,σ₁,c,e⟩:=eG e;split at e
 ·refine aB5 ((x _ _ _ c).mono ?_);refine mR ?_;exact ⟨bR ‹_› oY,.of e⟩
 ·exact iE e
theorem gH(x:zH n F b es g):lM n F (.List es b) (lZ g):=fun σ v σ' e=>by
 obtain ⟨a,σ₁,c,e⟩:=eG e;split at e
 ·refine Ĵ ((x _ _ _ c).mono ?_);refine mR ?_;exact ⟨bR ‹_› oY,.of e⟩
 ·exact iE e
theorem eT{f:V→V→M V}(o:Ft n F (subscriptTail value c) f)(x:lM n F value d)(y:lM n F c gi):lM n F (.Subscript value c j) (bH f d gi):=fun σ v σ' e=>by refine nn fun g=>?_;obtain ⟨a,σ₁,h,e⟩:=eG e;obtain ⟨b,k,i,e⟩:=eG e;refine g ?_;refine aHw ((x σ _ _ h).mono ?_);refine mR ?_;refine (y _ _ _ i).mono ?_;refine mR ?_;exact o _ _ _ _ _ e
theorem vC:ImP n F aF pP:=fun σ v σ' e=>by exact (.of e)
theorem gZ(x:lM n F e g):ImP n F (some e) (gP g):=fun σ v σ' e=>by replace e:=eG e;obtain ⟨a,σ₁,b,e⟩:=e;exact (x _ _ _ b).mono (mR (aIk e))
theorem PW.mono{Q Q':Option Int→iX}(x:PW n F e σ Q)(h:∀b σ',Q b σ'→Q' b σ'):PW n F e σ Q':=by
 cases e with
 |none=>exact h _ _ x
 |some e=>exact TW.mono x fun b σ' ⟨i,a,c⟩=>⟨i,a,h _ _ c⟩
theorem jW(x:lM n F value g)(y:ImP n F lower l)(z:ImP n F upper u):lM n F (.Subscript value (.Slice lower upper aF p) k) (iA g l u):=fun σ v σ' e=>by
 refine nn fun d=>?_;obtain ⟨a,σ₁,f,e⟩:=eG e;obtain ⟨b,m,h,e⟩:=eG e;obtain ⟨c,o,i,e⟩:=eG e;obtain ⟨xs,j,e⟩:=dO e;refine d ?_;split at e
 ·refine ĳ ((x _ _ _ f).mono ?_);refine mR ?_;refine (y _ _ _ h).mono ?_;refine mR ?_;refine (z _ _ _ i).mono ?_;refine mR ?_;exact ⟨xs,j,bR ‹_› oY,.of e⟩
 ·exact iE e
theorem iG:Fc n F [] (lS .next):=fun k σ f σ' e=>by exact Cc (.of e)
theorem XW.mono{Q Q':Fl→iX}(x:XW k n F s σ Q)(y:∀f σ',Q f σ'→Q' f σ'):XW k n F s σ Q':=fun A X D h tk ok m=>by refine bN (x A X D h tk ok m) (fun f s' p=>?_) fun _ _ e=>e;obtain ⟨h',a,D',σ',b,e,c,m',r,q⟩:=p;exact ⟨h',a,D',σ',b,e,c,m',r,y _ _ q⟩
theorem vH.lower{d f:Type}{R:RT d f}{X:iK}{Q:f→iX}{a:d}{s':dI}(g:k≤i)(p:vH R F X i D h Q a s'):vH R F X k D h Q a s':=by obtain ⟨h',j,D',σ',b,e,c,m',r,q⟩:=p;exact ⟨h',j,D',σ',b,e,⟨c.keep,fun n a l=>c.ext n a (bT l g),c.new,c.al⟩,m',r,q⟩
theorem XW.lower{Q:Fl→iX}(a:k≤b)(x:XW b n F s σ Q):XW k n F s σ Q:=fun A X D h tk ok m=>
 bN (x A X D h tk ok m) (fun _ _ p=>p.lower a) fun _ _ e=>e
theorem bI{g h:Nat→M Fl}(x:Fy n F s g)(y:Fc n F b h):Fc n F (s::b) (dW g h):=fun k σ f σ' e=>by
 obtain ⟨a,σ₁,c,e⟩:=eG e;refine iZ ((x k _ _ _ c).mono ?_);refine mR ?_;cases a
 ·exact y k _ _ _ e
 ·exact (.of e)
 ·exact (.of e)
 ·exact (.of e)
theorem cM{g:Nat→M Fl}(x:Fy n F s g):Fc n F [s] g:=fun k σ f σ' e=>by
 refine iZ ((x k _ _ _ e).mono ?_);refine mR ?_;cases f
 ·exact Cc ⟨rfl,rfl⟩
 all_goals exact ⟨rfl,rfl⟩
theorem Ml{h:Nat→M Fl}(fk:iY F)(y:Fc n F b h):Fc n F b (Yc h):=fun k σ f σ' e=>by obtain ⟨σ₁,a,e⟩:=dO e;exact Ul fk (Ti a) (y k _ _ _ e)
theorem eZ{h:Nat→M Fl}(fk:iY F)(y:Fc n F b h):Fc n F b (qD xs h):=fun k σ f σ' e=>Ul fk Ą (y k _ _ _ e)
theorem ē(fk:iY F)(a:lk F.bnd x=some (p,s))(b:œ F.env p s):I9 n F (.Name s c) (bY x):=fun σ v σ' e=>by refine oQ e ?_;rintro rfl;exact aBo fk a b rfl
theorem aBf{f:V→V→M V}(fk:iY F)(b:lk F.bnd x=some (p,s))(c:œ F.env p s)(o:Ft n F (inplaceOp d) f)
  (y:lM n F e g):Fy n F (.AugAssign (.Name s pos') d e m) (P1 x f g):=fun k σ f σ' e=>by
 refine nn fun h=>?_;obtain ⟨old,i,e⟩:=dO e;obtain ⟨a,σ₁,j,e⟩:=eG e;obtain ⟨r,t,l,e⟩:=eG e;refine h ?_;refine aFt fk i b c ((y _ _ _ j).mono ?_);refine mR ?_;refine (o _ _ _ _ _ l).mono ?_;refine mR ?_;exact (.of e)
theorem hV{a b:Nat→M Fl}(x:Yu n F test c)(y:Fc n F body a)(z:Fc n F orelse b):Fy n F (.If test body orelse g) (rP c a b):=fun k σ f σ' e=>by
 obtain ⟨t,σ₁,d,e⟩:=eG e;refine Zm ((x _ _ _ d).mono ?_);refine mR ?_;cases t
 ·exact z k _ _ _ e
 ·exact y k _ _ _ e
theorem mY(y:lM n F e g):Fy n F (.Return (some e) c) (wT g):=fun k σ f σ' e=>by obtain ⟨a,σ₁,b,e⟩:=eG e;refine aFs ((y _ _ _ b).mono ?_);refine mR ?_;exact (.of e)
theorem Xz:Fy n F (.Break a) (lS .brk):=fun k σ f σ' e=>by exact Zp (.of e)
theorem Đ:Fy n F (.Continue a) (lS .cont):=fun k σ f σ' e=>by exact Ų (.of e)
theorem eN(hi:interactive F.env=false)(b:swapsWith e none c.line F.env=pure false)(y:lM n F e g):Fy n F (.Expr e c) (sE g):=fun k σ f σ' e=>by replace e:=eG e;obtain ⟨a,σ₁,d,e⟩:=e;exact C3 hi b ((y _ _ _ d).mono (mR (aL9 e)))
theorem sD{b:Nat→M Fl}(fk:iY F)(x:Yu n F test c)(y:Fc n F body b):Fy n F (.While test body [] m) (qK xs c b):=fun k σ f σ' e=>by
 unfold qK at e;split at e
 ·rename_i h;refine XW.lower h (Zl fk (fun i τ=>whG xs σ.next c (b σ.next) i τ=some (f,σ')) aC2 e fun i τ hi=>?_)
  cases i with
  |zero=>(exact iE hi)
  |succ i=>
   obtain ⟨t,σ₁,j,hi⟩:=eG hi;refine (x _ _ _ j).mono ?_;refine mR ?_;cases t
   ·exact (.of hi)
   ·obtain ⟨g,o,l,hi⟩:=eG hi;refine jY (y _ _ _ _ l) ?_;refine mR ?_;cases g
    ·obtain ⟨a,d,hi⟩:=dO hi;exact ⟨i,a,gX _,Cp d,hi⟩
    ·exact (.of hi)
    ·obtain ⟨a,d,hi⟩:=dO hi;exact ⟨i,a,gX _,Cp d,hi⟩
    ·exact (.of hi)
 ·exact iE e
end
end
mutual
noncomputable def Ny:V→Option kR
 |.none=>some .none
 |.bool b=>some (.bool b)
 |.int i=>some (.int i)
 |.str s=>some (.str s)
 |.tup l=>(To l).map .tuple
 |.lst l=>(To l).map .list
 |_=>aF
noncomputable def To:cG→Option (List kR)
 |[]=>some []
 |v::l=>ob (Ny v) fun d=>ob (To l) fun r=>some (d::r)
end
mutual
theorem Kw{Y:iK}:∀(v:V)(d:kR)(u:bO),Ny v=some d→gQ D Y h v u→∃as,Reads h u d as
 |.none,d,u,e,r=>by cases e;cases r;exact ⟨_,.none⟩
 |.bool b,d,u,e,r=>by cases e;cases r;exact ⟨_,.bool b⟩
 |.int b,d,u,e,r=>by cases e;obtain ⟨t,rfl⟩:=r;exact ⟨_,.int b t⟩
 |.str b,d,u,e,r=>by cases e;obtain ⟨t,rfl⟩:=r;exact ⟨_,.str b t⟩
 |.tup l,d,u,e,r=>by obtain ⟨ds,c,rfl⟩:=cP.mp e;obtain ⟨a,xs,rfl,_,⟨k,f⟩,g⟩:=r;obtain ⟨as,q⟩:=Cq l ds xs c g;exact ⟨_,.tuple f rfl rfl q⟩
 |.lst l,d,u,e,r=>by obtain ⟨ds,c,rfl⟩:=cP.mp e;obtain ⟨a,xs,rfl,_,⟨k,f⟩,g⟩:=r;obtain ⟨as,q⟩:=Cq l ds xs c g;exact ⟨_,.list f rfl rfl q⟩
 |.scr _,d,u,e,r=>iE e
 |.mt _,d,u,e,r=>iE e
 |.dct _ _,d,u,e,r=>iE e
 |.set0,d,u,e,r=>iE e
 |.ref _,d,u,e,r=>iE e
 |.inst _,d,u,e,r=>iE e
 |.fn _,d,u,e,r=>iE e
 |.bm _ _,d,u,e,r=>iE e
theorem Cq{Y:iK}:∀(l:cG)(ds:List kR)(us:gI),To l=some ds→bS D Y h l us→∃as,ReadsAll h us ds as
 |[],ds,us,e,r=>by cases e;cases r;exact ⟨_,.nil⟩
 |v::l,ds,us,e,r=>by obtain ⟨d,a,e⟩:=dO e;obtain ⟨b,c,e⟩:=dO e;cases e;obtain ⟨u,f,rfl,g,i⟩:=r;obtain ⟨as,q⟩:=Kw v d u a g;obtain ⟨k,j⟩:=Cq l b f c i;exact ⟨_,.cons q j⟩
end
def E8(σ:St)(a:V):Option kR:=ob (rJ vP 0 σ.cells a) fun v=>ob (Ny v) fun d=>if vU d=true then some d else aF
def gII(f:Int→Int→M V):V→V→M V:=fun a b σ=>ob (G0 a) fun x=>ob (G0 b) fun y=>f x y σ
def fQ:V→V→M V:=fun a b σ=>oo (G0 a) (fun x=>ob (G0 b) fun y=>some (.int (x+y),σ)) (oo (Jy a) (fun l=>ob (Jy b) fun l'=>if l.length+l'.length≤lim then some (.tup (l++l'),σ)else aF)
 (ob (Gz σ a) fun l=>ob (Gz σ b) fun l'=>if l.length+l'.length≤lim then some (.lst (l++l'),σ)else aF))
def Ku:V→V→M V:=gII fun a b σ=>some (.int (a+b),σ)
def xO:V→V→M V:=gII fun a b σ=>some (.int (a-b),σ)
def vO:V→V→M V:=fun a b σ=>ob (G0 b) fun k=>oo (G0 a) (fun x=>if Od x≤64 then some (.int (x*k),σ)else aF)
 (ob (Gz σ a) fun l=>if 0≤k∧k<1000∧l.length*k.toNat≤lim then some (.lst (pR k.toNat l).flatten,σ)else aF)
def Pz:V→V→M V:=gII fun a b σ=>if b≠0∧I7 a b=false then some (.int (a.fdiv b),σ)else aF
def Bj:V→V→M V:=gII fun a b σ=>if b≠0 then some (.int (a.fmod b),σ)else aF
def Bk:V→V→M V:=gII fun a b σ=>some (.bool (decide (a<b)),σ)
def gLe:V→V→M V:=gII fun a b σ=>some (.bool (decide (a≤b)),σ)
def Ħ:V→V→M V:=gII fun a b σ=>some (.bool (decide (b<a)),σ)
def gGe:V→V→M V:=gII fun a b σ=>some (.bool (decide (b≤a)),σ)
def rM:V→V→M V:=fun a b σ=>ob (E8 σ a) fun x=>ob (E8 σ b) fun y=>some (.bool (tP x y),σ)
def Bi:V→V→M V:=fun a b σ=>ob (E8 σ a) fun x=>ob (E8 σ b) fun y=>some (.bool (!tP x y),σ)
noncomputable def Jh:V→Bool
 |.fn _=>false
 |_=>true
noncomputable def isN:V→Bool
 |.none=>true
 |_=>false
def aHo:V→V→M V:=fun a b σ=>onN b (if Jh a=true then some (.bool (isN a),σ)else aF)
def ĥ:V→V→M V:=fun a b σ=>onN b (if Jh a=true then some (.bool (!isN a),σ)else aF)
def hO:V→V→M V:=fun a b σ=>ob (G0 b) fun i=>oo (Jy a) (fun l=>if 0≤i∧l.length≤lim then (l[i.toNat]?).map fun d=>(d,σ)else aF)
 (ob (ŧ σ a) fun l=>if 0≤i∧l.length≤lim then (l[i.toNat]?).map fun d=>(d,σ)else aF)
section
variable{n:Nat}{F:Fx}
theorem eE:Ft n F (binaryOp .Add) fQ:=fun a b σ v σ' e=>by
 refine å e (fun x e=>?_) fun e=>?_
 ·exact zC e fun y e=>aGn (.of e)
 refine U1 e (fun l e=>?_) fun e=>?_
 ·refine U2 e fun l' e=>?_;obtain ⟨i,e⟩:=iS e
  ·refine I8 e ?_;rintro rfl rfl;refine qU fun A X D h tk u v ok m t z=>?_;have j:=t;have o:=z;obtain ⟨x,xs,rfl,nx,⟨k,d⟩,p⟩:=t;obtain ⟨y,c,rfl,G,⟨r,f⟩,s⟩:=z;have e:xs.toArray++c.toArray=(xs++c).toArray:=by simp
   by_cases g:xs=[]
   ·have:=kX (by rw [←p.length,g];rfl);subst this;refine concat_meets ⟨_,d,rfl⟩ ⟨_,f,rfl⟩ noFill_tuple_add seq_tuple_add zL yZ (xX _ _)
     (tuple_addW0 x y xs.toArray c.toArray k r _ _ _ _ (by simp [g])) ⟨d,f,gT m o ⟨rfl,rfl⟩⟩
   ·by_cases hw:c=[]
    ·have:=kX (by rw [←s.length,hw];rfl);subst this;refine concat_meets ⟨_,d,rfl⟩ ⟨_,f,rfl⟩ noFill_tuple_add seq_tuple_add zL yZ (xX _ _)
      (tuple_addW1 x y xs.toArray c.toArray k r _ _ _ _ (by simpa using g) (by simp [hw])) ⟨d,f,gT m j ⟨by simp,rfl⟩⟩
    ·refine concat_meets ⟨_,d,rfl⟩ ⟨_,f,rfl⟩ noFill_tuple_add seq_tuple_add zL yZ (xX _ _)
      (tuple_addW2 x y xs.toArray c.toArray k r _ _ _ _ (by simpa using g) (by simpa using hw) (by rw [nB,nB];exact (by refine p.length▸?_;refine s.length▸?_;exact bR i oY:xs.length+c.length≤iC))) ⟨d,f,?_⟩
     refine ⟨_,tk,D,_,.tup (l++l'),rfl,pC.grow (dL _ _),m.grow (dL _ _),?_,rfl,rfl⟩;refine Oz m (fE _) (dL _ _) ⟨0,?_⟩ (p.append s);have:=IsT.new h (xs.toArray++c.toArray);rw [e]at this⊢;exact this
 ·obtain ⟨l,B,e⟩:=dO e;obtain ⟨l',C,e⟩:=dO e;obtain ⟨i,e⟩:=iS e;exact υ B C (bR i oY) (.of e)
theorem Ad{t:bO→bO→Fd bO}{f:Int→Int→M V}(k:∀a b σ v σ',f a b σ=some (v,σ')→TW rV n F [.int a,.int b] (two t) σ (Cv v σ')):Ft n F t (gII f):=fun a b σ v σ' e=>by refine zC e fun a e=>?_;exact zC e fun b e=>k a b σ v σ' e
theorem Dw:Ft n F (inplaceOp .Add) Ku:=Ad fun a b σ v σ' e=>π (.of e)
theorem nS:Ft n F (binaryOp .Sub) xO:=Ad fun a b σ v σ' e=>aGj (.of e)
theorem uE:Ft n F (binaryOp .Mult) vO:=fun a b σ v σ' e=>by
 refine zC e fun k e=>?_;refine å e (fun x e=>?_) fun e=>?_
 ·obtain ⟨h,e⟩:=iS e;exact aGl (.of_left h) (.of e)
 ·obtain ⟨l,p,e⟩:=dO e;obtain ⟨r,e⟩:=iS e
  ·refine nn fun s=>?_;obtain ⟨h0,y,z⟩:=r;refine s ?_;refine qU fun A X D h tk u v ok m d B=>?_;replace d:=Bw m p d;obtain ⟨x,xs,j,rfl,c,f⟩:=d;obtain ⟨t,rfl⟩:=B;have C:l.length*k.toNat≤2^24:=bR z (by decide);refine wpAny_binaryOp_repeat_ref (by decide) ⟨_,c,rfl⟩ (fun s'=>typeIs_int s' k t) noFill_list_mul PySem.F.fills_int_mul Rd repeat_list PySem.F.slot_int_index.lookup
    (call_meets Rd (typeIs_int _ k t) PySem.F.entry_int_rmul (PySem.F.args_int_rmul_2 _ _) (int___rmul___int_list k t x (bD xs) j)
     ⟨c,rfl,⟨_,c,rfl⟩,call_meets PySem.F.slot_list_mul ⟨_,c,rfl⟩ PySem.F.entry_list_mul (PySem.F.args_list_mul_2 _ _)
      (AutoListH.list___mul___list_int_3 x (bD xs) j k t (by simp [aPq];exact bE 0xe8c596c6318c6318c6318c6318c6318c1d0705814c6318c6318c6318c6318c6318c1ed8efce8382c0310 h0 y) (by refine ((by simp only [nB,f.length]:(bD xs).size*k.toNat=l.length*k.toNat))▸?_;exact bE 0x318ba4a07ffffffffffffffffffffffff9938c6318c6307001 C) (by simp [G4,iC,f.length];assumption))
      ⟨c,?_⟩⟩)
   refine ⟨_,tk,D,_,.lst (pR k.toNat l).flatten,rfl,pC.grow (dL _ _),m.grow (dL _ _),?_,.of e⟩;have G:∀j:Nat,bS D (Yf F X D) h (pR j l).flatten (pR j xs).flatten:=by
    intro j
    induction j with
    |zero=>exact bS.nil
    |succ j H=>exact f.append H
   refine Dd m (fE _) (dL _ _) ⟨0,?_⟩ (G _);have:=I4 h (aPk (fun g i=>g++i) #[] (pR (if (bD xs).isEmpty=true then 0 else k.toNat) (bD xs)));have I:(aPk (fun g i=>g++i) #[] (pR (if (bD xs).isEmpty=true then 0 else k.toNat) (bD xs)))=(pR k.toNat xs).flatten.toArray:=by
    simp only [listMul_foldl];by_cases o:xs=[]
    ·subst o;simp
    ·have:(bD xs).isEmpty=false:=by simpa using o
     refine this▸?_;rfl
   rw [I]at this⊢;exact this
theorem Py:Ft n F (binaryOp .FloorDiv) Pz:=Ad fun a b σ v σ' e=>by obtain ⟨h,e⟩:=iS e;exact ς h.1 h.2 (.of e)
theorem yS:Ft n F (binaryOp .Mod) Bj:=Ad fun a b σ v σ' e=>by obtain ⟨h,e⟩:=iS e;exact aGm h (.of e)
theorem nU:Ft n F (compareOp .Lt) Bk:=Ad fun a b σ v σ' e=>aJy (.of e)
theorem aHn:Ft n F (compareOp .LtE) gLe:=Ad fun a b σ v σ' e=>aJz (.of e)
theorem Co:Ft n F (compareOp .Gt) Ħ:=Ad fun a b σ v σ' e=>aJ0 (.of e)
theorem Th:Ft n F (compareOp .GtE) gGe:=Ad fun a b σ v σ' e=>aJ1 (.of e)
theorem pA{X:iK}(m:jN F X D σ h)(e:E8 σ a=some d)(r:gQ D (Yf F X D) h a u):vU d=true∧∃as,Reads h u d as:=by refine nn fun b=>?_;obtain ⟨v,c,e⟩:=dO e;obtain ⟨g,f,e⟩:=dO e;refine b ?_;obtain ⟨h,e⟩:=iS e;cases e;exact ⟨h,Kw v d u f (Db m 0 vP a v u c r)⟩
theorem mC:Ft n F (compareOp .Eq) rM:=fun a b σ v σ' e=>by refine nn fun c=>?_;obtain ⟨x,d,e⟩:=dO e;obtain ⟨y,f,e⟩:=dO e;refine c ?_;refine qU fun A X D h tk u v ok m g i=>?_;refine nn fun c=>?_;obtain ⟨j,as,r1⟩:=pA m d g;obtain ⟨k,o,l⟩:=pA m f i;refine c ?_;exact eq_dataH r1 l j k (by have:=ok.uni;exact bE aK1 this) (gT m mJ (.of e))
theorem wU:Ft n F (compareOp .NotEq) Bi:=fun a b σ v σ' e=>by refine nn fun c=>?_;obtain ⟨x,d,e⟩:=dO e;obtain ⟨y,f,e⟩:=dO e;refine c ?_;refine qU fun A X D h tk u v ok m g i=>?_;refine nn fun c=>?_;obtain ⟨j,as,r1⟩:=pA m d g;obtain ⟨k,o,l⟩:=pA m f i;refine c ?_;exact ne_dataH r1 l j k (by have:=ok.uni;exact bE aK1 this) (gT m mJ (.of e))
theorem Vu:Ft n F (compareOp .Is) aHo:=fun a b σ v σ' e=>by refine Ü e fun e=>?_;obtain ⟨c,e⟩:=iS e;exact Xc (by cases a<;>rfl) (fun u h=>by subst h;cases c) (.of e)
theorem Ps:Ft n F (compareOp .IsNot) ĥ:=fun a b σ v σ' e=>by refine Ü e fun e=>?_;obtain ⟨c,e⟩:=iS e;exact L1 (by cases a<;>rfl) (fun u h=>by subst h;cases c) (.of e)
theorem ξ{Q:V→iX}(e:ŧ σ a=some l)(h0:0≤i)(hd:l[i.toNat]?=some d)(f:l.length≤iC)(g:∀o i,subscripted j false o i=operate [o,i] (getItem o i))(q:Q d σ):TW rV n F [a,.int i] (two (subscriptTail value j)) σ Q:=qU fun A X D h tk u v ok m b k=>by replace b:=aBw m e b;obtain ⟨x,xs,rfl,c,p⟩:=b;obtain ⟨t,rfl⟩:=k;refine nn fun r=>?_;obtain ⟨y,s,z⟩:=p.get hd;refine r ?_;have B:=(cU.mp hd).1;refine tail_any c.typeIs slot_list_getitem.lookup (wpAny_getItem_list c h0 (by simp only [nV]at f;lia) (by simpa using s) (gT m z q)) (g _ _)
theorem eU(g:∀o i,subscripted h false o i=operate [o,i] (getItem o i)):Ft n F (subscriptTail value h) hO:=fun a b σ v σ' e=>by
 refine zC e fun i e=>?_;refine U1 e (fun l e=>?_) fun e=>?_
 ·obtain ⟨c,e⟩:=iS e;obtain ⟨d,f,e⟩:=cP.mp e;have k:=(cU.mp f).1;have m:lim=1048576:=rfl;have p:=c.1;have r:=c.2;refine ν ?_ f ⟨by lia,by lia⟩ g (.of (congrArg some e));unfold seqIndex?;simp only [(by lia:¬i<0),if_false];rw [if_pos (by simp;lia)]
 ·obtain ⟨l,f,e⟩:=dO e;obtain ⟨c,e⟩:=iS e;obtain ⟨d,j,e⟩:=cP.mp e;exact ξ f c.1 j (bR c.2 oY) g (.of (congrArg some e))
end
section
set_option backward.match.sparseCases false
def Glo(env:Env)(s:jX)(v:bO):Prop:=
 ∀A h tk (K:sX),(∀b o,S.heap.get? b=some o→h.get? b=some o)→K v (kD h tk)→bX (model prog w) A (loadGlobal env s) K (fun _ _=>False) (kD h tk)
def aM0(f:bO):Prop:=(∃id,f=.builtin id)∨(∃T,f=.type T)∨(∃a o fd,f=.ref a∧S.heap.get? a=some o∧o.data=.func fd)
section
variable(n:Nat)(F:Fx)
def B2(f:bO)(d:qR):Prop:=∀us,ImT n F rV us (fun vs=>call f vs) (d us)
inductive Am(A:lL)(X:iK)(D:mS)(h₀ h₁:dS)(I:cY)(ds:cG):Prop
 |mk (fp:List cY) (P:Nat→bO→Prop) (Sx:Nat→dS→Prop) (T:String) (W:Walks prog w A I fp [I] ds.length P Sx) (hc:∀i h,Sx i h→∃o,h.get? I=some o∧o.cls=.type T) (hT:xM.contains T=false) (hk:∀b o,h₀.get? b=some o→h₁.get? b=some o) (hI:h₀.get? I=aF) (st:Sx 0 h₁)
  (hf:∀b∈fp,b=I∨(b∉F.Z∧¬X b∧(∀i,lk D i≠some b)∧vI h₀ b))
  (hP:∀i v D' Y' h',i<ds.length→P i v→(∀b o,h₀.get? b=some o→¬Yf F X D b→h'.get? b=some o)→(∀a,Y' a→Yf F X D a∨h₀.get? a=aF)→gQ D' Y' h' (ds.getD i .none) v):Am A X D h₀ h₁ I ds
inductive IwR(A:lL)(X:iK)(D:mS)(h:dS)(Q:cG→iX)(it:bO)(g4:dI):Prop
 |mk (h₀:dS) (D₀:mS) (g7:St) (ds:cG) (I:cY) (h₁:dS) (ad:Nat) (ei:it=.ref I) (e:g4=kD h₁ ad) (st:pC F D h D₀ h₀) (m:jN F X D₀ g7 h₀) (w:Am F A X D₀ h₀ h₁ I ds) (q:Q ds g7):IwR A X D h Q it g4
def IW(e:Expr)(σ:St)(Q:cG→iX):Prop:=∀A X D h tk,wI n A→jN F X D σ h→
 bX (model prog w) A (eval e F.env) (fun x d0=>bX (model prog w) A (pyIter x) (IwR F A X D h Q) (fun _ _=>False) d0) (fun _ _=>False) (kD h tk)
def ŕ(e:Expr)(g:M cG):Prop:=∀σ ds σ',g σ=some (ds,σ')→IW n F e σ (Cv ds σ')
end
def iO(d:qR)(g:M cG):M V:=fun σ=>bd (g σ) fun us σ=>d us σ
def Qd(kz:cG→qM):qR:=fun us σ=>if eB us=true then ob (kz us) fun r=>some (r,σ)else aF
def F8:qR:=fun us σ=>aV (fun a=>aN (ob (Gz σ a) fun l=>if l.length≤lim then some (.int l.length,σ)else aF)) us
def zU(l:cG):Option cG:=if eB l=true then some l else aF
def Mg(v:V):Option cG:=oo (Jy v) zU (ob (aIj v) zU)
def hF(g:M V):M cG:=fun σ=>bd (g σ) fun v σ=>ob (Mg v) fun ds=>some (ds,σ)
noncomputable def Ke(a b:Int):cG:=(kN (b-a).toNat).map fun (i:Nat)=>V.int (a+i)
noncomputable def Bv(a b:Int):Bool:=decide (-(2^62)≤a)&&decide (a<2^62)&&decide (-(2^62)≤b)&&decide (b<2^62)
def yR(g:M cG):M cG:=fun σ=>bd (g σ) fun us σ=>aI (fun b r=>aE (if Bv 0 b=true then some (Ke 0 b,σ)else aF) (fun v r=>aN (ob (G0 v) fun c=>if Bv b c=true then some (Ke b c,σ)else aF) r) r) us
def Jq(xs:nM)(k:Nat)(b:V→M Fl):cG→M Fl
 |[],σ=>some (.next,σ)
 |v::r,σ=>bd (b v σ) fun f σ=>match f with
  |.next=>ob (Rc xs k σ) fun σ=>Jq xs k b r σ
  |.cont=>ob (Rc xs k σ) fun σ=>Jq xs k b r σ
  |.brk=>some (.next,σ)
  |.ret v=>some (.ret v,σ)
def Dy(xs:nM)(gi:M cG)(gt:V→St→Option St)(gb:Nat→M Fl):Nat→M Fl:=fun k σ=>bd (gi σ) fun ds σ=>if k≤σ.next then Jq xs σ.next (fun v τ=>ob (gt v τ) fun τ=>gb σ.next τ) ds σ else aF
def unp(gs:List (V→St→Option St))(ds:cG)(σ:St):Option St:=match gs,ds with
 |[],[]=>some σ
 |g::gs,d::ds=>ob (g d σ) fun σ=>unp gs ds σ
 |_,_=>aF
section
variable{n:Nat}{F:Fx}
theorem Ĕ(fk:iY F)(a:F.env.kindOf s=some .globalImplicit)(b:Glo F.env s v)(hd:(s== ("__debug__":jX))=false):lM n F (.Name s c) (gK (.fn v)):=fun σ u σ' e=>by intro A X D h tk vs ok m r;refine aPw fk.kind a (b A h tk _ m.base ?_) hd;exact ⟨h,tk,D,σ,.fn v,rfl,.refl,m,by rfl,.of e⟩
theorem gD{d:qR}(x:lM n F f (gK (.fn v)))(H:aM0 v)(o:B2 n F v d)(t:oW F args)(y:zH n F u args g)
  (I:eval (.Call f args [] u) F.env=(do mW u (←eval f F.env) [] (backTo u (eC args F.env)) [])):lM n F (.Call f args [] u) (iO d g):=fun σ r σ' e=>by
 obtain ⟨us,σ₁,C,e⟩:=eG e;intro A X D h tk vs ok m _;refine (?_:bX _ _ (eval (.Call f args [] u) F.env) _ _ _);refine I▸?_;refine aH (TW.atE (x σ _ _ rfl) ok m bS.nil ?_);rintro J h₀ Q D₀ L m₀ N;clear x;subst N;have G:∀(b:gI) h₁ c D₁ i j,pC F D₀ h₀ D₁ h₁→jN F X D₁ i h₁→bS D₁ (Yf F X D₁) h₁ j b→Cv us σ₁ j i→bX (model prog w) A (call J b) (uJ rV F X D h (Cv r σ')) (fun _ _=>False) (kD h₁ c):=by rintro b h₁ c D₁ i j l k s ⟨rfl,rfl⟩;exact bN (o us _ _ _ e A X D₁ h₁ c b ok k s) (fun _ _ p=>p.on (L.trans l)) fun _ _ z=>z
 rcases H with ⟨id,rfl⟩|⟨T,rfl⟩|⟨a,O,fd,rfl,P,hd⟩
 ·refine Ar (nR t) (rG t (y _ _ _ C) ok m₀ fun b h₁ c D₁ i j l k s B=>?_);exact G b h₁ c D₁ i j l k s B
 ·refine oO (nR t) (rG t (y _ _ _ C) ok m₀ fun b h₁ c D₁ i j l k s B=>?_);exact G b h₁ c D₁ i j l k s B
 ·refine Ri (o:=O) (fd:=fd) (rG t (y _ _ _ C) ok m₀ fun b h₁ c D₁ i j l k s B=>?_);exact ⟨⟨k.base _ _ P,hd⟩,G b h₁ c D₁ i j l k s B⟩
theorem Ú{a:cG→qM}(c:∀us r,eB us=true→a us=some r→Zb n f us (fun x=>x=r)):B2 n F f (Qd a):=fun us σ r σ' e=>by
 unfold Qd at e;split at e
 ·obtain ⟨b,d,e⟩:=dO e;refine aJj ‹_› (c us _ ‹_› d) ?_;rintro b _ rfl;exact (.of e)
 ·exact iE e
theorem uC:B2 n F (.builtin "len") F8:=fun us σ rv σ' e=>by refine pB e fun a _ e=>?_;refine pM e fun e=>?_;obtain ⟨l,b,e⟩:=dO e;obtain ⟨c,e⟩:=iS e;intro A X D h tk vs ok m r;have d:=(μ (Q:=Cv rv σ') b (bR c oY) (.of e)) A X D h tk vs ok m r;obtain ⟨u,f,rfl,r1,rfl⟩:=r;exact d
theorem Eo(h:eB l=true):(l.getD i .none).pure=true:=by
 induction l generalizing i with
 |nil=>rfl
 |cons d l a=>
  simp only [dT,dQ,gG]at h
  cases i with
  |zero=>exact h.1
  |succ i=>exact a h.2
theorem Og{X:iK}(g:A.handled=aF)(m:jN F X D σ h)(j:eB l=true)(c:¬Yf F X D a)(d:IsL h a (bD xs) k)(f:bS D (Yf F X D) h l xs):
  Am F A X D h (h.push {cls:=.type "list_iterator",data:=.fields #[.ref a,.int 0 0]}) h.objs.size l:=by
 have W:=aO9 (prog:=prog) (w:=w) g h.objs.size a (fW (dR d)) (bD xs);replace W:=(by simp [f.length]:(bD xs).size=l.length)▸W;refine ⟨_,_,_,"list_iterator",W,fun i h' st=>?_,by decide,dL _ _,fE _,⟨⟨_,cF _ rfl,rfl,rfl⟩,d.isList.push _⟩,fun b p=>?_,fun i v D' Y' h' hi r s t=>?_⟩
 ·obtain ⟨⟨o,u,y,_⟩,_⟩:=st;exact ⟨o,u,y⟩
 ·rcases aU.mp p with q|q
  ·exact .inl q
  ·obtain rfl:=aM.mp q;exact .inr ⟨fun z=>c (.inl z),fun z=>c (.inr (.inl z)),fun i z=>c (.inr (.inr ⟨i,z⟩)),_,d⟩
 ·have hd:l[i]?=some (l.getD i .none):=by simp [aT,hi]
  obtain ⟨x,B,C⟩:=f.get hd;have:x=v:=by
   have e:xs[i]?=some v:=by simpa using r
   replace e:=B▸e;refine oQ e ?_;rintro rfl;rfl
  subst this;exact gQ.stepP s t _ _ (Eo j) C
theorem Ro{X:iK}(g:A.handled=aF)(m:jN F X D σ h)(j:eB l=true)(c:¬Yf F X D a)(d:IsT h a (bD xs) k)(f:bS D (Yf F X D) h l xs):
  Am F A X D h (h.push {cls:=.type "tuple_iterator",data:=.fields #[.ref a,.int 0 0]}) h.objs.size l:=by
 have W:=Y1 (prog:=prog) (w:=w) g h.objs.size a (fW (dR d)) (bD xs);replace W:=(by simp [f.length]:(bD xs).size=l.length)▸W;have p:h.IsTuple a (bD xs):=⟨_,d,rfl,_,rfl⟩;refine ⟨_,_,_,"tuple_iterator",W,fun i h' st=>?_,by decide,dL _ _,fE _,⟨⟨_,cF _ rfl,rfl,rfl⟩,p.push _⟩,fun b r=>?_,fun i v D' Y' h' hi s t u=>?_⟩
 ·obtain ⟨⟨o,y,B,_⟩,_⟩:=st;exact ⟨o,y,B⟩
 ·rcases aU.mp r with q|q
  ·exact .inl q
  ·obtain rfl:=aM.mp q;exact .inr ⟨fun z=>c (.inl z),fun z=>c (.inr (.inl z)),fun i z=>c (.inr (.inr ⟨i,z⟩)),_,d⟩
 ·have hd:l[i]?=some (l.getD i .none):=by simp [aT,hi]
  obtain ⟨x,C,G⟩:=f.get hd;have:x=v:=by
   have e:xs[i]?=some v:=by simpa using s
   replace e:=C▸e;refine oQ e ?_;rintro rfl;rfl
  subst this;exact gQ.stepP t u _ _ (Eo j) G
theorem aA8{X:iK}{K:sX}(ok:wI n A)(m:jN F X D σ h)(e:Mg v=some ds)(r:gQ D (Yf F X D) h v u)
  (k:∀I h₁,Am F A X D h h₁ I ds→K (.ref I) (kD h₁ tk)):bX (model prog w) A (pyIter u) K (fun _ _=>False) (kD h tk):=by
 revert r;refine U1 e (fun l e=>?_) fun e=>ä e fun l e=>?_
 ·obtain ⟨c,e⟩:=iS e;refine oQ e ?_;rintro rfl ⟨a,xs,rfl,d,⟨j,b⟩,f⟩;exact J3 ⟨_,b,rfl,_,rfl⟩ (k _ _ (Ro ok.hd m c d b f))
 ·obtain ⟨c,e⟩:=iS e;refine oQ e ?_;rintro rfl ⟨a,xs,rfl,d,⟨j,b⟩,f⟩;exact Np b.isList (k _ _ (Og ok.hd m c d b f))
theorem mZ(x:lM n F e g):ŕ n F e (hF g):=fun σ ds σ' e=>by obtain ⟨v,σ₁,b,e⟩:=eG e;replace e:=dO e;obtain ⟨l,c,e⟩:=e;cases e;intro A X D h tk ok m;refine TW.atE (x _ _ _ b) ok m bS.nil ?_;rintro u h₁ d D₁ f a i;exact aA8 ok a c i fun I j k=>⟨h₁,D₁,_,ds,I,j,d,rfl,rfl,f,a,k,rfl,rfl⟩
theorem Ì{X:iK}(d:A.handled=aF):Am F A X D h (h.push {cls:=.type "range_iterator",data:=.fields #[rawInt a,rawInt (G3 a b 1),rawInt 1]}) h.objs.size (Ke a b):=by
 refine ⟨_,_,_,"range_iterator",(Walks.range d h.objs.size a 1 (Ke a b).length),fun i h' st=>⟨_,st,rfl⟩,by decide,dL _ _,fE _,?_,fun c f=>.inl (aM.mp f),fun i v D' Y' h' hi g k l=>?_⟩
 ·have e:G3 a b 1=((Ke a b).length:Int)-((0:Nat):Int):=by rw [rangeSize_one];simp only [Ke,bF,gY];split<;>lia
  refine e▸?_;have j:a+((0:Nat):Int)*1=a:=by simp
  rw [j];exact cF _ rfl
 ·obtain ⟨t,rfl⟩:=g;have:(Ke a b).getD i .none=.int (a+i):=by simp only [Ke,bF,gY]at hi;simp [Ke,aT,hi]
  refine this▸?_;refine ((by simp:a+(i:Int)*1=a+i))▸?_;exact oK
theorem E2(x:lM n F (.Name "range" p) (gK (.fn (.type "range"))))(l:oW F args)(y:zH n F i args g)
  (J:eval (.Call (.Name "range" p) args [] i) F.env=(do mW i (←eval (.Name "range" p) F.env) [] (backTo i (eC args F.env)) [])):ŕ n F (.Call (.Name "range" p) args [] i) (yR g):=fun σ ds σ' e=>by
 replace e:=eG e;obtain ⟨us,σ₁,s,e⟩:=e;intro A X D h tk ok m;refine aH (TW.atE (x σ _ _ rfl) ok m bS.nil ?_);rintro L h₀ N D₀ z m₀ B;subst B;refine oO (nR l) (rG l (y _ _ _ s) ok m₀ ?_);rintro O h₁ f D₁ P Q C G H ⟨rfl,rfl⟩;have fin:∀(a b:Int)(o:wJ)(j:Nat)(t u v:Tok),o={cls:=.type "range",data:=.fields #[.int a t,.int b u,.int 1 v]}→Bv a b=true→ds=Ke a b→σ'=σ₁→
   bX (model prog w) A (pyIter (.ref h₁.objs.size)) (IwR F A X D h (Cv ds σ')) (fun _ _=>False) (kD (h₁.push o) j):=by
  rintro a b o j t u v rfl d rfl rfl;simp only [Bv,gG,decide_eq_true_eq]at d;refine wpAny_pyIter_range (IsRange.new h₁ a b 1 t u v) (small_one d.1.1.1 d.1.1.2 d.1.2 d.2) ?_;exact ⟨_,D₁,_,_,_,_,j,rfl,rfl,(z.trans C).trans (pC.grow (dL _ _)),G.grow (dL _ _),Ì ok.hd,⟨rfl,rfl⟩⟩
 revert H;refine Bz e ?_;clear e;intro b r e
 cases r with
 |nil=>replace e:=iS e;obtain ⟨d,e⟩:=e;refine I8 e ?_;rintro rfl rfl;rintro ⟨_,_,rfl,⟨t,rfl⟩,k⟩;cases k;exact call_range_1 (fin 0 b _ (f+1+1) f t (f+1) rfl d rfl rfl)
 |cons v r=>refine pM e ?_;clear e;intro e;refine zC e ?_;clear e;intro c e;replace e:=iS e;obtain ⟨d,e⟩:=e;refine I8 e ?_;rintro rfl rfl;rintro ⟨_,_,rfl,⟨t,rfl⟩,_,_,rfl,⟨I,rfl⟩,k⟩;cases k;exact call_range_2 (fin b c _ (f+1) t I f rfl d rfl rfl)
theorem sV{gt:V→St→Option St}{gb:Nat→M Fl}(fk:iY F)(x:ŕ n F iter gi)(y:I9 n F C gt)(z:Fc n F body gb)(G:∀x,foldedSetIterable iter F.env x=pure x):
  Fy n F (.For C iter body [] ah) (Dy xs gi gt gb):=fun k σ f σ' e=>by
 obtain ⟨ds,σ₁,H,e⟩:=eG e;split at e
 ·rename_i J;intro A X D h tk ok m;refine ũ (bN (x _ _ _ H A X D h tk ok m) (fun xv d0 h₁=>bN h₁ (fun it g4 p=>?_) fun _ _ q=>q) fun _ _ q=>q) G;obtain ⟨h₀,D₀,g7,me,I,bo,L,rfl,rfl,st,m₀,⟨fp,P,Sx,T,W,N,O,R,t,Y,Z,hP⟩,rfl,rfl⟩:=p;have cw:=P3 (Q:=Cv f σ') (tk:=L) fk ok W N O m₀ R t Y (fun b g=>(Z b g).imp id fun ⟨q1,_,q2⟩=>⟨q1,q2⟩)
   (fun i v h' D' hi hv B=>hP i v D' _ h' hi hv (fun b o e g=>B.keep b o e (fun q=>g (.inl q)) fun n q=>g (.inr (.inr ⟨n,q⟩))) fun a ha=>by
    rcases ha with q|q|⟨j,q⟩
    ·exact .inl (.inl q)
    ·rcases q with q|q
     ·exact .inr (by refine (aM.mp q)▸?_;exact t)
     ·exact .inl (.inr (.inl q))
    ·rcases B.new j a q with q|q
     ·exact .inl (.inr (.inr ⟨j,q⟩))
     ·exact .inr q)
   (fun i τ=>Jq xs σ₁.next (fun v τ=>ob (gt v τ) fun τ=>gb σ₁.next τ) (ds.drop i) τ=some (f,σ')) (by exact e)
   (fun i τ hi c=>by
    have hd:ds.drop i=ds.getD i .none::ds.drop (i+1):=by simp [aT,hi]
    simp only [hd]at c;obtain ⟨fl,cb,d,c⟩:=eG c;replace d:=dO d;obtain ⟨br,e4,d⟩:=d;intro A X D h tk u ok m r;refine bN (y _ _ _ e4 A X D h tk u ok m r) (fun _ s' p=>?_) fun _ _ q=>q;obtain ⟨h',ao,D',gv,b,rfl,o6,sm,om,rfl⟩:=p;refine ⟨h',ao,D',_,b,rfl,o6,sm,om,?_⟩;refine jY (z _ _ _ _ d) ?_;refine mR ?_;cases fl
    ·obtain ⟨l,s,c⟩:=dO c;exact ⟨l,Cp s,c⟩
    ·exact (.of c)
    ·obtain ⟨l,s,c⟩:=dO c;exact ⟨l,Cp s,c⟩
    ·exact (.of c))
   (fun τ c=>by rw [kP]at c;exact (.of c))
  exact rH cw fun r s' p=>by
   cases r with
   |ok f'=>exact (vH.lower J p).on (st.toK k)
   |error e=>exact p
 ·exact iE e
end
end
section
set_option backward.match.sparseCases false
theorem Yg{E:sX}{P:Nat→bO→Prop}{Sx:Nat→dS→Prop}(W:Walks prog w A I B [I] N P Sx):
  ∀(n i:Nat)(s:dI)(Q:gI→tX),i+n≤N→Sx i s.heap→
   (∀vs h' f,vs.length=n→(∀(j:Nat) v,vs[j]?=some v→P (i+j) v)→Sx (i+n) h'→(∀b o,b≠I→s.heap.get? b=some o→h'.get? b=some o)→Q vs {s with heap:=h',toks:=f})→
   bX (model prog w) A (draw (.ref I) n) Q E s:=by
 intro g
 induction g with
 |zero=>intro i;intro s;intro Q;intro a;intro st;intro c;refine (?_:bX _ _ (pure []) Q E s);exact bC (c [] s.heap s.toks rfl (fun j v e=>by simp at e) st fun _ _ _ e=>e)
 |succ n h=>
  intro i;intro s;intro Q;intro a;intro st;intro c;refine (?_:bX _ _ (pyNext (.ref I)>>=_) Q E s);refine aH (W.item i s _ _ (bE aAm a) st fun v h₁ C k l m=>?_);refine aH (cJ (h (i+1) _ _ (bE aAt a) l fun vs p r t x y z=>bC ?_));refine c (v::vs) p r (by simp [t]) (fun j u e=>?_) (by refine (show i+(n+1)=i+1+n by exact bE aG2)▸?_;exact y) fun b o d e=>z b o d (m b o (by simpa using d) e)
  cases j with
  |zero=>simp at e;subst e;exact k
  |succ j=>refine (show i+(j+1)=i+1+j by exact bE aG2)▸?_;exact x j u (by exact e)
theorem pE{E:sX}{s:dI}{Q:gI→tX}(g:n=items.length)
  (h:∀K:Bool→tX,K false s→bX (model prog w) A (notIterableAtAll u) K E s)
  (k:∀K:sX,(∀I h₁ c Sx,Walks prog w A I c [I] items.length (fun i v=>items[i]?=some v) Sx→Sx 0 h₁→s.heap.get? I=aF→(∀b o,s.heap.get? b=some o→h₁.get? b=some o)→K (.ref I) {s with heap:=h₁})→bX (model prog w) A (pyIter u) K E s)
  (l:∀h' m,(∀b o,s.heap.get? b=some o→h'.get? b=some o)→Q items {s with heap:=h',toks:=m}):bX (model prog w) A (unpackItems u n aF) Q E s:=by
 subst g;refine aH (h _ ?_);refine aH (cJ (k _ fun I h₁ c Sx W st p r=>?_));refine aH (cJ (Yg W items.length 0 _ _ (bE 0x23148100301) st fun vs G H t x y z=>?_));have a:vs=items:=by
  apply List.ext_getElem? fun j=>?_
  cases d:vs[j]? with
  |none=>
   have:items.length≤j:=by have:=List.getElem?_eq_none_iff.mp d;exact bE 0x16314882910161003 t this
   simp only [B9 this]
  |some v=>have:=x j v d;simpa using this.symm
 subst a;rw [if_neg (by simp)];refine aH (cJ (W.done _ _ _ (by simpa using y) fun B C D=>?_));refine bC (l B C fun b o e=>?_);have f:b≠I:=fun q=>by simp only [q,p]at e;exact iE e
 exact D b o (by simpa using f) (z b o f (r b o e))
def S1(v:V):Option cG:=oo (Jy v) some (ob (aIj v) some)
def Y8(gs:List (V→St→Option St))(v:V)(σ:St):Option St:=ob (S1 v) fun ds=>unp gs ds σ
def Gu(gs:List (V→St→Option St))(v:V)(σ:St):Option St:=ob (S1 v) fun ds=>unp gs ds.reverse σ
noncomputable def F5(gs:List (V→St→Option St))(v:V)(σ:St):Option St:=match gs with
 |[]=>some σ
 |g::gs=>ob (g v σ) fun σ=>F5 gs v σ
section
variable{n:Nat}{F:Fx}
theorem zQ{X:iK}{K:gI→tX}(ok:wI n A)(m:jN F X D σ h)(e:S1 v=some ds)(y:j=ds.length)(r:gQ D (Yf F X D) h v u)
  (k:∀us h' p,jN F X D σ h'→pC F D h D h'→bS D (Yf F X D) h' ds us→K us (kD h' p)):bX (model prog w) A (unpackItems u j aF) K (fun _ _=>False) (kD h tk):=by
 revert r;refine U1 e (fun l e=>?_) fun e=>ä e fun l e=>?_
 ·refine oQ e ?_;rintro rfl ⟨a,xs,rfl,B,⟨c,d⟩,t⟩;have z:h.IsTuple a (bD xs):=⟨_,d,rfl,_,rfl⟩;refine pE (items:=xs) (by simp only [y,t.length]) (fun K f=>?_) (fun K f=>?_) fun h' p g=>?_
  ·exact aH (xU ⟨_,d,rfl⟩ PySem.F.slot_tuple_iter.lookup (bC f))
  ·have x:=fW (dR d);refine J3 z (f _ _ [h.objs.size,a] (fun i h'=>h'.IsTupleIter h.objs.size a i∧h'.IsTuple a (bD xs)) (by simpa using (Y1 ok.hd h.objs.size a x (bD xs))) ⟨⟨_,cF _ rfl,rfl,rfl⟩,z.push _⟩ (fE _) (dL _ _))
  ·exact k xs h' p (m.grow g) (pC.grow g) (bS.step (fun b o e _=>g b o e) (fun _ _ e=>e) (fun _ e=>.inl e) _ _ t)
 ·refine oQ e ?_;rintro rfl ⟨a,xs,rfl,B,⟨c,d⟩,t⟩;refine pE (items:=xs) (by refine y▸?_;exact t.length▸rfl) (fun K f=>?_) (fun K f=>?_) fun h' p g=>?_
  ·exact aH (xU ⟨_,d,rfl⟩ slot_list_iter.lookup (bC f))
  ·have x:a≠h.objs.size:=fW (dR d);refine Np (s:=kD h tk) d.isList (f _ _ [h.objs.size,a] (fun i h'=>h'.IsListIter h.objs.size a i∧h'.IsList a (bD xs)) (by simpa using (aO9 (prog:=prog) (w:=w) ok.hd h.objs.size a x (bD xs))) ⟨⟨_,cF _ rfl,rfl,rfl⟩,d.isList.push _⟩ (fE _) (dL _ _))
  ·exact k xs h' p (m.grow g) (pC.grow g) (bS.step (fun b o e _=>g b o e) (fun _ _ e=>e) (fun _ e=>.inl e) _ _ t)
def Nm(n:Nat)(F:Fx)(ts:List (bO→Fd Unit))(gs:List (V→St→Option St)):Prop:=ts.length=gs.length∧∀ds σ σ',unp gs ds σ=some σ'→∀A X D h tk us,wI n A→jN F X D σ h→bS D (Yf F X D) h ds us→
 bX (model prog w) A (assignInOrder ts us) (uJ rU F X D h fun _ τ=>σ'=τ) (fun _ _=>False) (kD h tk)
theorem mI:Nm n F [] []:=⟨rfl,fun ds σ σ' e A X D h tk us ok m r=>by
 cases ds with
 |nil=>refine oQ e ?_;rintro rfl;exact assignInOrder_nil ⟨h,tk,D,_,(),rfl,.refl,m,trivial,rfl⟩
 |cons d ds=>(exact iE e)⟩
theorem yG{gs:List (V→St→Option St)}:∀{ds:cG}{σ σ':St},unp gs ds σ=some σ'→ds.length=gs.length:=by
 induction gs with
 |nil=>intro ds σ σ' e;cases ds with
  |nil=>rfl
  |cons d ds=>(exact iE e)
 |cons g gs a=>intro ds σ σ' e;cases ds with
  |nil=>(exact iE e)
  |cons d ds=>obtain ⟨σ₁,b,e⟩:=dO e;simp [a e]
theorem Op{t:bO→Fd Unit}{a:List (bO→Fd Unit)}{g:V→St→Option St}{gs:List (V→St→Option St)}
  (x:∀σ v σ',g v σ=some σ'→∀A X D h tk u,wI n A→jN F X D σ h→gQ D (Yf F X D) h v u→bX (model prog w) A (t u) (uJ rU F X D h fun _ τ=>σ'=τ) (fun _ _=>False) (kD h tk))
  (y:Nm n F a gs):Nm n F (t::a) (g::gs):=⟨by simp [y.1],fun ds σ σ' e A X D h tk us ok m r=>by
 cases ds with
 |nil=>(exact iE e)
 |cons d ds=>obtain ⟨σ₁,c,e⟩:=dO e;obtain ⟨u,f,rfl,i,j⟩:=r;refine assignInOrder_cons (bN (x _ _ _ c A X D h tk u ok m i) (fun _ s' p=>?_) fun _ _ q=>q);obtain ⟨h',k,D',l,b,rfl,st,m',_,rfl⟩:=p;exact bN (y.2 _ _ _ e A X D' h' k f ok m' (bS.on m st j)) (fun _ _ p=>p.on st) fun _ _ q=>q⟩
def J2(n:Nat)(F:Fx)(es:List Expr)(gs:List (V→St→Option St)):Prop:=(pK es F.env).findIdx? (·.1)=aF∧Nm n F ((pK es F.env).map (·.2)) gs
theorem mN:J2 n F [] []:=⟨rfl,mI⟩
theorem eA{g:V→St→Option St}{gs:List (V→St→Option St)}(x:I9 n F e g)(y:J2 n F es gs)(a:pK (e::es) F.env=(false,assign e F.env)::pK es F.env):J2 n F (e::es) (g::gs):=by unfold J2;refine a▸?_;refine ⟨?_,Op (fun σ v σ' q A X D h tk u ok m r=>x σ v σ' q A X D h tk u ok m r) y.2⟩;have:=y.1;rw [List.findIdx?_cons];rw [this];rfl
theorem oF{gs:List (V→St→Option St)}(x:J2 n F es gs):I9 n F (.Tuple es c f) (Y8 gs):=fun σ v σ' e=>by obtain ⟨ds,a,e⟩:=dO e;intro A X D h tk u ok m r;refine aH (hG ?_);unfold unpack;refine x.1▸?_;refine aH (cJ (zQ ok m a (by simp only [yG e,←x.2.1];simp:(pK es F.env).length=ds.length) r fun us h' b m' st d=>?_));exact bN (x.2.2 _ _ _ e A X D h' b us ok m' d) (fun _ _ p=>p.on st) fun _ _ q=>q
theorem dH{gt:V→St→Option St}(x:lM n F e g)(y:I9 n F t gt)(c:swapsWithSole [t] e d.line F.env=pure false)(hw:swappedStores [t] e F.env=pure aF)(i:(pK [t] F.env).map (·.2)=[assign t F.env]):Fy n F (.Assign [t] e d) (eS g gt):=fun k σ f σ' q=>by refine nn fun j=>?_;obtain ⟨a,σ₁,l,q⟩:=eG q;obtain ⟨C,o,q⟩:=dO q;refine j ?_;intro A X D h tk ok m;refine aI1 (TW.atE (x _ _ _ l) ok m bS.nil ?_) c hw;rintro u h₁ s D₁ st v r;refine i▸?_;refine bN (y _ _ _ o A X D₁ h₁ s u ok v r) (fun _ s' p=>?_) fun _ _ q=>q;obtain ⟨h',z,D',G,b,rfl,B,m',_,rfl⟩:=p;exact ⟨h',z,D',_,.next,rfl,(st.trans B).toK k,m',J0.next,.of q⟩
theorem kZ{gs:List (V→St→Option St)}(x:lM n F e g)(y:Nm n F (names.reverse.map fun n=>bindName F.env n) gs)(v:swapsWithSole [.Tuple es c tpos] e B.line F.env=pure false)(hw:swappedStores [.Tuple es c tpos] e F.env=pure (some names)):Fy n F (.Assign [.Tuple es c tpos] e B) (eS g (Gu gs)):=fun k σ f σ' q=>by
 refine nn fun C=>?_;obtain ⟨a,σ₁,G,q⟩:=eG q;obtain ⟨Z,i,q⟩:=dO q;obtain ⟨ds,o,i⟩:=dO i;refine C ?_;intro A X D h tk ok m;refine Assign_Tuple_swapped (TW.atE (x _ _ _ G) ok m bS.nil ?_) v hw;rintro u h₁ ad D₁ st H r;have s:names.length=ds.length:=by have a1:=yG i;have t:=y.1;simp at a1 t;exact bE 0x4da315804b08961003 a1 t
 refine zQ ok H o s r fun us j I J L N=>?_;have O:bS D₁ (Yf F X D₁) j ds.reverse us.reverse:=by
  clear i o s;have:∀(l:cG)(xs:gI),bS D₁ (Yf F X D₁) j l xs→bS D₁ (Yf F X D₁) j l.reverse xs.reverse:=by
   intro l
   induction l with
   |nil=>intro xs q;subst q;exact bS.nil
   |cons d l P=>intro xs q;obtain ⟨z,Q,rfl,R,T⟩:=q;simp only [List.reverse_cons];exact (P Q T).append (.cons R .nil)
  exact this _ _ N
 refine bN (y.2 _ _ _ i A X D₁ j I us.reverse ok J O) (fun _ s' p=>?_) fun _ _ q=>q;obtain ⟨h',W,D',gv,b,rfl,Y,m',_,rfl⟩:=p;exact ⟨h',W,D',_,.next,rfl,((st.trans L).trans Y).toK k,m',J0.next,.of q⟩
theorem Ã{names:mE}{a:List (bO→Fd Unit)}{gs:List (V→St→Option St)}(fk:iY F)(b:lk F.bnd x=some (p,s))(c:œ F.env p s)(y:Nm n F a gs):Nm n F ((fun v=>bindName F.env s v)::a) (bY x::gs):=
 Op (fun σ v σ' e A X D h tk u ok m r=>by refine oQ e ?_;rintro rfl;exact bindName_ (C9 fk m b c r fun h' d m' f=>⟨h',d,D,_,(),rfl,f,m',trivial,rfl⟩)) y
inductive Ŗ(n:Nat)(F:Fx):List Expr→List (V→St→Option St)→Prop where
 |nil:Ŗ n F [] []
 |cons {t:Expr} {ts:List Expr} {g:V→St→Option St} {gs:List (V→St→Option St)} (x:I9 n F t g) (y:Ŗ n F ts gs):Ŗ n F (t::ts) (g::gs)
theorem Ni{X:iK}(ok:wI n A){gs:List (V→St→Option St)}(y:Ŗ n F h gs):∀(σ₁:St) D₁ h₁ c,jN F X D₁ σ₁ h₁→gQ D₁ (Yf F X D₁) h₁ a u→F5 gs a σ₁=some σ'→
   bX (model prog w) A (assignAll u (h.map fun t=>assign t F.env)) (uJ rU F X D₁ h₁ fun _ τ=>σ'=τ) (fun _ _=>False) (kD h₁ c):=by
 induction y with
 |nil=>intro σ₁ D₁ h₁ c e r d;refine oQ d ?_;rintro rfl;exact bC ⟨h₁,c,D₁,_,(),rfl,.refl,e,trivial,rfl⟩
 |cons x y i=>
  intro σ₁ D₁ h₁ c e r d;obtain ⟨l,f,d⟩:=dO d
  cases y with
  |nil=>refine oQ d ?_;rintro rfl;exact x _ _ _ f A X D₁ h₁ c u ok e r
  | @cons m j o gs' s y=>refine aH (cJ (bN (x _ _ _ f A X D₁ h₁ c u ok e r) (fun _ s' p=>?_) fun _ _ q=>q));obtain ⟨h',k,D',v,b,rfl,g,m',_,rfl⟩:=p;exact bN (i _ D' h' k m' (gQ.on e g r) d) (fun _ _ p=>p.on g) fun _ _ q=>q
theorem oZ{gs:List (V→St→Option St)}(x:lM n F e g)(y:Ŗ n F c gs)(d:swapsWithSole c e i.line F.env=pure false)(hw:swappedStores c e F.env=pure aF)(j:(pK c F.env).map (·.2)=c.map fun t=>assign t F.env):Fy n F (.Assign c e i) (eS g (F5 gs)):=fun k σ f σ' q=>by refine nn fun l=>?_;obtain ⟨a,σ₁,o,q⟩:=eG q;obtain ⟨G,s,q⟩:=dO q;refine l ?_;intro A X D h tk ok m;refine aI1 (TW.atE (x _ _ _ o) ok m bS.nil ?_) d hw;rintro u h₁ v D₁ st z r;refine j▸?_;refine bN (Ni ok y _ D₁ h₁ v z r s) (fun _ s' p=>?_) fun _ _ q=>q;obtain ⟨h',B,D',H,b,rfl,C,m',_,rfl⟩:=p;exact ⟨h',B,D',_,.next,rfl,(st.trans C).toK k,m',J0.next,.of q⟩
end
end
def fD:qR:=fun us σ=>aV (fun u=>aV fun d=>aN (ob (Iu u) fun i=>aL σ i fun l=>if l.length≤lim then some (.none,{σ with cells:=lQ i (.list (l++[d])) σ.cells})else aF)) us
def uH:qR:=fun us σ=>aV (fun u=>aV fun d=>aN (ob (Iu u) fun i=>aL σ i fun l=>ob (Gz σ d) fun l'=>if l.length≤lim∧l'.length≤lim then some (.none,{σ with cells:=lQ i (.list (l++l')) σ.cells})else aF)) us
def aCj:qR:=fun us σ=>aV (fun u r=>ob (Iu u) fun i=>aL σ i fun l=>aE (if l.length≤lim then ob l.getLast? fun d=>some (d,{σ with cells:=lQ i (.list l.dropLast) σ.cells})else aF)
 (fun v r=>aN (ob (G0 v) fun k=>if k=0 then aV (fun d l=>if l.length≤lim then some (d,{σ with cells:=lQ i (.list l) σ.cells})else aF) l else aF) r) r) us
def uF(d:qR)(go:M V)(ga:M cG):M V:=fun σ=>bd (go σ) fun u σ=>ob (Gz σ u) fun _=>bd (ga σ) fun us σ=>d (u::us) σ
def aE1(go gi:M V)(v:V)(σ:St):Option St:=bd (go σ) fun o σ=>bd (gi σ) fun i σ=>ob (Iu o) fun n=>ob (G0 i) fun k=>aL σ n fun l=>if 0≤k∧k.toNat<l.length∧l.length≤lim then some {σ with cells:=lQ n (.list (l.set k.toNat v)) σ.cells}else aF
section
variable{n:Nat}{F:Fx}
def OpB(n:Nat)(F:Fx)(id:String)(d:qR):Prop:=∀us,ImT n F rV us (Qh id) (d us)
theorem gR(fk:iY F):OpB n F "list.append" fD:=fun us σ v σ' e=>by refine pB e fun _ _ e=>?_;refine pB e fun _ _ e=>?_;refine pM e fun e=>?_;refine Kg e fun i e=>?_;refine nn fun a=>?_;obtain ⟨l,b,e⟩:=O4 e;obtain ⟨c,e⟩:=iS e;refine a ?_;exact Xd fk b (bR c oY) (.of e)
theorem uZ(fk:iY F):OpB n F "list.extend" uH:=fun us σ v σ' e=>by
 refine pB e fun _ _ e=>?_;refine pB e fun _ _ e=>?_;refine pM e fun e=>?_;refine Kg e fun i e=>?_;refine nn fun p=>?_;obtain ⟨l,s,e⟩:=O4 e;obtain ⟨l',t,e⟩:=dO e;obtain ⟨g,e⟩:=iS e;refine p ?_;intro A X D h tk vs ok m r;simp only [pJ,pI]at r;obtain ⟨u,G,rfl,r1,v,H,rfl,x,rfl⟩:=r;obtain ⟨a,xs,k,rfl,y,c,d⟩:=Kz m s r1;obtain ⟨b,f,z,rfl,B,j⟩:=Bw m t x;have o:=Vg;have c3:(bD xs).size+(bD f).size≤iC:=by simp [d.length,j.length];exact bE 0x1e3148d02024680858908921004 g o
 refine call_meets kM ⟨_,c,rfl⟩ PySem.F.entry_list_extend (PySem.F.args_list_extend_2 _ _) (AutoSeq1.list_extend_list_list_0 a (bD xs) k b (bD f) z (by have C:=nV;simp only [G4,gG,decide_eq_true_eq,not_and,nN];intro _;assumption) (by simp [d.length];exact bE 0x58c523024680858908921004 g o:(bD xs).size≤iC) (bE 0x318a5071202048901003 c3:(bD xs).size+(bD f).size≤iC+1)) ⟨c,B,?_⟩;exact Om fk m y c (by simp) (d.append j) Dc (.of e)
theorem U0(fk:iY F):OpB n F "list.pop" aCj:=fun us σ v σ' e=>by
 refine pB e fun _ r e=>?_;refine Kg e ?_;clear e;intro i e;replace e:=O4 e;obtain ⟨l,o,e⟩:=e;have p:=Vg
 cases r with
 |nil=>replace e:=iS e;obtain ⟨b,e⟩:=e;replace e:=dO e;obtain ⟨d,c,e⟩:=e;replace c:=List.getLast?_eq_some_iff.mp c;obtain ⟨f,rfl⟩:=c;rw [Zg]at e;simp only [aS,eV]at b;exact aGk fk o (bE 0x345150449020e248500003 p b) (.of e)
 |cons z r=>
  refine pM e ?_;clear e;intro e;refine zC e ?_;clear e;intro k e;replace e:=iS e;obtain ⟨rfl,s⟩:=e
  cases l with
  |nil=>exact iE s
  |cons d l=>
  obtain ⟨b,g⟩:=iS s;intro A X D h tk vs ok m r;obtain ⟨u,O,rfl,r1,z,P,rfl,B,C⟩:=r;cases C;obtain ⟨t,rfl⟩:=B;obtain ⟨a,xs,k,rfl,G,j,H⟩:=Kz m o r1;obtain ⟨y,f,rfl,I,x⟩:=H;have J:=x.length;have L:(bD (y::f)).size≤iC:=by
   have N:1≤lim:=by decide
   simp;exact bE 0x1b8c52141c6901d621a40248500004 p b J N
  refine call_meets sZ ⟨_,j,rfl⟩ Qz (PySem.F.args_list_pop_2 _ _) (MeetsSeq.list_pop_at a (bD (y::f)) k 0 t 0 y (by decide) (by simp [seqIndex?]) (by rfl) L) ⟨j,?_⟩;exact Om fk m G j (by simp) x I (.of g)
theorem kJ{o:Expr}{name:jX}{b a:Pos}{args:List Expr}{i:Fd Bool}{id:String}{d:qR}{c:M V}{g:M cG}(slot:Slot "list" name id)(j:typeOf (.builtin id)=pure (.type "method_descriptor"))(k:Y2 "list")(ob:OpB n F id d)
  (x:lM n F o c) (m:oW F args) (y:zH n F a args g)
  (p:eval (.Call (.Attribute o name b) args [] a) F.env=(do
   let h←eval o F.env
   lV b.atName
   let (f,first)←holding [h] (getMethod h name i)
   mW a f first (backTo a (eC args F.env)) [])):lM n F (.Call (.Attribute o name b) args [] a) (uF d c g):=fun σ v σ' e=>by
 refine nn fun r=>?_;obtain ⟨u,σ₁,s,e⟩:=eG e;obtain ⟨l,t,e⟩:=dO e;obtain ⟨us,A,z,e⟩:=eG e;refine r ?_;refine M0 slot j k p m ((x _ _ _ s).mono ?_);refine mR ?_;refine ⟨X3 t,TW.mono (y _ _ _ z) ?_⟩;refine mR ?_;exact ob _ _ _ _ e
theorem Se{E:sX}{s:dI}{Q:Unit→tX}(a:IsL s.heap l items c)
  (h0:0≤k) (d:k<2^63) (f:k.toNat<items.size) (e:Q () {s with heap:=s.heap.update l (iQ (·.setIfInBounds k.toNat v))}):
  bX (model prog w) A (setItem (.ref l) (.int k t) v) Q E s:=by
 have b:s.TypeIs (.ref l) "list":=⟨_,a,rfl⟩;unfold setItem;try with_reducible refine cJ ?_
 first|refine aH (bC ?_)|skip
 refine aH (aM5 b (by decide) ?_);refine aH (oR b slot_list_setitem
  (mT slot_list_setitem b entry_list_setitem ?_ (args_list_setitem _ _ _)))
 refine (?_:bX _ _ (aPo (.int k t)>>=_) _ _ s);refine aH (wpAny_listSubscript_int (fitsIndex_of h0 d) ?_);clear d;replace h0:=Int.eq_ofNat_of_zero_le h0;obtain ⟨j,rfl⟩:=h0;refine (?_:bX _ _ ((seqItemAt l j>>=fun r=>pure (r.map (j,·)))>>=_) _ _ s);refine aH (aH (wpAny_seqItemAt a rfl (bC ?_)));refine (Oe (by exact f:j<items.size))▸?_;refine (?_:bX _ _ (setSeqItemAt l j v>>=_) _ _ s);refine aH (wpAny_setSeqItemAt a rfl ?_);first
  |exact aH (bC (bC ⟨.none,rfl,bC e⟩))
  |exact bC ⟨.none,rfl,bC e⟩
theorem aBg(fk:iY F)(x:lM n F o W)(y:lM n F i gi):I9 n F (.Subscript o i ah) (aE1 W gi):=fun σ v σ' e=>by
 obtain ⟨ov,σ₁,Y,e⟩:=eG e;replace e:=eG e;obtain ⟨iv,I,Z,e⟩:=e;replace e:=ß e;obtain ⟨j,rfl,J⟩:=e;obtain ⟨k,rfl,L⟩:=aDx J;obtain ⟨l,N,p⟩:=O4 L;clear e;clear J;clear L;replace p:=iS p;obtain ⟨s,e6⟩:=p;refine oQ e6 ?_;rintro rfl;intro A X D h tk u ok m r;refine aH (cJ (TW.atE (x _ _ _ Y) ok m bS.nil ?_));rintro x8 h₁ ad D₁ O B ar;refine aH (cJ (TW.atE (y _ _ _ Z) ok B bS.nil ?_));rintro x9 C bf D₂ G P c7;have H:=gQ.on B G ar;replace H:=Kz P N H;obtain ⟨a,xs,c,rfl,ha,R,T⟩:=H;obtain ⟨t,rfl⟩:=c7;have b6:lim=1048576:=rfl;refine aH (hG (aH (cJ (Se R s.1 (by lia) (by simp [T.length];exact s.2.1) (Ja ?_)))));have yb:bS D₂ (Yf F X D₂) C (l.set k.toNat v) (xs.set k.toNat u):=by
  clear s N;have:∀(l:cG)(xs:gI)(j:Nat),bS D₂ (Yf F X D₂) C l xs→bS D₂ (Yf F X D₂) C (l.set j v) (xs.set j u):=by
   intro l
   induction l with
   |nil=>intro xs j q;subst q;exact bS.nil
   |cons d l ih=>
    intro xs j q;obtain ⟨z,zs,rfl,q1,g⟩:=q
    cases j with
    |zero=>exact .cons (gQ.on B G (gQ.on m O r)) g
    |succ j=>exact .cons q1 (ih zs j g)
  exact this _ _ _ T
 obtain ⟨h',ao,D',gv,b,e',bv,m',r',g⟩:=Om (Q:=fun _ τ=>{I with cells:=lQ j (gC.list (l.set k.toNat v)) I.cells}=τ) fk P ha R (f:=fun z=>z.setIfInBounds k.toNat u) (by simp) yb Dc rfl;exact ⟨h',ao,D',gv,(),e',(O.trans G).trans bv,m',trivial,g⟩
end
structure Eb(F:Fx)(tab:List (Nat×jX)):Prop where
 fk:iY F
 ok:∀x s,(x,s)∈tab→∃p,lk F.bnd x=some (p,s)∧œ F.env p s
noncomputable def Hj:Nat→mE→List (Nat×jX)
 |_,[]=>[]
 |i,s::r=>(i,s)::Hj (i+1) r
theorem æ:∀{tab:mE}{i:Nat},(x,s)∈Hj i tab→i≤x∧tab[x-i]?=some s:=by
 intro c
 induction c with
 |nil=>intro i;intro h;cases h
 |cons t tab d=>
  intro i;intro h;rcases aU.mp h with e|h
  ·refine soT e ?_;rintro rfl rfl;simp
  ·obtain ⟨a,b⟩:=d h;refine ⟨bE ln7 a,?_⟩;rw [show x-i=(x-(i+1))+1 by exact bE ln1 a];simpa using b
theorem lU.tab{fd:uN}{tab:mE}(d:lU fd tab)(L a:cY):Eb (wZ fd L a tab) (Hj 0 tab)where
 fk:=d.fx L a
 ok:=fun x s h=>by
  obtain ⟨_,b⟩:=æ h;refine ⟨_,Sn (bW _) b,?_⟩;have f:=aG b;unfold Uv;rcases d.names s f with q|⟨q,g⟩<;>rw [q]
  ·exact ⟨rfl,q⟩
  ·obtain ⟨c,e⟩:=fX.mp (g (L+1));rw [e];exact ⟨q,e⟩
section
variable{n:Nat}{F:Fx}{tab:List (Nat×jX)}
theorem dP(T:Eb F tab)(h:(x,s)∈tab)(hd:(s== ("__debug__":jX))=false):lM n F (.Name s c) (aJ x):=by obtain ⟨p,a,b⟩:=T.ok x s h;exact aBh T.fk a b hd
theorem rA(T:Eb F tab)(h:(x,s)∈tab):I9 n F (.Name s c) (bY x):=by obtain ⟨p,a,b⟩:=T.ok x s h;exact ē T.fk a b
theorem Dl{f:V→V→M V}(T:Eb F tab)(h:(x,s)∈tab)(o:Ft n F (inplaceOp a) f)
  (y:lM n F e g):Fy n F (.AugAssign (.Name s pos') a e d) (P1 x f g):=by
 obtain ⟨p,b,c⟩:=T.ok x s h;exact aBf T.fk b c o y
theorem eO{a:List (bO→Fd Unit)}{gs:List (V→St→Option St)}(T:Eb F tab)(h:(x,s)∈tab)(y:Nm n F a gs):Nm n F ((fun v=>bindName F.env s v)::a) (bY x::gs):=by obtain ⟨p,b,c⟩:=T.ok x s h;exact Ã (names:=[]) T.fk b c y
end
section
set_option backward.match.sparseCases false
def aHm(g:M V):M V:=fun σ=>bd (g σ) fun v σ=>(G0 v).map fun i=>(.int (-i),σ)
def Jn(n:Nat):Option Bool:=if n≤lim then some (decide (n≠0))else aF
def aJk:V→Option Bool
 |.none=>some false
 |.bool b=>some b
 |.int i=>some (i != 0)
 |.str s=>Jn s.length
 |.scr l=>Jn l.length
 |_=>aF
def Ż(σ:St)(v:V):Option Bool:=oo (aJk v) some (ob (Gz σ v) fun l=>Jn l.length)
@[elab_as_elim] theorem ź {P:V→Bool→Prop} (e:oo (aJk v) some g=some b) (a:P .none false) (f:∀b,P (.bool b) b) (j:∀i,P (.int i) (i != 0)) (k:∀s,Jn s.length=some b→P (.str s) b)
  (m:∀l,Jn l.length=some b→P (.scr l) b) (d:g=some b→P v b):P v b:=by
 cases v with
 |none=>exact oQ e fun q=>q▸a
 |bool c=>exact oQ e fun q=>q▸f c
 |int i=>exact oQ e fun q=>q▸j i
 |str s=>cases h:Jn s.length with
  |none=>exact d ((congrArg (fun x=>oo x some g) h).symm.trans e)
  |some c=>exact oQ ((congrArg (fun x=>oo x some g) h).symm.trans e) fun q=>k s (h.trans (congrArg some q))
 |scr l=>cases h:Jn l.length with
  |none=>exact d ((congrArg (fun x=>oo x some g) h).symm.trans e)
  |some c=>exact oQ ((congrArg (fun x=>oo x some g) h).symm.trans e) fun q=>m l (h.trans (congrArg some q))
 |_=>exact d e
def oB(g:M V):M Bool:=fun σ=>bd (g σ) fun v σ=>(Ż σ v).map fun b=>(b,σ)
section
variable{n:Nat}{F:Fx}
theorem aBi(x:lM n F e g):lM n F (.UnaryOp .USub e d) (aHm g):=fun σ v σ' q=>by
 replace q:=eG q;obtain ⟨a,σ₁,b,q⟩:=q;cases a<;>simp only [G0,nA]at q<;>first|cases q|skip
 intro A X D h tk vs ok m _;refine wpAny_UnaryOp (TW.atE (x _ _ _ b) ok m bS.nil ?_);rintro u h₁ f D₁ st c r;obtain ⟨t,rfl⟩:=r;exact P.neg_int ((gT c oK ⟨rfl,rfl⟩).on st)
theorem W2{X:iK}{K:Bool→tX}(m:jN F X D σ h)(e:Ż σ v=some b)(r:gQ D (Yf F X D) h v u)(k:∀p,K b (kD h p)):bX (model prog w) A (truthy u) K (fun _ _=>False) (kD h tk):=by
 have j:lim=1048576:=rfl;have list:∀(a:cY)(xs:gI)(l:cG),h.IsList a (bD xs)→bS D (Yf F X D) h l xs→Jn l.length=some b→bX (model prog w) A (truthy (.ref a)) K (fun _ _=>False) (kD h tk):=by
  intro a xs l f d g;obtain ⟨o,g⟩:=iS g;refine wpAny_truthy_list f (by simp [d.length];exact bE 0x718db18c6318c6318c6318c6318c630741ea14802bc6318c6386002 j o) ?_;have:(!(bD xs).isEmpty)=b:=by refine Eq.trans ?_ (gM g);have:=d.length;clear o;clear g;cases xs<;>cases l<;>simp_all
  refine this▸?_;exact k _
 clear j;revert list k r;refine ź e ?_ ?_ ?_ ?_ ?_ ?_
 ·intro r k _;cases r;exact bC (k _)
 ·intro b r k _;cases r;exact No (k _)
 ·rintro i ⟨t,rfl⟩ k _;exact P.truthy_int (k _)
 ·rintro s e ⟨t,rfl⟩ k _;obtain ⟨f,e⟩:=iS e;have j:lim=1048576:=rfl;refine P.truthy_str (by lia) ?_;have:((s.length:Int) != 0)=b:=by
   refine Eq.trans ?_ (gM e);by_cases q:s.length=0
   ·simp [q]
   ·have:(s.length:Int)≠0:=bE 0x160c5d2b9aa074966001 q;simp [q]
  refine this▸?_;exact k _
 ·rintro l e ⟨a,xs,rfl,_,f,d⟩ _ list;exact list a xs _ f d e
 ·intro e r k list;obtain ⟨l,x,e⟩:=dO e;obtain ⟨a,xs,c,rfl,y,d⟩:=Bw m x r;exact list a xs l y.isList d e
theorem lE(x:lM n F e g)(f:isTrue e F.env (eval e F.env)=(do let v←eval e F.env;lV e.pos;holding [v] (truthy v))):Yu n F e (oB g):=fun σ v σ' q=>by
 obtain ⟨a,σ₁,i,q⟩:=eG q
 cases c:Ż σ₁ a with
 |none=>rw [c]at q;exact iE q
 |some b=>replace q:=c▸q;intro A X D h tk vs ok m _;refine wpAny_isTrue_value (TW.atE (x _ _ _ i) ok m bS.nil ?_) f;rintro u h₁ k D₁ st d r;exact W2 d c r fun j=>⟨h₁,j,D₁,_,_,rfl,st,d,rfl,.of q⟩
def P0(f f':V→V→M V)(gl gr o7:M V):M V:=fun σ=>bd (gl σ) fun a σ=>bd (gr σ) fun b σ=>bd (f a b σ) fun c σ=>ob (asB c) fun t=>if t=true then bd (o7 σ) fun b' σ=>f' b b' σ else some (.bool false,σ)
theorem Ė{f f':V→V→M V}(o:Ft n F (compareOp i) f)(O:Ft n F (compareOp op') f')(x:lM n F l P)(y:lM n F r Q)(z:lM n F d R)
  (T:eval (.Compare l [i,op'] [r,d] j) F.env=(do compareChain j (←eval l F.env) [i,op'] [eval r F.env,eval d F.env])):lM n F (.Compare l [i,op'] [r,d] j) (P0 f f' P Q R):=fun σ v σ' q=>by
 refine nn fun W=>?_;obtain ⟨a,σ₁,Y,q⟩:=eG q;obtain ⟨b,am,Z,q⟩:=eG q;obtain ⟨c,bn,e3,q⟩:=eG q;refine W ?_;replace q:=dO q;obtain ⟨t,B,q⟩:=q;intro A X D h tk vs ok m _;refine (?_:bX _ _ (eval (.Compare l [i,op'] [r,d] j) F.env) _ _ _);refine T▸?_;refine aH (TW.atE (x _ _ _ Y) ok m bS.nil ?_);rintro u h₁ ad D₁ ag C ar;refine (?_:bX _ _ (holding [u] (eval r F.env)>>=_) _ _ _);refine aH (cJ (TW.atE (y _ _ _ Z) ok C bS.nil ?_));rintro G aw bf D₂ H I J;refine aH (hG (aH (cJ (TW.atE (o _ _ _ _ _ e3) ok I (.cons (gQ.on C H ar) (.cons J .nil)) ?_))));rintro w' ba bw D₃ L k gx;cases c<;>simp only [asB]at B<;>first|cases B|skip
 subst gx;refine aH (Ja (aH (cJ (No ?_))));have g:=(ag.trans H).trans L;cases t
 ·exact bC ⟨ba,bw,D₃,_,_,rfl,g,k,mJ,.of q⟩
 ·obtain ⟨b',fb,e5,q⟩:=eG q;refine (?_:bX _ _ (holding [G] (eval d F.env)>>=_) _ _ _);refine aH (cJ (TW.atE (z _ _ _ e5) ok k bS.nil ?_));rintro s f5 jx D₄ N jc yc;refine aH (hG (wpAny_operateT ?_));exact bN (O _ _ _ _ _ q A X D₄ f5 jx [G,s] ok jc (.cons (gQ.on k N (gQ.on I L J)) (.cons yc .nil))) (fun _ _ p=>p.on (g.trans N)) fun _ _ e=>e
end
end
noncomputable def Y6(C:cY):Nat→mE→List (Nat×qL×jX)
 |_,[]=>[]
 |i,s::r=>(i,.loc C,s)::Y6 C (i+1) r
theorem Hm:Y6 C a []=([]):=rfl
theorem Hl:Y6 C i (s::r)=((i,.loc C,s)::Y6 C (i+1) r):=rfl
def tJ(F:Fx)(scope:Ū)(cl:List (jX×cY))(C:cY)(base:Nat)(names:mE):Fx where
 env:=kB scope cl C F.env
 bnd:=F.bnd++Y6 C base names
 Z:=C::F.Z
theorem xI{c:Type}:∀(a b:List (Nat×c))(x:Nat),lk (a++b) x=match lk a x with|some v=>some v|aF=>lk b x:=by
 intro d
 induction d with
 |nil=>intro b;intro x;exact rfl
 |cons e a f=>
  obtain ⟨y,v⟩:=e;intro b;intro x;dsimp only [dX,fN,fM];split
  ·rfl
  ·exact f b x
theorem aGt:∀{tab:mE}{i:Nat},lk (Y6 C i tab) x=some (p,s)→i≤x∧tab[x-i]?=some s∧p=.loc C:=by
 intro d
 induction d with
 |nil=>intro i;intro e;simp [Hm,Hl,fN,fM]at e
 |cons t tab f=>
  intro i;intro e;dsimp only [Hm,Hl,fN,fM]at e;by_cases h:x=i
  ·rw [if_pos h]at e;refine I8 e ?_;rintro rfl rfl;subst h;simp
  ·rw [if_neg h]at e;refine nn fun g=>?_;obtain ⟨a,b,c⟩:=f e;refine g ?_;refine ⟨bE ln7 a,?_,c⟩;simp only [show x-i=(x-(i+1))+1 by exact bE ln1 a];exact b
theorem aGs:∀{tab:mE}{i x:Nat},i≤x→tab[x-i]?=some s→lk (Y6 C i tab) x=some (.loc C,s):=by
 intro b
 induction b with
 |nil=>intro i;intro x;intro _;intro e;simp at e
 |cons t tab c=>
  intro i;intro x;intro a;intro e;dsimp only [Hm,Hl,fN,fM];by_cases h:x=i
  ·subst h;simp at e;simp [e]
  ·refine (if_neg h)▸?_;refine c (bE aAu a h) ?_;replace e:=(show x-i=(x-(i+1))+1 by exact bE aLr a h)▸e;simpa using e
section
variable{F:Fx}{scope:Ū}{cl:List (jX×cY)}{C:cY}{base:Nat}{names:mE}
theorem Bb(b:∀x q,lk F.bnd x=some q→x<base)(e:lk (tJ F scope cl C base names).bnd x=some (p,s)):lk F.bnd x=some (p,s)∨(base≤x∧names[x-base]?=some s∧p=.loc C):=by
 have a:lk (F.bnd++Y6 C base names) x=some (p,s):=e;rw [xI]at a
 cases q:lk F.bnd x with
 |some v=>rw [q]at a;exact .inl a
 |none=>rw [q]at a;exact .inr (aGt a)
theorem Gq(e:lk F.bnd x=some q):lk (tJ F scope cl C base names).bnd x=some q:=by refine (?_:lk (F.bnd++Y6 C base names) x=some q);simp only [xI,e]
theorem aHe(fk:iY F)(g:scope.kind=.function)(b:C∉F.Z)(h:names.Nodup)(a:∀x q,lk F.bnd x=some q→x<base):iY (tJ F scope cl C base names)where
 kind:=g
 inZ:=fun x p s e=>by
  rcases Bb a e with q|⟨_,_,rfl⟩
  ·exact aQ _ (fk.inZ x p s q)
  ·exact aR
 dist:=fun x y p s c s' e i d=>by
  rcases Bb a e with q|⟨j,f,rfl⟩<;>rcases Bb a i with r|⟨r1,k,rfl⟩
  ·exact fk.dist x y p s c s' q r d
  ·exact .inl fun z=>b (by have:=fk.inZ x p s q;rw [z]at this;exact this)
  ·exact .inl fun z=>b (by have:=fk.inZ y c s' r;rw [←z]at this;exact this)
  ·refine .inr ⟨C,rfl,rfl,fun z=>d ?_⟩;subst z;have:=(pL ((cU.mp f).1) h).mp (f.trans k.symm);exact bE 0x821042084101102211194518ac825802920d221ccc21ccc1003 j r1 this
theorem Vn(T:Eb F tab)(g:scope.kind=.function)(i:C∉F.Z)(j:names.Nodup)(d:∀x q,lk F.bnd x=some q→x<base)
  (k:∀p∈cap,p∈tab∧F.env.kindOf p.2=some .cell∧(relabel scope F.env).names.lookup p.2=some .cell∧cl.lookup p.2=F.env.cells.lookup p.2)
  (l:∀s∈names,(relabel scope F.env).names.lookup s=some .local):Eb (tJ F scope cl C base names) (cap++Hj base names)where
 fk:=aHe T.fk g i j d
 ok:=fun x s h=>by
  rcases dC.mp h with h|h
  ·obtain ⟨a,b,m,o⟩:=k _ h;refine nn fun r=>?_;obtain ⟨p,e,f⟩:=T.ok x s a;refine r ?_;refine ⟨p,Gq e,?_⟩;clear e
   cases p with
   |loc L=>have:=f.2;replace this:=b▸this;cases this
   |cel c=>exact ⟨m,by simp only [←f.2];exact o⟩
  ·obtain ⟨a,b⟩:=æ h;refine ⟨.loc C,?_,rfl,l s (aG b)⟩;refine (?_:lk (F.bnd++Y6 C base names) x=_);rw [xI]
   cases q:lk F.bnd x with
   |some v=>exact absurd (d x v q) (bE 0x318ba4a00521002 a)
   |none=>exact aGs a b
end
inductive wW(F:Fx)(X:iK)(D:mS)(h:dS)(a:cY)(l:cG):Prop
 |mk (us:gI) (c:Nat) (i:IsL h a (bD us) c) (r:bS D (Yf F X D) h l us):wW F X D h a l
noncomputable def zx(a:cY)(F:Fx):Fx:={F with Z:=a::F.Z}
theorem pC.zx(x:pC F D h D' h'):pC (zx a F) D h D' h':=⟨fun b o e c=>x.keep b o e fun q=>c (aQ _ q),x.ext,x.new,x.al⟩
inductive CbR(F:Fx)(X:iK)(D:mS)(h:dS)(a:cY)(l:cG)(σ':St)(s':dI):Prop
 |mk (h':dS) (ao:Nat) (D':mS) (e:s'=kD h' ao) (st:pC (zx a F) D h D' h') (m:jN F X D' σ' h') (ac:wW F X D' h' a l):CbR F X D h a l σ' s'
section
variable(n:Nat)(F:Fx)
def CB(a:cY){α:Type}(b:Fd α)(σ:St)(xs:cG)(σ':St):Prop:=∀A X D h tk l,wI n A→X a→a∉F.Z→S.heap.get? a=aF→jN F X D σ h→wW F X D h a l→l.length+xs.length≤iC→
 bX (model prog w) A b (fun _ s'=>CbR F X D h a (l++xs) σ' s') (fun _ _=>False) (kD h tk)
end
def M9(gt:V→St→Option St)(gb:M cG):cG→M cG
 |[],σ=>some ([],σ)
 |v::r,σ=>ob (gt v σ) fun σ=>bd (gb σ) fun xs σ=>bd (M9 gt gb r σ) fun ys σ=>some (xs++ys,σ)
theorem aCr{gt:V→St→Option St}:M9 gt gb (v::r) σ=(ob (gt v σ) fun σ=>bd (gb σ) fun xs σ=>bd (M9 gt gb r σ) fun a σ=>some (xs++a,σ)):=rfl
def oC(ge:M V):M cG:=fun σ=>bd (ge σ) fun x σ=>some ([x],σ)
section
variable{n:Nat}{F:Fx}
theorem wW.on{X:iK}(m:jN F X D σ h)(b:X a)(d:a∉F.Z)(st:pC F D h D' h')(x:wW F X D h a l):wW F X D' h' a l:=by obtain ⟨us,c,e,f⟩:=x;exact ⟨us,c,st.keep a _ e d (fun j q=>(m.sep j a q).x b),bS.on m st f⟩
theorem Nc(fk:iY F)(x:lM n F y ge)(e:oC ge σ=some (xs,σ')):CB n F a (eval y F.env>>=fun x=>call (.builtin "list.append") [.ref a,x]>>=fun _=>pure ()) σ xs σ':=by
 replace e:=eG e;obtain ⟨v,σ₁,B,e⟩:=e;refine I8 e ?_;rintro rfl rfl;intro A X D h tk l ok i p G m H s;refine aH (TW.at (x _ _ _ B) ok m bS.nil ?_);rintro u h₁ I D₁ _ _ st J r ⟨rfl,rfl⟩;obtain ⟨us,c,j,t⟩:=H.on m i p st;simp only [eJ,cV]at s;refine aH (call_meets cA ⟨_,j,rfl⟩ K8 (J5 _ _) (ū a (bD us) c u (by simp [(t.length)];exact bE 0xc62908121420e6002 s)) ⟨j,bC ?_⟩);have k:=j.update (fun z=>z.push u);have g:∀b o,b∉[a]→h₁.get? b=some o→(h₁.update a (iQ fun z=>z.push u)).get? b=some o:=fun b o f e=>(gO h₁ _ (fun q=>f (by simp [q]))).trans e;have L:∀b o,h₁.get? b=some o→vI (h₁.update a (iQ fun z=>z.push u)) b:=fun b o e=>by
  by_cases q:b=a
  ·subst q;exact ⟨_,k⟩
  ·exact ⟨o,g b o (by simpa using q) e⟩
 refine ⟨_,I,D₁,rfl,st.zx.trans ⟨fun b o e f _=>g b o (fun q=>f (by refine (aM.mp q)▸?_;exact aR)) e,fun _ _ e=>e,fun _ _ e=>.inl e,L⟩,(J.turnX fk (fun b f=>by refine (aM.mp f)▸?_;exact i) (fun b f=>by refine (aM.mp f)▸?_;exact p) (fun b f=>by refine (aM.mp f)▸?_;exact G) g (fun b f=>by simp only [aM.mp f];exact ⟨_,k⟩)),us++[u],_,(by simp:(bD us).push u=(us++[u]).toArray)▸k,(fun d v=>bS.step (fun b o e f=>g b o (fun q=>f (.inr (.inl (by simp only [aM.mp q];exact i)))) e) (fun _ _ e=>e) (fun _ e=>.inl e) d v) _ _ (t.append (.cons r .nil))⟩
inductive An(F:Fx)(A:lL)(X:iK)(D:mS)(h:dS)(I:cY)(ds:cG):Prop
 |mk (iz:I∉F.Z) (ix:¬X I) (ib:S.heap.get? I=aF) (fp:List cY) (P:Nat→bO→Prop) (Sx:Nat→dS→Prop) (T:String) (W:Walks prog w A I fp [I] ds.length P Sx) (hc:∀i h,Sx i h→∃o,h.get? I=some o∧o.cls=.type T) (hT:xM.contains T=false) (st:Sx 0 h)
  (hf:∀b∈fp,b=I∨(b∉F.Z∧¬X b∧(∀i,lk D i≠some b)∧vI h b))
  (hP:∀i v D' Y' h',i<ds.length→P i v→(∀b o,h.get? b=some o→¬Yf F (jK [I] X) D b→h'.get? b=some o)→(∀a,Y' a→Yf F (jK [I] X) D a∨h.get? a=aF)→gQ D' Y' h' (ds.getD i .none) v):An F A X D h I ds
theorem Am.toIn{X:iK}(m:jN F X D σ h₀)(j:Am F A X D h₀ h I ds):An F A X D h I ds∧jN F (jK [I] X) D σ h∧(∀b o,h₀.get? b=some o→h.get? b=some o)∧h₀.get? I=aF:=by
 obtain ⟨k,P,Sx,T,W,f,l,d,a,g,p,r⟩:=j;have s:S.heap.get? I=aF:=by
  cases q:S.heap.get? I with
  |none=>rfl
  |some o=>rw [m.base I o q]at a;exact Lp a
 have t:∀i,lk D i≠some I:=fun i q=>((m.sep i I q).h).no a;have u:=m.addX d fun b c=>by obtain rfl:b=I:=aM.mp c;exact ⟨a,let ⟨o,e,_⟩:=f 0 h g;⟨o,e⟩⟩
 refine ⟨⟨(fun q=>((m.zfr I q).2).no a),(fun q=>(m.xal I q).no a),s,k,P,Sx,T,W,f,l,g,fun b c=>(p b c).imp id fun ⟨x,y,z,o,B⟩=>⟨x,y,z,o,d _ _ B⟩,fun i v D' Y' h' hi G H J=>r i v D' Y' h' hi G (fun b o e c=>H b o (d b o e) fun q=>?_) fun b c=>?_⟩,u,d,a⟩
 ·rcases q with q|q|q
  ·exact c (.inl q)
  ·rcases q with q|q
   ·rw [aM.mp q,a]at e;exact iE e
   ·exact c (.inr (.inl q))
  ·exact c (.inr (.inr q))
 ·rcases J b c with q|q
  ·rcases q with q|q|q
   ·exact .inl (.inl q)
   ·rcases q with q|q
    ·exact .inr (by refine (aM.mp q)▸?_;exact a)
    ·exact .inl (.inr (.inl q))
   ·exact .inl (.inr (.inr q))
  ·refine .inr ?_
   cases L:h₀.get? b with
   |none=>rfl
   |some o=>rw [d b o L]at q;exact Lp q
structure aIp(I a:cY)(F:Fx)(D:mS)(h:dS)(D':mS)(h':dS):Prop where
 keep:∀b o,h.get? b=some o→b∉(zx I (zx a F)).Z→(∀n,lk D n≠some b)→h'.get? b=some o
 ext:∀n a,lk D n=some a→lk D' n=some a
 new:∀n a,lk D' n=some a→lk D n=some a∨h.get? a=aF
 al:∀b o,b≠I→h.get? b=some o→vI h' b
inductive CbI(F:Fx)(X:iK)(D:mS)(h:dS)(I a:cY)(l:cG)(σ':St)(r:xW)(s':dI):Prop
 |mk (er:r=.ok .next) (h':dS) (ao:Nat) (D':mS) (e:s'=kD h' ao) (st:aIp I a F D h D' h') (m:jN F X D' σ' h') (ac:wW F X D' h' a l):CbI F X D h I a l σ' r s'
theorem aIp.from(x:aIp I a F D h D' h')(c:∀b o,h₀.get? b=some o→h.get? b=some o)(f:h₀.get? I=aF):pC (zx a F) D h₀ D' h':=by
 have d:∀b o,h₀.get? b=some o→b≠I:=fun b o e q=>by rw [q,f]at e;exact iE e
 refine ⟨fun b o e g hd=>x.keep b o (c b o e) (fun q=>?_) hd,x.ext,fun n b e=>?_,fun b o e=>x.al b o (d b o e) (c b o e)⟩
 ·rcases aU.mp q with q|q
  ·exact d b o e q
  ·exact g q
 ·rcases x.new n b e with q|q
  ·exact .inl q
  ·refine .inr ?_
   cases i:h₀.get? b with
   |none=>rfl
   |some o=>rw [c b o i]at q;exact Lp q
inductive CbV(F:Fx)(X:iK)(D:mS)(h:dS)(I a:cY)(ds xs l:cG)(gt:V→St→Option St)(gb:M cG)(Sx:Nat→dS→Prop)(σ':St)(j:Nat)(s':dI):Prop
 |mk (i:Nat) (h':dS) (ao:Nat) (D':mS) (τ:St) (ys zs:cG) (ej:j=ds.length+1-i) (hi:i≤ds.length) (e:s'=kD h' ao) (st:pC (zx I (zx a F)) D h D' h') (m:jN F (jK [I] X) D' τ h') (sx:Sx i h') (ac:wW F (jK [I] X) D' h' a (l++ys)) (eg:M9 gt gb (ds.drop i) τ=some (zs,σ')) (ex:xs=ys++zs):CbV F X D h I a ds xs l gt gb Sx σ' j s'
theorem Ky{X:iK}{gt:V→St→Option St}
  (fk:iY F) (ok:wI n A) (m:X a) (hZ:a∉F.Z) (hB:S.heap.get? a=aF) (hq:(Code.compLoop e d (.ref I) (.ref a) F.env).quiet=true)
  (tu:∀(K:Fin→tX)(E:sX)(s:dI),bX (model prog w) A (compTurn e d (.ref I) (.ref a) F.env) K (notedBy (model prog w) A F.env E) s→bX (model prog w) (A.under (.compLoop e d (.ref I) (.ref a) F.env)) ((model prog w).den (.compLoop e d (.ref I) (.ref a) F.env)) K E s)
  (fg:compTurn e d (.ref I) (.ref a) F.env=(lV p>>=fun _=>pyNext (.ref I)>>=fun r=>match r with
   |none=>pure (.done .next)
   |some v=>pQ tgt (.ref I) v>>=fun _=>assign tgt F.env v>>=fun _=>body>>=fun _=>again (.compLoop e d (.ref I) (.ref a) F.env)))
  (wk:An F A X D h I ds) (m1:jN F (jK [I] X) D σ h) (jy:wW F (jK [I] X) D h a l)
  (y:I9 n F tgt gt) (z:∀σ xs σ',gb σ=some (xs,σ')→CB n F a body σ xs σ') (eg:M9 gt gb ds σ=some (xs,σ')) (x:l.length+xs.length≤iC):
  kC (model prog w) A (.compLoop e d (.ref I) (.ref a) F.env) (CbI F X D h I a (l++xs) σ') (kD h tk):=by
 obtain ⟨B,ot,ku,fp,P,Sx,T,W,ec,hT,dm,G,hP⟩:=wk;have H:I≠a:=fun q=>ot (q▸m);have nI:∀b,b∉(zx I (zx a F)).Z→b∉[I]:=fun b f q=>f (by refine (aM.mp q)▸?_;exact aR);refine codeAny_loop hq (CbV F X D h I a ds xs l gt gb Sx σ') (fun j s' hj=>?_) (ds.length+1)
  ⟨0,h,tk,D,σ,[],xs,rfl,bW _,rfl,.refl,m1,dm,by simpa using jy,by simpa using eg,rfl⟩
 obtain ⟨i,h',ao,D',τ,t,zs,rfl,hi,rfl,st,m',sx,tw,g,J⟩:=hj;have ty:∀(h₁:dS),(vI h₁ I)→(∀b o,b∉[I]→h'.get? b=some o→h₁.get? b=some o)→pC (zx I (zx a F)) D' h' D' h₁:=fun h₁ o8 k=>⟨fun b o e u _=>k b o (nI b u) e,fun _ _ e=>e,fun _ _ e=>.inl e,fun b o e=>by
  by_cases q:b=I
  ·subst q;exact o8
  ·exact ⟨o,k b o (by simpa using q) e⟩⟩
 refine tu _ _ _ ?_;refine fg▸?_;refine aH (hG ?_);clear hq tu fg m1 jy;rcases tM i ds.length with lt|ge
 ·refine aH (W.item i _ _ _ lt sx fun v h₁ L sw ir k=>?_);obtain ⟨oI,N,cI⟩:=ec _ _ ir;have ae:=m'.turnX fk (fun a O=>oG O) (Et B) (Et ku) k (fun a O=>by refine (aM.mp O)▸?_;exact ⟨_,N⟩);have o9:wW F (jK [I] X) D' h₁ a (l++t):=by obtain ⟨us,c,Q,R⟩:=tw;exact ⟨us,c,k _ _ (by simpa using rN H) Q,bS.step (fun b o e f=>k b o (fun q=>f (.inr (.inl (oG q)))) e) (fun _ _ e=>e) (fun _ e=>.inl e) _ _ R⟩
  have Y:=st.trans (ty h₁ ⟨_,N⟩ k);refine aH (Hx N cI hT ?_);have hd:ds.drop i=ds.getD i .none::ds.drop (i+1):=by simp [aT,lt]
  rw [hd]at g;obtain ⟨br,e1,g⟩:=dO g;obtain ⟨mf,cb,e2,g⟩:=eG g;replace g:=eG g;obtain ⟨tz,gd,e3,g⟩:=g;cases g;have rv:gQ D' (Yf F (jK [I] X) D') h₁ (ds.getD i .none) v:=hP i v D' _ h₁ lt sw (fun b o e f=>Y.keep b o e (fun q=>by
    rcases aU.mp q with q|q
    ·exact f (.inr (.inl (oG (by simp [q]))))
    ·rcases aU.mp q with q|q
     ·exact f (.inr (.inl (pN (q▸m))))
     ·exact f (.inl q)) fun n q=>f (.inr (.inr ⟨n,q⟩))) fun b f=>by
   rcases f with q|q|⟨j,q⟩
   ·exact .inl (.inl q)
   ·exact .inl (.inr (.inl q))
   ·rcases Y.new j b q with q|q
    ·exact .inl (.inr (.inr ⟨j,q⟩))
    ·exact .inr q
  refine aH (bN (y _ _ _ e1 A (jK [I] X) D' h₁ L v ok ae rv) (fun _ g4 Z=>?_) fun _ _ q=>q.elim);obtain ⟨aw,bf,D₂,_,_,rfl,aq,bt,_,rfl⟩:=Z;refine aH (bN (z _ _ _ e2 A (jK [I] X) D₂ aw bf (l++t) ok (pN m) hZ hB bt (o9.on ae (pN m) hZ aq) (by rw [J]at x;simp at x⊢;exact bE 0x318a488120204910840c41005 x:(l++t).length+mf.length≤iC)) (fun _ sp Z=>?_) fun _ _ q=>q.elim);obtain ⟨ba,bw,D₃,rfl,c5,cz,pd⟩:=Z;have i8:=aq.zx.trans c5;have ma:∀i b,lk D' i=some b→b≠I:=fun j b e q=>(m'.sep j b e).x (oG (by simp [q]));have xo:=W.frame _ _ _ ir fun b f o e=>by
   refine i8.keep b o e ?_ ?_
   ·intro q;rcases aU.mp q with q|q
    ·rcases G b f with r|⟨_,r2,_⟩
     ·exact H (r.symm.trans q)
     ·exact r2 (q▸m)
    ·rcases G b f with rfl|⟨r,_,_⟩
     ·exact B q
     ·exact r q
   ·intro j ej;rcases G b f with rfl|⟨_,_,z2,o',z3⟩
    ·exact ma j b ej rfl
    ·rcases st.new j b ej with q|q
     ·exact z2 j q
     ·replace q:=z3▸q;cases q
  refine bC ⟨rfl,ds.length+1-(i+1),bE 0x1282902918a80150873309070ccc838507002 lt,i+1,ba,bw,D₃,_,t++mf,tz,rfl,lt,rfl,Y.trans i8.zx,cz,xo,by simpa using pd,e3,by rw [J];simp⟩
 ·obtain rfl:i=ds.length:=jD hi ge;replace g:=kP▸g;cases g;have hnI:vI h' I:=let ⟨o,e,_⟩:=ec _ _ sx;⟨o,e⟩;refine aH (W.done _ _ _ sx fun h₁ L k=>bC ?_);obtain ⟨us,c,Q,R⟩:=tw;refine ⟨rfl,h₁,L,D',rfl,?_,(m'.leave fk (Et B) (Et ku) (Et ot) k),us,c,k _ _ (by simpa using rN H) Q,?_⟩
  ·exact ⟨fun b o e u hd=>k b o (nI b u) (st.keep b o e u hd),st.ext,st.new,fun b o f e=>let ⟨o',e'⟩:=st.al b o e;⟨o',k b o' (by simpa using f) e'⟩⟩
  ·refine J▸?_;have:=bS.step (h':=h₁) (D':=D') (Y':=Yf F (jK [I] X) D') (fun b o e f=>k b o (fun q=>f (.inr (.inl (oG q)))) e) (fun _ _ e=>e) (fun _ e=>.inl e) _ _ R;simpa using (fun D' h' d v=>bS.step (fun _ _ e _=>e) (fun _ _ e=>e) (fun _ q=>.inl (Zk q)) d v:∀(D':mS)(h':dS)(d:cG)(v:gI),bS D' (Yf F (jK [I] X) D') h' d v→bS D' (Yf F X D') h' d v) _ _ _ _ this
end
noncomputable def F9{α:Type}(k:Nat):List (Nat×α)→List (Nat×α)
 |[]=>[]
 |(n,a)::r=>if n<k then (n,a)::F9 k r else F9 k r
theorem Wh{a:Type}:F9 k ([]:List (Nat×a))=([]):=rfl
theorem Wg{b:Type}{a:b}{r:List (Nat×b)}:F9 k ((n,a)::r)=(if n<k then (n,a)::F9 k r else F9 k r):=rfl
theorem Ve{d:Type}(k:Nat):∀(D:List (Nat×d))(n:Nat),lk (F9 k D) n=if n<k then lk D n else aF:=by
 intro f
 induction f with
 |nil=>intro n;simp [Wh,Wg,fN,fM]
 |cons g r b=>
  obtain ⟨m,a⟩:=g;intro n;simp only [Wh,Wg];by_cases h:m<k
  ·rw [if_pos h];simp only [fN,fM];by_cases e:n=m
   ·subst e;simp [h]
   ·simp only [if_neg e];exact b n
  ·rw [if_neg h];refine (b n)▸?_;by_cases c:n<k
   ·have:n≠m:=fun q=>h (q▸c);simp [fN,fM,this]
   ·simp [c]
def Tp(k:Nat)(σ:St):St:={σ with loc:=F9 k σ.loc}
def oD(base:Nat)(gi:M cG)(gt:V→St→Option St)(gb:M cG):M V:=fun σ=>bd (gi σ) fun ds σ=>bd (M9 gt gb ds σ) fun xs σ=>if xs.length≤lim then some (.lst xs,Tp base σ)else aF
section
variable{n:Nat}{F:Fx}
theorem An.self{X:iK}{K:sX}{E:sX}(a:An F A X D h I ds)(k:K (.ref I) (kD h tk)):bX (model prog w) A (pyIter (.ref I)) K E (kD h tk):=by refine nn fun b=>?_;obtain ⟨_,_,_,d,P,Sx,T,W,_,_,c,_,_⟩:=a;refine b ?_;exact W.self 0 _ _ _ c k
theorem D0{R:xW→tX}{s:dI}(i:gens[d]?=some g)(j:(g.is_async != 0)=false)
  (h0:kC (model prog w) A (.compLoop (.ListComp b gens scope c) d e f env) R s)
  (h:bX (model prog w) A (pyIter e) (fun a s'=>kC (model prog w) A (.compLoop (.ListComp b gens scope c) d a f env) R s') (notedBy (model prog w) A env fun x s'=>R (.error x) s') s):
  kC (model prog w) A (.compStart (.ListComp b gens scope c) d e f env) R s:=by
 refine Ee ?_;show bX _ _ ((compStart (.ListComp b gens scope c) d e f env).onRaise (fun x=>do noteFrame x env;lV theWindowsPlace)) _ _ s;refine wpAny_notedAt ?_;unfold compStart;refine (i)▸?_;refine (?_:bX _ _ (if (g.is_async != 0)=true then _ else _) _ _ s);refine j▸?_;refine (?_:bX _ _ (ask>>=_) _ _ s);refine aH (wpAny_askSetting (wpAny_ite ?_));split
 ·first
   |exact aH (bC (bC (Wv rfl h0)))
   |exact bC (Wv rfl h0)
 ·refine aH (zJ ?_);refine (?_:bX _ _ (lV g.iter.pos>>=_) _ _ s);exact aH (hG (aH (bN h (fun a s' h'=>bC (Wv rfl h')) fun _ _ x=>x)))
theorem D1(K:Fin→tX)(E:sX)(s:dI)(h:bX (model prog w) A (compTurn (.ListComp b gens scope c) d (.ref I) (.ref a) env) K (notedBy (model prog w) A env E) s):
  bX (model prog w) (A.under (.compLoop (.ListComp b gens scope c) d (.ref I) (.ref a) env)) ((model prog w).den (.compLoop (.ListComp b gens scope c) d (.ref I) (.ref a) env)) K E s:=by
 show bX _ _ ((compTurn (.ListComp b gens scope c) d (.ref I) (.ref a) env).onRaise (fun x=>do noteFrame x env;theTreesLotGoes x)) _ _ s;exact wpAny_noted h
theorem jN.into{X:iK}{base:Nat}(m:jN F X D σ h)(B:∀x q,lk F.bnd x=some q→x<base)(f:∀b o,h.get? b=some o→h'.get? b=some o)(l:h.get? C=aF){r:jX→Option bO}(t:h'.Ns C r):jN (tJ F scope cl C base names) X D σ h':=by
 have y:∀a,Yf (tJ F scope cl C base names) X D a→Yf F X D a∨h.get? a=aF:=fun a q=>by
  rcases q with q|q|q
  ·rcases aU.mp q with q|q
   ·exact .inr (q▸l)
   ·exact .inl (.inl q)
  ·exact .inl (.inr (.inl q))
  ·exact .inl (.inr (.inr q))
 have z:∀d v,gQ D (Yf F X D) h d v→gQ D (Yf (tJ F scope cl C base names) X D) h' d v:=fun d v=>gQ.step (fun b o e _=>f b o e) (fun _ _ e=>e) y d v;have ne:∀b o,h.get? b=some o→b≠C:=fun b o e q=>by rw [q,l]at e;exact iE e
 refine ⟨fun b o e=>f b o (m.base b o e),fun x v e=>?_,fun x p s e=>?_,fun i c e=>?_,m.inj,fun i a e=>?_,fun a e=>?_,fun a e=>?_⟩
 ·obtain ⟨p,s,u,j,k,G⟩:=m.loc x v e;exact ⟨p,s,u,Gq j,k.keep fun o=>f _ o,z _ _ G⟩
 ·rcases Bb B e with q|⟨_,_,rfl⟩
  ·exact (m.frm x p s q).keep fun o=>f _ o
  ·exact ⟨r,t⟩
 ·obtain ⟨a,j,k⟩:=m.cel i c e;exact ⟨a,j,k.on z (fun d v=>bS.step (fun b o e _=>f b o e) (fun _ _ e=>e) y d v) fun o=>f _ o⟩
 ·obtain ⟨a1,g,H,⟨o,A⟩,I⟩:=m.sep i a e;refine ⟨fun q=>?_,g,H,⟨o,f _ _ A⟩,I⟩;rcases aU.mp q with q|q
  ·exact ne a o A q
  ·exact a1 q
 ·rcases aU.mp e with q|q
  ·subst q;refine ⟨?_,(let ⟨o,_,_,e,_⟩:=t;⟨o,e⟩)⟩
   cases q:S.heap.get? a with
   |none=>rfl
   |some o=>exact absurd rfl (ne a o (m.base a o q))
  ·obtain ⟨a1,o,g⟩:=m.zfr a q;exact ⟨a1,o,f _ _ g⟩
 ·obtain ⟨o,g⟩:=m.xal a e;exact ⟨o,f _ _ g⟩
theorem jN.outof{X:iK}{base:Nat}(fk:iY F)(r:C∉F.Z)(t:¬X C)(y:∀x q,lk F.bnd x=some q→x<base)(m:jN (tJ F scope cl C base names) X D σ h)(f:∀b o,b≠C→h.get? b=some o→h'.get? b=some o):jN F X D (Tp base σ) h':=by
 have B:∀a,Yf F X D a→Yf (tJ F scope cl C base names) X D a∨h.get? a=aF:=fun a q=>by
  rcases q with q|q|q
  ·exact .inl (.inl (aQ _ q))
  ·exact .inl (.inr (.inl q))
  ·exact .inl (.inr (.inr q))
 have g:∀b o,h.get? b=some o→¬Yf (tJ F scope cl C base names) X D b→h'.get? b=some o:=fun b o e y=>f b o (fun q=>y (.inl (by refine q▸?_;exact aR))) e;have G:∀d v,gQ D (Yf (tJ F scope cl C base names) X D) h d v→gQ D (Yf F X D) h' d v:=fun d v=>gQ.step g (fun _ _ e=>e) B d v;refine ⟨fun b o e=>f b o (fun q=>by rw [q,((m.zfr C aR).1)]at e;exact iE e) (m.base b o e),fun x v e=>?_,fun x p s e=>?_,fun i c e=>?_,m.inj,fun i a e=>?_,fun a e=>?_,fun a e=>?_⟩
 ·have k:lk (F9 base σ.loc) x=some v:=e;simp only [Ve]at k;split at k
  ·rename_i H;obtain ⟨p,s,u,l,A,I⟩:=m.loc x v k;rcases Bb y l with q|⟨q,_,_⟩
   ·exact ⟨p,s,u,q,A.keep fun o=>f _ o (fun z=>r (z▸fk.inZ x p s q)),G _ _ I⟩
   ·exact fJ (bE Sv H q)
  ·exact iE k
 ·exact (m.frm x p s (Gq e)).keep fun o=>f _ o (fun z=>r (z▸fk.inZ x p s e))
 ·obtain ⟨a,l,A⟩:=m.cel i c e;exact ⟨a,l,A.on G (fun d v=>bS.step g (fun _ _ e=>e) B d v) fun o=>f _ o (fun z=>(m.sep i a l).z (by refine z▸?_;exact aR))⟩
 ·obtain ⟨a1,j,J,⟨o,L⟩,N⟩:=m.sep i a e;exact ⟨fun q=>a1 (aQ _ q),j,J,⟨o,f _ _ (fun z=>a1 (by refine z▸?_;exact aR)) L⟩,N⟩
 ·obtain ⟨a1,o,j⟩:=m.zfr a (aQ _ e);exact ⟨a1,o,f _ _ (fun z=>r (z▸e)) j⟩
 ·obtain ⟨o,j⟩:=m.xal a e;exact ⟨o,f _ _ (fun z=>t (z▸e)) j⟩
theorem An.up{X:iK}(t:An F A X D h I ds)(f:∀b o,h.get? b=some o→h'.get? b=some o)(g:h.get? a=aF)(j:h.get? C=aF):An (tJ F scope cl C base names) A (jK [a] X) D h' I ds:=by
 obtain ⟨u,x,y,m,P,Sx,T,W,p,z,r,s,B⟩:=t;have ne:∀b o c,h.get? b=some o→h.get? c=aF→b≠c:=fun b o c e G q=>by rw [q,G]at e;exact iE e
 obtain ⟨Z,k,_⟩:=p 0 h r;have al:∀b∈m,vI h b:=fun b d=>by
  rcases s b d with rfl|⟨_,_,_,q⟩
  ·exact ⟨_,k⟩
  ·exact q
 refine ⟨fun q=>?_,fun q=>?_,y,m,P,Sx,T,W,p,z,W.frame _ _ _ r fun b d o e=>f b o e,fun b d=>?_,fun i v D' Y' H hi J L N=>B i v D' Y' H hi J (fun b o e d=>L b o (f b o e) fun q=>?_) fun b d=>?_⟩
 ·rcases aU.mp q with q|q
  ·exact ne _ _ _ k j q
  ·exact u q
 ·rcases q with q|q
  ·exact ne _ _ _ k g (aM.mp q)
  ·exact x q
 ·refine (s b d).imp id fun ⟨O,Q,R,o,l⟩=>⟨fun q=>?_,fun q=>?_,R,o,f _ _ l⟩
  ·rcases aU.mp q with q|q
   ·exact ne _ _ _ l j q
   ·exact O q
  ·rcases q with q|q
   ·exact ne _ _ _ l g (aM.mp q)
   ·exact Q q
 ·rcases q with q|q|q
  ·rcases aU.mp q with q|q
   ·exact ne _ _ _ e j q
   ·exact d (.inl q)
  ·rcases q with q|q|q
   ·exact d (.inr (.inl (oG q)))
   ·exact ne _ _ _ e g (aM.mp q)
   ·exact d (.inr (.inl (pN q)))
  ·exact d (.inr (.inr q))
 ·rcases N b d with q|q
  ·rcases q with q|q|q
   ·rcases aU.mp q with q|q
    ·exact .inr (q▸j)
    ·exact .inl (.inl q)
   ·rcases q with q|q|q
    ·exact .inl (.inr (.inl (oG q)))
    ·exact .inr (by refine (aM.mp q)▸?_;exact g)
    ·exact .inl (.inr (.inl (pN q)))
   ·exact .inl (.inr (.inr q))
  ·refine .inr ?_
   cases Y:h.get? b with
   |none=>rfl
   |some o=>rw [f b o Y]at q;exact Lp q
end
section
variable{n:Nat}{F:Fx}
theorem ĕ{body:cY→cY→Fd Unit}{gt:V→St→Option St}
  (fk:iY F) (f:∀x q,lk F.bnd x=some q→x<base) (ca:names≠[]) (ha:(g.is_async != 0)=false)
  (pf:eval (.ListComp j (g::gs) scope k) F.env=comprehension (.ListComp j (g::gs) scope k) scope F.env pos' (newList []) false (eval g.iter F.env))
  (hf:∀x,foldedSetIterable g.iter F.env x=pure x) (di:closureFor scope F.env=pure cl) (cp:∀y∈scope.names,y.2≠.cell) (Z:scope.kind=.function)
  (cu:∀y∈scope.names,y.2=.local→scope.names.lookup y.1=some .local)
  (kx:∀C,C∉F.Z→iY (tJ F scope cl C base names))
  (fg:∀C a I,compTurn (.ListComp j (g::gs) scope k) 0 (.ref I) (.ref a) (kB scope cl C F.env)=(lV p>>=fun _=>pyNext (.ref I)>>=fun r=>match r with
   |none=>pure (.done .next)
   |some v=>pQ g.target (.ref I) v>>=fun _=>assign g.target (kB scope cl C F.env) v>>=fun _=>body C a>>=fun _=>again (.compLoop (.ListComp j (g::gs) scope k) 0 (.ref I) (.ref a) (kB scope cl C F.env))))
  (x:ŕ n F g.iter gi) (y:∀C,C∉F.Z→I9 n (tJ F scope cl C base names) g.target gt)
  (z:∀C a,C∉F.Z→∀σ xs σ',gb σ=some (xs,σ')→CB n (tJ F scope cl C base names) a (body C a) σ xs σ'):
  lM n F (.ListComp j (g::gs) scope k) (oD base gi gt gb):=fun σ v σ' e=>by
 replace e:=eG e;obtain ⟨ds,σ₁,e1,e⟩:=e;replace e:=eG e;obtain ⟨xs,am,e2,e⟩:=e;split at e
 ·rename_i dv;refine I8 e ?_;rintro rfl rfl;intro A X D h tk vs ok m _;refine (?_:bX _ _ (eval (.ListComp j (g::gs) scope k) F.env) _ _ _);refine pf▸?_;refine Ş rfl hf di Z cu (bN (x _ _ _ e1 A X D h tk ok m) (fun xv d0 h₁=>bN h₁ (fun it g4 H=>?_) fun _ _ q=>q) fun _ _ q=>q);refine nn fun J=>?_;obtain ⟨h₀,D₀,g7,me,I,d,ad,rfl,rfl,st,m₀,wk,rfl,rfl⟩:=H;obtain ⟨wi,l,t,fe⟩:=wk.toIn m₀;refine J ?_;refine uL (aIt cp (by intro y hy;simp at hy) (fun L N O=>?_) Z);dsimp only at N O⊢;generalize P:d.push {cls:=.type "list",dict:=aF,data:=.seq ([]:gI).toArray}=H2 at N O⊢;have Q:∀b o,d.get? b=some o→H2.get? b=some o:=fun b o e=>P▸dL _ _ b o e;have R:∀b o,H2.get? b=some o→L.get? b=some o:=fun b o e=>O.extBut b o (fW (dR e)) (dL _ _ b o e);have u:∀b o,d.get? b=some o→L.get? b=some o:=fun b o e=>R b o (Q b o e);have aN:d.get? d.objs.size=aF:=fE _;have T:H2.get? H2.objs.size=aF:=fE _;have W:d.get? H2.objs.size=aF:=by
   cases q:d.get? H2.objs.size with
   |none=>rfl
   |some o=>rw [Q _ _ q]at T;exact Lp T
  have t5:∀b,d.get? b=aF→h₀.get? b=aF:=fun b e=>by
   cases q:h₀.get? b with
   |none=>rfl
   |some o=>rw [t _ _ q]at e;exact Lp e
  have t7:=P▸I4 _ _;have i9:∀b,d.get? b=aF→b∉F.Z∧¬X b∧(∀i,lk D₀ i≠some b)∧S.heap.get? b=aF:=fun b e=>by
   refine ⟨fun q=>?_,fun q=>?_,fun i q=>?_,?_⟩
   ·exact ((l.zfr b q).2).no e
   ·exact (l.xal b (pN q)).no e
   ·exact ((l.sep i b q).h).no e
   ·cases q:S.heap.get? b with
    |none=>rfl
    |some o=>rw [l.base b o q]at e;exact Lp e
  refine nn fun J=>?_;obtain ⟨aZ,aX,aD,aB⟩:=i9 _ aN;obtain ⟨B,cX,cD,cB⟩:=i9 _ W;refine J ?_;have t9:d.objs.size≠H2.objs.size:=by simp only [(by simp only [←P,gS]:H2.objs.size=d.objs.size+1)];exact fW (gX _)
  have m2:=l.addX Q fun b f=>by obtain rfl:=aM.mp f;exact ⟨aN,_,t7⟩
  have wf:jN (tJ F scope cl H2.objs.size base names) (jK [I] (jK [d.objs.size] X)) D₀ σ₁ L:=(m2.into f R T N).dropX fun b q=>by
   rcases q with q|q|q
   ·exact pN (oG q)
   ·exact oG q
   ·exact pN (pN q)
  have qy:=wi.up (scope:=scope) (cl:=cl) (base:=base) (names:=names) u aN W;have wg:d.objs.size∉(tJ F scope cl H2.objs.size base names).Z:=fun q=>by
   rcases aU.mp q with q|q
   ·exact t9 q
   ·exact aZ q
  have jn:=Ky (F:=tJ F scope cl H2.objs.size base names) (tk:=ad+([]:List (jX×bO)).length) (kx _ B) ok (oG (by simp)) wg aB rfl D1 (fg _ _ I) qy wf (⟨[],0,R _ _ t7,bS.nil⟩) (y _ B) (z _ _ B) e2 (bR (by simpa using dv) oY);refine rH (D0 (g:=g) rfl ha jn (qy.self jn)) fun r s' H=>?_;obtain ⟨rfl,h',ao,D',rfl,G,m',io⟩:=H
  obtain ⟨nm,ns,yg⟩:∃a b,names=a::b:=by cases names with
   |nil=>exact absurd rfl ca
   |cons a b=>exact ⟨a,b,rfl⟩
  have pk:uK h' (.loc H2.objs.size):=m'.frm base (.loc H2.objs.size) nm (by
   refine (?_:lk (F.bnd++Y6 H2.objs.size base names) base=_);simp only [xI]
   cases q:lk F.bnd base with
   |some v=>exact absurd (f base v q) (fF _)
   |none=>refine yg▸?_;simp [Hm,Hl,fN,fM])
  obtain ⟨mm,ua⟩:=pk;refine ⟨mm,ua,fun Y j3=>?_⟩;have s:∀b o,b≠H2.objs.size→h'.get? b=some o→Y.get? b=some o:=fun b o f e=>j3.extBut b o f e;have yh:pC F D₀ h₀ D' Y:=by
   have nn:∀b o,h₀.get? b=some o→b≠I∧b≠d.objs.size∧b≠H2.objs.size:=fun b o e=>⟨fun q=>(by rw [q,fe]at e;exact iE e),fun q=>(by rw [q,t5 _ aN]at e;exact iE e),fun q=>(by rw [q,t5 _ W]at e;exact iE e)⟩;refine ⟨fun b o e hz hd=>s b o (nn b o e).2.2 (G.keep b o (u _ _ (t _ _ e)) (fun q=>?_) hd),G.ext,fun i b e=>?_,fun b o e=>?_⟩
   ·rcases aU.mp q with q|q
    ·exact (nn b o e).1 q
    ·rcases aU.mp q with q|q
     ·exact (nn b o e).2.1 q
     ·rcases aU.mp q with q|q
      ·exact (nn b o e).2.2 q
      ·exact hz q
   ·rcases G.new i b e with q|q
    ·exact .inl q
    ·refine .inr ?_
     cases q':h₀.get? b with
     |none=>rfl
     |some o=>rw [u _ _ (t _ _ q')]at q;exact Lp q
   ·obtain ⟨o',e'⟩:=G.al b o (nn b o e).1 (u _ _ (t _ _ e));exact ⟨o',s b o' (nn b o e).2.2 e'⟩
  refine ⟨Y,ao,D',Tp base am,.lst xs,rfl,st.trans yh,(jN.outof fk B cX f (m'.dropX fun b q=>pN q) s),?_,rfl,rfl⟩;obtain ⟨us,c,hu,ru⟩:=io;refine ⟨_,us,rfl,fun q=>?_,⟨c,s _ _ t9 hu⟩,?_⟩
  ·rcases q with q|q|⟨i,q⟩
   ·exact aZ q
   ·exact aX q
   ·exact (fun i q=>(m'.sep i _ q).x (oG (by simp))) i q
  ·refine bS.step (fun b o e f=>s b o (fun q=>f (.inl (by simp only [q];exact aR))) e) (fun _ _ e=>e) (fun b q=>?_) _ _ ru;rcases q with q|q|q
   ·exact .inl (.inl (aQ _ q))
   ·exact .inl (.inr (.inl (pN q)))
   ·exact .inl (.inr (.inr q))
 ·exact iE e
end
section
set_option backward.match.sparseCases false
section
variable{n:Nat}{F:Fx}
theorem į{X:iK}{gs:List (V→St→Option St)}{Q:Fl→iX}
  (fk:iY F) (ok:wI n A) (wj:e≠p) (m:jN F X D σ h₀) (G:∀b o,h₀.get? b=some o→h.get? b=some o) (B:h₀.get? e=aF) (fe:h₀.get? p=aF)
  (he:∃old,IsEnum h e p 0 old) (fz:h.IsListIter p l 0) (nl:¬Yf F X D l) (v:IsL h₀ l (bD xs) kk) (rx:bS D (Yf F X D) h₀ ds xs) (hp:eB ds=true) (g:J2 n F es gs)
  (J:Nat→iX) (hJ:J 0 σ)
  (cf:∀(i:Nat) σ',i<ds.length→J i σ'→∃σ₁,unp gs [.int i,ds.getD i .none] σ'=some σ₁∧SW k n F body σ₁ (aDa k Q (J (i+1))))
  (done:∀σ',J ds.length σ'→Q .next σ'):
  kC (model prog w) A (.forLoop (.Tuple es c tpos) (.ref e) body [] F.env) (fun r s'=>match r with|.ok f=>vH rF F X k D h₀ Q f s'|.error e=>cameBackBy (model prog w) A F.env (fun _ _=>False) e s') (kD h tk):=by
 have P:∀b,h₀.get? b=aF→b∉F.Z∧¬X b∧(∀i,lk D i≠some b)∧S.heap.get? b=aF:=fun b e=>by
  refine ⟨fun q=>?_,fun q=>?_,fun i q=>?_,?_⟩
  ·exact ((m.zfr b q).2).no e
  ·exact (m.xal b q).no e
  ·exact ((m.sep i b q).h).no e
  ·cases q:S.heap.get? b with
   |none=>rfl
   |some o=>rw [m.base b o q]at e;exact Lp e
 have y:∀b∈[e,p],h₀.get? b=aF:=fun b d=>by
  rcases aU.mp d with rfl|d
  ·exact B
  ·refine (aM.mp d)▸?_;exact fe
 have W:=WalksT.enumerate (prog:=prog) (w:=w) ok.hd e p l wj (fun q=>by simp only [q,IsL,B]at v;exact iE v) (fun q=>by simp only [q,IsL,fe]at v;exact iE v) (bD xs);replace W:=(by simp [rx.length]:(bD xs).size=ds.length)▸W;have alive:∀(i:Nat) h,((∃old,IsEnum h e p i old)∧h.IsListIter p l i∧h.IsList l (bD xs))→∀b∈[e,p],vI h b:=fun i h st b d=>by
  refine nn fun ng=>?_;obtain ⟨⟨old,a1⟩,⟨o,H,_⟩,_⟩:=st;refine ng ?_;rcases aU.mp d with rfl|d
  ·exact ⟨_,a1⟩
  ·simp only [aM.mp d];exact ⟨o,H⟩
 have R:(∃old,IsEnum h e p 0 old)∧h.IsListIter p l 0∧h.IsList l (bD xs):=⟨he,fz,IsL.isList (G _ _ v)⟩;refine I1 (Ř F X k D h₀ [e,p] ds.length (fun i h'=>(∃old,IsEnum h' e p i old)∧h'.IsListIter p l i∧h'.IsList l (bD xs)) J) (fun j s' hs=>?_) (ds.length+1)
  ⟨0,h,tk,D,σ,rfl,bW _,rfl,⟨fun b o e _ _=>G b o e,fun _ _ _ e=>e,fun _ _ e=>.inl e,fun b o e=>⟨o,G b o e⟩⟩,(m.addX G fun b d=>⟨y b d,alive 0 h R b d⟩),R,hJ⟩
 obtain ⟨i,h',ao,D',σ',rfl,hi,rfl,st,m',sx,su⟩:=hs;have I:∀b∈[e,p],b∉F.Z:=fun b d=>(P b (y b d)).1;have Y:∀b∈[e,p],S.heap.get? b=aF:=fun b d=>(P b (y b d)).2.2.2;have qw:∀b∈[e,p],¬X b:=fun b d=>(P b (y b d)).2.1;have uc:∀(h₁:dS),(∀b o,b∉[e,p]→h'.get? b=some o→h₁.get? b=some o)→Ct F k D h₀ D' h₁:=fun h₁ u=>by
  have nn:∀b o,h₀.get? b=some o→b∉[e,p]:=fun b o e q=>by rw [y b q]at e;exact iE e
  exact ⟨fun b o e hz hd=>u b o (nn b o e) (st.keep b o e hz hd),st.ext,st.new,fun b o e=>let ⟨o',e'⟩:=st.al b o e;⟨o',u b o' (nn b o e) e'⟩⟩
 rcases tM i ds.length with lt|ge
 ·refine W.item i _ _ _ lt sx ?_;clear sx;intro T ou h₁ ad sw _ hT mid u;refine W.go es c tpos i T _ _ _ mid fun s Z iu=>?_;have kv:∀b o,b∉[e,p]→h'.get? b=some o→s.get? b=some o:=fun b o d e=>iu b o d (u b o d e);have bt:=m'.turnX fk (fun a ha=>oG ha) I Y kv (alive (i+1) s Z);have aq:=uc s kv;obtain ⟨t,x,hx,rfl⟩:=sw;have L:s.IsTuple T #[.int i t,x]:=by obtain ⟨o,ho,r⟩:=hT;exact ⟨o,iu T o (W.apart i T _ mid) ho,r⟩
  obtain ⟨C,jr,tm⟩:=rx.get (by simp [aT,lt]:ds[i]?=some (ds.getD i .none));obtain rfl:C=x:=by
   have gh:xs[i]?=some x:=by simpa using hx
   replace gh:=jr▸gh;refine oQ gh ?_;rintro rfl;rfl
  have rv:gQ D' (Yf F (jK [e,p] X) D') s (ds.getD i .none) C:=by
   refine gQ.stepP (fun b o e d=>aq.keep b o e (fun q=>d (.inl q)) fun n q=>d (.inr (.inr ⟨n,q⟩))) (fun b q=>?_) _ _ (Eo hp) tm;rcases q with q|q|⟨j,q⟩
   ·exact .inl (.inl q)
   ·rcases q with q|q
    ·exact .inr (y b q)
    ·exact .inl (.inr (.inl q))
   ·rcases aq.new j b q with q|q
    ·exact .inl (.inr (.inr ⟨j,q⟩))
    ·exact .inr q
  obtain ⟨σ₁,eu,ud⟩:=cf i σ' lt su;dsimp only [assign_Tuple];refine aH (hG ?_);unfold unpack;refine g.1▸?_;have az:(pK es F.env).length=[C0 i t,C].length:=by have a1:=yG eu;have H:=g.2.1;simp at a1 H⊢;exact bE 0x1368c57a305600ac1a302 a1 H
  refine aH (cJ (pE az (fun K hK=>?_) (fun K hK=>?_) fun ba bw N=>?_))
  ·exact aH (xU L.typeIs PySem.F.slot_tuple_iter.lookup (bC hK))
  ·have ca:T≠s.objs.size:=by obtain ⟨o,ho,_⟩:=L;exact fW (dR ho)
   refine J3 L (hK _ _ [s.objs.size,T] (fun i h'=>h'.IsTupleIter s.objs.size T i∧h'.IsTuple T #[.int _ t,C]) (by simpa using (Y1 ok.hd s.objs.size T ca #[.int i t,C])) ⟨⟨_,cF _ rfl,rfl,rfl⟩,L.push _⟩ (fE _) (dL _ _))
  refine bN (g.2.2 _ _ _ eu A (jK [e,p] X) D' ba bw _ ok (bt.grow N) (.cons oK (.cons (gQ.step (fun b o e _=>N b o e) (fun _ _ e=>e) (fun _ e=>.inl e) _ _ rv) .nil))) (fun _ ab4 pp=>?_) fun _ _ q=>q.elim;obtain ⟨f5,jx,D₄,_,_,rfl,jm,jc,_,rfl⟩:=pp;refine bN (ud A (jK [e,p] X) D₄ f5 jx ok jc) (fun f ab5 pp=>?_) fun _ _ q=>q.elim;obtain ⟨dr,f9,D₅,iq,f',rfl,ue,yi,yj,yk⟩:=pp;have uf:=(jm.toK k).trans ue;have hND:∀i b,lk D' i=some b→b∉[e,p]:=fun j b O q=>(m'.sep j b O).x (oG q);have sx5:=W.frame (i+1) ba dr (W.frame _ _ _ Z fun b _ o e=>N b o e) fun b d o eo=>by
   have f8:b∈[e,p]∨b=l:=by simpa [or_assoc]using d
   refine uf.keep b o eo ?_ ?_
   ·rcases f8 with q|rfl
    ·exact I b q
    ·exact fun z=>nl (.inl z)
   ·intro j O;clear fz d mid Z alive R;rcases f8 with q|rfl
    ·exact hND j b O q
    ·rcases st.new j b O with q|q
     ·exact nl (.inr (.inr ⟨j,q⟩))
     ·rw [v]at q;exact Lp q
  exact Pf fk I Y qw ((aq.trans ((pC.grow N).toK k)).trans uf) yi yj yk lt sx5
 ·obtain rfl:i=ds.length:=jD hi ge;refine W.done _ _ _ sx fun h₁ ad u=>xV ?_;exact ⟨h₁,ad,D',σ',.next,rfl,uc h₁ u,m'.leave fk I Y qw u,J0.next,done σ' su⟩
end
end
noncomputable def Yp(env:Env):List (jX×sR)→List (jX×cY)→List (jX×cY)
 |[],cs=>cs
 |(n,k)::r,cs=>Yp env r (if (k==.free)=true then (n,(env.cells.lookup n).getD 0)::cs else cs)
theorem aCt:Yp env [] cs=(cs):=rfl
theorem aCs:Yp env ((n,k)::r) cs=(Yp env r (if (k==.free)=true then (n,(env.cells.lookup n).getD 0)::cs else cs)):=rfl
noncomputable def mD(scope:Ū)(env:Env):List (jX×cY):=Yp env scope.names []
theorem aCu(env:Env):∀(names:List (jX×sR))(cs:List (jX×cY)),(∀x∈names,(x.2==.free)=true→(env.cells.lookup x.1).isSome=true)→
  (forIn names cs fun (x:jX×sR) r=>(do
   if x.2==.free then
    let a←cellOf env x.1
    pure (zE ((x.1,a)::r))
   else pure (zE r):Fd (ForInStep (List (jX×cY)))))=pure (Yp env names cs):=by
 intro e
 induction e with
 |nil=>intro cs;intro h;rfl
 |cons f r g=>
  obtain ⟨n,k⟩:=f;intro cs;intro h;have c:=fun cs=>g cs fun x i=>h x (aQ _ i);simp only [oU];simp only [aCt,aCs];by_cases b:(k==NameKind.free)=true
  ·obtain ⟨a,d⟩:=fX.mp (h (n,k) aR b);simp only [b,if_true];simp only [(by unfold cellOf;simp only [d]:cellOf env n=pure a)];simp only [d,Option.getD_some];exact c _
  ·simp only [b];exact c _
theorem Ju(h:∀x∈scope.names,(x.2==.free)=true→(env.cells.lookup x.1).isSome=true):closureFor scope env=pure (mD scope env):=by
 show (forIn scope.names [] (fun x r=>(do
   if x.2==.free then
    let a←cellOf env x.1
    pure (zE ((x.1,a)::r))
   else pure (zE r):Fd (ForInStep (List (jX×cY)))))>>=fun r=>pure r)=pure (mD scope env)
 rw [(aCu env scope.names [] h)];rfl
theorem qP(h:tab.length≤k):∀x q,lk (wZ fd L a tab).bnd x=some q→x<k:=fun x q e=>by obtain ⟨p,s⟩:=q;obtain ⟨_,b,_⟩:=L9 e;have:=(cU.mp b).1;exact bE 0x102e3150c2a1012314cc6003 h this
theorem Ai(h:(scope.names.all fun x=> !(x.2==.free)|| (env.cells.lookup x.1).isSome)=true):closureFor scope env=pure (mD scope env):=
 Ju fun x a b=>by have:=fR.mp h x a;replace this:=b▸this;exact this
inductive B5(F:Fx)(scope:Ū)(tab:List (Nat×jX)):List (Nat×jX)→Prop where
 |nil:B5 F scope tab []
 |cons {p:Nat×jX} {r:List (Nat×jX)} (h1:p∈tab) (h2:F.env.kindOf p.2=some .cell) (h3:(relabel scope F.env).names.lookup p.2=some .cell) (h4:(mD scope F.env).lookup p.2=F.env.cells.lookup p.2) (h:B5 F scope tab r):B5 F scope tab (p::r)
theorem B5.at(x:B5 F scope tab cap):∀p∈cap,p∈tab∧F.env.kindOf p.2=some .cell∧(relabel scope F.env).names.lookup p.2=some .cell∧(mD scope F.env).lookup p.2=F.env.cells.lookup p.2:=by
 induction x with
 |nil=>exact fun p a=>by cases a
 |cons b c d e _ f=>
  intro p a;rcases aU.mp a with rfl|a
  ·exact ⟨b,c,d,e⟩
  ·exact f p a
inductive B4(F:Fx)(scope:Ū):mE→Prop where
 |nil:B4 F scope []
 |cons {s:jX} {r:mE} (h1:(relabel scope F.env).names.lookup s=some .local) (h:B4 F scope r):B4 F scope (s::r)
theorem B4.at(x:B4 F scope names):∀s∈names,(relabel scope F.env).names.lookup s=some .local:=by
 induction x with
 |nil=>exact fun p a=>by cases a
 |cons b _ c=>
  intro p a;rcases aU.mp a with rfl|a
  ·exact b
  ·exact c p a
section
variable{n:Nat}{F:Fx}{tab:List (Nat×jX)}
theorem X2{body:cY→cY→Fd Unit}{gt:V→St→Option St}
  (T:Eb F tab) (i:∀x q,lk F.bnd x=some q→x<base) (m:names≠[]) (o:names.Nodup) (s:(g.is_async != 0)=false)
  (t:eval (.ListComp c (g::gs) scope d) F.env=comprehension (.ListComp c (g::gs) scope d) scope F.env pos' (newList []) false (eval g.iter F.env))
  (u:∀x,foldedSetIterable g.iter F.env x=pure x) (A:(scope.names.all fun x=> !(x.2==.free)|| (F.env.cells.lookup x.1).isSome)=true) (B:(scope.names.all fun y=>y.2 != .cell)=true) (j:scope.kind=.function)
  (D:(scope.names.all fun y=>y.2 != .local||scope.names.lookup y.1==some .local)=true) (G:B5 F scope tab cap) (H:B4 F scope names)
  (J:∀C a I,compTurn (.ListComp c (g::gs) scope d) 0 (.ref I) (.ref a) (kB scope (mD scope F.env) C F.env)=(lV p>>=fun _=>pyNext (.ref I)>>=fun r=>match r with
   |none=>pure (.done .next)
   |some v=>pQ g.target (.ref I) v>>=fun _=>assign g.target (kB scope (mD scope F.env) C F.env) v>>=fun _=>body C a>>=fun _=>again (.compLoop (.ListComp c (g::gs) scope d) 0 (.ref I) (.ref a) (kB scope (mD scope F.env) C F.env))))
  (x:ŕ n F g.iter gi) (y:∀C,Eb (tJ F scope (mD scope F.env) C base names) (cap++Hj base names)→I9 n (tJ F scope (mD scope F.env) C base names) g.target gt)
  (z:∀C a,Eb (tJ F scope (mD scope F.env) C base names) (cap++Hj base names)→∀σ xs σ',gb σ=some (xs,σ')→CB n (tJ F scope (mD scope F.env) C base names) a (body C a) σ xs σ'):
  lM n F (.ListComp c (g::gs) scope d) (oD base gi gt gb):=by
 have f:∀C,C∉F.Z→Eb (tJ F scope (mD scope F.env) C base names) (cap++Hj base names):=fun C b=>Vn T j b o i G.at H.at;refine ĕ T.fk i m s t u (Ai A) (fun y h=>?_) j (fun y h L=>?_) (fun C b=>(f C b).fk) J x (fun C b=>y C (f C b)) (fun C a b=>z C a (f C b))
 ·have:=fR.mp B y h;intro e;replace this:=e▸this;exact absurd this (by decide)
 ·have:=fR.mp D y h;replace this:=L▸this
  cases l:scope.names.lookup y.1 with
  |none=>rw [l]at this;exact absurd this (by decide)
  |some k=>rw [l]at this;cases k<;>first|rfl|exact absurd this (by decide)
end
section
variable{n:Nat}{F:Fx}{tab:List (Nat×jX)}
end
def aCl:qR:=fun us σ=>aI (fun a=>aI fun b=>aN (some (.int (if a<b then b else a),σ))) us
section
variable{n:Nat}{F:Fx}
theorem χ:B2 n F (.builtin "max") aCl:=fun us σ r σ' e=>by
 refine Bz e fun a _ e=>?_;refine Bz e fun b _ e=>?_;refine pM e fun e=>?_;intro A X D h tk vs ok m r;obtain ⟨_,_,rfl,⟨t,rfl⟩,_,_,rfl,⟨g,rfl⟩,d⟩:=r;cases d;refine max_two_ints ok.hd fun h' f c=>⟨h',f,D,σ,_,rfl,pC.grow c,m.grow c,?_,.of e⟩;by_cases q:a<b
 ·rw [if_pos q,if_pos q];exact oK
 ·rw [if_neg q,if_neg q];exact oK
end
theorem Vf:∀{l:lT}{s:jX}{v:V},oM l s=some v→(s,v)∈l:=by
 intro a
 induction a with
 |nil=>intros;first|contradiction|(rename_i h;cases h;done)
 |cons b r c=>
  obtain ⟨x,u⟩:=b;intro s;intro v;intro e;simp only [Hw,Hv]at e;split at e
  ·rename_i q;refine oQ e ?_;rintro rfl;subst q;exact aR
  ·exact aQ _ (c e)
def rQ(name:jX)(g:M V):M V:=fun σ=>bd (g σ) fun o σ=>ob (Yr o) fun n=>aA σ n fun as=>ob (oM as name) fun v=>if Jh v=true then some (v,σ)else aF
structure Gb(K:Aq)(name:jX):Prop where
 get:plainGet K yA name=true
 dict:hasDictIn K yA=true
 own:∃pt,findIn K (.ref yA) name=some pt∧noGet K pt=true
theorem X4{Y:iK}(a:Jh v=true)(r:gQ D Y h v u):handedIn u=true:=by cases v<;>first|(subst r;rfl)|(obtain ⟨_,rfl⟩:=r;rfl)|(obtain ⟨_,_,rfl,_⟩:=r;rfl)|(obtain ⟨_,rfl,_⟩:=r;rfl)|(simp [Jh]at a)
theorem L2{h:dS}{a:cY}{m:jX→Option bO}(b:h.Ns a m)(name:jX):∃od,h.get? a=some od∧lookIn name od=some (m name):=by
 refine nn fun c=>?_;obtain ⟨o,es,l,d,hd,f,g⟩:=b;refine c ?_;refine ⟨o,d,?_⟩;have:=g name;unfold lookIn;refine hd▸?_;simp only [nsFind,findBy,←Array.find?_toList]at this;dsimp only
 cases q:es.toList.find? (·.key.isStr name)with
 |none=>simp only [q,Option.map_none]at this;refine this▸?_;rw [if_neg];intro z;rw [zN]at z;obtain ⟨e,i,j⟩:=z;obtain ⟨n,t,k⟩:=f e (Array.mem_toList_iff.mp i);simp [DictEntry.refKey,k]at j
 |some e=>simp only [q,Option.map_some]at this;simp only [←this]
section
variable{n:Nat}{F:Fx}{K:Aq}
theorem aC6{X:iK}{tk:Nat}{i:Nat}{g:Bool}{Kk:sX}(j:K.In S.heap)(c:Gb K name)(m:jN F X D σ h)(l:lk σ.cells i=some (.attrs as))(p:(name,v)∈as)(s:Jh v=true)(r:gQ D (Yf F X D) h (.inst i) o)
  (k:∀u t,gQ D (Yf F X D) h v u→Kk u (kD h t)):bX (model prog w) A (getAttr o name g) Kk (fun _ _=>False) (kD h tk):=by
 refine nn fun b=>?_;obtain ⟨a,x,rfl,nx,y,z⟩:=r;obtain ⟨L,d,N,B,O,C⟩:=m.cel i _ l;refine b ?_;replace d:=y▸d;refine oQ d ?_;rintro rfl;obtain ⟨u,G,e⟩:=C _ p;refine nn fun b=>?_;obtain ⟨P,H,I⟩:=c.own;obtain ⟨od,J,f⟩:=L2 B.ns name;refine b ?_;simp only [G]at f;refine get_value (j.keeps m.base) ⟨z,rfl,rfl,J⟩ (plainGet_of c.get).1 (findObj_own c.dict H I f) (X4 s e) (k u _ e)
theorem lB(b:K.In S.heap)(c:Gb K name)(x:lM n F (.Name s p) g):lM n F (.Attribute (.Name s p) name d) (rQ name g):=fun σ v σ' q=>by refine nn fun e=>?_;obtain ⟨o,σ₁,f,q⟩:=eG q;replace q:=aDw q;obtain ⟨i,rfl,j⟩:=q;obtain ⟨as,k,l⟩:=á j;obtain ⟨H,t,y⟩:=dO l;obtain ⟨z,B⟩:=iS y;refine e ?_;intro A X D h tk vs ok m _;refine (?_:bX _ _ (eval (.Name s p) F.env>>=fun o=>lV d.atName>>=fun _=>holding [o] (getAttr o name true)>>=fun r=>letTemporaryGo (.Name s p) o r>>=fun _=>pure r) _ _ _);refine aH (TW.atE (x _ _ _ f) ok m bS.nil ?_);rintro u h₁ I D₁ st a r;refine aH (hG (aH (cJ (aC6 b c a k (Vf t) z r fun J C G=>?_))));exact aH (bC (bC ⟨h₁,C,D₁,_,_,rfl,st,a,G,.of B⟩))
end
section
set_option backward.match.sparseCases false
def qW:gC→Prop
 |.attrs as=>∀p∈as,p.2.pure=true
 |.mat _=>True
 |_=>False
theorem jB.P{Y Y':iK}(f:qW c)(i:∀b o,h.get? b=some o→¬Y b→h'.get? b=some o)(j:∀o,h.get? a=some o→h'.get? a=some o)(k:∀a,Y' a→Y a∨h.get? a=aF)(x:jB D Y h a c):jB D' Y' h' a c:=by
 cases c with
 |list l=>exact f.elim
 |dict ks vs=>exact f.elim
 |attrs as=>obtain ⟨m,g,le,y⟩:=x;exact ⟨m,g.at j,le,fun p d=>let ⟨u,e,z⟩:=y p d;⟨u,e,gQ.stepP i k _ _ (f p d) z⟩⟩
 |mat r=>obtain ⟨as,ok,m,g,le,y⟩:=x;exact ⟨as,ok,m,g.at j,le,fun p d=>let ⟨u,e,z⟩:=y p d;⟨u,e,gQ.stepP i k _ _ (ok.pure p d) z⟩⟩
theorem ò{X:iK}(m:jN F X D σ h)(k:Nat)(e:Jm (rJ vP k σ.cells) c=some r)(x:jB D (Yf F X D) h a c):jB (tK k D) (Yf F X (tK k D)) h a r:=by
 have d:=fun v s u=>Db m k vP v s u
 cases c with
 |list l'=>obtain ⟨j,b,rfl⟩:=cP.mp e;refine nn fun f=>?_;obtain ⟨xs,g,i⟩:=x;refine f ?_;exact ⟨xs,g,oE d b i⟩
 |dict ks l'=>obtain ⟨j,b,rfl⟩:=cP.mp e;obtain ⟨xs,g,i⟩:=x;exact ⟨xs,g,oE d b i⟩
 |attrs as=>obtain ⟨j,b,rfl⟩:=cP.mp e;obtain ⟨l,t,y,z⟩:=x;refine ⟨l,t,y,fun p A=>?_⟩;refine nn fun f=>?_;obtain ⟨v,c1,c2⟩:=Pb b A;obtain ⟨u,B,C⟩:=z _ c1;refine f ?_;exact ⟨u,B,d _ _ _ c2 C⟩
 |mat l=>
  refine oQ e ?_;rintro rfl;exact jB.P trivial (fun _ _ e _=>e) (fun _ e=>e) (fun a q=>by
   rcases q with q|q|⟨n,q⟩
   ·exact .inl (.inl q)
   ·exact .inl (.inr (.inl q))
   ·simp only [qZ]at q;split at q
    ·exact .inl (.inr (.inr ⟨n,q⟩))
    ·exact iE q) x
theorem aCx{Y:iK}(f:qW c)(r:jB D Y h a c)(i:h.get? x=some (instObj C j)):x≠a:=by
 have g:∀m,h.Ns1 a m→x≠a:=fun m b e=>by obtain ⟨o,es,k,d,hd,_⟩:=b;replace d:=e▸d;replace d:=i▸d;refine oQ d ?_;rintro rfl;cases hd
 cases c with
 |list l=>exact f.elim
 |dict ks vs=>exact f.elim
 |attrs as=>obtain ⟨m,b,_⟩:=r;exact g m b
 |mat p=>obtain ⟨_,_,m,b,_⟩:=r;exact g m b
inductive aDb(Y:iK)(h:dS)(c:cY)(P:gC→V→Prop)(v:bO)(s':dI):Prop
 |mk (h':dS) (ao:Nat) (c1:gC) (r:V) (e:s'=kD h' ao) (k:∀b o,b≠c→h.get? b=some o→h'.get? b=some o) (x:vI h' c) (pc:qW c1) (p:r.pure=true) (cr:jB [] (jK [c] Y) h' c c1) (l:gQ [] (jK [c] Y) h' r v) (q:P c1 r):aDb Y h c P v s'
def tL(n:Nat)(f:bO)(c0:gC)(ds:cG)(P:gC→V→Prop):Prop:=
 ∀A (Y:iK) h tk x c vs,wI n A→(∀b o,S.heap.get? b=some o→h.get? b=some o)→(∀a,Y a→vI h a)→¬Y c→S.heap.get? c=aF→¬Y x→h.get? x=some (instObj yA c)→jB [] (jK [c] Y) h c c0→bS [] (jK [c] Y) h ds vs→
  bX (model prog w) A (call f (.ref x::vs)) (aDb Y h c P) (fun _ _=>False) (kD h tk)
def Ys(n:Nat)(f:bO)(c0:gC)(ds:cG)(P:gC→V→Prop):Prop:=
 ∀A (Y:iK) h tk x c vs,wI n A→(∀b o,S.heap.get? b=some o→h.get? b=some o)→(∀a,Y a→vI h a)→¬Y c→S.heap.get? c=aF→¬Y x→h.get? x=some (instObj yA c)→jB [] (jK [c] Y) h c c0→bS [] (jK [c] Y) h ds vs→
  kC (model prog w) A (.call f ⟨.ref x::vs,[]⟩) (wants (aDb Y h c P) (fun _ _=>False)) (kD h tk)
theorem Ys.c{P:gC→V→Prop}(x:Ys n f c0 ds P):tL n f c0 ds P:=fun A Y h tk a c vs a1 b d e g i j k l=>kA (x A Y h tk a c vs a1 b d e g i j k l)
def ř(P:gC→V→Prop):Fl→iX:=fun f σ'=>match f with
 |.ret v=>∃c1 i6 r,lk σ'.cells 0=some c1∧Jm (rJ vP 1 σ'.cells) c1=some i6∧qW i6∧rJ vP 1 σ'.cells v=some r∧r.pure=true∧P i6 r
 |.next=>∃c1 i6,lk σ'.cells 0=some c1∧Jm (rJ vP 1 σ'.cells) c1=some i6∧qW i6∧P i6 .none
 |_=>False
section
variable{n:Nat}{fd:uN}{tab:mE}{fa:cY}{o:wJ}{body:List uM}{ds:cG}{P:gC→V→Prop}{c0:gC}
theorem L7(d:lU fd tab)(jv:S.heap.get? fa=some o)(dg:o.data=.func fd)(dv:S.heap.NoLimit)(jh:S.heap.CodeRec fd.code fd.qualname)(dh:fd.body=.stmts body)
(uh:∀D Y h,bS D Y h dds dvs) (c9:∀h tk (vs:gI),(∀b o,S.heap.get? b=some o→h.get? b=some o)→vs.length=ds.length+1→BindsTo (kD h tk) fd ⟨vs,[]⟩ ((tab.take (.inst 0::(ds++dds):cG).length).zip (vs++dvs))) (az:(.inst 0::(ds++dds):cG).length≤tab.length) (G:qW c0)
  (hb:∀L,SW 1 n (wZ fd L fa tab) body ⟨Bh 0 (.inst 0::(ds++dds)),[(0,c0)],1⟩ (ř P)) (hp:eB ds=true):Ys (n+1) (.ref fa) c0 ds P:=by
 intro A Y h tk x c vs ok R hY ym ui yo T cr W;obtain ⟨oc,X⟩:vI h c:=by
  have Z:∀m,h.Ns1 c m→vI h c:=fun m ⟨o,_,_,ho,_⟩=>⟨o,ho⟩
  cases c0 with
  |list l=>exact G.elim
  |dict ks vs=>exact G.elim
  |attrs as=>obtain ⟨m,H,_⟩:=cr;exact Z m H
  |mat mm=>obtain ⟨_,_,m,H,_⟩:=cr;exact Z m H
 have l0:∀i a,lk [(0,c)] i=some a→i=0∧a=c:=fun i a q=>by
  simp only [fN,fM]at q;split at q
  ·refine oQ q ?_;rintro rfl;exact ⟨by assumption,rfl⟩
  ·exact iE q
 have t:∀(env:Env) a,Yf (F0 env) Y [(0,c)] a→jK [c] Y a∨h.get? a=aF:=fun env a q=>by
  rcases q with q|q|⟨i,q⟩
  ·cases q
  ·exact .inl (.inr q)
  ·exact .inl (.inl (by simp only [(l0 i a q).2];exact aM.mpr rfl))
 have m0:jN (F0 (callEnvC fd h.objs.size fa)) Y [(0,c)] ⟨[],[(0,c0)],1⟩ h:=by
  refine ⟨R,fun x v q=>by simp [fN,fM]at q,fun x p s q=>by simp [F0,fN,fM]at q,fun i c' q=>?_,fun i j a q q'=>by simp only [(l0 i a q).1,(l0 j a q').1],fun i a q=>?_,fun a q=>(by cases q),hY⟩
  ·simp only [fN,fM]at q;split at q
   ·rename_i e;refine oQ q ?_;rintro rfl;exact ⟨c,by simp [fN,fM,e],cr.P G (fun _ _ e _=>e) (fun _ e=>e) (t _)⟩
   ·exact iE q
  ·obtain ⟨rfl,rfl⟩:=l0 i a q;exact ⟨fun z=>(by cases z),ym,ui,⟨oc,X⟩,Nq⟩
 have q7:bS [(0,c)] (Yf (F0 (callEnvC fd h.objs.size fa)) Y [(0,c)]) h (.inst 0::(ds++dds)) (.ref x::vs++dvs):=by
  refine .cons ?_ ((bS.stepP (fun _ _ e _=>e) (t _) _ _ hp W).append (uh _ _ _));refine ⟨c,x,rfl,fun q=>?_,by rfl,T⟩;rcases q with q|q|⟨i,q⟩
  ·cases q
  ·exact yo q
  ·exact (aCx G cr T) (l0 i x q).2
 refine ĺ (ds:=.inst 0::(ds++dds)) d jv dg dv jh dh (c9 _ _ _ R (by simp [(W.length)])) az ok m0 q7 fun h₁ ad hk hz m ow=>?_;refine bN (hb h.objs.size _ Y [(0,c)] h₁ ad ow m) (fun f s' p=>?_) fun _ _ z=>z;obtain ⟨h',ao,D',σ',f',rfl,st,m',r,q⟩:=p;have jk:∀b o,b≠c→h.get? b=some o→h'.get? b=some o:=fun b o I e=>st.keep b o (hk b o e) (fun z=>by rw [hz b z]at e;exact iE e) (fun i z=>I (l0 i b z).2);have u:lk D' 0=some c:=st.ext 0 c Nq (by rfl);have mi:∀a,jK [c] Y a→Yf (wZ fd h.objs.size fa tab) Y (tK 1 D') a∨h'.get? a=aF:=fun a z=>by
  rcases z with z|z
  ·rw [aM.mp z];exact .inl (.inr (.inr ⟨0,by rw [qZ,if_pos Nq];exact u⟩))
  ·exact .inl (.inr (.inl z))
 obtain ⟨y,uj⟩:=st.al c oc (hk c oc X);have fin:∀c1 g,lk σ'.cells 0=some c1→Jm (rJ vP 1 σ'.cells) c1=some g→qW g→jB [] (jK [c] Y) h' c g:=fun c1 g B C k=>by obtain ⟨a,J,z2⟩:=m'.cel 0 c1 B;replace J:=u▸J;refine oQ J ?_;rintro rfl;exact (ò m' 1 C z2).P k (fun _ _ e _=>e) (fun _ e=>e) mi
 cases r with
 |brk=>exact q.elim
 |cont=>exact q.elim
 |next=>refine nn fun N=>?_;obtain ⟨c1,g,B,C,k,O⟩:=q;refine N ?_;exact ⟨h',ao,g,.none,rfl,jk,⟨y,uj⟩,k,rfl,fin c1 g B C k,rfl,O⟩
 |ret r=>refine nn fun N=>?_;obtain ⟨c1,g,r',B,C,k,e5,e6,O⟩:=q;refine N ?_;exact ⟨h',ao,g,r',rfl,jk,⟨y,uj⟩,k,e6,fin c1 g B C k,gQ.stepP (fun _ _ e _=>e) mi _ _ e6 (Db m' 1 vP _ _ _ e5 r),O⟩
theorem yJ(d:lU fd tab)(a:S.heap.get? fa=some o)(b:o.data=.func fd)(c:S.heap.NoLimit)(e:S.heap.CodeRec fd.code fd.qualname)(f:fd.body=.stmts body)
  (g:∀vs:gI,vs.length=ds.length+1→bindArgs fd ⟨vs,[]⟩=pure ((tab.take (ds.length+1)).zip vs)) (i:ds.length+1≤tab.length) (j:qW c0)
  (k:∀L,SW 1 n (wZ fd L fa tab) body ⟨Bh 0 (.inst 0::ds),[(0,c0)],1⟩ (ř P)) (l:eB ds=true):tL (n+1) (.ref fa) c0 ds P:=
 (L7 d a b c e f (fun _ _ _=>.nil) (fun h tk vs _ m=>by rw [bP,bP];exact aFp (g vs m)) (by rw [bP];exact i) j (by rw [bP];exact k) l).c
end
section
variable{n:Nat}{F:Fx}{σ:St}{Q:V→iX}
theorem El{P:gC→V→Prop}(fk:iY F)(e:lk σ.cells i=some c0)(y:qW c0)(B:eB ds=true)(c:tL n f c0 ds P)(q:∀c1 r,qW c1→r.pure=true→P c1 r→Q r {σ with cells:=lQ i c1 σ.cells}):
  TW rV n F (.inst i::ds) (fun vs=>call f vs) σ Q:=fun A X D h tk vs ok m r=>by
 obtain ⟨u,us,rfl,C,G⟩:=r;obtain ⟨a,x,rfl,nx,d,H⟩:=C;obtain ⟨Y,g,cr⟩:=m.cel i c0 e;replace g:=d▸g;refine oQ g ?_;rintro rfl;obtain ⟨Z,s2,I,s4,s5⟩:=m.sep i a d;have j:∀b,jK [a] (fun b=>Yf F X D b∧b≠a) b→Yf F X D b∨h.get? b=aF:=fun b z=>by
  rcases z with z|z
  ·rw [aM.mp z];exact .inl (.inr (.inr ⟨i,d⟩))
  ·exact .inl z.1
 have k:∀(h':dS) b,Yf F X D b→jK [a] (fun b=>Yf F X D b∧b≠a) b∨h'.get? b=aF:=fun h' b z=>by
  by_cases q:b=a
  ·exact .inl (.inl (by simp only [q];exact aM.mpr rfl))
  ·exact .inl (.inr ⟨z,q⟩)
 refine bN (c A (fun b=>Yf F X D b∧b≠a) h tk x a us ok m.base (fun b z=>(fun b=>m.yal) b z.1) (fun z=>z.2 rfl) I (fun z=>nx z.1) H (cr.P y (fun _ _ e _=>e) (fun _ e=>e) j) (bS.stepP (fun _ _ e _=>e) j _ _ B G)) (fun v s' p=>?_) fun _ _ z=>z;obtain ⟨h',J,c1,l,rfl,L,N,s,t,O,R,T⟩:=p;obtain ⟨m',st⟩:=m.turn2 fk d (fun b o W e=>L b o W e) N (O.P s (fun _ _ e _=>e) (fun _ e=>e) (k h'));exact ⟨h',J,D,_,l,rfl,st,m',gQ.stepP (fun _ _ e _=>e) (k h') _ _ t R,q c1 l s t T⟩
end
end
section
set_option backward.match.sparseCases false
open PySem PySem.W PyProof.Rows Builtin Builtin.ObjectAttr
noncomputable def yX(s:jX):lT→lT
 |[]=>[]
 |(x,v)::r=>if x=s then yX s r else (x,v)::yX s r
theorem M8:yX s []=([]):=rfl
theorem M7:yX s ((x,v)::r)=(if x=s then yX s r else (x,v)::yX s r):=rfl
def jZ(s:jX)(v:V)(l:lT):lT:=(s,v)::yX s l
theorem tG:∀{l:lT},p∈yX s l→p∈l∧p.1≠s:=by
 intro b
 induction b with
 |nil=>intro h;cases h
 |cons c r a=>
  obtain ⟨x,v⟩:=c;intro h;simp only [M8,M7]at h;split at h
  ·exact ⟨aQ _ (a h).1,(a h).2⟩
  ·rename_i e;rcases aU.mp h with rfl|h
   ·exact ⟨aR,e⟩
   ·exact ⟨aQ _ (a h).1,(a h).2⟩
theorem tI:∀{l:lT},t≠s→oM (yX s l) t=oM l t:=by
 intro b
 induction b with
 |nil=>intro h;exact rfl
 |cons c r a=>
  obtain ⟨x,v⟩:=c;intro h;simp only [M8,M7];by_cases e:x=s
  ·subst e;rw [if_pos rfl,a h];simp [Hw,Hv,h]
  ·refine (if_neg e)▸?_;simp only [Hw,Hv];by_cases q:t=x
   ·simp [q]
   ·simp only [if_neg q];exact a h
theorem mL:oM (jZ s v l) t=if t=s then some v else oM l t:=by
 by_cases e:t=s
 ·simp [jZ,Hw,Hv,e]
 ·refine (if_neg e)▸?_;refine (tI (l:=l) e)▸?_;simp [jZ,Hw,Hv,e]
theorem nsC{Y:iK}(d:(∃as,c=.attrs as)∨∃m,c=.mat m)(x:jB D Y h a c):∃m,h.Ns1 a m∧Within m sH:=by
 rcases d with ⟨as,rfl⟩|⟨m,rfl⟩
 ·obtain ⟨m,b,le,_⟩:=x;exact ⟨m,b,le⟩
 ·obtain ⟨_,_,m,b,le,_⟩:=x;exact ⟨m,b,le⟩
structure Ix(K:Aq)(name:jX)(f:cY):Prop where
 get:plainGet K yA name=true
 find:findIn K (.ref yA) name=some (some (.ref f))
 typ:typeIn K (.ref f)=some (.type "function")
 own:name∉sH
 fn:∃o fd,S.heap.get? f=some o∧o.data=.func fd
structure D4(K:Aq)(name:jX):Prop where
 set:findIn K (.ref yA) "__setattr__"=some (some (.builtin "object.__setattr__"))
 over:plainOver K yA=true
 take:takerIn K yA name=some aF
 dict:(clsIn K yA).any (·.hasDict)=true
 own:name∈sH
def Dv(name:jX)(go:M V)(v:V)(σ:St):Option St:=bd (go σ) fun o σ=>ob (Yr o) fun i=>aA σ i fun as=>some {σ with cells:=lQ i (.attrs (jZ name v as)) σ.cells}
noncomputable def aBd:gC→Bool
 |.attrs _=>true
 |.mat _=>true
 |_=>false
theorem aBc(h:aBd c=true):(∃as,c=.attrs as)∨∃m,c=.mat m:=by
 cases c<;>first|cases h|skip
 ·exact .inl ⟨_,rfl⟩
 ·exact .inr ⟨_,rfl⟩
def Y9(d:Cu)(go:M V)(ga:M cG):M V:=fun σ=>bd (go σ) fun o σ=>match o with
 |.inst i=>ob (lk σ.cells i) fun c=>if aBd c=true then bd (ga σ) fun us σ=>ob (lk σ.cells i) fun c0=>if eB us=true then ob (d c0 us) fun x=>some (x.2,{σ with cells:=lQ i x.1 σ.cells})else aF else aF
 |_=>aF
section
variable{n:Nat}{F:Fx}{K:Aq}
theorem Sd{E:sX}{s:dI}{m:jX→Option bO}{Q:Unit→tX}(X:K.In s.heap)(c:D4 K name)(f:s.heap.get? x=some (instObj yA a))(g:s.heap.Ns1 a m)(hw:Within m sH)
  (q:∀h' i,h'.Ns1 a (fun y=>if y=name then some v else m y)→qI a s.heap h'→Q () {s with heap:=h',toks:=i}):bX (model prog w) A (setAttr (.ref x) name v) Q E s:=by
 refine nn fun d=>?_;obtain ⟨od,j,_⟩:=L2 g.ns name;refine d ?_;have I:InstAt s.heap x (instObj yA a) yA (some od):=⟨f,rfl,rfl,j⟩;refine set_plain X I c.set (osa_open X I c.over c.take fun b=>?_);refine nn fun d=>?_;obtain ⟨z,k,hd⟩:=any_some c.dict;refine d ?_;refine aH (bC (aH (aH (wpAny_loadPart f (aH (Looks.here (looks_clsIn X k) ?_))))));simp only [hd];refine bC (aH (bC (aH (wpAny_nsSet1 g fun h' h l=>?_))));have o:Within (fun y=>if y=name then some v else m y) sH:=fun y p=>by
  by_cases e:y=name
  ·refine e▸?_;exact c.own
  ·exact hw y (by simpa only [if_neg e]using p)
 refine nn fun d=>?_;obtain ⟨B,es,C,r,t,u⟩:=h.count o;refine d ?_;refine aH (wpAny_lookBehind r (by refine t▸?_;exact pastItsLine_dict (bR u (by decide))) (bC ?_));exact q h' _ h l
theorem lA(C:K.In S.heap)(fk:iY F)(c:D4 K name)(x:lM n F (.Name s p) G):I9 n F (.Attribute (.Name s p) name ah) (Dv name G):=fun σ v σ' q=>by
 obtain ⟨o,σ₁,d,q⟩:=eG q;revert d;refine â q fun i q d=>?_
 ·obtain ⟨as,H,q⟩:=á q
  ·refine oQ q ?_;rintro rfl;intro A X D h tk u ok m I;refine aH (cJ (TW.atE (x _ _ _ d) ok m bS.nil ?_));rintro ov h₁ ad D₁ st f r;obtain ⟨a,xx,rfl,nx,l,J⟩:=r;refine nn fun g=>?_;obtain ⟨a',j,mm,L,t,N⟩:=f.cel i _ H;refine g ?_;replace j:=l▸j;refine oQ j ?_;rintro rfl;refine aH (hG (aH (cJ (Sd (C.keeps f.base) c J L t fun h' O z P=>?_))));obtain ⟨m',Q⟩:=f.turn (c:=.attrs (jZ name v as)) fk l (fun b o R e=>(P.2 b R).trans e) (let ⟨o,_,_,T,_⟩:=z;⟨o,T⟩) (fun Y' B d7=>⟨_,z,fun y W=>by
    by_cases e:y=name
    ·refine e▸?_;exact c.own
    ·exact t y (by simpa only [if_neg e]using W),fun p' k=>by
     rcases aU.mp k with rfl|k
     ·exact ⟨u,by simp,B _ _ (I.on m st)⟩
     ·obtain ⟨Y,Z⟩:=tG k;refine nn fun g=>?_;obtain ⟨u',d1,d2⟩:=N _ Y;refine g ?_;exact ⟨u',by simp [Z,d1],B _ _ d2⟩⟩)
   exact Ja ⟨h',O,D₁,_,(),rfl,st.trans Q,m',trivial,rfl⟩
theorem xQ{Q:V→iX}(L:K.In S.heap)(c:Ix K name f)
  (N:eval (.Call (.Attribute o name y) args [] g) F.env=(do
   let B←eval o F.env
   lV y.atName
   let (f,first)←holding [B] (getMethod B name pl)
   mW g f first (backTo g (eC args F.env)) []))
  (O:oW F args)
  (x:EW n F o σ fun u σ₁=>∃i c0,u=.inst i∧lk σ₁.cells i=some c0∧((∃as,c0=.attrs as)∨∃m,c0=.mat m)∧Zc n F g args σ₁ fun us C=>TW rV n F (.inst i::us) (fun vs=>call (.ref f) vs) C Q):EW n F (.Call (.Attribute o name y) args [] g) σ Q:=fun A X D h tk vs ok m _=>by
 refine aIu (x.at ok m bS.nil fun a h₁ ad D₁ σ₁ u P j G k=>?_) N;refine nn fun d=>?_;obtain ⟨i,c0,rfl,R,l,k⟩:=k;refine d ?_;have T:=G;obtain ⟨b,W,rfl,nx,Y,Z⟩:=G;obtain ⟨b',r,cr⟩:=j.cel i _ R;replace r:=Y▸r;refine oQ r ?_;rintro rfl;refine nn fun d=>?_;obtain ⟨H,hn,hw⟩:=nsC l cr;obtain ⟨od,ug,hl⟩:=L2 hn.ns name;refine d ?_;have s:H name=aF:=by
  cases q:H name with
  |none=>rfl
  |some z=>exact absurd (hw name (by refine q▸?_;intro z;exact Lp z)) c.own
 refine nn fun d=>?_;obtain ⟨of,fd,t,v⟩:=c.fn;refine d ?_;refine method_fn (od:=some od) (L.keeps j.base) ⟨Z,rfl,rfl,ug⟩ (plainGet_of c.get).1 (plainGet_of c.get).2 c.find c.typ (by refine (?_:(lookIn name od).map _=_);refine hl▸?_;refine s▸?_;rfl) ?_;refine Ri (o:=of) (fd:=fd) (rG O k ok j fun us aw bf D₂ C ds I J c7 dp=>?_);exact ⟨⟨J.base _ _ t,v⟩,bN (dp A X D₂ aw bf (.ref W::us) ok J (.cons (gQ.on j I T) c7)) (fun _ _ p=>p.on (P.trans I)) fun _ _ e=>e⟩
theorem xL{d:Cu}(j:K.In S.heap)(fk:iY F)(c:Ix K name f)
  (hd:∀c0 us c1 r,eB us=true→d c0 us=some (c1,r)→qW c0∧tL n (.ref f) c0 us (fun c k=>c=c1∧k=r))
  (x:lM n F o l) (m:oW F args) (y:zH n F a args p)
  (s:eval (.Call (.Attribute o name g) args [] a) F.env=(do
   let b←eval o F.env
   lV g.atName
   let (f,first)←holding [b] (getMethod b name H)
   mW a f first (backTo a (eC args F.env)) [])):lM n F (.Call (.Attribute o name g) args [] a) (Y9 d l p):=fun σ v σ' q=>by
 replace q:=eG q;obtain ⟨b,σ₁,t,q⟩:=q;split at q
 ·rename_i i;replace q:=dO q;obtain ⟨u,z,q⟩:=q;split at q
  case isFalse=>(exact iE q)
  rename_i A;replace q:=eG q;obtain ⟨us,I,B,q⟩:=q;replace q:=dO q;obtain ⟨c0,C,q⟩:=q;split at q
  ·rename_i h;replace q:=dO q;obtain ⟨⟨c1,r⟩,e,q⟩:=q;refine I8 q ?_;rintro rfl rfl;refine xQ j c s m ((x _ _ _ t).mono ?_);refine mR ?_;refine ⟨i,u,rfl,z,aBc A,TW.mono (y _ _ _ B) ?_⟩;refine mR ?_;replace e:=hd c0 us c1 r h e;obtain ⟨D,G⟩:=e;refine El fk C D h G ?_;rintro _ _ _ _ ⟨rfl,rfl⟩;exact ⟨rfl,rfl⟩
  ·exact iE q
 ·exact iE q
end
end
noncomputable abbrev K0(id:String)(self:bO):wJ:={cls:=.type "builtin_function_or_method",data:=.fields #[.builtin id,self]}
theorem Cd:Slot "method_descriptor" "__get__" "method_descriptor.__get__":=
 .of (owner:="method_descriptor") (n:="__get__") (by kernel_rfl) (by decide+kernel) (by decide+kernel) (by decide+kernel) (.inl (by decide+kernel)) (by kernel_rfl)
theorem P6:entryFor table "method_descriptor.__get__"=some Nu.«method_descriptor.__get__»:=entryFor_of_tree (by kernel_rfl)
theorem Tv(a b c:bO):argsOk "method_descriptor.__get__" ⟨[a,b,c],[]⟩:=by unfold argsOk;kernel_rfl
theorem ç:D7 (.type "method_descriptor") "__set__"=pure none:=by rw [Ed,builtinLookup_eq_fast];kernel_rfl
theorem é:D7 (.type "method_descriptor") "__delete__"=pure none:=by rw [Ed,builtinLookup_eq_fast];kernel_rfl
theorem Je:typeOf (.builtin "dict.get")=pure (.type "method_descriptor"):=by show builtinType _=_;rw [builtinType_eq_fast];kernel_rfl
theorem C6:typeOf (.builtin "set.__contains__")=pure (.type "method_descriptor"):=by show builtinType _=_;rw [builtinType_eq_fast];kernel_rfl
structure Yy(T:String)(name:jX)(id ga:String):Prop where
 slot:Slot T name id
 typ:typeOf (.builtin id)=pure (.type "method_descriptor")
 own:".".intercalate (id.cutAt '.').dropLast=T
 told:Manifest.toldItsClass.contains id=false
 sub:Cx (.type T) (.type T)=pure true
 gaS:Slot T "__getattribute__" ga
 entry:entryFor table ga=some Nu.«object.__getattribute__»
 args:∀a b:bO,argsOk ga ⟨[a,b],[]⟩
 copied:(["__module__","__name__","__qualname__","__doc__","__annotations__"]:mE).contains name=false
theorem í{T id h:String}{name:jX}(b:Yy T name id h)(a:cY)(o:wJ)(i:o.cls=.type T):
  Meets (Nu.«method_descriptor.__get__» ⟨[.builtin id,.ref a,.type T],[]⟩) (fun A R s=>s.heap.get? a=some o∧R (.ok (.ret (.ref s.heap.objs.size))) {s with heap:=s.heap.push (K0 id (.ref a))}):=
 aM7 fun prog w A R s c=>by
  obtain ⟨j,g,d,tk,os⟩:=s;obtain ⟨k,c⟩:=c;have l:(⟨j,g,d,tk,os⟩:dI).TypeIs (.ref a) T:=⟨_,k,i⟩;unfold Nu.«method_descriptor.__get__»;have e:=b.told;have f:=b.own;have m:=b.sub;repeat (any_goals (first|assumption|wp_step))
  all_goals (try simp only [e,f])
  repeat (any_goals (first|assumption|wp_step))
  all_goals (try simp only [e,f])
  repeat (any_goals (first|assumption|wp_step))
  exact ⟨_,rfl,c⟩
theorem Zq{a:Type}{M:ŭ}{A:lL}{Q:a→tX}{E:sX}{s:dI}{t b:Fd a}(h:t=b)(x:bX M A b Q E s):bX M A t Q E s:=h▸x
theorem Pc{T id l:String}{name:jX}(b:Yy T name id l)(a:cY)(o:wJ)(e:o.cls=.type T)(hd:o.dict=aF)(i:(∃es k,o.data=.dict es k)∨∃xs m t,o.data=.set xs m t)(u:Tok):
  Meets (Nu.«object.__getattribute__» ⟨[.ref a,.str name u],[]⟩) (fun A R s=>s.heap.get? a=some o∧R (.ok (.ret (.ref s.heap.objs.size))) {s with heap:=s.heap.push (K0 id (.ref a))}):=
 aM7 fun prog w A R s f=>by
  obtain ⟨c,g,d,tk,os⟩:=s;obtain ⟨j,f⟩:=f;have p:(⟨c,g,d,tk,os⟩:dI).TypeIs (.ref a) T:=⟨_,j,e⟩;unfold Nu.«object.__getattribute__»;have r:=b.slot.lookup;have n:=b.typ;have v:=Cd.lookup;have x:=ç;have y:=é;have z:=fun s=>Cd.bind s;obtain ⟨oc,od,Ny,B⟩:=o;dsimp only at e hd i;subst e hd;have h:∀{Q:sX}{E:sX}{A':lL},Q (.ref c.objs.size) {heap:=c.push (K0 id (.ref a)),gens:=g,drawn:=d,toks:=tk,os:=os}→bX (model prog w) A' (call (.builtin "method_descriptor.__get__") [.builtin id,.ref a,.type T]) Q E ⟨c,g,d,tk,os⟩:=fun q=>
   call_meets Cd n P6 (Tv _ _ _) (í b a _ rfl) ⟨j,q⟩
  repeat (any_goals (first|assumption|(with_reducible refine h ?_)|wp_step))
  refine Zq (show _=instanceDict a false by rcases i with ⟨es,k,rfl⟩|⟨xs,m,t,rfl⟩<;>rfl) ?_;repeat (any_goals (first|assumption|(with_reducible refine h ?_)|wp_step))
  rw [b.copied];repeat (any_goals (first|assumption|(with_reducible refine h ?_)|wp_step))
  exact ⟨_,rfl,f⟩
theorem Ta{A:lL}{E:sX}{s:dI}{T id f:String}{name:jX}{a:cY}{o:wJ}{Q:sX}(b:Yy T name id f)(h:s.heap.get? a=some o)(i:o.cls=.type T)(hd:o.dict=aF)(j:(∃es k,o.data=.dict es k)∨∃xs m t,o.data=.set xs m t)
  (q:∀tk,Q (.ref s.heap.objs.size) {s with heap:=s.heap.push (K0 id (.ref a)),toks:=tk}):bX (model prog w) A (getAttr (.ref a) name true) Q E s:=by
 obtain ⟨c,g,d,tk,os⟩:=s;obtain ⟨oc,od,Ny,p⟩:=o;dsimp only at i hd j;subst i hd;have l:∀e,(⟨c,g,d,e,os⟩:dI).TypeIs (.ref a) T:=fun _=>⟨_,h,rfl⟩;have r:=b.gaS.lookup;have v:=b.gaS.bind (.ref a);have n:∀{Q:sX}{E:sX}{A':lL}{e:Nat}{u:Tok},Q (.ref c.objs.size) {heap:=c.push (K0 id (.ref a)),gens:=g,drawn:=d,toks:=e,os:=os}→bX (model prog w) A' (call (.builtin f) [.ref a,.str name u]) Q E ⟨c,g,d,e,os⟩:=fun q=>
  call_meets b.gaS (l _) b.entry (b.args _ _) (Pc b a _ rfl rfl j _) ⟨h,q⟩
 repeat (any_goals (first|assumption|exact l _|((with_reducible show bX _ _ (call (yY _) _ _) _ _ _);refine n ?_)|wp_step))
 exact q _
theorem Ŏ:Yy "dict" (aC "get") "dict.get" "dict.__getattribute__":=
 ⟨Re,Je,by decide+kernel,by decide+kernel,by kernel_rfl,PySem.F.slot_dict_getattribute,am_entry_dict_getattribute,PySem.F.args_dict_getattribute_2,by decide+kernel⟩
theorem Jw:Yy "set" (aC "__contains__") "set.__contains__" "set.__getattribute__":=
 ⟨PySem.F.slot_set_contains,C6,by decide+kernel,by decide+kernel,by kernel_rfl,PySem.F.slot_set_getattribute,entryFor_alias (id':="object.__getattribute__") (by kernel_rfl) (by decide+kernel) (by decide+kernel) (by kernel_rfl),PySem.F.args_set_getattribute_2,by decide+kernel⟩
structure Ŝ(h:dS)(d:cY)(f:Int→Option bO)(n:Nat):Prop where
 ex:∃es ep,h.get? d=some {cls:=.type "dict",dict:=aF,data:=.dict es ep,slots:= #[]}∧IntKeys es∧es.size≤n∧∀k,findBy rK es k=f k
theorem Ŝ.map{f:Int→Option bO}(x:Ŝ h d f n):h.IntMap d f:=by refine nn fun a=>?_;obtain ⟨es,b,c,e,_,g⟩:=x.ex;refine a ?_;exact ⟨_,es,b,c,rfl,rfl,e,g⟩
theorem nJ:D5 h d ks xs↔ks.length=xs.length∧∃f,Ŝ h d f ks.length∧∀k,f k=(ks.zip xs).lookup k:=by
 constructor
 ·rintro ⟨f,⟨o,es,g,a,m,hd,i,j⟩,ex,le,l,e⟩;obtain ⟨n,p⟩:=ex o a;have r:=le _ _ _ a hd;obtain ⟨c,dd,t,u⟩:=o;dsimp only at m hd n p;subst m hd n p;exact ⟨l,f,⟨es,g,a,i,r,j⟩,e⟩
 ·rintro ⟨l,f,⟨es,g,a,i,le,j⟩,e⟩;refine ⟨f,⟨_,es,g,a,rfl,rfl,i,j⟩,fun o b=>?_,fun o v x b s=>?_,l,e⟩
  ·replace b:=a▸b;refine oQ b ?_;rintro rfl;exact ⟨rfl,rfl⟩
  ·replace b:=a▸b;refine oQ b ?_;rintro rfl;cases s;exact le
theorem Tm{E:sX}{s:dI}{f:Int→Option bO}{Q:Unit→tX}(x:Ŝ s.heap d f n)(h:n≤iC)
  (q:∀h',Ŝ h' d (fun y=>if y=k then some v else f y) (n+1)→qI d s.heap h'→Q () {s with heap:=h',toks:=s.toks+1}):bX (model prog w) A (dictSet d (.int k t) v) Q E s:=by
 refine nn fun g=>?_;obtain ⟨es,j,a,b,le,c⟩:=x.ex;refine g ?_;refine cJ (aH (aO6 ?_));refine cJ (aH (aM1 a rfl b ?_))
 cases hi:es.findIdx? fun e=>rK k e.key with
 |some i=>
  refine aH (zJ (aH (wpAny_updateDict a rfl (wpAny_point (q _ ⟨_,_,kG _ a (Ff (Obj.data_mapDict rfl _)),b.modify i v,?_,fun y=>?_⟩ (pD ..))))))
  ·simp only [Array.size_modify];exact bE Xp le
  ·rw [findBy_modify rK Value.isInt_inj es k y v i hi,c]
 |none=>
  refine aH (zJ (aIs a rfl (q _ ⟨_,_,kG _ a (Ff (š rfl _)),b.push k t v,?_,fun y=>?_⟩ (pD ..))))
  ·simp only [aFq];exact bE ü le
  ·refine (findBy_push rK es k y _ _ v (fun z=>?_) hi).trans (by rw [c]);refine (?_:(k==z)=decide (z=k));by_cases e:z=k
   ·simp [e]
   ·have:¬k=z:=fun q=>e q.symm;simp [e,this]
section
set_option backward.match.sparseCases false
theorem Zj{Y:iK}(k:Int):∀{ks:aW}{vs:cG}{xs:gI},bS D Y h vs xs→ks.length=xs.length→
  (∃v x,(ks.zip vs).lookup k=some v∧(ks.zip xs).lookup k=some x∧gQ D Y h v x)∨((ks.zip vs).lookup k=aF∧(ks.zip xs).lookup k=aF):=by
 intro b
 induction b with
 |nil=>intro vs;intro xs;intro _;intro _;exact .inr ⟨by rfl,by rfl⟩
 |cons a ks c=>
  intro f
  cases f with
  |nil=>intro xs;intro r;intro e;subst r;simp at e
  |cons d vs=>
   intro xs;intro r;intro e;obtain ⟨u,us,rfl,r1,g⟩:=r;simp only [jF,mA];by_cases q:k==a
   ·rw [q];exact .inl ⟨d,u,rfl,rfl,r1⟩
   ·rw [show (k==a)=false by simpa using q];exact c g (by simpa using e)
theorem Hz{f:Int→Option bO}(a:ks.length=xs.length)(e:∀y,f y=(ks.zip xs).lookup y)(x:Ŝ h' d (fun y=>if y=k then some v else f y) (ks.length+1)):D5 h' d (k::ks) (v::xs):=by
 refine nJ.mpr ⟨by simp [a],_,x,fun y=>?_⟩;simp only [jF,mA];by_cases q:y=k
 ·subst q;simp
 ·rw [if_neg q,e,show (y==k)=false by simpa using q]
def Ym:qR:=fun us σ=>aV (fun u=>aV fun y=>aV fun d=>aN (ob (aIl u) fun p=>ob (G0 y) fun k=>some (((p.1.zip p.2).lookup k).getD d,σ))) us
noncomputable def aOf:V→Bool
 |.dct _ _=>true
 |_=>false
def gDM(d:qR)(go:M V)(ga:M cG):M V:=fun σ=>bd (go σ) fun u σ=>if aOf u=true then bd (ga σ) fun us σ=>d (u::us) σ else aF
noncomputable def aHp:M V:=fun σ=>some (ê (.dict [] []) σ)
def ģ(go gi:M V)(v:V)(σ:St):Option St:=bd (go σ) fun o σ=>bd (gi σ) fun i σ=>ob (Iu o) fun n=>ob (G0 i) fun k=>aD σ n fun p=>if p.1.length≤lim then some {σ with cells:=lQ n (.dict (k::p.1) (v::p.2)) σ.cells}else aF
def gBm(g:M V):M V:=fun σ=>bd (g σ) fun o σ=>ob (aIl o) fun p=>some (.bm "dict.get" (.dct p.1 p.2),σ)
def aHq(g:M V):M V:=fun σ=>bd (g σ) fun o σ=>ob (aIi o) fun _=>some (.bm "set.__contains__" .set0,σ)
def wH(go:M V)(ga:M cG):M V:=fun σ=>bd (go σ) fun o σ=>ob (aMm o) fun p=>bd (ga σ) fun us σ=>
  if p.1="dict.get" then Ym (p.2::us) σ
  else if p.1="set.__contains__" then ob (aIi p.2) fun _=>aV (fun y=>aN (ob (G0 y) fun _=>some (.bool false,σ))) us
  else aF
section
variable{n:Nat}{F:Fx}{K:Aq}
theorem X0:lM n F (.Dict [] [] c) (gK (.dct [] [])):=fun σ v σ' e=>by intro A X D h tk vs ok m _;have a:=dL h {cls:=.type "dict",data:=.dict #[]};refine aO8 ⟨_,tk,D,σ,_,rfl,pC.grow a,m.grow a,?_,.of e⟩;refine ⟨h.objs.size,[],rfl,fun q=>?_,nJ.mpr ⟨rfl,fun _=>aF,⟨#[],0,cF _ rfl,fun e b=>by simp at b,by trivial,fun k=>rfl⟩,fun k=>rfl⟩,bS.nil⟩;exact (m.yal q).no (fE _)
theorem Kq:lM n F (.Dict [] [] b) aHp:=fun σ v σ' e=>by intro A X D h tk vs ok m _;obtain ⟨m',st⟩:=m.cell (c:=.dict [] []) (dL h {cls:=.type "dict",data:=.dict #[]}) (fE h) ⟨_,cF _ rfl⟩ (fun D' Y' _ d=>⟨[],nJ.mpr ⟨rfl,fun _=>aF,⟨#[],0,cF _ rfl,fun e a=>by simp at a,by trivial,fun k=>rfl⟩,fun k=>rfl⟩,bS.nil⟩);refine aO8 ⟨_,tk,_,_,_,rfl,st,m',?_,.of e⟩;exact ⟨_,rfl,by simp [fN,fM]⟩
theorem We{X:iK}{R:xW→tX}(x:D5 h a ks xs)(i:bS D (Yf F X D) h vs xs)(j:gQ D (Yf F X D) h d u)
  (q:∀r l,gQ D (Yf F X D) h (((ks.zip vs).lookup k).getD d) r→R (.ok (.ret r)) (kD h l)):
  bX (model prog w) A.in1 (Nu.«dict.get» ⟨[.ref a,.int k t,u],[]⟩) (fun fin s'=>match fin with|.done f=>R (.ok f) s'|.again g=>g.quiet=true∧kC (model prog w) A g R s') (fun e s'=>R (.error e) s') (kD h tk):=by
 refine nn fun m=>?_;obtain ⟨o,f,df,p⟩:=nJ.mp x;refine m ?_;refine (?_:bX _ _ (dictGet a (.int k t)>>=_) _ _ _);refine aH (wpAny_dictGet_int df.map ?_);rw [p];rcases Zj k i o with ⟨v,z,b,c,s⟩|⟨b,c⟩
 ·refine c▸?_;replace q:=b▸q;exact bC (q z _ s)
 ·refine c▸?_;replace q:=b▸q;refine (?_:bX _ _ (aPs a (.int k t)>>=_) _ _ _);exact aH (wpAny_missed_int (bC (q u _ j)))
@[elab_as_elim] theorem Wd {P:V→cG→Prop} (e:Ym (u::us) σ=some (r,σ')) (q:∀ks vs k d,some (((ks.zip vs).lookup k).getD d,σ)=some (r,σ')→P (.dct ks vs) [.int k,d]):P u us:=by refine pB (us:=us) e fun y _ e=>?_;refine pB e fun d _ e=>?_;refine pM e fun e=>?_;refine aD0 e fun ks vs e=>?_;exact zC e fun k e=>q ks vs k d e
theorem Û:OpB n F "dict.get" Ym:=fun us σ v σ' e=>by
 cases us with
 |nil=>exact iE e
 |cons u us=>
 refine Wd e fun ks vs k d e=>?_;intro A X D h tk x ok m r;obtain ⟨u,_,rfl,r1,y,_,rfl,c,z,_,rfl,g,i⟩:=r;cases i;obtain ⟨a,xs,rfl,B,b,j⟩:=r1;obtain ⟨t,rfl⟩:=c;have l:(kD h tk).TypeIs (.ref a) "dict":=by obtain ⟨_,f,⟨es,C,o,_⟩,_⟩:=nJ.mp b;exact ⟨_,o,rfl⟩
 refine kA (qS Re.plain Q0 (Re.check _ _ _ _ _ _ _ _ l (PySem.F.args_dict_get_3 _ _ _) (We (R:=wants (uJ rV F X D h (Cv v σ')) (fun _ _=>False)) b j g fun G p s=>?_)));exact ⟨h,p,D,σ,_,rfl,.refl,m,s,.of e⟩
theorem aHh{o:Expr}{name:jX}{c b:Pos}{args:List Expr}{j:Fd Bool}{id:String}{d:qR}{e:M V}{g:M cG}(slot:Slot "dict" name id)(k:typeOf (.builtin id)=pure (.type "method_descriptor"))(l:Y2 "dict")(ob:OpB n F id d)
  (x:lM n F o e) (p:oW F args) (y:zH n F b args g)
  (s:eval (.Call (.Attribute o name c) args [] b) F.env=(do
   let i←eval o F.env
   lV c.atName
   let (f,first)←holding [i] (getMethod i name j)
   mW b f first (backTo b (eC args F.env)) [])):lM n F (.Call (.Attribute o name c) args [] b) (gDM d e g):=fun σ v σ' q=>by
 obtain ⟨u,σ₁,t,q⟩:=eG q;split at q
 ·rename_i hd;replace q:=eG q;obtain ⟨us,G,z,q⟩:=q;refine M0 slot k l s p ((x _ _ _ t).mono ?_);refine mR ?_;refine ⟨fun F X D h v m r=>?_,TW.mono (y _ _ _ z) ?_⟩
  ·cases u<;>first|cases hd|skip
   obtain ⟨a,xs,rfl,H,A,I⟩:=r;refine nn fun B=>?_;obtain ⟨_,f,⟨es,J,C,_⟩,_⟩:=nJ.mp A;refine B ?_;exact ⟨a,_,rfl,C,rfl,rfl⟩
  ·refine mR ?_;exact ob _ _ _ _ q
 ·exact iE q
theorem Ē(fk:iY F)(x:lM n F o L)(y:lM n F i gi):I9 n F (.Subscript o i ah) (ģ L gi):=fun σ v σ' e=>by replace e:=eG e;obtain ⟨ov,σ₁,N,e⟩:=e;replace e:=eG e;obtain ⟨iv,am,O,e⟩:=e;obtain ⟨j,rfl,d⟩:=ß e;obtain ⟨k,rfl,p⟩:=aDx d;replace p:=aDy p;obtain ⟨ks,vs,P,z⟩:=p;replace z:=iS z;obtain ⟨Q,R⟩:=z;refine oQ R ?_;rintro rfl;intro A X D h tk u ok m r;rw [assign_Subscript];refine aH (cJ (TW.atE (x _ _ _ N) ok m bS.nil ?_));rintro x8 h₁ ad D₁ G B T;refine aH (cJ (TW.atE (y _ _ _ O) ok B bS.nil ?_));rintro x9 W Y D₂ C H Z;have tq:=gQ.on B C T;obtain ⟨a,rfl,I⟩:=tq;obtain ⟨t,rfl⟩:=Z;refine nn fun g=>?_;obtain ⟨a',d,xs,hx,rx⟩:=H.cel j _ P;refine g ?_;replace d:=I▸d;refine oQ d ?_;rintro rfl;refine nn fun g=>?_;obtain ⟨e0,f,df,ef⟩:=nJ.mp hx;refine g ?_;have l:=df.map.typeIs (s:=kD W Y);refine aH (hG (aH (cJ ?_)));refine cJ (aH (aM5 l (by decide) ?_));refine aH (oR l slot_dict_setitem (mT slot_dict_setitem l entry_dict_setitem ?_ (args_dict_setitem _ _ _)));refine (?_:bX _ _ (aPr "__setitem__" ⟨[.ref a,.int k t,u],[]⟩>>=_) _ _ _);refine aH (aFh l ?_);refine (?_:bX _ _ (dictSet a (.int k t) u>>=_) _ _ _);refine aH (Tm df (bR Q oY) fun h' yq d8=>?_);have J:=Hz e0 ef yq;refine nn fun g=>?_;obtain ⟨oz,yr⟩:=J.lt;obtain ⟨m',bv⟩:=H.turn (c:=.dict (k::ks) (v::vs)) fk I (fun b o hb e=>(d8.2 b hb).trans e) ⟨oz,yr⟩ (fun Y' hr d7=>⟨u::xs,J,.cons (hr _ _ (gQ.on B C (gQ.on m G r))) (d7 _ _ rx)⟩);refine g ?_;exact bC ⟨.none,rfl,bC (Ja ⟨h',_,D₂,_,(),rfl,(G.trans C).trans bv,m',trivial,rfl⟩)⟩
theorem Vo{o:Expr}{name:jX}{c:Pos}{T id s:String}{g l:M V}(b:Yy T name id s)(x:lM n F o g)(y:eval (.Attribute o name c) F.env=(eval o F.env>>=fun f=>lV c.atName>>=fun _=>holding [f] (getAttr f name true)>>=fun r=>letTemporaryGo o f r>>=fun _=>pure r))
  (i:∀σ v σ',l σ=some (v,σ')→∃u,g σ=some (u,σ')∧v=.bm id u∧∀(D:mS) Y h d,gQ D Y h u d→∃a ob,d=.ref a∧¬Y a∧h.get? a=some ob∧ob.cls=.type T∧ob.dict=aF∧((∃es k,ob.data=.dict es k)∨∃xs m t,ob.data=.set xs m t)):lM n F (.Attribute o name c) l:=fun σ v σ' q=>by
 obtain ⟨u,z,rfl,B⟩:=i _ _ _ q;intro A X D h tk vs ok m _;refine (?_:bX _ _ (eval (.Attribute o name c) F.env) _ _ _);refine y▸?_;refine aH (TW.atE (x _ _ _ z) ok m bS.nil ?_);rintro d h₁ L D₁ st p r;refine nn fun C=>?_;obtain ⟨a,ob,rfl,N,G,H,hd,I⟩:=B D₁ _ h₁ d r;refine C ?_;have j:=dL h₁ (K0 id (.ref a));refine aH (hG (aH (cJ (Ta b G H hd I fun J=>aH (wpAny_letTemporaryGo (bC ?_))))));refine ⟨_,J,D₁,_,_,rfl,st.trans (pC.grow j),p.grow j,?_,rfl,rfl⟩;refine ⟨h₁.objs.size,.ref a,rfl,fun q=>?_,⟨_,cF _ rfl,rfl,rfl,rfl⟩,(gQ.step (fun b o e _=>j b o e) (fun _ _ e=>e) (fun _ e=>.inl e) _ _ r)⟩;exact (p.yal q).no (fE _)
theorem aBm(x:lM n F o g)(i:eval (.Attribute o (aC "get") d) F.env=(eval o F.env>>=fun b=>lV d.atName>>=fun _=>holding [b] (getAttr b (aC "get") true)>>=fun r=>letTemporaryGo o b r>>=fun _=>pure r)):lM n F (.Attribute o (aC "get") d) (gBm g):=by refine Vo Ŏ x i fun σ v σ' e=>?_;replace e:=eG e;obtain ⟨u,σ₁,c,e⟩:=e;revert c;refine aD0 e ?_;clear e;intro ks vs e c;refine I8 e ?_;rintro rfl rfl;refine ⟨_,c,rfl,fun D Y h p r=>?_⟩;refine nn fun j=>?_;obtain ⟨a,xs,rfl,k,l,s⟩:=r;obtain ⟨_,f,⟨es,t,m,_⟩,_⟩:=nJ.mp l;refine j ?_;exact ⟨a,_,rfl,k,m,rfl,rfl,.inl ⟨_,_,rfl⟩⟩
theorem aBl(x:lM n F o g)(f:eval (.Attribute o (aC "__contains__") d) F.env=(eval o F.env>>=fun b=>lV d.atName>>=fun _=>holding [b] (getAttr b (aC "__contains__") true)>>=fun r=>letTemporaryGo o b r>>=fun _=>pure r)):lM n F (.Attribute o (aC "__contains__") d) (aHq g):=by refine Vo Jw x f fun σ v σ' e=>?_;replace e:=eG e;obtain ⟨u,σ₁,c,e⟩:=e;revert c;refine aDz e ?_;clear e;intro e c;refine I8 e ?_;rintro rfl rfl;refine ⟨_,c,rfl,fun D Y h l r=>?_⟩;refine nn fun i=>?_;obtain ⟨a,rfl,j,m,k⟩:=r;refine i ?_;exact ⟨a,_,rfl,j,k,rfl,rfl,.inr ⟨_,_,_,rfl⟩⟩
theorem Qg{A:lL}{E:sX}{s:dI}{c:Pos}{u:cY}{ob:wJ}{id:String}{self:bO}{args:List (Bool×Fd bO)}{Q:sX}(d:args.any (·.1)=false)
  (h:bX (model prog w) A (evalArgs (.ref u) true args []) (fun x a=>(a.heap.get? u=some ob∧ob.cls=.type "builtin_function_or_method"∧ob.data=.fields #[.builtin id,self])∧bX (model prog w) A (call (.ref u) x.pos x.kw) Q E a) E s):bX (model prog w) A (mW c (.ref u) [] args []) Q E s:=by
 refine aH (cJ (bN h (fun x a h₁=>aH (hG ?_)) fun _ _ x=>x));refine nn fun e=>?_;obtain ⟨⟨f,b,hd⟩,g⟩:=h₁;refine e ?_;clear h;obtain ⟨oc,od,Ny,j⟩:=ob;dsimp only at b hd;subst b hd;rw [d,List.any_nil,Rj];refine aH ?_;refine aH (J4 f ?_);refine bC ?_;exact aH (bN g (fun r k i=>aH (cJ (wpAny_point (bC i)))) fun _ _ x=>x)
theorem Wj{A:lL}{E:sX}{s:dI}{u:cY}{ob:wJ}{id:String}{self:bO}{vs:gI}{B:Nu}{Q:sX}(d:s.heap.get? u=some ob)(a:ob.cls=.type "builtin_function_or_method")(hd:ob.data=.fields #[.builtin id,self])(b:plainId id=true)(g:entryFor table id=some B)
  (i:∀{A':lL}{E':sX}{K:Unit→tX},K () s→bX (model prog w) A' (checkBoundCall id ⟨self::vs,[]⟩) K E' s)
  (h:bX (model prog w) A.in1 (B ⟨self::vs,[]⟩) (fun fin s'=>match fin with|.done f=>wants Q E (.ok f) s'|.again c=>c.quiet=true∧kC (model prog w) A c (wants Q E) s') (fun e s'=>wants Q E (.error e) s') s):bX (model prog w) A (call (.ref u) vs) Q E s:=by
 refine nn fun j=>?_;obtain ⟨oc,od,Ny,k⟩:=ob;refine j ?_;dsimp only at a hd;subst a hd;refine kA (Ee ?_);refine (?_:bX _ A.in1 (callAny (.ref u) ⟨vs,[]⟩) _ _ s);refine aH (J4 d ?_);refine aH (i ?_);refine aH (bC (bC ?_));refine ⟨plainId_quiet b _,Ef g ?_⟩;refine (Wt b _)▸?_;exact h
end
end
theorem aCv{E:sX}{s:dI}{K:Unit→tX}(b:s.heap.get? a=some {cls:=.type "dict",dict:=aF,data:=.dict es e,slots:= #[]})(q:K () s):bX (model prog w) A (checkBoundCall "dict.get" ⟨[.ref a,x,y],[]⟩) K E s:=by
 obtain ⟨c,g,d,tk,os⟩:=s;have f:(⟨c,g,d,tk,os⟩:dI).TypeIs (.ref a) "dict":=⟨_,b,rfl⟩;have h:Cx (.type "dict") (.type "module")=pure false:=by rw [zK];kernel_rfl
 have i:Cx (.type "dict") (.type "type")=pure false:=by rw [zK];kernel_rfl
 have j:Manifest.varargsMethods.contains "dict.get"=false:=by decide+kernel
 unfold checkBoundCall;repeat (any_goals (first|assumption|wp_step))
theorem Na{E:sX}{s:dI}{K:Unit→tX}(b:s.heap.get? a=some {cls:=.type "set",dict:=aF,data:=.set #[] 0 (.fresh 0 0 e)})(q:K () s):bX (model prog w) A (checkBoundCall "set.__contains__" ⟨[.ref a,x],[]⟩) K E s:=by
 obtain ⟨c,g,d,tk,os⟩:=s;have f:(⟨c,g,d,tk,os⟩:dI).TypeIs (.ref a) "set":=⟨_,b,rfl⟩;have h:Cx (.type "set") (.type "module")=pure false:=by rw [zK];kernel_rfl
 have i:Cx (.type "set") (.type "type")=pure false:=by rw [zK];kernel_rfl
 have j:Manifest.varargsMethods.contains "set.__contains__"=false:=by decide+kernel
 unfold checkBoundCall;repeat (any_goals (first|assumption|wp_step))
theorem Δ(x:T4 h a):h.SetOf (intKind prog w) a (fun _=>false) 0:=by obtain ⟨b,c⟩:=x;refine ⟨_, #[],0,.fresh 0 0 b,c,⟨rfl,rfl,rfl⟩,rfl,fun e d=>by simp at d,fun k=>?_,by decide,by cases b<;>rfl,rfl⟩;simp
theorem Qe{s:dI}{R:xW→tX}(x:T4 s.heap a)(q:∀d,R (.ok (.ret (.bool false))) {s with toks:=d}):
  bX (model prog w) A.in1 (Nu.«frozenset.__contains__» ⟨[.ref a,.int k t],[]⟩) (fun fin s'=>match fin with|.done f=>R (.ok f) s'|.again b=>b.quiet=true∧kC (model prog w) A b R s') (fun e s'=>R (.error e) s') s:=by
 have g:=Δ x;have c:(intKind prog w).is k (.int k t)=true:=by show rK k (.int k t)=true;simp [rK]
 unfold Nu.«frozenset.__contains__» aIy;simp only [List.isEmpty_nil,bind_assoc];unfold aIz aIx setContains;refine aH (bC (aH (bC (aH (Yz (cJ (aH ((intKind prog w).pyHash c (aH (wpAny_setFind_of (s:={s with toks:=s.toks+1}) c rfl g fun r h=>?_))))))))));refine bC ?_;show bX _ _ (ret (Value.bool r.isSome)) _ _ _;rw [h];exact bC (q _)
section
variable{n:Nat}{F:Fx}{K:Aq}
theorem vD(x:lM n F (.Name s p) go)(Q:oW F args)(y:zH n F i args ga)
  (he:eval (.Call (.Name s p) args [] i) F.env=(do mW i (←eval (.Name s p) F.env) [] (backTo i (eC args F.env)) [])):lM n F (.Call (.Name s p) args [] i) (wH go ga):=fun σ r σ' e=>by
 obtain ⟨o,σ₁,G,e⟩:=eG e;revert G;refine aJ8 e fun id self e G=>?_;obtain ⟨us,am,T,b⟩:=eG e;clear e;intro A X D h tk vs ok m _;show bX _ _ (eval (.Call (.Name s p) args [] i) F.env) _ _ _;rw [he];refine aH (TW.atE (x σ _ _ G) ok m bS.nil ?_);rintro fv h₀ g8 D₀ W m₀ Y;have aa7:=Y;obtain ⟨u,sv,rfl,nu,⟨ob,ho,H,hd,I⟩,rs⟩:=Y;have hu:∀h₁ D₁,pC F D₀ h₀ D₁ h₁→h₁.get? u=some ob:=fun h₁ D₁ st=>st.keep u ob ho (fun z=>nu (.inl z)) (fun j z=>nu (.inr (.inr ⟨j,z⟩)));refine Qg (ob:=ob) (id:=id) (self:=sv) (nR Q) (rG Q (y _ _ _ T) ok m₀ ?_);rintro g6 h₁ l D₁ da g9 B Z c ⟨rfl,rfl⟩;have J:=hu h₁ D₁ B;have g:=gQ.on m₀ B rs;refine ⟨⟨J,H,I⟩,?_⟩;clear T;split at b
 ·rename_i L;cases L;revert c g;refine Wd (u:=self) b fun ks ws k d b c g=>?_;obtain ⟨yv,_,rfl,N,zv,_,rfl,O,r4⟩:=c;cases r4;obtain ⟨a,xs,rfl,na,hx,rx⟩:=g;obtain ⟨t,rfl⟩:=N;have jr:=hx;obtain ⟨_,f,⟨es,ep,C,_⟩,_⟩:=nJ.mp jr;refine Wj (s:=kD h₁ l) J H I Re.plain Q0 (fun q=>aCv (s:=kD h₁ l) C q) (We (R:=wants (uJ rV F X D h (Cv r σ')) (fun _ _=>False)) hx rx O fun r' P rr=>?_);exact ⟨h₁,P,D₁,_,_,rfl,W.trans B,Z,rr,.of b⟩
 ·obtain ⟨L,b⟩:=iS b;cases L;revert c g;refine aDz (v:=self) b fun b=>?_;refine pB b fun y _ b=>?_;refine pM b fun b=>?_;refine zC b fun k b c g=>?_;obtain ⟨yv,_,rfl,N,O⟩:=c;cases O;obtain ⟨a,rfl,na,jb,C⟩:=g;obtain ⟨t,rfl⟩:=N;refine Wj (s:=kD h₁ l) J H I PySem.F.slot_set_contains.plain entry_set_contains (fun q=>Na (s:=kD h₁ l) C q) (Qe (s:=kD h₁ l) (R:=wants (uJ rV F X D h (Cv r σ')) (fun _ _=>False)) ⟨jb,C⟩ fun P=>?_);exact ⟨h₁,P,D₁,_,_,rfl,W.trans B,Z,mJ,.of b⟩
end
inductive Ev(lt:Nat→Nat→Bool)(n:Nat){α:Type}:KasT α→α→Prop where
 |ret (a:α):Ev lt n (.ret a) a
 |ask {i j:Nat} {k:Bool→KasT α} {a:α} (hi:i<n) (hj:j<n) (ca:i≠j) (h:Ev lt n (k (lt i j)) a):Ev lt n (.ask i j k) a
theorem Ev.bind{lt:Nat→Nat→Bool}{c d:Type}{t:KasT c}{a:c}{f:c→KasT d}{b:d}(x:Ev lt n t a)(y:Ev lt n (f a) b):Ev lt n (t.bind f) b:=by
 induction x with
 |ret=>exact y
 |ask hi e g _ h=>exact .ask hi e g (h y)
theorem Ev.wp{lt:Nat→Nat→Bool}{b:Type}{t:KasT b}{a:b}{cmp:Nat→Nat→(Bool→tX)→tX}{I:tX}{Q:b→tX}(x:Ev lt n t a)
  (d:∀i j C s,i<n→j<n→i≠j→I s→(∀s',I s'→C (lt i j) s')→cmp i j C s) (c:∀s,I s→Q a s):∀s,I s→t.kasWp cmp Q s:=by
 induction x with
 |ret=>exact c
 |ask hi e f _ g=>exact fun s h=>d _ _ _ s hi e f h fun s' k=>g c s' k
structure sL(n:Nat)(p:Array Nat):Prop where
 size:p.size=n
 perm:p.toList.Perm (kN n)
structure qA(lt:Nat→Nat→Bool)(n:Nat):Prop where
 tot:∀i j,i<n→j<n→i≠j→lt i j=false→lt j i=true
 tr:∀i j k,i<n→j<n→k<n→lt i j=true→lt j k=true→lt i k=true
def Qt(lt:Nat→Nat→Bool)(p:Array Nat)(k:Nat):Prop:=∀i j,i<j→j<k→lt (p.getD i 0) (p.getD j 0)=true
def Yw(lt:Nat→Nat→Bool)(p:Array Nat)(k:Nat):Prop:=∀i j,i<j→j<k→lt (p.getD j 0) (p.getD i 0)=true
section
variable{lt:Nat→Nat→Bool}{n:Nat}{p:Array Nat}
theorem Dr(p:Array Nat)(i:Nat):p.getD i 0=(p[i]?).getD 0:=by simp
theorem sL.bd(g:sL n p)(h:i<n):p.getD i 0<n:=by
 have hi:i<p.size:=by simp only [g.size];exact h
 have:p[i]∈kN n:=g.perm.mem_iff.mp (by simp);simpa [ť,hi]using this
theorem sL.ne(g:sL n p)(hi:i<n)(c:j<n)(h:i≠j):p.getD i 0≠p.getD j 0:=by
 have a:i<p.toList.length:=by simp only [vK,g.size];exact hi
 intro e;have a1:i<p.size:=by exact a
 have b:j<p.size:=by exact (by simp only [vK,g.size];exact c:j<p.toList.length)
 refine h ((pL a (g.perm.nodup_iff.mpr List.nodup_range)).mp ?_);simp [a1,b,(by simpa [ť,a1,b]using e:p[i]=p[j])]
theorem sL.of_perm(g:sL n p)(h:q.Perm p):sL n q:=⟨by rw [h.size_eq,g.size],(Array.perm_iff_toList_perm.mp h).trans g.perm⟩
theorem ķ(g:sL n p)(st:qA lt n):∀(f a:Nat),1≤a→a+f≤n→Qt lt p a→∃m,Ev lt n (kas_asc p f a) m∧a≤m∧m≤a+f∧Qt lt p m∧(m=a+f∨lt (p.getD m 0) (p.getD (m-1) 0)=true):=by
 intro s
 induction s with
 |zero=>intro a _ _ h;exact ⟨a,.ret a,bG _,bG _,h,.inl rfl⟩
 |succ f t=>
  intro a k b h;have d:a<n:=bE aAm b
  cases c:lt (p.getD a 0) (p.getD (a-1) 0)with
  |true=>exact ⟨a,.ask (g.bd d) (g.bd (bE Rb b)) (g.ne d (bE Rb b) (bE ln8 k)) (by rw [c];exact .ret a),bG _,bE 0x8c52841c20002,h,.inr c⟩
  |false=>
   have o:=st.tot _ _ (g.bd d) (g.bd (bE Rb b)) (g.ne d (bE Rb b) (bE ln8 k)) c;have h':Qt lt p (a+1):=fun i j l u=>by
    by_cases e:j=a
    ·subst e;by_cases r:i=j-1
     ·refine r▸?_;exact o
     ·exact st.tr _ _ _ (g.bd (bE aEl l b)) (g.bd (bE Rb b)) (g.bd d) (h i (j-1) (bE aK0 l r) (bE aG1 k)) o
    ·exact h i j l (bE aG4 u e)
   refine nn fun v=>?_;obtain ⟨m,e,x,y,A,B⟩:=t (a+1) (bE ÿ) (bE aAt b) h';refine v ?_;exact ⟨m,.ask (g.bd d) (g.bd (bE Rb b)) (g.ne d (bE Rb b) (bE ln8 k)) (by refine c▸?_;exact e),bE ln7 x,bE aEo y,A,B.imp (fun z=>bE 0x7462b420e208168120e1003 z) id⟩
theorem aB9(g:sL n p)(st:qA lt n):∀(f a:Nat),1≤a→a+f≤n→Yw lt p a→∃m,Ev lt n (kas_desc f p a 0) (p,m,0)∧a≤m∧m≤a+f∧Yw lt p m:=by
 intro r
 induction r with
 |zero=>intro a _ _ h;exact ⟨a,.ret _,bG _,bG _,h⟩
 |succ f s=>
  intro a k b h;have d:a<n:=bE aAm b
  cases c:lt (p.getD a 0) (p.getD (a-1) 0)with
  |true=>
   have h':Yw lt p (a+1):=fun i j l t=>by
    by_cases e:j=a
    ·subst e;by_cases o:i=j-1
     ·refine o▸?_;exact c
     ·exact st.tr _ _ _ (g.bd d) (g.bd (bE Rb b)) (g.bd (bE aEl l b)) c (h i (j-1) (bE aK0 l o) (bE aG1 k))
    ·exact h i j l (bE aG4 t e)
   refine nn fun u=>?_;obtain ⟨m,e,v,x,y⟩:=s (a+1) (bE ÿ) (bE aAt b) h';refine u ?_;exact ⟨m,.ask (g.bd d) (g.bd (bE Rb b)) (g.ne d (bE Rb b) (bE ln8 k)) (by rw [c];exact e),bE ln7 v,bE aEo x,y⟩
  |false=>exact ⟨a,.ask (g.bd d) (g.bd (bE Rb b)) (g.ne d (bE Rb b) (bE ln8 k)) (by rw [c];exact .ask (g.bd (bE Rb b)) (g.bd d) (g.ne (bE Rb b) d (bE 0x90a18ba4b081213ccc7001 k)) (by rw [(st.tot _ _ (g.bd d) (g.bd (by exact bE Rb b)) (g.ne d (by exact bE Rb b) (by exact bE ln8 k)) c)];exact .ret _)),bG _,by exact bE 0x8c52841c20002,h⟩
theorem ž(g:sL n p)(c:m≤n)(h:Yw lt p m):Qt lt (kas_rev p 0 m) m:=fun i j b a=>by
 have e:∀k,k<m→(kas_rev p 0 m).getD k 0=p.getD (m-1-k) 0:=fun k d=>by rw [Dr,Dr];unfold kas_rev;rw [getElem?_mirror_all (by rw [g.size];exact c),if_pos ⟨bW _,d⟩];simp
 rw [e i (oT b a),e j a];have f:=Ţ a;exact h _ _ (nW (bT b f) b) (eY (Bq _ _) (Bp (eY (bW _) a) rR))
theorem aB7(g:sL n p)(st:qA lt n)(b:1≤m)(a:m≤n)(h:Yw lt p m):∃r,Ev lt n (kas_tail3 m n p) r∧1≤r.1∧r.1≤n∧sL n r.2∧Qt lt r.2 r.1:=by have c:sL n (kas_rev p 0 m):=g.of_perm (mirror_perm _ _ _ _);obtain ⟨k,e,d,f,i,_⟩:=ķ c st (n-m) m b (bE 0x24518a4280092114cc1002 a) (ž g a h);exact ⟨(k,kas_rev p 0 m),e.bind (.ret _),by exact bE 0xe31484e908120382 b d,by exact bE 0x4858c5211a50010d2114cc1003 a f,c,i⟩
theorem Ķ(g:sL n p)(st:qA lt n)(a:1≤n):∃r,Ev lt n (kas_count n p) r∧1≤r.1∧r.1≤n∧sL n r.2∧Qt lt r.2 r.1:=by
 obtain ⟨k,e,h,s,t,u⟩:=ķ g st (n-1) 1 (bG _) (bE 0x24518a42801d213ccc7001 a) (fun i j l o=>by exact fJ (bE 0x18c64a38541002 l o));unfold kas_count;by_cases b:k=n
 ·exact ⟨(k,p),e.bind (by simp [b];exact .ret _),h,by exact bE 0xc62908161002 b,g,t⟩
 ·by_cases d:k>1
  ·have c:=t 0 (k-1) (bE 0x92c62a019413ccc7001 d) (bE aG1 h);refine ⟨(k,p),e.bind ?_,h,by exact bE 0x4858c52112500389213ccc7002 a s,g,t⟩;rw [if_neg (by simpa using b),if_pos d];exact .ask (g.bd (bE 0xc62a01920381 a)) (g.bd (bE aLe a s)) (g.ne (bE 0xc62a01920381 a) (bE aLe a s) (bE 0x91618ba4b019413ccc7001 d)) (by rw [c];exact .ret _)
  ·have v:k=1:=bE 0xe8c56703a4a01d20381 h d;subst v;have:∃r,Ev lt n (kas_descPart 1 n p) r∧1≤r.1∧r.1≤n∧sL n r.2∧Qt lt r.2 r.1:=by
    have hd:Yw lt p 2:=fun i j l o=>by
     have f:i=0:=bE 0xe462b3015a30541002 l o;have x:j=1:=bE 0x7462b3855a30541002 l o;subst f x;rcases u with z|z
     ·exact fJ (bE 0x244818986325a0073ba4b09d213ccc7001 a b z)
     ·exact z
    obtain ⟨m,y,A,B,C⟩:=aB9 g st (n-2) 2 (bE 0x118a746380) (bE 0xd11248c52140346749613a42799b46001 a b) hd;obtain ⟨r,f,r1⟩:=aB7 g st (by exact bE 0x18c5203a41a301 A) (by exact bE 0x644264c62908928068c2749613a42799b46002 a b B) C;exact ⟨r,y.bind (by simpa using f),r1⟩
   obtain ⟨r,f,r1⟩:=this;refine ⟨r,e.bind ?_,r1⟩;rw [if_neg (by simpa using b),if_neg d];exact f
theorem ĵ(g:sL n p)(st:qA lt n)(a:k<n)(A:Qt lt p k):∀(f l r:Nat),l≤r→r≤k→r-l≤f→(∀i,i<l→lt (p.getD i 0) (p.getD k 0)=true)→(∀i,r≤i→i<k→lt (p.getD k 0) (p.getD i 0)=true)→
  ∃m,Ev lt n (kas_place p k f l r) m∧m≤k∧(∀i,i<m→lt (p.getD i 0) (p.getD k 0)=true)∧(∀i,m≤i→i<k→lt (p.getD k 0) (p.getD i 0)=true):=by
 intro D
 induction D with
 |zero=>intro l r v d o s t;exact ⟨l,.ret l,bE ln9 v d,s,fun i hi=>t i (bE 0x11ae3148c291892604cc1003 o hi)⟩
 |succ f B=>
  intro l r v d o s t;unfold kas_place;by_cases e:l ≥ r
  ·rw [if_pos e];exact ⟨l,.ret l,bE ln9 v d,s,fun i hi=>t i (bE ln9 e hi)⟩
  ·rw [if_neg e];have F:=jI e;have a1:l≤(l+r)/2:=by lia
   have h:(l+r)/2<r:=by lia
   revert a1 h;generalize (l+r)/2=x;intro a1 h;have u:=bT h d;have b:=oT u a;have ne:=jC u
   cases c:lt (p.getD k 0) (p.getD x 0)with
   |true=>
    obtain ⟨m,y,z⟩:=B l x a1 (lX u) (jU (bT (D8 a1 h) o)) s (fun i hi j=>by
     rcases aDh hi with rfl|hi
     ·exact c
     ·exact st.tr _ _ _ (g.bd a) (g.bd b) (g.bd (oT j a)) c (A _ _ hi j))
    exact ⟨m,.ask (g.bd a) (g.bd b) (g.ne a b ne) (by rw [c];exact y),z⟩
   |false=>
    have C:=st.tot _ _ (g.bd a) (g.bd b) (g.ne a b ne) c;obtain ⟨m,y,z⟩:=B (x+1) r h d (jU (bT (nW F (Nat.lt_succ_of_le a1)) o)) (fun i hi=>by
     rcases aDh (jU hi)with rfl|hi
     ·exact C
     ·exact st.tr _ _ _ (g.bd (oT hi b)) (g.bd b) (g.bd a) (A _ _ hi u) C) t
    exact ⟨m,.ask (g.bd a) (g.bd b) (g.ne a b ne) (by rw [c];exact y),z⟩
theorem aH2(st:qA lt n):∀(f k:Nat)(p:Array Nat),sL n p→k+f=n→Qt lt p k→∃q,Ev lt n (kas_bin f p k) q∧sL n q∧Qt lt q n:=by
 intro o
 induction o with
 |zero=>intro k p g h b;exact ⟨p,.ret p,g,by rw [←h];exact b⟩
 |succ f r=>
  intro k p g h b;have c:k<n:=bE 0xc62a10162420e1003 h;obtain ⟨l,e,l1,l2,s⟩:=ĵ g st c b k 0 k (bW _) (bG _) (bE 0x418c52104cc6001) (fun i hi=>by exact fJ (bE 0x118c946001 hi)) (fun i t u=>by exact fJ (bE 0x18c64a00521002 t u));have v:sL n (bubble p k (k-l)):=g.of_perm (bubble_perm _ _ _);have d:∀i,(bubble p k (k-l)).getD i 0=if i=l then p.getD k 0 else if l<i∧i≤k then p.getD (i-1) 0 else p.getD i 0:=fun i=>by
   rw [Dr,getElem?_bubble (by rw [g.size];exact c) _ (by exact bE 0x198c52104cc1002),Nat.sub_sub_self l1];split
   ·rw [Dr]
   ·split<;>rw [Dr]
  have x:Qt lt (bubble p k (k-l)) (k+1):=fun i j a m=>by
   rw [d i,d j];by_cases c1:j=l
   ·subst c1;rw [if_pos rfl,if_neg (by exact bE ø a),if_neg (by exact bE 0x618ba4c4880a00541003 a)];exact l2 i (bE aAh a)
   ·rw [if_neg c1];by_cases c2:i=l
    ·subst c2;rw [if_pos rfl,if_pos ⟨bE aAh a,bE 0x318a420520e1002 m⟩];exact s _ (bE aAo a) (bE 0x4858c543029071854114cc7003 a m)
    ·rw [if_neg c2];split<;>split<;>exact b _ _ (by lia) (by lia)
  obtain ⟨q,y,z⟩:=r (k+1) _ v (bE 0x7462b1202838162420e1003 h) x;exact ⟨q,e.bind y,z⟩
theorem aB8(st:qA lt n)(c:1≤n):∃q,Ev lt n (kas_sort n) q∧sL n q∧Qt lt q n:=by
 have d:sL n (bD (kN n)):=⟨by simp,by simp⟩;obtain ⟨r,e,r1,f,a,b⟩:=Ķ d st c;unfold kas_sort;by_cases h:r.1<n
 ·obtain ⟨q,g,i⟩:=aH2 st (n-max r.1 1) (max r.1 1) r.2 a (bE 0x4e220a124e220a123158d000a862998029e8c7002 h) (by rw [aI5 r1];exact b);exact ⟨q,e.bind (by rw [if_pos h];exact g),i⟩
 ·exact ⟨r.2,e.bind (by rw [if_neg h];exact .ret _),a,by rw [show n=r.1 by exact bE 0xe8c5600ba4a08121002 f h];exact b⟩
end
structure Wr(A:lL)(s:dI)(a:cY)(vs:gI)(κ:SortKind)(lt:Nat→Nat→Bool):Prop where
 kind:∀(H:dS) tk (Q:SortKind→tX),(∀b o,b≠a→s.heap.get? b=some o→H.get? b=some o)→(∀ao,Q κ {s with heap:=H,toks:=ao})→bX (model prog w) A (keyKind' vs.toArray) Q (fun _ _=>False) {s with heap:=H,toks:=tk}
 cmp:∀(H:dS) tk i j (C:Bool→tX),(∀b o,b≠a→s.heap.get? b=some o→H.get? b=some o)→i<vs.length→j<vs.length→i≠j→(∀ao,C (lt i j) {s with heap:=H,toks:=ao})→bX (model prog w) A (keyLt' κ (vs.getD i jO) (vs.getD j jO)) C (fun _ _=>False) {s with heap:=H,toks:=tk}
theorem Ww:∀(vs:gI),vs.length<2→(vs.toArray.zip vs.toArray).map (·.2)=bD ((bD (kN vs.length)).toList.map fun i=>vs.getD i jO)
 |[],_=>by simp
 |[v],_=>by simp
 |_::_::_,h=>by simp only [eJ]at h;exact fJ (bE 0x23192b4641d07001 h)
theorem Di{E:sX}{s:dI}{lt:Nat→Nat→Bool}{P:aDe→tX}(k:s.heap.get? a=some (seqObj "list" vs.toArray n))(u:vs.length<64)(st:qA lt vs.length)(c:2≤vs.length→Wr A s a vs κ lt)
  (h:∀(p:Array Nat) h' d,sL vs.length p→Qt lt p vs.length→(∀b o,b≠a→s.heap.get? b=some o→h'.get? b=some o)→(∃m,h'.get? a=some (seqObj "list" (bD (p.toList.map fun i=>vs.getD i jO)) m))→P (.done (.ret .none)) {s with heap:=h',toks:=d}):
  bX (model prog w) A (Nu.«list.sort» ⟨[.ref a],[]⟩) P E s:=by
 refine nn fun B=>?_;obtain ⟨v,D⟩:∃v,(s.heap.update a (iQ fun _=>(#[]:Array bO))).get? a=some (seqObj "list" #[] v):=⟨_,get?_update_seq k fun _=> #[]⟩;refine B ?_;generalize F:((s.heap.update a (iQ fun _=>(#[]:Array bO))).push (seqObj "tuple" vs.toArray 0)).push (seqObj "list" #[] 0)=H;have l:H.get? a=some (seqObj "list" #[] v):=by rw [←F];exact cK _ (cK _ D)
 have keep:∀b o,b≠a→s.heap.get? b=some o→H.get? b=some o:=fun b o r e=>by refine F▸?_;exact cK _ (cK _ ((gO _ _ (rN r)).trans e))
 have fin:∀(p:Array Nat) d,sL vs.length p→Qt lt p vs.length→P (.done (.ret .none)) {s with heap:=H.update a (iQ fun _=>bD (p.toList.map fun i=>vs.getD i jO)),toks:=d}:=fun p d g W=>
  h p _ d g W (fun b o r e=>(gO _ _ (rN r)).trans (keep b o r e)) ⟨_,get?_update_seq l fun _=>bD (p.toList.map fun i=>vs.getD i jO)⟩
 rw [list_sort_plain];refine aH (listItems_at k rfl ?_);refine aH (listUpdate_at k rfl ?_ (by refine nB▸?_;rw [nV];exact bE aAx u) (bW _));refine aH (seqEpoch_at D rfl ?_);refine aH (wpAny_newTuple ?_ (by refine (?_:vs.length≤_);rw [nV];exact bE aAx u));refine aH (wpAny_newList ?_ (bW _));refine cJ ?_;have X:((s.heap.update a (iQ fun _=>(#[]:Array bO))).push {cls:=.type "tuple",data:=.seq vs.toArray.toList.toArray}).push {cls:=.type "list",data:=.seq ([]:gI).toArray}=H:=by rw [←F]
 refine (?_:bX (model prog w) A _ P E {s with heap:=((s.heap.update a (iQ fun _=>(#[]:Array bO))).push {cls:=.type "tuple",data:=.seq vs.toArray.toList.toArray}).push {cls:=.type "list",data:=.seq ([]:gI).toArray}});refine X▸?_;dsimp only;by_cases f:vs.toArray.size<2
 ·rw [if_pos f,if_pos f];refine aH (bC ?_);refine aH (bC ?_);dsimp only;have y:vs.length<2:=by exact f
  have Y:sL vs.length (bD (kN vs.length)):=⟨by simp,by rfl⟩;have G:=Ww vs y;refine aH (seqEpoch_at l rfl ?_);refine aH (listUpdate_at l rfl ?_ (bW _) (by simp only [G,nB,bF,gY,nV];exact bE 0x6314a0f8c6318c630702b46001 y));simp only [bne_self_eq_false,mH];refine bC ?_;have:=fin _ s.toks Y (fun i j I J=>by exact fJ (bE 0x38c64a009420ab46003 y I J));replace this:=G▸this;exact this
 ·rw [if_neg f];refine (if_neg f)▸?_;have L:2≤vs.length:=by simpa using f
  have Z:=c L;try clear k;try clear c;try clear h;try clear b;try clear o;try clear r;try clear g;try clear W;try clear ref;try clear a;try clear v;try clear D;try clear get;try clear _update_seq;try clear wm;try clear yy;try clear map;try clear ab6;try clear bO;try clear (dR k);try clear X;try clear y;try clear Y;try clear G
  refine aH (bN (Z.kind H s.toks (fun t s'=>t=κ∧∃d,s'={s with heap:=H,toks:=d}) keep fun d=>⟨rfl,d,rfl⟩) ?_ fun _ _ x=>x.elim);rintro t s' ⟨rfl,d,rfl⟩;refine nn fun B=>?_;obtain ⟨q,eq,gq,sq⟩:=aB8 st (bE 0x18c5203a41a301 L);refine B ?_;refine aH (bN (kat_run (Q:=fun z s'=>∃p:Array Nat,arrOf z=p.map (kas_item (vs.toArray.zip vs.toArray))∧failedOf z=none∧p=q∧∃d,s'={s with heap:=H,toks:=d})
   rfl L u (fun p' z s' a1 a2 a3 a4=>⟨p',a2,a3,a4⟩)
   (eq.wp (fun i j C s' hi J I N hC=>?_) (fun s' N=>⟨rfl,N⟩) _ ⟨d,rfl⟩)) ?_ fun _ _ e=>e)
  ·obtain ⟨O,rfl⟩:=N;exact Z.cmp H O i j C keep hi J I fun R=>hC _ ⟨R,rfl⟩
  ·rintro ⟨⟨⟩,z⟩ s' ⟨p,T,hf,rfl,O,rfl⟩;dsimp only;rw [(kat_snds rfl T)];refine aH (seqEpoch_at l rfl ?_);refine aH (listUpdate_at l rfl ?_ (bW _) (by simp only [nB,bF,vK,gq.size,nV];exact bE 0xc62941f18c6318c60e056307001 u));rw [hf];simp only [bne_self_eq_false,mH];exact bC (fin p O gq sq)
noncomputable abbrev K3:=Int×Int×Int
noncomputable def Cy(x y:K3):Bool:=decide (x.1<y.1)|| (decide (x.1=y.1)&& (decide (x.2.1<y.2.1)|| (decide (x.2.1=y.2.1)&&decide (x.2.2<y.2.2))))
theorem A8:Cy x y=true↔x.1<y.1∨(x.1=y.1∧(x.2.1<y.2.1∨(x.2.1=y.2.1∧x.2.2<y.2.2))):=by simp [Cy]
theorem E0(a:Cy x y=true)(b:Cy y z=true):Cy x z=true:=by
 rw [A8]at *;rcases a with a|⟨c,a⟩<;>rcases b with b|⟨d,b⟩
 ·exact .inl (Y5 a b)
 ·exact .inl (d▸a)
 ·exact .inl (by rw [c];exact b)
 ·refine .inr ⟨c.trans d,?_⟩;rcases a with a|⟨e,a⟩<;>rcases b with b|⟨f,b⟩
  ·exact .inl (Y5 a b)
  ·exact .inl (f▸a)
  ·exact .inl (by rw [e];exact b)
  ·exact .inr ⟨e.trans f,Y5 a b⟩
theorem Va(h:x≠y)(g:Cy x y=false):Cy y x=true:=by
 obtain ⟨a,b,c⟩:=x;obtain ⟨d,b',e⟩:=y;rw [A8];have f:¬Cy (a,b,c) (d,b',e)=true:=by rw [g];simp
 rw [A8]at f;rcases I6 d a with q|q|q
 ·exact .inl q
 ·refine .inr ⟨q,?_⟩;rcases I6 b' b with r|r|r
  ·exact .inl r
  ·refine .inr ⟨r,?_⟩;rcases I6 e c with u|u|u
   ·exact u
   ·exact absurd (show (a,b,c)=(d,b',e) by rw [show d=a from q,show b'=b from r,show e=c from u]) h
   ·exact absurd (.inr ⟨Eq.symm q,.inr ⟨Eq.symm r,u⟩⟩) f
  ·exact absurd (.inr ⟨Eq.symm q,.inl r⟩) f
 ·exact absurd (.inl q) f
theorem aAg:Cy x x=false:=by
 cases h:Cy x x with
 |false=>rfl
 |true=>rw [A8]at h;exact fJ (bE 0x4c6326b1acb090715c21b05070dc00b0107030 h)
noncomputable def S2(x:K3×V):List (K3×V)→List (K3×V)
 |[]=>[x]
 |y::r=>if Cy x.1 y.1=true then x::y::r else y::S2 x r
theorem Mi:S2 x []=([x]):=rfl
theorem Mh:S2 x (y::r)=(if Cy x.1 y.1=true then x::y::r else y::S2 x r):=rfl
def isK:List (K3×V)→List (K3×V)
 |[]=>[]
 |x::r=>S2 x (isK r)
theorem Kp(x:K3×V):∀l,(S2 x l).Perm (x::l):=by
 intro a
 induction a with
 |nil=>exact .refl _
 |cons y r b=>
  simp only [Mi,Mh];split
  ·exact .refl _
  ·exact ((b).cons y).trans (.swap _ _ _)
theorem Dk:∀l,(isK l).Perm l:=by
 intro a
 induction a with
 |nil=>exact .refl _
 |cons x r b=>exact (Kp x _).trans ((b).cons x)
def SK:List (K3×V)→Prop:=aM4 fun x y=>Cy x.1 y.1=true
theorem Pk(x:K3×V):∀l,SK l→(∀y∈l,x.1≠y.1)→SK (S2 x l):=by
 intro c
 induction c with
 |nil=>intro _ _;simp [Mi,Mh,SK]
 |cons y r d=>
  intro h b;simp only [Mi,Mh];have h':=eM.mp h;split
  ·rename_i q;refine eM.mpr ⟨fun z a=>?_,h⟩;rcases aU.mp a with rfl|a
   ·exact q
   ·exact E0 q (h'.1 z a)
  ·rename_i q;refine eM.mpr ⟨fun z a=>?_,d h'.2 fun z a=>b z (aQ _ a)⟩;rcases aU.mp ((Kp x r).mem_iff.mp a)with rfl|a
   ·exact Va (b y aR) (by simpa using q)
   ·exact h'.1 z a
theorem Ck:∀l,(l.map (·.1)).Nodup→SK (isK l):=by
 intro a
 induction a with
 |nil=>intro _;exact Ob
 |cons x r b=>intro h;simp only [cS,mX]at h;refine Pk x _ (b h.2) fun y c e=>h.1 ?_;rw [e];exact qG.mpr ⟨y,(Dk r).mem_iff.mp c,rfl⟩
theorem Em:∀{l l':List (K3×V)},SK l→SK l'→l.Perm l'→l=l':=by
 intro c
 induction c with
 |nil=>intro l';intro _;intro _;intro p;exact (aM3.mp p.symm).symm
 |cons x r d=>
  intro f
  cases f with
  |nil=>intro _;intro _;intro p;have:=aM3.mp p;cases this
  |cons y g=>
   intro h;intro h';intro p;have a:=eM.mp h;have b:=eM.mp h';have e:x=y:=by
    rcases aU.mp (p.mem_iff.mp aR)with q|q
    ·exact q
    ·rcases aU.mp (p.mem_iff.mpr (aR))with z|z
     ·exact z.symm
     ·have:=E0 (a.1 y z) (b.1 x q);rw [aAg]at this;cases this
   subst e;rw [d a.2 b.2 (List.perm_cons x |>.mp p)]
def Pj(k:V→Option K3):cG→Option (List (K3×V))
 |[]=>some []
 |v::r=>ob (k v) fun x=>ob (Pj k r) fun l=>some ((x,v)::l)
theorem Vh{k:V→Option K3}:Pj k (v::r)=(ob (k v) fun x=>ob (Pj k r) fun l=>some ((x,v)::l)):=rfl
theorem Pi{k:V→Option K3}:∀{l:cG}{c:List (K3×V)},Pj k l=some c→c.map (·.2)=l∧∀x∈c,k x.2=some x.1:=by
 intro l
 induction l with
 |nil=>intro c e;refine oQ e ?_;rintro rfl;exact ⟨rfl,fun _ h=>by cases h⟩
 |cons v r f=>
  intro c e;obtain ⟨x,g,e⟩:=dO e;obtain ⟨l,i,e⟩:=dO e;refine oQ e ?_;rintro rfl;obtain ⟨a,b⟩:=f i;exact ⟨by simp [a],fun y d=>by
   rcases aU.mp d with rfl|d
   ·exact g
   ·exact b y d⟩
noncomputable def ô(kl:List (K3×V))(i j:Nat):Bool:=Cy ((kl.map (·.1)).getD i (0,0,0)) ((kl.map (·.1)).getD j (0,0,0))
theorem Fn(h:(c.map (·.1)).Nodup):qA (ô c) c.length where
 tr:=fun i j k _ _ _ a b=>E0 a b
 tot:=fun i j hi d f e=>by
  refine Va (fun q=>f ?_) e;have l1:i<(c.map (·.1)).length:=by simpa using hi
  have l2:j<(c.map (·.1)).length:=by simpa using d
  refine (pL l1 h).mp ?_;rw [aT,aT,bK l1,bK l2]at q;rw [bK l1,bK l2];simpa using q
theorem Hn{a:Type}(d:a):∀(l:List a),(kN l.length).map (fun i=>l.getD i d)=l:=fun l=>by
 apply List.ext_getElem
 ·simp
 ·intro i b c;simp at b;simp [b]
theorem Os(h:(a.map (·.1)).Nodup)(g:sL a.length p)(s:Qt (ô a) p a.length):p.toList.map (fun i=>(a.map (·.2)).getD i .none)=(isK a).map (·.2):=by
 have e:p.toList.map (fun i=>a.getD i ((0,0,0),.none))=isK a:=by
  refine Em ?_ (Ck a h) (((g.perm.map _).trans (by rw [Hn])).trans (Dk a).symm);unfold SK;rw [Q9];intro i j hi b f;simp only [bF,vK,g.size]at hi b;have:=s i j f b;simp only [List.getElem_map];have k:i<p.size:=by rw [g.size];exact hi
  have l:j<p.size:=by rw [g.size];exact b
  have c:=g.bd hi;have d:=g.bd b;simp only [ô,ť,k,l,dif_pos]at this c d;simp only [Array.getElem_toList];have m:p[i]<a.length:=by simpa using c
  have n:p[j]<a.length:=by simpa using d
  simpa [aT,m,n]using this
 rw [←e,tB];refine Ť fun i hi=>?_;have:i<a.length:=by simpa using (g.perm.mem_iff.mp hi)
 simp [aT,this]
inductive F2{α β:Type}(R:α→β→Prop):List α→List β→Prop where
 |nil:F2 R [] []
 |cons {x:α} {y:β} {l:List α} {m:List β} (h:R x y) (r:F2 R l m):F2 R (x::l) (y::m)
def aA5:V→Option K3:=fun v=>ob (Jy v) (aI3 fun a b c _=>some (a,b,c))
inductive T0(h:dS)(v:bO)(k:K3):Prop
 |mk (x:cY) (ts:gI) (n t1 t2 t3:Nat) (e:v=.ref x) (p:IsT h x (bD (.int k.1 t1::.int k.2.1 t2::.int k.2.2 t3::ts)) n)
theorem ŷ{Y:iK}(e:aA5 v=some k)(r:gQ D Y h v u):T0 h u k∧∃x,u=.ref x∧¬Y x:=by revert r;refine U2 e ?_;clear e;intro l e;refine Nl e ?_;clear e;intro a b c t e r;refine oQ e ?_;rintro rfl;refine nn fun d=>?_;obtain ⟨x,xs,rfl,nx,⟨n,f⟩,_,_,rfl,⟨g,rfl⟩,_,_,rfl,⟨i,rfl⟩,_,j,rfl,⟨m,rfl⟩,_⟩:=r;refine d ?_;exact ⟨⟨x,j,n,g,i,m,rfl,f⟩,x,rfl,nx⟩
section
variable{A:lL}{s:dI}
theorem aCq{C:Bool→tX}{E:sX}(x:T0 s.heap u k)(y:T0 s.heap v g)(j:k≠g)(q:∀l,C (Cy k g) {s with toks:=l}):bX (model prog w) A (keyLt' (tuples' true) u v) C E s:=by
 obtain ⟨x,F,n,G,H,I,rfl,m⟩:=x;obtain ⟨y,o,J,p,r,t,rfl,B⟩:=y;refine nn fun D=>?_;obtain ⟨a,b,c⟩:=k;obtain ⟨f,b',e⟩:=g;refine D ?_;have d:=q s.toks;refine kat_lt m rfl B rfl ?_;refine kat_cons (lD ?_);by_cases h:a=f
 ·subst h;rw [show (a==a)=true by simp];refine kat_yes (kat_cons (lD ?_));by_cases i:b=b'
  ·subst i;rw [show (b==b)=true by simp];refine kat_yes (kat_cons (lD ?_));rw [show (c==e)=false by simpa using (fun z=>j (by rw [z]))];refine kat_no ?_;have:Cy (a,b,c) (a,b,e)=decide (c<e):=by simp [Cy]
   simp only [this]at d;exact kat_one _ _ (aDd d)
  ·simp only [show (b==b')=false by simpa using i];refine kat_no ?_;have:Cy (a,b,c) (a,b',e)=decide (b<b'):=by simp [Cy,i]
   simp only [this]at d;exact kat_one _ _ (aDd d)
 ·simp only [show (a==f)=false by simpa using h];refine kat_no ?_;have:Cy (a,b,c) (f,b',e)=decide (a<f):=by simp [Cy,h]
  simp only [this]at d;exact oneLt_int d
end
theorem At(c:∀b o,b≠a→h.get? b=some o→H.get? b=some o)(x:T0 h v k)(d:v≠.ref a):T0 H v k:=by obtain ⟨x,e,n,f,g,i,rfl,j⟩:=x;exact ⟨x,e,n,f,g,i,rfl,c x _ (fun q=>d (by exact q▸rfl)) j⟩
theorem Sy(x:F2 (T0 h) vs ks):∃d,KatTups h vs d∧d.length=vs.length∧∀f∈d,∃i t,f=C0 i t:=by
 induction x with
 |nil=>exact ⟨[],trivial,rfl,fun _ q=>by cases q⟩
 |cons h _ e=>
  obtain ⟨x,k,n,l,m,o,rfl,g⟩:=h;refine nn fun j=>?_;obtain ⟨d,a,b,c⟩:=e;refine j ?_;exact ⟨_::d,KatTups.cons g rfl rfl rfl a,congrArg Nat.succ b,fun f q=>by
   rcases aU.mp q with rfl|q
   ·exact ⟨_,_,rfl⟩
   ·exact c f q⟩
theorem E5{a b:Type}{R:a→b→Prop}{d:a}{e:b}{l:List a}{m:List b}(x:F2 R l m):∀{i:Nat},i<l.length→R (l.getD i d) (m.getD i e):=by
 induction x with
 |nil=>exact fun h=>absurd h (fS _)
 |cons h _ c=>
  intro i hi
  cases i with
  |zero=>exact h
  |succ i=>exact c (Br hi)
theorem Mz{a b:Type}{R:a→b→Prop}{l:List a}{m:List b}(x:F2 R l m):l.length=m.length:=by
 induction x with
 |nil=>rfl
 |cons _ _ c=>exact congrArg Nat.succ c
theorem Tk{b c:Type}{R R':b→c→Prop}{l:List b}{m:List c}(h:∀x∈l,∀y,R x y→R' x y)(x:F2 R l m):F2 R' l m:=by
 induction x with
 |nil=>exact .nil
 |cons a _ d=>exact .cons (h _ aR _ a) (d fun x e=>h x (aQ _ e))
theorem ą{Y:iK}{g:V→Option K3}{P:bO→K3→Prop}(i:∀{v:V}{u:bO}{k:K3},g v=some k→gQ D Y h v u→P u k∧∃x,u=.ref x∧¬Y x):∀{l:cG}{f:List (K3×V)}{vs:gI},Pj g l=some f→bS D Y h l vs→F2 P vs (f.map (·.1))∧∀v∈vs,∃x,v=.ref x∧¬Y x:=by
 intro l
 induction l with
 |nil=>intro f vs e r;refine oQ e ?_;rintro rfl;cases r;exact ⟨.nil,fun _ q=>by cases q⟩
 |cons d l j=>
  intro f vs e r;replace e:=dO e;obtain ⟨x,m,e⟩:=e;replace e:=dO e;obtain ⟨l',n,e⟩:=e;refine oQ e ?_;rintro rfl;obtain ⟨u,us,rfl,r1,o⟩:=r;obtain ⟨a,b⟩:=j n o;obtain ⟨c,z⟩:=i m r1;exact ⟨.cons c a,fun v q=>by
   rcases aU.mp q with rfl|q
   ·exact z
   ·exact b v q⟩
theorem Yo{s:dI}(k:2≤vs.length)(f:F2 (T0 s.heap) vs (b.map (·.1)))(d:∀v∈vs,v≠.ref a)(l:(b.map (·.1)).Nodup):Wr A s a vs (tuples' true) (ô b)where
 kind:=fun H tk Q c q=>by
  refine nn fun m=>?_;obtain ⟨F,n,o,p⟩:=Sy (Tk (fun x r y t=>At c t (d x r)) f);refine m ?_;refine kat_kind (T:=.type "int") n (bE 0x3462a099600a41a302 k o) (fun v u=>?_) (by decide) ?_
  ·obtain ⟨i,t,rfl⟩:=p v u;exact lW rfl
  ·exact q tk
 cmp:=fun H tk i j C c hi e B q=>by
  have g:∀i,i<vs.length→vs.getD i jO∈vs:=fun i hi=>by simp [aT,hi]
  refine aCq (At c (E5 f hi) (d _ (g i hi))) (At c (E5 f e) (d _ (g j e))) (fun z=>B ?_) fun D=>q D;have h:=Mz f;have l1:i<(b.map (·.1)).length:=bE û hi h;have l2:j<(b.map (·.1)).length:=bE û e h;refine (pL l1 l).mp ?_;simp only [aT,bK l1,bK l2]at z;simp only [bK l1,bK l2];simpa using z
section
set_option backward.match.sparseCases false
def Hb(k:V→Option K3)(l:cG):Option cG:=ob (Pj k l) fun kl=>if (kl.map (·.1)).Nodup∧kl.length<64 then some ((isK kl).map (·.2))else aF
def Wc:qR:=fun us σ=>aV (fun a=>aN (ob (Gz σ a) fun l=>ob (Hb aA5 l) fun l'=>some (ê (.list l') σ))) us
section
variable{n:Nat}{F:Fx}
theorem W5{E:sX}{s:dI}{lt:Nat→Nat→Bool}{Q:sX}(r:s.heap.IsList l vs.toArray)(d:vs.length<64)(st:qA lt vs.length)
  (c:∀f,(∀b o,s.heap.get? b=some o→f.get? b=some o)→2≤vs.length→Wr A.in1.in1 {s with heap:=f} (s.heap.objs.size+1) vs κ lt)
  (h:∀(p:Array Nat) h' e,sL vs.length p→Qt lt p vs.length→(∀b o,s.heap.get? b=some o→h'.get? b=some o)→(∃m,h'.get? (s.heap.objs.size+1)=some (seqObj "list" (bD (p.toList.map fun i=>vs.getD i jO)) m))→Q (.ref (s.heap.objs.size+1)) {s with heap:=h',toks:=e}):
  bX (model prog w) A (call (.builtin "sorted") [.ref l]) Q E s:=by
 refine Oc kind_sorted plain_sorted entry_sorted (args_sorted1 _) ?_;unfold Nu.«sorted»;refine aH (bC ?_);refine aH (collect_list r ?_ (by rw [nV];exact bE aAx d));refine aH (wpAny_newList ?_ (by rw [nV];exact bE aAx d));have j:((s.heap.push (seqObj "list" #[] 0)).update s.heap.objs.size (iQ (·++vs.toArray))).objs.size=s.heap.objs.size+1:=by simp only [Heap.size_update,size_push']
 generalize k:((s.heap.push (seqObj "list" #[] 0)).update s.heap.objs.size (iQ (·++vs.toArray))).push (seqObj "list" vs.toArray 0)=H;have a:H.get? (s.heap.objs.size+1)=some (seqObj "list" vs.toArray 0):=by simp only [←k,←j];exact cF _ rfl
 have keep:∀b o,s.heap.get? b=some o→H.get? b=some o:=fun b o q=>by rw [←k];exact cK _ ((gO _ _ (rN (fW (dR q)))).trans (cK _ q))
 refine (?_:bX _ _ _ _ _ {s with heap:=H});refine j▸?_;refine aH (cJ (mT slot_list_sort ⟨_,a,rfl⟩ entry_list_sort (Di (κ:=κ) a d st (c H keep) fun p h' e g t u v=>⟨_,rfl,?_⟩) (args_list_sort _)));exact bC ⟨_,rfl,h p h' e g t (fun b o q=>u b o (fun z=>absurd (z▸dR q) (nN.mpr (fI _))) (keep b o q)) v⟩
theorem bS.pick{Y:iK}(r:bS D Y h l vs):∀{p:nM},(∀i∈p,i<l.length)→bS D Y h (p.map fun i=>l.getD i .none) (p.map fun i=>vs.getD i jO)
 |[],_=>bS.nil
 |i::p,a=>by
  refine nn fun b=>?_;obtain ⟨x,c,e⟩:=r.get (i:=i) (d:=l.getD i .none) (by simp [aT,(a i aR)]);refine b ?_;have:vs.getD i jO=x:=by simp [aT,c]
  simp only [cS];simp only [this];exact .cons e (r.pick fun j f=>a j (aQ _ f))
theorem Sk:B2 n F (.builtin "sorted") Wc:=fun us σ r σ' e=>by
 refine pB e fun v _ e=>?_;refine pM e fun e=>?_
 ·refine nn fun s=>?_;obtain ⟨l,Q,e⟩:=dO e;obtain ⟨l',f,e⟩:=dO e;replace f:=dO f;obtain ⟨H,I,f⟩:=f;refine s ?_;split at f
  ·rename_i R;refine nn fun s=>?_;obtain ⟨z,T⟩:=R;refine s ?_;refine oQ f ?_;rintro rfl;intro A X D h tk ws ok m r;simp only [pJ,pI]at r;obtain ⟨u,_,rfl,r1,rfl⟩:=r;obtain ⟨a,vs,k,rfl,B,J⟩:=Bw m Q r1;obtain ⟨C,ca⟩:=ą ŷ I J;have G:vs.length=H.length:=by simp only [Mz C];simp
   have L:=(Pi I).1.symm;have N:∀v∈vs,v≠.ref (h.objs.size+1):=fun v W q=>by subst q;obtain ⟨i,hi,Y⟩:=lN W;obtain ⟨x,ts,nn,t1,t2,t3,ex,Z⟩:=E5 (d:=jO) (e:=(0,0,0)) C hi;replace ex:=(aT)▸ex;replace ex:=(bK hi)▸ex;replace ex:=Y▸ex;cases ex;exact absurd (dR Z) (nN.mpr (fI _))
   refine W5 (κ:=tuples' true) B.isList (bE aEn T G) (by simp only [G];exact Fn z) (fun h1 sn h2=>?_) fun p h' ao g O hk j=>?_
   ·exact Yo h2 (Tk (fun x B y t=>At (fun b o _ e=>sn b o e) t (N x B)) C) N z
   ·rw [G]at g O;have P:=J.pick fun i hi=>by have:=g.perm.mem_iff.mp hi;refine L▸?_;simpa using this
    rw [L,(Os z g O)]at P;obtain ⟨mm,j⟩:=j;have rc:h.get? (h.objs.size+1)=aF:=by
     cases q:h.get? (h.objs.size+1)with
     |none=>rfl
     |some o=>exact absurd (dR q) (nN.mpr (fI _))
    obtain ⟨m',bv⟩:=m.cell (c:=.list ((isK H).map (·.2))) hk rc ⟨_,j⟩ (fun D' Y' hr d7=>⟨_,⟨mm,j⟩,d7 _ _ P⟩);exact ⟨h',ao,_,_,_,rfl,bv,m',by exact ⟨_,rfl,by simp [fN,fM]⟩,.of e⟩
  ·exact iE f
end
end
section
open PySem PySem.W PyProof.Rows PySem.Calls
section
variable{M:ŭ}{A:lL}{α:Type}{Q:α→tX}{E:sX}{s:dI}{x y:Fd α}
theorem Rk(h:bX M A x Q E s):bX M A (if true=true then x else y) Q E s:=by rw [if_pos rfl];exact h
theorem Rn(h:bX M A y Q E s):bX M A (if false=true then x else y) Q E s:=by rw [if_neg aY];exact h
theorem Rl(e:c=true)(h:bX M A x Q E s):bX M A (if c=true then x else y) Q E s:=by rw [if_pos e];exact h
theorem Rm(e:c=false)(h:bX M A y Q E s):bX M A (if c=true then x else y) Q E s:=by rw [if_neg (by rw [e];exact aY)];exact h
theorem Uc(h:bX M A y Q E s):bX M A (if (!true)=true then x else y) Q E s:=Rn h
theorem Ud(h:bX M A x Q E s):bX M A (if (!false)=true then x else y) Q E s:=Rk h
theorem Ue{b:Type}[BEq b][LawfulBEq b]{a:b}(h:bX M A x Q E s):bX M A (if (a==a)=true then x else y) Q E s:=by refine (if_pos (beq_self_eq_true a))▸?_;exact h
theorem Ub{b:Type}[BEq b][LawfulBEq b]{a:b}(h:bX M A y Q E s):bX M A (if (a != a)=true then x else y) Q E s:=by rw [if_neg (by rw [bne_self_eq_false];exact aY)];exact h
end
structure zG(K:Aq)(pn fn pm fm:cY):Prop where
 obj:∃oc od cd sl,K.lookup rY=some ⟨oc,od,.cls cd,sl⟩∧cd.abstract=false∧cd.hasDel=false∧cd.mro=[.ref rY,.type "tuple",.type "object"]∧cd.bases=[.type "tuple"]∧sl.toList[4]?=some (some .none)
 call:specialIn K (.ref rY) "__call__"=some (some (.builtin "type.__call__"))
 typ:instIn K (.ref rY) (.type "type")=some true
 init:findIn K (.ref rY) "__init__"=some (some (.builtin "object.__init__"))
 reads:readsIn K rY (.type "type")=true
 new:findCls K (.ref rY) (.type "type") "__new__"=some (.get (.builtin "staticmethod.__get__") (.ref pn) .none (.ref rY))
 newR:∃bp,recIn K pn "staticmethod"=some (.ref fn::bp)
 tnew:findCls K (.type "tuple") (.type "type") "__new__"=some (.val (.builtin "tuple.__new__"))
 make:findCls K (.ref rY) (.type "type") "_make"=some (.get (.builtin "classmethod.__get__") (.ref pm) .none (.ref rY))
 makeR:∃bp,recIn K pm "classmethod"=some (.ref fm::bp)
 iter:findIn K (.ref rY) "__iter__"=some (some (.builtin "tuple.__iter__"))
 lt:findIn K (.ref rY) "__lt__"=some (some (.builtin "tuple.__lt__"))
section
variable{A:lL}{E:sX}{s:dI}{K:Aq}{pn fn pm fm:cY}
theorem Gp{M:ŭ}{h:dS}(X:K.In h)(c:zG K pn fn pm fm):sS M h (aPg (.ref rY)) none:=by refine nn fun d=>?_;obtain ⟨oc,od,a,g,b,i,j,e,l,f⟩:=c.obj;refine d ?_;intro A Q E s k q;refine aH (((looks_clsIn X (by unfold clsIn;exact b▸rfl:clsIn K rY=some a)).andThen .now:sS M h (mroOf (.ref rY)) a.mro) A _ E s k ?_);refine e▸?_;rw [oU];refine aH (aH (aH (aH (wpAny_loadPart (k _ _ (X _ _ b)) (bC ?_)))));dsimp only;refine (Array.getElem?_toList)▸?_;refine f▸?_;exact bC (bC (bC q))
theorem Tu:aPf [.type "tuple"]=pure (.type "tuple"):=by kernel_rfl
theorem aAc{M:ŭ}{h:dS}(X:K.In h)(c:zG K pn fn pm fm):sS M h (Bind.staticBase (.ref rY)) (.type "tuple"):=by
 refine nn fun d=>?_;obtain ⟨oc,od,a,i,e,j,l,f,g,m⟩:=c.obj;refine d ?_;have b:clsIn K rY=some a:=by unfold clsIn;exact e▸rfl
 intro A Q E s k q;refine aH (((looks_clsIn X b).andThen .now:sS M h (mroOf (.ref rY)) a.mro) A _ E s k ?_);refine f▸?_;rw [oU];refine aH (aH (aH ((Gp X c) A _ E s k ?_)));dsimp only;refine aH ((looks_clsIn X b) A _ E s k ?_);refine g▸?_;refine Tu▸?_;refine bC ?_;dsimp only;rw [oU];refine PySem.F.called_tuple.made▸?_;exact aH (aH (bC (bC (bC (bC q)))))
theorem Ey{M:ŭ}{h:dS}(X:K.In h)(c:zG K pn fn pm fm){b:bO}(a:[mV rY,.type "tuple",.type "object"].contains b=true):sS M h (Cx (.ref rY) b) true:=by refine nn fun d=>?_;obtain ⟨oc,od,e,i,f,j,k,g,l,m⟩:=c.obj;refine d ?_;refine looks_mroIn X ?_;unfold mroIn;refine ((by unfold clsIn;rw [f]:clsIn K rY=some e))▸?_;rw [Option.bind_some,g,if_neg (by decide),a]
theorem Xw:builtinKind "tuple.__new__"=some .builtinFn:=by decide+kernel
theorem Sc:splitId "tuple.__new__"=some ("tuple","__new__"):=by decide+kernel
theorem Sh:plainId "tuple.__new__"=true:=by decide+kernel
theorem Ç:Manifest.signature? "tuple.__new__"=some ⟨.constructor,"tuple","tuple",.cls,[⟨"iterable",.posOnly,false⟩]⟩:=by kernel_rfl
theorem ň(a b:bO):aJb "tuple.__new__" ⟨.constructor,"tuple","tuple",.cls,[⟨"iterable",.posOnly,false⟩]⟩ ⟨[a,b],[]⟩=pure ():=by kernel_rfl
theorem aAb{M:ŭ}{h:dS}(X:K.In h)(c:zG K pn fn pm fm):sS M h (isType (.ref rY)) true:=by refine nn fun a=>?_;obtain ⟨oc,od,d,e,b,_⟩:=c.obj;refine a ?_;exact (Nr (X _ _ b)).andThen .now
theorem ż{R:xW→tX}{t:cY}{items:Array bO}(X:K.In s.heap)(c:zG K pn fn pm fm)(k:s.heap.IsTuple t items)(j:items.size≤1000)
  (q:∀h' l x,(∀b o,s.heap.get? b=some o→h'.get? b=some o)→s.heap.get? x=aF→Bn h' x items→R (.ok (.ret (.ref x))) {s with heap:=h',toks:=l}):kC (model prog w) A (.call (.builtin "tuple.__new__") ⟨[.ref rY,.ref t],[]⟩) R s:=by
 have v:=X;obtain ⟨f,g,d,tk,os⟩:=s;have B:=Gp (M:=model prog w) X c;have base:=aAc (M:=model prog w) X c;have typ:=aAb (M:=model prog w) X c;have m:sS (model prog w) f (aPg (.type "tuple")) (some "tuple.__new__"):=lW PySem.F.called_tuple.made;have chk:sS (model prog w) f (aJb "tuple.__new__" ⟨.constructor,"tuple","tuple",.cls,[⟨"iterable",.posOnly,false⟩]⟩ ⟨[.ref rY,.ref t],[]⟩) ():=lW (ň _ _);have sub:=Ey (M:=model prog w) X c (b:=.type "tuple") (by decide);refine codeAny_call_builtin_code (Ű _ (by decide+kernel)) ?_;rw [checkBuiltinCall,Xw,Sc];refine Ç▸?_;repeat (first|(with_reducible refine Uc ?_)|(with_reducible refine Ue ?_)|(with_reducible refine Ub ?_)|(with_reducible refine Rk ?_)|(with_reducible refine Rn ?_)|(with_reducible refine Ud ?_)|lk)
 refine Ef PySem.F.entry_tuple_new ?_;rw [Wt Sh _];unfold Nu.«tuple.__new__»;have hi:=looks_findIn (M:=model prog w) X c.init;refine nn fun n=>?_;obtain ⟨o,p,r,nn,hd⟩:=k;refine n ?_;repeat (first|(with_reducible refine wpAny_collect_seq t (T:="tuple") (.inr rfl) p r hd ?_ ?_)|(with_reducible refine Uc ?_)|(with_reducible refine Ue ?_)|(with_reducible refine Ub ?_)|(with_reducible refine Rk ?_)|(with_reducible refine Rn ?_)|(with_reducible refine Ud ?_)|lk)
 ·intro a h;have X1:=(fun a h=>X.keeps h:∀(a:dS),(∀b o,f.get? b=some o→a.get? b=some o)→K.In a) a h;obtain ⟨oc,od,C,D,i,F,u,G,H,I⟩:=c.obj;refine aH (bC (aH (wpAny_alloc (aH ?_))));unfold newObj;dsimp only;refine (if_neg (by simp only [nV];simp;exact bE aKs j:¬(items.toList.toArray.size>iC)))▸?_;refine aH (wpAny_alloc ?_);dsimp only;refine aH (aH (J4 (cK _ (cK _ (X1 _ _ i))) (bC ?_)));refine u▸?_;refine bC (bC ?_);refine q _ _ _ (fun b o e=>cK _ (cK _ (h b o e))) ?_ ⟨_,cF _ rfl,rfl,_,rfl⟩;refine (?_:f.get? _=aF)
  cases z:f.get? (a.push {cls:=mF "dict",data:=Data.dict #[]}).objs.size with
  |none=>rfl
  |some J=>have:=dR (h _ _ z);rw [gS]at this;exact absurd this (nN.mpr (fI _))
 ·simp only [nV];exact bE aKs j
end
end
section
open PySem PySem.W PyProof.Rows PySem.Calls
def Ģ(ga:M cG):M V:=fun σ=>bd (ga σ) fun us σ=>aV (fun u=>aV fun t=>aN (ob (aMl u) fun v=>ob (Jy t) fun l=>if v=.ref rY∧l.length≤1000 then some (.mt l,σ)else aF)) us
section
variable{n:Nat}{F:Fx}{K:Aq}{pn fn pm fm:cY}
theorem W1:findIn K (.type "type") "__getattribute__"=some (some (.builtin "type.__getattribute__")):=by kernel_rfl
theorem X8{E:sX}{s:dI}{Q:bO×gI→tX}(X:K.In s.heap)(c:zG K pn fn pm fm)(h:∀tk,Q (.builtin "tuple.__new__",[]) {s with toks:=tk}):
  bX (model prog w) A (getMethod (.type "tuple") (aC "__new__") b) Q E s:=by
 have L0:sS (model prog w) s.heap (typeOf (.type "tuple")) (.type "type"):=lW (by first|rfl|kernel_rfl:typeOf (.type "tuple")=pure (.type "type"));have a:findIn K (.type "type") "__getattribute__"=some (some (.builtin "type.__getattribute__")):=W1;refine aH (aH (L0.here ((looks_findIn X a).here ?_)));dsimp only;refine aH (bN ?_ (fun _ _ z=>bC z) fun _ _ z=>z);refine cls_open X (lW (by unfold opaqueClassAbove;dsimp only;rfl:opaqueClassAbove (.type "tuple")=pure none)) L0 a (looks_hook X (by rfl)) (by rfl) c.tnew ?_;refine bC ?_;refine (?_:bX _ _ (handedOut (.builtin "tuple.__new__")) _ _ _);exact bC (h _)
theorem Pm(r:K.In S.heap)(c:zG K pn fn pm fm)(x:lM n F o (gK (.fn (.type "tuple"))))(s:oW F args)(y:zH n F a args C)
  (G:eval (.Call (.Attribute o (aC "__new__") u) args [] a) F.env=(do
   let d←eval o F.env
   lV u.atName
   let (f,first)←holding [d] (getMethod d (aC "__new__") Y)
   mW a f first (backTo a (eC args F.env)) [])):lM n F (.Call (.Attribute o (aC "__new__") u) args [] a) (Ģ C):=fun σ v σ' q=>by
 replace q:=eG q;obtain ⟨us,σ₁,g,q⟩:=q;revert g;refine pB q ?_;clear q;intro _ _ q;refine pB q ?_;clear q;intro _ _ q;refine pM q ?_;clear q;intro q;refine aJ7 q ?_;clear q;intro Z q;refine U2 q ?_;clear q;intro l q;obtain ⟨⟨H,I⟩,q9⟩:=iS q;cases H;refine I8 q9 ?_;rintro rfl rfl g;intro A X D h tk vs ok m _;refine aIu (TW.atE (x σ _ _ rfl) ok m bS.nil ?_) G;rintro d h₀ g8 D₀ J m₀ L;cases L;refine X8 (r.keeps m₀.base) c fun i=>?_;refine (?_:bX _ _ _ _ _ (kD h₀ i));refine Ar (nR s) (Ő s (y _ _ _ g) ok m₀ ?_);rintro g6 h₁ ad D₁ N j O;obtain ⟨_,_,rfl,P,_,_,rfl,⟨t,xs,rfl,nt,⟨k,Q⟩,B⟩,R⟩:=O;cases P;cases R;refine kA (ż (r.keeps j.base) c ⟨_,Q,rfl,_,rfl⟩ (by simpa [B.length]using I) fun h' i z p T W=>?_);refine ⟨h',i,D₁,_,_,rfl,(J.trans N).trans (pC.grow p),j.grow p,?_,rfl,rfl⟩;refine ⟨z,xs,rfl,fun q=>?_,W,bS.step (fun b o e _=>p b o e) (fun _ _ e=>e) (fun _ e=>.inl e) _ _ B⟩;exact (j.yal q).no T
end
end
section
open PySem PySem.W PyProof.Rows PySem.Calls
section
variable{K:Aq}{pn fn pm fm:cY}
theorem Sr{s:dI}{R:xW→tX}(X₀:K.In h₀)(p:∀b o,h₀.get? b=some o→s.heap.get? b=some o)(c:zG K pn fn pm fm)(r:∀x,argsOk "object.__init__" ⟨.ref x::f,[]⟩)
  (u:∀tk,bX (model prog w) (A.under (.builtin "type.__call__" ⟨.ref rY::f,[]⟩)) (call (.ref fn) (.ref rY::f)) (fun v s'=>∃x items,v=.ref x∧(∀b o,h₀.get? b=some o→s'.heap.get? b=some o)∧Bn s'.heap x items∧R (.ok (.ret v)) s') (fun _ _=>False) {s with toks:=tk}):
  kC (model prog w) A (.call (.ref rY) ⟨f,[]⟩) R s:=by
 obtain ⟨oc,od,i,Q,h,T,W,y,Y,Z⟩:=c.obj;have X:=X₀.keeps p;have B:=X _ _ h;have C:=looks_specialIn (M:=model prog w) X c.call;have typ:=looks_instIn (M:=model prog w) X c.typ;have yz:=Gp (M:=model prog w) X c;have D:clsIn K rY=some i:=by unfold clsIn;rw [h]
 have hm:sS (model prog w) s.heap (mroOf (.ref rY)) i.mro:=(looks_clsIn X D).andThen .now;obtain ⟨hp,g,d,t,os⟩:=s;refine Ee ?_;refine nd_load B ?_;show bX _ _ (callAny.viaDunder (.ref rY) _) _ _ _;unfold callAny.viaDunder;refine aH (C.at ?_);dsimp only;rw [tc_bind];refine aH (bC (aH (bC ?_)));refine bC (a:=Fin.again (.call (.builtin "type.__call__") ⟨.ref rY::f,[]⟩)) (Wv rfl ?_);refine codeAny_call_builtin_at (Ű _ (by decide+kernel)) entry_typeCall (check_slot tc_kind tc_split typ (tc_args _ _ _) ?_);unfold Nu.«type.__call__»;have j:i.mro.isEmpty=false:=by rw [y];rfl
 obtain ⟨rr,k⟩:=c.newR;repeat (first|(with_reducible refine bN (u _) ?_ (fun _ _ z=>z.elim))|(with_reducible refine Rm j ?_)|(with_reducible refine cls_bind X c.reads c.new (kA (sm_get X k (handed_on rfl ?_))))|lk)
 rintro v ⟨h',g',d',t',G⟩ ⟨x,items,rfl,H,⟨I,l,J,nn,ut⟩,m⟩;have X':K.In h':=X₀.keeps H;have L:sS (model prog w) h' (typeOf (.ref x)) (.ref rY):=by have:=(Nr (M:=model prog w) (part:=none) l);have e:sS (model prog w) h' (typeOf (.ref x)) I.cls:=(Nr l).andThen .now;rwa[J]at e
 have s1:=Ey (M:=model prog w) X' c (b:=.ref rY) (by decide);have N:=Ey (M:=model prog w) X' c (b:=.type "object") (by decide);have i1:=looks_findIn (M:=model prog w) X' c.init;have b1:sS (model prog w) h' (bindSpecial (.builtin "object.__init__") (.ref x)) (.builtin "object.__init__",[.ref x]):=lW (oi_bind _);have O:=Gp (M:=model prog w) X' c;have P:sS (model prog w) h' (isInstance (.ref x) (.type "object")) true:=L.andThen N;unfold isInstance callSpecial? specialOf;repeat (first|(with_reducible refine kA ?_)|lk)
 refine qS oi_plain entry_oi (@check_slot (model prog w) _ _ _ "object.__init__" "object" "__init__" (.ref x) f [] _ oi_kind oi_split P (r x) ?_);unfold Nu.«object.__init__»
 cases f with
 |nil=>(repeat lk);exact m
 |cons r0 f=>(repeat lk);exact m
def Ń:qR:=fun us σ=>aI3 (fun a b c=>aN (some (.mt [.int a,.int b,.int c],σ))) us
theorem Ý(a b c d:bO):argsOk "object.__init__" ⟨[a,b,c,d],[]⟩:=by unfold argsOk;kernel_rfl
theorem wI.under(h:wI (n+1) A):wI n (A.under (.builtin "type.__call__" ⟨.ref rY::vs,[]⟩)):=by
 have hw:(G2 "type.__call__" ⟨.ref rY::vs,[]⟩).weight≤2:=by first|(show (1:Nat)≤2;decide)|(show (0:Nat)≤2;decide)|decide
 have a:(G2 "type.__call__" ⟨.ref rY::vs,[]⟩).cUnits≤4:=by first|(show (1:Nat)≤4;decide)|(show (4:Nat)≤4;decide)
 exact ⟨h.hd,by have:=h.dep;refine (?_:A.depth+_+2*n<_);exact bE aLd hw this,by have:=h.uni;refine (?_:A.units+_+10*n+100<_);exact bE aLm a this⟩
variable{n:Nat}{F:Fx}
theorem Xe(j:K.In S.heap)(c:zG K pn fn pm fm)(k:∀a b c:Int,Zb n (.ref fn) [.fn (.ref rY),.int a,.int b,.int c] (fun r=>r=.mt [.int a,.int b,.int c])):B2 (n+1) F (.ref rY) Ń:=fun us σ r σ' e=>by
 refine Nl e fun a b g _ e=>?_;refine pM e fun e=>?_;refine I8 e ?_;rintro rfl rfl;intro A X D h tk vs ok m r;obtain ⟨_,_,rfl,⟨l,rfl⟩,_,_,rfl,⟨o,rfl⟩,_,_,rfl,⟨s,rfl⟩,rfl⟩:=r;refine kA (Sr (j.keeps m.base) (fun _ _ e=>e) c (fun x=>Ý _ _ _ _) fun t=>?_);refine bN (k a b g _ (Yf F X D) h t [.ref rY,.int a l,.int b o,.int g s] ok.under m.base (fun b=>m.yal) ?_) (fun v s' p=>?_) fun _ _ z=>z
 ·exact ⟨_,_,rfl,rfl,_,_,rfl,⟨_,rfl⟩,_,_,rfl,⟨_,rfl⟩,_,_,rfl,⟨_,rfl⟩,rfl⟩
 ·obtain ⟨h',u,(r),rfl,d,y,i,rfl⟩:=p;have f:=i;refine nn fun B=>?_;obtain ⟨x,xs,rfl,nx,C,_⟩:=i;refine B ?_;exact ⟨x,_,rfl,d,C,h',u,D,σ,_,rfl,pC.grow d,m.grow d,gQ.stepP (fun _ _ e _=>e) (fun _ e=>.inl e) _ _ y f,rfl,rfl⟩
end
end
section
open PySem PySem.W PyProof.Rows PySem.Calls
theorem Bn.at(x:Bn h a items)(k:∀o,h.get? a=some o→h'.get? a=some o):Bn h' a items:=by obtain ⟨o,b,r⟩:=x;exact ⟨o,k o b,r⟩
section
variable{K:Aq}{pn fn pm fm:cY}
theorem U5{E:sX}{s:dI}{Q:Option bO→tX}(f:A.handled=aF)(d:s.heap.IsTupleIter a t i)(g:Bn s.heap t items)
  (h:∀x h',items[i]?=some x→h'.IsTupleIter a t (i+1)→qI a s.heap h'→Q (some x) {s with heap:=h'}) (j:∀h',items[i]?=aF→Zi a s.heap h'→Q aF {s with heap:=h'}):bX (model prog w) A (pyNext (.ref a)) Q E s:=by
 obtain ⟨o,b,k,hd⟩:=id d;obtain ⟨m,l,_,n,e⟩:=g;unfold pyNext;refine aH (ş (oR d.typeIs Fe (mT Fe d.typeIs PySem.F.entry_tuple_iterator_next ?_ (PySem.F.args_tuple_iterator_next_1 _))));show bX _ _ (field (.ref a) 0>>=_) _ _ s;refine aH (Ge b hd rfl ?_);show bX _ _ (if (mV t==jO)=true then _ else _) _ _ s;rw [if_neg (show ¬((mV t==jO)=true)from aY)];refine aH (Ge b hd rfl ?_);refine aH (zI l e ?_)
 cases c:items[i]? with
 |some x=>simp only [lJ,c];refine aH (wpAny_setField b hd (by simp) (bC ⟨x,rfl,bC (h x _ c ?_ (pD ..))⟩));exact ⟨_,kG _ b (Obj.isFreed_of_fields (aDf hd _)),(Obj.cls_mapFields ..).trans k,by rw [aDf hd];simp [rawInt]⟩
 |none=>
  simp only [lJ,c];refine aH (zJ (aH (wpAny_setField b hd (by simp) ?_)));refine aH ?_;simp only [newExc,newTuple];refine aH (uL ?_ (by size_fits));refine aH (wpAny_of_eq (by first|rfl|(simp only [firstArgMember];rfl)) ?_);refine uL ?_ (by size_fits);unfold raiseNew;refine aH (wpAny_handled ?_);first|rw [show A.in1.handled=none from f]|rw [f]
  refine aH (bC (wpAny_throw ?_));refine aH (aO7 ⟨_,cF _ rfl,rfl⟩ isSubtype_stop ?_);exact bC (j _ c (((pD ..).extBut.push _).push _))
theorem Zs(g:A.handled=aF)(I a:cY)(l:a≠I)(items:Array bO):
  Walks prog w A I [I,a] [I] items.size (fun i v=>items[i]?=some v) (fun i h=>h.IsTupleIter I a i∧Bn h a items)where
 sub:=fun b c=>by simp at c;simp [c]
 frame:=fun _ _ _ st j=>⟨st.1.at fun o e=>j I (by simp) o e,st.2.at fun o e=>j a (by simp) o e⟩
 item:=fun i s Q E hi st f=>U5 g st.1 st.2 (fun x h' d m k=>f _ h' s.toks d ⟨m,st.2.at fun o e=>(k.2 a l).trans e⟩ fun b o c e=>k.extBut b o (fun h=>c (by simp [h])) e) (fun h' d=>by simp at d;exact fJ (bE Sv hi d))
 done:=fun s Q E st f=>U5 g st.1 st.2 (fun x h' d=>by simp at d) fun h' _ n=>f h' s.toks fun b o c e=>n b o (fun h=>c (by simp [h])) e
 self:=fun _ _ _ _ st f=>wpAny_pyIter_tupleiter st.1 f
theorem rX{M:ŭ}{h:dS}{x:cY}{items:Array bO}(a:Bn h x items):sS M h (typeOf (.ref x)) (.ref rY):=by obtain ⟨o,b,c,_⟩:=a;have e:sS M h (typeOf (.ref x)) o.cls:=(Nr b).andThen .now;rwa[c]at e
theorem aA7{A:lL}{E:sX}{s:dI}{x:cY}{items:Array bO}{Q:sX}(X:K.In s.heap)(c:zG K pn fn pm fm)(f:Bn s.heap x items)
  (q:Q (.ref s.heap.objs.size) {s with heap:=s.heap.push {cls:=.type "tuple_iterator",data:=.fields #[.ref x,.int 0 0]}}):bX (model prog w) A (pyIter (.ref x)) Q E s:=by
 have h:=rX (M:=model prog w) f;have k:=looks_findIn (M:=model prog w) X c.iter;have b1:sS (model prog w) s.heap (bindSpecial (.builtin "tuple.__iter__") (.ref x)) (.builtin "tuple.__iter__",[.ref x]):=lW (PySem.F.slot_tuple_iter.bind _);have i:=Ey (M:=model prog w) X c (b:=.type "tuple") (by decide);have j:sS (model prog w) s.heap (isInstance (.ref x) (.type "tuple")) true:=h.andThen i;obtain ⟨a,g,d,tk,os⟩:=s;unfold pyIter specialOf;have fin:∀{R:xW→tX}{A':lL},R (.ok (.ret (.ref a.objs.size))) ⟨a.push {cls:=.type "tuple_iterator",data:=.fields #[.ref x,.int 0 0]},g,d,tk,os⟩→kC (model prog w) A' (.call (.builtin "tuple.__iter__") ⟨[.ref x],[]⟩) R ⟨a,g,d,tk,os⟩:=fun r=>by refine qS PySem.F.slot_tuple_iter.plain PySem.F.entry_tuple_iter (@check_slot (model prog w) _ _ _ "tuple.__iter__" "tuple" "__iter__" (.ref x) [] [] _ (by decide+kernel) (by decide+kernel) j (PySem.F.args_tuple_iter_1 _) ?_);show bX _ _ (do ret (←newFields "tuple_iterator" [.ref x,rawInt 0])) _ _ _;exact aH (uL (bC r))
 have l:sS (model prog w) (a.push {cls:=.type "tuple_iterator",data:=.fields #[.ref x,.int 0 0]}) (typeOf (.ref a.objs.size)) (.type "tuple_iterator"):=(Nr (cF _ rfl)).andThen .now;have m:sS (model prog w) (a.push {cls:=.type "tuple_iterator",data:=.fields #[.ref x,.int 0 0]}) (D7 (.type "tuple_iterator") (aC "__next__")) (some (.builtin "tuple_iterator.__next__")):=lW Fe.lookup;repeat lk
 by_cases e:(model prog w).w.params.followText "special-get-raises"=true
 ·rw [if_pos e];repeat (first|(with_reducible refine kA (fin ?_))|lk)
  exact q
 ·rw [if_neg e];refine Yz ?_;repeat (first|(with_reducible refine kA (fin ?_))|lk)
  exact q
end
end
section
set_option backward.match.sparseCases false
open PySem PySem.W PyProof.Rows PySem.Calls
def X9(gs:List (V→St→Option St))(v:V)(σ:St):Option St:=ob (aC7 v) fun l=>unp gs l σ
section
variable{n:Nat}{F:Fx}{K:Aq}{pn fn pm fm:cY}
theorem Cm{gs:List (V→St→Option St)}(j:K.In S.heap)(k:zG K pn fn pm fm)(x:J2 n F es gs):I9 n F (.Tuple es c C) (X9 gs):=fun σ v σ' e=>by
 refine ã e fun ds e=>?_
 ·intro A X D h tk u ok m r;refine aH (hG ?_);unfold unpack;refine x.1▸?_;have s:(pK es F.env).length=ds.length:=by simp only [yG e,←x.2.1];simp
  obtain ⟨a,xs,rfl,G,d,l⟩:=r;refine aH (cJ (pE (items:=xs) (by simp only [s,l.length]) (fun Kk f=>?_) (fun Kk f=>?_) fun h' t g=>?_))
  ·exact aH (aH ((rX d).here ((looks_findIn (j.keeps m.base) k.iter).here (bC f))))
  ·have y:a≠h.objs.size:=by obtain ⟨o,z,_⟩:=d;exact fW (dR z)
   refine aA7 (j.keeps m.base) k d (f _ _ [h.objs.size,a] (fun i h'=>h'.IsTupleIter h.objs.size a i∧Bn h' a (bD xs)) (by simpa using (Zs ok.hd h.objs.size a y (bD xs))) ⟨⟨_,cF _ rfl,rfl,rfl⟩,d.at (dL _ _ a)⟩ (fE _) (dL _ _))
  ·have B:=bS.step (fun b o e _=>g b o e) (fun _ _ e=>e) (fun _ e=>.inl e) _ _ l;exact bN (x.2.2 _ _ _ e A X D h' t xs ok (m.grow g) B) (fun _ _ p=>p.on (pC.grow g)) fun _ _ q=>q
def aFb:qR:=fun us σ=>aV (fun u=>aN (ob (aC7 u) fun l=>if l.length≤1000 then some (.int l.length,σ)else aF)) us
end
end
section
open PySem PySem.W PyProof.Rows PySem.Calls
inductive Mt3(h:dS)(v:bO)(k:K3):Prop
 |mk (x:cY) (t1 t2 t3:Nat) (e:v=.ref x) (p:Bn h x (bD [.int k.1 t1,.int k.2.1 t2,.int k.2.2 t3]))
section
variable{K:Aq}{pn fn pm fm:cY}
theorem aKd{s:dI}{R:xW→tX}(X:K.In s.heap)(B:zG K pn fn pm fm)(n:Bn s.heap x (bD [.int a P,.int b T,.int c W]))(o:Bn s.heap y (bD [.int i Y,.int b' Z,.int e u3]))
  (C:(a,b,c)≠(i,b',e)) (q:R (.ok (.ret (.bool (Cy (a,b,c) (i,b',e))))) s):kC (model prog w) A (.call (.builtin "tuple.__lt__") ⟨[.ref x,.ref y],[]⟩) R s:=by
 have tx:=rX (M:=model prog w) n;have r:=Ey (M:=model prog w) X B (b:=.type "tuple") (by decide);have iy:sS (model prog w) s.heap (isInstance (.ref y) (.type "tuple")) true:=(rX o).andThen r;refine nn fun D=>?_;obtain ⟨F,ur,G,nx,v⟩:=n;obtain ⟨H,I,k,ny,j⟩:=o;obtain ⟨cx,dx,J,L⟩:=F;obtain ⟨cy,dy,N,O⟩:=H;refine D ?_;dsimp only at v j;clear X G k;subst v j;obtain ⟨hp,g,d,tk,os⟩:=s;refine qS PySem.F.slot_tuple_lt.plain PySem.F.entry_tuple_lt (@check_slot (model prog w) _ _ _ "tuple.__lt__" "tuple" "__lt__" (.ref x) [.ref y] [] _ (by decide+kernel) (by decide+kernel) (tx.andThen r) (PySem.F.args_tuple_lt_2 _ _) ?_);unfold Nu.«tuple.__lt__»;have f:∀{p q:Int}{t u:Tok}{A:lL}{Q:sX}{E:sX}{s:dI},Q (.bool (decide (p<q))) s→bX (model prog w) A (richCompare .Lt (.int p t) (.int q u)) Q E s:=fun h=>aDd h;repeat (first|(with_reducible refine lD ?_)|(with_reducible refine f ?_)|lk)
 by_cases l:a=i
 ·subst l;refine Rm (by simp) ?_;repeat (first|(with_reducible refine lD ?_)|(with_reducible refine f ?_)|lk)
  by_cases m:b=b'
  ·subst m;refine Rm (by simp) ?_;repeat (first|(with_reducible refine lD ?_)|(with_reducible refine f ?_)|lk)
   refine Rl (by simpa using (fun z=>C (by rw [z]))) ?_;have:Cy (a,b,c) (a,b,e)=decide (c<e):=by simp [Cy]
   replace q:=this▸q;repeat (first|(with_reducible refine lD ?_)|(with_reducible refine f ?_)|lk)
   exact q
  ·refine Rl (by simpa using m) ?_;have:Cy (a,b,c) (a,b',e)=decide (b<b'):=by simp [Cy,m]
   rw [this]at q;repeat (first|(with_reducible refine lD ?_)|(with_reducible refine f ?_)|lk)
   exact q
 ·refine Rl (by simpa using l) ?_;have:Cy (a,b,c) (i,b',e)=decide (a<i):=by simp [Cy,l]
  rw [this]at q;repeat (first|(with_reducible refine lD ?_)|(with_reducible refine f ?_)|lk)
  exact q
end
end
section
open PySem PySem.W PyProof.Rows PySem.Calls
section
variable{K:Aq}{pn fn pm fm:cY}
theorem aGo{E:sX}{s:dI}{C:Bool→tX}(X:K.In s.heap)(c:zG K pn fn pm fm)(h:A.units<cLine)(b:Bn s.heap x (bD [.int k.1 j,.int k.2.1 l,.int k.2.2 m]))(e:Bn s.heap y (bD [.int a.1 n,.int a.2.1 o,.int a.2.2 p]))
  (i:k≠a) (q:C (Cy k a) s):bX (model prog w) A (keyLt' oneType' (.ref x) (.ref y)) C E s:=by
 have tx:=rX (M:=model prog w) b;have l1:=looks_findIn (M:=model prog w) X c.lt;have b1:sS (model prog w) s.heap (bindSpecial (.builtin "tuple.__lt__") (.ref x)) (.builtin "tuple.__lt__",[.ref x]):=lW (PySem.F.slot_tuple_lt.bind _);have fin:∀{R:xW→tX}{A':lL},R (.ok (.ret (.bool (Cy k a)))) s→kC (model prog w) A' (.call (.builtin "tuple.__lt__") ⟨[.ref x,.ref y],[]⟩) R s:=fun r=>aKd X c b e i r;rw [keyLt'_oneType,oneLt'_eq];dsimp only [if_true];refine aH (wpAny_cRoomFor h ?_);clear X b e;obtain ⟨t,g,d,tk,os⟩:=s;repeat lk
 by_cases f:(model prog w).w.params.followText "special-get-raises"=true
 ·rw [if_pos f];repeat (first|(with_reducible refine kA (fin ?_))|lk)
  exact q
 ·rw [if_neg f];refine Yz ?_;repeat (first|(with_reducible refine kA (fin ?_))|lk)
  exact q
end
end
section
open PySem PySem.W PyProof.Rows PySem.Calls
def kMt:V→Option K3:=fun v=>ob (aC7 v) (aI3 fun a b c=>aN (some (a,b,c)))
theorem aGq{Y:iK}(e:kMt v=some k)(r:gQ D Y h v u):Mt3 h u k∧∃x,u=.ref x∧¬Y x:=by revert r;refine ã e ?_;clear e;intro l e;refine Nl e ?_;clear e;intro a b c t e;refine pM e ?_;clear e;intro e r;refine oQ e ?_;rintro rfl;refine nn fun d=>?_;obtain ⟨x,xs,rfl,nx,f,_,_,rfl,⟨g,rfl⟩,_,_,rfl,⟨i,rfl⟩,_,o,rfl,⟨j,rfl⟩,m⟩:=r;refine d ?_;cases m;exact ⟨⟨x,g,i,j,rfl,f⟩,x,rfl,nx⟩
theorem Hk(c:∀b o,b≠a→h.get? b=some o→H.get? b=some o)(x:Mt3 h v k)(d:v≠.ref a):Mt3 H v k:=by obtain ⟨x,e,f,g,rfl,i⟩:=x;exact ⟨x,e,f,g,rfl,i.at fun o=>c x o (fun q=>d (by exact q▸rfl))⟩
section
variable{K:Aq}{pn fn pm fm:cY}
theorem Ň{s:dI}(X₀:K.In h₀)(r:∀b o,h₀.get? b=some o→s.heap.get? b=some o)(u:h₀.get? a=aF)(B:zG K pn fn pm fm)(D:A.units<cLine)(G:2≤vs.length)(f:F2 (Mt3 s.heap) vs (h.map (·.1)))(k:∀v∈vs,v≠.ref a)(I:(h.map (·.1)).Nodup):Wr A s a vs oneType' (ô h)where
 kind:=fun H tk Q c q=>by refine kas_kind (T:=.ref rY) G (fun v J=>?_) (by decide) (by decide) (q tk);obtain ⟨i,hi,L⟩:=lN J;obtain ⟨x,N,O,P,ex,g⟩:=E5 (d:=jO) (e:=(0,0,0)) (Tk (fun x g y t=>Hk c t (k x g)) f) hi;simp only [aT,bK hi,L]at ex;subst ex;exact rX g
 cmp:=fun H tk i j C c hi l R q=>by
  have m:∀i,i<vs.length→vs.getD i jO∈vs:=fun i hi=>by simp [aT,hi]
  obtain ⟨x,N,O,P,ex,g⟩:=Hk c (E5 f hi) (k _ (m i hi));obtain ⟨y,Y,Z,u3,W,X⟩:=Hk c (E5 f l) (k _ (m j l));refine ex▸?_;refine W▸?_;refine aGo (X₀.keeps fun b o e=>c b o (fun z=>by simp only [z,u]at e;exact iE e) (r b o e):K.In H) B D g X (fun z=>R ?_) (q tk);have p:=Mz f;have l1:i<(h.map (·.1)).length:=bE û hi p;have l2:j<(h.map (·.1)).length:=bE û l p;refine (pL l1 I).mp ?_;simp only [aT,bK l1,bK l2]at z;simp only [bK l1,bK l2];simpa using z
def Ł:qR:=fun us σ=>aV (fun u=>aN (ob (Iu u) fun n=>aL σ n fun l=>ob (Hb kMt l) fun l'=>some (.none,{σ with cells:=lQ n (.list l') σ.cells}))) us
variable{n:Nat}{F:Fx}
theorem Xf(O:K.In S.heap)(P:zG K pn fn pm fm)(fk:iY F):OpB n F "list.sort" Ł:=fun us σ v σ' e=>by
 refine pB e fun _ _ e=>?_;refine pM e fun e=>?_;refine Kg e fun j e=>?_;refine nn fun s=>?_;obtain ⟨l,Q,e⟩:=O4 e;obtain ⟨l',d,e⟩:=dO e;replace d:=dO d;obtain ⟨B,C,d⟩:=d;replace d:=iS d;obtain ⟨⟨t,R⟩,d⟩:=d;refine s ?_;refine oQ d ?_;rintro rfl;intro A X D h tk ws ok m r;obtain ⟨u,_,rfl,r1,T⟩:=r;cases T;obtain ⟨a,xs,k,rfl,y,G,H⟩:=Kz m Q r1;obtain ⟨I,W⟩:=ą aGq C H;have z:xs.length=B.length:=by simp only [Mz I];simp
 have J:=(Pi C).1.symm;have Y:∀v∈xs,v≠.ref a:=fun v Z q=>by obtain ⟨x,ex,nx⟩:=W v Z;replace ex:=q▸ex;cases ex;exact nx (.inr (.inr ⟨j,y⟩))
 refine mT slot_list_sort ⟨_,G,rfl⟩ entry_list_sort (Di (κ:=oneType') G (bE aEn R z) (by simp only [z];exact Fn t) (fun h2=>Ň O m.base (m.sep j a y).b P (by have:=ok.uni;simp only [G6];exact bE 0x6315090702848e70e880747003 this:A.in1.units<cLine) h2 I Y t) fun p h' ao g L hk f=>⟨_,rfl,?_⟩) (args_list_sort _);rw [z]at g L;have N:=H.pick fun i hi=>by have:=g.perm.mem_iff.mp hi;refine J▸?_;simpa using this
 rw [J,(Os t g L)]at N;refine nn fun s=>?_;obtain ⟨mm,f⟩:=f;obtain ⟨m',bv⟩:=m.turn (c:=.list ((isK B).map (·.2))) fk y (fun b o hb e=>hk b o hb e) ⟨_,f⟩ (fun Y' hr d7=>⟨_,⟨mm,f⟩,d7 _ _ N⟩);refine s ?_;exact ⟨h',ao,D,_,.none,rfl,bv,m',Dc,.of e⟩
end
end
section
set_option backward.match.sparseCases false
open PySem PySem.W PyProof.Rows PySem.Calls
section
variable{n:Nat}{F:Fx}{K:Aq}{pn fn pm fm:cY}
theorem Kr{d:qR}(i:K.In S.heap)(j:keepIn K v=true)(x:lM n F f (gK (.fn v)))(o:B2 n F v d)(b:oW F args)(y:zH n F a args g)
  (k:eval (.Call f args [] a) F.env=(do mW a (←eval f F.env) [] (backTo a (eC args F.env)) [])):lM n F (.Call f args [] a) (iO d g):=fun σ r σ' e=>by
 obtain ⟨us,σ₁,l,e⟩:=eG e;intro A X D h tk vs ok m _;refine (?_:bX _ _ (eval (.Call f args [] a) F.env) _ _ _);refine k▸?_;refine aH (TW.atE (x σ _ _ rfl) ok m bS.nil ?_);clear x;rintro H h₀ I D₀ s m₀ t;subst t;refine callWith_of (by rw [nR b];rfl) (fun h X=>keeps_K j h X) (rG b (y _ _ _ l) ok m₀ ?_);rintro u h₁ B D₁ _ _ C c G ⟨rfl,rfl⟩;refine ⟨i.keeps c.base,?_⟩;exact bN (o us _ _ _ e A X D₁ h₁ B u ok c G) (fun _ _ p=>p.on (s.trans C)) fun _ _ z=>z
def Fq(d:cG→Option Iy):qR:=fun us σ=>if eB us=true then ob (d us) fun m=>some (.inst σ.next,{σ with cells:=(σ.next,.mat m)::σ.cells,next:=σ.next+1})else aF
theorem Õ{d:cG→Option Iy}(fk:iY F)(k:K.In S.heap)(L:makesIn K yA=true)(hi:findIn K (.ref yA) "__init__"=some (some (.ref fi)))(N:typeIn K (.ref fi)=some (.type "function"))
  (hd:∀us m,eB us=true→d us=some m→∀A (Y:iK) h tk x c vs,wI n A→(∀b o,S.heap.get? b=some o→h.get? b=some o)→(∀a,Y a→vI h a)→¬Y c→S.heap.get? c=aF→¬Y x→h.get? x=some (instObj yA c)→jB [] (jK [c] Y) h c (.attrs [])→bS [] (jK [c] Y) h us vs→
   kC (model prog w) A (.call (.ref fi) ⟨.ref x::vs,[]⟩) (fun r s'=>match r with
    |.ok (.ret v)=>v=.none∧∃h' l,s'=kD h' l∧(∀b o,b≠c→h.get? b=some o→h'.get? b=some o)∧(vI h' c)∧jB [] (jK [c] Y) h' c (.mat m)
    |_=>False) (kD h tk)):B2 (n+1) F (.ref yA) (Fq d):=fun us σ r σ' e=>by
 unfold Fq at e;split at e
 ·rename_i f;replace e:=dO e;obtain ⟨m',O,e⟩:=e;refine I8 e ?_;rintro rfl rfl;intro A X D h tk vs ok m r;have C:∀b,Yf F X D b→vI h b:=fun b=>m.yal;have i:∀b o,h.get? b=some o→((h.push emptyDict).push (instObj yA h.objs.size)).get? b=some o:=fun b o e=>cK _ (cK _ e);have G:((h.push emptyDict).push (instObj yA h.objs.size)).get? (h.objs.size+1)=some (instObj yA h.objs.size):=by have:=cF (o:=instObj yA h.objs.size) (h.push emptyDict) rfl;rwa[gS]at this
  have fr:∀b,h.objs.size≤b→h.get? b=aF:=fun b s=>by
   cases q:h.get? b with
   |none=>rfl
   |some o=>exact absurd (dR q) (nN.mpr s)
  have g:∀b,h.objs.size≤b→¬Yf F X D b:=fun b s z=>by obtain ⟨o,j⟩:=C b z;rw [fr b s]at j;exact iE j
  have P:S.heap.get? h.objs.size=aF:=by
   cases q:S.heap.get? h.objs.size with
   |none=>rfl
   |some o=>have:=m.base _ _ q;rw [fr _ (bG _)]at this;exact iE this
  refine kA (make_core (makes_of (k.keeps m.base) L) (looks_findIn (k.keeps m.base) hi) (fun self=>bind_fn (k.keeps m.base) self N) (.inl rfl) ?_);have Q:wI n (A.under (.builtin "type.__call__" ⟨.ref yA::vs,[]⟩)):=by
   have hw:(G2 "type.__call__" ⟨.ref yA::vs,[]⟩).weight≤2:=by first|(show (1:Nat)≤2;decide)|(show (0:Nat)≤2;decide)|decide
   have R:(G2 "type.__call__" ⟨.ref yA::vs,[]⟩).cUnits≤4:=by first|(show (1:Nat)≤4;decide)|(show (4:Nat)≤4;decide)
   exact ⟨ok.hd,by have:=ok.dep;refine (?_:A.depth+_+2*n<_);exact bE aLd hw this,by have:=ok.uni;refine (?_:A.units+_+10*n+100<_);exact bE aLm R this⟩
  have T:((h.push emptyDict).push (instObj yA h.objs.size)).Ns1 h.objs.size (fun _=>aF):=by refine Heap.Ns1.of_empty ⟨_, #[],0,(cK _ (cF _ rfl)),rfl,fun e W=>by simp at W,fun name=>rfl⟩
  have Z:∀b,jK [h.objs.size] (Yf F X D) b→Yf F X D b∨h.get? b=aF:=fun b z=>by
   rcases z with z|z
   ·rw [aM.mp z];exact .inr (fr _ (bG _))
   ·exact .inl z
  refine rH (hd us m' f O _ (Yf F X D) ((h.push emptyDict).push (instObj yA h.objs.size)) tk (h.objs.size+1) h.objs.size vs Q (fun b o q=>i b o (m.base b o q)) (fun b z=>let ⟨o,j⟩:=C b z;⟨o,i b o j⟩) (g _ (bG _)) P (g _ (fI _)) G
   ⟨_,T,fun y hy=>absurd rfl hy,fun p f=>by cases f⟩ (bS.stepP (fun b o e _=>i b o e) Z _ _ f r)) fun r s' z=>?_
  rcases r with e|(v|_|_|_)<;>first|exact z.elim|skip
  refine nn fun t=>?_;obtain ⟨rfl,h',l,rfl,H,I,cr⟩:=z;refine t ?_;have u:=cr;refine nn fun t=>?_;obtain ⟨as,el,mm,y5,y6,_⟩:=cr;obtain ⟨ae,ag⟩:=m.cell (c:=.attrs []) (fun b o e=>H b o (fun q=>by rw [q,fr _ (bG _)]at e;exact iE e) (i b o e)) (fr _ (bG _)) I (fun D' Y' hr d7=>⟨mm,y5,y6,fun p f=>by cases f⟩);refine t ?_;have ha:lk ((σ.next,h.objs.size)::D) σ.next=some h.objs.size:=by simp [fN,fM]
  obtain ⟨J,aq⟩:=ae.turn2 fk ha (fun b o _ e=>e) I (jB.P (c:=.mat m') trivial (fun _ _ e _=>e) (fun _ e=>e) (fun b z=>by
   rcases z with z|z|⟨B,z⟩
   ·exact .inl (.inr (.inl z))
   ·exact .inl (.inr (.inr (.inl z)))
   ·simp only [fN,fM]at z;split at z
    ·refine oQ z ?_;rintro rfl;exact .inl (.inl (aM.mpr rfl))
    ·exact .inl (.inr (.inr (.inr ⟨B,z⟩)))) u)
  have f:lQ σ.next (gC.mat m') ((σ.next,gC.attrs [])::σ.cells)=(σ.next,gC.mat m')::σ.cells:=if_pos rfl;rw [f]at J;refine ⟨rfl,h',l,_,_,_,rfl,ag.trans aq,J,?_,rfl,rfl⟩;refine ⟨h.objs.size,h.objs.size+1,rfl,fun q=>?_,by trivial,H _ _ (J6 _) G⟩;rcases q with z|z|⟨B,z⟩
  ·exact g _ (fI _) (.inl z)
  ·exact g _ (fI _) (.inr (.inl z))
  ·simp only [fN,fM]at z;split at z
   ·exact absurd (gM z) (fW (gX _))
   ·exact g _ (fI _) (.inr (.inr ⟨B,z⟩))
 ·exact iE e
end
end
section
open PySem PySem.W PyProof.Rows PySem.Calls
theorem U6:mroOf (.type "map")=pure [.type "map",.type "object"]:=by rw [mroOf_type];kernel_rfl
theorem Hq:D7 (.type "map") "__new__"=pure (some (.builtin "map.__new__")):=by kernel_rfl
theorem Jf:Slot "map" "__init__" "object.__init__":=
 .of (owner:="object") (n:="__init__") (by kernel_rfl) (by decide+kernel) (by decide+kernel) (by decide+kernel) (by first|exact .inl (by decide+kernel)|exact .inr (by decide+kernel)) (by kernel_rfl)
theorem C8:Cx (.type "map") (.type "map")=pure true:=by rw [zK];kernel_rfl
theorem Tr:TypeCalled "map" "map.__new__" "object.__init__":=
 ⟨by decide+kernel,by decide+kernel,⟨_,_,U6⟩,madeBy_type U6 Hq (by decide+kernel),by decide+kernel,C8,Jf⟩
theorem Lj(a b:bO):checkTypeCall "map" ⟨[a,b],[]⟩=pure ():=by kernel_rfl
theorem O7(a b:bO):checkBuiltinCall "map.__new__" ⟨[.type "map",a,b],[]⟩=pure ():=by kernel_rfl
theorem Jr:entryFor table "map.__new__"=some Nu.«map.__new__»:=entryFor_of_tree (by kernel_rfl)
theorem Þ(a b c:bO):argsOk "object.__init__" ⟨[a,b,c],[]⟩:=by unfold argsOk;kernel_rfl
noncomputable abbrev rZ(t:cY)(f:bO):wJ:={cls:=.type "map",data:=.fields #[.ref t,f]}
noncomputable abbrev Ko(l:cY):wJ:={cls:=.type "list_iterator",data:=.fields #[.ref l,.int 0 0]}
theorem Jj(f:bO)(l:cY)(items:Array bO):
  Meets (Nu.«map.__new__» ⟨[.type "map",f,.ref l],[]⟩) (fun _ R s=>s.heap.IsList l items∧∀h',h'=((s.heap.push (Ko l)).push {cls:=.type "tuple",data:=.seq #[.ref s.heap.objs.size]}).push (rZ (s.heap.objs.size+1) f)→R (.ok (.ret (.ref (s.heap.objs.size+2)))) {s with heap:=h'}):=
 .of_wp fun prog w A R s h=>by
  obtain ⟨b,g,d,tk,os⟩:=s;obtain ⟨a,h⟩:=h;have c:=C8;unfold Nu.«map.__new__»;repeat (any_goals (first|assumption|(with_reducible refine Np a ?_)|wp_step))
  refine ⟨_,rfl,?_⟩;have z:=h _ rfl;rw [gS,gS];first|exact z|simpa [gS]using z
section
variable{A:lL}{E:sX}{s:dI}
theorem ō{Q:sX}(a:s.heap.IsList l items)
  (q:∀h',h'=((s.heap.push (Ko l)).push {cls:=.type "tuple",data:=.seq #[.ref s.heap.objs.size]}).push (rZ (s.heap.objs.size+1) f)→Q (.ref (s.heap.objs.size+2)) {s with heap:=h'}):bX (model prog w) A (call (.type "map") [f,.ref l]) Q E s:=by
 refine callType_new Tr (by decide) (Lj _ _) (O7 _ _) (fun obj=>Þ obj _ _) Jr (Jj f l items) ⟨a,fun h' e=>⟨?_,q h' e⟩⟩;have:h'.get? (s.heap.objs.size+2)=some (rZ (s.heap.objs.size+1) f):=by refine e▸?_;have z:=cF (o:=rZ (s.heap.objs.size+1) f) ((s.heap.push (Ko l)).push {cls:=.type "tuple",data:=.seq #[.ref s.heap.objs.size]}) rfl;rwa[gS,gS]at z
 exact ⟨_,this,rfl⟩
end
theorem pT:Slot "map" "__next__" "map.__next__":=
 .of (owner:="map") (n:="__next__") (by kernel_rfl) (by decide+kernel) (by decide+kernel) (by decide+kernel) (by first|exact .inl (by decide+kernel)|exact .inr (by decide+kernel)) (by kernel_rfl)
theorem Bt:Slot "map" "__iter__" "map.__iter__":=
 .of (owner:="map") (n:="__iter__") (by kernel_rfl) (by decide+kernel) (by decide+kernel) (by decide+kernel) (by first|exact .inl (by decide+kernel)|exact .inr (by decide+kernel)) (by kernel_rfl)
theorem Af:entryFor table "map.__next__"=some Nu.«map.__next__»:=entryFor_of_tree (by kernel_rfl)
theorem By(a:bO):argsOk "map.__next__" ⟨[a],[]⟩:=by unfold argsOk;kernel_rfl
theorem Jz(a:bO):argsOk "map.__iter__" ⟨[a],[]⟩:=by unfold argsOk;kernel_rfl
theorem Ss:D7 (.type "map") "__len__"=pure none:=by rw [Ed,builtinLookup_eq_fast];kernel_rfl
theorem Pe:D7 (.type "map") "__length_hint__"=pure none:=by rw [Ed,builtinLookup_eq_fast];kernel_rfl
#check @entryFor_of_tree
end
section
open PySem PySem.W PyProof.Rows PySem.Calls
theorem Iq:entryFor table "map.__iter__"=some Nu.«dict_keyiterator.__iter__»:=
 entryFor_alias (id':="dict_keyiterator.__iter__") (by kernel_rfl) (by decide+kernel) (by decide+kernel) (by kernel_rfl)
section
variable{A:lL}{E:sX}{s:dI}
theorem Jk{M T I l:cY}{f:bO}{n i:Nat}{items:Array bO}{x:bO}{P:aDe→tX}(a:s.heap.get? M=some (rZ T f))(c:s.heap.get? T=some {cls:=.type "tuple",data:=.seq #[.ref I] n})(e:s.heap.IsListIter I l i)(h:s.heap.IsList l items)(j:items[i]?=some x)(k:M≠I)
  (m:∀h',h'.IsListIter I l (i+1)→qI I s.heap h'→bX (model prog w) A (call f [x]) (fun v s'=>P (.done (.ret v)) s') E {s with heap:=h'}):bX (model prog w) A (Nu.«map.__next__» ⟨[.ref M],[]⟩) P E s:=by
 obtain ⟨p,g,d,tk,os⟩:=s;unfold Nu.«map.__next__»;refine aH (bC ?_);dsimp only;refine aH (Ge a rfl rfl ?_);refine aH (zI c rfl ?_);dsimp only;refine aH ?_;rw [Ů,oU];refine aH (aH (cJ (wpAny_nextOf_list_item e h j fun h' o b=>bC ?_)));dsimp only;rw [aI7];refine bC ?_;refine aH (Ge ((b.2 M k).trans a) rfl rfl (aH (cJ ?_)));exact bN (m h' o b) (fun v s' z=>aH (wpAny_letGo (bC z))) fun _ _ z=>z
theorem Ma{M T I l:cY}{f:bO}{n i:Nat}{items:Array bO}{P:aDe→tX}(a:A.handled=aF)(b:s.heap.get? M=some (rZ T f))(c:s.heap.get? T=some {cls:=.type "tuple",data:=.seq #[.ref I] n})(h:s.heap.IsListIter I l i)(j:s.heap.IsList l items)(k:items[i]?=aF)
  (m:∀h' e,Zi I s.heap h'→(∃o,h'.get? e=some o∧o.cls=.type "StopIteration")→E (.ref e) {s with heap:=h'}):bX (model prog w) A (Nu.«map.__next__» ⟨[.ref M],[]⟩) P E s:=by
 obtain ⟨p,g,d,tk,os⟩:=s;unfold Nu.«map.__next__»;refine aH (bC ?_);dsimp only;refine aH (Ge b rfl rfl ?_);refine aH (zI c rfl ?_);dsimp only;refine aH ?_;rw [Ů,oU];exact aH (aH (cJ (wpAny_nextOf_list_end a h j k m)))
theorem Ji{M T I l:cY}{f:bO}{n i:Nat}{items:Array bO}{x:bO}{Q:Option bO→tX}(c:s.heap.get? M=some (rZ T f))(e:s.heap.get? T=some {cls:=.type "tuple",data:=.seq #[.ref I] n})(g:s.heap.IsListIter I l i)(h:s.heap.IsList l items)(j:items[i]?=some x)(k:M≠I)
  (m:∀h',h'.IsListIter I l (i+1)→qI I s.heap h'→bX (model prog w) A.in1 (call f [x]) (fun v s'=>Q (some v) s') (fun _ _=>False) {s with heap:=h'}):bX (model prog w) A (pyNext (.ref M)) Q E s:=by
 have d:s.TypeIs (.ref M) "map":=⟨_,c,rfl⟩;unfold pyNext;refine aH (ş (oR d pT (mT pT d Af (Jk c e g h j k fun h' a b=>?_) (By _))));exact bN (m h' a b) (fun v s' z=>⟨v,rfl,bC z⟩) fun _ _ z=>z.elim
theorem L5{M T I l:cY}{f:bO}{n i:Nat}{items:Array bO}{Q:Option bO→tX}(g:A.handled=aF)(c:s.heap.get? M=some (rZ T f))(h:s.heap.get? T=some {cls:=.type "tuple",data:=.seq #[.ref I] n})(j:s.heap.IsListIter I l i)(k:s.heap.IsList l items)(m:items[i]?=aF)
  (p:∀h',Zi I s.heap h'→Q aF {s with heap:=h'}):bX (model prog w) A (pyNext (.ref M)) Q E s:=by
 have d:s.TypeIs (.ref M) "map":=⟨_,c,rfl⟩;unfold pyNext;refine aH (ş (oR d pT (mT pT d Af (Ma g c h j k m fun h' e a b=>?_) (By _))));obtain ⟨o,r,t⟩:=b;refine aH (aO7 ⟨o,r,t⟩ isSubtype_stop ?_);exact bC (p h' a)
end
end
section
open PySem PySem.W PyProof.Rows PySem.Calls
theorem Yq{E:sX}{s:dI}{Q:sX}(a:s.heap.get? q=some (methodObj f self))(b:∀id,f≠.builtin id)
  (h:kC (model prog w) A (.call f ⟨self::vs,[]⟩) (wants Q E) s):bX (model prog w) A (call (.ref q) vs) Q E s:=by
 refine kA (Ee ?_);refine aH (J4 a ?_);clear a;cases f<;>first|exact absurd rfl (b _)|exact bC ⟨rfl,h⟩
section
variable{n:Nat}
theorem aB3{A:lL}{Y:iK}{L M T I l q:cY}{f self:bO}{nT:Nat}{xs:gI}{ds es:cG}{d6:bO}{R:xW→tX}(ok:wI n A.in1.in1)(hf:∀id,f≠.builtin id)(B:Y L)(y7:Y I)(hLM:L≠M)(y8:L≠I)(hLT:L≠T)(hLq:L≠q)(hLl:L≠l)(re:M≠I)(hIT:T≠I)(C:q≠I)(hIl:l≠I)
  (hSL:S.heap.get? L=aF) (hSI:S.heap.get? I=aF) (hpd:eB ds=true) (az:xs.length≤lim) (D:es.length=ds.length)
  (hfn:∀(i:Nat) d e,ds[i]?=some d→es[i]?=some e→Yv n f [.fn self,d] (fun r=>r=e)):
  ∀(k i:Nat)(h:dS)(tk:Nat)(t:gI)(c:Nat),xs.length-i=k→i≤xs.length→(∀b o,S.heap.get? b=some o→h.get? b=some o)→(∀a,Y a→vI h a)→h.get? M=some (rZ T (.ref q))→h.get? T=some {cls:=.type "tuple",data:=.seq #[.ref I] nT}→h.get? q=some (methodObj f self)→h.IsListIter I l i→h.IsList l (bD xs)→bS [] Y h ds xs→IsL h L (bD t) c→bS [] Y h (es.take i) t→
   (∀h' ao J c',(∀b o,b≠L→b≠I→h.get? b=some o→h'.get? b=some o)→IsL h' L (bD J) c'→bS [] Y h' es J→R (.ok (.ret d6)) (kD h' ao))→
   kC (model prog w) A (.builtin "list.extend.loop" ⟨[.ref L,.ref M,d6],[]⟩) R (kD h tk):=by
 intro k
 induction k with
 |zero=>intro i h tk t c N hi hb hY O P hq fz Q F hL G hR;have kx:i=xs.length:=bE 0xe0c14a31584490896604cc1002 N hi;subst kx;refine Ef K9 ?_;refine (?_:bX _ A.in1 (pyNext (.ref M)>>=_) _ _ _);refine aH (L5 ok.hd O P fz Q (by simp) fun h' he=>bC ?_);have W:=F.length;refine hR h' tk t c (fun b o _ y e=>he b o y e) (he L _ y8 hL) ?_;rw [(by rw [tA];exact bE 0x1a314880b08961003 D W:es.take xs.length=es)]at G;exact bS.step (fun b o e p=>he b o (fun z=>p (z▸y7)) e) (fun _ _ e=>e) (fun _ e=>.inl e) _ _ G
 |succ k ih=>
  intro i h tk t c N hi hb hY O P hq fz Q F hL G hR;have jl:i<xs.length:=bE 0x30d18a8225a0e304cc1003 N;have W:=F.length;have H:i<ds.length:=bE û jl W;have wj:i<es.length:=bE 0x2b18a8025846a18961004 D jl W;obtain ⟨x,ex,rx⟩:=F.get (i:=i) (d:=ds[i]) (by simp [H]);refine Ef K9 ?_;refine (?_:bX _ A.in1 (pyNext (.ref M)>>=_) _ _ _);refine aH (Ji O P fz Q (by simpa using ex) re fun h₁ kb uy=>?_);have g:∀b o,b≠I→h.get? b=some o→h₁.get? b=some o:=fun b o y e=>(uy.2 b y).trans e;have uz:∀d v,bS [] Y h d v→bS [] Y h₁ d v:=bS.step (fun b o e p=>g b o (fun z=>p (z▸y7)) e) (fun _ _ e=>e) (fun _ e=>.inl e);have lf:∀a,Y a→vI h₁ a:=fun a ya=>by
   by_cases z:a=I
   ·subst z;obtain ⟨o,u,_⟩:=kb;exact ⟨o,u⟩
   ·obtain ⟨o,u⟩:=hY a ya;exact ⟨o,g a o z u⟩
  have qc:∀b o,S.heap.get? b=some o→h₁.get? b=some o:=fun b o e=>g b o (fun z=>by rw [z,hSI]at e;exact iE e) (hb b o e);refine (?_:bX _ _ (call (.ref q) [x]) _ _ (kD h₁ tk));refine Yq (s:=kD h₁ tk) (g q _ C hq) hf (rH (hfn i ds[i] es[i] (by simp [H]) (by simp [wj]) A.in1.in1 Y h₁ tk [self,x] ok qc lf (.cons (by rfl) (.cons ((gQ.step (fun b o e p=>g b o (fun z=>p (z▸y7)) e) (fun _ _ e=>e) (fun _ e=>.inl e)) _ _ rx) .nil))) fun r s' z=>?_);rcases r with e|(_|_|_|v)<;>first|exact z.elim|skip
  obtain ⟨X,bf,r',rfl,j,pr,rr,rfl⟩:=z;have mv:IsL X L (bD t) c:=j _ _ (g L _ y8 hL);have u5:=G.length;refine aH (Ec mv rfl (bC ⟨plainId_quiet K7 _,?_⟩) (by simp [u5];have:=oY;exact bE aK4 az hi this) (by simp [u5];have:=oY;exact bE aK4 az hi this));have hn:=mv.update (·.push v);have m:∀b o,b≠L→X.get? b=some o→(X.update L (iQ (·.push v))).get? b=some o:=fun b o Z e=>(gO _ _ (rN Z)).trans e;have i8:∀d v',bS [] Y h₁ d v'→bS [] Y (X.update L (iQ (·.push v))) d v':=bS.step (fun b o e p=>m b o (fun z=>p (z▸B)) (j b o e)) (fun _ _ e=>e) (fun _ e=>.inl e);refine ih (i+1) _ bf (t++[v]) _ (by exact bE 0x12442211012654595462b2016839033320e20ccc1003 N) jl (fun b o e=>m b o (fun z=>by rw [z,hSL]at e;exact iE e) (j b o (qc b o e))) (fun a ya=>?_) (m M _ (rN hLM) (j _ _ (g M _ re O))) (m T _ (rN hLT) (j _ _ (g T _ hIT P))) (m q _ (rN hLq) (j _ _ (g q _ C hq))) (kb.at fun o e=>m I o (rN y8) (j I o e)) ?_ (i8 _ _ (uz _ _ F)) (by have z:=hn;simp at z;exact z) ?_ fun h' ao J c' k4 h4 r4=>?_
  ·by_cases z:a=L
   ·subst z;exact ⟨_,hn⟩
   ·obtain ⟨o,u⟩:=lf a ya;exact ⟨o,m a o z (j a o u)⟩
  ·obtain ⟨o,u,rr⟩:=Q;exact ⟨o,m l o (rN hLl) (j l o (g l o hIl u)),rr⟩
  ·rw [List.take_succ_eq_append_getElem wj];exact (i8 _ _ (uz _ _ G)).append (.cons ((gQ.step (fun b o e p=>m b o (fun z=>p (z▸B)) e) (fun _ _ e=>e) (fun _ e=>.inl e)) _ _ rr) .nil)
  ·exact hR h' ao J c' (fun b o Z y e=>k4 b o Z y (m b o Z (j b o (g b o y e)))) h4 r4
end
end
section
open PySem PySem.W PyProof.Rows PySem.Calls
section
theorem Ć{A:lL}{E:sX}{s:dI}{M T:cY}{f:bO}{Q:sX}(b:s.heap.get? M=some (rZ T f))(h:Q (.ref M) s):bX (model prog w) A (pyIter (.ref M)) Q E s:=by have a:s.TypeIs (.ref M) "map":=⟨_,b,rfl⟩;refine wpAny_pyIter_slot a Bt (mT Bt a Iq ?_ (Jz _));exact bC ⟨_,rfl,"map",_,a,pT.lookup,h⟩
theorem Pg{A:lL}{E:sX}{s:dI}{M T:cY}{f:bO}{Q:sX}(c:s.heap.get? M=some (rZ T f))
  (m:∀h' n,(∀b o,s.heap.get? b=some o→h'.get? b=some o)→IsL h' s.heap.objs.size #[] n→kC (model prog w) A.in1 (.builtin "list.extend.loop" ⟨[.ref s.heap.objs.size,.ref M,.none],[]⟩) (wants (fun r p=>r=.none∧Q (.ref s.heap.objs.size) p) E) {s with heap:=h'}):
  bX (model prog w) A (call (.type "list") [.ref M]) Q E s:=by
 have t:=dR c;have d:=jC t;refine callType_codes (Q₁:=fun obj i=>obj=.ref s.heap.objs.size∧i={s with heap:=s.heap.push {cls:=.type "list",data:=.seq #[]}}) PySem.F.called_list (PySem.F.typeCall_list_1 _) PySem.F.entry_list_init (code_list_new _ ⟨rfl,rfl⟩) fun obj i h₁=>?_;obtain ⟨rfl,rfl⟩:=h₁;have a:(s.heap.push {cls:=.type "list",data:=.seq #[]}).get? s.heap.objs.size=some {cls:=.type "list",data:=.seq #[]}:=cF _ rfl;refine ⟨⟨_,a,rfl⟩,PySem.F.args_list_init_2 _ _,?_⟩;show bX _ A.in1.in1 (do let old←Jc (.ref s.heap.objs.size);aPn (.ref s.heap.objs.size) (fun _=> #[]);letGo old.toList.reverse;Fi (.ref s.heap.objs.size) (.ref M) .none) _ _ _;refine aH ?_;unfold Jc;refine aH (zI a rfl (bC ?_));refine aH (Ec a rfl ?_);have j:=kG (iQ (fun _=>(#[]:Array bO))) a rfl;have g:∀b o,s.heap.get? b=some o→((s.heap.push {cls:=.type "list",data:=.seq #[]}).update s.heap.objs.size (iQ (fun _=>(#[]:Array bO)))).get? b=some o:=fun b o e=>
  (gO _ _ (rN (fW (dR e)))).trans (cK _ e)
 refine aH (wpAny_letGo ?_);unfold Fi;have h:∀tk,({s with heap:=(s.heap.push {cls:=.type "list",data:=.seq #[]}).update s.heap.objs.size (iQ (fun _=>(#[]:Array bO))),toks:=tk}:dI).TypeIs (.ref M) "map":=fun tk=>⟨_,g M _ c,rfl⟩;refine aH (wpAny_typeOf (h s.toks) ?_);have u:G5 (.ref s.heap.objs.size) (.ref M)=false:=by simp [G5,d]
 have v:(mF "map"==mF "list")=false:=by decide
 have x:(mF "map"==mF "tuple")=false:=by decide
 simp only [u,v,x,Rj,mH,if_false];refine aH (Ć (g M _ c) ?_);refine aH (cJ ?_);unfold aPp;refine aH (xU (h s.toks) Ss ?_);refine aH (xU (h s.toks) Pe ?_);refine bC ?_;refine aH (zJ (aH ?_));refine aH (Ec j rfl ?_);have k:=kG (iQ (·.push jO)) j rfl;refine Ec k rfl ?_;have y:=kG (iQ (·.pop)) k rfl;refine bC ⟨plainId_quiet K7 _,m _ _ (fun b o e=>?_) y⟩;have l:=rN (fW (dR e));exact (gO _ _ l).trans ((gO _ _ l).trans (g b o e))
end
end
section
open PySem PySem.W PyProof.Rows PySem.Calls
def ì:V→qM:=fun v=>ob (Jy v) (aI3 fun a b c=>aN (some (.mt [.int a,.int b,.int c])))
@[elab_as_elim] theorem U7 {P:V→V→Prop} (e:ì v=some r) (k:∀a b c,P (.tup [.int a,.int b,.int c]) (.mt [.int a,.int b,.int c])):P v r:=by refine U2 e ?_;clear e;intro l e;refine Nl e ?_;clear e;intro a b c t e;refine pM e ?_;clear e;intro e;refine oQ e ?_;rintro rfl;exact k a b c
def Ĥ(g:M V):M V:=fun σ=>bd (g σ) fun a σ=>ob (Gz σ a) fun l=>ob (oX ì l) fun l'=>if l.length≤lim then some (.lst l',σ)else aF
theorem ñ{g:V→qM}:∀{l l':cG},oX g l=some l'→l'.length=l.length∧∀(i:Nat) d e,l[i]?=some d→l'[i]?=some e→g d=some e:=by
 intro k
 induction k with
 |nil=>intro l';intro h;refine oQ h ?_;rintro rfl;exact ⟨rfl,fun i d e q=>by simp at q⟩
 |cons v l m=>
  intro l';intro h;simp only [A6,A5]at h
  cases c:g v with
  |none=>rw [c]at h;exact iE h
  |some o=>
   cases f:oX g l with
   |none=>rw [c,f]at h;exact iE h
   |some r=>
    replace h:=c▸h;replace h:=f▸h;refine oQ h ?_;rintro rfl;obtain ⟨a,b⟩:=m f;refine ⟨by simp [a],fun i d e q j=>?_⟩
    cases i with
    |zero=>simp at q j;subst q j;exact c
    |succ i=>exact b i d e (by exact q) (by exact j)
theorem Xj:∀{l l':cG},oX ì l=some l'→eB l=true∧eB l'=true:=by
 intro l
 induction l with
 |nil=>intro l' h;refine oQ h ?_;rintro rfl;exact ⟨rfl,rfl⟩
 |cons v l d=>intro l' h;replace h:=Ez h;obtain ⟨f,r,c,e,rfl⟩:=h;obtain ⟨a,b⟩:=d e;revert c;refine fun c=>U7 c fun _ _ _=>?_;exact ⟨a,b⟩
section
variable{n:Nat}{F:Fx}{K:Aq}{pn fn pm fm:cY}
theorem aBj(hK:K.In S.heap)(mo:zG K pn fn pm fm)(fk:iY F)
  (x1:lM (n+1) F (.Name "list" p1) (gK (.fn (.type "list")))) (x2:lM (n+1) F (.Name "map" C) (gK (.fn (.type "map")))) (x3:lM (n+1) F (.Name "Match" t) (gK (.fn (.ref rY)))) (y:lM (n+1) F e g)
  (u8:∀a b c:Int,Yv n (.ref fm) [.fn (.ref rY),.tup [.int a,.int b,.int c]] (fun r=>r=.mt [.int a,.int b,.int c]))
  (he1:eval (.Call (.Name "list" p1) [.Call (.Name "map" C) [.Attribute (.Name "Match" t) "_make" u,e] [] G] [] p6) F.env=(do mW p6 (←eval (.Name "list" p1) F.env) [] (backTo p6 (eC [.Call (.Name "map" C) [.Attribute (.Name "Match" t) "_make" u,e] [] G] F.env)) []))
  (he2:eval (.Call (.Name "map" C) [.Attribute (.Name "Match" t) "_make" u,e] [] G) F.env=(do mW G (←eval (.Name "map" C) F.env) [] (backTo G (eC [.Attribute (.Name "Match" t) "_make" u,e] F.env)) []))
  (O:eC [.Call (.Name "map" C) [.Attribute (.Name "Match" t) "_make" u,e] [] G] F.env=(false,eval (.Call (.Name "map" C) [.Attribute (.Name "Match" t) "_make" u,e] [] G) F.env)::eC [] F.env)
  (Q:eC [.Attribute (.Name "Match" t) "_make" u,e] F.env=(false,eval (.Attribute (.Name "Match" t) "_make" u) F.env)::eC [e] F.env) (R:eC [e] F.env=(false,eval e F.env)::eC [] F.env):
  lM (n+1) F (.Call (.Name "list" p1) [.Call (.Name "map" C) [.Attribute (.Name "Match" t) "_make" u,e] [] G] [] p6) (Ĥ g):=fun σ v σ' p=>by
 replace p:=eG p;obtain ⟨a,σ₁,e1,p⟩:=p;replace p:=dO p;obtain ⟨l,e2,p⟩:=p;replace p:=dO p;obtain ⟨l',e3,p⟩:=p;split at p
 case isFalse=>(exact iE p)
 rename_i dv;refine I8 p ?_;rintro rfl rfl;intro A X D h tk vs ok m _;refine (?_:bX _ _ (eval (.Call (.Name "list" p1) [.Call (.Name "map" C) [.Attribute (.Name "Match" t) "_make" u,e] [] G] [] p6) F.env) _ _ _);refine aH (TW.atE (x1 σ _ _ rfl) ok m bS.nil ?_);rintro fv h₀ g8 D₀ c6 m₀ ew;subst ew;refine callWith_type1 (Cw ?_ O) O rfl;refine aH (TW.atE (x2 _ _ _ rfl) ok m₀ bS.nil ?_);rintro fv h₁ ad D₁ ag ae ar;subst ar;refine callWith_type1 (Cw ?_ Q) Q (by refine R▸?_;rfl);refine (?_:bX _ _ (eval (.Name "Match" t) F.env>>=fun o=>lV u.atName>>=fun _=>holding [o] (getAttr o "_make" true)>>=fun r=>letTemporaryGo (.Name "Match" t) o r>>=fun _=>pure r) _ _ _);refine aH (TW.atE (x3 _ _ _ rfl) ok ae bS.nil ?_);rintro fv x bf D₂ aq bt c7;subst c7;obtain ⟨bp,za⟩:=mo.makeR;refine aH (hG (aH (cJ (cls_bind (hK.keeps bt.base) mo.reads mo.make (kA (cm_get (hK.keeps bt.base) za (handed_on rfl ?_)))))));refine aH (bC (bC ?_));have kq:=dL x (methodObj (.ref fm) (.ref rY));have mq:=bt.grow kq;have hq0:(x.push (methodObj (.ref fm) (.ref rY))).get? x.objs.size=some (methodObj (.ref fm) (.ref rY)):=cF _ rfl;have nq:¬Yf F X D₂ x.objs.size:=fun z=>by exact (bt.yal z).no (fE _)
 refine (?_:bX _ _ _ _ _ (kD (x.push (methodObj (.ref fm) (.ref rY))) (bf+1)));refine Cw (TW.atE (y _ _ _ e1) ok mq bS.nil ?_) R;rintro lv k J D₃ c5 H gx;refine T6 ?_;replace gx:=Bw H e2 gx;obtain ⟨la,xs,kk,rfl,zb,rx⟩:=gx;have W:=c5.keep _ _ hq0 (fun z=>nq (.inl z)) (fun j z=>nq (.inr (.inr ⟨j,z⟩)));refine ō zb.isList fun B e4=>?_;refine T6 ?_;refine (?_:bX _ _ (call (.type "list") [.ref (k.objs.size+2)]) _ _ (kD B J));have Z:=e4;have sz:B.objs.size=k.objs.size+3:=by simp only [Z,gS]
 have k4:∀b o,k.get? b=some o→B.get? b=some o:=fun b o q=>by rw [Z];exact cK _ (cK _ (cK _ q))
 have hM4:B.get? (k.objs.size+2)=some (rZ (k.objs.size+1) (.ref x.objs.size)):=by refine Z▸?_;have z:=cF (o:=rZ (k.objs.size+1) (.ref x.objs.size)) ((k.push (Ko la)).push {cls:=.type "tuple",data:=.seq #[.ref k.objs.size]}) rfl;rwa[gS,gS]at z
 have hT4:B.get? (k.objs.size+1)=some {cls:=.type "tuple",data:=.seq #[.ref k.objs.size]}:=by refine Z▸?_;refine cK _ ?_;have z:=cF (o:={cls:=.type "tuple",data:=.seq #[.ref k.objs.size]}) (k.push (Ko la)) rfl;rwa[gS]at z
 have wd:B.get? k.objs.size=some (Ko la):=by rw [Z];exact cK _ (cK _ (cF _ rfl))
 have lq:x.objs.size<k.objs.size:=dR W;have ll:la<k.objs.size:=dR zb;have fr:∀b,k.objs.size≤b→k.get? b=aF:=fun b hb=>by
  cases q:k.get? b with
  |none=>rfl
  |some o=>exact absurd (dR q) (nN.mpr hb)
 have frS:∀b,k.objs.size≤b→S.heap.get? b=aF:=fun b hb=>by
  cases q:S.heap.get? b with
  |none=>rfl
  |some o=>have z:=H.base _ _ q;rw [fr b hb]at z;exact iE z
 have fu:∀b,Yf F X D₃ b→vI k b:=fun b z=>by
  rcases z with z|z|⟨j,z⟩
  ·exact (H.zfr b z).2
  ·exact H.xal b z
  ·exact (H.sep j b z).h
 refine nn fun ng=>?_;obtain ⟨pl,nc⟩:=Xj e3;obtain ⟨zc,mk'⟩:=ñ e3;refine ng ?_;refine Pg (s:=kD B J) hM4 fun dr va k5 hL5=>?_;refine (?_:kC _ _ _ _ (kD dr J));have vb:IsL dr (k.objs.size+3) (bD []) va:=by have z:=hL5;rw [show (kD B J).heap.objs.size=k.objs.size+3 from sz]at z;exact z
 refine (show (kD B J).heap.objs.size=k.objs.size+3 from sz)▸?_;have L:∀b o,k.get? b=some o→dr.get? b=some o:=fun b o q=>k5 b o (k4 b o q);have hYs:∀b,(Yf F X D₃ b∨b=k.objs.size+3∨b=k.objs.size)→Yf F X D₃ b∨k.get? b=aF:=fun b z=>by
  rcases z with z|rfl|rfl
  ·exact .inl z
  ·exact .inr (fr _ (cC _ _))
  ·exact .inr (fr _ (bG _))
 refine aB3 (A:=A.in1) (Y:=fun b=>Yf F X D₃ b∨b=k.objs.size+3∨b=k.objs.size) (M:=k.objs.size+2) (T:=k.objs.size+1) (I:=k.objs.size) (l:=la) (q:=x.objs.size) (f:=.ref fm) (self:=.ref rY) (xs:=xs) (ds:=l) (es:=l') (⟨ok.hd,by have:=ok.dep;simp only [ű];exact bE 0xc62a12201d180a1220838746003 this,by have:=ok.uni;simp only [G6];exact bE 0x318a848e70e88074741d0741c0a1239c3a20838747003 this⟩:wI n A.in1.in1.in1) (fun id z=>by cases z) (.inr (.inl rfl)) (.inr (.inr rfl)) (jC (gX _)) (jC (fO (by decide))) (jC (wK (by decide) _)) (jC (bT lq (cC _ _))) (jC (bT ll (cC _ _))) (jC (fO (by decide))) (jC (gX _)) (fW lq) (fW ll)
  (frS _ (cC _ _)) (frS _ (bG _)) pl (by refine rx.length▸?_;exact dv) zc (fun i d ee hd hee=>?_) xs.length 0 dr J [] va rfl (bW _) (fun b o q=>L b o (H.base b o q)) (fun b z=>?_) (k5 _ _ hM4) (k5 _ _ hT4) (L _ _ W) ⟨_,k5 _ _ wd,rfl,rfl⟩ ?_ (bS.stepP (fun b o q _=>L b o q) hYs _ _ pl rx) vb (by exact bS.nil) fun h' ao io c' k6 hL6 r6=>?_
 ·have z:=mk' i d ee hd hee;exact U7 (P:=fun d ee=>Yv n (.ref fm) [.fn (.ref rY),d] (fun r=>r=ee)) z fun a b c=>u8 a b c
 ·rcases z with z|rfl|rfl
  ·obtain ⟨o,N⟩:=fu b z;exact ⟨o,L b o N⟩
  ·exact ⟨_,vb⟩
  ·exact ⟨_,k5 _ _ wd⟩
 ·obtain ⟨o,N,rr⟩:=zb.isList;exact ⟨o,L _ _ N,rr⟩
 ·have kf:∀b o,k.get? b=some o→h'.get? b=some o:=fun b o q=>k6 b o (fun z=>by rw [z,fr _ (cC _ _)]at q;exact iE q) (fun z=>by rw [z,fr _ (bG _)]at q;exact iE q) (L b o q);refine ⟨rfl,h',ao,D₃,_,_,rfl,(((c6.trans ag).trans aq).trans ((pC.grow kq).trans c5)).trans (pC.grow kf),H.grow kf,?_,rfl,rfl⟩;refine ⟨k.objs.size+3,io,rfl,fun z=>?_,⟨c',hL6⟩,bS.stepP (fun _ _ e _=>e) (fun b z=>.inl (.inl z)) _ _ nc r6⟩;obtain ⟨o,N⟩:=fu _ z;rw [fr _ (cC _ _)]at N;exact iE N
end
end
section
open PySem PySem.W PyProof.Rows PySem.Calls
section
variable{n:Nat}{F:Fx}{K:Aq}{pn fn pm fm:cY}
theorem Ù(c:K.In S.heap)(d:zG K pn fn pm fm)(f:findIn K (.ref rY) "__len__"=some (some (.builtin "tuple.__len__"))):B2 n F (.builtin "len") aFb:=fun us σ r σ' e=>by
 refine pB e ?_;clear e;intro _ _ e;refine pM e ?_;clear e;intro e;refine ã e ?_;clear e;intro l e;replace e:=iS e;obtain ⟨t,e⟩:=e;refine I8 e ?_;rintro rfl rfl;intro A X D h tk vs ok m r;obtain ⟨_,_,rfl,⟨x,xs,rfl,nx,a,g⟩,i⟩:=r;cases i;have b:=g.length;have XX:=c.keeps m.base;have j:=rX (M:=model prog w) a;have l1:=looks_findIn (M:=model prog w) XX f;have b1:sS (model prog w) h (bindSpecial (.builtin "tuple.__len__") (.ref x)) (.builtin "tuple.__len__",[.ref x]):=lW (PySem.F.slot_tuple_len.bind _);refine nn fun k=>?_;obtain ⟨u,o,v,p,s⟩:=a;refine k ?_;have fin:∀{R:xW→tX}{A':lL}{tk:Nat},R (.ok (.ret (.int (xs.length:Int) tk))) (kD h (tk+1))→kC (model prog w) A' (.call (.builtin "tuple.__len__") ⟨[.ref x],[]⟩) R (kD h tk):=fun r=>by refine qS PySem.F.slot_tuple_len.plain PySem.F.entry_tuple_len (@check_slot (model prog w) _ _ _ "tuple.__len__" "tuple" "__len__" (.ref x) [] [] _ (by decide+kernel) (by decide+kernel) (j.andThen (Ey XX d (by decide))) (PySem.F.args_tuple_len_1 _) ?_);unfold Nu.«tuple.__len__»;refine aH (bC ?_);dsimp only;refine aH (aH (zI o s (bC ?_)));exact aH (wpAny_mkInt (bC r))
 refine Oc kind_len plain_len entry_len (args_len1 _) ?_;unfold Nu.«len»;refine aH (bC ?_);refine aH ?_;unfold callSpecial? specialOf;repeat (first|(with_reducible refine kA (fin ?_))|lk)
 rw [if_neg (by rw [b];lia)];refine aH (wpAny_mkInt (bC ⟨_,rfl,h,_,D,σ,_,rfl,.refl,m,?_,rfl,rfl⟩));refine (?_:gQ D (Yf F X D) h (.int (l.length:Int)) (.int (xs.length:Int) _));refine b▸?_;exact oK
end
end
section
open PySem PySem.W PyProof.Rows PySem.Calls
theorem O0{Y:iK}:∀{A B:aW}{xs:gI},bS D Y h (A.map V.int) xs→bS D Y h (B.map V.int) xs→A=B:=by
 intro d
 induction d with
 |nil=>
  intro f
  cases f with
  |nil=>intro _;intro _;intro _;exact rfl
  |cons b B=>intro xs;intro r;intro c;simp only [wL,cS,pJ,pI]at r c;subst r;obtain ⟨_,_,e,_⟩:=c;cases e
 |cons a A g=>
  intro i
  cases i with
  |nil=>intro xs;intro r;intro c;simp only [wL,cS,pJ,pI]at r c;subst c;obtain ⟨_,_,e,_⟩:=r;cases e
  |cons b B=>intro xs;intro r;intro c;simp only [cS,pJ,pI]at r c;obtain ⟨_,_,rfl,⟨t,rfl⟩,j⟩:=r;obtain ⟨_,_,e,⟨l,k⟩,r2'⟩:=c;cases e;cases k;rw [g j r2']
section
variable{n:Nat}{F:Fx}{σ:St}{Q:V→iX}
theorem O2(l:((∃A,v=vL A)∧(c=.none∨(∃B,c=vL B)∨∃s,c=.str s))∨((∃s,v=.str s)∧c=.none))(q:∀b,(b=true→v=c)→Q (.bool b) σ):TW rV n F [v,c] (two (compareOp .Is)) σ Q:=qU fun A X D h tk u y ok m g d=>by
 have f:uJ rV F X D h Q (.bool false) (kD h tk):=gT m mJ (q false (fun z=>by cases z));rcases l with ⟨⟨A,rfl⟩,o⟩|⟨⟨s,rfl⟩,rfl⟩
 ·obtain ⟨a,xs,rfl,C,⟨k,i⟩,p⟩:=g;rcases o with rfl|⟨B,rfl⟩|⟨s,rfl⟩
  ·subst d;exact Y0 rfl (fun z=>by cases z) f
  ·obtain ⟨b,r,rfl,nb,⟨G,j⟩,x⟩:=d;by_cases e:a=b
   ·subst e;have:xs=r:=by have z:=i.symm.trans j;cases z;rfl
    subst this;exact wpAny_is_ref_self (gT m mJ (q true fun _=>by rw [O0 p x]))
   ·exact wpAny_is_ref_other e i j (show mF "list"≠mF "tuple" by decide) f
  ·obtain ⟨t,rfl⟩:=d;exact Y0 rfl (fun z=>by cases z) f
 ·obtain ⟨t,rfl⟩:=g;subst d;exact Y0 rfl (fun z=>by cases z) f
end
end
section
set_option backward.match.sparseCases false
open PySem PySem.W PyProof.Rows PySem.Calls
def ł:qR:=fun us σ=>aN (some (.set0,σ)) us
def ń:qR:=fun us σ=>aV (fun u=>aN (ob (aMk u) fun s=>if s.length≤lim then some (.int s.length,σ)else aF)) us
section
variable{n:Nat}{F:Fx}
theorem O3:B2 n F (.type "set") ł:=fun us σ r σ' e=>by
 refine pM e fun e=>?_
 ·intro A X D h tk vs ok m r;obtain rfl:=r;refine call_set_0 fun a=>?_;have b:=dL h {cls:=.type "set",dict:=aF,data:=.set #[] 0 (.fresh 0 0 a)};refine ⟨_,tk,D,σ,_,rfl,pC.grow b,m.grow b,?_,.of e⟩;refine ⟨h.objs.size,rfl,fun q=>?_,a,cF _ rfl⟩;exact (m.yal q).no (fE _)
theorem Ø:B2 n F (.builtin "len") ń:=fun us σ r σ' e=>by refine pB e fun _ _ e=>?_;refine pM e fun e=>?_;refine aGp e fun s e=>?_;obtain ⟨b,e⟩:=iS e;intro A X D h tk vs ok m r;obtain ⟨_,_,rfl,⟨t,rfl⟩,a⟩:=r;cases a;refine len_str (by have c:lim=1048576:=rfl;lia) ?_;exact ⟨h,_,D,σ,_,rfl,.refl,m,oK,.of e⟩
end
end
section
open PySem PySem.W PyProof.Rows PySem.Calls
section
variable{n:Nat}{F:Fx}
theorem Zo{Q:Fl→iX}(fk:iY F)(x:lM n F (.Name "enumerate" p) (gK (.fn (.type "enumerate"))))(i:oW F [arg])(y:lM n F arg l)(B:eC [arg] F.env=(false,eval arg F.env)::eC [] F.env)
  (Z:eval (.Call (.Name "enumerate" p) [arg] [] ipos) F.env=(do mW ipos (←eval (.Name "enumerate" p) F.env) [] (backTo ipos (eC [arg] F.env)) []))
  (C:∀x,foldedSetIterable (.Call (.Name "enumerate" p) [arg] [] ipos) F.env x=pure x) (G:l σ=some (.str (aC ""),σ₁)) (q:Q .next σ₁):
  XW k n F (.For (.Tuple es c tpos) (.Call (.Name "enumerate" p) [arg] [] ipos) body [] ah) σ Q:=by
 intro A X D h tk ok m;refine ũ ?_ C;refine aH (TW.atE (x σ _ _ rfl) ok m bS.nil ?_);rintro fv h₀ g8 D₀ H m₀ I;subst I;have J:zH n F ipos [arg] (aK l bJ):=hW y aO B;refine oO (nR i) (rG i (J _ [.str (aC "")] σ₁ (by simp [aK,G,bd,bJ])) ok m₀ ?_);rintro g6 h₁ f D₁ _ _ L N O ⟨rfl,rfl⟩;obtain ⟨_,_,rfl,⟨t,rfl⟩,rfl⟩:=O;refine call_enumerate_str fun a r g q8 P=>?_;have W:=WalksT.enumerateD (prog:=prog) (w:=w) (Draws.strAscii (A:=A.in1) ok.hd h₁.objs.size (aC "") t) (h₁.objs.size+1) (J6 _) (by simp) (by simp);have s:a.IsStrIter h₁.objs.size "str_ascii_iterator" (aC "") t 0:=by
  have z:strIterType (aC "")="str_ascii_iterator":=by decide+kernel
  replace g:=z▸g;exact g
 refine W.self 0 (kD a f) _ _ ⟨⟨_,r⟩,s⟩ ?_;refine I1 (fun j s'=>j=1∧s'=kD a f) (fun j s' R=>?_) 1 ⟨rfl,rfl⟩;obtain ⟨rfl,rfl⟩:=R;have h0:(aC "").cps.size=0:=by decide+kernel
 refine W.done (kD a f) _ _ ⟨⟨_,r⟩,s⟩ fun u T Y=>xV ?_;have v:∀b o,h₁.get? b=some o→u.get? b=some o:=fun b o e=>Y b o (fun z=>by
  have d:=dR e;rcases aU.mp z with z|z
  ·rw [z]at d;exact absurd d (nN.mpr (fI _))
  ·rw [aM.mp z]at d;exact absurd d (fF _)) (P b o e)
 exact ⟨u,T,D₁,_,.next,rfl,((H.trans L).trans (pC.grow v)).toK k,N.grow v,J0.next,q⟩
end
end
section
set_option backward.match.sparseCases false
open PySem PySem.W PyProof.Rows PySem.Calls
section
variable{n:Nat}
theorem O8(b:∀as,B3 m as→tL n f (.attrs as) ds (fun c r=>∃a,c=.attrs a∧B3 m' a∧r=r0)):tL n f (.mat m) ds (fun c r=>c=.mat m'∧r=r0):=by intro A Y h tk x c vs ok d e g i j k cr l;obtain ⟨as,o,s⟩:=cr;refine bN (b as o A Y h tk x c vs ok d e g i j k s l) (fun v s' p=>?_) fun _ _ z=>z;obtain ⟨h',t,c1,r,rfl,u,y,G,B,C,D,a,rfl,F,rfl⟩:=p;exact ⟨h',t,.mat m',r,rfl,u,y,trivial,B,⟨a,F,C⟩,D,rfl,rfl⟩
end
end
section
set_option backward.match.sparseCases false
open PySem PySem.W PyProof.Rows PySem.Calls
theorem Qa{E:sX}{s:dI}{f:Int→Option bO}{Q:sX}(x:Ŝ s.heap d f n)(p:n≤iC)
  (j:∀u,f k=some u→Q u {s with toks:=s.toks+1})
  (l:f k=aF→∀h',Ŝ h' d (fun y=>if y=k then some v else f y) (n+1)→qI d s.heap h'→Q v {s with heap:=h',toks:=s.toks+1}):bX (model prog w) A (dictSetDefault d (.int k t) v) Q E s:=by
 refine nn fun m=>?_;obtain ⟨es,r,b,h,le,c⟩:=x.ex;refine m ?_;refine cJ (aH (aO6 ?_));refine aH (aM1 b rfl h ?_)
 cases hi:es.findIdx? fun e=>rK k e.key with
 |some i=>
  have a:f k=(es[i]?).map (·.val):=by simp only [←c k,findBy_of_findIdx?,hi]
  refine aH (wpAny_dictEntries b rfl ?_)
  cases g:es[i]? with
  |none=>exfalso;have:=Array.findIdx?_eq_some_iff_findIdx_eq.mp hi;have o:=this.1;rw [Oe o]at g;exact nomatch g
  |some e=>simp only [g]at a;exact aH (zJ (bC (j e.val a)))
 |none=>
  refine aH (zJ (aH (aIs b rfl (bC (l (by simp only [←c k,findBy_of_findIdx?,hi]:f k=aF) _ ⟨_,_,kG _ b (Ff (š rfl _)),h.push k t v,?_,fun y=>?_⟩ (pD ..))))))
  ·simp only [aFq];exact bE ü le
  ·refine (findBy_push rK es k y _ _ v (fun z=>?_) hi).trans (by rw [c]);refine (?_:(k==z)=decide (z=k));by_cases e:z=k
   ·simp [e]
   ·have:¬k=z:=fun q=>e q.symm;simp [e,this]
def Kx:qR:=fun us σ=>aV (fun u=>aV fun y=>aV fun d=>aN (ob (Iu u) fun n=>ob (G0 y) fun k=>aD σ n fun p=>if p.1.length≤lim then
 ((p.1.zip p.2).lookup k).elim (some (d,{σ with cells:=lQ n (.dict (k::p.1) (d::p.2)) σ.cells})) fun v=>some (v,σ)else aF)) us
def aBb(σ:St):V→Bool
 |.ref n=>match lk σ.cells n with
  |some (.dict _ _)=>true
  |_=>false
 |_=>false
theorem aBa(h:aBb σ u=true):∃j ks vs,u=.ref j∧lk σ.cells j=some (.dict ks vs):=by
 cases u<;>first|cases h|skip
 rename_i j;unfold aBb at h;dsimp only at h
 cases e:lk σ.cells j with
 |none=>replace h:=e▸h;cases h
 |some c=>cases c<;>simp only [e]at h<;>first|exact ⟨j,_,_,rfl,e⟩|cases h
def aB1(d:qR)(go:M V)(ga:M cG):M V:=fun σ=>bd (go σ) fun u σ=>if aBb σ u=true then bd (ga σ) fun us σ=>d (u::us) σ else aF
section
variable{n:Nat}{F:Fx}{K:Aq}
theorem Xg(fk:iY F)(C:vI S.heap sysModules):OpB n F "dict.setdefault" Kx:=fun us σ v σ' e=>by
 refine pB e ?_;clear e;intro _ _ e;refine pB e ?_;clear e;intro _ _ e;refine pB e ?_;clear e;intro dd _ e;refine pM e ?_;clear e;intro e;refine Kg e ?_;clear e;intro j e;refine zC e ?_;clear e;intro k e;replace e:=aDy e;obtain ⟨ks,vs,Y,e⟩:=e;replace e:=iS e;obtain ⟨L,e⟩:=e;intro A X D h tk ws ok m r;obtain ⟨u,_,rfl,r1,y,_,rfl,Z,z,_,rfl,N,r4⟩:=r;cases r4;obtain ⟨a,rfl,G⟩:=r1;obtain ⟨t,rfl⟩:=Z;obtain ⟨a',g,xs,hx,O⟩:=m.cel j _ Y;replace g:=G▸g;cases g;have hd:(a==sysModules)=false:=by
  cases q:a==sysModules with
  |false=>rfl
  |true=>obtain ⟨o,i⟩:=C;replace i:=(eq_of_beq q)▸i;replace i:=((m.sep j a G).b)▸i;cases i
 refine nn fun H=>?_;obtain ⟨P,f,df,x⟩:=nJ.mp hx;refine H ?_;have Q:(∀u,f k=some u→uJ rV F X D h (Cv v σ') u {kD h tk with toks:=tk+1})→(f k=aF→∀h',Ŝ h' a (fun y=>if y=k then some z else f y) (ks.length+1)→qI a h h'→uJ rV F X D h (Cv v σ') z {kD h tk with heap:=h',toks:=tk+1})→ks.length≤iC→
   bX (model prog w) A (Qh "dict.setdefault" [mV a,C0 k t,z]) (uJ rV F X D h (Cv v σ')) (fun _ _=>False) (kD h tk):=fun q1 q2 d=>by
  have mt:MeetsIn prog w (Nu.«dict.setdefault» ⟨[mV a,C0 k t,z],[]⟩) (fun _ R s=>∃f n,Ŝ s.heap a f n∧n≤iC∧(∀u,f k=some u→R (.ok (.ret u)) {s with toks:=s.toks+1})∧(f k=aF→∀h',Ŝ h' a (fun y=>if y=k then some z else f y) (n+1)→qI a s.heap h'→R (.ok (.ret z)) {s with heap:=h',toks:=s.toks+1})):=
   .of_wp fun A R s ⟨f,n,T,d,C,h2⟩=>by unfold Nu.«dict.setdefault»;refine aH ?_;refine aH (aFh T.map.typeIs ?_);refine (?_:bX _ _ (pure (a,C0 k t,some z)) _ _ s);refine bC ?_;refine (?_:bX _ _ (if (a==sysModules)=true then _ else (dictSetDefault a (C0 k t) z>>=_)) _ _ s);rw [if_neg (by rw [hd];exact aY)];exact aH (Qa T d (fun v hv=>bC ⟨v,rfl,C v hv⟩) fun l h' gj I=>bC ⟨z,rfl,h2 l h' gj I⟩)
  exact call_meetsIn I2 (df.map.typeIs) PySem.F.entry_dict_setdefault (PySem.F.args_dict_setdefault_3 _ _ _) mt ⟨f,ks.length,df,d,q1,q2⟩
 rcases Zj k O P with ⟨v1,z1,J,B,g⟩|⟨J,B⟩
 ·rw [J]at e;refine Q (fun u p=>?_) (fun l=>by rw [x,B]at l;cases l) (bR L oY);rw [x,B]at p;cases p;exact ⟨h,tk+1,D,σ,_,rfl,.refl,m,g,.of e⟩
 ·replace e:=J▸e;refine I8 e ?_;rintro rfl rfl;refine Q (fun u p=>by rw [x,B]at p;cases p) (fun l h' yq I=>?_) (bR L oY);have d:=Hz P x yq;refine nn fun H=>?_;obtain ⟨oz,yr⟩:=d.lt;obtain ⟨m',W⟩:=m.turn (c:=.dict (k::ks) (dd::vs)) fk G (fun b o hb e=>(I.2 b hb).trans e) ⟨oz,yr⟩ (fun Y' hr d7=>⟨z::xs,d,.cons (hr _ _ N) (d7 _ _ O)⟩);refine H ?_;exact ⟨h',_,D,_,_,rfl,W,m',gQ.on m W N,rfl,rfl⟩
theorem aBk{o:Expr}{name:jX}{c b:Pos}{args:List Expr}{p:Fd Bool}{id:String}{d:qR}{i:M V}{k:M cG}(slot:Slot "dict" name id)(s:typeOf (.builtin id)=pure (.type "method_descriptor"))(t:Y2 "dict")(ob:OpB n F id d)
  (x:lM n F o i) (z:oW F args) (y:zH n F b args k)
  (A:eval (.Call (.Attribute o name c) args [] b) F.env=(do
   let l←eval o F.env
   lV c.atName
   let (f,first)←holding [l] (getMethod l name p)
   mW b f first (backTo b (eC args F.env)) [])):lM n F (.Call (.Attribute o name c) args [] b) (aB1 d i k):=fun σ v σ' q=>by
 obtain ⟨u,σ₁,B,q⟩:=eG q;split at q
 ·rename_i hd;replace q:=eG q;obtain ⟨us,L,C,q⟩:=q;refine M0 slot s t A z ((x _ _ _ B).mono ?_);refine mR ?_;refine ⟨fun F X D h v m r=>?_,TW.mono (y _ _ _ C) ?_⟩
  ·obtain ⟨j,ks,vs,rfl,G⟩:=aBa hd;obtain ⟨a,rfl,H⟩:=r;refine nn fun e=>?_;obtain ⟨N,g,xs,I,O⟩:=m.cel j _ G;refine e ?_;replace g:=H▸g;refine oQ g ?_;rintro rfl;refine nn fun e=>?_;obtain ⟨_,f,⟨es,P,J,_⟩,_⟩:=nJ.mp I;refine e ?_;exact ⟨a,_,rfl,J,rfl,rfl⟩
  ·refine mR ?_;exact ob _ _ _ _ q
 ·exact iE q
end
end
section
open PySem PySem.W PyProof.Rows PySem.Calls
theorem Wk.of_lk(b:∀x v,lk σ'.loc x=some v→lk σ.loc x=some v)(d:∀n c,lk σ'.cells n=some c→lk σ.cells n=some c)(f:σ.next≤σ'.next):Wk k σ σ':=fun F X D h fk m=>
 ⟨D,⟨m.base,fun x v e=>m.loc x v (b x v e),m.frm,fun n c e=>m.cel n c (d n c e),m.inj,fun n a e=>let ⟨a1,g,i,j,l⟩:=m.sep n a e;⟨a1,g,i,j,bT l f⟩,m.zfr,m.xal⟩,fun _ _ _ e=>e,fun _ _ e=>e⟩
section
variable{n:Nat}{F:Fx}
theorem Zn{gs:List (V→St→Option St)}{Q:Fl→iX}(fk:iY F)(x:lM n F (.Name "enumerate" p) (gK (.fn (.type "enumerate"))))(d:oW F [arg])(y:lM n F arg B)(C:eC [arg] F.env=(false,eval arg F.env)::eC [] F.env)
  (g:J2 n F es gs)
  (he:eval (.Call (.Name "enumerate" p) [arg] [] ipos) F.env=(do mW ipos (←eval (.Name "enumerate" p) F.env) [] (backTo ipos (eC [arg] F.env)) []))
  (G:∀x,foldedSetIterable (.Call (.Name "enumerate" p) [arg] [] ipos) F.env x=pure x)
  (H:B σ=some (.lst l,σ₁)) (I:eB l=true) (J:Nat→iX) (L:J 0 σ₁)
  (N:∀(i:Nat) σ',i<l.length→J i σ'→∃σ₁,unp gs [.int i,l.getD i .none] σ'=some σ₁∧SW k n F body σ₁ (aDa k Q (J (i+1))))
  (done:∀σ',J l.length σ'→Q .next σ'):
  XW k n F (.For (.Tuple es c tpos) (.Call (.Name "enumerate" p) [arg] [] ipos) body [] ah) σ Q:=by
 intro A X D h tk ok m;refine ũ ?_ G;refine aH (TW.at (x σ _ _ rfl) ok m bS.nil ?_);rintro fv h₀ g8 D₀ g7 b O m₀ P ⟨rfl,rfl⟩;subst P;refine oO (nR d) (rG d ((hW y aO C) _ [.lst l] σ₁ (by simp [aK,H,bd,bJ])) ok m₀ ?_);rintro g6 h₁ R D₁ _ _ T W f ⟨rfl,rfl⟩;simp only [pJ,pI]at f;obtain ⟨u,r',rfl,Y,rfl⟩:=f;obtain ⟨a,xs,rfl,Z,⟨kk,j⟩,rx⟩:=Y;refine call_enumerate_list j.isList fun aw t hI q8 t4=>?_;have v:∀b,h₁.objs.size≤b→h₁.get? b=aF:=fun b hb=>by
  cases q:h₁.get? b with
  |none=>rfl
  |some o=>exact absurd (dR q) (nN.mpr hb)
 refine wpAny_pyIter_enum (s:=kD aw R) t ?_;exact rH (į fk ok (J6 _) W t4 (v _ (fI _)) (v _ (bG _)) ⟨_,t⟩ hI Z j rx I g J L N done) fun r s' z=>by
  cases r with
  |ok f'=>exact z.on ((O.trans T).toK k)
  |error e=>exact z
end
end
section
variable{n:Nat}{F:Fx}
theorem jN.outX{X:iK}{base:Nat}(fk:iY F)(G:C∉F.Z)(l:∀x q,lk F.bnd x=some q→x<base)(m:jN (tJ F scope cl C base names) X D σ h):jN F (jK [C] X) D (Tp base σ) h:=by
 have j:∀a,Yf F (jK [C] X) D a→Yf (tJ F scope cl C base names) X D a∨h.get? a=aF:=fun a q=>by
  rcases q with q|q|q
  ·exact .inl (.inl (aQ _ q))
  ·rcases q with q|q
   ·exact .inl (.inl (by simp only [aM.mp q];exact aR))
   ·exact .inl (.inr (.inl q))
  ·exact .inl (.inr (.inr q))
 have k:∀d v,gQ D (Yf (tJ F scope cl C base names) X D) h d v→gQ D (Yf F (jK [C] X) D) h d v:=fun d v=>gQ.step (fun _ _ e _=>e) (fun _ _ e=>e) j d v;refine ⟨m.base,fun x v e=>?_,fun x p s e=>m.frm x p s (Gq e),fun i c e=>?_,m.inj,fun i a e=>?_,fun a e=>m.zfr a (aQ _ e),fun a e=>?_⟩
 ·have b:lk (F9 base σ.loc) x=some v:=e;rw [Ve]at b;split at b
  ·rename_i o;refine nn fun r=>?_;obtain ⟨p,s,u,f,g,t⟩:=m.loc x v b;refine r ?_;rcases Bb l f with q|⟨q,_,_⟩
   ·exact ⟨p,s,u,q,g,k _ _ t⟩
   ·exact fJ (bE Sv o q)
  ·exact iE b
 ·obtain ⟨a,f,g⟩:=m.cel i c e;exact ⟨a,f,g.on k (fun d v=>bS.step (fun _ _ e _=>e) (fun _ _ e=>e) j d v) fun _ e=>e⟩
 ·obtain ⟨a1,y,z,A,B⟩:=m.sep i a e;refine ⟨fun q=>a1 (aQ _ q),fun q=>?_,z,A,B⟩;rcases q with q|q
  ·exact a1 (by refine (aM.mp q)▸?_;exact aR)
  ·exact y q
 ·rcases e with e|e
  ·simp only [aM.mp e];exact (m.zfr C aR).2
  ·exact m.xal a e
theorem Xy{body:cY→cY→Fd Unit}{gt:V→St→Option St}
  (fk:iY F) (B:∀x q,lk F.bnd x=some q→x<base) (ca:names≠[]) (ha:(g.is_async != 0)=false)
  (qd:swapsWith (.ListComp G (g::gs) scope H) (some (.Name yn py)) spos.line F.env=pure true) (ze:lk F.bnd xi=some (p0,yn)) (dz:œ F.env p0 yn)
  (pf:∀u,evalThenUse (.ListComp G (g::gs) scope H) F.env u=(comprehension (.ListComp G (g::gs) scope H) scope F.env pos' (newList []) false (eval g.iter F.env) (some u)>>=fun _=>pure ()))
  (hf:∀x,foldedSetIterable g.iter F.env x=pure x) (di:closureFor scope F.env=pure cl) (cp:∀y∈scope.names,y.2≠.cell) (cn:scope.kind=.function)
  (cu:∀y∈scope.names,y.2=.local→scope.names.lookup y.1=some .local)
  (kx:∀C,C∉F.Z→iY (tJ F scope cl C base names))
  (fg:∀C a I,compTurn (.ListComp G (g::gs) scope H) 0 (.ref I) (.ref a) (kB scope cl C F.env)=(lV p>>=fun _=>pyNext (.ref I)>>=fun r=>match r with
   |none=>pure (.done .next)
   |some v=>pQ g.target (.ref I) v>>=fun _=>assign g.target (kB scope cl C F.env) v>>=fun _=>body C a>>=fun _=>again (.compLoop (.ListComp G (g::gs) scope H) 0 (.ref I) (.ref a) (kB scope cl C F.env))))
  (x:ŕ n F g.iter gi) (y:∀C,C∉F.Z→I9 n (tJ F scope cl C base names) g.target gt)
  (z:∀C a,C∉F.Z→∀σ xs σ',gb σ=some (xs,σ')→CB n (tJ F scope cl C base names) a (body C a) σ xs σ'):
  Fy n F (.Assign [.Name yn py] (.ListComp G (g::gs) scope H) spos) (eS (oD base gi gt gb) (bY xi)):=fun k σ f σ' e=>by
 refine nn fun l=>?_;replace e:=eG e;obtain ⟨v,σv,j,e⟩:=e;replace j:=eG j;obtain ⟨ds,σ₁,e1,j⟩:=j;replace j:=eG j;obtain ⟨xs,am,e2,j⟩:=j;refine l ?_;split at j
 ·rename_i dv;refine I8 j ?_;rintro rfl rfl;refine I8 e ?_;rintro rfl rfl;intro A X D h tk ok m;refine (exec_Assign_Name_used _ _ _ _ qd)▸?_;refine aH (hG (aH ?_));rw [pf];refine aH (bN ?_ (fun _ s' hq=>bC (bC hq)) fun _ _ z=>z);refine Ş rfl hf di cn cu (bN (x _ _ _ e1 A X D h tk ok m) (fun xv d0 h₁=>bN h₁ (fun it g4 T=>?_) fun _ _ q=>q) fun _ _ q=>q);refine nn fun l=>?_;obtain ⟨h₀,D₀,g7,me,I,d,ad,rfl,rfl,st,m₀,wk,rfl,rfl⟩:=T;obtain ⟨wi,J,O,fe⟩:=wk.toIn m₀;refine l ?_;refine uL (aIt cp (by intro y hy;simp at hy) (fun W Y Z=>?_) cn);dsimp only at Y Z⊢;generalize pi:d.push {cls:=.type "list",dict:=aF,data:=.seq ([]:gI).toArray}=H2 at Y Z⊢;have kv:∀b o,d.get? b=some o→H2.get? b=some o:=fun b o e=>pi▸dL _ _ b o e;have js:∀b o,H2.get? b=some o→W.get? b=some o:=fun b o e=>Z.extBut b o (fW (dR e)) (dL _ _ b o e);have P:∀b o,d.get? b=some o→W.get? b=some o:=fun b o e=>js b o (kv b o e);have aN:d.get? d.objs.size=aF:=fE _;have pj:H2.get? H2.objs.size=aF:=fE _;have cN:d.get? H2.objs.size=aF:=by
   cases q:d.get? H2.objs.size with
   |none=>rfl
   |some o=>rw [kv _ _ q]at pj;exact Lp pj
  have t5:∀b,d.get? b=aF→h₀.get? b=aF:=fun b e=>by
   cases q:h₀.get? b with
   |none=>rfl
   |some o=>rw [O _ _ q]at e;exact Lp e
  have t7:=pi▸I4 _ _;have i9:∀b,d.get? b=aF→b∉F.Z∧¬X b∧(∀i,lk D₀ i≠some b)∧S.heap.get? b=aF:=fun b e=>by
   refine ⟨fun q=>?_,fun q=>?_,fun i q=>?_,?_⟩
   ·exact ((J.zfr b q).2).no e
   ·exact (J.xal b (pN q)).no e
   ·exact ((J.sep i b q).h).no e
   ·cases q:S.heap.get? b with
    |none=>rfl
    |some o=>rw [J.base b o q]at e;exact Lp e
  refine nn fun l=>?_;obtain ⟨aZ,aX,aD,aB⟩:=i9 _ aN;obtain ⟨t,cX,cD,cB⟩:=i9 _ cN;refine l ?_;have t9:d.objs.size≠H2.objs.size:=by simp only [(by rw [←pi,gS]:H2.objs.size=d.objs.size+1)];exact fW (gX _)
  have m2:=J.addX kv fun b B=>by obtain rfl:=aM.mp B;exact ⟨aN,_,t7⟩
  have wf:jN (tJ F scope cl H2.objs.size base names) (jK [I] (jK [d.objs.size] X)) D₀ σ₁ W:=(m2.into B js pj Y).dropX fun b q=>by
   rcases q with q|q|q
   ·exact pN (oG q)
   ·exact oG q
   ·exact pN (pN q)
  have qy:=wi.up (scope:=scope) (cl:=cl) (base:=base) (names:=names) P aN cN;have wg:d.objs.size∉(tJ F scope cl H2.objs.size base names).Z:=fun q=>by
   rcases aU.mp q with q|q
   ·exact t9 q
   ·exact aZ q
  have jn:=Ky (F:=tJ F scope cl H2.objs.size base names) (tk:=ad+([]:List (jX×bO)).length) (kx _ t) ok (oG (by simp)) wg aB rfl D1 (fg _ _ I) qy wf (⟨[],0,js _ _ t7,bS.nil⟩) (y _ t) (z _ _ t) e2 (bR (by simpa using dv) oY);clear wf wg;refine rH (D0 (g:=g) rfl ha jn (qy.self jn)) fun r s' T=>?_;refine nn fun l=>?_;clear kx y z qy jn;obtain ⟨rfl,h',ao,D',rfl,Q,m',io⟩:=T;refine l ?_
  obtain ⟨nm,ns,yg⟩:∃a b,names=a::b:=by cases names with
   |nil=>exact absurd rfl ca
   |cons a b=>exact ⟨a,b,rfl⟩
  have pk:uK h' (.loc H2.objs.size):=m'.frm base (.loc H2.objs.size) nm (by
   refine (?_:lk (F.bnd++Y6 H2.objs.size base names) base=_);simp only [xI]
   cases q:lk F.bnd base with
   |some v=>exact absurd (B base v q) (fF _)
   |none=>refine yg▸?_;simp [Hm,Hl,fN,fM])
  refine nn fun l=>?_;obtain ⟨mm,ua⟩:=pk;have nn:∀b o,h₀.get? b=some o→b≠I∧b≠d.objs.size∧b≠H2.objs.size:=fun b o e=>⟨fun q=>(by rw [q,fe]at e;exact iE e),fun q=>(by rw [q,t5 _ aN]at e;exact iE e),fun q=>(by rw [q,t5 _ cN]at e;exact iE e)⟩;have yh:pC F D₀ h₀ D' h':=by
   refine ⟨fun b o e hz hd=>Q.keep b o (P _ _ (O _ _ e)) (fun q=>?_) hd,Q.ext,fun i b e=>?_,fun b o e=>Q.al b o (nn b o e).1 (P _ _ (O _ _ e))⟩
   ·rcases aU.mp q with q|q
    ·exact (nn b o e).1 q
    ·rcases aU.mp q with q|q
     ·exact (nn b o e).2.1 q
     ·rcases aU.mp q with q|q
      ·exact (nn b o e).2.2 q
      ·exact hz q
   ·rcases Q.new i b e with q|q
    ·exact .inl q
    ·refine .inr ?_
     cases q':h₀.get? b with
     |none=>rfl
     |some o=>rw [P _ _ (O _ _ q')]at q;exact Lp q
  obtain ⟨us,c,hu,ru⟩:=io;refine l ?_;have zg:gQ D' (Yf F (jK [H2.objs.size] X) D') h' (.lst xs) (.ref d.objs.size):=by
   refine ⟨_,us,rfl,fun q=>?_,⟨c,hu⟩,?_⟩
   ·rcases q with q|(q|q)|⟨i,q⟩
    ·exact aZ q
    ·exact t9 (aM.mp q)
    ·exact aX q
    ·exact (fun i q=>(m'.sep i _ q).x (oG (by simp))) i q
   ·refine bS.step (fun _ _ e _=>e) (fun _ _ e=>e) (fun b q=>?_) _ _ ru;rcases q with q|(q|q)|q
    ·exact .inl (.inl (aQ _ q))
    ·exact .inl (.inl (by simp only [aM.mp q];exact aR))
    ·exact .inl (.inr (.inl (pN q)))
    ·exact .inl (.inr (.inr q))
  refine G1 (C9 fk (jN.outX fk t B (m'.dropX fun b q=>pN q)) ze dz zg fun aw bf m6 L=>?_);refine ⟨mm,?_,fun jz j3=>?_⟩
  ·exact Ns.keep1 ua (fun o e=>L.keep _ o e t (fun i q=>(m'.sep i _ q).z (by exact aR):∀i,lk D' i≠some H2.objs.size))
  ·have m7:jN F X D' {Tp base am with loc:=lQ xi (.lst xs) (Tp base am).loc} jz:=jN.leave (N:=[H2.objs.size]) fk m6 (fun b s=>by refine (aM.mp s)▸?_;exact t) (fun b s=>by refine (aM.mp s)▸?_;exact cB) (fun b s=>by refine (aM.mp s)▸?_;exact cX) (fun b o s e=>j3.extBut b o (fun q=>s (by simp only [q];exact aM.mpr rfl)) e);have R:=yh.trans L;have stf:pC F D₀ h₀ D' jz:=⟨fun b o e hz hd=>j3.extBut b o (nn b o e).2.2 (R.keep b o e hz hd),R.ext,R.new,fun b o e=>by obtain ⟨o',e'⟩:=R.al b o e;exact ⟨o',j3.extBut b o' (nn b o e).2.2 e'⟩⟩;exact ⟨jz,bf,D',_,.next,rfl,(st.trans stf).toK k,m7,J0.next,rfl,rfl⟩
 ·exact iE j
end
section
variable{n:Nat}{F:Fx}{tab:List (Nat×jX)}
theorem H3{body:cY→cY→Fd Unit}{gt:V→St→Option St}
  (T:Eb F tab) (i:∀x q,lk F.bnd x=some q→x<base) (o:names≠[]) (s:names.Nodup) (t:(g.is_async != 0)=false)
  (A:swapsWith (.ListComp c (g::gs) scope d) (some (.Name yn py)) spos.line F.env=pure true) (f:(j,yn)∈tab)
  (B:∀u,evalThenUse (.ListComp c (g::gs) scope d) F.env u=(comprehension (.ListComp c (g::gs) scope d) scope F.env pos' (newList []) false (eval g.iter F.env) (some u)>>=fun _=>pure ()))
  (D:∀x,foldedSetIterable g.iter F.env x=pure x) (G:(scope.names.all fun x=> !(x.2==.free)|| (F.env.cells.lookup x.1).isSome)=true) (H:(scope.names.all fun y=>y.2 != .cell)=true) (l:scope.kind=.function)
  (J:(scope.names.all fun y=>y.2 != .local||scope.names.lookup y.1==some .local)=true) (L:B5 F scope tab cap) (N:B4 F scope names)
  (O:∀C a I,compTurn (.ListComp c (g::gs) scope d) 0 (.ref I) (.ref a) (kB scope (mD scope F.env) C F.env)=(lV p>>=fun _=>pyNext (.ref I)>>=fun r=>match r with
   |none=>pure (.done .next)
   |some v=>pQ g.target (.ref I) v>>=fun _=>assign g.target (kB scope (mD scope F.env) C F.env) v>>=fun _=>body C a>>=fun _=>again (.compLoop (.ListComp c (g::gs) scope d) 0 (.ref I) (.ref a) (kB scope (mD scope F.env) C F.env))))
  (x:ŕ n F g.iter gi) (y:∀C,Eb (tJ F scope (mD scope F.env) C base names) (cap++Hj base names)→I9 n (tJ F scope (mD scope F.env) C base names) g.target gt)
  (z:∀C a,Eb (tJ F scope (mD scope F.env) C base names) (cap++Hj base names)→∀σ xs σ',gb σ=some (xs,σ')→CB n (tJ F scope (mD scope F.env) C base names) a (body C a) σ xs σ'):
  Fy n F (.Assign [.Name yn py] (.ListComp c (g::gs) scope d) spos) (eS (oD base gi gt gb) (bY j)):=by
 refine nn fun P=>?_;obtain ⟨X,Q,R⟩:=T.ok j yn f;refine P ?_;have h:∀C,C∉F.Z→Eb (tJ F scope (mD scope F.env) C base names) (cap++Hj base names):=fun C b=>Vn T l b s i L.at N.at;refine Xy T.fk i o t A Q R B D (Ai G) (fun y f=>?_) l (fun y f W=>?_) (fun C b=>(h C b).fk) O x (fun C b=>y C (h C b)) (fun C a b=>z C a (h C b))
 ·have:=fR.mp H y f;intro e;replace this:=e▸this;exact absurd this (by decide)
 ·have:=fR.mp J y f;replace this:=W▸this
  cases m:scope.names.lookup y.1 with
  |none=>rw [m]at this;exact absurd this (by decide)
  |some k=>rw [m]at this;cases k<;>first|rfl|exact absurd this (by decide)
theorem aBe{gt:V→St→Option St}
  (T:Eb F tab) (e:swapsWith (.ListComp c [⟨d,b,[],0⟩] scope f) (some (.Name yn py)) spos.line F.env=pure true) (g:(h,yn)∈tab) (i:∀x q,lk F.bnd x=some q→x<base) (j:names≠[]) (k:names.Nodup)
  (l:∀x,foldedSetIterable b F.env x=pure x) (m:(scope.names.all fun x=> !(x.2==.free)|| (F.env.cells.lookup x.1).isSome)=true) (o:(scope.names.all fun y=>y.2 != .cell)=true) (p:scope.kind=.function)
  (r:(scope.names.all fun y=>y.2 != .local||scope.names.lookup y.1==some .local)=true) (s:B5 F scope tab cap) (t:B4 F scope names)
  (x:ŕ n F b gi) (y:∀C,Eb (tJ F scope (mD scope F.env) C base names) (cap++Hj base names)→I9 n (tJ F scope (mD scope F.env) C base names) d gt)
  (z:∀C,Eb (tJ F scope (mD scope F.env) C base names) (cap++Hj base names)→lM n (tJ F scope (mD scope F.env) C base names) c ge):
  Fy n F (.Assign [.Name yn py] (.ListComp c [⟨d,b,[],0⟩] scope f) spos) (eS (oD base gi gt (oC ge)) (bY h)):=
 H3 T i j k rfl e g (fun _=>rfl) l m o p r s t (fun _ _ _=>rfl) x y (fun C a T1 _ _ _ q=>Nc T1.fk (z C T1) q)
end
section
set_option backward.match.sparseCases false
def Go(x:Option (Fl×St))(P:Fl→iX):Prop:=∃f τ,x=some (f,τ)∧P f τ
def GB(c:M Bool)(σ:St)(Q:Bool→iX):Prop:=∃b τ,c σ=some (b,τ)∧Q b τ
theorem Go.mono{P Q:Fl→iX}(h:Go x P)(y:∀f τ,P f τ→Q f τ):Go x Q:=let ⟨f,τ,e,p⟩:=h;⟨f,τ,e,y f τ p⟩
theorem bV{g h:Nat→M Fl}{P:Fl→iX}(x:Go (g k σ) fun f τ=>match f with|.next=>Go (h k τ) P|f=>P f τ):Go (dW g h k σ) P:=by
 obtain ⟨f,τ,e,p⟩:=x;unfold dW;rw [e];cases f
 ·exact p
 all_goals exact ⟨_,_,rfl,p⟩
theorem Ľ{t:V→St→Option St}(e:g σ=some (v,τ))(a:t v τ=some τ'):eS g t k σ=some (.next,τ'):=by unfold eS;rw [e];show ob (t v τ) _=_;rw [a];rfl
theorem dE{t:V→St→Option St}{P:Fl→iX}(e:g σ=some (v,τ))(a:t v τ=some τ')(p:P .next τ'):Go (eS g t k σ) P:=⟨.next,τ',Ľ e a,p⟩
theorem tS{P:Fl→iX}(e:g σ=some (v,τ))(p:P (.ret v) τ):Go (wT g k σ) P:=⟨.ret v,τ,by unfold wT;rw [e];rfl,p⟩
theorem nK{P:Fl→iX}(e:g σ=some (.none,τ))(p:P .next τ):Go (sE g k σ) P:=⟨.next,τ,by unfold sE;rw [e];rfl,p⟩
theorem H8{P:Fl→iX}(p:P .next σ):Go (sE (gK (.str x)) k σ) P:=⟨.next,σ,rfl,p⟩
theorem iN{P:Fl→iX}(p:P f σ):Go (lS f k σ) P:=⟨f,σ,rfl,p⟩
theorem gL{h:Nat→M Fl}{P:Fl→iX}(e:A9 xs σ=σ')(p:Go (h k σ') P):Go (qD xs h k σ) P:=by unfold qD;rw [e];exact p
theorem S8{h:Nat→M Fl}{P:Fl→iX}(e:frz k σ=some σ')(p:Go (h k σ') P):Go (Yc h k σ) P:=by unfold Yc;rw [e];exact p
theorem mO{a b:Nat→M Fl}{P:Fl→iX}(x:GB c σ fun t τ=>if t=true then Go (a k τ) P else Go (b k τ) P):Go (rP c a b k σ) P:=by
 obtain ⟨t,τ,e,p⟩:=x;unfold rP;rw [e];show Go (if t=true then a k τ else b k τ) P;split
 ·rwa[if_pos ‹_›]at p
 ·rwa[if_neg ‹_›]at p
theorem S7{a b:Nat→M Fl}{P:Fl→iX}(e:c σ=some (true,τ))(p:Go (a k τ) P):Go (rP c a b k σ) P:=mO ⟨true,τ,e,p⟩
theorem zY{a b:Nat→M Fl}{P:Fl→iX}(e:c σ=some (false,τ))(p:Go (b k τ) P):Go (rP c a b k σ) P:=mO ⟨false,τ,e,p⟩
theorem S9{f:V→V→M V}{P:Fl→iX}(a:lk σ.loc x=some old)(b:g σ=some (v,τ))(c:f old v τ=some (r,τ'))(p:P .next {τ' with loc:=lQ x r τ'.loc}):Go (P1 x f g k σ) P:=
 ⟨.next,_,by unfold P1;rw [a];show bd (g σ) _=_;rw [b];show bd (f old v τ) _=_;rw [c];rfl,p⟩
theorem gF{Q:Bool→iX}(e:c σ=some (b,τ))(q:Q b τ):GB c σ Q:=⟨b,τ,e,q⟩
theorem gW{Q:Bool→iX}(x:GB g σ fun b τ=>if b=true then GB h τ Q else Q false τ):GB (kL g h) σ Q:=by
 obtain ⟨t,τ,e,p⟩:=x;unfold kL GB;show∃b τ',bd (g σ) _=_∧_;rw [e];cases t
 ·exact ⟨false,τ,rfl,p⟩
 ·exact p
theorem Tb{Q:Bool→iX}(x:GB g σ fun b τ=>Q (!b) τ):GB (Tf g) σ Q:=by obtain ⟨t,τ,e,p⟩:=x;exact ⟨!t,τ,by unfold Tf;rw [e];rfl,p⟩
theorem wQ{Q:Bool→iX}(q:Q b σ):GB (fun σ=>some (b,σ)) σ Q:=⟨b,σ,rfl,q⟩
inductive Wo(xs:nM)(k:Nat)(J:Nat→iX)(m:Nat)(br:St):Prop
 |mk (cb:St) (m':Nat) (e:Rc xs k br=some cb) (l:m'<m) (j:J m' cb)
def Nx(Q:iX):Fl→iX:=fun f τ=>match f with
 |.next=>Q τ
 |_=>False
def Tz(xs:nM)(k:Nat)(J:Nat→iX)(m:Nat)(P:Fl→iX):Fl→iX:=fun f br=>match f with
 |.next=>Wo xs k J m br
 |.cont=>Wo xs k J m br
 |.brk=>P .next br
 |.ret v=>P (.ret v) br
inductive I0(xs:nM)(k:Nat)(J:iX)(br:St):Prop
 |mk (cb:St) (e:Rc xs k br=some cb) (j:J cb)
def xT(xs:nM)(k:Nat)(J:iX)(E:iX)(Rt:V→iX):Fl→iX:=fun f br=>match f with
 |.next=>I0 xs k J br
 |.cont=>I0 xs k J br
 |.brk=>E br
 |.ret v=>Rt v br
def FiP(N:iX)(Rt:V→iX):Fl→iX
 |.next,τ=>N τ
 |.ret v,τ=>Rt v τ
 |.brk,_=>False
 |.cont,_=>False
theorem P4{b:V→M Fl}(E:iX)(Rt:V→iX):∀(ds:cG)(J:Nat→iX)(σ:St),J 0 σ→
  (∀i τ v,ds[i]?=some v→J i τ→Go (b v τ) (xT xs k (J (i+1)) E Rt))→
  Go (Jq xs k b ds σ) (FiP (fun τ=>J ds.length τ∨E τ) Rt):=by
 intro g
 induction g with
 |nil=>intro J σ h0 _;exact ⟨.next,σ,rfl,.inl h0⟩
 |cons v r j=>
  intro J σ h0 step;obtain ⟨f,c,e,p⟩:=step 0 σ v rfl h0;have again:∀a,J 1 a→Go (Jq xs k b r a) (FiP (fun τ=>J (v::r).length τ∨E τ) Rt):=fun a h=>by refine (j (fun i=>J (i+1)) a h fun i τ u l m=>?_).mono fun f τ p=>p;exact step (i+1) τ u (by simpa using l) m
  show Go (bd (b v σ) _) _;rw [e];cases f
  ·obtain ⟨a,d,h⟩:=p;show Go (ob (Rc xs k c) fun σ=>Jq xs k b r σ) _;rw [d];exact again a h
  ·exact ⟨.next,c,rfl,.inr p⟩
  ·obtain ⟨a,d,h⟩:=p;show Go (ob (Rc xs k c) fun σ=>Jq xs k b r σ) _;rw [d];exact again a h
  ·exact ⟨.ret _,c,rfl,p⟩
theorem wP{gt:V→St→Option St}{gb:Nat→M Fl}{P:Fl→iX}(E:iX)(J:Nat→iX)(e:gi σ=some (ds,τ))(c:k≤τ.next)(h0:J 0 τ)
  (step:∀i a v,ds[i]?=some v→J i a→∃τ',gt v a=some τ'∧Go (gb τ.next τ') (xT xs τ.next (J (i+1)) E (fun v=>P (.ret v))))
  (done:∀τ',J ds.length τ'∨E τ'→P .next τ'):Go (Dy xs gi gt gb k σ) P:=by
 have d:=P4 (b:=fun v a=>ob (gt v a) fun a=>gb τ.next a) E (fun v=>P (.ret v)) ds J τ h0 (fun i a v g h=>by obtain ⟨τ',j,p⟩:=step i a v g h;rw [j];exact p);unfold Dy;rw [e];show Go (if k≤τ.next then _ else _) _;rw [if_pos c];refine d.mono fun f τ' p=>?_;cases f
 ·exact done τ' p
 ·exact p.elim
 ·exact p.elim
 ·exact p
theorem ų{P:Fl→iX}(J:Nat→iX)(step:∀m τ,J m τ→GB t τ fun c τ'=>if c=true then Go (b τ') (Tz xs k J m P)else P .next τ'):∀(n m:Nat)(σ:St),m<n→J m σ→Go (whG xs k t b n σ) P:=by
 intro r
 induction r with
 |zero=>intro m σ h _;exact absurd h (fS _)
 |succ n o=>
  intro m σ h j;obtain ⟨c,τ',e,p⟩:=step m σ j;show Go (bd (t σ) _) _;rw [e];show Go (if c=true then _ else _) _;cases c
  ·rw [if_neg (by decide)];rw [if_neg (by decide)]at p;exact ⟨.next,τ',rfl,p⟩
  ·rw [if_pos rfl];rw [if_pos rfl]at p;obtain ⟨f,a,s,p⟩:=p;rw [s];cases f
   ·obtain ⟨d,m',g,i,l⟩:=p;show Go (ob (Rc xs k a) _) _;rw [g];exact o m' d (bE aD9 h i) l
   ·exact ⟨.next,a,rfl,p⟩
   ·obtain ⟨d,m',g,i,l⟩:=p;show Go (ob (Rc xs k a) _) _;rw [g];exact o m' d (bE aD9 h i) l
   ·exact ⟨.ret _,a,rfl,p⟩
theorem Do{b:Nat→M Fl}{P:Fl→iX}(J:Nat→iX)(m:Nat)(a:m<aC2)(d:k≤σ.next)(h0:J m σ)(step:∀m τ,J m τ→GB t τ fun c τ'=>if c=true then Go (b σ.next τ') (Tz xs σ.next J m P)else P .next τ'):Go (qK xs t b k σ) P:=by unfold qK;rw [if_pos d];exact ų J step aC2 m σ a h0
theorem Be{b:Nat→M Fl}{P:Fl→iX}(d:k≤σ.next)(e:GB t σ fun c τ=>c=false∧P .next τ):Go (qK xs t b k σ) P:=by refine Do (fun _ τ=>τ=σ) 0 (by decide) d rfl fun m τ a=>?_;subst a;obtain ⟨c,τ',e,rfl,p⟩:=e;exact ⟨false,τ',e,p⟩
def stay(k:Nat):V→Bool
 |.ref n=>decide (n<k)
 |.inst n=>decide (n<k)
 |v=>v.pure
theorem Hf(h:stay k v=true):rJ vP k cs v=some v:=by
 cases v<;>first|exact dF h|skip
 ·exact (if_pos (of_decide_eq_true h):(if _ then some _ else _)=_)
 ·exact (if_pos (of_decide_eq_true h):(if _ then some _ else _)=_)
theorem Xm:∀{l:List (Nat×V)},(l.all fun p=>stay k p.2)=true→Jl (rJ vP k cs) l=some l:=by
 intro a
 induction a with
 |nil=>intro _;exact rfl
 |cons b r c=>obtain ⟨x,v⟩:=b;intro h;replace h:=nD.mp h;exact cO (Hf h.1) (c h.2)
theorem A4:∀{l:cG},(l.all fun p=>stay k p)=true→oX (rJ vP k cs) l=some l:=by
 intro a
 induction a with
 |nil=>intro _;exact rfl
 |cons v r b=>intro h;replace h:=nD.mp h;exact qY (Hf h.1) (b h.2)
theorem Kj:∀{l:lT},(l.all fun p=>stay k p.2)=true→Ci (rJ vP k cs) l=some l:=by
 intro a
 induction a with
 |nil=>intro _;exact rfl
 |cons b r c=>obtain ⟨x,v⟩:=b;intro h;replace h:=nD.mp h;exact Ho (Hf h.1) (c h.2)
def Da(k:Nat):gC→Bool
 |.list l=>l.all fun p=>stay k p
 |.dict _ l=>l.all fun p=>stay k p
 |.attrs as=>as.all fun p=>stay k p.2
 |.mat _=>true
theorem eQ(h:Da k c=true):Jm (rJ vP k cs) c=some c:=by
 cases c with
 |list l=>show (oX _ l).map _=_;rw [A4 h];rfl
 |dict ks l=>show (oX _ l).map _=_;rw [A4 h];rfl
 |attrs as=>show (Ci _ as).map _=_;rw [Kj h];rfl
 |mat m=>rfl
theorem eH{g:V→qM}(a:n<k)(e:Jm g c=some b)(d:tH k g r=some f):tH k g ((n,c)::r)=some ((n,b)::f):=(if_pos a).trans (qX e (qX d rfl))
theorem mK{g:V→qM}(a:¬n<k)(b:tH k g r=some d):tH k g ((n,c)::r)=some d:=(if_neg a).trans b
theorem iW{g:V→qM}:tH k g []=some []:=rfl
theorem Ik(e:Jl (rJ vP k cs) loc=some loc')(a:tH k (rJ vP k cs) cs=some b):frz k ⟨loc,cs,n⟩=some ⟨loc',b,k⟩:=qX e (qX a rfl)
theorem Il(a:A9 xs σ=⟨loc,cs,n⟩)(e:Jl (rJ vP k cs) loc=some loc')(b:tH k (rJ vP k cs) cs=some c):Rc xs k σ=some ⟨loc',c,k⟩:=by unfold Rc;rw [a];exact Ik e b
theorem pY(a:A9 xs σ=⟨loc,cs,n⟩)(e:(loc.all fun p=>stay k p.2)=true)(b:tH k (rJ vP k cs) cs=some c):Rc xs k σ=some ⟨loc,c,k⟩:=Il a (Xm e) b
theorem hU(h:v.pure=true):stay k v=true:=by cases v<;>first|exact h|cases h
theorem Bg(h:∀p∈as,p.2.pure=true):Da k (.attrs as)=true:=fR.mpr fun p a=>hU (h p a)
theorem fU:∀{l:cG},eB l=true→(l.all fun p=>stay k p)=true:=by
 intro a
 induction a with
 |nil=>intro _;exact rfl
 |cons v r b=>intro h;simp only [dT,dQ,gG]at h;simp only [gV,hU h.1,b h.2,eW]
theorem É(a:¬n<k)(e:lk cs n=some (.dict ks vs))(b:eB vs=true):rJ vP k cs (.ref n)=some (.dct ks vs):=by refine (Gj a).trans ?_;rw [e];exact congrArg (nA (V.dct ks)) (Ki b)
theorem Cg(a:¬n<k)(e:lk cs n=some (.list vs))(b:eB vs=true):rJ (f+2) k cs (.ref n)=some (.lst vs):=by refine (Gj a).trans ?_;rw [e];exact congrArg (nA V.lst) (Ki b)
theorem qV(a:¬n<k)(e:lk cs n=some (.list vs))(b:eB vs=true):rJ vP k cs (.ref n)=some (.lst vs):=Cg a e b
end
section
set_option backward.match.sparseCases false
theorem bL(h:lk σ.loc x=some v):aJ x σ=some (v,σ):=by unfold aJ;rw [h];rfl
theorem oH(a:g σ=some (.inst n,τ))(b:lk τ.cells n=some (.attrs as))(c:oM as d=some v)(e:Jh v=true):rQ d g σ=some (v,τ):=by unfold rQ;rw [a];show aA τ n _=_;rw [aFf b];rw [c];show (if Jh v=true then _ else _)=_;rw [if_pos e]
theorem Ea:0≤lim:=by decide
theorem lm1:1≤lim:=by decide
theorem Cz:2≤lim:=by decide
theorem Hr:3≤lim:=by decide
theorem lm4:4≤lim:=by decide
theorem lm5:5≤lim:=by decide
theorem lm9:9≤lim:=by decide
theorem bZ:bJ σ=some ([],σ):=rfl
theorem bB(e:g σ=some (v,τ))(a:h τ=some (vs,τ')):aK g h σ=some (v::vs,τ'):=by unfold aK;rw [e];show bd (h τ) _=_;rw [a];rfl
theorem jE(e:g σ=some (vs,τ))(a:vs.length≤lim):fY g σ=some (.tup vs,τ):=by unfold fY;rw [e];show (if vs.length≤lim then _ else _)=_;rw [if_pos a]
theorem nE(e:g σ=some (vs,τ))(a:vs.length≤lim):gE g σ=some (.lst vs,τ):=by unfold gE;rw [e];show (if vs.length≤lim then _ else _)=_;rw [if_pos a]
theorem nQ(e:g σ=some (vs,τ))(a:vs.length≤lim):lZ g σ=some (.ref τ.next,{τ with cells:=(τ.next,.list vs)::τ.cells,next:=τ.next+1}):=by unfold lZ;rw [e];show (if vs.length≤lim then _ else _)=_;rw [if_pos a];rfl
theorem dN{f:V→V→M V}(e:g σ=some (a,τ))(c:h τ=some (b,τ'))(d:f a b τ'=r):bH f g h σ=r:=by unfold bH;rw [e];show bd (h τ) _=_;rw [c];exact d
theorem kH(e:g σ=some (.bool b,τ)):dU g σ=some (b,τ):=by unfold dU;rw [e];rfl
theorem lO{d:qR}(e:g σ=some (us,τ))(ed:d us τ=r):iO d g σ=r:=by unfold iO;rw [e];exact ed
theorem vZ(e:g σ=some (v,τ))(h:Ż τ v=some b):oB g σ=some (b,τ):=by unfold oB;rw [e];show (Ż τ v).map _=_;rw [h];rfl
theorem rL{d:qR}(e:b σ=some (u,τ))(c:Gz τ u=some l)(f:a τ=some (us,τ'))(ed:d (u::us) τ'=r):uF d b a σ=r:=by unfold uF;rw [e];show ob (Gz τ u) _=_;rw [c];show bd (a τ) _=_;rw [f];exact ed
theorem wM(h:l[n]?=some v)(a:l.length≤lim):hO (.lst l) (vN n) σ=some (v,σ):=by show (if (0:Int)≤(n:Int)∧l.length≤lim then _ else _)=_;rw [if_pos ⟨bE Vd,a⟩];rw [lJ,h];rfl
theorem Cb(h:l[n]?=some v)(a:l.length≤lim):hO (.tup l) (vN n) σ=some (v,σ):=by show (if (0:Int)≤(n:Int)∧l.length≤lim then _ else _)=_;rw [if_pos ⟨bE Vd,a⟩];rw [lJ,h];rfl
theorem qB(e:g σ=some (.lst l,τ))(a:eB l=true):hF g σ=some (l,τ):=by unfold hF;rw [e];exact qX (if_pos a) rfl
theorem jH(h:lk σ.cells i=some (.list l))(a:l.length≤lim):fD [.ref i,d] σ=some (.none,{σ with cells:=lQ i (.list (l++[d])) σ.cells}):=by show aL σ i _=_;rw [Œ h];rw [if_pos a]
theorem aFw(e:g σ=some (.inst i,τ))(h:lk τ.cells i=some (.attrs as)):Dv a g v σ=some {τ with cells:=lQ i (.attrs (jZ a v as)) τ.cells}:=by unfold Dv;rw [e];show aA τ i _=_;rw [aFf h]
theorem Zz{d:Cu}(e:a σ=some (.inst i,τ))(h:lk τ.cells i=some c)(b:aBd c=true)(f:g τ=some (us,τ'))(h':lk τ'.cells i=some c0)(j:eB us=true)(ed:d c0 us=some (c1,r)):
  Y9 d a g σ=some (r,{τ' with cells:=lQ i c1 τ'.cells}):=by
 unfold Y9;rw [e];show ob (lk τ.cells i) _=_;rw [h];show (if aBd c=true then _ else _)=_;rw [if_pos b];rw [f];show ob (lk τ'.cells i) _=_;rw [h'];show (if eB us=true then _ else _)=_;rw [if_pos j,ed];rfl
theorem ŵ(e:g σ=some ([.int a,.int b],τ))(h:Bv a b=true):yR g σ=some (Ke a b,τ):=by unfold yR;rw [e];show (if Bv a b=true then _ else _)=_;rw [if_pos h]
theorem Zv(e:g σ=some ([.int b],τ))(h:Bv 0 b=true):yR g σ=some (Ke 0 b,τ):=by unfold yR;rw [e];show (if Bv 0 b=true then _ else _)=_;rw [if_pos h]
theorem Ź(h:Gz σ (.ref n)=some l)(a:l.length≤lim):Ż σ (.ref n)=some (decide (l.length≠0)):=by exact qX h (if_pos a)
theorem Lf:Ku (vN a) (vN b) σ=some (vN (a+b),σ):=by show some (V.int ((a:Int)+(b:Int)),σ)=_;rw [show (a:Int)+(b:Int)=((a+b:Nat):Int) by exact bE ú];rfl
theorem Rr:fQ (vN a) (vN b) σ=some (vN (a+b),σ):=by show some (V.int ((a:Int)+(b:Int)),σ)=_;rw [show (a:Int)+(b:Int)=((a+b:Nat):Int) by exact bE ú];rfl
theorem aJg(e:g σ=some (u,τ))(h:Gz τ u=some l)(h':oX ì l=some l')(a:l.length≤lim):Ĥ g σ=some (.lst l',τ):=by unfold Ĥ;rw [e];simp only [bd,h,ob,h'];rw [if_pos a]
theorem Oi(c:lk σ.loc x=some (vN a))(d:lk σ.loc y=some (vN b)):dU (bH Bk (aJ x) (aJ y)) σ=some (decide (a<b),σ):=by
 refine kH (dN (bL c) (bL d) ?_);show some (V.bool (decide ((a:Int)<(b:Int))),σ)=_
 congr 3
 exact decide_eq_decide.mpr jV
theorem mM(h:(s==x)=false):oM ((x,v)::as) s=oM as s:=by show (if s=x then some v else oM as s)=_;rw [if_neg (by simpa using h)]
theorem Uk(h:s.length≤lim∧decide (s.length≠0)=b)(σ:St):Ż σ (.str s)=some b:=by obtain ⟨h,rfl⟩:=h;show oo (Jn s.length) some _=_;rw [show Jn s.length=some _ from if_pos h];rfl
theorem Ÿ(a:mU)(σ:St):Ż σ (.str a.s)=some true:=Uk (by cases a<;>decide+kernel) σ
theorem W3(σ:St):Ż σ (.str (aC ""))=some false:=Uk (by decide+kernel) σ
end
section
open PySem PySem.W PyProof.Rows PySem.Calls
def aBz(nm:jX)(d:lT→Option (lT×V))(go:M V):M V:=fun σ=>bd (go σ) fun o σ=>ob (Yr o) fun i=>aA σ i fun al=>ob al.head? fun y=>ob (Iu y.2) fun j=>if y.1=nm∧(al.tail.all fun p=>p.2.pure)=true then ob (d al.tail) fun p=>some (p.2,{σ with cells:=lQ i (.attrs ((nm,.ref j)::p.1)) σ.cells})else aF
section
variable{n:Nat}{F:Fx}{σ:St}{K:Aq}
theorem Ŷ(fk:iY F)(e:lk σ.cells i=some (.attrs ((g,.ref j)::as)))(L:∀p∈as,p.2.pure=true)
  (c:∀a,tL n f (.attrs ((g,.fn (.ref a))::as)) [] (fun c s=>(∃k,c=.attrs k∧(g,V.fn (.ref a))∈k∧∀p∈G,p∈k)∧s=r)):
  TW rV n F [.inst i] (fun vs=>call f vs) σ (Cv r {σ with cells:=lQ i (.attrs ((g,.ref j)::G)) σ.cells}):=fun A X D h tk vs ok m r=>by
 simp only [pJ,pI]at r;obtain ⟨u,us,rfl,N,O⟩:=r;subst O;obtain ⟨a,x,rfl,nx,l,P⟩:=N;obtain ⟨a',t,cr⟩:=m.cel i _ e;replace t:=l▸t;refine oQ t ?_;rintro rfl;obtain ⟨s1,s2,Q,s4,s5⟩:=m.sep i a l;obtain ⟨R,T,hw,H⟩:=cr;obtain ⟨u0,y,B⟩:=H (g,.ref j) aR;obtain ⟨a0,rfl,W⟩:=B;have C:jB D (Yf F X D) h a (.attrs ((g,.fn (.ref a0))::as)):=⟨R,T,hw,fun p d=>by
  rcases aU.mp d with rfl|d
  ·exact ⟨.ref a0,y,by rfl⟩
  ·exact H p (aQ _ d)⟩
 have Y:qW (.attrs ((g,.fn (.ref a0))::as)):=fun p d=>by
  rcases aU.mp d with rfl|d
  ·rfl
  ·exact L p d
 have Z:∀b,jK [a] (fun b=>Yf F X D b∧b≠a) b→Yf F X D b∨h.get? b=aF:=fun b z=>by
  rcases z with z|z
  ·rw [aM.mp z];exact .inl (.inr (.inr ⟨i,l⟩))
  ·exact .inl z.1
 have I:∀(h':dS) b,Yf F X D b→jK [a] (fun b=>Yf F X D b∧b≠a) b∨h'.get? b=aF:=fun h' b z=>by
  by_cases q:b=a
  ·exact .inl (.inl (by simp only [q];exact aM.mpr rfl))
  ·exact .inl (.inr ⟨z,q⟩)
 refine bN (c a0 A (fun b=>Yf F X D b∧b≠a) h tk x a [] ok m.base (fun b z=>(fun b=>m.yal) b z.1) (fun z=>z.2 rfl) Q (fun z=>nx z.1) P (C.P Y (fun _ _ e _=>e) (fun _ e=>e) Z) bS.nil) (fun v s' p=>?_) fun _ _ z=>z;obtain ⟨h',ao,c1,s,rfl,hk,mj,pc,pr,uk,rr,⟨k,rfl,p8,wx⟩,rfl⟩:=p;obtain ⟨m1,y5,y6,J⟩:=uk.P pc (fun _ _ e _=>e) (fun _ e=>e) (I h');obtain ⟨m',st⟩:=m.turn2 (c:=.attrs ((g,.ref j)::G)) fk l (fun b o hb e=>hk b o hb e) mj ⟨m1,y5,y6,fun p d=>by
  rcases aU.mp d with rfl|d
  ·obtain ⟨u,hu,ru⟩:=J _ p8;subst ru;exact ⟨_,hu,by exact ⟨a0,rfl,W⟩⟩
  ·exact J p (wx p d)⟩
 exact ⟨h',ao,D,_,s,rfl,st,m',gQ.stepP (fun _ _ e _=>e) (I h') _ _ pr rr,rfl,rfl⟩
theorem S6{d:lT→Option (lT×V)}(D:K.In S.heap)(fk:iY F)(c:Ix K name f)
  (hd:∀as b r,(∀p∈as,p.2.pure=true)→d as=some (b,r)→∀a,tL n (.ref f) (.attrs ((u,.fn (.ref a))::as)) [] (fun c G=>(∃e,c=.attrs e∧(u,V.fn (.ref a))∈e∧∀p∈b,p∈e)∧G=r))
  (x:lM n F o H)
  (I:eval (.Call (.Attribute o name z) [] [] g) F.env=(do
   let h←eval o F.env
   lV z.atName
   let (f,first)←holding [h] (getMethod h name R)
   mW g f first (backTo g (eC [] F.env)) [])):lM n F (.Call (.Attribute o name z) [] [] g) (aBz u d H):=fun σ v σ' q=>by
 replace q:=eG q;obtain ⟨h,σ₁,J,q⟩:=q;replace q:=aDw q;obtain ⟨i,rfl,k⟩:=q;replace k:=á k;obtain ⟨al,A,l⟩:=k;replace l:=dO l;obtain ⟨y,B,m⟩:=l
 cases al with
 |nil=>exact iE B
 |cons T as=>
 cases B;obtain ⟨W,X⟩:=y;replace m:=ß m;obtain ⟨j,L,s⟩:=m;cases L;replace s:=iS s;obtain ⟨⟨N,O⟩,t⟩:=s;cases N;replace t:=dO t;obtain ⟨⟨b,r⟩,P,q6⟩:=t;refine I8 q6 ?_;rintro rfl rfl;have C:∀p∈as,p.2.pure=true:=fun p Q=>fR.mp O p Q;refine xQ D c I trivial ((x _ _ _ J).mono ?_);refine mR ?_;refine ⟨i,_,rfl,A,.inl ⟨_,rfl⟩,(aO _ _ _ rfl).mono ?_⟩;refine mR ?_;exact Ŷ fk A C (hd as b r C P)
end
end
section
set_option backward.match.sparseCases false
noncomputable def edB(f:cG→Bool):V→Bool
 |.none=>true
 |.int _=>true
 |.str s=>Rf s
 |.tup l=>f l
 |.lst l=>f l
 |_=>false
def ed:Nat→V→Bool
 |0=>edB fun _=>false
 |n+1=>edB fun l=>l.all (ed n)
inductive EdV(f:cG→Bool):V→Prop
 |none:EdV f .none
 |int (i:Int):EdV f (.int i)
 |str (s:jX) (h:Rf s=true):EdV f (.str s)
 |tup (l:cG) (h:f l=true):EdV f (.tup l)
 |lst (l:cG) (h:f l=true):EdV f (.lst l)
theorem edV{f:cG→Bool}:∀{v:V},edB f v=true→EdV f v
 |.none,_=>.none
 |.int i,_=>.int i
 |.str s,h=>.str s h
 |.tup l,h=>.tup l h
 |.lst l,h=>.lst l h
 |.bool _,h=>(nomatch h)
 |.scr _,h=>(nomatch h)
 |.mt _,h=>(nomatch h)
 |.dct _ _,h=>(nomatch h)
 |.set0,h=>(nomatch h)
 |.ref _,h=>(nomatch h)
 |.inst _,h=>(nomatch h)
 |.fn _,h=>(nomatch h)
 |.bm _ _,h=>(nomatch h)
noncomputable def Xh(f:List kR→Bool):kR→Bool
 |.bool _=>false
 |.dict _=>false
 |.list l=>f l
 |.tuple l=>f l
 |_=>true
def nb:Nat→kR→Bool
 |0=>Xh fun _=>false
 |n+1=>Xh fun l=>l.all (nb n)
inductive Ś(f:List kR→Bool)(n:Nat)(v:V):Prop
 |mk (p:v.pure=true) (d:kR) (e:Ny v=some d) (c:d.canLay0=true) (k:d.depth≤n) (b:Xh f d=true)
inductive ś(f:List kR→Bool)(n:Nat)(l:cG):Prop
 |mk (p:eB l=true) (ds:List kR) (e:To l=some ds) (c:Š ds=true) (k:Jb ds<n) (b:f ds=true)
theorem V7{f:cG→Bool}{g:List kR→Bool}(a:∀l,f l=true→ś g n l)(h:edB f v=true):Ś g n v:=by
 cases edV h with
 |none=>exact ⟨rfl,.none,rfl,rfl,bW _,rfl⟩
 |int i=>exact ⟨rfl,.int i,rfl,rfl,bW _,rfl⟩
 |str s h=>exact ⟨rfl,.str s,rfl,h,bW _,rfl⟩
 |tup l h=>obtain ⟨p,ds,e,c,k,b⟩:=a l h;exact ⟨p,.tuple ds,congrArg (nA _) e,c,by (rw [Rh];exact k),b⟩
 |lst l h=>obtain ⟨p,ds,e,c,k,b⟩:=a l h;exact ⟨p,.list ds,congrArg (nA _) e,c,by (rw [Rh];exact k),b⟩
theorem xS{b:Type}{p:b→Bool}{a:b}{l:List b}(h:(a::l).all p=true):p a=true∧l.all p=true:=by rwa[gV,gG]at h
theorem Wa{f:V→Bool}{g:List kR→Bool}(c:∀v,f v=true→Ś g n v):∀l:cG,l.all f=true→ś (fun l=>l.all (Xh g)) (n+1) l:=by
 intro l
 induction l with
 |nil=>intro _;exact ⟨rfl,[],rfl,rfl,by simp [Jb],rfl⟩
 |cons a r b=>intro h;obtain ⟨e,i⟩:=xS h;obtain ⟨j,d,k,c1,m,b1⟩:=c a e;obtain ⟨o,ds,p,c2,s,t⟩:=b i;refine ⟨by simp only [dT,dQ,j,o,eW],d::ds,?_,by simp [Š,c1,c2],by simp [Jb];exact bE 0xd2c62a41c60520e3124619e8c1003 m s,by rw [gV,b1,t];rfl⟩;show ob (Ny a) _=_;rw [k];rw [p];rfl
def nbF:Nat→List kR→Bool
 |0=>fun _=>false
 |n+1=>fun l=>l.all (nb n)
theorem Tn:∀(n:Nat)(v:V),ed n v=true→Ś (nbF n) n v:=by
 intro n
 induction n with
 |zero=>exact fun v h=>V7 (fun _ h=>zO h) h
 |succ n a=>refine fun v h=>V7 (fun l h=>?_) h;have:=Wa (a) l h;cases n<;>exact this
theorem U4{f:List kR→Bool}(a:∀l l',f l=true→f l'=true→SeqAt.noMixAll l l'=true):∀x y,Xh f x=true→Xh f y=true→aM6 x y=true:=by intro x y h h';cases x<;>cases y<;>first|rfl|(exact zO h)|(exact zO h')|exact a _ _ h h'
theorem è:∀(n:Nat)(x y:kR),Xh (nbF n) x=true→Xh (nbF n) y=true→aM6 x y=true:=by
 intro n
 induction n with
 |zero=>exact U4 fun _ _ h=>zO h
 |succ n a=>
  refine U4 fun l l' h h'=>SeqAt.noMixAll_of_all a l l' (fR.mp ?_) (fR.mp ?_)
  ·cases n<;>exact h
  ·cases n<;>exact h'
mutual
noncomputable def vd:kR→V
 |.none=>.none
 |.bool b=>.bool b
 |.int i=>.int i
 |.str s=>.str s
 |.list l=>.lst (vdL l)
 |.tuple l=>.tup (vdL l)
 |.dict _=>.none
noncomputable def vdL:List kR→cG
 |[]=>[]
 |d::l=>vd d::vdL l
end
mutual
theorem Rq:∀(a:V)(x:kR),Ny a=some x→vd x=a
 |.none,x,e=>by cases e;rfl
 |.bool b,x,e=>by cases e;rfl
 |.int i,x,e=>by cases e;rfl
 |.str s,x,e=>by cases e;rfl
 |.tup l,x,e=>by obtain ⟨ds,c,rfl⟩:=cP.mp e;exact congrArg V.tup (Le l ds c)
 |.lst l,x,e=>by obtain ⟨ds,c,rfl⟩:=cP.mp e;exact congrArg V.lst (Le l ds c)
 |.scr _,_,e=>iE e
 |.mt _,_,e=>iE e
 |.dct _ _,_,e=>iE e
 |.set0,_,e=>iE e
 |.ref _,_,e=>iE e
 |.inst _,_,e=>iE e
 |.fn _,_,e=>iE e
 |.bm _ _,_,e=>iE e
theorem Le:∀(l:cG)(ds:List kR),To l=some ds→vdL ds=l
 |[],ds,e=>by cases e;rfl
 |a::l,ds,e=>by obtain ⟨d,b,e⟩:=dO e;obtain ⟨r,c,e⟩:=dO e;cases e;exact congr (congrArg List.cons (Rq a d b)) (Le l r c)
end
theorem ĸ(f:Xh (nbF n) x=true)(g:Xh (nbF n) y=true)(c:Ny a=some x)(d:Ny b=some y):tP x y=true↔a=b:=by rw [←SeqAt.same_eq_eqv x y (è n x y f g),aPi];exact ⟨fun e=>by rw [←Rq a x c,e,Rq b y d],fun e=>gM (c.symm.trans ((congrArg Ny e).trans d))⟩
inductive aO4(σ:St)(a a':V):Prop
 |mk (d:kR) (e:E8 σ a=some d) (f:Ny a'=some d) (b:Xh (nbF 64) d=true)
theorem V9(f:rJ vP 0 σ.cells a=some c)(g:ed 64 c=true):aO4 σ a c:=by obtain ⟨_,d,e,h,i,b⟩:=Tn 64 c g;refine ⟨d,?_,e,b⟩;unfold E8;rw [f];show ob (Ny c) _=_;rw [e];exact if_pos (by unfold vU;rw [h,decide_eq_true i];rfl)
theorem G8{P:Prop}[Decidable P](d:rJ vP 0 σ.cells a=some c)(e:rJ vP 0 σ.cells b=some b')(f:ed 64 c=true)(g:ed 64 b'=true)(i:c=b'↔P):rM a b σ=some (.bool (decide P),σ)∧Bi a b σ=some (.bool (!decide P),σ):=by
 obtain ⟨x,j,k,b1⟩:=V9 d f;obtain ⟨y,l,m,n⟩:=V9 e g;have h:tP x y=decide P:=by rw [Lc,ĸ b1 n k m,i,decide_eq_true_iff]
 unfold rM Bi;rw [j,l,←h];exact ⟨rfl,rfl⟩
theorem V0(n:Nat):∀l:aW,(l.map V.int).all (ed n)=true:=by
 intro b
 induction b with
 |nil=>exact rfl
 |cons a r c=>simp only [cS,gV,c,Bool.and_true];cases n<;>rfl
theorem P8(n:Nat)(l:aW):ed (n+1) (vL l)=true:=V0 n l
theorem aDp(a b:Int):rM (.int a) (.int b) σ=some (.bool (decide (a=b)),σ):=by rfl
theorem Gx(a n:Nat):(max 0 (min (if (a:Int)<0 then (a:Int)+n else a) n)).toNat=min a n:=by
 rw [if_neg (Int.not_lt.mpr (xY a))];rcases Y3 a n with h|h
 ·rw [Int.min_eq_left (aPd.mpr h),aI4 h,aIw (xY _),lJ]
 ·rw [Int.min_eq_right (aPd.mpr h),Ka h,aIw (xY _),lJ]
theorem Ut{c:Type}{l:List c}{a b:Nat}:pySl l (some (a:Int)) (some (b:Int))=(l.drop a).take (b-a):=by show (l.drop (max 0 (min (if (a:Int)<0 then (a:Int)+l.length else a) l.length)).toNat).take ((max 0 (min (if (b:Int)<0 then (b:Int)+l.length else b) l.length)).toNat-(max 0 (min (if (a:Int)<0 then (a:Int)+l.length else a) l.length)).toNat)=_;rw [Gx,Gx,←aI8,←aI8,←Y4];exact Ca.trans (by rw [Nat.min_assoc,Ka (List.length_take_le' b l),←Ca])
theorem Uu{b:Type}{l:List b}{a:Nat}:pySl l (some (a:Int)) aF=l.drop a:=by show (l.drop (max 0 (min (if (a:Int)<0 then (a:Int)+l.length else a) l.length)).toNat).take (l.length-(max 0 (min (if (a:Int)<0 then (a:Int)+l.length else a) l.length)).toNat)=_;rw [Gx,←Ca,tA (by rw [nZ];exact Nat.sub_le_sub_left (Nat.min_le_left _ _) _)]
theorem Lu{a:Type}{l:List a}{b:Nat}:pySl l aF (some (b:Int))=l.take b:=by show l.take (max 0 (min (if (b:Int)<0 then (b:Int)+l.length else b) l.length)).toNat=_;rw [Gx,←Y4]
theorem Ġ{a:Type}{l:List a}(d:a)(h:i<l.length):l[i]?=some (l.getD i d):=by rw [bK h,aT,bK h];rfl
theorem aAf{a b:Type}{f:a→b}{l:List a}(d:a)(h:i<l.length):(l.map f)[i]?=some (f (l.getD i d)):=by rw [gJ,Ġ d h];rfl
end
section
set_option backward.match.sparseCases false
noncomputable def U3:Expr→Bool
 |.Starred _ _=>false
 |_=>true
theorem aJn(h:U3 e=true):eC (e::es) env=(false,eval e env)::eC es env:=by cases e<;>first|rfl|cases h
end
section
variable{n:Nat}{F:Fx}{tab:List (Nat×jX)}
theorem lc(T:Eb F tab)(i:Nat)(h:tab[i]?=some (x,s):=by rfl)(hd:(s== ("__debug__":jX))=false:=by decide):lM n F (.Name s a) (aJ x):=dP T (aG h) hd
theorem lg(T:Eb F tab)(i:Nat)(h:tab[i]?=some (x,s):=by rfl):I9 n F (.Name s a) (bY x):=rA T (aG h)
theorem ic(x:lM n F e g)(y:zH n F a es h)(b:U3 e=true:=by rfl):zH n F a (e::es) (aK g h):=hW x y (aJn b)
theorem ig{g:V→St→Option St}{gs:List (V→St→Option St)}(x:I9 n F e g)(y:J2 n F es gs)(a:pK (e::es) F.env=(false,assign e F.env)::pK es F.env:=by rfl):J2 n F (e::es) (g::gs):=eA x y a
end
section
set_option backward.match.sparseCases false
theorem llc{b:Type}{n:Nat}{P:List b→Prop}(k:∀a vs,vs.length=n→P (a::vs))(vs:List b)(h:vs.length=n+1):P vs:=by
 cases vs with
 |nil=>cases h
 |cons a r=>exact k a r (Nat.succ.inj h)
theorem ll0{a:Type}{P:List a→Prop}(k:P [])(vs:List a)(h:vs.length=0):P vs:=kX h▸k
theorem ll1{b:Type}{P:List b→Prop}(k:∀a,P [a]):∀vs:List b,vs.length=1→P vs:=llc fun a=>ll0 (k a)
theorem ll2{c:Type}{P:List c→Prop}(k:∀a b,P [a,b]):∀vs:List c,vs.length=2→P vs:=llc fun a=>ll1 (k a)
theorem ll3{d:Type}{P:List d→Prop}(k:∀a b c,P [a,b,c]):∀vs:List d,vs.length=3→P vs:=llc fun a=>ll2 (k a)
theorem ll4{e:Type}{P:List e→Prop}(k:∀a b c d,P [a,b,c,d]):∀vs:List e,vs.length=4→P vs:=llc fun a=>ll3 (k a)
theorem ll5{f:Type}{P:List f→Prop}(k:∀a b c d e,P [a,b,c,d,e]):∀vs:List f,vs.length=5→P vs:=llc fun a=>ll4 (k a)
theorem gU{b:Type}{P:b→Prop}{a:b}{l:List b}(h:P a)(t:∀x∈l,P x):∀x∈a::l,P x:=Zf.mpr ⟨h,t⟩
noncomputable def Ĉ:Option sR→Bool
 |some .local=>true
 |_=>false
theorem ć{x:Option sR}(h:Ĉ x=true):x=some .local:=by
 cases x with
 |none=>cases h
 |some k=>cases k<;>first|rfl|cases h
theorem lU.ofC{fd:uN}{tab:mE}(cs:mE)(h:(!fd.scope.isCoroutine&& (!fd.scope.isGenerator&& (decide (fd.scope.kind=.function)&& (fd.closure.isEmpty&& (decide tab.Nodup&&tab.all fun s=>Ĉ (fd.scope.names.lookup s)||cs.contains s)))))=true)
  (a:∀s∈cs,fd.scope.names.lookup s=some .cell∧∀n,((rI n fd.scope.names []).lookup s).isSome=true):lU fd tab:=by
 simp only [gG,aDk,decide_eq_true_eq,List.isEmpty_iff,fR,Bs]at h;obtain ⟨b,c,d,e,f,g⟩:=h;exact ⟨b,c,d,e,f,fun s i=>(g s i).imp ć fun z=>a s (List.contains_iff_mem.mp z)⟩
theorem lU.of{fd:uN}{tab:mE}(h:(!fd.scope.isCoroutine&& (!fd.scope.isGenerator&& (decide (fd.scope.kind=.function)&& (fd.closure.isEmpty&& (decide tab.Nodup&&tab.all fun s=>Ĉ (fd.scope.names.lookup s)|| [].contains s)))))=true):lU fd tab:=.ofC [] h fun _ h=>nomatch h
end
section
variable{n:Nat}{F:Fx}{tab:List (Nat×jX)}
def qQ(gc:M Bool)(gb:M cG):M cG:=fun σ=>bd (gc σ) fun t σ=>match t with
 |true=>gb σ
 |false=>some ([],σ)
theorem aFd{c:Expr}{b:Fd Unit}(x:Yu n F c gc)(z:∀σ xs σ',gb σ=some (xs,σ')→CB n F a b σ xs σ')(e:qQ gc gb σ=some (xs,σ')):
  CB n F a (isTrue c F.env (eval c F.env)>>=fun ok=>if ok=true then b else pure ()) σ xs σ':=by
 obtain ⟨t,σ₁,o,e⟩:=eG e;intro A X D h tk l ok f g p m s v;refine aH (TW.at (x _ _ _ o) ok m bS.nil ?_);rintro u h₁ i D₁ _ _ st j r ⟨rfl,rfl⟩;have k:=s.on m f g st;have y:t=u:=r;subst y
 cases t with
 |true=>refine (?_:bX (model prog w) A b _ _ _);refine bN (z _ _ _ e A X D₁ h₁ i l ok f g p j k v) (fun _ s' q=>?_) fun _ _ q=>q;obtain ⟨h',B,D',C,G,m',d⟩:=q;exact ⟨h',B,D',C,st.zx.trans G,m',d⟩
 |false=>refine I8 e ?_;rintro rfl rfl;refine (?_:bX (model prog w) A (pure ()) _ _ _);refine bC ⟨h₁,i,D₁,rfl,st.zx,j,?_⟩;rw [bP];exact k
theorem Fs(e b f c:Expr)(scope:Ū)(g:Pos)(d:bO)(a:cY)(env:Env):compTurn (.ListComp e [⟨b,f,[c],0⟩] scope g) 0 d (.ref a) env=(lV f.pos>>=fun _=>pyNext d>>=fun r=>match r with
   |none=>pure (.done .next)
   |some v=>pQ b d v>>=fun _=>assign b env v>>=fun _=>(isTrue c env (eval c env)>>=fun ok=>if ok=true then (eval e env>>=fun x=>call (.builtin "list.append") [.ref a,x]>>=fun _=>pure ())else pure ())>>=fun _=>again (.compLoop (.ListComp e [⟨b,f,[c],0⟩] scope g) 0 d (.ref a) env)):=by
 unfold compTurn;dsimp only [List.getElem?_cons_zero];simp only [oU,aI7,bind_assoc,pure_bind,if_true,bne_self_eq_false,mH,if_false]
 congr 1;funext _;congr 1;funext r
 cases r with
 |none=>rfl
 |some v=>
  dsimp only
  congr 1;funext _;congr 1;funext _;congr 1;funext ok
  cases ok
  ·simp
  ·simp
theorem Bc{gt:V→St→Option St}
  (T:Eb F tab) (f:∀x q,lk F.bnd x=some q→x<base) (g:names≠[]) (h:names.Nodup)
  (i:∀x,foldedSetIterable b F.env x=pure x) (j:(scope.names.all fun x=> !(x.2==.free)|| (F.env.cells.lookup x.1).isSome)=true) (k:(scope.names.all fun y=>y.2 != .cell)=true) (l:scope.kind=.function)
  (m:(scope.names.all fun y=>y.2 != .local||scope.names.lookup y.1==some .local)=true) (o:B5 F scope tab cap) (p:B4 F scope names)
  (x:ŕ n F b gi) (y:∀C,Eb (tJ F scope (mD scope F.env) C base names) (cap++Hj base names)→I9 n (tJ F scope (mD scope F.env) C base names) e gt)
  (u:∀C,Eb (tJ F scope (mD scope F.env) C base names) (cap++Hj base names)→Yu n (tJ F scope (mD scope F.env) C base names) c gc)
  (z:∀C,Eb (tJ F scope (mD scope F.env) C base names) (cap++Hj base names)→lM n (tJ F scope (mD scope F.env) C base names) d ge):
  lM n F (.ListComp d [⟨e,b,[c],0⟩] scope r) (oD base gi gt (qQ gc (oC ge))):=
 X2 (body:=fun C a=>isTrue c (kB scope (mD scope F.env) C F.env) (eval c (kB scope (mD scope F.env) C F.env))>>=fun ok=>if ok=true then (eval d (kB scope (mD scope F.env) C F.env)>>=fun x=>call (.builtin "list.append") [.ref a,x]>>=fun _=>pure ())else pure ())
  T f g h rfl rfl i j k l m o p (fun C a I=>Fs d e b c scope r (.ref I) a (kB scope (mD scope F.env) C F.env)) x y (fun C a T1 _ _ _ q=>aFd (u C T1) (fun _ _ _ q=>Nc T1.fk (z C T1) q) q)
end
section
variable{n:Nat}{F:Fx}{tab:List (Nat×jX)}
theorem đ{gt:V→St→Option St}
  (T:Eb F tab) (g:swapsWith (.ListComp b [⟨e,d,[c],0⟩] scope f) (some (.Name yn py)) spos.line F.env=pure true) (h:(i,yn)∈tab) (j:∀x q,lk F.bnd x=some q→x<base) (k:names≠[]) (l:names.Nodup)
  (m:∀x,foldedSetIterable d F.env x=pure x) (o:(scope.names.all fun x=> !(x.2==.free)|| (F.env.cells.lookup x.1).isSome)=true) (p:(scope.names.all fun y=>y.2 != .cell)=true) (r:scope.kind=.function)
  (s:(scope.names.all fun y=>y.2 != .local||scope.names.lookup y.1==some .local)=true) (t:B5 F scope tab cap) (v:B4 F scope names)
  (x:ŕ n F d gi) (y:∀C,Eb (tJ F scope (mD scope F.env) C base names) (cap++Hj base names)→I9 n (tJ F scope (mD scope F.env) C base names) e gt)
  (u:∀C,Eb (tJ F scope (mD scope F.env) C base names) (cap++Hj base names)→Yu n (tJ F scope (mD scope F.env) C base names) c gc)
  (z:∀C,Eb (tJ F scope (mD scope F.env) C base names) (cap++Hj base names)→lM n (tJ F scope (mD scope F.env) C base names) b ge):
  Fy n F (.Assign [.Name yn py] (.ListComp b [⟨e,d,[c],0⟩] scope f) spos) (eS (oD base gi gt (qQ gc (oC ge))) (bY i)):=
 H3 (body:=fun C a=>isTrue c (kB scope (mD scope F.env) C F.env) (eval c (kB scope (mD scope F.env) C F.env))>>=fun ok=>if ok=true then (eval b (kB scope (mD scope F.env) C F.env)>>=fun x=>call (.builtin "list.append") [.ref a,x]>>=fun _=>pure ())else pure ())
  T j k l rfl g h (fun _=>rfl) m o p r s t v (fun C a I=>Fs b e d c scope f (.ref I) a (kB scope (mD scope F.env) C F.env)) x y (fun C a T1 _ _ _ q=>aFd (u C T1) (fun _ _ _ q=>Nc T1.fk (z C T1) q) q)
end
def Vv(xs:nM)(gi:M cG)(gt:V→St→Option St)(gb:Nat→M Fl):Nat→M Fl:=fun k σ=>bd (gi σ) fun ds σ=>if k<σ.next then Jq xs σ.next (fun v τ=>ob (gt v τ) fun τ=>gb (σ.next-1) τ) ds σ else aF
theorem Wk.low{k d:Nat}{σ σ':St}(h:k≤d)(x:Wk d σ σ'):Wk k σ σ':=fun F X D e fk m=>let ⟨D',m',a,b⟩:=x F X D e fk m;⟨D',m',fun n c q=>a n c (bT q h),b⟩
section
variable{n:Nat}{F:Fx}
theorem ď{gt:V→St→Option St}{gb:Nat→M Fl}(fk:iY F)(x:ŕ n F iter gi)(y:I9 n F C gt)(z:Fc n F body gb)(G:∀x,foldedSetIterable iter F.env x=pure x):
  Fy n F (.For C iter body [] ah) (Vv xs gi gt gb):=fun k σ f σ' e=>by
 obtain ⟨ds,σ₁,H,e⟩:=eG e;split at e
 ·rename_i J;intro A X D h tk ok m;refine ũ (bN (x _ _ _ H A X D h tk ok m) (fun xv d0 h₁=>bN h₁ (fun it g4 p=>?_) fun _ _ q=>q) fun _ _ q=>q) G;obtain ⟨h₀,D₀,g7,me,I,bo,L,rfl,rfl,st,m₀,⟨fp,P,Sx,T,W,N,O,R,t,Y,Z,hP⟩,rfl,rfl⟩:=p;have cw:=P3 (Q:=Cv f σ') (tk:=L) fk ok W N O m₀ R t Y (fun b g=>(Z b g).imp id fun ⟨q1,_,q2⟩=>⟨q1,q2⟩)
   (fun i v h' D' hi hv B=>hP i v D' _ h' hi hv (fun b o e g=>B.keep b o e (fun q=>g (.inl q)) fun n q=>g (.inr (.inr ⟨n,q⟩))) fun a ha=>by
    rcases ha with q|q|⟨j,q⟩
    ·exact .inl (.inl q)
    ·rcases q with q|q
     ·exact .inr (by refine (aM.mp q)▸?_;exact t)
     ·exact .inl (.inr (.inl q))
    ·rcases B.new j a q with q|q
     ·exact .inl (.inr (.inr ⟨j,q⟩))
     ·exact .inr q)
   (fun i τ=>Jq xs σ₁.next (fun v τ=>ob (gt v τ) fun τ=>gb (σ₁.next-1) τ) (ds.drop i) τ=some (f,σ')) (by exact e)
   (fun i τ hi c=>by
    have hd:ds.drop i=ds.getD i .none::ds.drop (i+1):=by simp [aT,hi]
    simp only [hd]at c;obtain ⟨fl,cb,d,c⟩:=eG c;replace d:=dO d;obtain ⟨br,e4,d⟩:=d;intro A X D h tk u ok m r;refine bN (y _ _ _ e4 A X D h tk u ok m r) (fun _ s' p=>?_) fun _ _ q=>q;obtain ⟨h',ao,D',gv,b,rfl,o6,sm,om,rfl⟩:=p;refine ⟨h',ao,D',_,b,rfl,o6,sm,om,?_⟩;refine jY (z _ _ _ _ d) ?_;refine mR ?_;cases fl
    ·obtain ⟨l,s,c⟩:=dO c;exact ⟨l,(Cp s).low (Bq _ _),c⟩
    ·exact (.of c)
    ·obtain ⟨l,s,c⟩:=dO c;exact ⟨l,(Cp s).low (Bq _ _),c⟩
    ·exact (.of c))
   (fun τ c=>by rw [kP]at c;exact (.of c))
  exact rH cw fun r s' p=>by
   cases r with
   |ok f'=>exact (vH.lower (Ţ J) p).on (st.toK k)
   |error e=>exact p
 ·exact iE e
end
theorem aBs{gt:V→St→Option St}{gb:Nat→M Fl}{P:Fl→iX}(J:Nat→iX)(e:gi σ=some (ds,τ))(c:k<τ.next)(h0:J 0 τ)
  (step:∀i a v,ds[i]?=some v→J i a→∃τ',gt v a=some τ'∧Go (gb (τ.next-1) τ') (xT xs τ.next (J (i+1)) (fun _=>False) (fun _ _=>False)))
  (done:∀τ',J ds.length τ'→P .next τ'):Go (Vv xs gi gt gb k σ) P:=by
 have d:=P4 (b:=fun v a=>ob (gt v a) fun a=>gb (τ.next-1) a) (fun _=>False) (fun _ _=>False) ds J τ h0 (fun i a v g h=>by obtain ⟨τ',j,p⟩:=step i a v g h;rw [j];exact p);unfold Vv;rw [e];show Go (if k<τ.next then _ else _) _;rw [if_pos c];refine d.mono fun f τ' p=>?_;cases f
 ·exact done τ' (p.resolve_right id)
 ·exact p.elim
 ·exact p.elim
 ·exact p.elim
noncomputable def liD:kR→Option (List kR)
 |.list l=>some l
 |_=>aF
@[elab_as_elim] theorem ă {a:Type} {f:List kR→Option a} {P:kR→Prop} {r:a} (e:ob (liD y) f=some r) (k:∀l,f l=some r→P (.list l)):P y:=by cases y<;>first|exact k _ e|exact iE e
def Ŧ:V→V→M V:=fun a b σ=>ob (E8 σ a) fun x=>ob (E8 σ b) fun y=>ob (liD y) fun l=>some (.bool (l.any fun z=>tP z x),σ)
def Yb:V→V→M V:=fun a b σ=>ob (E8 σ a) fun x=>ob (E8 σ b) fun y=>ob (liD y) fun l=>some (.bool (!l.any fun z=>tP z x),σ)
section
variable{n:Nat}{F:Fx}
theorem Vm{A:lL}{d:kR}{n k:Nat}(h:vU d=true)(a:A.units+10*n+100<cLine):A.units+1+min k d.depth<cLine:=by unfold vU at h;have b:=of_decide_eq_true (nD.mp h).2;have c:min k d.depth≤d.depth:=J9 _ _;omega
theorem Tg:Ft n F (compareOp .In) Ŧ:=fun a b σ v σ' e=>by refine nn fun c=>?_;obtain ⟨x,g,e⟩:=dO e;obtain ⟨y,i,e⟩:=dO e;refine c ?_;clear c;refine qU fun A X D h tk u v ok m k o=>?_;refine nn fun c=>?_;obtain ⟨j,as,r1⟩:=pA m g k;obtain ⟨d,p,f⟩:=pA m i o;refine c ?_;clear c g i;revert d f;refine ă e fun l e=>?_;intro d f;exact SeqAt.in_list_reads f r1 (sM d) (sM j) (Vm j ok.uni) (gT m mJ (.of e))
theorem aBy:Ft n F (compareOp .NotIn) Yb:=fun a b σ v σ' e=>by refine nn fun c=>?_;obtain ⟨x,g,e⟩:=dO e;obtain ⟨y,i,e⟩:=dO e;refine c ?_;clear c;refine qU fun A X D h tk u v ok m k o=>?_;refine nn fun c=>?_;obtain ⟨j,as,r1⟩:=pA m g k;obtain ⟨d,p,f⟩:=pA m i o;refine c ?_;clear c g i;revert d f;refine ă e fun l e=>?_;intro d f;exact SeqAt.notIn_list_reads f r1 (sM d) (sM j) (Vm j ok.uni) (gT m mJ (.of e))
end
section
variable{n:Nat}{F:Fx}
def aFa:qR:=fun us σ=>aV (fun a=>aN (ob (ŧ σ a) fun l=>if l.length≤lim then some (ê (.list l) σ)else aF)) us
theorem Ö:B2 n F (.type "list") aFa:=fun us σ r σ' e=>by
 refine pB e fun v _ e=>?_;refine pM e fun e=>?_;obtain ⟨l,f,e⟩:=dO e;obtain ⟨g,e⟩:=iS e;intro A X D h tk G ok m r;obtain ⟨u,_,rfl,r1,i⟩:=r;cases i;obtain ⟨a,xs,rfl,j,b⟩:=aBw m f r1;obtain ⟨o,k,p,c,hd⟩:=j;have t:(bD xs).size=l.length:=by simp [b.length]
 have x:(bD xs).size≤iC:=by rw [t];exact bR g oY
 refine PySem.call_list_seq (s:=kD h tk) a (.inl rfl) k p hd (fun h' H y d=>?_) x;have z:h.get? h.objs.size=aF:=by
  cases q:h.get? h.objs.size with
  |none=>rfl
  |some o=>exact absurd (dR q) (fF _)
 obtain ⟨m',B⟩:=m.cell (c:=.list l) y z ⟨_,d⟩ (fun D' Y' I C=>⟨_,⟨_,d⟩,C _ _ b⟩);exact ⟨h',tk,_,_,_,rfl,B,m',by exact ⟨_,rfl,by simp [fN,fM]⟩,.of e⟩
end
noncomputable def asT:V→Bool
 |.fn (.type s)=>s=="list"
 |_=>false
theorem aIh:asT v=true→v=.fn (.type "list"):=by
 intro e
 cases v with
 |fn u=>
  cases u with
  |type s=>rw [show s="list" by simpa [asT]using e]
  |_=>exact nomatch e
 |_=>exact nomatch e
section
variable{n:Nat}{F:Fx}
def aCn:qR:=fun us σ=>aV (fun a=>aV fun b=>aN (if asT b=true then oo (G0 a) (fun _=>some (.bool false,σ)) (ob (ŧ σ a) fun _=>some (.bool true,σ))else aF)) us
theorem ψ:B2 n F (.builtin "isinstance") aCn:=fun us σ r σ' e=>by
 refine pB e fun v _ e=>?_;refine pB e fun b _ e=>?_;refine pM e fun e=>?_;obtain ⟨d,e⟩:=iS e;cases aIh d;intro A X D h tk x ok m r;obtain ⟨u,_,rfl,r1,y,_,rfl,f,g⟩:=r;cases g;cases f;revert r1;refine å e (fun k e=>?_) fun e=>?_<;>intro r1
 ·obtain ⟨t,rfl⟩:=r1;refine call_isinstance (isinstance_false_int (T:="list") (by rfl) (by rfl) (by rfl)) ?_;exact ⟨h,tk+1,D,σ,_,rfl,pC.grow fun _ _ e=>e,m,mJ,.of e⟩
 ·obtain ⟨l,i,e⟩:=dO e;obtain ⟨a,xs,rfl,j,z⟩:=aBw m i r1;obtain ⟨o,p,s,c,hd⟩:=j;refine call_isinstance (isinstance_true (T:="list") (Tx:="list") (by rfl) (by rfl)) ⟨⟨o,p,s⟩,?_⟩;exact ⟨h,tk,D,σ,_,rfl,pC.grow fun _ _ e=>e,m,mJ,.of e⟩
end
section
set_option backward.match.sparseCases false
open MineH (at_ cL fr O6 O5)
noncomputable def jS(o:wJ):uN:=match o.data with
 |.func fd=>fd
 |_=>default
noncomputable def vM:List (jX×bO):=[(aC "tuple",.type "tuple"),(aC "len",.builtin "len"),(aC "set",.type "set"),(aC "enumerate",.type "enumerate"),(aC "range",.type "range"),(aC "list",.type "list"),(aC "map",.type "map"),(aC "sorted",.builtin "sorted"),(aC "max",.builtin "max"),(aC "Match",.ref 135),(aC "SequenceMatcher",.ref 242),(aC "isinstance",.builtin "isinstance"),(aC "_law_things",.ref 251),(aC "_law_row",.ref 256),(aC "_law_words",.ref 261),(aC "_law_due",.ref 266),(aC "_law_changes",.ref 273),(aC "_law_merge",.ref 280)]
structure Gd:Prop where
 K:(fr w.params).In S.heap
 lim:S.heap.NoLimit
 glo:∀env:Env,env.globals=mainGlobals→env.builtins=builtinsNs→∀s v,(s,v)∈vM→Glo env s v
theorem Vr:(aC "tuple",mF "tuple")∈vM:=aG (i:=0) rfl
theorem Bx:(aC "len",yY "len")∈vM:=aG (i:=1) rfl
theorem aE0:(aC "set",mF "set")∈vM:=aG (i:=2) rfl
theorem Fp:(aC "enumerate",mF "enumerate")∈vM:=aG (i:=3) rfl
theorem Mp:(aC "range",mF "range")∈vM:=aG (i:=4) rfl
theorem Tc:(aC "list",mF "list")∈vM:=aG (i:=5) rfl
theorem aL1:(aC "map",mF "map")∈vM:=aG (i:=6) rfl
theorem ġ:(aC "sorted",yY "sorted")∈vM:=aG (i:=7) rfl
theorem aL0:(aC "max",yY "max")∈vM:=aG (i:=8) rfl
theorem Vs:(aC "Match",mV 135)∈vM:=aG (i:=9) rfl
theorem Du:(aC "SequenceMatcher",mV 242)∈vM:=aG (i:=10) rfl
theorem Ms:(aC "isinstance",yY "isinstance")∈vM:=aG (i:=11) rfl
theorem Jp:(aC "_law_things",mV 251)∈vM:=aG (i:=12) rfl
theorem yQ:(aC "_law_row",mV 256)∈vM:=aG (i:=13) rfl
theorem Dt:(aC "_law_words",mV 261)∈vM:=aG (i:=14) rfl
theorem Td:(aC "_law_due",mV 266)∈vM:=aG (i:=15) rfl
theorem Ac:(aC "_law_changes",mV 273)∈vM:=aG (i:=16) rfl
theorem Mu:(aC "_law_merge",mV 280)∈vM:=aG (i:=17) rfl
theorem Gd.one(G:Gd):vI S.heap sysModules:=⟨boot_o_1 w.params,G.K 1 _ (by kernel_rfl)⟩
theorem Gd.e{n:Nat}{F:Fx}{s:jX}{a:Pos}{v:bO}(G:Gd)(fk:iY F)(b:F.env.globals=mainGlobals)(c:F.env.builtins=builtinsNs)(d:(s,v)∈vM)(f:F.env.kindOf s=some .globalImplicit)(hd:(s== ("__debug__":jX))=false):lM n F (.Name s a) (gK (.fn v)):=
 Ĕ fk f (G.glo _ b c _ _ d) hd
theorem L8(P:fV):zG (fr P) 136 82 91 89 where
 obj:=⟨_,_,_,_,(by kernel_rfl:(fr P).lookup rY=some MineH.o135v0),rfl,rfl,rfl,rfl,rfl⟩
 call:=by kernel_rfl
 typ:=by kernel_rfl
 init:=by kernel_rfl
 reads:=by kernel_rfl
 new:=by kernel_rfl
 newR:=⟨((recIn (fr P) 136 "staticmethod").getD []).tail,by kernel_rfl⟩
 tnew:=by kernel_rfl
 make:=by kernel_rfl
 makeR:=⟨((recIn (fr P) 91 "classmethod").getD []).tail,by kernel_rfl⟩
 iter:=by kernel_rfl
 lt:=by kernel_rfl
noncomputable def R8:mE:=[aC "_cls",aC "a",aC "b",aC "size"]
theorem aMb(P:fV):lU (jS O6) R8:=.of (by kernel_rfl)
def aOk:Nat→M Fl:=dW (sE (gK (.str (aC "Create new instance of Match(a, b, size)")))) (wT (Ģ (aK (aJ 0) (aK (fY (aK (aJ 1) (aK (aJ 2) (aK (aJ 3) bJ)))) bJ))))
theorem aLw{n:Nat}{L:cY}(G:Gd):Fc n (wZ (jS O6) L 82 R8) (cL (at_ [3,4])) aOk:=by
 have T:=(aMb w.params).tab L 82;exact bI (eN rfl rfl jA) (cM (mY (Pm G.K (L8 w.params) (G.e T.fk rfl rfl Vr (by kernel_rfl) (by decide)) ⟨rfl,rfl,trivial⟩
  (hW (dP T (aG (i:=0) rfl) (by decide)) (hW (cR (hW (dP T (aG (i:=1) rfl) (by decide)) (hW (dP T (aG (i:=2) rfl) (by decide)) (hW (dP T (aG (i:=3) rfl) (by decide)) aO rfl) rfl) rfl)) aO rfl) rfl) rfl)))
theorem aL4{n:Nat}(G:Gd)(a b c:Int):Yv (n+1) (.ref 82) [.fn (.ref rY),.int a,.int b,.int c] (fun r=>r=.mt [.int a,.int b,.int c]):=by
 refine Ae (fd:=jS O6) (o:=O6) (tab:=R8) (body:=cL (at_ [3,4])) (aMb w.params) (G.K 82 _ (by kernel_rfl)) rfl G.lim (codeRec_of G.K (by kernel_rfl)) rfl (fun vs h=>?_) (by show (4:Nat)≤4;decide) rfl fun L=>?_
 ·revert vs;exact ll4 fun _ _ _ _=>by kernel_rfl
 ·refine jY (aLw G 0 _ _ _ (by rfl)) ?_;rintro _ _ ⟨rfl,rfl⟩;exact ⟨_,rfl,rfl,rfl⟩
noncomputable def Vw:Nat→M Fl:=fun _ _=>aF
theorem H4{n:Nat}{F:Fx}{b:List uM}:Fc n F b Vw:=fun k σ f σ' e=>by exact iE e
noncomputable def Lo:mE:=[aC "cls",aC "iterable",aC "result"]
theorem aE9(P:fV):lU (jS O5) Lo:=.of (by kernel_rfl)
def aL3:Nat→M Fl:=dW (sE (gK (.str (aC "Make a new Match object from a sequence or iterable")))) (dW (eS (Ģ (aK (aJ 0) (aK (aJ 1) bJ))) (bY 2))
 (dW (rP (dU (bH Bi (iO aFb (aK (aJ 2) bJ)) (gK (.int 3)))) Vw (lS .next)) (wT (aJ 2))))
theorem aHg{n:Nat}{L:cY}(G:Gd):Fc n (wZ (jS O5) L 89 Lo) (cL (at_ [3,5])) aL3:=by
 have T:=(aE9 w.params).tab L 89;exact bI (eN rfl rfl jA) (bI (dH (Pm G.K (L8 w.params) (G.e T.fk rfl rfl Vr (by kernel_rfl) (by decide)) ⟨rfl,rfl,trivial⟩
  (hW (dP T (aG (i:=0) rfl) (by decide)) (hW (dP T (aG (i:=1) rfl) (by decide)) aO rfl) rfl) rfl) (rA T (aG (i:=2) rfl)) rfl rfl rfl)
  (bI (hV (cW wU (gD (G.e T.fk rfl rfl Bx (by kernel_rfl) (by decide)) (.inl ⟨_,rfl⟩) (Ù G.K (L8 w.params) (by kernel_rfl)) ⟨rfl,trivial⟩ (hW (dP T (aG (i:=2) rfl) (by decide)) aO rfl) rfl) bM rfl) H4 iG) (cM (mY (dP T (aG (i:=2) rfl) (by decide))))))
theorem aHs{n:Nat}(G:Gd)(a b c:Int):Yv (n+1) (.ref 89) [.fn (.ref rY),.tup [.int a,.int b,.int c]] (fun r=>r=.mt [.int a,.int b,.int c]):=by
 refine Ae (fd:=jS O5) (o:=O5) (tab:=Lo) (body:=cL (at_ [3,5])) (aE9 w.params) (G.K 89 _ (by kernel_rfl)) rfl G.lim (codeRec_of G.K (by kernel_rfl)) rfl (fun vs h=>?_) (by show (2:Nat)≤3;decide) rfl fun L=>?_
 ·revert vs;exact ll2 fun _ _=>by kernel_rfl
 ·refine jY (aHg G 0 _ _ _ (by rfl)) ?_;rintro _ _ ⟨rfl,rfl⟩;exact ⟨_,rfl,rfl,rfl⟩
end
section
open MineH (at_ cL fr o174v0)
noncomputable def aDu:mE:=[aC "self",aC "a"]
theorem dS1(P:fV):lU (jS o174v0) aDu:=.of (by kernel_rfl)
theorem smA(P:fV):Gb (fr P) (aC "a"):=⟨by kernel_rfl,by kernel_rfl,_,(by kernel_rfl:findIn (fr P) (.ref yA) (aC "a")=some aF),by kernel_rfl⟩
theorem saA(P:fV):D4 (fr P) (aC "a"):=⟨by kernel_rfl,by kernel_rfl,by kernel_rfl,by kernel_rfl,by decide⟩
theorem aJs(P:fV):D4 (fr P) (aC "matching_blocks"):=⟨by kernel_rfl,by kernel_rfl,by kernel_rfl,by kernel_rfl,by decide⟩
theorem aJr(P:fV):D4 (fr P) (aC "opcodes"):=⟨by kernel_rfl,by kernel_rfl,by kernel_rfl,by kernel_rfl,by decide⟩
theorem kY:∀A:aW,eB (A.map V.int)=true:=by
 intro a
 induction a with
 |nil=>exact rfl
 |cons _ r b=>simp [dT,dQ,A2,qC,Az,yI,tD,xF,b]
theorem eK(A:aW):(vL A).pure=true:=by simp [vL,A2,qC,Az,yI,tD,xF,kY]
theorem A7{g:V→qM}:∀{as:lT},(∀p∈as,g p.2=some p.2)→Ci g as=some as:=by
 intro a
 induction a with
 |nil=>intro _;exact rfl
 |cons b r c=>obtain ⟨x,v⟩:=b;intro h;exact Ho (h (x,v) aR) (c fun p d=>h p (aQ _ d))
end
section
open MineH (at_ cL fr o188v0)
noncomputable def Â:mE:=[aC "self",aC "b",aC "b2j",aC "i",aC "elt",aC "indices",aC "junk",aC "isjunk",aC "popular",aC "n",aC "ntest",aC "idxs"]
theorem dCb(P:fV):lU (jS o188v0) Â:=.of (by kernel_rfl)
theorem smB(P:fV):Gb (fr P) (aC "b"):=⟨by kernel_rfl,by kernel_rfl,_,(by kernel_rfl:findIn (fr P) (.ref yA) (aC "b")=some aF),by kernel_rfl⟩
theorem smJ(P:fV):Gb (fr P) (aC "isjunk"):=⟨by kernel_rfl,by kernel_rfl,_,(by kernel_rfl:findIn (fr P) (.ref yA) (aC "isjunk")=some aF),by kernel_rfl⟩
theorem aM9(P:fV):Gb (fr P) (aC "autojunk"):=⟨by kernel_rfl,by kernel_rfl,_,(by kernel_rfl:findIn (fr P) (.ref yA) (aC "autojunk")=some aF),by kernel_rfl⟩
theorem aJt(P:fV):D4 (fr P) (aC "b2j"):=⟨by kernel_rfl,by kernel_rfl,by kernel_rfl,by kernel_rfl,by decide⟩
theorem aNf(P:fV):D4 (fr P) (aC "bjunk"):=⟨by kernel_rfl,by kernel_rfl,by kernel_rfl,by kernel_rfl,by decide⟩
theorem aNe(P:fV):D4 (fr P) (aC "bpopular"):=⟨by kernel_rfl,by kernel_rfl,by kernel_rfl,by kernel_rfl,by decide⟩
theorem Bd(k x:Int):∀(l:aW)(s:Nat),iT k s (l++[x])=iT k s l++if x=k then[s+l.length]else[]:=by
 intro a
 induction a with
 |nil=>intro s;by_cases h:x=k<;>rfl
 |cons y l b=>
  intro s;have:=b (s+1);by_cases h:y=k
  ·simp only [dX,yM,yL,h,if_true,this];simp [dD,tO 1]
  ·simp only [dX,yM,yL,h,if_false,this];simp [dD,tO 1]
theorem aD4{a b:Type}(f:a→b)(k:Int):∀(ks:aW)(ns:List a),(ks.zip (ns.map f)).lookup k=((ks.zip ns).lookup k).map f:=by
 intro c
 induction c with
 |nil=>intro ns;simp
 |cons x ks d=>
  intro e
  cases e with
  |nil=>rfl
  |cons n ns=>
   simp only [cS,jF,mA];cases k==x
   ·exact d ns
   ·rfl
theorem õ{a:Type}(k:Int)(n:a):∀{ks:aW}{ns:List a},(ks.zip ns).lookup k=some n→(k,n)∈ks.zip ns:=by
 intro b
 induction b with
 |nil=>intro ns;intro h;simp at h
 |cons x ks c=>
  intro d
  cases d with
  |nil=>intro h;simp at h
  |cons m ns=>
   intro h;simp only [jF,mA]at h⊢;cases e:k==x
   ·rw [e]at h;exact aQ _ (c h)
   ·rw [e]at h;refine oQ h ?_;rintro rfl;rw [eq_of_beq e];exact aR
theorem Xn{d:Type}(k:Int):∀{ks:aW}{ns:List d},ks.length=ns.length→(ks.zip ns).lookup k=aF→k∉ks:=by
 intro a
 induction a with
 |nil=>intro ns;intro _;intro h;simp
 |cons x ks b=>
  intro c
  cases c with
  |nil=>intro h;intro _;simp at h
  |cons m ns=>
   intro f;intro h;simp only [jF,mA]at h;cases e:k==x
   ·rw [e]at h;have:=b (by simpa using f) h;simp only [aU,not_or];exact ⟨fun q=>by simp [q]at e,this⟩
   ·rw [e]at h;exact Lp h
theorem Vb{b:Type}{k:Int}{n:b}:∀{ks:aW}{ns:List b},ks.Nodup→(k,n)∈ks.zip ns→(ks.zip ns).lookup k=some n:=by
 intro c
 induction c with
 |nil=>intro ns;intro _;intro h;simp at h
 |cons x ks a=>
  intro d
  cases d with
  |nil=>intro _;intro h;simp at h
  |cons m ns=>
   intro hd;intro h;simp only [jF,mA]at h⊢;rcases aU.mp h with h|h
   ·refine soT h ?_;rintro rfl rfl;simp
   ·have e:k∈ks:=(La h).1;have:k≠x:=fun q=>by subst q;exact (mX.mp hd).1 e
    rw [show (k==x)=false by simpa using this];exact a (mX.mp hd).2 h
structure CbJ(B:aW)(gk:lT)(i:Nat)(σ:St)(ks:aW)(ns:nM):Prop where
 l0:lk σ.loc 0=some (.inst 0)
 l1:lk σ.loc 1=some (vL B)
 l2:lk σ.loc 2=some (.ref 1)
 c0:lk σ.cells 0=some (.attrs gk)
 c1:lk σ.cells 1=some (.dict ks (ns.map V.ref))
 len:ks.length=ns.length
 at_:∀k n,(k,n)∈ks.zip ns→lk σ.cells n=some (.list ((iT k 0 (B.take i)).map vN))∧2≤n∧n<σ.next∧iT k 0 (B.take i)≠[]
 nn:ns.Nodup
 kn:ks.Nodup
 all:∀k,k∉ks→iT k 0 (B.take i)=[]
 le:ks.length≤i
 nx:2≤σ.next
theorem H6(k:Int):∀(l:aW)(s:Nat),(iT k s l).length≤l.length:=by
 intro a
 induction a with
 |nil=>intro s;exact bG _
 |cons y l b=>intro s;have:=b (s+1);simp only [yM,yL];split<;>simp<;>omega
theorem Dh{a:Type}{k:Int}{n:a}{ks:aW}{ns:List a}(h:(k,n)∈ks.zip ns):k∈ks∧n∈ns:=La h
theorem Ō{c:M V}{d:St}{n nx:Nat}{b i:Int}{a:List (Nat×V)}{cs:List (Nat×gC)}{l:cG}(h0:c d=some (.ref n,⟨lQ 4 (.int b) (lQ 3 (.int i) a),cs,nx⟩))(h:lk cs n=some (.list l))(e:l.length≤lim):
  (dW (eS c (bY 5)) (sE (uF fD (aJ 5) (aK (aJ 3) bJ)))) 1 d=some (.next,⟨lQ 5 (.ref n) (lQ 4 (.int b) (lQ 3 (.int i) a)),lQ n (.list (l++[.int i])) cs,nx⟩):=by
 refine (?_:bd (bd (c d) _) _=_);rw [h0];refine (?_:bd (uF fD (aJ 5) (aK (aJ 3) bJ) ⟨lQ 5 (.ref n) (lQ 4 (.int b) (lQ 3 (.int i) a)),cs,nx⟩) _=_);rw [rL (bL (by rw [kU,if_pos rfl]:lk (lQ 5 (V.ref n) (lQ 4 (.int b) (lQ 3 (.int i) a))) 5=some (.ref n))) (by show ob (lk cs n) liC=_;rw [h];rfl) (bB (bL (by rw [kU,if_neg (by decide),kU,if_neg (by decide),kU,if_pos rfl]:lk (lQ 5 (V.ref n) (lQ 4 (.int b) (lQ 3 (.int i) a))) 3=some (.int i))) bZ) (jH h e)];rfl
theorem aCy{B:aW}{H:lT}{i:Nat}{σ:St}{ks:aW}{ns:nM}(hi:i<B.length)(I:B.length<200)(j:CbJ B H i σ ks ns):
  ∃σ' R T,(dW (eS (aB1 Kx (aJ 2) (aK (aJ 4) (aK (lZ bJ) bJ))) (bY 5)) (sE (uF fD (aJ 5) (aK (aJ 3) bJ)))) 1 {σ with loc:=lQ 4 (.int (B.getD i 0)) (lQ 3 (.int i) σ.loc)}=some (.next,σ')∧CbJ B H (i+1) σ' R T:=by
 have J:lim=1048576:=rfl;have t:B.take (i+1)=B.take i++[B.getD i 0]:=by simp only [aI6,bK hi,aT,bK hi];rfl
 have L:ks.length≤lim:=by have:=j.le;exact bE 0x76314886900d78c6318c70c25633b30541004 hi I J this
 have u:lk ((σ.next,gC.list [])::σ.cells) 1=some (.dict ks (ns.map V.ref)):=by simp only [fN,fM];rw [if_neg (by have:=j.nx;exact bE aGz this)];exact j.c1
 generalize Z:B.getD i 0=b at *;have N:(B.take i).length=i:=by simp;exact bE 0x2522a462b081420cce1002 hi
 have h:(aB1 Kx (aJ 2) (aK (aJ 4) (aK (lZ bJ) bJ))) {σ with loc:=lQ 4 (.int b) (lQ 3 (.int i) σ.loc)}=Kx [.ref 1,.int b,.ref σ.next] ⟨lQ 4 (.int b) (lQ 3 (.int i) σ.loc),(σ.next,.list [])::σ.cells,σ.next+1⟩:=by simp [aB1,aJ,kU,j.l2,bd,aBb,j.c1,aK,lZ,bJ,ê]
 cases e:(ks.zip ns).lookup b with
 |some n=>
  have c:=õ b n e;refine nn fun v=>?_;obtain ⟨a1,O,W,a4⟩:=j.at_ b n c;refine v ?_;have x:Kx [.ref 1,.int b,.ref σ.next] ⟨lQ 4 (.int b) (lQ 3 (.int i) σ.loc),(σ.next,.list [])::σ.cells,σ.next+1⟩=some (.ref n,⟨lQ 4 (.int b) (lQ 3 (.int i) σ.loc),(σ.next,.list [])::σ.cells,σ.next+1⟩):=by show aD _ 1 _=_;rw [aFe u];show (if ks.length≤lim then _ else _)=_;rw [if_pos L,aD4,e];rfl
  have y:lk ((σ.next,gC.list [])::σ.cells) n=some (.list ((iT b 0 (B.take i)).map vN)):=by simp only [fN,fM];rw [if_neg (by exact bE ø W)];exact a1
  refine ⟨⟨lQ 5 (.ref n) (lQ 4 (.int b) (lQ 3 (.int i) σ.loc)),lQ n (.list ((iT b 0 (B.take i)).map vN++[.int i])) ((σ.next,.list [])::σ.cells),σ.next+1⟩,ks,ns,?_,?_⟩
  ·exact Ō (h.trans x) y (by rw [bF];exact (fun k=>by have:=H6 k (B.take i) 0;simp at this;exact bE 0xeeec6291912022f18c6318e186ac676614ce1004 I J this:∀k,(iT k 0 (B.take i)).length≤lim) b)
  ·refine ⟨by simp [kU,j.l0],by simp [kU,j.l1],by simp [kU,j.l2],?_,?_,j.len,?_,j.nn,j.kn,?_,aFk j.le,by have:=j.nx;show 2≤σ.next+1;exact bE 0xc62941c1a3241a301 this⟩
   ·simp only [kU];rw [if_neg (by exact bE aAl O)];simp only [fN,fM];rw [if_neg (by have:=j.nx;exact bE aAl this)];exact j.c0
   ·simp only [kU];rw [if_neg (by exact bE aGz O)];exact u
   ·intro k m a;obtain ⟨b1,o,d,A⟩:=j.at_ k m a;have f:=Bd k b (B.take i) 0;rw [t,f,N];by_cases q:b=k
    ·subst q;have:m=n:=by have:=Vb j.kn a;rw [e]at this;refine oQ this ?_;rintro rfl;rfl
     subst this;refine ⟨by simp [kU,vN],o,by show m<σ.next+1;exact bE aAj d,by simp⟩
    ·have X:m≠n:=fun z=>by
      subst z;obtain ⟨p,r,s⟩:=lN a;obtain ⟨P,Q,C⟩:=lN c;simp only [List.getElem_zip,qN]at s C;have:p=P:=by
       have D:P<ns.length:=by simp at Q;exact bE aD8 Q
       exact (List.getElem_inj j.nn (h₀:=(by simp at r;exact bE aD8 r:p<ns.length)) (h₁:=D)).mp (s.2.trans C.2.symm)
      subst this;exact q (C.1.symm.trans s.1)
     refine ⟨?_,o,by show m<σ.next+1;exact bE aAj d,by simp [A]⟩;simp only [kU];rw [if_neg X,if_neg q];simp only [fN,fM];rw [if_neg (by exact bE ø d)];simpa using b1
   ·intro k g;have f:=Bd k b (B.take i) 0;rw [t,f,j.all k g,if_neg (fun z=>by subst z;exact g (Dh c).1)];rfl
 |none=>
  have F:=Xn b j.len e;have x:Kx [.ref 1,.int b,.ref σ.next] ⟨lQ 4 (.int b) (lQ 3 (.int i) σ.loc),(σ.next,.list [])::σ.cells,σ.next+1⟩=some (.ref σ.next,⟨lQ 4 (.int b) (lQ 3 (.int i) σ.loc),lQ 1 (.dict (b::ks) ((σ.next::ns).map V.ref)) ((σ.next,.list [])::σ.cells),σ.next+1⟩):=by show aD _ 1 _=_;rw [aFe u];show (if ks.length≤lim then _ else _)=_;rw [if_pos L,aD4,e];rfl
  have y:lk (lQ 1 (.dict (b::ks) ((σ.next::ns).map V.ref)) ((σ.next,gC.list [])::σ.cells)) σ.next=some (.list []):=by simp only [kU];rw [if_neg (by have:=j.nx;exact bE aGy this)];simp [fN,fM]
  refine ⟨⟨lQ 5 (.ref σ.next) (lQ 4 (.int b) (lQ 3 (.int i) σ.loc)),lQ σ.next (.list ([]++[.int i])) (lQ 1 (.dict (b::ks) ((σ.next::ns).map V.ref)) ((σ.next,.list [])::σ.cells)),σ.next+1⟩,b::ks,σ.next::ns,?_,?_⟩
  ·exact Ō (h.trans x) y (bW _)
  ·have ne:∀m∈ns,m≠σ.next:=fun m c z=>by
    refine nn fun v=>?_;obtain ⟨p,r,s⟩:=lN c;refine v ?_;have D:p<ks.length:=by have:=j.len;exact bE 0x1a315080b08941003 r this
    have:(ks[p],ns[p])∈ks.zip ns:=by have:=mB (l:=ks.zip ns) (n:=p) (by simp;exact bE 0xaa6315006a08d421cce1003 r D);simpa using this
    have:=(j.at_ _ _ this).2.2.1;exact bE 0x546325044b00961003 z s this
   have Y:iT b 0 (B.take i)=[]:=j.all b F;refine ⟨by simp [kU,j.l0],by simp [kU,j.l1],by simp [kU,j.l2],?_,?_,by simp [j.len],?_,?_,?_,?_,?_,by have:=j.nx;show 2≤σ.next+1;exact bE 0xc62941c1a3241a301 this⟩
   ·simp only [kU];rw [if_neg (by have:=j.nx;exact bE aAl this),if_neg (by exact bE 0x43174967300)];simp only [fN,fM];rw [if_neg (by have:=j.nx;exact bE aAl this)];exact j.c0
   ·simp only [kU];rw [if_neg (by have:=j.nx;exact bE aGz this)];simp
   ·intro k m a;have f:=Bd k b (B.take i) 0;rw [t,f,N];simp only [jF,aU,qN]at a;rcases a with ⟨rfl,rfl⟩|a
    ·refine ⟨by simp [kU,Y,vN],j.nx,gX _,by simp⟩
    ·obtain ⟨b1,o,d,A⟩:=j.at_ k m a;have G:¬b=k:=fun z=>by subst z;exact F (Dh a).1
     refine ⟨?_,o,by show m<σ.next+1;exact bE aAj d,by simp [A]⟩;simp only [kU];rw [if_neg (by exact bE ø d),if_neg (by exact bE aGy o),if_neg G];simp only [fN,fM];rw [if_neg (by exact bE ø d)];simpa using b1
   ·exact mX.mpr ⟨fun c=>ne _ c rfl,j.nn⟩
   ·exact mX.mpr ⟨F,j.kn⟩
   ·intro k g;simp only [aU,not_or]at g;have f:=Bd k b (B.take i) 0;rw [t,f,j.all k g.2,if_neg (fun z=>g.1 z.symm)];rfl
   ·show (b::ks).length≤i+1;simp;exact j.le
theorem ó{g:V→qM}{as a:lT}(h:Ci g as=some a):Jm g (.attrs as)=some (.attrs a):=congrArg (nA gC.attrs) h
theorem Su{k:Nat}{g:V→qM}:∀{l:List (Nat×gC)},(∀p∈l,¬p.1<k)→tH k g l=some []:=by
 intro a
 induction a with
 |nil=>intro _;exact rfl
 |cons b r d=>obtain ⟨n,c⟩:=b;intro h;exact mK (h (n,c) aR) (d fun p e=>h p (aQ _ e))
theorem ð{a:Type}{g:V→qM}{f:a→V}{f':a→V}:∀{l:List a},(∀v∈l,g (f v)=some (f' v))→oX g (l.map f)=some (l.map f'):=by
 intro b
 induction b with
 |nil=>intro _;exact rfl
 |cons v r c=>intro h;rw [cS];simp only [A6,A5];rw [h v aR,c fun p d=>h p (aQ _ d)];rfl
theorem Xu{b e:Type}{f:b→Nat×e}:∀{l:List b}{a:b},(l.map fun x=>(f x).1).Nodup→a∈l→lk (l.map f) (f a).1=some (f a).2:=by
 intro c
 induction c with
 |nil=>intro a;intro _;intro h;cases h
 |cons x r d=>
  intro a;intro hd;intro h;simp only [cS,mX]at hd⊢;rcases aU.mp h with rfl|h
  ·exact if_pos rfl
  ·have:(f a).1≠(f x).1:=fun q=>hd.1 (by simp only [←q];exact List.mem_map_of_mem h);show lk ((f x)::r.map f) _=_;rw [show f x=((f x).1,(f x).2)from rfl];simp only [fN,fM];rw [if_neg this];exact d hd.2 h
def ŋ(B:aW)(ks:aW):V:=.dct ks (ks.map fun k=>.lst ((iT k 0 B).map vN))
theorem Jv{B:aW}{ks:aW}(a:ks.Nodup)(b:∀k∈ks,iT k 0 B≠[])(c:∀k,k∉ks→iT k 0 B=[]):sY B (ŋ B ks):=by
 refine ⟨ks,_,rfl,by simp,fun k=>?_⟩;by_cases h:k∈ks
 ·rw [if_neg (b k h)];refine Vb a ?_;refine nn fun d=>?_;obtain ⟨i,hi,e⟩:=lN h;refine d ?_;have:=mB (l:=ks.zip (ks.map fun k=>V.lst ((iT k 0 B).map vN))) (n:=i) (by simp;exact hi);simpa [e]using this
 ·rw [if_pos (c k h)];have:∀{ks:aW}{vs:cG},k∉ks→(ks.zip vs).lookup k=aF:=by
   intro ks
   induction ks with
   |nil=>intro vs _;simp
   |cons x ks f=>
    intro vs h
    cases vs with
    |nil=>simp
    |cons v vs=>simp only [aU,not_or]at h;simp only [jF,mA,show (k==x)=false by simpa using h.1];exact f h.2
  exact this h
theorem rW:∀(l:nM),eB (l.map vN)=true:=by
 intro a
 induction a with
 |nil=>exact rfl
 |cons _ r b=>exact b
theorem Ŋ(B ks:aW):(ŋ B ks).pure=true:=by
 unfold ŋ;change eB _=true
 induction ks with
 |nil=>rfl
 |cons k ks a=>simp only [cS,dT,dQ,A2,qC,Az,yI,tD,xF,rW];exact a
theorem aIc{B:aW}{as:lT}{σ:St}{ks:aW}{ns:nM}(z:∀p∈as,p.2.pure=true)(j:CbJ B (jZ (aC "b2j") (.ref 1) as) B.length σ ks ns):
  ∃ks,sY B (ŋ B ks)∧Wk 1 σ ⟨[(0,.inst 0),(1,vL B)],[(0,.attrs (jZ (aC "b2j") (ŋ B ks) as))],1⟩:=by
 have o:B.take B.length=B:=zM;refine ⟨ks,Jv j.kn (fun k r=>?_) (fun k r=>by have:=j.all k r;rwa[o]at this),?_⟩
 ·obtain ⟨i,hi,e⟩:=lN r;have b:=j.len;have a:(k,ns[i])∈ks.zip ns:=by have:=mB (l:=ks.zip ns) (n:=i) (by simp;exact bE 0x2b52315006b105411cce1003 hi b);simpa [e]using this
  have:=(j.at_ k _ a).2.2.2;rwa[o]at this
 ·let f:Int×Nat→Nat×gC:=fun p=>(p.2,.list ((iT p.1 0 B).map vN));have s:(ks.zip ns).map (fun x=>(f x).1)=ns:=by refine (?_:(ks.zip ns).map Prod.snd=ns);rw [List.map_snd_zip];have:=j.len;exact bE 0x1462900561002 this
  have A:((ks.zip ns).map fun x=>(f x).1).Nodup:=by rw [s];exact j.nn
  have C:Wk 1 σ ⟨[(0,.inst 0),(1,vL B)],(0,.attrs (jZ (aC "b2j") (.ref 1) as))::(1,.dict ks (ns.map V.ref))::(ks.zip ns).map f,σ.next⟩:=by
   refine Wk.of_lk (fun x v e=>?_) (fun n c e=>?_) (bG _)
   ·simp only [fN,fM]at e;split at e
    ·rename_i q;subst q;refine oQ e ?_;rintro rfl;exact j.l0
    ·split at e
     ·rename_i q;subst q;refine oQ e ?_;rintro rfl;exact j.l1
     ·exact iE e
   ·simp only [fN,fM]at e;split at e
    ·rename_i q;subst q;refine oQ e ?_;rintro rfl;exact j.c0
    ·split at e
     ·rename_i q;subst q;refine oQ e ?_;rintro rfl;exact j.c1
     ·have a:=Ā e;obtain ⟨p,d,D⟩:=qG.mp a;obtain ⟨k,m⟩:=p;refine soT D ?_;rintro rfl rfl;have:=(j.at_ k m d).1;rw [o]at this;exact this
  refine C.trans (Ti ?_);generalize t:((0,gC.attrs (jZ (aC "b2j") (.ref 1) as))::(1,gC.dict ks (ns.map V.ref))::(ks.zip ns).map f)=cs;have r1:∀k n,(k,n)∈ks.zip ns→rJ 29 1 cs (.ref n)=some (.lst ((iT k 0 B).map vN)):=fun k n a=>by
   refine nn fun F=>?_;obtain ⟨a1,u,P,Q⟩:=j.at_ k n a;refine F ?_;have:lk cs n=some (.list ((iT k 0 B).map vN)):=by rw [←t];simp only [fN,fM];rw [if_neg (by exact bE 0xa31749660241a301 u)];rw [if_neg (by exact bE aGy u)];exact Xu (f:=f) A a
   refine (Gj (f:=28) (by exact bE 0x631749470241a301 u)).trans ?_;rw [this];exact congrArg (nA V.lst) (ð (f':=vN) fun v _=>uV (f:=27) rfl)
  have G:rJ vP 1 cs (.ref 1)=some (ŋ B ks):=by
   refine (Gj (f:=29) (fF 1)).trans ?_;rw [(by rw [←t];rfl:lk cs 1=some (.dict ks (ns.map V.ref)))];have:∀{ks:aW}{ns:nM},ks.length=ns.length→(∀k n,(k,n)∈ks.zip ns→rJ 29 1 cs (.ref n)=some (.lst ((iT k 0 B).map vN)))→oX (rJ 29 1 cs) (ns.map V.ref)=some (ks.map fun k=>V.lst ((iT k 0 B).map vN)):=by
    intro ks
    induction ks with
    |nil=>intro ns b _;cases ns with|nil=>rfl|cons n ns=>simp at b
    |cons k ks H=>
     intro ns b h
     cases ns with
     |nil=>simp at b
     |cons n ns=>simp only [cS];simp only [A6,A5];rw [h k n aR,H (by simpa using b) fun I J a=>h I J (aQ _ a)];rfl
   exact congrArg (nA (V.dct ks)) (this j.len r1)
  have y:Ci (rJ vP 1 cs) (jZ (aC "b2j") (.ref 1) as)=some (jZ (aC "b2j") (ŋ B ks) as):=Ho G (A7 fun p d=>dF (z p (tG d).1));have L:Jl (rJ vP 1 cs) [(0,.inst 0),(1,vL B)]=some [(0,.inst 0),(1,vL B)]:=cO rfl (cO (dF (eK B)) rfl);have N:tH 1 (rJ vP 1 cs) cs=some [(0,.attrs (jZ (aC "b2j") (ŋ B ks) as))]:=by
   refine (fun (q:∀g,Ci g (jZ (aC "b2j") (.ref 1) as)=some (jZ (aC "b2j") (ŋ B ks) as)→tH 1 g cs=some [(0,.attrs (jZ (aC "b2j") (ŋ B ks) as))])=>q _ y) fun g y=>?_;rw [←t];refine eH rR (ó y) (mK (fF 1) (Su fun p d=>?_))
   ·obtain ⟨q,O,rfl⟩:=qG.mp d;have:=(j.at_ q.1 q.2 O).2.1;show ¬q.2<1;exact bE 0x631749470241a301 this
  exact qX L (qX N rfl)
end
section
open MineH (at_ cL fr o188v0)
section
variable{n:Nat}
def gT1:Nat→M Fl:=eS (rQ (aC "b") (aJ 0)) (bY 1)
def gT2:Nat→M Fl:=eS aHp (F5 [Dv (aC "b2j") (aJ 0),bY 2])
def Vt(dl:qR):Nat→M Fl:=dW (eS (iO ł bJ) (F5 [Dv (aC "bjunk") (aJ 0),bY 6])) (dW (eS (rQ (aC "isjunk") (aJ 0)) (bY 7)) (dW (rP (oB (aJ 7)) Vw (lS .next))
 (dW (eS (iO ł bJ) (F5 [Dv (aC "bpopular") (aJ 0),bY 8])) (dW (eS (iO dl (aK (aJ 1) bJ)) (bY 9)) (rP (kL (oB (rQ (aC "autojunk") (aJ 0))) (kL (dU (bH gGe (aJ 9) (gK (.int 200)))) (fun σ=>some (true,σ)))) Vw (lS .next))))))
variable{L:cY}
abbrev FCb(L:cY):Fx:=wZ (jS o188v0) L 188 Â
theorem aOh(G:Gd):Fy n (FCb L) ((cL (at_ [5,5])).getD 0 default) gT1:=by have T:=(dCb w.params).tab L 188;exact dH (lB G.K (smB w.params) (dP T (aG (i:=0) rfl) (by decide))) (rA T (aG (i:=1) rfl)) rfl rfl rfl
theorem aOg(G:Gd):Fy n (FCb L) ((cL (at_ [5,5])).getD 1 default) gT2:=by have T:=(dCb w.params).tab L 188;exact oZ Kq (.cons (lA G.K T.fk (aJt w.params) (dP T (aG (i:=0) rfl) (by decide))) (.cons (rA T (aG (i:=2) rfl)) .nil)) rfl rfl rfl
theorem aHf(G:Gd){dl:qR}(a:B2 n (FCb L) (.builtin "len") dl):Fc n (FCb L) ((cL (at_ [5,5])).drop 3) (Vt dl):=by
 have T:=(dCb w.params).tab L 188;exact bI (oZ (gD (G.e T.fk rfl rfl aE0 (by kernel_rfl) (by decide)) (.inr (.inl ⟨_,rfl⟩)) O3 trivial aO rfl) (.cons (lA G.K T.fk (aNf w.params) (dP T (aG (i:=0) rfl) (by decide))) (.cons (rA T (aG (i:=6) rfl)) .nil)) rfl rfl rfl)
  (bI (dH (lB G.K (smJ w.params) (dP T (aG (i:=0) rfl) (by decide))) (rA T (aG (i:=7) rfl)) rfl rfl rfl)
  (bI (hV (lE (dP T (aG (i:=7) rfl) (by decide)) rfl) H4 iG)
  (bI (oZ (gD (G.e T.fk rfl rfl aE0 (by kernel_rfl) (by decide)) (.inr (.inl ⟨_,rfl⟩)) O3 trivial aO rfl) (.cons (lA G.K T.fk (aNe w.params) (dP T (aG (i:=0) rfl) (by decide))) (.cons (rA T (aG (i:=8) rfl)) .nil)) rfl rfl rfl)
  (bI (dH (gD (G.e T.fk rfl rfl Bx (by kernel_rfl) (by decide)) (.inl ⟨_,rfl⟩) a ⟨rfl,trivial⟩ (hW (dP T (aG (i:=1) rfl) (by decide)) aO rfl) rfl) (rA T (aG (i:=9) rfl)) rfl rfl rfl)
  (cM (hV (kK (fC (lE (lB G.K (aM9 w.params) (dP T (aG (i:=0) rfl) (by decide))) rfl) (fC (cW Th (dP T (aG (i:=9) rfl) (by decide)) bM rfl) lR))) H4 iG))))))
def Nd(as:lT)(ch:V):lT:=jZ (aC "bpopular") .set0 (jZ (aC "bjunk") .set0 (jZ (aC "b2j") ch as))
theorem À{as:lT}{a:Option aW}{ch:V}{au:Bool}{dl:qR}(p:oM as (aC "isjunk")=some .none)(r:oM as (aC "autojunk")=some (.bool au))(y:(a.getD []).length<200)
  (hd:∀σ,dl [vS a] σ=some (.int (a.getD []).length,σ)):
  ∃σ',Vt dl 1 ⟨[(0,.inst 0),(1,vS a)],[(0,.attrs (jZ (aC "b2j") ch as))],1⟩=some (.next,σ')∧lk σ'.cells 0=some (.attrs (Nd as ch)):=by
 have i:decide ((200:Int)≤((a.getD []).length:Int))=false:=by lia
 have d:∀{l:lT}{s t:jX}{v u:V},t≠s→oM l t=some u→oM (jZ s v l) t=some u:=fun h e=>mL.trans ((if_neg h).trans e);let j:=jZ (aC "bjunk") .set0 (jZ (aC "b2j") ch as);let x:St:=⟨[(0,.inst 0),(1,vS a),(6,.set0)],[(0,.attrs j)],1⟩;let m:St:=⟨[(0,.inst 0),(1,vS a),(6,.set0),(7,.none)],[(0,.attrs j)],1⟩;let o:St:=⟨[(0,.inst 0),(1,vS a),(6,.set0),(7,.none),(8,.set0)],[(0,.attrs (Nd as ch))],1⟩;let c:St:=⟨[(0,.inst 0),(1,vS a),(6,.set0),(7,.none),(8,.set0),(9,.int (a.getD []).length)],[(0,.attrs (Nd as ch))],1⟩;have g:Go (Vt dl 1 ⟨[(0,.inst 0),(1,vS a)],[(0,.attrs (jZ (aC "b2j") ch as))],1⟩) fun f τ=>f=.next∧τ=c:=by
  unfold Vt;refine bV (dE (v:=.set0) (τ':=x) (lO (us:=[]) rfl rfl) rfl ?_);refine bV (dE (v:=.none) (τ':=m) (oH (n:=0) (as:=j) rfl rfl (d (by decide) (d (by decide) p)) rfl) rfl ?_);refine bV (zY (τ:=m) rfl (iN ?_));refine bV (dE (v:=.set0) (τ':=o) (lO (us:=[]) rfl rfl) rfl ?_);refine bV (dE (τ:=o) (τ':=c) (lO (us:=[vS a]) rfl (hd _)) rfl ?_);refine mO (gW (gF (b:=au) (τ:=c) (vZ (oH (n:=0) (as:=Nd as ch) rfl rfl (d (by decide) (d (by decide) (d (by decide) r))) rfl) rfl) ?_));have k:Go (lS .next 1 c) fun f τ=>f=.next∧τ=c:=iN ⟨rfl,rfl⟩
  cases au with
  |false=>exact k
  |true=>exact gW (gF (b:=false) (τ:=c) (kH (congrArg (fun b=>some (V.bool b,c)) i)) k)
 obtain ⟨f,τ,e,rfl,rfl⟩:=g;exact ⟨_,e,rfl⟩
theorem Bf(B:aW)(h:B.length<200)(σ:St):F8 [vL B] σ=some (.int B.length,σ):=by have a:lim=1048576:=rfl;show (if (B.map V.int).length≤lim then some (V.int (B.map V.int).length,σ)else aF)=_;rw [bF,if_pos (by exact bE 0x68c52102f18c6318e182ac6766002 h a)]
theorem aCm(σ:St):ń [.str (aC "")] σ=some (.int 0,σ):=by rfl
theorem uY{as:lT}{ch:V}(a:∀p∈as,p.2.pure=true)(b:ch.pure=true):∀p∈Nd as ch,p.2.pure=true:=fun p h=>by
 rcases aU.mp h with rfl|h
 ·rfl
 ·rcases aU.mp (tG h).1 with rfl|h
  ·rfl
  ·rcases aU.mp (tG h).1 with rfl|h
   ·exact b
   ·exact a p (tG h).1
theorem mCb(G:Gd)(as:lT)(a:Option aW)(au:Bool)(b:∀p∈as,p.2.pure=true)(y:oM as (aC "isjunk")=some .none)(z:oM as (aC "autojunk")=some (.bool au))(A:oM as (aC "b")=some (vS a))(d:(a.getD []).length<200):
  tL (n+1) (.ref 188) (.attrs as) [] (fun c r=>∃ch,sY (a.getD []) ch∧ch.pure=true∧c=.attrs (Nd as ch)∧r=.none):=by
 have f:Jh (vS a)=true:=by cases a<;>rfl
 refine yJ (fd:=jS o188v0) (o:=o188v0) (tab:=Â) (body:=cL (at_ [5,5])) (dCb w.params) (G.K 188 _ (by kernel_rfl)) rfl G.lim (codeRec_of G.K (by kernel_rfl)) rfl (fun vs h=>?_) (by refine (?_:(1:Nat)≤12);decide) b (fun L=>?_) (by simp [dT,dQ])
 ·revert vs;exact ll1 fun _=>by kernel_rfl
 ·have T:=(dCb w.params).tab L 188;have fin:∀ch,sY (a.getD []) ch→ch.pure=true→∀dl,B2 n (FCb L) (.builtin "len") dl→(∀σ,dl [vS a] σ=some (.int (a.getD []).length,σ))→
    SW 1 n (FCb L) ((cL (at_ [5,5])).drop 3) ⟨[(0,.inst 0),(1,vS a)],[(0,.attrs (jZ (aC "b2j") ch as))],1⟩ (ř (fun c r=>∃ch,sY (a.getD []) ch∧ch.pure=true∧c=.attrs (Nd as ch)∧r=.none)):=fun ch g m dl C hd=>by
   obtain ⟨σ',e,D⟩:=À (ch:=ch) y z d hd;refine jY (aHf G C 1 _ _ _ e) ?_;rintro _ _ ⟨rfl,rfl⟩;refine ⟨_,.attrs (Nd as ch),D,?_,uY b m,ch,g,m,rfl,rfl⟩;refine (?_:(Ci _ _).map gC.attrs=_);rw [A7 fun p s=>dF (uY b m p s)];rfl
  show SW 1 n (FCb L) ((cL (at_ [5,5])).getD 0 default::(cL (at_ [5,5])).getD 1 default::(cL (at_ [5,5])).getD 2 default::(cL (at_ [5,5])).drop 3) ⟨Bh 0 [.inst 0],[(0,.attrs as)],1⟩ _;refine iZ ((aOh G 1 _ .next ⟨[(0,.inst 0),(1,vS a)],[(0,.attrs as)],1⟩ (Ľ (oH (n:=0) (as:=as) rfl rfl A f) rfl)).mono ?_);rintro _ _ ⟨rfl,rfl⟩;refine iZ ((aOg G 1 _ .next ⟨[(0,.inst 0),(1,vS a),(2,.ref 1)],[(1,.dict [] []),(0,.attrs (jZ (aC "b2j") (.ref 1) as))],2⟩ (Ľ (v:=.ref 1) rfl rfl)).mono ?_);rintro _ _ ⟨rfl,rfl⟩
  cases a with
  |none=>refine iZ (Zo T.fk (G.e T.fk rfl rfl Fp (by kernel_rfl) (by decide)) ⟨rfl,trivial⟩ (dP T (aG (i:=1) rfl) (by decide)) rfl rfl (fun _=>rfl) (σ₁:=⟨[(0,.inst 0),(1,vS aF),(2,.ref 1)],[(1,.dict [] []),(0,.attrs (jZ (aC "b2j") (.ref 1) as))],2⟩) (by rfl) ?_);refine Ul (σ':=⟨[(0,.inst 0),(1,vS aF)],[(0,.attrs (jZ (aC "b2j") (.dct [] []) as))],1⟩) T.fk (Cp (xs:=[0,1]) ?_) (fin (.dct [] []) ⟨[],[],rfl,rfl,fun k=>rfl⟩ rfl ń Ø aCm);have F:Ci (rJ vP 1 [(1,.dict [] []),(0,.attrs (jZ (aC "b2j") (.ref 1) as))]) (jZ (aC "b2j") (.ref 1) as)=some (jZ (aC "b2j") (.dct [] []) as):=Ho rfl (A7 fun p s=>dF (b p (tG s).1));show frz 1 ⟨[(0,.inst 0),(1,vS aF)],[(1,.dict [] []),(0,.attrs (jZ (aC "b2j") (.ref 1) as))],2⟩=_;have H:tH 1 (rJ vP 1 [(1,.dict [] []),(0,.attrs (jZ (aC "b2j") (.ref 1) as))]) [(1,.dict [] []),(0,.attrs (jZ (aC "b2j") (.ref 1) as))]=some [(0,.attrs (jZ (aC "b2j") (.dct [] []) as))]:=mK (fF 1) (eH rR (ó F) rfl);exact qX rfl (qX H rfl)
  |some B=>
   refine iZ (Zn T.fk (G.e T.fk rfl rfl Fp (by kernel_rfl) (by decide)) ⟨rfl,trivial⟩ (dP T (aG (i:=1) rfl) (by decide)) rfl (gs:=[bY 3,bY 4]) (eA (rA T (aG (i:=3) rfl)) (eA (rA T (aG (i:=4) rfl)) mN rfl) rfl) rfl (fun _=>rfl)
    (l:=B.map V.int) (σ₁:=⟨[(0,.inst 0),(1,vS (some B)),(2,.ref 1)],[(1,.dict [] []),(0,.attrs (jZ (aC "b2j") (.ref 1) as))],2⟩) (by rfl) (kY B)
    (fun i σ=>∃ks ns,CbJ B (jZ (aC "b2j") (.ref 1) as) i σ ks ns) ⟨[],[],rfl,rfl,rfl,rfl,rfl,rfl,(fun _ _ h=>by cases h),by simp,by simp,fun k _=>rfl,bG _,bG _⟩ (fun i σ hi ⟨ks,ns,j⟩=>?_) (fun σ ⟨ks,ns,j⟩=>?_))
   ·have u:i<B.length:=by simpa using hi
    have t:B.length<200:=d;obtain ⟨σ',I,J,e,N⟩:=aCy u t j;have O:(B.map V.int).getD i .none=.int (B.getD i 0):=by simp [aT,u]
    refine ⟨{σ with loc:=lQ 4 (.int (B.getD i 0)) (lQ 3 (.int i) σ.loc)},by rw [O];rfl,?_⟩;refine jY (bI (dH (aBk I2 rfl N0 (Xg T.fk G.one) (dP T (aG (i:=2) rfl) (by decide)) (by exact ⟨rfl,rfl,trivial⟩) (hW (dP T (aG (i:=4) rfl) (by decide)) (hW (gH aO) aO rfl) rfl) rfl) (rA T (aG (i:=5) rfl)) rfl rfl rfl)
     (cM (eN rfl rfl (kJ cA rfl bQ (gR T.fk) (dP T (aG (i:=5) rfl) (by decide)) (by exact ⟨rfl,trivial⟩) (hW (dP T (aG (i:=3) rfl) (by decide)) aO rfl) rfl))) 1 _ _ _ e) ?_
    rintro _ _ ⟨rfl,rfl⟩;exact ⟨_,Wk.refl,I,J,N⟩
   ·have P:CbJ B (jZ (aC "b2j") (.ref 1) as) B.length σ ks ns:=by simpa using j
    obtain ⟨x,g,Q⟩:=aIc b P;exact Ul T.fk Q (fin (ŋ B x) g (Ŋ B x) F8 uC (Bf B d))
end
end
section
open MineH (at_ cL fr o174v0 o181v0)
section
variable{n:Nat}
def T2(aa:Option aW)(v0:V):Prop:=v0=.none∨((∃A,aa=some A)∧((∃B,v0=vL B)∨∃s,v0=.str s))
theorem T2.seq{b:Option aW}{a:V}(h:T2 b a):((∃A,vS b=vL A)∧(a=.none∨(∃B,a=vL B)∨∃s,a=.str s))∨((∃s,vS b=.str s)∧a=.none):=by
 rcases h with rfl|⟨⟨A,rfl⟩,h⟩
 ·cases b with
  |none=>exact .inr ⟨⟨_,rfl⟩,rfl⟩
  |some A=>exact .inl ⟨⟨A,rfl⟩,.inl rfl⟩
 ·exact .inl ⟨⟨A,rfl⟩,.inr h⟩
theorem T2.nf{b:Option aW}{a:V}(h:T2 b a):Jh a=true:=by rcases h with rfl|⟨_,⟨B,rfl⟩|⟨s,rfl⟩⟩<;>rfl
theorem wD:∀a,(vS a).pure=true
 |aF=>rfl
 |some A=>eK A
def Ou(as:lT)(aa:Option aW):lT:=jZ (aC "opcodes") V.none (jZ (aC "matching_blocks") V.none (jZ (aC "a") (vS aa) as))
theorem lK{s:jX}{v:V}{as:lT}(a:v.pure=true)(b:∀p∈as,p.2.pure=true):∀p∈jZ s v as,p.2.pure=true:=fun p h=>by
 rcases aU.mp h with rfl|h
 ·exact a
 ·exact b p (tG h).1
theorem uX{as:lT}(a:Option aW)(b:∀p∈as,p.2.pure=true):∀p∈Ou as a,p.2.pure=true:=lK rfl (lK rfl (lK (wD a) b))
theorem sU{k:Nat}{cs:List (Nat×gC)}{as:lT}(a:∀p∈as,p.2.pure=true):Jm (rJ vP k cs) (.attrs as)=some (.attrs as):=by refine (?_:(Ci _ as).map gC.attrs=_);rw [A7 fun p b=>dF (a p b)];rfl
theorem aNq(G:Gd)(as:lT)(a:Option aW)(e:V)(d:∀p∈as,p.2.pure=true)(g:oM as (aC "a")=some e)(f:T2 a e):
  tL (n+1) (.ref 174) (.attrs as) [vS a] (fun c r=>r=.none∧((e=vS a∧c=.attrs as)∨c=.attrs (Ou as a))):=by
 refine yJ (fd:=jS o174v0) (o:=o174v0) (tab:=aDu) (body:=cL (at_ [5,3])) (dS1 w.params) (G.K 174 _ (by kernel_rfl)) rfl G.lim (codeRec_of G.K (by kernel_rfl)) rfl (fun vs h=>?_) (by refine (?_:(2:Nat)≤2);decide) d (fun L=>?_) (by simp [dT,dQ,wD])
 ·revert vs;exact ll2 fun _ _=>by kernel_rfl
 ·have T:=(dS1 w.params).tab L 174;refine iZ ((eN rfl rfl jA 1 _ _ _ rfl).mono ?_);rintro _ _ ⟨rfl,rfl⟩;refine iZ (Zm (Ts rfl ((dP T (aG (i:=1) rfl) (by decide) _ _ _ rfl).mono ?_)));rintro _ _ ⟨rfl,rfl⟩;refine (lB G.K (smA w.params) (dP T (aG (i:=0) rfl) (by decide)) _ e ⟨Bh 0 [.inst 0,vS a],[(0,.attrs as)],1⟩ (oH (n:=0) (as:=as) rfl rfl g f.nf)).mono ?_;rintro _ _ ⟨rfl,rfl⟩;refine O2 f.seq fun b j=>⟨b,rfl,?_⟩;cases b
  ·simp only [mH,if_false];refine Cc ?_;refine jY (bI (dH (dP T (aG (i:=1) rfl) (by decide)) (lA G.K T.fk (saA w.params) (dP T (aG (i:=0) rfl) (by decide))) rfl rfl rfl) (cM (oZ pX (.cons (lA G.K T.fk (aJs w.params) (dP T (aG (i:=0) rfl) (by decide))) (.cons (lA G.K T.fk (aJr w.params) (dP T (aG (i:=0) rfl) (by decide))) .nil)) rfl rfl rfl)) 1 _ _ _ rfl) ?_;rintro _ _ ⟨rfl,rfl⟩;exact ⟨.attrs (Ou as a),.attrs (Ou as a),rfl,sU (uX a d),uX a d,rfl,.inr rfl⟩
  ·simp only [if_true];refine iZ (Ua ?_);exact ⟨.attrs as,.attrs as,.none,rfl,sU d,d,rfl,rfl,rfl,.inl ⟨(j rfl).symm,rfl⟩⟩
noncomputable def aDt:mE:=[aC "self",aC "b"]
theorem dS2(P:fV):lU (jS o181v0) aDt:=.of (by kernel_rfl)
theorem saB(P:fV):D4 (fr P) (aC "b"):=⟨by kernel_rfl,by kernel_rfl,by kernel_rfl,by kernel_rfl,by decide⟩
theorem aNd(P:fV):D4 (fr P) (aC "fullbcount"):=⟨by kernel_rfl,by kernel_rfl,by kernel_rfl,by kernel_rfl,by decide⟩
theorem Sq(G:Gd){name:jX}{f:cY}(a:plainGet (fr w.params) yA name=true)(b:findIn (fr w.params) (.ref yA) name=some (some (.ref f)))(c:typeIn (fr w.params) (.ref f)=some (.type "function"))(d:name∉sH){o:wJ}{fd:uN}(e:(fr w.params).lookup f=some o)(g:o.data=.func fd):Ix (fr w.params) name f:=
 ⟨a,b,c,d,o,fd,G.K f o e,g⟩
theorem aNp(G:Gd):Ix (fr w.params) (aC "_SequenceMatcher__chain_b") 188:=Sq G (by kernel_rfl) (by kernel_rfl) (by kernel_rfl) (by decide) (o:=MineH.o188v0) (by kernel_rfl) rfl
def Jg(as:lT)(bb:Option aW):lT:=jZ (aC "fullbcount") V.none (jZ (aC "opcodes") V.none (jZ (aC "matching_blocks") V.none (jZ (aC "b") (vS bb) as)))
theorem uW{as:lT}(a:Option aW)(b:∀p∈as,p.2.pure=true):∀p∈Jg as a,p.2.pure=true:=lK rfl (lK rfl (lK rfl (lK (wD a) b)))
theorem pW{s t:jX}(h:(s==t)=false):s≠t:=by simpa using h
theorem aKh(G:Gd)(as:lT)(a:Option aW)(e:V)(au:Bool)(d:∀p∈as,p.2.pure=true)(k:oM as (aC "b")=some e)(j:T2 a e)
  (l:oM as (aC "isjunk")=some .none) (m:oM as (aC "autojunk")=some (.bool au)) (s:(a.getD []).length<200):
  tL (n+2) (.ref 181) (.attrs as) [vS a] (fun c r=>r=.none∧((e=vS a∧c=.attrs as)∨∃ch,sY (a.getD []) ch∧ch.pure=true∧c=.attrs (Nd (Jg as a) ch))):=by
 refine yJ (fd:=jS o181v0) (o:=o181v0) (tab:=aDt) (body:=cL (at_ [5,4])) (dS2 w.params) (G.K 181 _ (by kernel_rfl)) rfl G.lim (codeRec_of G.K (by kernel_rfl)) rfl (fun vs h=>?_) (by refine (?_:(2:Nat)≤2);decide) d (fun L=>?_) (by simp [dT,dQ,wD])
 ·revert vs;exact ll2 fun _ _=>by kernel_rfl
 ·have T:=(dS2 w.params).tab L 181;refine iZ ((eN rfl rfl jA 1 _ _ _ rfl).mono ?_);rintro _ _ ⟨rfl,rfl⟩;refine iZ (Zm (Ts rfl ((dP T (aG (i:=1) rfl) (by decide) _ _ _ rfl).mono ?_)));rintro _ _ ⟨rfl,rfl⟩;refine (lB G.K (smB w.params) (dP T (aG (i:=0) rfl) (by decide)) _ e ⟨Bh 0 [.inst 0,vS a],[(0,.attrs as)],1⟩ (oH (n:=0) (as:=as) rfl rfl k j.nf)).mono ?_;rintro _ _ ⟨rfl,rfl⟩;refine O2 j.seq fun b t=>⟨b,rfl,?_⟩;cases b
  ·simp only [mH,if_false];refine Cc ?_;refine iZ ((dH (dP T (aG (i:=1) rfl) (by decide)) (lA G.K T.fk (saB w.params) (dP T (aG (i:=0) rfl) (by decide))) rfl rfl rfl 1 _ _ _ rfl).mono ?_);rintro _ _ ⟨rfl,rfl⟩;refine iZ ((oZ pX (.cons (lA G.K T.fk (aJs w.params) (dP T (aG (i:=0) rfl) (by decide))) (.cons (lA G.K T.fk (aJr w.params) (dP T (aG (i:=0) rfl) (by decide))) .nil)) rfl rfl rfl 1 _ _ _ rfl).mono ?_);rintro _ _ ⟨rfl,rfl⟩;refine iZ ((dH pX (lA G.K T.fk (aNd w.params) (dP T (aG (i:=0) rfl) (by decide))) rfl rfl rfl 1 _ _ _ rfl).mono ?_);rintro _ _ ⟨rfl,rfl⟩;have u:oM (Jg as a) (aC "b")=some (vS a):=by simp only [Jg,mL];rw [if_neg (pW (by decide)),if_neg (pW (by decide)),if_neg (pW (by decide)),if_pos trivial]
   have f:oM (Jg as a) (aC "isjunk")=some .none:=by simp only [Jg,mL];rw [if_neg (pW (by decide)),if_neg (pW (by decide)),if_neg (pW (by decide)),if_neg (pW (by decide))];exact l
   have v:oM (Jg as a) (aC "autojunk")=some (.bool au):=by simp only [Jg,mL];rw [if_neg (pW (by decide)),if_neg (pW (by decide)),if_neg (pW (by decide)),if_neg (pW (by decide))];exact m
   refine iZ (C3 rfl rfl (xQ G.K (aNp G) rfl (by exact trivial) ((dP T (aG (i:=0) rfl) (by decide) _ _ _ rfl).mono ?_)));rintro _ _ ⟨rfl,rfl⟩;refine ⟨0,.attrs (Jg as a),rfl,rfl,.inl ⟨_,rfl⟩,(aO _ _ _ rfl).mono ?_⟩;rintro _ _ ⟨rfl,rfl⟩;refine El T.fk (c0:=.attrs (Jg as a)) rfl (uW a d) rfl (mCb G (Jg as a) a au (uW a d) f v u s) ?_;rintro _ _ _ _ ⟨ch,x,g,rfl,rfl⟩;refine ⟨.inl rfl,Cc ?_⟩;exact ⟨.attrs (Nd (Jg as a) ch),.attrs (Nd (Jg as a) ch),rfl,sU (uY (uW a d) g),uY (uW a d) g,rfl,.inr ⟨ch,x,g,rfl⟩⟩
  ·simp only [if_true];refine iZ (Ua ?_);exact ⟨.attrs as,.attrs as,.none,rfl,sU d,d,rfl,rfl,rfl,.inl ⟨(t rfl).symm,rfl⟩⟩
end
end
section
open MineH (at_ cL fr Ew o167v0)
section
variable{n:Nat}
theorem Cj{as:lT}{ch:V}{s:jX}:oM (Nd as ch) s=if s=aC "bpopular" then some .set0 else if s=aC "bjunk" then some .set0 else if s=aC "b2j" then some ch else oM as s:=by simp only [Nd,mL]
theorem Ht{as:lT}{a:Option aW}{s:jX}:oM (Jg as a) s=if s=aC "fullbcount" then some .none else if s=aC "opcodes" then some .none else if s=aC "matching_blocks" then some .none else if s=aC "b" then some (vS a)else oM as s:=by simp only [Jg,mL]
theorem E1{as:lT}{a:Option aW}{s:jX}:oM (Ou as a) s=if s=aC "opcodes" then some .none else if s=aC "matching_blocks" then some .none else if s=aC "a" then some (vS a)else oM as s:=by simp only [Ou,mL]
theorem zW:∀{A B:aW},B.map V.int=A.map V.int→B=A:=by
 intro c
 induction c with
 |nil=>
  intro d
  cases d with
  |nil=>intro _;exact rfl
  |cons b B=>intro h;cases h
 |cons a A e=>
  intro f
  cases f with
  |nil=>intro h;cases h
  |cons b B=>intro h;simp only [cS,iR,V.int.injEq]at h;simp only [h.1,e h.2]
theorem aF2{m:Option aW}{B:aW}(h:vS m=vL B):m=some B:=by
 cases m with
 |none=>cases h
 |some A=>simp only [vS,vL,V.lst.injEq]at h;rw [zW h]
theorem aA9(m:Option aW)(B:aW):T2 (some B) (vS m):=by
 cases m with
 |none=>exact .inr ⟨⟨_,rfl⟩,.inr ⟨_,rfl⟩⟩
 |some A=>exact .inr ⟨⟨_,rfl⟩,.inl ⟨_,rfl⟩⟩
theorem fZ{c:Type}{s t:jX}{a b:c}(h:(s==t)=false):(if s=t then a else b)=b:=if_neg (pW h)
theorem Pd{m:Iy}{as:lT}{ch:V}{c:Option aW}(e:∀p∈as,p.2.pure=true)(f:oM as (aC "isjunk")=some .none)(g:oM as (aC "a")=some (vS m.a))(d:oM as (aC "autojunk")=some (.bool m.auto))(h:sY (c.getD []) ch)(i:ch.pure=true):B3 {m with b:=c} (Nd (Jg as c) ch)where
 pure:=uY (uW _ e) i
 junk:=by rw [Cj,fZ (by decide),fZ (by decide),fZ (by decide),Ht,fZ (by decide),fZ (by decide),fZ (by decide),fZ (by decide)];exact f
 a:=by rw [Cj,fZ (by decide),fZ (by decide),fZ (by decide),Ht,fZ (by decide),fZ (by decide),fZ (by decide),fZ (by decide)];exact g
 b:=by rfl
 auto:=by rw [Cj,fZ (by decide),fZ (by decide),fZ (by decide),Ht,fZ (by decide),fZ (by decide),fZ (by decide),fZ (by decide)];exact d
 bjunk:=by rw [Cj,fZ (by decide),if_pos rfl]
 b2j:=⟨ch,by rw [Cj,fZ (by decide),fZ (by decide),if_pos rfl],h⟩
 mb:=.inl (by rw [Cj,fZ (by decide),fZ (by decide),fZ (by decide),Ht,fZ (by decide),fZ (by decide),if_pos rfl])
 oc:=.inl (by rw [Cj,fZ (by decide),fZ (by decide),fZ (by decide),Ht,fZ (by decide),if_pos rfl])
theorem mS2(G:Gd)(m:Iy)(B:aW)(f:B.length<200):tL (n+2) (.ref 181) (.mat m) [vL B] (fun c r=>c=.mat {m with b:=some B}∧r=.none):=by
 refine O8 fun as a=>?_;have:=aKh (n:=n) G as (some B) (vS m.b) m.auto a.pure a.b (aA9 _ _) a.junk a.auto f;refine fun A Y h tk x c vs a1 g i j k l o s t=>bN (this A Y h tk x c vs a1 g i j k l o s t) (fun v s' p=>?_) fun _ _ z=>z;obtain ⟨h',u,c1,r,e,y,C,D,F,H,I,rfl,p⟩:=p;refine ⟨h',u,c1,.none,e,y,C,D,F,H,I,?_⟩;rcases p with ⟨q,rfl⟩|⟨ch,J,L,rfl⟩
 ·have d:m.b=some B:=aF2 q;have:({m with b:=some B}:Iy)=m:=by cases m;simp at d;simp [d]
  exact ⟨as,rfl,by rw [this];exact a,rfl⟩
 ·exact ⟨_,rfl,Pd a.pure a.junk a.a a.auto J L,rfl⟩
noncomputable def aDs:mE:=[aC "self",aC "a",aC "b"]
theorem dSs(P:fV):lU (jS o167v0) aDs:=.of (by kernel_rfl)
theorem aNo(G:Gd):Ix (fr w.params) (aC "set_seq1") 174:=Sq G (by kernel_rfl) (by kernel_rfl) (by kernel_rfl) (by decide) (o:=MineH.o174v0) (by kernel_rfl) rfl
theorem aGv(G:Gd):Ix (fr w.params) (aC "set_seq2") 181:=Sq G (by kernel_rfl) (by kernel_rfl) (by kernel_rfl) (by decide) (o:=MineH.o181v0) (by kernel_rfl) rfl
theorem aNn(G:Gd):Ix (fr w.params) (aC "set_seqs") 167:=Sq G (by kernel_rfl) (by kernel_rfl) (by kernel_rfl) (by decide) (o:=MineH.o167v0) (by kernel_rfl) rfl
theorem aDr(a:Option aW):V.none≠vS a:=fun e=>by cases a<;>cases e
theorem mSs(G:Gd)(as:lT)(a b:Option aW)(au:Bool)(d:∀p∈as,p.2.pure=true)(e:oM as (aC "a")=some .none)(j:oM as (aC "b")=some .none)
  (k:oM as (aC "isjunk")=some .none) (l:oM as (aC "autojunk")=some (.bool au)) (m:(b.getD []).length<200):
  tL (n+3) (.ref 167) (.attrs as) [vS a,vS b] (fun c r=>r=.none∧∃ch,sY (b.getD []) ch∧ch.pure=true∧c=.attrs (Nd (Jg (Ou as a) b) ch)):=by
 refine yJ (fd:=jS o167v0) (o:=o167v0) (tab:=aDs) (body:=cL (at_ [5,2])) (dSs w.params) (G.K 167 _ (by kernel_rfl)) rfl G.lim (codeRec_of G.K (by kernel_rfl)) rfl (fun vs h=>?_) (by refine (?_:(3:Nat)≤3);decide) d (fun L=>?_) (by simp [dT,dQ,wD])
 ·revert vs;exact ll3 fun _ _ _=>by kernel_rfl
 ·have T:=(dSs w.params).tab L 167;refine iZ ((eN rfl rfl jA 1 _ _ _ rfl).mono ?_);rintro _ _ ⟨rfl,rfl⟩;refine iZ (C3 rfl rfl (xQ G.K (aNo G) rfl (by exact ⟨rfl,trivial⟩) ((dP T (aG (i:=0) rfl) (by decide) _ _ _ rfl).mono ?_)));rintro _ _ ⟨rfl,rfl⟩;refine ⟨0,.attrs as,rfl,rfl,.inl ⟨_,rfl⟩,((hW (dP T (aG (i:=1) rfl) (by decide)) aO rfl) _ _ _ rfl).mono ?_⟩;rintro _ _ ⟨rfl,rfl⟩;refine El T.fk (c0:=.attrs as) rfl d (by simp [dT,dQ,wD]) (aNq (n:=n+1) G as a .none d e (.inl rfl)) ?_;rintro _ _ _ _ ⟨rfl,⟨q,_⟩|rfl⟩
  ·exact absurd q (aDr _)
  refine ⟨.inl rfl,?_⟩;refine iZ (C3 rfl rfl (xQ G.K (aGv G) rfl (by exact ⟨rfl,trivial⟩) ((dP T (aG (i:=0) rfl) (by decide) _ _ _ rfl).mono ?_)));rintro _ _ ⟨rfl,rfl⟩;refine ⟨0,.attrs (Ou as a),rfl,rfl,.inl ⟨_,rfl⟩,((hW (dP T (aG (i:=2) rfl) (by decide)) aO rfl) _ _ _ rfl).mono ?_⟩;rintro _ _ ⟨rfl,rfl⟩;refine El T.fk (c0:=.attrs (Ou as a)) rfl (uX a d) (by simp [dT,dQ,wD]) (aKh (n:=n) G (Ou as a) b .none au (uX a d) (by rw [E1,fZ (by decide),fZ (by decide),fZ (by decide)];exact j:oM (Ou as a) (aC "b")=some .none) (.inl rfl) (by rw [E1,fZ (by decide),fZ (by decide),fZ (by decide)];exact k:oM (Ou as a) (aC "isjunk")=some .none) (by rw [E1,fZ (by decide),fZ (by decide),fZ (by decide)];exact l:oM (Ou as a) (aC "autojunk")=some (.bool au)) m) ?_;rintro _ _ _ _ ⟨rfl,⟨q,_⟩|⟨ch,s,f,rfl⟩⟩
  ·exact absurd q (aDr _)
  refine ⟨.inl rfl,Cc ?_⟩;have g:=uY (uW b (uX a d)) f;exact ⟨.attrs (Nd (Jg (Ou as a) b) ch),.attrs (Nd (Jg (Ou as a) b) ch),rfl,sU g,g,rfl,ch,s,f,rfl⟩
noncomputable def Á:mE:=[aC "self",aC "isjunk",aC "a",aC "b",aC "autojunk"]
theorem dIn(P:fV):lU (jS Ew) Á:=.of (by kernel_rfl)
theorem saJ(P:fV):D4 (fr P) (aC "isjunk"):=⟨by kernel_rfl,by kernel_rfl,by kernel_rfl,by kernel_rfl,by decide⟩
theorem aNg(P:fV):D4 (fr P) (aC "autojunk"):=⟨by kernel_rfl,by kernel_rfl,by kernel_rfl,by kernel_rfl,by decide⟩
def Pl(au:Bool):lT:=jZ (aC "autojunk") (.bool au) (jZ (aC "b") .none (jZ (aC "a") .none (jZ (aC "isjunk") .none [])))
theorem mIn(G:Gd)(a d:Option aW)(au:Bool)(s:(d.getD []).length<200){ds dds:cG}{dvs:gI}(e:ds++dds=[.none,vS a,vS d,.bool au])(f:eB ds=true)(t:∀D Y h,bS D Y h dds dvs)
  (u:∀K vs,vs.length=ds.length+1→peek (fr w.params) K (bindArgs (jS Ew) ⟨vs,[]⟩)=some (Á.zip (vs++dvs))):
  Ys (n+4) (.ref 160) (.attrs []) ds (fun c r=>r=.none∧∃as,c=.attrs as∧B3 ⟨a,d,au⟩ as):=by
 refine L7 (fd:=jS Ew) (o:=Ew) (tab:=Á) (body:=cL (at_ [5,1])) (dIn w.params) (G.K 160 _ (by kernel_rfl)) rfl G.lim (codeRec_of G.K (by kernel_rfl)) rfl t (fun h tk vs v x=>?_) (by rw [e];refine (?_:(5:Nat)≤5);decide) (fun p b=>by cases b) (fun L=>?_) f
 ·refine kp_binds (G.K.keeps v) fun K=>?_;rw [u K vs x,e];rfl
 ·rw [e];have T:=(dIn w.params).tab L 160;refine iZ ((eN rfl rfl jA 1 _ _ _ rfl).mono ?_);rintro _ _ ⟨rfl,rfl⟩;refine iZ ((dH (dP T (aG (i:=1) rfl) (by decide)) (lA G.K T.fk (saJ w.params) (dP T (aG (i:=0) rfl) (by decide))) rfl rfl rfl 1 _ _ _ rfl).mono ?_);rintro _ _ ⟨rfl,rfl⟩;refine iZ ((oZ pX (.cons (lA G.K T.fk (saA w.params) (dP T (aG (i:=0) rfl) (by decide))) (.cons (lA G.K T.fk (saB w.params) (dP T (aG (i:=0) rfl) (by decide))) .nil)) rfl rfl rfl 1 _ _ _ rfl).mono ?_);rintro _ _ ⟨rfl,rfl⟩;refine iZ ((dH (dP T (aG (i:=4) rfl) (by decide)) (lA G.K T.fk (aNg w.params) (dP T (aG (i:=0) rfl) (by decide))) rfl rfl rfl 1 _ _ _ rfl).mono ?_);rintro _ _ ⟨rfl,rfl⟩;have b:∀p∈Pl au,p.2.pure=true:=lK rfl (lK rfl (lK rfl (lK rfl fun p b=>by cases b)));refine iZ (C3 rfl rfl (xQ G.K (aNn G) rfl (by exact ⟨rfl,rfl,trivial⟩) ((dP T (aG (i:=0) rfl) (by decide) _ _ _ rfl).mono ?_)));rintro _ _ ⟨rfl,rfl⟩;refine ⟨0,.attrs (Pl au),rfl,rfl,.inl ⟨_,rfl⟩,((hW (dP T (aG (i:=2) rfl) (by decide)) (hW (dP T (aG (i:=3) rfl) (by decide)) aO rfl) rfl) _ _ _ rfl).mono ?_⟩;rintro _ _ ⟨rfl,rfl⟩;have g:oM (Pl au) (aC "isjunk")=some .none:=by simp only [Pl,mL];rw [fZ (by decide),fZ (by decide),fZ (by decide),if_pos trivial]
  have j:oM (Pl au) (aC "autojunk")=some (.bool au):=by simp only [Pl,mL];rw [if_pos trivial]
  refine El T.fk (c0:=.attrs (Pl au)) rfl b (by simp [dT,dQ,wD]) (mSs (n:=n) G (Pl au) a d au b (by simp only [Pl,mL];rw [fZ (by decide),fZ (by decide),if_pos trivial]:oM (Pl au) (aC "a")=some .none) (by simp only [Pl,mL];rw [fZ (by decide),if_pos trivial]:oM (Pl au) (aC "b")=some .none) g j s) ?_;rintro _ _ _ _ ⟨rfl,ch,y,k,rfl⟩;refine ⟨.inl rfl,Cc ?_⟩;have l:=uY (uW d (uX a b)) k;refine ⟨.attrs (Nd (Jg (Ou (Pl au) a) d) ch),.attrs (Nd (Jg (Ou (Pl au) a) d) ch),rfl,sU l,l,rfl,_,rfl,?_⟩;refine Pd (m:=⟨a,aF,au⟩) (uX a b) ?_ ?_ ?_ y k
  ·rw [E1,fZ (by decide),fZ (by decide),fZ (by decide)];exact g
  ·rw [E1,fZ (by decide),fZ (by decide),if_pos rfl]
  ·rw [E1,fZ (by decide),fZ (by decide),fZ (by decide)];exact j
end
end
section
open MineH (at_ cL fr)
theorem aJp(P:fV):Gb (fr P) (aC "a"):=⟨by kernel_rfl,by kernel_rfl,_,(by kernel_rfl:findIn (fr P) (.ref yA) (aC "a")=some aF),by kernel_rfl⟩
theorem aJo(P:fV):Gb (fr P) (aC "b"):=⟨by kernel_rfl,by kernel_rfl,_,(by kernel_rfl:findIn (fr P) (.ref yA) (aC "b")=some aF),by kernel_rfl⟩
theorem qJ(P:fV):Gb (fr P) (aC "matching_blocks"):=⟨by kernel_rfl,by kernel_rfl,_,(by kernel_rfl:findIn (fr P) (.ref yA) (aC "matching_blocks")=some aF),by kernel_rfl⟩
theorem Ce(P:fV):D4 (fr P) (aC "matching_blocks"):=⟨by kernel_rfl,by kernel_rfl,by kernel_rfl,by kernel_rfl,by decide⟩
theorem Hc(P:fV):Gb (fr P) (aC "opcodes"):=⟨by kernel_rfl,by kernel_rfl,_,(by kernel_rfl:findIn (fr P) (.ref yA) (aC "opcodes")=some aF),by kernel_rfl⟩
theorem Sf(P:fV):D4 (fr P) (aC "opcodes"):=⟨by kernel_rfl,by kernel_rfl,by kernel_rfl,by kernel_rfl,by decide⟩
theorem aGb(P:fV):Gb (fr P) (aC "b2j"):=⟨by kernel_rfl,by kernel_rfl,_,(by kernel_rfl:findIn (fr P) (.ref yA) (aC "b2j")=some aF),by kernel_rfl⟩
theorem Æ(P:fV):Gb (fr P) (aC "bjunk"):=⟨by kernel_rfl,by kernel_rfl,_,(by kernel_rfl:findIn (fr P) (.ref yA) (aC "bjunk")=some aF),by kernel_rfl⟩
section
theorem aKf(G:Gd):Ix (fr w.params) (aC "find_longest_match") 196:=Sq G (by kernel_rfl) (by kernel_rfl) (by kernel_rfl) (by decide) (o:=MineH.o196v0) (by kernel_rfl) rfl
theorem aKe(G:Gd):Ix (fr w.params) (aC "get_matching_blocks") 203:=Sq G (by kernel_rfl) (by kernel_rfl) (by kernel_rfl) (by decide) (o:=MineH.o203v0) (by kernel_rfl) rfl
theorem aD3(G:Gd):Ix (fr w.params) (aC "get_opcodes") 210:=Sq G (by kernel_rfl) (by kernel_rfl) (by kernel_rfl) (by decide) (o:=MineH.o210v0) (by kernel_rfl) rfl
end
end
section
open MineH (at_ cL fr)
noncomputable def Sb:mE:=[aC "self",aC "alo",aC "ahi",aC "blo",aC "bhi",aC "a",aC "b",aC "b2j",aC "isbjunk",aC "besti",aC "bestj",aC "bestsize",aC "j2len",aC "nothing",aC "i",aC "j2lenget",aC "newj2len",aC "j",aC "k"]
theorem aMf(P:fV):lU (jS MineH.o196v0) Sb:=.of (by kernel_rfl)
def Ij:Nat→M Fl:=(dW (rP (dU (bH Bk (aJ 17) (aJ 3))) (lS .cont) (lS .next)) (qD [1,2,3,4,5,6,7,8,9,10,11,13,14,15,16,17] (dW (rP (dU (bH gGe (aJ 17) (aJ 4))) (lS .brk) (lS .next)) (qD [1,2,3,4,5,6,7,8,9,10,11,13,14,15,16,17] (dW (eS (bH fQ (wH (aJ 15) (aK (bH xO (aJ 17) (gK (.int 1))) (aK (gK (.int 0)) bJ))) (gK (.int 1))) (F5 [(bY 18),(ģ (aJ 16) (aJ 17))])) (rP (dU (bH Ħ (aJ 18) (aJ 11))) (eS (fY (aK (bH fQ (bH xO (aJ 14) (aJ 18)) (gK (.int 1))) (aK (bH fQ (bH xO (aJ 17) (aJ 18)) (gK (.int 1))) (aK (aJ 18) bJ)))) (Gu [bY 11,bY 10,bY 9])) (lS .next)))))))
def ĩ:Nat→M Fl:=(eS (aJ 16) (bY 12))
def Px:Nat→M Fl:=(dW (eS (gBm (aJ 12)) (bY 15)) (dW (eS aHp (bY 16)) (qD [1,2,3,4,5,6,7,8,9,10,11,13,14,15,16] (dW (Dy [1,2,3,4,5,6,7,8,9,10,11,13,14,15,16] (hF (gDM Ym (aJ 7) (aK (bH hO (aJ 5) (aJ 14)) (aK (aJ 13) bJ)))) (bY 17) (Ij)) (qD [1,2,3,4,5,6,7,8,9,10,11,13,16] (ĩ))))))
def ĭ:Nat→M Fl:=(eS (fY (aK (bH xO (aJ 9) (gK (.int 1))) (aK (bH xO (aJ 10) (gK (.int 1))) (aK (bH fQ (aJ 11) (gK (.int 1))) bJ)))) (Gu [bY 11,bY 10,bY 9]))
def Ĭ:Nat→M Fl:=(P1 11 Ku (gK (.int 1)))
def ī:Nat→M Fl:=(eS (fY (aK (bH xO (aJ 9) (gK (.int 1))) (aK (bH xO (aJ 10) (gK (.int 1))) (aK (bH fQ (aJ 11) (gK (.int 1))) bJ)))) (Gu [bY 11,bY 10,bY 9]))
def Ī:Nat→M Fl:=(eS (bH fQ (aJ 11) (gK (.int 1))) (bY 11))
def Pw:Nat→M Fl:=(wT (iO Ń (aK (aJ 9) (aK (aJ 10) (aK (aJ 11) bJ)))))
def Ie:Nat→M Fl:=(qD [2,4,5,6,8,9,10,11] (dW (qK [2,4,5,6,8,9,10,11] (kL (dU (bH Bk (bH fQ (aJ 9) (aJ 11)) (aJ 2))) (kL (dU (bH Bk (bH fQ (aJ 10) (aJ 11)) (aJ 4))) (kL (oB (wH (aJ 8) (aK (bH hO (aJ 6) (bH fQ (aJ 10) (aJ 11))) bJ))) (kL (dU (bH rM (bH hO (aJ 5) (bH fQ (aJ 9) (aJ 11))) (bH hO (aJ 6) (bH fQ (aJ 10) (aJ 11))))) (fun σ=>some (true,σ)))))) (Ī)) (qD [9,10,11] (Pw))))
def Ig:Nat→M Fl:=(qD [1,2,3,4,5,6,8,9,10,11] (dW (qK [1,2,3,4,5,6,8,9,10,11] (kL (dU (bH Ħ (aJ 9) (aJ 1))) (kL (dU (bH Ħ (aJ 10) (aJ 3))) (kL (oB (wH (aJ 8) (aK (bH hO (aJ 6) (bH xO (aJ 10) (gK (.int 1)))) bJ))) (kL (dU (bH rM (bH hO (aJ 5) (bH xO (aJ 9) (gK (.int 1)))) (bH hO (aJ 6) (bH xO (aJ 10) (gK (.int 1)))))) (fun σ=>some (true,σ)))))) (ī)) (Ie)))
def Ih:Nat→M Fl:=(qD [1,2,3,4,5,6,8,9,10,11] (dW (qK [1,2,3,4,5,6,8,9,10,11] (kL (dU (bH Bk (bH fQ (aJ 9) (aJ 11)) (aJ 2))) (kL (dU (bH Bk (bH fQ (aJ 10) (aJ 11)) (aJ 4))) (kL (Tf (oB (wH (aJ 8) (aK (bH hO (aJ 6) (bH fQ (aJ 10) (aJ 11))) bJ)))) (kL (dU (bH rM (bH hO (aJ 5) (bH fQ (aJ 9) (aJ 11))) (bH hO (aJ 6) (bH fQ (aJ 10) (aJ 11))))) (fun σ=>some (true,σ)))))) (Ĭ)) (Ig)))
def Ii:Nat→M Fl:=(qD [1,2,3,4,5,6,8,9,10,11] (dW (qK [1,2,3,4,5,6,8,9,10,11] (kL (dU (bH Ħ (aJ 9) (aJ 1))) (kL (dU (bH Ħ (aJ 10) (aJ 3))) (kL (Tf (oB (wH (aJ 8) (aK (bH hO (aJ 6) (bH xO (aJ 10) (gK (.int 1)))) bJ)))) (kL (dU (bH rM (bH hO (aJ 5) (bH xO (aJ 9) (gK (.int 1)))) (bH hO (aJ 6) (bH xO (aJ 10) (gK (.int 1)))))) (fun σ=>some (true,σ)))))) (ĭ)) (Ih)))
def aB0:Nat→M Fl:=(dW (sE (gK (.str (MineH.fnDoc (at_ [5,6]))))) (dW (eS (fY (aK (rQ (aC "a") (aJ 0)) (aK (rQ (aC "b") (aJ 0)) (aK (rQ (aC "b2j") (aJ 0)) (aK (aHq (rQ (aC "bjunk") (aJ 0))) bJ))))) (Y8 [(bY 5),(bY 6),(bY 7),(bY 8)])) (dW (rP (dU (bH aHo (aJ 2) (gK .none))) (eS (iO F8 (aK (aJ 5) bJ)) (bY 2)) (lS .next)) (qD [1,2,3,4,5,6,7,8] (dW (rP (dU (bH aHo (aJ 4) (gK .none))) (eS (iO F8 (aK (aJ 6) bJ)) (bY 4)) (lS .next)) (qD [1,2,3,4,5,6,7,8] (dW (eS (fY (aK (aJ 1) (aK (aJ 3) (aK (gK (.int 0)) bJ)))) (Gu [bY 11,bY 10,bY 9])) (dW (eS (gK (.dct [] [])) (bY 12)) (dW (eS (gE bJ) (bY 13)) (qD [1,2,3,4,5,6,7,8,9,10,11,12,13] (dW (Dy [1,2,3,4,5,6,7,8,9,10,11,12,13] (yR (aK (aJ 1) (aK (aJ 2) bJ))) (bY 14) (Px)) (Ii))))))))))))
theorem aLx{n:Nat}{L:cY}(G:Gd):Fc (n+2) (wZ (jS MineH.o196v0) L 196 Sb) (cL (at_ [5,6])) (aB0):=by have T:=(aMf w.params).tab L 196;exact (bI (eN rfl rfl jA) (bI (dH (cR (ic (lB G.K (aJp w.params) (lc T 0)) (ic (lB G.K (aJo w.params) (lc T 0)) (ic (lB G.K (aGb w.params) (lc T 0)) (ic (aBl (lB G.K (Æ w.params) (lc T 0)) rfl) aO))))) (oF (eA (lg T 5) (eA (lg T 6) (eA (lg T 7) (ig (lg T 8) mN) rfl) rfl) rfl)) rfl rfl rfl) (bI (hV (cW Vu (lc T 2) pX rfl) (cM (dH (gD (G.e T.fk rfl rfl Bx (by kernel_rfl) (by decide)) (.inl ⟨_,rfl⟩) uC (by exact ⟨rfl,trivial⟩) (ic (lc T 5) aO) rfl) (lg T 2) rfl rfl rfl)) iG) (eZ T.fk (bI (hV (cW Vu (lc T 4) pX rfl) (cM (dH (gD (G.e T.fk rfl rfl Bx (by kernel_rfl) (by decide)) (.inl ⟨_,rfl⟩) uC (by exact ⟨rfl,trivial⟩) (ic (lc T 6) aO) rfl) (lg T 4) rfl rfl rfl)) iG) (eZ T.fk (bI (kZ (cR (ic (lc T 1) (ic (lc T 3) (ic bM aO)))) (eO T (aG (i:=11) rfl) (eO T (aG (i:=10) rfl) (eO T (aG (i:=9) rfl) mI))) rfl rfl) (bI (dH X0 (lg T 12) rfl rfl rfl) (bI (dH (dY aO) (lg T 13) rfl rfl rfl) (eZ T.fk (bI (sV T.fk (E2 (G.e T.fk rfl rfl Mp (by kernel_rfl) (by decide)) (by exact ⟨rfl,⟨rfl,trivial⟩⟩) (ic (lc T 1) (ic (lc T 2) aO)) rfl) (lg T 14) (bI (dH (aBm (lc T 12) rfl) (lg T 15) rfl rfl rfl) (bI (dH Kq (lg T 16) rfl rfl rfl) (eZ T.fk (bI (sV T.fk (mZ (aHh Re rfl N0 Û (lc T 7) (by exact ⟨rfl,⟨rfl,trivial⟩⟩) (ic (eT (eU fun _ _=>rfl) (lc T 5) (lc T 14)) (ic (lc T 13) aO)) rfl)) (lg T 17) (bI (hV (cW nU (lc T 17) (lc T 3) rfl) (cM Đ) iG) (eZ T.fk (bI (hV (cW Th (lc T 17) (lc T 4) rfl) (cM Xz) iG) (eZ T.fk (bI (oZ (cH eE (vD (lc T 15) (by exact ⟨rfl,⟨rfl,trivial⟩⟩) (ic (cH nS (lc T 17) bM) (ic bM aO)) rfl) bM) (.cons (lg T 18) (.cons (Ē T.fk (lc T 16) (lc T 17)) .nil)) rfl rfl rfl) (cM (hV (cW Co (lc T 18) (lc T 11) rfl) (cM (kZ (cR (ic (cH eE (cH nS (lc T 14) (lc T 18)) bM) (ic (cH eE (cH nS (lc T 17) (lc T 18)) bM) (ic (lc T 18) aO)))) (eO T (aG (i:=11) rfl) (eO T (aG (i:=10) rfl) (eO T (aG (i:=9) rfl) mI))) rfl rfl)) iG))))))) fun _=>rfl) (eZ T.fk (cM (dH (lc T 16) (lg T 12) rfl rfl rfl))))))) fun _=>rfl) (eZ T.fk (bI (sD T.fk (kK (fC (cW Co (lc T 9) (lc T 1) rfl) (fC (cW Co (lc T 10) (lc T 3) rfl) (fC (Mm (lE (vD (lc T 8) (by exact ⟨rfl,trivial⟩) (ic (eT (eU fun _ _=>rfl) (lc T 6) (cH nS (lc T 10) bM)) aO) rfl) rfl)) (fC (cW mC (eT (eU fun _ _=>rfl) (lc T 5) (cH nS (lc T 9) bM)) (eT (eU fun _ _=>rfl) (lc T 6) (cH nS (lc T 10) bM)) rfl) lR))))) (cM (kZ (cR (ic (cH nS (lc T 9) bM) (ic (cH nS (lc T 10) bM) (ic (cH eE (lc T 11) bM) aO)))) (eO T (aG (i:=11) rfl) (eO T (aG (i:=10) rfl) (eO T (aG (i:=9) rfl) mI))) rfl rfl))) (eZ T.fk (bI (sD T.fk (kK (fC (cW nU (cH eE (lc T 9) (lc T 11)) (lc T 2) rfl) (fC (cW nU (cH eE (lc T 10) (lc T 11)) (lc T 4) rfl) (fC (Mm (lE (vD (lc T 8) (by exact ⟨rfl,trivial⟩) (ic (eT (eU fun _ _=>rfl) (lc T 6) (cH eE (lc T 10) (lc T 11))) aO) rfl) rfl)) (fC (cW mC (eT (eU fun _ _=>rfl) (lc T 5) (cH eE (lc T 9) (lc T 11))) (eT (eU fun _ _=>rfl) (lc T 6) (cH eE (lc T 10) (lc T 11))) rfl) lR))))) (cM (Dl T (aG (i:=11) rfl) Dw bM))) (eZ T.fk (bI (sD T.fk (kK (fC (cW Co (lc T 9) (lc T 1) rfl) (fC (cW Co (lc T 10) (lc T 3) rfl) (fC (lE (vD (lc T 8) (by exact ⟨rfl,trivial⟩) (ic (eT (eU fun _ _=>rfl) (lc T 6) (cH nS (lc T 10) bM)) aO) rfl) rfl) (fC (cW mC (eT (eU fun _ _=>rfl) (lc T 5) (cH nS (lc T 9) bM)) (eT (eU fun _ _=>rfl) (lc T 6) (cH nS (lc T 10) bM)) rfl) lR))))) (cM (kZ (cR (ic (cH nS (lc T 9) bM) (ic (cH nS (lc T 10) bM) (ic (cH eE (lc T 11) bM) aO)))) (eO T (aG (i:=11) rfl) (eO T (aG (i:=10) rfl) (eO T (aG (i:=9) rfl) mI))) rfl rfl))) (eZ T.fk (bI (sD T.fk (kK (fC (cW nU (cH eE (lc T 9) (lc T 11)) (lc T 2) rfl) (fC (cW nU (cH eE (lc T 10) (lc T 11)) (lc T 4) rfl) (fC (lE (vD (lc T 8) (by exact ⟨rfl,trivial⟩) (ic (eT (eU fun _ _=>rfl) (lc T 6) (cH eE (lc T 10) (lc T 11))) aO) rfl) rfl) (fC (cW mC (eT (eU fun _ _=>rfl) (lc T 5) (cH eE (lc T 9) (lc T 11))) (eT (eU fun _ _=>rfl) (lc T 6) (cH eE (lc T 10) (lc T 11))) rfl) lR))))) (cM (dH (cH eE (lc T 11) bM) (lg T 11) rfl rfl rfl))) (eZ T.fk (cM (mY (Kr G.K (by kernel_rfl) (G.e T.fk rfl rfl Vs (by kernel_rfl) (by decide)) (Xe G.K (L8 w.params) fun a b c=>(aL4 G a b c).c) (by exact ⟨rfl,⟨rfl,⟨rfl,trivial⟩⟩⟩) (ic (lc T 9) (ic (lc T 10) (ic (lc T 11) aO))) rfl)))))))))))))))))))))))
end
section
open MineH (at_ cL fr)
noncomputable def Sa:mE:=[aC "self",aC "la",aC "lb",aC "queue",aC "matching_blocks",aC "alo",aC "ahi",aC "blo",aC "bhi",aC "i",aC "j",aC "k",aC "x",aC "i1",aC "j1",aC "k1",aC "non_adjacent",aC "i2",aC "j2",aC "k2"]
theorem aMe(P:fV):lU (jS MineH.o203v0) Sa:=.of (by kernel_rfl)
def Dx(ak:Cu):Nat→M Fl:=(dW (eS (uF aCj (aJ 3) bJ) (Y8 [(bY 5),(bY 6),(bY 7),(bY 8)])) (dW (eS (Y9 ak (aJ 0) (aK (aJ 5) (aK (aJ 6) (aK (aJ 7) (aK (aJ 8) bJ))))) (F5 [(X9 [(bY 9),(bY 10),(bY 11)]),(bY 12)])) (rP (oB (aJ 11)) (dW (sE (uF fD (aJ 4) (aK (aJ 12) bJ))) (dW (rP (kL (dU (bH Bk (aJ 5) (aJ 9))) (kL (dU (bH Bk (aJ 7) (aJ 10))) (fun σ=>some (true,σ)))) (sE (uF fD (aJ 3) (aK (fY (aK (aJ 5) (aK (aJ 9) (aK (aJ 7) (aK (aJ 10) bJ))))) bJ))) (lS .next)) (qD [0,1,2,3,4,6,8,9,10,11] (rP (kL (dU (bH Bk (bH fQ (aJ 9) (aJ 11)) (aJ 6))) (kL (dU (bH Bk (bH fQ (aJ 10) (aJ 11)) (aJ 8))) (fun σ=>some (true,σ)))) (sE (uF fD (aJ 3) (aK (fY (aK (bH fQ (aJ 9) (aJ 11)) (aK (aJ 6) (aK (bH fQ (aJ 10) (aJ 11)) (aK (aJ 8) bJ))))) bJ))) (lS .next))))) (lS .next))))
def Ic(ak:Cu):Nat→M Fl:=(rP (kL (dU (bH rM (bH fQ (aJ 13) (aJ 15)) (aJ 17))) (kL (dU (bH rM (bH fQ (aJ 14) (aJ 15)) (aJ 18))) (fun σ=>some (true,σ)))) (P1 15 Ku (aJ 19)) (dW (rP (oB (aJ 15)) (sE (uF fD (aJ 16) (aK (fY (aK (aJ 13) (aK (aJ 14) (aK (aJ 15) bJ)))) bJ))) (lS .next)) (qD [0,1,2,16,17,18,19] (eS (fY (aK (aJ 17) (aK (aJ 18) (aK (aJ 19) bJ)))) (Gu [bY 15,bY 14,bY 13])))))
def Pu(ak:Cu):Nat→M Fl:=(dW (rP (oB (aJ 15)) (sE (uF fD (aJ 16) (aK (fY (aK (aJ 13) (aK (aJ 14) (aK (aJ 15) bJ)))) bJ))) (lS .next)) (qD [0,1,2,16] (dW (sE (uF fD (aJ 16) (aK (fY (aK (aJ 1) (aK (aJ 2) (aK (gK (.int 0)) bJ)))) bJ))) (dW (eS (Ĥ (aJ 16)) (Dv (aC "matching_blocks") (aJ 0))) (wT (rQ (aC "matching_blocks") (aJ 0)))))))
def Pv(ak:Cu):Nat→M Fl:=(dW (sE (uF Ł (aJ 4) bJ)) (Yc (dW (eS (gK (.int 0)) (F5 [(bY 13),(bY 14),(bY 15)])) (dW (eS (lZ bJ) (bY 16)) (qD [0,1,2,4,13,14,15,16] (dW (Dy [0,1,2,13,14,15,16] (hF (aJ 4)) (X9 [(bY 17),(bY 18),(bY 19)]) (Ic ak)) (qD [0,1,2,13,14,15,16] (Pu ak))))))))
def Ĩ(ak:Cu):Nat→M Fl:=(dW (sE (gK (.str (MineH.fnDoc (at_ [5,7]))))) (dW (rP (dU (bH ĥ (rQ (aC "matching_blocks") (aJ 0)) (gK .none))) (wT (rQ (aC "matching_blocks") (aJ 0))) (lS .next)) (qD [0] (dW (eS (fY (aK (iO F8 (aK (rQ (aC "a") (aJ 0)) bJ)) (aK (iO F8 (aK (rQ (aC "b") (aJ 0)) bJ)) bJ))) (Gu [bY 2,bY 1])) (dW (eS (lZ (aK (fY (aK (gK (.int 0)) (aK (aJ 1) (aK (gK (.int 0)) (aK (aJ 2) bJ))))) bJ)) (bY 3)) (dW (eS (lZ bJ) (bY 4)) (qD [0,1,2,3,4] (dW (qK [0,1,2,3,4] (oB (aJ 3)) (Dx ak)) (qD [0,1,2,4] (Pv ak))))))))))
theorem aEz{n:Nat}{L:cY}(G:Gd){d:Cu}(e:∀c0 us c1 r,eB us=true→d c0 us=some (c1,r)→qW c0∧tL (n+2) (.ref 196) c0 us (fun c f=>c=c1∧f=r)):Fc (n+2) (wZ (jS MineH.o203v0) L 203 Sa) (cL (at_ [5,7])) (Ĩ d):=by have T:=(aMe w.params).tab L 203;exact (bI (eN rfl rfl jA) (bI (hV (cW Ps (lB G.K (qJ w.params) (lc T 0)) pX rfl) (cM (mY (lB G.K (qJ w.params) (lc T 0)))) iG) (eZ T.fk (bI (kZ (cR (ic (gD (G.e T.fk rfl rfl Bx (by kernel_rfl) (by decide)) (.inl ⟨_,rfl⟩) uC (by exact ⟨rfl,trivial⟩) (ic (lB G.K (aJp w.params) (lc T 0)) aO) rfl) (ic (gD (G.e T.fk rfl rfl Bx (by kernel_rfl) (by decide)) (.inl ⟨_,rfl⟩) uC (by exact ⟨rfl,trivial⟩) (ic (lB G.K (aJo w.params) (lc T 0)) aO) rfl) aO))) (eO T (aG (i:=2) rfl) (eO T (aG (i:=1) rfl) mI)) rfl rfl) (bI (dH (gH (ic (by refine cR ?_;exact (ic bM (ic (lc T 1) (ic bM (ic (lc T 2) aO))))) aO)) (lg T 3) rfl rfl rfl) (bI (dH (gH aO) (lg T 4) rfl rfl rfl) (eZ T.fk (bI (sD T.fk (lE (lc T 3) rfl) (bI (dH (kJ sZ rfl bQ (U0 T.fk) (lc T 3) (by exact trivial) aO rfl) (oF (eA (lg T 5) (eA (lg T 6) (eA (lg T 7) (ig (lg T 8) mN) rfl) rfl) rfl)) rfl rfl rfl) (bI (oZ (xL G.K T.fk (aKf G) e (lc T 0) (by exact ⟨rfl,⟨rfl,⟨rfl,⟨rfl,trivial⟩⟩⟩⟩) (ic (lc T 5) (ic (lc T 6) (ic (lc T 7) (ic (lc T 8) aO)))) rfl) (.cons (Cm G.K (L8 w.params) (eA (lg T 9) (eA (lg T 10) (ig (lg T 11) mN) rfl) rfl)) (.cons (lg T 12) .nil)) rfl rfl rfl) (cM (hV (lE (lc T 11) rfl) (bI (eN rfl rfl (kJ cA rfl bQ (gR T.fk) (lc T 4) (by exact ⟨rfl,trivial⟩) (ic (lc T 12) aO) rfl)) (bI (hV (kK (fC (cW nU (lc T 5) (lc T 9) rfl) (fC (cW nU (lc T 7) (lc T 10) rfl) lR))) (cM (eN rfl rfl (kJ cA rfl bQ (gR T.fk) (lc T 3) (by exact ⟨rfl,trivial⟩) (ic (by refine cR ?_;exact (ic (lc T 5) (ic (lc T 9) (ic (lc T 7) (ic (lc T 10) aO))))) aO) rfl))) iG) (eZ T.fk (cM (hV (kK (fC (cW nU (cH eE (lc T 9) (lc T 11)) (lc T 6) rfl) (fC (cW nU (cH eE (lc T 10) (lc T 11)) (lc T 8) rfl) lR))) (cM (eN rfl rfl (kJ cA rfl bQ (gR T.fk) (lc T 3) (by exact ⟨rfl,trivial⟩) (ic (by refine cR ?_;exact (ic (cH eE (lc T 9) (lc T 11)) (ic (lc T 6) (ic (cH eE (lc T 10) (lc T 11)) (ic (lc T 8) aO))))) aO) rfl))) iG))))) iG))))) (eZ T.fk (bI (eN rfl rfl (kJ PySem.F.slot_list_sort rfl bQ (Xf G.K (L8 w.params) T.fk) (lc T 4) (by exact trivial) aO rfl)) (Ml T.fk (bI (oZ bM (.cons (lg T 13) (.cons (lg T 14) (.cons (lg T 15) .nil))) rfl rfl rfl) (bI (dH (gH aO) (lg T 16) rfl rfl rfl) (eZ T.fk (bI (sV T.fk (mZ (lc T 4)) (Cm G.K (L8 w.params) (eA (lg T 17) (eA (lg T 18) (ig (lg T 19) mN) rfl) rfl)) (cM (hV (kK (fC (cW mC (cH eE (lc T 13) (lc T 15)) (lc T 17) rfl) (fC (cW mC (cH eE (lc T 14) (lc T 15)) (lc T 18) rfl) lR))) (cM (Dl T (aG (i:=15) rfl) Dw (lc T 19))) (bI (hV (lE (lc T 15) rfl) (cM (eN rfl rfl (kJ cA rfl bQ (gR T.fk) (lc T 16) (by exact ⟨rfl,trivial⟩) (ic (by refine cR ?_;exact (ic (lc T 13) (ic (lc T 14) (ic (lc T 15) aO)))) aO) rfl))) iG) (eZ T.fk (cM (kZ (cR (ic (lc T 17) (ic (lc T 18) (ic (lc T 19) aO)))) (eO T (aG (i:=15) rfl) (eO T (aG (i:=14) rfl) (eO T (aG (i:=13) rfl) mI))) rfl rfl)))))) fun _=>rfl) (eZ T.fk (bI (hV (lE (lc T 15) rfl) (cM (eN rfl rfl (kJ cA rfl bQ (gR T.fk) (lc T 16) (by exact ⟨rfl,trivial⟩) (ic (by refine cR ?_;exact (ic (lc T 13) (ic (lc T 14) (ic (lc T 15) aO)))) aO) rfl))) iG) (eZ T.fk (bI (eN rfl rfl (kJ cA rfl bQ (gR T.fk) (lc T 16) (by exact ⟨rfl,trivial⟩) (ic (by refine cR ?_;exact (ic (lc T 1) (ic (lc T 2) (ic bM aO)))) aO) rfl)) (bI (dH (aBj G.K (L8 w.params) T.fk (G.e T.fk rfl rfl Tc (by kernel_rfl) (by decide)) (G.e T.fk rfl rfl aL1 (by kernel_rfl) (by decide)) (G.e T.fk rfl rfl Vs (by kernel_rfl) (by decide)) (lc T 16) (fun a b c=>aHs G a b c) rfl rfl rfl rfl rfl) (lA G.K T.fk (Ce w.params) (lc T 0)) rfl rfl rfl) (cM (mY (lB G.K (qJ w.params) (lc T 0))))))))))))))))))))))))
end
section
open MineH (at_ cL fr)
noncomputable def R9:mE:=[aC "self",aC "i",aC "j",aC "answer",aC "ai",aC "bj",aC "size",aC "tag"]
theorem aMd(P:fV):lU (jS MineH.o210v0) R9:=.of (by kernel_rfl)
def Ib(ap:lT→Option (lT×V)):Nat→M Fl:=(dW (eS (gK (.str (aC ""))) (bY 7)) (dW (rP (kL (dU (bH Bk (aJ 1) (aJ 4))) (kL (dU (bH Bk (aJ 2) (aJ 5))) (fun σ=>some (true,σ)))) (eS (gK (.str (aC "replace"))) (bY 7)) (rP (dU (bH Bk (aJ 1) (aJ 4))) (eS (gK (.str (aC "delete"))) (bY 7)) (rP (dU (bH Bk (aJ 2) (aJ 5))) (eS (gK (.str (aC "insert"))) (bY 7)) (lS .next)))) (qD [1,2,3,4,5,6,7] (dW (rP (oB (aJ 7)) (sE (uF fD (aJ 3) (aK (fY (aK (aJ 7) (aK (aJ 1) (aK (aJ 4) (aK (aJ 2) (aK (aJ 5) bJ)))))) bJ))) (lS .next)) (qD [3,4,5,6] (dW (eS (fY (aK (bH fQ (aJ 4) (aJ 6)) (aK (bH fQ (aJ 5) (aJ 6)) bJ))) (Gu [bY 2,bY 1])) (rP (oB (aJ 6)) (sE (uF fD (aJ 3) (aK (fY (aK (gK (.str (aC "equal"))) (aK (aJ 4) (aK (aJ 1) (aK (aJ 5) (aK (aJ 2) bJ)))))) bJ))) (lS .next))))))))
def Pt(ap:lT→Option (lT×V)):Nat→M Fl:=(wT (aJ 3))
def ħ(ap:lT→Option (lT×V)):Nat→M Fl:=(dW (sE (gK (.str (MineH.fnDoc (at_ [5,8]))))) (dW (rP (dU (bH ĥ (rQ (aC "opcodes") (aJ 0)) (gK .none))) (wT (rQ (aC "opcodes") (aJ 0))) (lS .next)) (qD [0] (dW (eS (gK (.int 0)) (F5 [(bY 1),(bY 2)])) (dW (eS (lZ bJ) (F5 [(Dv (aC "opcodes") (aJ 0)),(bY 3)])) (qD [0,1,2,3] (dW (Dy [1,2,3] (hF (aBz (aC "opcodes") ap (aJ 0))) (X9 [(bY 4),(bY 5),(bY 6)]) (Ib ap)) (qD [3] (Pt ap)))))))))
theorem aEy{n:Nat}{L:cY}(G:Gd){d:lT→Option (lT×V)}(f:∀as e r,(∀p∈as,p.2.pure=true)→d as=some (e,r)→∀a,tL (n+2) (.ref 203) (.attrs ((aC "opcodes",.fn (.ref a))::as)) [] (fun c g=>(∃b,c=.attrs b∧(aC "opcodes",V.fn (.ref a))∈b∧∀p∈e,p∈b)∧g=r)):Fc (n+2) (wZ (jS MineH.o210v0) L 210 R9) (cL (at_ [5,8])) (ħ d):=by have T:=(aMd w.params).tab L 210;exact (bI (eN rfl rfl jA) (bI (hV (cW Ps (lB G.K (Hc w.params) (lc T 0)) pX rfl) (cM (mY (lB G.K (Hc w.params) (lc T 0)))) iG) (eZ T.fk (bI (oZ bM (.cons (lg T 1) (.cons (lg T 2) .nil)) rfl rfl rfl) (bI (oZ (gH aO) (.cons (lA G.K T.fk (Sf w.params) (lc T 0)) (.cons (lg T 3) .nil)) rfl rfl rfl) (eZ T.fk (bI (sV T.fk (mZ (S6 G.K T.fk (aKe G) f (lc T 0) rfl)) (Cm G.K (L8 w.params) (eA (lg T 4) (eA (lg T 5) (ig (lg T 6) mN) rfl) rfl)) (bI (dH jA (lg T 7) rfl rfl rfl) (bI (hV (kK (fC (cW nU (lc T 1) (lc T 4) rfl) (fC (cW nU (lc T 2) (lc T 5) rfl) lR))) (cM (dH jA (lg T 7) rfl rfl rfl)) (cM (hV (cW nU (lc T 1) (lc T 4) rfl) (cM (dH jA (lg T 7) rfl rfl rfl)) (cM (hV (cW nU (lc T 2) (lc T 5) rfl) (cM (dH jA (lg T 7) rfl rfl rfl)) iG))))) (eZ T.fk (bI (hV (lE (lc T 7) rfl) (cM (eN rfl rfl (kJ cA rfl bQ (gR T.fk) (lc T 3) (by exact ⟨rfl,trivial⟩) (ic (by refine cR ?_;exact (ic (lc T 7) (ic (lc T 1) (ic (lc T 4) (ic (lc T 2) (ic (lc T 5) aO)))))) aO) rfl))) iG) (eZ T.fk (bI (kZ (cR (ic (cH eE (lc T 4) (lc T 6)) (ic (cH eE (lc T 5) (lc T 6)) aO))) (eO T (aG (i:=2) rfl) (eO T (aG (i:=1) rfl) mI)) rfl rfl) (cM (hV (lE (lc T 6) rfl) (cM (eN rfl rfl (kJ cA rfl bQ (gR T.fk) (lc T 3) (by exact ⟨rfl,trivial⟩) (ic (by refine cR ?_;exact (ic jA (ic (lc T 4) (ic (lc T 1) (ic (lc T 5) (ic (lc T 2) aO)))))) aO) rfl))) iG)))))))) fun _=>rfl) (eZ T.fk (cM (mY (lc T 3)))))))))))
end
section
set_option backward.match.sparseCases false
noncomputable def LS(A B:aW)(alo blo:Nat):Nat→Nat→Nat
 |i+1,j+1=>if alo≤i∧blo≤j∧A.getD i 0=B.getD j 0 then LS A B alo blo i j+1 else 0
 |_,_=>0
theorem Fw{A B:aW}{alo blo:Nat}{i j}:LS A B alo blo (i+1) (j+1)=(if alo≤i∧blo≤j∧A.getD i 0=B.getD j 0 then LS A B alo blo i j+1 else 0):=rfl
theorem Fv{A B:aW}{alo blo:Nat}{j}:LS A B alo blo 0 j=0:=rfl
theorem Fu{A B:aW}{alo blo:Nat}{i}:LS A B alo blo (i+1) 0=0:=rfl
section
variable{A B:aW}{alo ahi blo bhi:Nat}
theorem Wp:∀(i j:Nat),LS A B alo blo i j≤i∧LS A B alo blo i j≤j∧(0<LS A B alo blo i j→alo+LS A B alo blo i j≤i∧blo+LS A B alo blo i j≤j):=by
 intro a
 induction a with
 |zero=>intro j;simp [Fw,Fv,Fu]
 |succ i b=>
  intro c
  cases c with
  |zero=>simp [Fw,Fv,Fu]
  |succ j=>
   obtain ⟨d,e,f⟩:=b j;simp only [Fw,Fv,Fu];split
   ·rename_i h;refine ⟨by exact bE ü d,by exact bE ü e,fun _=>?_⟩;by_cases h0:LS A B alo blo i j=0
    ·rw [h0];exact bE 0x988c58941c6841cc24a0e1420e6031972988918921024 h
    ·have:=f (by exact bE 0xe18a80674966001 h0);exact bE 0x7462c4a0e4420e11a50712107081892202348901005 this
   ·exact ⟨by exact bE 0x2314a0e0301,by exact bE 0x2314a0e0301,fun h=>absurd h (by exact bE 0x23174946300)⟩
theorem aMt:∀(i j t:Nat),t<LS A B alo blo i j→A.getD (i-LS A B alo blo i j+t) 0=B.getD (j-LS A B alo blo i j+t) 0:=by
 intro d
 induction d with
 |zero=>intro j;intro t;intro h;simp [Fw,Fv,Fu]at h
 |succ i e=>
  intro f
  cases f with
  |zero=>intro t;intro h;simp [Fw,Fv,Fu]at h
  |succ j=>
   intro t;intro h;have a:=Wp (A:=A) (B:=B) (alo:=alo) (blo:=blo) i j;simp only [Fw,Fv,Fu]at h⊢;split at h
   ·rename_i c;rw [if_pos c];by_cases b:t<LS A B alo blo i j
    ·have:=e j t b;rw [show i+1-(LS A B alo blo i j+1)+t=i-LS A B alo blo i j+t by exact bE aLk,show j+1-(LS A B alo blo i j+1)+t=j-LS A B alo blo i j+t by exact bE aLk];exact this
    ·rw [show i+1-(LS A B alo blo i j+1)+t=i by exact bE 0x24090241202150322a0c62b0a0a703a4a114ea41c453b18e62468114c90a044508c91892114cc838507006 a h b,show j+1-(LS A B alo blo i j+1)+t=j by exact bE 0x22088221102150322a0c62b0a0a703a4a114ea41c453b18e62428114c91a044508c90892314cc838507006 a h b];exact c.2.2
   ·exact bE 0x2863710546021 h
theorem aMu{i j:Nat}(hi:i≤ahi)(b:j≤bhi)(h:0<LS A B alo blo i j):Cr A B alo ahi blo bhi (i-LS A B alo blo i j) (j-LS A B alo blo i j) (LS A B alo blo i j):=by obtain ⟨c,d,a⟩:=Wp (A:=A) (B:=B) (alo:=alo) (blo:=blo) i j;have:=a h;exact ⟨by exact bE 0x883251862900dcc494c8111214086a1194234cc1005 h a,by exact bE aKr hi c,by exact bE 0x10864630c520299cc48502299244086a1194234cc1005 h a,by exact bE aKr b d,aMt i j⟩
theorem aIq:∀(k i j:Nat),Cr A B alo ahi blo bhi i j k→k≤LS A B alo blo (i+k) (j+k):=by
 intro a
 induction a with
 |zero=>intro i j h;exact bW _
 |succ k b=>intro i j h;have:=b i j ⟨h.a0,by have:=h.a1;exact bE aEh this,h.b0,by have:=h.b1;exact bE aEh this,fun t c=>h.eq t (by exact bE aAj c)⟩;show k+1≤LS A B alo blo (i+k+1) (j+k+1);simp only [Fw,Fv,Fu];rw [if_pos ⟨by have:=h.a0;exact bE 0x318a50208121003 this,by have:=h.b0;exact bE 0x318a50208121003 this,h.eq k (by exact bE þ)⟩];exact bE ü this
structure Bo(A B:aW)(alo ahi blo bhi:Nat)(Pr:Nat→Nat→Prop)(t:T3):Prop where
 zero:t.2.2=0→t=(alo,blo,0)
 cr:0<t.2.2→Cr A B alo ahi blo bhi t.1 t.2.1 t.2.2∧Pr (t.1+t.2.2-1) (t.2.1+t.2.2-1)
 max:∀i j k,0<k→Cr A B alo ahi blo bhi i j k→Pr (i+k-1) (j+k-1)→k≤t.2.2∧(k=t.2.2→Iz (t.1,t.2.1) (i,j))
theorem Bo.start{Pr:Nat→Nat→Prop}(h:∀i j,Pr i j→i<alo):Bo A B alo ahi blo bhi Pr (alo,blo,0):=
 ⟨fun _=>rfl,fun h=>absurd h (fF 0),fun i j k a c p=>by have:=h _ _ p;have:=c.a0;exact fJ (bE 0x8d718c9211a860508d331d01003 a ‹_› this)⟩
theorem Bo.ext{Pr Pr':Nat→Nat→Prop}{t:T3}(x:Bo A B alo ahi blo bhi Pr t)(b:∀i j,Pr i j→Pr' i j)(d:∀i j,alo≤i→i<ahi→blo≤j→j<bhi→A.getD i 0=B.getD j 0→Pr' i j→Pr i j):Bo A B alo ahi blo bhi Pr' t:=
 ⟨x.zero,fun h=>⟨(x.cr h).1,b _ _ (x.cr h).2⟩,fun i j k a c p=>x.max i j k a c (d _ _ (by have:=c.a0;exact bE aG7 a this) (by have:=c.a1;exact bE aG8 a this) (by have:=c.b0;exact bE aG7 a this) (by have:=c.b1;exact bE aG8 a this) (by have:=c.eq (k-1) (by exact bE 0x91462a0814134cc7001 a);rwa[show i+(k-1)=i+k-1 by exact bE aLj a,show j+(k-1)=j+k-1 by exact bE aLj a]at this) p)⟩
theorem Bo.best{Pr:Nat→Nat→Prop}{t:T3}(x:Bo A B alo ahi blo bhi Pr t)(h:∀i j,alo≤i→i<ahi→Pr i j):tV A B alo ahi blo bhi t:=
 ⟨x.zero,fun h=>(x.cr h).1,fun i j k a c=>x.max i j k a c (h _ _ (by have:=c.a0;exact bE aG7 a this) (by have:=c.a1;exact bE aG8 a this))⟩
theorem Um{a b c:Nat}(d:0<c)(h:a+c-1<b+c-1):a<b:=by
 cases c with
 |zero=>exact absurd d (fF 0)
 |succ c=>exact Nat.lt_of_add_lt_add_right h
theorem Ž{a b c:Nat}(d:0<c)(h:a+c-1=b+c-1):a=b:=by
 cases c with
 |zero=>exact absurd d (fF 0)
 |succ c=>exact Nat.add_right_cancel h
theorem Gh{i k n:Nat}(a:0<k)(h:i+k-1=n):i+k=n+1:=by
 cases k with
 |zero=>exact absurd a (fF 0)
 |succ k=>rw [←h];rfl
theorem Bo.step{Pr:Nat→Nat→Prop}{t:T3}{i j:Nat}(x:Bo A B alo ahi blo bhi Pr t)(v:∀i' d,Pr i' d→i'<i∨(i'=i∧d<j))(hi:i<ahi)(F:j<bhi)(g:0<LS A B alo blo (i+1) (j+1)):
  Bo A B alo ahi blo bhi (fun i' d=>Pr i' d∨(i'=i∧d=j)) (if t.2.2<LS A B alo blo (i+1) (j+1)then (i+1-LS A B alo blo (i+1) (j+1),j+1-LS A B alo blo (i+1) (j+1),LS A B alo blo (i+1) (j+1))else t):=by
 obtain ⟨o,r,_⟩:=Wp (A:=A) (B:=B) (alo:=alo) (blo:=blo) (i+1) (j+1);have cr:=aMu (A:=A) (B:=B) (alo:=alo) (blo:=blo) (ahi:=ahi) (bhi:=bhi) (aFi hi) (aFi F) g;have m:∀i' d k,0<k→Cr A B alo ahi blo bhi i' d k→(i'+k-1=i∧d+k-1=j)→k≤LS A B alo blo (i+1) (j+1):=fun i' d k f c ⟨G,H⟩=>by have:=aIq k i' d c;rwa[Gh f G,Gh f H]at this
 revert o r cr m g;generalize LS A B alo blo (i+1) (j+1)=l;intro g o r cr m;obtain ⟨a,s⟩:=dZ o;obtain ⟨b,u⟩:=dZ r;have y:i+1-l=a:=by rw [s,rS]
 have z:j+1-l=b:=by rw [u,rS]
 rw [y,z]at cr;rw [y,z];by_cases h:t.2.2<l
 ·rw [if_pos h];refine ⟨fun h0=>absurd h0 (jC g),fun _=>⟨cr,.inr ⟨?_,?_⟩⟩,fun i' d k f c p=>?_⟩
  ·show a+l-1=i;rw [tO,←s];rfl
  ·show b+l-1=j;rw [tO,←u];rfl
  ·rcases p with p|p
   ·have q:=eY (x.max i' d k f c p).1 h;exact ⟨lX q,fun e=>absurd e (fW q)⟩
   ·refine ⟨m i' d k f c p,fun e=>.inr ?_⟩;have C:=Gh f p.1;have D:=Gh f p.2;rw [s,show k=l from e,tO]at C;rw [u,show k=l from e,tO]at D;exact ⟨(Ŭ C).symm,qO (Ŭ D).symm⟩
 ·rw [if_neg h];refine ⟨x.zero,fun h0=>⟨(x.cr h0).1,.inl (x.cr h0).2⟩,fun i' d k f c p=>?_⟩;rcases p with p|p
  ·exact x.max i' d k f c p
  ·refine ⟨bR (m i' d k f c p) (dJ h),fun e=>?_⟩;have n:0<t.2.2:=e▸f;obtain ⟨c1,c2⟩:=x.cr n;rw [←p.1,←p.2,e]at v;rcases v _ _ c2 with q|⟨q,I⟩
   ·exact .inl (Um n q)
   ·exact .inr ⟨Ž n q,lX (Um n I)⟩
theorem xH{x:Int}:∀{l:aW}{s j:Nat},j∈iT x s l↔s≤j∧j<s+l.length∧l.getD (j-s) 0=x
 |[],s,j=>by simp [yM,yL];exact bE 0x1831739d2b88ca00521012
 |y::l,s,j=>by
  have d:=xH (x:=x) (l:=l) (s:=s+1) (j:=j);have f:(s+1≤j∧j<s+1+l.length∧l.getD (j-(s+1)) 0=x)↔s+1≤j∧j<s+(y::l).length∧(y::l).getD (j-s) 0=x:=by
   constructor
   ·rintro ⟨a,b,c⟩;refine ⟨a,by simp;exact bE 0xc62a420e208148120e1003 b,?_⟩;rw [show j-s=(j-(s+1))+1 by exact bE ln1 a];simpa using c
   ·rintro ⟨a,b,c⟩;refine ⟨a,by simp at b;exact bE 0xc62a409070814841c41003 b,?_⟩;rw [show j-s=(j-(s+1))+1 by exact bE ln1 a]at c;simpa using c
  simp only [yM,yL];split
  ·rename_i h;simp only [aU,d,f];constructor
   ·rintro (rfl|⟨a,b,c⟩)
    ·exact ⟨bG _,by simp,by simpa using h⟩
    ·exact ⟨by exact bE ln7 a,b,c⟩
   ·rintro ⟨a,b,c⟩;by_cases e:j=s
    ·exact .inl e
    ·exact .inr ⟨by exact bE aAu a e,b,c⟩
  ·rename_i h;rw [d,f];constructor
   ·rintro ⟨a,b,c⟩;exact ⟨by exact bE ln7 a,b,c⟩
   ·rintro ⟨a,b,c⟩;refine ⟨?_,b,c⟩;by_cases e:j=s
    ·subst e;exact absurd (by simpa using c) h
    ·exact bE aAu a e
theorem Pn{x:Int}:∀{l:aW}{s:Nat},(iT x s l).Pairwise (·<·):=by
 intro b
 induction b with
 |nil=>intro s;simp [yM,yL]
 |cons y l a=>
  intro s;simp only [yM,yL];split
  ·refine eM.mpr ⟨fun j c=>?_,a⟩;have:=(xH.mp c).1;exact bE 0x318a82048507002 this
  ·exact a
theorem H7{x:Int}{l:aW}{s p j:Nat}(h:(iT x s l)[p]?=some j):(∀a∈(iT x s l).take p,a<j)∧(∀a∈(iT x s l).drop p,j≤a)∧(iT x s l).take (p+1)=(iT x s l).take p++[j]:=by
 have c:=Pn (x:=x) (l:=l) (s:=s);obtain ⟨f,e⟩:=cU.mp h;have hd:(iT x s l).drop p=j::(iT x s l).drop (p+1):=by rw [iL f,e]
 rw [←B7 p (iT x s l),jG]at c;obtain ⟨i,d,g⟩:=c;refine ⟨fun a b=>g a b j (by rw [hd];exact aR),fun a b=>?_,by rw [aI6,h];rfl⟩;rw [hd]at d b;rcases aU.mp b with rfl|b
 ·exact bG _
 ·exact lX ((eM.mp d).1 a b)
end
end
structure T5(A B:aW)(as:lT):Prop where
 pure:∀p∈as,p.2.pure=true
 a:oM as (aC "a")=some (vL A)
 b:oM as (aC "b")=some (vL B)
 bjunk:oM as (aC "bjunk")=some .set0
 b2j:∃c,oM as (aC "b2j")=some c∧sY B c
theorem aGg{a b i:Nat}{v:V}(h:(Ke a b)[i]?=some v):i<b-a∧v=vN (a+i):=by
 unfold Ke at h;have c:(((b:Int)-(a:Int)).toNat)=b-a:=by simp
 rw [c]at h;by_cases hi:i<b-a
 ·simp [hi]at h;exact ⟨hi,by rw [←h];simp [vN]⟩
 ·simp [hi]at h
theorem Ω(a b:Nat):(Ke a b).length=b-a:=by unfold Ke;rw [bF,gY];exact bE 0x220c8c3900caa318ac01998419ecc67d435002
theorem Mv(a b:Int)(σ:St):rM (.int a) (.int b) σ=some (.bool (decide (a=b)),σ):=by refine (?_:some (V.bool (a==b),σ)=_);rfl
section
variable{A B:aW}{alo ahi blo bhi:Nat}{as:lT}{ch:V}
def sO(A B:aW)(alo ahi blo bhi:Nat)(as:lT)(ch:V)(t:T3)(ks:aW)(es:nM):St:=
 ⟨[(1,vN alo),(2,vN ahi),(3,vN blo),(4,vN bhi),(5,vL A),(6,vL B),(7,ch),(8,.bm "set.__contains__" .set0),(9,vN t.1),(10,vN t.2.1),(11,vN t.2.2),(12,.dct ks (es.map vN)),(13,.lst [])],[(0,.attrs as)],1⟩
def sI(A B:aW)(alo ahi blo bhi:Nat)(as:lT)(ch:V)(t:T3)(i:Nat)(ks:aW)(es:nM)(fq:aW)(fw:nM):St:=
 ⟨[(1,vN alo),(2,vN ahi),(3,vN blo),(4,vN bhi),(5,vL A),(6,vL B),(7,ch),(8,.bm "set.__contains__" .set0),(9,vN t.1),(10,vN t.2.1),(11,vN t.2.2),(13,.lst []),(14,vN i),(15,.bm "dict.get" (.dct ks (es.map vN))),(16,.ref 1)],[(1,.dict fq (fw.map vN)),(0,.attrs as)],2⟩
def sW(A B:aW)(alo ahi blo bhi:Nat)(as:lT)(t:T3):St:=
 ⟨[(1,vN alo),(2,vN ahi),(3,vN blo),(4,vN bhi),(5,vL A),(6,vL B),(8,.bm "set.__contains__" .set0),(9,vN t.1),(10,vN t.2.1),(11,vN t.2.2)],[(0,.attrs as)],1⟩
def PM(A B:aW)(alo blo bhi i:Nat)(ks:aW)(es:nM):Prop:=ks.length≤B.length∧∀j:Nat,j≤bhi→((ks.zip (es.map vN)).lookup ((j:Int)-1)).getD (.int 0)=vN (LS A B alo blo i j)
def NM(A B:aW)(alo blo bhi i p:Nat)(ks:aW)(es:nM):Prop:=ks.length≤p∧∀j:Nat,j≤bhi→((ks.zip (es.map vN)).lookup ((j:Int)-1)).getD (.int 0)=vN (if 1≤j∧j-1∈(iT (A.getD i 0) 0 B).take p then LS A B alo blo (i+1) j else 0)
theorem Nn{i j:Nat}(h:¬(alo≤i∧blo≤j∧A.getD i 0=B.getD j 0)):LS A B alo blo (i+1) (j+1)=0:=by simp only [Fw,Fv,Fu];rw [if_neg h]
theorem NM.pm{i p:Nat}{ks:aW}{es:nM}(c:bhi≤B.length)(h:NM A B alo blo bhi i p ks es)(d:p≤B.length)(f:∀j,j+1≤bhi→j∈iT (A.getD i 0) 0 B→j∈(iT (A.getD i 0) 0 B).take p):PM A B alo blo bhi (i+1) ks es:=by
 refine ⟨bR h.1 d,fun j a=>?_⟩;simp only [h.2 j a]
 cases j with
 |zero=>rfl
 |succ j=>
  by_cases b:j∈(iT (A.getD i 0) 0 B).take p
  ·rw [if_pos ⟨by exact bE ÿ,b⟩]
  ·rw [if_neg (fun z=>b z.2),Nn];rintro ⟨_,_,e⟩;exact b (f j a (xH.mpr ⟨bW _,by exact bE 0xe31520261240838921003 c a,by simpa using e.symm⟩))
theorem NM.skip{i p j:Nat}{ks:aW}{es:nM}(h:NM A B alo blo bhi i p ks es)(d:(iT (A.getD i 0) 0 B)[p]?=some j)(f:j<blo):NM A B alo blo bhi i (p+1) ks es:=by
 refine ⟨by have:=h.1;exact bE Xp this,fun c g=>?_⟩;simp only [h.2 c g,(H7 d).2.2];by_cases e:1≤c∧c-1=j
 ·have:LS A B alo blo (i+1) c=0:=by obtain ⟨q,rfl⟩:∃q,c=q+1:=⟨c-1,by exact bE 0x912109118ad070058b101213ccc7002 e⟩;refine Nn ?_;rintro ⟨_,b,_⟩;exact bE 0x2014c6324846c5880941c2750c5331d07003 f e b
  rw [this];simp
 ·have:(1≤c∧c-1∈T8 p (iT (A.getD i 0) 0 B)++[j])↔(1≤c∧c-1∈T8 p (iT (A.getD i 0) 0 B)):=by
   simp only [dC,aM];constructor
   ·rintro ⟨a,b|b⟩
    ·exact ⟨a,b⟩
    ·exact absurd ⟨a,b⟩ e
   ·rintro ⟨a,b⟩;exact ⟨a,.inl b⟩
  simp only [this]
theorem NM.add{i p j:Nat}{ks:aW}{es:nM}(h:NM A B alo blo bhi i p ks es)(d:(iT (A.getD i 0) 0 B)[p]?=some j):NM A B alo blo bhi i (p+1) ((j:Int)::ks) (LS A B alo blo (i+1) (j+1)::es):=by
 refine ⟨by have:=h.1;simp;omega,fun c f=>?_⟩;rw [(H7 d).2.2];simp only [cS,jF,mA];by_cases e:1≤c∧c-1=j
 ·have:((c:Int)-1== (j:Int))=true:=by simp;exact bE 0x20c84654637a89e7a858b101213ccc7002 e
  rw [this,if_pos ⟨e.1,by simp [e.2]⟩];rw [show c=j+1 by exact bE 0x832119518ad071058b101213ccc7002 e];rfl
 ·have g:((c:Int)-1== (j:Int))=false:=by simp;exact bE 0xc8863561862e95ea279ea17498b101213ccc7002 e
  rw [g];show Option.getD (List.lookup _ _) _=_;rw [h.2 c f];have:(1≤c∧c-1∈T8 p (iT (A.getD i 0) 0 B)++[j])↔(1≤c∧c-1∈T8 p (iT (A.getD i 0) 0 B)):=by
   simp only [dC,aM];constructor
   ·rintro ⟨a,b|b⟩
    ·exact ⟨a,b⟩
    ·exact absurd ⟨a,b⟩ e
   ·rintro ⟨a,b⟩;exact ⟨a,.inl b⟩
  simp only [this]
def sF(A B:aW)(alo ahi blo bhi:Nat)(as:lT)(ch:V)(t:T3)(fq:aW)(fw:nM):St:=
 ⟨[(1,vN alo),(2,vN ahi),(3,vN blo),(4,vN bhi),(5,vL A),(6,vL B),(7,ch),(8,.bm "set.__contains__" .set0),(9,vN t.1),(10,vN t.2.1),(11,vN t.2.2),(13,.lst []),(16,.ref 1)],[(1,.dict fq (fw.map vN)),(0,.attrs as)],2⟩
theorem iM{c:Sort _}{p:Prop}[Decidable p]{a b:c}(h:p):(if decide p=true then a else b)=a:=if_pos (decide_eq_true h)
theorem fT{c:Sort _}{p:Prop}[Decidable p]{a b:c}(h:¬p):(if decide p=true then a else b)=b:=if_neg (by simpa using h)
theorem aF3{a:Nat}:V.int ((a:Int)+1)=vN (a+1):=by rfl
theorem Dj{σ:St}{g:M V}{k:Int}(a:lk σ.loc 8=some (.bm "set.__contains__" .set0))(b:g σ=some (.int k,σ)):oB (wH (aJ 8) (aK g bJ)) σ=some (false,σ):=by refine vZ (v:=.bool false) ?_ rfl;unfold wH;rw [bL a];refine (?_:bd (aK g bJ σ) _=_);rw [bB b bZ];rfl
theorem wE{σ:St}{g:M V}{x n:Nat}{L:aW}(b:lk σ.loc x=some (vL L))(c:g σ=some (.int (n:Int),σ))(a:n<L.length)(d:L.length<200):bH hO (aJ x) g σ=some (.int (L.getD n 0),σ):=by
 have e:L[n]?=some (L.getD n 0):=by simp only [bK a,aT,bK a];rfl
 refine dN (bL b) c (wM ?_ ?_)
 ·simp only [gJ,e];rfl
 ·rw [bF];show _≤1048576;exact bE aKm d
theorem Ĺ{σ:St}{g c:M V}{a b:Int}(d:g σ=some (.int a,σ))(e:c σ=some (.int b,σ)):dU (bH rM g c) σ=some (decide (a=b),σ):=by unfold dU bH;rw [d];refine (?_:bd (bd (c σ) _) _=_);rw [e];refine (?_:bd (rM (.int a) (.int b) σ) _=_);rw [Mv];rfl
inductive JI(A B:aW)(alo ahi blo bhi:Nat)(as:lT)(ch:V)(i0:Nat)(ks:aW)(es:nM)(p:Nat)(τ:St):Prop
 |mk (t':T3) (fq:aW) (fw:nM) (e:τ=sI A B alo ahi blo bhi as ch t' i0 ks es fq fw) (n:NM A B alo blo bhi i0 p fq fw) (b:Bo A B alo ahi blo bhi (fun i' j'=>(alo≤i'∧i'<i0)∨(i'=i0∧j'∈(iT (A.getD i0 0) 0 B).take p)) t')
inductive EI(A B:aW)(alo ahi blo bhi:Nat)(as:lT)(ch:V)(i0:Nat)(τ:St):Prop
 |mk (t':T3) (fq:aW) (fw:nM) (e:A9 [1,2,3,4,5,6,7,8,9,10,11,13,16] τ=sF A B alo ahi blo bhi as ch t' fq fw) (n:PM A B alo blo bhi (i0+1) fq fw) (b:Bo A B alo ahi blo bhi (fun i' _=>alo≤i'∧i'<i0+1) t')
inductive JO(A B:aW)(alo ahi blo bhi:Nat)(as:lT)(ch:V)(i:Nat)(τ:St):Prop
 |mk (t:T3) (ks:aW) (es:nM) (e:τ=sO A B alo ahi blo bhi as ch t ks es) (n:PM A B alo blo bhi (alo+i) ks es) (b:Bo A B alo ahi blo bhi (fun i' _=>alo≤i'∧i'<alo+i) t)
theorem Ye{ks0:aW}{vs0:cG}{d p:Nat}{ks:aW}{es:nM}{Z:St}{v:V}(rk:(V.dct ks0 vs0).pure=true)(dm:∀k,Da k (.attrs as)=true)(h2:ahi≤A.length)(h4:bhi≤B.length)(hA:A.length<200)(hB:B.length<200)(o8:d<ahi)(ww:alo≤d)
  (pm:PM A B alo blo bhi d ks es) (n:((iT (A.getD d 0) 0 B).map vN)[p]?=some v) (vg:JI A B alo ahi blo bhi as (.dct ks0 vs0) d ks es p Z):
  ∃τ',bY 17 v Z=some τ'∧Go (Ij 2 τ') (xT [1,2,3,4,5,6,7,8,9,10,11,13,14,15,16] 2 (JI A B alo ahi blo bhi as (.dct ks0 vs0) d ks es (p+1)) (EI A B alo ahi blo bhi as (.dct ks0 vs0) d) (fun _ _=>False)):=by
 have b6:lim=1048576:=rfl;obtain ⟨e,f,l,e1,D,N⟩:=vg;subst e1;obtain ⟨j,o,rfl⟩:∃j,(iT (A.getD d 0) 0 B)[p]?=some j∧v=vN j:=by
  rw [gJ]at n
  cases q:(iT (A.getD d 0) 0 B)[p]? with
  |none=>rw [q]at n;exact iE n
  |some j=>rw [q]at n;refine oQ n ?_;rintro rfl;exact ⟨j,rfl,rfl⟩
 have O:=xH.mp (aG o);have r:p<(iT (A.getD d 0) 0 B).length:=(cU.mp o).1;have az:=H6 (A.getD d 0) B 0;obtain ⟨P,s,F⟩:=H7 o;have hjB:j<B.length:=by have:=O.2.1;exact bE 0x918a820632e31290130120322 O
 have Q:A.getD d 0=B.getD j 0:=by have:=O.2.2;exact this.symm
 have R:∀(G:T3)(t:aW)(u:nM)(τ:St),A9 [1,2,3,4,5,6,7,8,9,10,11,13,14,15,16] τ=sI A B alo ahi blo bhi as (.dct ks0 vs0) G d ks es t u→NM A B alo blo bhi d (p+1) t u→Bo A B alo ahi blo bhi (fun i' g=>(alo≤i'∧i'<d)∨(i'=d∧g∈(iT (A.getD d 0) 0 B).take (p+1))) G→
   I0 [1,2,3,4,5,6,7,8,9,10,11,13,14,15,16] 2 (JI A B alo ahi blo bhi as (.dct ks0 vs0) d ks es (p+1)) τ:=fun G t u τ hk x H=>by
  refine ⟨_,pY hk ?_ (eH (by decide) (eQ (c:=.dict t (u.map vN)) (fU (rW _))) (eH (by decide) (eQ (dm 2)) iW)),G,t,u,rfl,x,H⟩;have T:(V.bm "dict.get" (.dct ks (es.map vN))).pure=true:=rW es;simp only [gV,qH,hU (eK A),hU (eK B),hU rk,hU T];rfl
 refine ⟨⟨[(1,vN alo),(2,vN ahi),(3,vN blo),(4,vN bhi),(5,vL A),(6,vL B),(7,.dct ks0 vs0),(8,.bm "set.__contains__" .set0),(9,vN e.1),(10,vN e.2.1),(11,vN e.2.2),(13,.lst []),(14,vN d),(15,.bm "dict.get" (.dct ks (es.map vN))),(16,.ref 1),(17,vN j)],[(1,.dict f (l.map vN)),(0,.attrs as)],2⟩,rfl,?_⟩;unfold Ij;refine bV (mO (gF rfl ?_));by_cases y:j<blo
 ·rw [iM (by exact bE Sw y)];refine iN ?_;refine R e f l _ rfl (D.skip o y) ?_;refine N.ext (fun i j h=>?_) fun i' g _ _ z _ _ h=>?_
  ·rw [F];exact h.imp id fun ⟨a,b⟩=>⟨a,kW _ b⟩
  ·rw [F]at h;refine h.imp id fun ⟨a,b⟩=>⟨a,?_⟩;rcases dC.mp b with b|b
   ·exact b
   ·rw [aM.mp b]at z;exact fJ (bE Sv y z)
 rw [fT (by exact bE Xs y)];refine iN ?_;refine gL (σ':=⟨[(1,vN alo),(2,vN ahi),(3,vN blo),(4,vN bhi),(5,vL A),(6,vL B),(7,.dct ks0 vs0),(8,.bm "set.__contains__" .set0),(9,vN e.1),(10,vN e.2.1),(11,vN e.2.2),(13,.lst []),(14,vN d),(15,.bm "dict.get" (.dct ks (es.map vN))),(16,.ref 1),(17,vN j)],[(1,.dict f (l.map vN)),(0,.attrs as)],2⟩) rfl ?_;refine bV (mO (gF rfl ?_));by_cases m:bhi≤j
 ·rw [iM (by exact bE ö m)];refine iN ?_;refine ⟨e,f,l,rfl,D.pm h4 (by exact bE 0xe314880910541003 r az) fun g ju C=>?_,N.ext (fun i' g h=>?_) fun i' g _ _ _ z he h=>?_⟩
  ·rw [←B7 p (iT (A.getD d 0) 0 B)]at C;rcases dC.mp C with q|q
   ·exact q
   ·have:=s _ q;exact fJ (bE 0x718c9220a40838921003 m ju this)
  ·rcases h with h|⟨rfl,_⟩
   ·exact ⟨h.1,by exact bE aEg h⟩
   ·exact ⟨by exact bE Ra ww,by exact bE þ⟩
  ·by_cases q:i'<d
   ·exact .inl ⟨h.1,q⟩
   ·have:i'=d:=by exact bE aKv h q
    subst this;refine .inr ⟨rfl,?_⟩;have C:g∈iT (A.getD i' 0) 0 B:=xH.mpr ⟨bW _,by exact bE aD7 h4 z,by simpa using he.symm⟩;rw [←B7 p (iT (A.getD i' 0) 0 B)]at C;rcases dC.mp C with W|W
    ·exact W
    ·have:=s _ W;exact fJ (bE 0x1c6324882a00921003 m z this)
 rw [fT (by exact bE 0x318ba56a86a074921002 m)];refine iN ?_;refine gL (σ':=⟨[(1,vN alo),(2,vN ahi),(3,vN blo),(4,vN bhi),(5,vL A),(6,vL B),(7,.dct ks0 vs0),(8,.bm "set.__contains__" .set0),(9,vN e.1),(10,vN e.2.1),(11,vN e.2.2),(13,.lst []),(14,vN d),(15,.bm "dict.get" (.dct ks (es.map vN))),(16,.ref 1),(17,vN j)],[(1,.dict f (l.map vN)),(0,.attrs as)],2⟩) rfl ?_;have hE:LS A B alo blo (d+1) (j+1)=LS A B alo blo d j+1:=by show (if _ then _ else _)=_;rw [if_pos ⟨by exact bE Ra ww,by exact bE 0x318a40174941002 y,Q⟩]
 generalize I:LS A B alo blo (d+1) (j+1)=E at *;have X:=Wp (A:=A) (B:=B) (alo:=alo) (blo:=blo) (d+1) (j+1);rw [I]at X;refine bV (dE (v:=vN E) (τ:=⟨[(1,vN alo),(2,vN ahi),(3,vN blo),(4,vN bhi),(5,vL A),(6,vL B),(7,.dct ks0 vs0),(8,.bm "set.__contains__" .set0),(9,vN e.1),(10,vN e.2.1),(11,vN e.2.2),(13,.lst []),(14,vN d),(15,.bm "dict.get" (.dct ks (es.map vN))),(16,.ref 1),(17,vN j)],[(1,.dict f (l.map vN)),(0,.attrs as)],2⟩)
  (τ':=⟨[(1,vN alo),(2,vN ahi),(3,vN blo),(4,vN bhi),(5,vL A),(6,vL B),(7,.dct ks0 vs0),(8,.bm "set.__contains__" .set0),(9,vN e.1),(10,vN e.2.1),(11,vN e.2.2),(13,.lst []),(14,vN d),(15,.bm "dict.get" (.dct ks (es.map vN))),(16,.ref 1),(17,vN j),(18,vN E)],[(1,.dict ((j:Int)::f) ((E::l).map vN)),(0,.attrs as)],2⟩) ?_ ?_ ?_)
 ·have e4:=pm.2 j (by exact bE 0x318a40174921002 m);show bd (some ((((ks.zip (es.map vN)).lookup ((j:Int)-1)).getD (.int 0)),_)) _=_;rw [e4];show some (V.int ((LS A B alo blo d j:Int)+1),_)=_;rw [aF3,hE]
 ·have Y:f.length≤lim:=by have:=D.1;exact bE 0x6f18a4244888900d4312f18c6318e182ac6766005 hB b6 r az this
  simp [F5,bY,Ð,Ï,ob,ģ,Iu,G0,aD,diC,aJ,fN,fM,bd,vN,Y]
 ·refine mO (gF rfl ?_);have x:=D.add o;rw [I]at x;have H:=N.step (i:=d) (j:=j) (fun i' g h=>?_) o8 (by exact bE 0x318a80174921002 m) (by exact bE 0xa8c54032d0710561003 I hE);rw [I]at H;have J:Bo A B alo ahi blo bhi (fun i' g=>(alo≤i'∧i'<d)∨(i'=d∧g∈(iT (A.getD d 0) 0 B).take (p+1))) (if e.2.2<E then (d+1-E,j+1-E,E)else e):=by
   refine H.ext (fun i' g h=>?_) fun i' g _ _ _ _ _ h=>?_
   ·rw [F];rcases h with (h|⟨a,b⟩)|⟨a,b⟩
    ·exact .inl h
    ·exact .inr ⟨a,kW _ b⟩
    ·exact .inr ⟨a,kF _ (aM.mpr b)⟩
   ·rw [F]at h;rcases h with h|⟨a,b⟩
    ·exact .inl (.inl h)
    ·rcases dC.mp b with b|b
     ·exact .inl (.inr ⟨a,b⟩)
     ·exact .inr ⟨a,aM.mp b⟩
  ·by_cases L:e.2.2<E
   ·rw [iM (by exact bE Sw L)];rw [if_pos L]at J;refine dE (v:=.tup [vN (d+1-E),vN (j+1-E),vN E]) (τ:=⟨[(1,vN alo),(2,vN ahi),(3,vN blo),(4,vN bhi),(5,vL A),(6,vL B),(7,.dct ks0 vs0),(8,.bm "set.__contains__" .set0),(9,vN e.1),(10,vN e.2.1),(11,vN e.2.2),(13,.lst []),(14,vN d),(15,.bm "dict.get" (.dct ks (es.map vN))),(16,.ref 1),(17,vN j),(18,vN E)],[(1,.dict ((j:Int)::f) ((E::l).map vN)),(0,.attrs as)],2⟩) ?_ rfl ?_
    ·show some (V.tup [V.int ((d:Int)-(E:Int)+1),V.int ((j:Int)-(E:Int)+1),V.int (E:Int)],_)=_;have q1:(d:Int)-(E:Int)+1=((d+1-E:Nat):Int):=by exact bE 0x90909121048509118dea041df51542c6398941c68114c941c281114232507189283845330507005 X
     have q2:(j:Int)-(E:Int)+1=((j+1-E:Nat):Int):=by exact bE 0x88888911048509118dea041df51542c6398941c28114c941c6811142325070892838c5330507005 X
     rw [q1,q2];rfl
    ·exact R (d+1-E,j+1-E,E) ((j:Int)::f) (E::l) _ rfl x J
   ·rw [fT (by exact bE Xs L)];rw [if_neg L]at J;refine iN ?_;exact R e ((j:Int)::f) (E::l) _ rfl x J
  ·rcases h with h|⟨a,b⟩
   ·exact .inl h.2
   ·exact .inr ⟨a,P _ b⟩
theorem Yd{ks0:aW}{vs0:cG}{i:Nat}{x:St}{v:V}(y:(V.dct ks0 vs0).pure=true)(x5:ks0.length=vs0.length)(G:∀k,(ks0.zip vs0).lookup k=if iT k 0 B=[]then aF else some (.lst ((iT k 0 B).map vN)))(z:∀k,Da k (.attrs as)=true)(g:ahi≤A.length)(l:bhi≤B.length)(C:A.length<200)(H:B.length<200)
  (m:(Ke alo ahi)[i]?=some v) (I:JO A B alo ahi blo bhi as (.dct ks0 vs0) i x):
  ∃τ',bY 14 v x=some τ'∧Go (Px 1 τ') (xT [1,2,3,4,5,6,7,8,9,10,11,12,13] 1 (JO A B alo ahi blo bhi as (.dct ks0 vs0) (i+1)) (fun _=>False) (fun _ _=>False)):=by
 have b6:lim=1048576:=rfl;obtain ⟨t,ks,es,J,L,N⟩:=I;subst J;obtain ⟨hi,rfl⟩:=aGg m;generalize c:alo+i=a at *;have n:a<ahi:=by exact bE 0x60e8c54122c88189401ccc1004 hi c
 refine ⟨_,rfl,?_⟩;refine bV (dE rfl rfl ?_);refine bV (dE rfl rfl ?_);refine gL (σ':=sI A B alo ahi blo bhi as (.dct ks0 vs0) t a ks es [] []) rfl ?_;have O:A[a]?=some (A.getD a 0):=by rw [bK (by exact bE ù g n),aT,bK (by exact bE ù g n)];rfl
 have o:(hF (gDM Ym (aJ 7) (aK (bH hO (aJ 5) (aJ 14)) (aK (aJ 13) bJ)))) (sI A B alo ahi blo bhi as (.dct ks0 vs0) t a ks es [] [])=some ((iT (A.getD a 0) 0 B).map vN,sI A B alo ahi blo bhi as (.dct ks0 vs0) t a ks es [] []):=by
  have P:(bH hO (aJ 5) (aJ 14)) (sI A B alo ahi blo bhi as (.dct ks0 vs0) t a ks es [] [])=some (.int (A.getD a 0),sI A B alo ahi blo bhi as (.dct ks0 vs0) t a ks es [] []):=by exact wM (by rw [gJ,O];rfl) (by rw [bF];show _≤1048576;exact bE aKm C)
  have Q:((ks0.zip vs0).lookup (A.getD a 0)).getD (.lst [])=.lst ((iT (A.getD a 0) 0 B).map vN):=by
   rw [G];by_cases q:iT (A.getD a 0) 0 B=[]
   ·rw [if_pos q,q];rfl
   ·rw [if_neg q];rfl
  have R:(gDM Ym (aJ 7) (aK (bH hO (aJ 5) (aJ 14)) (aK (aJ 13) bJ))) (sI A B alo ahi blo bhi as (.dct ks0 vs0) t a ks es [] [])=some (.lst ((iT (A.getD a 0) 0 B).map vN),sI A B alo ahi blo bhi as (.dct ks0 vs0) t a ks es [] []):=by show bd (bd ((bH hO (aJ 5) (aJ 14)) (sI A B alo ahi blo bhi as (.dct ks0 vs0) t a ks es [] [])) _) _=_;rw [P];show some (((ks0.zip vs0).lookup (A.getD a 0)).getD (.lst []),_)=_;rw [Q]
  exact qB R (rW _)
 refine bV (wP (EI A B alo ahi blo bhi as (.dct ks0 vs0) a) (JI A B alo ahi blo bhi as (.dct ks0 vs0) a ks es)
  o (fI _) ⟨t,[],[],rfl,⟨bG _,fun j _=>by simp;rfl⟩,N.ext (fun i j h=>.inl h) fun i j _ _ _ _ _ h=>by simpa using h⟩ (fun p zt v m r=>Ye y z g l C H n (by exact bE 0x318a44058901003 c) L m r) (fun τ' hd=>?_))
 have s:EI A B alo ahi blo bhi as (.dct ks0 vs0) a τ':=by
  rcases hd with ⟨b,d,e,rfl,D,f⟩|hd
  ·have T:=H6 (A.getD a 0) B 0;rw [bF]at D f;refine ⟨b,d,e,rfl,D.pm l T fun F _ W=>by rw [zM];exact W,f.ext (fun i' F h=>?_) fun i' F _ _ _ X Y h=>?_⟩
   ·rcases h with h|⟨rfl,_⟩
    ·exact ⟨h.1,by exact bE aEg h⟩
    ·exact ⟨by exact bE 0x318a44058901003 c,by exact bE þ⟩
   ·by_cases q:i'<a
    ·exact .inl ⟨h.1,q⟩
    ·have:i'=a:=by exact bE aKv h q
     subst this;refine .inr ⟨rfl,?_⟩;rw [zM];exact xH.mpr ⟨bW _,by exact bE aD7 l X,by simpa using Y.symm⟩
  ·exact hd
 obtain ⟨b,d,e,Z,u,f⟩:=s;show Go _ _;refine gL Z ?_;refine dE rfl rfl ?_;refine ⟨sO A B alo ahi blo bhi as (.dct ks0 vs0) b d e,?_,b,d,e,rfl,by rw [show alo+(i+1)=a+1 by exact bE aEr c];exact u,by rw [show alo+(i+1)=a+1 by exact bE aEr c];exact f⟩;refine Il rfl (loc':=[(1,vN alo),(2,vN ahi),(3,vN blo),(4,vN bhi),(5,vL A),(6,vL B),(7,.dct ks0 vs0),(8,.bm "set.__contains__" .set0),(9,vN b.1),(10,vN b.2.1),(11,vN b.2.2),(12,.dct d (e.map vN)),(13,.lst [])]) ?_ (mK (by decide) (eH (by decide) (eQ (z 1)) iW));exact cO rfl (cO rfl (cO rfl (cO rfl (cO (dF (eK A)) (cO (dF (eK B)) (cO (dF y) (cO rfl (cO rfl (cO rfl (cO rfl (cO (É (by decide) rfl (rW _)) (cO rfl rfl))))))))))))
theorem İ{t:T3}{ks0:aW}{vs0:cG}{ks:aW}{es:nM}(a:tV A B alo ahi blo bhi t)(D:alo≤ahi)(z:ahi≤A.length)(F:blo≤bhi)(h:bhi≤B.length)(C:A.length<200)(i:B.length<200):
  Go (Ii 1 (sW A B alo ahi blo bhi as t)) (fun f τ=>f=.ret (xZ t)∧lk τ.cells 0=some (.attrs as)):=by
 have G:alo<t.1→blo<t.2.1→A.getD (t.1-1) 0≠B.getD (t.2.1-1) 0:=fun d j e=>by
  have H:0<t.2.2:=dM fun h0=>by have:=a.zero h0;rw [this]at d;exact absurd d (fF _)
  have c:=a.cr H;have:=(a.max (t.1-1) (t.2.1-1) (t.2.2+1) (wX _) ⟨by exact bE aAo d,by have:=c.a1;exact bE aK6 d this,by exact bE aAo j,by have:=c.b1;exact bE aK6 j this,fun u l=>by
   cases u with
   |zero=>exact e
   |succ u=>rw [show t.1-1+(u+1)=t.1+u by exact bE aKz d,show t.2.1-1+(u+1)=t.2.1+u by exact bE aKz j];exact c.eq u (by exact bE 0xc62a0814838507002 l)⟩).1
  exact bE 0x463248107001 this
 have I:t.1+t.2.2<ahi→t.2.1+t.2.2<bhi→A.getD (t.1+t.2.2) 0≠B.getD (t.2.1+t.2.2) 0:=fun d j e=>by
  have lo:alo≤t.1∧blo≤t.2.1:=by
   by_cases h0:t.2.2=0
   ·have:=a.zero h0;rw [this];exact ⟨bG _,bG _⟩
   ·have c:=a.cr (dM h0);exact ⟨c.a0,c.b0⟩
  have:=(a.max t.1 t.2.1 (t.2.2+1) (wX _) ⟨lo.1,by exact bE aEf d,lo.2,by exact bE aEf j,fun u l=>by
   by_cases q:u=t.2.2
   ·subst q;exact e
   ·have c:=a.cr (by exact bE 0x6631504ce92c20520e1002 l q);exact c.eq u (by exact bE aG4 l q)⟩).1
  exact bE 0x463248107001 this
 have bnd:t.1≤ahi∧t.2.1≤bhi:=by
  by_cases h0:t.2.2=0
  ·have:=a.zero h0;rw [this];exact ⟨D,F⟩
  ·have c:=a.cr (dM h0);exact ⟨by have:=c.a1;exact bE aAi this,by have:=c.b1;exact bE aAi this⟩
 have o:∀{x n:Nat},lk (sW A B alo ahi blo bhi as t).loc x=some (vN n)→0<n→bH xO (aJ x) (gK (.int 1)) (sW A B alo ahi blo bhi as t)=some (.int ((n-1:Nat):Int),sW A B alo ahi blo bhi as t):=fun {x n} p J=>by refine dN (bL p) rfl ?_;show some (V.int ((n:Int)-1),_)=_;rw [show (n:Int)-1=((n-1:Nat):Int) by exact bE 0x232494637a81e7a854134cc7001 J]
 have g:∀{x y n m:Nat},lk (sW A B alo ahi blo bhi as t).loc x=some (vN n)→lk (sW A B alo ahi blo bhi as t).loc y=some (vN m)→bH fQ (aJ x) (aJ y) (sW A B alo ahi blo bhi as t)=some (.int ((n+m:Nat):Int),sW A B alo ahi blo bhi as t):=fun {x y n m} p L=>by refine dN (bL p) (bL L) ?_;show some (V.int ((n:Int)+(m:Int)),_)=_;rw [show (n:Int)+(m:Int)=((n+m:Nat):Int) by exact bE ú]
 unfold Ii;refine gL (σ':=sW A B alo ahi blo bhi as t) rfl ?_;refine bV (Be (bG _) (gW (gF rfl ?_)));have r:Go (Ih 1 (sW A B alo ahi blo bhi as t)) (fun f τ=>f=.ret (xZ t)∧lk τ.cells 0=some (.attrs as)):=by
  unfold Ih;refine gL (σ':=sW A B alo ahi blo bhi as t) rfl ?_;refine bV (Be (bG _) (gW (gF (b:=decide (t.1+t.2.2<ahi)) (τ:=sW A B alo ahi blo bhi as t) ?_ ?_)))
  ·show some (decide ((t.1:Int)+(t.2.2:Int)<(ahi:Int)),_)=_
   congr 2;exact decide_eq_decide.mpr (jV (n:=_+_))
  have s:Go (Ig 1 (sW A B alo ahi blo bhi as t)) (fun f τ=>f=.ret (xZ t)∧lk τ.cells 0=some (.attrs as)):=by
   unfold Ig;refine gL (σ':=sW A B alo ahi blo bhi as t) rfl ?_;refine bV (Be (bG _) (gW (gF rfl ?_)));have v:Go (Ie 1 (sW A B alo ahi blo bhi as t)) (fun f τ=>f=.ret (xZ t)∧lk τ.cells 0=some (.attrs as)):=by
    let k:St:=⟨[(2,vN ahi),(4,vN bhi),(5,vL A),(6,vL B),(8,.bm "set.__contains__" .set0),(9,vN t.1),(10,vN t.2.1),(11,vN t.2.2)],[(0,.attrs as)],1⟩;unfold Ie;refine gL (σ':=k) rfl ?_;refine bV (Be (bG _) (gW (gF (b:=decide (t.1+t.2.2<ahi)) (τ:=k) ?_ ?_)))
    ·show some (decide ((t.1:Int)+(t.2.2:Int)<(ahi:Int)),_)=_
     congr 2;exact decide_eq_decide.mpr (jV (n:=_+_))
    have fin:Go (qD [9,10,11] Pw 1 k) (fun f τ=>f=.ret (xZ t)∧lk τ.cells 0=some (.attrs as)):=gL rfl (tS rfl ⟨rfl,rfl⟩);by_cases c1:t.1+t.2.2<ahi
    ·rw [iM c1];refine gW (gF (b:=decide (t.2.1+t.2.2<bhi)) (τ:=k) ?_ ?_)
     ·show some (decide ((t.2.1:Int)+(t.2.2:Int)<(bhi:Int)),_)=_
      congr 2;exact decide_eq_decide.mpr (jV (n:=_+_))
     by_cases c2:t.2.1+t.2.2<bhi
     ·rw [iM c2];refine gW (gF (b:=false) (τ:=k) (Dj rfl (wE rfl (n:=t.2.1+t.2.2) ?_ (by exact bE aAr h c2) i)) ⟨rfl,fin⟩);show some (V.int ((t.2.1:Int)+(t.2.2:Int)),_)=_;rw [show (t.2.1:Int)+(t.2.2:Int)=((t.2.1+t.2.2:Nat):Int) by exact bE ú]
     ·rw [fT c2];exact ⟨rfl,fin⟩
    ·rw [fT c1];exact ⟨rfl,fin⟩
   by_cases c1:alo<t.1
   ·rw [iM (by exact bE Sw c1)];refine gW (gF rfl ?_);by_cases c2:blo<t.2.1
    ·rw [iM (by exact bE Sw c2)];exact gW (gF (b:=false) (τ:=sW A B alo ahi blo bhi as t) (Dj rfl (wE rfl (o rfl (by exact bE Xo c2)) (by exact bE aG9 h bnd c2) i)) ⟨rfl,v⟩)
    ·rw [fT (by exact bE Xs c2)];exact ⟨rfl,v⟩
   ·rw [fT (by exact bE Xs c1)];exact ⟨rfl,v⟩
  by_cases c1:t.1+t.2.2<ahi
  ·rw [iM c1];refine gW (gF (b:=decide (t.2.1+t.2.2<bhi)) (τ:=sW A B alo ahi blo bhi as t) ?_ ?_)
   ·show some (decide ((t.2.1:Int)+(t.2.2:Int)<(bhi:Int)),_)=_
    congr 2;exact decide_eq_decide.mpr (jV (n:=_+_))
   by_cases c2:t.2.1+t.2.2<bhi
   ·rw [iM c2];refine gW (Tb (gF (b:=false) (τ:=sW A B alo ahi blo bhi as t) (Dj rfl (wE rfl (g rfl rfl) (by exact bE aAr h c2) i)) ?_));show GB _ _ _;refine gW (gF (Ĺ (wE rfl (g rfl rfl) (by exact bE aAr z c1) C) (wE rfl (g rfl rfl) (by exact bE aAr h c2) i)) ?_);rw [fT (I c1 c2)];exact ⟨rfl,s⟩
   ·rw [fT c2];exact ⟨rfl,s⟩
  ·rw [fT c1];exact ⟨rfl,s⟩
 by_cases c1:alo<t.1
 ·rw [iM (by exact bE Sw c1)];refine gW (gF rfl ?_);by_cases c2:blo<t.2.1
  ·rw [iM (by exact bE Sw c2)];refine gW (Tb (gF (b:=false) (τ:=sW A B alo ahi blo bhi as t) (Dj rfl (wE rfl (o rfl (by exact bE Xo c2)) (by exact bE aG9 h bnd c2) i)) ?_));show GB _ _ _;refine gW (gF (Ĺ (wE rfl (o rfl (by exact bE Xo c1)) (by exact bE 0x208e462a1814129d89298891052314cc7006 z bnd c1) C) (wE rfl (o rfl (by exact bE Xo c2)) (by exact bE aG9 h bnd c2) i)) ?_);rw [fT (G c1 c2)];exact ⟨rfl,r⟩
  ·rw [fT (by exact bE Xs c2)];exact ⟨rfl,r⟩
 ·rw [fT (by exact bE Xs c1)];exact ⟨rfl,r⟩
theorem aB2(h:T5 A B as)(m:alo≤ahi)(d:ahi≤A.length)(z:blo≤bhi)(n:bhi≤B.length)(l:A.length<200)(o:B.length<200):
  Go (aB0 1 ⟨Bh 0 [.inst 0,vN alo,vN ahi,vN blo,vN bhi],[(0,.attrs as)],1⟩) (fun f τ=>f=.ret (xZ (Mx A B alo ahi blo bhi))∧lk τ.cells 0=some (.attrs as)):=by
 obtain ⟨ch,r,ks0,vs0,rfl,C,D⟩:=h.b2j;have F:(V.dct ks0 vs0).pure=true:=h.pure _ (Vf r);have G:∀k,Da k (.attrs as)=true:=fun k=>Bg h.pure;have H:Bv alo ahi=true:=by simp [Bv];exact bE 0x3f8c596c6318c6318c6318c6318c6318e1907a86d8c6318c6318c6318c6318c631c320f502b19d984910521003 m d l
 let s0:St:=⟨[(0,.inst 0),(1,vN alo),(2,vN ahi),(3,vN blo),(4,vN bhi)],[(0,.attrs as)],1⟩;let s:St:=⟨[(0,.inst 0),(1,vN alo),(2,vN ahi),(3,vN blo),(4,vN bhi),(5,vL A),(6,vL B),(7,.dct ks0 vs0),(8,.bm "set.__contains__" .set0)],[(0,.attrs as)],1⟩;let c:St:=⟨[(1,vN alo),(2,vN ahi),(3,vN blo),(4,vN bhi),(5,vL A),(6,vL B),(7,.dct ks0 vs0),(8,.bm "set.__contains__" .set0)],[(0,.attrs as)],1⟩;let u:St:=sO A B alo ahi blo bhi as (.dct ks0 vs0) (alo,blo,0) [] [];refine (?_:Go (aB0 1 s0) _);unfold aB0;refine bV (H8 ?_);refine bV (dE (v:=.tup [vL A,vL B,.dct ks0 vs0,.bm "set.__contains__" .set0]) (τ:=s0) (τ':=s) (jE (bB (oH (bL rfl) rfl h.a rfl) (bB (oH (bL rfl) rfl h.b rfl) (bB (oH (bL rfl) rfl r rfl) (bB (by unfold aHq;rw [oH (bL rfl) rfl h.bjunk rfl];rfl) bZ)))) lm4) rfl ?_);refine bV (zY (τ:=s) rfl (iN ?_));refine gL (σ':=c) rfl ?_;refine bV (zY (τ:=c) rfl (iN ?_));refine gL (σ':=c) rfl ?_;refine bV (dE (τ:=c) (v:=.tup [vN alo,vN blo,vN 0]) rfl rfl ?_);refine bV (dE rfl rfl ?_);refine bV (dE rfl rfl ?_);refine gL (σ':=u) rfl ?_;refine bV (wP (fun _=>False) (JO A B alo ahi blo bhi as (.dct ks0 vs0)) (ds:=Ke alo ahi) (τ:=u) (ŵ (bB (bL rfl) (bB (bL rfl) bZ)) H) (bG _)
  ⟨_,_,_,rfl,⟨bW _,fun j _=>?_⟩,Bo.start fun i j ⟨a,b⟩=>by exact bE 0x618a8016290600521002 ‹_›⟩ (fun i O v I J=>?_) (fun τ' hd=>?_))
 ·cases j with
  |zero=>cases alo<;>rfl
  |succ j=>
   show _=vN (LS A B alo blo alo (j+1));rw [show LS A B alo blo alo (j+1)=0 by
    cases alo with
    |zero=>rfl
    |succ a=>exact Nn (by exact bE 0x40c5d2632e41a44148107023)]
   rfl
 ·obtain ⟨τ',e,g⟩:=Yd F C D G d n l o I J;refine ⟨τ',e,g.mono fun f τ p=>?_⟩;cases f<;>first|exact p|exact p.elim
 ·obtain ⟨t,ks,es,rfl,P,x⟩:=hd.resolve_right id;rw [Ω]at x;have y:tV A B alo ahi blo bhi t:=x.best fun i j L N=>⟨L,by exact bE 0x26b18a90010d411ccc1003 N⟩;rw [Tj y];show Go _ _;refine gL (σ':=sW A B alo ahi blo bhi as t) rfl ?_;exact İ (ks0:=ks0) (vs0:=vs0) (ks:=ks) (es:=es) y m d z n l o
end
section
open MineH (at_ cL fr)
section
variable{n:Nat}
theorem aNs(G:Gd){A B:aW}{as:lT}{alo ahi blo bhi:Nat}(h:T5 A B as)(a:alo≤ahi)(b:ahi≤A.length)(d:blo≤bhi)(g:bhi≤B.length)(i:A.length<200)(j:B.length<200):
  tL (n+3) (.ref 196) (.attrs as) [vN alo,vN ahi,vN blo,vN bhi] (fun c r=>c=.attrs as∧r=xZ (Mx A B alo ahi blo bhi)):=by
 refine Ys.c (L7 (dds:=[]) (dvs:=[]) (fd:=jS MineH.o196v0) (o:=MineH.o196v0) (tab:=Sb) (body:=cL (at_ [5,6])) (aMf w.params) (G.K 196 _ (by kernel_rfl)) rfl G.lim (codeRec_of G.K (by kernel_rfl)) rfl (fun _ _ _=>bS.nil) (fun h tk vs k m=>?_) (by show (5:Nat)≤19;decide) h.pure (fun L=>?_) rfl)
 ·revert vs;exact ll5 fun _ _ _ _ _=>kp_binds (G.K.keeps k) fun K=>by kernel_rfl
 ·obtain ⟨f,τ,e,rfl,l⟩:=aB2 (as:=as) h a b d g i j;refine jY (aLx G 1 _ _ _ e) ?_;rintro _ _ ⟨rfl,rfl⟩;exact ⟨.attrs as,.attrs as,_,l,sU h.pure,h.pure,dF (by rfl),by rfl,rfl,rfl⟩
end
end
theorem Ip{A B:aW}{alo ahi blo bhi i j k:Nat}(h:Mx A B alo ahi blo bhi=(i,j,k))(a:k≠0):Cr A B alo ahi blo bhi i j k:=by
 unfold Mx at h;split at h
 ·rename_i b;have:=b.choose_spec.cr;rw [h]at this;exact this (dM a)
 ·simp only [qN]at h;exact absurd h.2.2.symm a
theorem P5{A B:aW}{alo ahi blo bhi:Nat}(h:ahi≤alo∨bhi≤blo):Mx A B alo ahi blo bhi=(alo,blo,0):=
 Tj ⟨fun _=>rfl,fun h=>absurd h (fF 0),fun i j k a c=>by have:=c.a0;have:=c.a1;have:=c.b0;have:=c.b1;exact fJ (bE 0x67e0c649120853a4a71a408214c92982a219a918921007 h a ‹_› ‹_› ‹_› this)⟩
theorem xR{A B:aW}{alo ahi blo bhi:Nat}(h:ahi≤alo∨bhi≤blo):∀f,Jx A B f alo ahi blo bhi=[]:=by
 intro a
 induction a with
 |zero=>exact rfl
 |succ f b=>simp only [Ak,Aj];rw [P5 h];rfl
theorem Qj{A B:aW}:∀(f f' alo ahi blo bhi:Nat),ahi-alo≤f→ahi-alo≤f'→Jx A B f alo ahi blo bhi=Jx A B f' alo ahi blo bhi:=by
 intro n
 induction n with
 |zero=>intro f';intro alo;intro ahi;intro blo;intro bhi;intro h;intro _;rw [xR (.inl (by exact bE aAn h)),xR (.inl (by exact bE aAn h))]
 |succ f b=>
  intro o
  cases o with
  |zero=>intro alo;intro ahi;intro blo;intro bhi;intro _;intro h;rw [xR (.inl (by exact bE aAn h)),xR (.inl (by exact bE aAn h))]
  |succ f'=>
   intro alo;intro ahi;intro blo;intro bhi;intro h;intro h';simp only [Ak,Aj];rcases e:Mx A B alo ahi blo bhi with ⟨i,j,k⟩;dsimp only;by_cases a:k=0
   ·simp only [if_pos a,if_pos a]
   ·have c:=Ip e a;have:=c.a0;have:=c.a1;have d:=dM a;have g:=bT (fO d) c.a1;have l:i-alo<ahi-alo:=D8 c.a0 g;have m:ahi-(i+k)<ahi-alo:=nW (eY c.a0 g) (eY c.a0 (fO d));rw [b f' alo i blo j (jU (bT l h)) (jU (bT l h')),b f' (i+k) ahi (j+k) bhi (jU (bT m h)) (jU (bT m h'))]
theorem Nf{A B:aW}:∀(f alo ahi blo bhi:Nat)(t:T3),t∈Jx A B f alo ahi blo bhi→alo≤t.1∧t.1+t.2.2≤ahi∧blo≤t.2.1∧t.2.1+t.2.2≤bhi∧0<t.2.2:=by
 intro d
 induction d with
 |zero=>intro alo ahi blo bhi t h;simp [Ak,Aj]at h
 |succ f b=>
  intro alo ahi blo bhi t h;simp only [Ak,Aj]at h;rcases e:Mx A B alo ahi blo bhi with ⟨i,j,k⟩;rw [e]at h;dsimp only at h;by_cases a:k=0
  ·rw [if_pos a]at h;cases h
  ·rw [if_neg a]at h;have c:=Ip e a;have:=c.a0;have:=c.a1;have:=c.b0;have:=c.b1;rcases dC.mp h with h|h
   ·have:=b alo i blo j t h;exact bE 0xd1426448462c6318a2e8c649105d18bc324bc3176648905d18a7494e53318c628ba31923417462f0c92f0c5d99204174629d25394c9220234890100a ‹_› ‹_› this
   ·rcases aU.mp h with rfl|h
    ·simp only;exact bE 0x210c52518208208062c6318a019253a005324a622468009220a4a7400a6494c448d001244174966007 a ‹_› ‹_› ‹_› this
    ·have:=b (i+k) ahi (j+k) bhi t h;exact bE 0xc1524468462c6318a29cc92f0c829cbb324bb30925d1905394c92980c6318a29cc92f0c829cbb324bb3208349746414e5324a6410291892100a ‹_› ‹_› this
theorem Tt{A B:aW}:∀(f alo ahi blo bhi:Nat),(Jx A B f alo ahi blo bhi).Pairwise fun t u=>t.1<u.1:=by
 intro h
 induction h with
 |zero=>intro alo ahi blo bhi;simp [Ak,Aj]
 |succ f d=>
  intro alo ahi blo bhi;simp only [Ak,Aj];rcases e:Mx A B alo ahi blo bhi with ⟨i,j,k⟩;dsimp only;by_cases b:k=0
  ·rw [if_pos b];exact .nil
  ·rw [if_neg b];have c:=Ip e b;have:=c.a0;have:=c.a1;have:=c.b0;have:=c.b1;refine jG.mpr ⟨d alo i blo j,eM.mpr ⟨fun u a=>?_,d (i+k) ahi (j+k) bhi⟩,fun t l u a=>?_⟩
   ·have:=Nf f _ _ _ _ u a;simp only;exact bE 0x30c018a8416318c50cc92e8c8194e929d002992440c491200174966008 b this
   ·have g:=Nf f _ _ _ _ t l;rcases aU.mp a with rfl|a
    ·simp only;exact bE 0x263150c2c6318a119253a045324a62246810521007 g
    ·have:=Nf f _ _ _ _ u a;exact bE 0x4c231517660b18c628bc31925f9905e18be324be320ba314e92f4c82f0c5d9925d9905d186c6318a119253a045324a6224681052100d g this
noncomputable abbrev Q4:=Nat×Nat×Nat×Nat
def bl(A B:aW)(q:Q4):List T3:=Jx A B (q.2.1-q.1) q.1 q.2.1 q.2.2.1 q.2.2.2
theorem aMi{A B:aW}{alo ahi blo bhi:Nat}:bl A B (alo,ahi,blo,bhi)=match Mx A B alo ahi blo bhi with
  |(i,j,k)=>if k=0 then[]else bl A B (alo,i,blo,j)++(i,j,k)::bl A B (i+k,ahi,j+k,bhi):=by
 rcases e:Mx A B alo ahi blo bhi with ⟨i,j,k⟩;dsimp only;refine (?_:Jx A B (ahi-alo) alo ahi blo bhi=_);by_cases h:ahi≤alo
 ·rw [xR (.inl h)];have:=P5 (A:=A) (B:=B) (alo:=alo) (ahi:=ahi) (blo:=blo) (bhi:=bhi) (.inl h);rw [e]at this;simp only [qN]at this;rw [if_pos this.2.2]
 ·obtain ⟨f,b⟩:∃f,ahi-alo=f+1:=⟨ahi-alo-1,by exact bE 0x20a0a0a09491c241462b41c017492314cc704cc1002 h⟩;rw [b];simp only [Ak,Aj];rw [e];dsimp only;by_cases a:k=0
  ·rw [if_pos a,if_pos a]
  ·rw [if_neg a,if_neg a];have c:=Ip e a;have:=c.a0;have:=c.a1;show _=Jx A B (i-alo) alo i blo j++(i,j,k)::Jx A B (ahi-(i+k)) (i+k) ahi (j+k) bhi;rw [Qj f (i-alo) alo i blo j (by exact bE 0x108042200101080445e01062929809120a723a4b314eb41ca60ccc21ccc1005 b a this) (by exact bE 0x8c520001),Qj f (ahi-(i+k)) (i+k) ahi (j+k) bhi (by exact bE 0x84021100080840222f00831494e04906e92cc532d0729c33320830ccc1005 b a ‹_›) (by exact bE 0x8c520001)]
theorem Wl{A B:aW}{alo ahi blo bhi:Nat}(h:ahi≤alo∨bhi≤blo):bl A B (alo,ahi,blo,bhi)=[]:=xR h _
def kt(t:T3):K3×V:=(((t.1:Int),(t.2.1:Int),(t.2.2:Int)),xZ t)
theorem aA4:∀a:List T3,Pj kMt (a.map xZ)=some (a.map kt):=by
 intro b
 induction b with
 |nil=>exact rfl
 |cons t r c=>rw [cS,Vh,c];rfl
theorem W7{b a:List T3}(c:b.Perm a)(d:a.Pairwise fun t u=>t.1<u.1)(g:a.length<64):Hb kMt (b.map xZ)=some (a.map xZ):=by
 unfold Hb;rw [aA4];have i:SK (a.map kt):=by unfold SK;rw [zB];refine d.imp fun {t u} h=>A8.mpr (.inl ?_);refine (?_:(t.1:Int)<(u.1:Int));exact bE Sw h
 have f:((b.map kt).map (·.1)).Nodup:=by
  have j:((a.map kt).map (·.1)).Nodup:=by rw [tB];refine zB.mpr (d.imp fun {t u} h e=>?_);have:(t.1:Int)=(u.1:Int):=congrArg Prod.fst e;exact bE 0xc3195ea1a8141002 h this
  exact (((c.map kt).map (·.1)).nodup_iff).mpr j
 show (if _ then _ else _)=_;rw [if_pos ⟨f,by rw [bF,c.length_eq];exact g⟩];rw [Em (Ck _ f) i ((Dk _).trans (c.map kt)),tB];rfl
section
open MineH (at_ cL fr)
theorem zV:∀l:List T3,eB (l.map xZ)=true:=by
 intro a
 induction a with
 |nil=>exact rfl
 |cons _ r b=>exact b
def vQ(q:Q4):V:=.tup [vN q.1,vN q.2.1,vN q.2.2.1,vN q.2.2.2]
def vT(t:T3):V:=.tup [vN t.1,vN t.2.1,vN t.2.2]
theorem Z6:∀l:List Q4,eB (l.map vQ)=true:=by
 intro a
 induction a with
 |nil=>exact rfl
 |cons _ r b=>simp only [cS,dT,dQ];rw [b];rfl
theorem Z5:∀l:List T3,eB (l.map vT)=true:=by
 intro a
 induction a with
 |nil=>exact rfl
 |cons _ r b=>simp only [cS,dT,dQ];rw [b];rfl
open Classical in
def dFl(A B:aW):Cu:=fun c us=>ob (atC c) fun as=>aI (fun a=>aI fun b=>aI fun c'=>aI fun d=>aN (if T5 A B as∧A.length<200∧B.length<200∧0≤a∧a≤b∧b≤A.length∧0≤c'∧c'≤d∧d≤B.length then some (.attrs as,xZ (Mx A B a.toNat b.toNat c'.toNat d.toNat))else aF)) us
open Classical in
theorem aCo{A B:aW}{as:lT}{alo ahi blo bhi:Nat}(h:T5 A B as)(a:A.length<200)(b:B.length<200)(c:alo≤ahi)(d:ahi≤A.length)(e:blo≤bhi)(f:bhi≤B.length):
  dFl A B (.attrs as) [vN alo,vN ahi,vN blo,vN bhi]=some (.attrs as,xZ (Mx A B alo ahi blo bhi)):=by
 show (if _ then _ else _)=_;rw [if_pos ⟨h,a,b,by exact bE Vd,by exact bE ö c,by exact bE ö d,by exact bE Vd,by exact bE ö e,by exact bE ö f⟩];rfl
open Classical in
theorem Ņ{n:Nat}(G:Gd)(A B:aW):∀c0 us c1 r,eB us=true→dFl A B c0 us=some (c1,r)→qW c0∧tL (n+3) (.ref 196) c0 us (fun c i=>c=c1∧i=r):=fun c0 us c1 r j e=>by refine aD2 e fun as e=>?_;refine Bz e fun a _ e=>?_;refine Bz e fun b _ e=>?_;refine Bz e fun c _ e=>?_;refine Bz e fun d _ e=>?_;refine pM e fun e=>?_;obtain ⟨k,e⟩:=iS e;obtain ⟨h,l,m,a0,f,o,c0,g,p⟩:=k;refine I8 e ?_;rintro rfl rfl;refine ⟨h.pure,?_⟩;have:=aNs (n:=n) G (alo:=a.toNat) (ahi:=b.toNat) (blo:=c.toNat) (bhi:=d.toNat) h (by exact bE aK8 f) (by exact bE aEk o) (by exact bE aK8 g) (by exact bE aEk p) l m;simp only [vN]at this;rwa[qT a0,qT (by exact bE 0xe31b04d6082c0320 a0 f:0≤b),qT c0,qT (by exact bE 0xe31b04d6082c0320 c0 g:0≤d)]at this
section
variable{A B:aW}{as:lT}
def sQ(A B:aW)(as:lT)(q:List Q4)(ms:List T3):St:=
 ⟨[(0,.inst 0),(1,vN A.length),(2,vN B.length),(3,.ref 1),(4,.ref 2)],[(2,.list (ms.map xZ)),(1,.list (q.reverse.map vQ)),(0,.attrs as)],3⟩
def sB(A B:aW)(as:lT)(q:List Q4)(ms:List T3)(e:Q4)(t:T3):St:=
 ⟨[(0,.inst 0),(1,vN A.length),(2,vN B.length),(3,.ref 1),(4,.ref 2),(5,vN e.1),(6,vN e.2.1),(7,vN e.2.2.1),(8,vN e.2.2.2),(9,vN t.1),(10,vN t.2.1),(11,vN t.2.2),(12,xZ t)],[(2,.list (ms.map xZ)),(1,.list (q.reverse.map vQ)),(0,.attrs as)],3⟩
def sP(A B:aW)(as:lT)(q:List Q4)(ms:List T3)(e:Q4):St:=
 ⟨[(0,.inst 0),(1,vN A.length),(2,vN B.length),(3,.ref 1),(4,.ref 2),(5,vN e.1),(6,vN e.2.1),(7,vN e.2.2.1),(8,vN e.2.2.2)],[(2,.list (ms.map xZ)),(1,.list (q.reverse.map vQ)),(0,.attrs as)],3⟩
def QOk(A B:aW)(q:List Q4):Prop:=∀e∈q,e.1≤e.2.1∧e.2.1≤A.length∧e.2.2.1≤e.2.2.2∧e.2.2.2≤B.length
noncomputable def mu(q:List Q4):Nat:=(q.map fun e=>2*(e.2.1-e.1)+1).sum
theorem Km:∀q:List Q4,q.length≤mu q:=by
 intro a
 induction a with
 |nil=>exact bG _
 |cons e q b=>have:=b;simp only [mu,cS,List.sum_cons,eJ]at this⊢;exact bE 0x18c5280a0f0168c838121003 this
theorem L6(e:Q4)(q:List Q4):mu (e::q)=2*(e.2.1-e.1)+1+mu q:=by rfl
inductive JQ(A B:aW)(as:lT)(m:Nat)(τ:St):Prop
 |mk (q:List Q4) (ms:List T3) (e:τ=sQ A B as q ms) (k:QOk A B q) (u:m=mu q) (l:m≤500) (p:(ms++q.flatMap (bl A B)).Perm (bl A B (0,A.length,0,B.length)))
theorem aGr{q:List Q4}{a:List T3}(h:(a++q.flatMap (bl A B)).Perm (bl A B (0,A.length,0,B.length)))(b:(bl A B (0,A.length,0,B.length)).length<64):a.length<64:=by have:=h.length_eq;simp only [aS]at this;exact bE 0x58c558c1c2b0204156307003 b this
theorem aC5(p:Prop)[Decidable p]{σ:St}{x:Int}{y:Int}(h:x<y↔p):some (V.bool (decide (x<y)),σ)=some (V.bool (decide p),σ):=by
 congr 3
 exact decide_eq_decide.mpr h
theorem ĝ(h:T5 A B as)(hA:A.length<200)(hB:B.length<200)(hl:(bl A B (0,A.length,0,B.length)).length<64){m:Nat}{τ:St}{P:Fl→iX}(hj:JQ A B as m τ)(hP:∀a:List T3,a.Perm (bl A B (0,A.length,0,B.length))→P .next (sQ A B as [] a)):
  GB (oB (aJ 3)) τ fun c τ'=>if c=true then Go (Dx (dFl A B) 3 τ') (Tz [0,1,2,3,4] 3 (JQ A B as) m P)else P .next τ':=by
 have N:lim=1048576:=rfl;obtain ⟨q,a,rfl,H,rfl,D,perm⟩:=hj;have dm:∀k,Da k (.attrs as)=true:=fun k=>Bg h.pure;have T:=aGr perm hl;have I:=Km q;have F:∀(p:List Q4)(J:List T3)(τ:St),A9 [0,1,2,3,4] τ=sQ A B as p J→QOk A B p→mu p<mu q→(J++p.flatMap (bl A B)).Perm (bl A B (0,A.length,0,B.length))→Wo [0,1,2,3,4] 3 (JQ A B as) (mu q) τ:=fun p J τ e ow lt' vp=>
  ⟨_,mu p,pY e (by rfl) (eH (by decide) (eQ (c:=.list (J.map xZ)) (fU (zV _))) (eH (by decide) (eQ (c:=.list (p.reverse.map vQ)) (fU (Z6 _))) (eH (by decide) (eQ (dm 3)) iW))),lt',p,J,rfl,ow,rfl,by exact bE 0x38c53cf7cc150029e7be6002 D lt',vp⟩
 cases q with
 |nil=>refine ⟨false,_,vZ (v:=.ref 1) (bL rfl) rfl,?_⟩;exact hP a (by simpa using perm)
 |cons e q=>
  obtain ⟨alo,ahi,blo,bhi⟩:=e;obtain ⟨o1,O,o3,Q⟩:=H (alo,ahi,blo,bhi) aR;have W:QOk A B q:=fun x g=>H x (aQ _ g);rw [L6]at F D I;simp only at o1 O o3 Q F D I;rw [eJ]at I;have X:(((alo,ahi,blo,bhi)::q).reverse.map vQ)=q.reverse.map vQ++[vQ (alo,ahi,blo,bhi)]:=by simp
  have vq:(q.reverse.map vQ++[vQ (alo,ahi,blo,bhi)]).length≤lim:=by simp;exact bE 0x1718a40838d28120f00e8c838d3cf7cc8120f00e8cbc6318c6386004 N D I
  refine ⟨true,sQ A B as ((alo,ahi,blo,bhi)::q) a,vZ (v:=.ref 1) (bL rfl) ?_,?_⟩
  ·refine (Ź (l:=((alo,ahi,blo,bhi)::q).reverse.map vQ) rfl (by rw [X];exact vq)).trans ?_;rw [X];simp
  show Go _ _;unfold Dx;refine bV (dE (v:=vQ (alo,ahi,blo,bhi)) (τ:=sQ A B as q a) (τ':=sP A B as q a (alo,ahi,blo,bhi)) ?_ rfl ?_)
  ·refine rL (u:=.ref 1) (bL rfl) rfl bZ ?_;show (if (((alo,ahi,blo,bhi)::q).reverse.map vQ).length≤lim then ((((alo,ahi,blo,bhi)::q).reverse.map vQ).getLast?).map (fun d=>(d,({sQ A B as ((alo,ahi,blo,bhi)::q) a with cells:=lQ 1 (.list (((alo,ahi,blo,bhi)::q).reverse.map vQ).dropLast) (sQ A B as ((alo,ahi,blo,bhi)::q) a).cells}:St)))else aF)=_;rw [X,if_pos vq,List.getLast?_concat,Zg];rfl
  rcases Y:Mx A B alo ahi blo bhi with ⟨i,j,k⟩;have r:=aMi (A:=A) (B:=B) (alo:=alo) (ahi:=ahi) (blo:=blo) (bhi:=bhi);rw [Y]at r;dsimp only at r;refine bV (dE (v:=xZ (i,j,k)) (τ:=sP A B as q a (alo,ahi,blo,bhi)) (τ':=sB A B as q a (alo,ahi,blo,bhi) (i,j,k)) ?_ rfl ?_)
  ·have:=aCo h hA hB o1 O o3 Q;rw [Y]at this;exact Zz (τ:=sP A B as q a (alo,ahi,blo,bhi)) (τ':=sP A B as q a (alo,ahi,blo,bhi)) (i:=0) (c:=.attrs as) (c0:=.attrs as) (bL rfl) rfl rfl (bB (bL rfl) (bB (bL rfl) (bB (bL rfl) (bB (bL rfl) bZ)))) rfl rfl this
  refine mO (gF (b:=decide (k≠0)) (τ:=sB A B as q a (alo,ahi,blo,bhi) (i,j,k)) (vZ (v:=vN k) (bL rfl) ?_) ?_)
  ·show some ((k:Int) != 0)=_
   congr 1
   by_cases o:k=0
   ·subst o;rfl
   ·simp [o]
  by_cases o:k=0
  ·rw [fT (by simpa using o)];rw [if_pos o]at r;refine iN ?_;refine F q a _ rfl W (by exact bE 0x462a4010780746002) ?_;rw [lF,r]at perm;exact perm
  rw [iM o];rw [if_neg o]at r;have c:=Ip Y o;have t:=c.a0;have L:=c.a1;have cb0:=c.b0;have Z:=c.b1;have fy:0<k:=dM o;let G:St:=⟨[(0,.inst 0),(1,vN A.length),(2,vN B.length),(3,.ref 1),(4,.ref 2),(5,vN alo),(6,vN ahi),(7,vN blo),(8,vN bhi),(9,vN i),(10,vN j),(11,vN k),(12,xZ (i,j,k))],[(2,.list ((a++[(i,j,k)]).map xZ)),(1,.list (q.reverse.map vQ)),(0,.attrs as)],3⟩;refine bV (nK (τ:=G) (rL (u:=.ref 2) (bL rfl) rfl (bB (bL rfl) bZ) ?_) ?_)
  ·refine (jH (l:=a.map xZ) rfl (by simp;exact bE 0x2c62900558c1c2bc6318c6386002 N T)).trans ?_;show some (V.none,_)=some (V.none,G);simp only [G,cE,cS,wL];rfl
  have two:∀f:List Q4,(f=q∨f=(alo,i,blo,j)::q)→(f.flatMap (bl A B)).Perm (bl A B (alo,i,blo,j)++q.flatMap (bl A B))→mu f≤2*(i-alo)+1+mu q→QOk A B f→∀(s:St),s=(⟨[(0,.inst 0),(1,vN A.length),(2,vN B.length),(3,.ref 1),(4,.ref 2),(6,vN ahi),(8,vN bhi),(9,vN i),(10,vN j),(11,vN k)],[(2,.list ((a++[(i,j,k)]).map xZ)),(1,.list (f.reverse.map vQ)),(0,.attrs as)],3⟩:St)→
    Go ((rP (kL (dU (bH Bk (bH fQ (aJ 9) (aJ 11)) (aJ 6))) (kL (dU (bH Bk (bH fQ (aJ 10) (aJ 11)) (aJ 8))) (fun σ=>some (true,σ)))) (sE (uF fD (aJ 3) (aK (fY (aK (bH fQ (aJ 9) (aJ 11)) (aK (aJ 6) (aK (bH fQ (aJ 10) (aJ 11)) (aK (aJ 8) bJ))))) bJ))) (lS .next)) 3 s) (Tz [0,1,2,3,4] 3 (JQ A B as) (2*(ahi-alo)+1+mu q) P):=fun f _ pq R C s hs=>by
   have aa1:=Km f;have gp:∀{x y n m:Nat},lk s.loc x=some (vN n)→lk s.loc y=some (vN m)→bH fQ (aJ x) (aJ y) s=some (vN (n+m),s):=fun {x y n m} g hy=>dN (bL g) (bL hy) (by show some (V.int ((n:Int)+(m:Int)),_)=_;rw [show (n:Int)+(m:Int)=((n+m:Nat):Int) by exact bE ú];rfl);subst hs;have done:¬(i+k<ahi∧j+k<bhi)→(a++[(i,j,k)]++f.flatMap (bl A B)).Perm (bl A B (0,A.length,0,B.length)):=fun hn=>by have e2:bl A B (i+k,ahi,j+k,bhi)=[]:=Wl (by exact bE 0x2e18b52808c89404027498a2202350901005 hn);rw [lF,r,e2]at perm;refine Zh ?_ perm;refine vV.mpr fun x=>?_;have:=vV.mp pq x;simp only [aDj,aIv,aI9]at this⊢;exact bE 0x7462b42048410c11a008410c35a041005 this
   refine mO (gW (gF (b:=decide (i+k<ahi)) (kH (dN (gp rfl rfl) (bL rfl) (aC5 _ jV))) ?_));by_cases c1:i+k<ahi
   ·rw [iM c1];refine gW (gF (b:=decide (j+k<bhi)) (kH (dN (gp rfl rfl) (bL rfl) (aC5 _ jV))) ?_);by_cases c2:j+k<bhi
    ·rw [iM c2];refine wQ ?_;show Go _ _;refine nK (rL (u:=.ref 1) (bL rfl) rfl (bB (jE (bB (gp rfl rfl) (bB (bL rfl) (bB (gp rfl rfl) (bB (bL rfl) bZ)))) lm4) bZ) (jH (l:=f.reverse.map vQ) rfl (by simp;exact bE 0x915141000100091512024564a29298bb328482f0c4497462ecc9414e83c01a317464f3df320a741e01d1978c6318c70c534cc21ccc1008 N D R aa1 c1))) ?_;refine F ((i+k,ahi,j+k,bhi)::f) (a++[(i,j,k)]) _ ?_ (fun x g=>?_) ?_ ?_
     ·have:((i+k,ahi,j+k,bhi)::f).reverse.map vQ=f.reverse.map vQ++[vQ (i+k,ahi,j+k,bhi)]:=by simp
      simp only [sQ,this];rfl
     ·rcases aU.mp g with rfl|g
      ·exact ⟨by simp only;exact bE 0xc6291202050901003 c1,by simp only;exact bE Ra O,by simp only;exact bE 0xc6291202050901003 c2,by simp only;exact bE Ra Q⟩
      ·exact C x g
     ·rw [L6];simp only;exact bE 0x800008000002000200008000020080000800000200800008000002000200008000020002000080000200105002200002001044422000020051520bb320f0068c82e8c83c03a328a6414e34a0bb320f0168c5d192323a4b314f330c93320811ccc1006 o t R c1
     ·rw [lF,r]at perm;refine Zh ?_ perm;refine vV.mpr fun x=>?_;have:=vV.mp pq x;rw [lF];simp only [aDj,aIv,aI9]at this⊢;exact bE 0x7462b42048410a608d08014c8410c35a041006 this
    ·rw [fT c2];refine iN ?_;exact F f (a++[(i,j,k)]) _ rfl C (by exact bE 0x4111001010401022064a2a414e83c01a314ca220ba3092829d0780746299221ccc21ccc1006 t R c1) (done fun z=>c2 z.2)
   ·rw [fT c1];refine iN ?_;exact F f (a++[(i,j,k)]) _ rfl C (by exact bE 0x202800020080020000200820080002001111280020051520ba320f0068c53a505d19078074629d24414c24886e92cc534cc21ccc1006 o t L R) (done fun z=>c1 z.1)
  refine bV (mO (gW (gF (b:=decide (alo<i)) (τ:=G) (kH (dN (bL rfl) (bL rfl) (aC5 _ jV))) ?_)));have np:¬(alo<i∧blo<j)→Go (qD [0,1,2,3,4,6,8,9,10,11] (rP (kL (dU (bH Bk (bH fQ (aJ 9) (aJ 11)) (aJ 6))) (kL (dU (bH Bk (bH fQ (aJ 10) (aJ 11)) (aJ 8))) (fun σ=>some (true,σ)))) (sE (uF fD (aJ 3) (aK (fY (aK (bH fQ (aJ 9) (aJ 11)) (aK (aJ 6) (aK (bH fQ (aJ 10) (aJ 11)) (aK (aJ 8) bJ))))) bJ))) (lS .next)) 3 G) (Tz [0,1,2,3,4] 3 (JQ A B as) (2*(ahi-alo)+1+mu q) P):=fun hn=>by refine gL rfl ?_;have e1:bl A B (alo,i,blo,j)=[]:=Wl (by exact bE 0x2e18b5221a4017498a18941004 hn);exact two q (.inl rfl) (by rw [e1];exact .refl _) (by exact bE 0x46294010780746002) W _ rfl
  by_cases c1:alo<i
  ·rw [iM c1];refine gW (gF (b:=decide (blo<j)) (τ:=G) (kH (dN (bL rfl) (bL rfl) (aC5 _ jV))) ?_);by_cases c2:blo<j
   ·rw [iM c2];refine wQ ?_;show Go _ _;refine nK (rL (u:=.ref 1) (bL rfl) rfl (bB (jE (bB (bL rfl) (bB (bL rfl) (bB (bL rfl) (bB (bL rfl) bZ)))) lm4) bZ) (jH (l:=q.reverse.map vQ) rfl (by simp;exact bE 0x5c62900d28120f00e8c838d3cf7cc8120f00e8cbc6318c6386004 N D I))) ?_;show Go _ _;refine gL rfl ?_;refine two ((alo,i,blo,j)::q) (.inr rfl) (.refl _) (by rw [L6];exact bG _) (fun x g=>?_) _ ?_
    ·rcases aU.mp g with rfl|g
     ·exact ⟨by simp only;exact bE 0xc62908141002 c1,by simp only;exact bE aD6 O L,by simp only;exact bE 0xc62908141002 c2,by simp only;exact bE aD6 Q Z⟩
     ·exact W x g
    ·have:((alo,i,blo,j)::q).reverse.map vQ=q.reverse.map vQ++[vQ (alo,i,blo,j)]:=by simp
     rw [this];rfl
   ·rw [fT c2];exact iN (np fun z=>c2 z.2)
  ·rw [fT c1];exact iN (np fun z=>c1 z.1)
end
end
section
open MineH (at_ cL fr)
section
variable{A B:aW}{as:lT}
def sN(A B:aW)(as:lT)(x:List (Nat×V))(ay:T3)(bc:List T3):St:=
 ⟨(0,.inst 0)::(1,vN A.length)::(2,vN B.length)::(x++[(13,vN ay.1),(14,vN ay.2.1),(15,vN ay.2.2),(16,.ref 1)]),[(1,.list (bc.map vT)),(0,.attrs as)],2⟩
inductive JN(A B:aW)(as:lT)(bs:List T3)(p:Nat)(τ:St):Prop
 |mk (x:List (Nat×V)) (ay:T3) (bc:List T3) (h:x=[]∨x=[(4,V.lst (bs.map xZ))]) (e:τ=sN A B as x ay bc) (l:bc.length≤p) (g:bc++glue ay (bs.drop p)=glue (0,0,0) bs)
theorem X7{i j k i' a b:Nat}{r:List T3}:glue (i,j,k) ((i',a,b)::r)=if i+k=i'∧j+k=a then glue (i,j,k+b) r else if k=0 then glue (i',a,b) r else (i,j,k)::glue (i',a,b) r:=rfl
theorem ğ{i j k:Nat}:glue (i,j,k) []=if k=0 then[]else[(i,j,k)]:=rfl
theorem Ğ{h:List T3}{p:Nat}{τ:St}{t:T3}(P:∀k,Da k (.attrs as)=true)(Q:h.length<64)(R:h[p]?=some t)(T:JN A B as h p τ):
  ∃τ',X9 [bY 17,bY 18,bY 19] (xZ t) τ=some τ'∧Go (Ic (dFl A B) 2 τ') (xT [0,1,2,13,14,15,16] 2 (JN A B as h (p+1)) (fun _=>False) (fun _ _=>False)):=by
 obtain ⟨x,⟨i,j,d⟩,o,W,rfl,H,C⟩:=T;obtain ⟨f,g,tk⟩:=t;obtain ⟨L,X⟩:=cU.mp R;have hd:h.drop p=(f,g,tk)::h.drop (p+1):=by simp only [iL L,X]
 simp only [hd,X7]at C;have J:∀(I:T3)(F:List T3)(τ:St),A9 [0,1,2,13,14,15,16] τ=sN A B as [] I F→F.length≤p+1→F++glue I (h.drop (p+1))=glue (0,0,0) h→I0 [0,1,2,13,14,15,16] 2 (JN A B as h (p+1)) τ:=fun I F τ e Y Z=>
  ⟨_,pY e (by rfl) (eH (by decide) (eQ (c:=.list (F.map vT)) (fU (Z5 _))) (eH (by decide) (eQ (P 2)) iW)),[],I,F,.inl rfl,rfl,Y,Z⟩
 have N:∀(a b c:Nat),(decide ((a:Int)+(b:Int)=(c:Int)))=decide (a+b=c):=fun a b c=>decide_eq_decide.mpr (Int.ofNat_inj (m:=a+b));rcases W with rfl|rfl;all_goals
  refine ⟨_,rfl,?_⟩;unfold Ic;refine mO (gW (gF (b:=decide (i+d=f)) (kH (dN (dN (bL rfl) (bL rfl) rfl) (bL rfl) ((Mv _ _ _).trans (by rw [N])))) ?_));have O:¬(i+d=f∧j+d=g)→∀s:St,(s=⟨(0,.inst 0)::(1,vN A.length)::(2,vN B.length)::([]++[(13,vN i),(14,vN j),(15,vN d),(16,.ref 1),(17,vN f),(18,vN g),(19,vN tk)]),[(1,.list (o.map vT)),(0,.attrs as)],2⟩∨s=⟨(0,.inst 0)::(1,vN A.length)::(2,vN B.length)::([(4,V.lst (h.map xZ))]++[(13,vN i),(14,vN j),(15,vN d),(16,.ref 1),(17,vN f),(18,vN g),(19,vN tk)]),[(1,.list (o.map vT)),(0,.attrs as)],2⟩)→
    Go ((dW (rP (oB (aJ 15)) (sE (uF fD (aJ 16) (aK (fY (aK (aJ 13) (aK (aJ 14) (aK (aJ 15) bJ)))) bJ))) (lS .next)) (qD [0,1,2,16,17,18,19] (eS (fY (aK (aJ 17) (aK (aJ 18) (aK (aJ 19) bJ)))) (Gu [bY 15,bY 14,bY 13])))) 2 s) (xT [0,1,2,13,14,15,16] 2 (JN A B as h (p+1)) (fun _=>False) (fun _ _=>False)):=fun ca s y=>by
   rw [if_neg ca]at C;have G:lk s.loc 15=some (vN d):=by rcases y with rfl|rfl<;>rfl
   refine bV (mO (gF (b:=decide (d≠0)) (τ:=s) (vZ (v:=vN d) (bL G) ?_) ?_))
   ·show some ((d:Int) != 0)=_
    congr 1
    by_cases D:d=0
    ·subst D;rfl
    ·simp [D]
   by_cases D:d=0
   ·rw [fT (by simpa using D)];rw [if_pos D]at C;refine iN ?_;refine gL (σ':=⟨[(0,.inst 0),(1,vN A.length),(2,vN B.length),(16,.ref 1),(17,vN f),(18,vN g),(19,vN tk)],[(1,.list (o.map vT)),(0,.attrs as)],2⟩) (by rcases y with rfl|rfl<;>rfl) ?_;refine dE (v:=vT (f,g,tk)) (jE (bB (bL rfl) (bB (bL rfl) (bB (bL rfl) bZ))) Hr) rfl ?_;exact J (f,g,tk) o _ rfl (by exact bE Xp H) C
   ·rw [iM D];rw [if_neg D]at C;refine nK (τ:={s with cells:=[(1,.list ((o++[(i,j,d)]).map vT)),(0,.attrs as)]}) (rL (u:=.ref 1) (us:=[vT (i,j,d)]) (l:=o.map vT) (τ:=s) (τ':=s) (bL (by rcases y with rfl|rfl<;>rfl)) (by rcases y with rfl|rfl<;>rfl) (bB (jE (bB (bL (by rcases y with rfl|rfl<;>rfl)) (bB (bL (by rcases y with rfl|rfl<;>rfl)) (bB (bL G) bZ))) Hr) bZ) ((jH (l:=o.map vT) (by rcases y with rfl|rfl<;>rfl) (by simp;exact bE 0x3718a4225006918978c6318c70c156307004 Q (rfl:lim=1048576) H L)).trans (by rw [cE];rcases y with rfl|rfl<;>rfl))) ?_;refine gL (σ':=⟨[(0,.inst 0),(1,vN A.length),(2,vN B.length),(16,.ref 1),(17,vN f),(18,vN g),(19,vN tk)],[(1,.list ((o++[(i,j,d)]).map vT)),(0,.attrs as)],2⟩) (by rcases y with rfl|rfl<;>rfl) ?_;refine dE (v:=vT (f,g,tk)) (jE (bB (bL rfl) (bB (bL rfl) (bB (bL rfl) bZ))) Hr) rfl ?_;refine J (f,g,tk) (o++[(i,j,d)]) _ rfl (by simp;exact bE Ra H) ?_;rw [bU];exact C
  by_cases c1:i+d=f
  ·rw [iM c1];refine gW (gF (b:=decide (j+d=g)) (kH (dN (dN (bL rfl) (bL rfl) rfl) (bL rfl) ((Mv _ _ _).trans (by rw [N])))) ?_);by_cases c2:j+d=g
   ·rw [iM c2];refine wQ ?_;show Go _ _;rw [if_pos ⟨c1,c2⟩]at C;refine S9 (old:=vN d) (v:=vN tk) (r:=vN (d+tk)) rfl (bL rfl) Lf ?_;exact J (i,j,d+tk) o _ rfl (by exact bE Xp H) C
   ·rw [fT c2];exact O (fun z=>c2 z.2) _ (by first|exact .inl rfl|exact .inr rfl)
  ·rw [fT c1];exact O (fun z=>c1 z.1) _ (by first|exact .inl rfl|exact .inr rfl)
theorem aA0:∀l:List T3,oX ì (l.map vT)=some (l.map xZ):=by
 intro a
 induction a with
 |nil=>exact rfl
 |cons t r b=>rw [cS];simp only [A6,A5];rw [b];rfl
theorem Pq:∀(d:List T3)(c:T3),(glue c d).length≤d.length+1:=by
 intro f
 induction f with
 |nil=>intro g;obtain ⟨i,j,k⟩:=g;simp only [Dq,Dp];split<;>simp
 |cons h r a=>
  obtain ⟨i',e,b⟩:=h;intro l;obtain ⟨i,j,k⟩:=l;simp only [Dq,Dp];split
  ·have:=a (i,j,k+b);simp;exact bE aEe this
  ·split
   ·have:=a (i',e,b);simp;exact bE aEe this
   ·have:=a (i',e,b);simp;exact bE 0xc62941c204a0e1002 this
theorem î:mbs A B=glue (0,0,0) (bl A B (0,A.length,0,B.length))++[(A.length,B.length,0)]:=rfl
theorem aBt(h:T5 A B as)(jp:oM as (aC "matching_blocks")=some .none)(F:A.length<200)(T:B.length<200)(y:(bl A B (0,A.length,0,B.length)).length<64):
  Go (Ĩ (dFl A B) 1 ⟨[(0,.inst 0)],[(0,.attrs as)],1⟩) fun f τ=>f=.ret (yE A B)∧lk τ.cells 0=some (.attrs (jZ (aC "matching_blocks") (yE A B) as)):=by
 have H:lim=1048576:=rfl;have W:∀k,Da k (.attrs as)=true:=fun k=>Bg h.pure;let s0:St:=⟨[(0,.inst 0)],[(0,.attrs as)],1⟩;refine (?_:Go (Ĩ (dFl A B) 1 s0) _);refine bV (H8 ?_);refine bV (zY (τ:=s0) (kH (dN (oH (bL rfl) rfl jp rfl) rfl rfl)) (iN ?_));refine gL (σ':=s0) rfl ?_;let s1:St:=⟨[(0,.inst 0),(1,vN A.length),(2,vN B.length)],[(0,.attrs as)],1⟩;refine bV (dE (v:=.tup [vN A.length,vN B.length]) (τ:=s0) (τ':=⟨[(0,.inst 0),(2,vN B.length),(1,vN A.length)],[(0,.attrs as)],1⟩) (jE (bB (lO (bB (oH (bL rfl) rfl h.a rfl) bZ) (Bf A F _)) (bB (lO (bB (oH (bL rfl) rfl h.b rfl) bZ) (Bf B T _)) bZ)) (by refine (?_:(2:Nat)≤1048576);simp)) rfl ?_);refine bV (dE (v:=.ref 1) (τ:=⟨[(0,.inst 0),(2,vN B.length),(1,vN A.length)],[(1,.list [vQ (0,A.length,0,B.length)]),(0,.attrs as)],2⟩) (nQ (τ:=⟨[(0,.inst 0),(2,vN B.length),(1,vN A.length)],[(0,.attrs as)],1⟩) (vs:=[vQ (0,A.length,0,B.length)]) (bB (v:=vQ (0,A.length,0,B.length)) (jE (bB (v:=vN 0) rfl (bB (v:=vN A.length) (bL rfl) (bB (v:=vN 0) rfl (bB (v:=vN B.length) (bL rfl) bZ)))) lm4) bZ) lm1) rfl ?_);refine bV (dE (v:=.ref 2) (nQ bZ Ea) rfl ?_);refine gL (σ':=sQ A B as [(0,A.length,0,B.length)] []) rfl ?_;have wl:Go (qK [0,1,2,3,4] (oB (aJ 3)) (Dx (dFl A B)) 1 (sQ A B as [(0,A.length,0,B.length)] [])) fun f τ=>f=.next∧∃a:List T3,a.Perm (bl A B (0,A.length,0,B.length))∧τ=sQ A B as [] a:=by
  refine Do (JQ A B as) (2*A.length+1) (by show _<1048576;exact bE 0x125156318c631c320f0068cac6766001 F) (by show (1:Nat)≤3;decide) ⟨_,_,rfl,fun e he=>?_,?_,by exact bE 0x12514f3df320f0068cac6766001 F,?_⟩ (fun m τ I=>ĝ (P:=fun f τ=>f=.next∧∃a:List T3,a.Perm (bl A B (0,A.length,0,B.length))∧τ=sQ A B as [] a) h F T y I (fun a J=>⟨rfl,a,J,rfl⟩))
  ·rw [aM.mp he];exact ⟨bW _,bG _,bW _,bG _⟩
  ·simp [mu]
  ·simp
 refine bV (wl.mono ?_);rintro _ _ ⟨rfl,a,J,rfl⟩;show Go _ _;let L:St:=⟨[(0,.inst 0),(1,vN A.length),(2,vN B.length),(4,.ref 2)],[(2,.list (a.map xZ)),(1,.list []),(0,.attrs as)],3⟩;refine gL (σ':=L) rfl ?_;unfold Pv;have vt:aM4 (fun t u:T3=>t.1<u.1) (bl A B (0,A.length,0,B.length)):=Tt _ _ _ _ _;generalize N:bl A B (0,A.length,0,B.length)=c at *;let s3:St:=⟨[(0,.inst 0),(1,vN A.length),(2,vN B.length),(4,.ref 2)],[(2,.list (c.map xZ)),(1,.list []),(0,.attrs as)],3⟩;refine bV (nK (τ:=s3) (rL (u:=.ref 2) (τ:=L) (τ':=L) (us:=[]) (l:=a.map xZ) (bL rfl) rfl bZ (by show ob (Hb kMt (a.map xZ)) _=_;rw [W7 J vt y];rfl)) ?_);let s4:St:=⟨[(0,.inst 0),(1,vN A.length),(2,vN B.length),(4,.lst (c.map xZ))],[(0,.attrs as)],1⟩;refine S8 (σ':=s4) (Ik (cO rfl (cO rfl (cO rfl (cO (qV (by decide) rfl (zV _)) rfl)))) (mK (by decide) (mK (by decide) (eH (by decide) (eQ (W 1)) iW)))) ?_;refine bV (dE rfl rfl ?_);refine bV (dE (v:=.ref 1) (nQ bZ Ea) rfl ?_);refine gL (σ':=sN A B as [(4,.lst (c.map xZ))] (0,0,0) []) rfl ?_;refine bV (wP (fun _=>False) (JN A B as c) (ds:=c.map xZ) (τ:=sN A B as [(4,.lst (c.map xZ))] (0,0,0) []) (qB (bL rfl) (zV _)) (fI _) ⟨_,_,_,.inr rfl,rfl,bG _,rfl⟩ (fun i rq v z I=>?_) (fun τ' hd=>?_))
 ·rw [gJ]at z
  cases O:c[i]? with
  |none=>rw [O]at z;exact iE z
  |some t=>rw [O]at z;refine oQ z ?_;rintro rfl;obtain ⟨τ',e,g⟩:=Ğ W y O I;refine ⟨τ',e,g.mono fun f τ p=>?_⟩;cases f<;>first|exact p|exact p.elim
 ·obtain ⟨x,⟨Q,R,d⟩,C,hx,rfl,X,r⟩:=hd.resolve_right id;rw [bF]at X r;rw [kP,ğ]at r;show Go _ _;refine gL (σ':=sN A B as [] (Q,R,d) C) (by rcases hx with rfl|rfl<;>rfl) ?_;unfold Pu;have fin:∀(o:List T3),o=glue (0,0,0) c→∀s:St,A9 [0,1,2,16] s=⟨[(0,.inst 0),(1,vN A.length),(2,vN B.length),(16,.ref 1)],[(1,.list (o.map vT)),(0,.attrs as)],2⟩→Go ((qD [0,1,2,16] (dW (sE (uF fD (aJ 16) (aK (fY (aK (aJ 1) (aK (aJ 2) (aK (gK (.int 0)) bJ)))) bJ))) (dW (eS (Ĥ (aJ 16)) (Dv (aC "matching_blocks") (aJ 0))) (wT (rQ (aC "matching_blocks") (aJ 0)))))) 1 s) fun f τ=>f=.ret (yE A B)∧lk τ.cells 0=some (.attrs (jZ (aC "matching_blocks") (yE A B) as)):=fun o Y s hs=>by
   have Z:o.length≤65:=by rw [Y];have:=Pq c (0,0,0);exact bE 0x38c539c1c2941c0156307002 y this
   refine gL hs ?_;have D:yE A B=.lst ((o++[(A.length,B.length,0)]).map xZ):=by unfold yE;rw [î,N,Y]
   let G:St:=⟨[(0,.inst 0),(1,vN A.length),(2,vN B.length),(16,.ref 1)],[(1,.list ((o++[(A.length,B.length,0)]).map vT)),(0,.attrs as)],2⟩;refine bV (nK (τ:=G) (rL (u:=.ref 1) (us:=[vT (A.length,B.length,0)]) (l:=o.map vT) (bL rfl) rfl (bB (jE (bB (bL rfl) (bB (bL rfl) (bB rfl bZ))) Hr) bZ) ((jH (l:=o.map vT) rfl (by simp;exact bE 0x2c62900539c1c2bc6318c6386002 H Z)).trans (by simp only [G,cE];rfl))) ?_);refine bV (dE (v:=yE A B) (τ:=G) (τ':=⟨[(0,.inst 0),(1,vN A.length),(2,vN B.length),(16,.ref 1)],[(1,.list ((o++[(A.length,B.length,0)]).map vT)),(0,.attrs (jZ (aC "matching_blocks") (yE A B) as))],2⟩) ?_ (aFw (i:=0) (bL rfl) rfl) ?_)
   ·rw [D];exact aJg (τ:=G) (u:=.ref 1) (bL rfl) rfl (aA0 _) (by simp;exact bE 0xb18a40838539c1c2bc6318c6386002 H Z)
   ·exact tS (oH (n:=0) (bL rfl) rfl (by rw [mL,if_pos rfl]) (by rw [D];rfl)) ⟨rfl,rfl⟩
  refine bV (mO (gF (b:=decide (d≠0)) (vZ (v:=vN d) (bL rfl) ?_) ?_))
  ·show some ((d:Int) != 0)=_
   congr 1
   by_cases j:d=0
   ·subst j;rfl
   ·simp [j]
  by_cases j:d=0
  ·rw [fT (by simpa using j)];rw [if_pos j,bP]at r;exact iN (fin C r _ rfl)
  ·rw [iM j];rw [if_neg j]at r;refine nK (rL (u:=.ref 1) (us:=[vT (Q,R,d)]) (l:=C.map vT) (bL rfl) rfl (bB (jE (bB (bL rfl) (bB (bL rfl) (bB (bL rfl) bZ))) Hr) bZ) (jH (l:=C.map vT) rfl (by simp;exact bE 0x2e314804908958c1c2bc6318c6386003 H y X))) ?_;refine fin (C++[(Q,R,d)]) r _ ?_;rw [cE];rfl
theorem Ĝ(b:∀p∈as,p.2.pure=true)(a:oM as (aC "matching_blocks")=some (yE A B)):
  Go (Ĩ (dFl A B) 1 ⟨[(0,.inst 0)],[(0,.attrs as)],1⟩) fun f τ=>f=.ret (yE A B)∧lk τ.cells 0=some (.attrs as):=by
 let s0:St:=⟨[(0,.inst 0)],[(0,.attrs as)],1⟩;refine (?_:Go (Ĩ (dFl A B) 1 s0) _);refine bV (H8 ?_);refine bV (S7 (τ:=s0) (kH (dN (oH (bL rfl) rfl a rfl) rfl rfl)) ?_);exact tS (oH (bL rfl) rfl a rfl) ⟨rfl,rfl⟩
end
section
variable{n:Nat}
theorem uP(A B:aW):(yE A B).pure=true:=zV _
end
end
section
set_option backward.match.sparseCases false
open MineH (at_ cL fr)
def Vi:qM→Bool
 |some .none=>true
 |_=>false
def gA(A B:aW)(as:lT):lT:=if Vi (oM as (aC "matching_blocks"))=true then jZ (aC "matching_blocks") (yE A B) as else as
structure Gc(A B:aW)(as:lT):Prop where
 at_:T5 A B as
 mb:oM as (aC "matching_blocks")=some .none∨oM as (aC "matching_blocks")=some (yE A B)
 la:A.length<200
 lb:B.length<200
 few:(bl A B (0,A.length,0,B.length)).length<64
section
variable{n:Nat}
theorem aKj(G:Gd){A B:aW}{as:lT}(h:Gc A B as):tL (n+4) (.ref 203) (.attrs as) [] (fun c r=>c=.attrs (gA A B as)∧r=yE A B):=by
 refine yJ (fd:=jS MineH.o203v0) (o:=MineH.o203v0) (tab:=Sa) (body:=cL (at_ [5,7])) (aMe w.params) (G.K 203 _ (by kernel_rfl)) rfl G.lim (codeRec_of G.K (by kernel_rfl)) rfl (fun vs h=>?_) (by refine (?_:(1:Nat)≤20);decide) h.at_.pure (fun L=>?_) rfl
 ·revert vs;exact ll1 fun _=>by kernel_rfl
 ·rcases h.mb with a|a
  ·obtain ⟨f,τ,e,rfl,b⟩:=aBt h.at_ a h.la h.lb h.few;refine jY (aEz G (Ņ G A B) 1 _ _ _ e) ?_;rintro _ _ ⟨rfl,rfl⟩;have d:=lK (s:=aC "matching_blocks") (uP A B) h.at_.pure;exact ⟨_,_,_,b,sU d,d,dF (uP A B),uP A B,by unfold gA;rw [a];rfl,rfl⟩
  ·obtain ⟨f,τ,e,rfl,b⟩:=Ĝ h.at_.pure a;refine jY (aEz G (Ņ G A B) 1 _ _ _ e) ?_;rintro _ _ ⟨rfl,rfl⟩;exact ⟨_,_,_,b,sU h.at_.pure,h.at_.pure,dF (uP A B),uP A B,by unfold gA;rw [a];rfl,rfl⟩
end
open Classical in
def dG(A B:aW):lT→Option (lT×V):=fun as=>if Gc A B as then some (gA A B as,yE A B)else aF
theorem Gc.pin{A B:aW}{as:lT}(h:Gc A B as)(a:cY):Gc A B ((aC "opcodes",.fn (.ref a))::as):=by
 refine ⟨⟨fun p b=>?_,?_,?_,?_,?_⟩,?_,h.la,h.lb,h.few⟩
 ·rcases aU.mp b with rfl|b
  ·rfl
  ·exact h.at_.pure p b
 all_goals rw [mM (by decide)]
 ·exact h.at_.a
 ·exact h.at_.b
 ·exact h.at_.bjunk
 ·exact h.at_.b2j
 ·exact h.mb
theorem aFc{n:Nat}(G:Gd)(A B:aW):∀as d r,(∀p∈as,p.2.pure=true)→dG A B as=some (d,r)→∀a,tL (n+4) (.ref 203) (.attrs ((aC "opcodes",.fn (.ref a))::as)) [] (fun c g=>(∃f,c=.attrs f∧(aC "opcodes",V.fn (.ref a))∈f∧∀p∈d,p∈f)∧g=r):=fun as d r b e a=>by
 unfold dG at e;split at e
 ·rename_i h;refine I8 e ?_;rintro rfl rfl;have:=aKj (n:=n) G (h.pin a);refine fun A' Y i tk x c vs a1 j k l m o s t u=>bN (this A' Y i tk x c vs a1 j k l m o s t u) (fun v s' p=>?_) fun _ _ z=>z;refine nn fun y=>?_;obtain ⟨h',C,c1,r,e,D,F,H,I,J,L,rfl,rfl⟩:=p;refine y ?_;refine ⟨h',C,_,_,e,D,F,H,I,J,L,⟨_,rfl,?_,?_⟩,rfl⟩
  ·unfold gA;split
   ·refine aQ _ ?_;exact aR
   ·exact aR
  ·unfold gA;rw [mM (by decide)];split
   ·intro p b;rcases aU.mp b with rfl|b
    ·exact aR
    ·refine aQ _ ?_;simp only [M8,M7];rw [if_neg (pW (by decide))];exact aQ _ b
   ·exact fun p b=>aQ _ b
 ·exact iE e
section
variable{A B:aW}{as:lT}
theorem uR:∀l:List Iw,eB (l.map C5)=true:=by
 intro a
 induction a with
 |nil=>exact rfl
 |cons _ r b=>exact b
theorem uO(A B:aW):(yD A B).pure=true:=uR _
def sG(as:lT)(x:List (Nat×V))(i j:Nat)(bc:List Iw):St:=
 ⟨x++[(1,vN i),(2,vN j),(3,.ref 1)],[(1,.list (bc.map C5)),(0,.attrs ((aC "opcodes",.ref 1)::as))],2⟩
inductive JG(as:lT)(bs:List T3)(p:Nat)(τ:St):Prop
 |mk (x:List (Nat×V)) (i j:Nat) (bc:List Iw) (h:x=[]∨x=[(0,V.inst 0)]) (e:τ=sG as x i j bc) (l:bc.length≤2*p) (g:bc++xG i j (bs.drop p)=xG 0 0 bs)
theorem Kf{i j a b k:Nat}{r:List T3}:xG i j ((a,b,k)::r)=(if i<a∧j<b then[(mU.replace,i,a,j,b)]else if i<a then[(mU.delete,i,a,j,b)]else if j<b then[(mU.insert,i,a,j,b)]else[])++
   (if k=0 then[]else[(mU.equal,a,a+k,b,b+k)])++xG (a+k) (b+k) r:=rfl
theorem Å{k:Nat}(a:1<k)(b:∀p∈as,p.2.pure=true):Da k (.attrs ((aC "opcodes",.ref 1)::as))=true:=by refine (?_:(C1 _ _)=true);simp only [gV,gG];exact ⟨by simp [stay,a],Bg b⟩
theorem ě{d:lT→Option (lT×V)}{m:List T3}{p:Nat}{τ:St}{t:T3}(N:∀p∈as,p.2.pure=true)(Y:m.length<1000)(O:m[p]?=some t)(hj:JG as m p τ):
  ∃τ',X9 [bY 4,bY 5,bY 6] (xZ t) τ=some τ'∧Go (Ib d 2 τ') (xT [1,2,3] 2 (JG as m (p+1)) (fun _=>False) (fun _ _=>False)):=by
 have Z:lim=1048576:=rfl;obtain ⟨x,i,j,r,hx,rfl,P,G⟩:=hj;obtain ⟨a,g,k⟩:=t;obtain ⟨Q,ep⟩:=cU.mp O;have hd:m.drop p=(a,g,k)::m.drop (p+1):=by simp only [iL Q,ep]
 simp only [hd,Kf]at G;have cf:∀(i' I:Nat)(F:List Iw)(τ:St),A9 [1,2,3] τ=sG as [] i' I F→F.length≤2*(p+1)→F++xG i' I (m.drop (p+1))=xG 0 0 m→I0 [1,2,3] 2 (JG as m (p+1)) τ:=fun i' I F τ e R H=>
  ⟨_,pY e (by rfl) (eH (by decide) (eQ (c:=.list (F.map C5)) (fU (uR _))) (eH (by decide) (eQ (Å (by decide) N)) iW)),[],i',I,F,.inl rfl,rfl,R,H⟩
 let sT:jX→List Iw→St:=fun h o=>⟨[(1,vN i),(2,vN j),(3,.ref 1),(4,vN a),(5,vN g),(6,vN k),(7,.str h)],[(1,.list (o.map C5)),(0,.attrs ((aC "opcodes",.ref 1)::as))],2⟩;have bp:∀(o:List Iw),o.length≤2*p+1→o++((if k=0 then[]else[(mU.equal,a,a+k,g,g+k)])++xG (a+k) (g+k) (m.drop (p+1)))=xG 0 0 m→∀s:St,A9 [3,4,5,6] s=⟨[(3,.ref 1),(4,vN a),(5,vN g),(6,vN k)],[(1,.list (o.map C5)),(0,.attrs ((aC "opcodes",.ref 1)::as))],2⟩→
   Go ((qD [3,4,5,6] (dW (eS (fY (aK (bH fQ (aJ 4) (aJ 6)) (aK (bH fQ (aJ 5) (aJ 6)) bJ))) (Gu [bY 2,bY 1])) (rP (oB (aJ 6)) (sE (uF fD (aJ 3) (aK (fY (aK (gK (.str (aC "equal"))) (aK (aJ 4) (aK (aJ 1) (aK (aJ 5) (aK (aJ 2) bJ)))))) bJ))) (lS .next)))) 2 s) (xT [1,2,3] 2 (JG as m (p+1)) (fun _=>False) (fun _ _=>False)):=fun o T J s y=>by
  refine gL y ?_;let L:St:=⟨[(3,.ref 1),(4,vN a),(5,vN g),(6,vN k),(2,vN (g+k)),(1,vN (a+k))],[(1,.list (o.map C5)),(0,.attrs ((aC "opcodes",.ref 1)::as))],2⟩;refine bV (dE (v:=.tup [vN (a+k),vN (g+k)]) (τ':=L) (jE (bB (dN (bL rfl) (bL rfl) Rr) (bB (dN (bL rfl) (bL rfl) Rr) bZ)) Cz) rfl ?_);refine mO (gF (b:=decide (k≠0)) (τ:=L) (vZ (v:=vN k) (bL rfl) ?_) ?_)
  ·show some ((k:Int) != 0)=_
   congr 1
   by_cases C:k=0
   ·subst C;rfl
   ·simp [C]
  by_cases C:k=0
  ·rw [fT (by simpa using C)];rw [if_pos C,dK]at J;refine iN ?_;exact cf (a+k) (g+k) o _ rfl (by exact bE 0x318a608387460250780746002 T) J
  ·rw [iM C];rw [if_neg C]at J;refine nK (rL (u:=.ref 1) (us:=[C5 (mU.equal,a,a+k,g,g+k)]) (l:=o.map C5) (τ:=L) (τ':=L) (bL rfl) rfl (bB (jE (bB rfl (bB (bL rfl) (bB (bL rfl) (bB (bL rfl) (bB (bL rfl) bZ))))) lm5) bZ) (jH (l:=o.map C5) rfl (by simp;exact bE 0x2494a2908d283c05a30d4012f18c6318e182ac77e7004 Y Z Q T))) ?_;refine cf (a+k) (g+k) (o++[(mU.equal,a,a+k,g,g+k)]) _ ?_ (by simp;exact bE 0xc629820e1d19070250780746002 T) ?_
   ·simp only [sG,cE];rfl
   ·rw [bU];exact J
 have qi:∀(h:mU),h≠.equal→(if i<a∧j<g then[(mU.replace,i,a,j,g)]else if i<a then[(mU.delete,i,a,j,g)]else if j<g then[(mU.insert,i,a,j,g)]else[])=[(h,i,a,j,g)]→Go ((dW (rP (oB (aJ 7)) (sE (uF fD (aJ 3) (aK (fY (aK (aJ 7) (aK (aJ 1) (aK (aJ 4) (aK (aJ 2) (aK (aJ 5) bJ)))))) bJ))) (lS .next)) (qD [3,4,5,6] (dW (eS (fY (aK (bH fQ (aJ 4) (aJ 6)) (aK (bH fQ (aJ 5) (aJ 6)) bJ))) (Gu [bY 2,bY 1])) (rP (oB (aJ 6)) (sE (uF fD (aJ 3) (aK (fY (aK (gK (.str (aC "equal"))) (aK (aJ 4) (aK (aJ 1) (aK (aJ 5) (aK (aJ 2) bJ)))))) bJ))) (lS .next))))) 2 (sT h.s r)) (xT [1,2,3] 2 (JG as m (p+1)) (fun _=>False) (fun _ _=>False)):=fun h _ W=>by rw [W]at G;refine bV (S7 (τ:=sT h.s r) (vZ (v:=.str h.s) (bL rfl) (Ÿ h _)) ?_);refine nK (rL (u:=.ref 1) (us:=[C5 (h,i,a,j,g)]) (l:=r.map C5) (τ:=sT h.s r) (τ':=sT h.s r) (bL rfl) rfl (bB (jE (bB (bL rfl) (bB (bL rfl) (bB (bL rfl) (bB (bL rfl) (bB (bL rfl) bZ))))) lm5) bZ) (jH (l:=r.map C5) rfl (by simp;exact bE 0x91928a4225006980f4612f18c6318e182ac77e7004 Y Z P Q))) ?_;refine bp (r++[(h,i,a,j,g)]) (by simp;exact bE 0x318a601d180980746002 P) (by simpa [bU]using G) _ ?_;simp only [cE];rfl
 have kh:(if i<a∧j<g then[(mU.replace,i,a,j,g)]else if i<a then[(mU.delete,i,a,j,g)]else if j<g then[(mU.insert,i,a,j,g)]else[])=[]→Go ((dW (rP (oB (aJ 7)) (sE (uF fD (aJ 3) (aK (fY (aK (aJ 7) (aK (aJ 1) (aK (aJ 4) (aK (aJ 2) (aK (aJ 5) bJ)))))) bJ))) (lS .next)) (qD [3,4,5,6] (dW (eS (fY (aK (bH fQ (aJ 4) (aJ 6)) (aK (bH fQ (aJ 5) (aJ 6)) bJ))) (Gu [bY 2,bY 1])) (rP (oB (aJ 6)) (sE (uF fD (aJ 3) (aK (fY (aK (gK (.str (aC "equal"))) (aK (aJ 4) (aK (aJ 1) (aK (aJ 5) (aK (aJ 2) bJ)))))) bJ))) (lS .next))))) 2 (sT (aC "") r)) (xT [1,2,3] 2 (JG as m (p+1)) (fun _=>False) (fun _ _=>False)):=fun W=>by rw [W]at G;refine bV (zY (τ:=sT (aC "") r) (vZ (v:=.str (aC "")) (bL rfl) (W3 _)) (iN ?_));exact bp r (by exact bE 0xc62941e01d180980746002 P) (by simpa [bU]using G) _ rfl
 rcases hx with rfl|rfl;all_goals
  refine ⟨_,rfl,?_⟩;unfold Ib;refine bV (dE rfl rfl ?_);refine bV (mO (gW (gF (b:=decide (i<a)) (Oi rfl rfl) ?_)));have two:¬(i<a∧j<g)→∀s:St,(s=⟨[(1,vN i),(2,vN j),(3,.ref 1),(4,vN a),(5,vN g),(6,vN k),(7,.str (aC ""))],[(1,.list (r.map C5)),(0,.attrs ((aC "opcodes",.ref 1)::as))],2⟩∨s=⟨[(0,.inst 0),(1,vN i),(2,vN j),(3,.ref 1),(4,vN a),(5,vN g),(6,vN k),(7,.str (aC ""))],[(1,.list (r.map C5)),(0,.attrs ((aC "opcodes",.ref 1)::as))],2⟩)→
    Go ((rP (dU (bH Bk (aJ 1) (aJ 4))) (eS (gK (.str (aC "delete"))) (bY 7)) (rP (dU (bH Bk (aJ 2) (aJ 5))) (eS (gK (.str (aC "insert"))) (bY 7)) (lS .next))) 2 s) (Nx fun τ=>∃h:jX,A9 [1,2,3,4,5,6,7] τ=sT h r∧((∃D:mU,D≠.equal∧h=D.s∧(if i<a∧j<g then[(mU.replace,i,a,j,g)]else if i<a then[(mU.delete,i,a,j,g)]else if j<g then[(mU.insert,i,a,j,g)]else[])=[(D,i,a,j,g)])∨(h=aC ""∧(if i<a∧j<g then[(mU.replace,i,a,j,g)]else if i<a then[(mU.delete,i,a,j,g)]else if j<g then[(mU.insert,i,a,j,g)]else[])=[]))):=fun hn s y=>by
   have e4:lk s.loc 4=some (vN a):=by rcases y with rfl|rfl<;>rfl
   rw [if_neg hn];refine mO (gF (b:=decide (i<a)) (τ:=s) (Oi (by rcases y with rfl|rfl<;>rfl:lk s.loc 1=some (vN i)) e4) ?_);by_cases c1:i<a
   ·rw [iM c1,if_pos c1];refine dE rfl rfl ⟨mU.delete.s,?_,.inl ⟨.delete,by decide,rfl,rfl⟩⟩;rcases y with rfl|rfl<;>rfl
   ·rw [fT c1,if_neg c1];refine mO (gF (b:=decide (j<g)) (τ:=s) (Oi (by rcases y with rfl|rfl<;>rfl:lk s.loc 2=some (vN j)) (by rcases y with rfl|rfl<;>rfl:lk s.loc 5=some (vN g))) ?_);by_cases c2:j<g
    ·rw [iM c2,if_pos c2];refine dE rfl rfl ⟨mU.insert.s,?_,.inl ⟨.insert,by decide,rfl,rfl⟩⟩;rcases y with rfl|rfl<;>rfl
    ·rw [fT c2,if_neg c2];refine iN ⟨aC "",?_,.inr ⟨rfl,rfl⟩⟩;rcases y with rfl|rfl<;>rfl
  have X:∀τ:St,(∃h:jX,A9 [1,2,3,4,5,6,7] τ=sT h r∧((∃D:mU,D≠.equal∧h=D.s∧(if i<a∧j<g then[(mU.replace,i,a,j,g)]else if i<a then[(mU.delete,i,a,j,g)]else if j<g then[(mU.insert,i,a,j,g)]else[])=[(D,i,a,j,g)])∨(h=aC ""∧(if i<a∧j<g then[(mU.replace,i,a,j,g)]else if i<a then[(mU.delete,i,a,j,g)]else if j<g then[(mU.insert,i,a,j,g)]else[])=[])))→
    Go ((qD [1,2,3,4,5,6,7] (dW (rP (oB (aJ 7)) (sE (uF fD (aJ 3) (aK (fY (aK (aJ 7) (aK (aJ 1) (aK (aJ 4) (aK (aJ 2) (aK (aJ 5) bJ)))))) bJ))) (lS .next)) (qD [3,4,5,6] (dW (eS (fY (aK (bH fQ (aJ 4) (aJ 6)) (aK (bH fQ (aJ 5) (aJ 6)) bJ))) (Gu [bY 2,bY 1])) (rP (oB (aJ 6)) (sE (uF fD (aJ 3) (aK (fY (aK (gK (.str (aC "equal"))) (aK (aJ 4) (aK (aJ 1) (aK (aJ 5) (aK (aJ 2) bJ)))))) bJ))) (lS .next)))))) 2 τ) (xT [1,2,3] 2 (JG as m (p+1)) (fun _=>False) (fun _ _=>False)):=fun τ ⟨h,C,O⟩=>by
   refine gL C ?_;rcases O with ⟨D,R,rfl,H⟩|⟨rfl,H⟩
   ·exact qi D R H
   ·exact kh H
  by_cases c1:i<a
  ·rw [iM c1];refine gW (gF (b:=decide (j<g)) (Oi rfl rfl) ?_);by_cases c2:j<g
   ·rw [iM c2];refine wQ ?_;show Go _ _;refine dE rfl rfl (X _ ⟨mU.replace.s,rfl,.inl ⟨.replace,by decide,rfl,if_pos ⟨c1,c2⟩⟩⟩)
   ·rw [fT c2];refine (two (fun z=>c2 z.2) _ (by first|exact .inl rfl|exact .inr rfl)).mono fun f τ p=>?_;cases f<;>first|exact X τ p|exact p.elim
  ·rw [fT c1];refine (two (fun z=>c1 z.1) _ (by first|exact .inl rfl|exact .inr rfl)).mono fun f τ p=>?_;cases f<;>first|exact X τ p|exact p.elim
end
end
section
open MineH (at_ cL fr)
section
variable{A B:aW}{as:lT}
theorem U9:(mbs A B).length≤(bl A B (0,A.length,0,B.length)).length+2:=by simp only [î,aS];have:=Pq (bl A B (0,A.length,0,B.length)) (0,0,0);simp;omega
theorem Gc.del(h:Gc A B as):Gc A B (yX (aC "opcodes") as):=by
 refine ⟨⟨fun p a=>h.at_.pure p (tG a).1,?_,?_,?_,?_⟩,?_,h.la,h.lb,h.few⟩;all_goals rw [tI (pW (by decide))]
 ·exact h.at_.a
 ·exact h.at_.b
 ·exact h.at_.bjunk
 ·exact h.at_.b2j
 ·exact h.mb
theorem Lw(a:∀p∈as,p.2.pure=true):∀p∈gA A B as,p.2.pure=true:=by
 unfold gA;split
 ·exact lK (uP A B) a
 ·exact a
def oA(A B:aW)(as:lT):lT:=(aC "opcodes",yD A B)::gA A B (yX (aC "opcodes") as)
theorem aBr(h:Gc A B as)(s:oM as (aC "opcodes")=some .none):
  Go (ħ (dG A B) 1 ⟨[(0,.inst 0)],[(0,.attrs as)],1⟩) fun f τ=>f=.ret (.ref 1)∧∃a,τ.cells=[(1,.list (a.map C5)),(0,.attrs ((aC "opcodes",.ref 1)::gA A B (yX (aC "opcodes") as)))]∧a=ops A B:=by
 have F:lim=1048576:=rfl;let s0:St:=⟨[(0,.inst 0)],[(0,.attrs as)],1⟩;refine (?_:Go (ħ (dG A B) 1 s0) _);refine bV (H8 ?_);refine bV (zY (τ:=s0) (kH (dN (oH (bL rfl) rfl s rfl) rfl rfl)) (iN ?_));refine gL (σ':=s0) rfl ?_;let m:St:=⟨[(0,.inst 0),(1,vN 0),(2,vN 0)],[(0,.attrs as)],1⟩;refine bV (dE (v:=vN 0) (τ:=s0) (τ':=m) rfl rfl ?_);let c:St:=⟨[(0,.inst 0),(1,vN 0),(2,vN 0),(3,.ref 1)],[(1,.list []),(0,.attrs ((aC "opcodes",.ref 1)::yX (aC "opcodes") as))],2⟩;refine bV (dE (v:=.ref 1) (τ':=c) (nQ (τ:=m) bZ (by refine (?_:(0:Nat)≤1048576);simp)) rfl ?_);refine gL (σ':=c) rfl ?_;have hd:=h.del;let o:St:=sG (gA A B (yX (aC "opcodes") as)) [(0,.inst 0)] 0 0 [];have u:∀p∈gA A B (yX (aC "opcodes") as),p.2.pure=true:=Lw hd.at_.pure;have call:aBz (aC "opcodes") (dG A B) (aJ 0) c=some (yE A B,o):=by unfold aBz;show (if aC "opcodes"=aC "opcodes"∧((yX (aC "opcodes") as).all fun p=>p.2.pure)=true then ob (dG A B (yX (aC "opcodes") as)) _ else aF)=_;rw [if_pos ⟨rfl,fR.mpr hd.at_.pure⟩];unfold dG;rw [if_pos hd];rfl
 have k:(mbs A B).length<1000:=by have:=U9 (A:=A) (B:=B);have:=h.few;exact bE 0xe31563bf38158c1c29468c1002 ‹_› this
 refine bV (wP (fun _=>False) (JG (gA A B (yX (aC "opcodes") as)) (mbs A B)) (ds:=(mbs A B).map xZ) (τ:=o) (qB call (zV _)) (by show (1:Nat)≤2;decide) ⟨_,0,0,[],.inr rfl,rfl,bG _,rfl⟩ (fun i G v b y=>?_) (fun τ' z=>?_))
 ·rw [gJ]at b
  cases l:(mbs A B)[i]? with
  |none=>rw [l]at b;exact iE b
  |some t=>rw [l]at b;refine oQ b ?_;rintro rfl;obtain ⟨τ',e,g⟩:=ě (d:=dG A B) u k l y;refine ⟨τ',e,g.mono fun f τ p=>?_⟩;cases f<;>first|exact p|exact p.elim
 ·obtain ⟨x,i,j,a,C,rfl,H,r⟩:=z.resolve_right id;rw [bF,kP]at r;have D:a=ops A B:=by unfold ops;rw [←r];simp [Gm,Gl]
  show Go _ _;refine gL (σ':=⟨[(3,.ref 1)],[(1,.list (a.map C5)),(0,.attrs ((aC "opcodes",.ref 1)::gA A B (yX (aC "opcodes") as)))],2⟩) (by rcases C with rfl|rfl<;>rfl) ?_;unfold Pt;exact tS (bL rfl) ⟨rfl,a,rfl,D⟩
theorem Ě(a:oM as (aC "opcodes")=some (yD A B)):
  Go (ħ (dG A B) 1 ⟨[(0,.inst 0)],[(0,.attrs as)],1⟩) fun f τ=>f=.ret (yD A B)∧lk τ.cells 0=some (.attrs as):=by
 let s0:St:=⟨[(0,.inst 0)],[(0,.attrs as)],1⟩;refine (?_:Go (ħ (dG A B) 1 s0) _);refine bV (H8 ?_);refine bV (S7 (τ:=s0) (kH (dN (oH (bL rfl) rfl a rfl) rfl rfl)) ?_);exact tS (oH (bL rfl) rfl a rfl) ⟨rfl,rfl⟩
theorem aBx{m:Iy}(c:B3 m as)(e:m.a=some A)(d:m.b=some B)(h:A.length<200)(i:B.length<200)(j:(bl A B (0,A.length,0,B.length)).length<64):Gc A B as:=by
 refine ⟨⟨c.pure,by have:=c.a;rwa[e]at this,by have:=c.b;rwa[d]at this,c.bjunk,by have:=c.b2j;rwa[d]at this⟩,?_,h,i,j⟩;rcases c.mb with q|⟨A',B',f,g,q⟩
 ·exact .inl q
 ·rw [e]at f;rw [d]at g;refine oQ f ?_;rintro rfl;refine oQ g ?_;rintro rfl;exact .inr q
theorem Kl{s:jX}(h:(s==aC "matching_blocks")=false):oM (gA A B as) s=oM as s:=by
 unfold gA;split
 ·rw [mL,if_neg (pW h)]
 ·rfl
theorem aKg(h:Gc A B as):oM (gA A B as) (aC "matching_blocks")=some (yE A B):=by
 unfold gA;rcases h.mb with q|q
 ·rw [q,if_pos (by rfl),mL,if_pos rfl]
 ·rw [q,if_neg (by simp [Vi,yE]),q]
theorem ï{m:Iy}(c:B3 m as)(e:m.a=some A)(f:m.b=some B)(h:Gc A B as):B3 m (oA A B as):=by
 refine ⟨fun p d=>?_,?_,?_,?_,?_,?_,?_,?_,.inr ⟨A,B,e,f,?_⟩⟩
 ·rcases aU.mp d with rfl|d
  ·exact uO A B
  ·exact Lw h.del.at_.pure p d
 ·unfold oA;rw [mM (by decide),Kl (by decide),tI (pW (by decide))];exact c.junk
 ·unfold oA;rw [mM (by decide),Kl (by decide),tI (pW (by decide))];exact c.a
 ·unfold oA;rw [mM (by decide),Kl (by decide),tI (pW (by decide))];exact c.b
 ·unfold oA;rw [mM (by decide),Kl (by decide),tI (pW (by decide))];exact c.auto
 ·unfold oA;rw [mM (by decide),Kl (by decide),tI (pW (by decide))];exact c.bjunk
 ·unfold oA;rw [mM (by decide),Kl (by decide),tI (pW (by decide))];exact c.b2j
 ·unfold oA;rw [mM (by decide)];exact .inr ⟨A,B,e,f,aKg h.del⟩
 ·unfold oA;show (if _ then _ else _)=_;rw [if_pos rfl]
end
section
variable{n:Nat}{A B:aW}
theorem aKi(G:Gd)(m:Iy)(j:m.a=some A)(k:m.b=some B)(u:A.length<200)(v:B.length<200)(x:(bl A B (0,A.length,0,B.length)).length<64):
  tL (n+5) (.ref 210) (.mat m) [] (fun c r=>c=.mat m∧r=yD A B):=by
 refine O8 fun as d=>?_;have h:=aBx d j k u v x;refine yJ (fd:=jS MineH.o210v0) (o:=MineH.o210v0) (tab:=R9) (body:=cL (at_ [5,8])) (aMd w.params) (G.K 210 _ (by kernel_rfl)) rfl G.lim (codeRec_of G.K (by kernel_rfl)) rfl (fun vs h=>?_) (by refine (?_:(1:Nat)≤8);decide) d.pure (fun L=>?_) rfl
 ·revert vs;exact ll1 fun _=>by kernel_rfl
 ·have g:oM as (aC "opcodes")=some .none∨oM as (aC "opcodes")=some (yD A B):=by
   rcases d.oc with q|⟨A',B',l,s,q⟩
   ·exact .inl q
   ·rw [j]at l;rw [k]at s;refine oQ l ?_;rintro rfl;refine oQ s ?_;rintro rfl;exact .inr q
  rcases g with g|g
  ·obtain ⟨f,τ,e,rfl,z,i,rfl⟩:=aBr h g;refine jY (aEy G (aFc G A B) 1 _ _ _ e) ?_;rintro _ _ ⟨rfl,rfl⟩;have t:=ï d j k h;have r1:rJ vP 1 τ.cells (.ref 1)=some (yD A B):=by rw [i];exact qV (by decide) rfl (uR _)
   refine ⟨_,.attrs (oA A B as),_,by rw [i];rfl,?_,t.pure,r1,uO A B,oA A B as,rfl,t,rfl⟩;refine (?_:(Ci _ _).map gC.attrs=_);exact congrArg (nA gC.attrs) (Ho r1 (Kj (fR.mpr fun p y=>hU (Lw h.del.at_.pure p y))))
  ·obtain ⟨f,τ,e,rfl,i⟩:=Ě g;refine jY (aEy G (aFc G A B) 1 _ _ _ e) ?_;rintro _ _ ⟨rfl,rfl⟩;exact ⟨_,_,_,i,sU d.pure,d.pure,dF (uO A B),uO A B,as,rfl,d,rfl⟩
end
end
section
open MineH (at_ cL fr)
def zR:mE:=[aC "things",aC "group",aC "row",aC "text",aC "old",aC "who"]
theorem eL(P:fV):lU (jS MineH.o256v0) zR:=.ofC [aC "who"] (by kernel_rfl) (gU ⟨by kernel_rfl,fun L=>by kernel_rfl⟩ (fun _ h=>nomatch h))
def yO:Nat→M Fl:=(rP (dU (bH rM (aJ 4) (bH rM (oD 100 (hF (aJ 1)) (bY 100) (qQ (dU (bH Ŧ (aJ 100) (aJ 5))) (oC (aJ 100)))) (gE bJ)))) (sE (uF uH (aJ 2) (aK (aJ 3) bJ))) (lS .next))
def Mq:Nat→M Fl:=(wT (aJ 2))
def E3:Nat→M Fl:=(dW (eS (lZ bJ) (bY 2)) (qD [0,1,2] (dW (Dy [1,2] (hF (aJ 0)) (Y8 [(bY 3),(bY 4),(bY 5)]) (yO)) (qD [2] (Mq)))))
theorem S4{n:Nat}{L:cY}(G:Gd):Fc (n) (wZ (jS MineH.o256v0) L 256 zR) (cL (at_ [8])) (E3):=by have T:=(eL w.params).tab L 256;exact (bI (dH (gH aO) (lg T 2) rfl rfl rfl) (eZ T.fk (bI (sV T.fk (mZ (lc T 0)) (oF (eA (lg T 3) (eA (lg T 4) (ig (lg T 5) mN) rfl) rfl)) (cM (hV (cW mC (lc T 4) (Gr mC (Bc (base:=100) (names:=[aC "side"]) (cap:=[(5,aC "who")]) T (qP (by decide)) (by decide) (by decide) (fun _=>rfl) rfl rfl rfl rfl (.cons (aG (i:=5) rfl) rfl rfl rfl .nil) (.cons rfl .nil) (mZ (lc T 1)) (fun C T1=>(lg T1 1)) (fun C T1=>(cW Tg (lc T1 1) (lc T1 0) rfl)) (fun C T1=>(lc T1 1))) (dY aO) rfl) rfl) (cM (eN rfl rfl (kJ kM rfl bQ (uZ T.fk) (lc T 2) (by exact ⟨rfl,trivial⟩) (ic (lc T 3) aO) rfl))) iG)) fun _=>rfl) (eZ T.fk (cM (mY (lc T 2)))))))
end
section
open MineH (at_ cL fr)
noncomputable def wN:mE:=[aC "stretch",aC "group",aC "words",aC "gone",aC "come",aC "text",aC "old",aC "who",aC "touched"]
theorem jL(P:fV):lU (jS MineH.o261v0) wN:=.ofC [aC "who"] (by kernel_rfl) (gU ⟨by kernel_rfl,fun L=>by kernel_rfl⟩ (fun _ h=>nomatch h))
def vF:Nat→M Fl:=(dW (eS (bH Bi (oD 100 (hF (aJ 1)) (bY 100) (qQ (dU (bH Ŧ (aJ 100) (aJ 7))) (oC (aJ 100)))) (gE bJ)) (bY 8)) (rP (kL (oB (aJ 8)) (kL (oB (aJ 6)) (fun σ=>some (true,σ)))) (P1 3 Ku (gK (.int 1))) (rP (oB (aJ 8)) (P1 4 Ku (gK (.int 1))) (rP (kL (oB (aJ 6)) (kL (dU (bH Ħ (bH fQ (aJ 3) (aJ 4)) (gK (.int 0)))) (fun σ=>some (true,σ)))) (dW (sE (uF fD (aJ 2) (aK (xP (dU (bH rM (aJ 3) (gK (.int 0)))) (gK (.str (aC "insert"))) (xP (dU (bH rM (aJ 4) (gK (.int 0)))) (gK (.str (aC "delete"))) (gK (.str (aC "replace"))))) bJ))) (eS (fY (aK (gK (.int 0)) (aK (gK (.int 0)) bJ))) (Y8 [(bY 3),(bY 4)]))) (lS .next)))))
def Ia:Nat→M Fl:=(wT (aJ 2))
def zZ:Nat→M Fl:=(dW (eS (fY (aK (lZ bJ) (aK (gK (.int 0)) (aK (gK (.int 0)) bJ)))) (Gu [bY 4,bY 3,bY 2])) (qD [0,1,2,3,4] (dW (Dy [1,2,3,4] (hF (bH fQ (aJ 0) (gE (aK (fY (aK (gE bJ) (aK (gK (.bool true)) (aK (gE bJ) bJ)))) bJ)))) (Y8 [(bY 5),(bY 6),(bY 7)]) (vF)) (qD [2] (Ia)))))
theorem Mj{n:Nat}{L:cY}(G:Gd):Fc (n) (wZ (jS MineH.o261v0) L 261 wN) (cL (at_ [9])) (zZ):=by have T:=(jL w.params).tab L 261;exact (bI (kZ (cR (ic (gH aO) (ic bM (ic bM aO)))) (eO T (aG (i:=4) rfl) (eO T (aG (i:=3) rfl) (eO T (aG (i:=2) rfl) mI))) rfl rfl) (eZ T.fk (bI (sV T.fk (mZ (cH eE (lc T 0) (dY (ic (by refine cR ?_;exact (ic (dY aO) (ic Dm (ic (dY aO) aO)))) aO)))) (oF (eA (lg T 5) (eA (lg T 6) (ig (lg T 7) mN) rfl) rfl)) (bI (dH (Gr wU (Bc (base:=100) (names:=[aC "side"]) (cap:=[(7,aC "who")]) T (qP (by decide)) (by decide) (by decide) (fun _=>rfl) rfl rfl rfl rfl (.cons (aG (i:=7) rfl) rfl rfl rfl .nil) (.cons rfl .nil) (mZ (lc T 1)) (fun C T1=>(lg T1 1)) (fun C T1=>(cW Tg (lc T1 1) (lc T1 0) rfl)) (fun C T1=>(lc T1 1))) (dY aO) rfl) (lg T 8) rfl rfl rfl) (cM (hV (kK (fC (lE (lc T 8) rfl) (fC (lE (lc T 6) rfl) lR))) (cM (Dl T (aG (i:=3) rfl) Dw bM)) (cM (hV (lE (lc T 8) rfl) (cM (Dl T (aG (i:=4) rfl) Dw bM)) (cM (hV (kK (fC (lE (lc T 6) rfl) (fC (cW Co (cH eE (lc T 3) (lc T 4)) bM rfl) lR))) (bI (eN rfl rfl (kJ cA rfl bQ (gR T.fk) (lc T 2) (by exact ⟨rfl,trivial⟩) (ic (uD (cW mC (lc T 3) bM rfl) jA (uD (cW mC (lc T 4) bM rfl) jA jA)) aO) rfl)) (cM (dH (cR (ic bM (ic bM aO))) (oF (eA (lg T 3) (ig (lg T 4) mN) rfl)) rfl rfl rfl))) iG))))))) fun _=>rfl) (eZ T.fk (cM (mY (lc T 2)))))))
end
section
open MineH (at_ cL fr)
noncomputable def uU:mE:=[aC "script",aC "numbers",aC "firm",aC "things",aC "n",aC "deed",aC "left",aC "own",aC "ahead",aC "behind",aC "who",aC "text"]
theorem eR(P:fV):lU (jS MineH.o251v0) uU:=.ofC [aC "numbers",aC "n"] (by kernel_rfl) (gU ⟨by kernel_rfl,fun L=>by kernel_rfl⟩ (gU ⟨by kernel_rfl,fun L=>by kernel_rfl⟩ (fun _ h=>nomatch h)))
def tT:Nat→M Fl:=(dW (eS (fY (aK (bH Bj (bH hO (aJ 1) (aJ 4)) (gK (.int 16))) (aK (bH Pz (bH hO (aJ 1) (aJ 4)) (gK (.int 16))) bJ))) (Gu [bY 6,bY 5])) (dW (eS (gE (aK (bH fQ (bH vO (gK (.int 200)) (bH hO (aJ 1) (aJ 4))) (bH vO (gK (.int 2)) (aJ 4))) (aK (bH fQ (bH fQ (bH vO (gK (.int 200)) (bH hO (aJ 1) (aJ 4))) (bH vO (gK (.int 2)) (aJ 4))) (gK (.int 1))) bJ))) (bY 7)) (dW (eS (iA (oD 100 (hF (aJ 2)) (bY 100) (qQ (dU (bH Bk (aJ 100) (aJ 4))) (oC (bH fQ (bH vO (gK (.int 200)) (bH hO (aJ 1) (aJ 100))) (bH vO (gK (.int 2)) (aJ 100)))))) (gP (aHm (gK (.int 1)))) pP) (bY 8)) (dW (eS (iA (oD 100 (hF (aJ 2)) (bY 100) (qQ (dU (bH Ħ (aJ 100) (aJ 4))) (oC (bH fQ (bH vO (gK (.int 200)) (bH hO (aJ 1) (aJ 100))) (bH vO (gK (.int 2)) (aJ 100)))))) pP (gP (gK (.int 1)))) (bY 9)) (dW (eS (xP (dU (bH Bk (aJ 5) (gK (.int 6)))) (lZ bJ) (lZ (aK (bH Bj (bH xO (aJ 5) (gK (.int 6))) (gK (.int 5))) bJ))) (bY 10)) (dW (rP (kL (dU (bH gGe (aJ 5) (gK (.int 6)))) (kL (dU (bH rM (bH Bj (aJ 6) (gK (.int 4))) (gK (.int 3)))) (fun σ=>some (true,σ)))) (sE (uF fD (aJ 10) (aK (bH Bj (bH fQ (bH xO (aJ 5) (gK (.int 5))) (bH Bj (bH Pz (aJ 6) (gK (.int 4))) (gK (.int 4)))) (gK (.int 5))) bJ))) (lS .next)) (qD [1,2,3,5,6,7,8,9,10] (dW (rP (dU (bH Bk (aJ 5) (gK (.int 11)))) (eS (bH vO (iA (aJ 7) pP (gP (gK (.int 1)))) (xP (dU (bH Bk (aJ 5) (gK (.int 6)))) (gK (.int 2)) (gK (.int 1)))) (bY 11)) (eS (bH fQ (bH fQ (iA (aJ 7) pP (gP (gK (.int 1)))) (bH hO (fY (aK (aJ 9) (aK (bH fQ (aJ 8) (aJ 8)) (aK (gE bJ) bJ)))) (bH Bj (aJ 6) (gK (.int 3))))) (iA (aJ 7) (gP (gK (.int 1))) pP)) (bY 11))) (qD [1,2,3,5,10,11] (sE (uF fD (aJ 3) (aK (fY (aK (aJ 11) (aK (bH Bk (aJ 5) (gK (.int 11))) (aK (aJ 10) bJ)))) bJ))))))))))))
def F4:Nat→M Fl:=(wT (aJ 3))
def yN:Nat→M Fl:=(dW (eS (bH fQ (iA (aJ 0) pP (gP (gK (.int 30)))) (gE (aK (gK (.int 6)) (aK (gK (.int 0)) (aK (gK (.int 7)) (aK (gK (.int 12)) (aK (gK (.int 0)) (aK (gK (.int 29)) (aK (gK (.int 61)) (aK (gK (.int 0)) (aK (gK (.int 10)) bJ))))))))))) (bY 1)) (dW (eS (oD 100 (yR (aK (iO F8 (aK (aJ 1) bJ)) bJ)) (bY 100) (qQ (dU (bH Bk (bH Bj (bH hO (aJ 1) (aJ 100)) (gK (.int 16))) (gK (.int 6)))) (oC (aJ 100)))) (bY 2)) (dW (eS (lZ bJ) (bY 3)) (qD [1,2,3] (dW (Dy [1,2,3] (yR (aK (iO F8 (aK (aJ 1) bJ)) bJ)) (bY 4) (tT)) (qD [3] (F4)))))))
theorem Jo{n:Nat}{L:cY}(G:Gd):Fc (n) (wZ (jS MineH.o251v0) L 251 uU) (cL (at_ [7])) (yN):=by have T:=(eR w.params).tab L 251;exact (bI (dH (cH eE (jW (lc T 0) vC (gZ bM)) (dY (ic bM (ic bM (ic bM (ic bM (ic bM (ic bM (ic bM (ic bM (ic bM aO))))))))))) (lg T 1) rfl rfl rfl) (bI (đ (base:=100) (names:=[aC "n"]) (cap:=[(1,aC "numbers")]) T rfl (aG (i:=2) rfl) (qP (by decide)) (by decide) (by decide) (fun _=>rfl) rfl rfl rfl rfl (.cons (aG (i:=1) rfl) rfl rfl rfl .nil) (.cons rfl .nil) (E2 (G.e T.fk rfl rfl Mp (by kernel_rfl) (by decide)) (by exact ⟨rfl,trivial⟩) (ic (gD (G.e T.fk rfl rfl Bx (by kernel_rfl) (by decide)) (.inl ⟨_,rfl⟩) uC (by exact ⟨rfl,trivial⟩) (ic (lc T 1) aO) rfl) aO) rfl) (fun C T1=>(lg T1 1)) (fun C T1=>(cW nU (cH yS (eT (eU fun _ _=>rfl) (lc T1 0) (lc T1 1)) bM) bM rfl)) (fun C T1=>(lc T1 1))) (bI (dH (gH aO) (lg T 3) rfl rfl rfl) (eZ T.fk (bI (sV T.fk (E2 (G.e T.fk rfl rfl Mp (by kernel_rfl) (by decide)) (by exact ⟨rfl,trivial⟩) (ic (gD (G.e T.fk rfl rfl Bx (by kernel_rfl) (by decide)) (.inl ⟨_,rfl⟩) uC (by exact ⟨rfl,trivial⟩) (ic (lc T 1) aO) rfl) aO) rfl) (lg T 4) (bI (kZ (cR (ic (cH yS (eT (eU fun _ _=>rfl) (lc T 1) (lc T 4)) bM) (ic (cH Py (eT (eU fun _ _=>rfl) (lc T 1) (lc T 4)) bM) aO))) (eO T (aG (i:=6) rfl) (eO T (aG (i:=5) rfl) mI)) rfl rfl) (bI (dH (dY (ic (cH eE (cH uE bM (eT (eU fun _ _=>rfl) (lc T 1) (lc T 4))) (cH uE bM (lc T 4))) (ic (cH eE (cH eE (cH uE bM (eT (eU fun _ _=>rfl) (lc T 1) (lc T 4))) (cH uE bM (lc T 4))) bM) aO))) (lg T 7) rfl rfl rfl) (bI (dH (jW (Bc (base:=100) (names:=[aC "m"]) (cap:=[(4,aC "n"),(1,aC "numbers")]) T (qP (by decide)) (by decide) (by decide) (fun _=>rfl) rfl rfl rfl rfl (.cons (aG (i:=4) rfl) rfl rfl rfl (.cons (aG (i:=1) rfl) rfl rfl rfl .nil)) (.cons rfl .nil) (mZ (lc T 2)) (fun C T1=>(lg T1 2)) (fun C T1=>(cW nU (lc T1 2) (lc T1 0) rfl)) (fun C T1=>(cH eE (cH uE bM (eT (eU fun _ _=>rfl) (lc T1 1) (lc T1 2))) (cH uE bM (lc T1 2))))) (gZ (aBi bM)) vC) (lg T 8) rfl rfl rfl) (bI (dH (jW (Bc (base:=100) (names:=[aC "m"]) (cap:=[(4,aC "n"),(1,aC "numbers")]) T (qP (by decide)) (by decide) (by decide) (fun _=>rfl) rfl rfl rfl rfl (.cons (aG (i:=4) rfl) rfl rfl rfl (.cons (aG (i:=1) rfl) rfl rfl rfl .nil)) (.cons rfl .nil) (mZ (lc T 2)) (fun C T1=>(lg T1 2)) (fun C T1=>(cW Co (lc T1 2) (lc T1 0) rfl)) (fun C T1=>(cH eE (cH uE bM (eT (eU fun _ _=>rfl) (lc T1 1) (lc T1 2))) (cH uE bM (lc T1 2))))) vC (gZ bM)) (lg T 9) rfl rfl rfl) (bI (dH (uD (cW nU (lc T 5) bM rfl) (gH aO) (gH (ic (cH yS (cH nS (lc T 5) bM) bM) aO))) (lg T 10) rfl rfl rfl) (bI (hV (kK (fC (cW Th (lc T 5) bM rfl) (fC (cW mC (cH yS (lc T 6) bM) bM rfl) lR))) (cM (eN rfl rfl (kJ cA rfl bQ (gR T.fk) (lc T 10) (by exact ⟨rfl,trivial⟩) (ic (cH yS (cH eE (cH nS (lc T 5) bM) (cH yS (cH Py (lc T 6) bM) bM)) bM) aO) rfl))) iG) (eZ T.fk (bI (hV (cW nU (lc T 5) bM rfl) (cM (dH (cH uE (jW (lc T 7) vC (gZ bM)) (uD (cW nU (lc T 5) bM rfl) bM bM)) (lg T 11) rfl rfl rfl)) (cM (dH (cH eE (cH eE (jW (lc T 7) vC (gZ bM)) (eT (eU fun _ _=>rfl) (by refine cR ?_;exact (ic (lc T 9) (ic (cH eE (lc T 8) (lc T 8)) (ic (dY aO) aO)))) (cH yS (lc T 6) bM))) (jW (lc T 7) (gZ bM) vC)) (lg T 11) rfl rfl rfl))) (eZ T.fk (cM (eN rfl rfl (kJ cA rfl bQ (gR T.fk) (lc T 3) (by exact ⟨rfl,trivial⟩) (ic (by refine cR ?_;exact (ic (lc T 11) (ic (Gr nU (lc T 5) bM rfl) (ic (lc T 10) aO)))) aO) rfl)))))))))))) fun _=>rfl) (eZ T.fk (cM (mY (lc T 3)))))))))
end
section
open MineH (at_ cL fr)
noncomputable def zS:mE:=[aC "things",aC "group",aC "side",aC "told",aC "row",aC "stretch",aC "thing",aC "words",aC "ways"]
theorem iB(P:fV):lU (jS MineH.o266v0) zS:=.ofC [aC "stretch",aC "thing"] (by kernel_rfl) (gU ⟨by kernel_rfl,fun L=>by kernel_rfl⟩ (gU ⟨by kernel_rfl,fun L=>by kernel_rfl⟩ (fun _ h=>nomatch h)))
def yP(jL eL:qR):Nat→M Fl:=(rP (kL (oB (bH hO (aJ 6) (gK (.int 1)))) (kL (dU (bH rM (oD 100 (hF (bH fQ (aJ 1) (gE (aK (aJ 2) bJ)))) (bY 100) (qQ (dU (bH Ŧ (aJ 100) (bH hO (aJ 6) (gK (.int 2))))) (oC (aJ 100)))) (gE bJ))) (fun σ=>some (true,σ)))) (Yc (dW (eS (gE (aK (iO jL (aK (aJ 5) (aK (aJ 1) bJ))) (aK (iO jL (aK (aJ 5) (aK (gE (aK (aJ 2) bJ)) bJ))) bJ))) (bY 7)) (dW (eS (oD 100 (hF (fY (aK (gE bJ) (aK (aJ 1) (aK (gE (aK (aJ 2) bJ)) bJ))))) (bY 100) (oC (iO eL (aK (aJ 5) (aK (aJ 100) bJ))))) (bY 8)) (dW (rP (dU (bH Bi (aJ 7) (gE (aK (gE bJ) (aK (gE bJ) bJ))))) (sE (uF fD (aJ 3) (aK (fY (aK (bH hO (aJ 8) (gK (.int 0))) (aK (aJ 7) bJ))) bJ))) (lS .next)) (qD [1,2,3,4,5,6,7,8] (dW (rP (kL (dU (bH Yb (gE bJ) (aJ 7))) (kL (dU (bH Bi (bH hO (aJ 8) (gK (.int 1))) (bH hO (aJ 8) (gK (.int 2))))) (fun σ=>some (true,σ)))) (sE (uF fD (aJ 4) (aK (aJ 8) bJ))) (sE (uF uH (aJ 4) (aK (iO eL (aK (aJ 5) (aK (bH fQ (aJ 1) (gE (aK (aJ 2) bJ))) bJ))) bJ)))) (qD [1,2,3,4,6] (dW (sE (uF uH (aJ 4) (aK (bH hO (aJ 6) (gK (.int 0))) bJ))) (eS (lZ bJ) (bY 5)))))))))) (sE (uF fD (aJ 5) (aK (aJ 6) bJ))))
def Mr(jL eL:qR):Nat→M Fl:=(wT (fY (aK (aJ 3) (aK (aJ 4) bJ))))
def E4(jL eL:qR):Nat→M Fl:=(dW (eS (fY (aK (lZ bJ) (aK (lZ bJ) (aK (lZ bJ) bJ)))) (Y8 [(bY 3),(bY 4),(bY 5)])) (qD [0,1,2,3,4,5] (dW (Vv [1,2,3,4,5] (hF (bH fQ (aJ 0) (gE (aK (fY (aK (gE bJ) (aK (gK (.bool true)) (aK (gE bJ) bJ)))) bJ)))) (bY 6) (yP jL eL)) (qD [3,4] (Mr jL eL)))))
theorem S5{n:Nat}{L:cY}(G:Gd){jL:qR}(a:∀F,B2 (n) F (.ref 261) jL){eL:qR}(b:∀F,B2 (n) F (.ref 256) eL):Fc (n) (wZ (jS MineH.o266v0) L 266 zS) (cL (at_ [10])) (E4 jL eL):=by have T:=(iB w.params).tab L 266;exact (bI (dH (cR (ic (gH aO) (ic (gH aO) (ic (gH aO) aO)))) (oF (eA (lg T 3) (eA (lg T 4) (ig (lg T 5) mN) rfl) rfl)) rfl rfl rfl) (eZ T.fk (bI (ď T.fk (mZ (cH eE (lc T 0) (dY (ic (by refine cR ?_;exact (ic (dY aO) (ic Dm (ic (dY aO) aO)))) aO)))) (lg T 6) (cM (hV (kK (fC (lE (eT (eU fun _ _=>rfl) (lc T 6) bM) rfl) (fC (cW mC (Bc (base:=100) (names:=[aC "one"]) (cap:=[(6,aC "thing")]) T (qP (by decide)) (by decide) (by decide) (fun _=>rfl) rfl rfl rfl rfl (.cons (aG (i:=6) rfl) rfl rfl rfl .nil) (.cons rfl .nil) (mZ (cH eE (lc T 1) (dY (ic (lc T 2) aO)))) (fun C T1=>(lg T1 1)) (fun C T1=>(cW Tg (lc T1 1) (eT (eU fun _ _=>rfl) (lc T1 0) bM) rfl)) (fun C T1=>(lc T1 1))) (dY aO) rfl) lR))) (Ml T.fk (bI (dH (dY (ic (gD (G.e T.fk rfl rfl Dt (by kernel_rfl) (by decide)) (.inr (.inr ⟨261,_,_,rfl,G.K 261 MineH.o261v0 (by kernel_rfl),rfl⟩)) (a _) (by exact ⟨rfl,⟨rfl,trivial⟩⟩) (ic (lc T 5) (ic (lc T 1) aO)) rfl) (ic (gD (G.e T.fk rfl rfl Dt (by kernel_rfl) (by decide)) (.inr (.inr ⟨261,_,_,rfl,G.K 261 MineH.o261v0 (by kernel_rfl),rfl⟩)) (a _) (by exact ⟨rfl,⟨rfl,trivial⟩⟩) (ic (lc T 5) (ic (dY (ic (lc T 2) aO)) aO)) rfl) aO))) (lg T 7) rfl rfl rfl) (bI (aBe (base:=100) (names:=[aC "sides"]) (cap:=[(5,aC "stretch")]) T rfl (aG (i:=8) rfl) (qP (by decide)) (by decide) (by decide) (fun _=>rfl) rfl rfl rfl rfl (.cons (aG (i:=5) rfl) rfl rfl rfl .nil) (.cons rfl .nil) (mZ (by refine cR ?_;exact (ic (dY aO) (ic (lc T 1) (ic (dY (ic (lc T 2) aO)) aO))))) (fun C T1=>(lg T1 1)) (fun C T1=>(gD (G.e T1.fk rfl rfl yQ (by kernel_rfl) (by decide)) (.inr (.inr ⟨256,_,_,rfl,G.K 256 MineH.o256v0 (by kernel_rfl),rfl⟩)) (b _) (by exact ⟨rfl,⟨rfl,trivial⟩⟩) (ic (lc T1 0) (ic (lc T1 1) aO)) rfl))) (bI (hV (cW wU (lc T 7) (dY (ic (dY aO) (ic (dY aO) aO))) rfl) (cM (eN rfl rfl (kJ cA rfl bQ (gR T.fk) (lc T 3) (by exact ⟨rfl,trivial⟩) (ic (by refine cR ?_;exact (ic (eT (eU fun _ _=>rfl) (lc T 8) bM) (ic (lc T 7) aO))) aO) rfl))) iG) (eZ T.fk (bI (hV (kK (fC (cW aBy (dY aO) (lc T 7) rfl) (fC (cW wU (eT (eU fun _ _=>rfl) (lc T 8) bM) (eT (eU fun _ _=>rfl) (lc T 8) bM) rfl) lR))) (cM (eN rfl rfl (kJ cA rfl bQ (gR T.fk) (lc T 4) (by exact ⟨rfl,trivial⟩) (ic (lc T 8) aO) rfl))) (cM (eN rfl rfl (kJ kM rfl bQ (uZ T.fk) (lc T 4) (by exact ⟨rfl,trivial⟩) (ic (gD (G.e T.fk rfl rfl yQ (by kernel_rfl) (by decide)) (.inr (.inr ⟨256,_,_,rfl,G.K 256 MineH.o256v0 (by kernel_rfl),rfl⟩)) (b _) (by exact ⟨rfl,⟨rfl,trivial⟩⟩) (ic (lc T 5) (ic (cH eE (lc T 1) (dY (ic (lc T 2) aO))) aO)) rfl) aO) rfl)))) (eZ T.fk (bI (eN rfl rfl (kJ kM rfl bQ (uZ T.fk) (lc T 4) (by exact ⟨rfl,trivial⟩) (ic (eT (eU fun _ _=>rfl) (lc T 6) bM) aO) rfl)) (cM (dH (gH aO) (lg T 5) rfl rfl rfl)))))))))) (cM (eN rfl rfl (kJ cA rfl bQ (gR T.fk) (lc T 5) (by exact ⟨rfl,trivial⟩) (ic (lc T 6) aO) rfl))))) fun _=>rfl) (eZ T.fk (cM (mY (by refine cR ?_;exact (ic (lc T 3) (ic (lc T 4) aO)))))))))
end
section
open MineH (at_ cL fr)
noncomputable def tQ:mE:=[aC "codes",aC "base",aC "text",aC "side",aC "rows",aC "i",aC "j",aC "last",aC "tag",aC "i1",aC "i2",aC "j1",aC "j2",aC "same"]
theorem fK(P:fV):lU (jS MineH.o273v0) tQ:=.of (by kernel_rfl)
def pH:Nat→M Fl:=(dW (eS (P0 rM Bi (iA (aJ 1) (gP (aJ 9)) (gP (aJ 10))) (iA (aJ 2) (gP (aJ 11)) (gP (aJ 12))) (gE bJ)) (bY 13)) (dW (rP (Te (dU (bH Bi (fY (aK (aJ 9) (aK (aJ 11) bJ))) (fY (aK (aJ 5) (aK (aJ 6) bJ))))) (Te (dU (bH Bi (aJ 13) (bH rM (aJ 8) (gK (.str (aC "equal")))))) (Te (dU (bH rM (aJ 13) (aJ 7))) (fun σ=>some (false,σ))))) (wT (gE (aK (fY (aK (gK (.int 0)) (aK (gK (.int 0)) (aK (aJ 3) (aK (gK (.str (aC "fault"))) (aK (gE (aK (gK (.str (aC "fault"))) bJ)) bJ)))))) bJ))) (lS .next)) (qD [1,2,3,4,8,9,10,11,12,13] (dW (rP (Tf (oB (aJ 13))) (sE (uF fD (aJ 4) (aK (fY (aK (aJ 9) (aK (aJ 10) (aK (aJ 3) (aK (aJ 8) (aK (iA (aJ 2) (gP (aJ 11)) (gP (aJ 12))) bJ)))))) bJ))) (lS .next)) (qD [1,2,3,4,10,12,13] (eS (fY (aK (aJ 10) (aK (aJ 12) (aK (aJ 13) bJ)))) (Gu [bY 7,bY 6,bY 5])))))))
def xN:Nat→M Fl:=(wT (xP (dU (bH rM (fY (aK (aJ 5) (aK (aJ 6) bJ))) (fY (aK (iO F8 (aK (aJ 1) bJ)) (aK (iO F8 (aK (aJ 2) bJ)) bJ))))) (aJ 4) (gE (aK (fY (aK (gK (.int 0)) (aK (gK (.int 0)) (aK (aJ 3) (aK (gK (.str (aC "fault"))) (aK (gE (aK (gK (.str (aC "fault"))) bJ)) bJ)))))) bJ))))
def wR:Nat→M Fl:=(dW (eS (fY (aK (lZ bJ) (aK (gK (.int 0)) (aK (gK (.int 0)) (aK (gK .none) bJ))))) (Y8 [(bY 4),(bY 5),(bY 6),(bY 7)])) (qD [0,1,2,3,4,5,6,7] (dW (Dy [1,2,3,4,5,6,7] (hF (aJ 0)) (Y8 [(bY 8),(bY 9),(bY 10),(bY 11),(bY 12)]) (pH)) (qD [1,2,3,4,5,6] (xN)))))
theorem H0{n:Nat}{L:cY}(G:Gd):Fc (n) (wZ (jS MineH.o273v0) L 273 tQ) (cL (at_ [11])) (wR):=by have T:=(fK w.params).tab L 273;exact (bI (dH (cR (ic (gH aO) (ic bM (ic bM (ic pX aO))))) (oF (eA (lg T 4) (eA (lg T 5) (eA (lg T 6) (ig (lg T 7) mN) rfl) rfl) rfl)) rfl rfl rfl) (eZ T.fk (bI (sV T.fk (mZ (lc T 0)) (oF (eA (lg T 8) (eA (lg T 9) (eA (lg T 10) (eA (lg T 11) (ig (lg T 12) mN) rfl) rfl) rfl) rfl)) (bI (dH (Ė mC wU (jW (lc T 1) (gZ (lc T 9)) (gZ (lc T 10))) (jW (lc T 2) (gZ (lc T 11)) (gZ (lc T 12))) (dY aO) rfl) (lg T 13) rfl rfl rfl) (bI (hV (kK (H5 (cW wU (by refine cR ?_;exact (ic (lc T 9) (ic (lc T 11) aO))) (by refine cR ?_;exact (ic (lc T 5) (ic (lc T 6) aO))) rfl) (H5 (cW wU (lc T 13) (Gr mC (lc T 8) jA rfl) rfl) (H5 (cW mC (lc T 13) (lc T 7) rfl) Vp)))) (cM (mY (dY (ic (by refine cR ?_;exact (ic bM (ic bM (ic (lc T 3) (ic jA (ic (dY (ic jA aO)) aO)))))) aO)))) iG) (eZ T.fk (bI (hV (Mm (lE (lc T 13) rfl)) (cM (eN rfl rfl (kJ cA rfl bQ (gR T.fk) (lc T 4) (by exact ⟨rfl,trivial⟩) (ic (by refine cR ?_;exact (ic (lc T 9) (ic (lc T 10) (ic (lc T 3) (ic (lc T 8) (ic (jW (lc T 2) (gZ (lc T 11)) (gZ (lc T 12))) aO)))))) aO) rfl))) iG) (eZ T.fk (cM (kZ (cR (ic (lc T 10) (ic (lc T 12) (ic (lc T 13) aO)))) (eO T (aG (i:=7) rfl) (eO T (aG (i:=6) rfl) (eO T (aG (i:=5) rfl) mI))) rfl rfl))))))) fun _=>rfl) (eZ T.fk (cM (mY (uD (cW mC (by refine cR ?_;exact (ic (lc T 5) (ic (lc T 6) aO))) (by refine cR ?_;exact (ic (gD (G.e T.fk rfl rfl Bx (by kernel_rfl) (by decide)) (.inl ⟨_,rfl⟩) uC (by exact ⟨rfl,trivial⟩) (ic (lc T 1) aO) rfl) (ic (gD (G.e T.fk rfl rfl Bx (by kernel_rfl) (by decide)) (.inl ⟨_,rfl⟩) uC (by exact ⟨rfl,trivial⟩) (ic (lc T 2) aO) rfl) aO))) rfl) (lc T 4) (dY (ic (by refine cR ?_;exact (ic bM (ic bM (ic (lc T 3) (ic jA (ic (dY (ic jA aO)) aO)))))) aO)))))))))
end
section
open MineH (at_ cL fr)
noncomputable def wO:mE:=[aC "matcher",aC "base",aC "one",aC "other",aC "rows",aC "told",aC "merged",aC "done",aC "low",aC "high",aC "words",aC "ways",aC "reach",aC "i1",aC "i2",aC "side",aC "tag",aC "text",aC "old",aC "left",aC "right",aC "way"]
theorem fP(P:fV):lU (jS MineH.o280v0) wO:=.of (by kernel_rfl)
def rD(bg:Cu)(fK:qR)(av:Cu):Nat→M Fl:=(dW (eS (uF aCj (aJ 4) (aK (gK (.int 0)) bJ)) (Y8 [(bY 13),(bY 14),(bY 15),(bY 16),(bY 17)])) (dW (sE (uF fD (bH hO (aJ 10) (aJ 15)) (aK (aJ 16) bJ))) (dW (sE (uF uH (bH hO (aJ 11) (aJ 15)) (aK (bH fQ (iA (aJ 1) (gP (bH hO (aJ 12) (aJ 15))) (gP (aJ 13))) (xP (dU (bH rM (aJ 16) (gK (.str (aC "delete"))))) (gE bJ) (aJ 17))) bJ))) (dW (eS (xP (dU (bH rM (aJ 16) (gK (.str (aC "insert"))))) (aJ 13) (aJ 14)) (aE1 (aJ 12) (aJ 15))) (eS (iO aCl (aK (aJ 9) (aK (aJ 14) bJ))) (bY 9))))))
def Aa(bg:Cu)(fK:qR)(av:Cu):Nat→M Fl:=(dW (eS (fY (aK (iA (aJ 1) (gP (aJ 8)) (gP (aJ 9))) (aK (bH fQ (bH hO (aJ 11) (gK (.int 0))) (iA (aJ 1) (gP (bH hO (aJ 12) (gK (.int 0)))) (gP (aJ 9)))) (aK (bH fQ (bH hO (aJ 11) (gK (.int 1))) (iA (aJ 1) (gP (bH hO (aJ 12) (gK (.int 1)))) (gP (aJ 9)))) bJ)))) (Gu [bY 20,bY 19,bY 18])) (dW (eS (xP (Te (dU (bH rM (aJ 19) (aJ 20))) (Te (dU (bH rM (aJ 20) (aJ 18))) (fun σ=>some (false,σ)))) (aJ 19) (xP (dU (bH rM (aJ 19) (aJ 18))) (aJ 20) (gE (aK (gE (aK (aJ 18) (aK (aJ 19) (aK (aJ 20) bJ)))) bJ)))) (bY 21)) (dW (sE (uF fD (aJ 5) (aK (fY (aK (aJ 18) (aK (aJ 10) bJ))) bJ))) (dW (sE (uF uH (aJ 6) (aK (bH fQ (iA (aJ 1) (gP (aJ 7)) (gP (aJ 8))) (aJ 21)) bJ))) (eS (aJ 9) (bY 7))))))
def rE(bg:Cu)(fK:qR)(av:Cu):Nat→M Fl:=(dW (eS (fY (aK (bH hO (bH hO (aJ 4) (gK (.int 0))) (gK (.int 0))) (aK (bH hO (bH hO (aJ 4) (gK (.int 0))) (gK (.int 1))) bJ))) (Gu [bY 9,bY 8])) (dW (eS (fY (aK (gE (aK (lZ bJ) (aK (lZ bJ) bJ))) (aK (gE (aK (lZ bJ) (aK (lZ bJ) bJ))) (aK (lZ (aK (aJ 8) (aK (aJ 8) bJ))) bJ)))) (Gu [bY 12,bY 11,bY 10])) (qD [1,4,5,6,7,8,9,10,11,12] (dW (qK [1,4,5,6,7,8,9,10,11,12] (kL (dU (bH Bi (aJ 4) (gE bJ))) (kL (dU (bH gLe (bH hO (bH hO (aJ 4) (gK (.int 0))) (gK (.int 0))) (aJ 9))) (fun σ=>some (true,σ)))) (rD bg fK av)) (qD [1,4,5,6,7,8,9,10,11,12] (Aa bg fK av))))))
def Ab(bg:Cu)(fK:qR)(av:Cu):Nat→M Fl:=(wT (fY (aK (aJ 5) (aK (bH fQ (aJ 6) (iA (aJ 1) (gP (aJ 7)) pP)) bJ))))
def wG(bg:Cu)(fK:qR)(av:Cu):Nat→M Fl:=(dW (sE (Y9 bg (aJ 0) (aK (aJ 2) bJ))) (dW (eS (iO fK (aK (Y9 av (aJ 0) bJ) (aK (aJ 1) (aK (aJ 2) (aK (gK (.int 0)) bJ))))) (bY 4)) (dW (sE (Y9 bg (aJ 0) (aK (aJ 3) bJ))) (dW (eS (iO Wc (aK (bH fQ (aJ 4) (iO fK (aK (Y9 av (aJ 0) bJ) (aK (aJ 1) (aK (aJ 3) (aK (gK (.int 1)) bJ)))))) bJ)) (bY 4)) (dW (eS (fY (aK (lZ bJ) (aK (lZ bJ) (aK (gK (.int 0)) bJ)))) (Gu [bY 7,bY 6,bY 5])) (qD [1,4,5,6,7] (dW (qK [1,4,5,6,7] (dU (bH Bi (aJ 4) (gE bJ))) (rE bg fK av)) (qD [1,5,6,7] (Ab bg fK av)))))))))
theorem Mk{n:Nat}{L:cY}(G:Gd){b:Cu}(d:∀c0 us c1 r,eB us=true→b c0 us=some (c1,r)→qW c0∧tL (n) (.ref 181) c0 us (fun c a=>c=c1∧a=r)){fK:qR}(e:∀F,B2 (n) F (.ref 273) fK){f:Cu}(g:∀c0 us c1 r,eB us=true→f c0 us=some (c1,r)→qW c0∧tL (n) (.ref 210) c0 us (fun c a=>c=c1∧a=r)):Fc (n) (wZ (jS MineH.o280v0) L 280 wO) (cL (at_ [12])) (wG b fK f):=by have T:=(fP w.params).tab L 280;exact (bI (eN rfl rfl (xL G.K T.fk (aGv G) d (lc T 0) (by exact ⟨rfl,trivial⟩) (ic (lc T 2) aO) rfl)) (bI (dH (gD (G.e T.fk rfl rfl Ac (by kernel_rfl) (by decide)) (.inr (.inr ⟨273,_,_,rfl,G.K 273 MineH.o273v0 (by kernel_rfl),rfl⟩)) (e _) (by exact ⟨rfl,⟨rfl,⟨rfl,⟨rfl,trivial⟩⟩⟩⟩) (ic (xL G.K T.fk (aD3 G) g (lc T 0) (by exact trivial) aO rfl) (ic (lc T 1) (ic (lc T 2) (ic bM aO)))) rfl) (lg T 4) rfl rfl rfl) (bI (eN rfl rfl (xL G.K T.fk (aGv G) d (lc T 0) (by exact ⟨rfl,trivial⟩) (ic (lc T 3) aO) rfl)) (bI (dH (gD (G.e T.fk rfl rfl ġ (by kernel_rfl) (by decide)) (.inl ⟨_,rfl⟩) Sk (by exact ⟨rfl,trivial⟩) (ic (cH eE (lc T 4) (gD (G.e T.fk rfl rfl Ac (by kernel_rfl) (by decide)) (.inr (.inr ⟨273,_,_,rfl,G.K 273 MineH.o273v0 (by kernel_rfl),rfl⟩)) (e _) (by exact ⟨rfl,⟨rfl,⟨rfl,⟨rfl,trivial⟩⟩⟩⟩) (ic (xL G.K T.fk (aD3 G) g (lc T 0) (by exact trivial) aO rfl) (ic (lc T 1) (ic (lc T 3) (ic bM aO)))) rfl)) aO) rfl) (lg T 4) rfl rfl rfl) (bI (kZ (cR (ic (gH aO) (ic (gH aO) (ic bM aO)))) (eO T (aG (i:=7) rfl) (eO T (aG (i:=6) rfl) (eO T (aG (i:=5) rfl) mI))) rfl rfl) (eZ T.fk (bI (sD T.fk (cW wU (lc T 4) (dY aO) rfl) (bI (kZ (cR (ic (eT (eU fun _ _=>rfl) (eT (eU fun _ _=>rfl) (lc T 4) bM) bM) (ic (eT (eU fun _ _=>rfl) (eT (eU fun _ _=>rfl) (lc T 4) bM) bM) aO))) (eO T (aG (i:=9) rfl) (eO T (aG (i:=8) rfl) mI)) rfl rfl) (bI (kZ (cR (ic (dY (ic (gH aO) (ic (gH aO) aO))) (ic (dY (ic (gH aO) (ic (gH aO) aO))) (ic (gH (ic (lc T 8) (ic (lc T 8) aO))) aO)))) (eO T (aG (i:=12) rfl) (eO T (aG (i:=11) rfl) (eO T (aG (i:=10) rfl) mI))) rfl rfl) (eZ T.fk (bI (sD T.fk (kK (fC (cW wU (lc T 4) (dY aO) rfl) (fC (cW aHn (eT (eU fun _ _=>rfl) (eT (eU fun _ _=>rfl) (lc T 4) bM) bM) (lc T 9) rfl) lR))) (bI (dH (kJ sZ rfl bQ (U0 T.fk) (lc T 4) (by exact ⟨rfl,trivial⟩) (ic bM aO) rfl) (oF (eA (lg T 13) (eA (lg T 14) (eA (lg T 15) (eA (lg T 16) (ig (lg T 17) mN) rfl) rfl) rfl) rfl)) rfl rfl rfl) (bI (eN rfl rfl (kJ cA rfl bQ (gR T.fk) (eT (eU fun _ _=>rfl) (lc T 10) (lc T 15)) (by exact ⟨rfl,trivial⟩) (ic (lc T 16) aO) rfl)) (bI (eN rfl rfl (kJ kM rfl bQ (uZ T.fk) (eT (eU fun _ _=>rfl) (lc T 11) (lc T 15)) (by exact ⟨rfl,trivial⟩) (ic (cH eE (jW (lc T 1) (gZ (eT (eU fun _ _=>rfl) (lc T 12) (lc T 15))) (gZ (lc T 13))) (uD (cW mC (lc T 16) jA rfl) (dY aO) (lc T 17))) aO) rfl)) (bI (dH (uD (cW mC (lc T 16) jA rfl) (lc T 13) (lc T 14)) (aBg T.fk (lc T 12) (lc T 15)) rfl rfl rfl) (cM (dH (gD (G.e T.fk rfl rfl aL0 (by kernel_rfl) (by decide)) (.inl ⟨_,rfl⟩) χ (by exact ⟨rfl,⟨rfl,trivial⟩⟩) (ic (lc T 9) (ic (lc T 14) aO)) rfl) (lg T 9) rfl rfl rfl))))))) (eZ T.fk (bI (kZ (cR (ic (jW (lc T 1) (gZ (lc T 8)) (gZ (lc T 9))) (ic (cH eE (eT (eU fun _ _=>rfl) (lc T 11) bM) (jW (lc T 1) (gZ (eT (eU fun _ _=>rfl) (lc T 12) bM)) (gZ (lc T 9)))) (ic (cH eE (eT (eU fun _ _=>rfl) (lc T 11) bM) (jW (lc T 1) (gZ (eT (eU fun _ _=>rfl) (lc T 12) bM)) (gZ (lc T 9)))) aO)))) (eO T (aG (i:=20) rfl) (eO T (aG (i:=19) rfl) (eO T (aG (i:=18) rfl) mI))) rfl rfl) (bI (dH (uD (kK (H5 (cW mC (lc T 19) (lc T 20) rfl) (H5 (cW mC (lc T 20) (lc T 18) rfl) Vp))) (lc T 19) (uD (cW mC (lc T 19) (lc T 18) rfl) (lc T 20) (dY (ic (dY (ic (lc T 18) (ic (lc T 19) (ic (lc T 20) aO)))) aO)))) (lg T 21) rfl rfl rfl) (bI (eN rfl rfl (kJ cA rfl bQ (gR T.fk) (lc T 5) (by exact ⟨rfl,trivial⟩) (ic (by refine cR ?_;exact (ic (lc T 18) (ic (lc T 10) aO))) aO) rfl)) (bI (eN rfl rfl (kJ kM rfl bQ (uZ T.fk) (lc T 6) (by exact ⟨rfl,trivial⟩) (ic (cH eE (jW (lc T 1) (gZ (lc T 7)) (gZ (lc T 8))) (lc T 21)) aO) rfl)) (cM (dH (lc T 9) (lg T 7) rfl rfl rfl)))))))))))) (eZ T.fk (cM (mY (by refine cR ?_;exact (ic (lc T 5) (ic (cH eE (lc T 6) (jW (lc T 1) (gZ (lc T 7)) vC)) aO)))))))))))))
end
section
open MineH (at_ cL fr)
noncomputable def uT:mE:=[aC "script",aC "things",aC "base",aC "matcher",aC "queue",aC "trunk",aC "group",aC "side",aC "told",aC "row"]
theorem dlaw(P:fV):lU (jS MineH.o285v0) uT:=.of (by kernel_rfl)
def Mo(eR eL af fP iB:qR):Nat→M Fl:=(dW (eS (iO fP (aK (aJ 3) (aK (aJ 2) (aK (aJ 5) (aK (iO eL (aK (aJ 1) (aK (gE (aK (aJ 7) bJ)) bJ))) bJ))))) (Y8 [(bY 8),(bY 9)])) (dW (rP (dU (bH Bi (fY (aK (aJ 8) (aK (aJ 9) bJ))) (iO iB (aK (aJ 1) (aK (aJ 6) (aK (aJ 7) bJ)))))) (wT (gK (.bool false))) (lS .next)) (qD [1,2,3,5,6,7,9] (rP (dU (bH rM (oD 100 (hF (aJ 9)) (bY 100) (qQ (oB (iO aCn (aK (aJ 100) (aK (gK (.fn (.type "list"))) bJ)))) (oC (aJ 100)))) (gE bJ))) (eS (fY (aK (aJ 9) (aK (bH fQ (aJ 6) (gE (aK (aJ 7) bJ))) bJ))) (Gu [bY 6,bY 5])) (lS .next)))))
def Gs(eR eL af fP iB:qR):Nat→M Fl:=(dW (eS (fY (aK (iO aFa (aK (aJ 2) bJ)) (aK (gE bJ) bJ))) (Gu [bY 6,bY 5])) (qD [1,2,3,4,5,6] (Yc (Dy [1,2,3,5,6] (hF (aJ 4)) (bY 7) (Mo eR eL af fP iB)))))
def aBu(eR eL af fP iB:qR):Nat→M Fl:=(wT (gK (.bool true)))
def aBv(eR eL af fP iB:qR):Nat→M Fl:=(dW (eS (iO eR (aK (aJ 0) bJ)) (bY 1)) (dW (eS (iO eL (aK (aJ 1) (aK (gE bJ) bJ))) (bY 2)) (dW (eS (iO af (aK (gK .none) (aK (aJ 2) bJ))) (bY 3)) (qD [1,2,3] (dW (Dy [1,2,3] (hF (fY (aK (fY (aK (gK (.int 0)) (aK (gK (.int 1)) (aK (gK (.int 2)) (aK (gK (.int 3)) (aK (gK (.int 4)) bJ)))))) (aK (fY (aK (gK (.int 4)) (aK (gK (.int 3)) (aK (gK (.int 2)) (aK (gK (.int 1)) (aK (gK (.int 0)) bJ)))))) bJ)))) (bY 4) (Gs eR eL af fP iB)) (qD [] (aBu eR eL af fP iB)))))))
theorem aLs:cL (at_ [13])=[(cL (at_ [13])).getD 0 default,(cL (at_ [13])).getD 1 default,(cL (at_ [13])).getD 2 default,(cL (at_ [13])).getD 3 default,(cL (at_ [13])).getD 4 default]:=by kernel_rfl
section
variable{n:Nat}{L:cY}(G:Gd){eR:qR}(bz:∀F,B2 (n) F (.ref 251) eR){eL:qR}(bu:∀F,B2 (n) F (.ref 256) eL){af:qR}(be:B2 (n) (wZ (jS MineH.o285v0) L 285 uT) (.ref 242) af){fP:qR}(b8:∀F,iY F→B2 (n) F (.ref 280) fP){iB:qR}(cv:∀F,B2 (n) F (.ref 266) iB)
include G bz bu be b8 cv
theorem Ď:Fy (n) (wZ (jS MineH.o285v0) L 285 uT) ((cL (at_ [13])).getD 0 default) (eS (iO eR (aK (aJ 0) bJ)) (bY 1)):=by have T:=(dlaw w.params).tab L 285;exact (dH (gD (G.e T.fk rfl rfl Jp (by kernel_rfl) (by decide)) (.inr (.inr ⟨251,_,_,rfl,G.K 251 MineH.o251v0 (by kernel_rfl),rfl⟩)) (bz _) (by exact ⟨rfl,trivial⟩) (ic (lc T 0) aO) rfl) (lg T 1) rfl rfl rfl)
theorem č:Fy (n) (wZ (jS MineH.o285v0) L 285 uT) ((cL (at_ [13])).getD 1 default) (eS (iO eL (aK (aJ 1) (aK (gE bJ) bJ))) (bY 2)):=by have T:=(dlaw w.params).tab L 285;exact (dH (gD (G.e T.fk rfl rfl yQ (by kernel_rfl) (by decide)) (.inr (.inr ⟨256,_,_,rfl,G.K 256 MineH.o256v0 (by kernel_rfl),rfl⟩)) (bu _) (by exact ⟨rfl,⟨rfl,trivial⟩⟩) (ic (lc T 1) (ic (dY aO) aO)) rfl) (lg T 2) rfl rfl rfl)
theorem Č:Fy (n) (wZ (jS MineH.o285v0) L 285 uT) ((cL (at_ [13])).getD 2 default) (eS (iO af (aK (gK .none) (aK (aJ 2) bJ))) (bY 3)):=by have T:=(dlaw w.params).tab L 285;exact (dH (Kr G.K (by kernel_rfl) (G.e T.fk rfl rfl Du (by kernel_rfl) (by decide)) be (by exact ⟨rfl,⟨rfl,trivial⟩⟩) (ic pX (ic (lc T 2) aO)) rfl) (lg T 3) rfl rfl rfl)
theorem ċ:Fy (n) (wZ (jS MineH.o285v0) L 285 uT) ((cL (at_ [13])).getD 3 default) (Dy [1,2,3] (hF (fY (aK (fY (aK (gK (.int 0)) (aK (gK (.int 1)) (aK (gK (.int 2)) (aK (gK (.int 3)) (aK (gK (.int 4)) bJ)))))) (aK (fY (aK (gK (.int 4)) (aK (gK (.int 3)) (aK (gK (.int 2)) (aK (gK (.int 1)) (aK (gK (.int 0)) bJ)))))) bJ)))) (bY 4) (Gs eR eL af fP iB)):=by have T:=(dlaw w.params).tab L 285;exact (sV T.fk (mZ (by refine cR ?_;exact (ic (by refine cR ?_;exact (ic bM (ic bM (ic bM (ic bM (ic bM aO)))))) (ic (by refine cR ?_;exact (ic bM (ic bM (ic bM (ic bM (ic bM aO)))))) aO)))) (lg T 4) (bI (kZ (cR (ic (gD (G.e T.fk rfl rfl Tc (by kernel_rfl) (by decide)) (.inr (.inl ⟨_,rfl⟩)) Ö (by exact ⟨rfl,trivial⟩) (ic (lc T 2) aO) rfl) (ic (dY aO) aO))) (eO T (aG (i:=6) rfl) (eO T (aG (i:=5) rfl) mI)) rfl rfl) (eZ T.fk (Ml T.fk (cM (sV T.fk (mZ (lc T 4)) (lg T 7) (bI (dH (gD (G.e T.fk rfl rfl Mu (by kernel_rfl) (by decide)) (.inr (.inr ⟨280,_,_,rfl,G.K 280 MineH.o280v0 (by kernel_rfl),rfl⟩)) (b8 _ T.fk) (by exact ⟨rfl,⟨rfl,⟨rfl,⟨rfl,trivial⟩⟩⟩⟩) (ic (lc T 3) (ic (lc T 2) (ic (lc T 5) (ic (gD (G.e T.fk rfl rfl yQ (by kernel_rfl) (by decide)) (.inr (.inr ⟨256,_,_,rfl,G.K 256 MineH.o256v0 (by kernel_rfl),rfl⟩)) (bu _) (by exact ⟨rfl,⟨rfl,trivial⟩⟩) (ic (lc T 1) (ic (dY (ic (lc T 7) aO)) aO)) rfl) aO)))) rfl) (oF (eA (lg T 8) (ig (lg T 9) mN) rfl)) rfl rfl rfl) (bI (hV (cW wU (by refine cR ?_;exact (ic (lc T 8) (ic (lc T 9) aO))) (gD (G.e T.fk rfl rfl Td (by kernel_rfl) (by decide)) (.inr (.inr ⟨266,_,_,rfl,G.K 266 MineH.o266v0 (by kernel_rfl),rfl⟩)) (cv _) (by exact ⟨rfl,⟨rfl,⟨rfl,trivial⟩⟩⟩) (ic (lc T 1) (ic (lc T 6) (ic (lc T 7) aO))) rfl) rfl) (cM (mY Dm)) iG) (eZ T.fk (cM (hV (cW mC (Bc (base:=100) (names:=[aC "entry"]) (cap:=[]) T (qP (by decide)) (by decide) (by decide) (fun _=>rfl) rfl rfl rfl rfl .nil (.cons rfl .nil) (mZ (lc T 9)) (fun C T1=>(lg T1 0)) (fun C T1=>(lE (gD (G.e T1.fk rfl rfl Ms (by kernel_rfl) (by decide)) (.inl ⟨_,rfl⟩) ψ (by exact ⟨rfl,⟨rfl,trivial⟩⟩) (ic (lc T1 0) (ic (G.e T1.fk rfl rfl Tc (by kernel_rfl) (by decide)) aO)) rfl) rfl)) (fun C T1=>(lc T1 0))) (dY aO) rfl) (cM (kZ (cR (ic (lc T 9) (ic (cH eE (lc T 6) (dY (ic (lc T 7) aO))) aO))) (eO T (aG (i:=6) rfl) (eO T (aG (i:=5) rfl) mI)) rfl rfl)) iG))))) fun _=>rfl))))) fun _=>rfl)
theorem Ċ:Fy (n) (wZ (jS MineH.o285v0) L 285 uT) ((cL (at_ [13])).getD 4 default) (wT (gK (.bool true))):=by have T:=(dlaw w.params).tab L 285;exact (mY Dm)
theorem aLv:Fc (n) (wZ (jS MineH.o285v0) L 285 uT) (cL (at_ [13])) (aBv eR eL af fP iB):=by have T:=(dlaw w.params).tab L 285;rw [aLs];have a:= @Ď n L G eR bz eL bu af be fP b8 iB cv;have b:= @č n L G eR bz eL bu af be fP b8 iB cv;have c:= @Č n L G eR bz eL bu af be fP b8 iB cv;have d:= @ċ n L G eR bz eL bu af be fP b8 iB cv;have e:= @Ċ n L G eR bz eL bu af be fP b8 iB cv;generalize h0:(cL (at_ [13])).getD 0 default=s0 at a⊢;generalize f:(cL (at_ [13])).getD 1 default=g at b⊢;generalize h:(cL (at_ [13])).getD 2 default=i at c⊢;generalize j:(cL (at_ [13])).getD 3 default=k at d⊢;generalize l:(cL (at_ [13])).getD 4 default=m at e⊢;refine bI a ?_;refine bI b ?_;refine bI c ?_;refine eZ T.fk ?_;refine bI d ?_;refine eZ T.fk ?_;exact cM e
end
end
section
open MineH (at_ cL fr)
theorem Ld{σ τ:St}{c:M Bool}{a b:M V}{t:Bool}{r:Option (V×St)}(e:c σ=some (t,τ))(d:t=true→a τ=r)(f:t=false→b τ=r):xP c a b σ=r:=by
 unfold xP;rw [e];show (if t=true then a τ else b τ)=_;cases t
 ·exact f rfl
 ·exact d rfl
abbrev qF:=Nat×Nat×Nat×mU×aW
def kT(r:qF):V:=.tup [vN r.1,vN r.2.1,vN r.2.2.1,.str r.2.2.2.1.s,vL r.2.2.2.2]
noncomputable def mQ(L:aW)(a b:Nat):aW:=(L.drop a).take (b-a)
def wV(A B:aW):List Iw→Nat→Nat→Option Bool→Prop
 |[],i,j,_=>i=A.length∧j=B.length
 |(bk,i1,i2,j1,j2)::r,i,j,b9=>i1=i∧j1=j∧i1≤i2∧i2≤A.length∧j1≤j2∧j2≤B.length∧((mQ A i1 i2=mQ B j1 j2∧mQ B j1 j2≠[])↔bk=.equal)∧b9≠some (decide (bk=.equal))∧wV A B r i2 j2 (some (decide (bk=.equal)))
theorem Ws{A B:aW}{d e b c a r i j f}:wV A B ((d,e,b,c,a)::r) i j f=(e=i∧c=j∧e≤b∧b≤A.length∧c≤a∧a≤B.length∧((mQ A e b=mQ B c a∧mQ B c a≠[])↔d=.equal)∧f≠some (decide (d=.equal))∧wV A B r b a (some (decide (d=.equal)))):=rfl
def eD(B:aW)(side:Nat):List Iw→List qF
 |[]=>[]
 |(bk,i1,i2,j1,j2)::r=>if bk=.equal then eD B side r else (i1,i2,side,bk,mQ B j1 j2)::eD B side r
theorem En{B:aW}{side:Nat}:eD B side []=([]):=rfl
theorem xE{B:aW}{side:Nat}{a b c d e r}:eD B side ((a,b,c,d,e)::r)=(if a=.equal then eD B side r else (b,c,side,a,mQ B d e)::eD B side r):=rfl
noncomputable def Ol:Option Bool→V
 |aF=>.none
 |some b=>.bool b
theorem Rw:∀l,(Ol l).pure=true
 |aF=>rfl
 |some _=>rfl
theorem Wz(r:qF):(kT r).pure=true:=by refine (?_:eB [vN r.1,vN r.2.1,vN r.2.2.1,.str r.2.2.2.1.s,vL r.2.2.2.2]=true);simp only [dT,dQ,eK];rfl
theorem rT:∀l:List qF,eB (l.map kT)=true:=by
 intro b
 induction b with
 |nil=>exact rfl
 |cons a r c=>simp only [cS,dT,dQ,Wz];exact c
theorem aF8(t:mU):Rf t.s=true:=by cases t<;>decide+kernel
theorem aF9(t u:mU):t.s=u.s↔t=u:=by cases t<;>cases u<;>decide+kernel
theorem M5(n:Nat)(t:mU):ed n (.str t.s)=true:=by cases n<;>exact aF8 t
theorem aL8(n a:Nat):ed n (vN a)=true:=by cases n<;>rfl
theorem Lg{σ:St}(t u:mU):rM (.str t.s) (.str u.s) σ=some (.bool (decide (t=u)),σ):=
 (G8 (dF rfl) (dF rfl) (M5 64 t) (M5 64 u) ⟨fun e=>(aF9 t u).mp (V.str.inj e),congrArg fun t:mU=>V.str t.s⟩).1
theorem aJd{σ:St}(a b:Bool):Bi (.bool a) (.bool b) σ=some (.bool (!(a==b)),σ):=by cases a<;>cases b<;>rfl
theorem aDq{σ:St}(a b:Bool):rM (.bool a) (.bool b) σ=some (.bool (a==b),σ):=by cases a<;>cases b<;>rfl
theorem aF0{σ:St}(a:Bool):rM (.bool a) .none σ=some (.bool false,σ):=by cases a<;>rfl
theorem Z2{σ:St}(a b:aW):rM (vL a) (vL b) σ=some (.bool (decide (a=b)),σ)∧Bi (vL a) (vL b) σ=some (.bool (!decide (a=b)),σ):=
 G8 (dF (eK a)) (dF (eK b)) (P8 63 a) (P8 63 b) ⟨fun e=>zW (V.lst.inj e),congrArg vL⟩
theorem Z3{σ:St}(a b:aW):rM (vL a) (vL b) σ=some (.bool (decide (a=b)),σ):=(Z2 a b).1
theorem Zx{σ:St}(a b:aW):Bi (vL a) (vL b) σ=some (.bool (!decide (a=b)),σ):=(Z2 a b).2
theorem Z1{σ:St}(a b:Nat):rM (.tup [vN a,vN b]) (.tup [vN a,vN b]) σ=some (.bool true,σ)∧Bi (.tup [vN a,vN b]) (.tup [vN a,vN b]) σ=some (.bool false,σ):=
 G8 (P:=True) (dF rfl) (dF rfl) rfl rfl ⟨fun _=>trivial,fun _=>rfl⟩
theorem aJe{σ:St}(a b:Nat):Bi (.tup [vN a,vN b]) (.tup [vN a,vN b]) σ=some (.bool false,σ):=(Z1 a b).2
theorem aJi{σ:St}(a b:Nat):rM (.tup [vN a,vN b]) (.tup [vN a,vN b]) σ=some (.bool true,σ):=(Z1 a b).1
theorem aFv{σ:St}{x y z a b:Nat}{L:aW}(d:lk σ.loc x=some (vL L))(e:lk σ.loc y=some (vN a))(f:lk σ.loc z=some (vN b))(j:a≤L.length)(k:b≤L.length)(g:L.length≤1000):iA (aJ x) (gP (aJ y)) (gP (aJ z)) σ=some (vL (mQ L a b),σ):=by
 have i:lim=1048576:=rfl;unfold iA;rw [bL d];refine (?_:bd (gP (aJ y) σ) _=_);have c:∀{y a:Nat},lk σ.loc y=some (vN a)→gP (aJ y) σ=some (some (a:Int),σ):=fun h=>by unfold gP;rw [bL h];rfl
 rw [c e];show bd (gP (aJ z) σ) _=_;rw [c f];show (if (L.map V.int).length≤lim then some (V.lst (pySl (L.map V.int) (some (a:Int)) (some (b:Int))),σ)else aF)=_;rw [if_pos (by rw [bF];exact bE ln5 g i),Ut];simp only [mQ,vL,Fg,Fh]
theorem aF1{σ:St}{f f':V→V→M V}{e c d:M V}{a b b':V}{t:Bool}{r:Option (V×St)}(g:e σ=some (a,σ))(h:c σ=some (b,σ))(i:f a b σ=some (.bool t,σ))(j:d σ=some (b',σ))(k:t=true→f' b b' σ=r)(l:t=false→r=some (.bool false,σ)):P0 f f' e c d σ=r:=by
 unfold P0;simp only [g];refine (?_:bd (c σ) _=_);simp only [h];show bd (f a b σ) _=_;rw [i];show (if t=true then bd (d σ) _ else _)=_;cases t
 ·exact (l rfl).symm
 ·rw [if_pos rfl,j];exact k rfl
section
variable{A B:aW}{side:Nat}
def sC(A B:aW)(side:Nat)(x:List (Nat×V))(i j:Nat)(b9:Option Bool)(bc:List qF):St:=
 ⟨x++[(1,vL A),(2,vL B),(3,vN side),(4,.ref 0),(5,vN i),(6,vN j),(7,Ol b9)],[(0,.list (bc.map kT))],1⟩
inductive JC(A B:aW)(side:Nat)(cs:List Iw)(p:Nat)(τ:St):Prop
 |mk (x:List (Nat×V)) (i j:Nat) (b9:Option Bool) (bc:List qF) (h:x=[]∨x=[(0,V.lst (cs.map C5))]) (e:τ=sC A B side x i j b9 bc) (l:bc.length≤p) (g:bc++eD B side (cs.drop p)=eD B side cs) (c:wV A B (cs.drop p) i j b9)
theorem ŉ{cs:List Iw}{p:Nat}{τ:St}{t:Iw}(hA:A.length≤1000)(hB:B.length≤1000)(hn:cs.length≤1000)(ht:cs[p]?=some t)(hj:JC A B side cs p τ):
  ∃τ',Y8 [bY 8,bY 9,bY 10,bY 11,bY 12] (C5 t) τ=some τ'∧Go (pH 1 τ') (xT [1,2,3,4,5,6,7] 1 (JC A B side cs (p+1)) (fun _=>False) (fun _ _=>False)):=by
 have b6:lim=1048576:=rfl;obtain ⟨x,i,j,G,m,hx,rfl,Q,C,H⟩:=hj;obtain ⟨k,g,h,d,f⟩:=t;obtain ⟨hp,ep⟩:=cU.mp ht;have hd:cs.drop p=(k,g,h,d,f)::cs.drop (p+1):=by rw [iL hp,ep]
 rw [hd]at C H;obtain ⟨rfl,rfl,a1,a2,b1,I,n5,vv,H⟩:=H;have cf:∀(i' J:Nat)(l':Option Bool)(y:List qF)(τ:St),A9 [1,2,3,4,5,6,7] τ=sC A B side [] i' J l' y→y.length≤p+1→y++eD B side (cs.drop (p+1))=eD B side cs→wV A B (cs.drop (p+1)) i' J l'→I0 [1,2,3,4,5,6,7] 1 (JC A B side cs (p+1)) τ:=fun i' J l' y τ e R T h3=>
  ⟨_,pY e (by refine (?_:(C1 [_,_,_,_,_,_,_] _)=true);simp only [gV,qH,hU (eK A),hU (eK B),hU (Rw l')];rfl) (eH (by decide) (eQ (c:=.list (y.map kT)) (fU (rT _))) iW),[],i',J,l',y,.inl rfl,rfl,R,T,h3⟩
 generalize D:decide (k=mU.equal)=s at *;let st:List (Nat×V)→St:=fun x=>⟨x++[(1,vL A),(2,vL B),(3,vN side),(4,.ref 0),(5,vN g),(6,vN d),(7,Ol G),(8,.str k.s),(9,vN g),(10,vN h),(11,vN d),(12,vN f)],[(0,.list (m.map kT))],1⟩;let N:List (Nat×V)→St:=fun x=>⟨x++[(1,vL A),(2,vL B),(3,vN side),(4,.ref 0),(5,vN g),(6,vN d),(7,Ol G),(8,.str k.s),(9,vN g),(10,vN h),(11,vN d),(12,vN f),(13,.bool s)],[(0,.list (m.map kT))],1⟩;have same:∀σ:St,lk σ.loc 1=some (vL A)→lk σ.loc 2=some (vL B)→lk σ.loc 9=some (vN g)→lk σ.loc 10=some (vN h)→lk σ.loc 11=some (vN d)→lk σ.loc 12=some (vN f)→P0 rM Bi (iA (aJ 1) (gP (aJ 9)) (gP (aJ 10))) (iA (aJ 2) (gP (aJ 11)) (gP (aJ 12))) (gE bJ) σ=some (.bool s,σ):=fun σ l1 l2 l9 W X Y=>by
  have d8:s=(decide (mQ A g h=mQ B d f)&& !decide (mQ B d f=[])):=by
   rw [←D];by_cases q:k=.equal
   ·obtain ⟨O,P⟩:=n5.mpr q;simp [q,O,P]
   ·have:¬(mQ A g h=mQ B d f∧mQ B d f≠[]):=fun z=>q (n5.mp z);simp only [q,decide_false];by_cases O:mQ A g h=mQ B d f
    ·by_cases P:mQ B d f=[]
     ·simp [P]
     ·exact absurd ⟨O,P⟩ this
    ·simp [O]
  refine aF1 (a:=vL (mQ A g h)) (b:=vL (mQ B d f)) (b':=vL []) (t:=decide (mQ A g h=mQ B d f)) (aFv l1 l9 W (by exact bE ln9 a1 a2) a2 hA) (aFv l2 X Y (by exact bE ln9 b1 I) I hB) (Z3 _ _) (nE bZ Ea) (fun z=>?_) (fun z=>?_)
  ·rw [Zx,d8,z];simp
  ·rw [d8,z];simp
 have l8:decide (k=mU.equal)=s:=D;have bp:∀σ:St,A9 [1,2,3,4,8,9,10,11,12,13] σ=⟨[(1,vL A),(2,vL B),(3,vN side),(4,.ref 0),(8,.str k.s),(9,vN g),(10,vN h),(11,vN d),(12,vN f),(13,.bool s)],[(0,.list (m.map kT))],1⟩→
   Go ((qD [1,2,3,4,8,9,10,11,12,13] (dW (rP (Tf (oB (aJ 13))) (sE (uF fD (aJ 4) (aK (fY (aK (aJ 9) (aK (aJ 10) (aK (aJ 3) (aK (aJ 8) (aK (iA (aJ 2) (gP (aJ 11)) (gP (aJ 12))) bJ)))))) bJ))) (lS .next)) (qD [1,2,3,4,10,12,13] (eS (fY (aK (aJ 10) (aK (aJ 12) (aK (aJ 13) bJ)))) (Gu [bY 7,bY 6,bY 5]))))) 1 σ) (xT [1,2,3,4,5,6,7] 1 (JC A B side cs (p+1)) (fun _=>False) (fun _ _=>False)):=fun σ hk=>by
  let r:List qF→St:=fun o=>⟨[(1,vL A),(2,vL B),(3,vN side),(4,.ref 0),(8,.str k.s),(9,vN g),(10,vN h),(11,vN d),(12,vN f),(13,.bool s)],[(0,.list (o.map kT))],1⟩;refine gL (σ':=r m) hk ?_;have fin:∀o:List qF,o.length≤p+1→o++eD B side (cs.drop (p+1))=eD B side cs→Go ((qD [1,2,3,4,10,12,13] (eS (fY (aK (aJ 10) (aK (aJ 12) (aK (aJ 13) bJ)))) (Gu [bY 7,bY 6,bY 5]))) 1 (r o)) (xT [1,2,3,4,5,6,7] 1 (JC A B side cs (p+1)) (fun _=>False) (fun _ _=>False)):=fun o R T=>by refine gL rfl ?_;refine dE (v:=.tup [vN h,vN f,.bool s]) (jE (bB (bL rfl) (bB (bL rfl) (bB (bL rfl) bZ))) Hr) rfl ?_;exact cf h f (some s) o _ rfl R T H
  refine bV (mO (Tb (gF (b:=s) (τ:=r m) (vZ (v:=.bool s) (bL rfl) rfl) ?_)));cases ta:s
  ·have Z:¬k=.equal:=of_decide_eq_false (D.trans ta);rw [xE,if_neg Z]at C;show Go _ _;refine nK (τ:=r (m++[(g,h,side,k,mQ B d f)])) (rL (u:=.ref 0) (us:=[kT (g,h,side,k,mQ B d f)]) (l:=m.map kT) (τ:=r m) (τ':=r m) (bL rfl) rfl (bB (jE (bB (bL rfl) (bB (bL rfl) (bB (bL rfl) (bB (bL rfl) (bB (aFv (a:=d) (b:=f) (L:=B) rfl rfl rfl (by exact bE ln9 b1 I) I hB) bZ))))) lm5) bZ) ((jH (l:=m.map kT) rfl (by simp;exact bE 0x6e314844a00d2312f18c6318e1829c77e7004 hn b6 Q hp)).trans (by simp only [r,cE];rfl))) ?_;exact fin (m++[(g,h,side,k,mQ B d f)]) (by simp;exact bE Ra Q) (by rw [bU];exact C)
  ·have Z:k=.equal:=of_decide_eq_true (D.trans ta);rw [xE,if_pos Z]at C;show Go _ _;exact iN (fin m (by exact bE Xp Q) C)
 have n6:∀σ:St,lk σ.loc 9=some (vN g)→lk σ.loc 11=some (vN d)→lk σ.loc 5=some (vN g)→lk σ.loc 6=some (vN d)→lk σ.loc 13=some (.bool s)→lk σ.loc 8=some (.str k.s)→lk σ.loc 7=some (Ol G)→
   (Te (dU (bH Bi (fY (aK (aJ 9) (aK (aJ 11) bJ))) (fY (aK (aJ 5) (aK (aJ 6) bJ))))) (Te (dU (bH Bi (aJ 13) (bH rM (aJ 8) (gK (.str (aC "equal")))))) (Te (dU (bH rM (aJ 13) (aJ 7))) (fun σ=>some (false,σ))))) σ=some (false,σ):=fun σ m9 m11 m5 m6 F m8 m7=>by
  have t1:dU (bH Bi (fY (aK (aJ 9) (aK (aJ 11) bJ))) (fY (aK (aJ 5) (aK (aJ 6) bJ)))) σ=some (false,σ):=kH (dN (jE (bB (bL m9) (bB (bL m11) bZ)) Cz) (jE (bB (bL m5) (bB (bL m6) bZ)) Cz) (aJe _ _));have t2:dU (bH Bi (aJ 13) (bH rM (aJ 8) (gK (.str (aC "equal"))))) σ=some (false,σ):=kH (dN (bL F) (dN (bL m8) rfl (Lg k .equal)) ((aJd _ _).trans (by rw [D];simp)));have t3:dU (bH rM (aJ 13) (aJ 7)) σ=some (false,σ):=by
   refine kH (dN (bL F) (bL m7) ?_)
   cases hl:G with
   |none=>exact aF0 s
   |some b=>refine (aDq s b).trans ?_;have:s≠b:=fun z=>vv (by rw [hl,z]);simp [this]
  simp only [Te,t1,t2,t3,bd,mH,if_false]
 rcases hx with rfl|rfl
 ·refine ⟨st [],rfl,?_⟩;unfold pH;refine bV (dE (τ:=st []) (τ':=N []) (same _ rfl rfl rfl rfl rfl rfl) rfl ?_);refine bV (zY (τ:=N []) (n6 _ rfl rfl rfl rfl rfl rfl rfl) (iN ?_));exact bp _ rfl
 ·refine ⟨st [(0,V.lst (cs.map C5))],rfl,?_⟩;unfold pH;refine bV (dE (τ:=st [(0,V.lst (cs.map C5))]) (τ':=N [(0,V.lst (cs.map C5))]) (same _ rfl rfl rfl rfl rfl rfl) rfl ?_);refine bV (zY (τ:=N [(0,V.lst (cs.map C5))]) (n6 _ rfl rfl rfl rfl rfl rfl rfl) (iN ?_));exact bp _ rfl
theorem aCw{cs:List Iw}(m:A.length<200)(o:B.length<200)(y:cs.length≤1000)(z:wV A B cs 0 0 aF):
  Go (wR 0 ⟨[(0,.lst (cs.map C5)),(1,vL A),(2,vL B),(3,vN side)],[],0⟩) fun f τ=>f=.ret (.ref 0)∧lk τ.cells 0=some (.list ((eD B side cs).map kT)):=by
 let s0:St:=⟨[(0,.lst (cs.map C5)),(1,vL A),(2,vL B),(3,vN side)],[],0⟩;refine (?_:Go (wR 0 s0) _);let k:St:=sC A B side [(0,.lst (cs.map C5))] 0 0 aF [];refine bV (dE (v:=.tup [.ref 0,vN 0,vN 0,.none]) (τ:=⟨[(0,.lst (cs.map C5)),(1,vL A),(2,vL B),(3,vN side)],[(0,.list [])],1⟩) (τ':=k) (jE (bB (nQ (τ:=s0) bZ Ea) (bB rfl (bB rfl (bB rfl bZ)))) lm4) rfl ?_);refine gL (σ':=k) rfl ?_;refine bV (wP (fun _=>False) (JC A B side cs) (ds:=cs.map C5) (τ:=k) (qB (bL rfl) (uR _)) (by show (0:Nat)≤1;decide) ⟨_,0,0,aF,[],.inr rfl,rfl,bG _,rfl,z⟩ (fun i H v c C=>?_) (fun τ' D=>?_))
 ·rw [gJ]at c
  cases l:cs[i]? with
  |none=>rw [l]at c;cases c
  |some t=>rw [l]at c;cases c;obtain ⟨τ',e,g⟩:=ŉ (by exact bE aG3 m) (by exact bE aG3 o) y l C;refine ⟨τ',e,g.mono fun f τ p=>?_⟩;cases f<;>first|exact p|exact p.elim
 ·obtain ⟨x,i,j,I,r,F,rfl,J,s,u⟩:=D.resolve_right id;rw [bF,kP]at s u;obtain ⟨rfl,rfl⟩:=u;have G:r=eD B side cs:=by rw [←s];simp [En,xE]
  show Go _ _;let d:St:=⟨[(1,vL A),(2,vL B),(3,vN side),(4,.ref 0),(5,vN A.length),(6,vN B.length)],[(0,.list (r.map kT))],1⟩;refine gL (σ':=d) (by rcases F with rfl|rfl<;>rfl) ?_;unfold xN;refine tS (τ:=d) (v:=.ref 0) ?_ ⟨rfl,by rw [←G];rfl⟩;refine Ld (t:=true) (τ:=d) (kH (dN (τ:=d) (τ':=d) (a:=.tup [vN A.length,vN B.length]) (b:=.tup [vN A.length,vN B.length]) (jE (bB (bL rfl) (bB (bL rfl) bZ)) Cz) (jE (bB (lO (bB (bL rfl) bZ) (Bf A m _)) (bB (lO (bB (bL rfl) bZ) (Bf B o _)) bZ)) Cz) (aJi _ _))) (fun _=>bL rfl) (fun h=>by cases h)
end
section
variable{n:Nat}
theorem Qi(G:Gd){A B:aW}{side:Nat}{cs:List Iw}(a:A.length<200)(b:B.length<200)(c:cs.length≤1000)(d:wV A B cs 0 0 aF):Zb (n+1) (.ref 273) [.lst (cs.map C5),vL A,vL B,vN side] (fun r=>r=.lst ((eD B side cs).map kT)):=by
 refine Yv.c (Ae (fd:=jS MineH.o273v0) (o:=MineH.o273v0) (tab:=tQ) (body:=cL (at_ [11])) (fK w.params) (G.K 273 _ (by kernel_rfl)) rfl G.lim (codeRec_of G.K (by kernel_rfl)) rfl (fun vs h=>?_) (by refine (?_:(4:Nat)≤14);decide) (by simp only [dT,dQ,A2,qC,Az,yI,tD,xF,uR,eK];rfl) fun L=>?_)
 ·revert vs;exact ll4 fun _ _ _ _=>by kernel_rfl
 ·obtain ⟨f,τ,e,rfl,g⟩:=aCw (side:=side) a b c d;refine jY (H0 G 0 _ _ _ e) ?_;rintro _ _ ⟨rfl,rfl⟩;exact ⟨.lst ((eD B side cs).map kT),qV (fS _) g (rT _),rT _,rfl⟩
end
end
section
open MineH (at_ cL fr)
structure D6 where
 high:Nat
 w0:List mU
 w1:List mU
 y0:aW
 y1:aW
 r0:Nat
 r1:Nat
def pU(A:aW)(r:Nat)(row:qF):aW:=mQ A r row.1++(if row.2.2.2.1=.delete then[]else row.2.2.2.2)
noncomputable def wC(row:qF):Nat:=if row.2.2.2.1=.insert then row.1 else row.2.1
def D6.add(A:aW)(g:D6)(row:qF):D6:=
 if row.2.2.1=0 then {g with high:=max g.high row.2.1,w0:=g.w0++[row.2.2.2.1],y0:=g.y0++pU A g.r0 row,r0:=wC row}
 else {g with high:=max g.high row.2.1,w1:=g.w1++[row.2.2.2.1],y1:=g.y1++pU A g.r1 row,r1:=wC row}
def zX(A:aW):List qF→D6→D6×List qF
 |[],g=>(g,[])
 |row::r,g=>if row.1≤g.high then zX A r (g.add A row)else (g,row::r)
theorem Pp{A:aW}{g}:zX A [] g=((g,[])):=rfl
theorem Po{A:aW}{row r g}:zX A (row::r) g=(if row.1≤g.high then zX A r (g.add A row)else (g,row::r)):=rfl
inductive kQ where
 |i (x:Int)
 |c (a b d:aW)
def iV:kQ→V
 |.i x=>.int x
 |.c a b d=>.lst [vL a,vL b,vL d]
abbrev jM:=aW×List mU×List mU
def vJ(l:List mU):cG:=l.map fun t=>V.str t.s
def iU(t:jM):V:=.tup [vL t.1,.lst [.lst (vJ t.2.1),.lst (vJ t.2.2)]]
theorem Kb{σ:St}{d:M V}{gy c:M V}{a b:Nat}{L:aW}(f:d σ=some (vL L,σ))(i:gy σ=some (vN a,σ))(j:c σ=some (vN b,σ))(k:L.length≤1000):iA d (gP gy) (gP c) σ=some (vL (mQ L a b),σ):=by
 unfold iA;rw [f];refine (?_:bd (gP gy σ) _=_);have e:∀{g:M V}{a:Nat},g σ=some (vN a,σ)→gP g σ=some (some (a:Int),σ):=fun h=>by unfold gP;rw [h];rfl
 rw [e i];show bd (gP c σ) _=_;rw [e j];show (if (L.map V.int).length≤lim then some (V.lst (pySl (L.map V.int) (some (a:Int)) (some (b:Int))),σ)else aF)=_;rw [if_pos (by rw [bF];exact bE ln5 k (rfl:lim=1048576)),Ut];simp only [mQ,vL,Fg,Fh]
theorem Ei{σ:St}{c:Nat}{l:cG}{n:Nat}{v:V}(a:lk σ.cells c=some (.list l))(h:l[n]?=some v)(b:l.length≤lim):hO (.ref c) (vN n) σ=some (v,σ):=
 qX (x:=ŧ σ (.ref c)) (f:=fun l=>if (0:Int)≤(n:Int)∧l.length≤lim then (l[((n:Int)).toNat]?).map fun d=>(d,σ)else aF) (qX a rfl) ((if_pos ⟨xY n,b⟩).trans (by rw [lJ,h];rfl))
theorem yC{σ:St}{a b:aW}(c:a.length+b.length≤1000000):fQ (vL a) (vL b) σ=some (vL (a++b),σ):=by refine (?_:(if (a.map V.int).length+(b.map V.int).length≤lim then some (V.lst (a.map V.int++b.map V.int),σ)else aF)=_);rw [if_pos (by simp only [bF];exact bE aHa c (rfl:lim=1048576)),←cE];rfl
theorem aJh{σ:St}{a b:Nat}:gLe (vN a) (vN b) σ=some (.bool (decide (a≤b)),σ):=by
 refine (?_:some (V.bool (decide ((a:Int)≤(b:Int))),σ)=_)
 congr 3
 exact decide_eq_decide.mpr (by simp)
theorem aFx{σ:St}{i:Nat}{d:V}{l:cG}(h:lk σ.cells i=some (.list (d::l)))(a:l.length≤lim):aCj [.ref i,.int 0] σ=some (d,{σ with cells:=lQ i (.list l) σ.cells}):=by refine (?_:aL σ i _=_);rw [Œ h];refine (?_:(if (0:Int)=0 then (if l.length≤lim then _ else aF)else aF)=_);rw [if_pos rfl,if_pos a]
theorem xD{σ:St}{i:Nat}{d:V}{l l':cG}(h:lk σ.cells i=some (.list l))(h':Gz σ d=some l')(a:l.length≤lim)(b:l'.length≤lim):uH [.ref i,d] σ=some (.none,{σ with cells:=lQ i (.list (l++l')) σ.cells}):=by refine (?_:aL σ i _=_);rw [Œ h];show ob (Gz σ d) _=_;simp only [h'];exact if_pos ⟨a,b⟩
theorem aFy{σ:St}{a b:Nat}:aCl [vN a,vN b] σ=some (vN (max a b),σ):=by
 refine (?_:some (V.int _,σ)=_)
 congr 3
 lia
theorem wA:∀l:List mU,eB (vJ l)=true:=by
 intro a
 induction a with
 |nil=>exact rfl
 |cons _ r b=>exact b
theorem W0(x:kQ):(iV x).pure=true:=by
 cases x with
 |i x=>rfl
 |c a b d=>refine (?_:eB [vL a,vL b,vL d]=true);simp only [dT,dQ,eK,eW]
theorem mP:∀l:List kQ,eB (l.map iV)=true:=by
 intro b
 induction b with
 |nil=>exact rfl
 |cons a r c=>simp only [cS,dT,dQ,W0];exact c
theorem Ru(t:jM):(iU t).pure=true:=by refine (?_:eB [vL t.1,.lst [.lst (vJ t.2.1),.lst (vJ t.2.2)]]=true);simp only [dT,dQ,A2,qC,Az,yI,tD,xF,wA,eK,eW]
theorem nO:∀l:List jM,eB (l.map iU)=true:=by
 intro b
 induction b with
 |nil=>exact rfl
 |cons a r c=>simp only [cS,dT,dQ,Ru];exact c
theorem aH5(r:qF):ed 63 (kT r)=true:=by refine (?_:C1 [vN r.1,vN r.2.1,vN r.2.2.1,.str r.2.2.2.1.s,vL r.2.2.2.2] (ed 62)=true);simp only [gV,qH,aL8,M5,P8,eW]
theorem aCc:∀l:List qF,(l.map kT).all (ed 63)=true:=by
 intro b
 induction b with
 |nil=>exact rfl
 |cons a r c=>simp only [cS,gV,aH5];exact c
structure K6(r:qF):Prop where
 le:r.1≤r.2.1
 hi:r.2.1≤200
 side:r.2.2.1=0∨r.2.2.1=1
 text:r.2.2.2.2.length≤200
section
variable{A:aW}{mm:Iy}
def Nv(A:aW)(mm:Iy)(rows:List qF)(told:List jM)(mg:List kQ)(dn low:Nat)(g:D6):St:=
 ⟨[(1,vL A),(4,.ref 1),(5,.ref 2),(6,.ref 3),(7,vN dn),(8,vN low),(9,vN g.high),(10,.lst [.ref 4,.ref 5]),(11,.lst [.ref 6,.ref 7]),(12,.ref 8)],
  [(8,.list [vN g.r0,vN g.r1]),(7,.list (g.y1.map V.int)),(6,.list (g.y0.map V.int)),(5,.list (vJ g.w1)),(4,.list (vJ g.w0)),(3,.list (mg.map iV)),(2,.list (told.map iU)),(1,.list (rows.map kT)),(0,.mat mm)],9⟩
theorem Ay{r:Nat}{row:qF}(ok:K6 row)(b:A.length≤200):(pU A r row).length≤400:=by
 unfold pU;rw [aS];have a:(mQ A r row.1).length≤200:=by unfold mQ;simp only [tZ,nZ];exact bR (J9 _ _) (bR (Bq _ _) b)
 have:=ok.text;split
 ·simp;exact bE 0x318a71af1809c6766001 a
 ·simp;exact bE 0x718a71af190102719d9829c6766002 a this
theorem aOl{rows:List qF}{told:List jM}{a:List kQ}{dn low:Nat}{g:D6}{τ:St}(e:A9 [1,4,5,6,7,8,9,10,11,12] τ=Nv A mm rows told a dn low g):Rc [1,4,5,6,7,8,9,10,11,12] 9 τ=some (Nv A mm rows told a dn low g):=by
 refine Il e ?_ (eH (by decide) (eQ (c:=.list [vN g.r0,vN g.r1]) rfl) (eH (by decide) (eQ (c:=.list (g.y1.map V.int)) (fU (kY _))) (eH (by decide) (eQ (c:=.list (g.y0.map V.int)) (fU (kY _))) (eH (by decide) (eQ (c:=.list (vJ g.w1)) (fU (wA _))) (eH (by decide) (eQ (c:=.list (vJ g.w0)) (fU (wA _)))
  (eH (by decide) (eQ (c:=.list (a.map iV)) (fU (mP _))) (eH (by decide) (eQ (c:=.list (told.map iU)) (fU (nO _))) (eH (by decide) (eQ (c:=.list (rows.map kT)) (fU (rT _))) (eH (by decide) rfl iW)))))))))
 exact cO (dF (eK A)) (cO rfl (cO rfl (cO rfl (cO rfl (cO rfl (cO rfl (cO rfl (cO rfl (cO rfl rfl)))))))))
structure GB0(g:D6)(n:Nat):Prop where
 a:g.y0.length≤400*n
 b:g.y1.length≤400*n
 c:g.w0.length≤n
 d:g.w1.length≤n
inductive JI3(A:aW)(mm:Iy)(told:List jM)(mg:List kQ)(dn low:Nat)(N:Nat)(d6:D6×List qF)(m:Nat)(τ:St):Prop
 |mk (rows:List qF) (g:D6) (e:τ=Nv A mm rows told mg dn low g) (u:m=rows.length) (l:m≤N) (b:GB0 g (N-m)) (r:zX A rows g=d6) (o:∀r∈rows,K6 r)
theorem Jt{c:Type}{a b:c}[Decidable (a=b)]:decide (a≠b)= !decide (a=b):=by by_cases h:a=b<;>simp [h]
theorem Us{σ:St}{rows:List qF}(h:lk σ.cells 1=some (.list (rows.map kT)))(a:lk σ.loc 4=some (.ref 1)):dU (bH Bi (aJ 4) (gE bJ)) σ=some (decide (rows≠[]),σ):=by rw [Jt];exact kH (dN (bL a) (nE bZ (by refine (?_:(0:Nat)≤1048576);simp)) (G8 (P:=rows=[]) (qV (by decide) h (rT _)) (dF rfl) (aCc rows) rfl ⟨fun e=>vX.mp (V.lst.inj e),fun e=>by rw [e];rfl⟩).2)
theorem S3{told:List jM}{o:List kQ}{dn low N:Nat}{k:D6×List qF}{m:Nat}{τ:St}{P:Fl→iX}{d2:Cu}{d3:qR}{d4:Cu}(s:A.length≤200)(O:N≤64)(hj:JI3 A mm told o dn low N k m τ)(F:∀g,GB0 g N→k.1=g→P .next (Nv A mm k.2 told o dn low k.1)):
  GB (kL (dU (bH Bi (aJ 4) (gE bJ))) (kL (dU (bH gLe (bH hO (bH hO (aJ 4) (gK (.int 0))) (gK (.int 0))) (aJ 9))) (fun σ=>some (true,σ)))) τ fun c τ'=>if c=true then Go (rD d2 d3 d4 9 τ') (Tz [1,4,5,6,7,8,9,10,11,12] 9 (JI3 A mm told o dn low N k) m P)else P .next τ':=by
 have p:lim=1048576:=rfl;obtain ⟨rows,g,rfl,rfl,Q,Z,R,Y7⟩:=hj;have t:GB0 g N:=by obtain ⟨b1,y,G,B⟩:=Z;have hh:N-rows.length≤N:=Bq _ _;exact ⟨by exact bE aLo b1,by exact bE aLo y,by exact bR (by assumption) (by assumption),by exact bE 0x39c62908d201ccc1003 B⟩
 refine gW (gF (Us (rows:=rows) rfl rfl) ?_)
 cases rows with
 |nil=>
  rw [fT (by simp)];have:k=(g,[]):=by rw [←R];rfl
  rw [this]at F;exact F g t rfl
 |cons row r=>
  rw [iM (by simp)];have ok:=Y7 row aR;have H:r.length+1≤N:=by simpa using Q
  refine gW (gF (b:=decide (row.1≤g.high)) (τ:=Nv A mm (row::r) told o dn low g) (kH (dN (dN (dN (bL rfl) rfl (Ei (n:=0) (v:=kT row) rfl rfl (by simp;exact bE 0x3631485071240838978c6318c70c14e307003 O p H:((row::r).map kT).length≤lim))) rfl (Cb (n:=0) (v:=vN row.1) rfl (by exact lm5))) (bL rfl) aJh)) ?_);by_cases C:row.1≤g.high
  ·rw [iM C];refine wQ ?_;show Go _ _;obtain ⟨b1,y,G,B⟩:=Z;have pv:N-r.length=(N-(row::r).length)+1:=by simp;exact bE ln1 H
   have gl:GB0 (g.add A row) (N-r.length):=by
    rw [pv];have l0:=Ay (A:=A) (r:=g.r0) ok s;have l1:=Ay (A:=A) (r:=g.r1) ok s;unfold D6.add;split
    ·refine ⟨by simp;exact bE ln2 b1 l0,by simp;exact bE ln4 y,by simp;exact bE aLb G,by simp;exact bE aLf B⟩
    ·refine ⟨by simp;exact bE ln4 b1,by simp;exact bE ln2 y l1,by simp;exact bE aLf G,by simp;exact bE aLb B⟩
   have cf:∀T:St,A9 [1,4,5,6,7,8,9,10,11,12] T=Nv A mm r told o dn low (g.add A row)→Wo [1,4,5,6,7,8,9,10,11,12] 9 (JI3 A mm told o dn low N k) ((row::r).length) T:=fun T e=>
    ⟨_,r.length,aOl e,by simp,r,g.add A row,rfl,rfl,by exact bE ln7 H,gl,(by rw [←R];show _=(if row.1≤g.high then _ else _);rw [if_pos C]:zX A r (g.add A row)=k),fun x hx=>Y7 x (aQ _ hx)⟩
   obtain ⟨i,f,side,d,text⟩:=row;obtain ⟨W,X,I,Y⟩:=ok;simp only at W X I Y C;have l0:(pU A g.r0 (i,f,side,d,text)).length≤400:=Ay ⟨W,X,I,Y⟩ s;have l1:(pU A g.r1 (i,f,side,d,text)).length≤400:=Ay ⟨W,X,I,Y⟩ s;have J:N-((i,f,side,d,text)::r).length≤64:=by exact bE 0xa718a71838138c1c33320e1002 O
   have qp:∀σ:St,lk σ.loc 16=some (.str d.s)→dU (bH rM (aJ 16) (gK (.str (aC "insert")))) σ=some (decide (d=.insert),σ):=fun σ h=>kH (dN (bL h) rfl (Lg d .insert));have rz:∀σ:St,lk σ.loc 16=some (.str d.s)→lk σ.loc 17=some (vL text)→xP (dU (bH rM (aJ 16) (gK (.str (aC "delete"))))) (gE bJ) (aJ 17) σ=some (vL (if d=.delete then[]else text),σ):=fun σ h h'=>by
    refine Ld ((fun σ h=>kH (dN (bL h) rfl (Lg d .delete)):∀σ:St,lk σ.loc 16=some (.str d.s)→dU (bH rM (aJ 16) (gK (.str (aC "delete")))) σ=some (decide (d=.delete),σ)) σ h) (fun z=>?_) (fun z=>?_)
    ·rw [if_pos (of_decide_eq_true z)];exact nE bZ Ea
    ·rw [if_neg (of_decide_eq_false z)];exact bL h'
   have D:∀σ:St,lk σ.loc 16=some (.str d.s)→lk σ.loc 13=some (vN i)→lk σ.loc 14=some (vN f)→xP (dU (bH rM (aJ 16) (gK (.str (aC "insert"))))) (aJ 13) (aJ 14) σ=some (vN (wC (i,f,side,d,text)),σ):=fun σ h h' jz=>by
    unfold wC;refine Ld (qp σ h) (fun z=>?_) (fun z=>?_)
    ·rw [if_pos (of_decide_eq_true z)];exact bL h'
    ·rw [if_neg (of_decide_eq_false z)];exact bL jz
   let j:Nat→List mU→List mU→aW→aW→Nat→Nat→St:=fun hi w0 w1 y0 y1 r0 r1=>⟨[(1,vL A),(4,.ref 1),(5,.ref 2),(6,.ref 3),(7,vN dn),(8,vN low),(9,vN hi),(10,.lst [.ref 4,.ref 5]),(11,.lst [.ref 6,.ref 7]),(12,.ref 8),(13,vN i),(14,vN f),(15,vN side),(16,.str d.s),(17,vL text)],
    [(8,.list [vN r0,vN r1]),(7,.list (y1.map V.int)),(6,.list (y0.map V.int)),(5,.list (vJ w1)),(4,.list (vJ w0)),(3,.list (o.map iV)),(2,.list (told.map iU)),(1,.list (r.map kT)),(0,.mat mm)],9⟩
   unfold rD;refine bV (dE (v:=kT (i,f,side,d,text)) (τ:=Nv A mm r told o dn low g) (τ':=j g.high g.w0 g.w1 g.y0 g.y1 g.r0 g.r1) (rL (u:=.ref 1) (us:=[.int 0]) (bL rfl) rfl rfl (aFx (l:=r.map kT) rfl (by simp;exact bE 0xd8c5211240838978c6318c70c14e307003 O p H))) rfl ?_);have vw:∀σ:St,lk σ.loc 9=some (vN g.high)→lk σ.loc 14=some (vN f)→iO aCl (aK (aJ 9) (aK (aJ 14) bJ)) σ=some (vN (max g.high f),σ):=fun σ h h'=>lO (bB (bL h) (bB (bL h') bZ)) aFy;rcases I with rfl|rfl
   ·refine bV (nK (τ:=j g.high (g.w0++[d]) g.w1 g.y0 g.y1 g.r0 g.r1) (rL (u:=.ref 4) (us:=[.str d.s]) (l:=vJ g.w0) (dN (bL rfl) (bL rfl) (wM (n:=0) rfl (by exact Cz))) rfl (bB (bL rfl) bZ) ((jH (l:=vJ g.w0) rfl (by unfold vJ;rw [bF];exact bE aK7 p G J:(vJ g.w0).length≤lim)).trans (by simp only [j,vJ,cE];rfl))) ?_);refine bV (nK (τ:=j g.high (g.w0++[d]) g.w1 (g.y0++pU A g.r0 (i,f,0,d,text)) g.y1 g.r0 g.r1) (rL (u:=.ref 6) (us:=[vL (pU A g.r0 (i,f,0,d,text))]) (l:=g.y0.map V.int) (dN (bL rfl) (bL rfl) (wM (n:=0) rfl (by exact Cz))) rfl
     (bB (dN (Kb (L:=A) (a:=g.r0) (b:=i) (bL rfl) (dN (bL rfl) (bL rfl) (Ei (n:=0) rfl rfl (by exact Cz))) (bL rfl) (by exact bE Xr s)) (rz _ rfl rfl) (yC (by unfold pU at l0;rw [aS]at l0;simp only at l0;exact bE aK3 l0))) bZ)
     ((xD (l:=g.y0.map V.int) (l':=(pU A g.r0 (i,f,0,d,text)).map V.int) rfl rfl (by rw [bF];exact bE aLn p b1 J) (by rw [bF];exact bE aKy p l0)).trans (by simp only [j,cE];rfl))) ?_)
    refine bV (dE (v:=vN (wC (i,f,0,d,text))) (τ':=j g.high (g.w0++[d]) g.w1 (g.y0++pU A g.r0 (i,f,0,d,text)) g.y1 (wC (i,f,0,d,text)) g.r1) (D _ rfl rfl rfl) rfl ?_);refine dE (v:=vN (max g.high f)) (vw _ rfl rfl) rfl ?_;exact cf _ rfl
   ·refine bV (nK (τ:=j g.high g.w0 (g.w1++[d]) g.y0 g.y1 g.r0 g.r1) (rL (u:=.ref 5) (us:=[.str d.s]) (l:=vJ g.w1) (dN (bL rfl) (bL rfl) (wM (n:=1) rfl (by exact Cz))) rfl (bB (bL rfl) bZ) ((jH (l:=vJ g.w1) rfl (by unfold vJ;rw [bF];exact bE aK7 p B J:(vJ g.w1).length≤lim)).trans (by simp only [j,vJ,cE];rfl))) ?_);refine bV (nK (τ:=j g.high g.w0 (g.w1++[d]) g.y0 (g.y1++pU A g.r1 (i,f,1,d,text)) g.r0 g.r1) (rL (u:=.ref 7) (us:=[vL (pU A g.r1 (i,f,1,d,text))]) (l:=g.y1.map V.int) (dN (bL rfl) (bL rfl) (wM (n:=1) rfl (by exact Cz))) rfl
     (bB (dN (Kb (L:=A) (a:=g.r1) (b:=i) (bL rfl) (dN (bL rfl) (bL rfl) (Ei (n:=1) rfl rfl (by exact Cz))) (bL rfl) (by exact bE Xr s)) (rz _ rfl rfl) (yC (by unfold pU at l1;rw [aS]at l1;simp only at l1;exact bE aK3 l1))) bZ)
     ((xD (l:=g.y1.map V.int) (l':=(pU A g.r1 (i,f,1,d,text)).map V.int) rfl rfl (by rw [bF];exact bE aLn p y J) (by rw [bF];exact bE aKy p l1)).trans (by simp only [j,cE];rfl))) ?_)
    refine bV (dE (v:=vN (wC (i,f,1,d,text))) (τ':=j g.high g.w0 (g.w1++[d]) g.y0 (g.y1++pU A g.r1 (i,f,1,d,text)) g.r0 (wC (i,f,1,d,text))) (D _ rfl rfl rfl) rfl ?_);refine dE (v:=vN (max g.high f)) (vw _ rfl rfl) rfl ?_;exact cf _ rfl
  ·rw [fT C];have:k=(g,row::r):=by rw [←R];show (if row.1≤g.high then _ else _)=_;rw [if_neg C]
   rw [this]at F;exact F g t rfl
end
end
section
open MineH (at_ cL fr)
noncomputable def vY(old left right:aW):List kQ:=if left=right∨right=old then left.map .i else if left=old then right.map .i else[.c old left right]
noncomputable def Cn(row:qF):D6:=⟨row.2.1,[],[],[],[],row.1,row.1⟩
def oN(A:aW)(row:qF)(r:List qF):D6×List qF:=zX A (row::r) (Cn row)
def Ha(A:aW)(row:qF)(g:D6):List kQ:=vY (mQ A row.1 g.high) (g.y0++mQ A g.r0 g.high) (g.y1++mQ A g.r1 g.high)
def zD(A:aW):Nat→List qF→Nat→List jM→List kQ→List jM×List kQ
 |0,_,dn,t,m=>(t,m++(A.drop dn).map .i)
 |_+1,[],dn,t,m=>(t,m++(A.drop dn).map .i)
 |f+1,row::r,dn,t,m=>zD A f (oN A row r).2 (oN A row r).1.high (t++[(mQ A row.1 (oN A row r).1.high,(oN A row r).1.w0,(oN A row r).1.w1)]) (m++((mQ A dn row.1).map .i++Ha A row (oN A row r).1))
theorem ë{A:aW}{f row r dn t m}:zD A (f+1) (row::r) dn t m=(zD A f (oN A row r).2 (oN A row r).1.high (t++[(mQ A row.1 (oN A row r).1.high,(oN A row r).1.w0,(oN A row r).1.w1)]) (m++((mQ A dn row.1).map .i++Ha A row (oN A row r).1))):=rfl
theorem Ks(A:aW):∀(rows:List qF)(g:D6),(zX A rows g).2.length≤rows.length∧∀x∈(zX A rows g).2,x∈rows:=by
 intro a
 induction a with
 |nil=>intro g;exact ⟨bG _,fun _ h=>h⟩
 |cons row r b=>
  intro g;simp only [Pp,Po];split
  ·obtain ⟨c,d⟩:=b (g.add A row);exact ⟨by simp;exact bE Xp c,fun x e=>aQ _ (d x e)⟩
  ·exact ⟨bG _,fun _ h=>h⟩
theorem X5{A:aW}{row:qF}{r:List qF}(h:row.1≤row.2.1):(oN A row r).2.length≤r.length:=by unfold oN;simp only [Pp,Po];rw [if_pos (by exact h)];exact (Ks A r _).1
theorem yK(l:aW):(l.map kQ.i).map iV=l.map V.int:=by rw [tB];rfl
theorem Γ(L:aW)(a b:Nat):(mQ L a b).length≤L.length:=by unfold mQ;simp only [tZ,nZ];exact bR (J9 _ _) (Bq _ _)
section
variable{A:aW}{mm:Iy}
def sMo(A:aW)(mm:Iy)(rows:List qF)(told:List jM)(mg:List kQ)(dn:Nat):St:=
 ⟨[(1,vL A),(4,.ref 1),(5,.ref 2),(6,.ref 3),(7,vN dn)],[(3,.list (mg.map iV)),(2,.list (told.map iU)),(1,.list (rows.map kT)),(0,.mat mm)],4⟩
inductive JO3(A:aW)(mm:Iy)(d6:List jM×List kQ)(m:Nat)(τ:St):Prop
 |mk (rows:List qF) (told:List jM) (mg:List kQ) (dn f:Nat) (e:τ=sMo A mm rows told mg dn) (u:m=rows.length) (l:rows.length≤f) (r:zD A f rows dn told mg=d6) (o:∀r∈rows,K6 r) (t:told.length+rows.length≤40) (g:mg.length+16400*rows.length≤656000)
theorem Gg{σ:St}{a b:cG}(c:a.length+b.length≤1000000):fQ (.lst a) (.lst b) σ=some (.lst (a++b),σ):=by have d:lim=1048576:=rfl;refine (?_:(if a.length+b.length≤lim then some (V.lst (a++b),σ)else aF)=_);rw [if_pos (by exact bE aHa c d)]
theorem Lh{σ:St}{c:Nat}{a b:cG}(d:lk σ.cells c=some (.list a))(e:a.length+b.length≤1000000):fQ (.ref c) (.lst b) σ=some (.lst (a++b),σ):=by have g:lim=1048576:=rfl;exact qX (x:=Gz σ (.ref c)) (f:=fun l=>ob (Gz σ (.lst b)) fun l'=>if l.length+l'.length≤lim then some (V.lst (l++l'),σ)else aF) (qX d rfl) (if_pos (by exact bE aHa e g))
theorem Kh{g:V→qM}{l l':cG}{v b:V}(h:oX g l=some l')(h':g v=some b):oX g (l++[v])=some (l'++[b]):=by
 induction l generalizing l' with
 |nil=>cases h;exact qY h' rfl
 |cons a r c=>obtain ⟨f,i,d,e,rfl⟩:=Ez h;exact qY d (c e)
theorem Sj{F:List jM×List kQ}{m:Nat}{τ:St}{P:Fl→iX}{d2:Cu}{d3:qR}{d4:Cu}(s:A.length≤200)(O:JO3 A mm F m τ)
  (hP:∀told d dn,d.length≤656000→(told,d++(A.drop dn).map kQ.i)=F→P .next (sMo A mm [] told d dn)):
  GB (dU (bH Bi (aJ 4) (gE bJ))) τ fun c τ'=>if c=true then Go (rE d2 d3 d4 4 τ') (Tz [1,4,5,6,7] 4 (JO3 A mm F) m P)else P .next τ':=by
 have G:lim=1048576:=rfl;obtain ⟨rows,told,d,dn,f,rfl,rfl,Q,ip,Y7,t,H⟩:=O;refine gF (Us (rows:=rows) rfl rfl) ?_
 cases rows with
 |nil=>refine hP told d dn (by simpa using H) ?_;simp only [←ip];cases f<;>rfl
 |cons row r=>
  have ok:=Y7 row aR;rw [eJ]at Q t H;obtain ⟨f',rfl⟩:∃f',f=f'+1:=⟨f-1,by exact bE 0x23249462b41c014850714cc7002 Q⟩;have az:((row::r).map kT).length≤lim:=by simp;exact bE 0xb18a40838938e99083882bc6318c6386003 G t
  have B:=X5 (A:=A) (r:=r) ok.le;have C:∀x∈(oN A row r).2,x∈row::r:=(Ks A (row::r) (Cn row)).2;have R:zD A f' (oN A row r).2 (oN A row r).1.high (told++[(mQ A row.1 (oN A row r).1.high,(oN A row r).1.w0,(oN A row r).1.w1)]) (d++((mQ A dn row.1).map .i++Ha A row (oN A row r).1))=F:=ip;unfold rE;let s1:St:=⟨[(1,vL A),(4,.ref 1),(5,.ref 2),(6,.ref 3),(7,vN dn),(9,vN row.2.1),(8,vN row.1)],[(3,.list (d.map iV)),(2,.list (told.map iU)),(1,.list ((row::r).map kT)),(0,.mat mm)],4⟩;refine bV (dE (v:=.tup [vN row.1,vN row.2.1]) (τ:=sMo A mm (row::r) told d dn) (τ':=s1) (jE (bB (dN (dN (bL rfl) rfl (Ei (n:=0) (v:=kT row) rfl rfl az)) rfl (Cb (n:=0) (v:=vN row.1) rfl (by exact lm5))) (bB (dN (dN (bL rfl) rfl (Ei (n:=0) (v:=kT row) rfl rfl az)) rfl (Cb (n:=1) (v:=vN row.2.1) rfl (by exact lm5))) bZ)) Cz) rfl ?_);let s2:St:=⟨[(1,vL A),(4,.ref 1),(5,.ref 2),(6,.ref 3),(7,vN dn),(9,vN row.2.1),(8,vN row.1)],[(8,.list [vN row.1,vN row.1]),(7,.list []),(6,.list []),(5,.list []),(4,.list []),(3,.list (d.map iV)),(2,.list (told.map iU)),(1,.list ((row::r).map kT)),(0,.mat mm)],9⟩;refine bV (dE (v:=.tup [.lst [.ref 4,.ref 5],.lst [.ref 6,.ref 7],.ref 8]) (τ:=s2) (jE (bB (nE (bB (nQ (τ:=s1) bZ Ea) (bB (nQ bZ Ea) bZ)) Cz) (bB (nE (bB (nQ bZ Ea) (bB (nQ bZ Ea) bZ)) Cz) (bB (nQ (vs:=[vN row.1,vN row.1]) (bB (bL rfl) (bB (bL rfl) bZ)) Cz) bZ))) Hr) rfl ?_);refine gL (σ':=Nv A mm (row::r) told d dn row.1 (Cn row)) rfl ?_;generalize hq:oN A row r=q at *;have wl:Go (qK [1,4,5,6,7,8,9,10,11,12] (kL (dU (bH Bi (aJ 4) (gE bJ))) (kL (dU (bH gLe (bH hO (bH hO (aJ 4) (gK (.int 0))) (gK (.int 0))) (aJ 9))) (fun σ=>some (true,σ)))) (rD d2 d3 d4) 4 (Nv A mm (row::r) told d dn row.1 (Cn row))) fun f τ=>f=.next∧GB0 q.1 40∧τ=Nv A mm q.2 told d dn row.1 q.1:=by
   refine Do (JI3 A mm told d dn row.1 40 q) (row::r).length (by show _<1048576;simp;exact bE 0x63156318c631c320e14e3a6420e1002 t) (by show (4:Nat)≤9;decide) ⟨row::r,Cn row,rfl,rfl,by simp;exact bE 0xc629ff0c14e3a6420e1002 t,⟨bW _,bW _,bW _,bW _⟩,hq,Y7⟩
    (fun m τ O=>S3 (P:=fun f τ=>f=.next∧GB0 q.1 40∧τ=Nv A mm q.2 told d dn row.1 q.1) s (by exact bE 0x8c538c1f1d300) O (fun g hg e=>⟨rfl,by rw [e];exact hg,rfl⟩))
  refine bV (wl.mono ?_);rintro _ _ ⟨rfl,⟨b1,T,b3,b4⟩,rfl⟩;show Go _ _;obtain ⟨g,i⟩:=q;simp only at b1 T b3 b4 B C R;refine gL (σ':=Nv A mm i told d dn row.1 g) rfl ?_;unfold Aa;have o:∀a b,(mQ A a b).length≤200:=fun a b=>bR (Γ A a b) s;generalize I:mQ A row.1 g.high=old;generalize W:g.y0++mQ A g.r0 g.high=left;generalize X:g.y1++mQ A g.r1 g.high=right;have lo:old.length≤200:=by rw [←I];exact o _ _
  have ll:left.length≤16200:=by rw [←W,aS];have:=o g.r0 g.high;exact bE aLh b1 this
  have lr:right.length≤16200:=by rw [←X,aS];have:=o g.r1 g.high;exact bE aLh T this
  have vy:Ha A row g=vY old left right:=by unfold Ha;rw [I,W,X]
  rw [vy,I]at R;have cells:List (Nat×gC):=(Nv A mm i told d dn row.1 g).cells;let k:St:=⟨[(1,vL A),(4,.ref 1),(5,.ref 2),(6,.ref 3),(7,vN dn),(8,vN row.1),(9,vN g.high),(10,.lst [.ref 4,.ref 5]),(11,.lst [.ref 6,.ref 7]),(12,.ref 8),(20,vL right),(19,vL left),(18,vL old)],(Nv A mm i told d dn row.1 g).cells,9⟩;have n7:∀(n:Nat)(v:V),[vN g.r0,vN g.r1][n]?=some v→bH hO (aJ 12) (gK (.int (n:Int))) (Nv A mm i told d dn row.1 g)=some (v,Nv A mm i told d dn row.1 g):=fun n v h=>dN (bL rfl) rfl (Ei (n:=n) rfl h (by exact Cz));refine bV (dE (v:=.tup [vL old,vL left,vL right]) (τ:=Nv A mm i told d dn row.1 g) (τ':=k) (jE (bB (by rw [←I];exact Kb (bL rfl) (bL rfl) (bL rfl) (by exact bE Xr s)) (bB (by
    rw [←W];refine (dN (dN (bL rfl) rfl (wM (n:=0) rfl (by exact Cz))) (Kb (bL rfl) (n7 0 _ rfl) (bL rfl) (by exact bE Xr s)) (Lh (a:=g.y0.map V.int) rfl (by simp only [bF];have:=o g.r0 g.high;exact bE aLi b1 this))).trans ?_;rw [←cE];rfl) (bB (by
    rw [←X];refine (dN (dN (bL rfl) rfl (wM (n:=1) rfl (by exact Cz))) (Kb (bL rfl) (n7 1 _ rfl) (bL rfl) (by exact bE Xr s)) (Lh (a:=g.y1.map V.int) rfl (by simp only [bF];have:=o g.r1 g.high;exact bE aLi T this))).trans ?_;rw [←cE];rfl) bZ))) Hr) rfl ?_)
  have p:∀{x y:Nat}{a b:aW},lk k.loc x=some (vL a)→lk k.loc y=some (vL b)→dU (bH rM (aJ x) (aJ y)) k=some (decide (a=b),k):=fun Y hy=>kH (dN (bL Y) (bL hy) (Z3 _ _));have vz:xP (Te (dU (bH rM (aJ 19) (aJ 20))) (Te (dU (bH rM (aJ 20) (aJ 18))) (fun σ=>some (false,σ)))) (aJ 19) (xP (dU (bH rM (aJ 19) (aJ 18))) (aJ 20) (gE (aK (gE (aK (aJ 18) (aK (aJ 19) (aK (aJ 20) bJ)))) bJ))) k=some (.lst ((vY old left right).map iV),k):=by
   have t1:=p (x:=19) (y:=20) (a:=left) (b:=right) rfl rfl;have t2:=p (x:=20) (y:=18) (a:=right) (b:=old) rfl rfl;have t3:=p (x:=19) (y:=18) (a:=left) (b:=old) rfl rfl;have Z:Te (dU (bH rM (aJ 19) (aJ 20))) (Te (dU (bH rM (aJ 20) (aJ 18))) (fun σ=>some (false,σ))) k=some (decide (left=right∨right=old),k):=by
    simp only [Te,t1,t2,bd];by_cases h1:left=right
    ·simp [h1]
    ·by_cases h2:right=old
     ·simp [h2]
     ·simp [h1,h2]
   refine Ld Z (fun h=>?_) (fun h=>?_)
   ·rw [vY,if_pos (of_decide_eq_true h),yK];exact bL rfl
   ·rw [vY,if_neg (of_decide_eq_false h)];refine Ld t3 (fun h=>?_) (fun h=>?_)
    ·rw [if_pos (of_decide_eq_true h),yK];exact bL rfl
    ·rw [if_neg (of_decide_eq_false h)];exact nE (bB (nE (bB (bL rfl) (bB (bL rfl) (bB (bL rfl) bZ))) Hr) bZ) lm1
  have v3:(vY old left right).length≤16200:=by
   unfold vY;split
   ·simp;exact bE aKl ll
   ·split<;>simp<;>exact bE aKl lr
  let D:St:=⟨[(1,vL A),(4,.ref 1),(5,.ref 2),(6,.ref 3),(7,vN dn),(8,vN row.1),(9,vN g.high),(10,.lst [.ref 4,.ref 5]),(11,.lst [.ref 6,.ref 7]),(12,.ref 8),(20,vL right),(19,vL left),(18,vL old),(21,.lst ((vY old left right).map iV))],(Nv A mm i told d dn row.1 g).cells,9⟩;refine bV (dE (τ:=k) (τ':=D) vz rfl ?_);let J:V:=.tup [vL old,.lst [.ref 4,.ref 5]];let z:cG→List (Nat×gC):=fun ml=>[(8,.list [vN g.r0,vN g.r1]),(7,.list (g.y1.map V.int)),(6,.list (g.y0.map V.int)),(5,.list (vJ g.w1)),(4,.list (vJ g.w0)),(3,.list ml),(2,.list (told.map iU++[J])),(1,.list (i.map kT)),(0,.mat mm)];let N:St:=⟨D.loc,z (d.map iV),9⟩;refine bV (nK (τ:=N) (rL (u:=.ref 2) (us:=[J]) (l:=told.map iU) (τ:=D) (τ':=D) (bL rfl) rfl (bB (jE (bB (bL rfl) (bB (bL rfl) bZ)) Cz) bZ) (jH (l:=told.map iU) rfl (by simp;exact bE 0x2c62900538e99083882bc6318c6386003 G t))) ?_);let j:List kQ:=(mQ A dn row.1).map kQ.i++vY old left right;let s6:St:=⟨D.loc,z ((d++j).map iV),9⟩;have v4:j.length≤16400:=by show (List.map kQ.i (mQ A dn row.1)++vY old left right).length≤_;rw [aS,bF];have:=o dn row.1;exact bE 0x718a71ac638640029c67660a719eff66002 v3 this
  refine bV (nK (τ:=s6) (rL (u:=.ref 3) (us:=[.lst (j.map iV)]) (l:=d.map iV) (τ:=N) (τ':=N) (bL rfl) rfl (bB ((dN (Kb (L:=A) (a:=dn) (b:=row.1) (bL rfl) (bL rfl) (bL rfl) (by exact bE Xr s)) (bL (v:=.lst ((vY old left right).map iV)) rfl) (Gg (by simp only [bF];have:=o dn row.1;exact bE 0x1c629c6339e7b6640029c67660a719eff66002 v3 this))).trans (by show some (V.lst ((mQ A dn row.1).map V.int++(vY old left right).map iV),N)=_;rw [←yK,←cE])) bZ) ((xD (l:=d.map iV) (l':=j.map iV) rfl rfl (by rw [bF];exact bE 0x2c62900538c6b38e68c8820e2c6b18e182bc6318c6386003 G H) (by rw [bF];exact bE 0x163148029c6b18e182bc6318c6386002 G v4)).trans (by rw [←cE];rfl))) ?_);refine dE (v:=vN g.high) (bL rfl) rfl ?_;refine ⟨sMo A mm i (told++[(old,g.w0,g.w1)]) (d++j) g.high,i.length,?_,by simp;exact bE 0x318a90708121002 B,i,told++[(old,g.w0,g.w1)],d++j,g.high,f',rfl,rfl,by exact bE 0xe31484490092838507003 Q B,R,fun x Y=>Y7 x (C x Y),by simp;exact bE 0xe314e3a640907024224e3a6420e1003 t B,by rw [aS];exact bE 0x600800010003f14e31ace39a32202c6b18e19030271ac63861a4224e31ace39a322083871ac6386004 H B v4⟩;have r4:rJ 28 4 (z ((d++j).map iV)) (.ref 4)=some (.lst (vJ g.w0)):=Cg (f:=26) (by decide) rfl (wA _);have r5:rJ 28 4 (z ((d++j).map iV)) (.ref 5)=some (.lst (vJ g.w1)):=Cg (f:=26) (by decide) rfl (wA _);have rt:rJ vP 4 (z ((d++j).map iV)) J=some (iU (old,g.w0,g.w1)):=
   Gi (f:=29) (by show ((vL old).pure&&false)=false;rw [aJa]) (qY (uV (f:=28) (eK old)) (qY (Φ (f:=28) rfl (qY r4 (qY r5 rfl))) rfl))
  refine Il (loc:=[(1,vL A),(4,.ref 1),(5,.ref 2),(6,.ref 3),(7,vN g.high)]) (cs:=z ((d++j).map iV)) (n:=9) rfl (cO (dF (eK A)) (cO rfl (cO rfl (cO rfl (cO rfl rfl)))))
   (mK (by decide) (mK (by decide) (mK (by decide) (mK (by decide) (mK (by decide) (eH (by decide) (eQ (c:=.list ((d++j).map iV)) (fU (mP _))) (eH (by decide) ?_ (eH (by decide) (eQ (c:=.list (i.map kT)) (fU (rT _))) (eH (by decide) rfl iW)))))))))
  show (oX _ (told.map iU++[J])).map gC.list=_;rw [Kh (A4 (fU (nO told))) rt];simp
end
end
section
set_option backward.match.sparseCases false
open MineH (at_ cL fr)
def nF(x y:qF):Prop:=x.1<y.1∨(x.1=y.1∧(x.2.1<y.2.1∨(x.2.1=y.2.1∧x.2.2.1<y.2.2.1)))
def kr(r:qF):K3×V:=(((r.1:Int),(r.2.1:Int),(r.2.2.1:Int)),kT r)
theorem Xx:∀a:List qF,Pj aA5 (a.map kT)=some (a.map kr):=by
 intro b
 induction b with
 |nil=>exact rfl
 |cons t r c=>rw [cS,Vh,c];rfl
theorem W6{b a:List qF}(c:b.Perm a)(d:a.Pairwise nF)(g:a.length<64):Hb aA5 (b.map kT)=some (a.map kT):=by
 unfold Hb;rw [Xx];have i:SK (a.map kr):=by unfold SK;rw [zB];refine d.imp fun {t u} h=>A8.mpr ?_;refine (?_:(t.1:Int)<(u.1:Int)∨((t.1:Int)=(u.1:Int)∧((t.2.1:Int)<(u.2.1:Int)∨((t.2.1:Int)=(u.2.1:Int)∧(t.2.2.1:Int)<(u.2.2.1:Int)))));unfold nF at h;exact h.imp jV.mpr (And.imp (congrArg _) (Or.imp jV.mpr (And.imp (congrArg _) jV.mpr)))
 have f:((b.map kr).map (·.1)).Nodup:=by
  have j:((a.map kr).map (·.1)).Nodup:=by rw [tB];refine zB.mpr (d.imp fun {t u} h e=>?_);unfold nF at h;exact bE 0x8448c03195ea535497a8ea2bd4350358d628a622c6250c4b08141006 h (congrArg Prod.fst e) (congrArg (fun z=>z.2.1) e:(t.2.1:Int)=(u.2.1:Int)) (congrArg (fun z=>z.2.2) e:(t.2.2.1:Int)=(u.2.2.1:Int))
  exact (((c.map kr).map (·.1)).nodup_iff).mpr j
 show (if _ then _ else _)=_;rw [if_pos ⟨f,by rw [bF,c.length_eq];exact g⟩];rw [Em (Ck _ f) i ((Dk _).trans (c.map kr)),tB];rfl
theorem Oh{σ:St}{c:M V}{a b:M (Option Int)}{lo hi:Option Int}{L:aW}(d:c σ=some (vL L,σ))(e:a σ=some (lo,σ))(f:b σ=some (hi,σ))(g:L.length≤1000):iA c a b σ=some (.lst (pySl (L.map V.int) lo hi),σ):=by unfold iA;rw [d];refine (?_:bd (a σ) _=_);rw [e];refine (?_:bd (b σ) _=_);rw [f];show (if (L.map V.int).length≤lim then some (V.lst (pySl (L.map V.int) lo hi),σ)else aF)=_;rw [if_pos (by rw [bF];exact bE ln5 g (rfl:lim=1048576))]
section
variable{A B C:aW}
open Classical in
def Yi(B C:aW):Cu:=fun c us=>ob (maC c) fun m=>if us=[vL B]then some (.mat {m with b:=some B},.none)else if us=[vL C]then some (.mat {m with b:=some C},.none)else aF
def Yh(A B C:aW):Cu:=fun c us=>ob (maC c) fun m=>aN (ob m.a fun A'=>ob m.b fun B'=>open Classical in if A'=A∧(B'=B∨B'=C)then some (.mat m,yD A' B')else aF) us
open Classical in
def yW(A B C:aW):cG→qM:=fun us=>if us=[yD A B,vL A,vL B,vN 0]then some (.lst ((eD B 0 (ops A B)).map kT))else if us=[yD A C,vL A,vL C,vN 1]then some (.lst ((eD C 1 (ops A C)).map kT))else aF
structure sK(A B:aW):Prop where
 la:A.length<200
 lb:B.length<200
 few:(bl A B (0,A.length,0,B.length)).length<64
 ch:wV A B (ops A B) 0 0 aF
theorem Uz:(ops A B).length≤2*((bl A B (0,A.length,0,B.length)).length+2):=by
 have c:∀(l:List T3)(i j:Nat),(xG i j l).length≤2*l.length:=by
  intro l
  induction l with
  |nil=>intro i j;exact bG _
  |cons t r d=>
   intro i j;obtain ⟨a,b,k⟩:=t;simp only [Kf,aS,aS];have e:(if i<a∧j<b then[(mU.replace,i,a,j,b)]else if i<a then[(mU.delete,i,a,j,b)]else if j<b then[(mU.insert,i,a,j,b)]else[]).length≤1:=by
    split
    ·exact bG _
    ·split
     ·simp
     ·split<;>simp
   have:=d (a+k) (b+k);simp only [eJ];exact bE 0xf18a60838f464090102603d184938527004 e (by split<;>simp:(if k=0 then[]else[(mU.equal,a,a+k,b,b+k)]).length≤1) this
 have:=c (mbs A B) 0 0;have:=U9 (A:=A) (B:=B);unfold ops;exact bE 0x32514c11a30b460251a3082980746003 ‹_› this
theorem Xl{b:Option aW}{au:Bool}{R:List qF}{told:List jM}{g:List kQ}(s:sK A B)(Z:sK A C)(u:(eD B 0 (ops A B)++eD C 1 (ops A C)).Perm R)(F:R.Pairwise nF)(Y7:∀r∈R,K6 r)(j:R.length≤40)(G:zD A R.length R 0 [] []=(told,g)):
  Go (wG (Yi B C) (Qd (yW A B C)) (Yh A B C) 1 ⟨[(0,.inst 0),(1,vL A),(2,vL B),(3,vL C)],[(0,.mat ⟨some A,b,au⟩)],1⟩) fun f τ=>(∃(t:List jM)(d:List kQ),f=.ret (.tup [.ref 2,.lst (g.map iV)])∧τ.cells=[(3,.list (d.map iV)),(2,.list (t.map iU)),(1,.list (([]:List qF).map kT)),(0,.mat ⟨some A,some C,au⟩)]∧t=told):=by
 have b6:lim=1048576:=rfl;let st:qM→Iy→List (Nat×V)→St:=fun _ m x=>⟨(0,.inst 0)::(1,vL A)::(2,vL B)::(3,vL C)::x,[(0,.mat m)],1⟩;have H:∀m x,Y9 (Yi B C) (aJ 0) (aK (aJ 2) bJ) (st none m x)=some (.none,st none {m with b:=some B} x):=fun m x=>
  Zz (τ:=st none m x) (τ':=st none m x) (i:=0) (c:=.mat m) (c0:=.mat m) (bL rfl) rfl rfl (bB (bL rfl) bZ) rfl (by simp only [dT,dQ,eK];rfl) (if_pos rfl)
 have I:∀m x,Y9 (Yi B C) (aJ 0) (aK (aJ 3) bJ) (st none m x)=some (.none,st none {m with b:=some C} x):=fun m x=>
  Zz (τ:=st none m x) (τ':=st none m x) (i:=0) (c:=.mat m) (c0:=.mat m) (bL rfl) rfl rfl (bB (bL rfl) bZ) rfl (by simp only [dT,dQ,eK];rfl) (by
   by_cases q:B=C
   ·subst q;exact if_pos rfl
   ·have:¬[vL C]=[vL B]:=fun z=>by simp only [iR,and_true,vL,V.lst.injEq]at z;exact q (zW z).symm
    exact (if_neg this).trans (if_pos rfl))
 have J:∀au x,Y9 (Yh A B C) (aJ 0) bJ (st none ⟨some A,some B,au⟩ x)=some (yD A B,st none ⟨some A,some B,au⟩ x):=fun au x=>
  Zz (τ:=st none ⟨some A,some B,au⟩ x) (τ':=st none ⟨some A,some B,au⟩ x) (i:=0) (c:=.mat ⟨some A,some B,au⟩) (c0:=.mat ⟨some A,some B,au⟩) (bL rfl) rfl rfl bZ rfl rfl (if_pos ⟨rfl,.inl rfl⟩)
 have N:∀au x,Y9 (Yh A B C) (aJ 0) bJ (st none ⟨some A,some C,au⟩ x)=some (yD A C,st none ⟨some A,some C,au⟩ x):=fun au x=>
  Zz (τ:=st none ⟨some A,some C,au⟩ x) (τ':=st none ⟨some A,some C,au⟩ x) (i:=0) (c:=.mat ⟨some A,some C,au⟩) (c0:=.mat ⟨some A,some C,au⟩) (bL rfl) rfl rfl bZ rfl rfl (if_pos ⟨rfl,.inr rfl⟩)
 have l:¬[yD A C,vL A,vL C,vN 1]=[yD A B,vL A,vL B,vN 0]:=fun z=>by simp only [iR,vN,V.int.injEq]at z;lia
 have O:∀σ:St,Qd (yW A B C) [yD A B,vL A,vL B,vN 0] σ=some (.lst ((eD B 0 (ops A B)).map kT),σ):=fun σ=>by unfold Qd;rw [if_pos (by simp only [dT,dQ,uO,eK];rfl:eB [yD A B,vL A,vL B,vN 0]=true)];unfold yW;rw [if_pos rfl];rfl
 have Q:∀σ:St,Qd (yW A B C) [yD A C,vL A,vL C,vN 1] σ=some (.lst ((eD C 1 (ops A C)).map kT),σ):=fun σ=>by unfold Qd;rw [if_pos (by simp only [dT,dQ,uO,eK];rfl:eB [yD A C,vL A,vL C,vN 1]=true)];unfold yW;rw [if_neg l,if_pos rfl];rfl
 have y:=u.length_eq;rw [aS]at y;show Go (wG (Yi B C) (Qd (yW A B C)) (Yh A B C) 1 (st none ⟨some A,b,au⟩ [])) _;unfold wG;refine bV (nK (H ⟨some A,b,au⟩ []) ?_);refine bV (dE (v:=.lst ((eD B 0 (ops A B)).map kT)) (τ':=st none ⟨some A,some B,au⟩ [(4,.lst ((eD B 0 (ops A B)).map kT))]) (lO (bB (J au []) (bB (bL rfl) (bB (bL rfl) (bB (v:=vN 0) rfl bZ)))) (O _)) rfl ?_);refine bV (nK (I ⟨some A,some B,au⟩ [(4,.lst ((eD B 0 (ops A B)).map kT))]) ?_);let k:St:=st none ⟨some A,some C,au⟩ [(4,.lst ((eD B 0 (ops A B)).map kT))];refine bV (dE (v:=.ref 1) (τ:=⟨k.loc,[(1,.list (R.map kT)),(0,.mat ⟨some A,some C,au⟩)],2⟩) (τ':=⟨[(0,.inst 0),(1,vL A),(2,vL B),(3,vL C),(4,.ref 1)],[(1,.list (R.map kT)),(0,.mat ⟨some A,some C,au⟩)],2⟩)
  (lO (us:=[.lst ((eD B 0 (ops A B)++eD C 1 (ops A C)).map kT)]) (τ:=k) (bB ((dN (τ:=k) (τ':=k) (bL (v:=.lst ((eD B 0 (ops A B)).map kT)) rfl) (lO (bB (N au _) (bB (bL rfl) (bB (bL rfl) (bB (v:=vN 1) rfl bZ)))) (Q _)) (Gg (by simp only [bF];exact bE 0x2c629c6339e7b664082b020414e3a6003 j y))).trans (by rw [←cE])) bZ) (by have:=W6 u F (by exact bE 0xc62ac60e04e3a6001 j);exact qX this rfl)) rfl ?_)
 refine bV (dE (v:=.tup [.ref 2,.ref 3,vN 0]) (jE (bB (nQ bZ Ea) (bB (nQ bZ Ea) (bB (v:=vN 0) rfl bZ))) Hr) rfl ?_);let h:Iy:=⟨some A,some C,au⟩;refine gL (σ':=sMo A h R [] [] 0) rfl ?_;have T:Go (qK [1,4,5,6,7] (dU (bH Bi (aJ 4) (gE bJ))) (rE (Yi B C) (Qd (yW A B C)) (Yh A B C)) 1 (sMo A h R [] [] 0)) fun f τ=>f=.next∧∃t d dn,d.length≤656000∧(t,d++(A.drop dn).map kQ.i)=(told,g)∧τ=sMo A h [] t d dn:=by
  refine Do (JO3 A h (told,g)) R.length (by show _<1048576;exact bE 0x18c558c6318c70c04e3a6001 j) (by show (1:Nat)≤4;decide) ⟨R,[],[],0,R.length,rfl,rfl,bG _,G,Y7,by simpa using j,by simp;exact bE 0x80200007e29c6359c73468031ac63864e3a6001 j⟩
   (fun m τ W=>Sj (P:=fun f τ=>f=.next∧∃t d dn,d.length≤656000∧(t,d++(A.drop dn).map kQ.i)=(told,g)∧τ=sMo A h [] t d dn) (by have:=s.la;exact bE 0x318a719d980ac6766001 this) W (fun t d dn o e=>⟨rfl,t,d,dn,o,e,rfl⟩))
 refine bV (T.mono ?_);rintro _ _ ⟨rfl,t,d,dn,o,e,rfl⟩;simp only [qN]at e;obtain ⟨X,Y⟩:=e;show Go _ _;let p:St:=⟨[(1,vL A),(5,.ref 2),(6,.ref 3),(7,vN dn)],[(3,.list (d.map iV)),(2,.list (t.map iU)),(1,.list (([]:List qF).map kT)),(0,.mat h)],4⟩;refine gL (σ':=p) rfl ?_;unfold Ab;have D:=s.la;refine tS (τ:=p) (v:=.tup [.ref 2,.lst (g.map iV)]) (jE (bB (bL rfl) (bB ((dN (bL rfl) (b:=.lst ((A.drop dn).map V.int)) (τ':=p) ?_ (Lh (a:=d.map iV) rfl (by simp only [bF,nZ];exact bE 0x34f18a718ce79ed99001ab19d9829c6359c73461ccc1003 o D))).trans (by rw [←yK,←cE,Y])) bZ)) Cz) ⟨t,d,rfl,rfl,X⟩;refine (Oh (L:=A) (lo:=some (dn:Int)) (hi:=aF) (bL rfl) rfl rfl (by exact bE aG3 D)).trans ?_;have:pySl (A.map V.int) (some (dn:Int)) aF=(A.drop dn).map V.int:=by rw [Uu,Fh]
 rw [this]
end
section
variable{n:Nat}{A B C:aW}
theorem aJ6(G:Gd)(a:sK A B)(b:sK A C)(F:Fx):B2 (n+1) F (.ref 273) (Qd (yW A B C)):=Ú fun us r _ e=>by
 have d:=b.few;unfold yW at e;split at e
 ·rename_i c;subst c;cases e;exact Qi (side:=0) G a.la a.lb (by exact bE aK5 (Uz (A:=A) (B:=B)) (a.few)) a.ch
 ·split at e
  ·rename_i c;subst c;cases e;exact Qi (side:=1) G b.la b.lb (by exact bE aK5 (Uz (A:=A) (B:=C)) d) b.ch
  ·cases e
open Classical in
theorem aCh(G:Gd)(b:B.length<200)(d:C.length<200):∀c0 us c1 r,eB us=true→Yi B C c0 us=some (c1,r)→qW c0∧tL (n+2) (.ref 181) c0 us (fun c f=>c=c1∧f=r):=fun c0 us c1 r _ e=>by
 refine aD1 e fun m e=>?_;by_cases a:us=[vL B]
 ·subst a;replace e:=(if_pos rfl).symm.trans e;cases e;exact ⟨trivial,mS2 G _ B b⟩
 ·replace e:=(if_neg a).symm.trans e;obtain ⟨a,g⟩:=iS e;subst a;cases g;exact ⟨trivial,mS2 G _ C d⟩
theorem aCg(G:Gd)(a:sK A B)(b:sK A C):∀c0 us c1 r,eB us=true→Yh A B C c0 us=some (c1,r)→qW c0∧tL (n+5) (.ref 210) c0 us (fun c d=>c=c1∧d=r):=fun c0 us c1 r f e=>by
 refine aD1 e ?_;clear e;intro m e;refine pM e ?_;clear e;intro e;replace e:=dO e;obtain ⟨A',g,e⟩:=e;replace e:=dO e;obtain ⟨B',h,e⟩:=e;replace e:=iS e;obtain ⟨i,e⟩:=e;obtain ⟨j,b',au⟩:=m;cases g;cases h;cases e;obtain ⟨rfl,rfl|rfl⟩:=i
 ·exact ⟨trivial,aKi G _ rfl rfl a.la a.lb a.few⟩
 ·exact ⟨trivial,aKi G _ rfl rfl b.la b.lb b.few⟩
theorem aGx(G:Gd){b:Option aW}{au:Bool}{R:List qF}{told:List jM}{g:List kQ}(a:sK A B)(d:sK A C)(j:(eD B 0 (ops A B)++eD C 1 (ops A C)).Perm R)(k:R.Pairwise nF)(Y7:∀r∈R,K6 r)(l:R.length≤40)(m:zD A R.length R 0 [] []=(told,g)):
  tL (n+6) (.ref 280) (.mat ⟨some A,b,au⟩) [vL A,vL B,vL C] (fun c r=>c=.mat ⟨some A,some C,au⟩∧r=.tup [.lst (told.map iU),.lst (g.map iV)]):=by
 refine yJ (fd:=jS MineH.o280v0) (o:=MineH.o280v0) (tab:=wO) (body:=cL (at_ [12])) (fP w.params) (G.K 280 _ (by kernel_rfl)) rfl G.lim (codeRec_of G.K (by kernel_rfl)) rfl (fun vs h=>?_) (by refine (?_:(4:Nat)≤22);decide) (by refine (?_:True);trivial) (fun L=>?_) (by simp only [dT,dQ,eK];rfl)
 ·revert vs;exact ll4 fun _ _ _ _=>by kernel_rfl
 ·obtain ⟨f,τ,e,t,p,rfl,i,rfl⟩:=Xl (b:=b) (au:=au) a d j k Y7 l m;refine jY (Mk G (aCh (n:=n+3) G a.lb d.lb) (fun F=>aJ6 (n:=n+4) G a d F) (aCg (n:=n) G a d) 1 _ _ _ e) ?_;rintro _ _ ⟨rfl,rfl⟩;refine ⟨.mat ⟨some A,some C,au⟩,.mat ⟨some A,some C,au⟩,.tup [.lst (t.map iU),.lst (g.map iV)],by rw [i];rfl,rfl,(by refine (?_:True);trivial),?_,?_,rfl,rfl⟩
  ·rw [i];exact Gi (f:=29) rfl (qY (Cg (f:=27) (by decide) rfl (nO _)) (qY (uV (f:=28) (mP _)) rfl))
  ·simp only [A2,qC,Az,yI,tD,xF,dT,dQ,nO,mP,eW]
end
end
theorem Sp{P:Nat→Prop}(h:∃n,P n):∃n,P n∧∀m,P m→n≤m:=by
 obtain ⟨n,b⟩:=h
 induction n using aI2 with
 |_ n c=>
  by_cases h:∃m,m<n∧P m
  ·obtain ⟨m,a,d⟩:=h;exact c m a d
  ·exact ⟨n,b,fun m a=>dJ fun e=>h ⟨m,e,a⟩⟩
theorem aGw{P:Nat→Prop}{b:Nat}(e:∀n,P n→n≤b)(h:∃n,P n):∃n,P n∧∀m,P m→m≤n:=by
 obtain ⟨n,f⟩:=h
 induction hd:b-n using aI2 generalizing n with
 |_ d g=>
  by_cases h:∃m,n<m∧P m
  ·obtain ⟨m,a,c⟩:=h;exact g (b-m) (by simp only [←hd];exact nW (bT a (e m c)) a) m c rfl
  ·exact ⟨n,f,fun m a=>dJ fun i=>h ⟨m,i,a⟩⟩
theorem aC4(A B:aW)(alo ahi blo bhi:Nat):∃t,tV A B alo ahi blo bhi t:=by
 by_cases h:∃k,0<k∧∃i j,Cr A B alo ahi blo bhi i j k
 ·obtain ⟨k,⟨d,m⟩,o⟩:=aGw (b:=ahi) (fun n p=>by obtain ⟨_,i,j,c⟩:=p;have:=c.a1;exact bE 0x318a44148901003 this) h;obtain ⟨i,⟨r,c0⟩,s⟩:=Sp m;obtain ⟨j,c,u⟩:=Sp (P:=fun j=>Cr A B alo ahi blo bhi i j k) ⟨r,c0⟩;refine ⟨(i,j,k),fun e=>absurd e (jC d),fun _=>c,fun i' f v x g=>⟨o v ⟨x,i',f,g⟩,fun e=>?_⟩⟩;subst e;have a:=s i' ⟨f,g⟩;rcases tM i i' with l|l
  ·exact .inl l
  ·have e:i=i':=by exact bE 0x56315840900521002 a l
   exact .inr ⟨e,u f (e▸g)⟩
 ·exact ⟨(alo,blo,0),fun _=>rfl,fun e=>absurd e (fF 0),fun i j k d c=>absurd ⟨k,d,i,j,c⟩ h⟩
theorem ı(A B:aW)(alo ahi blo bhi:Nat):tV A B alo ahi blo bhi (Mx A B alo ahi blo bhi):=by obtain ⟨t,h⟩:=aC4 A B alo ahi blo bhi;simp only [Tj h];exact h
def Bef(e f:T3):Prop:=e.1+e.2.2≤f.1∧e.2.1+e.2.2≤f.2.1
def Ũ(Es:List T3)(i j:Nat):Prop:=∃e∈Es,∃t,t<e.2.2∧i=e.1+t∧j=e.2.1+t
structure Al(A B:aW)(Es:List T3):Prop where
 ord:Es.Pairwise Bef
 run:∀e∈Es,0<e.2.2∧Cr A B 0 A.length 0 B.length e.1 e.2.1 e.2.2
 max:∀e∈Es,∀i j k t t',Cr A B 0 A.length 0 B.length i j k→t<k→t'<e.2.2→i+t=e.1+t'→j+t=e.2.1+t'→e.1≤i∧i+k≤e.1+e.2.2
 off:∀i j k,0<k→Cr A B 0 A.length 0 B.length i j k→(∀t,t<k→¬Ũ Es (i+t) (j+t))→
   (∃e∈Es,e.1≤i∧i+k≤e.1+e.2.2∧(k<e.2.2∨e.2.1<j∨∃e'∈Es,e'.2.1≤j∧j+k≤e'.2.1+e'.2.2))∨
   (∃e∈Es,e.2.1≤j∧j+k≤e.2.1+e.2.2∧(k<e.2.2∨e.1<i))∨
   (∃f∈Es,k<f.2.2∧(i<f.1∧f.2.1+f.2.2≤j∨j<f.2.1∧f.1+f.2.2≤i))
def InR(alo ahi blo bhi:Nat)(e:T3):Prop:=alo≤e.1∧e.1+e.2.2≤ahi∧blo≤e.2.1∧e.2.1+e.2.2≤bhi
noncomputable instance aOo(alo ahi blo bhi:Nat)(e:T3):Decidable (InR alo ahi blo bhi e):=inferInstanceAs (Decidable (_∧_∧_∧_))
def Rg(Es:List T3)(alo ahi blo bhi:Nat):Prop:=∀e∈Es,(e.1+e.2.2≤alo∧e.2.1+e.2.2≤blo)∨(ahi≤e.1∧bhi≤e.2.1)∨InR alo ahi blo bhi e
section
variable{A B:aW}{Es:List T3}{alo ahi blo bhi:Nat}
theorem Cr.mono{a b c d i j k:Nat}(h:Cr A B alo ahi blo bhi i j k)(e:a≤alo)(f:ahi≤b)(g:c≤blo)(l:bhi≤d):Cr A B a b c d i j k:=by have:=h.a0;have:=h.a1;have:=h.b0;have:=h.b1;exact ⟨by exact bE ln9 e ‹_›,by exact bE aEj f ‹_›,by exact bE ln9 g ‹_›,by exact bE aEj l this,h.eq⟩
theorem Al.inR(al:Al A B Es){e:T3}(a:e∈Es)(h:InR alo ahi blo bhi e):Cr A B alo ahi blo bhi e.1 e.2.1 e.2.2:=by obtain ⟨b,c,d,f⟩:=h;exact ⟨b,c,d,f,(al.run e a).2.eq⟩
theorem Uy{l:List T3}(h:l.Pairwise Bef):∀e∈l,∀f∈l,e=f∨Bef e f∨Bef f e:=by
 induction l with
 |nil=>intro e a;cases a
 |cons x r k=>
  obtain ⟨d,m⟩:=eM.mp h;intro e a f g;rcases aU.mp a with i|j
  ·rcases aU.mp g with b|c
   ·exact .inl (i.trans b.symm)
   ·exact .inr (.inl (i▸d f c))
  ·rcases aU.mp g with b|c
   ·exact .inr (.inr (b▸d e j))
   ·exact k m e j f c
theorem aC3(al:Al A B Es)(F:Rg Es alo ahi blo bhi)(ha:ahi≤A.length)(hb:bhi≤B.length){t:T3}(h:tV A B alo ahi blo bhi t)(m:0<t.2.2):t∈Es:=by
 obtain ⟨i,j,k⟩:=t;simp only at m;have c:=h.cr m;simp only at c;have cg:Cr A B 0 A.length 0 B.length i j k:=c.mono (bW _) ha (bW _) hb;have c1:=c.a0;have c2:=c.a1;have c3:=c.b0;have P:=c.b1;have s:∀e∈Es,InR alo ahi blo bhi e→e.2.2≤k∧(e.2.2=k→Iz (i,j) (e.1,e.2.1)):=fun e d hi=>by exact h.max e.1 e.2.1 e.2.2 (al.run e d).1 (al.inR d hi)
 have Pl:∀e∈Es,e.1≤i→i<e.1+e.2.2→InR alo ahi blo bhi e:=fun e d g l=>by
  rcases F e d with ⟨a,b⟩|⟨a,b⟩|a
  ·exact fJ (bE aEq c1 l a)
  ·exact fJ (bE aKk m c2 g a)
  ·exact a
 have u:∀e∈Es,e.2.1≤j→j<e.2.1+e.2.2→InR alo ahi blo bhi e:=fun e d g l=>by
  rcases F e d with ⟨a,b⟩|⟨a,b⟩|a
  ·exact fJ (bE aEq c3 l b)
  ·exact fJ (bE aKk m P g b)
  ·exact a
 by_cases Q:∃t,t<k∧Ũ Es (i+t) (j+t)
 ·obtain ⟨t,G,e,d,t',R,H,T⟩:=Q;obtain ⟨W,m2⟩:=al.max e d i j k t t' cg G R H T;have o:=Pl e d (by exact bE Ra W) (by exact bE 0x58c5480904b4008818941005 R H);have:=(s e d o).1;have:(i,j,k)=e:=by obtain ⟨x,y,z⟩:=e;simp only at *;simp only [qN];exact bE 0x1a072ed20e123163165d18a7594c45880929cba32505d184829c0900968194c80916818901008 H T W m2 this
  rw [this];exact d
 ·have v:∀t,t<k→¬Ũ Es (i+t) (j+t):=fun t G ho=>Q ⟨t,G,ho⟩;exfalso;rcases al.off i j k m cg v with ⟨e,d,g,l,p⟩|⟨e,d,g,l,p⟩|⟨f,X,g,l⟩
  ·have o:=Pl e d (by exact bE Ra g) (by exact bE aG5 m l);obtain ⟨b1,I⟩:=s e d o;have n:=I (by exact bE aG6 g l b1);unfold Iz at n;simp only at n;rcases p with p|p|⟨J,L,C,D⟩
   ·exact bE 0x18c64a00521002 b1 p
   ·exact bE 0x786325086d624625802a00521004 g n p
   ·have q7:=u J L (by exact bE Ra C) (by exact bE aG5 m D);obtain ⟨N,O⟩:=s J L q7;have r:=O (by exact bE aG6 C D N);unfold Iz at r;simp only at r;rcases Uy al.ord e d J L with rfl|⟨Y,Z⟩|⟨Y,Z⟩
    ·refine v 0 m ⟨e,d,0,by exact bE aAw m g l,by exact bE 0x58ec315a0c04182d624625802a00521004 g n,by exact bE 0xb518ad06120c34a0024046918921004 b1 C D⟩
    ·exact bE 0x73a831924a740ca6490a76b12531161128224a0614004910540307 m g l n C Z
    ·exact bE 0xf54c63248505314ed62464594e2514e24a0a61a0044906910540307 m g C D r Y
  ·have o:=u e d (by exact bE Ra g) (by exact bE aG5 m l);obtain ⟨b1,I⟩:=s e d o;have n:=I (by exact bE aG6 g l b1);unfold Iz at n;simp only at n;exact bE 0x4ae30c64d624a622c4350869005aa18941006 p b1 n
  ·have o:InR alo ahi blo bhi f:=by
    rcases F f X with ⟨a,b⟩|⟨a,b⟩|a
    ·exact fJ (bE 0x3350c649120a729920414e46b121414e4514c36246829ca65102918921007 c1 c3 l a b)
    ·exact fJ (bE 0x66aa31924a7224a6135890a0ba314ca29c6c48d05d18a7514c1491001a44800540308 m c2 P l a b)
    ·exact a
   have:=(s f X o).1;exact bE Sv g this
theorem My{l1 l2:List T3}{t:T3}(p q r:T3→Bool)(b:p t=true)(c:∀e∈l1,p e=q e)(d:∀e∈l2,p e=r e)(f:∀e∈t::l2,q e=false)(g:∀e∈l1,r e=false)(h:r t=false):
  (l1++t::l2).filter p=(l1++t::l2).filter q++t::(l1++t::l2).filter r:=by
 have a1:l1.filter p=l1.filter q:=aDi c;have i:l2.filter p=l2.filter r:=aDi d;have j:(t::l2).filter q=[]:=jQ.mpr fun e a=>by simp [f e a]
 have k:l1.filter r=[]:=jQ.mpr fun e a=>by simp [g e a]
 rw [mG,mG,mG,j,k,a1,bP,lG b,i,lH (by simp [h])];rfl
theorem aIf(al:Al A B Es):∀(f alo ahi blo bhi:Nat),ahi-alo≤f→ahi≤A.length→bhi≤B.length→Rg Es alo ahi blo bhi→Jx A B f alo ahi blo bhi=Es.filter fun e=>decide (InR alo ahi blo bhi e):=by
 intro O
 induction O with
 |zero=>intro alo ahi blo bhi s t u v;symm;refine jQ.mpr fun e g=>?_;have:=(al.run e g).1;simp only [decide_eq_true_eq];rintro ⟨P,Q,h3,h4⟩;exact bE 0x11d78c6490a0644904a1992604cc1004 s this P Q
 |succ f D=>
  intro alo ahi blo bhi s t u v;have x:=ı A B alo ahi blo bhi;simp only [Ak,Aj];rcases e:Mx A B alo ahi blo bhi with ⟨i,j,k⟩;simp only [e]at x;dsimp only;by_cases n:k=0
  ·rw [if_pos n];symm;refine jQ.mpr fun e g=>?_;simp only [decide_eq_true_eq];intro hi;have p:=(al.run e g).1;have:=(x.max e.1 e.2.1 e.2.2 p (al.inR g hi)).1;simp only at this;exact bE 0x1c6324802a09966002 n p this
  ·rw [if_neg n];have F:(i,j,k)∈Es:=aC3 al v t u x (dM n);have c:=x.cr (dM n);have c1:=c.a0;have c2:=c.a1;have c3:=c.b0;have C:=c.b1;simp only at c1 c2 c3 C;have o:=Uy al.ord (i,j,k) F;have R:Rg Es alo i blo j:=fun e g=>by
    have p:=(al.run e g).1;rcases o e g with rfl|⟨l,m⟩|⟨l,m⟩
    ·exact .inr (.inl ⟨bG _,bG _⟩)
    ·simp only at l m;exact .inr (.inl ⟨by exact bE aAi l,by exact bE aAi m⟩)
    ·simp only at l m;rcases v e g with a|⟨a,b⟩|⟨a1,G,H,I⟩
     ·exact .inl a
     ·exact fJ (bE 0x7c0c64918921410691200174966005 n c2 l a)
     ·exact .inr (.inr ⟨by exact bE Ra a1,by exact bE Xq l,by exact bE Ra H,by exact bE Xq m⟩)
   have T:Rg Es (i+k) ahi (j+k) bhi:=fun e g=>by
    have p:=(al.run e g).1;rcases o e g with rfl|⟨l,m⟩|⟨l,m⟩
    ·exact .inl ⟨bG _,bG _⟩
    ·simp only at l m;rcases v e g with ⟨a,b⟩|a|⟨a1,G,H,I⟩
     ·exact fJ (bE 0x7c0c6490a08348d001244174966005 n c1 l a)
     ·exact .inr (.inl a)
     ·exact .inr (.inr ⟨by exact bE Xq l,by exact bE Xq G,by exact bE Xq m,by exact bE Xq I⟩)
    ·simp only at l m;exact .inl ⟨by exact bE aEd l,by exact bE aEd m⟩
   have y:=dM n;have z:=bT (fO y) c2;have J:=lX (bT (fO y) C);rw [D alo i blo j (jU (bT (D8 c1 z) s)) (bR (lX z) t) (bR J u) R,
    D (i+k) ahi (j+k) bhi (jU (bT (nW (eY c1 z) (eY c1 (fO y))) s)) t u T]
   obtain ⟨l1,l2,rfl⟩:=List.append_of_mem F;obtain ⟨_,W,X⟩:=jG.mp al.ord;obtain ⟨Y,p5⟩:=eM.mp W;have L:∀e∈l1++(i,j,k)::l2,0<e.2.2:=fun e g=>(al.run e g).1;have b1:∀e∈l1,e.1+e.2.2≤i∧e.2.1+e.2.2≤j∧0<e.2.2:=fun e g=>by obtain ⟨l,m⟩:=X e g (i,j,k) (aR ..);exact ⟨l,m,L e (kW _ g)⟩
   have N:∀e∈l2,i+k≤e.1∧j+k≤e.2.1∧0<e.2.2:=fun e g=>by obtain ⟨l,m⟩:=Y e g;exact ⟨l,m,L e (kF _ (aQ _ g))⟩
   symm;refine My _ _ _ (decide_eq_true ⟨c1,c2,c3,C⟩) (fun e g=>?_) (fun e g=>?_) (fun e g=>?_) (fun e g=>?_) (decide_eq_false fun ⟨l,m,r,Z⟩=>by simp only at l m r Z;exact bE 0x70c6490a00174966002 n l)
   ·obtain ⟨l,m,_⟩:=b1 e g;exact decide_eq_decide.mpr ⟨fun ⟨a,_,b,_⟩=>⟨a,l,b,m⟩,fun ⟨a,b,c,d⟩=>⟨a,bR b (lX z),c,bR d J⟩⟩
   ·obtain ⟨l,m,_⟩:=N e g;exact decide_eq_decide.mpr ⟨fun ⟨_,a,_,b⟩=>⟨l,a,m,b⟩,fun ⟨a,b,c,d⟩=>⟨bR c1 (bR (cC _ _) a),b,bR c3 (bR (cC _ _) c),d⟩⟩
   ·rcases aU.mp g with rfl|g
    ·exact decide_eq_false fun ⟨_,h,_⟩=>absurd h (J8 (fO y))
    ·obtain ⟨l,_,r⟩:=N e g;exact decide_eq_false fun ⟨_,h,_⟩=>absurd h (J8 (eY (bR (cC i k) l) (fO r)))
   ·obtain ⟨l,_,r⟩:=b1 e g;exact decide_eq_false fun ⟨h,_⟩=>fF _ (bT (fO r) (bR l (bR (cC i k) h)))
theorem K2(al:Al A B Es):Jx A B A.length 0 A.length 0 B.length=Es:=by
 have b:∀e∈Es,InR 0 A.length 0 B.length e:=fun e a=>by have c:=(al.run e a).2;exact ⟨c.a0,c.a1,c.b0,c.b1⟩
 rw [aIf al A.length 0 A.length 0 B.length (by exact bE 0x418c52104cc6001) (bG _) (bG _) fun e a=>.inr (.inr (b e a))];exact Eh.mpr fun e a=>by simp only [decide_eq_true_eq];exact b e a
end
abbrev Sg:=aW×aW×aW
noncomputable def F1:Sg:=([],[],[])
def sx:Sg→aW:=fun s=>s.2.1
def sy:Sg→aW:=fun s=>s.2.2
noncomputable def fl(h:Sg→aW)(L:List Sg):aW:=L.flatMap fun s=>s.1++h s
def gt(L:List Sg)(m:Nat):aW:=(L.getD m F1).1
def xt(h:Sg→aW)(L:List Sg)(m:Nat):aW:=h (L.getD m F1)
noncomputable def jR(h:Sg→aW)(L:List Sg)(m:Nat):Nat:=(fl h (L.take m)).length
section
variable{h:Sg→aW}{L:List Sg}{m m' i t:Nat}
theorem qE(s:Sg)(r:List Sg):fl h (s::r)=s.1++h s++fl h r:=by rfl
theorem vA:jR h L 0=0:=by rfl
theorem tF(s:Sg)(r:List Sg)(m:Nat):jR h (s::r) (m+1)=s.1.length+(h s).length+jR h r m:=by unfold jR;simp only [List.take_succ_cons,qE];simp [dD]
theorem wF(s:Sg)(r:List Sg)(m:Nat):gt (s::r) (m+1)=gt r m:=by rfl
theorem As(s:Sg)(r:List Sg)(m:Nat):xt h (s::r) (m+1)=xt h r m:=by rfl
theorem kI(h0:h F1=[]):∀(L:List Sg)(m:Nat),jR h L (m+1)=jR h L m+(gt L m).length+(xt h L m).length:=by
 intro a
 induction a with
 |nil=>intro m;simp [jR,gt,xt,fl,h0,F1];rw [show h ([],[],[])=[]from h0];rfl
 |cons s r b=>
  intro c
  cases c with
  |zero=>simp only [tF,vA,vA];simp [gt,xt]
  |succ m=>rw [tF,tF,wF,As,b m];ac_rfl
theorem A3:jR h L L.length=(fl h L).length:=by unfold jR;rw [zM]
theorem pV(h0:h F1=[]){m m':Nat}(a:m≤m'):jR h L m≤jR h L m':=by
 induction a with
 |refl=>exact bG _
 |step _ b=>simp only [kI h0];exact bE 0xc62940d0208121004 b
theorem aE2(h0:h F1=[]):∀(L:List Sg)(m t:Nat),t<(gt L m++xt h L m).length→(fl h L).getD (jR h L m+t) 0=(gt L m++xt h L m).getD t 0:=by
 intro b
 induction b with
 |nil=>intro m;intro t;intro a;simp [gt,xt,F1]at a;rw [show h ([],[],[])=[]from h0]at a;simp at a
 |cons s r c=>
  intro d
  cases d with
  |zero=>
   intro t;intro a;have e:t<(s.1++h s).length:=by exact a
   simp only [vA,qE,iH,aT,yB e];simp [gt,xt]
  |succ m=>intro t;intro a;rw [wF,As]at a⊢;rw [←c m t a,qE,tF,aT,xB (by rw [aS,dD];exact cC _ _),←aT,aS,dD,rS]
theorem yV(h0:h F1=[])(a:t<(gt L m).length):(fl h L).getD (jR h L m+t) 0=(gt L m).getD t 0:=by rw [aE2 h0 L m t (by simp;exact tN ‹_›),aT,yB a,←aT]
theorem yU(h0:h F1=[])(a:t<(xt h L m).length):(fl h L).getD (jR h L m+(gt L m).length+t) 0=(xt h L m).getD t 0:=by
 rw [dD,aE2 h0 L m _ (by simp;assumption),aT,xB (by exact cC _ _),←aT]
 congr 1;simp
theorem ė(a:L.length≤m):gt L m=[]:=by unfold gt;rw [aT,B9 a];rfl
theorem vE(a:gt L m≠[]):m<L.length:=jI fun h=>a (ė h)
theorem aJc(h0:h F1=[])(a:xt h L m≠[]):m<L.length:=jI fun b=>a (by unfold xt;rw [aT,B9 b];exact h0)
theorem uG(h0:h F1=[])(hi:i<(fl h L).length):∃m,m<L.length∧jR h L m≤i∧i<jR h L (m+1):=by
 obtain ⟨m,b,a⟩:=Sp (P:=fun m=>i<jR h L m) ⟨L.length,by simp only [A3];exact hi⟩
 cases m with
 |zero=>exact absurd ‹_› (fS _)
 |succ m=>
  have c:jR h L m≤i:=dJ fun q=>by have:=a m q;exact absurd ‹_› (fF _)
  refine ⟨m,jI fun q=>?_,c,b⟩;have:=a L.length (by simp only [A3];exact hi);exact absurd ‹_› (nN.mpr ‹_›)
theorem oL(h0:h F1=[])(a:m<L.length):jR h L m+(gt L m).length+(xt h L m).length≤(fl h L).length:=by rw [←A3,←kI h0];exact pV h0 a
theorem Fk(a:t<(xt h L m).length):(xt h L m).getD t 0∈xt h L m:=by simp only [aT,bK a];exact mB a
theorem tU(a:m<L.length):L.getD m F1∈L:=by simp only [aT,bK a];exact mB a
end
noncomputable def Ir:Nat→Nat→List Sg→List T3
 |_,_,[]=>[]
 |i,j,s::r=>(if s.1=[]then[]else[(i,j,s.1.length)])++Ir (i+s.1.length+s.2.1.length) (j+s.1.length+s.2.2.length) r
theorem Fb{a b}:Ir a b []=([]):=rfl
theorem Fa{i j s r}:Ir i j (s::r)=((if s.1=[]then[]else[(i,j,s.1.length)])++Ir (i+s.1.length+s.2.1.length) (j+s.1.length+s.2.2.length) r):=rfl
theorem uI:∀(L:List Sg)(i j:Nat)(e:T3),e∈Ir i j L↔∃m,gt L m≠[]∧e=(i+jR sx L m,j+jR sy L m,(gt L m).length):=by
 intro d
 induction d with
 |nil=>intro i j e;simp only [Fb,Fa,kO,false_iff];rintro ⟨m,h,_⟩;exact h (ė (bW _))
 |cons s r f=>
  intro i j e;simp only [Fb,Fa];rw [dC,f];constructor
  ·rintro (h|⟨m,a,b⟩)
   ·split at h
    ·cases h
    ·rename_i c;rw [aM]at h;exact ⟨0,c,by rw [vA,vA,h];rfl⟩
   ·refine ⟨m+1,by rw [wF];exact a,?_⟩;rw [tF,tF,wF,b,←dD,←dD,←dD,←dD];rfl
  ·rintro ⟨m,a,b⟩
   cases m with
   |zero=>
    left
    have c:s.1≠[]:=a;rw [if_neg c,aM,b,vA,vA];rfl
   |succ m=>
    right
    rw [wF]at a;refine ⟨m,a,?_⟩;rw [b,tF,tF,wF,←dD,←dD,←dD,←dD];rfl
theorem Wm:∀(L:List Sg)(i j:Nat),(Ir i j L).Pairwise Bef:=by
 intro b
 induction b with
 |nil=>intro i j;exact .nil
 |cons s r c=>
  intro i j;refine jG.mpr ⟨?_,c _ _,fun e a f d=>?_⟩
  ·split
   ·exact .nil
   ·exact nX _ _
  ·split at a
   ·cases a
   ·rw [aM]at a;obtain ⟨m,_,rfl⟩:=(uI r _ _ f).mp d;subst a;constructor
    ·simp only;exact bE 0x8c5281a04808101004
    ·simp only;exact bE 0x8c5281a04808101004
section
variable{Z:Int→Prop}{L:List Sg}
theorem tR:sx F1=[]:=rfl
theorem tW:sy F1=[]:=rfl
theorem Dg{i j:Nat}:Ũ (Ir 0 0 L) i j↔∃m t,t<(gt L m).length∧i=jR sx L m+t∧j=jR sy L m+t:=by
 constructor
 ·rintro ⟨e,d,t,a,b,c⟩;obtain ⟨m,_,rfl⟩:=(uI L 0 0 e).mp d;exact ⟨m,t,a,by simpa using b,by simpa using c⟩
 ·rintro ⟨m,t,a,b,c⟩;exact ⟨_,(uI L 0 0 _).mpr ⟨m,fun q=>by rw [q]at a;exact absurd a (fS _),rfl⟩,t,a,by simpa using b,by simpa using c⟩
theorem Ds{h:Sg→aW}(h0:h F1=[]){m m' t i:Nat}(a:t<(gt L m).length)(e:i=jR h L m+t)(b:jR h L m'+(gt L m').length≤i)(c:i<jR h L (m'+1)):False:=by
 rcases I3 m m' with q|q|q
 ·have:jR h L (m+1)≤jR h L m':=pV (L:=L) h0 q;rw [kI h0]at this;exact bE 0xb8c649220a740469120a622d0018941007 a e b this
 ·subst q;exact bE 0x2c632489011ad0018941004 a e b
 ·have:jR h L (m'+1)≤jR h L m:=pV (L:=L) h0 q;exact bE 0xb18c9211a8605a041004 e c this
theorem Jd(h0:h F1=[])(q:¬i<jR h L m+(gt L m).length)(a:i<jR h L (m+1)):∃t,t<(xt h L m).length∧i=jR h L m+(gt L m).length+t:=by obtain ⟨t,rfl⟩:=dZ (dJ q);rw [kI h0]at a;exact ⟨t,kE a,rfl⟩
theorem Eu(h0:h F1=[])(a:m<L.length)(b:t<(gt L m).length):jR h L m+t<(fl h L).length:=
 bT (wK b _) (bR (cC _ _) (oL h0 a))
theorem Me(h0:h F1=[])(q:xt h L m≠[]):jR h L m+(gt L m).length≤jR h L (m+1)-1∧jR h L (m+1)-1<jR h L (m+1)∧(fl h L).getD (jR h L (m+1)-1) 0=(xt h L m).getD ((xt h L m).length-1) 0:=by refine nn fun b=>?_;obtain ⟨c,a⟩:=Ap (cQ.mpr q);refine b ?_;rw [iH]at a;rw [(by rw [kI h0,a];rfl:jR h L (m+1)=jR h L m+(gt L m).length+c+1),a];exact ⟨cC _ _,gX _,yU h0 (by simp only [a];exact gX _)⟩
theorem L4{m i j:Nat}(a:jR sx L m+(gt L m).length≤i)(b:i<jR sx L (m+1)):¬Ũ (Ir 0 0 L) i j:=fun h=>by obtain ⟨m',t,c,d,e⟩:=Dg.mp h;exact Ds tR c d a b
theorem L3{m i j:Nat}(a:jR sy L m+(gt L m).length≤j)(b:j<jR sy L (m+1)):¬Ũ (Ir 0 0 L) i j:=fun h=>by obtain ⟨m',t,c,e,d⟩:=Dg.mp h;exact Ds tW c d a b
end
def Ŕ(e f:T3):Prop:=e.1+e.2.2=f.1∧e.2.1+e.2.2=f.2.1
theorem Vq:∀(l:List T3)(e:T3),0<e.2.2→(e::l).Pairwise (fun a b=>¬Ŕ a b)→(∀f∈l,0<f.2.2)→glue e l=e::l:=by
 intro g
 induction g with
 |nil=>intro m;obtain ⟨i,j,k⟩:=m;intro c;intro _;intro _;simp only at c;simp only [Dq,Dp];rw [if_neg (by exact bE 0x518ba4b30140301 c)]
 |cons o r p=>obtain ⟨i',s,t⟩:=o;intro u;obtain ⟨i,j,k⟩:=u;intro c;intro h;intro d;obtain ⟨v,x⟩:=eM.mp h;have n:=v _ (aR ..);simp only [Ŕ]at n c;simp only [Dq,Dp];rw [if_neg n,if_neg (by exact bE 0x518ba4b30140301 c),p (i',s,t) (d _ (aR ..)) x fun f y=>d f (aQ _ y)]
theorem aHj{l:List T3}(h:l.Pairwise (fun a b=>¬Ŕ a b))(c:∀f∈l,0<f.2.2):glue (0,0,0) l=l:=by
 match l,h,c with
 |[],_,_=>rfl
 |(i,j,k)::r,h,c=>
  have d:=c _ (aR ..);have e:∀f∈r,0<f.2.2:=fun f g=>c f (aQ _ g);simp only [Dq,Dp];split
  ·rename_i q;have:((0,0,0+k):T3)=(i,j,k):=by rw [←q.1,←q.2,iH]
   rw [this];exact Vq r _ d h e
  ·rw [if_pos trivial];exact Vq r _ d h e
theorem Al.glue{A B:aW}{Es:List T3}(al:Al A B Es):glue (0,0,0) Es=Es:=by
 refine aHj ?_ fun f a=>(al.run f a).1;refine aPc ?_ al.ord;rintro e f b a _ ⟨c,d⟩;obtain ⟨g,c1⟩:=al.run e b;obtain ⟨h,c2⟩:=al.run f a;have a1:=c1.a1;have l:=c1.b1;have i:=c2.a1;have j:=c2.b1;have:=al.max e b e.1 e.2.1 (e.2.2+f.2.2) 0 0 ⟨bW _,by exact bE aKp c i,bW _,by exact bE aKp d j,fun t k=>by
  by_cases q:t<e.2.2
  ·exact c1.eq t q
  ·have:=c2.eq (t-e.2.2) (by exact bE 0x1a58c543029031054334cc1003 h k);rw [show f.1+(t-e.2.2)=e.1+t by exact bE aLg c q,show f.2.1+(t-e.2.2)=e.2.1+t by exact bE aLg d q]at this;exact this⟩ (by exact bE 0x318a90101940302 g) g rfl rfl
 exact bE 0xa3193128105080082908540303 h this
theorem Al.mbs{A B:aW}{Es:List T3}(al:Al A B Es):mbs A B=Es++[(A.length,B.length,0)]:=by unfold Mine.mbs;simp only [K2 al,al.glue]
noncomputable def vG(old new:aW):mU:=if old=[]then .insert else if new=[]then .delete else .replace
noncomputable def Si(i' i j' j:Nat):List Iw:=if i'<i∧j'<j then[(mU.replace,i',i,j',j)]else if i'<i then[(mU.delete,i',i,j',j)]else if j'<j then[(mU.insert,i',i,j',j)]else[]
def rO(i j:Nat)(s:Sg):List Iw:=if s.2.1=[]∧s.2.2=[]then[]else[(vG s.2.1 s.2.2,i+s.1.length,i+s.1.length+s.2.1.length,j+s.1.length,j+s.1.length+s.2.2.length)]
noncomputable def E6(i j:Nat)(s:Sg):List Iw:=if s.1=[]then[]else[(mU.equal,i,i+s.1.length,j,j+s.1.length)]
def Df:Nat→Nat→List Sg→List Iw
 |_,_,[]=>[]
 |i,j,s::r=>E6 i j s++(rO i j s++Df (i+s.1.length+s.2.1.length) (j+s.1.length+s.2.2.length) r)
theorem Lz{a b}:Df a b []=([]):=rfl
theorem Ly{i j s r}:Df i j (s::r)=(E6 i j s++(rO i j s++Df (i+s.1.length+s.2.1.length) (j+s.1.length+s.2.2.length) r)):=rfl
theorem H9(i j:Nat)(s:Sg):rO i j s=Si (i+s.1.length) (i+s.1.length+s.2.1.length) (j+s.1.length) (j+s.1.length+s.2.2.length):=by
 obtain ⟨g,x,y⟩:=s;unfold rO Si vG;simp only
 cases x with
 |nil=>cases y with
  |nil=>simp
  |cons b y=>simp
 |cons a x=>cases y with
  |nil=>simp
  |cons b y=>simp
theorem De(i' a i j k:Nat)(r:List T3):xG i' a ((i,j,k)::r)=Si i' i a j++(if k=0 then[]else[(mU.equal,i,i+k,j,j+k)])++xG (i+k) (j+k) r:=by rfl
theorem O1(i j:Nat):Si i i j j=[]:=by unfold Si;simp
def Qx:List Sg→Prop
 |[]=>True
 |[s]=>s.2.1=[]∧s.2.2=[]
 |s::t::r=>s.1≠[]∧Qx (t::r)
theorem Hi:∀(L:List Sg)(i' a i j:Nat),Qx L→xG i' a (Ir i j L++[(i+(fl sx L).length,j+(fl sy L).length,0)])=Si i' i a j++Df i j L
 |[],i',a,i,j,_=>by simp only [Fb,Fa,dK,fl,uA,cV,iI,Lz,Ly];rw [De,if_pos rfl];simp [Gm,Gl]
 |[(g,x,y)],i',a,i,j,h=>by
  obtain ⟨d,e⟩:=h;simp only at d e;subst d;subst e;by_cases b:g=[]
  ·subst b;simp only [Fb,Fa,if_true,dK,fl,lF,uA,sx,sy,bP,cV,iI,Lz,Ly,E6,rO,and_self];rw [De,if_pos rfl];simp [Gm,Gl]
  ·have c:¬g.length=0:=fun q=>b (kX q);simp only [Fb,Fa,if_neg b,fl,lF,uA,sx,sy,bP,Lz,Ly,E6,rO,and_self,if_true,dX,dK];rw [De,De,if_neg c,O1,if_pos rfl];simp [Gm,Gl]
 |s::t::r,i',a,i,j,h=>by
  obtain ⟨b,f⟩:=h;have c:¬s.1.length=0:=fun q=>b (kX q);have k:=Hi (t::r) (i+s.1.length) (j+s.1.length) (i+s.1.length+s.2.1.length) (j+s.1.length+s.2.2.length) f;have l:i+(fl sx (s::t::r)).length=i+s.1.length+s.2.1.length+(fl sx (t::r)).length:=by rw [qE];simp only [aS,sx];exact bE aEv
  have m:j+(fl sy (s::t::r)).length=j+s.1.length+s.2.2.length+(fl sy (t::r)).length:=by rw [qE];simp only [aS,sy];exact bE aEv
  rw [l,m];show xG i' a ((if s.1=[]then[]else[(i,j,s.1.length)])++Ir (i+s.1.length+s.2.1.length) (j+s.1.length+s.2.2.length) (t::r)++_)=Si i' i a j++(E6 i j s++(rO i j s++Df (i+s.1.length+s.2.1.length) (j+s.1.length+s.2.2.length) (t::r)));rw [if_neg b,bU];rw [List.singleton_append,De,if_neg c,k,H9];unfold E6;rw [if_neg b,bU]
def Wq:List Sg→Prop
 |[]=>True
 |[s]=>s.2.1=[]∧s.2.2=[]
 |s::t::r=>Qx (t::r)
theorem Qx.one:∀{L:List Sg},Qx L→Wq L
 |[],_=>trivial
 |[_],h=>h
 |_::_::_,h=>h.2
theorem Xb:∀(L:List Sg),Wq L→xG 0 0 (Ir 0 0 L++[((fl sx L).length,(fl sy L).length,0)])=Df 0 0 L:=fun L h=>by
 have z:∀n:Nat,0+n=n:=iH;by_cases a:Qx L
 ·have:=Hi L 0 0 0 0 a;rw [z,z,O1]at this;exact this
 ·match L,h with
  |[],_=>exact absurd trivial a
  |[s],h=>exact absurd h a
  |(g,x,y)::t::r,h=>
   have b:g=[]:=fL fun q=>a ⟨q,h⟩;subst b;have:=Hi (t::r) 0 0 x.length y.length h;have c:(fl sx (([],x,y)::t::r)).length=x.length+(fl sx (t::r)).length:=by rw [qE];simp only [aS,sx,cV];exact bE 0x6315a02040500302
   have d:(fl sy (([],x,y)::t::r)).length=y.length+(fl sy (t::r)).length:=by rw [qE];simp only [aS,sy,cV];exact bE 0x6315a02040500302
   rw [c,d];show xG 0 0 ([]++Ir (0+0+x.length) (0+0+y.length) (t::r)++_)=[]++(rO 0 0 ([],x,y)++Df (0+0+x.length) (0+0+y.length) (t::r));rw [dK,dK,H9,cV,z,z,z,this]
theorem aC1:∀(L:List Sg)(i j:Nat),(Ir i j L).length≤L.length:=by
 intro a
 induction a with
 |nil=>intro _ _;exact bG _
 |cons s r b=>intro i j;simp only [Fb,Fa];have:=b (i+s.1.length+s.2.1.length) (j+s.1.length+s.2.2.length);split<;>simp<;>omega
def Ao:List Sg→Prop
 |[]=>True
 |[s]=>s.2.1=[]∧s.2.2=[]
 |s::t::r=>(s.2.1≠[]∨s.2.2≠[])∧(t.1=[]→t.2.1=[]∧t.2.2=[])∧Ao (t::r)
theorem Ao.fin:∀{L:List Sg},Ao L→∀m,L.length≤m+1→xt sx L m=[]∧xt sy L m=[]
 |[],_,m,_=>⟨rfl,rfl⟩
 |[s],h,0,_=>h
 |[s],_,m+1,_=>⟨rfl,rfl⟩
 |s::t::r,h,0,a=>absurd a (by simp)
 |s::t::r,h,m+1,a=>Ao.fin (L:=t::r) h.2.2 m (Nat.le_of_succ_le_succ a)
theorem Ao.ne:∀{L:List Sg},Ao L→∀m,m+1<L.length→xt sx L m≠[]∨xt sy L m≠[]
 |[s],h,m,a=>absurd (Br a) (fS _)
 |s::t::r,h,0,a=>h.1
 |s::t::r,h,m+1,a=>Ao.ne (L:=t::r) h.2.2 m (Br a)
theorem Ao.full:∀{s:Sg}{r:List Sg},Ao (s::r)→(r≠[]→s.1≠[])→Qx (s::r)
 |s,[],h,_=>h
 |s,t::r,h,a=>by refine ⟨a (by simp),Ao.full h.2.2 fun b c=>?_⟩;obtain ⟨u,f,rfl⟩:=pS b;obtain ⟨d,e⟩:=h.2.1 c;exact h.2.2.1.elim (fun q=>q d) fun q=>q e
theorem Ao.full1{L:List Sg}(h:Ao L):Wq L:=by
 match L,h with
 |[],_=>trivial
 |[s],h=>exact h
 |s::t::r,h=>refine Ao.full h.2.2 fun a b=>?_;obtain ⟨u,e,rfl⟩:=pS a;obtain ⟨c,d⟩:=h.2.1 b;exact h.2.2.1.elim (fun q=>q c) fun q=>q d
def Wn(Z:Int→Prop)(l:aW):Prop:=∀i i',i<l.length→i'<l.length→l.getD i 0=l.getD i' 0→i=i'∨(Z (l.getD i 0)∧(i'=i+1∨i=i'+1))
def NZ(Z:Int→Prop)(l:aW):Prop:=∀i i',i<l.length→i'<l.length→l.getD i 0=l.getD i' 0→¬Z (l.getD i 0)→i=i'
inductive Dup(v:Int)(l:aW):Prop
 |mk (t t':Nat) (h:t<t') (h':t'<l.length) (e:l.getD t 0=v) (e':l.getD t' 0=v)
structure Gy(Z:Int→Prop)(y:aW):Prop where
 hd:y≠[]→¬Z (y.getD 0 0)
 lst:y≠[]→¬Z (y.getD (y.length-1) 0)
 dd:∀u,u+1<y.length→Z (y.getD u 0)→Z (y.getD (u+1) 0)→y.getD (u+1) 0=y.getD u 0∧¬Z (y.getD (u+2) 0)
theorem Gy.more{Z:Int→Prop}{y:aW}(h:Gy Z y){u:Nat}(a:u<y.length)(b:Z (y.getD u 0)):u+1<y.length:=by refine aDg a fun q=>h.lst (cQ.mp (eY (bW _) a)) ?_;rw [←q];exact b
structure Lk(Z:Int→Prop)(L:List Sg):Prop where
 w:Wn Z (fl sx L)
 n:NZ Z (fl sy L)
 gp:Ao L
 xz:∀s∈L,∀v∈s.2.1,¬Z v
 c:∀s∈L,∀s'∈L,∀v∈s.2.1,v∉s'.2.2
 gy:∀s∈L,Gy Z s.2.2
 du:∀s∈L,∀v∈s.1,Z v→Dup v s.1
 pw:∀m m' u,m<m'→u+1<(xt sy L m).length→Z ((xt sy L m).getD u 0)→Z ((xt sy L m).getD (u+1) 0)→(xt sy L m).getD u 0∉gt L m'
section
variable{Z:Int→Prop}{L:List Sg}
theorem Ę{m t:Nat}(a:t<(gt L m).length):(gt L m).getD t 0∈gt L m:=by rw [aT,bK a];exact mB a
theorem aHi{m t:Nat}(a:t<(gt L m).length):m<L.length:=vE (cQ.mp (eY (bW _) a))
theorem Tq{h h':Sg→aW}(h0:h F1=[])(d:h' F1=[]){m m' t e:Nat}(k:t<(gt L m).length)(l:e<(gt L m').length)(q:jR h L m+t<jR h L m'+e):jR h' L m+t<jR h' L m'+e:=by
 have i:∀{f:Sg→aW}{a b s s':Nat},f F1=[]→a<b→s<(gt L a).length→jR f L a+s<jR f L b+s':=fun {f a b s s'} j g n=>by have:=pV (L:=L) j g;rw [kI j]at this;exact bE 0x1c62a414c4400492206808941006 n this
 rcases I3 m m' with c|c|c
 ·exact i d c k
 ·subst c;exact bE 0xc62a4086808d4810101004 q
 ·have:=i (s':=t) h0 c l;exact bE 0x1862a40ca64048a404081894818901006 q this
theorem Lk.uniq(k:Lk Z L){i j:Nat}(hi:i<(fl sx L).length)(b:j<(fl sy L).length)(e:(fl sx L).getD i 0=(fl sy L).getD j 0)(c:¬Z ((fl sx L).getD i 0)):Ũ (Ir 0 0 L) i j:=by
 obtain ⟨m,d,a1,f⟩:=uG tR hi;obtain ⟨m',g,b1,p⟩:=uG tW b;by_cases q:i<jR sx L m+(gt L m).length
 ·obtain ⟨t,rfl⟩:=dZ a1;have a:t<(gt L m).length:=kE q;exact Dg.mpr ⟨m,t,a,rfl,k.n _ _ b (Eu tW d a) (by rw [←e,yV tR a,yV tW a]) (e▸c)⟩
 ·exfalso;by_cases l:j<jR sy L m'+(gt L m').length
  ·obtain ⟨t,rfl⟩:=dZ b1;have a:t<(gt L m').length:=kE l;exact Ds tR a ((k.w _ _ hi (Eu tR g a) (by rw [yV (h:=sx) tR a,e,yV (h:=sy) tW a])).resolve_right fun z=>c z.1) (dJ q) f
  ·obtain ⟨t,n,rfl⟩:=Jd tR q f;obtain ⟨r,o,rfl⟩:=Jd tW l p;rw [yU (h:=sx) tR n,yU (h:=sy) tW o]at e;exact k.c _ (tU d) _ (tU g) _ (Fk (h:=sx) n) (by rw [e];exact Fk (h:=sy) o)
theorem Lk.x0(k:Lk Z L){m:Nat}(q:xt sx L m≠[]){t:Nat}(a:t<(xt sx L m).length):¬Z ((xt sx L m).getD t 0):=k.xz _ (tU (aJc tR q)) _ (Fk a)
theorem Lk.behind(k:Lk Z L){m:Nat}(c:jR sx L m+(gt L m).length<(fl sx L).length)(d:jR sy L m+(gt L m).length<(fl sy L).length)(i:m<L.length):(fl sx L).getD (jR sx L m+(gt L m).length) 0≠(fl sy L).getD (jR sy L m+(gt L m).length) 0:=fun e=>by
 have b:=kI tR L m;have j:=kI tW L m;have l:m+1<L.length:=jI fun q=>by
  have f:=(k.gp.fin m q).1;rw [f]at b;have:jR sx L (m+1)=(fl sx L).length:=by rw [show m+1=L.length from jD i q,A3]
  rw [cV]at b;exact bE aKq c b this
 rcases k.gp.ne m l with q|q
 ·have a:=cQ.mpr q;have g:=yU (h:=sx) (L:=L) (m:=m) (t:=0) tR a;rw [iI]at g;exact L4 (m:=m) (bG _) (by exact bE aAv b a) (k.uniq c d e (by rw [g];exact k.x0 q a))
 ·have a:=cQ.mpr q;have g:=yU (h:=sy) (L:=L) (m:=m) (t:=0) tW a;rw [iI]at g;exact L3 (m:=m) (bG _) (by exact bE aAv j a) (k.uniq c d e (by rw [e,g];exact (k.gy _ (tU i)).hd q))
theorem Lk.ahead(k:Lk Z L){m:Nat}(i:gt L (m+1)≠[])(j:0<jR sx L (m+1))(l:0<jR sy L (m+1)):(fl sx L).getD (jR sx L (m+1)-1) 0≠(fl sy L).getD (jR sy L (m+1)-1) 0:=fun e=>by
 have a:=vE i;have f:=bT (Bp j rR) (bR (bR (cC _ _) (cC _ _)) (oL tR a));have g:=bT (Bp l rR) (bR (bR (cC _ _) (cC _ _)) (oL tW a));rcases k.gp.ne m a with q|q
 ·obtain ⟨b,c,d⟩:=Me (h:=sx) tR q;exact L4 b c (k.uniq f g e (by rw [d];exact k.x0 q (Bp (cQ.mpr q) rR)))
 ·obtain ⟨b,c,d⟩:=Me (h:=sy) tW q;exact L3 b c (k.uniq f g e (by rw [e,d];exact (k.gy _ (tU (jT a))).lst q))
theorem Lk.inG(k:Lk Z L){i:Nat}(hi:i<(fl sx L).length)(a:Z ((fl sx L).getD i 0)):∃m t,t<(gt L m).length∧i=jR sx L m+t:=by
 obtain ⟨m,c,a1,d⟩:=uG tR hi;by_cases q:i<jR sx L m+(gt L m).length
 ·obtain ⟨t,rfl⟩:=dZ a1;exact ⟨m,t,kE q,rfl⟩
 ·obtain ⟨t,b,rfl⟩:=Jd tR q d;rw [yU (h:=sx) tR b]at a;exact absurd a (k.xz _ (tU c) _ (Fk (h:=sx) b))
theorem Lk.near(k:Lk Z L){i i':Nat}(hi:i<(fl sx L).length)(a:i'<(fl sx L).length)(e:(fl sx L).getD i 0=(fl sx L).getD i' 0):i=i'∨i'=i+1∨i=i'+1:=(k.w i i' hi a e).imp id Wu
theorem Lk.off(k:Lk Z L){i j n:Nat}(b:0<n)(hi:i+n≤(fl sx L).length)(T:j+n≤(fl sy L).length)(J:∀t,t<n→(fl sx L).getD (i+t) 0=(fl sy L).getD (j+t) 0)(no:∀t,t<n→¬Ũ (Ir 0 0 L) (i+t) (j+t)):
  ∃e∈Ir 0 0 L,e.1≤i∧i+n≤e.1+e.2.2∧(n<e.2.2∨e.2.1<j):=by
 have zx:∀t,t<n→Z ((fl sx L).getD (i+t) 0):=fun t a=>fL fun q=>no t a (k.uniq (by exact bE aAq hi a) (by exact bE aAq T a) (J t a) q);have qr:∀m,gt L m≠[]→(jR sx L m,jR sy L m,(gt L m).length)∈Ir 0 0 L:=fun m h=>(uI L 0 0 _).mpr ⟨m,h,by rw [iH,iH]⟩;have c:Z ((fl sx L).getD i 0):=zx 0 b;have c0:(fl sx L).getD i 0=(fl sy L).getD j 0:=J 0 b;have n0:¬Ũ (Ir 0 0 L) i j:=no 0 b;obtain ⟨m,t,a,d⟩:=k.inG (by exact bE ln6 b hi) c;have hm:=aHi a;have gi:(fl sx L).getD i 0=(gt L m).getD t 0:=by rw [d];exact yV tR a
 obtain ⟨p,N,z,W,pe,X⟩:=k.du _ (tU hm) _ (Ę a) (gi▸c);have bound:=oL (h:=sx) (L:=L) tR hm;have aP:(fl sx L).getD (jR sx L m+p) 0=(fl sx L).getD i 0:=by rw [gi,←pe];exact yV tR (oT z W)
 have A:(fl sx L).getD (jR sx L m+N) 0=(fl sx L).getD i 0:=by rw [gi,←X];exact yV tR W
 have s:N<(gt L m).length:=W;refine ⟨_,qr m (cQ.mp (eY (bW _) a)),?_⟩;simp only;by_cases B:n=1
 ·exact ⟨by exact bE 0x518a4015a041003 d,by exact bE 0xac629404682096722d0018941005 a d B,.inl (by exact bE 0x1b18a84359c6a10541004 z s B)⟩
 have Y:1<n:=by exact bE 0xf0c5403ba4b38140301 b B
 have c1:=J 1 Y;have f:=zx 1 Y;obtain ⟨m',gj,b1,b2⟩:=uG (h:=sy) (i:=j) (L:=L) tW (by exact bE ln6 b T);by_cases q:j<jR sy L m'+(gt L m').length
 ·exfalso;obtain ⟨C,v⟩:=dZ b1;have l:C<(gt L m').length:=by exact bE 0x1a315086b40c2052041004 q v
  have hP:jR sx L m'+C<(fl sx L).length:=Eu tR gj l;have eP:(fl sx L).getD (jR sx L m'+C) 0=(fl sx L).getD i 0:=by rw [c0,v,yV tR l,yV tW l]
  have nP:jR sx L m'+C≠i:=fun e=>n0 (Dg.mpr ⟨m',C,l,e.symm,v⟩);obtain ⟨g,wx,d1,d2⟩:=uG (h:=sy) (i:=j+1) (L:=L) tW (by exact bE aKx b T B);have q2:j+1<jR sy L g+(gt L g).length:=by
   refine jI fun q2=>?_;obtain ⟨u,D,x⟩:=Jd (h:=sy) (L:=L) tW (J7 q2) d2
   cases u with
   |zero=>have ql:=cQ.mp D;have:=yU (h:=sy) (L:=L) (m:=g) (t:=0) tW D;rw [←x,←c1]at this;exact (k.gy _ (tU wx)).hd ql (by rw [this]at f;exact f)
   |succ u=>exact Ds (m':=g) (i:=j) tW l v (by exact bE 0x518a4081056841c6810507004 x) (by exact bE 0x318a82050507002 d2)
  obtain ⟨O,P⟩:=dZ d1;have F:O<(gt L g).length:=by exact bE 0x1a315086b40c283814810507004 q2 P
  have hP2:jR sx L g+O<(fl sx L).length:=Eu tR wx F;have o:(fl sx L).getD (jR sx L g+O) 0=(fl sx L).getD (i+1) 0:=by rw [c1,P,yV tR F,yV tW F]
  have n8:=Tq (h:=sy) (h':=sx) tW tR l F (by exact bE 0x98c54820d020ad041a0e05a041005 v P);rcases k.near hP (by exact bE ln6 b hi) eP with r|r|r
  ·exact nP r
  ·
   by_cases r2:jR sx L g+O=i
   ·rw [r2]at o;have:=k.near (by exact bE 0x1a31509041ad074106048901005 hi r) (by exact bE aKx b hi B) (eP.trans o);exact bE 0x54d0c64d6ad0741c08105683a04141c0b41c08105683a041003 r this
   ·have:=Tq (h:=sx) (h':=sy) tR tW l a (by exact bE 0x68c548105041ad07410605a041005 d r);have:=Tq (h:=sx) (h':=sy) tR tW a F (by exact bE 0x10cb0c54829ca64082e92c0829ca65a0e820c0a414e5320835a041007 d n8 r r2);exact bE 0xd8c64a4106829ca6520a7299020ad041a0e05a041007 v P ‹_› this
  ·
   have Q:(fl sx L).getD (i+1) 0=(fl sx L).getD i 0:=by rw [←r];exact eP
   have:=k.near hP2 (by exact bE ln6 b hi) (o.trans Q);exact bE 0x675918c9ad5a0e440c4b41d031116440c4b41c880814818901005 n8 r this
 ·obtain ⟨u,D,x⟩:=Jd (h:=sy) (L:=L) tW q b2;have gy:=k.gy _ (tU gj);have y:=yU (h:=sy) (L:=L) (m:=m') tW D;rw [←x,←c0]at y;have R:u+1<(xt sy L m').length:=gy.more D (by rw [y]at c;exact c);have G:=yU (h:=sy) (L:=L) (m:=m') tW R;rw [←dD,←x,←c1]at G;obtain ⟨g1,g2⟩:=gy.dd u R (by rw [y]at c;exact c) (by rw [G]at f;exact f);have u3:u+2<(xt sy L m').length:=gy.more R (by rw [G]at f;exact f);have H:n=2:=by refine jD (dJ fun h3=>g2 ?_) Y;have I:=yU (h:=sy) (L:=L) (m:=m') tW u3;rw [←dD,←x,←J 2 h3]at I;have z2:=zx 2 h3;rw [I]at z2;exact z2
  have Q:(fl sx L).getD (i+1) 0=(fl sx L).getD i 0:=by rw [y,G];exact g1
  have t1:t+1<(gt L m).length:=by have n1:=k.near (i:=jR sx L m+p) (i':=i) (by exact bE aK2 z bound s) (by exact bE aEc hi H) aP;have H:=k.near (i:=jR sx L m+p) (i':=i+1) (by exact bE aK2 z bound s) (by exact bE aEp hi H) (aP.trans Q.symm);have n3:=k.near (i:=jR sx L m+N) (i':=i) (by exact bE aEu bound s) (by exact bE aEc hi ‹_›) A;have n4:=k.near (i:=jR sx L m+N) (i':=i+1) (by exact bE aEu bound s) (by exact bE aEp hi ‹_›) (A.trans Q.symm);exact bE 0x2edbba31514c8389ad5a0e8381030ad0740c2838168381030a8a6228835a041006 d z s H
  have ua:m≤m':=dJ fun h=>k.pw m' m u h R (by rw [y]at c;exact c) (by rw [G]at f;exact f) (by have:(xt sy L m').getD u 0=(gt L m).getD t 0:=y.symm.trans gi;rw [this];exact Ę a);refine ⟨by exact bE 0x518a4015a041003 d,by exact bE 0x2e314a08140c0a220e25e8c35a041005 d H t1,.inr ?_⟩;rcases Nat.lt_or_eq_of_le ua with h|h
  ·have:=pV (L:=L) (h:=sy) tW h;rw [kI tW]at this;exact bE 0x78c54122408299032286838921006 b1 t1 this
  ·subst h;exact bE 0x38c5421ba4a4046250507004 t1 q
theorem Lk.al(k:Lk Z L):Al (fl sx L) (fl sy L) (Ir 0 0 L)where
 ord:=Wm L 0 0
 run:=fun e b=>by obtain ⟨m,a,rfl⟩:=(uI L 0 0 e).mp b;have l1:=oL tR (vE a);have l2:=oL tW (vE a);refine ⟨cQ.mpr a,bW _,by simp only;exact bE aAs l1,bW _,by simp only;exact bE aAs l2,fun t g=>?_⟩;simp only [iH];rw [yV tR g,yV tW g]
 max:=fun e b i j n t x c g o h l=>by
  obtain ⟨m,a,rfl⟩:=(uI L 0 0 e).mp b;have l1:=oL tR (vE a);have l2:=oL tW (vE a);have c1:=c.a1;have c3:=c.b1;simp only [iH]at *;constructor
  ·refine dJ fun q=>?_
   cases m with
   |zero=>exact absurd q (fS _)
   |succ m=>
    obtain ⟨d,hd⟩:=Ap q;have f:jR sy L (m+1)=j+d+1:=by exact bE aLp h l hd
    refine k.ahead a (by rw [hd];exact wX _) (by rw [f];exact wX _) ?_;rw [hd,f];exact c.eq d (by exact bE aLa g h hd)
  ·refine dJ fun q=>?_;obtain ⟨d,hd⟩:=dZ (show i≤jR sx L m+(gt L m).length by exact bE aEx o h);have f:jR sy L m+(gt L m).length=j+d:=by exact bE aLq h l hd
   refine k.behind (m:=m) (bT q c1) (by rw [f];exact bT (wK (by exact bE aAz q hd) _) c3) (vE a) ?_;rw [hd,f];exact c.eq d (by exact bE aAz q hd)
 off:=fun i j n p c r=>by obtain ⟨e,b,s,u,v⟩:=k.off p c.a1 c.b1 c.eq r;exact .inl ⟨e,b,s,u,v.imp id .inl⟩
end
theorem wB(p x q:aW){a b:Nat}(c:a=p.length)(d:b=p.length+x.length):mQ (p++x++q) a b=x:=by subst c;subst d;unfold mQ;simp only [bU,List.drop_left,show p.length+x.length-p.length=x.length by exact bE 0x1106a315881330101002,List.take_left]
theorem M6(o n:aW):vG o n≠.equal:=by by_cases h:o=[]<;>by_cases h':n=[]<;>simp [vG,h,h']
def Fit(L:List Sg):Prop:=∀s∈L,∀v∈s.2.1,v∉s.2.2
theorem aHu{x y:aW}(h:∀v∈x,v∉y):¬(x=y∧y≠[]):=by rintro ⟨rfl,b⟩;obtain ⟨a,l,rfl⟩:=pS b;exact h a (aR ..) (aR ..)
theorem aHl{A B a b qa qb:aW}{s:Sg}{c:Option Bool}{r:List Iw}(f:A=a++s.1++s.2.1++qa)(g:B=b++s.1++s.2.2++qb)(j:∀v∈s.2.1,v∉s.2.2)
  (k:(s.2.1≠[]∨s.2.2≠[])→c≠some false) (h0:s.2.1=[]→s.2.2=[]→wV A B r (a.length+s.1.length) (b.length+s.1.length) c) (l:(s.2.1≠[]∨s.2.2≠[])→wV A B r (a.length+s.1.length+s.2.1.length) (b.length+s.1.length+s.2.2.length) (some false)):
  wV A B (rO a.length b.length s++r) (a.length+s.1.length) (b.length+s.1.length) c:=by
 unfold rO;split
 ·rename_i q;exact h0 q.1 q.2
 ·rename_i q;have i:s.2.1≠[]∨s.2.2≠[]:=by
   by_cases e:s.2.1=[]
   ·exact .inr fun m=>q ⟨e,m⟩
   ·exact .inl e
  have n:mQ A (a.length+s.1.length) (a.length+s.1.length+s.2.1.length)=s.2.1:=by rw [f];exact wB (a++s.1) s.2.1 qa (by simp) (by simp)
  have sB:mQ B (b.length+s.1.length) (b.length+s.1.length+s.2.2.length)=s.2.2:=by rw [g];exact wB (b++s.1) s.2.2 qb (by simp) (by simp)
  have d:decide (vG s.2.1 s.2.2=.equal)=false:=decide_eq_false (M6 _ _);show wV A B ((vG s.2.1 s.2.2,_,_,_,_)::r) _ _ _;rw [Ws];rw [d,n,sB];refine ⟨rfl,rfl,by exact bE 0x2314a04808101003,?_,by exact bE 0x2314a04808101003,?_,⟨fun h=>absurd h (aHu j),fun h=>absurd h (M6 _ _)⟩,k i,l i⟩
  ·rw [f];simp;exact bE aEi
  ·rw [g];simp;exact bE aEi
theorem aE4{A B a b qa qb:aW}{s:Sg}{c:Option Bool}{r:List Iw}(d:A=a++s.1++qa)(e:B=b++s.1++qb)(f:s.1≠[]→c≠some true)(h0:s.1=[]→wV A B r (a.length+s.1.length) (b.length+s.1.length) c)(g:s.1≠[]→wV A B r (a.length+s.1.length) (b.length+s.1.length) (some true)):
  wV A B (E6 a.length b.length s++r) a.length b.length c:=by
 unfold E6;split
 ·rename_i q;have:=h0 q;rw [q]at this;exact this
 ·rename_i q;have h:mQ A a.length (a.length+s.1.length)=s.1:=by rw [d];exact wB a s.1 qa rfl rfl
  have sB:mQ B b.length (b.length+s.1.length)=s.1:=by rw [e];exact wB b s.1 qb rfl rfl
  refine (?_:wV A B ((mU.equal,_,_,_,_)::r) _ _ _);rw [Ws];rw [h,sB,show decide (mU.equal=mU.equal)=true from decide_eq_true rfl];refine ⟨rfl,rfl,by exact bE 0x2314a020002,?_,by exact bE 0x2314a020002,?_,⟨fun _=>rfl,fun _=>⟨rfl,q⟩⟩,f q,g q⟩
  ·rw [d];simp
  ·rw [e];simp
theorem ι{A B:aW}:∀(L:List Sg)(a b:aW)(c:Option Bool),Ao L→Fit L→A=a++fl sx L→B=b++fl sy L→c≠some true→(c=some false→∀s r,L=s::r→s.1=[]→s.2.1=[]∧s.2.2=[])→wV A B (Df a.length b.length L) a.length b.length c:=by
 intro G
 induction G with
 |nil=>intro a;intro b;intro c;intro _;intro _;intro d;intro f;intro _;intro _;simp only [fl,uA,bP]at d f;subst d;subst f;exact ⟨rfl,rfl⟩
 |cons s H I=>
  cases H with
  |nil=>
   intro a;intro b;intro c;intro m;intro n;intro d;intro f;intro o;intro C;obtain ⟨h,k⟩:=m;obtain ⟨g,x,y⟩:=s;simp only at h k;subst h;subst k;simp only [fl,lF,uA,bP,sx,sy]at d f;show wV A B (E6 _ _ (g,[],[])++(rO _ _ (g,[],[])++[])) _ _ _;have e:∀i j,rO i j (g,[],[])=[]:=fun i j=>by simp [rO]
   rw [e];have D:∀l,wV A B [] (a.length+g.length) (b.length+g.length) l:=fun l=>by rw [d,f];exact ⟨by simp,by simp⟩
   exact aE4 (qa:=[]) (qb:=[]) (s:=(g,[],[])) (by simpa using d) (by simpa using f) (fun _=>o) (fun _=>D _) (fun _=>D _)
  |cons t r=>
   intro a;intro b;intro c;intro m;intro n;intro d;intro f;intro o;intro C;obtain ⟨h,k,J⟩:=m;have N:Fit (t::r):=fun u O=>n u (aQ _ O);have p:A=a++s.1++s.2.1++fl sx (t::r):=by rw [d,qE];simp [sx]
   have v:B=b++s.1++s.2.2++fl sy (t::r):=by rw [f,qE];simp [sy]
   have F:=I (a++s.1++s.2.1) (b++s.1++s.2.2) (some false) J N p v (by decide) (fun _ s' Q e P=>by cases e;exact k P);have l1:(a++s.1++s.2.1).length=a.length+s.1.length+s.2.1.length:=by simp [dD]
   have l2:(b++s.1++s.2.2).length=b.length+s.1.length+s.2.2.length:=by simp [dD]
   rw [l1,l2]at F;show wV A B (E6 _ _ s++(rO _ _ s++Df (a.length+s.1.length+s.2.1.length) (b.length+s.1.length+s.2.2.length) (t::r))) _ _ _;have gc:∀c:Option Bool,c≠some false→wV A B (rO a.length b.length s++Df (a.length+s.1.length+s.2.1.length) (b.length+s.1.length+s.2.2.length) (t::r)) (a.length+s.1.length) (b.length+s.1.length) c:=fun c z=>
    aHl p v (n s (aR ..)) (fun _=>z) (fun e R=>by rcases h with q|q<;>contradiction) (fun _=>F)
   refine aE4 (qa:=s.2.1++fl sx (t::r)) (qb:=s.2.2++fl sy (t::r)) (by rw [p];simp) (by rw [v];simp) (fun _=>o) (fun e=>gc _ ?_) (fun _=>gc _ (by decide));intro z;obtain ⟨T,W⟩:=C z s (t::r) rfl e;rcases h with q|q<;>contradiction
def Θ(side:Nat):Nat→List Sg→List qF
 |_,[]=>[]
 |i,s::r=>(if s.2.1=[]∧s.2.2=[]then[]else[(i+s.1.length,i+s.1.length+s.2.1.length,side,vG s.2.1 s.2.2,s.2.2)])++Θ side (i+s.1.length+s.2.1.length) r
theorem Bu(B:aW)(side:Nat):∀l l':List Iw,eD B side (l++l')=eD B side l++eD B side l':=by
 intro f
 induction f with
 |nil=>intro _;exact rfl
 |cons g r h=>obtain ⟨a,b,c,d,e⟩:=g;intro l';refine (?_:(if a=.equal then eD B side (r++l')else (b,c,side,a,mQ B d e)::eD B side (r++l'))=(if a=.equal then eD B side r else (b,c,side,a,mQ B d e)::eD B side r)++eD B side l');rw [h l'];split<;>rfl
theorem W9{B:aW}(side:Nat):∀(L:List Sg)(i:Nat)(a:aW),B=a++fl sy L→eD B side (Df i a.length L)=Θ side i L:=by
 intro d
 induction d with
 |nil=>intro i a _;exact rfl
 |cons s r b=>
  intro i a e;have c:B=a++s.1++s.2.2++fl sy r:=by simp only [e,qE];simp [sy]
  have b:=b (i+s.1.length+s.2.1.length) (a++s.1++s.2.2) c;rw [show (a++s.1++s.2.2).length=a.length+s.1.length+s.2.2.length by simp [dD]]at b;show eD B side (E6 _ _ s++(rO _ _ s++Df (i+s.1.length+s.2.1.length) (a.length+s.1.length+s.2.2.length) r))=_++Θ side (i+s.1.length+s.2.1.length) r;rw [Bu,Bu,b];have f:eD B side (E6 i a.length s)=[]:=by
   unfold E6;split
   ·rfl
   ·simp only [En,xE,if_true]
  have g:eD B side (rO i a.length s)=if s.2.1=[]∧s.2.2=[]then[]else[(i+s.1.length,i+s.1.length+s.2.1.length,side,vG s.2.1 s.2.2,s.2.2)]:=by
   have sB:mQ B (a.length+s.1.length) (a.length+s.1.length+s.2.2.length)=s.2.2:=by rw [c];exact wB (a++s.1) s.2.2 _ (by simp) (by simp)
   unfold rO;split
   ·rfl
   ·simp only [En,xE,if_neg (M6 _ _),sB]
  rw [f,g];rfl
abbrev iP:=aW×Bool×aW
noncomputable def oJ(g:aW)(t:iP):Bool:=g.any fun s=>decide (s∈t.2.2)
def Ba(g:aW)(t:iP):aW:=if t.2.1= !oJ g t then t.1 else[]
def cT(ts:List iP)(g:aW):aW:=ts.flatMap (Ba g)
theorem tC(g:aW):cT [] g=[]:=rfl
theorem dA(g:aW)(t:iP)(r:List iP):cT (t::r) g=Ba g t++cT r g:=rfl
theorem Oy(g:aW)(l l':List iP):cT (l++l') g=cT l g++cT l' g:=List.flatMap_append
theorem gB(t:iP):oJ [] t=false:=rfl
def Er(g:aW):List iP→aW→aW→aW→List Sg
 |[],ay,x,y=>if x=[]∧y=[]then[(ay,[],[])]else[(ay,x,y),([],[],[])]
 |t::r,ay,x,y=>if t.2.1=true then (if oJ g t=true then Er g r ay (x++t.1) y else if x=[]∧y=[]then Er g r (ay++t.1) [] []else (ay,x,y)::Er g r t.1 [] [])else Er g r ay x (if oJ g t=true then y++t.1 else y)
theorem Lx{g a x y}:Er g [] a x y=if x=[]∧y=[]then[(a,[],[])]else[(a,x,y),([],[],[])]:=rfl
theorem Hh{g t r a x y}:Er g (t::r) a x y=if t.2.1=true then (if oJ g t=true then Er g r a (x++t.1) y else if x=[]∧y=[]then Er g r (a++t.1) [] []else (a,x,y)::Er g r t.1 [] [])else Er g r a x (if oJ g t=true then y++t.1 else y):=rfl
theorem Ep{g:aW}{Q:iP→Prop}{P:List iP→aW→aW→aW→List Sg→Prop}
  (d:∀a,P [] a [] [] [(a,[],[])]) (f:∀a x y,¬(x=[]∧y=[])→P [] a x y [(a,x,y),([],[],[])])
  (i:∀t r a L,Q t→t.2.1=true→oJ g t=false→P r (a++t.1) [] [] L→P (t::r) a [] [] L)
  (j:∀t r a x y L,Q t→t.2.1=true→oJ g t=false→¬(x=[]∧y=[])→P r t.1 [] [] L→P (t::r) a x y ((a,x,y)::L))
  (k:∀t r a x y L,Q t→t.2.1=true→oJ g t=true→P r a (x++t.1) y L→P (t::r) a x y L)
  (l:∀t r a x y L,Q t→t.2.1=false→oJ g t=true→P r a x (y++t.1) L→P (t::r) a x y L)
  (m:∀t r a x y L,Q t→t.2.1=false→oJ g t=false→P r a x y L→P (t::r) a x y L):
  ∀(T:List iP),(∀t∈T,Q t)→∀(a x y:aW),P T a x y (Er g T a x y):=by
 intro T
 induction T with
 |nil=>
  intro _ a x y;rw [Lx];split
  ·rename_i h;obtain ⟨rfl,rfl⟩:=h;exact d a
  ·rename_i h;exact f a x y h
 |cons t r b=>
  intro c a x y;have q:=c t aR;have b:=b fun u n=>c u (aQ _ n);rw [Hh]
  cases h:t.2.1 with
  |true=>
   rw [if_pos rfl]
   cases h':oJ g t with
   |true=>rw [if_pos rfl];exact k _ _ _ _ _ _ q h h' (b _ _ _)
   |false=>
    rw [if_neg aY];split
    ·rename_i e;obtain ⟨rfl,rfl⟩:=e;exact i _ _ _ _ q h h' (b _ _ _)
    ·rename_i e;exact j _ _ _ _ _ _ q h h' e (b _ _ _)
  |false=>
   rw [if_neg aY]
   cases h':oJ g t with
   |true=>rw [if_pos rfl];exact l _ _ _ _ _ _ q h h' (b _ _ _)
   |false=>rw [if_neg aY];exact m _ _ _ _ _ _ q h h' (b _ _ _)
theorem kS{g:aW}{t:iP}(h:t.2.1=true)(h':oJ g t=false):Ba g t=t.1:=by unfold Ba;rw [h,h'];rfl
theorem Sz{g:aW}{t:iP}(h:t.2.1=true)(h':oJ g t=true):Ba g t=[]:=by unfold Ba;rw [h,h'];rfl
theorem Mf{g:aW}{t:iP}(h:t.2.1=false)(h':oJ g t=true):Ba g t=t.1:=by unfold Ba;rw [h,h'];rfl
theorem nH{g:aW}{t:iP}(h:t.2.1=false)(h':oJ g t=false):Ba g t=[]:=by unfold Ba;rw [h,h'];rfl
theorem Ò{g:aW}(T:List iP)(a x y:aW):fl sx (Er g T a x y)=a++x++cT T []:=by
 refine Ep (Q:=fun _=>True) (P:=fun T a x y L=>fl sx L=a++x++cT T []) (fun a=>by simp [fl,sx,tC]) (fun a x y _=>by simp [fl,sx,tC]) (fun t r a L _ h _ b=>?_) (fun t r a x y L _ h _ _ b=>?_) (fun t r a x y L _ h _ b=>?_) (fun t r a x y L _ h _ b=>?_) (fun t r a x y L _ h _ b=>?_) T (fun _ _=>trivial) a x y
 ·rw [b,dA,kS h (gB t)];simp
 ·rw [qE,b,dA,kS h (gB t)];simp [sx]
 ·rw [b,dA,kS h (gB t)];simp
 ·rw [b,dA,nH h (gB t)];rfl
 ·rw [b,dA,nH h (gB t)];rfl
theorem Ñ{g:aW}(T:List iP)(a x y:aW):fl sy (Er g T a x y)=a++y++cT T g:=by
 refine Ep (Q:=fun _=>True) (P:=fun T a x y L=>fl sy L=a++y++cT T g) (fun a=>by simp [fl,sy,tC]) (fun a x y _=>by simp [fl,sy,tC]) (fun t r a L _ h h' b=>?_) (fun t r a x y L _ h h' _ b=>?_) (fun t r a x y L _ h h' b=>?_) (fun t r a x y L _ h h' b=>?_) (fun t r a x y L _ h h' b=>?_) T (fun _ _=>trivial) a x y
 ·rw [b,dA,kS h h'];simp
 ·rw [qE,b,dA,kS h h'];simp [sy]
 ·rw [b,dA,Sz h h'];rfl
 ·rw [b,dA,Mf h h'];simp
 ·rw [b,dA,nH h h'];rfl
theorem η{g:aW}(T:List iP)(a x y:aW):(Er g T a x y).length≤T.length+2:=by refine Ep (Q:=fun _=>True) (P:=fun T _ _ _ L=>L.length≤T.length+2) (fun a=>by simp) (fun a x y _=>by simp) (fun t r a L _ _ _ b=>?_) (fun t r a x y L _ _ _ _ b=>?_) (fun t r a x y L _ _ _ b=>?_) (fun t r a x y L _ _ _ b=>?_) (fun t r a x y L _ _ _ b=>?_) T (fun _ _=>trivial) a x y<;>simp only [eJ]<;>omega
theorem Ô{g:aW}(T:List iP)(d:∀t∈T,t.1≠[])(a x y:aW):Ao (Er g T a x y):=by
 refine (Ep (g:=g) (Q:=fun t=>t.1≠[]) (P:=fun _ a x y L=>Ao L∧∃s q,L=s::q∧(a≠[]→s.1≠[])) (fun a=>⟨⟨rfl,rfl⟩,_,_,rfl,id⟩) (fun a x y h=>⟨⟨?_,fun _=>⟨rfl,rfl⟩,rfl,rfl⟩,_,_,rfl,id⟩) (fun t r a L _ _ _ b=>?_) (fun t r a x y L f _ _ h b=>?_) (fun t r a x y L _ _ _ b=>b) (fun t r a x y L _ _ _ b=>b) (fun t r a x y L _ _ _ b=>b) T d a x y).1
 ·by_cases q:x=[]
  ·exact .inr fun z=>h ⟨q,z⟩
  ·exact .inl q
 ·obtain ⟨i,s,q,e,c⟩:=b;exact ⟨i,s,q,e,fun h=>c (by simp [h])⟩
 ·obtain ⟨i,s,q,e,c⟩:=b;subst e;refine ⟨⟨?_,fun z=>absurd z (c f),i⟩,_,_,rfl,id⟩;by_cases q:x=[]
  ·exact .inr fun z=>h ⟨q,z⟩
  ·exact .inl q
def Qu(n:Nat)(v:Int):Prop:=n<100∧(v%200=2*n∨v%200=2*n+1)
theorem Qu.uniq{n m:Nat}{v:Int}(h:Qu n v)(h':Qu m v):n=m:=by unfold Qu at h h';exact bE 0x2030224203022420302242030224515840c6dd078543a30af0a874612b9c3858dba0f0a834615e15068c257387012 h h'
inductive Mid(Z:Int→Prop)(n:Nat):aW→Prop
 |nil:Mid Z n []
 |one (f:Int) (z:Z f):Mid Z n [f]
 |two (f:Int) (m:Nat) (z:Z f) (o:Qu m f) (h:m<n):Mid Z n [f,f]
inductive Qs(Z:Int→Prop)(n:Nat):iP→Prop
 |firm (f:Int) (z:Z f) (o:Qu n f):Qs Z n ([f,f],true,[])
 |old (v:Int) (i7:aW) (z:¬Z v) (o:Qu n v):Qs Z n ([v],true,i7)
 |new (v v':Int) (mid i7:aW) (z:¬Z v) (z':¬Z v') (o:Qu n v) (o':Qu n v') (ne:v≠v') (m:Mid Z n mid):Qs Z n (v::(mid++[v']),false,i7)
def lC(Z:Int→Prop):Nat→List iP→Prop
 |_,[]=>True
 |n,t::r=>Qs Z n t∧lC Z (n+1) r
section
variable{Z:Int→Prop}{g:aW}
theorem Qs.pos{n:Nat}{t:iP}(h:Qs Z n t):t.1≠[]:=by cases h<;>simp
theorem lC.mem:∀{T:List iP}{n:Nat},lC Z n T→∀t∈T,∃m,n≤m∧Qs Z m t:=by
 intro T
 induction T with
 |nil=>intro n _ t a;cases a
 |cons u r b=>
  intro n h t a;rcases aU.mp a with rfl|a
  ·exact ⟨n,bG _,h.1⟩
  ·obtain ⟨m,c,d⟩:=b h.2 t a;exact ⟨m,Nat.le_of_succ_le c,d⟩
theorem lC.pos{T:List iP}{n:Nat}(h:lC Z n T):∀t∈T,t.1≠[]:=fun t a=>let ⟨_,_,k⟩:=h.mem t a;k.pos
theorem Mid.z{n:Nat}{mid:aW}(h:Mid Z n mid){v:Int}(a:v∈mid):Z v:=by
 cases h with
 |nil=>cases a
 |one f z=>rw [aM]at a;exact a▸z
 |two f m z o q=>simp only [aU,kO,or_false,or_self]at a;exact a▸z
theorem Qs.own{n:Nat}{t:iP}(h:Qs Z n t){v:Int}(a:v∈t.1)(b:¬Z v∨t.2.1=true):Qu n v:=by
 cases h with
 |firm f z o=>simp only [aU,kO,or_false,or_self]at a;exact a▸o
 |old w c z o=>rw [aM]at a;exact a▸o
 |new w e mid c z i o d ne m=>
  simp only [aU,dC,kO,or_false]at a;rcases a with a|a|a
  ·exact a▸o
  ·exact absurd (m.z a) (b.resolve_right (by simp))
  ·exact a▸d
theorem pG{l l':aW}{i:Nat}(h:i<l.length):(l++l').getD i 0=l.getD i 0:=by rw [aT,yB h,←aT]
theorem pF{l l':aW}(i:Nat):(l++l').getD (l.length+i) 0=l'.getD i 0:=by rw [aT,xB (cC _ _),rS,←aT]
theorem rC{l:aW}{i:Nat}(h:i<l.length):l.getD i 0∈l:=by rw [aT,bK h];exact mB h
theorem It{l l':aW}{i:Nat}(h:i<(l++l').length):(i<l.length∧(l++l').getD i 0=l.getD i 0)∨∃k,i=l.length+k∧k<l'.length∧(l++l').getD i 0=l'.getD k 0:=by
 by_cases q:i<l.length
 ·exact .inl ⟨q,pG q⟩
 ·obtain ⟨k,rfl⟩:=dZ (dJ q);rw [aS]at h;exact .inr ⟨k,rfl,by exact bE 0xc62a1054810101003 h,pF k⟩
theorem Wn.app{l l':aW}(h:Wn Z l)(h':Wn Z l')(d:∀v∈l,v∉l'):Wn Z (l++l'):=fun i i' hi f e=>by
 rcases It hi with ⟨q,a⟩|⟨k,rfl,q,a⟩<;>rcases It f with ⟨b,c⟩|⟨j,rfl,b,c⟩<;>rw [a,c]at e<;>rw [a]
 ·exact h i i' q b e
 ·exact absurd (e▸rC b) (d _ (rC q))
 ·exact absurd (e▸rC q) (d _ (rC b))
 ·exact (h' k j q b e).imp (congrArg _) fun z=>⟨z.1,by omega⟩
theorem NZ.app{l l':aW}(h:NZ Z l)(h':NZ Z l')(d:∀v∈l,v∈l'→Z v):NZ Z (l++l'):=fun i i' hi f e z=>by
 rcases It hi with ⟨q,a⟩|⟨k,rfl,q,a⟩<;>rcases It f with ⟨b,c⟩|⟨j,rfl,b,c⟩<;>rw [a,c]at e<;>rw [a]at z
 ·exact h i i' q b e z
 ·exact absurd (d _ (rC q) (e▸rC b)) z
 ·exact absurd (d _ (rC b) (e▸rC q)) (e▸z)
 ·rw [h' k j q b e z]
theorem NZ.one(v:Int):NZ Z [v]:=fun i i' hi a _ _=>by simp at hi a;exact bE 0x246315840b30566002 hi a
theorem NZ.nil:NZ Z []:=fun i i' hi=>absurd hi (fS _)
theorem NZ.all{l:aW}(h:∀v∈l,Z v):NZ Z l:=fun i i' hi _ _ z=>absurd (h _ (rC hi)) z
theorem Qs.nz{n:Nat}{t:iP}(h:Qs Z n t):NZ Z t.1:=by
 cases h with
 |firm f z o=>exact .all fun v a=>by simp only [aU,kO,or_false,or_self]at a;exact a▸z
 |old w b z o=>exact .one w
 |new w c mid b z e o i ne m=>
  refine NZ.app (l:=[w]) (.one w) (.app (.all fun v a=>m.z a) (.one c) fun v a _=>m.z a) fun v a d=>?_;rw [aM]at a;rcases dC.mp d with q|q
  ·exact m.z q
  ·exact absurd (a.symm.trans (aM.mp q)) ne
theorem Ë{T:List iP}{v:Int}(h:v∈cT T g):∃t∈T,v∈t.1:=by
 obtain ⟨t,b,a⟩:=aFl.mp h;unfold Ba at a;split at a
 ·exact ⟨t,b,a⟩
 ·cases a
theorem Ow{T:List iP}{n:Nat}(h:lC Z n T){v:Int}(a:v∈cT T g)(b:¬Z v):∃m,n≤m∧Qu m v:=by obtain ⟨t,c,a⟩:=Ë a;obtain ⟨m,d,k⟩:=h.mem t c;exact ⟨m,d,k.own a (.inl b)⟩
theorem lC.nz:∀{T:List iP}{n:Nat},lC Z n T→NZ Z (cT T g):=by
 intro T
 induction T with
 |nil=>intro n _;exact .nil
 |cons t r a=>
  intro n h;rw [dA];unfold Ba;split
  ·refine NZ.app h.1.nz (a h.2) fun v c d=>fL fun b=>?_;obtain ⟨m,e,o⟩:=Ow h.2 d b;have:=(h.1.own c (.inl b)).uniq o;exact bE aAk e this
  ·exact a h.2
theorem ŏ{T:List iP}{n:Nat}(h:lC Z n T){v:Int}(a:v∈cT T []):∃m,n≤m∧Qu m v:=by
 obtain ⟨t,b,a⟩:=aFl.mp a;obtain ⟨m,c,k⟩:=h.mem t b
 cases q:t.2.1 with
 |true=>rw [kS q (gB t)]at a;exact ⟨m,c,k.own a (.inr q)⟩
 |false=>rw [nH q (gB t)]at a;cases a
theorem lC.wn:∀{T:List iP}{n:Nat},lC Z n T→Wn Z (cT T []):=by
 intro T
 induction T with
 |nil=>intro n _ i i' hi;exact absurd hi (fS _)
 |cons t r b=>
  intro n h;rw [dA]
  cases q:t.2.1 with
  |false=>rw [nH q (gB t)];exact b h.2
  |true=>
   rw [kS q (gB t)];refine Wn.app ?_ (b h.2) fun v c d=>?_
   ·obtain ⟨k,_⟩:=h
    cases k with
    |firm f z o=>
      intro i i' hi a _;have:([f,f]:aW).getD i 0=f:=by
       have:i=0∨i=1:=by simp at hi;exact bE 0x5690c5ab3816602b46001 hi
       rcases this with rfl|rfl<;>rfl
      simp at hi a;by_cases e:i=i'
      ·exact .inl e
      ·exact .inr ⟨show Z (([f,f]:aW).getD i 0) by rw [this];exact z,by exact bE 0x51a258a8c618b5683840b41c017496102b460ab46002 hi a e⟩
    |old w l z o=>exact fun i i' hi a _=>.inl (by simp at hi a;exact bE 0x246315840b30566002 hi a)
    |new=>cases q
   ·obtain ⟨m,j,o⟩:=ŏ h.2 d;have:=(h.1.own c (.inr q)).uniq o;exact bE aAk j this
theorem aA6{g:aW}{t:iP}(h:t.1.length≤4):(Ba g t).length≤4:=by
 unfold Ba;split
 ·exact h
 ·exact bW _
theorem zT{g:aW}:∀{a:List iP},(∀t∈a,t.1.length≤4)→(cT a g).length≤4*a.length:=by
 intro a
 induction a with
 |nil=>intro _;exact bG _
 |cons t r b=>intro h;have:=aA6 (g:=g) (h t aR);have:=b fun u c=>h u (aQ _ c);rw [dA,aS,eJ];exact bE 0x718a60838b864040980b860a786003 ‹_› this
end
section
variable{Z:Int→Prop}{g:aW}
structure Gn(Z:Int→Prop)(n:Nat)(y:aW):Prop where
 gy:Gy Z y
 du:∀u,u+1<y.length→Z (y.getD u 0)→Z (y.getD (u+1) 0)→∃m,m<n∧Qu m (y.getD u 0)
theorem Gn.nil{n:Nat}:Gn Z n []:=⟨⟨fun h=>absurd rfl h,fun h=>absurd rfl h,fun u a=>absurd a (fS _)⟩,fun u a=>absurd a (fS _)⟩
theorem Gn.mono{n m:Nat}{y:aW}(h:Gn Z n y)(q:n≤m):Gn Z m y:=⟨h.gy,fun u a b c=>let ⟨k,d,o⟩:=h.du u a b c;⟨k,bT d q,o⟩⟩
theorem Gn.app{n:Nat}{y c:aW}(h:Gn Z n y)(h':Gn Z n c):Gn Z n (y++c):=by
 by_cases e:y=[]
 ·subst e;exact h'
 by_cases i:c=[]
 ·subst i;rw [bP];exact h
 have l1:=cQ.mpr e;have l2:=cQ.mpr i;have two:∀u,u+1<(y++c).length→Z ((y++c).getD u 0)→Z ((y++c).getD (u+1) 0)→(u+2<y.length∧Z (y.getD u 0)∧Z (y.getD (u+1) 0))∨∃k,u=y.length+k∧k+1<c.length∧Z (c.getD k 0)∧Z (c.getD (k+1) 0):=fun u f z d=>by
  rcases It (jT f)with ⟨q,a⟩|⟨k,rfl,q,a⟩
  ·rw [a]at z;have j:=h.gy.more q z;rw [pG j]at d;exact .inl ⟨h.gy.more j d,z,d⟩
  ·rw [a]at z;rw [dD,pF]at d;exact .inr ⟨k,rfl,h'.gy.more q z,z,d⟩
 refine ⟨⟨fun _=>by rw [pG l1];exact h.gy.hd e,fun _=>?_,fun u f z d=>?_⟩,fun u f z d=>?_⟩
 ·rw [show (y++c).length-1=y.length+(c.length-1) by rw [aS];exact bE 0x20a148614c51ca51462b4004150cd331c5331d01002 l2,pF];exact h'.gy.lst i
 ·rcases two u f z d with ⟨q,a,b⟩|⟨k,rfl,q,a,b⟩
  ·rw [pG q,pG (jT q),pG (jT (jT q))];exact h.gy.dd u (jT q) a b
  ·rw [dD,dD,pF,pF,pF];exact h'.gy.dd k q a b
 ·rcases two u f z d with ⟨q,a,b⟩|⟨k,rfl,q,a,b⟩
  ·rw [pG (jT (jT q))];exact h.du u (jT q) a b
  ·rw [pF];exact h'.du k q a b
theorem Gn.new{n:Nat}{v e:Int}{mid:aW}(z:¬Z v)(d:¬Z e)(m:Mid Z n mid):Gn Z n (v::(mid++[e])):=by
 cases m with
 |nil=>exact ⟨⟨fun _=>z,fun _=>d,fun u c a _=>by
   have:u=0:=by simp at c;exact bE 0x1a315980ad1907001 c
   subst this;exact absurd a z⟩,fun u c a _=>by
   have:u=0:=by simp at c;exact bE 0x1a315980ad1907001 c
   subst this;exact absurd a z⟩
 |one f h=>exact ⟨⟨fun _=>z,fun _=>d,fun u c a b=>by
   have:u=0∨u=1:=by simp at c;exact bE aEt c
   rcases this with rfl|rfl
   ·exact absurd a z
   ·exact absurd b d⟩,fun u c a b=>by
   have:u=0∨u=1:=by simp at c;exact bE aEt c
   rcases this with rfl|rfl
   ·exact absurd a z
   ·exact absurd b d⟩
 |two f k h o q=>exact ⟨⟨fun _=>z,fun _=>d,fun u c a b=>by
   have:u=0∨u=1∨u=2:=by simp at c;exact bE aLc c
   rcases this with rfl|rfl|rfl
   ·exact absurd a z
   ·exact ⟨rfl,d⟩
   ·exact absurd b d⟩,fun u c a b=>by
   have:u=0∨u=1∨u=2:=by simp at c;exact bE aLc c
   rcases this with rfl|rfl|rfl
   ·exact absurd a z
   ·exact ⟨k,q,o⟩
   ·exact absurd b d⟩
theorem Au{t:iP}(h:oJ g t=true):t.2.2≠[]:=fun e=>by obtain ⟨s,_,a⟩:=zN.mp h;rw [e]at a;cases a
theorem Qs.rm{n:Nat}{t:iP}(h:Qs Z n t)(q:t.2.1=true)(b:oJ g t=true):∀v∈t.1,¬Z v:=fun v a=>by
 cases h with
 |firm f z o=>exact absurd rfl (Au b)
 |old w c z o=>rw [aM]at a;exact a▸z
 |new=>cases q
theorem Dup.app{v:Int}{l l':aW}(h:Dup v l∨Dup v l'):Dup v (l++l'):=by
 rcases h with ⟨t,b,q,a,e,c⟩|⟨t,b,q,a,e,c⟩
 ·exact ⟨t,b,q,by rw [aS];exact bE 0x318a90208141003 a,by rw [pG (oT q a)];exact e,by rw [pG a];exact c⟩
 ·exact ⟨l.length+t,l.length+b,by exact bE 0xc62a4044800941003 q,by rw [aS];exact bE 0xc62a4044800941003 a,by rw [pF];exact e,by rw [pF];exact c⟩
theorem Qs.dup{n:Nat}{t:iP}(h:Qs Z n t)(q:t.2.1=true):∀v∈t.1,Z v→Dup v t.1:=fun v a z=>by
 cases h with
 |firm f c o=>simp only [aU,kO,or_false,or_self]at a;exact ⟨0,1,by decide,by simp,a.symm,a.symm⟩
 |old w d b o=>rw [aM]at a;exact absurd (a▸z) b
 |new=>cases q
theorem lC.part:∀{T:List iP}{n:Nat},lC Z n T→∀t∈T,∀b∈T,t.2.1=true→b.2.1=false→∀v,¬Z v→v∈t.1→v∉b.1:=by
 intro T
 induction T with
 |nil=>intro n _ t a;cases a
 |cons u r p=>
  intro n h t a b d q j v f c i;have l:∀t∈r,v∈t.1→v∈u.1→False:=fun t a c s=>by obtain ⟨m,x,k⟩:=h.2.mem t a;have:=(h.1.own s (.inl f)).uniq (k.own c (.inl f));exact bE aAk x this
  rcases aU.mp a with e|a<;>rcases aU.mp d with o|d
  ·rw [e,←o,j]at q;cases q
  ·exact l b d i (e▸c)
  ·exact l t a c (o▸i)
  ·exact p h.2 t a b d q j v f c i
structure PcS(g:aW)(T:List iP)(ay x y:aW)(s:Sg):Prop where
 c:∀v∈s.1,v∈ay∨∃t∈T,t.2.1=true∧v∈t.1
 x:∀v∈s.2.1,v∈x∨∃t∈T,t.2.1=true∧oJ g t=true∧v∈t.1
 y:∀v∈s.2.2,v∈y∨∃t∈T,t.2.1=false∧v∈t.1
theorem Gk(T:List iP)(d x y:aW):∀s∈Er g T d x y,PcS g T d x y s:=by
 refine Ep (g:=g) (Q:=fun _=>True) (P:=fun T d x y L=>∀s∈L,PcS g T d x y s) (fun d s c=>?_) (fun d x y _ s c=>?_) (fun t r d L _ h _ f s c=>?_) (fun t r d x y L _ h _ _ f s c=>?_) (fun t r d x y L _ h h' f s c=>?_) (fun t r d x y L _ h _ f s c=>?_) (fun t r d x y L _ h _ f s c=>?_) T (fun _ _=>trivial) d x y
 ·rw [aM.mp c];exact ⟨fun v a=>.inl a,fun v a=>.inl a,fun v a=>.inl a⟩
 ·rcases aU.mp c with e|c
  ·rw [e];exact ⟨fun v a=>.inl a,fun v a=>.inl a,fun v a=>.inl a⟩
  ·rw [aM.mp c];exact ⟨fun v a=>(by cases a),fun v a=>(by cases a),fun v a=>(by cases a)⟩
 all_goals try have i:=f s c
 ·exact ⟨fun v a=>(i.c v a).elim (fun z=>(dC.mp z).imp id fun z=>⟨t,aR,h,z⟩) fun ⟨u,b,z⟩=>.inr ⟨u,aQ _ b,z⟩,
   fun v a=>(i.x v a).imp id fun ⟨u,b,z⟩=>⟨u,aQ _ b,z⟩,fun v a=>(i.y v a).imp id fun ⟨u,b,z⟩=>⟨u,aQ _ b,z⟩⟩
 ·rcases aU.mp c with e|c
  ·rw [e];exact ⟨fun v a=>.inl a,fun v a=>.inl a,fun v a=>.inl a⟩
  ·have i:=f s c;exact ⟨fun v a=>.inr ((i.c v a).elim (fun z=>⟨t,aR,h,z⟩) fun ⟨u,b,z⟩=>⟨u,aQ _ b,z⟩),
    fun v a=>(i.x v a).elim (fun z=>(by cases z)) fun ⟨u,b,z⟩=>.inr ⟨u,aQ _ b,z⟩,fun v a=>(i.y v a).elim (fun z=>(by cases z)) fun ⟨u,b,z⟩=>.inr ⟨u,aQ _ b,z⟩⟩
 ·exact ⟨fun v a=>(i.c v a).imp id fun ⟨u,b,z⟩=>⟨u,aQ _ b,z⟩,
   fun v a=>(i.x v a).elim (fun z=>(dC.mp z).imp id fun z=>⟨t,aR,h,h',z⟩) fun ⟨u,b,z⟩=>.inr ⟨u,aQ _ b,z⟩,fun v a=>(i.y v a).imp id fun ⟨u,b,z⟩=>⟨u,aQ _ b,z⟩⟩
 ·exact ⟨fun v a=>(i.c v a).imp id fun ⟨u,b,z⟩=>⟨u,aQ _ b,z⟩,
   fun v a=>(i.x v a).imp id fun ⟨u,b,z⟩=>⟨u,aQ _ b,z⟩,fun v a=>(i.y v a).elim (fun z=>(dC.mp z).imp id fun z=>⟨t,aR,h,z⟩) fun ⟨u,b,z⟩=>.inr ⟨u,aQ _ b,z⟩⟩
 ·exact ⟨fun v a=>(i.c v a).imp id fun ⟨u,b,z⟩=>⟨u,aQ _ b,z⟩,
   fun v a=>(i.x v a).imp id fun ⟨u,b,z⟩=>⟨u,aQ _ b,z⟩,fun v a=>(i.y v a).imp id fun ⟨u,b,z⟩=>⟨u,aQ _ b,z⟩⟩
theorem Ó:∀(T:List iP)(n:Nat)(d x y:aW),lC Z n T→(∀v∈d,Z v→Dup v d)→Gn Z n y→∀s∈Er g T d x y,(∀v∈s.1,Z v→Dup v s.1)∧Gy Z s.2.2:=by
 intro T
 induction T with
 |nil=>
  intro n d x y _ b f s a;rw [Lx]at a;split at a
  ·rw [aM.mp a];exact ⟨b,(Gn.nil (n:=n)).gy⟩
  ·rcases aU.mp a with e|a
   ·rw [e];exact ⟨b,f.gy⟩
   ·rw [aM.mp a];exact ⟨fun v j=>(by cases j),(Gn.nil (n:=n)).gy⟩
 |cons t r i=>
  intro n d x y c b f s a;rw [Hh]at a;have l:=f.mono (fI n)
  cases h:t.2.1 with
  |true=>
   rw [h,if_pos rfl]at a;have p:=c.1.dup h;split at a
   ·exact i _ _ _ _ c.2 b l s a
   ·split at a
    ·exact i _ _ _ _ c.2 (fun v j z=>.app ((dC.mp j).imp (fun q=>b v q z) fun q=>p v q z)) .nil s a
    ·rcases aU.mp a with e|a
     ·rw [e];exact ⟨b,f.gy⟩
     ·exact i _ _ _ _ c.2 p .nil s a
  |false=>
   rw [h,if_neg aY]at a;refine i _ _ _ _ c.2 b ?_ s a;split
   ·refine l.app ?_;obtain ⟨k,_⟩:=c
    cases k with
    |firm=>cases h
    |old=>cases h
    |new v A mid B z u o C ne m=>exact (Gn.new z u m).mono (fI n)
   ·exact l
def Bhd(Z:Int→Prop)(s s':Sg):Prop:=∀u,u+1<s.2.2.length→Z (s.2.2.getD u 0)→Z (s.2.2.getD (u+1) 0)→s.2.2.getD u 0∉s'.1
theorem lC.old_own{T:List iP}{n:Nat}(h:lC Z n T){t:iP}(a:t∈T)(q:t.2.1=true){v:Int}(b:v∈t.1):∃m,n≤m∧Qu m v:=by obtain ⟨m,c,k⟩:=h.mem t a;exact ⟨m,c,k.own b (.inr q)⟩
theorem θ:∀(T:List iP)(n:Nat)(f x y:aW),lC Z n T→Gn Z n y→(Er g T f x y).Pairwise (Bhd Z):=by
 intro T
 induction T with
 |nil=>
  intro n f x y _ i;rw [Lx];split
  ·exact nX _ _
  ·exact eM.mpr ⟨fun s j u _ _ _ d=>(by rw [aM.mp j]at d;cases d),nX _ _⟩
 |cons t r e=>
  intro n f x y c i;rw [Hh];have l:=i.mono (fI n)
  cases h:t.2.1 with
  |true=>
   rw [if_pos rfl];split
   ·exact e _ _ _ _ c.2 l
   ·split
    ·exact e _ _ _ _ c.2 .nil
    ·refine eM.mpr ⟨fun s j u A a b d=>?_,e _ _ _ _ c.2 .nil⟩;obtain ⟨m,p,o⟩:=i.du u A a b;rcases (Gk r _ _ _ s j).c _ d with q|⟨w,hw,B,C⟩
     ·have:=(c.1.own q (.inr h)).uniq o;exact bE 0x28c64b00541002 p this
     ·obtain ⟨H,D,F⟩:=c.2.old_own hw B C;have:=o.uniq F;exact bE 0xe18c9620244838541003 p D this
  |false=>
   rw [if_neg aY];refine e _ _ _ _ c.2 ?_;split
   ·refine l.app ?_;obtain ⟨k,_⟩:=c
    cases k with
    |firm=>cases h
    |old=>cases h
    |new v I mid J z G o L ne m=>exact (Gn.new z G m).mono (fI n)
   ·exact l
theorem aJx{R:Sg→Sg→Prop}:∀{L:List Sg},L.Pairwise R→∀m m',m<m'→m'<L.length→R (L.getD m F1) (L.getD m' F1):=fun {L} h m m' q a=>by have:=Q9.mp h m m' (oT q a) a q;rw [aT,aT,bK (oT q a),bK a];exact this
theorem lC.lk{T:List iP}(h:lC Z 0 T):Lk Z (Er g T [] [] [])where
 w:=by rw [Ò];exact h.wn
 n:=by rw [Ñ];exact h.nz
 gp:=Ô T h.pos _ _ _
 xz:=fun s e v d=>by obtain ⟨t,i,q,f,d⟩:=((Gk T _ _ _ s e).x v d).resolve_left (fun z=>by cases z);obtain ⟨m,_,k⟩:=h.mem t i;exact k.rm q f v d
 c:=fun s e s' o v d j=>by obtain ⟨t,i,q,f,d⟩:=((Gk T _ _ _ s e).x v d).resolve_left (fun z=>by cases z);obtain ⟨r,x,p,j⟩:=((Gk T _ _ _ s' o).y v j).resolve_left (fun z=>by cases z);obtain ⟨m,_,k⟩:=h.mem t i;exact h.part t i r x q p v (k.rm q f v d) d j
 gy:=fun s e=>(Ó T 0 _ _ _ h (fun v d=>by cases d) .nil s e).2
 du:=fun s e=>(Ó T 0 _ _ _ h (fun v d=>by cases d) .nil s e).1
 pw:=fun m m' u q y a b l=>by have f:m'<(Er g T [] [] []).length:=vE (List.ne_nil_of_mem l);exact aJx (θ T 0 _ _ _ h .nil) m m' q f u y a b l
end
noncomputable def Z9(a b:Nat):mU:=if a=0 then .insert else if b=0 then .delete else .replace
def pO(g:aW):List iP→Nat→Nat→List mU
 |[],_,_=>[]
 |t::r,a,b=>if oJ g t=true then (if t.2.1=true then pO g r (a+1) b else pO g r a (b+1))else if t.2.1=true∧0<a+b then Z9 a b::pO g r 0 0 else pO g r a b
theorem lI{g t r a b}:pO g (t::r) a b=if oJ g t=true then (if t.2.1=true then pO g r (a+1) b else pO g r a (b+1))else if t.2.1=true∧0<a+b then Z9 a b::pO g r 0 0 else pO g r a b:=rfl
def Kc:iP:=([],true,[])
def iD(st:List iP)(g:aW):List mU:=pO g (st++[Kc]) 0 0
noncomputable def isC:kQ→Bool
 |.i _=>false
 |.c _ _ _=>true
def lY(st:List iP)(g:aW)(s:Int):List kQ:=if (iD st g=[]∨iD st [s]=[])∨cT st g=cT st [s]then (cT st (g++[s])).map .i else[.c (cT st []) (cT st g) (cT st [s])]
def uS(st:List iP)(g:aW)(s:Int):List jM:=if iD st g=[]∧iD st [s]=[]then[]else[(cT st [],iD st g,iD st [s])]
def E7(g:aW)(s:Int):List iP→List iP→List jM→List kQ→List jM×List kQ
 |[],_,t,m=>(t,m)
 |x::r,st,t,m=>if x.2.1=true∧oJ (g++[s]) x=false then E7 g s r [] (t++uS st g s) (m++(lY st g s++x.1.map .i))else E7 g s r (st++[x]) t m
theorem uQ{g s x r st t m}:E7 g s (x::r) st t m=if x.2.1=true∧oJ (g++[s]) x=false then E7 g s r [] (t++uS st g s) (m++(lY st g s++x.1.map .i))else E7 g s r (st++[x]) t m:=rfl
def Ag(ts:List iP)(g:aW)(s:Int):List jM×List kQ:=E7 g s (ts++[Kc]) [] [] []
noncomputable def Fm(sc:aW):aW:=sc.take 30++[6,0,7,12,0,29,61,0,10]
noncomputable def nmb(L:aW)(n:Nat):Int:=L.getD n 0
def V6(L:aW)(n:Nat):Int:=(nmb L n).fmod 16
def lef(L:aW)(n:Nat):Int:=(nmb L n).fdiv 16
def Aw(L:aW)(n:Nat):Int:=200*nmb L n+2*n
def yT(L:aW):nM:=(kN L.length).filter fun n=>decide (V6 L n<6)
def Ga(L:aW)(n:Nat):aW:=(((yT L).filter fun m=>decide (m<n)).map (Aw L)).drop (((yT L).filter fun m=>decide (m<n)).map (Aw L)).length.pred
def Ng(L:aW)(n:Nat):aW:=(((yT L).filter fun m=>decide (n<m)).map (Aw L)).take 1
noncomputable def C4(d:Int):aW:=if d<6 then[]else[(d-6).fmod 5]
def Zr(L:aW)(n:Nat):aW:=C4 (V6 L n)++(if 6≤V6 L n∧(lef L n).fmod 4=3 then[(V6 L n-5+((lef L n).fdiv 4).fmod 4).fmod 5]else[])
def Pa(L:aW)(n:Nat):aW:=if (lef L n).fmod 3=0 then Ng L n else if (lef L n).fmod 3=1 then Ga L n++Ga L n else[]
def Fz(L:aW)(n:Nat):aW:=if V6 L n<11 then (if V6 L n<6 then[Aw L n,Aw L n]else[Aw L n])else Aw L n::(Pa L n++[Aw L n+1])
def Lm(L:aW)(n:Nat):iP:=(Fz L n,decide (V6 L n<11),Zr L n)
def iF(sc:aW):List iP:=(kN (Fm sc).length).map (Lm (Fm sc))
theorem Ex(a:aW):(Fm a).length≤39:=by unfold Fm;rw [aS,tZ];show min 30 a.length+9≤39;exact bE 0x2cc629ff0c8c9c13383db301
theorem P2(L:aW):(yT L).length≤L.length:=bR (B8 _ _) (qO gY)
theorem Iv(L:aW)(n:Nat):(Ga L n).length≤1:=by unfold Ga;rw [nZ];generalize Ze _=k;show k-(k-1)≤1;exact bE 0x3860d18c52704cc00ccc7001
theorem Qm(L:aW)(n:Nat):(Ng L n).length≤1:=List.length_take_le _ _
theorem O9(L:aW)(n:Nat):(Pa L n).length≤2:=by
 have:=Iv L n;have:=Qm L n;unfold Pa;split
 ·exact bE 0x18c53a30127001 this
 ·split
  ·rw [aS];exact bE 0x12514e8c800127001 ‹_›
  ·exact bW _
theorem Z8(L:aW)(n:Nat):(Fz L n).length≤4:=by
 have:=O9 L n;unfold Fz;split
 ·split
  ·show 2≤4;decide
  ·show 1≤4;decide
 ·rw [eJ,aS,eV];exact bE 0x318a78641d0702746001 this
def F6(side i:Nat)(x y:aW):List qF:=if x=[]∧y=[]then[]else[(i,i+x.length,side,vG x y,y)]
def Ax(g:aW)(side:Nat):List iP→Nat→aW→aW→List qF
 |[],i,x,y=>F6 side i x y
 |t::r,i,x,y=>if t.2.1=true then (if oJ g t=true then Ax g side r i (x++t.1) y else F6 side i x y++Ax g side r (i+x.length+t.1.length) [] [])else Ax g side r i x (if oJ g t=true then y++t.1 else y)
theorem Ξ{g side i x y}:Ax g side [] i x y=F6 side i x y:=rfl
theorem oV{g side t r i x y}:Ax g side (t::r) i x y=if t.2.1=true then (if oJ g t=true then Ax g side r i (x++t.1) y else F6 side i x y++Ax g side r (i+x.length+t.1.length) [] [])else Ax g side r i x (if oJ g t=true then y++t.1 else y):=rfl
section
variable{g:aW}{side:Nat}
theorem Cf{Q:iP→Prop}{P:List iP→Nat→aW→aW→List qF→Prop}
  (nil:∀i x y,P [] i x y (F6 side i x y))
  (c:∀t r i x y R,Q t→t.2.1=true→oJ g t=false→P r (i+x.length+t.1.length) [] [] R→P (t::r) i x y (F6 side i x y++R))
  (d:∀t r i x y R,Q t→t.2.1=true→oJ g t=true→P r i (x++t.1) y R→P (t::r) i x y R)
  (e:∀t r i x y R,Q t→t.2.1=false→oJ g t=true→P r i x (y++t.1) R→P (t::r) i x y R)
  (f:∀t r i x y R,Q t→t.2.1=false→oJ g t=false→P r i x y R→P (t::r) i x y R):
  ∀(T:List iP),(∀t∈T,Q t)→∀(i:Nat)(x y:aW),P T i x y (Ax g side T i x y):=by
 intro T
 induction T with
 |nil=>intro _ i x y;exact nil i x y
 |cons t r a=>
  intro b i x y;have q:=b t aR;have a:=a fun u j=>b u (aQ _ j);rw [oV]
  cases h:t.2.1 with
  |true=>
   rw [if_pos rfl]
   cases h':oJ g t with
   |true=>rw [if_pos rfl];exact d _ _ _ _ _ _ q h h' (a _ _ _)
   |false=>rw [if_neg aY];exact c _ _ _ _ _ _ q h h' (a _ _ _)
  |false=>
   rw [if_neg aY]
   cases h':oJ g t with
   |true=>rw [if_pos rfl];exact e _ _ _ _ _ _ q h h' (a _ _ _)
   |false=>rw [if_neg aY];exact f _ _ _ _ _ _ q h h' (a _ _ _)
theorem aGe(T:List iP)(a x y:aW):∀i,Θ side i (Er g T a x y)=Ax g side T (i+a.length) x y:=by
 refine Ep (g:=g) (Q:=fun _=>True) (P:=fun T a x y L=>∀i,Θ side i L=Ax g side T (i+a.length) x y) (fun a i=>by simp [Θ,Ξ,F6]) (fun a x y h i=>?_) (fun t r a L _ h h' b i=>?_) (fun t r a x y L _ h h' c b i=>?_) (fun t r a x y L _ h h' b i=>?_) (fun t r a x y L _ h h' b i=>?_) (fun t r a x y L _ h h' b i=>?_) T (fun _ _=>trivial) a x y
 ·have e:Θ side (i+a.length+x.length) [([],[],[])]=[]:=rfl;show (if x=[]∧y=[]then[]else[_])++Θ side (i+a.length+x.length) [([],[],[])]=F6 side (i+a.length) x y;rw [e,bP];rfl
 ·rw [b,oV,if_pos h,h',if_neg aY,aS,cV,iI,←dD];rfl
 ·show (if x=[]∧y=[]then[]else[_])++Θ side (i+a.length+x.length) L=_;rw [b,oV,if_pos h,h',if_neg aY];rfl
 ·rw [b,oV,if_pos h,if_pos h']
 ·rw [b,oV,h,if_neg aY,if_pos h']
 ·rw [b,oV,h,h',if_neg aY,if_neg aY]
theorem Lk.ops{Z:Int→Prop}{L:List Sg}(k:Lk Z L):ops (fl sx L) (fl sy L)=Df 0 0 L:=by unfold Mine.ops;rw [k.al.mbs];exact Xb L k.gp.full1
theorem Lk.sd{Z:Int→Prop}{L:List Sg}(k:Lk Z L)(la:(fl sx L).length<200)(lb:(fl sy L).length<200)(b:L.length<64):sK (fl sx L) (fl sy L)where
 la:=la
 lb:=lb
 few:=by show (Jx _ _ ((fl sx L).length-0) 0 _ 0 _).length<64;rw [Nat.sub_zero,K2 k.al];exact eY (aC1 L 0 0) b
 ch:=by rw [k.ops];exact ι L [] [] aF k.gp (fun s a v c=>k.c s a s a v c) rfl rfl (by simp) (by simp)
theorem X6{Z:Int→Prop}{T:List iP}(h:lC Z 0 T)(c:T.length≤39)(d:∀t∈T,(cT T []).length<200∧(cT T g).length<200)(h0:T≠[]):sK (cT T []) (cT T g):=by obtain ⟨t,r,e⟩:=pS h0;obtain ⟨l1,l2⟩:=d t (by rw [e];exact aR);have k:=h.lk (g:=g);have a:fl sx (Er g T [] [] [])=cT T []:=(Ò T [] [] []).trans rfl;have b:fl sy (Er g T [] [] [])=cT T g:=(Ñ T [] [] []).trans rfl;have:=η (g:=g) T [] [] [];have q:=k.sd (by rw [a];exact l1) (by rw [b];exact l2) (by exact bE 0x718ab1838528d18014ff86002 c this);rwa[a,b]at q
theorem Kt{Z:Int→Prop}{T:List iP}(h:lC Z 0 T):eD (cT T g) side (ops (cT T []) (cT T g))=Ax g side T 0 [] []:=by have k:=h.lk (g:=g);have a:fl sx (Er g T [] [] [])=cT T []:=(Ò T [] [] []).trans rfl;have b:fl sy (Er g T [] [] [])=cT T g:=(Ñ T [] [] []).trans rfl;have q:=W9 (B:=fl sy (Er g T [] [] [])) side (Er g T [] [] []) 0 [] rfl;rw [cV,←k.ops,a,b,aGe]at q;exact q
structure aMp(side i e n:Nat)(r:qF):Prop where
 lo:i≤r.1
 le:r.1≤r.2.1
 hi:r.2.1≤e
 sd:r.2.2.1=side
 tx:r.2.2.2.2.length≤n
theorem Dz{i:Nat}{x y:aW}{r:qF}(h:r∈F6 side i x y):r=(i,i+x.length,side,vG x y,y):=by
 unfold F6 at h;split at h
 ·cases h
 ·exact aM.mp h
theorem Lr(T:List iP)(i:Nat)(x y:aW):∀r∈Ax g side T i x y,aMp side i (i+x.length+(cT T []).length) (y.length+(cT T g).length) r:=by
 refine Cf (g:=g) (side:=side) (Q:=fun _=>True) (P:=fun T i x y R=>∀r∈R,aMp side i (i+x.length+(cT T []).length) (y.length+(cT T g).length) r) (fun i x y r f=>?_) (fun t q i x y R _ h h' j r f=>?_) (fun t q i x y R _ h h' j r f=>?_) (fun t q i x y R _ h h' j r f=>?_) (fun t q i x y R _ h h' j r f=>?_) T (fun _ _=>trivial) i x y
 ·rw [Dz f];exact ⟨bG _,cC _ _,bG _,rfl,bG _⟩
 ·rw [dA,dA,kS h h',kS h (gB t),aS,aS];rcases dC.mp f with f|f
  ·rw [Dz f];exact ⟨bG _,cC _ _,cC _ _,rfl,cC _ _⟩
  ·obtain ⟨a,b,c,d,e⟩:=j r f;simp only [cV]at c e;exact ⟨by exact bE aG0 a,b,by exact bE 0x318a50820d0208128220c81a041005 c,d,by exact bE 0x318a50808c404a026004 e⟩
 ·obtain ⟨a,b,c,d,e⟩:=j r f;rw [dA,dA,Sz h h',kS h (gB t),aS];rw [aS]at c;exact ⟨a,b,by exact bE 0xc62942083408204a08840c41005 c,d,e⟩
 ·obtain ⟨a,b,c,d,e⟩:=j r f;rw [dA,dA,Mf h h',nH h (gB t),dK,aS];rw [aS]at e;exact ⟨a,b,c,d,by exact bE 0xc62942062081281a041004 e⟩
 ·rw [dA,dA,nH h h',nH h (gB t)];exact j r f
theorem È(T:List iP)(e:∀t∈T,t.1≠[])(i:Nat)(x y:aW):(Ax g side T i x y).Pairwise nF∧∀r∈Ax g side T i x y,i≤r.1:=by
 refine Cf (g:=g) (side:=side) (Q:=fun t=>t.1≠[]) (P:=fun T i x y R=>R.Pairwise nF∧∀r∈R,i≤r.1) (fun i x y=>⟨?_,fun r d=>by rw [Dz d];exact bG _⟩) (fun t q i x y R f h h' c=>?_) (fun t q i x y R _ h h' c=>c) (fun t q i x y R _ h h' c=>c) (fun t q i x y R _ h h' c=>c) T e i x y
 ·unfold F6;split
  ·exact .nil
  ·exact nX _ _
 ·have lt:=cQ.mpr f;refine ⟨jG.mpr ⟨?_,c.1,fun a j b k=>.inl ?_⟩,fun r d=>?_⟩
  ·unfold F6;split
   ·exact .nil
   ·exact nX _ _
  ·rw [Dz j];have:=c.2 b k;show i<b.1;exact bE 0xe3150c291a00810540304 lt this
  ·rcases dC.mp d with d|d
   ·rw [Dz d];exact bG _
   ·have:=c.2 r d;exact bE aG0 this
theorem Ur(st:List iP){t:iP}(h:t.2.1=true)(h':oJ g t=false)(r:List iP):∀(i:Nat)(x y:aW),Ax g side (st++t::r) i x y=Ax g side st i x y++Ax g side r (i+x.length+(cT st []).length+t.1.length) [] []:=by
 intro i x y;refine Cf (g:=g) (side:=side) (Q:=fun _=>True) (P:=fun st i x y R=>Ax g side (st++t::r) i x y=R++Ax g side r (i+x.length+(cT st []).length+t.1.length) [] []) (fun i x y=>?_) (fun u q i x y R _ k a b=>?_) (fun u q i x y R _ k a b=>?_) (fun u q i x y R _ k a b=>?_) (fun u q i x y R _ k a b=>?_) st (fun _ _=>trivial) i x y
 ·rw [dK,oV,if_pos h,h',if_neg aY];rfl
 ·rw [dX,oV,if_pos k,a,if_neg aY,b,dA,kS k (gB u),bU,aS,cV,iI];simp only [dD]
 ·rw [dX,oV,if_pos k,if_pos a,b,dA,kS k (gB u),aS,aS];simp only [dD]
 ·rw [dX,oV,k,if_neg aY,if_pos a,b,dA,nH k (gB u)];rfl
 ·rw [dX,oV,k,a,if_neg aY,if_neg aY,b,dA,nH k (gB u)];rfl
theorem Up(T:List iP)(i:Nat)(x y:aW)(e:∀t∈T,t.1≠[]):2*(Ax g side T i x y).length≤T.length+2∧(x=[]→y=[]→2*(Ax g side T i x y).length≤T.length+1):=by
 have d:∀i x y,(F6 side i x y).length≤1∧(x=[]→y=[]→(F6 side i x y).length=0):=fun i x y=>by
  unfold F6;split
  ·exact ⟨bW _,fun _ _=>rfl⟩
  ·rename_i h;exact ⟨bG _,fun a b=>absurd ⟨a,b⟩ h⟩
 refine Cf (g:=g) (side:=side) (Q:=fun t=>t.1≠[]) (P:=fun T i x y R=>2*R.length≤T.length+2∧(x=[]→y=[]→2*R.length≤T.length+1)) (fun i x y=>?_) (fun t q i x y R _ h h' c=>?_) (fun t q i x y R f h h' c=>?_) (fun t q i x y R f h h' c=>?_) (fun t q i x y R _ h h' c=>?_) T e i x y
 ·obtain ⟨a,b⟩:=d i x y;exact ⟨by rw [cV];exact bE 0x928a51a31a00d1927001 a,fun p q=>by have:=b p q;omega⟩
 ·obtain ⟨a,b⟩:=d i x y;have:=c.2 rfl rfl;rw [aS,eJ];exact ⟨by omega,fun p q=>by have:=b p q;omega⟩
 ·rw [eJ];exact ⟨by omega,fun _ _=>by omega⟩
 ·rw [eJ];exact ⟨by omega,fun _ _=>by omega⟩
 ·rw [eJ];exact ⟨by omega,fun p q=>by have:=c.2 p q;omega⟩
theorem Uo(T:List iP)(m:∀t∈T,t.1≠[])(i:Nat)(x y:aW):∀a b,(x=[]↔a=0)→(y=[]↔b=0)→(Ax g side T i x y).map (fun r=>r.2.2.2.1)=pO g (T++[Kc]) a b:=by
 have n:oJ g Kc=false:=by unfold oJ;rw [nC,Ne,zN];rintro ⟨s,_,o⟩;exact nomatch of_decide_eq_true o
 have fl:∀(i:Nat)(x y:aW)(a b:Nat)(l:List mU),(x=[]↔a=0)→(y=[]↔b=0)→(F6 side i x y).map (fun r=>r.2.2.2.1)++l=if true=true∧0<a+b then Z9 a b::l else l:=fun i x y a b l c d=>by
  unfold F6;by_cases h:x=[]∧y=[]
  ·have f:=c.mp h.1;have j:=d.mp h.2;rw [if_pos h,if_neg (by omega)];rfl
  ·have:0<a+b:=dM fun q=>h ⟨c.mpr (by exact bE 0x1918acc059901002 q),d.mpr (by exact bE 0x1918acc159901002 q)⟩;rw [if_neg h,if_pos ⟨rfl,this⟩];show vG x y::l=_
   congr 1
   unfold vG Z9;by_cases f:x=[]
   ·rw [if_pos f,if_pos (c.mp f)]
   ·rw [if_neg f,if_neg fun q=>f (c.mpr q)];by_cases j:y=[]
    ·rw [if_pos j,if_pos (d.mp j)]
    ·rw [if_neg j,if_neg fun q=>j (d.mpr q)]
 refine Cf (g:=g) (side:=side) (Q:=fun t=>t.1≠[]) (P:=fun T i x y R=>∀a b,(x=[]↔a=0)→(y=[]↔b=0)→R.map (fun r=>r.2.2.2.1)=pO g (T++[Kc]) a b) (fun i x y a b c d=>?_) (fun t q i x y R _ h h' e a b c d=>?_) (fun t q i x y R k h h' e a b c d=>?_) (fun t q i x y R k h h' e a b c d=>?_) (fun t q i x y R _ h h' e a b c d=>?_) T m i x y
 ·have:=fl i x y a b [] c d;rw [bP]at this;rw [this,dK,lI,n,if_neg aY];rfl
 ·rw [cE,e 0 0 ⟨fun _=>rfl,fun _=>rfl⟩ ⟨fun _=>rfl,fun _=>rfl⟩,fl i x y a b _ c d,dX,lI,h',if_neg aY,h];split
  ·rfl
  ·rename_i z;have:a=0∧b=0:=by simp only [true_and]at z;exact bE 0x37462c5982b301d252020302 z
   rw [this.1,this.2]
 ·rw [e (a+1) b ⟨fun z=>absurd (oP.mp z).2 k,fun z=>by omega⟩ d,dX,lI,if_pos h',if_pos h]
 ·rw [e a (b+1) c ⟨fun z=>absurd (oP.mp z).2 k,fun z=>by omega⟩,dX,lI,if_pos h',h,if_neg aY]
 ·rw [e a b c d,dX,lI,h',h,if_neg aY,if_neg fun z=>aY z.1]
def wy(A:aW)(p:aW×Nat)(r:qF):aW×Nat:=(p.1++pU A p.2 r,wC r)
theorem He(A:aW)(a:Nat):mQ A a a=[]:=by unfold mQ;rw [Nat.sub_self,List.take_zero]
theorem Ot{A:aW}{a b c:Nat}(d:a≤b)(e:b≤c):mQ A a c=mQ A a b++mQ A b c:=by unfold mQ;rw [show c-a=(b-a)+(c-b) by exact bE 0x4409220820804404440309220809262289a562896522892315a00112465324a624cc414cc21ccc1003 d e,List.take_add,List.drop_drop,show a+(b-a)=b by exact bE 0x948a918ac280092114cc1002 d]
theorem Vy{A:aW}{i:Nat}{x y Y:aW}{r:Nat}(c:r≤i):(((F6 side i x y).foldl (wy A) (Y,r)).1++mQ A ((F6 side i x y).foldl (wy A) (Y,r)).2 (i+x.length)=Y++mQ A r i++y)∧((F6 side i x y).foldl (wy A) (Y,r)).2≤i+x.length:=by
 unfold F6;by_cases h:x=[]∧y=[]
 ·rw [if_pos h,h.1,h.2,bP];exact ⟨rfl,tN c⟩
 ·rw [if_neg h];show (Y++pU A r (i,i+x.length,side,vG x y,y)++mQ A (wC (i,i+x.length,side,vG x y,y)) (i+x.length)=_)∧wC (i,i+x.length,side,vG x y,y)≤_;have d:pU A r (i,i+x.length,side,vG x y,y)=mQ A r i++y:=by
   show mQ A r i++(if vG x y=.delete then[]else y)=_;by_cases a:y=[]
   ·rw [a];split<;>rfl
   ·rw [if_neg (show vG x y≠.delete from ?_)];unfold vG;by_cases b:x=[]
    ·rw [if_pos b];exact fun z=>nomatch z
    ·rw [if_neg b,if_neg a];exact fun z=>nomatch z
  have e:wC (i,i+x.length,side,vG x y,y)=i+x.length:=by
   show (if vG x y=.insert then i else i+x.length)=_;by_cases a:x=[]
   ·rw [a];split<;>rfl
   ·rw [if_neg (show vG x y≠.insert from ?_)];unfold vG;rw [if_neg a];split<;>exact fun z=>nomatch z
  rw [d,e,He,bP,bU];exact ⟨rfl,bG _⟩
theorem Un{A:aW}(T:List iP)(i:Nat)(x y:aW):∀(zF post Y:aW)(r:Nat),A=zF++x++cT T []++post→zF.length=i→r≤i→((Ax g side T i x y).foldl (wy A) (Y,r)).1++mQ A ((Ax g side T i x y).foldl (wy A) (Y,r)).2 (i+x.length+(cT T []).length)=Y++mQ A r i++y++cT T g:=by
 refine Cf (g:=g) (side:=side) (Q:=fun _=>True) (P:=fun T i x y R=>∀(zF post Y:aW)(r:Nat),A=zF++x++cT T []++post→zF.length=i→r≤i→(R.foldl (wy A) (Y,r)).1++mQ A (R.foldl (wy A) (Y,r)).2 (i+x.length+(cT T []).length)=Y++mQ A r i++y++cT T g) (fun i x y zF post Y r a b c=>?_) (fun t q i x y R _ h h' d zF post Y r a b c=>?_) (fun t q i x y R _ h h' d zF post Y r a b c=>?_) (fun t q i x y R _ h h' d zF post Y r a b c=>?_) (fun t q i x y R _ h h' d zF post Y r a b c=>?_) T (fun _ _=>trivial) i x y
 ·rw [tC,tC,cV,iI,bP];exact (Vy c).1
 ·rw [dA,kS h (gB t)]at a⊢;rw [dA,kS h h',List.foldl_append];obtain ⟨f,e⟩:=Vy (side:=side) (A:=A) (x:=x) (y:=y) (Y:=Y) c;have j:mQ A (i+x.length) (i+x.length+t.1.length)=t.1:=by rw [a,show zF++x++(t.1++cT q [])++post=(zF++x)++t.1++(cT q []++post) by simp];exact wB (zF++x) t.1 _ (by rw [aS,b]) (by rw [aS,b])
  have:=d (zF++x++t.1) post ((F6 side i x y).foldl (wy A) (Y,r)).1 ((F6 side i x y).foldl (wy A) (Y,r)).2 (by rw [a];simp) (by simp [b,dD]) (tN e);rw [cV,iI,bP]at this;rw [aS,←dD,this,Ot e (cC _ t.1.length),←bU,f,j];simp
 ·rw [dA,kS h (gB t)]at a⊢;rw [dA,Sz h h'];have:=d zF post Y r (by rw [a];simp) b c;rw [aS]at this⊢;rw [show i+x.length+(t.1.length+(cT q []).length)=i+(x.length+t.1.length)+(cT q []).length by exact bE 0x18c5681a1020810818901004,this];rfl
 ·rw [dA,nH h (gB t)]at a⊢;rw [dA,Mf h h'];have:=d zF post Y r a b c;show (R.foldl (wy A) (Y,r)).1++mQ A (R.foldl (wy A) (Y,r)).2 (i+x.length+(cT q []).length)=_;rw [this];simp
 ·rw [dA,nH h (gB t)]at a⊢;rw [dA,nH h h'];exact d zF post Y r a b c
def Í(g:aW):List iP→Nat→Nat→Prop
 |[],_,_=>False
 |t::r,j,p=>(oJ g t=true∧j≤p∧p<j+(Ba [] t).length)∨Í g r (j+(Ba [] t).length) p
theorem Uq(T:List iP)(i:Nat)(x y:aW):∀p,((i≤p∧p<i+x.length)∨Í g T (i+x.length) p)→∃r∈Ax g side T i x y,r.1≤p∧p<r.2.1:=by
 have fl:∀(i:Nat)(x y:aW)(p:Nat),i≤p→p<i+x.length→∃r∈F6 side i x y,r.1≤p∧p<r.2.1:=fun i x y p e c=>by
  have f:x≠[]:=fun z=>by rw [z,cV]at c;exact bE 0x6319290600521002 e c
  unfold F6;rw [if_neg fun z=>f z.1];exact ⟨_,aR,e,c⟩
 refine Cf (g:=g) (side:=side) (Q:=fun _=>True) (P:=fun T i x y R=>∀p,((i≤p∧p<i+x.length)∨Í g T (i+x.length) p)→∃r∈R,r.1≤p∧p<r.2.1) (fun i x y p h=>?_) (fun t q i x y R _ h h' b p a=>?_) (fun t q i x y R _ h h' b p a=>?_) (fun t q i x y R _ h h' b p a=>?_) (fun t q i x y R _ h h' b p a=>?_) T (fun _ _=>trivial) i x y
 ·rcases h with h|h
  ·exact fl i x y p h.1 h.2
  ·exact h.elim
 ·rcases a with a|a|a
  ·obtain ⟨r,d,q⟩:=fl i x y p a.1 a.2;exact ⟨r,kW _ d,q⟩
  ·rw [h']at a;cases a.1
  ·rw [kS h (gB t)]at a;obtain ⟨r,d,q⟩:=b p (.inr a);exact ⟨r,kF _ d,q⟩
 ·refine b p ?_;rw [aS,←dD];rcases a with a|a|a
  ·exact .inl ⟨a.1,by exact bE 0x318a903408016290200521004 a⟩
  ·rw [kS h (gB t)]at a;exact .inl ⟨by omega,a.2.2⟩
  ·rw [kS h (gB t)]at a;exact .inr a
 ·refine b p ?_;rcases a with a|a|a
  ·exact .inl a
  ·rw [nH h (gB t),cV]at a;omega
  ·rw [nH h (gB t),cV]at a;exact .inr a
 ·refine b p ?_;rcases a with a|a|a
  ·exact .inl a
  ·rw [nH h (gB t),cV]at a;omega
  ·rw [nH h (gB t),cV]at a;exact .inr a
end
theorem Ch{x y:qF}(a:nF x y)(b:nF y x):x=y:=by unfold nF at a b;omega
open Classical in
theorem ſ{l:List qF}(h:l.Pairwise fun a b=>nF a b∨nF b a):∃X,l.Perm X∧X.Pairwise nF:=by
 let le:qF→qF→Bool:=fun a b=>decide (¬nF b a);have tr:∀a b c,le a b=true→le b c=true→le a c=true:=fun a b c e f=>by refine decide_eq_true ?_;have e:=of_decide_eq_true e;have f:=of_decide_eq_true f;unfold nF at e f⊢;omega
 have i:∀a b,(le a b||le b a)=true:=fun a b=>by
  rw [Bs];by_cases q:nF b a
  ·refine .inr (decide_eq_true ?_);unfold nF at q⊢;exact bE 0x84451222568ac62e9358d6288532c435086b005400b58d628a622c6250c4b08141006 q
  ·exact .inl (decide_eq_true q)
 have p:=List.mergeSort_perm l le;have s:=List.pairwise_mergeSort tr i l;have d:=(p.symm.pairwise_iff (R:=fun a b=>nF a b∨nF b a) fun h=>h.symm).mp h;exact ⟨_,p.symm,(s.and d).imp fun {a b} ⟨e,f⟩=>f.resolve_right (of_decide_eq_true e)⟩
def s0(r:qF):Bool:=decide (r.2.2.1=0)
structure aO2(A:aW)(X:List qF)(g0 G:D6):Prop where
 w0:G.w0=g0.w0++(X.filter s0).map fun r=>r.2.2.2.1
 w1:G.w1=g0.w1++(X.filter fun r=> !s0 r).map fun r=>r.2.2.2.1
 y0:(G.y0,G.r0)=(X.filter s0).foldl (wy A) (g0.y0,g0.r0)
 y1:(G.y1,G.r1)=(X.filter fun r=> !s0 r).foldl (wy A) (g0.y1,g0.r1)
 ge:g0.high≤G.high
 all:∀r∈X,r.2.1≤G.high
 le:∀e,g0.high≤e→(∀r∈X,r.2.1≤e)→G.high≤e
theorem Vx(A:aW):∀(X:List qF)(i:D6),aO2 A X i (X.foldl (D6.add A) i):=by
 intro X
 induction X with
 |nil=>intro i;exact ⟨(bP _).symm,(bP _).symm,rfl,rfl,bG _,fun r h=>(by cases h),fun e h _=>h⟩
 |cons x X u=>
  intro i;obtain ⟨a,b,c,d,e,f,k⟩:=u (i.add A x);have hi:(i.add A x).high=max i.high x.2.1:=by unfold D6.add;split<;>rfl
  rw [List.foldl_cons];have n:=Nat.le_max_left i.high x.2.1;have o:=Nat.le_max_right i.high x.2.1;rw [←hi]at n o;have al:∀r∈x::X,r.2.1≤(X.foldl (D6.add A) (i.add A x)).high:=fun r m=>by
   rcases aU.mp m with rfl|m
   ·exact bR o e
   ·exact f r m
  have p:∀e,i.high≤e→(∀r∈x::X,r.2.1≤e)→(X.foldl (D6.add A) (i.add A x)).high≤e:=fun e v t=>k e (by rw [hi];exact Nat.max_le.mpr ⟨v,t x aR⟩) fun r m=>t r (aQ _ m);by_cases q:x.2.2.1=0
  ·have j:s0 x=true:=decide_eq_true q;have l:i.add A x={i with high:=max i.high x.2.1,w0:=i.w0++[x.2.2.2.1],y0:=i.y0++pU A i.r0 x,r0:=wC x}:=if_pos q;refine ⟨?_,?_,?_,?_,bR n e,al,p⟩
   ·rw [a,l,lG j];simp
   ·rw [b,l,lH (by rw [j];decide)]
   ·rw [c,l,lG j];rfl
   ·rw [d,l,lH (by rw [j];decide)]
  ·have j:s0 x=false:=decide_eq_false q;have l:i.add A x={i with high:=max i.high x.2.1,w1:=i.w1++[x.2.2.2.1],y1:=i.y1++pU A i.r1 x,r1:=wC x}:=if_neg q;refine ⟨?_,?_,?_,?_,bR n e,al,p⟩
   ·rw [a,l,lH (by rw [j];decide)]
   ·rw [b,l,lG (by rw [j];rfl)];simp
   ·rw [c,l,lH (by rw [j];decide)]
   ·rw [d,l,lG (by rw [j];rfl)];rfl
theorem aBq{A:aW}{b:List qF}:∀(X:List qF)(a:D6),(∀P y Q,X=P++y::Q→y.1≤(P.foldl (D6.add A) a).high)→(∀y∈b,(X.foldl (D6.add A) a).high<y.1)→zX A (X++b) a=(X.foldl (D6.add A) a,b):=by
 intro X
 induction X with
 |nil=>
  intro a _ h
  cases b with
  |nil=>rfl
  |cons y r=>exact if_neg (J8 (h y aR))
 |cons x X d=>intro a c h;show (if x.1≤a.high then zX A (X++b) (a.add A x)else _)=_;rw [if_pos (show x.1≤a.high from c [] x X rfl)];exact d _ (fun P y Q e=>c (x::P) y Q (by rw [e];rfl)) h
theorem Xi(A:aW)(f dn:Nat)(t:List jM)(m:List kQ):zD A f [] dn t m=(t,m++(A.drop dn).map .i):=by cases f<;>rfl
section
variable{Z:Int→Prop}{g:aW}{s:Int}
def Nb(g:aW)(s:Int)(t:iP):Prop:=¬(t.2.1=true∧oJ (g++[s]) t=false)
theorem Av(h:aW)(t:iP):oJ (g++h) t=(oJ g t||oJ h t):=List.any_append
theorem lC.app:∀{l l':List iP}{n:Nat},lC Z n (l++l')→lC Z n l∧lC Z (n+l.length) l':=by
 intro l
 induction l with
 |nil=>intro l' n h;exact ⟨trivial,h⟩
 |cons t r c=>intro l' n h;obtain ⟨a,b⟩:=c h.2;refine ⟨⟨h.1,a⟩,?_⟩;rw [eJ,show n+(r.length+1)=n+1+r.length by exact bE aG2];exact b
theorem Nb.own{n:Nat}{t:iP}(k:Qs Z n t)(h:Nb g s t):∃v∈t.1,¬Z v:=by
 cases k with
 |firm f z o=>refine absurd ⟨rfl,?_⟩ h;rw [nC];exact fun q=>Au q rfl
 |old v a z o=>exact ⟨v,aR,z⟩
 |new v b mid a z c o d ne m=>exact ⟨v,aR,z⟩
theorem yH{h:aW}{st:List iP}(q:∀t∈st,oJ g t=oJ h t):cT st g=cT st h:=by
 induction st with
 |nil=>rfl
 |cons t r a=>rw [dA,dA,a fun u b=>q u (aQ _ b)];unfold Ba;rw [q t aR]
theorem Ox{h:aW}:∀{st:List iP}{n:Nat},lC Z n st→(∀t∈st,∃v∈t.1,¬Z v)→cT st g=cT st h→∀t∈st,oJ g t=oJ h t:=by
 intro st
 induction st with
 |nil=>intro n _ _ _ t f;cases f
 |cons u r A=>
  intro n i l e t f;obtain ⟨v,p,x⟩:=l u aR;have B:=i.1.own p (.inl x);have C:∀k:aW,v∉cT r k:=fun k j=>by obtain ⟨m,j,o⟩:=Ow i.2 j x;have:=B.uniq o;exact bE aAk j this
  rw [dA,dA]at e;have y:oJ g u=oJ h u:=by
   have z:∀a b:aW,(u.2.1= !oJ a u)→¬(u.2.1= !oJ b u)→Ba a u++cT r a≠Ba b u++cT r b:=fun a b d c e=>by have m:v∈Ba a u++cT r a:=kW _ (by unfold Ba;rw [if_pos d];exact p);rw [e]at m;unfold Ba at m;rw [if_neg c]at m;exact C b m
   by_cases d:u.2.1= !oJ g u<;>by_cases c:u.2.1= !oJ h u
   ·rw [d]at c;exact Bool.not_inj c
   ·exact absurd e (z g h d c)
   ·exact absurd e.symm (z h g c d)
   ·revert d c;cases u.2.1<;>cases oJ g u<;>cases oJ h u<;>simp
  rcases aU.mp f with rfl|f
  ·exact y
  ·refine A i.2 (fun w hw=>l w (aQ _ hw)) ?_ t f;unfold Ba at e;rw [y]at e;exact List.append_cancel_left e
theorem Of:∀(st:List iP)(a b:Nat),0<a+b→pO g (st++[Kc]) a b≠[]:=by
 intro st
 induction st with
 |nil=>intro a b h;have d:oJ g Kc=false:=nC.mpr fun q=>Au q rfl;rw [dK,lI,d,if_neg aY,if_pos ⟨rfl,h⟩];exact aFm _ _
 |cons t r c=>
  intro a b h;rw [dX,lI];split
  ·split
   ·exact c _ _ (by exact bE 0x8c5480a0e0302)
   ·exact c _ _ (by exact bE 0x8c54841c20302)
  ·split
   ·exact aFm _ _
   ·exact c _ _ h
theorem xC{st:List iP}:iD st g=[]↔∀t∈st,oJ g t=false:=by
 unfold iD
 induction st with
 |nil=>have a:oJ g Kc=false:=nC.mpr fun q=>Au q rfl;rw [dK,lI,a,if_neg aY,if_neg (by simp)];exact ⟨fun _ t b=>(by cases b),fun _=>rfl⟩
 |cons t r c=>
  rw [dX,lI,Zf]
  cases h:oJ g t with
  |true=>
   rw [if_pos rfl];refine ⟨fun q=>?_,fun q=>by cases q.1⟩;split at q
   ·exact absurd q (Of r _ _ (by decide))
   ·exact absurd q (Of r _ _ (by decide))
  |false=>rw [if_neg aY,if_neg (by simp),c];exact ⟨fun q=>⟨rfl,q⟩,Wu⟩
theorem Ŵ{st:List iP}{n:Nat}(f:lC Z n st)(j:∀t∈st,Nb g s t):vY (cT st []) (cT st g) (cT st [s])=lY st g s:=by
 have i:∀t∈st,∃v∈t.1,¬Z v:=fun t a=>by obtain ⟨m,_,k⟩:=f.mem t a;exact (j t a).own k
 have c:∀h:aW,iD st h=[]↔cT st h=cT st []:=fun h=>by rw [xC];exact ⟨fun q=>yH fun t a=>(q t a).trans (gB t).symm,fun q t a=>(Ox f i q t a).trans (gB t)⟩
 unfold vY lY;by_cases b:cT st g=cT st [s]
 ·rw [if_pos (.inl b),if_pos (.inr b),yH (g:=g++[s]) (h:=g) fun t a=>?_];rw [Av,←Ox f i b t a,Bool.or_self]
 ·by_cases d:cT st [s]=cT st []
  ·have w1:=(c [s]).mpr d;rw [if_pos (.inr d),if_pos (.inl (.inr w1)),yH (g:=g++[s]) (h:=g) fun t a=>?_];rw [Av,xC.mp w1 t a,Rj]
  ·rw [if_neg fun z=>z.elim b d];by_cases e:cT st g=cT st []
   ·have w0:=(c g).mpr e;rw [if_pos e,if_pos (.inl (.inl w0)),yH (g:=g++[s]) (h:=[s]) fun t a=>?_];rw [Av,xC.mp w0 t a,Bool.false_or]
   ·rw [if_neg e,if_neg fun z=>z.elim (fun z=>z.elim (fun z=>e ((c g).mp z)) fun z=>d ((c [s]).mp z)) b]
theorem ε:∀{st:List iP}(j p:Nat),(∀t∈st,Nb g s t)→j≤p→p<j+(cT st []).length→Í g st j p∨Í [s] st j p:=by
 intro st
 induction st with
 |nil=>intro j p _ b a;rw [tC,cV]at a;omega
 |cons t r e=>
  intro j p c b a;rw [dA,aS]at a;by_cases q:p<j+(Ba [] t).length
  ·cases d:t.2.1 with
   |false=>rw [nH d (gB t),cV]at q;omega
   |true=>
    have:oJ (g++[s]) t=true:=by
     cases h:oJ (g++[s]) t with
     |true=>rfl
     |false=>exact absurd ⟨d,h⟩ (c t aR)
    rw [Av,Bs]at this;exact this.imp (fun z=>.inl ⟨z,b,q⟩) fun z=>.inl ⟨z,b,q⟩
  ·exact (e (j+(Ba [] t).length) p (fun u f=>c u (aQ _ f)) (by exact bE 0x318a408105d252041003 q) (by exact bE 0xc62a40d020814840c41004 a)).imp .inr .inr
structure Sth(A:aW)(g:aW)(s:Int)(st:List iP)(i e:Nat)(X:List qF):Prop where
 perm:(Ax g 0 st i [] []++Ax [s] 1 st i [] []).Perm X
 pw:X.Pairwise nF
 lo:∀r∈X,i≤r.1∧r.1≤e
 nil:X=[]↔(iD st g=[]∧iD st [s]=[])
 run:∀x X',X=x::X'→x.1=i∧∀bp,(∀y∈bp,e<y.1)→∃G,oN A x (X'++bp)=(G,bp)∧G.high=e∧G.w0=iD st g∧G.w1=iD st [s]∧G.y0++mQ A G.r0 e=cT st g∧G.y1++mQ A G.r1 e=cT st [s]
theorem Ä{A zF post:aW}{st:List iP}{i n:Nat}(hA:A=zF++cT st []++post)(hi:zF.length=i)(hT:lC Z n st)(hn:∀t∈st,Nb g s t):∃X,Sth A g s st i (i+(cT st []).length) X:=by
 have H:=hT.pos;have k:=Lr (g:=g) (side:=0) st i [] [];have l:=Lr (g:=[s]) (side:=1) st i [] [];have o:=(È (g:=g) (side:=0) st H i [] []).1;have u:=(È (g:=[s]) (side:=1) st H i [] []).1;have t0:(Ax g 0 st i [] []).map (fun r=>r.2.2.2.1)=iD st g:=Uo st H i [] [] 0 0 ⟨fun _=>rfl,fun _=>rfl⟩ ⟨fun _=>rfl,fun _=>rfl⟩;have t1:(Ax [s] 1 st i [] []).map (fun r=>r.2.2.2.1)=iD st [s]:=Uo st H i [] [] 0 0 ⟨fun _=>rfl,fun _=>rfl⟩ ⟨fun _=>rfl,fun _=>rfl⟩;have w0:=Un (g:=g) (side:=0) (A:=A) st i [] [] zF post [] i (by rw [hA,bP]) hi (bG _);have w1:=Un (g:=[s]) (side:=1) (A:=A) st i [] [] zF post [] i (by rw [hA,bP]) hi (bG _);have c0:=Uq (g:=g) (side:=0) st i [] [];have c1:=Uq (g:=[s]) (side:=1) st i [] [];generalize he:i+(cT st []).length=e;simp only [cV,iI,dK,He,he]at k l w0 w1 c0 c1;generalize h0:Ax g 0 st i [] []=R0 at *;generalize v:Ax [s] 1 st i [] []=R1 at *;have J:(R0++R1).Pairwise fun a b=>nF a b∨nF b a:=jG.mpr ⟨o.imp .inl,u.imp .inl,fun a ha b hb=>by have sa:=(k a ha).sd;have sb:=(l b hb).sd;unfold nF;exact bE 0x310c4310c4620140501411018300c0300c06030180306060c060061818316b58d62801590a6510a65886a10dac6b14102ca6228a622c6250c4b38566006 sa sb⟩;obtain ⟨X,d,pw⟩:=ſ J;have f:∀r∈X,i≤r.1∧r.1≤r.2.1∧r.2.1≤e:=fun r c=>by
  rcases dC.mp (d.mem_iff.mpr c)with q|q
  ·exact ⟨(k r q).lo,(k r q).le,(k r q).hi⟩
  ·exact ⟨(l r q).lo,(l r q).le,(l r q).hi⟩
 have h:∀p,i≤p→p<e→∃r∈X,r.1≤p∧p<r.2.1:=fun p v L=>by
  rcases ε (st:=st) i p hn v (by exact bE 0x1631520201a84358901004 he L)with q|q
  ·obtain ⟨r,c,q⟩:=c0 p (.inr q);exact ⟨r,d.mem_iff.mp (kW _ c),q⟩
  ·obtain ⟨r,c,q⟩:=c1 p (.inr q);exact ⟨r,d.mem_iff.mp (kF _ c),q⟩
 have B:∀r∈R0,s0 r=true:=fun r c=>decide_eq_true (k r c).sd;have C:∀r∈R1,s0 r=false:=fun r c=>decide_eq_false (by rw [(l r c).sd];decide);have N:R0.filter s0=R0:=Eh.mpr B;have O:R1.filter s0=[]:=jQ.mpr fun r c=>by rw [C r c];decide
 have R:(R0.filter fun r=> !s0 r)=[]:=jQ.mpr fun r c=>by rw [B r c];decide
 have T:(R1.filter fun r=> !s0 r)=R1:=Eh.mpr fun r c=>by rw [C r c];rfl
 have D:X.filter s0=R0:=by refine wY (fun a b _ _=>Ch) (pw.filter _) o ?_;have:=(d.filter s0).symm;rw [mG,N,O,bP]at this;exact this
 have F:(X.filter fun r=> !s0 r)=R1:=by refine wY (fun a b _ _=>Ch) (pw.filter _) u ?_;have:=(d.filter fun r=> !s0 r).symm;rw [mG,R,T,dK]at this;exact this
 refine ⟨X,by rw [h0,v];exact d,pw,fun r c=>by have:=f r c;exact bE 0x1e462c48c290818c48c4910521004 this,?_,fun x X' ex=>?_⟩
 ·rw [←t0,←t1,vX,vX,←oP];exact ⟨fun z=>(by rw [z]at d;exact d.eq_nil),fun z=>by rw [z]at d;exact d.symm.eq_nil⟩
 ·have G:x∈X:=by rw [ex];exact aR
  have first:∀r∈X,x.1≤r.1:=fun r c=>by
   rw [ex]at c pw;rcases aU.mp c with rfl|c
   ·exact bG _
   ·have:=(eM.mp pw).1 r c;unfold nF at this;exact bE 0x22b8c5210358d628a622c6250c4b08141006 this
  have W:x.1=i:=by
   have:=f x G;by_cases q:i<e
   ·obtain ⟨r,c,m,I⟩:=h i (bG _) q;have:=first r c
    exact bE 0x1e118ac01490290118c48c4910521005 ‹_› m this
   ·exact bE 0xf88c5600ba4a1818c48c4910521004 this q
  refine ⟨W,fun bp c=>?_⟩;have fd:=Vx A X (Cn x);have hg:(X.foldl (D6.add A) (Cn x)).high=e:=by
   refine jD (fd.le e (f x G).2.2 fun r c=>(f r c).2.2) ?_;by_cases q:i<e
   ·obtain ⟨r,c,m,I⟩:=h (e-1) (by exact bE aAo q) (by exact bE 0x91462a0814114cc7002 q);have:=fd.all r c;exact bE 0x10ae3148c291894204cc7003 I this
   ·have:=f x G;have:=fd.all x G;exact bE 0xec629205241b18908d231244074941005 q ‹_› this
  refine ⟨X.foldl (D6.add A) (Cn x),?_,hg,?_,?_,?_,?_⟩
  ·unfold oN;rw [←dX,←ex];refine aBq X (Cn x) (fun P y Q j=>?_) (by rw [hg];exact c)
   cases P with
   |nil=>rw [ex]at j;cases j;exact (f x G).2.1
   |cons z P=>
    have hz:z=x:=by rw [ex]at j;exact (ů j).1.symm
    refine dJ fun lt=>?_;have Y:=(Vx A (z::P) (Cn x)).all;generalize ((z::P).foldl (D6.add A) (Cn x)).high=hp at lt Y;have my:y∈X:=by rw [j];exact kF _ aR
    have v:=Y z aR;have L:=f z (by rw [j];exact aR);have h3:=f y my;obtain ⟨r,q7,m,I⟩:=h hp (by exact bE 0x3a314844c624804806918921005 v L) (by exact bE 0x2e315100c6248348c2908941005 lt h3);rw [j]at q7 pw;rcases dC.mp q7 with q|q
    ·have:=Y r q;exact bE Sv I this
    ·have pq:=(jG.mp pw).2.1;rcases aU.mp q with q|q
     ·rw [q]at m;exact bE Sv lt m
     ·have:=(eM.mp pq).1 r q;unfold nF at this;exact bE 0x68d718c9ac6b145394cb20d441ac415082900941007 lt m this
  ·rw [fd.w0,D,t0];rfl
  ·rw [fd.w1,F,t1];rfl
  ·have:=fd.y0;rw [D]at this;have w:=w0;rw [show (([]:aW),i)=((Cn x).y0,(Cn x).r0) by rw [←W];rfl,←this]at w;exact w
  ·have:=fd.y1;rw [F]at this;have w:=w1;rw [show (([]:aW),i)=((Cn x).y1,(Cn x).r1) by rw [←W];rfl,←this]at w;exact w
end
section
variable{Z:Int→Prop}{g:aW}{s:Int}
theorem Ê{st:List iP}(h:iD st g=[]∧iD st [s]=[])(d:∀t∈st,Nb g s t):cT st []=[]∧cT st (g++[s])=[]:=by
 have c:∀t∈st,Ba [] t=[]∧Ba (g++[s]) t=[]:=fun t a=>by
  have h0:oJ (g++[s]) t=false:=by rw [Av,xC.mp h.1 t a,xC.mp h.2 t a];rfl
  cases b:t.2.1 with
  |true=>exact absurd ⟨b,h0⟩ (d t a)
  |false=>exact ⟨nH b (gB t),nH b h0⟩
 exact ⟨T9.mpr fun t a=>(c t a).1,T9.mpr fun t a=>(c t a).2⟩
inductive aOu(A:aW)(g:aW)(s:Int)(st:List iP)(i e:Nat)(R':List qF)(told:List jM)(mg:List kQ)(dn:Nat)(d6:List jM×List kQ):Prop
 |mk (f' oe:Nat) (ek:List kQ) (h1:R'.length≤f') (h2:oe≤e) (h3:d6=zD A f' R' oe (told++uS st g s) ek) (h4:ek++(mQ A oe e).map .i=mg++(mQ A dn i).map .i++lY st g s)
theorem Oq{A zF post:aW}{st:List iP}{i n:Nat}{X R':List qF}(h:A=zF++cT st []++post)(hi:zF.length=i)(j:lC Z n st)(d:∀t∈st,Nb g s t)(sx:Sth A g s st i (i+(cT st []).length) X)(k:∀y∈R',i+(cT st []).length<y.1){f dn:Nat}(a:(X++R').length≤f)(hd:dn≤i)(told:List jM)(b:List kQ):
  aOu A g s st i (i+(cT st []).length) R' told b dn (zD A f (X++R') dn told b):=by
 cases X with
 |nil=>
  have w:=sx.nil.mp rfl;obtain ⟨r1,l⟩:=Ê w d;refine ⟨f,dn,b,a,tN hd,?_,?_⟩
  ·rw [show uS st g s=[]from if_pos w,bP];rfl
  ·rw [show lY st g s=(cT st (g++[s])).map .i from if_pos (.inl (.inl w.1)),r1,l,cV,iI,wL,bP]
 |cons x X'=>
  have m:¬(iD st g=[]∧iD st [s]=[]):=fun w=>nomatch sx.nil.mpr w
  obtain ⟨e,run⟩:=sx.run x X' rfl;obtain ⟨G,o,c,p,r,u,v⟩:=run R' k
  cases f with
  |zero=>cases a
  |succ f=>
   have old:mQ A x.1 G.high=cT st []:=by rw [e,c,h];exact wB zF (cT st []) post hi.symm (by rw [hi])
   have z:Ha A x G=lY st g s:=by unfold Ha;rw [old,c,u,v];exact Ŵ j d
   refine ⟨f,i+(cT st []).length,b++((mQ A dn i).map .i++lY st g s),?_,bG _,?_,?_⟩
   ·rw [aS,eJ]at a;exact bE 0x318a4414a0e240507003 a
   ·rw [dX,ë,o,z,old,c,p,r,e,show uS st g s=[(cT st [],iD st g,iD st [s])]from if_neg m]
   ·rw [He,wL,bP,bU]
theorem aAe{A:aW}:∀(T st:List iP)(n i:Nat)(zF:aW),A=zF++cT (st++T) []→zF.length=i→lC Z n (st++T)→(∀t∈st,Nb g s t)→
  ∃R,(Ax g 0 (st++T) i [] []++Ax [s] 1 (st++T) i [] []).Perm R∧R.Pairwise nF∧(∀r∈R,i≤r.1)∧∀f dn told j,R.length≤f→dn≤i→zD A f R dn told j=E7 g s (T++[Kc]) st told (j++(mQ A dn i).map .i):=by
 have W:∀h:aW,oJ h Kc=false:=fun h=>nC.mpr fun q=>Au q rfl;intro T
 induction T with
 |nil=>
  intro st n i zF l hi m o;rw [bP]at l m⊢;obtain ⟨X,sx⟩:=Ä (A:=A) (g:=g) (s:=s) (post:=[]) (by rw [l,bP]) hi m o;refine ⟨X,sx.perm,sx.pw,fun r Y=>(sx.lo r Y).1,fun f dn told j p hd=>?_⟩;obtain ⟨f',z,ek,N,F,B,G⟩:=Oq (R':=[]) (post:=[]) (by rw [l,bP]) hi m o sx (fun y u=>by cases u) (by rw [bP];exact p) hd told j;rw [bP]at B;have ea:A.drop z=mQ A z (i+(cT st []).length):=by unfold mQ;rw [tA];rw [nZ,l,aS,hi];exact bG _
  rw [B,Xi,ea,G,dK,uQ,if_pos ⟨rfl,W _⟩];show (_,j++(mQ A dn i).map .i++lY st g s)=(_,j++(mQ A dn i).map .i++(lY st g s++[]));rw [bP]
 |cons x r O=>
  intro st n i zF l hi m o;by_cases k:x.2.1=true∧oJ (g++[s]) x=false
  ·have H:=k.2;rw [Av,Bool.or_eq_false_iff]at H;obtain ⟨P,Q⟩:=m.app;have px:=cQ.mpr Q.1.pos;have ro:cT (st++x::r) []=cT st []++(x.1++cT r []):=by rw [Oy,dA,kS k.1 (gB x)]
   rw [ro]at l;have C:A=zF++cT st []++(x.1++cT r []):=by rw [l,bU]
   obtain ⟨X,sx⟩:=Ä (g:=g) (s:=s) C hi P o;obtain ⟨R,D,pw,lo,I⟩:=O [] (n+st.length+1) (i+(cT st []).length+x.1.length) (zF++cT st []++x.1) (by rw [C,dK,bU,bU,bU]) (by rw [aS,aS,hi]) Q.2 (fun t J=>by cases J);have v:∀y∈R,i+(cT st []).length<y.1:=fun y u=>by have:=lo y u;exact bE 0x38c543408291a00810540304 px this
   refine ⟨X++R,?_,jG.mpr ⟨sx.pw,pw,fun a ha b k=>.inl ?_⟩,fun y u=>?_,fun f dn told j p hd=>?_⟩
   ·rw [Ur st k.1 H.1,Ur st k.1 H.2];have e:∀a b c d:List qF,((a++b)++(c++d)).Perm ((a++c)++(b++d)):=fun a b c d=>by rw [bU,bU];refine List.Perm.append_left a ?_;rw [←bU,←bU];exact List.Perm.append_right d List.perm_append_comm
    exact (e _ _ _ _).trans (sx.perm.append (by simpa using D))
   ·have:=sx.lo a ha;have:=v b k;exact bE 0xe3150c2a1a0406250200521004 ‹_› this
   ·rcases dC.mp u with q|q
    ·exact (sx.lo y q).1
    ·have:=lo y q;exact bE aG0 this
   ·obtain ⟨f',z,ek,N,F,B,G⟩:=Oq C hi P o sx v p hd told j;have sl:mQ A (i+(cT st []).length) (i+(cT st []).length+x.1.length)=x.1:=by rw [C,←bU];exact wB (zF++cT st []) x.1 _ (by rw [aS,hi]) (by rw [aS,hi])
    rw [B,I f' z _ _ N (by exact bE 0x318a503408204a041004 F),dX,uQ,if_pos k,Ot F (cC _ x.1.length),cE,←bU,G,sl,bU]
  ·have L:lC Z n ((st++[x])++r):=by rw [bU];exact m
   obtain ⟨R,D,pw,lo,I⟩:=O (st++[x]) n i zF (by rw [bU];exact l) hi L (fun t J=>by
    rcases dC.mp J with q|q
    ·exact o t q
    ·rw [aM.mp q];exact k)
   rw [bU]at D;refine ⟨R,D,pw,lo,fun f dn told j p hd=>?_⟩;rw [I f dn told j p hd,dX,uQ,if_neg k]
inductive aO3(g:aW)(s:Int)(l:List iP)(mg:List kQ)(m:List kQ):Prop
 |mk (m':List kQ) (e:m=mg++m') (len:m'.length≤5*(l.length+1)) (row:m'.filter isC=[]→m'=(cT l (g++[s])).map .i)
theorem V5:∀(T st:List iP)(told:List jM)(a:List kQ),(∀t∈st++T,t.1.length≤4)→aO3 g s (st++T) a (E7 g s (T++[Kc]) st told a).2:=by
 have l:∀h:aW,oJ h Kc=false:=fun h=>nC.mpr fun q=>Au q rfl;have i:∀st:List iP,(∀t∈st,t.1.length≤4)→(lY st g s).length≤4*st.length+1:=fun st h=>by
  unfold lY;split
  ·rw [bF];have:=zT (g:=g++[s]) h;exact bE 0xc62941e01e180980786002 this
  ·show 1≤_;exact bE 0x118a50780386381
 have j:∀st:List iP,(lY st g s).filter isC=[]→lY st g s=(cT st (g++[s])).map .i:=fun st h=>by
  unfold lY at h⊢;split
  ·rfl
  ·rename_i q;rw [if_neg q]at h;cases h
 intro T
 induction T with
 |nil=>intro st told a b;rw [bP]at b⊢;rw [dK,uQ,if_pos ⟨rfl,l _⟩];refine ⟨lY st g s,?_,by have:=i st b;exact bE 0x318a608387a60250780786002 this,j st⟩;show a++(lY st g s++[])=_;rw [bP]
 |cons x r k=>
  intro st told a b;rw [dX,uQ];split
  ·rename_i c;obtain ⟨m',e,len,row⟩:=k [] (told++uS st g s) (a++(lY st g s++x.1.map .i)) fun t d=>b t (kF _ (aQ _ d));have m:=i st fun t d=>b t (kW _ d);have n:=b x (kF _ aR);refine ⟨lY st g s++x.1.map .i++m',by rw [e,bU,bU],?_,fun f=>?_⟩
   ·rw [dK]at len;rw [aS,aS,bF,aS,eJ];exact bE 0xf18a6083a10708fa640104127862250780f8612608387a6005 len m n
   ·rw [mG,mG,oP,oP]at f;rw [row f.2,j st f.1.1,dK,Oy,dA,kS c.1 c.2,cE,cE];simp
  ·rename_i c;have:=k (st++[x]) told a (by rw [bU];exact b);rw [bU]at this;exact this
end
def zP(L:aW)(v:Int):Prop:=∃n,n<L.length∧V6 L n<6∧v=Aw L n
section
variable{L:aW}{n:Nat}
theorem Lq(a:n<100):Qu n (Aw L n)∧Qu n (Aw L n+1):=by unfold Qu Aw;omega
theorem aGc{m:Nat}(a:n<100)(b:m<100):Aw L n+1≠Aw L m:=by unfold Aw;omega
theorem Į{p:Nat→Bool}{v:Int}(h:v∈(((yT L).filter p).map (Aw L))):∃m,m<L.length∧V6 L m<6∧p m=true∧v=Aw L m:=by obtain ⟨m,a,e⟩:=qG.mp h;obtain ⟨b,c⟩:=Lb.mp a;obtain ⟨d,f⟩:=Lb.mp b;exact ⟨m,Oa.mp d,of_decide_eq_true f,c,e.symm⟩
theorem aLt{l:aW}(h:l.length≤1):l=[]∨∃v,l=[v]:=by
 cases l with
 |nil=>exact .inl rfl
 |cons a r=>
  cases r with
  |nil=>exact .inr ⟨a,rfl⟩
  |cons b r=>rw [eJ,eJ]at h;omega
theorem aGu(f:L.length≤39):Mid (zP L) n (Pa L n):=by
 unfold Pa;split
 ·rcases aLt (Qm L n)with e|⟨v,e⟩
  ·rw [e];exact .nil
  ·have c:v∈Ng L n:=by rw [e];exact aR
   obtain ⟨m,a,d,_,b⟩:=Į (Zd c);rw [e];exact .one v ⟨m,a,d,b⟩
 ·split
  ·rcases aLt (Iv L n)with e|⟨v,e⟩
   ·rw [e];exact .nil
   ·have c:v∈Ga L n:=by rw [e];exact aR
    obtain ⟨m,a,d,g,b⟩:=Į (List.mem_of_mem_drop c);rw [e];exact .two v m ⟨m,a,d,b⟩ (b▸(Lq (by exact bE ý f a)).1) (of_decide_eq_true g)
  ·exact .nil
theorem aF7(b:L.length≤39)(d:n<L.length):Qs (zP L) n (Lm L n):=by
 have o:=Lq (L:=L) (n:=n) (by exact bE ý b d);have i:6≤V6 L n→¬zP L (Aw L n):=fun h ⟨m,e,j,f⟩=>by have:=o.1.uniq (f▸(Lq (L:=L) (n:=m) (by exact bE ý b e)).1);subst this;exact bE 0x18c656f19070581e310 h j
 have g:¬zP L (Aw L n+1):=fun ⟨m,e,j,f⟩=>aGc (by exact bE ý b d) (by exact bE ý b e) f;unfold Lm Fz;by_cases c:V6 L n<11
 ·rw [if_pos c,decide_eq_true c];by_cases a:V6 L n<6
  ·have w:Zr L n=[]:=by unfold Zr C4;rw [if_pos a,if_neg fun z=>by exact bE 0xc18c997d9836078d6f1907020 a z];rfl
   rw [if_pos a,w];exact .firm _ ⟨n,d,a,rfl⟩ o.1
  ·rw [if_neg a];exact .old _ _ (i (by exact bE 0x318d81e33a56f1907010 a)) o.1
 ·rw [if_neg c,decide_eq_false c];exact .new _ _ _ _ (i (by exact bE 0x318d81e33a56d9d07010 c)) g o.1 o.2 (by exact bE 0x10c5d2ba0e0010) (aGu b)
theorem ę(a:L.length≤39):∀(j k:Nat),k+j≤L.length→lC (zP L) k ((List.range' k j).map (Lm L)):=by
 intro j
 induction j with
 |zero=>intro k _;trivial
 |succ j b=>intro k h;exact ⟨aF7 a (by exact bE aAm h),b (k+1) (by exact bE aAt h)⟩
end
theorem Oo(a:aW):lC (zP (Fm a)) 0 (iF a):=by have:=ę (Ex a) (Fm a).length 0 (by exact bE 0x23148100301);unfold iF;rw [List.range_eq_range'];exact this
theorem R7(a:aW):(iF a).length≤39:=by unfold iF;rw [bF,gY];exact Ex a
theorem W4(a:aW):iF a≠[]:=fun e=>by have:=congrArg Ze e;unfold iF Fm at this;rw [bF,gY,aS]at this;exact absurd this (Nat.succ_ne_zero _)
theorem R6(a:aW):∀t∈iF a,t.1.length≤4:=fun t b=>by obtain ⟨n,_,rfl⟩:=qG.mp b;exact Z8 _ n
theorem V8{σ:St}{a b:V}{d:kR}(f:rJ vP 0 σ.cells a=some b)(e:Ny b=some d)(c:d.canLay0=true)(k:d.depth≤64):E8 σ a=some d:=by unfold E8;rw [f];show ob (Ny b) _=_;rw [e];exact if_pos (by unfold vU;rw [c,decide_eq_true k];rfl)
open Classical in
theorem aC8{x:kR}{a:V}(b:Xh (nbF 63) x=true)(ex:Ny a=some x):∀(l:cG)(ds:List kR),To l=some ds→ds.all (Xh (nbF 63))=true→(ds.any (fun z=>tP z x)=true↔a∈l):=by
 intro l
 induction l with
 |nil=>intro ds e _;cases e;simp
 |cons v r c=>intro ds e f;obtain ⟨d,g,e⟩:=dO e;obtain ⟨h,i,e⟩:=dO e;cases e;obtain ⟨j,k⟩:=xS f;rw [List.any_cons,Bs,c h i k,ĸ j b g ex,aU,eq_comm]
theorem aDn{σ:St}{a b c:V}{l:cG}{P:Prop}[Decidable P](g:rJ vP 0 σ.cells a=some c)(j:rJ vP 0 σ.cells b=some (.lst l))(k:ed 63 c=true)(m:l.all (ed 63)=true)(i:c∈l↔P):Ŧ a b σ=some (.bool (decide P),σ)∧Yb a b σ=some (.bool (!decide P),σ):=by
 obtain ⟨_,x,e,c1,n,b1⟩:=Tn 63 c k;obtain ⟨_,ds,f,c2,o,p⟩:=Wa (Tn 63) l m;have h:(ds.any fun z=>tP z x)=decide P:=by rw [Lc,aC8 b1 e l ds f p,i,decide_eq_true_iff]
 unfold Ŧ Yb;rw [V8 g e c1 (aFk n),V8 (d:=.list ds) j (congrArg (nA _) f) c2 (by rw [Rh];exact o),←h];exact ⟨rfl,rfl⟩
theorem aH6(n:Nat)(i:Int):ed n (.int i)=true:=by cases n<;>rfl
theorem aHd{σ:St}{a b:M V}{k:Int}{c:aW}(d:a σ=some (.int k,σ))(f:b σ=some (vL c,σ)):dU (bH Ŧ a b) σ=some (decide (k∈c),σ):=
 kH (dN d f (aDn (dF rfl) (dF (eK _)) (aH6 63 k) (V0 63 c) (by rw [qG];exact ⟨fun ⟨x,h,e⟩=>V.int.inj e▸h,fun h=>⟨k,h,rfl⟩⟩)).1)
theorem Lv{c:Type}{x:Nat}{a b:c}:∀{l:List (Nat×c)},(l.all fun p=>decide (p.1<x))=true→lQ x a (l++[(x,b)])=l++[(x,a)]∧lQ x a l=l++[(x,a)]:=by
 intro l
 induction l with
 |nil=>intro _;exact ⟨if_pos rfl,rfl⟩
 |cons p r e=>intro h;obtain ⟨f,g⟩:=xS h;have d:¬x=p.1:=jC (of_decide_eq_true f);obtain ⟨i,j⟩:=e g;exact ⟨(if_neg d).trans (congrArg _ i),(if_neg d).trans (congrArg _ j)⟩
theorem Wf{x:Nat}{z:List (Nat×V)}(a:F9 x z=[]):∀{l:List (Nat×V)},(l.all fun p=>decide (p.1<x))=true→F9 x (l++z)=l:=by
 intro l
 induction l with
 |nil=>intro _;exact a
 |cons p r b=>intro h;obtain ⟨c,d⟩:=xS h;exact (if_pos (of_decide_eq_true c)).trans (congrArg _ (b d))
noncomputable def Nh(σ:St)(x:Nat)(d:V):St:={σ with loc:=σ.loc++[(x,d)]}
theorem aMh{a:Type}{σ:St}{x:Nat}{gb:M cG}{c:a→V}{f:a→cG}(g:(σ.loc.all fun p=>decide (p.1<x))=true):∀{l:List a}{τ:St},(τ=σ∨∃d,τ=Nh σ x d)→(∀d∈l,gb (Nh σ x (c d))=some (f d,Nh σ x (c d)))→∃τ',M9 (bY x) gb (l.map c) τ=some (l.flatMap f,τ')∧(τ'=σ∨∃d,τ'=Nh σ x d):=by
 intro l
 induction l with
 |nil=>intro τ h _;exact ⟨τ,rfl,h⟩
 |cons d r j=>
  intro τ h i;have k:bY x (c d) τ=some (Nh σ x (c d)):=by
   rcases h with rfl|⟨m,rfl⟩
   ·exact congrArg some (congrArg (fun l=>{τ with loc:=l}) (Lv (b:=c d) g).2)
   ·exact congrArg some (congrArg (fun l=>{σ with loc:=l}) (Lv g).1)
  obtain ⟨τ',e,h'⟩:=j (τ:=Nh σ x (c d)) (.inr ⟨_,rfl⟩) fun d hd=>i d (aQ _ hd);refine ⟨τ',?_,h'⟩;rw [cS,aCr,k];show bd (gb (Nh σ x (c d))) _=_;rw [i d aR];show bd (M9 (bY x) gb (r.map c) (Nh σ x (c d))) _=_;rw [e];rfl
theorem Ug{a:Type}{σ:St}{x:Nat}{gi gb:M cG}{l:List a}(c:a→V)(f:a→cG)(e:gi σ=some (l.map c,σ))(b:(σ.loc.all fun p=>decide (p.1<x))=true)(h:∀d∈l,gb (Nh σ x (c d))=some (f d,Nh σ x (c d)))(g:(l.flatMap f).length≤lim):oD x gi (bY x) gb σ=some (.lst (l.flatMap f),σ):=by
 obtain ⟨τ',i,j⟩:=aMh (gb:=gb) b (.inl rfl) h;have k:Tp x τ'=σ:=by
  rcases j with rfl|⟨d,rfl⟩
  ·have:=Wf (z:=[]) (x:=x) rfl b;rw [bP]at this;exact congrArg (fun l=>{τ' with loc:=l}) this
  ·exact congrArg (fun l=>{σ with loc:=l}) (Wf (z:=[(x,d)]) (x:=x) (if_neg (fF x)) b)
 unfold oD;rw [e];show bd (M9 (bY x) gb (l.map c) σ) _=_;rw [i];show (if (l.flatMap f).length≤lim then _ else _)=_;rw [if_pos g,k]
theorem Hu{a:Type}{x:Nat}{v:a}{z:List (Nat×a)}:∀{l:List (Nat×a)},lk l x=some v→lk (l++z) x=some v:=by
 intro l
 induction l with
 |nil=>intro h;cases h
 |cons p r b=>
  intro h;by_cases q:x=p.1
  ·exact (if_pos q).trans ((if_pos q).symm.trans h)
  ·exact (if_neg q).trans (b ((if_neg q).symm.trans h))
theorem Md{σ:St}{x:Nat}{d:V}(a:(σ.loc.all fun p=>decide (p.1<x))=true):lk (Nh σ x d).loc x=some d:=by
 show lk (σ.loc++[(x,d)]) x=_;generalize σ.loc=l at a
 induction l with
 |nil=>exact if_pos rfl
 |cons p r b=>obtain ⟨c,e⟩:=xS a;exact (if_neg (jC (of_decide_eq_true c))).trans (b e)
theorem aFz{σ:St}{gc:M Bool}{ge:M V}{b:Bool}{v:V}(a:gc σ=some (b,σ))(c:b=true→ge σ=some (v,σ)):qQ gc (oC ge) σ=some (if b=true then[v]else[],σ):=by
 unfold qQ;rw [a]
 cases b with
 |false=>rfl
 |true=>show oC ge σ=_;unfold oC;rw [c rfl];rfl
theorem Vz{a:Type}(p:a→Bool)(g:a→V):∀l:List a,(l.flatMap fun i=>if p i=true then[g i]else[])=(l.filter p).map g:=by
 intro l
 induction l with
 |nil=>rfl
 |cons i r b=>
  rw [lF,b];by_cases h:p i=true
  ·rw [if_pos h,lG h];rfl
  ·rw [if_neg h,lH h];rfl
theorem Gf{a:Type}{σ:St}{x:Nat}{gi:M cG}{gc:M Bool}{ge:M V}{l:List a}(c:a→V)(p:a→Bool)(g:a→V)(e:gi σ=some (l.map c,σ))(d:(σ.loc.all fun p=>decide (p.1<x))=true)(f:l.length≤lim)
  (h:∀i∈l,gc (Nh σ x (c i))=some (p i,Nh σ x (c i))∧(p i=true→ge (Nh σ x (c i))=some (g i,Nh σ x (c i)))):oD x gi (bY x) (qQ gc (oC ge)) σ=some (.lst ((l.filter p).map g),σ):=by
 have b:=Ug (gb:=qQ gc (oC ge)) c (fun i=>if p i=true then[g i]else[]) e d (fun i hi=>aFz (h i hi).1 (h i hi).2) (by rw [Vz,bF];exact bR (B8 _ _) f);rw [Vz]at b;exact b
section
open MineH (at_ cL fr)
def lP(t:iP):V:=.tup [vL t.1,.bool t.2.1,vL t.2.2]
theorem Oj(t:iP):(lP t).pure=true:=by show eB [vL t.1,.bool t.2.1,vL t.2.2]=true;simp only [dT,dQ,eK,yI,eW]
theorem jJ(l:List iP):eB (l.map lP)=true:=by
 induction l with
 |nil=>rfl
 |cons t r a=>rw [cS,dQ,Oj,a];rfl
theorem Ln{σ:St}{gi:M cG}{gw:M V}{g:aW}{t:iP}(f:gi σ=some (g.map V.int,σ))(a:(σ.loc.all fun p=>decide (p.1<100))=true)(j:g.length≤1000)(hw:∀d,gw (Nh σ 100 d)=some (vL t.2.2,Nh σ 100 d)):
  bH rM (oD 100 gi (bY 100) (qQ (dU (bH Ŧ (aJ 100) gw)) (oC (aJ 100)))) (gE bJ) σ=some (.bool (!oJ g t),σ)∧bH Bi (oD 100 gi (bY 100) (qQ (dU (bH Ŧ (aJ 100) gw)) (oC (aJ 100)))) (gE bJ) σ=some (.bool (oJ g t),σ):=by
 have c:=Gf (x:=100) (gc:=dU (bH Ŧ (aJ 100) gw)) (ge:=aJ 100) V.int (fun s=>decide (s∈t.2.2)) V.int f a (bR j (by decide)) fun i _=>⟨aHd (bL (Md a)) (hw _),fun _=>bL (Md a)⟩;have e:decide (g.filter (fun s=>decide (s∈t.2.2))=[])= !oJ g t:=by rw [Lc,decide_eq_true_iff,jQ,aDk,nC];unfold oJ;rw [Ne,zN];exact ⟨fun h ⟨s,b,q⟩=>h s b q,fun h s b q=>h ⟨s,b,q⟩⟩
 have n:=nE (σ:=σ) (g:=bJ) bZ Ea;exact ⟨dN c n ((Z3 _ []).trans (by rw [e])),dN c n ((Zx _ []).trans (by rw [e,Bool.not_not]))⟩
def D3(ts:List iP):Prop:=ts.length≤40∧∀t∈ts,t.1.length≤4
theorem Ov{loc:List (Nat×V)}{g a:aW}{t:iP}(h:lk loc 1=some (vL g))(i:lk loc 2=some (.ref 0))(j:lk loc 3=some (vL t.1))(k:lk loc 4=some (.bool t.2.1))(m:lk loc 5=some (vL t.2.2))(o:(loc.all fun p=>decide (p.1<100))=true)(r:g.length≤1000)(s:a.length≤1000)(v:t.1.length≤4):
  Go (yO 1 ⟨loc,[(0,.list (a.map V.int))],1⟩) fun f τ=>f=.next∧τ=⟨loc,[(0,.list ((a++Ba g t).map V.int))],1⟩:=by
 have c:lim=1048576:=rfl;have x:=(Ln (σ:=⟨loc,[(0,.list (a.map V.int))],1⟩) (gi:=hF (aJ 1)) (gw:=aJ 5) (t:=t) (qB (bL h) (kY _)) o r fun d=>bL (Hu m)).1;unfold yO;refine mO (gF (b:=t.2.1== !oJ g t) (kH (dN (bL k) x (aDq _ _))) ?_);split
 ·rename_i q;have q:=eq_of_beq q;refine nK (rL (u:=.ref 0) (us:=[vL t.1]) (l:=a.map V.int) (bL i) rfl (bB (bL j) bZ) (xD (l':=t.1.map V.int) rfl rfl (by rw [bF];exact bE ln5 s c) (by rw [bF];exact bE aKu v c))) ⟨rfl,?_⟩;rw [←cE,show Ba g t=t.1 from if_pos q];rfl
 ·rename_i q;refine iN ⟨rfl,?_⟩;rw [show Ba g t=[]from if_neg fun e=>q (beq_iff_eq.mpr e),bP]
inductive JR(ts:List iP)(g:aW)(p:Nat)(τ:St):Prop
 |mk (x:List (Nat×V)) (bc:aW) (h:x=[]∨x=[(0,V.lst (ts.map lP))]) (e:τ=⟨x++[(1,vL g),(2,.ref 0)],[(0,.list (bc.map V.int))],1⟩) (d:bc++cT (ts.drop p) g=cT ts g)
theorem Ψ{a:List iP}{g:aW}(ok:D3 a)(l:g.length≤1000):Go (E3 0 ⟨[(0,.lst (a.map lP)),(1,vL g)],[],0⟩) fun f τ=>f=.ret (.ref 0)∧lk τ.cells 0=some (.list ((cT a g).map V.int)):=by
 have p:=zT (g:=g) ok.2;have r:=ok.1;let s0:St:=⟨[(0,.lst (a.map lP)),(1,vL g)],[],0⟩;let j:St:=⟨[(0,.lst (a.map lP)),(1,vL g),(2,.ref 0)],[(0,.list [])],1⟩;show Go (E3 0 s0) _;refine bV (dE (v:=.ref 0) (τ':=j) (nQ bZ Ea) rfl ?_);refine gL (σ':=j) rfl ?_;refine bV (wP (fun _=>False) (JR a g) (τ:=j) (qB (bL rfl) (jJ a)) (by show (0:Nat)≤1;decide) ⟨[(0,V.lst (a.map lP))],[],.inr rfl,rfl,rfl⟩ (fun i A v d s=>?_) (fun τ' u=>?_))
 ·rw [gJ]at d
  cases h:a[i]? with
  |none=>rw [h]at d;cases d
  |some t=>
   rw [h]at d;cases d;obtain ⟨y,z⟩:=cU.mp h;have m:=ok.2 t (aG h);obtain ⟨x,b,k,rfl,hd⟩:=s;rw [iL y,z,dA]at hd;have o:b.length≤1000:=by have:=congrArg Ze hd;rw [aS]at this;exact bE 0x6024e29c77e712c0818938e982980786004 p r this
   have fin:∀loc,A9 [1,2] ⟨loc,[(0,.list ((b++Ba g t).map V.int))],1⟩=⟨[(1,vL g),(2,.ref 0)],[(0,.list ((b++Ba g t).map V.int))],1⟩→I0 [1,2] 1 (JR a g (i+1)) ⟨loc,[(0,.list ((b++Ba g t).map V.int))],1⟩:=fun loc e=>
    ⟨_,pY e (by show ((stay 1 (vL g))&&_)=true;rw [hU (eK g)];rfl) (eH (by decide) (eQ (c:=.list _) (fU (kY _))) iW),[],b++Ba g t,.inl rfl,rfl,by rw [bU];exact hd⟩
   rcases k with rfl|rfl
   ·refine ⟨⟨[(1,vL g),(2,.ref 0),(3,vL t.1),(4,.bool t.2.1),(5,vL t.2.2)],[(0,.list (b.map V.int))],1⟩,rfl,(Ov rfl rfl rfl rfl rfl rfl l o m).mono ?_⟩;rintro f τ ⟨rfl,rfl⟩;exact fin _ rfl
   ·refine ⟨⟨[(0,V.lst (a.map lP)),(1,vL g),(2,.ref 0),(3,vL t.1),(4,.bool t.2.1),(5,vL t.2.2)],[(0,.list (b.map V.int))],1⟩,rfl,(Ov rfl rfl rfl rfl rfl rfl l o m).mono ?_⟩;rintro f τ ⟨rfl,rfl⟩;exact fin _ rfl
 ·obtain ⟨x,b,k,rfl,hd⟩:=u.resolve_right id;rw [bF,kP,tC,bP]at hd;subst hd;refine gL (σ':=⟨[(2,.ref 0)],[(0,.list ((cT a g).map V.int))],1⟩) (by rcases k with rfl|rfl<;>rfl) ?_;exact tS (v:=.ref 0) (bL rfl) ⟨rfl,rfl⟩
section
variable{n:Nat}
theorem aOp(G:Gd){a:List iP}{g:aW}(ok:D3 a)(b:g.length≤1000):Zb (n+1) (.ref 256) [.lst (a.map lP),vL g] (fun r=>r=vL (cT a g)):=by
 refine Yv.c (Ae (fd:=jS MineH.o256v0) (o:=MineH.o256v0) (tab:=zR) (body:=cL (at_ [8])) (eL w.params) (G.K 256 _ (by kernel_rfl)) rfl G.lim (codeRec_of G.K (by kernel_rfl)) rfl (fun vs h=>?_) (by show (2:Nat)≤6;decide) (by simp only [dT,dQ,qC,jJ,eK,eW]) fun L=>?_)
 ·revert vs;exact ll2 fun _ _=>by kernel_rfl
 ·obtain ⟨f,τ,e,rfl,c⟩:=Ψ ok b;refine jY (S4 G 0 _ _ _ e) ?_;rintro _ _ ⟨rfl,rfl⟩;exact ⟨vL (cT a g),qV (fS _) c (kY _),eK _,rfl⟩
end
end
section
open MineH (at_ cL fr)
theorem Mc{x y:Nat}{v u:V}{loc:List (Nat×V)}(n:y≠x)(h:lk loc y=some u):lk (lQ x v loc) y=some u:=(kU x v loc y).trans ((if_neg n).trans h)
theorem Mb{x:Nat}{v:V}{loc:List (Nat×V)}:lk (lQ x v loc) x=some v:=(kU x v loc x).trans (if_pos rfl)
def sWd(g:aW)(ws:List mU)(a b:Nat):St:=⟨[(1,vL g),(2,.ref 0),(3,vN a),(4,vN b)],[(0,.list (vJ ws))],1⟩
theorem kpW{g:aW}{c:List mU}{a b:Nat}{loc:List (Nat×V)}(d:lk loc 1=some (vL g))(e:lk loc 2=some (.ref 0))(f:lk loc 3=some (vN a))(h:lk loc 4=some (vN b)):A9 [1,2,3,4] ⟨loc,[(0,.list (vJ c))],1⟩=sWd g c a b:=by simp only [A9,xJ,xK,d,e,f,h];rfl
def aDl(g:aW)(ts:List iP)(d6 ws:List mU)(a b:Nat)(τ:St):Prop:=A9 [1,2,3,4] τ=sWd g ws a b∧ws++pO g ts a b=d6
theorem G7{loc:List (Nat×V)}{g:aW}{e H:List mU}{a b:Nat}{t:iP}{r:List iP}(o:lk loc 1=some (vL g))(s:lk loc 2=some (.ref 0))(x:lk loc 3=some (vN a))(A:lk loc 4=some (vN b))(L:lk loc 6=some (.bool t.2.1))(N:lk loc 7=some (vL t.2.2))(O:(loc.all fun p=>decide (p.1<100))=true)(P:g.length≤1000)(hw:e.length≤1000)(j:e++pO g (t::r) a b=H):
  Go (vF 1 ⟨loc,[(0,.list (vJ e))],1⟩) fun f τ=>f=.next∧∃I Q b',I.length≤e.length+1∧aDl g r H I Q b' τ:=by
 have R:lim=1048576:=rfl;have T:=(Ln (σ:=⟨loc,[(0,.list (vJ e))],1⟩) (gi:=hF (aJ 1)) (gw:=aJ 7) (t:=t) (qB (bL o) (kY _)) O P fun d=>bL (Hu N)).2;let m:=lQ 8 (.bool (oJ g t)) loc;let i:St:=⟨m,[(0,.list (vJ e))],1⟩;have k:∀{y u},y≠8→lk loc y=some u→lk m y=some u:=fun n h=>Mc n h;rw [lI]at j;unfold vF;refine bV (dE (τ':=i) T rfl ?_);have G:oB (aJ 8) i=some (oJ g t,i):=vZ (bL Mb) rfl;have J:oB (aJ 6) i=some (t.2.1,i):=vZ (bL (k (by decide) L)) rfl;refine mO (gW (gF G ?_))
 cases D:oJ g t with
 |true=>
  rw [D,if_pos rfl]at j;rw [if_pos rfl];refine gW (gF J ?_)
  cases B:t.2.1 with
  |true=>rw [B,if_pos rfl]at j;rw [if_pos rfl];refine wQ (S9 (old:=vN a) (v:=vN 1) (r:=vN (a+1)) (k (by decide) x) rfl Lf ⟨rfl,e,a+1,b,fI _,?_,j⟩);exact kpW (Mc (by decide) (k (by decide) o)) (Mc (by decide) (k (by decide) s)) Mb (Mc (by decide) (k (by decide) A))
  |false=>rw [B,if_neg aY]at j;rw [if_neg aY,if_neg aY];refine mO (gF G ?_);rw [D,if_pos rfl];refine S9 (old:=vN b) (v:=vN 1) (r:=vN (b+1)) (k (by decide) A) rfl Lf ⟨rfl,e,a,b+1,fI _,?_,j⟩;exact kpW (Mc (by decide) (k (by decide) o)) (Mc (by decide) (k (by decide) s)) (Mc (by decide) (k (by decide) x)) Mb
 |false=>
  rw [D,if_neg aY]at j;rw [if_neg aY,if_neg aY];refine mO (gF G ?_);rw [D,if_neg aY];have same:A9 [1,2,3,4] i=sWd g e a b:=kpW (k (by decide) o) (k (by decide) s) (k (by decide) x) (k (by decide) A);refine mO (gW (gF J ?_))
  cases B:t.2.1 with
  |false=>rw [if_neg (by rw [B];exact fun z=>aY z.1)]at j;rw [if_neg aY,if_neg aY];exact iN ⟨rfl,e,a,b,fI _,same,j⟩
  |true=>
   rw [if_pos rfl];have gt:dU (bH Ħ (bH fQ (aJ 3) (aJ 4)) (gK (.int 0))) i=some (decide (0<a+b),i):=by
    refine kH (dN (a:=vN (a+b)) (dN (bL (k (by decide) x)) (bL (k (by decide) A)) Rr) rfl ?_);show some (V.bool (decide ((0:Int)<((a+b:Nat):Int))),i)=_
    congr 3
    exact decide_eq_decide.mpr (by omega)
   refine gW (gF gt ?_);by_cases F:0<a+b
   ·rw [if_pos ⟨B,F⟩]at j;rw [iM F];refine wQ ?_;rw [if_pos rfl];have z:∀(y c:Nat),lk m y=some (vN c)→dU (bH rM (aJ y) (gK (.int 0))) i=some (decide (c=0),i):=fun y c h=>by
     refine kH (dN (bL h) (b:=.int 0) rfl ((aDp _ _).trans ?_))
     congr 3
     exact decide_eq_decide.mpr (by omega)
    have W:xP (dU (bH rM (aJ 3) (gK (.int 0)))) (gK (.str (aC "insert"))) (xP (dU (bH rM (aJ 4) (gK (.int 0)))) (gK (.str (aC "delete"))) (gK (.str (aC "replace")))) i=some (.str (Z9 a b).s,i):=by unfold Z9;refine Ld (z 3 a (k (by decide) x)) (fun h=>by rw [if_pos (of_decide_eq_true h)];rfl) fun h=>?_;rw [if_neg (of_decide_eq_false h)];exact Ld (z 4 b (k (by decide) A)) (fun h=>by rw [if_pos (of_decide_eq_true h)];rfl) fun h=>by rw [if_neg (of_decide_eq_false h)];rfl
    refine bV (nK (rL (u:=.ref 0) (us:=[.str (Z9 a b).s]) (l:=vJ e) (bL (k (by decide) s)) rfl (bB W bZ) (jH (l:=vJ e) rfl (by unfold vJ;rw [bF];exact bE ln5 hw R))) ?_);let C:St:=⟨m,[(0,.list (vJ (e++[Z9 a b])))],1⟩;have X:({i with cells:=lQ 0 (.list (vJ e++[.str (Z9 a b).s])) i.cells}:St)=C:=by show (⟨m,[(0,.list (vJ e++[.str (Z9 a b).s]))],1⟩:St)=C;unfold C vJ;rw [cE];rfl
    rw [X];refine dE (v:=.tup [vN 0,vN 0]) (τ:=C) (τ':=⟨lQ 4 (vN 0) (lQ 3 (vN 0) m),C.cells,1⟩) (jE (bB (v:=vN 0) rfl (bB (v:=vN 0) rfl bZ)) Cz) rfl ⟨rfl,e++[Z9 a b],0,0,by simp,?_,by rw [bU];exact j⟩;exact kpW (Mc (by decide) (Mc (by decide) (k (by decide) o))) (Mc (by decide) (Mc (by decide) (k (by decide) s))) (Mc (by decide) Mb) Mb
   ·rw [if_neg fun z=>F z.2]at j;rw [fT F,if_neg aY];exact iN ⟨rfl,e,a,b,fI _,same,j⟩
inductive JW(x0:V)(g:aW)(ts:List iP)(d6:List mU)(p:Nat)(τ:St):Prop
 |mk (x:List (Nat×V)) (ws:List mU) (a b:Nat) (h:x=[]∨x=[(0,x0)]) (e:τ=⟨x++[(1,vL g),(2,.ref 0),(3,vN a),(4,vN b)],[(0,.list (vJ ws))],1⟩) (l:ws.length≤p) (d:ws++pO g (ts.drop p) a b=d6)
theorem Wy{st:List iP}{g:aW}(ok:D3 st)(A:g.length≤1000):Go (zZ 0 ⟨[(0,.lst (st.map lP)),(1,vL g)],[],0⟩) fun f τ=>f=.ret (.ref 0)∧lk τ.cells 0=some (.list (vJ (iD st g))):=by
 have B:=ok.1;let X:V:=.lst (st.map lP);let s0:St:=⟨[(0,X),(1,vL g)],[],0⟩;let k:St:=⟨[(0,X),(1,vL g),(2,.ref 0),(3,vN 0),(4,vN 0)],[(0,.list [])],1⟩;let p:St:=⟨[(0,X),(1,vL g),(4,vN 0),(3,vN 0),(2,.ref 0)],[(0,.list [])],1⟩;let d:=st++[Kc];have C:d.length≤41:=by show (st++[Kc]).length≤41;rw [aS];exact ţ B 1
 show Go (zZ 0 s0) _;refine bV (dE (v:=.tup [.ref 0,vN 0,vN 0]) (τ:=⟨[(0,X),(1,vL g)],[(0,.list [])],1⟩) (τ':=p) (jE (bB (nQ (τ:=s0) bZ Ea) (bB (v:=vN 0) rfl (bB (v:=vN 0) rfl bZ))) Hr) rfl ?_);refine gL (σ':=k) rfl ?_;have hi:hF (bH fQ (aJ 0) (gE (aK (fY (aK (gE bJ) (aK (gK (.bool true)) (aK (gE bJ) bJ)))) bJ))) k=some (d.map lP,k):=by refine qB (l:=d.map lP) ?_ (jJ _);refine (dN (a:=X) (b:=.lst [lP Kc]) (bL rfl) (nE (bB (jE (bB (nE bZ Ea) (bB rfl (bB (nE bZ Ea) bZ))) Hr) bZ) lm1) (Gg (by rw [bF,eV];exact bE aKo B))).trans ?_;show _=some (V.lst ((st++[Kc]).map lP),k);rw [cE];rfl
 refine bV (wP (fun _=>False) (JW X g d (iD st g)) (τ:=k) hi (by show (0:Nat)≤1;decide) ⟨[(0,X)],[],0,0,.inr rfl,rfl,bG _,rfl⟩ (fun i J v m D=>?_) (fun τ' F=>?_))
 ·rw [gJ]at m
  cases r:d[i]? with
  |none=>rw [r]at m;cases m
  |some t=>
   rw [r]at m;cases m;obtain ⟨s,G⟩:=cU.mp r;obtain ⟨x,j,a,b,u,rfl,y,hd⟩:=D;rw [iL s,G]at hd;have fin:∀(Rt:V→iX) f τ,(f=Fl.next∧∃o z b',o.length≤j.length+1∧aDl g (d.drop (i+1)) (iD st g) o z b' τ)→xT [1,2,3,4] 1 (JW X g d (iD st g) (i+1)) (fun _=>False) Rt f τ:=fun Rt f τ h=>by obtain ⟨rfl,o,z,b',H,e,I⟩:=h;exact ⟨_,pY e (by show ((stay 1 (vL g))&&_)=true;rw [hU (eK g)];rfl) (eH (by decide) (eQ (c:=.list _) (fU (wA _))) iW),[],o,z,b',.inl rfl,rfl,by exact bE aAp y H,I⟩
   rcases u with rfl|rfl
   ·exact ⟨⟨[(1,vL g),(2,.ref 0),(3,vN a),(4,vN b),(5,vL t.1),(6,.bool t.2.1),(7,vL t.2.2)],[(0,.list (vJ j))],1⟩,rfl,(G7 rfl rfl rfl rfl rfl rfl rfl A (by exact bE aAy C s y) hd).mono (fin _)⟩
   ·exact ⟨⟨[(0,X),(1,vL g),(2,.ref 0),(3,vN a),(4,vN b),(5,vL t.1),(6,.bool t.2.1),(7,vL t.2.2)],[(0,.list (vJ j))],1⟩,rfl,(G7 rfl rfl rfl rfl rfl rfl rfl A (by exact bE aAy C s y) hd).mono (fin _)⟩
 ·obtain ⟨x,j,a,b,u,rfl,_,hd⟩:=F.resolve_right id;rw [bF,kP]at hd;have hd:j=iD st g:=(bP j).symm.trans hd;subst hd;refine gL (σ':=⟨[(2,.ref 0)],[(0,.list (vJ (iD st g)))],1⟩) (by rcases u with rfl|rfl<;>rfl) ?_;exact tS (v:=.ref 0) (bL rfl) ⟨rfl,rfl⟩
def vW(l:List mU):V:=.lst (vJ l)
theorem Uh(l:List mU):(vW l).pure=true:=wA l
section
variable{n:Nat}
theorem aId(G:Gd){st:List iP}{g:aW}(ok:D3 st)(a:g.length≤1000):Zb (n+1) (.ref 261) [.lst (st.map lP),vL g] (fun r=>r=vW (iD st g)):=by
 refine Yv.c (Ae (fd:=jS MineH.o261v0) (o:=MineH.o261v0) (tab:=wN) (body:=cL (at_ [9])) (jL w.params) (G.K 261 _ (by kernel_rfl)) rfl G.lim (codeRec_of G.K (by kernel_rfl)) rfl (fun vs h=>?_) (by show (2:Nat)≤9;decide) (by simp only [dT,dQ,qC,jJ,eK,eW]) fun L=>?_)
 ·revert vs;exact ll2 fun _ _=>by kernel_rfl
 ·obtain ⟨f,τ,e,rfl,b⟩:=Wy ok a;refine jY (Mj G 0 _ _ _ e) ?_;rintro _ _ ⟨rfl,rfl⟩;exact ⟨vW (iD st g),qV (fS _) b (wA _),Uh _,rfl⟩
end
end
section
open MineH (at_ cL fr)
open Classical in
def Qc{α:Type}(enc:α→cG)(ok:α→Prop)(l5:α→V):cG→qM:=fun us=>if h:∃a,us=enc a∧ok a then some (l5 h.choose)else aF
theorem Gv{c:Type}{enc:c→cG}{ok:c→Prop}{d:c→V}{a:c}{σ:St}(inj:∀a b,enc a=enc b→d a=d b)(e:eB (enc a)=true)(f:ok a):Qd (Qc enc ok d) (enc a) σ=some (d a,σ):=by have h:∃b,enc a=enc b∧ok b:=⟨a,rfl,f⟩;unfold Qd Qc;rw [if_pos e,dif_pos h,inj a _ h.choose_spec.1];rfl
theorem opC{n:Nat}{f:bO}{b:Type}{enc:b→cG}{ok:b→Prop}{d:b→V}(c:∀a,ok a→Zb n f (enc a) (fun r=>r=d a))(F:Fx):B2 n F f (Qd (Qc enc ok d)):=Ú fun us r _ e=>by
 unfold Qc at e;split at e
 ·rename_i h;cases e;have q:=c _ h.choose_spec.2;rw [←h.choose_spec.1]at q;exact q
 ·cases e
theorem yF{A B:aW}(h:vL A=vL B):A=B:=zW (V.lst.inj h)
theorem Ui:∀{l l':List iP},l.map lP=l'.map lP→l=l':=by
 intro l
 induction l with
 |nil=>intro l' h;cases l' with
  |nil=>rfl
  |cons _ _=>cases h
 |cons t r e=>intro l' h;cases l' with
  |nil=>cases h
  |cons f i=>rw [cS,cS,iR]at h;obtain ⟨d,g⟩:=h;obtain ⟨a,b,c⟩:=t;obtain ⟨j,b',k⟩:=f;simp only [lP,V.tup.injEq,iR,V.bool.injEq,and_true]at d;rw [e g,yF d.1,d.2.1,yF d.2.2]
def Tl(a:List iP×aW):cG:=[.lst (a.1.map lP),vL a.2]
def okG(a:List iP×aW):Prop:=D3 a.1∧a.2.length≤1000
theorem Kv(a:List iP×aW):eB (Tl a)=true:=by unfold Tl;simp only [dT,dQ,qC,jJ,eK,eW]
theorem P7{a b:List iP×aW}(h:Tl a=Tl b):a=b:=by obtain ⟨a1,c⟩:=a;obtain ⟨b1,d⟩:=b;simp only [Tl,iR,V.lst.injEq,and_true]at h;rw [Ui h.1,yF h.2]
abbrev F7:qR:=Qd (Qc Tl okG fun a=>vL (cT a.1 a.2))
abbrev ŀ:qR:=Qd (Qc Tl okG fun a=>vW (iD a.1 a.2))
theorem Gw{c:List iP}{g:aW}{σ:St}(ok:D3 c)(d:g.length≤1000):F7 [.lst (c.map lP),vL g] σ=some (vL (cT c g),σ):=Gv (a:=(c,g)) (fun a b e=>by rw [P7 e]) (Kv _) ⟨ok,d⟩
theorem Wb{c:List iP}{g:aW}{σ:St}(ok:D3 c)(d:g.length≤1000):ŀ [.lst (c.map lP),vL g] σ=some (vW (iD c g),σ):=Gv (a:=(c,g)) (fun a b e=>by rw [P7 e]) (Kv _) ⟨ok,d⟩
theorem aDv{n:Nat}(G:Gd)(F:Fx):B2 (n+1) F (.ref 256) F7:=opC (fun a h=>aOp G h.1 h.2) F
theorem aJ2{n:Nat}(G:Gd)(F:Fx):B2 (n+1) F (.ref 261) ŀ:=opC (fun a h=>aId G h.1 h.2) F
theorem aE5(n:Nat)(l:List mU):ed (n+1) (vW l)=true:=by
 show (vJ l).all (ed n)=true
 induction l with
 |nil=>rfl
 |cons t r a=>show (ed n (.str t.s)&& (vJ r).all (ed n))=true;rw [M5,a];rfl
theorem Z4{l:List mU}:vW l=.lst []↔l=[]:=by unfold vW vJ;cases l<;>simp
def W8(g:aW)(s:Int)(told:List jM)(mg:List kQ)(st:List iP):St:=
 ⟨[(1,vL g),(2,.int s),(3,.ref 0),(4,.ref 1),(5,.ref 2)],[(2,.list (st.map lP)),(1,.list (mg.map iV)),(0,.list (told.map iU))],3⟩
theorem P9{loc loc':List (Nat×V)}{g:aW}{s:Int}{told:List jM}{c:List kQ}{st:List iP}{t:iP}
  (I:lk loc 1=some (vL g)) (h2:lk loc 2=some (.int s)) (h3:lk loc 3=some (.ref 0)) (h4:lk loc 4=some (.ref 1)) (h5:lk loc 5=some (.ref 2)) (N:lk loc 6=some (lP t)) (hl:(loc.all fun p=>decide (p.1<100))=true)
  (hf:frz 2 ⟨loc,[(2,.list (st.map lP)),(1,.list (c.map iV)),(0,.list (told.map iU))],3⟩=some ⟨loc',[(1,.list (c.map iV)),(0,.list (told.map iU))],2⟩)
  (O:lk loc' 1=some (vL g)) (Q:lk loc' 2=some (.int s)) (k3:lk loc' 3=some (.ref 0)) (k4:lk loc' 4=some (.ref 1)) (J:lk loc' 5=some (.lst (st.map lP))) (k6:lk loc' 6=some (lP t)) (qo:(loc'.all fun p=>decide (p.1<7))=true)
  (D:g.length≤900) (ht:told.length≤1000) (hm:c.length≤100000) (ok:D3 st) (tl:t.1.length≤4) (R:List jM×List kQ) (r:List iP) (F:E7 g s (t::r) st told c=R):
  Go (yP ŀ F7 2 ⟨loc,[(2,.list (st.map lP)),(1,.list (c.map iV)),(0,.list (told.map iU))],3⟩) fun f τ=>f=.next∧∃x A j,x.length≤told.length+1∧A.length≤c.length+200∧j.length≤st.length+1∧(∀u∈j,u=t∨u∈st)∧E7 g s r j x A=R∧A9 [1,2,3,4,5] τ=W8 g s x A j:=by
 have B:lim=1048576:=rfl;have xh:=ok.1;let c3:List (Nat×gC):=[(2,.list (st.map lP)),(1,.list (c.map iV)),(0,.list (told.map iU))];have gs:hF (bH fQ (aJ 1) (gE (aK (aJ 2) bJ))) ⟨loc,c3,3⟩=some ((g++[s]).map V.int,⟨loc,c3,3⟩):=qB ((dN (bL I) (b:=vL [s]) (nE (bB (bL h2) bZ) lm1) (yC (by rw [eV];exact bE aKt D)))) (kY _);have T:∀{loc:List (Nat×V)}{cs:List (Nat×gC)}{n k:Nat}{v:V},lk loc 6=some (lP t)→[vL t.1,.bool t.2.1,vL t.2.2][k]?=some v→bH hO (aJ 6) (gK (vN k)) ⟨loc,cs,n⟩=some (v,⟨loc,cs,n⟩):=fun h e=>dN (bL h) rfl (Cb e (by exact Hr));have X:=(Ln (σ:=⟨loc,c3,3⟩) (gi:=hF (bH fQ (aJ 1) (gE (aK (aJ 2) bJ)))) (gw:=bH hO (aJ 6) (gK (vN 2))) (t:=t) gs hl (by rw [aS,eV];exact bE aEm D) fun d=>T (Hu N) rfl).1;rw [uQ]at F;unfold yP;refine mO (gW (gF (vZ (T (k:=1) N rfl) rfl) ?_));have stay:¬(t.2.1=true∧oJ (g++[s]) t=false)→Go (sE (uF fD (aJ 5) (aK (aJ 6) bJ)) 2 ⟨loc,c3,3⟩) fun f τ=>f=.next∧∃x A j,x.length≤told.length+1∧A.length≤c.length+200∧j.length≤st.length+1∧(∀u∈j,u=t∨u∈st)∧E7 g s r j x A=R∧A9 [1,2,3,4,5] τ=W8 g s x A j:=fun hn=>by
  rw [if_neg hn]at F;refine nK (rL (u:=.ref 2) (us:=[lP t]) (l:=st.map lP) (bL h5) rfl (bB (bL N) bZ) (jH (l:=st.map lP) rfl (by rw [bF];exact bE 0x2c62900538e982bc6318c6386002 B xh))) ⟨rfl,told,c,st++[t],fI _,cC _ _,by simp,fun u Z=>?_,F,?_⟩
  ·rcases dC.mp Z with q|q
   ·exact .inr q
   ·exact .inl (aM.mp q)
  ·simp only [A9,xJ,xK,I,h2,h3,h4,h5];unfold W8;rw [cE];rfl
 cases ho:t.2.1 with
 |false=>rw [if_neg aY,if_neg aY];exact stay (by rw [ho];exact fun z=>aY z.1)
 |true=>
 rw [if_pos rfl];refine gW (gF (kH X) ?_)
 cases hc:oJ (g++[s]) t with
 |true=>rw [Fj,if_neg aY,if_neg aY];exact stay (by rw [hc];exact fun z=>aY z.2.symm)
 |false=>
 rw [if_pos ⟨ho,hc⟩]at F;rw [C2,if_pos rfl];refine wQ ?_;rw [if_pos rfl];refine S8 hf ?_;let w0:=iD st g;let w1:=iD st [s];let c2:cG→cG→List (Nat×gC):=fun a b=>[(1,.list b),(0,.list a)];let A0:=told.map iU;let B0:=c.map iV;let s0:St:=⟨loc',c2 A0 B0,2⟩;have one:∀{loc:List (Nat×V)}{cs:List (Nat×gC)}{n:Nat},lk loc 2=some (.int s)→gE (aK (aJ 2) bJ) ⟨loc,cs,n⟩=some (vL [s],⟨loc,cs,n⟩):=fun h=>nE (bB (bL h) bZ) lm1;let W:V:=.lst [vW w0,vW w1];let m:=lQ 7 W loc';have e1:m=loc'++[(7,W)]:=(Lv (b:=W) qo).2;have q1:∀{y u},y≠7→lk loc' y=some u→lk m y=some u:=fun n h=>Mc n h;refine bV (dE (v:=W) (τ:=s0) (τ':=⟨m,c2 A0 B0,2⟩) (nE (bB (lO (bB (bL J) (bB (bL O) bZ)) (Wb ok (by exact bE aEb D))) (bB (lO (bB (bL J) (bB (one Q) bZ)) (Wb ok (by show (1:Nat)≤1000;decide))) bZ)) Cz) rfl ?_);let Y:V:=.lst [vL (cT st []),vL (cT st g),vL (cT st [s])];let i:=lQ 8 Y m;have G:(m.all fun p=>decide (p.1<100))=true:=by rw [e1,List.all_append,gG];exact ⟨fR.mpr fun p hp=>decide_eq_true (oT (of_decide_eq_true (fR.mp qo p hp)) (by decide)),rfl⟩
 have aa3:oD 100 (hF (fY (aK (gE bJ) (aK (aJ 1) (aK (gE (aK (aJ 2) bJ)) bJ))))) (bY 100) (oC (iO F7 (aK (aJ 5) (aK (aJ 100) bJ)))) ⟨m,c2 A0 B0,2⟩=some (Y,⟨m,c2 A0 B0,2⟩):=by
  refine Ug (σ:=⟨m,c2 A0 B0,2⟩) (l:=[[],g,[s]]) vL (fun h=>[vL (cT st h)]) ?_ G (fun h hh=>?_) Hr
  ·unfold hF;rw [jE (bB (v:=vL []) (nE (vs:=[]) bZ Ea) (bB (bL (q1 (by decide) O)) (bB (one (q1 (by decide) Q)) bZ))) Hr];show ob (Mg (.tup [vL [],vL g,vL [s]])) _=_;have:eB [vL [],vL g,vL [s]]=true:=by simp only [dT,dQ,eK,eW]
   show ob (oo (some [vL [],vL g,vL [s]]) zU _) _=_;show ob (zU [vL [],vL g,vL [s]]) _=_;unfold zU;rw [if_pos this];rfl
  ·unfold oC;rw [lO (bB (bL (Hu (q1 (by decide) J))) (bB (bL (Md G)) bZ)) (Gw ok ?_)]
   ·rfl
   ·simp only [aU,kO,or_false]at hh;rcases hh with rfl|rfl|rfl
    ·exact bW _
    ·exact bE aEb D
    ·show (1:Nat)≤1000;decide
 refine bV (dE (v:=Y) (τ':=⟨i,c2 A0 B0,2⟩) aa3 rfl ?_);have C:∀{y u},y≠8→y≠7→lk loc' y=some u→lk i y=some u:=fun n n' h=>Mc n (Mc n' h);have l7:lk i 7=some W:=Mc (by decide) Mb;have l8:lk i 8=some Y:=Mb;have pw:eB [vW w0,vW w1]=true:=by simp only [dT,dQ,Uh];rfl
 have H:[vW w0,vW w1].all (ed 63)=true:=by simp only [gV,qH,aE5,eW]
 have ix:∀{loc:List (Nat×V)}{cs:List (Nat×gC)}{n k:Nat}{v:V},lk loc 8=some Y→[vL (cT st []),vL (cT st g),vL (cT st [s])][k]?=some v→bH hO (aJ 8) (gK (vN k)) ⟨loc,cs,n⟩=some (v,⟨loc,cs,n⟩):=fun h e=>dN (bL h) rfl (wM e (by exact Hr));have e0:∀{σ:St},gE bJ σ=some (.lst [],σ):=fun {σ}=>nE bZ Ea;have wt:dU (bH Bi (aJ 7) (gE (aK (gE bJ) (aK (gE bJ) bJ)))) ⟨i,c2 A0 B0,2⟩=some (!decide (w0=[]∧w1=[]),⟨i,c2 A0 B0,2⟩):=
  kH (dN (bL l7) (nE (bB e0 (bB e0 bZ)) Cz) (G8 (P:=w0=[]∧w1=[]) (dF (show V.pure W=true from pw)) (dF rfl) H rfl (by simp only [W,V.lst.injEq,iR,and_true,Z4])).2)
 let A1:=A0++(uS st g s).map iU;let o:St:=⟨[(1,vL g),(2,.int s),(3,.ref 0),(4,.ref 1),(5,.lst (st.map lP)),(6,lP t),(7,W),(8,Y)],c2 A1 B0,2⟩;have kp2:A9 [1,2,3,4,5,6,7,8] ⟨i,c2 A1 B0,2⟩=o:=by simp only [A9,xJ,xK,C (by decide) (by decide) O,C (by decide) (by decide) Q,C (by decide) (by decide) k3,C (by decide) (by decide) k4,C (by decide) (by decide) J,C (by decide) (by decide) k6,l7,l8];rfl
 have tol:Go (rP (dU (bH Bi (aJ 7) (gE (aK (gE bJ) (aK (gE bJ) bJ))))) (sE (uF fD (aJ 3) (aK (fY (aK (bH hO (aJ 8) (gK (.int 0))) (aK (aJ 7) bJ))) bJ))) (lS .next) 2 ⟨i,c2 A0 B0,2⟩) fun f τ=>f=.next∧τ=⟨i,c2 A1 B0,2⟩:=by
  refine mO (gF wt ?_);by_cases hw:w0=[]∧w1=[]
  ·rw [decide_eq_true hw,Fj,if_neg aY];refine iN ⟨rfl,?_⟩;show _=(⟨i,c2 (A0++(uS st g s).map iU) B0,2⟩:St);rw [show uS st g s=[]from if_pos hw,wL,bP]
  ·rw [decide_eq_false hw,C2,if_pos rfl];refine nK (rL (u:=.ref 0) (us:=[iU (cT st [],w0,w1)]) (l:=A0) (bL (C (by decide) (by decide) k3)) rfl (bB (jE (bB (ix (k:=0) l8 rfl) (bB (bL l7) bZ)) Cz) bZ) (jH (l:=A0) rfl (by show (told.map iU).length≤lim;rw [bF];exact bE ln5 ht B))) ⟨rfl,?_⟩;show _=(⟨i,c2 (A0++(uS st g s).map iU) B0,2⟩:St);rw [show uS st g s=[(cT st [],w0,w1)]from if_neg hw];rfl
 refine bV (tol.mono ?_);rintro _ _ ⟨rfl,rfl⟩;refine gL kp2 ?_;let B1:=B0++(lY st g s).map iV;let s3:St:=⟨o.loc,c2 A1 B1,2⟩;have rl:∀h,(cT st h).length≤160:=fun h=>by have:=zT (g:=h) ok.2;exact bE 0x212714e39a30530070c14e3a6002 xh this
 have wl:(lY st g s).length≤160:=by
  unfold lY;split
  ·rw [bF];exact rl _
  ·show (1:Nat)≤160;decide
 have hB:B0.length≤100000:=by show (c.map iV).length≤_;rw [bF];exact hm
 have vz:Go (rP (kL (dU (bH Yb (gE bJ) (aJ 7))) (kL (dU (bH Bi (bH hO (aJ 8) (gK (.int 1))) (bH hO (aJ 8) (gK (.int 2))))) (fun σ=>some (true,σ)))) (sE (uF fD (aJ 4) (aK (aJ 8) bJ))) (sE (uF uH (aJ 4) (aK (iO F7 (aK (aJ 5) (aK (bH fQ (aJ 1) (gE (aK (aJ 2) bJ))) bJ))) bJ))) 2 o) fun f τ=>f=.next∧τ=s3:=by
  have ext:(w0=[]∨w1=[])∨cT st g=cT st [s]→Go (sE (uF uH (aJ 4) (aK (iO F7 (aK (aJ 5) (aK (bH fQ (aJ 1) (gE (aK (aJ 2) bJ))) bJ))) bJ)) 2 o) fun f τ=>f=.next∧τ=s3:=fun h=>by refine nK (rL (u:=.ref 1) (us:=[vL (cT st (g++[s]))]) (l:=B0) (bL rfl) rfl (bB (lO (bB (bL rfl) (bB (dN (bL rfl) (b:=vL [s]) (one rfl) (yC (by rw [eV];exact bE aKt D))) bZ)) (Gw ok (by rw [aS,eV];exact bE aEm D))) bZ) (xD (l:=B0) (l':=(cT st (g++[s])).map V.int) rfl rfl (by exact bE aK9 B hB) (by rw [bF];have:=rl (g++[s]);exact bE 0x58c5200a71cd182bc6318c6386002 B this))) ⟨rfl,?_⟩;show _=(⟨o.loc,c2 A1 (B0++(lY st g s).map iV),2⟩:St);rw [show lY st g s=(cT st (g++[s])).map .i from if_pos h,yK];rfl
  have nin:dU (bH Yb (gE bJ) (aJ 7)) o=some (!decide (w0=[]∨w1=[]),o):=kH (dN e0 (bL rfl) (aDn (P:=w0=[]∨w1=[]) (dF rfl) (dF (show V.pure W=true from pw)) rfl H (by simp only [aU,kO,or_false,eq_comm (a:=V.lst []),Z4])).2);refine mO (gW (gF nin ?_));by_cases hw:w0=[]∨w1=[]
  ·rw [decide_eq_true hw,Fj,if_neg aY,if_neg aY];exact ext (.inl hw)
  ·rw [decide_eq_false hw,C2,if_pos rfl];refine gW (gF (kH (dN (ix (k:=1) rfl rfl) (ix (k:=2) rfl rfl) (Zx _ _))) ?_);by_cases L:cT st g=cT st [s]
   ·rw [decide_eq_true L,Fj,if_neg aY,if_neg aY];exact ext (.inr L)
   ·rw [decide_eq_false L,C2,if_pos rfl];refine wQ ?_;rw [if_pos rfl];refine nK (rL (u:=.ref 1) (us:=[Y]) (l:=B0) (bL rfl) rfl (bB (bL rfl) bZ) (jH (l:=B0) rfl (by exact bE aK9 B hB))) ⟨rfl,?_⟩;show _=(⟨o.loc,c2 A1 (B0++(lY st g s).map iV),2⟩:St);rw [show lY st g s=[.c (cT st []) (cT st g) (cT st [s])]from if_neg fun z=>z.elim hw L];rfl
 refine bV (vz.mono ?_);rintro _ _ ⟨rfl,rfl⟩;let s4:St:=⟨[(1,vL g),(2,.int s),(3,.ref 0),(4,.ref 1),(6,lP t)],c2 A1 B1,2⟩;refine gL (σ':=s4) rfl ?_;have bl:B1.length≤lim:=by
  have I:((lY st g s).map iV).length≤160:=by rw [bF];exact wl
  show (B0++(lY st g s).map iV).length≤lim;rw [aS];exact bE 0x5c629020414e39a30938e6b78d982bc6318c6386003 B hB I
 let s5:St:=⟨s4.loc,c2 A1 (B1++t.1.map V.int),2⟩;refine bV (nK (τ:=s5) (rL (u:=.ref 1) (us:=[vL t.1]) (l:=B1) (bL rfl) rfl (bB (T (k:=0) rfl rfl) bZ) (xD (l:=B1) (l':=t.1.map V.int) rfl rfl bl (by rw [bF];exact bE aKu tl B))) ?_);refine dE (v:=.ref 2) (τ:=⟨s4.loc,(2,.list [])::c2 A1 (B1++t.1.map V.int),3⟩) (τ':=⟨[(1,vL g),(2,.int s),(3,.ref 0),(4,.ref 1),(6,lP t),(5,.ref 2)],(2,.list [])::c2 A1 (B1++t.1.map V.int),3⟩) (nQ bZ Ea) rfl ⟨rfl,told++uS st g s,c++(lY st g s++t.1.map .i),[],?_,?_,bW _,fun u Z=>(by cases Z),F,?_⟩
 ·rw [aS];have:(uS st g s).length≤1:=by unfold uS;split<;>simp
  exact bE 0xc62941c2800527002 this
 ·rw [aS,aS,bF];exact bE 0x1c6294633b3090800449c73460a786003 tl wl
 ·show (⟨[(1,vL g),(2,.int s),(3,.ref 0),(4,.ref 1),(5,.ref 2)],[(2,.list []),(1,.list (c.map iV++(lY st g s).map iV++t.1.map V.int)),(0,.list (told.map iU++(uS st g s).map iU))],3⟩:St)=_;unfold W8;rw [cE,cE,cE,yK,bU];rfl
end
section
open MineH (at_ cL fr)
def Ek(p:List jM×List kQ):V:=.tup [.lst (p.1.map iU),.lst (p.2.map iV)]
theorem Ej(p:List jM×List kQ):(Ek p).pure=true:=by show eB [.lst (p.1.map iU),.lst (p.2.map iV)]=true;simp only [dT,dQ,qC,nO,mP,eW]
inductive JD(x0:V)(g:aW)(s:Int)(ds:List iP)(d6:List jM×List kQ)(p:Nat)(τ:St):Prop
 |mk (x:List (Nat×V)) (told:List jM) (mg:List kQ) (st:List iP) (h:x=[]∨x=[(0,x0)]) (e:τ=⟨x++(W8 g s told mg st).loc,(W8 g s told mg st).cells,3⟩) (lt:told.length≤p) (lm:mg.length≤200*p) (ls:st.length≤p) (l4:∀u∈st,u.1.length≤4) (d:E7 g s (ds.drop p) st told mg=d6)
theorem aCd{d:List iP}{g:aW}{s:Int}(ok:D3 d)(H:g.length≤900):Go (E4 ŀ F7 0 ⟨[(0,.lst (d.map lP)),(1,vL g),(2,.int s)],[],0⟩) fun f τ=>∃l,f=.ret (.tup [.ref 0,.ref 1])∧τ.cells=[(2,.list l),(1,.list ((Ag d g s).2.map iV)),(0,.list ((Ag d g s).1.map iU))]:=by
 have I:=ok.1;let X:V:=.lst (d.map lP);have O:X.pure=true:=jJ d;let s0:St:=⟨[(0,X),(1,vL g),(2,.int s)],[],0⟩;let j:St:=⟨(0,X)::(W8 g s [] [] []).loc,(W8 g s [] [] []).cells,3⟩;let ds:=d++[Kc];have p:ds.length≤41:=by show (d++[Kc]).length≤41;rw [aS];exact ţ I 1
 have B:∀t∈ds,t.1.length≤4:=fun t k=>by
  rcases dC.mp k with q|q
  ·exact ok.2 t q
  ·rw [aM.mp q];exact bW _
 show Go (E4 ŀ F7 0 s0) _;have c0:∀{σ:St},lZ bJ σ=some (.ref σ.next,{σ with cells:=(σ.next,.list [])::σ.cells,next:=σ.next+1}):=fun {σ}=>nQ bZ Ea;refine bV (dE (v:=.tup [.ref 0,.ref 1,.ref 2]) (τ:=⟨s0.loc,j.cells,3⟩) (τ':=j) (jE (bB c0 (bB c0 (bB c0 bZ))) Hr) rfl ?_);refine gL (σ':=j) rfl ?_;have hi:hF (bH fQ (aJ 0) (gE (aK (fY (aK (gE bJ) (aK (gK (.bool true)) (aK (gE bJ) bJ)))) bJ))) j=some (ds.map lP,j):=by refine qB (l:=ds.map lP) ?_ (jJ _);refine (dN (a:=X) (b:=.lst [lP Kc]) (bL rfl) (nE (bB (jE (bB (nE bZ Ea) (bB rfl (bB (nE bZ Ea) bZ))) Hr) bZ) lm1) (Gg (by rw [bF,eV];exact bE aKo I))).trans ?_;show _=some (V.lst ((d++[Kc]).map lP),j);rw [cE];rfl
 refine bV (aBs (JD X g s ds (Ag d g s)) (τ:=j) hi (by show (0:Nat)<3;decide) ⟨[(0,X)],[],[],[],.inr rfl,rfl,bG _,bG _,bG _,fun u C=>(by cases C),rfl⟩ (fun i b7 v r P=>?_) (fun τ' Q=>?_))
 ·rw [gJ]at r
  cases k:ds[i]? with
  |none=>rw [k]at r;cases r
  |some t=>
   rw [k]at r;cases r;obtain ⟨m,R⟩:=cU.mp k;have D:=B t (aG k);obtain ⟨x,told,e,st,F,rfl,lt,G,J,L,hd⟩:=P;rw [iL m,R]at hd;have y:D3 st:=⟨by exact bE 0xf18a71d30921128014e7a6003 p m J,L⟩;let c3:List (Nat×gC):=[(2,.list (st.map lP)),(1,.list (e.map iV)),(0,.list (told.map iU))];have N:tH 2 (rJ vP 2 c3) c3=some [(1,.list (e.map iV)),(0,.list (told.map iU))]:=mK (by decide) (eH (by decide) (eQ (c:=.list (e.map iV)) (fU (mP _))) (eH (by decide) (eQ (c:=.list (told.map iU)) (fU (nO _))) iW));have fl:Jl (rJ vP 2 c3) ((W8 g s told e st).loc++[(6,lP t)])=some [(1,vL g),(2,.int s),(3,.ref 0),(4,.ref 1),(5,.lst (st.map lP)),(6,lP t)]:=
    cO (dF (eK g)) (cO rfl (cO rfl (cO rfl (cO (qV (by decide) rfl (jJ st)) (cO (dF (Oj t)) rfl)))))
   have fin:∀(Rt:V→iX) f τ,(f=Fl.next∧∃z A o,z.length≤told.length+1∧A.length≤e.length+200∧o.length≤st.length+1∧(∀u∈o,u=t∨u∈st)∧E7 g s (ds.drop (i+1)) o z A=Ag d g s∧A9 [1,2,3,4,5] τ=W8 g s z A o)→xT [1,2,3,4,5] 3 (JD X g s ds (Ag d g s) (i+1)) (fun _=>False) Rt f τ:=fun Rt f τ h=>by obtain ⟨rfl,z,A,o,a1,T,W,Y,Z,a6⟩:=h;exact ⟨_,pY a6 (by show ((Mine.stay 3 (vL g))&&_)=true;rw [hU (eK g)];rfl) (eH (by decide) (eQ (c:=.list _) (fU (jJ _))) (eH (by decide) (eQ (c:=.list _) (fU (mP _))) (eH (by decide) (eQ (c:=.list _) (fU (nO _))) iW))),[],z,A,o,.inl rfl,rfl,by exact bE aAp lt a1,by exact bE 0x1c629820e1c676612518cecc012601c6766003 G T,by exact bE aAp J W,fun u C=>(Y u C).elim (fun q=>q▸D) (L u),Z⟩
   rcases F with rfl|rfl
   ·refine ⟨⟨(W8 g s told e st).loc++[(6,lP t)],c3,3⟩,rfl,(P9 rfl rfl rfl rfl rfl rfl rfl (Ik fl N) rfl rfl rfl rfl rfl rfl rfl H (by exact bE aAy p m lt) (by exact bE aLl p m G) y D _ _ hd).mono (fin _)⟩
   ·refine ⟨⟨(0,X)::((W8 g s told e st).loc++[(6,lP t)]),c3,3⟩,rfl,(P9 rfl rfl rfl rfl rfl rfl rfl (Ik (cO (dF O) fl) N) rfl rfl rfl rfl rfl rfl rfl H (by exact bE aAy p m lt) (by exact bE aLl p m G) y D _ _ hd).mono (fin _)⟩
 ·obtain ⟨x,told,e,st,F,rfl,_,_,_,_,hd⟩:=Q;rw [bF,kP]at hd;have hd:(told,e)=Ag d g s:=hd;rw [←hd];let s9:St:=⟨[(3,.ref 0),(4,.ref 1)],(W8 g s told e st).cells,3⟩;refine gL (σ':=s9) (by rcases F with rfl|rfl<;>rfl) ?_;exact tS (v:=.tup [.ref 0,.ref 1]) (jE (bB (bL rfl) (bB (bL rfl) bZ)) Cz) ⟨st.map lP,rfl,rfl⟩
section
variable{n:Nat}
theorem aOq(G:Gd){a:List iP}{g:aW}{s:Int}(ok:D3 a)(b:g.length≤900):Zb (n+2) (.ref 266) [.lst (a.map lP),vL g,.int s] (fun r=>r=Ek (Ag a g s)):=by
 refine Yv.c (Ae (fd:=jS MineH.o266v0) (o:=MineH.o266v0) (tab:=zS) (body:=cL (at_ [10])) (iB w.params) (G.K 266 _ (by kernel_rfl)) rfl G.lim (codeRec_of G.K (by kernel_rfl)) rfl (fun vs h=>?_) (by show (3:Nat)≤9;decide) (by simp only [dT,dQ,qC,tD,jJ,eK,eW]) fun L=>?_)
 ·revert vs;exact ll3 fun _ _ _=>by kernel_rfl
 ·obtain ⟨f,τ,e,l,rfl,c⟩:=aCd (s:=s) ok b;refine jY (S5 G (aJ2 G) (aDv G) 0 _ _ _ e) ?_;rintro _ _ ⟨rfl,rfl⟩;refine ⟨Ek (Ag a g s),?_,Ej _,rfl⟩;rw [c];exact Gi (f:=29) rfl (qY (Cg (f:=27) (by decide) rfl (nO _)) (qY (Cg (f:=27) (by decide) rfl (mP _)) rfl))
end
end
section
open MineH (at_ cL fr)
theorem Z0{σ:St}{g:M V}{a b:Int}(e:g σ=some (.int a,σ))(c:b≠0)(d:b.natAbs.log2<9000):bH Pz g (gK (.int b)) σ=some (.int (a.fdiv b),σ):=dN e rfl (if_pos ⟨c,PyProof.noPylong_of_log2 d⟩)
theorem Rp{σ:St}{g:M V}{a b:Int}(e:g σ=some (.int a,σ))(c:b≠0):bH Bj g (gK (.int b)) σ=some (.int (a.fmod b),σ):=dN e rfl (if_pos c)
theorem Zy{σ:St}{g:M V}{a k:Int}(e:g σ=some (.int a,σ))(b:Od k≤64):bH vO (gK (.int k)) g σ=some (.int (k*a),σ):=dN rfl e (if_pos b)
theorem Rs{σ:St}{g h:M V}{a b:Int}(e:g σ=some (.int a,σ))(c:h σ=some (.int b,σ)):bH fQ g h σ=some (.int (a+b),σ):=dN e c rfl
theorem Zu{σ:St}{g:M V}{a b:Int}(e:g σ=some (.int a,σ)):bH xO g (gK (.int b)) σ=some (.int (a-b),σ):=dN e rfl rfl
theorem Uf{σ:St}{g:M V}{a b:Int}(e:g σ=some (.int a,σ)):dU (bH Bk g (gK (.int b))) σ=some (decide (a<b),σ):=kH (dN e rfl rfl)
theorem aNh(n:Nat):Ke 0 n=(kN n).map vN:=by unfold Ke;rw [I5,lJ];exact Ť fun i _=>by rw [Int.zero_add];rfl
theorem Zw{σ:St}{L:aW}{x y n:Nat}(a:lk σ.loc x=some (vL L))(b:lk σ.loc y=some (vN n))(c:n<L.length)(d:L.length≤39):bH hO (aJ x) (aJ y) σ=some (.int (nmb L n),σ):=
 dN (bL a) (bL b) (wM (aAf 0 c) (by rw [bF];show _≤1048576;exact bE 0x18c538c6318c70c04ff86001 d))
theorem aDm{σ:St}{L:aW}{x y n:Nat}(b:lk σ.loc x=some (vL L))(a:lk σ.loc y=some (vN n))(c:n<L.length)(d:L.length≤39):bH fQ (bH vO (gK (.int 200)) (bH hO (aJ x) (aJ y))) (bH vO (gK (.int 2)) (aJ y)) σ=some (.int (Aw L n),σ):=
 Rs (Zy (Zw b a c d) (by decide)) (Zy (bL a) (by decide))
def sT(L:aW)(bc:List iP)(ex:List (Nat×V)):St:=⟨[(1,vL L),(2,.lst ((yT L).map vN)),(3,.ref 0)]++ex,[(0,.list (bc.map lP))],1⟩
theorem aHr{L:aW}{m:Nat}(h:m∈yT L):m<L.length:=Oa.mp (Lb.mp h).1
theorem aDo{L:aW}{a:List iP}{ex:List (Nat×V)}{gc:M Bool}{p:Nat→Bool}(b:L.length≤39)(d:(ex.all fun p=>decide (p.1<100))=true)(e:∀m,gc (Nh (sT L a ex) 100 (vN m))=some (p m,Nh (sT L a ex) 100 (vN m))):
  oD 100 (hF (aJ 2)) (bY 100) (qQ gc (oC (bH fQ (bH vO (gK (.int 200)) (bH hO (aJ 1) (aJ 100))) (bH vO (gK (.int 2)) (aJ 100))))) (sT L a ex)=some (vL (((yT L).filter p).map (Aw L)),sT L a ex):=by
 have c:((sT L a ex).loc.all fun p=>decide (p.1<100))=true:=d;have f:=Gf (σ:=sT L a ex) (l:=yT L) vN p (fun m=>V.int (Aw L m)) (qB (bL (x:=2) (σ:=sT L a ex) (v:=.lst ((yT L).map vN)) rfl) (rW _)) c (by have:=P2 L;show _≤1048576;exact bE 0x1c629c6318c63860a4014ff86002 b this) fun m g=>⟨e m,fun _=>aDm (Hu (x:=1) (v:=vL L) (l:=(sT L a ex).loc) rfl) (Md c) (aHr g) b⟩;rw [f];show _=some (V.lst ((((yT L).filter p).map (Aw L)).map V.int),_);rw [tB];rfl
theorem Xa(l:aW):pySl (l.map V.int) (some (-1)) aF=(l.drop l.length.pred).map V.int:=by
 have e:D2 (some (-1)) (l.map V.int).length=l.length.pred:=by show (max 0 (min (if (-1:Int)<0 then (-1:Int)+(l.map V.int).length else -1) (l.map V.int).length)).toNat=l.length-1;rw [bF,if_pos (by decide)];omega
 show ((l.map V.int).drop (D2 (some (-1)) (l.map V.int).length)).take ((l.map V.int).length-D2 (some (-1)) (l.map V.int).length)=_;rw [e,tA (by rw [nZ];exact bG _),Fh]
theorem aJf{σ:St}{L:aW}{n:Nat}(b:lk σ.loc 6=some (.int (lef L n)))(a:lk σ.loc 8=some (vL (Ga L n)))(c:lk σ.loc 9=some (vL (Ng L n))):bH hO (fY (aK (aJ 9) (aK (bH fQ (aJ 8) (aJ 8)) (aK (gE bJ) bJ)))) (bH Bj (aJ 6) (gK (.int 3))) σ=some (vL (Pa L n),σ):=by
 have la:=Iv L n;have d:fY (aK (aJ 9) (aK (bH fQ (aJ 8) (aJ 8)) (aK (gE bJ) bJ))) σ=some (.tup [vL (Ng L n),vL (Ga L n++Ga L n),vL []],σ):=jE (bB (bL c) (bB (dN (bL a) (bL a) (yC (by exact bE 0x494538c673cf6cc800127001 la))) (bB (nE (vs:=[]) bZ Ea) bZ))) Hr;have r:(lef L n).fmod 3=0∨(lef L n).fmod 3=1∨(lef L n).fmod 3=2:=by rw [Int.fmod_eq_emod_of_nonneg _ (by decide)];omega
 refine dN d (Rp (bL b) (by decide)) ?_;unfold Pa;rcases r with r|r|r
 ·rw [if_pos r,r];exact Cb (n:=0) rfl (by exact Hr)
 ·rw [if_neg (by rw [r];decide),if_pos r,r];exact Cb (n:=1) rfl (by exact Hr)
 ·rw [if_neg (by rw [r];decide),if_neg (by rw [r];decide),r];exact Cb (n:=2) rfl (by exact Hr)
theorem On{L:aW}{c:List iP}{n:Nat}(j:L.length≤39)(F:n<L.length)(R:c.length≤1000)(Rt:V→iX)(J:iX)(T:J (sT L (c++[Lm L n]) [])):
  Go (tT 1 (sT L c [(4,vN n)])) (xT [1,2,3] 1 J (fun _=>False) Rt):=by
 have G:lim=1048576:=rfl;let d:=V6 L n;let f:=lef L n;let own:aW:=[Aw L n,Aw L n+1];let H:List (Nat×V):=[(4,vN n),(6,.int f),(5,.int d)];let k:List (Nat×V):=H++[(7,vL own)];let o:List (Nat×V):=k++[(8,vL (Ga L n))];let r:List (Nat×V):=o++[(9,vL (Ng L n))];have I:∀{ex:List (Nat×V)},lk (sT L c ex).loc 4=some (vN n)→bH hO (aJ 1) (aJ 4) (sT L c ex)=some (.int (nmb L n),sT L c ex):=fun h=>Zw rfl h F j;have N:∀{ex:List (Nat×V)},lk (sT L c ex).loc 4=some (vN n)→bH fQ (bH vO (gK (.int 200)) (bH hO (aJ 1) (aJ 4))) (bH vO (gK (.int 2)) (aJ 4)) (sT L c ex)=some (.int (Aw L n),sT L c ex):=fun h=>aDm rfl h F j;unfold tT;refine bV (dE (v:=.tup [.int d,.int f]) (τ':=sT L c H) (jE (bB (Rp (I rfl) (by decide)) (bB (Z0 (I rfl) (by decide) (by decide)) bZ)) Cz) rfl ?_);refine bV (dE (v:=vL own) (τ':=sT L c k) (nE (bB (N rfl) (bB (Rs (N rfl) rfl) bZ)) Cz) rfl ?_);have fl:∀p:Nat→Bool,(((yT L).filter p).map (Aw L)).length≤39:=fun p=>by have:=P2 L;have:=B8 p (yT L);rw [bF];exact bE 0xf18a7fc30921124014ff86003 j ‹_› this
 have t:iA (oD 100 (hF (aJ 2)) (bY 100) (qQ (dU (bH Bk (aJ 100) (aJ 4))) (oC (bH fQ (bH vO (gK (.int 200)) (bH hO (aJ 1) (aJ 100))) (bH vO (gK (.int 2)) (aJ 100)))))) (gP (aHm (gK (.int 1)))) pP (sT L c k)=some (vL (Ga L n),sT L c k):=by refine (Oh (lo:=some (-1)) (hi:=aF) (aDo (p:=fun m=>decide (m<n)) j rfl fun m=>Oi rfl rfl) rfl rfl (by have:=fl fun m=>decide (m<n);exact bE aD5 this)).trans ?_;rw [Xa];rfl
 refine bV (dE (v:=vL (Ga L n)) (τ':=sT L c o) t rfl ?_);have A:∀{σ:St}{x y a b:Nat},lk σ.loc x=some (vN a)→lk σ.loc y=some (vN b)→dU (bH Ħ (aJ x) (aJ y)) σ=some (decide (b<a),σ):=fun {σ x y a b} W X=>by
  refine kH (dN (bL W) (bL X) ?_);show some (V.bool (decide ((b:Int)<(a:Int))),σ)=_
  congr 3
  exact decide_eq_decide.mpr jV
 have B:iA (oD 100 (hF (aJ 2)) (bY 100) (qQ (dU (bH Ħ (aJ 100) (aJ 4))) (oC (bH fQ (bH vO (gK (.int 200)) (bH hO (aJ 1) (aJ 100))) (bH vO (gK (.int 2)) (aJ 100)))))) pP (gP (gK (.int 1))) (sT L c o)=some (vL (Ng L n),sT L c o):=by refine (Oh (lo:=aF) (hi:=some ((1:Nat):Int)) (aDo (p:=fun m=>decide (n<m)) j rfl fun m=>A rfl rfl) rfl rfl (by have:=fl fun m=>decide (n<m);exact bE aD5 this)).trans ?_;rw [Lu,←Fg];rfl
 refine bV (dE (v:=vL (Ng L n)) (τ':=sT L c r) B rfl ?_);let g:aW→St:=fun Y=>⟨(sT L c (r++[(10,.ref 1)])).loc,[(1,.list (Y.map V.int)),(0,.list (c.map lP))],2⟩;have w0:xP (dU (bH Bk (aJ 5) (gK (.int 6)))) (lZ bJ) (lZ (aK (bH Bj (bH xO (aJ 5) (gK (.int 6))) (gK (.int 5))) bJ)) (sT L c r)=some (.ref 1,⟨(sT L c r).loc,[(1,.list ((C4 d).map V.int)),(0,.list (c.map lP))],2⟩):=by
  unfold C4;refine Ld (Uf (bL rfl)) (fun h=>?_) fun h=>?_
  ·rw [if_pos (of_decide_eq_true h)];exact nQ bZ Ea
  ·rw [if_neg (of_decide_eq_false h)];exact nQ (vs:=[.int ((d-6).fmod 5)]) (bB (Rp (Zu (bL rfl)) (by decide)) bZ) lm1
 refine bV (dE (v:=.ref 1) (τ':=g (C4 d)) w0 rfl ?_);have w1:Go (rP (kL (dU (bH gGe (aJ 5) (gK (.int 6)))) (kL (dU (bH rM (bH Bj (aJ 6) (gK (.int 4))) (gK (.int 3)))) (fun σ=>some (true,σ)))) (sE (uF fD (aJ 10) (aK (bH Bj (bH fQ (bH xO (aJ 5) (gK (.int 5))) (bH Bj (bH Pz (aJ 6) (gK (.int 4))) (gK (.int 4)))) (gK (.int 5))) bJ))) (lS .next) 1 (g (C4 d))) fun f τ=>f=.next∧τ=g (Zr L n):=by
  refine mO (gW (gF (b:=decide (6≤d)) (kH (dN (bL rfl) (b:=.int 6) rfl rfl)) ?_));by_cases h:6≤d
  ·rw [iM h];refine gW (gF (kH (dN (Rp (bL rfl) (by decide)) (b:=.int 3) rfl (aDp _ _))) ?_);by_cases h':f.fmod 4=3
   ·rw [iM h'];refine wQ ?_;rw [if_pos rfl];refine nK (rL (u:=.ref 1) (us:=[.int ((d-5+(f.fdiv 4).fmod 4).fmod 5)]) (l:=(C4 d).map V.int) (bL rfl) rfl (bB (Rp (Rs (Zu (bL rfl)) (Rp (Z0 (bL rfl) (by decide) (by decide)) (by decide))) (by decide)) bZ) (jH (l:=(C4 d).map V.int) rfl (by rw [bF];unfold C4;split<;>simp [G]))) ⟨rfl,?_⟩;show (⟨_,[(1,gC.list ((C4 d).map V.int++[.int ((d-5+(f.fdiv 4).fmod 4).fmod 5)])),(0,.list (c.map lP))],2⟩:St)=g (C4 d++(if 6≤d∧f.fmod 4=3 then[(d-5+(f.fdiv 4).fmod 4).fmod 5]else[]));rw [if_pos ⟨h,h'⟩];show _=(⟨_,[(1,gC.list ((C4 d++[(d-5+(f.fdiv 4).fmod 4).fmod 5]).map V.int)),(0,.list (c.map lP))],2⟩:St);rw [cE];rfl
   ·rw [fT h',if_neg aY];refine iN ⟨rfl,?_⟩;show _=g (C4 d++(if 6≤d∧f.fmod 4=3 then[(d-5+(f.fdiv 4).fmod 4).fmod 5]else[]));rw [if_neg fun z=>h' z.2,bP]
  ·rw [fT h,if_neg aY];refine iN ⟨rfl,?_⟩;show _=g (C4 d++(if 6≤d∧f.fmod 4=3 then[(d-5+(f.fdiv 4).fmod 4).fmod 5]else[]));rw [if_neg fun z=>h z.1,bP]
 refine bV (w1.mono ?_);rintro _ _ ⟨rfl,rfl⟩;let cs:cG→List (Nat×gC):=fun l=>[(1,.list ((Zr L n).map V.int)),(0,.list l)];let e:St:=⟨[(1,vL L),(2,.lst ((yT L).map vN)),(3,.ref 0),(5,.int d),(6,.int f),(7,vL own),(8,vL (Ga L n)),(9,vL (Ng L n)),(10,.ref 1)],cs (c.map lP),2⟩;refine gL (σ':=e) rfl ?_;let C:St:=⟨e.loc++[(11,vL (Fz L n))],cs (c.map lP),2⟩;have O:iA (aJ 7) pP (gP (gK (.int 1))) e=some (vL [Aw L n],e):=(Oh (L:=own) (lo:=aF) (hi:=some ((1:Nat):Int)) (bL rfl) rfl rfl (by show (2:Nat)≤1000;decide)).trans (by rw [Lu];rfl);have D:iA (aJ 7) (gP (gK (.int 1))) pP e=some (vL [Aw L n+1],e):=(Oh (L:=own) (lo:=some ((1:Nat):Int)) (hi:=aF) (bL rfl) rfl rfl (by show (2:Nat)≤1000;decide)).trans (by rw [Uu];rfl);have tx:Go (rP (dU (bH Bk (aJ 5) (gK (.int 11)))) (eS (bH vO (iA (aJ 7) pP (gP (gK (.int 1)))) (xP (dU (bH Bk (aJ 5) (gK (.int 6)))) (gK (.int 2)) (gK (.int 1)))) (bY 11)) (eS (bH fQ (bH fQ (iA (aJ 7) pP (gP (gK (.int 1)))) (bH hO (fY (aK (aJ 9) (aK (bH fQ (aJ 8) (aJ 8)) (aK (gE bJ) bJ)))) (bH Bj (aJ 6) (gK (.int 3))))) (iA (aJ 7) (gP (gK (.int 1))) pP)) (bY 11)) 1 e) fun f τ=>f=.next∧τ=C:=by
  have P:=O9 L n;refine mO (gF (Uf (bL rfl)) ?_);by_cases h:d<11
  ·rw [iM h];refine dE (v:=vL (Fz L n)) (τ:=e) (τ':=C) ?_ rfl ⟨rfl,rfl⟩;rw [show Fz L n=if d<6 then[Aw L n,Aw L n]else[Aw L n]from if_pos h];refine dN (b:=.int (if d<6 then 2 else 1)) (τ':=e) O (Ld (Uf (bL rfl)) (fun h=>by rw [if_pos (of_decide_eq_true h)];rfl) fun h=>by rw [if_neg (of_decide_eq_false h)];rfl) ?_;by_cases s:d<6
   ·rw [if_pos s,if_pos s];rfl
   ·rw [if_neg s,if_neg s];rfl
  ·rw [fT h];refine dE (v:=vL (Fz L n)) (τ:=e) (τ':=C) ?_ rfl ⟨rfl,rfl⟩;rw [show Fz L n=[Aw L n]++Pa L n++[Aw L n+1]from if_neg h];exact dN (dN O (aJf rfl rfl rfl) (yC (by rw [eV];exact bE 0x318a718ce79ed99003a746001 P))) D (yC (by rw [aS,eV,eV];exact bE 0xc629c6339e7b6641d003a746001 P))
 refine bV (tx.mono ?_);rintro _ _ ⟨rfl,rfl⟩;let Q:cG→St:=fun l=>⟨[(1,vL L),(2,.lst ((yT L).map vN)),(3,.ref 0),(5,.int d),(10,.ref 1),(11,vL (Fz L n))],cs l,2⟩;refine gL (σ':=Q (c.map lP)) rfl ?_;let i:V:=.tup [vL (Fz L n),.bool (decide (d<11)),.ref 1];refine nK (τ:=Q (c.map lP++[i])) (rL (u:=.ref 0) (us:=[i]) (l:=c.map lP) (bL rfl) rfl (bB (jE (bB (bL rfl) (bB (dN (bL rfl) (b:=.int 11) rfl rfl) (bB (bL rfl) bZ))) Hr) bZ) (jH (l:=c.map lP) rfl (by rw [bF];exact bE ln5 R G))) ?_;have Z:rJ vP 1 (cs (c.map lP++[i])) i=some (lP (Lm L n)):=
  Gi (f:=29) (by show ((vL (Fz L n)).pure&&false)=false;rw [aJa]) (qY (uV (f:=28) (eK _)) (qY (uV (f:=28) rfl) (qY (Cg (f:=27) (by decide) rfl (kY _)) rfl)))
 refine ⟨sT L (c++[Lm L n]) [],Il (loc:=[(1,vL L),(2,.lst ((yT L).map vN)),(3,.ref 0)]) (cs:=cs (c.map lP++[i])) (n:=2) rfl (cO (dF (eK L)) (cO (dF (v:=.lst ((yT L).map vN)) (rW _)) (cO rfl rfl))) (mK (by decide) (eH (by decide) ?_ iW)),T⟩;show (oX _ (c.map lP++[i])).map gC.list=_;rw [Kh (A4 (fU (jJ c))) Z,cE];rfl
theorem Rz{a:aW}(u:a.length≤1000000):Go (yN 0 ⟨[(0,.scr (a.map V.int))],[],0⟩) fun f τ=>f=.ret (.ref 0)∧lk τ.cells 0=some (.list ((iF a).map lP)):=by
 have k:lim=1048576:=rfl;let L:=Fm a;have c:L.length≤39:=Ex a;let s0:St:=⟨[(0,.scr (a.map V.int))],[],0⟩;let o:St:=⟨[(0,.scr (a.map V.int)),(1,vL L)],[],0⟩;let r:St:=⟨[(0,.scr (a.map V.int)),(1,vL L),(2,.lst ((yT L).map vN))],[],0⟩;show Go (yN 0 s0) _;have y:iA (aJ 0) pP (gP (gK (.int 30))) s0=some (vL (a.take 30),s0):=by unfold iA;rw [bL (v:=.scr (a.map V.int)) rfl];show (if (a.map V.int).length≤lim then some (V.lst (pySl (a.map V.int) aF (some ((30:Nat):Int))),s0)else aF)=_;rw [if_pos (by rw [bF];exact bE 0x68c52102f18c6318e1829c6339e7b66002 u k),Lu,←Fg];rfl
 refine bV (dE (v:=vL L) (τ':=o) (dN y (b:=vL [6,0,7,12,0,29,61,0,10]) (nE (bB rfl (bB rfl (bB rfl (bB rfl (bB rfl (bB rfl (bB rfl (bB rfl (bB rfl bZ))))))))) lm9) (yC (by rw [tZ];show min 30 a.length+9≤1000000;exact bE 0x598c538c673cf6cc8c9c13383db301))) rfl ?_);have s:∀{σ:St},lk σ.loc 1=some (vL L)→yR (aK (iO F8 (aK (aJ 1) bJ)) bJ) σ=some ((kN L.length).map vN,σ):=fun {σ} h=>by rw [←aNh];exact Zv (bB (lO (bB (bL h) bZ) (Bf L (by exact bE 0x18c558cecc04ff86001 c) _)) bZ) (by have a1:decide (((L.length:Nat):Int)<2^62)=true:=decide_eq_true (by omega);have z:decide (-(2^62)≤((L.length:Nat):Int))=true:=decide_eq_true (by omega);show ((decide (-(2^62)≤(0:Int))&&decide ((0:Int)<2^62))&&decide (-(2^62)≤((L.length:Nat):Int))&&decide (((L.length:Nat):Int)<2^62))=true;rw [a1,z];rfl)
 have A:=Gf (σ:=o) (x:=100) (l:=kN L.length) (gc:=dU (bH Bk (bH Bj (bH hO (aJ 1) (aJ 100)) (gK (.int 16))) (gK (.int 6)))) (ge:=aJ 100) vN (fun m=>decide (V6 L m<6)) vN (s rfl) rfl (by rw [gY];exact bE 0x2c6290053fe182bc6318c6386002 k c) fun m B=>⟨Uf (Rp (Zw rfl rfl (Oa.mp B) c) (by decide)),fun _=>bL rfl⟩;refine bV (dE (v:=.lst ((yT L).map vN)) (τ':=r) A rfl ?_);refine bV (dE (v:=.ref 0) (τ':=⟨r.loc++[(3,.ref 0)],[(0,.list [])],1⟩) (nQ bZ Ea) rfl ?_);refine gL (σ':=sT L [] []) rfl ?_;refine bV (wP (fun _=>False) (fun p τ=>τ=sT L ((kN p).map (Lm L)) []) (τ:=sT L [] []) (s rfl) (by show (0:Nat)≤1;decide) rfl (fun i D v d C=>?_) (fun τ' e=>?_))
 ·rw [gJ]at d
  cases g:(kN L.length)[i]? with
  |none=>rw [g]at d;cases d
  |some m=>rw [g]at d;cases d;obtain ⟨j,t⟩:=cU.mp g;rw [List.getElem_range]at t;rw [gY]at j;subst t;subst C;refine ⟨sT L ((kN i).map (Lm L)) [(4,vN i)],rfl,On c j (by rw [bF,gY];exact bE 0x1c629c77e70a8014ff86002 c j) _ _ ?_⟩;rw [List.range_succ,cE];rfl
 ·have e:=e.resolve_right id;rw [bF,gY]at e;subst e;refine gL (σ':=⟨[(3,.ref 0)],[(0,.list ((iF a).map lP))],1⟩) rfl ?_;exact tS (v:=.ref 0) (bL rfl) ⟨rfl,rfl⟩
section
variable{n:Nat}
theorem aCz(G:Gd){a:aW}(b:a.length≤1000000):Zb (n+1) (.ref 251) [.scr (a.map V.int)] (fun r=>r=.lst ((iF a).map lP)):=by
 refine Yv.c (Ae (fd:=jS MineH.o251v0) (o:=MineH.o251v0) (tab:=uU) (body:=cL (at_ [7])) (eR w.params) (G.K 251 _ (by kernel_rfl)) rfl G.lim (codeRec_of G.K (by kernel_rfl)) rfl (fun vs h=>?_) (by show (1:Nat)≤12;decide) (by show (eB (a.map V.int)&&true)=true;rw [kY];rfl) fun L=>?_)
 ·revert vs;exact ll1 fun _=>by kernel_rfl
 ·obtain ⟨f,τ,e,rfl,c⟩:=Rz b;refine jY (Jo G 0 _ _ _ e) ?_;rintro _ _ ⟨rfl,rfl⟩;exact ⟨.lst ((iF a).map lP),qV (fS _) c (jJ _),jJ _,rfl⟩
end
end
section
open MineH (at_ cL fr Ew)
abbrev Yk:qR:=Qd (Qc (fun sc:aW=>[.scr (sc.map V.int)]) (fun sc=>sc.length≤1000000) fun sc=>.lst ((iF sc).map lP))
def Ļ(a:List iP×aW×Int):cG:=[.lst (a.1.map lP),vL a.2.1,.int a.2.2]
abbrev Yn:qR:=Qd (Qc Ļ (fun a=>D3 a.1∧a.2.1.length≤900) fun a=>Ek (Ag a.1 a.2.1 a.2.2))
theorem aCi{c:aW}{σ:St}(h:c.length≤1000000):Yk [.scr (c.map V.int)] σ=some (.lst ((iF c).map lP),σ):=
 Gv (a:=c) (enc:=fun c:aW=>[.scr (c.map V.int)]) (fun a b e=>by rw [zW (V.scr.inj (ů e).1)]) (by show (eB (c.map V.int)&&true)=true;rw [kY];rfl) h
theorem aCp{c:List iP}{g:aW}{s:Int}{σ:St}(ok:D3 c)(d:g.length≤900):Yn [.lst (c.map lP),vL g,.int s] σ=some (Ek (Ag c g s),σ):=
 Gv (a:=(c,g,s)) (fun a b e=>by obtain ⟨a1,f,h⟩:=a;obtain ⟨b1,i,j⟩:=b;simp only [Ļ,iR,V.lst.injEq,V.int.injEq,and_true]at e;rw [Ui e.1,yF e.2.1,e.2.2]) (by unfold Ļ;simp only [dT,dQ,qC,tD,jJ,eK,eW]) ⟨ok,d⟩
section
variable{n:Nat}
theorem aJ3(G:Gd)(F:Fx):B2 (n+1) F (.ref 251) Yk:=opC (fun a h=>aCz G h) F
theorem aJ5(G:Gd)(F:Fx):B2 (n+2) F (.ref 266) Yn:=opC (fun a h=>aOq G h.1 h.2) F
end
open Classical in
def dSM:cG→Option Iy:=fun us=>if h:∃A:aW,us=[.none,vL A]then some ⟨some h.choose,aF,true⟩else aF
theorem aIa(A:aW):dSM [.none,vL A]=some ⟨some A,aF,true⟩:=by have h:∃B:aW,[V.none,vL A]=[.none,vL B]:=⟨A,rfl⟩;unfold dSM;rw [dif_pos h];have:=h.choose_spec;rw [iR,iR]at this;rw [←yF this.2.1]
section
variable{n:Nat}{F:Fx}
theorem aNr(G:Gd)(A:aW):Ys (n+4) (.ref 160) (.attrs []) [.none,vL A] (fun c r=>r=.none∧∃as,c=.attrs as∧B3 ⟨some A,aF,true⟩ as):=
 mIn G (some A) aF true (by decide) (ds:=[.none,vL A]) (dds:=[vS aF,.bool true]) (dvs:=[.str (aC "") 405,.bool true]) rfl (by simp only [dT,dQ,eK];rfl) (fun D Y h=>by simp only [pJ,pI,vS,gQ];exact ⟨_,_,rfl,⟨_,rfl⟩,_,_,rfl,rfl,rfl⟩) (fun K vs h=>by revert vs;exact ll3 fun _ _ _=>by kernel_rfl)
theorem aNl(G:Gd)(fk:iY F):B2 (n+5) F (.ref 242) (Fq dSM):=
 Õ (fi:=160) fk G.K (by kernel_rfl) (by kernel_rfl) (by kernel_rfl) fun us m J e A Y h tk x c vs a1 d g i j k l p s=>by
  unfold dSM at e;split at e
  ·rename_i t;obtain ⟨B,u⟩:∃B,us=[.none,vL B]∧m=⟨some B,aF,true⟩:=⟨_,t.choose_spec,(gM e).symm⟩;obtain ⟨rfl,rfl⟩:=u;refine rH (aNr G B A Y h tk x c vs a1 d g i j k l p s) ?_;intro r s' q;have fin:∀v,(aDb Y h c (fun c1 r=>r=V.none∧∃as,c1=gC.attrs as∧B3 ⟨some B,aF,true⟩ as) v s')→v=.none∧∃h' a,s'=kD h' a∧(∀b o,b≠c→h.get? b=some o→h'.get? b=some o)∧(vI h' c)∧jB [] (jK [c] Y) h' c (.mat ⟨some B,aF,true⟩):=by rintro v ⟨h',a,c1,r,y,z,C,L,N,D,H,rfl,as,rfl,I⟩;exact ⟨H,h',a,y,z,C,as,I,D⟩
   cases r with
   |error e=>exact q.elim
   |ok f=>cases f<;>first|exact fin _ q|exact q.elim|cases q
  ·cases e
def aMc(kz:Cu):qR:=fun us σ=>aV (fun u ds=>ob (Yr u) fun i=>if eB ds=true then ob (lk σ.cells i) fun c=>ob (kz c ds) fun p=>some (p.2,{σ with cells:=lQ i p.1 σ.cells})else aF) us
theorem φ{f:bO}{a:Cu}(fk:iY F)(c:∀c0 ds p,eB ds=true→a c0 ds=some p→qW c0∧tL n f c0 ds (fun c1 r=>c1=p.1∧r=p.2)):B2 n F f (aMc a):=fun us σ r σ' e=>by refine pB e fun _ ds e=>?_;refine â e fun i e=>?_;obtain ⟨b,e⟩:=iS e;obtain ⟨c0,d,e⟩:=dO e;obtain ⟨p,g,e⟩:=dO e;cases e;obtain ⟨h,m⟩:=c c0 ds p b g;refine El fk d h b m ?_;rintro c1 r _ _ ⟨rfl,rfl⟩;exact ⟨rfl,rfl⟩
end
inductive Qv(A B C:aW)(p:List jM×List kQ):Prop
 |mk (l:sK A B) (r:sK A C) (R:List qF) (q:(eD B 0 (ops A B)++eD C 1 (ops A C)).Perm R) (s:R.Pairwise nF) (o:∀r∈R,K6 r) (n:R.length≤40) (e:zD A R.length R 0 [] []=p)
theorem aAd{A B C:aW}{p c:List jM×List kQ}(h:Qv A B C p)(h':Qv A B C c):p=c:=by obtain ⟨_,_,R,q,s,_,_,e⟩:=h;obtain ⟨_,_,R',d,s',_,_,f⟩:=h';have:R=R':=wY (fun a b _ _=>Ch) s s' (q.symm.trans d);subst this;exact e.symm.trans f
structure MgA where
 A:aW
 B:aW
 C:aW
 b:Option aW
 au:Bool
 p:List jM×List kQ
def MgA.Ok(a:MgA)(c:gC)(us:cG):Prop:=c=.mat ⟨some a.A,a.b,a.au⟩∧us=[vL a.A,vL a.B,vL a.C]∧Qv a.A a.B a.C a.p
open Classical in
def Qb:Cu:=fun c us=>if h:∃a:MgA,a.Ok c us then some (.mat ⟨some h.choose.A,some h.choose.C,h.choose.au⟩,Ek h.choose.p)else aF
abbrev Yl:qR:=aMc Qb
theorem aCk{σ:St}{i:Nat}{A B C:aW}{b:Option aW}{au:Bool}{p:List jM×List kQ}(g:lk σ.cells i=some (.mat ⟨some A,b,au⟩))(h:Qv A B C p):Yl [.inst i,vL A,vL B,vL C] σ=some (Ek p,{σ with cells:=lQ i (.mat ⟨some A,some C,au⟩) σ.cells}):=by
 have f:∃a:MgA,a.Ok (.mat ⟨some A,b,au⟩) [vL A,vL B,vL C]:=⟨⟨A,B,C,b,au,p⟩,rfl,rfl,h⟩;have hd:Qb (.mat ⟨some A,b,au⟩) [vL A,vL B,vL C]=some (.mat ⟨some A,some C,au⟩,Ek p):=by unfold Qb;rw [dif_pos f];obtain ⟨d,c,e⟩:=f.choose_spec;revert d c e;generalize f.choose=a;intro d c e;simp only [gC.mat.injEq,Iy.mk.injEq,aPx]at d;simp only [iR,and_true]at c;rw [←yF c.2.1,←yF c.2.2,←yF c.1]at e;rw [←d.1,←d.2.2,←yF c.2.2,aAd e h]
 show (if eB [vL A,vL B,vL C]=true then _ else _)=_;rw [if_pos (by simp only [dT,dQ,eK,eW])];simp only [g];show ob (Qb _ _) _=_;rw [hd];rfl
theorem aJ4{n:Nat}{F:Fx}(G:Gd)(fk:iY F):B2 (n+6) F (.ref 280) Yl:=
 φ fk fun c0 ds p m e=>by
  unfold Qb at e;split at e
  ·rename_i j;cases e;obtain ⟨k,l,b,c,R,d,f,g,h,i⟩:=j.choose_spec;revert k l b c d f g h i;generalize j.choose=a;rintro rfl rfl b c d f g h i;exact ⟨trivial,aGx G b c d f g h i⟩
  ·cases e
theorem Nj{b:Type}{f:b→V}{p:V→Bool}(h:∀a,p (f a)=true):∀l:List b,(l.map f).all p=true:=by
 intro l
 induction l with
 |nil=>rfl
 |cons a r c=>rw [cS,gV,h a,c];rfl
theorem aCb(n:Nat)(t:jM):ed (n+3) (iU t)=true:=by
 show C1 [vL t.1,.lst [vW t.2.1,vW t.2.2]] (ed (n+2))=true;have a:ed (n+2) (.lst [vW t.2.1,vW t.2.2])=true:=by show C1 [vW t.2.1,vW t.2.2] (ed (n+1))=true;simp only [gV,qH,aE5,eW]
 simp only [gV,qH,P8,a,eW]
theorem ļ(n:Nat)(t:kQ):ed (n+2) (iV t)=true:=by
 cases t with
 |i x=>rfl
 |c a b d=>show C1 [vL a,vL b,vL d] (ed (n+1))=true;simp only [gV,qH,P8,eW]
theorem aAa{σ:St}(p:List jM×List kQ):Bi (Ek p) (Ek p) σ=some (.bool false,σ):=by
 have e:ed 64 (Ek p)=true:=by show C1 [.lst (p.1.map iU),.lst (p.2.map iV)] (ed 63)=true;have b:ed 63 (.lst (p.1.map iU))=true:=Nj (fun a=>aCb 59 a) p.1;have c:ed 63 (.lst (p.2.map iV))=true:=Nj (fun a=>ļ 60 a) p.2;simp only [gV,qH,b,c,eW]
 exact (G8 (P:=True) (dF (Ej p)) (dF (Ej p)) e e ⟨fun _=>trivial,fun _=>rfl⟩).2
end
section
open MineH (at_ cL fr)
structure Qw(T:List iP):Prop where
 ok:D3 T
 mrg:∀g s,Qv (cT T []) (cT T g) (cT T [s]) (Ag T g s)
 len:∀g s,(Ag T g s).2.length≤1000000
 row:∀g s,(Ag T g s).2.filter isC=[]→(Ag T g s).2=(cT T (g++[s])).map .i
section
variable{T:List iP}
def sBq(T:List iP)(x:List (Nat×V))(b:Option aW)(au:Bool)(g:aW):St:=⟨(1,.lst (T.map lP))::(2,vL (cT T []))::(3,.inst 0)::(x++[(5,vL (cT T g)),(6,vL g)]),[(0,.mat ⟨some (cT T []),b,au⟩)],1⟩
theorem Ph{loc:List (Nat×V)}{b:Option aW}{au:Bool}{g:aW}{s:Int}(lo:Qw T)(t:g.length≤100)(j:lk loc 1=some (.lst (T.map lP)))(z:lk loc 2=some (vL (cT T [])))(A:lk loc 3=some (.inst 0))(C:lk loc 5=some (vL (cT T g)))(D:lk loc 6=some (vL g))(m:lk loc 7=some (.int s)):
  Go (Mo Yk F7 (Fq dSM) Yl Yn 1 ⟨loc,[(0,.mat ⟨some (cT T []),b,au⟩)],1⟩) fun f τ=>f=.next∧∃b' F,F.length≤g.length+1∧A9 [1,2,3,5,6] τ=sBq T [] b' au F:=by
 have H:lim=1048576:=rfl;let B:=cT T [];let p:=Ag T g s;let c:Option aW→List (Nat×gC):=fun b=>[(0,.mat ⟨some B,b,au⟩)];let b1:=some (cT T [s]);let d:=lQ 9 (.lst (p.2.map iV)) (lQ 8 (.lst (p.1.map iU)) loc);have k:∀{y u},y≠9→y≠8→lk loc y=some u→lk d y=some u:=fun n I h=>Mc n (Mc I h);have one:∀{loc:List (Nat×V)}{cs:List (Nat×gC)}{n:Nat},lk loc 7=some (.int s)→gE (aK (aJ 7) bJ) ⟨loc,cs,n⟩=some (vL [s],⟨loc,cs,n⟩):=fun h=>nE (bB (bL h) bZ) lm1;have l1:([s]:aW).length≤1000:=by show (1:Nat)≤1000;decide
 unfold Mo;refine bV (dE (v:=Ek p) (τ:=⟨loc,c b1,1⟩) (τ':=⟨d,c b1,1⟩) (lO (bB (bL A) (bB (bL z) (bB (bL C) (bB (lO (bB (bL j) (bB (one m) bZ)) (Gw lo.ok l1)) bZ)))) ((aCk (b:=b) (au:=au) rfl (lo.mrg g s)).trans rfl)) rfl ?_);have J:lk d 8=some (.lst (p.1.map iU)):=Mc (by decide) Mb;have G:lk d 9=some (.lst (p.2.map iV)):=Mb;refine bV (mO (gF (b:=false) (τ:=⟨d,c b1,1⟩) (kH (dN (a:=Ek p) (jE (bB (bL J) (bB (bL G) bZ)) Cz) (lO (bB (bL (k (by decide) (by decide) j)) (bB (bL (k (by decide) (by decide) D)) (bB (bL (k (by decide) (by decide) m)) bZ))) (aCp lo.ok (by exact bE 0x18c53cc78e04f387001 t))) (aAa p))) ?_));rw [if_neg aY];refine iN ?_;let i:St:=⟨[(1,.lst (T.map lP)),(2,vL B),(3,.inst 0),(5,vL (cT T g)),(6,vL g),(7,.int s),(9,.lst (p.2.map iV))],c b1,1⟩;refine gL (σ':=i) (by simp only [A9,xJ,xK,k (by decide) (by decide) j,k (by decide) (by decide) z,k (by decide) (by decide) A,k (by decide) (by decide) C,k (by decide) (by decide) D,k (by decide) (by decide) m,G];rfl) ?_;have N:p.2.length≤1000000:=lo.len g s;have fl:=Gf (σ:=i) (x:=100) (gi:=hF (aJ 9)) (gc:=oB (iO aCn (aK (aJ 100) (aK (gK (.fn (.type "list"))) bJ)))) (ge:=aJ 100) iV isC iV (l:=p.2) (qB (bL rfl) (mP _)) rfl (by exact bE 0x58c5200a718ce79ed982bc6318c6386002 H N) fun e Q=>⟨by cases e<;>rfl,fun _=>bL rfl⟩;have o:dU (bH rM (oD 100 (hF (aJ 9)) (bY 100) (qQ (oB (iO aCn (aK (aJ 100) (aK (gK (.fn (.type "list"))) bJ)))) (oC (aJ 100)))) (gE bJ)) i=some (decide (p.2.filter isC=[]),i):=
  kH (dN fl (nE bZ Ea) (G8 (P:=p.2.filter isC=[]) (dF (show V.pure (.lst ((p.2.filter isC).map iV))=true from mP _)) (dF rfl) (Nj (fun a=>ļ 61 a) _) rfl ⟨fun e=>vX.mp (V.lst.inj e),fun e=>by rw [e];rfl⟩).1)
 refine mO (gF o ?_);by_cases r:p.2.filter isC=[]
 ·rw [iM r];have O:V.lst (p.2.map iV)=vL (cT T (g++[s])):=by rw [show p.2=_ from lo.row g s r,yK];rfl
  refine dE (v:=.tup [vL (cT T (g++[s])),vL (g++[s])]) (τ:=i) (τ':=⟨[(1,.lst (T.map lP)),(2,vL B),(3,.inst 0),(5,vL (cT T (g++[s]))),(6,vL (g++[s])),(7,.int s),(9,.lst (p.2.map iV))],c b1,1⟩) (jE (bB (by rw [←O];exact bL rfl) (bB (dN (bL rfl) (b:=vL [s]) (one rfl) (yC (by rw [eV];exact bE 0x6314e319cf3db320e04f387001 t))) bZ)) Cz) rfl ⟨rfl,b1,g++[s],by rw [aS];exact bG _,rfl⟩
 ·rw [fT r];exact iN ⟨rfl,b1,g,fI _,rfl⟩
noncomputable def qu1:aW:=[0,1,2,3,4]
noncomputable def qu2:aW:=[4,3,2,1,0]
noncomputable def Rv(q:aW):V:=.tup (q.map V.int)
theorem frB{b:Option aW}{au:Bool}{g:aW}{τ:St}(h:A9 [1,2,3,5,6] τ=sBq T [] b au g):Rc [1,2,3,5,6] 1 τ=some (sBq T [] b au g):=by have a:(V.lst (T.map lP)).pure=true:=jJ T;exact pY h (by show ((stay 1 (V.lst (T.map lP)))&& ((stay 1 (vL (cT T [])))&& (true&& ((stay 1 (vL (cT T g)))&& ((stay 1 (vL g))&&true)))))=true;rw [hU a,hU (eK _),hU (eK _),hU (eK _)];rfl) (eH (by decide) rfl iW)
theorem Xv{b:Option aW}{au:Bool}{q:aW}(lo:Qw T)(l:q.length≤10)(Rt:V→iX):Go (Gs Yk F7 (Fq dSM) Yl Yn 1 ⟨[(1,.lst (T.map lP)),(2,vL (cT T [])),(3,.inst 0),(4,Rv q)],[(0,.mat ⟨some (cT T []),b,au⟩)],1⟩)
  (xT [1,2,3] 1 (fun τ=>∃b,τ=⟨[(1,.lst (T.map lP)),(2,vL (cT T [])),(3,.inst 0)],[(0,.mat ⟨some (cT T []),b,au⟩)],1⟩) (fun _=>False) Rt):=by
 have o:lim=1048576:=rfl;have p:=lo.ok.1;have bl:=zT (g:=[]) lo.ok.2;have m:(V.lst (T.map lP)).pure=true:=jJ T;have r:(Rv q).pure=true:=kY q;let c:List (Nat×gC):=[(0,.mat ⟨some (cT T []),b,au⟩)];let c1:List (Nat×gC):=(1,.list ((cT T []).map V.int))::c;unfold Gs;refine bV (dE (v:=.tup [.ref 1,.lst []]) (τ:=⟨[(1,.lst (T.map lP)),(2,vL (cT T [])),(3,.inst 0),(4,Rv q)],c1,2⟩) (τ':=⟨[(1,.lst (T.map lP)),(2,vL (cT T [])),(3,.inst 0),(4,Rv q),(6,.lst []),(5,.ref 1)],c1,2⟩)
  (jE (bB (lO (bB (bL rfl) bZ) (if_pos (by rw [bF];exact bE 0x110938a4024c03c30938e982bc6318c6386003 o p bl))) (bB (nE bZ Ea) bZ)) Cz) rfl ?_)
 refine gL (σ':=⟨[(1,.lst (T.map lP)),(2,vL (cT T [])),(3,.inst 0),(4,Rv q),(5,.ref 1),(6,.lst [])],c1,2⟩) rfl ?_;refine S8 (σ':=sBq T [(4,Rv q)] b au []) (Ik (cO (dF m) (cO (dF (eK _)) (cO rfl (cO (dF r) (cO (qV (by decide) rfl (kY _)) (cO rfl rfl)))))) (mK (by decide) (eH (by decide) rfl iW))) ?_;refine wP (fun _=>False) (fun i τ=>∃x b g,(x=[]∨x=[(4,Rv q)])∧g.length≤i∧τ=sBq T x b au g) (τ:=sBq T [(4,Rv q)] b au []) (ds:=q.map V.int) ?_ (by show (1:Nat)≤1;decide) ⟨_,b,[],.inr rfl,bG _,rfl⟩ (fun i y v a t=>?_) (fun τ' hd=>?_)
 ·unfold hF;rw [bL (v:=Rv q) rfl];show ob (ob (some (q.map V.int)) zU) _=_;show ob (zU (q.map V.int)) _=_;unfold zU;rw [if_pos (kY q)];rfl
 ·rw [gJ]at a
  cases j:q[i]? with
  |none=>rw [j]at a;cases a
  |some s=>
   rw [j]at a;cases a;obtain ⟨hi,_⟩:=cU.mp j;obtain ⟨x,b,g,k,d,rfl⟩:=t;have fin:∀(Rt:V→iX) f τ,(f=Fl.next∧∃b' e,e.length≤g.length+1∧A9 [1,2,3,5,6] τ=sBq T [] b' au e)→xT [1,2,3,5,6] 1 (fun τ=>∃x b g,(x=[]∨x=[(4,Rv q)])∧g.length≤i+1∧τ=sBq T x b au g) (fun _=>False) Rt f τ:=fun Rt f τ h=>by obtain ⟨rfl,b',e,a1,u⟩:=h;exact ⟨_,frB u,[],b',e,.inl rfl,by exact bE aAp d a1,rfl⟩
   rcases k with rfl|rfl
   ·exact ⟨⟨[(1,.lst (T.map lP)),(2,vL (cT T [])),(3,.inst 0),(5,vL (cT T g)),(6,vL g),(7,.int s)],[(0,.mat ⟨some (cT T []),b,au⟩)],1⟩,rfl,(Ph lo (by exact bE aEs l hi d) rfl rfl rfl rfl rfl rfl).mono (fin _)⟩
   ·exact ⟨⟨[(1,.lst (T.map lP)),(2,vL (cT T [])),(3,.inst 0),(4,Rv q),(5,vL (cT T g)),(6,vL g),(7,.int s)],[(0,.mat ⟨some (cT T []),b,au⟩)],1⟩,rfl,(Ph lo (by exact bE aEs l hi d) rfl rfl rfl rfl rfl rfl).mono (fin _)⟩
 ·obtain ⟨x,b,g,k,d,rfl⟩:=hd.resolve_right id;refine ⟨_,pY (xs:=[1,2,3]) (loc:=[(1,.lst (T.map lP)),(2,vL (cT T [])),(3,.inst 0)]) (cs:=[(0,.mat ⟨some (cT T []),b,au⟩)]) (n:=1) (by rcases k with rfl|rfl<;>rfl) ?_ (eH (by decide) rfl iW),b,rfl⟩;show ((stay 1 (V.lst (T.map lP)))&& ((stay 1 (vL (cT T [])))&&true))=true;rw [hU m,hU (eK _)];rfl
theorem aA3{a:aW}(k:a.length≤1000000)(lo:Qw (iF a)):Go (aBv Yk F7 (Fq dSM) Yl Yn 0 ⟨[(0,.scr (a.map V.int))],[],0⟩) fun f τ=>f=.ret (.bool true):=by
 let T:=iF a;let S0:V:=.scr (a.map V.int);let B:=cT T [];let s0:St:=⟨[(0,S0)],[],0⟩;let j:St:=⟨[(0,S0),(1,.lst (T.map lP))],[],0⟩;let d:St:=⟨[(0,S0),(1,.lst (T.map lP)),(2,vL B)],[],0⟩;show Go (aBv Yk F7 (Fq dSM) Yl Yn 0 s0) _;unfold aBv;refine bV (dE (v:=.lst (T.map lP)) (τ:=s0) (τ':=j) (lO (bB (bL rfl) bZ) (aCi k)) rfl ?_);refine bV (dE (v:=vL B) (τ:=j) (τ':=d) (lO (bB (bL rfl) (bB (nE (vs:=[]) bZ Ea) bZ)) (Gw (g:=[]) lo.ok (bW _))) rfl ?_);let c:Option aW→List (Nat×gC):=fun b=>[(0,.mat ⟨some B,b,true⟩)];refine bV (dE (v:=.inst 0) (τ:=⟨d.loc,c aF,1⟩) (τ':=⟨d.loc++[(3,.inst 0)],c aF,1⟩) (lO (us:=[.none,vL B]) (τ:=d) (bB rfl (bB (bL rfl) bZ)) (by unfold Fq;rw [if_pos (by simp only [dT,dQ,eK];rfl),aIa];rfl)) rfl ?_);let e:Option aW→St:=fun b=>⟨[(1,.lst (T.map lP)),(2,vL B),(3,.inst 0)],c b,1⟩;refine gL (σ':=e aF) rfl ?_;refine bV (wP (fun _=>False) (fun _ τ=>∃b,τ=e b) (τ:=e aF) (ds:=[Rv qu1,Rv qu2]) rfl (by show (0:Nat)≤1;decide) ⟨_,rfl⟩ (fun i o v l m=>?_) (fun τ' hd=>?_))
 ·obtain ⟨b,rfl⟩:=m;have h:∃q:aW,v=Rv q∧q.length≤10:=by
   have:=aG l;simp only [aU,kO,or_false]at this;rcases this with rfl|rfl
   ·exact ⟨qu1,rfl,by decide⟩
   ·exact ⟨qu2,rfl,by decide⟩
  obtain ⟨q,rfl,h⟩:=h;exact ⟨⟨[(1,.lst (T.map lP)),(2,vL B),(3,.inst 0),(4,Rv q)],c b,1⟩,rfl,Xv lo h _⟩
 ·obtain ⟨b,rfl⟩:=hd.resolve_right id;refine gL (σ':=⟨[],c b,1⟩) rfl ?_;exact tS rfl rfl
end
section
variable{n:Nat}{L:cY}
theorem aGa(G:Gd){a:aW}(b:a.length≤1000000)(lo:Qw (iF a)):SW 0 (n+6) (wZ (jS MineH.o285v0) L 285 uT) (cL (at_ [13])) ⟨[(0,.scr (a.map V.int))],[],0⟩ (fun f _=>f=.ret (.bool true)):=by obtain ⟨f,τ,e,rfl⟩:=aA3 b lo;have:=aLv (n:=n+6) G (aJ3 (n:=n+5) G) (aDv (n:=n+5) G) (aNl (n:=n+1) (F:=wZ (jS MineH.o285v0) L 285 uT) G ((dlaw w.params).tab L 285).fk) (fun F fk=>aJ4 (n:=n) G fk) (aJ5 (n:=n+4) G) 0 _ _ _ e;refine jY this ?_;rintro _ _ ⟨rfl,rfl⟩;rfl
end
end
theorem aHc(a:aW):Qw (iF a):=by
 have b:=Oo a;have len:=R7 a;have j:=R6 a;have c:∀g,(cT (iF a) g).length≤156:=fun g=>by have:=zT (g:=g) j;exact bE 0x212714f37a30530070c14ff86002 len this
 have sd:∀g,sK (cT (iF a) []) (cT (iF a) g):=fun g=>X6 b len (fun _ _=>⟨by have:=c [];exact bE aEa this,by have:=c g;exact bE aEa this⟩) (W4 a);have n:∀t∈[]++iF a,t.1.length≤4:=j;refine ⟨⟨by exact bE 0xc629c74c04ff86001 len,j⟩,fun g s=>?_,fun g s=>?_,fun g s h=>?_⟩
 ·obtain ⟨R,i,pw,lo,o⟩:=aAe (g:=g) (s:=s) (iF a) [] 0 0 [] rfl rfl b (fun t p=>by cases p);rw [dK]at i;refine ⟨sd g,sd [s],R,?_,pw,fun r u=>?_,?_,?_⟩
  ·rw [Kt b,Kt b];exact i
  ·have a1:=c [];have v:=c g;have x:=c [s];rcases dC.mp (i.mem_iff.mpr u)with q|q
   ·obtain ⟨b1,k,d,m,f⟩:=Lr _ _ _ _ r q;simp only [cV]at d f;exact ⟨k,by exact bE aKw a1 d,.inl m,by exact bE aKn v f⟩
   ·obtain ⟨b1,k,d,m,f⟩:=Lr _ _ _ _ r q;simp only [cV]at d f;exact ⟨k,by exact bE aKw a1 d,.inr m,by exact bE aKn x f⟩
  ·have h0:=(Up (g:=g) (side:=0) (iF a) 0 [] [] b.pos).2 rfl rfl;have y:=(Up (g:=[s]) (side:=1) (iF a) 0 [] [] b.pos).2 rfl rfl;rw [←i.length_eq,aS];exact bE 0x9628a71d320414a0e080b464a0e0807464ff86003 len h0 y
  ·exact o R.length 0 [] [] (bG _) (bG _)
 ·obtain ⟨m',e,l,_⟩:=V5 (g:=g) (s:=s) (iF a) [] [] [] n;unfold Ag;rw [e,dK];rw [dK]at l;exact bE 0xa49c538c673cf6cc14c107074c14ff86002 len l
 ·obtain ⟨m',e,_,r⟩:=V5 (g:=g) (s:=s) (iF a) [] [] [] n;unfold Ag at h⊢;rw [e,dK]at h⊢;exact r h
section
open MineH (at_ cL fr)
inductive ŗ(K:Aq)(s:jX)(v:bO):Prop where
 |own (e:nsIn K mainGlobals s=some (some v))
 |built (e:nsIn K mainGlobals s=some aF) (b:bootBuiltins s=some v) (n:s≠"__name__")
theorem aHk{K:Aq}{p:zA}{loose:mE}{a mb:jX→Option bO}{env:Env}{s:jX}{v:bO}(X:K.In S.heap)(T:TopRead p loose a mb S.heap)(d:env.globals=mainGlobals)(f:env.builtins=builtinsNs)(at_:ŗ K s v):Glo env s v:=fun A h tk Q c q=>by
 have T':=T.keeps c
 cases at_ with
 |own e=>exact aPt (env:=env) (show h.Ns env.globals a from d▸T'.g) (mg_of (X.keeps c) T'.g e) q
 |built e b n=>exact aPu (env:=env) (show h.Ns env.globals a from d▸T'.g) (ns_none_of (X.keeps c) T'.g e) (show h.Ns env.builtins mb from f▸T'.b) ((T'.builtins _ n).trans b) q
theorem aBp(P:fV):∀s v,(s,v)∈vM→ŗ (fr P) s v:=fun s v h=>
 (show∀p∈vM,ŗ (fr P) p.1 p.2 from (gU (.built (by kernel_rfl) (by kernel_rfl) (by decide))
  (gU (.built (by kernel_rfl) (by kernel_rfl) (by decide))
  (gU (.built (by kernel_rfl) (by kernel_rfl) (by decide))
  (gU (.built (by kernel_rfl) (by kernel_rfl) (by decide))
  (gU (.built (by kernel_rfl) (by kernel_rfl) (by decide))
  (gU (.built (by kernel_rfl) (by kernel_rfl) (by decide))
  (gU (.built (by kernel_rfl) (by kernel_rfl) (by decide))
  (gU (.built (by kernel_rfl) (by kernel_rfl) (by decide))
  (gU (.built (by kernel_rfl) (by kernel_rfl) (by decide))
  (gU (.own (by kernel_rfl))
  (gU (.own (by kernel_rfl))
  (gU (.built (by kernel_rfl) (by kernel_rfl) (by decide))
  (gU (.own (by kernel_rfl))
  (gU (.own (by kernel_rfl))
  (gU (.own (by kernel_rfl))
  (gU (.own (by kernel_rfl))
  (gU (.own (by kernel_rfl))
  (gU (.own (by kernel_rfl))
  (fun _ h=>nomatch h)))))))))))))))))))) (s,v) h
theorem aLz{p:zA}{loose:mE}{a mb:jX→Option bO}(X:(fr w.params).In S.heap)(T:TopRead p loose a mb S.heap):Gd where
 K:=X
 lim:=T.nolimit
 glo:=fun env b c s v h=>aHk X T b c (aBp w.params s v h)
theorem aL5(G:Gd){a:aW}(b:a.length≤1000000):Zb 7 (.ref 285) [.scr (a.map V.int)] (fun r=>r=.bool true):=by
 refine aHt (n:=6) (fd:=jS MineH.o285v0) (o:=MineH.o285v0) (tab:=uT) (body:=cL (at_ [13])) (dlaw w.params) (G.K 285 _ (by kernel_rfl)) rfl G.lim (codeRec_of G.K (by kernel_rfl)) rfl (fun vs h=>?_) (by show (1:Nat)≤10;decide) ?_ fun L=>?_
 ·revert vs;exact ll1 fun _=>by kernel_rfl
 ·refine (?_:(eB (a.map V.int)&&true)=true);rw [kY];rfl
 ·refine jY (aGa (n:=0) G b (aHc a)) ?_;rintro f τ rfl;exact ⟨_,rfl,rfl,rfl⟩
end
section
open MineH
theorem ĉ{D:mS}{Y:iK}{h:dS}{vs:gI}{xs:aW}(i:IntsAre vs xs):bS D Y h (xs.map V.int) vs:=by
 induction i with
 |nil=>exact bS.nil
 |cons n t i a=>exact bS.cons ⟨t,rfl⟩ a
theorem ņ:Hyp w S→Yx w S:=by rintro ⟨KX,_,_,_,_,T⟩ xs l a b d f;have c:=aL5 (aLz KX T) b callerA (fun _=>False) S.heap S.toks [mV l] ⟨rfl,by decide+kernel,by decide+kernel⟩ (fun _ _ e=>e) (fun _ e=>e.elim) (bS.cons ⟨l,a,rfl,id,d,ĉ f⟩ bS.nil);refine bN c (fun v s' p=>?_) fun _ _ e=>e.elim;obtain ⟨h',g,r,rfl,h,_,i,rfl⟩:=p;exact ⟨i,h',g,rfl,h⟩
theorem Zt:WalkO q loose (XL q []) (aFn Mn) row.toRowW MineH.dlaw [] fun f vs=>aPa f vs:=by
 intro w i j k mb G Y m o B C doc D F H hd I J n r args L as b c d s g;have KX:=kIn_of Y;have T:=topRead_of G.T;have h:k (aC "law")=some (.ref m):=n;rw [mg_of KX T.g (show nsIn (fr w.params) mainGlobals (aC "law")=some (some (.ref 285)) by kernel_rfl)]at h;cases h
 wrow_args b c d s g
 rename_i xs _ _ _ _ _ _ _ l t _ u _ _ _ x _ y _;refine bN (aFu ņ w j ⟨KX,_,_,_,_,T⟩ xs l t (by exact bE 0x6314e319cf3db301d2b54083d7ff301 y) u x) (fun v s' p=>?_) fun _ _ e=>e.elim;obtain ⟨rfl,h',N,rfl,z⟩:=p;refine ⟨.inl ⟨_,.bool true,[],rfl,fun cls=>rfl,.bool true,?_,fun _=>⟨.nil,fun a A=>by cases A⟩⟩,OldK.of_keep z,rfl,.of_eq r⟩
 wrow_post
theorem aOi:PySem.Challenge.rw_mt0007_02.Holds:=hd Zt
end
end Mine
end
theorem PySem.Challenge.cw_mt0007_02_holds : PySem.Challenge.rw_mt0007_02.Holds :=
  Mine.aOi
