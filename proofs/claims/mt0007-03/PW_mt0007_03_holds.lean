import PyProof.Rows.All
import PyProof.CompUse
import Wide.All
import OpenK.AllK
import Wide.FinOn
import Lean
import PySem.Challenge.RW_mt0007_03
set_option Elab.async false
set_option linter.all false
set_option maxRecDepth 100000
set_option maxHeartbeats 0
set_option bootstrap.genMatcherCode false
set_option genSizeOf false
set_option backward.eqns.nonrecursive false
set_option backward.eqns.deepRecursiveSplit false
open And renaming intro->Xs
open Array renaming mk->jH,length_toList->qP,getD->LA,size_push->XE,replicate->XF
open Bool renaming true->aU,false->bR,and_eq_true->dT,and_self->gQ,false_ne_true->lN,false_eq_true->lO,and_eq_true_iff->pQ,noConfusion->zI,eq_iff_iff->Lj,or_eq_true->ģ,or_false->aB1
open Char renaming toNat->aEs
open Classical renaming byContradiction->jK,em->Oi
open Eq renaming trans->aB8
open False renaming elim->iV
open ForInStep renaming yield->yV
open Int renaming natCast_nonneg->iY,ofNat_lt->jP,toNat_natCast->mY,ofNat_le->qO,toNat_of_nonneg->qV,fmod_nonneg_of_pos->Ba,natCast_add->Br,ofNat_inj->E7,lt_of_lt_of_le->Fi,lt_trichotomy->I4,sub_neg->Lh,not_lt->R4,not_le->R5,fmod_eq_emod_of_nonneg->R6,sub_zero->Z9,lt_trans->AB,le_trans->AC,min_eq_right->Ğ,max_eq_right->ğ,sub_lt_self->ļ,min_eq_left->Ľ,zero_add->aEe,toNat_lt->aEf,le_of_eq->aEg,neg_sub->aEr
open Int.ofNat renaming inj->LP
open List renaming length->aC,mem_of_getElem?->aJ,mem_singleton->aM,mem_cons_of_mem->aO,mem_cons_self->aQ,mem_cons->aR,getD_eq_getElem?_getD->aY,length_map->bB,toArray->bC,length_append->bD,getElem?_eq_getElem->bO,range->bX,map_cons->cE,getElem?_eq_some_iff->cF,mem_append->cU,append_nil->dI,map_append->dK,getElem?_map->dL,append_assoc->dM,all_eq_true->dO,pairwise_cons->dR,length_cons->eM,flatMap_cons->fE,cons_append->fV,lookup_cons->gP,length_range->gV,zip_cons_cons->hU,mem_range->hV,mem_append_left->iA,drop_eq_getElem_cons->iI,pairwise_append->jA,mem_flatMap->jB,mem_map->jJ,getElem_of_mem->jO,length_drop->kE,nil_append->kT,countP_cons->lJ,mem_append_right->lV,nodup_cons->mL,size_toArray->mN,getElem?_range->nS,forIn_cons->oU,all_cons->oZ,getElem?_inj->pG,replicate->pO,getElem?_append_right->pP,map_map->qG,flatMap_nil->qH,drop_length->qI,range_succ->rP,take_of_length_le->tA,pairwise_map->tB,drop_zero->tC,take_append_drop->tS,pairwise_flatMap->tT,length_filter_le->tU,not_mem_nil->uB,getElem_mem->uC,eq_nil_of_length_eq_zero->uK,perm_iff_count->vM,map_congr_left->vO,getElem_range->wH,exists_cons_of_ne_nil->wI,countP_append->wJ,getElem?_append_left->xQ,take_length->zF,mem_reverse->zG,length_take->zH,map_nil->A3,length_nil->A8,length_singleton->Bp,drop_eq_drop_min->Bq,take->Dd,flatMap_append->Dl,drop_append_of_le_length->J9,of_mem_zip->Lg,take_succ->Oo,pairwise_singleton->Uz,filter_cons_of_pos->U0,filter_cons_of_neg->U1,drop_eq_nil_of_le->Xq,mem_of_mem_take->AQ,lookup->AR,getLast?_append->AS,forall_mem_cons->AT,dropLast_concat->AU,forIn_toArray->LO,count_append->SY,nodup_range->WZ,flatMap_map->XA,range_zero->Ě,mem_filter->ě,count_cons->Ĝ,all_append->ĝ,forIn_nil->Ĺ,drop_take->ĺ,count_nil->Ļ,take_nil->aBw,perm_nil->aBx,map_drop->aBy,Pairwise->aBz,all_nil->aB6,foldl->aEp
open List.Pairwise renaming nil->iU,imp->nU
open List.Perm renaming trans->AV
open List.Sublist renaming countP_le->aEq
open List.cons renaming injEq->kM,inj->qB
open Nat renaming le_refl->bG,zero_le->bI,le_trans->bV,lt_of_lt_of_le->dC,pos_of_ne_zero->dG,zero_add->dY,lt_irrefl->eG,lt_of_le_of_lt->eK,not_lt_zero->eL,le_of_not_lt->fD,ne_of_lt->fI,add_assoc->fR,le_antisymm->gO,lt_succ_self->gS,le_of_lt->iG,add_le_add->iN,ne_of_gt->iT,add_zero->jN,le_succ->jW,lt_or_ge->kL,le_add_right->lM,not_lt->lU,succ_pos->mV,le_of_lt_succ->mW,beq->mX,le_of_eq->oQ,add_comm->oR,sub_lt_sub_left->qU,lt_of_le_of_ne->rS,lt_add_of_pos_right->rW,add_sub_cancel_left->rX,lt_trans->tJ,le_of_ble_eq_true->uA,strongRecOn->vK,mul_one->yU,min_eq_right->Ai,lt_of_succ_lt_succ->A7,ble->Dk,lt_of_lt_of_eq->Fh,lt_trichotomy->I3,succ_ne_self->J7,succ_lt_succ->J8,zero_lt_one->Oe,min_le_left->Of,min_eq_left->Og,max_eq_left->Oh,mul_le_mul->R3,sub_lt_left_of_lt_add->Se,exists_eq_add_of_le->Xp,le_total->Z8,sub_lt_sub_right->KU,one_pos->KV,le_zero->KW,add_right_cancel->KY,mul_le_mul_left->LM,add_left_cancel->LN,mod_lt->SV,eq_or_lt_of_le->SX,succ_le_of_lt->WW,lt_succ_of_lt->WX,lt_succ_of_le->WY,succ_le_succ->ĕ,min_le_right->Ė,max_eq_right->ė,lt_of_not_le->Ę,le_max_right->ę,le_max_left->ĸ,zero_mul->aEc,sub_self->aEd,one_mul->aEm,mul_add->aEn,add_mul->aEo
open Ne renaming symm->vG
open Option renaming some->aG,none->aH,map_eq_some_iff->bZ,isSome_iff_exists->eF,map->qX,bind_some->LL
open Option.some renaming inj->eR
open Or renaming inr->jQ,inl->jR
open Prod renaming ext->kZ
open Prod.mk renaming injEq->gX
open Pure renaming pure->Uy
open PyProof.Rows renaming callWith_type->oL,assign_Name->pI,MethodCall_->Sf,same_iff->aEj,pow_int_small->aEk,mod_int->aEl
open PySem renaming wpAny_bind->aK,wpAny_pure->aW,wpAny_mono->bK,Value->bL,wpAny->bW,wpAny_holding->cJ,Addr->cR,Shared->cS,Heap->dF,starEach->eD,OsState->eH,compEnvC->fC,Params->fK,wpAny_standAt->fM,standAt->gB,World->gC,wpAny_call->gN,sizeLine->iF,letOwnedTupleGo->iH,Str->iS,codeAny->jC,wpAny_eqBool_int->jE,codeAny_call_builtin->jF,Around->jY,callWith->kY,cellsFrom->nD,wpAny_newObj_type->nP,sizeLine_eq->nQ,codeAny_mono->nR,wpAny_call_entry->oN,PyData->oP,assignEach->pF,Obj->qY,Result->rR,wpAny_comprehension_free->sJ,NameKind->sK,FuncData->sL,wpAny_callSpecial?_slot->tK,Stmt->tR,wpAny_specialOf->xJ,wpAny_execs_nil->xK,codeAny_of_tree->xL,codeAny_builtin->xM,Program->yN,isSubtype->yT,wpAny_seqItems->zA,wpAny_rule->zB,wpAny_loadPart->zC,isSubtype_type->zD,Sem->Ag,wpAny_items_cons->B7,typeLookup->Dc,wpAny_updateSeq->Dh,typeLookup_type->Di,Scope->Dj,wpAny_tryCatch->Fe,wpAny_newFunctionEnv->Ff,wpAny_field->Fg,codeAny_forLoop_any->I1,wpAny_attempt->I6,Model->I8,wpAny_pyIter_tuple->J4,wpAny_load->J5,wpAny_pyIter_list->Oc,Builtin->Oj,wpAny_items_nil->Uw,wpAny_is_other->Z5,PlainAttrs->Z7,Comprehension->KZ,list_append->LK,wpAny_lt_int->SR,Fin->SS,wpAny_notOrdered_dict->WV,wpAny_updateDictKeys->đ,wpAny_of_eq->Ē,wpAny_alloc->ē,Slot->Ĕ,wpAny_loadName_cell->Ĳ,wpAny_evalPart_none->ĳ,wpAny_Assign_stores->Ĵ,Pos->ķ,Env->ľ,wpAny_dictFind_int->aBv,wpAny_truthy_bool->aB3,BindsTo->aB9,wpAny_pyHash_int->aD6,wpAny_isInstance->aD7,wpAny_For->aD8,wpAny_Dict_empty->aD9,call->aEb
open PySem.Around renaming in1_units->Gf,under_plainId->Xr,in1_depth->LR
open PySem.Bind renaming checkArgs->Ŀ,madeBy->aEi
open PySem.BindsTo renaming of_eq->XD
open PySem.Builtin renaming divisionGoesByPylong->uG
open PySem.Builtin.Dict renaming notOrdered->aEw,missed->aEx
open PySem.Builtin.Frozenset renaming withSetAsKey->Ġ,oneOther->ġ,addrOf->Ģ
open PySem.Builtin.Int renaming intBits->tL
open PySem.Builtin.List renaming listExtendWith->Em,listTooLong->Gc,listSameRef->Ge,listItems->Ja,listUpdate->aEt,listLengthHint->aEu,listFitsIndex->aEv
open PySem.Builtin.Range renaming rangeSize->Gb
open PySem.Builtin.Slots renaming bestBase->aEh
open PySem.Calls renaming callWith_builtin->sM,call_function_entry->Op,callWith_function->Sg,loadGlobal_global->aEy,loadGlobal_builtin->aEz,call_len_list->aE0,Name_function_global->aE1
open PySem.Code renaming quiet_builtin->E8,builtin->Ga,compLoop->aB0
open PySem.F renaming plainAttrs_list->nB,slot_list_append->qN,args_tuple_add_2->xN,entry_tuple_add->yM,slot_tuple_add->zE,slot_list_pop->Ah,slot_tuple_iterator_next->Ek,slot_dict_setdefault->I2,args_list_append_2->J6,plain_extend_loop->Lc,entry_list_append->Ld,entry_extend_loop->Le,slot_list_extend->Od,plainAttrs_dict->On,entry_list_pop->R1,entry_dict_get->R2,slot_int_rmul->Sc,slot_dict_get->Sd
open PySem.Flow renaming next->XC
open PySem.Heap renaming get?_push_size->cC,get?_push_of_some->cK,lt_size->dW,size_push->eY,get?_update_other->gD,get?_update_self->jZ,SameBut->qJ,ExtBut->AW
open PySem.Heap.IsCell renaming keeps->aE2
open PySem.Heap.IsSliceOf renaming new->aB7
open PySem.Heap.SameBut renaming update->pA
open PySem.IsL renaming new->A9
open PySem.Meets renaming of_wp->aB5
open PySem.Obj renaming mapSeq->iX,isFreed_of_dict->El,data_mapDictKeys->KT,data_mapFields->SU
open PySem.PyData renaming depthAll->I7,eqv->Lf,canLayAll0->KS,strOk->ĵ,depth->Ķ
open PySem.SeqAt renaming shaped->Ux,noMix->aB4
open PySem.Str renaming ofString->aF
open PySem.Value renaming none->jG,type->kQ,ref->mJ,builtin->oT,isInt->pN,int->B9
open PySem.W renaming Looks->mK,behindTheImports->oO,Frag->xO
open PySem.W.Hook renaming says->XB
open PySem.W.Looks renaming of_pure->fY,ld->B8
open PySem.Walks renaming tuple->Z6,list->aEa
open String renaming ofList->Om
open PySem PySem.W PyProof.Rows
noncomputable section
namespace MineH
noncomputable abbrev prog:yN:=PySem.Challenge.pw_mt0007_03
noncomputable def Vt:tR->Arguments×List tR×Dj×(List tR->tR)
 |.FunctionDef _ a b _ _ _ s _ _ _=>(a,b,s,λ_=>default)
 |.ClassDef n e k b d t s u v w p=>(default,b,s,λc=>.ClassDef n e k c d t s u v w p)
 |_=>(default,[],default,λ_=>default)
def cH(s:tR):List tR:=(Vt s).2.1
def aBe:List Nat->List tR->tR
 |[],_=>default
 |i::r,b=>match b.drop i with
  |[]=>default
  |s::_=>match r with
   |[]=>s
   |_=>aBe r (cH s)
def at_(r:List Nat):tR:=aBe r PySem.Challenge.pw_mt0007_03.main.body
def Ij(s:tR):Arguments:=(Vt s).1
def Nj(s:tR):Dj:=(Vt s).2.2.1
noncomputable def WJ(b:List tR):iS:=(docOf b).getD Str.empty
def fnDoc(s:tR):iS:=WJ (cH s)
def Ee(s:tR):iS:=WJ (cH s)
theorem DQ(cs:List Char):aF (Om cs)=⟨(cs.map aEs).toArray⟩:=by rw [Str.ofString_eq_toList,String.toList_ofList]
noncomputable def ò:List Char:=by
 refine (λ(h:Ee (at_ [5])=aF (Om ?cs))=>?cs) ?h
 case h=>exact rfl
noncomputable def RG:iS:=⟨(ò.map aEs).toArray⟩
noncomputable def sv(x:String)(t:Tok):bL:=.str (aF x) t
noncomputable def iv(n:Int):bL:=.int n 0
noncomputable def rv(n:Nat):bL:=.ref n
noncomputable def Ce(l:List bL):qY:=⟨.type "tuple",aH,.seq l.toArray 0, #[]⟩
noncomputable def QU(l:List bL):qY:=⟨.none,aH,.fields l.toArray, #[]⟩
noncomputable def WO(l:List bL):qY:=⟨.type "code",aH,.fields l.toArray, #[]⟩
def ĭ(c:bL)(nm qn:String)(p:List Nat)(g:Nat)(df kd dc pm:bL)(an:Option Nat)(co ct:bL)(b:Nat):qY:=⟨c,aH,.func {name:=aF nm,qualname:=aF qn,params:=Ij (at_ p),body:=.stmts (cH (at_ p)),scope:=Nj (at_ p),globals:=g,closure:=[],defaults:=df,kwdefaults:=kd,doc:=dc,pyModule:=pm,annotations:=an,code:=co,closureTuple:=ct,builtins:=b}, #[]⟩
def iJ(P:fK)(x:String)(t:Tok)(v:bL):DictEntry:=⟨PyData.keyHash P (aF x),sv x t,v⟩
def aCd(d:iS)(s:tR):tR:=(Vt s).2.2.2 (.Expr (.Constant (.str d) 0 ⟨71,4,143,7⟩) ⟨71,4,143,7⟩::(cH s).tail)
noncomputable def ő(f:tR->tR):Nat->List tR->List tR
 |0,s::r=>f s::r
 |n+1,s::r=>s::ő f n r
 |_,[]=>[]
def YK(d:iS)(p:yN):yN:={p with main:={p.main with body:=ő (aCd d) 5 p.main.body}}
def pwQ:yN:=YK RG PySem.Challenge.pw_mt0007_03
theorem ñ:Ee (at_ [5])=RG:=(show Ee (at_ [5])=aF (Om ò) by kernel_rfl).trans (DQ ò)
theorem Ř:PySem.Challenge.pw_mt0007_03=pwQ:=(show PySem.Challenge.pw_mt0007_03=YK (Ee (at_ [5])) PySem.Challenge.pw_mt0007_03 by kernel_rfl).trans (congrArg (λd=>YK d PySem.Challenge.pw_mt0007_03) ñ)
noncomputable def mdD:bL:=sv "cpy313.difflib" 194
noncomputable def mdM:bL:=sv "__main__" 164
noncomputable def AE:bL:=(sv "law_mt0007_03" 575)
noncomputable def Zo(l:List DictEntry)(n:Nat):qY:=⟨.type "dict",aH,.dict l.toArray n, #[]⟩
noncomputable def NP:Nat->List String->List bL
 |_,[]=>[]
 |t,s::r=>sv s t::NP (t+1) r
noncomputable def ŷ(b:Nat):List Nat->List bL
 |x::y::r=>iv x::iv b::rv y::ŷ b r
 |_=>[]
noncomputable def foF(m:bL)(p:List Nat)(n q:String)(df d:bL)(c:Nat):qY:=ĭ (.type "function") n q p 3 df .none d m aH (rv c) .none 0
noncomputable def fnT(p:List Nat)(n q:String):qY:=ĭ .none n q p 0 .none .none .none .none aH .none .none 0
noncomputable def fcO(k:Nat)(n q:String)(t u l a:Nat)(r:List bL):qY:=WO (sv n t::sv q (t+1)::sv "/claim/cut.py" (t+2)::iv l::iv a::iv 0::iv 0::iv 3::rv k::.bool true::iv 181::rv (k+1)::.none::(r++[iv u,iv l,sv "/claim/cut.py" (u+1)]))
noncomputable def fdV(p:List Nat)(u:Nat)(d:Bool):bL:=bif d then .str (fnDoc (at_ p)) (u+2)else .none
noncomputable def fG(m:bL)(k:Nat)(p:List Nat)(n q:String)(t:Nat)(ns:List String)(l a:Nat)(df:bL)(d:Bool):List qY:=
 [Ce [],QU [],Ce (NP (t+3) ns),Ce [],fnT p n q,fcO k n q t (t+3+ns.length) l a [rv (k+2),rv (k+3),rv (k+4)],foF m p n q df (fdV p (t+3+ns.length) d) (k+5)]
noncomputable def fH(m:bL)(k:Nat)(p:List Nat)(n q:String)(t l a:Nat)(df:bL)(d:Bool):List qY:=
 [Ce [],QU [],fnT p n q,fcO k n q t (t+3) l a [.none,.none,rv (k+2)],foF m p n q df (fdV p (t+3) d) (k+3)]
noncomputable def nth:List qY->Nat->qY
 |[],_=>default
 |x::_,0=>x
 |_::r,n+1=>nth r n
noncomputable def Yk(L:List qY)(n:Nat):Nat->Nat->Nat->BT
 |0,_,_=>.nil
 |k+1,i,s=>bif Dk n i then .nil else .node (nth L i) (Yk L n k (i+s) (2*s)) (Yk L n k (i+2*s) (2*s))
def ŧ:qY:=Ce []
def Ŧ:qY:=QU []
def ť:qY:=WO [(sv "<module>" 182),(sv "<module>" 183),(sv "/claim/cut.py" 184),(iv 1),(iv 0),(iv 0),(iv 0),(iv 0),(rv 11),(.bool false),(iv 181),(rv 12),.none,.none,.none,.none,(iv 185),(iv 1),(sv "/claim/cut.py" 186)]
def Ť:qY:=⟨(.type "frame"),aH,.plain, #[(some (rv 13)),(some (rv 3)),(some (rv 3)),aH,(some (sv "__main__" 164)),aH,(some (rv 0))]⟩
noncomputable def trA(P:fK):BT:=(.node (boot_o_0 P) (.node (boot_o_1 P) (.node (boot_o_3 P) (.node (boot_o_7 P) .nil .nil) (.node ŧ .nil .nil)) (.node (boot_o_5 P) (.node (boot_o_9 P) .nil .nil) (.node ť .nil .nil))) (.node (boot_o_2 P) (.node (boot_o_4 P) (.node (boot_o_8 P) .nil .nil) (.node Ŧ .nil .nil)) (.node (boot_o_6 P) (.node (boot_o_10 P) .nil .nil) (.node Ť .nil .nil))))
def ŋ(w:gC)(os:eH):SharedT:=⟨trA w.params,15,{},jH [],{},187,os⟩
def Ph:qY:=foF mdD [3,4] "__new__" "Match.__new__" .none (.str (fnDoc (at_ [3,4])) 283) 81
def Pg:qY:=ĭ (.type "function") "_make" "Match._make" [3,5] 3 .none .none (.str (fnDoc (at_ [3,5])) 293) (sv "cpy313.difflib" 194) (some 92) (rv 88) .none 0
def o135v0:qY:=⟨(.type "type"),aH,(.cls {name:=(aF "Match"),bases:=[(.type "tuple")],mro:=[(rv 135),(.type "tuple"),(.type "object")],ns:=134,qualname:=(aF "Match"),hasDict:=false,slotNames:=[],subclasses:=[],abstract:=false,collection:=aH,hasDel:=false}), #[(some (rv 65)),aH,(some (sv "Match" 253)),(some (sv "Match" 261)),(some .none),(some (.bool false))]⟩
def Dy:qY:=foF mdD [5,1] "__init__" "SequenceMatcher.__init__" (rv 153) (.str (fnDoc (at_ [5,1])) 416) 159
def o167v0:qY:=foF mdD [5,2] "set_seqs" "SequenceMatcher.set_seqs" .none (.str (fnDoc (at_ [5,2])) 426) 166
def o174v0:qY:=foF mdD [5,3] "set_seq1" "SequenceMatcher.set_seq1" .none (.str (fnDoc (at_ [5,3])) 435) 173
def o181v0:qY:=foF mdD [5,4] "set_seq2" "SequenceMatcher.set_seq2" .none (.str (fnDoc (at_ [5,4])) 444) 180
def o188v0:qY:=foF mdD [5,5] "__chain_b" "SequenceMatcher.__chain_b" .none .none 187
def o196v0:qY:=foF mdD [5,6] "find_longest_match" "SequenceMatcher.find_longest_match" (rv 189) (.str (fnDoc (at_ [5,6])) 490) 195
def o203v0:qY:=foF mdD [5,7] "get_matching_blocks" "SequenceMatcher.get_matching_blocks" .none (.str (fnDoc (at_ [5,7])) 517) 202
def o251v0:qY:=foF AE [7] "_law_kept" "_law_kept" .none .none 250
def o256v0:qY:=foF AE [8] "_law_firm" "_law_firm" .none .none 255
def o263v0:qY:=foF AE [9] "_law_walk" "_law_walk" .none .none 262
def o270v0:qY:=foF AE [10] "_law_merge" "_law_merge" .none .none 269
def o277v0:qY:=foF AE [11] "_law_join" "_law_join" .none .none 276
def o282v0:qY:=foF AE [12] "law" "law" .none .none 281
noncomputable def L4l(P:fK):List qY:=[[boot_o_0 P,boot_o_1 P,boot_o_2 P,Zo [iJ P "__name__" 165 (sv "law_mt0007_03" 575),iJ P "__doc__" 166 .none,iJ P "__package__" 167 .none,iJ P "__loader__" 168 (.builtin "__main__.__loader__#opaque"),iJ P "__spec__" 169 .none,iJ P "__annotations__" 170 (rv 6),iJ P "__builtins__" 171 (rv 4),iJ P "__file__" 173 (sv "/claim/cut.py" 172),iJ P "__cached__" 174 .none,iJ P "_wall" 193 (rv 21),iJ P "_tuplegetter" 252 (rv 60),iJ P "Match" 380 (rv 135),iJ P "_calculate_ratio" 388 (rv 145),iJ P "SequenceMatcher" 574 (rv 242),iJ P "_law_kept" 582 (rv 251),iJ P "_law_firm" 588 (rv 256),iJ P "_law_walk" 604 (rv 263),iJ P "_law_merge" 625 (rv 270),iJ P "_law_join" 636 (rv 277),iJ P "law" 642 (rv 282)] 20,boot_o_4 P,boot_o_5 P,boot_o_6 P,boot_o_7 P,boot_o_8 P,boot_o_9 P,boot_o_10 P,Ce [],QU (ŷ 0 [1,20,5,27,23,71,66,144,70,151,419,250,434,255,436,262,449,269,464,276,469,281]),WO [(sv "<module>" 182),(sv "<module>" 183),(sv "/claim/cut.py" 184),(iv 1),(iv 0),(iv 0),(iv 0),(iv 0),(rv 11),(.bool false),(iv 181),(rv 12),.none,.none,.none,.none,(iv 185),(iv 1),(sv "/claim/cut.py" 186)],⟨(.type "frame"),aH,.plain, #[(some (rv 13)),(some (rv 3)),(some (rv 3)),aH,(some (sv "__main__" 164)),aH,(some (rv 0))]⟩],
 fG mdM 15 [0] "_wall" "_wall" 187 ["k"] 1 1 .none false,
 [Ce [],⟨(.type "builtin_function_or_method"),aH,(.fields #[(.builtin "type.__prepare__"),(.type "type")]), #[]⟩,Zo [iJ P "__module__" 203 mdD,iJ P "__qualname__" 205 (sv "_tuplegetter" 204),iJ P "__firstlineno__" 207 (.int 5 206),iJ P "__init__" 216 (rv 35),iJ P "__get__" 225 (rv 43),iJ P "__set__" 234 (rv 50),iJ P "__delete__" 242 (rv 57),iJ P "__static_attributes__" 245 (rv 58)] 8,Ce [],QU (ŷ 4 [7,34,11,42,18,49,21,56]),WO [(sv "_tuplegetter" 198),(sv "_tuplegetter" 199),(sv "/claim/cut.py" 200),(iv 5),(iv 0),(iv 0),(iv 0),(iv 0),(rv 25),(.bool false),(iv 181),(rv 26),.none,.none,.none,.none,(iv 201),(iv 5),(sv "/claim/cut.py" 202)],⟨(.type "frame"),aH,.plain, #[(some (rv 27)),(some (rv 3)),(some (rv 24)),aH,(some mdD),aH,(some (rv 0))]⟩],
 fG mdD 29 [2,0] "__init__" "_tuplegetter.__init__" 208 ["self","index","doc"] 7 3 .none false,
 [Ce [.none]],
 fG mdD 37 [2,1] "__get__" "_tuplegetter.__get__" 217 ["self","obj","objtype"] 11 3 (rv 36) false,
 fG mdD 44 [2,2] "__set__" "_tuplegetter.__set__" 226 ["self","obj","value"] 18 3 .none false,
 fG mdD 51 [2,3] "__delete__" "_tuplegetter.__delete__" 235 ["self","obj"] 21 2 .none false,
 [Ce (NP 243 ["__doc__","index"]),Zo [iJ P "__module__" 203 mdD,iJ P "__firstlineno__" 207 (.int 5 206),iJ P "__init__" 216 (rv 35),iJ P "__get__" 225 (rv 43),iJ P "__set__" 234 (rv 50),iJ P "__delete__" 242 (rv 57),iJ P "__static_attributes__" 245 (rv 58),iJ P "__dict__" 247 (rv 61),iJ P "__weakref__" 249 (rv 62),iJ P "__doc__" 250 .none] 4,⟨(.type "type"),aH,(.cls {name:=(aF "_tuplegetter"),bases:=[(.type "object")],mro:=[(rv 60),(.type "object")],ns:=59,qualname:=(aF "_tuplegetter"),hasDict:=true,slotNames:=[],subclasses:=[],abstract:=false,collection:=aH,hasDel:=false}), #[aH,aH,(some (sv "_tuplegetter" 196)),(some (sv "_tuplegetter" 204)),(some (.builtin "object.__new__")),(some (.bool true))]⟩,⟨(.type "getset_descriptor"),aH,(.fields #[(sv "__dict__" 246),(rv 60),(.builtin "function.__dict__"),(.builtin "function.__dict__#set")]), #[]⟩,⟨(.type "getset_descriptor"),aH,(.fields #[(sv "__weakref__" 248),(rv 60),(.builtin "ExceptionGroup.__weakref__"),.none]), #[]⟩,⟨(.type "super"),aH,(.fields #[(rv 60),(rv 60),(rv 60)]), #[]⟩,⟨(.type "builtin_function_or_method"),aH,(.fields #[(.builtin "object.__init_subclass__"),(rv 60)]), #[]⟩,Ce [(.type "tuple")],⟨(.type "builtin_function_or_method"),aH,(.fields #[(.builtin "type.__prepare__"),(.type "type")]), #[]⟩,Zo [iJ P "__module__" 260 mdD,iJ P "__qualname__" 262 (sv "Match" 261),iJ P "__firstlineno__" 264 (.int 23 263),iJ P "__doc__" 266 (.str (Ee (at_ [3])) 265),iJ P "__slots__" 268 (rv 73),iJ P "_fields" 272 (rv 74),iJ P "_field_defaults" 273 (rv 75),iJ P "__new__" 284 (rv 82),iJ P "_make" 306 (rv 91),iJ P "_replace" 317 (rv 100),iJ P "__replace__" 318 (rv 100),iJ P "__repr__" 326 (rv 107),iJ P "_asdict" 333 (rv 114),iJ P "__getnewargs__" 341 (rv 121),iJ P "__match_args__" 345 (rv 122),iJ P "a" 355 (rv 124),iJ P "b" 365 (rv 127),iJ P "size" 375 (rv 130),iJ P "__static_attributes__" 376 (rv 132),iJ P "__classcell__" 377 (rv 68)] 20,⟨(.type "cell"),aH,(.cell (some (rv 135))), #[]⟩,Ce [],QU (ŷ 4 [29,81,34,88,41,99,52,106,56,113,59,120]),WO [(sv "Match" 255),(sv "Match" 256),(sv "/claim/cut.py" 257),(iv 23),(iv 0),(iv 0),(iv 0),(iv 0),(rv 69),(.bool false),(iv 181),(rv 70),.none,.none,.none,.none,(iv 258),(iv 23),(sv "/claim/cut.py" 259)],⟨(.type "frame"),aH,.plain, #[(some (rv 71)),(some (rv 3)),(some (rv 67)),aH,(some mdD),aH,(some (rv 0))]⟩,Ce [],Ce (NP 269 ["a","b","size"]),Zo [] 0],
 fG mdD 76 [3,4] "__new__" "Match.__new__" 274 ["_cls","a","b","size"] 29 4 .none true,
 [Ce [],QU [],Ce (NP 288 ["cls","iterable","result"]),Ce [],ĭ .none "_make" "Match._make" [3,5] 0 .none .none .none .none aH .none .none 0,WO [(sv "_make" 285),(sv "Match._make" 286),(sv "/claim/cut.py" 287),(iv 33),(iv 2),(iv 0),(iv 0),(iv 3),(rv 83),(.bool true),(iv 181),(rv 84),.none,(rv 85),(rv 86),(rv 87),(iv 291),(iv 33),(sv "/claim/cut.py" 292)],ĭ (.type "function") "_make" "Match._make" [3,5] 3 .none .none (.str (fnDoc (at_ [3,5])) 293) mdD (some 92) (rv 88) .none 0,Zo [iJ P "__module__" 295 mdD,iJ P "__name__" 298 (sv "_make" 297),iJ P "__qualname__" 301 (sv "Match._make" 300),iJ P "__doc__" 303 (sv "Make a new Match object from a sequence or iterable" 293),iJ P "__annotations__" 305 (rv 92)] 5,⟨(.type "classmethod"),(some 90),(.fields #[(rv 89),(.bool false)]), #[]⟩,Zo [] 0,Ce [(rv 68)],Ce (NP 310 ["__class__"]),QU [],Ce (NP 311 ["self","kwds","result"]),Ce [],ĭ .none "_replace" "Match._replace" [3,6] 0 .none .none .none .none aH .none .none 0,WO [(sv "_replace" 307),(sv "Match._replace" 308),(sv "/claim/cut.py" 309),(iv 41),(iv 1),(iv 1),(iv 0),(iv 11),(rv 94),(.bool true),(iv 181),(rv 95),.none,(rv 96),(rv 97),(rv 98),(iv 314),(iv 41),(sv "/claim/cut.py" 315)],⟨(.type "function"),aH,(.func {name:=(aF "_replace"),qualname:=(aF "Match._replace"),params:=Ij (at_ [3,6]),body:=.stmts (cH (at_ [3,6])),scope:=Nj (at_ [3,6]),globals:=3,closure:=[((aF "__class__"),68)],defaults:=.none,kwdefaults:=.none,doc:=(.str (fnDoc (at_ [3,6])) 316),pyModule:=mdD,annotations:=aH,code:=(rv 99),closureTuple:=(rv 93),builtins:=0}), #[]⟩],
 fG mdD 101 [3,8] "__repr__" "Match.__repr__" 319 ["self"] 52 1 .none true,
 fG mdD 108 [3,9] "_asdict" "Match._asdict" 327 ["self"] 56 1 .none false,
 fG mdD 115 [3,10] "__getnewargs__" "Match.__getnewargs__" 334 ["self"] 59 1 .none true,
 [Ce (NP 342 ["a","b","size"]),Zo [iJ P "index" 352 (.int 0 346),iJ P "__doc__" 354 (sv "Alias for field number 0" 347)] 2,⟨(rv 60),(some 123),.plain, #[]⟩,⟨(.type "frame"),aH,(.dict #[iJ P "self" 348 (rv 124),iJ P "index" 349 (.int 0 346),iJ P "doc" 350 (sv "Alias for field number 0" 347)] 3), #[]⟩,Zo [iJ P "index" 362 (.int 1 356),iJ P "__doc__" 364 (sv "Alias for field number 1" 357)] 2,⟨(rv 60),(some 126),.plain, #[]⟩,⟨(.type "frame"),aH,(.dict #[iJ P "self" 358 (rv 127),iJ P "index" 359 (.int 1 356),iJ P "doc" 360 (sv "Alias for field number 1" 357)] 3), #[]⟩,Zo [iJ P "index" 372 (.int 2 366),iJ P "__doc__" 374 (sv "Alias for field number 2" 367)] 2,⟨(rv 60),(some 129),.plain, #[]⟩,⟨(.type "frame"),aH,(.dict #[iJ P "self" 368 (rv 130),iJ P "index" 369 (.int 2 366),iJ P "doc" 370 (sv "Alias for field number 2" 367)] 3), #[]⟩,Ce [],⟨(.type "list"),aH,(.seq #[] 0), #[]⟩,Zo [iJ P "__module__" 260 mdD,iJ P "__firstlineno__" 264 (.int 23 263),iJ P "__doc__" 266 (.str (Ee (at_ [3])) 265),iJ P "__slots__" 268 (rv 73),iJ P "_fields" 272 (rv 74),iJ P "_field_defaults" 273 (rv 75),iJ P "__new__" 284 (rv 136),iJ P "_make" 306 (rv 91),iJ P "_replace" 317 (rv 100),iJ P "__replace__" 318 (rv 100),iJ P "__repr__" 326 (rv 107),iJ P "_asdict" 333 (rv 114),iJ P "__getnewargs__" 341 (rv 121),iJ P "__match_args__" 345 (rv 122),iJ P "a" 355 (rv 124),iJ P "b" 365 (rv 127),iJ P "size" 375 (rv 130),iJ P "__static_attributes__" 376 (rv 132)] 2,⟨(.type "type"),aH,(.cls {name:=(aF "Match"),bases:=[(.type "tuple")],mro:=[(rv 135),(.type "tuple"),(.type "object")],ns:=134,qualname:=(aF "Match"),hasDict:=false,slotNames:=[],subclasses:=[],abstract:=false,collection:=aH,hasDel:=false}), #[(some (rv 65)),aH,(some (sv "Match" 253)),(some (sv "Match" 261)),(some .none),(some (.bool false))]⟩,⟨(.type "staticmethod"),aH,(.fields #[(rv 82)]), #[]⟩,⟨(.type "super"),aH,(.fields #[(rv 135),(rv 135),(rv 135)]), #[]⟩,⟨(.type "builtin_function_or_method"),aH,(.fields #[(.builtin "object.__init_subclass__"),(rv 135)]), #[]⟩],
 fG mdD 139 [4] "_calculate_ratio" "_calculate_ratio" 381 ["matches","length"] 66 2 .none false,
 [Ce [],⟨(.type "builtin_function_or_method"),aH,(.fields #[(.builtin "type.__prepare__"),(.type "type")]), #[]⟩,Zo [iJ P "__module__" 396 mdD,iJ P "__qualname__" 398 (sv "SequenceMatcher" 397),iJ P "__firstlineno__" 400 (.int 70 399),iJ P "__doc__" 402 (.str RG 401),iJ P "__init__" 417 (rv 160),iJ P "set_seqs" 427 (rv 167),iJ P "set_seq1" 436 (rv 174),iJ P "set_seq2" 445 (rv 181),iJ P "_SequenceMatcher__chain_b" 463 (rv 188),iJ P "find_longest_match" 491 (rv 196),iJ P "get_matching_blocks" 518 (rv 203),iJ P "get_opcodes" 525 (rv 210),iJ P "get_grouped_opcodes" 534 (rv 218),iJ P "ratio" 543 (rv 225),iJ P "quick_ratio" 550 (rv 232),iJ P "real_quick_ratio" 557 (rv 239),iJ P "__static_attributes__" 568 (rv 240)] 17,Ce [],QU (ŷ 4 [145,159,173,166,184,173,209,180,236,187,260,195,335,202,383,209,386,217,389,224,413,231,416,238]),WO [(sv "SequenceMatcher" 391),(sv "SequenceMatcher" 392),(sv "/claim/cut.py" 393),(iv 70),(iv 0),(iv 0),(iv 0),(iv 0),(rv 149),(.bool false),(iv 181),(rv 150),.none,.none,.none,.none,(iv 394),(iv 70),(sv "/claim/cut.py" 395)],⟨(.type "frame"),aH,.plain, #[(some (rv 151)),(some (rv 3)),(some (rv 148)),aH,(some mdD),aH,(some (rv 0))]⟩,Ce [.none,(sv "" 404),(sv "" 405),(.bool true)]],
 fG mdD 154 [5,1] "__init__" "SequenceMatcher.__init__" 406 ["self","isjunk","a","b","autojunk"] 145 5 (rv 153) true,
 fG mdD 161 [5,2] "set_seqs" "SequenceMatcher.set_seqs" 418 ["self","a","b"] 173 3 .none true,
 fG mdD 168 [5,3] "set_seq1" "SequenceMatcher.set_seq1" 428 ["self","a"] 184 2 .none true,
 fG mdD 175 [5,4] "set_seq2" "SequenceMatcher.set_seq2" 437 ["self","b"] 209 2 .none true,
 fG mdD 182 [5,5] "__chain_b" "SequenceMatcher.__chain_b" 446 ["self","b","b2j","i","elt","indices","junk","isjunk","popular","n","ntest","idxs"] 236 1 .none false,
 [Ce [(.int 0 464),.none,(.int 0 465),.none]],
 fG mdD 190 [5,6] "find_longest_match" "SequenceMatcher.find_longest_match" 466 ["self","alo","ahi","blo","bhi","a","b","b2j","isbjunk","besti","bestj","bestsize","j2len","nothing","i","j2lenget","newj2len","j","k"] 260 5 (rv 189) true,
 fG mdD 197 [5,7] "get_matching_blocks" "SequenceMatcher.get_matching_blocks" 492 ["self","la","lb","queue","matching_blocks","alo","ahi","blo","bhi","i","j","k","x","i1","j1","k1","non_adjacent","i2","j2","k2"] 335 1 .none true,
 fG mdD 204 [5,8] "get_opcodes" "SequenceMatcher.get_opcodes" 519 ["self"] 383 1 .none false,
 [Ce [(.int 3 526)]],
 fG mdD 212 [5,9] "get_grouped_opcodes" "SequenceMatcher.get_grouped_opcodes" 527 ["self","n"] 386 2 (rv 211) false,
 fG mdD 219 [5,10] "ratio" "SequenceMatcher.ratio" 535 ["self","matches"] 389 1 .none true,
 fG mdD 226 [5,11] "quick_ratio" "SequenceMatcher.quick_ratio" 544 ["self"] 413 1 .none false,
 fG mdD 233 [5,12] "real_quick_ratio" "SequenceMatcher.real_quick_ratio" 551 ["self"] 416 1 .none false,
 [Ce (NP 558 ["a","autojunk","b","b2j","bjunk","bpopular","fullbcount","isjunk","matching_blocks","opcodes"]),Zo [iJ P "__module__" 396 mdD,iJ P "__firstlineno__" 400 (.int 70 399),iJ P "__doc__" 402 (.str RG 401),iJ P "__init__" 417 (rv 160),iJ P "set_seqs" 427 (rv 167),iJ P "set_seq1" 436 (rv 174),iJ P "set_seq2" 445 (rv 181),iJ P "_SequenceMatcher__chain_b" 463 (rv 188),iJ P "find_longest_match" 491 (rv 196),iJ P "get_matching_blocks" 518 (rv 203),iJ P "get_opcodes" 525 (rv 210),iJ P "get_grouped_opcodes" 534 (rv 218),iJ P "ratio" 543 (rv 225),iJ P "quick_ratio" 550 (rv 232),iJ P "real_quick_ratio" 557 (rv 239),iJ P "__static_attributes__" 568 (rv 240),iJ P "__dict__" 570 (rv 243),iJ P "__weakref__" 572 (rv 244)] 3,⟨(.type "type"),aH,(.cls {name:=(aF "SequenceMatcher"),bases:=[(.type "object")],mro:=[(rv 242),(.type "object")],ns:=241,qualname:=(aF "SequenceMatcher"),hasDict:=true,slotNames:=[],subclasses:=[],abstract:=false,collection:=aH,hasDel:=false}), #[aH,aH,(some (sv "SequenceMatcher" 389)),(some (sv "SequenceMatcher" 397)),(some (.builtin "object.__new__")),(some (.bool true))]⟩,⟨(.type "getset_descriptor"),aH,(.fields #[(sv "__dict__" 569),(rv 242),(.builtin "function.__dict__"),(.builtin "function.__dict__#set")]), #[]⟩,⟨(.type "getset_descriptor"),aH,(.fields #[(sv "__weakref__" 571),(rv 242),(.builtin "ExceptionGroup.__weakref__"),.none]), #[]⟩,⟨(.type "super"),aH,(.fields #[(rv 242),(rv 242),(rv 242)]), #[]⟩,⟨(.type "builtin_function_or_method"),aH,(.fields #[(.builtin "object.__init_subclass__"),(rv 242)]), #[]⟩],
 fH AE 247 [7] "_law_kept" "_law_kept" 577 419 2 .none false,
 fH AE 252 [8] "_law_firm" "_law_firm" 583 434 1 .none false,
 fG AE 257 [9] "_law_walk" "_law_walk" 589 ["base","ours","theirs","first","second","told","o","p","q","k"] 436 3 .none false,
 fG AE 264 [10] "_law_merge" "_law_merge" 605 ["base","ours","theirs","first","second","told","o","p","q","x","y","begin","end","i","j"] 449 5 .none false,
 fG AE 271 [11] "_law_join" "_law_join" 626 ["told","text","old","one","two"] 464 1 .none false,
 fH AE 278 [12] "law" "law" 637 469 1 .none false].flatten
noncomputable def tr4(P:fK):BT:=Yk (L4l P) 283 10 0 1
def YF(w:gC)(os:eH):SharedT:=⟨tr4 w.params,283,{},jH [],{},643,os⟩
def env:ľ:={scope:=prog.main.scope,locals:=mainNs,globals:=mainNs,cells:=[],code:=(.ref 13),frame:=some 14}
def ú:Code:=.body (oO prog) env
noncomputable def ann:Option bL:=some (.ref 6)
noncomputable def frs:List Frame:=[topFrame ⟨0,0,0,0⟩]
noncomputable abbrev KR:=Array Nat->(Nat->Bool)->Nat->Nat->Bool
noncomputable def KA:KR:= @Array.any Nat
noncomputable def Ą:KR:=λa p i n=>if i=0/\n=a.size then a.toList.any p else a.any p i n
theorem SI:KA=Ą:=by
 funext a p i n;unfold Ą;by_cases h:i=0/\n=a.size
 .rw [if_pos h,h.1,h.2];exact Array.any_toList.symm
 .rw [if_neg h];rfl
noncomputable def CD:KR->Oj:=by
 refine (?c:(F:KR->Oj)->Oj.«type.__new__»=F KA->KR->Oj) ?F ?h
 case h=>
  delta Oj.«type.__new__»;generalize hg:KA=g;unfold KA at hg;rw [hg]
 case c=>exactλF _=>F
def Vg:Oj:=CD Ą
theorem Sq:Oj.«type.__new__»=Vg:=(show Oj.«type.__new__»=CD KA from rfl).trans (congrArg CD SI)
noncomputable def tb(id:String):Option Oj:=if id="type.__new__" then some Vg else treeTable id
theorem Ŋ:treeTable "type.__new__"=some Oj.«type.__new__»:=by kernel_rfl
theorem ŉ:treeTable=tb:=by
 funext id;unfold tb;by_cases h:id="type.__new__"
 .subst h;rw [if_pos rfl,Ŋ,Sq]
 .rw [if_neg h]
noncomputable def aAx(p:yN):ľ:={scope:=p.main.scope,locals:=mainNs,globals:=mainNs,cells:=[],code:=(.ref 13),frame:=some 14}
def aA5(p:yN):Code:=.body (oO p) (aAx p)
def LQ(p:yN)(w:gC)(os:eH):Option (Flow×SharedT×Code×ķ):=segRunT tb p w 11 ann 1 2291 (ŋ w os) (piecesOf (oO p) (aAx p) (aA5 p) ⟨0,0,0,0⟩ frs)
theorem aCe(w:gC)(os:eH):LQ pwQ w os=some (XC,YF w os,aA5 pwQ,⟨469,0,500,15⟩):=by kernel_rfl
theorem aCf(w:gC)(os:eH):segRunT tb PySem.Challenge.pw_mt0007_03 w 11 ann 1 2291 (ŋ w os) (piecesOf (oO prog) env ú ⟨0,0,0,0⟩ frs)=some (XC,YF w os,ú,⟨469,0,500,15⟩):=by have h:=aCe w os;rw [<-Ř]at h;exact h
noncomputable def frA:List cR:=[1,2,3,15,17,18,20,21,29,31,32,34,35,36,37,39,40,42,43,44,46,47,49,50,51,53,54,56,57,58,59,60,61,62,65,68,73,74,75,76,78,79,81,82,83,85,86,88,89,90,91,92,93,94,96,97,99,100,101,103,104,106,107,108,110,111,113,114,115,117,118,120,121,122,123,124,126,127,129,130,132,134,135,136,139,141,142,144,145,153,154,156,157,159,160,161,163,164,166,167,168,170,171,173,174,175,177,178,180,181,182,184,185,187,188,189,190,192,193,195,196,197,199,200,202,203,204,206,207,209,210,211,212,214,215,217,218,219,221,222,224,225,226,228,229,231,232,233,235,236,238,239,240,241,242,243,244,247,250,251,252,255,256,257,259,260,262,263,264,266,267,269,270,271,273,274,276,277,278,281,282]
def fr(P:fK):xO:=frA.map λa=>(a,((tr4 P).get a).getD default)
def M8:Hook:=kHook fr frA (λ_=>by kernel_rfl)
def q:yN:={prog with main:={prog.main with body:=(oO prog).drop 12}}
noncomputable def loose:List iS:=[aF "_wall",aF "_tuplegetter",aF "Match",aF "_calculate_ratio",aF "SequenceMatcher",aF "_law_kept",aF "_law_firm",aF "_law_walk",aF "_law_merge",aF "_law_join"]
def H1(P:fK):dF:=absHeap (tr4 P) 283 {}
abbrev row:OpenRow:=PySem.Challenge.rw_mt0007_03.row
noncomputable def Xt(s:cS):Bool:=xlAt q [] s&&recOk (RowW.records row.toRowW) s
theorem lon(w:gC)(_:eH):frA.map (H1 w.params).get?=(fr w.params).map λp=>some p.2:=by kernel_rfl
def aDh(w:gC)(os:eH):=staticsOk (importedModules prog.main.body) (boot_heap w.params) (H1 w.params)
theorem loa(w:gC)(os:eH):aDh w os=true:=by kernel_rfl
def aDg(w:gC)(os:eH):=namesBound prog (H1 w.params)
theorem lob(w:gC)(os:eH):aDg w os=true:=by kernel_rfl
def aDf(w:gC)(os:eH):=gensDone ⟨H1 w.params,jH [],{},643,os⟩
theorem loc(w:gC)(os:eH):aDf w os=true:=by kernel_rfl
def aDe(w:gC)(os:eH):=laidKept (boot_heap w.params) (H1 w.params)
theorem lod(w:gC)(os:eH):aDe w os=true:=by kernel_rfl
def aDd(w:gC)(os:eH):=seen ((recsOf q).map (·.name)) (ownsOf q) [] {(⟨H1 w.params,jH [],{},643,os⟩:cS)with gens:= #[]}
noncomputable def aDc(w:gC)(_:eH):=expectedOf q
theorem loe(w:gC)(os:eH):aDd w os=aDc w os:=by kernel_rfl
def aDb(w:gC)(os:eH):=(H1 w.params).bltView
noncomputable def aDa(w:gC)(_:eH):=bltViewBooted
theorem lof(w:gC)(os:eH):aDb w os=aDa w os:=by kernel_rfl
def aC9(w:gC)(os:eH):=(H1 w.params).keysOk (looseW q loose) ((recsOf q).map (·.name)) ((litsOf q).map (·.1)) ((clssOf q (looseW q loose)).map (·.name))&& (H1 w.params).accountedOkI (importedModules prog.main.body)&& (H1 w.params).isNs mainGlobals&& (H1 w.params).isNs builtinsNs&&tablesOk q (H1 w.params)&&Xt ⟨H1 w.params,jH [],{},643,os⟩&& (if true then (jH []:Array GenState).size==0 else !leftWithCleanup (jH []))
theorem log(w:gC)(os:eH):aC9 w os=true:=by kernel_rfl
def aC8(w:gC)(os:eH):=tabsOk q ⟨H1 w.params,jH [],{},643,os⟩
theorem loh(w:gC)(os:eH):aC8 w os=true:=by kernel_rfl
def aC7(w:gC)(os:eH):=pinSeenD q (drecsOf q) ⟨H1 w.params,jH [],{},643,os⟩
noncomputable def aC6(w:gC)(_:eH):=pinGoodD (drecsOf q)
theorem loi(w:gC)(os:eH):aC7 w os=aC6 w os:=by kernel_rfl
def aC5(w:gC)(os:eH):=plainSeenE q (looseW q loose) ⟨H1 w.params,jH [],{},643,os⟩
def aC4(w:gC)(_:eH):=plainGoodE q (looseW q loose)
theorem loj(w:gC)(os:eH):aC5 w os=aC4 w os:=by kernel_rfl
def aC3(w:gC)(os:eH):=plainSeenD q loose ⟨H1 w.params,jH [],{},643,os⟩
def aC2(w:gC)(_:eH):=plainGoodD q loose
theorem lok(w:gC)(os:eH):aC3 w os=aC2 w os:=by kernel_rfl
def aC1(w:gC)(os:eH):=wideSeen q ⟨H1 w.params,jH [],{},643,os⟩
noncomputable def aC0(w:gC)(_:eH):=wideGood q
theorem lol(w:gC)(os:eH):aC1 w os=aC0 w os:=by kernel_rfl
def aCz(w:gC)(os:eH):=clsSeenW q loose ⟨H1 w.params,jH [],{},643,os⟩
def aCy(w:gC)(_:eH):=clsGoodW q loose
theorem lom(w:gC)(os:eH):aCz w os=aCy w os:=by kernel_rfl
theorem aDv{a b c d:Bool}(x:a=true)(y:b=true)(z:c=true)(u:d=true):(a&&b&&c&&d)=true:=by rw [x,y,z,u];rfl
theorem aCx(w:gC)(os:eH):(((staticsOk (importedModules prog.main.body) (boot_heap w.params) (H1 w.params)&&namesBound prog (H1 w.params)&&gensDone ⟨H1 w.params,jH [],{},643,os⟩&&laidKept (boot_heap w.params) (H1 w.params)),
 openSeen q loose (importedModules prog.main.body) Xt true ⟨H1 w.params,jH [],{},643,os⟩,frA.map (H1 w.params).get?))=(true,openGood q loose,(fr w.params).map λp=>some p.2):=
 looks_pair (aDv (loa w os) (lob w os) (loc w os) (lod w os)) (looks_pair (looks_pair (loe w os) (looks_pair (lof w os) (looks_pair (log w os) (looks_pair (loh w os) (looks_pair (loi w os) (looks_pair (loj w os) (looks_pair (lok w os) (looks_pair (lol w os) (lom w os))))))))) (lon w os))
def aCl(w:gC)(os:eH):Option (cS×Thread):=topGo treeTable prog w 11 ann 12 ⟨boot_heap w.params,jH [],boot_drawn,boot_toks,os⟩ (topStub prog)
def aCk(w:gC)(os:eH):Option (cS×Thread):=some ((ŋ w os).abs,⟨denote treeTable ú,ú,⟨0,0,0,0⟩,frs⟩)
theorem pre(w:gC)(os:eH):aCl w os=aCk w os:=by kernel_rfl
def aDu(w:gC)(os:eH):Option (Flow×cS×Code×ķ):=segRun treeTable prog w 11 ann 1 1 (ŋ w os).abs (blockOf (oO prog) env ú ⟨0,0,0,0⟩ frs)
noncomputable def aDt(w:gC)(os:eH):Option (Flow×cS×Code×ķ):=some (XC,(ŋ w os).abs,ú,⟨0,0,0,0⟩)
theorem Af(w:gC)(os:eH):aDu w os=aDt w os:=by kernel_rfl
def aDp(w:gC)(os:eH):Option cS:=topRun treeTable prog w 11 ann 2 (YF w os).abs ⟨doneF .next,ú,⟨469,0,500,15⟩,frs⟩
def aDo(w:gC)(os:eH):Option cS:=some ⟨H1 w.params,jH [],{},643,os⟩
theorem yH(w:gC)(os:eH):aDp w os=aDo w os:=by kernel_rfl
theorem run(w:gC)(os:eH):topRun treeTable prog w 11 ann (12+(1+(2291+2))) ⟨boot_heap w.params,jH [],boot_drawn,boot_toks,os⟩ (topStub prog)=some ⟨H1 w.params,jH [],{},643,os⟩:=by refine go_top (pre w os) (piece_block (q:=⟨0,0,0,0⟩) (Af w os) ?_);rw [<-dI (oO prog)];refine piece_app (q:=⟨0,0,0,0⟩) (by rw [ŉ];exact segRun_of (aCf w os)) ?_;exact yH w os
theorem left:LeftO prog q loose Xt (Hook.obs M8) (Hook.val M8) 4698:=by refine LeftO.of_pieces (H₀:=boot_heap) (H₁:=H1) (gs₀:=jH []) (gs₁:=jH []) (d₀:=boot_drawn) (d₁:={}) (k₀:=boot_toks) (k₁:=643) (m₀:=11) (ann:=ann) (M:=(12+(1+(2291+2)))) (boot_open (by kernel_rfl) (by decide) (λ_=>by kernel_rfl)) (λw=>by kernel_rfl) run (by decide+kernel) (λw=>?_);funext os;exact aCx w os
def dlaw:DefRec:=⟨aF "law",Ij (at_ [12]),cH (at_ [12]),Nj (at_ [12]),⟨469,0,500,15⟩⟩
theorem aDm:defOf q row.name=some (dlaw,[]):=by kernel_rfl
theorem QD:row.prog.theDef row.name=some (dlaw.params,dlaw.body,dlaw.scope):=by kernel_rfl
theorem hkw:kwWritten? dlaw.params.kwonlyargs dlaw.params.kw_defaults=some []:=by kernel_rfl
theorem hok:(chainsOk q&&opensWell row.prog&& (frees row.toRowW&&row.within.isEmpty))=true:=by decide+kernel
theorem aAm:row.prog.bare:=⟨rfl,rfl,rfl,rfl,rfl,by decide+kernel⟩
theorem hd(walk:WalkO q loose (XL q []) (XB M8) row.toRowW dlaw [] λf vs=>aEb f vs):PySem.Challenge.rw_mt0007_03.Holds:=by
 refine holds_law (by kernel_rfl) λa=>?_;refine holds_open (r:=row) (q:=q) (loose:=loose) (Xt:=Xt) (XP:=XL q []) (Yf:=Hook.obs M8) (Ya:=Hook.val M8) (YP:=XB M8) (d:=dlaw) (kwd:=[]) (N:=4698) left (Hook.of M8) (Hook.keeps M8) (λs e=>xl_of s (pQ.mp e).1) XL.keeps aDm QD hkw (λs e=>recFacts_of (pQ.mp e).2) (by kernel_rfl) (by assumption) hok aAm ?hw walk
 case hw=>w_witness2
end MineH
namespace Mine
noncomputable abbrev prog:yN:=MineH.row.prog
def į(w:gC)(S:cS):Prop:=(MineH.fr w.params).In S.heap/\∃p loose mg mb,TopRead p loose mg mb S.heap
def Z3(w:gC)(S:cS):Prop:=∀(xs:List Int)(l:cR)(rk:List bL),aC xs<=900->S.heap.IsList l (bC rk)->IntsAre rk xs->
 bW (model prog w) callerA (call (.ref 282) [.ref l]) (λv s'=>v=.bool aU/\∃h' aw,s'={S with heap:=h',toks:=aw}/\∀b o,S.heap.get? b=aG o->h'.get? b=aG o) (λ_ _=>False) S
theorem WG:∃p:gC×cS,(į p.1 p.2->Z3 p.1 p.2)->∀w S,į w S->Z3 w S:=by
 by_cases h:∃p:gC×cS,¬(į p.1 p.2->Z3 p.1 p.2)
 .exact h.elim λp a=>⟨p,λq=>(a q).elim⟩
 .exact ⟨(⟨λ_ _=>0,{strHash:=λ_=>0,shareClass:=id,mergeTok:=id,idOf:=λ_=>0,idOfShared:=λ_ _=>0,followText:=λ_=>bR,idOfImm:=λ_=>0}⟩,{}),λ_ w S=>jK λq=>h ⟨(w,S),q⟩⟩
@[irreducible] noncomputable def wS:gC×cS:=WG.choose
@[irreducible] def w:gC:=wS.1
@[irreducible] def S:cS:=wS.2
theorem XJ(h:į w S->Z3 w S):∀w S,į w S->Z3 w S:=WG.choose_spec (by unfold w S wS at h;exact h)
abbrev iC:I8:=model prog w
end Mine
namespace Mine.Li
section
set_option backward.match.sparseCases false
set_option genInjectivity false
set_option genCtorIdx false
inductive U where
 |v (i:Nat)|n (k:Nat)|add (a b:U)|mul (k:Nat) (a:U)|sub (a b:U)|neg (a:U)|cs (a:U)
 |le (z:Bool) (a b:U)|eq (z:Bool) (a b:U)|and (a b:U)|or (a b:U)|imp (a b:U)|ff|df (o:Nat) (a b:U)
inductive E where
 |n (a:Nat)|z (x:Int)
noncomputable def E.nat:E->Nat
 |.n a=>a
 |.z x=>x.toNat
noncomputable def E.int:E->Int
 |.n a=>a
 |.z x=>x
noncomputable def get:List E->Nat->E
 |[],_=>.n 0
 |a::_,0=>a
 |_::r,i+1=>get r i
def U.t(ρ:List E):U->Nat
 |.v i=>(get ρ i).nat
 |.n k=>k
 |.add a b=>a.t ρ+b.t ρ
 |.mul k a=>k*a.t ρ
 |.sub _ _=>0
 |.neg _=>0
 |.cs _=>0
 |.le _ _ _=>0
 |.eq _ _ _=>0
 |.and _ _=>0
 |.or _ _=>0
 |.imp _ _=>0
 |.ff=>0
 |.df _ _ _=>0
def U.z(ρ:List E):U->Int
 |.v i=>(get ρ i).int
 |.n k=>(k:Int)
 |.add a b=>a.z ρ+b.z ρ
 |.mul k a=>(k:Int)*a.z ρ
 |.sub a b=>a.z ρ-b.z ρ
 |.neg a=> - a.z ρ
 |.cs a=>(a.t ρ:Int)
 |.le _ _ _=>0
 |.eq _ _ _=>0
 |.and _ _=>0
 |.or _ _=>0
 |.imp _ _=>0
 |.ff=>0
 |.df _ _ _=>0
def ī(ρ:List E)(a b:U):Bool->Prop
 |false=>a.t ρ<=b.t ρ
 |true=>a.z ρ<=b.z ρ
def eqP(ρ:List E)(a b:U):Bool->Prop
 |false=>a.t ρ=b.t ρ
 |true=>a.z ρ=b.z ρ
def U.p(ρ:List E):U->Prop
 |.v _=>True
 |.n _=>True
 |.add _ _=>True
 |.mul _ _=>True
 |.sub _ _=>True
 |.neg _=>True
 |.cs _=>True
 |.le z a b=>ī ρ a b z
 |.eq z a b=>eqP ρ a b z
 |.and a b=>a.p ρ/\b.p ρ
 |.or a b=>a.p ρ\/b.p ρ
 |.imp a b=>a.p ρ->b.p ρ
 |.ff=>False
 |.df _ _ _=>True
def cg{c g:Type}{f:c->c->g}{a d b e:c}(h:a=d)(k:b=e):f a b=f d e:=h▸k▸rfl
noncomputable def U.sh:U->U
 |.v i=>.v (i+1)
 |.n k=>.n k
 |.add a b=>.add a.sh b.sh
 |.mul k a=>.mul k a.sh
 |.sub a b=>.sub a.sh b.sh
 |.neg a=>.neg a.sh
 |.cs a=>.cs a.sh
 |.le z a b=>.le z a.sh b.sh
 |.eq z a b=>.eq z a.sh b.sh
 |.and a b=>.and a.sh b.sh
 |.or a b=>.or a.sh b.sh
 |.imp a b=>.imp a.sh b.sh
 |.ff=>.ff
 |.df o a b=>.df o a b
def Gm(x:E)(c:List E):∀e:U,e.sh.t (x::c)=e.t c:=by
 intro e
 induction e with
 |add a b d f=>exact cg d f
 |mul k a g=>exact congrArg (k*·) g
 |_=>rfl
def Xv(x:E)(c:List E):∀e:U,e.sh.z (x::c)=e.z c:=by
 intro e
 induction e with
 |add a b d f=>exact cg d f
 |sub a b d f=>exact cg d f
 |mul k a g=>exact congrArg ((k:Int)*·) g
 |neg a g=>exact congrArg (- ·) g
 |cs a=>exact congrArg Nat.cast (Gm x c a)
 |_=>rfl
def aCo(x:E)(c:List E):∀e:U,e.sh.p (x::c)=e.p c:=by
 intro e
 induction e with
 |le z a b=>cases z with
  |false=>exact cg (Gm x c a) (Gm x c b)
  |true=>exact cg (f:=λx y:Int=>x<=y) (Xv x c a) (Xv x c b)
 |eq z a b=>cases z with
  |false=>exact cg (Gm x c a) (Gm x c b)
  |true=>exact cg (Xv x c a) (Xv x c b)
 |and a b d g=>exact cg d g
 |or a b d g=>exact cg d g
 |imp a b d g=>exact cg (f:=λx y:Prop=>x->y) d g
 |_=>rfl
noncomputable def E9:List Nat->List Nat->List Nat
 |[],y=>y
 |a::x,y=>match y with
  |[]=>a::x
  |b::y=>(a+b)::E9 x y
noncomputable def Sp:Nat->List Nat
 |0=>[1]
 |i+1=>0::Sp i
def U.l:U->List Nat
 |.v i=>0::Sp (2*i)
 |.n k=>[k]
 |.add a b=>E9 a.l b.l
 |.mul k a=>a.l.map (k*·)
 |.sub _ _=>[]
 |.neg _=>[]
 |.cs _=>[]
 |.le _ _ _=>[]
 |.eq _ _ _=>[]
 |.and _ _=>[]
 |.or _ _=>[]
 |.imp _ _=>[]
 |.ff=>[]
 |.df _ _ _=>[]
def U.w:U->Bool->List Nat
 |.v i=>λc=>bif c then 0::Sp (2*i)else 0::Sp (2*i+1)
 |.n k=>λc=>bif c then[k]else[]
 |.add a b=>λc=>E9 (a.w c) (b.w c)
 |.mul k a=>λc=>(a.w c).map (k*·)
 |.sub a b=>λc=>E9 (a.w c) (b.w (!c))
 |.neg a=>λc=>a.w (!c)
 |.cs a=>λc=>bif c then a.l else[]
 |.le _ _ _=>λ_=>[]
 |.eq _ _ _=>λ_=>[]
 |.and _ _=>λ_=>[]
 |.or _ _=>λ_=>[]
 |.imp _ _=>λ_=>[]
 |.ff=>λ_=>[]
 |.df _ _ _=>λ_=>[]
noncomputable def vJ:List Nat->List Nat->Nat
 |a::x,r::ρ=>a*r+vJ x ρ
 |_,_=>0
def pX:∀(x y c:List Nat),vJ (E9 x y) c=vJ x c+vJ y c:=by
 intro x
 induction x with
 |nil=>intro y c;exact ((congrArg (·+vJ y c) (by cases c<;>rfl)).trans (dY _)).symm
 |cons a x d=>
  intro y c
  cases c with
  |nil=>cases y<;>rfl
  |cons r c=>cases y with
   |nil=>rfl
   |cons b y=>refine (?_:(a+b)*r+vJ (E9 x y) c=(a*r+vJ x c)+(b*r+vJ y c));rw [d,aEo,Nat.add_add_add_comm]
def Ac(k:Nat):∀(x b:List Nat),vJ (x.map (k*·)) b=k*vJ x b:=by
 intro x
 induction x with
 |nil=>intro b;exact (by cases b<;>rfl:vJ [] b=0).trans (congrArg (k*·) (by cases b<;>rfl:vJ [] b=0)).symm
 |cons a x c=>
  intro b
  cases b with
  |nil=>rfl
  |cons r b=>refine (?_:k*a*r+vJ (x.map (k*·)) b=k*(a*r+vJ x b));rw [c,aEn,Nat.mul_assoc]
noncomputable def Ĥ:List E->List Nat
 |[]=>[]
 |e::r=>e.nat::(bif (match e with|.n _=>true|.z _=>false)then 0 else (-e.int).toNat)::Ĥ r
noncomputable abbrev ve(ρ:List E):List Nat:=1::Ĥ ρ
def IR(x:List Nat):vJ x []=0:=by cases x<;>rfl
def RF(a:List Nat):vJ [] a=0:=by cases a<;>rfl
def Jt(x a:List Nat)(r:Nat):vJ (0::x) (r::a)=vJ x a:=(congrArg (·+vJ x a) (aEc r)).trans (dY _)
def ð(a:List Nat)(r:Nat):vJ [1] (r::a)=r:=(congrArg (1*r+·) (RF a)).trans (aEm r)
def RD{z:Int}{P N p n:Nat}(h1:P=p)(h2:N=n)(h:z=(p:Int)-n):z=(P:Int)-N:=by rw [h1,h2];exact h
def WI(i:Nat):∀b:List E,vJ (Sp (2*i)) (Ĥ b)=(get b i).nat/\(get b i).int=(vJ (Sp (2*i)) (Ĥ b):Int)-vJ (Sp (2*i+1)) (Ĥ b):=by
 induction i with
 |zero=>
  intro b
  cases b with
  |nil=>exact ⟨rfl,rfl⟩
  |cons e b=>
   refine ⟨ð _ _,RD (ð _ _) ((Jt _ _ _).trans (ð _ _)) ?_⟩
   cases e with
   |n a=>exact (Z9 _).symm
   |z x=>exact (Int.toNat_sub_toNat_neg x).symm
 |succ i c=>
  intro b
  cases b with
  |nil=>exact ⟨IR _,RD (IR _) (IR _) rfl⟩
  |cons e b=>exact ⟨((Jt _ _ _).trans (Jt _ _ _)).trans (c b).1,RD ((Jt _ _ _).trans (Jt _ _ _)) ((Jt _ _ _).trans (Jt _ _ _)) (c b).2⟩
def IQ(c:List E):∀e:U,vJ e.l (ve c)=e.t c:=by
 intro e
 induction e with
 |v i=>exact (Jt _ _ _).trans (WI i c).1
 |n k=>exact (congrArg (k*1+·) (RF _)).trans (yU k)
 |add a b d f=>exact (pX _ _ _).trans (cg d f)
 |mul k a g=>exact (Ac k _ _).trans (congrArg (k*·) g)
 |_=>rfl
def ad1(a b c d:Int):(a-b)+(c-d)=(a+c)-(b+d):=by simp only [Int.sub_eq_add_neg,Int.neg_add,Int.add_assoc,Int.add_left_comm]
def ad2(a b c d:Int):(a-b)-(c-d)=(a+d)-(b+c):=(congrArg (a-b+·) (aEr c d)).trans (ad1 a b d c)
def WH(c:List E):∀e:U,e.z c=(vJ (e.w true) (ve c):Int)-vJ (e.w false) (ve c):=by
 intro e
 induction e with
 |v i=>exact RD (Jt _ _ _) (Jt _ _ _) (WI i c).2
 |n k=>exact RD ((congrArg (k*1+·) (RF _)).trans (yU k)) rfl (Z9 _).symm
 |add a b d f=>exact RD (pX _ _ _) (pX _ _ _) ((cg d f).trans (ad1 _ _ _ _))
 |sub a b d f=>exact RD (pX _ _ _) (pX _ _ _) ((cg d f).trans (ad2 _ _ _ _))
 |mul k a g=>exact RD (Ac k _ _) (Ac k _ _) ((congrArg ((k:Int)*·) g).trans (Int.mul_sub _ _ _))
 |neg a g=>exact (congrArg (- ·) g).trans (aEr _ _)
 |cs a=>exact RD (IQ c a) rfl (Z9 _).symm
 |_=>rfl
def lh(a b:U)(z:Bool):List Nat:=bif z then E9 (a.w true) (b.w false)else a.l
def Hh(c:List E)(a b:U)(z:Bool):ī c a b z↔vJ (lh a b z) (ve c)<=vJ (lh b a z) (ve c):=by
 cases z with
 |false=>exact (IQ c a).symm▸(IQ c b).symm▸.rfl
 |true=>refine (pX (a.w true) (b.w false) (ve c)).symm▸(pX (b.w true) (a.w false) (ve c)).symm▸?_;unfold ī;rw [WH c a,WH c b];omega
def í(c:List E)(a b:U)(z:Bool):eqP c a b z↔ī c a b z/\ī c b a z:=by
 cases z with
 |false=>exact ⟨λh=>⟨oQ h,oQ h.symm⟩,λh=>gO h.1 h.2⟩
 |true=>exact ⟨λh=>⟨aEg h,aEg h.symm⟩,λh=>Int.le_antisymm h.1 h.2⟩
noncomputable abbrev Cs:=List (List Nat×List Nat)
abbrev Kn:=Cs->Nat->Option Nat
def up(x:List Nat):List Nat:=E9 [1] x
def Ħ(a b:List Nat)(p:Bool)(k:Kn)(cs:Cs):Nat->Option Nat:=bif p then k ((a,b)::cs)else k ((up b,a)::cs)
def Ŗ(x y:Kn):Kn:=λcs s=>(x cs s).bind (y cs)
def ref:U->Bool->Kn->Kn
 |.v _=>λ_ k=>k
 |.n _=>λ_ k=>k
 |.add _ _=>λ_ k=>k
 |.mul _ _=>λ_ k=>k
 |.sub _ _=>λ_ k=>k
 |.neg _=>λ_ k=>k
 |.cs _=>λ_ k=>k
 |.le z a b=>λp k=>Ħ (lh a b z) (lh b a z) p k
 |.eq z a b=>λp k=>bif p then Ħ (lh b a z) (lh a b z) true (Ħ (lh a b z) (lh b a z) true k)else Ŗ (Ħ (lh b a z) (lh a b z) false k) (Ħ (lh a b z) (lh b a z) false k)
 |.and a b=>λp k=>bif p then ref a p (ref b p k)else Ŗ (ref a p k) (ref b p k)
 |.or a b=>λp k=>bif p then Ŗ (ref a p k) (ref b p k)else ref a p (ref b p k)
 |.imp a b=>λp k=>bif p then Ŗ (ref a (!p) k) (ref b p k)else ref a (!p) (ref b p k)
 |.ff=>λp k=>bif p thenλ_ s=>some s else k
 |.df _ _ _=>λ_ k=>k
def tot(b:Nat):Cs->Nat->Nat×List Nat×List Nat
 |[],s=>(s,[],[])
 |c::cs,s=>match tot b cs (s/b)with
  |(s',L,R)=>(s',E9 (c.1.map (s%b*·)) L,E9 (c.2.map (s%b*·)) R)
noncomputable def leL:List Nat->List Nat->Bool
 |[],_=>true
 |r::R,L=>match L with
  |[]=>Dk r 0&&leL R []
  |l::L=>Dk r l&&leL R L
def bad:List Nat->List Nat->Bool
 |[],l::_=>Dk 1 l
 |r::R,l::L=>Dk (r+1) l&&leL R L
 |_,_=>false
def aAg(b:Nat):Kn:=λcs s=>match tot b cs s with
 |(s',L,R)=>bif bad R L then some s' else none
def Hs(ρ:List E):Cs->Prop
 |[]=>True
 |c::cs=>vJ c.1 (ve ρ)<=vJ c.2 (ve ρ)/\Hs ρ cs
def YA{a:List E}(b:Nat):∀(cs:Cs)(s:Nat),Hs a cs->vJ (tot b cs s).2.1 (ve a)<=vJ (tot b cs s).2.2 (ve a):=by
 intro cs
 induction cs with
 |nil=>exactλ_ _=>bG _
 |cons c cs d=>intro s h;refine (?_:vJ (E9 _ _) _<=vJ (E9 _ _) _);rw [pX,pX,Ac,Ac];exact iN (LM _ h.1) (d _ h.2)
def Ç:∀(R L a:List Nat),leL R L=true->vJ R a<=vJ L a:=by
 intro R
 induction R with
 |nil=>intro L a _;exact bV (oQ (RF a)) (bI _)
 |cons r R b=>
  intro L a h
  cases a with
  |nil=>exact bI _
  |cons x a=>cases L with
   |nil=>have h':=(dT _ _).mp h;refine (?_:r*x+vJ R a<=0);rw [KW.mp (uA h'.1),aEc,dY];exact bV (b [] a h'.2) (oQ (by cases a<;>rfl))
   |cons l L=>have h':=(dT _ _).mp h;exact iN (Nat.mul_le_mul_right _ (uA h'.1)) (b L a h'.2)
def Ā:∀(R L a:List Nat),bad R L=true->vJ R (1::a)<vJ L (1::a):=by
 intro R L a h
 cases L with
 |nil=>cases R<;>exact nomatch h
 |cons l L=>cases R with
  |nil=>exact dC (uA h) (bV (oQ (yU l).symm) (lM _ _))
  |cons r R=>have h':=(dT _ _).mp h;refine (?_:r*1+vJ R a<l*1+vJ L a);rw [yU,yU];exact Nat.add_lt_add_of_lt_of_le (uA h'.1) (Ç R L a h'.2)
def So(ρ:List E)(q:Prop)(k:Kn):Prop:=∀cs s s',k cs s=some s'->Hs ρ cs->q->False
def OW{a:List E}{q:Prop}(b:Nat):So a q (aAg b):=λcs s f e h _=>by
 have c:bad (tot b cs s).2.2 (tot b cs s).2.1=true:=by
  cases d:bad (tot b cs s).2.2 (tot b cs s).2.1 with
  |true=>rfl
  |false=>exact nomatch (congrArg (λx:Bool=>bif x then some (tot b cs s).1 else none) d).symm.trans e
 exact eG _ (dC (Ā _ _ (Ĥ a) c) (YA b cs s h))
def NO{x:Option Nat}{f:Nat->Option Nat}{b:Nat}{C:Prop}(e:x.bind f=some b)(k:∀a,x=some a->f a=some b->C):C:=by
 cases x with
 |none=>exact nomatch e
 |some a=>exact k a rfl e
def XV(a:List E)(x:List Nat):vJ (up x) (ve a)=1+vJ x (ve a):=(pX _ _ _).trans rfl
def Hp(p:Bool)(q:Prop):Prop:=match p with
 |true=>q
 |false=>¬q
def Gv{c:List E}{q r:Prop}{a b:List Nat}{k:Kn}(i:r↔vJ a (ve c)<=vJ b (ve c))(p:Bool)(f:So c q k):So c (Hp p r/\q) (Ħ a b p k):=λcs s g e h d=>by
 cases p with
 |true=>exact f _ _ _ e ⟨i.mp d.1,h⟩ d.2
 |false=>exact f _ _ _ e ⟨(XV c b).symm▸oR 1 _▸Ę λz=>d.1 (i.mpr z),h⟩ d.2
def Lz{a:List E}{q r t:Prop}{x y:Kn}(c:So a q x)(d:So a r y)(h:t->q\/r):So a t (Ŗ x y):=λ_ _ _ e b f=>NO e λ_ g i=>(h f).elim (c _ _ _ g b) (d _ _ _ i b)
def Kd{a:List E}{q r:Prop}{x:Kn}(b:So a q x)(h:r->q):So a r x:=λcs s c e d f=>b cs s c e d (h f)
def DB{d:List E}{q:Prop}:∀(f:U)(p:Bool)(k:Kn),So d q k->So d (Hp p (f.p d)/\q) (ref f p k):=by
 intro f
 induction f generalizing q with
 |le z a b=>exactλp k c=>Gv (Hh d a b z) p c
 |eq z a b=>
  intro p k c;have i:=í d a b z
  cases p with
  |true=>exact Kd (Gv (Hh d b a z) true (Gv (Hh d a b z) true c)) λh=>⟨(i.mp h.1).2,(i.mp h.1).1,h.2⟩
  |false=>exact Lz (Gv (Hh d b a z) false c) (Gv (Hh d a b z) false c) λh=>(Oi (ī d a b z)).elim (λw=>.inl ⟨λj=>h.1 (i.mpr ⟨w,j⟩),h.2⟩) λw=>.inr ⟨w,h.2⟩
 |and a b e g=>
  intro p k c
  cases p with
  |true=>exact Kd (e true _ (g true k c)) λh=>⟨h.1.1,h.1.2,h.2⟩
  |false=>exact Lz (e false k c) (g false k c) λh=>(Oi (a.p d)).elim (λw=>.inr ⟨λj=>h.1 ⟨w,j⟩,h.2⟩) λw=>.inl ⟨w,h.2⟩
 |or a b e g=>
  intro p k c
  cases p with
  |true=>exact Lz (e true k c) (g true k c) λh=>h.1.imp (λw=>⟨w,h.2⟩) λw=>⟨w,h.2⟩
  |false=>exact Kd (e false _ (g false k c)) λh=>⟨λw=>h.1 (.inl w),λw=>h.1 (.inr w),h.2⟩
 |imp a b e g=>
  intro p k c
  cases p with
  |true=>exact Lz (e false k c) (g true k c) λh=>(Oi (a.p d)).elim (λw=>.inr ⟨h.1 w,h.2⟩) λw=>.inl ⟨w,h.2⟩
  |false=>exact Kd (e true _ (g false k c)) λh=>⟨jK λw=>h.1 λj=>(w j).elim,λw=>h.1 λ_=>w,h.2⟩
 |ff=>
  intro p k c
  cases p with
  |true=>exactλ_ _ _ _ _ h=>h.1
  |false=>exact Kd c And.right
 |_=>exactλp k c=>Kd c And.right
noncomputable def opU:Nat->U->U->U
 |0,x,y=>.add x y
 |1,x,y=>.le false x y
 |2,x,y=>.le false (.add x (.n 1)) y
 |3,x,y=>.eq false x y
 |4,x,y=>.and x y
 |5,x,y=>.or x y
 |6,x,y=>.imp x y
 |_,x,y=>.sub x y
noncomputable def Ar:U->Nat
 |.v _=>0
 |.n k=>k
 |.add _ _=>0
 |.mul _ _=>0
 |.sub _ _=>0
 |.neg _=>0
 |.cs _=>0
 |.le _ _ _=>0
 |.eq _ _ _=>0
 |.and _ _=>0
 |.or _ _=>0
 |.imp _ _=>0
 |.ff=>0
 |.df _ _ _=>0
noncomputable def dfV(o:Nat)(a b:U)(ρ:List E):Nat:=bif mX o 0 then a.t ρ-b.t ρ else bif mX o 1 then min (a.t ρ) (b.t ρ)else bif mX o 2 then max (a.t ρ) (b.t ρ)else (a.z ρ).toNat
noncomputable def orU(a b c d:U):U:=.or (.and a b) (.and c d)
def dfU(o:Nat)(a b d:U):U:=bif mX o 0 then orU (.le false b a) (.eq false (.add d b) a) (.le false (.add a (.n 1)) b) (.eq false d (.n 0))else bif mX o 1 then orU (.le false a b) (.eq false d a) (.le false b a) (.eq false d b)else bif mX o 2 then orU (.le false a b) (.eq false d b) (.le false b a) (.eq false d a)else orU (.le true (.n 0) a) (.eq true (.cs d) a) (.le true (.add a (.n 1)) (.n 0)) (.eq false d (.n 0))
def lv{x:E}{c:List E}{f:Nat->Nat->Prop}{a b:U}(h:f (a.t c) (b.t c)):f (a.sh.t (x::c)) (b.sh.t (x::c)):=(Gm x c a).symm▸(Gm x c b).symm▸h
def lz{x:E}{b:List E}{f:Int->Prop}{a:U}(h:f (a.z b)):f (a.sh.z (x::b)):=(Xv x b a).symm▸h
def aA0(o:Nat)(a b:U)(c:List E):(dfU o a.sh b.sh (.v 0)).p (.n (dfV o a b c)::c):=by
 unfold dfU dfV
 cases mX o 0 with
 |true=>exact (kL (a.t c) (b.t c)).symm.imp (λh=>⟨lv h,(lv (f:=λx y=>a.t c-b.t c+y=x) (Nat.sub_add_cancel h):_+b.sh.t _=a.sh.t _)⟩) λh=>⟨lv h,Nat.sub_eq_zero_of_le (iG h)⟩
 |false=>cases mX o 1 with
  |true=>exact (Z8 (a.t c) (b.t c)).imp (λh=>⟨lv h,(Og h).trans (Gm _ _ _).symm⟩) λh=>⟨lv h,(Ai h).trans (Gm _ _ _).symm⟩
  |false=>cases mX o 2 with
   |true=>exact (Z8 (a.t c) (b.t c)).imp (λh=>⟨lv h,(ė h).trans (Gm _ _ _).symm⟩) λh=>⟨lv h,(Oh h).trans (Gm _ _ _).symm⟩
   |false=>exact (Int.lt_or_le (a.z c) 0).symm.imp (λh=>⟨lz h,(qV h).trans (Xv _ _ _).symm⟩) λh=>⟨lz (f:=λx=>x<0) h,Int.toNat_of_nonpos (Int.le_of_lt h)⟩
def stU(s:Nat)(st:List U):List U:=
 bif Dk s 4 then .v s::st else bif mX s 6 then .n 0::st else bif mX s 7 then .n 1::st else bif mX s 18 then .ff::st else
 match st with
 |[]=>[]
 |y::r=>bif Dk 24 s then .n (Ar y*8+(s-24))::r else bif mX s 20 then .neg y::r else bif mX s 21 then .cs y::r else bif mX s 5 then .v (Ar y+5)::r else match r with
  |[]=>[]
  |x::r=>bif mX s 19 then (match r with|[]=>[]|z::r=>.df (Ar y) z x::r)else bif mX s 22 then .le true x y::r else bif mX s 23 then .eq true x y::r else bif Dk s 15 then opU (s-8) x y::r else .mul (Ar x) y::r
def Į:Nat->Nat->List U->List U×Nat
 |0,c,st=>(st,c)
 |m+1,c,st=>bif mX (c%32) 17 then (st,c/32)else Į m (c/32) (stU (c%32) st)
noncomputable def isD:U->Option (Nat×U×U)
 |.v _=>none
 |.n _=>none
 |.add _ _=>none
 |.mul _ _=>none
 |.sub _ _=>none
 |.neg _=>none
 |.cs _=>none
 |.le _ _ _=>none
 |.eq _ _ _=>none
 |.and _ _=>none
 |.or _ _=>none
 |.imp _ _=>none
 |.ff=>none
 |.df o a b=>some (o,a,b)
def dn(g:U):List U->List E->Prop
 |[],ρ=>g.p ρ
 |h::r,ρ=>(isD h).elim (h.p ρ->dn g r ρ) λx=>dn g r (.n (dfV x.1 x.2.1 x.2.2 ρ)::ρ)
def dnS:List U->List E->Prop
 |[],_=>True
 |g::r,ρ=>dn g r.reverse ρ
def quz:Nat->(List E->Prop)->Prop
 |0,f=>f []
 |m+1,f=>∀{x:Int},quz m λl=>f (.z x::l)
def qu:Nat->Nat->(List E->Prop)->Prop
 |0,k,f=>quz k f
 |m+1,k,f=>∀{a:Nat},qu m k λl=>f (.n a::l)
def Den(c:Nat):Prop:=qu (c%16) (c/16%8) (dnS (Į 200 (c/128) []).1)
def YT:List U->Kn->Kn
 |[],k=>k
 |h::r,k=>YT r (ref h true k)
def chL(k:Kn)(g:U):List U->List U->Nat->Bool
 |[],fs,s=>(YT fs (ref g false k) [] s).isSome
 |h::r,fs,s=>(isD h).elim (chL k g r (h::fs) s) λx=>chL k g r (dfU x.1 x.2.1.sh x.2.2.sh (.v 0)::fs.map U.sh) s
def chS(k:Kn):List U->Nat->Bool
 |[],_=>false
 |g::r,s=>chL k g r.reverse [] s
def chk(c:Nat):Bool:=chS (aAg (2^((Į 200 (c/128) []).2%16))) (Į 200 (c/128) []).1 ((Į 200 (c/128) []).2/16)
def Dn(c:Nat):Prop:=match chk c with
 |true=>Den c
 |false=>True
def Al(ρ:List E):List U->Prop
 |[]=>True
 |f::fs=>f.p ρ/\Al ρ fs
def aBi(x:E){b:List E}:∀{a:List U},Al b a->Al (x::b) (a.map U.sh):=by
 intro a
 induction a with
 |nil=>exact id
 |cons f a c=>exactλh=>⟨(aCo x b f).symm▸h.1,c h.2⟩
def MU{c:List E}{q:Prop}:∀(a:List U)(k:Kn),So c q k->So c (Al c a/\q) (YT a k):=by
 intro a
 induction a generalizing q with
 |nil=>exactλk d cs s g e h b=>d cs s g e h b.2
 |cons f a i=>exactλk d cs s g e h b=>i _ (DB f true k d) cs s g e h ⟨b.1.2,b.1.1,b.2⟩
def el2{X:Type}{o:Option X}{a:Bool}{b:X->Bool}{P:Prop}{Q:X->Prop}(e:o.elim a b=true)(h0:a=true->P)(h1:∀x,b x=true->Q x):o.elim P Q:=by
 cases o with
 |none=>exact h0 e
 |some x=>exact h1 x e
def ü{k:Kn}(d:∀a q,So a q k){g:U}{s:Nat}:∀(l b:List U)(a:List E),chL k g l b s=true->Al a b->dn g l a:=by
 intro l
 induction l with
 |nil=>exactλb a e al=>jK λf=>(eF.mp e).elim λi j=>MU b _ (DB g false k (d a True)) [] s i j trivial ⟨al,f,trivial⟩
 |cons h r c=>exactλb a e al=>el2 e (λe m=>c _ _ e ⟨m,al⟩) λx e=>c _ _ e ⟨aA0 x.1 x.2.1 x.2.2 a,aBi _ al⟩
def YU:∀(m:Nat)(f:List E->Prop),(∀b,f b)->quz m f:=by
 intro m
 induction m with
 |zero=>exactλf h=>h []
 |succ m c=>exactλf h a=>c _ λl=>h (.z a::l)
def ŗ:∀(m k:Nat)(f:List E->Prop),(∀b,f b)->qu m k f:=by
 intro m
 induction m with
 |zero=>exact YU
 |succ m c=>exactλk f h a=>c _ _ λl=>h (.n a::l)
def aDi{c:Nat}(h:chk c=true):Den c:=by
 refine ŗ _ _ _ λa=>?_;unfold chk at h
 cases hd:(Į 200 (c/128) []).1 with
 |nil=>exact trivial
 |cons g r=>rw [hd]at h;exact ü (λa q=>OW _) _ _ a h trivial
def _root_.Mine.aT(c:Nat):Dn c:=by
 unfold Dn
 cases h:chk c with
 |true=>exact aDi h
 |false=>exact trivial
noncomputable def _root_.Mine.R9:=0x39c62a18123420e20ccc7003
noncomputable def _root_.Mine.Py:=0x318a42048507002
noncomputable def _root_.Mine.Ī:=0x128221851212294518ad070052241c73320e20ccc1002
noncomputable def _root_.Mine.EY:=0x318a71df9c09c6766001
noncomputable def _root_.Mine.EV:=0x18c5680a0e0420e1002
noncomputable def _root_.Mine.TO:=0x948a918ac280092114cc1002
noncomputable def _root_.Mine.ln6:=0x1101242010110111f01062929809120a723a4b314e941ca60ccc21ccc1005
noncomputable def _root_.Mine.ĩ:=0x68c52102f18c6318e1829c77e7002
noncomputable def _root_.Mine.ln8:=0x880909008088088f80831494e04906e92cc53250729c33320830ccc1005
noncomputable def _root_.Mine.ln9:=0x580d08c54820ca66318b414c82f8c5e99022f0cb414c82ecc5d190229d48008a6494c24a0830ccc100b
noncomputable def _root_.Mine.Px:=0x18c56841c2040507002
noncomputable def _root_.Mine.FL:=0x58c5200a719d982bc6318c6386002
noncomputable def _root_.Mine.Pw:=0xc62941c2838121002
noncomputable def _root_.Mine.Tp:=0x92c6290094114cc7002
noncomputable def _root_.Mine.Yv:=0x90918ba4b005213ccc7001
noncomputable def _root_.Mine.Yu:=0xc62e95aa141ea074941002
noncomputable def _root_.Mine.Yt:=0xc6291a0414a06040901004
noncomputable def _root_.Mine.aAd:=0x1060841821061241848884471811451251448c5683802e92c6248873320e20ccc1002
noncomputable def _root_.Mine.Pv:=0x318a50708121002
noncomputable def _root_.Mine.To:=0xc636a8507a8141002
noncomputable def _root_.Mine.OS:=0x1d18ad08f98624051f3016818901004
noncomputable def _root_.Mine.Jm:=0x2314a020002
noncomputable def _root_.Mine.Tn:=0xe314880910521003
noncomputable def _root_.Mine.Å:=0x242c62a181481a3e6105d2523e61066647cc1003
noncomputable def _root_.Mine.FB:=0x14629070cbc6318c6386001
noncomputable def _root_.Mine.aAc:=0x608c5220318c5a0482f0c5d99012e8cb40905394c809148184491052100a
noncomputable def _root_.Mine.aAb:=0x3144680a02314462951918ad00299040a84532d032990414cc714cc7004
noncomputable def _root_.Mine.aAa:=0x111a315100e9291f32068f984152088f990347cc20ccc8f990247cc1004
noncomputable def _root_.Mine.FA:=0x3c314850703a4b00521002
noncomputable def _root_.Mine.EZ:=0xc6291202838122420e1003
noncomputable def _root_.Mine.EX:=0x66315040e92c20520e1002
noncomputable def _root_.Mine.Ä:=0x208d462a1814129d89105253112314cc7006
noncomputable def _root_.Mine.Ã:=0x518a408f990247cc15a068f990247cc1004
noncomputable def _root_.Mine.OR:=0x318a718c6318c60e056307001
noncomputable def _root_.Mine.OQ:=0x318a718ce79ed9809c6766001
noncomputable def _root_.Mine.Â:=0xcccc18b5681a3e6105620a7c60241f304
noncomputable def _root_.Mine.ω:=0xba8c568214e82980b423e6114e82991f30d684048340901007
noncomputable def _root_.Mine.ψ:=0x212a30b4888219048b4a98c5653016322ca60ccc30ccc1004
noncomputable def _root_.Mine.χ:=0x94661a1862b194c9299010356429962299641ad1f30901006
noncomputable def _root_.Mine.φ:=0x2846290a0e36318cb97662e8ca29ca6494c45006918921027
noncomputable def _root_.Mine.υ:=0xd6462c62719d9849c67660a719d980c62747127470a747003
noncomputable def _root_.Mine.OP:=0x7462b1202838162420e1003
noncomputable def _root_.Mine.Jl:=0x8c520301
noncomputable def _root_.Mine.ς:=0xa118a8236318cb97662e8ca29ca6494c45006918921027
noncomputable def _root_.Mine.EU:=0x16315080b10541003
noncomputable def _root_.Mine.ET:=0xc637aa02045435002
noncomputable def _root_.Mine.ES:=0xc62a41c2838141002
noncomputable def _root_.Mine.π:=0x718a868e70e880b474002a1a39c3a20838b470a786004
noncomputable def _root_.Mine.Á:=0x12163150c091a041508d331d01003
noncomputable def _root_.Mine.À:=0x68c52102f18c6318e1829c6766002
noncomputable def _root_.Mine.OO:=0xe31485031240818921004
noncomputable def _root_.Mine.ON:=0xe31505031280818921004
noncomputable def _root_.Mine.OM:=0xe31509030282348901004
noncomputable def _root_.Mine.ER:=0xe315044a00921003
noncomputable def _root_.Mine.ξ:=0x1224232a315a0a64008808d682988810d2114cc1005
noncomputable def _root_.Mine.ν:=0x1106461c8065518c568201040ccc20ccc838507003
noncomputable def _root_.Mine.μ:=0xc4160a08c414a51462b02023508d331d0114cc7002
noncomputable def _root_.Mine.OL:=0x1106a315881330101002
noncomputable def _root_.Mine.ι:=0x4a1c8614c51ca51462b4004148c9330c5330901003
noncomputable def _root_.Mine.EQ:=0x618ba4b08141002
noncomputable def _root_.Mine.EP:=0x318a44148901003
noncomputable def _root_.Mine.EN:=0x318daa1a8121002
noncomputable def _root_.Mine.ZZ:=0x46b8c5201a423508d331d01003
noncomputable def _root_.Mine.Ys:=0xc62908121002
noncomputable def _root_.Mine.OK:=0x8ac6291052604cc1002
noncomputable def _root_.Mine.ZY:=0x4858c543029031052114cc1003
noncomputable def _root_.Mine.θ:=0x68c54147cc81a3e612d0047cc81a3e610540304
noncomputable def _root_.Mine.η:=0x68c5224040bc6318c638612718ce79ed9901003
noncomputable def _root_.Mine.ζ:=0x4c6326b1acb090715c21b05070dc00b0107030
noncomputable def _root_.Mine.ZX:=0x38c524404092206248901005
noncomputable def _root_.Mine.ε:=0x7a31624a64106918189299041a46248901006
noncomputable def _root_.Mine.Ω:=0xce314844900d6312f18c6318e1829c77e7004
noncomputable def _root_.Mine.OJ:=0xc62a10122420e1003
noncomputable def _root_.Mine.Ψ:=0x36080d258c5420250138d223ccc714cc7002
noncomputable def _root_.Mine.OI:=0xc6291202048901003
noncomputable def _root_.Mine.Φ:=0xa718abe60291f32068f98419990247cc1003
noncomputable def _root_.Mine.ZW:=0x7462b41c4841c2058901003
noncomputable def _root_.Mine.Ξ:=0x718a86880b464002a1a20838b460a746004
noncomputable def _root_.Mine.Θ:=0xba8c568f986820568f98082096818901005
noncomputable def _root_.Mine.Δ:=0x1d865518c5634008b4048810d2114cc1004
noncomputable def _root_.Mine.OH:=0xc31749603241a301
noncomputable def _root_.Mine.EM:=0xc62a09941002
noncomputable def _root_.Mine.Γ:=0x3c629410605091f3052820d1f30921005
noncomputable def _root_.Mine.ſ:=0x3c629404644a3e61112800d1f30941005
noncomputable def _root_.Mine.ž:=0xb4629220625848b47cc040c4a0a3e6005
noncomputable def _root_.Mine.Ž:=0x241718a86820920224680894134cc7004
noncomputable def _root_.Mine.OG:=0x418c52104cc6001
noncomputable def _root_.Mine.OF:=0x318a420520e1002
noncomputable def _root_.Mine.OE:=0x318a90708141002
noncomputable def _root_.Mine.OD:=0x318a50208121003
noncomputable def _root_.Mine.OC:=0x318a44048901003
noncomputable def _root_.Mine.ż:=0x212d922b18a401b0c53d98c29ecc6020
noncomputable def _root_.Mine.OB:=0x518a8065a0e1002
noncomputable def _root_.Mine.Ż:=0x4858c524420e3024881854114cc7004
noncomputable def _root_.Mine.ź:=0x1c58c52140d04124081914334cc1004
noncomputable def _root_.Mine.Ź:=0x1e78c54302868f984a123e60ccc7003
noncomputable def _root_.Mine.EL:=0x231520e0301
noncomputable def _root_.Mine.OA:=0x18c64900541002
noncomputable def _root_.Mine.Ÿ:=0xbe7c6292980929889185241cce1005
noncomputable def _root_.Mine.ZV:=0x91462a081213ccc7001
noncomputable def _root_.Mine.FN:=0x38c5400abe60a41f302
noncomputable def _root_.Mine.FM:=0x18c568f9808f1907001
noncomputable def _root_.Mine.VW:=0x18c5424630702848e70e880747003
noncomputable def _root_.Mine.VV:=0x4922c18c54013a4b0094114cc7002
noncomputable def _root_.Mine.VU:=0x944a918ad030a1071814114cc7003
noncomputable def _root_.Mine.VT:=0x28c52047cc15a068f990247cc1004
noncomputable def _root_.Mine.VS:=0x81c62a10d401ccc8f98080a3e6003
noncomputable def _root_.Mine.VR:=0x12163150c0a40c41749420ccc1003
noncomputable def _root_.Mine.VQ:=0x1ce315206202503123e60ccc7003
noncomputable def _root_.Mine.VP:=0x1c62a123e602848f982a0a3e6003
noncomputable def _root_.Mine.VO:=0x14629020265a068f990247cc1004
noncomputable def _root_.Mine.VN:=0x1b318ac4838168d18225a0e1003
noncomputable def _root_.Mine.VM:=0xa6315882e928416290710521003
noncomputable def _root_.Mine.VL:=0x26b18a504120614910304cc1004
noncomputable def _root_.Mine.VK:=0x990b5462b418405a0e20ccc7002
noncomputable def _root_.Mine.VJ:=0x6a51570e80c01b32b660ab86002
noncomputable def _root_.Mine.VI:=0x1a314840bc6318c63860ab86002
noncomputable def _root_.Mine.VH:=0x6314e318c6318c1c09c77e7001
noncomputable def _root_.Mine.VG:=0x4468c52340809089230ccc1003
noncomputable def _root_.Mine.VF:=0xe3150d040a8444a06040901005
noncomputable def _root_.Mine.FK:=0xc31749603a41a301
noncomputable def _root_.Mine.FJ:=0xa31749670241a301
noncomputable def _root_.Mine.VE:=0x318a718c6318e180ac6766001
noncomputable def _root_.Mine.VD:=0x318a5020a3e6025020a3e6003
noncomputable def _root_.Mine.VC:=0x718a503101281891f30521004
noncomputable def _root_.Mine.VB:=0x318a9020a3e6029020a3e6003
noncomputable def _root_.Mine.FI:=0x63195806b1907010
noncomputable def _root_.Mine.VA:=0x318a718ce79ed99003a766001
noncomputable def _root_.Mine.UZ:=0x121631504490094134cc7002
noncomputable def _root_.Mine.UY:=0x38c52247cc1489000a41f303
noncomputable def _root_.Mine.UX:=0x29c62af980a47cc20ccc1002
noncomputable def _root_.Mine.We:=0x63158100301
noncomputable def _root_.Mine.UW:=0x121631508091054134cc7002
noncomputable def _root_.Mine.UV:=0x38c538cecc150029c6766002
noncomputable def _root_.Mine.UU:=0x344a918ac280094034cc1002
noncomputable def _root_.Mine.FH:=0xe18a80674966001
noncomputable def _root_.Mine.FG:=0x318a82048507002
noncomputable def _root_.Mine.FF:=0x318a44058901003
noncomputable def _root_.Mine.UT:=0x2ea3158c2b0096818901004
noncomputable def _root_.Mine.US:=0x1ce315080a123e60ccc7002
noncomputable def _root_.Mine.UR:=0x7462b40c480816818901004
noncomputable def _root_.Mine.UQ:=0xc629420e208128120e1003
noncomputable def _root_.Mine.UP:=0x1631563070ac0156307002
noncomputable def _root_.Mine.UO:=0xc62a420e208148120e1003
noncomputable def _root_.Mine.UN:=0xc62a409070814841c41003
noncomputable def _root_.Mine.UM:=0x26b18a90010d411ccc1003
noncomputable def _root_.Mine.UL:=0xc629408680a00348901004
noncomputable def _root_.Mine.UK:=0xc629121070812240507003
noncomputable def _root_.Mine.UJ:=0x90918a8205a0e20ccc7002
noncomputable def _root_.Mine.UI:=0xc62a4011f3051f30540302
noncomputable def _root_.Mine.UH:=0xe3150c091a10710541004
noncomputable def _root_.Mine.UG:=0xa718a420b54229ecc6091
noncomputable def _root_.Mine.UF:=0x318a5071202048901003
noncomputable def _root_.Mine.UE:=0x318a44808122420e1003
noncomputable def _root_.Mine.UD:=0x318a9071058a10521003
noncomputable def _root_.Mine.UC:=0x318a44841c2050901003
noncomputable def _root_.Mine.UB:=0x318a50741c204a0e1002
noncomputable def _root_.Mine.UA:=0x1c8c5660242248901003
noncomputable def _root_.Mine.TZ:=0x318a828f980a0a3e6002
noncomputable def _root_.Mine.TY:=0x718c9480044910566003
noncomputable def _root_.Mine.TX:=0x38c54112802520e1003
noncomputable def _root_.Mine.TV:=0x3dc62a10d401cce1003
noncomputable def _root_.Mine.TU:=0x38c5480984a00921003
noncomputable def _root_.Mine.TS:=0x38c5211240818921004
noncomputable def _root_.Mine.TR:=0x18c528123e608121003
noncomputable def _root_.Mine.TQ:=0x58c5400abe60afe6002
noncomputable def _root_.Mine.TP:=0x38c5420a44800540303
noncomputable def _root_.Mine.Wd:=0x8c526300
noncomputable def _root_.Mine.FE:=0x23148100301
noncomputable def _root_.Mine.FD:=0x2314a0e0381
noncomputable def _root_.Mine.FC:=0x118daa0301
end
end Mine.Li
namespace Mine
open MineH (Dy Pg Ph at_ cH fr o167v0 o174v0 o181v0 o188v0)
noncomputable abbrev qR:=cS->Prop
noncomputable abbrev lT:=List iS
noncomputable abbrev mI:=List Nat
noncomputable abbrev eW:=List bL
noncomputable abbrev bE:=List Int
noncomputable abbrev gI:=cR->Prop
abbrev pZ:=bL->qR
noncomputable abbrev jU:=List (Nat×Nat×Nat)
def nn{p:Prop}(h:(p->False)->False):p:=jK h
def Ck{f g:Type}{a c:f}{b d:g}{P:Prop}(e:aG (a,b)=aG (c,d))(k:a=c->b=d->P):P:=by cases e;exact k rfl rfl
def pH{b:Type}{a c:b}{P:Prop}(e:aG a=aG c)(k:a=c->P):P:=by cases e;exact k rfl
def Ō{f g:Type}{a c:f}{b d:g}{P:Prop}(e:(a,b)=(c,d))(k:a=c->b=d->P):P:=by cases e;exact k rfl rfl
def gG{b:Type}{a:b}{P:Prop}(e:aH=aG a):P:=by cases e
def De{b:Type}{a:b}{P:Prop}(e:aG a=aH):P:=by cases e
inductive V where
 |none
 |bool (b:Bool)
 |int (i:Int)
 |str (s:iS)
 |tup (l:List V)
 |lst (l:List V)
 |scr (l:List V)
 |mt (l:List V)
 |dct (ks:bE) (vs:List V)
 |set0
 |ref (n:Nat)
 |inst (n:Nat)
 |fn (v:bL)
 |bm (id:String) (self:V)
 deriving Inhabited
mutual
noncomputable def V.pure:V->Bool
 |.tup l=>dH l
 |.lst l=>dH l
 |.scr l=>dH l
 |.mt l=>dH l
 |.dct _ vs=>dH vs
 |.ref _=>bR
 |.inst _=>bR
 |.bm _ s=>s.pure
 |.none=>aU
 |.bool _=>aU
 |.int _=>aU
 |.str _=>aU
 |.set0=>aU
 |.fn _=>aU
noncomputable def dH:List V->Bool
 |[]=>aU
 |d::l=>d.pure&&dH l
end
def L8:V.pure (.tup l)=dH l:=rfl
def L7:V.pure (.lst l)=dH l:=rfl
def L6:V.pure (.none)=true:=rfl
def L5:V.pure (.bool a)=true:=rfl
def Gz:V.pure (.int a)=true:=rfl
def Gy:V.pure (.str a)=true:=rfl
def fO:dH []=true:=rfl
def eN:dH (d::l)=(d.pure&&dH l):=rfl
noncomputable abbrev T3:=Nat×Nat×Nat
structure Cr(A B:bE)(ao az bo bz i j k:Nat):Prop where
 a0:ao<=i
 a1:i+k<=az
 b0:bo<=j
 b1:j+k<=bz
 eq:∀t,t<k->A.getD (i+t) 0=B.getD (j+t) 0
def KG(p q:Nat×Nat):Prop:=p.1<q.1\/(p.1=q.1/\p.2<=q.2)
structure vF(A B:bE)(ao az bo bz:Nat)(t:T3):Prop where
 zero:t.2.2=0->t=(ao,bo,0)
 cr:0<t.2.2->Cr A B ao az bo bz t.1 t.2.1 t.2.2
 max:∀i j k,0<k->Cr A B ao az bo bz i j k->k<=t.2.2/\(k=t.2.2->KG (t.1,t.2.1) (i,j))
def vF.uniq(x:vF A B ao az bo bz t)(y:vF A B ao az bo bz u):t=u:=by
 obtain ⟨i,j,k⟩:=t;obtain ⟨d,f,a⟩:=u;by_cases h:k=0
 .by_cases h':a=0
  .exact (x.zero h).trans (y.zero h').symm
  .have:=(x.max _ _ _ (dG h') (y.cr (dG h'))).1;simp only at this;exact iV (aT 0x7218c9200ba4b30566002 h h' this)
 .by_cases h':a=0
  .have:=(y.max _ _ _ (dG h) (x.cr (dG h))).1;simp only at this;exact iV (aT 0xb818c92102cc174966002 h h' this)
  .obtain ⟨a1,b⟩:=x.max _ _ _ (dG h') (y.cr (dG h'));obtain ⟨b1,c⟩:=y.max _ _ _ (dG h) (x.cr (dG h));simp only at a1 b b1 c;have e:k=a:=aT 0x3a315802900521002 a1 b1;have l1:=b e.symm;have l2:=c e;unfold KG at l1 l2;simp only at l1 l2;simp only [gX];exact aT 0x206021101884828608514285218250194286318c630c58c5840b2988b189ac490a65886a10dac494c458c4a18961006 e l1 l2
open Classical in
def K0(A B:bE)(ao az bo bz:Nat):T3:=if h:∃t,vF A B ao az bo bz t then h.choose else (ao,bo,0)
def Ub(h:vF A B ao az bo bz t):K0 A B ao az bo bz=t:=by unfold K0;have a:∃t,vF A B ao az bo bz t:=⟨t,h⟩;rw [dif_pos a];exact a.choose_spec.uniq h
def Af(A B:bE):Nat->Nat->Nat->Nat->Nat->jU
 |0,_,_,_,_=>[]
 |f+1,ao,az,bo,bz=>match K0 A B ao az bo bz with
  |(i,j,k)=>if k=0 then[]else Af A B f ao i bo j++(i,j,k)::Af A B f (i+k) az (j+k) bz
def B5:Af A B 0 a b c u4=([]):=rfl
theorem yK:Af A B (f+1) ao az bo bz=(match K0 A B ao az bo bz with
 |(i,j,k)=>if k=0 then[]else Af A B f ao i bo j++(i,j,k)::Af A B f (i+k) az (j+k) bz):=rfl
noncomputable def tO:T3->jU->jU
 |(i,j,k),[]=>if k=0 then[]else[(i,j,k)]
 |(i,j,k),(i',j',k')::r=>if i+k=i'/\j+k=j' then tO (i,j,k+k') r else if k=0 then tO (i',j',k') r else (i,j,k)::tO (i',j',k') r
def F3:tO (i,j,k) []=(if k=0 then[]else[(i,j,k)]):=rfl
def F1:tO (i,j,k) ((a,b,c)::r)=(if i+k=a/\j+k=b then tO (i,j,k+c) r else if k=0 then tO (a,b,c) r else (i,j,k)::tO (a,b,c) r):=rfl
def Yn(A B:bE):jU:=tO (0,0,0) (Af A B (aC A) 0 (aC A) 0 (aC B))++[(aC A,aC B,0)]
inductive ć where
 |replace|delete|insert|equal
 deriving DecidableEq,Inhabited
noncomputable abbrev Op5:=ć×Nat×Nat×Nat×Nat
noncomputable def ř:Nat->Nat->jU->List Op5
 |_,_,[]=>[]
 |i,j,(ai,bj,k)::r=>(if i<ai/\j<bj then[(ć.replace,i,ai,j,bj)]else if i<ai then[(ć.delete,i,ai,j,bj)]else if j<bj then[(ć.insert,i,ai,j,bj)]else[])++
   (if k=0 then[]else[(ć.equal,ai,ai+k,bj,bj+k)])++ř (ai+k) (bj+k) r
def ops(A B:bE):List Op5:=ř 0 0 (Yn A B)
noncomputable def ć.s:ć->iS
 |.replace=>aF "replace"
 |.delete=>aF "delete"
 |.insert=>aF "insert"
 |.equal=>aF "equal"
noncomputable def vN(n:Nat):V:=.int n
noncomputable def vL(l:bE):V:=.lst (l.map V.int)
def pB(t:T3):V:=.mt [vN t.1,vN t.2.1,vN t.2.2]
def vOp(t:Op5):V:=.tup [.str t.1.s,vN t.2.1,vN t.2.2.1,vN t.2.2.2.1,vN t.2.2.2.2]
def qK(A B:bE):V:=.lst ((Yn A B).map pB)
def aCa(A B:bE):V:=.lst ((ops A B).map vOp)
noncomputable def iL(k:Int):Nat->bE->mI
 |_,[]=>[]
 |i,x::r=>if x=k then i::iL k (i+1) r else iL k (i+1) r
def yC:iL k a []=([]):=rfl
def yB:iL k i (x::r)=(if x=k then i::iL k (i+1) r else iL k (i+1) r):=rfl
structure E3 where
 a:Option bE
 b:Option bE
 auto:Bool
def vS:Option bE->V
 |some l=>vL l
 |aH=>.str (aF "")
noncomputable def pK:List (iS×V)->iS->Option V
 |[],_=>aH
 |(x,v)::r,s=>if s=x then aG v else pK r s
def He:pK [] a=(aH):=rfl
def Hd:pK ((x,v)::r) s=(if s=x then aG v else pK r s):=rfl
def sZ(b:bE)(v:V):Prop:=∃ks vs,v=.dct ks vs/\aC ks=aC vs/\∀k,(ks.zip vs).lookup k=if iL k 0 b=[]then aH else aG (.lst ((iL k 0 b).map vN))
structure Bo(m:E3)(as:List (iS×V)):Prop where
 pure:∀p∈as,p.2.pure=aU
 junk:pK as (aF "isjunk")=aG .none
 a:pK as (aF "a")=aG (vS m.a)
 b:pK as (aF "b")=aG (vS m.b)
 auto:pK as (aF "autojunk")=aG (.bool m.auto)
 bjunk:pK as (aF "bjunk")=aG .set0
 b2j:∃c,pK as (aF "b2j")=aG c/\sZ (m.b.getD []) c
 mb:pK as (aF "matching_blocks")=aG .none\/(∃A B,m.a=aG A/\m.b=aG B/\pK as (aF "matching_blocks")=aG (qK A B))
 oc:pK as (aF "opcodes")=aG .none\/(∃A B,m.a=aG A/\m.b=aG B/\pK as (aF "opcodes")=aG (aCa A B))
section
set_option backward.match.sparseCases false
noncomputable abbrev pM:=Option V
noncomputable abbrev cA:=List V
noncomputable abbrev oS:=List (iS×V)
noncomputable abbrev kP:=List (Nat×cR)
noncomputable abbrev tH:=List (Nat×V)
noncomputable def lk{α:Type}:List (Nat×α)->Nat->Option α
 |[],_=>aH
 |(y,a)::r,x=>if x=y then aG a else lk r x
def fL{a:Type}{b:Nat}:lk ([]:List (Nat×a)) b=(aH):=rfl
def eP{b:Type}{y:Nat}{a:b}{r:List (Nat×b)}{x:Nat}:lk ((y,a)::r) x=(if x=y then aG a else lk r x):=rfl
noncomputable def put{α:Type}(x:Nat)(a:α):List (Nat×α)->List (Nat×α)
 |[]=>[(x,a)]
 |(y,b)::r=>if x=y then (x,a)::r else (y,b)::put x a r
def DC{b:Type}{x:Nat}{a:b}:put x a []=([(x,a)]):=rfl
def L4{c:Type}{x:Nat}{a:c}{y:Nat}{b:c}{r:List (Nat×c)}:put x a ((y,b)::r)=(if x=y then (x,a)::r else (y,b)::put x a r):=rfl
def kA{c:Type}(x:Nat)(a:c):∀(l:List (Nat×c))(y:Nat),lk (put x a l) y=if y=x then aG a else lk l y:=by
 intro z1
 induction z1 with
 |nil=>intro y;rfl
 |cons z2 r z4=>
  obtain ⟨z,b⟩:=z2;intro y;simp only [DC,L4];by_cases h:x=z
  .subst h;rw [if_pos rfl];by_cases d:y=x
   .simp [fL,eP,d]
   .simp [fL,eP,d]
  .rw [if_neg h];by_cases f:y=z
   .subst f;have:y≠x:=λe=>h e.symm;simp [fL,eP,this]
   .simp only [fL,eP,if_neg f];exact z4 y
def Ms{c:Type}{a:c}:∀{l:List (Nat×c)}{x:Nat},lk l x=aG a->(x,a)∈l:=by
 intro d
 induction d with
 |nil=>intros;first|contradiction|(rename_i h;cases h;done)
 |cons f r g=>
  obtain ⟨y,b⟩:=f;intro x;intro h;simp only [fL,eP]at h;split at h
  .rename_i e;subst e;cases h;exact aQ
  .exact aO _ (g h)
noncomputable def ob{α β:Type}(x:Option α)(f:α->Option β):Option β:=match x with
 |some a=>f a
 |aH=>aH
structure IfC{β:Type}(c:Prop)(x:Option β)(r:β):Prop where
 left:c
 right:x=aG r
def iB{a:Type}{c:Prop}[Decidable c]{x:Option a}{r:a}(e:(if c then x else aH)=aG r):IfC c x r:=by
 by_cases h:c
 .rw [if_pos h]at e;exact ⟨h,e⟩
 .rw [if_neg h]at e;exact gG e
inductive aDy{α β:Type}(x:Option α)(f:α->Option β)(r:β):Prop
 |mk (a:α) (e:x=aG a) (q:f a=aG r)
def dS{a b:Type}{x:Option a}{f:a->Option b}{r:b}(e:ob x f=aG r):aDy x f r:=by
 cases x with
 |none=>(exact gG e)
 |some p=>exact ⟨p,rfl,e⟩
noncomputable def xX:cR:=242
noncomputable def mE:cR:=135
inductive tI(h:dF)(a:cR):Prop
 |mk (o:qY) (e:h.get? a=aG o)
inductive wG(h:dF)(a:cR)(items:Array bL):Prop
 |mk (o:qY) (e:h.get? a=aG o) (r:o.cls=.ref mE/\∃n,o.data=.seq items n)
inductive C9(h:dF)(a:cR)(ks:bE)(xs:eW):Prop
 |mk (f:Int->Option bL) (m:h.IntMap a f) (o:∀o,h.get? a=aG o->o.dict=aH/\o.slots= #[]) (l:h.DictLe a (aC ks)) (q:aC ks=aC xs/\∀k,f k=(ks.zip xs).lookup k)
def Us(h:dF)(a:cR):Prop:=∃j4:Bool,h.get? a=aG {cls:=.type "set",dict:=aH,data:=.set #[] 0 (.fresh 0 0 j4)}
inductive aD3(h:dF)(a:cR)(id:String)(self:bL):Prop
 |mk (o:qY) (e:h.get? a=aG o) (r:o.cls=.type "builtin_function_or_method"/\o.dict=aH/\o.data=.fields #[.builtin id,self])
def aD0(h:dF)(a:cR)(xs:eW):Prop:=∃k,IsT h a (bC xs) k
def aBq(h:dF)(a:cR)(xs:eW):Prop:=∃k,IsL h a (bC xs) k
def aD1(h:dF)(a:cR)(xs:eW):Prop:=h.IsList a (bC xs)
def aD2(h:dF)(a:cR)(xs:eW):Prop:=wG h a (bC xs)
def aBr(h:dF)(ks:bE)(a:cR)(xs:eW):Prop:=C9 h a ks xs
inductive AJ(P:cR->eW->Prop)(Y:gI)(v:bL)(L:eW->Prop):Prop
 |mk (a:cR) (xs:eW) (e:v=.ref a) (ny:¬Y a) (p:P a xs) (r:L xs)
inductive WT(P:bL->Prop)(L:eW->Prop)(xs:eW):Prop
 |mk (x:bL) (r:eW) (e:xs=x::r) (p:P x) (q:L r)
inductive aDw(D:kP)(n:Nat)(v:bL):Prop
 |mk (a:cR) (e:v=.ref a) (d:lk D n=aG a)
inductive aBl(D:kP)(Y:gI)(h:dF)(n:Nat)(v:bL):Prop
 |mk (a x:cR) (e:v=.ref x) (ny:¬Y x) (d:lk D n=aG a) (o:h.get? x=aG (instObj xX a))
inductive RBm(Y:gI)(h:dF)(id:String)(v:bL)(L:bL->Prop):Prop
 |mk (a:cR) (u:bL) (e:v=.ref a) (ny:¬Y a) (b:aD3 h a id u) (r:L u)
mutual
def fW(D:kP)(Y:gI)(h:dF):V->bL->Prop
 |.none,v=>v=.none
 |.bool b,v=>v=.bool b
 |.int i,v=>∃t,v=.int i t
 |.str s,v=>∃t,v=.str s t
 |.tup l,v=>AJ (aD0 h) Y v (bN D Y h l)
 |.lst l,v=>AJ (aBq h) Y v (bN D Y h l)
 |.scr l,v=>AJ (aD1 h) Y v (bN D Y h l)
 |.mt l,v=>AJ (aD2 h) Y v (bN D Y h l)
 |.dct ks vs,v=>AJ (aBr h ks) Y v (bN D Y h vs)
 |.set0,v=>∃a,v=.ref a/\¬Y a/\Us h a
 |.ref n,v=>aDw D n v
 |.inst n,v=>aBl D Y h n v
 |.fn u,v=>v=u
 |.bm id s,v=>RBm Y h id v (fW D Y h s)
def bN(D:kP)(Y:gI)(h:dF):cA->eW->Prop
 |[],xs=>xs=[]
 |d::l,xs=>WT (fW D Y h d) (bN D Y h l) xs
end
def rN{D:kP}{Y:gI}{h:dF}{xs}:bN D Y h [] xs=(xs=[]):=rfl
def rM{D:kP}{Y:gI}{h:dF}{d l xs}:bN D Y h (d::l) xs=WT (fW D Y h d) (bN D Y h l) xs:=rfl
def tI.no{h:dF}{a:cR}{C:Prop}(x:tI h a)(e:h.get? a=aH):C:=by
 cases x with
 |mk o b=>exact gG (e.symm.trans b)
def C9.keep{h h':dF}{a:cR}{ks:bE}{xs:eW}(x:C9 h a ks xs)(c:∀o,h.get? a=aG o->h'.get? a=aG o):C9 h' a ks xs:=by refine nn λg=>?_;obtain ⟨f,⟨o,es,i,b,r⟩,ex,le,e⟩:=x;refine g ?_;exact ⟨f,⟨o,es,i,c o b,r⟩,λj d=>by (replace d:=(c o b)▸d;cases d;exact ex o b),le.of_same b (c o b),e⟩
def C9.lt{h:dF}{a:cR}{ks:bE}{xs:eW}(x:C9 h a ks xs):tI h a:=by obtain ⟨f,⟨o,es,c,b,r⟩,_⟩:=x;exact ⟨o,b⟩
section
variable{D D':kP}{Y Y':gI}{h h':dF}
def uR{a:cR}{o:qY}(b:∀a,Y' a->Y a\/h.get? a=aH)(c:h.get? a=aG o)(d:¬Y a):¬Y' a:=λm=>(b a m).elim d λe=>by replace e:=c▸e;cases e
mutual
theorem fW.step(g:∀b o,h.get? b=aG o->¬Y b->h'.get? b=aG o)(j:∀n a,lk D n=aG a->lk D' n=aG a)(i:∀a,Y' a->Y a\/h.get? a=aH):
  ∀(d:V)(v:bL),fW D Y h d v->fW D' Y' h' d v
 |.none,v,x=>x
 |.bool _,v,x=>x
 |.int _,v,x=>x
 |.str _,v,x=>x
 |.fn _,v,x=>x
 |.tup l,v,x=>by obtain ⟨a,xs,rfl,f,⟨k,c⟩,y⟩:=x;exact ⟨a,xs,rfl,uR i c f,⟨k,g a _ c f⟩,bN.step g j i l xs y⟩
 |.lst l,v,x=>by obtain ⟨a,xs,rfl,f,⟨k,c⟩,y⟩:=x;exact ⟨a,xs,rfl,uR i c f,⟨k,g a _ c f⟩,bN.step g j i l xs y⟩
 |.scr l,v,x=>by obtain ⟨a,xs,rfl,f,⟨o,c,r⟩,y⟩:=x;exact ⟨a,xs,rfl,uR i c f,⟨o,g a o c f,r⟩,bN.step g j i l xs y⟩
 |.mt l,v,x=>by obtain ⟨a,xs,rfl,f,⟨o,c,r⟩,y⟩:=x;exact ⟨a,xs,rfl,uR i c f,⟨o,g a o c f,r⟩,bN.step g j i l xs y⟩
 |.dct ks vs,v,x=>by obtain ⟨a,xs,rfl,f,z,y⟩:=x;obtain ⟨o,c⟩:=z.lt;exact ⟨a,xs,rfl,uR i c f,z.keep λp t=>g a p t f,bN.step g j i vs xs y⟩
 |.set0,v,x=>by obtain ⟨a,rfl,f,A,c⟩:=x;exact ⟨a,rfl,uR i c f,A,g a _ c f⟩
 |.ref n,v,x=>by obtain ⟨a,rfl,e⟩:=x;exact ⟨a,rfl,j _ _ e⟩
 |.inst n,v,x=>by obtain ⟨a,y,rfl,m,e,c⟩:=x;exact ⟨a,y,rfl,uR i c m,j _ _ e,g y _ c m⟩
 |.bm id s,v,x=>by obtain ⟨a,u,rfl,f,⟨o,c,r⟩,y⟩:=x;exact ⟨a,u,rfl,uR i c f,⟨o,g a o c f,r⟩,fW.step g j i s u y⟩
theorem bN.step(c:∀b o,h.get? b=aG o->¬Y b->h'.get? b=aG o)(e:∀n a,lk D n=aG a->lk D' n=aG a)(f:∀a,Y' a->Y a\/h.get? a=aH):
  ∀(l:cA)(xs:eW),bN D Y h l xs->bN D' Y' h' l xs
 |[],xs,x=>x
 |d::l,xs,x=>by obtain ⟨u,r,rfl,y,z⟩:=x;exact ⟨u,r,rfl,fW.step c e f d u y,bN.step c e f l r z⟩
end
end
def bN.length{D:kP}{Y:gI}{h:dF}:∀{l:cA}{xs:eW},bN D Y h l xs->aC xs=aC l:=by
 intro a
 induction a with
 |nil=>intro xs;intro x;subst x;rfl
 |cons d l b=>intro xs;intro x;obtain ⟨u,r,rfl,_,z⟩:=x;simp [b z]
def bN.get{D:kP}{Y:gI}{h:dF}:∀{l:cA}{xs:eW},bN D Y h l xs->∀{i:Nat}{d:V},l[i]?=aG d->∃x,xs[i]?=aG x/\fW D Y h d x:=by
 intro a
 induction a with
 |nil=>intro _;intro _;intro i;intro d;intro e;simp at e
 |cons d l b=>
  intro xs;intro x;intro i;intro c;intro e;obtain ⟨u,r,rfl,y,z⟩:=x
  cases i with
  |zero=>simp at e;subst e;exact ⟨u,rfl,y⟩
  |succ i=>exact b z (by exact e)
def bN.append{D:kP}{Y:gI}{h:dF}:∀{l:cA}{xs:eW}{l':cA}{b:eW},bN D Y h l xs->bN D Y h l' b->bN D Y h (l++l') (xs++b):=by
 intro c
 induction c with
 |nil=>intro xs;intro l';intro b;intro x;intro y;subst x;exact y
 |cons d l e=>intro xs;intro l';intro b;intro x;intro y;obtain ⟨u,r,rfl,a,z⟩:=x;exact ⟨u,r++b,rfl,a,e z y⟩
def bN.take{D:kP}{Y:gI}{h:dF}:∀(n:Nat){l:cA}{xs:eW},bN D Y h l xs->bN D Y h (l.take n) (xs.take n):=by
 intro b
 induction b with
 |zero=>intro l;intro xs;intro _;rfl
 |succ n e=>
  intro c
  cases c with
  |nil=>intro xs;intro x;subst x;rfl
  |cons d l=>intro xs;intro x;obtain ⟨u,r,rfl,a,z⟩:=x;exact ⟨u,r.take n,rfl,a,e z⟩
def bN.drop{D:kP}{Y:gI}{h:dF}:∀(n:Nat){l:cA}{xs:eW},bN D Y h l xs->bN D Y h (l.drop n) (xs.drop n):=by
 intro e
 induction e with
 |zero=>intro l;intro xs;intro x;exact x
 |succ n b=>
  intro c
  cases c with
  |nil=>intro xs;intro x;subst x;rfl
  |cons d l=>intro xs;intro x;obtain ⟨u,r,rfl,a,z⟩:=x;exact b z
def bN.nil{D:kP}{Y:gI}{h:dF}:bN D Y h [] []:=by simp [rN,rM]
def bN.cons{D:kP}{Y:gI}{h:dF}{d:V}{l:cA}{x:bL}{r:eW}(a:fW D Y h d x)(b:bN D Y h l r):bN D Y h (d::l) (x::r):=by exact ⟨x,r,rfl,a,b⟩
inductive fQ where
 |list (vs:cA)
 |dict (ks:bE) (vs:cA)
 |attrs (as:oS)
 |mat (m:E3)
 deriving Inhabited
noncomputable def liC:fQ->Option cA
 |.list l=>aG l
 |_=>aH
noncomputable def sG:lT:=[aF "isjunk",aF "a",aF "b",aF "autojunk",aF "matching_blocks",aF "opcodes",aF "fullbcount",aF "b2j",aF "bjunk",aF "bpopular"]
inductive Đ(D:kP)(Y:gI)(h:dF)(m:iS->Option bL)(p:iS×V):Prop
 |mk (u:bL) (e:m p.1=aG u) (r:fW D Y h p.2 u)
inductive R0(D:kP)(Y:gI)(h:dF)(a:cR)(as:oS):Prop
 |mk (m:iS->Option bL) (n:h.Ns1 a m) (w:Within m sG) (r:∀p∈as,Đ D Y h m p)
inductive CAt(P:cR->eW->Prop)(a:cR)(L:eW->Prop):Prop
 |mk (xs:eW) (p:P a xs) (r:L xs)
inductive aD5(D:kP)(Y:gI)(h:dF)(a:cR)(m:E3):Prop
 |mk (as:oS) (ok:Bo m as) (r:R0 D Y h a as)
def iQ(D:kP)(Y:gI)(h:dF)(a:cR):fQ->Prop
 |.list vs=>CAt (aBq h) a (bN D Y h vs)
 |.dict ks vs=>CAt (aBr h ks) a (bN D Y h vs)
 |.attrs as=>R0 D Y h a as
 |.mat m=>aD5 D Y h a m
inductive qM where
 |loc (L:cR)
 |cel (c:cR)
noncomputable def qM.adr:qM->cR
 |.loc L=>L
 |.cel c=>c
def Holds(h:dF):qM->iS->bL->Prop
 |.loc L,s,u=>∃m,h.Ns L m/\m s=aG u
 |.cel c,_,u=>h.IsCell c (aG u)
def sX(h:dF):qM->Prop
 |.loc L=>∃m,h.Ns L m
 |.cel c=>∃u,h.IsCell c u
structure Fx where
 env:ľ
 bnd:List (Nat×qM×iS)
 Z:List cR
 B:{h:dF // ∀b o,S.heap.get? b=aG o->h.get? b=aG o}:=⟨S.heap,λ_ _ e=>e⟩
def Fx.nb{F:Fx}(e:F.B.1.get? a=aH):S.heap.get? a=aH:=by
 cases q:S.heap.get? a with
 |none=>rfl
 |some o=>exact (nomatch e.symm.trans (F.B.2 _ _ q))
structure St where
 loc:tH
 cells:List (Nat×fQ)
 next:Nat
structure hO(F:Fx):Prop where
 kind:F.env.scope.kind=.function
 inZ:∀x p s,lk F.bnd x=aG (p,s)->p.adr∈F.Z
 dist:∀x y p s p' s',lk F.bnd x=aG (p,s)->lk F.bnd y=aG (p',s')->x≠y->p.adr≠p'.adr\/∃L,p=.loc L/\p'=.loc L/\s≠s'
def Yf(F:Fx)(X:gI)(D:kP)(a:cR):Prop:=a∈F.Z\/X a\/∃n,lk D n=aG a
def gR(N:List cR)(X:gI):gI:=λa=>a∈N\/X a
def AY{F:Fx}{N:List cR}{X:gI}{D:kP}{a:cR}(e:Yf F X D a):Yf F (gR N X) D a:=e.imp id (Or.imp .inr id)
def Dx{c:Type}{P:c->Prop}{a:c}(h:P a):∀b∈[a],P b:=λ_ d=>aM.mp d▸h
inductive aBn(F:Fx)(X:gI)(D:kP)(h:dF)(x:Nat)(v:V):Prop
 |mk (p:qM) (s:iS) (u:bL) (e1:lk F.bnd x=aG (p,s)) (e2:Holds h p s u) (e3:fW D (Yf F X D) h v u)
inductive aBu(F:Fx)(X:gI)(D:kP)(h:dF)(n:Nat)(c:fQ):Prop
 |mk (a:cR) (e1:lk D n=aG a) (e2:iQ D (Yf F X D) h a c)
structure aBk(F:Fx)(X:gI)(h:dF)(n:Nat)(a:cR)(k:Nat):Prop where
 z:a∉F.Z
 x:¬X a
 b:F.B.1.get? a=aH
 h:tI h a
 l:n<k
structure gU(F:Fx)(X:gI)(D:kP)(σ:St)(h:dF):Prop where
 fb:∀b o,F.B.1.get? b=aG o->h.get? b=aG o
 loc:∀x v,lk σ.loc x=aG v->aBn F X D h x v
 frm:∀x p s,lk F.bnd x=aG (p,s)->sX h p
 cel:∀n c,lk σ.cells n=aG c->aBu F X D h n c
 inj:∀n m a,lk D n=aG a->lk D m=aG a->n=m
 sep:∀n a,lk D n=aG a->aBk F X h n a σ.next
 zfr:∀a∈F.Z,F.B.1.get? a=aH/\tI h a
 xal:∀a,X a->tI h a
def gU.base{F:Fx}{X:gI}{D:kP}{σ:St}{h:dF}(m:gU F X D σ h):∀b o,S.heap.get? b=aG o->h.get? b=aG o:=λb o e=>m.fb b o (F.B.2 b o e)
def gU.yal{F:Fx}{X:gI}{D:kP}{σ:St}{h:dF}(m:gU F X D σ h){a:cR}(q:Yf F X D a):tI h a:=by
 rcases q with z|z|⟨j,z⟩
 .exact (m.zfr a z).2
 .exact m.xal a z
 .exact (m.sep j a z).h
structure mZ(F:Fx)(D:kP)(h:dF)(D':kP)(h':dF):Prop where
 keep:∀b o,h.get? b=aG o->b∉F.Z->(∀n,lk D n≠aG b)->h'.get? b=aG o
 ext:∀n a,lk D n=aG a->lk D' n=aG a
 new:∀n a,lk D' n=aG a->lk D n=aG a\/h.get? a=aH
 al:∀b o,h.get? b=aG o->tI h' b
def mZ.refl{F:Fx}{D:kP}{h:dF}:mZ F D h D h:=⟨λ_ _ e _ _=>e,λ_ _ e=>e,λ_ _ e=>.inl e,λ_ o e=>⟨o,e⟩⟩
def mZ.trans{F:Fx}{D D₁ D₂:kP}{h h₁ f:dF}(x:mZ F D h D₁ h₁)(y:mZ F D₁ h₁ D₂ f):mZ F D h D₂ f:=by
 refine ⟨λb o e g i=>?_,λn a e=>y.ext n a (x.ext n a e),λn a e=>?_,λb o e=>let ⟨c,d⟩:=x.al b o e;y.al b c d⟩
 .refine y.keep b o (x.keep b o e g i) g λn d=>?_;rcases x.new n b d with q|q
  .exact i n q
  .replace q:=e▸q;cases q
 .rcases y.new n a e with q|q
  .exact x.new n a q
  .refine .inr ?_
   cases j:h.get? a with
   |none=>rfl
   |some c=>obtain ⟨o,k⟩:=x.al a c j;replace q:=k▸q;cases q
def fW.on{F:Fx}{X:gI}{D D':kP}{σ:St}{h h':dF}{d:V}{v:bL}(m:gU F X D σ h)(x:mZ F D h D' h')(r:fW D (Yf F X D) h d v):fW D' (Yf F X D') h' d v:=by
 refine fW.step (λb o e c=>x.keep b o e (λq=>c (.inl q)) λn q=>c (.inr (.inr ⟨n,q⟩))) x.ext (λa f=>?_) d v r;rcases f with q|q|⟨n,q⟩
 .exact .inl (.inl q)
 .exact .inl (.inr (.inl q))
 .rcases x.new n a q with q|q
  .exact .inl (.inr (.inr ⟨n,q⟩))
  .exact .inr q
def bN.on{F:Fx}{X:gI}{D D':kP}{σ:St}{h h':dF}{d:cA}{v:eW}(m:gU F X D σ h)(x:mZ F D h D' h')(r:bN D (Yf F X D) h d v):bN D' (Yf F X D') h' d v:=by
 refine bN.step (λb o e c=>x.keep b o e (λq=>c (.inl q)) λn q=>c (.inr (.inr ⟨n,q⟩))) x.ext (λa f=>?_) d v r;rcases f with q|q|⟨n,q⟩
 .exact .inl (.inl q)
 .exact .inl (.inr (.inl q))
 .rcases x.new n a q with q|q
  .exact .inl (.inr (.inr ⟨n,q⟩))
  .exact .inr q
def Holds.keep{h h':dF}{p:qM}{s:iS}{u:bL}(x:Holds h p s u)(b:∀o,h.get? p.adr=aG o->h'.get? p.adr=aG o):Holds h' p s u:=by
 cases p with
 |loc L=>refine nn λd=>?_;obtain ⟨m,⟨o,a1,f,a,r⟩,e⟩:=x;exact d (⟨m,⟨o,a1,f,b o a,r⟩,e⟩)
 |cel c=>obtain ⟨o,a,r⟩:=x;exact ⟨o,b o a,r⟩
def sX.keep{h h':dF}{p:qM}(x:sX h p)(b:∀o,h.get? p.adr=aG o->h'.get? p.adr=aG o):sX h' p:=by
 cases p with
 |loc L=>obtain ⟨m,⟨o,a1,d,a,r⟩⟩:=x;exact ⟨m,⟨o,a1,d,b o a,r⟩⟩
 |cel c=>obtain ⟨u,o,a,r⟩:=x;exact ⟨u,o,b o a,r⟩
def Ns.keep1{h h':dF}{a:cR}{m:iS->Option bL}(x:h.Ns a m)(b:∀o,h.get? a=aG o->h'.get? a=aG o):h'.Ns a m:=by refine nn λc=>?_;obtain ⟨o,a1,d,e,r⟩:=x;exact c ⟨o,a1,d,b o e,r⟩
def iQ.on{D D':kP}{Y Y':gI}{h h':dF}{a:cR}{c:fQ}(i:∀d v,fW D Y h d v->fW D' Y' h' d v)(j:∀d v,bN D Y h d v->bN D' Y' h' d v)(b:∀o,h.get? a=aG o->h'.get? a=aG o)(x:iQ D Y h a c):iQ D' Y' h' a c:=by
 cases c with
 |list vs=>obtain ⟨xs,⟨k,l⟩,y⟩:=x;exact ⟨xs,⟨k,b _ l⟩,j _ _ y⟩
 |dict ks vs=>obtain ⟨xs,z,y⟩:=x;exact ⟨xs,z.keep b,j _ _ y⟩
 |attrs as=>obtain ⟨m,f,le,y⟩:=x;exact ⟨m,f.at b,le,λp g=>let ⟨u,e,z⟩:=y p g;⟨u,e,i _ _ z⟩⟩
 |mat n=>obtain ⟨as,ok,m,f,le,y⟩:=x;exact ⟨as,ok,m,f.at b,le,λp g=>let ⟨u,e,z⟩:=y p g;⟨u,e,i _ _ z⟩⟩
def gU.grow{F:Fx}{X:gI}{D:kP}{σ:St}{h h':dF}(m:gU F X D σ h)(d:∀b o,h.get? b=aG o->h'.get? b=aG o):gU F X D σ h' where
 fb:=λb o e=>d b o (m.fb b o e)
 loc:=λx v e=>let ⟨p,s,u,g,i,j⟩:=m.loc x v e;⟨p,s,u,g,i.keep λo=>d _ o,fW.step (λb o e _=>d b o e) (λ_ _ e=>e) (λ_ e=>.inl e) _ _ j⟩
 frm:=λx p s e=>(m.frm x p s e).keep λo=>d _ o
 cel:=λn c e=>let ⟨a,g,i⟩:=m.cel n c e;⟨a,g,i.on (λ_ _=>fW.step (λb o e _=>d b o e) (λ_ _ e=>e) (λ_ e=>.inl e) _ _) (λ_ _=>bN.step (λb o e _=>d b o e) (λ_ _ e=>e) (λ_ e=>.inl e) _ _) λo=>d _ o⟩
 inj:=m.inj
 sep:=λn a e=>let ⟨a1,f,k,⟨o,l⟩,r⟩:=m.sep n a e;⟨a1,f,k,⟨o,d _ _ l⟩,r⟩
 zfr:=λa e=>let ⟨a1,o,f⟩:=m.zfr a e;⟨a1,o,d _ _ f⟩
 xal:=λa e=>let ⟨o,f⟩:=m.xal a e;⟨o,d _ _ f⟩
def mZ.grow{F:Fx}{D:kP}{h h':dF}(a:∀b o,h.get? b=aG o->h'.get? b=aG o):mZ F D h D h':=⟨λb o e _ _=>a b o e,λ_ _ e=>e,λ_ _ e=>.inl e,λb o e=>⟨o,a b o e⟩⟩
def cY(h:dF)(o:qY):∀b a,h.get? b=aG a->(h.push o).get? b=aG a:=λ_ _ e=>cK o e
def eE(h:dF):h.get? h.objs.size=aH:=by
 cases e:h.get? h.objs.size with
 |none=>rfl
 |some o=>exact absurd (dW e) (eG _)
def gU.cell{F:Fx}{X:gI}{D:kP}{σ:St}{h h':dF}{a:cR}{c:fQ}(m:gU F X D σ h)(i:∀b o,h.get? b=aG o->h'.get? b=aG o)(j:h.get? a=aH)(N:tI h' a)
  (O:∀D' Y',(∀d v,fW D (Yf F X D) h d v->fW D' Y' h' d v)->(∀d v,bN D (Yf F X D) h d v->bN D' Y' h' d v)->iQ D' Y' h' a c):
  gU F X ((σ.next,a)::D) {σ with cells:=(σ.next,c)::σ.cells,next:=σ.next+1} h'/\mZ F D h ((σ.next,a)::D) h':=by
 have H:∀n b,lk D n=aG b->lk ((σ.next,a)::D) n=aG b:=λn b e=>by simp [fL,eP,(λn b e=>fI (m.sep n b e).l) n b e,e]
 have I:∀n b,lk D n=aG b->b≠a:=λn b e q=>by refine nn λP=>?_;obtain ⟨o,f⟩:=(m.sep n b e).h;refine P ?_;replace f:=q▸f;replace f:=j▸f;cases f
 have r:∀n b,lk ((σ.next,a)::D) n=aG b->(n=σ.next/\b=a)\/(n≠σ.next/\lk D n=aG b):=λn b e=>by
  simp only [fL,eP]at e;split at e
  .exact .inl ⟨by assumption,by cases e;rfl⟩
  .exact .inr ⟨by assumption,e⟩
 have st:mZ F D h ((σ.next,a)::D) h':=⟨λb o e _ _=>i b o e,H,λn b e=>by
   rcases r n b e with ⟨_,q⟩|⟨_,q⟩
   .exact .inr (q.symm▸j)
   .exact .inl q,λb o e=>⟨o,i b o e⟩⟩
 have y:∀d v,fW D (Yf F X D) h d v->fW ((σ.next,a)::D) (Yf F X ((σ.next,a)::D)) h' d v:=λd v=>fW.on m st;have J:∀d v,bN D (Yf F X D) h d v->bN ((σ.next,a)::D) (Yf F X ((σ.next,a)::D)) h' d v:=λd v=>bN.on m st;refine ⟨⟨λb o e=>i b o (m.fb b o e),λx v e=>?_,λx p s e=>(m.frm x p s e).keep λo=>i _ o,λn Q e=>?_,λn A b e R=>?_,λn b e=>?_,λb e=>?_,λb e=>?_⟩,st⟩
 .obtain ⟨p,s,u,B,C,T⟩:=m.loc x v e;exact ⟨p,s,u,B,C.keep λo=>i _ o,y _ _ T⟩
 .simp only [fL,eP]at e;by_cases G:n=σ.next
  .replace e:=(if_pos G)▸e;cases e;exact ⟨a,by simp [fL,eP,G],O _ _ y J⟩
  .replace e:=(if_neg G)▸e;obtain ⟨b,B,C⟩:=m.cel n Q e;exact ⟨b,H n b B,C.on y J λo=>i _ o⟩
 .rcases r n b e with ⟨k,g⟩|⟨k,g⟩<;>rcases r A b R with ⟨L,t⟩|⟨L,t⟩
  .exact k.trans L.symm
  .exact absurd g (I A _ t)
  .exact absurd t (I n _ g)
  .exact m.inj n A b g t
 .rcases r n b e with ⟨k,g⟩|⟨k,g⟩
  .refine k.symm▸g.symm▸⟨λz=>?_,λz=>?_,?_,N,gS _⟩
   .obtain ⟨o,f⟩:=(m.zfr _ z).2;rw [j]at f;cases f
   .obtain ⟨o,f⟩:=m.xal _ z;rw [j]at f;cases f
   .cases q:F.B.1.get? a with
    |none=>rfl
    |some o=>replace j:=(m.fb a o q)▸j;cases j
  .replace g:=m.sep n b g;obtain ⟨a1,l,W,⟨o,Z⟩,a5⟩:=g;exact ⟨a1,l,W,⟨o,i _ _ Z⟩,WX a5⟩
 .obtain ⟨a1,o,l⟩:=m.zfr b e;exact ⟨a1,o,i _ _ l⟩
 .obtain ⟨o,l⟩:=m.xal b e;exact ⟨o,i _ _ l⟩
def gU.turn{F:Fx}{X:gI}{D:kP}{σ:St}{h h':dF}{n:Nat}{a:cR}{c:fQ}(fk:hO F)(m:gU F X D σ h)(l:lk D n=aG a)(f:∀b o,b≠a->h.get? b=aG o->h'.get? b=aG o)(B:tI h' a)
  (C:∀Y',(∀d v,fW D (Yf F X D) h d v->fW D Y' h' d v)->(∀d v,bN D (Yf F X D) h d v->bN D Y' h' d v)->iQ D Y' h' a c):
  gU F X D {σ with cells:=put n c σ.cells} h'/\mZ F D h D h':=by
 obtain ⟨z,O,G,P,Q⟩:=m.sep n a l;have r:∀b o,h.get? b=aG o->tI h' b:=λb o e=>by
  by_cases q:b=a
  .subst q;exact B
  .exact ⟨o,f b o q e⟩
 have st:mZ F D h D h':=⟨λb o e _ g=>f b o (λq=>g n (q▸l)) e,λ_ _ e=>e,λ_ _ e=>.inl e,r⟩;have t:∀d v,fW D (Yf F X D) h d v->fW D (Yf F X D) h' d v:=λd v=>fW.on m st;have A:∀d v,bN D (Yf F X D) h d v->bN D (Yf F X D) h' d v:=λd v=>bN.on m st;refine ⟨⟨λb o e=>f b o (λq=>by replace e:=q▸e;replace e:=G▸e;cases e) (m.fb b o e),λx v e=>?_,λx p s e=>?_,λi H e=>?_,m.inj,λi b e=>?_,λb e=>?_,λb e=>?_⟩,st⟩
 .obtain ⟨p,s,u,j,y,I⟩:=m.loc x v e;exact ⟨p,s,u,j,y.keep λo=>f _ o (λq=>z (q▸fk.inZ x p s j)),t _ _ I⟩
 .exact (m.frm x p s e).keep λo=>f _ o (λq=>z (q▸fk.inZ x p s e))
 .rw [kA]at e;by_cases g:i=n
  .replace e:=(if_pos g)▸e;cases e;subst g;exact ⟨a,l,C _ t A⟩
  .replace e:=(if_neg g)▸e;obtain ⟨b,j,y⟩:=m.cel i H e;exact ⟨b,j,y.on t A λo=>f _ o (λq=>g (m.inj i n a (q▸j) l))⟩
 .obtain ⟨a1,k,J,⟨o,L⟩,N⟩:=m.sep i b e;exact ⟨a1,k,J,r b o L,N⟩
 .obtain ⟨a1,o,k⟩:=m.zfr b e;exact ⟨a1,r b o k⟩
 .obtain ⟨o,k⟩:=m.xal b e;exact r b o k
def gU.turn2{F:Fx}{X:gI}{D:kP}{σ:St}{h h':dF}{n:Nat}{a:cR}{c:fQ}(fk:hO F)(m:gU F X D σ h)(l:lk D n=aG a)(f:∀b o,b≠a->h.get? b=aG o->h'.get? b=aG o)(A:tI h' a)
  (B:iQ D (Yf F X D) h' a c):
  gU F X D {σ with cells:=put n c σ.cells} h'/\mZ F D h D h':=by
 obtain ⟨y,N,C,O,P⟩:=m.sep n a l;have r:∀b o,h.get? b=aG o->tI h' b:=λb o e=>by
  by_cases q:b=a
  .subst q;exact A
  .exact ⟨o,f b o q e⟩
 have st:mZ F D h D h':=⟨λb o e _ g=>f b o (λq=>g n (q▸l)) e,λ_ _ e=>e,λ_ _ e=>.inl e,r⟩;have z:∀d v,fW D (Yf F X D) h d v->fW D (Yf F X D) h' d v:=λd v=>fW.on m st;refine ⟨⟨λb o e=>f b o (λq=>by replace e:=q▸e;replace e:=C▸e;cases e) (m.fb b o e),λx v e=>?_,λx p s e=>?_,λi G e=>?_,m.inj,λi b e=>?_,λb e=>?_,λb e=>?_⟩,st⟩
 .obtain ⟨p,s,u,j,t,H⟩:=m.loc x v e;exact ⟨p,s,u,j,t.keep λo=>f _ o (λq=>y (q▸fk.inZ x p s j)),z _ _ H⟩
 .exact (m.frm x p s e).keep λo=>f _ o (λq=>y (q▸fk.inZ x p s e))
 .rw [kA]at e;by_cases g:i=n
  .replace e:=(if_pos g)▸e;cases e;subst g;exact ⟨a,l,B⟩
  .replace e:=(if_neg g)▸e;obtain ⟨b,j,t⟩:=m.cel i G e;exact ⟨b,j,t.on z (λd v=>bN.on m st) λo=>f _ o (λq=>g (m.inj i n a (q▸j) l))⟩
 .obtain ⟨a1,k,I,⟨o,J⟩,L⟩:=m.sep i b e;exact ⟨a1,k,I,r b o J,L⟩
 .obtain ⟨a1,o,k⟩:=m.zfr b e;exact ⟨a1,r b o k⟩
 .obtain ⟨o,k⟩:=m.xal b e;exact r b o k
def gU.store{F:Fx}{X:gI}{D:kP}{σ:St}{h h':dF}{x:Nat}{p:qM}{s:iS}{v:V}{u:bL}(fk:hO F)(m:gU F X D σ h)(f:lk F.bnd x=aG (p,s))(j:∀b o,b≠p.adr->h.get? b=aG o->h'.get? b=aG o)
  (k:Holds h' p s u) (Q:∀a r,a≠s->(∃L,p=.loc L)->Holds h p a r->Holds h' p a r) (C:fW D (Yf F X D) h v u):
  gU F X D {σ with loc:=put x v σ.loc} h'/\mZ F D h D h':=by
 have G:=fk.inZ x p s f;obtain ⟨z1,z2⟩:=m.zfr _ G;have t:sX h' p:=by
  clear z2
  cases p with
  |loc L=>obtain ⟨O,e,_⟩:=k;exact ⟨O,e⟩
  |cel c=>exact ⟨_,k⟩
 have A:∀b o,h.get? b=aG o->tI h' b:=λb o e=>by
  by_cases q:b=p.adr
  .subst q;clear z2
   cases p with
   |loc L=>obtain ⟨O,⟨H,_,_,R,_⟩,_⟩:=k;exact ⟨H,R⟩
   |cel c=>obtain ⟨H,g,_⟩:=k;exact ⟨H,g⟩
  .exact ⟨o,j b o q e⟩
 have st:mZ F D h D h':=⟨λb o e T _=>j b o (λq=>T (q▸G)) e,λ_ _ e=>e,λ_ _ e=>.inl e,A⟩;have I:∀d v,fW D (Yf F X D) h d v->fW D (Yf F X D) h' d v:=λd v=>fW.on m st;refine ⟨⟨λb o e=>j b o (λq=>by replace e:=q▸e;replace e:=z1▸e;cases e) (m.fb b o e),λy w e=>?_,λy l a e=>?_,λn c e=>?_,m.inj,λn b e=>?_,λb e=>?_,λb e=>?_⟩,st⟩
 .rw [kA]at e;by_cases i:y=x
  .replace e:=(if_pos i)▸e;cases e;exact ⟨p,s,u,i▸f,k,I _ _ C⟩
  .replace e:=(if_neg i)▸e;clear k z1 z2;obtain ⟨l,a,r,g,B,W⟩:=m.loc y w e;refine ⟨l,a,r,g,?_,I _ _ W⟩;rcases fk.dist y x l a p s g f i with q|⟨L,J,N,P⟩
   .exact B.keep λo=>j _ o q
   .subst J;subst N;exact Q a r P ⟨L,rfl⟩ B
 .by_cases q:l.adr=p.adr
  .by_cases i:y=x
   .subst i;replace f:=e▸f;cases f;exact t
   .rcases fk.dist y x l a p s e f i with Z|⟨L,J,N,P⟩
    .exact absurd q Z
    .refine J▸?_;refine N▸?_;exact t
  .exact (m.frm y l a e).keep λo=>j _ o q
 .obtain ⟨b,g,B⟩:=m.cel n c e;exact ⟨b,g,B.on I (λd v=>bN.on m st) λo=>j _ o (λq=>(m.sep n b g).z (q▸G))⟩
 .obtain ⟨a1,z,a3,⟨o,a4⟩,a5⟩:=m.sep n b e;exact ⟨a1,z,a3,A b o a4,a5⟩
 .obtain ⟨a1,o,z⟩:=m.zfr b e;exact ⟨a1,A b o z⟩
 .obtain ⟨o,z⟩:=m.xal b e;exact A b o z
section
variable{D D':kP}{Y Y':gI}{h h':dF}
mutual
theorem fW.stepP(f:∀b o,h.get? b=aG o->¬Y b->h'.get? b=aG o)(g:∀a,Y' a->Y a\/h.get? a=aH):
  ∀(d:V)(v:bL),d.pure=aU->fW D Y h d v->fW D' Y' h' d v
 |.none,v,_,x=>x
 |.bool _,v,_,x=>x
 |.int _,v,_,x=>x
 |.str _,v,_,x=>x
 |.fn _,v,_,x=>x
 |.tup l,v,p,x=>by obtain ⟨a,xs,rfl,c,⟨k,e⟩,y⟩:=x;exact ⟨a,xs,rfl,uR g e c,⟨k,f a _ e c⟩,bN.stepP f g l xs p y⟩
 |.lst l,v,p,x=>by obtain ⟨a,xs,rfl,c,⟨k,e⟩,y⟩:=x;exact ⟨a,xs,rfl,uR g e c,⟨k,f a _ e c⟩,bN.stepP f g l xs p y⟩
 |.scr l,v,p,x=>by obtain ⟨a,xs,rfl,c,⟨o,e,r⟩,y⟩:=x;exact ⟨a,xs,rfl,uR g e c,⟨o,f a o e c,r⟩,bN.stepP f g l xs p y⟩
 |.mt l,v,p,x=>by obtain ⟨a,xs,rfl,c,⟨o,e,r⟩,y⟩:=x;exact ⟨a,xs,rfl,uR g e c,⟨o,f a o e c,r⟩,bN.stepP f g l xs p y⟩
 |.dct ks vs,v,p,x=>by obtain ⟨a,xs,rfl,c,z,y⟩:=x;obtain ⟨o,e⟩:=z.lt;exact ⟨a,xs,rfl,uR g e c,z.keep λi j=>f a i j c,bN.stepP f g vs xs p y⟩
 |.set0,v,_,x=>by obtain ⟨a,rfl,c,m,e⟩:=x;exact ⟨a,rfl,uR g e c,m,f a _ e c⟩
 |.ref n,v,p,x=>by cases p
 |.inst n,v,p,x=>by cases p
 |.bm id s,v,p,x=>by obtain ⟨a,u,rfl,c,⟨o,e,r⟩,y⟩:=x;exact ⟨a,u,rfl,uR g e c,⟨o,f a o e c,r⟩,fW.stepP f g s u p y⟩
theorem bN.stepP(c:∀b o,h.get? b=aG o->¬Y b->h'.get? b=aG o)(e:∀a,Y' a->Y a\/h.get? a=aH):
  ∀(l:cA)(xs:eW),dH l=aU->bN D Y h l xs->bN D' Y' h' l xs
 |[],xs,_,x=>x
 |d::l,xs,p,x=>by simp only [fO,eN,dT]at p;obtain ⟨u,r,rfl,y,z⟩:=x;exact ⟨u,r,rfl,fW.stepP c e d u p.1 y,bN.stepP c e l r p.2 z⟩
end
end
structure yZ(F:Fx)(k:Nat)(D:kP)(h:dF)(D':kP)(h':dF):Prop where
 keep:∀b o,h.get? b=aG o->b∉F.Z->(∀n,lk D n≠aG b)->h'.get? b=aG o
 ext:∀n a,n<k->lk D n=aG a->lk D' n=aG a
 new:∀n a,lk D' n=aG a->lk D n=aG a\/h.get? a=aH
 al:∀b o,h.get? b=aG o->tI h' b
def mZ.toK{F:Fx}{D D':kP}{h h':dF}(x:mZ F D h D' h')(k:Nat):yZ F k D h D' h':=⟨x.keep,λn a _=>x.ext n a,x.new,x.al⟩
def yZ.trans{F:Fx}{k:Nat}{D D₁ D₂:kP}{h h₁ f:dF}(x:yZ F k D h D₁ h₁)(y:yZ F k D₁ h₁ D₂ f):yZ F k D h D₂ f:=by
 refine ⟨λb o e g i=>?_,λn a j e=>y.ext n a j (x.ext n a j e),λn a e=>?_,λb o e=>let ⟨c,d⟩:=x.al b o e;y.al b c d⟩
 .refine y.keep b o (x.keep b o e g i) g λn d=>?_;rcases x.new n b d with q|q
  .exact i n q
  .replace q:=e▸q;cases q
 .rcases y.new n a e with q|q
  .exact x.new n a q
  .refine .inr ?_
   cases l:h.get? a with
   |none=>rfl
   |some c=>obtain ⟨o,m⟩:=x.al a c l;replace q:=m▸q;cases q
def Wk(k:Nat)(σ σ':St):Prop:=∀(F:Fx)(X:gI)(D:kP)(h:dF),hO F->gU F X D σ h->
 ∃D',gU F X D' σ' h/\(∀n a,n<k->lk D n=aG a->lk D' n=aG a)/\∀n a,lk D' n=aG a->lk D n=aG a
def Wk.refl{k:Nat}{σ:St}:Wk k σ σ:=λ_ _ D _ _ m=>⟨D,m,λ_ _ _ e=>e,λ_ _ e=>e⟩
def Wk.trans{k:Nat}{σ σ' d:St}(x:Wk k σ σ')(y:Wk k σ' d):Wk k σ d:=λF X D h fk m=>by refine nn λg=>?_;replace m:=x F X D h fk m;obtain ⟨D',i,a,b⟩:=m;obtain ⟨D'',j,l,o⟩:=y F X D' h fk i;exact g ⟨D'',j,λn c f e=>l n c f (a n c f e),λn c e=>b n c (o n c e)⟩
def gU.dropX{F:Fx}{X X':gI}{D:kP}{σ:St}{h:dF}(m:gU F X D σ h)(b:∀a,X' a->X a):gU F X' D σ h:=by
 have i:∀a,Yf F X' D a->Yf F X D a\/h.get? a=aH:=λa e=>by
  rcases e with q|q|q
  .exact .inl (.inl q)
  .exact .inl (.inr (.inl (b a q)))
  .exact .inl (.inr (.inr q))
 have j:∀d v,fW D (Yf F X D) h d v->fW D (Yf F X' D) h d v:=λd v=>fW.step (λ_ _ e _=>e) (λ_ _ e=>e) i d v;exact ⟨m.fb,λx v e=>let ⟨p,s,u,f,g,k⟩:=m.loc x v e;⟨p,s,u,f,g,j _ _ k⟩,m.frm,λn c e=>let ⟨a,f,g⟩:=m.cel n c e;⟨a,f,g.on j (λd v=>bN.step (λ_ _ e _=>e) (λ_ _ e=>e) i d v) λ_ e=>e⟩,m.inj,
  λn a e=>let ⟨a1,l,o,r,t⟩:=m.sep n a e;⟨a1,λq=>l (b a q),o,r,t⟩,m.zfr,λa e=>m.xal a (b a e)⟩
def gU.addX{F:Fx}{X:gI}{N:List cR}{D:kP}{σ:St}{h h':dF}(m:gU F X D σ h)(f:∀b o,h.get? b=aG o->h'.get? b=aG o)(i:∀a∈N,h.get? a=aH/\tI h' a):gU F (gR N X) D σ h':=by
 have r:∀a,Yf F (gR N X) D a->Yf F X D a\/h.get? a=aH:=λa e=>by
  rcases e with q|q|q
  .exact .inl (.inl q)
  .rcases q with q|q
   .exact .inr (i a q).1
   .exact .inl (.inr (.inl q))
  .exact .inl (.inr (.inr q))
 have t:∀d v,fW D (Yf F X D) h d v->fW D (Yf F (gR N X) D) h' d v:=λd v=>fW.step (λb o e _=>f b o e) (λ_ _ e=>e) r d v;refine ⟨λb o e=>f b o (m.fb b o e),λx v e=>let ⟨p,s,u,j,k,y⟩:=m.loc x v e;⟨p,s,u,j,k.keep λo=>f _ o,t _ _ y⟩,λx p s e=>(m.frm x p s e).keep λo=>f _ o,
  λn c e=>let ⟨a,j,k⟩:=m.cel n c e;⟨a,j,k.on t (λd v=>bN.step (λb o e _=>f b o e) (λ_ _ e=>e) r d v) λo=>f _ o⟩,m.inj,λn a e=>?_,λa e=>let ⟨a1,o,l⟩:=m.zfr a e;⟨a1,o,f _ _ l⟩,λa e=>?_⟩
 .obtain ⟨a1,l,z,⟨o,g⟩,A⟩:=m.sep n a e;refine ⟨a1,λq=>?_,z,⟨o,f _ _ g⟩,A⟩;rcases q with q|q
  .replace g:=((i a q).1)▸g;cases g
  .exact l q
 .rcases e with q|q
  .exact (i a q).2
  .obtain ⟨o,B⟩:=m.xal a q;exact ⟨o,f _ _ B⟩
def gU.turnX{F:Fx}{X:gI}{N:List cR}{D:kP}{σ:St}{h h':dF}(fk:hO F)(m:gU F X D σ h)(j:∀a∈N,X a)(r:∀a∈N,a∉F.Z)(y:∀a∈N,F.B.1.get? a=aH)(f:∀b o,b∉N->h.get? b=aG o->h'.get? b=aG o)(z:∀b∈N,tI h' b):
  gU F X D σ h':=by
 have t:∀d v,fW D (Yf F X D) h d v->fW D (Yf F X D) h' d v:=λd v=>fW.step (λb o e k=>f b o (λq=>k (.inr (.inl (j b q)))) e) (λ_ _ e=>e) (λ_ e=>.inl e) d v;have al:∀b o,h.get? b=aG o->tI h' b:=λb o e=>by
  by_cases q:b∈N
  .exact z b q
  .exact ⟨o,f b o q e⟩
 refine ⟨λb o e=>f b o (λq=>by replace e:=(y b q)▸e;cases e) (m.fb b o e),λx v e=>?_,λx p s e=>(m.frm x p s e).keep λo=>f _ o (λq=>r _ q (fk.inZ x p s e)),λn c e=>?_,m.inj,λn a e=>?_,λa e=>?_,λa e=>?_⟩
 .obtain ⟨p,s,u,g,l,A⟩:=m.loc x v e;exact ⟨p,s,u,g,l.keep λo=>f _ o (λq=>r _ q (fk.inZ x p s g)),t _ _ A⟩
 .obtain ⟨a,g,l⟩:=m.cel n c e;exact ⟨a,g,l.on t (λd v=>bN.step (λb o e k=>f b o (λq=>k (.inr (.inl (j b q)))) e) (λ_ _ e=>e) (λ_ e=>.inl e) d v) λo=>f _ o (λq=>(m.sep n a g).x (j a q))⟩
 .obtain ⟨a1,i,C,⟨o,G⟩,H⟩:=m.sep n a e;exact ⟨a1,i,C,al a o G,H⟩
 .obtain ⟨a1,o,i⟩:=m.zfr a e;exact ⟨a1,al a o i⟩
 .obtain ⟨o,i⟩:=m.xal a e;exact al a o i
end
noncomputable abbrev gZ:=St->Prop
noncomputable abbrev iZ(h:dF)(tk:Nat):cS:={S with heap:=h,toks:=tk}
structure wA(n:Nat)(A:jY):Prop where
 hd:A.handled=aH
 dep:A.depth+2*n<recursionLimit
 uni:A.units+10*n+100<cLine
def wA.in1(h:wA n A)(a:0<n):wA (n-1) A.in1:=⟨h.hd,by have:=h.dep;simp only [LR];exact aT 0x942528a86880346128688074614cc7003 this,by have:=h.uni;simp only [Gf];exact aT 0x2002000140229150d1ce1d10068e838943473874403a3894134cc7003 a this⟩
def wA.mono(h:wA n A)(a:k<=n):wA k A:=⟨h.hd,by have:=h.dep;exact aT 0x12945434401a309434403a30921004 a this,by have:=h.uni;exact aT 0x508a4543473874401a38943473874403a38921004 a this⟩
inductive Fl where
 |next|brk|cont
 |ret (v:V)
abbrev RT(α β:Type):=kP->gI->dF->β->α->Prop
def rV:RT bL V:=λD Y h d v=>fW D Y h d v
def rVs:RT eW cA:=λD Y h d v=>bN D Y h d v
def rB:RT Bool Bool:=λ_ _ _ b c=>b=c
def rU:RT Unit Unit:=λ_ _ _ _ _=>True
inductive Iy(D:kP)(Y:gI)(h:dF):Fl->Flow->Prop
 |next:Iy D Y h .next .next
 |brk:Iy D Y h .brk .brk
 |cont:Iy D Y h .cont .cont
 |ret {v:V} {u:bL} (r:fW D Y h v u):Iy D Y h (.ret v) (.ret u)
abbrev rF:RT Flow Fl:=Iy
inductive tG{α β:Type}(R:RT α β)(F:Fx)(X:gI)(D:kP)(h:dF)(Q:β->gZ)(a:α)(s':cS):Prop
 |mk (h':dF) (aw:Nat) (D':kP) (σ':St) (b:β) (e:s'=iZ h' aw) (st:mZ F D h D' h') (m:gU F X D' σ' h') (r:R D' (Yf F X D') h' b a) (q:Q b σ'):tG R F X D h Q a s'
def tG.el{α β:Type}{R:RT α β}{X:gI}{Q:β->gZ}{a:α}{d:cS}{P:qR}(p:tG R F X D h Q a d)(k:∀h' c D' σ' b,mZ F D h D' h'->gU F X D' σ' h'->R D' (Yf F X D') h' b a->Q b σ'->P (iZ h' c)):P d:=by obtain ⟨h',c,D',σ',b,e,f,g,r,q⟩:=p;exact e▸k h' c D' σ' b f g r q
def tG.on{α β:Type}{R:RT α β}{X:gI}{Q:β->gZ}{a:α}{c:cS}(st:mZ F D h D₁ h₁)(p:tG R F X D₁ h₁ Q a c):tG R F X D h Q a c:=by obtain ⟨h',d,D',σ',b,e,f,g,r,q⟩:=p;exact ⟨h',d,D',σ',b,e,st.trans f,g,r,q⟩
section
def TW{α β:Type}(R:RT α β)(n:Nat)(F:Fx)(ds:cA)(t:eW->Ag α)(σ:St)(Q:β->gZ):Prop:=
 ∀A X D h tk vs,wA n A->gU F X D σ h->bN D (Yf F X D) h ds vs->bW iC A (t vs) (tG R F X D h Q) (λ_ _=>False) (iZ h tk)
abbrev EW(n:Nat)(F:Fx)(e:Expr)(σ:St)(Q:V->gZ):Prop:=TW rV n F [] (λ_=>eval e F.env) σ Q
abbrev BW(n:Nat)(F:Fx)(e:Expr)(σ:St)(Q:Bool->gZ):Prop:=TW rB n F [] (λ_=>isTrue e F.env (eval e F.env)) σ Q
end
section
variable{n:Nat}{F:Fx}{σ:St}{α β γ δ:Type}{R:RT α β}{R':RT γ δ}{ds:cA}
def TW.mono{t:eW->Ag α}{Q Q':β->gZ}(x:TW R n F ds t σ Q)(h:∀b σ',Q b σ'->Q' b σ'):TW R n F ds t σ Q':=by intro A X D c tk vs ok m r;refine bK (x A X D c tk vs ok m r) (λa i p=>?_) λ_ _ e=>e;obtain ⟨h',d,D',σ',b,e,st,f,g,q⟩:=p;exact ⟨h',d,D',σ',b,e,st,f,g,h b σ' q⟩
def TW.at{t:eW->Ag α}{Q:β->gZ}{X:gI}{K:α->qR}(x:TW R n F ds t σ Q)(ok:wA n A)(m:gU F X D σ h)(r:bN D (Yf F X D) h ds vs)
  (k:∀a h₁ c D₁ σ₁ b,mZ F D h D₁ h₁->gU F X D₁ σ₁ h₁->R D₁ (Yf F X D₁) h₁ b a->Q b σ₁->K a (iZ h₁ c)):bW iC A (t vs) K (λ_ _=>False) (iZ h tk):=by
 refine bK (x A X D h tk vs ok m r) (λa i p=>?_) λ_ _ e=>e;obtain ⟨h',d,D',σ',b,rfl,st,f,g,q⟩:=p;exact k a h' d D' σ' b st f g q
def TW.bind{t:eW->Ag α}{k:α->eW->Ag γ}{Q:δ->gZ}{K:β->gZ}(x:TW R n F ds t σ K)
  (y:∀b σ₁,K b σ₁->∀A X D h tk vs a,wA n A->gU F X D σ₁ h->bN D (Yf F X D) h ds vs->R D (Yf F X D) h b a->bW iC A (k a vs) (tG R' F X D h Q) (λ_ _=>False) (iZ h tk)):
  TW R' n F ds (λvs=>t vs>>=λa=>k a vs) σ Q:=by
 intro A X D h tk vs ok m r;refine aK (x.at ok m r λa h₁ d D₁ σ₁ b st f g q=>?_);exact bK (y b σ₁ q A X D₁ h₁ d vs a ok f (r.on m st) g) (λc i p=>p.on st) λ_ _ e=>e
def TW.pure{a:eW->α}{Q:β->gZ}(c:∀D Y h vs,bN D Y h ds vs->R D Y h b (a vs))(q:Q b σ):TW R n F ds (λvs=>Uy (a vs)) σ Q:=by intro A X D h tk vs ok m r;exact aW ⟨h,tk,D,σ,b,rfl,.refl,m,c _ _ _ _ r,q⟩
def è{Q:V->gZ}(q:Q (.int i) σ):EW n F (.Constant (.int i) k a) σ Q:=by intro A X D h tk vs ok m r;exact wpAny_Constant_int ⟨h,tk+1,D,σ,.int i,rfl,.refl,m,⟨_,rfl⟩,q⟩
def æ{Q:V->gZ}(q:Q (.str x) σ):EW n F (.Constant (.str x) k a) σ Q:=by intro A X D h tk vs ok m r;exact wpAny_Constant_str ⟨h,tk+1,D,σ,.str x,rfl,.refl,m,⟨_,rfl⟩,q⟩
def QW{Q:V->gZ}(q:Q .none σ):EW n F (.Constant .none k a) σ Q:=by intro A X D h tk vs ok m r;exact wpAny_Constant_none ⟨h,tk,D,σ,.none,rfl,.refl,m,rfl,q⟩
def QY{Q:V->gZ}(q:Q (.bool b) σ):EW n F (.Constant (.bool b) k a) σ Q:=by intro A X D h tk vs ok m r;exact wpAny_Constant_bool ⟨h,tk,D,σ,.bool b,rfl,.refl,m,rfl,q⟩
def AI(env:ľ):qM->iS->Prop
 |.loc L,s=>env.locals=L/\env.kindOf s=aG .local
 |.cel c,s=>env.kindOf s=aG .cell/\env.cells.lookup s=aG c
def Wc{X:gI}{K:pZ}(fk:hO F)(m:gU F X D σ h)(f:lk σ.loc x=aG v)(g:lk F.bnd x=aG (p,s))(a:AI F.env p s)
  (k:∀u,fW D (Yf F X D) h v u->K u (iZ h tk)):bW iC A (loadName F.env s) K (λ_ _=>False) (iZ h tk):=by
 refine nn λi=>?_;obtain ⟨r,t,u,b,d,e⟩:=m.loc x v f;rw [g]at b;cases b;refine i ?_
 cases p with
 |loc L=>obtain ⟨y,j,l⟩:=d;obtain ⟨rfl,o⟩:=a;exact wpAny_loadName_local fk.kind o j l (k u e)
 |cel c=>exact Ĳ fk.kind a.1 a.2 d (k u e)
def ä{Q:V->gZ}(fk:hO F)(a:lk σ.loc x=aG v)(b:lk F.bnd x=aG (p,s))(c:AI F.env p s)(hd:(s== ("__debug__":iS))=bR)(q:Q v σ):
  EW n F (.Name s e) σ Q:=by
 intro A X D h tk vs ok m r;exact wpAny_Name (Wc fk m a b c λu d=>⟨h,tk,D,σ,v,rfl,.refl,m,d,q⟩) hd
def wP{X:gI}{K:Unit->qR}(fk:hO F)(m:gU F X D σ h)(f:lk F.bnd x=aG (p,s))(g:AI F.env p s)(t:fW D (Yf F X D) h v u)
  (k:∀h' H,gU F X D {σ with loc:=put x v σ.loc} h'->mZ F D h D h'->K () (iZ h' H)):bW iC A (storeName F.env s u) K (λ_ _=>False) (iZ h tk):=by
 have y:=m.frm x p s f
 cases p with
 |loc L=>
  obtain ⟨rfl,I⟩:=g;obtain ⟨mm,z⟩:=y;refine wpAny_storeName_local I z (λh' B i=>?_) (by rw [fk.kind];rfl);have J:∀a d,a≠s->(∃L,qM.loc F.env.locals=.loc L)->Holds h (.loc F.env.locals) a d->Holds h' (.loc F.env.locals) a d:=λa d C _ e=>by
   obtain ⟨m2,j,N⟩:=e;refine ⟨_,B,?_⟩;rw [if_neg C];obtain ⟨o,es,ep,O,hd,P,Q⟩:=z;obtain ⟨T,W,qa,Y,G,Z,xp⟩:=j;have:o=T:=by have:=O.symm.trans Y;cases this;rfl
   subst this;have:es=W:=by rw [hd]at G;cases G;rfl
   subst this;rw [<-Q a,xp a];exact N
  obtain ⟨l,st⟩:=gU.store fk m f (λb o r e=>(i.2 b r).trans e) ⟨_,B,by simp⟩ J t;exact k h' _ l st
 |cel c=>obtain ⟨uu,hc⟩:=y;refine wpAny_storeName_cell fk.kind g.1 g.2 hc (λh' qb i=>?_);obtain ⟨l,st⟩:=gU.store fk m f (λb o r e=>(i.2 b r).trans e) qb (λa d C ⟨L,e⟩ _=>by cases e) t;exact k h' _ l st
end
section
set_option backward.match.sparseCases false
inductive tZ{α β:Type}(R:RT α β)(F:Fx)(X:gI)(k:Nat)(D:kP)(h:dF)(Q:β->gZ)(a:α)(s':cS):Prop
 |mk (h':dF) (aw:Nat) (D':kP) (σ':St) (b:β) (e:s'=iZ h' aw) (st:yZ F k D h D' h') (m:gU F X D' σ' h') (r:R D' (Yf F X D') h' b a) (q:Q b σ'):tZ R F X k D h Q a s'
def tZ.el{d f:Type}{R:RT d f}{X:gI}{Q:f->gZ}{a:d}{g:cS}{P:qR}(p:tZ R F X k D h Q a g)(z:∀h' c D' σ' b,yZ F k D h D' h'->gU F X D' σ' h'->R D' (Yf F X D') h' b a->Q b σ'->P (iZ h' c)):P g:=by obtain ⟨h',c,D',σ',b,e,i,j,r,q⟩:=p;exact e▸z h' c D' σ' b i j r q
def tZ.on{c d:Type}{R:RT c d}{X:gI}{Q:d->gZ}{a:c}{f:cS}(st:yZ F k D h D₁ h₁)(p:tZ R F X k D₁ h₁ Q a f):tZ R F X k D h Q a f:=by obtain ⟨h',g,D',σ',b,e,i,j,r,q⟩:=p;exact ⟨h',g,D',σ',b,e,st.trans i,j,r,q⟩
section
def SW(k n:Nat)(F:Fx)(b:List tR)(σ:St)(Q:Fl->gZ):Prop:=
 ∀A X D h tk,wA n A->gU F X D σ h->bW iC A (execs b F.env) (tZ rF F X k D h Q) (λ_ _=>False) (iZ h tk)
def XW(k n:Nat)(F:Fx)(b:tR)(σ:St)(Q:Fl->gZ):Prop:=
 ∀A X D h tk,wA n A->gU F X D σ h->bW iC A (exec b F.env) (tZ rF F X k D h Q) (λ_ _=>False) (iZ h tk)
def GW(n:Nat)(F:Fx)(t:Expr)(v:V)(σ:St)(Q:gZ):Prop:=
 ∀A X D h tk u,wA n A->gU F X D σ h->fW D (Yf F X D) h v u->bW iC A (assign t F.env u) (tG rU F X D h λ_=>Q) (λ_ _=>False) (iZ h tk)
end
section
variable{k n:Nat}{F:Fx}{σ:St}{Q:Fl->gZ}
def zM(q:Q .next σ):SW k n F [] σ Q:=λA X D h tk ok m=>
 xK ⟨h,tk,D,σ,.next,rfl,mZ.refl.toK k,m,Iy.next,q⟩
def gY{st:tR}{g:List tR}(x:XW k n F st σ λf σ'=>match f with|.next=>SW k n F g σ' Q|f=>Q f σ'):SW k n F (st::g) σ Q:=λA X D h tk ok m=>by
 refine wpAny_execs_cons (bK (x A X D h tk ok m) (λf i p=>?_) λ_ _ e=>e);obtain ⟨h',a,D',σ',b,rfl,c,d,r,q⟩:=p;cases r
 .exact bK (q A X D' h' a ok d) (λ_ _ p=>p.on c) λ_ _ e=>e
 .exact ⟨h',a,D',σ',.brk,rfl,c,d,.brk,q⟩
 .exact ⟨h',a,D',σ',.cont,rfl,c,d,.cont,q⟩
 .exact ⟨h',a,D',σ',.ret _,rfl,c,d,.ret ‹_›,q⟩
def kO{Q':Fl->gZ}(x:SW k n F b σ Q)(y:∀f σ',Q f σ'->Q' f σ'):SW k n F b σ Q':=λA X D h tk ok m=>by refine bK (x A X D h tk ok m) (λf g p=>?_) λ_ _ e=>e;obtain ⟨h',a,D',σ',b,e,c,d,r,q⟩:=p;exact ⟨h',a,D',σ',b,e,c,d,r,y _ _ q⟩
def Vi(fk:hO F)(x:Wk k σ σ')(y:SW k n F b σ' Q):SW k n F b σ Q:=λA X D h tk ok m=>by refine nn λc=>?_;obtain ⟨D',d,g,i⟩:=x F X D h fk m;refine c (bK (y A X D' h tk ok d) (λf j p=>p.on ⟨λ_ _ e _ _=>e,g,λn a e=>.inl (i n a e),λ_ o e=>⟨o,e⟩⟩) λ_ _ e=>e)
def XH(fk:hO F)(i:lk σ.loc x=aG old)(f:lk F.bnd x=aG (p,s))(g:AI F.env p s)
  (y:EW n F e σ λv σ₁=>TW rV n F [old,v] (λvs=>match vs with|[a,b]=>inplaceOp j a b|_=>pure .none) σ₁ λr d=>Q .next {d with loc:=put x r d.loc}):XW k n F (.AugAssign (.Name s pos') j e L) σ Q:=λA X D h tk ok m=>by
 refine wpAny_AugAssign_Name (Wc fk m i f g λu l=>?_);refine y.at ok m bN.nil λa h₁ N D₁ σ₁ v st o r q=>?_;refine q.at ok o (.cons (l.on m st) (.cons r .nil)) λc O P D₂ d t z B C G=>?_;refine wP fk B f g C λh' H I J=>?_;exact ⟨h',H,D₂,_,.next,rfl,((st.trans z).trans J).toK k,I,Iy.next,G⟩
def U2(y:BW n F test σ λb σ₁=>if b=aU then SW k n F body σ₁ Q else SW k n F orelse σ₁ Q):XW k n F (.If test body orelse f) σ Q:=λA X D h tk ok m=>by
 refine wpAny_If (y.at ok m bN.nil λb h₁ a D₁ σ₁ c st d r q=>?_);obtain rfl:c=b:=r;cases c
 .exact bK (q A X D₁ h₁ a ok d) (λ_ _ p=>p.on (st.toK k)) λ_ _ e=>e
 .exact bK (q A X D₁ h₁ a ok d) (λ_ _ p=>p.on (st.toK k)) λ_ _ e=>e
def XG(y:EW n F e σ λv σ₁=>Q (.ret v) σ₁):XW k n F (.Return (aG e) d) σ Q:=λA X D h tk ok m=>
 wpAny_Return_some (y.at ok m bN.nil λa h₁ b D₁ σ₁ v st c r q=>⟨h₁,b,D₁,σ₁,.ret v,rfl,st.toK k,c,.ret r,q⟩)
def Lm(q:Q (.ret .none) σ):XW k n F (.Return none a) σ Q:=λA X D h tk ok m=>
 wpAny_Return_none ⟨h,tk,D,σ,.ret .none,rfl,mZ.refl.toK k,m,.ret rfl,q⟩
def BC(q:Q .brk σ):XW k n F (.Break a) σ Q:=λA X D h tk ok m=>wpAny_Break ⟨h,tk,D,σ,.brk,rfl,mZ.refl.toK k,m,Iy.brk,q⟩
def LU(q:Q .cont σ):XW k n F (.Continue a) σ Q:=λA X D h tk ok m=>wpAny_Continue ⟨h,tk,D,σ,.cont,rfl,mZ.refl.toK k,m,Iy.cont,q⟩
def Ca(hi:interactive F.env=bR)(f:swapsWith e none g.line F.env=pure bR)(y:EW n F e σ λv σ₁=>(v=.none\/∃x,v=.str x)/\Q .next σ₁):XW k n F (.Expr e g) σ Q:=λA X D h tk ok m=>by
 refine wpAny_Expr (y.at ok m bN.nil λa h₁ b D₁ σ₁ v st c r q=>?_) hi f;obtain ⟨i,d⟩:=q;rcases i with rfl|⟨x,rfl⟩
 .subst r;exact ⟨h₁,b,D₁,σ₁,.next,rfl,st.toK k,c,Iy.next,d⟩
 .obtain ⟨t,rfl⟩:=r;exact ⟨h₁,b,D₁,σ₁,.next,rfl,st.toK k,c,Iy.next,d⟩
inductive KC(F:Fx)(X:gI)(k:Nat)(D:kP)(h:dF)(I:Nat->gZ)(i:Nat)(s':cS):Prop
 |mk (h':dF) (aw:Nat) (D':kP) (σ':St) (e:s'=iZ h' aw) (st:yZ F k D h D' h') (m:gU F X D' σ' h') (hI:I i σ'):KC F X k D h I i s'
def KC.el{F:Fx}{X:gI}{k:Nat}{D:kP}{h:dF}{I:Nat->gZ}{i:Nat}{b:cS}{P0:qR}(c:KC F X k D h I i b)(z:∀(h':dF)(d:Nat)(D':kP)(σ':St)(st:yZ F k D h D' h')(m:gU F X D' σ' h')(p:I i σ'),P0 (iZ h' d)):P0 b:=by obtain ⟨e,f,D'9,g,j,l,o,a⟩:=c;exact j▸z e f D'9 g l o a
theorem AZ(fk:hO F)(I:Nat->gZ)(j:Nat)(J:I j σ)
  (L:∀i σ',I i σ'->BW n F test σ' λb σ₁=>if b=aU then SW k n F body σ₁ (λf s=>match f with
    |.next=>∃c d,c<i/\Wk k s d/\I c d
    |.cont=>∃c d,c<i/\Wk k s d/\I c d
    |.brk=>Q .next s
    |.ret v=>Q (.ret v) s)else Q .next σ₁):XW k n F (.While test body [] ap) σ Q:=λA X D h tk ok m=>by
 refine wpAny_While (codeAny_whileLoop (KC F X k D h I) (λi s' N=>?_) j ⟨h,tk,D,σ,rfl,mZ.refl.toK k,m,J⟩);refine N.el λh' aw D' σ' B O P=>?_;refine bK ((L i σ' P).at ok O bN.nil λb h₁ C D₁ σ₁ G st H r q=>?_) (λ_ _ x=>x) λ_ _ x=>x.elim;obtain rfl:G=b:=r;cases G
 .exact xK ⟨h₁,C,D₁,σ₁,.next,rfl,B.trans (st.toK k),H,Iy.next,q⟩
 .dsimp only [if_true]at q⊢;refine bK (q A X D₁ h₁ C ok H) (λf tf p=>?_) λ_ _ x=>x.elim;obtain ⟨g,t,D₃,d,f',rfl,R,z,T,u⟩:=p;have YF:=(B.trans (st.toK k)).trans R;have again:(∃c y,c<i/\Wk k d y/\I c y)->∃l,l<i/\KC F X k D h I l (iZ g t):=by rintro ⟨c,y,lt,wk,W⟩;refine nn λY=>?_;obtain ⟨D₄,Z,e1,e2⟩:=wk F X D₃ g fk z;exact Y (⟨c,lt,g,t,D₄,y,rfl,YF.trans ⟨λ_ _ e _ _=>e,e1,λn a e=>.inl (e2 n a e),λ_ o e=>⟨o,e⟩⟩,Z,W⟩)
  cases T
  .exact again u
  .exact ⟨g,t,D₃,d,.next,rfl,YF,z,Iy.next,u⟩
  .exact again u
  .exact ⟨g,t,D₃,d,.ret _,rfl,YF,z,.ret ‹_›,u⟩
end
end
section
set_option backward.match.sparseCases false
noncomputable def one{α:Type}[Inhabited α](t:bL->Ag α):eW->Ag α
 |[a]=>t a
 |_=>Uy default
noncomputable def En(t:bL->bL->Ag bL):eW->Ag bL
 |[a,b]=>t a b
 |_=>Uy .none
noncomputable def Oz(t:bL->bL->bL->Ag bL):eW->Ag bL
 |[a,b,c]=>t a b c
 |_=>Uy .none
def J0(σ:St):V->Option cA
 |.lst l=>aG l
 |.ref n=>ob (lk σ.cells n) liC
 |_=>aH
section
variable{n:Nat}{F:Fx}{σ:St}{Q:V->gZ}
def XY{b c:Type}[Inhabited b]{R:RT b c}{Q:c->gZ}{t:bL->Ag b}(k:∀A X D h tk u,wA n A->gU F X D σ h->fW D (Yf F X D) h a u->bW iC A (t u) (tG R F X D h Q) (λ_ _=>False) (iZ h tk)):
  TW R n F [a] (one t) σ Q:=λA X D h tk vs ok m r=>by
 simp only [rN,rM]at r;obtain ⟨u,e,rfl,d,rfl⟩:=r;exact k A X D h tk u ok m d
def oV{t:bL->bL->Ag bL}(k:∀A X D h tk u v,wA n A->gU F X D σ h->fW D (Yf F X D) h a u->fW D (Yf F X D) h b v->bW iC A (t u v) (tG rV F X D h Q) (λ_ _=>False) (iZ h tk)):
  TW rV n F [a,b] (En t) σ Q:=λA X D h tk vs ok m r=>by
 simp only [rN,rM]at r;obtain ⟨u,e,rfl,c,v,f,rfl,d,rfl⟩:=r;exact k A X D h tk u v ok m c d
def fS{X:gI}(m:gU F X D σ h)(r:fW D (Yf F X D) h u v)(q:Q u σ):tG rV F X D h Q v (iZ h tk):=⟨h,tk,D,σ,u,rfl,.refl,m,r,q⟩
def jX{Y:gI}:fW D Y h (.int i) (.int i t):=by exact ⟨_,rfl⟩
def nW{Y:gI}:fW D Y h (.bool b) (.bool b):=rfl
def Gw{Y:gI}:fW D Y h .none .none:=rfl
def é(x:EW n F l σ λa σ₁=>EW n F r σ₁ λb c=>TW rV n F [a,b] (En (binaryOp g)) c Q):EW n F (.BinOp l g r B) σ Q:=λA X D h tk vs ok m _=>by refine wpAny_BinOp (x.at ok m bN.nil λa h₁ C D₁ σ₁ u i d j k=>?_);refine k.at ok d bN.nil λb o s D₂ c v f t y z=>?_;exact bK (z A X D₂ o s [a,b] ok t (.cons (j.on d f) (.cons y .nil))) (λ_ _ p=>p.on (i.trans f)) λ_ _ e=>e
def Nx{Q:Bool->gZ}(j:behindInMarks e r=bR)(x:EW n F l σ λa σ₁=>EW n F r σ₁ λb f=>TW rV n F [a,b] (En (compareOp e)) f λc d=>∃v,c=.bool v/\Q v d):BW n F (.Compare l [e] [r] L) σ Q:=λA X D h tk vs ok m _=>by refine wpAny_isTrue_Compare1 (x.at ok m bN.nil λa h₁ N D₁ σ₁ u k g o p=>?_) j;refine p.at ok g bN.nil λb O P D₂ f v i s t y=>?_;refine y.at ok s (.cons (o.on g i) (.cons t .nil)) λc B C D₃ d R G H I J=>?_;obtain ⟨z,rfl,q⟩:=J;subst I;exact aB3 ⟨B,C,D₃,d,z,rfl,(k.trans i).trans G,H,rfl,q⟩
def þ{Q:Bool->gZ}(y:BW n F x σ λb σ₁=>Q (!b) σ₁):BW n F (.UnaryOp .Not x i) σ Q:=λA X D h tk vs ok m _=>by refine wpAny_isTrue_Not (y.at ok m bN.nil λb h₁ a D₁ σ₁ c d e f g=>?_);obtain rfl:c=b:=f;exact ⟨h₁,a,D₁,σ₁,_,rfl,d,e,rfl,g⟩
def Rv(n:Nat)(F:Fx)(op:BoolOp)(es:List Expr)(σ:St)(Q:Bool->gZ):Prop:=TW rB n F [] (λ_=>allTrue op es F.env) σ Q
def SA{Q:Bool->gZ}(y:Rv n F a es σ Q):BW n F (.BoolOp a es b) σ Q:=λA X D h tk vs ok m r=>wpAny_isTrue_BoolOp (y A X D h tk vs ok m r)
def Ru{Q:Bool->gZ}(q:Q aU σ):Rv n F .And [] σ Q:=λA X D h tk vs ok m r=>wpAny_allTrue_And_nil ⟨h,tk,D,σ,aU,rfl,.refl,m,rfl,q⟩
def Un{Q:Bool->gZ}(q:Q bR σ):Rv n F .Or [] σ Q:=λA X D h tk vs ok m r=>wpAny_allTrue_Or_nil ⟨h,tk,D,σ,bR,rfl,.refl,m,rfl,q⟩
def N3{Q:Bool->gZ}(y:BW n F e σ λb σ₁=>if b=aU then Rv n F .And es σ₁ Q else Q bR σ₁):Rv n F .And (e::es) σ Q:=λA X D h tk vs ok m r=>by
 refine wpAny_allTrue_And_cons (y.at ok m bN.nil λb h₁ a D₁ σ₁ c d f i g=>?_);obtain rfl:c=b:=i;cases c
 .exact ⟨h₁,a,D₁,σ₁,bR,rfl,d,f,rfl,g⟩
 .exact bK (g A X D₁ h₁ a [] ok f bN.nil) (λ_ _ p=>p.on d) λ_ _ e=>e
def Rs{Q:Bool->gZ}(y:BW n F e σ λb σ₁=>if b=aU then Q aU σ₁ else Rv n F .Or es σ₁ Q):Rv n F .Or (e::es) σ Q:=λA X D h tk vs ok m r=>by
 refine wpAny_allTrue_Or_cons (y.at ok m bN.nil λb h₁ a D₁ σ₁ c d f i g=>?_);obtain rfl:c=b:=i;cases c
 .exact bK (g A X D₁ h₁ a [] ok f bN.nil) (λ_ _ p=>p.on d) λ_ _ e=>e
 .exact ⟨h₁,a,D₁,σ₁,aU,rfl,d,f,rfl,g⟩
def ç(y:BW n F c σ λt σ₁=>if t=aU then EW n F a σ₁ Q else EW n F b σ₁ Q):EW n F (.IfExp c a b l) σ Q:=λA X D h tk vs ok m _=>by
 refine wpAny_IfExp (y.at ok m bN.nil λb h₁ d D₁ σ₁ f g i k j=>?_);obtain rfl:f=b:=k;cases f
 .exact bK (j A X D₁ h₁ d [] ok i bN.nil) (λ_ _ p=>p.on g) λ_ _ e=>e
 .exact bK (j A X D₁ h₁ d [] ok i bN.nil) (λ_ _ p=>p.on g) λ_ _ e=>e
def sS{f:bL->bL->Ag bL}{Q:V->gZ}(y:∀A X D h tk t c,wA n A->gU F X D σ h->bW iC A (f (.int a t) (.int b c)) (tG rV F X D h Q) (λ_ _=>False) (iZ h tk)):TW rV n F [.int a,.int b] (En f) σ Q:=oV λA X D h tk u v ok m d e=>by obtain ⟨t,rfl⟩:=d;obtain ⟨c,rfl⟩:=e;exact y A X D h tk t c ok m
def ZB(q:Q (.int (a+b)) σ):TW rV n F [.int a,.int b] (En (binaryOp .Add)) σ Q:=sS λA X D h tk t c ok m=>P.add_int (fS m jX q)
def NG(q:Q (.int (a+b)) σ):TW rV n F [.int a,.int b] (En (inplaceOp .Add)) σ Q:=sS λA X D h tk t c ok m=>P.iadd_int (fS m jX q)
def YX(q:Q (.int (a-b)) σ):TW rV n F [.int a,.int b] (En (binaryOp .Sub)) σ Q:=sS λA X D h tk t c ok m=>P.sub_int (fS m jX q)
def YZ(c:IntMulOk a b)(q:Q (.int (a*b)) σ):TW rV n F [.int a,.int b] (En (binaryOp .Mult)) σ Q:=sS λA X D h tk t d ok m=>P.mul_int (fS m jX q) c
def Ś(q:Q (.bool (decide (a<b))) σ):TW rV n F [.int a,.int b] (En (compareOp .Lt)) σ Q:=sS λA X D h tk t c ok m=>P.lt_int (fS m nW q)
def ś(q:Q (.bool (decide (a<=b))) σ):TW rV n F [.int a,.int b] (En (compareOp .LtE)) σ Q:=sS λA X D h tk t c ok m=>P.le_int (fS m nW q)
def Ŝ(q:Q (.bool (decide (b<a))) σ):TW rV n F [.int a,.int b] (En (compareOp .Gt)) σ Q:=sS λA X D h tk t c ok m=>P.gt_int (fS m nW q)
def ŝ(q:Q (.bool (decide (b<=a))) σ):TW rV n F [.int a,.int b] (En (compareOp .GtE)) σ Q:=sS λA X D h tk t c ok m=>P.ge_int (fS m nW q)
def ZA(c:b≠0)(q:Q (.int (a.fmod b)) σ):TW rV n F [.int a,.int b] (En (binaryOp .Mod)) σ Q:=sS λA X D h tk t d ok m=>aEl c (fS m jX q)
def Yb(c:b=match v with|.none=>aU|_=>bR)(d:∀u,v≠.fn u)(q:Q (.bool b) σ):TW rV n F [v,.none] (En (compareOp .Is)) σ Q:=oV λA X D h tk u f ok m a e=>by subst e;refine is_none (fS m ?_ q);subst c;cases v<;>first|(subst a;rfl)|(obtain ⟨_,rfl⟩:=a;rfl)|(obtain ⟨_,_,rfl,_⟩:=a;rfl)|(obtain ⟨_,rfl,_⟩:=a;rfl)|(exact absurd rfl (d _))
def Me(c:b=match v with|.none=>bR|_=>aU)(d:∀u,v≠.fn u)(q:Q (.bool b) σ):TW rV n F [v,.none] (En (compareOp .IsNot)) σ Q:=oV λA X D h tk u f ok m a e=>by subst e;refine isNot_none (fS m ?_ q);subst c;cases v<;>first|(subst a;rfl)|(obtain ⟨_,rfl⟩:=a;rfl)|(obtain ⟨_,_,rfl,_⟩:=a;rfl)|(obtain ⟨_,rfl,_⟩:=a;rfl)|(exact absurd rfl (d _))
inductive GL(F:Fx)(X:gI)(D:kP)(h:dF)(l:cA)(u:bL):Prop
 |mk (a:cR) (xs:eW) (k:Nat) (e:u=.ref a) (p:IsL h a (bC xs) k) (r:bN D (Yf F X D) h l xs)
def Be{X:gI}(m:gU F X D σ h)(e:J0 σ v=aG l)(r:fW D (Yf F X D) h v u):GL F X D h l u:=by
 cases v<;>simp only [J0]at e<;>first|cases e|skip
 .obtain ⟨a,xs,rfl,_,⟨k,b⟩,y⟩:=r;exact ⟨a,xs,k,rfl,b,y⟩
 .rename_i i;obtain ⟨a,rfl,g⟩:=r
  cases d:lk σ.cells i with
  |none=>rw [d]at e;exact gG e
  |some c=>
   rw [d]at e
   cases c with
   |list l'=>refine pH e ?_;rintro rfl;obtain ⟨j,f,xs,⟨k,b⟩,y⟩:=m.cel i _ d;rw [g]at f;refine pH f ?_;rintro rfl;exact ⟨a,xs,k,rfl,b,y⟩
   |dict _ _=>(exact gG e)
   |attrs _=>(exact gG e)
   |mat _=>(exact gG e)
def wR{X:gI}(m:gU F X D σ h)(c:h.get? a=aH)(d:∀b o,h.get? b=aG o->h'.get? b=aG o)(f:∃k,IsL h' a (bC xs) k)(r:bN D (Yf F X D) h l xs):fW D (Yf F X D) h' (.lst l) (.ref a):=by
 refine ⟨a,xs,rfl,λq=>?_,f,bN.step (λb o e _=>d b o e) (λ_ _ e=>e) (λ_ e=>.inl e) _ _ r⟩;rcases q with q|q|⟨i,q⟩
 .exact ((m.zfr a q).2).no c
 .exact (m.xal a q).no c
 .exact ((m.sep i a q).h).no c
def O7{X:gI}(m:gU F X D σ h)(c:h.get? a=aH)(d:∀b o,h.get? b=aG o->h'.get? b=aG o)(f:∃k,IsT h' a (bC xs) k)(r:bN D (Yf F X D) h l xs):fW D (Yf F X D) h' (.tup l) (.ref a):=by
 refine ⟨a,xs,rfl,λq=>?_,f,bN.step (λb o e _=>d b o e) (λ_ _ e=>e) (λ_ e=>.inl e) _ _ r⟩;rcases q with q|q|⟨i,q⟩
 .exact ((m.zfr a q).2).no c
 .exact (m.xal a q).no c
 .exact ((m.sep i a q).h).no c
def NI(e:J0 σ a=aG l)(f:J0 σ b=aG l')(g:aC l+aC l'<=iF)(q:Q (.lst (l++l')) σ):TW rV n F [a,b] (En (binaryOp .Add)) σ Q:=oV λA X D h tk u v ok m i j=>by obtain ⟨x,xs,k,rfl,o,c⟩:=Be m e i;obtain ⟨y,p,s,rfl,r,d⟩:=Be m f j;refine P.add_list o r ⟨_,tk,D,σ,.lst (l++l'),rfl,mZ.grow (cY _ _),m.grow (cY _ _),?_,q⟩ (by simpa [c.length,d.length]using g);refine wR m (eE _) (cY _ _) ⟨0,?_⟩ (c.append d);have:=A9 h (xs.toArray++p.toArray);simpa using this
def ND(d:J0 σ a=aG l)(b:aC l<=iF)(q:Q (.int (aC l)) σ):TW rV n F [a] (one λu=>call (.builtin "len") [u]) σ Q:=XY λA X D h tk u ok m e=>by obtain ⟨x,xs,k,rfl,f,c⟩:=Be m d e;refine aE0 f.isList (by simp [c.length];rw [nQ]at b;exact aT 0xc636c6318c6318c6318c6318c6318c1d07a8138c6318c6307001 b) (fS m ?_ q);rw [show ((bC xs).size:Int)=(aC l:Int) by simp [c.length]];exact jX
end
end
section
set_option backward.match.sparseCases false
section
def AM(n:Nat)(F:Fx)(ap:ķ)(es:List Expr)(σ:St)(Q:cA->gZ):Prop:=TW rVs n F [] (λ_=>spliced (backTo ap (eD es F.env))) σ Q
def PW(n:Nat)(F:Fx)(e:Option Expr)(σ:St)(Q:Option Int->gZ):Prop:=match e with
 |aH=>Q aH σ
 |some e=>EW n F e σ λv σ₁=>∃i,v=.int i/\Q (aG i) σ₁
end
noncomputable def K6(lo:Option Int)(n:Nat):Nat:=match lo with
 |aH=>0
 |some i=>(max 0 (min (if i<0 then i+n else i) n)).toNat
noncomputable def Xi(hi:Option Int)(n:Nat):Nat:=match hi with
 |aH=>n
 |some i=>(max 0 (min (if i<0 then i+n else i) n)).toNat
def pySl{α:Type}(l:List α)(lo hi:Option Int):List α:=(l.drop (K6 lo (aC l))).take (Xi hi (aC l)-K6 lo (aC l))
def Gn(xs:eW)(lo hi:Option Int):slicePick (bC xs) lo hi aH=(pySl xs lo hi).toArray:=by
 unfold slicePick pySl;have e:sliceBounds lo hi aH (bC xs).size=(((K6 lo (aC xs):Nat):Int),((Xi hi (aC xs):Nat):Int),(1:Int)):=by simp only [sliceBounds,Option.getD_none,K6,Xi,mN];cases lo<;>cases hi<;>simp<;>lia
 rw [e];dsimp only;rw [sliceRange_one]
 congr 1
 have:=pick_run (bC xs) (K6 lo (aC xs)) (Xi hi (aC xs)-K6 lo (aC xs));simpa using this
section
variable{n:Nat}{F:Fx}{σ:St}{Q:V->gZ}
def ë{Q:cA->gZ}(q:Q [] σ):AM n F a [] σ Q:=λA X D h tk vs ok m _=>Uw ⟨h,tk,D,σ,[],rfl,.refl,m,bN.nil,q⟩
def RC{Q:cA->gZ}(g:eD (e::es) F.env=(bR,eval e F.env)::eD es F.env)(x:EW n F e σ λv σ₁=>AM n F i es σ₁ λvs c=>Q (v::vs) c):AM n F i (e::es) σ Q:=λA X D h tk vs ok m _=>by refine B7 (x.at ok m bN.nil λa h₁ y D₁ σ₁ u j d k l=>?_) g;refine TW.at l ok d bN.nil λb o p D₂ c us f r s t=>?_;exact ⟨o,p,D₂,c,u::us,rfl,j.trans f,r,.cons (k.on d f) s,t⟩
def IE(x:AM n F e es σ λvs σ₁=>aC vs<=iF/\Q (.tup vs) σ₁):EW n F (.Tuple es k e) σ Q:=λA X D h tk vs ok m _=>by refine wpAny_Tuple (TW.at x ok m bN.nil λb h₁ f D₁ σ₁ us g a c d=>?_);refine ⟨by rw [bN.length c];exact d.1,_,f,D₁,σ₁,.tup us,rfl,g.trans (mZ.grow (cY _ _)),a.grow (cY _ _),?_,d.2⟩;exact O7 a (eE _) (cY _ _) ⟨0,IsT.new _ _⟩ c
def QX(x:AM n F e es σ λvs σ₁=>aC vs<=iF/\Q (.lst vs) σ₁):EW n F (.List es e) σ Q:=λA X D h tk vs ok m _=>by refine wpAny_List (TW.at x ok m bN.nil λb h₁ f D₁ σ₁ us g a c d=>?_);refine ⟨by rw [bN.length c];exact d.1,_,f,D₁,σ₁,.lst us,rfl,g.trans (mZ.grow (cY _ _)),a.grow (cY _ _),?_,d.2⟩;exact wR a (eE _) (cY _ _) ⟨0,A9 _ _⟩ c
def aCq{X:gI}(m:gU F X D σ h)(r:bN D (Yf F X D) h us xs)(q:Q (.ref σ.next) {σ with cells:=(σ.next,.list us)::σ.cells,next:=σ.next+1}):
  tG rV F X D h Q (.ref h.objs.size) (iZ (h.push {cls:=.type "list",data:=.seq (bC xs)}) tk):=by
 obtain ⟨a,st⟩:=m.cell (c:=.list us) (cY _ _) (eE _) ⟨_,cC _ rfl⟩ (λD' Y' _ b=>⟨xs,⟨0,A9 _ _⟩,b _ _ r⟩);exact ⟨_,tk,_,_,.ref σ.next,rfl,st,a,by exact ⟨_,rfl,by simp [fL,eP]⟩,q⟩
def IG(x:AM n F d es σ λvs σ₁=>aC vs<=iF/\Q (.ref σ₁.next) {σ₁ with cells:=(σ₁.next,.list vs)::σ₁.cells,next:=σ₁.next+1}):EW n F (.List es d) σ Q:=λA X D h tk vs ok m _=>by refine wpAny_List (TW.at x ok m bN.nil λb h₁ g D₁ σ₁ us e f a c=>?_);exact ⟨by rw [bN.length a];exact c.1,(aCq f a c.2).on e⟩
def å(x:EW n F value σ λo σ₁=>EW n F c σ₁ λi d=>TW rV n F [o,i] (En (subscriptTail value c)) d Q):EW n F (.Subscript value c B) σ Q:=λA X D h tk vs ok m _=>by refine Subscript_ (x.at ok m bN.nil λa h₁ C D₁ σ₁ u j f k l=>?_);refine l.at ok f bN.nil λb r s D₂ d v g t y z=>?_;exact bK (z A X D₂ r s [a,b] ok t (.cons (k.on f g) (.cons y .nil))) (λ_ _ p=>p.on (j.trans g)) λ_ _ e=>e
def NE(f:seqIndex? i (aC l)=aG k)(hd:l[k]?=aG d)(b: -2^63<=i/\i<2^63)(g:∀o i,subscripted j bR o i=operate [o,i] (getItem o i))(q:Q d σ):TW rV n F [.tup l,.int i] (En (subscriptTail value j)) σ Q:=oV λA X D h tk u v ok m p r=>by obtain ⟨a,xs,rfl,_,⟨z,c⟩,e⟩:=p;obtain ⟨t,rfl⟩:=r;obtain ⟨y,s,x⟩:=e.get hd;exact tail_any ⟨_,c,rfl⟩ PySem.F.slot_tuple_getitem.lookup (P.getItem_tuple c b.1 b.2 (by simpa [e.length]using f) (by simpa using s) (fS m x q)) (g _ _)
def Vu{X:gI}{K:pZ}{Q:Option Int->gZ}(x:PW n F e σ Q)(ok:wA n A)(m:gU F X D σ h)
  (k:∀a h₁ b D₁ σ₁ i,mZ F D h D₁ h₁->gU F X D₁ σ₁ h₁->IsPart a i->Q i σ₁->K a (iZ h₁ b)):bW iC A (evalPart e F.env) K (λ_ _=>False) (iZ h tk):=by
 cases e with
 |none=>exact ĳ (k _ h tk D σ _ .refl m .none x)
 |some e=>refine wpAny_evalPart_some (TW.at x ok m bN.nil λa h₁ b D₁ σ₁ u c d f g=>?_);obtain ⟨i,rfl,q⟩:=g;obtain ⟨t,rfl⟩:=f;exact k _ h₁ b D₁ σ₁ _ c d (.int i t) q
def Zw(σ:St):V->Option cA
 |.scr l=>aG l
 |v=>J0 σ v
inductive GS(F:Fx)(X:gI)(D:kP)(h:dF)(l:cA)(u:bL):Prop
 |mk (a:cR) (xs:eW) (e:u=.ref a) (p:h.IsList a (bC xs)) (r:bN D (Yf F X D) h l xs)
def T4{X:gI}(m:gU F X D σ h)(e:Zw σ v=aG l)(r:fW D (Yf F X D) h v u):GS F X D h l u:=by
 cases v with
 |scr l'=>simp only [Zw]at e;refine pH e ?_;rintro rfl;obtain ⟨a,xs,rfl,_,b,y⟩:=r;exact ⟨a,xs,rfl,b,y⟩
 |_=>simp only [Zw]at e;obtain ⟨a,xs,k,rfl,c,d⟩:=Be m e r;exact ⟨a,xs,rfl,c.isList,d⟩
def bN.pySl{Y:gI}(r:bN D Y h l xs)(lo hi:Option Int):bN D Y h (pySl l lo hi) (pySl xs lo hi):=by unfold Mine.pySl;rw [r.length];exact bN.take _ (bN.drop _ r)
def IF(x:EW n F value σ λo σ₁=>PW n F lower σ₁ λlo j=>PW n F upper j λhi d=>∃l,Zw d o=aG l/\aC l<=iF/\Q (.lst (pySl l lo hi)) d):
  EW n F (.Subscript value (.Slice lower upper aH p) R) σ Q:=λA X D h tk vs ok m _=>by
 refine Subscript_ (x.at ok m bN.nil λa h₁ T D₁ σ₁ u z k B C=>wpAny_Slice ?_);refine Vu C ok k λf W Y D₂ j lo r s pl G=>?_;refine Vu G ok s λg c H D₃ d hi t i I J=>ĳ ?_;obtain ⟨l,L,N,q⟩:=J;have O:=(fW.on k r B).on s t;obtain ⟨b,xs,rfl,P,v⟩:=T4 i L O;have y:=P.push {cls:=.type "slice",data:=.fields #[f,g,.none]};refine tail_any y.typeIs list_getitem_lookup (wpAny_getItem_list_slice y (aB7 ..) pl I .none (by simp) ?_ (by simpa [v.length]using N)) rfl;have k1:∀b o,c.get? b=aG o->((c.push {cls:=.type "slice",data:=.fields #[f,g,.none]}).push {cls:=.type "list",data:=.seq (slicePick (bC xs) lo hi aH)}).get? b=aG o:=λb o e=>cY _ _ _ _ (cY _ _ _ _ e);refine ⟨_,H,D₃,d,.lst (pySl l lo hi),rfl,((z.trans r).trans t).trans (mZ.grow k1),i.grow k1,?_,q⟩;refine wR i ?_ k1 ⟨0,?_⟩ (v.pySl lo hi)
 .cases e:c.get? (c.push {cls:=.type "slice",data:=.fields #[f,g,.none]}).objs.size with
  |none=>rfl
  |some o=>exact absurd (dW e) (by rw [eY];exact lU.mpr (jW _))
 .have:=A9 (c.push {cls:=.type "slice",data:=.fields #[f,g,.none]}) (slicePick (bC xs) lo hi aH);rw [Gn]at this⊢;exact this
def NH(c:b≠0)(d:uG a b=bR)(q:Q (.int (a.fdiv b)) σ):TW rV n F [.int a,.int b] (En (binaryOp .FloorDiv)) σ Q:=oV λA X D h tk u v ok m e f=>by obtain ⟨t,rfl⟩:=e;obtain ⟨g,rfl⟩:=f;exact floordiv_int c (fS m jX q) (.inl d)
end
end
noncomputable def Ri(id:String)(vs:eW):Ag bL:=call (.builtin id) vs
def aBs(σ:St)(u:V)(T:String):Prop:=∀(F:Fx)(X:gI)(D:kP)(h:dF)(v:bL),gU F X D σ h->fW D (Yf F X D) h u v->∃a o,v=.ref a/\h.get? a=aG o/\o.cls=.type T/\o.dict=aH
def Y8(e:J0 σ u=aG l):aBs σ u "list":=λF X D h v m r=>by obtain ⟨a,xs,k,rfl,b,c⟩:=Be m e r;exact ⟨a,_,rfl,b,rfl,rfl⟩
def nJ(F:Fx):List Expr->Prop
 |[]=>True
 |e::es=>eD (e::es) F.env=(bR,eval e F.env)::eD es F.env/\nJ F es
section
variable{n:Nat}{F:Fx}{σ:St}{Q:V->gZ}
def mD:∀{es:List Expr},nJ F es->(backTo a (eD es F.env)).any (·.1)=false:=by
 intro z1
 induction z1 with
 |nil=>intro _;exact rfl
 |cons e es z4=>intro h;rw [h.1];show (bR|| (backTo a (eD es F.env)).any (·.1))=bR;rw [z4 h.2];rfl
def rL{X:gI}{K:Args->qR}{Q:cA->gZ}(j:nJ F es)(x:AM n F b es σ Q)(ok:wA n A)(m:gU F X D σ h)
  (k:∀vs h₁ a D₁ σ₁ us,mZ F D h D₁ h₁->gU F X D₁ σ₁ h₁->bN D₁ (Yf F X D₁) h₁ us vs->Q us σ₁->K ⟨vs,[]⟩ (iZ h₁ a)):bW iC A (evalArgs f aU (backTo b (eD es F.env)) []) K (λ_ _=>False) (iZ h tk):=by
 cases es with
 |nil=>unfold evalArgs;refine aK (TW.at (t:=λ_=>spliced (backTo b (eD [] F.env))) x ok m bN.nil λvs h₁ a D₁ σ₁ us c d g i=>aK (aW (cJ ?_)));exact aK (aW (aK (aW (aW (k vs h₁ a D₁ σ₁ us c d g i)))))
 |cons e es=>
  have o:=λvs=>x A X D h tk vs ok m;have l:backTo b (eD (e::es) F.env)=(bR,eval e F.env)::backTo b (eD es F.env):=by rw [j.1];rfl
  unfold AM at x;simp only [l]at x⊢;exact Calls.evalArgs_plain (TW.at x ok m bN.nil λvs h₁ a D₁ σ₁ us c d g i=>k vs h₁ a D₁ σ₁ us c d g i)
def Nl{o:Expr}{name:iS}{d c:ķ}{args:List Expr}{pl:Ag Bool}{T id:String}(slot:Ĕ T name id)(v:typeOf (.builtin id)=pure (.type "method_descriptor"))(y:Z7 T)
  (z:eval (.Call (.Attribute o name d) args [] c) F.env=(do
   let i<-eval o F.env
   gB d.atName
   let (f,first)<-holding [i] (getMethod i name pl)
   kY c f first (backTo c (eD args F.env)) []))
  (j:nJ F args)
  (x:EW n F o σ λu σ₁=>aBs σ₁ u T/\AM n F c args σ₁ λus k=>TW rV n F (u::us) (Ri id) k Q):EW n F (.Call (.Attribute o name d) args [] c) σ Q:=λA X D h tk vs ok m _=>by
 refine Sf (x.at ok m bN.nil λa h₁ N D₁ σ₁ u B g l r=>?_) z;obtain ⟨b,ob,rfl,s,C,hd⟩:=r.1 F X D₁ h₁ a g l;refine getMethod_builtin ⟨_,s,C⟩ y slot v (λa e=>by cases e;exact ⟨_,s,hd⟩) ?_;refine sM (mD j) (rL j r.2 ok g λus G H D₂ k ds t I J L=>?_);exact bK (L A X D₂ G H (.ref b::us) ok I (.cons (fW.on g t l) J)) (λ_ _ p=>p.on (B.trans t)) λ_ _ e=>e
inductive CL(F:Fx)(X:gI)(D:kP)(h:dF)(i:Nat)(l:cA)(u:bL):Prop
 |mk (a:cR) (xs:eW) (k:Nat) (e:u=.ref a) (d:lk D i=aG a) (p:IsL h a (bC xs) k) (r:bN D (Yf F X D) h l xs)
def K7{X:gI}(m:gU F X D σ h)(e:lk σ.cells i=aG (.list l))(r:fW D (Yf F X D) h (.ref i) u):CL F X D h i l u:=by obtain ⟨a,rfl,b⟩:=r;obtain ⟨f,c,xs,⟨k,d⟩,y⟩:=m.cel i _ e;rw [b]at c;refine pH c ?_;rintro rfl;exact ⟨a,xs,k,rfl,b,d,y⟩
def Vh{X:gI}{f:Array bL->Array bL}(fk:hO F)(m:gU F X D σ h)(l:lk D i=aG a)(p:IsL h a (bC xs) k)(s:f (bC xs)=bC j)(r:bN D (Yf F X D) h l' j)(rv:fW D (Yf F X D) h d v)
  (q:Q d {σ with cells:=put i (.list l') σ.cells}):tG rV F X D h Q v (iZ (h.update a (iX f)) tk):=by
 have g:=p.update f;obtain ⟨t,st⟩:=m.turn (c:=.list l') fk l (λb o u e=>(gD h _ (vG u)).trans e) ⟨_,g⟩ (λY' _ x=>⟨j,⟨_,by rw [s]at g;exact g⟩,x _ _ r⟩);exact ⟨_,tk,D,_,d,rfl,st,t,fW.on m st rv,q⟩
def Yc(fk:hO F)(e:lk σ.cells i=aG (.list l))(f:aC l<=iF)(q:Q .none {σ with cells:=put i (.list (l++[d])) σ.cells}):TW rV n F [.ref i,d] (Ri "list.append") σ Q:=λA X D h tk vs ok m r=>by simp only [rN,rM]at r;obtain ⟨u,p,rfl,g,v,s,rfl,j,rfl⟩:=r;obtain ⟨a,xs,k,rfl,o,b,c⟩:=K7 m e g;refine call_meets qN ⟨_,b,rfl⟩ Ld (J6 _ _) (LK a (bC xs) k v (by simpa [c.length]using f)) ⟨b,?_⟩;exact Vh fk m o b (by simp) (c.append (.cons j .nil)) Gw q
def YY(fk:hO F)(e:lk σ.cells i=aG (.list (l++[d])))(g:aC l<iF)(q:Q d {σ with cells:=put i (.list l) σ.cells}):TW rV n F [.ref i] (Ri "list.pop") σ Q:=λA X D h tk vs ok m r=>by
 simp only [rN,rM]at r;obtain ⟨u,v,rfl,j,rfl⟩:=r;obtain ⟨a,xs,k,rfl,o,c,f⟩:=K7 m e j;obtain ⟨y,p,s⟩:=f.get (i:=aC l) (d:=d) (by simp);have b:aC xs=aC l+1:=by simpa using f.length
 refine call_meets Ah ⟨_,c,rfl⟩ R1 (PySem.F.args_list_pop_1 _) (MeetsSeq.list_pop_last a (bC xs) k y (by simpa [b]using p) (by simp [b];exact aT 0x318a42838141002 g)) ⟨c,?_⟩;have t:bN D (Yf F X D) h l (xs.take (aC l)):=by have:=bN.take (aC l) f;simpa using this
 refine Vh fk m o c ?_ t s q;have:(bC xs).size-1=aC l:=by simp [b]
 rw [this];apply Array.ext';rw [Array.toList_eraseIdxIfInBounds];simp [List.eraseIdx_eq_take_drop_succ,Xq (oQ b)]
end
def gU.leave{F:Fx}{X:gI}{N:List cR}{D:kP}{σ:St}{h h':dF}(fk:hO F)(m:gU F (gR N X) D σ h)(j:∀a∈N,a∉F.Z)(A:∀a∈N,F.B.1.get? a=aH)(C:∀a∈N,¬X a)(f:∀b o,b∉N->h.get? b=aG o->h'.get? b=aG o):gU F X D σ h':=by
 have t:∀b∈N,Yf F (gR N X) D b:=λb q=>.inr (.inl (jR q));have y:∀a,Yf F X D a->Yf F (gR N X) D a\/h.get? a=aH:=λ_ e=>.inl (AY e);have z:∀d v,fW D (Yf F (gR N X) D) h d v->fW D (Yf F X D) h' d v:=λd v=>fW.step (λb o e l=>f b o (λq=>l (t b q)) e) (λ_ _ e=>e) y d v;refine ⟨λb o e=>f b o (λq=>by replace e:=(A b q)▸e;exact gG e) (m.fb b o e),λx v e=>?_,λx p s e=>(m.frm x p s e).keep λo=>f _ o (λq=>j _ q (fk.inZ x p s e)),λn c e=>?_,m.inj,λn a e=>?_,λa e=>?_,λa e=>?_⟩
 .obtain ⟨p,s,u,i,r,G⟩:=m.loc x v e;exact ⟨p,s,u,i,r.keep λo=>f _ o (λq=>j _ q (fk.inZ x p s i)),z _ _ G⟩
 .obtain ⟨a,i,r⟩:=m.cel n c e;exact ⟨a,i,r.on z (λd v=>bN.step (λb o e l=>f b o (λq=>l (t b q)) e) (λ_ _ e=>e) y d v) λo=>f _ o (λq=>(m.sep n a i).x (jR q))⟩
 .obtain ⟨a1,g,H,⟨o,I⟩,J⟩:=m.sep n a e;exact ⟨a1,λq=>g (jQ q),H,⟨o,f a o (λq=>g (jR q)) I⟩,J⟩
 .obtain ⟨a1,o,g⟩:=m.zfr a e;exact ⟨a1,o,f a o (λq=>j a q e) g⟩
 .obtain ⟨o,g⟩:=m.xal a (jQ e);exact ⟨o,f a o (λq=>C a q e) g⟩
noncomputable def xA:List String:=["enumerate","zip","dict_itemiterator","dict_reverseitemiterator","odict_iterator","itertools.zip_longest","itertools.pairwise"]
def Hf{M:I8}{A:jY}{E:pZ}{s:cS}{b:Expr}{I:cR}{o:qY}{T:String}{v:bL}{Q:Unit->qR}(d:s.heap.get? I=aG o)(e:o.cls=.type T)(f:xA.contains T=bR)(q:Q () s):bW M A (iH b (.ref I) v) Q E s:=by
 have c:bW M A (do
   let o<-load I
   match o.cls,o.data with
   |.type n,.fields vs=>
    if xA.contains n&&vs[0]?==aG (rawInt (match v with|.ref a=>a|_=>0))then
     rule "for.unpacks-the-owned-tuple"
     updateField I 0 .none
   |_,_=>pure ()) Q E s:=by
  refine aK (J5 d (e▸?_));cases o.data<;>first|exact aW q|skip
  dsimp only;exact f▸(aW q)
 cases b<;>first|exact aW q|skip
 .cases v<;>first|exact aW q|exact c
 .cases v<;>first|exact aW q|exact c
section
variable{k n:Nat}{F:Fx}{σ:St}{Q:Fl->gZ}
def QE{s:iS}{a:ķ}{x:Nat}{p:qM}{v:V}{Q:gZ}(fk:hO F)(b:lk F.bnd x=aG (p,s))(c:AI F.env p s)(q:Q {σ with loc:=put x v σ.loc}):GW n F (.Name s a) v σ Q:=λA X D h tk u ok m r=>by refine pI (wP fk m b c r λh' d e f=>?_);exact ⟨h',d,D,_,(),rfl,f,e,trivial,q⟩
def SL(k:Nat)(Q:Fl->gZ)(J:gZ):Fl->gZ:=λf be=>match f with
 |.next=>∃cn,Wk k be cn/\J cn
 |.cont=>∃cn,Wk k be cn/\J cn
 |.brk=>Q .next be
 |.ret v=>Q (.ret v) be
inductive Ut(F:Fx)(X:gI)(k:Nat)(D:kP)(h₀:dF)(I:List cR)(N:Nat)(Sx:Nat->dF->Prop)(J:Nat->gZ)(j:Nat)(s':cS):Prop
 |mk (i:Nat) (h':dF) (aw:Nat) (D':kP) (σ':St) (ej:j=N+1-i) (hi:i<=N) (e:s'=iZ h' aw) (st:yZ F k D h₀ D' h') (m:gU F (gR I X) D' σ' h') (sx:Sx i h') (hJ:J i σ'):Ut F X k D h₀ I N Sx J j s'
@[elab_as_elim] theorem Ut.el {X:gI} {D:kP} {h₀:dF} {I:List cR} {N:Nat} {Sx:Nat->dF->Prop} {J:Nat->gZ} {P:Nat->qR} (b:Ut F X k D h₀ I N Sx J j c) (z:∀i h' a D' σ',i<=N->yZ F k D h₀ D' h'->gU F (gR I X) D' σ' h'->Sx i h'->J i σ'->P (N+1-i) (iZ h' a)):P j c:=by obtain ⟨i,h',a,D',σ',d,e,f,st,m,g,h⟩:=b;exact d▸f▸z i h' a D' σ' e st m g h
theorem Pq{X:gI}{D D₅:kP}{h₀ c:dF}{d:Nat}{Ns:List cR}{N i:Nat}{Sx:Nat->dF->Prop}{J:Nat->gZ}{g:St}{f:Flow}{f':Fl}(fk:hO F)(p:∀a∈Ns,a∉F.Z)(s:∀a∈Ns,F.B.1.get? a=aH)(t:∀a∈Ns,¬X a)
  (st:yZ F k D h₀ D₅ c) (m:gU F (gR Ns X) D₅ g c) (r:rF D₅ (Yf F (gR Ns X) D₅) c f' f) (q:SL k Q (J (i+1)) f' g) (lt:i<N) (u:Sx (i+1) c):
  match f with
  |.next|.cont=>∃m,m<N+1-i/\Ut F X k D h₀ Ns N Sx J m (iZ c d)
  |.brk=>tZ rF F X k D h₀ Q .next (iZ c d)
  |.ret v=>tZ rF F X k D h₀ Q (.ret v) (iZ c d):=by
 have l:=m.leave fk p s t (λb o _ e=>e);have again:(∃h,Wk k g h/\J (i+1) h)->∃m,m<N+1-i/\Ut F X k D h₀ Ns N Sx J m (iZ c d):=by rintro ⟨h,wk,j⟩;refine nn λx=>?_;obtain ⟨D₄,y,z,A⟩:=wk F (gR Ns X) D₅ c fk m;exact x (⟨N+1-(i+1),qU (WX lt) (gS i),i+1,c,d,D₄,h,rfl,lt,rfl,st.trans ⟨λ_ _ e _ _=>e,z,λn a e=>.inl (A n a e),λ_ o e=>⟨o,e⟩⟩,y,u,j⟩)
 cases r
 .exact again q
 .exact ⟨c,d,D₅,g,.next,rfl,st,l,Iy.next,q⟩
 .exact again q
 .refine ⟨c,d,D₅,g,.ret _,rfl,st,l,.ret (fW.step (λb o e _=>e) (λ_ _ e=>e) (λa e=>?_) _ _ ‹_›),q⟩;rcases e with q|q|q
  .exact .inl (.inl q)
  .exact .inl (.inr (.inl (jQ q)))
  .exact .inl (.inr (.inr q))
def HY{A:jY}{X:gI}{D:kP}{h₀ h:dF}{tk:Nat}{Y:Expr}{body:List tR}{I:cR}{Z:List cR}{N:Nat}{P:Nat->bL->Prop}{Sx:Nat->dF->Prop}{ds:Nat->V}{T:String}
  (fk:hO F) (ok:wA n A) (W:Walks prog w A I Z [I] N P Sx) (u:∀i h,Sx i h->∃o,h.get? I=aG o/\o.cls=.type T) (hT:xA.contains T=bR)
  (m:gU F X D σ h₀) (y:∀b o,h₀.get? b=aG o->h.get? b=aG o) (d:h₀.get? I=aH) (fj:Sx 0 h)
  (jy:∀b∈Z,b=I\/(b∉F.Z/\(∀i,lk D i≠aG b)/\tI h₀ b))
  (hP:∀i v h' D',i<N->P i v->yZ F k D h₀ D' h'->fW D' (Yf F (gR [I] X) D') h' (ds i) v)
  (J:Nat->gZ) (hJ:J 0 σ)
  (ec:∀i σ',i<N->J i σ'->GW n F Y (ds i) σ' λσ₁=>SW k n F body σ₁ (SL k Q (J (i+1))))
  (done:∀σ',J N σ'->Q .next σ'):
  jC (model prog w) A (.forLoop Y (.ref I) body [] F.env) (λr B=>match r with|.ok f=>tZ rF F X k D h₀ Q f B|.error e=>cameBackBy (model prog w) A F.env (λ_ _=>False) e B) (iZ h tk):=by
 have s:I∉F.Z:=λz=>((m.zfr I z).2).no d;have n7:¬X I:=λz=>(m.xal I z).no d;have C:F.B.1.get? I=aH:=by
  cases q:F.B.1.get? I with
  |none=>rfl
  |some o=>rw [m.fb I o q]at d;exact De d
 have t:∀b o,h₀.get? b=aG o->b∉[I]:=λb o e q=>gG (d.symm.trans ((aM.mp q)▸e));have m1:=m.addX y λa l=>by refine (aM.mp l).symm▸⟨d,?_⟩;exact let ⟨o,e,_⟩:=u 0 h fj;⟨o,e⟩
 refine I1 (Ut F X k D h₀ [I] N Sx J) (λj B hs=>?_) (N+1)
  ⟨0,h,tk,D,σ,rfl,bI _,rfl,⟨λb o e _ _=>y b o e,λ_ _ _ e=>e,λ_ _ e=>.inl e,λb o e=>⟨o,y b o e⟩⟩,m1,fj,hJ⟩
 refine hs.el λi h' aw D' σ' hi st G sx tm=>?_;rcases kL i N with lt|ge
 .refine W.item i _ _ _ lt sx λv h₁ H tn L c=>?_;have ah:=G.turnX fk (λa l=>jR l) (Dx s) (Dx C) c (λa l=>by refine (aM.mp l)▸?_;obtain ⟨o,e,_⟩:=u _ _ L;exact ⟨o,e⟩);have ar:yZ F k D h₀ D' h₁:=⟨λb o e O hd=>c b o (t b o e) (st.keep b o e O hd),st.ext,st.new,λb o e=>by obtain ⟨g,R⟩:=st.al b o e;exact ⟨g,c b g (t b o e) R⟩⟩;obtain ⟨oI,eI,cI⟩:=u _ _ L;refine Hf eI cI hT (bK ((ec i σ' lt tm) A (gR [I] X) D' h₁ H v ok ah (hP i v h₁ D' lt tn ar)) (λ_ g4 p=>?_) λ_ _ x=>x.elim);refine p.el λbk br D₂ be _ bn c7 _ f6=>?_;refine bK (f6 A (gR [I] X) D₂ bk br ok c7) (λf tf p=>?_) λ_ _ x=>x.elim;obtain ⟨bf,c8,D₃,cn,f',rfl,fh,fc,jo,je⟩:=p;have jv:=(bn.toK k).trans fh;have o5:∀i a,lk D' i=aG a->a≠I:=λj a e q=>(G.sep j a e).x (jR (by simp [q]));have xr:=W.frame _ _ _ L λb hb o e=>by
   refine jv.keep b o e ?_ ?_
   .rcases jy b hb with q|⟨z,_,_⟩
    .exact q.symm▸s
    .exact z
   .intro j ej;rcases jy b hb with q|⟨_,z2,g,z3⟩
    .exact o5 j b ej q
    .rcases st.new j b ej with q|q
     .exact z2 j q
     .exact De (z3.symm.trans q)
  exact Pq fk (Dx s) (Dx C) (Dx n7) (ar.trans jv) fc jo je lt xr
 .have q:=gO hi ge;refine W.done _ _ _ (q▸sx) λh₁ H c=>xK ?_;refine ⟨h₁,H,D',σ',.next,rfl,⟨λb o e O hd=>c b o (t b o e) (st.keep b o e O hd),st.ext,st.new,λb o e=>?_⟩,(G.leave fk (Dx s) (Dx C) (Dx n7) c),Iy.next,done σ' (q▸tm)⟩;obtain ⟨g,R⟩:=st.al b o e;exact ⟨g,c b g (t b o e) R⟩
end
section
set_option backward.match.sparseCases false
def qS{α β:Type}(g:α->Option β):List α->Option (List β)
 |[]=>aG []
 |a::l=>ob (g a) λb=>ob (qS g l) λr=>aG (b::r)
def Cq{a b:Type}{g:a->Option b}:qS g []=(aG []):=rfl
def At{c d:Type}{g:c->Option d}{a l}:qS g (a::l)=(ob (g a) λb=>ob (qS g l) λr=>aG (b::r)):=rfl
inductive aBm{α β:Type}(g:α->Option β)(a:α)(l:List α)(l':List β):Prop
 |mk (b:β) (r:List β) (e1:g a=aG b) (e2:qS g l=aG r) (e:l'=b::r)
def Kl{c d:Type}{g:c->Option d}{a:c}{l:List c}{l':List d}(e:qS g (a::l)=aG l'):aBm g a l l':=by obtain ⟨b,f,e⟩:=dS e;obtain ⟨r,h,e⟩:=dS e;exact ⟨b,r,f,h,(eR e).symm⟩
inductive FnR(Y:gI)(h:dF)(P:V->Prop)(v:bL)(s':cS):Prop
 |mk (h':dF) (aw:Nat) (r:V) (e:s'=iZ h' aw) (k:∀b o,h.get? b=aG o->h'.get? b=aG o) (p:r.pure=aU) (l:fW [] Y h' r v) (q:P r):FnR Y h P v s'
def FnR.el{Y:gI}{h:dF}{P:V->Prop}{v:bL}{c:cS}{P0:qR}(a:FnR Y h P v c)(z:∀(h':dF)(d:Nat)(r:V)(k:∀b o,h.get? b=aG o->h'.get? b=aG o)(p:r.pure=aU)(l:fW [] Y h' r v)(q:P r),P0 (iZ h' d)):P0 c:=by obtain ⟨e,f,g,i,j,a,m,s⟩:=a;exact i▸z e f g j a m s
def Xn(n:Nat)(f:bL)(ds:cA)(P:V->Prop):Prop:=
 ∀A (Y:gI) h tk vs,wA n A->(∀b o,S.heap.get? b=aG o->h.get? b=aG o)->(∀a,Y a->tI h a)->bN [] Y h ds vs->
  bW iC A (call f vs) (FnR Y h P) (λ_ _=>False) (iZ h tk)
section
variable{n:Nat}{F:Fx}{σ:St}{Q:V->gZ}
def ņ{P:V->Prop}(j:dH ds=aU)(c:Xn n f ds P)(q:∀r,r.pure=aU->P r->Q r σ):TW rV n F ds (λvs=>call f vs) σ Q:=λA X D h tk vs ok m r=>by
 refine bK (c A (Yf F X D) h tk vs ok m.base (λa k=>?_) (bN.stepP (λ_ _ e _=>e) (λ_ e=>.inl e) _ _ j r)) (λv t p=>?_) λ_ _ e=>e
 .rcases k with z|z|⟨i,z⟩
  .exact (m.zfr a z).2
  .exact m.xal a z
  .exact (m.sep i a z).h
 .obtain ⟨h',l,b,rfl,d,g,o,s⟩:=p;exact ⟨h',l,D,σ,b,rfl,mZ.grow d,m.grow d,fW.stepP (λ_ _ e _=>e) (λ_ e=>.inl e) _ _ g o,q b g s⟩
noncomputable def Vp(L:cR)(names:List (iS×sK))(s:iS):qM:=match names.lookup s with
 |some .cell=>.cel (((nD (L+1) names []).lookup s).getD 0)
 |_=>.loc L
noncomputable def Yk(L:cR)(names:List (iS×sK)):Nat->lT->List (Nat×qM×iS)
 |_,[]=>[]
 |i,s::r=>(i,Vp L names s,s)::Yk L names (i+1) r
def Tf:Yk L names a []=([]):=rfl
def Te:Yk L names i (s::r)=((i,Vp L names s,s)::Yk L names (i+1) r):=rfl
def vH(fd:sL)(L a:cR)(tab:lT):Fx where
 env:=callEnvC fd L a
 bnd:=Yk L fd.scope.names 0 tab
 Z:=L::(Yk L fd.scope.names 0 tab).map λx=>x.2.1.adr
def Mk:∀{tab:lT}{i:Nat},lk (Yk L names i tab) x=aG (p,s)->i<=x/\tab[x-i]?=aG s/\p=Vp L names s:=by
 intro z1
 induction z1 with
 |nil=>intro i;intro e;simp [Tf,Te,fL,eP]at e
 |cons t tab z4=>
  intro i;intro e;dsimp only [Tf,Te,fL,eP]at e;by_cases h:x=i
  .rw [if_pos h]at e;refine Ck e ?_;rintro rfl rfl;subst h;simp
  .rw [if_neg h]at e;obtain ⟨a,b,c⟩:=z4 e;refine ⟨aT Py a,?_,c⟩;rw [show x-i=(x-(i+1))+1 by exact aT Ī a];exact b
end
end
theorem K9{a:iS->Option sK}:∀{b:List (iS×bL)}{m:iS->Option bL},s∉b.map (·.1)->bindL a b m s=m s
 |[],m,_=>rfl
 |(x,v)::r,m,h=>by
  simp only [cE,aR,not_or]at h;unfold bindL;rw [K9 h.2];split
  .exact if_neg h.1
  .rfl
theorem La{a:iS->Option sK}:∀{b:List (iS×bL)}{m:iS->Option bL},s∉b.map (·.1)->bindC a b m s=m s
 |[],m,_=>rfl
 |(x,v)::r,m,h=>by
  simp only [cE,aR,not_or]at h;unfold bindC;rw [La h.2];split
  .rfl
  .exact if_neg h.1
theorem Rn{c:iS->Option sK}(d:c s=aG .local):∀{b:List (iS×bL)}{m:iS->Option bL},(b.map (·.1)).Nodup->(s,v)∈b->bindL c b m s=aG v
 |(x,u)::r,m,a,f=>by
  simp only [cE,mL]at a;unfold bindL;rcases aR.mp f with e|e
  .refine Ō e ?_;rintro rfl rfl;rw [K9 a.1,if_pos d,if_pos rfl]
  .exact Rn d a.2 e
theorem Ro{c:iS->Option sK}(d:c s≠aG .local):∀{b:List (iS×bL)}{m:iS->Option bL},(b.map (·.1)).Nodup->(s,v)∈b->bindC c b m s=aG v
 |(x,u)::r,m,a,f=>by
  simp only [cE,mL]at a;unfold bindC;rcases aR.mp f with e|e
  .refine Ō e ?_;rintro rfl rfl;rw [La a.1,if_neg d,if_pos rfl]
  .exact Ro d a.2 e
noncomputable def yX:Nat->cA->tH
 |_,[]=>[]
 |i,d::r=>(i,d)::yX (i+1) r
def Wp:yX a []=([]):=rfl
def Wo:yX i (d::r)=((i,d)::yX (i+1) r):=rfl
theorem Wq:∀{ds:cA}{i:Nat},lk (yX i ds) x=aG v->i<=x/\ds[x-i]?=aG v
 |[],i,e=>by simp [Wp,Wo,fL,eP]at e
 |d::ds,i,e=>by
  simp only [Wp,Wo,fL,eP]at e;by_cases h:x=i
  .rw [if_pos h]at e;refine pH e ?_;rintro rfl;subst h;simp
  .rw [if_neg h]at e;obtain ⟨a,b⟩:=Wq e;refine ⟨aT Py a,?_⟩;rw [show x-i=(x-(i+1))+1 by exact aT Ī a];simpa using b
theorem Tg:∀{tab:lT}{i x:Nat},i<=x->tab[x-i]?=aG s->lk (Yk L names i tab) x=aG (Vp L names s,s)
 |[],i,x,_,e=>by simp at e
 |t::tab,i,x,a,e=>by
  simp only [Tf,Te,fL,eP];by_cases h:x=i
  .subst h;simp at e;simp [e]
  .rw [if_neg h];refine Tg (aT FA a h) ?_;rw [show x-i=(x-(i+1))+1 by exact aT aAd a h]at e;simpa using e
structure lH(fd:sL)(tab:lT):Prop where
 co:fd.scope.isCoroutine=bR
 gen:fd.scope.isGenerator=bR
 kind:fd.scope.kind=.function
 clo:fd.closure=[]
 nodup:tab.Nodup
 names:∀s∈tab,fd.scope.names.lookup s=aG .local\/(fd.scope.names.lookup s=aG .cell/\∀n,((nD n fd.scope.names []).lookup s).isSome=aU)
section
variable{fd:sL}{tab:lT}
def Rf(L:Nat)(names:List (iS×sK)):CellsOk (pushCells ⟨XF (L+1) {cls:=.none},{}⟩ names) (L+1) (nD (L+1) names []):=by have:=cellsFrom_ok names ⟨XF (L+1) {cls:=.none},{}⟩ (L+1) [] ⟨λ_ _ a=>(nomatch a),iU⟩ (by simp);simpa using this
def lH.fx(d:lH fd tab)(L a:cR):hO (vH fd L a tab)where
 kind:=d.kind
 inZ:=λx p s e=>aO _ (jJ.mpr ⟨_,Ms e,rfl⟩)
 dist:=λx y p s A g e h t=>by
  replace e:=Mk e;obtain ⟨_,i,rfl⟩:=e;replace h:=Mk h;obtain ⟨_,j,rfl⟩:=h;have u:=aJ i;have f:s≠g:=λq=>t (by subst q;have l1:=(cF.mp i).1;have:=(pG l1 d.nodup).mp (i.trans j.symm);exact aT 0x40208040040204595462b189600ccc614cc6002 this);have ok:=Rf L fd.scope.names;unfold Vp;rcases d.names s u with q|⟨q,k⟩<;>rcases d.names g (aJ j)with r|⟨r,l⟩<;>rw [q,r]
  .exact .inr ⟨L,rfl,rfl,f⟩
  .obtain ⟨c,b⟩:=eF.mp (l (L+1));refine .inl ?_;rw [b];have:=(ok.empty _ _ (mem_of_lookup b)).2;exact fI this
  .obtain ⟨c,b⟩:=eF.mp (k (L+1));refine .inl ?_;rw [b];have:=(ok.empty _ _ (mem_of_lookup b)).2;exact iT this
  .obtain ⟨c,b⟩:=eF.mp (k (L+1));obtain ⟨v,m⟩:=eF.mp (l (L+1));refine .inl ((?_:((nD (L+1) fd.scope.names []).lookup s).getD 0≠((nD (L+1) fd.scope.names []).lookup g).getD 0));rw [b,m];intro (z:c=v);exact f (name_of_addr ok.apart (mem_of_lookup b) (z▸mem_of_lookup m))
end
noncomputable def F0(env:ľ):Fx:={env:=env,bnd:=[],Z:=[]}
section
variable{n:Nat}{fd:sL}{tab:lT}{fa:cR}{o:qY}{body:List tR}{ds:cA}{P:V->Prop}
def A4{s:cS}{R:rR->qR}
  (g:A.depth<recursionLimit) (i:s.heap.get? a=aG o) (j:o.data=.func fd) (k:s.heap.NoLimit) (l:s.heap.CodeRec fd.code fd.qualname)
  (m:fd.body=.stmts body) (p:aB9 s fd ⟨r,[]⟩ binds) (t:fd.closure=[])
  (u:∀x∈binds,fd.scope.names.lookup x.1=aG .local\/(fd.scope.names.lookup x.1=aG .cell/\((nD (s.heap.objs.size+1) fd.scope.names []).lookup x.1).isSome=aU))
  (h:∀d,InCallC s (callEnvC fd s.heap.objs.size a).locals (bindL (callEnvC fd s.heap.objs.size a).kindOf binds λ_=>aH) (callEnvC fd s.heap.objs.size a).cells
    (bindC (callEnvC fd s.heap.objs.size a).kindOf binds λ_=>aH) d->
   bW iC (A.deeper (callEnvC fd s.heap.objs.size a)) (execs body (callEnvC fd s.heap.objs.size a)) (λf b=>R (.ok (.ret (match f with|.ret v=>v|_=>.none))) b)
    (λe b=>bW iC (A.deeper (callEnvC fd s.heap.objs.size a)) (leaving (callEnvC fd s.heap.objs.size a) e) (λ_ c=>R (.error e) c) (λy c=>R (.error y) c) b) d)
  (z:fd.scope.isCoroutine=bR) (B:fd.scope.isGenerator=bR) (C:fd.scope.kind=.function):
  jC iC A (.call (.ref a) ⟨r,[]⟩) R s:=by
 refine codeAny_call_function g i j z B m l (p _ _ _ _ (t▸(wpAny_newFunctionEnv_cells C u λenv D b x=>?_)));subst D;exact ⟨k.keeps x.toInCall.keep,codeAny_func (h b x)⟩
def Ud{Y:gI}{R:rR->qR}(d:lH fd tab)(ki:S.heap.get? fa=aG o)(dw:o.data=.func fd)(dp:S.heap.NoLimit)(jh:S.heap.CodeRec fd.code fd.qualname)(dz:fd.body=.stmts body)
  (dq:aB9 (iZ h tk) fd ⟨T,[]⟩ ((tab.take (aC ds)).zip vs)) (W:aC ds<=tab.length) (ok:wA (n+1) A) (F:gU (F0 env) Y D ⟨[],cs,nx⟩ h) (hr:bN D (Yf (F0 env) Y D) h ds vs)
  (k:∀h₁ X,(∀b o,h.get? b=aG o->h₁.get? b=aG o)->(∀a∈(vH fd h.objs.size fa tab).Z,h.get? a=aH)->gU (vH fd h.objs.size fa tab) Y D ⟨yX 0 ds,cs,nx⟩ h₁->wA n (A.deeper (vH fd h.objs.size fa tab).env)->
   bW iC (A.deeper (vH fd h.objs.size fa tab).env) (execs body (vH fd h.objs.size fa tab).env) (λf s'=>R (.ok (.ret (match f with|.ret v=>v|_=>.none))) s') (λ_ _=>False) (iZ h₁ X)):
  jC iC A (.call (.ref fa) ⟨T,[]⟩) R (iZ h tk):=by
 have G:=F.base;have Z:((tab.take (aC ds)).zip vs).map (·.1)=tab.take (aC ds):=by rw [List.map_fst_zip];simp only [zH,(hr.length)];exact aT 0x598c52104ce1002
 refine A4 (by have:=ok.dep;exact aT 0x6315080a1220838746003 this) (G _ _ ki) dw (dp.keeps G) (jh.keeps G) dz dq d.clo (λx m=>?_) (λft H=>?_) d.co d.gen d.kind
 .rcases d.names x.1 ((λx m=>AQ (Lg m).1:∀x∈(tab.take (aC ds)).zip vs,x.1∈tab) x m)with q|⟨q,I⟩
  .exact .inl q
  .exact .inr ⟨q,I _⟩
 .obtain ⟨h₁,X,e⟩:=H.toInCall.same;have y:∀b o,h.get? b=aG o->h₁.get? b=aG o:=λb o q=>by have:=H.toInCall.keep b o q;replace this:=e▸this;exact this
  have J:=H.toInCall.ns;replace J:=e▸J;have Q:=H.cell;replace Q:=e▸Q;have hL:=eE h;have dm:∀s∈tab,h.get? (Vp h.objs.size fd.scope.names s).adr=aH/\sX h₁ (Vp h.objs.size fd.scope.names s)/\tI h₁ (Vp h.objs.size fd.scope.names s).adr:=λs l=>by
   unfold Vp;rcases d.names s l with q|⟨q,I⟩<;>refine q▸?_
   .obtain ⟨g,es,ep,B,r⟩:=J;exact ⟨hL,⟨_,g,es,ep,B,r⟩,g,B⟩
   .obtain ⟨c,L⟩:=eF.mp (I (h.objs.size+1));refine (?_:h.get? (((nD (h.objs.size+1) fd.scope.names []).lookup s).getD 0)=_/\sX h₁ (.cel (((nD (h.objs.size+1) fd.scope.names []).lookup s).getD 0))/\tI h₁ (((nD (h.objs.size+1) fd.scope.names []).lookup s).getD 0));refine L▸?_;have qb:=L;have ic:=Q s c qb;refine ⟨?_,⟨_,ic⟩,let ⟨g,B,_⟩:=ic;⟨g,B⟩⟩
    cases q:h.get? c with
    |none=>exact q
    |some g=>exact absurd (dW q) (lU.mpr (iG ((H.above) s c (mem_of_lookup qb))))
  have N:∀a∈(vH fd h.objs.size fa tab).Z,h.get? a=aH/\tI h₁ a:=λa O=>by
   rcases aR.mp O with rfl|O
   .obtain ⟨g,_,_,B,_⟩:=J;exact ⟨hL,g,B⟩
   .replace O:=jJ.mp O;obtain ⟨⟨i,p,s⟩,C,rfl⟩:=O;have l:s∈tab/\p=Vp h.objs.size fd.scope.names s:=by
     have:∀(t:lT)(j:Nat),(i,p,s)∈Yk h.objs.size fd.scope.names j t->s∈t/\p=Vp h.objs.size fd.scope.names s:=by
      intro t
      induction t with
      |nil=>intro j h;cases h
      |cons x r ih=>
       intro j C;rcases aR.mp C with e|C
       .cases e;exact ⟨aQ,rfl⟩
       .exact ⟨aO _ (ih _ C).1,(ih _ C).2⟩
     exact this tab 0 C
    exact l.2▸⟨(dm s l.1).1,(dm s l.1).2.2⟩
  have xz:∀a,Yf (vH fd h.objs.size fa tab) Y D a->Yf (F0 env) Y D a\/h.get? a=aH:=λa q=>by
   rcases q with q|q|q
   .exact .inr (N a q).1
   .exact .inl (.inr (.inl q))
   .exact .inl (.inr (.inr q))
  have sim:gU (vH fd h.objs.size fa tab) Y D ⟨yX 0 ds,cs,nx⟩ h₁:=by
   refine ⟨λb o q=>y b o (G b o q),λx v q=>?_,λx p s q=>?_,λi c q=>?_,F.inj,λi a q=>?_,λa q=>⟨?_,(N a q).2⟩,λa q=>let ⟨o,ho⟩:=F.xal a q;⟨o,y a o ho⟩⟩
   .obtain ⟨_,hv⟩:=Wq q;have m:x<aC ds:=(cF.mp hv).1;obtain ⟨u,hu,ru⟩:=(bN.step (λb o e _=>y b o e) (λ_ _ e=>e) xz _ _ hr).get hv;have l:tab[x-0]?=aG (tab[x]'(by lia)):=by simp
    refine ⟨Vp h.objs.size fd.scope.names (tab[x]'(aT ER W m)),tab[x]'(aT ER W m),u,Tg (bI _) l,?_,ru⟩;have tu:(tab[x]'(aT ER W m),u)∈(tab.take (aC ds)).zip vs:=by rw [List.mem_iff_getElem?];refine ⟨x,?_⟩;rw [List.getElem?_zip_eq_some];exact ⟨by rw [List.getElem?_take,if_pos m];trivial,by exact hu⟩
    have ja:(((tab.take (aC ds)).zip vs).map (·.1)).Nodup:=by simp only [Z];exact d.nodup.sublist (List.take_sublist _ _)
    unfold Vp;rcases d.names _ (uC _)with q|⟨q,I⟩<;>refine q▸?_
    .exact ⟨_,J,Rn q ja tu⟩
    .obtain ⟨c,L⟩:=eF.mp (I (h.objs.size+1));refine (?_:h₁.IsCell (((nD (h.objs.size+1) fd.scope.names []).lookup _).getD 0) (aG u));refine L▸?_;have ic:=Q _ c L;rw [Ro (by show fd.scope.names.lookup _≠_;rw [q];intro z;cases z) ja tu]at ic;exact ic
   .obtain ⟨_,l,rfl⟩:=Mk q;exact (dm s (aJ l)).2.1
   .obtain ⟨a,e1,e2⟩:=F.cel i c q;exact ⟨a,e1,e2.on (fW.step (λb o e _=>y b o e) (λ_ _ e=>e) xz) (bN.step (λb o e _=>y b o e) (λ_ _ e=>e) xz) λo=>y _ o⟩
   .obtain ⟨a1,a2,a3,⟨g,a4⟩,a5⟩:=F.sep i a q;exact ⟨λz=>by (rw [(N a z).1]at a4;exact gG a4),a2,a3,⟨g,y _ _ a4⟩,a5⟩
   .cases q':S.heap.get? a with
    |none=>exact q'
    |some g=>have z:=(N a q).1;rw [G a g q']at z;exact De z
  simp only [e];exact bK (k h₁ X y (λa q=>(N a q).1) sim (⟨ok.hd,by have:=ok.dep;refine (?_:A.depth+1+2*n<_);exact aT 0x318a8488074641c0a1220838746003 this,by have:=ok.uni;refine (?_:A.units+3+10*n+100<_);exact aT 0x6315091ce1d100e8e8d980a1239c3a20838747003 this⟩)) (λ_ _ x=>x) λ_ _ x=>x.elim
def aAy{Y:gI}{R:rR->qR}(d:lH fd tab)(g:S.heap.get? fa=aG o)(l:o.data=.func fd)(m:S.heap.NoLimit)(r:S.heap.CodeRec fd.code fd.qualname)(t:fd.body=.stmts body)
  (u:bindArgs fd ⟨vs,[]⟩=pure ((tab.take (aC ds)).zip vs)) (y:aC ds<=tab.length) (ok:wA (n+1) A) (z:∀b o,S.heap.get? b=aG o->h.get? b=aG o) (B:∀a,Y a->tI h a) (C:bN D Y h ds vs)
  (F:∀i a,lk D i=aG a->Y a) (G:dH ds=aU)
  (k:∀h₁ H,(∀b o,h.get? b=aG o->h₁.get? b=aG o)->(∀a∈(vH fd h.objs.size fa tab).Z,h.get? a=aH)->gU (vH fd h.objs.size fa tab) Y [] ⟨yX 0 ds,[],0⟩ h₁->wA n (A.deeper (vH fd h.objs.size fa tab).env)->
   bW iC (A.deeper (vH fd h.objs.size fa tab).env) (execs body (vH fd h.objs.size fa tab).env) (λf I=>R (.ok (.ret (match f with|.ret v=>v|_=>.none))) I) (λ_ _=>False) (iZ h₁ H)):
  jC iC A (.call (.ref fa) ⟨vs,[]⟩) R (iZ h tk):=
 Ud (env:=callEnvC fd h.objs.size fa) d g l m r t (XD u) y ok ⟨z,λx v q=>by simp [fL,eP]at q,λx p s q=>by simp [F0,fL,eP]at q,λi c q=>by simp [fL,eP]at q,λi j a q=>by simp [fL,eP]at q,λi a q=>by simp [fL,eP]at q,λa q=>(by cases q),B⟩
  (bN.stepP (λ_ _ e _=>e) (λa q=>by
   rcases q with q|q|⟨i,q⟩
   .cases q
   .exact .inl q
   .simp [fL,eP]at q) _ _ G C) k
end
section
set_option backward.match.sparseCases false
def YN(g:V->pM):fQ->pM
 |.list l=>(qS g l).map .lst
 |.dict ks l=>(qS g l).map (.dct ks)
 |.attrs _=>aH
 |.mat _=>aH
def œ(k:Nat)(cs:List (Nat×fQ))(g:V->pM):V->pM
 |.tup l=>(qS g l).map .tup
 |.lst l=>(qS g l).map .lst
 |.mt l=>(qS g l).map .mt
 |.dct ks l=>(qS g l).map (.dct ks)
 |.ref n=>if n<k then aG (.ref n)else ob (lk cs n) λc=>YN g c
 |.inst n=>if n<k then aG (.inst n)else aH
 |.bm id s=>(g s).map (.bm id)
 |_=>aH
def rZ:Nat->Nat->List (Nat×fQ)->V->pM
 |0,_,_,_=>aH
 |f+1,k,cs,v=>if v.pure=aU then aG v else œ k cs (rZ f k cs) v
def oD{g:V->pM}{D:kP}{Y:gI}{h:dF}{D':kP}{Y':gI}{h':dF}(c:∀v a u,g v=aG a->fW D Y h v u->fW D' Y' h' a u):
  ∀{l l':cA}{us:eW},qS g l=aG l'->bN D Y h l us->bN D' Y' h' l' us:=by
 intro l
 induction l with
 |nil=>intro l' us e r;refine pH e ?_;rintro rfl;exact r
 |cons v l d=>intro l' us e r;replace e:=Kl e;obtain ⟨b,m,f,i,rfl⟩:=e;obtain ⟨u,j,rfl,k,rl⟩:=r;exact ⟨u,j,rfl,c v b u f k,d i rl⟩
def AJ.imp{P:cR->eW->Prop}{Y Y':gI}{v:bL}{L L':eW->Prop}(r:AJ P Y v L)(b:∀a,¬Y a->¬Y' a)(c:∀xs,L xs->L' xs):AJ P Y' v L':=let ⟨a,xs,e,n,p,q⟩:=r;⟨a,xs,e,b a n,p,c xs q⟩
noncomputable def tF(k:Nat):kP->kP
 |[]=>[]
 |(n,a)::r=>if n<k then (n,a)::tF k r else tF k r
def Rq{k:Nat}:tF k []=([]):=rfl
def Rp{k:Nat}{n a r}:tF k ((n,a)::r)=(if n<k then (n,a)::tF k r else tF k r):=rfl
def rC(k:Nat):∀(D:kP)(n:Nat),lk (tF k D) n=if n<k then lk D n else aH:=by
 intro z1
 induction z1 with
 |nil=>intro n;simp [Rq,Rp,fL,eP]
 |cons z2 r z4=>
  obtain ⟨m,a⟩:=z2;intro n;simp only [Rq,Rp];by_cases h:m<k
  .rw [if_pos h];simp only [fL,eP];by_cases e:n=m
   .subst e;simp [h]
   .simp only [if_neg e];exact z4 n
  .rw [if_neg h,z4 n];by_cases b:n<k
   .have:n≠m:=λq=>h (q▸b);simp [fL,eP,this]
   .simp [b]
def Ap{F:Fx}{X:gI}{D:kP}{σ:St}{h:dF}(m:gU F X D σ h)(k:Nat):∀(f:Nat)(v j:V)(u:bL),rZ f k σ.cells v=aG j->fW D (Yf F X D) h v u->fW (tF k D) (Yf F X (tF k D)) h j u:=by
 have t:∀a,Yf F X (tF k D) a->Yf F X D a:=λa q=>by
  rcases q with q|q|⟨n,q⟩
  .exact .inl q
  .exact .inr (.inl q)
  .rw [rC]at q;exact .inr (.inr ⟨n,(iB q).right⟩)
 have p:∀a,¬Yf F X D a->¬Yf F X (tF k D) a:=λa q z=>q (t a z);intro f
 induction f with
 |zero=>exactλv j u e _=>gG e
 |succ f g=>
  intro v j u e r;have e:(if v.pure=aU then aG v else œ k σ.cells (rZ f k σ.cells) v)=aG j:=e;by_cases C:v.pure=aU
  .replace e:=(if_pos C)▸e;refine pH e ?_;rintro rfl;exact fW.stepP (λ_ _ e _=>e) (λa q=>.inl (t a q)) _ _ C r
  .replace e:=(if_neg C)▸e;clear C
   cases v with
   |tup l=>obtain ⟨l',b,rfl⟩:=bZ.mp e;exact AJ.imp r p λxs=>oD g b
   |lst l=>obtain ⟨l',b,rfl⟩:=bZ.mp e;exact AJ.imp r p λxs=>oD g b
   |mt l=>obtain ⟨l',b,rfl⟩:=bZ.mp e;exact AJ.imp r p λxs=>oD g b
   |dct ks l=>obtain ⟨l',b,rfl⟩:=bZ.mp e;exact AJ.imp r p λxs=>oD g b
   |ref i=>
    have e:(if i<k then aG (V.ref i)else ob (lk σ.cells i) λc=>YN (rZ f k σ.cells) c)=aG j:=e;obtain ⟨a,rfl,d⟩:=r;by_cases hi:i<k
    .replace e:=(if_pos hi)▸e;refine pH e ?_;rintro rfl;exact ⟨a,rfl,by rw [rC,if_pos hi];exact d⟩
    .rw [if_neg hi]at e;replace e:=dS e;obtain ⟨c,G,e⟩:=e;replace G:=m.cel i c G;obtain ⟨O,b,y⟩:=G;replace b:=d▸b;refine pH b ?_;rintro rfl;have A:¬Yf F X (tF k D) a:=λz=>by
      rcases z with q|q|⟨n,q⟩
      .exact (m.sep i a d).z q
      .exact (m.sep i a d).x q
      .rw [rC]at q;obtain ⟨I,q⟩:=iB q;exact hi (m.inj n i a q d▸I)
     cases c with
     |list l=>refine nn λH=>?_;obtain ⟨l',b,rfl⟩:=bZ.mp e;obtain ⟨xs,B,rl⟩:=y;exact H ⟨a,xs,rfl,A,B,oD g b rl⟩
     |dict ks l=>obtain ⟨l',b,rfl⟩:=bZ.mp e;refine nn λH=>?_;obtain ⟨xs,B,rl⟩:=y;exact H ⟨a,xs,rfl,A,B,oD g b rl⟩
     |attrs as=>exact gG e
     |mat Q=>exact gG e
   |inst i=>replace e:=iB e;obtain ⟨hi,e⟩:=e;refine pH e ?_;rintro rfl;obtain ⟨a,x,rfl,J,d,L⟩:=r;exact ⟨a,x,rfl,p x J,by rw [rC,if_pos hi];exact d,L⟩
   |bm id s=>obtain ⟨R,b,rfl⟩:=bZ.mp e;obtain ⟨a,N,rfl,d,B,rl⟩:=r;exact ⟨a,N,rfl,p a d,B,g _ _ _ b rl⟩
   |none=>exact gG e
   |bool _=>exact gG e
   |int _=>exact gG e
   |str _=>exact gG e
   |scr _=>exact gG e
   |set0=>exact gG e
   |fn _=>exact gG e
noncomputable def uY:Nat:=30
def nX{b c:Type}{x:Option b}{f:b->Option c}{a:b}{r:Option c}(e:x=aG a)(q:f a=r):ob x f=r:=by subst e;exact q
def Jj(g:V->pM):tH->Option tH
 |[]=>aG []
 |(x,v)::r=>ob (g v) λv'=>ob (Jj g r) λr'=>aG ((x,v')::r')
def cL{g:V->pM}{x:Nat}{v a:V}{r b:tH}(e:g v=aG a)(c:Jj g r=aG b):Jj g ((x,v)::r)=aG ((x,a)::b):=nX e (nX c rfl)
def OU{g:V->pM}{l l':tH}{x:Nat}{c:V}(e:Jj g l=aG l')(h:lk l' x=aG c):∃v,lk l x=aG v/\g v=aG c:=by
 induction l generalizing l' with
 |nil=>obtain rfl:=eR e;cases h
 |cons p r d=>
  obtain ⟨y,v⟩:=p;obtain ⟨j,f,e⟩:=dS e;obtain ⟨k,i,e⟩:=dS e;obtain rfl:=eR e;by_cases q:x=y
  .exact ⟨v,if_pos q,f.trans ((if_pos q).symm.trans h)⟩
  .obtain ⟨v,a,b⟩:=d i ((if_neg q).symm.trans h);exact ⟨v,(if_neg q).trans a,b⟩
def Bw(g:V->pM):oS->Option oS
 |[]=>aG []
 |(x,v)::r=>ob (g v) λv'=>ob (Bw g r) λr'=>aG ((x,v')::r')
def Mo{g:V->pM}{x:iS}{v a:V}{r b:oS}(e:g v=aG a)(c:Bw g r=aG b):Bw g ((x,v)::r)=aG ((x,a)::b):=nX e (nX c rfl)
def Pl{g:V->pM}{l l':oS}{p:iS×V}(e:Bw g l=aG l')(h:p∈l'):∃v,(p.1,v)∈l/\g v=aG p.2:=by
 induction l generalizing l' with
 |nil=>obtain rfl:=eR e;cases h
 |cons q r d=>
  obtain ⟨y,v⟩:=q;obtain ⟨c,f,e⟩:=dS e;obtain ⟨j,i,e⟩:=dS e;obtain rfl:=eR e;rcases aR.mp h with q|q
  .subst q;exact ⟨v,aQ,f⟩
  .obtain ⟨c,a,b⟩:=d i q;exact ⟨c,aO _ a,b⟩
def Jk(g:V->pM):fQ->Option fQ
 |.list l=>(qS g l).map .list
 |.dict ks l=>(qS g l).map (.dict ks)
 |.attrs as=>(Bw g as).map .attrs
 |.mat m=>aG (.mat m)
def oH(k:Nat)(g:V->pM):List (Nat×fQ)->Option (List (Nat×fQ))
 |[]=>aG []
 |(n,c)::r=>if n<k then (ob (Jk g c) λc'=>ob (oH k g r) λr'=>aG ((n,c')::r'))else oH k g r
def FO{k:Nat}{g:V->pM}{l l':List (Nat×fQ)}{n:Nat}{f:fQ}(e:oH k g l=aG l')(h:lk l' n=aG f):n<k/\∃c,lk l n=aG c/\Jk g c=aG f:=by
 induction l generalizing l' with
 |nil=>obtain rfl:=eR e;cases h
 |cons p r i=>
  obtain ⟨y,v⟩:=p;by_cases d:y<k
  .replace e:=(if_pos d).symm.trans e;obtain ⟨s,j,e⟩:=dS e;obtain ⟨t,m,e⟩:=dS e;obtain rfl:=eR e;by_cases q:n=y
   .exact ⟨q▸d,v,if_pos q,j.trans ((if_pos q).symm.trans h)⟩
   .obtain ⟨a,v,b,c⟩:=i m ((if_neg q).symm.trans h);exact ⟨a,v,(if_neg q).trans b,c⟩
  .obtain ⟨a,v,b,c⟩:=i ((if_neg d).symm.trans e) h;exact ⟨a,v,(if_neg λq:n=y=>d (q▸a)).trans b,c⟩
def WE(k:Nat)(σ:St):Option St:=ob (Jj (rZ uY k σ.cells) σ.loc) λl=>ob (oH k (rZ uY k σ.cells) σ.cells) λc=>aG ⟨l,c,k⟩
def T9{k:Nat}{σ σ':St}(e:WE k σ=aG σ'):Wk k σ σ':=λF X D h fk m=>by
 obtain ⟨l,R,e⟩:=dS e;obtain ⟨c,T,e⟩:=dS e;obtain rfl:=eR e;have r:=λv W u=>Ap m k uY v W u;have f:∀n a,lk (tF k D) n=aG a->n<k/\lk D n=aG a:=λn a q=>by
  rw [rC]at q;split at q
  .exact ⟨by assumption,q⟩
  .exact gG q
 refine ⟨tF k D,⟨m.fb,λx v q=>?_,m.frm,λn c' q=>?_,λn L a q y=>m.inj n L a (f n a q).2 (f L a y).2,λn a q=>?_,m.zfr,m.xal⟩,λn a g q=>by rw [rC,if_pos g];exact q,λn a q=>(f n a q).2⟩
 .obtain ⟨Y,i,d⟩:=OU R q;obtain ⟨p,s,u,a1,b,z⟩:=m.loc x Y i;exact ⟨p,s,u,a1,b,r _ _ _ d z⟩
 .obtain ⟨g,N,i,d⟩:=FO T q;replace i:=m.cel n N i;obtain ⟨a,a1,b⟩:=i;refine ⟨a,by rw [rC,if_pos g];exact a1,?_⟩
  cases N with
  |list l'=>obtain ⟨O,j,rfl⟩:=bZ.mp d;obtain ⟨xs,A,B⟩:=b;exact ⟨xs,A,oD r j B⟩
  |dict ks l'=>obtain ⟨O,j,rfl⟩:=bZ.mp d;obtain ⟨xs,A,B⟩:=b;exact ⟨xs,A,oD r j B⟩
  |attrs as=>obtain ⟨O,j,rfl⟩:=bZ.mp d;obtain ⟨Q,C,G,H⟩:=b;refine ⟨Q,C,G,λp t=>?_⟩;obtain ⟨v,c1,c2⟩:=Pl j t;obtain ⟨u,I,J⟩:=H _ c1;exact ⟨u,I,r _ _ _ c2 J⟩
  |mat Q=>
   refine pH d ?_;rintro rfl;refine nn λZ=>?_;obtain ⟨as,ok,m2,C,G,H⟩:=b;refine Z ⟨as,ok,m2,C,G,λp t=>?_⟩;obtain ⟨u,I,J⟩:=H _ t;exact ⟨u,I,fW.stepP (λ_ _ e _=>e) (λa q=>by
    rcases q with q|q|⟨n,q⟩
    .exact .inl (.inl q)
    .exact .inl (.inr (.inl q))
    .exact .inl (.inr (.inr ⟨n,(f n a q).2⟩))) _ _ (ok.pure p t) J⟩
 .obtain ⟨g,y⟩:=f n a q;obtain ⟨a1,b,z,a4,a5⟩:=m.sep n a y;exact ⟨a1,b,z,a4,g⟩
noncomputable def jL(l:tH):mI->tH
 |[]=>[]
 |x::xs=>match lk l x with
  |some v=>(x,v)::jL l xs
  |aH=>jL l xs
def Qf{l:tH}:jL l []=([]):=rfl
theorem Cv{l:tH}{x xs}:jL l (x::xs)=(match lk l x with
 |some v=>(x,v)::jL l xs
 |aH=>jL l xs):=rfl
def Pz{l:tH}{x:Nat}{v:V}:∀{xs:mI},lk (jL l xs) x=aG v->lk l x=aG v:=by
 intro b
 induction b with
 |nil=>intro e;simp [Qf,Cv,fL,eP]at e
 |cons y xs a=>
  intro e;simp only [Qf,Cv]at e
  cases q:lk l y with
  |none=>rw [q]at e;exact a e
  |some u=>
   replace e:=q▸e;simp only [fL,eP]at e;split at e
   .rename_i h;subst h;refine pH e ?_;rintro rfl;exact q
   .exact a e
def AG(xs:mI)(σ:St):St:={σ with loc:=jL σ.loc xs}
def FR{k:Nat}{xs:mI}{σ:St}:Wk k σ (AG xs σ):=λF X D h fk m=>
 ⟨D,⟨m.fb,λx v e=>m.loc x v (Pz e),m.frm,m.cel,m.inj,m.sep,m.zfr,m.xal⟩,λ_ _ _ e=>e,λ_ _ e=>e⟩
def W4(xs:mI)(k:Nat)(σ:St):Option St:=WE k (AG xs σ)
def Ii{k:Nat}{xs:mI}{σ σ':St}(e:W4 xs k σ=aG σ'):Wk k σ σ':=FR.trans (T9 e)
def Gu{f k:Nat}{cs:List (Nat×fQ)}{v:V}(h:v.pure=aU):rZ (f+1) k cs v=aG v:=if_pos h
def dP{k:Nat}{cs:List (Nat×fQ)}{v:V}(h:v.pure=aU):rZ uY k cs v=aG v:=Gu h
def Kj{f k:Nat}{cs:List (Nat×fQ)}:∀{vs:cA},dH vs=aU->qS (rZ (f+1) k cs) vs=aG vs:=by
 intro vs
 induction vs with
 |nil=>intro _;rfl
 |cons v r b=>intro a;simp only [fO,eN,dT]at a;simp only [Cq,At];rw [b a.2,Gu a.1];rfl
def Fm{f k n:Nat}{cs:List (Nat×fQ)}(a:¬n<k):rZ (f+1) k cs (.ref n)=ob (lk cs n) λc=>YN (rZ f k cs) c:=by refine (?_:(if n<k then _ else _)=_);rw [if_neg a]
def ZU{a b:Type}{g:a->Option b}{v:a}{c:b}{r:List a}{d:List b}(e:g v=aG c)(f:qS g r=aG d):qS g (v::r)=aG (c::d):=by simp only [Cq,At];rw [e,f];rfl
def Vm{f k:Nat}{cs:List (Nat×fQ)}{l l':cA}(a:(V.lst l).pure=bR)(e:qS (rZ f k cs) l=aG l'):rZ (f+1) k cs (.lst l)=aG (.lst l'):=
 (if_neg (by refine a▸?_;exact lN)).trans (congrArg (qX V.lst) e)
def č(P:V->Prop):Fl->gZ:=λf σ'=>match f with
 |.ret v=>∃r,rZ uY 0 σ'.cells v=aG r/\r.pure=aU/\P r
 |.next=>P .none
 |_=>False
def Uu(n:Nat)(f:bL)(ds:cA)(P:V->Prop):Prop:=
 ∀A (Y:gI) h tk vs,wA n A->(∀b o,S.heap.get? b=aG o->h.get? b=aG o)->(∀a,Y a->tI h a)->bN [] Y h ds vs->
  jC iC A (.call f ⟨vs,[]⟩) (wants (FnR Y h P) (λ_ _=>False)) (iZ h tk)
section
variable{n:Nat}{fd:sL}{tab:lT}{fa:cR}{o:qY}{body:List tR}{ds:cA}{P:V->Prop}
def Uu.c{f:bL}(x:Uu n f ds P):Xn n f ds P:=λA Y h tk vs ok a b d=>gN (x A Y h tk vs ok a b d)
def zY(d:lH fd tab)(l:S.heap.get? fa=aG o)(s:o.data=.func fd)(t:S.heap.NoLimit)(u:S.heap.CodeRec fd.code fd.qualname)(v:fd.body=.stmts body)
  (y:∀vs:eW,aC vs=aC ds->bindArgs fd ⟨vs,[]⟩=pure ((tab.take (aC ds)).zip vs)) (B:aC ds<=tab.length) (C:dH ds=aU)
  (D:∀L,SW 0 n (vH fd L fa tab) body ⟨yX 0 ds,[],0⟩ (č P)):Uu (n+1) (.ref fa) ds P:=by
 intro A Y h tk vs ok F G c;refine aAy d l s t u v (y vs c.length) B ok F G c (λi a q=>by simp [fL,eP]at q) C λh₁ H I J m N=>?_;refine bK (D h.objs.size _ Y [] h₁ H N m) (λf X p=>?_) λ_ _ x=>x;obtain ⟨h',g,D',σ',f',rfl,st,O,r,q⟩:=p;have j:∀b o,h.get? b=aG o->h'.get? b=aG o:=λb o e=>st.keep b o (I b o e) (λz=>by rw [J b z]at e;exact gG e) (λi z=>by simp [fL,eP]at z)
 cases r with
 |brk=>exact q.elim
 |cont=>exact q.elim
 |next=>exact ⟨h',g,.none,rfl,j,rfl,rfl,q⟩
 |ret r=>refine nn λQ=>?_;obtain ⟨R,T,k,W⟩:=q;exact Q ⟨h',g,R,rfl,j,k,fW.stepP (λ_ _ e _=>e) (λ_ z=>.inl (.inr (.inl z))) _ _ k (Ap O 0 uY _ _ _ T r),W⟩
def ã(d:lH fd tab)(a:S.heap.get? fa=aG o)(b:o.data=.func fd)(c:S.heap.NoLimit)(e:S.heap.CodeRec fd.code fd.qualname)(f:fd.body=.stmts body)
  (g:∀vs:eW,aC vs=aC ds->bindArgs fd ⟨vs,[]⟩=pure ((tab.take (aC ds)).zip vs)) (h:aC ds<=tab.length) (i:dH ds=aU)
  (j:∀L,SW 0 n (vH fd L fa tab) body ⟨yX 0 ds,[],0⟩ (č P)):Xn (n+1) (.ref fa) ds P:=
 (zY d a b c e f g h i j).c
end
end
section
set_option backward.match.sparseCases false
noncomputable abbrev M(α:Type):=St->Option (α×St)
abbrev Da:=fQ->cA->Option (fQ×V)
abbrev mU:=cA->M V
noncomputable def bd{α β:Type}(x:Option (α×St))(f:α->St->Option β):Option β:=match x with
 |some (a,σ)=>f a σ
 |aH=>aH
inductive aDz{α β:Type}(x:Option (α×St))(f:α->St->Option β)(r:β):Prop
 |mk (a:α) (σ:St) (e:x=aG (a,σ)) (q:f a σ=aG r)
def eJ{a b:Type}{x:Option (a×St)}{f:a->St->Option b}{r:b}(e:bd x f=aG r):aDz x f r:=by
 cases x with
 |none=>(exact gG e)
 |some p=>exact ⟨p.1,p.2,rfl,e⟩
structure Db{β:Type}(b:β)(σ':St)(c:β)(τ:St):Prop where
 l:b=c
 r:σ'=τ
def Db.of{c:Type}{a b:c}(e:aG (a,σ)=aG (b,τ)):Db b τ a σ:=by cases e;exact ⟨rfl,rfl⟩
def oB{a:Type}{b:a}{P:a->gZ}(h:P b σ'):∀c τ,Db b σ' c τ->P c τ:=by rintro _ _ ⟨rfl,rfl⟩;exact h
def TW.atE{b d:Type}{R:RT b d}{t:eW->Ag b}{v:d}{X:gI}{K:b->qR}(x:TW R n F ds t σ (Db v σ'))(ok:wA n A)(m:gU F X D σ h)(r:bN D (Yf F X D) h ds vs)
  (k:∀a h₁ c D₁,mZ F D h D₁ h₁->gU F X D₁ σ' h₁->R D₁ (Yf F X D₁) h₁ v a->K a (iZ h₁ c)):bW iC A (t vs) K (λ_ _=>False) (iZ h tk):=
 x.at ok m r λa h₁ c D₁ _ _ st m r ⟨e,f⟩=>k a h₁ c D₁ st (f▸m) (e▸r)
def Rr{X:gI}{K:Args->qR}(b:nJ F es)(x:AM n F c es σ (Db us σ'))(ok:wA n A)(m:gU F X D σ h)
  (k:∀vs h₁ a D₁,mZ F D h D₁ h₁->gU F X D₁ σ' h₁->bN D₁ (Yf F X D₁) h₁ us vs->K ⟨vs,[]⟩ (iZ h₁ a)):bW iC A (evalArgs f aU (backTo c (eD es F.env)) []) K (λ_ _=>False) (iZ h tk):=
 rL b x ok m λvs h₁ a D₁ _ _ st m r ⟨d,e⟩=>k vs h₁ a D₁ st (e▸m) (d▸r)
noncomputable def lim:Nat:=1048576
def nL:lim<=iF:=by decide
def Wg:lim+lim<=iF:=by decide
section
variable(n:Nat)(F:Fx)
def ImT{α β:Type}(R:RT α β)(ds:cA)(t:eW->Ag α)(g:M β):Prop:=∀σ b σ',g σ=aG (b,σ')->TW R n F ds t σ (Db b σ')
def iP(e:Expr)(g:M V):Prop:=∀σ v σ',g σ=aG (v,σ')->EW n F e σ (Db v σ')
def Z1(e:Expr)(g:M Bool):Prop:=∀σ v σ',g σ=aG (v,σ')->BW n F e σ (Db v σ')
def ċ(op:BoolOp)(es:List Expr)(g:M Bool):Prop:=∀σ v σ',g σ=aG (v,σ')->Rv n F op es σ (Db v σ')
def xH(ap:ķ)(es:List Expr)(g:M cA):Prop:=∀σ v σ',g σ=aG (v,σ')->AM n F ap es σ (Db v σ')
def ImP(e:Option Expr)(g:M (Option Int)):Prop:=∀σ v σ',g σ=aG (v,σ')->PW n F e σ (Db v σ')
def Dg(t:Expr)(g:V->St->Option St):Prop:=∀σ v σ',g v σ=aG σ'->GW n F t v σ (λτ=>σ'=τ)
def A5(s:tR)(g:Nat->M Fl):Prop:=∀k σ f σ',g k σ=aG (f,σ')->XW k n F s σ (Db f σ')
def Fd(b:List tR)(g:Nat->M Fl):Prop:=∀k σ f σ',g k σ=aG (f,σ')->SW k n F b σ (Db f σ')
def Ei(t:bL->bL->Ag bL)(f:V->V->M V):Prop:=∀a b,ImT n F rV [a,b] (En t) (f a b)
end
def aP(x:Nat):M V:=λσ=>(lk σ.loc x).map λv=>(v,σ)
def cG(x:Nat)(v:V)(σ:St):Option St:=some {σ with loc:=put x v σ.loc}
noncomputable def gK(v:V):M V:=λσ=>aG (v,σ)
def bJ(f:V->V->M V)(gl gr:M V):M V:=λσ=>bd (gl σ) λa σ=>bd (gr σ) λb σ=>f a b σ
def Ze(g:M Bool):M Bool:=λσ=>bd (g σ) λb σ=>aG (!b,σ)
def kJ(g h:M Bool):M Bool:=λσ=>bd (g σ) λb σ=>if b=aU then h σ else aG (bR,σ)
def Þ(g h:M Bool):M Bool:=λσ=>bd (g σ) λb σ=>if b=aU then aG (aU,σ)else h σ
def T7{α:Type}(c:M Bool)(a b:M α):M α:=λσ=>bd (c σ) λt σ=>if t=aU then a σ else b σ
noncomputable def asB:V->Option Bool
 |.bool b=>aG b
 |_=>aH
noncomputable def B6:V->Option Int
 |.int i=>aG i
 |_=>aH
noncomputable def Jz:V->Option Nat
 |.ref n=>aG n
 |_=>aH
noncomputable def aV{β:Type}(f:V->cA->Option β):cA->Option β
 |[]=>aH
 |v::r=>f v r
noncomputable def aN{β:Type}(x:Option β):cA->Option β
 |[]=>x
 |_::_=>aH
noncomputable def aE{β:Type}(x:Option β)(f:V->cA->Option β):cA->Option β
 |[]=>x
 |v::r=>f v r
@[elab_as_elim] theorem oC {a:Type} {f:V->cA->Option a} {P:cA->Prop} {r:a} (e:aV f us=aG r) (k:∀v t,f v t=aG r->P (v::t)):P us:=by
 cases us with
 |nil=>exact gG e
 |cons v t=>exact k v t e
@[elab_as_elim] theorem mT {a:Type} {x:Option a} {P:cA->Prop} {r:a} (e:aN x us=aG r) (k:x=aG r->P []):P us:=by
 cases us with
 |nil=>exact k e
 |cons v t=>exact gG e
def aL{β:Type}(σ:St)(n:Nat)(f:cA->Option β):Option β:=ob (lk σ.cells n) λc=>ob (liC c) f
inductive AL{β:Type}(σ:St)(n:Nat)(f:cA->Option β)(r:β):Prop
 |mk (l:cA) (h:lk σ.cells n=aG (.list l)) (q:f l=aG r)
def Pe{a:Type}{f:cA->Option a}{r:a}(e:aL σ n f=aG r):AL σ n f r:=by
 obtain ⟨c,h,e⟩:=dS e
 cases c with
 |list l=>exact ⟨l,h,e⟩
 |dict _ _=>exact gG e
 |attrs _=>exact gG e
 |mat _=>exact gG e
def KB{a:Type}{f:cA->Option a}(h:lk σ.cells n=aG (.list l)):aL σ n f=f l:=by unfold aL;rw [h];rfl
noncomputable def diC:fQ->Option (bE×cA)
 |.dict ks vs=>aG (ks,vs)
 |_=>aH
def aD{β:Type}(σ:St)(n:Nat)(f:bE×cA->Option β):Option β:=ob (lk σ.cells n) λc=>ob (diC c) f
inductive AD{β:Type}(σ:St)(n:Nat)(f:bE×cA->Option β)(r:β):Prop
 |mk (ks:bE) (vs:cA) (h:lk σ.cells n=aG (.dict ks vs)) (q:f (ks,vs)=aG r)
def TG{a:Type}{f:bE×cA->Option a}{r:a}(e:aD σ n f=aG r):AD σ n f r:=by
 obtain ⟨c,h,e⟩:=dS e
 cases c with
 |dict ks vs=>exact ⟨ks,vs,h,e⟩
 |list _=>exact gG e
 |attrs _=>exact gG e
 |mat _=>exact gG e
def WR{a:Type}{f:bE×cA->Option a}(h:lk σ.cells n=aG (.dict ks vs)):aD σ n f=f (ks,vs):=by unfold aD;rw [h];rfl
inductive Ob1{α β:Type}(c:α->V)(f:α->Option β)(v:V)(r:β):Prop
 |mk (i:α) (e:v=c i) (q:f i=aG r)
@[elab_as_elim] theorem G3 {a:Type} {f:Nat->Option a} {P:V->Prop} {r:a} (e:ob (Jz v) f=aG r) (k:∀n,f n=aG r->P (.ref n)):P v:=by cases v<;>first|exact k _ e|exact gG e
@[elab_as_elim] theorem tV {a:Type} {f:Int->Option a} {P:V->Prop} {r:a} (e:ob (B6 v) f=aG r) (k:∀n,f n=aG r->P (.int n)):P v:=by cases v<;>first|exact k _ e|exact gG e
def Š{a:Type}{f:Nat->Option a}{r:a}(e:ob (Jz v) f=aG r):Ob1 V.ref f v r:=G3 e λn e=>⟨n,rfl,e⟩
def Ţ{a:Type}{f:Int->Option a}{r:a}(e:ob (B6 v) f=aG r):Ob1 V.int f v r:=tV e λn e=>⟨n,rfl,e⟩
noncomputable def JZ:V->Option (bE×cA)
 |.dct ks vs=>aG (ks,vs)
 |_=>aH
@[elab_as_elim] theorem Vy {a:Type} {f:bE×cA->Option a} {P:V->Prop} {r:a} (e:ob (JZ v) f=aG r) (k:∀ks vs,f (ks,vs)=aG r->P (.dct ks vs)):P v:=by cases v<;>first|exact k _ _ e|exact gG e
noncomputable def aBg:V->Option (String×V)
 |.bm id u=>aG (id,u)
 |_=>aH
@[elab_as_elim] theorem ţ {a:Type} {f:String×V->Option a} {P:V->Prop} {r:a} (e:ob (aBg v) f=aG r) (k:∀id u,f (id,u)=aG r->P (.bm id u)):P v:=by cases v<;>first|exact k _ _ e|exact gG e
noncomputable def ā:V->Option Unit
 |.set0=>aG ()
 |_=>aH
@[elab_as_elim] theorem TI {a:Type} {f:Unit->Option a} {P:V->Prop} {r:a} (e:ob (ā v) f=aG r) (k:f ()=aG r->P .set0):P v:=by cases v<;>first|exact k e|exact gG e
def aI{β:Type}(f:Int->cA->Option β):cA->Option β:=aV λv t=>ob (B6 v) λi=>f i t
@[elab_as_elim] theorem xG {a:Type} {f:Int->cA->Option a} {P:cA->Prop} {r:a} (e:aI f us=aG r) (k:∀i t,f i t=aG r->P (.int i::t)):P us:=
 oC e λv t e=>tV e λi e=>k i t e
def Ć{β:Type}(f:Int->Int->Int->cA->Option β):cA->Option β:=aI λa=>aI λb=>aI λc=>f a b c
@[elab_as_elim] theorem Eg {d:Type} {f:Int->Int->Int->cA->Option d} {P:cA->Prop} {r:d} (e:Ć f us=aG r) (k:∀a b c t,f a b c t=aG r->P (.int a::.int b::.int c::t)):P us:=
 xG e λa _ e=>xG e λb _ e=>xG e λc t e=>k a b c t e
noncomputable def Fc:V->Option cA
 |.tup l=>aG l
 |_=>aH
@[elab_as_elim] theorem Pf {a:Type} {f:cA->Option a} {P:V->Prop} {r:a} (e:ob (Fc v) f=aG r) (k:∀l,f l=aG r->P (.tup l)):P v:=by cases v<;>first|exact k _ e|exact gG e
noncomputable def N2:V->Option cA
 |.mt l=>aG l
 |_=>aH
@[elab_as_elim] theorem G4 {a:Type} {f:cA->Option a} {P:V->Prop} {r:a} (e:ob (N2 v) f=aG r) (k:∀l,f l=aG r->P (.mt l)):P v:=by cases v<;>first|exact k _ e|exact gG e
noncomputable def Zx:V->Option bL
 |.fn u=>aG u
 |_=>aH
@[elab_as_elim] theorem Vx {a:Type} {f:bL->Option a} {P:V->Prop} {r:a} (e:ob (Zx v) f=aG r) (k:∀u,f u=aG r->P (.fn u)):P v:=by cases v<;>first|exact k _ e|exact gG e
noncomputable def SH:V->Option Nat
 |.inst n=>aG n
 |_=>aH
@[elab_as_elim] theorem TJ {a:Type} {f:Nat->Option a} {P:V->Prop} {r:a} (e:ob (SH v) f=aG r) (k:∀n,f n=aG r->P (.inst n)):P v:=by cases v<;>first|exact k _ e|exact gG e
noncomputable def atC:fQ->Option oS
 |.attrs as=>aG as
 |_=>aH
def aA{β:Type}(σ:St)(n:Nat)(f:oS->Option β):Option β:=ob (lk σ.cells n) λc=>ob (atC c) f
@[elab_as_elim] theorem TL {a:Type} {f:oS->Option a} {P:fQ->Prop} {r:a} (e:ob (atC c) f=aG r) (k:∀as,f as=aG r->P (.attrs as)):P c:=by cases c<;>first|exact k _ e|exact gG e
inductive AA{β:Type}(σ:St)(n:Nat)(f:oS->Option β)(r:β):Prop
 |mk (as:oS) (h:lk σ.cells n=aG (.attrs as)) (q:f as=aG r)
def TH{a:Type}{f:oS->Option a}{r:a}(e:aA σ n f=aG r):AA σ n f r:=by obtain ⟨c,h,e⟩:=dS e;revert h;exact TL e λas e h=>⟨as,h,e⟩
def WS{a:Type}{f:oS->Option a}(h:lk σ.cells n=aG (.attrs as)):aA σ n f=f as:=by unfold aA;rw [h];rfl
noncomputable def oo{α β:Type}(x:Option α)(f:α->Option β)(g:Option β):Option β:=match x with
 |some a=>f a
 |aH=>g
noncomputable def SG:V->Option cA
 |.lst l=>aG l
 |_=>aH
@[elab_as_elim] theorem DR {a:Type} {f:cA->Option a} {P:V->Prop} {r:a} (e:ob (SG v) f=aG r) (k:∀l,f l=aG r->P (.lst l)):P v:=by cases v<;>first|exact k _ e|exact gG e
noncomputable def onN{β:Type}(v:V)(x:Option β):Option β:=match v with
 |.none=>x
 |_=>aH
@[elab_as_elim] theorem TK {a:Type} {f:Int->Option a} {g:Option a} {P:V->Prop} {r:a} (e:oo (B6 v) f g=aG r) (k:∀n,f n=aG r->P (.int n)) (d:g=aG r->P v):P v:=by cases v<;>first|exact k _ e|exact d e
@[elab_as_elim] theorem Vw {a:Type} {f:cA->Option a} {g:Option a} {P:V->Prop} {r:a} (e:oo (Fc v) f g=aG r) (k:∀n,f n=aG r->P (.tup n)) (d:g=aG r->P v):P v:=by cases v<;>first|exact k _ e|exact d e
@[elab_as_elim] theorem DN {a:Type} {x:Option a} {P:V->Prop} {r:a} (e:onN v x=aG r) (k:x=aG r->P .none):P v:=by cases v<;>first|exact k e|exact gG e
def š{a:Type}{f:Nat->Option a}{r:a}(e:ob (SH v) f=aG r):Ob1 V.inst f v r:=TJ e λn e=>⟨n,rfl,e⟩
noncomputable def aBf:V->Option iS
 |.str s=>aG s
 |_=>aH
@[elab_as_elim] theorem ZH {a:Type} {f:iS->Option a} {P:V->Prop} {r:a} (e:ob (aBf v) f=aG r) (k:∀s,f s=aG r->P (.str s)):P v:=by cases v<;>first|exact k _ e|exact gG e
def gM(g:M V):M Bool:=λσ=>bd (g σ) λv σ=>(asB v).map λb=>(b,σ)
noncomputable def bP:M cA:=λσ=>aG ([],σ)
def aS(g:M V)(h:M cA):M cA:=λσ=>bd (g σ) λv σ=>bd (h σ) λvs σ=>aG (v::vs,σ)
def kC(g:M cA):M V:=λσ=>bd (g σ) λvs σ=>if aC vs<=lim then aG (.tup vs,σ)else aH
def pW(g:M cA):M V:=λσ=>bd (g σ) λvs σ=>if aC vs<=lim then aG (.lst vs,σ)else aH
noncomputable def ZJ(c:fQ)(σ:St):V×St:=(.ref σ.next,{σ with cells:=(σ.next,c)::σ.cells,next:=σ.next+1})
def kR(g:M cA):M V:=λσ=>bd (g σ) λvs σ=>if aC vs<=lim then aG (ZJ (.list vs) σ)else aH
def kH(g:M V):M (Option Int):=λσ=>bd (g σ) λv σ=>(B6 v).map λi=>(aG i,σ)
noncomputable def uV:M (Option Int):=λσ=>aG (aH,σ)
def mH(g:M V)(l u:M (Option Int)):M V:=λσ=>bd (g σ) λo σ=>bd (l σ) λlo σ=>bd (u σ) λhi σ=>ob (Zw σ o) λxs=>if aC xs<=lim then aG (.lst (pySl xs lo hi),σ)else aH
def eU(g h:Nat->M Fl):Nat->M Fl:=λk σ=>bd (g k σ) λf σ=>match f with
 |.next=>h k σ
 |f=>aG (f,σ)
def Zg(h:Nat->M Fl):Nat->M Fl:=λk σ=>ob (WE k σ) λσ=>h k σ
noncomputable def nA(f:Fl):Nat->M Fl:=λ_ σ=>aG (f,σ)
def fU(g:M V)(t:V->St->Option St):Nat->M Fl:=λ_ σ=>bd (g σ) λv σ=>ob (t v σ) λσ=>aG (.next,σ)
def T8(x:Nat)(f:V->V->M V)(g:M V):Nat->M Fl:=λ_ σ=>ob (lk σ.loc x) λold=>bd (g σ) λv σ=>bd (f old v σ) λr σ=>aG (.next,{σ with loc:=put x r σ.loc})
def yF(c:M Bool)(a b:Nat->M Fl):Nat->M Fl:=λk σ=>bd (c σ) λt σ=>if t=aU then a k σ else b k σ
def tQ(g:M V):Nat->M Fl:=λ_ σ=>bd (g σ) λv σ=>aG (.ret v,σ)
def xP(g:M V):Nat->M Fl:=λ_ σ=>bd (g σ) λv σ=>match v with
 |.none=>aG (.next,σ)
 |.str _=>aG (.next,σ)
 |_=>aH
def ŀ(xs:mI)(k:Nat)(t:M Bool)(b:M Fl):Nat->M Fl
 |0,_=>aH
 |n+1,σ=>bd (t σ) λc σ=>if c=aU then bd (b σ) λf σ=>match f with
   |.next=>ob (W4 xs k σ) λσ=>ŀ xs k t b n σ
   |.cont=>ob (W4 xs k σ) λσ=>ŀ xs k t b n σ
   |.brk=>aG (.next,σ)
   |.ret v=>aG (.ret v,σ)
  else aG (.next,σ)
noncomputable def SB:Nat:=1048576
def tP(xs:mI)(t:M Bool)(b:Nat->M Fl):Nat->M Fl:=λk σ=>if k<=σ.next then ŀ xs σ.next t (b σ.next) SB σ else aH
def rT(xs:mI)(h:Nat->M Fl):Nat->M Fl:=λk σ=>h k (AG xs σ)
def ă(e:(asB c).map (λb=>(b,σ))=aG (v,σ')):∃b,c=.bool b/\Db v σ' b σ:=by
 cases c with
 |bool b=>exact ⟨b,rfl,.of e⟩
 |_=>exact gG e
def Ă(e:(B6 c).map (λi=>(aG i,σ))=aG (v,σ')):∃i,c=.int i/\Db v σ' (aG i) σ:=by
 cases c with
 |int b=>exact ⟨b,rfl,.of e⟩
 |_=>exact gG e
def aAz(e:xP (λσ=>aG (v,σ)) 0 σ=aG (f,σ')):(v=.none\/∃x,v=.str x)/\Db f σ' .next σ:=by
 cases v with
 |none=>exact ⟨.inl rfl,.of e⟩
 |str x=>exact ⟨.inr ⟨x,rfl⟩,.of e⟩
 |_=>exact gG e
section
variable{n:Nat}{F:Fx}
def PV(fk:hO F)(a:lk F.bnd x=aG (p,s))(b:AI F.env p s)(hd:(s== ("__debug__":iS))=bR):iP n F (.Name s c) (aP x):=λσ v σ' e=>by
 unfold aP at e
 cases h:lk σ.loc x with
 |none=>rw [h]at e;exact gG e
 |some u=>rw [h]at e;exact ä fk h a b hd (.of e)
def bT:iP n F (.Constant (.int i) k a) (gK (.int i)):=λσ v σ' e=>by exact è (.of e)
def uF:iP n F (.Constant (.str x) k a) (gK (.str x)):=λσ v σ' e=>by exact æ (.of e)
def pV:iP n F (.Constant .none k a) (gK .none):=λσ v σ' e=>by exact QW (.of e)
def Cz:iP n F (.Constant (.bool b) k a) (gK (.bool b)):=λσ v σ' e=>by exact QY (.of e)
def bQ{f:V->V->M V}(o:Ei n F (binaryOp c) f)(x:iP n F l d)(y:iP n F r g):iP n F (.BinOp l c r k) (bJ f d g):=λσ v σ' e=>by refine nn λh=>?_;obtain ⟨a,σ₁,i,e⟩:=eJ e;obtain ⟨b,m,j,e⟩:=eJ e;exact h (é ((x σ _ _ i).mono (oB ((y _ _ _ j).mono (oB (o _ _ _ _ _ e))))))
def dU{f:V->V->M V}(o:Ei n F (compareOp d) f)(x:iP n F l g)(y:iP n F r h)(i:behindInMarks d r=bR):Z1 n F (.Compare l [d] [r] p) (gM (bJ f g h)):=λσ v σ' e=>by obtain ⟨c,s,e,j⟩:=eJ e;replace e:=eJ e;obtain ⟨a,σ₁,k,e⟩:=e;replace e:=eJ e;obtain ⟨b,t,m,e⟩:=e;exact Nx i ((x σ _ _ k).mono (oB ((y _ _ _ m).mono (oB ((o _ _ _ _ _ e).mono (oB (ă j)))))))
def M7(y:Z1 n F x g):Z1 n F (.UnaryOp .Not x c) (Ze g):=λσ v σ' e=>by obtain ⟨a,σ₁,b,e⟩:=eJ e;exact þ ((y _ _ _ b).mono (oB ((.of e))))
def lS(y:ċ n F a es g):Z1 n F (.BoolOp a es b) g:=λσ v σ' e=>SA (y _ _ _ e)
def mS:ċ n F .And [] (λσ=>aG (aU,σ)):=λσ v σ' e=>by exact Ru (.of e)
def QC:ċ n F .Or [] (λσ=>aG (bR,σ)):=λσ v σ' e=>by exact Un (.of e)
def fJ(x:Z1 n F e g)(y:ċ n F .And es h):ċ n F .And (e::es) (kJ g h):=λσ v σ' e=>by
 obtain ⟨a,σ₁,b,e⟩:=eJ e;refine N3 ((x _ _ _ b).mono (oB ?_));cases a
 .exact (.of e)
 .exact y _ _ _ e
def GV(x:Z1 n F e g)(y:ċ n F .Or es h):ċ n F .Or (e::es) (Þ g h):=λσ v σ' e=>by
 obtain ⟨a,σ₁,b,e⟩:=eJ e;refine Rs ((x _ _ _ b).mono (oB ?_));cases a
 .exact y _ _ _ e
 .exact (.of e)
def Wu(x:Z1 n F c gc)(y:iP n F a d)(z:iP n F b gb):iP n F (.IfExp c a b g) (T7 gc d gb):=λσ v σ' e=>by
 obtain ⟨t,σ₁,f,e⟩:=eJ e;refine ç ((x _ _ _ f).mono (oB ?_));cases t
 .exact z _ _ _ e
 .exact y _ _ _ e
def bF:xH n F a [] bP:=λσ v σ' e=>by exact ë (.of e)
def fN(x:iP n F e g)(y:xH n F c es h)(d:eD (e::es) F.env=(bR,eval e F.env)::eD es F.env):xH n F c (e::es) (aS g h):=λσ v σ' e=>by refine nn λf=>?_;obtain ⟨a,σ₁,i,e⟩:=eJ e;obtain ⟨b,k,j,e⟩:=eJ e;exact f (RC d ((x _ _ _ i).mono (oB ((y _ _ _ j).mono (oB ((.of e)))))))
def dQ(x:xH n F b es g):iP n F (.Tuple es k b) (kC g):=λσ v σ' e=>by
 obtain ⟨a,σ₁,c,e⟩:=eJ e;split at e
 .exact IE ((x _ _ _ c).mono (oB ⟨bV ‹_› nL,.of e⟩))
 .exact gG e
def kB(x:xH n F b es g):iP n F (.List es b) (pW g):=λσ v σ' e=>by
 obtain ⟨a,σ₁,c,e⟩:=eJ e;split at e
 .exact QX ((x _ _ _ c).mono (oB ⟨bV ‹_› nL,.of e⟩))
 .exact gG e
def jT(x:xH n F b es g):iP n F (.List es b) (kR g):=λσ v σ' e=>by
 obtain ⟨a,σ₁,c,e⟩:=eJ e;split at e
 .exact IG ((x _ _ _ c).mono (oB ⟨bV ‹_› nL,.of e⟩))
 .exact gG e
def qF{f:V->V->M V}(o:Ei n F (subscriptTail value c) f)(x:iP n F value d)(y:iP n F c g):iP n F (.Subscript value c k) (bJ f d g):=λσ v σ' e=>by refine nn λh=>?_;obtain ⟨a,σ₁,i,e⟩:=eJ e;obtain ⟨b,l,j,e⟩:=eJ e;exact h (å ((x σ _ _ i).mono (oB ((y _ _ _ j).mono (oB (o _ _ _ _ _ e))))))
def wY:ImP n F aH uV:=λσ v σ' e=>by exact (.of e)
def iM(x:iP n F e g):ImP n F (aG e) (kH g):=λσ v σ' e=>by replace e:=eJ e;obtain ⟨a,σ₁,b,e⟩:=e;exact (x _ _ _ b).mono (oB (Ă e))
def PW.mono{Q Q':Option Int->gZ}(x:PW n F e σ Q)(h:∀b σ',Q b σ'->Q' b σ'):PW n F e σ Q':=by
 cases e with
 |none=>exact h _ _ x
 |some e=>exact TW.mono x λb σ' ⟨i,a,c⟩=>⟨i,a,h _ _ c⟩
def kX(x:iP n F value g)(y:ImP n F lower l)(z:ImP n F upper u):iP n F (.Subscript value (.Slice lower upper aH p) k) (mH g l u):=λσ v σ' e=>by
 refine nn λd=>?_;obtain ⟨a,σ₁,f,e⟩:=eJ e;obtain ⟨b,m,h,e⟩:=eJ e;obtain ⟨c,o,i,e⟩:=eJ e;obtain ⟨xs,j,e⟩:=dS e;refine d ?_;split at e
 .exact IF ((x _ _ _ f).mono (oB ((y _ _ _ h).mono (oB ((z _ _ _ i).mono (oB ⟨xs,j,bV ‹_› nL,.of e⟩))))))
 .exact gG e
def iD:Fd n F [] (nA .next):=λk σ f σ' e=>by exact zM (.of e)
def XW.mono{Q Q':Fl->gZ}(x:XW k n F s σ Q)(y:∀f σ',Q f σ'->Q' f σ'):XW k n F s σ Q':=λA X D h tk ok m=>by refine bK (x A X D h tk ok m) (λf g p=>?_) λ_ _ e=>e;obtain ⟨h',a,D',σ',b,e,c,d,r,q⟩:=p;exact ⟨h',a,D',σ',b,e,c,d,r,y _ _ q⟩
def tZ.lower{d f:Type}{R:RT d f}{X:gI}{Q:f->gZ}{a:d}{g:cS}(i:k<=j)(p:tZ R F X j D h Q a g):tZ R F X k D h Q a g:=by obtain ⟨h',l,D',σ',b,e,c,m,r,q⟩:=p;exact ⟨h',l,D',σ',b,e,⟨c.keep,λn a o=>c.ext n a (dC o i),c.new,c.al⟩,m,r,q⟩
def XW.lower{Q:Fl->gZ}(a:k<=b)(x:XW b n F s σ Q):XW k n F s σ Q:=λA X D h tk ok m=>
 bK (x A X D h tk ok m) (λ_ _ p=>p.lower a) λ_ _ e=>e
def bM{g h:Nat->M Fl}(x:A5 n F s g)(y:Fd n F b h):Fd n F (s::b) (eU g h):=λk σ f σ' e=>by
 obtain ⟨a,σ₁,c,e⟩:=eJ e;refine gY ((x k _ _ _ c).mono (oB ?_));cases a
 .exact y k _ _ _ e
 .exact (.of e)
 .exact (.of e)
 .exact (.of e)
def dE{g:Nat->M Fl}(x:A5 n F s g):Fd n F [s] g:=λk σ f σ' e=>by
 refine gY ((x k _ _ _ e).mono (oB ?_));cases f
 .exact zM ⟨rfl,rfl⟩
 all_goals exact ⟨rfl,rfl⟩
def M5{h:Nat->M Fl}(fk:hO F)(y:Fd n F b h):Fd n F b (Zg h):=λk σ f σ' e=>by obtain ⟨σ₁,a,e⟩:=dS e;exact Vi fk (T9 a) (y k _ _ _ e)
def fB{h:Nat->M Fl}(fk:hO F)(y:Fd n F b h):Fd n F b (rT xs h):=λk σ f σ' e=>Vi fk FR (y k _ _ _ e)
def GQ(fk:hO F)(a:lk F.bnd x=aG (p,s))(b:AI F.env p s):Dg n F (.Name s c) (cG x):=λσ v σ' e=>by refine pH e ?_;rintro rfl;exact QE fk a b rfl
def PU{f:V->V->M V}(fk:hO F)(b:lk F.bnd x=aG (p,s))(c:AI F.env p s)(o:Ei n F (inplaceOp d) f)
  (y:iP n F e g):A5 n F (.AugAssign (.Name s pos') d e m) (T8 x f g):=λk σ f σ' e=>by
 refine nn λh=>?_;obtain ⟨old,i,e⟩:=dS e;obtain ⟨a,σ₁,j,e⟩:=eJ e;obtain ⟨r,t,l,e⟩:=eJ e;exact h (XH fk i b c ((y _ _ _ j).mono (oB ((o _ _ _ _ _ l).mono (oB ((.of e)))))))
def jS{a b:Nat->M Fl}(x:Z1 n F test c)(y:Fd n F body a)(z:Fd n F orelse b):A5 n F (.If test body orelse g) (yF c a b):=λk σ f σ' e=>by
 obtain ⟨t,σ₁,d,e⟩:=eJ e;refine U2 ((x _ _ _ d).mono (oB ?_));cases t
 .exact z k _ _ _ e
 .exact y k _ _ _ e
def nN(y:iP n F e g):A5 n F (.Return (aG e) c) (tQ g):=λk σ f σ' e=>by obtain ⟨a,σ₁,b,e⟩:=eJ e;exact XG ((y _ _ _ b).mono (oB ((.of e))))
def Y5:A5 n F (.Break a) (nA .brk):=λk σ f σ' e=>by exact BC (.of e)
def GO:A5 n F (.Continue a) (nA .cont):=λk σ f σ' e=>by exact LU (.of e)
def eZ(hi:interactive F.env=bR)(b:swapsWith e none c.line F.env=pure bR)(y:iP n F e g):A5 n F (.Expr e c) (xP g):=λk σ f σ' e=>by replace e:=eJ e;obtain ⟨a,σ₁,d,e⟩:=e;exact Ca hi b ((y _ _ _ d).mono (oB (aAz e)))
def uJ{b:Nat->M Fl}(fk:hO F)(x:Z1 n F test c)(y:Fd n F body b):A5 n F (.While test body [] m) (tP xs c b):=λk σ f σ' e=>by
 unfold tP at e;split at e
 .rename_i h;refine XW.lower h (AZ fk (λi τ=>ŀ xs σ.next c (b σ.next) i τ=aG (f,σ')) SB e λi τ hi=>?_)
  cases i with
  |zero=>(exact gG hi)
  |succ i=>
   obtain ⟨t,σ₁,j,hi⟩:=eJ hi;refine (x _ _ _ j).mono (oB ?_);cases t
   .exact (.of hi)
   .obtain ⟨g,o,l,hi⟩:=eJ hi;refine kO (y _ _ _ _ l) (oB ?_);cases g
    .obtain ⟨a,d,hi⟩:=dS hi;exact ⟨i,a,gS _,Ii d,hi⟩
    .exact (.of hi)
    .obtain ⟨a,d,hi⟩:=dS hi;exact ⟨i,a,gS _,Ii d,hi⟩
    .exact (.of hi)
 .exact gG e
end
end
mutual
noncomputable def Uf:V->Option oP
 |.none=>aG .none
 |.bool b=>aG (.bool b)
 |.int i=>aG (.int i)
 |.str s=>aG (.str s)
 |.tup l=>(Zp l).map .tuple
 |.lst l=>(Zp l).map .list
 |_=>aH
noncomputable def Zp:cA->Option (List oP)
 |[]=>aG []
 |v::l=>ob (Uf v) λd=>ob (Zp l) λr=>aG (d::r)
end
mutual
theorem K4{Y:gI}:∀(v:V)(d:oP)(u:bL),Uf v=aG d->fW D Y h v u->∃as,Reads h u d as
 |.none,d,u,e,r=>by cases e;cases r;exact ⟨_,.none⟩
 |.bool b,d,u,e,r=>by cases e;cases r;exact ⟨_,.bool b⟩
 |.int b,d,u,e,r=>by cases e;obtain ⟨t,rfl⟩:=r;exact ⟨_,.int b t⟩
 |.str b,d,u,e,r=>by cases e;obtain ⟨t,rfl⟩:=r;exact ⟨_,.str b t⟩
 |.tup l,d,u,e,r=>by obtain ⟨ds,c,rfl⟩:=bZ.mp e;obtain ⟨a,xs,rfl,_,⟨k,f⟩,rl⟩:=r;obtain ⟨as,q⟩:=B4 l ds xs c rl;exact ⟨_,.tuple f rfl rfl q⟩
 |.lst l,d,u,e,r=>by obtain ⟨ds,c,rfl⟩:=bZ.mp e;obtain ⟨a,xs,rfl,_,⟨k,f⟩,rl⟩:=r;obtain ⟨as,q⟩:=B4 l ds xs c rl;exact ⟨_,.list f rfl rfl q⟩
 |.scr _,d,u,e,r=>gG e
 |.mt _,d,u,e,r=>gG e
 |.dct _ _,d,u,e,r=>gG e
 |.set0,d,u,e,r=>gG e
 |.ref _,d,u,e,r=>gG e
 |.inst _,d,u,e,r=>gG e
 |.fn _,d,u,e,r=>gG e
 |.bm _ _,d,u,e,r=>gG e
theorem B4{Y:gI}:∀(l:cA)(ds:List oP)(us:eW),Zp l=aG ds->bN D Y h l us->∃as,ReadsAll h us ds as
 |[],ds,us,e,r=>by cases e;cases r;exact ⟨_,.nil⟩
 |v::l,ds,us,e,r=>by obtain ⟨d,a,e⟩:=dS e;obtain ⟨b,c,e⟩:=dS e;cases e;obtain ⟨u,f,rfl,g,rl⟩:=r;obtain ⟨as,q⟩:=K4 v d u a g;obtain ⟨j,i⟩:=B4 l b f c rl;exact ⟨_,.cons q i⟩
end
def Ue(σ:St)(a:V):Option oP:=ob (rZ uY 0 σ.cells a) λv=>ob (Uf v) λd=>if Ux d=aU then aG d else aH
def LF(f:Int->Int->M V):V->V->M V:=λa b σ=>ob (B6 a) λx=>ob (B6 b) λy=>f x y σ
def fF:V->V->M V:=λa b σ=>oo (B6 a) (λx=>ob (B6 b) λy=>aG (.int (x+y),σ)) (oo (Fc a) (λl=>ob (Fc b) λl'=>if aC l+aC l'<=lim then aG (.tup (l++l'),σ)else aH)
 (ob (J0 σ a) λl=>ob (J0 σ b) λl'=>if aC l+aC l'<=lim then aG (.lst (l++l'),σ)else aH))
def Qv:V->V->M V:=LF λa b σ=>aG (.int (a+b),σ)
def oE:V->V->M V:=LF λa b σ=>aG (.int (a-b),σ)
def D7:V->V->M V:=λa b σ=>ob (B6 b) λk=>oo (B6 a) (λx=>if tL x<=64 then aG (.int (x*k),σ)else aH)
 (ob (J0 σ a) λl=>if 0<=k/\k<1000/\aC l*k.toNat<=lim then aG (.lst (pO k.toNat l).flatten,σ)else aH)
def Ie:V->V->M V:=LF λa b σ=>if b≠0/\uG a b=bR then aG (.int (a.fdiv b),σ)else aH
def uW:V->V->M V:=LF λa b σ=>if b≠0 then aG (.int (a.fmod b),σ)else aH
def Jr:V->V->M V:=LF λa b σ=>aG (.bool (decide (a<b)),σ)
def LD:V->V->M V:=LF λa b σ=>aG (.bool (decide (a<=b)),σ)
def Ĭ:V->V->M V:=LF λa b σ=>aG (.bool (decide (b<a)),σ)
def gGe:V->V->M V:=LF λa b σ=>aG (.bool (decide (b<=a)),σ)
def D8:V->V->M V:=λa b σ=>ob (Ue σ a) λx=>ob (Ue σ b) λy=>aG (.bool (Lf x y),σ)
def W1:V->V->M V:=λa b σ=>ob (Ue σ a) λx=>ob (Ue σ b) λy=>aG (.bool (!Lf x y),σ)
noncomputable def Dz:V->Bool
 |.fn _=>bR
 |_=>aU
noncomputable def isN:V->Bool
 |.none=>aU
 |_=>bR
def Zf:V->V->M V:=λa b σ=>onN b (if Dz a=aU then aG (.bool (isN a),σ)else aH)
def WC:V->V->M V:=λa b σ=>onN b (if Dz a=aU then aG (.bool (!isN a),σ)else aH)
def fT:V->V->M V:=λa b σ=>ob (B6 b) λi=>oo (Fc a) (λl=>if 0<=i/\aC l<=lim then (l[i.toNat]?).map λd=>(d,σ)else aH)
 (ob (Zw σ a) λl=>if 0<=i/\aC l<=lim then (l[i.toNat]?).map λd=>(d,σ)else aH)
section
variable{n:Nat}{F:Fx}
def dJ:Ei n F (binaryOp .Add) fF:=λa b σ v σ' e=>by
 refine TK e (λx e=>?_) λe=>?_
 .exact tV e λy e=>ZB (.of e)
 refine Vw e (λl e=>?_) λe=>?_
 .refine Pf e λl' e=>?_;obtain ⟨i,e⟩:=iB e
  .refine Ck e ?_;rintro rfl rfl;refine oV λA X D h tk u v ok m t z=>?_;have j:=t;have o:=z;obtain ⟨x,xs,rfl,nx,⟨k,d⟩,p⟩:=t;obtain ⟨y,c,rfl,G,⟨r,f⟩,s⟩:=z;have e:xs.toArray++c.toArray=(xs++c).toArray:=by simp
   by_cases g:xs=[]
   .have:=uK (by rw [<-p.length,g];rfl);refine concat_meets ⟨_,d,rfl⟩ ⟨_,f,rfl⟩ noFill_tuple_add seq_tuple_add zE yM (xN _ _)
     (tuple_addW0 x y xs.toArray c.toArray k r _ _ _ _ (by simp [g])) ⟨d,f,fS m o ⟨by rw [this];rfl,rfl⟩⟩
   .by_cases hw:c=[]
    .have:=uK (by rw [<-s.length,hw];rfl);refine concat_meets ⟨_,d,rfl⟩ ⟨_,f,rfl⟩ noFill_tuple_add seq_tuple_add zE yM (xN _ _)
      (tuple_addW1 x y xs.toArray c.toArray k r _ _ _ _ (by simpa using g) (by simp [hw])) ⟨d,f,fS m j ⟨by rw [this,dI],rfl⟩⟩
    .refine concat_meets ⟨_,d,rfl⟩ ⟨_,f,rfl⟩ noFill_tuple_add seq_tuple_add zE yM (xN _ _)
      (tuple_addW2 x y xs.toArray c.toArray k r _ _ _ _ (by simpa using g) (by simpa using hw) (by rw [mN,mN];exact (by refine p.length▸?_;refine s.length▸?_;exact bV i nL:aC xs+c.length<=iF))) ⟨d,f,?_⟩
     refine ⟨_,tk,D,_,.tup (l++l'),rfl,mZ.grow (cY _ _),m.grow (cY _ _),?_,rfl,rfl⟩;refine O7 m (eE _) (cY _ _) ⟨0,?_⟩ (p.append s);have:=IsT.new h (xs.toArray++c.toArray);rw [e]at this⊢;exact this
 .obtain ⟨l,B,e⟩:=dS e;obtain ⟨l',C,e⟩:=dS e;obtain ⟨i,e⟩:=iB e;exact NI B C (bV i nL) (.of e)
def yG{t:bL->bL->Ag bL}{f:Int->Int->M V}(k:∀a b σ v σ',f a b σ=aG (v,σ')->TW rV n F [.int a,.int b] (En t) σ (Db v σ')):Ei n F t (LF f):=λa b σ v σ' e=>by refine tV e λa e=>?_;exact tV e λb e=>k a b σ v σ' e
def H4:Ei n F (inplaceOp .Add) Qv:=yG λa b σ v σ' e=>NG (.of e)
def iE:Ei n F (binaryOp .Sub) oE:=yG λa b σ v σ' e=>YX (.of e)
def F6:Ei n F (binaryOp .Mult) D7:=λa b σ v σ' e=>by
 refine tV e λk e=>?_;refine TK e (λx e=>?_) λe=>?_
 .obtain ⟨h,e⟩:=iB e;exact YZ (.of_left h) (.of e)
 .obtain ⟨l,i,e⟩:=dS e;obtain ⟨o,e⟩:=iB e
  .refine nn λp=>?_;obtain ⟨h0,h1,h2⟩:=o;refine p (oV λA X D h tk u v ok m d r=>?_);replace d:=Be m i d;obtain ⟨x,xs,j,rfl,c,f⟩:=d;obtain ⟨t,rfl⟩:=r;have s:aC l*k.toNat<=2^24:=bV h2 (by decide);refine wpAny_binaryOp_repeat_ref (by decide) ⟨_,c,rfl⟩ (λy=>typeIs_int y k t) noFill_list_mul PySem.F.fills_int_mul Sc repeat_list PySem.F.slot_int_index.lookup
    (call_meets Sc (typeIs_int _ k t) PySem.F.entry_int_rmul (PySem.F.args_int_rmul_2 _ _) (int___rmul___int_list k t x (bC xs) j)
     ⟨c,rfl,⟨_,c,rfl⟩,call_meets PySem.F.slot_list_mul ⟨_,c,rfl⟩ PySem.F.entry_list_mul (PySem.F.args_list_mul_2 _ _)
      (AutoListH.list___mul___list_int_3 x (bC xs) j k t (by simp [aEv];exact aT 0xe8c596c6318c6318c6318c6318c6318c1d0705814c6318c6318c6318c6318c6318c1ed8efce8382c0310 h0 h1) (by refine ((by simp only [mN,f.length]:(bC xs).size*k.toNat=aC l*k.toNat))▸?_;exact aT 0x318ba4a07ffffffffffffffffffffffff9938c6318c6307001 s) (by simp [Gc,iF,f.length];assumption))
      ⟨c,?_⟩⟩)
   refine ⟨_,tk,D,_,.lst (pO k.toNat l).flatten,rfl,mZ.grow (cY _ _),m.grow (cY _ _),?_,.of e⟩;have z:∀j:Nat,bN D (Yf F X D) h (pO j l).flatten (pO j xs).flatten:=by
    intro j
    induction j with
    |zero=>exact bN.nil
    |succ j B=>exact f.append B
   refine wR m (eE _) (cY _ _) ⟨0,?_⟩ (z _);have:=A9 h (aEp (λx1 x2=>x1++x2) #[] (pO (if (bC xs).isEmpty=aU then 0 else k.toNat) (bC xs)));have C:(aEp (λx1 x2=>x1++x2) #[] (pO (if (bC xs).isEmpty=aU then 0 else k.toNat) (bC xs)))=(pO k.toNat xs).flatten.toArray:=by
    simp only [listMul_foldl];by_cases g:xs=[]
    .subst g;simp
    .have:(bC xs).isEmpty=false:=by simpa using g
     refine this▸?_;rfl
   rw [C]at this⊢;exact this
def Ic:Ei n F (binaryOp .FloorDiv) Ie:=yG λa b σ v σ' e=>by obtain ⟨h,e⟩:=iB e;exact NH h.1 h.2 (.of e)
def sT:Ei n F (binaryOp .Mod) uW:=yG λa b σ v σ' e=>by obtain ⟨h,e⟩:=iB e;exact ZA h (.of e)
def sD:Ei n F (compareOp .Lt) Jr:=yG λa b σ v σ' e=>Ś (.of e)
def Nd:Ei n F (compareOp .LtE) LD:=yG λa b σ v σ' e=>ś (.of e)
def H5:Ei n F (compareOp .Gt) Ĭ:=yG λa b σ v σ' e=>Ŝ (.of e)
def HP:Ei n F (compareOp .GtE) gGe:=yG λa b σ v σ' e=>ŝ (.of e)
def yI{X:gI}(m:gU F X D σ h)(e:Ue σ a=aG d)(r:fW D (Yf F X D) h a u):Ux d=aU/\∃as,Reads h u d as:=by refine nn λb=>?_;obtain ⟨v,c,e⟩:=dS e;obtain ⟨g,f,e⟩:=dS e;refine b ?_;obtain ⟨h,e⟩:=iB e;cases e;exact ⟨h,K4 v d u f (Ap m 0 uY a v u c r)⟩
def sE:Ei n F (compareOp .Eq) D8:=λa b σ v σ' e=>by refine nn λc=>?_;obtain ⟨x,d,e⟩:=dS e;obtain ⟨y,f,e⟩:=dS e;refine c (oV λA X D h tk u v ok m g i=>?_);refine nn λc=>?_;obtain ⟨j,as,k⟩:=yI m d g;obtain ⟨l,p,o⟩:=yI m f i;refine c ?_;exact eq_dataH k o j l (by have:=ok.uni;exact aT VW this) (fS m nW (.of e))
def D6:Ei n F (compareOp .NotEq) W1:=λa b σ v σ' e=>by refine nn λc=>?_;obtain ⟨x,d,e⟩:=dS e;obtain ⟨y,f,e⟩:=dS e;refine c (oV λA X D h tk u v ok m g i=>?_);refine nn λc=>?_;obtain ⟨j,as,k⟩:=yI m d g;obtain ⟨l,p,o⟩:=yI m f i;refine c ?_;exact ne_dataH k o j l (by have:=ok.uni;exact aT VW this) (fS m nW (.of e))
def Nf:Ei n F (compareOp .Is) Zf:=λa b σ v σ' e=>by refine DN e λe=>?_;obtain ⟨c,e⟩:=iB e;exact Yb (by cases a<;>rfl) (λu h=>by subst h;cases c) (.of e)
def HN:Ei n F (compareOp .IsNot) WC:=λa b σ v σ' e=>by refine DN e λe=>?_;obtain ⟨c,e⟩:=iB e;exact Me (by cases a<;>rfl) (λu h=>by subst h;cases c) (.of e)
def NF{Q:V->gZ}(e:Zw σ a=aG l)(h0:0<=i)(hd:l[i.toNat]?=aG d)(f:aC l<=iF)(g:∀o i,subscripted j bR o i=operate [o,i] (getItem o i))(q:Q d σ):TW rV n F [a,.int i] (En (subscriptTail value j)) σ Q:=oV λA X D h tk u v ok m b k=>by replace b:=T4 m e b;obtain ⟨x,xs,rfl,c,p⟩:=b;obtain ⟨t,rfl⟩:=k;refine nn λr=>?_;obtain ⟨y,s,z⟩:=p.get hd;refine r ?_;have B:=(cF.mp hd).1;refine tail_any c.typeIs slot_list_getitem.lookup (wpAny_getItem_list c h0 (by simp only [nQ]at f;lia) (by simpa using s) (fS m z q)) (g _ _)
def QO(h:∀o i,subscripted k bR o i=operate [o,i] (getItem o i)):Ei n F (subscriptTail value k) fT:=λa b σ v σ' e=>by
 refine tV e λi e=>?_;refine Vw e (λl e=>?_) λe=>?_
 .obtain ⟨c,e⟩:=iB e;obtain ⟨d,f,e⟩:=bZ.mp e;have j:=(cF.mp f).1;have r:lim=1048576:=rfl;have g:=c.1;have m:=c.2;refine NE ?_ f ⟨AC (by decide) g,Fi ((aEf g).mp (dC j m)) (by decide)⟩ h (.of (congrArg aG e));unfold seqIndex?;simp only [R4.mpr g,if_false];rw [if_pos (by simp;exact aT 0x10e423823165aa141c7619941031220d8669ecc6112 c j)]
 .obtain ⟨l,f,e⟩:=dS e;obtain ⟨c,e⟩:=iB e;obtain ⟨d,p,e⟩:=bZ.mp e;exact NF f c.1 p (bV c.2 nL) h (.of (congrArg aG e))
end
section
set_option backward.match.sparseCases false
def Glo(env:ľ)(s:iS)(v:bL):Prop:=
 ∀A h tk (K:pZ),(∀b o,S.heap.get? b=aG o->h.get? b=aG o)->K v (iZ h tk)->bW (model prog w) A (loadGlobal env s) K (λ_ _=>False) (iZ h tk)
def KQ(f:bL):Prop:=(∃id,f=.builtin id)\/(∃T,f=.type T)\/(∃a o fd,f=.ref a/\S.heap.get? a=aG o/\o.data=.func fd)
section
variable(n:Nat)(F:Fx)
def A0(f:bL)(d:mU):Prop:=∀us,ImT n F rV us (λvs=>call f vs) (d us)
inductive yL(A:jY)(X:gI)(D:kP)(h₀ h₁:dF)(I:cR)(ds:cA):Prop
 |mk (fp:List cR) (P:Nat->bL->Prop) (Sx:Nat->dF->Prop) (T:String) (W:Walks prog w A I fp [I] (aC ds) P Sx) (hc:∀i h,Sx i h->∃o,h.get? I=aG o/\o.cls=.type T) (hT:xA.contains T=bR) (hk:∀b o,h₀.get? b=aG o->h₁.get? b=aG o) (hI:h₀.get? I=aH) (st:Sx 0 h₁)
  (hf:∀b∈fp,b=I\/(b∉F.Z/\¬X b/\(∀i,lk D i≠aG b)/\tI h₀ b))
  (hP:∀i v D' Y' h',i<aC ds->P i v->(∀b o,h₀.get? b=aG o->¬Yf F X D b->h'.get? b=aG o)->(∀a,Y' a->Yf F X D a\/h₀.get? a=aH)->fW D' Y' h' (ds.getD i .none) v):yL A X D h₀ h₁ I ds
inductive IwR(A:jY)(X:gI)(D:kP)(h:dF)(Q:cA->gZ)(it:bL)(g4:cS):Prop
 |mk (h₀:dF) (D₀:kP) (f8:St) (ds:cA) (I:cR) (h₁:dF) (ag:Nat) (ei:it=.ref I) (e:g4=iZ h₁ ag) (st:mZ F D h D₀ h₀) (m:gU F X D₀ f8 h₀) (w:yL F A X D₀ h₀ h₁ I ds) (q:Q ds f8):IwR A X D h Q it g4
def IW(e:Expr)(σ:St)(Q:cA->gZ):Prop:=∀A X D h tk,wA n A->gU F X D σ h->
 bW (model prog w) A (eval e F.env) (λx ft=>bW (model prog w) A (pyIter x) (IwR F A X D h Q) (λ_ _=>False) ft) (λ_ _=>False) (iZ h tk)
def Rz(e:Expr)(g:M cA):Prop:=∀σ ds σ',g σ=aG (ds,σ')->IW n F e σ (Db ds σ')
end
@[elab_as_elim] theorem IwR.el {F:Fx} {A:jY} {X:gI} {D:kP} {h:dF} {Q:cA->gZ} {c:bL} {d:cS} {P0:pZ} (f:IwR F A X D h Q c d) (z:∀(h₀:dF)(D₀:kP)(e:St)(ds:cA)(I:cR)(h₁:dF)(g:Nat)(st:mZ F D h D₀ h₀)(m:gU F X D₀ e h₀)(w:yL F A X D₀ h₀ h₁ I ds)(q:Q ds e),P0 (.ref I) (iZ h₁ g)):P0 c d:=by obtain ⟨i,D₀9,j,a,I9,k,l,b,o,p,r,s,t⟩:=f;exact b▸o▸z i D₀9 j a I9 k l p r s t
def eV(d:mU)(g:M cA):M V:=λσ=>bd (g σ) λus σ=>d us σ
def LH(wn:cA->pM):mU:=λus σ=>if dH us=aU then ob (wn us) λr=>aG (r,σ)else aH
def oG:mU:=λus σ=>aV (λa=>aN (ob (J0 σ a) λl=>if aC l<=lim then aG (.int (aC l),σ)else aH)) us
def Ta(l:cA):Option cA:=if dH l=aU then aG l else aH
def Fv(v:V):Option cA:=oo (Fc v) Ta (ob (SG v) Ta)
def lG(g:M V):M cA:=λσ=>bd (g σ) λv σ=>ob (Fv v) λds=>aG (ds,σ)
noncomputable def Et(a b:Int):cA:=(bX (b-a).toNat).map λ(i:Nat)=>V.int (a+i)
noncomputable def yO(a b:Int):Bool:=decide (-(2^62)<=a)&&decide (a<2^62)&&decide (-(2^62)<=b)&&decide (b<2^62)
def gH(g:M cA):M cA:=λσ=>bd (g σ) λus σ=>aI (λb r=>aE (if yO 0 b=aU then aG (Et 0 b,σ)else aH) (λv r=>aN (ob (B6 v) λc=>if yO b c=aU then aG (Et b c,σ)else aH) r) r) us
def Q3(xs:mI)(k:Nat)(b:V->M Fl):cA->M Fl
 |[],σ=>aG (.next,σ)
 |v::r,σ=>bd (b v σ) λf σ=>match f with
  |.next=>ob (W4 xs k σ) λσ=>Q3 xs k b r σ
  |.cont=>ob (W4 xs k σ) λσ=>Q3 xs k b r σ
  |.brk=>aG (.next,σ)
  |.ret v=>aG (.ret v,σ)
def vI(xs:mI)(gi:M cA)(gt:V->St->Option St)(gb:Nat->M Fl):Nat->M Fl:=λk σ=>bd (gi σ) λds σ=>if k<=σ.next then Q3 xs σ.next (λv τ=>ob (gt v τ) λτ=>gb σ.next τ) ds σ else aH
def TB(gs:List (V->St->Option St))(ds:cA)(σ:St):Option St:=match gs,ds with
 |[],[]=>aG σ
 |g::gs,d::ds=>ob (g d σ) λσ=>TB gs ds σ
 |_,_=>aH
section
variable{n:Nat}{F:Fx}
def GT(fk:hO F)(a:F.env.kindOf s=aG .globalImplicit)(b:Glo F.env s v)(hd:(s== ("__debug__":iS))=bR):iP n F (.Name s c) (gK (.fn v)):=λσ u σ' e=>by intro A X D h tk vs ok m r;refine aE1 fk.kind a (b A h tk _ m.base ?_) hd;exact ⟨h,tk,D,σ,.fn v,rfl,.refl,m,by rfl,.of e⟩
def tE{d:mU}(x:iP n F f (gK (.fn v)))(H:KQ v)(o:A0 n F v d)(t:nJ F args)(y:xH n F u args g)
  (I:eval (.Call f args [] u) F.env=(do kY u (<-eval f F.env) [] (backTo u (eD args F.env)) [])):iP n F (.Call f args [] u) (eV d g):=λσ r σ' e=>by
 obtain ⟨us,σ₁,C,e⟩:=eJ e;intro A X D h tk vs ok m _;refine (?_:bW _ _ (eval (.Call f args [] u) F.env) _ _ _);refine I▸(aK (TW.atE (x σ _ _ rfl) ok m bN.nil ?_));rintro J h₀ Q D₀ L m₀ N;clear x;subst N;have G:∀(b:eW) h₁ c D₁ i j,mZ F D₀ h₀ D₁ h₁->gU F X D₁ i h₁->bN D₁ (Yf F X D₁) h₁ j b->Db us σ₁ j i->bW (model prog w) A (call J b) (tG rV F X D h (Db r σ')) (λ_ _=>False) (iZ h₁ c):=by rintro b h₁ c D₁ i j l k s ⟨rfl,rfl⟩;exact bK (o us _ _ _ e A X D₁ h₁ c b ok k s) (λ_ _ p=>p.on (L.trans l)) λ_ _ z=>z
 rcases H with ⟨id,rfl⟩|⟨T,rfl⟩|⟨a,O,fd,rfl,P,hd⟩
 .refine sM (mD t) (rL t (y _ _ _ C) ok m₀ λb h₁ c D₁ i j l k s B=>?_);exact G b h₁ c D₁ i j l k s B
 .refine oL (mD t) (rL t (y _ _ _ C) ok m₀ λb h₁ c D₁ i j l k s B=>?_);exact G b h₁ c D₁ i j l k s B
 .refine Sg (o:=O) (fd:=fd) (rL t (y _ _ _ C) ok m₀ λb h₁ c D₁ i j l k s B=>?_);exact ⟨⟨k.base _ _ P,hd⟩,G b h₁ c D₁ i j l k s B⟩
def ZD{a:cA->pM}(c:∀us r,dH us=aU->a us=aG r->Xn n f us (λx=>x=r)):A0 n F f (LH a):=λus σ r σ' e=>by
 unfold LH at e;split at e
 .obtain ⟨b,d,e⟩:=dS e;refine ņ ‹_› (c us _ ‹_› d) ?_;rintro b _ rfl;exact (.of e)
 .exact gG e
def Vv:A0 n F (.builtin "len") oG:=λus σ rv σ' e=>by refine oC e λa _ e=>?_;refine mT e λe=>?_;obtain ⟨l,b,e⟩:=dS e;obtain ⟨c,e⟩:=iB e;intro A X D h tk vs ok m r;have d:=(ND (Q:=Db rv σ') b (bV c nL) (.of e)) A X D h tk vs ok m r;obtain ⟨u,f,rfl,g,rfl⟩:=r;exact d
def Dw(h:dH l=aU):(l.getD i .none).pure=true:=by
 induction l generalizing i with
 |nil=>rfl
 |cons d l a=>
  simp only [fO,eN,dT]at h
  cases i with
  |zero=>exact h.1
  |succ i=>exact a h.2
def Ov{X:gI}(g:A.handled=aH)(m:gU F X D σ h)(j:dH l=aU)(c:¬Yf F X D a)(d:IsL h a (bC xs) k)(f:bN D (Yf F X D) h l xs):
  yL F A X D h (h.push {cls:=.type "list_iterator",data:=.fields #[.ref a,.int 0 0]}) h.objs.size l:=by
 have W:=aEa (prog:=prog) (w:=w) g h.objs.size a (fI (dW d)) (bC xs);replace W:=(by simp [f.length]:(bC xs).size=aC l)▸W;refine ⟨_,_,_,"list_iterator",W,λi h' st=>?_,by decide,cY _ _,eE _,⟨⟨_,cC _ rfl,rfl,rfl⟩,d.isList.push _⟩,λb p=>?_,λi v D' Y' h' hi r s t=>?_⟩
 .obtain ⟨⟨o,u,y,_⟩,_⟩:=st;exact ⟨o,u,y⟩
 .rcases aR.mp p with q|q
  .exact .inl q
  .obtain rfl:=aM.mp q;exact .inr ⟨λz=>c (.inl z),λz=>c (.inr (.inl z)),λi z=>c (.inr (.inr ⟨i,z⟩)),_,d⟩
 .have hd:l[i]?=aG (l.getD i .none):=by simp [aY,hi]
  obtain ⟨x,B,C⟩:=f.get hd;have:x=v:=by
   have e:xs[i]?=aG v:=by simpa using r
   replace e:=B▸e;refine pH e ?_;rintro rfl;rfl
  subst this;exact fW.stepP s t _ _ (Dw j) C
def Sl{X:gI}(g:A.handled=aH)(m:gU F X D σ h)(j:dH l=aU)(c:¬Yf F X D a)(d:IsT h a (bC xs) k)(f:bN D (Yf F X D) h l xs):
  yL F A X D h (h.push {cls:=.type "tuple_iterator",data:=.fields #[.ref a,.int 0 0]}) h.objs.size l:=by
 have W:=Z6 (prog:=prog) (w:=w) g h.objs.size a (fI (dW d)) (bC xs);replace W:=(by simp [f.length]:(bC xs).size=aC l)▸W;have p:h.IsTuple a (bC xs):=⟨_,d,rfl,_,rfl⟩;refine ⟨_,_,_,"tuple_iterator",W,λi h' st=>?_,by decide,cY _ _,eE _,⟨⟨_,cC _ rfl,rfl,rfl⟩,p.push _⟩,λb r=>?_,λi v D' Y' h' hi s t u=>?_⟩
 .obtain ⟨⟨o,y,B,_⟩,_⟩:=st;exact ⟨o,y,B⟩
 .rcases aR.mp r with q|q
  .exact .inl q
  .obtain rfl:=aM.mp q;exact .inr ⟨λz=>c (.inl z),λz=>c (.inr (.inl z)),λi z=>c (.inr (.inr ⟨i,z⟩)),_,d⟩
 .have hd:l[i]?=aG (l.getD i .none):=by simp [aY,hi]
  obtain ⟨x,C,G⟩:=f.get hd;have:x=v:=by
   have e:xs[i]?=aG v:=by simpa using s
   replace e:=C▸e;refine pH e ?_;rintro rfl;rfl
  subst this;exact fW.stepP t u _ _ (Dw j) G
def Wm{X:gI}{K:pZ}(ok:wA n A)(m:gU F X D σ h)(e:Fv v=aG ds)(r:fW D (Yf F X D) h v u)
  (k:∀I h₁,yL F A X D h h₁ I ds->K (.ref I) (iZ h₁ tk)):bW (model prog w) A (pyIter u) K (λ_ _=>False) (iZ h tk):=by
 revert r;refine Vw e (λl e=>?_) λe=>DR e λl e=>?_
 .obtain ⟨c,e⟩:=iB e;refine pH e ?_;rintro rfl ⟨a,xs,rfl,d,⟨j,b⟩,f⟩;exact J4 ⟨_,b,rfl,_,rfl⟩ (k _ _ (Sl ok.hd m c d b f))
 .obtain ⟨c,e⟩:=iB e;refine pH e ?_;rintro rfl ⟨a,xs,rfl,d,⟨j,b⟩,f⟩;exact Oc b.isList (k _ _ (Ov ok.hd m c d b f))
def qE(x:iP n F e g):Rz n F e (lG g):=λσ ds σ' e=>by obtain ⟨v,σ₁,b,e⟩:=eJ e;replace e:=dS e;obtain ⟨k,c,e⟩:=e;cases e;intro A X D h tk ok m;refine TW.atE (x _ _ _ b) ok m bN.nil ?_;rintro u h₁ d D₁ f a i;exact Wm ok a c i λI j wk=>⟨h₁,D₁,_,ds,I,j,d,rfl,rfl,f,a,wk,rfl,rfl⟩
def CZ{X:gI}(d:A.handled=aH):yL F A X D h (h.push {cls:=.type "range_iterator",data:=.fields #[rawInt a,rawInt (Gb a b 1),rawInt 1]}) h.objs.size (Et a b):=by
 refine ⟨_,_,_,"range_iterator",(Walks.range d h.objs.size a 1 (Et a b).length),λi h' st=>⟨_,st,rfl⟩,by decide,cY _ _,eE _,?_,λc f=>.inl (aM.mp f),λi v D' Y' h' hi g k l=>?_⟩
 .have e:Gb a b 1=((Et a b).length:Int)-((0:Nat):Int):=by rw [rangeSize_one];simp only [Et,bB,gV];split<;>lia
  refine e▸?_;have j:a+((0:Nat):Int)*1=a:=by simp
  rw [j];exact cC _ rfl
 .obtain ⟨t,rfl⟩:=g;have:(Et a b).getD i .none=.int (a+i):=by simp only [Et,bB,gV]at hi;simp [Et,aY,hi]
  exact this▸(((by simp:a+(i:Int)*1=a+i))▸jX)
def Kt(x:iP n F (.Name "range" p) (gK (.fn (.type "range"))))(l:nJ F args)(y:xH n F i args g)
  (J:eval (.Call (.Name "range" p) args [] i) F.env=(do kY i (<-eval (.Name "range" p) F.env) [] (backTo i (eD args F.env)) [])):Rz n F (.Call (.Name "range" p) args [] i) (gH g):=λσ ds σ' e=>by
 replace e:=eJ e;obtain ⟨us,σ₁,s,e⟩:=e;intro A X D h tk ok m;refine aK (TW.atE (x σ _ _ rfl) ok m bN.nil ?_);rintro L h₀ N D₀ z m₀ B;subst B;refine oL (mD l) (rL l (y _ _ _ s) ok m₀ ?_);rintro O h₁ f D₁ P Q C G H ⟨rfl,rfl⟩;have yH:∀(a b:Int)(o:qY)(j:Nat)(t u v:Tok),o={cls:=.type "range",data:=.fields #[.int a t,.int b u,.int 1 v]}->yO a b=aU->ds=Et a b->σ'=σ₁->
   bW (model prog w) A (pyIter (.ref h₁.objs.size)) (IwR F A X D h (Db ds σ')) (λ_ _=>False) (iZ (h₁.push o) j):=by
  rintro a b o j t u v rfl d rfl rfl;simp only [yO,dT,decide_eq_true_eq]at d;exact wpAny_pyIter_range (IsRange.new h₁ a b 1 t u v) (small_one d.1.1.1 d.1.1.2 d.1.2 d.2) (⟨_,D₁,_,_,_,_,j,rfl,rfl,(z.trans C).trans (mZ.grow (cY _ _)),G.grow (cY _ _),CZ ok.hd,⟨rfl,rfl⟩⟩)
 revert H;refine xG e ?_;clear e;intro b r e
 cases r with
 |nil=>replace e:=iB e;obtain ⟨d,e⟩:=e;refine Ck e ?_;rintro rfl rfl;rintro ⟨_,_,rfl,⟨t,rfl⟩,k⟩;cases k;exact call_range_1 (yH 0 b _ (f+1+1) f t (f+1) rfl d rfl rfl)
 |cons v r=>refine mT e ?_;clear e;intro e;refine tV e ?_;clear e;intro c e;replace e:=iB e;obtain ⟨d,e⟩:=e;refine Ck e ?_;rintro rfl rfl;rintro ⟨_,_,rfl,⟨t,rfl⟩,_,_,rfl,⟨I,rfl⟩,k⟩;cases k;exact call_range_2 (yH b c _ (f+1) t I f rfl d rfl rfl)
def mM{gt:V->St->Option St}{gb:Nat->M Fl}(fk:hO F)(x:Rz n F iter G)(y:Dg n F H gt)(z:Fd n F body gb)(J:∀x,foldedSetIterable iter F.env x=pure x):
  A5 n F (.For H iter body [] ap) (vI xs G gt gb):=λk σ f σ' e=>by
 obtain ⟨ds,σ₁,L,e⟩:=eJ e;split at e
 .rename_i N;intro A X D h tk ok m;refine aD8 (bK (x _ _ _ L A X D h tk ok m) (λxv ft h₁=>bK h₁ (λit g4 p=>?_) λ_ _ q=>q) λ_ _ q=>q) J;obtain ⟨h₀,D₀,f8,qe,I,ba,O,rfl,rfl,st,m₀,⟨fp,P,Sx,T,W,R,Y,Z,B,fj,jy,hP⟩,rfl,rfl⟩:=p;have dm:=HY (Q:=Db f σ') (tk:=O) fk ok W R Y m₀ Z B fj (λb g=>(jy b g).imp id λ⟨q1,_,q2⟩=>⟨q1,q2⟩)
   (λi v h' D' hi hv C=>hP i v D' _ h' hi hv (λb o e g=>C.keep b o e (λq=>g (.inl q)) λn q=>g (.inr (.inr ⟨n,q⟩))) λa ha=>by
    rcases ha with q|q|⟨j,q⟩
    .exact .inl (.inl q)
    .rcases q with q|q
     .exact .inr (by refine (aM.mp q)▸?_;exact B)
     .exact .inl (.inr (.inl q))
    .rcases C.new j a q with q|q
     .exact .inl (.inr (.inr ⟨j,q⟩))
     .exact .inr q)
   (λi τ=>Q3 xs σ₁.next (λv τ=>ob (gt v τ) λτ=>gb σ₁.next τ) (ds.drop i) τ=aG (f,σ')) (by exact e)
   (λi τ hi c=>by
    have hd:ds.drop i=ds.getD i .none::ds.drop (i+1):=by simp [aY,hi]
    simp only [hd]at c;obtain ⟨fl,cu,d,c⟩:=eJ c;replace d:=dS d;obtain ⟨cq,e4,d⟩:=d;intro A X D h tk u ok m r;refine bK (y _ _ _ e4 A X D h tk u ok m r) (λ_ s' p=>?_) λ_ _ q=>q;refine p.el λh' aw D' ju b x7 l tg z9=>?_;replace l:=z9▸l;refine ⟨h',aw,D',_,b,rfl,x7,l,tg,?_⟩;refine kO (z _ _ _ _ d) (oB ?_);cases fl
    .obtain ⟨s,t,c⟩:=dS c;exact ⟨s,Ii t,c⟩
    .exact (.of c)
    .obtain ⟨s,t,c⟩:=dS c;exact ⟨s,Ii t,c⟩
    .exact (.of c))
   (λτ c=>by rw [qI]at c;exact (.of c))
  exact nR dm λr s' p=>by
   cases r with
   |ok f'=>exact (tZ.lower N p).on (st.toK k)
   |error e=>exact p
 .exact gG e
end
end
section
set_option backward.match.sparseCases false
def Zm{E:pZ}{P:Nat->bL->Prop}{Sx:Nat->dF->Prop}(W:Walks prog w A I y [I] N P Sx):
  ∀(n i:Nat)(s:cS)(Q:eW->qR),i+n<=N->Sx i s.heap->
   (∀vs h' f,aC vs=n->(∀(j:Nat) v,vs[j]?=aG v->P (i+j) v)->Sx (i+n) h'->(∀b o,b≠I->s.heap.get? b=aG o->h'.get? b=aG o)->Q vs {s with heap:=h',toks:=f})->
   bW (model prog w) A (draw (.ref I) n) Q E s:=by
 intro z1
 induction z1 with
 |zero=>intro i;intro s;intro Q;intro a;intro st;intro c;refine (?_:bW _ _ (pure []) Q E s);exact aW (c [] s.heap s.toks rfl (λj v e=>by simp at e) st λ_ _ _ e=>e)
 |succ n z2=>
  intro i;intro s;intro Q;intro a;intro st;intro c;refine (?_:bW _ _ (pyNext (.ref I)>>=_) Q E s);refine aK (W.item i s _ _ (aT OJ a) st λv h₁ z g h k=>?_);refine aK (cJ (z2 (i+1) _ _ (aT EZ a) h λvs l m p r t x=>aW ?_));refine c (v::vs) l m (by simp [p]) (λj u e=>?_) (by refine (show i+(n+1)=i+1+n by exact aT EV)▸?_;exact t) λb o d e=>x b o d (k b o (by simpa using d) e)
  cases j with
  |zero=>simp at e;subst e;exact g
  |succ j=>refine (show i+(j+1)=i+1+j by exact aT EV)▸?_;exact r j u (by exact e)
def pD{E:pZ}{s:cS}{Q:eW->qR}(f:n=items.length)
  (g:∀K:Bool->qR,K bR s->bW (model prog w) A (notIterableAtAll u) K E s)
  (h:∀K:pZ,(∀I h₁ a Sx,Walks prog w A I a [I] items.length (λi v=>items[i]?=aG v) Sx->Sx 0 h₁->s.heap.get? I=aH->(∀b o,s.heap.get? b=aG o->h₁.get? b=aG o)->K (.ref I) {s with heap:=h₁})->bW (model prog w) A (pyIter u) K E s)
  (k:∀h' l,(∀b o,s.heap.get? b=aG o->h'.get? b=aG o)->Q items {s with heap:=h',toks:=l}):bW (model prog w) A (unpackItems u n aH) Q E s:=by
 subst f;refine aK (g _ (aK (cJ (h _ λI h₁ a Sx W st m p=>?_))));refine aK (cJ (Zm W items.length 0 _ _ (aT FE) st λvs G H r t x y=>?_));have z:vs=items:=by
  apply List.ext_getElem? λj=>?_
  cases c:vs[j]? with
  |none=>
   have:items.length<=j:=by have:=List.getElem?_eq_none_iff.mp c;exact aT 0x16314882910161003 r this
   simp only [List.getElem?_eq_none this]
  |some v=>have:=t j v c;simpa using this.symm
 subst z;rw [if_neg (by simp)];refine aK (cJ (W.done _ _ _ (by simpa using x) λB C D=>?_));refine aW (k B C λb o e=>?_);have d:b≠I:=λq=>by simp only [q,m]at e;exact gG e
 exact D b o (by simpa using d) (y b o d (p b o e))
def Tr(v:V):Option cA:=oo (Fc v) aG (ob (SG v) aG)
def Ol(gs:List (V->St->Option St))(v:V)(σ:St):Option St:=ob (Tr v) λds=>TB gs ds σ
def Zd(gs:List (V->St->Option St))(v:V)(σ:St):Option St:=ob (Tr v) λds=>TB gs ds.reverse σ
noncomputable def Fb(gs:List (V->St->Option St))(v:V)(σ:St):Option St:=match gs with
 |[]=>aG σ
 |g::gs=>ob (g v σ) λσ=>Fb gs v σ
section
variable{n:Nat}{F:Fx}
def zL{X:gI}{K:eW->qR}(ok:wA n A)(m:gU F X D σ h)(e:Tr v=aG ds)(y:j=aC ds)(r:fW D (Yf F X D) h v u)
  (k:∀us h' p,gU F X D σ h'->mZ F D h D h'->bN D (Yf F X D) h' ds us->K us (iZ h' p)):bW (model prog w) A (unpackItems u j aH) K (λ_ _=>False) (iZ h tk):=by
 revert r;refine Vw e (λl e=>?_) λe=>DR e λl e=>?_
 .refine pH e ?_;rintro rfl ⟨a,xs,rfl,B,⟨c,d⟩,t⟩;have z:h.IsTuple a (bC xs):=⟨_,d,rfl,_,rfl⟩;refine pD (items:=xs) (by simp only [y,t.length]) (λK f=>?_) (λK f=>?_) λh' p g=>?_
  .exact aK (xJ ⟨_,d,rfl⟩ PySem.F.slot_tuple_iter.lookup (aW f))
  .have x:=fI (dW d);refine J4 z (f _ _ [h.objs.size,a] (λi h'=>h'.IsTupleIter h.objs.size a i/\h'.IsTuple a (bC xs)) (by simpa using (Z6 ok.hd h.objs.size a x (bC xs))) ⟨⟨_,cC _ rfl,rfl,rfl⟩,z.push _⟩ (eE _) (cY _ _))
  .exact k xs h' p (m.grow g) (mZ.grow g) (bN.step (λb o e _=>g b o e) (λ_ _ e=>e) (λ_ e=>.inl e) _ _ t)
 .refine pH e ?_;rintro rfl ⟨a,xs,rfl,B,⟨c,d⟩,t⟩;refine pD (items:=xs) (by refine y▸?_;exact t.length▸rfl) (λK f=>?_) (λK f=>?_) λh' p g=>?_
  .exact aK (xJ ⟨_,d,rfl⟩ slot_list_iter.lookup (aW f))
  .have x:a≠h.objs.size:=fI (dW d);refine Oc (s:=iZ h tk) d.isList (f _ _ [h.objs.size,a] (λi h'=>h'.IsListIter h.objs.size a i/\h'.IsList a (bC xs)) (by simpa using (aEa (prog:=prog) (w:=w) ok.hd h.objs.size a x (bC xs))) ⟨⟨_,cC _ rfl,rfl,rfl⟩,d.isList.push _⟩ (eE _) (cY _ _))
  .exact k xs h' p (m.grow g) (mZ.grow g) (bN.step (λb o e _=>g b o e) (λ_ _ e=>e) (λ_ e=>.inl e) _ _ t)
def N5(n:Nat)(F:Fx)(ts:List (bL->Ag Unit))(gs:List (V->St->Option St)):Prop:=ts.length=gs.length/\∀ds σ σ',TB gs ds σ=aG σ'->∀A X D h tk us,wA n A->gU F X D σ h->bN D (Yf F X D) h ds us->
 bW (model prog w) A (assignInOrder ts us) (tG rU F X D h λ_ τ=>σ'=τ) (λ_ _=>False) (iZ h tk)
def qD:N5 n F [] []:=⟨rfl,λds σ σ' e A X D h tk us ok m r=>by
 cases ds with
 |nil=>refine pH e ?_;rintro rfl;exact assignInOrder_nil ⟨h,tk,D,_,(),rfl,.refl,m,trivial,rfl⟩
 |cons d ds=>(exact gG e)⟩
def xW{gs:List (V->St->Option St)}:∀{ds:cA}{σ σ':St},TB gs ds σ=aG σ'->aC ds=gs.length:=by
 induction gs with
 |nil=>intro ds σ σ' e;cases ds with
  |nil=>rfl
  |cons d ds=>(exact gG e)
 |cons g gs a=>intro ds σ σ' e;cases ds with
  |nil=>(exact gG e)
  |cons d ds=>obtain ⟨σ₁,b,e⟩:=dS e;simp [a e]
def O0{t:bL->Ag Unit}{a:List (bL->Ag Unit)}{g:V->St->Option St}{gs:List (V->St->Option St)}
  (x:∀σ v σ',g v σ=aG σ'->∀A X D h tk u,wA n A->gU F X D σ h->fW D (Yf F X D) h v u->bW (model prog w) A (t u) (tG rU F X D h λ_ τ=>σ'=τ) (λ_ _=>False) (iZ h tk))
  (y:N5 n F a gs):N5 n F (t::a) (g::gs):=⟨by simp [y.1],λds σ σ' e A X D h tk us ok m r=>by
 cases ds with
 |nil=>(exact gG e)
 |cons d ds=>obtain ⟨σ₁,c,e⟩:=dS e;obtain ⟨u,f,rfl,i,rl⟩:=r;refine assignInOrder_cons (bK (x _ _ _ c A X D h tk u ok m i) (λ_ l p=>?_) λ_ _ q=>q);obtain ⟨h',j,D',o,b,rfl,st,k,_,rfl⟩:=p;exact bK (y.2 _ _ _ e A X D' h' j f ok k (bN.on m st rl)) (λ_ _ p=>p.on st) λ_ _ q=>q⟩
def J3(n:Nat)(F:Fx)(es:List Expr)(gs:List (V->St->Option St)):Prop:=(pF es F.env).findIdx? (·.1)=aH/\N5 n F ((pF es F.env).map (·.2)) gs
def lR:J3 n F [] []:=⟨rfl,qD⟩
def eX{g:V->St->Option St}{gs:List (V->St->Option St)}(x:Dg n F e g)(y:J3 n F es gs)(a:pF (e::es) F.env=(bR,assign e F.env)::pF es F.env):J3 n F (e::es) (g::gs):=by unfold J3;refine a▸⟨?_,O0 (λσ v σ' q A X D h tk u ok m r=>x σ v σ' q A X D h tk u ok m r) y.2⟩;have:=y.1;rw [List.findIdx?_cons];rw [this];rfl
def mR{gs:List (V->St->Option St)}(x:J3 n F es gs):Dg n F (.Tuple es c f) (Ol gs):=λσ v σ' e=>by obtain ⟨ds,a,e⟩:=dS e;intro A X D h tk u ok m r;refine aK (fM ?_);unfold unpack;refine x.1▸?_;refine aK (cJ (zL ok m a (by simp only [xW e,<-x.2.1];simp:(pF es F.env).length=aC ds) r λus h' b d st rl=>?_));exact bK (x.2.2 _ _ _ e A X D h' b us ok d rl) (λ_ _ p=>p.on st) λ_ _ q=>q
def eQ{gt:V->St->Option St}(x:iP n F e g)(y:Dg n F t gt)(d:swapsWithSole [t] e i.line F.env=pure bR)(hw:swappedStores [t] e F.env=pure aH)(j:(pF [t] F.env).map (·.2)=[assign t F.env]):A5 n F (.Assign [t] e i) (fU g gt):=λk σ f σ' q=>by refine nn λl=>?_;obtain ⟨a,σ₁,o,q⟩:=eJ q;obtain ⟨H,s,q⟩:=dS q;refine l ?_;intro A X D h tk ok m;refine Ĵ (TW.atE (x _ _ _ o) ok m bN.nil ?_) d hw;rintro u h₁ v D₁ st z r;refine j▸(bK (y _ _ _ s A X D₁ h₁ v u ok z r) (λ_ I p=>?_) λ_ _ q=>q);refine p.el λh' B D' J b C c _ G=>?_;replace c:=G▸c;exact ⟨h',B,D',_,.next,rfl,(st.trans C).toK k,c,Iy.next,.of q⟩
def oX{gs:List (V->St->Option St)}(x:iP n F e g)(y:N5 n F (names.reverse.map λn=>bindName F.env n) gs)(v:swapsWithSole [.Tuple es c tpos] e B.line F.env=pure bR)(hw:swappedStores [.Tuple es c tpos] e F.env=pure (aG names)):A5 n F (.Assign [.Tuple es c tpos] e B) (fU g (Zd gs)):=λk σ f σ' q=>by
 refine nn λC=>?_;obtain ⟨a,σ₁,G,q⟩:=eJ q;obtain ⟨Z,i,q⟩:=dS q;obtain ⟨ds,o,i⟩:=dS i;refine C ?_;intro A X D h tk ok m;refine Assign_Tuple_swapped (TW.atE (x _ _ _ G) ok m bN.nil ?_) v hw;rintro u h₁ ag D₁ st H r;have s:names.length=aC ds:=by have a1:=xW i;have t:=y.1;simp at a1 t;exact aT 0x4da315804b08961003 a1 t
 refine zL ok H o s r λus j I J L rl=>?_;have N:bN D₁ (Yf F X D₁) j ds.reverse us.reverse:=by
  clear i o s;have:∀(l:cA)(xs:eW),bN D₁ (Yf F X D₁) j l xs->bN D₁ (Yf F X D₁) j l.reverse xs.reverse:=by
   intro l
   induction l with
   |nil=>intro xs q;subst q;exact bN.nil
   |cons d l O=>intro xs q;obtain ⟨z,P,rfl,Q,R⟩:=q;simp only [List.reverse_cons];exact (O P R).append (.cons Q .nil)
  exact this _ _ rl
 refine bK (y.2 _ _ _ i A X D₁ j I us.reverse ok J N) (λ_ s' p=>?_) λ_ _ q=>q;obtain ⟨h',T,D',ju,b,rfl,W,Y,_,rfl⟩:=p;exact ⟨h',T,D',_,.next,rfl,((st.trans L).trans W).toK k,Y,Iy.next,.of q⟩
def CM{names:lT}{a:List (bL->Ag Unit)}{gs:List (V->St->Option St)}(fk:hO F)(b:lk F.bnd x=aG (p,s))(c:AI F.env p s)(y:N5 n F a gs):N5 n F ((λv=>bindName F.env s v)::a) (cG x::gs):=
 O0 (λσ v σ' e A X D h tk u ok m r=>by refine pH e ?_;rintro rfl;exact bindName_ (wP fk m b c r λh' d f g=>⟨h',d,D,_,(),rfl,g,f,trivial,rfl⟩)) y
inductive KH(n:Nat)(F:Fx):List Expr->List (V->St->Option St)->Prop where
 |nil:KH n F [] []
 |cons {t:Expr} {ts:List Expr} {g:V->St->Option St} {gs:List (V->St->Option St)} (x:Dg n F t g) (y:KH n F ts gs):KH n F (t::ts) (g::gs)
def N1{X:gI}(ok:wA n A){gs:List (V->St->Option St)}(y:KH n F h gs):∀(σ₁:St) D₁ h₁ c,gU F X D₁ σ₁ h₁->fW D₁ (Yf F X D₁) h₁ a u->Fb gs a σ₁=aG σ'->
   bW (model prog w) A (assignAll u (h.map λt=>assign t F.env)) (tG rU F X D₁ h₁ λ_ τ=>σ'=τ) (λ_ _=>False) (iZ h₁ c):=by
 induction y with
 |nil=>intro σ₁ D₁ h₁ c e r d;refine pH d ?_;rintro rfl;exact aW ⟨h₁,c,D₁,_,(),rfl,.refl,e,trivial,rfl⟩
 |cons x y i=>
  intro σ₁ D₁ h₁ c e r d;obtain ⟨m,f,d⟩:=dS d
  cases y with
  |nil=>refine pH d ?_;rintro rfl;exact x _ _ _ f A X D₁ h₁ c u ok e r
  | @cons o j g' gs' s y=>refine aK (cJ (bK (x _ _ _ f A X D₁ h₁ c u ok e r) (λ_ v p=>?_) λ_ _ q=>q));obtain ⟨h',k,D',z,b,rfl,g,l,_,rfl⟩:=p;exact bK (i _ D' h' k l (fW.on e g r) d) (λ_ _ p=>p.on g) λ_ _ q=>q
def oA{gs:List (V->St->Option St)}(x:iP n F e g)(y:KH n F c gs)(i:swapsWithSole c e j.line F.env=pure bR)(hw:swappedStores c e F.env=pure aH)(l:(pF c F.env).map (·.2)=c.map λt=>assign t F.env):A5 n F (.Assign c e j) (fU g (Fb gs)):=λk σ f σ' q=>by refine nn λo=>?_;obtain ⟨a,σ₁,s,q⟩:=eJ q;obtain ⟨I,v,q⟩:=dS q;refine o ?_;intro A X D h tk ok m;refine Ĵ (TW.atE (x _ _ _ s) ok m bN.nil ?_) i hw;rintro u h₁ z D₁ st B r;refine l▸(bK (N1 ok y _ D₁ h₁ z B r v) (λ_ J p=>?_) λ_ _ q=>q);refine p.el λh' C D' L b G d _ H=>?_;replace d:=H▸d;exact ⟨h',C,D',_,.next,rfl,(st.trans G).toK k,d,Iy.next,.of q⟩
end
end
def gT:mU:=λus σ=>aV (λu=>aV λd=>aN (ob (Jz u) λi=>aL σ i λl=>if aC l<=lim then aG (.none,{σ with cells:=put i (.list (l++[d])) σ.cells})else aH)) us
def Ay:mU:=λus σ=>aV (λu=>aV λd=>aN (ob (Jz u) λi=>aL σ i λl=>ob (J0 σ d) λl'=>if aC l<=lim/\aC l'<=lim then aG (.none,{σ with cells:=put i (.list (l++l')) σ.cells})else aH)) us
def aA1:mU:=λus σ=>aV (λu r=>ob (Jz u) λi=>aL σ i λl=>aE (if aC l<=lim then ob l.getLast? λd=>aG (d,{σ with cells:=put i (.list l.dropLast) σ.cells})else aH)
 (λv r=>aN (ob (B6 v) λk=>if k=0 then aV (λd l=>if aC l<=lim then aG (d,{σ with cells:=put i (.list l) σ.cells})else aH) l else aH) r) r) us
def zW(d:mU)(go:M V)(ga:M cA):M V:=λσ=>bd (go σ) λu σ=>ob (J0 σ u) λ_=>bd (ga σ) λus σ=>d (u::us) σ
section
variable{n:Nat}{F:Fx}
def SO(n:Nat)(F:Fx)(id:String)(d:mU):Prop:=∀us,ImT n F rV us (Ri id) (d us)
def G2(fk:hO F):SO n F "list.append" gT:=λus σ v σ' e=>by refine oC e λ_ _ e=>?_;refine oC e λ_ _ e=>?_;refine mT e λe=>?_;refine G3 e λi e=>?_;refine nn λa=>?_;obtain ⟨l,b,e⟩:=Pe e;obtain ⟨c,e⟩:=iB e;exact a (Yc fk b (bV c nL) (.of e))
def Td(fk:hO F):SO n F "list.extend" Ay:=λus σ v σ' e=>by
 refine oC e λ_ _ e=>?_;refine oC e λ_ _ e=>?_;refine mT e λe=>?_;refine G3 e λi e=>?_;refine nn λp=>?_;obtain ⟨l,s,e⟩:=Pe e;obtain ⟨l',t,e⟩:=dS e;obtain ⟨g,e⟩:=iB e;refine p ?_;intro A X D h tk vs ok m r;simp only [rN,rM]at r;obtain ⟨u,I,rfl,x,v,J,rfl,y,rfl⟩:=r;obtain ⟨a,xs,k,rfl,z,c,d⟩:=K7 m s x;obtain ⟨b,f,B,rfl,C,j⟩:=Be m t y;have o:=Wg;have G:(bC xs).size+(bC f).size<=iF:=by simp [d.length,j.length];exact aT 0x1e3148d02024680858908921004 g o
 refine call_meets Od ⟨_,c,rfl⟩ PySem.F.entry_list_extend (PySem.F.args_list_extend_2 _ _) (AutoSeq1.list_extend_list_list_0 a (bC xs) k b (bC f) B (by have H:=nQ;simp only [Gc,dT,decide_eq_true_eq,not_and,lU];intro _;assumption) (by simp [d.length];exact aT 0x58c523024680858908921004 g o:(bC xs).size<=iF) (aT UF G:(bC xs).size+(bC f).size<=iF+1)) ⟨c,C,?_⟩;exact Vh fk m z c (by simp) (d.append j) Gw (.of e)
def NN(fk:hO F):SO n F "list.pop" aA1:=λus σ v σ' e=>by
 refine oC e λ_ r e=>?_;refine G3 e ?_;clear e;intro i e;replace e:=Pe e;obtain ⟨l,o,e⟩:=e;have p:=Wg
 cases r with
 |nil=>replace e:=iB e;obtain ⟨b,e⟩:=e;replace e:=dS e;obtain ⟨d,c,e⟩:=e;replace c:=List.getLast?_eq_some_iff.mp c;obtain ⟨f,rfl⟩:=c;rw [AU]at e;simp only [bD,Bp]at b;exact YY fk o (aT 0x345150449020e248500003 p b) (.of e)
 |cons x r=>
  refine mT e ?_;clear e;intro e;refine tV e ?_;clear e;intro k e;replace e:=iB e;obtain ⟨rfl,s⟩:=e
  cases l with
  |nil=>exact gG s
  |cons d l=>
  obtain ⟨b,g⟩:=iB s;intro A X D h tk vs ok m r;obtain ⟨u,N,rfl,z,x,O,rfl,B,C⟩:=r;cases C;obtain ⟨t,rfl⟩:=B;obtain ⟨a,xs,k,rfl,G,j,H⟩:=K7 m o z;obtain ⟨y,f,rfl,I,rl⟩:=H;have J:=rl.length;have L:(bC (y::f)).size<=iF:=by
   have h1:1<=lim:=by decide
   simp;exact aT 0x1b8c52141c6901d621a40248500004 p b J h1
  refine call_meets Ah ⟨_,j,rfl⟩ R1 (PySem.F.args_list_pop_2 _ _) (MeetsSeq.list_pop_at a (bC (y::f)) k 0 t 0 y (by decide) (by simp [seqIndex?]) (by rfl) L) ⟨j,?_⟩;exact Vh fk m G j (by simp) rl I (.of g)
def Ho{o:Expr}{name:iS}{b a:ķ}{args:List Expr}{pl:Ag Bool}{id:String}{d:mU}{c:M V}{g:M cA}(slot:Ĕ "list" name id)(i:typeOf (.builtin id)=pure (.type "method_descriptor"))(j:Z7 "list")(ob:SO n F id d)
  (x:iP n F o c) (k:nJ F args) (y:xH n F a args g)
  (m:eval (.Call (.Attribute o name b) args [] a) F.env=(do
   let h<-eval o F.env
   gB b.atName
   let (f,first)<-holding [h] (getMethod h name pl)
   kY a f first (backTo a (eD args F.env)) [])):iP n F (.Call (.Attribute o name b) args [] a) (zW d c g):=λσ v σ' e=>by
 refine nn λp=>?_;obtain ⟨u,σ₁,r,e⟩:=eJ e;obtain ⟨l,s,e⟩:=dS e;obtain ⟨us,z,t,e⟩:=eJ e;refine p (Nl slot i j m k ((x _ _ _ r).mono (oB ⟨Y8 s,TW.mono (y _ _ _ t) ?_⟩)));exact oB (ob _ _ _ _ e)
end
structure tY(F:Fx)(tab:List (Nat×iS)):Prop where
 fk:hO F
 ok:∀x s,(x,s)∈tab->∃p,lk F.bnd x=aG (p,s)/\AI F.env p s
noncomputable def Ar:Nat->lT->List (Nat×iS)
 |_,[]=>[]
 |i,s::r=>(i,s)::Ar (i+1) r
def DS:∀{tab:lT}{i:Nat},(x,s)∈Ar i tab->i<=x/\tab[x-i]?=aG s:=by
 intro z1
 induction z1 with
 |nil=>intro i;intro h;cases h
 |cons t tab z4=>
  intro i;intro h;rcases aR.mp h with e|h
  .refine Ō e ?_;rintro rfl rfl;simp
  .obtain ⟨a,b⟩:=z4 h;refine ⟨aT Py a,?_⟩;rw [show x-i=(x-(i+1))+1 by exact aT Ī a];simpa using b
def lH.tab{fd:sL}{tab:lT}(d:lH fd tab)(L a:cR):tY (vH fd L a tab) (Ar 0 tab)where
 fk:=d.fx L a
 ok:=λx s h=>by
  obtain ⟨_,b⟩:=DS h;refine ⟨_,Tg (bI _) b,?_⟩;have f:=aJ b;unfold Vp;rcases d.names s f with q|⟨q,g⟩<;>rw [q]
  .exact ⟨rfl,q⟩
  .obtain ⟨c,e⟩:=eF.mp (g (L+1));rw [e];exact ⟨q,e⟩
section
variable{n:Nat}{F:Fx}{tab:List (Nat×iS)}
def dA(T:tY F tab)(h:(x,s)∈tab)(hd:(s== ("__debug__":iS))=bR):iP n F (.Name s c) (aP x):=by obtain ⟨p,a,b⟩:=T.ok x s h;exact PV T.fk a b hd
def rD(T:tY F tab)(h:(x,s)∈tab):Dg n F (.Name s c) (cG x):=by obtain ⟨p,a,b⟩:=T.ok x s h;exact GQ T.fk a b
def Hm{f:V->V->M V}(T:tY F tab)(h:(x,s)∈tab)(o:Ei n F (inplaceOp a) f)
  (y:iP n F e g):A5 n F (.AugAssign (.Name s pos') a e d) (T8 x f g):=by
 obtain ⟨p,b,c⟩:=T.ok x s h;exact PU T.fk b c o y
def gJ{a:List (bL->Ag Unit)}{gs:List (V->St->Option St)}(T:tY F tab)(h:(x,s)∈tab)(y:N5 n F a gs):N5 n F ((λv=>bindName F.env s v)::a) (cG x::gs):=by obtain ⟨p,b,c⟩:=T.ok x s h;exact CM (names:=[]) T.fk b c y
end
section
set_option backward.match.sparseCases false
def yE(g:M V):M V:=λσ=>bd (g σ) λv σ=>(B6 v).map λi=>(.int (-i),σ)
def Qc(n:Nat):Option Bool:=if n<=lim then aG (decide (n≠0))else aH
def Ň:V->Option Bool
 |.none=>aG bR
 |.bool b=>aG b
 |.int i=>aG (i != 0)
 |.str s=>Qc s.length
 |.scr l=>Qc (aC l)
 |_=>aH
def ĥ(σ:St)(v:V):Option Bool:=oo (Ň v) aG (ob (J0 σ v) λl=>Qc (aC l))
@[elab_as_elim] theorem ML {P:V->Bool->Prop} (e:oo (Ň v) aG g=aG b) (k0:P .none bR) (k1:∀b,P (.bool b) b) (k2:∀i,P (.int i) (i != 0)) (a:∀s,Qc s.length=aG b->P (.str s) b)
  (f:∀l,Qc (aC l)=aG b->P (.scr l) b) (d:g=aG b->P v b):P v b:=by
 cases v with
 |none=>exact pH e λq=>q▸k0
 |bool c=>exact pH e λq=>q▸k1 c
 |int i=>exact pH e λq=>q▸k2 i
 |str s=>cases h:Qc s.length with
  |none=>exact d ((congrArg (λx=>oo x aG g) h).symm.trans e)
  |some c=>exact pH ((congrArg (λx=>oo x aG g) h).symm.trans e) λq=>a s (h.trans (congrArg aG q))
 |scr l=>cases h:Qc (aC l)with
  |none=>exact d ((congrArg (λx=>oo x aG g) h).symm.trans e)
  |some c=>exact pH ((congrArg (λx=>oo x aG g) h).symm.trans e) λq=>f l (h.trans (congrArg aG q))
 |_=>exact d e
def yY(g:M V):M Bool:=λσ=>bd (g σ) λv σ=>(ĥ σ v).map λb=>(b,σ)
section
variable{n:Nat}{F:Fx}
def vW(x:iP n F e g):iP n F (.UnaryOp .USub e d) (yE g):=λσ v σ' q=>by
 replace q:=eJ q;obtain ⟨a,σ₁,b,q⟩:=q;cases a<;>simp only [B6,qX]at q<;>first|cases q|skip
 intro A X D h tk vs ok m _;refine wpAny_UnaryOp (TW.atE (x _ _ _ b) ok m bN.nil ?_);rintro u h₁ f D₁ st c r;obtain ⟨t,rfl⟩:=r;exact P.neg_int ((fS c jX ⟨rfl,rfl⟩).on st)
def X2{X:gI}{K:Bool->qR}(m:gU F X D σ h)(e:ĥ σ v=aG b)(r:fW D (Yf F X D) h v u)(k:∀p,K b (iZ h p)):bW iC A (truthy u) K (λ_ _=>False) (iZ h tk):=by
 have j:lim=1048576:=rfl;have list:∀(a:cR)(xs:eW)(l:cA),h.IsList a (bC xs)->bN D (Yf F X D) h l xs->Qc (aC l)=aG b->bW iC A (truthy (.ref a)) K (λ_ _=>False) (iZ h tk):=by
  intro a xs l f d g;obtain ⟨o,g⟩:=iB g;refine wpAny_truthy_list f (by simp [d.length];exact aT 0x718db18c6318c6318c6318c6318c630741ea14802bc6318c6386002 j o) ?_;have:(!(bC xs).isEmpty)=b:=by refine aB8 ?_ (eR g);have:=d.length;clear o;clear g;cases xs<;>cases l<;>simp_all
  exact this▸(k _)
 clear j;revert list k r;refine ML e ?_ ?_ ?_ ?_ ?_ ?_
 .intro r k _;cases r;exact aW (k _)
 .intro b r k _;cases r;exact aB3 (k _)
 .rintro i ⟨t,rfl⟩ k _;exact P.truthy_int (k _)
 .rintro s e ⟨t,rfl⟩ k _;obtain ⟨f,e⟩:=iB e;have j:lim=1048576:=rfl;refine P.truthy_str (by lia) ?_;have:((s.length:Int) != 0)=b:=by
   refine aB8 ?_ (eR e);by_cases q:s.length=0
   .simp [q]
   .have:(s.length:Int)≠0:=aT 0x160c5d2b9aa074966001 q;simp [q]
  refine this▸?_;exact k _
 .rintro l e ⟨a,xs,rfl,_,f,d⟩ _ list;exact list a xs _ f d e
 .intro e r k list;obtain ⟨l,x,e⟩:=dS e;obtain ⟨a,xs,c,rfl,y,d⟩:=Be m x r;exact list a xs l y.isList d e
def rE(x:iP n F e g)(f:isTrue e F.env (eval e F.env)=(do let v<-eval e F.env;gB e.pos;holding [v] (truthy v))):Z1 n F e (yY g):=λσ v σ' q=>by
 obtain ⟨a,σ₁,i,q⟩:=eJ q
 cases c:ĥ σ₁ a with
 |none=>rw [c]at q;exact gG q
 |some b=>replace q:=c▸q;intro A X D h tk vs ok m _;refine wpAny_isTrue_value (TW.atE (x _ _ _ i) ok m bN.nil ?_) f;rintro u h₁ k D₁ st d r;exact X2 d c r λj=>⟨h₁,j,D₁,_,_,rfl,st,d,rfl,.of q⟩
end
end
noncomputable def Yj(C:cR):Nat->lT->List (Nat×qM×iS)
 |_,[]=>[]
 |i,s::r=>(i,.loc C,s)::Yj C (i+1) r
def G8:Yj C a []=([]):=rfl
def D0:Yj C i (s::r)=((i,.loc C,s)::Yj C (i+1) r):=rfl
def nM(F:Fx)(scope:Dj)(cl:List (iS×cR))(C:cR)(base:Nat)(names:lT):Fx where
 env:=fC scope cl C F.env
 bnd:=F.bnd++Yj C base names
 Z:=C::F.Z
 B:=F.B
def mQ{c:Type}:∀(a b:List (Nat×c))(x:Nat),lk (a++b) x=match lk a x with|some v=>aG v|aH=>lk b x:=by
 intro z1
 induction z1 with
 |nil=>intro b;intro x;exact rfl
 |cons z2 a z4=>
  obtain ⟨y,v⟩:=z2;intro b;intro x;dsimp only [fV,fL,eP];split
  .rfl
  .exact z4 b x
def ZQ:∀{tab:lT}{i:Nat},lk (Yj C i tab) x=aG (p,s)->i<=x/\tab[x-i]?=aG s/\p=.loc C:=by
 intro d
 induction d with
 |nil=>intro i;intro e;simp [G8,D0,fL,eP]at e
 |cons t tab f=>
  intro i;intro e;dsimp only [G8,D0,fL,eP]at e;by_cases h:x=i
  .rw [if_pos h]at e;refine Ck e ?_;rintro rfl rfl;subst h;simp
  .rw [if_neg h]at e;refine nn λg=>?_;obtain ⟨a,b,c⟩:=f e;refine g ⟨aT Py a,?_,c⟩;simp only [show x-i=(x-(i+1))+1 by exact aT Ī a];exact b
def ZP:∀{tab:lT}{i x:Nat},i<=x->tab[x-i]?=aG s->lk (Yj C i tab) x=aG (.loc C,s):=by
 intro b
 induction b with
 |nil=>intro i;intro x;intro _;intro e;simp at e
 |cons t tab c=>
  intro i;intro x;intro a;intro e;dsimp only [G8,D0,fL,eP];by_cases h:x=i
  .subst h;simp at e;simp [e]
  .refine (if_neg h)▸(c (aT FA a h) ?_);replace e:=(show x-i=(x-(i+1))+1 by exact aT aAd a h)▸e;simpa using e
section
variable{F:Fx}{scope:Dj}{cl:List (iS×cR)}{C:cR}{base:Nat}{names:lT}
def Au(b:∀x q,lk F.bnd x=aG q->x<base)(e:lk (nM F scope cl C base names).bnd x=aG (p,s)):lk F.bnd x=aG (p,s)\/(base<=x/\names[x-base]?=aG s/\p=.loc C):=by
 have a:lk (F.bnd++Yj C base names) x=aG (p,s):=e;rw [mQ]at a
 cases q:lk F.bnd x with
 |some v=>rw [q]at a;exact .inl a
 |none=>rw [q]at a;exact .inr (ZQ a)
def Fy(e:lk F.bnd x=aG q):lk (nM F scope cl C base names).bnd x=aG q:=by refine (?_:lk (F.bnd++Yj C base names) x=aG q);simp only [mQ,e]
def Ñ(fk:hO F)(h:scope.kind=.function)(b:C∉F.Z)(i:names.Nodup)(a:∀x q,lk F.bnd x=aG q->x<base):hO (nM F scope cl C base names)where
 kind:=h
 inZ:=λx p s e=>by
  rcases Au a e with q|⟨_,_,rfl⟩
  .exact aO _ (fk.inZ x p s q)
  .exact aQ
 dist:=λx y p s c d e j f=>by
  rcases Au a e with q|⟨k,g,rfl⟩<;>rcases Au a j with r|⟨l,m,rfl⟩
  .exact fk.dist x y p s c d q r f
  .exact .inl λz=>b (by have:=fk.inZ x p s q;rw [z]at this;exact this)
  .exact .inl λz=>b (by have:=fk.inZ y c d r;rw [<-z]at this;exact this)
  .refine .inr ⟨C,rfl,rfl,λz=>f ?_⟩;subst z;have:=(pG ((cF.mp g).1) i).mp (g.trans m.symm);exact aT 0x821042084101102211194518ac825802920d221ccc21ccc1003 k l this
def Fw(T:tY F tab)(e:scope.kind=.function)(f:C∉F.Z)(g:names.Nodup)(a:∀x q,lk F.bnd x=aG q->x<base)
  (i:∀p∈cap,p∈tab/\F.env.kindOf p.2=aG .cell/\(relabel scope F.env).names.lookup p.2=aG .cell/\cl.lookup p.2=F.env.cells.lookup p.2)
  (j:∀s∈names,(relabel scope F.env).names.lookup s=aG .local):tY (nM F scope cl C base names) (cap++Ar base names)where
 fk:=Ñ T.fk e f g a
 ok:=λx s h=>by
  rcases cU.mp h with h|h
  .obtain ⟨h1,h2,h3,h4⟩:=i _ h;refine nn λk=>?_;obtain ⟨p,b,d⟩:=T.ok x s h1;refine k ⟨p,Fy b,?_⟩;clear b
   cases p with
   |loc L=>have:=d.2;replace this:=h2▸this;cases this
   |cel c=>exact ⟨h3,by simp only [<-d.2];exact h4⟩
  .obtain ⟨h1,h2⟩:=DS h;refine ⟨.loc C,?_,rfl,j s (aJ h2)⟩;refine (?_:lk (F.bnd++Yj C base names) x=_);rw [mQ]
   cases q:lk F.bnd x with
   |some v=>exact absurd (a x v q) (aT 0x318ba4a00521002 h1)
   |none=>exact ZP h1 h2
end
def KL(us:eW)(o:qY):Prop:=∃c,o={cls:=.type "list",dict:=aH,data:=.seq (bC us) c,slots:= #[]}
inductive rO(K:eW->qY->Prop)(F:Fx)(X:gI)(D:kP)(h:dF)(a:cR)(l:cA):Prop
 |mk (us:eW) (o:qY) (e:h.get? a=aG o) (k:K us o) (r:bN D (Yf F X D) h l us):rO K F X D h a l
noncomputable def zx(a:cR)(F:Fx):Fx:={F with Z:=a::F.Z}
def mZ.zx(x:mZ F D h D' h'):mZ (zx a F) D h D' h':=⟨λb o e c=>x.keep b o e λq=>c (aO _ q),x.ext,x.new,x.al⟩
inductive CbR(K:eW->qY->Prop)(F:Fx)(X:gI)(D:kP)(h:dF)(a:cR)(l:cA)(σ':St)(s':cS):Prop
 |mk (h':dF) (aw:Nat) (D':kP) (e:s'=iZ h' aw) (st:mZ (zx a F) D h D' h') (m:gU F X D' σ' h') (ac:rO K F X D' h' a l):CbR K F X D h a l σ' s'
def CbR.el{K:eW->qY->Prop}{F:Fx}{X:gI}{D:kP}{h:dF}{a:cR}{l:cA}{σ':St}{b:cS}{P0:qR}(c:CbR K F X D h a l σ' b)(z:∀(h':dF)(d:Nat)(D':kP)(st:mZ (zx a F) D h D' h')(m:gU F X D' σ' h')(ac:rO K F X D' h' a l),P0 (iZ h' d)):P0 b:=by obtain ⟨e,f,D'9,g,i,j,k⟩:=c;exact g▸z e f D'9 i j k
section
variable(n:Nat)(F:Fx)
def ı(K:eW->qY->Prop)(a:cR){α:Type}(b:Ag α)(σ:St)(xs:cA)(σ':St):Prop:=∀A X D h tk l,wA n A->X a->a∉F.Z->F.B.1.get? a=aH->gU F X D σ h->rO K F X D h a l->aC l+aC xs<=iF->
 bW (model prog w) A b (λ_ s'=>CbR K F X D h a (l++xs) σ' s') (λ_ _=>False) (iZ h tk)
abbrev CB(a:cR){α:Type}(b:Ag α)(σ:St)(xs:cA)(σ':St):Prop:=ı n F KL a b σ xs σ'
end
def yJ(gt:V->St->Option St)(gb:M cA):cA->M cA
 |[],σ=>aG ([],σ)
 |v::r,σ=>ob (gt v σ) λσ=>bd (gb σ) λxs σ=>bd (yJ gt gb r σ) λys σ=>aG (xs++ys,σ)
def Xh{gt:V->St->Option St}:yJ gt gb (v::r) σ=(ob (gt v σ) λσ=>bd (gb σ) λxs σ=>bd (yJ gt gb r σ) λa σ=>aG (xs++a,σ)):=rfl
def kD(ge:M V):M cA:=λσ=>bd (ge σ) λx σ=>aG ([x],σ)
def Kz(gi:M cA)(gt:V->St->Option St)(gb:M cA):M cA:=λσ=>bd (gi σ) λds σ=>yJ gt gb ds σ
section
variable{n:Nat}{F:Fx}
def rO.on{X:gI}{K:eW->qY->Prop}(m:gU F X D σ h)(b:X a)(c:a∉F.Z)(st:mZ F D h D' h')(x:rO K F X D h a l):rO K F X D' h' a l:=by obtain ⟨us,o,d,e,f⟩:=x;exact ⟨us,o,st.keep a _ d c (λj q=>(m.sep j a q).x b),e,bN.on m st f⟩
def C6(fk:hO F)(x:iP n F y B)(e:kD B σ=aG (xs,σ')):CB n F a (eval y F.env>>=λx=>call (.builtin "list.append") [.ref a,x]>>=λ_=>pure ()) σ xs σ':=by
 replace e:=eJ e;obtain ⟨v,σ₁,G,e⟩:=e;refine Ck e ?_;rintro rfl rfl;intro A X D h tk l ok i p H m I s;refine aK (TW.at (x _ _ _ G) ok m bN.nil ?_);rintro u h₁ J D₁ _ _ st L r ⟨rfl,rfl⟩;obtain ⟨us,_,j,⟨c,rfl⟩,t⟩:=I.on m i p st;simp only [eM,A8]at s;refine aK (call_meets qN ⟨_,j,rfl⟩ Ld (J6 _ _) (LK a (bC us) c u (by simp [(t.length)];exact aT 0xc62908121420e6002 s)) ⟨j,aW ?_⟩);have k:=IsL.update j (λz=>z.push u);have g:∀b o,b∉[a]->h₁.get? b=aG o->(h₁.update a (iX λz=>z.push u)).get? b=aG o:=λb o f e=>(gD h₁ _ (λq=>f (by simp [q]))).trans e;have N:∀b o,h₁.get? b=aG o->tI (h₁.update a (iX λz=>z.push u)) b:=λb o e=>by
  by_cases q:b=a
  .subst q;exact ⟨_,k⟩
  .exact ⟨o,g b o (by simpa using q) e⟩
 refine ⟨_,J,D₁,rfl,st.zx.trans ⟨λb o e f _=>g b o (λq=>f (by refine (aM.mp q)▸?_;exact aQ)) e,λ_ _ e=>e,λ_ _ e=>.inl e,N⟩,(L.turnX fk (λb f=>by refine (aM.mp f)▸?_;exact i) (λb f=>by refine (aM.mp f)▸?_;exact p) (λb f=>by refine (aM.mp f)▸?_;exact H) g (λb f=>by simp only [aM.mp f];exact ⟨_,k⟩)),us++[u],_,(by simp:(bC us).push u=(us++[u]).toArray)▸k,⟨_,rfl⟩,(λd v=>bN.step (λb o e f=>g b o (λq=>f (.inr (.inl (by simp only [aM.mp q];exact i)))) e) (λ_ _ e=>e) (λ_ e=>.inl e) d v) _ _ (t.append (.cons r .nil))⟩
inductive vC(F:Fx)(A:jY)(X:gI)(D:kP)(h:dF)(I:cR)(ds:cA):Prop
 |mk (iz:I∉F.Z) (ix:¬X I) (ib:F.B.1.get? I=aH) (fp:List cR) (P:Nat->bL->Prop) (Sx:Nat->dF->Prop) (T:String) (W:Walks prog w A I fp [I] (aC ds) P Sx) (hc:∀i h,Sx i h->∃o,h.get? I=aG o/\o.cls=.type T) (hT:xA.contains T=bR) (st:Sx 0 h)
  (hf:∀b∈fp,b=I\/(b∉F.Z/\¬X b/\(∀i,lk D i≠aG b)/\tI h b))
  (hP:∀i v D' Y' h',i<aC ds->P i v->(∀b o,h.get? b=aG o->¬Yf F (gR [I] X) D b->h'.get? b=aG o)->(∀a,Y' a->Yf F (gR [I] X) D a\/h.get? a=aH)->fW D' Y' h' (ds.getD i .none) v):vC F A X D h I ds
def yL.toIn{X:gI}(m:gU F X D σ h₀)(wk:yL F A X D h₀ h I ds):vC F A X D h I ds/\gU F (gR [I] X) D σ h/\(∀b o,h₀.get? b=aG o->h.get? b=aG o)/\h₀.get? I=aH:=by
 obtain ⟨j,P,Sx,T,W,f,k,d,a,g,l,p⟩:=wk;have r:F.B.1.get? I=aH:=by
  cases q:F.B.1.get? I with
  |none=>rfl
  |some o=>rw [m.fb I o q]at a;exact De a
 have s:∀i,lk D i≠aG I:=λi q=>((m.sep i I q).h).no a;have t:=m.addX d λb c=>by obtain rfl:b=I:=aM.mp c;exact ⟨a,let ⟨o,e,_⟩:=f 0 h g;⟨o,e⟩⟩
 refine ⟨⟨(λq=>((m.zfr I q).2).no a),(λq=>(m.xal I q).no a),r,j,P,Sx,T,W,f,k,g,λb c=>(l b c).imp id λ⟨u,x,y,o,z⟩=>⟨u,x,y,o,d _ _ z⟩,λi v D' Y' h' hi B G H=>p i v D' Y' h' hi B (λb o e c=>G b o (d b o e) λq=>?_) λb c=>?_⟩,t,d,a⟩
 .rcases q with q|q|q
  .exact c (.inl q)
  .rcases q with q|q
   .rw [aM.mp q,a]at e;exact gG e
   .exact c (.inr (.inl q))
  .exact c (.inr (.inr q))
 .rcases H b c with q|q
  .rcases q with q|q|q
   .exact .inl (.inl q)
   .rcases q with q|q
    .exact .inr (by refine (aM.mp q)▸?_;exact a)
    .exact .inl (.inr (.inl q))
   .exact .inl (.inr (.inr q))
  .refine .inr ?_
   cases J:h₀.get? b with
   |none=>rfl
   |some o=>rw [d b o J]at q;exact De q
structure SM(I a:cR)(F:Fx)(D:kP)(h:dF)(D':kP)(h':dF):Prop where
 keep:∀b o,h.get? b=aG o->b∉(zx I (zx a F)).Z->(∀n,lk D n≠aG b)->h'.get? b=aG o
 ext:∀n a,lk D n=aG a->lk D' n=aG a
 new:∀n a,lk D' n=aG a->lk D n=aG a\/h.get? a=aH
 al:∀b o,b≠I->h.get? b=aG o->tI h' b
inductive CbI(K:eW->qY->Prop)(F:Fx)(X:gI)(D:kP)(h:dF)(I a:cR)(l:cA)(σ':St)(r:rR)(s':cS):Prop
 |mk (er:r=.ok .next) (h':dF) (aw:Nat) (D':kP) (e:s'=iZ h' aw) (st:SM I a F D h D' h') (m:gU F X D' σ' h') (ac:rO K F X D' h' a l):CbI K F X D h I a l σ' r s'
@[elab_as_elim] theorem CbI.el {K:eW->qY->Prop} {F:Fx} {X:gI} {D:kP} {h:dF} {I a:cR} {l:cA} {σ':St} {r:rR} {c:cS} {P0:rR->qR} (d:CbI K F X D h I a l σ' r c) (z:∀(h':dF)(e:Nat)(D':kP)(st:SM I a F D h D' h')(m:gU F X D' σ' h')(ac:rO K F X D' h' a l),P0 (.ok .next) (iZ h' e)):P0 r c:=by obtain ⟨b,f,g,D'9,i,j,k,o⟩:=d;exact b▸i▸z f g D'9 j k o
def SM.from(x:SM I a F D h D' h')(c:∀b o,h₀.get? b=aG o->h.get? b=aG o)(f:h₀.get? I=aH):mZ (zx a F) D h₀ D' h':=by
 have d:∀b o,h₀.get? b=aG o->b≠I:=λb o e q=>by rw [q,f]at e;exact gG e
 refine ⟨λb o e g hd=>x.keep b o (c b o e) (λq=>?_) hd,x.ext,λn b e=>?_,λb o e=>x.al b o (d b o e) (c b o e)⟩
 .rcases aR.mp q with q|q
  .exact d b o e q
  .exact g q
 .rcases x.new n b e with q|q
  .exact .inl q
  .refine .inr ?_
   cases i:h₀.get? b with
   |none=>rfl
   |some o=>rw [c b o i]at q;exact De q
inductive CbV(K:eW->qY->Prop)(F:Fx)(X:gI)(D:kP)(h:dF)(I a:cR)(ds xs l:cA)(gt:V->St->Option St)(gb:M cA)(Sx:Nat->dF->Prop)(σ':St)(j:Nat)(s':cS):Prop
 |mk (i:Nat) (h':dF) (aw:Nat) (D':kP) (τ:St) (ys zs:cA) (ej:j=aC ds+1-i) (hi:i<=aC ds) (e:s'=iZ h' aw) (st:mZ (zx I (zx a F)) D h D' h') (m:gU F (gR [I] X) D' τ h') (sx:Sx i h') (ac:rO K F (gR [I] X) D' h' a (l++ys)) (eg:yJ gt gb (ds.drop i) τ=aG (zs,σ')) (ex:xs=ys++zs):CbV K F X D h I a ds xs l gt gb Sx σ' j s'
@[elab_as_elim] theorem CbV.el {K:eW->qY->Prop} {F:Fx} {X:gI} {D:kP} {h:dF} {I a:cR} {ds xs l:cA} {gt:V->St->Option St} {gb:M cA} {Sx:Nat->dF->Prop} {σ':St} {j:Nat} {p:cS} {P0:Nat->qR} (t:CbV K F X D h I a ds xs l gt gb Sx σ' j p) (z:∀(i:Nat)(h':dF)(u:Nat)(D':kP)(τ:St)(r s:cA)(hi:i<=aC ds)(st:mZ (zx I (zx a F)) D h D' h')(m:gU F (gR [I] X) D' τ h')(J:Sx i h')(ac:rO K F (gR [I] X) D' h' a (l++r))(L:yJ gt gb (ds.drop i) τ=aG (s,σ'))(ex:xs=r++s),P0 (aC ds+1-i) (iZ h' u)):P0 j p:=by obtain ⟨v,x,y,D'9,b,c,d,e,f,A,B,G,g,H,k,o⟩:=t;exact e▸A▸z v x y D'9 b c d f B G g H k o
theorem xC{X:gI}{K:eW->qY->Prop}{gt:V->St->Option St}
  (fk:hO F) (ok:wA n A) (k:X a) (hZ:a∉F.Z) (hB:F.B.1.get? a=aH) (hq:(aB0 e d (.ref I) (.ref a) F.env).quiet=aU)
  (t6:∀(K:Fin->qR)(E:pZ)(s:cS),bW (model prog w) A (compTurn e d (.ref I) (.ref a) F.env) K (notedBy (model prog w) A F.env E) s->bW (model prog w) (A.under (.compLoop e d (.ref I) (.ref a) F.env)) ((model prog w).den (.compLoop e d (.ref I) (.ref a) F.env)) K E s)
  (dg:compTurn e d (.ref I) (.ref a) F.env=(gB p>>=λ_=>pyNext (.ref I)>>=λr=>match r with
   |none=>pure (.done .next)
   |some v=>iH rq (.ref I) v>>=λ_=>assign rq F.env v>>=λ_=>body>>=λ_=>again (.compLoop e d (.ref I) (.ref a) F.env)))
  (wk:vC F A X D h I ds) (m1:gU F (gR [I] X) D σ h) (j6:rO K F (gR [I] X) D h a l)
  (y:Dg n F rq gt) (z:∀σ xs σ',gb σ=aG (xs,σ')->ı n F K a body σ xs σ') (eg:yJ gt gb ds σ=aG (xs,σ')) (B:aC l+aC xs<=iF):
  jC (model prog w) A (.compLoop e d (.ref I) (.ref a) F.env) (CbI K F X D h I a (l++xs) σ') (iZ h tk):=by
 obtain ⟨G,n7,k8,fp,P,Sx,T,W,f7,hT,fj,H,hP⟩:=wk;have m:I≠a:=λq=>n7 (q▸k);have t:a∉[I]:=λq=>m (aM.mp q).symm;have nI:∀b,b∉(zx I (zx a F)).Z->b∉[I]:=λb c q=>c (by refine (aM.mp q)▸?_;exact aQ);refine codeAny_loop hq (CbV K F X D h I a ds xs l gt gb Sx σ') (λj s' hj=>?_) (aC ds+1)
  ⟨0,h,tk,D,σ,[],xs,rfl,bI _,rfl,.refl,m1,fj,by simpa using j6,by simpa using eg,rfl⟩
 refine hj.el λi h' aw D' τ u zs hi st J L t7 f N=>?_;have t8:∀(h₁:dF),(tI h₁ I)->(∀b o,b∉[I]->h'.get? b=aG o->h₁.get? b=aG o)->mZ (zx I (zx a F)) D' h' D' h₁:=λh₁ qo g=>⟨λb o e x _=>g b o (nI b x) e,λ_ _ e=>e,λ_ _ e=>.inl e,λb o e=>by
  by_cases q:b=I
  .exact q▸qo
  .exact ⟨o,g b o (λz=>q (aM.mp z)) e⟩⟩
 refine t6 _ _ _ (dg▸(aK (fM ?_)));clear hq t6 dg m1 j6;rcases kL i (aC ds)with lt|ge
 .refine aK (W.item i _ _ _ lt L λv h₁ O tn jg g=>?_);refine nn λng=>?_;obtain ⟨oI,Q,cI⟩:=f7 _ _ jg;have ah:=J.turnX fk (λa R=>jR R) (Dx G) (Dx k8) g (λa R=>by refine (aM.mp R)▸?_;exact ⟨_,Q⟩);have qp:rO K F (gR [I] X) D' h₁ a (l++u):=by obtain ⟨us,o,Y,Z,ru⟩:=t7;exact ⟨us,o,g _ _ t Y,Z,bN.step (λb o e c=>g b o (λq=>c (.inr (.inl (jR q)))) e) (λ_ _ e=>e) (λ_ e=>.inl e) _ _ ru⟩
  have ar:=st.trans (t8 h₁ ⟨_,Q⟩ g);have hd:ds.drop i=ds.getD i .none::ds.drop (i+1):=by simp [aY,lt]
  rw [hd]at f;obtain ⟨cq,e1,f⟩:=dS f;obtain ⟨o7,cu,e2,f⟩:=eJ f;replace f:=eJ f;obtain ⟨t9,kg,e3,f⟩:=f;have rv:fW D' (Yf F (gR [I] X) D') h₁ (ds.getD i .none) v:=hP i v D' _ h₁ lt tn (λb o e c=>ar.keep b o e (λq=>by
    rcases aR.mp q with q|q
    .exact c (.inr (.inl (jR (by simp [q]))))
    .rcases aR.mp q with q|q
     .exact c (.inr (.inl (jQ (q▸k))))
     .exact c (.inl q)) λn q=>c (.inr (.inr ⟨n,q⟩))) λb c=>by
   rcases c with q|q|⟨j,q⟩
   .exact .inl (.inl q)
   .exact .inl (.inr (.inl q))
   .rcases ar.new j b q with q|q
    .exact .inl (.inr (.inr ⟨j,q⟩))
    .exact .inr q
  refine ng (aK (Hf Q cI hT ?_));refine aK (bK (y _ _ _ e1 A (gR [I] X) D' h₁ O v ok ah rv) (λ_ g4 pp=>?_) λ_ _ q=>q.elim);refine pp.el λbk br D₂ _ _ bn c7 _ z9=>?_;replace c7:=z9▸c7;refine aK (bK (z _ _ _ e2 A (gR [I] X) D₂ bk br (l++u) ok (jQ k) hZ hB c7 (qp.on ah (jQ k) hZ bn) (by rw [N,<-Ck f λq _=>q]at B;simp at B⊢;exact aT 0x318a488120204910840c41005 B:(l++u).length+o7.length<=iF)) (λ_ tf pp=>?_) λ_ _ q=>q.elim);refine pp.el λbf c8 D₃ fh fc qr=>?_;have jv:=bn.zx.trans fh;have o5:∀i b,lk D' i=aG b->b≠I:=λj b e q=>(J.sep j b e).x (jR (by simp [q]));have xr:=W.frame _ _ _ jg λb c o e=>by
   refine jv.keep b o e ?_ ?_
   .intro q;rcases aR.mp q with q|q
    .rcases H b c with r|⟨_,r2,_⟩
     .exact m (r.symm.trans q)
     .exact r2 (q▸k)
    .rcases H b c with e|⟨r,_,_⟩
     .exact G (e▸q)
     .exact r q
   .intro j ej;rcases H b c with e|⟨_,_,z2,o',z3⟩
    .exact o5 j b ej e
    .rcases st.new j b ej with q|q
     .exact z2 j q
     .replace q:=z3▸q;cases q
  refine aW ⟨rfl,aC ds+1-(i+1),aT 0x1282902918a80150873309070ccc838507002 lt,i+1,bf,c8,D₃,_,u++o7,t9,rfl,lt,rfl,ar.trans jv.zx,fc,xr,by simpa using qr,(Ck f λ_ q=>q)▸e3,by rw [N,<-Ck f λq _=>q];simp⟩
 .have qi:=gO hi ge;replace f:yJ gt gb [] τ=aG (zs,σ'):=by rw [qi,qI]at f;exact f
  have hnI:tI h' I:=let ⟨o,e,_⟩:=f7 _ _ L;⟨o,e⟩;refine aK (W.done _ _ _ (qi▸L) λh₁ O g=>aW ?_);obtain ⟨us,o,Y,Z,ru⟩:=t7;refine ⟨rfl,h₁,O,D',rfl,?_,Ck f λ_ q=>q▸(J.leave fk (Dx G) (Dx k8) (Dx n7) g),us,o,g _ _ t Y,Z,?_⟩
  .exact ⟨λb o e x hd=>g b o (nI b x) (st.keep b o e x hd),st.ext,st.new,λb o c e=>let ⟨o',e'⟩:=st.al b o e;⟨o',g b o' (λq=>c (aM.mp q)) e'⟩⟩
  .refine N▸Ck f λq _=>q▸?_;have:=bN.step (h':=h₁) (D':=D') (Y':=Yf F (gR [I] X) D') (λb o e c=>g b o (λq=>c (.inr (.inl (jR q)))) e) (λ_ _ e=>e) (λ_ e=>.inl e) _ _ ru;simpa using (λD' h' d v=>bN.step (λ_ _ e _=>e) (λ_ _ e=>e) (λ_ q=>.inl (AY q)) d v:∀(D':kP)(h':dF)(d:cA)(v:eW),bN D' (Yf F (gR [I] X) D') h' d v->bN D' (Yf F X D') h' d v) _ _ _ _ this
end
noncomputable def Ed{α:Type}(k:Nat):List (Nat×α)->List (Nat×α)
 |[]=>[]
 |(n,a)::r=>if n<k then (n,a)::Ed k r else Ed k r
def Xg{a:Type}:Ed k ([]:List (Nat×a))=([]):=rfl
def Xf{b:Type}{a:b}{r:List (Nat×b)}:Ed k ((n,a)::r)=(if n<k then (n,a)::Ed k r else Ed k r):=rfl
def Mu{c:Type}(k:Nat):∀(D:List (Nat×c))(n:Nat),lk (Ed k D) n=if n<k then lk D n else aH:=by
 intro z1
 induction z1 with
 |nil=>intro n;simp [Xg,Xf,fL,eP]
 |cons z2 r z4=>
  obtain ⟨m,a⟩:=z2;intro n;simp only [Xg,Xf];by_cases h:m<k
  .rw [if_pos h];simp only [fL,eP];by_cases e:n=m
   .subst e;simp [h]
   .simp only [if_neg e];exact z4 n
  .rw [if_neg h];refine (z4 n)▸?_;by_cases b:n<k
   .have:n≠m:=λq=>h (q▸b);simp [fL,eP,this]
   .simp [b]
def Ec(k:Nat)(σ:St):St:={σ with loc:=Ed k σ.loc}
def lI(base:Nat)(gi:M cA)(gt:V->St->Option St)(gb:M cA):M V:=λσ=>bd (gi σ) λds σ=>bd (yJ gt gb ds σ) λxs σ=>if aC xs<=lim then aG (.lst xs,Ec base σ)else aH
section
variable{n:Nat}{F:Fx}
def vC.self{X:gI}{K:pZ}{E:pZ}(wk:vC F A X D h I ds)(k:K (.ref I) (iZ h tk)):bW iC A (pyIter (.ref I)) K E (iZ h tk):=by refine nn λa=>?_;obtain ⟨_,_,_,c,P,Sx,T,W,_,_,b,_,_⟩:=wk;exact a (W.self 0 _ _ _ b k)
inductive CE:Expr->List KZ->Prop
 |lst (di:Expr) (gens:List KZ) (scope:Dj) (ap:ķ):CE (.ListComp di gens scope ap) gens
 |dct (k v:Expr) (gens:List KZ) (scope:Dj) (ap:ķ):CE (.DictComp k v gens scope ap) gens
def rJ{R:rR->qR}{s:cS}{e:Expr}(i:CE e gens)(j:gens[d]?=aG g)(k:(g.is_async != 0)=bR)
  (h0:jC iC A (.compLoop e d b c env) R s)
  (h:bW iC A (pyIter b) (λf a=>jC iC A (.compLoop e d f c env) R a) (notedBy iC A env λx a=>R (.error x) a) s):
  jC iC A (.compStart e d b c env) R s:=by
 cases i;all_goals
  refine xL ?_;show bW _ _ ((compStart _ d b c env).onRaise (λx=>do noteFrame x env;gB theWindowsPlace)) _ _ s;refine wpAny_notedAt ?_;unfold compStart;refine (j)▸((?_:bW _ _ (if (g.is_async != 0)=aU then _ else _) _ _ s));refine k▸((?_:bW _ _ (ask>>=_) _ _ s));refine aK (wpAny_askSetting (wpAny_ite ?_));split
  .first
    |exact aK (aW (aW (Xs rfl h0)))
    |exact aW (Xs rfl h0)
  .refine aK (zB ((?_:bW _ _ (gB g.iter.pos>>=_) _ _ s)));exact aK (fM (aK (bK h (λf a h'=>aW (Xs rfl h')) λ_ _ x=>x)))
def rK{e:Expr}(b:CE e gens)(K:Fin->qR)(E:pZ)(s:cS)(h:bW iC A (compTurn e d (.ref I) (.ref a) env) K (notedBy iC A env E) s):
  bW iC (A.under (.compLoop e d (.ref I) (.ref a) env)) (iC.den (.compLoop e d (.ref I) (.ref a) env)) K E s:=by
 cases b;all_goals
  show bW _ _ ((compTurn _ d (.ref I) (.ref a) env).onRaise (λx=>do noteFrame x env;theTreesLotGoes x)) _ _ s;exact wpAny_noted h
theorem RZ{a:cR}{K:eW->qY->Prop}{ex:Expr}{p:ķ}{d:Nat}{f iter:Expr}{body:Ag Unit}{k:M cA}{gt:V->St->Option St}{gb:M cA}{σ σ':St}{xs:cA}(fk:hO F)(s:CE ex gens)(J:∃g,gens[d]?=aG g/\(g.is_async != 0)=bR)
  (L:∀x,foldedSetIterable iter F.env x=pure x)
  (N:∀I,compTurn ex d (.ref I) (.ref a) F.env=(gB p>>=λ_=>pyNext (.ref I)>>=λr=>match r with
   |none=>pure (.done .next)
   |some v=>iH f (.ref I) v>>=λ_=>assign f F.env v>>=λ_=>body>>=λ_=>again (.compLoop ex d (.ref I) (.ref a) F.env)))
  (x:Rz n F iter k) (y:Dg n F f gt) (z:∀σ xs σ',gb σ=aG (xs,σ')->ı n F K a body σ xs σ') (e:Kz k gt gb σ=aG (xs,σ')):
  ı n F K a (eval iter F.env>>=λx=>gB iter.pos>>=λ_=>foldedSetIterable iter F.env x>>=λx=>holding [x] (pyIter x)>>=λt=>runOwn (.compStart ex d t (.ref a) F.env) F.env>>=λ_=>pure ()) σ xs σ':=by
 refine nn λc=>?_;obtain ⟨ds,σ₁,O,e⟩:=eJ e;obtain ⟨g,P,Q⟩:=J;refine c ?_;intro A X D h tk l ok u B R m T W;refine aK (bK (x _ _ _ O A X D h tk ok m) (λY ft h₁=>aK (fM (aK (Ē (L Y) (aK (cJ (bK h₁ (λt g4 i=>?_) λ_ _ q=>q))))))) λ_ _ q=>q);obtain ⟨h₀,D₀,f8,qe,I,Z,ag,rfl,rfl,st,m₀,wk,rfl,rfl⟩:=i;refine nn λc=>?_;obtain ⟨C,m1,j,G⟩:=wk.toIn m₀;refine c ?_;have j6:rO K F (gR [I] X) D₀ Z a l:=by
  refine nn λc=>?_;obtain ⟨us,o,hu,hk,ru⟩:=(T.on m u B st);refine c ⟨us,o,j _ _ hu,hk,bN.step (λb o e _=>j b o e) (λ_ _ e=>e) (λb q=>?_) _ _ ru⟩;rcases q with q|q|q
  .exact .inl (.inl q)
  .rcases q with q|q
   .exact .inr (by refine (aM.mp q)▸?_;exact G)
   .exact .inl (.inr (.inl q))
  .exact .inl (.inr (.inr q))
 have H:=xC (tk:=ag) fk ok u B R rfl (rK s) (N I) C m1 j6 y z e W;refine aK (wpAny_runOwn (nR (rJ s P Q H (C.self H)) λr s' i=>?_));refine i.el λh' aw D' jw m' gu=>?_;exact aW ⟨h',aw,D',rfl,st.zx.trans (jw.from j G),m',gu⟩
def gU.into{X:gI}{base:Nat}(m:gU F X D σ h)(G:∀x q,lk F.bnd x=aG q->x<base)(f:∀b o,h.get? b=aG o->h'.get? b=aG o)(l:h.get? C=aH){r:iS->Option bL}(t:h'.Ns C r):gU (nM F scope cl C base names) X D σ h':=by
 have y:∀a,Yf (nM F scope cl C base names) X D a->Yf F X D a\/h.get? a=aH:=λa q=>by
  rcases q with q|q|q
  .rcases aR.mp q with q|q
   .exact .inr (q▸l)
   .exact .inl (.inl q)
  .exact .inl (.inr (.inl q))
  .exact .inl (.inr (.inr q))
 have z:∀d v,fW D (Yf F X D) h d v->fW D (Yf (nM F scope cl C base names) X D) h' d v:=λd v=>fW.step (λb o e _=>f b o e) (λ_ _ e=>e) y d v;have A:∀b o,h.get? b=aG o->b≠C:=λb o e q=>by rw [q,l]at e;exact gG e
 refine ⟨λb o e=>f b o (m.fb b o e),λx v e=>?_,λx p s e=>?_,λi c e=>?_,m.inj,λi a e=>?_,λa e=>?_,λa e=>?_⟩
 .obtain ⟨p,s,u,j,k,H⟩:=m.loc x v e;exact ⟨p,s,u,Fy j,k.keep λo=>f _ o,z _ _ H⟩
 .rcases Au G e with q|⟨_,_,rfl⟩
  .exact (m.frm x p s q).keep λo=>f _ o
  .exact ⟨r,t⟩
 .obtain ⟨a,j,k⟩:=m.cel i c e;exact ⟨a,j,k.on z (λd v=>bN.step (λb o e _=>f b o e) (λ_ _ e=>e) y d v) λo=>f _ o⟩
 .obtain ⟨a1,g,I,⟨o,B⟩,J⟩:=m.sep i a e;refine ⟨λq=>?_,g,I,⟨o,f _ _ B⟩,J⟩;rcases aR.mp q with q|q
  .exact A a o B q
  .exact a1 q
 .rcases aR.mp e with q|q
  .subst q;refine ⟨?_,(let ⟨o,_,_,e,_⟩:=t;⟨o,e⟩)⟩
   cases q:F.B.1.get? a with
   |none=>first|rfl|exact q
   |some o=>exact absurd rfl (A a o (m.fb a o q))
  .obtain ⟨a1,o,g⟩:=m.zfr a q;exact ⟨a1,o,f _ _ g⟩
 .obtain ⟨o,g⟩:=m.xal a e;exact ⟨o,f _ _ g⟩
def gU.outof{X:gI}{base:Nat}(fk:hO F)(r:C∉F.Z)(t:¬X C)(y:∀x q,lk F.bnd x=aG q->x<base)(m:gU (nM F scope cl C base names) X D σ h)(f:∀b o,b≠C->h.get? b=aG o->h'.get? b=aG o):gU F X D (Ec base σ) h':=by
 have B:∀a,Yf F X D a->Yf (nM F scope cl C base names) X D a\/h.get? a=aH:=λa q=>by
  rcases q with q|q|q
  .exact .inl (.inl (aO _ q))
  .exact .inl (.inr (.inl q))
  .exact .inl (.inr (.inr q))
 have g:∀b o,h.get? b=aG o->¬Yf (nM F scope cl C base names) X D b->h'.get? b=aG o:=λb o e y=>f b o (λq=>y (.inl (by refine q▸?_;exact aQ))) e;have G:∀d v,fW D (Yf (nM F scope cl C base names) X D) h d v->fW D (Yf F X D) h' d v:=λd v=>fW.step g (λ_ _ e=>e) B d v;refine ⟨λb o e=>f b o (λq=>by rw [q,(show F.B.1.get? C=aH from (m.zfr C aQ).1)]at e;exact gG e) (m.fb b o e),λx v e=>?_,λx p s e=>?_,λi c e=>?_,m.inj,λi a e=>?_,λa e=>?_,λa e=>?_⟩
 .have k:lk (Ed base σ.loc) x=aG v:=e;simp only [Mu]at k;split at k
  .rename_i H;obtain ⟨p,s,u,l,A,I⟩:=m.loc x v k;rcases Au y l with q|⟨q,_,_⟩
   .exact ⟨p,s,u,q,A.keep λo=>f _ o (λz=>r (z▸fk.inZ x p s q)),G _ _ I⟩
   .exact iV (aT OA H q)
  .exact gG k
 .exact (m.frm x p s (Fy e)).keep λo=>f _ o (λz=>r (z▸fk.inZ x p s e))
 .obtain ⟨a,l,A⟩:=m.cel i c e;exact ⟨a,l,A.on G (λd v=>bN.step g (λ_ _ e=>e) B d v) λo=>f _ o (λz=>(m.sep i a l).z (by refine z▸?_;exact aQ))⟩
 .obtain ⟨a1,j,J,⟨o,L⟩,N⟩:=m.sep i a e;exact ⟨λq=>a1 (aO _ q),j,J,⟨o,f _ _ (λz=>a1 (by refine z▸?_;exact aQ)) L⟩,N⟩
 .obtain ⟨a1,o,j⟩:=m.zfr a (aO _ e);exact ⟨a1,o,f _ _ (λz=>r (z▸e)) j⟩
 .obtain ⟨o,j⟩:=m.xal a e;exact ⟨o,f _ _ (λz=>t (z▸e)) j⟩
def vC.up{X:gI}(wk:vC F A X D h I ds)(g:∀b o,h.get? b=aG o->h'.get? b=aG o)(j:h.get? a=aH)(k:h.get? C=aH):vC (nM F scope cl C base names) A (gR [a] X) D h' I ds:=by
 obtain ⟨u,x,y,p,P,Sx,T,W,r,z,s,t,B⟩:=wk;have f:∀b o c,h.get? b=aG o->h.get? c=aH->b≠c:=λb o c e G q=>by rw [q,G]at e;exact gG e
 obtain ⟨Z,l,_⟩:=r 0 h s;have al:∀b∈p,tI h b:=λb d=>by
  rcases t b d with zq|⟨_,_,_,q⟩
  .exact zq▸(⟨_,l⟩)
  .exact q
 refine ⟨λq=>?_,λq=>?_,y,p,P,Sx,T,W,r,z,W.frame _ _ _ s λb d o e=>g b o e,λb d=>?_,λi v D' Y' H hi J L N=>B i v D' Y' H hi J (λb o e d=>L b o (g b o e) λq=>?_) λb d=>?_⟩
 .rcases aR.mp q with q|q
  .exact f _ _ _ l k q
  .exact u q
 .rcases q with q|q
  .exact f _ _ _ l j (aM.mp q)
  .exact x q
 .refine (t b d).imp id λ⟨O,Q,R,o,m⟩=>⟨λq=>?_,λq=>?_,R,o,g _ _ m⟩
  .rcases aR.mp q with q|q
   .exact f _ _ _ m k q
   .exact O q
  .rcases q with q|q
   .exact f _ _ _ m j (aM.mp q)
   .exact Q q
 .rcases q with q|q|q
  .rcases aR.mp q with q|q
   .exact f _ _ _ e k q
   .exact d (.inl q)
  .rcases q with q|q|q
   .exact d (.inr (.inl (jR q)))
   .exact f _ _ _ e j (aM.mp q)
   .exact d (.inr (.inl (jQ q)))
  .exact d (.inr (.inr q))
 .rcases N b d with q|q
  .rcases q with q|q|q
   .rcases aR.mp q with q|q
    .exact .inr (q▸k)
    .exact .inl (.inl q)
   .rcases q with q|q|q
    .exact .inl (.inr (.inl (jR q)))
    .exact .inr (by refine (aM.mp q)▸?_;exact j)
    .exact .inl (.inr (.inl (jQ q)))
   .exact .inl (.inr (.inr q))
  .refine .inr ?_
   cases Y:h.get? b with
   |none=>rfl
   |some o=>rw [g b o Y]at q;exact De q
end
def Ig(mk:cA->pM)(base:Nat)(gi:M cA)(gt:V->St->Option St)(gb:M cA):M V:=λσ=>bd (gi σ) λds σ=>bd (yJ gt gb ds σ) λxs σ=>if aC xs<=lim then ob (mk xs) λv=>aG (v,Ec base σ)else aH
section
variable{n:Nat}{F:Fx}
def Kw{K:eW->qY->Prop}{mk:cA->pM}{ex:Expr}{l5:Ag bL}{T:String}{data:Data}{body:cR->cR->Ag Unit}{gt:V->St->Option St}
  (fk:hO F) (f:∀x q,lk F.bnd x=aG q->x<base) (c6:names≠[]) (ha:(g.is_async != 0)=bR)
  (ce:CE ex (g::gs)) (hq:∀d I a env,(aB0 ex d (.ref I) (.ref a) env).quiet=aU) (qs:l5=newObj (.type T) data) (B:K [] {cls:=.type T,dict:=aH,data:=data}) (xw:clausesOf ex=g::gs) (og:sizeOk data) (r5:({cls:=.type T,dict:=aH,data:=data}:qY).isFreed=bR)
  (G:∀D Y h a xs us o v,mk xs=aG v->h.get? a=aG o->K us o->¬Y a->bN D Y h xs us->fW D Y h v (.ref a))
  (j7:eval ex F.env=comprehension ex scope F.env pos' l5 bR (eval g.iter F.env))
  (hf:∀x,foldedSetIterable g.iter F.env x=pure x) (cw:closureFor scope F.env=pure cl) (cf:∀y∈scope.names,y.2≠.cell) (bu:scope.kind=.function)
  (bw:∀y∈scope.names,y.2=.local->scope.names.lookup y.1=aG .local)
  (jr:∀C,C∉F.Z->hO (nM F scope cl C base names))
  (dg:∀C a I,compTurn ex 0 (.ref I) (.ref a) (fC scope cl C F.env)=(gB p>>=λ_=>pyNext (.ref I)>>=λr=>match r with
   |none=>pure (.done .next)
   |some v=>iH g.target (.ref I) v>>=λ_=>assign g.target (fC scope cl C F.env) v>>=λ_=>body C a>>=λ_=>again (.compLoop ex 0 (.ref I) (.ref a) (fC scope cl C F.env))))
  (x:Rz n F g.iter gi) (y:∀C,C∉F.Z->Dg n (nM F scope cl C base names) g.target gt)
  (z:∀C a,C∉F.Z->∀σ xs σ',gb σ=aG (xs,σ')->ı n (nM F scope cl C base names) K a (body C a) σ xs σ'):
  iP n F ex (Ig mk base gi gt gb):=λσ v σ' e=>by
 replace e:=eJ e;obtain ⟨ds,σ₁,e1,e⟩:=e;replace e:=eJ e;obtain ⟨xs,be,e2,e⟩:=e;split at e
 .rename_i dp;obtain ⟨vv,e3,e⟩:=dS e;refine Ck e ?_;rintro rfl rfl;intro A X D h tk vs ok m _;refine (?_:bW _ _ (eval ex F.env) _ _ _);refine j7▸(sJ xw hf cw bu bw (bK (x _ _ _ e1 A X D h tk ok m) (λxv ft h₁=>bK h₁ (λit g4 H=>?_) λ_ _ q=>q) λ_ _ q=>q));refine nn λJ=>?_;obtain ⟨h₀,D₀,f8,qe,I,c,ag,rfl,rfl,st,m₀,wk,rfl,rfl⟩:=H;obtain ⟨wi,j,l,gj⟩:=wk.toIn m₀;refine J (qs▸?_);refine nP (Ff cf (by intro y hy;simp at hy) (λL N O=>?_) bu) og;dsimp only at N O⊢;generalize P:c.push {cls:=.type T,dict:=aH,data:=data}=H2 at N O⊢;have Q:∀b o,c.get? b=aG o->H2.get? b=aG o:=λb o e=>P▸cY _ _ b o e;have R:∀b o,H2.get? b=aG o->L.get? b=aG o:=λb o e=>O.extBut b o (fI (dW e)) (cY _ _ b o e);have s:∀b o,c.get? b=aG o->L.get? b=aG o:=λb o e=>R b o (Q b o e);have aN:c.get? c.objs.size=aH:=eE _;have W:H2.get? H2.objs.size=aH:=eE _;have Z:c.get? H2.objs.size=aH:=by
   cases q:c.get? H2.objs.size with
   |none=>rfl
   |some o=>rw [Q _ _ q]at W;exact De W
  have j9:∀b,c.get? b=aH->h₀.get? b=aH:=λb e=>by
   cases q:h₀.get? b with
   |none=>rfl
   |some o=>rw [l _ _ q]at e;exact De e
  have km:H2.get? c.objs.size=aG {cls:=.type T,dict:=aH,data:=data}:=P▸cC _ r5;have eh:∀b,c.get? b=aH->b∉F.Z/\¬X b/\(∀i,lk D₀ i≠aG b)/\F.B.1.get? b=aH:=λb e=>by
   refine ⟨λq=>?_,λq=>?_,λi q=>?_,?_⟩
   .exact ((j.zfr b q).2).no e
   .exact (j.xal b (jQ q)).no e
   .exact ((j.sep i b q).h).no e
   .cases q:F.B.1.get? b with
    |none=>rfl
    |some o=>rw [j.fb b o q]at e;exact De e
  refine nn λJ=>?_;obtain ⟨aZ,aX,aD,aB⟩:=eh _ aN;obtain ⟨t,cX,cD,cB⟩:=eh _ Z;refine J ?_;have l6:c.objs.size≠H2.objs.size:=by simp only [(by simp only [<-P,eY]:H2.objs.size=c.objs.size+1)];exact fI (gS _)
  have m2:=j.addX Q λb f=>by obtain rfl:=aM.mp f;exact ⟨aN,_,km⟩
  have l7:gU (nM F scope cl H2.objs.size base names) (gR [I] (gR [c.objs.size] X)) D₀ σ₁ L:=(m2.into f R W N).dropX λb q=>by
   rcases q with q|q|q
   .exact jQ (jR q)
   .exact jR q
   .exact jQ (jQ q)
  have kh:=wi.up (scope:=scope) (cl:=cl) (base:=base) (names:=names) s aN Z;have l8:c.objs.size∉(nM F scope cl H2.objs.size base names).Z:=λq=>by
   rcases aR.mp q with q|q
   .exact l6 q
   .exact aZ q
  have gd:=xC (F:=nM F scope cl H2.objs.size base names) (tk:=ag+([]:List (iS×bL)).length) (jr _ t) ok (jR (by simp)) l8 aB (hq _ _ _ _) (rK ce) (dg _ _ I) kh l7 (⟨[],_,R _ _ km,B,bN.nil⟩) (y _ t) (z _ _ t) e2 (bV (by simpa using dp) nL);refine nR (rJ (g:=g) ce rfl ha gd (kh.self gd)) λr s' H=>?_;obtain ⟨rfl,h',aw,D',rfl,u,m',gu⟩:=H;obtain ⟨nm,ns,ub⟩:=wI c6;have ma:sX h' (.loc H2.objs.size):=m'.frm base (.loc H2.objs.size) nm (by
   refine (?_:lk (F.bnd++Yj H2.objs.size base names) base=_);simp only [mQ]
   cases q:lk F.bnd base with
   |some v=>exact absurd (f base v q) (eG _)
   |none=>refine ub▸?_;simp [G8,D0,fL,eP])
  obtain ⟨mm,qt⟩:=ma;refine ⟨mm,qt,λjp ii=>?_⟩;have k:∀b o,b≠H2.objs.size->h'.get? b=aG o->jp.get? b=aG o:=λb o f e=>ii.extBut b o f e;have ud:mZ F D₀ h₀ D' jp:=by
   have nn:∀b o,h₀.get? b=aG o->b≠I/\b≠c.objs.size/\b≠H2.objs.size:=λb o e=>⟨λq=>(by rw [q,gj]at e;exact gG e),λq=>(by rw [q,j9 _ aN]at e;exact gG e),λq=>(by rw [q,j9 _ Z]at e;exact gG e)⟩;refine ⟨λb o e hz hd=>k b o (nn b o e).2.2 (u.keep b o (s _ _ (l _ _ e)) (λq=>?_) hd),u.ext,λi b e=>?_,λb o e=>?_⟩
   .rcases aR.mp q with q|q
    .exact (nn b o e).1 q
    .rcases aR.mp q with q|q
     .exact (nn b o e).2.1 q
     .rcases aR.mp q with q|q
      .exact (nn b o e).2.2 q
      .exact hz q
   .rcases u.new i b e with q|q
    .exact .inl q
    .refine .inr ?_
     cases q':h₀.get? b with
     |none=>rfl
     |some o=>rw [s _ _ (l _ _ q')]at q;exact De q
   .obtain ⟨o',e'⟩:=u.al b o (nn b o e).1 (s _ _ (l _ _ e));exact ⟨o',k b o' (nn b o e).2.2 e'⟩
  refine ⟨jp,aw,D',Ec base be,vv,rfl,st.trans ud,(gU.outof fk t cX f (m'.dropX λb q=>jQ q) k),?_,rfl,rfl⟩;obtain ⟨us,o,hu,hk,ru⟩:=gu;refine G _ _ _ _ _ us o _ e3 (k _ _ l6 hu) hk (λq=>?_) ?_
  .rcases q with q|q|⟨i,q⟩
   .exact aZ q
   .exact aX q
   .exact (λi q=>(m'.sep i _ q).x (jR (by simp))) i q
  .refine bN.step (λb o e f=>k b o (λq=>f (.inl (by simp only [q];exact aQ))) e) (λ_ _ e=>e) (λb q=>?_) _ _ ru;rcases q with q|q|q
   .exact .inl (.inl (aO _ q))
   .exact .inl (.inr (.inl (jQ q)))
   .exact .inl (.inr (.inr q))
 .exact gG e
theorem GU{body:cR->cR->Ag Unit}{gt:V->St->Option St}
  (fk:hO F) (f:∀x q,lk F.bnd x=aG q->x<base) (i:names≠[]) (j:(g.is_async != 0)=bR)
  (k:eval (.ListComp b (g::gs) scope d) F.env=comprehension (.ListComp b (g::gs) scope d) scope F.env pos' (newList []) bR (eval g.iter F.env))
  (l:∀x,foldedSetIterable g.iter F.env x=pure x) (m:closureFor scope F.env=pure cl) (s:∀y∈scope.names,y.2≠.cell) (t:scope.kind=.function)
  (u:∀y∈scope.names,y.2=.local->scope.names.lookup y.1=aG .local)
  (A:∀C,C∉F.Z->hO (nM F scope cl C base names))
  (B:∀C a I,compTurn (.ListComp b (g::gs) scope d) 0 (.ref I) (.ref a) (fC scope cl C F.env)=(gB p>>=λ_=>pyNext (.ref I)>>=λr=>match r with
   |none=>pure (.done .next)
   |some v=>iH g.target (.ref I) v>>=λ_=>assign g.target (fC scope cl C F.env) v>>=λ_=>body C a>>=λ_=>again (.compLoop (.ListComp b (g::gs) scope d) 0 (.ref I) (.ref a) (fC scope cl C F.env))))
  (x:Rz n F g.iter G) (y:∀C,C∉F.Z->Dg n (nM F scope cl C base names) g.target gt)
  (z:∀C a,C∉F.Z->∀σ xs σ',gb σ=aG (xs,σ')->CB n (nM F scope cl C base names) a (body C a) σ xs σ'):
  iP n F (.ListComp b (g::gs) scope d) (lI base G gt gb):=
 Kw (mk:=λxs=>aG (.lst xs)) fk f i j (.lst _ _ _ _) (λ_ _ _ _=>rfl) rfl ⟨_,rfl⟩ rfl (by size_fits) rfl (λD Y h a xs us o v e H J L r=>by cases e;obtain ⟨c,rfl⟩:=J;exact ⟨a,us,rfl,L,⟨c,H⟩,r⟩) k l m s t u A B x y z
end
section
set_option backward.match.sparseCases false
section
variable{n:Nat}{F:Fx}
def HZ{X:gI}{gs:List (V->St->Option St)}{Q:Fl->gZ}
  (fk:hO F) (ok:wA n A) (wr:e≠d) (m:gU F X D σ h₀) (C:∀b o,h₀.get? b=aG o->h.get? b=aG o) (B:h₀.get? e=aH) (gj:h₀.get? d=aH)
  (he:∃old,IsEnum h e d 0 old) (i4:h.IsListIter d l 0) (nl:¬Yf F X D l) (v:IsL h₀ l (bC xs) kk) (rx:bN D (Yf F X D) h₀ ds xs) (hp:dH ds=aU) (g:J3 n F es gs)
  (J:Nat->gZ) (hJ:J 0 σ)
  (ec:∀(i:Nat) σ',i<aC ds->J i σ'->∃σ₁,TB gs [.int i,ds.getD i .none] σ'=aG σ₁/\SW k n F body σ₁ (SL k Q (J (i+1))))
  (done:∀σ',J (aC ds) σ'->Q .next σ'):
  jC iC A (.forLoop (.Tuple es c tpos) (.ref e) body [] F.env) (λr O=>match r with|.ok f=>tZ rF F X k D h₀ Q f O|.error e=>cameBackBy iC A F.env (λ_ _=>False) e O) (iZ h tk):=by
 have P:∀b,h₀.get? b=aH->b∉F.Z/\¬X b/\(∀i,lk D i≠aG b)/\F.B.1.get? b=aH:=λb e=>by
  refine ⟨λq=>?_,λq=>?_,λi q=>?_,?_⟩
  .exact ((m.zfr b q).2).no e
  .exact (m.xal b q).no e
  .exact ((m.sep i b q).h).no e
  .cases q:F.B.1.get? b with
   |none=>rfl
   |some o=>rw [m.fb b o q]at e;exact De e
 have y:∀b∈[e,d],h₀.get? b=aH:=λb p=>by
  rcases aR.mp p with q|p
  .exact q▸B
  .refine (aM.mp p)▸?_;exact gj
 have W:=WalksT.enumerate (prog:=prog) (w:=w) ok.hd e d l wr (λq=>by simp only [q,IsL,B]at v;exact gG v) (λq=>by simp only [q,IsL,gj]at v;exact gG v) (bC xs);replace W:=(by simp [rx.length]:(bC xs).size=aC ds)▸W;have alive:∀(i:Nat) h,((∃old,IsEnum h e d i old)/\h.IsListIter d l i/\h.IsList l (bC xs))->∀b∈[e,d],tI h b:=λi h st b p=>by
  refine nn λR=>?_;obtain ⟨⟨old,a1⟩,⟨o,G,_⟩,_⟩:=st;refine R ?_;rcases aR.mp p with q|p
  .exact q▸⟨_,a1⟩
  .refine (aM.mp p)▸?_;exact ⟨o,G⟩
 have ue:(∃old,IsEnum h e d 0 old)/\h.IsListIter d l 0/\h.IsList l (bC xs):=⟨he,i4,IsL.isList (C _ _ v)⟩;refine I1 (Ut F X k D h₀ [e,d] (aC ds) (λi h'=>(∃old,IsEnum h' e d i old)/\h'.IsListIter d l i/\h'.IsList l (bC xs)) J) (λj O hs=>?_) (aC ds+1)
  ⟨0,h,tk,D,σ,rfl,bI _,rfl,⟨λb o e _ _=>C b o e,λ_ _ _ e=>e,λ_ _ e=>.inl e,λb o e=>⟨o,C b o e⟩⟩,(m.addX C λb p=>⟨y b p,alive 0 h ue b p⟩),ue,hJ⟩
 refine hs.el λi h' aw D' σ' hi st Y Z tm=>?_;have H:∀b∈[e,d],b∉F.Z:=λb p=>(P b (y b p)).1;have th:∀b∈[e,d],F.B.1.get? b=aH:=λb p=>(P b (y b p)).2.2.2;have rm:∀b∈[e,d],¬X b:=λb p=>(P b (y b p)).2.1;have uf:∀(h₁:dF),(∀b o,b∉[e,d]->h'.get? b=aG o->h₁.get? b=aG o)->yZ F k D h₀ D' h₁:=λh₁ u=>by
  have nn:∀b o,h₀.get? b=aG o->b∉[e,d]:=λb o e q=>by rw [y b q]at e;exact gG e
  exact ⟨λb o e hz hd=>u b o (nn b o e) (st.keep b o e hz hd),st.ext,st.new,λb o e=>let ⟨o',e'⟩:=st.al b o e;⟨o',u b o' (nn b o e) e'⟩⟩
 rcases kL i (aC ds)with lt|ge
 .refine W.item i _ _ _ lt Z ?_;clear Z;intro T qd h₁ ag tn _ hT mid u;refine W.go es c tpos i T _ _ _ mid λs o8 ji=>nn λR=>?_;have i6:∀b o,b∉[e,d]->h'.get? b=aG o->s.get? b=aG o:=λb o p e=>ji b o p (u b o p e);have c7:=Y.turnX fk (λa ha=>jR ha) H th i6 (alive (i+1) s o8);have bn:=uf s i6;obtain ⟨t,x,hx,ev⟩:=tn;have I:s.IsTuple T #[.int i t,x]:=by obtain ⟨o,ho,r⟩:=hT;exact ev▸⟨o,ji T o (W.apart i T _ mid) ho,r⟩
  obtain ⟨x',ke,qm⟩:=rx.get (by simp [aY,lt]:ds[i]?=aG (ds.getD i .none));replace hx:xs[i]?=aG x:=by simpa using hx
  replace qm:fW D (Yf F X D) h₀ (ds.getD i .none) x:=pH (ke.symm.trans hx) λq=>q▸qm;have rv:fW D' (Yf F (gR [e,d] X) D') s (ds.getD i .none) x:=by
   refine fW.stepP (λb o e p=>bn.keep b o e (λq=>p (.inl q)) λn q=>p (.inr (.inr ⟨n,q⟩))) (λb q=>?_) _ _ (Dw hp) qm;rcases q with q|q|⟨j,q⟩
   .exact .inl (.inl q)
   .rcases q with q|q
    .exact .inr (y b q)
    .exact .inl (.inr (.inl q))
   .rcases bn.new j b q with q|q
    .exact .inl (.inr (.inr ⟨j,q⟩))
    .exact .inr q
  obtain ⟨σ₁,eu,ug⟩:=ec i σ' lt tm;refine R ?_;dsimp only [assign_Tuple];refine aK (fM ?_);unfold unpack;refine g.1▸?_;have bv:(pF es F.env).length=[B9 i t,x].length:=by have a1:=xW eu;have G:=g.2.1;simp at a1 G⊢;exact aT 0x1368c57a305600ac1a302 a1 G
  refine aK (cJ (pD bv (λK hK=>?_) (λK hK=>?_) λbf c8 L=>?_))
  .exact aK (xJ I.typeIs PySem.F.slot_tuple_iter.lookup (aW hK))
  .have c6:T≠s.objs.size:=by obtain ⟨o,ho,_⟩:=I;exact fI (dW ho)
   refine J4 I (hK _ _ [s.objs.size,T] (λi h'=>h'.IsTupleIter s.objs.size T i/\h'.IsTuple T #[.int _ t,x]) (by simpa using (Z6 ok.hd s.objs.size T c6 #[.int i t,x])) ⟨⟨_,cC _ rfl,rfl,rfl⟩,I.push _⟩ (eE _) (cY _ _))
  refine bK (g.2.2 _ _ _ eu A (gR [e,d] X) D' bf c8 _ ok (c7.grow L) (.cons jX (.cons (fW.step (λb o e _=>L b o e) (λ_ _ e=>e) (λ_ e=>.inl e) _ _ rv) .nil))) (λ_ ab0 pp=>?_) λ_ _ q=>q.elim;refine pp.el λi7 uh D₄ _ _ ui j5 _ z9=>?_;replace j5:=z9▸j5;refine bK (ug A (gR [e,d] X) D₄ i7 uh ok j5) (λf ab1 pp=>?_) λ_ _ q=>q.elim;obtain ⟨fq,iq,D₅,jf,f',rfl,uj,yf,yg,yh⟩:=pp;have uk:=(ui.toK k).trans uj;have hND:∀i b,lk D' i=aG b->b∉[e,d]:=λj b N q=>(Y.sep j b N).x (jR q);have sx5:=W.frame (i+1) bf fq (W.frame _ _ _ o8 λb _ o e=>L b o e) λb p o eo=>by
   have fg:b∈[e,d]\/b=l:=by simpa [or_assoc]using p
   refine uk.keep b o eo ?_ ?_
   .rcases fg with q|q
    .exact H b q
    .exactλz=>nl (.inl (q▸z))
   .intro j N;rcases fg with q|q
    .exact hND j b N q
    .rcases st.new j b N with r|r
     .exact nl (.inr (.inr ⟨j,q▸r⟩))
     .exact De (v.symm.trans (q▸r))
  exact Pq fk H th rm ((bn.trans ((mZ.grow L).toK k)).trans uk) yf yg yh lt sx5
 .have q:=gO hi ge;refine W.done _ _ _ (q▸Z) λh₁ ag u=>xK ?_;exact ⟨h₁,ag,D',σ',.next,rfl,uf h₁ u,Y.leave fk H th rm u,Iy.next,done σ' (q▸tm)⟩
end
end
noncomputable def Zt(env:ľ):List (iS×sK)->List (iS×cR)->List (iS×cR)
 |[],cs=>cs
 |(n,k)::r,cs=>Zt env r (if (k==.free)=aU then (n,(env.cells.lookup n).getD 0)::cs else cs)
def RS:Zt env [] cs=(cs):=rfl
def RR:Zt env ((n,k)::r) cs=(Zt env r (if (k==.free)=aU then (n,(env.cells.lookup n).getD 0)::cs else cs)):=rfl
noncomputable def gW(scope:Dj)(env:ľ):List (iS×cR):=Zt env scope.names []
def RU(env:ľ):∀(names:List (iS×sK))(cs:List (iS×cR)),(∀x∈names,(x.2==.free)=aU->(env.cells.lookup x.1).isSome=aU)->
  (forIn names cs λ(x:iS×sK) r=>(do
   if x.2==.free then
    let a<-cellOf env x.1
    pure (yV ((x.1,a)::r))
   else pure (yV r):Ag (ForInStep (List (iS×cR)))))=pure (Zt env names cs):=by
 intro z1
 induction z1 with
 |nil=>intro cs;intro h;rfl
 |cons z2 r z4=>
  obtain ⟨n,k⟩:=z2;intro cs;intro h;have c:=λcs=>z4 cs λx e=>h x (aO _ e);simp only [oU];simp only [RS,RR];by_cases b:(k==NameKind.free)=aU
  .obtain ⟨a,d⟩:=eF.mp (h (n,k) aQ b);simp only [b,if_true];simp only [(by unfold cellOf;simp only [d]:cellOf env n=pure a)];simp only [d,Option.getD_some];exact c _
  .simp only [b];exact c _
def Jv(h:∀x∈scope.names,(x.2==.free)=aU->(env.cells.lookup x.1).isSome=aU):closureFor scope env=pure (gW scope env):=by
 show (forIn scope.names [] (λx r=>(do
   if x.2==.free then
    let a<-cellOf env x.1
    pure (yV ((x.1,a)::r))
   else pure (yV r):Ag (ForInStep (List (iS×cR)))))>>=λr=>pure r)=pure (gW scope env)
 rw [(RU env scope.names [] h)];rfl
def pE(h:tab.length<=k):∀x q,lk (vH fd L a tab).bnd x=aG q->x<k:=λx q e=>by obtain ⟨p,s⟩:=q;obtain ⟨_,b,_⟩:=Mk e;have:=(cF.mp b).1;exact aT 0x102e3150c2a1012314cc6003 h this
def oY(h:(scope.names.all λx=> !(x.2==.free)|| (env.cells.lookup x.1).isSome)=aU):closureFor scope env=pure (gW scope env):=
 Jv λx a b=>by have:=dO.mp h x a;replace this:=b▸this;exact this
inductive yS(F:Fx)(scope:Dj)(tab:List (Nat×iS)):List (Nat×iS)->Prop where
 |nil:yS F scope tab []
 |cons {p:Nat×iS} {r:List (Nat×iS)} (h1:p∈tab) (h2:F.env.kindOf p.2=aG .cell) (h3:(relabel scope F.env).names.lookup p.2=aG .cell) (h4:(gW scope F.env).lookup p.2=F.env.cells.lookup p.2) (h:yS F scope tab r):yS F scope tab (p::r)
def yS.at(x:yS F scope tab cap):∀p∈cap,p∈tab/\F.env.kindOf p.2=aG .cell/\(relabel scope F.env).names.lookup p.2=aG .cell/\(gW scope F.env).lookup p.2=F.env.cells.lookup p.2:=by
 induction x with
 |nil=>exactλp a=>by cases a
 |cons h1 h2 h3 h4 _ b=>
  intro p a;rcases aR.mp a with zq|a
  .exact zq▸(⟨h1,h2,h3,h4⟩)
  .exact b p a
inductive yR(F:Fx)(scope:Dj):lT->Prop where
 |nil:yR F scope []
 |cons {s:iS} {r:lT} (h1:(relabel scope F.env).names.lookup s=aG .local) (h:yR F scope r):yR F scope (s::r)
def yR.at(x:yR F scope names):∀s∈names,(relabel scope F.env).names.lookup s=aG .local:=by
 induction x with
 |nil=>exactλp a=>by cases a
 |cons h1 _ b=>
  intro p a;rcases aR.mp a with rfl|a
  .exact h1
  .exact b p a
section
variable{n:Nat}{F:Fx}{tab:List (Nat×iS)}
theorem Kv{body:cR->cR->Ag Unit}{gt:V->St->Option St}
  (T:tY F tab) (h:∀x q,lk F.bnd x=aG q->x<base) (l:names≠[]) (m:names.Nodup) (o:(g.is_async != 0)=bR)
  (s:eval (.ListComp c (g::gs) scope d) F.env=comprehension (.ListComp c (g::gs) scope d) scope F.env pos' (newList []) bR (eval g.iter F.env))
  (t:∀x,foldedSetIterable g.iter F.env x=pure x) (u:(scope.names.all λx=> !(x.2==.free)|| (F.env.cells.lookup x.1).isSome)=aU) (A:(scope.names.all λy=>y.2 != .cell)=aU) (i:scope.kind=.function)
  (B:(scope.names.all λy=>y.2 != .local||scope.names.lookup y.1==aG .local)=aU) (D:yS F scope tab cap) (G:yR F scope names)
  (H:∀C a I,compTurn (.ListComp c (g::gs) scope d) 0 (.ref I) (.ref a) (fC scope (gW scope F.env) C F.env)=(gB p>>=λ_=>pyNext (.ref I)>>=λr=>match r with
   |none=>pure (.done .next)
   |some v=>iH g.target (.ref I) v>>=λ_=>assign g.target (fC scope (gW scope F.env) C F.env) v>>=λ_=>body C a>>=λ_=>again (.compLoop (.ListComp c (g::gs) scope d) 0 (.ref I) (.ref a) (fC scope (gW scope F.env) C F.env))))
  (x:Rz n F g.iter J) (y:∀C,tY (nM F scope (gW scope F.env) C base names) (cap++Ar base names)->Dg n (nM F scope (gW scope F.env) C base names) g.target gt)
  (z:∀C a,tY (nM F scope (gW scope F.env) C base names) (cap++Ar base names)->∀σ xs σ',gb σ=aG (xs,σ')->CB n (nM F scope (gW scope F.env) C base names) a (body C a) σ xs σ'):
  iP n F (.ListComp c (g::gs) scope d) (lI base J gt gb):=by
 have tt:∀C,C∉F.Z->tY (nM F scope (gW scope F.env) C base names) (cap++Ar base names):=λC b=>Fw T i b m h D.at G.at;refine GU T.fk h l o s t (oY u) (λy f=>?_) i (λy f L=>?_) (λC b=>(tt C b).fk) H x (λC b=>y C (tt C b)) (λC a b=>z C a (tt C b))
 .have:=dO.mp A y f;intro e;replace this:=e▸this;exact absurd this (by decide)
 .have:=dO.mp B y f;replace this:=L▸this
  cases j:scope.names.lookup y.1 with
  |none=>rw [j]at this;exact absurd this (by decide)
  |some k=>rw [j]at this;cases k<;>first|rfl|exact absurd this (by decide)
end
section
variable{n:Nat}{F:Fx}{tab:List (Nat×iS)}
def M6{gt:V->St->Option St}
  (T:tY F tab) (c:∀x q,lk F.bnd x=aG q->x<base) (d:names≠[]) (e:names.Nodup)
  (f:∀x,foldedSetIterable b F.env x=pure x) (g:(scope.names.all λx=> !(x.2==.free)|| (F.env.cells.lookup x.1).isSome)=aU) (h:(scope.names.all λy=>y.2 != .cell)=aU) (i:scope.kind=.function)
  (j:(scope.names.all λy=>y.2 != .local||scope.names.lookup y.1==aG .local)=aU) (k:yS F scope tab cap) (l:yR F scope names)
  (x:Rz n F b m) (y:∀C,tY (nM F scope (gW scope F.env) C base names) (cap++Ar base names)->Dg n (nM F scope (gW scope F.env) C base names) t0 gt)
  (z:∀C,tY (nM F scope (gW scope F.env) C base names) (cap++Ar base names)->iP n (nM F scope (gW scope F.env) C base names) o p):
  iP n F (.ListComp o [⟨t0,b,[],0⟩] scope r) (lI base m gt (kD p)):=
 Kv T c d e rfl rfl f g h i j k l (λ_ _ _=>rfl) x y (λC a T1 _ _ _ q=>C6 T1.fk (z C T1) q)
end
def ù:mU:=λus σ=>aI (λa=>aI λb=>aN (aG (.int (if a<b then b else a),σ))) us
section
variable{n:Nat}{F:Fx}
def NL:A0 n F (.builtin "max") ù:=λus σ r σ' e=>by
 refine xG e λa _ e=>?_;refine xG e λb _ e=>?_;refine mT e λe=>?_;intro A X D h tk vs ok m r;obtain ⟨_,_,rfl,⟨t,rfl⟩,_,_,rfl,⟨g,rfl⟩,d⟩:=r;cases d;refine max_two_ints ok.hd λh' f c=>⟨h',f,D,σ,_,rfl,mZ.grow c,m.grow c,?_,.of e⟩;by_cases q:a<b
 .rw [if_pos q,if_pos q];exact jX
 .rw [if_neg q,if_neg q];exact jX
end
def Wf:∀{l:oS}{s:iS}{v:V},pK l s=aG v->(s,v)∈l:=by
 intro z1
 induction z1 with
 |nil=>intros;first|contradiction|(rename_i h;cases h;done)
 |cons z2 r z4=>
  obtain ⟨x,u⟩:=z2;intro s;intro v;intro e;simp only [He,Hd]at e;split at e
  .rename_i q;refine pH e ?_;rintro rfl;subst q;exact aQ
  .exact aO _ (z4 e)
def tX(name:iS)(g:M V):M V:=λσ=>bd (g σ) λo σ=>ob (SH o) λn=>aA σ n λas=>ob (pK as name) λv=>if Dz v=aU then aG (v,σ)else aH
structure Ix(K:xO)(name:iS):Prop where
 get:plainGet K xX name=aU
 dict:hasDictIn K xX=aU
 own:∃qv,findIn K (.ref xX) name=aG qv/\noGet K qv=aU
def Ky{Y:gI}(a:Dz v=aU)(r:fW D Y h v u):handedIn u=true:=by cases v<;>first|(subst r;rfl)|(obtain ⟨_,rfl⟩:=r;rfl)|(obtain ⟨_,_,rfl,_⟩:=r;rfl)|(obtain ⟨_,rfl,_⟩:=r;rfl)|(simp [Dz]at a)
def Mg{h:dF}{a:cR}{m:iS->Option bL}(b:h.Ns a m)(name:iS):∃od,h.get? a=aG od/\lookIn name od=aG (m name):=by
 refine nn λc=>?_;obtain ⟨o,es,l,d,hd,f,g⟩:=b;refine c ⟨o,d,?_⟩;have:=g name;unfold lookIn;refine hd▸?_;simp only [nsFind,findBy,<-Array.find?_toList]at this;dsimp only
 cases q:es.toList.find? (·.key.isStr name)with
 |none=>simp only [q,Option.map_none]at this;refine this▸?_;rw [if_neg];intro z;rw [List.any_eq_true]at z;obtain ⟨e,i,j⟩:=z;obtain ⟨n,t,k⟩:=f e (Array.mem_toList_iff.mp i);simp [DictEntry.refKey,k]at j
 |some e=>simp only [q,Option.map_some]at this;simp only [<-this]
section
variable{n:Nat}{F:Fx}{K:xO}
def SF{X:gI}{tk:Nat}{i:Nat}{g:Bool}{Kk:pZ}(j:K.In S.heap)(c:Ix K name)(m:gU F X D σ h)(l:lk σ.cells i=aG (.attrs as))(p:(name,v)∈as)(s:Dz v=aU)(r:fW D (Yf F X D) h (.inst i) o)
  (k:∀u t,fW D (Yf F X D) h v u->Kk u (iZ h t)):bW iC A (getAttr o name g) Kk (λ_ _=>False) (iZ h tk):=by
 refine nn λb=>?_;obtain ⟨a,x,rfl,nx,y,z⟩:=r;obtain ⟨L,d,N,B,O,C⟩:=m.cel i _ l;refine b ?_;replace d:=y▸d;refine pH d ?_;rintro rfl;obtain ⟨u,G,e⟩:=C _ p;refine nn λb=>?_;obtain ⟨P,H,I⟩:=c.own;obtain ⟨od,J,f⟩:=Mg B.ns name;refine b ?_;simp only [G]at f;refine get_value (j.keeps m.base) ⟨z,rfl,rfl,J⟩ (plainGet_of c.get).1 (findObj_own c.dict H I f) (Ky s e) (k u _ e)
def lF(b:K.In S.heap)(c:Ix K name)(x:iP n F (.Name s p) g):iP n F (.Attribute (.Name s p) name d) (tX name g):=λσ v σ' q=>by refine nn λe=>?_;obtain ⟨o,σ₁,f,q⟩:=eJ q;replace q:=š q;obtain ⟨i,rfl,j⟩:=q;obtain ⟨as,k,l⟩:=TH j;obtain ⟨H,t,y⟩:=dS l;obtain ⟨z,B⟩:=iB y;refine e ?_;intro A X D h tk vs ok m _;refine (?_:bW _ _ (eval (.Name s p) F.env>>=λo=>gB d.atName>>=λ_=>holding [o] (getAttr o name aU)>>=λr=>letTemporaryGo (.Name s p) o r>>=λ_=>pure r) _ _ _);refine aK (TW.atE (x _ _ _ f) ok m bN.nil ?_);rintro u h₁ I D₁ st a r;refine aK (fM (aK (cJ (SF b c a k (Wf t) z r λJ C G=>?_))));exact aK (aW (aW ⟨h₁,C,D₁,_,_,rfl,st,a,G,.of B⟩))
end
section
set_option backward.match.sparseCases false
def qQ:fQ->Prop
 |.attrs as=>∀p∈as,p.2.pure=aU
 |.mat _=>True
 |_=>False
def iQ.P{Y Y':gI}(f:qQ c)(i:∀b o,h.get? b=aG o->¬Y b->h'.get? b=aG o)(j:∀o,h.get? a=aG o->h'.get? a=aG o)(k:∀a,Y' a->Y a\/h.get? a=aH)(x:iQ D Y h a c):iQ D' Y' h' a c:=by
 cases c with
 |list l=>exact f.elim
 |dict ks vs=>exact f.elim
 |attrs as=>obtain ⟨m,g,le,y⟩:=x;exact ⟨m,g.at j,le,λp d=>let ⟨u,e,z⟩:=y p d;⟨u,e,fW.stepP i k _ _ (f p d) z⟩⟩
 |mat r=>obtain ⟨as,ok,m,g,le,y⟩:=x;exact ⟨as,ok,m,g.at j,le,λp d=>let ⟨u,e,z⟩:=y p d;⟨u,e,fW.stepP i k _ _ (ok.pure p d) z⟩⟩
def EF{X:gI}(m:gU F X D σ h)(k:Nat)(e:Jk (rZ uY k σ.cells) c=aG r)(x:iQ D (Yf F X D) h a c):iQ (tF k D) (Yf F X (tF k D)) h a r:=by
 have d:=λv s u=>Ap m k uY v s u
 cases c with
 |list l'=>obtain ⟨j,b,rfl⟩:=bZ.mp e;refine nn λf=>?_;obtain ⟨xs,g,i⟩:=x;exact f ⟨xs,g,oD d b i⟩
 |dict ks l'=>obtain ⟨j,b,rfl⟩:=bZ.mp e;obtain ⟨xs,g,i⟩:=x;exact ⟨xs,g,oD d b i⟩
 |attrs as=>obtain ⟨j,b,rfl⟩:=bZ.mp e;obtain ⟨l,t,y,z⟩:=x;refine ⟨l,t,y,λp A=>?_⟩;refine nn λf=>?_;obtain ⟨v,c1,c2⟩:=Pl b A;obtain ⟨u,B,C⟩:=z _ c1;exact f ⟨u,B,d _ _ _ c2 C⟩
 |mat l=>
  refine pH e ?_;rintro rfl;exact iQ.P trivial (λ_ _ e _=>e) (λ_ e=>e) (λa q=>by
   rcases q with q|q|⟨n,q⟩
   .exact .inl (.inl q)
   .exact .inl (.inr (.inl q))
   .simp only [rC]at q;split at q
    .exact .inl (.inr (.inr ⟨n,q⟩))
    .exact gG q) x
def RX{Y:gI}(f:qQ c)(r:iQ D Y h a c)(i:h.get? x=aG (instObj C j)):x≠a:=by
 have g:∀m,h.Ns1 a m->x≠a:=λm b e=>by obtain ⟨o,es,k,d,hd,_⟩:=b;replace d:=e▸d;replace d:=i▸d;refine pH d ?_;rintro rfl;cases hd
 cases c with
 |list l=>exact f.elim
 |dict ks vs=>exact f.elim
 |attrs as=>obtain ⟨m,b,_⟩:=r;exact g m b
 |mat p=>obtain ⟨_,_,m,b,_⟩:=r;exact g m b
inductive Zy(Y:gI)(h:dF)(c:cR)(P:fQ->V->Prop)(v:bL)(s':cS):Prop
 |mk (h':dF) (aw:Nat) (c1:fQ) (r:V) (e:s'=iZ h' aw) (k:∀b o,b≠c->h.get? b=aG o->h'.get? b=aG o) (x:tI h' c) (pc:qQ c1) (p:r.pure=aU) (cr:iQ [] (gR [c] Y) h' c c1) (l:fW [] (gR [c] Y) h' r v) (q:P c1 r):Zy Y h c P v s'
def Zy.el{Y:gI}{h:dF}{c:cR}{P:fQ->V->Prop}{v:bL}{g:cS}{P0:qR}(a:Zy Y h c P v g)(z:∀(h':dF)(i:Nat)(c1:fQ)(r:V)(k:∀b o,b≠c->h.get? b=aG o->h'.get? b=aG o)(x:tI h' c)(pc:qQ c1)(p:r.pure=aU)(cr:iQ [] (gR [c] Y) h' c c1)(l:fW [] (gR [c] Y) h' r v)(q:P c1 r),P0 (iZ h' i)):P0 g:=by obtain ⟨j,m,d,s,t,u,y,e,a,f,A,B⟩:=a;exact t▸z j m d s u y e a f A B
def vD(n:Nat)(f:bL)(c0:fQ)(ds:cA)(P:fQ->V->Prop):Prop:=
 ∀A (Y:gI) h tk x c vs,wA n A->(∀b o,S.heap.get? b=aG o->h.get? b=aG o)->(∀a,Y a->tI h a)->¬Y c->S.heap.get? c=aH->¬Y x->h.get? x=aG (instObj xX c)->iQ [] (gR [c] Y) h c c0->bN [] (gR [c] Y) h ds vs->
  bW iC A (call f (.ref x::vs)) (Zy Y h c P) (λ_ _=>False) (iZ h tk)
def Zz(n:Nat)(f:bL)(c0:fQ)(ds:cA)(P:fQ->V->Prop):Prop:=
 ∀A (Y:gI) h tk x c vs,wA n A->(∀b o,S.heap.get? b=aG o->h.get? b=aG o)->(∀a,Y a->tI h a)->¬Y c->S.heap.get? c=aH->¬Y x->h.get? x=aG (instObj xX c)->iQ [] (gR [c] Y) h c c0->bN [] (gR [c] Y) h ds vs->
  jC iC A (.call f ⟨.ref x::vs,[]⟩) (wants (Zy Y h c P) (λ_ _=>False)) (iZ h tk)
def Zz.c{P:fQ->V->Prop}(x:Zz n f c0 ds P):vD n f c0 ds P:=λA Y h tk a c vs a1 b d e g i j k l=>gN (x A Y h tk a c vs a1 b d e g i j k l)
def KM(P:fQ->V->Prop):Fl->gZ:=λf σ'=>match f with
 |.ret v=>∃c1 js r,lk σ'.cells 0=aG c1/\Jk (rZ uY 1 σ'.cells) c1=aG js/\qQ js/\rZ uY 1 σ'.cells v=aG r/\r.pure=aU/\P js r
 |.next=>∃c1 js,lk σ'.cells 0=aG c1/\Jk (rZ uY 1 σ'.cells) c1=aG js/\qQ js/\P js .none
 |_=>False
section
variable{n:Nat}{fd:sL}{tab:lT}{fa:cR}{o:qY}{body:List tR}{ds:cA}{P:fQ->V->Prop}{c0:fQ}
def Mj(d:lH fd tab)(ki:S.heap.get? fa=aG o)(dw:o.data=.func fd)(dp:S.heap.NoLimit)(jh:S.heap.CodeRec fd.code fd.qualname)(dz:fd.body=.stmts body)
(um:∀D Y h,bN D Y h dds dvs) (dq:∀h tk (vs:eW),(∀b o,S.heap.get? b=aG o->h.get? b=aG o)->aC vs=aC ds+1->aB9 (iZ h tk) fd ⟨vs,[]⟩ ((tab.take (.inst 0::(ds++dds):cA).length).zip (vs++dvs))) (bv:(.inst 0::(ds++dds):cA).length<=tab.length) (G:qQ c0)
  (hb:∀L,SW 1 n (vH fd L fa tab) body ⟨yX 0 (.inst 0::(ds++dds)),[(0,c0)],1⟩ (KM P)) (hp:dH ds=aU):Zz (n+1) (.ref fa) c0 ds P:=by
 intro A Y h tk x c vs ok T hY yj un yk W cr X;obtain ⟨oc,Z⟩:tI h c:=by
  have dm:∀m,h.Ns1 c m->tI h c:=λm ⟨o,_,_,ho,_⟩=>⟨o,ho⟩
  cases c0 with
  |list l=>exact G.elim
  |dict ks vs=>exact G.elim
  |attrs as=>obtain ⟨m,H,_⟩:=cr;exact dm m H
  |mat mm=>obtain ⟨_,_,m,H,_⟩:=cr;exact dm m H
 have l0:∀i a,lk [(0,c)] i=aG a->i=0/\a=c:=λi a q=>by
  simp only [fL,eP]at q;split at q
  .refine pH q ?_;rintro rfl;exact ⟨by assumption,rfl⟩
  .exact gG q
 have t:∀(env:ľ) a,Yf (F0 env) Y [(0,c)] a->gR [c] Y a\/h.get? a=aH:=λenv a q=>by
  rcases q with q|q|⟨i,q⟩
  .cases q
  .exact .inl (.inr q)
  .exact .inl (.inl (by simp only [(l0 i a q).2];exact aM.mpr rfl))
 have m0:gU (F0 (callEnvC fd h.objs.size fa)) Y [(0,c)] ⟨[],[(0,c0)],1⟩ h:=by
  refine ⟨T,λx v q=>by simp [fL,eP]at q,λx p s q=>by simp [F0,fL,eP]at q,λi c' q=>?_,λi j a q q'=>by simp only [(l0 i a q).1,(l0 j a q').1],λi a q=>?_,λa q=>(by cases q),hY⟩
  .simp only [fL,eP]at q;split at q
   .rename_i e;refine pH q ?_;rintro rfl;exact ⟨c,by simp [fL,eP,e],cr.P G (λ_ _ e _=>e) (λ_ e=>e) (t _)⟩
   .exact gG q
  .obtain ⟨rfl,rfl⟩:=l0 i a q;exact ⟨λz=>(by cases z),yj,un,⟨oc,Z⟩,Oe⟩
 have I:bN [(0,c)] (Yf (F0 (callEnvC fd h.objs.size fa)) Y [(0,c)]) h (.inst 0::(ds++dds)) (.ref x::vs++dvs):=by
  refine .cons ?_ ((bN.stepP (λ_ _ e _=>e) (t _) _ _ hp X).append (um _ _ _));refine ⟨c,x,rfl,λq=>?_,by rfl,W⟩;rcases q with q|q|⟨i,q⟩
  .cases q
  .exact yk q
  .exact (RX G cr W) (l0 i x q).2
 refine Ud (ds:=.inst 0::(ds++dds)) d ki dw dp jh dz (dq _ _ _ T (by simp [(X.length)])) bv ok m0 I λh₁ ag hk hz m n9=>?_;refine bK (hb h.objs.size _ Y [(0,c)] h₁ ag n9 m) (λf s' p=>?_) λ_ _ z=>z;obtain ⟨h',aw,D',σ',f',rfl,st,J,r,q⟩:=p;have g6:∀b o,b≠c->h.get? b=aG o->h'.get? b=aG o:=λb o N e=>st.keep b o (hk b o e) (λz=>by rw [hz b z]at e;exact gG e) (λi z=>N (l0 i b z).2);have u:lk D' 0=aG c:=st.ext 0 c Oe (by rfl);have uq:∀a,gR [c] Y a->Yf (vH fd h.objs.size fa tab) Y (tF 1 D') a\/h'.get? a=aH:=λa z=>by
  rcases z with z|z
  .rw [aM.mp z];exact .inl (.inr (.inr ⟨0,by rw [rC,if_pos Oe];exact u⟩))
  .exact .inl (.inr (.inl z))
 obtain ⟨y,ur⟩:=st.al c oc (hk c oc Z);have yH:∀c1 g,lk σ'.cells 0=aG c1->Jk (rZ uY 1 σ'.cells) c1=aG g->qQ g->iQ [] (gR [c] Y) h' c g:=λc1 g B C k=>by obtain ⟨a,z1,z2⟩:=J.cel 0 c1 B;replace z1:=u▸z1;refine pH z1 ?_;rintro rfl;exact (EF J 1 C z2).P k (λ_ _ e _=>e) (λ_ e=>e) uq
 cases r with
 |brk=>exact q.elim
 |cont=>exact q.elim
 |next=>refine nn λO=>?_;obtain ⟨c1,g,B,C,k,R⟩:=q;exact O (⟨h',aw,g,.none,rfl,g6,⟨y,ur⟩,k,rfl,yH c1 g B C k,rfl,R⟩)
 |ret r=>refine nn λO=>?_;obtain ⟨c1,g,r',B,C,k,e5,e6,R⟩:=q;exact O (⟨h',aw,g,r',rfl,g6,⟨y,ur⟩,k,e6,yH c1 g B C k,fW.stepP (λ_ _ e _=>e) uq _ _ e6 (Ap J 1 uY _ _ _ e5 r),R⟩)
def As(d:lH fd tab)(a:S.heap.get? fa=aG o)(b:o.data=.func fd)(c:S.heap.NoLimit)(e:S.heap.CodeRec fd.code fd.qualname)(f:fd.body=.stmts body)
  (g:∀vs:eW,aC vs=aC ds+1->bindArgs fd ⟨vs,[]⟩=pure ((tab.take (aC ds+1)).zip vs)) (i:aC ds+1<=tab.length) (j:qQ c0)
  (k:∀L,SW 1 n (vH fd L fa tab) body ⟨yX 0 (.inst 0::ds),[(0,c0)],1⟩ (KM P)) (l:dH ds=aU):vD (n+1) (.ref fa) c0 ds P:=
 (Mj d a b c e f (λ_ _ _=>.nil) (λh tk vs _ m=>by rw [dI,dI];exact XD (g vs m)) (by rw [dI];exact i) j (by rw [dI];exact k) l).c
end
section
variable{n:Nat}{F:Fx}{σ:St}{Q:V->gZ}
def Gl{P:fQ->V->Prop}(fk:hO F)(e:lk σ.cells i=aG c0)(t:qQ c0)(y:dH ds=aU)(c:vD n f c0 ds P)(q:∀c1 r,qQ c1->r.pure=aU->P c1 r->Q r {σ with cells:=put i c1 σ.cells}):
  TW rV n F (.inst i::ds) (λvs=>call f vs) σ Q:=λA X D h tk vs ok m r=>by
 obtain ⟨u,us,rfl,B,rl⟩:=r;obtain ⟨a,x,rfl,nx,d,C⟩:=B;obtain ⟨W,g,cr⟩:=m.cel i c0 e;replace g:=d▸g;refine pH g ?_;rintro rfl;obtain ⟨Y,Z,G,s4,s5⟩:=m.sep i a d;have j:∀b,gR [a] (λb=>Yf F X D b/\b≠a) b->Yf F X D b\/h.get? b=aH:=λb z=>by
  rcases z with z|z
  .rw [aM.mp z];exact .inl (.inr (.inr ⟨i,d⟩))
  .exact .inl z.1
 have k:∀(h':dF) b,Yf F X D b->gR [a] (λb=>Yf F X D b/\b≠a) b\/h'.get? b=aH:=λh' b z=>by
  by_cases q:b=a
  .exact .inl (.inl (by simp only [q];exact aM.mpr rfl))
  .exact .inl (.inr ⟨z,q⟩)
 refine bK (c A (λb=>Yf F X D b/\b≠a) h tk x a us ok m.base (λb z=>(λb=>m.yal) b z.1) (λz=>z.2 rfl) (Fx.nb G) (λz=>nx z.1) C (cr.P t (λ_ _ e _=>e) (λ_ e=>e) j) (bN.stepP (λ_ _ e _=>e) j _ _ y rl)) (λv s' p=>?_) λ_ _ z=>z;obtain ⟨h',H,c1,l,rfl,I,J,pc,s,L,N,O⟩:=p;obtain ⟨R,st⟩:=m.turn2 fk d (λb o T e=>I b o T e) J (L.P pc (λ_ _ e _=>e) (λ_ e=>e) (k h'));exact ⟨h',H,D,_,l,rfl,st,R,fW.stepP (λ_ _ e _=>e) (k h') _ _ s N,q c1 l pc s O⟩
end
end
section
set_option backward.match.sparseCases false
open PySem PySem.W PyProof.Rows Builtin Builtin.ObjectAttr
noncomputable def Nn(s:iS):oS->oS
 |[]=>[]
 |(x,v)::r=>if x=s then Nn s r else (x,v)::Nn s r
def W8:Nn s []=([]):=rfl
def W7:Nn s ((x,v)::r)=(if x=s then Nn s r else (x,v)::Nn s r):=rfl
def iW(s:iS)(v:V)(l:oS):oS:=(s,v)::Nn s l
def pT:∀{l:oS},p∈Nn s l->p∈l/\p.1≠s:=by
 intro z1
 induction z1 with
 |nil=>intro h;cases h
 |cons z2 r z4=>
  obtain ⟨x,v⟩:=z2;intro h;simp only [W8,W7]at h;split at h
  .exact ⟨aO _ (z4 h).1,(z4 h).2⟩
  .rename_i e;rcases aR.mp h with zq|h
   .exact zq.symm▸(⟨aQ,e⟩)
   .exact ⟨aO _ (z4 h).1,(z4 h).2⟩
def FP:∀{l:oS},t≠s->pK (Nn s l) t=pK l t:=by
 intro b
 induction b with
 |nil=>intro h;exact rfl
 |cons c r a=>
  obtain ⟨x,v⟩:=c;intro h;simp only [W8,W7];by_cases e:x=s
  .subst e;rw [if_pos rfl,a h];simp [He,Hd,h]
  .refine (if_neg e)▸?_;simp only [He,Hd];by_cases q:t=x
   .simp [q]
   .simp only [if_neg q];exact a h
def lE:pK (iW s v l) t=if t=s then aG v else pK l t:=by
 by_cases e:t=s
 .simp [iW,He,Hd,e]
 .refine (if_neg e)▸?_;refine (FP (l:=l) e)▸?_;simp [iW,He,Hd,e]
def nsC{Y:gI}(d:(∃as,c=.attrs as)\/∃m,c=.mat m)(x:iQ D Y h a c):∃m,h.Ns1 a m/\Within m sG:=by
 rcases d with ⟨as,rfl⟩|⟨m,rfl⟩
 .obtain ⟨m,b,le,_⟩:=x;exact ⟨m,b,le⟩
 .obtain ⟨_,_,m,b,le,_⟩:=x;exact ⟨m,b,le⟩
structure N8(K:xO)(name:iS)(f:cR):Prop where
 get:plainGet K xX name=aU
 find:findIn K (.ref xX) name=aG (aG (.ref f))
 typ:typeIn K (.ref f)=aG (.type "function")
 own:name∉sG
 fn:∃o fd,S.heap.get? f=aG o/\o.data=.func fd
structure Eh(K:xO)(name:iS):Prop where
 set:findIn K (.ref xX) "__setattr__"=aG (aG (.builtin "object.__setattr__"))
 over:plainOver K xX=aU
 take:takerIn K xX name=aG aH
 dict:(clsIn K xX).any (·.hasDict)=aU
 own:name∈sG
def E0(name:iS)(go:M V)(v:V)(σ:St):Option St:=bd (go σ) λo σ=>ob (SH o) λi=>aA σ i λas=>aG {σ with cells:=put i (.attrs (iW name v as)) σ.cells}
noncomputable def PR:fQ->Bool
 |.attrs _=>aU
 |.mat _=>aU
 |_=>bR
def PQ(h:PR c=aU):(∃as,c=.attrs as)\/∃m,c=.mat m:=by
 cases c<;>first|cases h|skip
 .exact .inl ⟨_,rfl⟩
 .exact .inr ⟨_,rfl⟩
def ß(d:Da)(go:M V)(ga:M cA):M V:=λσ=>bd (go σ) λo σ=>match o with
 |.inst i=>ob (lk σ.cells i) λc=>if PR c=aU then bd (ga σ) λus σ=>ob (lk σ.cells i) λc0=>if dH us=aU then ob (d c0 us) λx=>aG (x.2,{σ with cells:=put i x.1 σ.cells})else aH else aH
 |_=>aH
section
variable{n:Nat}{F:Fx}{K:xO}
def Sw{E:pZ}{s:cS}{m:iS->Option bL}{Q:Unit->qR}(X:K.In s.heap)(c:Eh K name)(g:s.heap.get? x=aG (instObj xX a))(h:s.heap.Ns1 a m)(hw:Within m sG)
  (q:∀h' j,h'.Ns1 a (λy=>if y=name then aG v else m y)->qJ a s.heap h'->Q () {s with heap:=h',toks:=j}):bW iC A (setAttr (.ref x) name v) Q E s:=by
 refine nn λd=>?_;obtain ⟨od,k,_⟩:=Mg h.ns name;refine d ?_;have I:InstAt s.heap x (instObj xX a) xX (aG od):=⟨g,rfl,rfl,k⟩;refine set_plain X I c.set (osa_open X I c.over c.take λb=>?_);refine nn λd=>?_;obtain ⟨z,l,hd⟩:=any_some c.dict;refine d (aK (aW (aK (aK (zC g (aK (Looks.here (looks_clsIn X l) ?_)))))));simp only [hd];refine aW (aK (aW (aK (wpAny_nsSet1 h λh' i o=>?_))));have f:Within (λy=>if y=name then aG v else m y) sG:=λy p=>by
  by_cases e:y=name
  .refine e▸?_;exact c.own
  .exact hw y (by simpa only [if_neg e]using p)
 refine nn λd=>?_;obtain ⟨B,es,C,r,t,u⟩:=i.count f;refine d ?_;refine aK (wpAny_lookBehind r (by refine t▸?_;exact pastItsLine_dict (bV u (by decide))) (aW ?_));exact q h' _ i o
def jM(C:K.In S.heap)(fk:hO F)(c:Eh K name)(x:iP n F (.Name s p) G):Dg n F (.Attribute (.Name s p) name ap) (E0 name G):=λσ v σ' q=>by
 obtain ⟨o,σ₁,d,q⟩:=eJ q;revert d;refine TJ q λi q d=>?_
 .obtain ⟨as,H,q⟩:=TH q
  .refine pH q ?_;rintro rfl;intro A X D h tk u ok m I;refine aK (cJ (TW.atE (x _ _ _ d) ok m bN.nil ?_));rintro ov h₁ ag D₁ st f r;obtain ⟨a,xx,rfl,nx,l,J⟩:=r;refine nn λg=>?_;obtain ⟨a',j,mm,L,t,N⟩:=f.cel i _ H;refine g ?_;replace j:=l▸j;refine pH j ?_;rintro rfl;refine aK (fM (aK (cJ (Sw (C.keeps f.base) c J L t λh' O z P=>?_))));obtain ⟨Q,R⟩:=f.turn (c:=.attrs (iW name v as)) fk l (λb o T e=>(P.2 b T).trans e) (let ⟨o,_,_,W,_⟩:=z;⟨o,W⟩) (λY' B ip=>⟨_,z,λy Y=>by
    by_cases e:y=name
    .refine e▸?_;exact c.own
    .exact t y (by simpa only [if_neg e]using Y),λp' k=>by
     rcases aR.mp k with rfl|k
     .exact ⟨u,by simp,B _ _ (I.on m st)⟩
     .obtain ⟨Z,p2⟩:=pT k;refine nn λg=>?_;obtain ⟨u',d1,d2⟩:=N _ Z;refine g ?_;exact ⟨u',by simp [p2,d1],B _ _ d2⟩⟩)
   exact wpAny_release ⟨h',O,D₁,_,(),rfl,st.trans R,Q,trivial,rfl⟩
def zZ{Q:V->gZ}(I:K.In S.heap)(c:N8 K name f)
  (J:eval (.Call (.Attribute o name t) args [] g) F.env=(do
   let v<-eval o F.env
   gB t.atName
   let (f,first)<-holding [v] (getMethod v name pl)
   kY g f first (backTo g (eD args F.env)) []))
  (L:nJ F args)
  (x:EW n F o σ λu σ₁=>∃i c0,u=.inst i/\lk σ₁.cells i=aG c0/\((∃as,c0=.attrs as)\/∃m,c0=.mat m)/\AM n F g args σ₁ λus y=>TW rV n F (.inst i::us) (λvs=>call (.ref f) vs) y Q):EW n F (.Call (.Attribute o name t) args [] g) σ Q:=λA X D h tk vs ok m _=>by
 refine Sf (x.at ok m bN.nil λa h₁ ag D₁ σ₁ u N j B k=>?_) J;refine nn λd=>?_;obtain ⟨i,c0,rfl,O,l,k⟩:=k;refine d ?_;have P:=B;obtain ⟨b,R,rfl,nx,T,W⟩:=B;obtain ⟨b',r,cr⟩:=j.cel i _ O;replace r:=T▸r;refine pH r ?_;rintro rfl;refine nn λd=>?_;obtain ⟨C,Y,hw⟩:=nsC l cr;obtain ⟨od,Z,hl⟩:=Mg Y.ns name;refine d ?_;have ym:C name=aH:=by
  cases q:C name with
  |none=>rfl
  |some z=>exact absurd (hw name (by refine q▸?_;intro z;exact De z)) c.own
 refine nn λd=>?_;obtain ⟨of,fd,yo,s⟩:=c.fn;refine d ?_;refine method_fn (od:=some od) (I.keeps j.base) ⟨W,rfl,rfl,Z⟩ (plainGet_of c.get).1 (plainGet_of c.get).2 c.find c.typ (by refine (?_:(lookIn name od).map _=_);refine hl▸?_;refine ym▸?_;rfl) ?_;refine Sg (o:=of) (fd:=fd) (rL L k ok j λus bk br D₂ y ds G H f5 f6=>?_);exact ⟨⟨H.base _ _ yo,s⟩,bK (f6 A X D₂ bk br (.ref R::us) ok H (.cons (fW.on j G P) f5)) (λ_ _ p=>p.on (N.trans G)) λ_ _ e=>e⟩
def Av{d:Da}(j:K.In S.heap)(fk:hO F)(c:N8 K name f)
  (hd:∀c0 us c1 r,dH us=aU->d c0 us=aG (c1,r)->qQ c0/\vD n (.ref f) c0 us (λc k=>c=c1/\k=r))
  (x:iP n F o l) (m:nJ F args) (y:xH n F a args p)
  (s:eval (.Call (.Attribute o name g) args [] a) F.env=(do
   let b<-eval o F.env
   gB g.atName
   let (f,first)<-holding [b] (getMethod b name pl)
   kY a f first (backTo a (eD args F.env)) [])):iP n F (.Call (.Attribute o name g) args [] a) (ß d l p):=λσ v σ' q=>by
 replace q:=eJ q;obtain ⟨b,σ₁,t,q⟩:=q;split at q
 .rename_i i;replace q:=dS q;obtain ⟨u,z2,q⟩:=q;split at q
  case isFalse=>(exact gG q)
  rename_i z3;replace q:=eJ q;obtain ⟨us,C,z,q⟩:=q;replace q:=dS q;obtain ⟨c0,A,q⟩:=q;split at q
  .rename_i h;replace q:=dS q;obtain ⟨⟨c1,r⟩,e,q⟩:=q;refine Ck q ?_;rintro rfl rfl;refine zZ j c s m ((x _ _ _ t).mono (oB ⟨i,u,rfl,z2,PQ z3,TW.mono (y _ _ _ z) ?_⟩));refine oB ?_;replace e:=hd c0 us c1 r h e;obtain ⟨pc,B⟩:=e;refine Gl fk A pc h B ?_;rintro _ _ _ _ ⟨rfl,rfl⟩;exact ⟨rfl,rfl⟩
  .exact gG q
 .exact gG q
end
end
noncomputable abbrev K8(id:String)(self:bL):qY:={cls:=.type "builtin_function_or_method",data:=.fields #[.builtin id,self]}
def Bu:Ĕ "method_descriptor" "__get__" "method_descriptor.__get__":=
 .of (owner:="method_descriptor") (n:="__get__") (by kernel_rfl) (by decide+kernel) (by decide+kernel) (by decide+kernel) (.inl (by decide+kernel)) (by kernel_rfl)
def Q8:entryFor table "method_descriptor.__get__"=aG Oj.«method_descriptor.__get__»:=entryFor_of_tree (by kernel_rfl)
def Um(a b c:bL):argsOk "method_descriptor.__get__" ⟨[a,b,c],[]⟩:=by unfold argsOk;kernel_rfl
def DT:Dc (.type "method_descriptor") "__set__"=pure none:=by rw [Di,builtinLookup_eq_fast];kernel_rfl
def DV:Dc (.type "method_descriptor") "__delete__"=pure none:=by rw [Di,builtinLookup_eq_fast];kernel_rfl
def Jc:typeOf (.builtin "dict.get")=pure (.type "method_descriptor"):=by show builtinType _=_;rw [builtinType_eq_fast];kernel_rfl
def Cd:typeOf (.builtin "set.__contains__")=pure (.type "method_descriptor"):=by show builtinType _=_;rw [builtinType_eq_fast];kernel_rfl
structure Z4(T:String)(name:iS)(id ga:String):Prop where
 slot:Ĕ T name id
 typ:typeOf (.builtin id)=pure (.type "method_descriptor")
 own:".".intercalate (id.cutAt '.').dropLast=T
 told:Manifest.toldItsClass.contains id=bR
 sub:yT (.type T) (.type T)=pure aU
 gaS:Ĕ T "__getattribute__" ga
 entry:entryFor table ga=aG Oj.«object.__getattribute__»
 args:∀a b:bL,argsOk ga ⟨[a,b],[]⟩
 copied:(["__module__","__name__","__qualname__","__doc__","__annotations__"]:lT).contains name=bR
def EC{T id h:String}{name:iS}(b:Z4 T name id h)(a:cR)(o:qY)(i:o.cls=.type T):
  Meets (Oj.«method_descriptor.__get__» ⟨[.builtin id,.ref a,.type T],[]⟩) (λA R s=>s.heap.get? a=aG o/\R (.ok (.ret (.ref s.heap.objs.size))) {s with heap:=s.heap.push (K8 id (.ref a))}):=
 aB5 λprog w A R s c=>by
  obtain ⟨j,g,d,tk,os⟩:=s;obtain ⟨k,c⟩:=c;have l:(⟨j,g,d,tk,os⟩:cS).TypeIs (.ref a) T:=⟨_,k,i⟩;unfold Oj.«method_descriptor.__get__»;have e:=b.told;have f:=b.own;have m:=b.sub;repeat (any_goals (first|assumption|wp_step))
  all_goals (try simp only [e,f])
  repeat (any_goals (first|assumption|wp_step))
  all_goals (try simp only [e,f])
  repeat (any_goals (first|assumption|wp_step))
  exact ⟨_,rfl,c⟩
def BD{a:Type}{M:I8}{A:jY}{Q:a->qR}{E:pZ}{s:cS}{t b:Ag a}(h:t=b)(x:bW M A b Q E s):bW M A t Q E s:=h▸x
def Pn{T id l:String}{name:iS}(b:Z4 T name id l)(a:cR)(o:qY)(e:o.cls=.type T)(hd:o.dict=aH)(i:(∃es k,o.data=.dict es k)\/∃xs m t,o.data=.set xs m t)(u:Tok):
  Meets (Oj.«object.__getattribute__» ⟨[.ref a,.str name u],[]⟩) (λA R s=>s.heap.get? a=aG o/\R (.ok (.ret (.ref s.heap.objs.size))) {s with heap:=s.heap.push (K8 id (.ref a))}):=
 aB5 λprog w A R s f=>by
  obtain ⟨c,g,d,tk,os⟩:=s;obtain ⟨j,f⟩:=f;have n:(⟨c,g,d,tk,os⟩:cS).TypeIs (.ref a) T:=⟨_,j,e⟩;unfold Oj.«object.__getattribute__»;have h1:=b.slot.lookup;have h2:=b.typ;have h3:=Bu.lookup;have h4:=DT;have h5:=DV;have h7:=λs=>Bu.bind s;obtain ⟨oc,od,Uf,p⟩:=o;dsimp only at e hd i;subst e hd;have h:∀{Q:pZ}{E:pZ}{A':jY},Q (.ref c.objs.size) {heap:=c.push (K8 id (.ref a)),gens:=g,drawn:=d,toks:=tk,os:=os}->bW (model prog w) A' (call (.builtin "method_descriptor.__get__") [.builtin id,.ref a,.type T]) Q E ⟨c,g,d,tk,os⟩:=λq=>
   call_meets Bu h2 Q8 (Um _ _ _) (EC b a _ rfl) ⟨j,q⟩
  repeat (any_goals (first|assumption|(with_reducible refine h ?_)|wp_step))
  refine BD (show _=instanceDict a bR by rcases i with ⟨es,k,rfl⟩|⟨xs,m,t,rfl⟩<;>rfl) ?_;repeat (any_goals (first|assumption|(with_reducible refine h ?_)|wp_step))
  rw [b.copied];repeat (any_goals (first|assumption|(with_reducible refine h ?_)|wp_step))
  exact ⟨_,rfl,f⟩
def Tz{A:jY}{E:pZ}{s:cS}{T id f:String}{name:iS}{a:cR}{o:qY}{Q:pZ}(b:Z4 T name id f)(h:s.heap.get? a=aG o)(i:o.cls=.type T)(hd:o.dict=aH)(j:(∃es k,o.data=.dict es k)\/∃xs m t,o.data=.set xs m t)
  (q:∀tk,Q (.ref s.heap.objs.size) {s with heap:=s.heap.push (K8 id (.ref a)),toks:=tk}):bW (model prog w) A (getAttr (.ref a) name aU) Q E s:=by
 obtain ⟨c,g,d,tk,os⟩:=s;obtain ⟨oc,od,Uf,p⟩:=o;dsimp only at i hd j;subst i hd;have l:∀e,(⟨c,g,d,e,os⟩:cS).TypeIs (.ref a) T:=λ_=>⟨_,h,rfl⟩;have r:=b.gaS.lookup;have v:=b.gaS.bind (.ref a);have n:∀{Q:pZ}{E:pZ}{A':jY}{e:Nat}{u:Tok},Q (.ref c.objs.size) {heap:=c.push (K8 id (.ref a)),gens:=g,drawn:=d,toks:=e,os:=os}->bW (model prog w) A' (call (.builtin f) [.ref a,.str name u]) Q E ⟨c,g,d,e,os⟩:=λq=>
  call_meets b.gaS (l _) b.entry (b.args _ _) (Pn b a _ rfl rfl j _) ⟨h,q⟩
 repeat (any_goals (first|assumption|exact l _|((with_reducible show bW _ _ (call (oT _) _ _) _ _ _);refine n ?_)|wp_step))
 exact q _
def JX:Z4 "dict" (aF "get") "dict.get" "dict.__getattribute__":=
 ⟨Sd,Jc,by decide+kernel,by decide+kernel,by kernel_rfl,PySem.F.slot_dict_getattribute,am_entry_dict_getattribute,PySem.F.args_dict_getattribute_2,by decide+kernel⟩
def Jy:Z4 "set" (aF "__contains__") "set.__contains__" "set.__getattribute__":=
 ⟨PySem.F.slot_set_contains,Cd,by decide+kernel,by decide+kernel,by kernel_rfl,PySem.F.slot_set_getattribute,entryFor_alias (id':="object.__getattribute__") (by kernel_rfl) (by decide+kernel) (by decide+kernel) (by kernel_rfl),PySem.F.args_set_getattribute_2,by decide+kernel⟩
structure AN(h:dF)(d:cR)(f:Int->Option bL)(n:Nat):Prop where
 ex:∃es ep,h.get? d=aG {cls:=.type "dict",dict:=aH,data:=.dict es ep,slots:= #[]}/\IntKeys es/\es.size<=n/\∀k,findBy pN es k=f k
def AN.map{f:Int->Option bL}(x:AN h d f n):h.IntMap d f:=by refine nn λa=>?_;obtain ⟨es,b,c,e,_,g⟩:=x.ex;exact a ⟨_,es,b,c,rfl,rfl,e,g⟩
def kG:C9 h d ks xs↔aC ks=aC xs/\∃f,AN h d f (aC ks)/\∀k,f k=(ks.zip xs).lookup k:=by
 constructor
 .rintro ⟨f,⟨o,es,g,a,m,hd,i,j⟩,ex,le,l,e⟩;refine nn λn=>?_;obtain ⟨x1,x2⟩:=ex o a;have p:=le _ _ _ a hd;obtain ⟨c,s,t,u⟩:=o;dsimp only at m hd x1 x2;subst m hd x1 x2;refine n ?_;exact ⟨l,f,⟨es,g,a,i,p,j⟩,e⟩
 .rintro ⟨l,f,⟨es,g,a,i,le,j⟩,e⟩;refine ⟨f,⟨_,es,g,a,rfl,rfl,i,j⟩,λo b=>?_,λo v x b r=>?_,l,e⟩
  .replace b:=a▸b;refine pH b ?_;rintro rfl;exact ⟨rfl,rfl⟩
  .replace b:=a▸b;refine pH b ?_;rintro rfl;cases r;exact le
def Ip{E:pZ}{s:cS}{f:Int->Option bL}{Q:Unit->qR}(x:AN s.heap d f n)(h:n<=iF)
  (q:∀h',AN h' d (λy=>if y=k then aG v else f y) (n+1)->qJ d s.heap h'->Q () {s with heap:=h',toks:=s.toks+1}):bW iC A (dictSet d (.int k t) v) Q E s:=by
 refine nn λg=>?_;obtain ⟨es,j,a,b,le,c⟩:=x.ex;refine g (cJ (aK (aD6 (cJ (aK (aBv a rfl b ?_))))))
 cases hi:es.findIdx? λe=>pN k e.key with
 |some i=>
  refine aK (zB (aK (wpAny_updateDict a rfl (wpAny_point (q _ ⟨_,_,jZ _ a (El (Obj.data_mapDict rfl _)),b.modify i v,?_,λy=>?_⟩ (pA ..))))))
  .simp only [Array.size_modify];exact aT Pv le
  .rw [findBy_modify pN Value.isInt_inj es k y v i hi,c]
 |none=>
  refine aK (zB (đ a rfl (q _ ⟨_,_,jZ _ a (El (KT rfl _)),b.push k t v,?_,λy=>?_⟩ (pA ..))))
  .simp only [XE];exact aT Pw le
  .refine (findBy_push pN es k y _ _ v (λz=>?_) hi).trans (by rw [c]);refine (?_:(k==z)=decide (z=k));by_cases e:z=k
   .simp [e]
   .have:¬k=z:=λq=>e q.symm;simp [e,this]
section
set_option backward.match.sparseCases false
def Lk{Y:gI}(k:Int):∀{ks:bE}{vs:cA}{xs:eW},bN D Y h vs xs->aC ks=aC xs->
  (∃v x,(ks.zip vs).lookup k=aG v/\(ks.zip xs).lookup k=aG x/\fW D Y h v x)\/((ks.zip vs).lookup k=aH/\(ks.zip xs).lookup k=aH):=by
 intro z1
 induction z1 with
 |nil=>intro vs;intro xs;intro _;intro _;exact .inr ⟨by rfl,by rfl⟩
 |cons a ks z4=>
  intro b
  cases b with
  |nil=>intro xs;intro r;intro e;subst r;simp at e
  |cons d vs=>
   intro xs;intro r;intro e;obtain ⟨u,us,rfl,c,f⟩:=r;simp only [hU,gP];by_cases q:k==a
   .rw [q];exact .inl ⟨d,u,rfl,rfl,c⟩
   .rw [show (k==a)=bR by simpa using q];exact z4 f (by simpa using e)
def Hj{f:Int->Option bL}(a:aC ks=aC xs)(e:∀y,f y=(ks.zip xs).lookup y)(x:AN h' d (λy=>if y=k then aG v else f y) (aC ks+1)):C9 h' d (k::ks) (v::xs):=by
 refine kG.mpr ⟨by simp [a],_,x,λy=>?_⟩;simp only [hU,gP];by_cases q:y=k
 .subst q;simp
 .rw [if_neg q,e,show (y==k)=bR by simpa using q]
def Zr:mU:=λus σ=>aV (λu=>aV λy=>aV λd=>aN (ob (JZ u) λp=>ob (B6 y) λk=>aG (((p.1.zip p.2).lookup k).getD d,σ))) us
noncomputable def aDj:V->Bool
 |.dct _ _=>aU
 |_=>bR
def gDM(d:mU)(go:M V)(ga:M cA):M V:=λσ=>bd (go σ) λu σ=>if aDj u=aU then bd (ga σ) λus σ=>d (u::us) σ else aH
noncomputable def à:M V:=λσ=>aG (ZJ (.dict [] []) σ)
def HL(go gi:M V)(v:V)(σ:St):Option St:=bd (go σ) λo σ=>bd (gi σ) λi σ=>ob (Jz o) λn=>ob (B6 i) λk=>aD σ n λp=>if p.1.length<=lim then aG {σ with cells:=put n (.dict (k::p.1) (v::p.2)) σ.cells}else aH
def gBm(g:M V):M V:=λσ=>bd (g σ) λo σ=>ob (JZ o) λp=>aG (.bm "dict.get" (.dct p.1 p.2),σ)
def á(g:M V):M V:=λσ=>bd (g σ) λo σ=>ob (ā o) λ_=>aG (.bm "set.__contains__" .set0,σ)
def vZ(go:M V)(ga:M cA):M V:=λσ=>bd (go σ) λo σ=>ob (aBg o) λp=>bd (ga σ) λus σ=>
  if p.1="dict.get" then Zr (p.2::us) σ
  else if p.1="set.__contains__" then ob (ā p.2) λ_=>aV (λy=>aN (ob (B6 y) λ_=>aG (.bool bR,σ))) us
  else aH
section
variable{n:Nat}{F:Fx}{K:xO}
def Y6:iP n F (.Dict [] [] c) (gK (.dct [] [])):=λσ v σ' e=>by intro A X D h tk vs ok m _;have a:=cY h {cls:=.type "dict",data:=.dict #[]};refine aD9 ⟨_,tk,D,σ,_,rfl,mZ.grow a,m.grow a,?_,.of e⟩;refine ⟨h.objs.size,[],rfl,λq=>?_,kG.mpr ⟨rfl,λ_=>aH,⟨#[],0,cC _ rfl,λe b=>by simp at b,by trivial,λk=>rfl⟩,λk=>rfl⟩,bN.nil⟩;exact (m.yal q).no (eE _)
def Ku:iP n F (.Dict [] [] d) à:=λσ v σ' e=>by intro A X D h tk vs ok m _;obtain ⟨a,st⟩:=m.cell (c:=.dict [] []) (cY h {cls:=.type "dict",data:=.dict #[]}) (eE h) ⟨_,cC _ rfl⟩ (λD' Y' _ f=>⟨[],kG.mpr ⟨rfl,λ_=>aH,⟨#[],0,cC _ rfl,λe b=>by simp at b,by trivial,λk=>rfl⟩,λk=>rfl⟩,bN.nil⟩);refine aD9 ⟨_,tk,_,_,_,rfl,st,a,?_,.of e⟩;exact ⟨_,rfl,by simp [fL,eP]⟩
def Xe{X:gI}{R:rR->qR}(x:C9 h a ks xs)(j:bN D (Yf F X D) h vs xs)(l:fW D (Yf F X D) h d u)
  (q:∀r m,fW D (Yf F X D) h (((ks.zip vs).lookup k).getD d) r->R (.ok (.ret r)) (iZ h m)):
  bW iC A.in1 (Oj.«dict.get» ⟨[.ref a,.int k t,u],[]⟩) (λyH b=>match yH with|.done f=>R (.ok f) b|.again i=>i.quiet=aU/\jC iC A i R b) (λe b=>R (.error e) b) (iZ h tk):=by
 refine nn λo=>?_;obtain ⟨p,f,df,s⟩:=kG.mp x;refine o ((?_:bW _ _ (dictGet a (.int k t)>>=_) _ _ _));refine aK (wpAny_dictGet_int df.map ?_);rw [s];rcases Lk k j p with ⟨v,z,c,g,y⟩|⟨c,g⟩
 .refine g▸?_;replace q:=c▸q;exact aW (q z _ y)
 .refine g▸?_;replace q:=c▸q;refine (?_:bW _ _ (aEx a (.int k t)>>=_) _ _ _);exact aK (wpAny_missed_int (aW (q u _ l)))
@[elab_as_elim] theorem Xd {P:V->cA->Prop} (e:Zr (u::us) σ=aG (r,σ')) (q:∀ks vs k d,aG (((ks.zip vs).lookup k).getD d,σ)=aG (r,σ')->P (.dct ks vs) [.int k,d]):P u us:=by refine oC (us:=us) e λy _ e=>?_;refine oC e λd _ e=>?_;refine mT e λe=>?_;refine Vy e λks vs e=>?_;exact tV e λk e=>q ks vs k d e
def DL:SO n F "dict.get" Zr:=λus σ v σ' e=>by
 cases us with
 |nil=>exact gG e
 |cons u us=>
 refine Xd e λks vs k d e=>?_;intro A X D h tk B ok m r;obtain ⟨u,_,rfl,c,y,_,rfl,g,z,_,rfl,i,j⟩:=r;cases j;obtain ⟨a,xs,rfl,C,b,l⟩:=c;obtain ⟨t,rfl⟩:=g;have o:(iZ h tk).TypeIs (.ref a) "dict":=by obtain ⟨_,f,⟨es,G,p,_⟩,_⟩:=kG.mp b;exact ⟨_,p,rfl⟩
 refine gN (jF Sd.plain R2 (Sd.check _ _ _ _ _ _ _ _ o (PySem.F.args_dict_get_3 _ _ _) (Xe (R:=wants (tG rV F X D h (Db v σ')) (λ_ _=>False)) b l i λH s x=>?_)));exact ⟨h,s,D,σ,_,rfl,.refl,m,x,.of e⟩
def Õ{o:Expr}{name:iS}{c b:ķ}{args:List Expr}{pl:Ag Bool}{id:String}{d:mU}{e:M V}{g:M cA}(slot:Ĕ "dict" name id)(j:typeOf (.builtin id)=pure (.type "method_descriptor"))(k:Z7 "dict")(ob:SO n F id d)
  (x:iP n F o e) (l:nJ F args) (y:xH n F b args g)
  (p:eval (.Call (.Attribute o name c) args [] b) F.env=(do
   let i<-eval o F.env
   gB c.atName
   let (f,first)<-holding [i] (getMethod i name pl)
   kY b f first (backTo b (eD args F.env)) [])):iP n F (.Call (.Attribute o name c) args [] b) (gDM d e g):=λσ v σ' q=>by
 obtain ⟨u,σ₁,s,q⟩:=eJ q;split at q
 .rename_i hd;replace q:=eJ q;obtain ⟨us,C,t,q⟩:=q;refine Nl slot j k p l ((x _ _ _ s).mono (oB ⟨λF X D h v m r=>?_,TW.mono (y _ _ _ t) ?_⟩))
  .cases u<;>first|cases hd|skip
   obtain ⟨a,xs,rfl,G,z,H⟩:=r;refine nn λA=>?_;obtain ⟨_,f,⟨es,I,B,_⟩,_⟩:=kG.mp z;exact A ⟨a,_,rfl,B,rfl,rfl⟩
  .exact oB (ob _ _ _ _ q)
 .exact gG q
def GP(fk:hO F)(x:iP n F o N)(y:iP n F i O):Dg n F (.Subscript o i ap) (HL N O):=λσ v σ' e=>by replace e:=eJ e;obtain ⟨ov,σ₁,P,e⟩:=e;replace e:=eJ e;obtain ⟨iv,be,Q,e⟩:=e;obtain ⟨j,rfl,d⟩:=Š e;obtain ⟨k,rfl,p⟩:=Ţ d;replace p:=TG p;obtain ⟨ks,vs,R,z⟩:=p;replace z:=iB z;obtain ⟨T,W⟩:=z;refine pH W ?_;rintro rfl;intro A X D h tk u ok m r;rw [assign_Subscript];refine aK (cJ (TW.atE (x _ _ _ P) ok m bN.nil ?_));rintro Y h₁ ag D₁ H B Z;refine aK (cJ (TW.atE (y _ _ _ Q) ok B bN.nil ?_));rintro ab3 bk br D₂ C I f5;have G:=fW.on B C Z;obtain ⟨a,rfl,J⟩:=G;obtain ⟨t,rfl⟩:=f5;refine nn λg=>?_;obtain ⟨a',d,xs,hx,rx⟩:=I.cel j _ R;refine g ?_;replace d:=J▸d;refine pH d ?_;rintro rfl;refine nn λg=>?_;obtain ⟨e0,f,df,ef⟩:=kG.mp hx;refine g ?_;have l:=df.map.typeIs (s:=iZ bk br);refine aK (fM (aK (cJ (cJ (aK (wpAny_sequenceKey l (by decide) (aK (tK l slot_dict_setitem (oN slot_dict_setitem l entry_dict_setitem ?_ (args_dict_setitem _ _ _))))))))));refine (?_:bW _ _ (aEw "__setitem__" ⟨[.ref a,.int k t,u],[]⟩>>=_) _ _ _);refine aK (WV l ((?_:bW _ _ (dictSet a (.int k t) u>>=_) _ _ _)));refine aK (Ip df (bV T nL) λh' yq gm=>?_);have L:=Hj e0 ef yq;refine nn λg=>?_;obtain ⟨oz,yr⟩:=L.lt;obtain ⟨m',dh⟩:=I.turn (c:=.dict (k::ks) (v::vs)) fk J (λb o hb e=>(gm.2 b hb).trans e) ⟨oz,yr⟩ (λY' hr ip=>⟨u::xs,L,.cons (hr _ _ (fW.on B C (fW.on m H r))) (ip _ _ rx)⟩);exact g (aW ⟨.none,rfl,aW (wpAny_release ⟨h',_,D₂,_,(),rfl,(H.trans C).trans dh,m',trivial,rfl⟩)⟩)
def Wv{o:Expr}{name:iS}{c:ķ}{T id s:String}{g l:M V}(b:Z4 T name id s)(x:iP n F o g)(y:eval (.Attribute o name c) F.env=(eval o F.env>>=λf=>gB c.atName>>=λ_=>holding [f] (getAttr f name aU)>>=λr=>letTemporaryGo o f r>>=λ_=>pure r))
  (i:∀σ v σ',l σ=aG (v,σ')->∃u,g σ=aG (u,σ')/\v=.bm id u/\∀(D:kP) Y h d,fW D Y h u d->∃a ob,d=.ref a/\¬Y a/\h.get? a=aG ob/\ob.cls=.type T/\ob.dict=aH/\((∃es k,ob.data=.dict es k)\/∃xs m t,ob.data=.set xs m t)):iP n F (.Attribute o name c) l:=λσ v σ' q=>by
 obtain ⟨u,z,rfl,B⟩:=i _ _ _ q;intro A X D h tk vs ok m _;refine (?_:bW _ _ (eval (.Attribute o name c) F.env) _ _ _);refine y▸(aK (TW.atE (x _ _ _ z) ok m bN.nil ?_));rintro d h₁ L D₁ st p r;refine nn λC=>?_;obtain ⟨a,ob,rfl,N,G,H,hd,I⟩:=B D₁ _ h₁ d r;refine C ?_;have j:=cY h₁ (K8 id (.ref a));refine aK (fM (aK (cJ (Tz b G H hd I λJ=>aK (wpAny_letTemporaryGo (aW ?_))))));refine ⟨_,J,D₁,_,_,rfl,st.trans (mZ.grow j),p.grow j,?_,rfl,rfl⟩;refine ⟨h₁.objs.size,.ref a,rfl,λq=>?_,⟨_,cC _ rfl,rfl,rfl,rfl⟩,(fW.step (λb o e _=>j b o e) (λ_ _ e=>e) (λ_ e=>.inl e) _ _ r)⟩;exact (p.yal q).no (eE _)
def QB(x:iP n F o g)(i:eval (.Attribute o (aF "get") d) F.env=(eval o F.env>>=λb=>gB d.atName>>=λ_=>holding [b] (getAttr b (aF "get") aU)>>=λr=>letTemporaryGo o b r>>=λ_=>pure r)):iP n F (.Attribute o (aF "get") d) (gBm g):=by refine Wv JX x i λσ v σ' e=>?_;replace e:=eJ e;obtain ⟨u,σ₁,c,e⟩:=e;revert c;refine Vy e ?_;clear e;intro ks vs e c;refine Ck e ?_;rintro rfl rfl;refine ⟨_,c,rfl,λD Y h p r=>?_⟩;refine nn λj=>?_;obtain ⟨a,xs,rfl,k,l,s⟩:=r;obtain ⟨_,f,⟨es,t,m,_⟩,_⟩:=kG.mp l;exact j (⟨a,_,rfl,k,m,rfl,rfl,.inl ⟨_,_,rfl⟩⟩)
def QA(x:iP n F o g)(f:eval (.Attribute o (aF "__contains__") d) F.env=(eval o F.env>>=λb=>gB d.atName>>=λ_=>holding [b] (getAttr b (aF "__contains__") aU)>>=λr=>letTemporaryGo o b r>>=λ_=>pure r)):iP n F (.Attribute o (aF "__contains__") d) (á g):=by refine Wv Jy x f λσ v σ' e=>?_;replace e:=eJ e;obtain ⟨u,σ₁,c,e⟩:=e;revert c;refine TI e ?_;clear e;intro e c;refine Ck e ?_;rintro rfl rfl;refine ⟨_,c,rfl,λD Y h l r=>?_⟩;refine nn λi=>?_;obtain ⟨a,rfl,j,m,k⟩:=r;exact i (⟨a,_,rfl,j,k,rfl,rfl,.inr ⟨_,_,_,rfl⟩⟩)
def Rh{A:jY}{E:pZ}{s:cS}{c:ķ}{u:cR}{ob:qY}{id:String}{self:bL}{args:List (Bool×Ag bL)}{Q:pZ}(d:args.any (·.1)=bR)
  (h:bW iC A (evalArgs (.ref u) aU args []) (λx a=>(a.heap.get? u=aG ob/\ob.cls=.type "builtin_function_or_method"/\ob.data=.fields #[.builtin id,self])/\bW iC A (call (.ref u) x.pos x.kw) Q E a) E s):bW iC A (kY c (.ref u) [] args []) Q E s:=by
 refine aK (cJ (bK h (λx a h₁=>aK (fM ?_)) λ_ _ x=>x));refine nn λe=>?_;obtain ⟨⟨f,b,hd⟩,g⟩:=h₁;refine e ?_;clear h;obtain ⟨oc,od,Uf,j⟩:=ob;dsimp only at b hd;subst b hd;rw [d,List.any_nil,aB1];exact aK (aK (J5 f (aW (aK (bK g (λr k i=>aK (cJ (wpAny_point (aW i)))) λ_ _ x=>x)))))
def Xj{A:jY}{E:pZ}{s:cS}{u:cR}{ob:qY}{id:String}{self:bL}{vs:eW}{B:Oj}{Q:pZ}(g:s.heap.get? u=aG ob)(b:ob.cls=.type "builtin_function_or_method")(hd:ob.data=.fields #[.builtin id,self])(c:plainId id=aU)(i:entryFor table id=aG B)
  (j:∀{A':jY}{E':pZ}{K:Unit->qR},K () s->bW iC A' (checkBoundCall id ⟨self::vs,[]⟩) K E' s)
  (h:bW iC A.in1 (B ⟨self::vs,[]⟩) (λyH a=>match yH with|.done f=>wants Q E (.ok f) a|.again d=>d.quiet=aU/\jC iC A d (wants Q E) a) (λe a=>wants Q E (.error e) a) s):bW iC A (call (.ref u) vs) Q E s:=by
 refine nn λk=>?_;obtain ⟨oc,od,Uf,l⟩:=ob;refine k ?_;dsimp only at b hd;subst b hd;refine gN (xL ((?_:bW _ A.in1 (callAny (.ref u) ⟨vs,[]⟩) _ _ s)));refine aK (J5 g (aK (j (aK (aW (aW ⟨plainId_quiet c _,xM i ?_⟩))))));exact (Xr c _)▸h
end
end
def RV{E:pZ}{s:cS}{K:Unit->qR}(b:s.heap.get? a=aG {cls:=.type "dict",dict:=aH,data:=.dict es e,slots:= #[]})(q:K () s):bW iC A (checkBoundCall "dict.get" ⟨[.ref a,x,y],[]⟩) K E s:=by
 obtain ⟨c,g,d,tk,os⟩:=s;have f:(⟨c,g,d,tk,os⟩:cS).TypeIs (.ref a) "dict":=⟨_,b,rfl⟩;have h1:yT (.type "dict") (.type "module")=pure false:=by rw [zD];kernel_rfl
 have h2:yT (.type "dict") (.type "type")=pure false:=by rw [zD];kernel_rfl
 have h3:Manifest.varargsMethods.contains "dict.get"=false:=by decide+kernel
 unfold checkBoundCall;repeat (any_goals (first|assumption|wp_step))
def Nu{E:pZ}{s:cS}{K:Unit->qR}(b:s.heap.get? a=aG {cls:=.type "set",dict:=aH,data:=.set #[] 0 (.fresh 0 0 e)})(q:K () s):bW iC A (checkBoundCall "set.__contains__" ⟨[.ref a,x],[]⟩) K E s:=by
 obtain ⟨c,g,d,tk,os⟩:=s;have f:(⟨c,g,d,tk,os⟩:cS).TypeIs (.ref a) "set":=⟨_,b,rfl⟩;have h1:yT (.type "set") (.type "module")=pure false:=by rw [zD];kernel_rfl
 have h2:yT (.type "set") (.type "type")=pure false:=by rw [zD];kernel_rfl
 have h3:Manifest.varargsMethods.contains "set.__contains__"=false:=by decide+kernel
 unfold checkBoundCall;repeat (any_goals (first|assumption|wp_step))
def MQ(x:Us h a):h.SetOf (intKind prog w) a (λ_=>bR) 0:=by obtain ⟨b,c⟩:=x;refine ⟨_, #[],0,.fresh 0 0 b,c,⟨rfl,rfl,rfl⟩,rfl,λe d=>by simp at d,λk=>?_,by decide,by cases b<;>rfl,rfl⟩;simp
def Re{s:cS}{R:rR->qR}(x:Us s.heap a)(q:∀g,R (.ok (.ret (.bool bR))) {s with toks:=g}):
  bW iC A.in1 (Oj.«frozenset.__contains__» ⟨[.ref a,.int k t],[]⟩) (λyH b=>match yH with|.done f=>R (.ok f) b|.again c=>c.quiet=aU/\jC iC A c R b) (λe b=>R (.error e) b) s:=by
 have h:=MQ x;have d:(intKind prog w).is k (.int k t)=true:=by show pN k (.int k t)=aU;simp [pN]
 unfold Oj.«frozenset.__contains__» ġ;simp only [List.isEmpty_nil,bind_assoc];unfold Ģ Ġ setContains;refine aK (aW (aK (aW (aK (Fe (cJ (aK ((intKind prog w).pyHash d (aK (wpAny_setFind_of (s:={s with toks:=s.toks+1}) d rfl h λr i=>?_))))))))));refine aW ?_;show bW _ _ (ret (Value.bool r.isSome)) _ _ _;rw [i];exact aW (q _)
section
variable{n:Nat}{F:Fx}{K:xO}
def uT(x:iP n F (.Name s p) go)(Q:nJ F args)(y:xH n F i args ga)
  (he:eval (.Call (.Name s p) args [] i) F.env=(do kY i (<-eval (.Name s p) F.env) [] (backTo i (eD args F.env)) [])):iP n F (.Call (.Name s p) args [] i) (vZ go ga):=λσ r σ' e=>by
 obtain ⟨o,σ₁,G,e⟩:=eJ e;revert G;refine ţ e λid self e G=>?_;obtain ⟨us,be,T,b⟩:=eJ e;clear e;intro A X D h tk vs ok m _;show bW _ _ (eval (.Call (.Name s p) args [] i) F.env) _ _ _;rw [he];refine aK (TW.atE (x σ _ _ G) ok m bN.nil ?_);rintro fv h₀ fu D₀ W m₀ Y;have aa2:=Y;obtain ⟨u,sv,rfl,nu,⟨ob,ho,H,hd,I⟩,rs⟩:=Y;have hu:∀h₁ D₁,mZ F D₀ h₀ D₁ h₁->h₁.get? u=aG ob:=λh₁ D₁ st=>st.keep u ob ho (λz=>nu (.inl z)) (λj z=>nu (.inr (.inr ⟨j,z⟩)));refine Rh (ob:=ob) (id:=id) (self:=sv) (mD Q) (rL Q (y _ _ _ T) ok m₀ ?_);rintro ir h₁ l D₁ d8 i3 B Z c ⟨rfl,rfl⟩;have J:=hu h₁ D₁ B;have g:=fW.on m₀ B rs;refine ⟨⟨J,H,I⟩,?_⟩;clear T;split at b
 .rename_i L;cases L;revert c g;refine Xd (u:=self) b λks ws k d b c g=>?_;obtain ⟨yv,_,rfl,N,zv,_,rfl,O,r4⟩:=c;cases r4;refine nn λng=>?_;obtain ⟨a,xs,rfl,na,hx,rx⟩:=g;obtain ⟨t,rfl⟩:=N;have ke:=hx;obtain ⟨_,f,⟨es,ep,C,_⟩,_⟩:=kG.mp ke;refine ng ?_;refine Xj (s:=iZ h₁ l) J H I Sd.plain R2 (λq=>RV (s:=iZ h₁ l) C q) (Xe (R:=wants (tG rV F X D h (Db r σ')) (λ_ _=>False)) hx rx O λr' P rr=>?_);exact ⟨h₁,P,D₁,_,_,rfl,W.trans B,Z,rr,.of b⟩
 .obtain ⟨L,b⟩:=iB b;cases L;revert c g;refine TI (v:=self) b λb=>?_;refine oC b λy _ b=>?_;refine mT b λb=>?_;refine tV b λk b c g=>?_;obtain ⟨yv,_,rfl,N,O⟩:=c;cases O;obtain ⟨a,rfl,na,j4,C⟩:=g;obtain ⟨t,rfl⟩:=N;refine Xj (s:=iZ h₁ l) J H I PySem.F.slot_set_contains.plain entry_set_contains (λq=>Nu (s:=iZ h₁ l) C q) (Re (s:=iZ h₁ l) (R:=wants (tG rV F X D h (Db r σ')) (λ_ _=>False)) ⟨j4,C⟩ λP=>?_);exact ⟨h₁,P,D₁,_,_,rfl,W.trans B,Z,nW,.of b⟩
end
inductive Ev(lt:Nat->Nat->Bool)(n:Nat){α:Type}:KasT α->α->Prop where
 |ret (a:α):Ev lt n (.ret a) a
 |ask {i j:Nat} {k:Bool->KasT α} {a:α} (hi:i<n) (hj:j<n) (c6:i≠j) (h:Ev lt n (k (lt i j)) a):Ev lt n (.ask i j k) a
def Ev.bind{lt:Nat->Nat->Bool}{c d:Type}{t:KasT c}{a:c}{f:c->KasT d}{b:d}(x:Ev lt n t a)(y:Ev lt n (f a) b):Ev lt n (t.bind f) b:=by
 induction x with
 |ret=>exact y
 |ask hi e g _ h=>exact .ask hi e g (h y)
def Ev.wp{lt:Nat->Nat->Bool}{c:Type}{t:KasT c}{a:c}{cmp:Nat->Nat->(Bool->qR)->qR}{I:qR}{Q:c->qR}(x:Ev lt n t a)
  (e:∀i j C s,i<n->j<n->i≠j->I s->(∀b,I b->C (lt i j) b)->cmp i j C s) (d:∀s,I s->Q a s):∀s,I s->t.kasWp cmp Q s:=by
 induction x with
 |ret=>exact d
 |ask hi f g _ h=>exactλs k=>e _ _ _ s hi f g k λb l=>h d b l
structure sH(n:Nat)(p:Array Nat):Prop where
 size:p.size=n
 perm:p.toList.Perm (bX n)
structure qA(lt:Nat->Nat->Bool)(n:Nat):Prop where
 tot:∀i j,i<n->j<n->i≠j->lt i j=bR->lt j i=aU
 tr:∀i j k,i<n->j<n->k<n->lt i j=aU->lt j k=aU->lt i k=aU
def Rw(lt:Nat->Nat->Bool)(p:Array Nat)(k:Nat):Prop:=∀i j,i<j->j<k->lt (p.getD i 0) (p.getD j 0)=aU
def Z2(lt:Nat->Nat->Bool)(p:Array Nat)(k:Nat):Prop:=∀i j,i<j->j<k->lt (p.getD j 0) (p.getD i 0)=aU
section
variable{lt:Nat->Nat->Bool}{n:Nat}{p:Array Nat}
def C0(p:Array Nat)(i:Nat):p.getD i 0=(p[i]?).getD 0:=by simp
def sH.bd(g:sH n p)(h:i<n):p.getD i 0<n:=by
 have hi:i<p.size:=by simp only [g.size];exact h
 have:p[i]∈bX n:=g.perm.mem_iff.mp (by simp);simpa [LA,hi]using this
def sH.ne(g:sH n p)(hi:i<n)(c:j<n)(h:i≠j):p.getD i 0≠p.getD j 0:=by
 have a:i<p.toList.length:=by simp only [qP,g.size];exact hi
 intro e;have a1:i<p.size:=by exact a
 have b:j<p.size:=by exact (by simp only [qP,g.size];exact c:j<p.toList.length)
 refine h ((pG a (g.perm.nodup_iff.mpr WZ)).mp ?_);simp [a1,b,(by simpa [LA,a1,b]using e:p[i]=p[j])]
def sH.of_perm(g:sH n p)(h:q.Perm p):sH n q:=⟨by rw [h.size_eq,g.size],(Array.perm_iff_toList_perm.mp h).trans g.perm⟩
def IJ(g:sH n p)(st:qA lt n):∀(f a:Nat),1<=a->a+f<=n->Rw lt p a->∃m,Ev lt n (kas_asc p f a) m/\a<=m/\m<=a+f/\Rw lt p m/\(m=a+f\/lt (p.getD m 0) (p.getD (m-1) 0)=aU):=by
 intro x0
 induction x0 with
 |zero=>intro a _ _ h;exact ⟨a,.ret a,bG _,bG _,h,.inl rfl⟩
 |succ f o=>
  intro a h1 h2 h;have b:a<n:=aT OJ h2
  cases c:lt (p.getD a 0) (p.getD (a-1) 0)with
  |true=>exact ⟨a,.ask (g.bd b) (g.bd (aT R9 h2)) (g.ne b (aT R9 h2) (aT Yv h1)) (by rw [c];exact .ret a),bG _,aT 0x8c52841c20002,h,.inr c⟩
  |false=>
   have k:=st.tot _ _ (g.bd b) (g.bd (aT R9 h2)) (g.ne b (aT R9 h2) (aT Yv h1)) c;have h':Rw lt p (a+1):=λi j d r=>by
    by_cases e:j=a
    .subst e;by_cases l:i=j-1
     .refine l▸?_;exact k
     .exact st.tr _ _ _ (g.bd (aT UH d h2)) (g.bd (aT R9 h2)) (g.bd b) (h i (j-1) (aT VV d l) (aT ZV h1)) k
    .exact h i j d (aT EX r e)
   refine nn λs=>?_;obtain ⟨m,e,t,u,v,x⟩:=o (a+1) (aT FD) (aT EZ h2) h';refine s ?_;exact ⟨m,.ask (g.bd b) (g.bd (aT R9 h2)) (g.ne b (aT R9 h2) (aT Yv h1)) (by refine c▸?_;exact e),aT Py t,aT UQ u,v,x.imp (λz=>aT 0x7462b420e208168120e1003 z) id⟩
def RB(g:sH n p)(st:qA lt n):∀(f a:Nat),1<=a->a+f<=n->Z2 lt p a->∃m,Ev lt n (kas_desc f p a 0) (p,m,0)/\a<=m/\m<=a+f/\Z2 lt p m:=by
 intro x0
 induction x0 with
 |zero=>intro a _ _ h;exact ⟨a,.ret _,bG _,bG _,h⟩
 |succ f l=>
  intro a h1 h2 h;have b:a<n:=aT OJ h2
  cases c:lt (p.getD a 0) (p.getD (a-1) 0)with
  |true=>
   have h':Z2 lt p (a+1):=λi j d o=>by
    by_cases e:j=a
    .subst e;by_cases k:i=j-1
     .refine k▸?_;exact c
     .exact st.tr _ _ _ (g.bd b) (g.bd (aT R9 h2)) (g.bd (aT UH d h2)) c (h i (j-1) (aT VV d k) (aT ZV h1))
    .exact h i j d (aT EX o e)
   refine nn λr=>?_;obtain ⟨m,e,s,t,u⟩:=l (a+1) (aT FD) (aT EZ h2) h';refine r ?_;exact ⟨m,.ask (g.bd b) (g.bd (aT R9 h2)) (g.ne b (aT R9 h2) (aT Yv h1)) (by rw [c];exact e),aT Py s,aT UQ t,u⟩
  |false=>exact ⟨a,.ask (g.bd b) (g.bd (aT R9 h2)) (g.ne b (aT R9 h2) (aT Yv h1)) (by rw [c];exact .ask (g.bd (aT R9 h2)) (g.bd b) (g.ne (aT R9 h2) b (aT 0x90a18ba4b081213ccc7001 h1)) (by rw [(st.tot _ _ (g.bd b) (g.bd (by exact aT R9 h2)) (g.ne b (by exact aT R9 h2) (by exact aT Yv h1)) c)];exact .ret _)),bG _,by exact aT 0x8c52841c20002,h⟩
def MO(g:sH n p)(d:m<=n)(h:Z2 lt p m):Rw lt (kas_rev p 0 m) m:=λi j b a=>by
 have e:∀k,k<m->(kas_rev p 0 m).getD k 0=p.getD (m-1-k) 0:=λk f=>by rw [C0,C0];unfold kas_rev;rw [getElem?_mirror_all (by rw [g.size];exact d),if_pos ⟨bI _,f⟩];simp
 rw [e i (tJ b a),e j a];have c:=Nat.le_sub_one_of_lt a;exact h _ _ (qU (dC b c) b) (eK (Nat.sub_le _ _) (Nat.sub_lt (eK (bI _) a) KV))
def QZ(g:sH n p)(st:qA lt n)(h1:1<=m)(a:m<=n)(h:Z2 lt p m):∃r,Ev lt n (kas_tail3 m n p) r/\1<=r.1/\r.1<=n/\sH n r.2/\Rw lt r.2 r.1:=by have g':sH n (kas_rev p 0 m):=g.of_perm (mirror_perm _ _ _ _);obtain ⟨k,e,k1,k2,b,_⟩:=IJ g' st (n-m) m h1 (aT 0x24518a4280092114cc1002 a) (MO g a h);exact ⟨(k,kas_rev p 0 m),e.bind (.ret _),by exact aT 0xe31484e908120382 h1 k1,by exact aT 0x4858c5211a50010d2114cc1003 a k2,g',b⟩
def II(g:sH n p)(st:qA lt n)(a:1<=n):∃r,Ev lt n (kas_count n p) r/\1<=r.1/\r.1<=n/\sH n r.2/\Rw lt r.2 r.1:=by
 obtain ⟨k,e,k1,k2,o,t⟩:=IJ g st (n-1) 1 (bG _) (aT 0x24518a42801d213ccc7001 a) (λi j h l=>by exact iV (aT 0x18c64a38541002 h l));unfold kas_count;by_cases b:k=n
 .exact ⟨(k,p),e.bind (by simp [b];exact .ret _),k1,by exact aT 0xc62908161002 b,g,o⟩
 .by_cases d:k>1
  .have c:=o 0 (k-1) (aT 0x92c62a019413ccc7001 d) (aT ZV k1);refine ⟨(k,p),e.bind ?_,k1,by exact aT 0x4858c52112500389213ccc7002 a k2,g,o⟩;rw [if_neg (by simpa using b),if_pos d];exact .ask (g.bd (aT 0xc62a01920381 a)) (g.bd (aT Ψ a k2)) (g.ne (aT 0xc62a01920381 a) (aT Ψ a k2) (aT 0x91618ba4b019413ccc7001 d)) (by rw [c];exact .ret _)
  .have u:k=1:=aT 0xe8c56703a4a01d20381 k1 d;subst u;have:∃r,Ev lt n (kas_descPart 1 n p) r/\1<=r.1/\r.1<=n/\sH n r.2/\Rw lt r.2 r.1:=by
    have hd:Z2 lt p 2:=λi j h l=>by
     have f:i=0:=aT 0xe462b3015a30541002 h l;have v:j=1:=aT 0x7462b3855a30541002 h l;subst f v;rcases t with z|z
     .exact iV (aT 0x244818986325a0073ba4b09d213ccc7001 a b z)
     .exact z
    obtain ⟨m,x,y,A,B⟩:=RB g st (n-2) 2 (aT 0x118a746380) (aT 0xd11248c52140346749613a42799b46001 a b) hd;obtain ⟨r,f,s⟩:=QZ g st (by exact aT 0x18c5203a41a301 y) (by exact aT 0x644264c62908928068c2749613a42799b46002 a b A) B;exact ⟨r,x.bind (by simpa using f),s⟩
   obtain ⟨r,f,s⟩:=this;refine ⟨r,e.bind ?_,s⟩;rw [if_neg (by simpa using b),if_neg d];exact f
def IH(g:sH n p)(st:qA lt n)(a:k<n)(v:Rw lt p k):∀(f l r:Nat),l<=r->r<=k->r-l<=f->(∀i,i<l->lt (p.getD i 0) (p.getD k 0)=aU)->(∀i,r<=i->i<k->lt (p.getD k 0) (p.getD i 0)=aU)->
  ∃m,Ev lt n (kas_place p k f l r) m/\m<=k/\(∀i,i<m->lt (p.getD i 0) (p.getD k 0)=aU)/\(∀i,m<=i->i<k->lt (p.getD k 0) (p.getD i 0)=aU):=by
 intro x0
 induction x0 with
 |zero=>intro l r h1 h2 h3 h4 h5;exact ⟨l,.ret l,aT Tn h1 h2,h4,λi hi=>h5 i (aT 0x11ae3148c291892604cc1003 h3 hi)⟩
 |succ f x=>
  intro l r h1 h2 h3 h4 h5;unfold kas_place;by_cases e:l ≥ r
  .rw [if_pos e];exact ⟨l,.ret l,aT Tn h1 h2,h4,λi hi=>h5 i (aT Tn e hi)⟩
  .rw [if_neg e];have z:=Ę e;have a1:l<=(l+r)/2:=(Nat.le_div_iff_mul_le (by decide)).mpr (by omega);have d:(l+r)/2<r:=Nat.div_lt_of_lt_mul (by exact aT 0x6315401a3200174921002 e);revert a1 d;generalize (l+r)/2=o;intro a1 d;have j:=dC d h2;have b:=tJ j a;have s:=iT j
   cases c:lt (p.getD k 0) (p.getD o 0)with
   |true=>
    obtain ⟨m,t,u⟩:=x l o a1 (iG j) (mW (dC (KU a1 d) h3)) h4 (λi hi h=>by
     rcases SX hi with rfl|hi
     .exact c
     .exact st.tr _ _ _ (g.bd a) (g.bd b) (g.bd (tJ h a)) c (v _ _ hi h))
    exact ⟨m,.ask (g.bd a) (g.bd b) (g.ne a b s) (by rw [c];exact t),u⟩
   |false=>
    have y:=st.tot _ _ (g.bd a) (g.bd b) (g.ne a b s) c;obtain ⟨m,t,u⟩:=x (o+1) r d h2 (mW (dC (qU z (WY a1)) h3)) (λi hi=>by
     rcases SX (mW hi)with zq|hi
     .exact zq▸y
     .exact st.tr _ _ _ (g.bd (tJ hi b)) (g.bd b) (g.bd a) (v _ _ hi j) y) h5
    exact ⟨m,.ask (g.bd a) (g.bd b) (g.ne a b s) (by rw [c];exact t),u⟩
def ê(st:qA lt n):∀(f k:Nat)(p:Array Nat),sH n p->k+f=n->Rw lt p k->∃q,Ev lt n (kas_bin f p k) q/\sH n q/\Rw lt q n:=by
 intro x0
 induction x0 with
 |zero=>intro k p g h m;exact ⟨p,.ret p,g,by rw [<-h];exact m⟩
 |succ f t=>
  intro k p g h m;have o:k<n:=aT 0xc62a10162420e1003 h;refine nn λu=>?_;obtain ⟨l,e,l1,l2,v⟩:=IH g st o m k 0 k (bI _) (bG _) (aT OG) (λi hi=>by exact iV (aT 0x118c946001 hi)) (λi h1 h2=>by exact iV (aT 0x18c64a00521002 h1 h2));have g':sH n (bubble p k (k-l)):=g.of_perm (bubble_perm _ _ _);have r:∀i,(bubble p k (k-l)).getD i 0=if i=l then p.getD k 0 else if l<i/\i<=k then p.getD (i-1) 0 else p.getD i 0:=λi=>by
   rw [C0,getElem?_bubble (by rw [g.size];exact o) _ (by exact aT 0x198c52104cc1002),Nat.sub_sub_self l1];split
   .rw [C0]
   .split<;>rw [C0]
  have x:Rw lt (bubble p k (k-l)) (k+1):=λi j c d=>by
   rw [r i,r j];by_cases c1:j=l
   .subst c1;rw [if_pos rfl,if_neg (by exact aT EQ c),if_neg (by exact aT 0x618ba4c4880a00541003 c)];exact l2 i (aT 0xc62a08141002 c)
   .rw [if_neg c1];by_cases c2:i=l
    .subst c2;rw [if_pos rfl,if_pos ⟨aT 0xc62a08141002 c,aT OF d⟩];exact v _ (aT Tp c) (aT 0x4858c543029071854114cc7003 c d)
    .rw [if_neg c2];have s:i<=k:=by exact aT 0x38c5220290710541003 c d
     by_cases a:l<i
     .rw [if_pos ⟨a,s⟩,if_pos ⟨by exact aT 0xe315044a00941003 c a,by exact aT OF d⟩];exact m _ _ (by exact aT 0x2481090aa315002a1114314cc714cc7003 c a) (by exact aT 0x2e6462a1014322443520e20ccc7004 d s a)
     .rw [if_neg (λq=>a q.1)];have A:i<l:=rS (fD a) c2;by_cases b:l<j
      .rw [if_pos ⟨b,by exact aT OF d⟩];exact m _ _ (by exact aT 0x850862b18a8025046e928437496314cc7003 c2 a b) (by exact aT 0x4468c54202823520e20ccc7003 d b)
      .rw [if_neg (λq=>b q.1)];have B:j<l:=rS (fD b) c1;exact m _ _ c (by exact aT 0x6d18a8227494203a4b00921003 l1 c1 b)
  obtain ⟨q,y,z⟩:=t (k+1) _ g' (aT OP h) x;refine u ?_;exact ⟨q,e.bind y,z⟩
def RA(st:qA lt n)(c:1<=n):∃q,Ev lt n (kas_sort n) q/\sH n q/\Rw lt q n:=by
 have g0:sH n (bC (bX n)):=⟨by simp,by simp⟩;obtain ⟨r,e,d,f,a,b⟩:=II g0 st c;unfold kas_sort;by_cases h:r.1<n
 .obtain ⟨q,g,i⟩:=ê st (n-max r.1 1) (max r.1 1) r.2 a (aT 0x4e220a124e220a123158d000a862998029e8c7002 h) (by rw [Oh d];exact b);exact ⟨q,e.bind (by rw [if_pos h];exact g),i⟩
 .exact ⟨r.2,e.bind (by rw [if_neg h];exact .ret _),a,by rw [show n=r.1 by exact aT 0xe8c5600ba4a08121002 f h];exact b⟩
end
structure Xo(A:jY)(s:cS)(a:cR)(vs:eW)(κ:SortKind)(lt:Nat->Nat->Bool):Prop where
 kind:∀(H:dF) tk (Q:SortKind->qR),(∀b o,b≠a->s.heap.get? b=aG o->H.get? b=aG o)->(∀aw,Q κ {s with heap:=H,toks:=aw})->bW iC A (keyKind' vs.toArray) Q (λ_ _=>False) {s with heap:=H,toks:=tk}
 cmp:∀(H:dF) tk i j (C:Bool->qR),(∀b o,b≠a->s.heap.get? b=aG o->H.get? b=aG o)->i<aC vs->j<aC vs->i≠j->(∀aw,C (lt i j) {s with heap:=H,toks:=aw})->bW iC A (keyLt' κ (vs.getD i jG) (vs.getD j jG)) C (λ_ _=>False) {s with heap:=H,toks:=tk}
theorem Xu:∀(vs:eW),aC vs<2->(vs.toArray.zip vs.toArray).map (·.2)=bC ((bC (bX (aC vs))).toList.map λi=>vs.getD i jG)
 |[],_=>by simp
 |[v],_=>by simp
 |_::_::_,h=>by simp only [eM]at h;exact iV (aT 0x23192b4641d07001 h)
def Cu{E:pZ}{s:cS}{lt:Nat->Nat->Bool}{P:SS->qR}(k:s.heap.get? a=aG (seqObj "list" vs.toArray n))(u:aC vs<64)(st:qA lt (aC vs))(c:2<=aC vs->Xo A s a vs κ lt)
  (h:∀(p:Array Nat) h' d,sH (aC vs) p->Rw lt p (aC vs)->(∀b o,b≠a->s.heap.get? b=aG o->h'.get? b=aG o)->(∃m,h'.get? a=aG (seqObj "list" (bC (p.toList.map λi=>vs.getD i jG)) m))->P (.done (.ret .none)) {s with heap:=h',toks:=d}):
  bW iC A (Oj.«list.sort» ⟨[.ref a],[]⟩) P E s:=by
 refine nn λB=>?_;obtain ⟨v,D⟩:∃v,(s.heap.update a (iX λ_=>(#[]:Array bL))).get? a=aG (seqObj "list" #[] v):=⟨_,get?_update_seq k λ_=> #[]⟩;refine B ?_;generalize F:((s.heap.update a (iX λ_=>(#[]:Array bL))).push (seqObj "tuple" vs.toArray 0)).push (seqObj "list" #[] 0)=H;have l:H.get? a=aG (seqObj "list" #[] v):=by rw [<-F];exact cK _ (cK _ D)
 have keep:∀b o,b≠a->s.heap.get? b=aG o->H.get? b=aG o:=λb o r e=>by refine F▸?_;exact cK _ (cK _ ((gD _ _ (vG r)).trans e))
 have yH:∀(p:Array Nat) d,sH (aC vs) p->Rw lt p (aC vs)->P (.done (.ret .none)) {s with heap:=H.update a (iX λ_=>bC (p.toList.map λi=>vs.getD i jG)),toks:=d}:=λp d g W=>
  h p _ d g W (λb o r e=>(gD _ _ (vG r)).trans (keep b o r e)) ⟨_,get?_update_seq l λ_=>bC (p.toList.map λi=>vs.getD i jG)⟩
 rw [list_sort_plain];refine aK (listItems_at k rfl ?_);refine aK (listUpdate_at k rfl ?_ (by refine mN▸?_;rw [nQ];exact aT OR u) (bI _));refine aK (seqEpoch_at D rfl ?_);refine aK (wpAny_newTuple ?_ (by refine (?_:aC vs<=_);rw [nQ];exact aT OR u));refine aK (wpAny_newList ?_ (bI _));refine cJ ?_;have X:((s.heap.update a (iX λ_=>(#[]:Array bL))).push {cls:=.type "tuple",data:=.seq vs.toArray.toList.toArray}).push {cls:=.type "list",data:=.seq ([]:eW).toArray}=H:=by rw [<-F]
 refine (?_:bW iC A _ P E {s with heap:=((s.heap.update a (iX λ_=>(#[]:Array bL))).push {cls:=.type "tuple",data:=.seq vs.toArray.toList.toArray}).push {cls:=.type "list",data:=.seq ([]:eW).toArray}});refine X▸?_;dsimp only;by_cases h2:vs.toArray.size<2
 .rw [if_pos h2,if_pos h2];refine aK (aW (aK (aW ?_)));dsimp only;have y:aC vs<2:=by exact h2
  have Y:sH (aC vs) (bC (bX (aC vs))):=⟨by simp,by rfl⟩;have G:=Xu vs y;refine aK (seqEpoch_at l rfl ?_);refine aK (listUpdate_at l rfl ?_ (bI _) (by simp only [G,mN,bB,gV,nQ];exact aT 0x6314a0f8c6318c630702b46001 y));simp only [bne_self_eq_false,lO];refine aW ?_;have:=yH _ s.toks Y (λi j I J=>by exact iV (aT 0x38c64a009420ab46003 y I J));replace this:=G▸this;exact this
 .rw [if_neg h2];refine (if_neg h2)▸?_;have L:2<=aC vs:=by simpa using h2
  have Z:=c L;try clear k;try clear c;try clear h;try clear b;try clear o;try clear r;try clear g;try clear W;try clear ref;try clear a;try clear v;try clear D;try clear get;try clear _update_seq;try clear wt;try clear yx;try clear map;try clear ab4;try clear bL;try clear (dW k);try clear X;try clear y;try clear Y;try clear G
  refine aK (bK (Z.kind H s.toks (λt f=>t=κ/\∃d,f={s with heap:=H,toks:=d}) keep λd=>⟨rfl,d,rfl⟩) ?_ λ_ _ x=>x.elim);rintro t f ⟨rfl,d,rfl⟩;refine nn λB=>?_;obtain ⟨q,eq,gq,sq⟩:=RA st (aT 0x18c5203a41a301 L);refine B ?_;refine aK (bK (kat_run (Q:=λz f=>∃p:Array Nat,arrOf z=p.map (kas_item (vs.toArray.zip vs.toArray))/\failedOf z=none/\p=q/\∃d,f={s with heap:=H,toks:=d})
   rfl L u (λp' z f a1 a2 a3 a4=>⟨p',a2,a3,a4⟩)
   (eq.wp (λi j C f hi J I N hC=>?_) (λf N=>⟨rfl,N⟩) _ ⟨d,rfl⟩)) ?_ λ_ _ e=>e)
  .obtain ⟨O,rfl⟩:=N;exact Z.cmp H O i j C keep hi J I λR=>hC _ ⟨R,rfl⟩
  .rintro ⟨⟨⟩,z⟩ f ⟨p,T,hf,rfl,O,rfl⟩;dsimp only;rw [(kat_snds rfl T)];refine aK (seqEpoch_at l rfl ?_);refine aK (listUpdate_at l rfl ?_ (bI _) (by simp only [mN,bB,qP,gq.size,nQ];exact aT 0xc62941f18c6318c60e056307001 u));rw [hf];simp only [bne_self_eq_false,lO];exact aW (yH p O gq sq)
noncomputable abbrev K3:=Int×Int×Int
noncomputable def Bx(x y:K3):Bool:=decide (x.1<y.1)|| (decide (x.1=y.1)&& (decide (x.2.1<y.2.1)|| (decide (x.2.1=y.2.1)&&decide (x.2.2<y.2.2))))
def xZ:Bx x y=aU↔x.1<y.1\/(x.1=y.1/\(x.2.1<y.2.1\/(x.2.1=y.2.1/\x.2.2<y.2.2))):=by simp [Bx]
def D1(h1:Bx x y=aU)(h2:Bx y z=aU):Bx x z=true:=by
 rw [xZ]at *;rcases h1 with h1|⟨a,h1⟩<;>rcases h2 with h2|⟨b,h2⟩
 .exact .inl (AB h1 h2)
 .exact .inl (b▸h1)
 .exact .inl (by rw [a];exact h2)
 .refine .inr ⟨a.trans b,?_⟩;rcases h1 with h1|⟨c,h1⟩<;>rcases h2 with h2|⟨d,h2⟩
  .exact .inl (AB h1 h2)
  .exact .inl (d▸h1)
  .exact .inl (by rw [c];exact h2)
  .exact .inr ⟨c.trans d,AB h1 h2⟩
def Wa(h:x≠y)(h1:Bx x y=bR):Bx y x=true:=by
 obtain ⟨a,b,c⟩:=x;obtain ⟨d,e,f⟩:=y;rw [xZ];have g:¬Bx (a,b,c) (d,e,f)=true:=by rw [h1];simp
 rw [xZ]at g;rcases I4 d a with q|q|q
 .exact .inl q
 .refine .inr ⟨q,?_⟩;rcases I4 e b with r|r|r
  .exact .inl r
  .refine .inr ⟨r,?_⟩;rcases I4 f c with u|u|u
   .exact u
   .exact absurd (show (a,b,c)=(d,e,f) by rw [show d=a from q,show e=b from r,show f=c from u]) h
   .exact absurd (.inr ⟨Eq.symm q,.inr ⟨Eq.symm r,u⟩⟩) g
  .exact absurd (.inr ⟨Eq.symm q,.inl r⟩) g
 .exact absurd (.inl q) g
def NY:Bx x x=false:=by
 cases h:Bx x x with
 |false=>rfl
 |true=>rw [xZ]at h;exact iV (aT ζ h)
noncomputable def Tt(x:K3×V):List (K3×V)->List (K3×V)
 |[]=>[x]
 |y::r=>if Bx x.1 y.1=aU then x::y::r else y::Tt x r
def Mz:Tt x []=([x]):=rfl
def My:Tt x (y::r)=(if Bx x.1 y.1=aU then x::y::r else y::Tt x r):=rfl
def Ð:List (K3×V)->List (K3×V)
 |[]=>[]
 |x::r=>Tt x (Ð r)
def Kr(x:K3×V):∀l,(Tt x l).Perm (x::l):=by
 intro x0
 induction x0 with
 |nil=>exact .refl _
 |cons y r a=>
  simp only [Mz,My];split
  .exact .refl _
  .exact ((a).cons y).trans (.swap _ _ _)
def Cx:∀l,(Ð l).Perm l:=by
 intro x0
 induction x0 with
 |nil=>exact .refl _
 |cons x r a=>exact (Kr x _).trans ((a).cons x)
def SK:List (K3×V)->Prop:=aBz λx y=>Bx x.1 y.1=aU
def Qh(x:K3×V):∀l,SK l->(∀y∈l,x.1≠y.1)->SK (Tt x l):=by
 intro x0
 induction x0 with
 |nil=>intro _ _;simp [Mz,My,SK]
 |cons y r c=>
  intro h b;simp only [Mz,My];have h':=dR.mp h;split
  .rename_i q;refine dR.mpr ⟨λz a=>?_,h⟩;rcases aR.mp a with zq|a
   .exact zq▸q
   .exact D1 q (h'.1 z a)
  .rename_i q;refine dR.mpr ⟨λz a=>?_,c h'.2 λz a=>b z (aO _ a)⟩;rcases aR.mp ((Kr x r).mem_iff.mp a)with zq|a
   .exact zq▸(Wa (b y aQ) (by simpa using q))
   .exact h'.1 z a
def Bz:∀l,(l.map (·.1)).Nodup->SK (Ð l):=by
 intro x0
 induction x0 with
 |nil=>intro _;exact iU
 |cons x r a=>intro h;simp only [cE,mL]at h;refine Qh x _ (a h.2) λy b e=>h.1 ?_;rw [e];exact jJ.mpr ⟨y,(Cx r).mem_iff.mp b,rfl⟩
def Dv:∀{l l':List (K3×V)},SK l->SK l'->l.Perm l'->l=l':=by
 intro z1
 induction z1 with
 |nil=>intro l';intro _;intro _;intro p;exact (aBx.mp p.symm).symm
 |cons x r z4=>
  intro c
  cases c with
  |nil=>intro _;intro _;intro p;have:=aBx.mp p;cases this
  |cons y d=>
   intro h;intro h';intro p;have a:=dR.mp h;have b:=dR.mp h';have e:x=y:=by
    rcases aR.mp (p.mem_iff.mp aQ)with q|q
    .exact q
    .rcases aR.mp (p.mem_iff.mpr (aQ))with z|z
     .exact z.symm
     .have:=D1 (a.1 y z) (b.1 x q);rw [NY]at this;cases this
   subst e;rw [z4 a.2 b.2 (List.perm_cons x |>.mp p)]
def Qe(k:V->Option K3):cA->Option (List (K3×V))
 |[]=>aG []
 |v::r=>ob (k v) λx=>ob (Qe k r) λl=>aG ((x,v)::l)
def Wj{k:V->Option K3}:Qe k (v::r)=(ob (k v) λx=>ob (Qe k r) λl=>aG ((x,v)::l)):=rfl
def Qd{k:V->Option K3}:∀{l:cA}{c:List (K3×V)},Qe k l=aG c->c.map (·.2)=l/\∀x∈c,k x.2=aG x.1:=by
 intro l
 induction l with
 |nil=>intro c e;refine pH e ?_;rintro rfl;exact ⟨rfl,λ_ h=>by cases h⟩
 |cons v r f=>
  intro c e;obtain ⟨x,g,e⟩:=dS e;obtain ⟨l,i,e⟩:=dS e;refine pH e ?_;rintro rfl;obtain ⟨a,b⟩:=f i;exact ⟨by simp [a],λy d=>by
   rcases aR.mp d with rfl|d
   .exact g
   .exact b y d⟩
noncomputable def EH(kl:List (K3×V))(i j:Nat):Bool:=Bx ((kl.map (·.1)).getD i (0,0,0)) ((kl.map (·.1)).getD j (0,0,0))
def Eu(h:(c.map (·.1)).Nodup):qA (EH c) (aC c)where
 tr:=λi j k _ _ _ a b=>D1 a b
 tot:=λi j hi d f e=>by
  refine Wa (λq=>f ?_) e;have l1:i<(c.map (·.1)).length:=by simpa using hi
  have l2:j<(c.map (·.1)).length:=by simpa using d
  refine (pG l1 h).mp ?_;rw [aY,aY,bO l1,bO l2]at q;rw [bO l1,bO l2];simpa using q
def G9{a:Type}(d:a):∀(l:List a),(bX (aC l)).map (λi=>l.getD i d)=l:=λl=>by
 apply List.ext_getElem
 .simp
 .intro i h1 h2;simp at h1;simp [h1]
def O2(h:(a.map (·.1)).Nodup)(g:sH (aC a) p)(s:Rw (EH a) p (aC a)):p.toList.map (λi=>(a.map (·.2)).getD i .none)=(Ð a).map (·.2):=by
 have e:p.toList.map (λi=>a.getD i ((0,0,0),.none))=Ð a:=by
  refine Dv ?_ (Bz a h) (((g.perm.map _).trans (by rw [G9])).trans (Cx a).symm);unfold SK;rw [List.pairwise_iff_getElem];intro i j hi b f;simp only [bB,qP,g.size]at hi b;have:=s i j f b;simp only [List.getElem_map];have k:i<p.size:=by rw [g.size];exact hi
  have l:j<p.size:=by rw [g.size];exact b
  have c:=g.bd hi;have d:=g.bd b;simp only [EH,LA,k,l,dif_pos]at this c d;simp only [Array.getElem_toList];have m:p[i]<aC a:=by simpa using c
  have n:p[j]<aC a:=by simpa using d
  simpa [aY,m,n]using this
 rw [<-e,qG];refine vO λi hi=>?_;have:i<aC a:=by simpa using (g.perm.mem_iff.mp hi)
 simp [aY,this]
inductive F2{α β:Type}(R:α->β->Prop):List α->List β->Prop where
 |nil:F2 R [] []
 |cons {x:α} {y:β} {l:List α} {m:List β} (h:R x y) (r:F2 R l m):F2 R (x::l) (y::m)
def FU:V->Option K3:=λv=>ob (Fc v) (Ć λa b c _=>aG (a,b,c))
inductive Up(h:dF)(v:bL)(k:K3):Prop
 |mk (x:cR) (ts:eW) (n t1 t2 t3:Nat) (e:v=.ref x) (p:IsT h x (bC (.int k.1 t1::.int k.2.1 t2::.int k.2.2 t3::ts)) n)
def MJ{Y:gI}(e:FU v=aG k)(r:fW D Y h v u):Up h u k/\∃x,u=.ref x/\¬Y x:=by revert r;refine Pf e ?_;clear e;intro l e;refine Eg e ?_;clear e;intro a b c t e r;refine pH e ?_;rintro rfl;refine nn λd=>?_;obtain ⟨x,xs,rfl,nx,⟨n,f⟩,_,_,rfl,⟨t1,rfl⟩,_,_,rfl,⟨g,rfl⟩,_,i,rfl,⟨j,rfl⟩,_⟩:=r;exact d (⟨⟨x,i,n,t1,g,j,rfl,f⟩,x,rfl,nx⟩)
section
variable{A:jY}{s:cS}
def RQ{C:Bool->qR}{E:pZ}(x:Up s.heap u k)(y:Up s.heap v h)(l:k≠h)(q:∀m,C (Bx k h) {s with toks:=m}):bW iC A (keyLt' (tuples' aU) u v) C E s:=by
 obtain ⟨x,G,n,t1,H,I,rfl,o⟩:=x;obtain ⟨y,p,J,r,t,B,rfl,D⟩:=y;refine nn λF=>?_;obtain ⟨a,b,c⟩:=k;obtain ⟨g,e,f⟩:=h;refine F ?_;have d:=q s.toks;refine kat_lt o rfl D rfl (kat_cons (jE ?_));by_cases i:a=g
 .subst i;rw [show (a==a)=aU by simp];refine kat_yes (kat_cons (jE ?_));by_cases j:b=e
  .subst j;rw [show (b==b)=aU by simp];refine kat_yes (kat_cons (jE ?_));rw [show (c==f)=bR by simpa using (λz=>l (by rw [z]))];refine kat_no ?_;have:Bx (a,b,c) (a,b,f)=decide (c<f):=by simp [Bx]
   simp only [this]at d;exact kat_one _ _ (SR d)
  .simp only [show (b==e)=bR by simpa using j];refine kat_no ?_;have:Bx (a,b,c) (a,e,f)=decide (b<e):=by simp [Bx,j]
   simp only [this]at d;exact kat_one _ _ (SR d)
 .simp only [show (a==g)=bR by simpa using i];refine kat_no ?_;have:Bx (a,b,c) (g,e,f)=decide (a<g):=by simp [Bx,i]
  simp only [this]at d;exact oneLt_int d
end
def Ak(c:∀b o,b≠a->h.get? b=aG o->H.get? b=aG o)(x:Up h v k)(d:v≠.ref a):Up H v k:=by obtain ⟨x,e,n,t1,f,g,rfl,i⟩:=x;exact ⟨x,e,n,t1,f,g,rfl,c x _ (λq=>d (by exact q▸rfl)) i⟩
def Tq(x:F2 (Up h) vs ks):∃d,KatTups h vs d/\d.length=aC vs/\∀f∈d,∃i t,f=B9 i t:=by
 induction x with
 |nil=>exact ⟨[],trivial,rfl,λ_ q=>by cases q⟩
 |cons h _ e=>
  obtain ⟨x,k,n,t1,l,m,rfl,g⟩:=h;refine nn λj=>?_;obtain ⟨d,a,b,c⟩:=e;refine j ?_;exact ⟨_::d,KatTups.cons g rfl rfl rfl a,congrArg Nat.succ b,λf q=>by
   rcases aR.mp q with rfl|q
   .exact ⟨_,_,rfl⟩
   .exact c f q⟩
def Eb{a b:Type}{R:a->b->Prop}{d:a}{e:b}{l:List a}{m:List b}(x:F2 R l m):∀{i:Nat},i<aC l->R (l.getD i d) (m.getD i e):=by
 induction x with
 |nil=>exactλh=>absurd h (eL _)
 |cons h _ c=>
  intro i hi
  cases i with
  |zero=>exact h
  |succ i=>exact c (A7 hi)
def Nk{a b:Type}{R:a->b->Prop}{l:List a}{m:List b}(x:F2 R l m):aC l=m.length:=by
 induction x with
 |nil=>rfl
 |cons _ _ c=>exact congrArg Nat.succ c
def Uc{b c:Type}{R R':b->c->Prop}{l:List b}{m:List c}(h:∀x∈l,∀y,R x y->R' x y)(x:F2 R l m):F2 R' l m:=by
 induction x with
 |nil=>exact .nil
 |cons a _ d=>exact .cons (h _ aQ _ a) (d λx e=>h x (aO _ e))
def FS{Y:gI}{g:V->Option K3}{P:bL->K3->Prop}(i:∀{v:V}{u:bL}{k:K3},g v=aG k->fW D Y h v u->P u k/\∃x,u=.ref x/\¬Y x):∀{l:cA}{f:List (K3×V)}{vs:eW},Qe g l=aG f->bN D Y h l vs->F2 P vs (f.map (·.1))/\∀v∈vs,∃x,v=.ref x/\¬Y x:=by
 intro l
 induction l with
 |nil=>intro f vs e r;refine pH e ?_;rintro rfl;cases r;exact ⟨.nil,λ_ q=>by cases q⟩
 |cons d l j=>
  intro f vs e r;replace e:=dS e;obtain ⟨x,m,e⟩:=e;replace e:=dS e;obtain ⟨l',n,e⟩:=e;refine pH e ?_;rintro rfl;obtain ⟨u,us,rfl,o,p⟩:=r;obtain ⟨a,b⟩:=j n p;obtain ⟨c,z⟩:=i m o;exact ⟨.cons c a,λv q=>by
   rcases aR.mp q with rfl|q
   .exact z
   .exact b v q⟩
def Zs{s:cS}(h2:2<=aC vs)(f:F2 (Up s.heap) vs (b.map (·.1)))(d:∀v∈vs,v≠.ref a)(k:(b.map (·.1)).Nodup):Xo A s a vs (tuples' aU) (EH b)where
 kind:=λH tk Q c q=>by
  refine nn λl=>?_;obtain ⟨r,x1,x2,x3⟩:=Tq (Uc (λx m y t=>Ak c t (d x m)) f);refine l (kat_kind (T:=.type "int") x1 (aT 0x3462a099600a41a302 h2 x2) (λv n=>?_) (by decide) ?_)
  .obtain ⟨i,t,rfl⟩:=x3 v n;exact fY rfl
  .exact q tk
 cmp:=λH tk i j C c hi e o q=>by
  have g:∀i,i<aC vs->vs.getD i jG∈vs:=λi hi=>by simp [aY,hi]
  refine RQ (Ak c (Eb f hi) (d _ (g i hi))) (Ak c (Eb f e) (d _ (g j e))) (λz=>o ?_) λp=>q p;have h:=Nk f;have l1:i<(b.map (·.1)).length:=aT EU hi h;have l2:j<(b.map (·.1)).length:=aT EU e h;refine (pG l1 k).mp ?_;simp only [aY,bO l1,bO l2]at z;simp only [bO l1,bO l2];simpa using z
section
set_option backward.match.sparseCases false
def Ep(k:V->Option K3)(l:cA):Option cA:=ob (Qe k l) λkl=>if (kl.map (·.1)).Nodup/\aC kl<64 then aG ((Ð kl).map (·.2))else aH
section
variable{n:Nat}{F:Fx}
def X3{E:pZ}{s:cS}{lt:Nat->Nat->Bool}{Q:pZ}(k:s.heap.IsList l vs.toArray)(d:aC vs<64)(st:qA lt (aC vs))
  (c:∀h1,(∀b o,s.heap.get? b=aG o->h1.get? b=aG o)->2<=aC vs->Xo A.in1.in1 {s with heap:=h1} (s.heap.objs.size+1) vs κ lt)
  (h:∀(p:Array Nat) h' e,sH (aC vs) p->Rw lt p (aC vs)->(∀b o,s.heap.get? b=aG o->h'.get? b=aG o)->(∃m,h'.get? (s.heap.objs.size+1)=aG (seqObj "list" (bC (p.toList.map λi=>vs.getD i jG)) m))->Q (.ref (s.heap.objs.size+1)) {s with heap:=h',toks:=e}):
  bW iC A (call (.builtin "sorted") [.ref l]) Q E s:=by
 refine Op kind_sorted plain_sorted entry_sorted (args_sorted1 _) ?_;unfold Oj.«sorted»;refine aK (aW ?_);refine aK (collect_list k ?_ (by rw [nQ];exact aT OR d));refine aK (wpAny_newList ?_ (by rw [nQ];exact aT OR d));have f:((s.heap.push (seqObj "list" #[] 0)).update s.heap.objs.size (iX (·++vs.toArray))).objs.size=s.heap.objs.size+1:=by simp only [Heap.size_update,size_push']
 generalize j:((s.heap.push (seqObj "list" #[] 0)).update s.heap.objs.size (iX (·++vs.toArray))).push (seqObj "list" vs.toArray 0)=H;have a:H.get? (s.heap.objs.size+1)=aG (seqObj "list" vs.toArray 0):=by simp only [<-j,<-f];exact cC _ rfl
 have keep:∀b o,s.heap.get? b=aG o->H.get? b=aG o:=λb o q=>by rw [<-j];exact cK _ ((gD _ _ (vG (fI (dW q)))).trans (cK _ q))
 refine (?_:bW _ _ _ _ _ {s with heap:=H});refine f▸(aK (cJ (oN slot_list_sort ⟨_,a,rfl⟩ entry_list_sort (Cu (κ:=κ) a d st (c H keep) λp h' e g r t u=>⟨_,rfl,?_⟩) (args_list_sort _))));exact aW ⟨_,rfl,h p h' e g r (λb o q=>t b o (λz=>absurd (z▸dW q) (lU.mpr (jW _))) (keep b o q)) u⟩
theorem bN.pick{Y:gI}(r:bN D Y h l vs):∀{p:mI},(∀i∈p,i<aC l)->bN D Y h (p.map λi=>l.getD i .none) (p.map λi=>vs.getD i jG)
 |[],_=>bN.nil
 |i::p,a=>by
  refine nn λb=>?_;obtain ⟨x,c,e⟩:=r.get (i:=i) (d:=l.getD i .none) (by simp [aY,(a i aQ)]);refine b ?_;have:vs.getD i jG=x:=by simp [aY,c]
  simp only [cE];simp only [this];exact .cons e (r.pick λj f=>a j (aO _ f))
end
end
section
open PySem.Calls
section
variable{M:I8}{A:jY}{α:Type}{Q:α->qR}{E:pZ}{s:cS}{x y:Ag α}
def Sh(h:bW M A x Q E s):bW M A (if aU=aU then x else y) Q E s:=by rw [if_pos rfl];exact h
def Sj(h:bW M A y Q E s):bW M A (if bR=aU then x else y) Q E s:=by rw [if_neg lN];exact h
def Si(e:c=aU)(h:bW M A x Q E s):bW M A (if c=aU then x else y) Q E s:=by rw [if_pos e];exact h
def Dm(e:c=bR)(h:bW M A y Q E s):bW M A (if c=aU then x else y) Q E s:=by rw [if_neg (by rw [e];exact lN)];exact h
def U4(h:bW M A y Q E s):bW M A (if (!aU)=aU then x else y) Q E s:=Sj h
def U5(h:bW M A x Q E s):bW M A (if (!bR)=aU then x else y) Q E s:=Sh h
def U6{b:Type}[BEq b][LawfulBEq b]{a:b}(h:bW M A x Q E s):bW M A (if (a==a)=aU then x else y) Q E s:=by refine (if_pos (beq_self_eq_true a))▸?_;exact h
def U3{b:Type}[BEq b][LawfulBEq b]{a:b}(h:bW M A y Q E s):bW M A (if (a != a)=aU then x else y) Q E s:=by rw [if_neg (by rw [bne_self_eq_false];exact lN)];exact h
end
structure rQ(K:xO)(pn fn pm fm:cR):Prop where
 obj:∃oc od cd sl,K.lookup mE=aG ⟨oc,od,.cls cd,sl⟩/\cd.abstract=bR/\cd.hasDel=bR/\cd.mro=[.ref mE,.type "tuple",.type "object"]/\cd.bases=[.type "tuple"]/\sl.toList[4]?=aG (aG .none)
 call:specialIn K (.ref mE) "__call__"=aG (aG (.builtin "type.__call__"))
 typ:instIn K (.ref mE) (.type "type")=aG aU
 init:findIn K (.ref mE) "__init__"=aG (aG (.builtin "object.__init__"))
 reads:readsIn K mE (.type "type")=aU
 new:findCls K (.ref mE) (.type "type") "__new__"=aG (.get (.builtin "staticmethod.__get__") (.ref pn) .none (.ref mE))
 newR:∃ez,recIn K pn "staticmethod"=aG (.ref fn::ez)
 tnew:findCls K (.type "tuple") (.type "type") "__new__"=aG (.val (.builtin "tuple.__new__"))
 make:findCls K (.ref mE) (.type "type") "_make"=aG (.get (.builtin "classmethod.__get__") (.ref pm) .none (.ref mE))
 makeR:∃ez,recIn K pm "classmethod"=aG (.ref fm::ez)
 iter:findIn K (.ref mE) "__iter__"=aG (aG (.builtin "tuple.__iter__"))
 lt:findIn K (.ref mE) "__lt__"=aG (aG (.builtin "tuple.__lt__"))
section
variable{A:jY}{E:pZ}{s:cS}{K:xO}{pn fn pm fm:cR}
def Fq{M:I8}{h:dF}(X:K.In h)(c:rQ K pn fn pm fm):mK M h (aEi (.ref mE)) none:=by refine nn λd=>?_;obtain ⟨oc,od,a,g,b,i,j,e,l,f⟩:=c.obj;refine d ?_;intro A Q E s k q;refine aK (((looks_clsIn X (by unfold clsIn;exact b▸rfl:clsIn K mE=aG a)).andThen .now:mK M h (mroOf (.ref mE)) a.mro) A _ E s k ?_);refine e▸?_;rw [oU];refine aK (aK (aK (aK (zC (k _ _ (X _ _ b)) (aW ?_)))));dsimp only;refine (Array.getElem?_toList)▸?_;refine f▸?_;exact aW (aW (aW q))
def Ul:aEh [.type "tuple"]=pure (.type "tuple"):=by kernel_rfl
def NT{M:I8}{h:dF}(X:K.In h)(c:rQ K pn fn pm fm):mK M h (Bind.staticBase (.ref mE)) (.type "tuple"):=by
 refine nn λd=>?_;obtain ⟨oc,od,a,i,e,j,l,f,g,m⟩:=c.obj;refine d ?_;have b:clsIn K mE=aG a:=by unfold clsIn;exact e▸rfl
 intro A Q E s k q;refine aK (((looks_clsIn X b).andThen .now:mK M h (mroOf (.ref mE)) a.mro) A _ E s k ?_);refine f▸?_;rw [oU];refine aK (aK (aK ((Fq X c) A _ E s k ?_)));dsimp only;refine aK ((looks_clsIn X b) A _ E s k ?_);refine g▸?_;refine Ul▸?_;refine aW ?_;dsimp only;rw [oU];refine PySem.F.called_tuple.made▸?_;exact aK (aK (aW (aW (aW (aW q)))))
def wC{M:I8}{h:dF}(X:K.In h)(c:rQ K pn fn pm fm){b:bL}(a:[mJ mE,.type "tuple",.type "object"].contains b=aU):mK M h (yT (.ref mE) b) true:=by refine nn λd=>?_;obtain ⟨oc,od,e,i,f,j,k,g,l,m⟩:=c.obj;refine d (looks_mroIn X ?_);unfold mroIn;refine ((by unfold clsIn;rw [f]:clsIn K mE=aG e))▸?_;rw [LL,g,if_neg (by decide),a]
def Yz:builtinKind "tuple.__new__"=aG .builtinFn:=by decide+kernel
def Su:splitId "tuple.__new__"=aG ("tuple","__new__"):=by decide+kernel
def Tb:plainId "tuple.__new__"=true:=by decide+kernel
def CP:Manifest.signature? "tuple.__new__"=aG ⟨.constructor,"tuple","tuple",.cls,[⟨"iterable",.posOnly,bR⟩]⟩:=by kernel_rfl
def JH(a b:bL):Ŀ "tuple.__new__" ⟨.constructor,"tuple","tuple",.cls,[⟨"iterable",.posOnly,bR⟩]⟩ ⟨[a,b],[]⟩=pure ():=by kernel_rfl
def NR{M:I8}{h:dF}(X:K.In h)(c:rQ K pn fn pm fm):mK M h (isType (.ref mE)) true:=by refine nn λa=>?_;obtain ⟨oc,od,d,e,b,_⟩:=c.obj;exact a ((B8 (X _ _ b)).andThen .now)
def MM{R:rR->qR}{t:cR}{items:Array bL}(X:K.In s.heap)(c:rQ K pn fn pm fm)(i:s.heap.IsTuple t items)(h:items.size<=1000)
  (q:∀h' j x,(∀b o,s.heap.get? b=aG o->h'.get? b=aG o)->s.heap.get? x=aH->wG h' x items->R (.ok (.ret (.ref x))) {s with heap:=h',toks:=j}):jC iC A (.call (.builtin "tuple.__new__") ⟨[.ref mE,.ref t],[]⟩) R s:=by
 have r:=X;obtain ⟨a,g,d,tk,os⟩:=s;have u:=Fq (M:=iC) X c;have base:=NT (M:=iC) X c;have typ:=NR (M:=iC) X c;have k:mK iC a (aEi (.type "tuple")) (aG "tuple.__new__"):=fY PySem.F.called_tuple.made;have chk:mK iC a (Ŀ "tuple.__new__" ⟨.constructor,"tuple","tuple",.cls,[⟨"iterable",.posOnly,bR⟩]⟩ ⟨[.ref mE,.ref t],[]⟩) ():=fY (JH _ _);have sub:=wC (M:=iC) X c (b:=.type "tuple") (by decide);refine codeAny_call_builtin_code (E8 _ (by decide+kernel)) ?_;rw [checkBuiltinCall,Yz,Su];refine CP▸?_;repeat (first|(with_reducible refine U4 ?_)|(with_reducible refine U6 ?_)|(with_reducible refine U3 ?_)|(with_reducible refine Sh ?_)|(with_reducible refine Sj ?_)|(with_reducible refine U5 ?_)|lk)
 refine xM PySem.F.entry_tuple_new ?_;rw [Xr Tb _];unfold Oj.«tuple.__new__»;have hi:=looks_findIn (M:=iC) X c.init;refine nn λl=>?_;obtain ⟨o,m,n,nn,hd⟩:=i;refine l ?_;repeat (first|(with_reducible refine wpAny_collect_seq t (T:="tuple") (.inr rfl) m n hd ?_ ?_)|(with_reducible refine U4 ?_)|(with_reducible refine U6 ?_)|(with_reducible refine U3 ?_)|(with_reducible refine Sh ?_)|(with_reducible refine Sj ?_)|(with_reducible refine U5 ?_)|lk)
 .intro h1 k1;have X1:=(λh1 k1=>X.keeps k1:∀(h1:dF),(∀b o,a.get? b=aG o->h1.get? b=aG o)->K.In h1) h1 k1;obtain ⟨oc,od,v,B,f,C,p,D,F,G⟩:=c.obj;refine aK (aW (aK (ē (aK ?_))));unfold newObj;dsimp only;refine (if_neg (by simp only [nQ];simp;exact aT VH h:¬(items.toList.toArray.size>iF)))▸(aK (ē ?_));dsimp only;refine aK (aK (J5 (cK _ (cK _ (X1 _ _ f))) (aW ?_)));refine p▸(aW (aW (q _ _ _ (λb o e=>cK _ (cK _ (k1 b o e))) ?_ ⟨_,cC _ rfl,rfl,_,rfl⟩)));refine (?_:a.get? _=aH)
  cases z:a.get? (h1.push {cls:=kQ "dict",data:=Data.dict #[]}).objs.size with
  |none=>rfl
  |some H=>have:=dW (k1 _ _ z);rw [eY]at this;exact absurd this (lU.mpr (jW _))
 .simp only [nQ];exact aT VH h
end
end
section
open PySem.Calls
def HJ(ga:M cA):M V:=λσ=>bd (ga σ) λus σ=>aV (λu=>aV λt=>aN (ob (Zx u) λv=>ob (Fc t) λl=>if v=.ref mE/\aC l<=1000 then aG (.mt l,σ)else aH)) us
section
variable{n:Nat}{F:Fx}{K:xO}{pn fn pm fm:cR}
def Kb:findIn K (.type "type") "__getattribute__"=aG (aG (.builtin "type.__getattribute__")):=by kernel_rfl
def Za{E:pZ}{s:cS}{Q:bL×eW->qR}(X:K.In s.heap)(c:rQ K pn fn pm fm)(h:∀tk,Q (.builtin "tuple.__new__",[]) {s with toks:=tk}):
  bW iC A (getMethod (.type "tuple") (aF "__new__") pl) Q E s:=by
 have L0:mK iC s.heap (typeOf (.type "tuple")) (.type "type"):=fY (by first|rfl|kernel_rfl:typeOf (.type "tuple")=pure (.type "type"));have a:findIn K (.type "type") "__getattribute__"=aG (aG (.builtin "type.__getattribute__")):=Kb;refine aK (aK (L0.here ((looks_findIn X a).here ?_)));dsimp only;refine aK (bK ?_ (λ_ _ z=>aW z) λ_ _ z=>z);refine cls_open X (fY (by unfold opaqueClassAbove;dsimp only;rfl:opaqueClassAbove (.type "tuple")=pure none)) L0 a (looks_hook X (by rfl)) (by rfl) c.tnew (aW ((?_:bW _ _ (handedOut (.builtin "tuple.__new__")) _ _ _)));exact aW (h _)
def Qn(r:K.In S.heap)(c:rQ K pn fn pm fm)(x:iP n F o (gK (.fn (.type "tuple"))))(s:nJ F args)(y:xH n F a args C)
  (G:eval (.Call (.Attribute o (aF "__new__") u) args [] a) F.env=(do
   let d<-eval o F.env
   gB u.atName
   let (f,first)<-holding [d] (getMethod d (aF "__new__") pl)
   kY a f first (backTo a (eD args F.env)) [])):iP n F (.Call (.Attribute o (aF "__new__") u) args [] a) (HJ C):=λσ v σ' q=>by
 replace q:=eJ q;obtain ⟨us,σ₁,g,q⟩:=q;revert g;refine oC q ?_;clear q;intro _ _ q;refine oC q ?_;clear q;intro _ _ q;refine mT q ?_;clear q;intro q;refine Vx q ?_;clear q;intro Z q;refine Pf q ?_;clear q;intro l q;obtain ⟨⟨H,I⟩,J⟩:=iB q;cases H;refine Ck J ?_;rintro rfl rfl g;intro A X D h tk vs ok m _;refine Sf (TW.atE (x σ _ _ rfl) ok m bN.nil ?_) G;rintro d h₀ fu D₀ L m₀ N;cases N;refine Za (r.keeps m₀.base) c λi=>?_;refine (?_:bW _ _ _ _ _ (iZ h₀ i));refine sM (mD s) (Rr s (y _ _ _ g) ok m₀ ?_);rintro ir h₁ ag D₁ O j P;obtain ⟨_,_,rfl,Q,_,_,rfl,⟨t,xs,rfl,nt,⟨k,R⟩,B⟩,T⟩:=P;cases Q;cases T;refine gN (MM (r.keeps j.base) c ⟨_,R,rfl,_,rfl⟩ (by simpa [B.length]using I) λh' i z p W Y=>?_);refine ⟨h',i,D₁,_,_,rfl,(L.trans O).trans (mZ.grow p),j.grow p,?_,rfl,rfl⟩;refine ⟨z,xs,rfl,λq=>?_,Y,bN.step (λb o e _=>p b o e) (λ_ _ e=>e) (λ_ e=>.inl e) _ _ B⟩;exact (j.yal q).no W
end
end
section
open PySem.Calls
section
variable{K:xO}{pn fn pm fm:cR}
def Tj{s:cS}{R:rR->qR}(X₀:K.In h₀)(r:∀b o,h₀.get? b=aG o->s.heap.get? b=aG o)(c:rQ K pn fn pm fm)(u:∀x,argsOk "object.__init__" ⟨.ref x::f,[]⟩)
  (y:∀tk,bW iC (A.under (.builtin "type.__call__" ⟨.ref mE::f,[]⟩)) (call (.ref fn) (.ref mE::f)) (λv i=>∃x items,v=.ref x/\(∀b o,h₀.get? b=aG o->i.heap.get? b=aG o)/\wG i.heap x items/\R (.ok (.ret v)) i) (λ_ _=>False) {s with toks:=tk}):
  jC iC A (.call (.ref mE) ⟨f,[]⟩) R s:=by
 obtain ⟨Q,j⟩:=c.newR;obtain ⟨oc,od,k,T,h,W,Y,B,Z,e5⟩:=c.obj;have X:=X₀.keeps r;have C:=X _ _ h;have D:=looks_specialIn (M:=iC) X c.call;have typ:=looks_instIn (M:=iC) X c.typ;have yy:=Fq (M:=iC) X c;have G:clsIn K mE=aG k:=by unfold clsIn;rw [h]
 have hm:mK iC s.heap (mroOf (.ref mE)) k.mro:=(looks_clsIn X G).andThen .now;obtain ⟨hp,g,d,t,os⟩:=s;refine xL (nd_load C ?_);show bW _ _ (callAny.viaDunder (.ref mE) _) _ _ _;unfold callAny.viaDunder;refine aK (D.at ?_);dsimp only;rw [tc_bind];refine aK (aW (aK (aW (aW (a:=Fin.again (.call (.builtin "type.__call__") ⟨.ref mE::f,[]⟩)) (Xs rfl (codeAny_call_builtin_at (E8 _ (by decide+kernel)) entry_typeCall (check_slot tc_kind tc_split typ (tc_args _ _ _) ?_)))))));unfold Oj.«type.__call__»;have l:k.mro.isEmpty=false:=by rw [B];rfl
 repeat (first|(with_reducible refine bK (y _) ?_ (λ_ _ z=>z.elim))|(with_reducible refine Dm l ?_)|(with_reducible refine cls_bind X c.reads c.new (gN (sm_get X j (handed_on rfl ?_))))|lk)
 rintro v ⟨h',g',d',t',H⟩ ⟨x,items,rfl,I,⟨J,m,L,nn,lp⟩,p⟩;have X':K.In h':=X₀.keeps I;have t1:mK iC h' (typeOf (.ref x)) (.ref mE):=by have:=(B8 (M:=iC) (part:=none) m);have e:mK iC h' (typeOf (.ref x)) J.cls:=(B8 m).andThen .now;rwa[L]at e
 have s1:=wC (M:=iC) X' c (b:=.ref mE) (by decide);have N:=wC (M:=iC) X' c (b:=.type "object") (by decide);have i1:=looks_findIn (M:=iC) X' c.init;have b1:mK iC h' (bindSpecial (.builtin "object.__init__") (.ref x)) (.builtin "object.__init__",[.ref x]):=fY (oi_bind _);have O:=Fq (M:=iC) X' c;have P:mK iC h' (isInstance (.ref x) (.type "object")) true:=t1.andThen N;unfold isInstance callSpecial? specialOf;repeat (first|(with_reducible refine gN ?_)|lk)
 refine jF oi_plain entry_oi (@check_slot iC _ _ _ "object.__init__" "object" "__init__" (.ref x) f [] _ oi_kind oi_split P (u x) ?_);unfold Oj.«object.__init__»
 cases f with
 |nil=>(repeat lk);exact p
 |cons r0 f=>(repeat lk);exact p
def IY:mU:=λus σ=>Ć (λa b c=>aN (aG (.mt [.int a,.int b,.int c],σ))) us
def DO(a b c d:bL):argsOk "object.__init__" ⟨[a,b,c,d],[]⟩:=by unfold argsOk;kernel_rfl
def wA.under(h:wA (n+1) A):wA n (A.under (.builtin "type.__call__" ⟨.ref mE::vs,[]⟩)):=by
 have hw:(Ga "type.__call__" ⟨.ref mE::vs,[]⟩).weight<=2:=by first|(show (1:Nat)<=2;decide)|(show (0:Nat)<=2;decide)|decide
 have a:(Ga "type.__call__" ⟨.ref mE::vs,[]⟩).cUnits<=4:=by first|(show (1:Nat)<=4;decide)|(show (4:Nat)<=4;decide)
 exact ⟨h.hd,by have:=h.dep;refine (?_:A.depth+_+2*n<_);exact aT Ξ hw this,by have:=h.uni;refine (?_:A.units+_+10*n+100<_);exact aT π a this⟩
variable{n:Nat}{F:Fx}
def Ye(i:K.In S.heap)(c:rQ K pn fn pm fm)(j:∀a b c:Int,Xn n (.ref fn) [.fn (.ref mE),.int a,.int b,.int c] (λr=>r=.mt [.int a,.int b,.int c])):A0 (n+1) F (.ref mE) IY:=λus σ r σ' e=>by
 refine Eg e λa b f _ e=>?_;refine mT e λe=>?_;refine Ck e ?_;rintro rfl rfl;intro A X D h tk vs ok m r;obtain ⟨_,_,rfl,⟨t1,rfl⟩,_,_,rfl,⟨k,rfl⟩,_,_,rfl,⟨l,rfl⟩,rfl⟩:=r;refine gN (Tj (i.keeps m.base) (λ_ _ e=>e) c (λx=>DO _ _ _ _) λo=>?_);refine bK (j a b f _ (Yf F X D) h o [.ref mE,.int a t1,.int b k,.int f l] ok.under m.base (λb=>m.yal) ?_) (λv C p=>?_) λ_ _ z=>z
 .exact ⟨_,_,rfl,rfl,_,_,rfl,⟨_,rfl⟩,_,_,rfl,⟨_,rfl⟩,_,_,rfl,⟨_,rfl⟩,rfl⟩
 .obtain ⟨h',s,(r),rfl,d,t,g,rfl⟩:=p;have u:=g;refine nn λy=>?_;obtain ⟨x,xs,rfl,nx,B,_⟩:=g;exact y ⟨x,_,rfl,d,B,h',s,D,σ,_,rfl,mZ.grow d,m.grow d,fW.stepP (λ_ _ e _=>e) (λ_ e=>.inl e) _ _ t u,rfl,rfl⟩
end
end
section
open PySem.Calls
def wG.at(x:wG h a items)(k:∀o,h.get? a=aG o->h'.get? a=aG o):wG h' a items:=by obtain ⟨o,b,r⟩:=x;exact ⟨o,k o b,r⟩
section
variable{K:xO}{pn fn pm fm:cR}
def V6{E:pZ}{s:cS}{Q:Option bL->qR}(f:A.handled=aH)(d:s.heap.IsTupleIter a t i)(g:wG s.heap t items)
  (h:∀x h',items[i]?=aG x->h'.IsTupleIter a t (i+1)->qJ a s.heap h'->Q (aG x) {s with heap:=h'}) (j:∀h',items[i]?=aH->AW a s.heap h'->Q aH {s with heap:=h'}):bW (model prog w) A (pyNext (.ref a)) Q E s:=by
 obtain ⟨o,b,k,hd⟩:=id d;obtain ⟨m,l,_,n,e⟩:=g;unfold pyNext;refine aK (I6 (tK d.typeIs Ek (oN Ek d.typeIs PySem.F.entry_tuple_iterator_next ?_ (PySem.F.args_tuple_iterator_next_1 _))));show bW _ _ (field (.ref a) 0>>=_) _ _ s;refine aK (Fg b hd rfl ?_);show bW _ _ (if (mJ t==jG)=aU then _ else _) _ _ s;rw [if_neg (show ¬((mJ t==jG)=aU)from lN)];refine aK (Fg b hd rfl ?_);refine aK (zA l e ?_)
 cases c:items[i]? with
 |some x=>simp only [mY,c];refine aK (wpAny_setField b hd (by simp) (aW ⟨x,rfl,aW (h x _ c ?_ (pA ..))⟩));exact ⟨_,jZ _ b (Obj.isFreed_of_fields (SU hd _)),(Obj.cls_mapFields ..).trans k,by rw [SU hd];simp [rawInt]⟩
 |none=>
  simp only [mY,c];refine aK (zB (aK (wpAny_setField b hd (by simp) ?_)));refine aK ?_;simp only [newExc,newTuple];refine aK (nP ?_ (by size_fits));refine aK (Ē (by first|rfl|(simp only [firstArgMember];rfl)) ?_);refine nP ?_ (by size_fits);unfold raiseNew;refine aK (wpAny_handled ?_);first|rw [show A.in1.handled=none from f]|rw [f]
  refine aK (aW (wpAny_throw ?_));refine aK (aD7 ⟨_,cC _ rfl,rfl⟩ isSubtype_stop ?_);exact aW (j _ c (((pA ..).extBut.push _).push _))
def BK(g:A.handled=aH)(I a:cR)(l:a≠I)(items:Array bL):
  Walks prog w A I [I,a] [I] items.size (λi v=>items[i]?=aG v) (λi h=>h.IsTupleIter I a i/\wG h a items)where
 sub:=λb c=>by simp at c;simp [c]
 frame:=λ_ _ _ st j=>⟨st.1.at λo e=>j I (by simp) o e,st.2.at λo e=>j a (by simp) o e⟩
 item:=λi s Q E hi st f=>V6 g st.1 st.2 (λx h' d m k=>f _ h' s.toks d ⟨m,st.2.at λo e=>(k.2 a l).trans e⟩ λb o c e=>k.extBut b o (λh=>c (by simp [h])) e) (λh' d=>by simp at d;exact iV (aT OA hi d))
 done:=λs Q E st f=>V6 g st.1 st.2 (λx h' d=>by simp at d) λh' _ n=>f h' s.toks λb o c e=>n b o (λh=>c (by simp [h])) e
 self:=λ_ _ _ _ st f=>wpAny_pyIter_tupleiter st.1 f
def mP{M:I8}{h:dF}{x:cR}{items:Array bL}(a:wG h x items):mK M h (typeOf (.ref x)) (.ref mE):=by obtain ⟨o,b,c,_⟩:=a;have e:mK M h (typeOf (.ref x)) o.cls:=(B8 b).andThen .now;rwa[c]at e
def PL{A:jY}{E:pZ}{s:cS}{x:cR}{items:Array bL}{Q:pZ}(X:K.In s.heap)(c:rQ K pn fn pm fm)(f:wG s.heap x items)
  (q:Q (.ref s.heap.objs.size) {s with heap:=s.heap.push {cls:=.type "tuple_iterator",data:=.fields #[.ref x,.int 0 0]}}):bW (model prog w) A (pyIter (.ref x)) Q E s:=by
 have t1:=mP (M:=model prog w) f;have j:=looks_findIn (M:=model prog w) X c.iter;have b1:mK (model prog w) s.heap (bindSpecial (.builtin "tuple.__iter__") (.ref x)) (.builtin "tuple.__iter__",[.ref x]):=fY (PySem.F.slot_tuple_iter.bind _);have h:=wC (M:=model prog w) X c (b:=.type "tuple") (by decide);have i:mK (model prog w) s.heap (isInstance (.ref x) (.type "tuple")) true:=t1.andThen h;obtain ⟨a,g,d,tk,os⟩:=s;unfold pyIter specialOf;have yH:∀{R:rR->qR}{A':jY},R (.ok (.ret (.ref a.objs.size))) ⟨a.push {cls:=.type "tuple_iterator",data:=.fields #[.ref x,.int 0 0]},g,d,tk,os⟩->jC (model prog w) A' (.call (.builtin "tuple.__iter__") ⟨[.ref x],[]⟩) R ⟨a,g,d,tk,os⟩:=λr=>by refine jF PySem.F.slot_tuple_iter.plain PySem.F.entry_tuple_iter (@check_slot (model prog w) _ _ _ "tuple.__iter__" "tuple" "__iter__" (.ref x) [] [] _ (by decide+kernel) (by decide+kernel) i (PySem.F.args_tuple_iter_1 _) ?_);show bW _ _ (do ret (<-newFields "tuple_iterator" [.ref x,rawInt 0])) _ _ _;exact aK (nP (aW r))
 have k:mK (model prog w) (a.push {cls:=.type "tuple_iterator",data:=.fields #[.ref x,.int 0 0]}) (typeOf (.ref a.objs.size)) (.type "tuple_iterator"):=(B8 (cC _ rfl)).andThen .now;have l:mK (model prog w) (a.push {cls:=.type "tuple_iterator",data:=.fields #[.ref x,.int 0 0]}) (Dc (.type "tuple_iterator") (aF "__next__")) (aG (.builtin "tuple_iterator.__next__")):=fY Ek.lookup;repeat lk
 by_cases e:(model prog w).w.params.followText "special-get-raises"=aU
 .rw [if_pos e];repeat (first|(with_reducible refine gN (yH ?_))|lk)
  exact q
 .rw [if_neg e];refine Fe ?_;repeat (first|(with_reducible refine gN (yH ?_))|lk)
  exact q
end
end
section
set_option backward.match.sparseCases false
open PySem.Calls
def QL(gs:List (V->St->Option St))(v:V)(σ:St):Option St:=ob (N2 v) λl=>TB gs l σ
section
variable{n:Nat}{F:Fx}{K:xO}{pn fn pm fm:cR}
def Hn{gs:List (V->St->Option St)}(j:K.In S.heap)(k:rQ K pn fn pm fm)(x:J3 n F es gs):Dg n F (.Tuple es c B) (QL gs):=λσ v σ' e=>by
 refine G4 e λds e=>?_
 .intro A X D h tk u ok m r;refine aK (fM ?_);unfold unpack;refine x.1▸?_;have s:(pF es F.env).length=aC ds:=by simp only [xW e,<-x.2.1];simp
  obtain ⟨a,xs,rfl,C,d,l⟩:=r;refine aK (cJ (pD (items:=xs) (by simp only [s,l.length]) (λKk f=>?_) (λKk f=>?_) λh' t g=>?_))
  .exact aK (aK ((mP d).here ((looks_findIn (j.keeps m.base) k.iter).here (aW f))))
  .have y:a≠h.objs.size:=by obtain ⟨o,z,_⟩:=d;exact fI (dW z)
   refine PL (j.keeps m.base) k d (f _ _ [h.objs.size,a] (λi h'=>h'.IsTupleIter h.objs.size a i/\wG h' a (bC xs)) (by simpa using (BK ok.hd h.objs.size a y (bC xs))) ⟨⟨_,cC _ rfl,rfl,rfl⟩,d.at (cY _ _ a)⟩ (eE _) (cY _ _))
  .have rl:=bN.step (λb o e _=>g b o e) (λ_ _ e=>e) (λ_ e=>.inl e) _ _ l;exact bK (x.2.2 _ _ _ e A X D h' t xs ok (m.grow g) rl) (λ_ _ p=>p.on (mZ.grow g)) λ_ _ q=>q
def WM:mU:=λus σ=>aV (λu=>aN (ob (N2 u) λl=>if aC l<=1000 then aG (.int (aC l),σ)else aH)) us
end
end
section
open PySem.Calls
inductive Mt3(h:dF)(v:bL)(k:K3):Prop
 |mk (x:cR) (t1 t2 t3:Nat) (e:v=.ref x) (p:wG h x (bC [.int k.1 t1,.int k.2.1 t2,.int k.2.2 t3]))
section
variable{K:xO}{pn fn pm fm:cR}
def Ŭ{s:cS}{R:rR->qR}(X:K.In s.heap)(C:rQ K pn fn pm fm)(o:wG s.heap x (bC [.int a t1,.int b P,.int c T]))(r:wG s.heap y (bC [.int j W,.int e Y,.int f Z]))
  (D:(a,b,c)≠(j,e,f)) (q:R (.ok (.ret (.bool (Bx (a,b,c) (j,e,f))))) s):jC iC A (.call (.builtin "tuple.__lt__") ⟨[.ref x,.ref y],[]⟩) R s:=by
 have F:=mP (M:=iC) o;have v:=wC (M:=iC) X C (b:=.type "tuple") (by decide);have iy:mK iC s.heap (isInstance (.ref y) (.type "tuple")) true:=(mP r).andThen v;refine nn λG=>?_;obtain ⟨H,nr,I,nx,B⟩:=o;obtain ⟨J,L,l,ny,k⟩:=r;obtain ⟨cx,dx,qz,y3⟩:=H;obtain ⟨cy,dy,N,O⟩:=J;refine G ?_;dsimp only at B k;clear X I l;subst B k;obtain ⟨hp,g,d,tk,os⟩:=s;refine jF PySem.F.slot_tuple_lt.plain PySem.F.entry_tuple_lt (@check_slot iC _ _ _ "tuple.__lt__" "tuple" "__lt__" (.ref x) [.ref y] [] _ (by decide+kernel) (by decide+kernel) (F.andThen v) (PySem.F.args_tuple_lt_2 _ _) ?_);unfold Oj.«tuple.__lt__»;have i:∀{p q:Int}{t u:Tok}{A:jY}{Q:pZ}{E:pZ}{s:cS},Q (.bool (decide (p<q))) s->bW iC A (richCompare .Lt (.int p t) (.int q u)) Q E s:=λh=>SR h;repeat (first|(with_reducible refine jE ?_)|(with_reducible refine i ?_)|lk)
 by_cases m:a=j
 .subst m;refine Dm (by simp) ?_;repeat (first|(with_reducible refine jE ?_)|(with_reducible refine i ?_)|lk)
  by_cases n:b=e
  .subst n;refine Dm (by simp) ?_;repeat (first|(with_reducible refine jE ?_)|(with_reducible refine i ?_)|lk)
   refine Si (by simpa using (λz=>D (by rw [z]))) ?_;have:Bx (a,b,c) (a,b,f)=decide (c<f):=by simp [Bx]
   replace q:=this▸q;repeat (first|(with_reducible refine jE ?_)|(with_reducible refine i ?_)|lk)
   exact q
  .refine Si (by simpa using n) ?_;have:Bx (a,b,c) (a,e,f)=decide (b<e):=by simp [Bx,n]
   rw [this]at q;repeat (first|(with_reducible refine jE ?_)|(with_reducible refine i ?_)|lk)
   exact q
 .refine Si (by simpa using m) ?_;have:Bx (a,b,c) (j,e,f)=decide (a<j):=by simp [Bx,m]
  rw [this]at q;repeat (first|(with_reducible refine jE ?_)|(with_reducible refine i ?_)|lk)
  exact q
end
end
section
open PySem.Calls
section
variable{K:xO}{pn fn pm fm:cR}
def ZG{E:pZ}{s:cS}{C:Bool->qR}(X:K.In s.heap)(c:rQ K pn fn pm fm)(h:A.units<cLine)(b:wG s.heap x (bC [.int k.1 t1,.int k.2.1 j,.int k.2.2 l]))(e:wG s.heap y (bC [.int a.1 m,.int a.2.1 n,.int a.2.2 o]))
  (i:k≠a) (q:C (Bx k a) s):bW iC A (keyLt' oneType' (.ref x) (.ref y)) C E s:=by
 have p:=mP (M:=iC) b;have l1:=looks_findIn (M:=iC) X c.lt;have b1:mK iC s.heap (bindSpecial (.builtin "tuple.__lt__") (.ref x)) (.builtin "tuple.__lt__",[.ref x]):=fY (PySem.F.slot_tuple_lt.bind _);have yH:∀{R:rR->qR}{A':jY},R (.ok (.ret (.bool (Bx k a)))) s->jC iC A' (.call (.builtin "tuple.__lt__") ⟨[.ref x,.ref y],[]⟩) R s:=λr=>Ŭ X c b e i r;rw [keyLt'_oneType,oneLt'_eq];dsimp only [if_true];refine aK (wpAny_cRoomFor h ?_);clear X b e;obtain ⟨t,g,d,tk,os⟩:=s;repeat lk
 by_cases f:iC.w.params.followText "special-get-raises"=aU
 .rw [if_pos f];repeat (first|(with_reducible refine gN (yH ?_))|lk)
  exact q
 .rw [if_neg f];refine Fe ?_;repeat (first|(with_reducible refine gN (yH ?_))|lk)
  exact q
end
end
section
open PySem.Calls
def kMt:V->Option K3:=λv=>ob (N2 v) (Ć λa b c=>aN (aG (a,b,c)))
def ZL{Y:gI}(e:kMt v=aG k)(r:fW D Y h v u):Mt3 h u k/\∃x,u=.ref x/\¬Y x:=by revert r;refine G4 e ?_;clear e;intro l e;refine Eg e ?_;clear e;intro a b c t e;refine mT e ?_;clear e;intro e r;refine pH e ?_;rintro rfl;refine nn λd=>?_;obtain ⟨x,xs,rfl,nx,f,_,_,rfl,⟨t1,rfl⟩,_,_,rfl,⟨g,rfl⟩,_,m,rfl,⟨i,rfl⟩,j⟩:=r;refine d ?_;cases j;exact ⟨⟨x,t1,g,i,rfl,f⟩,x,rfl,nx⟩
def G7(c:∀b o,b≠a->h.get? b=aG o->H.get? b=aG o)(x:Mt3 h v k)(d:v≠.ref a):Mt3 H v k:=by obtain ⟨x,t1,e,f,rfl,g⟩:=x;exact ⟨x,t1,e,f,rfl,g.at λo=>c x o (λq=>d (by exact q▸rfl))⟩
section
variable{K:xO}{pn fn pm fm:cR}
def JD{s:cS}(X₀:K.In h₀)(r:∀b o,h₀.get? b=aG o->s.heap.get? b=aG o)(u:h₀.get? a=aH)(B:rQ K pn fn pm fm)(D:A.units<cLine)(h2:2<=aC vs)(f:F2 (Mt3 s.heap) vs (h.map (·.1)))(k:∀v∈vs,v≠.ref a)(G:(h.map (·.1)).Nodup):Xo A s a vs oneType' (EH h)where
 kind:=λH tk Q c q=>by refine kas_kind (T:=.ref mE) h2 (λv I=>?_) (by decide) (by decide) (q tk);obtain ⟨i,hi,J⟩:=jO I;obtain ⟨x,t1,L,N,ex,g⟩:=Eb (d:=jG) (e:=(0,0,0)) (Uc (λx g y t=>G7 c t (k x g)) f) hi;simp only [aY,bO hi,J]at ex;subst ex;exact mP g
 cmp:=λH tk i j C c hi l O q=>by
  have m:∀i,i<aC vs->vs.getD i jG∈vs:=λi hi=>by simp [aY,hi]
  obtain ⟨x,t1,L,N,ex,g⟩:=G7 c (Eb f hi) (k _ (m i hi));obtain ⟨y,W,X,Y,P,R⟩:=G7 c (Eb f l) (k _ (m j l));refine ex▸?_;refine P▸?_;refine ZG (X₀.keeps λb o e=>c b o (λz=>by simp only [z,u]at e;exact gG e) (r b o e):K.In H) B D g R (λz=>O ?_) (q tk);have p:=Nk f;have l1:i<(h.map (·.1)).length:=aT EU hi p;have l2:j<(h.map (·.1)).length:=aT EU l p;refine (pG l1 G).mp ?_;simp only [aY,bO l1,bO l2]at z;simp only [bO l1,bO l2];simpa using z
def IV:mU:=λus σ=>aV (λu=>aN (ob (Jz u) λn=>aL σ n λl=>ob (Ep kMt l) λl'=>aG (.none,{σ with cells:=put n (.list l') σ.cells}))) us
variable{n:Nat}{F:Fx}
def Yg(O:K.In S.heap)(P:rQ K pn fn pm fm)(fk:hO F):SO n F "list.sort" IV:=λus σ v σ' e=>by
 refine oC e λ_ _ e=>?_;refine mT e λe=>?_;refine G3 e λj e=>?_;refine nn λs=>?_;obtain ⟨l,Q,e⟩:=Pe e;obtain ⟨l',d,e⟩:=dS e;replace d:=dS d;obtain ⟨B,C,d⟩:=d;replace d:=iB d;obtain ⟨⟨t,R⟩,d⟩:=d;refine s ?_;refine pH d ?_;rintro rfl;intro A X D h tk ws ok m r;obtain ⟨u,_,rfl,T,W⟩:=r;cases W;obtain ⟨a,xs,k,rfl,y,G,H⟩:=K7 m Q T;obtain ⟨I,Y⟩:=FS ZL C H;have z:aC xs=aC B:=by simp only [Nk I];simp
 have J:=(Qd C).1.symm;have Z:∀v∈xs,v≠.ref a:=λv hv q=>by obtain ⟨x,ex,nx⟩:=Y v hv;replace ex:=q▸ex;cases ex;exact nx (.inr (.inr ⟨j,y⟩))
 refine oN slot_list_sort ⟨_,G,rfl⟩ entry_list_sort (Cu (κ:=oneType') G (aT UP R z) (by simp only [z];exact Eu t) (λh2=>JD O m.base (Fx.nb (m.sep j a y).b) P (by have:=ok.uni;simp only [Gf];exact aT 0x6315090702848e70e880747003 this:A.in1.units<cLine) h2 I Z t) λp h' aw g L hk f=>⟨_,rfl,?_⟩) (args_list_sort _);rw [z]at g L;have N:=H.pick λi hi=>by have:=g.perm.mem_iff.mp hi;refine J▸?_;simpa using this
 rw [J,(O2 t g L)]at N;refine nn λs=>?_;obtain ⟨mm,f⟩:=f;obtain ⟨m',dh⟩:=m.turn (c:=.list ((Ð B).map (·.2))) fk y (λb o hb e=>hk b o hb e) ⟨_,f⟩ (λY' hr ip=>⟨_,⟨mm,f⟩,ip _ _ N⟩);exact s ⟨h',aw,D,_,.none,rfl,dh,m',Gw,.of e⟩
end
end
section
set_option backward.match.sparseCases false
open PySem.Calls
section
variable{n:Nat}{F:Fx}{K:xO}{pn fn pm fm:cR}
def Kx{d:mU}(i:K.In S.heap)(j:keepIn K v=aU)(x:iP n F f (gK (.fn v)))(o:A0 n F v d)(b:nJ F args)(y:xH n F a args g)
  (k:eval (.Call f args [] a) F.env=(do kY a (<-eval f F.env) [] (backTo a (eD args F.env)) [])):iP n F (.Call f args [] a) (eV d g):=λσ r σ' e=>by
 obtain ⟨us,σ₁,l,e⟩:=eJ e;intro A X D h tk vs ok m _;refine (?_:bW _ _ (eval (.Call f args [] a) F.env) _ _ _);refine k▸(aK (TW.atE (x σ _ _ rfl) ok m bN.nil ?_));clear x;rintro H h₀ I D₀ s m₀ t;subst t;refine callWith_of (by rw [mD b];rfl) (λh X=>keeps_K j h X) (rL b (y _ _ _ l) ok m₀ ?_);rintro u h₁ B D₁ _ _ C c G ⟨rfl,rfl⟩;refine ⟨i.keeps c.base,?_⟩;exact bK (o us _ _ _ e A X D₁ h₁ B u ok c G) (λ_ _ p=>p.on (s.trans C)) λ_ _ z=>z
def Ad(d:cA->Option E3):mU:=λus σ=>if dH us=aU then ob (d us) λm=>aG (.inst σ.next,{σ with cells:=(σ.next,.mat m)::σ.cells,next:=σ.next+1})else aH
theorem DH{d:cA->Option E3}(fk:hO F)(k:K.In S.heap)(P:makesIn K xX=aU)(hi:findIn K (.ref xX) "__init__"=aG (aG (.ref G)))(Q:typeIn K (.ref G)=aG (.type "function"))
  (hd:∀us m,dH us=aU->d us=aG m->∀A (Y:gI) h tk x c vs,wA n A->(∀b o,S.heap.get? b=aG o->h.get? b=aG o)->(∀a,Y a->tI h a)->¬Y c->S.heap.get? c=aH->¬Y x->h.get? x=aG (instObj xX c)->iQ [] (gR [c] Y) h c (.attrs [])->bN [] (gR [c] Y) h us vs->
   jC iC A (.call (.ref G) ⟨.ref x::vs,[]⟩) (λr H=>match r with
    |.ok (.ret v)=>v=.none/\∃h' l,H=iZ h' l/\(∀b o,b≠c->h.get? b=aG o->h'.get? b=aG o)/\(tI h' c)/\iQ [] (gR [c] Y) h' c (.mat m)
    |_=>False) (iZ h tk)):A0 (n+1) F (.ref xX) (Ad d):=λus σ r σ' e=>by
 unfold Ad at e;split at e
 .rename_i f;replace e:=dS e;obtain ⟨i,R,e⟩:=e;refine Ck e ?_;rintro rfl rfl;intro A X D h tk vs ok m r;have I:∀b,Yf F X D b->tI h b:=λb=>m.yal;have k1:∀b o,h.get? b=aG o->((h.push emptyDict).push (instObj xX h.objs.size)).get? b=aG o:=λb o e=>cK _ (cK _ e);have J:((h.push emptyDict).push (instObj xX h.objs.size)).get? (h.objs.size+1)=aG (instObj xX h.objs.size):=by have:=cC (o:=instObj xX h.objs.size) (h.push emptyDict) rfl;rwa[eY]at this
  have fr:∀b,h.objs.size<=b->h.get? b=aH:=λb s=>by
   cases q:h.get? b with
   |none=>rfl
   |some o=>exact absurd (dW q) (lU.mpr s)
  have g:∀b,h.objs.size<=b->¬Yf F X D b:=λb s z=>by obtain ⟨o,j⟩:=I b z;rw [fr b s]at j;exact gG j
  have T:S.heap.get? h.objs.size=aH:=by
   cases q:S.heap.get? h.objs.size with
   |none=>rfl
   |some o=>have:=m.base _ _ q;rw [fr _ (bG _)]at this;exact gG this
  refine gN (make_core (makes_of (k.keeps m.base) P) (looks_findIn (k.keeps m.base) hi) (λself=>bind_fn (k.keeps m.base) self Q) (.inl rfl) ?_);have W:wA n (A.under (.builtin "type.__call__" ⟨.ref xX::vs,[]⟩)):=by
   have hw:(Ga "type.__call__" ⟨.ref xX::vs,[]⟩).weight<=2:=by first|(show (1:Nat)<=2;decide)|(show (0:Nat)<=2;decide)|decide
   have Z:(Ga "type.__call__" ⟨.ref xX::vs,[]⟩).cUnits<=4:=by first|(show (1:Nat)<=4;decide)|(show (4:Nat)<=4;decide)
   exact ⟨ok.hd,by have:=ok.dep;refine (?_:A.depth+_+2*n<_);exact aT Ξ hw this,by have:=ok.uni;refine (?_:A.units+_+10*n+100<_);exact aT π Z this⟩
  have gn:((h.push emptyDict).push (instObj xX h.objs.size)).Ns1 h.objs.size (λ_=>aH):=by refine Heap.Ns1.of_empty ⟨_, #[],0,(cK _ (cC _ rfl)),rfl,λe he=>by simp at he,λname=>rfl⟩
  have qw:∀b,gR [h.objs.size] (Yf F X D) b->Yf F X D b\/h.get? b=aH:=λb z=>by
   rcases z with z|z
   .rw [aM.mp z];exact .inr (fr _ (bG _))
   .exact .inl z
  refine nR (hd us i f R _ (Yf F X D) ((h.push emptyDict).push (instObj xX h.objs.size)) tk (h.objs.size+1) h.objs.size vs W (λb o q=>k1 b o (m.base b o q)) (λb z=>let ⟨o,j⟩:=I b z;⟨o,k1 b o j⟩) (g _ (bG _)) T (g _ (jW _)) J
   ⟨_,gn,λy hy=>absurd rfl hy,λp f=>by cases f⟩ (bN.stepP (λb o e _=>k1 b o e) qw _ _ f r)) λr H z=>?_
  rcases r with e|(v|_|_|_)<;>first|exact z.elim|skip
  refine nn λt=>?_;obtain ⟨rfl,h',l,rfl,L,N,cr⟩:=z;refine t ?_;have u:=cr;refine nn λt=>?_;obtain ⟨as,fe,mm,u5,B,_⟩:=cr;obtain ⟨ah,ar⟩:=m.cell (c:=.attrs []) (λb o e=>L b o (λq=>by rw [q,fr _ (bG _)]at e;exact gG e) (k1 b o e)) (fr _ (bG _)) N (λD' Y' hr ip=>⟨mm,u5,B,λp f=>by cases f⟩);refine t ?_;have ha:lk ((σ.next,h.objs.size)::D) σ.next=aG h.objs.size:=by simp [fL,eP]
  obtain ⟨O,bn⟩:=ah.turn2 fk ha (λb o _ e=>e) N (iQ.P (c:=.mat i) trivial (λ_ _ e _=>e) (λ_ e=>e) (λb z=>by
   rcases z with z|z|⟨C,z⟩
   .exact .inl (.inr (.inl z))
   .exact .inl (.inr (.inr (.inl z)))
   .simp only [fL,eP]at z;split at z
    .refine pH z ?_;rintro rfl;exact .inl (.inl (aM.mpr rfl))
    .exact .inl (.inr (.inr (.inr ⟨C,z⟩)))) u)
  have f:put σ.next (fQ.mat i) ((σ.next,fQ.attrs [])::σ.cells)=(σ.next,fQ.mat i)::σ.cells:=if_pos rfl;rw [f]at O;refine ⟨rfl,h',l,_,_,_,rfl,ar.trans bn,O,?_,rfl,rfl⟩;refine ⟨h.objs.size,h.objs.size+1,rfl,λq=>?_,by trivial,L _ _ (J7 _) J⟩;rcases q with z|z|⟨C,z⟩
  .exact g _ (jW _) (.inl z)
  .exact g _ (jW _) (.inr (.inl z))
  .simp only [fL,eP]at z;split at z
   .exact absurd (eR z) (fI (gS _))
   .exact g _ (jW _) (.inr (.inr ⟨C,z⟩))
 .exact gG e
end
end
section
open PySem.Calls
def V7:mroOf (.type "map")=pure [.type "map",.type "object"]:=by rw [mroOf_type];kernel_rfl
def Hb:Dc (.type "map") "__new__"=pure (aG (.builtin "map.__new__")):=by kernel_rfl
def Jd:Ĕ "map" "__init__" "object.__init__":=
 .of (owner:="object") (n:="__init__") (by kernel_rfl) (by decide+kernel) (by decide+kernel) (by decide+kernel) (by first|exact .inl (by decide+kernel)|exact .inr (by decide+kernel)) (by kernel_rfl)
def Cj:yT (.type "map") (.type "map")=pure true:=by rw [zD];kernel_rfl
def Uh:TypeCalled "map" "map.__new__" "object.__init__":=
 ⟨by decide+kernel,by decide+kernel,⟨_,_,V7⟩,madeBy_type V7 Hb (by decide+kernel),by decide+kernel,Cj,Jd⟩
def Lw(a b:bL):checkTypeCall "map" ⟨[a,b],[]⟩=pure ():=by kernel_rfl
def Pj(a b:bL):checkBuiltinCall "map.__new__" ⟨[.type "map",a,b],[]⟩=pure ():=by kernel_rfl
def Js:entryFor table "map.__new__"=aG Oj.«map.__new__»:=entryFor_of_tree (by kernel_rfl)
def DP(a b c:bL):argsOk "object.__init__" ⟨[a,b,c],[]⟩:=by unfold argsOk;kernel_rfl
noncomputable abbrev sA(t:cR)(f:bL):qY:={cls:=.type "map",data:=.fields #[.ref t,f]}
noncomputable abbrev Ko(l:cR):qY:={cls:=.type "list_iterator",data:=.fields #[.ref l,.int 0 0]}
def Jh(f:bL)(l:cR)(items:Array bL):
  Meets (Oj.«map.__new__» ⟨[.type "map",f,.ref l],[]⟩) (λ_ R s=>s.heap.IsList l items/\∀h',h'=((s.heap.push (Ko l)).push {cls:=.type "tuple",data:=.seq #[.ref s.heap.objs.size]}).push (sA (s.heap.objs.size+1) f)->R (.ok (.ret (.ref (s.heap.objs.size+2)))) {s with heap:=h'}):=
 .of_wp λprog w A R s h=>by
  obtain ⟨b,g,d,tk,os⟩:=s;obtain ⟨a,h⟩:=h;have c:=Cj;unfold Oj.«map.__new__»;repeat (any_goals (first|assumption|(with_reducible refine Oc a ?_)|wp_step))
  refine ⟨_,rfl,?_⟩;have z:=h _ rfl;rw [eY,eY];first|exact z|simpa [eY]using z
section
variable{A:jY}{E:pZ}{s:cS}
def JS{Q:pZ}(a:s.heap.IsList l items)
  (q:∀h',h'=((s.heap.push (Ko l)).push {cls:=.type "tuple",data:=.seq #[.ref s.heap.objs.size]}).push (sA (s.heap.objs.size+1) f)->Q (.ref (s.heap.objs.size+2)) {s with heap:=h'}):bW (model prog w) A (call (.type "map") [f,.ref l]) Q E s:=by
 refine callType_new Uh (by decide) (Lw _ _) (Pj _ _) (λobj=>DP obj _ _) Js (Jh f l items) ⟨a,λh' e=>⟨?_,q h' e⟩⟩;have:h'.get? (s.heap.objs.size+2)=aG (sA (s.heap.objs.size+1) f):=by refine e▸?_;have z:=cC (o:=sA (s.heap.objs.size+1) f) ((s.heap.push (Ko l)).push {cls:=.type "tuple",data:=.seq #[.ref s.heap.objs.size]}) rfl;rwa[eY,eY]at z
 exact ⟨_,this,rfl⟩
end
def pS:Ĕ "map" "__next__" "map.__next__":=
 .of (owner:="map") (n:="__next__") (by kernel_rfl) (by decide+kernel) (by decide+kernel) (by decide+kernel) (by first|exact .inl (by decide+kernel)|exact .inr (by decide+kernel)) (by kernel_rfl)
def Bd:Ĕ "map" "__iter__" "map.__iter__":=
 .of (owner:="map") (n:="__iter__") (by kernel_rfl) (by decide+kernel) (by decide+kernel) (by decide+kernel) (by first|exact .inl (by decide+kernel)|exact .inr (by decide+kernel)) (by kernel_rfl)
def Ab:entryFor table "map.__next__"=aG Oj.«map.__next__»:=entryFor_of_tree (by kernel_rfl)
def Bn(a:bL):argsOk "map.__next__" ⟨[a],[]⟩:=by unfold argsOk;kernel_rfl
def J2(a:bL):argsOk "map.__iter__" ⟨[a],[]⟩:=by unfold argsOk;kernel_rfl
def Tk:Dc (.type "map") "__len__"=pure none:=by rw [Di,builtinLookup_eq_fast];kernel_rfl
def Pp:Dc (.type "map") "__length_hint__"=pure none:=by rw [Di,builtinLookup_eq_fast];kernel_rfl
#check @entryFor_of_tree
end
section
open PySem.Calls
def Il:entryFor table "map.__iter__"=aG Oj.«dict_keyiterator.__iter__»:=
 entryFor_alias (id':="dict_keyiterator.__iter__") (by kernel_rfl) (by decide+kernel) (by decide+kernel) (by kernel_rfl)
section
variable{A:jY}{E:pZ}{s:cS}
def Ji{M T I l:cR}{f:bL}{n i:Nat}{items:Array bL}{x:bL}{P:SS->qR}(a:s.heap.get? M=aG (sA T f))(e:s.heap.get? T=aG {cls:=.type "tuple",data:=.seq #[.ref I] n})(h:s.heap.IsListIter I l i)(j:s.heap.IsList l items)(k:items[i]?=aG x)(m:M≠I)
  (o:∀h',h'.IsListIter I l (i+1)->qJ I s.heap h'->bW iC A (call f [x]) (λv b=>P (.done (.ret v)) b) E {s with heap:=h'}):bW iC A (Oj.«map.__next__» ⟨[.ref M],[]⟩) P E s:=by
 obtain ⟨r,g,d,tk,os⟩:=s;unfold Oj.«map.__next__»;refine aK (aW ?_);dsimp only;refine aK (Fg a rfl rfl (aK (zA e rfl ?_)));dsimp only;refine aK ?_;rw [LO,oU];refine aK (aK (cJ (wpAny_nextOf_list_item h j k λh' p c=>aW ?_)));dsimp only;rw [Ĺ];exact aW (aK (Fg ((c.2 M m).trans a) rfl rfl (aK (cJ (bK (o h' p c) (λv b z=>aK (wpAny_letGo (aW z))) λ_ _ z=>z)))))
def Mm{M T I l:cR}{f:bL}{n i:Nat}{items:Array bL}{P:SS->qR}(a:A.handled=aH)(b:s.heap.get? M=aG (sA T f))(c:s.heap.get? T=aG {cls:=.type "tuple",data:=.seq #[.ref I] n})(h:s.heap.IsListIter I l i)(j:s.heap.IsList l items)(k:items[i]?=aH)
  (m:∀h' e,AW I s.heap h'->(∃o,h'.get? e=aG o/\o.cls=.type "StopIteration")->E (.ref e) {s with heap:=h'}):bW iC A (Oj.«map.__next__» ⟨[.ref M],[]⟩) P E s:=by
 obtain ⟨p,g,d,tk,os⟩:=s;unfold Oj.«map.__next__»;refine aK (aW ?_);dsimp only;refine aK (Fg b rfl rfl (aK (zA c rfl ?_)));dsimp only;refine aK ?_;rw [LO,oU];exact aK (aK (cJ (wpAny_nextOf_list_end a h j k m)))
def Jg{M T I l:cR}{f:bL}{n i:Nat}{items:Array bL}{x:bL}{Q:Option bL->qR}(c:s.heap.get? M=aG (sA T f))(g:s.heap.get? T=aG {cls:=.type "tuple",data:=.seq #[.ref I] n})(h:s.heap.IsListIter I l i)(j:s.heap.IsList l items)(k:items[i]?=aG x)(m:M≠I)
  (o:∀h',h'.IsListIter I l (i+1)->qJ I s.heap h'->bW iC A.in1 (call f [x]) (λv d=>Q (aG v) d) (λ_ _=>False) {s with heap:=h'}):bW iC A (pyNext (.ref M)) Q E s:=by
 have e:s.TypeIs (.ref M) "map":=⟨_,c,rfl⟩;unfold pyNext;refine aK (I6 (tK e pS (oN pS e Ab (Ji c g h j k m λh' a b=>?_) (Bn _))));exact bK (o h' a b) (λv d z=>⟨v,rfl,aW z⟩) λ_ _ z=>z.elim
def Mh{M T I l:cR}{f:bL}{n i:Nat}{items:Array bL}{Q:Option bL->qR}(g:A.handled=aH)(c:s.heap.get? M=aG (sA T f))(h:s.heap.get? T=aG {cls:=.type "tuple",data:=.seq #[.ref I] n})(j:s.heap.IsListIter I l i)(k:s.heap.IsList l items)(m:items[i]?=aH)
  (p:∀h',AW I s.heap h'->Q aH {s with heap:=h'}):bW iC A (pyNext (.ref M)) Q E s:=by
 have d:s.TypeIs (.ref M) "map":=⟨_,c,rfl⟩;unfold pyNext;refine aK (I6 (tK d pS (oN pS d Ab (Mm g c h j k m λh' e a b=>?_) (Bn _))));obtain ⟨o,r,t⟩:=b;exact aK (aD7 ⟨o,r,t⟩ isSubtype_stop (aW (p h' a)))
end
end
section
open PySem.Calls
def Zu{E:pZ}{s:cS}{Q:pZ}(a:s.heap.get? q=aG (methodObj f self))(b:∀id,f≠.builtin id)
  (h:jC iC A (.call f ⟨self::vs,[]⟩) (wants Q E) s):bW iC A (call (.ref q) vs) Q E s:=by
 refine gN (xL (aK (J5 a ?_)));clear a;cases f<;>first|exact absurd rfl (b _)|exact aW ⟨rfl,h⟩
section
variable{n:Nat}
def QV{A:jY}{Y:gI}{L M T I l q:cR}{f self:bL}{nT:Nat}{xs:eW}{ds es:cA}{u:bL}{R:rR->qR}(ok:wA n A.in1.in1)(hf:∀id,f≠.builtin id)(y:Y L)(y4:Y I)(hLM:L≠M)(y5:L≠I)(hLT:L≠T)(hLq:L≠q)(hLl:L≠l)(sf:M≠I)(hIT:T≠I)(B:q≠I)(hIl:l≠I)
  (hSL:S.heap.get? L=aH) (hSI:S.heap.get? I=aH) (hpd:dH ds=aU) (bv:aC xs<=lim) (C:es.length=aC ds)
  (hfn:∀(i:Nat) d e,ds[i]?=aG d->es[i]?=aG e->Uu n f [.fn self,d] (λr=>r=e)):
  ∀(k i:Nat)(h:dF)(tk:Nat)(m:eW)(c:Nat),aC xs-i=k->i<=aC xs->(∀b o,S.heap.get? b=aG o->h.get? b=aG o)->(∀a,Y a->tI h a)->h.get? M=aG (sA T (.ref q))->h.get? T=aG {cls:=.type "tuple",data:=.seq #[.ref I] nT}->h.get? q=aG (methodObj f self)->h.IsListIter I l i->h.IsList l (bC xs)->bN [] Y h ds xs->IsL h L (bC m) c->bN [] Y h (es.take i) m->
   (∀h' aw J c',(∀b o,b≠L->b≠I->h.get? b=aG o->h'.get? b=aG o)->IsL h' L (bC J) c'->bN [] Y h' es J->R (.ok (.ret u)) (iZ h' aw))->
   jC iC A (.builtin "list.extend.loop" ⟨[.ref L,.ref M,u],[]⟩) R (iZ h tk):=by
 intro k
 induction k with
 |zero=>intro i h tk m c N hi hb hY O P hq i4 Q D hL F hR;have jr:i=aC xs:=aT 0xe0c14a31584490896604cc1002 N hi;subst jr;refine xM Le ((?_:bW _ A.in1 (pyNext (.ref M)>>=_) _ _ _));refine aK (Mh ok.hd O P i4 Q (by simp) λh' he=>aW ?_);have W:=D.length;refine hR h' tk m c (λb o _ t e=>he b o t e) (he L _ y5 hL) ?_;rw [(by rw [tA];exact aT 0x1a314880b08961003 C W:es.take (aC xs)=es)]at F;exact bN.step (λb o e j=>he b o (λz=>j (z▸y4)) e) (λ_ _ e=>e) (λ_ e=>.inl e) _ _ F
 |succ k ih=>
  intro i h tk m c N hi hb hY O P hq i4 Q D hL F hR;have g7:i<aC xs:=aT 0x30d18a8225a0e304cc1003 N;have W:=D.length;have G:i<aC ds:=aT EU g7 W;have wr:i<es.length:=aT 0x2b18a8025846a18961004 C g7 W;obtain ⟨x,ex,rx⟩:=D.get (i:=i) (d:=ds[i]) (by simp [G]);refine xM Le ((?_:bW _ A.in1 (pyNext (.ref M)>>=_) _ _ _));refine aK (Jg O P i4 Q (by simpa using ex) sf λh₁ my u8=>?_);have k1:∀b o,b≠I->h.get? b=aG o->h₁.get? b=aG o:=λb o t e=>(u8.2 b t).trans e;have u9:∀d v,bN [] Y h d v->bN [] Y h₁ d v:=bN.step (λb o e j=>k1 b o (λz=>j (z▸y4)) e) (λ_ _ e=>e) (λ_ e=>.inl e);have qw:∀a,Y a->tI h₁ a:=λa ya=>by
   by_cases z:a=I
   .refine z▸?_;obtain ⟨o,p,_⟩:=my;exact ⟨o,p⟩
   .obtain ⟨o,p⟩:=hY a ya;exact ⟨o,k1 a o z p⟩
  have H:∀b o,S.heap.get? b=aG o->h₁.get? b=aG o:=λb o e=>k1 b o (λz=>by rw [z,hSI]at e;exact gG e) (hb b o e);refine (?_:bW _ _ (call (.ref q) [x]) _ _ (iZ h₁ tk));refine Zu (s:=iZ h₁ tk) (k1 q _ B hq) hf (nR (hfn i ds[i] es[i] (by simp [G]) (by simp [wr]) A.in1.in1 Y h₁ tk [self,x] ok H qw (.cons (by rfl) (.cons ((fW.step (λb o e j=>k1 b o (λz=>j (z▸y4)) e) (λ_ _ e=>e) (λ_ e=>.inl e)) _ _ rx) .nil))) λr s' z=>?_);rcases r with e|(_|_|_|v)<;>first|exact z.elim|skip
  refine z.el λX br r' k2 pr rr z7=>?_;obtain rfl:=z7;have pd:IsL X L (bC m) c:=k2 _ _ (k1 L _ y5 hL);have va:=F.length;refine aK (Dh pd rfl (aW ⟨plainId_quiet Lc _,?_⟩) (by simp [va];have:=nL;exact aT Ÿ bv hi this) (by simp [va];have:=nL;exact aT Ÿ bv hi this));have hn:=pd.update (·.push v);have g:∀b o,b≠L->X.get? b=aG o->(X.update L (iX (·.push v))).get? b=aG o:=λb o Z e=>(gD _ _ (vG Z)).trans e;have jv:∀d v',bN [] Y h₁ d v'->bN [] Y (X.update L (iX (·.push v))) d v':=bN.step (λb o e j=>g b o (λz=>j (z▸y)) (k2 b o e)) (λ_ _ e=>e) (λ_ e=>.inl e);refine ih (i+1) _ br (m++[v]) _ (by exact aT 0x12442211012654595462b2016839033320e20ccc1003 N) g7 (λb o e=>g b o (λz=>by rw [z,hSL]at e;exact gG e) (k2 b o (H b o e))) (λa ya=>?_) (g M _ (vG hLM) (k2 _ _ (k1 M _ sf O))) (g T _ (vG hLT) (k2 _ _ (k1 T _ hIT P))) (g q _ (vG hLq) (k2 _ _ (k1 q _ B hq))) (my.at λo e=>g I o (vG y5) (k2 I o e)) ?_ (jv _ _ (u9 _ _ D)) (by have z:=hn;simp at z;exact z) ?_ λh' aw J c' k4 h4 r4=>?_
  .by_cases z:a=L
   .exact z.symm▸(⟨_,hn⟩:tI _ L)
   .obtain ⟨o,p⟩:=qw a ya;exact ⟨o,g a o z (k2 a o p)⟩
  .obtain ⟨o,p,rr⟩:=Q;exact ⟨o,g l o (vG hLl) (k2 l o (k1 l o hIl p)),rr⟩
  .rw [List.take_succ_eq_append_getElem wr];exact (jv _ _ (u9 _ _ F)).append (.cons ((fW.step (λb o e j=>g b o (λz=>j (z▸y)) e) (λ_ _ e=>e) (λ_ e=>.inl e)) _ _ rr) .nil)
  .exact hR h' aw J c' (λb o Z t e=>k4 b o Z t (g b o Z (k2 b o (k1 b o t e)))) h4 r4
end
end
section
open PySem.Calls
section
def FX{A:jY}{E:pZ}{s:cS}{M T:cR}{f:bL}{Q:pZ}(b:s.heap.get? M=aG (sA T f))(h:Q (.ref M) s):bW iC A (pyIter (.ref M)) Q E s:=by have a:s.TypeIs (.ref M) "map":=⟨_,b,rfl⟩;refine wpAny_pyIter_slot a Bd (oN Bd a Il ?_ (J2 _));exact aW ⟨_,rfl,"map",_,a,pS.lookup,h⟩
def Qa{A:jY}{E:pZ}{s:cS}{M T:cR}{f:bL}{Q:pZ}(c:s.heap.get? M=aG (sA T f))
  (l:∀h' m,(∀b o,s.heap.get? b=aG o->h'.get? b=aG o)->IsL h' s.heap.objs.size #[] m->jC iC A.in1 (.builtin "list.extend.loop" ⟨[.ref s.heap.objs.size,.ref M,.none],[]⟩) (wants (λr n=>r=.none/\Q (.ref s.heap.objs.size) n) E) {s with heap:=h'}):
  bW iC A (call (.type "list") [.ref M]) Q E s:=by
 have p:=dW c;have d:=iT p;refine callType_codes (Q₁:=λobj h=>obj=.ref s.heap.objs.size/\h={s with heap:=s.heap.push {cls:=.type "list",data:=.seq #[]}}) PySem.F.called_list (PySem.F.typeCall_list_1 _) PySem.F.entry_list_init (code_list_new _ ⟨rfl,rfl⟩) λobj h h₁=>?_;obtain ⟨rfl,rfl⟩:=h₁;have a:(s.heap.push {cls:=.type "list",data:=.seq #[]}).get? s.heap.objs.size=aG {cls:=.type "list",data:=.seq #[]}:=cC _ rfl;refine ⟨⟨_,a,rfl⟩,PySem.F.args_list_init_2 _ _,?_⟩;show bW _ A.in1.in1 (do let old<-Ja (.ref s.heap.objs.size);aEt (.ref s.heap.objs.size) (λ_=> #[]);letGo old.toList.reverse;Em (.ref s.heap.objs.size) (.ref M) .none) _ _ _;refine aK ?_;unfold Ja;refine aK (zA a rfl (aW (aK (Dh a rfl ?_))));have i:=jZ (iX (λ_=>(#[]:Array bL))) a rfl;have k2:∀b o,s.heap.get? b=aG o->((s.heap.push {cls:=.type "list",data:=.seq #[]}).update s.heap.objs.size (iX (λ_=>(#[]:Array bL)))).get? b=aG o:=λb o e=>
  (gD _ _ (vG (fI (dW e)))).trans (cK _ e)
 refine aK (wpAny_letGo ?_);unfold Em;have g:∀tk,({s with heap:=(s.heap.push {cls:=.type "list",data:=.seq #[]}).update s.heap.objs.size (iX (λ_=>(#[]:Array bL))),toks:=tk}:cS).TypeIs (.ref M) "map":=λtk=>⟨_,k2 M _ c,rfl⟩;refine aK (wpAny_typeOf (g s.toks) ?_);have h1:Ge (.ref s.heap.objs.size) (.ref M)=false:=by simp [Ge,d]
 have h2:(kQ "map"==kQ "list")=false:=by decide
 have h3:(kQ "map"==kQ "tuple")=false:=by decide
 simp only [h1,h2,h3,aB1,lO,if_false];refine aK (FX (k2 M _ c) (aK (cJ ?_)));unfold aEu;refine aK (xJ (g s.toks) Tk (aK (xJ (g s.toks) Pp (aW (aK (zB (aK (aK (Dh i rfl ?_)))))))));have j:=jZ (iX (·.push jG)) i rfl;refine Dh j rfl ?_;have t:=jZ (iX (·.pop)) j rfl;refine aW ⟨plainId_quiet Lc _,l _ _ (λb o e=>?_) t⟩;have k:=vG (fI (dW e));exact (gD _ _ k).trans ((gD _ _ k).trans (k2 b o e))
end
end
section
open PySem.Calls
def DZ:V->pM:=λv=>ob (Fc v) (Ć λa b c=>aN (aG (.mt [.int a,.int b,.int c])))
@[elab_as_elim] theorem V8 {P:V->V->Prop} (e:DZ v=aG r) (k:∀a b c,P (.tup [.int a,.int b,.int c]) (.mt [.int a,.int b,.int c])):P v r:=by refine Pf e ?_;clear e;intro l e;refine Eg e ?_;clear e;intro a b c t e;refine mT e ?_;clear e;intro e;refine pH e ?_;rintro rfl;exact k a b c
def HM(g:M V):M V:=λσ=>bd (g σ) λa σ=>ob (J0 σ a) λl=>ob (qS DZ l) λl'=>if aC l<=lim then aG (.lst l',σ)else aH
def EE{g:V->pM}:∀{l l':cA},qS g l=aG l'->aC l'=aC l/\∀(i:Nat) d e,l[i]?=aG d->l'[i]?=aG e->g d=aG e:=by
 intro z1
 induction z1 with
 |nil=>intro l';intro h;refine pH h ?_;rintro rfl;exact ⟨rfl,λi d e q=>by simp at q⟩
 |cons v l z4=>
  intro l';intro h;simp only [Cq,At]at h
  cases c:g v with
  |none=>rw [c]at h;exact gG h
  |some k=>
   cases f:qS g l with
   |none=>rw [c,f]at h;exact gG h
   |some r=>
    replace h:=c▸h;replace h:=f▸h;refine pH h ?_;rintro rfl;obtain ⟨a,b⟩:=z4 f;refine ⟨by simp [a],λi d e q j=>?_⟩
    cases i with
    |zero=>simp at q j;subst q j;exact c
    |succ i=>exact b i d e (by exact q) (by exact j)
def Yi:∀{l l':cA},qS DZ l=aG l'->dH l=aU/\dH l'=true:=by
 intro l
 induction l with
 |nil=>intro l' h;refine pH h ?_;rintro rfl;exact ⟨rfl,rfl⟩
 |cons v l d=>intro l' h;replace h:=Kl h;obtain ⟨f,r,c,e,rfl⟩:=h;obtain ⟨a,b⟩:=d e;revert c;refineλc=>V8 c λ_ _ _=>?_;exact ⟨a,b⟩
section
variable{n:Nat}{F:Fx}{K:xO}{pn fn pm fm:cR}
def PX(hK:K.In S.heap)(mo:rQ K pn fn pm fm)(fk:hO F)
  (x1:iP (n+1) F (.Name "list" p1) (gK (.fn (.type "list")))) (x2:iP (n+1) F (.Name "map" C) (gK (.fn (.type "map")))) (x3:iP (n+1) F (.Name "Match" t) (gK (.fn (.ref mE)))) (y:iP (n+1) F e g)
  (vf:∀a b c:Int,Uu n (.ref fm) [.fn (.ref mE),.tup [.int a,.int b,.int c]] (λr=>r=.mt [.int a,.int b,.int c]))
  (he1:eval (.Call (.Name "list" p1) [.Call (.Name "map" C) [.Attribute (.Name "Match" t) "_make" u,e] [] p5] [] p6) F.env=(do kY p6 (<-eval (.Name "list" p1) F.env) [] (backTo p6 (eD [.Call (.Name "map" C) [.Attribute (.Name "Match" t) "_make" u,e] [] p5] F.env)) []))
  (he2:eval (.Call (.Name "map" C) [.Attribute (.Name "Match" t) "_make" u,e] [] p5) F.env=(do kY p5 (<-eval (.Name "map" C) F.env) [] (backTo p5 (eD [.Attribute (.Name "Match" t) "_make" u,e] F.env)) []))
  (N:eD [.Call (.Name "map" C) [.Attribute (.Name "Match" t) "_make" u,e] [] p5] F.env=(bR,eval (.Call (.Name "map" C) [.Attribute (.Name "Match" t) "_make" u,e] [] p5) F.env)::eD [] F.env)
  (O:eD [.Attribute (.Name "Match" t) "_make" u,e] F.env=(bR,eval (.Attribute (.Name "Match" t) "_make" u) F.env)::eD [e] F.env) (Q:eD [e] F.env=(bR,eval e F.env)::eD [] F.env):
  iP (n+1) F (.Call (.Name "list" p1) [.Call (.Name "map" C) [.Attribute (.Name "Match" t) "_make" u,e] [] p5] [] p6) (HM g):=λσ v σ' p=>by
 replace p:=eJ p;obtain ⟨a,σ₁,e1,p⟩:=p;replace p:=dS p;obtain ⟨l,e2,p⟩:=p;replace p:=dS p;obtain ⟨l',e3,p⟩:=p;split at p
 case isFalse=>(exact gG p)
 rename_i dp;refine Ck p ?_;rintro rfl rfl;intro A X D h tk vs ok m _;refine (?_:bW _ _ (eval (.Call (.Name "list" p1) [.Call (.Name "map" C) [.Attribute (.Name "Match" t) "_make" u,e] [] p5] [] p6) F.env) _ _ _);refine aK (TW.atE (x1 σ _ _ rfl) ok m bN.nil ?_);rintro fv h₀ fu D₀ dk m₀ fy;subst fy;refine callWith_type1 (B7 ?_ N) N rfl;refine aK (TW.atE (x2 _ _ _ rfl) ok m₀ bN.nil ?_);rintro fv h₁ ag D₁ ar ah bh;subst bh;refine callWith_type1 (B7 ?_ O) O (by refine Q▸?_;rfl);refine (?_:bW _ _ (eval (.Name "Match" t) F.env>>=λo=>gB u.atName>>=λ_=>holding [o] (getAttr o "_make" aU)>>=λr=>letTemporaryGo (.Name "Match" t) o r>>=λ_=>pure r) _ _ _);refine aK (TW.atE (x3 _ _ _ rfl) ok ah bN.nil ?_);rintro fv x br D₂ bn c7 f5;subst f5;obtain ⟨ez,y7⟩:=mo.makeR;refine aK (fM (aK (cJ (cls_bind (hK.keeps c7.base) mo.reads mo.make (gN (cm_get (hK.keeps c7.base) y7 (handed_on rfl (aK (aW (aW ?_))))))))));have kq:=cY x (methodObj (.ref fm) (.ref mE));have mq:=c7.grow kq;have hq0:(x.push (methodObj (.ref fm) (.ref mE))).get? x.objs.size=aG (methodObj (.ref fm) (.ref mE)):=cC _ rfl;have nq:¬Yf F X D₂ x.objs.size:=λz=>by exact (c7.yal z).no (eE _)
 refine (?_:bW _ _ _ _ _ (iZ (x.push (methodObj (.ref fm) (.ref mE))) (br+1)));refine B7 (TW.atE (y _ _ _ e1) ok mq bN.nil ?_) Q;rintro lv k H D₃ fh G jo;refine Uw ?_;replace jo:=Be G e2 jo;obtain ⟨la,xs,kk,rfl,y8,rx⟩:=jo;have R:=fh.keep _ _ hq0 (λz=>nq (.inl z)) (λj z=>nq (.inr (.inr ⟨j,z⟩)));refine JS y8.isList λB e4=>?_;refine Uw ((?_:bW _ _ (call (.type "list") [.ref (k.objs.size+2)]) _ _ (iZ B H)));have W:=e4;have sz:B.objs.size=k.objs.size+3:=by simp only [W,eY]
 have k4:∀b o,k.get? b=aG o->B.get? b=aG o:=λb o q=>by rw [W];exact cK _ (cK _ (cK _ q))
 have Z:B.get? (k.objs.size+2)=aG (sA (k.objs.size+1) (.ref x.objs.size)):=by refine W▸?_;have z:=cC (o:=sA (k.objs.size+1) (.ref x.objs.size)) ((k.push (Ko la)).push {cls:=.type "tuple",data:=.seq #[.ref k.objs.size]}) rfl;rwa[eY,eY]at z
 have hT4:B.get? (k.objs.size+1)=aG {cls:=.type "tuple",data:=.seq #[.ref k.objs.size]}:=by refine W▸(cK _ ?_);have z:=cC (o:={cls:=.type "tuple",data:=.seq #[.ref k.objs.size]}) (k.push (Ko la)) rfl;rwa[eY]at z
 have wm:B.get? k.objs.size=aG (Ko la):=by rw [W];exact cK _ (cK _ (cC _ rfl))
 have lq:x.objs.size<k.objs.size:=dW R;have ll:la<k.objs.size:=dW y8;have fr:∀b,k.objs.size<=b->k.get? b=aH:=λb hb=>by
  cases q:k.get? b with
  |none=>rfl
  |some o=>exact absurd (dW q) (lU.mpr hb)
 have frS:∀b,k.objs.size<=b->S.heap.get? b=aH:=λb hb=>by
  cases q:S.heap.get? b with
  |none=>rfl
  |some o=>have z:=G.base _ _ q;rw [fr b hb]at z;exact gG z
 have gw:∀b,Yf F X D₃ b->tI k b:=λb z=>by
  rcases z with z|z|⟨j,z⟩
  .exact (G.zfr b z).2
  .exact G.xal b z
  .exact (G.sep j b z).h
 refine nn λng=>?_;obtain ⟨pl,pl'⟩:=Yi e3;obtain ⟨y9,mk'⟩:=EE e3;refine ng (Qa (s:=iZ B H) Z λfq vh k5 hL5=>?_);refine (?_:jC _ _ _ _ (iZ fq H));have vi:IsL fq (k.objs.size+3) (bC []) vh:=by have z:=hL5;rw [show (iZ B H).heap.objs.size=k.objs.size+3 from sz]at z;exact z
 refine (show (iZ B H).heap.objs.size=k.objs.size+3 from sz)▸?_;have J:∀b o,k.get? b=aG o->fq.get? b=aG o:=λb o q=>k5 b o (k4 b o q);have hYs:∀b,(Yf F X D₃ b\/b=k.objs.size+3\/b=k.objs.size)->Yf F X D₃ b\/k.get? b=aH:=λb z=>by
  rcases z with z|rfl|rfl
  .exact .inl z
  .exact .inr (fr _ (lM _ _))
  .exact .inr (fr _ (bG _))
 refine QV (A:=A.in1) (Y:=λb=>Yf F X D₃ b\/b=k.objs.size+3\/b=k.objs.size) (M:=k.objs.size+2) (T:=k.objs.size+1) (I:=k.objs.size) (l:=la) (q:=x.objs.size) (f:=.ref fm) (self:=.ref mE) (xs:=xs) (ds:=l) (es:=l') (⟨ok.hd,by have:=ok.dep;simp only [LR];exact aT 0xc62a12201d180a1220838746003 this,by have:=ok.uni;simp only [Gf];exact aT 0x318a848e70e88074741d0741c0a1239c3a20838747003 this⟩:wA n A.in1.in1.in1) (λid z=>by cases z) (.inr (.inl rfl)) (.inr (.inr rfl)) (iT (gS _)) (iT (rW (by decide))) (iT (Nat.add_lt_add_left (by decide) _)) (iT (dC lq (lM _ _))) (iT (dC ll (lM _ _))) (iT (rW (by decide))) (iT (gS _)) (fI lq) (fI ll)
  (frS _ (lM _ _)) (frS _ (bG _)) pl (by refine rx.length▸?_;exact dp) y9 (λi d ee hd hee=>?_) (aC xs) 0 fq H [] vh rfl (bI _) (λb o q=>J b o (G.base b o q)) (λb z=>?_) (k5 _ _ Z) (k5 _ _ hT4) (J _ _ R) ⟨_,k5 _ _ wm,rfl,rfl⟩ ?_ (bN.stepP (λb o q _=>J b o q) hYs _ _ pl rx) vi (by exact bN.nil) λh' aw gu c' k6 hL6 r6=>?_
 .have z:=mk' i d ee hd hee;exact V8 (P:=λd ee=>Uu n (.ref fm) [.fn (.ref mE),d] (λr=>r=ee)) z λa b c=>vf a b c
 .rcases z with z|rfl|rfl
  .obtain ⟨o,L⟩:=gw b z;exact ⟨o,J b o L⟩
  .exact ⟨_,vi⟩
  .exact ⟨_,k5 _ _ wm⟩
 .obtain ⟨o,L,rr⟩:=y8.isList;exact ⟨o,J _ _ L,rr⟩
 .have kf:∀b o,k.get? b=aG o->h'.get? b=aG o:=λb o q=>k6 b o (λz=>by rw [z,fr _ (lM _ _)]at q;exact gG q) (λz=>by rw [z,fr _ (bG _)]at q;exact gG q) (J b o q);refine ⟨rfl,h',aw,D₃,_,_,rfl,(((dk.trans ar).trans bn).trans ((mZ.grow kq).trans fh)).trans (mZ.grow kf),G.grow kf,?_,rfl,rfl⟩;refine ⟨k.objs.size+3,gu,rfl,λz=>?_,⟨c',hL6⟩,bN.stepP (λ_ _ e _=>e) (λb z=>.inl (.inl z)) _ _ pl' r6⟩;obtain ⟨o,L⟩:=gw _ z;rw [fr _ (lM _ _)]at L;exact gG L
end
end
section
open PySem.Calls
section
variable{n:Nat}{F:Fx}{K:xO}{pn fn pm fm:cR}
def DK(c:K.In S.heap)(d:rQ K pn fn pm fm)(f:findIn K (.ref mE) "__len__"=aG (aG (.builtin "tuple.__len__"))):A0 n F (.builtin "len") WM:=λus σ r σ' e=>by
 refine oC e ?_;clear e;intro _ _ e;refine mT e ?_;clear e;intro e;refine G4 e ?_;clear e;intro l e;replace e:=iB e;obtain ⟨s,e⟩:=e;refine Ck e ?_;rintro rfl rfl;intro A X D h tk vs ok m r;obtain ⟨_,_,rfl,⟨x,xs,rfl,nx,a,g⟩,i⟩:=r;cases i;have b:=g.length;have XX:=c.keeps m.base;have t1:=mP (M:=iC) a;have l1:=looks_findIn (M:=iC) XX f;have b1:mK iC h (bindSpecial (.builtin "tuple.__len__") (.ref x)) (.builtin "tuple.__len__",[.ref x]):=fY (PySem.F.slot_tuple_len.bind _);refine nn λj=>?_;obtain ⟨t,k,u,o,p⟩:=a;refine j ?_;have yH:∀{R:rR->qR}{A':jY}{tk:Nat},R (.ok (.ret (.int (aC xs:Int) tk))) (iZ h (tk+1))->jC iC A' (.call (.builtin "tuple.__len__") ⟨[.ref x],[]⟩) R (iZ h tk):=λr=>by refine jF PySem.F.slot_tuple_len.plain PySem.F.entry_tuple_len (@check_slot iC _ _ _ "tuple.__len__" "tuple" "__len__" (.ref x) [] [] _ (by decide+kernel) (by decide+kernel) (t1.andThen (wC XX d (by decide))) (PySem.F.args_tuple_len_1 _) ?_);unfold Oj.«tuple.__len__»;refine aK (aW ?_);dsimp only;exact aK (aK (zA k p (aW (aK (wpAny_mkInt (aW r))))))
 refine Op kind_len plain_len entry_len (args_len1 _) ?_;unfold Oj.«len»;refine aK (aW (aK ?_));unfold callSpecial? specialOf;repeat (first|(with_reducible refine gN (yH ?_))|lk)
 rw [if_neg (by rw [b];lia)];refine aK (wpAny_mkInt (aW ⟨_,rfl,h,_,D,σ,_,rfl,.refl,m,?_,rfl,rfl⟩));refine (?_:fW D (Yf F X D) h (.int (aC l:Int)) (.int (aC xs:Int) _));exact b▸jX
end
end
section
open PySem.Calls
def O8{Y:gI}:∀{A B:bE}{xs:eW},bN D Y h (A.map V.int) xs->bN D Y h (B.map V.int) xs->A=B:=by
 intro z1
 induction z1 with
 |nil=>
  intro z2
  cases z2 with
  |nil=>intro _;intro _;intro _;exact rfl
  |cons b B=>intro xs;intro r;intro c;simp only [A3,cE,rN,rM]at r c;subst r;obtain ⟨_,_,e,_⟩:=c;cases e
 |cons a A d=>
  intro f
  cases f with
  |nil=>intro xs;intro r;intro c;simp only [A3,cE,rN,rM]at r c;subst c;obtain ⟨_,_,e,_⟩:=r;cases e
  |cons b B=>intro xs;intro r;intro c;simp only [cE,rN,rM]at r c;obtain ⟨_,_,rfl,⟨t,rfl⟩,g⟩:=r;obtain ⟨_,_,e,⟨j,i⟩,r2'⟩:=c;cases e;cases i;rw [d g r2']
section
variable{n:Nat}{F:Fx}{σ:St}{Q:V->gZ}
def G1(l:((∃A,v=vL A)/\(c=.none\/(∃B,c=vL B)\/∃s,c=.str s))\/((∃s,v=.str s)/\c=.none))(q:∀b,(b=aU->v=c)->Q (.bool b) σ):TW rV n F [v,c] (En (compareOp .Is)) σ Q:=oV λA X D h tk u x ok m g d=>by
 have f:tG rV F X D h Q (.bool bR) (iZ h tk):=fS m nW (q bR (λz=>by cases z));rcases l with ⟨⟨A,rfl⟩,h2⟩|⟨⟨s,rfl⟩,rfl⟩
 .obtain ⟨a,xs,rfl,y,⟨k,i⟩,o⟩:=g;rcases h2 with rfl|⟨B,rfl⟩|⟨s,rfl⟩
  .subst d;exact Z5 rfl (λz=>by cases z) f
  .obtain ⟨b,p,rfl,nb,⟨C,j⟩,r⟩:=d;by_cases e:a=b
   .subst e;have:xs=p:=by have z:=i.symm.trans j;cases z;rfl
    subst this;exact wpAny_is_ref_self (fS m nW (q aU λ_=>by rw [O8 o r]))
   .exact wpAny_is_ref_other e i j (show kQ "list"≠kQ "tuple" by decide) f
  .obtain ⟨t,rfl⟩:=d;exact Z5 rfl (λz=>by cases z) f
 .obtain ⟨t,rfl⟩:=g;subst d;exact Z5 rfl (λz=>by cases z) f
end
end
section
set_option backward.match.sparseCases false
open PySem.Calls
def IX:mU:=λus σ=>aN (aG (.set0,σ)) us
def IZ:mU:=λus σ=>aV (λu=>aN (ob (aBf u) λs=>if s.length<=lim then aG (.int s.length,σ)else aH)) us
section
variable{n:Nat}{F:Fx}
def Pd:A0 n F (.type "set") IX:=λus σ r σ' e=>by
 refine mT e λe=>?_
 .intro A X D h tk vs ok m r;obtain rfl:=r;refine call_set_0 λa=>?_;have b:=cY h {cls:=.type "set",dict:=aH,data:=.set #[] 0 (.fresh 0 0 a)};refine ⟨_,tk,D,σ,_,rfl,mZ.grow b,m.grow b,?_,.of e⟩;refine ⟨h.objs.size,rfl,λq=>?_,a,cC _ rfl⟩;exact (m.yal q).no (eE _)
def DJ:A0 n F (.builtin "len") IZ:=λus σ r σ' e=>by refine oC e λ_ _ e=>?_;refine mT e λe=>?_;refine ZH e λs e=>?_;obtain ⟨b,e⟩:=iB e;intro A X D h tk vs ok m r;obtain ⟨_,_,rfl,⟨t,rfl⟩,a⟩:=r;cases a;exact len_str (by have c:lim=1048576:=rfl;lia) ⟨h,_,D,σ,_,rfl,.refl,m,jX,.of e⟩
end
end
section
open PySem.Calls
section
variable{n:Nat}{F:Fx}
def BB{Q:Fl->gZ}(fk:hO F)(x:iP n F (.Name "enumerate" p) (gK (.fn (.type "enumerate"))))(i:nJ F [arg])(y:iP n F arg l)(C:eD [arg] F.env=(bR,eval arg F.env)::eD [] F.env)
  (he:eval (.Call (.Name "enumerate" p) [arg] [] ipos) F.env=(do kY ipos (<-eval (.Name "enumerate" p) F.env) [] (backTo ipos (eD [arg] F.env)) []))
  (G:∀x,foldedSetIterable (.Call (.Name "enumerate" p) [arg] [] ipos) F.env x=pure x) (H:l σ=aG (.str (aF ""),σ₁)) (q:Q .next σ₁):
  XW k n F (.For (.Tuple es c tpos) (.Call (.Name "enumerate" p) [arg] [] ipos) body [] ap) σ Q:=by
 intro A X D h tk ok m;refine aD8 ?_ G;refine aK (TW.atE (x σ _ _ rfl) ok m bN.nil ?_);rintro fv h₀ fu D₀ I m₀ J;subst J;have L:xH n F ipos [arg] (aS l bP):=fN y bF C;refine oL (mD i) (rL i (L _ [.str (aF "")] σ₁ (by simp [aS,H,bd,bP])) ok m₀ ?_);rintro ir h₁ f D₁ _ _ N O P ⟨rfl,rfl⟩;obtain ⟨_,_,rfl,⟨t,rfl⟩,rfl⟩:=P;refine call_enumerate_str λa r g og R=>?_;have W:=WalksT.enumerateD (prog:=prog) (w:=w) (Draws.strAscii (A:=A.in1) ok.hd h₁.objs.size (aF "") t) (h₁.objs.size+1) (J7 _) (by simp) (by simp);have s:a.IsStrIter h₁.objs.size "str_ascii_iterator" (aF "") t 0:=by
  have z:strIterType (aF "")="str_ascii_iterator":=by decide+kernel
  replace g:=z▸g;exact g
 refine W.self 0 (iZ a f) _ _ ⟨⟨_,r⟩,s⟩ (I1 (λj u=>j=1/\u=iZ a f) (λj u T=>?_) 1 ⟨rfl,rfl⟩);obtain ⟨rfl,rfl⟩:=T;have h0:(aF "").cps.size=0:=by decide+kernel
 refine W.done (iZ a f) _ _ ⟨⟨_,r⟩,s⟩ λv Y Z=>xK ?_;have B:∀b o,h₁.get? b=aG o->v.get? b=aG o:=λb o e=>Z b o (λz=>by
  have d:=dW e;rcases aR.mp z with z|z
  .rw [z]at d;exact absurd d (lU.mpr (jW _))
  .rw [aM.mp z]at d;exact absurd d (eG _)) (R b o e)
 exact ⟨v,Y,D₁,_,.next,rfl,((I.trans N).trans (mZ.grow B)).toK k,O.grow B,Iy.next,q⟩
end
end
section
set_option backward.match.sparseCases false
open PySem.Calls
section
variable{n:Nat}
def G6(d:∀as,Bo m as->vD n f (.attrs as) ds (λc r=>∃a,c=.attrs a/\Bo b a/\r=e)):vD n f (.mat m) ds (λc r=>c=.mat b/\r=e):=by intro A Y h tk x c vs ok g i j k l o cr s;obtain ⟨as,t,u⟩:=cr;refine bK (d as t A Y h tk x c vs ok g i j k l o u s) (λv G p=>?_) λ_ _ z=>z;obtain ⟨h',y,c1,r,rfl,k1,k2,H,B,C,D,a,rfl,F,rfl⟩:=p;exact ⟨h',y,.mat b,r,rfl,k1,k2,trivial,B,⟨a,F,C⟩,D,rfl,rfl⟩
end
end
section
set_option backward.match.sparseCases false
open PySem.Calls
def Rb{E:pZ}{s:cS}{f:Int->Option bL}{Q:pZ}(x:AN s.heap d f n)(p:n<=iF)
  (j:∀u,f k=aG u->Q u {s with toks:=s.toks+1})
  (l:f k=aH->∀h',AN h' d (λy=>if y=k then aG v else f y) (n+1)->qJ d s.heap h'->Q v {s with heap:=h',toks:=s.toks+1}):bW iC A (dictSetDefault d (.int k t) v) Q E s:=by
 refine nn λm=>?_;obtain ⟨es,r,b,h,le,c⟩:=x.ex;refine m (cJ (aK (aD6 (aK (aBv b rfl h ?_)))))
 cases hi:es.findIdx? λe=>pN k e.key with
 |some i=>
  have a:f k=(es[i]?).map (·.val):=by simp only [<-c k,findBy_of_findIdx?,hi]
  refine aK (wpAny_dictEntries b rfl ?_)
  cases g:es[i]? with
  |none=>exfalso;have:=Array.findIdx?_eq_some_iff_findIdx_eq.mp hi;have o:=this.1;rw [Array.getElem?_eq_getElem o]at g;exact nomatch g
  |some e=>simp only [g]at a;exact aK (zB (aW (j e.val a)))
 |none=>
  refine aK (zB (aK (đ b rfl (aW (l (by simp only [<-c k,findBy_of_findIdx?,hi]:f k=aH) _ ⟨_,_,jZ _ b (El (KT rfl _)),h.push k t v,?_,λy=>?_⟩ (pA ..))))))
  .simp only [XE];exact aT Pw le
  .refine (findBy_push pN es k y _ _ v (λz=>?_) hi).trans (by rw [c]);refine (?_:(k==z)=decide (z=k));by_cases e:z=k
   .simp [e]
   .have:¬k=z:=λq=>e q.symm;simp [e,this]
def K5:mU:=λus σ=>aV (λu=>aV λy=>aV λd=>aN (ob (Jz u) λn=>ob (B6 y) λk=>aD σ n λp=>if p.1.length<=lim then
 ((p.1.zip p.2).lookup k).elim (aG (d,{σ with cells:=put n (.dict (k::p.1) (d::p.2)) σ.cells})) λv=>aG (v,σ)else aH)) us
def PP(σ:St):V->Bool
 |.ref n=>match lk σ.cells n with
  |some (.dict _ _)=>aU
  |_=>bR
 |_=>bR
def PO(h:PP σ u=aU):∃j ks vs,u=.ref j/\lk σ.cells j=aG (.dict ks vs):=by
 cases u<;>first|cases h|skip
 rename_i j;unfold PP at h;dsimp only at h
 cases e:lk σ.cells j with
 |none=>replace h:=e▸h;cases h
 |some c=>cases c<;>simp only [e]at h<;>first|exact ⟨j,_,_,rfl,e⟩|cases h
def QQ(d:mU)(go:M V)(ga:M cA):M V:=λσ=>bd (go σ) λu σ=>if PP σ u=aU then bd (ga σ) λus σ=>d (u::us) σ else aH
section
variable{n:Nat}{F:Fx}{K:xO}
def Yh(fk:hO F)(h1:tI S.heap sysModules):SO n F "dict.setdefault" K5:=λus σ v σ' e=>by
 refine oC e ?_;clear e;intro _ _ e;refine oC e ?_;clear e;intro _ _ e;refine oC e ?_;clear e;intro W _ e;refine mT e ?_;clear e;intro e;refine G3 e ?_;clear e;intro j e;refine tV e ?_;clear e;intro k e;replace e:=TG e;obtain ⟨ks,vs,Y,e⟩:=e;replace e:=iB e;obtain ⟨J,e⟩:=e;intro A X D h tk ws ok m r;obtain ⟨u,_,rfl,Z,y,_,rfl,r2,z,_,rfl,L,r4⟩:=r;cases r4;obtain ⟨a,rfl,C⟩:=Z;obtain ⟨t,rfl⟩:=r2;obtain ⟨a',g,xs,hx,N⟩:=m.cel j _ Y;replace g:=C▸g;cases g;have hd:(a==sysModules)=false:=by
  cases q:a==sysModules with
  |false=>rfl
  |true=>obtain ⟨o,i⟩:=h1;replace i:=(eq_of_beq q)▸i;replace i:=(Fx.nb (m.sep j a C).b)▸i;cases i
 refine nn λG=>?_;obtain ⟨O,f,df,x⟩:=kG.mp hx;refine G ?_;have P:(∀u,f k=aG u->tG rV F X D h (Db v σ') u {iZ h tk with toks:=tk+1})->(f k=aH->∀h',AN h' a (λy=>if y=k then aG z else f y) (aC ks+1)->qJ a h h'->tG rV F X D h (Db v σ') z {iZ h tk with heap:=h',toks:=tk+1})->aC ks<=iF->
   bW iC A (Ri "dict.setdefault" [mJ a,B9 k t,z]) (tG rV F X D h (Db v σ')) (λ_ _=>False) (iZ h tk):=λq1 q2 d=>by
  have mt:MeetsIn prog w (Oj.«dict.setdefault» ⟨[mJ a,B9 k t,z],[]⟩) (λ_ R s=>∃f n,AN s.heap a f n/\n<=iF/\(∀u,f k=aG u->R (.ok (.ret u)) {s with toks:=s.toks+1})/\(f k=aH->∀h',AN h' a (λy=>if y=k then aG z else f y) (n+1)->qJ a s.heap h'->R (.ok (.ret z)) {s with heap:=h',toks:=s.toks+1})):=
   .of_wp λA R s ⟨f,n,Q,d,h1,h2⟩=>by unfold Oj.«dict.setdefault»;refine aK (aK (WV Q.map.typeIs ((?_:bW _ _ (pure (a,B9 k t,aG z)) _ _ s))));refine aW ((?_:bW _ _ (if (a==sysModules)=aU then _ else (dictSetDefault a (B9 k t) z>>=_)) _ _ s));rw [if_neg (by rw [hd];exact lN)];exact aK (Rb Q d (λv hv=>aW ⟨v,rfl,h1 v hv⟩) λl h' oi H=>aW ⟨z,rfl,h2 l h' oi H⟩)
  exact call_meetsIn I2 (df.map.typeIs) PySem.F.entry_dict_setdefault (PySem.F.args_dict_setdefault_3 _ _ _) mt ⟨f,aC ks,df,d,q1,q2⟩
 rcases Lk k N O with ⟨v1,z1,I,B,g⟩|⟨I,B⟩
 .rw [I]at e;refine P (λu p=>?_) (λl=>by rw [x,B]at l;cases l) (bV J nL);rw [x,B]at p;cases p;exact ⟨h,tk+1,D,σ,_,rfl,.refl,m,g,.of e⟩
 .replace e:=I▸e;refine Ck e ?_;rintro rfl rfl;refine P (λu p=>by rw [x,B]at p;cases p) (λl h' yq H=>?_) (bV J nL);have d:=Hj O x yq;refine nn λG=>?_;obtain ⟨oz,yr⟩:=d.lt;obtain ⟨m',T⟩:=m.turn (c:=.dict (k::ks) (W::vs)) fk C (λb o hb e=>(H.2 b hb).trans e) ⟨oz,yr⟩ (λY' hr ip=>⟨z::xs,d,.cons (hr _ _ L) (ip _ _ N)⟩);exact G ⟨h',_,D,_,_,rfl,T,m',fW.on m T L,rfl,rfl⟩
def PY{o:Expr}{name:iS}{c b:ķ}{args:List Expr}{pl:Ag Bool}{id:String}{d:mU}{i:M V}{k:M cA}(slot:Ĕ "dict" name id)(p:typeOf (.builtin id)=pure (.type "method_descriptor"))(s:Z7 "dict")(ob:SO n F id d)
  (x:iP n F o i) (t:nJ F args) (y:xH n F b args k)
  (z:eval (.Call (.Attribute o name c) args [] b) F.env=(do
   let l<-eval o F.env
   gB c.atName
   let (f,first)<-holding [l] (getMethod l name pl)
   kY b f first (backTo b (eD args F.env)) [])):iP n F (.Call (.Attribute o name c) args [] b) (QQ d i k):=λσ v σ' q=>by
 obtain ⟨u,σ₁,A,q⟩:=eJ q;split at q
 .rename_i hd;replace q:=eJ q;obtain ⟨us,J,B,q⟩:=q;refine Nl slot p s z t ((x _ _ _ A).mono (oB ⟨λF X D h v m r=>?_,TW.mono (y _ _ _ B) ?_⟩))
  .obtain ⟨j,ks,vs,rfl,C⟩:=PO hd;obtain ⟨a,rfl,G⟩:=r;refine nn λe=>?_;obtain ⟨L,g,xs,H,N⟩:=m.cel j _ C;refine e ?_;replace g:=G▸g;refine pH g ?_;rintro rfl;refine nn λe=>?_;obtain ⟨_,f,⟨es,O,I,_⟩,_⟩:=kG.mp H;exact e ⟨a,_,rfl,I,rfl,rfl⟩
  .exact oB (ob _ _ _ _ q)
 .exact gG q
end
end
section
open PySem.Calls
def Wk.of_lk(h1:∀x v,lk σ'.loc x=aG v->lk σ.loc x=aG v)(h2:∀n c,lk σ'.cells n=aG c->lk σ.cells n=aG c)(h3:σ.next<=σ'.next):Wk k σ σ':=λF X D h fk m=>
 ⟨D,⟨m.fb,λx v e=>m.loc x v (h1 x v e),m.frm,λn c e=>m.cel n c (h2 n c e),m.inj,λn a e=>let ⟨a1,b,d,f,g⟩:=m.sep n a e;⟨a1,b,d,f,dC g h3⟩,m.zfr,m.xal⟩,λ_ _ _ e=>e,λ_ _ e=>e⟩
section
variable{n:Nat}{F:Fx}
def BA{gs:List (V->St->Option St)}{Q:Fl->gZ}(fk:hO F)(x:iP n F (.Name "enumerate" p) (gK (.fn (.type "enumerate"))))(d:nJ F [arg])(y:iP n F arg B)(C:eD [arg] F.env=(bR,eval arg F.env)::eD [] F.env)
  (g:J3 n F es gs)
  (he:eval (.Call (.Name "enumerate" p) [arg] [] ipos) F.env=(do kY ipos (<-eval (.Name "enumerate" p) F.env) [] (backTo ipos (eD [arg] F.env)) []))
  (G:∀x,foldedSetIterable (.Call (.Name "enumerate" p) [arg] [] ipos) F.env x=pure x)
  (H:B σ=aG (.lst l,σ₁)) (I:dH l=aU) (J:Nat->gZ) (L:J 0 σ₁)
  (N:∀(i:Nat) σ',i<aC l->J i σ'->∃σ₁,TB gs [.int i,l.getD i .none] σ'=aG σ₁/\SW k n F body σ₁ (SL k Q (J (i+1))))
  (done:∀σ',J (aC l) σ'->Q .next σ'):
  XW k n F (.For (.Tuple es c tpos) (.Call (.Name "enumerate" p) [arg] [] ipos) body [] ap) σ Q:=by
 intro A X D h tk ok m;refine aD8 ?_ G;refine aK (TW.at (x σ _ _ rfl) ok m bN.nil ?_);rintro fv h₀ fu D₀ f8 b O m₀ P ⟨rfl,rfl⟩;subst P;refine oL (mD d) (rL d ((fN y bF C) _ [.lst l] σ₁ (by simp [aS,H,bd,bP])) ok m₀ ?_);rintro ir h₁ R D₁ _ _ T W f ⟨rfl,rfl⟩;simp only [rN,rM]at f;obtain ⟨u,r',rfl,Y,rfl⟩:=f;obtain ⟨a,xs,rfl,Z,⟨kk,j⟩,rx⟩:=Y;refine call_enumerate_list j.isList λbk t hI og lj=>?_;have v:∀b,h₁.objs.size<=b->h₁.get? b=aH:=λb hb=>by
  cases q:h₁.get? b with
  |none=>rfl
  |some o=>exact absurd (dW q) (lU.mpr hb)
 refine wpAny_pyIter_enum (s:=iZ bk R) t ?_;exact nR (HZ fk ok (J7 _) W lj (v _ (jW _)) (v _ (bG _)) ⟨_,t⟩ hI Z j rx I g J L N done) λr s' z=>by
  cases r with
  |ok f'=>exact z.on ((O.trans T).toK k)
  |error e=>exact z
end
end
section
variable{n:Nat}{F:Fx}
def gU.outX{X:gI}{base:Nat}(fk:hO F)(G:C∉F.Z)(l:∀x q,lk F.bnd x=aG q->x<base)(m:gU (nM F scope cl C base names) X D σ h):gU F (gR [C] X) D (Ec base σ) h:=by
 have j:∀a,Yf F (gR [C] X) D a->Yf (nM F scope cl C base names) X D a\/h.get? a=aH:=λa q=>by
  rcases q with q|q|q
  .exact .inl (.inl (aO _ q))
  .rcases q with q|q
   .exact .inl (.inl (by simp only [aM.mp q];exact aQ))
   .exact .inl (.inr (.inl q))
  .exact .inl (.inr (.inr q))
 have k:∀d v,fW D (Yf (nM F scope cl C base names) X D) h d v->fW D (Yf F (gR [C] X) D) h d v:=λd v=>fW.step (λ_ _ e _=>e) (λ_ _ e=>e) j d v;refine ⟨m.fb,λx v e=>?_,λx p s e=>m.frm x p s (Fy e),λi c e=>?_,m.inj,λi a e=>?_,λa e=>m.zfr a (aO _ e),λa e=>?_⟩
 .have b:lk (Ed base σ.loc) x=aG v:=e;rw [Mu]at b;split at b
  .rename_i o;refine nn λr=>?_;obtain ⟨p,s,u,f,g,t⟩:=m.loc x v b;refine r ?_;rcases Au l f with q|⟨q,_,_⟩
   .exact ⟨p,s,u,q,g,k _ _ t⟩
   .exact iV (aT OA o q)
  .exact gG b
 .obtain ⟨a,f,g⟩:=m.cel i c e;exact ⟨a,f,g.on k (λd v=>bN.step (λ_ _ e _=>e) (λ_ _ e=>e) j d v) λ_ e=>e⟩
 .obtain ⟨a1,y,z,A,B⟩:=m.sep i a e;refine ⟨λq=>a1 (aO _ q),λq=>?_,z,A,B⟩;rcases q with q|q
  .exact a1 (by refine (aM.mp q)▸?_;exact aQ)
  .exact y q
 .rcases e with e|e
  .simp only [aM.mp e];exact (m.zfr C aQ).2
  .exact m.xal a e
theorem Y4{body:cR->cR->Ag Unit}{gt:V->St->Option St}
  (fk:hO F) (B:∀x q,lk F.bnd x=aG q->x<base) (c6:names≠[]) (ha:(g.is_async != 0)=bR)
  (ka:swapsWith (.ListComp G (g::gs) scope H) (aG (.Name yn py)) spos.line F.env=pure aU) (oj:lk F.bnd xi=aG (p0,yn)) (du:AI F.env p0 yn)
  (j7:∀u,evalThenUse (.ListComp G (g::gs) scope H) F.env u=(comprehension (.ListComp G (g::gs) scope H) scope F.env pos' (newList []) bR (eval g.iter F.env) (aG u)>>=λ_=>pure ()))
  (hf:∀x,foldedSetIterable g.iter F.env x=pure x) (cw:closureFor scope F.env=pure cl) (cf:∀y∈scope.names,y.2≠.cell) (bu:scope.kind=.function)
  (bw:∀y∈scope.names,y.2=.local->scope.names.lookup y.1=aG .local)
  (jr:∀C,C∉F.Z->hO (nM F scope cl C base names))
  (dg:∀C a I,compTurn (.ListComp G (g::gs) scope H) 0 (.ref I) (.ref a) (fC scope cl C F.env)=(gB p>>=λ_=>pyNext (.ref I)>>=λr=>match r with
   |none=>pure (.done .next)
   |some v=>iH g.target (.ref I) v>>=λ_=>assign g.target (fC scope cl C F.env) v>>=λ_=>body C a>>=λ_=>again (.compLoop (.ListComp G (g::gs) scope H) 0 (.ref I) (.ref a) (fC scope cl C F.env))))
  (x:Rz n F g.iter gi) (y:∀C,C∉F.Z->Dg n (nM F scope cl C base names) g.target gt)
  (z:∀C a,C∉F.Z->∀σ xs σ',gb σ=aG (xs,σ')->CB n (nM F scope cl C base names) a (body C a) σ xs σ'):
  A5 n F (.Assign [.Name yn py] (.ListComp G (g::gs) scope H) spos) (fU (lI base gi gt gb) (cG xi)):=λk σ f σ' e=>by
 refine nn λl=>?_;replace e:=eJ e;obtain ⟨v,σv,j,e⟩:=e;replace j:=eJ j;obtain ⟨ds,σ₁,e1,j⟩:=j;replace j:=eJ j;obtain ⟨xs,be,e2,j⟩:=j;refine l ?_;split at j
 .rename_i dp;refine Ck j ?_;rintro rfl rfl;refine Ck e ?_;rintro rfl rfl;intro A X D h tk ok m;refine (exec_Assign_Name_used _ _ _ _ ka)▸(aK (fM (aK ?_)));rw [j7];refine aK (bK ?_ (λ_ s' hq=>aW (aW hq)) λ_ _ z=>z);refine sJ rfl hf cw bu bw (bK (x _ _ _ e1 A X D h tk ok m) (λxv ft h₁=>bK h₁ (λit g4 T=>?_) λ_ _ q=>q) λ_ _ q=>q);refine nn λl=>?_;obtain ⟨h₀,D₀,f8,qe,I,d,ag,rfl,rfl,st,m₀,wk,rfl,rfl⟩:=T;obtain ⟨wi,J,L,gj⟩:=wk.toIn m₀;refine l ?_;refine nP (Ff cf (by intro y hy;simp at hy) (λW Y Z=>?_) bu);dsimp only at Y Z⊢;generalize j8:d.push {cls:=.type "list",dict:=aH,data:=.seq ([]:eW).toArray}=H2 at Y Z⊢;have i6:∀b o,d.get? b=aG o->H2.get? b=aG o:=λb o e=>j8▸cY _ _ b o e;have jb:∀b o,H2.get? b=aG o->W.get? b=aG o:=λb o e=>Z.extBut b o (fI (dW e)) (cY _ _ b o e);have O:∀b o,d.get? b=aG o->W.get? b=aG o:=λb o e=>jb b o (i6 b o e);have aN:d.get? d.objs.size=aH:=eE _;have j3:H2.get? H2.objs.size=aH:=eE _;have cN:d.get? H2.objs.size=aH:=by
   cases q:d.get? H2.objs.size with
   |none=>rfl
   |some o=>rw [i6 _ _ q]at j3;exact De j3
  have j9:∀b,d.get? b=aH->h₀.get? b=aH:=λb e=>by
   cases q:h₀.get? b with
   |none=>rfl
   |some o=>rw [L _ _ q]at e;exact De e
  have km:=j8▸A9 _ _;have eh:∀b,d.get? b=aH->b∉F.Z/\¬X b/\(∀i,lk D₀ i≠aG b)/\F.B.1.get? b=aH:=λb e=>by
   refine ⟨λq=>?_,λq=>?_,λi q=>?_,?_⟩
   .exact ((J.zfr b q).2).no e
   .exact (J.xal b (jQ q)).no e
   .exact ((J.sep i b q).h).no e
   .cases q:F.B.1.get? b with
    |none=>rfl
    |some o=>rw [J.fb b o q]at e;exact De e
  refine nn λl=>?_;obtain ⟨aZ,aX,aD,aB⟩:=eh _ aN;obtain ⟨t,cX,cD,cB⟩:=eh _ cN;refine l ?_;have l6:d.objs.size≠H2.objs.size:=by simp only [(by rw [<-j8,eY]:H2.objs.size=d.objs.size+1)];exact fI (gS _)
  have m2:=J.addX i6 λb B=>by obtain rfl:=aM.mp B;exact ⟨aN,_,km⟩
  have l7:gU (nM F scope cl H2.objs.size base names) (gR [I] (gR [d.objs.size] X)) D₀ σ₁ W:=(m2.into B jb j3 Y).dropX λb q=>by
   rcases q with q|q|q
   .exact jQ (jR q)
   .exact jR q
   .exact jQ (jQ q)
  have kh:=wi.up (scope:=scope) (cl:=cl) (base:=base) (names:=names) O aN cN;have l8:d.objs.size∉(nM F scope cl H2.objs.size base names).Z:=λq=>by
   rcases aR.mp q with q|q
   .exact l6 q
   .exact aZ q
  have gd:=xC (F:=nM F scope cl H2.objs.size base names) (tk:=ag+([]:List (iS×bL)).length) (jr _ t) ok (jR (by simp)) l8 aB rfl (rK (.lst _ _ _ _)) (dg _ _ I) kh l7 (⟨[],_,jb _ _ km,⟨0,rfl⟩,bN.nil⟩) (y _ t) (z _ _ t) e2 (bV (by simpa using dp) nL);clear l7 l8;refine nR (rJ (g:=g) (.lst _ _ _ _) rfl ha gd (kh.self gd)) λr s' T=>?_;refine nn λl=>?_;clear jr y z kh gd;obtain ⟨rfl,h',aw,D',rfl,P,Q,gu⟩:=T;refine l ?_;obtain ⟨nm,ns,ub⟩:=wI c6;have ma:sX h' (.loc H2.objs.size):=Q.frm base (.loc H2.objs.size) nm (by
   refine (?_:lk (F.bnd++Yj H2.objs.size base names) base=_);simp only [mQ]
   cases q:lk F.bnd base with
   |some v=>exact absurd (B base v q) (eG _)
   |none=>refine ub▸?_;simp [G8,D0,fL,eP])
  refine nn λl=>?_;obtain ⟨mm,qt⟩:=ma;have nn:∀b o,h₀.get? b=aG o->b≠I/\b≠d.objs.size/\b≠H2.objs.size:=λb o e=>⟨λq=>(by rw [q,gj]at e;exact gG e),λq=>(by rw [q,j9 _ aN]at e;exact gG e),λq=>(by rw [q,j9 _ cN]at e;exact gG e)⟩;have ud:mZ F D₀ h₀ D' h':=by
   refine ⟨λb o e hz hd=>P.keep b o (O _ _ (L _ _ e)) (λq=>?_) hd,P.ext,λi b e=>?_,λb o e=>P.al b o (nn b o e).1 (O _ _ (L _ _ e))⟩
   .rcases aR.mp q with q|q
    .exact (nn b o e).1 q
    .rcases aR.mp q with q|q
     .exact (nn b o e).2.1 q
     .rcases aR.mp q with q|q
      .exact (nn b o e).2.2 q
      .exact hz q
   .rcases P.new i b e with q|q
    .exact .inl q
    .refine .inr ?_
     cases q':h₀.get? b with
     |none=>rfl
     |some o=>rw [O _ _ (L _ _ q')]at q;exact De q
  obtain ⟨us,_,hu,⟨c,rfl⟩,ru⟩:=gu;refine l ?_;have mz:fW D' (Yf F (gR [H2.objs.size] X) D') h' (.lst xs) (.ref d.objs.size):=by
   refine ⟨_,us,rfl,λq=>?_,⟨c,hu⟩,?_⟩
   .rcases q with q|(q|q)|⟨i,q⟩
    .exact aZ q
    .exact l6 (aM.mp q)
    .exact aX q
    .exact (λi q=>(Q.sep i _ q).x (jR (by simp))) i q
   .refine bN.step (λ_ _ e _=>e) (λ_ _ e=>e) (λb q=>?_) _ _ ru;rcases q with q|(q|q)|q
    .exact .inl (.inl (aO _ q))
    .exact .inl (.inl (by simp only [aM.mp q];exact aQ))
    .exact .inl (.inr (.inl (jQ q)))
    .exact .inl (.inr (.inr q))
  refine pI (wP fk (gU.outX fk t B (Q.dropX λb q=>jQ q)) oj du mz λbk br m6 nv=>?_);refine ⟨mm,?_,λjp ii=>?_⟩
  .exact Ns.keep1 qt (λo e=>nv.keep _ o e t (λi q=>(Q.sep i _ q).z (by exact aQ):∀i,lk D' i≠aG H2.objs.size))
  .have m7:gU F X D' {Ec base be with loc:=put xi (.lst xs) (Ec base be).loc} jp:=gU.leave (N:=[H2.objs.size]) fk m6 (λb s=>by refine (aM.mp s)▸?_;exact t) (λb s=>by refine (aM.mp s)▸?_;exact cB) (λb s=>by refine (aM.mp s)▸?_;exact cX) (λb o s e=>ii.extBut b o (λq=>s (by simp only [q];exact aM.mpr rfl)) e);have R:=ud.trans nv;have vj:mZ F D₀ h₀ D' jp:=⟨λb o e hz hd=>ii.extBut b o (nn b o e).2.2 (R.keep b o e hz hd),R.ext,R.new,λb o e=>by obtain ⟨o',e'⟩:=R.al b o e;exact ⟨o',ii.extBut b o' (nn b o e).2.2 e'⟩⟩;exact ⟨jp,br,D',_,.next,rfl,(st.trans vj).toK k,m7,Iy.next,rfl,rfl⟩
 .exact gG j
end
section
variable{n:Nat}{F:Fx}{tab:List (Nat×iS)}
theorem Tu{body:cR->cR->Ag Unit}{gt:V->St->Option St}
  (T:tY F tab) (h:∀x q,lk F.bnd x=aG q->x<base) (l:names≠[]) (m:names.Nodup) (o:(g.is_async != 0)=bR)
  (s:swapsWith (.ListComp c (g::gs) scope d) (aG (.Name yn py)) spos.line F.env=pure aU) (f:(xi,yn)∈tab)
  (t:∀u,evalThenUse (.ListComp c (g::gs) scope d) F.env u=(comprehension (.ListComp c (g::gs) scope d) scope F.env pos' (newList []) bR (eval g.iter F.env) (aG u)>>=λ_=>pure ()))
  (A:∀x,foldedSetIterable g.iter F.env x=pure x) (B:(scope.names.all λx=> !(x.2==.free)|| (F.env.cells.lookup x.1).isSome)=aU) (D:(scope.names.all λy=>y.2 != .cell)=aU) (i:scope.kind=.function)
  (G:(scope.names.all λy=>y.2 != .local||scope.names.lookup y.1==aG .local)=aU) (H:yS F scope tab cap) (J:yR F scope names)
  (L:∀C a I,compTurn (.ListComp c (g::gs) scope d) 0 (.ref I) (.ref a) (fC scope (gW scope F.env) C F.env)=(gB p>>=λ_=>pyNext (.ref I)>>=λr=>match r with
   |none=>pure (.done .next)
   |some v=>iH g.target (.ref I) v>>=λ_=>assign g.target (fC scope (gW scope F.env) C F.env) v>>=λ_=>body C a>>=λ_=>again (.compLoop (.ListComp c (g::gs) scope d) 0 (.ref I) (.ref a) (fC scope (gW scope F.env) C F.env))))
  (x:Rz n F g.iter N) (y:∀C,tY (nM F scope (gW scope F.env) C base names) (cap++Ar base names)->Dg n (nM F scope (gW scope F.env) C base names) g.target gt)
  (z:∀C a,tY (nM F scope (gW scope F.env) C base names) (cap++Ar base names)->∀σ xs σ',gb σ=aG (xs,σ')->CB n (nM F scope (gW scope F.env) C base names) a (body C a) σ xs σ'):
  A5 n F (.Assign [.Name yn py] (.ListComp c (g::gs) scope d) spos) (fU (lI base N gt gb) (cG xi)):=by
 refine nn λO=>?_;obtain ⟨W,P,Q⟩:=T.ok xi yn f;refine O ?_;have tt:∀C,C∉F.Z->tY (nM F scope (gW scope F.env) C base names) (cap++Ar base names):=λC b=>Fw T i b m h H.at J.at;refine Y4 T.fk h l o s P Q t A (oY B) (λy f=>?_) i (λy f R=>?_) (λC b=>(tt C b).fk) L x (λC b=>y C (tt C b)) (λC a b=>z C a (tt C b))
 .have:=dO.mp D y f;intro e;replace this:=e▸this;exact absurd this (by decide)
 .have:=dO.mp G y f;replace this:=R▸this
  cases j:scope.names.lookup y.1 with
  |none=>rw [j]at this;exact absurd this (by decide)
  |some k=>rw [j]at this;cases k<;>first|rfl|exact absurd this (by decide)
def PT{gt:V->St->Option St}
  (T:tY F tab) (d:swapsWith (.ListComp c [⟨t0,b,[],0⟩] scope e) (aG (.Name yn py)) spos.line F.env=pure aU) (f:(xi,yn)∈tab) (g:∀x q,lk F.bnd x=aG q->x<base) (h:names≠[]) (i:names.Nodup)
  (j:∀x,foldedSetIterable b F.env x=pure x) (k:(scope.names.all λx=> !(x.2==.free)|| (F.env.cells.lookup x.1).isSome)=aU) (l:(scope.names.all λy=>y.2 != .cell)=aU) (m:scope.kind=.function)
  (o:(scope.names.all λy=>y.2 != .local||scope.names.lookup y.1==aG .local)=aU) (p:yS F scope tab cap) (r:yR F scope names)
  (x:Rz n F b s) (y:∀C,tY (nM F scope (gW scope F.env) C base names) (cap++Ar base names)->Dg n (nM F scope (gW scope F.env) C base names) t0 gt)
  (z:∀C,tY (nM F scope (gW scope F.env) C base names) (cap++Ar base names)->iP n (nM F scope (gW scope F.env) C base names) c t):
  A5 n F (.Assign [.Name yn py] (.ListComp c [⟨t0,b,[],0⟩] scope e) spos) (fU (lI base s gt (kD t)) (cG xi)):=
 Tu T g h i rfl d f (λ_=>rfl) j k l m o p r (λ_ _ _=>rfl) x y (λC a T1 _ _ _ q=>C6 T1.fk (z C T1) q)
end
section
set_option backward.match.sparseCases false
def Go(x:Option (Fl×St))(P:Fl->gZ):Prop:=∃f τ,x=aG (f,τ)/\P f τ
def GB(c:M Bool)(σ:St)(Q:Bool->gZ):Prop:=∃b τ,c σ=aG (b,τ)/\Q b τ
def Go.mono{P Q:Fl->gZ}(h:Go x P)(y:∀f τ,P f τ->Q f τ):Go x Q:=let ⟨f,τ,e,p⟩:=h;⟨f,τ,e,y f τ p⟩
def cP{g h:Nat->M Fl}{P:Fl->gZ}(x:Go (g k σ) λf τ=>match f with|.next=>Go (h k τ) P|f=>P f τ):Go (eU g h k σ) P:=by
 obtain ⟨f,τ,e,p⟩:=x;unfold eU;rw [e];cases f
 .exact p
 all_goals exact ⟨_,_,rfl,p⟩
def IP{t:V->St->Option St}(e:g σ=aG (v,τ))(a:t v τ=aG τ'):fU g t k σ=aG (.next,τ'):=by unfold fU;rw [e];show ob (t v τ) _=_;rw [a];rfl
def eS{t:V->St->Option St}{P:Fl->gZ}(e:g σ=aG (v,τ))(a:t v τ=aG τ')(p:P .next τ'):Go (fU g t k σ) P:=⟨.next,τ',IP e a,p⟩
def zT{P:Fl->gZ}(e:g σ=aG (v,τ))(p:P (.ret v) τ):Go (tQ g k σ) P:=⟨.ret v,τ,by unfold tQ;rw [e];rfl,p⟩
def rH{P:Fl->gZ}(e:g σ=aG (.none,τ))(p:P .next τ):Go (xP g k σ) P:=⟨.next,τ,by unfold xP;rw [e];rfl,p⟩
def Tx{P:Fl->gZ}(p:P .next σ):Go (xP (gK (.str x)) k σ) P:=⟨.next,σ,rfl,p⟩
def kI{P:Fl->gZ}(p:P f σ):Go (nA f k σ) P:=⟨f,σ,rfl,p⟩
def gF{h:Nat->M Fl}{P:Fl->gZ}(e:AG xs σ=σ')(p:Go (h k σ') P):Go (rT xs h k σ) P:=by unfold rT;rw [e];exact p
def Tv{h:Nat->M Fl}{P:Fl->gZ}(e:WE k σ=aG σ')(p:Go (h k σ') P):Go (Zg h k σ) P:=by unfold Zg;rw [e];exact p
def rG{a b:Nat->M Fl}{P:Fl->gZ}(x:GB c σ λt τ=>if t=aU then Go (a k τ) P else Go (b k τ) P):Go (yF c a b k σ) P:=by
 obtain ⟨t,τ,e,p⟩:=x;unfold yF;rw [e];show Go (if t=aU then a k τ else b k τ) P;split
 .rwa[if_pos ‹_›]at p
 .rwa[if_neg ‹_›]at p
def Ú{a b:Nat->M Fl}{P:Fl->gZ}(e:c σ=aG (aU,τ))(p:Go (a k τ) P):Go (yF c a b k σ) P:=rG ⟨aU,τ,e,p⟩
def M9{a b:Nat->M Fl}{P:Fl->gZ}(e:c σ=aG (bR,τ))(p:Go (b k τ) P):Go (yF c a b k σ) P:=rG ⟨bR,τ,e,p⟩
def GY{f:V->V->M V}{P:Fl->gZ}(a:lk σ.loc x=aG old)(b:g σ=aG (v,τ))(c:f old v τ=aG (r,τ'))(p:P .next {τ' with loc:=put x r τ'.loc}):Go (T8 x f g k σ) P:=
 ⟨.next,_,by unfold T8;rw [a];show bd (g σ) _=_;rw [b];show bd (f old v τ) _=_;rw [c];rfl,p⟩
def jV{Q:Bool->gZ}(e:c σ=aG (b,τ))(q:Q b τ):GB c σ Q:=⟨b,τ,e,q⟩
def lL{Q:Bool->gZ}(x:GB g σ λb τ=>if b=aU then GB h τ Q else Q bR τ):GB (kJ g h) σ Q:=by
 obtain ⟨t,τ,e,p⟩:=x;unfold kJ GB;show∃b τ',bd (g σ) _=_/\_;rw [e];cases t
 .exact ⟨bR,τ,rfl,p⟩
 .exact p
def HH{Q:Bool->gZ}(x:GB g σ λb τ=>Q (!b) τ):GB (Ze g) σ Q:=by obtain ⟨t,τ,e,p⟩:=x;exact ⟨!t,τ,by unfold Ze;rw [e];rfl,p⟩
def T5{Q:Bool->gZ}(q:Q b σ):GB (λσ=>aG (b,σ)) σ Q:=⟨b,σ,rfl,q⟩
inductive KE(xs:mI)(k:Nat)(J:Nat->gZ)(m:Nat)(cq:St):Prop
 |mk (cu:St) (m':Nat) (e:W4 xs k cq=aG cu) (l:m'<m) (j:J m' cu)
def KF(xs:mI)(k:Nat)(J:Nat->gZ)(m:Nat)(P:Fl->gZ):Fl->gZ:=λf cq=>match f with
 |.next=>KE xs k J m cq
 |.cont=>KE xs k J m cq
 |.brk=>P .next cq
 |.ret v=>P (.ret v) cq
inductive I0(xs:mI)(k:Nat)(J:gZ)(cq:St):Prop
 |mk (cu:St) (e:W4 xs k cq=aG cu) (j:J cu)
def xI(xs:mI)(k:Nat)(J:gZ)(E:gZ)(Rt:V->gZ):Fl->gZ:=λf cq=>match f with
 |.next=>I0 xs k J cq
 |.cont=>I0 xs k J cq
 |.brk=>E cq
 |.ret v=>Rt v cq
def FiP(N:gZ)(Rt:V->gZ):Fl->gZ
 |.next,τ=>N τ
 |.ret v,τ=>Rt v τ
 |.brk,_=>False
 |.cont,_=>False
def IA{b:V->M Fl}(E:gZ)(Rt:V->gZ):∀(ds:cA)(J:Nat->gZ)(σ:St),J 0 σ->
  (∀i τ v,ds[i]?=aG v->J i τ->Go (b v τ) (xI xs k (J (i+1)) E Rt))->
  Go (Q3 xs k b ds σ) (FiP (λτ=>J (aC ds) τ\/E τ) Rt):=by
 intro x0
 induction x0 with
 |nil=>intro J σ h0 _;exact ⟨.next,σ,rfl,.inl h0⟩
 |cons v r g=>
  intro J σ h0 step;obtain ⟨f,c,e,p⟩:=step 0 σ v rfl h0;have again:∀a,J 1 a->Go (Q3 xs k b r a) (FiP (λτ=>J (v::r).length τ\/E τ) Rt):=λa h=>by refine (g (λi=>J (i+1)) a h λi τ u j l=>?_).mono λf τ p=>p;exact step (i+1) τ u (by simpa using j) l
  show Go (bd (b v σ) _) _;rw [e];cases f
  .obtain ⟨a,d,h⟩:=p;show Go (ob (W4 xs k c) λσ=>Q3 xs k b r σ) _;rw [d];exact again a h
  .exact ⟨.next,c,rfl,.inr p⟩
  .obtain ⟨a,d,h⟩:=p;show Go (ob (W4 xs k c) λσ=>Q3 xs k b r σ) _;rw [d];exact again a h
  .exact ⟨.ret _,c,rfl,p⟩
def pL{gt:V->St->Option St}{gb:Nat->M Fl}{P:Fl->gZ}(E:gZ)(J:Nat->gZ)(e:c σ=aG (ds,τ))(d:k<=τ.next)(h0:J 0 τ)
  (step:∀i a v,ds[i]?=aG v->J i a->∃τ',gt v a=aG τ'/\Go (gb τ.next τ') (xI xs τ.next (J (i+1)) E (λv=>P (.ret v))))
  (done:∀τ',J (aC ds) τ'\/E τ'->P .next τ'):Go (vI xs c gt gb k σ) P:=by
 have g:=IA (b:=λv a=>ob (gt v a) λa=>gb τ.next a) E (λv=>P (.ret v)) ds J τ h0 (λi a v h j=>by obtain ⟨τ',l,p⟩:=step i a v h j;rw [l];exact p);unfold vI;rw [e];show Go (if k<=τ.next then _ else _) _;rw [if_pos d];refine g.mono λf τ' p=>?_;cases f
 .exact done τ' p
 .exact p.elim
 .exact p.elim
 .exact p
def MA{P:Fl->gZ}(J:Nat->gZ)(step:∀m τ,J m τ->GB t τ λc τ'=>if c=aU then Go (b τ') (KF xs k J m P)else P .next τ'):∀(n m:Nat)(σ:St),m<n->J m σ->Go (ŀ xs k t b n σ) P:=by
 intro x0
 induction x0 with
 |zero=>intro m σ h _;exact absurd h (eL _)
 |succ n r=>
  intro m σ h j;obtain ⟨c,τ',e,p⟩:=step m σ j;show Go (bd (t σ) _) _;rw [e];show Go (if c=aU then _ else _) _;cases c
  .rw [if_neg (by decide)];rw [if_neg (by decide)]at p;exact ⟨.next,τ',rfl,p⟩
  .rw [if_pos rfl];rw [if_pos rfl]at p;obtain ⟨f,a,s,p⟩:=p;rw [s];cases f
   .obtain ⟨d,g,i,l,o⟩:=p;show Go (ob (W4 xs k a) _) _;rw [i];exact r g d (aT TX h l) o
   .exact ⟨.next,a,rfl,p⟩
   .obtain ⟨d,g,i,l,o⟩:=p;show Go (ob (W4 xs k a) _) _;rw [i];exact r g d (aT TX h l) o
   .exact ⟨.ret _,a,rfl,p⟩
def Ht{b:Nat->M Fl}{P:Fl->gZ}(J:Nat->gZ)(m:Nat)(a:m<SB)(d:k<=σ.next)(h0:J m σ)(step:∀m τ,J m τ->GB t τ λc τ'=>if c=aU then Go (b σ.next τ') (KF xs σ.next J m P)else P .next τ'):Go (tP xs t b k σ) P:=by unfold tP;rw [if_pos d];exact MA J step SB m σ a h0
def Ax{b:Nat->M Fl}{P:Fl->gZ}(a:k<=σ.next)(e:GB t σ λc τ=>c=bR/\P .next τ):Go (tP xs t b k σ) P:=by refine Ht (λ_ τ=>τ=σ) 0 (by decide) a rfl λm τ d=>?_;subst d;obtain ⟨c,τ',e,rfl,p⟩:=e;exact ⟨bR,τ',e,p⟩
def stay(k:Nat):V->Bool
 |.ref n=>decide (n<k)
 |.inst n=>decide (n<k)
 |v=>v.pure
def Gs(h:stay k v=aU):rZ uY k cs v=aG v:=by
 cases v<;>first|exact dP h|skip
 .exact (if_pos (of_decide_eq_true h):(if _ then aG _ else _)=_)
 .exact (if_pos (of_decide_eq_true h):(if _ then aG _ else _)=_)
def Yo:∀{l:tH},(l.all λp=>stay k p.2)=aU->Jj (rZ uY k cs) l=aG l:=by
 intro z1
 induction z1 with
 |nil=>intro _;exact rfl
 |cons z2 r z4=>obtain ⟨x,v⟩:=z2;intro h;replace h:=pQ.mp h;exact cL (Gs h.1) (z4 h.2)
def Ki:∀{l:cA},(l.all λp=>stay k p)=aU->qS (rZ uY k cs) l=aG l:=by
 intro a
 induction a with
 |nil=>intro _;exact rfl
 |cons v r b=>intro h;replace h:=pQ.mp h;exact ZU (Gs h.1) (b h.2)
def Yp:∀{l:oS},(l.all λp=>stay k p.2)=aU->Bw (rZ uY k cs) l=aG l:=by
 intro b
 induction b with
 |nil=>intro _;exact rfl
 |cons a r c=>obtain ⟨x,v⟩:=a;intro h;replace h:=pQ.mp h;exact Mo (Gs h.1) (c h.2)
def Eo(k:Nat):fQ->Bool
 |.list l=>l.all λp=>stay k p
 |.dict _ l=>l.all λp=>stay k p
 |.attrs as=>as.all λp=>stay k p.2
 |.mat _=>aU
def gE(h:Eo k c=aU):Jk (rZ uY k cs) c=aG c:=by
 cases c with
 |list l=>show (qS _ l).map _=_;rw [Ki h];rfl
 |dict ks l=>show (qS _ l).map _=_;rw [Ki h];rfl
 |attrs as=>show (Bw _ as).map _=_;rw [Yp h];rfl
 |mat m=>rfl
def gL{g:V->pM}(a:n<k)(e:Jk g c=aG b)(d:oH k g r=aG f):oH k g ((n,c)::r)=aG ((n,b)::f):=(if_pos a).trans (nX e (nX d rfl))
def pU{g:V->pM}(a:¬n<k)(b:oH k g r=aG d):oH k g ((n,c)::r)=aG d:=(if_neg a).trans b
def kW{g:V->pM}:oH k g []=aG []:=rfl
def Ni(e:Jj (rZ uY k cs) loc=aG loc')(a:oH k (rZ uY k cs) cs=aG b):WE k ⟨loc,cs,n⟩=aG ⟨loc',b,k⟩:=nX e (nX a rfl)
def B3(a:AG xs σ=⟨loc,cs,n⟩)(e:Jj (rZ uY k cs) loc=aG loc')(b:oH k (rZ uY k cs) cs=aG c):W4 xs k σ=aG ⟨loc',c,k⟩:=by unfold W4;rw [a];exact Ni e b
def zX(a:AG xs σ=⟨loc,cs,n⟩)(e:(loc.all λp=>stay k p.2)=aU)(b:oH k (rZ uY k cs) cs=aG c):W4 xs k σ=aG ⟨loc,c,k⟩:=B3 a (Yo e) b
def mO(h:v.pure=aU):stay k v=true:=by cases v<;>first|exact h|cases h
def Ef(h:∀p∈as,p.2.pure=aU):Eo k (.attrs as)=true:=dO.mpr λp a=>mO (h p a)
def jD:∀{l:cA},dH l=aU->(l.all λp=>stay k p)=true:=by
 intro a
 induction a with
 |nil=>intro _;exact rfl
 |cons v r b=>intro h;simp only [fO,eN,dT]at h;simp only [oZ,mO h.1,b h.2,gQ]
def CY(a:¬n<k)(e:lk cs n=aG (.dict ks vs))(b:dH vs=aU):rZ uY k cs (.ref n)=aG (.dct ks vs):=by refine (Fm a).trans ?_;rw [e];exact congrArg (qX (V.dct ks)) (Kj b)
def CX(a:¬n<k)(e:lk cs n=aG (.list vs))(b:dH vs=aU):rZ (f+2) k cs (.ref n)=aG (.lst vs):=by refine (Fm a).trans ?_;rw [e];exact congrArg (qX V.lst) (Kj b)
def wQ(a:¬n<k)(e:lk cs n=aG (.list vs))(b:dH vs=aU):rZ uY k cs (.ref n)=aG (.lst vs):=CX a e b
end
section
set_option backward.match.sparseCases false
def bS(h:lk σ.loc x=aG v):aP x σ=aG (v,σ):=by unfold aP;rw [h];rfl
def pJ(a:g σ=aG (.inst n,τ))(b:lk τ.cells n=aG (.attrs as))(c:pK as nm=aG v)(d:Dz v=aU):tX nm g σ=aG (v,τ):=by unfold tX;rw [a];show aA τ n _=_;rw [WS b];rw [c];show (if Dz v=aU then _ else _)=_;rw [if_pos d]
def lm0:0<=lim:=by decide
def lm1:1<=lim:=by decide
def Yw:2<=lim:=by decide
def Fu:3<=lim:=by decide
def lm4:4<=lim:=by decide
def lm7:7<=lim:=by decide
def cW:bP σ=aG ([],σ):=rfl
def bH(e:g σ=aG (v,τ))(a:h τ=aG (vs,τ')):aS g h σ=aG (v::vs,τ'):=by unfold aS;rw [e];show bd (h τ) _=_;rw [a];rfl
def nV(e:g σ=aG (vs,τ))(a:aC vs<=lim):kC g σ=aG (.tup vs,τ):=by unfold kC;rw [e];show (if aC vs<=lim then _ else _)=_;rw [if_pos a]
def Cc(e:g σ=aG (vs,τ))(a:aC vs<=lim):pW g σ=aG (.lst vs,τ):=by unfold pW;rw [e];show (if aC vs<=lim then _ else _)=_;rw [if_pos a]
def wB(e:g σ=aG (vs,τ))(a:aC vs<=lim):kR g σ=aG (.ref τ.next,{τ with cells:=(τ.next,.list vs)::τ.cells,next:=τ.next+1}):=by unfold kR;rw [e];show (if aC vs<=lim then _ else _)=_;rw [if_pos a];rfl
def cQ{f:V->V->M V}(e:g σ=aG (a,τ))(c:h τ=aG (b,τ'))(d:f a b τ'=r):bJ f g h σ=r:=by unfold bJ;rw [e];show bd (h τ) _=_;rw [c];exact d
def lP(e:g σ=aG (.bool b,τ)):gM g σ=aG (b,τ):=by unfold gM;rw [e];rfl
def iK{d:mU}(e:g σ=aG (us,τ))(ed:d us τ=r):eV d g σ=r:=by unfold eV;rw [e];exact ed
def Gg(e:g σ=aG (v,τ))(h:ĥ τ v=aG b):yY g σ=aG (b,τ):=by unfold yY;rw [e];show (ĥ τ v).map _=_;rw [h];rfl
def xR{d:mU}(e:b σ=aG (u,τ))(c:J0 τ u=aG l)(f:a τ=aG (us,τ'))(ed:d (u::us) τ'=r):zW d b a σ=r:=by unfold zW;rw [e];show ob (J0 τ u) _=_;rw [c];show bd (a τ) _=_;rw [f];exact ed
def nE(h:l[n]?=aG v)(a:aC l<=lim):fT (.lst l) (vN n) σ=aG (v,σ):=by show (if (0:Int)<=(n:Int)/\aC l<=lim then _ else _)=_;rw [if_pos ⟨aT FC,a⟩];rw [mY,h];rfl
def qC(e:g σ=aG (.lst l,τ))(a:dH l=aU):lG g σ=aG (l,τ):=by unfold lG;rw [e];exact nX (if_pos a) rfl
def lQ(h:lk σ.cells i=aG (.list l))(a:aC l<=lim):gT [.ref i,d] σ=aG (.none,{σ with cells:=put i (.list (l++[d])) σ.cells}):=by show aL σ i _=_;rw [KB h];rw [if_pos a]
def XK(e:g σ=aG (.inst i,τ))(h:lk τ.cells i=aG (.attrs as)):E0 nm g v σ=aG {τ with cells:=put i (.attrs (iW nm v as)) τ.cells}:=by unfold E0;rw [e];show aA τ i _=_;rw [WS h]
def ME{d:Da}(e:a σ=aG (.inst i,τ))(h:lk τ.cells i=aG c)(b:PR c=aU)(f:g τ=aG (us,τ'))(h':lk τ'.cells i=aG c0)(j:dH us=aU)(ed:d c0 us=aG (c1,r)):
  ß d a g σ=aG (r,{τ' with cells:=put i c1 τ'.cells}):=by
 unfold ß;rw [e];show ob (lk τ.cells i) _=_;rw [h];show (if PR c=aU then _ else _)=_;rw [if_pos b];rw [f];show ob (lk τ'.cells i) _=_;rw [h'];show (if dH us=aU then _ else _)=_;rw [if_pos j,ed];rfl
def MD(e:g σ=aG ([.int a,.int b],τ))(h:yO a b=aU):gH g σ=aG (Et a b,τ):=by unfold gH;rw [e];show (if yO a b=aU then _ else _)=_;rw [if_pos h]
def BO(e:g σ=aG ([.int b],τ))(h:yO 0 b=aU):gH g σ=aG (Et 0 b,τ):=by unfold gH;rw [e];show (if yO 0 b=aU then _ else _)=_;rw [if_pos h]
def MK(h:J0 σ (.ref n)=aG l)(a:aC l<=lim):ĥ σ (.ref n)=aG (decide (aC l≠0)):=by exact nX h (if_pos a)
def Vb:Qv (vN a) (vN b) σ=aG (vN (a+b),σ):=by show aG (V.int ((a:Int)+(b:Int)),σ)=_;rw [show (a:Int)+(b:Int)=((a+b:Nat):Int) by exact aT ET];rfl
def tM:fF (vN a) (vN b) σ=aG (vN (a+b),σ):=by show aG (V.int ((a:Int)+(b:Int)),σ)=_;rw [show (a:Int)+(b:Int)=((a+b:Nat):Int) by exact aT ET];rfl
def ł(e:g σ=aG (u,τ))(h:J0 τ u=aG l)(h':qS DZ l=aG l')(a:aC l<=lim):HM g σ=aG (.lst l',τ):=by unfold HM;rw [e];simp only [bd,h,ob,h'];rw [if_pos a]
end
section
open PySem.Calls
section
variable{n:Nat}{F:Fx}{σ:St}{K:xO}
end
end
section
set_option backward.match.sparseCases false
noncomputable def edB(f:cA->Bool):V->Bool
 |.none=>aU
 |.int _=>aU
 |.str s=>ĵ s
 |.tup l=>f l
 |.lst l=>f l
 |_=>bR
def ed:Nat->V->Bool
 |0=>edB λ_=>bR
 |n+1=>edB λl=>l.all (ed n)
inductive İ(f:cA->Bool):V->Prop
 |none:İ f .none
 |int (i:Int):İ f (.int i)
 |str (s:iS) (h:ĵ s=aU):İ f (.str s)
 |tup (l:cA) (h:f l=aU):İ f (.tup l)
 |lst (l:cA) (h:f l=aU):İ f (.lst l)
theorem edV{f:cA->Bool}:∀{v:V},edB f v=aU->İ f v
 |.none,_=>.none
 |.int i,_=>.int i
 |.str s,h=>.str s h
 |.tup l,h=>.tup l h
 |.lst l,h=>.lst l h
 |.bool _,h=>(nomatch h)
 |.scr _,h=>(nomatch h)
 |.mt _,h=>(nomatch h)
 |.dct _ _,h=>(nomatch h)
 |.set0,h=>(nomatch h)
 |.ref _,h=>(nomatch h)
 |.inst _,h=>(nomatch h)
 |.fn _,h=>(nomatch h)
 |.bm _ _,h=>(nomatch h)
noncomputable def DW(f:List oP->Bool):oP->Bool
 |.bool _=>bR
 |.dict _=>bR
 |.list l=>f l
 |.tuple l=>f l
 |_=>aU
def nb:Nat->oP->Bool
 |0=>DW λ_=>bR
 |n+1=>DW λl=>l.all (nb n)
inductive KN(f:List oP->Bool)(n:Nat)(v:V):Prop
 |mk (p:v.pure=aU) (d:oP) (e:Uf v=aG d) (c:d.canLay0=aU) (k:d.depth<=n) (b:DW f d=aU)
inductive KO(f:List oP->Bool)(n:Nat)(l:cA):Prop
 |mk (p:dH l=aU) (ds:List oP) (e:Zp l=aG ds) (c:KS ds=aU) (k:I7 ds<n) (b:f ds=aU)
def W9{f:cA->Bool}{g:List oP->Bool}(a:∀l,f l=aU->KO g n l)(h:edB f v=aU):KN g n v:=by
 cases edV h with
 |none=>exact ⟨rfl,.none,rfl,rfl,bI _,rfl⟩
 |int i=>exact ⟨rfl,.int i,rfl,rfl,bI _,rfl⟩
 |str s h=>exact ⟨rfl,.str s,rfl,h,bI _,rfl⟩
 |tup l h=>obtain ⟨p,ds,e,c,k,b⟩:=a l h;exact ⟨p,.tuple ds,congrArg (qX _) e,c,by (rw [Ķ];exact k),b⟩
 |lst l h=>obtain ⟨p,ds,e,c,k,b⟩:=a l h;exact ⟨p,.list ds,congrArg (qX _) e,c,by (rw [Ķ];exact k),b⟩
def Az{b:Type}{p:b->Bool}{a:b}{l:List b}(h:(a::l).all p=aU):p a=aU/\l.all p=true:=by rwa[oZ,dT]at h
def RL{f:V->Bool}{g:List oP->Bool}(c:∀v,f v=aU->KN g n v):∀l:cA,l.all f=aU->KO (λl=>l.all (DW g)) (n+1) l:=by
 intro l
 induction l with
 |nil=>intro _;exact ⟨rfl,[],rfl,rfl,by simp [I7],rfl⟩
 |cons a r b=>intro h;obtain ⟨h1,h2⟩:=Az h;obtain ⟨e,d,i,c1,k1,b1⟩:=c a h1;obtain ⟨j,ds,k,c2,k2,m⟩:=b h2;refine ⟨by simp only [fO,eN,e,j,gQ],d::ds,?_,by simp [KS,c1,c2],by simp [I7];exact aT 0xd2c62a41c60520e3124619e8c1003 k1 k2,by rw [oZ,b1,m];rfl⟩;show ob (Uf a) _=_;rw [i];rw [k];rfl
def Ĩ:Nat->List oP->Bool
 |0=>λ_=>bR
 |n+1=>λl=>l.all (nb n)
def ô:∀(n:Nat)(v:V),ed n v=aU->KN (Ĩ n) n v:=by
 intro n
 induction n with
 |zero=>exactλv h=>W9 (λ_ h=>zI h) h
 |succ n a=>refineλv h=>W9 (λl h=>?_) h;have:=RL (a) l h;cases n<;>exact this
@[elab_as_elim] theorem lt3 {P:Nat->Prop} (h:k<3) (a:P 0) (b:P 1) (c:P 2):P k:=by
 cases k with
 |zero=>exact a
 |succ k=>cases k with
  |zero=>exact b
  |succ k=>cases k with
   |zero=>exact c
   |succ k=>exact absurd h (lU.mpr (Nat.le_add_left 3 k))
def V5{f:List oP->Bool}(a:∀l l',f l=aU->f l'=aU->SeqAt.noMixAll l l'=aU):∀x y,DW f x=aU->DW f y=aU->aB4 x y=true:=by intro x y h h';cases x<;>cases y<;>first|rfl|(exact zI h)|(exact zI h')|exact a _ _ h h'
def DU:∀(n:Nat)(x y:oP),DW (Ĩ n) x=aU->DW (Ĩ n) y=aU->aB4 x y=true:=by
 intro n
 induction n with
 |zero=>exact V5 λ_ _ h=>zI h
 |succ n a=>
  refine V5 λl l' h h'=>SeqAt.noMixAll_of_all a l l' (dO.mp ?_) (dO.mp ?_)
  .cases n<;>exact h
  .cases n<;>exact h'
mutual
noncomputable def vd:oP->V
 |.none=>.none
 |.bool b=>.bool b
 |.int i=>.int i
 |.str s=>.str s
 |.list l=>.lst (vdL l)
 |.tuple l=>.tup (vdL l)
 |.dict _=>.none
noncomputable def vdL:List oP->cA
 |[]=>[]
 |d::l=>vd d::vdL l
end
mutual
theorem Sm:∀(a:V)(x:oP),Uf a=aG x->vd x=a
 |.none,x,e=>by cases e;rfl
 |.bool b,x,e=>by cases e;rfl
 |.int i,x,e=>by cases e;rfl
 |.str s,x,e=>by cases e;rfl
 |.tup l,x,e=>by obtain ⟨ds,c,rfl⟩:=bZ.mp e;exact congrArg V.tup (Lp l ds c)
 |.lst l,x,e=>by obtain ⟨ds,c,rfl⟩:=bZ.mp e;exact congrArg V.lst (Lp l ds c)
 |.scr _,_,e=>gG e
 |.mt _,_,e=>gG e
 |.dct _ _,_,e=>gG e
 |.set0,_,e=>gG e
 |.ref _,_,e=>gG e
 |.inst _,_,e=>gG e
 |.fn _,_,e=>gG e
 |.bm _ _,_,e=>gG e
theorem Lp:∀(l:cA)(ds:List oP),Zp l=aG ds->vdL ds=l
 |[],ds,e=>by cases e;rfl
 |a::l,ds,e=>by obtain ⟨d,b,e⟩:=dS e;obtain ⟨r,c,e⟩:=dS e;cases e;exact congr (congrArg List.cons (Sm a d b)) (Lp l r c)
end
def ì(f:DW (Ĩ n) x=aU)(g:DW (Ĩ n) y=aU)(c:Uf a=aG x)(d:Uf b=aG y):Lf x y=aU↔a=b:=by rw [<-SeqAt.same_eq_eqv x y (DU n x y f g),aEj];exact ⟨λe=>by rw [<-Sm a x c,e,Sm b y d],λe=>eR (c.symm.trans ((congrArg Uf e).trans d))⟩
inductive aD4(σ:St)(a a':V):Prop
 |mk (d:oP) (e:Ue σ a=aG d) (f:Uf a'=aG d) (b:DW (Ĩ 64) d=aU)
def Xa(f:rZ uY 0 σ.cells a=aG c)(g:ed 64 c=aU):aD4 σ a c:=by obtain ⟨_,d,e,h,i,b⟩:=ô 64 c g;refine ⟨d,?_,e,b⟩;unfold Ue;rw [f];show ob (Uf c) _=_;rw [e];exact if_pos (by unfold Ux;rw [h,decide_eq_true i];rfl)
def BV{P:Prop}[Decidable P](e:rZ uY 0 σ.cells a=aG c)(f:rZ uY 0 σ.cells b=aG d)(g:ed 64 c=aU)(j:ed 64 d=aU)(i:c=d↔P):D8 a b σ=aG (.bool (decide P),σ)/\W1 a b σ=aG (.bool (!decide P),σ):=by
 obtain ⟨x,k,l,b1⟩:=Xa e g;obtain ⟨y,m,n,o⟩:=Xa f j;have h:Lf x y=decide P:=by rw [Lj,ì b1 o l n,i,decide_eq_true_iff]
 unfold D8 W1;rw [k,m,<-h];exact ⟨rfl,rfl⟩
def RE(n:Nat):∀l:bE,(l.map V.int).all (ed n)=true:=by
 intro x0
 induction x0 with
 |nil=>exact rfl
 |cons a r b=>simp only [cE,oZ,b,Bool.and_true];cases n<;>rfl
def IN(n:Nat)(l:bE):ed (n+1) (vL l)=true:=RE n l
def BX(a b:Int):D8 (.int a) (.int b) σ=aG (.bool (decide (a=b)),σ):=by rfl
def Nt(a n:Nat):(max 0 (min (if (a:Int)<0 then (a:Int)+n else a) n)).toNat=min a n:=by
 rw [if_neg (R4.mpr (iY a))];rcases Z8 a n with h|h
 .rw [Ľ (qO.mpr h),Og h,ğ (iY _),mY]
 .rw [Ğ (qO.mpr h),Ai h,ğ (iY _),mY]
def MV{c:Type}{l:List c}{a b:Nat}:pySl l (aG (a:Int)) (aG (b:Int))=(l.drop a).take (b-a):=by show (l.drop (max 0 (min (if (a:Int)<0 then (a:Int)+aC l else a) (aC l))).toNat).take ((max 0 (min (if (b:Int)<0 then (b:Int)+aC l else b) (aC l))).toNat-(max 0 (min (if (a:Int)<0 then (a:Int)+aC l else a) (aC l))).toNat)=_;rw [Nt,Nt,<-ĺ,<-ĺ,<-List.take_eq_take_min];exact Bq.trans (by rw [Nat.min_assoc,Ai (List.length_take_le' b l),<-Bq])
def MW{b:Type}{l:List b}{a:Nat}:pySl l (aG (a:Int)) aH=l.drop a:=by show (l.drop (max 0 (min (if (a:Int)<0 then (a:Int)+aC l else a) (aC l))).toNat).take (aC l-(max 0 (min (if (a:Int)<0 then (a:Int)+aC l else a) (aC l))).toNat)=_;rw [Nt,<-Bq,tA (by rw [kE];exact Nat.sub_le_sub_left (Of _ _) _)]
def HF{a:Type}{l:List a}(d:a)(h:i<aC l):l[i]?=aG (l.getD i d):=by rw [bO h,aY,bO h];rfl
def Ft{a b:Type}{f:a->b}{l:List a}(d:a)(h:i<aC l):(l.map f)[i]?=aG (f (l.getD i d)):=by rw [dL,HF d h];rfl
end
section
set_option backward.match.sparseCases false
noncomputable def vV:Expr->Bool
 |.Starred _ _=>bR
 |_=>aU
def Kc(h:vV e=aU):eD (e::es) env=(bR,eval e env)::eD es env:=by cases e<;>first|rfl|cases h
end
section
variable{n:Nat}{F:Fx}{tab:List (Nat×iS)}
def lc(T:tY F tab)(i:Nat)(h:tab[i]?=aG (x,s):=by rfl)(hd:(s== ("__debug__":iS))=false:=by decide):iP n F (.Name s a) (aP x):=dA T (aJ h) hd
def lg(T:tY F tab)(i:Nat)(h:tab[i]?=aG (x,s):=by rfl):Dg n F (.Name s a) (cG x):=rD T (aJ h)
def ic(x:iP n F e g)(y:xH n F a es h)(b:vV e=true:=by rfl):xH n F a (e::es) (aS g h):=fN x y (Kc b)
def ig{g:V->St->Option St}{gs:List (V->St->Option St)}(x:Dg n F e g)(y:J3 n F es gs)(a:pF (e::es) F.env=(bR,assign e F.env)::pF es F.env:=by rfl):J3 n F (e::es) (g::gs):=eX x y a
end
section
set_option backward.match.sparseCases false
def llc{b:Type}{n:Nat}{P:List b->Prop}(k:∀a vs,aC vs=n->P (a::vs))(vs:List b)(h:aC vs=n+1):P vs:=by
 cases vs with
 |nil=>cases h
 |cons a r=>exact k a r (Nat.succ.inj h)
def ll0{a:Type}{P:List a->Prop}(k:P [])(vs:List a)(h:aC vs=0):P vs:=uK h▸k
def VY{b:Type}{P:List b->Prop}(k:∀a,P [a]):∀vs:List b,aC vs=1->P vs:=llc λa=>ll0 (k a)
def VX{c:Type}{P:List c->Prop}(k:∀a b,P [a,b]):∀vs:List c,aC vs=2->P vs:=llc λa=>VY (k a)
def ll3{d:Type}{P:List d->Prop}(k:∀a b c,P [a,b,c]):∀vs:List d,aC vs=3->P vs:=llc λa=>VX (k a)
def ll4{e:Type}{P:List e->Prop}(k:∀a b c d,P [a,b,c,d]):∀vs:List e,aC vs=4->P vs:=llc λa=>ll3 (k a)
def ll5{f:Type}{P:List f->Prop}(k:∀a b c d e,P [a,b,c,d,e]):∀vs:List f,aC vs=5->P vs:=llc λa=>ll4 (k a)
def fA{b:Type}{P:b->Prop}{a:b}{l:List b}(h:P a)(t:∀x∈l,P x):∀x∈a::l,P x:=AT.mpr ⟨h,t⟩
noncomputable def FZ:Option sK->Bool
 |some .local=>aU
 |_=>bR
def FY{x:Option sK}(h:FZ x=aU):x=aG .local:=by
 cases x with
 |none=>cases h
 |some k=>cases k<;>first|rfl|cases h
def lH.ofC{fd:sL}{tab:lT}(cs:lT)(h:(!fd.scope.isCoroutine&& (!fd.scope.isGenerator&& (decide (fd.scope.kind=.function)&& (fd.closure.isEmpty&& (decide tab.Nodup&&tab.all λs=>FZ (fd.scope.names.lookup s)||cs.contains s)))))=aU)
  (a:∀s∈cs,fd.scope.names.lookup s=aG .cell/\∀n,((nD n fd.scope.names []).lookup s).isSome=aU):lH fd tab:=by
 simp only [dT,Bool.not_eq_true',decide_eq_true_eq,List.isEmpty_iff,dO,ģ]at h;obtain ⟨h1,h2,h3,h4,h5,h6⟩:=h;exact ⟨h1,h2,h3,h4,h5,λs b=>(h6 s b).imp FY λz=>a s (List.contains_iff_mem.mp z)⟩
def lH.of{fd:sL}{tab:lT}(h:(!fd.scope.isCoroutine&& (!fd.scope.isGenerator&& (decide (fd.scope.kind=.function)&& (fd.closure.isEmpty&& (decide tab.Nodup&&tab.all λs=>FZ (fd.scope.names.lookup s)|| [].contains s)))))=aU):lH fd tab:=.ofC [] h λ_ h=>nomatch h
end
section
variable{n:Nat}{F:Fx}{tab:List (Nat×iS)}
def yQ(gc:M Bool)(gb:M cA):M cA:=λσ=>bd (gc σ) λt σ=>match t with
 |true=>gb σ
 |false=>aG ([],σ)
def WP{c:Expr}{b:Ag Unit}(x:Z1 n F c gc)(z:∀σ xs σ',gb σ=aG (xs,σ')->CB n F a b σ xs σ')(e:yQ gc gb σ=aG (xs,σ')):
  CB n F a (isTrue c F.env (eval c F.env)>>=λok=>if ok=aU then b else pure ()) σ xs σ':=by
 obtain ⟨t,σ₁,o,e⟩:=eJ e;intro A X D h tk l ok f g p m s v;refine aK (TW.at (x _ _ _ o) ok m bN.nil ?_);rintro u h₁ i D₁ _ _ st j r ⟨rfl,rfl⟩;have k:=s.on m f g st;have y:t=u:=r;subst y
 cases t with
 |true=>refine (?_:bW iC A b _ _ _);refine bK (z _ _ _ e A X D₁ h₁ i l ok f g p j k v) (λ_ I q=>?_) λ_ _ q=>q;obtain ⟨h',B,D',C,G,H,d⟩:=q;exact ⟨h',B,D',C,st.zx.trans G,H,d⟩
 |false=>refine Ck e ?_;rintro rfl rfl;refine (?_:bW iC A (pure ()) _ _ _);refine aW ⟨h₁,i,D₁,rfl,st.zx,j,?_⟩;rw [dI];exact k
theorem E2(d t0 e c:Expr)(scope:Dj)(f:ķ)(b:bL)(a:cR)(env:ľ):compTurn (.ListComp d [⟨t0,e,[c],0⟩] scope f) 0 b (.ref a) env=(gB e.pos>>=λ_=>pyNext b>>=λr=>match r with
   |none=>pure (.done .next)
   |some v=>iH t0 b v>>=λ_=>assign t0 env v>>=λ_=>(isTrue c env (eval c env)>>=λok=>if ok=aU then (eval d env>>=λx=>call (.builtin "list.append") [.ref a,x]>>=λ_=>pure ())else pure ())>>=λ_=>again (.compLoop (.ListComp d [⟨t0,e,[c],0⟩] scope f) 0 b (.ref a) env)):=by
 unfold compTurn;dsimp only [List.getElem?_cons_zero];simp only [oU,Ĺ,bind_assoc,pure_bind,if_true,bne_self_eq_false,lO,if_false]
 congr 1;funext _;congr 1;funext r
 cases r with
 |none=>rfl
 |some v=>
  dsimp only
  congr 1;funext _;congr 1;funext _;congr 1;funext ok
  cases ok
  .simp
  .simp
def PZ{gt:V->St->Option St}
  (T:tY F tab) (e:∀x q,lk F.bnd x=aG q->x<base) (f:names≠[]) (g:names.Nodup)
  (h:∀x,foldedSetIterable b F.env x=pure x) (i:(scope.names.all λx=> !(x.2==.free)|| (F.env.cells.lookup x.1).isSome)=aU) (j:(scope.names.all λy=>y.2 != .cell)=aU) (k:scope.kind=.function)
  (l:(scope.names.all λy=>y.2 != .local||scope.names.lookup y.1==aG .local)=aU) (m:yS F scope tab cap) (o:yR F scope names)
  (x:Rz n F b p) (y:∀C,tY (nM F scope (gW scope F.env) C base names) (cap++Ar base names)->Dg n (nM F scope (gW scope F.env) C base names) t0 gt)
  (u:∀C,tY (nM F scope (gW scope F.env) C base names) (cap++Ar base names)->Z1 n (nM F scope (gW scope F.env) C base names) c gc)
  (z:∀C,tY (nM F scope (gW scope F.env) C base names) (cap++Ar base names)->iP n (nM F scope (gW scope F.env) C base names) d r):
  iP n F (.ListComp d [⟨t0,b,[c],0⟩] scope s) (lI base p gt (yQ gc (kD r))):=
 Kv (body:=λC a=>isTrue c (fC scope (gW scope F.env) C F.env) (eval c (fC scope (gW scope F.env) C F.env))>>=λok=>if ok=aU then (eval d (fC scope (gW scope F.env) C F.env)>>=λx=>call (.builtin "list.append") [.ref a,x]>>=λ_=>pure ())else pure ())
  T e f g rfl rfl h i j k l m o (λC a I=>E2 d t0 b c scope s (.ref I) a (fC scope (gW scope F.env) C F.env)) x y (λC a T1 _ _ _ q=>WP (u C T1) (λ_ _ _ q=>C6 T1.fk (z C T1) q) q)
end
section
variable{n:Nat}{F:Fx}{tab:List (Nat×iS)}
end
section
variable{n:Nat}{F:Fx}
end
section
variable{n:Nat}{F:Fx}
end
section
variable{n:Nat}{F:Fx}
end
section
variable{n:Nat}{F:Fx}
end
def uS:cA->Option bE
 |[]=>aG []
 |v::r=>ob (B6 v) λi=>ob (uS r) λl=>aG (i::l)
def Qg{Y:gI}:∀{l:cA}{ns:bE}{xs:eW},uS l=aG ns->bN D Y h l xs->IntsAre xs ns:=by
 intro l
 induction l with
 |nil=>intro ns xs e r;cases r;cases e;exact .nil
 |cons v l a=>intro ns xs e r;obtain ⟨x,us,rfl,b,c⟩:=r;revert b;refine tV e ?_;clear e;intro i e;rintro ⟨t,rfl⟩;replace e:=dS e;obtain ⟨l',d,e⟩:=e;cases e;exact .cons i t (a d c)
noncomputable def NW:bE->Option Int
 |[]=>aH
 |a::r=>aG (r.foldl min a)
def V9:∀{ns:bE}{m:Int},m∈ns->(∀a∈ns,m<=a)->NW ns=aG m:=by
 intro ns m d i;have j:∀(r:bE)(a:Int),(∀x∈a::r,m<=x)->m∈a::r->r.foldl min a=m:=by
  intro r
  induction r with
  |nil=>intro a _ h;exact (aM.mp h).symm
  |cons b r k=>
   intro a h1 h2;have f:=h1 a aQ;have g:=h1 b (aO _ aQ);refine k (min a b) (λx c=>?_) ?_
   .rcases aR.mp c with e|c
    .exact e▸Int.le_min.mpr ⟨f,g⟩
    .exact h1 x (aO _ (aO _ c))
   .rcases aR.mp h2 with e|h2
    .rw [Ľ (e▸g)];exact e▸aQ
    .rcases aR.mp h2 with e|h2
     .rw [Ğ (e▸f)];exact e▸aQ
     .exact aO _ h2
 cases ns with
 |nil=>cases d
 |cons a r=>exact congrArg aG (j r a i d)
def ø:mU:=λus σ=>aI (λa=>aI λb=>aN (aG (.int (if b<a then b else a),σ))) us
def Xb:mU:=λus σ=>aV (λa=>aN (ob (Zw σ a) λl=>ob (uS l) λns=>ob (NW ns) λm=>aG (.int m,σ))) us
def õ:mU:=λus σ=>aV (λa=>aN (ob (Zw σ a) λl=>ob (uS l) λns=>aG (.int ns.sum,σ))) us
def T6:V->V->M V:=LF λa b σ=>if 0<=b/\b<=1000000/\a.natAbs<2^64 then aG (.int (a^b.toNat),σ)else aH
def HW:V->V->M V:=λa b σ=>ob (Zw σ a) λl=>ob (Zw σ b) λl'=>if aC l+aC l'<=lim then aG (.lst (l++l'),σ)else aH
def yP:V->V->M V:=λa b σ=>ob (B6 b) λi=>ob (Zw σ a) λl=>if i= -1/\aC l<=lim then (l.getLast?).map λd=>(d,σ)else aH
section
variable{n:Nat}{F:Fx}
def NK:A0 n F (.builtin "min") ø:=λus σ r σ' e=>by
 refine xG e λa _ e=>?_;refine xG e λb _ e=>?_;refine mT e λe=>?_;intro A X D h tk vs ok m r;obtain ⟨_,_,rfl,⟨t,rfl⟩,_,_,rfl,⟨g,rfl⟩,d⟩:=r;cases d;refine min_two_ints ok.hd λh' f c=>⟨h',f,D,σ,_,rfl,mZ.grow c,m.grow c,?_,.of e⟩;by_cases q:b<a
 .rw [if_pos q,if_pos q];exact jX
 .rw [if_neg q,if_neg q];exact jX
def NJ:A0 n F (.builtin "sum") õ:=λus σ r σ' e=>by
 refine oC e λv _ e=>?_;refine mT e λe=>?_;refine nn λb=>?_;obtain ⟨l,i,e⟩:=dS e;obtain ⟨ns,j,e⟩:=dS e;refine b ?_;intro A X D h tk x ok m r;obtain ⟨u,_,rfl,k,o⟩:=r;cases o;obtain ⟨a,xs,rfl,c,p⟩:=T4 m i k;have hi:=Qg j p;refine nn λb=>?_;obtain ⟨d,f⟩:=hi.allInts.items;refine b ?_;simp only [f]at c;refine sum_intListG ok.hd c λh' s y g=>⟨h',s,D,σ,_,rfl,mZ.grow g,m.grow g,?_,.of e⟩;have t:preSum (numAt d) d.size=ns.sum:=by rw [preSum_eq,tA (by simp),<-nums_intItems];refine f▸?_;rw [hi.numsOf]
 refine t▸?_;exact jX
def DI:A0 n F (.builtin "min") Xb:=λus σ r σ' e=>by
 refine oC e λv _ e=>?_;refine mT e λe=>?_;refine nn λo=>?_;obtain ⟨l,I,e⟩:=dS e;obtain ⟨ns,J,e⟩:=dS e;refine o ?_;replace e:=dS e;obtain ⟨k,f,e⟩:=e;intro A X D h tk R ok m r;obtain ⟨u,_,rfl,L,N⟩:=r;cases N;obtain ⟨a,xs,rfl,z,O⟩:=T4 m I L;have hi:=Qg J O;refine nn λo=>?_;obtain ⟨c,B⟩:=hi.allInts.items;refine o ?_;have p:ns=c.toList.map (·.1):=by refine hi.numsOf▸?_;rw [<-nums_intItems,<-B]
 have C:0<c.size:=by
  cases ns with
  |nil=>exact nomatch f
  |cons b r=>have h3:=congrArg aC p;simp only [bB]at h3;have h4:c.toList.length=c.size:=qP;exact aT 0x58c54232c4158507003 h3 h4
 simp only [B]at z;refine min_intList ok.hd z C λv h' P s G=>⟨h',P,D,σ,_,rfl,mZ.grow G,m.grow G,?_,.of e⟩;replace s:=intItems_at s;obtain ⟨t,rfl⟩:=s;obtain ⟨h1,h2⟩:=argBest_lt (numAt c) (c.size-1);have x:∀j,j<c.size->numAt c j∈ns:=λj d=>by rw [p];refine jJ.mpr ⟨c[j]'d,Array.getElem_mem_toList _,?_⟩;simp [numAt,d]
 have:NW ns=aG (numAt c (argBest (λi j=>decide (numAt c i<numAt c j)) (c.size-1))):=by
  refine V9 (x _ (by exact aT UZ C h1)) λa g=>?_;rw [p]at g;replace g:=jJ.mp g;obtain ⟨y,Q,rfl⟩:=g;obtain ⟨j,d,rfl⟩:=jO Q;have H:j<c.size:=by exact d
  have:=h2 j (by exact aT Tp H);refine (by simp [numAt,H]:numAt c j=(c.toList[j]'d).1)▸?_;exact this
 replace f:=this▸f;cases f;exact jX
def W0:Ei n F (binaryOp .Pow) T6:=yG λa b σ v σ' e=>by obtain ⟨h,e⟩:=iB e;exact sS λA X D h' tk t c ok m=>aEk h.1 h.2.1 h.2.2 (fS m jX (.of e))
def HV:Ei n F (binaryOp .Add) HW:=λa b σ v σ' e=>by refine nn λd=>?_;obtain ⟨l,z,e⟩:=dS e;obtain ⟨l',B,e⟩:=dS e;obtain ⟨C,e⟩:=iB e;refine d ?_;refine oV λA X D h tk u v ok m f G=>?_;replace f:=T4 m z f;obtain ⟨x,xs,rfl,H,j⟩:=f;obtain ⟨y,k,rfl,I,o⟩:=T4 m B G;refine nn λd=>?_;obtain ⟨⟨cls,J,data,L⟩,p,r,n,hd⟩:=id H;obtain ⟨⟨N,g,data2,i⟩,c,s,O,t⟩:=id I;refine d ?_;simp only at r hd s t;subst r hd s t;refine concat_meets ⟨_,p,rfl⟩ ⟨_,c,rfl⟩ noFill_list_add seq_list_add PySem.F.slot_list_add PySem.F.entry_list_add (PySem.F.args_list_add_2 _ _) (list_addW x y xs.toArray k.toArray n O J g L i (by simp [j.length,o.length];exact bV C nL)) ⟨p,c,?_⟩;refine ⟨_,tk,D,σ,.lst (l++l'),rfl,mZ.grow (cY _ _),m.grow (cY _ _),?_,.of e⟩;refine wR m (eE _) (cY _ _) ⟨0,?_⟩ (j.append o);have:=A9 h (xs.toArray++k.toArray);simpa using this
def zV(k:∀o i,subscripted p bR o i=operate [o,i] (getItem o i)):Ei n F (subscriptTail value p) yP:=λa b σ v σ' e=>by refine tV e λi e=>?_;obtain ⟨l,r,q⟩:=dS e;clear e;obtain ⟨s,z⟩:=iB q;clear q;obtain ⟨d,c,B⟩:=bZ.mp z;obtain ⟨hi,J⟩:=s;subst hi;refine oV λA X D h tk u L ok m C G=>?_;obtain ⟨x,xs,rfl,f,g⟩:=T4 m r C;obtain ⟨t,rfl⟩:=G;rw [List.getLast?_eq_getElem?]at c;obtain ⟨y,H,I⟩:=g.get c;have j:=g.length;refine tail_any f.typeIs slot_list_getitem.lookup (wpAny_getItem_list_neg f (by decide) (by simp;exact aT 0x34636a88eb08941003 ((cF.mp c).1) j) (by decide) ?_ (fS m I (.of (congrArg aG (eR (congrArg aG B)))))) (k _ _);refine (show ((-1:Int)+(xs.toArray).size).toNat=aC l-1 by simp;exact aT 0x24838b20824c88b2a8c56102c439ecc6454543ccc7002 j)▸?_;simpa using H
end
def QN:V->V->M V:=λa b σ=>ob (B6 a) λk=>ob (JZ b) λp=>aG (.bool ((p.1.zip p.2).lookup k).isSome,σ)
def Bi:V->V->M V:=λa b σ=>ob (JZ a) λp=>ob (B6 b) λk=>ob ((p.1.zip p.2).lookup k) λv=>aG (v,σ)
section
variable{n:Nat}{F:Fx}
def W2:Ei n F (compareOp .In) QN:=λa b σ v σ' e=>by
 refine tV e λk e=>?_;refine Vy e λks vs e=>?_;refine oV λA X D h tk u s ok m i j=>?_;obtain ⟨t,rfl⟩:=i;obtain ⟨d,xs,rfl,x,l,o⟩:=j;obtain ⟨p,f,df,r⟩:=kG.mp l;refine wpAny_in_intMap df.map ?_;have c:(f k).isSome=((ks.zip vs).lookup k).isSome:=by
  rw [r];rcases Lk k o p with ⟨v,z,g,c,y⟩|⟨g,c⟩
  .simp [g,c]
  .simp [g,c]
 rw [c];exact fS m nW (.of e)
def xB(l:∀o i,subscripted p bR o i=operate [o,i] (getItem o i)):Ei n F (subscriptTail value p) Bi:=λa b σ v σ' e=>by
 refine Vy e λks vs e=>?_;refine tV e λk e=>?_;obtain ⟨y,c,e⟩:=dS e;refine oV λA X D h tk u I ok m r s=>?_;obtain ⟨t,rfl⟩:=s;obtain ⟨d,xs,rfl,J,x,B⟩:=r;obtain ⟨C,f,df,G⟩:=kG.mp x;rcases Lk k B C with ⟨v,z,g,j,H⟩|⟨g,j⟩
 .rw [g]at c;cases c;exact tail_any df.map.typeIs slot_dict_getitem.lookup (wpAny_getItem_intMap df.map ((G k).trans j) (fS m H (.of e))) (l _ _)
 .rw [g]at c;cases c
end
noncomputable def D4(F:Fx)(scope:Dj)(cl:List (iS×cR))(C c:cR)(base:Nat)(nm:iS):Fx where
 env:=fC scope ((nm,c)::cl) C F.env
 bnd:=F.bnd++[(base,.cel c,nm),(base+1,.loc C,nm)]
 Z:=C::c::F.Z
 B:=F.B
section
variable{F:Fx}{scope:Dj}{cl:List (iS×cR)}{C c:cR}{base:Nat}{nm:iS}
def Fz(b:∀x q,lk F.bnd x=aG q->x<base)(e:lk (D4 F scope cl C c base nm).bnd x=aG (p,s)):lk F.bnd x=aG (p,s)\/(base<=x/\s=nm/\(p=.cel c\/p=.loc C)):=by
 have a:lk (F.bnd++[(base,.cel c,nm),(base+1,.loc C,nm)]) x=aG (p,s):=e;rw [mQ]at a;try clear e
 cases q:lk F.bnd x with
 |some v=>rw [q]at a;exact .inl a
 |none=>
  replace a:=q▸a;simp only [eP,fL]at a;split at a
  .cases a;exact .inr ⟨by exact aT 0x1462900561002 ‹_›,rfl,.inl rfl⟩
  .split at a
   .cases a;exact .inr ⟨by exact aT 0x518a4015a0e1002 ‹_›,rfl,.inr rfl⟩
   .cases a
def M3(e:lk F.bnd x=aG q):lk (D4 F scope cl C c base nm).bnd x=aG q:=by refine (?_:lk (F.bnd++[(base,.cel c,nm),(base+1,.loc C,nm)]) x=aG q);simp only [mQ,e]
def Wr(a:∀x q,lk F.bnd x=aG q->x<base):lk (D4 F scope cl C c base nm).bnd base=aG (.cel c,nm)/\lk (D4 F scope cl C c base nm).bnd (base+1)=aG (.loc C,nm):=by
 constructor
 .refine (?_:lk (F.bnd++[(base,.cel c,nm),(base+1,.loc C,nm)]) base=_);rw [mQ]
  cases q:lk F.bnd base with
  |some v=>exact absurd (a _ _ q) (eG _)
  |none=>simp [eP]
 .refine (?_:lk (F.bnd++[(base,.cel c,nm),(base+1,.loc C,nm)]) (base+1)=_);rw [mQ]
  cases q:lk F.bnd (base+1)with
  |some v=>exact absurd (a _ _ q) (lU.mpr (jW _))
  |none=>simp [eP]
def Ks(b:∀x q,lk F.bnd x=aG q->x<base):∀x q,lk (D4 F scope cl C c base nm).bnd x=aG q->x<base+2:=λx v e=>by
 have a:lk (F.bnd++[(base,.cel c,nm),(base+1,.loc C,nm)]) x=aG v:=e;simp only [mQ]at a
 cases q:lk F.bnd x with
 |some v=>have:=b _ _ q;exact aT 0x6315234608141002 this
 |none=>
  replace a:=q▸a;simp only [eP,fL]at a;split at a
  .exact aT 0x6315234608161002 ‹_›
  .split at a
   .exact aT 0x18c548d18205a0e1002 ‹_›
   .cases a
def Ò(fk:hO F)(i:scope.kind=.function)(j:C∉F.Z)(k:c∉F.Z)(g:C≠c)(b:∀x q,lk F.bnd x=aG q->x<base):hO (D4 F scope cl C c base nm)where
 kind:=i
 inZ:=λx p s e=>by
  rcases Fz b e with q|⟨_,_,rfl|rfl⟩
  .exact aO _ (aO _ (fk.inZ x p s q))
  .exact aO _ aQ
  .exact aQ
 dist:=λx y p s l m e a o=>by
  have h:∀x p s,lk (D4 F scope cl C c base nm).bnd x=aG (p,s)->lk F.bnd x=aG (p,s)\/(x=base/\p=.cel c)\/(x=base+1/\p=.loc C):=λx p s e=>by
   rcases Fz b e with q|⟨h1,h2,h3⟩
   .exact .inl q
   .have a:lk (F.bnd++[(base,.cel c,nm),(base+1,.loc C,nm)]) x=aG (p,s):=e;simp only [mQ]at a
    cases q:lk F.bnd x with
    |some v=>have:=b _ _ q;omega
    |none=>
     replace a:=q▸a;simp only [eP,fL]at a;try clear b;try clear h1;try clear h2;try clear h3
     split at a
     .rename_i f;cases a;exact .inr (.inl ⟨f,rfl⟩)
     .split at a
      .rename_i f;cases a;exact .inr (.inr ⟨f,rfl⟩)
      .cases a
  have d:∀x p s,lk F.bnd x=aG (p,s)->p.adr≠C/\p.adr≠c:=λx p s q=>⟨λz=>j (z▸fk.inZ x p s q),λz=>k (z▸fk.inZ x p s q)⟩;rcases h _ _ _ e with q|⟨t,rfl⟩|⟨t,rfl⟩<;>rcases h _ _ _ a with r|⟨u,rfl⟩|⟨u,rfl⟩
  .exact fk.dist x y p s l m q r o
  .exact .inl (d _ _ _ q).2
  .exact .inl (d _ _ _ q).1
  .exact .inl λz=>(d _ _ _ r).2 z.symm
  .omega
  .exact .inl λz=>g z.symm
  .exact .inl λz=>(d _ _ _ r).1 z.symm
  .exact .inl g
  .omega
def PS(T:tY F tab)(e:scope.kind=.function)(f:C∉F.Z)(g:c∉F.Z)(i:C≠c)(a:∀x q,lk F.bnd x=aG q->x<base)
  (j:∀p∈cap,p∈tab/\F.env.kindOf p.2=aG .cell/\(relabel scope F.env).names.lookup p.2=aG .cell/\((nm,c)::cl).lookup p.2=F.env.cells.lookup p.2)
  (k:(relabel scope F.env).names.lookup nm=aG .cell):tY (D4 F scope cl C c base nm) (cap++[(base,nm)])where
 fk:=Ò T.fk e f g i a
 ok:=λx s h=>by
  rcases cU.mp h with h|h
  .obtain ⟨h1,h2,h3,h4⟩:=j _ h;obtain ⟨p,b,d⟩:=T.ok x s h1;refine ⟨p,M3 b,?_⟩;clear b
   cases p with
   |loc L=>have:=d.2;replace this:=h2▸this;cases this
   |cel c=>exact ⟨h3,by simp only [<-d.2];exact h4⟩
  .cases aM.mp h;exact ⟨.cel c,(Wr a).1,k,by simp [D4,fC]⟩
end
section
variable{n:Nat}{F:Fx}
def gU.intoC{X:gI}{base:Nat}(m:gU F X D σ h)(H:∀x q,lk F.bnd x=aG q->x<base)(g:∀b o,h.get? b=aG o->h'.get? b=aG o)(j:h.get? C=aH)(k:h.get? c=aH){y:iS->Option bL}(z:h'.Ns C y)(A:h'.IsCell c I):gU (D4 F scope cl C c base nm) X D σ h':=by
 have B:∀a,Yf (D4 F scope cl C c base nm) X D a->Yf F X D a\/h.get? a=aH:=λa q=>by
  rcases q with q|q|q
  .rcases aR.mp q with q|q
   .exact .inr (q▸j)
   .rcases aR.mp q with q|q
    .exact .inr (q▸k)
    .exact .inl (.inl q)
  .exact .inl (.inr (.inl q))
  .exact .inl (.inr (.inr q))
 have G:∀d v,fW D (Yf F X D) h d v->fW D (Yf (D4 F scope cl C c base nm) X D) h' d v:=λd v=>fW.step (λb o e _=>g b o e) (λ_ _ e=>e) B d v;refine ⟨λb o e=>g b o (m.fb b o e),λx v e=>?_,λx p s e=>?_,λi c e=>?_,m.inj,λi a e=>?_,λa e=>?_,λa e=>?_⟩
 .obtain ⟨p,s,u,r,t,J⟩:=m.loc x v e;exact ⟨p,s,u,M3 r,t.keep λo=>g _ o,G _ _ J⟩
 .rcases Fz H e with q|⟨_,_,rfl|rfl⟩
  .exact (m.frm x p s q).keep λo=>g _ o
  .exact ⟨I,A⟩
  .exact ⟨y,z⟩
 .obtain ⟨a,r,t⟩:=m.cel i c e;exact ⟨a,r,t.on G (λd v=>bN.step (λb o e _=>g b o e) (λ_ _ e=>e) B d v) λo=>g _ o⟩
 .obtain ⟨a1,l,L,⟨o,f⟩,N⟩:=m.sep i a e;refine ⟨λq=>?_,l,L,⟨o,g _ _ f⟩,N⟩;rcases aR.mp q with q|q
  .replace f:=q▸f;replace f:=j▸f;cases f
  .rcases aR.mp q with q|q
   .replace f:=q▸f;replace f:=k▸f;cases f
   .exact a1 q
 .rcases aR.mp e with q|q
  .subst q;refine ⟨?_,(let ⟨o,_,_,e,_⟩:=z;⟨o,e⟩)⟩
   cases q:F.B.1.get? a with
   |none=>first|rfl|exact q
   |some o=>replace j:=(m.fb a o q)▸j;cases j
  .rcases aR.mp q with q|q
   .subst q;refine ⟨?_,(let ⟨o,e,_⟩:=A;⟨o,e⟩)⟩
    cases q:F.B.1.get? a with
    |none=>first|rfl|exact q
    |some o=>replace k:=(m.fb a o q)▸k;cases k
   .obtain ⟨a1,o,l⟩:=m.zfr a q;exact ⟨a1,o,g _ _ l⟩
 .obtain ⟨o,l⟩:=m.xal a e;exact ⟨o,g _ _ l⟩
def vC.upC{X:gI}(wk:vC F A X D h I ds)(g:∀b o,h.get? b=aG o->h'.get? b=aG o)(j:h.get? a=aH)(p:h.get? C=aH)(r:h.get? c=aH):vC (D4 F scope cl C c base nm) A (gR [a] X) D h' I ds:=by
 obtain ⟨y,z,B,s,P,Sx,T,W,t,G,u,x,H⟩:=wk;have f:∀b o c,h.get? b=aG o->h.get? c=aH->b≠c:=λb o c e J q=>by rw [q,J]at e;exact gG e
 obtain ⟨oI,k,_⟩:=t 0 h u;have al:∀b∈s,tI h b:=λb d=>by
  rcases x b d with zq|⟨_,_,_,q⟩
  .exact zq▸(⟨_,k⟩)
  .exact q
 have l:∀b o,h.get? b=aG o->b∈C::c::F.Z->b∈F.Z:=λb o e q=>by
  rcases aR.mp q with q|q
  .exact absurd q (f _ _ _ e p)
  .rcases aR.mp q with q|q
   .exact absurd q (f _ _ _ e r)
   .exact q
 refine ⟨λq=>y (l _ _ k q),λq=>?_,B,s,P,Sx,T,W,t,G,W.frame _ _ _ u λb d o e=>g b o e,λb d=>?_,λi v D' Y' L hi N O Q=>H i v D' Y' L hi N (λb o e d=>O b o (g b o e) λq=>?_) λb d=>?_⟩
 .rcases q with q|q
  .exact f _ _ _ k j (aM.mp q)
  .exact z q
 .refine (x b d).imp id λ⟨R,Y,Z,o,m⟩=>⟨λq=>R (l _ _ m q),λq=>?_,Z,o,g _ _ m⟩;rcases q with q|q
  .exact f _ _ _ m j (aM.mp q)
  .exact Y q
 .rcases q with q|q|q
  .exact d (.inl (l _ _ e q))
  .rcases q with q|q|q
   .exact d (.inr (.inl (jR q)))
   .exact f _ _ _ e j (aM.mp q)
   .exact d (.inr (.inl (jQ q)))
  .exact d (.inr (.inr q))
 .rcases Q b d with q|q
  .rcases q with q|q|q
   .rcases aR.mp q with q|q
    .exact .inr (q▸p)
    .rcases aR.mp q with q|q
     .exact .inr (q▸r)
     .exact .inl (.inl q)
   .rcases q with q|q|q
    .exact .inl (.inr (.inl (jR q)))
    .exact .inr (by refine (aM.mp q)▸?_;exact j)
    .exact .inl (.inr (.inl (jQ q)))
   .exact .inl (.inr (.inr q))
  .refine .inr ?_
   cases q':h.get? b with
   |none=>rfl
   |some o=>rw [g b o q']at q;exact De q
def gU.outC{X:gI}{base:Nat}(fk:hO F)(r:∀x q,lk F.bnd x=aG q->x<base)(m:gU (D4 F scope cl C c base nm) X D σ h):gU F (gR [C,c] X) D (Ec base σ) h:=by
 have g:∀b,b∈[C,c]->b∈C::c::F.Z:=λb q=>by
  rcases aR.mp q with q|q
  .exact q▸aQ
  .refine (aM.mp q)▸?_;exact aO _ aQ
 have l:∀a,Yf F (gR [C,c] X) D a->Yf (D4 F scope cl C c base nm) X D a\/h.get? a=aH:=λa q=>by
  rcases q with q|q|q
  .exact .inl (.inl (aO _ (aO _ q)))
  .rcases q with q|q
   .exact .inl (.inl (g _ q))
   .exact .inl (.inr (.inl q))
  .exact .inl (.inr (.inr q))
 have o:∀d v,fW D (Yf (D4 F scope cl C c base nm) X D) h d v->fW D (Yf F (gR [C,c] X) D) h d v:=λd v=>fW.step (λ_ _ e _=>e) (λ_ _ e=>e) l d v;refine ⟨m.fb,λx v e=>?_,λx p s e=>m.frm x p s (M3 e),λi c e=>?_,m.inj,λi a e=>?_,λa e=>m.zfr a (aO _ (aO _ e)),λa e=>?_⟩
 .have f:lk (Ed base σ.loc) x=aG v:=e;simp only [Mu]at f;split at f
  .rename_i G;obtain ⟨p,s,u,j,k,t⟩:=m.loc x v f;rcases Fz r j with q|⟨q,_,_⟩
   .exact ⟨p,s,u,q,k,o _ _ t⟩
   .omega
  .exact gG f
 .obtain ⟨a,j,k⟩:=m.cel i c e;exact ⟨a,j,k.on o (λd v=>bN.step (λ_ _ e _=>e) (λ_ _ e=>e) l d v) λ_ e=>e⟩
 .obtain ⟨a1,y,z,A,B⟩:=m.sep i a e;refine ⟨λq=>a1 (aO _ (aO _ q)),λq=>?_,z,A,B⟩;rcases q with q|q
  .exact a1 (g _ q)
  .exact y q
 .rcases e with e|e
  .exact (m.zfr a (g _ e)).2
  .exact m.xal a e
end
def in2{P:gI}(h1:P C)(h2:P c):∀b,b∈[C,c]->P b:=λb a=>by
 rcases aR.mp a with q|q
 .exact q▸h1
 .exact aM.mp q▸h2
def Jb{M:I8}{A:jY}{E:pZ}{s:cS}{scope:Dj}{globals:cR}{cl:List (iS×cR)}{nm qual:iS}{env:ľ}{Q:ľ->qR}(b:∀k,nD k scope.names cl=(nm,k)::cl)(d:∀h:dF,pushCells h scope.names=h.push {cls:=.type "cell",data:=.cell aH})
  (e:Q {scope:=scope,locals:=s.heap.objs.size,globals:=globals,cells:=(nm,s.heap.objs.size+1)::cl,qual:=qual,func:=aH,code:=env.code,frame:=env.frame,builtins:=env.builtins} {s with heap:=(s.heap.push {cls:=.type "dict",data:=.dict #[]}).push {cls:=.type "cell",data:=.cell aH}}):
  bW M A (newFunctionEnv scope globals cl [] qual aH .none (aG env)) Q E s:=by
 refine aK (ē ?_);refine aK (wpAny_layCells _ (λname kind cells=>by cases a:kind==NameKind.cell<;>simp [a]) _ _ _ _ ?_);rw [b,d,eY];exact aK (aW (aW e))
section
variable{n:Nat}{F:Fx}
def Y3{body:cR->cR->cR->Ag Unit}{gt:V->St->Option St}{nm:iS}
  (fk:hO F) (s:∀x q,lk F.bnd x=aG q->x<base) (ha:(g.is_async != 0)=bR)
  (ka:swapsWith (.ListComp t (g::gs) scope B) (aG (.Name yn py)) spos.line F.env=pure aU) (oj:lk F.bnd xi=aG (p0,yn)) (du:AI F.env p0 yn)
  (j7:∀u,evalThenUse (.ListComp t (g::gs) scope B) F.env u=(comprehension (.ListComp t (g::gs) scope B) scope F.env pos' (newList []) bR (eval g.iter F.env) (aG u)>>=λ_=>pure ()))
  (hf:∀x,foldedSetIterable g.iter F.env x=pure x) (cw:closureFor scope F.env=pure cl) (vk:∀k,nD k scope.names cl=(nm,k)::cl) (m8:∀h:dF,pushCells h scope.names=h.push {cls:=.type "cell",data:=.cell aH}) (bu:scope.kind=.function)
  (bw:∀y∈scope.names,y.2=.local->scope.names.lookup y.1=aG .local)
  (jr:∀C c,C∉F.Z->c∉F.Z->C≠c->hO (D4 F scope cl C c base nm))
  (dg:∀C c a I,compTurn (.ListComp t (g::gs) scope B) 0 (.ref I) (.ref a) (fC scope ((nm,c)::cl) C F.env)=(gB p>>=λ_=>pyNext (.ref I)>>=λr=>match r with
   |none=>pure (.done .next)
   |some v=>iH g.target (.ref I) v>>=λ_=>assign g.target (fC scope ((nm,c)::cl) C F.env) v>>=λ_=>body C c a>>=λ_=>again (.compLoop (.ListComp t (g::gs) scope B) 0 (.ref I) (.ref a) (fC scope ((nm,c)::cl) C F.env))))
  (x:Rz n F g.iter gi) (y:∀C c,C∉F.Z->c∉F.Z->C≠c->Dg n (D4 F scope cl C c base nm) g.target gt)
  (z:∀C c a,C∉F.Z->c∉F.Z->C≠c->∀σ xs σ',gb σ=aG (xs,σ')->CB n (D4 F scope cl C c base nm) a (body C c a) σ xs σ'):
  A5 n F (.Assign [.Name yn py] (.ListComp t (g::gs) scope B) spos) (fU (lI base gi gt gb) (cG xi)):=λk σ f σ' e=>by
 replace e:=eJ e;obtain ⟨v,σv,j,e⟩:=e;replace j:=eJ j;obtain ⟨ds,σ₁,e1,j⟩:=j;replace j:=eJ j;obtain ⟨xs,be,e2,j⟩:=j;split at j
 .rename_i dp;refine Ck j ?_;rintro rfl rfl;refine Ck e ?_;rintro rfl rfl;intro A X D h tk ok m;refine (exec_Assign_Name_used _ _ _ _ ka)▸(aK (fM (aK ?_)));rw [j7];refine aK (bK ?_ (λ_ s' hq=>aW (aW hq)) λ_ _ z=>z);refine sJ rfl hf cw bu bw (bK (x _ _ _ e1 A X D h tk ok m) (λxv ft h₁=>bK h₁ (λit g4 pp=>?_) λ_ _ q=>q) λ_ _ q=>q);obtain ⟨h₀,D₀,f8,qe,I,d,ag,rfl,rfl,st,m₀,wk,rfl,rfl⟩:=pp;refine nn λG=>?_;obtain ⟨wi,H,R,gj⟩:=wk.toIn m₀;refine G ?_;refine nP (Jb vk m8 ?_);dsimp only;generalize j8:d.push {cls:=.type "list",dict:=aH,data:=.seq ([]:eW).toArray}=H2;generalize zb:H2.push {cls:=.type "dict",data:=.dict #[]}=H3;generalize J:H3.push {cls:=.type "cell",data:=.cell aH}=l;have z2:H2.objs.size=d.objs.size+1:=by refine j8▸?_;rw [eY]
  have z3:H3.objs.size=d.objs.size+2:=by refine zb▸?_;rw [eY,z2]
  have i6:∀b o,d.get? b=aG o->H2.get? b=aG o:=λb o e=>j8▸cY _ _ b o e;have vm:∀b o,H2.get? b=aG o->H3.get? b=aG o:=λb o e=>zb▸cY _ _ b o e;have vn:∀b o,H3.get? b=aG o->l.get? b=aG o:=λb o e=>J▸cY _ _ b o e;have jb:∀b o,H2.get? b=aG o->l.get? b=aG o:=λb o e=>vn b o (vm b o e);have T:∀b o,d.get? b=aG o->l.get? b=aG o:=λb o e=>jb b o (i6 b o e);have aN:d.get? d.objs.size=aH:=eE _;have j3:H2.get? H2.objs.size=aH:=eE _;have L:H3.get? (H2.objs.size+1)=aH:=by rw [show H2.objs.size+1=H3.objs.size by exact aT VN z2 z3];exact eE _
  have O:H2.get? (H2.objs.size+1)=aH:=by
   cases q:H2.get? (H2.objs.size+1)with
   |none=>rfl
   |some o=>rw [vm _ _ q]at L;exact De L
  have up1:∀b,H2.get? b=aH->d.get? b=aH:=λb e=>by
   cases q:d.get? b with
   |none=>rfl
   |some o=>rw [i6 _ _ q]at e;exact De e
  have cN:=up1 _ j3;have dN:=up1 _ O;have gn:l.Ns H2.objs.size (λ_=>aH):=by exact Ns.keep1 (zb▸Heap.Ns.new H2 (.type "dict")) λo e=>vn _ o e
  have cf:l.IsCell (H2.objs.size+1) aH:=by refine ⟨{cls:=.type "cell",data:=.cell aH},?_,rfl⟩;rw [show H2.objs.size+1=H3.objs.size by exact aT VN z2 z3];refine J▸?_;exact cC _ rfl
  have j9:∀b,d.get? b=aH->h₀.get? b=aH:=λb e=>by
   cases q:h₀.get? b with
   |none=>rfl
   |some o=>rw [R _ _ q]at e;exact De e
  have km:=j8▸A9 _ _;have eh:∀b,d.get? b=aH->b∉F.Z/\¬X b/\(∀i,lk D₀ i≠aG b)/\F.B.1.get? b=aH:=λb e=>by
   refine ⟨λq=>?_,λq=>?_,λi q=>?_,?_⟩
   .exact ((H.zfr b q).2).no e
   .exact (H.xal b (jQ q)).no e
   .exact ((H.sep i b q).h).no e
   .cases q:F.B.1.get? b with
    |none=>first|rfl|exact q
    |some o=>rw [H.fb b o q]at e;exact De e
  refine nn λG=>?_;obtain ⟨aZ,aX,aD,aB⟩:=eh _ aN;obtain ⟨P,cX,cD,cB⟩:=eh _ cN;obtain ⟨W,dX,dD,dB⟩:=eh _ dN;refine G ?_;have l6:d.objs.size≠H2.objs.size:=by exact aT 0x2862e92c015a0e1002 z2
  have Q:d.objs.size≠H2.objs.size+1:=by exact aT 0xa18ba4b41c015a0e1002 z2
  have jh:H2.objs.size≠H2.objs.size+1:=by exact aT 0x10c5d25a0e0001
  generalize hC:H2.objs.size=C at *;generalize hc:C+1=c at *;have m2:=H.addX i6 λb s=>by obtain rfl:=aM.mp s;exact ⟨aN,_,km⟩
  have l7:gU (D4 F scope cl C c base nm) (gR [I] (gR [d.objs.size] X)) D₀ σ₁ l:=(m2.intoC s jb j3 O gn cf).dropX λb q=>by
   rcases q with q|q|q
   .exact jQ (jR q)
   .exact jR q
   .exact jQ (jQ q)
  have kh:=wi.upC (scope:=scope) (cl:=cl) (base:=base) (nm:=nm) T aN cN dN;have l8:d.objs.size∉(D4 F scope cl C c base nm).Z:=λq=>by
   rcases aR.mp q with q|q
   .exact l6 q
   .rcases aR.mp q with q|q
    .exact Q q
    .exact aZ q
  have gd:=xC (F:=D4 F scope cl C c base nm) (tk:=ag) (jr _ _ P W jh) ok (jR (by simp)) l8 aB rfl (rK (.lst _ _ _ _)) (dg _ _ _ I) kh l7 (⟨[],_,jb _ _ km,⟨0,rfl⟩,bN.nil⟩) (y _ _ P W jh) (z _ _ _ P W jh) e2 (bV (by simpa using dp) nL);clear l7 l8;refine nR (rJ (g:=g) (.lst _ _ _ _) rfl ha gd (kh.self gd)) λr s' pp=>?_;clear jr y z kh gd;refine pp.el λh' aw D' Y Z gu=>?_;refine nn λG=>?_;obtain ⟨mm,qt⟩:=(Z.frm (base+1) (.loc C) nm (Wr s).2);have nn:∀b o,h₀.get? b=aG o->b≠I/\b≠d.objs.size/\b≠C/\b≠c:=λb o e=>⟨λq=>(by rw [q,gj]at e;exact gG e),λq=>(by rw [q,j9 _ aN]at e;exact gG e),λq=>(by rw [q,j9 _ cN]at e;exact gG e),λq=>(by rw [q,j9 _ dN]at e;exact gG e)⟩;have ud:mZ F D₀ h₀ D' h':=by
   refine ⟨λb o e hz hd=>Y.keep b o (T _ _ (R _ _ e)) (λq=>?_) hd,Y.ext,λi b e=>?_,λb o e=>Y.al b o (nn b o e).1 (T _ _ (R _ _ e))⟩
   .rcases aR.mp q with q|q
    .exact (nn b o e).1 q
    .rcases aR.mp q with q|q
     .exact (nn b o e).2.1 q
     .rcases aR.mp q with q|q
      .exact (nn b o e).2.2.1 q
      .rcases aR.mp q with q|q
       .exact (nn b o e).2.2.2 q
       .exact hz q
   .rcases Y.new i b e with q|q
    .exact .inl q
    .refine .inr ?_
     cases q':h₀.get? b with
     |none=>rfl
     |some o=>rw [T _ _ (R _ _ q')]at q;exact De q
  obtain ⟨us,_,hu,⟨cc,rfl⟩,ru⟩:=gu;refine G ?_;have mz:fW D' (Yf F (gR [C,c] X) D') h' (.lst xs) (.ref d.objs.size):=by
   refine ⟨_,us,rfl,λq=>?_,⟨cc,hu⟩,?_⟩
   .rcases q with q|(q|q)|⟨i,q⟩
    .exact aZ q
    .rcases aR.mp q with q|q
     .exact l6 q
     .exact Q (aM.mp q)
    .exact aX q
    .exact (λi q=>(Z.sep i _ q).x (jR (by simp))) i q
   .refine bN.step (λ_ _ e _=>e) (λ_ _ e=>e) (λb q=>?_) _ _ ru;rcases q with q|(q|q)|q
    .exact .inl (.inl (aO _ (aO _ q)))
    .refine .inl (.inl ?_);rcases aR.mp q with q|q
     .rw [q];exact aQ
     .rw [aM.mp q];exact aO _ aQ
    .exact .inl (.inr (.inl (jQ q)))
    .exact .inl (.inr (.inr q))
  refine pI (wP fk (gU.outC fk s (Z.dropX λb q=>jQ q)) oj du mz λbk br m6 nv=>?_);refine ⟨mm,?_,λjp ii=>?_⟩
  .exact Ns.keep1 qt (λo e=>nv.keep _ o e P (λi q=>(Z.sep i _ q).z (by exact aQ):∀i,lk D' i≠aG C))
  .have m7:gU F X D' {Ec base be with loc:=put xi (.lst xs) (Ec base be).loc} jp:=gU.leave (N:=[C,c]) fk m6 (in2 P W) (in2 cB dB) (in2 cX dX) (λb o fg e=>ii.extBut b o (λq=>fg (by refine q▸?_;exact aQ)) e);have jq:=ud.trans nv;have vj:mZ F D₀ h₀ D' jp:=⟨λb o e hz hd=>ii.extBut b o (nn b o e).2.2.1 (jq.keep b o e hz hd),jq.ext,jq.new,λb o e=>by obtain ⟨o',e'⟩:=jq.al b o e;exact ⟨o',ii.extBut b o' (nn b o e).2.2.1 e'⟩⟩;exact ⟨jp,br,D',_,.next,rfl,(st.trans vj).toK k,m7,Iy.next,rfl,rfl⟩
 .exact gG j
end
section
variable{n:Nat}{F:Fx}{tab:List (Nat×iS)}
def Wt{gt:V->St->Option St}
  (T:tY F tab) (o:swapsWith (.ListComp g [⟨t0,b,[],0⟩] scope r) (aG (.Name yn py)) spos.line F.env=pure aU) (d:(xi,yn)∈tab) (i:∀x q,lk F.bnd x=aG q->x<base)
  (s:∀x,foldedSetIterable b F.env x=pure x) (t:(scope.names.all λx=> !(x.2==.free)|| (F.env.cells.lookup x.1).isSome)=aU) (u:∀k,nD k scope.names (gW scope F.env)=(nm,k)::gW scope F.env) (v:∀h:dF,pushCells h scope.names=h.push {cls:=.type "cell",data:=.cell aH}) (j:scope.kind=.function)
  (A:(scope.names.all λy=>y.2 != .local||scope.names.lookup y.1==aG .local)=aU) (B:yS F scope tab cap) (e:(cap.all λp=> !(p.2==nm))=aU) (D:(relabel scope F.env).names.lookup nm=aG .cell)
  (x:Rz n F b G) (y:∀C c,tY (D4 F scope (gW scope F.env) C c base nm) (cap++[(base,nm)])->Dg n (D4 F scope (gW scope F.env) C c base nm) t0 gt)
  (z:∀C c,tY (D4 F scope (gW scope F.env) C c base nm) (cap++[(base,nm)])->iP n (D4 F scope (gW scope F.env) C c base nm) g H):
  A5 n F (.Assign [.Name yn py] (.ListComp g [⟨t0,b,[],0⟩] scope r) spos) (fU (lI base G gt (kD H)) (cG xi)):=by
 refine nn λf=>?_;obtain ⟨Q,I,J⟩:=T.ok xi yn d;refine f ?_;have tt:∀C c,C∉F.Z->c∉F.Z->C≠c->tY (D4 F scope (gW scope F.env) C c base nm) (cap++[(base,nm)]):=λC c L N O=>PS T j L N O i (λp l=>by
  refine nn λf=>?_;obtain ⟨h1,h2,h3,h4⟩:=B.at p l;refine f ?_;refine ⟨h1,h2,h3,?_⟩;have h5:=dO.mp e p l;simp only [gP]
  cases q:p.2==nm with
  |true=>replace h5:=q▸h5;cases h5
  |false=>exact h4) D
 refine Y3 T.fk i rfl o I J (λ_=>rfl) s (oY t) u v j (λy d P=>?_) (λC c h1 h2 h3=>(tt C c h1 h2 h3).fk) (λ_ _ _ _=>rfl) x (λC c h1 h2 h3=>y C c (tt C c h1 h2 h3)) (λC c a h1 h2 h3 _ _ _ q=>C6 (tt C c h1 h2 h3).fk (z C c (tt C c h1 h2 h3)) q);have:=dO.mp A y d;replace this:=P▸this
 cases m:scope.names.lookup y.1 with
 |none=>rw [m]at this;exact absurd this (by decide)
 |some k=>rw [m]at this;cases k<;>first|rfl|exact absurd this (by decide)
end
noncomputable def X9:eW->List (Int×bL)->Option (List (Int×bL))
 |[],a=>aG a
 |.int k _::v::r,a=>X9 r ((k,v)::a)
 |_,_=>aH
def IS:cA->bE->cA->pM
 |[],ks,vs=>aG (.dct ks vs)
 |[_],_,_=>aH
 |x::y::r,ks,vs=>ob (B6 x) λk=>IS r (k::ks) (y::vs)
def X8:∀(n:Nat)(us:eW)(a b:List (Int×bL)),us.length<=n->X9 us a=aG b->X9 (us++[.int k t,v]) a=aG ((k,v)::b):=by
 intro n
 induction n with
 |zero=>
  intro us a b h e
  cases us with
  |nil=>cases e;rfl
  |cons x r=>simp at h
 |succ n c=>
  intro us a b h e
  cases us with
  |nil=>cases e;rfl
  |cons x r=>
   cases r with
   |nil=>cases x<;>cases e
   |cons y r=>
    cases x with
    |int i d=>exact c r _ _ (by simp at h;exact aT Py h) e
    |_=>cases e
def MZ{Y:gI}:∀(n:Nat)(xs:cA)(us:eW)(ks:bE)(vs:cA)(a c:List (Int×bL))(r:V),aC xs<=n->bN D Y h xs us->X9 us a=aG c->IS xs ks vs=aG r->a.map (·.1)=ks->bN D Y h vs (a.map (·.2))->
  ∃f,r=.dct (c.map (·.1)) f/\bN D Y h f (c.map (·.2)):=by
 intro n
 induction n with
 |zero=>
  intro xs us ks vs a c r h d e b h1 h2
  cases xs with
  |nil=>cases d;cases e;cases b;exact ⟨vs,by rw [h1],h2⟩
  |cons x xs=>simp at h
 |succ n i=>
  intro xs us ks vs a c r h d e b h1 h2
  cases xs with
  |nil=>cases d;cases e;cases b;exact ⟨vs,by rw [h1],h2⟩
  |cons x xs=>
   cases xs with
   |nil=>cases b
   |cons y xs=>
    refine nn λj=>?_;obtain ⟨u,_,rfl,l,w,us,rfl,rw,m⟩:=d;refine j ?_;replace b:=dS b;obtain ⟨k,g,b⟩:=b;have o:x=.int k:=by cases x<;>first|cases g;rfl|cases g
    subst o;obtain ⟨t,rfl⟩:=l;exact i xs us (k::ks) (y::vs) ((k,w)::a) c r (by simp at h;exact aT Py h) m e b (by simp [h1]) ⟨w,_,rfl,rw,h2⟩
def AX{b c:Type}:∀(l:List (b×c)),(l.map (·.1)).zip (l.map (·.2))=l:=by
 intro l
 induction l with
 |nil=>rfl
 |cons a l d=>simp only [cE,hU,d]
def KD(us:eW)(o:qY):Prop:=∃ps es ep,X9 us []=aG ps/\o={cls:=.type "dict",dict:=aH,data:=.dict es ep,slots:= #[]}/\IntKeys es/\es.size<=ps.length/\∀k,findBy pN es k=ps.lookup k
def B0(gk gv:M V):M cA:=λσ=>bd (gk σ) λx σ=>ob (B6 x) λk=>bd (gv σ) λy σ=>aG ([.int k,y],σ)
def ŭ(xs:cA):pM:=IS xs [] []
section
variable{n:Nat}{F:Fx}
def NA:∀(n:Nat)(us:eW)(a b:List (Int×bL)),us.length<=n->X9 us a=aG b->b.length<=a.length+us.length:=by
 intro n
 induction n with
 |zero=>
  intro us a b h e
  cases us with
  |nil=>cases e;simp
  |cons x r=>simp at h
 |succ n c=>
  intro us a b h e
  cases us with
  |nil=>cases e;simp
  |cons x r=>
   cases r with
   |nil=>cases x<;>cases e
   |cons y r=>
    cases x with
    |int i d=>have:=c r _ _ (by simp at h;exact aT Py h) e;exact aT 0x318a5083a0e208128120e1003 this
    |_=>cases e
def JR(fk:hO F)(x:iP n F k R)(y:iP n F v T)(e:B0 R T σ=aG (xs,σ')):
  ı n F KD a (eval k F.env>>=λf=>holding [f] (eval v F.env)>>=λd=>gB p>>=λ_=>holding [f,d] (dictSet a f d)) σ xs σ':=by
 replace e:=eJ e;obtain ⟨u,σ₁,W,e⟩:=e;replace e:=dS e;obtain ⟨i,I,e⟩:=e;replace e:=eJ e;obtain ⟨z,be,Y,e⟩:=e;cases e;have r:u=.int i:=by cases u<;>first|cases I;rfl|cases I
 subst r;intro A X D h tk l ok g s Z m i5 J;refine aK (TW.atE (x _ _ _ W) ok m bN.nil ?_);rintro f h₁ ag D₁ st L ⟨t,rfl⟩;refine aK (cJ (TW.atE (y _ _ _ Y) ok L bN.nil ?_));rintro d B br D₂ N c7 rv;refine nn λC=>?_;obtain ⟨us,_,r,⟨G,es,ep,O,rfl,hk,hl,hf⟩,P⟩:=((i5.on m g s st).on L g s N);refine C ?_;have Q:=NA _ _ _ _ (bG _) O;simp only [eM]at J Q;refine aK (fM (cJ (Ip (⟨es,ep,r,hk,hl,hf⟩:AN B a (λk=>G.lookup k) G.length) (by exact aT 0x1b18a4225806940cc2485083a0e6004 J Q (P.length)) λh' d' sb=>?_)));have j:∀b o,b∉[a]->B.get? b=aG o->h'.get? b=aG o:=λb o c e=>sb.extBut b o (λq=>c (by simp [q])) e;refine nn λC=>?_;obtain ⟨ie,qa,H,g6,zd,xp⟩:=d'.ex;refine C ?_;have gw:∀b o,B.get? b=aG o->tI h' b:=λb o e=>by
  by_cases q:b=a
  .exact q.symm▸(⟨_,H⟩:tI h' a)
  .exact ⟨o,j b o (by simpa using q) e⟩
 refine ⟨h',br+1,D₂,rfl,(st.trans N).zx.trans ⟨λb o e c _=>j b o (λq=>c (by refine (aM.mp q)▸?_;exact aQ)) e,λ_ _ e=>e,λ_ _ e=>.inl e,gw⟩,c7.turnX fk (λb c=>by refine (aM.mp c)▸?_;exact g) (λb c=>by refine (aM.mp c)▸?_;exact s) (λb c=>by refine (aM.mp c)▸?_;exact Z) j (λb c=>by refine (aM.mp c)▸?_;exact ⟨_,H⟩),us++[.int i t,d],_,H,⟨(i,d)::G,ie,qa,X8 _ _ _ _ (bG _) O,rfl,g6,zd,λk=>?_⟩,?_⟩
 .simp only [xp,gP];by_cases q:k=i
  .subst q;simp
  .refine (if_neg q)▸?_;exact (show (k==i)=bR by simpa using q)▸rfl
 .refine bN.step (λb o e c=>j b o (λq=>c (.inr (.inl (by simp only [aM.mp q];exact g)))) e) (λ_ _ e=>e) (λ_ e=>.inl e) _ _ ?_;exact P.append ⟨_,_,rfl,⟨t,rfl⟩,_,_,rfl,rv,rfl⟩
end
section
variable{n:Nat}{F:Fx}{tab:List (Nat×iS)}
theorem Zq(k v t0 b t1 a:Expr)(scope:Dj)(d:ķ)(c e:bL)(env:ľ):compTurn (.DictComp k v [⟨t0,b,[],0⟩,⟨t1,a,[],0⟩] scope d) 0 c e env=(gB b.pos>>=λ_=>pyNext c>>=λr=>match r with
   |none=>pure (.done .next)
   |some u=>iH t0 c u>>=λ_=>assign t0 env u>>=λ_=>eval a env>>=λx=>gB a.pos>>=λ_=>foldedSetIterable a env x>>=λx=>holding [x] (pyIter x)>>=λf=>runOwn (.compStart (.DictComp k v [⟨t0,b,[],0⟩,⟨t1,a,[],0⟩] scope d) 1 f e env) env>>=λ_=>again (.compLoop (.DictComp k v [⟨t0,b,[],0⟩,⟨t1,a,[],0⟩] scope d) 0 c e env)):=rfl
def Ö{gt d:V->St->Option St}
  (T:tY F tab) (p:∀x q,lk F.bnd x=aG q->x<base) (A:names≠[]) (B:names.Nodup)
  (g:∀x,foldedSetIterable f F.env x=pure x) (G:∀C x,foldedSetIterable c (fC scope (gW scope F.env) C F.env) x=pure x) (H:(scope.names.all λx=> !(x.2==.free)|| (F.env.cells.lookup x.1).isSome)=aU) (J:(scope.names.all λy=>y.2 != .cell)=aU) (s:scope.kind=.function)
  (L:(scope.names.all λy=>y.2 != .local||scope.names.lookup y.1==aG .local)=aU) (N:yS F scope tab cap) (O:yR F scope names)
  (x:Rz n F f P) (y:∀C,tY (nM F scope (gW scope F.env) C base names) (cap++Ar base names)->Dg n (nM F scope (gW scope F.env) C base names) t0 gt)
  (x1:∀C,tY (nM F scope (gW scope F.env) C base names) (cap++Ar base names)->Rz n (nM F scope (gW scope F.env) C base names) c gi1)
  (Q:∀C,tY (nM F scope (gW scope F.env) C base names) (cap++Ar base names)->Dg n (nM F scope (gW scope F.env) C base names) t1 d)
  (R:∀C,tY (nM F scope (gW scope F.env) C base names) (cap++Ar base names)->iP n (nM F scope (gW scope F.env) C base names) k W)
  (X:∀C,tY (nM F scope (gW scope F.env) C base names) (cap++Ar base names)->iP n (nM F scope (gW scope F.env) C base names) v Z):
  iP n F (.DictComp k v [⟨t0,f,[],0⟩,⟨t1,c,[],0⟩] scope t) (Ig ŭ base P gt (Kz gi1 d (B0 W Z))):=by
 have tt:∀C,C∉F.Z->tY (nM F scope (gW scope F.env) C base names) (cap++Ar base names):=λC b=>Fw T s b B p N.at O.at;refine Kw (body:=λC a=>eval c (fC scope (gW scope F.env) C F.env)>>=λx=>gB c.pos>>=λ_=>foldedSetIterable c (fC scope (gW scope F.env) C F.env) x>>=λx=>holding [x] (pyIter x)>>=λit=>runOwn (.compStart (.DictComp k v [⟨t0,f,[],0⟩,⟨t1,c,[],0⟩] scope t) 1 it (.ref a) (fC scope (gW scope F.env) C F.env)) (fC scope (gW scope F.env) C F.env)>>=λ_=>pure ())
  T.fk p A rfl (.dct _ _ _ _ _) (λ_ _ _ _=>rfl) rfl ⟨[], #[],0,rfl,rfl,λe i=>by simp at i,by trivial,λk=>rfl⟩ rfl (by size_fits) rfl (λD Y h a xs us o v e i j hY r=>?_) rfl g (oY H) (λy l=>?_) s (λy l m=>?_) (λC b=>(tt C b).fk)
  (λC a I=>(Zq k v t0 f t1 c scope t (.ref I) (.ref a) (fC scope (gW scope F.env) C F.env)).trans (by congr 1;funext _;congr 1;funext r;cases r with|none=>rfl|some v=>simp only [bind_assoc,pure_bind])) x (λC b=>y C (tt C b))
  (λC a b _ _ _ q=>RZ (tt C b).fk (.dct _ _ _ _ _) ⟨_,rfl,rfl⟩ (G C) (λ_=>rfl) (x1 C (tt C b)) (Q C (tt C b)) (λ_ _ _ q=>JR (tt C b).fk (R C (tt C b)) (X C (tt C b)) q) q)
 .obtain ⟨u,es,ep,hp,rfl,j,m,g⟩:=j;obtain ⟨zc,rfl,rv⟩:=MZ _ _ _ _ _ _ _ _ (bG _) r hp e rfl bN.nil;refine ⟨a,u.map (·.2),rfl,hY,kG.mpr ⟨by simp,λk=>u.lookup k,⟨es,ep,i,j,by simpa using m,g⟩,λk=>?_⟩,rv⟩;rw [AX]
 .have:=dO.mp J y l;intro e;replace this:=e▸this;exact absurd this (by decide)
 .have:=dO.mp L y l;replace this:=m▸this
  cases z:scope.names.lookup y.1 with
  |none=>rw [z]at this;exact absurd this (by decide)
  |some k=>rw [z]at this;cases k<;>first|rfl|exact absurd this (by decide)
end
section
open PySem.Calls
section
variable{K:xO}{pn fn pm fm:cR}
def Ts{M:I8}{h:dF}(a:IsT h y us k):mK M h (isInstance (.ref y) (.type "tuple")) true:=by have b:mK M h (typeOf (.ref y)) (.type "tuple"):=(B8 a).andThen .now;exact b.andThen (fY (by kernel_rfl))
def ū{s:cS}{R:rR->qR}(X:K.In s.heap)(i:rQ K pn fn pm fm)(e:wG s.heap x (bC [.int a t1,.int b r,.int c t]))(f:IsT s.heap y (bC [.int a u,.int b v,.int c z]) ky)
  (q:R (.ok (.ret (.bool bR))) s):jC iC A (.call (.builtin "tuple.__ne__") ⟨[.ref x,.ref y],[]⟩) R s:=by
 have j:=mP (M:=iC) e;have k:=wC (M:=iC) X i (b:=.type "tuple") (by decide);obtain ⟨l,B,m,nx,h⟩:=e;obtain ⟨C,D,G,H⟩:=l;dsimp only at h;clear X m;subst h;have o:s.TypeIs (.ref y) "tuple":=⟨_,f,rfl⟩;obtain ⟨p,g,d,tk,os⟩:=s;refine jF PySem.F.slot_tuple_ne.plain PySem.F.entry_tuple_ne (@check_slot iC _ _ _ "tuple.__ne__" "tuple" "__ne__" (.ref x) [.ref y] [] _ (by decide+kernel) (by decide+kernel) (j.andThen k) (PySem.F.args_tuple_ne_2 _ _) ?_);have I:mK iC p (isInstance (.ref y) (.type "tuple")) true:=Ts f;unfold Oj.«tuple.__ne__»;repeat (first|(with_reducible refine jE ?_)|(refine Dm (by simp) ?_)|lk)
 exact q
def ZK{s:cS}{E:pZ}{C:pZ}(X:K.In s.heap)(i:rQ K pn fn pm fm)(j:findIn K (.ref mE) "__ne__"=aG (aG (.builtin "tuple.__ne__")))(k:A.units<cLine)(e:wG s.heap x (bC [.int a t1,.int b l,.int c m]))(f:IsT s.heap y (bC [.int a o,.int b p,.int c t]) ky)
  (q:C (.bool bR) s):bW iC A (compareOp .NotEq (.ref x) (.ref y)) C E s:=by
 have u:=mP (M:=iC) e;have v:mK iC s.heap (typeOf (.ref y)) (.type "tuple"):=(B8 f).andThen .now;have z:mK iC s.heap (yT (.type "tuple") (.ref mE)) false:=fY (by kernel_rfl);have l1:=looks_findIn (M:=iC) X j;have b1:mK iC s.heap (bindSpecial (.builtin "tuple.__ne__") (.ref x)) (.builtin "tuple.__ne__",[.ref x]):=fY (PySem.F.slot_tuple_ne.bind _);have yH:∀{R:rR->qR}{A':jY},R (.ok (.ret (.bool bR))) s->jC iC A' (.call (.builtin "tuple.__ne__") ⟨[.ref x,.ref y],[]⟩) R s:=λr=>ū X i e f r;refine (?_:bW _ _ (richCompare .NotEq (.ref x) (.ref y)) _ _ _);unfold richCompare;refine cJ (aK (wpAny_cRoomFor k ?_));clear X e f;obtain ⟨B,g,d,tk,os⟩:=s;repeat lk
 by_cases h:iC.w.params.followText "special-get-raises"=aU
 .rw [if_pos h];repeat (first|(with_reducible refine gN (yH ?_))|lk)
  exact q
 .rw [if_neg h];refine Fe ?_;repeat (first|(with_reducible refine gN (yH ?_))|lk)
  exact q
def aAs:V->V->M V:=λa b σ=>ob (N2 a) λl=>ob (Fc b) λl'=>Ć (λx y z=>aN (Ć (λx' y' z'=>aN (if x=x'/\y=y'/\z=z' then aG (.bool bR,σ)else aH)) l')) l
variable{n:Nat}{F:Fx}
def QM(f:K.In S.heap)(g:rQ K pn fn pm fm)(i:findIn K (.ref mE) "__ne__"=aG (aG (.builtin "tuple.__ne__"))):Ei n F (compareOp .NotEq) aAs:=λa b σ v σ' e=>by refine G4 e ?_;clear e;intro l e;refine Pf e ?_;clear e;intro l' e;refine Eg e ?_;clear e;intro x y z t e;refine mT e ?_;clear e;intro e;refine Eg e ?_;clear e;intro B C G H e;refine mT e ?_;clear e;intro e;obtain ⟨⟨rfl,rfl,rfl⟩,q⟩:=iB e;clear e;refine oV λA X D h tk u I ok m j o=>?_;refine nn λp=>?_;obtain ⟨x1,xs,rfl,nx,r,_,_,rfl,⟨t1,rfl⟩,_,_,rfl,⟨J,rfl⟩,_,L,rfl,⟨N,rfl⟩,c⟩:=j;cases c;obtain ⟨O,P,rfl,Q,⟨k,s⟩,_,_,rfl,⟨R,rfl⟩,_,_,rfl,⟨T,rfl⟩,_,us,rfl,⟨W,rfl⟩,c⟩:=o;cases c;refine p ?_;have d:=f.keeps m.base;exact ZK d g i (by have:=ok.uni;exact aT 0x18c54202848e70e880747003 this) r s (fS m nW (.of q))
end
end
section
open PySem PySem.W PyProof.Rows PySem.Calls Builtin.ObjectAttr
section
variable{A:jY}{K:xO}{pn fn pm fm:cR}
def Ui{E:pZ}{s:cS}{C:pZ}(c:wG s.heap x us)(q:C (.ref mE) s):bW (model prog w) A (call (.type "type") [.ref x]) C E s:=by
 refine nn λe=>?_;obtain ⟨f,a,b,nx,h⟩:=c;obtain ⟨i,j,k,l⟩:=f;refine e ?_;dsimp only at b;subst b;refine gN (xL ((?_:bW _ _ (callAny (.type "type") _) _ _ _)));refine aW ⟨E8 _ (by decide+kernel),xM F.entry_type_call ?_⟩;dsimp only [Around.under_plain (weight_type_call_type "type" [.ref x] []) (units_type_call_type "type" [.ref x] [])];have m:(mJ x==oT "__main__.__loader__#opaque")=false:=rfl;obtain ⟨o,g,d,tk,os⟩:=s;unfold Oj.«type.__call__»;repeat (first|lk|(refine aK (zC a ?_))|(refine zC a ?_)|(dsimp only;refine Dm (by first|rfl|decide) ?_))
 exact q
def Ï(a:rQ K pn fn pm fm):Meets (Oj.«issubclass» ⟨[.ref mE,.type "tuple"],[]⟩) (λ_ R s=>K.In s.heap/\R (.ok (.ret (.bool aU))) s):=λprog w A R s c=>by
 obtain ⟨X,q⟩:=c;have i:=wC (M:=model prog w) X a (b:=.type "tuple") (by decide);have j:mK (model prog w) s.heap (isType (.ref mE)) true:=by refine nn λf=>?_;obtain ⟨oc,od,l,m,h,e⟩:=a.obj;refine f ?_;intro A Q E s k q;exact aK (zC (k _ _ (X _ _ h)) (aW q))
 clear X;obtain ⟨o,g,d,tk,os⟩:=s;refine issubclass_outer ?_;unfold Oj.«issubclass.nested»;repeat lk
 exact q
def Rg{E:pZ}{s:cS}{C:pZ}(X:K.In s.heap)(a:rQ K pn fn pm fm)(q:C (.bool aU) s):bW (model prog w) A (call (.builtin "issubclass") [.ref mE,.type "tuple"]) C E s:=
 call_issubclass (Ï a) ⟨X,q⟩
def NS{s:cS}{E:pZ}{C:pZ}{us:eW}(X:K.In s.heap)(f:rQ K pn fn pm fm)(a:wG s.heap x us.toArray)(hi:us[i.toNat]?=aG u)(h0:0<=i)(h1:us.length<1000)
  (q:C u s):bW (model prog w) A (call (.builtin "tuple.__getitem__") [.ref x,.int i t]) C E s:=by
 have h:=mP (M:=model prog w) a;have j:=wC (M:=model prog w) X f (b:=.type "tuple") (by decide);obtain ⟨k,m,l,nx,c⟩:=a;obtain ⟨o,p,r,v⟩:=k;dsimp only at c;clear X l;subst c;obtain ⟨y,g,d,tk,os⟩:=s;refine gN (jF PySem.F.slot_tuple_getitem.plain PySem.F.entry_tuple_getitem (@check_slot (model prog w) _ _ _ "tuple.__getitem__" "tuple" "__getitem__" (.ref x) [.int i t] [] _ (by decide+kernel) (by decide+kernel) (h.andThen j) (PySem.F.args_tuple_getitem_2 _ _) ?_));unfold Oj.«tuple.__getitem__»;repeat lk
 have e:=(cF.mp hi).1;refine Dm (by simp;exact aT 0x122427823165b18c6318c6318c6318c6318c630741c5615318c6318c6318c6318c6318c63075040ac77e70d8469ecc6091 h0 h1 e) ?_;rw [show (seqIndex? i us.toArray.size).bind (λx=>us.toArray[x]?)=aG u by unfold seqIndex?;dsimp only;rw [if_neg (by exact aT 0xc62e958c8382c0310 h0:¬i<0),if_pos (by simp;exact aT 0x11c89c23165aa141c5611941058469ecc6091 h0 e),LL];simpa using hi];repeat lk
 exact q
def Pu{M:I8}{h:dF}{C x:cR}{name:iS}{g a:bL}(X:K.In h)(b:findIn K (.ref C) name=aG (aG a))(c:specialIn K a "__get__"=aG (aG g))(d:takesIn K a=aG aU):mK M h (find (.ref x) (.ref C) name) (.bind g a):=
 (looks_findIn X b).andThen ((looks_specialIn X c).andThen (((looks_takesIn X d).andThen .now:mK M h (dataDescriptor? (aG a) (aG g)) (aG (g,a))).andThen (Looks.tag .now)))
def HG{s:cS}{c:Bool}{Q:pZ}(X:K.In s.heap)(k:rQ K pn fn pm fm)(f:wG s.heap x us)(l:findIn K (.ref mE) "__getattribute__"=aG (aG (.builtin "tuple.__getattribute__")))(m:findIn K (.ref mE) "__getattr__"=aG none)
  (o:findIn K (.ref mE) name=aG (aG a)) (p:specialIn K a "__get__"=aG (aG g)) (r:takesIn K a=aG aU)
  (h:bW (model prog w) A.in1 (call g [a,.ref x,.ref mE]) (λv i=>bW (model prog w) A (handedOut v) Q (λ_ _=>False) i) (λ_ _=>False) {s with toks:=s.toks+1}):
  bW (model prog w) A (getAttr (.ref x) name c) Q (λ_ _=>False) s:=by
 have j:=mP (M:=model prog w) f;have u:=wC (M:=model prog w) X k (b:=.type "tuple") (by decide);have L1:=looks_findIn (M:=model prog w) X l;have L2:=looks_findIn (M:=model prog w) X m;have L3:=Pu (M:=model prog w) (x:=x) X o p r;clear X f;obtain ⟨y,B,d,t,os⟩:=s;refine aK (wpAny_mkText (cJ (aK (j.at (aK (L1.at ?_))))));dsimp only;refine aK (L2.at (aK (I6 (cJ ?_))));have e:callGetattribute (.ref x) (.str name t) (.builtin "tuple.__getattribute__") c=boundAndCalled (.builtin "tuple.__getattribute__") (.ref x) (.str name t):=by unfold callGetattribute;rw [if_neg (by cases c<;>decide)]
 simp only [e];refine aK ((fY (PySem.F.slot_tuple_getattribute.bind _)).at (gN (jF PySem.F.slot_tuple_getattribute.plain F.entry_tuple_ga (@check_slot (model prog w) _ _ _ "tuple.__getattribute__" "tuple" "__getattribute__" (.ref x) [.str name t] [] _ (by decide+kernel) (by decide+kernel) (j.andThen u) (PySem.F.args_tuple_getattribute_2 _ _) ?_))));unfold Oj.«object.__getattribute__»;repeat (first|(with_reducible refine bK h (λv i z=>?_) (λ_ _ z=>z.elim))|lk)
 exact z
variable{n:Nat}{F:Fx}
def IU:mU:=λus σ=>aV (λu=>aN (ob (N2 u) λ_=>aG (.fn (.ref mE),σ))) us
def WK:mU:=λus σ=>aV (λu=>aV λv=>aN (ob (Zx u) λa=>ob (Zx v) λb=>if a=.ref mE/\b=.type "tuple" then aG (.bool aU,σ)else aH)) us
def Yd:A0 n F (.type "type") IU:=λus σ r σ' e=>by refine oC e ?_;clear e;intro _ _ e;refine mT e ?_;clear e;intro e;refine G4 e ?_;clear e;intro l e;refine Ck e ?_;rintro rfl rfl;intro A X D h tk vs ok m r;obtain ⟨_,_,rfl,⟨x,xs,rfl,nx,a,c⟩,b⟩:=r;cases b;exact Ui a ⟨h,tk,D,σ,.fn (.ref mE),rfl,.refl,m,(by exact rfl:fW D (Yf F X D) h (.fn (.ref mE)) (.ref mE)),rfl,rfl⟩
def DG(c:K.In S.heap)(d:rQ K pn fn pm fm):A0 n F (.builtin "issubclass") WK:=λus σ r σ' e=>by refine oC e ?_;intro _ _ e;refine oC e ?_;intro _ _ e;refine mT e ?_;intro e;refine Vx e ?_;intro a e;refine Vx e ?_;clear e;intro b e;replace e:=iB e;obtain ⟨⟨rfl,rfl⟩,q⟩:=e;intro A X D h tk vs ok m r;obtain ⟨_,_,rfl,f,_,_,rfl,g,i⟩:=r;cases i;cases f;cases g;exact Rg (c.keeps m.base) d ⟨h,tk,D,σ,_,rfl,.refl,m,nW,.of q⟩
def Wz(ga:M cA):M V:=λσ=>bd (ga σ) λus σ=>aV (λu=>aI λi=>aN (ob (N2 u) λl=>if 0<=i/\aC l<1000 then (l[i.toNat]?).map λd=>(d,σ)else aH)) us
def Zb{E:pZ}{s:cS}{Q:bL×eW->qR}(X:K.In s.heap)(c:findCls K (.type "tuple") (.type "type") "__getitem__"=aG (.val (.builtin "tuple.__getitem__")))(h:∀tk,Q (.builtin "tuple.__getitem__",[]) {s with toks:=tk}):
  bW (model prog w) A (getMethod (.type "tuple") (aF "__getitem__") pl) Q E s:=by
 have L0:mK (model prog w) s.heap (typeOf (.type "tuple")) (.type "type"):=fY (by first|rfl|kernel_rfl:typeOf (.type "tuple")=pure (.type "type"));have a:findIn K (.type "type") "__getattribute__"=aG (aG (.builtin "type.__getattribute__")):=Kb;refine aK (aK (L0.here ((looks_findIn X a).here ?_)));dsimp only;refine aK (bK ?_ (λ_ _ z=>aW z) λ_ _ z=>z);refine cls_open X (fY (by unfold opaqueClassAbove;dsimp only;rfl:opaqueClassAbove (.type "tuple")=pure none)) L0 a (looks_hook X (by rfl)) (by rfl) c (aW ((?_:bW _ _ (handedOut (.builtin "tuple.__getitem__")) _ _ _)));exact aW (h _)
def GR(j:K.In S.heap)(z:rQ K pn fn pm fm)(c:findCls K (.type "tuple") (.type "type") "__getitem__"=aG (.val (.builtin "tuple.__getitem__")))(x:iP n F o (gK (.fn (.type "tuple"))))(k:nJ F args)(y:xH n F b args B)
  (C:eval (.Call (.Attribute o (aF "__getitem__") p) args [] b) F.env=(do
   let e<-eval o F.env
   gB p.atName
   let (f,first)<-holding [e] (getMethod e (aF "__getitem__") pl)
   kY b f first (backTo b (eD args F.env)) [])):iP n F (.Call (.Attribute o (aF "__getitem__") p) args [] b) (Wz B):=λσ v σ' q=>by
 replace q:=eJ q;obtain ⟨us,σ₁,g,q⟩:=q;revert g;refine oC q ?_;intro _ _ q;refine xG q ?_;intro i _ q;refine mT q ?_;intro q;refine G4 q ?_;intro l q;refine nn λa=>?_;obtain ⟨⟨hi,G⟩,H⟩:=iB q;refine a ?_;refine nn λa=>?_;obtain ⟨d,I,J⟩:=bZ.mp H;refine a ?_;intro g;intro A X D h tk vs ok m _;refine Sf (TW.atE (x σ _ _ rfl) ok m bN.nil ?_) C;rintro e h₀ fu D₀ L m₀ N;cases N;refine Zb (j.keeps m₀.base) c λO=>?_;refine (?_:bW _ _ _ _ _ (iZ h₀ O));refine sM (mD k) (Rr k (y _ _ _ g) ok m₀ ?_);rintro ir h₁ P D₁ Q r R;obtain ⟨_,_,rfl,⟨x1,xs,rfl,nx,T,s⟩,_,_,rfl,⟨t,rfl⟩,W⟩:=R;cases W;refine nn λa=>?_;obtain ⟨u,Y,Z⟩:=s.get I;refine a ?_;exact NS (j.keeps r.base) z T Y hi (by refine s.length▸?_;exact G) ⟨h₁,P,D₁,σ₁,d,rfl,L.trans Q,r,Z,.of (congrArg aG J)⟩
def Ih(a:cR)(i:Int)(g:M V):M V:=λσ=>bd (g σ) λo σ=>ob (Zx o) λv=>if v=.ref a then aG (.int i,σ)else aH
def Y7(f:K.In S.heap)(h1:K.lookup a=aG b)(h2:b.cls=.ref C)(h3:notCls b=aU)(h4:b.dict=aG d)(h5:K.lookup d=aG od)(j:plainGet K C name=aU)(k:findObj K C (aG od) name=aG (.value (.int i t)))
  (x:iP n F (.Name s p) g):iP n F (.Attribute (.Name s p) name l) (Ih a i g):=λσ v σ' q=>by
 obtain ⟨o,σ₁,c,q⟩:=eJ q;revert c;refine Vx q ?_;intro G q c;refine nn λy=>?_;replace q:=iB q;obtain ⟨rfl,z⟩:=q;refine y ?_;intro A X D h tk vs ok m _;refine (?_:bW _ _ (eval (.Name s p) F.env>>=λo=>gB l.atName>>=λ_=>holding [o] (getAttr o name aU)>>=λr=>letTemporaryGo (.Name s p) o r>>=λ_=>pure r) _ _ _);refine aK (TW.atE (x _ _ _ c) ok m bN.nil ?_);rintro u h₁ B D₁ st e r;cases r;have X1:=f.keeps e.base;exact aK (fM (aK (cJ (get_value X1 ⟨X1 _ _ h1,h2,h3,by refine h4▸?_;exact X1 _ _ h5⟩ (plainGet_of j).1 k rfl (aK (aW (aW ⟨h₁,B+1,D₁,_,_,rfl,st,e,jX,.of z⟩)))))))
def oF(i:Nat)(g:M V):M V:=λσ=>bd (g σ) λo σ=>ob (N2 o) λl=>ob l[i]? λd=>if dH l=aU/\aC l<1000/\d.pure=aU/\Dz d=aU then aG (d,σ)else aH
def D5(C:K.In S.heap)(G:rQ K pn fn pm fm)(H:findIn K (.ref mE) "__getattribute__"=aG (aG (.builtin "tuple.__getattribute__")))(I:findIn K (.ref mE) "__getattr__"=aG none)(f:findIn K (.ref mE) name=aG (aG (.ref a)))(J:specialIn K (.ref a) "__get__"=aG (aG (.ref gf)))(L:takesIn K (.ref a)=aG aU)
  (c:∀l d,dH l=aU->aC l<1000->d.pure=aU->l[i]?=aG d->Xn n (.ref gf) [.fn (.ref a),.mt l,.fn (.ref mE)] (λr=>r=d)) (x:iP (n+1) F (.Name s p) g):iP (n+1) F (.Attribute (.Name s p) name N) (oF i g):=λσ v σ' q=>by
 obtain ⟨o,σ₁,j,q⟩:=eJ q;revert j;refine G4 q ?_;intro l q j;obtain ⟨d,O,k⟩:=dS q;refine nn λP=>?_;obtain ⟨⟨t,Q,R,T⟩,W⟩:=iB k;refine P ?_;clear k;intro A X D h tk vs ok m _;refine (?_:bW _ _ (eval (.Name s p) F.env>>=λo=>gB N.atName>>=λ_=>holding [o] (getAttr o name aU)>>=λr=>letTemporaryGo (.Name s p) o r>>=λ_=>pure r) _ _ _);refine aK (TW.atE (x _ _ _ j) ok m bN.nil ?_);rintro u h₁ Y D₁ st b r;obtain ⟨x1,xs,rfl,nx,Z,rx⟩:=id r;refine aK (fM (aK (cJ (HG (C.keeps b.base) G Z H I f J L (bK (c l d t Q R O A.in1 (Yf F X D₁) h₁ (Y+1) _ (ok.in1 (mV n)) b.base (λa f=>?_) ?_) (λv s' p=>?_) λ_ _ e=>e.elim)))))
 .rcases f with z|z|⟨i,z⟩
  .exact (b.zfr a z).2
  .exact b.xal a z
  .exact (b.sep i a z).h
 .exact bN.stepP (λ_ _ e _=>e) (λ_ e=>.inl e) _ _ (by refine (?_:(aU&& (dH l&& (aU&&aU)))=aU);rw [t];rfl) ⟨_,_,rfl,rfl,_,_,rfl,r,_,_,rfl,rfl,rfl⟩
 .obtain ⟨h',aw,r',rfl,y,pr,rr,rfl⟩:=p;have B:fW D₁ (Yf F X D₁) h' r' v:=fW.stepP (λ_ _ e _=>e) (λ_ e=>.inl e) _ _ pr rr;exact Ē (handedOut_of (Ky T B)) (aW ⟨h',aw,D₁,_,_,rfl,st.trans (mZ.grow y),b.grow y,B,.of W⟩)
end
end
def Iv:mU:=λus σ=>aV (λa=>aN (ob (J0 σ a) λl=>ob (Ep FU l) λl'=>aG (.lst l',σ))) us
section
variable{n:Nat}{F:Fx}
def Pc:A0 n F (.builtin "sorted") Iv:=λus σ r σ' e=>by
 refine oC e λv _ e=>?_;refine mT e λe=>?_
 .refine nn λf=>?_;obtain ⟨l,Q,e⟩:=dS e;obtain ⟨l',c,e⟩:=dS e;replace c:=dS c;obtain ⟨R,I,c⟩:=c;refine f ?_;split at c
  .rename_i T;refine nn λf=>?_;obtain ⟨j,W⟩:=T;refine f ?_;refine pH c ?_;rintro rfl;intro A X D h tk ws ok m r;simp only [rN,rM]at r;obtain ⟨u,_,rfl,Y,rfl⟩:=r;obtain ⟨a,vs,k,rfl,s,J⟩:=Be m Q Y;obtain ⟨z,c6⟩:=FS MJ I J;have B:aC vs=aC R:=by simp only [Nk z];simp
   have L:=(Qd I).1.symm;have N:∀v∈vs,v≠.ref (h.objs.size+1):=λv Z q=>by subst q;obtain ⟨i,hi,ei⟩:=jO Z;obtain ⟨x,ts,nn,t1,t2,t3,ex,ke⟩:=Eb (d:=jG) (e:=(0,0,0)) z hi;replace ex:=(aY)▸ex;replace ex:=(bO hi)▸ex;replace ex:=ei▸ex;cases ex;exact absurd (dW ke) (lU.mpr (jW _))
   refine X3 (κ:=tuples' aU) s.isList (aT UP W B) (by simp only [B];exact Eu j) (λh1 C h2=>?_) λp h' aw g O G H=>?_
   .exact Zs h2 (Uc (λx s y t=>Ak (λb o _ e=>C b o e) t (N x s)) z) N j
   .rw [B]at g O;have P:=J.pick λi hi=>by have:=g.perm.mem_iff.mp hi;refine L▸?_;simpa using this
    rw [L,(O2 j g O)]at P;obtain ⟨mm,H⟩:=H;have r5:h.get? (h.objs.size+1)=aH:=by
     cases q:h.get? (h.objs.size+1)with
     |none=>rfl
     |some o=>exact absurd (dW q) (lU.mpr (jW _))
    exact ⟨h',aw,D,σ,_,rfl,mZ.grow G,m.grow G,wR m r5 G ⟨mm,H⟩ P,.of e⟩
  .exact gG c
end
abbrev ď:={h:dF // ∀b o,S.heap.get? b=aG o->h.get? b=aG o}
def Ob(env:ľ)(B:ď):Fx:={env:=env,bnd:=[],Z:=[],B:=B}
noncomputable def s0:St:=⟨[],[],0⟩
def uX(σ:St)(i:Nat):M V:=λτ=>ob (lk σ.loc i) λv=>ob (B6 v) λk=>aG (.int k,τ)
def D9(yi:Nat)(gt:V->St->Option St)(gb:St->M cA):M V:=λσ=>ob (lk σ.loc yi) λr=>ob (Jz r) λnn=>aL σ nn λl=>if dH l=aU then bd (yJ gt (gb σ) l s0) λxs _=>if aC xs<=lim/\(uS xs).isSome=aU then aG (.lst xs,σ)else aH else aH
def GC{Y Y':gI}:∀{xs:cA}{us:eW},(uS xs).isSome=aU->bN D Y h xs us->bN D' Y' h' xs us:=by
 intro xs
 induction xs with
 |nil=>intro us _ r;exact r
 |cons x xs b=>
  intro us e r;obtain ⟨u,us,rfl,c,d⟩:=r;replace e:=eF.mp e;obtain ⟨l,e⟩:=e;replace e:=dS e;obtain ⟨i,a,e⟩:=e;obtain ⟨l',f,e⟩:=dS e;have g:x=.int i:=by cases x<;>first|cases a;rfl|cases a
  subst g;exact ⟨u,us,rfl,c,b (eF.mpr ⟨l',f⟩) d⟩
section
variable{n:Nat}{F:Fx}{tab:List (Nat×iS)}
def wZ{X:gI}(T:tY F tab)(l:(i,s)∈tab)(r:F.env.kindOf s=aG .cell)(m:gU F X D σ h)(x:F'.env.scope.kind=.function)(h1:F'.env.kindOf s=aG .cell)(h2:F'.env.cells.lookup s=F.env.cells.lookup s)(hd:(s== ("__debug__":iS))=bR)(y:F'.B.1=h):
  iP n F' (.Name s N) (uX σ i):=λτ v τ' e=>by
 replace e:=dS e;obtain ⟨d,z,e⟩:=e;replace e:=dS e;obtain ⟨k,f,e⟩:=e;have C:d=.int k:=by cases d<;>first|cases f;rfl|cases f
 subst C;cases e;intro A X' D' h' tk vs ok g _;refine nn λa=>?_;obtain ⟨p,G,j⟩:=T.ok i s l;obtain ⟨O,P,u,b1,H,I⟩:=m.loc i _ z;refine a ?_;replace b1:=G▸b1;refine nn λa=>?_;cases b1;obtain ⟨t,rfl⟩:=I;refine a ?_
 cases p with
 |loc L=>have:=j.2;replace this:=r▸this;cases this
 |cel c=>have J:=aE2 H λb o e=>g.fb b o (y▸e);exact wpAny_Name (Ĳ x h1 (h2.trans j.2) J ⟨h',tk,D',_,.int k,rfl,.refl,g,(jX:fW D' (Yf F' X' D') h' (.int k) (.int k t)),rfl,rfl⟩) hd
def fk0{B:ď}(h:env.scope.kind=.function):hO (Ob env B)where
 kind:=h
 inZ:=λx p s e=>gG e
 dist:=λx y p s a b e _ _=>gG e
def aCb{B:ď}(h:env.scope.kind=.function):tY (Ob env B) []:=⟨fk0 h,λx s h=>nomatch h⟩
def ŏ{h:dF}(env:ľ)(d:∀b o,S.heap.get? b=aG o->h.get? b=aG o):gU (Ob env ⟨h,d⟩) (λ_=>False) [] s0 h where
 fb:=λb o e=>e
 loc:=λx v e=>gG e
 frm:=λx p s e=>gG e
 cel:=λn c e=>gG e
 inj:=λn f a e=>gG e
 sep:=λn a e=>gG e
 zfr:=λa e=>nomatch e
 xal:=λa e=>e.elim
def yf0{P:Prop}{B:ď}(q:Yf (Ob env B) (λ_=>False) [] a):P:=by
 rcases q with q|q|⟨i,q⟩
 .exact nomatch q
 .exact q.elim
 .exact gG q
theorem Y2{body:cR->cR->Ag Unit}{gt:V->St->Option St}{gb:St->M cA}
  (T:tY F tab) (vo:(yi,ny)∈tab) (vp:(ny== ("__debug__":iS))=bR) (ze:g.iter=.Name ny w6) (c6:names≠[]) (ja:names.Nodup) (ha:(g.is_async != 0)=bR)
  (ka:swapsWith (.ListComp G (g::gs) scope H) (aG (.Name yn py)) spos.line F.env=pure aU) (J:(xi,yn)∈tab)
  (j7:∀u,evalThenUse (.ListComp G (g::gs) scope H) F.env u=(comprehension (.ListComp G (g::gs) scope H) scope F.env pos' (newList []) bR (eval g.iter F.env) (aG u)>>=λ_=>pure ()))
  (hf:∀x,foldedSetIterable g.iter F.env x=pure x) (cw:closureFor scope F.env=pure cl) (cf:∀y∈scope.names,y.2≠.cell) (L:scope.kind=.function)
  (bw:∀y∈scope.names,y.2=.local->scope.names.lookup y.1=aG .local) (d9:∀s∈names,(relabel scope F.env).names.lookup s=aG .local)
  (dg:∀C a I,compTurn (.ListComp G (g::gs) scope H) 0 (.ref I) (.ref a) (fC scope cl C F.env)=(gB p>>=λ_=>pyNext (.ref I)>>=λr=>match r with
   |none=>pure (.done .next)
   |some v=>iH g.target (.ref I) v>>=λ_=>assign g.target (fC scope cl C F.env) v>>=λ_=>body C a>>=λ_=>again (.compLoop (.ListComp G (g::gs) scope H) 0 (.ref I) (.ref a) (fC scope cl C F.env))))
  (y:∀(B:ď) C,tY (nM (Ob F.env B) scope cl C base names) (Ar base names)->Dg n (nM (Ob F.env B) scope cl C base names) g.target gt)
  (z:∀X D σ h (m:gU F X D σ h) C a,tY (nM (Ob F.env ⟨h,m.base⟩) scope cl C base names) (Ar base names)->∀τ xs τ',gb σ τ=aG (xs,τ')->CB n (nM (Ob F.env ⟨h,m.base⟩) scope cl C base names) a (body C a) τ xs τ'):
  A5 n F (.Assign [.Name yn py] (.ListComp G (g::gs) scope H) spos) (fU (D9 yi gt gb) (cG xi)):=λk σ f σ' e=>by
 have fk:=T.fk;obtain ⟨p0,oj,du⟩:=T.ok xi yn J;replace e:=eJ e;obtain ⟨v,σv,c,e⟩:=e;replace c:=dS c;obtain ⟨t,b1,c⟩:=c;revert b1;refine G3 c ?_;clear c;intro nn c;intro b1;replace c:=Pe c;obtain ⟨l,b2,c⟩:=c;replace c:=iB c;obtain ⟨q8,c⟩:=c;replace c:=eJ c;obtain ⟨xs,be,e2,c⟩:=c;replace c:=iB c;obtain ⟨⟨dp,vq⟩,c⟩:=c;cases c;refine Ck e ?_;rintro rfl rfl;intro A X D h tk ok m;refine (exec_Assign_Name_used _ _ _ _ ka)▸(aK (fM (aK ?_)));rw [j7];refine aK (bK ?_ (λ_ s' hq=>aW (aW hq)) λ_ _ z=>z);have e1:aP yi σ=aG (.ref nn,σ):=by unfold aP;refine b1▸?_;rfl
 refine sJ rfl hf cw L bw ?_;simp only [ze];refine TW.atE (dA T vo vp _ _ _ e1) ok m bN.nil ?_;rintro u h₀ fu D₀ st m₀ t;replace t:=K7 m₀ b2 t;obtain ⟨a0,zf,kc,rfl,O,zg,zh⟩:=t;have i4:Fv (.lst l)=aG l:=by simp [Fv,oo,Fc,SG,Ta,q8,ob]
 refine Wm ok (ŏ F.env m₀.base) i4 (⟨a0,zf,rfl,λq=>yf0 q,⟨kc,zg⟩,bN.stepP (λ_ _ e _=>e) (λb q=>yf0 q) _ _ q8 zh⟩) λI d wk=>?_;obtain ⟨wi,m1,fo,gj⟩:=wk.toIn (ŏ F.env m₀.base);refine nP (Ff cf (by intro y J;simp at J) (λbf P Q=>?_) L);dsimp only at P Q⊢;generalize j8:d.push {cls:=.type "list",dict:=aH,data:=.seq ([]:eW).toArray}=H2 at P Q⊢;have z2:H2.objs.size=d.objs.size+1:=by simp only [<-j8,eY]
 have R:∀b o,d.get? b=aG o->H2.get? b=aG o:=λb o e=>j8▸cY _ _ b o e;have W:∀b o,H2.get? b=aG o->bf.get? b=aG o:=λb o e=>Q.extBut b o (fI (dW e)) (cY _ _ b o e);have aN:d.get? d.objs.size=aH:=eE _;have Y:H2.get? H2.objs.size=aH:=eE _;have cN:d.get? H2.objs.size=aH:=by
  cases q:d.get? H2.objs.size with
  |none=>rfl
  |some o=>rw [R _ _ q]at Y;exact De Y
 have Z:∀b,d.get? b=aH->h₀.get? b=aH:=λb e=>by
  cases q:h₀.get? b with
  |none=>rfl
  |some o=>rw [fo _ _ q]at e;exact De e
 have km:=j8▸A9 _ _;have eh:∀b,h₀.get? b=aH->b∉F.Z/\¬X b/\(∀i,lk D₀ i≠aG b)/\F.B.1.get? b=aH:=λb e=>by
  refine ⟨λq=>?_,λq=>?_,λi q=>?_,?_⟩
  .exact ((m₀.zfr b q).2).no e
  .exact (m₀.xal b q).no e
  .exact ((m₀.sep i b q).h).no e
  .cases q:F.B.1.get? b with
   |none=>rfl
   |some o=>rw [m₀.fb b o q]at e;exact De e
 obtain ⟨aZ,aX,aD,aB⟩:=eh _ (Z _ aN);obtain ⟨cZ,cX,cD,cB⟩:=eh _ (Z _ cN);have l6:d.objs.size≠H2.objs.size:=by exact aT 0x2862e92c015a0e1002 z2
 generalize hC:H2.objs.size=C at *;have m2:=m1.addX R λb hb=>by obtain rfl:=aM.mp hb;exact ⟨aN,_,km⟩
 have w7:∀x q,lk (Ob F.env ⟨h₀,m₀.base⟩).bnd x=aG q->x<base:=λx q e=>gG e;have l7:gU (nM (Ob F.env ⟨h₀,m₀.base⟩) scope cl C base names) (gR [I] (gR [d.objs.size] λ_=>False)) [] s0 bf:=(m2.into w7 W Y P).dropX λb q=>by
  rcases q with q|q|q
  .exact jQ (jR q)
  .exact jR q
  .exact jQ (jQ q)
 have kh:=wi.up (scope:=scope) (cl:=cl) (base:=base) (names:=names) (λb o e=>W b o (R b o e)) aN cN;have l8:d.objs.size∉(nM (Ob F.env ⟨h₀,m₀.base⟩) scope cl C base names).Z:=λq=>by
  rcases aR.mp q with q|q
  .exact l6 q
  .exact nomatch q
 have tt:tY (nM (Ob F.env ⟨h₀,m₀.base⟩) scope cl C base names) (Ar base names):=by have:=Fw (cap:=[]) (aCb (env:=F.env) fk.kind) L (C:=C) (cl:=cl) (scope:=scope) (base:=base) (names:=names) (λq=>nomatch q) ja w7 (λp hp=>nomatch hp) d9;exact this
 have gd:=xC (F:=nM (Ob F.env ⟨h₀,m₀.base⟩) scope cl C base names) (tk:=fu+([]:List (iS×bL)).length) tt.fk ok (jR (by simp)) l8 (Z _ aN) rfl (rK (.lst _ _ _ _)) (dg _ _ I) kh l7 (⟨[],_,W _ _ km,⟨0,rfl⟩,bN.nil⟩) (y _ _ tt) (z _ _ _ _ m₀ _ _ tt) e2 (bV (by simpa using dp) nL);try clear T;try clear vo;try clear vp;try clear ze;try clear ja;try clear ka;try clear J;try clear j7;try clear hf;try clear cw;try clear cf;try clear L;try clear bw;try clear d9;try clear dg;try clear y;try clear z;try clear f;try clear nn;try clear c;try clear b1;try clear D;try clear h;try clear tk;try clear ok;try clear hq;try clear u;try clear fu;try clear t;try clear I;try clear wk;try clear bf;try clear P;try clear Q;try clear x;try clear p;try clear hp;try clear p0;try clear v;try clear l;try clear b2;try clear q8;try clear e2;try clear dp;try clear a0;try clear zf;try clear kc;try clear O;try clear zg;try clear zh;try clear wi;try clear m1;try clear fo;try clear gj;try clear aB;try clear aN;try clear km;try clear e1;try clear r00;try clear i4;try clear z2;try clear R;try clear W;try clear jz;try clear Y;try clear eh;try clear m2;try clear w7;try clear l7;try clear l8;try clear tt
 refine nR (rJ (g:=g) (.lst _ _ _ _) rfl ha gd (kh.self gd)) λr s' pp=>?_;try clear vo;try clear vp;try clear ze;try clear ja;try clear ha;try clear ka;try clear J;try clear j7;try clear hf;try clear cw;try clear cf;try clear L;try clear bw;try clear d9;try clear dg;try clear y;try clear z;try clear m;try clear r;try clear f;try clear nn;try clear c;try clear b1;try clear D;try clear h;try clear tk;try clear ok;try clear s';try clear hq;try clear u;try clear fu;try clear t;try clear I;try clear wk;try clear bf;try clear P;try clear Q;try clear x;try clear p;try clear hp;try clear p0;try clear v;try clear l;try clear b2;try clear q8;try clear e2;try clear dp;try clear a0;try clear zf;try clear kc;try clear O;try clear zg;try clear zh;try clear wi;try clear m1;try clear fo;try clear gj;try clear aB;try clear aN;try clear km;try clear e1;try clear r00;try clear i4;try clear z2;try clear R;try clear W;try clear jz;try clear Y;try clear eh;try clear m2;try clear w7;try clear l7;try clear kh;try clear l8;try clear tt;try clear gd
 obtain ⟨rfl,h',aw,D',rfl,jw,m',gu⟩:=pp;have kb:∀b o,h₀.get? b=aG o->h'.get? b=aG o:=λb o e=>m'.fb b o e;have hC':tI h' C:=(m'.zfr C aQ).2;obtain ⟨nm,ns,ub⟩:=wI c6;have ma:sX h' (.loc C):=m'.frm base (.loc C) nm (by refine (?_:lk ([]++Yj C base names) base=_);refine ub▸?_;simp [D0,eP]);obtain ⟨mm,qt⟩:=ma;obtain ⟨us,_,hu,⟨cc,rfl⟩,ru⟩:=gu;have m5:gU F (gR [C] X) D₀ σ h':=m₀.addX kb λb hb=>by refine (aM.mp hb)▸?_;exact ⟨Z _ cN,hC'⟩
 have mz:fW D₀ (Yf F (gR [C] X) D₀) h' (.lst xs) (.ref d.objs.size):=by
  refine ⟨_,us,rfl,λq=>?_,⟨cc,hu⟩,GC vq ru⟩;rcases q with q|(q|q)|⟨i,q⟩
  .exact aZ q
  .exact l6 (aM.mp q)
  .exact aX q
  .exact aD i q
 refine (?_:bW iC A (assign (.Name yn py) F.env (.ref d.objs.size)) _ _ (iZ h' aw));refine pI (wP fk m5 oj du mz λbk br m6 nv=>?_);refine ⟨mm,?_,λjp ii=>?_⟩
 .exact Ns.keep1 qt (λo e=>nv.keep _ o e cZ cD)
 .have m7:gU F X D₀ {σ with loc:=put xi (.lst xs) σ.loc} jp:=gU.leave (N:=[C]) fk m6 (λb j=>by refine (aM.mp j)▸?_;exact cZ) (λb j=>by refine (aM.mp j)▸?_;exact cB) (λb j=>by rw [aM.mp j];exact cX) (λb o j e=>ii.extBut b o (λq=>j (by simp only [q];exact aM.mpr rfl)) e);have nC:∀b o,h₀.get? b=aG o->b≠C:=λb o e q=>by rw [q,Z _ cN]at e;exact gG e
  have vj:mZ F D₀ h₀ D₀ jp:=⟨λb o e hz hd=>ii.extBut b o (nC b o e) (nv.keep b o (kb b o e) hz hd),nv.ext,λi b e=>.inl e,λb o e=>by obtain ⟨o',e'⟩:=nv.al b o (kb b o e);exact ⟨o',ii.extBut b o' (nC b o e) e'⟩⟩;exact ⟨jp,br,D₀,_,.next,rfl,(st.trans vj).toK k,m7,Iy.next,rfl,rfl⟩
def Qm{gt:V->St->Option St}{gc:St->M Bool}
  (T:tY F tab) (l:(yi,b)∈tab) (o:(b== ("__debug__":iS))=bR) (p:swapsWith (.ListComp f [⟨t0,.Name b g,[c],0⟩] scope i) (aG (.Name yn py)) spos.line F.env=pure aU) (d:(xi,yn)∈tab) (r:names≠[]) (s:names.Nodup)
  (t:∀x,foldedSetIterable (.Name b g) F.env x=pure x) (v:(scope.names.all λx=> !(x.2==.free)|| (F.env.cells.lookup x.1).isSome)=aU) (A:(scope.names.all λy=>y.2 != .cell)=aU) (G:scope.kind=.function)
  (H:(scope.names.all λy=>y.2 != .local||scope.names.lookup y.1==aG .local)=aU) (J:yR F scope names)
  (y:∀(B:ď) C,tY (nM (Ob F.env B) scope (gW scope F.env) C base names) (Ar base names)->Dg n (nM (Ob F.env B) scope (gW scope F.env) C base names) t0 gt)
  (u:∀X D σ h (m:gU F X D σ h) C,tY (nM (Ob F.env ⟨h,m.base⟩) scope (gW scope F.env) C base names) (Ar base names)->Z1 n (nM (Ob F.env ⟨h,m.base⟩) scope (gW scope F.env) C base names) c (gc σ))
  (z:∀(B:ď) C,tY (nM (Ob F.env B) scope (gW scope F.env) C base names) (Ar base names)->iP n (nM (Ob F.env B) scope (gW scope F.env) C base names) f L):
  A5 n F (.Assign [.Name yn py] (.ListComp f [⟨t0,.Name b g,[c],0⟩] scope i) spos) (fU (D9 yi gt (λσ=>yQ (gc σ) (kD L))) (cG xi)):=by
 refine Y2
  T l o rfl r s rfl p d (λ_=>rfl) t (oY v) (λy d=>?_) G (λy d N=>?_) J.at (λC a I=>E2 f t0 (.Name b g) c scope i (.ref I) a (fC scope (gW scope F.env) C F.env)) y
  (λX D σ h m C a T1 τ xs τ' q=>WP (u X D σ h m C T1) (λ_ _ _ q=>C6 T1.fk (z _ C T1) q) q)
 .have:=dO.mp A y d;intro e;replace this:=e▸this;exact absurd this (by decide)
 .have:=dO.mp H y d;replace this:=N▸this
  cases j:scope.names.lookup y.1 with
  |none=>rw [j]at this;exact absurd this (by decide)
  |some k=>rw [j]at this;cases k<;>first|rfl|exact absurd this (by decide)
end
def Th{P:Nat->Prop}(h:∃n,P n):∃n,P n/\∀m,P m->n<=m:=by
 obtain ⟨n,b⟩:=h
 induction n using vK with
 |_ n c=>
  by_cases h:∃m,m<n/\P m
  .obtain ⟨m,a,d⟩:=h;exact c m a d
  .exact ⟨n,b,λm a=>fD λe=>h ⟨m,e,a⟩⟩
def ZT{P:Nat->Prop}{b:Nat}(e:∀n,P n->n<=b)(h:∃n,P n):∃n,P n/\∀m,P m->m<=n:=by
 obtain ⟨n,f⟩:=h
 induction hd:b-n using vK generalizing n with
 |_ d g=>
  by_cases h:∃m,n<m/\P m
  .obtain ⟨m,a,c⟩:=h;exact g (b-m) (by simp only [<-hd];exact qU (dC a (e m c)) a) m c rfl
  .exact ⟨n,f,λm a=>fD λi=>h ⟨m,i,a⟩⟩
def SC(A B:bE)(ao az bo bz:Nat):∃t,vF A B ao az bo bz t:=by
 by_cases h:∃k,0<k/\∃i j,Cr A B ao az bo bz i j k
 .obtain ⟨k,⟨f,h1⟩,h2⟩:=ZT (b:=az) (λn o=>by obtain ⟨_,i,j,c⟩:=o;have:=c.a1;exact aT EP this) h;obtain ⟨i,⟨p,c0⟩,h3⟩:=Th h1;obtain ⟨j,c,h4⟩:=Th (P:=λj=>Cr A B ao az bo bz i j k) ⟨p,c0⟩;refine ⟨(i,j,k),λe=>absurd e (iT f),λ_=>c,λd g r s l=>⟨h2 r ⟨s,d,g,l⟩,λe=>?_⟩⟩;subst e;have a:=h3 d ⟨g,l⟩;rcases kL i d with m|m
  .exact .inl m
  .have e:i=d:=by exact aT 0x56315840900521002 a m
   exact .inr ⟨e,h4 g (e▸l)⟩
 .exact ⟨(ao,bo,0),λ_=>rfl,λe=>absurd e (eG 0),λi j k f c=>absurd ⟨k,f,i,j,c⟩ h⟩
def Q6(A B:bE)(ao az bo bz:Nat):vF A B ao az bo bz (K0 A B ao az bo bz):=by obtain ⟨t,h⟩:=SC A B ao az bo bz;simp only [Ub h];exact h
def Ej(e f:T3):Prop:=e.1+e.2.2<=f.1/\e.2.1+e.2.2<=f.2.1
def OnE(Es:jU)(i j:Nat):Prop:=∃e∈Es,∃t,t<e.2.2/\i=e.1+t/\j=e.2.1+t
structure Al(A B:bE)(Es:jU):Prop where
 ord:Es.Pairwise Ej
 run:∀e∈Es,0<e.2.2/\Cr A B 0 (aC A) 0 (aC B) e.1 e.2.1 e.2.2
 max:∀e∈Es,∀i j k t t',Cr A B 0 (aC A) 0 (aC B) i j k->t<k->t'<e.2.2->i+t=e.1+t'->j+t=e.2.1+t'->e.1<=i/\i+k<=e.1+e.2.2
 off:∀i j k,0<k->Cr A B 0 (aC A) 0 (aC B) i j k->(∀t,t<k->¬OnE Es (i+t) (j+t))->
   (∃e∈Es,e.1<=i/\i+k<=e.1+e.2.2/\(k<e.2.2\/e.2.1<j\/∃e'∈Es,e'.2.1<=j/\j+k<=e'.2.1+e'.2.2))\/
   (∃e∈Es,e.2.1<=j/\j+k<=e.2.1+e.2.2/\(k<e.2.2\/e.1<i))\/
   (∃f∈Es,k<f.2.2/\(i<f.1/\f.2.1+f.2.2<=j\/j<f.2.1/\f.1+f.2.2<=i))
def InR(ao az bo bz:Nat)(e:T3):Prop:=ao<=e.1/\e.1+e.2.2<=az/\bo<=e.2.1/\e.2.1+e.2.2<=bz
noncomputable instance aDq(ao az bo bz:Nat)(e:T3):Decidable (InR ao az bo bz e):=inferInstanceAs (Decidable (_/\_/\_/\_))
section
variable{A B:bE}{Es:jU}{ao az bo bz:Nat}
def Cr.mono{a b c d i j k:Nat}(h:Cr A B ao az bo bz i j k)(h1:a<=ao)(h2:az<=b)(h3:c<=bo)(h4:bz<=d):Cr A B a b c d i j k:=by have:=h.a0;have:=h.a1;have:=h.b0;have:=h.b1;exact ⟨by exact aT Tn h1 ‹_›,by exact aT OO h2 ‹_›,by exact aT Tn h3 ‹_›,by exact aT OO h4 this,h.eq⟩
end
section
set_option backward.match.sparseCases false
noncomputable def kN(o:qY):sL:=match o.data with
 |.func fd=>fd
 |_=>default
noncomputable def tN:List (iS×bL):=[(aF "tuple",.type "tuple"),(aF "len",.builtin "len"),(aF "set",.type "set"),(aF "enumerate",.type "enumerate"),(aF "range",.type "range"),(aF "list",.type "list"),(aF "map",.type "map"),(aF "sorted",.builtin "sorted"),(aF "max",.builtin "max"),(aF "Match",.ref 135),(aF "SequenceMatcher",.ref 242),(aF "sum",.builtin "sum"),(aF "min",.builtin "min"),(aF "type",.type "type"),(aF "issubclass",.builtin "issubclass"),(aF "_law_kept",.ref 251),(aF "_law_firm",.ref 256),(aF "_law_walk",.ref 263),(aF "_law_merge",.ref 270),(aF "_law_join",.ref 277)]
structure Gd:Prop where
 K:(fr w.params).In S.heap
 lim:S.heap.NoLimit
 glo:∀env:ľ,env.globals=mainGlobals->env.builtins=builtinsNs->∀s v,(s,v)∈tN->Glo env s v
def F5:(aF "tuple",kQ "tuple")∈tN:=aJ (i:=0) rfl
def oK:(aF "len",oT "len")∈tN:=aJ (i:=1) rfl
def WA:(aF "set",kQ "set")∈tN:=aJ (i:=2) rfl
def Ex:(aF "enumerate",kQ "enumerate")∈tN:=aJ (i:=3) rfl
def oJ:(aF "range",kQ "range")∈tN:=aJ (i:=4) rfl
def Ý:(aF "list",kQ "list")∈tN:=aJ (i:=5) rfl
def aAr:(aF "map",kQ "map")∈tN:=aJ (i:=6) rfl
def HI:(aF "sorted",oT "sorted")∈tN:=aJ (i:=7) rfl
def aAq:(aF "max",oT "max")∈tN:=aJ (i:=8) rfl
def Wy:(aF "Match",mJ 135)∈tN:=aJ (i:=9) rfl
def C1:(aF "SequenceMatcher",mJ 242)∈tN:=aJ (i:=10) rfl
def aAp:(aF "sum",oT "sum")∈tN:=aJ (i:=11) rfl
def WB:(aF "min",oT "min")∈tN:=aJ (i:=12) rfl
def Ü:(aF "type",kQ "type")∈tN:=aJ (i:=13) rfl
def Nb:(aF "issubclass",oT "issubclass")∈tN:=aJ (i:=14) rfl
def Ey:(aF "_law_kept",mJ 251)∈tN:=aJ (i:=15) rfl
def vY:(aF "_law_firm",mJ 256)∈tN:=aJ (i:=16) rfl
def Qu:(aF "_law_walk",mJ 263)∈tN:=aJ (i:=17) rfl
def Nc:(aF "_law_merge",mJ 270)∈tN:=aJ (i:=18) rfl
def Ez:(aF "_law_join",mJ 277)∈tN:=aJ (i:=19) rfl
def Gd.one(G:Gd):tI S.heap sysModules:=⟨boot_o_1 w.params,G.K 1 _ (by kernel_rfl)⟩
def Gd.e{n:Nat}{F:Fx}{s:iS}{a:ķ}{v:bL}(G:Gd)(fk:hO F)(h1:F.env.globals=mainGlobals)(h2:F.env.builtins=builtinsNs)(b:(s,v)∈tN)(c:F.env.kindOf s=aG .globalImplicit)(hd:(s== ("__debug__":iS))=bR):iP n F (.Name s a) (gK (.fn v)):=
 GT fk c (G.glo _ h1 h2 _ _ b) hd
def Co(P:fK):rQ (fr P) 136 82 91 89 where
 obj:=⟨_,_,_,_,(by kernel_rfl:(fr P).lookup mE=aG MineH.o135v0),rfl,rfl,rfl,rfl,rfl⟩
 call:=by kernel_rfl
 typ:=by kernel_rfl
 init:=by kernel_rfl
 reads:=by kernel_rfl
 new:=by kernel_rfl
 newR:=⟨((recIn (fr P) 136 "staticmethod").getD []).tail,by kernel_rfl⟩
 tnew:=by kernel_rfl
 make:=by kernel_rfl
 makeR:=⟨((recIn (fr P) 91 "classmethod").getD []).tail,by kernel_rfl⟩
 iter:=by kernel_rfl
 lt:=by kernel_rfl
noncomputable def Sr:lT:=[aF "_cls",aF "a",aF "b",aF "size"]
def aA2(P:fK):lH (kN Ph) Sr:=.of (by kernel_rfl)
def aDn:Nat->M Fl:=eU (xP (gK (.str (aF "Create new instance of Match(a, b, size)")))) (tQ (HJ (aS (aP 0) (aS (kC (aS (aP 1) (aS (aP 2) (aS (aP 3) bP)))) bP))))
def aAj{n:Nat}{L:cR}(G:Gd):Fd n (vH (kN Ph) L 82 Sr) (cH (at_ [3,4])) aDn:=by
 have T:=(aA2 w.params).tab L 82;exact bM (eZ rfl rfl uF) (dE (nN (Qn G.K (Co w.params) (G.e T.fk rfl rfl F5 (by kernel_rfl) (by decide)) ⟨rfl,rfl,trivial⟩
  (fN (dA T (aJ (i:=0) rfl) (by decide)) (fN (dQ (fN (dA T (aJ (i:=1) rfl) (by decide)) (fN (dA T (aJ (i:=2) rfl) (by decide)) (fN (dA T (aJ (i:=3) rfl) (by decide)) bF rfl) rfl) rfl)) bF rfl) rfl) rfl)))
def aAv{n:Nat}(G:Gd)(a b c:Int):Uu (n+1) (.ref 82) [.fn (.ref mE),.int a,.int b,.int c] (λr=>r=.mt [.int a,.int b,.int c]):=by
 refine zY (fd:=kN Ph) (o:=Ph) (tab:=Sr) (body:=cH (at_ [3,4])) (aA2 w.params) (G.K 82 _ (by kernel_rfl)) rfl G.lim (codeRec_of G.K (by kernel_rfl)) rfl (λvs h=>?_) (by show (4:Nat)<=4;decide) rfl λL=>?_
 .revert vs;exact ll4 λ_ _ _ _=>by kernel_rfl
 .refine kO (aAj G 0 _ _ _ (by rfl)) ?_;rintro _ _ ⟨rfl,rfl⟩;exact ⟨_,rfl,rfl,rfl⟩
noncomputable def Q0:Nat->M Fl:=λ_ _=>aH
def Cy{n:Nat}{F:Fx}{b:List tR}:Fd n F b Q0:=λk σ f σ' e=>by exact gG e
noncomputable def Lx:lT:=[aF "cls",aF "iterable",aF "result"]
def WL(P:fK):lH (kN Pg) Lx:=.of (by kernel_rfl)
def aAt:Nat->M Fl:=eU (xP (gK (.str (aF "Make a new Match object from a sequence or iterable")))) (eU (fU (HJ (aS (aP 0) (aS (aP 1) bP))) (cG 2))
 (eU (yF (gM (bJ W1 (eV WM (aS (aP 2) bP)) (gK (.int 3)))) Q0 (nA .next)) (tQ (aP 2))))
def Ô{n:Nat}{L:cR}(G:Gd):Fd n (vH (kN Pg) L 89 Lx) (cH (at_ [3,5])) aAt:=by
 have T:=(WL w.params).tab L 89;exact bM (eZ rfl rfl uF) (bM (eQ (Qn G.K (Co w.params) (G.e T.fk rfl rfl F5 (by kernel_rfl) (by decide)) ⟨rfl,rfl,trivial⟩
  (fN (dA T (aJ (i:=0) rfl) (by decide)) (fN (dA T (aJ (i:=1) rfl) (by decide)) bF rfl) rfl) rfl) (rD T (aJ (i:=2) rfl)) rfl rfl rfl)
  (bM (jS (dU D6 (tE (G.e T.fk rfl rfl oK (by kernel_rfl) (by decide)) (.inl ⟨_,rfl⟩) (DK G.K (Co w.params) (by kernel_rfl)) ⟨rfl,trivial⟩ (fN (dA T (aJ (i:=2) rfl) (by decide)) bF rfl) rfl) bT rfl) Cy iD) (dE (nN (dA T (aJ (i:=2) rfl) (by decide))))))
def â{n:Nat}(G:Gd)(a b c:Int):Uu (n+1) (.ref 89) [.fn (.ref mE),.tup [.int a,.int b,.int c]] (λr=>r=.mt [.int a,.int b,.int c]):=by
 refine zY (fd:=kN Pg) (o:=Pg) (tab:=Lx) (body:=cH (at_ [3,5])) (WL w.params) (G.K 89 _ (by kernel_rfl)) rfl G.lim (codeRec_of G.K (by kernel_rfl)) rfl (λvs h=>?_) (by show (2:Nat)<=3;decide) rfl λL=>?_
 .revert vs;exact VX λ_ _=>by kernel_rfl
 .refine kO (Ô G 0 _ _ _ (by rfl)) ?_;rintro _ _ ⟨rfl,rfl⟩;exact ⟨_,rfl,rfl,rfl⟩
end
section
variable{n:Nat}{F:Fx}
def Gd.f{s:iS}{v:bL}(G:Gd)(fk:hO F)(a:(s,v)∈tN)(h1:F.env.globals=mainGlobals:=by rfl)(h2:F.env.builtins=builtinsNs:=by rfl)(b:F.env.kindOf s=aG .globalImplicit:=by kernel_rfl)(hd:(s== ("__debug__":iS))=false:=by decide):iP n F (.Name s c) (gK (.fn v)):=G.e fk h1 h2 a b hd
def nsA:∀{es:List Expr},es.all vV=aU->nJ F es:=by
 intro es
 induction es with
 |nil=>intro _;trivial
 |cons e es a=>intro h;simp only [oZ,dT]at h;exact ⟨Kc h.1,a h.2⟩
def ckB{id:String}:KQ (.builtin id):=.inl ⟨_,rfl⟩
def cl{d:mU}(x:iP n F (.Name s p) (gK (.fn v)))(o:A0 n F v d)(y:xH n F a args g)(b:KQ v:=by exact ckB)(c:args.all vV=true:=by rfl):iP n F (.Call (.Name s p) args [] a) (eV d g):=tE x b o (nsA c) y rfl
def ln(x:iP n F (.Name s p) (gK (.fn (.builtin "len"))))(y:iP n F e g)(a:vV e=true:=by rfl):iP n F (.Call (.Name s p) [e] [] b) (eV oG (aS g bP)):=tE x ckB Vv ⟨Kc a,trivial⟩ (ic y bF a) rfl
def rl(x:iP n F (.Name "range" p) (gK (.fn (.type "range"))))(y:iP n F e g)(a:vV e=true:=by rfl):Rz n F (.Call (.Name "range" p) [e] [] b) (gH (aS g bP)):=Kt x ⟨Kc a,trivial⟩ (ic y bF a) rfl
def ix(x:iP n F value b)(y:iP n F a c)(d:∀o i,subscripted a bR o i=operate [o,i] (getItem o i):=by intros;rfl):iP n F (.Subscript value a e) (bJ fT b c):=qF (QO d) x y
def la{pl:Ag Bool}(fk:hO F)(x:iP n F o h)(y:iP n F e g)(b:vV e=true:=by rfl)(i:eval (.Call (.Attribute o "append" c) [e] [] a) F.env=(do
   let d<-eval o F.env
   gB c.atName
   let (f,first)<-holding [d] (getMethod d "append" pl)
   kY a f first (backTo a (eD [e] F.env)) []):=by rfl):iP n F (.Call (.Attribute o "append" c) [e] [] a) (zW gT h (aS g bP)):=Ho qN rfl nB (G2 fk) x ⟨Kc b,trivial⟩ (ic y bF b) i
def le{pl:Ag Bool}(fk:hO F)(x:iP n F o h)(y:iP n F e g)(b:vV e=true:=by rfl)(i:eval (.Call (.Attribute o "extend" c) [e] [] a) F.env=(do
   let d<-eval o F.env
   gB c.atName
   let (f,first)<-holding [d] (getMethod d "extend" pl)
   kY a f first (backTo a (eD [e] F.env)) []):=by rfl):iP n F (.Call (.Attribute o "extend" c) [e] [] a) (zW Ay h (aS g bP)):=Ho Od rfl nB (Td fk) x ⟨Kc b,trivial⟩ (ic y bF b) i
end
section
variable{n:Nat}{fd:sL}{tab:lT}{fa:cR}{o:qY}{body:List tR}{ds:cA}{P:V->Prop}
def QS(d:lH fd tab)(y:S.heap.get? fa=aG o)(B:o.data=.func fd)(C:S.heap.NoLimit)(G:S.heap.CodeRec fd.code fd.qualname)(H:fd.body=.stmts body)
  (I:∀h tk (vs:eW),(∀b o,S.heap.get? b=aG o->h.get? b=aG o)->aC vs=aC ds->aB9 (iZ h tk) fd ⟨vs,[]⟩ ((tab.take (aC ds)).zip vs)) (J:aC ds<=tab.length) (N:dH ds=aU)
  (O:∀L,SW 0 n (vH fd L fa tab) body ⟨yX 0 ds,[],0⟩ (č P)):Uu (n+1) (.ref fa) ds P:=by
 intro A Y h tk vs ok g Q k;refine Ud (env:=callEnvC fd h.objs.size fa) (D:=[]) (cs:=[]) (nx:=0) d y B C G H (I h tk vs g k.length) J ok ⟨g,λx v q=>gG q,λx p s q=>gG q,λi c q=>gG q,λi j a q=>gG q,λi a q=>gG q,λa q=>(nomatch q),Q⟩
  (bN.stepP (λ_ _ e _=>e) (λa q=>by
   rcases q with q|q|⟨i,q⟩
   .cases q
   .exact .inl q
   .exact gG q) _ _ N k) λh₁ R T W m X=>?_
 refine bK (O h.objs.size _ Y [] h₁ R X m) (λf s' p=>?_) λ_ _ x=>x;obtain ⟨h',l,D',σ',f',rfl,st,Z,r,q⟩:=p;have t:∀b o,h.get? b=aG o->h'.get? b=aG o:=λb o e=>st.keep b o (T b o e) (λz=>by rw [W b z]at e;exact gG e) (λi z=>gG z)
 cases r with
 |brk=>exact q.elim
 |cont=>exact q.elim
 |next=>exact ⟨h',l,.none,rfl,t,rfl,rfl,q⟩
 |ret r=>refine nn λng=>?_;obtain ⟨r',e1,u,pr⟩:=q;refine ng ?_;exact ⟨h',l,r',rfl,t,u,fW.stepP (λ_ _ e _=>e) (λ_ z=>.inl (.inr (.inl z))) _ _ u (Ap Z 0 uY _ _ _ e1 r),pr⟩
end
def ZI(P:fK):qY:=MineH.foF MineH.mdD [2,1] "__get__" "_tuplegetter.__get__" (.ref 36) .none 42
noncomputable def CJ:lT:=[aF "self",aF "obj",aF "objtype"]
def WN(P:fK):lH (kN (ZI P)) CJ:=.of (by kernel_rfl)
def WD(a:cR)(i:Int):Nat->M Fl:=eU (yF (gM (bJ Zf (aP 1) (gK .none))) (tQ (aP 0)) (nA .next))
 (eU (yF (Ze (yY (eV WK (aS (eV IU (aS (aP 1) bP)) (aS (gK (.fn (.type "tuple"))) bP))))) Q0 (nA .next))
 (tQ (Wz (aS (aP 1) (aS (Ih a i (aP 0)) bP)))))
structure KI(K:xO)(a:cR)(i:Int):Prop where
 ix:∃d t oa od,K.lookup a=aG oa/\oa.cls=.ref 60/\notCls oa=aU/\oa.dict=aG d/\K.lookup d=aG od/\plainGet K 60 (aF "index")=aU/\findObj K 60 (aG od) (aF "index")=aG (.value (.int i t))
def aAk(G:Gd)(x:KI (fr w.params) a i):Fd n (vH (kN (ZI w.params)) L 43 CJ) (cH (at_ [2,1])) (WD a i):=by
 have T:=(WN w.params).tab L 43;refine nn λb=>?_;obtain ⟨d,t,c,od,h1,h2,h3,h4,h5,h6,h7⟩:=x.ix;refine b ?_;exact bM (jS (dU Nf (dA T (aJ (i:=1) rfl) (by decide)) pV rfl) (dE (nN (dA T (aJ (i:=0) rfl) (by decide)))) iD)
  (bM (jS (M7 (rE (tE (G.e T.fk rfl rfl Nb (by kernel_rfl) (by decide)) (.inl ⟨_,rfl⟩) (DG G.K (Co w.params)) ⟨rfl,rfl,trivial⟩
   (fN (tE (G.e T.fk rfl rfl Ü (by kernel_rfl) (by decide)) (.inr (.inl ⟨_,rfl⟩)) Yd ⟨rfl,trivial⟩ (fN (dA T (aJ (i:=1) rfl) (by decide)) bF rfl) rfl)
    (fN (G.e T.fk rfl rfl F5 (by kernel_rfl) (by decide)) bF rfl) rfl) rfl) rfl)) Cy iD)
  (dE (nN (GR G.K (Co w.params) (by kernel_rfl) (G.e T.fk rfl rfl F5 (by kernel_rfl) (by decide)) ⟨rfl,rfl,trivial⟩
   (fN (dA T (aJ (i:=1) rfl) (by decide)) (fN (Y7 G.K h1 h2 h3 h4 h5 h6 h7 (dA T (aJ (i:=0) rfl) (by decide))) bF rfl) rfl) rfl))))
def IB{n:Nat}{i:Nat}(G:Gd)(x:KI (fr w.params) a i)(l:cA)(d:V)(b:dH l=aU)(e:aC l<1000)(c:d.pure=aU)(hd:l[i]?=aG d):Xn (n+1) (.ref 43) [.fn (.ref a),.mt l,.fn (.ref mE)] (λr=>r=d):=by
 refine Uu.c (QS (o:=ZI w.params) (WN w.params) (G.K 43 _ (by kernel_rfl)) rfl G.lim (codeRec_of G.K (by kernel_rfl)) rfl (λh tk vs f b=>?_) (by refine (?_:(3:Nat)<=3);decide) (by refine (?_:(aU&& (dH l&& (aU&&aU)))=aU);rw [b];rfl) λL=>?_)
 .revert vs;exact ll3 λ_ _ _=>kp_binds (G.K.keeps f) λK=>by kernel_rfl
 .refine kO (aAk G x 0 _ _ _ (?_:_=aG (.ret d,⟨[(0,.fn (.ref a)),(1,.mt l),(2,.fn (.ref mE))],[],0⟩))) ?_
  .have g:Wz (aS (aP 1) (aS (Ih a i (aP 0)) bP)) ⟨[(0,.fn (.ref a)),(1,.mt l),(2,.fn (.ref mE))],[],0⟩=aG (d,⟨[(0,.fn (.ref a)),(1,.mt l),(2,.fn (.ref mE))],[],0⟩):=by
    have j:(aS (aP 1) (aS (Ih a i (aP 0)) bP)) ⟨[(0,.fn (.ref a)),(1,.mt l),(2,.fn (.ref mE))],[],0⟩=aG ([.mt l,.int i],⟨[(0,.fn (.ref a)),(1,.mt l),(2,.fn (.ref mE))],[],0⟩):=by simp [aS,aP,Ih,bP,bd,ob,eP,Zx]
    unfold Wz;rw [j];simp [bd,ob,aV,aI,aN,N2,B6,e,hd]
   unfold WD eU;have k:yF (gM (bJ Zf (aP 1) (gK .none))) (tQ (aP 0)) (nA .next) 0 ⟨[(0,.fn (.ref a)),(1,.mt l),(2,.fn (.ref mE))],[],0⟩=aG (.next,⟨[(0,.fn (.ref a)),(1,.mt l),(2,.fn (.ref mE))],[],0⟩):=rfl;refine (?_:bd (yF (gM (bJ Zf (aP 1) (gK .none))) (tQ (aP 0)) (nA .next) 0 ⟨[(0,.fn (.ref a)),(1,.mt l),(2,.fn (.ref mE))],[],0⟩) _=_);refine (?_:(tQ _ 0 _)=_);unfold tQ;rw [g];rfl
  .rintro _ _ ⟨rfl,rfl⟩;exact ⟨_,dP c,c,rfl⟩
def gtA(P:fK):KI (fr P) 124 ((0:Nat):Int):=by exact ⟨⟨123,346,⟨.ref 60,aG 123,.plain, #[]⟩,_,(by kernel_rfl),rfl,rfl,rfl,(by kernel_rfl:(fr P).lookup 123=aG (((fr P).lookup 123).getD default)),(by kernel_rfl),(by kernel_rfl:findObj (fr P) 60 (aG (((fr P).lookup 123).getD default)) (aF "index")=aG (.value (.int 0 346)))⟩⟩
def gtB(P:fK):KI (fr P) 127 ((1:Nat):Int):=by exact ⟨⟨126,356,⟨.ref 60,aG 126,.plain, #[]⟩,_,(by kernel_rfl),rfl,rfl,rfl,(by kernel_rfl:(fr P).lookup 126=aG (((fr P).lookup 126).getD default)),(by kernel_rfl),(by kernel_rfl:findObj (fr P) 60 (aG (((fr P).lookup 126).getD default)) (aF "index")=aG (.value (.int 1 356)))⟩⟩
def gtS(P:fK):KI (fr P) 130 ((2:Nat):Int):=by exact ⟨⟨129,366,⟨.ref 60,aG 129,.plain, #[]⟩,_,(by kernel_rfl),rfl,rfl,rfl,(by kernel_rfl:(fr P).lookup 129=aG (((fr P).lookup 129).getD default)),(by kernel_rfl),(by kernel_rfl:findObj (fr P) 60 (aG (((fr P).lookup 129).getD default)) (aF "index")=aG (.value (.int 2 366)))⟩⟩
section
variable{n:Nat}{F:Fx}
def aBd(G:Gd)(x:iP (n+2) F (.Name s p) g):iP (n+2) F (.Attribute (.Name s p) (aF "a") a) (oF 0 g):=
 D5 G.K (Co w.params) (by kernel_rfl) (by kernel_rfl) (by kernel_rfl:findIn (fr w.params) (.ref mE) (aF "a")=aG (aG (.ref 124))) (by kernel_rfl) (by kernel_rfl) (λl d h1 h2 h3 h4=>IB G (gtA w.params) l d h1 h2 h3 h4) x
def Zv(G:Gd)(x:iP (n+2) F (.Name s p) g):iP (n+2) F (.Attribute (.Name s p) (aF "b") a) (oF 1 g):=
 D5 G.K (Co w.params) (by kernel_rfl) (by kernel_rfl) (by kernel_rfl:findIn (fr w.params) (.ref mE) (aF "b")=aG (aG (.ref 127))) (by kernel_rfl) (by kernel_rfl) (λl d h1 h2 h3 h4=>IB G (gtB w.params) l d h1 h2 h3 h4) x
def Xl(G:Gd)(x:iP (n+2) F (.Name s p) g):iP (n+2) F (.Attribute (.Name s p) (aF "size") a) (oF 2 g):=
 D5 G.K (Co w.params) (by kernel_rfl) (by kernel_rfl) (by kernel_rfl:findIn (fr w.params) (.ref mE) (aF "size")=aG (aG (.ref 130))) (by kernel_rfl) (by kernel_rfl) (λl d h1 h2 h3 h4=>IB G (gtS w.params) l d h1 h2 h3 h4) x
end
noncomputable def CG:lT:=[aF "self",aF "a"]
def dS1(P:fK):lH (kN o174v0) CG:=.of (by kernel_rfl)
def smA(P:fK):Ix (fr P) (aF "a"):=⟨by kernel_rfl,by kernel_rfl,_,(by kernel_rfl:findIn (fr P) (.ref xX) (aF "a")=aG aH),by kernel_rfl⟩
def saA(P:fK):Eh (fr P) (aF "a"):=⟨by kernel_rfl,by kernel_rfl,by kernel_rfl,by kernel_rfl,by decide⟩
def YM(P:fK):Eh (fr P) (aF "matching_blocks"):=⟨by kernel_rfl,by kernel_rfl,by kernel_rfl,by kernel_rfl,by decide⟩
def YL(P:fK):Eh (fr P) (aF "opcodes"):=⟨by kernel_rfl,by kernel_rfl,by kernel_rfl,by kernel_rfl,by decide⟩
def tD:∀A:bE,dH (A.map V.int)=true:=by
 intro x0
 induction x0 with
 |nil=>exact rfl
 |cons _ r a=>simp [fO,eN,L8,L7,L6,L5,Gz,Gy,a]
def eO(A:bE):(vL A).pure=true:=by simp [vL,L8,L7,L6,L5,Gz,Gy,tD]
def uI{g:V->pM}:∀{as:oS},(∀p∈as,g p.2=aG p.2)->Bw g as=aG as:=by
 intro z1
 induction z1 with
 |nil=>intro _;exact rfl
 |cons z2 r z4=>obtain ⟨x,v⟩:=z2;intro h;exact Mo (h (x,v) aQ) (z4 λp a=>h p (aO _ a))
def mS1{n:Nat}(G:Gd)(m:E3)(A:bE):vD (n+1) (.ref 174) (.mat m) [vL A] (λc r=>c=.mat {m with a:=some A}/\r=.none):=by
 refine G6 λas f=>As (fd:=kN o174v0) (o:=o174v0) (tab:=CG) (body:=cH (at_ [5,3])) (dS1 w.params) (G.K 174 _ (by kernel_rfl)) rfl G.lim (codeRec_of G.K (by kernel_rfl)) rfl (λvs h=>?_) (by show (2:Nat)<=2;decide) (λp d=>f.pure p d) (λL=>?_) (by simp [fO,eN,eO])
 .revert vs;exact VX λ_ _=>by kernel_rfl
 .have T:=(dS1 w.params).tab L 174;refine gY ((eZ rfl rfl uF 1 _ _ _ rfl).mono ?_);rintro _ _ ⟨rfl,rfl⟩;refine gY (U2 (Nx rfl ((dA T (aJ (i:=1) rfl) (by decide) _ _ _ rfl).mono ?_)));rintro _ _ ⟨rfl,rfl⟩;refine (lF G.K (smA w.params) (dA T (aJ (i:=0) rfl) (by decide)) _ (vS m.a) ⟨yX 0 [.inst 0,vL A],[(0,.attrs as)],1⟩ (pJ (n:=0) (as:=as) rfl rfl f.a (by cases m.a<;>rfl:Dz (vS m.a)=aU))).mono ?_;rintro _ _ ⟨rfl,rfl⟩;refine G1 (.inl ⟨⟨A,rfl⟩,?_⟩) λb l=>⟨b,rfl,?_⟩
  .cases q:m.a with
   |none=>exact .inr (.inr ⟨_,rfl⟩)
   |some B=>exact .inr (.inl ⟨B,rfl⟩)
  .cases b
   .simp only [lO,if_false];refine zM (kO (bM (eQ (dA T (aJ (i:=1) rfl) (by decide)) (jM G.K T.fk (saA w.params) (dA T (aJ (i:=0) rfl) (by decide))) rfl rfl rfl) (dE (oA pV (.cons (jM G.K T.fk (YM w.params) (dA T (aJ (i:=0) rfl) (by decide))) (.cons (jM G.K T.fk (YL w.params) (dA T (aJ (i:=0) rfl) (by decide))) .nil)) rfl rfl rfl)) 1 _ _ _ rfl) ?_);rintro _ _ ⟨rfl,rfl⟩;have k:∀p∈iW (aF "opcodes") V.none (iW (aF "matching_blocks") V.none (iW (aF "a") (vL A) as)),p.2.pure=true:=λp d=>by
     rcases aR.mp d with rfl|d
     .rfl
     .rcases aR.mp (pT d).1 with rfl|d
      .rfl
      .rcases aR.mp (pT d).1 with rfl|d
       .exact eO A
       .exact f.pure p (pT d).1
    refine ⟨.attrs (iW (aF "opcodes") V.none (iW (aF "matching_blocks") V.none (iW (aF "a") (vL A) as))),.attrs (iW (aF "opcodes") V.none (iW (aF "matching_blocks") V.none (iW (aF "a") (vL A) as))),rfl,?_,k,_,rfl,?_,rfl⟩
    .show (Bw _ _).map fQ.attrs=_;rw [uI λp d=>dP (k p d)];rfl
    .have v:∀{s t:String},(aF s==aF t)=bR->aF s≠aF t:=λh e=>by rw [e]at h;simp at h
     refine ⟨k,?_,?_,?_,?_,?_,?_,.inl ?_,.inl ?_⟩;all_goals simp only [lE]
     .rw [if_neg (by decide),if_neg (by decide),if_neg (by decide)];exact f.junk
     .rw [if_neg (by decide),if_neg (by decide),if_pos trivial];rfl
     .rw [if_neg (by decide),if_neg (by decide),if_neg (by decide)];exact f.b
     .rw [if_neg (by decide),if_neg (by decide),if_neg (by decide)];exact f.auto
     .rw [if_neg (by decide),if_neg (by decide),if_neg (by decide)];exact f.bjunk
     .rw [if_neg (by decide),if_neg (by decide),if_neg (by decide)];exact f.b2j
     .rw [if_neg (by decide),if_pos trivial]
     .rw [if_pos trivial]
   .simp only [if_true];have g:vS m.a=vL A:=(l rfl).symm;refine gY (Lm ⟨.attrs as,.attrs as,.none,rfl,?_,f.pure,rfl,rfl,as,rfl,?_,rfl⟩)
    .show (Bw _ as).map fQ.attrs=_;rw [uI λp d=>dP (f.pure p d)];rfl
    .have j:m.a=aG A:=by
      cases q:m.a with
      |none=>rw [q]at g;cases g
      |some B=>
       rw [q]at g;have inj:∀A B:bE,B.map V.int=A.map V.int->B=A:=λA=>by
        induction A with
        |nil=>intro B h;cases B with|nil=>rfl|cons b B=>cases h
        |cons a A u=>intro B h;cases B with|nil=>cases h|cons b B=>simp only [cE,kM,V.int.injEq]at h;rw [h.1,u B h.2]
       simp only [vS,vL,V.lst.injEq]at g;rw [inj A B g]
     have:({m with a:=some A}:E3)=m:=by cases m;simp at j;simp [j]
     rw [this];exact f
noncomputable def CK:lT:=[aF "self",aF "b",aF "b2j",aF "i",aF "elt",aF "indices",aF "junk",aF "isjunk",aF "popular",aF "n",aF "ntest",aF "idxs"]
def dCb(P:fK):lH (kN o188v0) CK:=.of (by kernel_rfl)
def smB(P:fK):Ix (fr P) (aF "b"):=⟨by kernel_rfl,by kernel_rfl,_,(by kernel_rfl:findIn (fr P) (.ref xX) (aF "b")=aG aH),by kernel_rfl⟩
def smJ(P:fK):Ix (fr P) (aF "isjunk"):=⟨by kernel_rfl,by kernel_rfl,_,(by kernel_rfl:findIn (fr P) (.ref xX) (aF "isjunk")=aG aH),by kernel_rfl⟩
def aCc(P:fK):Ix (fr P) (aF "autojunk"):=⟨by kernel_rfl,by kernel_rfl,_,(by kernel_rfl:findIn (fr P) (.ref xX) (aF "autojunk")=aG aH),by kernel_rfl⟩
def Œ(P:fK):Eh (fr P) (aF "b2j"):=⟨by kernel_rfl,by kernel_rfl,by kernel_rfl,by kernel_rfl,by decide⟩
def aCi(P:fK):Eh (fr P) (aF "bjunk"):=⟨by kernel_rfl,by kernel_rfl,by kernel_rfl,by kernel_rfl,by decide⟩
def aCh(P:fK):Eh (fr P) (aF "bpopular"):=⟨by kernel_rfl,by kernel_rfl,by kernel_rfl,by kernel_rfl,by decide⟩
def Aw(k x:Int):∀(l:bE)(s:Nat),iL k s (l++[x])=iL k s l++if x=k then[s+aC l]else[]:=by
 intro x0
 induction x0 with
 |nil=>intro s;by_cases h:x=k<;>rfl
 |cons y l a=>
  intro s;have:=a (s+1);by_cases h:y=k
  .simp only [fV,yC,yB,h,if_true,this];simp [fR,oR 1]
  .simp only [fV,yC,yB,h,if_false,this];simp [fR,oR 1]
def TN{a b:Type}(f:a->b)(k:Int):∀(ks:bE)(ns:List a),(ks.zip (ns.map f)).lookup k=((ks.zip ns).lookup k).map f:=by
 intro z1
 induction z1 with
 |nil=>intro ns;simp
 |cons x ks z4=>
  intro c
  cases c with
  |nil=>rfl
  |cons n ns=>
   simp only [cE,hU,gP];cases k==x
   .exact z4 ns
   .rfl
def EK{a:Type}(k:Int)(n:a):∀{ks:bE}{ns:List a},(ks.zip ns).lookup k=aG n->(k,n)∈ks.zip ns:=by
 intro b
 induction b with
 |nil=>intro ns;intro h;simp at h
 |cons x ks c=>
  intro d
  cases d with
  |nil=>intro h;simp at h
  |cons m ns=>
   intro h;simp only [hU,gP]at h⊢;cases e:k==x
   .rw [e]at h;exact aO _ (c h)
   .rw [e]at h;refine pH h ?_;rintro rfl;rw [eq_of_beq e];exact aQ
def Yr{d:Type}(k:Int):∀{ks:bE}{ns:List d},aC ks=ns.length->(ks.zip ns).lookup k=aH->k∉ks:=by
 intro a
 induction a with
 |nil=>intro ns;intro _;intro h;simp
 |cons x ks b=>
  intro c
  cases c with
  |nil=>intro h;intro _;simp at h
  |cons m ns=>
   intro f;intro h;simp only [hU,gP]at h;cases e:k==x
   .rw [e]at h;have:=b (by simpa using f) h;simp only [aR,not_or];exact ⟨λq=>by simp [q]at e,this⟩
   .rw [e]at h;exact De h
def Wb{b:Type}{k:Int}{n:b}:∀{ks:bE}{ns:List b},ks.Nodup->(k,n)∈ks.zip ns->(ks.zip ns).lookup k=aG n:=by
 intro c
 induction c with
 |nil=>intro ns;intro _;intro h;simp at h
 |cons x ks a=>
  intro d
  cases d with
  |nil=>intro _;intro h;simp at h
  |cons m ns=>
   intro hd;intro h;simp only [hU,gP]at h⊢;rcases aR.mp h with h|h
   .refine Ō h ?_;rintro rfl rfl;simp
   .have e:k∈ks:=(Lg h).1;have:k≠x:=λq=>by subst q;exact (mL.mp hd).1 e
    rw [show (k==x)=bR by simpa using this];exact a (mL.mp hd).2 h
structure CbJ(B:bE)(pj:oS)(i:Nat)(σ:St)(ks:bE)(ns:mI):Prop where
 l0:lk σ.loc 0=aG (.inst 0)
 l1:lk σ.loc 1=aG (vL B)
 l2:lk σ.loc 2=aG (.ref 1)
 c0:lk σ.cells 0=aG (.attrs pj)
 c1:lk σ.cells 1=aG (.dict ks (ns.map V.ref))
 len:aC ks=ns.length
 at_:∀k n,(k,n)∈ks.zip ns->lk σ.cells n=aG (.list ((iL k 0 (B.take i)).map vN))/\2<=n/\n<σ.next/\iL k 0 (B.take i)≠[]
 nn:ns.Nodup
 kn:ks.Nodup
 all:∀k,k∉ks->iL k 0 (B.take i)=[]
 le:aC ks<=i
 nx:2<=σ.next
def Hq(k:Int):∀(l:bE)(s:Nat),(iL k s l).length<=aC l:=by
 intro x0
 induction x0 with
 |nil=>intro s;exact bG _
 |cons y l a=>intro s;have:=a (s+1);simp only [yC,yB];split<;>simp<;>omega
def Ct{a:Type}{k:Int}{n:a}{ks:bE}{ns:List a}(h:(k,n)∈ks.zip ns):k∈ks/\n∈ns:=Lg h
def JP{g0:M V}{c:St}{n nx:Nat}{b i:Int}{a:tH}{cs:List (Nat×fQ)}{l:cA}(h0:g0 c=aG (.ref n,⟨put 4 (.int b) (put 3 (.int i) a),cs,nx⟩))(h:lk cs n=aG (.list l))(d:aC l<=lim):
  (eU (fU g0 (cG 5)) (xP (zW gT (aP 5) (aS (aP 3) bP)))) 1 c=aG (.next,⟨put 5 (.ref n) (put 4 (.int b) (put 3 (.int i) a)),put n (.list (l++[.int i])) cs,nx⟩):=by
 refine (?_:bd (bd (g0 c) _) _=_);rw [h0];refine (?_:bd (zW gT (aP 5) (aS (aP 3) bP) ⟨put 5 (.ref n) (put 4 (.int b) (put 3 (.int i) a)),cs,nx⟩) _=_);rw [xR (bS (by rw [kA,if_pos rfl]:lk (put 5 (V.ref n) (put 4 (.int b) (put 3 (.int i) a))) 5=aG (.ref n))) (by show ob (lk cs n) liC=_;rw [h];rfl) (bH (bS (by rw [kA,if_neg (by decide),kA,if_neg (by decide),kA,if_pos rfl]:lk (put 5 (V.ref n) (put 4 (.int b) (put 3 (.int i) a))) 3=aG (.int i))) cW) (lQ h d)];rfl
def RY{B:bE}{H:oS}{i:Nat}{σ:St}{ks:bE}{ns:mI}(hi:i<aC B)(I:aC B<200)(j:CbJ B H i σ ks ns):
  ∃σ' Q R,(eU (fU (QQ K5 (aP 2) (aS (aP 4) (aS (kR bP) bP))) (cG 5)) (xP (zW gT (aP 5) (aS (aP 3) bP)))) 1 {σ with loc:=put 4 (.int (B.getD i 0)) (put 3 (.int i) σ.loc)}=aG (.next,σ')/\CbJ B H (i+1) σ' Q R:=by
 have J:lim=1048576:=rfl;have g:B.take (i+1)=B.take i++[B.getD i 0]:=by simp only [Oo,bO hi,aY,bO hi];rfl
 have L:aC ks<=lim:=by have:=j.le;exact aT 0x76314886900d78c6318c70c25633b30541004 hi I J this
 have o:lk ((σ.next,fQ.list [])::σ.cells) 1=aG (.dict ks (ns.map V.ref)):=by simp only [fL,eP];rw [if_neg (by have:=j.nx;exact aT FK this)];exact j.c1
 generalize Z:B.getD i 0=b at *;have x:(B.take i).length=i:=by simp;exact aT 0x2522a462b081420cce1002 hi
 have y:(QQ K5 (aP 2) (aS (aP 4) (aS (kR bP) bP))) {σ with loc:=put 4 (.int b) (put 3 (.int i) σ.loc)}=K5 [.ref 1,.int b,.ref σ.next] ⟨put 4 (.int b) (put 3 (.int i) σ.loc),(σ.next,.list [])::σ.cells,σ.next+1⟩:=by simp [QQ,aP,kA,j.l2,bd,PP,j.c1,aS,kR,bP,ZJ]
 cases e:(ks.zip ns).lookup b with
 |some n=>
  have f:=EK b n e;refine nn λA=>?_;obtain ⟨a1,N,T,a4⟩:=j.at_ b n f;refine A ?_;have r:K5 [.ref 1,.int b,.ref σ.next] ⟨put 4 (.int b) (put 3 (.int i) σ.loc),(σ.next,.list [])::σ.cells,σ.next+1⟩=aG (.ref n,⟨put 4 (.int b) (put 3 (.int i) σ.loc),(σ.next,.list [])::σ.cells,σ.next+1⟩):=by show aD _ 1 _=_;rw [WR o];show (if aC ks<=lim then _ else _)=_;rw [if_pos L,TN,e];rfl
  have s:lk ((σ.next,fQ.list [])::σ.cells) n=aG (.list ((iL b 0 (B.take i)).map vN)):=by simp only [fL,eP];rw [if_neg (by exact aT EQ T)];exact a1
  refine ⟨⟨put 5 (.ref n) (put 4 (.int b) (put 3 (.int i) σ.loc)),put n (.list ((iL b 0 (B.take i)).map vN++[.int i])) ((σ.next,.list [])::σ.cells),σ.next+1⟩,ks,ns,?_,?_⟩
  .exact JP (y.trans r) s (by rw [bB];exact (λk=>by have:=Hq k (B.take i) 0;simp at this;exact aT 0xeeec6291912022f18c6318e186ac676614ce1004 I J this:∀k,(iL k 0 (B.take i)).length<=lim) b)
  .refine ⟨by simp [kA,j.l0],by simp [kA,j.l1],by simp [kA,j.l2],?_,?_,j.len,?_,j.nn,j.kn,?_,Nat.le_succ_of_le j.le,by have:=j.nx;show 2<=σ.next+1;exact aT 0xc62941c1a3241a301 this⟩
   .simp only [kA];rw [if_neg (by exact aT OH N)];simp only [fL,eP];rw [if_neg (by have:=j.nx;exact aT OH this)];exact j.c0
   .simp only [kA];rw [if_neg (by exact aT FK N)];exact o
   .intro k m a;obtain ⟨b1,t,d,C⟩:=j.at_ k m a;have c:=Aw k b (B.take i) 0;rw [g,c,x];by_cases q:b=k
    .clear y r o s a1 c x g;subst q;have:m=n:=by have:=Wb j.kn a;rw [e]at this;refine pH this ?_;rintro rfl;rfl
     subst this;refine ⟨by simp [kA,vN],t,by show m<σ.next+1;exact aT OE d,by simp⟩
    .have W:m≠n:=λz=>by
      clear y r o s a1 c x g b1 d;subst z;obtain ⟨p,u,v⟩:=jO a;obtain ⟨O,P,D⟩:=jO f;simp only [List.getElem_zip,gX]at v D;have:p=O:=by
       have h2:O<ns.length:=by simp at P;exact aT TV P
       exact (List.getElem_inj j.nn (h₀:=(by simp at u;exact aT TV u:p<ns.length)) (h₁:=h2)).mp (v.2.trans D.2.symm)
      subst this;exact q (D.1.symm.trans v.1)
     refine ⟨?_,t,by show m<σ.next+1;exact aT OE d,by simp [C]⟩;simp only [kA];rw [if_neg W,if_neg q];simp only [fL,eP];rw [if_neg (by exact aT EQ d)];simpa using b1
   .intro k h;have c:=Aw k b (B.take i) 0;rw [g,c,j.all k h,if_neg (λz:b=k=>h (z▸(Ct f).1))];rfl
 |none=>
  have F:=Yr b j.len e;have r:K5 [.ref 1,.int b,.ref σ.next] ⟨put 4 (.int b) (put 3 (.int i) σ.loc),(σ.next,.list [])::σ.cells,σ.next+1⟩=aG (.ref σ.next,⟨put 4 (.int b) (put 3 (.int i) σ.loc),put 1 (.dict (b::ks) ((σ.next::ns).map V.ref)) ((σ.next,.list [])::σ.cells),σ.next+1⟩):=by show aD _ 1 _=_;rw [WR o];show (if aC ks<=lim then _ else _)=_;rw [if_pos L,TN,e];rfl
  have s:lk (put 1 (.dict (b::ks) ((σ.next::ns).map V.ref)) ((σ.next,fQ.list [])::σ.cells)) σ.next=aG (.list []):=by simp only [kA];rw [if_neg (by have:=j.nx;exact aT FJ this)];simp [fL,eP]
  refine ⟨⟨put 5 (.ref σ.next) (put 4 (.int b) (put 3 (.int i) σ.loc)),put σ.next (.list ([]++[.int i])) (put 1 (.dict (b::ks) ((σ.next::ns).map V.ref)) ((σ.next,.list [])::σ.cells)),σ.next+1⟩,b::ks,σ.next::ns,?_,?_⟩
  .exact JP (y.trans r) s (bI _)
  .have X:∀m∈ns,m≠σ.next:=λm f z=>by
    refine nn λA=>?_;obtain ⟨p,u,v⟩:=jO f;refine A ?_;have h2:p<aC ks:=by have:=j.len;exact aT 0x1a315080b08941003 u this
    have:(ks[p],ns[p])∈ks.zip ns:=by have:=uC (l:=ks.zip ns) (n:=p) (by simp;exact aT 0xaa6315006a08d421cce1003 u h2);simpa using this
    have:=(j.at_ _ _ this).2.2.1;exact aT 0x546325044b00961003 z v this
   have Y:iL b 0 (B.take i)=[]:=j.all b F;refine ⟨by simp [kA,j.l0],by simp [kA,j.l1],by simp [kA,j.l2],?_,?_,by simp [j.len],?_,?_,?_,?_,?_,by have:=j.nx;show 2<=σ.next+1;exact aT 0xc62941c1a3241a301 this⟩
   .simp only [kA];rw [if_neg (by have:=j.nx;exact aT OH this),if_neg (by exact aT 0x43174967300)];simp only [fL,eP];rw [if_neg (by have:=j.nx;exact aT OH this)];exact j.c0
   .simp only [kA];rw [if_neg (by have:=j.nx;exact aT FK this)];simp
   .intro k m a;have c:=Aw k b (B.take i) 0;rw [g,c,x];simp only [hU,aR,gX]at a;rcases a with ⟨rfl,rfl⟩|a
    .refine ⟨by simp [kA,Y,vN],j.nx,gS _,by simp⟩
    .obtain ⟨b1,t,d,C⟩:=j.at_ k m a;have G:¬b=k:=λz=>F (z▸(Ct a).1);refine ⟨?_,t,by show m<σ.next+1;exact aT OE d,by simp [C]⟩;simp only [kA];rw [if_neg (by exact aT EQ d),if_neg (by exact aT FJ t),if_neg G];simp only [fL,eP];rw [if_neg (by exact aT EQ d)];simpa using b1
   .exact mL.mpr ⟨λf=>X _ f rfl,j.nn⟩
   .exact mL.mpr ⟨F,j.kn⟩
   .intro k h;simp only [aR,not_or]at h;have c:=Aw k b (B.take i) 0;rw [g,c,j.all k h.2,if_neg (λz=>h.1 z.symm)];rfl
   .show (b::ks).length<=i+1;simp;exact j.le
def EG{g:V->pM}{as a:oS}(h:Bw g as=aG a):Jk g (.attrs as)=aG (.attrs a):=congrArg (qX fQ.attrs) h
def Tl{k:Nat}{g:V->pM}:∀{l:List (Nat×fQ)},(∀p∈l,¬p.1<k)->oH k g l=aG []:=by
 intro a
 induction a with
 |nil=>intro _;exact rfl
 |cons b r d=>obtain ⟨n,c⟩:=b;intro h;exact pU (h (n,c) aQ) (d λp e=>h p (aO _ e))
def Ha{a:Type}{g:V->pM}{f:a->V}{f':a->V}:∀{l:List a},(∀v∈l,g (f v)=aG (f' v))->qS g (l.map f)=aG (l.map f'):=by
 intro b
 induction b with
 |nil=>intro _;exact rfl
 |cons v r c=>intro h;rw [cE];simp only [Cq,At];refine (h v aQ)▸?_;refine (c λp d=>h p (aO _ d))▸?_;rfl
def Yx{b e:Type}{f:b->Nat×e}:∀{l:List b}{a:b},(l.map λx=>(f x).1).Nodup->a∈l->lk (l.map f) (f a).1=aG (f a).2:=by
 intro c
 induction c with
 |nil=>intro a;intro _;intro h;cases h
 |cons x r d=>
  intro a;intro hd;intro h;simp only [cE,mL]at hd⊢;rcases aR.mp h with rfl|h
  .exact if_pos rfl
  .have:(f a).1≠(f x).1:=λq=>hd.1 (by simp only [<-q];exact List.mem_map_of_mem h);refine (?_:lk ((f x)::r.map f) _=_);rw [show f x=((f x).1,(f x).2)from rfl];simp only [eP];refine (if_neg this)▸?_;exact d hd.2 h
def LI(B:bE)(ks:bE):V:=.dct ks (ks.map λk=>.lst ((iL k 0 B).map vN))
def Jw{B:bE}{ks:bE}(a:ks.Nodup)(h1:∀k∈ks,iL k 0 B≠[])(h2:∀k,k∉ks->iL k 0 B=[]):sZ B (LI B ks):=by
 refine ⟨ks,_,rfl,by simp,λk=>?_⟩;by_cases h:k∈ks
 .rw [if_neg (h1 k h)];refine Wb a (nn λb=>?_);obtain ⟨i,hi,e⟩:=jO h;refine b ?_;have:=uC (l:=ks.zip (ks.map λk=>V.lst ((iL k 0 B).map vN))) (n:=i) (by simp;exact hi);simpa [e]using this
 .rw [if_pos (h2 k h)];have:∀{ks:bE}{vs:cA},k∉ks->(ks.zip vs).lookup k=aH:=by
   intro ks
   induction ks with
   |nil=>intro vs _;simp
   |cons x ks c=>
    intro vs h
    cases vs with
    |nil=>rfl
    |cons v vs=>rw [aR,not_or]at h;simp only [hU,gP,show (k==x)=bR by simpa using h.1];exact c h.2
  exact this h
def wV:∀(l:mI),dH (l.map vN)=true:=by
 intro x0
 induction x0 with
 |nil=>exact rfl
 |cons _ r a=>exact a
def JL(B ks:bE):(LI B ks).pure=true:=by
 refine (?_:dH _=aU)
 induction ks with
 |nil=>rfl
 |cons k ks a=>simp only [cE,fO,eN,L8,L7,L6,L5,Gz,Gy,wV];exact a
def ý{B:bE}{as:oS}{σ:St}{ks:bE}{ns:mI}(z:∀p∈as,p.2.pure=aU)(j:CbJ B (iW (aF "b2j") (.ref 1) as) (aC B) σ ks ns):
  ∃ks,sZ B (LI B ks)/\Wk 1 σ ⟨[(0,.inst 0),(1,vL B)],[(0,.attrs (iW (aF "b2j") (LI B ks) as))],1⟩:=by
 have o:B.take (aC B)=B:=zF;refine ⟨ks,Jw j.kn (λk r=>?_) (λk r=>by have:=j.all k r;rwa[o]at this),?_⟩
 .obtain ⟨i,hi,e⟩:=jO r;have b:=j.len;have a:(k,ns[i])∈ks.zip ns:=by have:=uC (l:=ks.zip ns) (n:=i) (by simp;exact aT 0x2b52315006b105411cce1003 hi b);simpa [e]using this
  have:=(j.at_ k _ a).2.2.2;rwa[o]at this
 .let f:Int×Nat->Nat×fQ:=λp=>(p.2,.list ((iL p.1 0 B).map vN));have s:(ks.zip ns).map (λx=>(f x).1)=ns:=by refine (?_:(ks.zip ns).map Prod.snd=ns);rw [List.map_snd_zip];have:=j.len;exact aT 0x1462900561002 this
  have A:((ks.zip ns).map λx=>(f x).1).Nodup:=by simp only [s];exact j.nn
  have wk:Wk 1 σ ⟨[(0,.inst 0),(1,vL B)],(0,.attrs (iW (aF "b2j") (.ref 1) as))::(1,.dict ks (ns.map V.ref))::(ks.zip ns).map f,σ.next⟩:=by
   refine Wk.of_lk (λx v e=>?_) (λn c e=>?_) (bG _)
   .simp only [fL,eP]at e;split at e
    .rename_i q;subst q;refine pH e ?_;rintro rfl;exact j.l0
    .split at e
     .rename_i q;subst q;refine pH e ?_;rintro rfl;exact j.l1
     .exact gG e
   .simp only [eP]at e;split at e
    .rename_i q;subst q;refine pH e ?_;rintro rfl;exact j.c0
    .split at e
     .rename_i q;subst q;refine pH e ?_;rintro rfl;exact j.c1
     .have a:=Ms e;obtain ⟨p,d,C⟩:=jJ.mp a;obtain ⟨k,m⟩:=p;refine Ō C ?_;rintro rfl rfl;have:=(j.at_ k m d).1;rw [o]at this;exact this
  refine wk.trans (T9 ?_);generalize t:((0,fQ.attrs (iW (aF "b2j") (.ref 1) as))::(1,fQ.dict ks (ns.map V.ref))::(ks.zip ns).map f)=cs;have D:∀k n,(k,n)∈ks.zip ns->rZ 29 1 cs (.ref n)=aG (.lst ((iL k 0 B).map vN)):=λk n a=>by
   refine nn λF=>?_;obtain ⟨a1,u,O,P⟩:=j.at_ k n a;refine F ?_;have:lk cs n=aG (.list ((iL k 0 B).map vN)):=by refine t▸?_;simp only [eP];rw [if_neg (by exact aT 0xa31749660241a301 u)];rw [if_neg (by exact aT FJ u)];exact Yx (f:=f) A a
   refine (Fm (f:=28) (by exact aT 0x631749470241a301 u)).trans ?_;rw [this];exact congrArg (qX V.lst) (Ha (f':=vN) λv _=>Gu (f:=27) rfl)
  have G:rZ uY 1 cs (.ref 1)=aG (LI B ks):=by
   refine (Fm (f:=29) (eG 1)).trans ?_;refine ((by rw [<-t];rfl:lk cs 1=aG (.dict ks (ns.map V.ref))))▸?_;have:∀{ks:bE}{ns:mI},aC ks=ns.length->(∀k n,(k,n)∈ks.zip ns->rZ 29 1 cs (.ref n)=aG (.lst ((iL k 0 B).map vN)))->qS (rZ 29 1 cs) (ns.map V.ref)=aG (ks.map λk=>V.lst ((iL k 0 B).map vN)):=by
    intro ks
    induction ks with
    |nil=>intro ns b _;cases ns with|nil=>rfl|cons n ns=>simp at b
    |cons k ks H=>
     intro ns b h
     cases ns with
     |nil=>simp at b
     |cons n ns=>rw [cE];simp only [At];rw [h k n aQ,H (by simpa using b) λI J a=>h I J (aO _ a)];rfl
   exact congrArg (qX (V.dct ks)) (this j.len D)
  have y:Bw (rZ uY 1 cs) (iW (aF "b2j") (.ref 1) as)=aG (iW (aF "b2j") (LI B ks) as):=Mo G (uI λp d=>dP (z p (pT d).1));have L:oH 1 (rZ uY 1 cs) cs=aG [(0,.attrs (iW (aF "b2j") (LI B ks) as))]:=by
   refine (λ(q:∀g,Bw g (iW (aF "b2j") (.ref 1) as)=aG (iW (aF "b2j") (LI B ks) as)->oH 1 g cs=aG [(0,.attrs (iW (aF "b2j") (LI B ks) as))])=>q _ y) λg y=>?_;refine t▸?_;refine gL KV (EG y) (pU (eG 1) (Tl λp d=>?_))
   .obtain ⟨q,N,rfl⟩:=jJ.mp d;have:=(j.at_ q.1 q.2 N).2.1;refine (?_:¬q.2<1);exact aT 0x631749470241a301 this
  exact nX (cL rfl (cL (dP (eO B)) rfl)) (nX L rfl)
section
variable{n:Nat}
def gT1:Nat->M Fl:=fU (tX (aF "b") (aP 0)) (cG 1)
def gT2:Nat->M Fl:=fU à (Fb [E0 (aF "b2j") (aP 0),cG 2])
def HK(dl:mU):Nat->M Fl:=eU (fU (eV IX bP) (Fb [E0 (aF "bjunk") (aP 0),cG 6])) (eU (fU (tX (aF "isjunk") (aP 0)) (cG 7)) (eU (yF (yY (aP 7)) Q0 (nA .next))
 (eU (fU (eV IX bP) (Fb [E0 (aF "bpopular") (aP 0),cG 8])) (eU (fU (eV dl (aS (aP 1) bP)) (cG 9)) (yF (kJ (yY (tX (aF "autojunk") (aP 0))) (kJ (gM (bJ gGe (aP 9) (gK (.int 200)))) (λσ=>aG (aU,σ)))) Q0 (nA .next))))))
variable{L:cR}
abbrev Č(L:cR):Fx:=vH (kN o188v0) L 188 CK
def aDl(G:Gd):A5 n (Č L) ((cH (at_ [5,5])).getD 0 default) gT1:=by have T:=(dCb w.params).tab L 188;exact eQ (lF G.K (smB w.params) (dA T (aJ (i:=0) rfl) (by decide))) (rD T (aJ (i:=1) rfl)) rfl rfl rfl
def aDk(G:Gd):A5 n (Č L) ((cH (at_ [5,5])).getD 1 default) gT2:=by have T:=(dCb w.params).tab L 188;exact oA Ku (.cons (jM G.K T.fk (Œ w.params) (dA T (aJ (i:=0) rfl) (by decide))) (.cons (rD T (aJ (i:=2) rfl)) .nil)) rfl rfl rfl
def Ó(G:Gd){dl:mU}(a:A0 n (Č L) (.builtin "len") dl):Fd n (Č L) ((cH (at_ [5,5])).drop 3) (HK dl):=by
 have T:=(dCb w.params).tab L 188;exact bM (oA (tE (G.e T.fk rfl rfl WA (by kernel_rfl) (by decide)) (.inr (.inl ⟨_,rfl⟩)) Pd trivial bF rfl) (.cons (jM G.K T.fk (aCi w.params) (dA T (aJ (i:=0) rfl) (by decide))) (.cons (rD T (aJ (i:=6) rfl)) .nil)) rfl rfl rfl)
  (bM (eQ (lF G.K (smJ w.params) (dA T (aJ (i:=0) rfl) (by decide))) (rD T (aJ (i:=7) rfl)) rfl rfl rfl)
  (bM (jS (rE (dA T (aJ (i:=7) rfl) (by decide)) rfl) Cy iD)
  (bM (oA (tE (G.e T.fk rfl rfl WA (by kernel_rfl) (by decide)) (.inr (.inl ⟨_,rfl⟩)) Pd trivial bF rfl) (.cons (jM G.K T.fk (aCh w.params) (dA T (aJ (i:=0) rfl) (by decide))) (.cons (rD T (aJ (i:=8) rfl)) .nil)) rfl rfl rfl)
  (bM (eQ (tE (G.e T.fk rfl rfl oK (by kernel_rfl) (by decide)) (.inl ⟨_,rfl⟩) a ⟨rfl,trivial⟩ (fN (dA T (aJ (i:=1) rfl) (by decide)) bF rfl) rfl) (rD T (aJ (i:=9) rfl)) rfl rfl rfl)
  (dE (jS (lS (fJ (rE (lF G.K (aCc w.params) (dA T (aJ (i:=0) rfl) (by decide))) rfl) (fJ (dU HP (dA T (aJ (i:=9) rfl) (by decide)) bT rfl) mS))) Cy iD))))))
def Nv(as:oS)(ch:V):oS:=iW (aF "bpopular") .set0 (iW (aF "bjunk") .set0 (iW (aF "b2j") ch as))
def CF{as:oS}{a:Option bE}{ch:V}{i:Bool}{dl:mU}(p:pK as (aF "isjunk")=aG .none)(r:pK as (aF "autojunk")=aG (.bool i))(z:(a.getD []).length<200)
  (hd:∀σ,dl [vS a] σ=aG (.int (a.getD []).length,σ)):
  ∃σ',HK dl 1 ⟨[(0,.inst 0),(1,vS a)],[(0,.attrs (iW (aF "b2j") ch as))],1⟩=aG (.next,σ')/\lk σ'.cells 0=aG (.attrs (Nv as ch)):=by
 have d:∀{l:oS}{s t:iS}{v u:V},t≠s->pK l t=aG u->pK (iW s v l) t=aG u:=λh e=>lE.trans ((if_neg h).trans e);let j:=iW (aF "bjunk") .set0 (iW (aF "b2j") ch as);let x:St:=⟨[(0,.inst 0),(1,vS a),(6,.set0)],[(0,.attrs j)],1⟩;let m:St:=⟨[(0,.inst 0),(1,vS a),(6,.set0),(7,.none)],[(0,.attrs j)],1⟩;let o:St:=⟨[(0,.inst 0),(1,vS a),(6,.set0),(7,.none),(8,.set0)],[(0,.attrs (Nv as ch))],1⟩;let c:St:=⟨[(0,.inst 0),(1,vS a),(6,.set0),(7,.none),(8,.set0),(9,.int (a.getD []).length)],[(0,.attrs (Nv as ch))],1⟩;have g:Go (HK dl 1 ⟨[(0,.inst 0),(1,vS a)],[(0,.attrs (iW (aF "b2j") ch as))],1⟩) λf τ=>f=.next/\τ=c:=by
  refine cP (eS (v:=.set0) (τ':=x) (iK (us:=[]) rfl rfl) rfl (cP (eS (v:=.none) (τ':=m) (pJ (n:=0) (as:=j) rfl rfl (d (by decide) (d (by decide) p)) rfl) rfl (cP (M9 (τ:=m) rfl (kI (cP (eS (v:=.set0) (τ':=o) (iK (us:=[]) rfl rfl) rfl (cP (eS (τ:=o) (τ':=c) (iK (us:=[vS a]) rfl (hd _)) rfl (rG (lL (jV (b:=i) (τ:=c) (Gg (pJ (n:=0) (as:=Nv as ch) rfl rfl (d (by decide) (d (by decide) (d (by decide) r))) rfl) rfl) ?_)))))))))))));have k:Go (nA .next 1 c) λf τ=>f=.next/\τ=c:=kI ⟨rfl,rfl⟩
  cases i with
  |false=>exact k
  |true=>exact lL (jV (b:=false) (τ:=c) (lP (congrArg (λb=>aG (V.bool b,c)) (by lia:decide ((200:Int)<=((a.getD []).length:Int))=bR))) k)
 refine nn λy=>?_;obtain ⟨f,τ,e,rfl,rfl⟩:=g;refine y ?_;exact ⟨_,e,rfl⟩
def No(B:bE)(h:aC B<200)(σ:St):oG [vL B] σ=aG (.int (aC B),σ):=by refine (?_:(if (B.map V.int).length<=lim then aG (V.int (B.map V.int).length,σ)else aH)=_);rw [bB,if_pos (by exact aT 0x68c52102f18c6318e182ac6766002 h (rfl:lim=1048576))]
def RN(σ:St):IZ [.str (aF "")] σ=aG (.int 0,σ):=by rfl
def uQ{as:oS}{ch:V}(a:∀p∈as,p.2.pure=aU)(b:ch.pure=aU):∀p∈Nv as ch,p.2.pure=true:=λp h=>by
 rcases aR.mp h with rfl|h
 .rfl
 .rcases aR.mp (pT h).1 with rfl|h
  .rfl
  .rcases aR.mp (pT h).1 with rfl|h
   .exact b
   .exact a p (pT h).1
def mCb(G:Gd)(as:oS)(a:Option bE)(y:Bool)(b:∀p∈as,p.2.pure=aU)(z:pK as (aF "isjunk")=aG .none)(A:pK as (aF "autojunk")=aG (.bool y))(C:pK as (aF "b")=aG (vS a))(f:(a.getD []).length<200):
  vD (n+1) (.ref 188) (.attrs as) [] (λc r=>∃ch,sZ (a.getD []) ch/\ch.pure=aU/\c=.attrs (Nv as ch)/\r=.none):=by
 have g:Dz (vS a)=true:=by cases a<;>rfl
 refine As (fd:=kN o188v0) (o:=o188v0) (tab:=CK) (body:=cH (at_ [5,5])) (dCb w.params) (G.K 188 _ (by kernel_rfl)) rfl G.lim (codeRec_of G.K (by kernel_rfl)) rfl (λvs h=>?_) (by refine (?_:(1:Nat)<=12);decide) b (λL=>?_) (by rfl)
 .revert vs;exact VY λ_=>by kernel_rfl
 .have T:=(dCb w.params).tab L 188;have yH:∀ch,sZ (a.getD []) ch->ch.pure=aU->∀dl,A0 n (Č L) (.builtin "len") dl->(∀σ,dl [vS a] σ=aG (.int (a.getD []).length,σ))->
    SW 1 n (Č L) ((cH (at_ [5,5])).drop 3) ⟨[(0,.inst 0),(1,vS a)],[(0,.attrs (iW (aF "b2j") ch as))],1⟩ (KM (λc r=>∃ch,sZ (a.getD []) ch/\ch.pure=aU/\c=.attrs (Nv as ch)/\r=.none)):=λch m s dl D hd=>by
   refine nn λd=>?_;obtain ⟨σ',e,F⟩:=CF (ch:=ch) z A f hd;refine d ?_;refine kO (Ó G D 1 _ _ _ e) ?_;rintro _ _ ⟨rfl,rfl⟩;refine ⟨_,.attrs (Nv as ch),F,?_,uQ b s,ch,m,s,rfl,rfl⟩;refine (?_:(Bw _ _).map fQ.attrs=_);refine (uI λp t=>dP (uQ b s p t))▸?_;rfl
  refine (?_:SW 1 n (Č L) ((cH (at_ [5,5])).getD 0 default::(cH (at_ [5,5])).getD 1 default::(cH (at_ [5,5])).getD 2 default::(cH (at_ [5,5])).drop 3) ⟨yX 0 [.inst 0],[(0,.attrs as)],1⟩ _);refine gY ((aDl G 1 _ .next ⟨[(0,.inst 0),(1,vS a)],[(0,.attrs as)],1⟩ (IP (pJ (n:=0) (as:=as) rfl rfl C g) rfl)).mono ?_);rintro _ _ ⟨rfl,rfl⟩;refine gY ((aDk G 1 _ .next ⟨[(0,.inst 0),(1,vS a),(2,.ref 1)],[(1,.dict [] []),(0,.attrs (iW (aF "b2j") (.ref 1) as))],2⟩ (IP (v:=.ref 1) rfl rfl)).mono ?_);rintro _ _ ⟨rfl,rfl⟩
  cases a with
  |none=>refine gY (BB T.fk (G.e T.fk rfl rfl Ex (by kernel_rfl) (by decide)) ⟨rfl,trivial⟩ (dA T (aJ (i:=1) rfl) (by decide)) rfl rfl (λ_=>rfl) (σ₁:=⟨[(0,.inst 0),(1,vS aH),(2,.ref 1)],[(1,.dict [] []),(0,.attrs (iW (aF "b2j") (.ref 1) as))],2⟩) (by rfl) ?_);refine Vi (σ':=⟨[(0,.inst 0),(1,vS aH)],[(0,.attrs (iW (aF "b2j") (.dct [] []) as))],1⟩) T.fk (Ii (xs:=[0,1]) ?_) (yH (.dct [] []) ⟨[],[],rfl,rfl,λk=>rfl⟩ rfl IZ DJ RN);refine (?_:WE 1 ⟨[(0,.inst 0),(1,vS aH)],[(1,.dict [] []),(0,.attrs (iW (aF "b2j") (.ref 1) as))],2⟩=_);exact nX rfl (nX (pU (eG 1) (gL KV (EG (Mo rfl (uI λp t=>dP (b p (pT t).1)))) rfl):oH 1 (rZ uY 1 [(1,.dict [] []),(0,.attrs (iW (aF "b2j") (.ref 1) as))]) [(1,.dict [] []),(0,.attrs (iW (aF "b2j") (.ref 1) as))]=aG [(0,.attrs (iW (aF "b2j") (.dct [] []) as))]) rfl)
  |some B=>
   refine gY (BA T.fk (G.e T.fk rfl rfl Ex (by kernel_rfl) (by decide)) ⟨rfl,trivial⟩ (dA T (aJ (i:=1) rfl) (by decide)) rfl (gs:=[cG 3,cG 4]) (eX (rD T (aJ (i:=3) rfl)) (eX (rD T (aJ (i:=4) rfl)) lR rfl) rfl) rfl (λ_=>rfl)
    (l:=B.map V.int) (σ₁:=⟨[(0,.inst 0),(1,vS (aG B)),(2,.ref 1)],[(1,.dict [] []),(0,.attrs (iW (aF "b2j") (.ref 1) as))],2⟩) (by rfl) (tD B)
    (λi σ=>∃ks ns,CbJ B (iW (aF "b2j") (.ref 1) as) i σ ks ns) ⟨[],[],rfl,rfl,rfl,rfl,rfl,rfl,(λ_ _ h=>by cases h),by simp,by simp,λk _=>rfl,bG _,bG _⟩ (λi σ hi ⟨ks,ns,j⟩=>?_) (λσ ⟨ks,ns,j⟩=>?_))
   .have u:i<aC B:=by simpa using hi
    refine nn λd=>?_;obtain ⟨σ',H,I,e,J⟩:=RY u (f) j;refine d ?_;refine ⟨{σ with loc:=put 4 (.int (B.getD i 0)) (put 3 (.int i) σ.loc)},by refine ((by simp [aY,u]:(B.map V.int).getD i .none=.int (B.getD i 0)))▸?_;rfl,?_⟩;refine kO (bM (eQ (PY I2 rfl On (Yh T.fk G.one) (dA T (aJ (i:=2) rfl) (by decide)) (by exact ⟨rfl,rfl,trivial⟩) (fN (dA T (aJ (i:=4) rfl) (by decide)) (fN (jT bF) bF rfl) rfl) rfl) (rD T (aJ (i:=5) rfl)) rfl rfl rfl)
     (dE (eZ rfl rfl (Ho qN rfl nB (G2 T.fk) (dA T (aJ (i:=5) rfl) (by decide)) (by exact ⟨rfl,trivial⟩) (fN (dA T (aJ (i:=3) rfl) (by decide)) bF rfl) rfl))) 1 _ _ _ e) ?_
    rintro _ _ ⟨rfl,rfl⟩;exact ⟨_,Wk.refl,H,I,J⟩
   .have N:CbJ B (iW (aF "b2j") (.ref 1) as) (aC B) σ ks ns:=by simpa using j
    refine nn λd=>?_;obtain ⟨x,m,wk⟩:=ý b N;refine d ?_;exact Vi T.fk wk (yH (LI B x) m (JL B x) oG Vv (No B f))
end
section
variable{n:Nat}
def Ur(aa:Option bE)(v0:V):Prop:=v0=.none\/((∃A,aa=aG A)/\((∃B,v0=vL B)\/∃s,v0=.str s))
def Ur.seq{b:Option bE}{a:V}(h:Ur b a):((∃A,vS b=vL A)/\(a=.none\/(∃B,a=vL B)\/∃s,a=.str s))\/((∃s,vS b=.str s)/\a=.none):=by
 rcases h with rfl|⟨⟨A,rfl⟩,h⟩
 .cases b with
  |none=>exact .inr ⟨⟨_,rfl⟩,rfl⟩
  |some A=>exact .inl ⟨⟨A,rfl⟩,.inl rfl⟩
 .exact .inl ⟨⟨A,rfl⟩,.inr h⟩
def Ur.nf{b:Option bE}{a:V}(h:Ur b a):Dz a=true:=by rcases h with rfl|⟨_,⟨B,rfl⟩|⟨s,rfl⟩⟩<;>rfl
theorem vR:∀a,(vS a).pure=aU
 |aH=>rfl
 |some A=>eO A
def O5(as:oS)(aa:Option bE):oS:=iW (aF "opcodes") V.none (iW (aF "matching_blocks") V.none (iW (aF "a") (vS aa) as))
def kU{s:iS}{v:V}{as:oS}(a:v.pure=aU)(b:∀p∈as,p.2.pure=aU):∀p∈iW s v as,p.2.pure=true:=λp h=>by
 rcases aR.mp h with rfl|h
 .exact a
 .exact b p (pT h).1
def uP{as:oS}(a:Option bE)(b:∀p∈as,p.2.pure=aU):∀p∈O5 as a,p.2.pure=true:=kU rfl (kU rfl (kU (vR a) b))
def uE{k:Nat}{cs:List (Nat×fQ)}{as:oS}(a:∀p∈as,p.2.pure=aU):Jk (rZ uY k cs) (.attrs as)=aG (.attrs as):=by refine (?_:(Bw _ as).map fQ.attrs=_);rw [uI λp b=>dP (a p b)];rfl
def aCu(G:Gd)(as:oS)(a:Option bE)(e:V)(d:∀p∈as,p.2.pure=aU)(g:pK as (aF "a")=aG e)(f:Ur a e):
  vD (n+1) (.ref 174) (.attrs as) [vS a] (λc r=>r=.none/\((e=vS a/\c=.attrs as)\/c=.attrs (O5 as a))):=by
 refine As (fd:=kN o174v0) (o:=o174v0) (tab:=CG) (body:=cH (at_ [5,3])) (dS1 w.params) (G.K 174 _ (by kernel_rfl)) rfl G.lim (codeRec_of G.K (by kernel_rfl)) rfl (λvs h=>?_) (by refine (?_:(2:Nat)<=2);decide) d (λL=>?_) (by simp [fO,eN,vR])
 .revert vs;exact VX λ_ _=>by kernel_rfl
 .have T:=(dS1 w.params).tab L 174;refine gY ((eZ rfl rfl uF 1 _ _ _ rfl).mono ?_);rintro _ _ ⟨rfl,rfl⟩;refine gY (U2 (Nx rfl ((dA T (aJ (i:=1) rfl) (by decide) _ _ _ rfl).mono ?_)));rintro _ _ ⟨rfl,rfl⟩;refine (lF G.K (smA w.params) (dA T (aJ (i:=0) rfl) (by decide)) _ e ⟨yX 0 [.inst 0,vS a],[(0,.attrs as)],1⟩ (pJ (n:=0) (as:=as) rfl rfl g f.nf)).mono ?_;rintro _ _ ⟨rfl,rfl⟩;refine G1 f.seq λb j=>⟨b,rfl,?_⟩;cases b
  .simp only [lO,if_false];refine zM (kO (bM (eQ (dA T (aJ (i:=1) rfl) (by decide)) (jM G.K T.fk (saA w.params) (dA T (aJ (i:=0) rfl) (by decide))) rfl rfl rfl) (dE (oA pV (.cons (jM G.K T.fk (YM w.params) (dA T (aJ (i:=0) rfl) (by decide))) (.cons (jM G.K T.fk (YL w.params) (dA T (aJ (i:=0) rfl) (by decide))) .nil)) rfl rfl rfl)) 1 _ _ _ rfl) ?_);rintro _ _ ⟨rfl,rfl⟩;exact ⟨.attrs (O5 as a),.attrs (O5 as a),rfl,uE (uP a d),uP a d,rfl,.inr rfl⟩
  .simp only [if_true];exact gY (Lm (⟨.attrs as,.attrs as,.none,rfl,uE d,d,rfl,rfl,rfl,.inl ⟨(j rfl).symm,rfl⟩⟩))
noncomputable def TE:lT:=[aF "self",aF "b"]
def dS2(P:fK):lH (kN o181v0) TE:=.of (by kernel_rfl)
def saB(P:fK):Eh (fr P) (aF "b"):=⟨by kernel_rfl,by kernel_rfl,by kernel_rfl,by kernel_rfl,by decide⟩
def aCg(P:fK):Eh (fr P) (aF "fullbcount"):=⟨by kernel_rfl,by kernel_rfl,by kernel_rfl,by kernel_rfl,by decide⟩
def Ym(G:Gd){name:iS}{f:cR}(h1:plainGet (fr w.params) xX name=aU)(h2:findIn (fr w.params) (.ref xX) name=aG (aG (.ref f)))(h3:typeIn (fr w.params) (.ref f)=aG (.type "function"))(h4:name∉sG){o:qY}{fd:sL}(h5:(fr w.params).lookup f=aG o)(h6:o.data=.func fd):N8 (fr w.params) name f:=
 ⟨h1,h2,h3,h4,o,fd,G.K f o h5,h6⟩
def aCt(G:Gd):N8 (fr w.params) (aF "_SequenceMatcher__chain_b") 188:=Ym G (by kernel_rfl) (by kernel_rfl) (by kernel_rfl) (by decide) (o:=MineH.o188v0) (by kernel_rfl) rfl
def Je(as:oS)(bb:Option bE):oS:=iW (aF "fullbcount") V.none (iW (aF "opcodes") V.none (iW (aF "matching_blocks") V.none (iW (aF "b") (vS bb) as)))
def uO{as:oS}(a:Option bE)(b:∀p∈as,p.2.pure=aU):∀p∈Je as a,p.2.pure=true:=kU rfl (kU rfl (kU rfl (kU (vR a) b)))
def wU{s t:iS}(h:(s==t)=bR):s≠t:=by simpa using h
def ų(G:Gd)(as:oS)(a:Option bE)(e:V)(f:Bool)(d:∀p∈as,p.2.pure=aU)(m:pK as (aF "b")=aG e)(l:Ur a e)
  (s:pK as (aF "isjunk")=aG .none) (t:pK as (aF "autojunk")=aG (.bool f)) (u:(a.getD []).length<200):
  vD (n+2) (.ref 181) (.attrs as) [vS a] (λc r=>r=.none/\((e=vS a/\c=.attrs as)\/∃ch,sZ (a.getD []) ch/\ch.pure=aU/\c=.attrs (Nv (Je as a) ch))):=by
 refine As (fd:=kN o181v0) (o:=o181v0) (tab:=TE) (body:=cH (at_ [5,4])) (dS2 w.params) (G.K 181 _ (by kernel_rfl)) rfl G.lim (codeRec_of G.K (by kernel_rfl)) rfl (λvs h=>?_) (by refine (?_:(2:Nat)<=2);decide) d (λL=>?_) (by simp [fO,eN,vR])
 .revert vs;exact VX λ_ _=>by kernel_rfl
 .have T:=(dS2 w.params).tab L 181;refine gY ((eZ rfl rfl uF 1 _ _ _ rfl).mono ?_);rintro _ _ ⟨rfl,rfl⟩;refine gY (U2 (Nx rfl ((dA T (aJ (i:=1) rfl) (by decide) _ _ _ rfl).mono ?_)));rintro _ _ ⟨rfl,rfl⟩;refine (lF G.K (smB w.params) (dA T (aJ (i:=0) rfl) (by decide)) _ e ⟨yX 0 [.inst 0,vS a],[(0,.attrs as)],1⟩ (pJ (n:=0) (as:=as) rfl rfl m l.nf)).mono ?_;rintro _ _ ⟨rfl,rfl⟩;refine G1 l.seq λb v=>⟨b,rfl,?_⟩;cases b
  .simp only [lO,if_false];refine zM (gY ((eQ (dA T (aJ (i:=1) rfl) (by decide)) (jM G.K T.fk (saB w.params) (dA T (aJ (i:=0) rfl) (by decide))) rfl rfl rfl 1 _ _ _ rfl).mono ?_));rintro _ _ ⟨rfl,rfl⟩;refine gY ((oA pV (.cons (jM G.K T.fk (YM w.params) (dA T (aJ (i:=0) rfl) (by decide))) (.cons (jM G.K T.fk (YL w.params) (dA T (aJ (i:=0) rfl) (by decide))) .nil)) rfl rfl rfl 1 _ _ _ rfl).mono ?_);rintro _ _ ⟨rfl,rfl⟩;refine gY ((eQ pV (jM G.K T.fk (aCg w.params) (dA T (aJ (i:=0) rfl) (by decide))) rfl rfl rfl 1 _ _ _ rfl).mono ?_);rintro _ _ ⟨rfl,rfl⟩;have g:pK (Je as a) (aF "b")=aG (vS a):=by simp only [Je,lE];rw [if_neg (wU (by decide)),if_neg (wU (by decide)),if_neg (wU (by decide)),if_pos trivial]
   have j:pK (Je as a) (aF "isjunk")=aG .none:=by simp only [Je,lE];rw [if_neg (wU (by decide)),if_neg (wU (by decide)),if_neg (wU (by decide)),if_neg (wU (by decide))];exact s
   have k:pK (Je as a) (aF "autojunk")=aG (.bool f):=by simp only [Je,lE];rw [if_neg (wU (by decide)),if_neg (wU (by decide)),if_neg (wU (by decide)),if_neg (wU (by decide))];exact t
   refine gY (Ca rfl rfl (zZ G.K (aCt G) rfl (by exact trivial) ((dA T (aJ (i:=0) rfl) (by decide) _ _ _ rfl).mono ?_)));rintro _ _ ⟨rfl,rfl⟩;refine ⟨0,.attrs (Je as a),rfl,rfl,.inl ⟨_,rfl⟩,(bF _ _ _ rfl).mono ?_⟩;rintro _ _ ⟨rfl,rfl⟩;refine Gl T.fk (c0:=.attrs (Je as a)) rfl (uO a d) rfl (mCb G (Je as a) a f (uO a d) j k g u) ?_;rintro _ _ _ _ ⟨ch,h1,h2,rfl,rfl⟩;refine ⟨.inl rfl,zM ?_⟩;exact ⟨.attrs (Nv (Je as a) ch),.attrs (Nv (Je as a) ch),rfl,uE (uQ (uO a d) h2),uQ (uO a d) h2,rfl,.inr ⟨ch,h1,h2,rfl⟩⟩
  .simp only [if_true];exact gY (Lm (⟨.attrs as,.attrs as,.none,rfl,uE d,d,rfl,rfl,rfl,.inl ⟨(v rfl).symm,rfl⟩⟩))
end
section
variable{n:Nat}
def By{as:oS}{ch:V}{s:iS}:pK (Nv as ch) s=if s=aF "bpopular" then aG .set0 else if s=aF "bjunk" then aG .set0 else if s=aF "b2j" then aG ch else pK as s:=by simp only [Nv,lE]
def Hc{as:oS}{a:Option bE}{s:iS}:pK (Je as a) s=if s=aF "fullbcount" then aG .none else if s=aF "opcodes" then aG .none else if s=aF "matching_blocks" then aG .none else if s=aF "b" then aG (vS a)else pK as s:=by simp only [Je,lE]
def D2{as:oS}{a:Option bE}{s:iS}:pK (O5 as a) s=if s=aF "opcodes" then aG .none else if s=aF "matching_blocks" then aG .none else if s=aF "a" then aG (vS a)else pK as s:=by simp only [O5,lE]
def Hk:∀{A B:bE},B.map V.int=A.map V.int->B=A:=by
 intro z1
 induction z1 with
 |nil=>
  intro z2
  cases z2 with
  |nil=>intro _;exact rfl
  |cons b B=>intro h;cases h
 |cons a A c=>
  intro d
  cases d with
  |nil=>intro h;cases h
  |cons b B=>intro h;simp only [cE,kM,V.int.injEq]at h;simp only [h.1,c h.2]
def XT{m:Option bE}{B:bE}(h:vS m=vL B):m=aG B:=by
 cases m with
 |none=>cases h
 |some A=>simp only [vS,vL,V.lst.injEq]at h;rw [Hk h]
def PN(m:Option bE)(B:bE):Ur (aG B) (vS m):=by
 cases m with
 |none=>exact .inr ⟨⟨_,rfl⟩,.inr ⟨_,rfl⟩⟩
 |some A=>exact .inr ⟨⟨_,rfl⟩,.inl ⟨_,rfl⟩⟩
def fP{c:Type}{s t:iS}{a b:c}(h:(s==t)=bR):(if s=t then a else b)=b:=if_neg (wU h)
def Po{m:E3}{as:oS}{ch:V}{c:Option bE}(e:∀p∈as,p.2.pure=aU)(f:pK as (aF "isjunk")=aG .none)(g:pK as (aF "a")=aG (vS m.a))(d:pK as (aF "autojunk")=aG (.bool m.auto))(h:sZ (c.getD []) ch)(i:ch.pure=aU):Bo {m with b:=c} (Nv (Je as c) ch)where
 pure:=uQ (uO _ e) i
 junk:=by rw [By,fP (by decide),fP (by decide),fP (by decide),Hc,fP (by decide),fP (by decide),fP (by decide),fP (by decide)];exact f
 a:=by rw [By,fP (by decide),fP (by decide),fP (by decide),Hc,fP (by decide),fP (by decide),fP (by decide),fP (by decide)];exact g
 b:=by rfl
 auto:=by rw [By,fP (by decide),fP (by decide),fP (by decide),Hc,fP (by decide),fP (by decide),fP (by decide),fP (by decide)];exact d
 bjunk:=by rw [By,fP (by decide),if_pos rfl]
 b2j:=⟨ch,by rw [By,fP (by decide),fP (by decide),if_pos rfl],h⟩
 mb:=.inl (by rw [By,fP (by decide),fP (by decide),fP (by decide),Hc,fP (by decide),fP (by decide),if_pos rfl])
 oc:=.inl (by rw [By,fP (by decide),fP (by decide),fP (by decide),Hc,fP (by decide),if_pos rfl])
def mS2(G:Gd)(m:E3)(B:bE)(f:aC B<200):vD (n+2) (.ref 181) (.mat m) [vL B] (λc r=>c=.mat {m with b:=some B}/\r=.none):=by
 refine G6 λas a=>?_;have:=ų (n:=n) G as (aG B) (vS m.b) m.auto a.pure a.b (PN _ _) a.junk a.auto f;refineλA Y h tk x c vs a1 g i j k l o s t=>bK (this A Y h tk x c vs a1 g i j k l o s t) (λv J p=>?_) λ_ _ z=>z;obtain ⟨h',u,c1,r,e,k1,k2,y,C,D,F,rfl,p⟩:=p;refine ⟨h',u,c1,.none,e,k1,k2,y,C,D,F,?_⟩;rcases p with ⟨q,rfl⟩|⟨ch,H,I,rfl⟩
 .have d:m.b=aG B:=XT q;have:({m with b:=some B}:E3)=m:=by cases m;simp at d;simp [d]
  exact ⟨as,rfl,by rw [this];exact a,rfl⟩
 .exact ⟨_,rfl,Po a.pure a.junk a.a a.auto H I,rfl⟩
noncomputable def TD:lT:=[aF "self",aF "a",aF "b"]
def dSs(P:fK):lH (kN o167v0) TD:=.of (by kernel_rfl)
def ů(G:Gd):N8 (fr w.params) (aF "set_seq1") 174:=Ym G (by kernel_rfl) (by kernel_rfl) (by kernel_rfl) (by decide) (o:=MineH.o174v0) (by kernel_rfl) rfl
def Ů(G:Gd):N8 (fr w.params) (aF "set_seq2") 181:=Ym G (by kernel_rfl) (by kernel_rfl) (by kernel_rfl) (by decide) (o:=MineH.o181v0) (by kernel_rfl) rfl
def aCs(G:Gd):N8 (fr w.params) (aF "set_seqs") 167:=Ym G (by kernel_rfl) (by kernel_rfl) (by kernel_rfl) (by decide) (o:=MineH.o167v0) (by kernel_rfl) rfl
def TA(a:Option bE):V.none≠vS a:=λe=>by cases a<;>cases e
def mSs(G:Gd)(as:oS)(a b:Option bE)(e:Bool)(d:∀p∈as,p.2.pure=aU)(f:pK as (aF "a")=aG .none)(k:pK as (aF "b")=aG .none)
  (l:pK as (aF "isjunk")=aG .none) (m:pK as (aF "autojunk")=aG (.bool e)) (s:(b.getD []).length<200):
  vD (n+3) (.ref 167) (.attrs as) [vS a,vS b] (λc r=>r=.none/\∃ch,sZ (b.getD []) ch/\ch.pure=aU/\c=.attrs (Nv (Je (O5 as a) b) ch)):=by
 refine As (fd:=kN o167v0) (o:=o167v0) (tab:=TD) (body:=cH (at_ [5,2])) (dSs w.params) (G.K 167 _ (by kernel_rfl)) rfl G.lim (codeRec_of G.K (by kernel_rfl)) rfl (λvs h=>?_) (by refine (?_:(3:Nat)<=3);decide) d (λL=>?_) (by simp [fO,eN,vR])
 .revert vs;exact ll3 λ_ _ _=>by kernel_rfl
 .have T:=(dSs w.params).tab L 167;refine gY ((eZ rfl rfl uF 1 _ _ _ rfl).mono ?_);rintro _ _ ⟨rfl,rfl⟩;refine gY (Ca rfl rfl (zZ G.K (ů G) rfl (by exact ⟨rfl,trivial⟩) ((dA T (aJ (i:=0) rfl) (by decide) _ _ _ rfl).mono ?_)));rintro _ _ ⟨rfl,rfl⟩;refine ⟨0,.attrs as,rfl,rfl,.inl ⟨_,rfl⟩,((fN (dA T (aJ (i:=1) rfl) (by decide)) bF rfl) _ _ _ rfl).mono ?_⟩;rintro _ _ ⟨rfl,rfl⟩;refine Gl T.fk (c0:=.attrs as) rfl d (by simp [fO,eN,vR]) (aCu (n:=n+1) G as a .none d f (.inl rfl)) ?_;rintro _ _ _ _ ⟨rfl,⟨q,_⟩|rfl⟩
  .exact absurd q (TA _)
  refine ⟨.inl rfl,?_⟩;refine gY (Ca rfl rfl (zZ G.K (Ů G) rfl (by exact ⟨rfl,trivial⟩) ((dA T (aJ (i:=0) rfl) (by decide) _ _ _ rfl).mono ?_)));rintro _ _ ⟨rfl,rfl⟩;refine ⟨0,.attrs (O5 as a),rfl,rfl,.inl ⟨_,rfl⟩,((fN (dA T (aJ (i:=2) rfl) (by decide)) bF rfl) _ _ _ rfl).mono ?_⟩;rintro _ _ ⟨rfl,rfl⟩;refine Gl T.fk (c0:=.attrs (O5 as a)) rfl (uP a d) (by simp [fO,eN,vR]) (ų (n:=n) G (O5 as a) b .none e (uP a d) (by rw [D2,fP (by decide),fP (by decide),fP (by decide)];exact k:pK (O5 as a) (aF "b")=aG .none) (.inl rfl) (by rw [D2,fP (by decide),fP (by decide),fP (by decide)];exact l:pK (O5 as a) (aF "isjunk")=aG .none) (by rw [D2,fP (by decide),fP (by decide),fP (by decide)];exact m:pK (O5 as a) (aF "autojunk")=aG (.bool e)) s) ?_;rintro _ _ _ _ ⟨rfl,⟨q,_⟩|⟨ch,t,g,rfl⟩⟩
  .exact absurd q (TA _)
  refine ⟨.inl rfl,zM ?_⟩;have j:=uQ (uO b (uP a d)) g;exact ⟨.attrs (Nv (Je (O5 as a) b) ch),.attrs (Nv (Je (O5 as a) b) ch),rfl,uE j,j,rfl,ch,t,g,rfl⟩
noncomputable def CH:lT:=[aF "self",aF "isjunk",aF "a",aF "b",aF "autojunk"]
def dIn(P:fK):lH (kN Dy) CH:=.of (by kernel_rfl)
def saJ(P:fK):Eh (fr P) (aF "isjunk"):=⟨by kernel_rfl,by kernel_rfl,by kernel_rfl,by kernel_rfl,by decide⟩
def aCj(P:fK):Eh (fr P) (aF "autojunk"):=⟨by kernel_rfl,by kernel_rfl,by kernel_rfl,by kernel_rfl,by decide⟩
def Ws(au:Bool):oS:=iW (aF "autojunk") (.bool au) (iW (aF "b") .none (iW (aF "a") .none (iW (aF "isjunk") .none [])))
def mIn(G:Gd)(b e:Option bE)(a:Bool)(s:(e.getD []).length<200){ds dds:cA}{dvs:eW}(f:ds++dds=[.none,vS b,vS e,.bool a])(t:dH ds=aU)(u:∀D Y h,bN D Y h dds dvs)
  (v:∀K vs,aC vs=aC ds+1->peek (fr w.params) K (bindArgs (kN Dy) ⟨vs,[]⟩)=aG (CH.zip (vs++dvs))):
  Zz (n+4) (.ref 160) (.attrs []) ds (λc r=>r=.none/\∃as,c=.attrs as/\Bo ⟨b,e,a⟩ as):=by
 refine Mj (fd:=kN Dy) (o:=Dy) (tab:=CH) (body:=cH (at_ [5,1])) (dIn w.params) (G.K 160 _ (by kernel_rfl)) rfl G.lim (codeRec_of G.K (by kernel_rfl)) rfl u (λh tk vs x y=>?_) (by rw [f];refine (?_:(5:Nat)<=5);decide) (λp d=>by cases d) (λL=>?_) t
 .refine kp_binds (G.K.keeps x) λK=>?_;rw [v K vs y,f];rfl
 .rw [f];have T:=(dIn w.params).tab L 160;refine gY ((eZ rfl rfl uF 1 _ _ _ rfl).mono ?_);rintro _ _ ⟨rfl,rfl⟩;refine gY ((eQ (dA T (aJ (i:=1) rfl) (by decide)) (jM G.K T.fk (saJ w.params) (dA T (aJ (i:=0) rfl) (by decide))) rfl rfl rfl 1 _ _ _ rfl).mono ?_);rintro _ _ ⟨rfl,rfl⟩;refine gY ((oA pV (.cons (jM G.K T.fk (saA w.params) (dA T (aJ (i:=0) rfl) (by decide))) (.cons (jM G.K T.fk (saB w.params) (dA T (aJ (i:=0) rfl) (by decide))) .nil)) rfl rfl rfl 1 _ _ _ rfl).mono ?_);rintro _ _ ⟨rfl,rfl⟩;refine gY ((eQ (dA T (aJ (i:=4) rfl) (by decide)) (jM G.K T.fk (aCj w.params) (dA T (aJ (i:=0) rfl) (by decide))) rfl rfl rfl 1 _ _ _ rfl).mono ?_);rintro _ _ ⟨rfl,rfl⟩;have d:∀p∈Ws a,p.2.pure=true:=kU rfl (kU rfl (kU rfl (kU rfl λp d=>by cases d)));refine gY (Ca rfl rfl (zZ G.K (aCs G) rfl (by exact ⟨rfl,rfl,trivial⟩) ((dA T (aJ (i:=0) rfl) (by decide) _ _ _ rfl).mono ?_)));rintro _ _ ⟨rfl,rfl⟩;refine ⟨0,.attrs (Ws a),rfl,rfl,.inl ⟨_,rfl⟩,((fN (dA T (aJ (i:=2) rfl) (by decide)) (fN (dA T (aJ (i:=3) rfl) (by decide)) bF rfl) rfl) _ _ _ rfl).mono ?_⟩;rintro _ _ ⟨rfl,rfl⟩;have g:pK (Ws a) (aF "isjunk")=aG .none:=by simp only [Ws,lE];rw [fP (by decide),fP (by decide),fP (by decide),if_pos trivial]
  have j:pK (Ws a) (aF "autojunk")=aG (.bool a):=by simp only [Ws,lE];rw [if_pos trivial]
  refine Gl T.fk (c0:=.attrs (Ws a)) rfl d (by simp [fO,eN,vR]) (mSs (n:=n) G (Ws a) b e a d (by simp only [Ws,lE];rw [fP (by decide),fP (by decide),if_pos trivial]:pK (Ws a) (aF "a")=aG .none) (by simp only [Ws,lE];rw [fP (by decide),if_pos trivial]:pK (Ws a) (aF "b")=aG .none) g j s) ?_;rintro _ _ _ _ ⟨rfl,ch,z,k,rfl⟩;refine ⟨.inl rfl,zM ?_⟩;have l:=uQ (uO e (uP b d)) k;refine ⟨.attrs (Nv (Je (O5 (Ws a) b) e) ch),.attrs (Nv (Je (O5 (Ws a) b) e) ch),rfl,uE l,l,rfl,_,rfl,?_⟩;refine Po (m:=⟨b,aH,a⟩) (uP b d) ?_ ?_ ?_ z k
  .rw [D2,fP (by decide),fP (by decide),fP (by decide)];exact g
  .rw [D2,fP (by decide),fP (by decide),if_pos rfl]
  .rw [D2,fP (by decide),fP (by decide),fP (by decide)];exact j
end
def Ŏ(P:fK):Ix (fr P) (aF "a"):=⟨by kernel_rfl,by kernel_rfl,_,(by kernel_rfl:findIn (fr P) (.ref xX) (aF "a")=aG aH),by kernel_rfl⟩
def ō(P:fK):Ix (fr P) (aF "b"):=⟨by kernel_rfl,by kernel_rfl,_,(by kernel_rfl:findIn (fr P) (.ref xX) (aF "b")=aG aH),by kernel_rfl⟩
def qL(P:fK):Ix (fr P) (aF "matching_blocks"):=⟨by kernel_rfl,by kernel_rfl,_,(by kernel_rfl:findIn (fr P) (.ref xX) (aF "matching_blocks")=aG aH),by kernel_rfl⟩
def Bv(P:fK):Eh (fr P) (aF "matching_blocks"):=⟨by kernel_rfl,by kernel_rfl,by kernel_rfl,by kernel_rfl,by decide⟩
def YH(P:fK):Ix (fr P) (aF "b2j"):=⟨by kernel_rfl,by kernel_rfl,_,(by kernel_rfl:findIn (fr P) (.ref xX) (aF "b2j")=aG aH),by kernel_rfl⟩
def CO(P:fK):Ix (fr P) (aF "bjunk"):=⟨by kernel_rfl,by kernel_rfl,_,(by kernel_rfl:findIn (fr P) (.ref xX) (aF "bjunk")=aG aH),by kernel_rfl⟩
section
def ű(G:Gd):N8 (fr w.params) (aF "find_longest_match") 196:=Ym G (by kernel_rfl) (by kernel_rfl) (by kernel_rfl) (by decide) (o:=MineH.o196v0) (by kernel_rfl) rfl
def Ű(G:Gd):N8 (fr w.params) (aF "get_matching_blocks") 203:=Ym G (by kernel_rfl) (by kernel_rfl) (by kernel_rfl) (by decide) (o:=MineH.o203v0) (by kernel_rfl) rfl
end
noncomputable def Ss:lT:=[aF "self",aF "alo",aF "ahi",aF "blo",aF "bhi",aF "a",aF "b",aF "b2j",aF "isbjunk",aF "besti",aF "bestj",aF "bestsize",aF "j2len",aF "nothing",aF "i",aF "j2lenget",aF "newj2len",aF "j",aF "k"]
def aA4(P:fK):lH (kN MineH.o196v0) Ss:=.of (by kernel_rfl)
def Ib:Nat->M Fl:=(eU (yF (gM (bJ Jr (aP 17) (aP 3))) (nA .cont) (nA .next)) (rT [1,2,3,4,5,6,7,8,9,10,11,13,14,15,16,17] (eU (yF (gM (bJ gGe (aP 17) (aP 4))) (nA .brk) (nA .next)) (rT [1,2,3,4,5,6,7,8,9,10,11,13,14,15,16,17] (eU (fU (bJ fF (vZ (aP 15) (aS (bJ oE (aP 17) (gK (.int 1))) (aS (gK (.int 0)) bP))) (gK (.int 1))) (Fb [(cG 18),(HL (aP 16) (aP 17))])) (yF (gM (bJ Ĭ (aP 18) (aP 11))) (fU (kC (aS (bJ fF (bJ oE (aP 14) (aP 18)) (gK (.int 1))) (aS (bJ fF (bJ oE (aP 17) (aP 18)) (gK (.int 1))) (aS (aP 18) bP)))) (Zd [cG 11,cG 10,cG 9])) (nA .next)))))))
def HQ:Nat->M Fl:=(fU (aP 16) (cG 12))
def Qz:Nat->M Fl:=(eU (fU (gBm (aP 12)) (cG 15)) (eU (fU à (cG 16)) (rT [1,2,3,4,5,6,7,8,9,10,11,13,14,15,16] (eU (vI [1,2,3,4,5,6,7,8,9,10,11,13,14,15,16] (lG (gDM Zr (aP 7) (aS (bJ fT (aP 5) (aP 14)) (aS (aP 13) bP)))) (cG 17) (Ib)) (rT [1,2,3,4,5,6,7,8,9,10,11,13,16] (HQ))))))
def HU:Nat->M Fl:=(fU (kC (aS (bJ oE (aP 9) (gK (.int 1))) (aS (bJ oE (aP 10) (gK (.int 1))) (aS (bJ fF (aP 11) (gK (.int 1))) bP)))) (Zd [cG 11,cG 10,cG 9]))
def HT:Nat->M Fl:=(T8 11 Qv (gK (.int 1)))
def HS:Nat->M Fl:=(fU (kC (aS (bJ oE (aP 9) (gK (.int 1))) (aS (bJ oE (aP 10) (gK (.int 1))) (aS (bJ fF (aP 11) (gK (.int 1))) bP)))) (Zd [cG 11,cG 10,cG 9]))
def HR:Nat->M Fl:=(fU (bJ fF (aP 11) (gK (.int 1))) (cG 11))
def Qy:Nat->M Fl:=(tQ (eV IY (aS (aP 9) (aS (aP 10) (aS (aP 11) bP)))))
def H7:Nat->M Fl:=(rT [2,4,5,6,8,9,10,11] (eU (tP [2,4,5,6,8,9,10,11] (kJ (gM (bJ Jr (bJ fF (aP 9) (aP 11)) (aP 2))) (kJ (gM (bJ Jr (bJ fF (aP 10) (aP 11)) (aP 4))) (kJ (yY (vZ (aP 8) (aS (bJ fT (aP 6) (bJ fF (aP 10) (aP 11))) bP))) (kJ (gM (bJ D8 (bJ fT (aP 5) (bJ fF (aP 9) (aP 11))) (bJ fT (aP 6) (bJ fF (aP 10) (aP 11))))) (λσ=>aG (aU,σ)))))) (HR)) (rT [9,10,11] (Qy))))
def H8:Nat->M Fl:=(rT [1,2,3,4,5,6,8,9,10,11] (eU (tP [1,2,3,4,5,6,8,9,10,11] (kJ (gM (bJ Ĭ (aP 9) (aP 1))) (kJ (gM (bJ Ĭ (aP 10) (aP 3))) (kJ (yY (vZ (aP 8) (aS (bJ fT (aP 6) (bJ oE (aP 10) (gK (.int 1)))) bP))) (kJ (gM (bJ D8 (bJ fT (aP 5) (bJ oE (aP 9) (gK (.int 1)))) (bJ fT (aP 6) (bJ oE (aP 10) (gK (.int 1)))))) (λσ=>aG (aU,σ)))))) (HS)) (H7)))
def H9:Nat->M Fl:=(rT [1,2,3,4,5,6,8,9,10,11] (eU (tP [1,2,3,4,5,6,8,9,10,11] (kJ (gM (bJ Jr (bJ fF (aP 9) (aP 11)) (aP 2))) (kJ (gM (bJ Jr (bJ fF (aP 10) (aP 11)) (aP 4))) (kJ (Ze (yY (vZ (aP 8) (aS (bJ fT (aP 6) (bJ fF (aP 10) (aP 11))) bP)))) (kJ (gM (bJ D8 (bJ fT (aP 5) (bJ fF (aP 9) (aP 11))) (bJ fT (aP 6) (bJ fF (aP 10) (aP 11))))) (λσ=>aG (aU,σ)))))) (HT)) (H8)))
def Ia:Nat->M Fl:=(rT [1,2,3,4,5,6,8,9,10,11] (eU (tP [1,2,3,4,5,6,8,9,10,11] (kJ (gM (bJ Ĭ (aP 9) (aP 1))) (kJ (gM (bJ Ĭ (aP 10) (aP 3))) (kJ (Ze (yY (vZ (aP 8) (aS (bJ fT (aP 6) (bJ oE (aP 10) (gK (.int 1)))) bP)))) (kJ (gM (bJ D8 (bJ fT (aP 5) (bJ oE (aP 9) (gK (.int 1)))) (bJ fT (aP 6) (bJ oE (aP 10) (gK (.int 1)))))) (λσ=>aG (aU,σ)))))) (HU)) (H9)))
def QP:Nat->M Fl:=(eU (xP (gK (.str (MineH.fnDoc (at_ [5,6]))))) (eU (fU (kC (aS (tX (aF "a") (aP 0)) (aS (tX (aF "b") (aP 0)) (aS (tX (aF "b2j") (aP 0)) (aS (á (tX (aF "bjunk") (aP 0))) bP))))) (Ol [(cG 5),(cG 6),(cG 7),(cG 8)])) (eU (yF (gM (bJ Zf (aP 2) (gK .none))) (fU (eV oG (aS (aP 5) bP)) (cG 2)) (nA .next)) (rT [1,2,3,4,5,6,7,8] (eU (yF (gM (bJ Zf (aP 4) (gK .none))) (fU (eV oG (aS (aP 6) bP)) (cG 4)) (nA .next)) (rT [1,2,3,4,5,6,7,8] (eU (fU (kC (aS (aP 1) (aS (aP 3) (aS (gK (.int 0)) bP)))) (Zd [cG 11,cG 10,cG 9])) (eU (fU (gK (.dct [] [])) (cG 12)) (eU (fU (pW bP) (cG 13)) (rT [1,2,3,4,5,6,7,8,9,10,11,12,13] (eU (vI [1,2,3,4,5,6,7,8,9,10,11,12,13] (gH (aS (aP 1) (aS (aP 2) bP))) (cG 14) (Qz)) (Ia))))))))))))
def aAl{n:Nat}{L:cR}(G:Gd):Fd (n+2) (vH (kN MineH.o196v0) L 196 Ss) (cH (at_ [5,6])) (QP):=by have T:=(aA4 w.params).tab L 196;exact (bM (eZ rfl rfl uF) (bM (eQ (dQ (ic (lF G.K (Ŏ w.params) (lc T 0)) (ic (lF G.K (ō w.params) (lc T 0)) (ic (lF G.K (YH w.params) (lc T 0)) (ic (QA (lF G.K (CO w.params) (lc T 0)) rfl) bF))))) (mR (eX (lg T 5) (eX (lg T 6) (eX (lg T 7) (ig (lg T 8) lR) rfl) rfl) rfl)) rfl rfl rfl) (bM (jS (dU Nf (lc T 2) pV rfl) (dE (eQ (ln (G.f T.fk oK) (lc T 5)) (lg T 2) rfl rfl rfl)) iD) (fB T.fk (bM (jS (dU Nf (lc T 4) pV rfl) (dE (eQ (ln (G.f T.fk oK) (lc T 6)) (lg T 4) rfl rfl rfl)) iD) (fB T.fk (bM (oX (dQ (ic (lc T 1) (ic (lc T 3) (ic bT bF)))) (gJ T (aJ (i:=11) rfl) (gJ T (aJ (i:=10) rfl) (gJ T (aJ (i:=9) rfl) qD))) rfl rfl) (bM (eQ Y6 (lg T 12) rfl rfl rfl) (bM (eQ (kB bF) (lg T 13) rfl rfl rfl) (fB T.fk (bM (mM T.fk (Kt (G.f T.fk oJ) (by exact ⟨rfl,⟨rfl,trivial⟩⟩) (ic (lc T 1) (ic (lc T 2) bF)) rfl) (lg T 14) (bM (eQ (QB (lc T 12) rfl) (lg T 15) rfl rfl rfl) (bM (eQ Ku (lg T 16) rfl rfl rfl) (fB T.fk (bM (mM T.fk (qE (Õ Sd rfl On DL (lc T 7) (by exact ⟨rfl,⟨rfl,trivial⟩⟩) (ic (ix (lc T 5) (lc T 14)) (ic (lc T 13) bF)) rfl)) (lg T 17) (bM (jS (dU sD (lc T 17) (lc T 3) rfl) (dE GO) iD) (fB T.fk (bM (jS (dU HP (lc T 17) (lc T 4) rfl) (dE Y5) iD) (fB T.fk (bM (oA (bQ dJ (uT (lc T 15) (by exact ⟨rfl,⟨rfl,trivial⟩⟩) (ic (bQ iE (lc T 17) bT) (ic bT bF)) rfl) bT) (.cons (lg T 18) (.cons (GP T.fk (lc T 16) (lc T 17)) .nil)) rfl rfl rfl) (dE (jS (dU H5 (lc T 18) (lc T 11) rfl) (dE (oX (dQ (ic (bQ dJ (bQ iE (lc T 14) (lc T 18)) bT) (ic (bQ dJ (bQ iE (lc T 17) (lc T 18)) bT) (ic (lc T 18) bF)))) (gJ T (aJ (i:=11) rfl) (gJ T (aJ (i:=10) rfl) (gJ T (aJ (i:=9) rfl) qD))) rfl rfl)) iD))))))) λ_=>rfl) (fB T.fk (dE (eQ (lc T 16) (lg T 12) rfl rfl rfl))))))) λ_=>rfl) (fB T.fk (bM (uJ T.fk (lS (fJ (dU H5 (lc T 9) (lc T 1) rfl) (fJ (dU H5 (lc T 10) (lc T 3) rfl) (fJ (M7 (rE (uT (lc T 8) (by exact ⟨rfl,trivial⟩) (ic (ix (lc T 6) (bQ iE (lc T 10) bT)) bF) rfl) rfl)) (fJ (dU sE (ix (lc T 5) (bQ iE (lc T 9) bT)) (ix (lc T 6) (bQ iE (lc T 10) bT)) rfl) mS))))) (dE (oX (dQ (ic (bQ iE (lc T 9) bT) (ic (bQ iE (lc T 10) bT) (ic (bQ dJ (lc T 11) bT) bF)))) (gJ T (aJ (i:=11) rfl) (gJ T (aJ (i:=10) rfl) (gJ T (aJ (i:=9) rfl) qD))) rfl rfl))) (fB T.fk (bM (uJ T.fk (lS (fJ (dU sD (bQ dJ (lc T 9) (lc T 11)) (lc T 2) rfl) (fJ (dU sD (bQ dJ (lc T 10) (lc T 11)) (lc T 4) rfl) (fJ (M7 (rE (uT (lc T 8) (by exact ⟨rfl,trivial⟩) (ic (ix (lc T 6) (bQ dJ (lc T 10) (lc T 11))) bF) rfl) rfl)) (fJ (dU sE (ix (lc T 5) (bQ dJ (lc T 9) (lc T 11))) (ix (lc T 6) (bQ dJ (lc T 10) (lc T 11))) rfl) mS))))) (dE (Hm T (aJ (i:=11) rfl) H4 bT))) (fB T.fk (bM (uJ T.fk (lS (fJ (dU H5 (lc T 9) (lc T 1) rfl) (fJ (dU H5 (lc T 10) (lc T 3) rfl) (fJ (rE (uT (lc T 8) (by exact ⟨rfl,trivial⟩) (ic (ix (lc T 6) (bQ iE (lc T 10) bT)) bF) rfl) rfl) (fJ (dU sE (ix (lc T 5) (bQ iE (lc T 9) bT)) (ix (lc T 6) (bQ iE (lc T 10) bT)) rfl) mS))))) (dE (oX (dQ (ic (bQ iE (lc T 9) bT) (ic (bQ iE (lc T 10) bT) (ic (bQ dJ (lc T 11) bT) bF)))) (gJ T (aJ (i:=11) rfl) (gJ T (aJ (i:=10) rfl) (gJ T (aJ (i:=9) rfl) qD))) rfl rfl))) (fB T.fk (bM (uJ T.fk (lS (fJ (dU sD (bQ dJ (lc T 9) (lc T 11)) (lc T 2) rfl) (fJ (dU sD (bQ dJ (lc T 10) (lc T 11)) (lc T 4) rfl) (fJ (rE (uT (lc T 8) (by exact ⟨rfl,trivial⟩) (ic (ix (lc T 6) (bQ dJ (lc T 10) (lc T 11))) bF) rfl) rfl) (fJ (dU sE (ix (lc T 5) (bQ dJ (lc T 9) (lc T 11))) (ix (lc T 6) (bQ dJ (lc T 10) (lc T 11))) rfl) mS))))) (dE (eQ (bQ dJ (lc T 11) bT) (lg T 11) rfl rfl rfl))) (fB T.fk (dE (nN (Kx G.K (by kernel_rfl) (G.f T.fk Wy) (Ye G.K (Co w.params) λa b c=>(aAv G a b c).c) (by exact ⟨rfl,⟨rfl,⟨rfl,trivial⟩⟩⟩) (ic (lc T 9) (ic (lc T 10) (ic (lc T 11) bF))) rfl)))))))))))))))))))))))
noncomputable def CI:lT:=[aF "self",aF "la",aF "lb",aF "queue",aF "matching_blocks",aF "alo",aF "ahi",aF "blo",aF "bhi",aF "i",aF "j",aF "k",aF "x",aF "i1",aF "j1",aF "k1",aF "non_adjacent",aF "i2",aF "j2",aF "k2"]
def aA3(P:fK):lH (kN MineH.o203v0) CI:=.of (by kernel_rfl)
def C2(av:Da):Nat->M Fl:=(eU (fU (zW aA1 (aP 3) bP) (Ol [(cG 5),(cG 6),(cG 7),(cG 8)])) (eU (fU (ß av (aP 0) (aS (aP 5) (aS (aP 6) (aS (aP 7) (aS (aP 8) bP))))) (Fb [(QL [(cG 9),(cG 10),(cG 11)]),(cG 12)])) (yF (yY (aP 11)) (eU (xP (zW gT (aP 4) (aS (aP 12) bP))) (eU (yF (kJ (gM (bJ Jr (aP 5) (aP 9))) (kJ (gM (bJ Jr (aP 7) (aP 10))) (λσ=>aG (aU,σ)))) (xP (zW gT (aP 3) (aS (kC (aS (aP 5) (aS (aP 9) (aS (aP 7) (aS (aP 10) bP))))) bP))) (nA .next)) (rT [0,1,2,3,4,6,8,9,10,11] (yF (kJ (gM (bJ Jr (bJ fF (aP 9) (aP 11)) (aP 6))) (kJ (gM (bJ Jr (bJ fF (aP 10) (aP 11)) (aP 8))) (λσ=>aG (aU,σ)))) (xP (zW gT (aP 3) (aS (kC (aS (bJ fF (aP 9) (aP 11)) (aS (aP 6) (aS (bJ fF (aP 10) (aP 11)) (aS (aP 8) bP))))) bP))) (nA .next))))) (nA .next))))
def H6(av:Da):Nat->M Fl:=(yF (kJ (gM (bJ D8 (bJ fF (aP 13) (aP 15)) (aP 17))) (kJ (gM (bJ D8 (bJ fF (aP 14) (aP 15)) (aP 18))) (λσ=>aG (aU,σ)))) (T8 15 Qv (aP 19)) (eU (yF (yY (aP 15)) (xP (zW gT (aP 16) (aS (kC (aS (aP 13) (aS (aP 14) (aS (aP 15) bP)))) bP))) (nA .next)) (rT [0,1,2,16,17,18,19] (fU (kC (aS (aP 17) (aS (aP 18) (aS (aP 19) bP)))) (Zd [cG 15,cG 14,cG 13])))))
def Qw(av:Da):Nat->M Fl:=(eU (yF (yY (aP 15)) (xP (zW gT (aP 16) (aS (kC (aS (aP 13) (aS (aP 14) (aS (aP 15) bP)))) bP))) (nA .next)) (rT [0,1,2,16] (eU (xP (zW gT (aP 16) (aS (kC (aS (aP 1) (aS (aP 2) (aS (gK (.int 0)) bP)))) bP))) (eU (fU (HM (aP 16)) (E0 (aF "matching_blocks") (aP 0))) (tQ (tX (aF "matching_blocks") (aP 0)))))))
def Qx(av:Da):Nat->M Fl:=(eU (xP (zW IV (aP 4) bP)) (Zg (eU (fU (gK (.int 0)) (Fb [(cG 13),(cG 14),(cG 15)])) (eU (fU (kR bP) (cG 16)) (rT [0,1,2,4,13,14,15,16] (eU (vI [0,1,2,13,14,15,16] (lG (aP 4)) (QL [(cG 17),(cG 18),(cG 19)]) (H6 av)) (rT [0,1,2,13,14,15,16] (Qw av))))))))
def HO(av:Da):Nat->M Fl:=(eU (xP (gK (.str (MineH.fnDoc (at_ [5,7]))))) (eU (yF (gM (bJ WC (tX (aF "matching_blocks") (aP 0)) (gK .none))) (tQ (tX (aF "matching_blocks") (aP 0))) (nA .next)) (rT [0] (eU (fU (kC (aS (eV oG (aS (tX (aF "a") (aP 0)) bP)) (aS (eV oG (aS (tX (aF "b") (aP 0)) bP)) bP))) (Zd [cG 2,cG 1])) (eU (fU (kR (aS (kC (aS (gK (.int 0)) (aS (aP 1) (aS (gK (.int 0)) (aS (aP 2) bP))))) bP)) (cG 3)) (eU (fU (kR bP) (cG 4)) (rT [0,1,2,3,4] (eU (tP [0,1,2,3,4] (yY (aP 3)) (C2 av)) (rT [0,1,2,4] (Qx av))))))))))
def VZ{n:Nat}{L:cR}(G:Gd){d:Da}(e:∀c0 us c1 r,dH us=aU->d c0 us=aG (c1,r)->qQ c0/\vD (n+2) (.ref 196) c0 us (λc f=>c=c1/\f=r)):Fd (n+2) (vH (kN MineH.o203v0) L 203 CI) (cH (at_ [5,7])) (HO d):=by have T:=(aA3 w.params).tab L 203;exact (bM (eZ rfl rfl uF) (bM (jS (dU HN (lF G.K (qL w.params) (lc T 0)) pV rfl) (dE (nN (lF G.K (qL w.params) (lc T 0)))) iD) (fB T.fk (bM (oX (dQ (ic (ln (G.f T.fk oK) (lF G.K (Ŏ w.params) (lc T 0))) (ic (ln (G.f T.fk oK) (lF G.K (ō w.params) (lc T 0))) bF))) (gJ T (aJ (i:=2) rfl) (gJ T (aJ (i:=1) rfl) qD)) rfl rfl) (bM (eQ (jT (ic (by refine dQ ?_;exact (ic bT (ic (lc T 1) (ic bT (ic (lc T 2) bF))))) bF)) (lg T 3) rfl rfl rfl) (bM (eQ (jT bF) (lg T 4) rfl rfl rfl) (fB T.fk (bM (uJ T.fk (rE (lc T 3) rfl) (bM (eQ (Ho Ah rfl nB (NN T.fk) (lc T 3) (by exact trivial) bF rfl) (mR (eX (lg T 5) (eX (lg T 6) (eX (lg T 7) (ig (lg T 8) lR) rfl) rfl) rfl)) rfl rfl rfl) (bM (oA (Av G.K T.fk (ű G) e (lc T 0) (by exact ⟨rfl,⟨rfl,⟨rfl,⟨rfl,trivial⟩⟩⟩⟩) (ic (lc T 5) (ic (lc T 6) (ic (lc T 7) (ic (lc T 8) bF)))) rfl) (.cons (Hn G.K (Co w.params) (eX (lg T 9) (eX (lg T 10) (ig (lg T 11) lR) rfl) rfl)) (.cons (lg T 12) .nil)) rfl rfl rfl) (dE (jS (rE (lc T 11) rfl) (bM (eZ rfl rfl (la T.fk (lc T 4) (lc T 12))) (bM (jS (lS (fJ (dU sD (lc T 5) (lc T 9) rfl) (fJ (dU sD (lc T 7) (lc T 10) rfl) mS))) (dE (eZ rfl rfl (la T.fk (lc T 3) (by refine dQ ?_;exact (ic (lc T 5) (ic (lc T 9) (ic (lc T 7) (ic (lc T 10) bF)))))))) iD) (fB T.fk (dE (jS (lS (fJ (dU sD (bQ dJ (lc T 9) (lc T 11)) (lc T 6) rfl) (fJ (dU sD (bQ dJ (lc T 10) (lc T 11)) (lc T 8) rfl) mS))) (dE (eZ rfl rfl (la T.fk (lc T 3) (by refine dQ ?_;exact (ic (bQ dJ (lc T 9) (lc T 11)) (ic (lc T 6) (ic (bQ dJ (lc T 10) (lc T 11)) (ic (lc T 8) bF)))))))) iD))))) iD))))) (fB T.fk (bM (eZ rfl rfl (Ho PySem.F.slot_list_sort rfl nB (Yg G.K (Co w.params) T.fk) (lc T 4) (by exact trivial) bF rfl)) (M5 T.fk (bM (oA bT (.cons (lg T 13) (.cons (lg T 14) (.cons (lg T 15) .nil))) rfl rfl rfl) (bM (eQ (jT bF) (lg T 16) rfl rfl rfl) (fB T.fk (bM (mM T.fk (qE (lc T 4)) (Hn G.K (Co w.params) (eX (lg T 17) (eX (lg T 18) (ig (lg T 19) lR) rfl) rfl)) (dE (jS (lS (fJ (dU sE (bQ dJ (lc T 13) (lc T 15)) (lc T 17) rfl) (fJ (dU sE (bQ dJ (lc T 14) (lc T 15)) (lc T 18) rfl) mS))) (dE (Hm T (aJ (i:=15) rfl) H4 (lc T 19))) (bM (jS (rE (lc T 15) rfl) (dE (eZ rfl rfl (la T.fk (lc T 16) (by refine dQ ?_;exact (ic (lc T 13) (ic (lc T 14) (ic (lc T 15) bF))))))) iD) (fB T.fk (dE (oX (dQ (ic (lc T 17) (ic (lc T 18) (ic (lc T 19) bF)))) (gJ T (aJ (i:=15) rfl) (gJ T (aJ (i:=14) rfl) (gJ T (aJ (i:=13) rfl) qD))) rfl rfl)))))) λ_=>rfl) (fB T.fk (bM (jS (rE (lc T 15) rfl) (dE (eZ rfl rfl (la T.fk (lc T 16) (by refine dQ ?_;exact (ic (lc T 13) (ic (lc T 14) (ic (lc T 15) bF))))))) iD) (fB T.fk (bM (eZ rfl rfl (la T.fk (lc T 16) (by refine dQ ?_;exact (ic (lc T 1) (ic (lc T 2) (ic bT bF)))))) (bM (eQ (PX G.K (Co w.params) T.fk (G.f T.fk Ý) (G.f T.fk aAr) (G.f T.fk Wy) (lc T 16) (λa b c=>â G a b c) rfl rfl rfl rfl rfl) (jM G.K T.fk (Bv w.params) (lc T 0)) rfl rfl rfl) (dE (nN (lF G.K (qL w.params) (lc T 0))))))))))))))))))))))))
section
set_option backward.match.sparseCases false
noncomputable def LS(A B:bE)(ao bo:Nat):Nat->Nat->Nat
 |i+1,j+1=>if ao<=i/\bo<=j/\A.getD i 0=B.getD j 0 then LS A B ao bo i j+1 else 0
 |_,_=>0
def E6{A B:bE}{ao bo:Nat}{i j}:LS A B ao bo (i+1) (j+1)=(if ao<=i/\bo<=j/\A.getD i 0=B.getD j 0 then LS A B ao bo i j+1 else 0):=rfl
def E5{A B:bE}{ao bo:Nat}{j}:LS A B ao bo 0 j=0:=rfl
def E4{A B:bE}{ao bo:Nat}{i}:LS A B ao bo (i+1) 0=0:=rfl
section
variable{A B:bE}{ao az bo bz:Nat}
def Xm:∀(i j:Nat),LS A B ao bo i j<=i/\LS A B ao bo i j<=j/\(0<LS A B ao bo i j->ao+LS A B ao bo i j<=i/\bo+LS A B ao bo i j<=j):=by
 intro z1
 induction z1 with
 |zero=>intro j;simp [E6,E5,E4]
 |succ i z2=>
  intro z3
  cases z3 with
  |zero=>simp [E6,E5,E4]
  |succ j=>
   obtain ⟨h1,h2,h3⟩:=z2 j;simp only [E6,E5,E4];split
   .rename_i h;refine ⟨by exact aT Pw h1,by exact aT Pw h2,λ_=>?_⟩;by_cases h0:LS A B ao bo i j=0
    .rw [h0];exact aT 0x988c58941c6841cc24a0e1420e6031972988918921024 h
    .have:=h3 (by exact aT FH h0);exact aT 0x7462c4a0e4420e11a50712107081892202348901005 this
   .exact ⟨by exact aT 0x2314a0e0301,by exact aT 0x2314a0e0301,λh=>absurd h (by exact aT 0x23174946300)⟩
def aBo:∀(i j t:Nat),t<LS A B ao bo i j->A.getD (i-LS A B ao bo i j+t) 0=B.getD (j-LS A B ao bo i j+t) 0:=by
 intro z4
 induction z4 with
 |zero=>intro j;intro t;intro h;simp [E6,E5,E4]at h
 |succ i d=>
  intro e
  cases e with
  |zero=>intro t;intro h;simp [E6,E5,E4]at h
  |succ j=>
   intro t;intro h;have a:=Xm (A:=A) (B:=B) (ao:=ao) (bo:=bo) i j;simp only [E6,E5,E4]at h⊢;split at h
   .rename_i c;rw [if_pos c];by_cases b:t<LS A B ao bo i j
    .have:=d j t b;rw [show i+1-(LS A B ao bo i j+1)+t=i-LS A B ao bo i j+t by exact aT ν,show j+1-(LS A B ao bo i j+1)+t=j-LS A B ao bo i j+t by exact aT ν];exact this
    .rw [show i+1-(LS A B ao bo i j+1)+t=i by exact aT 0x24090241202150322a0c62b0a0a703a4a114ea41c453b18e62468114c90a044508c91892114cc838507006 a h b,show j+1-(LS A B ao bo i j+1)+t=j by exact aT 0x22088221102150322a0c62b0a0a703a4a114ea41c453b18e62428114c91a044508c90892314cc838507006 a h b];exact c.2.2
   .exact aT 0x2863710546021 h
def aBp{i j:Nat}(hi:i<=az)(a:j<=bz)(h:0<LS A B ao bo i j):Cr A B ao az bo bz (i-LS A B ao bo i j) (j-LS A B ao bo i j) (LS A B ao bo i j):=by obtain ⟨h1,h2,h3⟩:=Xm (A:=A) (B:=B) (ao:=ao) (bo:=bo) i j;have:=h3 h;exact ⟨by exact aT 0x883251862900dcc494c8111214086a1194234cc1005 h h3,by exact aT VG hi h1,by exact aT 0x10864630c520299cc48502299244086a1194234cc1005 h h3,by exact aT VG a h2,aBo i j⟩
def Ċ:∀(k i j:Nat),Cr A B ao az bo bz i j k->k<=LS A B ao bo (i+k) (j+k):=by
 intro x0
 induction x0 with
 |zero=>intro i j h;exact bI _
 |succ k a=>intro i j h;have:=a i j ⟨h.a0,by have:=h.a1;exact aT UE this,h.b0,by have:=h.b1;exact aT UE this,λt b=>h.eq t (by exact aT OE b)⟩;show k+1<=LS A B ao bo (i+k+1) (j+k+1);simp only [E6,E5,E4];rw [if_pos ⟨by have:=h.a0;exact aT OD this,by have:=h.b0;exact aT OD this,h.eq k (by exact aT 0x231520e0001)⟩];exact aT Pw this
structure A6(A B:bE)(ao az bo bz:Nat)(Pr:Nat->Nat->Prop)(t:T3):Prop where
 zero:t.2.2=0->t=(ao,bo,0)
 cr:0<t.2.2->Cr A B ao az bo bz t.1 t.2.1 t.2.2/\Pr (t.1+t.2.2-1) (t.2.1+t.2.2-1)
 max:∀i j k,0<k->Cr A B ao az bo bz i j k->Pr (i+k-1) (j+k-1)->k<=t.2.2/\(k=t.2.2->KG (t.1,t.2.1) (i,j))
def A6.start{Pr:Nat->Nat->Prop}(h:∀i j,Pr i j->i<ao):A6 A B ao az bo bz Pr (ao,bo,0):=
 ⟨λ_=>rfl,λh=>absurd h (eG 0),λi j k a c p=>by have:=h _ _ p;have:=c.a0;exact iV (aT 0x8d718c9211a860508d331d01003 a ‹_› this)⟩
def A6.ext{Pr Pr':Nat->Nat->Prop}{t:T3}(x:A6 A B ao az bo bz Pr t)(h1:∀i j,Pr i j->Pr' i j)(h2:∀i j,ao<=i->i<az->bo<=j->j<bz->A.getD i 0=B.getD j 0->Pr' i j->Pr i j):A6 A B ao az bo bz Pr' t:=
 ⟨x.zero,λh=>⟨(x.cr h).1,h1 _ _ (x.cr h).2⟩,λi j k a c p=>x.max i j k a c (h2 _ _ (by have:=c.a0;exact aT ZZ a this) (by have:=c.a1;exact aT Á a this) (by have:=c.b0;exact aT ZZ a this) (by have:=c.b1;exact aT Á a this) (by have:=c.eq (k-1) (by exact aT 0x91462a0814134cc7001 a);rwa[show i+(k-1)=i+k-1 by exact aT μ a,show j+(k-1)=j+k-1 by exact aT μ a]at this) p)⟩
def A6.best{Pr:Nat->Nat->Prop}{t:T3}(x:A6 A B ao az bo bz Pr t)(h:∀i j,ao<=i->i<az->Pr i j):vF A B ao az bo bz t:=
 ⟨x.zero,λh=>(x.cr h).1,λi j k a c=>x.max i j k a c (h _ _ (by have:=c.a0;exact aT ZZ a this) (by have:=c.a1;exact aT Á a this))⟩
def Vj{a b c:Nat}(d:0<c)(h:a+c-1<b+c-1):a<b:=by
 cases c with
 |zero=>exact absurd d (eG 0)
 |succ c=>exact Nat.lt_of_add_lt_add_right h
def MN{a b c:Nat}(d:0<c)(h:a+c-1=b+c-1):a=b:=by
 cases c with
 |zero=>exact absurd d (eG 0)
 |succ c=>exact KY h
def Fk{i k n:Nat}(a:0<k)(h:i+k-1=n):i+k=n+1:=by
 cases k with
 |zero=>exact absurd a (eG 0)
 |succ k=>rw [<-h];rfl
def A6.step{Pr:Nat->Nat->Prop}{t:T3}{i j:Nat}(x:A6 A B ao az bo bz Pr t)(u:∀d f,Pr d f->d<i\/(d=i/\f<j))(hi:i<az)(D:j<bz)(m:0<LS A B ao bo (i+1) (j+1)):
  A6 A B ao az bo bz (λd f=>Pr d f\/(d=i/\f=j)) (if t.2.2<LS A B ao bo (i+1) (j+1)then (i+1-LS A B ao bo (i+1) (j+1),j+1-LS A B ao bo (i+1) (j+1),LS A B ao bo (i+1) (j+1))else t):=by
 obtain ⟨h1,h2,_⟩:=Xm (A:=A) (B:=B) (ao:=ao) (bo:=bo) (i+1) (j+1);have cr:=aBp (A:=A) (B:=B) (ao:=ao) (bo:=bo) (az:=az) (bz:=bz) (WW hi) (WW D) m;have n:∀d f k,0<k->Cr A B ao az bo bz d f k->(d+k-1=i/\f+k-1=j)->k<=LS A B ao bo (i+1) (j+1):=λd f k g c ⟨F,G⟩=>by have:=Ċ k d f c;rwa[Fk g F,Fk g G]at this
 revert h1 h2 cr n m;generalize LS A B ao bo (i+1) (j+1)=l;intro m h1 h2 cr n;obtain ⟨a,r⟩:=Xp h1;obtain ⟨b,s⟩:=Xp h2;have v:i+1-l=a:=by rw [r,rX]
 have y:j+1-l=b:=by rw [s,rX]
 rw [v,y]at cr;rw [v,y];by_cases h:t.2.2<l
 .rw [if_pos h];refine ⟨λh0=>absurd h0 (iT m),λ_=>⟨cr,.inr ⟨?_,?_⟩⟩,λd f k g c p=>?_⟩
  .show a+l-1=i;rw [oR,<-r];rfl
  .show b+l-1=j;rw [oR,<-s];rfl
  .rcases p with p|p
   .have q:=eK (x.max d f k g c p).1 h;exact ⟨iG q,λe=>absurd e (fI q)⟩
   .refine ⟨n d f k g c p,λe=>.inr ?_⟩;have z:=Fk g p.1;have C:=Fk g p.2;rw [r,show k=l from e,oR]at z;rw [s,show k=l from e,oR]at C;exact ⟨(LN z).symm,oQ (LN C).symm⟩
 .rw [if_neg h];refine ⟨x.zero,λh0=>⟨(x.cr h0).1,.inl (x.cr h0).2⟩,λd f k g c p=>?_⟩;rcases p with p|p
  .exact x.max d f k g c p
  .refine ⟨bV (n d f k g c p) (fD h),λe=>?_⟩;have o:0<t.2.2:=e▸g;obtain ⟨c1,c2⟩:=x.cr o;rw [<-p.1,<-p.2,e]at u;rcases u _ _ c2 with q|⟨q,H⟩
   .exact .inl (Vj o q)
   .exact .inr ⟨MN o q,iG (Vj o H)⟩
theorem wW{x:Int}:∀{l:bE}{s j:Nat},j∈iL x s l↔s<=j/\j<s+aC l/\l.getD (j-s) 0=x
 |[],s,j=>by simp [yC,yB];exact aT 0x1831739d2b88ca00521012
 |y::l,s,j=>by
  have d:=wW (x:=x) (l:=l) (s:=s+1) (j:=j);have f:(s+1<=j/\j<s+1+aC l/\l.getD (j-(s+1)) 0=x)↔s+1<=j/\j<s+(y::l).length/\(y::l).getD (j-s) 0=x:=by
   constructor
   .rintro ⟨a,b,c⟩;refine ⟨a,by simp;exact aT UO b,?_⟩;rw [show j-s=(j-(s+1))+1 by exact aT Ī a];simpa using c
   .rintro ⟨a,b,c⟩;refine ⟨a,by simp at b;exact aT UN b,?_⟩;rw [show j-s=(j-(s+1))+1 by exact aT Ī a]at c;simpa using c
  simp only [yC,yB];split
  .rename_i h;simp only [aR,d,f];constructor
   .rintro (rfl|⟨a,b,c⟩)
    .exact ⟨bG _,by simp,by simpa using h⟩
    .exact ⟨by exact aT Py a,b,c⟩
   .rintro ⟨a,b,c⟩;by_cases e:j=s
    .exact .inl e
    .exact .inr ⟨by exact aT FA a e,b,c⟩
  .rename_i h;rw [d,f];constructor
   .rintro ⟨a,b,c⟩;exact ⟨by exact aT Py a,b,c⟩
   .rintro ⟨a,b,c⟩;refine ⟨?_,b,c⟩;by_cases e:j=s
    .subst e;exact absurd (by simpa using c) h
    .exact aT FA a e
def Qo{x:Int}:∀{l:bE}{s:Nat},(iL x s l).Pairwise (·<·):=by
 intro b
 induction b with
 |nil=>intro s;simp [yC,yB]
 |cons y l a=>
  intro s;simp only [yC,yB];split
  .refine dR.mpr ⟨λj c=>?_,a⟩;have:=(wW.mp c).1;exact aT FG this
  .exact a
def Hr{x:Int}{l:bE}{s p j:Nat}(h:(iL x s l)[p]?=aG j):(∀a∈(iL x s l).take p,a<j)/\(∀a∈(iL x s l).drop p,j<=a)/\(iL x s l).take (p+1)=(iL x s l).take p++[j]:=by
 have c:=Qo (x:=x) (l:=l) (s:=s);obtain ⟨d,e⟩:=cF.mp h;have hd:(iL x s l).drop p=j::(iL x s l).drop (p+1):=by rw [iI d,e]
 rw [<-tS p (iL x s l),jA]at c;obtain ⟨h1,h2,h3⟩:=c;refine ⟨λa b=>h3 a b j (by rw [hd];exact aQ),λa b=>?_,by rw [Oo,h];rfl⟩;rw [hd]at h2 b;rcases aR.mp b with rfl|b
 .exact bG _
 .exact iG ((dR.mp h2).1 a b)
end
end
structure Uv(A B:bE)(as:oS):Prop where
 pure:∀p∈as,p.2.pure=aU
 a:pK as (aF "a")=aG (vL A)
 b:pK as (aF "b")=aG (vL B)
 bjunk:pK as (aF "bjunk")=aG .set0
 b2j:∃c,pK as (aF "b2j")=aG c/\sZ B c
def YS{a b i:Nat}{v:V}(h:(Et a b)[i]?=aG v):i<b-a/\v=vN (a+i):=by
 unfold Et at h;have c:(((b:Int)-(a:Int)).toNat)=b-a:=by simp
 rw [c]at h;by_cases hi:i<b-a
 .simp [hi]at h;exact ⟨hi,by rw [<-h];simp [vN]⟩
 .simp [hi]at h
def MS(a b:Nat):(Et a b).length=b-a:=by unfold Et;rw [bB,gV];exact aT 0x220c8c3900caa318ac01998419ecc67d435002
def Ng(a b:Int)(σ:St):D8 (.int a) (.int b) σ=aG (.bool (decide (a=b)),σ):=by refine (?_:aG (V.bool (a==b),σ)=_);rfl
section
variable{A B:bE}{ao az bo bz:Nat}{as:oS}{ch:V}
def sO(A B:bE)(ao az bo bz:Nat)(as:oS)(ch:V)(t:T3)(ks:bE)(es:mI):St:=
 ⟨[(1,vN ao),(2,vN az),(3,vN bo),(4,vN bz),(5,vL A),(6,vL B),(7,ch),(8,.bm "set.__contains__" .set0),(9,vN t.1),(10,vN t.2.1),(11,vN t.2.2),(12,.dct ks (es.map vN)),(13,.lst [])],[(0,.attrs as)],1⟩
def sI(A B:bE)(ao az bo bz:Nat)(as:oS)(ch:V)(t:T3)(i:Nat)(ks:bE)(es:mI)(ij:bE)(ie:mI):St:=
 ⟨[(1,vN ao),(2,vN az),(3,vN bo),(4,vN bz),(5,vL A),(6,vL B),(7,ch),(8,.bm "set.__contains__" .set0),(9,vN t.1),(10,vN t.2.1),(11,vN t.2.2),(13,.lst []),(14,vN i),(15,.bm "dict.get" (.dct ks (es.map vN))),(16,.ref 1)],[(1,.dict ij (ie.map vN)),(0,.attrs as)],2⟩
def sW(A B:bE)(ao az bo bz:Nat)(as:oS)(t:T3):St:=
 ⟨[(1,vN ao),(2,vN az),(3,vN bo),(4,vN bz),(5,vL A),(6,vL B),(8,.bm "set.__contains__" .set0),(9,vN t.1),(10,vN t.2.1),(11,vN t.2.2)],[(0,.attrs as)],1⟩
def PM(A B:bE)(ao bo bz i:Nat)(ks:bE)(es:mI):Prop:=aC ks<=aC B/\∀j:Nat,j<=bz->((ks.zip (es.map vN)).lookup ((j:Int)-1)).getD (.int 0)=vN (LS A B ao bo i j)
def NM(A B:bE)(ao bo bz i p:Nat)(ks:bE)(es:mI):Prop:=aC ks<=p/\∀j:Nat,j<=bz->((ks.zip (es.map vN)).lookup ((j:Int)-1)).getD (.int 0)=vN (if 1<=j/\j-1∈(iL (A.getD i 0) 0 B).take p then LS A B ao bo (i+1) j else 0)
def N9{i j:Nat}(h:¬(ao<=i/\bo<=j/\A.getD i 0=B.getD j 0)):LS A B ao bo (i+1) (j+1)=0:=by simp only [E6,E5,E4];rw [if_neg h]
def NM.pm{i p:Nat}{ks:bE}{es:mI}(c:bz<=aC B)(h:NM A B ao bo bz i p ks es)(d:p<=aC B)(f:∀j,j+1<=bz->j∈iL (A.getD i 0) 0 B->j∈(iL (A.getD i 0) 0 B).take p):PM A B ao bo bz (i+1) ks es:=by
 refine ⟨bV h.1 d,λj a=>?_⟩;simp only [h.2 j a]
 cases j with
 |zero=>rfl
 |succ j=>
  by_cases b:j∈(iL (A.getD i 0) 0 B).take p
  .rw [if_pos ⟨by exact aT FD,b⟩]
  .rw [if_neg (λz=>b z.2),N9];rintro ⟨_,_,e⟩;exact b (f j a (wW.mpr ⟨bI _,by exact aT 0xe31520261240838921003 c a,by simpa using e.symm⟩))
def NM.skip{i p j:Nat}{ks:bE}{es:mI}(h:NM A B ao bo bz i p ks es)(d:(iL (A.getD i 0) 0 B)[p]?=aG j)(f:j<bo):NM A B ao bo bz i (p+1) ks es:=by
 refine ⟨by have:=h.1;exact aT Pv this,λc g=>?_⟩;simp only [h.2 c g,(Hr d).2.2];by_cases e:1<=c/\c-1=j
 .have:LS A B ao bo (i+1) c=0:=by obtain ⟨q,rfl⟩:∃q,c=q+1:=⟨c-1,by exact aT 0x912109118ad070058b101213ccc7002 e⟩;refine N9 ?_;rintro ⟨_,b,_⟩;exact aT 0x2014c6324846c5880941c2750c5331d07003 f e b
  rw [this];simp
 .have:(1<=c/\c-1∈Dd p (iL (A.getD i 0) 0 B)++[j])↔(1<=c/\c-1∈Dd p (iL (A.getD i 0) 0 B)):=by
   simp only [cU,aM];constructor
   .rintro ⟨a,b|b⟩
    .exact ⟨a,b⟩
    .exact absurd ⟨a,b⟩ e
   .rintro ⟨a,b⟩;exact ⟨a,.inl b⟩
  simp only [this]
def NM.add{i p j:Nat}{ks:bE}{es:mI}(h:NM A B ao bo bz i p ks es)(d:(iL (A.getD i 0) 0 B)[p]?=aG j):NM A B ao bo bz i (p+1) ((j:Int)::ks) (LS A B ao bo (i+1) (j+1)::es):=by
 refine ⟨by have:=h.1;simp;omega,λc f=>?_⟩;rw [(Hr d).2.2];simp only [cE,hU,gP];by_cases e:1<=c/\c-1=j
 .have:((c:Int)-1== (j:Int))=true:=by simp;exact aT 0x20c84654637a89e7a858b101213ccc7002 e
  rw [this,if_pos ⟨e.1,by simp [e.2]⟩];rw [show c=j+1 by exact aT 0x832119518ad071058b101213ccc7002 e];rfl
 .have g:((c:Int)-1== (j:Int))=false:=by simp;exact aT 0xc8863561862e95ea279ea17498b101213ccc7002 e
  rw [g];show Option.getD (AR _ _) _=_;rw [h.2 c f];have:(1<=c/\c-1∈Dd p (iL (A.getD i 0) 0 B)++[j])↔(1<=c/\c-1∈Dd p (iL (A.getD i 0) 0 B)):=by
   simp only [cU,aM];constructor
   .rintro ⟨a,b|b⟩
    .exact ⟨a,b⟩
    .exact absurd ⟨a,b⟩ e
   .rintro ⟨a,b⟩;exact ⟨a,.inl b⟩
  simp only [this]
def sF(A B:bE)(ao az bo bz:Nat)(as:oS)(ch:V)(t:T3)(ij:bE)(ie:mI):St:=
 ⟨[(1,vN ao),(2,vN az),(3,vN bo),(4,vN bz),(5,vL A),(6,vL B),(7,ch),(8,.bm "set.__contains__" .set0),(9,vN t.1),(10,vN t.2.1),(11,vN t.2.2),(13,.lst []),(16,.ref 1)],[(1,.dict ij (ie.map vN)),(0,.attrs as)],2⟩
def lK{c:Sort _}{p:Prop}[Decidable p]{a b:c}(h:p):(if decide p=aU then a else b)=a:=if_pos (decide_eq_true h)
def iO{c:Sort _}{p:Prop}[Decidable p]{a b:c}(h:¬p):(if decide p=aU then a else b)=b:=if_neg (by simpa using h)
def XU{a:Nat}:V.int ((a:Int)+1)=vN (a+1):=by rfl
def Cw{σ:St}{g:M V}{k:Int}(h8:lk σ.loc 8=aG (.bm "set.__contains__" .set0))(a:g σ=aG (.int k,σ)):yY (vZ (aP 8) (aS g bP)) σ=aG (bR,σ):=by refine Gg (v:=.bool bR) ?_ rfl;unfold vZ;rw [bS h8];refine (?_:bd (aS g bP σ) _=_);rw [bH a cW];rfl
def vX{σ:St}{g:M V}{x n:Nat}{L:bE}(b:lk σ.loc x=aG (vL L))(c:g σ=aG (.int (n:Int),σ))(a:n<aC L)(d:aC L<200):bJ fT (aP x) g σ=aG (.int (L.getD n 0),σ):=by
 have e:L[n]?=aG (L.getD n 0):=by simp only [bO a,aY,bO a];rfl
 refine cQ (bS b) c (nE ?_ ?_)
 .simp only [dL,e];rfl
 .rw [bB];show _<=1048576;exact aT VE d
def IK{σ:St}{g g':M V}{a b:Int}(d:g σ=aG (.int a,σ))(c:g' σ=aG (.int b,σ)):gM (bJ D8 g g') σ=aG (decide (a=b),σ):=by unfold gM bJ;rw [d];refine (?_:bd (bd (g' σ) _) _=_);rw [c];refine (?_:bd (D8 (.int a) (.int b) σ) _=_);rw [Ng];rfl
inductive JI(A B:bE)(ao az bo bz:Nat)(as:oS)(ch:V)(i0:Nat)(ks:bE)(es:mI)(p:Nat)(τ:St):Prop
 |mk (t':T3) (ij:bE) (ie:mI) (e:τ=sI A B ao az bo bz as ch t' i0 ks es ij ie) (n:NM A B ao bo bz i0 p ij ie) (b:A6 A B ao az bo bz (λi' j'=>(ao<=i'/\i'<i0)\/(i'=i0/\j'∈(iL (A.getD i0 0) 0 B).take p)) t')
inductive EI(A B:bE)(ao az bo bz:Nat)(as:oS)(ch:V)(i0:Nat)(τ:St):Prop
 |mk (t':T3) (ij:bE) (ie:mI) (e:AG [1,2,3,4,5,6,7,8,9,10,11,13,16] τ=sF A B ao az bo bz as ch t' ij ie) (n:PM A B ao bo bz (i0+1) ij ie) (b:A6 A B ao az bo bz (λi' _=>ao<=i'/\i'<i0+1) t')
inductive JO(A B:bE)(ao az bo bz:Nat)(as:oS)(ch:V)(i:Nat)(τ:St):Prop
 |mk (t:T3) (ks:bE) (es:mI) (e:τ=sO A B ao az bo bz as ch t ks es) (n:PM A B ao bo bz (ao+i) ks es) (b:A6 A B ao az bo bz (λi' _=>ao<=i'/\i'<ao+i) t)
def Zi{ks0:bE}{vs0:cA}{d p:Nat}{ks:bE}{es:mI}{zp:St}{v:V}(sp:(V.dct ks0 vs0).pure=aU)(fj:∀k,Eo k (.attrs as)=aU)(h2:az<=aC A)(h4:bz<=aC B)(hA:aC A<200)(hB:aC B<200)(qo:d<az)(o:ao<=d)
  (pm:PM A B ao bo bz d ks es) (r:((iL (A.getD d 0) 0 B).map vN)[p]?=aG v) (vx:JI A B ao az bo bz as (.dct ks0 vs0) d ks es p zp):
  ∃τ',cG 17 v zp=aG τ'/\Go (Ib 2 τ') (xI [1,2,3,4,5,6,7,8,9,10,11,13,14,15,16] 2 (JI A B ao az bo bz as (.dct ks0 vs0) d ks es (p+1)) (EI A B ao az bo bz as (.dct ks0 vs0) d) (λ_ _=>False)):=by
 have c9:lim=1048576:=rfl;obtain ⟨f,l,m,e1,nm,N⟩:=vx;subst e1;obtain ⟨j,s,rfl⟩:∃j,(iL (A.getD d 0) 0 B)[p]?=aG j/\v=vN j:=by
  rw [dL]at r
  cases q:(iL (A.getD d 0) 0 B)[p]? with
  |none=>rw [q]at r;exact gG r
  |some j=>rw [q]at r;refine pH r ?_;rintro rfl;exact ⟨j,rfl,rfl⟩
 have O:=wW.mp (aJ s);have q8:p<(iL (A.getD d 0) 0 B).length:=(cF.mp s).1;have bv:=Hq (A.getD d 0) B 0;obtain ⟨P,t,F⟩:=Hr s;have hjB:j<aC B:=by have:=O.2.1;exact aT 0x918a820632e31290130120322 O
 have Q:A.getD d 0=B.getD j 0:=by have:=O.2.2;exact this.symm
 have R:∀(G:T3)(u:bE)(x:mI)(τ:St),AG [1,2,3,4,5,6,7,8,9,10,11,13,14,15,16] τ=sI A B ao az bo bz as (.dct ks0 vs0) G d ks es u x->NM A B ao bo bz d (p+1) u x->A6 A B ao az bo bz (λe g=>(ao<=e/\e<d)\/(e=d/\g∈(iL (A.getD d 0) 0 B).take (p+1))) G->
   I0 [1,2,3,4,5,6,7,8,9,10,11,13,14,15,16] 2 (JI A B ao az bo bz as (.dct ks0 vs0) d ks es (p+1)) τ:=λG u x τ hk y H=>by
  refine ⟨_,zX hk ?_ (gL (by decide) (gE (c:=.dict u (x.map vN)) (jD (wV _))) (gL (by decide) (gE (fj 2)) kW)),G,u,x,rfl,y,H⟩;have T:(V.bm "dict.get" (.dct ks (es.map vN))).pure=true:=wV es;simp only [oZ,aB6,mO (eO A),mO (eO B),mO sp,mO T];rfl
 let s0:St:=⟨[(1,vN ao),(2,vN az),(3,vN bo),(4,vN bz),(5,vL A),(6,vL B),(7,.dct ks0 vs0),(8,.bm "set.__contains__" .set0),(9,vN f.1),(10,vN f.2.1),(11,vN f.2.2),(13,.lst []),(14,vN d),(15,.bm "dict.get" (.dct ks (es.map vN))),(16,.ref 1),(17,vN j)],[(1,.dict l (m.map vN)),(0,.attrs as)],2⟩;refine ⟨s0,rfl,?_⟩;unfold Ib;refine cP (rG (jV rfl ?_));by_cases z:j<bo
 .rw [lK (by exact aT To z)];refine kI (R f l m _ rfl (nm.skip s z) (N.ext (λi j h=>?_) λe g _ _ C _ _ h=>?_))
  .rw [F];exact h.imp id λ⟨a,b⟩=>⟨a,iA _ b⟩
  .rw [F]at h;refine h.imp id λ⟨a,b⟩=>⟨a,?_⟩;rcases cU.mp b with b|b
   .exact b
   .rw [aM.mp b]at C;exact iV (aT OA z C)
 rw [iO (by exact aT Yu z)];refine kI (gF (σ':=s0) rfl (cP (rG (jV rfl ?_))));by_cases n:bz<=j
 .rw [lK (by exact aT EN n)];refine kI ⟨f,l,m,rfl,nm.pm h4 (by exact aT 0xe314880910541003 q8 bv) λg jx D=>?_,N.ext (λe g h=>?_) λe g _ _ _ C he h=>?_⟩
  .rw [<-tS p (iL (A.getD d 0) 0 B)]at D;rcases cU.mp D with q|q
   .exact q
   .have:=t _ q;exact iV (aT 0x718c9220a40838921003 n jx this)
  .rcases h with h|⟨q,_⟩
   .exact ⟨h.1,by exact aT UD h⟩
   .exact q.symm▸(⟨o,gS d⟩:ao<=d/\d<d+1)
  .by_cases q:e<d
   .exact .inl ⟨h.1,q⟩
   .have:e=d:=by exact aT VM h q
    refine .inr ⟨this,?_⟩;have D:g∈iL (A.getD d 0) 0 B:=wW.mpr ⟨bI _,by exact aT TU h4 C,this▸(by simpa using he.symm)⟩;rw [<-tS p (iL (A.getD d 0) 0 B)]at D;rcases cU.mp D with W|W
    .exact W
    .have:=t _ W;exact iV (aT 0x1c6324882a00921003 n C this)
 rw [iO (by exact aT 0x318ba56a86a074921002 n)];refine kI (gF (σ':=s0) rfl ?_);have hE:LS A B ao bo (d+1) (j+1)=LS A B ao bo d j+1:=by show (if _ then _ else _)=_;rw [if_pos ⟨by exact aT Ys o,by exact aT 0x318a40174941002 z,Q⟩]
 generalize I:LS A B ao bo (d+1) (j+1)=E at *;have X:=Xm (A:=A) (B:=B) (ao:=ao) (bo:=bo) (d+1) (j+1);rw [I]at X;let Y:St:=⟨[(1,vN ao),(2,vN az),(3,vN bo),(4,vN bz),(5,vL A),(6,vL B),(7,.dct ks0 vs0),(8,.bm "set.__contains__" .set0),(9,vN f.1),(10,vN f.2.1),(11,vN f.2.2),(13,.lst []),(14,vN d),(15,.bm "dict.get" (.dct ks (es.map vN))),(16,.ref 1),(17,vN j),(18,vN E)],[(1,.dict ((j:Int)::l) ((E::m).map vN)),(0,.attrs as)],2⟩;refine cP (eS (v:=vN E) (τ:=s0)
  (τ':=Y) ?_ ?_ ?_)
 .have e4:=pm.2 j (by exact aT 0x318a40174921002 n);show bd (aG ((((ks.zip (es.map vN)).lookup ((j:Int)-1)).getD (.int 0)),_)) _=_;rw [e4];show aG (V.int ((LS A B ao bo d j:Int)+1),_)=_;rw [XU,hE]
 .have Z:l.length<=lim:=by have:=nm.1;exact aT 0x6f18a4244888900d4312f18c6318e182ac6766005 hB c9 q8 bv this
  simp [s0,Y,Fb,cG,DC,L4,ob,HL,Jz,B6,aD,diC,aP,fL,eP,bd,vN,Z]
 .refine rG (jV rfl ?_);have y:=nm.add s;rw [I]at y;have H:=N.step (i:=d) (j:=j) (λe g h=>?_) qo (by exact aT 0x318a80174921002 n) (by exact aT 0xa8c54032d0710561003 I hE);rw [I]at H;have J:A6 A B ao az bo bz (λe g=>(ao<=e/\e<d)\/(e=d/\g∈(iL (A.getD d 0) 0 B).take (p+1))) (if f.2.2<E then (d+1-E,j+1-E,E)else f):=by
   refine H.ext (λe g h=>?_) λe g _ _ _ _ _ h=>?_
   .rw [F];rcases h with (h|⟨a,b⟩)|⟨a,b⟩
    .exact .inl h
    .exact .inr ⟨a,iA _ b⟩
    .exact .inr ⟨a,lV _ (aM.mpr b)⟩
   .rw [F]at h;rcases h with h|⟨a,b⟩
    .exact .inl (.inl h)
    .rcases cU.mp b with b|b
     .exact .inl (.inr ⟨a,b⟩)
     .exact .inr ⟨a,aM.mp b⟩
  .by_cases L:f.2.2<E
   .rw [lK (by exact aT To L)];rw [if_pos L]at J;refine eS (v:=.tup [vN (d+1-E),vN (j+1-E),vN E]) (τ:=Y) ?_ rfl ?_
    .show aG (V.tup [V.int ((d:Int)-(E:Int)+1),V.int ((j:Int)-(E:Int)+1),V.int (E:Int)],_)=_;have q1:(d:Int)-(E:Int)+1=((d+1-E:Nat):Int):=by exact aT 0x90909121048509118dea041df51542c6398941c68114c941c281114232507189283845330507005 X
     have q2:(j:Int)-(E:Int)+1=((j+1-E:Nat):Int):=by exact aT 0x88888911048509118dea041df51542c6398941c28114c941c6811142325070892838c5330507005 X
     rw [q1,q2];rfl
    .exact R (d+1-E,j+1-E,E) ((j:Int)::l) (E::m) _ rfl y J
   .rw [iO (by exact aT Yu L)];rw [if_neg L]at J;exact kI (R f ((j:Int)::l) (E::m) _ rfl y J)
  .rcases h with h|⟨a,b⟩
   .exact .inl h.2
   .exact .inr ⟨a,P _ b⟩
def Zh{ks0:bE}{vs0:cA}{i:Nat}{r:St}{v:V}(s:(V.dct ks0 vs0).pure=aU)(Y:ks0.length=vs0.length)(z:∀k,(ks0.zip vs0).lookup k=if iL k 0 B=[]then aH else aG (.lst ((iL k 0 B).map vN)))(u:∀k,Eo k (.attrs as)=aU)(h2:az<=aC A)(h4:bz<=aC B)(x:aC A<200)(C:aC B<200)
  (g:(Et ao az)[i]?=aG v) (D:JO A B ao az bo bz as (.dct ks0 vs0) i r):
  ∃τ',cG 14 v r=aG τ'/\Go (Qz 1 τ') (xI [1,2,3,4,5,6,7,8,9,10,11,12,13] 1 (JO A B ao az bo bz as (.dct ks0 vs0) (i+1)) (λ_=>False) (λ_ _=>False)):=by
 have Z:lim=1048576:=rfl;obtain ⟨t,ks,es,F,G,H⟩:=D;subst F;obtain ⟨hi,rfl⟩:=YS g;generalize c:ao+i=a at *;have l:a<az:=by exact aT 0x60e8c54122c88189401ccc1004 hi c
 let s0:St:=sI A B ao az bo bz as (.dct ks0 vs0) t a ks es [] [];refine ⟨_,rfl,?_⟩;refine cP (eS rfl rfl (cP (eS rfl rfl (gF (σ':=s0) rfl ?_))));have I:A[a]?=aG (A.getD a 0):=by rw [bO (by exact aT ER h2 l),aY,bO (by exact aT ER h2 l)];rfl
 have J:(lG (gDM Zr (aP 7) (aS (bJ fT (aP 5) (aP 14)) (aS (aP 13) bP)))) s0=aG ((iL (A.getD a 0) 0 B).map vN,s0):=by
  have L:(bJ fT (aP 5) (aP 14)) s0=aG (.int (A.getD a 0),s0):=by exact nE (by rw [dL,I];rfl) (by rw [bB];show _<=1048576;exact aT VE x)
  have N:((ks0.zip vs0).lookup (A.getD a 0)).getD (.lst [])=.lst ((iL (A.getD a 0) 0 B).map vN):=by
   rw [z];by_cases q:iL (A.getD a 0) 0 B=[]
   .rw [if_pos q,q];rfl
   .rw [if_neg q];rfl
  have O:(gDM Zr (aP 7) (aS (bJ fT (aP 5) (aP 14)) (aS (aP 13) bP))) s0=aG (.lst ((iL (A.getD a 0) 0 B).map vN),s0):=by show bd (bd ((bJ fT (aP 5) (aP 14)) s0) _) _=_;rw [L];show aG (((ks0.zip vs0).lookup (A.getD a 0)).getD (.lst []),_)=_;rw [N]
  exact qC O (wV _)
 refine cP (pL (EI A B ao az bo bz as (.dct ks0 vs0) a) (JI A B ao az bo bz as (.dct ks0 vs0) a ks es)
  J (jW _) ⟨t,[],[],rfl,⟨bG _,λj _=>by simp;rfl⟩,H.ext (λi j h=>.inl h) λi j _ _ _ _ _ h=>by simpa using h⟩ (λp zp v g m=>Zi s u h2 h4 x C l (by exact aT FF c) G g m) (λτ' hd=>?_))
 have P:EI A B ao az bo bz as (.dct ks0 vs0) a τ':=by
  rcases hd with ⟨b,d,e,rfl,nm,f⟩|hd
  .have Q:=Hq (A.getD a 0) B 0;rw [bB]at nm f;refine ⟨b,d,e,rfl,nm.pm h4 Q λy _ R=>by rw [zF];exact R,f.ext (λn y h=>?_) λn y _ _ _ T W h=>?_⟩
   .rcases h with h|⟨q,_⟩
    .exact ⟨h.1,by exact aT UD h⟩
    .exact q.symm▸(⟨by exact aT FF c,gS a⟩:ao<=a/\a<a+1)
   .by_cases q:n<a
    .exact .inl ⟨h.1,q⟩
    .have:n=a:=by exact aT VM h q
     refine .inr ⟨this,?_⟩;rw [zF];exact wW.mpr ⟨bI _,by exact aT TU h4 T,this▸(by simpa using W.symm)⟩
  .exact hd
 obtain ⟨b,d,e,X,o,f⟩:=P;show Go _ _;refine gF X (eS rfl rfl ?_);refine ⟨sO A B ao az bo bz as (.dct ks0 vs0) b d e,?_,b,d,e,rfl,by rw [show ao+(i+1)=a+1 by exact aT ZW c];exact o,by rw [show ao+(i+1)=a+1 by exact aT ZW c];exact f⟩;refine B3 rfl (loc':=[(1,vN ao),(2,vN az),(3,vN bo),(4,vN bz),(5,vL A),(6,vL B),(7,.dct ks0 vs0),(8,.bm "set.__contains__" .set0),(9,vN b.1),(10,vN b.2.1),(11,vN b.2.2),(12,.dct d (e.map vN)),(13,.lst [])]) ?_ (pU (by decide) (gL (by decide) (gE (u 1)) kW));exact cL rfl (cL rfl (cL rfl (cL rfl (cL (dP (eO A)) (cL (dP (eO B)) (cL (dP s) (cL rfl (cL rfl (cL rfl (cL rfl (cL (CY (by decide) rfl (wV _)) (cL rfl rfl))))))))))))
def IC{t:T3}{ks0:bE}{vs0:cA}{ks:bE}{es:mI}(a:vF A B ao az bo bz t)(h1:ao<=az)(h2:az<=aC A)(h3:bo<=bz)(h4:bz<=aC B)(v:aC A<200)(g:aC B<200):
  Go (Ia 1 (sW A B ao az bo bz as t)) (λf τ=>f=.ret (pB t)/\lk τ.cells 0=aG (.attrs as)):=by
 have z:ao<t.1->bo<t.2.1->A.getD (t.1-1) 0≠B.getD (t.2.1-1) 0:=λd h e=>by
  have C:0<t.2.2:=dG λh0=>by have:=a.zero h0;rw [this]at d;exact absurd d (eG _)
  have c:=a.cr C;have:=(a.max (t.1-1) (t.2.1-1) (t.2.2+1) (mV _) ⟨by exact aT Tp d,by have:=c.a1;exact aT Ż d this,by exact aT Tp h,by have:=c.b1;exact aT Ż h this,λu j=>by
   cases u with
   |zero=>exact e
   |succ u=>rw [show t.1-1+(u+1)=t.1+u by exact aT VU d,show t.2.1-1+(u+1)=t.2.1+u by exact aT VU h];exact c.eq u (by exact aT 0xc62a0814838507002 j)⟩).1
  exact aT 0x463248107001 this
 have D:t.1+t.2.2<az->t.2.1+t.2.2<bz->A.getD (t.1+t.2.2) 0≠B.getD (t.2.1+t.2.2) 0:=λd h e=>by
  have lo:ao<=t.1/\bo<=t.2.1:=by
   by_cases h0:t.2.2=0
   .have:=a.zero h0;rw [this];exact ⟨bG _,bG _⟩
   .have c:=a.cr (dG h0);exact ⟨c.a0,c.b0⟩
  have:=(a.max t.1 t.2.1 (t.2.2+1) (mV _) ⟨lo.1,by exact aT UC d,lo.2,by exact aT UC h,λu j=>by
   by_cases q:u=t.2.2
   .subst q;exact e
   .have c:=a.cr (by exact aT 0x6631504ce92c20520e1002 j q);exact c.eq u (by exact aT EX j q)⟩).1
  exact aT 0x463248107001 this
 have bnd:t.1<=az/\t.2.1<=bz:=by
  by_cases h0:t.2.2=0
  .have:=a.zero h0;rw [this];exact ⟨h1,h3⟩
  .have c:=a.cr (dG h0);exact ⟨by have:=c.a1;exact aT OC this,by have:=c.b1;exact aT OC this⟩
 have k:∀{x n:Nat},lk (sW A B ao az bo bz as t).loc x=aG (vN n)->0<n->bJ oE (aP x) (gK (.int 1)) (sW A B ao az bo bz as t)=aG (.int ((n-1:Nat):Int),sW A B ao az bo bz as t):=λ{x n} l F=>by refine cQ (bS l) rfl ?_;show aG (V.int ((n:Int)-1),_)=_;rw [show (n:Int)-1=((n-1:Nat):Int) by exact aT 0x232494637a81e7a854134cc7001 F]
 have o:∀{x y n m:Nat},lk (sW A B ao az bo bz as t).loc x=aG (vN n)->lk (sW A B ao az bo bz as t).loc y=aG (vN m)->bJ fF (aP x) (aP y) (sW A B ao az bo bz as t)=aG (.int ((n+m:Nat):Int),sW A B ao az bo bz as t):=λ{x y n m} l G=>by refine cQ (bS l) (bS G) ?_;show aG (V.int ((n:Int)+(m:Int)),_)=_;rw [show (n:Int)+(m:Int)=((n+m:Nat):Int) by exact aT ET]
 unfold Ia;refine gF (σ':=sW A B ao az bo bz as t) rfl (cP (Ax (bG _) (lL (jV rfl ?_))));have p:Go (H9 1 (sW A B ao az bo bz as t)) (λf τ=>f=.ret (pB t)/\lk τ.cells 0=aG (.attrs as)):=by
  unfold H9;refine gF (σ':=sW A B ao az bo bz as t) rfl (cP (Ax (bG _) (lL (jV (b:=decide (t.1+t.2.2<az)) (τ:=sW A B ao az bo bz as t) ?_ ?_))))
  .show aG (decide ((t.1:Int)+(t.2.2:Int)<(az:Int)),_)=_
   congr 2;exact decide_eq_decide.mpr (jP (n:=_+_))
  have r:Go (H8 1 (sW A B ao az bo bz as t)) (λf τ=>f=.ret (pB t)/\lk τ.cells 0=aG (.attrs as)):=by
   unfold H8;refine gF (σ':=sW A B ao az bo bz as t) rfl (cP (Ax (bG _) (lL (jV rfl ?_))));have s:Go (H7 1 (sW A B ao az bo bz as t)) (λf τ=>f=.ret (pB t)/\lk τ.cells 0=aG (.attrs as)):=by
    let i:St:=⟨[(2,vN az),(4,vN bz),(5,vL A),(6,vL B),(8,.bm "set.__contains__" .set0),(9,vN t.1),(10,vN t.2.1),(11,vN t.2.2)],[(0,.attrs as)],1⟩;unfold H7;refine gF (σ':=i) rfl (cP (Ax (bG _) (lL (jV (b:=decide (t.1+t.2.2<az)) (τ:=i) ?_ ?_))))
    .show aG (decide ((t.1:Int)+(t.2.2:Int)<(az:Int)),_)=_
     congr 2;exact decide_eq_decide.mpr (jP (n:=_+_))
    have yH:Go (rT [9,10,11] Qy 1 i) (λf τ=>f=.ret (pB t)/\lk τ.cells 0=aG (.attrs as)):=gF rfl (zT rfl ⟨rfl,rfl⟩);by_cases c1:t.1+t.2.2<az
    .rw [lK c1];refine lL (jV (b:=decide (t.2.1+t.2.2<bz)) (τ:=i) ?_ ?_)
     .show aG (decide ((t.2.1:Int)+(t.2.2:Int)<(bz:Int)),_)=_
      congr 2;exact decide_eq_decide.mpr (jP (n:=_+_))
     by_cases c2:t.2.1+t.2.2<bz
     .rw [lK c2];refine lL (jV (b:=false) (τ:=i) (Cw rfl (vX rfl (n:=t.2.1+t.2.2) ?_ (by exact aT ON h4 c2) g)) ⟨rfl,yH⟩);show aG (V.int ((t.2.1:Int)+(t.2.2:Int)),_)=_;rw [show (t.2.1:Int)+(t.2.2:Int)=((t.2.1+t.2.2:Nat):Int) by exact aT ET]
     .rw [iO c2];exact ⟨rfl,yH⟩
    .rw [iO c1];exact ⟨rfl,yH⟩
   by_cases c1:ao<t.1
   .rw [lK (by exact aT To c1)];refine lL (jV rfl ?_);by_cases c2:bo<t.2.1
    .rw [lK (by exact aT To c2)];exact lL (jV (b:=false) (τ:=sW A B ao az bo bz as t) (Cw rfl (vX rfl (k rfl (by exact aT EM c2)) (by exact aT Ä h4 bnd c2) g)) ⟨rfl,s⟩)
    .rw [iO (by exact aT Yu c2)];exact ⟨rfl,s⟩
   .rw [iO (by exact aT Yu c1)];exact ⟨rfl,s⟩
  by_cases c1:t.1+t.2.2<az
  .rw [lK c1];refine lL (jV (b:=decide (t.2.1+t.2.2<bz)) (τ:=sW A B ao az bo bz as t) ?_ ?_)
   .show aG (decide ((t.2.1:Int)+(t.2.2:Int)<(bz:Int)),_)=_
    congr 2;exact decide_eq_decide.mpr (jP (n:=_+_))
   by_cases c2:t.2.1+t.2.2<bz
   .rw [lK c2];refine lL (HH (jV (b:=false) (τ:=sW A B ao az bo bz as t) (Cw rfl (vX rfl (o rfl rfl) (by exact aT ON h4 c2) g)) ?_));show GB _ _ _;refine lL (jV (IK (vX rfl (o rfl rfl) (by exact aT ON h2 c1) v) (vX rfl (o rfl rfl) (by exact aT ON h4 c2) g)) ?_);rw [iO (D c1 c2)];exact ⟨rfl,r⟩
   .rw [iO c2];exact ⟨rfl,r⟩
  .rw [iO c1];exact ⟨rfl,r⟩
 by_cases c1:ao<t.1
 .rw [lK (by exact aT To c1)];refine lL (jV rfl ?_);by_cases c2:bo<t.2.1
  .rw [lK (by exact aT To c2)];refine lL (HH (jV (b:=false) (τ:=sW A B ao az bo bz as t) (Cw rfl (vX rfl (k rfl (by exact aT EM c2)) (by exact aT Ä h4 bnd c2) g)) ?_));show GB _ _ _;refine lL (jV (IK (vX rfl (k rfl (by exact aT EM c1)) (by exact aT 0x208e462a1814129d89298891052314cc7006 h2 bnd c1) v) (vX rfl (k rfl (by exact aT EM c2)) (by exact aT Ä h4 bnd c2) g)) ?_);rw [iO (z c1 c2)];exact ⟨rfl,p⟩
  .rw [iO (by exact aT Yu c2)];exact ⟨rfl,p⟩
 .rw [iO (by exact aT Yu c1)];exact ⟨rfl,p⟩
def QT(h:Uv A B as)(h1:ao<=az)(h2:az<=aC A)(h3:bo<=bz)(h4:bz<=aC B)(d:aC A<200)(l:aC B<200):
  Go (QP 1 ⟨yX 0 [.inst 0,vN ao,vN az,vN bo,vN bz],[(0,.attrs as)],1⟩) (λf τ=>f=.ret (pB (K0 A B ao az bo bz))/\lk τ.cells 0=aG (.attrs as)):=by
 obtain ⟨ch,m,ks0,vs0,rfl,u,x⟩:=h.b2j;have y:(V.dct ks0 vs0).pure=true:=h.pure _ (Wf m);have z:∀k,Eo k (.attrs as)=true:=λk=>Ef h.pure;have C:yO ao az=true:=by simp [yO];exact aT 0x3f8c596c6318c6318c6318c6318c6318e1907a86d8c6318c6318c6318c6318c631c320f502b19d984910521003 h1 h2 d
 let s0:St:=⟨[(0,.inst 0),(1,vN ao),(2,vN az),(3,vN bo),(4,vN bz)],[(0,.attrs as)],1⟩;let n:St:=⟨[(0,.inst 0),(1,vN ao),(2,vN az),(3,vN bo),(4,vN bz),(5,vL A),(6,vL B),(7,.dct ks0 vs0),(8,.bm "set.__contains__" .set0)],[(0,.attrs as)],1⟩;let c:St:=⟨[(1,vN ao),(2,vN az),(3,vN bo),(4,vN bz),(5,vL A),(6,vL B),(7,.dct ks0 vs0),(8,.bm "set.__contains__" .set0)],[(0,.attrs as)],1⟩;let o:St:=sO A B ao az bo bz as (.dct ks0 vs0) (ao,bo,0) [] [];refine (?_:Go (QP 1 s0) _);unfold QP;refine cP (Tx ?_);refine cP (eS (v:=.tup [vL A,vL B,.dct ks0 vs0,.bm "set.__contains__" .set0]) (τ:=s0) (τ':=n) (nV (bH (pJ (bS rfl) rfl h.a rfl) (bH (pJ (bS rfl) rfl h.b rfl) (bH (pJ (bS rfl) rfl m rfl) (bH (by unfold á;rw [pJ (bS rfl) rfl h.bjunk rfl];rfl) cW)))) lm4) rfl (cP (M9 (τ:=n) rfl (kI (gF (σ':=c) rfl (cP (M9 (τ:=c) rfl (kI (gF (σ':=c) rfl (cP (eS (τ:=c) (v:=.tup [vN ao,vN bo,vN 0]) rfl rfl (cP (eS rfl rfl (cP (eS rfl rfl (gF (σ':=o) rfl ?_))))))))))))))));refine cP (pL (λ_=>False) (JO A B ao az bo bz as (.dct ks0 vs0)) (ds:=Et ao az) (τ:=o) (MD (bH (bS rfl) (bH (bS rfl) cW)) C) (bG _)
  ⟨_,_,_,rfl,⟨bI _,λj _=>?_⟩,A6.start λi j ⟨a,b⟩=>by exact aT 0x618a8016290600521002 ‹_›⟩ (λi I v D F=>?_) (λτ' hd=>?_))
 .cases j with
  |zero=>cases ao<;>rfl
  |succ j=>
   show _=vN (LS A B ao bo ao (j+1));rw [show LS A B ao bo ao (j+1)=0 by
    cases ao with
    |zero=>rfl
    |succ a=>exact N9 (by exact aT 0x40c5d2632e41a44148107023)]
   rfl
 .obtain ⟨τ',e,g⟩:=Zh y u x z h2 h4 d l D F;refine ⟨τ',e,g.mono λf τ p=>?_⟩;cases f<;>first|exact p|exact p.elim
 .obtain ⟨t,ks,es,rfl,J,r⟩:=hd.resolve_right id;rw [MS]at r;have s:vF A B ao az bo bz t:=r.best λi j G H=>⟨G,by exact aT UM H⟩;rw [Ub s];show Go _ _;exact gF (σ':=sW A B ao az bo bz as t) rfl (IC (ks0:=ks0) (vs0:=vs0) (ks:=ks) (es:=es) s h1 h2 h3 h4 d l)
end
section
variable{n:Nat}
def aCw(G:Gd){A B:bE}{as:oS}{ao az bo bz:Nat}(h:Uv A B as)(h1:ao<=az)(h2:az<=aC A)(h3:bo<=bz)(h4:bz<=aC B)(a:aC A<200)(b:aC B<200):
  vD (n+3) (.ref 196) (.attrs as) [vN ao,vN az,vN bo,vN bz] (λc r=>c=.attrs as/\r=pB (K0 A B ao az bo bz)):=by
 refine Zz.c (Mj (dds:=[]) (dvs:=[]) (fd:=kN MineH.o196v0) (o:=MineH.o196v0) (tab:=Ss) (body:=cH (at_ [5,6])) (aA4 w.params) (G.K 196 _ (by kernel_rfl)) rfl G.lim (codeRec_of G.K (by kernel_rfl)) rfl (λ_ _ _=>bN.nil) (λh tk vs d i=>?_) (by show (5:Nat)<=19;decide) h.pure (λL=>?_) rfl)
 .revert vs;exact ll5 λ_ _ _ _ _=>kp_binds (G.K.keeps d) λK=>by kernel_rfl
 .obtain ⟨f,τ,e,rfl,g⟩:=QT (as:=as) h h1 h2 h3 h4 a b;refine kO (aAl G 1 _ _ _ e) ?_;rintro _ _ ⟨rfl,rfl⟩;exact ⟨.attrs as,.attrs as,_,g,uE h.pure,h.pure,dP (by rfl),by rfl,rfl,rfl⟩
end
def Ik{A B:bE}{ao az bo bz i j k:Nat}(h:K0 A B ao az bo bz=(i,j,k))(a:k≠0):Cr A B ao az bo bz i j k:=by
 unfold K0 at h;split at h
 .rename_i b;have:=b.choose_spec.cr;rw [h]at this;exact this (dG a)
 .simp only [gX]at h;exact absurd h.2.2.symm a
def Q5{A B:bE}{ao az bo bz:Nat}(h:az<=ao\/bz<=bo):K0 A B ao az bo bz=(ao,bo,0):=
 Ub ⟨λ_=>rfl,λh=>absurd h (eG 0),λi j k a c=>by have:=c.a0;have:=c.a1;have:=c.b0;have:=c.b1;exact iV (aT 0x67e0c649120853a4a71a408214c92982a219a918921007 h a ‹_› ‹_› ‹_› this)⟩
def xF{A B:bE}{ao az bo bz:Nat}(h:az<=ao\/bz<=bo):∀f,Af A B f ao az bo bz=[]:=by
 intro x0
 induction x0 with
 |zero=>exact rfl
 |succ f a=>simp only [B5,yK];rw [Q5 h];rfl
def Rm{A B:bE}:∀(f f' ao az bo bz:Nat),az-ao<=f->az-ao<=f'->Af A B f ao az bo bz=Af A B f' ao az bo bz:=by
 intro z1
 induction z1 with
 |zero=>intro f';intro ao;intro az;intro bo;intro bz;intro h;intro _;rw [xF (.inl (by exact aT OK h)),xF (.inl (by exact aT OK h))]
 |succ f z2=>
  intro z3
  cases z3 with
  |zero=>intro ao;intro az;intro bo;intro bz;intro _;intro h;rw [xF (.inl (by exact aT OK h)),xF (.inl (by exact aT OK h))]
  |succ f'=>
   intro ao;intro az;intro bo;intro bz;intro h;intro h';simp only [B5,yK];rcases e:K0 A B ao az bo bz with ⟨i,j,k⟩;dsimp only;by_cases a:k=0
   .simp only [if_pos a,if_pos a]
   .have c:=Ik e a;have:=c.a0;have:=c.a1;have k0:=dG a;have b:=dC (rW k0) c.a1;have x1:i-ao<az-ao:=KU c.a0 b;have x2:az-(i+k)<az-ao:=qU (eK c.a0 b) (eK c.a0 (rW k0));rw [z2 f' ao i bo j (mW (dC x1 h)) (mW (dC x1 h')),z2 f' (i+k) az (j+k) bz (mW (dC x2 h)) (mW (dC x2 h'))]
def N0{A B:bE}:∀(f ao az bo bz:Nat)(t:T3),t∈Af A B f ao az bo bz->ao<=t.1/\t.1+t.2.2<=az/\bo<=t.2.1/\t.2.1+t.2.2<=bz/\0<t.2.2:=by
 intro x0
 induction x0 with
 |zero=>intro ao az bo bz t h;simp [B5,yK]at h
 |succ f b=>
  intro ao az bo bz t h;simp only [B5,yK]at h;rcases e:K0 A B ao az bo bz with ⟨i,j,k⟩;rw [e]at h;dsimp only at h;by_cases a:k=0
  .rw [if_pos a]at h;cases h
  .rw [if_neg a]at h;have c:=Ik e a;have:=c.a0;have:=c.a1;have:=c.b0;have:=c.b1;rcases cU.mp h with h|h
   .have:=b ao i bo j t h;exact aT 0xd1426448462c6318a2e8c649105d18bc324bc3176648905d18a7494e53318c628ba31923417462f0c92f0c5d99204174629d25394c9220234890100a ‹_› ‹_› this
   .rcases aR.mp h with rfl|h
    .simp only;exact aT 0x210c52518208208062c6318a019253a005324a622468009220a4a7400a6494c448d001244174966007 a ‹_› ‹_› ‹_› this
    .have:=b (i+k) az (j+k) bz t h;exact aT 0xc1524468462c6318a29cc92f0c829cbb324bb30925d1905394c92980c6318a29cc92f0c829cbb324bb3208349746414e5324a6410291892100a ‹_› ‹_› this
def Uj{A B:bE}:∀(f ao az bo bz:Nat),(Af A B f ao az bo bz).Pairwise λt u=>t.1<u.1:=by
 intro x0
 induction x0 with
 |zero=>intro ao az bo bz;simp [B5,yK]
 |succ f d=>
  intro ao az bo bz;simp only [B5,yK];rcases e:K0 A B ao az bo bz with ⟨i,j,k⟩;dsimp only;by_cases b:k=0
  .rw [if_pos b];exact .nil
  .rw [if_neg b];have c:=Ik e b;have:=c.a0;have:=c.a1;have:=c.b0;have:=c.b1;refine jA.mpr ⟨d ao i bo j,dR.mpr ⟨λu a=>?_,d (i+k) az (j+k) bz⟩,λt g u a=>?_⟩
   .have:=N0 f _ _ _ _ u a;simp only;exact aT 0x30c018a8416318c50cc92e8c8194e929d002992440c491200174966008 b this
   .have h1:=N0 f _ _ _ _ t g;rcases aR.mp a with rfl|a
    .simp only;exact aT 0x263150c2c6318a119253a045324a62246810521007 h1
    .have:=N0 f _ _ _ _ u a;exact aT 0x4c231517660b18c628bc31925f9905e18be324be320ba314e92f4c82f0c5d9925d9905d186c6318a119253a045324a6224681052100d h1 this
noncomputable abbrev Q4:=Nat×Nat×Nat×Nat
def bl(A B:bE)(q:Q4):jU:=Af A B (q.2.1-q.1) q.1 q.2.1 q.2.2.1 q.2.2.2
theorem aBb{A B:bE}{ao az bo bz:Nat}:bl A B (ao,az,bo,bz)=match K0 A B ao az bo bz with
  |(i,j,k)=>if k=0 then[]else bl A B (ao,i,bo,j)++(i,j,k)::bl A B (i+k,az,j+k,bz):=by
 rcases e:K0 A B ao az bo bz with ⟨i,j,k⟩;dsimp only;refine (?_:Af A B (az-ao) ao az bo bz=_);by_cases h:az<=ao
 .rw [xF (.inl h)];have:=Q5 (A:=A) (B:=B) (ao:=ao) (az:=az) (bo:=bo) (bz:=bz) (.inl h);rw [e]at this;simp only [gX]at this;rw [if_pos this.2.2]
 .obtain ⟨f,b⟩:∃f,az-ao=f+1:=⟨az-ao-1,by exact aT 0x20a0a0a09491c241462b41c017492314cc704cc1002 h⟩;rw [b];simp only [B5,yK];rw [e];dsimp only;by_cases a:k=0
  .rw [if_pos a,if_pos a]
  .rw [if_neg a,if_neg a];have c:=Ik e a;have:=c.a0;have:=c.a1;show _=Af A B (i-ao) ao i bo j++(i,j,k)::Af A B (az-(i+k)) (i+k) az (j+k) bz;rw [Rm f (i-ao) ao i bo j (by exact aT 0x108042200101080445e01062929809120a723a4b314eb41ca60ccc21ccc1005 b a this) (by exact aT 0x8c520001),Rm f (az-(i+k)) (i+k) az (j+k) bz (by exact aT 0x84021100080840222f00831494e04906e92cc532d0729c33320830ccc1005 b a ‹_›) (by exact aT 0x8c520001)]
def Xk{A B:bE}{ao az bo bz:Nat}(h:az<=ao\/bz<=bo):bl A B (ao,az,bo,bz)=[]:=xF h _
def kt(t:T3):K3×V:=(((t.1:Int),(t.2.1:Int),(t.2.2:Int)),pB t)
def PF:∀a:jU,Qe kMt (a.map pB)=aG (a.map kt):=by
 intro x0
 induction x0 with
 |nil=>exact rfl
 |cons t r b=>rw [cE,Wj,b];rfl
def X5{b a:jU}(c:b.Perm a)(d:a.Pairwise λt u=>t.1<u.1)(g:aC a<64):Ep kMt (b.map pB)=aG (a.map pB):=by
 unfold Ep;rw [PF];have i:SK (a.map kt):=by unfold SK;rw [tB];refine d.imp λ{t u} h=>xZ.mpr (.inl ?_);refine (?_:(t.1:Int)<(u.1:Int));exact aT To h
 have f:((b.map kt).map (·.1)).Nodup:=by
  have h1:((a.map kt).map (·.1)).Nodup:=by rw [qG];refine tB.mpr (d.imp λ{t u} h e=>?_);have:(t.1:Int)=(u.1:Int):=congrArg Prod.fst e;exact aT 0xc3195ea1a8141002 h this
  exact (((c.map kt).map (·.1)).nodup_iff).mpr h1
 show (if _ then _ else _)=_;rw [if_pos ⟨f,by rw [bB,c.length_eq];exact g⟩];rw [Dv (Bz _ f) i ((Cx _).trans (c.map kt)),qG];rfl
def Cn:∀l:jU,dH (l.map pB)=true:=by
 intro x0
 induction x0 with
 |nil=>exact rfl
 |cons _ r a=>exact a
def vQ(q:Q4):V:=.tup [vN q.1,vN q.2.1,vN q.2.2.1,vN q.2.2.2]
def vT(t:T3):V:=.tup [vN t.1,vN t.2.1,vN t.2.2]
def CA:∀l:List Q4,dH (l.map vQ)=true:=by
 intro x0
 induction x0 with
 |nil=>exact rfl
 |cons _ r a=>simp only [cE,fO,eN];rw [a];rfl
def BY:∀l:jU,dH (l.map vT)=true:=by
 intro x0
 induction x0 with
 |nil=>exact rfl
 |cons _ r a=>simp only [cE,fO,eN];rw [a];rfl
open Classical in
def RP(A B:bE):Da:=λc us=>ob (atC c) λas=>aI (λa=>aI λb=>aI λc'=>aI λd=>aN (if Uv A B as/\aC A<200/\aC B<200/\0<=a/\a<=b/\b<=aC A/\0<=c'/\c'<=d/\d<=aC B then aG (.attrs as,pB (K0 A B a.toNat b.toNat c'.toNat d.toNat))else aH)) us
open Classical in
def RO{A B:bE}{as:oS}{ao az bo bz:Nat}(h:Uv A B as)(a:aC A<200)(b:aC B<200)(h1:ao<=az)(h2:az<=aC A)(h3:bo<=bz)(h4:bz<=aC B):
  RP A B (.attrs as) [vN ao,vN az,vN bo,vN bz]=aG (.attrs as,pB (K0 A B ao az bo bz)):=by
 show (if _ then _ else _)=_;rw [if_pos ⟨h,a,b,by exact aT FC,by exact aT EN h1,by exact aT EN h2,by exact aT FC,by exact aT EN h3,by exact aT EN h4⟩];rfl
open Classical in
def JA{n:Nat}(G:Gd)(A B:bE):∀c0 us c1 r,dH us=aU->RP A B c0 us=aG (c1,r)->qQ c0/\vD (n+3) (.ref 196) c0 us (λc i=>c=c1/\i=r):=λc0 us c1 r j e=>by refine TL e λas e=>?_;refine xG e λa _ e=>?_;refine xG e λb _ e=>?_;refine xG e λc _ e=>?_;refine xG e λd _ e=>?_;refine mT e λe=>?_;obtain ⟨k,e⟩:=iB e;obtain ⟨h,l,m,a0,f,o,c0,g,p⟩:=k;refine Ck e λs t=>?_;refine ⟨h.pure,?_⟩;have:=aCw (n:=n) G (ao:=a.toNat) (az:=b.toNat) (bo:=c.toNat) (bz:=d.toNat) h (by exact aT ż f) (by exact aT UG o) (by exact aT ż g) (by exact aT UG p) l m;simp only [vN]at this;rw [qV a0,qV (by exact aT 0xe31b04d6082c0320 a0 f:0<=b),qV c0,qV (by exact aT 0xe31b04d6082c0320 c0 g:0<=d)]at this;exact s▸t▸this
section
variable{A B:bE}{as:oS}
def sQ(A B:bE)(as:oS)(q:List Q4)(ms:jU):St:=
 ⟨[(0,.inst 0),(1,vN (aC A)),(2,vN (aC B)),(3,.ref 1),(4,.ref 2)],[(2,.list (ms.map pB)),(1,.list (q.reverse.map vQ)),(0,.attrs as)],3⟩
def sB(A B:bE)(as:oS)(q:List Q4)(ms:jU)(e:Q4)(t:T3):St:=
 ⟨[(0,.inst 0),(1,vN (aC A)),(2,vN (aC B)),(3,.ref 1),(4,.ref 2),(5,vN e.1),(6,vN e.2.1),(7,vN e.2.2.1),(8,vN e.2.2.2),(9,vN t.1),(10,vN t.2.1),(11,vN t.2.2),(12,pB t)],[(2,.list (ms.map pB)),(1,.list (q.reverse.map vQ)),(0,.attrs as)],3⟩
def sP(A B:bE)(as:oS)(q:List Q4)(ms:jU)(e:Q4):St:=
 ⟨[(0,.inst 0),(1,vN (aC A)),(2,vN (aC B)),(3,.ref 1),(4,.ref 2),(5,vN e.1),(6,vN e.2.1),(7,vN e.2.2.1),(8,vN e.2.2.2)],[(2,.list (ms.map pB)),(1,.list (q.reverse.map vQ)),(0,.attrs as)],3⟩
def QOk(A B:bE)(q:List Q4):Prop:=∀e∈q,e.1<=e.2.1/\e.2.1<=aC A/\e.2.2.1<=e.2.2.2/\e.2.2.2<=aC B
noncomputable def mu(q:List Q4):Nat:=(q.map λe=>2*(e.2.1-e.1)+1).sum
def Km:∀q:List Q4,q.length<=mu q:=by
 intro x0
 induction x0 with
 |nil=>exact bG _
 |cons e q a=>have:=a;simp only [mu,cE,List.sum_cons,eM]at this⊢;exact aT 0x18c5280a0f0168c838121003 this
def Mi(e:Q4)(q:List Q4):mu (e::q)=2*(e.2.1-e.1)+1+mu q:=by rfl
inductive JQ(A B:bE)(as:oS)(m:Nat)(τ:St):Prop
 |mk (q:List Q4) (ms:jU) (e:τ=sQ A B as q ms) (k:QOk A B q) (u:m=mu q) (l:m<=500) (p:(ms++q.flatMap (bl A B)).Perm (bl A B (0,aC A,0,aC B)))
def ZM{q:List Q4}{a:jU}(h:(a++q.flatMap (bl A B)).Perm (bl A B (0,aC A,0,aC B)))(b:(bl A B (0,aC A,0,aC B)).length<64):a.length<64:=by have:=h.length_eq;simp only [bD]at this;exact aT 0x58c558c1c2b0204156307003 b this
def SE(p:Prop)[Decidable p]{σ:St}{x:Int}{y:Int}(h:x<y↔p):aG (V.bool (decide (x<y)),σ)=aG (V.bool (decide p),σ):=by
 congr 3
 exact decide_eq_decide.mpr h
def HA(h:Uv A B as)(hA:aC A<200)(hB:aC B<200)(hl:(bl A B (0,aC A,0,aC B)).length<64){m:Nat}{τ:St}{P:Fl->gZ}(hj:JQ A B as m τ)(hP:∀a:jU,a.Perm (bl A B (0,aC A,0,aC B))->P .next (sQ A B as [] a)):
  GB (yY (aP 3)) τ λc τ'=>if c=aU then Go (C2 (RP A B) 3 τ') (KF [0,1,2,3,4] 3 (JQ A B as) m P)else P .next τ':=by
 have J:lim=1048576:=rfl;obtain ⟨q,a,rfl,F,rfl,t,perm⟩:=hj;have fj:∀k,Eo k (.attrs as)=true:=λk=>Ef h.pure;have Q:=ZM perm hl;have G:=Km q;have C:∀(p:List Q4)(H:jU)(τ:St),AG [0,1,2,3,4] τ=sQ A B as p H->QOk A B p->mu p<mu q->(H++p.flatMap (bl A B)).Perm (bl A B (0,aC A,0,aC B))->KE [0,1,2,3,4] 3 (JQ A B as) (mu q) τ:=λp H τ e n9 lt' wa=>
  ⟨_,mu p,zX e (by rfl) (gL (by decide) (gE (c:=.list (H.map pB)) (jD (Cn _))) (gL (by decide) (gE (c:=.list (p.reverse.map vQ)) (jD (CA _))) (gL (by decide) (gE (fj 3)) kW))),lt',p,H,rfl,n9,rfl,by exact aT 0x38c53cf7cc150029e7be6002 t lt',wa⟩
 cases q with
 |nil=>refine ⟨bR,_,Gg (v:=.ref 1) (bS rfl) rfl,?_⟩;exact hP a (by simpa using perm)
 |cons e q=>
  obtain ⟨ao,az,bo,bz⟩:=e;obtain ⟨o1,o2,o3,L⟩:=F (ao,az,bo,bz) aQ;have R:QOk A B q:=λx g=>F x (aO _ g);rw [Mi]at C t G;simp only at o1 o2 o3 L C t G;rw [eM]at G;have T:(((ao,az,bo,bz)::q).reverse.map vQ)=q.reverse.map vQ++[vQ (ao,az,bo,bz)]:=by simp
  have wb:(q.reverse.map vQ++[vQ (ao,az,bo,bz)]).length<=lim:=by simp;exact aT 0x1718a40838d28120f00e8c838d3cf7cc8120f00e8cbc6318c6386004 J t G
  refine ⟨aU,sQ A B as ((ao,az,bo,bz)::q) a,Gg (v:=.ref 1) (bS rfl) ?_,?_⟩
  .refine (MK (l:=((ao,az,bo,bz)::q).reverse.map vQ) rfl (by rw [T];exact wb)).trans ?_;rw [T];simp
  show Go _ _;unfold C2;refine cP (eS (v:=vQ (ao,az,bo,bz)) (τ:=sQ A B as q a) (τ':=sP A B as q a (ao,az,bo,bz)) ?_ rfl ?_)
  .refine xR (u:=.ref 1) (bS rfl) rfl cW ?_;show (if (((ao,az,bo,bz)::q).reverse.map vQ).length<=lim then ((((ao,az,bo,bz)::q).reverse.map vQ).getLast?).map (λd=>(d,({sQ A B as ((ao,az,bo,bz)::q) a with cells:=put 1 (.list (((ao,az,bo,bz)::q).reverse.map vQ).dropLast) (sQ A B as ((ao,az,bo,bz)::q) a).cells}:St)))else aH)=_;rw [T,if_pos wb,List.getLast?_concat,AU];rfl
  rcases W:K0 A B ao az bo bz with ⟨i,j,k⟩;have r:=aBb (A:=A) (B:=B) (ao:=ao) (az:=az) (bo:=bo) (bz:=bz);rw [W]at r;dsimp only at r;refine cP (eS (v:=pB (i,j,k)) (τ:=sP A B as q a (ao,az,bo,bz)) (τ':=sB A B as q a (ao,az,bo,bz) (i,j,k)) ?_ rfl ?_)
  .have:=RO h hA hB o1 o2 o3 L;rw [W]at this;exact ME (τ:=sP A B as q a (ao,az,bo,bz)) (τ':=sP A B as q a (ao,az,bo,bz)) (i:=0) (c:=.attrs as) (c0:=.attrs as) (bS rfl) rfl rfl (bH (bS rfl) (bH (bS rfl) (bH (bS rfl) (bH (bS rfl) cW)))) rfl rfl this
  refine rG (jV (b:=decide (k≠0)) (τ:=sB A B as q a (ao,az,bo,bz) (i,j,k)) (Gg (v:=vN k) (bS rfl) ?_) ?_)
  .show aG ((k:Int) != 0)=_
   congr 1
   by_cases o:k=0
   .subst o;rfl
   .simp [o]
  by_cases o:k=0
  .rw [iO (by simpa using o)];rw [if_pos o]at r;refine kI (C q a _ rfl R (by exact aT 0x462a4010780746002) ?_);rw [fE,r]at perm;exact perm
  rw [lK o];rw [if_neg o]at r;have c:=Ik W o;have X:=c.a0;have I:=c.a1;have cb0:=c.b0;have Y:=c.b1;have fo:0<k:=dG o;let D:St:=⟨[(0,.inst 0),(1,vN (aC A)),(2,vN (aC B)),(3,.ref 1),(4,.ref 2),(5,vN ao),(6,vN az),(7,vN bo),(8,vN bz),(9,vN i),(10,vN j),(11,vN k),(12,pB (i,j,k))],[(2,.list ((a++[(i,j,k)]).map pB)),(1,.list (q.reverse.map vQ)),(0,.attrs as)],3⟩;refine cP (rH (τ:=D) (xR (u:=.ref 2) (bS rfl) rfl (bH (bS rfl) cW) ?_) ?_)
  .refine (lQ (l:=a.map pB) rfl (by simp;exact aT 0x2c62900558c1c2bc6318c6386002 J Q)).trans ?_;show aG (V.none,_)=aG (V.none,D);simp only [D,dK,cE,A3];rfl
  have En:∀f:List Q4,(f=q\/f=(ao,i,bo,j)::q)->(f.flatMap (bl A B)).Perm (bl A B (ao,i,bo,j)++q.flatMap (bl A B))->mu f<=2*(i-ao)+1+mu q->QOk A B f->∀(s:St),s=(⟨[(0,.inst 0),(1,vN (aC A)),(2,vN (aC B)),(3,.ref 1),(4,.ref 2),(6,vN az),(8,vN bz),(9,vN i),(10,vN j),(11,vN k)],[(2,.list ((a++[(i,j,k)]).map pB)),(1,.list (f.reverse.map vQ)),(0,.attrs as)],3⟩:St)->
    Go ((yF (kJ (gM (bJ Jr (bJ fF (aP 9) (aP 11)) (aP 6))) (kJ (gM (bJ Jr (bJ fF (aP 10) (aP 11)) (aP 8))) (λσ=>aG (aU,σ)))) (xP (zW gT (aP 3) (aS (kC (aS (bJ fF (aP 9) (aP 11)) (aS (aP 6) (aS (bJ fF (aP 10) (aP 11)) (aS (aP 8) bP))))) bP))) (nA .next)) 3 s) (KF [0,1,2,3,4] 3 (JQ A B as) (2*(az-ao)+1+mu q) P):=λf _ pq N Z s hs=>by
   have zz:=Km f;have O:∀{x y n m:Nat},lk s.loc x=aG (vN n)->lk s.loc y=aG (vN m)->bJ fF (aP x) (aP y) s=aG (vN (n+m),s):=λ{x y n m} g hy=>cQ (bS g) (bS hy) (by show aG (V.int ((n:Int)+(m:Int)),_)=_;rw [show (n:Int)+(m:Int)=((n+m:Nat):Int) by exact aT ET];rfl);subst hs;have done:¬(i+k<az/\j+k<bz)->(a++[(i,j,k)]++f.flatMap (bl A B)).Perm (bl A B (0,aC A,0,aC B)):=λhn=>by have e2:bl A B (i+k,az,j+k,bz)=[]:=Xk (by exact aT 0x2e18b52808c89404027498a2202350901005 hn);rw [fE,r,e2]at perm;refine AV ?_ perm;refine vM.mpr λx=>?_;have:=vM.mp pq x;simp only [SY,Ĝ,Ļ]at this⊢;exact aT 0x7462b42048410c11a008410c35a041005 this
   refine rG (lL (jV (b:=decide (i+k<az)) (lP (cQ (O rfl rfl) (bS rfl) (SE _ jP))) ?_));by_cases c1:i+k<az
   .rw [lK c1];refine lL (jV (b:=decide (j+k<bz)) (lP (cQ (O rfl rfl) (bS rfl) (SE _ jP))) ?_);by_cases c2:j+k<bz
    .rw [lK c2];refine T5 ?_;show Go _ _;refine rH (xR (u:=.ref 1) (bS rfl) rfl (bH (nV (bH (O rfl rfl) (bH (bS rfl) (bH (O rfl rfl) (bH (bS rfl) cW)))) lm4) cW) (lQ (l:=f.reverse.map vQ) rfl (by simp;exact aT 0x915141000100091512024564a29298bb328482f0c4497462ecc9414e83c01a317464f3df320a741e01d1978c6318c70c534cc21ccc1008 J t N zz c1))) (C ((i+k,az,j+k,bz)::f) (a++[(i,j,k)]) _ ?_ (λx g=>?_) ?_ ?_)
     .have:((i+k,az,j+k,bz)::f).reverse.map vQ=f.reverse.map vQ++[vQ (i+k,az,j+k,bz)]:=by simp
      simp only [sQ,this];rfl
     .rcases aR.mp g with rfl|g
      .exact ⟨by simp only;exact aT 0xc6291202050901003 c1,by simp only;exact aT Ys o2,by simp only;exact aT 0xc6291202050901003 c2,by simp only;exact aT Ys L⟩
      .exact Z x g
     .rw [Mi];simp only;exact aT 0x800008000002000200008000020080000800000200800008000002000200008000020002000080000200105002200002001044422000020051520bb320f0068c82e8c83c03a328a6414e34a0bb320f0168c5d192323a4b314f330c93320811ccc1006 o X N c1
     .rw [fE,r]at perm;refine AV ?_ perm;refine vM.mpr λx=>?_;have:=vM.mp pq x;rw [fE];simp only [SY,Ĝ,Ļ]at this⊢;exact aT 0x7462b42048410a608d08014c8410c35a041006 this
    .rw [iO c2];exact kI (C f (a++[(i,j,k)]) _ rfl Z (by exact aT 0x4111001010401022064a2a414e83c01a314ca220ba3092829d0780746299221ccc21ccc1006 X N c1) (done λz=>c2 z.2))
   .rw [iO c1];exact kI (C f (a++[(i,j,k)]) _ rfl Z (by exact aT 0x202800020080020000200820080002001111280020051520ba320f0068c53a505d19078074629d24414c24886e92cc534cc21ccc1006 o X I N) (done λz=>c1 z.1))
  refine cP (rG (lL (jV (b:=decide (ao<i)) (τ:=D) (lP (cQ (bS rfl) (bS rfl) (SE _ jP))) ?_)));have pv:¬(ao<i/\bo<j)->Go (rT [0,1,2,3,4,6,8,9,10,11] (yF (kJ (gM (bJ Jr (bJ fF (aP 9) (aP 11)) (aP 6))) (kJ (gM (bJ Jr (bJ fF (aP 10) (aP 11)) (aP 8))) (λσ=>aG (aU,σ)))) (xP (zW gT (aP 3) (aS (kC (aS (bJ fF (aP 9) (aP 11)) (aS (aP 6) (aS (bJ fF (aP 10) (aP 11)) (aS (aP 8) bP))))) bP))) (nA .next)) 3 D) (KF [0,1,2,3,4] 3 (JQ A B as) (2*(az-ao)+1+mu q) P):=λhn=>by refine gF rfl ?_;have e1:bl A B (ao,i,bo,j)=[]:=Xk (by exact aT 0x2e18b5221a4017498a18941004 hn);exact En q (.inl rfl) (by rw [e1];exact .refl _) (by exact aT 0x46294010780746002) R _ rfl
  by_cases c1:ao<i
  .rw [lK c1];refine lL (jV (b:=decide (bo<j)) (τ:=D) (lP (cQ (bS rfl) (bS rfl) (SE _ jP))) ?_);by_cases c2:bo<j
   .rw [lK c2];refine T5 ?_;show Go _ _;refine rH (xR (u:=.ref 1) (bS rfl) rfl (bH (nV (bH (bS rfl) (bH (bS rfl) (bH (bS rfl) (bH (bS rfl) cW)))) lm4) cW) (lQ (l:=q.reverse.map vQ) rfl (by simp;exact aT 0x5c62900d28120f00e8c838d3cf7cc8120f00e8cbc6318c6386004 J t G))) ?_;show Go _ _;refine gF rfl ?_;refine En ((ao,i,bo,j)::q) (.inr rfl) (.refl _) (by rw [Mi];exact bG _) (λx g=>?_) _ ?_
    .rcases aR.mp g with rfl|g
     .exact ⟨by simp only;exact aT 0xc62908141002 c1,by simp only;exact aT TS o2 I,by simp only;exact aT 0xc62908141002 c2,by simp only;exact aT TS L Y⟩
     .exact R x g
    .have:((ao,i,bo,j)::q).reverse.map vQ=q.reverse.map vQ++[vQ (ao,i,bo,j)]:=by simp
     rw [this];rfl
   .rw [iO c2];exact kI (pv λz=>c2 z.2)
  .rw [iO c1];exact kI (pv λz=>c1 z.1)
end
section
variable{A B:bE}{as:oS}
def sN(A B:bE)(as:oS)(x:tH)(su:T3)(out:jU):St:=
 ⟨(0,.inst 0)::(1,vN (aC A))::(2,vN (aC B))::(x++[(13,vN su.1),(14,vN su.2.1),(15,vN su.2.2),(16,.ref 1)]),[(1,.list (out.map vT)),(0,.attrs as)],2⟩
inductive JN(A B:bE)(as:oS)(bs:jU)(p:Nat)(τ:St):Prop
 |mk (x:tH) (su:T3) (out:jU) (h:x=[]\/x=[(4,V.lst (bs.map pB))]) (e:τ=sN A B as x su out) (l:out.length<=p) (g:out++tO su (bs.drop p)=tO (0,0,0) bs)
def Y9{i j k a b c:Nat}{r:jU}:tO (i,j,k) ((a,b,c)::r)=if i+k=a/\j+k=b then tO (i,j,k+c) r else if k=0 then tO (a,b,c) r else (i,j,k)::tO (a,b,c) r:=rfl
def HD{i j k:Nat}:tO (i,j,k) []=if k=0 then[]else[(i,j,k)]:=rfl
def HB{h:jU}{p:Nat}{τ:St}{t:T3}(O:∀k,Eo k (.attrs as)=aU)(P:aC h<64)(Q:h[p]?=aG t)(R:JN A B as h p τ):
  ∃τ',QL [cG 17,cG 18,cG 19] (pB t) τ=aG τ'/\Go (H6 (RP A B) 2 τ') (xI [0,1,2,13,14,15,16] 2 (JN A B as h (p+1)) (λ_=>False) (λ_ _=>False)):=by
 obtain ⟨x,⟨i,j,d⟩,out,T,rfl,G,y⟩:=R;obtain ⟨f,g,tk⟩:=t;obtain ⟨J,W⟩:=cF.mp Q;have hd:h.drop p=(f,g,tk)::h.drop (p+1):=by simp only [iI J,W]
 simp only [hd,Y9]at y;have I:∀(H:T3)(D:jU)(τ:St),AG [0,1,2,13,14,15,16] τ=sN A B as [] H D->D.length<=p+1->D++tO H (h.drop (p+1))=tO (0,0,0) h->I0 [0,1,2,13,14,15,16] 2 (JN A B as h (p+1)) τ:=λH D τ e h1 h2=>
  ⟨_,zX e (by rfl) (gL (by decide) (gE (c:=.list (D.map vT)) (jD (BY _))) (gL (by decide) (gE (O 2)) kW)),[],H,D,.inl rfl,rfl,h1,h2⟩
 have L:∀(a b c:Nat),(decide ((a:Int)+(b:Int)=(c:Int)))=decide (a+b=c):=λa b c=>decide_eq_decide.mpr (E7 (m:=a+b));rcases T with rfl|rfl;all_goals
  refine ⟨_,rfl,?_⟩;unfold H6;refine rG (lL (jV (b:=decide (i+d=f)) (lP (cQ (cQ (bS rfl) (bS rfl) rfl) (bS rfl) ((Ng _ _ _).trans (by rw [L])))) ?_));have N:¬(i+d=f/\j+d=g)->∀s:St,(s=⟨(0,.inst 0)::(1,vN (aC A))::(2,vN (aC B))::([]++[(13,vN i),(14,vN j),(15,vN d),(16,.ref 1),(17,vN f),(18,vN g),(19,vN tk)]),[(1,.list (out.map vT)),(0,.attrs as)],2⟩\/s=⟨(0,.inst 0)::(1,vN (aC A))::(2,vN (aC B))::([(4,V.lst (h.map pB))]++[(13,vN i),(14,vN j),(15,vN d),(16,.ref 1),(17,vN f),(18,vN g),(19,vN tk)]),[(1,.list (out.map vT)),(0,.attrs as)],2⟩)->
    Go ((eU (yF (yY (aP 15)) (xP (zW gT (aP 16) (aS (kC (aS (aP 13) (aS (aP 14) (aS (aP 15) bP)))) bP))) (nA .next)) (rT [0,1,2,16,17,18,19] (fU (kC (aS (aP 17) (aS (aP 18) (aS (aP 19) bP)))) (Zd [cG 15,cG 14,cG 13])))) 2 s) (xI [0,1,2,13,14,15,16] 2 (JN A B as h (p+1)) (λ_=>False) (λ_ _=>False)):=λX s o=>by
   rw [if_neg X]at y;have F:lk s.loc 15=aG (vN d):=by rcases o with rfl|rfl<;>rfl
   refine cP (rG (jV (b:=decide (d≠0)) (τ:=s) (Gg (v:=vN d) (bS F) ?_) ?_))
   .show aG ((d:Int) != 0)=_
    congr 1
    by_cases C:d=0
    .subst C;rfl
    .simp [C]
   by_cases C:d=0
   .rw [iO (by simpa using C)];rw [if_pos C]at y;refine kI ?_;refine gF (σ':=⟨[(0,.inst 0),(1,vN (aC A)),(2,vN (aC B)),(16,.ref 1),(17,vN f),(18,vN g),(19,vN tk)],[(1,.list (out.map vT)),(0,.attrs as)],2⟩) (by rcases o with rfl|rfl<;>rfl) ?_;exact eS (v:=vT (f,g,tk)) (nV (bH (bS rfl) (bH (bS rfl) (bH (bS rfl) cW))) Fu) rfl (I (f,g,tk) out _ rfl (by exact aT Pv G) y)
   .rw [lK C];rw [if_neg C]at y;refine rH (τ:={s with cells:=[(1,.list ((out++[(i,j,d)]).map vT)),(0,.attrs as)]}) (xR (u:=.ref 1) (us:=[vT (i,j,d)]) (l:=out.map vT) (τ:=s) (τ':=s) (bS (by rcases o with rfl|rfl<;>rfl)) (by rcases o with rfl|rfl<;>rfl) (bH (nV (bH (bS (by rcases o with rfl|rfl<;>rfl)) (bH (bS (by rcases o with rfl|rfl<;>rfl)) (bH (bS F) cW))) Fu) cW) ((lQ (l:=out.map vT) (by rcases o with rfl|rfl<;>rfl) (by simp;exact aT 0x3718a4225006918978c6318c70c156307004 P (rfl:lim=1048576) G J)).trans (by rw [dK];rcases o with rfl|rfl<;>rfl))) ?_;refine gF (σ':=⟨[(0,.inst 0),(1,vN (aC A)),(2,vN (aC B)),(16,.ref 1),(17,vN f),(18,vN g),(19,vN tk)],[(1,.list ((out++[(i,j,d)]).map vT)),(0,.attrs as)],2⟩) (by rcases o with rfl|rfl<;>rfl) ?_;refine eS (v:=vT (f,g,tk)) (nV (bH (bS rfl) (bH (bS rfl) (bH (bS rfl) cW))) Fu) rfl ?_;refine I (f,g,tk) (out++[(i,j,d)]) _ rfl (by simp;exact aT Ys G) ?_;rw [dM];exact y
  by_cases c1:i+d=f
  .rw [lK c1];refine lL (jV (b:=decide (j+d=g)) (lP (cQ (cQ (bS rfl) (bS rfl) rfl) (bS rfl) ((Ng _ _ _).trans (by rw [L])))) ?_);by_cases c2:j+d=g
   .rw [lK c2];refine T5 ?_;show Go _ _;rw [if_pos ⟨c1,c2⟩]at y;exact GY (old:=vN d) (v:=vN tk) (r:=vN (d+tk)) rfl (bS rfl) Vb (I (i,j,d+tk) out _ rfl (by exact aT Pv G) y)
   .rw [iO c2];exact N (λz=>c2 z.2) _ (by first|exact .inl rfl|exact .inr rfl)
  .rw [iO c1];exact N (λz=>c1 z.1) _ (by first|exact .inl rfl|exact .inr rfl)
def OT:∀l:jU,qS DZ (l.map vT)=aG (l.map pB):=by
 intro x0
 induction x0 with
 |nil=>exact rfl
 |cons t r a=>rw [cE];simp only [Cq,At];rw [a];rfl
def Qp:∀(d:jU)(c:T3),(tO c d).length<=aC d+1:=by
 intro z1
 induction z1 with
 |nil=>intro z2;obtain ⟨i,j,k⟩:=z2;simp only [F3,F1];split<;>simp
 |cons z3 r a=>
  obtain ⟨e,f,b⟩:=z3;intro g;obtain ⟨i,j,k⟩:=g;simp only [F3,F1];split
  .have:=a (i,j,k+b);simp;exact aT UB this
  .split
   .have:=a (e,f,b);simp;exact aT UB this
   .have:=a (e,f,b);simp;exact aT 0xc62941c204a0e1002 this
def ZR:Yn A B=tO (0,0,0) (bl A B (0,aC A,0,aC B))++[(aC A,aC B,0)]:=rfl
def QI(h:Uv A B as)(Z:pK as (aF "matching_blocks")=aG .none)(D:aC A<200)(R:aC B<200)(y:(bl A B (0,aC A,0,aC B)).length<64):
  Go (HO (RP A B) 1 ⟨[(0,.inst 0)],[(0,.attrs as)],1⟩) λf τ=>f=.ret (qK A B)/\lk τ.cells 0=aG (.attrs (iW (aF "matching_blocks") (qK A B) as)):=by
 have G:lim=1048576:=rfl;have T:∀k,Eo k (.attrs as)=true:=λk=>Ef h.pure;let s0:St:=⟨[(0,.inst 0)],[(0,.attrs as)],1⟩;refine (?_:Go (HO (RP A B) 1 s0) _);refine cP (Tx (cP (M9 (τ:=s0) (lP (cQ (pJ (bS rfl) rfl Z rfl) rfl rfl)) (kI (gF (σ':=s0) rfl ?_)))));let s1:St:=⟨[(0,.inst 0),(1,vN (aC A)),(2,vN (aC B))],[(0,.attrs as)],1⟩;refine cP (eS (v:=.tup [vN (aC A),vN (aC B)]) (τ:=s0) (τ':=⟨[(0,.inst 0),(2,vN (aC B)),(1,vN (aC A))],[(0,.attrs as)],1⟩) (nV (bH (iK (bH (pJ (bS rfl) rfl h.a rfl) cW) (No A D _)) (bH (iK (bH (pJ (bS rfl) rfl h.b rfl) cW) (No B R _)) cW)) (by refine (?_:(2:Nat)<=1048576);simp)) rfl ?_);refine cP (eS (v:=.ref 1) (τ:=⟨[(0,.inst 0),(2,vN (aC B)),(1,vN (aC A))],[(1,.list [vQ (0,aC A,0,aC B)]),(0,.attrs as)],2⟩) (wB (τ:=⟨[(0,.inst 0),(2,vN (aC B)),(1,vN (aC A))],[(0,.attrs as)],1⟩) (vs:=[vQ (0,aC A,0,aC B)]) (bH (v:=vQ (0,aC A,0,aC B)) (nV (bH (v:=vN 0) rfl (bH (v:=vN (aC A)) (bS rfl) (bH (v:=vN 0) rfl (bH (v:=vN (aC B)) (bS rfl) cW)))) lm4) cW) lm1) rfl ?_);refine cP (eS (v:=.ref 2) (wB cW lm0) rfl (gF (σ':=sQ A B as [(0,aC A,0,aC B)] []) rfl ?_));have wl:Go (tP [0,1,2,3,4] (yY (aP 3)) (C2 (RP A B)) 1 (sQ A B as [(0,aC A,0,aC B)] [])) λf τ=>f=.next/\∃a:jU,a.Perm (bl A B (0,aC A,0,aC B))/\τ=sQ A B as [] a:=by
  refine Ht (JQ A B as) (2*aC A+1) (by show _<1048576;exact aT 0x125156318c631c320f0068cac6766001 D) (by show (1:Nat)<=3;decide) ⟨_,_,rfl,λe he=>?_,?_,by exact aT 0x12514f3df320f0068cac6766001 D,?_⟩ (λm τ H=>HA (P:=λf τ=>f=.next/\∃a:jU,a.Perm (bl A B (0,aC A,0,aC B))/\τ=sQ A B as [] a) h D R y H (λa I=>⟨rfl,a,I,rfl⟩))
  .rw [aM.mp he];exact ⟨bI _,bG _,bI _,bG _⟩
  .simp [mu]
  .simp
 refine cP (wl.mono ?_);rintro _ _ ⟨rfl,a,I,rfl⟩;show Go _ _;let J:St:=⟨[(0,.inst 0),(1,vN (aC A)),(2,vN (aC B)),(4,.ref 2)],[(2,.list (a.map pB)),(1,.list []),(0,.attrs as)],3⟩;refine gF (σ':=J) rfl ?_;unfold Qx;have wd:aBz (λt u:T3=>t.1<u.1) (bl A B (0,aC A,0,aC B)):=Uj _ _ _ _ _;generalize L:bl A B (0,aC A,0,aC B)=c at *;let s3:St:=⟨[(0,.inst 0),(1,vN (aC A)),(2,vN (aC B)),(4,.ref 2)],[(2,.list (c.map pB)),(1,.list []),(0,.attrs as)],3⟩;refine cP (rH (τ:=s3) (xR (u:=.ref 2) (τ:=J) (τ':=J) (us:=[]) (l:=a.map pB) (bS rfl) rfl cW (by show ob (Ep kMt (a.map pB)) _=_;rw [X5 I wd y];rfl)) ?_);let s4:St:=⟨[(0,.inst 0),(1,vN (aC A)),(2,vN (aC B)),(4,.lst (c.map pB))],[(0,.attrs as)],1⟩;refine Tv (σ':=s4) (Ni (cL rfl (cL rfl (cL rfl (cL (wQ (by decide) rfl (Cn _)) rfl)))) (pU (by decide) (pU (by decide) (gL (by decide) (gE (T 1)) kW)))) (cP (eS rfl rfl ?_));refine cP (eS (v:=.ref 1) (wB cW lm0) rfl (gF (σ':=sN A B as [(4,.lst (c.map pB))] (0,0,0) []) rfl (cP (pL (λ_=>False) (JN A B as c) (ds:=c.map pB) (τ:=sN A B as [(4,.lst (c.map pB))] (0,0,0) []) (qC (bS rfl) (Cn _)) (jW _) ⟨_,_,_,.inr rfl,rfl,bG _,rfl⟩ (λi xf v z H=>?_) (λτ' hd=>?_)))))
 .rw [dL]at z
  cases N:c[i]? with
  |none=>rw [N]at z;exact gG z
  |some t=>rw [N]at z;refine pH z ?_;rintro rfl;obtain ⟨τ',e,g⟩:=HB T y N H;refine ⟨τ',e,g.mono λf τ p=>?_⟩;cases f<;>first|exact p|exact p.elim
 .obtain ⟨x,⟨O,Q,d⟩,out,hx,rfl,W,r⟩:=hd.resolve_right id;rw [bB]at W r;rw [qI,HD]at r;show Go _ _;refine gF (σ':=sN A B as [] (O,Q,d) out) (by rcases hx with rfl|rfl<;>rfl) ?_;unfold Qw;have yH:∀(o:jU),o=tO (0,0,0) c->∀s:St,AG [0,1,2,16] s=⟨[(0,.inst 0),(1,vN (aC A)),(2,vN (aC B)),(16,.ref 1)],[(1,.list (o.map vT)),(0,.attrs as)],2⟩->Go ((rT [0,1,2,16] (eU (xP (zW gT (aP 16) (aS (kC (aS (aP 1) (aS (aP 2) (aS (gK (.int 0)) bP)))) bP))) (eU (fU (HM (aP 16)) (E0 (aF "matching_blocks") (aP 0))) (tQ (tX (aF "matching_blocks") (aP 0)))))) 1 s) λf τ=>f=.ret (qK A B)/\lk τ.cells 0=aG (.attrs (iW (aF "matching_blocks") (qK A B) as)):=λo X s hs=>by
   have Y:o.length<=65:=by rw [X];have:=Qp c (0,0,0);exact aT 0x38c539c1c2941c0156307002 y this
   refine gF hs ?_;have C:qK A B=.lst ((o++[(aC A,aC B,0)]).map pB):=by unfold qK;rw [ZR,L,X]
   let F:St:=⟨[(0,.inst 0),(1,vN (aC A)),(2,vN (aC B)),(16,.ref 1)],[(1,.list ((o++[(aC A,aC B,0)]).map vT)),(0,.attrs as)],2⟩;refine cP (rH (τ:=F) (xR (u:=.ref 1) (us:=[vT (aC A,aC B,0)]) (l:=o.map vT) (bS rfl) rfl (bH (nV (bH (bS rfl) (bH (bS rfl) (bH rfl cW))) Fu) cW) ((lQ (l:=o.map vT) rfl (by simp;exact aT 0x2c62900539c1c2bc6318c6386002 G Y)).trans (by simp only [F,dK];rfl))) (cP (eS (v:=qK A B) (τ:=F) (τ':=⟨[(0,.inst 0),(1,vN (aC A)),(2,vN (aC B)),(16,.ref 1)],[(1,.list ((o++[(aC A,aC B,0)]).map vT)),(0,.attrs (iW (aF "matching_blocks") (qK A B) as))],2⟩) ?_ (XK (i:=0) (bS rfl) rfl) ?_)))
   .rw [C];exact ł (τ:=F) (u:=.ref 1) (bS rfl) rfl (OT _) (by simp;exact aT 0xb18a40838539c1c2bc6318c6386002 G Y)
   .exact zT (pJ (n:=0) (bS rfl) rfl (by rw [lE,if_pos rfl]) (by rw [C];rfl)) ⟨rfl,rfl⟩
  refine cP (rG (jV (b:=decide (d≠0)) (Gg (v:=vN d) (bS rfl) ?_) ?_))
  .show aG ((d:Int) != 0)=_
   congr 1
   by_cases j:d=0
   .subst j;rfl
   .simp [j]
  by_cases j:d=0
  .rw [iO (by simpa using j)];rw [if_pos j,dI]at r;exact kI (yH out r _ rfl)
  .rw [lK j];rw [if_neg j]at r;refine rH (xR (u:=.ref 1) (us:=[vT (O,Q,d)]) (l:=out.map vT) (bS rfl) rfl (bH (nV (bH (bS rfl) (bH (bS rfl) (bH (bS rfl) cW))) Fu) cW) (lQ (l:=out.map vT) rfl (by simp;exact aT 0x2e314804908958c1c2bc6318c6386003 G y W))) (yH (out++[(O,Q,d)]) r _ ?_);rw [dK];rfl
def GZ(b:∀p∈as,p.2.pure=aU)(a:pK as (aF "matching_blocks")=aG (qK A B)):
  Go (HO (RP A B) 1 ⟨[(0,.inst 0)],[(0,.attrs as)],1⟩) λf τ=>f=.ret (qK A B)/\lk τ.cells 0=aG (.attrs as):=by
 let s0:St:=⟨[(0,.inst 0)],[(0,.attrs as)],1⟩;refine (?_:Go (HO (RP A B) 1 s0) _);exact cP (Tx (cP (Ú (τ:=s0) (lP (cQ (pJ (bS rfl) rfl a rfl) rfl rfl)) (zT (pJ (bS rfl) rfl a rfl) ⟨rfl,rfl⟩))))
end
section
variable{n:Nat}
def pC(A B:bE):(qK A B).pure=true:=Cn _
end
noncomputable def Cg:lT:=[aF "side",aF "base",aF "runs",aF "i",aF "j",aF "size",aF "kept",aF "minus",aF "ahead",aF "behind"]
def kK(P:fK):lH (kN MineH.o251v0) Cg:=.ofC [aF "i",aF "j",aF "minus"] (by kernel_rfl) (fA ⟨by kernel_rfl,λL=>by kernel_rfl⟩ (fA ⟨by kernel_rfl,λL=>by kernel_rfl⟩ (fA ⟨by kernel_rfl,λL=>by kernel_rfl⟩ (λ_ h=>nomatch h))))
def Bh:Nat->M Fl:=(eU (T8 5 Qv (gK (.int 1))) (xP (zW gT (aP 2) (aS (kC (aS (yE (aP 5)) (aS (aP 3) (aS (aP 4) bP)))) bP))))
def wE:Nat->M Fl:=(eU (fU (gK (.int 0)) (cG 5)) (rT [0,1,2,3,4,5,7] (tP [0,1,2,3,4,5,7] (kJ (gM (bJ Jr (bJ fF (aP 3) (aP 5)) (eV oG (aS (aP 0) bP)))) (kJ (gM (bJ Jr (bJ fF (aP 4) (aP 5)) (eV oG (aS (aP 1) bP)))) (kJ (gM (bJ D8 (bJ fT (aP 0) (bJ fF (aP 3) (aP 5))) (bJ fT (aP 1) (bJ fF (aP 4) (aP 5))))) (λσ=>aG (aU,σ))))) (Bh))))
def wF:Nat->M Fl:=(rT [0,1,2,3,4,7] (vI [0,1,2,3,4,7] (gH (aS (eV oG (aS (aP 1) bP)) bP)) (cG 4) (wE)))
def wD:Nat->M Fl:=(eU (fU (D9 6 (Ol [(cG 100),(cG 101),(cG 102)]) (λσ=>yQ (kJ (gM (bJ LD (bJ oE (uX σ 3) (uX σ 7)) (aP 101))) (kJ (gM (bJ LD (bJ oE (uX σ 4) (uX σ 7)) (aP 102))) (λσ=>aG (aU,σ)))) (kD (gK (.int 1))))) (cG 8)) (eU (fU (D9 6 (Ol [(cG 100),(cG 101),(cG 102)]) (λσ=>yQ (kJ (gM (bJ LD (bJ oE (aP 101) (aP 100)) (uX σ 3))) (kJ (gM (bJ LD (bJ oE (aP 102) (aP 100)) (uX σ 4))) (λσ=>aG (aU,σ)))) (kD (gK (.int 1))))) (cG 9)) (yF (gM (bJ D8 (bJ fF (eV oG (aS (aP 8) bP)) (eV oG (aS (aP 9) bP))) (eV oG (aS (aP 6) bP)))) (xP (zW gT (aP 6) (aS (kC (aS (aP 7) (aS (aP 3) (aS (aP 4) bP)))) bP))) (nA .next))))
def Jo:Nat->M Fl:=(Zg (tQ (Ig ŭ 100 (lG (aP 6)) (Ol [(cG 100),(cG 101),(cG 102)]) (Kz (gH (aS (yE (aP 100)) bP)) (cG 103) (B0 (bJ fF (aP 102) (aP 103)) (bJ fF (aP 101) (aP 103)))))))
def Bg:Nat->M Fl:=(eU (fU (kR bP) (cG 6)) (rT [2,3,4,6,7] (eU (vI [3,4,6,7] (lG (eV Iv (aS (aP 2) bP))) (Ol [(cG 7),(cG 3),(cG 4)]) (wD)) (rT [3,4,6,7] (Jo)))))
def Hy:Nat->M Fl:=(eU (fU (kR bP) (cG 2)) (rT [0,1,2,3,4,7] (eU (vI [0,1,2,3,4,7] (gH (aS (eV oG (aS (aP 0) bP)) bP)) (cG 3) (wF)) (rT [2,3,4,7] (Bg)))))
def Qj{n:Nat}{L:cR}(G:Gd):Fd (n) (vH (kN MineH.o251v0) L 251 Cg) (cH (at_ [7])) (Hy):=by have T:=(kK w.params).tab L 251;exact (bM (eQ (jT bF) (lg T 2) rfl rfl rfl) (fB T.fk (bM (mM T.fk (rl (G.f T.fk oJ) (ln (G.f T.fk oK) (lc T 0))) (lg T 3) (fB T.fk (dE (mM T.fk (rl (G.f T.fk oJ) (ln (G.f T.fk oK) (lc T 1))) (lg T 4) (bM (eQ bT (lg T 5) rfl rfl rfl) (fB T.fk (dE (uJ T.fk (lS (fJ (dU sD (bQ dJ (lc T 3) (lc T 5)) (ln (G.f T.fk oK) (lc T 0)) rfl) (fJ (dU sD (bQ dJ (lc T 4) (lc T 5)) (ln (G.f T.fk oK) (lc T 1)) rfl) (fJ (dU sE (ix (lc T 0) (bQ dJ (lc T 3) (lc T 5))) (ix (lc T 1) (bQ dJ (lc T 4) (lc T 5))) rfl) mS)))) (bM (Hm T (aJ (i:=5) rfl) H4 bT) (dE (eZ rfl rfl (la T.fk (lc T 2) (by refine dQ ?_;exact (ic (vW (lc T 5)) (ic (lc T 3) (ic (lc T 4) bF)))))))))))) λ_=>rfl))) λ_=>rfl) (fB T.fk (bM (eQ (jT bF) (lg T 6) rfl rfl rfl) (fB T.fk (bM (mM T.fk (qE (cl (G.f T.fk HI) Pc (ic (lc T 2) bF))) (mR (eX (lg T 7) (eX (lg T 3) (ig (lg T 4) lR) rfl) rfl)) (bM (Qm (base:=100) (names:=[aF "less",aF "p",aF "q"]) (yi:=6) T (aJ (i:=6) rfl) (by decide) rfl (aJ (i:=8) rfl) (by decide) (by decide) (λ_=>rfl) rfl rfl rfl rfl (.cons rfl (.cons rfl (.cons rfl .nil))) (λS C T1=>(mR (eX (lg T1 0) (eX (lg T1 1) (ig (lg T1 2) lR) rfl) rfl))) (λX D σ h m C T1=>(lS (fJ (dU Nd (bQ iE (wZ T (aJ (i:=3) rfl) rfl m rfl rfl rfl (by decide) rfl) (wZ T (aJ (i:=7) rfl) rfl m rfl rfl rfl (by decide) rfl)) (lc T1 1) rfl) (fJ (dU Nd (bQ iE (wZ T (aJ (i:=4) rfl) rfl m rfl rfl rfl (by decide) rfl) (wZ T (aJ (i:=7) rfl) rfl m rfl rfl rfl (by decide) rfl)) (lc T1 2) rfl) mS)))) (λS C T1=>bT)) (bM (Qm (base:=100) (names:=[aF "less",aF "p",aF "q"]) (yi:=6) T (aJ (i:=6) rfl) (by decide) rfl (aJ (i:=9) rfl) (by decide) (by decide) (λ_=>rfl) rfl rfl rfl rfl (.cons rfl (.cons rfl (.cons rfl .nil))) (λS C T1=>(mR (eX (lg T1 0) (eX (lg T1 1) (ig (lg T1 2) lR) rfl) rfl))) (λX D σ h m C T1=>(lS (fJ (dU Nd (bQ iE (lc T1 1) (lc T1 0)) (wZ T (aJ (i:=3) rfl) rfl m rfl rfl rfl (by decide) rfl) rfl) (fJ (dU Nd (bQ iE (lc T1 2) (lc T1 0)) (wZ T (aJ (i:=4) rfl) rfl m rfl rfl rfl (by decide) rfl) rfl) mS)))) (λS C T1=>bT)) (dE (jS (dU sE (bQ dJ (ln (G.f T.fk oK) (lc T 8)) (ln (G.f T.fk oK) (lc T 9))) (ln (G.f T.fk oK) (lc T 6)) rfl) (dE (eZ rfl rfl (la T.fk (lc T 6) (by refine dQ ?_;exact (ic (lc T 7) (ic (lc T 3) (ic (lc T 4) bF))))))) iD)))) λ_=>rfl) (fB T.fk (M5 T.fk (dE (nN (Ö (base:=100) (names:=[aF "minus",aF "i",aF "j",aF "t"]) (cap:=[]) T (pE (by decide)) (by decide) (by decide) (λ_=>rfl) (λ_ _=>rfl) rfl rfl rfl rfl .nil (.cons rfl (.cons rfl (.cons rfl (.cons rfl .nil)))) (qE (lc T 6)) (λC T1=>(mR (eX (lg T1 0) (eX (lg T1 1) (ig (lg T1 2) lR) rfl) rfl))) (λC T1=>(rl (G.f T1.fk oJ) (vW (lc T1 0)))) (λC T1=>(lg T1 3)) (λC T1=>(bQ dJ (lc T1 2) (lc T1 3))) (λC T1=>(bQ dJ (lc T1 1) (lc T1 3)))))))))))))))
noncomputable def Ci:lT:=[aF "rows"]
def bU(P:fK):lH (kN MineH.o256v0) Ci:=.of (by kernel_rfl)
def H0:Nat->M Fl:=(tQ (lI 100 (lG (aP 0)) (cG 100) (kD (kC (aS (pW (aS (aP 100) bP)) (aS (pW (aS (aP 100) bP)) (aS (pW (aS (aP 100) bP)) bP)))))))
def Ql{n:Nat}{L:cR}(G:Gd):Fd (n) (vH (kN MineH.o256v0) L 256 Ci) (cH (at_ [8])) (H0):=by have T:=(bU w.params).tab L 256;exact (dE (nN (M6 (base:=100) (names:=[aF "row"]) (cap:=[]) T (pE (by decide)) (by decide) (by decide) (λ_=>rfl) rfl rfl rfl rfl .nil (.cons rfl .nil) (qE (lc T 0)) (λC T1=>(lg T1 0)) (λC T1=>(by refine dQ ?_;exact (ic (kB (ic (lc T1 0) bF)) (ic (kB (ic (lc T1 0) bF)) (ic (kB (ic (lc T1 0) bF)) bF))))))))
noncomputable def Cf:lT:=[aF "base",aF "ours",aF "theirs",aF "first",aF "second",aF "told",aF "o",aF "p",aF "q",aF "k"]
def cV(P:fK):lH (kN MineH.o263v0) Cf:=.of (by kernel_rfl)
def Bf(kK bU:mU):Nat->M Fl:=(yF (kJ (gM (bJ QN (aP 9) (aP 3))) (kJ (gM (bJ QN (aP 9) (aP 4))) (λσ=>aG (aU,σ)))) (eU (yF (gM (bJ W1 (kC (aS (aP 6) (aS (aP 7) (aS (aP 8) bP)))) (kC (aS (aP 9) (aS (bJ Bi (aP 3) (aP 9)) (aS (bJ Bi (aP 4) (aP 9)) bP)))))) (xP (zW gT (aP 5) (aS (kC (aS (mH (aP 0) (kH (aP 6)) (kH (aP 9))) (aS (mH (aP 1) (kH (aP 7)) (kH (bJ Bi (aP 3) (aP 9)))) (aS (mH (aP 2) (kH (aP 8)) (kH (bJ Bi (aP 4) (aP 9)))) bP)))) bP))) (nA .next)) (rT [0,1,2,3,4,5,9] (eU (xP (zW Ay (aP 5) (aS (eV bU (aS (pW (aS (bJ fT (aP 0) (aP 9)) bP)) bP)) bP))) (fU (kC (aS (bJ fF (aP 9) (gK (.int 1))) (aS (bJ fF (bJ Bi (aP 3) (aP 9)) (gK (.int 1))) (aS (bJ fF (bJ Bi (aP 4) (aP 9)) (gK (.int 1))) bP)))) (Zd [cG 8,cG 7,cG 6]))))) (nA .next))
def Jn(kK bU:mU):Nat->M Fl:=(eU (yF (gM (bJ W1 (kC (aS (aP 6) (aS (aP 7) (aS (aP 8) bP)))) (kC (aS (eV oG (aS (aP 0) bP)) (aS (eV oG (aS (aP 1) bP)) (aS (eV oG (aS (aP 2) bP)) bP)))))) (xP (zW gT (aP 5) (aS (kC (aS (mH (aP 0) (kH (aP 6)) uV) (aS (mH (aP 1) (kH (aP 7)) uV) (aS (mH (aP 2) (kH (aP 8)) uV) bP)))) bP))) (nA .next)) (rT [5] (tQ (aP 5))))
def Hw(kK bU:mU):Nat->M Fl:=(eU (fU (kC (aS (eV kK (aS (aP 1) (aS (aP 0) bP))) (aS (eV kK (aS (aP 2) (aS (aP 0) bP))) bP))) (Zd [cG 4,cG 3])) (eU (fU (kR bP) (cG 5)) (eU (fU (gK (.int 0)) (Fb [(cG 6),(cG 7),(cG 8)])) (rT [0,1,2,3,4,5,6,7,8] (eU (vI [0,1,2,3,4,5,6,7,8] (gH (aS (eV oG (aS (aP 0) bP)) bP)) (cG 9) (Bf kK bU)) (rT [0,1,2,5,6,7,8] (Jn kK bU)))))))
def Qi{n:Nat}{L:cR}(G:Gd){kK:mU}(a:∀F,A0 (n) F (.ref 251) kK){bU:mU}(b:∀F,A0 (n) F (.ref 256) bU):Fd (n) (vH (kN MineH.o263v0) L 263 Cf) (cH (at_ [9])) (Hw kK bU):=by have T:=(cV w.params).tab L 263;exact (bM (oX (dQ (ic (cl (G.f T.fk Ey) (a _) (ic (lc T 1) (ic (lc T 0) bF)) (.inr (.inr ⟨251,_,_,rfl,G.K 251 MineH.o251v0 (by kernel_rfl),rfl⟩))) (ic (cl (G.f T.fk Ey) (a _) (ic (lc T 2) (ic (lc T 0) bF)) (.inr (.inr ⟨251,_,_,rfl,G.K 251 MineH.o251v0 (by kernel_rfl),rfl⟩))) bF))) (gJ T (aJ (i:=4) rfl) (gJ T (aJ (i:=3) rfl) qD)) rfl rfl) (bM (eQ (jT bF) (lg T 5) rfl rfl rfl) (bM (oA bT (.cons (lg T 6) (.cons (lg T 7) (.cons (lg T 8) .nil))) rfl rfl rfl) (fB T.fk (bM (mM T.fk (rl (G.f T.fk oJ) (ln (G.f T.fk oK) (lc T 0))) (lg T 9) (dE (jS (lS (fJ (dU W2 (lc T 9) (lc T 3) rfl) (fJ (dU W2 (lc T 9) (lc T 4) rfl) mS))) (bM (jS (dU D6 (by refine dQ ?_;exact (ic (lc T 6) (ic (lc T 7) (ic (lc T 8) bF)))) (by refine dQ ?_;exact (ic (lc T 9) (ic (qF (xB λ_ _=>rfl) (lc T 3) (lc T 9)) (ic (qF (xB λ_ _=>rfl) (lc T 4) (lc T 9)) bF)))) rfl) (dE (eZ rfl rfl (la T.fk (lc T 5) (by refine dQ ?_;exact (ic (kX (lc T 0) (iM (lc T 6)) (iM (lc T 9))) (ic (kX (lc T 1) (iM (lc T 7)) (iM (qF (xB λ_ _=>rfl) (lc T 3) (lc T 9)))) (ic (kX (lc T 2) (iM (lc T 8)) (iM (qF (xB λ_ _=>rfl) (lc T 4) (lc T 9)))) bF))))))) iD) (fB T.fk (bM (eZ rfl rfl (le T.fk (lc T 5) (cl (G.f T.fk vY) (b _) (ic (kB (ic (ix (lc T 0) (lc T 9)) bF)) bF) (.inr (.inr ⟨256,_,_,rfl,G.K 256 MineH.o256v0 (by kernel_rfl),rfl⟩))))) (dE (oX (dQ (ic (bQ dJ (lc T 9) bT) (ic (bQ dJ (qF (xB λ_ _=>rfl) (lc T 3) (lc T 9)) bT) (ic (bQ dJ (qF (xB λ_ _=>rfl) (lc T 4) (lc T 9)) bT) bF)))) (gJ T (aJ (i:=8) rfl) (gJ T (aJ (i:=7) rfl) (gJ T (aJ (i:=6) rfl) qD))) rfl rfl))))) iD)) λ_=>rfl) (fB T.fk (bM (jS (dU D6 (by refine dQ ?_;exact (ic (lc T 6) (ic (lc T 7) (ic (lc T 8) bF)))) (by refine dQ ?_;exact (ic (ln (G.f T.fk oK) (lc T 0)) (ic (ln (G.f T.fk oK) (lc T 1)) (ic (ln (G.f T.fk oK) (lc T 2)) bF)))) rfl) (dE (eZ rfl rfl (la T.fk (lc T 5) (by refine dQ ?_;exact (ic (kX (lc T 0) (iM (lc T 6)) wY) (ic (kX (lc T 1) (iM (lc T 7)) wY) (ic (kX (lc T 2) (iM (lc T 8)) wY) bF))))))) iD) (fB T.fk (dE (nN (lc T 5)))))))))))
noncomputable def Bc:lT:=[aF "base",aF "ours",aF "theirs",aF "first",aF "second",aF "told",aF "o",aF "p",aF "q",aF "x",aF "y",aF "begin",aF "end",aF "i",aF "j"]
def cO(P:fK):lH (kN MineH.o270v0) Bc:=.of (by kernel_rfl)
def uU(bU:mU):Nat->M Fl:=(eU (fU (kC (aS (eV ù (aS (oF 1 (aP 9)) (aS (oF 1 (aP 10)) bP))) (aS (eV ø (aS (bJ fF (oF 1 (aP 9)) (oF 2 (aP 9))) (aS (bJ fF (oF 1 (aP 10)) (oF 2 (aP 10))) bP))) bP))) (Zd [cG 12,cG 11])) (yF (gM (bJ Jr (aP 11) (aP 12))) (eU (fU (kC (aS (bJ oE (bJ fF (oF 0 (aP 9)) (aP 11)) (oF 1 (aP 9))) (aS (bJ oE (bJ fF (oF 0 (aP 10)) (aP 11)) (oF 1 (aP 10))) bP))) (Zd [cG 14,cG 13])) (eU (yF (gM (bJ W1 (kC (aS (aP 6) (aS (aP 7) (aS (aP 8) bP)))) (kC (aS (aP 11) (aS (aP 13) (aS (aP 14) bP)))))) (xP (zW gT (aP 5) (aS (kC (aS (mH (aP 0) (kH (aP 6)) (kH (aP 11))) (aS (mH (aP 1) (kH (aP 7)) (kH (aP 13))) (aS (mH (aP 2) (kH (aP 8)) (kH (aP 14))) bP)))) bP))) (nA .next)) (rT [0,1,2,4,5,9,11,12,13,14] (eU (xP (zW Ay (aP 5) (aS (eV bU (aS (mH (aP 0) (kH (aP 11)) (kH (aP 12))) bP)) bP))) (fU (kC (aS (aP 12) (aS (bJ oE (bJ fF (aP 13) (aP 12)) (aP 11)) (aS (bJ oE (bJ fF (aP 14) (aP 12)) (aP 11)) bP)))) (Zd [cG 8,cG 7,cG 6])))))) (nA .next)))
def zU(bU:mU):Nat->M Fl:=(rT [0,1,2,4,5,6,7,8,9] (vI [0,1,2,4,5,6,7,8,9] (lG (aP 4)) (cG 10) (uU bU)))
def Hx(bU:mU):Nat->M Fl:=(eU (yF (gM (bJ W1 (kC (aS (aP 6) (aS (aP 7) (aS (aP 8) bP)))) (kC (aS (eV oG (aS (aP 0) bP)) (aS (eV oG (aS (aP 1) bP)) (aS (eV oG (aS (aP 2) bP)) bP)))))) (xP (zW gT (aP 5) (aS (kC (aS (mH (aP 0) (kH (aP 6)) uV) (aS (mH (aP 1) (kH (aP 7)) uV) (aS (mH (aP 2) (kH (aP 8)) uV) bP)))) bP))) (nA .next)) (rT [5] (tQ (aP 5))))
def Ew(bU:mU):Nat->M Fl:=(eU (fU (kR bP) (cG 5)) (eU (fU (gK (.int 0)) (Fb [(cG 6),(cG 7),(cG 8)])) (rT [0,1,2,3,4,5,6,7,8] (eU (vI [0,1,2,4,5,6,7,8] (lG (aP 3)) (cG 9) (zU bU)) (rT [0,1,2,5,6,7,8] (Hx bU))))))
def M4{n:Nat}{L:cR}(G:Gd){bU:mU}(a:∀F,A0 (n+2) F (.ref 256) bU):Fd (n+2) (vH (kN MineH.o270v0) L 270 Bc) (cH (at_ [10])) (Ew bU):=by have T:=(cO w.params).tab L 270;exact (bM (eQ (jT bF) (lg T 5) rfl rfl rfl) (bM (oA bT (.cons (lg T 6) (.cons (lg T 7) (.cons (lg T 8) .nil))) rfl rfl rfl) (fB T.fk (bM (mM T.fk (qE (lc T 3)) (lg T 9) (fB T.fk (dE (mM T.fk (qE (lc T 4)) (lg T 10) (bM (oX (dQ (ic (cl (G.f T.fk aAq) NL (ic (Zv G (lc T 9)) (ic (Zv G (lc T 10)) bF))) (ic (cl (G.f T.fk WB) NK (ic (bQ dJ (Zv G (lc T 9)) (Xl G (lc T 9))) (ic (bQ dJ (Zv G (lc T 10)) (Xl G (lc T 10))) bF))) bF))) (gJ T (aJ (i:=12) rfl) (gJ T (aJ (i:=11) rfl) qD)) rfl rfl) (dE (jS (dU sD (lc T 11) (lc T 12) rfl) (bM (oX (dQ (ic (bQ iE (bQ dJ (aBd G (lc T 9)) (lc T 11)) (Zv G (lc T 9))) (ic (bQ iE (bQ dJ (aBd G (lc T 10)) (lc T 11)) (Zv G (lc T 10))) bF))) (gJ T (aJ (i:=14) rfl) (gJ T (aJ (i:=13) rfl) qD)) rfl rfl) (bM (jS (dU D6 (by refine dQ ?_;exact (ic (lc T 6) (ic (lc T 7) (ic (lc T 8) bF)))) (by refine dQ ?_;exact (ic (lc T 11) (ic (lc T 13) (ic (lc T 14) bF)))) rfl) (dE (eZ rfl rfl (la T.fk (lc T 5) (by refine dQ ?_;exact (ic (kX (lc T 0) (iM (lc T 6)) (iM (lc T 11))) (ic (kX (lc T 1) (iM (lc T 7)) (iM (lc T 13))) (ic (kX (lc T 2) (iM (lc T 8)) (iM (lc T 14))) bF))))))) iD) (fB T.fk (bM (eZ rfl rfl (le T.fk (lc T 5) (cl (G.f T.fk vY) (a _) (ic (kX (lc T 0) (iM (lc T 11)) (iM (lc T 12))) bF) (.inr (.inr ⟨256,_,_,rfl,G.K 256 MineH.o256v0 (by kernel_rfl),rfl⟩))))) (dE (oX (dQ (ic (lc T 12) (ic (bQ iE (bQ dJ (lc T 13) (lc T 12)) (lc T 11)) (ic (bQ iE (bQ dJ (lc T 14) (lc T 12)) (lc T 11)) bF)))) (gJ T (aJ (i:=8) rfl) (gJ T (aJ (i:=7) rfl) (gJ T (aJ (i:=6) rfl) qD))) rfl rfl)))))) iD))) λ_=>rfl))) λ_=>rfl) (fB T.fk (bM (jS (dU D6 (by refine dQ ?_;exact (ic (lc T 6) (ic (lc T 7) (ic (lc T 8) bF)))) (by refine dQ ?_;exact (ic (ln (G.f T.fk oK) (lc T 0)) (ic (ln (G.f T.fk oK) (lc T 1)) (ic (ln (G.f T.fk oK) (lc T 2)) bF)))) rfl) (dE (eZ rfl rfl (la T.fk (lc T 5) (by refine dQ ?_;exact (ic (kX (lc T 0) (iM (lc T 6)) wY) (ic (kX (lc T 1) (iM (lc T 7)) wY) (ic (kX (lc T 2) (iM (lc T 8)) wY) bF))))))) iD) (fB T.fk (dE (nN (lc T 5))))))))))
noncomputable def Ch:lT:=[aF "told",aF "text",aF "old",aF "one",aF "two"]
def cT(P:fK):lH (kN MineH.o277v0) Ch:=.of (by kernel_rfl)
def Jq:Nat->M Fl:=(xP (zW Ay (aP 1) (aS (T7 (gM (bJ D8 (aP 3) (aP 2))) (aP 4) (T7 (Þ (gM (bJ D8 (aP 4) (aP 2))) (Þ (gM (bJ D8 (aP 3) (aP 4))) (λσ=>aG (bR,σ)))) (aP 3) (bJ fF (aP 3) (aP 4)))) bP)))
def Jp:Nat->M Fl:=(tQ (aP 1))
def Hz:Nat->M Fl:=(eU (fU (kR bP) (cG 1)) (rT [0,1] (eU (vI [1] (lG (aP 0)) (Ol [(cG 2),(cG 3),(cG 4)]) (Jq)) (rT [1] (Jp)))))
def Qk{n:Nat}{L:cR}(G:Gd):Fd (n) (vH (kN MineH.o277v0) L 277 Ch) (cH (at_ [11])) (Hz):=by have T:=(cT w.params).tab L 277;exact (bM (eQ (jT bF) (lg T 1) rfl rfl rfl) (fB T.fk (bM (mM T.fk (qE (lc T 0)) (mR (eX (lg T 2) (eX (lg T 3) (ig (lg T 4) lR) rfl) rfl)) (dE (eZ rfl rfl (le T.fk (lc T 1) (Wu (dU sE (lc T 3) (lc T 2) rfl) (lc T 4) (Wu (lS (GV (dU sE (lc T 4) (lc T 2) rfl) (GV (dU sE (lc T 3) (lc T 4) rfl) QC))) (lc T 3) (bQ dJ (lc T 3) (lc T 4))))))) λ_=>rfl) (fB T.fk (dE (nN (lc T 1)))))))
noncomputable def rA:lT:=[aF "script",aF "deeds",aF "total",aF "titles",aF "makes",aF "k",aF "v",aF "parts",aF "versions",aF "one",aF "two",aF "three",aF "signs",aF "matcher",aF "b",aF "base",aF "merged",aF "chapters",aF "rows",aF "text",aF "told",aF "due"]
def dlaw(P:fK):lH (kN MineH.o282v0) rA:=.ofC [aF "total",aF "makes",aF "v",aF "parts",aF "one",aF "two",aF "three",aF "b",aF "chapters"] (by kernel_rfl) (fA ⟨by kernel_rfl,λL=>by kernel_rfl⟩ (fA ⟨by kernel_rfl,λL=>by kernel_rfl⟩ (fA ⟨by kernel_rfl,λL=>by kernel_rfl⟩ (fA ⟨by kernel_rfl,λL=>by kernel_rfl⟩ (fA ⟨by kernel_rfl,λL=>by kernel_rfl⟩ (fA ⟨by kernel_rfl,λL=>by kernel_rfl⟩ (fA ⟨by kernel_rfl,λL=>by kernel_rfl⟩ (fA ⟨by kernel_rfl,λL=>by kernel_rfl⟩ (fA ⟨by kernel_rfl,λL=>by kernel_rfl⟩ (λ_ h=>nomatch h))))))))))
def Wx(af:mU)(ak am ae:Da)(cV bU cO cT:mU):Nat->M Fl:=(yF (kJ (gM (bJ D8 (bJ uW (bJ Ie (bJ fT (aP 1) (aP 5)) (bJ T6 (gK (.int 2)) (aP 6))) (gK (.int 2))) (gK (.int 1)))) (kJ (gM (bJ Jr (eV oG (aS (bJ fT (bJ fT (aP 4) (aP 6)) (bJ uW (aP 5) (gK (.int 3)))) bP)) (gK (.int 3)))) (λσ=>aG (aU,σ)))) (xP (zW gT (bJ fT (bJ fT (aP 4) (aP 6)) (bJ uW (aP 5) (gK (.int 3)))) (aS (bJ uW (bJ Ie (bJ fT (aP 1) (aP 5)) (gK (.int 16))) (gK (.int 3))) bP))) (nA .next))
def Na(af:mU)(ak am ae:Da)(cV bU cO cT:mU):Nat->M Fl:=(rT [1,3,4,5] (vI [1,3,4,5] (gH (aS (gK (.int 4)) bP)) (cG 6) (Wx af ak am ae cV bU cO cT)))
def Hv(af:mU)(ak am ae:Da)(cV bU cO cT:mU):Nat->M Fl:=(eU (fU (lI 100 (gH (aS (gK (.int 3)) bP)) (cG 100) (kD (bJ oE (bJ D7 (yE (gK (.int 10))) (aP 100)) (bJ D7 (gK (.int 2)) (eV Xb (aS (lI 102 (gH (aS (gK (.int 4)) bP)) (cG 102) (yQ (gM (bJ D8 (bJ fT (bJ fT (aP 4) (aP 102)) (aP 100)) (bJ fT (pW (aS (aP 9) (aS (aP 10) (aS (aP 11) bP)))) (aP 100)))) (kD (aP 102)))) bP)))))) (cG 12)) (eU (xP (zW gT (aP 7) (aS (pW (aS (bJ fF (aP 9) (pW (aS (bJ oE (bJ fT (aP 12) (gK (.int 0))) (gK (.int 2))) bP))) (aS (bJ fF (bJ fF (pW (aS (bJ oE (bJ fT (aP 12) (gK (.int 1))) (gK (.int 1))) bP)) (aP 10)) (pW (aS (bJ oE (bJ fT (aP 12) (gK (.int 1))) (gK (.int 2))) bP))) (aS (bJ fF (pW (aS (bJ oE (bJ fT (aP 12) (gK (.int 2))) (gK (.int 1))) bP)) (aP 11)) bP)))) bP))) (xP (zW gT (aP 8) (aS (bJ fF (bJ fF (bJ fF (bJ fF (bJ fT (bJ yP (aP 7) (yE (gK (.int 1)))) (gK (.int 0))) (bJ fT (aP 3) (gK (.int 0)))) (bJ fT (bJ yP (aP 7) (yE (gK (.int 1)))) (gK (.int 1)))) (bJ fT (aP 3) (gK (.int 1)))) (bJ fT (bJ yP (aP 7) (yE (gK (.int 1)))) (gK (.int 2)))) bP)))))
def Qs(af:mU)(ak am ae:Da)(cV bU cO cT:mU):Nat->M Fl:=(eU (xP (ß am (aP 13) (aS (aP 19) bP))) (eU (xP (zW gT (aP 18) (aS (ß ae (aP 13) bP) bP))) (yF (gM (bJ aAs (bJ yP (bJ yP (aP 18) (yE (gK (.int 1)))) (yE (gK (.int 1)))) (kC (aS (eV oG (aS (aP 19) bP)) (aS (eV oG (aS (aP 15) bP)) (aS (gK (.int 0)) bP)))))) (tQ (gK (.bool bR))) (nA .next))))
def Qq(af:mU)(ak am ae:Da)(cV bU cO cT:mU):Nat->M Fl:=(eU (fU (lI 100 (gH (aS (gK (.int 3)) bP)) (cG 100) (kD (eV cV (aS (bJ fT (bJ fT (aP 7) (aP 14)) (aP 100)) (aS (bJ fT (aP 17) (aP 100)) (aS (bJ fT (bJ fT (aP 7) (aP 6)) (aP 100)) bP)))))) (cG 20)) (eU (fU (bJ fF (bJ fF (bJ fF (bJ fF (bJ fT (aP 20) (gK (.int 0))) (eV bU (aS (bJ fT (aP 3) (gK (.int 0))) bP))) (bJ fT (aP 20) (gK (.int 1)))) (eV bU (aS (bJ fT (aP 3) (gK (.int 1))) bP))) (bJ fT (aP 20) (gK (.int 2)))) (cG 21)) (eU (yF (gM (bJ W1 (eV cO (aS (aP 15) (aS (aP 16) (aS (bJ fT (aP 8) (aP 6)) (aS (bJ fT (aP 18) (gK (.int 0))) (aS (bJ fT (aP 18) (gK (.int 1))) bP)))))) (aP 21))) (tQ (gK (.bool bR))) (nA .next)) (rT [3,7,8,13,14,15,20,21] (fU (kC (aS (eV cT (aS (aP 21) bP)) (aS (lI 100 (lG (aP 20)) (cG 100) (kD (eV cT (aS (aP 100) bP)))) bP))) (Ol [(cG 16),(cG 17)]))))))
def Qt(af:mU)(ak am ae:Da)(cV bU cO cT:mU):Nat->M Fl:=(eU (fU (kR bP) (cG 18)) (rT [3,6,7,8,13,14,15,16,17,18] (eU (vI [3,6,7,8,13,14,15,16,17,18] (lG (pW (aS (aP 16) (aS (bJ fT (aP 8) (aP 6)) bP)))) (cG 19) (Qs af ak am ae cV bU cO cT)) (rT [3,6,7,8,13,14,15,16,17,18] (Qq af ak am ae cV bU cO cT)))))
def Hu(af:mU)(ak am ae:Da)(cV bU cO cT:mU):Nat->M Fl:=(eU (fU (bJ fT (aP 8) (aP 14)) (cG 15)) (eU (xP (ß ak (aP 13) (aS (aP 15) bP))) (eU (fU (kC (aS (bJ fT (aP 8) (bJ uW (bJ fF (aP 14) (gK (.int 1))) (gK (.int 4)))) (aS (bJ fT (aP 7) (bJ uW (bJ fF (aP 14) (gK (.int 1))) (gK (.int 4)))) bP))) (Ol [(cG 16),(cG 17)])) (rT [3,7,8,13,14,15,16,17] (vI [3,7,8,13,14,15,16,17] (lG (pW (aS (bJ uW (bJ fF (aP 14) (gK (.int 2))) (gK (.int 4))) (aS (bJ uW (bJ fF (aP 14) (gK (.int 3))) (gK (.int 4))) bP)))) (cG 6) (Qt af ak am ae cV bU cO cT))))))
def HE(af:mU)(ak am ae:Da)(cV bU cO cT:mU):Nat->M Fl:=(tQ (gK (.bool aU)))
def Qr(af:mU)(ak am ae:Da)(cV bU cO cT:mU):Nat->M Fl:=(eU (fU (eV af (aS (gK .none) (aS (pW bP) (aS (pW bP) (aS (gK (.bool bR)) bP))))) (cG 13)) (rT [3,7,8,13] (eU (vI [3,7,8,13] (gH (aS (gK (.int 4)) bP)) (cG 14) (Hu af ak am ae cV bU cO cT)) (rT [] (HE af ak am ae cV bU cO cT)))))
def Ww(af:mU)(ak am ae:Da)(cV bU cO cT:mU):Nat->M Fl:=(Zg (eU (fU (kC (aS (kR bP) (aS (kR bP) bP))) (Ol [(cG 7),(cG 8)])) (rT [3,4,7,8] (eU (vI [3,4,7,8] (lG (aP 4)) (Ol [(cG 9),(cG 10),(cG 11)]) (Hv af ak am ae cV bU cO cT)) (rT [3,7,8] (Qr af ak am ae cV bU cO cT))))))
def aAn(af:mU)(ak am ae:Da)(cV bU cO cT:mU):Nat->M Fl:=(eU (fU (bJ HW (aP 0) (pW (aS (gK (.int 15)) (aS (gK (.int 21)) (aS (gK (.int 35)) (aS (gK (.int 22)) (aS (gK (.int 14)) (aS (gK (.int 15)) (aS (gK (.int 8)) (aS (gK (.int 18)) (aS (gK (.int 44)) bP))))))))))) (cG 1)) (eU (fU (eV õ (aS (aP 1) bP)) (cG 2)) (eU (fU (lI 100 (gH (aS (gK (.int 2)) bP)) (cG 100) (kD (lI 102 (gH (aS (gK (.int 7)) bP)) (cG 102) (kD (bJ uW (bJ Ie (aP 2) (bJ T6 (gK (.int 3)) (bJ fF (bJ D7 (bJ D7 (gK (.int 7)) (aP 100)) (bJ uW (aP 2) (gK (.int 2)))) (aP 102)))) (gK (.int 3))))))) (cG 3)) (eU (fU (lI 100 (gH (aS (gK (.int 4)) bP)) (cG 100) (kD (pW (aS (kR bP) (aS (kR bP) (aS (kR bP) bP)))))) (cG 4)) (rT [1,3,4] (eU (vI [1,3,4] (gH (aS (eV oG (aS (aP 1) bP)) bP)) (cG 5) (Na af ak am ae cV bU cO cT)) (rT [3,4] (Ww af ak am ae cV bU cO cT))))))))
def aAf:cH (at_ [12])=[(cH (at_ [12])).getD 0 default,(cH (at_ [12])).getD 1 default,(cH (at_ [12])).getD 2 default,(cH (at_ [12])).getD 3 default,(cH (at_ [12])).getD 4 default,(cH (at_ [12])).getD 5 default,(cH (at_ [12])).getD 6 default,(cH (at_ [12])).getD 7 default,(cH (at_ [12])).getD 8 default,(cH (at_ [12])).getD 9 default]:=by kernel_rfl
section
variable{n:Nat}{L:cR}(G:Gd){af:mU}(bc:A0 (n) (vH (kN MineH.o282v0) L 282 rA) (.ref 242) af){ak:Da}(b7:∀c0 us c1 r,dH us=aU->ak c0 us=aG (c1,r)->qQ c0/\vD (n) (.ref 181) c0 us (λc r'=>c=c1/\r'=r)){am:Da}(b8:∀c0 us c1 r,dH us=aU->am c0 us=aG (c1,r)->qQ c0/\vD (n) (.ref 174) c0 us (λc r'=>c=c1/\r'=r)){ae:Da}(aq:∀c0 us c1 r,dH us=aU->ae c0 us=aG (c1,r)->qQ c0/\vD (n) (.ref 203) c0 us (λc r'=>c=c1/\r'=r)){cV:mU}(b9:∀F,A0 (n) F (.ref 263) cV){bU:mU}(bp:∀F,A0 (n) F (.ref 256) bU){cO:mU}(bt:∀F,hO F->A0 (n) F (.ref 270) cO){cT:mU}(b6:∀F,A0 (n) F (.ref 277) cT)
include G bc b7 b8 aq b9 bp bt b6
theorem GN:A5 (n) (vH (kN MineH.o282v0) L 282 rA) ((cH (at_ [12])).getD 0 default) (fU (bJ HW (aP 0) (pW (aS (gK (.int 15)) (aS (gK (.int 21)) (aS (gK (.int 35)) (aS (gK (.int 22)) (aS (gK (.int 14)) (aS (gK (.int 15)) (aS (gK (.int 8)) (aS (gK (.int 18)) (aS (gK (.int 44)) bP))))))))))) (cG 1)):=by have T:=(dlaw w.params).tab L 282;exact (eQ (bQ HV (lc T 0) (kB (ic bT (ic bT (ic bT (ic bT (ic bT (ic bT (ic bT (ic bT (ic bT bF))))))))))) (lg T 1) rfl rfl rfl)
theorem GM:A5 (n) (vH (kN MineH.o282v0) L 282 rA) ((cH (at_ [12])).getD 1 default) (fU (eV õ (aS (aP 1) bP)) (cG 2)):=by have T:=(dlaw w.params).tab L 282;exact (eQ (cl (G.f T.fk aAp) NJ (ic (lc T 1) bF)) (lg T 2) rfl rfl rfl)
theorem GK:A5 (n) (vH (kN MineH.o282v0) L 282 rA) ((cH (at_ [12])).getD 2 default) (fU (lI 100 (gH (aS (gK (.int 2)) bP)) (cG 100) (kD (lI 102 (gH (aS (gK (.int 7)) bP)) (cG 102) (kD (bJ uW (bJ Ie (aP 2) (bJ T6 (gK (.int 3)) (bJ fF (bJ D7 (bJ D7 (gK (.int 7)) (aP 100)) (bJ uW (aP 2) (gK (.int 2)))) (aP 102)))) (gK (.int 3))))))) (cG 3)):=by have T:=(dlaw w.params).tab L 282;exact (Wt (base:=100) (nm:=aF "t") (cap:=[(2,aF "total")]) T rfl (aJ (i:=3) rfl) (pE (by decide)) (λ_=>rfl) rfl (λ_=>rfl) (λ_=>rfl) rfl rfl (.cons (aJ (i:=2) rfl) rfl rfl rfl .nil) rfl rfl (rl (G.f T.fk oJ) bT) (λC c T1=>(lg T1 1)) (λC c T1=>(M6 (base:=102) (names:=[aF "k"]) (cap:=[(2,aF "total"),(100,aF "t")]) T1 (Ks (pE (by decide))) (by decide) (by decide) (λ_=>rfl) rfl rfl rfl rfl (.cons (aJ (i:=0) rfl) rfl rfl rfl (.cons (aJ (i:=1) rfl) rfl rfl rfl .nil)) (.cons rfl .nil) (rl (G.f T1.fk oJ) bT) (λC T2=>(lg T2 2)) (λC T2=>(bQ sT (bQ Ic (lc T2 0) (bQ W0 bT (bQ dJ (bQ F6 (bQ F6 bT (lc T2 1)) (bQ sT (lc T2 0) bT)) (lc T2 2)))) bT)))))
theorem GJ:A5 (n) (vH (kN MineH.o282v0) L 282 rA) ((cH (at_ [12])).getD 3 default) (fU (lI 100 (gH (aS (gK (.int 4)) bP)) (cG 100) (kD (pW (aS (kR bP) (aS (kR bP) (aS (kR bP) bP)))))) (cG 4)):=by have T:=(dlaw w.params).tab L 282;exact (eQ (M6 (base:=100) (names:=[aF "v"]) (cap:=[]) T (pE (by decide)) (by decide) (by decide) (λ_=>rfl) rfl rfl rfl rfl .nil (.cons rfl .nil) (rl (G.f T.fk oJ) bT) (λC T1=>(lg T1 0)) (λC T1=>(kB (ic (jT bF) (ic (jT bF) (ic (jT bF) bF)))))) (lg T 4) rfl rfl rfl)
theorem GI:A5 (n) (vH (kN MineH.o282v0) L 282 rA) ((cH (at_ [12])).getD 4 default) (vI [1,3,4] (gH (aS (eV oG (aS (aP 1) bP)) bP)) (cG 5) (Na af ak am ae cV bU cO cT)):=by have T:=(dlaw w.params).tab L 282;exact (mM T.fk (rl (G.f T.fk oJ) (ln (G.f T.fk oK) (lc T 1))) (lg T 5) (fB T.fk (dE (mM T.fk (rl (G.f T.fk oJ) bT) (lg T 6) (dE (jS (lS (fJ (dU sE (bQ sT (bQ Ic (ix (lc T 1) (lc T 5)) (bQ W0 bT (lc T 6))) bT) bT rfl) (fJ (dU sD (ln (G.f T.fk oK) (ix (ix (lc T 4) (lc T 6)) (bQ sT (lc T 5) bT))) bT rfl) mS))) (dE (eZ rfl rfl (la T.fk (ix (ix (lc T 4) (lc T 6)) (bQ sT (lc T 5) bT)) (bQ sT (bQ Ic (ix (lc T 1) (lc T 5)) bT) bT)))) iD)) λ_=>rfl))) λ_=>rfl)
theorem GH:A5 (n) (vH (kN MineH.o282v0) L 282 rA) ((cH (at_ [12])).getD 5 default) (fU (kC (aS (kR bP) (aS (kR bP) bP))) (Ol [(cG 7),(cG 8)])):=by have T:=(dlaw w.params).tab L 282;exact (eQ (dQ (ic (jT bF) (ic (jT bF) bF))) (mR (eX (lg T 7) (ig (lg T 8) lR) rfl)) rfl rfl rfl)
theorem GG:A5 (n) (vH (kN MineH.o282v0) L 282 rA) ((cH (at_ [12])).getD 6 default) (vI [3,4,7,8] (lG (aP 4)) (Ol [(cG 9),(cG 10),(cG 11)]) (Hv af ak am ae cV bU cO cT)):=by have T:=(dlaw w.params).tab L 282;exact (mM T.fk (qE (lc T 4)) (mR (eX (lg T 9) (eX (lg T 10) (ig (lg T 11) lR) rfl) rfl)) (bM (Wt (base:=100) (nm:=aF "c") (cap:=[(4,aF "makes"),(9,aF "one"),(10,aF "two"),(11,aF "three")]) T rfl (aJ (i:=12) rfl) (pE (by decide)) (λ_=>rfl) rfl (λ_=>rfl) (λ_=>rfl) rfl rfl (.cons (aJ (i:=4) rfl) rfl rfl rfl (.cons (aJ (i:=9) rfl) rfl rfl rfl (.cons (aJ (i:=10) rfl) rfl rfl rfl (.cons (aJ (i:=11) rfl) rfl rfl rfl .nil)))) rfl rfl (rl (G.f T.fk oJ) bT) (λC c T1=>(lg T1 4)) (λC c T1=>(bQ iE (bQ F6 (vW bT) (lc T1 4)) (bQ F6 bT (cl (G.f T1.fk WB) DI (ic (PZ (base:=102) (names:=[aF "v"]) (cap:=[(4,aF "makes"),(100,aF "c"),(9,aF "one"),(10,aF "two"),(11,aF "three")]) T1 (Ks (pE (by decide))) (by decide) (by decide) (λ_=>rfl) rfl rfl rfl rfl (.cons (aJ (i:=0) rfl) rfl rfl rfl (.cons (aJ (i:=4) rfl) rfl rfl rfl (.cons (aJ (i:=1) rfl) rfl rfl rfl (.cons (aJ (i:=2) rfl) rfl rfl rfl (.cons (aJ (i:=3) rfl) rfl rfl rfl .nil))))) (.cons rfl .nil) (rl (G.f T1.fk oJ) bT) (λC T2=>(lg T2 5)) (λC T2=>(dU sE (ix (ix (lc T2 0) (lc T2 5)) (lc T2 1)) (ix (kB (ic (lc T2 2) (ic (lc T2 3) (ic (lc T2 4) bF)))) (lc T2 1)) rfl)) (λC T2=>(lc T2 5))) bF)))))) (bM (eZ rfl rfl (la T.fk (lc T 7) (kB (ic (bQ dJ (lc T 9) (kB (ic (bQ iE (ix (lc T 12) bT) bT) bF))) (ic (bQ dJ (bQ dJ (kB (ic (bQ iE (ix (lc T 12) bT) bT) bF)) (lc T 10)) (kB (ic (bQ iE (ix (lc T 12) bT) bT) bF))) (ic (bQ dJ (kB (ic (bQ iE (ix (lc T 12) bT) bT) bF)) (lc T 11)) bF)))))) (dE (eZ rfl rfl (la T.fk (lc T 8) (bQ dJ (bQ dJ (bQ dJ (bQ dJ (ix (qF (zV λ_ _=>rfl) (lc T 7) (vW bT)) bT) (ix (lc T 3) bT)) (ix (qF (zV λ_ _=>rfl) (lc T 7) (vW bT)) bT)) (ix (lc T 3) bT)) (ix (qF (zV λ_ _=>rfl) (lc T 7) (vW bT)) bT))))))) λ_=>rfl)
theorem GF:A5 (n) (vH (kN MineH.o282v0) L 282 rA) ((cH (at_ [12])).getD 7 default) (fU (eV af (aS (gK .none) (aS (pW bP) (aS (pW bP) (aS (gK (.bool bR)) bP))))) (cG 13)):=by have T:=(dlaw w.params).tab L 282;exact (eQ (Kx G.K (by kernel_rfl) (G.f T.fk C1) bc (by exact ⟨rfl,⟨rfl,⟨rfl,⟨rfl,trivial⟩⟩⟩⟩) (ic pV (ic (kB bF) (ic (kB bF) (ic Cz bF)))) rfl) (lg T 13) rfl rfl rfl)
theorem GE:A5 (n) (vH (kN MineH.o282v0) L 282 rA) ((cH (at_ [12])).getD 8 default) (vI [3,7,8,13] (gH (aS (gK (.int 4)) bP)) (cG 14) (Hu af ak am ae cV bU cO cT)):=by have T:=(dlaw w.params).tab L 282;exact (mM T.fk (rl (G.f T.fk oJ) bT) (lg T 14) (bM (eQ (ix (lc T 8) (lc T 14)) (lg T 15) rfl rfl rfl) (bM (eZ rfl rfl (Av G.K T.fk (Ů G) b7 (lc T 13) (by exact ⟨rfl,trivial⟩) (ic (lc T 15) bF) rfl)) (bM (eQ (dQ (ic (ix (lc T 8) (bQ sT (bQ dJ (lc T 14) bT) bT)) (ic (ix (lc T 7) (bQ sT (bQ dJ (lc T 14) bT) bT)) bF))) (mR (eX (lg T 16) (ig (lg T 17) lR) rfl)) rfl rfl rfl) (fB T.fk (dE (mM T.fk (qE (kB (ic (bQ sT (bQ dJ (lc T 14) bT) bT) (ic (bQ sT (bQ dJ (lc T 14) bT) bT) bF)))) (lg T 6) (bM (eQ (jT bF) (lg T 18) rfl rfl rfl) (fB T.fk (bM (mM T.fk (qE (kB (ic (lc T 16) (ic (ix (lc T 8) (lc T 6)) bF)))) (lg T 19) (bM (eZ rfl rfl (Av G.K T.fk (ů G) b8 (lc T 13) (by exact ⟨rfl,trivial⟩) (ic (lc T 19) bF) rfl)) (bM (eZ rfl rfl (la T.fk (lc T 18) (Av G.K T.fk (Ű G) aq (lc T 13) (by exact trivial) bF rfl))) (dE (jS (dU (QM G.K (Co w.params) (by kernel_rfl)) (qF (zV λ_ _=>rfl) (qF (zV λ_ _=>rfl) (lc T 18) (vW bT)) (vW bT)) (by refine dQ ?_;exact (ic (ln (G.f T.fk oK) (lc T 19)) (ic (ln (G.f T.fk oK) (lc T 15)) (ic bT bF)))) rfl) (dE (nN Cz)) iD)))) λ_=>rfl) (fB T.fk (bM (PT (base:=100) (names:=[aF "c"]) (cap:=[(7,aF "parts"),(14,aF "b"),(17,aF "chapters"),(6,aF "v")]) T rfl (aJ (i:=20) rfl) (pE (by decide)) (by decide) (by decide) (λ_=>rfl) rfl rfl rfl rfl (.cons (aJ (i:=7) rfl) rfl rfl rfl (.cons (aJ (i:=14) rfl) rfl rfl rfl (.cons (aJ (i:=17) rfl) rfl rfl rfl (.cons (aJ (i:=6) rfl) rfl rfl rfl .nil)))) (.cons rfl .nil) (rl (G.f T.fk oJ) bT) (λC T1=>(lg T1 4)) (λC T1=>(cl (G.f T1.fk Qu) (b9 _) (ic (ix (ix (lc T1 0) (lc T1 1)) (lc T1 4)) (ic (ix (lc T1 2) (lc T1 4)) (ic (ix (ix (lc T1 0) (lc T1 3)) (lc T1 4)) bF))) (.inr (.inr ⟨263,_,_,rfl,G.K 263 MineH.o263v0 (by kernel_rfl),rfl⟩))))) (bM (eQ (bQ dJ (bQ dJ (bQ dJ (bQ dJ (ix (lc T 20) bT) (cl (G.f T.fk vY) (bp _) (ic (ix (lc T 3) bT) bF) (.inr (.inr ⟨256,_,_,rfl,G.K 256 MineH.o256v0 (by kernel_rfl),rfl⟩)))) (ix (lc T 20) bT)) (cl (G.f T.fk vY) (bp _) (ic (ix (lc T 3) bT) bF) (.inr (.inr ⟨256,_,_,rfl,G.K 256 MineH.o256v0 (by kernel_rfl),rfl⟩)))) (ix (lc T 20) bT)) (lg T 21) rfl rfl rfl) (bM (jS (dU D6 (cl (G.f T.fk Nc) (bt _ T.fk) (ic (lc T 15) (ic (lc T 16) (ic (ix (lc T 8) (lc T 6)) (ic (ix (lc T 18) bT) (ic (ix (lc T 18) bT) bF))))) (.inr (.inr ⟨270,_,_,rfl,G.K 270 MineH.o270v0 (by kernel_rfl),rfl⟩))) (lc T 21) rfl) (dE (nN Cz)) iD) (fB T.fk (dE (eQ (dQ (ic (cl (G.f T.fk Ez) (b6 _) (ic (lc T 21) bF) (.inr (.inr ⟨277,_,_,rfl,G.K 277 MineH.o277v0 (by kernel_rfl),rfl⟩))) (ic (M6 (base:=100) (names:=[aF "chapter"]) (cap:=[]) T (pE (by decide)) (by decide) (by decide) (λ_=>rfl) rfl rfl rfl rfl .nil (.cons rfl .nil) (qE (lc T 20)) (λC T1=>(lg T1 0)) (λC T1=>(cl (G.f T1.fk Ez) (b6 _) (ic (lc T1 0) bF) (.inr (.inr ⟨277,_,_,rfl,G.K 277 MineH.o277v0 (by kernel_rfl),rfl⟩))))) bF))) (mR (eX (lg T 16) (ig (lg T 17) lR) rfl)) rfl rfl rfl)))))))))) λ_=>rfl)))))) λ_=>rfl)
theorem GD:A5 (n) (vH (kN MineH.o282v0) L 282 rA) ((cH (at_ [12])).getD 9 default) (tQ (gK (.bool aU))):=by have T:=(dlaw w.params).tab L 282;exact (nN Cz)
def aAi:Fd (n) (vH (kN MineH.o282v0) L 282 rA) (cH (at_ [12])) (aAn af ak am ae cV bU cO cT):=by have T:=(dlaw w.params).tab L 282;rw [aAf];have a:= @GN n L G af bc ak b7 am b8 ae aq cV b9 bU bp cO bt cT b6;have b:= @GM n L G af bc ak b7 am b8 ae aq cV b9 bU bp cO bt cT b6;have d:= @GK n L G af bc ak b7 am b8 ae aq cV b9 bU bp cO bt cT b6;have e:= @GJ n L G af bc ak b7 am b8 ae aq cV b9 bU bp cO bt cT b6;have f:= @GI n L G af bc ak b7 am b8 ae aq cV b9 bU bp cO bt cT b6;have g:= @GH n L G af bc ak b7 am b8 ae aq cV b9 bU bp cO bt cT b6;have h:= @GG n L G af bc ak b7 am b8 ae aq cV b9 bU bp cO bt cT b6;have i:= @GF n L G af bc ak b7 am b8 ae aq cV b9 bU bp cO bt cT b6;have j:= @GE n L G af bc ak b7 am b8 ae aq cV b9 bU bp cO bt cT b6;have k:= @GD n L G af bc ak b7 am b8 ae aq cV b9 bU bp cO bt cT b6;generalize h0:(cH (at_ [12])).getD 0 default=s0 at a⊢;generalize h1:(cH (at_ [12])).getD 1 default=l at b⊢;generalize h2:(cH (at_ [12])).getD 2 default=m at d⊢;generalize h3:(cH (at_ [12])).getD 3 default=o at e⊢;generalize h4:(cH (at_ [12])).getD 4 default=p at f⊢;generalize h5:(cH (at_ [12])).getD 5 default=s at g⊢;generalize h6:(cH (at_ [12])).getD 6 default=t at h⊢;generalize h7:(cH (at_ [12])).getD 7 default=s7 at i⊢;generalize h8:(cH (at_ [12])).getD 8 default=s8 at j⊢;generalize u:(cH (at_ [12])).getD 9 default=s9 at k⊢;refine bM a ?_;refine bM b ?_;refine bM d ?_;refine bM e ?_;refine fB T.fk ?_;refine bM f ?_;refine fB T.fk ?_;refine M5 T.fk ?_;refine bM g ?_;refine fB T.fk ?_;refine bM h ?_;refine fB T.fk ?_;refine bM i ?_;refine fB T.fk ?_;refine bM j ?_;refine fB T.fk ?_;exact dE k
end
noncomputable def Wn:pM->Bool
 |some .none=>aU
 |_=>bR
def gA(A B:bE)(as:oS):oS:=if Wn (pK as (aF "matching_blocks"))=aU then iW (aF "matching_blocks") (qK A B) as else as
structure SQ(A B:bE)(as:oS):Prop where
 at_:Uv A B as
 mb:pK as (aF "matching_blocks")=aG .none\/pK as (aF "matching_blocks")=aG (qK A B)
 la:aC A<200
 lb:aC B<200
 few:(bl A B (0,aC A,0,aC B)).length<64
section
variable{n:Nat}
def ŵ(G:Gd)(h:SQ A B as):vD (n+4) (.ref 203) (.attrs as) [] (λc r=>c=.attrs (gA A B as)/\r=qK A B):=by
 refine As (o:=MineH.o203v0) (aA3 w.params) (G.K 203 _ (by kernel_rfl)) rfl G.lim (codeRec_of G.K (by kernel_rfl)) rfl (λvs h=>?_) (by refine (?_:(1:Nat)<=20);decide) h.at_.pure (λL=>?_) rfl
 .revert vs;exact VY λ_=>by kernel_rfl
 .rcases h.mb with a|a
  .obtain ⟨f,τ,e,rfl,b⟩:=QI h.at_ a h.la h.lb h.few;refine kO (VZ G (JA G A B) 1 _ _ _ e) ?_;rintro _ _ ⟨rfl,rfl⟩;have d:=kU (s:=aF "matching_blocks") (pC A B) h.at_.pure;exact ⟨_,_,_,b,uE d,d,dP (pC A B),pC A B,by unfold gA;refine a▸?_;rfl,rfl⟩
  .obtain ⟨f,τ,e,rfl,b⟩:=GZ h.at_.pure a;refine kO (VZ G (JA G A B) 1 _ _ _ e) ?_;rintro _ _ ⟨rfl,rfl⟩;exact ⟨_,_,_,b,uE h.at_.pure,h.at_.pure,dP (pC A B),pC A B,by unfold gA;refine a▸?_;rfl,rfl⟩
end
section
variable{A B:bE}{as:oS}
def MX(a:∀p∈as,p.2.pure=aU):∀p∈gA A B as,p.2.pure=true:=by
 unfold gA;split
 .exact kU (pC A B) a
 .exact a
def QK(c:Bo m as)(g:m.a=aG A)(d:m.b=aG B)(h:aC A<200)(i:aC B<200)(j:(bl A B (0,aC A,0,aC B)).length<64):SQ A B as:=by
 refine ⟨⟨c.pure,by have:=c.a;rwa[g]at this,by have:=c.b;rwa[d]at this,c.bjunk,by have:=c.b2j;rwa[d]at this⟩,?_,h,i,j⟩;rcases c.mb with q|⟨A',B',e,f,q⟩
 .exact .inl q
 .replace e:=g▸e;replace f:=d▸f;refine pH e ?_;rintro rfl;refine pH f ?_;rintro rfl;exact .inr q
def aAe(h:(s==aF "matching_blocks")=bR):pK (gA A B as) s=pK as s:=by
 unfold gA;split
 .rw [lE,if_neg (wU h)]
 .rfl
def Ų(h:SQ A B as):pK (gA A B as) (aF "matching_blocks")=aG (qK A B):=by
 unfold gA;rcases h.mb with q|q
 .rw [q,if_pos (by rfl),lE,if_pos rfl]
 .rw [q,if_neg (by simp [Wn,qK]),q]
def ED(c:Bo m as)(d:m.a=aG A)(e:m.b=aG B)(h:SQ A B as):Bo m (gA A B as):=by
 refine ⟨MX c.pure,?_,?_,?_,?_,?_,?_,.inr ⟨A,B,d,e,Ų h⟩,?_⟩;all_goals rw [aAe (by decide)]
 .exact c.junk
 .exact c.a
 .exact c.b
 .exact c.auto
 .exact c.bjunk
 .exact c.b2j
 .exact c.oc
end
section
variable{n:Nat}{A B:bE}
def Ŵ(G:Gd)(m:E3)(d:m.a=aG A)(f:m.b=aG B)(i:aC A<200)(j:aC B<200)(k:(bl A B (0,aC A,0,aC B)).length<64):
  vD (n+4) (.ref 203) (.mat m) [] (λc r=>c=.mat m/\r=qK A B):=by
 refine G6 λas g=>?_;have h:=QK g d f i j k;refineλA' Y l tk x c vs a1 o s t u y C D F=>bK (ŵ G h A' Y l tk x c vs a1 o s t u y C D F) (λv P p=>?_) λ_ _ z=>z;refine nn λH=>?_;obtain ⟨h',I,c1,r,e,k1,k2,J,L,N,O,rfl,rfl⟩:=p;refine H ?_;exact ⟨h',I,_,_,e,k1,k2,J,L,N,O,_,rfl,ED g d f h,rfl⟩
end
def vE(e f:T3):Prop:=f.2.2<e.2.2\/(e.2.2=f.2.2/\(e.1<f.1\/(e.1=f.1/\e.2.1<f.2.1)))
def LJ(e f:T3):Prop:=Ej e f\/Ej f e
def FQ(N:Nat)(P:T3->Prop)(h:∀e,e.2.2<=N->(∀f,f.2.2<=N->vE f e->P f)->P e):∀e,e.2.2<=N->P e:=by
 have c:∀d i j e,N-e.2.2=d->e.1=i->e.2.1=j->e.2.2<=N->P e:=by
  intro d
  induction d using vK with
  |_ d ihd=>
   intro i
   induction i using vK with
   |_ i ihi=>
    intro j
    induction j using vK with
    |_ j ihj=>
     intro e h1 h2 h3 h4;refine h e h4 λf a g=>?_;rcases g with q|⟨b,q|⟨k,l⟩⟩
     .exact ihd (N-f.2.2) (aT 0x20342b1088ac62a2980a20d2222ca60ccc30ccc1004 h1 a q) _ _ f rfl rfl rfl a
     .exact ihi f.1 (aT 0xe315044a00961003 h2 q) _ f (aT ψ h1 b) rfl rfl a
     .exact ihj f.2.1 (aT 0xe315044a00961003 h3 l) f (aT ψ h1 b) (aT 0x2ea315844b00961003 h2 k) rfl a
 exactλe m=>c _ _ _ e rfl rfl rfl m
structure Gr(A B:bE)(ao az bo bz:Nat)(M:T3->Prop):Prop where
 run:∀e,M e->0<e.2.2/\Cr A B ao az bo bz e.1 e.2.1 e.2.2
 chn:∀e f,M e->M f->e=f\/LJ e f
 out:∀e:T3,0<e.2.2->Cr A B ao az bo bz e.1 e.2.1 e.2.2->M e\/∃f,M f/\vE f e/\¬LJ f e
section
variable{A B:bE}{ao az bo bz:Nat}{M M':T3->Prop}
def Gr.uniq(g:Gr A B ao az bo bz M)(g':Gr A B ao az bo bz M'):∀e,M e↔M' e:=by
 have b:∀e,e.2.2<=az->(M e↔M' e):=by
  refine FQ az _ λe l a=>?_;have one:∀{M M':T3->Prop},Gr A B ao az bo bz M->Gr A B ao az bo bz M'->(∀f,f.2.2<=az->vE f e->(M' f->M f))->M e->M' e:=by
   intro M M' g g' a h;obtain ⟨h0,c⟩:=g.run e h;rcases g'.out e h0 c with q|⟨f,d,i,j⟩
   .exact q
   .have k:=(g'.run f d).2;have:=a f (by have:=k.a1;exact aT EP this) i d;rcases g.chn f e this h with q|q
    .subst q;rcases i with q|⟨_,q|⟨_,q⟩⟩<;>exact absurd q (eG _)
    .exact absurd q j
  exact ⟨one g g' λf h1 h2=>(a f h1 h2).2,one g' g λf h1 h2=>(a f h1 h2).1⟩
 intro e;constructor
 .intro h;have:=(g.run e h).2.a1;exact (b e (aT EP this)).1 h
 .intro h;have:=(g'.run e h).2.a1;exact (b e (aT EP this)).2 h
def JB(h:Cr A B ao az bo bz i j k)(h1:a<=ao)(h2:az<=b)(h3:c<=bo)(h4:bz<=d):Cr A B a b c d i j k:=by have:=h.a0;have:=h.a1;have:=h.b0;have:=h.b1;exact ⟨aT Tn h1 ‹_›,aT OO h2 ‹_›,aT Tn h3 ‹_›,aT OO h4 this,h.eq⟩
def Uk:∀(f ao az bo bz:Nat),az-ao<=f->Gr A B ao az bo bz (λe=>e∈Af A B f ao az bo bz):=by
 intro f
 induction f with
 |zero=>intro ao az bo bz h;refine ⟨λe d=>(nomatch d),λe f d=>(nomatch d),λe h0 c=>?_⟩;have:=c.a0;have:=c.a1;exfalso;exact aT 0x11d78c6490a0644904a1992604cc1004 h h0 ‹_› this
 |succ f x=>
  intro ao az bo bz h;have s:=Q6 A B ao az bo bz;simp only [yK];rcases C:K0 A B ao az bo bz with ⟨i,j,k⟩;replace s:=C▸s;dsimp only;by_cases n:k=0
  .rw [if_pos n];refine ⟨λe d=>(nomatch d),λe f d=>(nomatch d),λe h0 c=>?_⟩;have:=(s.max e.1 e.2.1 e.2.2 h0 c).1;dsimp only at this;exfalso;exact aT 0x1c6324802a09966002 n h0 this
  .rw [if_neg n];have c0:=s.cr (dG n);have:=c0.a0;have:=c0.a1;have:=c0.b0;have:=c0.b1;have g1:=x ao i bo j (aT ln6 h n ‹_›);have g2:=x (i+k) az (j+k) bz (aT ln8 h n ‹_›);have l:∀e,e∈Af A B f ao i bo j++(i,j,k)::Af A B f (i+k) az (j+k) bz↔e∈Af A B f ao i bo j\/e=(i,j,k)\/e∈Af A B f (i+k) az (j+k) bz:=λe=>by rw [cU,aR]
   have lo:∀e,e∈Af A B f ao i bo j->Ej e (i,j,k):=λe d=>by have:=(g1.run e d).2.a1;have:=(g1.run e d).2.b1;exact ⟨aT OI ‹_›,aT OI this⟩
   have hi:∀e,e∈Af A B f (i+k) az (j+k) bz->Ej (i,j,k) e:=λe d=>by have:=(g2.run e d).2.a0;have:=(g2.run e d).2.b0;exact ⟨aT OI ‹_›,aT OI this⟩
   have y:∀e g,e∈Af A B f ao i bo j->g∈Af A B f (i+k) az (j+k) bz->Ej e g:=λe g h1 h2=>by have a:=lo e h1;have b:=hi g h2;exact ⟨by have:=a.1;have:=b.1;dsimp only at *;exact aT ZX ‹_› this,by have:=a.2;have:=b.2;dsimp only at *;exact aT ZX ‹_› this⟩
   refine ⟨λe d=>?_,λe g d D=>?_,λe h0 c=>?_⟩
   .rcases (l e).mp d with q|rfl|q
    .exact ⟨(g1.run e q).1,JB (g1.run e q).2 (bG _) (aT OC ‹_›) (bG _) (aT OC this)⟩
    .exact ⟨dG n,c0⟩
    .exact ⟨(g2.run e q).1,JB (g2.run e q).2 (aT OD ‹_›) (bG _) (aT OD ‹_›) (bG _)⟩
   .rcases (l e).mp d with q|rfl|q<;>rcases (l g).mp D with r|rfl|r
    .exact g1.chn e g q r
    .exact .inr (.inl (lo e q))
    .exact .inr (.inl (y e g q r))
    .exact .inr (.inr (lo g r))
    .exact .inl rfl
    .exact .inr (.inl (hi g r))
    .exact .inr (.inr (y g e r q))
    .exact .inr (.inr (hi e q))
    .exact g2.chn e g q r
   .obtain ⟨b1,z⟩:=s.max e.1 e.2.1 e.2.2 h0 c;dsimp only at b1 z;by_cases d:e=(i,j,k)
    .exact .inl ((l e).mpr (.inr (.inl d)))
    .by_cases m:LJ (i,j,k) e
     .rcases m with m|m
      .have c2:Cr A B (i+k) az (j+k) bz e.1 e.2.1 e.2.2:=⟨m.1,c.a1,m.2,c.b1,c.eq⟩;rcases g2.out e h0 c2 with q|⟨f,o,p,t⟩
       .exact .inl ((l e).mpr (.inr (.inr q)))
       .exact .inr ⟨f,(l f).mpr (.inr (.inr o)),p,t⟩
      .have c1:Cr A B ao i bo j e.1 e.2.1 e.2.2:=⟨c.a0,m.1,c.b0,m.2,c.eq⟩;rcases g1.out e h0 c1 with q|⟨f,o,p,t⟩
       .exact .inl ((l e).mpr (.inl q))
       .exact .inr ⟨f,(l f).mpr (.inl o),p,t⟩
     .refine .inr ⟨(i,j,k),(l _).mpr (.inr (.inl rfl)),?_,m⟩;rcases kL e.2.2 k with u|u
      .exact .inl u
      .have v:=gO b1 u;refine .inr ⟨v.symm,?_⟩;rcases z v with q|⟨o,p⟩
       .exact .inl q
       .refine .inr ⟨o,?_⟩;dsimp only at o p⊢;rcases kL j e.2.1 with w|w
        .exact w
        .exact absurd (kZ o.symm (kZ (gO w p) v)) d
end
noncomputable instance aDr(e f:T3):Decidable (Ej e f):=inferInstanceAs (Decidable (_/\_))
noncomputable def AH:jU->jU->jU
 |[],K=>K
 |r::rs,K=>AH rs (if (K.filter λe=>decide (Ej r e)).length+(K.filter λe=>decide (Ej e r)).length=aC K then K++[r]else K)
def Ø{K:jU}:AH [] K=K:=rfl
def GX{r:T3}{rs K:jU}:AH (r::rs) K=AH rs (if (K.filter λe=>decide (Ej r e)).length+(K.filter λe=>decide (Ej e r)).length=aC K then K++[r]else K):=rfl
def SD(h:0<e.2.2)(h':0<f.2.2)(a:Ej e f):¬Ej f e:=λb=>by have:=a.1;have:=b.1;exact aT 0x1c632485031244800540304 h ‹_› this
def û{r:T3}(d:0<r.2.2):∀K:jU,(∀e∈K,0<e.2.2)->(K.filter λe=>decide (Ej r e)).length+(K.filter λe=>decide (Ej e r)).length<=aC K/\((K.filter λe=>decide (Ej r e)).length+(K.filter λe=>decide (Ej e r)).length=aC K↔∀e∈K,LJ e r):=by
 intro K
 induction K with
 |nil=>intro _;exact ⟨bG _,λ_ e c=>(nomatch c),λ_=>rfl⟩
 |cons a K f=>
  intro h;obtain ⟨h1,h2⟩:=f λe c=>h e (aO _ c);have g:=h a aQ;have i:(∀e∈a::K,LJ e r)↔LJ a r/\∀e∈K,LJ e r:=AT;rw [i,<-h2];simp only [List.filter_cons,eM];by_cases q:Ej r a
  .have b:=SD d g q;rw [if_pos (decide_eq_true q),if_neg (by simpa using b)];simp only [eM];exact ⟨aT 0xc62941c480a0e048901003 h1,λe=>⟨.inr q,aT 0x7462b120205a0e240507003 e⟩,λe=>by replace e:=e.2;exact aT 0x7462b41c480a0e058901003 e⟩
  .rw [if_neg (by simpa using q)];by_cases b:Ej a r
   .rw [if_pos (decide_eq_true b)];simp only [eM];exact ⟨aT 0xc62941c4841c2048901003 h1,λe=>⟨.inl b,aT 0x7462b120205a0e2420e1003 e⟩,λe=>by replace e:=e.2;exact aT ZW e⟩
   .rw [if_neg (by simpa using b)];refine ⟨aT UF h1,λe=>by exfalso;exact aT 0xc3192d071202048901003 h1 e,λe=>?_⟩;rcases e.1 with z|z
    .exact absurd z b
    .exact absurd z q
structure aBt(ps K:jU):Prop where
 sub:∀e∈K,e∈ps
 chn:∀e∈K,∀f∈K,e=f\/LJ e f
 out:∀e∈ps,e∈K\/∃f∈K,vE f e/\¬LJ f e
def QG:∀(rs b K:jU),(∀e∈b++rs,0<e.2.2)->(b++rs).Pairwise vE->aBt b K->aBt (b++rs) (AH rs K):=by
 intro rs
 induction rs with
 |nil=>intro b K _ _ g;rw [dI];exact g
 |cons r rs l=>
  intro b K h0 d g;rw [GX];have m:b++r::rs=(b++[r])++rs:=by simp
  rw [m]at h0 d⊢;have n:=h0 r (by simp);have o:∀e∈K,0<e.2.2:=λe a=>h0 e (by simp [g.sub e a]);have p:∀e∈b,vE e r:=λe a=>by have:=(jA.mp d).1;exact (jA.mp this).2.2 e a r aQ
  refine l (b++[r]) _ h0 d ?_;have j:=(û n K o).2;split
  .rename_i h;have k:=j.mp h;refine ⟨λe a=>?_,λe a f c=>?_,λe a=>?_⟩
   .rcases cU.mp a with q|q
    .exact iA _ (g.sub e q)
    .exact lV _ q
   .rcases cU.mp a with q|q<;>rcases cU.mp c with z|z
    .exact g.chn e q f z
    .rw [aM.mp z];exact .inr (k e q)
    .rw [aM.mp q];rcases k f z with w|w
     .exact .inr (.inr w)
     .exact .inr (.inl w)
    .exact .inl ((aM.mp q).trans (aM.mp z).symm)
   .rcases cU.mp a with q|q
    .rcases g.out e q with z|⟨f,z1,z2⟩
     .exact .inl (iA _ z)
     .exact .inr ⟨f,iA _ z1,z2⟩
    .exact .inl (lV _ q)
  .rename_i h;have s:∃f∈K,¬LJ f r:=jK λi=>h (j.mpr λe a=>jK λw=>i ⟨e,a,w⟩);refine ⟨λe a=>iA _ (g.sub e a),g.chn,λe a=>?_⟩;rcases cU.mp a with q|q
   .exact g.out e q
   .rw [aM.mp q];obtain ⟨f,c,i⟩:=s;exact .inr ⟨f,c,p f (g.sub f c),i⟩
def Ù(d:rs.Pairwise vE)(b:∀e:T3,e∈rs↔0<e.2.2/\Cr A B 0 (aC A) 0 (aC B) e.1 e.2.1 e.2.2):Gr A B 0 (aC A) 0 (aC B) (λe=>e∈AH rs []):=by have g:=QG rs [] [] (λe a=>((b e).mp a).1) d ⟨λe a=>(nomatch a),λe a=>(nomatch a),λe a=>(nomatch a)⟩;rw [kT]at g;exact ⟨λe a=>(b e).mp (g.sub e a),λe f a h=>g.chn e a f h,λe h0 c=>g.out e ((b e).mpr ⟨h0,c⟩)⟩
abbrev I5:=bE×bE×bE
noncomputable def uH(L:bE)(a b:Nat):bE:=(L.drop a).take (b-a)
noncomputable def kS(x:Int):I5:=([x],[x],[x])
noncomputable def pc(A B C:bE)(o p q k i j:Nat):List I5:=if (o,p,q)=(k,i,j)then[]else[(uH A o k,uH B p i,uH C q j)]
noncomputable def Bb(A B C:bE):jU->Nat->Nat->Nat->List I5
 |[],o,p,q=>pc A B C o p q (aC A) (aC B) (aC C)
 |(k,i,j)::r,o,p,q=>pc A B C o p q k i j++kS (A.getD k 0)::Bb A B C r (k+1) (i+1) (j+1)
def Bs:Bb A B C [] o p q=pc A B C o p q (aC A) (aC B) (aC C):=rfl
def rY:Bb A B C ((k,i,j)::r) o p q=pc A B C o p q k i j++kS (A.getD k 0)::Bb A B C r (k+1) (i+1) (j+1):=rfl
noncomputable def zP(k i j:Nat):Nat->jU
 |0=>[]
 |n+1=>(k,i,j)::zP (k+1) (i+1) (j+1) n
def Vl:zP k i j 0=[]:=rfl
def xY:zP k i j (n+1)=(k,i,j)::zP (k+1) (i+1) (j+1) n:=rfl
def Vq:pc A B C o p q o p q=[]:=if_pos rfl
def O3(h:a<b)(d:b<=aC L):uH L a b=L.getD a 0::uH L (a+1) b:=by unfold uH;have c:a<aC L:=aT 0xe315080910541003 h d;simp only [iI c,show b-a=(b-(a+1))+1 by exact aT 0x4a0886144848a51462b41c0150873320e20ccc1002 h,aY,bO c];rfl
def U7:∀(n k i j o p q:Nat)(r:jU),k+n<=aC A->0<n->
  Bb A B C (zP k i j n++r) o p q=pc A B C o p q k i j++(uH A k (k+n)).map kS++Bb A B C r (k+n) (i+n) (j+n):=by
 intro n
 induction n with
 |zero=>intro k i j o p q r _ h;exact absurd h (eG 0)
 |succ n c=>
  intro k i j o p q r a _;simp only [xY,fV,rY,O3 (by exact aT 0x8c54841c20002:k<k+(n+1)) a];by_cases b:n=0
  .subst b;simp only [Vl,kT];simp [uH]
  .simp only [c (k+1) (i+1) (j+1) (k+1) (i+1) (j+1) r (aT EZ a) (aT FH b),Vq];simp only [show k+1+n=k+(n+1) by exact aT Px,show i+1+n=i+(n+1) by exact aT Px,show j+1+n=j+(n+1) by exact aT Px];simp
def Cm(c:b<=aC L):uH (L++M') a b=uH L a b:=by
 unfold uH;by_cases d:a<=aC L
 .rw [J9 d,List.take_append_of_le_length (by rw [kE];exact aT 0x848648ac6290052414cc21ccc1003 c)]
 .rw [show b-a=0 by exact aT 0x120cc08c56603a49189230ccc1003 c d];simp
def An:uH (L++M') (aC L+a) (aC L+b)=uH M' a b:=by
 unfold uH;rw [List.drop_append,Xq (by exact aT Jm),kT]
 congr 1
 .exact aT 0x1106461c8065518c5600ccc314cc810101003
 .congr 1;exact aT OL
noncomputable def CQ(a b c:Nat)(e:T3):T3:=(a+e.1,b+e.2.1,c+e.2.2)
def Xw:∀(L:jU)(o p q:Nat),
  Bb (A++A') (B++B') (C++C') (L.map (CQ (aC A) (aC B) (aC C))) (aC A+o) (aC B+p) (aC C+q)=Bb A' B' C' L o p q:=by
 have a:∀o p q k i j,pc (A++A') (B++B') (C++C') (aC A+o) (aC B+p) (aC C+q) (aC A+k) (aC B+i) (aC C+j)=pc A' B' C' o p q k i j:=λo p q k i j=>by
  unfold pc;rw [An,An,An];by_cases h:(o,p,q)=(k,i,j)
  .rw [if_pos h,if_pos (by simp only [gX]at h⊢;exact aT 0x614491430462c62d0531766410bb32d032e8c8117465a0253a0053b18b2988b18961009 h)]
  .rw [if_neg h,if_neg (by simp only [gX]at h⊢;exact aT 0x830a248a18062e9318b414c5d99042eccb40cba32045d1968094e8014ee9318b2988b18961009 h)]
 intro L
 induction L with
 |nil=>intro o p q;rw [A3,Bs,Bs,bD,bD,bD,a]
 |cons e L b=>
  obtain ⟨k,i,j⟩:=e;intro o p q;rw [cE];show Bb _ _ _ ((aC A+k,aC B+i,aC C+j)::_) _ _ _=_;rw [rY,rY,a,fR,fR,fR,b]
  congr 2
  rw [aY,aY,pP (by exact aT Jm),show aC A+k-aC A=k by exact aT OL]
def BF:∀(L:jU)(o p q:Nat),(∀e∈L,e.1<aC A/\e.2.1<=aC B/\e.2.2<=aC C)->
  Bb (A++A') (B++B') (C++C') (L++(aC A,aC B,aC C)::r) o p q=Bb A B C L o p q++kS (A'.getD 0 0)::Bb (A++A') (B++B') (C++C') r (aC A+1) (aC B+1) (aC C+1):=by
 have a:∀o p q k i j,k<=aC A->i<=aC B->j<=aC C->pc (A++A') (B++B') (C++C') o p q k i j=pc A B C o p q k i j:=λo p q k i j h1 h2 h3=>by unfold pc;rw [Cm h1,Cm h2,Cm h3]
 intro L
 induction L with
 |nil=>
  intro o p q _;rw [kT,rY,Bs,a _ _ _ _ _ _ (bG _) (bG _) (bG _)]
  congr 2
  rw [aY,aY,pP (bG _),aEd]
 |cons e L b=>obtain ⟨k,i,j⟩:=e;intro o p q h;have h0:=h _ aQ;rw [fV,rY,rY,a _ _ _ _ _ _ (iG h0.1) h0.2.1 h0.2.2,b _ _ _ λe c=>h e (aO _ c)];rw [aY,aY,xQ h0.1];simp
noncomputable def Mw(t:I5):bE:=if t.2.1=t.1 then t.2.2 else if t.2.2=t.1\/t.2.1=t.2.2 then t.2.1 else t.2.1++t.2.2
noncomputable def jn(l:List I5):bE:=l.flatMap Mw
def zR:jn (l++m)=jn l++jn m:=Dl
def yA:jn (t::m)=Mw t++jn m:=rfl
def zS:Mw (kS x)=[x]:=if_pos rfl
def PK:∀l:bE,jn (l.map kS)=l:=by
 intro l
 induction l with
 |nil=>rfl
 |cons x l a=>simp only [cE,yA,zS,a];rfl
inductive Kp(A B C:bE):jU->Nat->Nat->Nat->Prop
 |nil {o p q:Nat} (h1:o<=aC A) (h2:p<=aC B) (h3:q<=aC C):Kp A B C [] o p q
 |cons {k i j o p q:Nat} {r:jU} (h1:o<=k) (h2:p<=i) (h3:q<=j) (a:k<aC A) (b:i<aC B) (c:j<aC C) (e1:B.getD i 0=A.getD k 0) (e2:C.getD j 0=A.getD k 0) (t:Kp A B C r (k+1) (i+1) (j+1)):Kp A B C ((k,i,j)::r) o p q
def Ao(h:a<=b):L.drop a=uH L a b++L.drop b:=by have:=(tS (b-a) (L.drop a)).symm;rwa[List.drop_drop,show a+(b-a)=b by exact aT TO h]at this
def uZ{L:bE}{a:Nat}(h:a<aC L):L.drop a=L.getD a 0::L.drop (a+1):=by simp only [iI h,aY,bO h];rfl
def uD:uH L a (aC L)=L.drop a:=by unfold uH;exact tA (by rw [kE];exact aT 0x8c520001)
def Vk:uH L a a=[]:=by unfold uH;simp
def DD(h:x∈jn (pc A B C o p q k i j)):x∈uH B p i\/x∈uH C q j:=by
 unfold pc at h;split at h
 .cases h
 .rw [jn,fE,qH,dI,Mw]at h;split at h
  .exact .inr h
  .split at h
   .exact .inl h
   .exact cU.mp h
def LV{A B C:bE}{o p q:Nat}(h:Kp A B C L o p q){x:Int}:x∈jn (Bb A B C L o p q)->x∈B.drop p\/x∈C.drop q:=by
 induction h with
 |nil h1 h2 h3=>
  intro d;rcases DD d with z|z
  .rw [uD]at z;exact .inl z
  .rw [uD]at z;exact .inr z
 | @cons k i j o p q r h1 h2 h3 a b c e l t f=>
  intro d;simp only [rY,zR,yA,zS]at d;have g:B.drop p=uH B p i++B.getD i 0::B.drop (i+1):=by rw [Ao h2,uZ b]
  refine g▸?_;refine ((by rw [Ao h3,uZ c]:C.drop q=uH C q j++C.getD j 0::C.drop (j+1)))▸?_;rcases cU.mp d with z|z
  .rcases DD z with y|y
   .exact .inl (iA _ y)
   .exact .inr (iA _ y)
  .rcases cU.mp z with y|y
   .rw [aM.mp y,<-e];exact .inl (lV _ aQ)
   .rcases f y with w|w
    .exact .inl (lV _ (aO _ w))
    .exact .inr (lV _ (aO _ w))
def U8{A B C:bE}(f:Int->Bool){o p q:Nat}(h:Kp A B C L o p q):(jn (Bb A B C L o p q)).countP f<=(B.drop p).countP f+(C.drop q).countP f:=by
 have d:∀o p q k i j,(jn (pc A B C o p q k i j)).countP f<=(uH B p i).countP f+(uH C q j).countP f:=λo p q k i j=>by
  unfold pc;split
  .simp [jn]
  .simp only [jn,fE,qH,dI,Mw];split
   .exact aT 0x2314a001002
   .split
    .exact aT Jm
    .simp only [wJ];exact aT 0x8c52808101002
 induction h with
 | @nil o p q h1 h2 h3=>have:=d o p q (aC A) (aC B) (aC C);rwa[uD,uD]at this
 | @cons k i j o p q r h1 h2 h3 a b c e g t l=>
  simp only [rY,zR,yA,zS];have m:B.drop p=uH B p i++B.getD i 0::B.drop (i+1):=by rw [Ao h2,uZ b]
  simp only [m,(by rw [Ao h3,uZ c]:C.drop q=uH C q j++C.getD j 0::C.drop (j+1)),e,g];have:=d o p q k i j;simp only [wJ,lJ,List.countP_nil];exact aT 0x1c62942105388a6420a709108020a730d28298834a041007 l this
def Vr:jn (pc A A C o o q k k j)=uH C q j:=by
 unfold pc;split
 .rename_i h;simp only [gX]at h;refine h.2.2▸?_;refine Vk▸?_;rfl
 .simp only [jn,fE,qH,dI,Mw,if_true]
def Kg:jn (pc A B A o p o k i k)=uH B p i:=by
 unfold pc;split
 .rename_i h;simp only [gX]at h;refine h.2.1▸?_;refine Vk▸?_;rfl
 .simp only [jn,fE,qH,dI,Mw];split
  .rename_i h;exact h.symm
  .rfl
def BE:∀{L:jU}{o q:Nat},Kp A A C L o o q->(∀e∈L,e.2.1=e.1)->jn (Bb A A C L o o q)=C.drop q:=by
 intro L
 induction L with
 |nil=>intro o q _ _;simp only [Bs,Vr,uD]
 |cons e L d=>
  obtain ⟨k,i,j⟩:=e;intro o q h hd;have hi:i=k:=hd _ aQ;subst hi
  cases h with
  |cons h1 h2 h3 a b c l f t=>simp only [rY,zR,yA,zS,Vr,d t λe g=>hd e (aO _ g),Ao h3,uZ c,f];rfl
def Sk:∀{L:jU}{o p:Nat},Kp A B A L o p o->(∀e∈L,e.2.2=e.1)->jn (Bb A B A L o p o)=B.drop p:=by
 intro L
 induction L with
 |nil=>intro o p _ _;simp only [Bs,Kg,uD]
 |cons e L d=>
  obtain ⟨k,i,j⟩:=e;intro o p h hd;have f:j=k:=hd _ aQ;subst f
  cases h with
  |cons h1 h2 h3 a b c g m t=>simp only [rY,zR,yA,zS,Kg,d t λe l=>hd e (aO _ l),Ao h2,uZ b,g];rfl
def Wl(h1:a≠old)(h2:b≠old):Mw (old,a,b)=a++b\/(a=b/\Mw (old,a,b)=a):=by
 unfold Mw;dsimp only;rw [if_neg h1];by_cases h:a=b
 .rw [if_pos (.inr h)];exact .inr ⟨h,rfl⟩
 .rw [if_neg (by rintro (q|q)<;>contradiction)];exact .inl rfl
def Mv:jn [t]=Mw t:=by simp [jn]
def Gq(e:L=a::r)(d:0<b):∃s,uH L 0 b=a::s:=by subst e;unfold uH;rw [tC];obtain ⟨b,rfl⟩:∃c,b=c+1:=⟨b-1,aT 0x8c92518ad070054134cc7001 d⟩;rw [show b+1-0=b+1 by exact aT 0x441a8c5683841331907001,List.take_succ_cons];exact ⟨_,rfl⟩
def Vs(f:A=a::A')(g:B=b::B')(h:C=c::C')(d:0<k)(hi:0<i)(l:0<j)(h1:b≠a)(h2:c≠a):∃s,jn (pc A B C 0 0 0 k i j)=b::s:=by
 obtain ⟨r,m⟩:=Gq f d;obtain ⟨e,n⟩:=Gq g hi;obtain ⟨o,p⟩:=Gq h l;unfold pc;rw [if_neg (by simp only [gX];exact aT 0x6018ba4c62c46584cb01940303 d),Mv,m,n,p];rcases Wl (λq=>h1 (qB q).1) (λq=>h2 (qB q).1)with q|⟨_,q⟩
 .exact ⟨e++c::o,q⟩
 .exact ⟨e,q⟩
def BH(d:A=a::A')(f:B=b::B')(g:C=c::C')(h1:b≠a)(h2:c≠a)(l:∀e∈L,0<e.1/\0<e.2.1/\0<e.2.2):∃s,jn (Bb A B C L 0 0 0)=b::s:=by
 cases L with
 |nil=>rw [Bs];exact Vs d f g (by rw [d];simp) (by rw [f];simp) (by rw [g];simp) h1 h2
 |cons e L=>obtain ⟨k,i,j⟩:=e;have h:=l _ aQ;obtain ⟨s,e⟩:=Vs d f g h.1 h.2.1 h.2.2 h1 h2;rw [rY,zR,e];exact ⟨_,rfl⟩
def Gp(h:o<=aC L'):uH (L'++[a]) o (L'++[a]).length=L'.drop o++[a]:=by rw [uD,J9 h]
def NB(h1:b≠a)(h2:c≠a)(d:o<=aC A')(g:p<=aC B')(i:q<=aC C'):∃s,jn (pc (A'++[a]) (B'++[b]) (C'++[c]) o p q (A'++[a]).length (B'++[b]).length (C'++[c]).length)=s++[c]:=by
 unfold pc;rw [if_neg (by simp only [gX,bD,eM,A8];exact aT 0xc0317498c5a107314c45a10730c4b420e608121006 d),Mv,Gp d,Gp g,Gp i];have f:∀{s t:bE}{x y:Int},x≠y->s++[x]≠t++[y]:=λh e=>h (qB (List.append_inj' e rfl).2).1;rcases Wl (f h1) (f h2)with z|⟨e,z⟩
 .exact ⟨B'.drop p++[b]++C'.drop q,by rw [z];simp⟩
 .exact ⟨C'.drop q,by rw [z,e]⟩
def BG(h1:b≠a)(h2:c≠a):∀{L:jU}{o p q:Nat},o<=aC A'->p<=aC B'->q<=aC C'->(∀e∈L,e.1<aC A'/\e.2.1<aC B'/\e.2.2<aC C')->∃s,jn (Bb (A'++[a]) (B'++[b]) (C'++[c]) L o p q)=s++[c]:=by
 intro L
 induction L with
 |nil=>intro o p q d f g _;exact NB h1 h2 d f g
 |cons e L l=>obtain ⟨k,i,j⟩:=e;intro o p q _ _ _ h;have h0:=h _ aQ;obtain ⟨s,e⟩:=l h0.1 h0.2.1 h0.2.2 λe m=>h e (aO _ m);simp only [rY,zR,yA,e];exact ⟨_,(by rw [<-dM,<-dM])⟩
def QH(h:0<aC A):Gr A A 0 (aC A) 0 (aC A) (λe=>e=(0,0,aC A)):=by
 refine ⟨λe a=>?_,λe f a b=>.inl (a.trans b.symm),λe h0 c=>?_⟩
 .subst a;exact ⟨h,⟨bG _,by dsimp only;exact aT FE,bG _,by dsimp only;exact aT FE,λt _=>rfl⟩⟩
 .have:=c.a1;have:=c.b1;by_cases a:e=(0,0,aC A)
  .exact .inl a
  .refine .inr ⟨(0,0,aC A),rfl,?_,λd=>?_⟩
   .rcases kL e.2.2 (aC A)with q|q
    .exact .inl q
    .exact absurd (kZ (by dsimp only;exact aT UA ‹_› q) (kZ (by dsimp only;exact aT UA this q) (by dsimp only;exact aT 0x158c5620a42248901003 ‹_› q))) a
   .rcases d with q|q
    .have:=q.1;dsimp only at this;exact aT 0x1c632485023244800540303 h0 ‹_› this
    .have:=q.1;dsimp only at this;exact aT 0x631924c800540302 h0 this
section
variable{A B:bE}{M:T3->Prop}{ax wx ay wy:Nat}
def ĉ(M:T3->Prop)(ax ay:Nat):Prop:=(ax=0/\ay=0)\/∃L,M L/\ax=L.1+L.2.2/\ay=L.2.1+L.2.2
def SP(A B:bE)(M:T3->Prop)(wx wy:Nat):Prop:=(wx=aC A/\wy=aC B)\/∃L,M L/\wx=L.1/\wy=L.2.1
def Gr.tri(g:Gr A B 0 (aC A) 0 (aC B) M)(lo:ĉ M ax ay)(hi:SP A B M wx wy)(d:M e):(e.1+e.2.2<=ax/\e.2.1+e.2.2<=ay)\/(wx<=e.1/\wy<=e.2.1)\/InR ax wx ay wy e:=by
 have c:=(g.run e d).2;by_cases h1:e.1+e.2.2<=ax/\e.2.1+e.2.2<=ay
 .exact .inl h1
 by_cases h2:wx<=e.1/\wy<=e.2.1
 .exact .inr (.inl h2)
 refine .inr (.inr ?_);have l:ax<=e.1/\ay<=e.2.1:=by
  rcases lo with q|⟨L,m,a,b⟩
  .exact aT 0x1a462c48c291018b30566004 q
  .rcases g.chn e L d m with r|r|r
   .subst r;exact aT 0x24930c062c48c890096808c8b40402749892202348901005 h1 a b
   .have:=r.1;have:=r.2;exact aT 0x9292c4c418b1232240249746404692990102d053974622d05394c2749892202348901008 h1 a b ‹_› this
   .have:=r.1;have:=r.2;exact aT 0x2d28c58929c692980929d02224a64082b408835a041007 a b ‹_› this
 have u:e.1+e.2.2<=wx/\e.2.1+e.2.2<=wy:=by
  rcases hi with q|⟨L,m,a,b⟩
  .exact aT 0x12d118b1253a023494c80818b214eb114c92202348901007 (c.a1) (c.b1) q
  .rcases g.chn e L d m with r|r|r
   .subst r;exact aT 0x228a8a062c489041a4082056312c207498918921005 h2 a b
   .have:=r.1;have:=r.2;exact aT 0x138a3162448298a74810531123414c53a4282988b18961007 a b ‹_› this
   .have:=r.1;have:=r.2;exact aT 0x8a8aa4a418b122417461a4082e8c148d05394c90a0a722ca612c807498918921008 h2 a b ‹_› this
 exact ⟨l.1,u.1,l.2,u.2⟩
def SP.le(g:Gr A B 0 (aC A) 0 (aC B) M)(hi:SP A B M wx wy):wx<=aC A/\wy<=aC B:=by
 rcases hi with q|⟨L,m,a,b⟩
 .exact aT 0x1a462c48c490818b18961004 q
 .have c:=(g.run L m).2;have:=c.a1;have:=c.b1;exact aT 0x2d28c58929c492980929d041a4a64102b18961007 a b ‹_› this
def Gr.gap(g:Gr A B 0 (aC A) 0 (aC B) M)(lo:ĉ M ax ay)(hi:SP A B M wx wy):Gr A B ax wx ay wy (λe=>M e/\InR ax wx ay wy e):=by
 refine nn λh=>?_;obtain ⟨i,j⟩:=hi.le g;refine h ?_;refine ⟨λe a=>⟨(g.run e a.1).1,⟨a.2.1,a.2.2.1,a.2.2.2.1,a.2.2.2.2,(g.run e a.1).2.eq⟩⟩,λe f a k=>g.chn e f a.1 k.1,λe h0 c=>?_⟩;have:=c.a0;have:=c.a1;have:=c.b0;have:=c.b1;rcases g.out e h0 (JB c (bI _) i (bI _) j)with q|⟨f,d,l,b⟩
 .exact .inl ⟨q,c.a0,c.a1,c.b0,c.b1⟩
 .rcases g.tri lo hi d with r|r|r
  .exact absurd (.inl ⟨aT 0xd18a42818989299032240818921006 ‹_› r,aT 0x16314850329989020653248818921006 ‹_› r⟩) b
  .exact absurd (.inr ⟨aT 0x346291a020624a62246248901006 ‹_› r,aT 0x58c52532020624a61248348901006 this r⟩) b
  .exact .inr ⟨f,⟨d,r⟩,l,b⟩
def Gr.inGap(g:Gr A B 0 (aC A) 0 (aC B) M)(lo:ĉ M ax ay)(hi:SP A B M wx wy)(a:M e)(h1:ay<=j)(h2:j<wy)(h3:e.2.1<=j)(h4:j<e.2.1+e.2.2):InR ax wx ay wy e:=by
 rcases g.tri lo hi a with r|r|r
 .exfalso;exact aT 0x1a319312040c49299032290310521006 h1 h4 r
 .exfalso;exact aT 0x34632624414906900941005 h2 h3 r
 .exact r
def Gr.shift(g:Gr (A1++A'++A2) (B1++B'++B2) (aC A1) (aC A1+aC A') (aC B1) (aC B1+aC B') M):Gr A' B' 0 (aC A') 0 (aC B') (λe=>M (aC A1+e.1,aC B1+e.2.1,e.2.2)):=by
 have b:∀{L1 L' L2:bE}{i:Nat},i<aC L'->(L1++L'++L2).getD (aC L1+i) 0=L'.getD i 0:=λ{L1 L' L2 i} h=>by rw [aY,aY,dM,pP (by exact aT Jm),show aC L1+i-aC L1=i by exact aT OL,xQ h]
 refine ⟨λe d=>?_,λe f d n=>?_,λe h0 c=>?_⟩
 .obtain ⟨h0,c⟩:=g.run _ d;have c1:=c.a1;have c2:=c.b1;dsimp only at h0 c1 c2;refine ⟨h0,⟨bI _,aT Yt c1,bI _,aT Yt c2,λt a=>?_⟩⟩;have:=c.eq t a;dsimp only at this;rwa[fR,fR,b (by exact aT VF c1 a),b (by exact aT VF c2 a)]at this
 .rcases g.chn _ _ d n with q|q|q
  .simp only [gX]at q;exact .inl (kZ (by exact aT 0x430462b1058c5974629d682986820d6810101008 q) (kZ (by exact aT 0x2488c5653118c5974629d682986820d6810101008 q) q.2.2))
  .exact .inr (.inl ⟨by have:=q.1;dsimp only at this;exact aT Yt this,by have:=q.2;dsimp only at this;exact aT Yt this⟩)
  .exact .inr (.inr ⟨by have:=q.1;dsimp only at this;exact aT Yt this,by have:=q.2;dsimp only at this;exact aT Yt this⟩)
 .have c1:=c.a1;have c2:=c.b1;have o:Cr (A1++A'++A2) (B1++B'++B2) (aC A1) (aC A1+aC A') (aC B1) (aC B1+aC B') (aC A1+e.1) (aC B1+e.2.1) e.2.2:=⟨by exact aT Jm,by exact aT UL c1,by exact aT Jm,by exact aT UL c2,λt a=>by have:=c.eq t a;rw [fR,fR,b (by exact aT OM c1 a),b (by exact aT OM c2 a),this]⟩;rcases g.out (aC A1+e.1,aC B1+e.2.1,e.2.2) h0 o with q|⟨⟨i,j,k⟩,p,v,x⟩
  .exact .inl q
  .have f:=(g.run _ p).2;have l:=f.a0;have m:=f.b0;dsimp only at l m;refine .inr ⟨(i-aC A1,j-aC B1,k),?_,?_,λz=>x ?_⟩
   .rwa[show aC A1+(i-aC A1)=i by exact aT TO l,show aC B1+(j-aC B1)=j by exact aT TO m]
   .rcases v with r|⟨r,s|⟨s,u⟩⟩<;>dsimp only at r
    .exact .inl r
    .exact .inr ⟨r,.inl (Se l s)⟩
    .exact .inr ⟨r,.inr ⟨Nat.sub_eq_of_eq_add' s,Se m u⟩⟩
   .rcases z with ⟨r,s⟩|⟨r,s⟩<;>dsimp only at r s
    .exact .inl ⟨by dsimp only;exact aT VL r,by dsimp only;exact aT VL s⟩
    .exact .inr ⟨by dsimp only;exact aT ź h0 r,by dsimp only;exact aT ź h0 s⟩
end
structure Mx(A B:bE)(e:T3):Prop where
 cr:Cr A B 0 (aC A) 0 (aC B) e.1 e.2.1 e.2.2
 lo:∀i j,e.1=i+1->e.2.1=j+1->A.getD i 0≠B.getD j 0
 hi:e.1+e.2.2<aC A->e.2.1+e.2.2<aC B->A.getD (e.1+e.2.2) 0≠B.getD (e.2.1+e.2.2) 0
def Ū:∀(n:Nat){i j k:Nat},aC A-(i+k)<=n->Cr A B 0 (aC A) 0 (aC B) i j k->∃a,k<=a/\Cr A B 0 (aC A) 0 (aC B) i j a/\(i+a<aC A->j+a<aC B->A.getD (i+a) 0≠B.getD (j+a) 0):=by
 intro n
 induction n with
 |zero=>intro i j k h c;exact ⟨k,bG _,c,λh1=>aT 0x110b03173a572e8c53a8a640c8a0a0624981332041025 h h1⟩
 |succ n b=>
  intro i j k h c;by_cases q:i+k<aC A/\j+k<aC B/\A.getD (i+k) 0=B.getD (j+k) 0
  .have d:Cr A B 0 (aC A) 0 (aC B) i j (k+1):=⟨c.a0,aT 0x1118a44841c20632e5394ca2202350901025 q,c.b0,aT 0x918a48841c23632e5394ca2202350901025 q,λt f=>by
    by_cases e:t=k
    .subst e;exact q.2.2
    .exact c.eq t (aT EX f e)⟩
   refine nn λg=>?_;obtain ⟨a,h1,h2,h3⟩:=b (aT 0x584054718a4a60250729833321071883332041004 h) d;refine g ?_;exact ⟨a,aT Py h1,h2,h3⟩
  .exact ⟨k,bG _,c,λh1 h2 h3=>q ⟨h1,h2,h3⟩⟩
def ũ:∀(i:Nat){j k:Nat},Cr A B 0 (aC A) 0 (aC B) i j k->∃d e,d<=i/\i+e=d+j/\Cr A B 0 (aC A) 0 (aC B) d e (k+(i-d))/\∀a b,d=a+1->e=b+1->A.getD a 0≠B.getD b 0:=by
 intro i
 induction i with
 |zero=>intro j k c;exact ⟨0,j,bG _,rfl,c,λa b h=>aT 0x2018b9d2b906b41c415a0e0323 h⟩
 |succ i f=>
  intro j k c;by_cases q:∃b,j=b+1/\A.getD i 0=B.getD b 0
  .obtain ⟨b,rfl,q⟩:=q;have:=c.a1;have:=c.b1;have g:Cr A B 0 (aC A) 0 (aC B) i b (k+1):=⟨bI _,aT UK ‹_›,bI _,aT UK this,λt l=>by
    cases t with
    |zero=>exact q
    |succ t=>have:=c.eq t (aT 0xc62a0814838507002 l);rwa[show i+(t+1)=i+1+t by exact aT EV,show b+(t+1)=b+1+t by exact aT EV]⟩
   refine nn λm=>?_;obtain ⟨d,e,h1,h2,h3,h4⟩:=f g;refine m ?_;exact ⟨d,e,aT Pv h1,aT 0x7462b420e3120283816818901004 h2,by rwa[show k+(i+1-d)=k+1+(i-d) by exact aT 0x4a0886144848a51462b4010722024488733083330507003 h1],h4⟩
  .exact ⟨i+1,j,bG _,rfl,by rwa[aEd],λa b h1 h2 h3=>q ⟨b,h2,by rwa[show i=a by exact aT 0x7462b0816838507002 h1]⟩⟩
def TM(c:Cr A B 0 (aC A) 0 (aC B) i j k):∃e,Mx A B e/\e.1<=i/\i+e.2.1=e.1+j/\i+k<=e.1+e.2.2:=by refine nn λa=>?_;obtain ⟨b,d,h1,h2,h3,h4⟩:=ũ i c;obtain ⟨f,g1,g2,g3⟩:=Ū _ (bG _) h3;refine a ?_;exact ⟨(b,d,f),⟨g2,h4,g3⟩,h1,h2,by dsimp only;exact aT 0x26b18a50412061491001ccc1004 g1⟩
def Mx.sub(m:Mx A B e)(c:Cr A B 0 (aC A) 0 (aC B) i j k)(hd:i+e.2.1=e.1+j)(h1:i<=e.1+e.2.2)(h2:e.1<=i+k):e.1<=i/\i+k<=e.1+e.2.2:=by
 have:=c.a1;have:=c.b1;constructor
 .refine fD λh=>?_;refine m.lo (e.1-1) (e.2.1-1) (aT 0x8c92518ad070054114cc7002 h) (aT 0x41948488c5683802a1896820d0114cc7004 hd h) ?_;have:=c.eq (e.1-1-i) (aT 0x40a04a2268c544028434a08314cc204cc7003 h2 h);rwa[show i+(e.1-1-i)=e.1-1 by exact aT 0x828282824719050918ac2800d421ccc204cc7002 h,show j+(e.1-1-i)=e.2.1-1 by exact aT 0x2004011055c4540940118014009404011055ac54094011254a45462b020253a8645a0a71a0a624cc724cc204cc7004 hd h]at this
 .refine fD λh=>?_;refine m.hi (aT 0xe31509041a9010208348901005 ‹_› h) (aT 0xf18a8a6414e152080414e2494c820d6818901007 hd this h) ?_;have:=c.eq (e.1+e.2.2-i) (aT 0x1216315100a41068105281047330901004 h1 h);rwa[show i+(e.1+e.2.2-i)=e.1+e.2.2 by exact aT 0x2512a462b4082800d281047330901003 h1,show j+(e.1+e.2.2-i)=e.2.1+e.2.2 by exact aT 0x42846528c56811100299281046b414c14107330901005 hd h1]at this
abbrev WU(X Y:bE)(i j k:Nat):Prop:=Cr X Y 0 (aC X) 0 (aC Y) i j k
structure Tw(X Y:bE)(t0 t1 u0 u1:Nat)(e0 e1 e2:Prop):Prop where
 o1:t0+7<t1
 o2:u0+7<u1
 z1:0<t0
 z2:0<u0
 z3:t1+7<aC X
 z4:u1+7<aC Y
 c0:WU X Y t0 u0 7
 c1:WU X Y t1 u1 7
 k0:e0->t0=u0/\WU X Y 0 0 t0
 k1:e1->t1+u0=t0+u1/\WU X Y (t0+7) (u0+7) (t1-(t0+7))
 k2:e2->aC X+u1=t1+aC Y/\WU X Y (t1+7) (u1+7) (aC X-(t1+7))
 wx:∀i,i+7<=aC X->(∀t,t<7->0<=X.getD (i+t) 0)->i=t0\/i=t1
 wy:∀j,j+7<=aC Y->(∀t,t<7->0<=Y.getD (j+t) 0)->j=u0\/j=u1
 sgn:∀i j,i<aC X->j<aC Y->X.getD i 0=Y.getD j 0->X.getD i 0<0->(e0/\i<t0/\i=j)\/(e1/\t0+7<=i/\i<t1/\i+u0=t0+j)\/(e2/\t1+7<=i/\i+u1=t1+j)
 x0:X.getD (t0-1) 0<0
 x1:X.getD (t0+7) 0<0
 x2:X.getD (t1-1) 0<0
 x3:X.getD (t1+7) 0<0
def Sb(i j k:Nat)(L:T3):Prop:=L.1<=i/\i+k<=L.1+L.2.2/\i+L.2.1=L.1+j
def Ď(M:T3->Prop)(i j k:Nat):Prop:=∃L,M L/\Sb i j k L
section
variable{X Y:bE}{t0 t1 u0 u1:Nat}{e0 e1 e2:Prop}{M:T3->Prop}{L0 L1:T3}
def Mx.ins(m:Mx X Y e)(c:WU X Y i j k)(hd:i+e.2.1=e.1+j)(h1:i<=e.1+e.2.2)(h2:e.1<=i+k):Sb i j k e:=⟨(m.sub c hd h1 h2).1,(m.sub c hd h1 h2).2,hd⟩
def Tw.ends(w:Tw X Y t0 t1 u0 u1 e0 e1 e2)(b:Mx X Y L0)(k:Mx X Y L1)(h0:Sb t0 u0 7 L0)(h1:Sb t1 u1 7 L1):
  (e0->Sb 0 0 t0 L0)/\(¬e0->L0.1=t0/\L0.2.1=u0)/\(e1->L0=L1/\Sb (t0+7) (u0+7) (t1-(t0+7)) L0)/\
  (¬e1->L0.1+L0.2.2=t0+7/\L0.2.1+L0.2.2=u0+7/\L1.1=t1/\L1.2.1=u1)/\
  (e2->Sb (t1+7) (u1+7) (aC X-(t1+7)) L1)/\(¬e2->L1.1+L1.2.2=t1+7/\L1.2.1+L1.2.2=u1+7):=by
 refine nn λt=>?_;obtain ⟨a1,r,a⟩:=h0;obtain ⟨b1,l,d⟩:=h1;refine t ?_;have o1:=w.o1;have o2:=w.o2;have z1:=w.z1;have z2:=w.z2;have z3:=w.z3;have z4:=w.z4;have at_:∀{L:T3},Mx X Y L->∀i j,L.1<=i->i<L.1+L.2.2->i+L.2.1=L.1+j->X.getD i 0=Y.getD j 0:=λ{L} m i j h1 h2 h3=>by have:=m.cr.eq (i-L.1) (aT ZY h1 h2);rwa[show L.1+(i-L.1)=i by exact aT TO h1,show L.2.1+(i-L.1)=j by exact aT 0x1b8a4d28c5644006b410481852114cc1004 h1 h3]at this
 refine ⟨λh=>?_,λh=>?_,λh=>?_,λh=>?_,λh=>?_,λh=>?_⟩
 .obtain ⟨f,n⟩:=w.k0 h;exact b.ins n (aT 0x366315a0c2404cb1816818901004 a f) (aT 0x2314a020302) (aT 0x318a50130121002 a1)
 .have:L0.1=t0:=by
   refine gO a1 (fD λc=>?_);have x:=b.cr.b1;have y:=z2;have e:=at_ b (t0-1) (u0-1) (aT Tp c) (aT VQ r) (aT aAb a c);rcases w.sgn _ _ (aT Ź o1 z3) (by exact aT Ź o2 z4) e w.x0 with q|q|q
   .exact h q.1
   .replace q:=q.2;exact aT 0x64c8c64c62d0012023510691a3e614cc7004 q
   .replace q:=q.2;exact aT 0x153a319316800d0222488f986a123e60ccc7004 o2 q
  exact ⟨this,by exact aT UT a this⟩
 .obtain ⟨f,n⟩:=w.k1 h;have s:=b.ins n (by exact aT OS a) (by exact aT VD r) (by exact aT TR a1);have g:=b.ins w.c1 (by have:=s.2.2;exact aT 0xba8c5682984809168298081916818901006 a f) (by have:=s.2.1;exact aT 0x9ac629410614a0834011f30a6647cc1004 this) (by exact aT 0x38c528f98405091f30521003 a1 o1);have o:=k.ins b.cr (by have:=g.2.2;exact aT 0x26b318ad0129d05309682e8c040c8b4174629d053116818901008 a d f) (by have:=g.1;exact aT Γ a1 l o1) (by have:=g.2.1;exact aT VC b1 this);have p:=b.ins k.cr (by have:=g.2.2;exact aT 0x19cd18ad053090129d682e8c040c8b4174629d053116818901008 a d f) (by have:=g.2.1;exact aT VC b1 this) (by have:=g.1;exact aT Γ a1 l o1);refine ⟨kZ ?_ (kZ ?_ ?_),s⟩
  .have:=o.1;have:=p.1;exact aT 0x3a315802900521002 ‹_› this
  .have:=o.1;have:=p.1;have:=o.2.2;exact aT 0xcb9a8c565305253892229d682e8c040c8b4174629d053116818901008 a d f ‹_› ‹_›
  .have:=o.1;have:=p.1;have:=o.2.1;have:=p.2.1;exact aT 0x1558c563125020a0604a0604082900521004 ‹_› ‹_› ‹_› this
 .have u:L0.1+L0.2.2=t0+7:=by
   refine gO (fD λc=>?_) r;have x:=b.cr.b1;have e:=at_ b (t0+7) (u0+7) (by exact aT 0x6314a3e608121002 a1) (by exact aT VB c) (by exact aT OS a);rcases w.sgn _ _ (by exact aT VP o1 z3) (by exact aT VP o2 z4) e w.x1 with q|q|q
   .replace q:=q.2;exact aT 0x83193168f9828f980a023e6002 q
   .exact h q.1
   .replace q:=q.2;exact aT 0x3063262d08f98614091f30128f9808f982a0a3e6004 o1 q
  have v:L1.1=t1:=by
   refine gO b1 (fD λc=>?_);have e:=at_ k (t1-1) (u1-1) (by exact aT Tp c) (by exact aT VQ l) (by exact aT aAb d c);rcases w.sgn _ _ (by exact aT US z3) (by exact aT US z4) e w.x2 with q|q|q
   .replace q:=q.2;exact aT 0x90b063262c605080a0a3e614cc7003 o1 q
   .exact h q.1
   .replace q:=q.2;exact aT 0x1860c64c5a06140809023e60ccc7003 q
  exact ⟨u,by exact aT Θ a u,v,by exact aT UT d v⟩
 .obtain ⟨f,n⟩:=w.k2 h;exact k.ins n (by exact aT OS d) (by exact aT VD l) (by exact aT TR b1)
 .have:L1.1+L1.2.2=t1+7:=by
   refine gO (fD λc=>?_) l;have e:=at_ k (t1+7) (u1+7) (by exact aT 0x6314a3e608121002 b1) (by exact aT VB c) (by exact aT OS d);rcases w.sgn _ _ (by exact aT TZ z3) (by exact aT TZ z4) e w.x3 with q|q|q
   .replace q:=q.2;exact aT 0x60c64c5a3e6123e60a808f982a0a3e6003 o1 q
   .replace q:=q.2;exact aT 0x20c64c62d08f98604091f3054147cc14a3e60a3e6004 q
   .exact h q.1
  exact ⟨this,by exact aT Θ d this⟩
def Tw.run7(w:Tw X Y t0 t1 u0 u1 e0 e1 e2)(n:Mx X Y L0)(o:Mx X Y L1)(h0:Sb t0 u0 7 L0)(h1:Sb t1 u1 7 L1)(c:WU X Y i j k)(b:7<=k):
  Sb i j k L0\/Sb i j k L1\/(k=7/\(i=t0\/i=t1)/\(j=u0\/j=u1)):=by
 have o1:=w.o1;have o2:=w.o2;refine nn λv=>?_;obtain ⟨x,C,y,D,z,F⟩:=w.ends n o h0 h1;refine v ?_;have m:=c.a1;have p:=c.b1;by_cases r:∃t,t<k/\X.getD (i+t) 0<0
 .obtain ⟨t,a,A⟩:=r;rcases w.sgn _ _ (aT OM m a) (aT OM p a) (c.eq t a) A with ⟨h,d,e⟩|⟨h,d,e,B⟩|⟨h,d,e⟩
  .obtain ⟨f,g,l⟩:=x h;exact .inl (n.ins c (aT 0x2ea315a04440c0b418881996808901005 e l) (aT 0xe314a083025041a04650901005 d g) (aT 0x318a50208126003 f))
  .obtain ⟨f,g,l⟩:=(y h).2;exact .inl (n.ins c (aT ω B l) (aT 0x4eb8c52829ca61a505394c8023e61282820e6647cc1006 e g) (aT ſ a d f))
  .obtain ⟨f,g,l⟩:=z h;exact .inr (.inl (o.ins c (aT ω e l) (aT 0x4eb8c52829ca61a505394c8023e61242820e6647cc1006 m g) (aT ſ a d f)))
 .have pl:∀t,t<k->0<=X.getD (i+t) 0:=λt a=>by refine R4.mp λh=>r ⟨t,a,h⟩
  have s:=w.wx i (aT UY b m) λt a=>pl t (aT FN b a);refine .inr (.inr ⟨?_,s,w.wy j (aT UY b p) λt a=>by refine (c.eq t (aT FN b a))▸?_;exact pl t (aT FN b a)⟩);refine gO (fD λu=>?_) b;exact aT 0x9cd92319356141c4b020e26ac225804a0a3e6003 o1 s (w.wx (i+1) (aT 0xe314891f320e0507e648901003 m u) λt a=>by refine (show i+1+t=i+(t+1) by exact aT Px)▸?_;exact pl _ (aT 0xe31501070abe60a81f302 u a))
def Wh(h:vE e f):f.2.2<=e.2.2:=by unfold vE at h;exact aT 0x4338c5210358d628a622c6250c4b00541006 h
def Hl(h:Sb e.1 e.2.1 e.2.2 L)(d:L.2.2<=e.2.2):e=L:=by obtain ⟨a,b,c⟩:=h;exact kZ (aT 0xb518ac434a0024046918921004 d a b) (kZ (aT 0x16a631590a65a0a6120834a0024046918921006 d a b c) (aT 0x7918ac014a0024046918921004 d a b))
def zQ(h:vE e e):False:=by unfold vE at h;exact aT 0x1318c9ac6b14212c215042b00140003 h
def Tw.found(w:Tw X Y t0 t1 u0 u1 e0 e1 e2)(g:Gr X Y 0 (aC X) 0 (aC Y) M)(k:Mx X Y L0)(l:Mx X Y L1)(h0:Sb t0 u0 7 L0)(h1:Sb t1 u1 7 L1):M L0/\M L1:=by
 have o1:=w.o1;have o2:=w.o2;obtain ⟨v,x,m,n,y,A⟩:=w.ends k l h0 h1;have g0:M L0:=by
  have:=h0.1;have:=h0.2.1;rcases g.out L0 (aT 0x1c62a119281011f30521003 ‹_› this) k.cr with q|⟨f,o,a,p⟩
  .exact q
  .exfalso;have b:=Wh a;rcases w.run7 k l h0 h1 (g.run f o).2 (aT 0x3c6291fcc9189281011f30521004 ‹_› this b)with r|r|⟨d,s,u⟩
   .rw [Hl r b]at a;exact zQ a
   .by_cases e:e1
    .have:=(m e).1;rw [this]at a b;rw [Hl r b]at a;exact zQ a
    .obtain ⟨h,i,c,j⟩:=n e;clear v x m n y A;have:=r.1;have:=r.2.2;exact p (.inr ⟨by exact aT 0x2d8c52532062494c45848b47cc040c4a0a3e6006 o1 h c ‹_›,by exact aT 0x16b18a4ba320625a0ba314c8214e929ca65848b47cc040c4a0a3e6008 o2 i j ‹_› this⟩)
   .have t:L0.1=t0:=aT 0x10b6315840bf9869189281011f30521004 ‹_› this b d;exact aT 0x41084042141084042184848484048404843410d043410d0418c9622f0cb011ab19766588bb335612e8cb017465fcc53b58d628bc31766590ba32885d1965314ea29ca64a0a6223e602868f984a0a3e600a o1 o2 this a d s u t (by have:=h0.2.2;exact aT 0x2ea3158c4b40c0810561004 t this:L0.2.1=u0)
 refine ⟨g0,?_⟩;by_cases e:e1
 .refine ((m e).1)▸?_;exact g0
 obtain ⟨h,i,c,j⟩:=n e;clear v x m n y A;have:=h1.1;have:=h1.2.1;have:=h0.1;have:=h0.2.1;have:=h0.2.2;rcases g.out L1 (by exact aT 0x1c62a119281011f30561003 c ‹_›) l.cr with q|⟨f,o,a,p⟩
 .exact q
 .exfalso;have b:=Wh a;rcases w.run7 k l h0 h1 (g.run f o).2 (by exact aT 0x3c6291fcc9189281011f30561004 c ‹_› b)with r|r|⟨d,s,u⟩
  .have:=r.1;have:=r.2.1;have:=r.2.2;exact p (.inl ⟨by exact aT 0xb63149105394c940c4829ca65848b47cc040c4a0a3e6007 o1 h c ‹_›,by exact aT 0x16d18a48829cbb32d05d98ba32045325032e8c829ca65848b47cc040c4a0a3e6009 o2 i j ‹_› this⟩)
  .rw [Hl r b]at a;exact zQ a
  .have t:L1.2.2=7:=by exact aT 0x16c462bf984bf9869189281011f30561004 c ‹_› b d
   rcases g.chn f L0 o g0 with z|z|z
   .subst z;exact p (.inl (⟨by exact aT ž o1 h c,by exact aT ž o2 i j⟩))
   .have:=z.1;have:=z.2;exact aT 0xcad4632489032356122c045fcc34804a0a3e6005 o1 ‹_› d s ‹_›
   .have:=z.1;have:=z.2;replace a:=((kZ (by exact aT χ h c s ‹_›) (kZ (by exact aT χ i j u this) (aT 0xd98c56102fe60afe6002 d t))))▸a;exact zQ a
end
def Tw.all{e0 e1 e2:Prop}{M:T3->Prop}(w:Tw X Y t0 t1 u0 u1 e0 e1 e2)(g:Gr X Y 0 (aC X) 0 (aC Y) M):
  Ď M t0 u0 7/\Ď M t1 u1 7/\
  (e0->Ď M 0 0 t0)/\(¬e0->ĉ M 0 0/\SP X Y M t0 u0)/\
  (e1->Ď M (t0+7) (u0+7) (t1-(t0+7)))/\(¬e1->ĉ M (t0+7) (u0+7)/\SP X Y M t1 u1)/\
  (e2->Ď M (t1+7) (u1+7) (aC X-(t1+7)))/\(¬e2->ĉ M (t1+7) (u1+7)/\SP X Y M (aC X) (aC Y)):=by
 refine nn λb=>?_;obtain ⟨L0,c,a1,i,j⟩:=TM w.c0;obtain ⟨L1,d,b1,k,l⟩:=TM w.c1;refine b ?_;have h0:Sb t0 u0 7 L0:=⟨a1,j,i⟩;have h1:Sb t1 u1 7 L1:=⟨b1,l,k⟩;refine nn λb=>?_;obtain ⟨g0,g1⟩:=w.found g c d h0 h1;obtain ⟨m,e,n,a,o,f⟩:=w.ends c d h0 h1;refine b ?_;exact ⟨⟨L0,g0,h0⟩,⟨L1,g1,h1⟩,λh=>⟨L0,g0,m h⟩,λh=>⟨.inl ⟨rfl,rfl⟩,.inr ⟨L0,g0,(e h).1.symm,(e h).2.symm⟩⟩,
  λh=>⟨L0,g0,(n h).2⟩,λh=>⟨.inr ⟨L0,g0,(a h).1.symm,(a h).2.1.symm⟩,.inr ⟨L1,g1,(a h).2.2.1.symm,(a h).2.2.2.symm⟩⟩,
  λh=>⟨L1,g1,o h⟩,λh=>⟨.inr ⟨L1,g1,(f h).1.symm,(f h).2.symm⟩,.inl ⟨rfl,rfl⟩⟩⟩
def Mp(M:T3->Prop)(j i:Nat):Prop:=∃e,M e/\e.2.1<=j/\j<e.2.1+e.2.2/\i+e.2.1=e.1+j
noncomputable def fm(M:T3->Prop)(j:Nat):Option Nat:=by
 classical exact if h:∃i,Mp M j i then aG h.choose else none
section
variable{A B:bE}{ao az bo bz:Nat}{M M':T3->Prop}
def Gr.mp_uniq(g:Gr A B ao az bo bz M)(h:Mp M j i)(h':Mp M j d):i=d:=by
 refine nn λk=>?_;obtain ⟨e,m,a,b,c⟩:=h;obtain ⟨l,n,o,p,r⟩:=h';refine k ?_;rcases g.chn e l m n with q|q|q
 .subst q;exact aT 0x366315900b40c480916818901005 c r
 .have:=q.2;exact aT 0x1dc31594c448d020a40352041006 b o this
 .have:=q.2;exact aT 0x1dc31594c4481031290310521006 a p this
def Gr.fm_some(g:Gr A B ao az bo bz M):fm M j=aG i↔Mp M j i:=by
 unfold fm;split
 .rename_i h;constructor
  .intro e;cases e;exact h.choose_spec
  .intro e;exact (g.mp_uniq h.choose_spec e)▸rfl
 .rename_i h;exact ⟨λe=>(nomatch e),λe=>absurd ⟨i,e⟩ h⟩
def Gr.mono(g:Gr A B ao az bo bz M)(h:Mp M j i)(h':Mp M l n)(d:j<l):i<n:=by
 refine nn λo=>?_;obtain ⟨e,m,a,b,c⟩:=h;obtain ⟨p,r,s,t,k⟩:=h';refine o ?_;rcases g.chn e p m r with q|q|q
 .subst q;exact aT 0xb462a2984b40488194cb4008818941006 d c k
 .have:=q.1;exact aT 0x2ec62a2e8c3497664088b414e5d990531746494e532d002202352041009 b c s k this
 .have:=q.2;exact aT 0x3c31514e53244820d4820c2900941007 d a t this
def Gr.at_(g:Gr A B ao az bo bz M)(h:Mp M j i):ao<=i/\i<az/\bo<=j/\j<bz/\A.getD i 0=B.getD j 0:=by refine nn λd=>?_;obtain ⟨e,m,a,b,c⟩:=h;refine d ?_;have r:=(g.run e m).2;have:=r.a0;have:=r.a1;have:=r.b0;have:=r.b1;have q:=r.eq (j-e.2.1) (aT ZY a b);rw [show e.1+(j-e.2.1)=i by exact aT Δ a c,show e.2.1+(j-e.2.1)=j by exact aT TO a]at q;exact ⟨aT 0x1b18a44448c8b4046800921005 a c ‹_›,aT 0x5c62a298692990222d002202352041006 b c ‹_›,aT 0xe314844900921003 a ‹_›,aT 0xe3150c091a04152041004 b this,q⟩
def NC(h:∀i,a=aG i↔b=aG i):a=b:=by
 cases b with
 |none=>
  cases a with
  |none=>rfl
  |some x=>exact ((h x).mp rfl).symm
 |some y=>exact (h y).mpr rfl
def Ď.mp(c:Ď M i j k)(e:t<k):Mp M (j+t) (i+t):=by refine nn λh=>?_;obtain ⟨L,m,a,b,d⟩:=c;refine h ?_;exact ⟨L,m,aT 0x58c52820c4b40c0810521005 a d,aT 0x1d18a9042990029d6829c68298494106808941007 e b d,aT 0x7462b42083120282016818901005 d⟩
end
def Ua{M M':T3->Prop}(g:Gr (A1++A'++A2) (B1++B'++B2) 0 (A1++A'++A2).length 0 (B1++B'++B2).length M)
  (lo:ĉ M (aC A1) (aC B1)) (hi:SP (A1++A'++A2) (B1++B'++B2) M (aC A1+aC A') (aC B1+aC B')) (g':Gr A' B' 0 (aC A') 0 (aC B') M') (j:k<aC B'):
  fm M (aC B1+k)=(fm M' k).map (aC A1+·):=by
 have e:=g'.uniq ((g.gap lo hi).shift);refine NC λi=>?_;rw [g.fm_some,bZ];constructor
 .rintro ⟨L,m,a,b,c⟩;obtain ⟨d,l,h,n⟩:=(g.inGap lo hi m (aT Jm) (aT 0xc62a4044800941003 j) a b);refine ⟨i-aC A1,g'.fm_some.mpr ⟨(L.1-aC A1,L.2.1-aC B1,L.2.2),(e _).mpr ?_,?_,?_,?_⟩,aT 0x26a04850462b0a002494e25a105310a740c29414c41ccc1006 a c d⟩
  .dsimp only;simp only [show aC A1+(L.1-aC A1)=L.1 by exact aT TO d,show aC B1+(L.2.1-aC B1)=L.2.1 by exact aT TO h];exact ⟨m,d,l,h,n⟩
  .dsimp only;exact aT 0xa718a4604a0620ccc1003 a
  .dsimp only;exact aT 0x26b18a90400d482050314cc1004 b
  .dsimp only;exact aT 0x24020410900880202080410910c45102080410401080202080410944a45118ad05d980808925314e92e8c45a105d98a72e8c8298694176629ca6998653ccc41ccc1006 a c d h
 .rintro ⟨o,h1,h2⟩;obtain ⟨L,m,a,b,c⟩:=g'.fm_some.mp h1;have:=((e _).mp m).1;exact ⟨_,this,by dsimp only;exact aT 0xc6294044800921003 a,by dsimp only;exact aT 0xc62a409011a00352041004 b,by dsimp only;exact aT 0x4da315a105314e820108194e25a0a62206158901007 h2 c⟩
def C3{M:T3->Prop}(g:Gr A A 0 (aC A) 0 (aC A) M)(a:k<aC A):fm M k=aG k:=by have e:=g.uniq (QH (aT EM a));exact g.fm_some.mpr ⟨(0,0,aC A),(e _).mpr rfl,by dsimp only;exact aT Jl,by dsimp only;exact aT 0x318a90130141002 a,by dsimp only;exact aT 0x18c56801906001⟩
noncomputable def qT(f g:Nat->Option Nat):Nat->Nat->jU
 |_,0=>[]
 |k,n+1=>((f k).bind λi=>(g k).map λj=>(k,i,j)).toList++qT f g (k+1) n
def F8{f g:Nat->Option Nat}:qT f g k 0=[]:=rfl
def sU{f g:Nat->Option Nat}:qT f g k (n+1)=((f k).bind λi=>(g k).map λj=>(k,i,j)).toList++qT f g (k+1) n:=rfl
section
variable{f g f' g':Nat->Option Nat}
def Ae:∀(m k n:Nat),qT f g k (m+n)=qT f g k m++qT f g (k+m) n:=by
 intro m
 induction m with
 |zero=>intro k n;simp only [F8,kT,dY,jN]
 |succ m a=>intro k n;simp only [show m+1+n=m+n+1 by exact aT 0x18c5683a02040507002,sU,sU,a,dM,show k+1+m=k+(m+1) by exact aT Px]
def Ny:∀(n k:Nat),(∀t,t<n->f (a+(k+t))=(f' (k+t)).map (b+·))->(∀t,t<n->g (a+(k+t))=(g' (k+t)).map (c+·))->qT f g (a+k) n=(qT f' g' k n).map (CQ a b c):=by
 intro n
 induction n with
 |zero=>intro k _ _;rfl
 |succ n i=>intro k h1 h2;simp only [sU,sU,dK,<-i (k+1) (λt d=>by have:=h1 (t+1) (aT ES d);rwa[show k+(t+1)=k+1+t by exact aT EV]at this) (λt d=>by have:=h2 (t+1) (aT ES d);rwa[show k+(t+1)=k+1+t by exact aT EV]at this),fR];have e:=h1 0 (aT EL);have h:=h2 0 (aT EL);simp only [jN]at e h;refine e▸?_;refine h▸?_;cases f' k<;>cases g' k<;>rfl
def Rj:∀(n k i j:Nat),(∀t,t<n->f (k+t)=aG (i+t))->(∀t,t<n->g (k+t)=aG (j+t))->qT f g k n=zP k i j n:=by
 intro n
 induction n with
 |zero=>intro k i j _ _;rfl
 |succ n d=>intro k i j h1 h2;simp only [sU,xY,d (k+1) (i+1) (j+1) (λt a=>by have:=h1 (t+1) (aT ES a);rwa[show k+(t+1)=k+1+t by exact aT EV,show i+(t+1)=i+1+t by exact aT EV]at this) (λt a=>by have:=h2 (t+1) (aT ES a);rwa[show k+(t+1)=k+1+t by exact aT EV,show j+(t+1)=j+1+t by exact aT EV]at this)];have b:=h1 0 (aT EL);have c:=h2 0 (aT EL);simp only [jN,jN]at b c;refine b▸?_;refine c▸?_;rfl
def vB:∀(n k:Nat)(e:T3),e∈qT f g k n↔k<=e.1/\e.1<k+n/\f e.1=aG e.2.1/\g e.1=aG e.2.2:=by
 intro n
 induction n with
 |zero=>intro k e;simp only [F8];exact ⟨λh=>(nomatch h),λ⟨h1,h2,_⟩=>by exfalso;omega⟩
 |succ n a=>
  intro k e;rw [sU,cU,a,Option.mem_toList,Option.bind_eq_some_iff];constructor
  .rintro (⟨i,h1,h2⟩|⟨h1,h2,h3⟩)
   .obtain ⟨j,h3,h4⟩:=bZ.mp h2;subst h4;exact ⟨bG _,by dsimp only;exact aT 0x8c54841c20002,h1,h3⟩
   .exact ⟨aT Py h1,aT UO h2,h3⟩
  .rintro ⟨h1,h2,h3,h4⟩;by_cases q:e.1=k
   .exact .inl ⟨e.2.1,q▸h3,bZ.mpr ⟨e.2.2,q▸h4,by exact q▸rfl⟩⟩
   .exact .inr ⟨aT FA h1 q,aT UN h2,h3,h4⟩
def F9{M M':T3->Prop}(g1:Gr B A x t y u4 M)(g2:Gr C A z v2 v3 v4 M')(c:t<=aC B)(d:v2<=aC C):∀(n k o p q:Nat),k+n=aC A->o<=k->p<=aC B->q<=aC C->(∀j i,k<=j->fm M j=aG i->p<=i)->(∀j i,k<=j->fm M' j=aG i->q<=i)->Kp A B C (qT (fm M) (fm M') k n) o p q:=by
 intro n
 induction n with
 |zero=>intro k o p q h1 h2 h3 h4 _ _;exact .nil (aT 0x38c5211240258506003 h1 h2) h3 h4
 |succ n a=>
  intro k o p q h1 h2 h3 h4 h5 h6;simp only [sU]
  cases l:fm M k with
  |none=>exact a (k+1) o p q (aT OP h1) (aT Pv h2) h3 h4 (λj i h=>h5 j i (aT Py h)) (λj i h=>h6 j i (aT Py h))
  |some i=>
   cases m:fm M' k with
   |none=>exact a (k+1) o p q (aT OP h1) (aT Pv h2) h3 h4 (λj i h=>h5 j i (aT Py h)) (λj i h=>h6 j i (aT Py h))
   |some j=>
    have r:=g1.fm_some.mp l;have s:=g2.fm_some.mp m;have a1:=g1.at_ r;have b:=g2.at_ s;refine .cons h2 (h5 _ _ (bG _) l) (h6 _ _ (bG _) m) (aT 0xc62a10162420e1003 h1) (aT ς c a1) (aT ς d b) a1.2.2.2.2 b.2.2.2.2 (a (k+1) _ _ _ (aT OP h1) (aT 0x8c52838107001) (aT φ c a1) (aT φ d b) (λu v h e=>?_) (λu v h e=>?_))
    .exact g1.mono r (g1.fm_some.mp e) (aT FG h)
    .exact g2.mono s (g2.fm_some.mp e) (aT FG h)
end
noncomputable def nH(a:Int):Bool:=decide (0<=a)
structure AP(c:Nat)(n:Nat)(x:bE):Prop where
 cnt:x.countP nH<=n
 sg:∀a∈x,a<0-> -10*(c:Int)-8<=a/\a<= -10*(c:Int)-1
 hd:1<=c->∃a s,x=a::s/\a<0
 ls:c<=1->∃a s,x=s++[a]/\a<0
def N7(y:bE):Prop:=∀i j,i<y.length->j<y.length->y.getD i 0=y.getD j 0->y.getD i 0<0->i=j
def Rl(x y:bE):Prop:=x=y\/∀a∈x,a<0->¬a∈y
structure N4(T:bE):Prop where
 len:aC T=7
 pl:∀a∈T,0<=a
noncomputable def pY(x0 T0 x1 T1 x2:bE):bE:=x0++(T0++(x1++(T1++x2)))
def Zc{L M:bE}{i:Nat}(h:i<aC L):(L++M).getD i 0=L.getD i 0:=by rw [aY,aY,xQ h]
def yD{L M:bE}{i:Nat}:(L++M).getD (aC L+i) 0=M.getD i 0:=by rw [aY,aY,pP (by exact aT Jm),show aC L+i-aC L=i by exact aT OL]
def rI{L:bE}{i:Nat}(h:i<aC L):L.getD i 0∈L:=by rw [aY,bO h];exact uC h
def win:∀(n i:Nat){L:bE},i+n<=aC L->(∀t,t<n->0<=L.getD (i+t) 0)->n<=(L.drop i).countP nH:=by
 intro n
 induction n with
 |zero=>intro i L _ _;exact bI _
 |succ n a=>
  intro i L h1 h2;have:=a (i+1) (aT EZ h1) λt b=>by have:=h2 (t+1) (aT ES b);rwa[show i+(t+1)=i+1+t by exact aT EV]at this
  have h0:=h2 0 (aT EL);rw [uZ (by exact aT OJ h1),lJ,if_pos (by simpa [nH]using h0)];exact aT Pw this
def XI{n i:Nat}{L:bE}(h:i+n<=aC L)(h2:∀t,t<n->0<=L.getD (i+t) 0):n<=L.countP nH:=
 bV (win n i h h2) (aEq (List.drop_sublist i L))
section
variable{x0 T0 x1 T1 x2 y0 y1 y2:bE}
def F7(h0:aC T0=7)(h1:aC T1=7):(pY x0 T0 x1 T1 x2).length=aC x0+7+aC x1+7+aC x2:=by unfold pY;simp only [bD];exact aT 0x2ea315a088f990347cc2421082046012fe60afe6005 h0 h1
structure aDx(x0 T0 x1 T1 x2 X:bE):Prop where
 a:∀i,i<aC x0->X.getD i 0=x0.getD i 0
 b:∀i,i<7->X.getD (aC x0+i) 0=T0.getD i 0
 c:∀i,i<aC x1->X.getD (aC x0+7+i) 0=x1.getD i 0
 d:∀i,i<7->X.getD (aC x0+7+aC x1+i) 0=T1.getD i 0
 e:∀i,X.getD (aC x0+7+aC x1+7+i) 0=x2.getD i 0
def Mb(h0:aC T0=7)(h1:aC T1=7):aDx x0 T0 x1 T1 x2 (pY x0 T0 x1 T1 x2):=by
 unfold pY;refine ⟨λi h=>Zc h,λi h=>?_,λi h=>?_,λi h=>?_,λi=>?_⟩
 .rw [yD,Zc (by exact aT TQ h0 h)]
 .rw [show aC x0+7+i=aC x0+(aC T0+i) by exact aT 0x2b18ad0810028123e60afe6003 h0,yD,yD,Zc h]
 .rw [show aC x0+7+aC x1+i=aC x0+(aC T0+(aC x1+i)) by exact aT 0x2b18ad0840c400a068123e60afe6004 h0,yD,yD,yD,Zc (by exact aT TQ h1 h)]
 .rw [show aC x0+7+aC x1+7+i=aC x0+(aC T0+(aC x1+(aC T1+i))) by exact aT 0x556315a108410230090447cc81a3e612fe60afe6005 h0 h1,yD,yD,yD,yD]
structure SN(x0 T0 x1 T1 x2:bE):Prop where
 t0:N4 T0
 t1:N4 T1
 c0:AP 0 6 x0
 c1:AP 1 6 x1
 c2:AP 2 6 x2
structure Bdy(x0 x1 x2 X:bE):Prop where
 z0:0<aC x0
 z1:0<aC x1
 z2:0<aC x2
 n:aC X=aC x0+7+aC x1+7+aC x2
 g0:X.getD (aC x0-1) 0<0
 g1:X.getD (aC x0+7) 0<0
 g2:X.getD (aC x0+7+aC x1-1) 0<0
 g3:X.getD (aC x0+7+aC x1+7) 0<0
 w:∀i,i+7<=aC X->(∀t,t<7->0<=X.getD (i+t) 0)->i=aC x0\/i=aC x0+7+aC x1
def SN.bdy(s:SN x0 T0 x1 T1 x2):Bdy x0 x1 x2 (pY x0 T0 x1 T1 x2):=by
 have p:=Mb (x0:=x0) (x1:=x1) (x2:=x2) s.t0.len s.t1.len;have n:=F7 (x0:=x0) (x1:=x1) (x2:=x2) s.t0.len s.t1.len;refine nn λC=>?_;obtain ⟨a,r,e,D⟩:=s.c0.ls (by exact aT 0x8c527300);obtain ⟨b,q,F,G⟩:=s.c1.hd (by exact aT 0x8c527380);obtain ⟨c,z,A,H⟩:=s.c1.ls (by exact aT 0x8c527380);obtain ⟨d,y,B,hd⟩:=s.c2.hd (by exact aT 0x118a746380);refine C ?_;have z0:aC x0=r.length+1:=by rw [e];simp
 have z1:aC x1=z.length+1:=by rw [A];simp
 have g0:(pY x0 T0 x1 T1 x2).getD (aC x0-1) 0<0:=by rw [p.a _ (by exact aT UJ z0),show aC x0-1=r.length+0 by exact aT VK z0,e,yD];exact D
 have g1:(pY x0 T0 x1 T1 x2).getD (aC x0+7) 0<0:=by have:=p.c 0 (by exact aT OB z1);rw [jN]at this;rw [this,F];exact G
 have g2:(pY x0 T0 x1 T1 x2).getD (aC x0+7+aC x1-1) 0<0:=by rw [show aC x0+7+aC x1-1=aC x0+7+(aC x1-1) by exact aT 0x2010080400c28d28a2462b4011f3082b41c83998e2998e80a3e6003 z1,p.c _ (by exact aT UJ z1),show aC x1-1=z.length+0 by exact aT VK z1,A,yD];exact H
 have g3:(pY x0 T0 x1 T1 x2).getD (aC x0+7+aC x1+7) 0<0:=by have:=p.e 0;rw [jN]at this;rw [this,B];exact hd
 refine ⟨by exact aT OB z0,by exact aT OB z1,by exact aT OB (by rw [B];simp:aC x2=y.length+1),n,g0,g1,g2,g3,λi hi h=>?_⟩;have m:∀{u},(pY x0 T0 x1 T1 x2).getD u 0<0->u<i\/i+7<=u:=λ{u} I=>by
  by_cases q:u<i\/i+7<=u
  .exact q
  .have:=h (u-i) (by exact aT 0x24b18abe603a4d4851f309420ccc1002 q);rw [show i+(u-i)=u by exact aT 0x12484a2315850013a4d4851f309420ccc1002 q]at this;exact aT 0x3062d4811f3054105846b1907112 I this
 have o:=m g0;have f:=m g1;have v:=m g2;have x:=m g3;by_cases k:i+7<=aC x0
 .have:=XI k λt g=>by have:=h t g;rwa[p.a _ (by exact aT 0x38c5414080af98490a3e6003 k g)]at this
  have:=s.c0.cnt;exact aT Â ‹_› this
 by_cases j:aC x0+7<=i/\i+7<=aC x0+7+aC x1
 .have:=XI (n:=7) (i:=i-(aC x0+7)) (L:=x1) (by exact aT 0x4858c52347cc06250347cc247cc14851f30a6647cc1003 j) λt g=>by have:=h t g;rwa[show i+t=aC x0+7+(i-(aC x0+7)+t) by exact aT 0x1248892315a104023e6120816250347cc247cc14851f30a6647cc1004 j,p.c _ (by exact aT 0x905c62a1a08057cc46250347cc247cc14851f30a6647cc1004 j g)]at this
  have:=s.c1.cnt;exact aT Â ‹_› this
 by_cases l:aC x0+7+aC x1+7<=i
 .have:=XI (n:=7) (i:=i-(aC x0+7+aC x1+7)) (L:=x2) (by exact aT 0x208b46292991f3012147cc81a3e612488f982b414c8f990347cc224cc8f990247cc1005 n hi l) λt g=>by have:=h t g;rwa[show i+t=aC x0+7+aC x1+7+(i-(aC x0+7+aC x1+7)+t) by exact aT 0x8c92518ad082011f32068f98482052147cc81a3e614cc8f990247cc1004 l,p.e]at this
  have:=s.c2.cnt;exact aT Â ‹_› this
 have J:aC x0<=i:=by clear f v x j l;exact aT 0x64272a314882e92428f984d4811f3094204cc7002 o k
 rcases f with f|f
 .have N:aC x0+7+aC x1<=i:=by clear o x k l;exact aT 0x1020408070329523148d0247cc150d1f305d26250247cc147cc348d1f305a9023e61a860998e80a3e6003 v j f
  exact .inr (by clear o f v k j;exact aT 0x49e18c5680a3e6009224051f301d24891f32028f980d4a3e64051f3011f3094247cc80a3e6003 x l N)
 .exact .inl (by clear o v x k j l;exact aT 0xe8c5600a51f3011f30521002 J f)
def SN.neg(s:SN x0 T0 x1 T1 x2){i:Nat}(hi:i<(pY x0 T0 x1 T1 x2).length){a:Int}(e:(pY x0 T0 x1 T1 x2).getD i 0=a)(d:a<0):
  (i<aC x0/\x0.getD i 0=a/\ -8<=a)\/(∃r,r<aC x1/\i=aC x0+7+r/\x1.getD r 0=a/\ -18<=a/\a<= -11)\/(∃r,r<aC x2/\i=aC x0+7+aC x1+7+r/\x2.getD r 0=a/\a<= -21):=by
 have p:=Mb (x0:=x0) (x1:=x1) (x2:=x2) s.t0.len s.t1.len;replace hi:=(F7 s.t0.len s.t1.len)▸hi;by_cases f:i<aC x0
 .replace e:=(p.a _ f)▸e;have:=s.c0.sg a (e▸rI f) d;exact .inl ⟨f,e,this.1⟩
 by_cases b:i<aC x0+7
 .have h:=p.b (i-aC x0) (aT UX b);replace h:=(show aC x0+(i-aC x0)=i by exact aT 0x2522a462b0a002749420ccc1002 f)▸h;replace h:=e▸h;have:=s.t0.pl a (h▸rI (by simp only [s.t0.len];exact aT UX b));exact absurd this (R5.mpr d)
 by_cases g:i<aC x0+7+aC x1
 .have h:=p.c (i-(aC x0+7)) (aT Å b g);replace h:=(show aC x0+7+(i-(aC x0+7))=i by exact aT 0x4a4548c5614011f309d2523e61066647cc1002 b)▸h;replace h:=e▸h;have:=s.c1.sg a (h▸rI (by exact aT Å b g)) d;exact .inr (.inl ⟨_,by exact aT Å b g,by exact aT 0x4a4928c568023e6105d2523e61066647cc1002 b,h.symm,this.1,this.2⟩)
 by_cases c:i<aC x0+7+aC x1+7
 .have h:=p.d (i-(aC x0+7+aC x1)) (by exact aT Φ c);rw [show aC x0+7+aC x1+(i-(aC x0+7+aC x1))=i by exact aT 0x128952315850040d1f309d252068f98419990247cc1003 g,e]at h;have:=s.t1.pl a (h▸rI (by simp only [s.t1.len];exact aT Φ c));exact absurd this (R5.mpr d)
 .have h:=p.e (i-(aC x0+7+aC x1+7));rw [show aC x0+7+aC x1+7+(i-(aC x0+7+aC x1+7))=i by exact aT 0x2512a462b0a008f990347cc274948f990347cc20ccc8f990247cc1003 c,e]at h;have:=s.c2.sg a (h▸rI (by exact aT aAa hi c)) d;exact .inr (.inr ⟨_,by exact aT aAa hi c,by exact aT 0x23249462b4011f32068f984174948f990347cc20ccc8f990247cc1003 c,h.symm,this.2⟩)
def Sz{x y:bE}(r:Rl x y)(u:N7 y){i j:Nat}{a:Int}(hi:i<x.length)(c:j<y.length)(b:x.getD i 0=a)(d:y.getD j 0=a)(e:a<0):x=y/\i=j:=by
 rcases r with q|q
 .subst q;exact ⟨rfl,u i j hi c (by simp only [b,d]) (by refine b▸?_;exact e)⟩
 .exact absurd (d▸rI c) (q a (b▸rI hi) e)
def Ņ(s:SN x0 T0 x1 T1 x2)(v:SN y0 T0 y1 T1 y2)(A:N7 y0)(B:N7 y1)(C:N7 y2)(D:Rl x0 y0)(F:Rl x1 y1)(G:Rl x2 y2):
  Tw (pY x0 T0 x1 T1 x2) (pY y0 T0 y1 T1 y2) (aC x0) (aC x0+7+aC x1) (aC y0) (aC y0+7+aC y1) (x0=y0) (x1=y1) (x2=y2):=by
 have p:=Mb (x0:=x0) (x1:=x1) (x2:=x2) s.t0.len s.t1.len;have k:=Mb (x0:=y0) (x1:=y1) (x2:=y2) s.t0.len s.t1.len;have b:=s.bdy;have l:=v.bdy;have z0:=b.z0;have z1:=b.z1;have z2:=b.z2;have n:=b.n;have x:=l.z0;have y:=l.z1;have z:=l.z2;have d:=l.n;refine ⟨by exact aT UI z1,by exact aT UI y,by exact aT 0xc62a01940301 z0,by exact aT 0xc62a01940301 x,by exact aT θ z2 n,by exact aT θ z d,?_,?_,λh=>?_,λh=>?_,λh=>?_,b.w,l.w,λi j hi H e m=>?_,b.g0,b.g1,b.g2,b.g3⟩
 .refine ⟨bI _,by exact aT VT n,bI _,by exact aT VT d,λt a=>?_⟩;simp only [p.b t a,k.b t a]
 .refine ⟨bI _,by exact aT Ã n,bI _,by exact aT Ã d,λt a=>?_⟩;simp only [p.d t a,k.d t a]
 .subst h;refine ⟨rfl,bI _,by exact aT VO n,bI _,by exact aT VO d,λt a=>?_⟩;simp only [dY,p.a t a,k.a t a]
 .subst h;refine ⟨by exact aT 0x6315a10147cc2020480a3e6003,bI _,by exact aT 0x101a3148d0047cc15a088f990247cc11ccc8f98080a3e6004 n,bI _,by exact aT 0x20346291a008f988b414c8f990247cc41ccc8f98080a3e6005 d,λt a=>?_⟩;simp only [p.c t (by exact aT VS a),k.c t (by exact aT VS a)]
 .subst h;refine ⟨by exact aT 0xd98c56822048f9828414e8f98a602d0347cc829d1f314c45a068f990247cc1007 n d,bI _,by exact aT 0x24246290a008f990347cc25a088f990347cc20ccc8f990247cc1004 n,bI _,by exact aT 0x48168c52532008f9905d191f314eb4111f320ba323e629ca65a088f990347cc20ccc8f990247cc1007 n d,λt a=>?_⟩;simp only [p.e t,k.e t]
 .rcases s.neg hi rfl m with ⟨a1,c,f⟩|⟨r,a1,c,f,o,I⟩|⟨r,a1,c,f,o⟩<;>rcases v.neg H e.symm m with ⟨c1,c2,g⟩|⟨J,c1,c2,g,u,L⟩|⟨J,c1,c2,g,u⟩
  .obtain ⟨h1,h2⟩:=Sz D A a1 c1 c c2 m;exact .inl ⟨h1,a1,h2⟩
  .exfalso;exact aT 0x18c656a6ce0b0298390 f L
  .exfalso;exact aT 0x318cad4ee8c0b0298390 f u
  .exfalso;exact aT 0x18c65605307b5367010 I g
  .obtain ⟨h1,h2⟩:=Sz F B a1 c1 f g m;exact .inr (.inl ⟨h1,by exact aT 0x14629023e60ad0247cc1003 c,by exact aT 0x58c5480a3e618968023e618941004 a1 c,by exact aT 0x19cd18ad030a080594c25a0a647cc41ad0247cc1006 c c2 h2⟩)
  .exfalso;exact aT 0x63195a9dd18160535a310 o u
  .exfalso;exact aT 0x318cac0a60f6a7746010 o g
  .exfalso;exact aT 0x63195814d68d6a7746010 o u
  .obtain ⟨h1,h2⟩:=Sz G C a1 c1 f g m;exact .inr (.inr ⟨h1,by exact aT Ã c,by exact aT 0x673462b4110247cc1420a747cc530165d186b4174647cc829d1f314c45a068f990247cc1008 c c2 h2⟩)
structure Rx(x0 x1 x2 y0 y1 y2:bE)(f f0 f1 f2:Nat->Option Nat):Prop where
 a:∀k,k<aC y0->f k=f0 k
 b:∀t,t<7->f (aC y0+t)=aG (aC x0+t)
 c:∀k,k<aC y1->f (aC y0+7+k)=(f1 k).map (aC x0+7+·)
 d:∀t,t<7->f (aC y0+7+aC y1+t)=aG (aC x0+7+aC x1+t)
 e:∀k,k<aC y2->f (aC y0+7+aC y1+7+k)=(f2 k).map (aC x0+7+aC x1+7+·)
abbrev Lb(X Y:bE)(M:T3->Prop):Prop:=Gr X Y 0 (aC X) 0 (aC Y) M
def O4{M M0 M1 M2:T3->Prop}(s:SN x0 T0 x1 T1 x2)(v:SN y0 T0 y1 T1 y2)(l:N7 y0)(m:N7 y1)(o:N7 y2)(p:Rl x0 y0)(r:Rl x1 y1)(u:Rl x2 y2)
  (g:Lb (pY x0 T0 x1 T1 x2) (pY y0 T0 y1 T1 y2) M) (g0:Lb x0 y0 M0) (g1:Lb x1 y1 M1) (g2:Lb x2 y2 M2):Rx x0 x1 x2 y0 y1 y2 (fm M) (fm M0) (fm M1) (fm M2):=by
 refine nn λx=>?_;obtain ⟨h0,h1,a0,b0,a1,b1,y,z⟩:=(Ņ s v l m o p r u).all g;refine x ?_;have n:=s.bdy.n;have l0:=s.t0.len;have l1:=s.t1.len;refine ⟨λk a=>?_,λt h=>g.fm_some.mpr (h0.mp h),λk a=>?_,λt h=>g.fm_some.mpr (h1.mp h),λk a=>?_⟩
 .by_cases e:x0=y0
  .have d:aC x0=aC y0:=by rw [e]
   have:=(a0 e).mp (t:=k) (Fh a d.symm);rw [dY]at this;refine (g.fm_some.mpr this)▸?_;exact (C3 (show Lb y0 y0 M0 from e▸g0) a).symm
  .obtain ⟨f,b⟩:=b0 e;have:=Ua (A1:=[]) (B1:=[]) g f (by simpa only [pY,A8,dY,kT]using b) g0 a;simp only [A8,dY]at this;refine this▸?_;cases fm M0 k<;>rfl
 .by_cases e:x1=y1
  .have d:aC x1=aC y1:=by exact e▸rfl
   have:=(a1 e).mp (t:=k) (by rw [rX];exact Fh a d.symm);refine (g.fm_some.mpr this)▸?_;rw [C3 (show Lb y1 y1 M1 from e▸g1) a];rfl
  .obtain ⟨f,b⟩:=b1 e;have i:pY x0 T0 x1 T1 x2=(x0++T0)++x1++(T1++x2):=by unfold pY;simp
   have j:pY y0 T0 y1 T1 y2=(y0++T0)++y1++(T1++y2):=by unfold pY;simp
   have l2:(x0++T0).length=aC x0+7:=by simp only [bD,l0]
   have c:(y0++T0).length=aC y0+7:=by simp only [bD,l0]
   rw [i,j]at g b;have:=Ua g (by simp only [l2,c];exact f) (by simp only [l2,c];exact b) g1 a;rwa[l2,c]at this
 .by_cases e:x2=y2
  .have d:aC x2=aC y2:=by exact e▸rfl
   have:=(y e).mp (t:=k) (by simp only [n,rX];exact Fh a d.symm);simp only [g.fm_some.mpr this];refine (C3 (show Lb y2 y2 M2 from e▸g2) a)▸?_;rfl
  .obtain ⟨f,b⟩:=z e;have i:pY x0 T0 x1 T1 x2=(x0++T0++x1++T1)++x2++[]:=by unfold pY;simp
   have j:pY y0 T0 y1 T1 y2=(y0++T0++y1++T1)++y2++[]:=by unfold pY;simp
   have l2:(x0++T0++x1++T1).length=aC x0+7+aC x1+7:=by simp only [bD,l0,l1]
   have c:(y0++T0++y1++T1).length=aC y0+7+aC y1+7:=by simp only [bD,l0,l1]
   simp only [n,(v.bdy.n)]at b;rw [i,j]at g b;have:=Ua g (by simp only [l2,c];exact f) (by simp only [l2,c];exact b) g2 a;rwa[l2,c]at this
end
def MR{a b c:Nat}:∀(n k i j:Nat),(zP k i j n).map (CQ a b c)=zP (a+k) (b+i) (c+j) n:=by
 intro n
 induction n with
 |zero=>intro k i j;rfl
 |succ n d=>intro k i j;rw [xY,cE,d,xY];rfl
def MP:uH (A++(T++A')) (aC A) (aC A+aC T)=T:=by have:=An (L:=A) (M':=T++A') (a:=0) (b:=aC T);rw [jN]at this;rw [this,Cm (bG _),uD,tC]
def Oq(a:aC T=7)(h:∀e∈L,e.1<aC A/\e.2.1<=aC B/\e.2.2<=aC C):
  Bb (A++(T++A')) (B++(T++B')) (C++(T++C')) (L++(zP (aC A) (aC B) (aC C) 7++L'.map (CQ (aC A+7) (aC B+7) (aC C+7)))) 0 0 0=Bb A B C L 0 0 0++T.map kS++Bb A' B' C' L' 0 0 0:=by
 have c:aC A+7<=(A++(T++A')).length:=by simp only [bD];exact aT 0x14629420400a3e60afe6003 a
 rw [xY,fV,BF _ _ _ _ h,U7 6 _ _ _ _ _ _ _ (by exact aT 0xc6290a3c641c090a3e6002 c) (aT 0x118abc6300),Vq,kT];have b:=MP (A:=A) (T:=T) (A':=A');rw [a,O3 (by exact aT 0x462a47cc0001) c]at b;have j:(A++(T++A')).getD (aC A) 0=(T++A').getD 0 0:=yD (i:=0);rw [j]at b;have d:=Xw (A:=A++T) (A':=A') (B:=B++T) (B':=B') (C:=C++T) (C':=C') L' 0 0 0;simp only [bD,a,dM,jN]at d;rw [show aC A+1+6=aC A+7 by exact aT FM,show aC B+1+6=aC B+7 by exact aT FM,show aC C+1+6=aC C+7 by exact aT FM,d,<-fV,<-cE (f:=kS),b,dM]
section
variable{x0 T0 x1 T1 x2 y0 y1 y2 z0 z1 z2:bE}{f f0 f1 f2 g g0 g1 g2:Nat->Option Nat}
def YI{a b c d h i:Nat}{L:jU}:(L.map (CQ a b c)).map (CQ d h i)=L.map (CQ (d+a) (h+b) (i+c)):=by rw [qG];exact vO λe _=>by simp only [Function.comp,CQ,fR]
def JU(s:Rx x0 x1 x2 y0 y1 y2 f f0 f1 f2)(h:Rx z0 z1 z2 y0 y1 y2 g g0 g1 g2):
  qT f g 0 (aC y0+(7+(aC y1+(7+aC y2))))=qT f0 g0 0 (aC y0)++(zP (aC y0) (aC x0) (aC z0) 7++
   (qT f1 g1 0 (aC y1)++(zP (aC y1) (aC x1) (aC z1) 7++(qT f2 g2 0 (aC y2)).map (CQ (aC y1+7) (aC x1+7) (aC z1+7)))).map (CQ (aC y0+7) (aC x0+7) (aC z0+7))):=by
 rw [Ae,Ae,Ae,Ae,dK,dK,MR,YI];refine congr (congrArg _ ?_) (congr (congrArg _ ?_) (congr (congrArg _ ?_) (congr (congrArg _ ?_) ?_)))
 .have:=Ny (f:=f) (g:=g) (f':=f0) (g':=g0) (b:=0) (c:=0) (aC y0) 0 (λt d=>by rw [dY,dY,s.a t d];cases f0 t<;>simp) (λt d=>by rw [dY,dY,h.a t d];cases g0 t<;>simp);rw [jN]at this;rw [this]
  conv=>rhs;rw [<-List.map_id (qT f0 g0 0 (aC y0))]
  exact vO λe _=>by simp only [CQ,dY,id_eq]
 .exact Rj 7 _ _ _ (λt d=>by rw [dY];exact s.b t d) (λt d=>by rw [dY];exact h.b t d) |>.trans (by rw [dY])
 .have:=Ny (f:=f) (g:=g) (f':=f1) (g':=g1) (a:=aC y0+7) (b:=aC x0+7) (c:=aC z0+7) (aC y1) 0 (λt d=>by rw [dY];exact s.c t d) (λt d=>by rw [dY];exact h.c t d);rw [<-this,dY,jN]
 .rw [dY];exact Rj 7 _ _ _ s.d h.d
 .have:=Ny (f:=f) (g:=g) (f':=f2) (g':=g2) (a:=aC y0+7+aC y1+7) (b:=aC x0+7+aC x1+7) (c:=aC z0+7+aC z1+7) (aC y2) 0 (λt d=>by rw [dY];exact s.e t d) (λt d=>by rw [dY];exact h.e t d);rw [jN]at this;rw [dY,this,fR (_+7),fR (_+7),fR (_+7)]
def Nz{M M':T3->Prop}(g:Lb B A M)(g':Lb C A M'):∀e∈qT (fm M) (fm M') 0 (aC A),e.1<aC A/\e.2.1<aC B/\e.2.2<aC C:=λe c=>by obtain ⟨h1,h2,h3,h4⟩:=(vB _ _ _).mp c;have a:=g.at_ (g.fm_some.mp h3);have b:=g'.at_ (g'.fm_some.mp h4);exact aT 0x21400880462c628a62282050c4c631972e8c5d994312446514c4490cc631972e8c53a862488ca08120336 a b
noncomputable def Bt(y x z:bE)(f g:Nat->Option Nat):List I5:=Bb y x z (qT f g 0 y.length) 0 0 0
def LY(b:aC T0=7)(c:aC T1=7)(s:Rx x0 x1 x2 y0 y1 y2 f f0 f1 f2)(d:Rx z0 z1 z2 y0 y1 y2 g g0 g1 g2)
  (b0:∀e∈qT f0 g0 0 (aC y0),e.1<aC y0/\e.2.1<aC x0/\e.2.2<aC z0) (b1:∀e∈qT f1 g1 0 (aC y1),e.1<aC y1/\e.2.1<aC x1/\e.2.2<aC z1):
  Bt (pY y0 T0 y1 T1 y2) (pY x0 T0 x1 T1 x2) (pY z0 T0 z1 T1 z2) f g=Bt y0 x0 z0 f0 g0++T0.map kS++(Bt y1 x1 z1 f1 g1++T1.map kS++Bt y2 x2 z2 f2 g2):=by
 unfold Bt;rw [F7 b c,fR,fR,fR,JU s d];unfold pY;rw [Oq b λe a=>⟨(b0 e a).1,iG (b0 e a).2.1,iG (b0 e a).2.2⟩,Oq c λe a=>⟨(b1 e a).1,iG (b1 e a).2.1,iG (b1 e a).2.2⟩]
end
def Xx{M M':T3->Prop}(g:Lb y y M)(g':Lb z y M'):jn (Bt y y z (fm M) (fm M'))=z:=by have a:=F9 g g' (bG _) (bG _) y.length 0 0 0 0 (aT We) (aT Wd) (aT Jl) (aT Jl) (λ_ _ _ _=>bI _) (λ_ _ _ _=>bI _);refine (BE a λe b=>?_).trans tC;obtain ⟨h1,h2,h3,h4⟩:=(vB _ _ _).mp b;rw [C3 g (by exact aT 0x318a82052026002 h2)]at h3;exact (eR h3).symm
def Ot{M M':T3->Prop}(g:Lb x y M)(g':Lb y y M'):jn (Bt y x y (fm M) (fm M'))=x:=by have a:=F9 g g' (bG _) (bG _) y.length 0 0 0 0 (aT We) (aT Wd) (aT Jl) (aT Jl) (λ_ _ _ _=>bI _) (λ_ _ _ _=>bI _);refine (Sk a λe b=>?_).trans tC;obtain ⟨h1,h2,h3,h4⟩:=(vB _ _ _).mp b;rw [C3 g' (by exact aT 0x318a82052026002 h2)]at h4;exact (eR h4).symm
def xD(h:AP c n x)(a:n<=m):AP c m x:=⟨bV h.cnt a,h.sg,h.hd,h.ls⟩
def BJ{M M':T3->Prop}(J:AP c k y)(C:AP c n x)(D:AP c m z)(j:Rl x y)(u:Rl z y)(g:Lb x y M)(g':Lb z y M'):
  AP c (n+m) (jn (Bt y x z (fm M) (fm M')))/\Rl (jn (Bt y x z (fm M) (fm M'))) y:=by
 rcases j with rfl|j
 .rw [Xx g g'];exact ⟨xD D (aT 0x2314a001002),u⟩
 rcases u with rfl|u
 .rw [Ot g g'];exact ⟨xD C (aT Jm),.inr j⟩
 have L:=F9 g g' (bG _) (bG _) y.length 0 0 0 0 (aT We) (aT Wd) (aT Jl) (aT Jl) (λ_ _ _ _=>bI _) (λ_ _ _ _=>bI _);have sub:∀a,a∈jn (Bt y x z (fm M) (fm M'))->a∈x\/a∈z:=λa h=>by have:=LV L h;rwa[tC,tC]at this
 have bd:=Nz g g';have Df:∀e∈qT (fm M) (fm M') 0 y.length,x.getD e.2.1 0=y.getD e.1 0/\z.getD e.2.2 0=y.getD e.1 0:=λe v=>by refine nn λF=>?_;obtain ⟨h1,h2,h3,h4⟩:=(vB _ _ _).mp v;refine F ?_;exact ⟨(g.at_ (g.fm_some.mp h3)).2.2.2.2,(g'.at_ (g'.fm_some.mp h4)).2.2.2.2⟩
 refine ⟨⟨?_,λa h p=>?_,λA=>?_,λA=>?_⟩,.inr λa h p=>?_⟩
 .have:=U8 nH L;have h1:=C.cnt;have h2:=D.cnt;exact bV this (aT 0xe314a0614080918921004 h1 h2)
 .rcases sub a h with q|q
  .exact C.sg a q p
  .exact D.sg a q p
 .obtain ⟨a,A',l,p⟩:=J.hd A;refine nn λF=>?_;obtain ⟨b,B',r,B⟩:=C.hd A;obtain ⟨d,C',t,hd⟩:=D.hd A;refine F ?_;have P:b≠a:=λe=>j b (by rw [r];exact aQ) B (by simp only [l,e];exact aQ);obtain ⟨s,e⟩:=BH l r t P (λe=>u d (by rw [t];exact aQ) hd (by simp only [l,e];exact aQ)) λe v=>by
   obtain ⟨G,H⟩:=Df e v;have o:=bd e v;refine ⟨dG λh=>?_,dG λh=>?_,dG λh=>?_⟩
   .have:x.getD e.2.1 0=a:=by simp only [G,h,l];rfl
    exact j a (this▸rI o.2.1) p (by refine l▸?_;exact aQ)
   .have:y.getD e.1 0=b:=by refine G▸?_;refine h▸?_;refine r▸?_;rfl
    exact j b (by refine r▸?_;exact aQ) B (this▸rI o.1)
   .have:y.getD e.1 0=d:=by refine H▸?_;refine h▸?_;refine t▸?_;rfl
    exact u d (by refine t▸?_;exact aQ) hd (this▸rI o.1)
  exact ⟨b,s,e,B⟩
 .obtain ⟨a,A',l,p⟩:=J.ls A;refine nn λF=>?_;obtain ⟨b,B',r,B⟩:=C.ls A;obtain ⟨d,C',t,hd⟩:=D.ls A;refine F ?_;have I:a∈y:=by refine l▸?_;simp
  have N:b∈x:=by rw [r];simp
  have O:d∈z:=by rw [t];simp
  have Q:y.length=aC A'+1:=by rw [l];simp
  have R:x.length=aC B'+1:=by rw [r];simp
  have h:=BG (λe=>j b N B (e▸I):b≠a) (λe=>u d O hd (e▸I):d≠a) (bI _) (bI _) (bI _) λe v=>by
   obtain ⟨G,H⟩:=Df e v;have o:=bd e v;refine ⟨rS (aT 0x32314844c628a7299441a8025a0e1007 Q o) λh=>?_,rS (aT 0x2a314848c628a729940228625a0e1007 R o) λh=>?_,rS (aT 0x4c629094ec628053a8a6228625a0e1007 (by refine t▸?_;simp:z.length=aC C'+1) o) λh=>?_⟩
   .have:x.getD e.2.1 0=a:=by simp only [G,h,l];exact yD (i:=0)
    exact j a (this▸rI o.2.1) p I
   .have:y.getD e.1 0=b:=by refine G▸?_;refine h▸?_;refine r▸?_;exact yD (i:=0)
    exact j b N B (this▸rI o.1)
   .have:y.getD e.1 0=d:=by refine H▸?_;refine h▸?_;refine t▸?_;exact yD (i:=0)
    exact u d O hd (this▸rI o.1)
  simp only [<-l,<-r,<-t]at h;obtain ⟨s,e⟩:=h;exact ⟨d,s,e,hd⟩
 .rcases sub a h with q|q
  .exact j a q p
  .exact u a q p
noncomputable def wK(A B C:bE):jU->Nat->Nat->Nat->List I5
 |[],_,_,_=>[]
 |(k,i,j)::r,o,p,q=>pc A B C o p q k i j++kS (A.getD k 0)::wK A B C r (k+1) (i+1) (j+1)
noncomputable def Pi:jU->T3->T3
 |[],s=>s
 |(k,i,j)::r,_=>Pi r (k+1,i+1,j+1)
def LZ:wK A B C [] o p q=[]:=rfl
def Cb:wK A B C ((k,i,j)::r) o p q=pc A B C o p q k i j++kS (A.getD k 0)::wK A B C r (k+1) (i+1) (j+1):=rfl
def G5:Pi ((k,i,j)::r) s=Pi r (k+1,i+1,j+1):=rfl
section
variable{A B C:bE}
def Do:∀(L:jU)(o p q:Nat),Bb A B C L o p q=wK A B C L o p q++pc A B C (Pi L (o,p,q)).1 (Pi L (o,p,q)).2.1 (Pi L (o,p,q)).2.2 (aC A) (aC B) (aC C):=by
 intro L
 induction L with
 |nil=>intro o p q;rfl
 |cons e L a=>obtain ⟨k,i,j⟩:=e;intro o p q;simp only [rY,Cb,G5,a,dM,fV]
def V0:∀(L L':jU)(s:T3),Pi (L++L') s=Pi L' (Pi L s):=by
 intro L
 induction L with
 |nil=>intro L' s;rfl
 |cons e L a=>obtain ⟨k,i,j⟩:=e;intro L' s;simp only [fV,G5,G5,a]
def Os:∀(L L':jU)(o p q:Nat),wK A B C (L++L') o p q=wK A B C L o p q++wK A B C L' (Pi L (o,p,q)).1 (Pi L (o,p,q)).2.1 (Pi L (o,p,q)).2.2:=by
 intro L
 induction L with
 |nil=>intro L' o p q;rfl
 |cons e L a=>obtain ⟨k,i,j⟩:=e;intro L' o p q;simp only [fV,Cb,Cb,G5,a,dM,fV]
def Vz:∀(n k i j:Nat)(s:T3),0<n->Pi (zP k i j n) s=(k+n,i+n,j+n):=by
 intro n
 induction n with
 |zero=>intro k i j s h;exact absurd h (eG 0)
 |succ n b=>
  intro k i j s _;simp only [xY,G5];by_cases a:n=0
  .subst a;rfl
  .refine (b _ _ _ _ (aT FH a))▸?_;refine (show k+1+n=k+(n+1) by exact aT Px)▸?_;refine (show i+1+n=i+(n+1) by exact aT Px)▸?_;exact (show j+1+n=j+(n+1) by exact aT Px)▸rfl
def BI(b:k+n<=aC A)(a:0<n):wK A B C (zP k i j n) o p q=pc A B C o p q k i j++(uH A k (k+n)).map kS:=by have h1:=U7 (B:=B) (C:=C) n k i j o p q [] b a;rw [dI,Do,Vz n k i j _ a,Bs]at h1;exact List.append_cancel_right h1
end
noncomputable def LB(x y:T3):Nat:=max x.2.1 y.2.1
noncomputable def ħ(x y:T3):Nat:=min (x.2.1+x.2.2) (y.2.1+y.2.2)
noncomputable def Pb(x y:T3):jU:=if LB x y<ħ x y then zP (LB x y) (x.1+(LB x y-x.2.1)) (y.1+(LB x y-y.2.1)) (ħ x y-LB x y)else[]
def O6:∀(n k i j:Nat)(e:T3),e∈zP k i j n↔k<=e.1/\e.1<k+n/\e.2.1+k=i+e.1/\e.2.2+k=j+e.1:=by
 intro n
 induction n with
 |zero=>intro k i j e;simp only [Vl];exact ⟨λh=>(nomatch h),λ⟨h1,h2,_⟩=>by exfalso;exact aT 0x180c64c63168094c80116808d001290600521006 ‹_›⟩
 |succ n a=>
  intro k i j e;rw [xY,aR,a];constructor
  .rintro (h|h)
   .subst h;dsimp only;exact aT 0x1f8c58c62d001a0035a0024004a420e100120004
   .exact aT 0x18512450c118b18c5a0253a00532d012200352107100290818c62d0141ca7420e0299680a0e4420e01a90241c0148507007 h
  .intro h;by_cases q:e.1=k
   .exact .inl (kZ q (kZ (by dsimp only;exact aT 0x23a08c5641ac016318b404a7400a65a0244006a420e200521007 h q) (by dsimp only;exact aT 0x2e2231594e532c016318b404a7400a65a0244006a420e200521007 h q)))
   .exact .inr (aT 0xa12224282060a1222428304316318b4050729d08380a65a028391083806a409070052141c0e92c016318b404a7400a65a0244006a420e200521007 h q)
def Aq:e∈Pb x y↔(x.2.1<=e.1/\e.1<x.2.1+x.2.2/\e.2.1+x.2.1=x.1+e.1)/\(y.2.1<=e.1/\e.1<y.2.1+y.2.2/\e.2.2+y.2.1=y.1+e.1):=by
 unfold Pb;split
 .rename_i h;rw [O6];have f:x.2.1<=LB x y:=ĸ _ _;have g:y.2.1<=LB x y:=ę _ _;have k:ħ x y<=y.2.1+y.2.2:=Ė _ _;constructor
  .exactλ⟨a,b,c,d⟩=>⟨⟨by exact aT aAc f ‹_›,by exact aT ln9 (Of _ _) ‹_›,by exact aT 0x120240109422315a0653a0453318c5a0682f0c5d99012e8cb40d0029d0129948204691852114cc1009 f ‹_›⟩,by exact aT aAc g ‹_›,by exact aT ln9 k ‹_›,by exact aT 0x48090040d028c56819786408bb3318c5a06801786404bb32d034174629d0129948204691852114cc1009 g ‹_›⟩
  .rintro ⟨⟨a,b,c⟩,i,j,l⟩;have k1:LB x y<=e.1:=Nat.max_le.mpr ⟨a,i⟩;exact ⟨k1,by exact aT UM (Nat.lt_min.mpr ⟨b,j⟩:e.1<ħ x y),by exact aT ξ f c,by exact aT ξ g l⟩
 .rename_i h;unfold LB ħ at *;exact ⟨λh=>(nomatch h),λ⟨⟨a,b,_⟩,i,j,_⟩=>by exfalso;exact aT 0x5610ae0150c2a90319318c5a0a72f4c819786520a6194e929c6c62d0539766408ba32904114e929c4e9280199d04120619e8c1009 h ‹_›⟩
def Ris(l:jU):Prop:=l.Pairwise λa b=>a.1<b.1
def CW:∀(n k i j:Nat),Ris (zP k i j n):=by
 intro n
 induction n with
 |zero=>intro k i j;exact iU
 |succ n a=>intro k i j;exact dR.mpr ⟨λe b=>by have:=(O6 _ _ _ _ _).mp b;dsimp only;exact aT 0x10462a0818c62d0141ca7420e0299680a0e4420e01a90241c0148507007 this,a _ _ _⟩
def JT{f g:Nat->Option Nat}:∀(n k:Nat),Ris (qT f g k n):=by
 intro n
 induction n with
 |zero=>intro k;exact iU
 |succ n a=>
  intro k;refine jA.mpr ⟨?_,a _,λe b d c=>?_⟩
  .cases (f k).bind λi=>(g k).map λj=>(k,i,j)with
   |none=>exact iU
   |some x=>exact Uz _ _
  .have h1:=((vB 1 k e).mp (by simp only [sU,F8,dI];exact b)).2.1;exact aT 0xe3150809120e1520e1003 h1 (((vB _ _ _).mp c).1)
def MT:∀{l l':jU},Ris l->Ris l'->(∀e,e∈l↔e∈l')->l=l':=by
 intro l
 induction l with
 |nil=>
  intro l' _ _ h
  cases l' with
  |nil=>rfl
  |cons b l'=>exact nomatch (h b).mpr aQ
 |cons a l i=>
  intro l' h1 h2 h
  cases l' with
  |nil=>exact nomatch (h a).mp aQ
  |cons b l'=>
   obtain ⟨f,j⟩:=dR.mp h1;replace h2:=dR.mp h2;obtain ⟨g,k⟩:=h2;have d:a=b:=by
    rcases aR.mp ((h a).mp aQ)with r|r
    .exact r
    .rcases aR.mp ((h b).mpr aQ)with z|z
     .exact z.symm
     .have:=g a r;have:=f b z;exfalso;exact aT 0x18c64a00541002 ‹_› this
   subst d;rw [i j k λe=>?_];constructor
   .intro c;rcases aR.mp ((h e).mp (aO _ c))with r|r
    .subst r;have:=f e c;exact absurd this (eG _)
    .exact r
   .intro c;rcases aR.mp ((h e).mpr (aO _ c))with r|r
    .subst r;have:=g e c;exact absurd this (eG _)
    .exact r
def N6(l:jU):Prop:=l.Pairwise λa b=>a.2.1+a.2.2<=b.2.1
noncomputable def uN(F G:jU):jU:=F.flatMap λx=>G.flatMap λy=>Pb x y
def X7(c:N6 F)(d:N6 G):Ris (uN F G):=by
 refine tT.mpr ⟨λx _=>tT.mpr ⟨λy _=>?_,?_⟩,?_⟩
 .unfold Pb;split
  .exact CW _ _ _ _
  .exact iU
 .refine nU (λh e a f b=>?_) d;exact dC (Aq.mp a).2.2.1 (bV h (Aq.mp b).2.1)
 .refine nU (λh e a f b=>?_) c;obtain ⟨y,_,a⟩:=jB.mp a;refine nn λg=>?_;obtain ⟨i,_,b⟩:=jB.mp b;refine g ?_;exact dC (Aq.mp a).1.2.1 (bV h (Aq.mp b).1.1)
def Sy{M M':T3->Prop}(g:Lb B A M)(g':Lb C A M')(l:N6 F)(m:N6 G)(f:∀j i,Mp (·∈F) j i↔Mp M j i)(n:∀j i,Mp (·∈G) j i↔Mp M' j i):
  uN F G=qT (fm M) (fm M') 0 (aC A):=by
 refine MT (X7 l m) (JT _ _) λe=>?_;rw [vB,g.fm_some,g'.fm_some,<-f,<-n];constructor
 .intro h;refine nn λo=>?_;obtain ⟨x,c,h⟩:=jB.mp h;obtain ⟨y,d,h⟩:=jB.mp h;obtain ⟨a,b⟩:=Aq.mp h;refine o ?_;have k:Mp (·∈F) e.1 e.2.1:=⟨x,c,a⟩;have:=(g.at_ ((f _ _).mp k)).2.2.2.1;exact ⟨bI _,aT 0x318a90130141002 this,k,⟨y,d,b⟩⟩
 .rintro ⟨_,_,⟨x,c,a⟩,⟨y,d,b⟩⟩;exact jB.mpr ⟨x,c,jB.mpr ⟨y,d,Aq.mpr ⟨a,b⟩⟩⟩
def QJ:∀(l:jU)(c:T3)(j i:Nat),Mp (·∈tO c l) j i↔Mp (·∈c::l) j i:=by
 intro l
 induction l with
 |nil=>
  rintro ⟨a,b,k⟩ j i;simp only [F3];split
  .rename_i h;constructor
   .rintro ⟨e,f,_⟩;cases f
   .rintro ⟨e,f,h1,h2,h3⟩;rw [aM.mp f]at h1 h2 h3;dsimp only at h1 h2 h3;exfalso;exact aT TY h h1 h2
  .exact Iff.rfl
 |cons d l m=>
  obtain ⟨n,o,g⟩:=d;rintro ⟨a,b,k⟩ j i;simp only [F1];split
  .rename_i h;rw [m];constructor
   .rintro ⟨e,f,h1,h2,h3⟩;rcases aR.mp f with q|q
    .subst q;dsimp only at h1 h2 h3;by_cases s:j<b+k
     .exact ⟨(a,b,k),by simp,by dsimp only;exact aT Ys h1,by dsimp only;exact aT 0xc62a4082052041003 s,by dsimp only;exact aT UR h3⟩
     .exact ⟨(n,o,g),by simp,by dsimp only;exact aT 0x58c525311d2520232998b2202358901006 h s,by dsimp only;exact aT 0x38c54829c853290829c232998b2202358901007 h h2,by dsimp only;exact aT 0x339a315a0a71208532d05381032998b2202358901007 h h3⟩
    .exact ⟨e,by simp [q],h1,h2,h3⟩
   .rintro ⟨e,f,h1,h2,h3⟩;rcases aR.mp f with q|q
    .subst q;dsimp only at h1 h2 h3;exact ⟨(a,b,k+g),by simp,by dsimp only;exact aT Ys h1,by dsimp only;exact aT 0x318a9081882052041004 h2,by dsimp only;exact aT UR h3⟩
    .rcases aR.mp q with q|q
     .subst q;dsimp only at h1 h2 h3;exact ⟨(a,b,k+g),by simp,by dsimp only;exact aT 0x38c52530d253118b2202358901006 h h1,by dsimp only;exact aT 0x58c548414e1194ca414e42998b2202358901007 h h2,by dsimp only;exact aT 0x4b6a315a0a70206532d05389042998b2202358901007 h h3⟩
     .exact ⟨e,by simp [q],h1,h2,h3⟩
  .split
   .rename_i _ h;rw [m];constructor
    .rintro ⟨e,f,h1⟩;exact ⟨e,aO _ f,h1⟩
    .rintro ⟨e,f,h1,h2,h3⟩;rcases aR.mp f with q|q
     .subst q;dsimp only at h1 h2 h3;exfalso;exact aT TY h h1 h2
     .exact ⟨e,q,h1,h2,h3⟩
   .constructor
    .rintro ⟨e,f,h1⟩;rcases aR.mp f with q|q
     .exact ⟨e,by simp [q],h1⟩
     .obtain ⟨p,r,h'⟩:=(m (n,o,g) j i).mp ⟨e,q,h1⟩;exact ⟨p,aO _ r,h'⟩
    .rintro ⟨e,f,h1⟩;rcases aR.mp f with q|q
     .exact ⟨e,by simp [q],h1⟩
     .obtain ⟨p,r,h'⟩:=(m (n,o,g) j i).mpr ⟨e,q,h1⟩;exact ⟨p,aO _ r,h'⟩
def HC:∀(l:jU)(c:T3),N6 (c::l)->(∀e∈c::l,e.2.1+e.2.2<=n)->N6 (tO c l)/\∀e∈tO c l,c.2.1<=e.2.1/\e.2.1+e.2.2<=n:=by
 intro l
 induction l with
 |nil=>
  rintro ⟨a,b,k⟩ h1 h2;simp only [F3];split
  .exact ⟨iU,λe f=>(nomatch f)⟩
  .exact ⟨h1,λe f=>⟨by refine (aM.mp f)▸?_;exact bG _,h2 e f⟩⟩
 |cons d l m=>
  obtain ⟨o,p,i⟩:=d;rintro ⟨a,b,k⟩ h1 h2;refine nn λu=>?_;obtain ⟨v,r⟩:=dR.mp h1;obtain ⟨x,y⟩:=dR.mp r;refine u ?_;have g:=v _ aQ;have s:=h2 (o,p,i) (by simp);dsimp only at g s;simp only [F1];split
  .rename_i h;exact m (a,b,k+i) (dR.mpr ⟨λe f=>by have:=x e f;dsimp only at this⊢;exact aT 0x38c5253a1053046929d053118b2202358901007 h this,y⟩) λe f=>by
    rcases aR.mp f with q|q
    .subst q;dsimp only;exact aT 0x8c62912101214ec5810429d653208348901007 s h
    .exact h2 e (by simp [q])
  .obtain ⟨t,j⟩:=m (o,p,i) r λe f=>h2 e (aO _ f);split
   .exact ⟨t,λe f=>by have:=j e f;dsimp only at this⊢;exact aT ε g this⟩
   .refine ⟨dR.mpr ⟨λe f=>?_,t⟩,λe f=>?_⟩
    .have:=(j e f).1;dsimp only at this⊢;exact aT 0xe3148d010246248901004 g this
    .rcases aR.mp f with q|q
     .subst q;exact ⟨bG _,h2 _ (by simp)⟩
     .have:=j e q;dsimp only at this⊢;exact aT ε g this
def Rk:∀(f ao az bo bz:Nat),az-ao<=f->N6 (Af A B f ao az bo bz):=by
 intro f
 induction f with
 |zero=>intro ao az bo bz _;exact iU
 |succ f c=>
  intro ao az bo bz h;have d:=Q6 A B ao az bo bz;simp only [yK];rcases g:K0 A B ao az bo bz with ⟨i,j,k⟩;simp only [g]at d;dsimp only;by_cases a:k=0
  .rw [if_pos a];exact iU
  .rw [if_neg a];have c0:=d.cr (dG a);have:=c0.a0;have:=c0.a1;have:=c0.b0;have:=c0.b1;have g2:=Uk (A:=A) (B:=B) f (i+k) az (j+k) bz (aT ln8 h a ‹_›);refine jA.mpr ⟨c _ _ _ _ (aT ln6 h a ‹_›),dR.mpr ⟨λe b=>(g2.run e b).2.b0,c _ _ _ _ (aT ln8 h a ‹_›)⟩,λe b l m=>?_⟩;have h1:=((Uk (A:=A) (B:=B) f ao i bo j (aT ln6 h a ‹_›)).run e b).2.b1;rcases aR.mp m with q|q
   .subst q;exact h1
   .have:=(g2.run l q).2.b0;exact aT ZX h1 this
def MB(A B:bE)(e:T3):Prop:=e∈Af A B (aC A) 0 (aC A) 0 (aC B)
def Kh:Lb A B (MB A B):=Uk _ _ _ _ _ (aT OG)
def Cp:N6 (Yn A B)/\∀j i,Mp (·∈Yn A B) j i↔Mp (MB A B) j i:=by
 obtain ⟨h1,h2⟩:=HC (n:=aC B) (Af A B (aC A) 0 (aC A) 0 (aC B)) (0,0,0) (dR.mpr ⟨λe _=>bI _,Rk _ _ _ _ _ (aT OG)⟩) λe d=>by
  rcases aR.mp d with q|q
  .subst q;exact bI _
  .exact ((Kh (A:=A) (B:=B)).run e q).2.b1
 refine ⟨jA.mpr ⟨h1,Uz _ _,λe d g f=>by rw [aM.mp f];exact (h2 e d).2⟩,λj i=>?_⟩;have k:=QJ (Af A B (aC A) 0 (aC A) 0 (aC B)) (0,0,0) j i;constructor
 .rintro ⟨e,d,a,b,c⟩;rcases cU.mp d with q|q
  .obtain ⟨g,f,h'⟩:=k.mp ⟨e,q,a,b,c⟩;rcases aR.mp f with z|z
   .subst z;dsimp only at h';exact absurd h'.2.1 (eL _)
   .exact ⟨g,z,h'⟩
  .rw [aM.mp q]at a b c;dsimp only at a b c;exfalso;exact aT 0x6319290600521002 a b
 .rintro ⟨e,d,h⟩;refine nn λl=>?_;obtain ⟨g,f,h'⟩:=k.mpr ⟨e,aO _ d,h⟩;refine l ?_;exact ⟨g,iA _ f,h'⟩
def Kf:uN (Yn B A) (Yn C A)=qT (fm (MB B A)) (fm (MB C A)) 0 (aC A):=
 Sy Kh Kh Cp.1 Cp.1 Cp.2 Cp.2
def XS(a b:bE):D8 (vL a) (vL b) σ=aG (.bool (decide (a=b)),σ)/\W1 (vL a) (vL b) σ=aG (.bool (!decide (a=b)),σ):=
 BV (dP (eO a)) (dP (eO b)) (IN 63 a) (IN 63 b) ⟨λe=>Hk (V.lst.inj e),congrArg vL⟩
def Vc(a b:bE):D8 (vL a) (vL b) σ=aG (.bool (decide (a=b)),σ):=(XS a b).1
def Gh(d:e σ=aG (vL L,σ))(f:gy σ=aG (vN a,σ))(i:gz σ=aG (vN b,σ))(j:aC L<=1000):mH e (kH gy) (kH gz) σ=aG (vL (uH L a b),σ):=by
 unfold mH;refine d▸?_;refine (?_:bd (kH gy σ) _=_);have c:∀{g:M V}{a:Nat},g σ=aG (vN a,σ)->kH g σ=aG (aG (a:Int),σ):=λh=>by unfold kH;refine h▸?_;rfl
 refine (c f)▸?_;refine (?_:bd (kH gz σ) _=_);refine (c i)▸?_;refine (?_:(if (L.map V.int).length<=lim then aG (V.lst (pySl (L.map V.int) (aG (a:Int)) (aG (b:Int))),σ)else aH)=_);rw [if_pos (by rw [bB];exact aT ĩ j (rfl:lim=1048576)),MV];simp only [uH,vL,List.map_take,aBy]
def xT(a:lk σ.cells c=aG (.list l))(h:l[n]?=aG v)(b:aC l<=lim):fT (.ref c) (vN n) σ=aG (v,σ):=
 nX (x:=Zw σ (.ref c)) (nX a rfl) ((if_pos ⟨iY n,b⟩).trans (by simp only [mY,h];rfl))
def xV(c:a.length+b.length<=1000000):fF (vL a) (vL b) σ=aG (vL (a++b),σ):=by refine (?_:(if (a.map V.int).length+(b.map V.int).length<=lim then aG (V.lst (a.map V.int++b.map V.int),σ)else aH)=_);rw [if_pos (by simp only [bB];exact aT η c (rfl:lim=1048576))];refine dK▸?_;rfl
def Gi(h:lk σ.cells i=aG (.list l))(h':J0 σ d=aG l')(a:aC l<=lim)(b:aC l'<=lim):Ay [.ref i,d] σ=aG (.none,{σ with cells:=put i (.list (l++l')) σ.cells}):=by refine (?_:aL σ i _=_);rw [KB h];simp only [h'];exact if_pos ⟨a,b⟩
def XR:ù [vN a,vN b] σ=aG (vN (max a b),σ):=by
 refine (?_:aG (V.int _,σ)=_);by_cases h:a<b
 .rw [if_pos (jP.mpr h),ė (iG h)];rfl
 .rw [if_neg (λq=>h (jP.mp q)),Oh (fD h)];rfl
def Ł(e:c σ=aG (t,τ))(h1:t=aU->a τ=r)(h2:t=bR->b τ=r):T7 c a b σ=r:=by
 unfold T7;refine e▸?_;cases t
 .exact h2 rfl
 .exact h1 rfl
def MH(c:a.length+b.length<=1000000):fF (.lst a) (.lst b) σ=aG (.lst (a++b),σ):=by refine (?_:(if a.length+b.length<=lim then aG (V.lst (a++b),σ)else aH)=_);rw [if_pos (by exact aT η c (rfl:lim=1048576))]
def Fo{c:Type}{a b:c}:∀{l:List (Nat×c)},(l.all λp=>decide (p.1<x))=aU->put x a (l++[(x,b)])=l++[(x,a)]/\put x a l=l++[(x,a)]:=by
 intro l
 induction l with
 |nil=>intro _;exact ⟨if_pos rfl,rfl⟩
 |cons p r e=>intro h;obtain ⟨h1,h2⟩:=Az h;have d:=iT (of_decide_eq_true h1);obtain ⟨f,g⟩:=e h2;exact ⟨(if_neg d).trans (congrArg _ f),(if_neg d).trans (congrArg _ g)⟩
def Np(a:Ed x z=[]):∀{l:tH},(l.all λp=>decide (p.1<x))=aU->Ed x (l++z)=l:=by
 intro l
 induction l with
 |nil=>intro _;exact a
 |cons p r b=>intro h;obtain ⟨h1,h2⟩:=Az h;exact (if_pos (of_decide_eq_true h1)).trans (congrArg _ (b h2))
noncomputable def Df(σ:St)(x:Nat)(d:V):St:={σ with loc:=σ.loc++[(x,d)]}
def aA6{a:Type}{c:a->V}{f:a->cA}(g:(σ.loc.all λp=>decide (p.1<x))=aU):∀{l:List a}{τ:St},(τ=σ\/∃d,τ=Df σ x d)->(∀d∈l,gb (Df σ x (c d))=aG (f d,Df σ x (c d)))->∃τ',yJ (cG x) gb (l.map c) τ=aG (l.flatMap f,τ')/\(τ'=σ\/∃d,τ'=Df σ x d):=by
 intro l
 induction l with
 |nil=>intro τ h _;exact ⟨τ,rfl,h⟩
 |cons d r j=>
  intro τ h i;have k:cG x (c d) τ=aG (Df σ x (c d)):=by
   rcases h with rfl|⟨m,rfl⟩
   .exact congrArg aG (congrArg (λl=>{τ with loc:=l}) (Fo (b:=c d) g).2)
   .exact congrArg aG (congrArg (λl=>{σ with loc:=l}) (Fo g).1)
  obtain ⟨τ',e,h'⟩:=j (τ:=Df σ x (c d)) (.inr ⟨_,rfl⟩) λd hd=>i d (aO _ hd);refine ⟨τ',?_,h'⟩;simp only [cE,Xh,k];refine (?_:bd (gb (Df σ x (c d))) _=_);rw [i d aQ];refine (?_:bd (yJ (cG x) gb (r.map c) (Df σ x (c d))) _=_);rw [e];rfl
def xU{a:Type}{l:List a}(c:a->V)(f:a->cA)(e:g σ=aG (l.map c,σ))(b:(σ.loc.all λp=>decide (p.1<x))=aU)(h:∀d∈l,gb (Df σ x (c d))=aG (f d,Df σ x (c d)))(i:(l.flatMap f).length<=lim):lI x g (cG x) gb σ=aG (.lst (l.flatMap f),σ):=by
 replace h:=aA6 b (.inl rfl) h;obtain ⟨τ',j,k⟩:=h;have m:Ec x τ'=σ:=by
  rcases k with rfl|⟨d,rfl⟩
  .have:=Np (z:=[]) rfl b;rw [dI]at this;exact congrArg (λl=>{τ' with loc:=l}) this
  .exact congrArg (λl=>{σ with loc:=l}) (Np (z:=[(x,d)]) (if_neg (eG x)) b)
 unfold lI;refine e▸?_;refine (?_:bd (yJ (cG x) gb (l.map c) σ) _=_);refine j▸?_;refine (?_:(if (l.flatMap f).length<=lim then _ else _)=_);refine (if_pos i)▸?_;exact m▸rfl
def sC{a:Type}{v:a}{z:List (Nat×a)}:∀{l:List (Nat×a)},lk l x=aG v->lk (l++z) x=aG v:=by
 intro l
 induction l with
 |nil=>intro h;cases h
 |cons p r b=>
  intro h;by_cases q:x=p.1
  .exact (if_pos q).trans ((if_pos q).symm.trans h)
  .exact (if_neg q).trans (b ((if_neg q).symm.trans h))
def D3(a:(σ.loc.all λp=>decide (p.1<x))=aU):lk (Df σ x d).loc x=aG d:=by
 refine (?_:lk (σ.loc++[(x,d)]) x=_);generalize σ.loc=l at a
 induction l with
 |nil=>exact if_pos rfl
 |cons p r b=>obtain ⟨h1,h2⟩:=Az a;exact (if_neg (iT (of_decide_eq_true h1))).trans (b h2)
def BU(c:gc σ=aG (b,σ))(d:b=aU->a σ=aG (v,σ)):yQ gc (kD a) σ=aG (if b=aU then[v]else[],σ):=by
 unfold yQ;refine c▸?_
 cases b with
 |false=>rfl
 |true=>refine (?_:kD a σ=_);unfold kD;refine (d rfl)▸?_;rfl
def W6{a:Type}(p:a->Bool)(g:a->V):∀l:List a,(l.flatMap λi=>if p i=aU then[g i]else[])=(l.filter p).map g:=by
 intro l
 induction l with
 |nil=>rfl
 |cons i r b=>
  simp only [fE,b];by_cases h:p i=aU
  .rw [if_pos h,U0 h];rfl
  .rw [if_neg h,U1 h];rfl
def MG{a:Type}{l:List a}(c:a->V)(p:a->Bool)(g:a->V)(e:d σ=aG (l.map c,σ))(f:(σ.loc.all λp=>decide (p.1<x))=aU)(j:aC l<=lim)
  (h:∀i∈l,gc (Df σ x (c i))=aG (p i,Df σ x (c i))/\(p i=aU->k (Df σ x (c i))=aG (g i,Df σ x (c i)))):lI x d (cG x) (yQ gc (kD k)) σ=aG (.lst ((l.filter p).map g),σ):=by
 have b:=xU c (λi=>if p i=aU then[g i]else[]) e f (λi hi=>BU (h i hi).1 (h i hi).2) (by simp only [W6,bB];exact bV (tU _ _) j);rw [W6]at b;exact b
def Mr(n:y≠x)(h:lk loc y=aG u):lk (put x v loc) y=aG u:=(kA x v loc y).trans ((if_neg n).trans h)
def oM{x y:Nat}{v u:V}{loc:tH}(h:lk loc y=aG u)(n:y≠x:=by decide):lk (put x v loc) y=aG u:=Mr n h
def oW:lk (put x v loc) x=aG v:=(kA x v loc x).trans (if_pos rfl)
open Classical in
def Nm{α:Type}(lw:α->cA)(ok:α->Prop)(ow:α->V):cA->pM:=λus=>if h:∃a,us=lw a/\ok a then aG (ow h.choose)else aH
def C5{d:Type}{c:d->cA}{ok:d->Prop}{e:d->V}{a:d}(inj:∀a b,c a=c b->e a=e b)(f:dH (c a)=aU)(g:ok a):LH (Nm c ok e) (c a) σ=aG (e a,σ):=by have h:∃b,c a=c b/\ok b:=⟨a,rfl,g⟩;unfold LH Nm;rw [if_pos f,dif_pos h,inj a _ h.choose_spec.1];rfl
def ş{b:Type}{d:b->cA}{ok:b->Prop}{g:b->V}(c:∀a,ok a->Xn n f (d a) (λr=>r=g a))(F:Fx):A0 n F f (LH (Nm d ok g)):=ZD λus r _ e=>by
 unfold Nm at e;split at e
 .rename_i h;cases e;have q:=c _ h.choose_spec.2;simp only [<-h.choose_spec.1]at q;exact q
 .cases e
def qZ(h:vL A=vL B):A=B:=Hk (V.lst.inj h)
def SJ{b:Type}{f:b->V}{p:V->Bool}(h:∀a,p (f a)=aU):∀l:List b,(l.map f).all p=true:=by
 intro l
 induction l with
 |nil=>rfl
 |cons a r c=>simp only [cE,oZ,h a,c];rfl
def Lo(k:Nat)(loc:tH):Prop:=∀p∈loc,p.1<100/\stay k p.2=aU
def Ml:∀{loc:tH},p∈put x v loc->p=(x,v)\/p∈loc:=by
 intro loc
 induction loc with
 |nil=>intro h;exact .inl (aM.mp h)
 |cons q r a=>
  intro h;rw [L4]at h;split at h
  .rcases aR.mp h with z|z
   .exact .inl z
   .exact .inr (aO _ z)
  .rcases aR.mp h with z|z
   .exact .inr (z▸aQ)
   .exact (a z).imp id (aO _)
def Pm:∀{xs:mI},p∈jL loc xs->lk loc p.1=aG p.2:=by
 intro xs
 induction xs with
 |nil=>intro h;cases h
 |cons x xs a=>
  intro h;simp only [Cv]at h;split at h
  .rename_i e;rcases aR.mp h with z|z
   .refine z▸?_;exact e
   .exact a z
  .exact a h
def Tm(h:Lo k loc)(a:x<100)(b:stay k v=aU):Lo k (put x v loc):=λp c=>by
 rcases Ml c with q|q
 .refine q▸?_;exact ⟨a,b⟩
 .exact h p q
def Mq(h:Lo k loc):Lo k (jL loc xs):=λp a=>h p (Ms (Pm a))
def OV:∀{xs:mI},i∈xs->lk (jL loc xs) i=lk loc i:=by
 intro xs
 induction xs with
 |nil=>intro h;cases h
 |cons x xs a=>
  intro h;simp only [Cv];by_cases hi:i∈xs
  .split
   .rename_i e;simp only [eP];split
    .rename_i q;refine q▸?_;exact e.symm
    .exact a hi
   .exact a hi
  .have b:=(aR.mp h).resolve_right hi;subst b;split
   .rename_i e;refine eP▸?_;refine (if_pos rfl)▸?_;exact e▸rfl
   .rename_i e;simp only [e]
    cases q:lk (jL loc xs) i with
    |none=>rfl
    |some v=>replace e:=(Pz q)▸e;cases e
def AF(h:i∈xs)(e:lk loc i=aG v):lk (jL loc xs) i=aG v:=(OV h).trans e
def nZ{loc:tH}{i:Nat}{v:V}{xs:mI}(e:lk loc i=aG v)(h:i∈xs:=by decide):lk (jL loc xs) i=aG v:=AF h e
def Lo.s(h:Lo k loc):(loc.all λp=>stay k p.2)=true:=dO.mpr λp a=>(h p a).2
def Lo.b(h:Lo k loc):(loc.all λp=>decide (p.1<100))=true:=dO.mpr λp a=>decide_eq_true (h p a).1
def Bj{J:gZ}(h:Lo k loc)(e:oH k (rZ uY k cs) cs=aG a)(j:J ⟨jL loc xs,a,k⟩):I0 xs k J ⟨loc,cs,n⟩:=
 ⟨_,zX rfl (Mq h).s e,j⟩
def Dr(e:a σ=aG (v,τ)):kD a σ=aG ([v],τ):=by unfold kD;rw [e];rfl
def vOr(e:g σ=aG (b,σ))(a:h σ=aG (c,σ)):Þ g h σ=aG (b||c,σ):=by
 unfold Þ;refine e▸?_;cases b
 .exact a
 .rfl
def Gk(e:g σ=aG (b,σ))(a:b=aU->h σ=aG (c,σ)):kJ g h σ=aG (b&&c,σ):=by
 unfold kJ;refine e▸?_;cases b
 .rfl
 .exact a rfl
def WF{b c:Type}(f:b->c):∀l:List b,(l.flatMap λd=>[f d])=l.map f:=by
 intro l
 induction l with
 |nil=>rfl
 |cons a r e=>simp only [fE,e];rfl
def lW(t:I5):V:=.tup [vL t.1,vL t.2.1,vL t.2.2]
def wL(l:List I5):V:=.lst (l.map lW)
def Xz(t:I5):(lW t).pure=true:=by refine (?_:dH [vL t.1,vL t.2.1,vL t.2.2]=aU);simp only [fO,eN,eO,gQ]
def uL(l:List I5):dH (l.map lW)=true:=by
 induction l with
 |nil=>rfl
 |cons t r a=>simp only [cE,eN,Xz,a];rfl
def pR(l:List I5):(wL l).pure=true:=uL l
def BZ(h:lW t=lW u):t=u:=by obtain ⟨a,b,c⟩:=t;obtain ⟨d,e,f⟩:=u;simp only [lW,V.tup.injEq,kM,and_true]at h;refine (qZ h.1)▸?_;refine (qZ h.2.1)▸?_;exact (qZ h.2.2)▸rfl
def Mn{c d:Type}{f:c->d}(e:∀a b,f a=f b->a=b):∀{l l':List c},l.map f=l'.map f->l=l':=by
 intro l
 induction l with
 |nil=>intro l' h;cases l' with
  |nil=>rfl
  |cons _ _=>cases h
 |cons a r g=>intro l' h;cases l' with
  |nil=>cases h
  |cons b i=>simp only [cE,cE,kM]at h;refine (e _ _ h.1)▸?_;exact (g h.2)▸rfl
def MI(h:wL l=wL m):l=m:=Mn (λ_ _=>BZ) (V.lst.inj h)
def ID(h:aC A<=1000):Go (H0 0 ⟨[(0,vL A)],[],0⟩) λf τ=>f=.ret (wL (A.map kS)):=by
 have a:lim=1048576:=rfl;have one:∀{σ:St},(σ.loc.all λp=>decide (p.1<100))=aU->∀d:Int,pW (aS (aP 100) bP) (Df σ 100 (.int d))=aG (vL [d],Df σ 100 (.int d)):=λb d=>Cc (bH (bS (D3 b)) cW) lm1;refine zT (τ:=⟨[(0,vL A)],[],0⟩) ?_ rfl;refine (xU (σ:=⟨[(0,vL A)],[],0⟩) V.int (λd=>[lW (kS d)]) (qC (bS rfl) (tD _)) rfl (λd _=>Dr (nV (bH (one rfl d) (bH (one rfl d) (bH (one rfl d) cW))) Fu)) ?_).trans ?_
 .simp only [WF,bB];exact aT ĩ h a
 .rw [WF];unfold wL;rw [qG];rfl
abbrev vA:mU:=LH (Nm (λA:bE=>[vL A]) (λA=>aC A<=1000) λA=>wL (A.map kS))
def Iw(h:aC A<=1000):vA [vL A] σ=aG (wL (A.map kS),σ):=
 C5 (λa b e=>by exact (qZ (qB e).1)▸rfl) (by refine (?_:((vL A).pure&&aU)=aU);rw [eO];rfl) h
section
variable{n:Nat}
def aBa(G:Gd)(h:aC A<=1000):Xn (n+1) (.ref 256) [vL A] (λr=>r=wL (A.map kS)):=by
 refine Uu.c (zY (o:=MineH.o256v0) (bU w.params) (G.K 256 _ (by kernel_rfl)) rfl G.lim (codeRec_of G.K (by kernel_rfl)) rfl (λvs h=>?_) (by refine (?_:(1:Nat)<=1);decide) (by simp only [fO,eN,eO,gQ]) λL=>?_)
 .revert vs;exact VY λ_=>by kernel_rfl
 .obtain ⟨f,τ,e,rfl⟩:=ID h;refine kO (Ql G 0 _ _ _ e) ?_;rintro _ _ ⟨rfl,rfl⟩;exact ⟨_,dP (pR _),pR _,rfl⟩
def Tc(G:Gd)(F:Fx):A0 (n+1) F (.ref 256) vA:=ş (λa h=>aBa G h) F
end
def Uq(l:List I5):Prop:=aC l<=200/\∀t∈l,t.1.length<=200/\t.2.1.length<=200/\t.2.2.length<=200
def FW:∀{l:List I5},(∀t∈l,t.1.length<=200/\t.2.1.length<=200/\t.2.2.length<=200)->(jn l).length<=400*aC l:=by
 intro l
 induction l with
 |nil=>intro _;exact bI _
 |cons t r a=>
  intro h;have h1:=a λu b=>h u (aO _ b);have h2:=h t aQ;simp only [yA,bD,eM];have:(Mw t).length<=400:=by
   unfold Mw;split
   .exact aT 0xc629c6bc613189c676612719d9829c6766003 h2
   .split
    .exact aT 0x14629c6bc60b189c676612719d9829c6766003 h2
    .rw [bD];exact aT 0x718a71af19020b189c676612719d9829c6766003 h2
  exact aT 0x1c629820e1c6bc640049c6bc612601c6bc6003 h1 this
inductive JJ(l:List I5)(i:Nat)(τ:St):Prop
 |mk (loc:tH) (h:Lo 1 loc) (h1:lk loc 1=aG (.ref 0)) (e:τ=⟨loc,[(0,.list ((jn (l.take i)).map V.int))],1⟩)
def FV(ok:Uq l):Go (Hz 0 ⟨[(0,wL l)],[],0⟩) λf τ=>f=.ret (.ref 0)/\lk τ.cells 0=aG (.list ((jn l).map V.int)):=by
 have k:lim=1048576:=rfl;obtain ⟨o,m⟩:=ok;refine cP (eS (τ':=⟨[(0,wL l),(1,.ref 0)],[(0,.list [])],1⟩) (wB cW (by decide)) rfl (gF (σ':=⟨[(0,wL l),(1,.ref 0)],[(0,.list [])],1⟩) rfl ?_));refine cP (pL (λ_=>False) (JJ l) (τ:=⟨[(0,wL l),(1,.ref 0)],[(0,.list [])],1⟩) (qC (bS rfl) (uL l)) (by refine (?_:(0:Nat)<=1);decide) ⟨_,?_,rfl,rfl⟩ (λi y v a r=>?_) (λτ' hd=>?_))
 .intro p h;rcases aR.mp h with rfl|h
  .exact ⟨by refine (?_:(0:Nat)<100);decide,mO (pR l)⟩
  .refine (aM.mp h)▸?_;exact ⟨by decide,rfl⟩
 .replace a:=(dL)▸a
  cases d:l[i]? with
  |none=>rw [d]at a;cases a
  |some t=>
   replace a:=d▸a;cases a;obtain ⟨hi,z⟩:=cF.mp d;obtain ⟨loc,lo,h1,rfl⟩:=r;have tb:=m t (aJ d);have s:(jn (l.take i)).length<=80000:=by have:=FW (l:=l.take i) λu j=>m u (AQ j);simp only [zH]at this;exact aT 0x190c8004039000643200100cc538c6b9bd18698031af1869c676614ce1003 o this
   have x:(Mw t).length<=400:=by
    have:=FW (l:=[t]) λu j=>by refine (aM.mp j)▸?_;exact tb
    rw [Mv]at this;exact this
   let b:=put 4 (vL t.2.2) (put 3 (vL t.2.1) (put 2 (vL t.1) loc));have l1:lk b 1=aG (.ref 0):=oM (oM (oM h1));have l2:lk b 2=aG (vL t.1):=oM (oM oW);have e:lk b 3=aG (vL t.2.1):=oM oW;have g:lk b 4=aG (vL t.2.2):=oW;have lo1:Lo 1 b:=Tm (Tm (Tm lo (by decide) (mO (eO _))) (by decide) (mO (eO _))) (by decide) (mO (eO _));refine ⟨⟨b,[(0,.list ((jn (l.take i)).map V.int))],1⟩,rfl,?_⟩;have a:T7 (gM (bJ D8 (aP 3) (aP 2))) (aP 4) (T7 (Þ (gM (bJ D8 (aP 4) (aP 2))) (Þ (gM (bJ D8 (aP 3) (aP 4))) (λσ=>aG (bR,σ)))) (aP 3) (bJ fF (aP 3) (aP 4))) ⟨b,[(0,.list ((jn (l.take i)).map V.int))],1⟩=aG (vL (Mw t),⟨b,[(0,.list ((jn (l.take i)).map V.int))],1⟩):=by
    unfold Mw;refine Ł (lP (cQ (bS e) (bS l2) (Vc _ _))) (λq=>?_) (λq=>?_)
    .refine (if_pos (of_decide_eq_true q))▸?_;exact bS g
    .refine (if_neg (of_decide_eq_false q))▸?_;refine Ł (vOr (lP (cQ (bS g) (bS l2) (Vc _ _))) (vOr (lP (cQ (bS e) (bS g) (Vc _ _))) rfl)) (λq=>?_) (λq=>?_)
     .rw [if_pos (by simpa using q)];exact bS e
     .rw [if_neg (by simpa using q)];exact cQ (bS e) (bS g) (xV (by exact aT 0x718a718ce79ed99020b189c676612719d9829c6766003 tb))
   refine rH (xR (u:=.ref 0) (us:=[vL (Mw t)]) (l:=(jn (l.take i)).map V.int) (bS l1) rfl (bH a cW) (Gi (l':=(Mw t).map V.int) rfl rfl (by rw [bB];exact aT 0x2c62900538c6b9bd182bc6318c6386002 k s) (by rw [bB];exact aT 0x58c5200a71af182bc6318c6386002 k x))) ?_;refine Bj lo1 (gL (by refine (?_:(0:Nat)<1);decide) (gE (c:=.list _) (jD (?_:dH ((jn (l.take i)).map V.int++(Mw t).map V.int)=aU))) kW) ⟨_,Mq lo1,AF (xs:=[1]) (by decide) l1,?_⟩
   .refine dK▸?_;exact tD _
   .refine dK▸?_;refine Oo▸?_;refine d▸?_;refine zR▸?_;refine (?_:_=(⟨_,[(0,.list ((jn (l.take i)++jn [t]).map V.int))],1⟩:St));exact Mv▸rfl
 .obtain ⟨loc,lo,h1,rfl⟩:=hd.resolve_right id;refine gF (σ':=⟨jL loc [1],[(0,.list ((jn (l.take (l.map lW).length)).map V.int))],1⟩) rfl (zT (v:=.ref 0) (bS (nZ h1)) ⟨rfl,?_⟩);refine (?_:aG (fQ.list ((jn (l.take (l.map lW).length)).map V.int))=_);rw [bB,zF]
abbrev Bl:mU:=LH (Nm (λl:List I5=>[wL l]) Uq λl=>vL (jn l))
def Rd(h:Uq l):Bl [wL l] σ=aG (vL (jn l),σ):=
 C5 (λa b e=>by exact (MI (qB e).1)▸rfl) (by refine (?_:((wL l).pure&&aU)=aU);rw [pR];rfl) h
section
variable{n:Nat}
def aA9(G:Gd)(h:Uq l):Xn (n+1) (.ref 277) [wL l] (λr=>r=vL (jn l)):=by
 refine Uu.c (zY (o:=MineH.o277v0) (cT w.params) (G.K 277 _ (by kernel_rfl)) rfl G.lim (codeRec_of G.K (by kernel_rfl)) rfl (λvs h=>?_) (by refine (?_:(1:Nat)<=5);decide) (by simp only [fO,eN,pR,gQ]) λL=>?_)
 .revert vs;exact VY λ_=>by kernel_rfl
 .obtain ⟨f,τ,e,rfl,a⟩:=FV h;refine kO (Qk G 0 _ _ _ e) ?_;rintro _ _ ⟨rfl,rfl⟩;exact ⟨_,wQ (eL _) a (tD _),eO _,rfl⟩
def ZF(G:Gd)(F:Fx):A0 (n+1) F (.ref 277) Bl:=ş (λa h=>aA9 G h) F
end
noncomputable def Sa:bE->bE->Nat
 |[],_=>0
 |a::as,bs=>match bs with
  |[]=>0
  |b::bs=>if a=b then Sa as bs+1 else 0
def É:Sa [] a=0:=rfl
def È:Sa (a::as) []=0:=rfl
def Hi:Sa (a::as) (b::c)=if a=b then Sa as c+1 else 0:=rfl
def OY:∀(as c:bE)(s:Nat),s<Sa as c↔∀t,t<=s->t<as.length/\t<aC c/\as.getD t 0=c.getD t 0:=by
 intro as
 induction as with
 |nil=>intro c s;rw [É];exact ⟨λh=>absurd h (eL _),λh=>absurd (h 0 (bI _)).1 (eL _)⟩
 |cons a as f=>
  intro c s
  cases c with
  |nil=>rw [È];exact ⟨λh=>absurd h (eL _),λh=>absurd (h 0 (bI _)).2.1 (eL _)⟩
  |cons b c=>
   rw [Hi];split
   .rename_i e
    cases s with
    |zero=>refine ⟨λ_ t d=>?_,λ_=>mV _⟩;obtain rfl:t=0:=KW.mp d;exact ⟨mV _,mV _,e⟩
    |succ s=>
     rw [Nat.add_lt_add_iff_right,f];constructor
     .intro h t d
      cases t with
      |zero=>exact ⟨mV _,mV _,e⟩
      |succ t=>have:=h t (aT 0xc6290812838507002 d);exact ⟨J8 this.1,J8 this.2.1,this.2.2⟩
     .intro h t d;have:=h (t+1) (aT Pw d);exact ⟨A7 this.1,A7 this.2.1,this.2.2⟩
   .rename_i e;exact ⟨λh=>absurd h (eL _),λh=>absurd (h 0 (bI _)).2.2 e⟩
def F4{L:bE}{i t:Nat}:(L.drop i).getD t 0=L.getD (i+t) 0:=by rw [aY,aY,List.getElem?_drop]
section
variable{X Y:bE}
noncomputable abbrev Fa(X Y:bE)(i j:Nat):Nat:=Sa (X.drop i) (Y.drop j)
def wX{i j s:Nat}:s<Fa X Y i j↔∀t,t<=s->i+t<aC X/\j+t<aC Y/\X.getD (i+t) 0=Y.getD (j+t) 0:=by
 unfold Fa;rw [OY];constructor
 .intro h t a;have:=h t a;rw [kE,kE,F4,F4]at this;exact ⟨aT 0xc0c462a0a062632e5394ca20d401ccc1024 this,aT 0xa0a462a0a062632e5394ca00d441ccc1024 this,this.2.2⟩
 .intro h t a;have:=h t a;rw [kE,kE,F4,F4];exact ⟨aT 0x2414462a00d8cb974629d45320645050314cc1025 this,aT 0x2212462a0118cb974629d414104a299041ccc1025 this,this.2.2⟩
def Yy(a:s<=Fa X Y i j):s<Fa X Y i j↔i+s<aC X/\j+s<aC Y/\X.getD (i+s) 0=Y.getD (j+s) 0:=by
 constructor
 .intro h;exact wX.mp h s (bG _)
 .intro h;refine wX.mpr λt b=>?_;rcases kL t s with q|q
  .exact wX.mp (dC q a) t (bG _)
  .obtain rfl:t=s:=gO b q;exact h
noncomputable def zO(X Y:bE)(i j:Nat):jU:=(bX (Fa X Y i j)).map λs=>(i,j,s+1)
noncomputable def vP(X Y:bE)(i:Nat):jU:=(bX (aC Y)).flatMap λj=>zO X Y i j
noncomputable def jI(X Y:bE):jU:=(bX (aC X)).flatMap λi=>vP X Y i
def uM:e∈zO X Y i j↔e.1=i/\e.2.1=j/\0<e.2.2/\e.2.2<=Fa X Y i j:=by
 unfold zO;rw [jJ];constructor
 .rintro ⟨s,a,rfl⟩;exact ⟨rfl,rfl,mV _,hV.mp a⟩
 .rintro ⟨rfl,rfl,h1,h2⟩;exact ⟨e.2.2-1,hV.mpr (aT UW h1 h2),kZ rfl (kZ rfl (by dsimp only;exact aT 0x944a918ac283814134cc7001 h1))⟩
def Er:e∈jI X Y↔0<e.2.2/\WU X Y e.1 e.2.1 e.2.2:=by
 unfold jI vP;simp only [jB,hV,uM];constructor
 .rintro ⟨i,hi,j,d,rfl,rfl,h1,h2⟩;have b:=wX.mp (show e.2.2-1<Fa X Y e.1 e.2.1 by exact aT UW h1 h2);have:=b (e.2.2-1) (bG _);exact ⟨h1,bI _,aT 0x915118a4680898cb974629d453200450d0014cc7025 this,bI _,aT 0x1129231494c80918cb974629d453200450d0014cc7025 this,λt a=>(b t (aT Tp a)).2.2⟩
 .rintro ⟨h0,c⟩;have:=c.a1;have:=c.b1;refine ⟨e.1,aT TP h0 ‹_›,e.2.1,aT TP h0 this,rfl,rfl,h0,?_⟩;have:=wX (s:=e.2.2-1) |>.mpr λt a=>⟨aT Ž h0 ‹_› a,aT Ž h0 this a,c.eq t (aT UZ h0 a)⟩;exact aT 0x8ac6291054204cc7002 this
def Gx(n:Nat):(bX n).Pairwise λa b=>a≠b:=WZ
def Jf:(jI X Y).Pairwise λa b=>a≠b:=by
 refine tT.mpr ⟨λi _=>tT.mpr ⟨λj _=>?_,?_⟩,?_⟩
 .refine tB.mpr (nU (λ{s g} h e=>h ?_) (Gx _));simp only [gX]at e;exact KY e.2.2
 .refine nU (λ{j k} h e c f d q=>h ?_) (Gx _);subst q;exact (uM.mp c).2.1.symm.trans (uM.mp d).2.1
 .refine nU (λ{i l} h e c f d q=>h ?_) (Gx _);subst q;obtain ⟨_,_,c⟩:=jB.mp c;obtain ⟨_,_,d⟩:=jB.mp d;exact (uM.mp c).1.symm.trans (uM.mp d).1
noncomputable instance aB2(e f:T3):Decidable (vE e f):=inferInstanceAs (Decidable (_\/_))
noncomputable def CN(X Y:bE):jU:=(jI X Y).mergeSort λe f=>decide (¬vE f e)
def zN:(CN X Y).Perm (jI X Y):=List.mergeSort_perm _ _
def Hg{a b c:T3}(h:vE a b)(h':vE b c):vE a c:=by
 rcases h with p|⟨p,q⟩<;>rcases h' with r|⟨r,s⟩
 .exact .inl (tJ r p)
 .exact .inl (r▸p)
 .exact .inl (p▸r)
 .refine .inr ⟨p.trans r,?_⟩;rcases q with q|⟨q,d⟩<;>rcases s with s|⟨s,e⟩
  .exact .inl (tJ q s)
  .exact .inl (s▸q)
  .exact .inl (q▸s)
  .exact .inr ⟨q.trans s,tJ d e⟩
def Qb(a b:T3):vE a b\/a=b\/vE b a:=by
 rcases I3 b.2.2 a.2.2 with h|h|h
 .exact .inl (.inl h)
 .rcases I3 a.1 b.1 with q|q|q
  .exact .inl (.inr ⟨h.symm,.inl q⟩)
  .rcases I3 a.2.1 b.2.1 with r|r|r
   .exact .inl (.inr ⟨h.symm,.inr ⟨q,r⟩⟩)
   .exact .inr (.inl (kZ q (kZ r h.symm)))
   .exact .inr (.inr (.inr ⟨h,.inr ⟨q.symm,r⟩⟩))
  .exact .inr (.inr (.inr ⟨h,.inl q⟩))
 .exact .inr (.inr (.inl h))
def O1:(CN X Y).Pairwise vE:=by
 have h1:(CN X Y).Pairwise λe f=>decide (¬vE f e)=true:=List.pairwise_mergeSort (λa b c h1 h2=>by
  have h1:=of_decide_eq_true h1;have h2:=of_decide_eq_true h2;refine decide_eq_true ?_;intro h;rcases Qb b a with q|q|q
  .exact h1 q
  .subst q;exact h2 h
  .exact h2 (Hg h q)) (λa b=>by
  rw [ģ,decide_eq_true_iff,decide_eq_true_iff];by_cases q:vE a b
  .exact .inl λr=>zQ (Hg q r)
  .exact .inr q) _
 have h2:(CN X Y).Pairwise λa b=>a≠b:=zN.symm.pairwise Jf λh e=>h e.symm;refine nU (λ{a b} h=>?_) (List.pairwise_and_iff.mpr ⟨h1,h2⟩);rcases Qb a b with q|q|q
 .exact q
 .exact absurd q h.2
 .exact absurd q (of_decide_eq_true h.1)
noncomputable def KP(X Y:bE):jU:=AH (CN X Y) []
def tW:Lb X Y (λe=>e∈KP X Y):=Ù O1 λe=>zN.mem_iff.trans Er
end
def iR(e:T3):V:=.tup [.int (-(e.2.2:Int)),vN e.1,vN e.2.1]
def nF(l:jU):dH (l.map iR)=true:=by
 induction l with
 |nil=>rfl
 |cons t r a=>rw [cE,eN,a];rfl
def kr(t:T3):K3×V:=((-(t.2.2:Int),(t.1:Int),(t.2.1:Int)),iR t)
def Y0:∀a:jU,Qe FU (a.map iR)=aG (a.map kr):=by
 intro a
 induction a with
 |nil=>rfl
 |cons t r b=>rw [cE,Wj,b];rfl
def X4{a b:jU}(c:a.Perm b)(d:b.Pairwise vE)(g:a.length<64):Ep FU (a.map iR)=aG (b.map iR):=by
 unfold Ep;rw [Y0];have lt:∀{t u:T3},vE t u->Bx (kr t).1 (kr u).1=true:=λ{t u} h=>by rw [xZ];exact aT 0x911218284a28a8a7333618b58d65aa5320f525ea3a8ad51a0f515e95052a1b52a041e950b58d628a622c6250c4b00541006 h
 have f:((a.map kr).map (·.1)).Nodup:=by
  have h1:((b.map kr).map (·.1)).Nodup:=by simp only [qG];refine tB.mpr (d.imp λ{t u} h e=>?_);have:=lt h;rw [show (kr t).1=(kr u).1 from e]at this;rw [xZ]at this;exact aT ζ this
  exact (((c.map kr).map (·.1)).nodup_iff).mpr h1
 show (if _ then _ else _)=_;rw [if_pos ⟨f,by rw [bB];exact g⟩];simp only [Dv (Bz _ f) (tB.mpr (d.imp lt)) ((Cx _).trans (c.map kr)),qG];rfl
def Aa(K:jU):List (Int×V):=K.flatMap λe=>(bX e.2.2).map λt=>(((e.2.1+t:Nat):Int),vN (e.1+t))
def yW(K:jU):V:=.dct ((Aa K).reverse.map (·.1)) ((Aa K).reverse.map (·.2))
def Ps:∀{l:List (Int×V)},(∀p∈l,p.1=k->p.2=v)->(∃p∈l,p.1=k)->l.lookup k=aG v:=by
 intro l
 induction l with
 |nil=>rintro _ ⟨p,b,_⟩;cases b
 |cons a r c=>
  obtain ⟨x,y⟩:=a;intro h d;simp only [gP];by_cases q:k=x
  .subst q;rw [beq_self_eq_true];exact congrArg aG (h (k,y) aQ rfl)
  .refine (beq_eq_false_iff_ne.mpr q)▸?_;refine c (λp b=>h p (aO _ b)) ?_;refine nn λf=>?_;obtain ⟨p,b,e⟩:=d;refine f ?_;rcases aR.mp b with z|z
   .subst z;exact absurd e.symm q
   .exact ⟨p,z,e⟩
def Pt:∀{l:List (Int×V)},(∀p∈l,p.1≠k)->l.lookup k=aH:=by
 intro l
 induction l with
 |nil=>intro _;rfl
 |cons a r b=>obtain ⟨x,y⟩:=a;intro h;simp only [gP,beq_eq_false_iff_ne.mpr (λq=>h (x,y) aQ q.symm)];exact b λp c=>h p (aO _ c)
def C4{K:jU}{p:Int×V}:p∈Aa K↔∃j i,Mp (·∈K) j i/\p=((j:Int),vN i):=by
 unfold Aa;simp only [jB,jJ,hV];constructor
 .rintro ⟨e,a,t,b,rfl⟩;exact ⟨e.2.1+t,e.1+t,⟨e,a,aT Jm,aT 0xc62a4044800941003 b,aT 0x18c5684044040901003⟩,rfl⟩
 .rintro ⟨j,i,⟨e,a,h1,h2,h3⟩,rfl⟩;exact ⟨e,a,j-e.2.1,aT ZY h1 h2,by rw [show e.2.1+(j-e.2.1)=j by exact aT TO h1,show e.1+(j-e.2.1)=i by exact aT Δ h1 h3]⟩
def Iu{X Y:bE}{K:jU}(g:Lb X Y (·∈K))(j:Nat):(((Aa K).reverse.map (·.1)).zip ((Aa K).reverse.map (·.2))).lookup (j:Int)=(fm (·∈K) j).map vN:=by
 rw [AX]
 cases h:fm (·∈K) j with
 |some i=>have m:=g.fm_some.mp h;refine Ps (λp a e=>?_) ⟨((j:Int),vN i),zG.mpr (C4.mpr ⟨j,i,m,rfl⟩),rfl⟩;obtain ⟨b,d,c,rfl⟩:=C4.mp (zG.mp a);obtain rfl:b=j:=LP e;exact (g.mp_uniq c m)▸rfl
 |none=>refine Pt λp a e=>?_;obtain ⟨b,d,c,rfl⟩:=C4.mp (zG.mp a);refine nn λf=>?_;obtain rfl:b=j:=LP e;refine f ?_;replace h:=(g.fm_some.mpr c)▸h;cases h
def Zk(K:jU):dH ((Aa K).reverse.map (·.2))=true:=by
 have:∀l:List (Int×V),(∀p∈l,p.2.pure=aU)->dH (l.map (·.2))=true:=by
  intro l
  induction l with
  |nil=>intro _;rfl
  |cons a r c=>intro h;simp only [cE,eN,h a aQ,c λp b=>h p (aO _ b)];rfl
 refine this _ λp b=>?_;obtain ⟨_,_,_,rfl⟩:=C4.mp (zG.mp b);rfl
def Aj(K:jU):(yW K).pure=true:=Zk K
def U9:Jr (vN a) (vN b) σ=aG (.bool (decide (a<b)),σ):=by
 refine (?_:aG (V.bool (decide ((a:Int)<(b:Int))),σ)=_)
 congr 3
 exact decide_eq_decide.mpr jP
def xS(h:aC l<=lim):oG [.lst l] σ=aG (vN (aC l),σ):=if_pos h
def BQ(a:lk σ.cells n=aG (.list l))(h:aC l<=lim):oG [.ref n] σ=aG (vN (aC l),σ):=
 nX (nX a rfl) (if_pos h)
def Fn{n p:Nat}(h:(Et 0 (n:Int))[p]?=aG v):p<n/\v=vN p:=by
 unfold Et at h;replace h:=(dL)▸h
 cases q:(bX ((n:Int)-0).toNat)[p]? with
 |none=>replace h:=q▸h;cases h
 |some x=>replace h:=q▸h;cases h;obtain ⟨a,e⟩:=cF.mp q;rw [wH]at e;simp only [gV]at a;subst e;exact ⟨aT 0x81c62a0894014f6633cd5002 a,by refine (?_:V.int (0+(p:Int))=V.int (p:Int));rw [aEe]⟩
def Ly{n:Nat}:Et 0 (n:Int)=(bX n).map vN:=by unfold Et;exact vO λi _=>by refine (?_:V.int (0+(i:Int))=V.int (i:Int));rw [aEe]
def DA{n:Nat}:(Et 0 (n:Int)).length=n:=by rw [Ly,bB,gV]
def YR{n:Nat}(h:n<=1000000):yO 0 (n:Int)=true:=by unfold yO;simp only [dT,decide_eq_true_iff];exact ⟨⟨⟨by decide,by decide⟩,AC (by decide) (iY n)⟩,Int.lt_of_le_of_lt (qO.mpr h) (by decide)⟩
def Ka{n:Nat}(e:g σ=aG ([vN n],σ))(h:n<=1000000):gH g σ=aG (Et 0 (n:Int),σ):=BO e (YR h)
def Nr{g:Type}{gt:V->St->Option St}{c:g->V}{f:g->cA}{I:gZ}:∀{l:List g}{τ:St},(∀d∈l,∀τ,I τ->∃b a,gt (c d) τ=aG b/\gb b=aG (f d,a)/\I a)->I τ->∃τ',yJ gt gb (l.map c) τ=aG (l.flatMap f,τ')/\I τ':=by
 intro l
 induction l with
 |nil=>intro τ _ h;exact ⟨τ,rfl,h⟩
 |cons d r m=>intro τ k h;refine nn λn=>?_;obtain ⟨b,a,o,p,h2⟩:=k d aQ τ h;obtain ⟨τ',e,h'⟩:=m (τ:=a) (λd hd=>k d (aO _ hd)) h2;refine n ?_;refine ⟨τ',?_,h'⟩;simp only [cE,Xh,o];refine (?_:bd (gb b) _=_);rw [p];refine (?_:bd (yJ gt gb (r.map c) a) _=_);rw [e];rfl
def Ds(h:lk σ.loc i=aG (.int k)):uX σ i τ=aG (.int k,τ):=by unfold uX;rw [h];rfl
def Va:LD (.int a) (.int b) σ=aG (.bool (decide (a<=b)),σ):=rfl
def Dp:oE (.int a) (.int b) σ=aG (.int (a-b),σ):=rfl
def DM{K:jU}{p:T3->Bool}:(K.flatMap λe=>if p e=aU then[V.int 1]else[]).length=(K.filter p).length/\(uS (K.flatMap λe=>if p e=aU then[V.int 1]else[])).isSome=true:=by
 induction K with
 |nil=>exact ⟨rfl,rfl⟩
 |cons e r a=>
  refine fE▸?_;by_cases h:p e=aU
  .rw [if_pos h,U0 h];refine ⟨by simp only [bD,a.1,eM];exact aT 0x18c56838100381,?_⟩;refine (?_:(ob (uS (r.flatMap _)) _).isSome=aU);obtain ⟨x,b⟩:=eF.mp a.2;refine b▸?_;rfl
  .rw [if_neg h,U1 h];exact a
def CC{σ:St}{n:Nat}{K:jU}{gc:M Bool}{p:T3->Bool}(h6:lk σ.loc 6=aG (.ref n))(b:lk σ.cells n=aG (.list (K.map iR)))(d:aC K<=1000)
  (h:∀e∈K,∀z,lk z 100=aG (.int (-(e.2.2:Int)))->lk z 101=aG (vN e.1)->lk z 102=aG (vN e.2.1)->gc ⟨z,[],0⟩=aG (p e,⟨z,[],0⟩)):
  ∃l,D9 6 (Ol [cG 100,cG 101,cG 102]) (λ_=>yQ gc (kD (gK (.int 1)))) σ=aG (.lst l,σ)/\aC l=(K.filter p).length/\dH l=true:=by
 have f:lim=1048576:=rfl;obtain ⟨τ',e,_⟩:=Nr (gt:=Ol [cG 100,cG 101,cG 102]) (gb:=yQ gc (kD (gK (.int 1)))) (c:=iR) (I:=λτ=>∃z,τ=⟨z,[],0⟩) (τ:=s0) (λe g τ k=>by obtain ⟨z,rfl⟩:=k;exact ⟨_,_,rfl,BU (h e g (put 102 (vN e.2.1) (put 101 (vN e.1) (put 100 (.int (-(e.2.2:Int))) z))) (oM (oM oW)) (oM oW) oW) (λ_=>rfl),_,rfl⟩) ⟨[],rfl⟩;obtain ⟨o1,o2⟩:=DM;refine ⟨_,?_,o1,?_⟩
 .unfold D9;rw [h6];refine (?_:aL σ n _=_);rw [KB b];show (if dH (K.map iR)=aU then bd (yJ _ _ (K.map iR) s0) _ else aH)=_;rw [if_pos (nF K),e];show (if _/\_ then _ else _)=_;rw [if_pos ⟨by rw [o1];have:=tU p K;exact aT 0x6c6290892012f18c6318e1829c77e7003 d f this,o2⟩]
 .have:∀l:jU,dH (l.flatMap λe=>if p e=aU then[V.int 1]else[])=true:=by
   intro l
   induction l with
   |nil=>rfl
   |cons e r a=>
    rw [fE];split
    .exact a
    .exact a
  exact this K
def Lq(k:Nat)(loc:tH):Prop:=∀p∈loc,p.1<100/\(p.2.pure=aU\/∃n,n<k/\p.2=.ref n)
def Lq.lo(h:Lq k loc):Lo k loc:=λp a=>⟨(h p a).1,by
 rcases (h p a).2 with q|⟨n,b,c⟩
 .exact mO q
 .rw [c];exact decide_eq_true b⟩
def Lq.up(h:Lq k loc)(b:k<=c):Lq c loc:=λp a=>⟨(h p a).1,(h p a).2.imp id λ⟨n,d,e⟩=>⟨n,dC d b,e⟩⟩
def EJ(h:Lq k loc)(a:x<100)(b:v.pure=aU):Lq k (put x v loc):=λp c=>by
 rcases Ml c with q|q
 .rw [q];exact ⟨a,.inl b⟩
 .exact h p q
def R8{k x:Nat}{v:V}{loc:tH}(h:Lq k loc)(a:v.pure=true:=by rfl)(b:x<100:=by decide):Lq k (put x v loc):=EJ h b a
def NZ(h:Lq k loc)(a:x<100)(b:n<k):Lq k (put x (.ref n) loc):=λp c=>by
 rcases Ml c with q|q
 .rw [q];exact ⟨a,.inr ⟨n,b,rfl⟩⟩
 .exact h p q
def nK(h:Lq k loc):Lq k (jL loc xs):=λp a=>h p (Ms (Pm a))
def QR(h0:dH l0=aU)(h1:dH l1=aU)(h:Lq 2 loc):∃loc',WE 0 ⟨loc,[(1,.list l1),(0,.list l0)],n⟩=aG ⟨loc',[],0⟩/\(lk loc 6=aG (.ref 1)->lk loc' 6=aG (.lst l1)):=by
 let cs:List (Nat×fQ):=[(1,.list l1),(0,.list l0)];have c:∀l:tH,Lq 2 l->∃l',Jj (rZ uY 0 cs) l=aG l'/\(lk l 6=aG (.ref 1)->lk l' 6=aG (.lst l1)):=by
  intro l
  induction l with
  |nil=>intro _;exact ⟨[],rfl,λh=>nomatch h⟩
  |cons p r d=>
   intro h;obtain ⟨x,v⟩:=p;obtain ⟨s,e,f⟩:=d λq g=>h q (aO _ g);have a:∃b,rZ uY 0 cs v=aG b/\(v=.ref 1->b=.lst l1):=by
    rcases (h _ aQ).2 with q|⟨n,k,q⟩
    .exact ⟨v,dP q,λe=>by dsimp only at q;rw [e]at q;cases q⟩
    .dsimp only at q;subst q;rcases kL n 1 with z|z
     .obtain rfl:n=0:=aT 0x3462b30147001 z;exact ⟨.lst l0,wQ (eL _) rfl h0,λe=>by cases e⟩
     .obtain rfl:n=1:=aT 0xac62b381203ab46001 k z;exact ⟨.lst l1,wQ (eL _) rfl h1,λ_=>rfl⟩
   obtain ⟨b,m,a⟩:=a;refine ⟨_,cL m e,λq=>?_⟩;rw [eP]at q⊢;split
   .rename_i z;rw [if_pos z]at q;cases q;rw [a rfl]
   .rename_i z;rw [if_neg z]at q;exact f q
 obtain ⟨l',e,o⟩:=c loc h;exact ⟨l',Ni e (pU (eL _) (pU (eL _) kW)),o⟩
section
variable{X Y:bE}{R:jU}{i j:Nat}
inductive JW(X Y:bE)(R:jU)(i j m:Nat)(τ:St):Prop
 |mk (loc:tH) (s:Nat) (e:τ=⟨loc,[(0,.list ((R++(bX s).map λt=>((i,j,t+1):T3)).map iR))],1⟩) (q:Lq 1 loc) (h0:lk loc 0=aG (vL X)) (h1:lk loc 1=aG (vL Y)) (h2:lk loc 2=aG (.ref 0)) (h3:lk loc 3=aG (vN i)) (h4:lk loc 4=aG (vN j)) (h5:lk loc 5=aG (vN s)) (hs:s+m=Fa X Y i j)
def Ke{l:jU}:oH 1 (rZ uY 1 [(0,.list (l.map iR))]) [(0,.list (l.map iR))]=aG [(0,.list (l.map iR))]:=gL (by decide) (gE (jD (nF l))) kW
def Y1(e:aC X<=200)(f:aC Y<=200)(hi:i<=200)(m:j<=200)(h0:lk loc 0=aG (vL X))(h1:lk loc 1=aG (vL Y))(h3:lk loc 3=aG (vN i))(h4:lk loc 4=aG (vN j))(h5:lk loc 5=aG (vN s)):
  kJ (gM (bJ Jr (bJ fF (aP 3) (aP 5)) (eV oG (aS (aP 0) bP)))) (kJ (gM (bJ Jr (bJ fF (aP 4) (aP 5)) (eV oG (aS (aP 1) bP)))) (kJ (gM (bJ D8 (bJ fT (aP 0) (bJ fF (aP 3) (aP 5))) (bJ fT (aP 1) (bJ fF (aP 4) (aP 5))))) (λσ=>aG (aU,σ)))) ⟨loc,cs,n⟩=
   aG (decide (i+s<aC X)&& (decide (j+s<aC Y)&& (decide (X.getD (i+s) 0=Y.getD (j+s) 0)&&aU)),⟨loc,cs,n⟩):=by
 have b:lim=1048576:=rfl;have c:(X.map V.int).length<=lim:=by rw [bB];exact aT À e b
 have d:(Y.map V.int).length<=lim:=by rw [bB];exact aT À f b
 have ln:∀{x:Nat}{Z:bE},lk loc x=aG (vL Z)->(Z.map V.int).length<=lim->eV oG (aS (aP x) bP) ⟨loc,cs,n⟩=aG (vN (aC Z),⟨loc,cs,n⟩):=λh g=>(iK (bH (bS h) cW) (xS g)).trans (by rw [bB]);have ad:∀{x a:Nat},lk loc x=aG (vN a)->bJ fF (aP x) (aP 5) ⟨loc,cs,n⟩=aG (vN (a+s),⟨loc,cs,n⟩):=λh=>cQ (bS h) (bS h5) tM;refine Gk (lP (cQ (ad h3) (ln h0 c) U9)) λk=>Gk (lP (cQ (ad h4) (ln h1 d) U9)) λl=>Gk (lP (cQ (cQ (bS h0) (ad h3) (nE (Ft 0 (of_decide_eq_true k)) c)) (cQ (bS h1) (ad h4) (nE (Ft 0 (of_decide_eq_true l)) d)) (BX _ _))) λ_=>rfl
def PI{Q:gZ}{Rt:V->gZ}(g:aC X<=200)(l:aC Y<=200)(hi:i<aC X)(p:j<aC Y)(y:aC R<=500000)(q:Lq 1 loc)(h0:lk loc 0=aG (vL X))(h1:lk loc 1=aG (vL Y))(h2:lk loc 2=aG (.ref 0))(h3:lk loc 3=aG (vN i))(h4:lk loc 4=aG (vN j))
  (A:∀loc',Lq 1 loc'->lk loc' 0=aG (vL X)->lk loc' 1=aG (vL Y)->lk loc' 2=aG (.ref 0)->lk loc' 3=aG (vN i)->Q ⟨loc',[(0,.list ((R++zO X Y i j).map iR))],1⟩):
  Go (wE 1 ⟨loc,[(0,.list (R.map iR))],1⟩) (xI [0,1,2,3,4,7] 1 Q (λ_=>False) Rt):=by
 have n:Fa X Y i j<=200:=by refine fD λh=>?_;have:=(wX.mp h 200 (bG _)).1;exact aT 0x18c64a02319d9829c6766002 g this
 unfold wE;refine cP (eS (τ':=⟨put 5 (vN 0) loc,[(0,.list (R.map iR))],1⟩) rfl rfl ?_);refine gF (σ':=⟨jL (put 5 (vN 0) loc) [0,1,2,3,4,5,7],[(0,.list (R.map iR))],1⟩) rfl ?_;refine Ht (JW X Y R i j) (Fa X Y i j) (eK n (by decide)) (by show (1:Nat)<=1;decide) ⟨_,0,by rw [Ě,A3,dI],nK (R8 q),nZ (oM h0),nZ (oM h1),nZ (oM h2),nZ (oM h3),nZ (oM h4),nZ oW,by rw [dY]⟩ λm τ B=>?_;obtain ⟨loc,s,rfl,q,h0,h1,h2,h3,h4,h5,d⟩:=B;refine jV (Y1 g l (by exact aT UV g hi) (by exact aT UV l p) h0 h1 h3 h4 h5) ?_;have step:=Yy (X:=X) (Y:=Y) (i:=i) (j:=j) (s:=s) (by exact aT FF d);by_cases f:s<Fa X Y i j
 .obtain ⟨a,b,c⟩:=step.mp f;rw [decide_eq_true a,decide_eq_true b,decide_eq_true c,if_pos (show (aU&& (aU&& (aU&&aU)))=aU from rfl)];unfold Bh;let k:=put 5 (vN (s+1)) loc;refine cP (GY (old:=vN s) (v:=vN 1) (r:=vN (s+1)) h5 rfl Vb ?_);show Go (xP _ 1 ⟨k,_,1⟩) _;refine rH (xR (u:=.ref 0) (us:=[iR (i,j,s+1)]) (bS (oM h2)) rfl (bH (nV (bH (v:=.int (-((s+1:Nat):Int))) (by unfold yE;rw [bS (v:=vN (s+1)) oW];rfl) (bH (bS (Mr (x:=5) (by decide) h3)) (bH (bS (Mr (x:=5) (by decide) h4)) cW))) Fu) cW) (lQ rfl (by simp only [bB,bD,gV];exact aT 0x358c52140c0b120834e33b30978c6318c70c14e39cc6be7005 y (rfl:lim=1048576) n d))) ?_;have o:Lq 1 k:=R8 q;have e:(R++(bX s).map λt=>((i,j,t+1):T3)).map iR++[iR (i,j,s+1)]=(R++(bX (s+1)).map λt=>((i,j,t+1):T3)).map iR:=by simp only [rP,dK,dK,dK,dM];rfl
  refine ⟨⟨jL k [0,1,2,3,4,5,7],[(0,.list ((R++(bX (s+1)).map λt=>((i,j,t+1):T3)).map iR))],1⟩,m-1,?_,by exact aT 0x12888c5410286258d0114cc7003 d f,_,s+1,rfl,nK o,nZ (oM h0),nZ (oM h1),nZ (oM h2),nZ (oM h3),nZ (oM h4),nZ oW,by exact aT 0x13d25548c563401071286258d0114cc7003 d f⟩;rw [<-e];exact zX rfl (Mq o.lo).s (gL (by refine (?_:(0:Nat)<1);decide) (gE (c:=.list _) (jD (by refine e▸?_;exact nF _))) kW)
 .have C:(decide (i+s<aC X)&& (decide (j+s<aC Y)&& (decide (X.getD (i+s) 0=Y.getD (j+s) 0)&&aU)))=false:=by rw [Bool.eq_false_iff];intro z;simp only [dT,decide_eq_true_iff,and_true]at z;exact f (step.mpr z)
  refine C▸?_;have es:s=Fa X Y i j:=by exact aT 0xa6315880e9284058901003 d f
  subst es;refine Bj q.lo Ke (A _ (nK q) (nZ h0) (nZ h1) (nZ h2) (nZ h3))
end
def W5{a:Type}{f:Nat->List a}:∀(n p:Nat),p<=n->((bX p).flatMap f).length<=((bX n).flatMap f).length:=by
 intro n
 induction n with
 |zero=>intro p h;obtain rfl:p=0:=KW.mp h;exact bG _
 |succ n b=>
  intro p h;rcases kL p (n+1)with q|q
  .rw [rP,Dl,bD];exact bV (b p (aT OF q)) (lM _ _)
  .obtain rfl:p=n+1:=aT 0x158c56838409020e14a0e1002 h q;exact bG _
def Ea{a:Type}{f:Nat->List a}:(bX (p+1)).flatMap f=(bX p).flatMap f++f p:=by rw [rP,Dl];simp
section
variable{X Y:bE}
inductive JK(X Y:bE)(i:Nat)(R:jU)(p:Nat)(τ:St):Prop
 |mk (loc:tH) (e:τ=⟨loc,[(0,.list ((R++(bX p).flatMap λj=>zO X Y i j).map iR))],1⟩) (q:Lq 1 loc) (h0:lk loc 0=aG (vL X)) (h1:lk loc 1=aG (vL Y)) (h2:lk loc 2=aG (.ref 0)) (h3:lk loc 3=aG (vN i))
def PJ{Q:gZ}{Rt:V->gZ}(d:aC X<=200)(a:aC Y<=200)(hi:i<aC X)(b:(R++vP X Y i).length<=500000)(q:Lq 1 loc)(h0:lk loc 0=aG (vL X))(h1:lk loc 1=aG (vL Y))(h2:lk loc 2=aG (.ref 0))(h3:lk loc 3=aG (vN i))
  (e:∀loc',Lq 1 loc'->lk loc' 0=aG (vL X)->lk loc' 1=aG (vL Y)->lk loc' 2=aG (.ref 0)->Q ⟨loc',[(0,.list ((R++vP X Y i).map iR))],1⟩):
  Go (wF 1 ⟨loc,[(0,.list (R.map iR))],1⟩) (xI [0,1,2,3,4,7] 1 Q (λ_=>False) Rt):=by
 have g:lim=1048576:=rfl;unfold wF;refine gF (σ':=⟨jL loc [0,1,2,3,4,7],[(0,.list (R.map iR))],1⟩) rfl ?_;have k1:lk (jL loc [0,1,2,3,4,7]) 1=aG (vL Y):=nZ h1;refine pL (λ_=>False) (JK X Y i R) (τ:=⟨jL loc [0,1,2,3,4,7],[(0,.list (R.map iR))],1⟩) (Ka ((bH ((iK (bH (bS k1) cW) (xS (by rw [bB];exact aT À a g))).trans (by rw [bB])) cW)) (by exact aT OQ a)) (by show (1:Nat)<=1;decide) ⟨_,by rw [Ě,qH,dI],nK q,nZ h0,k1,nZ h2,nZ h3⟩ (λp s v h k=>?_) (λτ' hd=>?_)
 .obtain ⟨c,rfl⟩:=Fn h;obtain ⟨loc,rfl,q,h0,h1,h2,h3⟩:=k;have l:Lq 1 (put 4 (vN p) loc):=R8 q;refine ⟨⟨put 4 (vN p) loc,_,1⟩,rfl,PI (j:=p) (R:=R++(bX p).flatMap λj=>zO X Y i j) d a hi c ?_ l (oM h0) (oM h1) (oM h2) (oM h3) oW λloc' a1 m n o r=>⟨loc',?_,a1,m,n,o,r⟩⟩
  .have:=W5 (f:=λj=>zO X Y i j) (aC Y) p (iG c);rw [bD]at b⊢;unfold vP at b;exact aT 0xe314e39cc6be74080908938e731af9d01003 b this
  .rw [Ea,dM]
 .obtain ⟨loc,rfl,q,h0,h1,h2,h3⟩:=hd.resolve_right id;rw [DA];exact Bj q.lo Ke (e _ (nK q) (nZ h0) (nZ h1) (nZ h2))
inductive JI4(X Y:bE)(p:Nat)(τ:St):Prop
 |mk (loc:tH) (e:τ=⟨loc,[(0,.list (((bX p).flatMap λi=>vP X Y i).map iR))],1⟩) (q:Lq 1 loc) (h0:lk loc 0=aG (vL X)) (h1:lk loc 1=aG (vL Y)) (h2:lk loc 2=aG (.ref 0))
inductive JG(X Y:bE)(p:Nat)(τ:St):Prop
 |mk (loc:tH) (K:jU) (e:τ=⟨loc,[(1,.list (K.map iR)),(0,.list ((jI X Y).map iR))],2⟩) (q:Lq 2 loc) (h6:lk loc 6=aG (.ref 1)) (g:AH ((CN X Y).drop p) K=KP X Y) (l:aC K<=p) (b:∀e∈K,e.2.2<=aC X)
def PH{loc:tH}{K:jU}{r:T3}{rs:jU}{Rt:V->gZ}{p:Nat}(f:aC K<=1000)(q:Lq 2 loc)(h6:lk loc 6=aG (.ref 1))(h7:lk loc 7=aG (.int (-(r.2.2:Int))))(h3:lk loc 3=aG (vN r.1))(h4:lk loc 4=aG (vN r.2.1))
  (o:∀loc' K',Lq 2 loc'->lk loc' 6=aG (.ref 1)->(K'=K\/K'=K++[r])->AH rs K'=AH (r::rs) K->JG X Y (p+1) ⟨loc',[(1,.list (K'.map iR)),(0,.list ((jI X Y).map iR))],2⟩):
  Go (wD 2 ⟨loc,[(1,.list (K.map iR)),(0,.list ((jI X Y).map iR))],2⟩) (xI [3,4,6,7] 2 (JG X Y (p+1)) (λ_=>False) Rt):=by
 have j:lim=1048576:=rfl;let cs:List (Nat×fQ):=[(1,.list (K.map iR)),(0,.list ((jI X Y).map iR))];obtain ⟨l1,A,s,B⟩:=CC (σ:=⟨loc,cs,2⟩) (gc:=kJ (gM (bJ LD (bJ oE (uX ⟨loc,cs,2⟩ 3) (uX ⟨loc,cs,2⟩ 7)) (aP 101))) (kJ (gM (bJ LD (bJ oE (uX ⟨loc,cs,2⟩ 4) (uX ⟨loc,cs,2⟩ 7)) (aP 102))) (λσ=>aG (aU,σ)))) (p:=λe=>decide (Ej r e)) h6 rfl f λe C z z0 z1 z2=>by
  refine (Gk (lP (cQ (cQ (Ds h3) (Ds h7) Dp) (bS z1) Va)) λ_=>Gk (lP (cQ (cQ (Ds h4) (Ds h7) Dp) (bS z2) Va)) λ_=>rfl).trans ?_
  congr 2
  rw [Lj,decide_eq_true_iff];simp only [dT,decide_eq_true_iff,and_true];unfold Ej;rw [Lh,Lh,<-Br,<-Br,qO,qO]
 let g:=put 8 (.lst l1) loc;obtain ⟨l2,D,t,F⟩:=CC (σ:=⟨g,cs,2⟩) (K:=K) (gc:=kJ (gM (bJ LD (bJ oE (aP 101) (aP 100)) (uX ⟨g,cs,2⟩ 3))) (kJ (gM (bJ LD (bJ oE (aP 102) (aP 100)) (uX ⟨g,cs,2⟩ 4))) (λσ=>aG (aU,σ)))) (p:=λe=>decide (Ej e r)) (oM h6) rfl f λe C z z0 z1 z2=>by
  refine (Gk (lP (cQ (cQ (bS z1) (bS z0) Dp) (Ds (oM h3)) Va)) λ_=>Gk (lP (cQ (cQ (bS z2) (bS z0) Dp) (Ds (oM h4)) Va)) λ_=>rfl).trans ?_
  congr 2
  rw [Lj,decide_eq_true_iff];simp only [dT,decide_eq_true_iff,and_true];unfold Ej;rw [Lh,Lh,<-Br,<-Br,qO,qO]
 let k:=put 9 (.lst l2) g;have d:∀{x:Nat}{v:V},x≠9->x≠8->lk loc x=aG v->lk k x=aG v:=λa b h=>Mr a (Mr b h);have m:Lq 2 k:=R8 (R8 q B) F;have VY:aC l1<=lim:=by have:=tU (λe=>decide (Ej r e)) K;exact aT Ω f j s this
 have VX:aC l2<=lim:=by have:=tU (λe=>decide (Ej e r)) K;exact aT Ω f j t this
 have stay:∀l:jU,oH 2 (rZ uY 2 [(1,.list (l.map iR)),(0,.list ((jI X Y).map iR))]) [(1,.list (l.map iR)),(0,.list ((jI X Y).map iR))]=aG [(1,.list (l.map iR)),(0,.list ((jI X Y).map iR))]:=λl=>
  gL (by show (1:Nat)<2;decide) (gE (c:=.list _) (jD (nF l))) (gL (by show (0:Nat)<2;decide) (gE (c:=.list _) (jD (nF _))) kW)
 unfold wD;refine cP (eS (v:=.lst l1) (τ:=⟨loc,cs,2⟩) (τ':=⟨g,cs,2⟩) A rfl (cP (eS (v:=.lst l2) (τ:=⟨g,cs,2⟩) (τ':=⟨k,cs,2⟩) D rfl ?_)));refine rG (jV (lP (cQ (cQ (iK (bH (bS (oM oW)) cW) (xS VY)) (iK (bH (bS oW) cW) (xS VX)) tM) (iK (bH (bS (d (by decide) (by decide) h6)) cW) (BQ rfl (by rw [bB];exact aT ĩ f j))) (BX _ _))) ?_);have i:AH (r::rs) K=AH rs (if (K.filter λe=>decide (Ej r e)).length+(K.filter λe=>decide (Ej e r)).length=aC K then K++[r]else K):=GX;rw [<-s,<-t]at i;have y:(((aC l1+aC l2:Nat):Int)=(((K.map iR).length:Nat):Int))↔aC l1+aC l2=aC K:=by rw [bB];exact E7
 by_cases n:aC l1+aC l2=aC K
 .rw [lK (y.mpr n)];rw [if_pos n]at i;refine rH (xR (u:=.ref 1) (us:=[iR r]) (l:=K.map iR) (bS (d (by decide) (by decide) h6)) rfl (bH (nV (bH (bS (d (by decide) (by decide) h7)) (bH (bS (d (by decide) (by decide) h3)) (bH (bS (d (by decide) (by decide) h4)) cW))) Fu) cW) (lQ rfl (by rw [bB];exact aT ĩ f j))) ?_;have e:K.map iR++[iR r]=(K++[r]).map iR:=by rw [dK];rfl
  show I0 _ _ _ ⟨k,[(1,.list (K.map iR++[iR r])),(0,.list ((jI X Y).map iR))],2⟩;rw [e];exact Bj m.lo (stay _) (o _ _ (nK m) (nZ (d (by decide) (by decide) h6)) (.inr rfl) i.symm)
 .rw [iO (λz=>n (y.mp z))];rw [if_neg n]at i;exact kI (Bj m.lo (stay _) (o _ _ (nK m) (nZ (d (by decide) (by decide) h6)) (.inl rfl) i.symm))
noncomputable def E1(l:List (Int×V)):cA:=l.flatMap λp=>[.int p.1,p.2]
def Zn:∀(l:List (Int×V))(ks:bE)(vs:cA),IS (E1 l) ks vs=aG (.dct ((l.map (·.1)).reverse++ks) ((l.map (·.2)).reverse++vs)):=by
 intro l
 induction l with
 |nil=>intro ks vs;rfl
 |cons p r a=>intro ks vs;show IS (E1 r) (p.1::ks) (p.2::vs)=_;rw [a];simp
def Zl(K:jU):(K.flatMap λe=>(bX e.2.2).flatMap λt=>[V.int ((e.2.1+t:Nat):Int),vN (e.1+t)])=E1 (Aa K):=by
 unfold E1 Aa;rw [List.flatMap_assoc]
 congr 1
 funext e;rw [XA]
def Zj:∀l:List (Int×V),(E1 l).length=2*aC l:=by
 intro l
 induction l with
 |nil=>rfl
 |cons p r a=>show (E1 r).length+1+1=_;rw [a,eM];exact aT 0x18c57041c1a320e83c01a301
def IL:∀K:jU,(∀e∈K,e.2.2<=N)->(Aa K).length<=N*aC K:=by
 intro K
 induction K with
 |nil=>intro _;exact bI _
 |cons e r a=>intro h;have h1:=a λe b=>h e (aO _ b);have h2:=h e aQ;show ((bX e.2.2).map _++Aa r).length<=_;rw [bD,bB,gV,eM,aEn,yU,oR];exact iN h1 h2
def RK{loc:tH}{K:jU}(h6:lk loc 6=aG (.lst (K.map iR)))(i:aC K<=1000)(g:∀e∈K,e.2.2<=200):
  ∃τ,Ig ŭ 100 (lG (aP 6)) (Ol [cG 100,cG 101,cG 102]) (Kz (gH (aS (yE (aP 100)) bP)) (cG 103) (B0 (bJ fF (aP 102) (aP 103)) (bJ fF (aP 101) (aP 103)))) ⟨loc,[],0⟩=aG (yW K,τ):=by
 obtain ⟨τ',e,_⟩:=Nr (gt:=Ol [cG 100,cG 101,cG 102]) (gb:=Kz (gH (aS (yE (aP 100)) bP)) (cG 103) (B0 (bJ fF (aP 102) (aP 103)) (bJ fF (aP 101) (aP 103)))) (c:=iR) (I:=λτ=>∃z,τ=⟨z,[],0⟩) (l:=K) (τ:=⟨loc,[],0⟩) (λe j τ d=>by
  obtain ⟨z,rfl⟩:=d;let z1:=put 102 (vN e.2.1) (put 101 (vN e.1) (put 100 (.int (-(e.2.2:Int))) z));obtain ⟨τ',k,h,rfl,_⟩:=Nr (gt:=cG 103) (gb:=B0 (bJ fF (aP 102) (aP 103)) (bJ fF (aP 101) (aP 103))) (c:=vN) (f:=λt=>[V.int ((e.2.1+t:Nat):Int),vN (e.1+t)]) (I:=λτ=>∃z,τ=⟨z,[],0⟩/\lk z 101=aG (vN e.1)/\lk z 102=aG (vN e.2.1)) (l:=bX e.2.2) (τ:=⟨z1,[],0⟩) (λt n τ d=>by obtain ⟨z,rfl,a,b⟩:=d;refine ⟨⟨put 103 (vN t) z,[],0⟩,⟨put 103 (vN t) z,[],0⟩,rfl,?_,_,rfl,oM a,oM b⟩;unfold B0;rw [cQ (bS (oM b)) (bS oW) tM];refine (?_:bd (bJ fF (aP 101) (aP 103) ⟨put 103 (vN t) z,[],0⟩) _=_);rw [cQ (bS (oM a)) (bS oW) tM];rfl) ⟨_,rfl,oM oW,oW⟩;refine ⟨⟨z1,[],0⟩,⟨h,[],0⟩,rfl,?_,h,rfl⟩;unfold Kz;have m:yE (aP 100) ⟨z1,[],0⟩=aG (vN e.2.2,⟨z1,[],0⟩):=by unfold yE;rw [bS (v:=.int (-(e.2.2:Int))) (oM (oM oW))];refine (?_:aG (V.int (-(-(e.2.2:Int))),_)=_);rw [Int.neg_neg];rfl
  rw [Ka (bH m cW) (by have:=g e j;exact aT OQ this),Ly];exact k) ⟨loc,rfl⟩
 rw [Zl]at e;refine ⟨Ec 100 τ',?_⟩;unfold Ig;rw [qC (bS h6) (nF K)];refine (?_:bd (yJ _ _ (K.map iR) ⟨loc,[],0⟩) _=_);rw [e];refine (?_:(if (E1 (Aa K)).length<=lim then ob (ŭ (E1 (Aa K))) _ else aH)=_);rw [if_pos (by rw [Zj];have:=IL K g;exact aT 0x6400200010066290c05a32600c676612f18c6318e1829c77e7003 i (rfl:lim=1048576) this)];unfold ŭ;simp only [Zn,dI];unfold yW;simp only [List.map_reverse];rfl
end
structure Oa(X Y:bE):Prop where
 x:aC X<=200
 y:aC Y<=200
 s:(jI X Y).length<64
section
variable{X Y:bE}
def Î(ok:Oa X Y):(CN X Y).length<64:=by rw [zN.length_eq];exact ok.s
def YG(h:e∈CN X Y):e.2.2<=aC X:=by have:=(Er.mp (zN.mem_iff.mp h)).2.a1;exact aT EP this
def PG(ok:Oa X Y)(q:Lq 1 loc)(h2:lk loc 2=aG (.ref 0)):Go (Bg 0 ⟨loc,[(0,.list ((jI X Y).map iR))],1⟩) λf τ=>f=.ret (yW (KP X Y)):=by
 have A:lim=1048576:=rfl;have i:=Î ok;let cs:List (Nat×fQ):=[(1,.list []),(0,.list ((jI X Y).map iR))];refine cP (eS (τ:=⟨loc,cs,2⟩) (τ':=⟨put 6 (.ref 1) loc,cs,2⟩) (wB cW (by decide)) rfl ?_);let c:=jL (put 6 (.ref 1) loc) [2,3,4,6,7];refine gF (σ':=⟨c,cs,2⟩) rfl ?_;have hi:lG (eV Iv (aS (aP 2) bP)) ⟨c,cs,2⟩=aG ((CN X Y).map iR,⟨c,cs,2⟩):=qC (iK (bH (bS (nZ (oM h2))) cW) (by refine (?_:ob (Ep FU ((jI X Y).map iR)) _=_);refine (X4 zN.symm O1 (ok.s))▸?_;rfl)) (nF _);refine cP (pL (λ_=>False) (JG X Y) (τ:=⟨c,cs,2⟩) hi (by refine (?_:(0:Nat)<=2);decide) ⟨c,[],rfl,nK (NZ (q.up (by decide)) (by decide) (by decide)),nZ oW,rfl,bG _,λe d=>nomatch d⟩ (λp B v a m=>?_) (λτ' hd=>?_))
 .replace a:=(dL)▸a
  cases h:(CN X Y)[p]? with
  |none=>rw [h]at a;cases a
  |some r=>
   replace a:=h▸a;cases a;obtain ⟨j,o⟩:=cF.mp h;obtain ⟨loc,K,rfl,q,h6,g,l,b⟩:=m;rw [iI j,o]at g;let s:=put 4 (vN r.2.1) (put 3 (vN r.1) (put 7 (.int (-(r.2.2:Int))) loc));refine ⟨⟨s,[(1,.list (K.map iR)),(0,.list ((jI X Y).map iR))],2⟩,rfl,PH (r:=r) (rs:=(CN X Y).drop (p+1)) (by exact aT 0x1e314e3bf389211280156307003 i j l) (R8 (R8 (R8 q))) (oM (oM (oM h6))) (oM (oM oW)) (oM oW) oW λloc' K' a1 t k u=>⟨loc',K',rfl,a1,t,u.trans g,?_,?_⟩⟩
   .rcases k with rfl|rfl
    .exact aT Pv l
    .simp only [bD,Bp];exact aT Pw l
   .rcases k with rfl|rfl
    .exact b
    .intro e d;rcases cU.mp d with z|z
     .exact b e z
     .refine (aM.mp z)▸?_;exact YG (aJ h)
 .obtain ⟨loc,K,rfl,q,h6,g,l,b⟩:=hd.resolve_right id;rw [bB]at g l;simp only [qI,Ø]at g;subst g;refine gF (σ':=⟨jL loc [3,4,6,7],_,2⟩) rfl ?_;refine nn λx=>?_;obtain ⟨loc',e,h'⟩:=QR (n:=2) (nF (jI X Y)) (nF (KP X Y)) (nK (xs:=[3,4,6,7]) q);refine x ?_;refine Tv e ?_;obtain ⟨τ',y⟩:=RK (h' (nZ h6)) (by exact aT 0x1c629c77e70a40156307002 i l) λe d=>bV (b e d) ok.x;exact zT y rfl
def FT(ok:Oa X Y):Go (Hy 0 ⟨[(0,vL X),(1,vL Y)],[],0⟩) λf τ=>f=.ret (yW (KP X Y)):=by
 have c:=ok.x;have e:=ok.y;have g:=ok.s;let a:tH:=[(0,vL X),(1,vL Y),(2,.ref 0)];have h:Lq 1 a:=λp b=>by
  simp only [a,aR,uB,or_false]at b;rcases b with rfl|rfl|rfl
  .exact ⟨by refine (?_:(0:Nat)<100);decide,.inl (eO X)⟩
  .exact ⟨by refine (?_:(1:Nat)<100);decide,.inl (eO Y)⟩
  .exact ⟨by decide,.inr ⟨0,by decide,rfl⟩⟩
 refine cP (eS (τ':=⟨a,[(0,.list [])],1⟩) (wB cW (by decide)) rfl (gF (σ':=⟨a,[(0,.list [])],1⟩) rfl ?_));refine cP (pL (λ_=>False) (JI4 X Y) (τ:=⟨a,[(0,.list [])],1⟩) (Ka ((bH ((iK (bH (bS rfl) cW) (xS (by rw [bB];exact aT FL (rfl:lim=1048576) c))).trans (by rw [bB])) cW)) (by exact aT OQ c)) (by refine (?_:(0:Nat)<=1);decide) ⟨a,rfl,h,rfl,rfl,rfl⟩ (λp r v d j=>?_) (λτ' hd=>?_))
 .replace d:=Fn d;obtain ⟨b,rfl⟩:=d;obtain ⟨loc,rfl,q,h0,h1,h2⟩:=j;have k:Lq 1 (put 3 (vN p) loc):=R8 q;refine ⟨⟨put 3 (vN p) loc,_,1⟩,rfl,PJ (i:=p) (R:=(bX p).flatMap λi=>vP X Y i) c e b ?_ k (oM h0) (oM h1) (oM h2) oW λloc' a1 l m o=>⟨loc',?_,a1,l,m,o⟩⟩
  .have:=W5 (f:=λi=>vP X Y i) (aC X) (p+1) b;refine Ea▸?_;exact aT 0xe314e39cc6be70a40156307002 g this
  .rw [Ea]
 .obtain ⟨loc,rfl,q,h0,h1,h2⟩:=hd.resolve_right id;refine DA▸?_;exact gF (σ':=⟨jL loc [2,3,4,7],[(0,.list ((jI X Y).map iR))],1⟩) rfl (PG ok (nK q) (nZ h2))
def IM(a:bE×bE):cA:=[vL a.1,vL a.2]
abbrev Xc:mU:=LH (Nm IM (λa=>Oa a.1 a.2) λa=>yW (KP a.1 a.2))
def Rc(ok:Oa X Y):Xc [vL X,vL Y] σ=aG (yW (KP X Y),σ):=
 C5 (a:=(X,Y)) (λa b e=>by simp only [IM,kM,and_true]at e;refine (qZ e.1)▸?_;exact (qZ e.2)▸rfl) (by unfold IM;simp only [fO,eN,eO,gQ]) ok
end
section
variable{n:Nat}
def aA8(G:Gd)(ok:Oa X Y):Xn (n+1) (.ref 251) [vL X,vL Y] (λr=>r=yW (KP X Y)):=by
 refine Uu.c (zY (o:=MineH.o251v0) (kK w.params) (G.K 251 _ (by kernel_rfl)) rfl G.lim (codeRec_of G.K (by kernel_rfl)) rfl (λvs h=>?_) (by refine (?_:(2:Nat)<=10);decide) (by simp only [fO,eN,eO,gQ]) λL=>?_)
 .revert vs;exact VX λ_ _=>by kernel_rfl
 .obtain ⟨f,τ,e,rfl⟩:=FT ok;refine kO (Qj G 0 _ _ _ e) ?_;rintro _ _ ⟨rfl,rfl⟩;exact ⟨_,dP (Aj _),Aj _,rfl⟩
def ZE(G:Gd)(F:Fx):A0 (n+1) F (.ref 251) Xc:=ş (λa h=>aA8 G h) F
end
def XM:W1 (.tup [vN a,vN b,vN c]) (.tup [vN d,vN e,vN f]) σ=aG (.bool (!decide ((a,b,c)=(d,e,f))),σ):=
 (BV (dP rfl) (dP rfl) rfl rfl (by simp only [V.tup.injEq,kM,vN,V.int.injEq,and_true,gX,E7])).2
def BN(b:c σ=aG (vL L,σ))(d:gy σ=aG (vN a,σ))(e:aC L<=1000):mH c (kH gy) uV σ=aG (vL (uH L a (aC L)),σ):=by unfold mH;rw [b];show bd (kH gy σ) _=_;rw [show kH gy σ=aG (aG (a:Int),σ) by unfold kH;rw [d];rfl];show (if (L.map V.int).length<=lim then aG (V.lst (pySl (L.map V.int) (aG (a:Int)) aH),σ)else aH)=_;rw [if_pos (by rw [bB];have f:lim=1048576:=rfl;exact aT ĩ e f),MW,uD];simp only [vL,aBy]
section
variable{A B C:bE}
def Mc{P:Fl->gZ}(h5:lk σ.loc 5=aG (.ref 0))(h6:lk σ.loc 6=aG (vN o))(h7:lk σ.loc 7=aG (vN p))(h8:lk σ.loc 8=aG (vN q))(b:σ.cells=[(0,.list (T.map lW))])(c:aC T<=100000)
  (d:E σ=aG ([vN k,vN i,vN j],σ)) (e:s9 σ=aG ([vL (uH A o k),vL (uH B p i),vL (uH C q j)],σ))
  (a:P .next ⟨σ.loc,[(0,.list ((T++pc A B C o p q k i j).map lW))],σ.next⟩):
  Go (yF (gM (bJ W1 (kC (aS (aP 6) (aS (aP 7) (aS (aP 8) bP)))) (kC E))) (xP (zW gT (aP 5) (aS (kC s9) bP))) (nA .next) k0 σ) P:=by
 have f:lim=1048576:=rfl;obtain ⟨loc,cs,n⟩:=σ;dsimp only at h5 h6 h7 h8 b a;subst b;refine rG (jV (lP (cQ (nV (bH (bS h6) (bH (bS h7) (bH (bS h8) cW))) Fu) (nV d Fu) XM)) ?_);by_cases h:(o,p,q)=(k,i,j)
 .rw [decide_eq_true h,Bool.not_true,if_neg lN];refine kI ?_;rwa[show pc A B C o p q k i j=[]from if_pos h,dI]at a
 .rw [decide_eq_false h,Bool.not_false,if_pos rfl];refine rH (xR (bS h5) rfl (bH (nV e Fu) cW) (lQ rfl (by rw [bB];exact aT 0x3462908178c6318c70c14e39ade366002 c f))) ?_;rw [show pc A B C o p q k i j=[(uH A o k,uH B p i,uH C q j)]from if_neg h,dK]at a;exact a
def Md:(pc A B C o p q k i j).length<=1:=by unfold pc;split<;>simp
def zJ:∀(L:jU)(o p q:Nat),(wK A B C L o p q).length<=2*aC L:=by
 intro L
 induction L with
 |nil=>intro o p q;exact bI _
 |cons e r a=>obtain ⟨k,i,j⟩:=e;intro o p q;rw [Cb,bD,eM,eM];have:=a (k+1) (i+1) (j+1);have:=Md (A:=A) (B:=B) (C:=C) (o:=o) (p:=p) (q:=q) (k:=k) (i:=i) (j:=j);exact aT 0xe314c1070e8c841c0249c4980746003 ‹_› this
def C7{f g:Nat->Option Nat}:∀(n k:Nat),(qT f g k n).length<=n:=by
 intro n
 induction n with
 |zero=>intro k;exact bG _
 |succ n a=>
  intro k;rw [sU,bD];have:=a (k+1);have:((f k).bind λi=>(g k).map λj=>(k,i,j)).toList.length<=1:=by cases (f k).bind λi=>(g k).map λj=>(k,i,j)<;>simp
  exact aT 0xe314a0e14004938921003 ‹_› this
def wO{l:List I5}:oH 1 (rZ uY 1 [(0,.list (l.map lW))]) [(0,.list (l.map lW))]=aG [(0,.list (l.map lW))]:=gL (by decide) (gE (jD (uL l))) kW
def SZ:QN (vN k) (yW (KP X Y)) σ=aG (.bool (fm (·∈KP X Y) k).isSome,σ):=by show aG (V.bool (AR (k:Int) (((Aa (KP X Y)).reverse.map (·.1)).zip ((Aa (KP X Y)).reverse.map (·.2)))).isSome,σ)=_;rw [Iu tW];cases fm (·∈KP X Y) k<;>rfl
def BS(h:fm (·∈KP X Y) k=aG i):Bi (yW (KP X Y)) (vN k) σ=aG (vN i,σ):=by show ob (AR (k:Int) (((Aa (KP X Y)).reverse.map (·.1)).zip ((Aa (KP X Y)).reverse.map (·.2)))) _=_;rw [Iu tW,h];rfl
structure Uo(A B C:bE):Prop where
 b:Oa B A
 c:Oa C A
abbrev kF(X Y:bE):Nat->Option Nat:=fm (·∈KP X Y)
abbrev Jx(A B C:bE)(i:Nat):jU:=qT (kF B A) (kF C A) 0 i
noncomputable def Mf(L:jU):T3:=Pi L (0,0,0)
structure aBj(A B C:bE)(s:T3)(loc:tH):Prop where
 q:Lq 1 loc
 h0:lk loc 0=aG (vL A)
 h1:lk loc 1=aG (vL B)
 h2:lk loc 2=aG (vL C)
 h3:lk loc 3=aG (yW (KP B A))
 h4:lk loc 4=aG (yW (KP C A))
 h5:lk loc 5=aG (.ref 0)
 h6:lk loc 6=aG (vN s.1)
 h7:lk loc 7=aG (vN s.2.1)
 h8:lk loc 8=aG (vN s.2.2)
inductive JWk(A B C:bE)(i:Nat)(τ:St):Prop
 |mk (loc:tH) (w:aBj A B C (Mf (Jx A B C i)) loc) (e:τ=⟨loc,[(0,.list ((wK A B C (Jx A B C i) 0 0 0).map lW))],1⟩)
def Xy{Rt:V->gZ}(ok:Uo A B C)(hi:i<aC A)(w:aBj A B C (Mf (Jx A B C i)) loc)(f:lk loc 9=aG (vN i)):
  Go (Bf Xc vA 1 ⟨loc,[(0,.list ((wK A B C (Jx A B C i) 0 0 0).map lW))],1⟩) (xI [0,1,2,3,4,5,6,7,8] 1 (JWk A B C (i+1)) (λ_=>False) Rt):=by
 have O:lim=1048576:=rfl;have H:=ok.b.y;have W:=ok.b.x;have Z:=ok.c.x;have P:(wK A B C (Jx A B C i) 0 0 0).length<=400:=by have:=zJ (A:=A) (B:=B) (C:=C) (Jx A B C i) 0 0 0;have:(Jx A B C i).length<=i:=C7 i 0;exact aT 0x29928a71af184900d301e8c24e33b30541004 hi H ‹_› this
 have I:Jx A B C (i+1)=Jx A B C i++((kF B A i).bind λx=>(kF C A i).map λy=>(i,x,y)).toList:=by show qT _ _ 0 (i+1)=_;rw [Ae,sU,F8,dI,dY]
 let vr:St:=⟨loc,[(0,.list ((wK A B C (Jx A B C i) 0 0 0).map lW))],1⟩;have Q:Jx A B C (i+1)=Jx A B C i->xI [0,1,2,3,4,5,6,7,8] 1 (JWk A B C (i+1)) (λ_=>False) Rt .next vr:=λe=>by refine Bj w.q.lo wO ⟨jL loc [0,1,2,3,4,5,6,7,8],?_,by rw [e]⟩;rw [e];exact ⟨nK w.q,nZ w.h0,nZ w.h1,nZ w.h2,nZ w.h3,nZ w.h4,nZ w.h5,nZ w.h6,nZ w.h7,nZ w.h8⟩
 refine rG (jV (Gk (lP (cQ (bS f) (bS w.h3) (SZ (X:=B) (Y:=A) (k:=i)))) λ_=>Gk (lP (cQ (bS f) (bS w.h4) (SZ (X:=C) (Y:=A) (k:=i)))) λ_=>rfl) ?_)
 cases D:fm (·∈KP B A) i with
 |none=>exact kI (Q (by rw [I];unfold kF;refine D▸?_;exact dI _))
 |some x=>
  cases J:fm (·∈KP C A) i with
  |none=>exact kI (Q (by rw [I];unfold kF;refine D▸?_;refine J▸?_;exact dI _))
  |some y=>
   have t:Jx A B C (i+1)=Jx A B C i++[(i,x,y)]:=by rw [I];unfold kF;refine D▸?_;refine J▸?_;rfl
   have w9:=w;obtain ⟨q,h0,h1,h2,h3,h4,h5,h6,h7,h8⟩:=w;let s:=Mf (Jx A B C i);let T:=wK A B C (Jx A B C i) 0 0 0;have P:aC T<=400:=P;let T1:=T++pc A B C s.1 s.2.1 s.2.2 i x y;have L:∀{loc:tH}{cs:List (Nat×fQ)}{n:Nat},lk loc 3=aG (yW (KP B A))->lk loc 9=aG (vN i)->bJ Bi (aP 3) (aP 9) ⟨loc,cs,n⟩=aG (vN x,⟨loc,cs,n⟩):=λa b=>cQ (bS a) (bS b) (BS D);have N:∀{loc:tH}{cs:List (Nat×fQ)}{n:Nat},lk loc 4=aG (yW (KP C A))->lk loc 9=aG (vN i)->bJ Bi (aP 4) (aP 9) ⟨loc,cs,n⟩=aG (vN y,⟨loc,cs,n⟩):=λa b=>cQ (bS a) (bS b) (BS J);refine cP (Mc (A:=A) (B:=B) (C:=C) (T:=T) h5 h6 h7 h8 rfl (by exact aT 0x18c538e6b78d9809c6bc6001 ‹_›) (bH (bS f) (bH (L h3 f) (bH (N h4 f) cW))) (bH (Gh (bS h0) (bS h6) (bS f) (by exact aT EY H)) (bH (Gh (bS h1) (bS h7) (L h3 f) (by exact aT EY W)) (bH (Gh (bS h2) (bS h8) (N h4 f) (by exact aT EY Z)) cW))) ?_);let m:=jL loc [0,1,2,3,4,5,9];refine gF (σ':=⟨m,[(0,.list (T1.map lW))],1⟩) rfl ?_;let T2:=T1++[kS (A.getD i 0)];have e2:T2.map lW=T1.map lW++[lW (kS (A.getD i 0))]:=dK;have sw:aC T1<=401:=by rw [bD];have:=Md (A:=A) (B:=B) (C:=C) (o:=s.1) (p:=s.2.1) (q:=s.2.2) (k:=i) (i:=x) (j:=y);exact aT 0xe314e75e3202049c29c6bc6002 ‹_› this
   have k3:lk m 3=aG (yW (KP B A)):=nZ h3;have k4:lk m 4=aG (yW (KP C A)):=nZ h4;have F:lk m 9=aG (vN i):=nZ f;refine cP (rH (τ:=⟨m,[(0,.list (T2.map lW))],1⟩) (xR (u:=.ref 0) (us:=[wL [kS (A.getD i 0)]]) (l:=T1.map lW) (bS (nZ h5)) rfl (bH (iK (bH (Cc (vs:=[.int (A.getD i 0)]) (bH (cQ (bS (nZ h0)) (bS F) (nE (Ft 0 hi) (by rw [bB];exact aT FL O H))) cW) lm1) cW) (Iw (A:=[A.getD i 0]) (by refine (?_:(1:Nat)<=1000);decide))) cW) ((Gi (l':=[lW (kS (A.getD i 0))]) rfl rfl (by rw [bB];exact aT 0x58c5200a73af182bc6318c6386002 O sw) lm1).trans (by refine e2▸?_;rfl))) ?_);have ad:∀{g:M V}{a:Nat}{σ:St},g σ=aG (vN a,σ)->bJ fF g (gK (.int 1)) σ=aG (vN (a+1),σ):=λh=>cQ h (b:=vN 1) rfl tM;let G:=put 6 (vN (i+1)) (put 7 (vN (x+1)) (put 8 (vN (y+1)) m));refine eS (v:=.tup [vN (i+1),vN (x+1),vN (y+1)]) (τ':=⟨G,[(0,.list (T2.map lW))],1⟩) (nV (bH (ad (bS F)) (bH (ad (L k3 F)) (bH (ad (N k4 F)) cW))) Fu) rfl ?_;have R:Lq 1 G:=R8 (R8 (R8 (nK q)));have r:∀{z:Nat}{v:V},z≠6->z≠7->z≠8->z∈[0,1,2,3,4,5,9]->lk loc z=aG v->lk G z=aG v:=λa b c d h=>Mr a (Mr b (Mr c (AF d h)));have en:Mf (Jx A B C (i+1))=(i+1,x+1,y+1):=by unfold Mf;simp only [t,V0];rfl
   have ew:wK A B C (Jx A B C (i+1)) 0 0 0=T2:=by simp only [t,Os,Cb,LZ];refine (?_:T++(pc A B C s.1 s.2.1 s.2.2 i x y++_)=_);rw [<-dM]
   refine Bj R.lo wO ⟨jL G [0,1,2,3,4,5,6,7,8],?_,by rw [ew]⟩;rw [en];exact ⟨nK R,nZ (r (by decide) (by decide) (by decide) (by decide) h0),nZ (r (by decide) (by decide) (by decide) (by decide) h1),nZ (r (by decide) (by decide) (by decide) (by decide) h2),nZ (r (by decide) (by decide) (by decide) (by decide) h3),nZ (r (by decide) (by decide) (by decide) (by decide) h4),nZ (r (by decide) (by decide) (by decide) (by decide) h5),nZ oW,nZ (oM oW),nZ (oM (oM oW))⟩
def Ou{P:Fl->gZ}(a:aC A<=200)(b:aC B<=200)(c:aC C<=200)(d:aC T<=1000)(e:wK A B C L 0 0 0=T)(h0:lk loc 0=aG (vL A))(h1:lk loc 1=aG (vL B))(h2:lk loc 2=aG (vL C))(h5:lk loc 5=aG (.ref 0))(h6:lk loc 6=aG (vN (Mf L).1))(h7:lk loc 7=aG (vN (Mf L).2.1))(h8:lk loc 8=aG (vN (Mf L).2.2))
  (f:∀l',P (.ret (.ref 0)) ⟨l',[(0,.list ((Bb A B C L 0 0 0).map lW))],n⟩):
  Go ((eU (yF (gM (bJ W1 (kC (aS (aP 6) (aS (aP 7) (aS (aP 8) bP)))) (kC (aS (eV oG (aS (aP 0) bP)) (aS (eV oG (aS (aP 1) bP)) (aS (eV oG (aS (aP 2) bP)) bP)))))) (xP (zW gT (aP 5) (aS (kC (aS (mH (aP 0) (kH (aP 6)) uV) (aS (mH (aP 1) (kH (aP 7)) uV) (aS (mH (aP 2) (kH (aP 8)) uV) bP)))) bP))) (nA .next)) (rT [5] (tQ (aP 5)))) k0 ⟨loc,[(0,.list (T.map lW))],n⟩) P:=by
 have ln:∀{x:Nat}{Z:bE}{σ:St},lk σ.loc x=aG (vL Z)->aC Z<=200->eV oG (aS (aP x) bP) σ=aG (vN (aC Z),σ):=λh g=>(iK (bH (bS h) cW) (xS (by rw [bB];exact aT FL (rfl:lim=1048576) g))).trans (by rw [bB]);refine cP (Mc h5 h6 h7 h8 rfl (aT 0x18c538e6b78d9809c77e7001 d) (bH (ln h0 a) (bH (ln h1 b) (bH (ln h2 c) cW))) (bH (BN (bS h0) (bS h6) (aT EY a)) (bH (BN (bS h1) (bS h7) (aT EY b)) (bH (BN (bS h2) (bS h8) (aT EY c)) cW))) ?_);exact gF (σ':=⟨jL loc [5],[(0,.list ((Bb A B C L 0 0 0).map lW))],n⟩) (by simp only [Do,e];rfl) (zT (bS (nZ h5)) (f _))
def BL(ok:Uo A B C):Go (Hw Xc vA 0 ⟨[(0,vL A),(1,vL B),(2,vL C)],[],0⟩) λf τ=>f=.ret (.ref 0)/\lk τ.cells 0=aG (.list ((Bt A B C (kF B A) (kF C A)).map lW)):=by
 have b:=ok.b.y;have g:=ok.b.x;have h:=ok.c.x;let K1:=yW (KP B A);let K2:=yW (KP C A);let c:tH:=[(0,vL A),(1,vL B),(2,vL C),(4,K2),(3,K1)];refine cP (eS (τ:=⟨[(0,vL A),(1,vL B),(2,vL C)],[],0⟩) (τ':=⟨c,[],0⟩) (nV (bH (iK (bH (bS rfl) (bH (bS rfl) cW)) (Rc ok.b)) (bH (iK (bH (bS rfl) (bH (bS rfl) cW)) (Rc ok.c)) cW)) Yw) rfl (cP (eS (τ':=⟨c++[(5,.ref 0)],[(0,.list [])],1⟩) (wB cW (by decide)) rfl ?_)));let a:tH:=[(0,vL A),(1,vL B),(2,vL C),(3,K1),(4,K2),(5,.ref 0),(6,vN 0),(7,vN 0),(8,vN 0)];refine cP (eS (τ':=⟨c++[(5,.ref 0),(6,vN 0),(7,vN 0),(8,vN 0)],[(0,.list [])],1⟩) rfl rfl (gF (σ':=⟨a,[(0,.list [])],1⟩) rfl ?_));have j:Lq 1 a:=λp e=>by
  simp only [a,aR,uB,or_false]at e;rcases e with rfl|rfl|rfl|rfl|rfl|rfl|rfl|rfl|rfl
  .exact ⟨by refine (?_:(0:Nat)<100);decide,.inl (eO A)⟩
  .exact ⟨by refine (?_:(1:Nat)<100);decide,.inl (eO B)⟩
  .exact ⟨by refine (?_:(2:Nat)<100);decide,.inl (eO C)⟩
  .exact ⟨by refine (?_:(3:Nat)<100);decide,.inl (Aj _)⟩
  .exact ⟨by refine (?_:(4:Nat)<100);decide,.inl (Aj _)⟩
  .exact ⟨by decide,.inr ⟨0,by decide,rfl⟩⟩
  .exact ⟨by decide,.inl rfl⟩
  .exact ⟨by decide,.inl rfl⟩
  .exact ⟨by decide,.inl rfl⟩
 refine cP (pL (λ_=>False) (JWk A B C) (ds:=Et 0 (aC A:Int)) (τ:=⟨a,[(0,.list [])],1⟩) (Ka ((bH ((iK (bH (bS (v:=vL A) rfl) cW) (xS (by rw [bB];exact aT FL (rfl:lim=1048576) b))).trans (by rw [bB])) cW)) (by exact aT OQ b)) (by refine (?_:(0:Nat)<=1);decide) ⟨a,⟨j,rfl,rfl,rfl,rfl,rfl,rfl,rfl,rfl,rfl⟩,rfl⟩ (λi l v d k=>?_) (λτ' hd=>?_))
 .replace d:=Fn d;obtain ⟨hi,rfl⟩:=d;obtain ⟨loc,⟨q,h0,h1,h2,h3,h4,h5,h6,h7,h8⟩,rfl⟩:=k;exact ⟨⟨put 9 (vN i) loc,_,1⟩,rfl,Xy ok hi ⟨R8 q,oM h0,oM h1,oM h2,oM h3,oM h4,oM h5,oM h6,oM h7,oM h8⟩ oW⟩
 .obtain ⟨loc,⟨q,h0,h1,h2,h3,h4,h5,h6,h7,h8⟩,rfl⟩:=hd.resolve_right id;rw [DA]at *;refine gF (σ':=⟨jL loc [0,1,2,5,6,7,8],_,1⟩) rfl ?_;have:=zJ (A:=A) (B:=B) (C:=C) (Jx A B C (aC A)) 0 0 0;have:(Jx A B C (aC A)).length<=aC A:=C7 (aC A) 0;exact Ou (L:=Jx A B C (aC A)) b g h (by exact aT 0x132514e3bf3852012602d1829c6766003 b ‹_› this) rfl (nZ h0) (nZ h1) (nZ h2) (nZ h5) (nZ h6) (nZ h7) (nZ h8) λl'=>⟨rfl,rfl⟩
def î(a:bE×bE×bE):cA:=[vL a.1,vL a.2.1,vL a.2.2]
abbrev Bk:mU:=LH (Nm î (λa=>Uo a.1 a.2.1 a.2.2) λa=>wL (Bt a.1 a.2.1 a.2.2 (kF a.2.1 a.1) (kF a.2.2 a.1)))
def IT(ok:Uo A B C):Bk [vL A,vL B,vL C] σ=aG (wL (Bt A B C (kF B A) (kF C A)),σ):=
 C5 (a:=(A,B,C)) (λa b e=>by simp only [î,kM,and_true]at e;refine (qZ e.1)▸?_;refine (qZ e.2.1)▸?_;exact (qZ e.2.2)▸rfl) (by unfold î;simp only [fO,eN,eO,gQ]) ok
end
section
variable{n:Nat}
def aA7(G:Gd)(ok:Uo A B C):Xn (n+2) (.ref 263) [vL A,vL B,vL C] (λr=>r=wL (Bt A B C (kF B A) (kF C A))):=by
 refine Uu.c (zY (o:=MineH.o263v0) (cV w.params) (G.K 263 _ (by kernel_rfl)) rfl G.lim (codeRec_of G.K (by kernel_rfl)) rfl (λvs h=>?_) (by refine (?_:(3:Nat)<=10);decide) (by simp only [fO,eN,eO,gQ]) λL=>?_)
 .revert vs;exact ll3 λ_ _ _=>by kernel_rfl
 .obtain ⟨f,τ,e,rfl,a⟩:=BL ok;refine kO (Qi G (ZE G) (Tc G) 0 _ _ _ e) ?_;rintro _ _ ⟨rfl,rfl⟩;exact ⟨_,wQ (eL _) a (uL _),pR _,rfl⟩
def ZC(G:Gd)(F:Fx):A0 (n+2) F (.ref 263) Bk:=ş (λa h=>aA7 G h) F
end
def Vd(e:g σ=aG (pB t,σ))(h:[vN t.1,vN t.2.1,vN t.2.2][i]?=aG (vN n)):oF i g σ=aG (vN n,σ):=by unfold oF;rw [e];have a:dH [vN t.1,vN t.2.1,vN t.2.2]=aU/\[vN t.1,vN t.2.1,vN t.2.2].length<1000/\(vN n).pure=aU/\Dz (vN n)=true:=⟨rfl,(by decide:(3:Nat)<1000),rfl,rfl⟩;exact nX h (if_pos a)
def Sn(h:b<=a):oE (vN a) (vN b) σ=aG (vN (a-b),σ):=by show aG (V.int ((a:Int)-(b:Int)),σ)=aG (V.int ((a-b:Nat):Int),σ);rw [Int.ofNat_sub h]
def XQ:ø [vN a,vN b] σ=aG (vN (min a b),σ):=by
 show aG (V.int (if (b:Int)<(a:Int)then (b:Int)else (a:Int)),σ)=aG (V.int ((min a b:Nat):Int),σ);by_cases h:b<a
 .rw [if_pos (jP.mpr h),Ai (iG h)]
 .rw [if_neg (λq=>h (jP.mp q)),Og (fD h)]
def wN(l:jU):dH (l.map pB)=true:=by
 induction l with
 |nil=>rfl
 |cons t r a=>rw [cE,eN,a];rfl
def Vf(h:pB t=pB u):t=u:=by obtain ⟨a,b,c⟩:=t;obtain ⟨d,e,f⟩:=u;simp only [pB,vN,V.mt.injEq,kM,V.int.injEq,E7,and_true]at h;rw [h.1,h.2.1,h.2.2]
structure Z0(A B C:bE)(F G:jU):Prop where
 a:aC A<=200
 b:aC B<=200
 c:aC C<=200
 r:(uN F G).length<=400
 g:∀y∈G,y.2.1+y.2.2<=aC A
section
variable{A B C:bE}{F G:jU}
structure C8(A B C:bE)(G:jU)(s:T3)(loc:tH):Prop where
 q:Lq 1 loc
 h0:lk loc 0=aG (vL A)
 h1:lk loc 1=aG (vL B)
 h2:lk loc 2=aG (vL C)
 h4:lk loc 4=aG (.lst (G.map pB))
 h5:lk loc 5=aG (.ref 0)
 h6:lk loc 6=aG (vN s.1)
 h7:lk loc 7=aG (vN s.2.1)
 h8:lk loc 8=aG (vN s.2.2)
def C8.put(w:C8 A B C G s loc)(a:9<=x)(b:x<100)(c:v.pure=aU):C8 A B C G s (put x v loc):=
 ⟨EJ w.q b c,Mr (aT 0xc317496032419381 a) w.h0,Mr (aT 0xc31749603a419381 a) w.h1,Mr (aT 0x1862e92c1a32419381 a) w.h2,Mr (aT 0x1862e92c1c32419381 a) w.h4,Mr (aT 0x1862e92c1d32419381 a) w.h5,Mr (aT 0x1862e92c1e32419381 a) w.h6,Mr (aT 0x1862e92c1f32419381 a) w.h7,Mr (aT 0x1862e92c183a419381 a) w.h8⟩
def C8.keep(w:C8 A B C G s loc)(h:∀i∈[0,1,2,4,5,6,7,8],i∈xs):C8 A B C G s (jL loc xs):=
 ⟨nK w.q,AF (h _ (by decide)) w.h0,AF (h _ (by decide)) w.h1,AF (h _ (by decide)) w.h2,AF (h _ (by decide)) w.h4,AF (h _ (by decide)) w.h5,AF (h _ (by decide)) w.h6,AF (h _ (by decide)) w.h7,AF (h _ (by decide)) w.h8⟩
def LC(A B C:bE)(loc:tH)(R:jU):St:=⟨loc,[(0,.list ((wK A B C R 0 0 0).map lW))],1⟩
inductive JM(A B C:bE)(G:jU)(x:T3)(ez W:jU)(p:Nat)(τ:St):Prop
 |mk (loc:tH) (R:jU) (w:C8 A B C G (Mf R) loc) (h9:lk loc 9=aG (pB x)) (e:τ=LC A B C loc R) (r:R++((G.drop p).flatMap (Pb x)++ez)=W)
def Ti{Rt:V->gZ}(hA:aC A<=200)(hB:aC B<=200)(hC:aC C<=200)(hW:aC W<=400)(hy:y.2.1+y.2.2<=aC A)(w:C8 A B C G (Mf R) loc)(h9:lk loc 9=aG (pB x))(sy:lk loc 10=aG (pB y))(hr:R++(Pb x y++((G.drop (p+1)).flatMap (Pb x)++ez))=W):
  Go (uU vA 1 (LC A B C loc R)) (xI [0,1,2,4,5,6,7,8,9] 1 (JM A B C G x ez W (p+1)) (λ_=>False) Rt):=by
 have c9:lim=1048576:=rfl;have H:aC R<=400:=by have:=congrArg aC hr;rw [bD]at this;exact aT 0x16314e35e3056040829c6bc6003 hW this
 have hT:=zJ (A:=A) (B:=B) (C:=C) R 0 0 0;let T:=wK A B C R 0 0 0;have hT:aC T<=800:=by exact aT 0x94a29c73870a600d1829c6bc6002 H hT
 let cs:List (Nat×fQ):=[(0,.list (T.map lW))];let e:=LB x y;let f:=ħ x y;have bx:x.2.1<=e:=ĸ _ _;have Q:y.2.1<=e:=ę _ _;have ex:f<=x.2.1+x.2.2:=Of _ _;have X:∀{loc:tH}{i n:Nat},lk loc 9=aG (pB x)->[vN x.1,vN x.2.1,vN x.2.2][i]?=aG (vN n)->oF i (aP 9) ⟨loc,cs,1⟩=aG (vN n,⟨loc,cs,1⟩):=λa b=>Vd (bS a) b;have Y:∀{loc:tH}{i n:Nat},lk loc 10=aG (pB y)->[vN y.1,vN y.2.1,vN y.2.2][i]?=aG (vN n)->oF i (aP 10) ⟨loc,cs,1⟩=aG (vN n,⟨loc,cs,1⟩):=λa b=>Vd (bS a) b;let r:=put 11 (vN e) (put 12 (vN f) loc);have w1:C8 A B C G (Mf R) r:=(w.put (by decide) (by decide) rfl).put (by decide) (by decide) rfl;have k9:lk r 9=aG (pB x):=oM (oM h9);have Z:lk r 10=aG (pB y):=oM (oM sy);have xj:lk r 11=aG (vN e):=oW;have i6:lk r 12=aG (vN f):=oM oW;unfold uU;refine cP (eS (v:=.tup [vN e,vN f]) (τ:=⟨loc,cs,1⟩) (τ':=⟨r,cs,1⟩) (nV (bH (iK (bH (X h9 rfl) (bH (Y sy rfl) cW)) XR) (bH (iK (bH (cQ (X h9 rfl) (X h9 rfl) tM) (bH (cQ (Y sy rfl) (Y sy rfl) tM) cW)) XQ) cW)) Yw) rfl (rG (jV (lP (cQ (bS xj) (bS i6) U9)) ?_)));by_cases I:e<f
 .rw [lK I];have eo:Pb x y=zP e (x.1+(e-x.2.1)) (y.1+(e-y.2.1)) (f-e):=if_pos I;let i:=x.1+(e-x.2.1);let j:=y.1+(e-y.2.1);have ei:x.1+e-x.2.1=i:=by show _=x.1+(e-x.2.1);exact aT ι bx
  have ej:y.1+e-y.2.1=j:=by show _=y.1+(e-y.2.1);exact aT ι Q
  let t:=put 13 (vN i) (put 14 (vN j) r);have g:C8 A B C G (Mf R) t:=(w1.put (by decide) (by decide) rfl).put (by decide) (by decide) rfl;have J:lk t 11=aG (vN e):=oM (oM xj);have m12:lk t 12=aG (vN f):=oM (oM i6);have L:lk t 13=aG (vN i):=oW;have N:lk t 14=aG (vN j):=oM oW;refine cP (eS (v:=.tup [vN i,vN j]) (τ:=⟨r,cs,1⟩) (τ':=⟨t,cs,1⟩) (nV (bH (cQ (cQ (X k9 rfl) (bS xj) tM) (X k9 rfl) ((Sn (by exact aT 0x318a50110121003 bx)).trans (by rw [ei]))) (bH (cQ (cQ (Y Z rfl) (bS xj) tM) (Y Z rfl) ((Sn (by exact aT 0x318a50110121003 Q)).trans (by rw [ej]))) cW)) Yw) rfl ?_);let s:=Mf R;let T1:=T++pc A B C s.1 s.2.1 s.2.2 e i j;refine cP (Mc (A:=A) (B:=B) (C:=C) (T:=T) g.h5 g.h6 g.h7 g.h8 rfl (by exact aT 0x4a514e39ade3660a600d1829c6bc6002 H ‹_›) (bH (bS J) (bH (bS L) (bH (bS N) cW))) (bH (Gh (bS g.h0) (bS g.h6) (bS J) (by exact aT EY hA)) (bH (Gh (bS g.h1) (bS g.h7) (bS L) (by exact aT EY hB)) (bH (Gh (bS g.h2) (bS g.h8) (bS N) (by exact aT EY hC)) cW))) ?_);let m:=jL t [0,1,2,4,5,9,11,12,13,14];refine gF (σ':=⟨m,[(0,.list (T1.map lW))],1⟩) rfl ?_;let D:=(uH A e f).map kS;let T2:=T1++D;have sw:aC T1<=801:=by show (T++_).length<=801;rw [bD];have:=Md (A:=A) (B:=B) (C:=C) (o:=s.1) (p:=s.2.1) (q:=s.2.2) (k:=e) (i:=i) (j:=j);exact aT 0x4a94539e70e81052712600d1829c6bc6003 H ‹_› this
  have hD:(uH A e f).length<=200:=by unfold uH;rw [zH,kE];exact aT 0x2535273718a719d9809c676614ce01ccc1003 hA
  have e2:T2.map lW=T1.map lW++D.map lW:=dK;have n0:lk m 0=aG (vL A):=nZ g.h0;have n11:lk m 11=aG (vN e):=nZ J;have O:lk m 12=aG (vN f):=nZ m12;have n13:lk m 13=aG (vN i):=nZ L;have n14:lk m 14=aG (vN j):=nZ N;refine cP (rH (τ:=⟨m,[(0,.list (T2.map lW))],1⟩) (xR (u:=.ref 0) (us:=[wL D]) (l:=T1.map lW) (bS (nZ g.h5)) rfl (bH (iK (bH (Gh (bS n0) (bS n11) (bS O) (by exact aT EY hA)) cW) (Iw (by exact aT EY hD))) cW) ((Gi (l':=D.map lW) rfl rfl (by rw [bB];exact aT 0x58c5200a73ce1c2bc6318c6386002 c9 sw) (by rw [bB,bB];exact aT FL c9 hD)).trans (by rw [e2];rfl))) ?_);have hi:∀{z a:Nat},lk m z=aG (vN a)->bJ oE (bJ fF (aP z) (aP 12)) (aP 11) ⟨m,[(0,.list (T2.map lW))],1⟩=aG (vN (a+(f-e)),⟨m,[(0,.list (T2.map lW))],1⟩):=λ{z a} h=>cQ (cQ (bS h) (bS O) tM) (bS n11) ((Sn (by exact aT 0x318a50110141003 I)).trans (by rw [show a+f-e=a+(f-e) by exact aT 0x4a1c8614c51ca51462b4004150c9330c5330901003 I]));let nj:=put 6 (vN f) (put 7 (vN (i+(f-e))) (put 8 (vN (j+(f-e))) m));refine eS (v:=.tup [vN f,vN (i+(f-e)),vN (j+(f-e))]) (τ':=⟨nj,[(0,.list (T2.map lW))],1⟩) (nV (bH (bS O) (bH (hi n13) (bH (hi n14) cW))) Fu) rfl ?_;have P:∀{z:Nat}{v:V},z≠6->z≠7->z≠8->z∈[0,1,2,4,5,9,11,12,13,14]->lk t z=aG v->lk nj z=aG v:=λa b c d h=>Mr a (Mr b (Mr c (AF d h)));have hn:0<f-e:=by exact aT 0x92c62a0194114cc1002 I
  have en':Mf (R++Pb x y)=(f,i+(f-e),j+(f-e)):=by unfold Mf;rw [V0,eo,Vz _ _ _ _ _ hn,show e+(f-e)=f by exact aT UU hn]
  have ew:wK A B C (R++Pb x y) 0 0 0=T2:=by rw [Os,eo,BI (by exact aT 0x91d18a4a64004a0192820c29299041ccc1005 hy (Ė _ _) hn) hn,show e+(f-e)=f by exact aT UU hn,<-dM];rfl
  have w4:C8 A B C G (Mf (R++Pb x y)) nj:=by rw [en'];exact ⟨R8 (R8 (R8 (nK g.q))),P (by decide) (by decide) (by decide) (by decide) g.h0,P (by decide) (by decide) (by decide) (by decide) g.h1,P (by decide) (by decide) (by decide) (by decide) g.h2,P (by decide) (by decide) (by decide) (by decide) g.h4,P (by decide) (by decide) (by decide) (by decide) g.h5,oW,oM oW,oM (oM oW)⟩
  have k9':lk nj 9=aG (pB x):=P (by decide) (by decide) (by decide) (by decide) (oM (oM k9));refine Bj w4.q.lo wO ⟨jL nj [0,1,2,4,5,6,7,8,9],R++Pb x y,w4.keep (by decide),nZ k9',?_,by rw [dM];exact hr⟩;unfold LC;rw [ew]
 .rw [iO I];have eo:Pb x y=[]:=if_neg I;simp only [eo,kT]at hr;exact kI (Bj w1.q.lo wO ⟨jL r [0,1,2,4,5,6,7,8,9],R,w1.keep (by decide),nZ k9,rfl,hr⟩)
inductive JMo(A B C:bE)(F G:jU)(p:Nat)(τ:St):Prop
 |mk (loc:tH) (R:jU) (w:C8 A B C G (Mf R) loc) (e:τ=LC A B C loc R) (r:R++(F.drop p).flatMap (λx=>G.flatMap (Pb x))=uN F G)
def EA{Rt:V->gZ}(ok:Z0 A B C F G)(w:C8 A B C G (Mf R) loc)(c:lk loc 9=aG (pB x))(a:R++(G.flatMap (Pb x)++(F.drop (p+1)).flatMap (λx=>G.flatMap (Pb x)))=uN F G):
  Go (zU vA 1 (LC A B C loc R)) (xI [0,1,2,4,5,6,7,8] 1 (JMo A B C F G (p+1)) (λ_=>False) Rt):=by
 let d:=jL loc [0,1,2,4,5,6,7,8,9];have f:C8 A B C G (Mf R) d:=w.keep (by decide);refine gF (σ':=LC A B C d R) rfl ?_;refine pL (λ_=>False) (JM A B C G x ((F.drop (p+1)).flatMap (λx=>G.flatMap (Pb x))) (uN F G)) (τ:=LC A B C d R) (qC (bS f.h4) (wN G)) (by refine (?_:(1:Nat)<=1);decide) ⟨d,R,f,nZ c,rfl,a⟩ (λi k v b g=>?_) (λτ' hd=>?_)
 .replace b:=(dL)▸b
  cases e:G[i]? with
  |none=>rw [e]at b;cases b
  |some y=>replace b:=e▸b;cases b;refine nn λh=>?_;obtain ⟨hi,j⟩:=cF.mp e;obtain ⟨loc,R,w,c,rfl,a⟩:=g;refine h ?_;simp only [iI hi,j,fE,dM]at a;exact ⟨LC A B C (put 10 (pB y) loc) R,rfl,Ti ok.a ok.b ok.c ok.r (ok.g y (aJ e)) (w.put (by decide) (by decide) rfl) (oM c) oW a⟩
 .replace id:=hd.resolve_right id;obtain ⟨loc,R,w,c,rfl,a⟩:=id;simp only [bB,qI]at a;exact Bj w.q.lo wO ⟨jL loc [0,1,2,4,5,6,7,8],R,w.keep (by decide),rfl,a⟩
def Yl(ok:Z0 A B C F G):Go (Ew vA 0 ⟨[(0,vL A),(1,vL B),(2,vL C),(3,.lst (F.map pB)),(4,.lst (G.map pB))],[],0⟩) λf τ=>f=.ret (.ref 0)/\lk τ.cells 0=aG (.list ((Bb A B C (uN F G) 0 0 0).map lW)):=by
 have k:lim=1048576:=rfl;let d:tH:=[(0,vL A),(1,vL B),(2,vL C),(3,.lst (F.map pB)),(4,.lst (G.map pB)),(5,.ref 0)];let b:tH:=d++[(6,vN 0),(7,vN 0),(8,vN 0)];refine cP (eS (τ':=⟨d,[(0,.list [])],1⟩) (wB cW (by decide)) rfl (cP (eS (τ':=⟨b,[(0,.list [])],1⟩) rfl rfl (gF (σ':=⟨b,[(0,.list [])],1⟩) rfl ?_))));have h:Lq 1 b:=λp g=>by
  simp only [b,d,fV,kT,aR,uB,or_false]at g;rcases g with rfl|rfl|rfl|rfl|rfl|rfl|rfl|rfl|rfl
  .exact ⟨by refine (?_:(0:Nat)<100);decide,.inl (eO A)⟩
  .exact ⟨by refine (?_:(1:Nat)<100);decide,.inl (eO B)⟩
  .exact ⟨by refine (?_:(2:Nat)<100);decide,.inl (eO C)⟩
  .exact ⟨by refine (?_:(3:Nat)<100);decide,.inl (wN F)⟩
  .exact ⟨by refine (?_:(4:Nat)<100);decide,.inl (wN G)⟩
  .exact ⟨by decide,.inr ⟨0,by decide,rfl⟩⟩
  .exact ⟨by decide,.inl rfl⟩
  .exact ⟨by decide,.inl rfl⟩
  .exact ⟨by decide,.inl rfl⟩
 refine cP (pL (λ_=>False) (JMo A B C F G) (ds:=F.map pB) (τ:=⟨b,[(0,.list [])],1⟩) (qC (bS (v:=.lst (F.map pB)) rfl) (wN F)) (by refine (?_:(0:Nat)<=1);decide) ⟨b,[],(⟨h,rfl,rfl,rfl,rfl,rfl,rfl,rfl,rfl⟩),rfl,rfl⟩ (λp l v a i=>?_) (λτ' hd=>?_))
 .replace a:=(dL)▸a
  cases e:F[p]? with
  |none=>rw [e]at a;cases a
  |some x=>replace a:=e▸a;cases a;refine nn λj=>?_;obtain ⟨hi,ex⟩:=cF.mp e;obtain ⟨loc,R,w,rfl,c⟩:=i;refine j ?_;simp only [iI hi,ex]at c;exact ⟨LC A B C (put 9 (pB x) loc) R,rfl,EA ok (w.put (by decide) (by decide) rfl) oW c⟩
 .replace id:=hd.resolve_right id;obtain ⟨loc,R,w,rfl,c⟩:=id;simp only [bB,qI,qH,dI]at c;subst c;refine gF (σ':=LC A B C (jL loc [0,1,2,5,6,7,8]) (uN F G)) rfl ?_;have:=zJ (A:=A) (B:=B) (C:=C) (uN F G) 0 0 0;have:=ok.r;exact Ou (L:=uN F G) ok.a ok.b ok.c (by exact aT 0x64a29c77e70271af182980746002 ‹_› this) rfl (nZ w.h0) (nZ w.h1) (nZ w.h2) (nZ w.h5) (nZ w.h6) (nZ w.h7) (nZ w.h8) λl'=>⟨rfl,rfl⟩
abbrev MgT:=bE×bE×bE×jU×jU
def Q9(a:MgT):cA:=[vL a.1,vL a.2.1,vL a.2.2.1,.lst (a.2.2.2.1.map pB),.lst (a.2.2.2.2.map pB)]
abbrev Ju:mU:=LH (Nm Q9 (λa=>Z0 a.1 a.2.1 a.2.2.1 a.2.2.2.1 a.2.2.2.2) λa=>wL (Bb a.1 a.2.1 a.2.2.1 (uN a.2.2.2.1 a.2.2.2.2) 0 0 0))
def Io(a:MgT):dH (Q9 a)=true:=by have h:∀l:jU,(V.lst (l.map pB)).pure=true:=wN;unfold Q9;simp only [fO,eN,eO,h,gQ]
def RM(ok:Z0 A B C F G):Ju [vL A,vL B,vL C,.lst (F.map pB),.lst (G.map pB)] σ=aG (wL (Bb A B C (uN F G) 0 0 0),σ):=
 C5 (a:=((A,B,C,F,G):MgT)) (λa b e=>by obtain ⟨a1,c,d,f,g⟩:=a;obtain ⟨b1,h,i,j,k⟩:=b;simp only [Q9,kM,V.lst.injEq,and_true]at e;simp only [qZ e.1,qZ e.2.1,qZ e.2.2.1,Mn (λ_ _=>Vf) e.2.2.2.1,Mn (λ_ _=>Vf) e.2.2.2.2]) (Io _) ok
end
section
variable{n:Nat}
def aDs(G:Gd)(ok:Z0 A B C F H):Xn (n+3) (.ref 270) (Q9 (A,B,C,F,H)) (λr=>r=wL (Bb A B C (uN F H) 0 0 0)):=by
 refine Uu.c (zY (o:=MineH.o270v0) (cO w.params) (G.K 270 _ (by kernel_rfl)) rfl G.lim (codeRec_of G.K (by kernel_rfl)) rfl (λvs h=>?_) (by refine (?_:(5:Nat)<=15);decide) (Io _) λL=>?_)
 .revert vs;exact ll5 λ_ _ _ _ _=>by kernel_rfl
 .obtain ⟨f,τ,e,rfl,a⟩:=Yl ok;refine kO (M4 G (Tc G) 0 _ _ _ e) ?_;rintro _ _ ⟨rfl,rfl⟩;exact ⟨_,wQ (eL _) a (uL _),pR _,rfl⟩
def Ş(G:Gd)(F:Fx):A0 (n+3) F (.ref 270) Ju:=ş (λa h=>aDs G h) F
end
noncomputable def Du(f:bE->Nat):bE->Nat
 |[]=>0
 |a::L=>f (a::L)+Du f L
def Am{f:bE->Nat}:Du f (a::L)=f (a::L)+Du f L:=rfl
def Q7{d:Type}{f:bE->Nat}:∀(L:bE)(F:Nat->List d),(∀j,j<aC L->(F j).length=f (L.drop j))->((bX (aC L)).flatMap F).length=Du f L:=by
 intro L
 induction L with
 |nil=>intro F _;rfl
 |cons a L e=>intro F h;rw [eM,List.range_succ_eq_map,fE,XA,bD,Am,e (λj=>F (j+1)) λj g=>(h (j+1) (J8 g)).trans rfl,h 0 (mV _)];rfl
def CU:(jI X Y).length=Du (λas=>Du (Sa as) Y) X:=
 Q7 X _ λi _=>Q7 Y _ λj _=>by unfold zO;rw [bB,gV]
noncomputable def tri:Nat->Nat
 |0=>0
 |n+1=>(n+1)+tri n
def Ê:∀(as d:bE),(∀a∈as,a<0->¬a∈d)->Sa as d<=d.countP nH:=by
 intro as
 induction as with
 |nil=>intro d _;exact bI _
 |cons a as f=>
  intro d h
  cases d with
  |nil=>exact bI _
  |cons b d=>
   rw [Hi];split
   .rename_i e;subst e;have g:nH a=true:=decide_eq_true (R4.mp λq=>h a aQ q aQ);rw [lJ,if_pos g];exact ĕ (f d λx i q m=>h x (aO _ i) q (aO _ m))
   .exact bI _
def YO:∀Y:bE,(∀a∈as,a<0->¬a∈Y)->Du (Sa as) Y<=tri (Y.countP nH):=by
 intro Y
 induction Y with
 |nil=>intro _;exact bI _
 |cons b f i=>
  intro h;have g:=i λx j q m=>h x j q (aO _ m);have l1:=Ê as (b::f) h;rw [Am];by_cases d:nH b=aU
  .rw [lJ,if_pos d]at l1⊢;exact iN l1 g
  .have:Sa as (b::f)=0:=by
    cases as with
    |nil=>rfl
    |cons a as=>rw [Hi,if_neg];intro e;subst e;exact h a aQ (R5.mp λq=>d (decide_eq_true q)) aQ
   rw [this,lJ,if_neg d,dY,jN];exact g
def ŕ:∀Y:bE,¬a∈Y->Du (Sa (a::as)) Y=0:=by
 intro Y
 induction Y with
 |nil=>intro _;rfl
 |cons b f d=>intro h;rw [Am,Hi,if_neg (λe:a=b=>h (e▸aQ)),d λm=>h (aO _ m)]
def ą:∀X:bE,(∀a∈X,a<0->¬a∈Y)->Du (λas=>Du (Sa as) Y) X<=X.countP nH*tri (Y.countP nH):=by
 intro X
 induction X with
 |nil=>intro _;exact bI _
 |cons a as f=>
  intro h;have e:=f λx g=>h x (aO _ g);rw [Am,lJ];by_cases d:nH a=aU
  .rw [if_pos d,aEo,aEm,oR];exact iN e (YO Y h)
  .rw [if_neg d,jN,ŕ Y (h a aQ (R5.mp λq=>d (decide_eq_true q))),dY];exact e
noncomputable def YQ(n:Nat):Nat->Nat
 |0=>0
 |m+1=>min n (m+1)+YQ n m
def YC(m:Nat):Nat->Nat
 |0=>0
 |n+1=>YQ (n+1) m+YC m n
def OX:∀(as d:bE),Sa as d<=min as.length (aC d):=by
 intro as
 induction as with
 |nil=>intro d;exact bI _
 |cons a as e=>
  intro d
  cases d with
  |nil=>exact bI _
  |cons b d=>
   rw [Hi];have:=e d;simp only [eM];split
   .exact aT 0x2babab2b18a4083912124ce8389070cce1003 this
   .exact aT Jl
def Ŕ:∀Y:bE,Du (Sa as) Y<=YQ as.length (aC Y):=by
 intro Y
 induction Y with
 |nil=>exact bG _
 |cons b d a=>rw [Am];exact iN (OX _ _) a
def aBh:∀X:bE,Du (λas=>Du (Sa as) Y) X<=YC (aC Y) (aC X):=by
 intro X
 induction X with
 |nil=>exact bG _
 |cons a as d=>rw [Am];exact iN (Ŕ Y) d
def YB:∀n,n<6->YC n n<64:=by decide
def ň:∀n,n<4->tri n<=6:=by decide
def CV(r:Rl X Y)(a:X.countP nH<=6)(d:Y.countP nH<=3)(e:aC Y<=5):(jI X Y).length<64:=by
 rw [CU];rcases r with q|q
 .subst q;exact eK (aBh X) (YB _ (aT 0x318abc6027a6001 e))
 .have h1:=ą X q;have h2:=ň _ (WY d);have h3:=R3 a h2;exact aT 0x38c558c1c09878de30521002 h1 h3
def Iz(mk:Nat->bE):Prop:=∀n,(mk n).length<=3/\∀a∈mk n,0<=a
def HX(mk:Nat->bE)(v c:Nat):∃m,mk (3*m+c)=mk (3*v+c)/\∀a,mk (3*a+c)=mk (3*v+c)->m<=a:=Th ⟨v,rfl⟩
def fx(mk:Nat->bE)(v c:Nat):Nat:=(HX mk v c).choose
def Q1{mk:Nat->bE}:mk (3*fx mk v c+c)=mk (3*v+c):=(HX mk v c).choose_spec.1
def W3{mk:Nat->bE}(h:mk (3*m+c)=mk (3*v+c)):fx mk v c<=m:=(HX mk v c).choose_spec.2 m h
def aAu{mk:Nat->bE}:fx mk v c<=v:=W3 rfl
def sg(mk:Nat->bE)(v c:Nat):Int:= -10*(c:Int)-2*(fx mk v c:Int)
def qW(mk:Nat->bE)(v c:Nat):bE:=(if c=0 then[]else[sg mk v c-1])++mk (3*v+c)++(if c=2 then[]else[sg mk v c-2])
section
variable{mk:Nat->bE}{v b c:Nat}
def Fp(h:a∈qW mk v c):a∈mk (3*v+c)\/(c≠0/\a=sg mk v c-1)\/(c≠2/\a=sg mk v c-2):=by
 unfold qW at h;rw [cU,cU]at h;rcases h with (h|h)|h
 .split at h
  .cases h
  .exact .inr (.inl ⟨by assumption,aM.mp h⟩)
 .exact .inl h
 .split at h
  .cases h
  .exact .inr (.inr ⟨by assumption,aM.mp h⟩)
def TF(a:v<4): -10*(c:Int)-6<=sg mk v c/\sg mk v c<= -10*(c:Int):=by unfold sg;have:=aAu (mk:=mk) (v:=v) (c:=c);exact aT 0xd2516584f8543a30acf8543a309fe309200ab86012 a this
def Ő:sg mk v c<=0:=by exact Int.sub_nonpos_of_le (AC (Int.mul_nonpos_of_nonpos_of_nonneg (by decide) (iY c)) (Int.mul_nonneg (by decide) (iY _)))
def CR{c:Int}{x y:Nat}(h:c-2*(x:Int)-1=c-2*(y:Int)-2):False:=by omega
def YW(ok:Iz mk):(mk n).countP nH<=3:=bV (List.countP_le_length) (ok n).1
def Vn(ok:Iz mk)(j:v<4)(l:c<=2):AP c 3 (qW mk v c):=by
 have d:=TF (mk:=mk) (c:=c) j;have e:=Ő (mk:=mk) (v:=v) (c:=c);have f:sg mk v c-1<0:=Fi (ļ _ (by decide)) e;have g:sg mk v c-2<0:=Fi (ļ _ (by decide)) e;have i:∀{a:Int},a<0->(if nH a=aU then 1 else 0)=0:=λ{a} h=>if_neg (by simpa [nH]using h);refine ⟨?_,λa h k=>?_,λh=>?_,λh=>?_⟩
 .have:=YW ok (n:=3*v+c);have h1:(if c=0 then ([]:bE)else[sg mk v c-1]).countP nH=0:=by
   split
   .rfl
   .rw [lJ,i f];rfl
  have h2:(if c=2 then ([]:bE)else[sg mk v c-2]).countP nH=0:=by
   split
   .rfl
   .rw [lJ,i g];rfl
  unfold qW;rw [wJ,wJ,h1,h2];exact aT 0x318a7664190032766001 this
 .rcases Fp h with q|⟨_,q⟩|⟨_,q⟩
  .have:=(ok _).2 a q;exact aT 0x3618b2cf3841603f070d806b1907020 k this
  .exact aT 0xba8c59679c02b09f8382ef3844cb00360bfc6030 d q
  .exact aT 0x17518b2cf3805613f0705dfa3044cb00360bfc6030 d q
 .unfold qW;rw [if_neg (by exact aT 0x518ba4b30120381 h)];exact ⟨_,_,by rw [dM];rfl,f⟩
 .unfold qW;rw [if_neg (by exact aT 0xc317497a30127001 h:¬c=2)];exact ⟨_,_,rfl,g⟩
def vU(ok:Iz mk):(qW mk v c).length<=5:=by
 have:=(ok (3*v+c)).1;unfold qW;rw [bD,bD];have h1:(if c=0 then ([]:bE)else[sg mk v c-1]).length<=1:=by split<;>simp
 have h2:(if c=2 then ([]:bE)else[sg mk v c-2]).length<=1:=by split<;>simp
 exact aT 0x3c629e990240029389270a766003 this h1 h2
def MY(ok:Iz mk)(r:v<4):N7 (qW mk v c):=by
 intro i j hi s e f;have y:=TF (mk:=mk) (c:=c) r;have l:∀k,k<(qW mk v c).length->(qW mk v c).getD k 0<0->(k=0/\c≠0/\(qW mk v c).getD k 0=sg mk v c-1)\/(k+1=(qW mk v c).length/\(qW mk v c).getD k 0=sg mk v c-2):=by
  intro k m f;unfold qW at m f⊢;let L1:bE:=if c=0 then[]else[sg mk v c-1]
  let L2:bE:=if c=2 then[]else[sg mk v c-2]
  show (k=0/\c≠0/\(L1++mk (3*v+c)++L2).getD k 0=_)\/(k+1=(L1++mk (3*v+c)++L2).length/\(L1++mk (3*v+c)++L2).getD k 0=_);have a:k<(L1++mk (3*v+c)++L2).length:=m;have g:=f;rw [dM]at a g⊢;by_cases h1:k<aC L1
  .rw [Zc h1];by_cases d:c=0
   .have:L1=[]:=if_pos d;rw [this]at h1;exact absurd h1 (eL _)
   .have t:L1=[sg mk v c-1]:=if_neg d;rw [t]at h1⊢;have:k=0:=by simpa using h1
    subst this;exact .inl ⟨rfl,d,rfl⟩
  .by_cases h2:k<aC L1+(mk (3*v+c)).length
   .rw [show k=aC L1+(k-aC L1) by exact aT 0x25249462b40041749420ccc1002 h1,yD,Zc (by exact aT VR h1 h2)]at g;have:=(ok _).2 _ (rI (L:=mk (3*v+c)) (i:=k-aC L1) (by exact aT VR h1 h2));exact aT 0x33333333318c633330888862d65dfa314c4589070319779ca623a4b3056605866b19071b3 g this
   .rw [bD,bD]at a⊢;by_cases d:c=2
    .have:L2=[]:=if_pos d;rw [this]at a;simp at a;exact aT 0xcc9ccc9cc6238cc9c222218b5977e8c5394cb420820a0e0632ef394e533a4b30d6603a4a4082052041025 a h2
    .have h:L2=[sg mk v c-2]:=if_neg d;have n:k=aC L1+((mk (3*v+c)).length+0):=by rw [h]at a;simp at a;exact aT 0x3a315a1061040a420e2081d252041003 h2 a
     refine .inr ⟨by rw [h];simp;exact aT 0x1d18ad08388283816841841003 n,?_⟩;rw [n,yD,yD,h];rfl
 rcases l i hi f with ⟨a1,o,u⟩|⟨a1,o⟩<;>rcases l j s (by rw [<-e];exact f)with ⟨b1,p,x⟩|⟨b1,p⟩
 .exact aT 0x246315840b30566002 a1 b1
 .rw [u,p]at e;exact aT 0x90c56105dfa309e7112 e
 .rw [o,x]at e;exact aT 0x120c56105de713f46112 e
 .exact aT 0x366315880b0a0e258507003 a1 b1
def YV(ok:Iz mk)(g:v<4)(i:b<4):Rl (qW mk v c) (qW mk b c):=by
 by_cases e:mk (3*v+c)=mk (3*b+c)
 .refine .inl ?_;have:=gO (W3 (Q1.trans e.symm)) (W3 (Q1.trans e));unfold qW sg;rw [e,this]
 .refine .inr λa h d m=>?_;have f:fx mk v c≠fx mk b c:=λq=>e (by rw [<-Q1 (mk:=mk),<-Q1 (mk:=mk) (v:=b),q]);rcases Fp h with q|⟨_,q⟩|⟨_,q⟩
  .have:=(ok _).2 a q;exact aT FI d this
  .rcases Fp m with z|⟨_,z⟩|⟨_,z⟩
   .have:=(ok _).2 a z;exact aT FI d this
   .unfold sg at q z;exact aT 0x8524128caef3be150e8c315de77c2a0d186274961022 f q z
   .unfold sg at q z;exact CR (q.symm.trans z)
  .rcases Fp m with z|⟨_,z⟩|⟨_,z⟩
   .have:=(ok _).2 a z;exact aT FI d this
   .unfold sg at q z;exact CR (z.symm.trans q)
   .unfold sg at q z;exact aT 0x214904a32bbf467c2a1d1862bbf467c2a0d186274961022 f q z
end
noncomputable def nO(T0 T1:bE)(X:Nat->bE):bE:=pY (X 0) T0 (X 1) T1 (X 2)
def Dt(Y X Z:Nat->bE)(c:Nat):List I5:=Bt (Y c) (X c) (Z c) (kF (X c) (Y c)) (kF (Z c) (Y c))
def Ra(T0 T1:bE)(Y X Z:Nat->bE):List I5:=Dt Y X Z 0++T0.map kS++Dt Y X Z 1++T1.map kS++Dt Y X Z 2
structure Ry(A B:bE):Prop where
 a:aC A<200
 b:aC B<200
 f:(bl A B (0,aC A,0,aC B)).length<64
structure Ĉ(T0 T1:bE)(Y X Z:Nat->bE):Prop where
 wk:∀c,c<3->Uo (Y c) (X c) (Z c)
 mg:Z0 (nO T0 T1 Y) (nO T0 T1 X) (nO T0 T1 Z) (Yn (nO T0 T1 X) (nO T0 T1 Y)) (Yn (nO T0 T1 Z) (nO T0 T1 Y))
 eq:Bb (nO T0 T1 Y) (nO T0 T1 X) (nO T0 T1 Z) (uN (Yn (nO T0 T1 X) (nO T0 T1 Y)) (Yn (nO T0 T1 Z) (nO T0 T1 Y))) 0 0 0=Ra T0 T1 Y X Z
 jd:Uq (Ra T0 T1 Y X Z)
 jc:∀c,c<3->Uq (Dt Y X Z c)
 jn:jn (Ra T0 T1 Y X Z)=nO T0 T1 λc=>jn (Dt Y X Z c)
 ml:Ry (nO T0 T1 X) (nO T0 T1 Y)
 mr:Ry (nO T0 T1 Z) (nO T0 T1 Y)
def LX(A B C:bE)(L:jU)(o p q:Nat):(Bb A B C L o p q).length<=2*aC L+1:=by simp only [Do,bD];have:=zJ (A:=A) (B:=B) (C:=C) L o p q;have:=Md (A:=A) (B:=B) (C:=C) (o:=(Pi L (o,p,q)).1) (p:=(Pi L (o,p,q)).2.1) (q:=(Pi L (o,p,q)).2.2) (k:=aC A) (i:=aC B) (j:=aC C);exact aT 0x38c5283c03a3204049c4980746003 ‹_› this
def Sml(n:Nat)(t:I5):Prop:=t.1.length<=n/\t.2.1.length<=n/\t.2.2.length<=n
def Sv(h:aC L<=n):(uH L a b).length<=n:=by unfold uH;simp only [zH,kE];exact aT 0x2735273718a4a6024a614ce01ccc1004 h
def DE(b:aC A<=n)(c:aC B<=n)(d:aC C<=n):∀t∈pc A B C o p q k i j,Sml n t:=by
 intro t a;unfold pc at a;split at a
 .cases a
 .simp only [aM.mp a];exact ⟨Sv b,Sv c,Sv d⟩
def LW(b:aC A<=n)(c:aC B<=n)(d:aC C<=n)(a:1<=n):∀(L:jU)(o p q:Nat),∀t∈Bb A B C L o p q,Sml n t:=by
 intro L
 induction L with
 |nil=>intro o p q;exact DE b c d
 |cons e r f=>
  obtain ⟨k,i,j⟩:=e;intro o p q t g;rcases cU.mp g with h|h
  .exact DE b c d t h
  .rcases aR.mp h with h|h
   .simp only [h];exact ⟨a,a,a⟩
   .exact f _ _ _ t h
def DF:∀(l:jU)(lo:Nat),N6 l->(∀e∈l,0<e.2.2/\lo<=e.2.1/\e.2.1+e.2.2<=n)->aC l<=n-lo:=by
 intro l
 induction l with
 |nil=>intro lo _ _;exact bI _
 |cons e l b=>
  intro lo h1 h2;obtain ⟨c,d⟩:=dR.mp h1;have h0:=h2 e aQ;have:=b (lo+1) d λf a=>by exact aT 0xf442462c6246829889220e1514c663123414c44902a298c922002631234004910540306 h0 (c f a) (h2 f (aO _ a))
  exact aT 0x41c838230a18c52041ca7484a763122410a6494c3510d330833320e1005 h0 this
def JY:(bl A B (0,aC A,0,aC B)).length<=aC B:=by have g:=Kh (A:=A) (B:=B);exact DF (Af A B (aC A) 0 (aC A) 0 (aC B)) 0 (Rk _ _ _ _ _ (aT OG)) λe a=>⟨(g.run e a).1,bI _,(g.run e a).2.b1⟩
def ZS:∀e∈Yn A B,e.2.1+e.2.2<=aC B:=λe a=>by
 refine nn λb=>?_;obtain ⟨_,_,h⟩:=jA.mp (Cp).1;refine b ?_;rcases cU.mp a with q|q
 .exact h e q _ aQ
 .refine (aM.mp q)▸?_;exact bG _
structure AO(n m:Nat)(X Y:Nat->bE):Prop where
 h:∀c,c<3->AP c n (X c)/\(X c).length<=m/\Rl (X c) (Y c)
structure Bse(Y:Nat->bE):Prop where
 h:∀c,c<3->AP c 3 (Y c)/\(Y c).length<=5/\N7 (Y c)
section
variable{T0 T1:bE}{Y X Z:Nat->bE}
def Q2(h0:N4 T0)(h1:N4 T1):(nO T0 T1 X).length=(X 0).length+7+(X 1).length+7+(X 2).length:=F7 h0.len h1.len
def Nh(h0:N4 T0)(h1:N4 T1)(h:∀c,c<3->(X c).length<=10):(nO T0 T1 X).length<=44:=by have a:=h 0 (by decide);have b:=h 1 (by decide);have c:=h 2 (by decide);clear h;rw [Q2 h0 h1];exact aT 0x78c53ce990247cc80a3e602747127470a747003 a b c
def YE(h0:N4 T0)(h1:N4 T1)(j:Bse Y)(k:AO 6 10 X Y)(l:AO 6 10 Z Y):Ĉ T0 T1 Y X Z:=by
 have p:=j.h 0 (by decide);have r:=j.h 1 (by decide);have s:=j.h 2 (by decide);have x0:=k.h 0 (by decide);have x1:=k.h 1 (by decide);have x2:=k.h 2 (by decide);have z0:=l.h 0 (by decide);have z1:=l.h 1 (by decide);have z2:=l.h 2 (by decide);have m:=Nh (X:=Y) h0 h1 λc i=>bV (j.h c i).2.1 (by decide);have v:=Nh (X:=X) h0 h1 λc i=>(k.h c i).2.1;have x:=Nh (X:=Z) h0 h1 λc i=>(l.h c i).2.1;have y:SN (Y 0) T0 (Y 1) T1 (Y 2):=⟨h0,h1,xD p.1 (by decide),xD r.1 (by decide),xD s.1 (by decide)⟩;have I:=O4 (⟨h0,h1,x0.1,x1.1,x2.1⟩) y p.2.2 r.2.2 s.2.2 x0.2.2 x1.2.2 x2.2.2 Kh (tW) (tW) (tW);have ok:∀{W:Nat->bE},AO 6 10 W Y->∀c,c<3->Oa (W c) (Y c):=λh c i=>by have a:=h.h c i;have b:=j.h c i;exact ⟨bV a.2.1 (by decide),bV b.2.1 (by decide),CV a.2.2 a.1.cnt b.1.cnt b.2.1⟩
 have wk:∀c,c<3->Uo (Y c) (X c) (Z c):=λc i=>⟨ok k c i,ok l c i⟩;have jc:∀c,c<3->Uq (Dt Y X Z c)/\(Dt Y X Z c).length<=20/\∀t∈Dt Y X Z c,Sml 10 t:=λc i=>by have a:=k.h c i;have b:=j.h c i;have d:=l.h c i;have z:=LW (A:=Y c) (B:=X c) (C:=Z c) (n:=10) (bV b.2.1 (by decide)) a.2.1 d.2.1 (by decide) (qT (kF (X c) (Y c)) (kF (Z c) (Y c)) 0 (Y c).length) 0 0 0;have D:(Dt Y X Z c).length<=20:=bV (bV (LX (Y c) (X c) (Z c) (qT (kF (X c) (Y c)) (kF (Z c) (Y c)) 0 (Y c).length) 0 0 0) (ĕ (LM 2 (bV (C7 (f:=kF (X c) (Y c)) (g:=kF (Z c) (Y c)) (Y c).length 0) b.2.1)))) (by decide);exact ⟨⟨by exact aT 0x18c538cecc04f346001 D,λt o=>by have:=z t o;exact aT υ this⟩,D,z⟩
 refine ⟨wk,⟨bV m (by decide),bV v (by decide),bV x (by decide),?_,ZS⟩,?_,?_,λc i=>(jc c i).1,?_,⟨eK v (by decide),eK m (by decide),?_⟩,⟨eK x (by decide),eK m (by decide),?_⟩⟩
 .rw [Kf];exact bV (C7 _ _) (bV m (by decide))
 .rw [Kf];have:=LY h0.len h1.len I (O4 (⟨h0,h1,z0.1,z1.1,z2.1⟩) y p.2.2 r.2.2 s.2.2 z0.2.2 z1.2.2 z2.2.2 Kh (tW) (tW) (tW)) (λe u=>Nz tW tW e u) (λe u=>Nz tW tW e u);refine aB8 this ?_;unfold Ra Dt;simp only [dM]
 .have F:=jc 0 (by decide);have G:=jc 1 (by decide);have H:=jc 2 (by decide);have t0:=h0.len;have t1:=h1.len;refine ⟨?_,λt o=>?_⟩
  .unfold Ra;simp only [bD,bB];exact bV (iN (iN (iN (iN F.2.1 (oQ t0)) G.2.1) (oQ t1)) H.2.1) (by decide)
  .have J:Sml 10 t:=by
    unfold Ra at o;simp only [cU,jJ]at o;rcases o with (((q|⟨a,_,q⟩)|q)|⟨a,_,q⟩)|q
    .exact F.2.2 t q
    .refine q▸?_;exact ⟨by show (1:Nat)<=10;decide,by show (1:Nat)<=10;decide,by show (1:Nat)<=10;decide⟩
    .exact G.2.2 t q
    .refine q▸?_;exact ⟨by show (1:Nat)<=10;decide,by show (1:Nat)<=10;decide,by show (1:Nat)<=10;decide⟩
    .exact H.2.2 t q
   exact aT υ J
 .unfold Ra nO pY;simp only [zR,PK,dM]
 .exact eK JY (eK m (by decide))
 .exact eK JY (eK m (by decide))
def RW(f:Bse Y)(g:AO 3 5 X Y)(h:AO 3 5 Z Y):AO 6 10 (λc=>jn (Dt Y X Z c)) Y:=⟨λc e=>by have a:=g.h c e;have b:=f.h c e;have d:=h.h c e;obtain ⟨i,j⟩:=BJ b.1 a.1 d.1 a.2.2 d.2.2 (tW) (tW);refine ⟨i,?_,j⟩;have:=U8 (λ_=>aU) (F9 (tW (X:=X c)) (tW (X:=Z c)) (bG _) (bG _) (Y c).length 0 0 0 0 (aT We) (aT Wd) (aT Jl) (aT Jl) (λ_ _ _ _=>bI _) (λ_ _ _ _=>bI _));simp only [List.countP_true]at this;exact bV this (iN a.2.1 d.2.1)⟩
def JE(c:AO 3 5 X Y):AO 6 10 X Y:=⟨λk a=>by have:=c.h k a;exact ⟨xD this.1 (by decide),bV this.2.1 (by decide),this.2.2⟩⟩
end
def ÿ{mk:Nat->bE}(ok:Iz mk)(a:b<4):Bse (qW mk b):=⟨λc d=>⟨Vn ok a (aT 0x318a74602b66001 d),vU ok,MY ok a⟩⟩
def JF{mk:Nat->bE}(ok:Iz mk)(a:v<4)(d:b<4):AO 3 5 (qW mk v) (qW mk b):=⟨λc e=>⟨Vn ok a (aT 0x318a74602b66001 e),vU ok,YV ok a d⟩⟩
open Classical in
def It:Da:=λc us=>if h:∃a:E3×bE,c=.mat a.1/\us=[vL a.2]then aG (.mat {h.choose.1 with a:=some h.choose.2},.none)else aH
open Classical in
def Ir:Da:=λc us=>if h:∃a:E3×bE,(c=.mat a.1/\us=[vL a.2])/\a.2.length<200 then aG (.mat {h.choose.1 with b:=some h.choose.2},.none)else aH
structure GmA where
 m:E3
 A:bE
 B:bE
def GmA.Ok(a:GmA)(c:fQ)(us:cA):Prop:=c=.mat a.m/\us=[]/\a.m.a=aG a.A/\a.m.b=aG a.B/\Ry a.A a.B
open Classical in
def Iq:Da:=λc us=>if h:∃a:GmA,a.Ok c us then aG (.mat h.choose.m,qK h.choose.A h.choose.B)else aH
def RJ(m:E3)(A:bE):It (.mat m) [vL A]=aG (.mat {m with a:=some A},.none):=by have h:∃a:E3×bE,fQ.mat m=.mat a.1/\[vL A]=[vL a.2]:=⟨(m,A),rfl,rfl⟩;unfold It;refine (dif_pos h)▸?_;have q:=h.choose_spec;revert q;generalize h.choose=a;rintro ⟨b,c⟩;refine (fQ.mat.inj b)▸?_;exact (qZ (qB c).1)▸rfl
def RI(m:E3)(c:aC A<200):Ir (.mat m) [vL A]=aG (.mat {m with b:=some A},.none):=by have h:∃a:E3×bE,(fQ.mat m=.mat a.1/\[vL A]=[vL a.2])/\a.2.length<200:=⟨(m,A),⟨rfl,rfl⟩,c⟩;unfold Ir;refine (dif_pos h)▸?_;have q:=h.choose_spec;revert q;generalize h.choose=a;rintro ⟨⟨d,e⟩,_⟩;refine (fQ.mat.inj d)▸?_;exact (qZ (qB e).1)▸rfl
def RH(e:m.a=aG A)(f:m.b=aG B)(ok:Ry A B):Iq (.mat m) []=aG (.mat m,qK A B):=by have h:∃a:GmA,a.Ok (.mat m) []:=⟨⟨m,A,B⟩,rfl,rfl,e,f,ok⟩;unfold Iq;refine (dif_pos h)▸?_;have q:=h.choose_spec;revert q;generalize h.choose=a;rintro ⟨g,_,c,d,_⟩;rw [<-fQ.mat.inj g]at c d⊢;rw [e]at c;rw [f]at d;simp only [eR c,eR d]
section
variable{n:Nat}
def op1(G:Gd):∀c0 us c1 r,dH us=aU->It c0 us=aG (c1,r)->qQ c0/\vD (n+4) (.ref 174) c0 us (λc b=>c=c1/\b=r):=λc0 us c1 r _ e=>by
 unfold It at e;split at e
 .rename_i h;cases e;have q:=h.choose_spec;revert q;generalize h.choose=a;rintro ⟨rfl,rfl⟩;exact ⟨trivial,mS1 G a.1 a.2⟩
 .cases e
def op2(G:Gd):∀c0 us c1 r,dH us=aU->Ir c0 us=aG (c1,r)->qQ c0/\vD (n+4) (.ref 181) c0 us (λc b=>c=c1/\b=r):=λc0 us c1 r _ e=>by
 unfold Ir at e;split at e
 .rename_i h;cases e;have q:=h.choose_spec;revert q;generalize h.choose=a;rintro ⟨⟨rfl,rfl⟩,d⟩;exact ⟨trivial,mS2 G a.1 a.2 d⟩
 .cases e
def opG(G:Gd):∀c0 us c1 r,dH us=aU->Iq c0 us=aG (c1,r)->qQ c0/\vD (n+4) (.ref 203) c0 us (λc b=>c=c1/\b=r):=λc0 us c1 r _ e=>by
 unfold Iq at e;split at e
 .rename_i h;cases e;have q:=h.choose_spec;revert q;generalize h.choose=a;rintro ⟨rfl,rfl,d,f,ok⟩;exact ⟨trivial,Ŵ G a.m d f ok.a ok.b ok.f⟩
 .cases e
end
def ń:cA:=[.none,vL [],vL [],.bool bR]
open Classical in
def LG:cA->Option E3:=λus=>if us=ń then aG ⟨aG [],aG [],bR⟩else aH
def ö:LG ń=aG ⟨aG [],aG [],bR⟩:=if_pos rfl
section
variable{n:Nat}{F:Fx}
def aCv(G:Gd):Zz (n+4) (.ref 160) (.attrs []) ń (λc r=>r=.none/\∃as,c=.attrs as/\Bo ⟨aG [],aG [],bR⟩ as):=
 mIn G (aG []) (aG []) bR (by decide) rfl rfl (λD Y h=>bN.nil) (λK vs h=>by revert vs;exact ll5 λ_ _ _ _ _=>by kernel_rfl)
def aCp(G:Gd)(fk:hO F):A0 (n+5) F (.ref 242) (Ad LG):=
 DH fk G.K (by kernel_rfl) (by kernel_rfl) (by kernel_rfl) λus m I e A Y h tk x c vs a1 g i j k l p s t=>by
  unfold LG at e;split at e
  .rename_i u;subst u;cases e;refine nR (aCv G A Y h tk x c vs a1 g i j k l p s t) ?_;intro r d q;have yH:∀v,(Zy Y h c (λc1 r=>r=V.none/\∃as,c1=fQ.attrs as/\Bo ⟨aG [],aG [],bR⟩ as) v d)->v=.none/\∃h' a,d=iZ h' a/\(∀b o,b≠c->h.get? b=aG o->h'.get? b=aG o)/\(tI h' c)/\iQ [] (gR [c] Y) h' c (.mat ⟨aG [],aG [],bR⟩):=by rintro v ⟨h',a,c1,r,y,z,B,J,L,C,D,rfl,as,rfl,H⟩;exact ⟨D,h',a,y,z,B,as,H,C⟩
   cases r with
   |error e=>exact q.elim
   |ok f=>cases f<;>first|exact yH _ q|exact q.elim|cases q
  .cases e
end
noncomputable def Pk:bE:=[15,21,35,22,14,15,8,18,44]
noncomputable def ó(sc:bE):bE:=sc++Pk
noncomputable def tq(s:Int)(t k:Nat):Int:=(s.fdiv (3^(7*t*(s.fmod 2).toNat+k))).fmod 3
def tt(s:Int)(t:Nat):bE:=(bX 7).map (tq s t)
def TC(s:Int)(t:Nat):N4 (tt s t):=⟨by rfl,λa h=>by obtain ⟨k,_,rfl⟩:=jJ.mp h;exact Ba _ (by decide)⟩
def zK(n:Nat)(h:n<=1000000):gH (aS (gK (.int (n:Int))) bP) σ=aG ((bX n).map vN,σ):=by rw [Ka (bH rfl cW) h,Ly]
def Lr(h:tL a<=64):D7 (.int a) (.int b) σ=aG (.int (a*b),σ):=by show (if tL a<=64 then aG (V.int (a*b),σ)else aH)=_;rw [if_pos h]
def Dq(h:b≠0):uW (.int a) (.int b) σ=aG (.int (a.fmod b),σ):=by show (if b≠0 then aG (V.int (a.fmod b),σ)else aH)=_;rw [if_pos h]
def Ls(h:b≠0)(c:b.natAbs.log2<9000):Ie (.int a) (.int b) σ=aG (.int (a.fdiv b),σ):=by refine (?_:(if b≠0/\uG a b=bR then aG (V.int (a.fdiv b),σ)else aH)=_);rw [if_pos ⟨h,PyProof.noPylong_of_log2 c⟩]
def BP(h:a.natAbs<2^64)(b:e<=1000):T6 (.int a) (vN e) σ=aG (.int (a^e),σ):=by refine (?_:(if 0<=(e:Int)/\(e:Int)<=1000000/\a.natAbs<2^64 then aG (V.int (a^(e:Int).toNat),σ)else aH)=_);rw [if_pos ⟨iY e,aT 0x631b6319cf3db35409c77e7001 b,h⟩,mY]
def aCm:∀e,e<14->((3:Int)^e)≠0/\((3:Int)^e).natAbs.log2<9000:=by decide
def aCn:∀e,e<4->((2:Int)^e)≠0/\((2:Int)^e).natAbs.log2<9000:=by decide
def aBc:∀t,t<2->tL ((7*t:Nat):Int)<=64:=by decide
def Kq(A:bE):uS (A.map V.int)=aG A:=by
 induction A with
 |nil=>rfl
 |cons a r b=>show ob (uS (r.map V.int)) _=_;rw [b];rfl
def fm2(s:Int):∃m:Nat,m<2/\s.fmod 2=(m:Int)/\(s.fmod 2).toNat=m:=by have h1:=Ba s (by decide:(0:Int)<2);exact ⟨(s.fmod 2).toNat,(aEf h1).mpr (Int.fmod_lt_of_pos s (by decide:(0:Int)<2)),aT 0x9492518dea00d8269ecc6010 h1,rfl⟩
def XZ(c:(l0.all λp=>decide (p.1<100))=aU)(h2:lk l0 2=aG (.int s)):
  lI 100 (gH (aS (gK (.int 2)) bP)) (cG 100) (kD (lI 102 (gH (aS (gK (.int 7)) bP)) (cG 102) (kD (bJ uW (bJ Ie (aP 2) (bJ T6 (gK (.int 3)) (bJ fF (bJ D7 (bJ D7 (gK (.int 7)) (aP 100)) (bJ uW (aP 2) (gK (.int 2)))) (aP 102)))) (gK (.int 3)))))) ⟨l0,cs,n⟩=aG (.lst [vL (tt s 0),vL (tt s 1)],⟨l0,cs,n⟩):=by
 have z:lim=1048576:=rfl;refine nn λo=>?_;obtain ⟨m,r,u,d⟩:=fm2 s;refine o ?_;refine (xU (σ:=⟨l0,cs,n⟩) vN (λt=>[vL (tt s t)]) (zK 2 (by decide)) c (λt b=>?_) Yw).trans rfl;have b:=hV.mp b;refine Dr ?_;have h:(((Df ⟨l0,cs,n⟩ 100 (vN t)).loc).all λp=>decide (p.1<102))=true:=by refine (?_:((l0++[(100,vN t)]).all λp=>decide (p.1<102))=aU);simp only [ĝ,dT];refine ⟨dO.mpr λp v=>decide_eq_true ?_,rfl⟩;have:=of_decide_eq_true (dO.mp c p v);exact aT 0xc62af70e057387001 this
 refine (xU (σ:=Df ⟨l0,cs,n⟩ 100 (vN t)) (x:=102) (l:=bX 7) vN (λk=>[V.int (tq s t k)]) (zK 7 (by decide)) h (λk e=>?_) lm7).trans ?_
 .have e:=hV.mp e;refine Dr ?_;let σ2:=Df (Df ⟨l0,cs,n⟩ 100 (vN t)) 102 (vN k);have k2:lk σ2.loc 2=aG (.int s):=sC (sC h2);have y:bJ D7 (gK (.int 7)) (aP 100) σ2=aG (vN (7*t),σ2):=cQ rfl (bS (sC (D3 (σ:=⟨l0,cs,n⟩) c))) ((Lr (by decide)).trans (by refine (?_:aG (V.int ((7:Int)*(t:Int)),σ2)=aG (V.int ((7*t:Nat):Int),σ2));rfl));have i:7*t*m+k<14:=by have:7*t*m<=7*1*1:=R3 (R3 (bG 7) (by exact aT 0x18c52702b46001 b)) (by exact aT 0x18c52702b46001 r);exact Nat.add_lt_add_of_le_of_lt this e
  have j:=aCm _ i;refine (cQ (cQ (bS k2) (cQ (f:=T6) (g:=gK (.int 3)) (σ:=σ2) rfl (cQ (cQ y (cQ (bS k2) rfl ((Dq (by decide)).trans (by rw [u];rfl)):bJ uW (aP 2) (gK (.int 2)) σ2=aG (vN m,σ2)) ((Lr (aBc t b)).trans (by rfl))) (bS (D3 h)) tM) (BP (a:=3) (by decide) (by exact aT 0xc629c77e74040af1d01002 i))) (Ls j.1 j.2)) rfl (Dq (by decide))).trans ?_;unfold tq;rw [d]
 .rfl
noncomputable def Lv:V:=.lst ((bX 4).map λv=>.lst ((bX 3).map λc=>.ref (3*v+c)))
def Ń(mk:Nat->bE):V:=.lst ((bX 4).map λv=>.lst ((bX 3).map λc=>vL (mk (3*v+c))))
noncomputable def Nq:List (Nat×fQ):=[(11,.list []),(10,.list []),(9,.list []),(8,.list []),(7,.list []),(6,.list []),(5,.list []),(4,.list []),(3,.list []),(2,.list []),(1,.list []),(0,.list [])]
structure AK(cs:List (Nat×fQ))(mk:Nat->bE):Prop where
 k:∀p∈cs,p.1<12/\∃l:bE,p.2=.list (l.map V.int)
 g:∀n,n<12->lk cs n=aG (.list ((mk n).map V.int))
 ok:Iz mk
def Æ:∀(N n:Nat),n<N->lk ((bX N).reverse.map λk=>(k,fQ.list [])) n=aG (.list []):=by
 intro N
 induction N with
 |zero=>intro n h;exact absurd h (eL _)
 |succ N a=>
  intro n h;simp only [rP,List.reverse_append,List.reverse_singleton,List.singleton_append,cE,eP];split
  .rfl
  .exact a n (by exact aT EX h ‹_›)
def aCr:AK Nq λ_=>[]:=⟨λp b=>by
  simp only [Nq,aR,uB,or_false]at b;rcases b with rfl|rfl|rfl|rfl|rfl|rfl|rfl|rfl|rfl|rfl|rfl|rfl<;>exact ⟨by decide,[],rfl⟩,
 λn c=>Æ 12 n c,
 λn=>⟨bI _,λa h=>nomatch h⟩⟩
def EB:∀{loc:List (Nat×fQ)},p∈put x v loc->p=(x,v)\/p∈loc:=by
 intro loc
 induction loc with
 |nil=>intro h;exact .inl (aM.mp h)
 |cons q r a=>
  intro h;rw [L4]at h;split at h
  .rcases aR.mp h with z|z
   .exact .inl z
   .exact .inr (aO _ z)
  .rcases aR.mp h with z|z
   .exact .inr (z▸aQ)
   .exact (a z).imp id (aO _)
def AK.add{mk:Nat->bE}(h:AK cs mk)(b:n<12)(c:(mk n).length<3)(d:0<=x):AK (put n (.list ((mk n).map V.int++[.int x])) cs) (λm=>if m=n then mk n++[x]else mk m):=by
 have e:(mk n).map V.int++[.int x]=(mk n++[x]).map V.int:=by simp only [dK];rfl
 refine ⟨λp f=>?_,λm g=>?_,λm=>?_⟩
 .rcases EB f with q|q
  .refine q▸?_;exact ⟨b,_,by rw [e]⟩
  .exact h.k p q
 .rw [kA];split
  .rw [e]
  .exact h.g m g
 .split
  .refine ⟨by simp only [bD];exact aT 0xc629d990702b66001 c,λa i=>?_⟩;rcases cU.mp i with q|q
   .exact (h.ok n).2 a q
   .simp only [aM.mp q];exact d
  .exact h.ok m
def AK.stay{mk:Nat->bE}(h:AK cs mk):oH 12 (rZ uY 12 cs) cs=aG cs:=by
 have a:∀l:List (Nat×fQ),(∀p∈l,p.1<12/\∃l:bE,p.2=.list (l.map V.int))->oH 12 (rZ uY 12 cs) l=aG l:=by
  intro l
  induction l with
  |nil=>intro _;rfl
  |cons p r b=>intro h;obtain ⟨h1,l,h2⟩:=h p aQ;obtain ⟨x,c⟩:=p;dsimp only at h1 h2;subst h2;exact gL h1 (gE (jD (tD l))) (b λq d=>h q (aO _ d))
 exact a cs h.k
def NX{g:V->pM}:∀l:List (Nat×fQ),oH 0 g l=aG []:=by
 intro l
 induction l with
 |nil=>rfl
 |cons p r a=>obtain ⟨x,c⟩:=p;exact pU (eL _) a
def WQ{b c:Type}{x:Option (b×St)}{f:b->St->Option c}{a:b}{r:Option c}(e:x=aG (a,σ))(d:f a σ=r):bd x f=r:=by rw [e];exact d
def Yq(c:(l0.all λp=>decide (p.1<100))=aU):lI 100 (gH (aS (gK (.int 4)) bP)) (cG 100) (kD (pW (aS (kR bP) (aS (kR bP) (aS (kR bP) bP))))) ⟨l0,[],0⟩=aG (Lv,⟨l0,Nq,12⟩):=by
 have d:∀a b:Nat,put 100 (vN a) (l0++[(100,vN b)])=l0++[(100,vN a)]:=λa b=>(Fo c).1;have f:gH (aS (gK (.int 4)) bP) ⟨l0,[],0⟩=aG ([vN 0,vN 1,vN 2,vN 3],⟨l0,[],0⟩):=zK 4 (by decide);have e:yJ (cG 100) (kD (pW (aS (kR bP) (aS (kR bP) (aS (kR bP) bP))))) [vN 0,vN 1,vN 2,vN 3] ⟨l0,[],0⟩=aG ([.lst [.ref 0,.ref 1,.ref 2],.lst [.ref 3,.ref 4,.ref 5],.lst [.ref 6,.ref 7,.ref 8],.lst [.ref 9,.ref 10,.ref 11]],⟨l0++[(100,vN 3)],Nq,12⟩):=by refine (d 3 2)▸?_;refine (d 2 1)▸?_;refine (d 1 0)▸?_;refine ((Fo (a:=vN 0) (b:=vN 0) c).2)▸?_;rfl
 refine WQ f (WQ e ((if_pos (by decide)).trans ?_));unfold Ec;rw [(Np (z:=[(100,vN 3)]) (if_neg (eG 100)) c)];rfl
def XO:uW (vN k) (.int 3) σ=aG (vN (k%3),σ):=by
 rw [show vN k=V.int (k:Int)from rfl,Dq (by decide)];have:(k:Int).fmod 3=((k%3:Nat):Int):=by rw [R6 _ (by decide)];rfl
 refine this▸?_;rfl
def NU(h:v<4):((bX 4).map λv=>V.lst ((bX 3).map λc=>V.ref (3*v+c)))[v]?=aG (V.lst ((bX 3).map λc=>V.ref (3*v+c))):=by simp only [dL,nS h];rfl
def DY(h:c<3):((bX 3).map λc=>V.ref (3*v+c))[c]?=aG (V.ref (3*v+c)):=by simp only [dL,nS h];rfl
def DX:rZ uY 12 cs Lv=aG Lv:=rfl
section
variable{d0:mU}{d1 d2 d3:Da}{d4 d5 d6 d7:mU}{D:bE}{TT:V}
def CT(D:bE)(TT:V)(x:tH)(cs:List (Nat×fQ)):St:=⟨(1,vL D)::(3,TT)::(4,Lv)::x,cs,12⟩
def JMk(D:bE)(TT:V)(x:tH)(τ:St):Prop:=∃cs mk,AK cs mk/\τ=CT D TT x cs
def frM{mk:Nat->bE}(a:TT.pure=aU)(h:AK cs mk)(b:Jj (rZ uY 12 cs) x=aG x)(e:AG xs τ=CT D TT x cs):I0 xs 12 (JMk D TT x) τ:=
 ⟨CT D TT x cs,B3 e (cL (dP (eO D)) (cL (dP a) (cL DX b))) h.stay,cs,mk,h,rfl⟩
def Ì{mk:Nat->bE}{Rt:V->gZ}(d:TT.pure=aU)(l:aC D<=1000)(m:k<aC D)(b:v<4)(h:AK cs mk):
  Go (Wx d0 d1 d2 d3 d4 d5 d6 d7 12 (CT D TT [(5,vN k),(6,vN v)] cs)) (xI [1,3,4,5] 12 (JMk D TT [(5,vN k)]) (λ_=>False) Rt):=by
 have e:lim=1048576:=rfl;let σ:=CT D TT [(5,vN k),(6,vN v)] cs;have f:k%3<3:=SV _ (by decide);have g:bJ fT (aP 1) (aP 5) σ=aG (.int (D.getD k 0),σ):=cQ (bS rfl) (bS rfl) (nE (Ft 0 m) (by rw [bB];exact aT ĩ l e));have cel:bJ fT (bJ fT (aP 4) (aP 6)) (bJ uW (aP 5) (gK (.int 3))) σ=aG (.ref (3*v+k%3),σ):=cQ (cQ (bS rfl) (bS rfl) (nE (NU b) (by decide))) (cQ (bS rfl) rfl XO) (nE (DY f) (by exact Fu));have i:3*v+k%3<12:=aT VJ b f;have c:=h.g _ i;have j:=aCn v b;refine rG (jV (Gk (lP (cQ (cQ (cQ g (cQ rfl (bS rfl) (BP (by decide) (aT 0xc629c77e702b86001 b))) (Ls j.1 j.2)) rfl (Dq (by decide))) rfl (BX _ _))) λ_=>Gk (lP (cQ (iK (bH cel cW) (BQ c (by rw [bB];exact aT 0x163148029d982bc6318c6386002 e ((h.ok (3*v+k%3)).1)))) rfl U9)) λ_=>rfl) ?_);generalize decide (((D.getD k 0).fdiv (2^v)).fmod 2=1)=b1;by_cases a:(b1&& (decide (((mk (3*v+k%3)).map V.int).length<3)&&aU))=aU
 .rw [if_pos a];simp only [dT,decide_eq_true_iff,and_true,bB]at a;exact rH (xR cel (nX c rfl) (bH (cQ (cQ g rfl (Ls (by decide) (by decide))) rfl (Dq (by decide))) cW) (lQ c (by rw [bB];exact bV (iG a.2) (by decide)))) (frM d (h.add i a.2 (Ba _ (by decide))) rfl rfl)
 .rw [if_neg a];exact kI (frM d h rfl rfl)
def Í{mk:Nat->bE}{Rt:V->gZ}(b:TT.pure=aU)(d:aC D<=1000)(e:k<aC D)(h:AK cs mk):
  Go (Na d0 d1 d2 d3 d4 d5 d6 d7 12 (CT D TT [(5,vN k)] cs)) (xI [1,3,4] 12 (JMk D TT []) (λ_=>False) Rt):=by
 refine gF (σ':=CT D TT [(5,vN k)] cs) rfl ?_;refine pL (λ_=>False) (λ_=>JMk D TT [(5,vN k)]) (zK 4 (by decide)) (by refine (?_:(12:Nat)<=12);decide) ⟨cs,mk,h,rfl⟩ (λi m v a f=>?_) (λτ' hd=>?_)
 .replace a:=(dL)▸a
  cases hi:(bX 4)[i]? with
  |none=>rw [hi]at a;cases a
  |some j=>replace a:=hi▸a;cases a;obtain ⟨g,c⟩:=cF.mp hi;rw [wH]at c;subst c;refine nn λl=>?_;obtain ⟨cs,mk,h,rfl⟩:=f;refine l ?_;exact ⟨CT D TT [(5,vN k),(6,vN i)] cs,rfl,Ì b d e g h⟩
 .obtain ⟨cs,mk,h,rfl⟩:=hd.resolve_right id;exact frM b h rfl rfl
def ZO{mk:Nat->bE}(a:TT.pure=aU)(h:AK cs mk):WE 0 ⟨[(3,TT),(4,Lv)],cs,12⟩=aG ⟨[(3,TT),(4,Ń mk)],[],0⟩:=
 Ni (cL (dP a) (cL (Vm rfl (Ha λv b=>Vm rfl (Ha λc d=>CX (eL _) (h.g _ (by have:=hV.mp b;have:=hV.mp d;exact aT VJ ‹_› this)) (tD _)))) rfl)) (NX _)
end
def wT{b:Type}{f:b->V}(h:∀a,(f a).pure=aU):∀l:List b,dH (l.map f)=true:=by
 intro l
 induction l with
 |nil=>rfl
 |cons a r c=>simp only [cE,eN,h a,c];rfl
def G0(h:dH l=aU):(V.lst l).pure=true:=h
def Oy(mk:Nat->bE):(Ń mk).pure=true:=G0 (wT (λv=>G0 (wT (λc=>eO _) _)) _)
def ZN{mk:Nat->bE}(h:v<4):((bX 4).map λv=>V.lst ((bX 3).map λc=>vL (mk (3*v+c))))[v]?=aG (V.lst ((bX 3).map λc=>vL (mk (3*v+c)))):=by simp only [dL,nS h];rfl
def Fs{f:Nat->V}(h:c<3):((bX 3).map f)[c]?=aG (f c):=by simp only [dL,nS h];rfl
def BR(a:lk σ.cells n=aG (.list (l++[d])))(h:(l++[d]).length<=lim):yP (.ref n) (.int (-1)) σ=aG (d,σ):=by refine nX rfl (nX (nX a rfl) ?_);rw [if_pos ⟨rfl,h⟩,AS];rfl
def MF(h:(l++[d]).length<=lim):yP (.lst (l++[d])) (.int (-1)) σ=aG (d,σ):=by refine nX rfl (nX rfl ?_);rw [if_pos ⟨rfl,h⟩,AS];rfl
section
variable{d0:mU}{d1 d2 d3:Da}{d4 d5 d6 d7:mU}{T0 T1:bE}{mk:Nat->bE}
def R7(X:Nat->bE):V:=.lst [vL (X 0),vL (X 1),vL (X 2)]
def Ve(T0 T1:bE):V:=.lst [vL T0,vL T1]
def Gj(X:Nat->bE):(R7 X).pure=true:=by refine (?_:dH [vL (X 0),vL (X 1),vL (X 2)]=aU);simp only [fO,eN,eO,gQ]
def wM:(Ve T0 T1).pure=true:=by show dH [vL T0,vL T1]=aU;simp only [fO,eN,eO,gQ]
def Ma(mk:Nat->bE)(p:Nat):cA:=(bX p).map λv=>R7 (qW mk v)
def Ln(T0 T1:bE)(mk:Nat->bE)(p:Nat):cA:=(bX p).map λv=>vL (nO T0 T1 (qW mk v))
def Pa(p:Nat):dH (Ma mk p)=true:=wT (λv=>Gj _) _
def Ox(p:Nat):dH (Ln T0 T1 mk p)=true:=wT (λv=>eO _) _
def Vo(p:Nat):(Ma mk p).length=p:=by unfold Ma;rw [bB,gV]
def MC(p:Nat):(Ln T0 T1 mk p).length=p:=by unfold Ln;rw [bB,gV]
def O9(p:Nat):Ma mk (p+1)=Ma mk p++[R7 (qW mk p)]:=by unfold Ma;simp only [rP,dK];rfl
def Ow(p:Nat):Ln T0 T1 mk (p+1)=Ln T0 T1 mk p++[vL (nO T0 T1 (qW mk p))]:=by unfold Ln;simp only [rP,dK];rfl
def CS(T0 T1:bE)(mk:Nat->bE)(x:tH)(p:Nat):St:=⟨(3,Ve T0 T1)::(4,Ń mk)::(7,.ref 0)::(8,.ref 1)::x,[(1,.list (Ln T0 T1 mk p)),(0,.list (Ma mk p))],2⟩
def xPr(mk:Nat->bE)(v:Nat):tH:=[(9,vL (mk (3*v))),(10,vL (mk (3*v+1))),(11,vL (mk (3*v+2)))]
noncomputable def vSg(mk:Nat->bE)(v:Nat)(f:Nat->Nat->Int):V:=.lst ((bX 3).map λc=>.int (f v c))
def Ŷ(a:(l.all λp=>decide (p.1<100))=aU):((l++[(100,v)]).all λp=>decide (p.1<102))=true:=by simp only [ĝ,dT];refine ⟨dO.mpr λp b=>decide_eq_true ?_,rfl⟩;have:=of_decide_eq_true (dO.mp a p b);exact aT 0xc62af70e057387001 this
def NV{l:mI}{m:Nat}(h:m∈l)(h':∀a∈l,m<=a):Xb [.lst (l.map vN)] σ=aG (vN m,σ):=by
 have c:uS (l.map vN)=aG (l.map λn:Nat=>(n:Int)):=by have:=Kq (l.map λn:Nat=>(n:Int));rw [qG]at this;exact this
 have d:=V9 (jJ.mpr ⟨m,h,rfl⟩) λa e=>by obtain ⟨b,f,rfl⟩:=jJ.mp e;exact qO.mpr (h' b f)
 refine (?_:ob (uS (l.map vN)) _=_);rw [c];refine (?_:ob (NW (l.map λn:Nat=>(n:Int))) _=_);rw [d];rfl
def YJ{n v:Nat}(e:(l0.all λp=>decide (p.1<100))=aU)(i:v<4)(h4:lk l0 4=aG (Ń mk))(j:lk l0 9=aG (vL (mk (3*v))))(k:lk l0 10=aG (vL (mk (3*v+1))))(f:lk l0 11=aG (vL (mk (3*v+2)))):
  lI 100 (gH (aS (gK (.int 3)) bP)) (cG 100) (kD (bJ oE (bJ D7 (yE (gK (.int 10))) (aP 100)) (bJ D7 (gK (.int 2)) (eV Xb (aS (lI 102 (gH (aS (gK (.int 4)) bP)) (cG 102) (yQ (gM (bJ D8 (bJ fT (bJ fT (aP 4) (aP 102)) (aP 100)) (bJ fT (pW (aS (aP 9) (aS (aP 10) (aS (aP 11) bP)))) (aP 100)))) (kD (aP 102)))) bP))))) ⟨l0,cs,n⟩=aG (vSg mk v (sg mk),⟨l0,cs,n⟩):=by
 refine (xU (σ:=⟨l0,cs,n⟩) vN (λc=>[V.int (sg mk v c)]) (zK 3 (by decide)) e (λc b=>?_) Fu).trans (by rfl);have b:=hV.mp b;have g:(((Df ⟨l0,cs,n⟩ 100 (vN c)).loc).all λp=>decide (p.1<102))=true:=Ŷ e;have h:lk (Df ⟨l0,cs,n⟩ 100 (vN c)).loc 100=aG (vN c):=D3 e;refine Dr ?_;have o:=MG (σ:=Df ⟨l0,cs,n⟩ 100 (vN c)) vN (λd=>decide (mk (3*d+c)=mk (3*v+c))) vN (zK 4 (by decide)) g (by decide) λd r=>by refine ⟨lP (cQ (cQ (cQ (bS (sC (sC h4))) (bS (D3 g)) (nE (ZN (hV.mp r)) lm4)) (bS (sC h)) (nE (Fs b) (by exact Fu))) (cQ (a:=.lst ((bX 3).map λc=>vL (mk (3*v+c)))) (Cc (bH (bS (sC (sC j))) (bH (bS (sC (sC k))) (bH (bS (sC (sC f))) cW))) Fu) (bS (sC h)) (nE (Fs b) (by exact Fu))) (Vc _ _)),λ_=>bS (D3 g)⟩
 refine cQ (cQ (a:=.int (-10)) rfl (bS h) (Lr (by decide))) (cQ (a:=.int 2) rfl (iK (bH o cW) (NV (σ:=Df ⟨l0,cs,n⟩ 100 (vN c)) (l:=(bX 4).filter λd=>decide (mk (3*d+c)=mk (3*v+c))) (m:=fx mk v c) (ě.mpr ⟨hV.mpr (eK aAu i),decide_eq_true Q1⟩) λa s=>W3 (of_decide_eq_true (ě.mp s).2))) (Lr (by decide))) Dp
def PE{Rt:V->gZ}(e:v<4)(ok:Iz mk)(h0:aC T0=7)(h1:aC T1=7):
  Go (Hv d0 d1 d2 d3 d4 d5 d6 d7 2 (CS T0 T1 mk (xPr mk v) v)) (xI [3,4,7,8] 2 (λτ=>τ=CS T0 T1 mk [] (v+1)) (λ_=>False) Rt):=by
 have i:lim=1048576:=rfl;have ln:∀n,(mk n).length<=3:=λn=>(ok n).1;have l0:=ln (3*v);have l1:=ln (3*v+1);have l2:=ln (3*v+2);let σ:=CS T0 T1 mk (xPr mk v) v;let S:=vSg mk v (sg mk);let f:=σ.loc++[(12,S)];refine cP (eS (τ:=σ) (τ':=⟨f,σ.cells,2⟩) (YJ rfl e rfl rfl rfl rfl) rfl ?_);have one:∀{cs:List (Nat×fQ)}{c:Nat}{d:Int},c<3->pW (aS (bJ oE (bJ fT (aP 12) (gK (vN c))) (gK (.int d))) bP) ⟨f,cs,2⟩=aG (vL [sg mk v c-d],⟨f,cs,2⟩):=λj=>Cc (bH (cQ ((λj=>cQ (bS rfl) rfl (nE (Fs j) (by exact Fu))) j) rfl Dp) cW) lm1;have p:mk (3*v)++[sg mk v 0-2]=qW mk v 0:=by unfold qW;rfl
 have r:[sg mk v 2-1]++mk (3*v+2)=qW mk v 2:=by unfold qW;simp
 have b:∀a:Int,[a].length=1:=λ_=>rfl;let σ1:St:=⟨f,[(1,.list (Ln T0 T1 mk v)),(0,.list (Ma mk v++[R7 (qW mk v)]))],2⟩;refine cP (rH (τ:=σ1) (xR (u:=.ref 0) (us:=[R7 (qW mk v)]) (l:=Ma mk v) (bS rfl) rfl (bH (Cc (bH ((cQ (bS (v:=vL (mk (3*v))) rfl) (one (c:=0) (by decide)) (xV (by rw [b];exact aT 0x318a718ce79ed990702766001 l0))).trans (by rw [p])) (bH ((cQ (cQ (one (c:=1) (by decide)) (bS (v:=vL (mk (3*v+1))) rfl) (xV (by rw [b];exact aT VA l1))) (one (c:=1) (by decide)) (xV (by rw [bD,b,b];exact aT 0xc629c6339e7b6641d003a766001 l1))).trans (by rw [(by unfold qW;rfl:[sg mk v 1-1]++mk (3*v+1)++[sg mk v 1-2]=qW mk v 1)])) (bH ((cQ (one (c:=2) (by decide)) (bS (v:=vL (mk (3*v+2))) rfl) (xV (by rw [b];exact aT VA l2))).trans (by rw [r])) cW))) Fu) cW) (lQ (l:=Ma mk v) rfl (by rw [Vo];exact aT VI e i))) ?_);have lst:bJ yP (aP 7) (yE (gK (.int 1))) σ1=aG (R7 (qW mk v),σ1):=cQ (bS (v:=.ref 0) rfl) rfl (BR (l:=Ma mk v) rfl (by rw [bD,Vo];show v+1<=_;exact aT 0x68c52141c0bc6318c63860ab86002 e i));have k:∀{c:Nat}{d:V},[vL (qW mk v 0),vL (qW mk v 1),vL (qW mk v 2)][c]?=aG d->bJ fT (bJ yP (aP 7) (yE (gK (.int 1)))) (gK (vN c)) σ1=aG (d,σ1):=λh=>cQ lst rfl (nE h (by exact Fu));have o:∀{c:Nat}{d:V},[vL T0,vL T1][c]?=aG d->bJ fT (aP 3) (gK (vN c)) σ1=aG (d,σ1):=λh=>cQ (bS (v:=Ve T0 T1) rfl) rfl (nE h (by exact Yw));have g:=vU (v:=v) (c:=0) ok;have m:=vU (v:=v) (c:=1) ok;have s:=vU (v:=v) (c:=2) ok;refine rH (xR (u:=.ref 1) (us:=[vL (nO T0 T1 (qW mk v))]) (l:=Ln T0 T1 mk v) (bS rfl) rfl (bH ((cQ (cQ (cQ (cQ (k (c:=0) rfl) (o (c:=0) rfl) (xV (by exact aT 0x718a718ce79ed99000a7a60afe6002 h0 g))) (k (c:=1) rfl) (xV (by rw [bD];exact aT 0x3c629c6339e7b66409000a7a6127a60afe6003 h0 g m))) (o (c:=1) rfl) (xV (by rw [bD,bD];exact aT 0x2f18a718ce79ed990140d00127a61a7a612fe60afe6004 h0 h1 g m))) (k (c:=2) rfl) (xV (by rw [bD,bD,bD];exact aT 0x17c629c6339e7b664110140d00127a6227a61a7a612fe60afe6005 h0 h1 g m s))).trans (by rw [(by unfold nO pY;simp only [dM]:qW mk v 0++T0++qW mk v 1++T1++qW mk v 2=nO T0 T1 (qW mk v))])) cW) (lQ (l:=Ln T0 T1 mk v) rfl (by rw [MC];exact aT VI e i))) ⟨CS T0 T1 mk [] (v+1),?_,rfl⟩;unfold CS;rw [O9,Ow];exact B3 rfl (cL (dP wM) (cL (dP (Oy mk)) (cL rfl (cL rfl rfl)))) (gL (by decide) (gE (c:=.list _) (jD (by rw [<-Ow];exact Ox _:dH (Ln T0 T1 mk v++[vL (nO T0 T1 (qW mk v))])=aU))) (gL (by decide) (gE (c:=.list _) (jD (by rw [<-O9];exact Pa _:dH (Ma mk v++[R7 (qW mk v)])=aU))) kW))
end
def XN(a:0<n):uW (vN k) (vN n) σ=aG (vN (k%n),σ):=by
 rw [show vN k=V.int (k:Int)from rfl,show vN n=V.int (n:Int)from rfl,Dq (by exact aT 0xa3174ae6a8140301 a)];have:(k:Int).fmod (n:Int)=((k%n:Nat):Int):=by refine (R6 _ (iY n))▸?_;exact (Int.natCast_emod k n).symm
 refine this▸?_;rfl
def Ug{X:Nat->bE}(h:c<3):[vL (X 0),vL (X 1),vL (X 2)][c]?=aG (vL (X c)):=lt3 h rfl rfl rfl
def Lu(h:a.length+b.length<=1000000):fF (wL a) (wL b) σ=aG (wL (a++b),σ):=by refine (MH (by simp only [bB];exact h)).trans ?_;exact dK▸rfl
def ï(n:Nat)(t:I5):ed (n+2) (lW t)=true:=by refine (?_:List.all [vL t.1,vL t.2.1,vL t.2.2] (ed (n+1))=aU);simp only [oZ,aB6,IN,gQ]
def NQ(l:List I5):W1 (wL l) (wL l) σ=aG (.bool bR,σ):=by have e:=SJ (λt=>ï 61 t) l;exact (BV (dP (pR l)) (dP (pR l)) e e ⟨λ_=>trivial,λ_=>rfl⟩).2
section
variable{T0 T1:bE}{mk:Nat->bE}
abbrev xE(T0 T1:bE)(mk:Nat->bE)(b:Nat):bE:=nO T0 T1 (qW mk b)
def cM(T0 T1:bE)(mk:Nat->bE)(m:E3):List (Nat×fQ):=[(2,.mat m),(1,.list (Ln T0 T1 mk 4)),(0,.list (Ma mk 4))]
def sR(T0 T1:bE)(mk:Nat->bE)(b v:Nat)(X:Nat->bE)(m:E3)(x:tH)(dv:cA):St:=
 ⟨[(3,Ve T0 T1),(6,vN v),(7,.ref 0),(8,.ref 1),(13,.inst 2),(14,vN b),(15,vL (xE T0 T1 mk b)),(16,vL (nO T0 T1 X)),(17,R7 X),(18,.ref 3)]++x,(3,.list dv)::cM T0 T1 mk m,4⟩
def Nw(a:3<=k):oH k (rZ uY k cs) (cM T0 T1 mk m)=aG (cM T0 T1 mk m):=
 gL (aT 0x318a81a3241b301 a) rfl (gL (aT 0x18c5403a41b301 a) (gE (jD (Ox 4))) (gL (aT 0x18c5403241b301 a) (gE (jD (Pa 4))) kW))
def X0(A B:bE):qK A B=.lst (((tO (0,0,0) (Af A B (aC A) 0 (aC A) 0 (aC B))).map pB)++[pB (aC A,aC B,0)]):=by unfold qK Yn;simp only [dK];rfl
def Wi{X:Nat->bE}{Rt:V->gZ}(j:m.b=aG (xE T0 T1 mk b))(ok:Ry W (xE T0 T1 mk b))(k:d.length<=5)(p:dH d=aU):
  Go (Qs (Ad LG) Ir It Iq Bk vA Ju Bl 4 (sR T0 T1 mk b v X m [(19,vL W)] d)) (xI [3,6,7,8,13,14,15,16,17,18] 4 (λτ=>∃n,n.b=aG (xE T0 T1 mk b)/\τ=sR T0 T1 mk b v X n [] (d++[qK W (xE T0 T1 mk b)])) (λ_=>False) Rt):=by
 have f:lim=1048576:=rfl;let B:=xE T0 T1 mk b;let e:E3:={m with a:=some W};let g:=d++[qK W B];refine cP (rH (τ:=sR T0 T1 mk b v X e [(19,vL W)] d) (ME (i:=2) (bS rfl) rfl rfl (bH (bS rfl) cW) rfl (by simp only [fO,eN,eO,gQ]) (RJ m W)) ?_);let σ1:=sR T0 T1 mk b v X e [(19,vL W)] g;refine cP (rH (τ:=σ1) (xR (τ':=sR T0 T1 mk b v X e [(19,vL W)] d) (bS rfl) rfl (bH (ME (bS rfl) rfl rfl cW rfl rfl (RH rfl j ok)) cW) ((lQ rfl (by exact aT 0x1a314840bc6318c63860a7a6002 k f)).trans rfl)) ?_);have o:∀{x:Nat}{Z:bE},lk σ1.loc x=aG (vL Z)->aC Z<200->eV oG (aS (aP x) bP) σ1=aG (vN (aC Z),σ1):=λh s=>(iK (bH (bS h) cW) (xS (by rw [bB];exact aT 0x58c5200ab19d982bc6318c6386002 f s))).trans (by rw [bB]);have t:bJ yP (bJ yP (aP 18) (yE (gK (.int 1)))) (yE (gK (.int 1))) σ1=aG (pB (aC W,aC B,0),σ1):=cQ (cQ (bS (v:=.ref 3) rfl) rfl (BR (l:=d) rfl (by simp only [bD,Bp];exact aT 0x68c52141c0bc6318c63860a7a6002 k f))) rfl (by rw [X0];refine MF ?_;have:=Qp (Af W B (aC W) 0 (aC W) 0 (aC B)) (0,0,0);have:=ok.f;have:(Af W B (aC W) 0 (aC W) 0 (aC B)).length<64:=ok.f;simp only [bD,bB];exact aT 0x2e31481070ab18389283882bc6318c6386003 f ‹_› this);refine rG (jV (b:=false) (lP (cQ t (nV (bH (o (Z:=W) rfl ok.a) (bH (o (Z:=B) rfl ok.b) (bH (v:=vN 0) rfl cW))) Fu) (if_pos ⟨rfl,rfl,rfl⟩))) ?_);refine kI ⟨sR T0 T1 mk b v X e [] g,?_,e,j,rfl⟩;have u:dH g=true:=by
  have:∀l:cA,dH l=aU->dH (l++[qK W B])=true:=by
   intro l
   induction l with
   |nil=>intro _;refine (?_:((qK W B).pure&&aU)=aU);rw [pC];rfl
   |cons a r y=>intro h;simp only [eN,dT]at h;simp only [fV,eN,h.1,y h.2];rfl
  exact this d p
 exact B3 rfl (cL (dP wM) (cL rfl (cL rfl (cL rfl (cL rfl (cL rfl (cL (dP (eO _)) (cL (dP (eO _)) (cL (dP (Gj X)) (cL rfl rfl)))))))))) (gL (by decide) (gE (c:=.list _) (jD u)) (Nw (by decide)))
end
section
variable{T0 T1:bE}{mk:Nat->bE}
def L9(h:v<p):(Ma mk p)[v]?=aG (R7 (qW mk v)):=by unfold Ma;simp only [dL,nS h];rfl
def Fj(h:v<p):(Ln T0 T1 mk p)[v]?=aG (vL (nO T0 T1 (qW mk v))):=by unfold Ln;simp only [dL,nS h];rfl
def sV(T0 T1:bE)(mk:Nat->bE)(b:Nat)(X:Nat->bE)(m:E3)(x:tH):St:=
 ⟨[(3,Ve T0 T1),(7,.ref 0),(8,.ref 1),(13,.inst 2),(14,vN b),(15,vL (xE T0 T1 mk b)),(16,vL (nO T0 T1 X)),(17,R7 X)]++x,cM T0 T1 mk m,3⟩
abbrev Ũ(mk:Nat->bE)(b v:Nat)(X:Nat->bE):Nat->bE:=λc=>jn (Dt (qW mk b) X (qW mk v) c)
abbrev rw2(T0 T1:bE)(mk:Nat->bE)(b v:Nat)(X:Nat->bE):cA:=[qK (nO T0 T1 X) (xE T0 T1 mk b),qK (xE T0 T1 mk v) (xE T0 T1 mk b)]
def PA{X:Nat->bE}{Rt:V->gZ}(h0:N4 T0)(h1:N4 T1)(y:b<4)(r:v<4)(F:m.b=aG (xE T0 T1 mk b))(st:Ĉ T0 T1 (qW mk b) X (qW mk v)):
  Go (Qq (Ad LG) Ir It Iq Bk vA Ju Bl 3 (sR T0 T1 mk b v X m [] (rw2 T0 T1 mk b v X))) (xI [3,7,8,13,14,15,16,17] 3 (λτ=>τ=sV T0 T1 mk b (Ũ mk b v X) m []) (λ_=>False) Rt):=by
 have j:lim=1048576:=rfl;let Y:=qW mk b;let Z:=qW mk v;let a:=Dt Y X Z;let e:=rw2 T0 T1 mk b v X;let σ:=sR T0 T1 mk b v X m [] e;have s:(Ma mk 4).length<=lim:=by exact aT FB j
 have z:(Ln T0 T1 mk 4).length<=lim:=by exact aT FB j
 have Oz:(3:Nat)<=lim:=aT 0x1462906ccbc6318c6386001 j;let g:V:=.lst ((bX 3).map λc=>wL (a c));have k:lI 100 (gH (aS (gK (.int 3)) bP)) (cG 100) (kD (eV Bk (aS (bJ fT (bJ fT (aP 7) (aP 14)) (aP 100)) (aS (bJ fT (aP 17) (aP 100)) (aS (bJ fT (bJ fT (aP 7) (aP 6)) (aP 100)) bP))))) σ=aG (g,σ):=by refine (xU (σ:=σ) vN (λc=>[wL (a c)]) (zK 3 (by decide)) rfl (λc d=>?_) Fu).trans (by rfl);have d:=hV.mp d;exact Dr (iK (bH (cQ (cQ (bS (v:=.ref 0) rfl) (bS (v:=vN b) rfl) (xT (c:=0) rfl (L9 y) s)) (bS (v:=vN c) rfl) (nE (Ug d) Oz)) (bH (cQ (bS (v:=R7 X) rfl) (bS (v:=vN c) rfl) (nE (Ug d) Oz)) (bH (cQ (cQ (bS (v:=.ref 0) rfl) (bS (v:=vN v) rfl) (xT (c:=0) rfl (L9 r) s)) (bS (v:=vN c) rfl) (nE (Ug d) Oz)) cW))) (IT (st.wk c d)))
 let σ1:=sR T0 T1 mk b v X m [(20,g)] e;refine cP (eS (τ':=σ1) k rfl ?_);let f:=Ra T0 T1 Y X Z;let σ2:=sR T0 T1 mk b v X m [(20,g),(21,wL f)] e;have n:∀{c:Nat},c<3->bJ fT (aP 20) (gK (vN c)) σ1=aG (wL (a c),σ1):=λd=>cQ (bS (v:=g) rfl) rfl (nE (Fs d) Oz);have t:∀{c:Nat}{T:bE},[vL T0,vL T1][c]?=aG (vL T)->aC T=7->eV vA (aS (bJ fT (aP 3) (gK (vN c))) bP) σ1=aG (wL (T.map kS),σ1):=λh A=>iK (bH (cQ (bS (v:=Ve T0 T1) rfl) rfl (nE h (by exact Yw))) cW) (Iw (by exact aT 0xc629c77e702fe6001 A));have t0:(a 0).length<=200:=(st.jc 0 (by decide)).1;have t1:(a 1).length<=200:=(st.jc 1 (by decide)).1;have B:(a 2).length<=200:=(st.jc 2 (by decide)).1;have i:=h0.len;have o:=h1.len;have a1:(a 0).length+(T0.map kS).length<=1000000:=by rw [bB];exact aT 0x2c629c6339e7b664040bf9829c6766002 t0 i
 have C:(a 0++T0.map kS).length+(a 1).length<=1000000:=by simp only [bD,bB];exact aT 0x6c629c6339e7b664050202fe612719d9829c6766003 t0 t1 i
 have D:(a 0++T0.map kS++a 1).length+(T1.map kS).length<=1000000:=by simp only [bD,bB,bB];exact aT 0x6b18a718ce79ed99034050202fe61afe612719d9829c6766004 t0 t1 i o
 refine cP (eS (v:=wL f) (τ':=σ2) (cQ (cQ (cQ (cQ (n (c:=0) (by decide)) (t (c:=0) rfl i) (Lu a1)) (n (c:=1) (by decide)) (Lu C)) (t (c:=1) rfl o) (Lu D)) (n (c:=2) (by decide)) (Lu (by simp only [bD,bD,bD,bB,bB];exact aT 0xeb18a718ce79ed99024110140c0bf988bf9869c676612719d9829c6766005 t0 t1 B i o:(a 0++T0.map kS++a 1++T1.map kS).length+(a 2).length<=1000000))) rfl ?_);have p:eV Ju (aS (aP 15) (aS (aP 16) (aS (bJ fT (aP 8) (aP 6)) (aS (bJ fT (aP 18) (gK (.int 0))) (aS (bJ fT (aP 18) (gK (.int 1))) bP))))) σ2=aG (wL f,σ2):=
  iK (bH (bS (v:=vL (xE T0 T1 mk b)) rfl) (bH (bS (v:=vL (nO T0 T1 X)) rfl) (bH (cQ (bS (v:=.ref 1) rfl) (bS (v:=vN v) rfl) (xT (c:=1) rfl (Fj r) z)) (bH (cQ (bS (v:=.ref 3) rfl) (b:=vN 0) rfl (xT (c:=3) (l:=e) rfl rfl (by exact Yw))) (bH (cQ (bS (v:=.ref 3) rfl) (b:=vN 1) rfl (xT (c:=3) (l:=e) rfl rfl (by exact Yw))) cW))))) ((RM st.mg).trans (by rw [st.eq]))
 refine cP (rG (jV (b:=false) (lP (cQ p (bS (v:=wL f) rfl) (NQ f))) ?_));refine kI ?_;let u:tH:=[(3,Ve T0 T1),(7,.ref 0),(8,.ref 1),(13,.inst 2),(14,vN b),(15,vL (xE T0 T1 mk b)),(20,g),(21,wL f)];let σ3:St:=⟨u,(3,.list e)::cM T0 T1 mk m,4⟩;refine gF (σ':=σ3) rfl ?_;let X':=Ũ mk b v X;have jc:lI 100 (lG (aP 20)) (cG 100) (kD (eV Bl (aS (aP 100) bP))) σ3=aG (R7 X',σ3):=by refine (xU (σ:=σ3) (x:=100) (l:=bX 3) (λc=>wL (a c)) (λc=>[vL (X' c)]) (qC (bS (v:=g) rfl) (G0 (wT (λc=>pR _) _))) rfl (λc d=>Dr (iK (bH (bS (v:=wL (a c)) rfl) cW) (Rd (st.jc c (hV.mp d))))) Fu).trans (by rfl)
 refine eS (v:=.tup [vL (nO T0 T1 X'),R7 X']) (τ:=σ3) (τ':=⟨u++[(16,vL (nO T0 T1 X')),(17,R7 X')],(3,.list e)::cM T0 T1 mk m,4⟩) (nV (bH ((iK (bH (bS (v:=wL f) rfl) cW) (Rd st.jd)).trans (by exact st.jn▸rfl)) (bH jc cW)) Yw) rfl ⟨sV T0 T1 mk b X' m [],?_,rfl⟩;exact B3 rfl (cL (dP wM) (cL rfl (cL rfl (cL rfl (cL rfl (cL (dP (eO _)) (cL (dP (eO _)) (cL (dP (Gj X')) rfl)))))))) (pU (by decide) (Nw (by decide)))
def PC{X:Nat->bE}{Rt:V->gZ}(h0:N4 T0)(h1:N4 T1)(s:b<4)(r:v<4)(h:m.b=aG (xE T0 T1 mk b))(st:Ĉ T0 T1 (qW mk b) X (qW mk v)):
  Go (Qt (Ad LG) Ir It Iq Bk vA Ju Bl 3 (sV T0 T1 mk b X m [(6,vN v)])) (xI [3,7,8,13,14,15,16,17] 3 (λτ=>∃c,c.b=aG (xE T0 T1 mk b)/\τ=sV T0 T1 mk b (Ũ mk b v X) c []) (λ_=>False) Rt):=by
 refine cP (eS (τ:=⟨(sV T0 T1 mk b X m [(6,vN v)]).loc,(3,.list [])::cM T0 T1 mk m,4⟩) (τ':=⟨(sV T0 T1 mk b X m [(6,vN v),(18,.ref 3)]).loc,(3,.list [])::cM T0 T1 mk m,4⟩) (wB cW (by decide)) rfl (gF (σ':=sR T0 T1 mk b v X m [] []) rfl ?_));let d:=nO T0 T1 X;let k:=xE T0 T1 mk v;let B:=xE T0 T1 mk b;let g:Nat->cA:=λq=>(rw2 T0 T1 mk b v X).take q;have hi:lG (pW (aS (aP 16) (aS (bJ fT (aP 8) (aP 6)) bP))) (sR T0 T1 mk b v X m [] [])=aG ([d,k].map vL,sR T0 T1 mk b v X m [] []):=
  qC (Cc (bH (bS rfl) (bH (cQ (bS rfl) (bS rfl) (xT rfl (Fj r) (by exact aT FB (rfl:lim=1048576):(Ln T0 T1 mk 4).length<=lim))) cW)) Yw) (wT eO [d,k])
 refine cP (pL (λ_=>False) (λq τ=>∃m,m.b=aG B/\τ=sR T0 T1 mk b v X m [] (g q)) hi (by refine (?_:(3:Nat)<=4);decide) ⟨m,h,rfl⟩ (λi y u a t=>?_) (λτ' hd=>?_))
 .obtain ⟨m,h,rfl⟩:=t;have l:∀q,dH (g q)=aU/\(g q).length<=5:=λq=>by
   match q with
   |0=>exact ⟨rfl,bI _⟩
   |1=>exact ⟨by refine (?_:((qK d B).pure&&aU)=aU);rw [pC];rfl,by refine (?_:(1:Nat)<=5);decide⟩
   |q+2=>exact ⟨by refine (?_:((qK d B).pure&& ((qK k B).pure&&dH (Dd q [])))=aU);simp only [pC,aBw];rfl,by refine (?_:(Dd q ([]:cA)).length+1+1<=5);rw [aBw];decide⟩
  match i,a with
  |0,a=>cases a;exact ⟨sR T0 T1 mk b v X m [(19,vL d)] (g 0),rfl,Wi h st.ml (l 0).2 (l 0).1⟩
  |1,a=>cases a;exact ⟨sR T0 T1 mk b v X m [(19,vL k)] (g 1),rfl,Wi h st.mr (l 1).2 (l 1).1⟩
  |i+2,a=>cases a
 .replace id:=hd.resolve_right id;refine nn λx=>?_;obtain ⟨c,n,rfl⟩:=id;refine x ?_;refine gF (σ':=sR T0 T1 mk b v X c [] (rw2 T0 T1 mk b v X)) rfl ((PA (Rt:=Rt) h0 h1 s r n st).mono λf τ p=>?_)
  cases f with
  |next=>obtain ⟨o,e,j⟩:=p;exact ⟨o,e,c,n,j⟩
  |cont=>obtain ⟨o,e,j⟩:=p;exact ⟨o,e,c,n,j⟩
  |brk=>exact p
  |ret v=>exact p
end
section
variable{T0 T1:bE}{mk:Nat->bE}
def X6(T0 T1:bE)(mk:Nat->bE)(m:E3)(x:tH):St:=⟨[(3,Ve T0 T1),(7,.ref 0),(8,.ref 1),(13,.inst 2)]++x,cM T0 T1 mk m,3⟩
def JV(T0 T1:bE)(mk:Nat->bE)(b p:Nat)(τ:St):Prop:=∃X m,(p=0->AO 3 5 X (qW mk b))/\(p=1->AO 6 10 X (qW mk b))/\m.b=aG (xE T0 T1 mk b)/\τ=sV T0 T1 mk b X m []
def PD{Rt:V->gZ}(h0:N4 T0)(h1:N4 T1)(ok:Iz mk)(r:b<4):
  Go (Hu (Ad LG) Ir It Iq Bk vA Ju Bl 3 (X6 T0 T1 mk m [(14,vN b)])) (xI [3,7,8,13] 3 (λτ=>∃o,τ=X6 T0 T1 mk o []) (λ_=>False) Rt):=by
 have y:lim=1048576:=rfl;have A:(Ln T0 T1 mk 4).length<=lim:=by exact aT FB y
 let B:=xE T0 T1 mk b;have I:aC B<200:=by have:=Q2 (X:=qW mk b) h0 h1;have a:=vU (v:=b) (c:=0) ok;have a1:=vU (v:=b) (c:=1) ok;have J:=vU (v:=b) (c:=2) ok;exact aT 0xf8c558cecc04f4c34f4c24f4c15a068f990247cc1004 this a a1 J
 let g:E3:={m with b:=some B};let C:=(b+1)%4;have t:C<4:=SV _ (by decide);let X:=qW mk C;refine cP (eS (v:=vL B) (τ':=X6 T0 T1 mk m [(14,vN b),(15,vL B)]) (cQ (bS (v:=.ref 1) rfl) (bS (v:=vN b) rfl) (xT (c:=1) rfl (Fj r) A)) rfl (cP (rH (τ:=X6 T0 T1 mk g [(14,vN b),(15,vL B)]) (ME (i:=2) (c:=.mat m) (c0:=.mat m) (c1:=.mat g) (us:=[vL B]) (bS rfl) rfl rfl (bH (bS rfl) cW) rfl (by simp only [fO,eN,eO,gQ]) (RI m I)) ?_)));have s:∀{σ:St}{d:Nat},lk σ.loc 14=aG (vN b)->bJ uW (bJ fF (aP 14) (gK (vN d))) (gK (.int 4)) σ=aG (vN ((b+d)%4),σ):=λh=>cQ (cQ (bS h) rfl tM) (b:=vN 4) rfl (XN (by decide));refine cP (eS (v:=.tup [vL (nO T0 T1 X),R7 X]) (τ:=X6 T0 T1 mk g [(14,vN b),(15,vL B)]) (τ':=X6 T0 T1 mk g [(14,vN b),(15,vL B),(16,vL (nO T0 T1 X)),(17,R7 X)]) (nV (bH (cQ (bS (v:=.ref 1) rfl) (s (d:=1) rfl) (xT (c:=1) rfl (Fj t) A)) (bH (cQ (bS (v:=.ref 0) rfl) (s (d:=1) rfl) (xT (c:=0) rfl (L9 t) (by exact aT FB y:(Ma mk 4).length<=lim))) cW)) Yw) rfl (gF (σ':=sV T0 T1 mk b X g []) rfl ?_));let vs:mI:=[(b+2)%4,(b+3)%4];have N:∀v∈vs,v<4:=λv k=>by simp only [vs,aR,uB,or_false]at k;rcases k with rfl|rfl<;>exact SV _ (by decide)
 have hi:lG (pW (aS (bJ uW (bJ fF (aP 14) (gK (.int 2))) (gK (.int 4))) (aS (bJ uW (bJ fF (aP 14) (gK (.int 3))) (gK (.int 4))) bP))) (sV T0 T1 mk b X g [])=aG (vs.map vN,sV T0 T1 mk b X g []):=
  qC (Cc (bH (s (d:=2) rfl) (bH (s (d:=3) rfl) cW)) Yw) rfl
 refine pL (λ_=>False) (JV T0 T1 mk b) hi (by refine (?_:(3:Nat)<=3);decide) ⟨X,g,λ_=>JF ok t r,(λh=>absurd h (by decide)),rfl,rfl⟩ (λi W u l O=>?_) (λτ' hd=>?_)
 .replace l:=(dL)▸l
  cases k:vs[i]? with
  |none=>rw [k]at l;cases l
  |some v=>
   replace l:=k▸l;cases l;have D:=N v (aJ k);refine nn λP=>?_;obtain ⟨X,m,c0,c1,Q,rfl⟩:=O;refine P ?_;have F:=JF (v:=v) (b:=b) ok D r;have G:=ÿ (b:=b) ok r;have R:AO 6 10 X (qW mk b):=by
    rcases kL i 1 with z|z
    .exact JE (c0 (by exact aT 0x3462b30147001 z))
    .exact c1 (by exact aT 0xac62b381203ab46001 ((cF.mp k).1) z)
   refine ⟨sV T0 T1 mk b X m [(6,vN v)],rfl,(PC (Rt:=Rt) h0 h1 r D Q (YE h0 h1 G R (JE F))).mono λf τ p=>?_⟩;have nx:∀{H:St},(∃o,o.b=aG (xE T0 T1 mk b)/\H=sV T0 T1 mk b (Ũ mk b v X) o [])->JV T0 T1 mk b (i+1) H:=λ⟨o,T,e⟩=>⟨Ũ mk b v X,o,(λh=>absurd h (Nat.succ_ne_zero i)),λh=>RW G (c0 (by exact aT 0x1918acc059d07001 h)) F,T,e⟩
   cases f with
   |next=>obtain ⟨x,e,j⟩:=p;exact ⟨x,e,nx j⟩
   |cont=>obtain ⟨x,e,j⟩:=p;exact ⟨x,e,nx j⟩
   |brk=>exact p
   |ret v=>exact p
 .obtain ⟨X,m,_,_,_,rfl⟩:=hd.resolve_right id;exact ⟨X6 T0 T1 mk m [],B3 rfl (cL (dP wM) (cL rfl (cL rfl (cL rfl rfl)))) (Nw (by decide)),m,rfl⟩
def PB{P:Fl->gZ}(h0:N4 T0)(h1:N4 T1)(ok:Iz mk)(d:∀τ,P (.ret (.bool aU)) τ):
  Go (Qr (Ad LG) Ir It Iq Bk vA Ju Bl 0 ⟨[(3,Ve T0 T1),(7,.ref 0),(8,.ref 1)],[(1,.list (Ln T0 T1 mk 4)),(0,.list (Ma mk 4))],2⟩) P:=by
 let b:E3:=⟨aG [],aG [],bR⟩;refine cP (eS (τ:=⟨[(3,Ve T0 T1),(7,.ref 0),(8,.ref 1)],cM T0 T1 mk b,3⟩) (τ':=X6 T0 T1 mk b []) (iK (us:=ń) (bH rfl (bH (Cc cW (by decide)) (bH (Cc cW (by decide)) (bH rfl cW)))) (by unfold Ad;rw [if_pos (show dH ń=aU from rfl),ö];rfl)) rfl ?_);refine gF (σ':=X6 T0 T1 mk b []) rfl ?_;have hi:gH (aS (gK (.int 4)) bP) (X6 T0 T1 mk b [])=aG ((bX 4).map vN,X6 T0 T1 mk b []):=zK 4 (by decide);refine cP (pL (λ_=>False) (λ_ τ=>∃m,τ=X6 T0 T1 mk m []) hi (by refine (?_:(0:Nat)<=3);decide) ⟨b,rfl⟩ (λi g u a e=>?_) (λτ' hd=>?_))
 .replace a:=(dL)▸a
  cases hi:(bX 4)[i]? with
  |none=>rw [hi]at a;cases a
  |some j=>replace a:=hi▸a;cases a;obtain ⟨f,c⟩:=cF.mp hi;rw [wH]at c;subst c;obtain ⟨m,rfl⟩:=e;exact ⟨X6 T0 T1 mk m [(14,vN i)],rfl,PD h0 h1 ok f⟩
 .obtain ⟨m,rfl⟩:=hd.resolve_right id;exact gF (σ':=⟨[],cM T0 T1 mk m,3⟩) rfl (zT rfl (d _))
def Ë{P:Fl->gZ}(h0:N4 T0)(h1:N4 T1)(h:AK cs mk)(d:∀τ,P (.ret (.bool aU)) τ):
  Go (Ww (Ad LG) Ir It Iq Bk vA Ju Bl 0 ⟨[(3,Ve T0 T1),(4,Lv)],cs,12⟩) P:=by
 refine Tv (ZO wM h) ?_;have c0:∀{σ:St},kR bP σ=aG (.ref σ.next,{σ with cells:=(σ.next,.list [])::σ.cells,next:=σ.next+1}):=λ{σ}=>wB cW (by decide);refine cP (eS (τ:=⟨[(3,Ve T0 T1),(4,Ń mk)],[(1,.list []),(0,.list [])],2⟩) (τ':=CS T0 T1 mk [] 0) (nV (bH c0 (bH c0 cW)) Yw) rfl (gF (σ':=CS T0 T1 mk [] 0) rfl ?_));have hi:lG (aP 4) (CS T0 T1 mk [] 0)=aG ((bX 4).map λv=>V.lst ((bX 3).map λc=>vL (mk (3*v+c))),CS T0 T1 mk [] 0):=qC (bS rfl) (Oy mk);refine cP (pL (λ_=>False) (λi τ=>τ=CS T0 T1 mk [] i) hi (by refine (?_:(0:Nat)<=2);decide) rfl (λi g u a e=>?_) (λτ' hd=>?_))
 .replace a:=(dL)▸a
  cases hi:(bX 4)[i]? with
  |none=>replace a:=hi▸a;cases a
  |some j=>rw [hi]at a;cases a;replace hi:=cF.mp hi;obtain ⟨f,b⟩:=hi;rw [wH]at b;subst b;subst e;exact ⟨CS T0 T1 mk (xPr mk i) i,rfl,PE f h.ok h0.len h1.len⟩
 .have hd:=hd.resolve_right id;subst hd;exact gF (σ':=⟨[(3,Ve T0 T1),(7,.ref 0),(8,.ref 1)],[(1,.list (Ln T0 T1 mk 4)),(0,.list (Ma mk 4))],2⟩) rfl (PB h0 h1 h.ok d)
def OZ{a:bE}(d:aC a<=900):Go (aAn (Ad LG) Ir It Iq Bk vA Ju Bl 0 ⟨[(0,.scr (a.map V.int))],[],0⟩) λf τ=>f=.ret (.bool aU):=by
 have e:lim=1048576:=rfl;let S0:V:=.scr (a.map V.int);let D:=ó a;let s:=D.sum;let TT:=Ve (tt s 0) (tt s 1);have b:aC D<=1000:=by refine (?_:(a++Pk).length<=1000);rw [bD];refine (?_:aC a+9<=1000);exact aT 0x18c538efce8c9c09e63c7001 d
 have g:pW (aS (gK (.int 15)) (aS (gK (.int 21)) (aS (gK (.int 35)) (aS (gK (.int 22)) (aS (gK (.int 14)) (aS (gK (.int 15)) (aS (gK (.int 8)) (aS (gK (.int 18)) (aS (gK (.int 44)) bP))))))))) ⟨[(0,S0)],[],0⟩=aG (vL Pk,⟨[(0,S0)],[],0⟩):=rfl;refine cP (eS (τ:=⟨[(0,S0)],[],0⟩) (τ':=⟨[(0,S0),(1,vL D)],[],0⟩) (cQ (bS rfl) g (by refine (?_:(if (a.map V.int).length+(Pk.map V.int).length<=lim then aG (V.lst (a.map V.int++Pk.map V.int),_)else aH)=_);rw [if_pos (by rw [bB,bB];show aC a+9<=lim;exact aT 0x346290a32702f18c6318e1829e63c7002 d e),<-dK];rfl)) rfl ?_);refine cP (eS (τ:=⟨[(0,S0),(1,vL D)],[],0⟩) (τ':=⟨[(0,S0),(1,vL D),(2,.int s)],[],0⟩) (iK (bH (bS rfl) cW) (by refine (?_:ob (uS (D.map V.int)) _=_);simp only [Kq];rfl)) rfl ?_);refine cP (eS (v:=TT) (τ:=⟨[(0,S0),(1,vL D),(2,.int s)],[],0⟩) (τ':=⟨[(0,S0),(1,vL D),(2,.int s),(3,TT)],[],0⟩) (XZ rfl rfl) rfl (cP (eS (v:=Lv) (τ:=⟨[(0,S0),(1,vL D),(2,.int s),(3,TT)],Nq,12⟩) (τ':=⟨[(0,S0),(1,vL D),(2,.int s),(3,TT),(4,Lv)],Nq,12⟩) (Yq rfl) rfl (gF (σ':=CT D TT [] Nq) rfl ?_))));refine cP (pL (λ_=>False) (λ_=>JMk D TT []) (ds:=Et 0 (aC D:Int)) (τ:=CT D TT [] Nq) (Ka ((bH ((iK (bH (bS (v:=vL D) rfl) cW) (xS (by rw [bB];exact aT 0x58c5200a71df9c2bc6318c6386002 e b))).trans (by rw [bB])) cW)) (by exact aT 0x318a718ce79ed9809c77e7001 b)) (by refine (?_:(0:Nat)<=12);decide) ⟨Nq,_,aCr,rfl⟩ (λk m v c i=>?_) (λτ' hd=>?_))
 .replace c:=Fn c;obtain ⟨j,rfl⟩:=c;refine nn λl=>?_;obtain ⟨cs,mk,h,rfl⟩:=i;refine l ?_;exact ⟨CT D TT [(5,vN k)] cs,rfl,Í wM b j h⟩
 .obtain ⟨cs,mk,h,rfl⟩:=hd.resolve_right id;exact gF (σ':=⟨[(3,TT),(4,Lv)],cs,12⟩) rfl (Ë (TC s 0) (TC s 1) h λ_=>rfl)
end
section
variable{n:Nat}{L:cR}
def YD(G:Gd){a:bE}(b:aC a<=900):SW 0 (n+5) (vH (kN MineH.o282v0) L 282 rA) (cH (at_ [12])) ⟨[(0,.scr (a.map V.int))],[],0⟩ (λf _=>f=.ret (.bool aU)):=by refine nn λc=>?_;obtain ⟨f,τ,e,rfl⟩:=OZ b;refine c ?_;have:=aAi G (aCp G ((dlaw w.params).tab L 282).fk) (op2 G) (op1 G) (opG G) (ZC G) (Tc G) (λF _=>Ş G F) (ZF (n:=n+4) G) 0 _ _ _ e;refine kO this ?_;rintro _ _ ⟨rfl,rfl⟩;rfl
end
inductive KJ(K:xO)(s:iS)(v:bL):Prop where
 |own (e:nsIn K mainGlobals s=aG (aG v))
 |built (e:nsIn K mainGlobals s=aG aH) (b:bootBuiltins s=aG v) (n:s≠"__name__")
def Û{K:xO}{p:yN}{loose:lT}{mg mb:iS->Option bL}{env:ľ}{s:iS}{v:bL}(X:K.In S.heap)(T:TopRead p loose mg mb S.heap)(c:env.globals=mainGlobals)(d:env.builtins=builtinsNs)(at_:KJ K s v):Glo env s v:=λA h tk Q a q=>by
 have T':=T.keeps a
 cases at_ with
 |own e=>exact aEy (c▸T'.g) (mg_of (X.keeps a) T'.g e) q
 |built e b n=>exact aEz (c▸T'.g) (ns_none_of (X.keeps a) T'.g e) (d▸T'.b) ((T'.builtins _ n).trans b) q
def QF(P:fK):∀s v,(s,v)∈tN->KJ (fr P) s v:=λs v h=>
 (show∀p∈tN,KJ (fr P) p.1 p.2 from (fA (.built (by kernel_rfl) (by kernel_rfl) (by decide))
  (fA (.built (by kernel_rfl) (by kernel_rfl) (by decide))
  (fA (.built (by kernel_rfl) (by kernel_rfl) (by decide))
  (fA (.built (by kernel_rfl) (by kernel_rfl) (by decide))
  (fA (.built (by kernel_rfl) (by kernel_rfl) (by decide))
  (fA (.built (by kernel_rfl) (by kernel_rfl) (by decide))
  (fA (.built (by kernel_rfl) (by kernel_rfl) (by decide))
  (fA (.built (by kernel_rfl) (by kernel_rfl) (by decide))
  (fA (.built (by kernel_rfl) (by kernel_rfl) (by decide))
  (fA (.own (by kernel_rfl))
  (fA (.own (by kernel_rfl))
  (fA (.built (by kernel_rfl) (by kernel_rfl) (by decide))
  (fA (.built (by kernel_rfl) (by kernel_rfl) (by decide))
  (fA (.built (by kernel_rfl) (by kernel_rfl) (by decide))
  (fA (.built (by kernel_rfl) (by kernel_rfl) (by decide))
  (fA (.own (by kernel_rfl))
  (fA (.own (by kernel_rfl))
  (fA (.own (by kernel_rfl))
  (fA (.own (by kernel_rfl))
  (fA (.own (by kernel_rfl))
  (λ_ h=>nomatch h)))))))))))))))))))))) (s,v) h
def aAo{p:yN}{mg mb:iS->Option bL}(X:(fr w.params).In S.heap)(T:TopRead p loose mg mb S.heap):Gd where
 K:=X
 lim:=T.nolimit
 glo:=λenv a b s v h=>Û X T a b (QF w.params s v h)
def aAw(G:Gd){a:bE}(b:aC a<=900):Xn 6 (.ref 282) [.scr (a.map V.int)] (λr=>r=.bool aU):=by
 refine ã (o:=MineH.o282v0) (dlaw w.params) (G.K 282 _ (by kernel_rfl)) rfl G.lim (codeRec_of G.K (by kernel_rfl)) rfl (λvs h=>?_) (by show (1:Nat)<=22;decide) ?_ λL=>?_
 .revert vs;exact VY λ_=>by kernel_rfl
 .refine (?_:(dH (a.map V.int)&&aU)=aU);rw [tD];rfl
 .refine kO (YD G b) ?_;rintro f τ rfl;exact ⟨_,rfl,rfl,rfl⟩
section
open MineH
def GA{D:kP}{Y:gI}{h:dF}{vs:eW}{xs:bE}(i:IntsAre vs xs):bN D Y h (xs.map V.int) vs:=by
 induction i with
 |nil=>exact bN.nil
 |cons n t i a=>exact bN.cons ⟨t,rfl⟩ a
def JC:į w S->Z3 w S:=by rintro ⟨KX,_,_,_,_,T⟩ xs l a b d f;have c:=aAw (aAo KX T) b callerA (λ_=>False) S.heap S.toks [mJ l] ⟨rfl,by decide+kernel,by decide+kernel⟩ (λ_ _ e=>e) (λ_ e=>e.elim) (bN.cons ⟨l,a,rfl,id,d,GA f⟩ bN.nil);refine bK c (λv j p=>?_) λ_ _ e=>e.elim;obtain ⟨h',g,r,rfl,h,_,i,rfl⟩:=p;exact ⟨i,h',g,rfl,h⟩
def BM:WalkO q loose (XL q []) (XB M8) row.toRowW MineH.dlaw [] λf vs=>aEb f vs:=by
 intro w m n mg mb G Y r o B C doc D F H hd I J b s args L as c d g h i;have KX:=kIn_of Y;have T:=topRead_of G.T;have k:mg (aF "law")=aG (.ref r):=b;rw [mg_of KX T.g (show nsIn (fr w.params) mainGlobals (aF "law")=aG (aG (.ref 282)) by kernel_rfl)]at k;cases k
 wrow_args c d g h i
 rename_i xs _ _ _ _ _ _ _ l t _ u _ _ _ x _ y _;refine bK (XJ JC w n ⟨KX,_,_,_,_,T⟩ xs l t (by have j:aC xs<=63:=aT 0x318a7ff301d2b54083d7ff301 y;exact bV j (by decide)) u x) (λv N p=>?_) λ_ _ e=>e.elim;obtain ⟨rfl,h',O,rfl,z⟩:=p;refine ⟨.inl ⟨_,.bool aU,[],rfl,λcls=>rfl,.bool aU,?_,λ_=>⟨.nil,λa A=>by cases A⟩⟩,OldK.of_keep z,rfl,.of_eq s⟩
 wrow_post
theorem holds3:PySem.Challenge.rw_mt0007_03.Holds:=hd BM
end
end Mine
end
theorem PySem.Challenge.cw_mt0007_03_holds : PySem.Challenge.rw_mt0007_03.Holds :=
  Mine.holds3
