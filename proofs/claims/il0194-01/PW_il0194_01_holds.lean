import PyProof.Rows.All
import Wide.All
import OpenK.AllK
import Wide.FinOn
import Lean
import PySem.Challenge.RW_il0194_01
set_option Elab.async false
set_option linter.all false
set_option maxRecDepth 100000
set_option genSizeOf false
set_option genInjectivity false
set_option backward.match.sparseCases false
set_option tactic.hygienic false
namespace Mine
open Array renaming length_toList→cH,getElem?_eq_getElem→kg,getD_eq_getD_getElem?→oJ,getElem?_eq_none_iff→oS,ext'→rN,getElem?_setIfInBounds_ne→xE,size_push→AD,getElem?_eq_some_iff→Be,size_setIfInBounds→Ef,toList_extract→Jx
open Bool renaming and_eq_true→aR,and_eq_true_iff→bQ,false_ne_true→bR,not_eq_true'→dM,false_eq_true→fB,or_eq_true→jB,eq_iff_iff→k9,or_false→nD,or_eq_false_iff→nO,not_eq_true→rA,or_eq_true_iff→uX,false_or→vU,not_eq_false→xF,true_and→EJ,eq_false_iff→RC,and_false→WI,false_and→WJ
open Eq renaming symm→iI,trans→EK
open Exists renaming elim→ak
open ForInStep renaming yield→gY
open Int renaming not_ofNat_neg→fQ,add_sub_cancel→jt,le_trans→kr,fmod_nonneg_of_pos→mH,fmod_lt_of_pos→pH,le_refl→qp,add_assoc→qW,add_neg_cancel_right→qX,neg_ofNat_le_natCast→qY,ofNat_add_one_out→tH,sub_eq_iff_eq_add→tK,add_nonneg→uO,ofNat_add_ofNat→vX,toNat_of_nonneg→vY,natCast_nonneg→wX,add_comm→xX,le_of_eq→xY,toNat→AF,le_antisymm→Bh,le_add_of_nonneg_right→Eh,lt_irrefl→G9,sub_zero→Jz,toNat_lt→JA,negSucc→Nm,sub_nonneg_of_le→Nn,lt_of_le_of_lt→RG,zero_le_ofNat→Sp,natCast_add→WN
open Int.Internal.Linear.Expr renaming var→gP,num→pP
open List renaming mem_append_right→aa,mem_append_left→af,mem_append→aj,mem_cons→av,getElem?_eq_some_iff→az,lookup_cons→aH,length_map→aM,length→aN,length_append→aO,map_append→aV,mem_map→aX,mem_of_getElem?→bf,range'→bg,getElem?_append_right→bw,mem_singleton→bA,nodup_cons→bF,getElem?_map→bM,mem_map_of_mem→bP,getElem?_eq_getElem→bS,length_drop→bT,map_map→bZ,range→b4,append_nil→cg,getElem?_eq_none_iff→cC,all_eq_true→cG,length_take→cM,contains_iff_mem→cS,length_reverse→cV,getElem?_append_left→cW,map_cons→cZ,mem_range→dF,take_length→dG,append_assoc→dN,take_of_length_le→dP,length_cons→dU,map_congr_left→e9,length_filter_le→fj,filter_nil→fm,length_range→fK,take_append_drop→fZ,getElem?_take_of_lt→gj,map_take→gk,filter_cons_of_neg→gy,mem_filter→gB,filterMap_cons→gD,map_reverse→gQ,filter_append→gZ,length_range'→g5,length_singleton→g6,drop_eq_getElem_cons→iB,getElem?_set→iF,mem_range'_1→iG,filter_cons→iW,filter_cons_of_pos→iX,getElem?_cons_zero→iY,drop_append_of_le_length→jk,forIn_cons→jC,map_drop→jE,concat_eq_append→jI,eq_nil_or_concat→jJ,drop_zero→j5,mapM_cons→j6,mem_of_mem_take→j7,takeWhile→j8,cons_ne_nil→kh,filter_eq_self→kI,sum_append→ly,nodup_append→mq,nodup_nil→mw,not_mem_nil→ng,eq_nil_of_length_eq_zero→nP,length_nil→n9,length_pos_iff→oM,getElem?_concat_length→oN,ext_getElem?→qi,getElem?_cons_succ→rB,mem_flatMap→rC,mem_reverse→rD,drop_eq_nil_of_le→rW,range_succ→sM,mem_iff_getElem?→tB,set_append_right→tC,getLast?_concat→uf,mem_of_mem_drop→ug,pairwise_append→uh,range_eq_range'→um,take_left→uo,getElem?_range→u0,map_eq_nil_iff→u5,sum_cons→vZ,pairwise_cons→wc,size_toArray→xH,drop_length→yD,getElem_mem→yE,range'_zero→yF,take_append_of_le_length→AG,takeWhile_cons_of_neg→C1,take_succ→C2,take_take→C3,all_cons→EM,range'_eq_map_range→EN,getLast?_cons_cons→Hf,pairwise_lt_range'→Hg,length_eq_one_iff→Ht,length_pos_of_mem→Hu,range_succ_eq_map→Hv,getElem?_reverse→JB,getElem?_toArray→JC,max?_eq_some_iff→JD,min?_eq_some_iff→JE,dropLast_concat→Lr,lookup→Ls,flatMap_append→Np,getElem?_drop→NU,getLast?_cons→NV,lookup_append→NW,mem_filterMap→NX,reverse_cons→RH,take_reverse→RI,any_eq_true→Sq,cons→Ss,cons_append→Su,getElem_inj→Sv,range'_succ→Sw,foldl_cons→Vq,take_zero→WQ
open List.Perm renaming swap→lg
open Nat renaming le_trans→ay,le_refl→aB,sub_le→aI,lt_or_gt_of_ne→aW,le_of_succ_le→bk,add_sub_cancel_left→b6,le_add_right→b7,le_of_eq→cU,lt_of_le_of_ne→dg,lt_of_lt_of_le→di,lt_succ_self→dJ,zero_lt_of_ne_zero→dR,succ_add_eq_add_succ→dY,zero_le→d7,le_of_lt_succ→eE,zero_add→fy,min_le_right→fE,le_add_right_of_le→fR,le_of_add_right_le→fS,ne_of_lt→fU,le_add_left→fV,sub_eq_iff_eq_add→f7,mul_le_mul_left→gE,add_comm→gI,succ_le_succ→gT,le_of_ble_eq_true→ia,sub_self→iH,lt_irrefl→iL,lt_add_right→ja,zero_lt_succ→jc,add_sub_cancel→ju,eq_zero_of_le_zero→jv,le_of_lt→jw,sub_add_cancel→jx,min_eq_left→jF,min_le_left→jG,lt_succ_of_le→jR,sub_one_lt_of_lt→kc,lt_of_not_le→kB,le_antisymm→lA,lt_of_le_of_lt→l6,le_total→mJ,lt_of_sub_eq_succ→ni,zero_lt_sub_of_lt→nj,add_assoc→nR,add_le_add_right→nX,sub_zero→oV,lt_of_lt_of_eq→pJ,pos_of_ne_zero→pK,le_succ_of_le→qq,lt_succ_of_lt→qt,exists_eq_add_of_lt→rQ,le_of_not_lt→rR,sub_sub_self→rS,add_zero→sN,strongRecOn→tD,sub_le_iff_le_add→tN,add_lt_add_right→uQ,mul_le_mul_right→uR,sub_lt_sub_left→v5,add_sub_of_le→xZ,lt_of_succ_lt→x8,lt_trichotomy→x9,sub_pos_of_lt→ya,zero_lt_of_lt→yb,le_of_not_ge→AH,min_eq_right→AI,not_le_of_lt→AJ,one_le_of_lt→AK,not_lt_zero→Bk,ble→C4,add_le_add→Ej,lt_add_one→Ek,lt_add_of_pos_right→Hx,lt_of_add_right_lt→JG,lt_or_ge→JH,mul_comm→JI,ne_of_gt→JJ,succ_pos→JK,add_sub_add_right→Lu,sub_eq_zero_of_le→Lv,add_add_add_comm→Nr,eq_sub_of_add_eq→Nt,not_succ_le_self→Nu,add_le_add_left→NZ,add_lt_add_left→N1,add_sub_cancel'→N2,sub_le_sub_left→N3,lt_of_lt_pred→Sx,add_left_inj→Vr
open Nat.succ renaming inj→C5
open Ne renaming symm→eO
open Option renaming map_eq_some_iff→aQ,bind_eq_some_iff→aY,none→e8,isNone_iff_eq_none→ic,isSome_iff_exists→pS,map_some→rU,getD_none→xJ,getD_some→xK,map→Lw
open Option.some renaming inj→aC,injEq→cB
open Or renaming elim→bJ
open PUnit renaming unit→Nx
open Prod renaming fst→uq,snd→WU
open Prod.mk renaming inj→WT
open PyProof renaming noPylong_small→El
open PyProof.Rows renaming fits_of_le20→fc,room_in_shaped→xy,subscriptTail→As,spliced_more→CO,AllBare→Ho,spliced_none→Se
open PySem renaming Value→ah,Params→ai,wpAny→aF,Shared→aG,sizeLine→aZ,Scope→bV,mainGlobals→cy,wpAny_holding→cF,World→dz,NameKind→d9,builtinLookup_eq_fast→eG,sliceBounds→fq,treeTable→iA,wpAny_of_eq→fJ,Around→fP,behindInMarks→fW,builtinsNs→fX,wpAny_rule→fY,rawInt→gu,Comprehension→gx,wpAny_standAt→gA,wpAny_newObj_type→gH,codeAny_builtin→gK,typeLookup_type→gO,PyData→g7,seg_bind_wrap→iw,wpAny_assign_Name→iT,Builtin→jm,seqIndex?→jz,model→jN,wpAny_call→jP,starEach→j3,wpAny_updateSeq→j4,methodCallPos→j9,FuncData→kP,isSubtype_type→kW,recursionLimit→k6,typeLookup→k8,entryFor_of_tree→lz,stripped→l9,wpAny_execs_nil→mF,typeIs_str→mS,DictEntry→mW,wpAny_field→m8,checkBoundCall→nE,getMethod_builtin→nF,wpAny_evalAll_nil→nK,wpAny_setField→nM,plainId_quiet→oR,wpAny_loadName_local→o8,importedModules→pN,wpAny_specialOf→pO,Program→qj,codeAny→qk,codeAny_mono→ql,wpAny_typeOf→qo,isSubtype→qF,GenState→qV,genEnv→qZ,methodCallForm→rg,sliceRange→ru,wpAny_newFunctionEnv_cells→ry,wpAny_seqItems→rz,keywordEach→su,backTo→sP,cellsFrom→tQ,entryFor→tR,stripSame→t8,wpAny_callSpecial?_slot→t9,wpAny_call_entry→ua,wpAny_isInstance→uc,Keyword→uP,OsState→Bl,call_meets→uS,cameBackBy→uT,linesOf→uU,Model→u7,Reads→vc,numAt→vM,codeAny_call_function→v8,Operator→wZ,assign→w4,compEnvC→xh,noteFrame→xS,specialOf→xT,list_getitem_lookup→yu,CmpOp→yC,arm_eval_Call→yK,isInstance→AQ,isTrue→AR,bindArgs→Bm,backToKw→Br,binaryOp→Bs,lineCuts→B0,argsOk→Er,checkBuiltinCall→Es,nsFind→Ez,strValues→EC,truthy→EF,updateSeq→EG,wpAny_execs_cons→EH,execs→FF,getItem→Ik,closureFor→JU,letTemporaryGo→Kq,methodCall→Kv,wpAny_Name→Ln,wpAny_runValue→Lo,inplaceOp→Pk,setFlight→QB,table→Q4,wpAny_callSpecial?_none→Ry,wpAny_listSubscript_int→Rz,callerA→RP,codeAny_func→RQ,wpAny_pyNext_list_item→Sg,wpAny_isTrue_Compare1→Vb,wpAny_pyIter_listiter→Vc,wpAny_pyNext_list_end→Vd,wpAny_raiseErrorWords→Ve,wpAny_storeName_local→Vf,evalEach→VK,interactive→V1,numAt_eq→V9,wpAny_alloc→WB,wpAny_letTemporaryGo→WC,wpAny_mkInt→WD,wpAny_pyNext_genexpQ→WE
open PySem.Arg renaming arg→eX
open PySem.Around renaming under_plainId→tw,frames_deeper→Hp
open PySem.AutoListH renaming list_append_list_val_0→uN
open PySem.Bind renaming madeBy→AE,checkArgs→CY,madeHere→EI,staticBase→Vj
open PySem.Builtin.Int renaming intBits→rO
open PySem.Builtin.List renaming listTooLong→gX,listSameRef→jQ,listExtendWith→vV,listSubscript?→vW,listItems→yy,listTouch→yz
open PySem.Builtin.ObjectAttr renaming Found→Si,attrName→Sj,find→Sk,takesStores→Sm
open PySem.Builtin.Range renaming small→qU,rangeFitsLong→uY
open PySem.Builtin.Str renaming occurrences→ir,strSliceIndices→iO,tooLong→nJ,glued→BK,partsBetween→CH,occurrences→Vu
open PySem.Calls renaming Name_function_global→gS,loadGlobal_builtin→kO,Constant_str→oU
open PySem.Challenge renaming rw_il0194_01→bB
open PySem.Code renaming builtin→Hq,quiet_builtin→NN
open PySem.Expr renaming Constant→EL,GeneratorExp→RD
open PySem.Expr.GeneratorExp renaming elim→Vl
open PySem.Expr.Name renaming elim→Nl
open PySem.F renaming plain_extend_loop→je,slot_list_getattribute→rP,slot_str_join→ue,entry_extend_loop→wW,type_list_append→xW,plainAttrs_str→Bf,slot_list_iadd→Bg,slot_str_splitlines→NQ,slot_str_translate→RE,entry_list_append→Sn,slot_list_append→Vm,slot_list_extend→Vn,slot_str_replace→Vo,entry_list_iadd→WK,plainAttrs_list→WL
open PySem.Heap renaming get?_push_of_some→bI,get?_update_self→bL,get?_update_other→bY,lt_size→gc,SameBut→mh,size_push→mj,get?_push_size→oK,ExtBut→Lp
open PySem.Heap.SameBut renaming update→iy
open PySem.Manifest renaming sig_collections_deque→we,varargsMethods→Bj,signature?→Hh,Signature→Hw,owners→Nq
open PySem.NameKind renaming free→tM,cell→RJ
open PySem.Obj renaming mapSeq→dm,mapFields→dO,data_mapFields→gb,isFreed_of_fields→nq
open PySem.PyData renaming eqv→u9,depth→wg,canLay0→AS,canLayAll0→Ny,depthAll→RK,keyHash→Sy
open PySem.Sem renaming onRaise_eq_wrap→N5,bind_eq_wrap'→Sz
open PySem.SeqAt renaming shaped→g9,canLay_of_shaped→iz
open PySem.Sre renaming inSet→l7,isWord→pL,M→Em
open PySem.Sre.M renaming admitted→jZ,attemptFrom→w6,attemptAt→AL,say→RM
open PySem.Str renaming ofString→aL,mk→kQ,length→RN
open PySem.StrLaws renaming lsBody→RO
open PySem.Txt renaming slice→jK
open PySem.Unicode renaming isSpace→bz,isLineBreak→fG,numberText→jd
open PySem.Value renaming none→dZ,ref→gJ,type→gU,str→oQ,builtin→W0
open PySem.Value.ref renaming inj→AM
open PySem.W renaming hideAll→cT,emptyDict→gq,findIn→jO,hideAll_get→kU,piecesOf→kZ,instObj→qm,segGo_of→aaf,Looks→rX,topFrame→xC,looks_findIn→uV,piece_app→EA,segRun_of→EB,seg_go→aag,plainGet→CI,hasDictIn→Eu,callWith_of→E9,TopRead→HF,mg_none_of→Kx,namesBound→Kz,topRun→Lg,fencedOpening→NB,staticsOk→QH,byRow2→xd,hideAll_size→RT,keepIn→Sa,looseW→Sb,topStub→Sf,WData→Vz,WRecords→VA,gensDone→VO,laidKept→V6
open PySem.W.Fast renaming te14364793385576792824→bq,te10295753902157049106→aae,te10110043849684766642→bG
open PySem.W.KtsTurn renaming refl→Ei
open PySem.W.Looks renaming of_peek→f9,of_pure→u6,ld→JF
open PySem.W.WShape renaming hasItems→yI,has→Ly
open PySem.W.WTm renaming value→HG,holds→VB
open Std.LawfulOrderLeftLeaningMin renaming min_eq_right→Bq
open Std.LawfulOrderOrd renaming isLE_compare_eq_false→SA
open String renaming ofList→Vw
open Subtype renaming val→sO
open _root_ renaming if_pos→aA,beq_eq_false_iff_ne→aJ,congrArg→aK,if_neg→aS,decide_eq_true_eq→br,of_decide_eq_true→cA,decide_eq_true→cL,beq_self_eq_true→cY,String→dD,Array→eF,decide_eq_false→ez,if_true→gz,decide_eq_false_iff_not→gF,congrFun→xj,False→iP,if_false→jy,decide_eq_true_iff→mK,Decidable→mV,le_of_eq_of_le→nG,ForInStep→xG,Subtype→Hz,bne_iff_ne→JS,or_false→KZ,true_and→Wy
local macro_rules |`(tactic|rfl')=>`(tactic|kernel_rfl)
noncomputable section
inductive Zx | v (i:Nat) | n (k:Nat) | a (x y:Zx) | m (k:Nat) (x:Zx) | r (x:Zx) (k:Nat) | s (x:Zx)
noncomputable abbrev au:=Zx.v 0
noncomputable abbrev aE:=Zx.v 1
noncomputable abbrev aT:=Zx.v 2
noncomputable abbrev bX:=Zx.v 3
noncomputable abbrev fh:=Zx.v 4
noncomputable abbrev m9:=Zx.v 5
noncomputable abbrev vS:=Zx.v 6
noncomputable abbrev G6:=Zx.v 7
noncomputable abbrev bH:=gP 0
noncomputable abbrev cQ:=gP 1
noncomputable abbrev jg:=gP 2
noncomputable abbrev vA:=gP 3
noncomputable abbrev i6:=pP 0
noncomputable abbrev gR:=Zx.n 0
noncomputable abbrev eB:=pP 1
noncomputable abbrev jr:=Zx.n 1
noncomputable def ad0 (c:List Nat):Nat→Nat:=c.rec (fun _=>0) fun a _ ih n=>Nat.rec a (fun m _=>ih m) n
noncomputable def Bd (c:List Nat):(Nat→Nat)→Nat:=c.rec (fun _=>0) fun a _ ih f=>f 0*a+ih fun i=>f (i+1)
noncomputable def AA (c:List Nat):(Nat→Nat)→(Nat→Nat)→Bool:=c.rec (fun _ _=>true) fun _ _ ih f g=>and (C4 (f 0) (g 0)) (ih (fun i=>f (i+1)) fun i=>g (i+1))
noncomputable def Zx.den (c:List Nat) (x:Zx):Nat:=x.rec (ad0 c) (fun k=>k) (fun _ _ p q=>p+q) (fun k _ p=>k*p) (fun _ k p=>p*k) fun _ p=>p+1
noncomputable def Nk (k j:Nat):Nat:=Nat.rec k (fun _ _=>0) j
noncomputable def zD0 (i j:Nat):Nat:=cond (Nat.beq i j) 1 0
noncomputable def Zx.co (x:Zx):Nat→Nat:=x.rec (fun i=>zD0 (i+1)) Nk (fun _ _ p q j=>p j+q j) (fun k _ p j=>k*p j) (fun _ k p j=>k*p j) fun _ p j=>Nk 1 j+p j
theorem mU (c f g):Bd c (fun i=>f i+g i)=Bd c f+Bd c g:=by
 induction c generalizing f g with
 | nil=>exact rfl
 | cons a l ih=>exact (aK ((f 0+g 0)*a + ·) (ih _ _)).trans ((aK (· + _) (Nat.add_mul _ _ _)).trans (Nr _ _ _ _))
theorem tu (k c f):Bd c (fun i=>k*f i)=k*Bd c f:=by
 induction c generalizing f with
 | nil=>exact rfl
 | cons a l ih=>exact (aK (k*f 0*a + ·) (ih _)).trans ((aK (· + _) (Nat.mul_assoc _ _ _)).trans (Nat.mul_add _ _ _).symm)
theorem RA (c f g) (h:AA c f g=true):Bd c f≤Bd c g:=by
 induction c generalizing f g with
 | nil=>exact aB _
 | cons a l ih =>
  have h:=bQ.mp h;exact Ej (uR _ (ia h.1)) (ih _ _ h.2)
theorem G5 (c):Bd c (fun _=>0)=0:=by
 induction c with
 | nil=>exact rfl
 | cons a l ih=>exact (aK (0*a + ·) ih).trans (Nat.zero_mul a)
theorem Vh (c i):Bd c (zD0 i)=ad0 c i:=by
 induction c generalizing i with
 | nil=>exact rfl
 | cons a l ih =>
  cases i with
  | zero=>exact (aK (1*a + ·) (G5 l)).trans (Nat.one_mul a)
  | succ i=>exact (aK (0*a + ·) (ih i)).trans ((aK (· + _) (Nat.zero_mul a)).trans (fy _))
theorem yx (c k):Bd (1 :: c) (Nk k)=k:=(aK (k*1 + ·) (G5 c)).trans (Nat.mul_one k)
theorem Zx.wu (c) (x:Zx):Bd (1 :: c) x.co=x.den c:=by
 induction x with
 | v i=>exact (aK (0*1 + ·) (Vh c i)).trans (fy _)
 | n k=>exact yx c k
 | a x y hx hy=>exact (mU _ _ _).trans (congr (aK _ hx) hy)
 | m k x hx=>exact (tu _ _ _).trans (aK _ hx)
 | r x k hx=>exact ((tu _ _ _).trans (aK _ hx)).trans (JI _ _)
 | s x hx=>exact (mU _ _ _).trans ((congr (aK _ (yx c 1)) hx).trans (gI _ _))
inductive Zh | e | h (k:Nat) (l r:Zx) (t:Zh) | g (l r:Zx) (t:Zh)
noncomputable def Zh.to (c:List Nat) (G:Prop) (q:Zh):Prop:=q.rec G (fun _ l r _ p=>l.den c≤r.den c→p) fun l r _ p=>l.den c≤r.den c→p
noncomputable def Zh.lo (q:Zh):Nat→Nat:=q.rec (fun _=>0) (fun k l _ _ p j=>k*l.co j+p j) fun l _ _ p j=>l.co j+p j
noncomputable def Zh.hi (q:Zh):Nat→Nat:=q.rec (fun _=>0) (fun k _ r _ p j=>k*r.co j+p j) fun _ r _ p j=>r.co j+p j
theorem Zh.GU (c:List Nat) (G:Prop) (q:Zh) (A B:Nat) (hG:A+Bd (1 :: c) q.lo≤B+Bd (1 :: c) q.hi→G) (h0:A≤B):q.to c G:=by
 induction q generalizing A B with
 | e=>exact hG (nX h0 _)
 | h k l r t ih=>exact fun hl=>ih (A+k*l.den c) (B+k*r.den c) (fun h=>hG (by
   rw[show Bd (1 :: c) (Zh.h k l r t).lo=k*l.den c+Bd (1 :: c) t.lo from (mU _ _ _).trans (aK (· + _) ((tu _ _ _).trans (aK _ (l.wu c)))),show Bd (1 :: c) (Zh.h k l r t).hi=k*r.den c+Bd (1 :: c) t.hi from (mU _ _ _).trans (aK (· + _) ((tu _ _ _).trans (aK _ (r.wu c)))),← nR,← nR];exact h)) (Ej h0 (gE k hl))
 | g l r t ih=>exact fun hl=>ih (A+l.den c) (B+r.den c) (fun h=>hG (by
   rw[show Bd (1 :: c) (Zh.g l r t).lo=l.den c+Bd (1 :: c) t.lo from (mU _ _ _).trans (aK (· + _) (l.wu c)),show Bd (1 :: c) (Zh.g l r t).hi=r.den c+Bd (1 :: c) t.hi from (mU _ _ _).trans (aK (· + _) (r.wu c)),← nR,← nR];exact h)) (Ej h0 hl)
theorem zi (c:List Nat) (d:Nat) (q:Zh) (l r:Zx) (ck:AA (1 :: c) (fun j=>(d+1)*l.co j+q.hi j) (fun j=>(Nk d j+(d+1)*r.co j)+q.lo j)=true):q.to c (l.den c≤r.den c):=
 q.GU c _ 0 0 (fun h=>by
  have h2:=RA _ _ _ ck;rw[mU,mU,mU,tu,tu,l.wu,r.wu,yx] at h2;rw[fy,fy] at h;exact eE (Nat.lt_of_mul_lt_mul_left (a:=d+1) (l6 (Nat.le_of_add_le_add_right (ay h2 (NZ h _))) (by rw[Nat.mul_succ,gI];exact N1 (dJ d) _)))) (aB _)
theorem z0 (c:List Nat) (q:Zh) (ck:AA (1 :: c) (fun j=>Nk 1 j+q.hi j) q.lo=true):q.to c iP:=
 q.GU c _ 0 0 (fun h=>by
  have h2:=RA _ _ _ ck;rw[mU,yx] at h2;rw[fy,fy] at h;exact Nu _ (gI 1 _ ▸ ay h2 h)) (aB _)
theorem zC:true=true:=rfl
theorem zB {a b:Nat} (h:b≤a):a - b+b≤a:=cU (jx h)
theorem zS (a b:Nat):a≤a - b+b:=tN.mp (aB _)
theorem zL {a b:Nat} (h:0<a - b):a - b+b≤a:=zB (jw (Nat.lt_of_sub_pos h))
theorem zK {a b:Nat} (h:a≤b):a - b≤0:=cU (Lv h)
theorem zA {a b:Nat} (h:a=b):a≤b:=cU h
theorem zG {a b:Nat} (h:a=b):b≤a:=cU h.symm
theorem zN {a b:Nat} (h:¬ a≤b):b<a:=kB h
theorem zM {a b:Nat} (h:¬ a<b):b≤a:=rR h
theorem zP {a:Nat} (h:a≠0):0<a:=pK h
theorem zQ {a b:Nat} (h:a≤b) (h2:b≤a):a=b:=lA h h2
theorem zmn {a b:Nat} (h:a≤b):a≤min a b:=Nat.le_min.mpr ⟨aB a,h⟩
theorem rvI {N i:Nat} (h:i<N - 1):N - (N - 1 - 1 - i+1)=i+1:=by
 cases N with
 | zero=>exact absurd h (Bk i)
 | succ n =>
  refine ak (rQ h) fun d e=>?_;have e:n=i+d+1:=e;rw[e];show i+d+1+1 - (i+d - i+1)=i+1;rw[b6,Lu,Nat.add_right_comm,ju]
theorem rvK (L i j:Nat):L - i - (L - j)≤j - i:=
 tN.mpr (tN.mpr (zi [L,j,L - j,j - i,i] 0 (.g (.v 0) (.a (.v 2) (.v 1)) (.g (.v 1) (.a (.v 3) (.v 4)) .e)) (.v 0) (.a (.a (.v 3) (.v 2)) (.v 4)) zC (zS L j) (zS j i)))
theorem rvJ {L i j a b A B T r:Nat} (h1:i<j) (p1:a+A=T) (p2:b+B=T) (h:b+(j - i)≤r+1+a):A+(L - i - (L - j))≤r+1+B:=
 zi [a,A,T,b,B,j - i,L - i - (L - j),r] 0 (.g (.v 6) (.v 5) (.g (.a (.v 0) (.v 1)) (.v 2) (.g (.v 2) (.a (.v 3) (.v 4)) (.g (.a (.v 3) (.v 5)) (.a (.s (.v 7)) (.v 0)) .e)))) (.a (.v 1) (.v 6)) (.a (.s (.v 7)) (.v 4)) zC (rvK L i j) (zA p1) (zG p2) h
theorem mnI {a b L:Nat} (lt:a<b) (le:b≤L) (h:min (b - a) (L - a)=0):iP:=
 iL 0 (pJ (Nat.lt_min.mpr ⟨ya lt,ya (di lt le)⟩) h)
theorem jj {a K M:Nat} (h0:a≤K) (e:C4 K M=true):a≤M:=ay h0 (ia e)
theorem sy {a b K M:Nat} (h0:a≤b) (h1:b≤K) (e:C4 K M=true):a≤M:=ay (ay h0 h1) (ia e)
theorem vF {a b K M:Nat} (h0:a≤b+1) (h1:b≤K) (e:C4 (K+1) M=true):a≤M:=ay (ay h0 (gT h1)) (ia e)
theorem Ko {a b c K M:Nat} (h0:a≤b) (h1:b≤c) (h2:c≤K) (e:C4 K M=true):a≤M:=ay (ay h0 (ay h1 h2)) (ia e)
theorem kt4 {a b c d K M:Nat} (h0:a≤b) (h1:b≤c) (h2:c≤d) (h3:d≤K) (e:C4 K M=true):a≤M:=ay (ay h0 (ay h1 (ay h2 h3))) (ia e)
theorem DF {a b c:Nat} (h0:a+1≤c) (h1:c≤b):a≤b:=zi [a,b,c] 0 (.g (.s (.v 0)) (.v 2) (.g (.v 2) (.v 1) .e)) (.v 0) (.v 1) zC h0 h1
theorem Ey {a b c:Nat} (h0:a≤c) (h1:c+1≤b):a+1≤b:=zi [a,b,c] 0 (.g (.v 0) (.v 2) (.g (.a (.v 2) (.n 1)) (.v 1) .e)) (.s (.v 0)) (.v 1) zC h0 h1
theorem Km {a b c:Nat} (h0:a≤c) (h1:c≤b):a≤b:=zi [a,b,c] 0 (.g (.v 0) (.v 2) (.g (.v 2) (.v 1) .e)) (.v 0) (.v 1) zC h0 h1
theorem Kn {a b c:Nat} (h0:1≤b) (h1:b≤c) (h2:c≤a):1≤a:=zi [a,b,c] 0 (.g (.n 1) (.v 1) (.g (.v 1) (.v 2) (.g (.v 2) (.v 0) .e))) (.n 1) (.v 0) zC h0 h1 h2
theorem NJ {a b:Nat} (h0:a+1≤b):a≤b:=zi [a,b] 0 (.g (.s (.v 0)) (.v 1) .e) (.v 0) (.v 1) zC h0
theorem RZ {a:Nat} (h0:0+1≤a):1≤a:=zi [a] 0 (.g (.s (.n 0)) (.v 0) .e) (.n 1) (.v 0) zC h0
theorem R9 {a b:Nat} (h0:a+1≤b+1):a≤b:=zi [a,b] 0 (.g (.s (.v 0)) (.s (.v 1)) .e) (.v 0) (.v 1) zC h0
theorem V4 {a b c:Nat} (h0:a+1≤c) (h1:c≤b+1):a≤b:=zi [a,b,c] 0 (.g (.s (.v 0)) (.v 2) (.g (.v 2) (.s (.v 1)) .e)) (.v 0) (.v 1) zC h0 h1
theorem V5 {a b:Nat} (h0:a≤b+1) (h1:(b+1)+1≤a):a≤b:=zi [a,b] 0 (.h 2 (.v 0) (.s (.v 1)) (.g (.s (.s (.v 1))) (.v 0) .e)) (.v 0) (.v 1) zC h0 h1
theorem IE {a b:Nat} (h0:a+1≤b) (h1:b≤a):iP:=z0 [a,b] (.g (.s (.v 0)) (.v 1) (.g (.v 1) (.v 0) .e)) zC h0 h1
theorem IF {a b:Nat} (h0:a+1≤b+1) (h1:b+1≤a):a+1≤b:=zi [a,b] 0 (.h 2 (.s (.v 0)) (.s (.v 1)) (.g (.s (.v 1)) (.v 0) .e)) (.s (.v 0)) (.v 1) zC h0 h1
theorem IG {a b c:Nat} (h0:a+(b+1)≤c):(a+1)+b≤c:=zi [a,b,c] 0 (.g (.a (.v 0) (.s (.v 1))) (.v 2) .e) (.a (.s (.v 0)) (.v 1)) (.v 2) zC h0
theorem Mq {a b c:Nat} (h0:a+(c+1)≤b):a+1≤b:=zi [a,b,c] 0 (.g (.a (.v 0) (.s (.v 2))) (.v 1) .e) (.s (.v 0)) (.v 1) zC h0
theorem Pq {a b:Nat} (h0:a≤0):a≤b:=zi [a,b] 0 (.g (.v 0) (.n 0) .e) (.v 0) (.v 1) zC h0
theorem Pr {a b c d:Nat} (h0:a+c≤d) (h1:d≤c+b):a≤b:=zi [a,b,c,d] 0 (.g (.a (.v 0) (.v 2)) (.v 3) (.g (.v 3) (.a (.v 2) (.v 1)) .e)) (.v 0) (.v 1) zC h0 h1
theorem Pu {a b c d:Nat} (h0:c+a≤d) (h1:d≤b+c):a≤b:=zi [a,b,c,d] 0 (.g (.a (.v 2) (.v 0)) (.v 3) (.g (.v 3) (.a (.v 1) (.v 2)) .e)) (.v 0) (.v 1) zC h0 h1
theorem T4 {a b c:Nat} (h0:a+1≤b) (h1:b≤c) (h2:c≤a):iP:=z0 [a,b,c] (.g (.s (.v 0)) (.v 1) (.g (.v 1) (.v 2) (.g (.v 2) (.v 0) .e))) zC h0 h1 h2
theorem T5 {a b:Nat} (h0:a≤b) (h1:b+1≤a):a+1≤b:=zi [a,b] 0 (.h 2 (.v 0) (.v 1) (.g (.s (.v 1)) (.v 0) .e)) (.s (.v 0)) (.v 1) zC h0 h1
theorem T7 {a b c:Nat} (h0:a≤c+1) (h1:c≤b):a≤b+1:=zi [a,b,c] 0 (.g (.v 0) (.s (.v 2)) (.g (.v 2) (.v 1) .e)) (.v 0) (.s (.v 1)) zC h0 h1
theorem T8 {a b c d e:Nat} (h0:a+c≤d) (h1:d≤b+e) (h2:e+1≤c):a+1≤b:=zi [a,b,c,d,e] 0 (.g (.a (.v 0) (.v 2)) (.v 3) (.g (.v 3) (.a (.v 1) (.v 4)) (.g (.s (.v 4)) (.v 2) .e))) (.s (.v 0)) (.v 1) zC h0 h1 h2
theorem T9 {a b c d:Nat} (h0:c+a≤d) (h1:d≤c):a≤b:=zi [a,b,c,d] 0 (.g (.a (.v 2) (.v 0)) (.v 3) (.g (.v 3) (.v 2) .e)) (.v 0) (.v 1) zC h0 h1
theorem Ua {a b c:Nat} (h0:a≤b+(c+1)):a≤(b+1)+c:=zi [a,b,c] 0 (.g (.v 0) (.a (.v 1) (.s (.v 2))) .e) (.v 0) (.a (.s (.v 1)) (.v 2)) zC h0
theorem Ub {a:Nat}  : 1≤a+1:=zi [a] 0 .e (.n 1) (.s (.v 0)) zC
theorem XY {a b c:Nat} (h0:a+1≤c) (h1:c≤b):a+1≤b:=zi [a,b,c] 0 (.g (.s (.v 0)) (.v 2) (.g (.v 2) (.v 1) .e)) (.s (.v 0)) (.v 1) zC h0 h1
theorem XZ {a b c d:Nat} (h0:a+1≤c) (h1:c≤d) (h2:d≤b+1):a≤b:=zi [a,b,c,d] 0 (.g (.s (.v 0)) (.v 2) (.g (.v 2) (.v 3) (.g (.v 3) (.a (.v 1) (.n 1)) .e))) (.v 0) (.v 1) zC h0 h1 h2
theorem X0 {a b c d:Nat} (h0:c+a≤b) (h1:d+1≤c):a+1≤b:=zi [a,b,c,d] 0 (.g (.a (.v 2) (.v 0)) (.v 1) (.g (.s (.v 3)) (.v 2) .e)) (.s (.v 0)) (.v 1) zC h0 h1
theorem X3 {a b:Nat} (h0:a+1≤b) (h1:b+1≤a+1):iP:=z0 [a,b] (.g (.s (.v 0)) (.v 1) (.g (.s (.v 1)) (.s (.v 0)) .e)) zC h0 h1
theorem X4 {a b:Nat} (h0:b+1≤a):1≤a:=zi [a,b] 0 (.g (.s (.v 1)) (.v 0) .e) (.n 1) (.v 0) zC h0
theorem X5 {a b c:Nat} (h0:a+c≤b) (h1:0+1≤c):a+1≤b:=zi [a,b,c] 0 (.g (.a (.v 0) (.v 2)) (.v 1) (.g (.s (.n 0)) (.v 2) .e)) (.s (.v 0)) (.v 1) zC h0 h1
theorem X6 {a b c d e:Nat} (h0:c+a≤d) (h1:d≤e+b) (h2:e≤c):a≤b:=zi [a,b,c,d,e] 0 (.g (.a (.v 2) (.v 0)) (.v 3) (.g (.v 3) (.a (.v 4) (.v 1)) (.g (.v 4) (.v 2) .e))) (.v 0) (.v 1) zC h0 h1 h2
theorem X7 {a:Nat}  : a≤a:=zi [a] 0 .e (.v 0) (.v 0) zC
theorem X8 {a b:Nat} (h0:a≤b+1):a≤b+1:=zi [a,b] 0 (.g (.v 0) (.a (.v 1) (.n 1)) .e) (.v 0) (.s (.v 1)) zC h0
theorem X9 {a b:Nat} (h0:a+1≤b):a+1≤b:=zi [a,b] 0 (.g (.a (.v 0) (.n 1)) (.v 1) .e) (.s (.v 0)) (.v 1) zC h0
theorem Yb {a b:Nat} (h0:a≤500) (h1:16777216≤b):a≤b:=zi [a,b] 0 (.g (.v 0) (.n 500) (.g (.n 16777216) (.v 1) .e)) (.v 0) (.v 1) zC h0 h1
theorem Yc {a b c:Nat} (h0:a+(c+1)≤1000) (h1:b≤1):(a+b)+c≤1000:=zi [a,b,c] 0 (.g (.a (.v 0) (.s (.v 2))) (.n 1000) (.g (.v 1) (.n 1) .e)) (.a (.a (.v 0) (.v 1)) (.v 2)) (.n 1000) zC h0 h1
theorem Yd {a b c d:Nat} (h0:b+1≤c) (h1:c≤d) (h2:d≤a):1≤a:=zi [a,b,c,d] 0 (.g (.s (.v 1)) (.v 2) (.g (.v 2) (.v 3) (.g (.v 3) (.v 0) .e))) (.n 1) (.v 0) zC h0 h1 h2
theorem acv {a b c:Nat} (h0:a≤b+3) (h1:b+(4*c)≤900):a+1≤1000:=zi [a,b,c] 0 (.g (.v 0) (.a (.v 1) (.n 3)) (.g (.a (.v 1) (.m 4 (.v 2))) (.n 900) .e)) (.s (.v 0)) (.n 1000) zC h0 h1
theorem acw {a b c d:Nat} (h0:a≤c) (h1:c+1≤d) (h2:d≤b):a+1≤b:=zi [a,b,c,d] 0 (.g (.v 0) (.v 2) (.g (.a (.v 2) (.n 1)) (.v 3) (.g (.v 3) (.v 1) .e))) (.s (.v 0)) (.v 1) zC h0 h1 h2
theorem acy {a b:Nat} (h0:a≤0+b):a≤b:=zi [a,b] 0 (.g (.v 0) (.a (.n 0) (.v 1)) .e) (.v 0) (.v 1) zC h0
theorem acz {a b c d e:Nat} (h0:a≤d) (h1:b≤e) (h2:e+d≤c):a+b≤c:=zi [a,b,c,d,e] 0 (.g (.v 0) (.v 3) (.g (.v 1) (.v 4) (.g (.a (.v 4) (.v 3)) (.v 2) .e))) (.a (.v 0) (.v 1)) (.v 2) zC h0 h1 h2
theorem acB {a b c:Nat} (h0:a≤c) (h1:c+1≤b+1):a≤b:=zi [a,b,c] 0 (.g (.v 0) (.v 2) (.g (.a (.v 2) (.n 1)) (.s (.v 1)) .e)) (.v 0) (.v 1) zC h0 h1
theorem acC {a b c d:Nat} (h0:b+a≤d) (h1:d≤c):a+b≤c:=zi [a,b,c,d] 0 (.g (.a (.v 1) (.v 0)) (.v 3) (.g (.v 3) (.v 2) .e)) (.a (.v 0) (.v 1)) (.v 2) zC h0 h1
theorem acD {a b c:Nat} (h0:a+(1+b)≤c) (h1:c≤500):a≤1048575:=zi [a,b,c] 0 (.g (.a (.v 0) (.a (.n 1) (.v 1))) (.v 2) (.g (.v 2) (.n 500) .e)) (.v 0) (.n 1048575) zC h0 h1
theorem acE {a b:Nat} (h0:4095≤a+b):4096≤(a+1)+b:=zi [a,b] 0 (.g (.n 4095) (.a (.v 0) (.v 1)) .e) (.n 4096) (.a (.s (.v 0)) (.v 1)) zC h0
theorem acF {a b:Nat} (h0:a+b≤4095):(a+1)+b≤4096:=zi [a,b] 0 (.g (.a (.v 0) (.v 1)) (.n 4095) .e) (.a (.s (.v 0)) (.v 1)) (.n 4096) zC h0
theorem acG {a b:Nat} (h0:a≤b+2) (h1:b≤100):a≤1048576:=zi [a,b] 0 (.g (.v 0) (.a (.v 1) (.n 2)) (.g (.v 1) (.n 100) .e)) (.v 0) (.n 1048576) zC h0 h1
theorem acH {a b:Nat} (h0:a+1≤b):1+a≤b:=zi [a,b] 0 (.g (.a (.v 0) (.n 1)) (.v 1) .e) (.a (.n 1) (.v 0)) (.v 1) zC h0
theorem acI {a b:Nat} (h0:a≤900) (h1:b≤900):a+b≤1048576:=zi [a,b] 0 (.g (.v 0) (.n 900) (.g (.v 1) (.n 900) .e)) (.a (.v 0) (.v 1)) (.n 1048576) zC h0 h1
theorem acJ {a b c:Nat} (h0:a+1≤c) (h1:c≤b+1):a+1≤1+b:=zi [a,b,c] 0 (.g (.s (.v 0)) (.v 2) (.g (.v 2) (.a (.v 1) (.n 1)) .e)) (.s (.v 0)) (.a (.n 1) (.v 1)) zC h0 h1
theorem uM {a:Nat} (Q:Zh) (L R:Zx) (C:AA (1 :: [a]) (fun j=>(0+1)*L.co j+Q.hi j) (fun j=>(Nk 0 j+(0+1)*R.co j)+Q.lo j)=true):Q.to [a] (L.den [a]≤R.den [a]):=zi [a] 0 Q L R C
theorem oH {a b:Nat} (Q:Zh) (L R:Zx) (C:AA (1 :: [a,b]) (fun j=>(0+1)*L.co j+Q.hi j) (fun j=>(Nk 0 j+(0+1)*R.co j)+Q.lo j)=true):Q.to [a,b] (L.den [a,b]≤R.den [a,b]):=zi [a,b] 0 Q L R C
theorem rM {a b c:Nat} (Q:Zh) (L R:Zx) (C:AA (1 :: [a,b,c]) (fun j=>(0+1)*L.co j+Q.hi j) (fun j=>(Nk 0 j+(0+1)*R.co j)+Q.lo j)=true):Q.to [a,b,c] (L.den [a,b,c]≤R.den [a,b,c]):=zi [a,b,c] 0 Q L R C
theorem xV {a b c d:Nat} (Q:Zh) (L R:Zx) (C:AA (1 :: [a,b,c,d]) (fun j=>(0+1)*L.co j+Q.hi j) (fun j=>(Nk 0 j+(0+1)*R.co j)+Q.lo j)=true):Q.to [a,b,c,d] (L.den [a,b,c,d]≤R.den [a,b,c,d]):=zi [a,b,c,d] 0 Q L R C
theorem G7 {a b c d e:Nat} (Q:Zh) (L R:Zx) (C:AA (1 :: [a,b,c,d,e]) (fun j=>(0+1)*L.co j+Q.hi j) (fun j=>(Nk 0 j+(0+1)*R.co j)+Q.lo j)=true):Q.to [a,b,c,d,e] (L.den [a,b,c,d,e]≤R.den [a,b,c,d,e]):=zi [a,b,c,d,e] 0 Q L R C
theorem zi6 {a b c d e f:Nat} (Q:Zh) (L R:Zx) (C:AA (1 :: [a,b,c,d,e,f]) (fun j=>(0+1)*L.co j+Q.hi j) (fun j=>(Nk 0 j+(0+1)*R.co j)+Q.lo j)=true):Q.to [a,b,c,d,e,f] (L.den [a,b,c,d,e,f]≤R.den [a,b,c,d,e,f]):=zi [a,b,c,d,e,f] 0 Q L R C
theorem zi7 {a b c d e f g:Nat} (Q:Zh) (L R:Zx) (C:AA (1 :: [a,b,c,d,e,f,g]) (fun j=>(0+1)*L.co j+Q.hi j) (fun j=>(Nk 0 j+(0+1)*R.co j)+Q.lo j)=true):Q.to [a,b,c,d,e,f,g] (L.den [a,b,c,d,e,f,g]≤R.den [a,b,c,d,e,f,g]):=zi [a,b,c,d,e,f,g] 0 Q L R C
theorem zi8 {a b c d e f g h:Nat} (Q:Zh) (L R:Zx) (C:AA (1 :: [a,b,c,d,e,f,g,h]) (fun j=>(0+1)*L.co j+Q.hi j) (fun j=>(Nk 0 j+(0+1)*R.co j)+Q.lo j)=true):Q.to [a,b,c,d,e,f,g,h] (L.den [a,b,c,d,e,f,g,h]≤R.den [a,b,c,d,e,f,g,h]):=zi [a,b,c,d,e,f,g,h] 0 Q L R C
open Int.Internal.Linear in
inductive Zg | e | h (k:Int) (l r:Expr) (t:Zg) | g (l r:Expr) (t:Zg)
noncomputable def zr (c:List Int):Lean.RArray Int:=c.rec (fun _=>.leaf 0) (fun a _ ih k=>.branch (k+1) (.leaf a) (ih (k+1))) 0
open Int.Internal.Linear in
noncomputable def Zg.to (c:Context) (G:Prop) (q:Zg):Prop:=q.rec G (fun _ l r _ p=>l.denote c≤r.denote c→p) fun l r _ p=>l.denote c≤r.denote c→p
open Int.Internal.Linear in
noncomputable def Zg.ex (q:Zg):Expr:=q.rec (.num 0) (fun k l r _ p=>.add (.mulL k (.sub r l)) p) fun l r _ p=>.add (.sub r l) p
noncomputable def Zg.ok (q:Zg):Bool:=q.rec true (fun k _ _ _ p=>and (decide (0≤k)) p) fun _ _ _ p=>p
open Int.Internal.Linear in
theorem Zg.GU (c:Context) (G:Prop) (q:Zg) (A:Int) (hk:q.ok=true) (hG:0≤A+q.ex.denote c→G) (h0:0≤A):q.to c G:=by
 induction q generalizing A with
 | e=>exact hG (uO h0 (qp 0))
 | h k l r t ih =>
  have hk:=bQ.mp hk;exact fun hl=>ih (A+k*(r.denote c - l.denote c)) hk.2 (fun h=>hG (qW _ _ _ ▸ h)) (uO h0 (Int.mul_nonneg (cA hk.1) (Nn hl)))
 | g l r t ih=>exact fun hl=>ih (A+(r.denote c - l.denote c)) hk (fun h=>hG (qW _ _ _ ▸ h)) (uO h0 (Nn hl))
open Int.Internal.Linear in
noncomputable def zOk (d:Int) (p:Poly):Bool:=p.rec (fun k=>decide (k≤d)) fun _ _ _ _=>false
open Int.Internal.Linear in
theorem RB {c d p} (h:zOk d p=true):Poly.denote c p≤d:=by
 cases p with
 | num k=>exact cA h
 | add=>exact Bool.noConfusion h
open Int.Internal.Linear in
theorem zI (C:List Int) (d:Int) (q:Zg) (l r:Expr) (ck:and q.ok (and (decide (0≤d)) (zOk d (Expr.add (.mulL (d+1) (.sub l r)) q.ex).norm))=true):q.to (zr C) (l.denote (zr C)≤r.denote (zr C)):=by
 have h1:=bQ.mp ck;have h2:=bQ.mp h1.2;have hd:=cA h2.1;refine q.GU _ _ 0 h1.1 (fun h=>?_) (qp 0);have h3:=RB (c:=zr C) h2.2;rw[Expr.denote_norm] at h3;have h4:(d+1)*(l.denote (zr C) - r.denote (zr C))+q.ex.denote (zr C)≤d:=h3;rw[Int.zero_add] at h;have h5:(d+1)*(l.denote (zr C) - r.denote (zr C))<(d+1)*1:=by
  rw[Int.mul_one];exact Int.lt_add_one_of_le (kr (Eh h) h4)
 exact Int.le_of_sub_nonpos (Int.le_of_lt_add_one (Int.lt_of_mul_lt_mul_left h5 (kr hd (Eh (by decide)))))
open Int.Internal.Linear in
theorem zJ (C:List Int) (q:Zg) (ck:and q.ok (zOk (-1) q.ex.norm)=true):q.to (zr C) iP:=by
 have h1:=bQ.mp ck;refine q.GU _ _ 0 h1.1 (fun h=>?_) (qp 0);have h3:=RB (c:=zr C) h1.2;rw[Expr.denote_norm] at h3;rw[Int.zero_add] at h;exact absurd (kr h h3) (by decide)
theorem zW (x:Nat):0≤(x:Int):=wX x
theorem zO {a b:Nat} (h:a≤b):(a:Int)≤b:=Int.ofNat_le.mpr h
theorem zU {a b:Nat} (h:(a:Int)≤b):a≤b:=Int.ofNat_le.mp h
theorem zq {a b:Int} (h:a≤b) (h2:b≤a):a=b:=Bh h h2
theorem za {a b:Int} (h:a=b):a≤b:=xY h
theorem zg {a b:Int} (h:a=b):b≤a:=xY h.symm
theorem zm {a b:Int} (h:¬ a<b):b≤a:=Int.not_lt.mp h
theorem zt (a:Int):a≤a.toNat:=Int.self_le_toNat a
theorem zu {a:Int} (h:0≤a):a.toNat≤a:=xY (vY h)
theorem zab {a:Int} (h:0≤a):a.natAbs≤a:=xY (Int.natAbs_of_nonneg h)
theorem zin {a b:Int} (h:a≤b):a≤min a b:=Int.le_min.mpr ⟨qp a,h⟩
theorem ziy {a b:Int} (h:a≤b):max a b≤b:=Int.max_le.mpr ⟨h,qp b⟩
theorem tnI {L k:Nat} (h:k<L):((L:Int) - 1 + -(k:Int)).toNat=L - 1 - k:=by
 refine ak (rQ h) fun d e=>?_;rw[e,show ((k+d+1:Nat):Int) - 1 + -(k:Int)=d from by
  show (k:Int)+d+1 - 1 + -(k:Int)=d;rw[jt,xX (k:Int),qX]]
 exact (b6 (n:=k) (m:=d)).symm
theorem tnJ {L:Nat} (h:0<L):(if (-1:Int)<0 then -1+(L:Int) else -1).toNat=L - 1:=by
 cases L with
 | zero=>exact absurd h (iL 0)
 | succ n =>
  show (-1+((n:Int)+1)).toNat=n;rw[xX,qX];exact rfl
theorem mxI (i L:Nat):max 0 (min (i:Int) (L:Int))=((min i L:Nat):Int):=
 (Int.max_eq_right (Int.le_min.mpr ⟨zW i,zW L⟩)).trans (Lean.Omega.Int.ofNat_min i L).symm
theorem frI {m q S a B r:Nat} (hq:q<m) (hp:a+S=B):decide (((S:Nat):Int)+((m+1:Nat):Int) - (q:Int) - 1≤(r:Int))=(q+1==m+1||decide (q<m+1∧B+(m+1 - q)≤r+1+a)):=by
 refine ak (rQ hq) fun d e=>?_;rw[aJ.mpr fun q1=>fU hq (C5 q1),vU,e,← hp];show decide ((S:Int)+((q:Int)+((d+2:Nat):Int)) - q - 1≤(r:Int))=decide (q<q+(d+2)∧a+S+(q+(d+2) - q)≤r+1+a);rw[b6,xX (q:Int),← qW,jt,show (S:Int)+((d+2:Nat):Int) - 1=((S+(d+1):Nat):Int) from by
  show (S:Int)+(((d+1:Nat):Int)+1) - 1=_;rw[← qW,jt];exact rfl]
 refine decide_eq_decide.mpr ⟨fun h=>⟨Hx (JK _),?_⟩,fun h=>zO (zi [a,S,d,r] 0 (.g (.a (.a (.v 0) (.v 1)) (.s (.s (.v 2)))) (.a (.s (.v 3)) (.v 0)) .e) (.a (.v 1) (.s (.v 2))) (.v 3) zC h.2)⟩;have h:S+(d+1)≤r:=zU h;exact zi [a,S,d,r] 0 (.g (.a (.v 1) (.s (.v 2))) (.v 3) .e) (.a (.a (.v 0) (.v 1)) (.s (.s (.v 2)))) (.a (.s (.v 3)) (.v 0)) zC h
theorem mxJ {i L:Nat} (h:i≤L):max 0 (min (i:Int) (L:Int))=i:=(mxI i L).trans (aK _ (jF h))
theorem mxK {L:Nat} (h:0<L):((L - 1:Nat):Int) = -1+(L:Int):=by
 cases L with
 | zero=>exact absurd h (iL 0)
 | succ n =>
  show (n:Int) = -1+((n:Int)+1);rw[xX (-1),qX]
theorem rgL (i j:Nat):(if (i:Int)<j then ((j:Int) - i+1 - 1) / 1 else 0).toNat=j - i:=by
 rw[Int.ediv_one,jt];by_cases h:(i:Int)<j
 ·rw[aA h,← Int.ofNat_sub (zU (Int.le_of_lt h))];exact rfl
 ·rw[aS h];exact (Lv (zU (zm h))).symm
theorem rgR (L:Nat):(if (L:Int) - 1 > -1 then ((L:Int) - 1 - -1 - -1 - 1) / - -1 else 0).toNat=L:=by
 cases L with
 | zero=>exact rfl
 | succ n =>
  show (if (n:Int)+1 - 1 > -1 then ((n:Int)+1 - 1 - -1 - -1 - 1) / 1 else 0).toNat=n+1;rw[Int.ediv_one,jt,Int.sub_neg,Int.sub_neg,jt,aA (Int.lt_of_lt_of_le (by decide) (zW n))];exact rfl
theorem ahR {k:Int} {n:Nat} (hj:¬ (0≤(if k<0 then k+n else k)∧(if k<0 then k+n else k)<n)):k < -n∨n≤k:=by
 by_cases h:k<0
 ·rw[aA h] at hj
  exact .inl (Int.not_le.mp fun q=>hj ⟨zI [k,(n:Int)] 0 (.g (.neg (.var 1)) (.var 0) .e) (.num 0) (.add (.var 0) (.var 1)) zC q,zI [k,(n:Int)] 0 (.g (.add (.var 0) (.num 1)) (.num 0) .e) (.add (.add (.var 0) (.var 1)) (.num 1)) (.var 1) zC h⟩)
 ·rw[aS h] at hj
  exact .inr (zm fun q=>hj ⟨zm h,q⟩)
end
theorem cz  {A B:Prop} {C:Prop} (h:A∧B) (f:A→B→C):C:=f h.1 h.2
theorem xM  {A B D:Prop} {C:Prop} (h:A∧B∧D) (f:A→B→D→C):C:=f h.1 h.2.1 h.2.2
theorem En  {A B D E:Prop} {C:Prop} (h:A∧B∧D∧E) (f:A→B→D→E→C):C:=f h.1 h.2.1 h.2.2.1 h.2.2.2
theorem X05  {A B D E F:Prop} {C:Prop} (h:A∧B∧D∧E∧F) (f:A→B→D→E→F→C):C:=f h.1 h.2.1 h.2.2.1 h.2.2.2.1 h.2.2.2.2
theorem eU {t0:Sort _} {A:t0→Prop} {C:Prop} (h:∃ x0,A x0) (f:∀ x0,A x0→C):C:=ak h fun x0 h0=>f x0 h0
theorem bU {t0:Sort _} {A B:t0→Prop} {C:Prop} (h:∃ x0,A x0∧B x0) (f:∀ x0,A x0→B x0→C):C:=ak h fun x0 h0=>f x0 h0.1 h0.2
theorem nv {t0:Sort _} {A B D:t0→Prop} {C:Prop} (h:∃ x0,A x0∧B x0∧D x0) (f:∀ x0,A x0→B x0→D x0→C):C:=ak h fun x0 h0=>f x0 h0.1 h0.2.1 h0.2.2
theorem X14 {t0:Sort _} {A B D E:t0→Prop} {C:Prop} (h:∃ x0,A x0∧B x0∧D x0∧E x0) (f:∀ x0,A x0→B x0→D x0→E x0→C):C:=ak h fun x0 h0=>f x0 h0.1 h0.2.1 h0.2.2.1 h0.2.2.2
theorem X21 {t0:Sort _} {t1:Sort _} {A:t0→t1→Prop} {C:Prop} (h:∃ x0,∃ x1,A x0 x1) (f:∀ x0 x1,A x0 x1→C):C:=ak h fun x0 h0=>ak h0 fun x1 h1=>f x0 x1 h1
theorem jU {t0:Sort _} {t1:Sort _} {A B:t0→t1→Prop} {C:Prop} (h:∃ x0,∃ x1,A x0 x1∧B x0 x1) (f:∀ x0 x1,A x0 x1→B x0 x1→C):C:=ak h fun x0 h0=>ak h0 fun x1 h1=>f x0 x1 h1.1 h1.2
theorem Eo {t0:Sort _} {t1:Sort _} {A B D:t0→t1→Prop} {C:Prop} (h:∃ x0,∃ x1,A x0 x1∧B x0 x1∧D x0 x1) (f:∀ x0 x1,A x0 x1→B x0 x1→D x0 x1→C):C:=ak h fun x0 h0=>ak h0 fun x1 h1=>f x0 x1 h1.1 h1.2.1 h1.2.2
theorem W2 {t0:Sort _} {t1:Sort _} {A B D E:t0→t1→Prop} {C:Prop} (h:∃ x0,∃ x1,A x0 x1∧B x0 x1∧D x0 x1∧E x0 x1) (f:∀ x0 x1,A x0 x1→B x0 x1→D x0 x1→E x0 x1→C):C:=ak h fun x0 h0=>ak h0 fun x1 h1=>f x0 x1 h1.1 h1.2.1 h1.2.2.1 h1.2.2.2
theorem X25 {t0:Sort _} {t1:Sort _} {A B D E F:t0→t1→Prop} {C:Prop} (h:∃ x0,∃ x1,A x0 x1∧B x0 x1∧D x0 x1∧E x0 x1∧F x0 x1) (f:∀ x0 x1,A x0 x1→B x0 x1→D x0 x1→E x0 x1→F x0 x1→C):C:=ak h fun x0 h0=>ak h0 fun x1 h1=>f x0 x1 h1.1 h1.2.1 h1.2.2.1 h1.2.2.2.1 h1.2.2.2.2
theorem X26 {t0:Sort _} {t1:Sort _} {A B D E F G:t0→t1→Prop} {C:Prop} (h:∃ x0,∃ x1,A x0 x1∧B x0 x1∧D x0 x1∧E x0 x1∧F x0 x1∧G x0 x1) (f:∀ x0 x1,A x0 x1→B x0 x1→D x0 x1→E x0 x1→F x0 x1→G x0 x1→C):C:=ak h fun x0 h0=>ak h0 fun x1 h1=>f x0 x1 h1.1 h1.2.1 h1.2.2.1 h1.2.2.2.1 h1.2.2.2.2.1 h1.2.2.2.2.2
theorem X31 {t0:Sort _} {t1:Sort _} {t2:Sort _} {A:t0→t1→t2→Prop} {C:Prop} (h:∃ x0,∃ x1,∃ x2,A x0 x1 x2) (f:∀ x0 x1 x2,A x0 x1 x2→C):C:=ak h fun x0 h0=>ak h0 fun x1 h1=>ak h1 fun x2 h2=>f x0 x1 x2 h2
theorem AN {t0:Sort _} {t1:Sort _} {t2:Sort _} {A B:t0→t1→t2→Prop} {C:Prop} (h:∃ x0,∃ x1,∃ x2,A x0 x1 x2∧B x0 x1 x2) (f:∀ x0 x1 x2,A x0 x1 x2→B x0 x1 x2→C):C:=ak h fun x0 h0=>ak h0 fun x1 h1=>ak h1 fun x2 h2=>f x0 x1 x2 h2.1 h2.2
theorem Ep {t0:Sort _} {t1:Sort _} {t2:Sort _} {A B D:t0→t1→t2→Prop} {C:Prop} (h:∃ x0,∃ x1,∃ x2,A x0 x1 x2∧B x0 x1 x2∧D x0 x1 x2) (f:∀ x0 x1 x2,A x0 x1 x2→B x0 x1 x2→D x0 x1 x2→C):C:=ak h fun x0 h0=>ak h0 fun x1 h1=>ak h1 fun x2 h2=>f x0 x1 x2 h2.1 h2.2.1 h2.2.2
theorem Hi {t0:Sort _} {t1:Sort _} {t2:Sort _} {A B D E:t0→t1→t2→Prop} {C:Prop} (h:∃ x0,∃ x1,∃ x2,A x0 x1 x2∧B x0 x1 x2∧D x0 x1 x2∧E x0 x1 x2) (f:∀ x0 x1 x2,A x0 x1 x2→B x0 x1 x2→D x0 x1 x2→E x0 x1 x2→C):C:=ak h fun x0 h0=>ak h0 fun x1 h1=>ak h1 fun x2 h2=>f x0 x1 x2 h2.1 h2.2.1 h2.2.2.1 h2.2.2.2
theorem X35 {t0:Sort _} {t1:Sort _} {t2:Sort _} {A B D E F:t0→t1→t2→Prop} {C:Prop} (h:∃ x0,∃ x1,∃ x2,A x0 x1 x2∧B x0 x1 x2∧D x0 x1 x2∧E x0 x1 x2∧F x0 x1 x2) (f:∀ x0 x1 x2,A x0 x1 x2→B x0 x1 x2→D x0 x1 x2→E x0 x1 x2→F x0 x1 x2→C):C:=ak h fun x0 h0=>ak h0 fun x1 h1=>ak h1 fun x2 h2=>f x0 x1 x2 h2.1 h2.2.1 h2.2.2.1 h2.2.2.2.1 h2.2.2.2.2
theorem iM {t0:Sort _} {t1:Sort _} {t2:Sort _} {t3:Sort _} {A:t0→t1→t2→t3→Prop} {C:Prop} (h:∃ x0,∃ x1,∃ x2,∃ x3,A x0 x1 x2 x3) (f:∀ x0 x1 x2 x3,A x0 x1 x2 x3→C):C:=ak h fun x0 h0=>ak h0 fun x1 h1=>ak h1 fun x2 h2=>ak h2 fun x3 h3=>f x0 x1 x2 x3 h3
theorem W3 {t0:Sort _} {t1:Sort _} {t2:Sort _} {t3:Sort _} {A B:t0→t1→t2→t3→Prop} {C:Prop} (h:∃ x0,∃ x1,∃ x2,∃ x3,A x0 x1 x2 x3∧B x0 x1 x2 x3) (f:∀ x0 x1 x2 x3,A x0 x1 x2 x3→B x0 x1 x2 x3→C):C:=ak h fun x0 h0=>ak h0 fun x1 h1=>ak h1 fun x2 h2=>ak h2 fun x3 h3=>f x0 x1 x2 x3 h3.1 h3.2
theorem X43 {t0:Sort _} {t1:Sort _} {t2:Sort _} {t3:Sort _} {A B D:t0→t1→t2→t3→Prop} {C:Prop} (h:∃ x0,∃ x1,∃ x2,∃ x3,A x0 x1 x2 x3∧B x0 x1 x2 x3∧D x0 x1 x2 x3) (f:∀ x0 x1 x2 x3,A x0 x1 x2 x3→B x0 x1 x2 x3→D x0 x1 x2 x3→C):C:=ak h fun x0 h0=>ak h0 fun x1 h1=>ak h1 fun x2 h2=>ak h2 fun x3 h3=>f x0 x1 x2 x3 h3.1 h3.2.1 h3.2.2
theorem X44 {t0:Sort _} {t1:Sort _} {t2:Sort _} {t3:Sort _} {A B D E:t0→t1→t2→t3→Prop} {C:Prop} (h:∃ x0,∃ x1,∃ x2,∃ x3,A x0 x1 x2 x3∧B x0 x1 x2 x3∧D x0 x1 x2 x3∧E x0 x1 x2 x3) (f:∀ x0 x1 x2 x3,A x0 x1 x2 x3→B x0 x1 x2 x3→D x0 x1 x2 x3→E x0 x1 x2 x3→C):C:=ak h fun x0 h0=>ak h0 fun x1 h1=>ak h1 fun x2 h2=>ak h2 fun x3 h3=>f x0 x1 x2 x3 h3.1 h3.2.1 h3.2.2.1 h3.2.2.2
theorem N6 {t0:Sort _} {t1:Sort _} {t2:Sort _} {t3:Sort _} {A B D E F:t0→t1→t2→t3→Prop} {C:Prop} (h:∃ x0,∃ x1,∃ x2,∃ x3,A x0 x1 x2 x3∧B x0 x1 x2 x3∧D x0 x1 x2 x3∧E x0 x1 x2 x3∧F x0 x1 x2 x3) (f:∀ x0 x1 x2 x3,A x0 x1 x2 x3→B x0 x1 x2 x3→D x0 x1 x2 x3→E x0 x1 x2 x3→F x0 x1 x2 x3→C):C:=ak h fun x0 h0=>ak h0 fun x1 h1=>ak h1 fun x2 h2=>ak h2 fun x3 h3=>f x0 x1 x2 x3 h3.1 h3.2.1 h3.2.2.1 h3.2.2.2.1 h3.2.2.2.2
theorem X54 {t0:Sort _} {t1:Sort _} {t2:Sort _} {t3:Sort _} {t4:Sort _} {A B D E:t0→t1→t2→t3→t4→Prop} {C:Prop} (h:∃ x0,∃ x1,∃ x2,∃ x3,∃ x4,A x0 x1 x2 x3 x4∧B x0 x1 x2 x3 x4∧D x0 x1 x2 x3 x4∧E x0 x1 x2 x3 x4) (f:∀ x0 x1 x2 x3 x4,A x0 x1 x2 x3 x4→B x0 x1 x2 x3 x4→D x0 x1 x2 x3 x4→E x0 x1 x2 x3 x4→C):C:=ak h fun x0 h0=>ak h0 fun x1 h1=>ak h1 fun x2 h2=>ak h2 fun x3 h3=>ak h3 fun x4 h4=>f x0 x1 x2 x3 x4 h4.1 h4.2.1 h4.2.2.1 h4.2.2.2
theorem X61 {t0:Sort _} {t1:Sort _} {t2:Sort _} {t3:Sort _} {t4:Sort _} {t5:Sort _} {A:t0→t1→t2→t3→t4→t5→Prop} {C:Prop} (h:∃ x0,∃ x1,∃ x2,∃ x3,∃ x4,∃ x5,A x0 x1 x2 x3 x4 x5) (f:∀ x0 x1 x2 x3 x4 x5,A x0 x1 x2 x3 x4 x5→C):C:=ak h fun x0 h0=>ak h0 fun x1 h1=>ak h1 fun x2 h2=>ak h2 fun x3 h3=>ak h3 fun x4 h4=>ak h4 fun x5 h5=>f x0 x1 x2 x3 x4 x5 h5
theorem X63 {t0:Sort _} {t1:Sort _} {t2:Sort _} {t3:Sort _} {t4:Sort _} {t5:Sort _} {A B D:t0→t1→t2→t3→t4→t5→Prop} {C:Prop} (h:∃ x0,∃ x1,∃ x2,∃ x3,∃ x4,∃ x5,A x0 x1 x2 x3 x4 x5∧B x0 x1 x2 x3 x4 x5∧D x0 x1 x2 x3 x4 x5) (f:∀ x0 x1 x2 x3 x4 x5,A x0 x1 x2 x3 x4 x5→B x0 x1 x2 x3 x4 x5→D x0 x1 x2 x3 x4 x5→C):C:=ak h fun x0 h0=>ak h0 fun x1 h1=>ak h1 fun x2 h2=>ak h2 fun x3 h3=>ak h3 fun x4 h4=>ak h4 fun x5 h5=>f x0 x1 x2 x3 x4 x5 h5.1 h5.2.1 h5.2.2
theorem X64 {t0:Sort _} {t1:Sort _} {t2:Sort _} {t3:Sort _} {t4:Sort _} {t5:Sort _} {A B D E:t0→t1→t2→t3→t4→t5→Prop} {C:Prop} (h:∃ x0,∃ x1,∃ x2,∃ x3,∃ x4,∃ x5,A x0 x1 x2 x3 x4 x5∧B x0 x1 x2 x3 x4 x5∧D x0 x1 x2 x3 x4 x5∧E x0 x1 x2 x3 x4 x5) (f:∀ x0 x1 x2 x3 x4 x5,A x0 x1 x2 x3 x4 x5→B x0 x1 x2 x3 x4 x5→D x0 x1 x2 x3 x4 x5→E x0 x1 x2 x3 x4 x5→C):C:=ak h fun x0 h0=>ak h0 fun x1 h1=>ak h1 fun x2 h2=>ak h2 fun x3 h3=>ak h3 fun x4 h4=>ak h4 fun x5 h5=>f x0 x1 x2 x3 x4 x5 h5.1 h5.2.1 h5.2.2.1 h5.2.2.2
theorem X65 {t0:Sort _} {t1:Sort _} {t2:Sort _} {t3:Sort _} {t4:Sort _} {t5:Sort _} {A B D E F:t0→t1→t2→t3→t4→t5→Prop} {C:Prop} (h:∃ x0,∃ x1,∃ x2,∃ x3,∃ x4,∃ x5,A x0 x1 x2 x3 x4 x5∧B x0 x1 x2 x3 x4 x5∧D x0 x1 x2 x3 x4 x5∧E x0 x1 x2 x3 x4 x5∧F x0 x1 x2 x3 x4 x5) (f:∀ x0 x1 x2 x3 x4 x5,A x0 x1 x2 x3 x4 x5→B x0 x1 x2 x3 x4 x5→D x0 x1 x2 x3 x4 x5→E x0 x1 x2 x3 x4 x5→F x0 x1 x2 x3 x4 x5→C):C:=ak h fun x0 h0=>ak h0 fun x1 h1=>ak h1 fun x2 h2=>ak h2 fun x3 h3=>ak h3 fun x4 h4=>ak h4 fun x5 h5=>f x0 x1 x2 x3 x4 x5 h5.1 h5.2.1 h5.2.2.1 h5.2.2.2.1 h5.2.2.2.2
theorem X87 {t0:Sort _} {t1:Sort _} {t2:Sort _} {t3:Sort _} {t4:Sort _} {t5:Sort _} {t6:Sort _} {t7:Sort _} {A B D E F G H:t0→t1→t2→t3→t4→t5→t6→t7→Prop} {C:Prop} (h:∃ x0,∃ x1,∃ x2,∃ x3,∃ x4,∃ x5,∃ x6,∃ x7,A x0 x1 x2 x3 x4 x5 x6 x7∧B x0 x1 x2 x3 x4 x5 x6 x7∧D x0 x1 x2 x3 x4 x5 x6 x7∧E x0 x1 x2 x3 x4 x5 x6 x7∧F x0 x1 x2 x3 x4 x5 x6 x7∧G x0 x1 x2 x3 x4 x5 x6 x7∧H x0 x1 x2 x3 x4 x5 x6 x7) (f:∀ x0 x1 x2 x3 x4 x5 x6 x7,A x0 x1 x2 x3 x4 x5 x6 x7→B x0 x1 x2 x3 x4 x5 x6 x7→D x0 x1 x2 x3 x4 x5 x6 x7→E x0 x1 x2 x3 x4 x5 x6 x7→F x0 x1 x2 x3 x4 x5 x6 x7→G x0 x1 x2 x3 x4 x5 x6 x7→H x0 x1 x2 x3 x4 x5 x6 x7→C):C:=ak h fun x0 h0=>ak h0 fun x1 h1=>ak h1 fun x2 h2=>ak h2 fun x3 h3=>ak h3 fun x4 h4=>ak h4 fun x5 h5=>ak h5 fun x6 h6=>ak h6 fun x7 h7=>f x0 x1 x2 x3 x4 x5 x6 x7 h7.1 h7.2.1 h7.2.2.1 h7.2.2.2.1 h7.2.2.2.2.1 h7.2.2.2.2.2.1 h7.2.2.2.2.2.2
@[elab_as_elim] theorem oC {α : Type _} {C:Option α→Prop} (t:Option α) (h0:t=none→C none) (h1:∀ v,t=some v→C (some v)):C t:=by
 cases t
 ·exact h0 rfl
 ·exact h1 _ rfl
@[elab_as_elim] theorem bC {C:Bool→Prop} (t:Bool) (h1:t=true→C true) (h0:t=false→C false):C t:=by
 cases t
 ·exact h0 rfl
 ·exact h1 rfl
@[elab_as_elim] theorem lC {α : Type _} {C:List α→Prop} (t:List α) (h0:t=[]→C []) (h1:∀ v r,t=v :: r→C (v :: r)):C t:=by
 cases t
 ·exact h0 rfl
 ·exact h1 _ _ rfl
theorem Y2 {A1:Sort _} {A2:Sort _} {p:A1→A2→Prop} (a1:A1) (a2:A2) (h:p a1 a2):∃ a1 a2,p a1 a2:=⟨a1,a2,h⟩
theorem Y8 {A1:Sort _} {A2:Sort _} {A3:Sort _} {A4:Sort _} {A5:Sort _} {A6:Sort _} {A7:Sort _} {A8:Sort _} {p:A1→A2→A3→A4→A5→A6→A7→A8→Prop} (a1:A1) (a2:A2) (a3:A3) (a4:A4) (a5:A5) (a6:A6) (a7:A7) (a8:A8) (h:p a1 a2 a3 a4 a5 a6 a7 a8):∃ a1 a2 a3 a4 a5 a6 a7 a8,p a1 a2 a3 a4 a5 a6 a7 a8:=⟨a1,a2,a3,a4,a5,a6,a7,a8,h⟩
@[elab_as_elim] theorem O2 {α : Type} {c1 c2:α} {M:α→Prop} {x:α} (e:x=c1∨x=c2) (h1:M c1) (h2:M c2):M x:=(fun e=>e.elim (fun e=>e ▸ h1) (fun e=>e ▸ h2)) e
@[elab_as_elim] theorem O4 {α : Type} {c1 c2 c3 c4:α} {M:α→Prop} {x:α} (e:x=c1∨x=c2∨x=c3∨x=c4) (h1:M c1) (h2:M c2) (h3:M c3) (h4:M c4):M x:=(fun e=>e.elim (fun e=>e ▸ h1) (fun e=>e.elim (fun e=>e ▸ h2) (fun e=>e.elim (fun e=>e ▸ h3) (fun e=>e ▸ h4)))) e
@[elab_as_elim] theorem O5 {α : Type} {c1 c2 c3 c4 c5:α} {M:α→Prop} {x:α} (e:x=c1∨x=c2∨x=c3∨x=c4∨x=c5) (h1:M c1) (h2:M c2) (h3:M c3) (h4:M c4) (h5:M c5):M x:=(fun e=>e.elim (fun e=>e ▸ h1) (fun e=>e.elim (fun e=>e ▸ h2) (fun e=>e.elim (fun e=>e ▸ h3) (fun e=>e.elim (fun e=>e ▸ h4) (fun e=>e ▸ h5))))) e
@[elab_as_elim] theorem O6 {α : Type} {c1 c2 c3 c4 c5 c6:α} {M:α→Prop} {x:α} (e:x=c1∨x=c2∨x=c3∨x=c4∨x=c5∨x=c6) (h1:M c1) (h2:M c2) (h3:M c3) (h4:M c4) (h5:M c5) (h6:M c6):M x:=(fun e=>e.elim (fun e=>e ▸ h1) (fun e=>e.elim (fun e=>e ▸ h2) (fun e=>e.elim (fun e=>e ▸ h3) (fun e=>e.elim (fun e=>e ▸ h4) (fun e=>e.elim (fun e=>e ▸ h5) (fun e=>e ▸ h6)))))) e
@[elab_as_elim] theorem O7 {α : Type} {c1 c2 c3 c4 c5 c6 c7:α} {M:α→Prop} {x:α} (e:x=c1∨x=c2∨x=c3∨x=c4∨x=c5∨x=c6∨x=c7) (h1:M c1) (h2:M c2) (h3:M c3) (h4:M c4) (h5:M c5) (h6:M c6) (h7:M c7):M x:=(fun e=>e.elim (fun e=>e ▸ h1) (fun e=>e.elim (fun e=>e ▸ h2) (fun e=>e.elim (fun e=>e ▸ h3) (fun e=>e.elim (fun e=>e ▸ h4) (fun e=>e.elim (fun e=>e ▸ h5) (fun e=>e.elim (fun e=>e ▸ h6) (fun e=>e ▸ h7))))))) e
@[elab_as_elim] theorem O9 {α : Type} {c1 c2 c3 c4 c5 c6 c7 c8 c9:α} {M:α→Prop} {x:α} (e:x=c1∨x=c2∨x=c3∨x=c4∨x=c5∨x=c6∨x=c7∨x=c8∨x=c9) (h1:M c1) (h2:M c2) (h3:M c3) (h4:M c4) (h5:M c5) (h6:M c6) (h7:M c7) (h8:M c8) (h9:M c9):M x:=(fun e=>e.elim (fun e=>e ▸ h1) (fun e=>e.elim (fun e=>e ▸ h2) (fun e=>e.elim (fun e=>e ▸ h3) (fun e=>e.elim (fun e=>e ▸ h4) (fun e=>e.elim (fun e=>e ▸ h5) (fun e=>e.elim (fun e=>e ▸ h6) (fun e=>e.elim (fun e=>e ▸ h7) (fun e=>e.elim (fun e=>e ▸ h8) (fun e=>e ▸ h9))))))))) e
theorem ji {α : Type _} {p:Prop} [mV p] {a:Option α} {b:α} (h:(if p then a else none)=some b):p∧a=some b:=
 if q:p then ⟨q,(aA q).symm.trans h⟩ else nomatch (aS q).symm.trans h
theorem bind_some {α β : Type _} {o:Option α} {f:α→Option β} {b:β} (h:o.bind f=some b):∃ a,o=some a∧f a=some b:=aY.mp h
theorem wH {α β : Type _} {o:Option α} {f:α→β} {b:β} (h:o.map f=some b):∃ a,o=some a∧f a=b:=aQ.mp h
theorem nS {α : Type _} {a:α} {C:Prop} (h:none=some a):C:=nomatch h
theorem fT {C:Prop} (h:false=true):C:=nomatch h
theorem tF {C:Prop} (h:true=false):C:=nomatch h
local macro_rules
 | `(nomatch $h:term) => `(by first | exact nS $h | exact fT $h | exact tF $h | cases $h:term)
section
noncomputable def sumTo:Nat→(Nat→Nat)→Nat
 | 0,_=>0
 | n+1,f=>sumTo n f+f n
theorem eZ {f g:Nat→Nat}:∀ {n:Nat},(∀ k,k<n→f k=g k)→sumTo n f=sumTo n g
 | 0,_=>rfl
 | n+1,h=>by
  unfold sumTo;rw[eZ fun k hk=>h k (qt hk),h n (dJ n)]
theorem oF:∀ {n:Nat},sumTo n (fun _=>0)=0
 | 0=>rfl
 | n+1=>by simp only [sumTo,oF]
theorem CS {f g:Nat→Nat}:∀ {n:Nat},sumTo n (fun k=>f k+g k)=sumTo n f+sumTo n g
 | 0=>rfl
 | n+1=>by
  simp only [sumTo,CS];exact Nr (sumTo n f) (sumTo n g) (f n) (g n)
theorem Au {f:Nat→Nat→Nat} {m:Nat}:∀ {n:Nat},sumTo n (fun i=>sumTo m fun j=>f i j)=sumTo m fun j=>sumTo n fun i=>f i j
 | 0=>by simp only [sumTo,oF]
 | n+1=>by
  show sumTo n (fun i=>sumTo m fun j=>f i j)+sumTo m (fun j=>f n j)=sumTo m fun j=>sumTo n (fun i=>f i j)+f n j;rw[Au,CS]
theorem wN {f:Nat→Nat} {c:Nat}:∀ {n:Nat},sumTo n (fun k=>c*f k)=c*sumTo n f
 | 0=>rfl
 | n+1=>by
  dsimp only [sumTo];rw[wN,Nat.mul_add]
theorem zH {f:Nat→Nat}:∀ {n:Nat} {k:Nat},k<n→f k≤sumTo n f
 | n+1,k,h=>by
  by_cases e:k=n
  ·subst e;exact fV (f k) (sumTo k f)
  ·have:=zH (f:=f) (n:=n) (k:=k) (by exact (aW e).elim (fun dK=>dK) fun dK=>(IF h dK))
   exact fR this
theorem Eb {f:Nat→Nat} {n a b:Nat} (Tq:a<b) (hb:b<n):f a+f b≤sumTo n f:=by
 induction n with
 | zero=>exact (z0 [_] (.g (.s au) gR .e) zC hb).elim
 | succ n ih =>
  by_cases e:b=n
  ·rw[← e]
   have:=zH (f:=f) Tq;exact nX this (f b)
  ·have:=ih (by exact (aW e).elim (fun dK=>dK) fun dK=>(IF hb dK))
   exact fR this
theorem wO {f:Nat→Nat} {a:Nat}:∀ {n:Nat},a<n→(∀ k,k<n→k≠a→f k=0)→sumTo n f=f a
 | n+1,h,h0=>by
  dsimp only [sumTo];by_cases e:a=n
  ·subst e
   rw[eZ (g:=fun _=>0) fun k hk=>h0 k (by exact ja 1 hk) (by exact fU hk),oF,fy]
  ·rw[wO (a:=a) (by exact (aW e).elim (fun dK=>dK) fun dK=>(IF h dK)) fun k hk hka=>h0 k (by exact ja 1 hk) hka,h0 n (by exact Ek n) (eO e),sN]
structure DP (n:Nat) (ok:Nat→Nat→Bool) (F W:Nat→Nat):Prop where
 f0:F 0=0
 w0:W 0=1
 le:∀ q p,q<p→p≤n→ok q p=true→F p≤F q+1
 ex:∀ p,0<p→p≤n→∃ q,q<p∧ok q p=true∧F p=F q+1
 ws:∀ p,0<p→p≤n→W p=sumTo p fun q=>if ok q p=true∧F q+1=F p then W q else 0
structure rE (ok:Nat→Nat→Bool):Prop where
 one:∀ i,ok i (i+1)=true
 sub:∀ i j i' j',ok i j=true→i≤i'→i'<j'→j'≤j→ok i' j'=true
section
variable {n:Nat} {ok:Nat→Nat→Bool} {F W G V:Nat→Nat}
theorem DP.up (D:DP n ok F W) (M:rE ok) {p:Nat} (h:p<n):F p≤F (p+1):=by
 refine nv (D.ex (p+1) (by exact jc p) (by exact h)) fun q h1 h2 h3=>?_;by_cases e:q=p
 ·subst e;exact Nat.le.intro (id (iI h3))
 ·have:=D.le q p (by exact (aW e).elim (fun dK=>dK) fun dK=>(IF h1 dK)) (by exact bk h) (M.sub q (p+1) q p h2 (by exact aB q) (by exact (aW e).elim (fun dK=>dK) fun dK=>(IF h1 dK)) (by exact b7 p 1))
  exact le_of_le_of_eq this (id (iI h3))
theorem DP.up1 (D:DP n ok F W) (M:rE ok) {p:Nat} (h:p<n):F (p+1)≤F p+1:=D.le p (p+1) (by exact Ek p) (by exact h) (M.one p)
set_option tactic.hygienic true in
theorem DP.mono (D:DP n ok F W) (M:rE ok) {p q:Nat} (hpq:p≤q) (hq:q≤n):F p≤F q:=by
 induction q with
 | zero=>rw[show p=0 by exact jv hpq];exact aB _
 | succ q ih =>
  by_cases e:p=q+1
  ·rw[e];exact aB _
  ·have:=ih (by exact (aW e).elim (fun dK=>(R9 dK)) fun dK=>(V5 hpq dK)) (by exact bk hq)
   have:=D.up M (p:=q) (by exact hq)
   (rename_i nV;exact (Km nV this))
theorem DP.pos (D:DP n ok F W) {p:Nat} (h:0<p) (hp:p≤n):0<F p:=by
 refine nv (D.ex p h hp) fun q _ _ h3=>?_;exact ni h3
set_option tactic.hygienic true in
theorem DP.Vg (D:DP n ok F W):∀ p,p≤n→0<W p:=by
 intro p;induction p using tD with
 | ind p ih =>
  intro hp;by_cases h:p=0
  ·subst h;rw[D.w0];exact Nat.one_pos
  ·refine nv (D.ex p (by exact dR h) hp) fun q h1 h2 h3=>?_
   rw[D.ws p (by exact dR h) hp];have:=zH (f:=fun q=>if ok q p=true∧F q+1=F p then W q else 0) h1;simp only [h2,← h3,and_self,gz] at this;have:=ih q h1 (by exact DF h1 hp)
   (rename_i nV;exact (oH (.g (.s gR) aE (.g aE au .e)) (.s gR) au zC this nV))
theorem DP.hit (D:DP n ok F W) (M:rE ok) {k:Nat}:∀ {m:Nat},m≤n→k≤F m→∃ p,p≤m∧F p=k
 | 0,h,hk=>⟨0,aB _,by rw[D.f0] at hk ⊢;exact iI (jv hk)⟩
 | m+1,h,hk=>by
  by_cases e:F (m+1)=k
  ·exact ⟨m+1,aB _,e⟩
  ·have:=D.up1 M (p:=m) (by exact h)
   refine bU (D.hit M (k:=k) (m:=m) (by exact bk h) (by exact (aW e).elim (fun dK=>(rM (.h 2 au aT (.g aT (.s aE) (.g (.s aT) au .e))) au aE zC hk this dK)) fun dK=>(V4 dK this))) fun p hp hf=>?_;exact ⟨p,by exact fR hp,hf⟩
noncomputable def iV (n:Nat) (F:Nat→Nat) (k e:Nat):Prop:=e≤n∧F e=k∧∀ p,p≤n→F p=k→p≤e
theorem DP.kD (D:DP n ok F W) (M:rE ok) {k e p:Nat} (h:iV n F k e) (hp:p≤n):F p≤k↔p≤e:=by
 constructor
 ·intro hk
  by_cases hle:p≤e
  ·exact hle
  ·have h1:=D.mono M (p:=e) (q:=p) (by exact AH hle) hp
   rw[h.2.1] at h1;exact h.2.2 p hp (by exact lA hk h1)
 ·intro he
  have:=D.mono M he h.1;rw[h.2.1] at this;exact this
theorem DP.Kp (D:DP n ok F W) (M:rE ok) {k e p:Nat} (h:iV n F k e) (hp:p≤n) (hk:F p=k+1):ok e p=true:=by
 obtain ⟨q,h1,h2,h3⟩:=D.ex p (by
  by_cases e0:p=0
  ·subst e0;rw[D.f0] at hk;exact ni hk
  ·exact dR e0) hp
 have hq:q≤e:=(D.kD M h (by exact DF h1 hp)).mp (by exact V4 (zG h3) (zA hk));have he:e<p:=by
  have:=mt (D.kD M h hp).mpr (by exact fun pM=>(IE (zG hk) pM));exact kB this
 exact M.sub q p e p h2 hq he (aB _)
structure Back (n:Nat) (ok:Nat→Nat→Bool) (G V:Nat→Nat):Prop where
 gn:G n=0
 vn:V n=1
 le:∀ p q,p<q→q≤n→ok p q=true→G p≤G q+1
 ex:∀ p,p<n→∃ q,p<q∧q≤n∧ok p q=true∧G p=G q+1
 ws:∀ p,p<n→V p=sumTo (n+1) fun q=>if (p<q∧ok p q=true)∧G q+1=G p then V q else 0
set_option tactic.hygienic true in
theorem DP.back (D:DP n ok F W) (M:rE ok) (B:Back n ok G V):∀ p,p≤n→G 0≤F p+G p:=by
 intro p;induction p using tD with
 | ind p ih =>
  intro hp;by_cases h:p=0
  ·subst h;exact fV (G 0) (F 0)
  ·refine nv (D.ex p (pK h) hp) fun q h1 h2 h3=>?_
   have:=B.le q p h1 hp h2;have:=ih q h1 (by exact DF h1 hp)
   (rename_i nV;exact (G7 (.g au (.a bX fh) (.g (.s bX) aE (.g fh (.s aT) .e))) au (.a aE aT) zC this (zG h3) nV))
set_option tactic.hygienic true in
theorem DP.abo (D:DP n ok F W) (M:rE ok) (B:Back n ok G V):∀ k p,p≤n→n - p=k→F n≤F p+G p:=by
 intro k;induction k using tD with
 | ind k ih =>
  intro p hp hk;by_cases h:p=n
  ·subst h;exact b7 (F p) (G p)
  ·refine X14 (B.ex p (by exact dg hp h)) fun q h1 h2 h3 h4=>?_
   have:=D.le p q h1 h2 h3;have:=ih (n - q) (by exact zi6 (.g (.a au aT) bX (.g bX (.a fh m9) (.g (.s m9) aT (.g fh aE .e)))) (.s au) aE zC (zB h2) (zS _ _) h1 (zA hk)) q h2 rfl
   (rename_i nV;exact (G7 (.g au (.a bX fh) (.g (.s fh) aT (.g bX (.s aE) .e))) au (.a aE aT) zC this (zG h4) nV))
theorem DP.same (D:DP n ok F W) (M:rE ok) (B:Back n ok G V):G 0=F n:=by
 have h1:=D.back M B n (aB _);have h2:=D.abo M B n 0 (by exact d7 n) (by exact oV n);rw[B.gn] at h1;rw[D.f0] at h2;exact zQ (oH (.g au (.a aE gR) .e) au aE zC h1) (acy h2)
theorem DP.Z2 (D:DP n ok F W) (M:rE ok) (B:Back n ok G V) {p:Nat} (hp:p≤n):F n≤F p+G p:=D.abo M B (n - p) p hp rfl
theorem H8 {F:Nat→Nat} {k n p:Nat} (hp:p≤n) (hf:F p=k):∃ e,iV n F k e:=by
 induction n with
 | zero=>exact ⟨0,aB _,by rw[show p=0 by exact jv hp] at hf;exact hf,fun p hp _=>hp⟩
 | succ m ihm =>
  by_cases q:F (m+1)=k
  ·exact ⟨m+1,aB _,q,fun p hp _=>hp⟩
  ·have VY:p≤m:=by
    by_cases z:p=m+1
    ·subst z;exact absurd hf q
    ·exact (aW z).elim (fun dK=>(R9 dK)) fun dK=>(V5 hp dK)
   refine nv (ihm VY) fun e' h1 h2 h3=>?_;exact ⟨e',by exact fR h1,h2,fun p hp hf=>by
    by_cases z:p=m+1
    ·subst z;exact absurd hf q
    ·exact h3 p (by exact (aW z).elim (fun dK=>(R9 dK)) fun dK=>(V5 hp dK)) hf⟩
set_option tactic.hygienic true in
theorem DP.BZ (D:DP n ok F W) (M:rE ok) (B:Back n ok G V):∀ d k e,iV n F k e→F n - k=d→k≤F n→G e≤d:=by
 intro d;induction d with
 | zero =>
  intro k e h hd hk;have:n≤e:=(D.kD M h (aB _)).mp (by exact Nat.le_of_sub_eq_zero hd);rw[show e=n by have:=h.1;(rename_i nV;exact (zQ this nV)),B.gn];exact aB _
 | succ d ih =>
  intro k e h hd hk;have kL:¬ n≤e:=fun q=>by
   have:=(D.kD M h (aB n)).mpr q;exact z0 [_,_,_,_] (.g (.s au) aE (.g (.a aE aT) bX (.g bX aT .e))) zC (zG hd) (zB hk) this
  obtain ⟨e',h'⟩:∃ e',iV n F (k+1) e':=by
   refine bU (D.hit M (k:=k+1) (m:=n) (aB _) (by exact X0 (zB hk) (zG hd))) fun p hp hf=>?_;exact H8 hp hf
  have:=ih (k+1) e' h' (by exact zQ (G7 (.g (.a au (.s aT)) bX (.g bX (.a fh aT) (.g fh (.s aE) .e))) au aE zC (zB (X0 (zB hk) (zG hd))) (zS _ _) (zA hd)) (G7 (.g (.s au) aT (.g (.a aT bX) fh (.g fh (.a aE (.s bX)) .e))) au aE zC (zG hd) (zB hk) (zS _ _))) (by exact X0 (zB hk) (zG hd));have pB:=D.Kp M h h'.1 h'.2.1;have kL:e<e':=by
   have:=mt (D.kD M h h'.1).mpr (by rw[h'.2.1];exact Nu k);exact kB this
  have:=B.le e e' kL h'.1 pB
  (rename_i nV;exact (T7 this nV))
end
end
section
section
variable {n:Nat} {ok ok':Nat→Nat→Bool} {F W F' W':Nat→Nat}
theorem CT {f:Nat→Nat}:∀ {n:Nat},sumTo (n+1) (fun k=>f (n - k))=sumTo (n+1) f
 | 0=>rfl
 | n+1=>by
  have h:∀ (m:Nat) (g:Nat→Nat),sumTo (m+1) g=g 0+sumTo m fun k=>g (k+1):=by
   intro m g;induction m with
   | zero=>simp [sumTo]
   | succ m ih =>
    rw[sumTo,ih];exact nR (g 0) (sumTo m fun k=>g (k+1)) (g (m+1))
  rw[h (n+1)];rw[eZ (g:=fun k=>f (n - k)) fun k hk=>by rw[show n+1 - (k+1)=n - k by exact Lu n 1 k],CT,gI];rfl
theorem sG {f:Nat→Nat} {p:Nat}:∀ {n:Nat},p≤n→sumTo p f=sumTo n fun k=>if k<p then f k else 0
 | 0,h=>by rw[show p=0 by exact jv h];rfl
 | n+1,h=>by
  rw[sumTo];by_cases e:p=n+1
  ·rw[e]
   rw[sumTo,eZ (g:=fun k=>if k<n+1 then f k else 0) fun k hk=>by rw[aA (by exact ja 1 hk)],aA (dJ n)]
  ·rw[aS (by exact (aW e).elim (fun dK=>(fun pM=>(X3 pM dK))) fun dK=>(fun pM=>(z0 [_,_] (.g (.s (.s au)) aE (.g aE (.s au) .e)) zC dK h))),sN]
   exact sG (by exact (aW e).elim (fun dK=>(R9 dK)) fun dK=>(V5 h dK))
theorem DP.wQ (ht:∀ i j,i<j→j≤n→ok' i j=ok (n - j) (n - i)) (D:DP n ok' F' W'):Back n ok (fun p=>F' (n - p)) fun p=>W' (n - p):=by
 refine ⟨by simp [D.f0],by simp [D.w0],fun p q h1 h2 h3=>?_,fun p hp=>?_,fun p hp=>?_⟩
 ·exact D.le (n - q) (n - p) (by exact T8 (zB h2) (zS _ _) h1) (by exact aI n p) (by rwa [ht _ _ (by exact T8 (zB h2) (zS _ _) h1) (by exact aI n p),show n - (n - p)=p by exact (mJ (n) (n - p)).elim (fun dK=>(zQ (Pq (zK dK)) (T9 (zB (DF h1 h2)) dK))) fun dK=>(zQ (Pr (zB dK) (zS _ _)) (Pu (zB (DF h1 h2)) (zS _ _))),show n - (n - q)=q by exact rS h2])
 ·refine nv (D.ex (n - p) (by exact nj hp) (by exact aI n p)) fun q h1 h2 h3=>?_
  rw[ht _ _ h1 (by exact aI n p),show n - (n - p)=p by exact zQ (Pr (zB (aI _ _)) (zS _ _)) (Pu (zL (X4 h1)) (zS _ _))] at h2;exact ⟨n - q,by exact G7 (.g (.a aT au) bX (.g bX (.a aE fh) (.g (.s fh) aT .e))) (.s au) aE zC (zL (X4 h1)) (zS _ _) h1,by exact aI n q,h2,by simp only [show n - (n - q)=q by exact (mJ (n) (n - q)).elim (fun dK=>(zQ (Pq (zK dK)) (T9 (zB (DF h1 (aI _ _))) dK))) fun dK=>(zQ (Pr (zB dK) (zS _ _)) (Pu (zB (DF h1 (aI _ _))) (zS _ _)))];exact h3⟩
 ·rw[D.ws (n - p) (by exact nj hp) (by exact aI n p),sG (n:=n+1) (by exact oH (.g au aE .e) au (.s aE) zC (aI _ _)),← CT]
  refine eZ fun k hk=>?_;by_cases c:p<k
  ·rw[aA (by exact v5 hp c:n - k<n - p),ht _ _ (by exact v5 hp c) (aI n p),show n - (n - p)=p by exact (mJ (n) (n - p)).elim (fun dK=>(zQ (Pq (zK dK)) (T9 (zB (NJ hp)) dK))) fun dK=>(zQ (Pr (zB dK) (zS _ _)) (Pu (zB (NJ hp)) (zS _ _))),show n - (n - k)=k by exact (mJ (n) (n - k)).elim (fun dK=>(zQ (Pq (zK dK)) (T9 (zB (R9 hk)) dK))) fun dK=>(zQ (Pr (zB dK) (zS _ _)) (Pu (zB (R9 hk)) (zS _ _)))]
   simp only [c,Wy]
  ·rw[aS (by exact fun pM=>(z0 [_,_,_,_,_] (.g (.s au) aE (.g (.a aE aT) bX (.g bX (.a au fh) (.g fh aT .e)))) zC pM (zB (NJ hp)) (zS _ _) (zM c)):¬ n - k<n - p),aS fun h=>c h.1.1]
structure v7 (n:Nat) (ok ok':Nat→Nat→Bool) (F W F' W':Nat→Nat):Prop where
 M:rE ok
 D:DP n ok F W
 M':rE ok'
 D':DP n ok' F' W'
 ht:∀ i j,i<j→j≤n→ok' i j=ok (n - j) (n - i)
variable (T:v7 n ok ok' F W F' W')
include T
theorem v7.N:F' n=F n:=T.D.same T.M (T.D'.wQ T.ht)
theorem v7.ge {p:Nat} (hp:p≤n):F n≤F p+F' (n - p):=T.D.Z2 T.M (T.D'.wQ T.ht) hp
theorem v7.le1 {p:Nat} (h0:0<p) (hp:p≤n):F p+F' (n - p)≤F n+1:=by
 have hk:=T.D.mono T.M hp (aB n);have h1:=T.D.pos h0 hp;obtain ⟨e,he⟩:=H8 hp rfl;have hb:=T.D.BZ T.M (T.D'.wQ T.ht) _ _ _ he rfl hk;have hpe:=he.2.2 p hp rfl;refine nv (T.D.ex p h0 hp) fun q q1 q2 q3=>?_;refine eU (H8 (n:=n) (F:=F) (p:=q) (by exact DF q1 hp) (k:=F p - 1) (by exact Nt (id (iI q3)))) fun e0 Xz=>?_;have pB:=T.D.Kp T.M Xz he.1 (by rw[he.2.1];exact (f7 h1).mp rfl);have al3:q≤e0:=Xz.2.2 q (by exact DF q1 hp) (by exact Nt (id (iI q3)));have kL:e0<p:=by
  have:=mt (T.D.kD T.M Xz hp).mpr (by exact fun pM=>(z0 [_,_] (.g (.a au jr) aE (.g aE au .e)) zC (zB (RZ h1)) pM));exact kB this
 by_cases z:p=e
 ·rw[← z] at hb
  exact xV (.g (.a bX au) aT (.g aE bX .e)) (.a au aE) (.s aT) zC (zB hk) hb
 ·have:=(T.D'.wQ T.ht).le p e (by exact dg hpe z) he.1 (T.M.sub e0 e p e pB (by exact bk kL) (by exact dg hpe z) (aB _))
  exact G7 (.g (.a bX au) aT (.g aE (.s fh) (.g fh bX .e))) (.a au aE) (.s aT) zC (zB hk) this hb
theorem v7.free {p:Nat} (h0:0<p) (hp:p<n) (ff near:Nat→Nat) (hf:∀ k,1≤k→k<F n→iV n F k (ff k)) (hn:∀ k,1≤k→k<F n→iV n F' (F n - k) (n - near k)∧near k≤n) :
  F p+F' (n - p)=F n↔∃ k,(1≤k∧k<F n)∧near k≤p∧p≤ff k:=by
 have h1:=T.D.pos h0 (jw hp);have h2:=T.D'.pos (p:=n - p) (by exact nj hp) (by exact aI n p);constructor
 ·intro h
  refine ⟨F p,⟨h1,by exact X5 (zA h) h2⟩,?_,(hf _ h1 (by exact X5 (zA h) h2)).2.2 p (jw hp) rfl⟩;have:=(hn (F p) h1 (by exact X5 (zA h) h2)).1.2.2 (n - p) (by exact aI n p) (by exact Nat.eq_sub_of_add_eq' h);exact X6 (zL (xV (.g (.s aE) aT (.g aT (.a bX aE) (.g bX au .e))) jr au zC hp (zS _ _) this)) (zS _ _) this
 ·rintro ⟨k,⟨k1,k2⟩,h3,h4⟩
  have h5:=(T.D.kD T.M (hf k k1 k2) (jw hp)).mpr h4;have h6:=(T.D'.kD T.M' (hn k k1 k2).1 (p:=n - p) (by exact aI n p)).mpr (by exact N3 h3 n);have:=T.ge (jw hp);exact zQ (acz h5 h6 (zL (oH (.g (.s gR) aE (.g aE au .e)) jr au zC h2 h6))) this
theorem v7.UC {k e:Nat} (h1:1≤k) (h2:k<F n) (h:iV n F k e):0<e∧e<n:=by
 constructor
 ·by_cases z:e=0
  ·have:=h.2.1
   rw[z,T.D.f0] at this;exact oH (.g jr aE (.g aE gR .e)) (.s gR) au zC h1 (zG this)
  ·exact dR z
 ·by_cases z:e=n
  ·have:=h.2.1
   rw[z] at this;exact (IE h2 (zA this)).elim
  ·have:=h.1
   exact dg this z
set_option tactic.hygienic true in
theorem v7.Gp {k a b:Nat} (h1:1≤k) (h2:k<F n) (hb:iV n F k b) (ha:iV n F' (F n - k) (n - a)) (NF:a≤n):a≤b:=by
 have:=T.D.BZ T.M (T.D'.wQ T.ht) _ _ _ hb rfl (jw h2);have:=(T.D'.kD T.M' ha (p:=n - b) (by exact aI n b)).mp this;have:=hb.1
 (rename_i nV;exact (X6 (zB NF) (zS _ _) nV))
theorem v7.gap {k a b:Nat} (h1:1≤k) (h2:k+1<F n) (hb:iV n F k b) (ha:iV n F' (F n - (k+1)) (n - a)) (NF:a≤n):b<a:=by
 have h:=T.ge NF;rw[ha.2.1] at h;have:=mt (T.D.kD T.M hb NF).mpr (by exact fun pM=>(z0 [_,_,_,_] (.g (.a au (.s aE)) aT (.g aT (.a bX au) (.g bX aE .e))) zC (zB (oH (.g (.s (.s au)) aE .e) (.s au) aE zC h2)) h pM));exact kB this
noncomputable def level (n:Nat) (F W F' W':Nat→Nat) (k:Nat):Nat:=sumTo (n+1) fun p=>if F p=k∧F' (n - p)=F n - k then W p*W' (n - p) else 0
theorem v7.IM {k:Nat} (h:k<F n):level n F W F' W' k=level n F W F' W' (k+1):=by
 have B:=(T.D'.wQ T.ht);have e1:level n F W F' W' k=sumTo (n+1) fun p=>sumTo (n+1) fun q=>if F p=k∧F' (n - p)=F n - k∧p<q∧ok p q=true∧F' (n - q)+1=F' (n - p) then W p*W' (n - q) else 0:=by
  refine eZ fun p hp=>?_;by_cases c:F p=k∧F' (n - p)=F n - k
  ·rw[aA c]
   have hpn:p<n:=by
    by_cases z:p=n
    ·have:=c.2
     rw[z,iH,T.D'.f0] at this;exact absurd this (fU (ya h))
    ·exact (aW z).elim (fun dK=>dK) fun dK=>(IF hp dK)
   rw[B.ws p hpn,← wN];refine eZ fun q hq=>?_;simp only [c.1,c.2,Wy,and_assoc];split<;>simp
  ·rw[aS c]
   exact (oF.symm.trans (eZ fun q _=>(aS fun h=>c ⟨h.1,h.2.1⟩).symm))
 have e2:level n F W F' W' (k+1)=sumTo (n+1) fun q=>sumTo (n+1) fun p=>if F q=k+1∧F' (n - q)=F n - (k+1)∧p<q∧ok p q=true∧F p+1=F q then W p*W' (n - q) else 0:=by
  refine eZ fun q hq=>?_;by_cases c:F q=k+1∧F' (n - q)=F n - (k+1)
  ·rw[aA c]
   have hq0:0<q:=by
    by_cases z:q=0
    ·have:=c.1
     rw[z,T.D.f0] at this;exact oH (.g (.s aE) gR .e) (.s gR) au zC (zG this)
    ·exact dR z
   rw[T.D.ws q hq0 (by exact eE hq),sG (n:=n+1) (by exact bk hq),JI,← wN];refine eZ fun p hp=>?_;simp only [c.1,c.2,Wy];by_cases c1:p<q
   ·simp only [c1,Wy,gz]
    split<;>simp [JI]
   ·simp only [c1,false_and,jy,Nat.mul_zero]
  ·rw[aS c]
   exact (oF.symm.trans (eZ fun q _=>(aS fun h=>c ⟨h.1,h.2.1⟩).symm))
 rw[e1,e2,Au];refine eZ fun q hq=>eZ fun p hp=>?_;have iff:(F p=k∧F' (n - p)=F n - k∧p<q∧ok p q=true∧F' (n - q)+1=F' (n - p))↔(F q=k+1∧F' (n - q)=F n - (k+1)∧p<q∧ok p q=true∧F p+1=F q):=by
  constructor
  ·rintro ⟨a,b,c,d,e⟩
   have h1:=T.D.le p q c (by exact eE hq) d;have h2:=T.ge (p:=q) (by exact eE hq);exact ⟨by exact zQ (T7 h1 (zA a)) (zi6 (.g (.a aT au) bX (.g bX (.a aE fh) (.g (.s fh) m9 (.g m9 aT .e)))) (.s au) aE zC (zL (rM (.g (.s aE) aT (.g aT au .e)) jr au zC (zA e) (zA b))) h2 (zA e) (zA b)),by exact zQ (zi6 (.g (.s au) aT (.g aT bX (.g (.a bX fh) m9 (.g m9 (.a aE (.s fh)) .e)))) au aE zC (zA e) (zA b) (zB (NJ h)) (zS _ _)) (zi6 (.g (.a au (.s aT)) bX (.g bX (.a fh aT) (.g fh m9 (.g m9 (.s aE) .e)))) au aE zC (zB h) (zS _ _) (zG b) (zG e)),c,d,by exact zQ (zi7 (.g au aT (.g (.a bX aT) fh (.g fh (.a aE m9) (.g (.s m9) vS (.g vS bX .e))))) (.s au) aE zC (zA a) (zL (rM (.g (.s aE) aT (.g aT au .e)) jr au zC (zA e) (zA b))) h2 (zA e) (zA b)) h1⟩
  ·rintro ⟨a,b,c,d,e⟩
   have h1:=B.le p q c (eE hq) d;have h2:=T.ge (p:=p) (by exact rM (.g (.s au) aT (.g (.s aT) (.s aE) .e)) au aE zC c hq);exact ⟨by exact zQ (V4 (zA e) (zA a)) (V4 (zG a) (zG e)),by exact zQ (zi6 (.g au (.s aT) (.g aT bX (.g (.a bX (.s fh)) m9 (.g m9 (.a aE fh) .e)))) au aE zC h1 (zA b) (zB h) (zS _ _)) (zi6 (.g (.a au aT) bX (.g bX (.a fh aE) (.g (.s fh) m9 (.g m9 (.s aT) .e)))) au aE zC (zB (NJ h)) h2 (zA e) (zA a)),c,d,by exact zQ (zi7 (.g au aT (.g (.a aT (.s bX)) fh (.g fh (.a m9 aE) (.g (.s m9) vS (.g vS (.s bX) .e))))) (.s au) aE zC (zA b) (zB h) h2 (zA e) (zA a)) h1⟩
 simp only [iff]
set_option tactic.hygienic true in
theorem v7.Mu {k:Nat} (h:k≤F n):level n F W F' W' k=W n:=by
 have top:level n F W F' W' (F n)=W n:=by
  unfold level;rw[wO (a:=n) (dJ n) fun p hp tV=>aS fun c=>?_]
  ·rw[iH,T.D'.f0,iH,aA ⟨rfl,rfl⟩,T.D'.w0,Nat.mul_one]
  ·have:=T.D'.pos (p:=n - p) (by exact (aW tV).elim (fun dK=>(rM (.g (.s aE) aT (.g aT (.a au aE) .e)) (.s gR) au zC dK (zS _ _))) fun dK=>(rM (.g (.s aE) aT (.g (.s aT) (.s aE) .e)) (.s gR) au zC dK hp)) (by exact aI n p)
   have:=c.2
   (rename_i nV;exact (z0 [_,_,_] (.g (.s gR) au (.g au aE (.g (.a aE aT) aT .e))) zC nV (zA c.2) (zB (X7 ))))
 have:∀ d k,k+d=F n→level n F W F' W' k=W n:=by
  intro d;induction d with
  | zero=>intro k e;rw[show k=F n by exact e];exact top
  | succ d ih=>intro k e;rw[T.IM (by exact Mq (zA e))];exact ih (k+1) (by exact zQ (IG (zA e)) (Ua (zG e)))
 exact this (F n - k) k (by exact xZ h)
set_option tactic.hygienic true in
theorem v7.shared {k a b p:Nat} (h1:1≤k) (h2:k<F n) (hb:iV n F k b) (ha:iV n F' (F n - k) (n - a)) (NF:a≤n) (hp:p=a∨p=b) :
  (F p+F' (n - p)=F n∧W p*W' (n - p)=W n)↔a=b:=by
 have Tq:=T.Gp h1 h2 hb ha NF;have lev:∀ q,q≤n→((F q=k∧F' (n - q)=F n - k)↔a≤q∧q≤b):=by
  intro q hq;have i1:=T.D.kD T.M hb hq;have i2:=T.D'.kD T.M' ha (p:=n - q) (by exact aI n q);have i3:=T.ge hq;constructor
  ·rintro ⟨c,d⟩
   have:=i1.mp (by exact cU c);have:=i2.mp (by exact cU d)
   (rename_i nV;exact ⟨(X6 (zB NF) (zS _ _) this),nV⟩)
  ·rintro ⟨c,d⟩
   have:=i1.mpr d;have:=i2.mpr (by exact N3 c n);exact ⟨(zQ (i1.mpr d) (G7 (.g (.a aT au) bX (.g bX (.a aE fh) (.g fh aT .e))) au aE zC (zB (NJ h2)) i3 this)),(zQ this (G7 (.g (.a au aT) bX (.g bX (.a fh aE) (.g fh aT .e))) au aE zC (zB (NJ h2)) i3 (i1.mpr d)))⟩
 have hbn:=hb.1;have yp:=(lev p (by exact hp.elim (fun dK=>(Km (zA dK) NF)) fun dK=>(Km (zA dK) hbn))).mpr (by exact hp.elim (fun dK=>⟨(zG dK),(Km (zA dK) Tq)⟩) fun dK=>⟨(Km Tq (zG dK)),(zA dK)⟩);have L:=T.Mu (k:=k) (by exact bk h2);unfold level at L;constructor
 ·rintro ⟨_,hw⟩
  by_cases z:a=b
  ·exact z
  ·have la:=(lev a (by exact NF)).mpr (by exact ⟨(X7 ),Tq⟩)
   have lb:=(lev b (by exact hbn)).mpr (by exact ⟨Tq,(X7 )⟩);have two:=Eb (f:=fun p=>if F p=k∧F' (n - p)=F n - k then W p*W' (n - p) else 0) (a:=a) (b:=b) (n:=n+1) (by exact dg Tq z) (by exact jR hbn);rw[aA la,aA lb] at two;have pa:=Nat.mul_pos (T.D.Vg a (by exact NF)) (T.D'.Vg (n - a) (by exact aI n a));have pb:=Nat.mul_pos (T.D.Vg b hbn) (T.D'.Vg (n - b) (by exact aI n b));have t2:=ay two (cU (L.trans hw.symm));exact hp.elim (fun e=>absurd t2 (e ▸ AJ (Hx pb))) fun e=>absurd t2 (e ▸ AJ (Nat.lt_add_of_pos_left pa))
 ·intro z
  refine ⟨by exact zQ (acz (zA yp.1) (zA yp.2) (zB (NJ h2))) (G7 (.g au (.a bX fh) (.g fh aE (.g bX aT .e))) au (.a aE aT) zC (zS _ _) (zG yp.1) (zG yp.2)),?_⟩;rw[wO (a:=p) (by exact hp.elim (fun dK=>(rM (.g au aT (.g aT aE .e)) (.s au) (.s aE) zC (zA dK) NF)) fun dK=>(xV (.g au aT (.g aT bX (.g bX aE .e))) (.s au) (.s aE) zC (zA dK) (zG z) NF)) fun q hq tV=>aS fun c=>?_,aA yp] at L
  ·exact L
  ·have:=(lev q (eE hq)).mp c
   exact hp.elim (fun dK=>((aW tV).elim (fun W9=>(T4 W9 (zA dK) this.1)) fun W9=>(z0 [_,_,_,_] (.g (.s au) aE (.g aE aT (.g aT bX (.g bX au .e)))) zC W9 this.2 (zG z) (zG dK)))) fun dK=>((aW tV).elim (fun W9=>(z0 [_,_,_,_] (.g (.s au) aE (.g aE aT (.g aT bX (.g bX au .e)))) zC W9 (zA dK) (zG z) this.1)) fun W9=>(T4 W9 this.2 (zG dK)))
end
end
section
noncomputable def Gn:List Nat→Nat
 | []=>0
 | [a]=>a
 | a :: r=>min a (Gn r)
theorem DO:∀ {l:List Nat} {x:Nat},x∈l→Gn l≤x
 | [a],x,h=>by
  rw[bA] at h;subst h;exact aB _
 | a :: b :: r,x,h=>by
  rcases av.mp h with rfl | h
  ·exact jG _ _
  ·exact ay (fE _ _) (DO h)
theorem z6:∀ {l:List Nat},l≠[]→Gn l∈l
 | [a],_=>bA.mpr rfl
 | a :: b :: r,_=>by
  show min a (Gn (b :: r))∈_;rcases mJ a (Gn (b :: r)) with h | h
  ·rw[jF h];exact .head _
  ·rw[AI h];exact .tail _ (z6 (kh _ _))
noncomputable def dB (ok:Nat→Nat→Bool) (p:Nat):List Nat:=(p - 1) :: (b4 (p - 1)).filter fun q=>ok q p
noncomputable def jh (ok:Nat→Nat→Bool) (F:Nat→Nat) (p:Nat):Nat:=Gn ((dB ok p).map F)
noncomputable def wU (ok:Nat→Nat→Bool) (F W:Nat→Nat) (p:Nat):Nat:=(((dB ok p).filter fun q=>F q==jh ok F p).map W).sum
noncomputable def bO (ok:Nat→Nat→Bool):Nat→List (Nat × Nat)
 | 0=>[(0,1)]
 | p+1=>bO ok p++[(jh ok (fun q=>((bO ok p)[q]?.getD (0,0)).1) (p+1)+1,wU ok (fun q=>((bO ok p)[q]?.getD (0,0)).1) (fun q=>((bO ok p)[q]?.getD (0,0)).2) (p+1))]
noncomputable def hF (ok:Nat→Nat→Bool) (p:Nat):Nat:=((bO ok p)[p]?.getD (0,0)).1
noncomputable def hW (ok:Nat→Nat→Bool) (p:Nat):Nat:=((bO ok p)[p]?.getD (0,0)).2
section
variable {ok:Nat→Nat→Bool}
theorem gm:∀ p,(bO ok p).length=p+1
 | 0=>rfl
 | p+1=>by rw[bO,aO,gm];rfl
theorem BQ:∀ {p q:Nat},q≤p→(bO ok p)[q]?=(bO ok q)[q]?
 | 0,q,h=>by rw[show q=0 by exact jv h]
 | p+1,q,h=>by
  by_cases e:q=p+1
  ·rw[e]
  ·rw[bO,cW (by rw[gm];exact dg h e)]
   exact BQ (by exact (aW e).elim (fun dK=>(R9 dK)) fun dK=>(V5 h dK))
theorem kK {p q:Nat} (h:q≤p):(bO ok p)[q]?=some (hF ok q,hW ok q):=by
 rw[BQ h];delta hF hW;refine oC ((bO ok q)[q]?) (fun e=>?_) fun v e=>?_
 ·rw[cC,gm] at e;exact (z0 [_] (.g (.s au) au .e) zC e).elim
 ·rfl
theorem zc (n:Nat):bO ok n=(b4 (n+1)).map fun p=>(hF ok p,hW ok p):=by
 refine qi fun q=>?_;by_cases h:q≤n
 ·rw[kK h,bM,u0 (by exact jR h)]
  rfl
 ·rw[cC.mpr (by rw[gm];exact zN h),cC.mpr (by rw[aM,fK];exact zN h)]
theorem z4 {p q:Nat} (M:rE ok) (hp:0<p):q∈dB ok p↔q<p∧ok q p=true:=by
 unfold dB;rw[av,gB,dF];constructor
 ·rintro (rfl | ⟨h1,h2⟩)
  ·exact ⟨by exact kc hp,by have:=M.one (p - 1);rwa [show p - 1+1=p by exact jx hp] at this⟩
  ·exact ⟨by exact Sx h1,h2⟩
 ·rintro ⟨h1,h2⟩
  by_cases e:q=p - 1
  ·exact .inl e
  ·exact .inr ⟨by exact (aW e).elim (fun dK=>dK) fun dK=>(rM (.h 2 (.s au) aT (.h 2 aT (.a aE jr) (.g (.s aE) au .e))) (.s au) aE zC h1 (zS _ _) dK),h2⟩
theorem zZ {α : Type} {f g:Nat→α} {p:Nat} (hp:0<p) (h:∀ q,q<p→f q=g q):(dB ok p).map f=(dB ok p).map g:=by
 refine e9 fun q hq=>h q ?_;unfold dB at hq;rw[av,gB,dF] at hq;exact hq.elim (fun dK=>(Ey (zA dK) (zB (RZ hp)))) fun dK=>(XY dK.1 (aI _ _))
theorem yi (p:Nat):hF ok (p+1)=jh ok (hF ok) (p+1)+1:=by
 have e:hF ok (p+1)=jh ok (fun q=>((bO ok p)[q]?.getD (0,0)).1) (p+1)+1:=by
  conv=>lhs;unfold hF
  rw[bO,bw (by rw[gm];exact aB (p+1)),gm,iH];rfl
 rw[e];unfold jh;rw[zZ (g:=hF ok) (by exact jc p) fun q hq=>by rw[kK (by exact eE hq)];rfl]
theorem ki {α : Type} {f g:α→Bool}:∀ {l:List α},(∀ x∈l,f x=g x)→l.filter f=l.filter g
 | [],_=>rfl
 | x :: l,h=>by
  rw[iW,iW,h x (.head _),ki fun y hy=>h y (.tail _ hy)]
theorem J6 (p:Nat):hW ok (p+1)=wU ok (hF ok) (hW ok) (p+1):=by
 have e:hW ok (p+1)=wU ok (fun q=>((bO ok p)[q]?.getD (0,0)).1) (fun q=>((bO ok p)[q]?.getD (0,0)).2) (p+1):=by
  conv=>lhs;unfold hW
  rw[bO,bw (by rw[gm];exact aB (p+1)),gm,iH];rfl
 rw[e];have lt:∀ q∈dB ok (p+1),q≤p:=fun q hq=>by
  unfold dB at hq;rw[av,gB,dF] at hq;exact hq.elim (fun dK=>(acB (zA dK) (zB (Ub )))) fun dK=>(V4 dK.1 (aI _ _))
 have f1:jh ok (fun q=>((bO ok p)[q]?.getD (0,0)).1) (p+1)=jh ok (hF ok) (p+1):=by
  unfold jh;rw[zZ (g:=hF ok) (by exact jc p) fun q hq=>by rw[kK (by exact eE hq)];rfl]
 dsimp only [wU];rw[f1,ki (g:=fun q=>hF ok q==jh ok (hF ok) (p+1)) fun q hq=>by simp only [kK (lt q hq),xK]];congr 1;refine e9 fun q hq=>?_;rw[kK (lt q (gB.mp hq).1)];rfl
theorem qg {c:Nat→Bool} {f:Nat→Nat}:∀ {n:Nat},(((b4 n).filter c).map f).sum=sumTo n fun q=>if c q=true then f q else 0
 | 0=>rfl
 | n+1=>by
  rw[sM,gZ,aV,ly,qg,sumTo];congr 1;by_cases h:c n=true
  ·rw[iX h,aA h];simp
  ·rw[gy h,aS h];rfl
theorem vD (M:rE ok) (n:Nat):DP n ok (hF ok) (hW ok):=by
 refine ⟨rfl,rfl,fun q p hq hp h=>?_,fun p h0 hp=>?_,fun p h0 hp=>?_⟩
 ·obtain ⟨p,rfl⟩:∃ p',p=p'+1:=⟨p - 1,by exact zQ (X8 (zS _ _)) (X9 (zB (X4 hq)))⟩
  rw[yi];have:=DO (bP (f:=hF ok) ((z4 M (by exact jc p)).mpr ⟨hq,h⟩));exact nX this 1
 ·obtain ⟨p,rfl⟩:∃ p',p=p'+1:=⟨p - 1,by exact (f7 h0).mp rfl⟩
  have:=z6 (l:=(dB ok (p+1)).map (hF ok)) (by unfold dB;simp);refine bU (aX.mp this) fun q h1 h2=>?_;refine cz ((z4 M h0).mp h1) fun h3 h4=>?_;exact ⟨q,h3,h4,by rw[yi];unfold jh;exact Vr.mpr (id (iI h2))⟩
 ·obtain ⟨p,rfl⟩:∃ p',p=p'+1:=⟨p - 1,by exact (f7 h0).mp rfl⟩
  rw[J6];unfold wU;have e:∀ q,(hF ok q==jh ok (hF ok) (p+1))=decide (hF ok q+1=hF ok (p+1)):=fun q=>by
   rw[yi,k9,beq_iff_eq,mK];exact Iff.symm Vr
  rw[ki (g:=fun q=>decide (hF ok q+1=hF ok (p+1))) fun q _=>e q];unfold dB;rw[ju,iW,List.filter_filter,sumTo];have s:=qg (n:=p) (f:=hW ok) (c:=fun q=>decide (hF ok q+1=hF ok (p+1))&&ok q (p+1));have s':(sumTo p fun q=>if (decide (hF ok q+1=hF ok (p+1))&&ok q (p+1))=true then hW ok q else 0)=sumTo p fun q=>if ok q (p+1)=true∧hF ok q+1=hF ok (p+1) then hW ok q else 0:=
   eZ fun q _=>by simp only [aR,br,and_comm]
  rw[← s',← s];by_cases h:hF ok p+1=hF ok (p+1)
  ·rw[aA (cL h),aA ⟨M.one p,h⟩,cZ,vZ,gI]
  ·rw[aS (by simpa using h),aS fun c=>h c.2];exact (sN _).symm
end
end
section
noncomputable def pre (ws:List Nat) (j:Nat):Nat:=(ws.take j).sum
noncomputable def eV (ws:List Nat) (r i j:Nat):Bool:=i+1==j||decide (i<j∧pre ws j+(j - i)≤r+1+pre ws i)
theorem GC {ws:List Nat}:∀ {i j:Nat},i≤j→pre ws i≤pre ws j:=by
 intro i j h;unfold pre;obtain ⟨d,rfl⟩:∃ d,j=i+d:=⟨j - i,by exact iI (xZ h)⟩;rw[List.take_add,ly];exact b7 (List.take i ws).sum (List.take d (List.drop i ws)).sum
theorem p9 (ws:List Nat) (r:Nat):rE (eV ws r):=by
 refine ⟨fun i=>by unfold eV;simp,fun i j i' j' h h1 h2 h3=>?_⟩;unfold eV at h ⊢;simp only [jB,beq_iff_eq,br] at h ⊢;by_cases e:i'+1=j'
 ·exact .inl e
 ·right
  have p1:=GC (ws:=ws) h1;have p2:=GC (ws:=ws) h3;rcases h with h | ⟨_,h⟩
  ·exact (aW e).elim (fun dK=>((z0 [_,_,_,_] (.g (.s (.s au)) aE (.g aE aT (.g aT (.s bX) (.g bX au .e)))) zC dK h3 (zG h) h1).elim)) fun dK=>((X3 h2 dK).elim)
  ·exact ⟨h2,by exact zi [_,_,_,_,_,_,_,_,_,_,_] 0 (.g au fh (.g (.a aE m9) vS (.g vS G6 (.g G6 (.a (.v 8) (.v 9)) (.g (.v 9) m9 (.g (.a fh (.v 8)) (.a (.s aT) (.v 10)) (.g (.v 10) bX .e))))))) (.a au aE) (.a (.s aT) bX) zC p2 (zB (NJ h2)) h3 (zS _ _) h1 h p1⟩
theorem K2 {ws:List Nat} {j:Nat} (h:j≤ws.length):pre ws.reverse j+pre ws (ws.length - j)=pre ws ws.length:=by
 unfold pre;rw[RI,List.sum_reverse,dG,gI,← ly,fZ]
theorem Qh (ws:List Nat) (r:Nat):∀ i j,i<j→j≤ws.length→eV ws.reverse r i j=eV ws r (ws.length - j) (ws.length - i):=by
 intro i j h1 h2;have p1:=K2 (ws:=ws) (j:=i) (by exact DF h1 h2);have p2:=K2 (ws:=ws) (j:=j) h2;unfold eV;rw[k9];simp only [jB,beq_iff_eq,br];constructor
 ·rintro (h | ⟨_,h⟩)
  ·left;exact zQ (T8 (zB h2) (zS _ _) (zA h)) (G7 (.g (.a au aT) bX (.g bX (.a aE fh) (.g fh (.s aT) .e))) au (.s aE) zC (zB (DF (zA h) h2)) (zS _ _) (zG h))
  ·right;exact ⟨by exact T8 (zB h2) (zS _ _) h1,by exact rvJ h1 p1 p2 h⟩
 ·rintro (h | ⟨_,h⟩)
  ·left;exact zQ h1 (G7 (.g (.a aT au) bX (.g bX (.a fh aE) (.g fh (.s aT) .e))) au (.s aE) zC (zB h2) (zS _ _) (zG h))
  ·right;exact ⟨h1,by exact zi [_,_,_,_,_,_,_,_,_,_,_,_,_] 0 (.g (.a au fh) m9 (.g (.a aE vS) G6 (.g (.a (.v 8) G6) (.v 9) (.g (.v 9) (.a (.v 10) vS) (.g m9 (.a bX (.v 11)) (.g (.a (.v 11) (.v 12)) (.a (.s aT) fh) (.g (.v 10) (.a (.v 12) (.v 8)) .e))))))) (.a au aE) (.a (.s aT) bX) zC (zA p2) (zB (NJ h1)) (zB h2) (zS _ _) (zG p1) h (zS _ _)⟩
theorem Qg {ws:List Nat} {r i j m:Nat} (h:i<j) (hj:j≤m):eV (ws.take m) r i j=eV ws r i j:=by
 delta eV pre;rw[C3,C3,jF hj,jF (by exact DF h hj)]
theorem Ds {ok ok':Nat→Nat→Bool} {p:Nat} (hp:0<p) (h:∀ q,q<p→ok q p=ok' q p):dB ok p=dB ok' p:=by
 unfold dB;congr 1;refine ki fun q hq=>h q ?_;rw[dF] at hq;exact Sx hq
theorem Dy {ok ok':Nat→Nat→Bool} {n:Nat} (h:∀ q p,q<p→p≤n→ok q p=ok' q p):bO ok n=bO ok' n:=by
 induction n with
 | zero=>rfl
 | succ n ih =>
  have e:=ih fun q p h1 h2=>h q p h1 (by exact fR h2);dsimp only [bO];rw[e];have f:=Ds (ok:=ok) (ok':=ok') (p:=n+1) (by exact jc n) fun q hq=>h q (n+1) hq (aB _);delta wU jh;rw[f]
theorem To {ws:List Nat} {r m p:Nat} (h:p≤m):hF (eV (ws.take m) r) p=hF (eV ws r) p:=by
 unfold hF;rw[Dy (ok':=eV ws r) fun q p' h1 h2=>Qg h1 (by exact ay h2 h)]
theorem two (ws:List Nat) (r:Nat):v7 ws.length (eV ws r) (eV ws.reverse r) (hF (eV ws r)) (hW (eV ws r)) (hF (eV ws.reverse r)) (hW (eV ws.reverse r)):=
 ⟨p9 _ _,vD (p9 _ _) _,p9 _ _,vD (p9 _ _) _,Qh ws r⟩
theorem MU (ws:List Nat) (r:Nat):hF (eV ws.reverse r) ws.length=hF (eV ws r) ws.length:=(two ws r).N
theorem MT {ws:List Nat} {r p:Nat} (h:p≤ws.length):hF (eV (ws.drop p) r) (ws.length - p)=hF (eV ws.reverse r) (ws.length - p):=by
 have e:=MU (ws.drop p) r;rw[bT] at e;rw[← e];have:(ws.drop p).reverse=ws.reverse.take (ws.length - p):=by rw[RI,show ws.length - (ws.length - p)=p by exact rS h]
 rw[this,To (aB _)]
section
variable {α : Type}
noncomputable def ie (l:List α):Nat→List Nat→List (List α)
 | _,[]=>[]
 | s,e :: es=>(l.drop s).take (e - s) :: ie l e es
noncomputable def mL:Nat→List Nat→Nat
 | s,[]=>s
 | _,e :: es=>mL e es
noncomputable def cutAt (l:List α) (es:List Nat):List (List α):=ie l 0 es++[l.drop (mL 0 es)]
theorem om {l m:List α}:∀ {es:List Nat} {s:Nat},(∀ e∈es,e≤l.length)→ie (l++m) s es=ie l s es
 | [],_,_=>rfl
 | e :: es,s,h=>by
  have he:=h e (.head _);unfold ie;rw[om fun x hx=>h x (.tail _ hx)];congr 1;by_cases hs:s≤l.length
  ·rw[jk hs,AG (by rw[bT];exact Nat.sub_le_sub_right he s)]
  ·rw[show e - s=0 by exact zQ (zK (rM (.g au aT (.g (.s aT) aE .e)) au aE zC he (zN hs))) (uM .e gR au zC ),WQ,WQ]
theorem vt {l:List α} {e:Nat}:∀ {es:List Nat} {s:Nat},ie l s (es++[e])=ie l s es++[(l.drop (mL s es)).take (e - mL s es)]
 | [],_=>rfl
 | x :: es,s=>by
  show _ :: ie l x (es++[e])=_;rw[vt];rfl
theorem qG {e:Nat}:∀ {es:List Nat} {s:Nat},mL s (es++[e])=e
 | [],_=>rfl
 | x :: es,s=>by
  show mL x (es++[e])=_;exact qG
theorem xo {β : Type} {f:α→β} {l:List α}:∀ {es:List Nat} {s:Nat},ie (l.map f) s es=(ie l s es).map (List.map f)
 | [],_=>rfl
 | e :: es,s=>by
  dsimp only [ie];rw[xo,cZ,← jE,← gk]
theorem LP {β : Type} {f:α→β} {l:List α} {es:List Nat}:cutAt (l.map f) es=(cutAt l es).map (List.map f):=by
 unfold cutAt;rw[xo,aV,← jE];rfl
end
noncomputable def eL:List (List Nat)→List Nat
 | []=>[]
 | [q]=>q
 | q :: r=>q++32 :: eL r
theorem uC:∀ {l:List (List Nat)} {q:List Nat},l≠[]→eL (l++[q])=eL l++32 :: q
 | [a],q,_=>rfl
 | a :: b :: r,q,_=>by
  show a++32 :: eL ((b :: r)++[q])=_;rw[uC (kh _ _)];show _=(a++32 :: eL (b :: r))++32 :: q;simp
theorem sX:∀ {l:List (List Nat)},l≠[]→(eL l).length+1=(l.map aN).sum+l.length
 | [a],_=>by simp [eL]
 | a :: b :: r,_=>by
  have:=sX (l:=b :: r) (kh _ _);show (a++32 :: eL (b :: r)).length+1=_;simp only [aO,dU,cZ,vZ] at this ⊢;exact zQ (G7 (.g (.s aE) (.a (.a aT bX) (.s fh)) .e) (.s (.a au (.s aE))) (.a (.a au (.a aT bX)) (.s (.s fh))) zC (zA this)) (G7 (.g (.a (.a aE aT) (.s bX)) (.s fh) .e) (.a (.a au (.a aE aT)) (.s (.s bX))) (.s (.a au (.s fh))) zC (zG this))
noncomputable def lF (r:Nat) (rows:List (List Nat)) (q:List Nat):List (List Nat):=match rows.getLast? with
 | none=>[q]
 | some l=>if l.length+(q.length+1)≤r then rows.dropLast++[l++32 :: q] else rows++[q]
theorem oX {r:Nat} {R:List (List Nat)} {l q:List Nat}:lF r (R++[l]) q=if l.length+(q.length+1)≤r then R++[l++32 :: q] else R++[l]++[q]:=by
 unfold lF;rw[uf];rw[Lr]
noncomputable def cO (r:Nat) (qs:List (List Nat)):List (List Nat):=qs.foldl (lF r) []
noncomputable def cJ (ff:Nat→Nat) (k:Nat):List Nat:=(b4 k).map fun i=>ff (i+1)
theorem xq {ff:Nat→Nat} {k:Nat}:cJ ff (k+1)=cJ ff k++[ff (k+1)]:=by
 unfold cJ;rw[sM,aV];rfl
theorem DG {ff:Nat→Nat}:∀ {k:Nat},mL 0 (cJ ff k)=if k=0 then 0 else ff k
 | 0=>rfl
 | k+1=>by rw[xq,qG,aS (by exact Nat.add_one_ne_zero k)]
set_option tactic.hygienic true in
theorem CG {r:Nat} {qs:List (List Nat)} {n:Nat} (hn:n≤qs.length):∀ (m:Nat),0<m→m≤n→∀ (ff:Nat→Nat),
  (∀ k,1≤k→k<hF (eV (qs.map aN) r) m→iV m (hF (eV (qs.map aN) r)) k (ff k)) →
  cO r (qs.take m)=(cutAt (qs.take m) (cJ ff (hF (eV (qs.map aN) r) m - 1))).map eL:=by
 have M:=p9 (qs.map aN) r;have D:=vD M n;intro m;induction m with
 | zero=>intro h;exact (z0 [] (.g (.s gR) gR .e) zC h).elim
 | succ m ih =>
  intro _ hm ff abM;by_cases h0:m=0
  ·subst h0
   have h1:hF (eV (qs.map aN) r) 1=1:=rfl;match qs,hn with
   | [],hn=>simp at hn;exact (z0 [_] (.g (.s gR) au (.g au gR .e)) zC hm (zA hn)).elim
   | q :: qs,_=>rfl
  ·have TJ:=D.pos (p:=m) (by exact dR h0) (by exact bk hm)
   have V0:=D.up M (p:=m) (by exact hm);have ack:=D.up1 M (p:=m) (by exact hm);generalize hk:hF (eV (qs.map aN) r) m=k at *;have last:∀ j,1≤j→j<k→iV m (hF (eV (qs.map aN) r)) j (ff j):=fun j h1 h2=>by
    refine xM (abM j h1 (by exact di h2 V0)) fun a b c=>?_;have hle:ff j≤m:=by
     by_cases z:ff j=m+1
     ·rw[z] at b
      exact (T4 h2 V0 (zA b)).elim
     ·exact (aW z).elim (fun dK=>(R9 dK)) fun dK=>(V5 a dK)
    exact ⟨hle,b,fun p hp hf=>c p (by exact fR hp) hf⟩
   have prev:=ih (by exact dR h0) (by exact bk hm) ff last;have hs:(if k - 1=0 then 0 else ff (k - 1))<m:=by
    split
    ·exact dR h0
    ·refine xM (last (k - 1) (by (rename_i nV;exact (zP nV))) (by exact kc TJ)) fun a b c=>?_
     by_cases z:ff (k - 1)=m
     ·rw[z] at b;exact (z0 [_,_,_] (.g (.a au jr) aE (.g aE aT (.g aT au .e))) zC (zB (RZ TJ)) (zG hk) (zA b)).elim
     ·exact dg a z
   have y9:mL 0 (cJ ff (k - 1))=if k - 1=0 then 0 else ff (k - 1):=DG
   generalize hse:(if k - 1=0 then 0 else ff (k - 1))=s at hs y9;have bound:∀ e∈cJ ff (k - 1),e≤(qs.take m).length:=fun e he=>by
    refine bU (aX.mp he) fun i hi afQ=>?_;obtain rfl:=afQ;rw[dF] at hi;have:=(last (i+1) (by exact fV 1 i) (by exact Nat.add_lt_of_lt_sub hi)).1;rw[cM];exact Km this (zmn (DF hm hn))
   obtain ⟨q,hq⟩:∃ q,qs[m]?=some q:=⟨qs[m],bS (by exact di hm hn)⟩;have Ke:qs.take (m+1)=qs.take m++[q]:=by rw[C2,hq];rfl
   have hlen:(qs.take m).length=m:=by rw[cM];exact zQ (jG _ _) (zmn (DF hm hn))
   have tV:(qs.take m).drop s≠[]:=fun z=>by
    have:=aK aN z;rw[bT,hlen] at this;simp at this;exact z0 [_,_,_] (.g (.s au) aE (.g aE (.a aT au) (.g aT gR .e))) zC hs (zS _ _) (zA this)
   have ahz:cO r (qs.take (m+1))=lF r (cO r (qs.take m)) q:=by
    unfold cO;rw[Ke,List.foldl_append];rfl
   have hjl:=sX tV;have TP:(((qs.take m).drop s).map aN).sum+pre (qs.map aN) s=pre (qs.map aN) m:=by
    unfold pre;rw[← gk,← gk,gI,← ly,← aV];congr 2;conv=>rhs;rw[← fZ s (qs.take m)]
    rw[C3,jF (by exact bk hs)]
   have XI:pre (qs.map aN) (m+1)=pre (qs.map aN) m+q.length:=by
    unfold pre;rw[← gk,← gk,Ke,aV,ly];simp
   rw[bT,hlen] at hjl;rw[ahz,prev];conv=>lhs;unfold cutAt
   rw[y9,aV];show lF r (_++[eL ((qs.take m).drop s)]) q=_;rw[oX];have fit:(eL ((qs.take m).drop s)).length+(q.length+1)≤r↔eV (qs.map aN) r s (m+1)=true:=by
    unfold eV;simp only [jB,beq_iff_eq,br];rw[XI];constructor
    ·intro h;right;exact ⟨by exact ja 1 hs,by exact zi [_,_,_,_,_,_,_,_,_,_] 0 (.g au (.a m9 fh) (.g (.a vS (.s aE)) bX (.g (.a aT G6) (.s (.v 8)) (.g (.v 8) (.a (.v 9) G6) (.g (.a m9 (.v 9)) (.s vS) .e))))) (.a (.a au aE) aT) (.a (.s bX) fh) zC (zG TP) h (zB (oH (.g (.s au) aE .e) au (.s aE) zC hs)) (zS _ _) (zG hjl)⟩
    ·exact fun h=>h.elim (fun h=>absurd (C5 h) (fU hs)) fun h=>zi8 (.g (.s au) (.a bX fh) (.g (.a bX m9) vS (.g (.a (.a vS aE) G6) (.a (.s aT) m9) (.g (.s fh) G6 .e)))) (.a au (.s aE)) aT zC (zA hjl) (zA TP) h.2 (zG (Nat.succ_sub (jw hs)))
   by_cases c:(eL ((qs.take m).drop s)).length+(q.length+1)≤r
   ·rw[aA c]
    have hk1:hF (eV (qs.map aN) r) (m+1)=k:=by
     have:=D.le s (m+1) (by exact ja 1 hs) (by exact hm) (fit.mp c);have hfs:hF (eV (qs.map aN) r) s+1≤k:=by
      rw[← hse];split
      ·show 0+1≤k;exact TJ
      ·rw[(last (k - 1) (by (rename_i nV;exact (zP nV))) (by exact kc TJ)).2.1];exact zB TJ
     exact zQ (rM (.g au (.s aT) (.g (.s aT) aE .e)) au aE zC this hfs) V0
    rw[hk1];unfold cutAt;rw[y9,Ke,om bound,aV,jk (by exact DF hs (zG hlen))];show _=_++[eL _];rw[uC tV]
   ·rw[aS c]
    have hk1:hF (eV (qs.map aN) r) (m+1)=k+1:=by
     by_cases z:hF (eV (qs.map aN) r) (m+1)=k
     ·refine nv (D.ex (m+1) (by exact jc m) (by exact hm)) fun x h1 h2 h3=>?_
      have hxs:x≤s:=by
       rw[← hse];split
       ·by_cases x0:x=0
        ·exact zA x0
        ·have:=D.pos (p:=x) (pK x0) (by exact rM (.g (.s au) (.s aT) (.g (.s aT) aE .e)) au aE zC h1 hm)
         (rename_i nV;exact ((z0 [_,_,_,_] (.g (.s au) aE (.g aE aT (.g aT (.a bX jr) (.g bX gR (.g (.s gR) au .e))))) zC (zG h3) (zA z) (zS _ _) (zA nV) this).elim))
       ·exact (last (k - 1) (by (rename_i nV;exact (zP nV))) (by exact kc TJ)).2.2 x (by
         by_cases z2:x=m
         ·rw[z2,hk] at h3;exact (IE (zG h3) (zA z)).elim
         ·exact eE h1) (by exact zQ (XZ (zG h3) (zA z) (zS _ _)) (xV (.g (.a au jr) aT (.g aT bX (.g bX (.s aE) .e))) au aE zC (zB (RZ TJ)) (zG z) (zA h3)))
      exact absurd (fit.mpr (M.sub x (m+1) s (m+1) h2 hxs (by exact ja 1 hs) (aB _))) c
     ·exact (aW z).elim (fun dK=>(zQ ack (T5 V0 dK))) fun dK=>(zQ ack dK)
    have TF:ff k=m:=by
     refine xM (abM k (by exact TJ) (by exact zG hk1)) fun a b d=>?_;have h1:=d m (by exact b7 m 1) hk;by_cases z:ff k=m+1
     ·rw[z,hk1] at b;exact (z0 [_] (.g (.s au) au .e) zC (zA b)).elim
     ·exact (aW z).elim (fun dK=>(zQ (R9 dK) h1)) fun dK=>(zQ (V5 a dK) h1)
    rw[hk1,ju];obtain ⟨k',rfl⟩:∃ k',k=k'+1:=⟨k - 1,by exact (f7 TJ).mp rfl⟩;rw[ju] at y9 bound ⊢;rw[xq,TF];have e1:ie (qs.take m++[q]) 0 (cJ ff k'++[m])=ie (qs.take m) 0 (cJ ff k')++[(qs.take m).drop s]:=by
     rw[vt,om bound,y9,jk (by exact DF hs (zG hlen)),AG (by rw[bT];exact cU (xj (aK HSub.hSub (id (iI hlen))) s))];congr 2;exact dP (by rw[bT];exact cU (xj (aK HSub.hSub hlen) s))
    have e2:(qs.take m++[q]).drop m=[q]:=by
     rw[jk (by exact zG hlen),rW (by exact List.length_take_le m qs)];rfl
    unfold cutAt;rw[Ke,e1,qG,e2,aV,aV];rfl
end
section
noncomputable def Gj:List Nat→Nat
 | []=>0
 | [a]=>a
 | a :: r=>max a (Gj r)
theorem DI:∀ {l:List Nat} {x:Nat},x∈l→x≤Gj l
 | [a],x,h=>by rw[bA.mp h];exact aB _
 | a :: b :: r,x,h=>by
  rcases av.mp h with rfl | h
  ·exact Nat.le_max_left x (Gj (b :: r))
  ·have:=DI h
   exact Km this (Nat.le_max_right _ _)
theorem z3:∀ {l:List Nat},l≠[]→Gj l∈l
 | [a],_=>.head _
 | a :: b :: r,_=>by
  show max a (Gj (b :: r))∈_;rcases mJ a (Gj (b :: r)) with h | h
  ·rw[Nat.max_eq_right h]
   exact .tail _ (z3 (kh _ _))
  ·rw[Nat.max_eq_left h]
   exact .head _
noncomputable def m5 (F:Nat→Nat) (n k:Nat):Nat:=Gj ((b4 (n+1)).filter fun p=>F p==k)
section
variable {n:Nat} {ok:Nat→Nat→Bool} {F W:Nat→Nat}
theorem DP.some (D:DP n ok F W) (M:rE ok) {k:Nat} (hk:k≤F n):((b4 (n+1)).filter fun p=>F p==k)≠[]:=fun e=>by
 refine bU (D.hit M (aB n) hk) fun p hp hf=>?_;have:p∈(b4 (n+1)).filter fun p=>F p==k:=gB.mpr ⟨dF.mpr (by exact jR hp),by rw[hf];exact cY k⟩;rw[e] at this;cases this
theorem DP.m5 (D:DP n ok F W) (M:rE ok) {k:Nat} (hk:k≤F n):iV n F k (m5 F n k):=by
 have h:=gB.mp (z3 (D.some M hk));refine ⟨eE (dF.mp h.1),eq_of_beq h.2,fun p hp hf=>DI (gB.mpr ⟨dF.mpr (by exact jR hp),?_⟩)⟩;rw[hf];exact cY k
theorem DP.wle (D:DP n ok F W):∀ p,p≤n→W p≤2 ^ p:=by
 intro p;induction p using tD with
 | ind p ih =>
  intro hp;by_cases h0:p=0
  ·rw[h0]
   rw[D.w0];exact aB _
  ·rw[D.ws p (by exact dR h0) hp]
   have key:∀ m,m≤p→sumTo m (fun q=>if ok q p=true∧F q+1=F p then W q else 0)+1≤2 ^ m:=by
    intro m;induction m with
    | zero=>intro _;exact aB _
    | succ m ih2 =>
     intro hm;have h1:=ih2 (by exact bk hm);have h2:=ih m (by exact hm) (by exact DF hm hp);show sumTo m _+(if ok m p=true∧F m+1=F p then W m else 0)+1≤2 ^ (m+1);rw[Nat.pow_succ];split
     ·exact rM (.g (.s au) aT (.g aE aT .e)) (.s (.a au aE)) (.r aT 2) zC h1 h2
     ·exact oH (.g (.s au) aE .e) (.s au) (.r aE 2) zC h1
   have:=key p (aB _);exact bk this
end
section
variable {r:Nat} {qs:List (List Nat)}
theorem xm {α : Type} {l:List α}:∀ {es:List Nat} {s:Nat},(ie l s es).length=es.length
 | [],_=>rfl
 | e :: es,s=>by
  show (ie l e es).length+1=es.length+1;rw[xm]
theorem wo {α : Type} {l:List α} {es:List Nat}:(cutAt l es).length=es.length+1:=by
 unfold cutAt;rw[aO,xm];rfl
theorem Af {m:Nat} (h0:0<m) (hm:m≤qs.length):(cO r (qs.take m)).length=hF (eV (qs.map aN) r) m:=by
 have M:=p9 (qs.map aN) r;have D:=vD M m;have hp:=D.pos (p:=m) h0 (aB m);rw[CG hm m h0 (aB m) (m5 (hF (eV (qs.map aN) r)) m) fun k _ h=>D.m5 M (by exact bk h),aM,wo];unfold cJ;rw[aM,fK];exact jx hp
theorem MO {p:Nat} (hp:p<qs.length):(cO r (qs.drop p)).length=hF (eV (qs.map aN).reverse r) (qs.length - p):=by
 have e:=Af (r:=r) (qs:=qs.drop p) (m:=qs.length - p) (by exact nj hp) (by rw[bT];exact aB _);rw[dP (by rw[bT];exact aB _),jE] at e;have h:=MT (ws:=qs.map aN) (r:=r) (p:=p) (by rw[aM];exact bk hp);rw[aM] at h;rw[e,h]
end
section
variable {n:Nat} {ok ok':Nat→Nat→Bool} {F W F' W':Nat→Nat} (T:v7 n ok ok' F W F' W')
noncomputable def qz (n:Nat) (F:Nat→Nat) (k:Nat):Nat:=m5 F n k
noncomputable def kY (n:Nat) (F F':Nat→Nat) (k:Nat):Nat:=n - m5 F' n (F n - k)
include T
theorem v7.ff {k:Nat} (h:k≤F n):iV n F k (qz n F k):=T.D.m5 T.M h
theorem v7.sA {k:Nat}:iV n F' (F n - k) (n - kY n F F' k)∧kY n F F' k≤n:=by
 have h:=T.D'.m5 T.M' (k:=F n - k) (by rw[T.N];exact aI (F n) k);have h1:=h.1;unfold kY;rw[show n - (n - Mine.m5 F' n (F n - k))=Mine.m5 F' n (F n - k) by exact rS h1];exact ⟨h,by exact aI n (m5 F' n (F n - k))⟩
theorem v7.yW {k:Nat} (h1:1≤k) (h2:k<F n):0<qz n F k∧qz n F k<n:=T.UC h1 h2 (T.ff (by exact bk h2))
theorem v7.nf {k:Nat} (h1:1≤k) (h2:k<F n):kY n F F' k≤qz n F k:=T.Gp h1 h2 (T.ff (by exact bk h2)) T.sA.1 T.sA.2
theorem v7.gp {k:Nat} (h1:1≤k) (h2:k+1<F n):qz n F k<kY n F F' (k+1):=T.gap h1 h2 (T.ff (by exact oH (.g (.s (.s au)) aE .e) au aE zC h2)) T.sA.1 T.sA.2
theorem v7.Gq {k:Nat} (h1:1≤k) (h2:k<F n):0<kY n F F' k:=by
 refine cz (T.sA (k:=k)) fun afZ d=>?_;refine xM afZ fun a b c=>?_;refine pK fun e=>?_;rw[e,oV] at b;have:=T.N;exact z0 [_,_,_,_] (.g jr au (.g (.a aE au) aT (.g aT bX (.g bX aE .e)))) zC h1 (zB (NJ h2)) (zG this) (zA b)
set_option tactic.hygienic true in
theorem v7.fn {j k:Nat} (h1:1≤j) (RV:j<k) (h2:k<F n):qz n F j<kY n F F' k:=by
 induction k with
 | zero=>exact (z0 [_] (.g (.s au) gR .e) zC RV).elim
 | succ k ih =>
  have g:=T.gp (k:=k) (by exact oH (.g jr aE (.g (.s aE) (.s au) .e)) jr au zC h1 RV) h2;by_cases e:j=k
  ·rw[e];exact g
  ·have:=ih (by exact (aW e).elim (fun dK=>dK) fun dK=>(IF RV dK)) (by exact x8 h2)
   have:=T.nf (k:=k) (by exact oH (.g jr aE (.g (.s aE) (.s au) .e)) jr au zC h1 RV) (by exact x8 h2)
   (rename_i nV;exact (xV (.g (.s au) aT (.g aT bX (.g (.s bX) aE .e))) (.s au) aE zC nV this g))
theorem v7.H9 {j k:Nat} (h1:1≤j) (RV:j<k) (h2:k<F n):qz n F j<qz n F k:=di (T.fn h1 RV h2) (T.nf (by exact AK RV) h2)
theorem v7.KC {j k:Nat} (h1:1≤j) (RV:j<k) (h2:k<F n):kY n F F' j<kY n F F' k:=l6 (T.nf h1 (by exact Nat.lt_trans RV h2)) (T.fn h1 RV h2)
omit T
theorem p7 {f:Nat→Nat} {m x:Nat}:x∈cJ f m↔∃ k,1≤k∧k≤m∧f k=x:=by
 unfold cJ;rw[aX];constructor
 ·rintro ⟨i,hi,rfl⟩
  rw[dF] at hi;exact ⟨i+1,by exact fV 1 i,by exact hi,rfl⟩
 ·rintro ⟨k,h1,h2,rfl⟩
  exact ⟨k - 1,dF.mpr (by exact Nat.sub_one_lt_of_le h1 h2),by rw[jx h1]⟩
theorem wA {f:Nat→Nat} {m:Nat} (h:∀ j k,1≤j→j<k→k≤m→f j<f k):(cJ f m).Pairwise (· < ·):=by
 unfold cJ;rw[List.pairwise_map];refine List.Pairwise.imp_of_mem (fun ha hb Tq=>?_) List.pairwise_lt_range;rw[dF] at ha hb;exact h _ _ (by exact Ub ) (by exact uQ Tq 1) (by exact hb)
noncomputable def cN (near ff:Nat→Nat):Nat→List Nat
 | 0=>[]
 | k+1=>cN near ff k++bg (near (k+1)) (ff (k+1)+1 - near (k+1))
theorem wI {near ff:Nat→Nat} {x m:Nat}:x∈cN near ff m↔∃ k,(1≤k∧k≤m)∧near k≤x∧x≤ff k:=by
 induction m with
 | zero=>exact ⟨fun h=>(by cases h),fun adW=>bU adW fun k h _=>by exact (z0 [_] (.g jr au (.g au gR .e)) zC h.1 h.2).elim⟩
 | succ m ih =>
  unfold cN;rw[aj,ih,iG];constructor
  ·intro h
   rcases h with ⟨k,h1,h2⟩ | h
   ·exact ⟨k,by exact ⟨h1.1,(oH (.g au aE .e) au (.s aE) zC h1.2)⟩,h2⟩
   ·exact ⟨m+1,by exact ⟨(Ub ),(uM .e (.s au) (.s au) zC )⟩,by exact h.1,by exact xV (.g (.s au) (.a aT bX) (.g (.a bX aT) (.s aE) .e)) au aE zC h.2 (zL (rM (.g (.s aE) (.a aT au) (.g aT aE .e)) jr au zC h.2 h.1))⟩
  ·intro ⟨k,h1,h2⟩
   by_cases e:k=m+1
   ·rw[← e]
    right
    exact ⟨h2.1,(xV (.g au bX (.g (.s bX) (.a aT aE) .e)) (.s au) (.a aE aT) zC h2.2 (zS _ _))⟩
   ·exact .inl ⟨k,by exact (aW e).elim (fun dK=>⟨h1.1,(R9 dK)⟩) fun dK=>⟨h1.1,(V5 h1.2 dK)⟩,h2⟩
include T
theorem v7.Ih {m:Nat} (h:m<F n):(cN (kY n F F') (qz n F) m).Pairwise (· < ·):=by
 induction m with
 | zero=>exact List.Pairwise.nil
 | succ m ih =>
  dsimp only [cN];rw[uh];refine ⟨ih (by exact x8 h),Hg,fun a ha b hb=>?_⟩;refine bU (wI.mp ha) fun k h1 h2=>?_;rw[iG] at hb;have:=T.fn (j:=k) (k:=m+1) (by exact h1.1) (by exact oH (.g au aE .e) (.s au) (.s aE) zC h1.2) h;exact xV (.g au aT (.g (.s aT) bX (.g bX aE .e))) (.s au) aE zC h2.2 this hb.1
theorem v7.cost {p:Nat} (h0:0<p) (hp:p<n):F p+F' (n - p)=F n+(if p∈cN (kY n F F') (qz n F) (F n - 1) then 0 else 1):=by
 have h:=T.free h0 hp (qz n F) (kY n F F') (fun k _ h=>T.ff (by exact bk h)) fun k _ _=>T.sA;have h1:=T.ge (p:=p) (by exact bk hp);have h2:=T.le1 h0 (by exact bk hp);have e:p∈cN (kY n F F') (qz n F) (F n - 1)↔F p+F' (n - p)=F n:=by
  rw[h,wI];constructor
  ·rintro ⟨k,⟨a,b⟩,c⟩;exact ⟨k,⟨a,by exact Ey b (zB (Kn a b (aI _ _)))⟩,c⟩
  ·rintro ⟨k,⟨a,b⟩,c⟩;exact ⟨k,⟨a,by exact Nat.le_sub_one_of_lt b⟩,c⟩
 split
 ·next q=>rw[e.mp q,sN]
 ·next q =>
  have:F p+F' (n - p)≠F n:=fun z=>q (e.mpr z);exact lA h2 (dg h1 (eO this))
set_option tactic.hygienic true in
theorem v7.OI {x:Nat} (h:x∈cN (kY n F F') (qz n F) (F n - 1)):0<x∧x<n:=by
 refine nv (wI.mp h) fun k AB h3 h4=>?_;refine cz AB fun h1 h2=>?_;have:=T.Gq (k:=k) h1 (by exact Ey AB.2 (zB (Kn AB.1 AB.2 (aI _ _))));have:=T.yW (k:=k) h1 (by exact Ey AB.2 (zB (Kn AB.1 AB.2 (aI _ _))))
 (rename_i nV;exact ⟨(oH (.g (.s gR) aE (.g aE au .e)) (.s gR) au zC nV h3),(rM (.g au aT (.g (.s aT) aE .e)) (.s au) aE zC h4 this.2)⟩)
noncomputable def s8 (n:Nat) (F W F' W':Nat→Nat) (p:Nat):Bool:=decide (0<p∧p<n)&&(F p+F' (n - p)==F n&&W p*W' (n - p)==W n)
theorem v7.PX {x:Nat} (h:x∈cJ (kY n F F') (F n - 1)):x∈cJ (qz n F) (F n - 1)↔s8 n F W F' W' x=true:=by
 refine nv (p7.mp h) fun k h1 h2 af0=>?_;obtain rfl:=af0;have s:=T.shared h1 (by exact Ey h2 (zB (Kn h1 h2 (aI _ _)))) (T.ff (k:=k) (by exact Km h2 (aI _ _))) T.sA.1 T.sA.2 (p:=kY n F F' k) (.inl rfl);have hp:=T.Gq h1 (by exact Ey h2 (zB (Kn h1 h2 (aI _ _))));have hf:=T.yW h1 (by exact Ey h2 (zB (Kn h1 h2 (aI _ _))));have yo:=T.nf h1 (by exact Ey h2 (zB (Kn h1 h2 (aI _ _))));unfold s8;rw[cL (by exact ⟨hp,(rM (.g au aT (.g (.s aT) aE .e)) (.s au) aE zC yo hf.2)⟩),EJ,aR,beq_iff_eq,beq_iff_eq,s,p7];constructor
 ·rintro ⟨j,j1,j2,e⟩
  rcases x9 j k with q | q | q
  ·have:=T.fn j1 q (di (jR h2) (zL (di h1 h2)));exact (IE this (zG e)).elim
  ·rw[← e,q]
  ·have:=T.H9 h1 q (by exact Ey j2 (zB (Kn h1 h2 (aI _ _))));exact zQ yo (DF this (zA e))
 ·intro e
  exact ⟨k,h1,h2,e.symm⟩
theorem v7.Td {x:Nat} (h:x∈cJ (qz n F) (F n - 1)):x∈cJ (kY n F F') (F n - 1)↔s8 n F W F' W' x=true:=by
 refine nv (p7.mp h) fun k h1 h2 af1=>?_;obtain rfl:=af1;have s:=T.shared h1 (by exact Ey h2 (zB (Kn h1 h2 (aI _ _)))) (T.ff (k:=k) (by exact Km h2 (aI _ _))) T.sA.1 T.sA.2 (p:=qz n F k) (.inr rfl);have hf:=T.yW h1 (by exact Ey h2 (zB (Kn h1 h2 (aI _ _))));have yo:=T.nf h1 (by exact Ey h2 (zB (Kn h1 h2 (aI _ _))));unfold s8;rw[cL (by exact hf),EJ,aR,beq_iff_eq,beq_iff_eq,s,p7];constructor
 ·rintro ⟨j,j1,j2,e⟩
  rcases x9 j k with q | q | q
  ·have:=T.KC j1 q (by exact Ey h2 (zB (Kn h1 h2 (aI _ _))));exact zQ yo (rM (.g au aT (.g (.s aT) aE .e)) au aE zC (zG e) this)
  ·rw[← e,q]
  ·have:=T.fn h1 q (by exact Ey j2 (zB (Kn h1 h2 (aI _ _))));exact (IE this (zA e)).elim
 ·intro e
  exact ⟨k,h1,h2,e⟩
end
end
section
structure Dv (E A:List Nat) (i j:Nat) (ms us:List Nat):Prop where
 hi:i≤E.length
 hj:j≤A.length
 hm:ms=(E.take i).filter fun x => !A.contains x
 hu:us=(A.take j).filter fun x => !E.contains x
 c1:∀ x∈E.take i,x∉A.drop j
 c2:∀ x∈A.take j,x∉E.drop i
section
variable {E A ms us:List Nat} {i j e a:Nat}
theorem Dv.start:Dv E A 0 0 [] []:=⟨d7 _,d7 _,rfl,rfl,fun _ h=>(by cases h),fun _ h=>(by cases h)⟩
theorem Dv.swap (D:Dv E A i j ms us):Dv A E j i us ms:=⟨D.hj,D.hi,D.hu,D.hm,D.c2,D.c1⟩
theorem s7 (h:E.Pairwise (· < ·)) (he:E[i]?=some e):E.drop i=e :: E.drop (i+1)∧E.take (i+1)=E.take i++[e]∧(∀ x∈E.drop (i+1),e<x)∧i<E.length:=by
 have kL:=(az.mp he).1;have hd:E.drop i=e :: E.drop (i+1):=by
  rw[iB kL];congr 1;exact (az.mp he).2
 refine ⟨hd,by rw[C2,he];rfl,?_,kL⟩;have:=h.drop (i:=i);rw[hd,wc] at this;exact this.1
theorem Dv.left (D:Dv E A i j ms us) (hE:E.Pairwise (· < ·)) (hA:A.Pairwise (· < ·)) (he:E[i]?=some e) (ha:A[j]?=some a) (h:e<a):Dv E A (i+1) j (ms++[e]) us:=by
 refine En (s7 hE he) fun d1 t1 r1 l1=>?_;refine En (s7 hA ha) fun d2 t2 r2 l2=>?_;have n1:e∉A.drop j:=fun q=>by
  rw[d2] at q;refine bJ (av.mp q) (fun q=>?_) fun q=>?_
  ·exact IE h (zG q)
  ·have:=r2 e q;exact z0 [_,_] (.g (.s au) aE (.g (.s aE) au .e)) zC h this
 have n2:e∉A:=fun q=>by
  rw[← fZ j A] at q;refine bJ (aj.mp q) (fun q=>?_) fun q=>?_
  ·exact D.c2 e q (d1 ▸ .head _)
  ·exact n1 q
 refine ⟨l1,D.hj,?_,D.hu,fun x hx=>?_,fun x hx hd=>D.c2 x hx (by rw[d1];exact .tail _ hd)⟩
 ·rw[t1,gZ,← D.hm,iX (p:=fun x => !A.contains x) (by rw[dM,← rA];exact fun q=>n2 (cS.mp q))]
  rfl
 ·rw[t1] at hx
  rcases aj.mp hx with hx | hx
  ·exact D.c1 x hx
  ·rw[bA.mp hx];exact n1
theorem Dv.both (D:Dv E A i j ms us) (hE:E.Pairwise (· < ·)) (hA:A.Pairwise (· < ·)) (he:E[i]?=some e) (ha:A[j]?=some e):Dv E A (i+1) (j+1) ms us:=by
 refine En (s7 hE he) fun d1 t1 r1 l1=>?_;refine En (s7 hA ha) fun d2 t2 r2 l2=>?_;refine ⟨l1,l2,?_,?_,fun x hx hd=>?_,fun x hx hd=>?_⟩
 ·rw[t1,gZ,← D.hm,gy (p:=fun x => !A.contains x) (by rw[dM,xF];exact cS.mpr (bf ha)),fm,cg]
 ·rw[t2,gZ,← D.hu,gy (p:=fun x => !E.contains x) (by rw[dM,xF];exact cS.mpr (bf he)),fm,cg]
 ·rw[t1] at hx
  refine bJ (aj.mp hx) (fun hx=>?_) fun hx=>?_
  ·exact D.c1 x hx (by rw[d2];exact .tail _ hd)
  ·rw[bA.mp hx] at hd
   exact iL _ (r2 e hd)
 ·rw[t2] at hx
  refine bJ (aj.mp hx) (fun hx=>?_) fun hx=>?_
  ·exact D.c2 x hx (by rw[d1];exact .tail _ hd)
  ·rw[bA.mp hx] at hd
   exact iL _ (r1 e hd)
theorem Dv.VH (D:Dv E A i j ms us) (h:i=E.length∨j=A.length):ms++E.drop i=E.filter fun x => !A.contains x:=by
 conv=>rhs;rw[← fZ i E]
 rw[gZ,← D.hm];congr 1;refine bJ (h) (fun h=>?_) fun h=>?_
 ·rw[h,yD]
  rfl
 ·refine (kI.mpr fun x hx=>?_).symm
  rw[dM,← rA];intro q;refine D.c2 x ?_ hx;rw[h,dG];exact cS.mp q
theorem Dv.abk (D:Dv E A i j ms us) (h:i=E.length∨j=A.length):us++A.drop j=A.filter fun x => !E.contains x:=D.swap.VH h.symm
end
end
open PySem PySem.W PyProof.Rows PySem.SeqAt PySem.Builtin.Str
noncomputable abbrev pw:qj:=PySem.Challenge.pw_il0194_01
noncomputable def s (n:dD) (t:Nat):ah:=.str (aL n) t
noncomputable def i0 (i:Int):ah:=.int i 0
noncomputable def r (a:Nat):ah:=.ref a
noncomputable def xP (a n:Nat):List ah:=(b4 n).map fun k=>.str ⟨#[61,(fun q=>cond (Nat.blt q 10) (48+q) (55+q)) ((a+k) / 16),(fun q=>cond (Nat.blt q 10) (48+q) (55+q)) ((a+k) % 16)]⟩ (341+4*(a+k))
noncomputable def AO (o a n:Nat):List ah:=(b4 n).map fun k=>.str ⟨#[a+k]⟩ (o+3*(a+k))
noncomputable def e (P:ai) (n:dD) (t:Nat) (v:ah):mW:=⟨Sy P (aL n),.str (aL n) t,v⟩
noncomputable def vz (i:Nat):Stmt:=((behindTheImports pw)[i]?).getD (.Pass default)
noncomputable def PO (i k:Nat):Stmt:=match vz i with
 | .ClassDef _ _ _ b _ _ _ _ _ _ _=>(b[k]?).getD (.Pass default)
 | x=>x
noncomputable def fn (st:Stmt) (qual:Str) (g:Addr) (dV kV doc pm code ct:ah) (blt:Addr):kP:=match st with
 | .FunctionDef name args body _ _ _ scope _ _ _=>{ name,qualname:=qual,params:=args,body:=.stmts body,scope,globals:=g,closure:=[],defaults:=dV,kwdefaults:=kV,doc,pyModule:=pm,annotations:=none,code,closureTuple:=ct,builtins:=blt }
 | _=>default
noncomputable def xO (n:dD) (t:Nat) (l a b c d:Int) (x:ah) (q:Bool) (m:Int) (y v w u z:ah) (i j:Int) (k:Nat):Obj:=⟨.type "code",none,.fields [s n t,s n (t+1),s "/claim/cut.py" (t+2),i0 l,i0 a,i0 b,i0 c,i0 d,x,.bool q,i0 m,y,v,w,u,z,i0 i,i0 j,s "/claim/cut.py" k].toArray,#[]⟩
noncomputable def uy (n:dD) (l:List ah):Obj:=⟨.type n,none,.fields l.toArray,#[]⟩
noncomputable def VQ (l:List ah):Obj:=⟨.none,none,.fields l.toArray,#[]⟩
noncomputable def rf (n:dD) (l:List ah) (k:Nat):Obj:=⟨.type n,none,.seq l.toArray k,#[]⟩
noncomputable def BL (l:List mW) (k:Nat):Obj:=⟨.type "dict",none,.dict l.toArray k,#[]⟩
noncomputable def sU (st:Stmt) (q:dD) (g:Addr) (dV kV doc pm code ct:ah) (blt:Addr):Obj:=⟨.type "function",none,.func (fn st (aL q) g dV kV doc pm code ct blt),#[]⟩
noncomputable def bt:Nat→Nat→Nat→List Obj→BT
 | 0,_,_,_=>.nil
 | f+1,a,b,os=>match os[b]? with
  | some o=>.node o (bt f (2*a) (a+b) os) (bt f (2*a) (2*a+b) os)
  | none=>.nil
noncomputable def stT (os:List Obj) (n toks:Nat) (x:Bl):SharedT:=⟨bt 12 1 0 os,n,{},#[],{},toks,x⟩
noncomputable def MC (P:ai):Obj:=BL [e P "__name__" 1 (s "builtins" 160),e P "__doc__" 2 (.builtin "builtins.__doc__:str#opaque"),e P "__package__" 3 (.builtin "builtins.__package__:str#opaque"),e P "__loader__" 4 (.builtin "builtins.__loader__:shared#opaque"),e P "__spec__" 5 (.builtin "builtins.__spec__#opaque"),e P "__build_class__" 6 (.builtin "__build_class__"),e P "__import__" 7 (.builtin "__import__"),e P "abs" 8 (.builtin "abs"),e P "all" 9 (.builtin "all"),e P "any" 10 (.builtin "any"),e P "ascii" 11 (.builtin "ascii"),e P "bin" 12 (.builtin "bin"),e P "breakpoint" 13 (.builtin "breakpoint"),e P "callable" 14 (.builtin "callable"),e P "chr" 15 (.builtin "chr"),e P "compile" 16 (.builtin "compile"),e P "delattr" 17 (.builtin "delattr"),e P "dir" 18 (.builtin "dir"),e P "divmod" 19 (.builtin "divmod"),e P "eval" 20 (.builtin "eval"),e P "exec" 21 (.builtin "exec"),e P "format" 22 (.builtin "format"),e P "getattr" 23 (.builtin "getattr"),e P "globals" 24 (.builtin "globals"),e P "hasattr" 25 (.builtin "hasattr"),e P "hash" 26 (.builtin "hash"),e P "hex" 27 (.builtin "hex"),e P "id" 28 (.builtin "id"),e P "input" 29 (.builtin "input"),e P "isinstance" 30 (.builtin "isinstance"),e P "issubclass" 31 (.builtin "issubclass"),e P "iter" 32 (.builtin "iter"),e P "aiter" 33 (.builtin "aiter"),e P "len" 34 (.builtin "len"),e P "locals" 35 (.builtin "locals"),e P "max" 36 (.builtin "max"),e P "min" 37 (.builtin "min"),e P "next" 38 (.builtin "next"),e P "anext" 39 (.builtin "anext"),e P "oct" 40 (.builtin "oct"),e P "ord" 41 (.builtin "ord"),e P "pow" 42 (.builtin "pow"),e P "print" 43 (.builtin "print"),e P "repr" 44 (.builtin "repr"),e P "round" 45 (.builtin "round"),e P "setattr" 46 (.builtin "setattr"),e P "sorted" 47 (.builtin "sorted"),e P "sum" 48 (.builtin "sum"),e P "vars" 49 (.builtin "vars"),e P "None" 50 .none,e P "Ellipsis" 51 .ellipsis,e P "NotImplemented" 52 .notImplemented,e P "False" 53 (.bool false),e P "True" 54 (.bool true),e P "bool" 55 (.type "bool"),e P "memoryview" 56 (.type "memoryview"),e P "bytearray" 57 (.type "bytearray"),e P "bytes" 58 (.type "bytes"),e P "classmethod" 59 (.type "classmethod"),e P "complex" 60 (.type "complex"),e P "dict" 61 (.type "dict"),e P "enumerate" 62 (.type "enumerate"),e P "filter" 63 (.type "filter"),e P "float" 64 (.type "float"),e P "frozenset" 65 (.type "frozenset"),e P "property" 66 (.type "property"),e P "int" 67 (.type "int"),e P "list" 68 (.type "list"),e P "map" 69 (.type "map"),e P "object" 70 (.type "object"),e P "range" 71 (.type "range"),e P "reversed" 72 (.type "reversed"),e P "set" 73 (.type "set"),e P "slice" 74 (.type "slice"),e P "staticmethod" 75 (.type "staticmethod"),e P "str" 76 (.type "str"),e P "super" 77 (.type "super"),e P "tuple" 78 (.type "tuple"),e P "type" 79 (.type "type"),e P "zip" 80 (.type "zip"),e P "__debug__" 81 (.bool true),e P "BaseException" 82 (.type "BaseException"),e P "BaseExceptionGroup" 83 (.type "BaseExceptionGroup"),e P "Exception" 84 (.type "Exception"),e P "GeneratorExit" 85 (.type "GeneratorExit"),e P "KeyboardInterrupt" 86 (.type "KeyboardInterrupt"),e P "SystemExit" 87 (.type "SystemExit"),e P "ArithmeticError" 88 (.type "ArithmeticError"),e P "AssertionError" 89 (.type "AssertionError"),e P "AttributeError" 90 (.type "AttributeError"),e P "BufferError" 91 (.type "BufferError"),e P "EOFError" 92 (.type "EOFError"),e P "ImportError" 93 (.type "ImportError"),e P "LookupError" 94 (.type "LookupError"),e P "MemoryError" 95 (.type "MemoryError"),e P "NameError" 96 (.type "NameError"),e P "OSError" 97 (.type "OSError"),e P "ReferenceError" 98 (.type "ReferenceError"),e P "RuntimeError" 99 (.type "RuntimeError"),e P "StopAsyncIteration" 100 (.type "StopAsyncIteration"),e P "StopIteration" 101 (.type "StopIteration"),e P "SyntaxError" 102 (.type "SyntaxError"),e P "SystemError" 103 (.type "SystemError"),e P "TypeError" 104 (.type "TypeError"),e P "ValueError" 105 (.type "ValueError"),e P "Warning" 106 (.type "Warning"),e P "FloatingPointError" 107 (.type "FloatingPointError"),e P "OverflowError" 108 (.type "OverflowError"),e P "ZeroDivisionError" 109 (.type "ZeroDivisionError"),e P "BytesWarning" 110 (.type "BytesWarning"),e P "DeprecationWarning" 111 (.type "DeprecationWarning"),e P "EncodingWarning" 112 (.type "EncodingWarning"),e P "FutureWarning" 113 (.type "FutureWarning"),e P "ImportWarning" 114 (.type "ImportWarning"),e P "PendingDeprecationWarning" 115 (.type "PendingDeprecationWarning"),e P "ResourceWarning" 116 (.type "ResourceWarning"),e P "RuntimeWarning" 117 (.type "RuntimeWarning"),e P "SyntaxWarning" 118 (.type "SyntaxWarning"),e P "UnicodeWarning" 119 (.type "UnicodeWarning"),e P "UserWarning" 120 (.type "UserWarning"),e P "BlockingIOError" 121 (.type "BlockingIOError"),e P "ChildProcessError" 122 (.type "ChildProcessError"),e P "ConnectionError" 123 (.type "ConnectionError"),e P "FileExistsError" 124 (.type "FileExistsError"),e P "FileNotFoundError" 125 (.type "FileNotFoundError"),e P "InterruptedError" 126 (.type "InterruptedError"),e P "IsADirectoryError" 127 (.type "IsADirectoryError"),e P "NotADirectoryError" 128 (.type "NotADirectoryError"),e P "PermissionError" 129 (.type "PermissionError"),e P "ProcessLookupError" 130 (.type "ProcessLookupError"),e P "TimeoutError" 131 (.type "TimeoutError"),e P "IndentationError" 132 (.type "IndentationError"),e P "_IncompleteInputError" 133 (.type "_IncompleteInputError"),e P "IndexError" 134 (.type "IndexError"),e P "KeyError" 135 (.type "KeyError"),e P "ModuleNotFoundError" 136 (.type "ModuleNotFoundError"),e P "NotImplementedError" 137 (.type "NotImplementedError"),e P "PythonFinalizationError" 138 (.type "PythonFinalizationError"),e P "RecursionError" 139 (.type "RecursionError"),e P "UnboundLocalError" 140 (.type "UnboundLocalError"),e P "UnicodeError" 141 (.type "UnicodeError"),e P "BrokenPipeError" 142 (.type "BrokenPipeError"),e P "ConnectionAbortedError" 143 (.type "ConnectionAbortedError"),e P "ConnectionRefusedError" 144 (.type "ConnectionRefusedError"),e P "ConnectionResetError" 145 (.type "ConnectionResetError"),e P "TabError" 146 (.type "TabError"),e P "UnicodeDecodeError" 147 (.type "UnicodeDecodeError"),e P "UnicodeEncodeError" 148 (.type "UnicodeEncodeError"),e P "UnicodeTranslateError" 149 (.type "UnicodeTranslateError"),e P "ExceptionGroup" 150 (.type "ExceptionGroup"),e P "EnvironmentError" 151 (.type "OSError"),e P "IOError" 152 (.type "OSError"),e P "open" 153 (.builtin "open"),e P "quit" 154 (.builtin "builtins.quit#opaque"),e P "exit" 155 (.builtin "builtins.exit#opaque"),e P "copyright" 156 (.builtin "builtins.copyright#opaque"),e P "credits" 157 (.builtin "builtins.credits#opaque"),e P "license" 158 (.builtin "builtins.license#opaque"),e P "help" 159 (.builtin "builtins.help#opaque")] 159
noncomputable def MD (P:ai):Obj:=BL [e P "builtins" 162 (r 4),e P "__main__" 163 (r 5),e P "_sre" 244 (r 12),e P "_collections" 292 (r 30)] 4
noncomputable def ME (P:ai):Obj:=⟨.none,none,(.dict ([e P "\x69mport.loaded._sre" 183 (.bool true),e P "class._frozen_importlib.BuiltinImporter" 185 (r 14),e P "watched.\x69mport" 206 (r 18),e P "class._frozen_importlib.ModuleSpec" 216 (r 22),e P "sys.modules.booked-epoch" 245 (i0 (4)),e P "\x69mport.later-laid._sre" 270 (.bool true),e P "watched.library" 272 (r 27),e P "watched.library-objects" 0 (.str (kQ #[12,30]) 0),e P "watched.library-deep._sre" 273 (.str (aL "\x04\x00\x00\x0b\x04\x00\x00\x0b\x04\x00\x00\x03\x04\x00\x00\x0b\x08\x04dict\x02") 0),e P "\x69mport.loaded._collections" 280 (.bool true),e P "sys.modules.landed._collections" 294 (.bool true),e P "\x69mport.later-laid._collections" 309 (.bool true),e P "watched.library-deep._collections" 311 (.str (aL "\x04\x00\x00\x1d\x04\x00\x00\x1d\x04\x00\x00\x03\x04\x00\x00\x1d\x08\x04dict\x02") 0)].toArray) 13),#[]⟩
noncomputable def ac2 (P:ai):Obj:=BL [e P "__name__" 165 (s "__main__" 164),e P "__doc__" 166 .none,e P "__package__" 167 .none,e P "__loader__" 168 (.builtin "__main__.__loader__#opaque"),e P "__spec__" 169 .none,e P "__annotations__" 170 (r 6),e P "__builtins__" 171 (r 4),e P "__file__" 173 (s "/claim/cut.py" 172),e P "__cached__" 174 .none,e P "_sre" 275 (r 12),e P "deque" 317 (.type "collections.deque")] 11
noncomputable def Gx (P:ai):Obj:=⟨(.type "module"),some 0,.plain,#[]⟩
noncomputable def MF (P:ai):Obj:=⟨(.type "module"),some 3,.plain,#[]⟩
noncomputable def MG (P:ai):Obj:=BL [] 0
noncomputable def MH (P:ai):Obj:=rf "tuple" [] 0
noncomputable def MI (P:ai):Obj:=VQ []
noncomputable def MJ (P:ai):Obj:=xO "<module>" 176 1 0 0 0 0 (r 7) false 175 (r 8) .none .none .none .none 179 1 180
noncomputable def Cd (P:ai):Obj:=⟨(.type "frame"),none,.plain,([(some (r 9)),(some (r 3)),(some (r 3)),none,(some (s "__main__" 164)),none,(some (r 0))].toArray)⟩
noncomputable def Ce (P:ai):Obj:=BL [e P "__name__" 247 (s "_sre" 246),e P "__doc__" 248 .none,e P "__package__" 250 (s "" 249),e P "__loader__" 251 (.builtin "off-the-table:_sre.__loader__:shared#opaque"),e P "__spec__" 252 (.builtin "off-the-table:_sre.__spec__:shared#opaque"),e P "compile" 253 (.builtin "_sre.compile"),e P "template" 254 (.builtin "off-the-table:_sre.template:shared#opaque"),e P "getcodesize" 255 (.builtin "off-the-table:_sre.getcodesize:shared#opaque"),e P "ascii_iscased" 256 (.builtin "off-the-table:_sre.ascii_iscased:shared#opaque"),e P "unicode_iscased" 257 (.builtin "off-the-table:_sre.unicode_iscased:shared#opaque"),e P "ascii_tolower" 258 (.builtin "off-the-table:_sre.ascii_tolower:shared#opaque"),e P "unicode_tolower" 259 (.builtin "off-the-table:_sre.unicode_tolower:shared#opaque"),e P "MAGIC" 261 (.int (20230612) 260),e P "CODESIZE" 263 (.int (4) 262),e P "MAXREPEAT" 265 (.int (4294967295) 264),e P "MAXGROUPS" 267 (.int (1073741823) 266),e P "copyright" 269 (s " SRE 2.2.2 Copyright (c) 1997-2002 by Secret Labs AB " 268)] 17
noncomputable def Cf (P:ai):Obj:=⟨(.type "module"),some 11,.plain,#[]⟩
noncomputable def Cg (P:ai):Obj:=BL [e P "__module__" 189 (s "_frozen_importlib" 186),e P "__firstlineno__" 190 (.int (971) 187),e P "__doc__" 191 (.builtin "_frozen_importlib.BuiltinImporter.__doc__:str#opaque"),e P "_ORIGIN" 192 (s "built-in" 188),e P "find_spec" 193 (.builtin "_frozen_importlib.BuiltinImporter.find_spec#opaque"),e P "create_module" 194 (.builtin "_frozen_importlib.BuiltinImporter.create_module#opaque"),e P "exec_module" 195 (.builtin "_frozen_importlib.BuiltinImporter.exec_module#opaque"),e P "get_code" 196 (.builtin "_frozen_importlib.BuiltinImporter.get_code#opaque"),e P "get_source" 197 (.builtin "_frozen_importlib.BuiltinImporter.get_source#opaque"),e P "is_package" 198 (.builtin "_frozen_importlib.BuiltinImporter.is_package#opaque"),e P "load_module" 199 (.builtin "_frozen_importlib.BuiltinImporter.load_module#opaque"),e P "__static_attributes__" 200 (r 15),e P "__dict__" 202 (r 16),e P "__weakref__" 204 (r 17)] 14
noncomputable def Ci (P:ai):Obj:=⟨(.type "type"),none,(.cls ⟨(aL "BuiltinImporter"),[(.type "object")],[(r 14),(.type "object")],13,(aL "BuiltinImporter"),true,[],[],false,none,false⟩),#[]⟩
noncomputable def Cj (P:ai):Obj:=rf "tuple" [] 0
noncomputable def Ck (P:ai):Obj:=uy "getset_descriptor" [(s "__dict__" 201),(r 14),(.builtin "function.__dict__"),(.builtin "function.__dict__#set")]
noncomputable def Cm (P:ai):Obj:=uy "getset_descriptor" [(s "__weakref__" 203),(r 14),(.builtin "ExceptionGroup.__weakref__"),.none]
noncomputable def Cn (P:ai):Obj:=⟨.none,none,(.seq ([(i0 (13)),(.str (aL "\x06½\n__module__\x06º\x11_frozen_importlib\x06¾\x0f__firstlineno__\x04»\x00ϋ\x06¿\x07__doc__\t4_frozen_importlib.BuiltinImporter.__doc__:str#opaque\x06À\x07_ORIGIN\x06¼\x08built-in\x06Á\tfind_spec\t2_frozen_importlib.BuiltinImporter.find_spec#opaque\x06Â\x0dcreate_module\t6_frozen_importlib.BuiltinImporter.create_module#opaque\x06Ã\x0bexec_module\t4_frozen_importlib.BuiltinImporter.exec_module#opaque\x06Ä\x08get_code\t1_frozen_importlib.BuiltinImporter.get_code#opaque\x06Å\nget_source\t3_frozen_importlib.BuiltinImporter.get_source#opaque\x06Æ\nis_package\t3_frozen_importlib.BuiltinImporter.is_package#opaque\x06Ç\x0bload_module\t4_frozen_importlib.BuiltinImporter.load_module#opaque\x06È\x15__static_attributes__\x04\x00\x00\x0f\x06Ê\x08__dict__\x04\x00\x00\x10\x06Ì\x0b__weakref__\x04\x00\x00\x11") 0),(.bool true),(.bool true),(s "" 205),(i0 (21)),(.str (aL "\x06ã\n__module__\x06Ù\x11_frozen_importlib\x06ä\x0f__firstlineno__\x04Ú\x00Ȳ\x06å\x07__doc__\t/_frozen_importlib.ModuleSpec.__doc__:str#opaque\x06æ\x08__init__\t,_frozen_importlib.ModuleSpec.__init__#opaque\x06ç\x08__repr__\t,_frozen_importlib.ModuleSpec.__repr__#opaque\x06è\x06__eq__\t*_frozen_importlib.ModuleSpec.__eq__#opaque\x06é\x06cached\t*_frozen_importlib.ModuleSpec.cached#opaque\x06ê\x06parent\t*_frozen_importlib.ModuleSpec.parent#opaque\x06ë\x0chas_location\t0_frozen_importlib.ModuleSpec.has_location#opaque\x06ì\x15__static_attributes__\x04\x00\x00\x17\x06î\x08__dict__\x04\x00\x00\x18\x06ð\x0b__weakref__\x04\x00\x00\x19\x06ñ\x08__hash__\x00") 0),(.bool true),(.bool true),(s "" 242)].toArray) 1),#[]⟩
noncomputable def Co (P:ai):Obj:=rf "list" [] 0
noncomputable def Cp (P:ai):Obj:=BL [e P "name" 208 (s "_sre" 207),e P "loader" 209 (r 14),e P "origin" 210 (s "built-in" 184),e P "loader_state" 211 .none,e P "submodule_search_locations" 212 .none,e P "_uninitialized_submodules" 213 (r 19),e P "_set_fileattr" 214 (.bool false),e P "_cached" 215 .none,e P "_initializing" 243 (.bool false)] 9
noncomputable def Cq (P:ai):Obj:=BL [e P "__module__" 227 (s "_frozen_importlib" 217),e P "__firstlineno__" 228 (.int (562) 218),e P "__doc__" 229 (.builtin "_frozen_importlib.ModuleSpec.__doc__:str#opaque"),e P "__init__" 230 (.builtin "_frozen_importlib.ModuleSpec.__init__#opaque"),e P "__repr__" 231 (.builtin "_frozen_importlib.ModuleSpec.__repr__#opaque"),e P "__eq__" 232 (.builtin "_frozen_importlib.ModuleSpec.__eq__#opaque"),e P "cached" 233 (.builtin "_frozen_importlib.ModuleSpec.cached#opaque"),e P "parent" 234 (.builtin "_frozen_importlib.ModuleSpec.parent#opaque"),e P "has_location" 235 (.builtin "_frozen_importlib.ModuleSpec.has_location#opaque"),e P "__static_attributes__" 236 (r 23),e P "__dict__" 238 (r 24),e P "__weakref__" 240 (r 25),e P "__hash__" 241 .none] 13
noncomputable def Cr (P:ai):Obj:=⟨(.type "type"),none,(.cls ⟨(aL "ModuleSpec"),[(.type "object")],[(r 22),(.type "object")],21,(aL "ModuleSpec"),true,[],[],false,none,false⟩),#[]⟩
noncomputable def Cs (P:ai):Obj:=rf "tuple" [(s "_cached" 219),(s "_set_fileattr" 220),(s "_uninitialized_submodules" 221),(s "loader" 222),(s "loader_state" 223),(s "name" 224),(s "origin" 225),(s "submodule_search_locations" 226)] 0
noncomputable def Ct (P:ai):Obj:=uy "getset_descriptor" [(s "__dict__" 237),(r 22),(.builtin "function.__dict__"),(.builtin "function.__dict__#set")]
noncomputable def Cu (P:ai):Obj:=uy "getset_descriptor" [(s "__weakref__" 239),(r 22),(.builtin "ExceptionGroup.__weakref__"),.none]
noncomputable def Cv (P:ai):Obj:=⟨(r 22),some 20,.plain,#[]⟩
noncomputable def Cw (P:ai):Obj:=⟨.none,none,(.seq ([(i0 (11)),(.str (kQ ((aL "\x06÷\x08__name__\x06ö\x04_sre\x06ø\x07__doc__\x00\x06ú\x0b__package__\x06ù\x00\x06û\n__loader__\x04\x00\x00\x0e\x06ü\x08__spec__\x04\x00\x00\x1a\x06ý\x07compile\t\x0c_sre.compile\x06þ\x08template\t\x0d_sre.template\x06ÿ\x0bgetcodesize\t\x10_sre.getcodesize\x06Ā\x0dascii_iscased\t\x12_sre.ascii_iscased\x06ā\x0funicode_iscased\t\x14_sre.unicode_iscased\x06Ă\x0dascii_tolower\t\x12_sre.ascii_tolower\x06ă\x0funicode_tolower\t\x14_sre.unicode_tolower\x06ą\x05MAGIC\x04Ą\x00").cps.toList++[20230612]++(aL "\x06ć\x08CODESIZE\x04Ć\x00\x04\x06ĉ\tMAXREPEAT\x04Ĉ\x00").cps.toList++[4294967295]++(aL "\x06ċ\tMAXGROUPS\x04Ċ\x00").cps.toList++[1073741823]++(aL "\x06č\tcopyright\x06Č5 SRE 2.2.2 Copyright (c) 1997-2002 by Secret Labs AB ").cps.toList).toArray) 0),(.bool true),(.bool false),(s "_sre" 271),(i0 (29)),(.str (aL "\x06Ĩ\x08__name__\x06ħ\x0c_collections\x06ĩ\x07__doc__\t\x1f_collections.__doc__:str#opaque\x06ī\x0b__package__\x06Ī\x00\x06Ĭ\n__loader__\x04\x00\x00\x0e\x06ĭ\x08__spec__\x04\x00\x00!\x06Į\x0f_count_elements\t\x1c_collections._count_elements\x06į\x05deque\x08\x11collections.deque\x06İ\x0bdefaultdict\x08\x17collections.defaultdict\x06ı\x0f_deque_iterator\x08\x1bcollections._deque_iterator\x06Ĳ\x17_deque_reverse_iterator\x08#collections._deque_reverse_iterator\x06ĳ\x0c_tuplegetter\x08\x18collections._tuplegetter\x06Ĵ\x0bOrderedDict\x08\x17collections.OrderedDict") 0),(.bool true),(.bool false),(s "_collections" 310)].toArray) 1),#[]⟩
noncomputable def Cy (P:ai):Obj:=rf "tuple" [(s "deque" 277)] 0
noncomputable def Cz (P:ai):Obj:=BL [e P "__name__" 296 (s "_collections" 295),e P "__doc__" 297 (.builtin "off-the-table:_collections.__doc__:shared#opaque"),e P "__package__" 299 (s "" 298),e P "__loader__" 300 (.builtin "off-the-table:_collections.__loader__:shared#opaque"),e P "__spec__" 301 (.builtin "off-the-table:_collections.__spec__:shared#opaque"),e P "_count_elements" 302 (.builtin "_collections._count_elements"),e P "deque" 303 (.type "collections.deque"),e P "defaultdict" 304 (.type "collections.defaultdict"),e P "_deque_iterator" 305 (.builtin "off-the-table:_collections._deque_iterator:shared#opaque"),e P "_deque_reverse_iterator" 306 (.builtin "off-the-table:_collections._deque_reverse_iterator:shared#opaque"),e P "_tuplegetter" 307 (.type "collections._tuplegetter"),e P "OrderedDict" 308 (.type "collections.OrderedDict")] 12
noncomputable def CB (P:ai):Obj:=⟨(.type "module"),some 29,.plain,#[]⟩
noncomputable def CC (P:ai):Obj:=rf "list" [] 0
noncomputable def CD (P:ai):Obj:=BL [e P "name" 283 (s "_collections" 282),e P "loader" 284 (r 14),e P "origin" 285 (s "built-in" 281),e P "loader_state" 286 .none,e P "submodule_search_locations" 287 .none,e P "_uninitialized_submodules" 288 (r 31),e P "_set_fileattr" 289 (.bool false),e P "_cached" 290 .none,e P "_initializing" 291 (.bool false)] 9
noncomputable def CE (P:ai):Obj:=⟨(r 22),some 32,.plain,#[]⟩
noncomputable def lS0 (P:ai):List Obj:=[MC P,MD P,ME P,ac2 P,Gx P,MF P,MG P,MH P,MI P,MJ P,Cd P,Ce P,Cf P,Cg P,Ci P,Cj P,Ck P,Cm P,Cn P,Co P,Cp P,Cq P,Cr P,Cs P,Ct P,Cu P,Cv P,Cw P,Cy P,Cz P,CB P,CC P,CD P,CE P]
noncomputable def Gs (P:ai):Obj:=rf "tuple" [] 0
noncomputable def ac0 (P:ai):Obj:=VQ []
noncomputable def Gu (P:ai):Obj:=xO "<module>" 319 1 0 0 0 0 (r 34) false 318 (r 35) .none .none .none .none 322 1 323
noncomputable def Gv (P:ai):Obj:=⟨(.type "frame"),none,.plain,([(some (r 36)),(some (r 3)),(some (r 3)),none,(some (s "__main__" 164)),none,(some (r 0))].toArray)⟩
noncomputable def lSa (P:ai):List Obj:=lS0 P++[Gs P,ac0 P,Gu P,Gv P]
noncomputable def aia (P:ai):Obj:=BL [e P "__name__" 165 (s "__main__" 164),e P "__doc__" 166 .none,e P "__package__" 167 .none,e P "__loader__" 168 (.builtin "__main__.__loader__#opaque"),e P "__spec__" 169 .none,e P "__annotations__" 170 (r 6),e P "__builtins__" 171 (r 4),e P "__file__" 173 (s "/claim/cut.py" 172),e P "__cached__" 174 .none,e P "_sre" 275 (r 12),e P "deque" 317 (.type "collections.deque"),e P "_wall" 330 (r 44),e P "CRLF" 332 (.str (kQ #[13,10]) 331),e P "NL" 334 (.str (kQ #[10]) 333),e P "_QUOPRI_MAP" 1362 (r 47)] 15
noncomputable def P4 (P:ai):Obj:=VQ [(i0 (3)),(i0 (0)),(r 43)]
noncomputable def KH (P:ai):Obj:=rf "tuple" [] 0
noncomputable def KI (P:ai):Obj:=VQ []
noncomputable def KJ (P:ai):Obj:=rf "tuple" [(s "k" 327)] 0
noncomputable def KL (P:ai):Obj:=rf "tuple" [] 0
noncomputable def KN (P:ai):Obj:=⟨.none,none,(.func (fn (vz 0) (aL "_wall") 0 .none .none .none .none .none .none 0)),#[]⟩
noncomputable def KO (P:ai):Obj:=xO "_wall" 324 3 1 0 0 3 (r 38) true 318 (r 39) .none (r 40) (r 41) (r 42) 328 3 329
noncomputable def KP (P:ai):Obj:=sU (vz 0) "_wall" 3 .none .none .none (s "__main__" 164) (r 43) .none 0
noncomputable def KQ (P:ai):Obj:=uy "range" [(.int (0) 336),(.int (256) 335),(.int (1) 337)]
noncomputable def KR (P:ai):Obj:=uy "range_iterator" [(i0 (256)),(i0 (0)),(i0 (1))]
noncomputable def Gw (P:ai):Obj:=rf "list" (xP 0 256) 256
noncomputable def KS (P:ai):Obj:=BL [] 2
noncomputable def KU (P:ai):Obj:=rf "tuple" [] 0
noncomputable def KV (P:ai):Obj:=uy "StopIteration" [(r 49),.none,.none,.none,(.bool false),.none]
noncomputable def lT3 (P:ai):List Obj:=(((lSa P).set 3 (aia P)).set 35 (P4 P))++[KH P,KI P,KJ P,KL P,KN P,KO P,KP P,KQ P,KR P,Gw P,KS P,KU P,KV P]
noncomputable def aib (P:ai):Obj:=BL [e P "__name__" 165 (s "cpy313.email.quoprimime" 1378),e P "__doc__" 166 .none,e P "__package__" 167 .none,e P "__loader__" 168 (.builtin "__main__.__loader__#opaque"),e P "__spec__" 169 .none,e P "__annotations__" 170 (r 6),e P "__builtins__" 171 (r 4),e P "__file__" 173 (s "/claim/cut.py" 172),e P "__cached__" 174 .none,e P "_sre" 275 (r 12),e P "deque" 317 (.type "collections.deque"),e P "_wall" 330 (r 44),e P "CRLF" 332 (.str (kQ #[13,10]) 331),e P "NL" 334 (.str (kQ #[10]) 333),e P "_QUOPRI_MAP" 1362 (r 47),e P "_QUOPRI_HEADER_MAP" 1363 (r 52),e P "_QUOPRI_BODY_MAP" 1364 (r 54),e P "ascii_lowercase" 1366 (s "abcdefghijklmnopqrstuvwxyz" 1365),e P "ascii_uppercase" 1368 (s "ABCDEFGHIJKLMNOPQRSTUVWXYZ" 1367),e P "ascii_letters" 1370 (s "abcdefghijklmnopqrstuvwxyzABCDEFGHIJKLMNOPQRSTUVWXYZ" 1369),e P "digits" 1372 (s "0123456789" 1371),e P "hexdigits" 1377 (s "0123456789abcdefABCDEF" 1376),e P "c" 1388 (.int (57) 1585)] 23
noncomputable def P6 (P:ai):Obj:=uy "slice" [.none,.none,.none]
noncomputable def ac3 (P:ai):Obj:=rf "list" (xP 0 33++AO 1293 33 1++xP 34 8++AO 1269 42 2++xP 44 1++AO 1254 45 1++xP 46 1++AO 1260 47 1++AO 1416 48 10++xP 58 7++AO 1287 65 26++xP 91 6++AO 1113 97 26++xP 123 133) 0
noncomputable def P7 (P:ai):Obj:=uy "slice" [.none,.none,.none]
noncomputable def ac4 (P:ai):Obj:=rf "list" (xP 0 256) 0
noncomputable def P8 (P:ai):Obj:=uy "bytes_iterator" [.none,(i0 (67))]
noncomputable def P9 (P:ai):Obj:=rf "tuple" [] 0
noncomputable def Qa (P:ai):Obj:=uy "StopIteration" [(r 56),.none,.none,.none,(.bool false),.none]
noncomputable def acM (P:ai):List Obj:=((lT3 P).set 3 (aib P))++[P6 P,ac3 P,P7 P,ac4 P,P8 P,P9 P,Qa P]
noncomputable def aic (P:ai):Obj:=BL [e P "__name__" 165 (s "cpy313.email.quoprimime" 1378),e P "__doc__" 166 .none,e P "__package__" 167 .none,e P "__loader__" 168 (.builtin "__main__.__loader__#opaque"),e P "__spec__" 169 .none,e P "__annotations__" 170 (r 6),e P "__builtins__" 171 (r 4),e P "__file__" 173 (s "/claim/cut.py" 172),e P "__cached__" 174 .none,e P "_sre" 275 (r 12),e P "deque" 317 (.type "collections.deque"),e P "_wall" 330 (r 44),e P "CRLF" 332 (.str (kQ #[13,10]) 331),e P "NL" 334 (.str (kQ #[10]) 333),e P "_QUOPRI_MAP" 1362 (r 47),e P "_QUOPRI_HEADER_MAP" 1363 (r 52),e P "_QUOPRI_BODY_MAP" 1364 (r 54),e P "ascii_lowercase" 1366 (s "abcdefghijklmnopqrstuvwxyz" 1365),e P "ascii_uppercase" 1368 (s "ABCDEFGHIJKLMNOPQRSTUVWXYZ" 1367),e P "ascii_letters" 1370 (s "abcdefghijklmnopqrstuvwxyzABCDEFGHIJKLMNOPQRSTUVWXYZ" 1369),e P "digits" 1372 (s "0123456789" 1371),e P "hexdigits" 1377 (s "0123456789abcdefABCDEF" 1376),e P "c" 1388 (.int (9) 1874)] 23
noncomputable def Wa (P:ai):Obj:=rf "list" (xP 0 32++[s "_" 1588]++AO 1293 33 1++xP 34 8++AO 1269 42 2++xP 44 1++AO 1254 45 1++xP 46 1++AO 1260 47 1++AO 1416 48 10++xP 58 7++AO 1287 65 26++xP 91 6++AO 1113 97 26++xP 123 133) 0
noncomputable def Wb (P:ai):Obj:=rf "list" (xP 0 9++AO 1849 9 1++xP 10 22++AO 1498 32 29++xP 61 1++AO 1495 62 65++xP 127 129) 0
noncomputable def Wc (P:ai):Obj:=uy "bytes_iterator" [.none,(i0 (95))]
noncomputable def Wd (P:ai):Obj:=rf "tuple" [] 0
noncomputable def We (P:ai):Obj:=uy "StopIteration" [(r 59),.none,.none,.none,(.bool false),.none]
noncomputable def acN (P:ai):List Obj:=((((acM P).set 3 (aic P)).set 52 (Wa P)).set 54 (Wb P))++[Wc P,Wd P,We P]
noncomputable def aid (P:ai):Obj:=BL [e P "__name__" 165 (s "cpy313.email.quoprimime" 1378),e P "__doc__" 166 .none,e P "__package__" 167 .none,e P "__loader__" 168 (.builtin "__main__.__loader__#opaque"),e P "__spec__" 169 .none,e P "__annotations__" 170 (r 6),e P "__builtins__" 171 (r 4),e P "__file__" 173 (s "/claim/cut.py" 172),e P "__cached__" 174 .none,e P "_sre" 275 (r 12),e P "deque" 317 (.type "collections.deque"),e P "_wall" 330 (r 44),e P "CRLF" 332 (.str (kQ #[13,10]) 331),e P "NL" 334 (.str (kQ #[10]) 333),e P "_QUOPRI_MAP" 1362 (r 47),e P "_QUOPRI_HEADER_MAP" 1363 (r 52),e P "_QUOPRI_BODY_MAP" 1364 (r 54),e P "ascii_lowercase" 1366 (s "abcdefghijklmnopqrstuvwxyz" 1365),e P "ascii_uppercase" 1368 (s "ABCDEFGHIJKLMNOPQRSTUVWXYZ" 1367),e P "ascii_letters" 1370 (s "abcdefghijklmnopqrstuvwxyzABCDEFGHIJKLMNOPQRSTUVWXYZ" 1369),e P "digits" 1372 (s "0123456789" 1371),e P "hexdigits" 1377 (s "0123456789abcdefABCDEF" 1376),e P "c" 1388 (.int (10) 1908),e P "_max_append" 1887 (r 68),e P "unquote" 1894 (r 75),e P "quote" 1901 (r 82),e P "quote_quoprimime" 1902 (r 82),e P "_QUOPRI_BODY_ENCODE_MAP" 1903 (r 84)] 28
noncomputable def ac1 (P:ai):Obj:=VQ [(i0 (3)),(i0 (0)),(r 43),(i0 (22)),(i0 (0)),(r 67),(i0 (31)),(i0 (0)),(r 74),(i0 (33)),(i0 (0)),(r 81)]
noncomputable def Wf (P:ai):Obj:=rf "tuple" [(s "" 1877)] 0
noncomputable def ac5 (P:ai):Obj:=rf "tuple" [] 0
noncomputable def ac6 (P:ai):Obj:=VQ []
noncomputable def ac7 (P:ai):Obj:=rf "tuple" [(s "L" 1881),(s "s" 1882),(s "maxlen" 1883),(s "extra" 1884)] 0
noncomputable def ac8 (P:ai):Obj:=rf "tuple" [] 0
noncomputable def ac9 (P:ai):Obj:=⟨.none,none,(.func (fn (vz 15) (aL "_max_append") 0 .none .none .none .none .none .none 0)),#[]⟩
noncomputable def Wg (P:ai):Obj:=xO "_max_append" 1878 22 4 0 0 3 (r 62) true 318 (r 63) .none (r 64) (r 65) (r 66) 1885 22 1886
noncomputable def Wh (P:ai):Obj:=sU (vz 15) "_max_append" 3 (r 61) .none .none (s "cpy313.email.quoprimime" 1378) (r 67) .none 0
noncomputable def ada (P:ai):Obj:=rf "tuple" [] 0
noncomputable def adb (P:ai):Obj:=VQ []
noncomputable def ade (P:ai):Obj:=rf "tuple" [(s "s" 1891)] 0
noncomputable def adf (P:ai):Obj:=rf "tuple" [] 0
noncomputable def adg (P:ai):Obj:=⟨.none,none,(.func (fn (vz 16) (aL "unquote") 0 .none .none .none .none .none .none 0)),#[]⟩
noncomputable def Wi (P:ai):Obj:=xO "unquote" 1888 31 1 0 0 3 (r 69) true 318 (r 70) .none (r 71) (r 72) (r 73) 1892 31 1893
noncomputable def Wj (P:ai):Obj:=sU (vz 16) "unquote" 3 .none .none .none (s "cpy313.email.quoprimime" 1378) (r 74) .none 0
noncomputable def adh (P:ai):Obj:=rf "tuple" [] 0
noncomputable def adi (P:ai):Obj:=VQ []
noncomputable def adj (P:ai):Obj:=rf "tuple" [(s "c" 1898)] 0
noncomputable def adk (P:ai):Obj:=rf "tuple" [] 0
noncomputable def adl (P:ai):Obj:=⟨.none,none,(.func (fn (vz 17) (aL "quote") 0 .none .none .none .none .none .none 0)),#[]⟩
noncomputable def Wk (P:ai):Obj:=xO "quote" 1895 33 1 0 0 3 (r 76) true 318 (r 77) .none (r 78) (r 79) (r 80) 1899 33 1900
noncomputable def Wl (P:ai):Obj:=sU (vz 17) "quote" 3 .none .none .none (s "cpy313.email.quoprimime" 1378) (r 81) .none 0
noncomputable def adm (P:ai):Obj:=uy "slice" [.none,.none,.none]
noncomputable def Wm (P:ai):Obj:=rf "list" (xP 0 9++AO 1849 9 1++AO 1880 10 1++xP 11 2++AO 1868 13 1++xP 14 18++AO 1498 32 29++xP 61 1++AO 1495 62 65++xP 127 129) 0
noncomputable def adn (P:ai):Obj:=uy "bytes_iterator" [.none,(i0 (2))]
noncomputable def ado (P:ai):Obj:=rf "tuple" [] 0
noncomputable def adp (P:ai):Obj:=uy "StopIteration" [(r 86),.none,.none,.none,(.bool false),.none]
noncomputable def acO (P:ai):List Obj:=(((acN P).set 3 (aid P)).set 35 (ac1 P))++[Wf P,ac5 P,ac6 P,ac7 P,ac8 P,ac9 P,Wg P,Wh P,ada P,adb P,ade P,adf P,adg P,Wi P,Wj P,adh P,adi P,adj P,adk P,adl P,Wk P,Wl P,adm P,Wm P,adn P,ado P,adp P]
noncomputable def HZ:Env:={ scope:=pw.main.scope,locals:=mainNs,globals:=mainNs,cells:=[],code:=.ref 36,frame:=some 37 }
noncomputable abbrev bE:List Stmt:=behindTheImports pw
noncomputable def cE:Code:=.body bE HZ
noncomputable def q0:Pos:=⟨0,0,0,0⟩
noncomputable def ann:Option ah:=some (.ref 6)
noncomputable def seg (a n:Nat):List Stmt:=(bE.drop a).take n
noncomputable def H0 (P:ai):Heap:=⟨(lS0 P).toArray,{}⟩
noncomputable def Ha (P:ai):Heap:=⟨(lSa P).toArray,{}⟩
theorem Rb {p:qj} {w:dz} {N m:Nat} {an:Option ah} {s b3 : aG} (z:(s.heap.isNs cy&&s.gens.size==0,s.heap.objs.size,s.heap.nsMap cy "__annotations__")=(true,m,an))
  (hr:Lg iA p w m an N s (Sf p)=some b3) (l:(QH (pN p.main.body) s.heap b3.heap&&Kz p b3.heap&&VO b3 && V6 s.heap b3.heap)=true):topFrom iA p w N s=some b3:=by
 have z1:=aK (fun t:Bool × Nat × Option ah=>t.1) z;have z2:=aK (fun t:Bool × Nat × Option ah=>Lg iA p w t.2.1 t.2.2 N s (Sf p)) z;unfold topFrom;rw[show (s.heap.isNs cy&&s.gens.size==0)=true from z1,show Lg iA p w s.heap.objs.size (s.heap.nsMap cy "__annotations__") N s (Sf p)=some b3 from z2.trans hr];show (match QH (pN p.main.body) s.heap b3.heap&&Kz p b3.heap&&VO b3 && V6 s.heap b3.heap with | true=>some b3 | false=>none)=_;rw[l]
theorem Mt {p q:qj} {loose:List Str} {Xt:aG→Bool} {α : Type} {Yf:aG→α} {Ya:dz→α} {N:Nat} {g0:Bool} {Hs : ai→Heap} {OW : eF qV} {abm : Drawn} {acL z7 : Nat} {ann:Option ah}
  (adw:∀ w:dz,(NB iA p w N).map (fun s=>(s.heap,s.gens,s.drawn,s.toks))=some (Hs w.params,OW,abm,acL))
  (size:∀ w:dz,((Hs w.params).isNs cy&&OW.size==0,(Hs w.params).objs.size,(Hs w.params).nsMap cy "__annotations__")=(true,z7,ann))
  (run:∀ (w:dz) (os:Bl),∃ M b3,M≤N∧Lg iA p w z7 ann M ⟨Hs w.params,OW,abm,acL,os⟩ (Sf p)=some b3 ∧
   (QH (pN p.main.body) (Hs w.params) b3.heap&&Kz p b3.heap&&VO b3 && V6 (Hs w.params) b3.heap)=true ∧
   openSeen q loose (pN p.main.body) Xt g0 b3 = openGood q loose∧Yf b3 = Ya w):LeftO p q loose Xt Yf Ya N g0:=fun w=>by
 refine ak (aQ.mp (adw w)) fun s hs=>ak (run w s.os) fun M h=>ak h fun b3 h=>?_;have hr:=topRun_mono (N - M) _ _ _ _ h.2.1;rw[N2 h.1] at hr;exact aK (Lw _) ((aK (Option.bind · (topFrom iA p w N)) (hs.1.trans (aK some (aK (fun x:Heap × eF qV × Drawn × Nat=>(⟨x.1,x.2.1,x.2.2.1,x.2.2.2,s.os⟩:aG)) hs.2)))).trans (Rb (size w) hr h.2.2.1)) |>.trans (aK some (Prod.ext h.2.2.2.1 h.2.2.2.2))
theorem UN {tb:dD→Option jm} {p:qj} {w:dz} {n:Nat} {an:Option ah} {s:aG} {c:Code} {pos q:Pos} :
  Lg tb p w n an 2 s ⟨doneF .next,c,pos,[xC q]⟩=some s:=by
 obtain ⟨h,g,d,t,o⟩:=s;rfl
theorem adv:∀ w:dz,(NB iA pw w 60000).map (fun s=>(s.heap,s.gens,s.drawn,s.toks))=some (H0 w.params,#[],{},318):=by
 intro w;unfold NB;rw[PySem.W.Fast.te10274390034422433532,bq];rfl'
theorem adJ:∀ w:dz,((H0 w.params).isNs cy&&(#[]:eF qV).size==0,(H0 w.params).objs.size,(H0 w.params).nsMap cy "__annotations__")=(true,34,ann):=by
 intro w;rfl'
theorem ait (w:dz) (os:Bl):topGo iA pw w 34 ann 12 ⟨H0 w.params,#[],{},318,os⟩ (Sf pw)=some (⟨Ha w.params,#[],{},324,os⟩,⟨denote iA cE,cE,q0,[xC q0]⟩):=by
 rfl'
theorem agU (w:dz) (os:Bl):(stT (lSa w.params) 38 324 os).abs=⟨Ha w.params,#[],{},324,os⟩:=by
 rfl'
theorem W6 (w:dz) (os:Bl):segRun iA pw w 34 ann 1 1 ⟨Ha w.params,#[],{},324,os⟩ (blockOf bE HZ cE q0 [xC q0])=some (.next,⟨Ha w.params,#[],{},324,os⟩,cE,q0):=by
 rfl'
noncomputable abbrev oZ (w:dz) (l:ai→List Obj) (n k:Nat) (a c:Nat) (p:Pos) (l':ai→List Obj) (n' k':Nat) (p':Pos) (N:Nat):Prop:=
 (fun os=>segRunT iA pw w 34 ann 1 N (stT (l w.params) n k os) (kZ (seg a c) HZ cE p [xC q0]))=fun os=>some (.next,stT (l' w.params) n' k' os,cE,p')
noncomputable abbrev A9:dD:="comprehension-iter-twice"
noncomputable abbrev rK:dD:="special-get-raises"
noncomputable def akh (P:ai):Obj:=BL [e P "__name__" 165 (s "__main__" 164),e P "__doc__" 166 .none,e P "__package__" 167 .none,e P "__loader__" 168 (.builtin "__main__.__loader__#opaque"),e P "__spec__" 169 .none,e P "__annotations__" 170 (r 6),e P "__builtins__" 171 (r 4),e P "__file__" 173 (s "/claim/cut.py" 172),e P "__cached__" 174 .none,e P "_sre" 275 (r 12),e P "deque" 317 (.type "collections.deque"),e P "_wall" 330 (r 44),e P "CRLF" 332 (.str (kQ #[13,10]) 331),e P "NL" 334 (.str (kQ #[10]) 333)] 14
noncomputable def lT2 (P:ai):List Obj:=(((lSa P).set 3 (akh P)).set 35 (P4 P))++[KH P,KI P,KJ P,KL P,KN P,KO P,KP P]
noncomputable def aak (i:Nat) (P:ai):List Obj:=lT2 P++[KQ P,uy "range_iterator" [i0 (i+1:Nat),i0 (255 - i:Nat),i0 1],rf "list" (xP 0 (i+1)) (i+1),BL [e P "c" 339 (.int i (338+4*i))] 1]
noncomputable def agv:dz:=((aWorld 1).withFollow rK true).withFollow A9 true
noncomputable abbrev aal:Thread:=kZ (seg 3 1) HZ cE ⟨7,0,7,2⟩ [xC q0]
open PySem.W.Fast in
noncomputable def thC (os:Bl):Thread:=match tw10295753902157049106 tw14364793385576792824 pw agv 34 ann 1 80 (stT (lT2 agv.params) 45 335 os) aal with
 | some r=>r.2
 | none=>aal
noncomputable def Pt2 (w:dz):Prop:=oZ w lSa 38 324 0 3 q0 lT2 45 335 ⟨7,0,7,2⟩ 300
theorem pt2 (w:dz):Pt2 w:=by
 unfold Pt2 oZ kZ;rw[bG,bq];rfl'
noncomputable abbrev goI (w:dz) (k i:Nat):Prop:=(fun os=>segGoT iA pw w 34 ann 1 k (stT (lT2 w.params) 45 335 os) aal)=fun os=>some (stT (aak i w.params) 49 (342+4*i) os,thC os)
theorem pIt (w:dz) (b:Bool):goI ((w.withFollow rK b).withFollow A9 true) 80 0:=by
 unfold goI;rw[aae,bq];cases b<;>rfl'
theorem pIf (w:dz) (b:Bool):goI ((w.withFollow rK b).withFollow A9 false) 90 0:=by
 unfold goI;rw[aae,bq];cases b<;>rfl'
noncomputable abbrev goM (w:dz) (i m:Nat):Prop:=(fun os=>segGoT iA pw w 34 ann 1 (37*m) (stT (aak i w.params) 49 (342+4*i) os) (thC os))=fun os=>some (stT (aak (i+m) w.params) 49 (342+4*(i+m)) os,thC os)
theorem ahw (w:dz):goM w 0 32:=by
 unfold goM;rw[aae,bq];rfl'
theorem ahx (w:dz):goM w 32 32:=by
 unfold goM;rw[aae,bq];rfl'
theorem ahB (w:dz):goM w 64 32:=by
 unfold goM;rw[aae,bq];rfl'
theorem ahF (w:dz):goM w 96 32:=by
 unfold goM;rw[aae,bq];rfl'
theorem ahH (w:dz):goM w 128 32:=by
 unfold goM;rw[aae,bq];rfl'
theorem ahI (w:dz):goM w 160 32:=by
 unfold goM;rw[aae,bq];rfl'
theorem ahK (w:dz):goM w 192 32:=by
 unfold goM;rw[aae,bq];rfl'
theorem ahL (w:dz):goM w 224 31:=by
 unfold goM;rw[aae,bq];rfl'
theorem ahM (w:dz):(fun os=>segRunT iA pw w 34 ann 1 60 (stT (aak 255 w.params) 49 (342+4*255) os) (thC os))=fun os=>some (.next,stT (lT3 w.params) 51 1363 os,cE,⟨8,0,8,11⟩):=by
 rw[bG,bq];rfl'
theorem akv (w:dz):∃ b:Bool,goI w (cond b 90 80) 0:=
 xd A9 (P:=fun w=>∃ b:Bool,goI w (cond b 90 80) 0) (fun w=>⟨true,xd rK (P:=fun w'=>goI (w'.withFollow A9 false) 90 0) (fun w=>pIf w false) (fun w=>pIf w true) w⟩)
  (fun w=>⟨false,xd rK (P:=fun w'=>goI (w'.withFollow A9 true) 80 0) (fun w=>pIt w false) (fun w=>pIt w true) w⟩) w
theorem ako (w:dz) (os:Bl):∃ b:Bool,segRun iA pw w 34 ann 1 (cond b 90 80+(37*32+(37*32+(37*32+(37*32+(37*32+(37*32+(37*32+(37*31+60))))))))) (stT (lT2 w.params) 45 335 os).abs aal=some (.next,(stT (lT3 w.params) 51 1363 os).abs,cE,⟨8,0,8,11⟩):=
 ak (akv w) fun b h=>⟨b,aag (aaf (xj h os)) (aag (aaf (xj (ahw w) os)) (aag (aaf (xj (ahx w) os)) (aag (aaf (xj (ahB w) os)) (aag (aaf (xj (ahF w) os)) (aag (aaf (xj (ahH w) os)) (aag (aaf (xj (ahI w) os)) (aag (aaf (xj (ahK w) os)) (aag (aaf (xj (ahL w) os)) (EB (xj (ahM w) os))))))))))⟩
noncomputable def P12 (w:dz):Prop:=oZ w lT3 51 1363 4 9 ⟨8,0,8,11⟩ acM 58 1588 ⟨17,9,17,74⟩ 3400
theorem aim (w:dz):P12 (w.withFollow rK false):=by
 unfold P12 oZ kZ;rw[bG,bq];rfl'
theorem ain (w:dz):P12 (w.withFollow rK true):=by
 unfold P12 oZ kZ;rw[bG,bq];rfl'
theorem p12 (w:dz):P12 w:=xd rK aim ain w
noncomputable def P14 (w:dz):Prop:=oZ w acM 58 1588 13 2 ⟨17,9,17,74⟩ acN 61 1877 ⟨20,9,20,110⟩ 4500
theorem aio (w:dz):P14 (w.withFollow rK false):=by
 unfold P14 oZ kZ;rw[bG,bq];rfl'
theorem aip (w:dz):P14 (w.withFollow rK true):=by
 unfold P14 oZ kZ;rw[bG,bq];rfl'
theorem p14 (w:dz):P14 w:=xd rK aio aip w
noncomputable def P20 (w:dz):Prop:=oZ w acN 61 1877 15 6 ⟨20,9,20,110⟩ acO 88 1911 ⟨37,9,37,16⟩ 400
theorem aiq (w:dz):P20 (w.withFollow rK false):=by
 unfold P20 oZ kZ;rw[bG,bq];rfl'
theorem air (w:dz):P20 (w.withFollow rK true):=by
 unfold P20 oZ kZ;rw[bG,bq];rfl'
theorem p20 (w:dz):P20 w:=xd rK aiq air w
noncomputable def ah9 (P:ai):Obj:=⟨.none,none,(.dict ([e P "\x69mport.loaded._sre" 183 (.bool true),e P "class._frozen_importlib.BuiltinImporter" 185 (r 14),e P "watched.\x69mport" 206 (r 18),e P "class._frozen_importlib.ModuleSpec" 216 (r 22),e P "sys.modules.booked-epoch" 245 (i0 (4)),e P "\x69mport.later-laid._sre" 270 (.bool true),e P "watched.library" 272 (r 27),e P "watched.library-objects" 0 (.str (kQ #[12,30]) 0),e P "watched.library-deep._sre" 273 (.str (kQ #[4,0,0,11,4,0,0,11,4,0,0,3,4,0,0,11,8,4,100,105,99,116,2]) 0),e P "\x69mport.loaded._collections" 280 (.bool true),e P "sys.modules.landed._collections" 294 (.bool true),e P "\x69mport.later-laid._collections" 309 (.bool true),e P "watched.library-deep._collections" 311 (.str (kQ #[4,0,0,29,4,0,0,29,4,0,0,3,4,0,0,29,8,4,100,105,99,116,2]) 0),e P "type.__subclasses__.OSError.0" 2020 (i0 (132)),e P "type.__subclasses__.OSError.n" 2021 (i0 (1))].toArray) 15),#[]⟩
noncomputable def aie (P:ai):Obj:=BL [e P "__name__" 165 (s "law_il0194_01" 2885),e P "__doc__" 166 .none,e P "__package__" 167 .none,e P "__loader__" 168 (.builtin "__main__.__loader__#opaque"),e P "__spec__" 169 .none,e P "__annotations__" 170 (r 6),e P "__builtins__" 171 (r 4),e P "__file__" 173 (s "/claim/cut.py" 172),e P "__cached__" 174 .none,e P "_sre" 275 (r 12),e P "deque" 317 (.type "collections.deque"),e P "_wall" 330 (r 44),e P "CRLF" 332 (.str (kQ #[13,10]) 331),e P "NL" 334 (.str (kQ #[10]) 333),e P "_QUOPRI_MAP" 1362 (r 47),e P "_QUOPRI_HEADER_MAP" 1363 (r 52),e P "_QUOPRI_BODY_MAP" 1364 (r 54),e P "ascii_lowercase" 1366 (s "abcdefghijklmnopqrstuvwxyz" 1365),e P "ascii_uppercase" 1368 (s "ABCDEFGHIJKLMNOPQRSTUVWXYZ" 1367),e P "ascii_letters" 1370 (s "abcdefghijklmnopqrstuvwxyzABCDEFGHIJKLMNOPQRSTUVWXYZ" 1369),e P "digits" 1372 (s "0123456789" 1371),e P "hexdigits" 1377 (s "0123456789abcdefABCDEF" 1376),e P "_max_append" 1887 (r 68),e P "unquote" 1894 (r 75),e P "quote" 1901 (r 818),e P "quote_quoprimime" 1902 (r 82),e P "_QUOPRI_BODY_ENCODE_MAP" 1903 (r 84),e P "body_encode" 1930 (r 95),e P "decode" 1943 (r 103),e P "_twin_re_1" 1983 (r 108),e P "_whence" 1993 (r 115),e P "_index" 2001 (r 122),e P "UnsupportedOperation" 2023 (r 132),e P "IOBase" 2055 (r 152),e P "BufferedIOBase" 2073 (r 167),e P "TextIOBase" 2091 (r 179),e P "BytesIO" 2353 (r 409),e P "StringIO" 2640 (r 656),e P "_kind" 2651 (r 665),e P "_fspath" 2660 (r 672),e P "_check_arg_types" 2670 (r 679),e P "isabs" 2677 (r 686),e P "join" 2688 (r 810),e P "join_path" 2689 (r 693),e P "dirname" 2699 (r 700),e P "shlex" 2840 (r 791),e P "split" 2850 (r 803),e P "join_shlex" 2858 (r 810),e P "_find_unsafe" 2860 (r 811),e P "quote_shlex" 2868 (r 818),e P "sorted_list_difference" 2884 (r 825),e P "_law_word" 2892 (r 830),e P "_law_width" 2898 (r 835),e P "_law_heads" 2904 (r 840),e P "_law_last" 2910 (r 845),e P "_law_shared" 2920 (r 852),e P "_law_packed" 2930 (r 859),e P "_law_runs" 2936 (r 864),e P "_law_rows" 2942 (r 869),e P "_law_turned" 2948 (r 874),e P "_law_told" 2960 (r 881),e P "_law_places" 2977 (r 888),e P "law" 2983 (r 893)] 65
noncomputable def adq (P:ai):Obj:=rf "tuple" [(.int (76) 1911),(.str (kQ #[10]) 333)] 0
noncomputable def ads (P:ai):Obj:=xO "body_encode" 1912 40 3 0 0 3 (r 89) true 318 (r 90) .none (r 91) (r 92) (r 93) 1928 40 1929
noncomputable def adt (P:ai):Obj:=sU (vz 22) "body_encode" 3 (r 88) .none .none (s "cpy313.email.quoprimime" 1378) (r 94) .none 0
noncomputable def adu (P:ai):Obj:=rf "tuple" [(.str (kQ #[10]) 333)] 0
noncomputable def Yr (P:ai):Obj:=xO "decode" 1931 78 2 0 0 3 (r 97) true 318 (r 98) .none (r 99) (r 100) (r 101) 1941 78 1942
noncomputable def Ys (P:ai):Obj:=sU (vz 23) "decode" 3 (r 96) .none .none (s "cpy313.email.quoprimime" 1378) (r 102) .none 0
noncomputable def Yt (P:ai):Obj:=rf "list" [(.int (14) 1947),(.int (17) 1948),(.int (4) 1949),(.int (1) 1950),(.int (1) 1951),(.int (21) 1952),(.int (9) 1953),(.int (0) 1954),(.int (604043296) 1955),(.int (1) 1956),(.int (0) 1957),(.int (0) 1958),(.int (0) 1959),(.int (0) 1960),(.int (0) 1961),(.int (8) 1962),(.int (4) 1963),(.int (0) 1964),(.int (13) 1965),(.int (14) 1966),(.int (21) 1967),(.int (9) 1968),(.int (0) 1969),(.int (604043296) 1970),(.int (1) 1971),(.int (0) 1972),(.int (0) 1973),(.int (0) 1974),(.int (0) 1975),(.int (0) 1976),(.int (8) 1977),(.int (4) 1978),(.int (0) 1979),(.int (1) 1980)] 0
noncomputable def Ab (P:ai):Obj:=rf "tuple" [(i0 (14)),(i0 (17)),(i0 (4)),(i0 (1)),(i0 (1)),(i0 (21)),(i0 (9)),(i0 (0)),(i0 (604043296)),(i0 (1)),(i0 (0)),(i0 (0)),(i0 (0)),(i0 (0)),(i0 (0)),(i0 (8)),(i0 (4)),(i0 (0)),(i0 (13)),(i0 (14)),(i0 (21)),(i0 (9)),(i0 (0)),(i0 (604043296)),(i0 (1)),(i0 (0)),(i0 (0)),(i0 (0)),(i0 (0)),(i0 (0)),(i0 (8)),(i0 (4)),(i0 (0)),(i0 (1))] 0
noncomputable def wJ (P:ai):Obj:=uy "re.Pattern" [(s "[^\\w@%+=:,./-]" 1945),(.int (256) 1982),(i0 (0)),.none,.none,(r 107),(i0 (0))]
noncomputable def Yu (P:ai):Obj:=xO "_index" 1994 115 2 0 0 3 (r 116) true 318 (r 117) .none (r 118) (r 119) (r 120) 1999 115 2000
noncomputable def Yv (P:ai):Obj:=sU (vz 27) "_index" 3 .none .none .none (s "io" 1984) (r 121) .none 0
noncomputable def Yw (P:ai):Obj:=uy "code" [(s "__new__" 2038),(s "IOBase.__new__" 2039),(s "/claim/cut.py" 2040),(i0 (127)),(i0 (1)),(i0 (1)),(i0 (0)),(i0 (15)),(r 143),(.bool true),(i0 (318)),(r 144),.none,(r 145),(r 146),(r 147),(i0 (2044)),(i0 (127)),(s "/claim/cut.py" 2045)]
noncomputable def Yx (P:ai):Obj:=sU (PO 29 1) "IOBase.__new__" 3 .none .none .none (s "io" 1984) (r 148) .none 0
noncomputable def Yy (P:ai):Obj:=BL [e P "__module__" 2031 (s "io" 2036),e P "__firstlineno__" 2035 (.int (124) 2034),e P "__new__" 2046 (r 153),e P "__static_attributes__" 2047 (r 150),e P "__dict__" 2050 (r 154),e P "__weakref__" 2052 (r 155),e P "__doc__" 2053 .none] 4
noncomputable def Yz (P:ai):Obj:=⟨(.type "type"),none,(.cls ⟨(aL "IOBase"),[(.type "object")],[(r 152),(.type "object")],151,(aL "IOBase"),true,[],[(r 167),(r 179)],false,none,false⟩),([none,none,(some (s "IOBase" 2024)),(some (s "IOBase" 2032)),(some .none),(some (.bool true))].toArray)⟩
noncomputable def YA (P:ai):Obj:=uy "staticmethod" [(r 149)]
noncomputable def YB (P:ai):Obj:=BL [e P "__module__" 2081 (s "io" 2086),e P "__firstlineno__" 2085 (.int (133) 2084),e P "__static_attributes__" 2088 (r 177),e P "__doc__" 2089 .none] 2
noncomputable def YC (P:ai):Obj:=⟨(.type "type"),none,(.cls ⟨(aL "TextIOBase"),[(r 152)],[(r 179),(r 152),(.type "object")],178,(aL "TextIOBase"),true,[],[(r 656)],false,none,false⟩),([(some (r 170)),none,(some (s "TextIOBase" 2074)),(some (s "TextIOBase" 2082)),(some .none),(some (.bool true))].toArray)⟩
noncomputable def YD (P:ai):Obj:=rf "tuple" [(s "" 2368),(.str (kQ #[10]) 2369)] 0
noncomputable def YE (P:ai):Obj:=uy "code" [(s "__init__" 2370),(s "StringIO.__init__" 2371),(s "/claim/cut.py" 2372),(i0 (308)),(i0 (3)),(i0 (0)),(i0 (0)),(i0 (3)),(r 420),(.bool true),(i0 (318)),(r 421),.none,(r 422),(r 423),(r 424),(i0 (2376)),(i0 (308)),(s "/claim/cut.py" 2377)]
noncomputable def YF (P:ai):Obj:=sU (PO 33 1) "StringIO.__init__" 3 (r 419) .none .none (s "io" 1984) (r 425) .none 0
noncomputable def YG (P:ai):Obj:=uy "code" [(s "__translated" 2379),(s "StringIO.__translated" 2380),(s "/claim/cut.py" 2381),(i0 (321)),(i0 (2)),(i0 (0)),(i0 (0)),(i0 (3)),(r 427),(.bool true),(i0 (318)),(r 428),.none,(r 429),(r 430),(r 431),(i0 (2385)),(i0 (321)),(s "/claim/cut.py" 2386)]
noncomputable def YH (P:ai):Obj:=sU (PO 33 2) "StringIO.__translated" 3 .none .none .none (s "io" 1984) (r 432) .none 0
noncomputable def YI (P:ai):Obj:=uy "code" [(s "__check" 2388),(s "StringIO.__check" 2389),(s "/claim/cut.py" 2390),(i0 (329)),(i0 (1)),(i0 (0)),(i0 (0)),(i0 (3)),(r 434),(.bool true),(i0 (318)),(r 435),.none,(r 436),(r 437),(r 438),(i0 (2392)),(i0 (329)),(s "/claim/cut.py" 2393)]
noncomputable def YJ (P:ai):Obj:=sU (PO 33 3) "StringIO.__check" 3 .none .none .none (s "io" 1984) (r 439) .none 0
noncomputable def YK (P:ai):Obj:=rf "tuple" [(.int (-1) 2561)] 0
noncomputable def YL (P:ai):Obj:=uy "code" [(s "read" 2562),(s "StringIO.read" 2563),(s "/claim/cut.py" 2564),(i0 (451)),(i0 (2)),(i0 (2)),(i0 (0)),(i0 (3)),(r 596),(.bool true),(i0 (318)),(r 597),.none,(r 598),(r 599),(r 600),(i0 (2569)),(i0 (451)),(s "/claim/cut.py" 2570)]
noncomputable def YM (P:ai):Obj:=sU (PO 33 25) "StringIO.read" 3 (r 595) .none .none (s "io" 1984) (r 601) .none 0
noncomputable def YN (P:ai):Obj:=BL [e P "__module__" 2361 (s "_io" 2366),e P "__firstlineno__" 2365 (.int (305) 2364),e P "__init__" 2378 (r 426),e P "_StringIO__translated" 2387 (r 433),e P "_StringIO__check" 2394 (r 440),e P "_StringIO__check_dot" 2401 (r 447),e P "_StringIO__line" 2416 (r 454),e P "closed" 2424 (r 462),e P "line_buffering" 2432 (r 470),e P "newlines" 2440 (r 478),e P "encoding" 2448 (r 486),e P "errors" 2456 (r 494),e P "close" 2463 (r 501),e P "__enter__" 2470 (r 508),e P "__exit__" 2478 (r 515),e P "readable" 2485 (r 522),e P "writable" 2492 (r 529),e P "seekable" 2499 (r 536),e P "isatty" 2506 (r 543),e P "flush" 2513 (r 550),e P "fileno" 2520 (r 557),e P "detach" 2527 (r 564),e P "getvalue" 2534 (r 571),e P "tell" 2541 (r 578),e P "seek" 2551 (r 586),e P "truncate" 2559 (r 594),e P "read" 2571 (r 602),e P "readline" 2581 (r 610),e P "readlines" 2591 (r 618),e P "__iter__" 2598 (r 625),e P "__next__" 2606 (r 632),e P "write" 2618 (r 639),e P "writelines" 2626 (r 646),e P "__repr__" 2633 (r 653),e P "__static_attributes__" 2637 (r 654),e P "__doc__" 2638 .none] 2
noncomputable def pD (P:ai):Obj:=⟨(.type "type"),none,(.cls ⟨(aL "StringIO"),[(r 179)],[(r 656),(r 179),(r 152),(.type "object")],655,(aL "StringIO"),true,[],[],false,none,false⟩),([(some (r 412)),none,(some (s "StringIO" 2354)),(some (s "StringIO" 2362)),(some .none),(some (.bool true))].toArray)⟩
noncomputable def YO (P:ai):Obj:=rf "tuple" [.none,.none,(.bool false),(.bool false)] 0
noncomputable def YQ (P:ai):Obj:=uy "code" [(s "__init__" 2714),(s "shlex.__init__" 2715),(s "/claim/cut.py" 2716),(i0 (577)),(i0 (5)),(i0 (0)),(i0 (0)),(i0 (3)),(r 709),(.bool true),(i0 (318)),(r 710),.none,(r 711),(r 712),(r 713),(i0 (2723)),(i0 (577)),(s "/claim/cut.py" 2724)]
noncomputable def YR (P:ai):Obj:=sU (PO 43 0) "shlex.__init__" 3 (r 708) .none .none (s "cpy313.shlex" 2700) (r 714) .none 0
noncomputable def YS (P:ai):Obj:=uy "code" [(s "punctuation_chars" 2726),(s "shlex.punctuation_chars" 2727),(s "/claim/cut.py" 2728),(i0 (618)),(i0 (1)),(i0 (0)),(i0 (0)),(i0 (3)),(r 716),(.bool true),(i0 (318)),(r 717),.none,(r 718),(r 719),(r 720),(i0 (2730)),(i0 (618)),(s "/claim/cut.py" 2731)]
noncomputable def YT (P:ai):Obj:=sU (PO 43 1) "shlex.punctuation_chars" 3 .none .none .none (s "cpy313.shlex" 2700) (r 721) .none 0
noncomputable def YU (P:ai):Obj:=uy "property" [(r 722),.none,.none,.none,(s "punctuation_chars" 2733),(.bool false)]
noncomputable def YV (P:ai):Obj:=uy "code" [(s "get_token" 2758),(s "shlex.get_token" 2759),(s "/claim/cut.py" 2760),(i0 (645)),(i0 (1)),(i0 (0)),(i0 (0)),(i0 (3)),(r 746),(.bool true),(i0 (318)),(r 747),.none,(r 748),(r 749),(r 750),(i0 (2767)),(i0 (645)),(s "/claim/cut.py" 2768)]
noncomputable def YW (P:ai):Obj:=sU (PO 43 5) "shlex.get_token" 3 .none .none .none (s "cpy313.shlex" 2700) (r 751) .none 0
noncomputable def YX (P:ai):Obj:=uy "code" [(s "read_token" 2770),(s "shlex.read_token" 2771),(s "/claim/cut.py" 2772),(i0 (672)),(i0 (1)),(i0 (0)),(i0 (0)),(i0 (3)),(r 753),(.bool true),(i0 (318)),(r 754),.none,(r 755),(r 756),(r 757),(i0 (2778)),(i0 (672)),(s "/claim/cut.py" 2779)]
noncomputable def YY (P:ai):Obj:=sU (PO 43 6) "shlex.read_token" 3 .none .none .none (s "cpy313.shlex" 2700) (r 758) .none 0
noncomputable def YZ (P:ai):Obj:=uy "code" [(s "__iter__" 2798),(s "shlex.__iter__" 2799),(s "/claim/cut.py" 2800),(i0 (819)),(i0 (1)),(i0 (0)),(i0 (0)),(i0 (3)),(r 775),(.bool true),(i0 (318)),(r 776),.none,(r 777),(r 778),(r 779),(i0 (2802)),(i0 (819)),(s "/claim/cut.py" 2803)]
noncomputable def Y0 (P:ai):Obj:=sU (PO 43 9) "shlex.__iter__" 3 .none .none .none (s "cpy313.shlex" 2700) (r 780) .none 0
noncomputable def Y3 (P:ai):Obj:=uy "code" [(s "__next__" 2805),(s "shlex.__next__" 2806),(s "/claim/cut.py" 2807),(i0 (822)),(i0 (1)),(i0 (0)),(i0 (0)),(i0 (3)),(r 782),(.bool true),(i0 (318)),(r 783),.none,(r 784),(r 785),(r 786),(i0 (2810)),(i0 (822)),(s "/claim/cut.py" 2811)]
noncomputable def Y4 (P:ai):Obj:=sU (PO 43 10) "shlex.__next__" 3 .none .none .none (s "cpy313.shlex" 2700) (r 787) .none 0
noncomputable def Y5 (P:ai):Obj:=BL [e P "__module__" 2709 (s "cpy313.shlex" 2700),e P "__firstlineno__" 2713 (.int (575) 2712),e P "__init__" 2725 (r 715),e P "punctuation_chars" 2733 (r 723),e P "push_token" 2741 (r 730),e P "push_source" 2750 (r 738),e P "pop_source" 2757 (r 745),e P "get_token" 2769 (r 752),e P "read_token" 2780 (r 759),e P "sourcehook" 2788 (r 766),e P "error_leader" 2797 (r 774),e P "__iter__" 2804 (r 781),e P "__next__" 2812 (r 788),e P "__static_attributes__" 2833 (r 789),e P "__dict__" 2835 (r 792),e P "__weakref__" 2837 (r 793),e P "__doc__" 2838 .none] 4
noncomputable def Y6 (P:ai):Obj:=⟨(.type "type"),none,(.cls ⟨(aL "shlex"),[(.type "object")],[(r 791),(.type "object")],790,(aL "shlex"),true,[],[],false,none,false⟩),([none,none,(some (s "shlex" 2702)),(some (s "shlex" 2710)),(some (.builtin "object.__new__")),(some (.bool true))].toArray)⟩
noncomputable def Y7 (P:ai):Obj:=rf "tuple" [(.bool false),(.bool true)] 0
noncomputable def Y9 (P:ai):Obj:=xO "split" 2841 827 3 0 0 3 (r 797) true 318 (r 798) .none (r 799) (r 800) (r 801) 2848 827 2849
noncomputable def Za (P:ai):Obj:=sU (vz 44) "split" 3 (r 796) .none .none (s "cpy313.shlex" 2700) (r 802) .none 0
noncomputable def Qc (P:ai):Obj:=xO "join" 2851 835 1 0 0 3 (r 804) true 318 (r 805) .none (r 806) (r 807) (r 808) 2855 835 2856
noncomputable def Zb (P:ai):Obj:=sU (vz 45) "join" 3 .none .none .none (s "cpy313.shlex" 2700) (r 809) .none 0
noncomputable def IW (P:ai):Obj:=uy "builtin_function_or_method" [(.builtin "re.Pattern.search"),(r 108)]
noncomputable def Zc (P:ai):Obj:=xO "quote" 2861 839 1 0 0 3 (r 812) true 318 (r 813) .none (r 814) (r 815) (r 816) 2865 839 2866
noncomputable def Zd (P:ai):Obj:=sU (vz 48) "quote" 3 .none .none .none (s "cpy313.shlex" 2700) (r 817) .none 0
noncomputable def Ze (P:ai):Obj:=xO "sorted_list_difference" 2871 847 2 0 0 3 (r 819) true 318 (r 820) .none (r 821) (r 822) (r 823) 2882 847 2883
noncomputable def Zf (P:ai):Obj:=sU (vz 51) "sorted_list_difference" 3 .none .none .none (s "cpy313.unittest.util" 2869) (r 824) .none 0
noncomputable def Zi (P:ai):Obj:=xO "_law_word" 2887 880 1 0 0 3 (r 826) true 318 (r 827) .none .none .none (r 828) 2890 880 2891
noncomputable def Zj (P:ai):Obj:=sU (vz 53) "_law_word" 3 .none .none .none (s "law_il0194_01" 2885) (r 829) .none 0
noncomputable def Zk (P:ai):Obj:=xO "_law_width" 2893 882 1 0 0 3 (r 831) true 318 (r 832) .none .none .none (r 833) 2896 882 2897
noncomputable def Zl (P:ai):Obj:=sU (vz 54) "_law_width" 3 .none .none .none (s "law_il0194_01" 2885) (r 834) .none 0
noncomputable def Zm (P:ai):Obj:=xO "_law_heads" 2899 887 2 0 0 3 (r 836) true 318 (r 837) .none .none .none (r 838) 2902 887 2903
noncomputable def Zn (P:ai):Obj:=sU (vz 55) "_law_heads" 3 .none .none .none (s "law_il0194_01" 2885) (r 839) .none 0
noncomputable def Zo (P:ai):Obj:=xO "_law_last" 2905 898 2 0 0 3 (r 841) true 318 (r 842) .none .none .none (r 843) 2908 898 2909
noncomputable def Zp (P:ai):Obj:=sU (vz 56) "_law_last" 3 .none .none .none (s "law_il0194_01" 2885) (r 844) .none 0
noncomputable def Zq (P:ai):Obj:=xO "_law_shared" 2911 900 2 0 0 3 (r 846) true 318 (r 847) .none (r 848) (r 849) (r 850) 2918 900 2919
noncomputable def Zr (P:ai):Obj:=sU (vz 57) "_law_shared" 3 .none .none .none (s "law_il0194_01" 2885) (r 851) .none 0
noncomputable def Zs (P:ai):Obj:=xO "_law_packed" 2921 906 2 0 0 3 (r 853) true 318 (r 854) .none (r 855) (r 856) (r 857) 2928 906 2929
noncomputable def Zt (P:ai):Obj:=sU (vz 58) "_law_packed" 3 .none .none .none (s "law_il0194_01" 2885) (r 858) .none 0
noncomputable def Zu (P:ai):Obj:=xO "_law_runs" 2931 911 2 0 0 3 (r 860) true 318 (r 861) .none .none .none (r 862) 2934 911 2935
noncomputable def Zv (P:ai):Obj:=sU (vz 59) "_law_runs" 3 .none .none .none (s "law_il0194_01" 2885) (r 863) .none 0
noncomputable def Zw (P:ai):Obj:=xO "_law_rows" 2937 914 4 0 0 3 (r 865) true 318 (r 866) .none .none .none (r 867) 2940 914 2941
noncomputable def Zy (P:ai):Obj:=sU (vz 60) "_law_rows" 3 .none .none .none (s "law_il0194_01" 2885) (r 868) .none 0
noncomputable def Zz (P:ai):Obj:=xO "_law_turned" 2943 920 4 0 0 3 (r 870) true 318 (r 871) .none .none .none (r 872) 2946 920 2947
noncomputable def ZA (P:ai):Obj:=sU (vz 61) "_law_turned" 3 .none .none .none (s "law_il0194_01" 2885) (r 873) .none 0
noncomputable def ZC (P:ai):Obj:=xO "_law_told" 2949 923 3 0 0 3 (r 875) true 318 (r 876) .none (r 877) (r 878) (r 879) 2958 923 2959
noncomputable def ZD (P:ai):Obj:=sU (vz 62) "_law_told" 3 .none .none .none (s "law_il0194_01" 2885) (r 880) .none 0
noncomputable def ZE (P:ai):Obj:=xO "_law_places" 2961 928 4 0 0 3 (r 882) true 318 (r 883) .none (r 884) (r 885) (r 886) 2975 928 2976
noncomputable def ZF (P:ai):Obj:=sU (vz 63) "_law_places" 3 .none .none .none (s "law_il0194_01" 2885) (r 887) .none 0
noncomputable def ZG (P:ai):Obj:=xO "law" 2978 942 1 0 0 3 (r 889) true 318 (r 890) .none .none .none (r 891) 2981 942 2982
noncomputable def ZH (P:ai):Obj:=sU (vz 64) "law" 3 .none .none .none (s "law_il0194_01" 2885) (r 892) .none 0
noncomputable def P5 (P:ai):Obj:=⟨(.type "type"),none,(.cls ⟨(aL "BytesIO"),[(r 167)],[(r 409),(r 167),(r 152),(.type "object")],408,(aL "BytesIO"),true,[],[],false,none,false⟩),([(some (r 182)),none,(some (s "BytesIO" 2092)),(some (s "BytesIO" 2100)),(some .none),(some (.bool true))].toArray)⟩
noncomputable def Kf (P:ai):Frag:=[(2,ah9 P),(3,aie P),(4,Gx P),(47,Gw P),(61,Wf P),(67,Wg P),(68,Wh P),(74,Wi P),(75,Wj P),(81,Wk P),(82,Wl P),(84,Wm P),(88,adq P),(94,ads P),(95,adt P),(96,adu P),(102,Yr P),(103,Ys P),(104,Yt P),(107,Ab P),(108,wJ P),(121,Yu P),(122,Yv P),(148,Yw P),(149,Yx P),(151,Yy P),(152,Yz P),(153,YA P),(178,YB P),(179,YC P),(409,P5 P),(419,YD P),(425,YE P),(426,YF P),(432,YG P),(433,YH P),(439,YI P),(440,YJ P),(595,YK P),(601,YL P),(602,YM P),(655,YN P),(656,pD P),(708,YO P),(714,YQ P),(715,YR P),(721,YS P),(722,YT P),(723,YU P),(751,YV P),(752,YW P),(758,YX P),(759,YY P),(780,YZ P),(781,Y0 P),(787,Y3 P),(788,Y4 P),(790,Y5 P),(791,Y6 P),(796,Y7 P),(802,Y9 P),(803,Za P),(809,Qc P),(810,Zb P),(811,IW P),(817,Zc P),(818,Zd P),(824,Ze P),(825,Zf P),(829,Zi P),(830,Zj P),(834,Zk P),(835,Zl P),(839,Zm P),(840,Zn P),(844,Zo P),(845,Zp P),(851,Zq P),(852,Zr P),(858,Zs P),(859,Zt P),(863,Zu P),(864,Zv P),(868,Zw P),(869,Zy P),(873,Zz P),(874,ZA P),(880,ZC P),(881,ZD P),(887,ZE P),(888,ZF P),(892,ZG P),(893,ZH P)]
noncomputable def Ka:List Addr:=[2,3,4,47,61,67,68,74,75,81,82,84,88,94,95,96,102,103,104,107,108,121,122,148,149,151,152,153,178,179,409,419,425,426,432,433,439,440,595,601,602,655,656,708,714,715,721,722,723,751,752,758,759,780,781,787,788,790,791,796,802,803,809,810,811,817,818,824,825,829,830,834,835,839,840,844,845,851,852,858,859,863,864,868,869,873,874,880,881,887,888,892,893]
noncomputable def q:qj:=view pw [0,1,66]
noncomputable def loose:List Str:=(["_sre","deque","_wall","CRLF","NL","_QUOPRI_MAP","_QUOPRI_HEADER_MAP","_QUOPRI_BODY_MAP","ascii_lowercase","ascii_uppercase","ascii_letters","digits","hexdigits","_max_append","unquote","quote","quote_quoprimime","_QUOPRI_BODY_ENCODE_MAP","body_encode","decode","_twin_re_1","_whence","_index"]:List Str) ++
 (["UnsupportedOperation","IOBase","BufferedIOBase","TextIOBase","BytesIO","StringIO","_kind","_fspath","_check_arg_types","isabs","join","join_path","dirname","shlex","split","join_shlex","_find_unsafe","quote_shlex","sorted_list_difference","_law_word","_law_width","_law_heads","_law_last","_law_shared","_law_packed","_law_runs","_law_rows","_law_turned","_law_told","_law_places"]:List Str)
noncomputable def mods:List Str:=pN pw.main.body
noncomputable def Ad:Obj:={ cls:=.none,data:=.fields #[] }
noncomputable def Kw (P:ai):Frag:=(805,Ad) :: Kf P
noncomputable def Qz (s:aG):Nat × List (Option Obj):=(s.heap.objs.size,(805 :: Ka).map s.heap.get?)
noncomputable def Rr (w:dz):Nat × List (Option Obj):=(894,(Kw w.params).map fun p=>some p.2)
noncomputable def acS (P:ai) (s:aG):=(QH mods (H0 P) s.heap&&Kz pw s.heap&&VO s&&V6 (H0 P) s.heap,openSeen q loose mods (fun _=>true) true s,Qz s)
noncomputable def PR (w:dz):Prop:=(fun os=>(segRunT iA pw w 34 ann 1 6000 (stT (acO w.params) 88 1911 os) (kZ (seg 21 44) HZ cE ⟨37,9,37,16⟩ [xC q0])).map fun r=>(r.1,r.2.2.1,acS w.params r.2.1.abs))=fun os=>some (.next,cE,true,openGood q loose,Rr w)
theorem pR (w:dz):PR w:=by
 unfold PR kZ;rw[bG,bq];rfl'
theorem aiy:bE=seg 0 3++(seg 3 1++(seg 4 9++(seg 13 2++(seg 15 6++(seg 21 44++[]))))):=by
 have h:bE.length=65:=by rfl'
 have d (a n:Nat):bE.drop a=seg a n++bE.drop (a+n):=by
  unfold seg;rw[← List.drop_drop,fZ]
 have h0:=d 0 3;rw[j5] at h0;rw[cg];refine h0.trans ?_;rw[d (0+3) 1,d (0+3+1) 9,d (0+3+1+9) 2,d (0+3+1+9+2) 6];have e:bE.drop (0+3+1+9+2+6)=seg 21 44:=by
  unfold seg;rw[dP (by rw[bT,h];exact aB 44)]
 rw[e]
theorem left:LeftO pw q loose (fun _=>true) Qz Rr 60000:=by
 refine Mt adv adJ fun w os=>?_;refine ak (ako w os) fun b k3=>?_;have k2:=EB (xj (pt2 w) os);have k12:=EB (xj (p12 w) os);have k14:=EB (xj (p14 w) os);have k20:=EB (xj (p20 w) os);refine ak (aQ.mp (xj (pR w) os)) fun r hs=>?_;have kR:=EB (hs.1.trans (aK some (aK (fun x:Flow × Code × _=>(x.1,r.2.1,x.2.1,r.2.2.2)) hs.2)));have l:=aK (fun x:Flow × Code × _=>x.2.2) hs.2;have e2:=EA k2 (EA k3 (EA k12 (EA k14 (EA k20 (EA kR (piece_nil (env:=HZ) (UN (c:=cE))))))));exact ⟨_,r.2.1.abs,by cases b<;>decide,go_top (ait w os) (piece_block (W6 w os) ((aK (Lg iA pw w 34 ann _ · (restOf bE HZ cE q0 [xC q0])) (agU w os)).symm.trans ((aK (fun b=>Lg iA pw w 34 ann _ _ (restOf b HZ cE q0 [xC q0])) aiy).trans e2))),aK (·.1) l,aK (·.2.1) l,aK (·.2.2) l⟩
theorem W4 {a b:Bool} (h1:a=true) (h2:b=true):(a&&b)=true:=by rw[h1,h2];rfl
open PySem.W.Fast in
theorem sd1:tw11788848310118352699 (tw2368527892694137696 bB).prog.main=true:=by rfl'
open PySem.W.Fast in
theorem sd2:((tw9807087744658564304 (tw2368527892694137696 bB).prog.main.body).isEmpty||tw12862048085361865435 (tw9807087744658564304 (tw2368527892694137696 bB).prog.main.body) (tw2368527892694137696 bB).prog.main.body)=true:=by rfl'
open PySem.W.Fast in
theorem sd3:tw8377067652309620493 (tw2368527892694137696 bB).prog=true:=by rfl'
open PySem.W.Fast in
theorem sd5:tw8326940854005059898 { strict:=!R.allR (tw5923862056798008813 (tw2368527892694137696 bB).prog.main.body) (@tw3471404346716756564 Str (@instBEqOfDecidableEq Str sDec) tw17691160309236699985),foot:=none,bare:=R.filterR (tw13343964577679436407 (tw2368527892694137696 bB).prog (tw2368527892694137696 bB).prog.main.body) [{ cps:={ toList:=[118,97,114,115] } },{ cps:={ toList:=[100,105,114] } },{ cps:={ toList:=[108,111,99,97,108,115] } }] } (tw2368527892694137696 bB).prog.main.body=true:=by rfl'
open PySem.W.Fast in
theorem sd6:(tw17119622794617984870 (tw2368527892694137696 bB).prog (tw2368527892694137696 bB).prog.main.body fun x n=>tw17868728402115742887 n)=true:=by rfl'
set_option maxHeartbeats 4000000 in
theorem aix:bB.wellSaid=true:=by
 rw[PySem.W.Fast.te9446332074065402090];delta PySem.W.Fast.tw9446332074065402090 PySem.W.Fast.tw17960256430627541270 PySem.W.Fast.tw2436336058641802641 PySem.W.Fast.tw12908688711261696721;dsimp -zeta only
 repeat' with_reducible refine W4 ?_ ?_
 all_goals first | with_reducible exact sd1 | with_reducible exact sd2 | with_reducible exact sd3 | with_reducible exact sd5 | with_reducible exact sd6 | rfl'
noncomputable def acP:Stmt:=vz 64
noncomputable def Fj:DefRec:=match acP with
 | .FunctionDef name args body _ _ _ scope _ _ pos=>⟨name,args,body,scope,pos⟩
 | _=>⟨Str.empty,default,[],default,default⟩
theorem ahm:defOf q bB.row.name=some (Fj,[]):=by rfl'
theorem hp:bB.row.prog.theDef bB.row.name=some (Fj.params,Fj.body,Fj.scope):=by rfl'
theorem hk:kwWritten? Fj.params.kwonlyargs Fj.params.kw_defaults=some []:=by rfl'
theorem pB:(chainsOk q&&opensWell bB.row.prog&&(frees bB.row.toRowW&&bB.row.within.isEmpty))=true:=by rfl'
theorem abC:bB.row.prog.bare:=⟨rfl,rfl,rfl,rfl,rfl,by decide +kernel⟩
theorem ab3:bB.row.toRowW.promised:=by w_witness2
theorem hY (w:dz) (s:aG) (h:Qz s=Rr w):(Kw w.params).In s.heap:=by
 have h2:=aK WU h;exact Frag.in_of (as:=805 :: Ka) (by rfl') h2
theorem hd (call:WalkO q loose (fun _ _=>True) (fun w h=>(Kw w.params).In h) bB.row.toRowW Fj [] fun f vs=>PySem.call f vs):bB.Holds:=
 holds_law aix fun sd=>holds_open (q:=q) (loose:=loose) (Xt:=fun _=>true) (XP:=fun _ _=>True) (YP:=fun w h=>(Kw w.params).In h) left hY (fun _ _ _ x k=>Frag.In.keeps x k)
  (fun _ _=>trivial) (fun _ _ _ _ _=>trivial) ahm hp hk (fun s _=>recFacts_nil rfl) rfl sd pB abC ab3 call
section
inductive P where
 | none | bool (b:Bool) | int (i:Int) | str (s:Str) | ty (n:dD) | bi (id:dD) | adr (a:Addr)
 | lst (vs:List P) | tup (vs:List P) | rj (a b c:Int) | dq | mt
inductive V where
 | p (x:P) | obj (k:Nat) | tup (vs:List V) | jq (k:Nat) (n:Str)
inductive Ob where
 | list (vs:List P) | cell (v:Option V) | inst (C:Addr) (d:Nat) | attrs (kv:List (Str × V)) | gone
inductive Sl where
 | unset | val (v:V) | cell (j:Nat)
inductive Hn where
 | no | may | yes
 deriving DecidableEq
structure St where
 loc:List (Str × Sl)
 aP:List Ob
 dw:Hn:=.no
inductive Xn where
 | index | stop | qE
noncomputable def Xn.cls:Xn→dD
 | .index=>"IndexError"
 | .qE=>"IndexError"
 | .stop=>"StopIteration"
noncomputable def Xn.plain:Xn→Bool
 | .qE=>false
 | _=>true
inductive Res (α : Type) where
 | fail | ok (a:α) (σ:St) | exc (x:Xn) (σ:St)
noncomputable abbrev Mo (α : Type):=St→Res α
namespace Mo
noncomputable def pure {α : Type} (a:α):Mo α:=fun σ=>.ok a σ
noncomputable def bind {α β : Type} (m:Mo α) (f:α→Mo β):Mo β:=fun σ=>match m σ with
 | .fail=>.fail
 | .ok a σ'=>f a σ'
 | .exc x σ'=>.exc x σ'
noncomputable def fail {α : Type}:Mo α:=fun _=>.fail
noncomputable def opt {α : Type}:Option α→Mo α
 | some a=>pure a
 | none=>fail
noncomputable def get {α β : Type} (o:Option α) (f:α→Mo β):Mo β:=match o with
 | some a=>f a
 | none=>fail
noncomputable def jV {α β : Type} {p:α→Prop} (o:Option (Hz p)) (f:α→Mo β):Mo β:=match o with
 | some a=>f a.1
 | none=>fail
end Mo
noncomputable instance:Monad Mo:={ pure:=Mo.pure,bind:=Mo.bind }
inductive Fl where
 | next | brk | cont | ret (v:V)
noncomputable def EE:ah→Option P
 | .none=>some .none | .bool b=>some (.bool b) | .int i _=>some (.int i) | .str s _=>some (.str s)
 | .type n=>some (.ty n) | .builtin n=>some (.bi n) | .ref a=>some (.adr a) | _=>e8
noncomputable def ahW (v:V):Option {i:Int // v = .p (.int i)}:=match v with
 | .p (.int i)=>some ⟨i,rfl⟩
 | _=>none
noncomputable def aiB (v:V):Option {x:Str // v = .p (.str x)}:=match v with
 | .p (.str x)=>some ⟨x,rfl⟩
 | _=>none
noncomputable def aii (v:V):Option {k:Nat // v = .obj k}:=match v with
 | .obj k=>some ⟨k,rfl⟩
 | _=>none
noncomputable def plainS (v:V):Option {x:P // v = .p x}:=match v with
 | .p x=>some ⟨x,rfl⟩
 | _=>none
noncomputable def ah4 (v:V):Option {x:List P // v = .p (.lst x)}:=match v with
 | .p (.lst x)=>some ⟨x,rfl⟩
 | _=>none
noncomputable def intOf (v:V):Option Int:=(ahW v).map sO
noncomputable def strOf (v:V):Option Str:=(aiB v).map sO
noncomputable def objOf (v:V):Option Nat:=(aii v).map sO
noncomputable def mQ (v:V):Option P:=(plainS v).map sO
noncomputable def wG (v:V):Option (List P):=(ah4 v).map sO
noncomputable def xD:V→Option (List V)
 | .tup vs=>some vs
 | .p (.tup ps)=>some (ps.map V.p)
 | _=>none
section
variable (K:Frag)
noncomputable def OJ (o:Obj):Option kP:=match o.data with
 | .func f=>some f
 | _=>none
noncomputable def K9 (o:Obj):Option (List ah):=match o.data with
 | .seq vs _=>some vs.toList
 | _=>none
noncomputable def V2 (v:ah) (n:dD):Bool:=match v with
 | .type m=>m==n
 | _=>false
noncomputable def refOf (v:ah):Option Addr:=match v with
 | .ref a=>some a
 | _=>none
noncomputable def Wu (b:FuncBody):Option (List Stmt):=match b with
 | .stmts b=>some b
 | _=>none
noncomputable def fnAt (a:Addr):Option kP:=(K.lookup a).bind OJ
noncomputable def adG (a:Addr):Option (List ah):=(K.lookup a).bind K9
noncomputable def HO:List (Str × P):=[("len",.bi "len"),("isinstance",.bi "isinstance"),("chr",.bi "chr"),("ord",.bi "ord"),("sum",.bi "sum"),("min",.bi "min"),("max",.bi "max"),
 ("str",.ty "str"),("range",.ty "range"),("int",.ty "int"),("list",.ty "list"),("bool",.ty "bool"),("type",.ty "type")]
noncomputable def glob (x:Str):Option P:=match nsIn K cy x with
 | some (some v)=>EE v
 | some none=>HO.lookup x
 | none=>none
noncomputable def B7:List (Str × Sl)→Str→V→List (Str × Sl)
 | [],x,v=>[(x,.val v)]
 | (y,sl) :: r,x,v=>if y==x then (y,.val v) :: r else (y,sl) :: B7 r x v
noncomputable def vG:List (Str × V)→Str→V→List (Str × V)
 | [],x,v=>[(x,v)]
 | (y,u) :: r,x,v=>if y==x then (y,v) :: r else (y,u) :: vG r x v
noncomputable def Wt (k:Nat) (o:Ob):Mo Unit:=fun σ=>.ok () { σ with aP:=σ.aP.set k o }
noncomputable def KD (o:Ob):Mo Nat:=fun σ=>.ok σ.aP.length { σ with aP:=σ.aP++[o] }
noncomputable def abf (o:Ob):Option V:=match o with
 | .cell w=>w
 | _=>none
noncomputable def slV (σ:St) (l:Sl):Option V:=match l with
 | .val v=>some v
 | .cell j=>(σ.aP[j]?).bind abf
 | .unset=>none
noncomputable def Pw (σ:St) (x:Str) (k:d9):Option V:=if (k == .globalImplicit)=true then (glob K x).map V.p else (σ.loc.lookup x).bind (slV σ)
noncomputable def I9 (sc:bV) (x:Str):Mo V:=fun σ=>if x==("__debug__":Str)||x==("__classdict__":Str) then .fail else Mo.opt ((sc.names.lookup x).bind (Pw K σ x)) σ
noncomputable def o9 (x:Str) (v:V):Mo Unit:=fun σ=>match σ.loc.lookup x with
 | some (.cell j)=>match σ.aP[j]? with
  | some (.cell _)=>.ok () { σ with aP:=σ.aP.set j (.cell (some v)) }
  | _=>.fail
 | some _=>.ok () { σ with loc:=B7 σ.loc x v }
 | none=>.fail
noncomputable def Gg (a:Addr):Option (List ah):=(K.lookup a).bind fun o=>if V2 o.cls "list"=true then K9 o else none
noncomputable def tX:Ob→Option (List P)
 | .list vs=>some vs
 | _=>none
noncomputable def iE:V→Mo (List P)
 | .p (.lst vs)=>pure vs
 | .p (.adr a)=>Mo.opt ((Gg K a).bind fun vs=>vs.mapM EE)
 | .obj k=>fun σ=>Mo.opt ((σ.aP[k]?).bind tX) σ
 | _=>Mo.fail
noncomputable def sF (a b c:Int):Option (List P):=if -(2 ^ 60)≤a∧a≤2 ^ 60∧-(2 ^ 60)≤b∧b≤2 ^ 60 then if c=1 then some ((b4 (b - a).toNat).map fun (i:Nat)=>.int (a+i)) else if c = -1 then some ((b4 (a - b).toNat).map fun (i:Nat)=>.int (a - i)) else none else none
noncomputable def tG:V→Mo Bool
 | .p .none=>pure false
 | .p (.bool b)=>pure b
 | .p (.int i)=>pure (i != 0)
 | .p (.str s)=>if s.length≤aZ then pure ((s.length:Int) != 0) else Mo.fail
 | .p .dq=>pure false
 | v=>iE K v >>= fun vs=>if vs.length≤aZ then pure (!vs.isEmpty) else Mo.fail
noncomputable def Xl (σ:St):Nat→V→Option P
 | _,.p x=>some x
 | _,.obj k=>((σ.aP[k]?).bind tX).map P.lst
 | n+1,.tup vs=>(vs.mapM (Xl σ n)).map P.tup
 | _,_=>none
mutual
noncomputable def r5:P→Option g7
 | .none=>some .none
 | .bool b=>some (.bool b)
 | .int i=>some (.int i)
 | .str s=>some (.str s)
 | .lst vs=>(pW vs).map PyData.list
 | .tup vs=>(pW vs).map PyData.tuple
 | _=>none
noncomputable def pW:List P→Option (List g7)
 | []=>some []
 | v :: vs=>(r5 v).bind fun d=>(pW vs).map (d :: ·)
end
noncomputable def tE (σ:St) (v:V):Option g7:=(Xl σ 1 v).bind r5
noncomputable def VJ (a b:V):Mo Bool:=fun σ=>Mo.get (tE σ a) (fun x=>Mo.get (tE σ b) fun y=>if g9 x=true∧g9 y=true then pure (x.eqv y) else Mo.fail) σ
noncomputable def adH:g7→Option (List g7)
 | .list ys=>some ys
 | .tuple ys=>some ys
 | _=>none
noncomputable def RY (a l:V):Mo Bool:=fun σ=>Mo.get (tE σ a) (fun x=>Mo.get (tE σ l) fun d=>Mo.get (adH d) fun ys=>if g9 x=true∧g9 d=true then pure (ys.any fun y=>y.eqv x) else Mo.fail) σ
noncomputable def isV (a b:V):Option Bool:=match b with
 | .p .none=>(match a with
  | .p .none=>some true
  | .p (.str _)=>some false
  | .p (.int _)=>some false
  | .p .mt=>some false
  | .obj _=>some false
  | _=>none)
 | .p (.ty y)=>(match a with
  | .p (.ty x)=>some (x==y)
  | _=>none)
 | _=>none
noncomputable def sq (a l:V):Mo Bool:=match strOf a,strOf l with
 | some x,some y=>pure (!(ir y x 0 y.length 1).isEmpty)
 | _,_=>RY a l
noncomputable def VF (m:Mo Bool):Mo V:=m >>= fun r=>pure (.p (.bool r))
noncomputable def rF (op:yC) (a b:V):Mo V:=match op with
 | .Eq=>VF (VJ a b)
 | .NotEq=>VJ a b >>= fun r=>pure (.p (.bool !r))
 | .Is=>Mo.get (isV a b) fun r=>pure (.p (.bool r))
 | .IsNot=>Mo.get (isV a b) fun r=>pure (.p (.bool !r))
 | .In=>VF (sq a b)
 | .NotIn=>sq a b >>= fun r=>pure (.p (.bool !r))
 | .Lt=>Mo.get (intOf a) fun x=>Mo.get (intOf b) fun y=>pure (.p (.bool (x<y)))
 | .LtE=>Mo.get (intOf a) fun x=>Mo.get (intOf b) fun y=>pure (.p (.bool (x≤y)))
 | .Gt=>Mo.get (intOf a) fun x=>Mo.get (intOf b) fun y=>pure (.p (.bool (y<x)))
 | .GtE=>Mo.get (intOf a) fun x=>Mo.get (intOf b) fun y=>pure (.p (.bool (y≤x)))
noncomputable def arith (op:wZ) (x y:Int):Mo V:=match op with
 | .Sub=>pure (.p (.int (x - y)))
 | .Mult=>if x.natAbs<2 ^ 60 then pure (.p (.int (x*y))) else Mo.fail
 | .Mod=>if 0<y then pure (.p (.int (x.fmod y))) else Mo.fail
 | .FloorDiv=>if 0<y∧y<2 ^ 29 then pure (.p (.int (x.fdiv y))) else Mo.fail
 | .Pow=>if 0≤y∧y≤64∧0≤x∧x<2 ^ 16 then pure (.p (.int (x ^ y.toNat))) else Mo.fail
 | _=>Mo.fail
noncomputable def abc (a b:V):Mo V:=iE K a >>= fun x=>iE K b >>= fun y=>if x.length+y.length≤aZ then pure (.p (.lst (x++y))) else Mo.fail
noncomputable def N7 (a b:V):Mo V:=match intOf a with
 | some x=>Mo.get (intOf b) fun y=>pure (.p (.int (x+y)))
 | none=>match strOf a with
  | some x=>Mo.get (strOf b) fun y=>if x.length+y.length≤aZ then pure (.p (.str (x++y))) else Mo.fail
  | none=>abc K a b
noncomputable def isAdd:wZ→Bool
 | .Add=>true
 | _=>false
noncomputable def xN (op:wZ) (a b:V):Mo V:=if isAdd op=true then N7 K a b else Mo.get (intOf a) fun x=>Mo.get (intOf b) fun y=>arith op x y
noncomputable def idx (k:Int) (n:Nat):Option Nat:=jz k n
noncomputable def mY (k:Int):Bool:=decide (-(2 ^ 62)≤k∧k<2 ^ 62)
noncomputable def K0 {α : Type}:Mo α:=fun σ=>match σ.dw with
 | .no=>.exc .index σ
 | .may=>.exc .qE σ
 | .yes=>.fail
noncomputable def ahe (vs:List V) (k:Int):Mo V:=Mo.get (idx k vs.length) fun j=>Mo.get vs[j]? fun v=>pure v
noncomputable def Xp (a:V) (k:Int):Mo V:=iE K a >>= fun vs=>match idx k vs.length with
 | some j=>Mo.get vs[j]? fun v=>pure (.p v)
 | none=>K0
noncomputable def FQ (a:V) (k:Int):Mo V:=match strOf a with
 | some s=>Mo.get ((idx k s.length).bind (s.cps[·]?)) fun c=>pure (.p (.str ⟨#[c]⟩))
 | none=>match xD a with
  | some vs=>ahe vs k
  | none=>Xp K a k
noncomputable def jV (a i:V):Mo V:=Mo.get (intOf i) fun k=>if mY k then FQ K a k else Mo.fail
noncomputable def qa (xs:List P) (lo hi st:Option Int):List P:=(ru (fq lo hi st xs.length).1 (fq lo hi st xs.length).2.1 (fq lo hi st xs.length).2.2).filterMap (xs[·]?)
noncomputable def uG:V→Option (Option Int)
 | .p .none=>some none
 | .p (.int k)=>some (some k)
 | _=>none
noncomputable def GJ (a l u t:V):Mo V:=Mo.get (uG l) fun lo=>Mo.get (uG u) fun hi=>Mo.get (uG t) fun st=>match strOf a with
 | some s=>if st=none∧s.length≤aZ then pure (.p (.str (jK s lo hi))) else Mo.fail
 | none=>iE K a >>= fun xs=>if st≠some 0∧xs.length≤aZ then pure (.p (.lst (qa xs lo hi st))) else Mo.fail
noncomputable def C9 {α β : Type} (f:α→Option β):List α→Option (List β)
 | []=>some []
 | a :: r=>(f a).bind fun b=>(C9 f r).map (b :: ·)
noncomputable def QX:P→Option Str
 | .str t=>some t
 | _=>none
noncomputable def Mk:P→Option Int
 | .int i=>some i
 | _=>none
noncomputable def strsOf:List P→Option (List Str):=C9 QX
noncomputable def Z5 (tb:List P):List Nat→Option (List Str):=C9 fun ch=>(tb[ch]?).bind QX
noncomputable def QS (m:Str):Option dD:=([("lstrip","str.lstrip"),("rstrip","str.rstrip"),("splitlines","str.splitlines"),("endswith","str.endswith"),("count","str.count"),("translate","str.translate"),("join","str.join")]:List (Str × dD)).lookup m
noncomputable def QT (s:Str) (id:dD):Mo V:=
 if id="str.lstrip" then (if s.length≤2 ^ 20 then pure (.p (.str (if t8 bz true false s then s else l9 bz true false s))) else Mo.fail)
 else if id="str.rstrip" then (if s.length≤2 ^ 20 then pure (.p (.str (if t8 bz false true s then s else l9 bz false true s))) else Mo.fail)
 else if id="str.splitlines" then (if s.length≤2 ^ 20∧(B0 s).length≤2 ^ 20 then pure (.p (.lst ((uU s).map P.str))) else Mo.fail)
 else Mo.fail
noncomputable def U3 (s:Str) (a:V):Mo V:=iE K a >>= fun tb=>Mo.get (Z5 tb s.cps.toList) fun ts=>if s.length≤2 ^ 16∧tb.length≤2 ^ 16∧(ts.all fun t=>decide (t.length≤16))=true then pure (.p (.str ⟨(ts.flatMap fun t=>t.cps.toList).toArray⟩)) else Mo.fail
noncomputable def BX (s:Str) (vs:List P):Mo V:=Mo.get (strsOf vs) fun ts=>if nJ (ts.toArray.foldl (· + ·.length+s.length) 0)=false∧(BK s ts).length≤aZ then pure (.p (.str (BK s ts))) else Mo.fail
noncomputable def QV (s:Str) (id:dD) (a:V):Mo V:=
 if id="str.endswith" then Mo.get (strOf a) fun x=>pure (.p (.bool (0+x.length≤s.length&&subAt s x (s.length - x.length))))
 else if id="str.count" then Mo.get (strOf a) fun x=>pure (.p (.int (ir s x 0 s.length (s.length+1)).length))
 else if id="str.translate" then U3 K s a
 else if id="str.join" then iE K a >>= BX s
 else Mo.fail
noncomputable def D7 (s:Str) (id:dD) (args:List V):Mo V:=match args with
 | []=>QT s id
 | [a]=>QV K s id a
 | _=>Mo.fail
noncomputable def Gm (vs:List P):Option Int:=(C9 Mk vs).bind List.min?
noncomputable def IS (vs:List P):Option Int:=(C9 Mk vs).bind List.max?
noncomputable def D8 (vs:List P):Option Int:=(C9 Mk vs).map List.sum
noncomputable def Uq {α : Type} (a:α):Mo α:=fun σ=>if σ.dw = .no then .ok a σ else .fail
noncomputable def Ye (a:V):Mo V:=match strOf a with
 | some s=>if s.length≤aZ then pure (.p (.int s.length)) else Mo.fail
 | none=>iE K a >>= fun vs=>if vs.length≤aZ then pure (.p (.int vs.length)) else Mo.fail
noncomputable def abg (a:V):Mo V:=Mo.get (intOf a) fun i=>if 0≤i∧i<256 then pure (.p (.str ⟨#[i.toNat]⟩)) else Mo.fail
noncomputable def adx (a:V):Mo V:=Mo.get (strOf a) fun s=>if s.length=1 then pure (.p (.int (s.cps.getD 0 0))) else Mo.fail
noncomputable def yX (f:List P→Option Int) (a:V):Mo V:=iE K a >>= fun vs=>Mo.get (f vs) fun i=>Uq (.p (.int i))
noncomputable def HQ (id:dD) (a:V):Mo V:=
 if id="len" then Ye K a
 else if id="chr" then abg a
 else if id="ord" then adx a
 else if id="sum" then yX K D8 a
 else if id="min" then yX K Gm a
 else if id="max" then yX K IS a
 else Mo.fail
noncomputable def tyName (a:V):Option dD:=((intOf a).map fun _=>"int").or ((strOf a).map fun _=>"str")
noncomputable def DE:V→Bool
 | .p (.ty n)=>n=="str"
 | _=>false
noncomputable def acu (id:dD) (a b:V):Mo V:=if id="isinstance"∧DE b=true then Mo.get (strOf a) fun _=>pure (.p (.bool true)) else Mo.fail
noncomputable def acr (a:V):Mo V:=match a with
 | .p (.int i)=>pure (.p (.int i))
 | .p (.bool b)=>pure (.p (.int (if b then 1 else 0)))
 | _=>Mo.fail
noncomputable def Rj (id:dD) (a:V):Mo V:=
 if id="type" then Mo.get (tyName a) fun n=>pure (.p (.ty n))
 else if id="int" then acr a
 else if id="range" then Mo.get (intOf a) fun b=>pure (.p (.rj 0 b 1))
 else Mo.fail
noncomputable def XA (s:Str):Option Int:=if s="3D" then some 61 else if s="E9" then some 233 else none
noncomputable def Rm (id:dD) (a b:V):Mo V:=
 if id="int" then Mo.get (strOf a) fun s=>Mo.get (intOf b) fun k=>if k=16 then Mo.get (XA s) fun i=>pure (.p (.int i)) else Mo.fail
 else if id="range" then Mo.get (intOf a) fun x=>Mo.get (intOf b) fun y=>pure (.p (.rj x y 1))
 else Mo.fail
noncomputable def Qs (a b d:V):Mo V:=Mo.get (intOf a) fun x=>Mo.get (intOf b) fun y=>Mo.get (intOf d) fun z=>if z = -1∧-(2 ^ 29)≤y - x∧y - x≤2 ^ 29 then pure (.p (.rj x y z)) else Mo.fail
noncomputable def Of (id:dD) (args:List V):Mo V:=match args with
 | [a]=>HQ K id a
 | [a,b]=>acu id a b
 | _=>Mo.fail
noncomputable def Og (id:dD) (args:List V):Mo V:=match args with
 | []=>if id="collections.deque" then pure (.p .dq) else Mo.fail
 | [a]=>Rj id a
 | [a,b]=>Rm id a b
 | [a,b,d]=>if id="range" then Qs a b d else Mo.fail
 | _=>Mo.fail
noncomputable def vq (f:P) (args:List V):Mo V:=match f with
 | .bi id=>Of K id args
 | .ty id=>Og id args
 | _=>Mo.fail
noncomputable def safe (c:Nat):Bool:=c<256&&((48≤c&&c≤57)||(65≤c&&c≤90)||(97≤c&&c≤122)||[95,64,37,43,61,58,44,46,47,45].contains c)
mutual
noncomputable def V.lt (n:Nat):V→Bool
 | .p _=>true
 | .obj k=>decide (k<n)
 | .jq k _=>decide (k<n)
 | .tup vs=>Ku n vs
noncomputable def Ku (n:Nat):List V→Bool
 | []=>true
 | v :: vs=>V.lt n v&&Ku n vs
end
noncomputable def Ob.lt (n:Nat):Ob→Bool
 | .list _=>true
 | .cell none=>true
 | .cell (some v)=>v.lt n
 | .inst _ d=>decide (d<n)
 | .attrs kv=>kv.all fun x=>x.2.lt n
 | .gone=>decide (0<n)
noncomputable def fH:List (Str × d9)→List (Str × V)→List Ob→List (Str × Sl) × List Ob
 | [],_,aP=>([],aP)
 | (x,.local) :: r,binds,aP=>((x,match binds.lookup x with | some v=>.val v | none=>.unset) :: (fH r binds aP).1,(fH r binds aP).2)
 | (x,.cell) :: r,binds,aP=>((x,.cell aP.length) :: (fH r binds (aP++[.cell (binds.lookup x)])).1,(fH r binds (aP++[.cell (binds.lookup x)])).2)
 | _ :: r,binds,aP=>fH r binds aP
noncomputable def pU (normal:List Str):List (Str × V)→List (Str × V)→Option (List (Str × V))
 | slots,[]=>some slots
 | slots,(k,v) :: r=>if (normal.contains k&&(slots.lookup k).isNone)=true then pU normal (slots++[(k,v)]) r else none
noncomputable def nY:List (Str × V)→List (Str × V)→List (Str × V)
 | slots,[]=>slots
 | slots,(n,d) :: r=>nY (if (slots.lookup n).isNone=true then slots++[(n,d)] else slots) r
noncomputable def VG:ah→Option (List ah)
 | .ref a=>adG K a
 | .none=>some []
 | _=>none
noncomputable def iJ:List Str→Bool
 | []=>true
 | x :: r => !r.contains x&&iJ r
noncomputable def bindArgs (fd:kP) (pos:List V) (kw:List (Str × V)):Option (List (Str × V)):=
 if (fd.params.vararg.isNone&&fd.params.kwarg.isNone&&fd.params.kwonlyargs.isEmpty&&decide (pos.length≤(fd.params.posonlyargs.map (·.arg)++fd.params.args.map (·.arg)).length)&&iJ (fd.params.posonlyargs.map (·.arg)++fd.params.args.map (·.arg))&&(fd.params.posonlyargs.map (·.arg)++fd.params.args.map (·.arg)).all fun n=>fd.scope.names.lookup n==some .local||fd.scope.names.lookup n==some .cell)=true then
  (VG K fd.defaults).bind fun dfl=>(dfl.mapM EE).bind fun ps=>(pU (fd.params.args.map (·.arg)) ((fd.params.posonlyargs.map (·.arg)++fd.params.args.map (·.arg)).zip pos) kw).bind fun slots =>
   let positional:=fd.params.posonlyargs.map (·.arg)++fd.params.args.map (·.arg)
   let ds:=ps.drop (ps.length - positional.length)
   let first:=positional.length - ds.length
   if ((positional.take first).filter fun n=>(slots.lookup n).isNone).isEmpty=true then
    let ZY:=nY slots ((positional.drop first).zip (ds.map V.p))
    some (positional.filterMap fun n=>(ZY.lookup n).map (n,·))
   else none
 else none
noncomputable def defAt (a:Addr):Option (kP × List Stmt):=(fnAt K a).bind fun fd=>(Wu fd.body).bind fun body=>if (fd.closure.isEmpty&&fd.globals==cy&&fd.builtins==fX&&codeIn K fd.code fd.qualname && !fd.scope.isCoroutine && !fd.scope.isGenerator&&fd.scope.kind == .function&&iJ (fd.scope.names.map (·.1))&&((fd.scope.names.lookup ("split_command":Str)).isNone||fd.code == .ref 809))=true then some (fd,body) else none
structure Ev where
 E:bV→Expr→Mo V
 T:bV→Expr→Mo Bool
 B:bV→List Stmt→Mo Fl
 C:Addr→List V→List (Str × V)→Mo V
 N:Addr→V→Mo (Option V)
noncomputable def j0 (x:Str) (b:Mo Fl):List P→Mo Fl
 | []=>fun σ=>if σ.dw = .no then .ok .next σ else .fail
 | v :: vs=>o9 x (.p v) >>= fun _=>b >>= fun fl=>match fl with
  | .next=>j0 x b vs
  | .cont=>j0 x b vs
  | .brk=>pure .next
  | .ret r=>pure (.ret r)
noncomputable def ux:V→Option (List P)
 | .p (.lst vs)=>some vs
 | .p (.rj a b c)=>sF a b c
 | _=>none
noncomputable def lS (t:Mo Bool) (b:Mo Fl):Nat→Mo Fl
 | 0=>Mo.fail
 | n+1=>t >>= fun d=>if d then b >>= fun fl=>match fl with
   | .next=>lS t b n
   | .cont=>lS t b n
   | .brk=>pure .next
   | .ret r=>pure (.ret r)
  else pure .next
noncomputable def Ro:List V→Option (List P)
 | []=>some []
 | .p x :: r=>match Ro r with
  | some ps=>some (x :: ps)
  | none=>none
 | _=>none
noncomputable def isStar (e:Expr):Bool:=e.ctorIdx==22
noncomputable def jD (ev:Expr→Mo V):List Expr→Mo (List V)
 | []=>pure []
 | e :: es=>if isStar e=false then ev e >>= fun v=>jD ev es >>= fun vs=>pure (v :: vs) else Mo.fail
noncomputable def vj (ev:Expr→Mo Bool):List Expr→Mo Bool
 | []=>pure true
 | e :: es=>ev e >>= fun t=>if t then vj ev es else pure false
noncomputable def jf (nx:Nat→St→Option (Option P)) (x:Str) (ifs:Mo Bool) (elt:Mo V):Nat→Nat→Mo (List P)
 | 0,_=>Mo.fail
 | n+1,i=>fun σ=>match nx i σ with
  | some (some v)=>(o9 x (.p v) >>= fun _=>ifs >>= fun t=>if t then elt >>= fun u=>match u with
    | .p p=>if i≤2 ^ 20 then jf nx x ifs elt n (i+1) >>= fun ps=>pure (p :: ps) else Mo.fail
    | _=>Mo.fail
   else jf nx x ifs elt n (i+1)) σ
  | some none=>if σ.dw = .no then .ok [] σ else .fail
  | none=>.fail
noncomputable def srcOf (u:V) (σ:St):Option ((Nat→St→Option (Option P)) × Nat):=match u with
 | .p (.lst vs)=>some (fun i _=>some vs[i]?,vs.length)
 | .p (.rj a b c)=>(sF a b c).map fun vs=>(fun i _=>some vs[i]?,vs.length)
 | .p (.str s)=>some (fun i _=>some (s.cps[i]?.map fun c=>.str ⟨#[c]⟩),s.cps.size)
 | .obj k=>match σ.aP[k]? with
  | some (.list vs)=>some (fun i σ=>match σ.aP[k]? with
   | some (.list vs)=>some vs[i]?
   | _=>none,vs.length)
  | _=>none
 | _=>none
noncomputable def dX (out:List (Str × Sl)):List (Str × d9)→Option (List (Str × Sl))
 | []=>some []
 | (x,.local) :: r=>(dX out r).map ((x,.unset) :: ·)
 | (x,.free) :: r=>match out.lookup x with
  | some (.cell j)=>(dX out r).map ((x,.cell j) :: ·)
  | _=>none
 | _ :: r=>dX out r
noncomputable def mz (e:Expr):Bool:=e.ctorIdx==7
noncomputable def oj (cK:bV) (x:Str):Bool:=cK.kind == .function&&iJ (cK.names.map (·.1))&&cK.names.lookup x==some .local&&(cK.names.all fun y=>y.2 != .cell)&&(cK.names.lookup ("split_command":Str)).isNone
noncomputable def nI (sc cK:bV):bV:={ cK with names:=cK.names.map fun (n,k)=>if (k == .free&&sc.kind == .function&&sc.names.lookup n==some .cell) then (n,.cell) else (n,k) }
noncomputable def nameOf (e:Expr):Option {x:Str // ∃ p,e = .Name x p}:=if h:e.ctorIdx=23 then
  Nl (motive_1:=fun e=>Option {x:Str // ∃ p,e = .Name x p}) e h fun x p=>some ⟨x,p,rfl⟩
 else none
noncomputable def nameP (e:Expr):Option {x:Str × Pos // e = .Name x.1 x.2}:=if h:e.ctorIdx=23 then
  Nl (motive_1:=fun e=>Option {x:Str × Pos // e = .Name x.1 x.2}) e h fun x p=>some ⟨(x,p),rfl⟩
 else none
noncomputable def DU:(gens:List gx)→Option {g:Str × Expr × List Expr // ∃ px,gens=[⟨.Name g.1 px,g.2.1,g.2.2,0⟩]}
 | [⟨t,it,ifs,0⟩]=>match nameOf t with
  | some ⟨x,h⟩=>some ⟨(x,it,ifs),h.elim fun p h=>⟨p,h ▸ rfl⟩⟩
  | none=>none
 | _=>none
noncomputable def JQ (loc:List (Str × Sl)) (hn:Hn) (r:Res (List P)):Res (List P):=match r with
 | .ok ps σ'=>.ok ps ⟨loc,σ'.aP,hn⟩
 | _=>.fail
noncomputable def Yh (σ:St) (ns:List (Str × d9)) (f:List (Str × Sl)→Res (List P)):Res (List P):=match dX σ.loc ns with
 | some loc=>f loc
 | none=>.fail
noncomputable def r7 (cK:bV) (x:Str) (ifs:Mo Bool) (elt:Mo V) (u:V):Mo (List P):=fun σ=>match srcOf u σ with
 | some p=>Yh σ cK.names fun loc=>JQ σ.loc σ.dw (jf p.1 x ifs elt (p.2+1) 0 ⟨loc,σ.aP,σ.dw⟩)
 | none=>.fail
noncomputable def yR (ev:Ev) (sc:bV) (elt:Expr) (cK:bV) (x:Str) (iter:Expr) (ifs:List Expr):Mo P:=fun σ=>if mz iter=false∧oj cK x=true∧(dX σ.loc cK.names).isSome=true then (ev.E sc iter >>= fun u=>r7 cK x (vj (ev.T (nI sc cK)) ifs) (ev.E (nI sc cK) elt) u >>= fun ps=>pure (.lst ps)) σ else .fail
noncomputable def comp (ev:Ev) (sc:bV) (elt:Expr) (gens:List gx) (cK:bV):Mo P:=Mo.jV (DU gens) fun g=>yR ev sc elt cK g.1 g.2.1 g.2.2
noncomputable def uz (σ:St):Bool:=match σ.aP with
 | .gone :: _=>true
 | _=>false
noncomputable def BJ (sc cK:bV) (x:Str):Bool:=oj cK x&&cK.names.lookup (".0":Str)==some .local && !cK.isCoroutine&&(sc.names.lookup ("split_command":Str)).isSome
noncomputable def pF (σ:St) (u:V):Bool:=match srcOf u σ with
 | some p=>decide (σ.dw = .no)&&uz σ&&decide (p.2≤2 ^ 20)
 | none=>false
noncomputable def Ii (ev:Ev) (sc:bV) (elt:Expr) (cK:bV) (x y:Str) (py:Pos):Mo (List P):=fun σ=>if BJ sc cK x=true∧(dX σ.loc cK.names).isSome=true then (ev.E sc (.Name y py) >>= fun u=>fun σ=>if pF σ u=true then r7 cK x (fun σ=>.ok true σ) (ev.E cK elt) u σ else .fail) σ else .fail
noncomputable def Tg (ev:Ev) (sc:bV) (elt:Expr) (gens:List gx) (cK:bV):Mo (List P):=match DU gens with
 | some ⟨(x,it,[]),_⟩=>match nameP it with
  | some ⟨(y,py),_⟩=>Ii ev sc elt cK x y py
  | none=>Mo.fail
 | _=>Mo.fail
noncomputable def abq (s:Str) (g:Mo (List P)):Mo V:=g >>= BX s
noncomputable def An:BoolOp→Bool→Bool
 | .And,b => !b
 | .Or,b=>b
noncomputable def Bt (ev:Expr→Mo V) (op:BoolOp):List Expr→Mo V
 | []=>Mo.fail
 | [e]=>ev e
 | e :: es=>ev e >>= fun v=>tG K v >>= fun t=>if An op t then pure v else Bt ev op es
noncomputable def xB (ev:Expr→Mo Bool) (op:BoolOp):List Expr→Mo Bool
 | []=>pure (An op false)
 | e :: es=>ev e >>= fun t=>if An op t then pure t else xB ev op es
noncomputable def setOk (C:Addr) (a:Str):Bool:=jO K (.ref C) "__setattr__"==some (some (.builtin "object.__setattr__"))&&plainOver K C&&takerIn K C a==some none&&Eu K C
noncomputable def vN (C:Addr) (a:Str):Bool:=CI K C a&&Eu K C&&(match jO K (.ref C) a with
 | some attr=>noGet K attr
 | none=>false)
noncomputable def uJ (C:Addr) (a:Str):Option Addr:=(jO K (.ref C) a).bind fun q=>(q.bind refOf).bind fun p=>if (CI K C a&&Eu K C&&specialIn K (.ref p) "__get__"==some (some (.builtin "property.__get__"))&&takesIn K (.ref p)==some true)=true then (recIn K p "property").bind fun l=>l.head?.bind refOf else none
noncomputable def uD (C:Addr) (a:Str):Option Addr:=if CI K C a=true then match jO K (.ref C) a with
 | some (some (.ref f))=>if isFn K (.ref f)=true∧fnIn K f=true then some f else none
 | _=>none else none
noncomputable def vE:V→Bool
 | .p (.bi _)=>true
 | _=>false
noncomputable def vo (ev:Ev) (o:V) (a:Str):Mo V:=match o with
 | .obj k=>fun σ=>match σ.aP[k]? with
  | some (.inst C d)=>match uJ K C a with
   | some f=>(ev.C f [o] [] >>= fun u=>if vE u=false then pure u else Mo.fail) σ
   | none=>match σ.aP[d]? with
    | some (.attrs kv)=>match kv.lookup a with
     | some v=>if vN K C a=true∧vE v=false then .ok v σ else .fail
     | none=>.fail
    | _=>.fail
  | some (.list _)=>if a="append" then .ok (.jq k a) σ else .fail
  | _=>.fail
 | _=>Mo.fail
noncomputable def Qd (k:Nat):Mo (List P):=fun σ=>match σ.aP[k]? with
 | some (.list vs)=>.ok vs σ
 | _=>.fail
noncomputable def LA (k:Nat) (vs:List P) (x:P):Mo V:=if vs.length≤2 ^ 20 then Wt k (.list (vs++[x])) >>= fun _=>pure (.p .none) else Mo.fail
noncomputable def OC (k:Nat) (vs xs:List P):Mo V:=if vs.length+xs.length≤2 ^ 20 then Wt k (.list (vs++xs)) >>= fun _=>pure (.p .none) else Mo.fail
noncomputable def Ga (k:Nat) (vs:List P) (m:Str) (args:List V):Mo V:=match args with
 | [a]=>if m="append" then Mo.get (mQ a) (LA k vs) else if m="extend" then Mo.get (wG a) (OC k vs) else Mo.fail
 | _=>Mo.fail
inductive MK where
 | txt (s:Str) (id:dD) | app (k:Nat) (m:Str) | fn (f:Addr) (o:V)
noncomputable def PW (C:Addr) (d k:Nat) (m:Str) (σ:St):Option MK:=(uD K C m).bind fun f=>match σ.aP[d]? with
 | some (.attrs kv)=>if (kv.lookup m).isNone=true then some (.fn f (.obj k)) else none
 | _=>none
noncomputable def V7 (k:Nat) (m:Str) (σ:St):Option MK:=match σ.aP[k]? with
 | some (.list _)=>if m="append"∨m="extend" then some (.app k m) else none
 | some (.inst C d)=>PW K C d k m σ
 | _=>none
noncomputable def z5 (o:V) (m:Str) (σ:St):Option MK:=match strOf o with
 | some s=>(QS m).map (.txt s)
 | none=>(objOf o).bind fun k=>V7 K k m σ
noncomputable def vJ (ev:Ev):MK→List V→Mo V
 | .txt s id,args=>D7 K s id args
 | .app k m,args=>Qd k >>= fun vs=>Ga k vs m args
 | .fn f o,args=>ev.C f (o :: args) []
noncomputable def Gl (ev:Ev) (o:V) (m:Str) (args:Mo (List V)):Mo V:=fun σ=>match z5 K o m σ with
 | some mk=>(args >>= fun vs=>vJ K ev mk vs) σ
 | none=>.fail
noncomputable def oz (k:Nat) (C:Addr) (σ:St):Bool:=match σ.aP[k]? with
 | some (.inst C' _)=>C'==C
 | _=>false
noncomputable def m7 {α : Type} (m:Mo α):Mo α:=fun σ=>match m ⟨[],σ.aP,σ.dw⟩ with
 | .ok a σ'=>.ok a ⟨[],σ'.aP,σ'.dw⟩
 | .exc x σ'=>.exc x σ'
 | .fail=>.fail
noncomputable def sY {α : Type} (m:Mo α):Mo α:=fun σ=>match m ⟨[],σ.aP,σ.dw⟩ with
 | .ok a σ'=>.ok a ⟨σ.loc,σ'.aP,σ.dw⟩
 | _=>.fail
noncomputable def kT (SX:St→Bool) (nx:Mo (Option V)):Nat→Mo (List P)
 | 0=>Mo.fail
 | n+1=>fun σ=>if SX σ=true then (m7 nx >>= fun o=>match o with
  | some (.p x)=>kT SX nx n >>= fun xs=>pure (x :: xs)
  | none=>pure []
  | _=>Mo.fail) σ else .fail
noncomputable def uB (C:Addr):Option (Addr × Addr):=match uD K C "__iter__",uD K C "__next__" with
 | some fi,some fn=>if (jO K (.ref C) "__len__"==some none&&jO K (.ref C) "__length_hint__"==some none)=true then some (fi,fn) else none
 | _,_=>none
noncomputable def Qi:List V→Bool
 | [u]=>(strOf u).isSome
 | _=>false
noncomputable def l5:Nat:=4096
noncomputable def Un (C:Addr):Mo V:=KD (.attrs []) >>= fun d=>KD (.inst C d) >>= fun k=>pure (.obj k)
noncomputable def zo (C:Addr):Option Addr:=match jO K (.ref C) "__init__" with
 | some (some (.ref f))=>if isFn K (.ref f)=true∧Sa K (.ref C)=true then some f else none
 | _=>none
noncomputable def K8 (args:List V) (kw:List (Str × V)):Mo V:=match args with
 | [a]=>Mo.get (strOf a) fun s=>if kw.isEmpty=true∧s.length≤2 ^ 20 then (if s.cps.toList.all safe=true then pure (.p .none) else pure (.p .mt)) else Mo.fail
 | _=>Mo.fail
noncomputable def D3 (o:V):V→Mo V
 | .p .none=>pure o
 | _=>Mo.fail
noncomputable def PS (ev:Ev) (a g:Addr) (args:List V) (kw:List (Str × V)):Mo V:=Un a >>= fun o=>ev.C g (o :: args) kw >>= D3 o
noncomputable def E3 (ev:Ev) (a:Addr) (args:List V) (kw:List (Str × V)):Mo V:=if a=811 then K8 args kw
  else match defAt K a with
  | some _=>ev.C a args kw
  | none=>match zo K a with
   | some g=>if makesIn K a=true∨(a=656∧Qi args=true∧kw.isEmpty=true) then PS ev a g args kw else Mo.fail
   | none=>Mo.fail
noncomputable def yt (ev:Ev) (k:Nat) (C fi fn:Addr):Mo V:=sY (m7 (ev.C fi [.obj k] []) >>= fun it=>match it with
     | .obj k'=>if k'=k then kT (oz k C) (ev.N fn (.obj k)) l5 >>= fun vs=>pure (.p (.lst vs)) else Mo.fail
     | _=>Mo.fail)
noncomputable def yr (ev:Ev) (k:Nat):Mo V:=fun σ=>match σ.aP[k]? with
   | some (.list vs)=>if vs.length≤2 ^ 20 then .ok (.p (.lst vs)) σ else .fail
   | some (.inst C _)=>match uB K C with
    | some (fi,fn)=>yt ev k C fi fn σ
    | none=>.fail
   | _=>.fail
noncomputable def PF:P→Mo V
 | .lst vs=>if vs.length≤2 ^ 20 then pure (.p (.lst vs)) else Mo.fail
 | .rj a b c=>Mo.get (sF a b c) fun vs=>if vs.length≤2 ^ 20 then Uq (.p (.lst vs)) else Mo.fail
 | _=>Mo.fail
noncomputable def acR (ev:Ev) (args:List V):Mo V:=match args with
 | [a]=>match mQ a with
  | some p=>PF p
  | none=>Mo.get (objOf a) fun k=>yr K ev k
 | _=>Mo.fail
noncomputable def E6 (k:Nat) (m:Str) (args:List V) (kw:List (Str × V)):Mo V:=if m="append"∧kw.isEmpty=true then Qd k >>= fun vs=>Ga k vs "append" args else Mo.fail
noncomputable def zw:P→Bool
 | .ty n=>n=="list"
 | _=>false
noncomputable def VD (p:P):Option Addr:=match p with
 | .adr a=>some a
 | _=>none
noncomputable def Ol (ev:Ev) (p:P) (args:List V) (kw:List (Str × V)):Mo V:=match VD p with
 | some a=>E3 K ev a args kw
 | none=>if kw.isEmpty=true then (if zw p=true then acR K ev args else vq K p args) else Mo.fail
noncomputable def jL (ev:Ev) (f:V) (args:List V) (kw:List (Str × V)):Mo V:=match f with
 | .jq k m=>E6 k m args kw
 | .p p=>Ol K ev p args kw
 | _=>Mo.fail
noncomputable def ZT (a y z:Str) (ov:V):Mo V:=Mo.get (strOf ov) fun x=>if x.length≤2 ^ 10∧z.length≤2 ^ 4∧a.length≤2 ^ 10∧y.length≤2 ^ 4∧(y.length==0)=false then (if (ir x y 0 x.length (x.length+1)).isEmpty=true then pure (.p (.str (a++x))) else if (BK z (CH x (ir x y 0 x.length (x.length+1)) y.length)).length≤2 ^ 20 then pure (.p (.str (a++BK z (CH x (ir x y 0 x.length (x.length+1)) y.length)))) else Mo.fail) else Mo.fail
noncomputable def Hj (ev:Expr→Mo V):Option Expr→Mo V
 | none=>pure (.p .none)
 | some e=>ev e
noncomputable def acY (a:V):Mo V:=Mo.get (intOf a) fun i=>pure (.p (.int (-i)))
noncomputable def noStar (es:List Expr):Bool:=es.all fun e => !isStar e
noncomputable def nH:Expr→Bool
 | .Call (.Name id _) [] [] _=>id != ("super":Str)
 | _=>true
noncomputable def kwOk:List uP→Bool
 | []=>true
 | [⟨some _,_,_⟩]=>true
 | _=>false
noncomputable def Oq:Const→Mo V
 | .none=>pure (.p .none)
 | .bool b=>pure (.p (.bool b))
 | .int i=>pure (.p (.int i))
 | .str s=>pure (.p (.str s))
 | _=>Mo.fail
noncomputable def Jk (e:Expr):Option {a:Str // ∃ k p,e = .Constant (.str a) k p}:=if h:e.ctorIdx=19 then
  Expr.Constant.elim (motive_1:=fun e=>Option {a:Str // ∃ k p,e = .Constant (.str a) k p}) e h fun c k p=>if hc:c.ctorIdx=5 then
   Const.str.elim (motive:=fun c=>Option {a:Str // ∃ k' p',EL c k p = .Constant (.str a) k' p'}) c hc fun a=>some ⟨a,k,p,rfl⟩ else none
 else none
noncomputable def qu (e:Expr):Option {x:Expr × Str × Pos // e = .Attribute x.1 x.2.1 x.2.2}:=if h:e.ctorIdx=20 then
  Expr.Attribute.elim (motive_1:=fun e=>Option {x:Expr × Str × Pos // e = .Attribute x.1 x.2.1 x.2.2}) e h fun v m p=>some ⟨(v,m,p),rfl⟩
 else none
noncomputable def DC (e:Expr):Bool:=(qu e).isSome
noncomputable def sliceOf (e:Expr):Option {x:Option Expr × Option Expr × Option Expr // ∃ p,e = .Slice x.1 x.2.1 x.2.2 p}:=if h:e.ctorIdx=26 then
  Expr.Slice.elim (motive_1:=fun e=>Option {x:Option Expr × Option Expr × Option Expr // ∃ p,e = .Slice x.1 x.2.1 x.2.2 p}) e h fun a b d p=>some ⟨(a,b,d),p,rfl⟩
 else none
noncomputable def ahd (e:Expr):Option {x:Expr × List gx × bV // ∃ p,e = .GeneratorExp x.1 x.2.1 x.2.2 p}:=if h:e.ctorIdx=11 then
  Vl (motive_1:=fun e=>Option {x:Expr × List gx × bV // ∃ p,e = .GeneratorExp x.1 x.2.1 x.2.2 p}) e h fun a b d p=>some ⟨(a,b,d),p,rfl⟩
 else none
noncomputable def BI:(es:List Expr)→Option {x:Expr × List gx × bV // ∃ p,es=[.GeneratorExp x.1 x.2.1 x.2.2 p]}
 | [e]=>match ahd e with
  | some ⟨x,h⟩=>some ⟨x,h.elim fun p h=>⟨p,h ▸ rfl⟩⟩
  | none=>none
 | _=>none
noncomputable def Kl (e:Expr) (x:Expr × Str × Str):Prop:=∃ ap ky py kz pz pos,e = .Call (.Attribute x.1 "replace" ap) [.Constant (.str x.2.1) ky py,.Constant (.str x.2.2) kz pz] [] pos∧ap.endLine=pos.line∧(x.2.1==x.2.2)=false∧nH x.1=true
noncomputable def aiw (f x y:Expr) (pos:Pos):Option (Hz (Kl (.Call f [x,y] [] pos))):=match qu f,Jk x,Jk y with
 | some ⟨(o,m,ap),h1⟩,some ⟨y',h2⟩,some ⟨z,h3⟩=>if hc:m="replace"∧ap.endLine=pos.line∧(y'==z)=false∧nH o=true then
   some ⟨(o,y',z),h2.elim fun ky h2=>h2.elim fun py h2=>h3.elim fun kz h3=>h3.elim fun pz h3=>⟨ap,ky,py,kz,pz,pos,by rw[h1,h2,h3,hc.1],hc.2⟩⟩ else none
 | _,_,_=>none
noncomputable def UM (e:Expr):Option (Hz (Kl e)):=if h:e.ctorIdx=16 then
  Expr.Call.elim (motive_1:=fun e=>Option (Hz (Kl e))) e h fun f as ks pos=>match as,ks with
   | [x,y],[]=>aiw f x y pos
   | _,_=>none
 else none
noncomputable def K6 (l:Expr) (op:wZ) (r:Expr):Option {t:Str × Expr × Str × Str // isAdd op=true∧(∃ k p,l = .Constant (.str t.1) k p)∧Kl r t.2}:=if h:isAdd op=true then (match Jk l,UM r with
 | some ⟨a,h1⟩,some ⟨t,h2⟩=>some ⟨(a,t),h,h1,h2⟩
 | _,_=>none) else none
noncomputable def Oe (ev:Ev) (sc:bV) (l:Expr) (op:wZ) (r:Expr):Mo V:=match K6 l op r with
 | some ⟨(a,o,y,z),_⟩=>ev.E sc o >>= fun ov=>ZT a y z ov
 | none=>ev.E sc l >>= fun a=>ev.E sc r >>= fun b=>xN K op a b
noncomputable def unE (ev:Ev) (sc:bV) (op:UnaryOp) (e:Expr):Mo V:=match op with
 | .Not=>ev.E sc e >>= fun v=>tG K v >>= fun b=>pure (.p (.bool !b))
 | .USub=>ev.E sc e >>= acY
 | _=>Mo.fail
noncomputable def abh (ev:Ev) (sc:bV) (l:Expr) (ops:List yC) (rs:List Expr):Mo V:=match ops,rs with
 | [op],[r]=>if fW op r=false then ev.E sc l >>= fun a=>ev.E sc r >>= fun b=>rF op a b else Mo.fail
 | _,_=>Mo.fail
noncomputable def Qk (vs:List V):V:=match Ro vs with
  | some ps=>.p (.tup ps)
  | none=>.tup vs
noncomputable def QZ (ev:Ev) (sc:bV) (v i:Expr):Mo V:=match sliceOf i with
 | some ⟨(lo,hi,st),_⟩=>ev.E sc v >>= fun a=>Hj (ev.E sc) lo >>= fun l=>Hj (ev.E sc) hi >>= fun u=>Hj (ev.E sc) st >>= fun t=>GJ K a l u t
 | none=>ev.E sc v >>= fun a=>ev.E sc i >>= fun b=>jV K a b
noncomputable def V3 (ev:Ev) (sc:bV) (elt:Expr) (gens:List gx) (cK:bV) (o:V):Mo V:=Mo.get (strOf o) fun s=>abq s (Tg ev sc elt gens cK)
noncomputable def Gk (ev:Ev) (sc:bV) (v:Expr) (m:Str) (args:List Expr):Mo V:=match BI args with
 | some ⟨(elt,gens,cK),_⟩=>if m="join" then ev.E sc v >>= V3 ev sc elt gens cK else Mo.fail
 | none=>ev.E sc v >>= fun o=>Gl K ev o m (jD (ev.E sc) args)
noncomputable def kwV (ev:Ev) (sc:bV) (zD:List uP) (fv:V) (vs:List V):Mo V:=match zD with
  | []=>jL K ev fv vs []
  | [⟨some n,e,_⟩]=>ev.E sc e >>= fun kv=>jL K ev fv vs [(n,kv)]
  | _=>Mo.fail
noncomputable def E5 (ev:Ev) (sc:bV) (f:Expr) (args:List Expr) (zD:List uP) (pos:Pos):Mo V:=match qu f with
 | some ⟨(v,m,ap),_⟩=>if zD.isEmpty=true∧ap.endLine=pos.line∧noStar args=true∧args.length<20∧nH v=true then Gk K ev sc v m args else Mo.fail
 | none=>if noStar args=true∧kwOk zD=true then ev.E sc f >>= fun fv=>jD (ev.E sc) args >>= fun vs=>kwV K ev sc zD fv vs else Mo.fail
noncomputable def adL (ev:Ev) (sc:bV):Expr→Mo V
 | .Constant c _ _=>Oq c
 | .Name x _=>I9 K sc x
 | .BinOp l op r _=>Oe K ev sc l op r
 | .UnaryOp op e _=>unE K ev sc op e
 | .BoolOp op es _=>Bt K (ev.E sc) op es
 | .Compare l ops rs _=>abh ev sc l ops rs
 | .List es _=>jD (ev.E sc) es >>= fun vs=>Mo.get (Ro vs) fun ps=>if ps.length≤aZ then KD (.list ps) >>= fun k=>pure (.obj k) else Mo.fail
 | .Tuple es _ _=>jD (ev.E sc) es >>= fun vs=>if vs.length≤aZ then pure (Qk vs) else Mo.fail
 | .Subscript v i _=>QZ K ev sc v i
 | .ListComp elt gens cK _=>comp ev sc elt gens cK >>= fun p=>pure (.p p)
 | .Attribute v a _=>if nH v=true then ev.E sc v >>= fun o=>vo K ev o a else Mo.fail
 | .Call f args zD pos=>E5 K ev sc f args zD pos
 | _=>Mo.fail
noncomputable def abi (ev:Ev) (sc:bV) (l:Expr) (ops:List yC) (rs:List Expr):Mo Bool:=match ops,rs with
 | [op],[r]=>if fW op r=false then ev.E sc l >>= fun a=>ev.E sc r >>= fun b=>rF op a b >>= fun v=>tG K v else Mo.fail
 | _,_=>Mo.fail
noncomputable def acs:UnaryOp→Bool
 | .Not=>true
 | _=>false
noncomputable def Nd (ev:Ev) (sc:bV) (e:Expr):Mo Bool:=ev.E sc e >>= fun v=>tG K v
noncomputable def stepT (ev:Ev) (sc:bV):Expr→Mo Bool
 | .UnaryOp op e pos=>if acs op=true then ev.T sc e >>= fun b=>pure !b else Nd K ev sc (.UnaryOp op e pos)
 | .BoolOp op es _=>xB (ev.T sc) op es
 | .IfExp ..=>Mo.fail
 | .Compare l ops rs _=>abi K ev sc l ops rs
 | e=>Nd K ev sc e
noncomputable def MV (o:V) (a:Str) (v:V):Mo Unit:=match o with
 | .obj k=>fun σ=>match σ.aP[k]? with
  | some (.inst C d)=>match σ.aP[d]? with
   | some (.attrs kv)=>if setOk K C a=true∧kv.length≤900 then .ok () { σ with aP:=σ.aP.set d (.attrs (vG kv a v)) } else .fail
   | _=>.fail
  | _=>.fail
 | _=>Mo.fail
noncomputable def ZW (o i v:V):Mo Unit:=Mo.get (objOf o) fun k=>Mo.get (intOf i) fun j=>Mo.get (mQ v) fun x=>fun σ=>match σ.aP[k]? with
  | some (.list vs)=>if mY j=true∧j<0 then match idx j vs.length with
   | some n=>.ok () { σ with aP:=σ.aP.set k (.list (vs.set n x)) }
   | none=>.fail
   else .fail
  | _=>.fail
noncomputable def W5 (k:Nat) (ws:List P):Mo V:=fun σ=>match σ.aP[k]? with
  | some (.list vs)=>if vs.length+ws.length≤2 ^ 20 then .ok (.obj k) { σ with aP:=σ.aP.set k (.list (vs++ws)) } else .fail
  | _=>.fail
noncomputable def yL (a b:V):Mo V:=match intOf a with
 | some x=>Mo.get (intOf b) fun y=>pure (.p (.int (x+y)))
 | none=>match strOf a with
  | some x=>Mo.get (strOf b) fun y=>if x.length+y.length≤aZ then pure (.p (.str (x++y))) else Mo.fail
  | none=>Mo.get (objOf a) fun k=>Mo.get (wG b) fun ws=>W5 k ws
noncomputable def isNm:Expr→Bool
 | .Name ..=>true
 | .UnaryOp .USub (.Constant (.int _) _ _) _=>true
 | _=>false
noncomputable def UJ (x:Str):Mo V:=fun σ=>match σ.loc.lookup x with
 | some (.val v)=>.ok v σ
 | _=>.fail
noncomputable def OS (o i:V):Mo V:=Mo.get (objOf o) fun k=>Mo.get (intOf i) fun j=>fun σ=>match σ.aP[k]? with
  | some (.list vs)=>if mY j=true then match idx j vs.length with
   | some n=>match vs[n]? with
    | some p=>.ok (.p p) σ
    | none=>.fail
   | none=>.fail
   else .fail
  | _=>.fail
noncomputable def assign (ev:Ev) (sc:bV) (v:V) (t:Expr):Mo Unit:=match nameOf t with
 | some x=>o9 x.1 v
 | none=>Mo.jV (qu t) fun x=>ev.E sc x.1 >>= fun ov=>MV K ov x.2.1 v
noncomputable def nB (e:Expr):Bool:=e.ctorIdx==8||e.ctorIdx==9||e.ctorIdx==10
noncomputable def Pn (e:Expr):Bool:=e.ctorIdx==23||e.ctorIdx==20
noncomputable def PC (e:Expr):Option {x:Expr × List gx × bV // ∃ p,e = .ListComp x.1 x.2.1 x.2.2 p}:=if h:e.ctorIdx=8 then
  Expr.ListComp.elim (motive_1:=fun e=>Option {x:Expr × List gx × bV // ∃ p,e = .ListComp x.1 x.2.1 x.2.2 p}) e h fun a b d p=>some ⟨(a,b,d),p,rfl⟩
 else none
noncomputable def HM (ev:Ev) (sc:bV) (t e:Expr):Mo Fl:=match PC e with
 | some ⟨(elt,gens,cK),_⟩=>Mo.jV (nameOf t) fun x=>comp ev sc elt gens cK >>= fun p=>o9 x (.p p) >>= fun _=>pure .next
 | none=>if nB e=false∧Pn t=true then ev.E sc e >>= fun v=>assign K ev sc v t >>= fun _=>pure .next else Mo.fail
noncomputable def abd (ev:Ev) (sc:bV) (ts:List Expr) (e:Expr):Mo Fl:=match ts with
 | [t]=>HM K ev sc t e
 | [t,t']=>Mo.jV (nameOf t) fun x=>Mo.jV (nameOf t') fun y=>ev.E sc e >>= fun v=>o9 x v >>= fun _=>o9 y v >>= fun _=>pure .next
 | _=>Mo.fail
noncomputable def abe (ev:Ev) (sc:bV) (t e:Expr):Mo Fl:=match t with
 | .Name x _=>UJ x >>= fun a=>ev.E sc e >>= fun b=>yL a b >>= fun v=>o9 x v >>= fun _=>pure .next
 | .Attribute o n _=>ev.E sc o >>= fun ov=>vo K ev ov n >>= fun a=>ev.E sc e >>= fun b=>yL a b >>= fun v=>MV K ov n v >>= fun _=>pure .next
 | .Subscript o i _=>if isNm i=true then ev.E sc o >>= fun ov=>ev.E sc i >>= fun iv=>OS ov iv >>= fun a=>ev.E sc e >>= fun b=>yL a b >>= fun v=>ZW ov iv v >>= fun _=>pure .next else Mo.fail
 | _=>Mo.fail
noncomputable def Res.obs {α β : Type} (r:Res α) (f:α→St→Res β) (g:Xn→St→Res β):Res β:=match r with
  | .ok a σ=>f a σ
  | .exc x σ=>g x σ
  | .fail=>.fail
noncomputable def abK (r:Res Fl):Res Fl:=r.obs (fun fl σ=>.ok fl { σ with dw:=.no }) fun _ _=>.fail
noncomputable def hdX (f:St→Res Fl) (x:Xn) (σ:St):Res Fl:=if σ.dw = .no∧x.cls="IndexError" then abK (f { σ with dw:=.yes }) else .fail
noncomputable def U5 (ev:Ev) (sc:bV) (x:Str) (b hb:List Stmt):Mo Fl:=fun σ=>if (x==("IndexError":Str)&&sc.names.lookup x==some .globalImplicit&&nsIn K cy x==some none)=true then (ev.B sc b σ).obs .ok (hdX (ev.B sc hb)) else .fail
noncomputable def tU (fl:Fl) (r:Res Fl):Res Fl:=match r with
  | .ok .next σ=>.ok fl σ
  | .exc x σ=>.exc x σ
  | _=>.fail
noncomputable def tT (x:Xn) (r:Res Fl):Res Fl:=match r with
  | .ok .next σ=>.exc x { σ with dw:=.no }
  | .exc x' σ=>if x'.plain=false then .exc x' { σ with dw:=.no } else .fail
  | _=>.fail
noncomputable def OD (f:Xn→St→Res Fl) (x:Xn) (σ:St):Res Fl:=if σ.dw = .no∧x.plain=true then f x { σ with dw:=.may } else .fail
noncomputable def Z6 (ev:Ev) (sc:bV) (b fb:List Stmt):Mo Fl:=fun σ=>(ev.B sc b σ).obs (fun fl σ'=>tU fl (ev.B sc fb σ')) (OD fun x σ'=>tT x (ev.B sc fb σ'))
noncomputable def ahX (hs:List ExceptHandler) (x:Str × List Stmt):Prop:=∃ np hp h0 L8,x.2=h0 :: L8∧hs=[.ExceptHandler (some (.Name x.1 np)) none (h0 :: L8) hp]
noncomputable def abL:(hs:List ExceptHandler)→Option (Hz (ahX hs))
 | [.ExceptHandler (some e) none (h0 :: hb) hp]=>match nameOf e with
  | some ⟨x,h⟩=>some ⟨(x,h0 :: hb),h.elim fun np h=>⟨np,hp,h0,hb,rfl,h ▸ rfl⟩⟩
  | none=>none
 | _=>none
noncomputable def adO (ev:Ev) (sc:bV) (b:List Stmt) (hs:List ExceptHandler) (HX fin:List Stmt):Mo Fl:=match HX with
 | []=>(match fin with
  | []=>Mo.jV (abL hs) fun p=>U5 K ev sc p.1 b p.2
  | f0 :: fb=>if hs.isEmpty=true then Z6 ev sc b (f0 :: fb) else Mo.fail)
 | _=>Mo.fail
noncomputable def ZQ (sc:bV) (x:Str):Mo Fl:=fun σ=>if (x==("StopIteration":Str)&&decide (σ.dw = .no)&&sc.names.lookup x==some .globalImplicit&&nsIn K cy x==some none)=true then .exc .stop σ else .fail
noncomputable def retS (ev:Ev) (sc:bV):Option Expr→Mo Fl
 | none=>pure (.ret (.p .none))
 | some e=>ev.E sc e >>= fun v=>pure (.ret v)
noncomputable def aha (ev:Ev) (sc:bV) (t it:Expr) (b:List Stmt):Mo Fl:=Mo.jV (nameOf t) fun x=>if mz it=false then ev.E sc it >>= fun u=>Mo.get (ux u) fun vs=>j0 x (ev.B sc b) vs else Mo.fail
noncomputable def fk (ev:Ev) (sc:bV):Stmt→Mo Fl
 | .Pass _=>pure .next
 | .Break _=>pure .brk
 | .Continue _=>pure .cont
 | .Return v _=>retS ev sc v
 | .Expr e _=>if nB e=false then ev.E sc e >>= fun _=>pure .next else Mo.fail
 | .Assign ts e _=>abd K ev sc ts e
 | .AugAssign t op e _=>if isAdd op=true then abe K ev sc t e else Mo.fail
 | .If t b e _=>ev.T sc t >>= fun c=>if c then ev.B sc b else ev.B sc e
 | .While t b HX _=>if HX.isEmpty=true then lS (ev.T sc t) (ev.B sc b) l5 else Mo.fail
 | .For t it b HX _=>if HX.isEmpty=true then aha ev sc t it b else Mo.fail
 | .Try b hs HX fin _=>adO K ev sc b hs HX fin
 | .Raise e c _=>if c.isNone=true then (match e with | some e=>Mo.jV (nameOf e) (ZQ K sc) | none=>Mo.fail) else Mo.fail
 | _=>Mo.fail
noncomputable def CP (ev:Ev) (sc:bV):List Stmt→Mo Fl
 | []=>pure .next
 | s :: ss=>fk K ev sc s >>= fun fl=>match fl with
  | .next=>CP ev sc ss
  | fl=>pure fl
noncomputable def gG (n:Nat) (l:List Ob):Bool:=(l.take n).all (Ob.lt n)
noncomputable def qB (aP:List Ob) (n:Nat):Nat→V→Option P
 | _,.p x=>some x
 | _,.obj k=>if n≤k then match aP[k]? with
   | some (.list vs)=>some (.lst vs)
   | _=>none
  else none
 | d+1,.tup vs=>match vs.mapM (qB aP n d) with
  | some ps=>some (.tup ps)
  | none=>none
 | _,_=>none
noncomputable def i7 (σ σ':St) (v:V):Res V:=if gG σ.aP.length σ'.aP=true then
  if v.lt σ.aP.length=true then .ok v ⟨σ.loc,σ'.aP.take σ.aP.length,σ.dw⟩ else match qB σ'.aP σ.aP.length 2 v with
   | some p=>.ok (.p p) ⟨σ.loc,σ'.aP.take σ.aP.length,σ.dw⟩
   | none=>.ok v ⟨σ.loc,σ'.aP,σ.dw⟩
 else .ok v ⟨σ.loc,σ'.aP,σ.dw⟩
noncomputable def qN:Fl→V
 | .ret v=>v
 | _=>.p .none
noncomputable def eS (ev:Ev) (a:Addr) (pos:List V) (kw:List (Str × V)) (σ:St):Res Fl:=match defAt K a with
 | some (fd,body)=>match bindArgs K fd pos kw with
  | some binds=>ev.B fd.scope body ⟨(fH fd.scope.names binds σ.aP).1,(fH fd.scope.names binds σ.aP).2,σ.dw⟩
  | none=>.fail
 | none=>.fail
noncomputable def GK (ev:Ev) (a:Addr) (pos:List V) (kw:List (Str × V)):Mo V:=fun σ=>match eS K ev a pos kw σ with
 | .ok fl σ'=>i7 σ σ' (qN fl)
 | _=>.fail
noncomputable def tZ (ev:Ev) (a:Addr) (self:V):Mo (Option V):=fun σ=>match eS K ev a [self] [] σ with
 | .ok fl σ'=>match i7 σ σ' (qN fl) with
  | .ok v akd=>.ok (some v) akd
  | _=>.fail
 | .exc .stop σ'=>if gG σ.aP.length σ'.aP=true then .ok none ⟨σ.loc,σ'.aP.take σ.aP.length,σ.dw⟩ else .fail
 | _=>.fail
noncomputable def step (ev:Ev):Ev:=⟨adL K ev,stepT K ev,CP K ev,GK K ev,tZ K ev⟩
noncomputable def ev0:Ev:=⟨fun _ _=>Mo.fail,fun _ _=>Mo.fail,fun _ _=>Mo.fail,fun _ _ _=>Mo.fail,fun _ _=>Mo.fail⟩
noncomputable def RS:Nat→Ev
 | 0=>ev0
 | n+1=>step K (RS n)
end
end
section
structure EO (h h':Heap) (e:Addr) (x:Xn):Prop where
 keeps:∀ b o,h.get? b=some o→h'.get? b=some o
 new:h.get? e=none
 there:∃ ob t cx,h'.get? e=some ob∧ob.cls = .type x.cls∧ob.data = .fields #[t,.none,cx,.none,.bool false,.none]∧(x.plain=true→cx = .none)
theorem EO.of {h h':Heap} {e:Addr} {x:Xn} (z:Heap.NewExc h h' e x.cls):EO h h' e x:=⟨z.keeps,z.new,z.there.elim fun ob y=>y.elim fun t z=>(Y2 ob t ⟨.none,z.1,z.2.1,z.2.2,fun _=>rfl⟩)⟩
noncomputable def oh (o:Obj):Prop:=∀ vs,o.data = .fields vs→vs.size≠6
noncomputable def jH (A:fP) (l:List (Addr × Obj)):Prop:=A.handled=none∨∃ h o vs,A.handled=some (.ref h)∧(h,o)∈l∧o.data = .fields vs∧vs.size=6∧vs[2]?=some .none
theorem jH.mono {A A':fP} {l l':List (Addr × Obj)} (H:jH A l) (e:A'.handled=A.handled) (k:∀ p∈l,p∈l'∨oh p.2):jH A' l':=by
 rcases H with h | ⟨h,o,vs,h1,h2,h3,h4,h5⟩
 ·exact .inl (e.trans h)
 ·exact .inr (Y2 h o ⟨vs,e.trans h1,(k _ h2).resolve_right fun q=>q vs h3 h4,h3,h4,h5⟩)
theorem jH.sub {A:fP} {l l':List (Addr × Obj)} (H:jH A l) (k:∀ p∈l,p∈l'):jH A l':=H.mono rfl fun p hp=>.inl (k p hp)
theorem jH.tail {A:fP} {I:Addr} {o:Obj} {l:List (Addr × Obj)} (H:jH A ((I,o) :: l)) (hn:oh o):jH A l:=H.mono rfl fun p hp=>by
 rcases av.mp hp with rfl | hp
 ·exact .inr hn
 ·exact .inl hp
theorem eH {o:Obj} {vs:eF ah} (h:o.data = .fields vs) (hz:vs.size≠6):oh o:=fun ws q=>by rw[h] at q;cases q;exact hz
theorem g8 {o:Obj} (h:∀ vs,o.data≠.fields vs):oh o:=fun vs q=>absurd q (h vs)
section
variable {α : Type} {prog:qj} {w:dz} {A:fP} {E:ah→aG→Prop} {s:aG}
theorem AX:tR Q4 "proto.unchain"=some jm.«proto.unchain»:=lz (by rfl')
theorem A0 {x:Xn} {l:List (Addr × Obj)} {msg:dD} {Q:α→aG→Prop} (hp:PlainExc x.cls) (H:A.handled=none∨x.plain=false∧jH A l∧∀ p∈l,s.heap.get? p.1=some p.2)
  (h:∀ h' tk e,EO s.heap h' e x→E (.ref e) { s with heap:=h',toks:=tk }) :
  aF (jN prog w) A (raiseErrorWords x.cls msg:Sem α) Q E s:=by
 rcases H with H | ⟨yp,H | ⟨y,o,vs,h1,h2,h3,_,h4⟩,hl⟩
 ·exact Ve hp H fun h' tk e z=>h h' tk e (.of z)
 ·exact Ve hp H fun h' tk e z=>h h' tk e (.of z)
 replace h2:=hl _ h2;refine wpAny_bind (wpAny_mkText (wpAny_bind ?_));refine wpAny_bind (gH ?_);refine wpAny_bind (m:=firstArgMember _ _) (fJ (a:=dZ) (by simp only [firstArgMember,hp.first];rfl) ?_);rw[hp.own];refine gH ?_;refine wpAny_bind (wpAny_handled ?_);rw[h1];dsimp only;have kL:=gc h2;have tV:(gJ y != gJ (s.heap.push { cls:=.type "tuple",data:=.seq [oQ (↑msg) s.toks].toArray }).objs.size)=true:=by
  rw[mj,JS];intro q;injection q with q;exact fU (qt kL) q
 rw[aA tV];have up:∀ b ob,s.heap.get? b=some ob→((s.heap.push { cls:=.type "tuple",data:=.seq [oQ (↑msg) s.toks].toArray }).push { cls:=.type x.cls,data:=.fields (#[gJ s.heap.objs.size,.none,.none,.none,.bool false,.none]++#[]) }).get? b=some ob:=fun b ob hb=>bI _ (bI _ hb);refine wpAny_bind (cF (Lo (gK AX ?_)));refine wpAny_bind (m8 (up _ _ h2) h3 h4 ?_);refine wpAny_bind (wpAny_pure ?_);refine wpAny_pure ?_;have he:((s.heap.push { cls:=.type "tuple",data:=.seq [oQ (↑msg) s.toks].toArray }).push { cls:=.type x.cls,data:=.fields (#[gJ s.heap.objs.size,.none,.none,.none,.bool false,.none]++#[]) }).get? (s.heap.push { cls:=.type "tuple",data:=.seq [oQ (↑msg) s.toks].toArray }).objs.size=some { cls:=.type x.cls,data:=.fields (#[gJ s.heap.objs.size,.none,.none,.none,.bool false,.none]++#[]) }:=oK _ rfl;refine wpAny_bind (nM (i:=2) (x:=.ref y) he rfl (by show 2<6;decide) ?_);refine wpAny_throw (h _ _ _ ⟨fun b ob hb=>?_,Heap.get?_none_of_le (by simp),_,_,.ref y,bL _ he rfl,rfl,rfl,fun q=>by rw[yp] at q;cases q⟩);rw[bY _ _ (by rw[mj];exact JJ (qt (gc hb)))];exact bI _ (bI _ hb)
theorem I7 {x:Xn} (h:x.cls="IndexError"):PlainExc x.cls:=h ▸ plainExc_IndexError
theorem iS {x:Xn} {l:List (Addr × Obj)} {msg:dD} {Q:α→aG→Prop} (Pf:x.cls="IndexError") (H:A.handled=none∨x.plain=false∧jH A l∧∀ p∈l,s.heap.get? p.1=some p.2)
  (h:∀ h' tk e,EO s.heap h' e x→E (.ref e) { s with heap:=h',toks:=tk }) :
  aF (jN prog w) A (raiseErrorWords "IndexError" msg:Sem α) Q E s:=by
 have z:=A0 (Q:=Q) (msg:=msg) (prog:=prog) (w:=w) (I7 Pf) H h;rw[Pf] at z;exact z
theorem wB {x:Xn} {led:List (Addr × Obj)} {l:Addr} {items:eF ah} {k:Int} {t:Tok} {Q:ah→aG→Prop} (Pf:x.cls="IndexError") (hA:A.handled=none∨x.plain=false∧jH A led∧∀ p∈led,s.heap.get? p.1=some p.2) (hl:s.heap.IsList l items)
  (TM:k < -(items.size:Int)∨(items.size:Int)≤k) (hlo : -(2 ^ 63)≤k) (VV:k<2 ^ 63)
  (hE:∀ h' tk e,EO s.heap h' e x→E (.ref e) { s with heap:=h',toks:=tk }) :
  aF (jN prog w) A (Ik (.ref l) (.int k t)) Q E s:=by
 refine nv (id hl) fun o ho hc zz1=>?_;refine eU zz1 fun ne hd=>?_;dsimp only [Ik];try with_reducible refine cF ?_
 first | refine wpAny_bind (wpAny_pure ?_) | skip
 refine wpAny_bind (wpAny_sequenceKey hl.typeIs (by decide) ?_);refine wpAny_bind (t9 (name:=aL "__getitem__") hl.typeIs slot_list_getitem
  (ua slot_list_getitem hl.typeIs entry_list_getitem ?_ (args_list_getitem _ _)))
 show aF _ _ (vW (.int k t) >>= _) _ _ s;refine wpAny_bind (Rz (fitsIndex_both hlo VV) ?_);clear hlo VV
 cases k with
 | ofNat j =>
  have hx:items[j]?=none:=by
   refine bJ (TM) (fun h=>?_) fun h=>?_
   ·exact absurd h (by simp only [Int.ofNat_eq_natCast];exact fun pM=>(zJ [↑j,↑items.size] (.g (.add bH eB) (.neg cQ) (.g i6 bH (.g i6 cQ .e))) zC h (zW _) (zW _)))
   ·exact Array.getElem?_eq_none (by have:(items.size:Int)≤(j:Int):=h;exact zU h)
  refine wpAny_bind (wpAny_bind (wpAny_seqItemAt ho hd (wpAny_pure ?_)));rw[hx];first
   | exact wpAny_bind (fY (iS Pf hA hE))
   | exact wpAny_bind (fY (wpAny_bind (iS Pf hA hE)))
   | exact wpAny_bind (wpAny_bind (fY (iS Pf hA hE)))
   | exact fY (iS Pf hA hE)
 | negSucc j =>
  have ahq:jz (Nm j) items.size=none:=by
   refine bJ (TM) (fun h=>?_) fun h=>?_
   ·exact seqIndex_below h
   ·exact absurd h (by have:=Int.negSucc_lt_zero j;exact SA.mp rfl)
  show aF _ _ ((yy (.ref l) >>= fun xs=>pure ((jz (Nm j) xs.size).bind fun i=>xs[i]?.map (i,·))) >>= _) _ _ s;refine wpAny_bind (wpAny_bind ?_);show aF _ _ (seqItems? (.ref l) >>= _) _ _ s;refine wpAny_bind (rz ho hd (wpAny_pure (wpAny_pure ?_)));rw[ahq];first
   | exact wpAny_bind (fY (iS Pf hA hE))
   | exact wpAny_bind (fY (wpAny_bind (iS Pf hA hE)))
   | exact wpAny_bind (wpAny_bind (fY (iS Pf hA hE)))
   | exact fY (iS Pf hA hE)
theorem FD {M:u7} {base:Heap} {env:Env} {outer:List Env} {L e:Addr} {oe:Obj} {vs:eF ah} {head a0:ah} {Tt:Bool} {Q:Unit→aG→Prop}
  (yj:A.frames=some (env :: outer)) (hl:s.heap.FunFrames base (env :: outer)) (hf:env.frame=some L)
  (he:s.heap.get? e=some oe) (hkb:base.StaysIn s.heap) (J9:base.get? e=none) (hd:oe.data = .fields vs) (kC:1<vs.size) (h0:vs[0]?=some a0)
  (k:∀ h' T,Heap.NotedW base (env :: outer) e oe.cls a0 (gu L) s.heap h'→h'.get? e=some (dO (·.setIfInBounds 1 (.ref T)) oe)→Q () { s with heap:=h' }) :
  aF M A (do let a ← frameOf env;let pl ← entryPlaceOf L Tt;let b ← EntryCells.newEntry head a .none (gu L) .none pl;setField (.ref e) 1 b) Q E s:=by
 have off:e∉(env :: outer).filterMap (·.frame):=fun hm=>by
  refine cz (hl.mem hm) fun _ zz2=>?_;refine bU zz2 fun o ho yo=>?_;rw[he] at ho;cases ho;exact yo vs hd
 refine wpAny_bind (wpAny_frameOf_fun yj hl hf fun h₁ Kd=>wpAny_bind (wpAny_entryPlaceOf fun pl yp=>?_));refine wpAny_bind (gH ?_ (yp.sizeOk5 _ _ _ _ _));generalize hob:({ cls:=.type "traceback",dict:=none,data:=.fields ([head,.ref L,.none,gu L,.none]++(if pl.isEmpty then List.replicate 6 dZ else pl)).toArray }:Obj)=ob;have FY:ob.isFreed=false:=by rw[← hob];rfl
 have e1:h₁.get? e=some oe:=(Kd.2.1 e off).trans he;have up:∀ b o,base.get? b=some o→h₁.get? b=some o:=fun b o q=>(Kd.2.1 b fun hm=>by rw[(hl.mem hm).1] at q;cases q).trans (hkb b o q);have e2:(h₁.push ob).get? e=some oe:=bI _ e1;have hT:h₁.objs.size≠e:=JJ (gc e1);have hd3:=gb hd (·.setIfInBounds 1 (gJ h₁.objs.size));have e3:=bL (dO (·.setIfInBounds 1 (gJ h₁.objs.size))) e2 (nq hd3);have eT:((h₁.push ob).update e (dO (·.setIfInBounds 1 (gJ h₁.objs.size)))).get? h₁.objs.size=some ob:=
  (bY _ _ (eO hT)).trans (oK h₁ FY)
 have keep:∀ b o,b≠e→h₁.get? b=some o→((h₁.push ob).update e (dO (·.setIfInBounds 1 (gJ h₁.objs.size)))).get? b=some o:=fun b o hb q =>
  (bY _ _ (eO hb)).trans (bI _ q)
 have plain:∀ b o,s.heap.get? b=some o→(∀ vs,o.data≠.fields vs)→b≠e:=fun b o hb hn q=>by
  rw[q,he] at hb;cases hb;exact hn vs hd
 refine nM e2 hd kC (k _ h₁.objs.size ⟨fun b o q=>keep b o (fun z=>by rw[z,J9] at q;cases q) (up b o q),hl.of_keeps fun b o hb hn=>?_,?_,fun b o hb hn=>?_⟩ e3)
 ·refine eU (Kd.2.2 b o hb) fun sl q=>?_
  exact ⟨_,keep b _ (plain b o hb hn) q,rfl⟩
 ·have hb:base.get? h₁.objs.size=none:=by
   refine oC (base.get? h₁.objs.size) (fun q=>?_) fun o q=>?_
   ·rfl
   ·exact absurd (gc (up _ _ q)) (iL _)
  refine (Y2 _ _ (Y2 (h₁.objs.size) ob ⟨_,e3,⟨Obj.cls_mapFields _ _,by rw[xE (by decide)];exact h0⟩,hd3,by simp [kC],hb,hT,eT,by rw[← hob],?_⟩));rcases yp with rfl | ⟨_,_,_,_,_,_,_,rfl⟩<;>simp
 ·refine eU (Kd.2.2 b o hb) fun sl q=>?_
  exact ⟨sl,keep b _ (plain b o hb hn) q⟩
end
end
section
set_option maxHeartbeats 4000000 in
theorem OU (u v:Tok):Gives (jm.«int.__new__» ⟨[.type "int",.str "3D" u,.int 16 v],[]⟩) (.int 61):=
 .of_wp fun M A E s Q h=>by
  obtain ⟨hp,g,d,tk,os⟩:=s;have f1:=F.conv_sub_int;have f2:=F.madeHere_int;repeat (any_goals (first | assumption | wp_step))
  rw[aA (by decide +kernel)];refine wpAny_bind (wpAny_pure ?_);dsimp only;rw[show (int_private% "readNumeral") 0 (AF 16) (j8 (fun x=>x != 0) (if ((aL "3D").cps.all fun x=>decide (x<128))=true then (aL "3D").cps.toList else jd (aL "3D").cps.toList))=(int_private% "Numeral.value") 61 from by rfl'];dsimp only;rw[show ((j8 (fun x=>x != 0) (if ((aL "3D").cps.all fun x=>decide (x<128))=true then (aL "3D").cps.toList else jd (aL "3D").cps.toList)).length==(if ((aL "3D").cps.all fun x=>decide (x<128))=true then (aL "3D").cps.toList else jd (aL "3D").cps.toList).length)=true from by decide +kernel];repeat (any_goals (first | assumption | wp_step))
  exact ⟨_,rfl,h⟩
set_option maxHeartbeats 4000000 in
theorem OV (u v:Tok):Gives (jm.«int.__new__» ⟨[.type "int",.str "E9" u,.int 16 v],[]⟩) (.int 233):=
 .of_wp fun M A E s Q h=>by
  obtain ⟨hp,g,d,tk,os⟩:=s;have f1:=F.conv_sub_int;have f2:=F.madeHere_int;repeat (any_goals (first | assumption | wp_step))
  rw[aA (by decide +kernel)];refine wpAny_bind (wpAny_pure ?_);dsimp only;rw[show (int_private% "readNumeral") 0 (AF 16) (j8 (fun x=>x != 0) (if ((aL "E9").cps.all fun x=>decide (x<128))=true then (aL "E9").cps.toList else jd (aL "E9").cps.toList))=(int_private% "Numeral.value") 233 from by rfl'];dsimp only;rw[show ((j8 (fun x=>x != 0) (if ((aL "E9").cps.all fun x=>decide (x<128))=true then (aL "E9").cps.toList else jd (aL "E9").cps.toList)).length==(if ((aL "E9").cps.all fun x=>decide (x<128))=true then (aL "E9").cps.toList else jd (aL "E9").cps.toList).length)=true from by decide +kernel];repeat (any_goals (first | assumption | wp_step))
  exact ⟨_,rfl,h⟩
theorem sI (a b:ah):checkTypeCall "int" ⟨[a,b],[]⟩=pure ():=by rfl'
theorem tY (a b:ah):Es "int.__new__" ⟨[.type "int",a,b],[]⟩=pure ():=by rfl'
section
variable {prog:qj} {w:dz} {A:fP} {E:ah→aG→Prop} {s:aG} {Q:ah→aG→Prop}
theorem args_object_init_3 (obj a b:ah):Er "object.__init__" ⟨[obj,a,b],[]⟩:=by unfold Er;rfl'
theorem Fc {u v:Tok} (h:Q (.int 61 s.toks) { s with toks:=s.toks+1 }):aF (jN prog w) A (call (.type "int") [.str "3D" u,.int 16 v]) Q E s:=
 callType_new F.called_int F.newNe_int (sI _ _) (tY _ _) (fun obj=>args_object_init_3 obj _ _) F.entry_int_new (OU u v).meets (show (Made.int 61).post _ s from ⟨rfl,h⟩)
theorem Fd {u v:Tok} (h:Q (.int 233 s.toks) { s with toks:=s.toks+1 }):aF (jN prog w) A (call (.type "int") [.str "E9" u,.int 16 v]) Q E s:=
 callType_new F.called_int F.newNe_int (sI _ _) (tY _ _) (fun obj=>args_object_init_3 obj _ _) F.entry_int_new (OV u v).meets (show (Made.int 233).post _ s from ⟨rfl,h⟩)
end
theorem AW:k8 (.type "collections.deque") "__new__"=pure (some (.builtin "collections.deque.__new__")):=by rw[gO,eG];rfl'
theorem OB:qF (.type "collections.deque") (.type "collections.deque")=pure true:=by rw[kW];rfl'
theorem Dm:Slot "collections.deque" "__init__" "collections.deque.__init__":=
 .of (owner:="collections.deque") (n:="__init__") (by rw[gO,eG];rfl') (by decide +kernel) (by decide +kernel) (by decide +kernel)
  (by first | exact .inl (by decide +kernel) | exact .inr (by decide +kernel)) (by rw[kW];rfl')
theorem JX:mroOf (.type "collections.deque")=pure [.type "collections.deque",.type "object"]:=by rw[mroOf_type];rfl'
theorem Xb:∃ c tl,mroOf (.type "collections.deque")=pure (c :: tl):=⟨_,_,JX⟩
theorem OA:Nq.lookup (Vw ['e','u','q','e','d','.','s','n','o','i','t','c','e','l','l','o','c'].reverse)=some we:=by rfl'
theorem LV:TypeCalled "collections.deque" "collections.deque.__new__" "collections.deque.__init__":=
 ⟨by decide +kernel,by decide +kernel,Xb,madeBy_type JX AW (by decide +kernel),by decide +kernel,OB,Dm⟩
theorem Fw:checkTypeCall "collections.deque" ⟨[],[]⟩=pure ():=by rfl'
theorem HU:Es "collections.deque.__new__" ⟨[.type "collections.deque"],[]⟩=pure ():=by rfl'
theorem Dl:tR Q4 "collections.deque.__new__"=some jm.«collections.deque.__new__»:=lz (by rfl')
theorem AV:tR Q4 "collections.deque.__init__"=some jm.«collections.deque.__init__»:=lz (by rfl')
theorem Dk (a:ah):Er "collections.deque.__init__" ⟨[a],[]⟩:=by
 unfold Er;rw[signature?_of (id:="collections.deque.__init__") (n:=['_','_','t','i','n','i','_','_']) (o:=['e','u','q','e','d','.','s','n','o','i','t','c','e','l','l','o','c']) (by rfl') OA];rfl'
theorem Fv:EI "collections.deque.__new__" (.type "collections.deque")=pure ():=by rfl'
theorem S6:qF (.type "collections.deque") (.type Builtin.Deque.ty)=pure true:=OB
noncomputable abbrev Ft:Obj:={ cls:=.type "collections.deque",data:=.fields #[.none,gu 0] }
set_option maxHeartbeats 2000000 in
theorem Xc:Meets (jm.«collections.deque.__new__» ⟨[.type "collections.deque"],[]⟩) (fun _ R s=>R (.ok (.ret (.ref s.heap.objs.size))) { s with heap:=s.heap.push { cls:=.type "collections.deque",data:=.fields #[.none,gu 0] } }):=
 .of_wp fun prog w A R s h=>by
  obtain ⟨hp,g,d,tk,os⟩:=s;have f1:=S6;have f2:=Fv;repeat (any_goals (first | assumption | wp_step))
  exact ⟨_,rfl,h⟩
set_option maxHeartbeats 2000000 in
theorem S5 (a:Addr):Meets (jm.«collections.deque.__init__» ⟨[.ref a],[]⟩) (fun _ R s=>s.heap.get? a=some { cls:=.type "collections.deque",data:=.fields #[.none,gu 0] }∧R (.ok (.ret .none)) { s with heap:=s.heap.update a (dO (·.setIfInBounds 0 .none)) }):=
 .of_wp fun prog w A R s h=>by
  obtain ⟨hp,g,d,tk,os⟩:=s;refine cz h fun ho h=>?_;have VX:(hp.update a (dO (·.setIfInBounds 0 .none))).get? a=some { cls:=.type "collections.deque",data:=.fields #[.none,gu 0] }:=bL _ ho rfl;unfold jm.«collections.deque.__init__»;repeat (any_goals (first | assumption | wp_step))
  exact ⟨_,rfl,h⟩
section
variable {prog:qj} {w:dz} {A:fP} {E:ah→aG→Prop} {s:aG} {Q:ah→aG→Prop}
theorem SW (h:∀ h',(∀ b o,(s.heap.push Ft).get? b=some o→h'.get? b=some o)→Q (.ref s.heap.objs.size) { s with heap:=h' }):aF (jN prog w) A (call (.type "collections.deque") []) Q E s:=by
 refine callType_meets LV Fw HU Dl AV Xc (Q₁:=fun obj b3=>obj = .ref s.heap.objs.size∧b3 = { s with heap:=s.heap.push Ft }) ⟨rfl,rfl⟩ fun obj b3 adX=>cz adX fun e1 e2=>?_;subst e1 e2;have ho:(s.heap.push Ft).get? s.heap.objs.size=some Ft:=oK _ rfl;refine ⟨⟨_,ho,rfl⟩,Dk _,_,S5 _,ho,rfl,h _ fun b o e=>?_⟩;by_cases hb:b=s.heap.objs.size
 ·subst hb
  rw[ho] at e;cases e;exact bL _ ho rfl
 ·exact (bY _ _ (eO hb)).trans e
end
end
section
open PySem.Builtin
section
variable {prog:qj} {w:dz} {A:fP} {E:ah→aG→Prop} {s:aG}
theorem uL {l:Addr} {vals:eF ah} {ch:Nat} {y:Str} {u:Tok} {Q:Mapped→aG→Prop} (hl:s.heap.IsList l vals) (hx:vals[ch]?=some (.str y u)) (kC:ch<2 ^ 20)
  (h:∀ k,Q (.text y) { s with toks:=k }):aF (jN prog w) A (tableLookup (.ref l) ch) Q E s:=by
 refine wpAny_bind (wpAny_attempt ?_);refine wpAny_bind (WD (wpAny_getItem_list (s:={ s with toks:=s.toks+1 }) hl (by exact wX ch) (by exact zI [↑ch] 0 (.g (.add bH eB) (.num 1048576) .e) (.add bH eB) (.num 9223372036854775808) zC (zO kC)) (by exact hx) ?_));exact wpAny_bind (wpAny_pure (wpAny_bind (wpAny_pure (wpAny_pure (h _)))))
inductive Tr (vals:eF ah):List Nat→List Str→Prop where
 | nil:Tr vals [] []
 | cons {ch:Nat} {r:List Nat} {y:Str} {ts:List Str} {u:Tok}:ch<2 ^ 20→y.length≤16→vals[ch]?=some (.str y u)→Tr vals r ts→Tr vals (ch :: r) (y :: ts)
noncomputable def iC (ts:List Str):List Nat:=ts.flatMap fun t=>t.cps.toList
theorem BF:∀ (ps:List Str) (acc:eF Nat),(ps.foldl (fun acc p=>acc++p.cps) acc).toList=acc.toList++iC ps
 | [],acc=>by simp [iC]
 | p :: ps,acc=>by
  rw[Vq,BF ps];simp [iC]
structure TrI (vals:eF ah) (ts:List Str) (h:Heap) (qS : aG) (r:List Nat) (b:List Str × Nat × Bool × List (Nat × Option Nat) × Bool) (s:aG):Prop where
 ad:b.2.2.2.2=false
 st:∃ k,s={ qS with toks:=k }
 rt:∃ rt,Tr vals r rt∧iC b.1.reverse++iC rt=iC ts
 tot:b.2.1+16*r.length≤2 ^ 20
 kn:∀ ch a,b.2.2.2.1.lookup ch=some a→∃ d u,a=some d∧vals[ch]?=some (.str ⟨#[d]⟩ u)
@[elab_as_elim] theorem TrI.el {vals:eF ah} {ts:List Str} {h:Heap} {qS : aG} {ch:Nat} {r:List Nat} {b:List Str × Nat × Bool × List (Nat × Option Nat) × Bool} {s:aG} {N:List Str × Nat × Bool × List (Nat × Option Nat) × Bool→aG→Prop} (I:TrI vals ts h qS (ch :: r) b s)
  (f:∀ pieces total fast known k y rt u,ch<2 ^ 20→y.length≤16→vals[ch]?=some (.str y u)→Tr vals r rt→iC pieces.reverse++iC (y :: rt)=iC ts→total+16*(r.length+1)≤2 ^ 20 →
   (∀ ch a,known.lookup ch=some a→∃ d u,a=some d∧vals[ch]?=some (.str ⟨#[d]⟩ u))→N (pieces,total,fast,known,false) { qS with toks:=k }):N b s:=by
 obtain ⟨h1,⟨k,hk⟩,⟨rt,h2,h3⟩,h4,h5⟩:=I;obtain ⟨pieces,total,fast,known,ad⟩:=b;have h1:ad=false:=h1;subst h1 hk;cases h2 with | cons a1 a2 a3 a4=>exact f _ _ _ _ _ _ _ _ a1 a2 a3 a4 h3 h4 h5
theorem Tr.len {vals:eF ah} {r:List Nat} {ts:List Str} (h:Tr vals r ts):(iC ts).length≤16*r.length:=by
 induction h with
 | nil=>exact d7 _
 | cons h1 h2 h3 h4 this =>
  unfold iC at *;rw[List.flatMap_cons,aO,dU,cH];have h2':_≤16:=h2;unfold RN at h2';exact rM (.g au (.n 16) (.g aE (.m 16 aT) .e)) (.a au aE) (.m 16 (.s aT)) zC h2' this
theorem Rp {β : Type} {M:u7} {A:fP} {c:Prop} [mV c] {a b:Sem β} {Q:β→aG→Prop} {E:ah→aG→Prop} {s:aG} (h:¬c) (k:aF M A b Q E s):aF M A (if c then a else b) Q E s:=by rw[aS h];exact k
theorem Wz {β : Type} {M:u7} {A:fP} {c:Prop} [mV c] {a b:Sem β} {Q:β→aG→Prop} {E:ah→aG→Prop} {s:aG} (h:c) (k:aF M A a Q E s):aF M A (if c then a else b) Q E s:=by rw[aA h];exact k
theorem adQ {β γ : Type} {M:u7} {A:fP} {xs:eF γ} {b:β} {f : γ→β→Sem (xG β)} {Q:β→aG→Prop} {E:ah→aG→Prop} {s:aG} (h:aF M A (forIn xs.toList b f) Q E s):aF M A (forIn xs b f) Q E s:=by
 rw[Array.forIn_toList] at h;exact h
set_option tactic.hygienic true in
theorem yQ {x:Str} {t:Tok} {l:Addr} {vals:eF ah} {ts:List Str} {Q:ah→aG→Prop} (hl:s.heap.IsList l vals) (hx:x.length≤2 ^ 16)
  (ht:Tr vals x.cps.toList ts) (h:∀ t' k,Q (.str ⟨(iC ts).toArray⟩ t') { s with toks:=k }):aF (jN prog w) A (call (.builtin "str.translate") [.str x t,.ref l]) Q E s:=by
 refine uS RE (mS _ _ _) F.entry_str_translate (F.args_str_translate_2 _ _) (.of_wp (S:=fun _ R s=>s.heap.IsList l vals∧∀ t' k,R (.ok (.ret (.str ⟨(iC ts).toArray⟩ t'))) { s with toks:=k }) fun prog w A R s h=>?_) ⟨hl,h⟩;clear hl
 refine cz h fun hl hR=>?_;show aF _ _ (if (x.length==0)=true then _ else _) _ _ _;refine bC (x.length==0) (fun hz=>?_) fun hz=>?_
 ·refine Wz (c:=_) (by exact rfl) (wpAny_bind (fY (wpAny_bind ?_)))
  refine wpAny_pure (wpAny_pure ⟨_,rfl,?_⟩);have e:x.cps.toList=[]:=by
   have:=beq_iff_eq.mp hz;unfold RN at this;exact nP (by rw[cH];exact this)
  rw[e] at ht;cases ht;have hx2:x=⟨(iC []).toArray⟩:=by
   cases x;simp only at e;congr 1;exact rN (by rw[e];rfl)
  have:=hR t s.toks;rw[← hx2] at this;exact this
 ·refine Rp bR (wpAny_bind (adQ (wpAny_mono (wpAny_forIn_list _ (TrI vals ts s.heap s) (fun b s'=>b.2.2.2.2=false∧(∃ k,s'={ s with toks:=k })∧iC b.1.reverse=iC ts∧b.2.1≤2 ^ 20) ?step ?fin _ _ ?init) (fun b s' hq=>?post) fun _ _ x=>x)))
  case fin =>
   intro b s' I;refine bU I.rt fun rt h1 h2=>?_;cases h1;refine ⟨I.ad,I.st,by simpa [iC] using h2,by have:=I.tot;simpa using this⟩
  case init =>
   refine ⟨rfl,⟨s.toks,rfl⟩,⟨ts,ht,by simp [iC]⟩,?_,fun ch a e=>by cases e⟩;have:x.cps.toList.length=x.length:=cH;show 0+16*x.cps.toList.length≤_;rw[fy,this];exact gE 16 hx
  case step =>
   intro ch r b s' I;refine I.el fun pieces total fast known k y rt u a1 a2 a3 a4 h2 ach hkn=>?_;have hto:nJ total=false:=by
    unfold nJ;rw[gF];have kC:aZ=2 ^ 24:=rfl;exact fun pM=>(z0 [_,_,_] (.g (.n 16777216) au (.g (.s au) aE (.g (.a aE (.m 16 (.s aT))) (.n 1048576) .e))) zC (zG kC) pM ach)
   have nx:∀ (f:Bool) (kn:List (Nat × Option Nat)) (k':Nat) (tt:Nat),tt≤total+16→(∀ ch a,kn.lookup ch=some a→∃ d u,a=some d∧vals[ch]?=some (.str ⟨#[d]⟩ u))→TrI vals ts s.heap s r (y :: pieces,tt,f,kn,false) { s with toks:=k' }:=fun f kn k' tt htt hk=>by
    refine ⟨rfl,⟨k',rfl⟩,⟨rt,a4,?_⟩,?_,hk⟩
    ·rw[← h2]
     simp [iC]
    ·exact rM (.g au (.a aT (.n 16)) (.g (.a aT (.m 16 (.s aE))) (.n 1048576) .e)) (.a au (.m 16 aE)) (.n 1048576) zC htt ach
   have adK:∀ (f:Bool) (kn:List (Nat × Option Nat)) (k':Nat),(∀ ch a,kn.lookup ch=some a→∃ d u,a=some d∧vals[ch]?=some (.str ⟨#[d]⟩ u))→TrI vals ts s.heap s r (y :: pieces,total+y.length,f,kn,false) { s with toks:=k' }:=fun f kn k' hk=>nx f kn k' _ (by exact Nat.add_le_add_iff_left.mpr a2) hk;refine Rp (by rw[hto];exact bR) ?_;cases fast with
   | false =>
    refine Rp bR ?_;exact wpAny_bind (uL (s:={ s with toks:=k }) hl a3 a1 fun k'=>wpAny_pure (adK _ _ _ hkn))
   | true =>
    refine Wz (c:=_) (by exact rfl) ?_;refine oC (known.lookup ch) (fun q=>?_) fun a q=>?_
    ·skip
     refine wpAny_bind (uL (s:={ s with toks:=k }) hl a3 a1 fun k'=>?_);dsimp only;refine bC ((y.length==1&&y.cps.all fun x=>decide (x<128))) (fun hy=>?_) fun hy=>?_
     ·simp only [gz]
      simp only [aR,beq_iff_eq] at hy;obtain ⟨d,hd⟩:∃ d,y=⟨#[d]⟩:=by
       obtain ⟨⟨yl⟩⟩:=y;have:=hy.1;exact eU (Ht.mp this) fun d e=>⟨d,e ▸ rfl⟩
      subst hd;refine wpAny_bind (wpAny_pure ?_);show aF _ _ (pure _) _ _ _;refine wpAny_pure (nx _ _ _ _ (by exact uM .e (.s au) (.a au (.n 16)) zC ) fun ch' a' e=>?_);rw[aH] at e;split at e
      ·rename_i e0
       cases e;rw[beq_iff_eq.mp e0];exact ⟨d,_,rfl,a3⟩
      ·exact hkn _ _ e
     ·simp only [fB,jy]
      refine wpAny_bind (wpAny_pure ?_);dsimp only;refine wpAny_bind (fY ?_);exact wpAny_bind (uL (s:={ s with toks:=k' }) hl a3 a1 fun k'=>wpAny_pure (adK _ _ _ hkn))
    ·refine jU (hkn _ _ q) fun d u' e1 e2=>?_
     rw[e1];rw[a3] at e2;injection e2 with e2;injection e2 with e2;refine wpAny_bind (wpAny_pure ?_);dsimp only;rw[← e2];exact wpAny_pure (nx _ _ _ _ (by exact uM .e (.s au) (.a au (.n 16)) zC ) hkn)
  case post =>
   refine En hq fun _ zz3 h1 h2=>?_;refine eU zz3 fun k zz4=>?_;obtain rfl:=zz4;have hto:nJ b.2.1=false:=by
    unfold nJ;rw[gF];have kC:aZ=2 ^ 24:=rfl;exact fun pM=>(z0 [_,_] (.g (.n 16777216) au (.g (.s au) aE (.g aE (.n 1048576) .e))) zC (zG kC) pM h2)
   simp only [hto,fB,jy];have e:(⟨b.1.reverse.foldl (fun acc p=>acc++p.cps) #[]⟩:Str)=⟨(iC ts).toArray⟩:=by
    congr 1;apply rN;rw[BF,h1];simp
   unfold retStr;rw[e];refine wpAny_bind (wpAny_mkStr (wpAny_pure ⟨_,rfl,hR _ _⟩) ?_);have h3:=ht.len;have:x.cps.toList.length=x.length:=cH;have hz:aZ=2 ^ 24:=rfl;show (iC ts).toArray.size≤_;rw[xH,hz];exact ay h3 (ay (gE 16 (ay (cU this) hx)) (by decide))
end
end
section
open PySem.Builtin PySem.Builtin.Re
noncomputable def gV:eF Nat:=#[14,17,4,1,1,21,9,0,604043296,1,0,0,0,0,0,8,4,0,13,14,21,9,0,604043296,1,0,0,0,0,0,8,4,0,1]
noncomputable def lV (c:Nat):Bool:=c<256&&((48≤c&&c≤57)||(65≤c&&c≤90)||(97≤c&&c≤122)||[95,64,37,43,61,58,44,46,47,45].contains c)
noncomputable def W7 (c:Nat):Bool:=c<256&&([0,604043296,1,0,0,0,0,0].getD (c / 32) 0).testBit (c % 32)
theorem LK:∀ c:_root_.Fin 256,(W7 c.val||pL c.val)=lV c.val:=by decide +kernel
theorem W8 (c:Nat):(W7 c||pL c)=lV c:=by
 by_cases h:c<256
 ·exact LK ⟨c,h⟩
 ·have h1:W7 c=false:=by unfold W7;simp [h]
  have h2:pL c=false:=by
   have b:∀ k,k<256→decide (c≤k)=false:=fun k hk=>ez fun z=>h (l6 z hk);have e:(c==95)=false:=aJ.mpr fun z=>h (by rw[z];decide);delta pL Sre.isDigit;simp only [b 57 (by decide),b 90 (by decide),b 122 (by decide),e,WI,nD]
  have h3:lV c=false:=by
   unfold lV;rw[ez h,WJ]
  rw[h1,h2,h3];rfl
theorem Va (c base:Nat) (h:base=7∨base=22) (hc:c<256):gV.getD (base+c / 32) 0=[0,604043296,1,0,0,0,0,0].getD (c / 32) 0:=by
 have hk:c / 32<8:=by exact Nat.div_lt_of_lt_mul hc
 generalize c / 32=k at hk ⊢;exact O2 h ((by decide +kernel:∀ k,k<8→gV.getD (7+k) 0=[0,604043296,1,0,0,0,0,0].getD k 0) k hk) ((by decide +kernel:∀ k,k<8→gV.getD (22+k) 0=[0,604043296,1,0,0,0,0,0].getD k 0) k hk)
theorem ag2 (c:Nat):Sre.category 4 c = .ok (pL c):=by
 show (Except.ok (pL c != false):Except dD Bool)=_;simp
theorem F4 (c base:Nat) (h:base=5∨base=20) (seen:Sre.Seen):∃ rm,l7 gV c gV.size base true seen = .ok (!lV c,rm):=by
 have e0:∀ s,l7 gV c (30+4) base true s=l7 gV c (30+3) (base+1) false (s.add 21):=fun s=>by
  refine O2 h ?_ ?_<;>rfl
 have e1:∀ s,l7 gV c (30+3) (base+1) false s=if c<256&&(gV.getD (base+1+(1+c / 32)) 0).testBit (c % 32) then .ok (false,s.add 9) else l7 gV c (30+2) (base+1+9) false (s.add 9):=fun s=>by
  refine O2 h ?_ ?_<;>rfl
 have e2:∀ s,l7 gV c (30+2) (base+1+9) false s=(Sre.category 4 c >>= fun b=>if b then pure (false,(s.add 8).add (55+4)) else l7 gV c (30+1) (base+1+9+2) false ((s.add 8).add (55+4))):=fun s=>by
  refine O2 h ?_ ?_<;>rfl
 have e3:∀ s,l7 gV c (30+1) (base+1+9+2) false s = .ok (true,s.add 0):=fun s=>by
  refine O2 h ?_ ?_<;>rfl
 show ∃ rm,l7 gV c (30+4) base true seen=_;rw[e0,e1];have ec:(decide (c<256)&&(gV.getD (base+1+(1+c / 32)) 0).testBit (c % 32))=W7 c:=by
  unfold W7;by_cases hc:c<256
  ·have:=Va c (base+2) (by exact h.elim (fun dK=>(.inl (zQ (uM (.g au (.n 5) .e) (.a au (.n 2)) (.n 7) zC (zA dK)) (uM (.g (.n 5) au .e) (.n 7) (.a au (.n 2)) zC (zG dK))))) fun dK=>(.inr (zQ (uM (.g au (.n 20) .e) (.a au (.n 2)) (.n 22) zC (zA dK)) (uM (.g (.n 20) au .e) (.n 22) (.a au (.n 2)) zC (zG dK))))) hc
   rw[← this];have:base+1+(1+c / 32)=base+2+c / 32:=by exact zQ (oH .e (.a (.s au) (.a jr aE)) (.a (.a au (.n 2)) aE) zC ) (oH .e (.a (.a au (.n 2)) aE) (.a (.s au) (.a jr aE)) zC )
   rw[this]
  ·simp [hc]
 rw[ec,e2,ag2];have hs:=W8 c;refine bC (W7 c) (fun h1=>?_) fun h1=>?_
 ·rw[h1,Bool.true_or] at hs
  rw[← hs];exact ⟨_,rfl⟩
 ·rw[h1,vU] at hs
  rw[← hs];refine bC (pL c) (fun h2=>?_) fun h2=>?_
  ·exact ⟨_,rfl⟩
  ·exact ⟨_,e3 ((((seen.add 21).add 9).add 8).add (55+4))⟩
theorem w7 (m:Em) (hc:m.code=gV):∀ (n s:Nat) (seen:Sre.Seen),m.lim=m.text.size→n+s=m.lim+1 →
  ((∀ i,s≤i→i<m.lim→lV (m.text.getD i 0)=true)∧∃ rm,jZ m n s seen = .ok (none,rm))∨(∃ i rm,s≤i∧i<m.lim∧lV (m.text.getD i 0)=false∧jZ m n s seen = .ok (some i,rm))
 | 0,s,seen,_,e=>.inl ⟨fun i h1 h2=>by exact (z0 [_,_,_] (.g (.s au) (.a gR aE) (.g aE aT (.g (.s aT) au .e))) zC (zG e) h1 h2).elim,seen,rfl⟩
 | n+1,s,seen,hl,e=>by
  unfold jZ;by_cases h:s≥m.lim
  ·rw[aA h]
   exact .inl ⟨fun i h1 h2=>by exact (T4 h2 h h1).elim,seen,rfl⟩
  ·rw[aS h]
   refine eU (F4 (m.text.getD s 0) 5 (.inl rfl) seen) fun rm q=>?_;rw[← hc] at q;rw[q];refine bC (lV (m.text.getD s 0)) (fun hs=>?_) fun hs=>?_
   ·show (_∧∃ Jf,jZ m n (s+1) rm = .ok (none,Jf))∨(∃ i Jf,_∧_∧_∧jZ m n (s+1) rm = .ok (some i,Jf))
    rcases w7 m hc n (s+1) rm hl (by exact zQ (rM (.g (.a (.s au) aE) (.s aT) .e) (.a au (.s aE)) (.s aT) zC (zA e)) (rM (.g (.s au) (.a (.s aE) aT) .e) (.s au) (.a aE (.s aT)) zC (zG e))) with ⟨h1,h2⟩ | ⟨i,s2,h1,h2,h3,h4⟩
    ·refine .inl ⟨fun i h3 h4=>?_,h2⟩
     by_cases q:i=s
     ·rw[q];exact hs
     ·exact h1 i (by exact (aW q).elim (fun dK=>(T5 h3 dK)) fun dK=>dK) h4
    ·exact .inr (Y2 i s2 ⟨by exact bk h1,h2,h3,h4⟩)
   ·exact .inr (Y2 s _ ⟨aB _,by exact kB h,hs,rfl⟩)
theorem QO (m:Em) (b:Bool) (h:m.outcome=none) (hf:m.frames=[]):((m.say b).runFor 4).outcome=some (if b then .matched else .failed):=by
 have e1:(m.say b).outcome.isSome=false:=by show m.outcome.isSome=false;rw[h];rfl
 have e2:(m.say b).step={ m.say b with outcome:=some (if b then .matched else .failed) }:=by
  unfold Sre.M.step;rw[aS (by rw[e1];decide)];show (match some b,m.frames with | some yes,[]=>_ | some yes,f :: rest=>_ | none,_=>_)=_;rw[hf]
 unfold Sre.M.runFor;rw[aS (by rw[e1];decide),e2];rfl
theorem Ig (code text:eF Nat) (m:Em) (i:Nat) (hc:m.code=gV) (hp:m.pc=18) (hi:i<m.lim) (hu:lV (m.text.getD i 0)=false) (ho:m.outcome=none) (hf:m.frames=[]) (ha:m.answer=none) (hw:m.weight=0) (hww:m.wholeText=false) (hma:m.mustAdvance=false) (b:Bool) :
  ((m.attemptAt i b).runFor 4).outcome=some .matched:=by
 obtain ⟨code,text,lim,start,lastStart,wholeText,mustAdvance,pc,pos,handed,outermost,marks,lastmark,lastindex,loops,inner,frames,weight,answer,seen,outcome⟩:=m;simp only at hc hp hi hu ho hf ha hw hww hma;subst hc hp ho hf ha hw hww hma;have a0:(AL ⟨gV,text,lim,start,lastStart,false,false,18,pos,handed,outermost,marks,lastmark,lastindex,loops,inner,[],0,none,seen,none⟩ i b) =
  ⟨gV,text,lim,i,lastStart,false,false,18,i,i,b,marks,-1,-1,loops,inner,[{ wait:=.nextStart,pc:=18,pos:=i,outermost:=b }],1,none,seen,none⟩:=rfl
 rw[a0];refine eU (F4 (text.getD i 0) 20 (.inr rfl) (seen.add 13)) fun rm q=>?_;rw[hu] at q;have s1:Sre.M.step ⟨gV,text,lim,i,lastStart,false,false,18,i,i,b,marks,-1,-1,loops,inner,[{ wait:=.nextStart,pc:=18,pos:=i,outermost:=b }],1,none,seen,none⟩ =
  ⟨gV,text,lim,i,lastStart,false,false,33,i+1,i,b,marks,-1,-1,loops,inner,[{ wait:=.nextStart,pc:=18,pos:=i,outermost:=b }],1,none,rm,none⟩:=by
  show (if i≥lim then _ else (match l7 gV (text.getD i 0) gV.size 20 true (seen.add 13) with | .error why=>_ | .ok (false,seen)=>_ | .ok (true,seen)=>_))=_;rw[aS (by exact AJ hi),q];rfl
 have r1:∀ (n:Nat) (m:Em),m.outcome=none→m.runFor (n+1)=m.step.runFor n:=fun n m h=>by
  show (if m.outcome.isSome then m else m.step.runFor n)=_;rw[h];rfl
 rw[r1 3 _ rfl,s1,r1 2 _ rfl];cases b<;>rfl
theorem Am (text:eF Nat):((Sre.forSearch gV text 0 0 text.size false).runFor 4).outcome=some (if text.toList.all lV=true then .failed else .matched):=by
 show ((if 0>text.size||text.size - 0<1 then RM _ false else w6 _ 0 true:Em).runFor 4).outcome=_;by_cases hz:text.size=0
 ·rw[aA (by simp [hz])]
  have:text.toList=[]:=by
   have:text.toList.length=0:=by exact hz
   exact nP this
  rw[this];rfl
 ·have hz':(decide (0>text.size)||decide (text.size - 0<1))=false:=by
   rw[nO];exact ⟨ez (Bk _),ez fun q=>hz (Nat.lt_one_iff.mp q)⟩
  rw[aS (by rw[hz'];decide)];have hfs:∀ m:Em,m.code=gV→w6 m 0 true=(match jZ m (m.lim+1 - 0) 0 m.seen with
   | .ok (some s,seen)=>AL { m with mustAdvance:=false,seen:=seen } s true
   | .ok (none,seen)=>RM { m with seen:=seen } false
   | .error why=>m.stick why):=fun m h=>by
   delta w6 Sre.M.hasFirstSet;rw[h];rfl
  have Tu:text.toList.all lV=true↔∀ i,0≤i→i<text.size→lV (text.getD i 0)=true:=by
   rw[cG];constructor
   ·intro h i _ hi
    refine h _ ?_;rw[oJ,kg hi];simp
   ·intro h x hx
    obtain ⟨i,hi,e⟩:=List.getElem_of_mem hx;have VW:i<text.size:=by simpa using hi
    have:=h i (d7 _) VW;rw[oJ,kg VW] at this;rw[← e];exact this
  have key:∀ m0:Em,m0.code=gV→m0.text=text→m0.lim=text.size→m0.pc=18→m0.outcome=none→m0.frames=[]→m0.answer=none→m0.weight=0→m0.wholeText=false →
    (Sre.M.runFor 4 (match jZ m0 (m0.lim+1 - 0) 0 m0.seen with
   | .ok (some s,seen)=>AL { m0 with mustAdvance:=false,seen:=seen } s true
   | .ok (none,seen)=>RM { m0 with seen:=seen } false
   | .error why=>m0.stick why)).outcome=some (if text.toList.all lV=true then .failed else .matched):=fun m0 q1 q2 q3 q4 q5 q6 q7 q8 q9=>by
   rcases w7 m0 q1 (m0.lim+1 - 0) 0 m0.seen (by rw[q2,q3]) rfl with ⟨h1,s2,h2⟩ | ⟨i,s2,_,h2,h3,h4⟩
   ·rw[h2]
    rw[QO _ _ (by exact q5) (by exact q6),aA (Tu.mpr (by rw[q2,q3] at h1;exact h1))];rfl
   ·rw[h4]
    rw[Ig gV text { m0 with mustAdvance:=false,seen:=s2 } i q1 q4 h2 h3 q5 q6 q7 q8 q9 rfl,aS fun q=>?_];rw[q2] at h3;rw[q3] at h2;have:=Tu.mp q i (d7 _) h2;rw[h3] at this;cases this
  exact key _ rfl rfl rfl rfl rfl rfl rfl rfl rfl
end
section
open PySem.Builtin PySem.Builtin.Re
section
variable {prog:qj} {w:dz} {A:fP} {E:ah→aG→Prop} {s:aG}
theorem Dp:tR Q4 "re.Pattern.search"=some jm.«re.Pattern.search»:=lz (by rfl')
theorem Jb {n:Nat} {f:Nat→Bool} {g:Nat→dD} {Q:PUnit→aG→Prop} (h:Q ⟨⟩ s) :
  aF (jN prog w) A (forIn (b4 n) Nx fun i (_:PUnit)=>if f i=true then (do rule (g i);pure (gY Nx)) else pure (gY Nx)) Q E s:=by
 refine wpAny_mono (wpAny_forIn_list _ (fun _ _ s'=>s'=s) (fun _ s'=>s'=s) (fun x r b s' e=>?_) (fun b s' e=>e) _ _ rfl) (fun _ s' e=>by subst e;exact h) fun _ _ x=>x;split
 ·exact wpAny_bind (fY (wpAny_pure e))
 ·exact wpAny_pure e
theorem Jc {m:Em} {r:Sre.Outcome} (hr:(m.runFor 4).outcome=some r) {Q:Option Em→aG→Prop} (h:∀ o,(r = .matched→o=some (m.runFor 4))→(r = .failed→o=none)→Q o s) (hrr:r = .matched∨r = .failed) :
  aF (jN prog w) A (reRunToEnd m) Q E s:=by
 refine wpAny_bind ?_;have e:(2 ^ 64:Nat)=(2 ^ 64 - 1)+1:=by decide
 show aF _ _ (if (m.runFor reTurnSteps).outcome.isSome then pure (m.runFor reTurnSteps) else _) _ _ _;have e4:m.runFor reTurnSteps=m.runFor 4:=rfl;rw[e4,aA (by rw[hr];rfl)];refine wpAny_pure ?_;refine wpAny_bind (Jb ?_);rw[hr];rcases hrr with rfl | rfl
 ·exact wpAny_pure (h _ (fun _=>rfl) fun q=>by cases q)
 ·exact wpAny_pure (h _ (fun q=>by cases q) fun _=>rfl)
theorem DQ (x:Str) (t:Tok):reNamed "re.Pattern.search" "search" ["string","pos","endpos"] 1 [.str x t] []=pure [some (.str x t),e8,e8]:=by rfl'
theorem S3 (P:ai):∃ its,(Ab P).data = .seq its 0∧Array.map (fun x:Int=>x.toNat) (Array.map reRawOf its)=gV:=⟨_,rfl,by rfl'⟩
theorem Je {P:ai} {x:Str} {t:Tok} {Q:PySem.Fin→aG→Prop} (hx:x.length≤2 ^ 20) (h1:s.heap.get? 108=some (wJ P)) (h2:s.heap.get? 107=some (Ab P))
  (hn:x.cps.toList.all lV=true→Q (.done (.ret .none)) s) (hm:x.cps.toList.all lV=false→∀ a h',(∀ b o,s.heap.get? b=some o→h'.get? b=some o)→Q (.done (.ret (.ref a))) { s with heap:=h' }) :
  aF (jN prog w) A (jm.«re.Pattern.search» ⟨[.ref 108,.str x t],[]⟩) Q E s:=by
 refine wpAny_bind ?_;refine wpAny_bind (fJ (DQ x t) ?_);refine wpAny_bind (wpAny_pure ?_);refine wpAny_bind (wpAny_pure ?_);refine wpAny_bind (wpAny_fieldsOf h1 rfl ?_);refine wpAny_bind (fJ (a:=(x.cps,0)) rfl ?_);dsimp only;refine wpAny_bind (fJ (a:=()) rfl ?_);refine wpAny_bind ?_;refine bU (S3 P) fun its h3 h4=>?_;refine wpAny_bind (rz h2 h3 ?_);refine wpAny_pure ?_;have e1:min (2 ^ 63 - 1:Int).toNat x.cps.size=x.cps.size:=by
  have:x.cps.size≤2 ^ 20:=hx;have h63:(2 ^ 63 - 1:Int).toNat=9223372036854775807:=by decide
  exact AI (ay this (ay (by decide:2 ^ 20≤9223372036854775807) (cU h63.symm)))
 have e2:min (AF 0) x.cps.size=0:=by simp
 rw[e1,e2];dsimp only [xK];rw[h4];refine wpAny_pure ?_;show aF _ _ (reAnswer ⟨.ref 108,.str x t,gV,x.cps,0,0,0,x.cps.size⟩ (Sre.forSearch gV x.cps 0 0 x.cps.size false)) _ _ _;refine wpAny_bind (Jc (Am x.cps) (fun o ha hb=>?_) (by split<;>simp));refine bC (x.cps.toList.all lV) (fun hs=>?_) fun hs=>?_
 ·rw[hs,aA rfl] at hb
  rw[hb rfl];exact wpAny_pure (hn hs)
 ·rw[hs,aS (by decide)] at ha
  rw[ha rfl];dsimp only;refine wpAny_bind ?_;unfold reNewMatch;dsimp only;rw[show b4 0=[] from rfl];simp only [List.any_nil,List.flatMap_nil,fB,jy];refine wpAny_bind (gH ?_);refine gH ?_;exact wpAny_pure (hm hs _ _ fun b o e=>bI _ (bI _ e))
theorem yP {a:Addr} {o:Obj} {self:ah} {id:dD} {vs:List ah} {b:jm} {Q:ah→aG→Prop} (ho:s.heap.get? a=some o) (hc:o.cls = .type "builtin_function_or_method") (hd:o.data = .fields #[.builtin id,self])
  (hb:tR Q4 id=some b) (hq:plainId id=true) (hk:∀ {P:Unit→aG→Prop},P () s→aF (jN prog w) A.in1 (nE id ⟨self :: vs,[]⟩) P (fun e s'=>E e s') s)
  (h:aF (jN prog w) A.in1 (b ⟨self :: vs,[]⟩) (fun fin s'=>match fin with | .done f=>wants Q E (.ok f) s' | .again c'=>c'.quiet=true∧qk (jN prog w) A c' (wants Q E) s') (fun e s'=>wants Q E (.error e) s') s):aF (jN prog w) A (call (.ref a) vs) Q E s:=by
 refine jP (codeAny_of_tree ?_);refine wpAny_bind (wpAny_load ho ?_);rw[hd];rw[hc];show aF _ _ (if (gU "builtin_function_or_method" != gU "method")=true then (nE id ⟨self :: vs,[]⟩ >>= fun _=>again (Hq id ⟨self :: vs,[]⟩)) else _) _ _ _;refine wpAny_bind (hk ?_);refine wpAny_bind (wpAny_pure (wpAny_pure ?_));refine ⟨oR hq _,gK hb ?_⟩;rw[tw hq];exact h
theorem xU:qF (.type "list") (.type "module")=pure false:=by rw[kW];rfl'
theorem Bb:qF (.type "re.Pattern") (.type "module")=pure false:=by rw[kW];rfl'
theorem Df {la:Addr} {v:ah} {vals:eF ah} (hl:s.heap.IsList la vals) {P:Unit→aG→Prop} (h:P () s):aF (jN prog w) A (nE "list.append" ⟨[.ref la,v],[]⟩) P E s:=by
 obtain ⟨sig,h1,h2⟩:∃ sig:Hw,Hh "list.append"=some sig∧∀ a b,CY "list.append" { sig with full:=s!"{Bind.lastOf "list"}.{Bind.lastOf "list.append"}" } ⟨[a,b],[]⟩=pure ():=⟨⟨.oneArg,"list.append","append",.self,[⟨"object",.posOnly,true⟩]⟩,by rfl',fun a b=>by rfl'⟩;have h3:builtinKind "list.append"=some .method:=by decide +kernel
 have h4:Bj.contains "list.append"=false:=by decide +kernel
 dsimp only [nE];rw[h1,h3];refine wpAny_bind (uc hl.typeIs xU ?_);refine nv (id hl) fun o ho hc aiY=>?_;refine eU aiY fun n hd=>?_;refine wpAny_bind ?_;refine wpAny_bind (nd_load ho (wpAny_pure ?_));rw[hd];refine wpAny_pure ?_;rw[aS (show ¬ (false=true) from by decide)];refine wpAny_bind (qo hl.typeIs ?_);exact fJ (h2 _ _) h
theorem Dg {P':ai} {x:Str} {t:Tok} (ho:s.heap.get? 108=some (wJ P')) {P:Unit→aG→Prop} (h:P () s):aF (jN prog w) A (nE "re.Pattern.search" ⟨[.ref 108,.str x t],[]⟩) P E s:=by
 obtain ⟨sig,h1,h2⟩:∃ sig:Hw,Hh "re.Pattern.search"=some sig∧∀ a b,CY "re.Pattern.search" { sig with full:=s!"{Bind.lastOf "re.Pattern"}.{Bind.lastOf "re.Pattern.search"}" } ⟨[a,b],[]⟩=pure ():=⟨⟨.keywords,"Pattern.search","search",.self,[⟨"string",.posOrKw,true⟩,⟨"pos",.posOrKw,false⟩,⟨"endpos",.posOrKw,false⟩]⟩,by rfl',fun a b=>by rfl'⟩;have h3:builtinKind "re.Pattern.search"=some .method:=by decide +kernel
 have h4:Bj.contains "re.Pattern.search"=false:=by decide +kernel
 have hT:s.TypeIs (.ref 108) "re.Pattern":=⟨_,ho,rfl⟩;dsimp only [nE];rw[h1,h3];refine wpAny_bind (uc hT Bb ?_);rw[h4,aS (by decide)];refine wpAny_bind ?_;obtain ⟨fs,hfs⟩:∃ fs,(wJ P').data = .fields fs:=⟨_,rfl⟩;refine wpAny_bind (nd_load ho (wpAny_pure ?_));rw[hfs];refine wpAny_pure ?_;rw[aS (show ¬ (false=true) from by decide)];refine wpAny_bind (qo hT ?_);exact fJ (h2 _ _) h
theorem DZ:plainId "list.append"=true:=by decide +kernel
theorem D0:plainId "re.Pattern.search"=true:=by decide +kernel
theorem Fe {P:ai} {x:Str} {t:Tok} {Q:ah→aG→Prop} (hx:x.length≤2 ^ 20) (h0:s.heap.get? 811=some (IW P)) (h1:s.heap.get? 108=some (wJ P)) (h2:s.heap.get? 107=some (Ab P))
  (hn:x.cps.toList.all lV=true→Q .none s) (hm:x.cps.toList.all lV=false→∀ a h',(∀ b o,s.heap.get? b=some o→h'.get? b=some o)→Q (.ref a) { s with heap:=h' }) :
  aF (jN prog w) A (call (.ref 811) [.str x t]) Q E s:=
 yP (id:="re.Pattern.search") (self:=.ref 108) h0 rfl rfl Dp D0 (fun hP=>Dg h1 hP) (Je hx h1 h2 (fun q=>hn q) fun q a h' hk=>hm q a h' hk)
theorem Fb {a la:Addr} {o:Obj} {v:ah} {vals:eF ah} {n:Nat} {Q:ah→aG→Prop} (ho:s.heap.get? a=some o) (hc:o.cls = .type "builtin_function_or_method") (hd:o.data = .fields #[.builtin "list.append",.ref la])
  (hl:s.heap.get? la=some { cls:=.type "list",dict:=none,data:=.seq vals n,slots:=#[] }) (kC:vals.size≤2 ^ 21) (h:Q .none { s with heap:=s.heap.update la (dm (·.push v)) }) :
  aF (jN prog w) A (call (.ref a) [v]) Q E s:=by
 refine yP (id:="list.append") (self:=.ref la) ho hc hd Sn DZ (fun hP=>Df ⟨_,hl,rfl,n,rfl⟩ hP) ?_;exact uN la vals n v (by simp only [aZ];exact jj kC zC) prog w A (wants Q E) s ⟨hl,h⟩
end
end
section
noncomputable abbrev Led:=List (Addr × Obj)
noncomputable def CK (x:Int) (tx:Tok) (y:Int) (ty:Tok) (z:Int) (tz:Tok):Obj:={ cls:=.type "range",dict:=none,data:=.fields #[.int x tx,.int y ty,.int z tz],slots:=#[] }
mutual
inductive PV (b:Heap) (fz:Led):P→ah→Prop
 | none:PV b fz .none .none
 | bool (x:Bool):PV b fz (.bool x) (.bool x)
 | int (i:Int) (t:Tok):PV b fz (.int i) (.int i t)
 | str (x:Str) (t:Tok):PV b fz (.str x) (.str x t)
 | ty (n:dD):PV b fz (.ty n) (.type n)
 | bi (n:dD):PV b fz (.bi n) (.builtin n)
 | adr (a:Addr):PV b fz (.adr a) (.ref a)
 | mt (a:Addr):PV b fz .mt (.ref a)
 | rj {a:Addr} {x y z:Int} {tx ty tz:Tok}:(a,CK x tx y ty z tz)∈fz∨b.get? a=some (CK x tx y ty z tz)→PV b fz (.rj x y z) (.ref a)
 | dq {a:Addr} {o:Obj} {x y:ah}:(a,o)∈fz∨b.get? a=some o→o.cls = .type "collections.deque"→o.data = .fields #[x,y]→PV b fz .dq (.ref a)
 | lst {a:Addr} {o:Obj} {n:Nat} {vs:List P} {vals:eF ah}:(a,o)∈fz∨b.get? a=some o→o.cls = .type "list"∧o.dict=none∧o.slots = #[]→o.data = .seq vals n→jS b fz vs vals.toList→PV b fz (.lst vs) (.ref a)
 | tup {a:Addr} {o:Obj} {n:Nat} {vs:List P} {vals:eF ah}:(a,o)∈fz∨b.get? a=some o→o.cls = .type "tuple"→o.data = .seq vals n→jS b fz vs vals.toList→PV b fz (.tup vs) (.ref a)
inductive jS (b:Heap) (fz:Led):List P→List ah→Prop
 | nil:jS b fz [] []
 | cons {u:P} {v:ah} {us:List P} {vs:List ah}:PV b fz u v→jS b fz us vs→jS b fz (u :: us) (v :: vs)
end
mutual
inductive VR (b:Heap) (fz:Led) (μ : List Addr):V→ah→Prop
 | p {x:P} {v:ah}:PV b fz x v→VR b fz μ (.p x) v
 | obj {k:Nat} {a:Addr} : μ[k]?=some a→VR b fz μ (.obj k) (.ref a)
 | jq {k:Nat} {a la:Addr} {o:Obj}:(a,o)∈fz∨b.get? a=some o→o.cls = .type "builtin_function_or_method"→o.data = .fields #[.builtin "list.append",.ref la]→μ[k]?=some la→VR b fz μ (.jq k "append") (.ref a)
 | tup {a:Addr} {o:Obj} {n:Nat} {vs:List V} {vals:eF ah}:(a,o)∈fz∨b.get? a=some o→o.cls = .type "tuple"→o.data = .seq vals n→eW b fz μ vs vals.toList→VR b fz μ (.tup vs) (.ref a)
inductive eW (b:Heap) (fz:Led) (μ : List Addr):List V→List ah→Prop
 | nil:eW b fz μ [] []
 | cons {u:V} {v:ah} {us:List V} {vs:List ah}:VR b fz μ u v→eW b fz μ us vs→eW b fz μ (u :: us) (v :: vs)
end
noncomputable def PVi (b:Heap) (fz:Led) (p:P) (v:ah):Prop:=match p with
 | .none=>v = .none
 | .bool x=>v = .bool x
 | .int i=>∃ t,v = .int i t
 | .str x=>∃ t,v = .str x t
 | .ty n=>v = .type n
 | .bi n=>v = .builtin n
 | .adr a=>v = .ref a
 | .mt=>∃ a,v = .ref a
 | .rj x y z=>∃ a tx ty tz,v = .ref a∧((a,CK x tx y ty z tz)∈fz∨b.get? a=some (CK x tx y ty z tz))
 | .dq=>∃ a o x y,v = .ref a∧((a,o)∈fz∨b.get? a=some o)∧o.cls = .type "collections.deque"∧o.data = .fields #[x,y]
 | .lst vs=>∃ a o n vals,v = .ref a∧((a,o)∈fz∨b.get? a=some o)∧(o.cls = .type "list"∧o.dict=none∧o.slots = #[])∧o.data = .seq vals n∧jS b fz vs vals.toList
 | .tup vs=>∃ a o n vals,v = .ref a∧((a,o)∈fz∨b.get? a=some o)∧o.cls = .type "tuple"∧o.data = .seq vals n∧jS b fz vs vals.toList
theorem PV.inv {b:Heap} {fz:Led} {p:P} {v:ah} (h:PV b fz p v):PVi b fz p v:=by
 cases h with
 | int _ t=>exact ⟨t,rfl⟩
 | str _ t=>exact ⟨t,rfl⟩
 | mt a=>exact ⟨a,rfl⟩
 | rj h=>exact (Y2 _ _ (Y2 _ _ ⟨rfl,h⟩))
 | dq h1 h2 h3=>exact (Y2 _ _ (Y2 _ _ ⟨rfl,h1,h2,h3⟩))
 | lst h1 h2 h3 h4=>exact (Y2 _ _ (Y2 _ _ ⟨rfl,h1,h2,h3,h4⟩))
 | tup h1 h2 h3 h4=>exact (Y2 _ _ (Y2 _ _ ⟨rfl,h1,h2,h3,h4⟩))
 | _=>rfl
noncomputable def VRi (b:Heap) (fz:Led) (μ : List Addr) (u:V) (v:ah):Prop:=match u with
 | .p x=>PV b fz x v
 | .obj k=>∃ a,v = .ref a∧μ[k]?=some a
 | .jq k n=>n="append"∧∃ a la o,v = .ref a∧((a,o)∈fz∨b.get? a=some o)∧o.cls = .type "builtin_function_or_method"∧o.data = .fields #[.builtin "list.append",.ref la]∧μ[k]?=some la
 | .tup vs=>∃ a o n vals,v = .ref a∧((a,o)∈fz∨b.get? a=some o)∧o.cls = .type "tuple"∧o.data = .seq vals n∧eW b fz μ vs vals.toList
theorem VR.inv {b:Heap} {fz:Led} {μ : List Addr} {u:V} {v:ah} (h:VR b fz μ u v):VRi b fz μ u v:=by
 cases h with
 | p h=>exact h
 | obj h=>exact ⟨_,rfl,h⟩
 | jq h1 h2 h3 h4=>exact ⟨rfl,_,_,_,rfl,h1,h2,h3,h4⟩
 | tup h1 h2 h3 h4=>exact (Y2 _ _ (Y2 _ _ ⟨rfl,h1,h2,h3,h4⟩))
theorem VR.Up {b:Heap} {fz:Led} {μ : List Addr} {k:Nat} {a:Addr} (h:VR b fz μ (.obj k) (.ref a)) : μ[k]?=some a:=by
 obtain ⟨a',e,h⟩:=h.inv;rw[AM e];exact h
theorem VR.acU {b:Heap} {fz:Led} {μ : List Addr} {vs:List P} {a:Addr} (h:VR b fz μ (.p (.lst vs)) (.ref a)):∃ o n vals,((a,o)∈fz∨b.get? a=some o)∧(o.cls = .type "list"∧o.dict=none∧o.slots = #[])∧o.data = .seq vals n∧jS b fz vs vals.toList:=by
 obtain ⟨a',o,n,vals,e,h⟩:=h.inv.inv;rw[AM e];exact ⟨o,n,vals,h⟩
noncomputable def agQ (b:Heap) (fz:Led) (μ : List Addr) (us:List V) (vs:List ah):Prop:=match us with
 | []=>vs=[]
 | u :: us=>∃ v r,vs=v :: r∧VR b fz μ u v∧eW b fz μ us r
theorem eW.inv {b:Heap} {fz:Led} {μ : List Addr} {us:List V} {vs:List ah} (h:eW b fz μ us vs):agQ b fz μ us vs:=by
 cases h with
 | nil=>rfl
 | cons h1 h2=>exact (Y2 _ _ ⟨rfl,h1,h2⟩)
theorem eW.tl {b:Heap} {fz:Led} {μ : List Addr} {u:V} {us:List V} {v:ah} {vs:List ah} (h:eW b fz μ (u :: us) (v :: vs)):VR b fz μ u v∧eW b fz μ us vs:=by
 cases h with | cons h1 h2=>exact ⟨h1,h2⟩
noncomputable def agM (b:Heap) (fz:Led) (us:List P) (vs:List ah):Prop:=match us with
 | []=>vs=[]
 | u :: us=>∃ v r,vs=v :: r∧PV b fz u v∧jS b fz us r
theorem jS.inv {b:Heap} {fz:Led} {us:List P} {vs:List ah} (h:jS b fz us vs):agM b fz us vs:=by
 cases h with
 | nil=>rfl
 | cons h1 h2=>exact (Y2 _ _ ⟨rfl,h1,h2⟩)
section
variable {b:Heap} {fz gM:Led} {μ kM:List Addr}
structure pe (fz gM:Led) (μ kM:List Addr):Prop where
 fz:∀ p,p∈fz→p∈gM
 mu:∀ (k:Nat) (a:Addr),μ[k]?=some a→kM[k]?=some a
theorem pe.refl:pe fz fz μ μ:=⟨fun _ h=>h,fun _ _ h=>h⟩
mutual
theorem PV.mono (G:∀ p,p∈fz→p∈gM) {u:P} {v:ah} (h:PV b fz u v):PV b gM u v:=by
 cases h with
 | none=>exact .none
 | bool x=>exact .bool x
 | int i t=>exact .int i t
 | str x t=>exact .str x t
 | ty n=>exact .ty n
 | bi n=>exact .bi n
 | adr a=>exact .adr a
 | mt a=>exact .mt a
 | rj h1=>exact .rj (h1.imp (G _) id)
 | dq h1 h2 h3=>exact .dq (h1.imp (G _) id) h2 h3
 | lst h1 h2 h3 h4=>exact .lst (h1.imp (G _) id) h2 h3 (jS.mono G h4)
 | tup h1 h2 h3 h4=>exact .tup (h1.imp (G _) id) h2 h3 (jS.mono G h4)
theorem jS.mono (G:∀ p,p∈fz→p∈gM) {us:List P} {vs:List ah} (h:jS b fz us vs):jS b gM us vs:=by
 cases h with
 | nil=>exact .nil
 | cons h1 h2=>exact .cons (PV.mono G h1) (jS.mono G h2)
end
mutual
theorem VR.mono (G:pe fz gM μ kM) {u:V} {v:ah} (h:VR b fz μ u v):VR b gM kM u v:=by
 cases h with
 | p h=>exact .p (h.mono G.fz)
 | obj h=>exact .obj (G.mu _ _ h)
 | jq h1 h2 h3 h4=>exact .jq (h1.imp (G.fz _) id) h2 h3 (G.mu _ _ h4)
 | tup h1 h2 h3 h4=>exact .tup (h1.imp (G.fz _) id) h2 h3 (eW.mono G h4)
theorem eW.mono (G:pe fz gM μ kM) {us:List V} {vs:List ah} (h:eW b fz μ us vs):eW b gM kM us vs:=by
 cases h with
 | nil=>exact .nil
 | cons h1 h2=>exact .cons (VR.mono G h1) (eW.mono G h2)
end
theorem jS.append {us v9:List P} {vs Jv:List ah} (h:jS b fz us vs) (h':jS b fz v9 Jv):jS b fz (us++v9) (vs++Jv):=by
 induction us generalizing vs with
 | nil=>cases h;exact h'
 | cons u us ih=>cases h with | cons a r=>exact .cons a (ih r)
theorem jS.length {us:List P} {vs:List ah} (h:jS b fz us vs):vs.length=us.length:=by
 induction us generalizing vs with
 | nil=>cases h;rfl
 | cons u us ih=>cases h with | cons a r=>simp [ih r]
theorem jS.get {us:List P} {vs:List ah} (h:jS b fz us vs) {i:Nat} {u:P} (e:us[i]?=some u):∃ v,vs[i]?=some v∧PV b fz u v:=by
 induction us generalizing vs i with
 | nil=>cases e
 | cons u' us ih=>cases h with | cons a r=>cases i with
  | zero=>simp only [iY,cB] at e;subst e;exact ⟨_,rfl,a⟩
  | succ i=>exact ih r (by simpa using e)
theorem jS.drop {us:List P} {vs:List ah} (h:jS b fz us vs) (i:Nat):jS b fz (us.drop i) (vs.drop i):=by
 induction i generalizing us vs with
 | zero=>exact h
 | succ i ih=>cases h with
  | nil=>exact .nil
  | cons _ r=>exact ih r
theorem jS.set {us:List P} {vs:List ah} (h:jS b fz us vs) (i:Nat) {u:P} {v:ah} (e:PV b fz u v):jS b fz (us.set i u) (vs.set i v):=by
 induction i generalizing us vs with
 | zero=>cases h with
  | nil=>exact .nil
  | cons a r=>exact .cons e r
 | succ i ih=>cases h with
  | nil=>exact .nil
  | cons a r=>exact .cons a (ih r)
theorem eW.append {us v9:List V} {vs Jv:List ah} (h:eW b fz μ us vs) (h':eW b fz μ v9 Jv):eW b fz μ (us++v9) (vs++Jv):=by
 induction us generalizing vs with
 | nil=>cases h;exact h'
 | cons u us ih=>cases h with | cons a r=>exact .cons a (ih r)
theorem eW.length {us:List V} {vs:List ah} (h:eW b fz μ us vs):vs.length=us.length:=by
 induction us generalizing vs with
 | nil=>cases h;rfl
 | cons u us ih=>cases h with | cons a r=>simp [ih r]
end
inductive Eg (b:Heap) (fz:Led) (μ : List Addr):List (Str × V)→List mW→Prop
 | nil:Eg b fz μ [] []
 | cons {k:Str} {u:V} {kv:List (Str × V)} {hsh:Int} {t:Tok} {v:ah} {es:List mW}:VR b fz μ u v→Eg b fz μ kv es→Eg b fz μ ((k,u) :: kv) (⟨hsh,.str k t,v⟩ :: es)
noncomputable def aaZ (b:Heap) (fz:Led) (μ : List Addr):Option V→Option ah→Prop
 | some u,some v=>VR b fz μ u v
 | none,none=>True
 | _,_=>iP
noncomputable def Nv (b:Heap) (fz:Led) (μ : List Addr):Ob→Obj→Prop
 | .list vs,o=>∃ vals n,o=listOf vals n∧jS b fz vs vals.toList
 | .cell ov,o=>∃ cv,o.data = .cell cv∧aaZ b fz μ ov cv
 | .inst C d,o=>∃ dx,μ[d]?=some dx∧o=qm C dx
 | .attrs kv,o=>∃ es n,o=dictOf es n∧Eg b fz μ kv es
 | .gone,o => μ[0]?=some 805∧∃ ps,o={ cls:=.none,data:=.fields ps }∧TriplesOk ps.toList
theorem Eg.mono {b:Heap} {fz gM:Led} {μ kM:List Addr} (G:pe fz gM μ kM) {kv:List (Str × V)} {es:List mW} (h:Eg b fz μ kv es):Eg b gM kM kv es:=by
 induction h with
 | nil=>exact .nil
 | cons a _ ih=>exact .cons (a.mono G) ih
theorem Nv.mono {b:Heap} {fz gM:Led} {μ kM:List Addr} (G:pe fz gM μ kM) {ob:Ob} {o:Obj} (h:Nv b fz μ ob o):Nv b gM kM ob o:=by
 cases ob with
 | list vs=>obtain ⟨a,n,e,r⟩:=h;exact (Y2 a n ⟨e,r.mono G.fz⟩)
 | cell ov =>
  refine bU h fun cv e r=>?_;refine ⟨cv,e,?_⟩;cases ov<;>cases cv<;>first | exact r | exact VR.mono G r
 | inst C d=>obtain ⟨dx,e,r⟩:=h;exact ⟨dx,G.mu _ _ e,r⟩
 | attrs kv=>obtain ⟨es,n,e,r⟩:=h;exact (Y2 es n ⟨e,r.mono G⟩)
 | gone=>exact ⟨G.mu _ _ h.1,h.2⟩
noncomputable def uW (b:Addr) (sc:bV) (code:ah):Prop:=b=fX∧((sc.names.lookup ("split_command":Str)).isSome=true→code = .ref 809)
structure Cx where
 w:dz
 mg:Str→Option ah
 mb:Str→Option ah
 A:fP
 A₀ : fP
 env:Env
 l8:Env
 outer:List Env
 base:Heap
 g:Heap
 L:Addr
 os:Bl
 p8:Option (Str→Option ah)
 gn:Nat
 XB:(Kf w.params).In base
 TB:HF q (Sb q loose) mg mb base
 hA:A.frames=some (l8 :: outer)
 hf:l8.frame=some L
 TF:l8.scope.kind = .function
 hk:env.scope.kind = .function
 yk:env.globals=cy
 Ma:env.builtins=fX
 yj:env.frame=some L
 BO:(env.scope.names.lookup ("split_command":Str)).isSome=true→env.code = .ref 809
 fu:Nat
 Hl:A.depth+4*fu≤900
 NI:A.units+8*fu≤9000
theorem Cx.bl (c:Cx):uW c.env.builtins c.env.scope c.env.code:=⟨c.Ma,c.BO⟩
noncomputable def Cx.K (c:Cx):Frag:=Kf c.w.params
noncomputable def Cx.fs (c:Cx):List Addr:=c.outer.filterMap (·.frame)
noncomputable abbrev Cx.M (c:Cx):u7:=jN pw c.w
noncomputable def bh (mo:Led):List Addr:=mo.map (·.1)
noncomputable def RL (c:Cx) (m:Str→Option ah) (fz hid:Led) (μ : List Addr) (x:Str):Sl→Prop
 | .val v=>c.env.kindOf x=some .local∧∃ val,VR c.base fz μ v val∧((c.env.locals=c.L∧m x=some val) ∨
   ∃ o es ep,(c.env.locals,o)∈hid∧o.data = .dict es ep∧StrKeys es∧Ez es x=some val)
 | .cell j=>(c.env.kindOf x=some .cell∨c.env.kindOf x=some .free)∧∃ a,c.env.cells.lookup x=some a∧μ[j]?=some a
 | .unset=>c.env.kindOf x=some .local
noncomputable def nQ (c:Cx) (m:Str→Option ah) (fz hid:Led) (μ : List Addr) (loc:List (Str × Sl)):Prop:=
 ∀ x sl,loc.lookup x=some sl→RL c m fz hid μ x sl
structure ES (b:Heap) (fz mo:Led) (aP:List Ob):Prop where
 len:mo.length=aP.length
 at_:∀ (k:Nat) ob p,aP[k]?=some ob→mo[k]?=some p→Nv b fz (bh mo) ob p.2
structure Gh (c:Cx) (g:Heap):Prop where
 turn:KtsTurn c.fs c.g g
 B:Below c.A₀ c.base c.outer g
 D:KtsDicts c.fs g
structure Core (g:Heap) (L:Addr) (m:Str→Option ah) (mo fz hid:Led) (h:Heap):Prop where
 F:Fr g L h m
 N:News g L h (mo++(fz++hid))
 nd:(bh mo).Nodup
 dj:∀ p∈mo,∀ r∈fz++hid,p.1≠r.1
 dh:∀ p∈fz,∀ r∈hid,p.1≠r.1
 nh:(bh hid).Nodup
structure Rl (c:Cx) (σ:St) (aD:List V) (tv:List ah) (hid:Led) (s:aG) (g:Heap) (m:Str→Option ah) (mo fz:Led):Prop where
 gh:Gh c g
 core:Core g c.L m mo fz hid s.heap
 p8:∀ z7,c.p8=some z7→m=z7
 loc:nQ c m fz hid (bh mo) σ.loc
 aP:ES c.base fz mo σ.aP
 aD:eW c.base fz (bh mo) aD tv
 gens:Ho s.gens∧c.gn≤s.gens.size
 os:s.os=c.os
 dw:(σ.dw = .no→c.A.handled=none)∧(σ.dw≠.yes→jH c.A hid)
noncomputable def Rel (c:Cx) (σ:St) (aD:List V) (tv:List ah) (hid:Led) (s:aG):Prop:=∃ g m mo fz,Rl c σ aD tv hid s g m mo fz
section
variable {g:Heap} {L:Addr} {m:Str→Option ah} {mo fz hid:Led}
theorem Core.s6 {h:Heap} (C:Core g L m mo fz hid h) (o:Obj):Core g L m mo fz hid (h.push o):=
 ⟨C.F.push o,fun p hp=>⟨bI _ (C.N p hp).1,(C.N p hp).2⟩,C.nd,C.dj,C.dh,C.nh⟩
theorem Core.fresh {h:Heap} (C:Core g L m mo fz hid h):∀ p∈mo++(fz++hid),p.1≠h.objs.size:=fun p hp=>fU (gc (C.N p hp).1)
theorem Core.new {h:Heap} (C:Core g L m mo fz hid h) (o:Obj) (hf:o.isFreed=false):(h.push o).get? h.objs.size=some o∧h.objs.size≠L∧g.get? h.objs.size=none:=by
 have:=News.push C.F (News.nil:News g L h []) o hf;exact this (h.objs.size,o) (.head _)
theorem Core.UH {h:Heap} (C:Core g L m mo fz hid h) (o:Obj) (hf:o.isFreed=false):Core g L m mo ((h.objs.size,o) :: fz) hid (h.push o):=by
 have C':=C.s6 o;refine ⟨C'.F,fun p hp=>?_,C.nd,fun p hp r hr=>?_,fun p hp r hr=>?_,C.nh⟩
 ·rcases aj.mp hp with q | q
  ·exact C'.N p (af _ q)
  ·rcases av.mp q with rfl | q
   ·exact C.new o hf
   ·exact C'.N p (aa _ q)
 ·rcases av.mp hr with rfl | hr
  ·exact C.fresh p (af _ hp)
  ·exact C.dj p hp r hr
 ·rcases av.mp hp with rfl | hp
  ·exact (C.fresh r (aa _ (aa _ hr))).symm
  ·exact C.dh p hp r hr
theorem Core.Qq {h:Heap} (C:Core g L m mo fz hid h) (o:Obj) (hf:o.isFreed=false):Core g L m mo fz ((h.objs.size,o) :: hid) (h.push o):=by
 have C':=C.s6 o;refine ⟨C'.F,fun p hp=>?_,C.nd,fun p hp r hr=>?_,fun p hp r hr=>?_,?_⟩
 ·rcases aj.mp hp with q | q
  ·exact C'.N p (af _ q)
  ·refine bJ (aj.mp q) (fun q=>?_) fun q=>?_
   ·exact C'.N p (aa _ (af _ q))
   ·rcases av.mp q with rfl | q
    ·exact C.new o hf
    ·exact C'.N p (aa _ (aa _ q))
 ·rcases aj.mp hr with hr | hr
  ·exact C.dj p hp r (af _ hr)
  ·rcases av.mp hr with rfl | hr
   ·exact C.fresh p (af _ hp)
   ·exact C.dj p hp r (aa _ hr)
 ·rcases av.mp hr with rfl | hr
  ·exact C.fresh p (aa _ (af _ hp))
  ·exact C.dh p hp r hr
 ·show (h.objs.size :: bh hid).Nodup
  refine bF.mpr ⟨fun q=>?_,C.nh⟩;refine bU (aX.mp q) fun p hp e=>?_;exact C.fresh p (aa _ (aa _ hp)) e
theorem Core.UI {h:Heap} (C:Core g L m mo fz hid h) (o:Obj) (hf:o.isFreed=false):Core g L m (mo++[(h.objs.size,o)]) fz hid (h.push o):=by
 have C':=C.s6 o;refine ⟨C'.F,fun p hp=>?_,?_,fun p hp r hr=>?_,C.dh,C.nh⟩
 ·rcases aj.mp hp with q | q
  ·refine bJ (aj.mp q) (fun q=>?_) fun q=>?_
   ·exact C'.N p (af _ q)
   ·obtain rfl:=bA.mp q;exact C.new o hf
  ·exact C'.N p (aa _ q)
 ·unfold bh
  rw[aV,mq];refine ⟨C.nd,by simp,?_⟩;intro a ha b hb;refine bU (aX.mp ha) fun p hp zz5=>?_;rw[← zz5];rw[cZ,List.map_nil,bA] at hb;subst hb;exact C.fresh p (af _ hp)
 ·refine bJ (aj.mp hp) (fun q=>?_) fun q=>?_
  ·exact C.dj p q r hr
  ·obtain rfl:=bA.mp q
   exact (C.fresh r (aa _ hr)).symm
theorem Core.local {h h':Heap} {m':Str→Option ah} (C:Core g L m mo fz hid h) (hn:h'.Ns L m') (hs:mh L h h'):Core g L m' mo fz hid h':=
 ⟨C.F.set hn hs,C.N.set hs,C.nd,C.dj,C.dh,C.nh⟩
set_option tactic.hygienic true in
theorem rZ {k:Nat} {a:Addr} {o o':Obj} (hk:mo[k]?=some (a,o)):bh (mo.set k (a,o'))=bh mo:=by
 unfold bh;rw[List.map_set];refine qi fun i=>?_;rw[iF];split
 ·rename_i e
  rw[← e,bM,hk];have kL:k<mo.length:=(az.mp hk).1;simp [kL]
 ·rfl
set_option tactic.hygienic true in
theorem Core.D4 {h h':Heap} {k:Nat} {a:Addr} {o o':Obj} (C:Core g L m mo fz hid h) (hk:mo[k]?=some (a,o)) (hs:mh a h h') (ho:h'.get? a=some o'):Core g L m (mo.set k (a,o')) fz hid h':=by
 have kL:k<mo.length:=by
  refine oC (mo[k]?) (fun q=>?_) fun _ q=>?_
  ·rw[q] at hk;cases hk
  ·exact (az.mp q).1
 have qD:(a,o)∈mo:=bf hk;have H:=C.N (a,o) (af _ qD);have had:bh (mo.set k (a,o'))=bh mo:=rZ hk;have uniq:∀ (i:Nat) (p:Addr × Obj),mo[i]?=some p→i≠k→p.1≠a:=fun i p hi tV e=>by
  have h1:(bh mo)[i]?=some a:=by unfold bh;rw[bM,hi,← e];rfl
  have h2:(bh mo)[k]?=some a:=by unfold bh;rw[bM,hk];rfl
  have VW:i<(bh mo).length:=(az.mp h1).1;have Ew:k<(bh mo).length:=(az.mp h2).1;exact tV ((Sv (h₀:=VW) (h₁:=Ew) C.nd).mp (by rw[(az.mp h1).2,(az.mp h2).2]))
 refine ⟨⟨C.F.ns.sameBut hs (eO H.2.1),fun b ob e=>(hs.2 b (fun q=>?_)).trans (C.F.keep b ob e),C.F.above⟩,fun p hp=>?_,had ▸ C.nd,fun p hp r hr=>?_,C.dh,C.nh⟩
 ·rw[q,H.2.2] at e;cases e
 ·rcases aj.mp hp with q | q
  ·refine eU (tB.mp q) fun i hi=>?_
   rw[iF] at hi;split at hi
   ·simp only [kL,gz,cB] at hi
    rw[← hi];exact ⟨ho,H.2⟩
   ·rename_i tV
    have P:=C.N p (af _ (bf hi));exact ⟨(hs.2 p.1 (uniq i p hi (eO tV))).trans P.1,P.2⟩
  ·have P:=C.N p (aa _ q)
   exact ⟨(hs.2 p.1 (C.dj _ qD p q).symm).trans P.1,P.2⟩
 ·refine eU (tB.mp hp) fun i hi=>?_
  rw[iF] at hi;split at hi
  ·simp only [kL,gz,cB] at hi
   rw[← hi];exact C.dj _ qD r hr
  ·exact C.dj p (bf hi) r hr
end
section
variable {c:Cx} {σ:St} {aD:List V} {tv:List ah} {hid:Led} {s:aG} {g:Heap} {m:Str→Option ah} {mo fz:Led}
theorem RL.mono {gM rH:Led} {μ kM:List Addr} (G:pe fz gM μ kM) (hh:∀ p,p∈hid→p∈rH) {x:Str} {sl:Sl} (h:RL c m fz hid μ x sl):RL c m gM rH kM x sl:=by
 cases sl with
 | unset=>exact h
 | val v =>
  refine cz h fun a zz6=>?_;refine bU zz6 fun val b d=>?_;exact ⟨a,val,b.mono G,d.imp id fun aiN=>AN aiN fun o es ep e1 e2=>(Y2 o es ⟨ep,hh _ e1,e2⟩)⟩
 | cell j=>obtain ⟨a,ad,b,d⟩:=h;exact ⟨a,ad,b,G.mu _ _ d⟩
theorem nQ.mono {gM rH:Led} {μ kM:List Addr} {loc:List (Str × Sl)} (G:pe fz gM μ kM) (hh:∀ p,p∈hid→p∈rH) (h:nQ c m fz hid μ loc):nQ c m gM rH kM loc:=
 fun x sl e=>(h x sl e).mono G hh
theorem pe.ND {fz:Led} {μ : List Addr} {p:Addr × Obj}:pe fz (p :: fz) μ μ:=⟨fun _ h=>.tail _ h,fun _ _ h=>h⟩
theorem pe.app {fz mo:Led} {p:Addr × Obj}:pe fz fz (bh mo) (bh (mo++[p])):=
 ⟨fun _ h=>h,fun k a h=>by unfold bh at *;rw[aV,cW (az.mp h).1];exact h⟩
theorem ES.ND {b:Heap} {p:Addr × Obj} {aP:List Ob} (h:ES b fz mo aP):ES b (p :: fz) mo aP:=⟨h.len,fun k ob r h1 h2=>(h.at_ k ob r h1 h2).mono .ND⟩
theorem Rl.jo (R:Rl c σ aD tv hid s g m mo fz):∀ b o,c.base.get? b=some o→s.heap.get? b=some o:=fun b o e=>R.core.F.keep b o (R.gh.B.stays b o e)
theorem Rl.at (R:Rl c σ aD tv hid s g m mo fz) {a:Addr} {o:Obj} (h:(a,o)∈fz∨c.base.get? a=some o):s.heap.get? a=some o:=by
 refine bJ (h) (fun h=>?_) fun h=>?_
 ·exact (R.core.N _ (aa _ (af _ h))).1
 ·exact R.jo _ _ h
theorem Rl.rel (R:Rl c σ aD tv hid s g m mo fz):Rel c σ aD tv hid s:=(Y2 g m (Y2 mo fz (R)))
theorem Rl.push {u:V} {v:ah} (R:Rl c σ aD tv hid s g m mo fz) (hv:VR c.base fz (bh mo) u v):Rl c σ (u :: aD) (v :: tv) hid s g m mo fz:=
 ⟨R.gh,R.core,R.p8,R.loc,R.aP,.cons hv R.aD,R.gens,R.os,R.dw⟩
theorem Rel.push {u:V} {v:ah} (h:Rel c σ aD tv hid s) (hv:∀ b fz μ,VR b fz μ u v):Rel c σ (u :: aD) (v :: tv) hid s:=by
 refine iM h fun g m mo fz R=>?_;exact (R.push (hv _ _ _)).rel
theorem Rl.kj {kj:List V} {Ri:List ah} (R:Rl c σ aD tv hid s g m mo fz) (h:eW c.base fz (bh mo) kj Ri):Rl c σ kj Ri hid s g m mo fz:=
 ⟨R.gh,R.core,R.p8,R.loc,R.aP,h,R.gens,R.os,R.dw⟩
theorem Rel.pop {u:V} {v:ah} (h:Rel c σ (u :: aD) (v :: tv) hid s):Rel c σ aD tv hid s:=by
 refine iM h fun g m mo fz R=>?_;refine (R.kj ?_).rel;exact R.aD.tl.2
theorem Rl.toks {k:Nat} (R:Rl c σ aD tv hid s g m mo fz):Rl c σ aD tv hid { s with toks:=k } g m mo fz:=
 ⟨R.gh,R.core,R.p8,R.loc,R.aP,R.aD,R.gens,R.os,R.dw⟩
theorem Rel.toks {k:Nat} (h:Rel c σ aD tv hid s):Rel c σ aD tv hid { s with toks:=k }:=by
 refine iM h fun g m mo fz R=>?_;exact R.toks.rel
theorem Rl.sC (R:Rl c σ aD tv hid s g m mo fz) (o:Obj) (hf:o.isFreed=false):Rl c σ aD tv hid { s with heap:=s.heap.push o } g m mo ((s.heap.objs.size,o) :: fz):=
 ⟨R.gh,R.core.UH _ hf,R.p8,R.loc.mono .ND (fun _ h=>h),R.aP.ND,R.aD.mono .ND,R.gens,R.os,R.dw⟩
theorem Rl.Gr (R:Rl c σ aD tv hid s g m mo fz) (o:Obj):Rl c σ aD tv hid { s with heap:=s.heap.push o } g m mo fz:=
 ⟨R.gh,R.core.s6 _,R.p8,R.loc,R.aP,R.aD,R.gens,R.os,R.dw⟩
theorem Rl.z8 (R:Rl c σ aD tv hid s g m mo fz) (o:Obj) (ob:Ob) (hf:o.isFreed=false) (ho:Nv c.base fz (bh (mo++[(s.heap.objs.size,o)])) ob o) :
  Rl c { σ with aP:=σ.aP++[ob] } aD tv hid { s with heap:=s.heap.push o } g m (mo++[(s.heap.objs.size,o)]) fz:=by
 have G:=pe.app (fz:=fz) (mo:=mo) (p:=(s.heap.objs.size,o));refine ⟨R.gh,R.core.UI _ hf,R.p8,R.loc.mono G (fun _ h=>h),⟨by simp [R.aP.len],fun k ob' p h1 h2=>?_⟩,R.aD.mono G,R.gens,R.os,R.dw⟩;by_cases hk:k<σ.aP.length
 ·rw[cW hk] at h1
  rw[cW (by rw[R.aP.len];exact hk)] at h2;exact (R.aP.at_ k ob' p h1 h2).mono G
 ·have Ew:σ.aP.length≤k:=rR hk
  rw[bw Ew] at h1;rw[bw (by rw[R.aP.len];exact Ew),R.aP.len] at h2;cases hz:k - σ.aP.length with
  | zero =>
   rw[hz] at h1 h2;simp only [iY,cB] at h1 h2;subst h1 h2;exact ho
  | succ j=>rw[hz] at h1;simp at h1
theorem Rl.kX (R:Rl c σ aD tv hid s g m mo fz) {k:Nat} {a:Addr} {ob:Ob} (ha:(bh mo)[k]?=some a) (hb:σ.aP[k]?=some ob) :
  ∃ o,mo[k]?=some (a,o)∧s.heap.get? a=some o∧Nv c.base fz (bh mo) ob o:=by
 unfold bh at ha;rw[bM] at ha;refine oC (mo[k]?) (fun q=>?_) fun p q=>?_
 ·rw[q] at ha;cases ha
 ·rw[q] at ha
  obtain rfl:=aC ha;exact ⟨p.2,rfl,(R.core.N p (af _ (bf q))).1,R.aP.at_ _ _ _ hb q⟩
theorem Rl.D4 {h':Heap} {k:Nat} {a:Addr} {o o':Obj} {ob:Ob} (R:Rl c σ aD tv hid s g m mo fz) (hk:mo[k]?=some (a,o)) (hs:mh a s.heap h') (ho:h'.get? a=some o') (hb:Nv c.base fz (bh mo) ob o') :
  Rl c { σ with aP:=σ.aP.set k ob } aD tv hid { s with heap:=h' } g m (mo.set k (a,o')) fz:=by
 have e:=rZ (o':=o') hk;refine ⟨R.gh,R.core.D4 hk hs ho,R.p8,?_,⟨by simp [R.aP.len],fun i ob' p h1 h2=>?_⟩,?_,R.gens,R.os,R.dw⟩
 ·rw[e];exact R.loc
 ·rw[e]
  rw[iF] at h1 h2;by_cases hik:k=i
  ·subst hik
   have kL:k<mo.length:=(az.mp hk).1;simp only [gz,kL,R.aP.len ▸ kL,cB] at h1 h2;subst h1 h2;exact hb
  ·simp only [hik,jy] at h1 h2
   exact R.aP.at_ _ _ _ h1 h2
 ·rw[e];exact R.aD
end
end
section
variable {c:Cx} {σ:St} {aD:List V} {tv:List ah} {hid:Led} {s:aG} {g:Heap} {m:Str→Option ah} {mo fz:Led} {α β : Type} {ev:Ev} {A A' A1 A2 B:fP} {E:ah→aG→Prop} {r:Res V} {u:V} {v va vb ov fv uv:ah} {s':aG} {f:α→Mo β} {t t1 t2:Tok} {Q:ah→aG→Prop} {o o' oe oT og:Obj} {a l T I L C S fn fi:Addr} {σ' mG:St} {vs kv:List ah} {n k j gi:Nat} {b h h':Heap} {i d:Int} {x y n2 n1:Str} {μ : List Addr} {pos px py gp:Pos} {p:P} {op:wZ} {ps rest:List P} {us:List V} {value e elt:Expr} {id:dD} {vals xs:eF ah} {es:List Expr} {env:Env} {M:u7} {It:Nat→Obj→Prop} {nx:Nat→St→Option (Option P)} {prog:qj} {w:dz} {ex:Bool} {ob:Ob} {K:Frag} {aP:List Ob} {loc:List (Str × Sl)} {fd:kP} {binds ku:List (Str × V)} {rH pre post:Led} {body:List Stmt} {RR:Result→aG→Prop} {sc cK:bV} {gens:List gx} {ts:List Str} {zD:List uP} {hn:Hn}
noncomputable def WM (x:Xn) (e:Addr) (h:Heap):Prop:=∃ oe vs,h.get? e=some oe∧oe.data = .fields vs∧vs.size=6∧(x.plain=true→vs[2]?=some .none)
noncomputable def n7 (c:Cx) (x:Xn) (e:Addr) (σ:St) (aD:List V) (tv:List ah) (hid:Led) (s:aG):Prop:=
 ∃ bs a0 g m mo fz,Rl c σ aD tv hid s g m mo fz∧Heap.HeldW bs (c.l8 :: c.outer) e (.type x.cls) a0 c.L s.heap∧(∀ b o,g.get? b=some o→b∉c.fs→bs.get? b=some o)∧(∀ p∈mo++(fz++hid),bs.get? p.1=some p.2)∧WM x e s.heap
noncomputable def kH {β : Type} (c:Cx) (r:Res β) (aD:List V) (tv:List ah) (hid:Led):ah→aG→Prop:=fun ev s' =>
 ∃ x σ' e,r = .exc x σ'∧ev = .ref e∧((∃ h,EO h s'.heap e x∧Rel c σ' aD tv hid { s' with heap:=h })∨n7 c x e σ' aD tv hid s')
noncomputable def iZ (c:Cx) (r:Res V) (aD:List V) (tv:List ah) (hid:Led):ah→aG→Prop:=fun v s'=>∃ u σ',r = .ok u σ'∧Rel c σ' (u :: aD) (v :: tv) hid s'
noncomputable def Vt (c:Cx) (r:Res Bool) (aD:List V) (tv:List ah) (hid:Led):Bool→aG→Prop:=fun b s'=>∃ σ',r = .ok b σ'∧Rel c σ' aD tv hid s'
noncomputable def PoU (c:Cx) (r:Res Unit) (aD:List V) (tv:List ah) (hid:Led):Unit→aG→Prop:=fun _ s'=>∃ σ',r = .ok () σ'∧Rel c σ' aD tv hid s'
noncomputable def Lx (c:Cx) (σ:St) (aD:List V) (tv:List ah) (hid:Led) (s:aG):Fl→Flow→Prop
 | .next,.next=>Rel c σ aD tv hid s
 | .brk,.brk=>Rel c σ aD tv hid s
 | .cont,.cont=>Rel c σ aD tv hid s
 | .ret u,.ret v=>Rel c σ (u :: aD) (v :: tv) hid s
 | _,_=>iP
noncomputable def Vs (c:Cx) (r:Res Fl) (aD:List V) (tv:List ah) (hid:Led):Flow→aG→Prop:=fun f s'=>∃ fl σ',r = .ok fl σ'∧Lx c σ' aD tv hid s' fl f
noncomputable def SE (c:Cx) (t:Sem ah) (σ:St) (r:Res V):Prop:=r≠.fail→∀ aD tv hid s,Rel c σ aD tv hid s→aF c.M c.A t (iZ c r aD tv hid) (kH c r aD tv hid) s
noncomputable def SB (c:Cx) (t:Sem Bool) (σ:St) (r:Res Bool):Prop:=r≠.fail→∀ aD tv hid s,Rel c σ aD tv hid s→aF c.M c.A t (Vt c r aD tv hid) (kH c r aD tv hid) s
noncomputable def SS (c:Cx) (t:Sem Flow) (σ:St) (r:Res Fl):Prop:=r≠.fail→∀ aD tv hid s,Rel c σ aD tv hid s→aF c.M c.A t (Vs c r aD tv hid) (kH c r aD tv hid) s
noncomputable def iN {α β : Type} (m:Res α) (f:α→Mo β):Res β:=match m with
 | .fail=>.fail
 | .ok a σ'=>f a σ'
 | .exc x σ'=>.exc x σ'
theorem mR (m:Mo α) (f:α→Mo β) (σ:St):(m >>= f) σ=iN (m σ) f:=rfl
section
theorem kH.pop {r:Res β} {u:V} {v:ah} {ev:ah} {s':aG} (h:kH c r (u :: aD) (v :: tv) hid ev s'):kH c r aD tv hid ev s':=
 Ep h fun x σ' e h1 h2 h4=>(Y2 x σ' ⟨e,h1,h2,h4.elim (fun h=>.inl (bU h fun h a b=>⟨h,a,b.pop⟩)) fun h=>.inr (X65 h fun bs a0 g m mo fz R r1 r2 r3 r4=>(Y2 bs a0 (Y2 g m (Y2 mo fz ⟨R.kj R.aD.tl.2,r1,r2,r3,r4⟩))))⟩)
theorem kH.iN {m:Res α} {f:α→Mo β} {ev:ah} {s':aG} (h:kH c m aD tv hid ev s'):kH c (iN m f) aD tv hid ev s':=by
 refine AN h fun x σ' e h1 h2=>?_;subst h1;exact (Y2 x σ' ⟨e,rfl,h2⟩)
theorem qM {m:Res α} (h:iN m f≠.fail):m≠.fail:=fun e=>by rw[e] at h;exact h rfl
theorem SE.use {t:Sem ah} {m:Res V} {f:V→Mo β} (H:SE c t σ m) (hr:iN m f≠.fail) (R:Rel c σ aD tv hid s)
  (hE:∀ ev s',kH c (iN m f) aD tv hid ev s'→E ev s')
  (k:∀ u σ' v s',iN m f=f u σ'→Rel c σ' (u :: aD) (v :: tv) hid s'→Q v s'):aF c.M c.A t Q E s:=
 wpAny_mono (H (qM hr) aD tv hid s R) (fun v s' adT=>jU adT fun u σ' e R'=>k u σ' v s' (by rw[e];rfl) R') fun ev s' h=>hE ev s' h.iN
theorem SB.use {t:Sem Bool} {m:Res Bool} {f:Bool→Mo β} {Q:Bool→aG→Prop} (H:SB c t σ m) (hr:iN m f≠.fail) (R:Rel c σ aD tv hid s)
  (hE:∀ ev s',kH c (iN m f) aD tv hid ev s'→E ev s')
  (k:∀ b σ' s',iN m f=f b σ'→Rel c σ' aD tv hid s'→Q b s'):aF c.M c.A t Q E s:=
 wpAny_mono (H (qM hr) aD tv hid s R) (fun b s' adU=>bU adU fun σ' e R'=>k b σ' s' (by rw[e];rfl) R') fun ev s' h=>hE ev s' h.iN
theorem SE.mk {t:Sem ah} {m:Res V} (H:∀ r,m=r→r≠.fail→∀ aD tv hid s,Rel c σ aD tv hid s→aF c.M c.A t (iZ c r aD tv hid) (kH c r aD tv hid) s):SE c t σ m:=H m rfl
theorem SB.mk {t:Sem Bool} {m:Res Bool} (H:∀ r,m=r→r≠.fail→∀ aD tv hid s,Rel c σ aD tv hid s→aF c.M c.A t (Vt c r aD tv hid) (kH c r aD tv hid) s):SB c t σ m:=H m rfl
theorem SS.mk {t:Sem Flow} {m:Res Fl} (H:∀ r,m=r→r≠.fail→∀ aD tv hid s,Rel c σ aD tv hid s→aF c.M c.A t (Vs c r aD tv hid) (kH c r aD tv hid) s):SS c t σ m:=H m rfl
theorem SE.go {t:Sem ah} {mm:Mo V} {f:V→Mo β} {r:Res β} (H:SE c t σ (mm σ)) (h:(mm >>= f) σ=r) (hn:r≠.fail) (R:Rel c σ aD tv hid s)
  (hE:∀ ev s',kH c r aD tv hid ev s'→E ev s') (k:∀ u σ' v s',f u σ'=r→Rel c σ' (u :: aD) (v :: tv) hid s'→Q v s'):aF c.M c.A t Q E s:=
 SE.use (f:=f) H (fun q=>hn (h.symm.trans q)) R (fun ev s' x=>hE ev s' (h ▸ x)) fun u σ' v s' e R'=>k u σ' v s' (e.symm.trans h) R'
theorem SB.go {t:Sem Bool} {mm:Mo Bool} {f:Bool→Mo β} {r:Res β} {Q:Bool→aG→Prop} (H:SB c t σ (mm σ)) (h:(mm >>= f) σ=r) (hn:r≠.fail) (R:Rel c σ aD tv hid s)
  (hE:∀ ev s',kH c r aD tv hid ev s'→E ev s') (k:∀ b σ' s',f b σ'=r→Rel c σ' aD tv hid s'→Q b s'):aF c.M c.A t Q E s:=
 SB.use (f:=f) H (fun q=>hn (h.symm.trans q)) R (fun ev s' x=>hE ev s' (h ▸ x)) fun b σ' s' e R'=>k b σ' s' (e.symm.trans h) R'
theorem SE.fin {t:Sem ah} {m r:Res V} (H:SE c t σ m) (h:m=r) (hn:r≠.fail) (R:Rel c σ aD tv hid s):aF c.M c.A t (iZ c r aD tv hid) (kH c r aD tv hid) s:=by subst h;exact H hn _ _ _ _ R
theorem SB.fin {t:Sem Bool} {m r:Res Bool} (H:SB c t σ m) (h:m=r) (hn:r≠.fail) (R:Rel c σ aD tv hid s):aF c.M c.A t (Vt c r aD tv hid) (kH c r aD tv hid) s:=by subst h;exact H hn _ _ _ _ R
theorem SS.fin {t:Sem Flow} {m r:Res Fl} (H:SS c t σ m) (h:m=r) (hn:r≠.fail) (R:Rel c σ aD tv hid s):aF c.M c.A t (Vs c r aD tv hid) (kH c r aD tv hid) s:=by subst h;exact H hn _ _ _ _ R
theorem bK {γ : Type} {o:Option γ} {f : γ→Mo β} {r:Res β} (h:Mo.get o f σ=r) (hn:r≠.fail):∃ x,o=some x∧f x σ=r:=by
 cases o with
 | none=>exact absurd h.symm hn
 | some x=>exact ⟨x,rfl,h⟩
theorem bW {p:Prop} [mV p] {a:Mo β} {r:Res β} (h:(if p then a else Mo.fail) σ=r) (hn:r≠.fail):p∧a σ=r:=by
 by_cases q:p
 ·rw[aA q] at h;exact ⟨q,h⟩
 ·rw[aS q] at h;exact absurd h.symm hn
theorem i8 {a:α} {m:Mo α} {r:Res β} (e:m σ = .ok a σ') (h:(m >>= f) σ=r):f a σ'=r:=by
 rw[mR,e] at h;exact h
theorem B8 {o:Ob} {vs:List P} (h:tX o=some vs):o = .list vs:=by
 cases o with
 | list _=>cases h;rfl
 | _=>exact nomatch h
theorem CM {l:List ah} (h:K9 o=some l):∃ vs n,o.data = .seq vs n∧l=vs.toList:=by
 unfold K9 at h;cases hd:o.data with
 | seq vs n=>rw[hd] at h;exact (Y2 vs n ⟨rfl,(aC h).symm⟩)
 | _=>rw[hd] at h;exact nomatch h
theorem BH {f:kP} (h:OJ o=some f):o.data = .func f:=by
 unfold OJ at h;cases hd:o.data with
 | func g=>rw[hd] at h;exact aK Data.func (aC h)
 | _=>rw[hd] at h;exact nomatch h
theorem Mn {n:dD} (h:V2 v n=true):v = .type n:=by
 cases v with
 | type m=>exact aK gU (beq_iff_eq.mp h)
 | _=>exact nomatch h
theorem CJ (h:refOf v=some a):v = .ref a:=by
 cases v with
 | ref b=>exact aK gJ (aC h)
 | _=>exact nomatch h
theorem M0 {b:FuncBody} {l:List Stmt} (h:Wu b=some l):b = .stmts l:=by
 cases b with
 | stmts b=>exact aK FuncBody.stmts (aC h)
 | _=>exact nomatch h
theorem Mj (h:intOf u=some i):u = .p (.int i):=bU (aQ.mp h) fun x _ e=>e ▸ x.2
theorem wM (h:strOf u=some x):u = .p (.str x):=bU (aQ.mp h) fun x _ e=>e ▸ x.2
theorem CF (h:objOf u=some k):u = .obj k:=bU (aQ.mp h) fun x _ e=>e ▸ x.2
theorem GB {x:P} (h:mQ u=some x):u = .p x:=bU (aQ.mp h) fun x _ e=>e ▸ x.2
theorem IQ {x:List P} (h:wG u=some x):u = .p (.lst x):=bU (aQ.mp h) fun x _ e=>e ▸ x.2
theorem VR.uI {x:P} (h:VR b fz μ u v) (e:mQ u=some x):PV b fz x v:=by
 rw[GB e] at h;exact h.inv
theorem VR.acT {x:List P} (h:VR b fz μ u v) (e:wG u=some x):PV b fz (.lst x) v:=by
 rw[IQ e] at h;exact h.inv
theorem VR.pC (h:VR b fz μ u v) (e:intOf u=some i):∃ t,v = .int i t:=by
 rw[Mj e] at h;exact PV.inv h.inv
theorem VR.pG (h:VR b fz μ u v) (e:strOf u=some x):∃ t,v = .str x t:=by
 rw[wM e] at h;exact PV.inv h.inv
theorem VR.objE (h:VR b fz μ u v) (e:objOf u=some k):∃ a,v = .ref a∧μ[k]?=some a:=by
 rw[CF e] at h;exact h.inv
theorem iZ.val (h:r = .ok u σ) (R:Rel c σ aD tv hid s) (hv:∀ b fz μ,VR b fz μ u v):iZ c r aD tv hid v s:=(Y2 u σ ⟨h,R.push hv⟩)
theorem iZ.adP (h:r = .ok u σ) (R:Rel c σ aD tv hid s) (hv:∀ b fz μ,VR b fz μ u v):iZ c r aD tv hid v { s with toks:=k }:=(Y2 u σ ⟨h,R.toks.push hv⟩)
theorem VR.int {b fz μ i t}:VR b fz μ (.p (.int i)) (.int i t):=.p (.int i t)
theorem VR.str {b fz μ i t}:VR b fz μ (.p (.str i)) (.str i t):=.p (.str i t)
theorem VR.bool {b fz μ i}:VR b fz μ (.p (.bool i)) (.bool i):=.p (.bool i)
theorem SE.int {i:Int} {k:Nat} {pos:Pos}:SE c (eval (.Constant (.int i) k pos) c.env) σ (.ok (.p (.int i)) σ):=
 fun _ aD tv hid s R=>wpAny_Constant_int (.adP rfl R fun _ _ _=>.int)
theorem SE.str {x:Str} {k:Nat} {pos:Pos}:SE c (eval (.Constant (.str x) k pos) c.env) σ (.ok (.p (.str x)) σ):=
 fun _ aD tv hid s R=>oU (.adP rfl R fun _ _ _=>.str)
theorem SE.none {k:Nat} {pos:Pos}:SE c (eval (.Constant .none k pos) c.env) σ (.ok (.p .none) σ):=
 fun _ aD tv hid s R=>wpAny_pure (.val rfl R fun _ _ _=>.p .none)
theorem SE.bool {b:Bool} {k:Nat} {pos:Pos}:SE c (eval (.Constant (.bool b) k pos) c.env) σ (.ok (.p (.bool b)) σ):=
 fun _ aD tv hid s R=>wpAny_pure (.val rfl R fun _ _ _=>.bool)
theorem PV.Qf (h:EE v=some p):PV b fz p v:=by
 cases v with
 | none=>cases h;exact .none
 | bool _=>cases h;exact .bool _
 | int _ _=>cases h;exact .int _ _
 | str _ _=>cases h;exact .str _ _
 | type _=>cases h;exact .ty _
 | builtin _=>cases h;exact .bi _
 | ref _=>cases h;exact .adr _
 | _=>exact nomatch h
noncomputable def Sh (p:Str→P→Prop):List (Str × P)→Prop
 | []=>True
 | e :: r=>p e.1 e.2∧Sh p r
theorem Sh.at {p:Str→P→Prop} {x:Str} {v:P} {l:List (Str × P)} (H:Sh p l) (h:l.lookup x=some v):p x v:=by
 induction l with
 | nil=>cases h
 | cons e l ih =>
  rw[aH] at h;cases q:x==e.1 with
  | true =>
   rw[q] at h;cases h;rw[eq_of_beq q];exact H.1
  | false=>rw[q] at h;exact ih H.2 h
noncomputable def aaS (x:Str) (p:P):Prop:=x≠"__name__"∧∃ v,bootBuiltins x=some v∧EE v=some p
theorem LD (x:Str) (p:P) (h:HO.lookup x=some p):aaS x p:=
 Sh.at (l:=HO) ⟨⟨by decide,_,rfl,rfl⟩,⟨by decide,_,rfl,rfl⟩,⟨by decide,_,rfl,rfl⟩,⟨by decide,_,rfl,rfl⟩,⟨by decide,_,rfl,rfl⟩,⟨by decide,_,rfl,rfl⟩,⟨by decide,_,rfl,rfl⟩,⟨by decide,_,rfl,rfl⟩,⟨by decide,_,rfl,rfl⟩,⟨by decide,_,rfl,rfl⟩,⟨by decide,_,rfl,rfl⟩,⟨by decide,_,rfl,rfl⟩,⟨by decide,_,rfl,rfl⟩,trivial⟩ h
theorem Oo {o:Ob} {v:V} (h:abf o=some v):o = .cell (some v):=by
 cases o with
 | cell w=>exact aK Ob.cell h
 | _=>exact nomatch h
set_option tactic.hygienic true in
theorem SE.name:SE c (eval (.Name x pos) c.env) σ (I9 c.K c.env.scope x σ):=by
 intro hr aD tv hid s R;have hd:¬ (x==("__debug__":Str)||x==("__classdict__":Str))=true:=fun q=>hr (aA q);have e0:I9 c.K c.env.scope x σ=Mo.opt ((c.env.scope.names.lookup x).bind (Pw c.K σ x)) σ:=aS hd;rw[e0] at hr ⊢;clear e0
 generalize hb:(c.env.scope.names.lookup x).bind (Pw c.K σ x)=b at hr ⊢;cases b with
 | none=>exact absurd rfl hr
 | some u =>
 have hd:=RC.mpr hd;have VU:(x==("__debug__":Str))=false:=(nO.mp hd).1;refine iM R fun g m mo fz R=>bU (bind_some hb) fun nk hk hb=>?_;by_cases q:(nk == .globalImplicit)=true
 ·refine bU (wH ((aA q).symm.trans hb)) fun p hp eu=>?_
  rw[beq_iff_eq.mp q] at hk;have fin:∀ v,EE v=some p→iZ c (.ok u σ) aD tv hid v s:=fun v hv=>(Y2 _ _ ⟨rfl,(R.push (eu ▸ .p (.Qf hv))).rel⟩);have XF:=c.TB.g.keeps R.jo;unfold glob at hp;split at hp
  ·rename_i v e
   exact gS c.hk hk (Calls.loadGlobal_global (env:=c.env) (by rw[c.yk];exact XF) (mg_of c.XB c.TB.g e) (fin v hp)) VU
  ·rename_i e
   exact cz (LD _ _ hp) fun hn q=>bU q fun v hv hp=>gS c.hk hk (kO (env:=c.env) (by rw[c.yk];exact XF) (Kx c.XB c.TB.g e) (by rw[c.Ma];exact c.TB.b.keeps R.jo) ((c.TB.builtins x hn).trans hv) (fin v hp)) VU
  ·cases hp
 ·refine bU (bind_some ((aS q).symm.trans hb)) fun sl hl hb=>?_
  have W:=R.loc _ _ hl;cases sl with
  | unset=>exact nomatch hb
  | val v =>
   refine cz W fun hk q=>bU q fun val hv hm=>?_;have fin:iZ c (.ok u σ) aD tv hid val s:=(Y2 u σ ⟨rfl,(R.push (aC hb ▸ hv)).rel⟩);rcases hm with ⟨hL,hm⟩ | ⟨o,es,ep,ho,hod,hsk,hf⟩
   ·exact Ln (o8 c.hk hk (hL ▸ R.core.F.ns) hm fin) VU
   ·exact Ln (o8 (m:=Ez es) c.hk hk (Y2 o es ⟨ep,(R.core.N _ (aa _ (aa _ ho))).1,hod,hsk,fun _=>rfl⟩) hf fin) VU
  | cell j =>
   refine bU (bind_some hb) fun ob hj hb=>cz W fun hk q=>bU q fun a hc XQ=>?_;rw[Oo hb] at hj;refine nv (R.kX XQ hj) fun o ho hh q=>bU q fun cv BO hv=>?_;cases cv with
   | none=>exact hv.elim
   | some val =>
    have fin:iZ c (.ok u σ) aD tv hid val s:=(Y2 u σ ⟨rfl,(R.push hv).rel⟩);exact hk.elim (fun hk=>Ln (wpAny_loadName_cell c.hk hk hc ⟨o,hh,BO⟩ fin) VU) fun hk=>Ln (wpAny_loadName_free c.hk hk hc ⟨o,hh,BO⟩ fin (nO.mp hd).2) VU
end
theorem jS.DS {b:Heap} {fz:Led}:∀ {vs:List ah} {ps:List P},vs.mapM EE=some ps→jS b fz ps vs
 | [],ps,h=>by cases h;exact .nil
 | v :: vs,ps,h=>by
  rw[j6] at h;refine oC (EE v) (fun q=>?_) fun p q=>?_
  ·rw[q] at h;cases h
  ·rw[q] at h
   refine oC (vs.mapM EE) (fun q2=>?_) fun r q2=>?_
   ·rw[q2] at h;cases h
   ·rw[q2] at h;cases h;exact .cons (.Qf q) (jS.DS q2)
section
theorem PN (R:Rl c σ aD tv hid s g m mo fz) (hv:VR c.base fz (bh mo) u v) (h:iE c.K u σ≠.fail) :
  ∃ ps a vals,iE c.K u σ = .ok ps σ∧v = .ref a∧s.heap.IsList a vals∧jS c.base fz ps vals.toList:=by
 cases u with
 | p x=>cases x with
  | lst ps=>exact N6 (PV.inv hv.inv) fun a o n vals e h1 h2 h3 h4=>(Y2 _ a ⟨vals,rfl,e,⟨_,R.at h1,h2.1,_,h3⟩,h4⟩)
  | adr a =>
   have h:(Mo.opt ((Gg c.K a).bind fun vs=>vs.mapM EE):Mo (List P)) σ≠.fail:=h;show ∃ ps a' vals,(Mo.opt ((Gg c.K a).bind fun vs=>vs.mapM EE):Mo (List P)) σ=_∧_;generalize hb:((Gg c.K a).bind fun vs=>vs.mapM EE)=b at h ⊢;cases b with
   | none=>exact absurd rfl h
   | some ps=>exact bU (bind_some hb) fun vs e q=>bU (bind_some e) fun o ho e=>cz (ji e) fun ht e=>jU (CM e) fun Jv n hd el =>
     (Y2 ps a ⟨Jv,rfl,PV.inv hv.inv,⟨_,R.jo _ _ (c.XB _ _ ho),Mn ht,n,hd⟩,.DS (el ▸ q)⟩)
  | _=>exact absurd rfl h
 | obj k =>
  refine bU (VR.inv hv) fun a e hk=>?_;have h:(Mo.opt ((σ.aP[k]?).bind tX):Mo (List P)) σ≠.fail:=h;show ∃ ps a' vals,(Mo.opt ((σ.aP[k]?).bind tX):Mo (List P)) σ=_∧_;generalize hb:((σ.aP[k]?).bind tX)=b at h ⊢;cases b with
  | none=>exact absurd rfl h
  | some vs =>
   refine bU (bind_some hb) fun ob hs hl=>?_;rw[B8 hl] at hs;exact nv (R.kX hk hs) fun o ho hh q=>jU q fun vals n eo hv=>(Y2 vs a ⟨vals,rfl,e,⟨_,hh,eo ▸ rfl,n,eo ▸ rfl⟩,hv⟩)
 | _=>exact absurd rfl h
theorem Gi {f:List P→Mo β} (R:Rl c σ aD tv hid s g m mo fz) (hv:VR c.base fz (bh mo) u v) (h:(iE c.K u >>= f) σ≠.fail) :
  ∃ ps a vals,(iE c.K u >>= f) σ=f ps σ∧f ps σ≠.fail∧v = .ref a∧s.heap.IsList a vals∧jS c.base fz ps vals.toList:=by
 have h':iN (iE c.K u σ) f≠.fail:=h;refine AN (PN R hv (qM h')) fun ps a vals e r=>?_;have e':(iE c.K u >>= f) σ=f ps σ:=by show iN (iE c.K u σ) f=_;rw[e];rfl
 exact (Y2 ps a ⟨vals,e',e' ▸ h,r⟩)
theorem zx {p:Prop} [mV p] {a:Mo β} (h:(if p then a else Mo.fail) σ≠.fail):p∧(if p then a else Mo.fail) σ=a σ:=by
 by_cases q:p
 ·exact ⟨q,by rw[aA q]⟩
 ·rw[aS q] at h;exact absurd rfl h
theorem Rl.two {a b:V} (R:Rl c σ (b :: a :: aD) (vb :: va :: tv) hid s g m mo fz):VR c.base fz (bh mo) a va∧VR c.base fz (bh mo) b vb∧Rl c σ aD tv hid s g m mo fz:=by
 exact ⟨R.aD.tl.2.tl.1,R.aD.tl.1,R.kj R.aD.tl.2.tl.2⟩
theorem Rl.one {a:V} (R:Rl c σ (a :: aD) (va :: tv) hid s g m mo fz):VR c.base fz (bh mo) a va∧Rl c σ aD tv hid s g m mo fz:=by
 exact ⟨R.aD.tl.1,R.kj R.aD.tl.2⟩
theorem Rl.val (R:Rl c σ aD tv hid s g m mo fz) (h:r = .ok u σ) (hv:∀ b fz μ,VR b fz μ u v):iZ c r aD tv hid v { s with toks:=k }:=(Y2 u σ ⟨h,R.rel.toks.push hv⟩)
theorem Rl.Ju (R:Rl c σ aD tv hid s g m mo fz) (h:r = .ok u σ) (hv:∀ b fz μ,VR b fz μ u v):iZ c r aD tv hid v s:=(Y2 u σ ⟨h,R.rel.push hv⟩)
set_option tactic.hygienic true in
theorem tW {x:Int} (h:x.natAbs<2 ^ 60):rO x≤64:=by
 unfold rO;split
 ·exact d7 64
 ·rename_i h0
  have:=(Nat.log2_lt (by simpa using h0)).mpr h;exact uM (.g (.s au) (.n 60) .e) (.s au) (.n 64) zC this
theorem mO {f:List P→Mo β} {r:Res β} (R:Rl c σ aD tv hid s g m mo fz) (hv:VR c.base fz (bh mo) u v) (h:(iE c.K u >>= f) σ=r) (hn:r≠.fail) :
  ∃ ps a vals,f ps σ=r∧v = .ref a∧s.heap.IsList a vals∧jS c.base fz ps vals.toList:=by
 refine Ep (Gi R hv (h ▸ hn)) fun ps a vals e _ x=>?_;exact (Y2 ps a ⟨vals,e.symm.trans h,x⟩)
theorem Od {x y:Int} {tx ty:Tok} (h:arith op x y σ=r) (hn:r≠.fail) (R:Rl c σ aD tv hid s g m mo fz) :
  aF c.M c.A (Bs op (.int x tx) (.int y ty)) (iZ c r aD tv hid) E s:=by
 have fin:∀ {i:Int} {k:Nat} {t:Tok},(.ok (.p (.int i)) σ:Res V)=r→iZ c r aD tv hid (.int i t) { s with toks:=k }:=fun h=>R.val h.symm fun _ _ _=>.int;cases op with
 | Sub=>exact sub_int (fin h)
 | Mult =>
  refine cz (bW h hn) fun hc h=>?_;exact mul_int (fin h) (IntMulOk.of_left (tW hc))
 | Mod =>
  refine cz (bW h hn) fun hc h=>?_;exact mod_int (Int.ne_of_gt hc) (fin h)
 | FloorDiv =>
  refine cz (bW h hn) fun hc h=>?_;exact floordiv_int (Int.ne_of_gt hc.1) (fin h) (.inl (El (by exact zU (zI [↑y.natAbs,y] 0 (.g bH cQ (.g (.add cQ eB) (.num 536870912) .e)) (.add bH eB) (.num 1073741824) zC (zab (zI [y] 0 (.g (.add i6 eB) bH .e) i6 bH zC hc.1)) hc.2))))
 | Pow =>
  refine cz (bW h hn) fun hc h=>?_;have h1:(rO x:Int)≤64:=by have:=tW (x:=x) (by exact zU (zI [↑x.natAbs,x] 0 (.g bH cQ (.g (.add cQ eB) (.num 65536) .e)) (.add bH eB) (.num 1152921504606846976) zC (zab hc.2.2.1) hc.2.2.2));exact zO this
  exact pow_int hc.1 (kr (Int.mul_le_mul h1 hc.2.1 hc.1 (by exact Sp 64)) (by decide)) (fin h)
 | _=>exact absurd h.symm hn
theorem SD {a b:V} (h:abc c.K a b σ=r) (hn:r≠.fail) (ha:VR c.base fz (bh mo) a va) (hb:VR c.base fz (bh mo) b vb) (R:Rl c σ aD tv hid s g m mo fz) :
  aF c.M c.A (Bs .Add va vb) (iZ c r aD tv hid) E s:=by
 refine Hi (mO R ha h hn) fun xs l vs h aiZ hl h1=>?_;rw[aiZ];refine Hi (mO R hb h hn) fun ys l2 ws h ai0 ym h2=>?_;rw[ai0];refine cz (bW h hn) fun kC h=>?_;refine nv hl fun ai1 ho hc ai2=>?_;obtain ⟨cls,dd,data,sl⟩:=ai1;refine eU ai2 fun n hd=>?_;refine nv ym fun ai3 VX hc2 ai4=>?_;obtain ⟨alx,dd2,data2,sl2⟩:=ai3;refine eU ai4 fun n2 hd2=>?_;simp only at hc hd hc2 hd2;subst hc hd hc2 hd2;have z1:=h1.length;have z2:=h2.length;refine concat_meets ⟨_,ho,rfl⟩ ⟨_,VX,rfl⟩ noFill_list_add seq_list_add PySem.F.slot_list_add PySem.F.entry_list_add (PySem.F.args_list_add_2 _ _)
  (list_addW l l2 vs ws n n2 dd dd2 sl sl2 (by simp only [cH] at z1 z2;exact G7 (.g au bX (.g aE fh (.g (.a bX fh) aT .e))) (.a au aE) aT zC (zA z1) (zA z2) kC)) ⟨ho,VX,?_⟩
 refine (Y2 _ σ ⟨h.symm,((R.sC _ rfl).push (.p (.lst (.inl (.head _)) ⟨rfl,rfl,rfl⟩ rfl ?_))).rel⟩);simpa using (h1.append h2).mono fun _ h=>.tail _ h
theorem SG {a b:V} (h:N7 c.K a b σ=r) (hn:r≠.fail) (ha:VR c.base fz (bh mo) a va) (hb:VR c.base fz (bh mo) b vb) (R:Rl c σ aD tv hid s g m mo fz) :
  aF c.M c.A (Bs .Add va vb) (iZ c r aD tv hid) E s:=by
 unfold N7 at h;refine oC (intOf a) (fun hx=>?_) fun x hx=>?_
 ·rw[hx] at h
  refine oC (strOf a) (fun hx=>?_) fun x hx=>?_
  ·rw[hx] at h
   exact SD h hn ha hb R
  ·rw[hx] at h
   refine bU (bK h hn) fun y hy h=>?_;refine cz (bW h hn) fun hc h=>?_;refine eU (ha.pG hx) fun _ ai7=>?_;obtain rfl:=ai7;refine eU (hb.pG hy) fun _ ai8=>?_;obtain rfl:=ai8;exact add_str (fun t tk=>R.val h.symm fun _ _ _=>.str) hc
 ·rw[hx] at h
  refine bU (bK h hn) fun y hy h=>?_;refine eU (ha.pC hx) fun _ ai5=>?_;obtain rfl:=ai5;refine eU (hb.pC hy) fun _ ai6=>?_;obtain rfl:=ai6;exact add_int (R.val h.symm fun _ _ _=>.int)
theorem wF (h:isAdd op=true):op = .Add:=by cases op<;>first | rfl | cases h
theorem JR {a b:V} (h:xN c.K op a b σ=r) (hn:r≠.fail) (R₀ : Rel c σ (b :: a :: aD) (vb :: va :: tv) hid s) :
  aF c.M c.A (Bs op va vb) (iZ c r aD tv hid) E s:=by
 refine iM R₀ fun g m mo fz bN=>?_;refine xM (bN.two) fun ha hb R=>?_;unfold xN at h;by_cases q:isAdd op=true
 ·rw[aA q] at h
  rw[wF q];exact SG h hn ha hb R
 ·rw[aS q] at h
  refine bU (bK h hn) fun x hx h=>?_;refine bU (bK h hn) fun y hy h=>?_;refine eU (ha.pC hx) fun _ ai9=>?_;rw[ai9];refine eU (hb.pC hy) fun _ aja=>?_;obtain rfl:=aja;exact Od h hn R
end
section
section
theorem PV.reads (R:∀ a o,(a,o)∈fz∨c.base.get? a=some o→s.heap.get? a=some o) (p:P):∀ (v:ah) (d:g7),PV c.base fz p v→r5 p=some d→∃ as,vc s.heap v d as:=by
 refine P.rec (motive_1:=fun p=>∀ (v:ah) (d:g7),PV c.base fz p v→r5 p=some d→∃ as,vc s.heap v d as) (motive_2:=fun ps=>∀ (vs:List ah) (ds:List g7),jS c.base fz ps vs→pW ps=some ds→∃ as,ReadsAll s.heap vs ds as) ?_ ?_ ?_ ?_ ?_ ?_ ?_ ?_ ?_ ?_ ?_ ?_ ?_ ?_ p
 ·intro v d h e;cases e;rw[show v = .none from h.inv];exact ⟨_,.none⟩
 ·intro b v d h e;cases e;rw[show v = .bool b from h.inv];exact ⟨_,.bool b⟩
 ·intro i v d h e;cases e;exact h.inv.elim fun t e=>by rw[e];exact ⟨_,.int i t⟩
 ·intro x v d h e;cases e;exact h.inv.elim fun t e=>by rw[e];exact ⟨_,.str x t⟩
 ·intro _ v d h e;cases e
 ·intro _ v d h e;cases e
 ·intro _ v d h e;cases e
 ·intro vs ih v d h e
  exact bU (aQ.mp e) fun ds q hd=>N6 h.inv fun a o n vals ev h1 h2 h3 h4=>eU (ih _ _ h4 q) fun as r=>⟨_,by rw[ev,← hd];exact .list (R _ _ h1) h2.1 h3 r⟩
 ·intro vs ih v d h e
  exact bU (aQ.mp e) fun ds q hd=>N6 h.inv fun a o n vals ev h1 h2 h3 h4=>eU (ih _ _ h4 q) fun as r=>⟨_,by rw[ev,← hd];exact .tuple (R _ _ h1) h2 h3 r⟩
 ·intro _ _ _ v d h e;cases e
 ·intro v d h e;cases e
 ·intro v d h e;cases e
 ·intro vs ds h e;cases e;rw[show vs=[] from h.inv];exact ⟨_,.nil⟩
 ·intro p ps ih1 ih2 vs ds h e
  exact bU (aY.mp e) fun d q1 e=>bU (aQ.mp e) fun ds' q2 hd=>Eo h.inv fun v r ev h1 h2=>eU (ih1 _ _ h1 q1) fun a1 r1=>eU (ih2 _ _ h2 q2) fun a2 r2=>⟨_,by rw[ev,← hd];exact .cons r1 r2⟩
theorem jS.reads (R:∀ a o,(a,o)∈fz∨c.base.get? a=some o→s.heap.get? a=some o) {ps:List P}:∀ {vs:List ah} {ds:List g7},jS c.base fz ps vs→pW ps=some ds→∃ as,ReadsAll s.heap vs ds as:=by
 induction ps with
 | nil=>intro vs ds h e;cases e;rw[show vs=[] from h.inv];exact ⟨_,.nil⟩
 | cons p ps ih =>
  intro vs ds h e;exact bU (aY.mp e) fun d q1 e=>bU (aQ.mp e) fun ds' q2 hd=>Eo h.inv fun v r ev h1 h2=>eU (PV.reads R p _ _ h1 q1) fun a1 r1=>eU (ih h2 q2) fun a2 r2=>⟨_,by rw[ev,← hd];exact .cons r1 r2⟩
theorem QA {d:g7} {ys:List g7} (h:adH d=some ys):d = .list ys∨d = .tuple ys:=by
 cases d with
 | list _=>cases h;exact .inl rfl
 | tuple _=>cases h;exact .inr rfl
 | _=>exact nomatch h
theorem Xm (R:Rl c σ aD tv hid s g m mo fz) {u:V} {v:ah} {p:P} {d:g7} (hv:VR c.base fz (bh mo) u v) (e:Xl σ 0 u=some p) (hd:r5 p=some d):∃ as,vc s.heap v d as:=by
 cases u with
 | p x=>cases e;exact PV.reads (fun a o h=>R.at h) _ _ _ hv.inv hd
 | obj k =>
  refine bU (aQ.mp e) fun vs e hp=>?_;refine bU (aY.mp e) fun ob hs e=>?_;rw[B8 e] at hs;refine bU hv.inv fun a ev hk=>?_;refine nv (R.kX hk hs) fun o ho hh z=>?_;refine jU z fun vals n z hv=>?_;rw[z] at hh;rw[← hp] at hd;exact bU (aQ.mp hd) fun ds q hd=>eU (jS.reads (s:=s) (fun a o h=>R.at h) hv q) fun as r=>⟨_,by rw[ev,← hd];exact .list hh rfl rfl r⟩
 | _=>exact nomatch e
theorem abp (R:Rl c σ aD tv hid s g m mo fz) {us:List V}:∀ {vs:List ah} {ps:List P} {ds:List g7},eW c.base fz (bh mo) us vs→us.mapM (Xl σ 0)=some ps→pW ps=some ds→∃ as,ReadsAll s.heap vs ds as:=by
 induction us with
 | nil=>intro vs ps ds h e hd;cases e;cases hd;rw[show vs=[] from h.inv];exact ⟨_,.nil⟩
 | cons u us ih =>
  intro vs ps ds h e hd;rw[j6] at e;refine bU (aY.mp e) fun p q e=>?_;refine bU (aY.mp e) fun ps' q2 e=>?_;cases e;exact bU (aY.mp hd) fun d qd hd=>bU (aQ.mp hd) fun ds' qd' hd=>Eo h.inv fun v r ev h1 h2=>eU (Xm R h1 q qd) fun a1 r1=>eU (ih h2 q2 qd') fun a2 r2=>⟨_,by rw[ev,← hd];exact .cons r1 r2⟩
theorem yd (R:Rl c σ aD tv hid s g m mo fz) {u:V} {v:ah} {d:g7} (hv:VR c.base fz (bh mo) u v) (e:tE σ u=some d):∃ as,vc s.heap v d as:=by
 refine bU (aY.mp e) fun p hp e1=>?_;cases u with
 | p x=>exact Xm R hv hp e1
 | obj k=>exact Xm R hv hp e1
 | jq _ _=>exact nomatch hp
 | tup us =>
  refine bU (aQ.mp hp) fun ps q hp=>?_;rw[← hp] at e1;exact bU (aQ.mp e1) fun ds qd hd=>N6 hv.inv fun a o n vals ev h1 h2 h3 h4=>eU (abp R h4 q qd) fun as r=>⟨_,by rw[ev,← hd];exact .tuple (R.at h1) h2 h3 r⟩
theorem Xf {a b:V} {va vb:ah} (hr:VJ a b σ≠.fail) (R:Rl c σ aD tv hid s g m mo fz) (ha:VR c.base fz (bh mo) a va) (hb:VR c.base fz (bh mo) b vb) :
  ∃ x y as bs,VJ a b σ = .ok (x.eqv y) σ∧vc s.heap va x as∧vc s.heap vb y bs∧g9 x=true∧g9 y=true:=by
 generalize h:VJ a b σ=r at *;exact bU (bK h hr) fun x ex h=>bU (bK h hr) fun y ey h=>cz (bW h hr) fun hs h=>eU (yd R ha ex) fun as r1=>eU (yd R hb ey) fun bs r2=>(Y2 x y (Y2 as bs ⟨h.symm,r1,r2,hs⟩))
theorem XS {a l:V} {va vl:ah} (hr:RY a l σ≠.fail) (R:Rl c σ aD tv hid s g m mo fz) (ha:VR c.base fz (bh mo) a va) (hl:VR c.base fz (bh mo) l vl) :
  ∃ x ys as bs,RY a l σ = .ok (ys.any fun y=>y.eqv x) σ∧vc s.heap va x as∧g9 x=true∧g9 (.list ys)=true∧(vc s.heap vl (.list ys) bs∨vc s.heap vl (.tuple ys) bs):=by
 generalize h:RY a l σ=r at *;exact bU (bK h hr) fun x ex h=>bU (bK h hr) fun d ey h=>bU (bK h hr) fun ys es h=>cz (bW h hr) fun hs h=>eU (yd R ha ex) fun as r1=>eU (yd R hl ey) fun bs r2=>(QA es).elim
  (fun z=>⟨x,ys,as,bs,h.symm,r1,hs.1,z ▸ hs.2,.inl (z ▸ r2)⟩) fun z=>⟨x,ys,as,bs,h.symm,r1,hs.1,(show g9 (.tuple ys)=true from z ▸ hs.2),.inr (z ▸ r2)⟩
theorem iZ.bool {r:Res V} {b:Bool} (R:Rl c σ aD tv hid s g m mo fz) (h:r = .ok (.p (.bool b)) σ):iZ c r aD tv hid (.bool b) s:=R.Ju h fun _ _ _=>.bool
theorem oB {mm:Mo α} {f:α→Mo β} {r:Res β} (h:(mm >>= f) σ=r) (hn:r≠.fail):mm σ≠.fail:=fun q=>hn (by rw[← h,mR,q];rfl)
theorem Mm {x y:dD}:isSame (.type x) (.type y)=pure (x==y):=by
 show (pure (gU x==gU y):Sem Bool)=_;congr 1;by_cases h:x=y
 ·subst h;simp
 ·rw[aJ.mpr h,aJ.mpr (fun z=>h (by injection z))]
section
variable {b:Heap} {μ : List Addr} {v:ah}
theorem VR.pI {x:P} (h:VR b fz μ (.p x) v):PV b fz x v:=by cases h with | p h=>exact h
theorem VR.aih {k:Nat} (h:VR b fz μ (.obj k) v):∃ a,v = .ref a∧μ[k]?=some a:=by cases h with | obj h=>exact ⟨_,rfl,h⟩
theorem PV.V8 (h:PV b fz .none v):v = .none:=by cases h;rfl
theorem PV.tyI {n:dD} (h:PV b fz (.ty n) v):v = .type n:=by cases h;rfl
theorem PV.ahV {i:Int} (h:PV b fz (.int i) v):∃ t,v = .int i t:=by cases h;exact ⟨_,rfl⟩
theorem PV.aiA {x:Str} (h:PV b fz (.str x) v):∃ t,v = .str x t:=by cases h;exact ⟨_,rfl⟩
theorem PV.mtI (h:PV b fz .mt v):∃ a,v = .ref a:=by cases h;exact ⟨_,rfl⟩
end
theorem Ml {v:ah} {r:Bool} (h:(v==dZ)=r):isSame v .none=pure r:=by rw[isSame_none,← h]
theorem Po {b':Heap} {μ : List Addr} {a b:V} {va vb:ah} {r:Bool} (h:isV a b=some r) (ha:VR b' fz μ a va) (hb:VR b' fz μ b vb):isSame va vb=pure r:=by
 cases b with
 | p y=>cases y with
  | none =>
   rw[hb.pI.V8];refine Ml ?_;cases a with
   | p x=>cases x with
    | none=>cases h;rw[ha.pI.V8];rfl
    | str _=>cases h;exact ha.pI.aiA.elim fun t e=>by rw[e];rfl
    | int _=>cases h;exact ha.pI.ahV.elim fun t e=>by rw[e];rfl
    | mt=>cases h;exact ha.pI.mtI.elim fun t e=>by rw[e];rfl
    | _=>exact nomatch h
   | obj _=>cases h;exact ha.aih.elim fun t e=>by rw[e.1];rfl
   | _=>exact nomatch h
  | ty n=>cases a with
   | p x=>cases x with
    | ty m=>cases h;rw[hb.pI.tyI,ha.pI.tyI];exact Mm
    | _=>exact nomatch h
   | _=>exact nomatch h
  | _=>exact nomatch h
 | _=>exact nomatch h
theorem J0 {a b:V} {va vb:ah} {f:Bool→Mo β} {r:Res β} (h:(VJ a b >>= f) σ=r) (hn:r≠.fail) (R:Rl c σ aD tv hid s g m mo fz) (ha:VR c.base fz (bh mo) a va) (hb:VR c.base fz (bh mo) b vb) :
  ∃ x y as bs,f (x.eqv y) σ=r∧vc s.heap va x as∧vc s.heap vb y bs∧g9 x=true∧g9 y=true:=by
 refine W3 (Xf (oB h hn) R ha hb) fun x y as bs e z=>?_;exact (Y2 x y (Y2 as bs ⟨i8 e h,z⟩))
theorem Kh {a b:V} {va vb:ah} {f:Bool→Mo β} {r:Res β} (h:(RY a b >>= f) σ=r) (hn:r≠.fail) (R:Rl c σ aD tv hid s g m mo fz) (ha:VR c.base fz (bh mo) a va) (hb:VR c.base fz (bh mo) b vb) :
  ∃ x ys as bs,f (ys.any fun y=>y.eqv x) σ=r∧vc s.heap va x as∧g9 x=true∧g9 (.list ys)=true∧(vc s.heap vb (.list ys) bs∨vc s.heap vb (.tuple ys) bs):=by
 refine W3 (XS (oB h hn) R ha hb) fun x ys as bs e z=>?_;exact (Y2 x ys (Y2 as bs ⟨i8 e h,z⟩))
theorem xx {a b:V}:(∃ x y,strOf a=some x∧strOf b=some y∧sq a b=pure (!(Vu y x 0 y.length 1).isEmpty))∨sq a b=RY a b:=by
 unfold sq;refine oC (strOf a) (fun h1=>?_) fun x h1=>?_
 ·exact .inr rfl
 ·refine oC (strOf b) (fun h2=>?_) fun y h2=>?_
  ·exact .inr rfl
  ·exact .inl (Y2 x y ⟨rfl,rfl,rfl⟩)
theorem JV {op:yC} {a b:V} {va vb:ah} {r:Res V} {E:ah→aG→Prop} (h:rF op a b σ=r) (hn:r≠.fail) (R₀ : Rel c σ (b :: a :: aD) (vb :: va :: tv) hid s) :
  aF c.M c.A (compareOp op va vb) (iZ c r aD tv hid) E s:=by
 have NI:c.A.units+64<cLine:=by have:=c.NI;unfold cLine;exact oH (.g (.a au (.m 8 aE)) (.n 9000) .e) (.s (.a au (.n 64))) (.n 9900) zC this
 have TQ:c.A.units+65<cLine:=by have:=c.NI;unfold cLine;exact oH (.g (.a au (.m 8 aE)) (.n 9000) .e) (.s (.a au (.n 65))) (.n 9900) zC this
 refine iM R₀ fun g m mo fz bN=>?_;refine xM (bN.two) fun ha hb R=>?_;clear bN
 have fin:∀ {b:Bool},(.ok (.p (.bool b)) σ:Res V)=r→iZ c r aD tv hid (.bool b) s:=fun h=>.bool R h.symm;have nums:∀ {f:Int→Int→Bool},(Mo.get (intOf a) fun x=>Mo.get (intOf b) fun y=>(pure (.p (.bool (f x y))):Mo V)) σ=r→∃ x y tx ty,va = .int x tx∧vb = .int y ty∧(.ok (.p (.bool (f x y))) σ:Res V)=r:=fun {f} h=>by
  refine bU (bK h hn) fun x hx h=>?_;refine bU (bK h hn) fun y hy h=>?_;refine eU (ha.pC hx) fun tx hx=>?_;refine eU (hb.pC hy) fun ty hy=>?_;exact ⟨x,y,tx,ty,hx,hy,h⟩
 cases op with
 | Eq =>
  refine N6 (J0 h hn R ha hb) fun x y as bs h r1 r2 s1 s2=>?_;exact eq_dataH r1 r2 s1 s2 NI (fin h)
 | NotEq =>
  refine N6 (J0 (f:=fun z=>(pure (V.p (.bool !z)):Mo V)) h hn R ha hb) fun x y as bs h r1 r2 s1 s2=>?_;exact ne_dataH r1 r2 s1 s2 NI (fin h)
 | Is =>
  refine bU (bK h hn) fun x hx h=>?_;show aF c.M c.A (do return Value.bool (← isSame va vb)) _ _ s;rw[Po hx ha hb];exact wpAny_bind (wpAny_pure (wpAny_pure (fin h)))
 | IsNot =>
  refine bU (bK h hn) fun x hx h=>?_;show aF c.M c.A (do return Value.bool (!(← isSame va vb))) _ _ s;rw[Po hx ha hb];exact wpAny_bind (wpAny_pure (wpAny_pure (fin h)))
 | In =>
  rcases xx (a:=a) (b:=b) with ⟨x,y,hx,hy,e⟩ | e
  ·refine eU (ha.pG hx) fun _ ajb=>?_
   obtain rfl:=ajb;refine eU (hb.pG hy) fun _ ajc=>?_;obtain rfl:=ajc;exact in_str (fin (i8 (f:=fun z=>(pure (V.p (.bool z)):Mo V)) (show sq a b σ = .ok _ σ by rw[e];rfl) (show (sq a b >>= _) σ=r from h)))
  ·have h':(RY a b >>= fun r=>pure (.p (.bool r))) σ=r:=by rw[← e];exact h
   refine N6 (Kh h' hn R ha hb) fun x ys as bs h r1 s1 s2 r2=>?_;rcases r2 with r2 | r2
   ·exact in_list_reads r2 r1 (iz (d:=.list ys) s2) (iz s1) (xy s1 TQ) (fin h)
   ·exact in_tuple_reads r2 r1 (iz (d:=.list ys) s2) (iz s1) (xy s1 TQ) (fin h)
 | NotIn =>
  rcases xx (a:=a) (b:=b) with ⟨x,y,hx,hy,e⟩ | e
  ·refine eU (ha.pG hx) fun _ ajd=>?_
   obtain rfl:=ajd;refine eU (hb.pG hy) fun _ aje=>?_;obtain rfl:=aje;exact notIn_str (fin (i8 (f:=fun z=>(pure (V.p (.bool !z)):Mo V)) (show sq a b σ = .ok _ σ by rw[e];rfl) (show (sq a b >>= _) σ=r from h)))
  ·have h':(RY a b >>= fun z=>pure (.p (.bool !z))) σ=r:=by rw[← e];exact h
   refine N6 (Kh h' hn R ha hb) fun x ys as bs h r1 s1 s2 r2=>?_;rcases r2 with r2 | r2
   ·exact notIn_list_reads r2 r1 (iz (d:=.list ys) s2) (iz s1) (xy s1 TQ) (fin h)
   ·exact notIn_tuple_reads r2 r1 (iz (d:=.list ys) s2) (iz s1) (xy s1 TQ) (fin h)
 | Lt =>
  refine X43 (nums (f:=fun x y=>decide (x<y)) h) fun x y tx ty ajf ajg h=>?_;obtain rfl:=ajf;obtain rfl:=ajg;exact lt_int (fin h)
 | LtE =>
  refine X43 (nums (f:=fun x y=>decide (x≤y)) h) fun x y tx ty ajh aji h=>?_;obtain rfl:=ajh;obtain rfl:=aji;exact le_int (fin h)
 | Gt =>
  refine X43 (nums (f:=fun x y=>decide (y<x)) h) fun x y tx ty ajj ajk h=>?_;obtain rfl:=ajj;obtain rfl:=ajk;exact gt_int (fin h)
 | GtE =>
  refine X43 (nums (f:=fun x y=>decide (y≤x)) h) fun x y tx ty ajl ajm h=>?_;obtain rfl:=ajl;obtain rfl:=ajm;exact ge_int (fin h)
end
end
section
theorem lY {value slice:Expr} {o i:ah} {T id:dD} (hT:s.TypeIs o T)
  (hl:k8 (.type T) "__getitem__"=pure (some (.builtin id))) (h:aF c.M c.A (Ik o i) Q E s):aF c.M c.A (As value slice o i) Q E s:=by
 refine wpAny_bind ?_;refine wpAny_bind (pO hT hl ?_);have fin:aF c.M c.A (subscripted slice false o i) (fun r i9=>aF c.M c.A (Kq value o r >>= fun _=>pure r) Q E i9) E s:=by
  have hf:aF c.M c.A (Ik o i) (fun r i9=>aF c.M c.A (Kq value o r >>= fun _=>pure r) Q E i9) E s:=
   wpAny_mono h (fun r i9 Pg=>wpAny_bind (WC (wpAny_pure Pg))) fun _ _ x=>x
  cases slice with
  | Slice _ _ st _=>cases st<;>exact wpAny_operating hf
  | _=>exact wpAny_operating hf
 first
  | exact wpAny_pure (wpAny_bind fin)
  | exact wpAny_bind (wpAny_pure (wpAny_bind fin))
  | exact wpAny_bind fin
theorem zk {k:Int} (h:mY k=true) : -(2 ^ 62)≤k∧k<2 ^ 62:=cA h
theorem Us {o:Option α} (h:Mo.get o f σ≠.fail):∃ x,o=some x∧Mo.get o f σ=f x σ∧f x σ≠.fail:=by
 cases o with
 | none=>exact absurd rfl h
 | some x=>exact ⟨x,rfl,rfl,h⟩
set_option tactic.hygienic true in
theorem list_item {k:Int} {x:ah} (hl:s.heap.IsList l vals) (hk : -(2 ^ 62)≤k∧k<2 ^ 62)
  (hj:jz k vals.size=some j) (hx:vals[j]?=some x) (h:Q x s):aF c.M c.A (Ik (.ref l) (.int k t)) Q E s:=by
 dsimp only [jz] at hj;by_cases h0:k<0
 ·simp only [h0,gz] at hj
  split at hj
  ·rename_i hh
   cases hj;simp only [aR,br] at hh;exact wpAny_getItem_list_neg hl h0 (by exact zI [↑vals.size,k] 0 (.g i6 (.add cQ bH) .e) (.neg bH) cQ zC hh.1) (by exact zI [k] 0 (.g (.neg (.num 4611686018427387904)) bH .e) (.neg (.num 9223372036854775808)) bH zC hk.1) hx h
  ·cases hj
 ·simp only [h0,jy] at hj
  split at hj
  ·rename_i hh
   cases hj;exact wpAny_getItem_list hl (by exact zm h0) (by exact zI [k] 0 (.g (.add bH eB) (.num 4611686018427387904) .e) (.add bH eB) (.num 9223372036854775808) zC hk.2) hx h
  ·cases hj
theorem eW.get (h:eW b fz μ us vs) {i:Nat} (e:us[i]?=some u):∃ v,vs[i]?=some v∧VR b fz μ u v:=by
 induction us generalizing vs i with
 | nil=>cases e
 | cons u' us ih=>cases h with | cons a r=>cases i with
  | zero=>simp only [iY,cB] at e;subst e;exact ⟨_,rfl,a⟩
  | succ i=>exact ih r (by simpa using e)
theorem Jr:k8 (.type "tuple") "__getitem__"=pure (some (.builtin "tuple.__getitem__")):=slot_tuple_getitem.lookup
theorem jS.aiF:∀ {l:List ah},jS b fz ps l→eW b fz μ (ps.map V.p) l:=by
 induction ps with
 | nil=>intro l h;rw[show l=[] from h.inv];exact .nil
 | cons p ps ih=>intro l h;exact Eo h.inv fun v r e h1 h2=>e ▸ .cons (.p h1) (ih h2)
theorem Nc (h:xD u=some us) (hv:VR b fz μ u v) :
  ∃ a o n vals,v = .ref a∧((a,o)∈fz∨b.get? a=some o)∧o.cls = .type "tuple"∧o.data = .seq vals n∧eW b fz μ us vals.toList:=by
 cases u with
 | tup _=>cases h;exact hv.inv
 | p x=>cases x with
  | tup ps=>cases h;exact N6 (PV.inv hv.inv) fun a o n vals e h1 h2 h3 h4=>(Y2 a o (Y2 n vals ⟨e,h1,h2,h3,h4.aiF⟩))
  | _=>exact nomatch h
 | _=>exact nomatch h
theorem ZJ {k:Int} {tk:Tok} {value slice:Expr} (h:(K0:Mo V) σ=r) (hn:r≠.fail) (hl:s.heap.IsList l vals) (TM:k < -(vals.size:Int)∨(vals.size:Int)≤k) (hk : -(2 ^ 62)≤k∧k<2 ^ 62) (R:Rl c σ aD tv hid s g m mo fz) :
  aF c.M c.A (As value slice (.ref l) (.int k tk)) (iZ c r aD tv hid) (kH c r aD tv hid) s:=by
 have hx0:∃ x:Xn,x.cls="IndexError"∧(c.A.handled=e8∨x.plain=false∧jH c.A hid∧∀ p∈hid,s.heap.get? p.1=some p.2)∧r = .exc x σ:=by
  unfold K0 at h;cases q:σ.dw with
  | no=>rw[q] at h;exact ⟨.index,rfl,.inl (R.dw.1 q),h.symm⟩
  | may=>rw[q] at h;exact ⟨.qE,rfl,.inr ⟨rfl,R.dw.2 (q ▸ fun z=>nomatch z),fun p hp=>(R.core.N p (aa _ (aa _ hp))).1⟩,h.symm⟩
  | yes=>rw[q] at h;exact absurd h.symm hn
 refine nv hx0 fun xn hx1 hx2 hx3=>?_;exact lY hl.typeIs yu (wB hx1 hx2 hl TM (by exact zI [k] 0 (.g (.neg (.num 4611686018427387904)) bH .e) (.neg (.num 9223372036854775808)) bH zC hk.1) (by exact zI [k] 0 (.g (.add bH eB) (.num 4611686018427387904) .e) (.add bH eB) (.num 9223372036854775808) zC hk.2) fun h' tk e hx=>(Y2 xn σ ⟨e,hx3,rfl,.inl ⟨s.heap,hx,R.toks.rel⟩⟩))
theorem Tn {a i:V} {va vi:ah} {value slice:Expr} (h:jV c.K a i σ=r) (hn:r≠.fail) (R₀ : Rel c σ (i :: a :: aD) (vi :: va :: tv) hid s) :
  aF c.M c.A (As value slice va vi) (iZ c r aD tv hid) (kH c r aD tv hid) s:=by
 refine iM R₀ fun g m mo fz bN=>?_;refine xM (bN.two) fun ha hi R=>?_;clear bN
 refine bU (bK h hn) fun k hk h=>?_;refine eU (hi.pC hk) fun _ ajn=>?_;rw[ajn];refine cz (bW h hn) fun hk h=>?_;have Ew:=zk hk;clear hk hi
 unfold FQ at h;refine oC (strOf a) (fun q=>?_) fun x q=>?_
 ·rw[q] at h
  refine oC (xD a) (fun q=>?_) fun vs q=>?_
  ·rw[q] at h
   refine Hi (mO R ha h hn) fun ps l vals h ajq hl h1=>?_;obtain rfl:=ajq;have hz:=h1.length;rw[cH] at hz;refine oC (idx k ps.length) (fun hj=>?_) fun j hj=>?_
   ·rw[hj] at h
    refine ZJ h hn hl ?_ Ew R;unfold idx jz at hj;simp only [ite_eq_right_iff,reduceCtorEq,imp_false,aR,br] at hj;rw[hz];exact ahR hj
   ·rw[hj] at h
    refine bU (bK h hn) fun u hu h=>?_;refine bU (h1.get hu) fun x hx hv=>?_;exact lY hl.typeIs yu (list_item hl Ew (by rw[hz];exact hj) (by simpa using hx) ⟨_,σ,h.symm,(R.push (.p hv)).rel⟩)
  ·rw[q] at h
   refine N6 (Nc q ha) fun ad o n vals ajp h1 h2 h3 h4=>?_;obtain rfl:=ajp;refine bU (bK h hn) fun j hj h=>?_;refine bU (bK h hn) fun u hu h=>?_;refine bU (h4.get hu) fun x hx hv=>?_;have hz:=h4.length;have ht:IsTup s.heap _ _:=⟨_,R.at h1,h2,_,h3⟩;exact lY ht.typeIs Jr (getItem_tuple ht (by exact zI [k] 0 (.g (.neg (.num 4611686018427387904)) bH .e) (.neg (.num 9223372036854775808)) bH zC Ew.1) (by exact zI [k] 0 (.g (.add bH eB) (.num 4611686018427387904) .e) (.add bH eB) (.num 9223372036854775808) zC Ew.2) (by rw[cH] at hz;rw[hz];exact hj) (by simpa using hx) ⟨_,σ,h.symm,(R.push hv).rel⟩)
 ·rw[q] at h
  refine eU (ha.pG q) fun _ ajo=>?_;obtain rfl:=ajo;refine bU (bK h hn) fun ch hc h=>?_;exact lY (mS s x _) (F.slot_str_getitem.lookup) (P.getItem_str (by simp;exact ⟨(zI [k] 0 (.g (.neg (.num 4611686018427387904)) bH .e) (.num (-9223372036854775808)) bH zC Ew.1),(zI [k] 0 (.g (.add bH eB) (.num 4611686018427387904) .e) (.add bH eB) (.num 9223372036854775808) zC Ew.2)⟩) hc (R.val h.symm fun _ _ _=>.str))
end
theorem Cb:k8 (.type "collections.deque") "__bool__"=pure none:=by rw[gO,eG];rfl'
theorem o7:Slot "collections.deque" "__len__" "collections.deque.__len__":=
 .of (owner:="collections.deque") (n:="__len__") (by rw[gO,eG];rfl') (by decide +kernel) (by decide +kernel) (by decide +kernel)
  (by first | exact .inl (by decide +kernel) | exact .inr (by decide +kernel)) (by rw[kW];rfl')
theorem Dn:tR Q4 "collections.deque.__len__"=some jm.«collections.deque.__len__»:=lz (by rfl')
theorem Qj:Nq.lookup (Vw ['e','u','q','e','d','.','s','n','o','i','t','c','e','l','l','o','c'].reverse)=some we:=by rfl'
theorem EV (a:ah):Er "collections.deque.__len__" ⟨[a],[]⟩:=by
 unfold Er;rw[signature?_of (id:="collections.deque.__len__") (n:=['_','_','n','e','l','_','_']) (o:=['e','u','q','e','d','.','s','n','o','i','t','c','e','l','l','o','c']) (by rfl') Qj];rfl'
section
theorem Nb {x y:ah} {Q:Bool→aG→Prop} (ho:s.heap.get? a=some o) (hc:o.cls = .type "collections.deque") (hd:o.data = .fields #[x,y])
  (h:∀ k,Q false { s with toks:=k }):aF c.M c.A (EF (.ref a)) Q E s:=by
 have hT:s.TypeIs (.ref a) "collections.deque":=⟨o,ho,hc⟩;have body:∀ (A:fP) (E:ah→aG→Prop) (Q:ah→aG→Prop) (s:aG),s.heap.get? a=some o→(∀ k,Q (.int 0 (s.toks+1)) { s with toks:=k })→aF c.M A (jm.«len» ⟨[.ref a],[]⟩) (fun fin s'=>∃ r,fin = .done (.ret r)∧Q r s') E s:=by
  intro A E Q s ho h;have hT:s.TypeIs (.ref a) "collections.deque":=⟨o,ho,hc⟩;refine wpAny_bind (m:=oneArg "len" _) (wpAny_pure ?_);refine wpAny_bind (m:=callSpecial? (.ref a) (aL "__len__")) (t9 (name:=aL "__len__") hT o7
   (ua o7 hT Dn ?_ (EV _)))
  refine wpAny_bind (m:=slotArgs "__len__" 0 _) (wpAny_pure ?_);refine wpAny_bind (wpAny_bind (wpAny_fieldsOf ho hd ?_));refine wpAny_pure (wpAny_bind (WD (wpAny_pure ⟨_,rfl,?_⟩)));refine wpAny_bind (cF (wpAny_pure ?_));refine wpAny_bind (wpAny_letGo ?_);exact wpAny_bind (WD (wpAny_pure ⟨_,rfl,h _⟩))
 have key:aF c.M c.A (runValue (.builtin "len" ⟨[.ref a],[]⟩)) (fun r s'=>r = .int 0 (s.toks+1)∧Q false s') E s:=by
  refine Lo (gK entry_len ?_);exact wpAny_mono (body _ _ (fun r s'=>r = .int 0 (s.toks+1)∧Q false s') s ho fun k=>⟨rfl,h k⟩)
   (fun fin s' h'=>by obtain ⟨r,rfl,hq⟩:=h';exact hq) fun _ _ e=>e
 first
  | refine wpAny_bind (Ry (name:=aL "__bool__") hT Cb ?_)
  | refine wpAny_bind (wpAny_pure (wpAny_bind (Ry (name:=aL "__bool__") hT Cb ?_)))
 first
  | refine wpAny_bind (pO (name:=aL "__len__") hT o7.lookup ?_)
  | refine wpAny_bind (wpAny_pure (wpAny_bind (pO (name:=aL "__len__") hT o7.lookup ?_)))
 first
  | exact wpAny_bind (wpAny_mono key (fun r s' h'=>by obtain ⟨rfl,hq⟩:=h';exact wpAny_pure hq) fun _ _ e=>e)
  | exact wpAny_bind (wpAny_pure (wpAny_bind (wpAny_mono key (fun r s' h'=>by obtain ⟨rfl,hq⟩:=h';exact wpAny_pure hq) fun _ _ e=>e)))
theorem Lh {v:V} {r:Res Bool} (h:(iE c.K v >>= fun vs=>if vs.length≤aZ then pure (!vs.isEmpty) else Mo.fail) σ=r) (hn:r≠.fail) (R:Rl c σ aD tv hid s g m mo fz) (hv:VR c.base fz (bh mo) v va) :
  aF c.M c.A (EF va) (Vt c r aD tv hid) E s:=by
 refine X35 (Gi R hv (fun q=>hn (h.symm.trans q))) fun ps l vals e1 hr1 e2 hl h1=>?_;rw[e2];have h:=e1.symm.trans h;refine cz (bW (a:=(pure (!ps.isEmpty):Mo Bool)) h hn) fun hk h=>?_;unfold aZ at hk;have hz:=h1.length;rw[cH] at hz;refine wpAny_truthy_list hl (by exact zI [↑vals.size,↑ps.length] 0 (.g bH cQ (.g cQ (.num 16777216) .e)) (.add bH eB) (.num 9223372036854775808) zC (zO (zA hz)) (zO hk)) ⟨σ,?_,R.rel.toks⟩;have e:ps.isEmpty=vals.isEmpty:=by
  rw[k9,List.isEmpty_iff_length_eq_zero,Array.isEmpty_iff_size_eq_zero,hz]
 rw[← e];exact h.symm
theorem Lj {v:V} (hr:tG c.K v σ≠.fail) (R₀ : Rel c σ (v :: aD) (va :: tv) hid s) :
  aF c.M c.A (EF va) (Vt c (tG c.K v σ) aD tv hid) (kH c (tG c.K v σ) aD tv hid) s:=by
 refine iM R₀ fun g m mo fz bN=>?_;refine cz (bN.one) fun hv R=>?_;clear bN
 cases v with
 | p x=>cases x with
  | none=>rw[PV.inv hv.inv];exact truthy_none ⟨σ,rfl,R.rel⟩
  | bool _=>rw[PV.inv hv.inv];exact wpAny_truthy_bool ⟨σ,rfl,R.rel⟩
  | int _=>exact (PV.inv hv.inv).elim fun t e=>by rw[e];exact truthy_int ⟨σ,rfl,R.rel⟩
  | str x =>
   refine eU (PV.inv hv.inv) fun t e=>?_;rw[e];refine cz (bW (a:=(pure ((x.length:Int) != 0):Mo Bool)) (rfl:tG c.K (.p (.str x)) σ=_) hr) fun hk h=>?_;unfold aZ at hk;exact P.truthy_str (by exact fun pM=>(zJ [↑x.length] (.g (.num 9223372036854775808) bH (.g bH (.num 16777216) .e)) zC pM (zO hk))) ⟨σ,h.symm,R.rel.toks⟩
  | dq=>exact X44 (PV.inv hv.inv) fun a o x y e h1 h2 h3=>by rw[e];exact Nb (R.at h1) h2 h3 fun k=>⟨σ,rfl,R.rel.toks⟩
  | _=>exact Lh rfl hr R hv
 | _=>exact Lh rfl hr R hv
end
noncomputable def cI (ev:Ev) (c:Cx):Prop:=∀ e σ,SE c (eval e c.env) σ (ev.E c.env.scope e σ)
noncomputable def nu (ev:Ev) (c:Cx):Prop:=∀ e σ,SB c (AR e c.env (eval e c.env)) σ (ev.T c.env.scope e σ)
section
theorem SE.bin {l r:Expr} (HE:cI ev c):SE c (eval (.BinOp l op r pos) c.env) σ ((ev.E c.env.scope l >>= fun a=>ev.E c.env.scope r >>= fun b=>xN c.K op a b) σ):=
 .mk fun _ h hn _ _ _ _ R=>wpAny_BinOp (SE.go (HE l σ) h hn R (fun _ _ x=>x) fun _ bx _ _ h bN=>SE.go (HE r bx) h hn bN (fun _ _ x=>x.pop) fun _ _ _ _ h cX=>JR h hn cX)
theorem SE.cmp {l r:Expr} {op:yC} (HE:cI ev c):SE c (eval (.Compare l [op] [r] pos) c.env) σ ((if fW op r=false then ev.E c.env.scope l >>= fun a=>ev.E c.env.scope r >>= fun b=>rF op a b else Mo.fail) σ):=by
 refine .mk fun _ h hn _ _ _ _ R=>?_;refine cz (bW h hn) fun hm h=>?_;exact wpAny_Compare1 (SE.go (HE l σ) h hn R (fun _ _ x=>x) fun _ bx _ _ h bN=>SE.go (HE r bx) h hn bN (fun _ _ x=>x.pop) fun _ _ _ _ h cX=>JV h hn cX) hm
theorem SE.sub {l r:Expr} (HE:cI ev c):SE c (eval (.Subscript l r pos) c.env) σ ((ev.E c.env.scope l >>= fun a=>ev.E c.env.scope r >>= fun b=>jV c.K a b) σ):=
 .mk fun _ h hn _ _ _ _ R=>Subscript_ (SE.go (HE l σ) h hn R (fun _ _ x=>x) fun _ bx _ _ h bN=>SE.go (HE r bx) h hn bN (fun _ _ x=>x.pop) fun _ _ _ _ h cX=>Tn h hn cX)
theorem Li {f:Bool→Mo β} {r:Res β} {Q:Bool→aG→Prop} (h:(tG c.K u >>= f) σ=r) (hn:r≠.fail) (R:Rel c σ (u :: aD) (v :: tv) hid s)
  (hE:∀ ev s',kH c r aD tv hid ev s'→E ev s') (k:∀ b σ' s',f b σ'=r→Rel c σ' aD tv hid s'→Q b s'):aF c.M c.A (EF v) Q E s:=by
 have xR:tG c.K u σ≠.fail:=oB h hn;refine wpAny_mono (Lj xR R) (fun b s' aiL=>bU aiL fun σ' e R'=>k b σ' s' (i8 e h) R') fun ev s' x=>hE ev s' ?_;rw[← h];exact x.iN
theorem SE.not (HE:cI ev c):SE c (eval (.UnaryOp .Not e pos) c.env) σ ((ev.E c.env.scope e >>= fun v=>tG c.K v >>= fun b=>pure (.p (.bool !b))) σ):=
 .mk fun _ h hn _ _ _ _ R=>wpAny_UnaryOp (SE.go (HE e σ) h hn R (fun _ _ x=>x) fun _ bx _ _ h bN=>not_of (Li h hn bN (fun _ _ x=>x) fun _ b5 _ h cX=>(Y2 _ b5 ⟨h.symm,cX.push fun _ _ _=>.bool⟩)))
theorem SE.neg (HE:cI ev c):SE c (eval (.UnaryOp .USub e pos) c.env) σ ((ev.E c.env.scope e >>= acY) σ):=by
 refine .mk fun r h hn aD tv hid s R=>wpAny_UnaryOp (SE.go (HE e σ) h hn R (fun _ _ x=>x) fun _ bx _ b3 h bN=>?_);refine iM (bN) fun g m mo fz cX=>?_;refine cz (cX.one) fun hv gv=>?_;refine bU (bK h hn) fun i hi h=>?_;refine eU (hv.pC hi) fun _ ajr=>?_;rw[ajr];exact neg_int (gv.val h.symm fun _ _ _=>.int)
theorem Rel.dup (R:Rel c σ (u :: aD) (v :: tv) hid s):Rel c σ (u :: u :: aD) (v :: v :: tv) hid s:=by
 refine iM R fun g m mo fz R=>?_;exact (R.push R.one.1).rel
set_option backward.match.sparseCases true in
theorem LF {op:BoolOp} {e e2:Expr}
  (h:aF M A (eval e env) (fun v b3=>aF M A (EF v) (fun t cD=>if An op t=true then Q v cD else aF M A (boolOp pos op (VK (e2 :: es) env)) Q E cD) E b3) E s):aF M A (boolOp pos op (VK (e :: e2 :: es) env)) Q E s:=by
 show aF M A (do
   let v ← eval e env
   standAt pos
   let t ← holding [v] (EF v)
   match op,t with
   | .And,false | .Or,true=>pure v
   | _,_=>boolOp pos op (eval e2 env :: VK es env)) Q E s
 refine wpAny_bind (wpAny_mono h (fun v b3 h=>wpAny_bind (gA (wpAny_bind (cF (wpAny_mono h (fun t cD h=>?_) fun _ _ x=>x))))) fun _ _ x=>x);cases op<;>cases t<;>first | exact wpAny_pure h | exact h
theorem SE.Bt {op:BoolOp} {pos:Pos} (HE:cI ev c):∀ (es:List Expr) (σ:St),SE c (boolOp pos op (VK es c.env)) σ (Bt c.K (ev.E c.env.scope) op es σ)
 | [],σ=>fun hr=>absurd rfl hr
 | [e],σ=>HE e σ
 | e :: e2 :: es,σ=>by
  refine .mk fun r h hn aD tv hid s R=>LF (SE.go (HE e σ) h hn R (fun _ _ x=>x) fun a bx va b3 h bN=>Li h hn bN.dup (fun _ _ x=>x.pop) fun b b5 cD h cX=>?_);by_cases q:An op b=true
  ·rw[aA q] at h ⊢
   exact (Y2 a b5 ⟨h.symm,cX⟩)
  ·rw[aS q] at h ⊢
   exact SE.fin (SE.Bt HE (e2 :: es) b5) h hn cX.pop
theorem GR {op:BoolOp} {pos:Pos} {whole:Sem ah} (HT:nu ev c):∀ (es:List Expr) (σ:St),SB c (AR (.BoolOp op es pos) c.env whole) σ (xB (ev.T c.env.scope) op es σ)
 | [],σ=>fun hr aD tv hid s R=>by
  cases op<;>exact wpAny_pure ⟨σ,rfl,R⟩
 | e :: es,σ=>by
  have rest:∀ {r:Res Bool} {aD tv hid} {b:Bool} {bx : St} {b3 : aG},An op b=false→(if An op b=true then pure b else xB (ev.T c.env.scope) op es:Mo Bool) bx = r→r≠.fail→Rel c bx aD tv hid b3→aF c.M c.A (AR (.BoolOp op es pos) c.env whole) (Vt c r aD tv hid) (kH c r aD tv hid) b3:=fun {r aD tv hid b bx b3} q h hn bN=>by
   rw[q,aS bR] at h;exact SB.fin (GR HT es bx) h hn bN
  refine .mk fun r h hn aD tv hid s R=>?_;have h':=h;cases op with
  | And =>
   refine isTrue_and (SB.go (HT e σ) h' hn R (fun _ _ x=>x) fun b bx b3 h bN=>?_);cases b with
   | true=>exact rest rfl h hn bN
   | false=>exact ⟨bx,h.symm,bN⟩
  | Or =>
   refine isTrue_or (SB.go (HT e σ) h' hn R (fun _ _ x=>x) fun b bx b3 h bN=>?_);cases b with
   | false=>exact rest rfl h hn bN
   | true=>exact ⟨bx,h.symm,bN⟩
end
theorem qI:∀ (l:List (Str × Sl)) (x:Str) (v:V) (y:Str),(B7 l x v).lookup y=if y=x then some (.val v) else l.lookup y
 | [],x,v,y=>by
  delta B7;rw[aH];by_cases h:y=x
  ·subst h;simp
  ·rw[aS h,aJ.mpr h]
 | (z,sl) :: r,x,v,y=>by
  unfold B7;by_cases h:z=x
  ·subst h
   rw[aA (cY _),aH,aH];by_cases h':y=z
   ·subst h';simp
   ·rw[aS h',aJ.mpr h']
  ·rw[aS (by rw[aJ.mpr h];decide),aH,aH,qI r x v y]
   by_cases h':y=z
   ·subst h';simp [h]
   ·rw[aJ.mpr h']
section
structure Own (c:Cx):Prop where
 loc:c.env.locals=c.L
 p8:c.p8=none
 J9:c.env=c.l8
set_option tactic.hygienic true in
theorem Ed (O:Own c) (hr:o9 x u σ≠.fail) (R₀ : Rel c σ (u :: aD) (v :: tv) hid s) :
  aF c.M c.A (storeName c.env x v) (PoU c (o9 x u σ) aD tv hid) E s:=by
 refine iM R₀ fun g m mo fz bN=>?_;refine cz (bN.one) fun hv R=>?_;clear bN
 unfold o9 at hr ⊢;split at hr
 ·rename_i j hl
  split at hr
  ·rename_i ov hj
   refine cz (R.loc _ _ hl) fun hk ajs=>?_;refine bU (ajs) fun a hc XQ=>?_;refine nv (R.kX XQ hj) fun o ho hh ajt=>?_;refine bU ajt fun cv BO _=>?_;have fin:∀ h',h'.IsCell a (some v)→mh a s.heap h'→PoU c (.ok () { σ with aP:=σ.aP.set j (.cell (some u)) }) aD tv hid () { s with heap:=h' }:=fun h' aiI hs=>bU aiI fun o' sV zb =>
    ⟨_,rfl,(R.D4 (ob:=.cell (some u)) ho hs sV ⟨some v,zb,hv⟩).rel⟩
   rcases hk with hk | hk
   ·exact wpAny_storeName_cell c.hk hk hc ⟨o,hh,BO⟩ fin
   ·exact storeName_free c.hk hk hc ⟨o,hh,BO⟩ fin
  ·exact absurd rfl hr
 ·rename_i sl Mf hl
  have hk:c.env.kindOf x=some .local:=by
   have:=R.loc _ _ hl;cases sl with
   | val _=>exact this.1
   | unset=>exact this
   | cell j=>exact absurd rfl (Mf j)
  refine Vf hk (O.loc ▸ R.core.F.ns) (fun h' hn hs=>?_) (by rw[c.hk];rfl);rw[O.loc] at hn hs;refine ⟨_,rfl,g,_,mo,fz,R.gh,R.core.local hn hs,fun z7 e=>(by rw[O.p8] at e;cases e),fun y Sd e=>?_,R.aP,R.aD,R.gens,R.os,R.dw⟩;rw[qI] at e;by_cases hy:y=x
  ·subst hy
   rw[aA rfl] at e;cases e;exact ⟨hk,v,hv,.inl ⟨O.loc,aA rfl⟩⟩
  ·rw[aS hy] at e
   have:=R.loc _ _ e;cases Sd with
   | unset=>exact this
   | cell j=>exact this
   | val u' =>
    refine cz this fun h1 aju=>?_;refine bU aju fun val h2 h3=>?_;exact ⟨h1,val,h2,h3.imp (fun aiJ=>cz aiJ fun p q=>⟨p,(aS hy).trans q⟩) id⟩
 ·exact absurd rfl hr
end
noncomputable def kJ (ev:Ev) (c:Cx):Prop:=∀ ss σ,SS c (FF ss c.env) σ (ev.B c.env.scope ss σ)
section
theorem SS.pass:SS c (exec (.Pass pos) c.env) σ (.ok .next σ):=fun _ aD tv hid s R=>wpAny_Pass (Y2 (.next) σ ⟨rfl,R⟩)
theorem SS.brk {pos:Pos}:SS c (exec (.Break pos) c.env) σ (.ok .brk σ):=fun _ aD tv hid s R=>wpAny_Break (Y2 (.brk) σ ⟨rfl,R⟩)
theorem SS.cont {pos:Pos}:SS c (exec (.Continue pos) c.env) σ (.ok .cont σ):=fun _ aD tv hid s R=>wpAny_Continue (Y2 (.cont) σ ⟨rfl,R⟩)
theorem SS.aiu:SS c (exec (.Return none pos) c.env) σ (.ok (.ret (.p .none)) σ):=fun _ aD tv hid s R=>wpAny_Return_none (Y2 (.ret (.p .none)) σ ⟨rfl,R.push fun _ _ _=>.p .none⟩)
theorem SS.ret {e:Expr} {pos:Pos} (HE:cI ev c):SS c (exec (.Return (some e) pos) c.env) σ ((ev.E c.env.scope e >>= fun v=>pure (.ret v)) σ):=
 .mk fun _ h hn _ _ _ _ R=>wpAny_Return_some (SE.go (HE e σ) h hn R (fun _ _ x=>x) fun a bx _ _ h bN=>(Y2 (.ret a) bx ⟨h.symm,bN⟩))
theorem SS.ifs {t:Expr} {b e:List Stmt} (HT:nu ev c) (HB:kJ ev c):SS c (exec (.If t b e pos) c.env) σ ((ev.T c.env.scope t >>= fun d=>if d then ev.B c.env.scope b else ev.B c.env.scope e) σ):=by
 refine .mk fun _ h hn _ _ _ _ R=>wpAny_If (SB.go (HT t σ) h hn R (fun _ _ x=>x) fun d bx _ h bN=>?_);cases d with
 | true=>exact SS.fin (HB b bx) h hn bN
 | false=>exact SS.fin (HB e bx) h hn bN
theorem GP {t:Option Expr} {l:Nat} (h:nB e=false):swapsWith e t l env=pure false:=by
 cases e<;>first | rfl | cases h
theorem SS.expr (HE:cI ev c) (hi:V1 c.env=false):SS c (exec (.Expr e pos) c.env) σ ((if nB e=false then ev.E c.env.scope e >>= fun _=>pure .next else Mo.fail) σ):=by
 refine .mk fun _ h hn _ _ _ _ R=>?_;refine cz (bW h hn) fun hc h=>?_;exact wpAny_Expr_any (SE.go (HE e σ) h hn R (fun _ _ x=>x) fun _ bx _ _ h bN=>(Y2 (.next) bx ⟨h.symm,bN.pop⟩)) hi (GP hc)
theorem SS.nil:SS c (FF [] c.env) σ (.ok .next σ):=fun _ aD tv hid s R=>mF (Y2 (.next) σ ⟨rfl,R⟩)
theorem SS.cons {st:Stmt} {ss:List Stmt} {m:Mo Fl} {n:Mo Fl} (h1:∀ σ,SS c (exec st c.env) σ (m σ)) (h2:∀ σ,SS c (FF ss c.env) σ (n σ)) :
  SS c (FF (st :: ss) c.env) σ ((m >>= fun fl=>match fl with
   | .next=>n
   | fl=>pure fl) σ):=by
 intro hr aD tv hid s R;have xR:=hr;refine EH (wpAny_mono (h1 σ (qM xR) aD tv hid s R) (fun f s' aiH=>jU aiH fun fl σ' e' R'=>?_) fun _ _ x=>x.iN);rw[mR,e'] at hr ⊢;cases fl<;>cases f<;>first | exact R'.elim | exact h2 σ' hr aD tv hid s' R' | exact (Y2 _ σ' ⟨rfl,R'⟩)
end
section
noncomputable def PoL (c:Cx) (r:Res (List V)) (aD:List V) (tv:List ah) (hid:Led):List ah→aG→Prop:=fun vs s'=>∃ us σ',r = .ok us σ'∧us.length=vs.length∧Rel c σ' (us.reverse++aD) (vs.reverse++tv) hid s'
theorem D6 (h:isStar e=false):j3 (e :: es) env=(false,eval e env) :: j3 es env:=by
 cases e<;>first | rfl | cases h
theorem JO (HE:cI ev c) {pos:Pos}:∀ (es:List Expr) (σ:St) (aD:List V) (tv:List ah) (s:aG),jD (ev.E c.env.scope) es σ≠.fail→Rel c σ aD tv hid s →
  aF c.M c.A (spliced (sP pos (j3 es c.env))) (PoL c (jD (ev.E c.env.scope) es σ) aD tv hid) (kH c (jD (ev.E c.env.scope) es σ) aD tv hid) s
 | [],σ,aD,tv,s,hr,R=>Se ⟨[],σ,rfl,rfl,R⟩
 | e :: es,σ,aD,tv,s,hr,R=>by
  generalize h:jD (ev.E c.env.scope) (e :: es) σ=r at hr ⊢;refine cz (bW (p:=isStar e=false) (a:=ev.E c.env.scope e >>= fun v=>jD (ev.E c.env.scope) es >>= fun vs=>pure (v :: vs)) h hr) fun hs h=>?_;refine CO (SE.go (HE e σ) h hr R (fun _ _ x=>x) fun a bx va b3 h bN=>?_) (D6 hs);have NG:jD (ev.E c.env.scope) es bx≠.fail:=fun q=>hr (by rw[← h,mR,q];rfl);refine wpAny_mono (JO HE es bx _ _ b3 NG bN) (fun vs cD yy5=>Eo yy5 fun us b5 r8 hl cX=>(Y2 (a :: us) b5 ⟨(i8 r8 h).symm,by simp [hl],by simpa using cX⟩)) fun _ _ x=>?_;rw[← h];exact x.pop.iN
theorem yc {f:List V→Mo β} {r:Res β} {Q:List ah→aG→Prop} (HE:cI ev c) (h:(jD (ev.E c.env.scope) es >>= f) σ=r) (hn:r≠.fail) (R:Rel c σ aD tv hid s)
  (hE:∀ ev s',kH c r aD tv hid ev s'→E ev s') (k:∀ us σ' vs s',f us σ'=r→us.length=vs.length→Rel c σ' (us.reverse++aD) (vs.reverse++tv) hid s'→Q vs s'):aF c.M c.A (spliced (sP pos (j3 es c.env))) Q E s:=by
 have NG:jD (ev.E c.env.scope) es σ≠.fail:=fun q=>hn (by rw[← h,mR,q];rfl);refine wpAny_mono (JO HE es σ _ _ s NG R) (fun vs cD yy6=>Eo yy6 fun us b5 r8 hl cX=>k us b5 vs cD (i8 r8 h) hl cX) fun _ _ x=>hE _ _ ?_;rw[← h];exact x.iN
theorem eW.split (hl:us.length=vs.length) (h:eW b fz μ (us++aD) (vs++tv)):eW b fz μ us vs∧eW b fz μ aD tv:=by
 induction us generalizing vs with
 | nil=>cases vs with
  | nil=>exact ⟨.nil,h⟩
  | cons _ _=>cases hl
 | cons u us ih=>cases vs with
  | nil=>cases hl
  | cons v vs=>cases h with | cons a r=>exact ⟨.cons a (ih (by simpa using hl) r).1,(ih (by simpa using hl) r).2⟩
theorem eW.rev (h:eW b fz μ us vs):eW b fz μ us.reverse vs.reverse:=by
 induction us generalizing vs with
 | nil=>cases h;exact .nil
 | cons u us ih=>cases h with | cons a r=>simp only [RH];exact (ih r).append (.cons a .nil)
theorem Rl.args (hl:us.length=vs.length) (R:Rl c σ (us.reverse++aD) (vs.reverse++tv) hid s g m mo fz):eW c.base fz (bh mo) us vs∧Rl c σ aD tv hid s g m mo fz:=by
 refine cz (eW.split (by simpa using hl) R.aD) fun h1 h2=>?_;exact ⟨by simpa using h1.rev,R.kj h2⟩
set_option tactic.hygienic true in
theorem eW.Ro {b:Heap} {μ : List Addr}:∀ {us:List V} {vs:List ah} {ps:List P},eW b fz μ us vs→Mine.Ro us=some ps→jS b fz ps vs
 | [],vs,ps,h,e=>by cases h;cases e;exact .nil
 | u :: us,vs,ps,h,e=>by
  cases h with | cons a r =>
   unfold Mine.Ro at e;cases u with
   | p x =>
    simp only at e;split at e
    ·rename_i q
     cases e;cases a with | p a=>exact .cons a (eW.Ro r q)
    ·cases e
   | _=>cases e
theorem SE.list {es:List Expr} {pos:Pos} (HE:cI ev c):SE c (eval (.List es pos) c.env) σ ((jD (ev.E c.env.scope) es >>= fun vs=>Mo.get (Ro vs) fun ps=>if ps.length≤aZ then KD (.list ps) >>= fun k=>pure (.obj k) else Mo.fail) σ):=by
 refine .mk fun r h hn aD tv hid s R=>List_ (yc HE h hn R (fun _ _ x=>x) fun us bx vs b3 h hl bN=>?_);refine bU (bK h hn) fun ps hp h=>?_;refine cz (bW h hn) fun kC h=>?_;refine iM (bN) fun g m mo fz cX=>?_;refine cz (cX.args hl) fun hv gv=>?_;have F3:=hv.Ro hp;have hz:=F3.length;refine wpAny_newList ?_ (by exact Km (zA hz) kC);have jT:=gv.z8 { cls:=.type "list",data:=.seq vs.toArray } (.list ps) rfl (Y2 (vs.toArray) (0) ⟨rfl,by exact F3⟩);refine (Y2 (.obj bx.aP.length) _ ⟨h.symm,(jT.push (.obj ?_)).rel⟩);rw[← gv.aP.len];unfold bh;simp
theorem SE.tuple {es:List Expr} {k:Nat} {pos:Pos} (HE:cI ev c):SE c (eval (.Tuple es k pos) c.env) σ ((jD (ev.E c.env.scope) es >>= fun vs=>if vs.length≤aZ then pure (Qk vs) else Mo.fail) σ):=by
 refine .mk fun r h hn aD tv hid s R=>Tuple_ (yc HE h hn R (fun _ _ x=>x) fun us bx vs b3 h hl bN=>?_);refine cz (bW h hn) fun kC h=>?_;refine iM (bN) fun g m mo fz cX=>?_;refine cz (cX.args hl) fun hv gv=>?_;refine wpAny_newTuple ?_ (by exact Km (zG hl) kC);have jT:=gv.sC { cls:=.type "tuple",data:=.seq vs.toArray } rfl;refine (Y2 _ bx ⟨h.symm,(jT.push ?_).rel⟩);unfold Qk;refine oC (Ro us) (fun hp=>?_) fun ps hp=>?_
 ·exact .tup (.inl (.head _)) rfl rfl (by exact hv.mono .ND)
 ·exact .p (.tup (.inl (.head _)) rfl rfl (by exact (hv.Ro hp).mono fun _ h=>.tail _ h))
end
section
theorem jS.pick {b:Heap} {ps:List P} {vals:eF ah} (h:jS b fz ps vals.toList):∀ (is:List Nat),jS b fz (is.filterMap (ps[·]?)) (is.filterMap (vals[·]?))
 | []=>.nil
 | i :: is=>by
  rw[gD,gD];refine oC (ps[i]?) (fun q=>?_) fun u q=>?_
  ·have hz:=h.length
   have:vals[i]?=none:=by
    rw[cC] at q;rw[oS];exact nG hz q
   rw[this];exact h.pick is
  ·refine bU (h.get q) fun v hv hp=>?_
   have hv':vals[i]?=some v:=by simpa using hv
   rw[hv'];exact .cons hp (h.pick is)
theorem H7 (HE:cI ev c) {e:Option Expr} {r:Mo V} (er:Hj (ev.E c.env.scope) e=r):SE c (evalPart e c.env) σ (r σ):=by
 subst er;cases e with
 | none=>exact fun _ aD tv hid s R=>wpAny_pure (Y2 _ σ ⟨rfl,R.push fun _ _ _=>.p .none⟩)
 | some e=>exact HE e σ
theorem DW {o:Option Int} (h:VR b fz μ u v) (e:uG u=some o):IsPart v o:=by
 cases h with
 | p h=>cases h<;>cases e<;>first | exact .none | exact .int _ _
 | _=>cases e
theorem UR {a b d f:V} {va vb vd vf:ah} (h:GJ c.K a b d f σ=r) (hn:r≠.fail) (R:Rl c σ aD tv hid s g m mo fz) (ha:VR c.base fz (bh mo) a va) (hb:VR c.base fz (bh mo) b vb) (hd:VR c.base fz (bh mo) d vd) (hf:VR c.base fz (bh mo) f vf) {value slice:Expr} :
  aF c.M c.A (As value slice va (.ref s.heap.objs.size)) (iZ c r aD tv hid) (kH c r aD tv hid) { s with heap:=s.heap.push { cls:=.type "slice",data:=.fields #[vb,vd,vf] } }:=by
 refine bU (bK h hn) fun x hx h=>?_;refine bU (bK h hn) fun y hy h=>?_;refine bU (bK h hn) fun z hz h=>?_;have px:=DW hb hx;have py:=DW hd hy;have pz:=DW hf hz;clear hb hd hf
 refine oC (strOf a) (fun q=>?_) fun w q=>?_
 ·rw[q] at h
  refine Hi (mO R ha h hn) fun xs l vals h ajy hl h1=>?_;rw[ajy];refine cz (bW h hn) fun hc h=>?_;have TS:=h1.length;rw[cH] at TS;refine lY (Heap.IsList.typeIs (hl.push _)) yu (wpAny_getItem_list_slice (hl.push _) (Heap.IsSliceOf.new ..) px py pz hc.1 ?_ (by exact Km (zA TS) hc.2));refine ⟨_,σ,h.symm,(((R.Gr _).sC _ rfl).push (.p (.lst (.inl (.head _)) ⟨rfl,rfl,rfl⟩ rfl ?_))).rel⟩;have:=h1.pick (ru (fq x y z xs.length).1 (fq x y z xs.length).2.1 (fq x y z xs.length).2.2);delta qa slicePick;rw[TS];simpa using this.mono fun _ h=>.tail _ h
 ·simp only [q] at h
  refine eU (ha.pG q) fun _ ajv=>?_;rw[ajv];refine cz (bW h hn) fun ajw h2=>?_;refine cz ajw fun ajx kC=>?_;obtain rfl:=ajx;cases pz;have hk:KeptH (fun h'=>Rl c σ aD tv hid { s with heap:=h' } g m mo fz):=fun h' ob r=>r.Gr ob;have hI:(fun h'=>Rl c σ aD tv hid { s with heap:=h' } g m mo fz) s.heap:=R;have fin:∀ h' t' k,(fun h'=>Rl c σ aD tv hid { s with heap:=h' } g m mo fz) h'→iZ c r aD tv hid (.str (jK w x y) t') { s with heap:=h',toks:=k }:=fun h' t' k r=>r.val h2.symm fun _ _ _=>.str;cases px<;>cases py
  ·obtain ⟨T,id,hl,hT,hg⟩:=SBH.sliceItem_nn (t:=_) hk hI fin kC
   exact lY hT hl hg
  ·obtain ⟨T,id,hl,hT,hg⟩:=SBH.sliceItem_ns (t:=_) hk hI fin kC
   exact lY hT hl hg
  ·obtain ⟨T,id,hl,hT,hg⟩:=SBH.sliceItem_sn (t:=_) hk hI fin kC
   exact lY hT hl hg
  ·obtain ⟨T,id,hl,hT,hg⟩:=SBH.sliceItem_ss (t:=_) hk hI fin kC
   exact lY hT hl hg
theorem SE.slice {l:Expr} {lo hi st:Option Expr} {p pos:Pos} (HE:cI ev c):SE c (eval (.Subscript l (.Slice lo hi st p) pos) c.env) σ
  ((ev.E c.env.scope l >>= fun a=>Hj (ev.E c.env.scope) lo >>= fun l=>Hj (ev.E c.env.scope) hi >>= fun u=>Hj (ev.E c.env.scope) st >>= fun t=>GJ c.K a l u t) σ):=by
 refine .mk fun r h hn aD tv hid s R=>Subscript_ (SE.go (HE l σ) h hn R (fun _ _ x=>x) fun a bx va b3 h bN=>wpAny_Slice ?_);refine SE.go (mm:=Hj (ev.E c.env.scope) lo) (H7 HE rfl) h hn bN (fun _ _ x=>x.pop) fun b b5 vb cD h cX=>?_;refine SE.go (mm:=Hj (ev.E c.env.scope) hi) (H7 HE rfl) h hn cX (fun _ _ x=>x.pop.pop) fun d iU vd i9 h gv=>?_;refine SE.go (mm:=Hj (ev.E c.env.scope) st) (H7 HE rfl) h hn gv (fun _ _ x=>x.pop.pop.pop) fun f nN vf Jl h jT=>?_;refine iM (jT) fun g m mo fz pg=>?_;refine cz (pg.one) fun hf oO=>?_;refine cz (oO.one) fun hd C6=>?_;refine cz (C6.one) fun hb ER=>?_;refine cz (ER.one) fun ha R=>?_;exact UR h hn R ha hb hd hf
end
section
theorem Rl.Aj (R:Rl c σ aD tv hid s g m mo fz) (hk:∀ b o,g.get? b=some o→b∉c.fs→s'.heap.get? b=some o) (hf:∀ b o,g.get? b=some o→b∈c.fs→∃ sl,s'.heap.get? b=some { o with slots:=sl })
  (hl:∀ p∈mo++(fz++hid),s'.heap.get? p.1=some p.2) (hL:s'.heap.Ns c.L m) (hg:Ho s'.gens∧c.gn≤s'.gens.size) (ho:s'.os=c.os):∃ g',KtsTurn c.fs g g'∧Rl c σ aD tv hid s' g' m mo fz:=by
 obtain ⟨ve,WZ⟩:=kts_turn_at (h:=s'.heap) (fs:=c.fs) (g:=g) (fun b hb=>by
  refine cz (R.gh.B.frames.mem hb) fun _ ajz=>?_;refine bU ajz fun o sV _=>?_;exact ⟨o,sV⟩) hk hf
 refine ⟨ktsHeap s'.heap c.fs g,ve,⟨R.gh.turn.trans ve,⟨R.gh.B.stack,fun b o e=>ve.other b o (R.gh.B.stays b o e) (fun hm=>?_),R.gh.B.frames.of_keeps fun b o e _=>?_⟩,R.gh.D.turn ve⟩,
  ⟨⟨hL,WZ,by rw[ve.size];exact R.core.F.above⟩,fun p hp=>⟨hl p hp,(R.core.N p hp).2.1,ve.none_ _ (R.core.N p hp).2.2⟩,R.core.nd,R.core.dj,R.core.dh,R.core.nh⟩,R.p8,R.loc,R.aP,R.aD,hg,ho,R.dw⟩
 ·have:=(R.gh.B.frames.mem hm).1
  rw[this] at e;cases e
 ·refine eU (ve.up e) fun sl hs=>?_
  exact ⟨_,hs,rfl⟩
theorem CW {fs:List Addr} {g g':Heap} (T:KtsTurn fs g g') {b:Addr} (e:g'.get? b=some o) (h:b∉fs):g.get? b=some o:=by
 refine oC (g.get? b) (fun q=>?_) fun ail q=>?_
 ·rw[T.none_ b q] at e;cases e
 ·rw[T.other b ail q h] at e;exact e
end
section
noncomputable def Cx.Et (c:Cx):List Addr:=(c.l8 :: c.outer).filterMap (·.frame)
theorem yY:c.Et=c.L :: c.fs:=by unfold Cx.Et;rw[gD,c.hf];rfl
theorem Rl.frames (R:Rl c σ aD tv hid s g m mo fz):s.heap.FunFrames (cT s.heap c.Et) (c.l8 :: c.outer):=by
 refine funFrames_hide (base:=c.base) ?_ fun env he a ha=>NX.mpr ⟨env,he,ha⟩;have hn:c.base.get? c.L=none:=by
  refine oC (c.base.get? c.L) (fun q=>?_) fun o q=>?_
  ·rfl
  ·have:=R.gh.B.stays _ _ q;rw[kts_self R.core.F] at this;cases this
 exact Heap.FunFrames.cons (by rw[c.TF];decide) c.hf R.core.F.ns hn (R.gh.B.frames.of_keeps fun b o e _=>⟨o,R.core.F.keep b o e,rfl⟩)
theorem Rl.off (R:Rl c σ aD tv hid s g m mo fz) {b:Addr} (e:g.get? b=some o) (h:b∉c.fs):b∉c.Et:=by
 rw[yY];intro hm;refine bJ (av.mp hm) (fun q=>?_) fun q=>?_
 ·rw[q,kts_self R.core.F] at e;cases e
 ·exact h q
theorem Rl.led (R:Rl c σ aD tv hid s g m mo fz) {p:Addr × Obj} (hp:p∈mo++(fz++hid)):p.1∉c.Et:=by
 rw[yY];intro hm;refine bJ (av.mp hm) (fun q=>?_) fun q=>?_
 ·exact (R.core.N p hp).2.1 q
 ·refine AN (R.gh.D _ q) fun o es n ho _=>?_
  rw[(R.core.N p hp).2.2] at ho;cases ho
theorem Aa {x:Xn} {e:Addr} {Q:Unit→aG→Prop}
  (hx:EO h s.heap e x) (R₀ : Rel c σ aD tv hid { s with heap:=h }) (k:∀ h',n7 c x e σ aD tv hid { s with heap:=h' }→Q () { s with heap:=h' }):aF c.M c.A (xS (.ref e) c.l8) Q E s:=by
 refine iM R₀ fun g m mo fz R=>?_;refine Hi hx.there fun ob t cx he hc hd hcx=>?_;dsimp only [xS];rw[c.hf];refine wpAny_bind (m8 he hd (x:=.none) rfl ?_);have yj:s.heap.FunFrames (cT h c.Et) (c.l8 :: c.outer):=R.frames.of_keeps fun b o e _=>⟨o,hx.keeps b o e,rfl⟩;refine FD (a0:=t) c.hA yj c.hf he (fun b o eb=>hx.keeps b o (of_hideAll _ eb)) ?_ hd (by show 1<6;decide) rfl fun h' T hN hex=>k h' ?_
 ·refine oC ((cT h c.Et).get? e) (fun q=>?_) fun o q=>?_
  ·rfl
  ·have:=of_hideAll _ q;rw[hx.new] at this;cases this
 refine En hN fun k1 k2 k3 k4=>?_;obtain ⟨g',T',R'⟩:=R.Aj (s':={ s with heap:=h' }) (fun b o eb hb=>k1 b o (kU _ (R.core.F.keep b o eb) (R.off eb hb)))
  (fun b o eb hb=>k4 b o (hx.keeps _ _ (R.core.F.keep b o eb)) fun vs q=>by
   refine AN (R.gh.D b hb) fun o' es n sV zb=>?_;rw[eb] at sV;cases sV;rw[zb] at q;cases q)
  (fun p hp=>k1 _ _ (kU _ (R.core.N p hp).1 (R.led hp)))
  (Heap.UpToSlots.ns (h:=s.heap) k4 (R.core.F.ns.keeps hx.keeps)) R.gens R.os
 refine (Y2 _ t (Y2 g' m (Y2 mo fz ⟨R',⟨k1,?_,k2,hc ▸ k3⟩,fun b o eb hb=>?_,fun p hp=>kU _ (R.core.N p hp).1 (R.led hp),?_⟩)))
 ·refine oC ((cT h c.Et).get? e) (fun q=>?_) fun o q=>?_
  ·rfl
  ·have:=of_hideAll _ q;rw[hx.new] at this;cases this
 ·have eg:=CW T' eb hb
  exact kU _ (R.core.F.keep b o eg) (R.off eg hb)
 ·exact (Y2 _ _ ⟨hex,gb hd _,rfl,fun q=>by rw[xE (by decide),hcx q];rfl⟩)
end
section
theorem qJ {x:Xn} {e:Addr} {Q:Unit→aG→Prop} (H:n7 c x e σ aD tv hid s) (k:Q () s):aF c.M c.A (xS (.ref e) c.l8) Q E s:=by
 refine X63 H fun bs a0 g m mo fz R ajA _=>?_;refine En ajA fun h1 h2 h3 h4=>?_;exact wpAny_noteFrame_againW c.hf h4 k
theorem BS {x:Xn} {e:Addr} {Q:Unit→aG→Prop} (H:n7 c x e σ aD tv hid s) (k:∀ h',n7 c x e σ aD tv hid { s with heap:=h' }→Q () { s with heap:=h' }) :
  aF c.M c.A (do
   if (← field (.ref e) 1) == .none then unsupported "frame.own-activation:exception-without-traceback"
   QB (.ref e) c.l8.frame) Q E s:=by
 refine X65 H fun bs a0 g m mo fz R ajB hb hl hxx=>?_;refine En ajB fun h1 h2 h3 ajC=>?_;refine eU ajC fun oe ajD=>?_;obtain ⟨vs,T,oT,ts,he,Xx,hd,Kg,RW,Tp,hT,AP,hv3⟩:=ajD;have Pe:3<ts.size:=(Be.mp hv3).1;have other:∀ b,b≠T→(s.heap.update T (dO (·.setIfInBounds 3 (gu c.L)))).get? b=s.heap.get? b:=fun b hb=>bY _ _ (eO hb);have z9:∀ b o,s.heap.get? b=some o→(∀ vs,o.data≠.fields vs)→b≠T:=fun b o hb yo q=>by
  rw[q,hT] at hb;injection hb with hb;subst hb;exact yo ts AP
 have inB:∀ b o,bs.get? b=some o→(s.heap.update T (dO (·.setIfInBounds 3 (gu c.L)))).get? b=some o:=fun b o eb=>(other b fun q=>by rw[q,RW] at eb;cases eb).trans (h1 b o eb);refine wpAny_bind (m8 he hd Kg ?_);rw[c.hf];refine wpAny_bind (m8 he hd Kg ?_);refine nM hT AP Pe (k _ ?_);obtain ⟨g',T',R'⟩:=R.Aj (s':={ s with heap:=s.heap.update T (dO (·.setIfInBounds 3 (gu c.L))) }) (fun b o eb L8=>inB b o (hb b o eb L8))
  (fun b o eb L8=>⟨o.slots,(other b (z9 b o (R.core.F.keep b o eb) fun vs q=>by
   refine AN (R.gh.D b L8) fun o' es n sV zb=>?_;rw[eb] at sV;cases sV;rw[zb] at q;cases q)).trans (R.core.F.keep b o eb)⟩)
  (fun p hp=>inB _ _ (hl p hp))
  (by
   refine Ep R.core.F.ns fun oL es ep F1 OZ r=>?_;exact (Y2 oL es ⟨ep,(other _ (z9 _ _ F1 fun vs q=>by rw[OZ] at q;cases q)).trans F1,OZ,r⟩)) R.gens R.os
 refine (Y2 bs a0 (Y2 g' m (Y2 mo fz ⟨R',⟨inB,h2,h3.of_keeps fun b o eb yo=>⟨o,(other b (z9 b o eb yo)).trans eb,rfl⟩,?_⟩,fun b o eb L8=>hb b o (CW T' eb L8) L8,hl,?_⟩)));rotate_left
 ·refine jU hxx fun oe2 vs2 x1 x2=>?_
  exact (Y2 oe2 vs2 ⟨(other e (eO Tp)).trans x1,x2⟩)
 exact (Y2 oe vs (Y2 T _ ⟨_,(other e (eO Tp)).trans he,Xx,hd,Kg,RW,Tp,bL _ hT (nq (gb AP _)),gb AP _,by simp [Pe]⟩))
theorem kH.passes {r:Res β}:PassesOwn c.M c.A c.l8 (kH c r aD tv hid):=by
 rintro ev s' ⟨x,σ',e,hr,rfl,h⟩
 have fin:∀ Al,n7 c x e σ' aD tv hid Al→uT c.M c.A c.l8 (kH c r aD tv hid) (.ref e) Al:=fun Al H =>
  BS H fun h' H'=>(Y2 x σ' ⟨e,hr,rfl,.inr H'⟩)
 rcases h with ⟨h,hx,R⟩ | H
 ·exact Aa hx R fun h' H'=>fin _ H'
 ·exact qJ H (fin _ H)
end
section
theorem SS.while {t:Expr} {b:List Stmt} (HT:nu ev c) (HB:kJ ev c) (J9:c.env=c.l8) :
  SS c (exec (.While t b [] pos) c.env) σ (lS (ev.T c.env.scope t) (ev.B c.env.scope b) n σ):=by
 intro hr aD tv hid s R;generalize hrr:lS (ev.T c.env.scope t) (ev.B c.env.scope b) n σ=r at hr ⊢;have P:∀ ev s',kH c r aD tv hid ev s'→notedBy c.M c.A c.env (uT c.M c.A c.env (kH c r aD tv hid)) ev s':=J9 ▸ kH.passes;refine wpAny_While (codeAny_whileLoop (fun k s'=>∃ σ',lS (ev.T c.env.scope t) (ev.B c.env.scope b) k σ'=r∧Rel c σ' aD tv hid s') (fun k s' hk=>?_) n ⟨σ,hrr,R⟩);refine bU hk fun σ' e R'=>?_;cases k with
 | zero=>exact absurd e.symm (fun q=>hr (by rw[q];rfl))
 | succ k =>
  subst e;refine (HT t σ').use hr R' (fun ev s' h=>P ev s' h) fun d bx b3 Dq bN=>?_;have akF:=hr;cases d with
  | false =>
   refine mF (Y2 (.next) bx ⟨Dq,bN⟩)
  | true =>
   have abn:lS (ev.T c.env.scope t) (ev.B c.env.scope b) (k+1) σ'=iN (ev.B c.env.scope b bx) (fun fl=>match fl with
    | .next=>lS (ev.T c.env.scope t) (ev.B c.env.scope b) k
    | .cont=>lS (ev.T c.env.scope t) (ev.B c.env.scope b) k
    | .brk=>pure .next
    | .ret r=>pure (.ret r)):=Dq
   rw[abn] at hr P ⊢;refine wpAny_mono (HB b bx (qM hr) aD tv hid b3 bN) (fun f cD aiK=>jU aiK fun fl b5 r8 cX=>?_) fun ev s' h=>P ev s' h.iN;rw[r8];cases fl<;>cases f<;>first | exact cX.elim | exact ⟨k,dJ k,b5,rfl,cX⟩ | exact (Y2 _ b5 ⟨rfl,cX⟩)
end
section
theorem Rl.mP (R:Rl c σ aD tv hid s g m mo fz) (o:Obj) (hf:o.isFreed=false):Rl c σ aD tv ((s.heap.objs.size,o) :: hid) { s with heap:=s.heap.push o } g m mo fz:=
 ⟨R.gh,R.core.Qq _ hf,R.p8,R.loc.mono .refl (fun _ h=>.tail _ h),R.aP,R.aD,R.gens,R.os,R.dw.1,fun h=>(R.dw.2 h).sub fun _ hp=>.tail _ hp⟩
theorem Rl.sJ (R:Rl c σ aD tv ((I,o) :: hid) s g m mo fz) (hex:oh o) (hn:∀ x sl,σ.loc.lookup x=some sl→RL c m fz hid (bh mo) x sl):Rl c σ aD tv hid s g m mo fz:=by
 refine ⟨R.gh,⟨R.core.F,fun p hp=>R.core.N p ?_,R.core.nd,fun p hp r hr=>R.core.dj p hp r ?_,fun p hp r hr=>R.core.dh p hp r (.tail _ hr),(bF.mp R.core.nh).2⟩,R.p8,hn,R.aP,R.aD,R.gens,R.os,R.dw.1,fun h=>(R.dw.2 h).tail hex⟩
 ·rcases aj.mp hp with q | q
  ·exact af _ q
  ·refine bJ (aj.mp q) (fun q=>?_) fun q=>?_
   ·exact aa _ (af _ q)
   ·exact aa _ (aa _ (.tail _ q))
 ·refine bJ (aj.mp hr) (fun q=>?_) fun q=>?_
  ·exact af _ q
  ·exact aa _ (.tail _ q)
theorem Rl.oG (R:Rl c σ aD tv ((I,o) :: hid) s g m mo fz) (hex:oh o) (hI:h'.get? I=some o') (hk:∀ b o,b≠I→s.heap.get? b=some o→h'.get? b=some o)
  (hn:∀ x sl,σ.loc.lookup x=some sl→RL c m fz hid (bh mo) x sl):Rl c σ aD tv ((I,o') :: hid) { s with heap:=h',toks:=k } g m mo fz:=by
 have HI:=R.core.N (I,o) (aa _ (aa _ (.head _)));have tV:∀ p∈mo++(fz++hid),p.1≠I:=fun p hp=>by
  refine bJ (aj.mp hp) (fun q=>?_) fun q=>?_
  ·exact R.core.dj p q (I,o) (aa _ (.head _))
  ·refine bJ (aj.mp q) (fun q=>?_) fun q=>?_
   ·exact R.core.dh p q (I,o) (.head _)
   ·exact fun e=>(bF.mp R.core.nh).1 (aX.mpr ⟨p,q,e⟩)
 refine AN R.core.F.ns fun oL es ep F1 r=>?_;refine ⟨R.gh,⟨⟨(Y2 oL es ⟨ep,hk _ _ (eO HI.2.1) F1,r⟩),fun b o e=>hk b o (fun q=>by rw[q,HI.2.2] at e;cases e) (R.core.F.keep b o e),R.core.F.above⟩,fun p hp=>?_,R.core.nd,fun p hp r hr=>?_,fun p hp r hr=>?_,R.core.nh⟩,R.p8,nQ.mono .refl (fun _ h=>.tail _ h) hn,R.aP,R.aD,R.gens,R.os,R.dw.1,fun h=>((R.dw.2 h).tail hex).sub fun _ hp=>.tail _ hp⟩
 ·rcases aj.mp hp with q | q
  ·exact ⟨hk _ _ (tV p (af _ q)) (R.core.N p (af _ q)).1,(R.core.N p (af _ q)).2⟩
  ·refine bJ (aj.mp q) (fun q=>?_) fun q=>?_
   ·have:=R.core.N p (aa _ (af _ q))
    exact ⟨hk _ _ (tV p (aa _ (af _ q))) this.1,this.2⟩
   ·rcases av.mp q with rfl | q
    ·exact ⟨hI,HI.2⟩
    ·have:=R.core.N p (aa _ (aa _ (.tail _ q)))
     exact ⟨hk _ _ (tV p (aa _ (aa _ q))) this.1,this.2⟩
 ·rcases aj.mp hr with q | q
  ·exact R.core.dj p hp r (af _ q)
  ·rcases av.mp q with rfl | q
   ·exact R.core.dj p hp (I,o) (aa _ (.head _))
   ·exact R.core.dj p hp r (aa _ (.tail _ q))
 ·rcases av.mp hr with rfl | q
  ·exact R.core.dh p hp (I,o) (.head _)
  ·exact R.core.dh p hp r (.tail _ q)
end
section
theorem Rl.jY (hI:I≠c.env.locals) (R:Rl c σ aD tv ((I,o) :: hid) s g m mo fz):∀ x sl,σ.loc.lookup x=some sl→RL c m fz hid (bh mo) x sl:=fun x sl e=>by
 have h:=R.loc x sl e;cases sl with
 | unset=>exact h
 | cell j=>exact h
 | val v =>
  refine cz h fun h1 ajE=>?_;refine bU ajE fun val h2 h3=>?_;refine ⟨h1,val,h2,?_⟩;rcases h3 with h3 | ⟨o',es,ep,hm,r⟩
  ·exact .inl h3
  ·rcases av.mp hm with q | q
   ·exact absurd (WT q).1.symm hI
   ·exact .inr (Y2 o' es ⟨ep,q,r⟩)
theorem Rl.qC (O:Own c) (R:Rl c σ aD tv ((I,o) :: hid) s g m mo fz):I≠c.env.locals:=by
 rw[O.loc];exact (R.core.N (I,o) (aa _ (aa _ (.head _)))).2.1
theorem Rl.oq (R:Rl c σ aD tv ((I,o) :: hid) s g m mo fz) (hex:oh o) (hk:Lp I s.heap h')
  (hn:∀ x sl,σ.loc.lookup x=some sl→RL c m fz hid (bh mo) x sl):Rl c σ aD tv hid { s with heap:=h',toks:=k } g m mo fz:=by
 have HI:=R.core.N (I,o) (aa _ (aa _ (.head _)));have tV:∀ p∈mo++(fz++hid),p.1≠I:=fun p hp=>by
  refine bJ (aj.mp hp) (fun q=>?_) fun q=>?_
  ·exact R.core.dj p q (I,o) (aa _ (.head _))
  ·refine bJ (aj.mp q) (fun q=>?_) fun q=>?_
   ·exact R.core.dh p q (I,o) (.head _)
   ·exact fun e=>(bF.mp R.core.nh).1 (aX.mpr ⟨p,q,e⟩)
 have sub:∀ p∈mo++(fz++hid),p∈mo++(fz++(I,o) :: hid):=fun p hp=>by
  refine bJ (aj.mp hp) (fun q=>?_) fun q=>?_
  ·exact af _ q
  ·refine bJ (aj.mp q) (fun q=>?_) fun q=>?_
   ·exact aa _ (af _ q)
   ·exact aa _ (aa _ (.tail _ q))
 refine AN R.core.F.ns fun oL es ep F1 r=>?_;refine ⟨R.gh,⟨⟨(Y2 oL es ⟨ep,hk _ _ (eO HI.2.1) F1,r⟩),fun b o e=>hk b o (fun q=>by rw[q,HI.2.2] at e;cases e) (R.core.F.keep b o e),R.core.F.above⟩,fun p hp=>?_,R.core.nd,fun p hp r hr=>R.core.dj p hp r ?_,fun p hp r hr=>R.core.dh p hp r (.tail _ hr),(bF.mp R.core.nh).2⟩,R.p8,hn,R.aP,R.aD,R.gens,R.os,R.dw.1,fun h=>(R.dw.2 h).tail hex⟩
 ·have:=R.core.N p (sub p hp)
  exact ⟨hk _ _ (tV p hp) this.1,this.2⟩
 ·refine bJ (aj.mp hr) (fun q=>?_) fun q=>?_
  ·exact af _ q
  ·exact aa _ (.tail _ q)
structure Walk (c:Cx) (u:V) (v:ah) (nx:Nat→St→Option (Option P)) (I:Addr) (It:Nat→Obj→Prop):Prop where
 item:∀ (i:Nat) (p:P) (σ:St) (aD:List V) (tv:List ah) (hid:Led) (s:aG) (o:Obj),nx i σ=some (some p)→It i o→Rel c σ (u :: aD) (v :: tv) ((I,o) :: hid) s→∀ (Q:Option ah→aG→Prop) (E:ah→aG→Prop),
  (∀ x o' s',It (i+1) o'→Rel c σ (.p p :: u :: aD) (x :: v :: tv) ((I,o') :: hid) s'→Q (some x) s')→aF c.M c.A (pyNext (.ref I)) Q E s
 done:∀ (i:Nat) (σ:St) (aD:List V) (tv:List ah) (hid:Led) (s:aG) (o:Obj),nx i σ=some none→It i o→σ.dw = .no→Rel c σ (u :: aD) (v :: tv) ((I,o) :: hid) s→∀ (Q:Option ah→aG→Prop) (E:ah→aG→Prop),
  (∀ s',Rel c σ aD tv hid s'→Q none s')→aF c.M c.A (pyNext (.ref I)) Q E s
 ne:∀ (i:Nat) (o:Obj),It i o→oh o
 self:∀ (i:Nat) (s:aG) (o:Obj),It i o→s.heap.get? I=some o→∀ (Q:ah→aG→Prop) (E:ah→aG→Prop),Q (.ref I) s→aF c.M c.A (pyIter (.ref I)) Q E s
theorem Rl.mC (R:Rl c σ aD tv ((a,o) :: hid) s g m mo fz):s.heap.get? a=some o:=(R.core.N (a,o) (aa _ (aa _ (.head _)))).1
noncomputable def ItL (l:Addr) (i:Nat) (o:Obj):Prop:=o.cls = .type "list_iterator"∧o.data = .fields #[.ref l,.int i 0]
theorem Nf {vs:List P} (hI:I≠c.env.locals):Walk c (.p (.lst vs)) (.ref l) (fun i _=>some vs[i]?) I (ItL l):=by
 refine ⟨fun i p σ aD tv hid s o hp hit R₀ Q E k=>?_,fun i σ aD tv hid s o hp hit hh R₀ Q E k=>?_,fun i o hit=>eH hit.2 (by show 2≠6;decide),fun i s o hit ho Q E h=>Vc ⟨o,ho,hit.1,hit.2⟩ h⟩
 ·refine iM R₀ fun g m mo fz R=>?_
  refine Hi R.one.1.acU fun _ _ _ h1 h2 h3 h4=>?_
  ·
   have hl:s.heap.IsList l _:=⟨_,R.at h1,h2.1,_,h3⟩;refine bU (h4.get (aC hp)) fun x hx px=>?_;have rI:s.heap.IsListIter I l i:=⟨o,(R.core.N (I,o) (aa _ (aa _ (.head _)))).1,hit.1,hit.2⟩;refine Sg rI hl (x:=x) (by simpa using hx) fun h' XD hs=>?_;refine nv XD fun o' sV Xw zb=>?_;have R1:=R.oG (eH hit.2 (by show 2≠6;decide)) (k:=s.toks) sV (fun b ob hb e=>hs.extBut b ob hb e) (R.jY hI);exact k x o' _ ⟨Xw,zb⟩ (R1.push (.p px)).rel
 ·refine iM R₀ fun g m mo fz R=>?_
  refine Hi R.one.1.acU fun _ _ _ h1 h2 h3 h4=>?_
  ·
   have hl:s.heap.IsList l _:=⟨_,R.at h1,h2.1,_,h3⟩;have hle:vs[i]?=none:=aC hp;rw[cC] at hle;have rI:s.heap.IsListIter I l i:=⟨o,(R.core.N (I,o) (aa _ (aa _ (.head _)))).1,hit.1,hit.2⟩;have hz:=h4.length;refine Vd (R.dw.1 hh) rI hl (by rw[oS];rw[cH] at hz;exact nG hz hle) fun h' hs=>?_;exact k _ (Rel.pop (R.oq (eH hit.2 (by show 2≠6;decide)) (k:=s.toks) hs (R.jY hI)).rel)
noncomputable def ItR (a d:Int) (n:Nat) (i:Nat) (o:Obj):Prop:=o={ cls:=.type "range_iterator",dict:=none,data:=.fields #[gu (a+i*d),gu (n - i),gu d],slots:=#[] }
theorem Jw {a d:Int} (hI:I≠c.env.locals):Walk c u v (fun i _=>some ((b4 n).map fun (i:Nat)=>P.int (a+i*d))[i]?) I (ItR a d n):=by
 refine ⟨fun i p σ aD tv hid s o hp hit R₀ Q E k=>?_,fun i σ aD tv hid s o hp hit hh R₀ Q E k=>?_,fun i o hit=>by unfold ItR at hit;subst hit;exact eH rfl (by show 3≠6;decide),fun i s o hit ho Q E h=>wpAny_pyIter_rangeiter (hit ▸ ho) h⟩;all_goals replace hp:=aC hp
 ·refine iM R₀ fun g m mo fz R=>?_
  have hi:=(R.core.N (I,o) (aa _ (aa _ (.head _)))).1;unfold ItR at hit;subst hit;have kL:i<n:=by
   have:=(az.mp hp).1;simpa using this
  have VY:p = .int (a+i*d):=by
   rw[bM,u0 kL] at hp;exact (aC hp).symm
  subst VY;refine wpAny_pyNext_range_item (it:=I) hi (by exact zI [↑n,↑i] 0 (.g (.add cQ eB) bH .e) (.add i6 eB) (.sub bH cQ) zC (zO kL)) fun h' sV hs=>?_;have R1:=R.oG (eH (o:={ cls:=.type "range_iterator",dict:=none,data:=.fields #[gu (a+i*d),gu (n - i),gu d],slots:=#[] }) rfl (by show 3≠6;decide)) (k:=s.toks+1) sV (fun b ob hb e=>hs.extBut b ob hb e) (R.jY hI);refine k _ _ _ ?_ (R1.push VR.int).rel;unfold ItR;have e1:a+(i:Int)*d+d=a+((i+1:Nat):Int)*d:=by rw[WN,Int.add_mul,qW];exact aK (fun z=>a+((i:Int)*d+z)) (Int.one_mul d).symm
  have e2:(n:Int) - i - 1=n - ((i+1:Nat):Int):=by exact zq (zI [↑n,↑i] 0 .e (.sub (.sub bH cQ) eB) (.sub bH (.add cQ eB)) zC ) (zI [↑n,↑i] 0 .e (.sub bH (.add cQ eB)) (.sub (.sub bH cQ) eB) zC )
  rw[e1,e2]
 ·refine iM R₀ fun g m mo fz R=>?_
  have hi:=(R.core.N (I,o) (aa _ (aa _ (.head _)))).1;unfold ItR at hit;subst hit;rw[cC,aM,fK] at hp;refine wpAny_pyNext_range_end (it:=I) (R.dw.1 hh) hi (by exact zI [↑n,↑i] 0 (.g bH cQ .e) (.sub bH cQ) i6 zC (zO hp)) fun h' hs=>?_;exact k _ (Rel.pop (R.oq (eH (o:={ cls:=.type "range_iterator",dict:=none,data:=.fields #[gu (a+i*d),gu (n - i),gu d],slots:=#[] }) rfl (by show 3≠6;decide)) (k:=s.toks) hs (R.jY hI)).rel)
theorem wide {a:Int} (h1 : -2 ^ 60≤a) (h2:a≤2 ^ 60) : -2 ^ 63≤a∧a<2 ^ 63:=⟨kr (by decide) h1,RG h2 (by decide)⟩
theorem Ru {z:Int} (h:z≤2 ^ 61) : -2 ^ 63≤(z.toNat:Int)∧(z.toNat:Int)<2 ^ 63:=⟨kr (by decide) (zW _),RG (zO (Int.toNat_le.mpr h:z.toNat≤2 ^ 61)) (by decide)⟩
theorem K4 {a b d:Int} {vs:List P} (h:sF a b d=some vs):qU a b d=true∧∃ n:Nat,Builtin.Range.rangeSize a b d=n∧vs=(b4 n).map fun (i:Nat)=>.int (a+i*d):=by
 refine cz (ji h) fun hb h=>En hb fun h1 h2 h3 h4=>?_;by_cases hd:d=1
 ·have hv:=aC ((aA hd).symm.trans h)
  subst hd;have e:=rangeSize_nat a b;refine ⟨?_,(b - a).toNat,e,hv ▸ by simp⟩;unfold qU;rw[e];simp only [uY,aR,br,jB,beq_iff_eq,show (1:Int)>0 from by decide,gz];rw[show b+(1 - 1)=b from Int.add_zero b];exact ⟨⟨⟨⟨wide h1 h2,wide h3 h4⟩,by decide⟩,Ru (kr (Int.sub_le_sub h4 h1) (by decide))⟩,.inr (wide h3 h4)⟩
 ·refine cz (ji ((aS hd).symm.trans h)) fun hd h=>?_
  rw[hd];have e:=rangeSize_downNat a b;refine ⟨?_,(a - b).toNat,e,?_⟩
  ·unfold qU
   rw[e];simp only [uY,aR,br,jB,beq_iff_eq,show ¬ (-1:Int)>0 from by decide,jy];rw[show b+(-1+1)=b from Int.add_zero b];exact ⟨⟨⟨⟨wide h1 h2,wide h3 h4⟩,by decide⟩,Ru (kr (Int.sub_le_sub h2 h3) (by decide))⟩,.inr (wide h3 h4)⟩
  ·rw[← aC h]
   refine e9 fun i _=>aK P.int ?_;exact zq (zI [a,↑i] 0 .e (.sub bH cQ) (.add bH (.mulR cQ (-1))) zC ) (zI [a,↑i] 0 .e (.add bH (.mulR cQ (-1))) (.sub bH cQ) zC )
set_option tactic.hygienic true in
theorem Rq (hI:I≠c.env.locals):Walk c (.obj k) (.ref l) (fun i σ=>match σ.aP[k]? with
   | some (.list vs)=>some vs[i]?
   | _=>none) I (ItL l):=by
 refine ⟨fun i p σ aD tv hid s o hp hit R₀ Q E k=>?_,fun i σ aD tv hid s o hp hit hh R₀ Q E k=>?_,fun i o hit=>eH hit.2 (by show 2≠6;decide),fun i s o hit ho Q E h=>Vc ⟨o,ho,hit.1,hit.2⟩ h⟩;all_goals
  refine iM R₀ fun g m mo fz R=>?_;have hk:=R.one.1.Up;split at hp
  ·rename_i vs hs
   refine nv (R.kX hk hs) fun ol ho hl ajF=>?_;refine jU ajF fun vals n ajG hv=>?_;obtain rfl:=ajG;have hL:s.heap.IsList l vals:=⟨_,hl,rfl,_,rfl⟩;have rI:s.heap.IsListIter I l i:=⟨o,R.mC,hit.1,hit.2⟩;first
    | (refine bU (hv.get (aC hp)) fun x hx px=>?_;refine Sg rI hL (x:=x) (by simpa using hx) fun h' XD hs=>?_;refine nv XD fun o' sV Xw zb=>?_;have R1:=R.oG (eH hit.2 (by show 2≠6;decide)) (k:=s.toks) sV (fun b ob hb e=>hs.extBut b ob hb e) (R.jY hI);exact k x o' _ ⟨Xw,zb⟩ (R1.push (.p px)).rel)
    | (have hle:vs[i]?=none:=aC hp;rw[cC] at hle;have hz:=hv.length;refine Vd (R.dw.1 hh) rI hL (by rw[oS];rw[cH] at hz;exact nG hz hle) fun h' hs=>?_;exact k _ (Rel.pop (R.oq (eH hit.2 (by show 2≠6;decide)) (k:=s.toks) hs (R.jY hI)).rel))
  ·cases hp
noncomputable def ItS (ty:dD) (x:Str) (t:Tok) (i:Nat) (o:Obj):Prop:=o.cls = .type ty∧o.data = .fields #[.str x t,.int i 0]
theorem G3 {ty:dD} (ht:ty="str_ascii_iterator"∨ty="str_iterator") (hI:I≠c.env.locals) :
  Walk c u v (fun i _=>some (x.cps[i]?.map fun ch=>.str ⟨#[ch]⟩)) I (ItS ty x t):=by
 refine ⟨fun i p σ aD tv hid s o hp hit R₀ Q E k=>?_,fun i σ aD tv hid s o hp hit hh R₀ Q E k=>?_,fun i o hit=>eH hit.2 (by show 2≠6;decide),fun i s o hit ho Q E h=>?_⟩
 ·refine iM R₀ fun g m mo fz R=>?_
  refine bU (aQ.mp (aC hp)) fun ch hch ajH=>?_;obtain rfl:=ajH;have rI:s.heap.IsStrIter I ty x t i:=⟨o,R.mC,hit.1,hit.2⟩;have fin:∀ h',h'.IsStrIter I ty x t (i+1)→mh I s.heap h'→Q (some (.str ⟨#[ch]⟩ s.toks)) { s with heap:=h',toks:=s.toks+1 }:=fun h' q hs=>nv q fun o' sV Xw zb =>
   k _ o' _ ⟨Xw,zb⟩ ((R.oG (eH hit.2 (by show 2≠6;decide)) (k:=s.toks+1) sV (fun b ob hb e=>hs.extBut b ob hb e) (R.jY hI)).push .str).rel
  rcases ht with rfl | rfl
  ·exact wpAny_pyNext_ascii_item rI hch fin
  ·exact wpAny_pyNext_wide_item rI hch fin
 ·refine iM R₀ fun g m mo fz R=>?_
  have hch:x.cps[i]?=none:=by
   refine oC (x.cps[i]?) (fun q=>?_) fun ch q=>?_
   ·rfl
   ·rw[q] at hp;cases hp
  have rI:s.heap.IsStrIter I ty x t i:=⟨o,R.mC,hit.1,hit.2⟩;have fin:∀ h',Lp I s.heap h'→Q none { s with heap:=h' }:=fun h' hs=>k _ (Rel.pop (R.oq (eH hit.2 (by show 2≠6;decide)) (k:=s.toks) hs (R.jY hI)).rel);rcases ht with rfl | rfl
  ·exact wpAny_pyNext_ascii_end (R.dw.1 hh) rI hch fin
  ·exact wpAny_pyNext_wide_end (R.dw.1 hh) rI hch fin
 ·rcases ht with rfl | rfl
  ·exact wpAny_pyIter_striter_ascii ⟨o,ho,hit.1,hit.2⟩ h
  ·exact wpAny_pyIter_striter_wide ⟨o,ho,hit.1,hit.2⟩ h
end
section
theorem Rel.sJ (O:Own c) {I:Addr} {o:Obj} (hex:oh o) (R:Rel c σ aD tv ((I,o) :: hid) s):Rel c σ aD tv hid s:=by
 refine iM R fun g m mo fz R=>?_;exact (R.sJ hex (R.jY (R.qC O))).rel
theorem kH.sJ (O:Own c) {r:Res β} {I:Addr} {o:Obj} {ev:ah} {s':aG} (hex:oh o) (h:kH c r aD tv ((I,o) :: hid) ev s'):kH c r aD tv hid ev s':=by
 refine Ep h fun x σ' e h1 h2 h4=>?_;refine (Y2 x σ' ⟨e,h1,h2,h4.imp (fun q=>bU q fun h a b=>⟨h,a,Rel.sJ O hex b⟩) fun q=>X65 q fun bs a0 g m mo fz R q1 q2 q3 q4=>(Y2 bs a0 (Y2 g m (Y2 mo fz ⟨R.sJ hex (R.jY (R.qC O)),q1,q2,fun p hp=>q3 p ?_,q4⟩)))⟩);rcases aj.mp hp with q | q
 ·exact af _ q
 ·refine bJ (aj.mp q) (fun q=>?_) fun q=>?_
  ·exact aa _ (af _ q)
  ·exact aa _ (aa _ (.tail _ q))
theorem Rel.adC {u u':V} {v v':ah} (h:Rel c σ (u :: u' :: aD) (v :: v' :: tv) hid s):Rel c σ (u :: aD) (v :: tv) hid s:=by
 refine iM h fun g m mo fz R=>?_;refine (R.kj ?_).rel;cases R.aD with | cons a b=>cases b with | cons _ b=>exact .cons a b
theorem Xk {b:List Stmt} {vs:List P} {r:Res Fl} (O:Own c) (J9:c.env=c.l8) (HB:kJ ev c) (W:Walk c u v (fun i _=>some vs[i]?) I It) (hr:r≠.fail)
  (hl:j0 x (ev.B c.env.scope b) vs σ=r) {o:Obj} (h0:It 0 o) (R:Rel c σ (u :: aD) (v :: tv) ((I,o) :: hid) s) :
  qk c.M c.A (.forLoop (.Name x px) (.ref I) b [] c.env) (fun r' s'=>match r' with
   | .ok f=>Vs c r aD tv hid f s'
   | .error e=>uT c.M c.A c.env (kH c r aD tv hid) e s') s:=by
 have P:∀ ev s',kH c r aD tv hid ev s'→notedBy c.M c.A c.env (uT c.M c.A c.env (kH c r aD tv hid)) ev s':=J9 ▸ kH.passes;refine codeAny_forLoop (fun k s'=>∃ i σ' o',k=vs.length - i∧i≤vs.length∧It i o'∧j0 x (ev.B c.env.scope b) (vs.drop i) σ'=r∧Rel c σ' (u :: aD) (v :: tv) ((I,o') :: hid) s') (fun k s' hk=>?_) vs.length (Y2 (0) σ ⟨o,rfl,d7 _,h0,hl,R⟩);refine X35 hk fun i σ' o' ajI hi hit e R'=>?_;refine bJ (JH i vs.length) (fun kL=>?_) fun hge=>?_
 ·have hd:vs.drop i=vs[i] :: vs.drop (i+1):=iB kL
  refine W.item i vs[i] σ' aD tv hid s' o' (aK some (bS kL)) hit R' _ _ fun xv aik b3 DA bN=>?_;rw[hd] at e;have e1:iN (o9 x (.p vs[i]) σ') (fun _=>ev.B c.env.scope b >>= fun fl=>match fl with
   | .next=>j0 x (ev.B c.env.scope b) (vs.drop (i+1))
   | .cont=>j0 x (ev.B c.env.scope b) (vs.drop (i+1))
   | .brk=>pure .next
   | .ret r=>pure (.ret r))=r:=e
  refine iT (wpAny_mono (Ed O (qM (e1 ▸ hr)) bN) (fun _ cD aiQ=>bU aiQ fun b5 r8 cX=>?_) fun _ _ z=>z);rw[r8] at e1;have e2:iN (ev.B c.env.scope b b5) (fun fl=>match fl with
   | .next=>j0 x (ev.B c.env.scope b) (vs.drop (i+1))
   | .cont=>j0 x (ev.B c.env.scope b) (vs.drop (i+1))
   | .brk=>pure .next
   | .ret r=>pure (.ret r))=r:=e1
  have e3:=e2;rw[← e2] at hr;refine wpAny_mono (HB b b5 (qM hr) _ _ _ cD cX) (fun f i9 aiR=>jU aiR fun fl iU Xj gv=>?_) fun ev s' h=>P ev s' (by rw[← e2];exact (kH.sJ O (W.ne _ _ DA) h).pop.iN);rw[Xj] at e2;cases fl<;>cases f<;>first
   | exact gv.elim
   | exact ⟨vs.length - (i+1),(ajI ▸ v5 kL (dJ i)),i+1,iU,aik,rfl,kL,DA,e2,gv⟩
   | exact (Y2 _ iU ⟨e2.symm,(Rel.sJ O (W.ne _ _ DA) gv).pop⟩)
   | exact (Y2 _ iU ⟨e2.symm,(Rel.sJ O (W.ne _ _ DA) gv).adC⟩)
 ·have VW:i=vs.length:=by exact lA hi hge
  subst VW;rw[yD] at e;have e':(if σ'.dw = .no then .ok .next σ' else .fail:Res Fl)=r:=e;have hh:σ'.dw = .no:=by
   by_cases q:σ'.dw = .no
   ·exact q
   ·rw[aS q] at e';exact absurd e'.symm hr
  rw[aA hh] at e';exact W.done vs.length σ' aD tv hid s' o' (aK some (List.getElem?_eq_none (aB _))) hit hh R' _ _ fun Al R''=>mF (Y2 (.next) σ' ⟨e'.symm,R''⟩)
theorem Walk.cast {f nx:Nat→St→Option (Option P)} (e:f=nx) (W:Walk c u v f I It):Walk c u v nx I It:=e ▸ W
theorem Ji (hs:srcOf u σ=some (nx,n)) (R:Rl c σ (u :: aD) (v :: tv) hid s g m mo fz)
  (k:∀ I oI It s',(∀ c1:Cx,I≠c1.env.locals→Walk c1 u v nx I It)→It 0 oI→Rl c σ (u :: aD) (v :: tv) ((I,oI) :: hid) s' g m mo fz→Q (.ref I) s'):aF c.M c.A (pyIter v) Q E s:=by
 cases u with
 | p q=>cases q with
  | lst vs =>
   refine N6 R.one.1.inv.inv fun la o n vals ev h1 h2 h3 h4=>?_;subst ev;exact wpAny_pyIter_list ⟨_,R.at h1,h2.1,_,h3⟩ (k _ _ _ _ (fun c1 hI=>(Nf hI).cast (aK uq (aC hs))) ⟨rfl,rfl⟩ (R.mP { cls:=.type "list_iterator",data:=.fields #[.ref la,.int 0 0] } rfl))
  | rj a b d =>
   refine bU (aQ.mp hs) fun vs hv e=>cz (K4 hv) fun hsm q=>bU q fun n' hn ev=>W3 R.one.1.inv.inv fun la tx ty tz e1 h1=>?_;rw[e1];refine wpAny_pyIter_range (R.at h1) hsm ?_;rw[hn];exact k _ _ _ _ (fun c1 hI=>Walk.cast (aK uq e) (ev ▸ Jw hI)) (by unfold ItR;simp) (R.mP { cls:=.type "range_iterator",dict:=none,data:=.fields #[gu a,gu n',gu d],slots:=#[] } rfl)
  | str x =>
   refine eU R.one.1.inv.inv fun t ev=>?_;rw[ev];refine bC (x.cps.all (· < 128)) (fun ha=>?_) fun ha=>?_
   ·exact wpAny_pyIter_ascii ha (k _ _ _ _ (fun c1 hI=>(G3 (.inl rfl) hI).cast (aK uq (aC hs))) ⟨rfl,rfl⟩ (R.mP { cls:=.type "str_ascii_iterator",data:=.fields #[.str x t,.int 0 0] } rfl))
   ·exact wpAny_pyIter_wide ha (k _ _ _ _ (fun c1 hI=>(G3 (.inr rfl) hI).cast (aK uq (aC hs))) ⟨rfl,rfl⟩ (R.mP { cls:=.type "str_iterator",data:=.fields #[.str x t,.int 0 0] } rfl))
  | _=>exact nomatch hs
 | obj kk =>
  refine bU R.one.1.inv fun la ev hk=>?_;subst ev;delta srcOf at hs;dsimp only at hs;cases h2:σ.aP[kk]? with
  | none=>rw[h2] at hs;exact nomatch hs
  | some ob=>rw[h2] at hs;cases ob with
   | list vs =>
    refine nv (R.kX hk h2) fun o ho hh q=>jU q fun vals n' eo hv=>?_;subst eo;exact wpAny_pyIter_list ⟨_,hh,rfl,_,rfl⟩ (k _ _ _ _ (fun c1 hI=>(Rq hI).cast (aK uq (aC hs))) ⟨rfl,rfl⟩ (R.mP { cls:=.type "list_iterator",data:=.fields #[.ref la,.int 0 0] } rfl))
   | _=>exact nomatch hs
 | _=>exact nomatch hs
theorem Ie {vs:List P} (h:ux u=some vs) (σ:St):srcOf u σ=some (fun i _=>some vs[i]?,vs.length):=by
 cases u with
 | p q=>cases q with
  | lst ws=>exact aC h ▸ rfl
  | rj a b d=>exact aK (Lw _) (show sF a b d=some vs from h)
  | _=>exact nomatch h
 | _=>exact nomatch h
theorem SS.for {it:Expr} {b:List Stmt} (HE:cI ev c) (HB:kJ ev c) (O:Own c) (J9:c.env=c.l8):SS c (exec (.For (.Name x px) it b [] pos) c.env) σ
  ((if mz it=false then ev.E c.env.scope it >>= fun u=>Mo.get (ux u) fun vs=>j0 x (ev.B c.env.scope b) vs else Mo.fail) σ):=by
 intro hr aD tv hid s R;refine cz (zx hr) fun hc e0=>?_;rw[e0] at hr ⊢;refine wpAny_For ((HE it σ).use hr R (fun ev s' h=>h) fun u bx va b3 Dq bN=>?_) (fun v=>by unfold foldedSetIterable;cases it<;>first | rfl | cases hc);rw[mR,Dq] at hr ⊢;refine nv (Us hr) fun vs hv e2 hr2=>?_;rw[e2];refine iM bN fun g m mo fz cX=>Ji (Ie hv bx) cX fun I oI It s' W h0 gv=>?_;exact Xk O J9 HB (W c (gv.qC O)) hr2 rfl h0 gv.rel
end
theorem oA:k8 (.type "list") "append"=pure (some (.builtin "list.append")):=by rw[gO,eG];rfl'
theorem pY:tR Q4 "list.__getattribute__"=some jm.«object.__getattribute__»:=
 entryFor_alias (id':="object.__getattribute__") (by rfl') (by decide +kernel) (by decide +kernel) (by rfl')
theorem wL {n:Str} {r:Option ah} (h:k8 (.type "method_descriptor") n=pure r):xT (.builtin "list.append") n=pure r:=by
 unfold xT;rw[xW];exact h
theorem Yl:k8 (.type "method_descriptor") "__get__"=pure (some (.builtin "method_descriptor.__get__")):=by rw[gO,eG];rfl'
theorem Ym:k8 (.type "method_descriptor") "__set__"=pure none:=by rw[gO,eG];rfl'
theorem Yk:k8 (.type "method_descriptor") "__delete__"=pure none:=by rw[gO,eG];rfl'
theorem FI {Q:Si→aG→Prop} (hx:s.heap.get? a=some o) (hc:o.cls = .type "list") (Mb:∃ xs k,o.data = .seq xs k) (hd:o.dict=none)
  (h:Q (.bind (.builtin "method_descriptor.__get__") (.builtin "list.append")) s):aF M A (Sk (.ref a) (.type "list") "append") Q E s:=by
 refine X21 Mb fun xs k Mb=>?_;refine wpAny_bind (fJ oA ?_);refine wpAny_bind (fJ (a:=some (.builtin "method_descriptor.__get__")) (wL Yl) ?_);refine wpAny_bind ?_;refine wpAny_bind (m:=Sm (.builtin "list.append")) ?_;refine wpAny_bind (fJ (wL Ym) ?_);refine wpAny_bind (m:=xT (.builtin "list.append") "__delete__") (fJ (wL Yk) ?_);refine wpAny_pure (wpAny_pure ?_);refine wpAny_bind ?_;refine wpAny_bind ?_;refine wpAny_bind (wpAny_loadPart hx ?_);rw[Mb];refine wpAny_bind (wpAny_loadPart hx ?_);rw[hc,hd];refine wpAny_pure (wpAny_pure ?_);refine wpAny_bind (wpAny_pure ?_);exact wpAny_bind (fY (wpAny_pure h))
theorem Uk:Slot "method_descriptor" "__get__" "method_descriptor.__get__":=
 .of (owner:="method_descriptor") (n:="__get__") (by rw[gO,eG];rfl') (by decide +kernel) (by decide +kernel) (by decide +kernel)
  (by first | exact .inl (by decide +kernel) | exact .inr (by decide +kernel)) (by rw[kW];rfl')
theorem PU:tR Q4 "method_descriptor.__get__"=some jm.«method_descriptor.__get__»:=lz (by rfl')
theorem Uj (a b c:ah):Er "method_descriptor.__get__" ⟨[a,b,c],[]⟩:=by unfold Er;rfl'
theorem Pp {Q:Bool→aG→Prop} (hx:s.heap.get? a=some o) (hc:o.cls = .type "list") (h:Q true s):aF M A (AQ (.ref a) (.type "list")) Q E s:=
 uc (T:="list") (b:=true) ⟨o,hx,hc⟩ sub_list_self h
theorem get_append (hx:s.heap.get? a=some o) (hc:o.cls = .type "list")
  (h:Q (.ref s.heap.objs.size) { s with heap:=s.heap.push { cls:=.type "builtin_function_or_method",data:=.fields #[.builtin "list.append",.ref a] } }) :
  aF (jN prog w) A (call (.builtin "method_descriptor.__get__") [.builtin "list.append",.ref a,.type "list"]) Q E s:=by
 refine ua Uk (T:="method_descriptor") ?_ PU ?_ (Uj _ _ _)
 ·exact xW
 refine wpAny_bind (fJ (a:=(W0 "list.append",some (gJ a),some (gU "list"))) (by rfl) ?_);refine wpAny_bind ?_;refine wpAny_bind (fJ (a:=((aL "append",gU "list"):Str × ah)) (by rfl') ?_);refine wpAny_bind (Pp hx hc ?_);refine wpAny_pure ?_;exact wpAny_bind (gH (wpAny_pure ⟨_,rfl,h⟩))
theorem DN (a:Addr) (xs:eF ah) (k:Nat) (sl:eF (Option ah)) (u:Tok) :
  Meets (jm.«object.__getattribute__» ⟨[.ref a,.str "append" u],[]⟩) (fun A R s=>s.heap.get? a=some { cls:=.type "list",dict:=none,data:=.seq xs k,slots:=sl } ∧
   R (.ok (.ret (.ref s.heap.objs.size))) { s with heap:=s.heap.push { cls:=.type "builtin_function_or_method",data:=.fields #[.builtin "list.append",.ref a] } }):=
 Meets.of_wp fun prog w A R s hs=>by
  refine cz hs fun hx hs=>?_;refine wpAny_bind (m:=slotArgs "__getattribute__" 1 _) (wpAny_pure ?_);refine wpAny_bind (m:=Sj _) (wpAny_pure ?_);refine wpAny_bind (qo (T:="list") ⟨_,hx,rfl⟩ ?_);refine wpAny_bind (FI hx rfl (Y2 _ _ (rfl)) rfl ?_);refine wpAny_bind (cF (get_append hx rfl ?_));exact wpAny_pure ⟨_,rfl,hs⟩
theorem yZ
  (hx:s.heap.get? a=some o) (hc:o.cls = .type "list") (Mb:o.data = .seq xs k) (hd:o.dict=none)
  (h:∀ tk,Q (.ref s.heap.objs.size) { s with heap:=s.heap.push { cls:=.type "builtin_function_or_method",data:=.fields #[.builtin "list.append",.ref a] },toks:=tk }) :
  aF (jN prog w) A (getAttr (.ref a) "append" ex) Q E s:=by
 obtain ⟨c,dct,dat,sl⟩:=o;simp only at hc Mb hd;subst hc Mb hd;obtain ⟨hp,g,d,tk,os⟩:=s;have hT:∀ tk',(⟨hp,g,d,tk',os⟩:aG).TypeIs (.ref a) "list":=fun _=>⟨_,hx,rfl⟩;have f3:=rP.lookup;have f4:=rP.bind (.ref a);have f5:=am_list_getattr_none;have f6:=oA;repeat (any_goals (first | assumption | exact hT _ | wp_step))
 rw[aS (by cases ex<;>decide)];unfold boundAndCalled;repeat (any_goals (first | assumption | exact hT _ | ((with_reducible show aF _ _ (call (W0 "list.__getattribute__") _ _) _ _ _);refine uS rP (hT _) pY (F.args_list_getattribute_2 _ _) (DN a xs k sl _) ⟨hx,?_⟩) | wp_step))
 exact wpAny_pure (h _)
structure Alike (A A':fP):Prop where
 frames:A'.frames=A.frames
 handled:A'.handled=A.handled
 depth:A'.depth≤A.depth+3
 units:A'.units≤A.units+5
theorem Alike.refl (A:fP):Alike A A:=⟨rfl,rfl,by exact b7 A.depth 3,by exact b7 A.units 5⟩
theorem Alike.in1 (A:fP):Alike A A.in1:=⟨rfl,rfl,by show A.depth≤_;exact b7 A.depth 3,by show A.units+1≤_;exact uM .e (.s au) (.a au (.n 5)) zC ⟩
noncomputable def PoC (c:Cx) (r:Res V) (aD:List V) (tv:List ah) (hid:Led):Result→aG→Prop:=fun res s'=>match res with
 | .ok (.ret v)=>iZ c r aD tv hid v s'
 | _=>iP
theorem PoC.el {res:Result} (h:PoC c r aD tv hid res s'):∃ v,res = .ok (.ret v)∧iZ c r aD tv hid v s':=by
 cases res with
 | error _=>exact h.elim
 | ok f=>cases f with
  | ret v=>exact ⟨v,rfl,h⟩
  | _=>exact h.elim
noncomputable def gC (ev:Ev) (c:Cx):Prop:=∀ (a:Addr) (us:List V) (ku:List (Str × V)) (σ:St) (A':fP) (aD:List V) (tv:List ah) (hid:Led) (s:aG) (vals:List ah) (kv:List ah),
 Alike c.A A'→ev.C a us ku σ≠.fail→us.length=vals.length→ku.length=kv.length →
 Rel c σ (us++(ku.map (·.2)++aD)) (vals++(kv++tv)) hid s→qk c.M A' (.call (.ref a) ⟨vals,(ku.map (·.1)).zip kv⟩) (PoC c (ev.C a us ku σ) aD tv hid) s
section
theorem Rl.X (R:Rl c σ aD tv hid s g m mo fz):c.K.In g:=c.XB.keeps R.gh.B.stays
theorem Core.of_news (C:Core g L m mo fz hid h) (hk:mo[k]?=some (a,o)) (F:Fr g L h' m) (N:News g L h' (mo.set k (a,o')++(fz++hid))):Core g L m (mo.set k (a,o')) fz hid h':=by
 have e:=rZ (o':=o') hk;refine ⟨F,N,e ▸ C.nd,fun p hp r hr=>?_,C.dh,C.nh⟩;have:p.1∈bh (mo.set k (a,o')):=bP hp;rw[e] at this;refine bU (aX.mp this) fun q hq eq=>?_;rw[← eq];exact C.dj q hq r hr
theorem Rl.Lb {tk:Nat} (R:Rl c σ aD tv hid s g m mo fz) (hk:mo[k]?=some (a,o)) (F:Fr g c.L h' m) (N:News g c.L h' (mo.set k (a,o')++(fz++hid))) (hb:Nv c.base fz (bh mo) ob o') :
  Rl c { σ with aP:=σ.aP.set k ob } aD tv hid { s with heap:=h',toks:=tk } g m (mo.set k (a,o')) fz:=by
 have e:=rZ (o':=o') hk;refine ⟨R.gh,R.core.of_news hk F N,R.p8,?_,⟨by simp [R.aP.len],fun i ob' p h1 h2=>?_⟩,?_,R.gens,R.os,R.dw⟩
 ·rw[e];exact R.loc
 ·rw[e]
  rw[iF] at h1 h2;by_cases hik:k=i
  ·subst hik
   have kL:k<mo.length:=(az.mp hk).1;simp only [gz,kL,R.aP.len ▸ kL,cB] at h1 h2;subst h1 h2;exact hb
  ·simp only [hik,jy] at h1 h2
   exact R.aP.at_ _ _ _ h1 h2
 ·rw[e];exact R.aD
theorem Lk {a:Addr} {o o':Obj} {rest:Led}:∀ {mo:Led} {k:Nat},mo[k]?=some (a,o)→(bh mo).Nodup→(∀ p∈rest,p.1≠a)→Upd a o o' (mo++rest) (mo.set k (a,o')++rest)
 | [],k,h,_,_=>by cases h
 | p :: mo,0,h,nd,hr=>by
  simp only [iY,cB] at h;subst h;refine .head fun q hq=>?_;refine bJ (aj.mp hq) (fun hq=>?_) fun hq=>?_
  ·intro e
   exact (bF.mp nd).1 (aX.mpr ⟨q,hq,e⟩)
  ·exact hr q hq
 | p :: mo,k+1,h,nd,hr=>by
  refine .tail (fun e=>?_) (Lk (mo:=mo) (k:=k) (by simpa using h) (bF.mp nd).2 hr);refine (bF.mp nd).1 (aX.mpr ⟨(a,o),bf (by simpa using h),e.symm⟩)
theorem BV (k n:Str) (t:Tok):(oQ k t).isStr n=(k==n):=rfl
theorem Eg.set {kv:List (Str × V)} {es:List mW} (h:Eg b fz μ kv es) {a:Str} {hsh:Int} (hv:VR b fz μ u v):Eg b fz μ (vG kv a u) (putL a hsh (.str a t) v es):=by
 induction h with
 | nil=>exact .cons hv .nil
 | @cons k u' kv' RX t' v' yV a' r ih =>
  unfold vG putL;rw[BV];split
  ·exact .cons hv r
  ·exact .cons a' ih
theorem Eg.length {b:Heap} {μ : List Addr} {kv:List (Str × V)} {es:List mW} (h:Eg b fz μ kv es):es.length=kv.length:=by
 induction h with
 | nil=>rfl
 | cons _ _ ih=>simp [ih]
theorem vH (a:Str) (u:V):∀ kv:List (Str × V),(vG kv a u).length≤kv.length+1
 | []=>by simp [vG]
 | (y,w) :: r=>by
  dsimp only [vG];split
  ·simp
  ·have:=vH a u r
   exact nX this 1
theorem Eg.find {b:Heap} {μ : List Addr} {kv:List (Str × V)} {es:List mW} (h:Eg b fz μ kv es) (a:Str):match kv.lookup a with
  | some u=>∃ v,getL a es=some (some v)∧VR b fz μ u v
  | none=>getL a es=some none:=by
 induction h with
 | nil=>rfl
 | @cons k u' kv' RX t' v' yV a' r ih =>
  rw[aH];unfold getL;rw[List.find?_cons];rw[BV];by_cases hk:a=k
  ·rw[hk]
   rw[cY];exact ⟨v',rfl,a'⟩
  ·have h1:(a==k)=false:=aJ.mpr hk
   have h2:(k==a)=false:=aJ.mpr (eO hk);rw[h1,h2];have e:(⟨RX,oQ k t',v'⟩ :: yV:List mW).any (·.refKey)=yV.any (·.refKey):=by
    rw[List.any_cons];rfl
   exact ih
theorem handed (h:VR b fz μ u v) (hb:vE u=false):handedIn v=true:=by
 cases h with
 | p h=>cases h<;>first | rfl | cases hb
 | obj _=>rfl
 | jq _ _ _ _=>rfl
 | tup _ _ _ _=>rfl
theorem Rl.inst (R:Rl c σ aD tv hid s g m mo fz) {k d:Nat} {kv:List (Str × V)} (ha:(bh mo)[k]?=some a) (h1:σ.aP[k]?=some (.inst C d)) (h2:σ.aP[d]?=some (.attrs kv)) :
  ∃ dx es n,mo[d]?=some (dx,dictOf es n)∧Eg c.base fz (bh mo) kv es∧InstAt s.heap a (qm C dx) C (some (dictOf es n)):=by
 refine nv (R.kX ha h1) fun o ho hh ajJ=>?_;refine bU ajJ fun dx hd ajK=>?_;obtain rfl:=ajK;refine nv (R.kX hd h2) fun o2 VX hh2 ajL=>?_;refine jU ajL fun es n ajM hr=>?_;obtain rfl:=ajM;exact (Y2 dx es ⟨n,VX,hr,hh,rfl,rfl,hh2⟩)
set_option tactic.hygienic true in
theorem La {o u:V} {a:Str} (hr:MV c.K o a u σ≠.fail) (R:Rl c σ aD tv hid s g m mo fz) (ho:VR c.base fz (bh mo) o ov) (hu:VR c.base fz (bh mo) u v) :
  aF c.M A' (setAttr ov a v) (PoU c (MV c.K o a u σ) aD tv hid) E s:=by
 unfold MV at hr ⊢;split at hr
 ·split at hr
  ·rename_i C d h1
   split at hr
   ·rename_i kv h2
    split at hr
    ·rename_i pB
     cases ho with | obj ha =>
      refine Ep (R.inst ha h1 h2) fun dx es n hd Tv I=>?_;refine cz pB fun pB hlen=>?_;unfold setOk at pB;simp only [aR,beq_iff_eq] at pB;refine cz pB fun ajN q4=>?_;refine cz ajN fun ajO q3=>?_;refine cz ajO fun q1 q2=>?_;have hg:(getL a es).isSome=true:=by
       have:=Tv.find a;split at this
       ·obtain ⟨v,e,_⟩:=this;rw[e];rfl
       ·rw[this];rfl
      have TN:=Tv.set (a:=a) (hsh:=Sy c.w.params a) (t:=s.toks+1) hu;have hz:=TN.length;have sj:=vH a u kv;refine set_dict R.core.F R.X R.core.N I rfl q1 q2 q3 q4 hg rfl (Lk hd R.core.nd fun p hp=>?_) (by (rename_i i2' nV;exact (rM (.g au aE (.g aE (.s aT) (.g aT (.n 900) .e))) au (.n 1000) zC (zA hz) sj i2'.2))) fun h' F' N'=>?_
      ·exact (R.core.dj _ (bf hd) p hp).symm
      ·have abH:setOk c.K C a=true∧kv.length≤900:=⟨by unfold setOk;simp [q1,q2,q3,q4],hlen⟩
       refine ⟨{ σ with aP:=σ.aP.set d (.attrs (vG kv a u)) },?_,(R.Lb hd F' N' (Y2 _ _ ⟨rfl,TN⟩) (ob:=.attrs (vG kv a u))).rel⟩;simp only [h1,h2,aA abH]
    ·exact absurd rfl hr
   ·exact absurd rfl hr
  ·exact absurd rfl hr
 ·exact absurd rfl hr
theorem I8 {C f:Addr} {a:Str} (h:uJ K C a=some f):∃ p rest,jO K (.ref C) a=some (some (.ref p))∧recIn K p "property"=some (.ref f :: rest)∧CI K C a=true∧Eu K C=true∧specialIn K (.ref p) "__get__"=some (some (.builtin "property.__get__"))∧takesIn K (.ref p)=some true:=by
 refine bU (bind_some h) fun q hf h=>bU (bind_some h) fun p hp h=>cz (ji h) fun pB h=>bU (bind_some h) fun l hl h=>bU (bind_some h) fun v hv h=>bU (bind_some hp) fun w hw hp=>?_;rw[CJ h] at hv;rw[hw,CJ hp] at hf;cases l with | nil=>exact nomatch hv | cons x rest=>?_
 rw[aC hv] at hl;have and:=@bQ;exact cz (and.mp pB) fun h1 h2=>cz (and.mp h1) fun h1 h3=>cz (and.mp h1) fun h1 h4=>(Y2 p rest ⟨hf,hl,h1,h4,beq_iff_eq.mp h3,beq_iff_eq.mp h2⟩)
theorem MN {a:Str} (h:vN K C a=true):∃ attr,jO K (.ref C) a=some attr∧CI K C a=true∧Eu K C=true∧noGet K attr=true:=by
 unfold vN at h;rw[aR,aR] at h;refine cz h fun h h3=>?_;cases hf:jO K (.ref C) a with
 | none=>rw[hf] at h3;cases h3
 | some attr=>rw[hf] at h3;exact ⟨attr,rfl,h.1,h.2,h3⟩
theorem EX {o:V} {a:Str} {G:Prop} (h:vo K ev o a σ=r) (hn:r≠.fail)
  (k1:∀ k C d f,o = .obj k→σ.aP[k]?=some (.inst C d)→uJ K C a=some f→(ev.C f [.obj k] [] >>= fun u=>if vE u=false then pure u else Mo.fail) σ=r→G)
  (k2:∀ k C d kv u,o = .obj k→σ.aP[k]?=some (.inst C d)→σ.aP[d]?=some (.attrs kv)→kv.lookup a=some u→vN K C a=true→vE u=false→r = .ok u σ→G)
  (k3:∀ k vs,o = .obj k→σ.aP[k]?=some (.list vs)→a="append"→r = .ok (.jq k a) σ→G):G:=by
 cases o with
 | obj k =>
  have h:(match σ.aP[k]? with
   | some (.inst C d)=>match uJ K C a with
    | some f=>(ev.C f [.obj k] [] >>= fun u=>if vE u=false then pure u else Mo.fail) σ
    | none=>match σ.aP[d]? with
     | some (.attrs kv)=>match kv.lookup a with
      | some v=>if vN K C a=true∧vE v=false then .ok v σ else .fail
      | none=>.fail
     | _=>.fail
   | some (.list _)=>if a="append" then .ok (.jq k a) σ else .fail
   | _=>.fail)=r:=h
  cases h1:σ.aP[k]? with
  | none=>rw[h1] at h;exact absurd h.symm hn
  | some ob =>
  rw[h1] at h;cases ob with
  | inst C d =>
   cases hp:uJ K C a with
   | some f =>
    have h:(match uJ K C a with
     | some f=>(ev.C f [.obj k] [] >>= fun u=>if vE u=false then pure u else Mo.fail) σ
     | none=>_)=r:=h
    rw[hp] at h;exact k1 k C d f rfl h1 hp h
   | none =>
    have h:(match uJ K C a with
     | some f=>(ev.C f [.obj k] [] >>= fun u=>if vE u=false then pure u else Mo.fail) σ
     | none=>match σ.aP[d]? with
      | some (.attrs kv)=>match kv.lookup a with
       | some v=>if vN K C a=true∧vE v=false then .ok v σ else .fail
       | none=>.fail
      | _=>.fail)=r:=h
    rw[hp] at h;cases h2:σ.aP[d]? with
    | none=>rw[h2] at h;exact absurd h.symm hn
    | some ob =>
    rw[h2] at h;cases ob with
    | attrs kv =>
     have h:(match kv.lookup a with
       | some v=>if vN K C a=true∧vE v=false then Res.ok v σ else .fail
       | none=>.fail)=r:=h
     cases hu:kv.lookup a with
     | none=>rw[hu] at h;exact absurd h.symm hn
     | some u =>
      rw[hu] at h;have h:(if vN K C a=true∧vE u=false then (pure u:Mo V) else Mo.fail) σ=r:=by
       rw[← h];show _=(if vN K C a=true∧vE u=false then Res.ok u σ else .fail);split<;>rfl
      refine cz (bW h hn) fun q h=>?_;exact k2 k C d kv u rfl h1 h2 hu q.1 q.2 h.symm
    | _=>exact absurd h.symm hn
  | list vs =>
   have h:(if a="append" then (pure (.jq k a):Mo V) else Mo.fail) σ=r:=by rw[← h];show _=(if a="append" then Res.ok (V.jq k a) σ else .fail);split<;>rfl
   refine cz (bW h hn) fun q h=>?_;exact k3 k vs rfl h1 q h.symm
  | _=>exact absurd h.symm hn
 | _=>exact absurd h.symm hn
theorem EY {o:V} {a:Str} (HC:gC ev c) (hr:vo c.K ev o a σ≠.fail) (hA:Alike c.A A'.in1) (R₀ : Rel c σ (o :: aD) (ov :: tv) hid s) :
  aF c.M A' (getAttr ov a ex) (iZ c (vo c.K ev o a σ) aD tv hid) E s:=by
 have bN:=R₀;refine iM (bN) fun g m mo fz cX=>?_;refine cz (cX.one) fun ho R=>?_;clear cX
 have Iw:=hr;generalize hrr:vo c.K ev o a σ=r at Iw ⊢;clear hr
 refine EX hrr Iw (fun k C d f sV h1 hp h=>?_) (fun k C d kv u sV h1 h2 hu pB hb hre=>?_) fun k vs sV h1 hap hre=>?_
 ·subst sV
  refine bU (VR.inv ho) fun oa eo ha=>?_;subst eo;refine X26 (I8 hp) fun p rest hf XJ q1 q2 q3 q4=>?_;refine nv (R.kX ha h1) fun oi hoi VV ajP=>?_;refine bU ajP fun dx hd ajQ=>?_;obtain rfl:=ajQ;have hdx:∃ od,s.heap.get? dx=some od:=by
   unfold bh at hd;rw[bM] at hd;refine oC (mo[d]?) (fun q=>?_) fun p q=>?_
   ·rw[q] at hd;cases hd
   ·rw[q] at hd
    rw[← aC hd];exact ⟨p.2,(R.core.N p (af _ (bf q))).1⟩
  refine eU hdx fun od hod=>?_;refine get_prop R.core.F R.X ⟨VV,rfl,rfl,hod⟩ q1 q2 hf q3 q4 XJ ?_;refine ql (HC f [.obj k] [] σ A'.in1 aD tv hid { s with toks:=s.toks+1 } [_] [] hA (oB h Iw) rfl rfl R₀.toks) fun res s' rJ=>?_;refine bU rJ.el fun v ev rJ=>?_;rw[ev]
  ·refine jU rJ fun u σ' e R'=>?_
   refine cz (bW (a:=(pure u:Mo V)) (i8 (f:=fun u=>if vE u=false then pure u else Mo.fail) e h) Iw) fun hb e2=>?_;refine iM R' fun g' m' ri gM R''=>?_;show aF _ _ (handedOut v) _ _ _;rw[handedOut_of (handed R''.one.1 hb)];exact wpAny_pure (Y2 u σ' ⟨e2.symm,R''.rel⟩)
 ·subst sV
  refine bU (VR.inv ho) fun oa eo ha=>?_;rw[eo];refine Ep (R.inst ha h1 h2) fun dx es n hd Tv I=>?_;refine X14 (MN pB) fun attr hf q1 q2 q3=>?_;have:=Tv.find a;rw[hu] at this;refine bU this fun v hg hv=>?_;exact get_own R.core.F R.X I q1 q2 hf q3 hg (handed hv hb) (Y2 u σ ⟨hre,(R.push hv).rel.toks⟩)
 ·subst sV hap
  refine bU (VR.inv ho) fun oa eo ha=>?_;subst eo;refine nv (R.kX ha h1) fun o ho hh ajR=>?_;refine jU ajR fun vals n ajS hv=>?_;obtain rfl:=ajS;exact yZ hh rfl rfl rfl fun tk=>(Y2 _ σ ⟨hre,((R.sC _ rfl).push (.jq (.inl (.head _)) rfl rfl ha)).rel.toks⟩)
end
section
section
variable {prog:qj} {w:dz} {A:fP} {E:ah→aG→Prop} {s:aG}
theorem fF (vals:eF ah) (n:Nat) (f:eF ah→eF ah):∃ n',dm f (listOf vals n)=listOf (f vals) n':=⟨_,rfl⟩
theorem GG {l:Addr} {items:eF ah} {n:Nat} {k:Int} {t:Tok} {j:Nat} {v:ah} {Q:Unit→aG→Prop} (hl:s.heap.get? l=some (listOf items n))
  (h0:k<0) (Ir : -(2 ^ 62)≤k) (hj:jz k items.size=some j) (kL:j<items.size)
  (hQ:Q () { s with heap:=s.heap.update l (dm (·.setIfInBounds j v)) }) :
  aF (jN prog w) A (setItem (.ref l) (.int k t) v) Q E s:=by
 have hT:s.TypeIs (.ref l) "list":=⟨_,hl,rfl⟩;unfold setItem;try with_reducible refine cF ?_
 first | refine wpAny_bind (wpAny_pure ?_) | skip
 refine wpAny_bind (wpAny_sequenceKey hT (by decide) ?_);refine wpAny_bind (t9 (name:=aL "__setitem__") hT slot_list_setitem
  (ua slot_list_setitem hT entry_list_setitem ?_ (args_list_setitem _ _ _)))
 show aF _ _ (vW (.int k t) >>= _) _ _ s;refine wpAny_bind (Rz (fitsIndex_neg h0 (by exact zI [k] 0 (.g (.neg (.num 4611686018427387904)) bH .e) (.neg (.num 9223372036854775808)) bH zC Ir)) ?_);clear Ir
 obtain ⟨i,rfl⟩:∃ i:Nat,k=Nm i:=by
  cases k with
  | ofNat n=>exact absurd h0 (Int.not_lt.mpr (Int.ofNat_nonneg n))
  | negSucc n=>exact ⟨n,rfl⟩
 have hx:items[j]?=some items[j]:=kg kL;refine wpAny_bind (wpAny_bind ?_);refine wpAny_bind (rz hl rfl (wpAny_pure (wpAny_pure ?_)));rw[hj];simp only [Option.bind_some,hx,rU];show aF _ _ (setSeqItemAt l j v >>= _) _ _ s;refine wpAny_bind (wpAny_setSeqItemAt hl rfl ?_);first
  | exact wpAny_bind (wpAny_pure (wpAny_pure (Y2 (.none) rfl (wpAny_pure hQ))))
  | exact wpAny_pure ⟨.none,rfl,wpAny_pure hQ⟩
theorem DR:fillsInplaceSlot (.type "list") "add" true=pure false:=by
 show (k8 (.type "list") (dunderI "add") >>= fun fi=>pure (fi.isSome && !isSeqSlot fi))=pure false;rw[Bg.lookup];rfl'
theorem Ba:seqSlot? (.type "list") (dunderI "add")=pure (some (.builtin "list.__iadd__")):=by
 dsimp only [seqSlot?];rw[Bg.lookup];rfl'
theorem Mh {l b:Addr} {xs ys:eF ah} {n n2:Nat} {Q:ah→aG→Prop} (hl:s.heap.get? l=some (listOf xs n)) (hb:s.heap.get? b=some (listOf ys n2)) (kC:xs.size+ys.size≤2 ^ 20)
  (h:Q (.ref l) { s with heap:=s.heap.update l (dm fun x=>x++ys) }):aF (jN prog w) A (Pk .Add (.ref l) (.ref b)) Q E s:=by
 have hT:s.TypeIs (.ref l) "list":=⟨_,hl,rfl⟩;have hU:s.TypeIs (.ref b) "list":=⟨_,hb,rfl⟩;refine cF ?_;refine wpAny_bind (qo hT (wpAny_bind (fJ DR ?_)));refine wpAny_bind (binaryOp1_none (nm:="add") hT hU noFill_list_add ?_);refine wpAny_bind (fJ Ba ?_);refine wpAny_bind (fY ?_);have Xv:¬ (!xs.isEmpty&&gX (xs.size+ys.size))=true:=by
  have:gX (xs.size+ys.size)=false:=by unfold gX aZ;simp;exact oH (.g (.a au aE) (.n 1048576) .e) (.a au aE) (.n 16777216) zC kC
  rw[this];simp
 refine uS Bg hT WK (F.args_list_iadd_2 _ _) (AutoSeq1.list___iadd___list_list_0 l xs n b ys n2 Xv (by simp only [aZ];exact oH (.g (.a au aE) (.n 1048576) .e) au (.n 16777216) zC kC) (by simp only [aZ];exact oH (.g (.a au aE) (.n 1048576) .e) (.a au aE) (.s (.n 16777216)) zC kC)) ⟨hl,hb,?_⟩;exact h
end
end
section
theorem Rl.qh (R:Rl c σ aD tv hid s g m mo fz) {f:eF ah→eF ah} {ws:List P} (hk:mo[k]?=some (l,listOf xs n)) (hw:jS c.base fz ws (f xs).toList) :
  Rel c { σ with aP:=σ.aP.set k (.list ws) } aD tv hid { s with heap:=s.heap.update l (dm f) }:=by
 refine eU (fF xs n f) fun n' e=>?_;have hg:=(R.core.N _ (af _ (bf hk))).1;refine (R.D4 (o':=listOf (f xs) n') (ob:=.list ws) hk (iy ..) ?_ (Y2 (f xs) n' ⟨rfl,hw⟩)).rel;rw[← e];exact bL _ hg rfl
theorem XR {k:Int} (h:idx k n=some j):j<n:=by
 delta idx jz at h;refine cz (ji h) fun c e=>?_;rw[← aC e];first
  | exact (JA c.1).mpr c.2
  | exact (JA (cA (bQ.mp c).1)).mpr (cA (bQ.mp c).2)
set_option tactic.hygienic true in
theorem ZR (hr:UJ x σ≠.fail) (R:Rel c σ aD tv hid s) (k:∀ u v,UJ x σ = .ok u σ→Rel c σ (u :: aD) (v :: tv) hid s→Q v s):aF c.M c.A (loadName c.env x) Q E s:=by
 refine iM R fun g m mo fz R=>?_;unfold UJ at hr;split at hr
 ·rename_i v hl
  refine cz (R.loc _ _ hl) fun hk ajT=>?_;refine bU ajT fun val hv hm=>?_;have fin:Q val s:=k v val (by unfold UJ;rw[hl]) (R.push hv).rel;rcases hm with ⟨hL,hm⟩ | ⟨o,es,ep,ho,hod,hsk,hf⟩
  ·exact o8 c.hk hk (hL ▸ R.core.F.ns) hm fin
  ·exact o8 (m:=Ez es) c.hk hk (Y2 o es ⟨ep,(R.core.N _ (aa _ (aa _ ho))).1,hod,hsk,fun _=>rfl⟩) hf fin
 ·exact absurd rfl hr
theorem Tj {o i:V} {ov iv:ah} {f:V→Mo β} {r:Res β} (h:(OS o i >>= f) σ=r) (hn:r≠.fail) (R:Rel c σ (i :: o :: aD) (iv :: ov :: tv) hid s)
  (k:∀ u v,f u σ=r→Rel c σ (u :: i :: o :: aD) (v :: iv :: ov :: tv) hid s→Q v s):aF c.M c.A (Ik ov iv) Q E s:=by
 refine iM R fun g m mo fz R=>?_;refine xM R.two fun ho hi _=>?_;have NG:OS o i σ≠.fail:=oB h hn;generalize e:OS o i σ=r' at NG;have e0:=e;refine bU (bK e NG) fun kk hk e=>?_;refine bU (bK e NG) fun j hj e=>?_;refine bU (ho.objE hk) fun a ajU ha=>?_;rw[ajU];refine eU (hi.pC hj) fun _ ajV=>?_;rw[ajV];cases hs:σ.aP[kk]? with
 | none=>rw[hs] at e;exact absurd e.symm NG
 | some ob =>
 rw[hs] at e;cases ob with
 | list vs =>
  dsimp only at e;by_cases pB:mY j=true
  ·rw[aA pB] at e
   cases hi:idx j vs.length with
   | none=>rw[hi] at e;exact absurd e.symm NG
   | some n =>
   rw[hi] at e;dsimp only at e;cases hp:vs[n]? with
   | none=>rw[hp] at e;exact absurd e.symm NG
   | some p =>
   rw[hp] at e;refine nv (R.kX ha hs) fun o ho hh ajW=>?_;refine jU ajW fun vals n' ajX hv=>?_;obtain rfl:=ajX;refine bU (hv.get hp) fun x hx px=>?_;have hz:=hv.length;exact list_item ⟨_,hh,rfl,_,rfl⟩ (zk pB) (hz ▸ hi) (by simpa using hx) (k _ _ (i8 (e0.trans e.symm) h) (R.push (.p px)).rel)
  ·rw[aS pB] at e
   exact absurd e.symm NG
 | _=>exact absurd e.symm NG
theorem UP {o i u:V} {ov iv v:ah} {r:Res Unit} (h:ZW o i u σ=r) (hn:r≠.fail) (R₀ : Rel c σ (u :: i :: o :: aD) (v :: iv :: ov :: tv) hid s) :
  aF c.M c.A (setItem ov iv v) (PoU c r aD tv hid) E s:=by
 refine iM R₀ fun g m mo fz bN=>?_;refine xM (bN.two) fun hi hu cX=>?_;refine cz (cX.one) fun ho R=>?_;clear bN cX
 refine bU (bK h hn) fun kk hk h=>?_;refine bU (bK h hn) fun j hj h=>?_;refine bU (bK h hn) fun p hp h=>?_;refine bU (ho.objE hk) fun a ajY ha=>?_;rw[ajY];refine eU (hi.pC hj) fun _ ajZ=>?_;rw[ajZ];have hu:=hu.uI hp;cases hs:σ.aP[kk]? with
 | none=>rw[hs] at h;exact absurd h.symm hn
 | some ob =>
 rw[hs] at h;cases ob with
 | list vs =>
  dsimp only at h;by_cases pB:mY j=true∧j<0
  ·rw[aA pB] at h
   cases hi:idx j vs.length with
   | none=>rw[hi] at h;exact absurd h.symm hn
   | some n =>
   rw[hi] at h;refine nv (R.kX ha hs) fun o ho hh aj0=>?_;refine jU aj0 fun vals n' aj1 hv=>?_;obtain rfl:=aj1;have hz:=hv.length;rw[cH] at hz;have kL:n<vs.length:=XR hi;exact GG hh pB.2 (zk pB.1).1 (hz ▸ hi) (by exact pJ kL (id (iI hz))) ⟨_,h.symm,R.qh (ws:=vs.set n _) (f:=(·.setIfInBounds n v)) ho (by simpa using hv.set n hu)⟩
  ·rw[aS pB] at h
   exact absurd h.symm hn
 | _=>exact absurd h.symm hn
set_option tactic.hygienic true in
theorem SN {ws:List P} (h:W5 k ws σ=r) (hn:r≠.fail) (ha:(bh mo)[k]?=some a) (hb:PV c.base fz (.lst ws) vb) (R:Rl c σ aD tv hid s g m mo fz) :
  aF c.M c.A (Pk .Add (.ref a) vb) (iZ c r aD tv hid) E s:=by
 unfold W5 at h;cases hs:σ.aP[k]? with
 | none=>rw[hs] at h;exact absurd h.symm hn
 | some ob =>
 rw[hs] at h;cases ob with
 | list vs =>
  simp only at h;by_cases hc:vs.length+ws.length≤2 ^ 20
  ·rw[aA hc] at h
   cases hb with | lst h1 h2 h3 h4 =>
   refine nv (R.kX ha hs) fun o ho hh aj2=>?_;refine jU aj2 fun vals n' aj3 hv=>?_;obtain rfl:=aj3;have hg:=R.at h1;rename_i o2 n2 vals2;obtain ⟨cl,dd,dt,sl⟩:=o2;refine xM h2 fun q1 q2 q3=>?_;simp only at q1 q2 q3 h3;subst q1 q2 q3 h3;have z1:=hv.length;have z2:=h4.length;refine Mh hh hg (by exact xV (.g au aT (.g aE bX (.g (.a aT bX) (.n 1048576) .e))) (.a au aE) (.n 1048576) zC (zA z1) (zA z2) hc) ?_;have R2:=R.push (u:=.obj k) (.obj ha);exact (Y2 (.obj k) _ ⟨h.symm,R2.qh (ws:=vs++ws) ho (by simpa using hv.append h4)⟩)
  ·rw[aS hc] at h
   exact absurd h.symm hn
 | _=>exact absurd h.symm hn
theorem SP {a b:V} (h:yL a b σ=r) (hn:r≠.fail) (R₀ : Rel c σ (b :: a :: aD) (vb :: va :: tv) hid s):aF c.M c.A (Pk .Add va vb) (iZ c r aD tv hid) E s:=by
 refine iM R₀ fun g m mo fz bN=>?_;refine xM (bN.two) fun ha hb R=>?_;clear bN
 unfold yL at h;refine oC (intOf a) (fun hx=>?_) fun x hx=>?_
 ·rw[hx] at h
  refine oC (strOf a) (fun hx=>?_) fun x hx=>?_
  ·rw[hx] at h
   refine bU (bK h hn) fun k hk h=>?_;refine bU (bK h hn) fun ws hw h=>?_;refine bU (ha.objE hk) fun a aj8 hm=>?_;rw[aj8];exact SN h hn hm (hb.acT hw) R
  ·rw[hx] at h
   refine bU (bK h hn) fun y hy h=>?_;refine cz (bW h hn) fun hc h=>?_;refine eU (ha.pG hx) fun _ aj6=>?_;rw[aj6];refine eU (hb.pG hy) fun _ aj7=>?_;rw[aj7];exact iadd_str (fun t tk=>R.val h.symm fun _ _ _=>.str) hc
 ·rw[hx] at h
  refine bU (bK h hn) fun y hy h=>?_;refine eU (ha.pC hx) fun _ aj4=>?_;obtain rfl:=aj4;refine eU (hb.pC hy) fun _ aj5=>?_;obtain rfl:=aj5;exact iadd_int (R.val h.symm fun _ _ _=>.int)
theorem LB {t:Expr} {r:Res Unit} (HE:cI ev c) (O:Own c) (h:Mine.assign c.K ev c.env.scope u t σ=r) (hn:r≠.fail) (R:Rel c σ (u :: aD) (v :: tv) hid s) :
  aF c.M c.A (w4 t c.env v) (PoU c r aD tv hid) (kH c r aD tv hid) s:=by
 cases t with
 | Name x p =>
  subst h;exact iT (Ed O hn R)
 | Attribute o a p =>
  have e:w4 (.Attribute o a p) c.env v=(do
   let ov ← holding [v] (eval o c.env)
   standAt p.atName
   holding [v,ov] (setAttr ov a v)
   release [v,ov] []):=rfl
  refine wpAny_bind (cF (SE.go (HE o σ) h hn R (fun _ _ x=>x.pop) fun ou bx ov b3 h bN=>?_));refine iM (bN) fun g m mo fz cX=>?_;refine xM (cX.two) fun hu ho gv=>?_;subst h;exact wpAny_bind (gA (wpAny_bind (cF (wpAny_mono (La (E:=fun _ _=>iP) hn gv ho hu) (fun _ s' h=>wpAny_release h) fun _ _ h=>h.elim))))
 | _=>exact absurd h.symm hn
theorem vR {f:Unit→Mo β} {r:Res β} {Q:Unit→aG→Prop} (O:Own c) (h:(o9 x u >>= f) σ=r) (hn:r≠.fail) (R:Rel c σ (u :: aD) (v :: tv) hid s)
  (k:∀ σ' s',f () σ'=r→Rel c σ' aD tv hid s'→Q () s'):aF c.M c.A (storeName c.env x v) Q E s:=
 wpAny_mono (Ed (E:=fun _ _=>iP) O (oB h hn) R) (fun _ s' q=>bU q fun σ' e R'=>k σ' s' (i8 e h) R') fun _ _ h=>h.elim
theorem SS.assign {t:Expr} {e:Expr} {pos:Pos} (HE:cI ev c) (O:Own c) (hc:nB e=false) (ht:(assignEach [t] c.env).map (·.2)=[w4 t c.env]) (hw:swappedStores [t] e c.env=pure none) :
  SS c (exec (.Assign [t] e pos) c.env) σ ((ev.E c.env.scope e >>= fun v=>Mine.assign c.K ev c.env.scope v t >>= fun _=>pure .next) σ):=by
 refine .mk fun r h hn aD tv hid s R=>wpAny_Assign_stores (SE.go (HE e σ) h hn R (fun _ _ x=>x) fun a bx va b3 h bN=>?_) (GP hc) hw;rw[ht];refine wpAny_mono (LB HE O rfl (oB h hn) bN) (fun _ s' aiT=>bU aiT fun σ' e' R'=>(Y2 (.next) σ' ⟨(i8 e' h).symm,R'⟩)) fun _ _ x=>?_;rw[← h];exact x.iN
theorem SS.SJ (HE:cI ev c) (O:Own c) :
  SS c (exec (.Assign [.Name x px,.Name y py] e pos) c.env) σ ((ev.E c.env.scope e >>= fun v=>o9 x v >>= fun _=>o9 y v >>= fun _=>pure .next) σ):=
 .mk fun r h hn aD tv hid s R=>wpAny_Assign_two (SE.go (HE e σ) h hn R (fun _ _ x=>x) fun a bx va b3 h bN =>
  iT (vR O h hn bN.dup fun b5 cD h cX=>iT (vR O h hn cX fun iU i9 h gv=>(Y2 (.next) iU ⟨h.symm,gv⟩)))) rfl rfl
theorem yM {f:V→Mo β} {a b:V} {r:Res β} (h:(yL a b >>= f) σ=r) (hn:r≠.fail) (R:Rel c σ (b :: a :: aD) (vb :: va :: tv) hid s)
  (k:∀ u σ' v s',f u σ'=r→Rel c σ' (u :: aD) (v :: tv) hid s'→Q v s'):aF c.M c.A (Pk .Add va vb) Q E s:=
 wpAny_mono (SP (E:=fun _ _=>iP) rfl (oB h hn) R) (fun v s' aiU=>jU aiU fun u σ' e R'=>k u σ' v s' (i8 e h) R') fun _ _ h=>h.elim
theorem SS.agZ (HE:cI ev c) (O:Own c) :
  SS c (exec (.AugAssign (.Name x px) .Add e pos) c.env) σ ((UJ x >>= fun a=>ev.E c.env.scope e >>= fun b=>yL a b >>= fun v=>o9 x v >>= fun _=>pure .next) σ):=
 .mk fun r h hn aD tv hid s R=>wpAny_AugAssign_Name (ZR (oB h hn) R fun a va Dq bN=>by
  have h₁:=i8 Dq h;refine SE.go (HE e σ) h₁ hn bN (fun _ _ x=>x.pop) fun b b5 vb cD IA cX=>?_;exact yM IA hn cX fun u iU v i9 Pg gv=>vR O Pg hn gv fun nN Jl ahP jT=>(Y2 (.next) nN ⟨ahP.symm,jT⟩))
theorem LC {f:V→Mo β} {o:V} {a:Str} {r:Res β} (HC:gC ev c) (h:(vo c.K ev o a >>= f) σ=r) (hn:r≠.fail) (R:Rel c σ (o :: aD) (ov :: tv) hid s)
  (k:∀ u σ' v s',f u σ'=r→Rel c σ' (u :: aD) (v :: tv) hid s'→Q v s'):aF c.M c.A (getAttr ov a ex) Q E s:=
 wpAny_mono (EY (E:=fun _ _=>iP) HC (oB h hn) (Alike.in1 _) R) (fun v s' q=>jU q fun u σ' e R'=>k u σ' v s' (i8 e h) R') fun _ _ h=>h.elim
theorem SS.agX {o e:Expr} {n:Str} {pt pos:Pos} (HE:cI ev c) (HC:gC ev c) :
  SS c (exec (.AugAssign (.Attribute o n pt) .Add e pos) c.env) σ ((ev.E c.env.scope o >>= fun ov=>vo c.K ev ov n >>= fun a=>ev.E c.env.scope e >>= fun b=>yL a b >>= fun v=>MV c.K ov n v >>= fun _=>pure .next) σ):=by
 refine .mk fun r h hn aD tv hid s R=>wpAny_AugAssign_AttributeAny (SE.go (HE o σ) h hn R (fun _ _ x=>x) fun ou bx ov b3 h bN =>
  LC HC h hn bN.dup fun a b5 va cD h cX=>SE.go (HE e b5) h hn cX (fun _ _ x=>x.pop.pop) fun b iU vb i9 h gv=>yM h hn gv fun u nN v Jl h jT=>?_)
 refine iM (jT) fun g m mo fz pg=>?_;refine xM (pg.two) fun ho hu oO=>?_;exact wpAny_mono (La (E:=fun _ _=>iP) (oB h hn) oO ho hu) (fun _ s' q=>bU q fun σ' e' R'=>(Y2 (.next) σ' ⟨(i8 e' h).symm,R'⟩)) fun _ _ h=>h.elim
theorem SS.agY {o i e:Expr} {pt pos:Pos} (HE:cI ev c) :
  SS c (exec (.AugAssign (.Subscript o i pt) .Add e pos) c.env) σ ((if isNm i=true then ev.E c.env.scope o >>= fun ov=>ev.E c.env.scope i >>= fun iv=>OS ov iv >>= fun a=>ev.E c.env.scope e >>= fun b=>yL a b >>= fun v=>ZW ov iv v >>= fun _=>pure .next else Mo.fail) σ):=by
 refine .mk fun r h hn aD tv hid s R=>?_;refine cz (bW h hn) fun hc h=>?_;refine wpAny_AugAssign_SubscriptAny (SE.go (HE o σ) h hn R (fun _ _ x=>x) fun ou bx ov b3 h bN=>SE.go (HE i bx) h hn bN (fun _ _ x=>x.pop) fun iu b5 iv cD h cX =>
  Tj h hn cX fun a va h gv=>SE.go (HE e b5) h hn gv (fun _ _ x=>x.pop.pop.pop) fun b iU vb i9 h jT=>yM h hn jT fun u nN v Jl h pg=>?_) (fun _ _ _=>by unfold augStore;cases i<;>first | rfl | cases hc)
 exact wpAny_mono (UP (E:=fun _ _=>iP) rfl (oB h hn) pg) (fun _ s' aiV=>bU aiV fun σ' e' R'=>(Y2 (.next) σ' ⟨(i8 e' h).symm,R'⟩)) fun _ _ h=>h.elim
end
section
section
variable {b:Heap} {fz gM:Led} {μ kM:List Addr} {n:Nat}
mutual
theorem VR.B9 {u:V} {v:ah} (h:VR b fz μ u v):u.lt μ.length=true:=by
 cases h with
 | p h=>rfl
 | obj h=>exact cL (az.mp h).1
 | jq _ _ _ h=>exact cL (az.mp h).1
 | tup h1 h2 h3 h4=>exact eW.B9 h4
theorem eW.B9 {us:List V} {vs:List ah} (h:eW b fz μ us vs):Ku μ.length us=true:=by
 cases h with
 | nil=>rfl
 | cons h1 h2=>unfold Ku;rw[VR.B9 h1,eW.B9 h2];rfl
end
mutual
theorem VR.low {u:V} {v:ah} (h:VR b fz μ u v) (hl:u.lt n=true):VR b fz (μ.take n) u v:=by
 cases h with
 | p h=>exact .p h
 | @obj k a h=>exact .obj (by rw[gj (cA hl)];exact h)
 | @jq k a la o h1 h2 h3 h=>exact .jq h1 h2 h3 (by rw[gj (cA hl)];exact h)
 | tup h1 h2 h3 h4=>exact .tup h1 h2 h3 (eW.low h4 hl)
theorem eW.low {us:List V} {vs:List ah} (h:eW b fz μ us vs) (hl:Ku n us=true):eW b fz (μ.take n) us vs:=by
 cases h with
 | nil=>exact .nil
 | cons h1 h2 =>
  unfold Ku at hl;rw[aR] at hl;exact .cons (VR.low h1 hl.1) (eW.low h2 hl.2)
end
theorem Eg.low {kv:List (Str × V)} {es:List mW} (h:Eg b fz μ kv es) (hl:(kv.all fun x=>V.lt n x.2)=true):Eg b fz (μ.take n) kv es:=by
 induction h with
 | nil=>exact .nil
 | cons a r ih =>
  rw[EM,aR] at hl;exact .cons (a.low hl.1) (ih hl.2)
theorem Nv.low {ob:Ob} {o:Obj} (h:Nv b fz μ ob o) (hl:Ob.lt n ob=true):Nv b fz (μ.take n) ob o:=by
 cases ob with
 | list vs=>exact h
 | cell ov =>
  refine bU h fun cv e r=>?_;refine ⟨cv,e,?_⟩;cases ov<;>cases cv<;>first | exact r | exact VR.low r hl
 | inst C d =>
  refine bU h fun dx e r=>?_;exact ⟨dx,by rw[gj (cA hl)];exact e,r⟩
 | attrs kv=>obtain ⟨es,n',e,r⟩:=h;exact (Y2 es n' ⟨e,r.low hl⟩)
 | gone=>exact ⟨by rw[gj (cA hl)];exact h.1,h.2⟩
theorem wj {mo:Led}:bh (mo.take n)=(bh mo).take n:=gk.symm ▸ rfl
theorem ES.low {mo:Led} {aP:List Ob} (h:ES b fz mo aP) (hl:gG n aP=true):ES b fz (mo.take n) (aP.take n):=by
 refine ⟨by rw[cM,cM,h.len],fun k ob p h1 h2=>?_⟩;have hk:k<n:=by
  have:=(az.mp h1).1;rw[cM] at this;exact XY this (jG _ _)
 rw[gj hk] at h1 h2;rw[wj];refine (h.at_ k ob p h1 h2).low (cG.mp hl ob ?_);exact bf (by rw[gj hk];exact h1)
theorem VM {mo:Led} {aP:List Ob} {d:Nat} (ih:∀ {u:V} {v:ah} {p:P},VR b fz (bh mo) u v→qB aP n d u=some p→PV b (mo.drop n++fz) p v) :
  ∀ {us:List V} {vs:List ah} {ps:List P},eW b fz (bh mo) us vs→us.mapM (qB aP n d)=some ps→jS b (mo.drop n++fz) ps vs
 | [],_,_,h,q=>by cases h;cases q;exact .nil
 | u' :: v9,_,ps,h,q=>by
  cases h with | cons a r =>
  rw[j6] at q;refine oC (qB aP n d u') (fun q1=>?_) fun p' q1=>?_
  ·rw[q1] at q;cases q
  ·refine oC (v9.mapM (qB aP n d)) (fun q2=>?_) fun ps' q2=>?_
   ·rw[q1,q2] at q;cases q
   ·rw[q1,q2] at q
    cases q;exact .cons (ih a q1) (VM ih r q2)
set_option tactic.hygienic true in
theorem Tf {mo:Led} {aP:List Ob} (S:ES b fz mo aP):∀ (d:Nat) {u:V} {v:ah} {p:P},VR b fz (bh mo) u v→qB aP n d u=some p→PV b (mo.drop n++fz) p v:=by
 have up:∀ {a:Addr} {o:Obj},(a,o)∈fz∨b.get? a=some o→(a,o)∈mo.drop n++fz∨b.get? a=some o:=fun h=>h.imp (fun h=>aa _ h) id;have obj:∀ {k:Nat} {a:Addr} {vs:List P},(bh mo)[k]?=some a→n≤k→aP[k]?=some (.list vs)→PV b (mo.drop n++fz) (.lst vs) (.ref a):=fun {k a vs} hk hle hs=>by
  unfold bh at hk;rw[bM] at hk;refine oC (mo[k]?) (fun q=>?_) fun r q=>?_
  ·rw[q] at hk;cases hk
  ·rw[q] at hk
   obtain rfl:=aC hk;refine jU (S.at_ k _ r hs q) fun vals n' e hv=>?_;obtain ⟨a,o⟩:=r;simp only at e;subst e;refine .lst (o:=W.listOf vals n') (n:=n') (.inl (af _ ?_)) ⟨rfl,rfl,rfl⟩ rfl (hv.mono fun _ h=>aa _ h);refine bf (i:=k - n) ?_;rw[NU,N2 hle];exact q
 intro d;induction d with
 | zero =>
  intro u v p h e;cases h with
  | p h =>
   cases e;exact h.mono fun _ h=>aa _ h
  | obj hk =>
   dsimp only [qB] at e;split at e
   ·split at e
    ·cases e;exact obj hk (by assumption) (by assumption)
    ·cases e
   ·cases e
  | jq _ _ _ _=>cases e
  | tup _ _ _ _=>cases e
 | succ d ih =>
  intro u v p h e;cases h with
  | p h =>
   cases e;exact h.mono fun _ h=>aa _ h
  | obj hk =>
   dsimp only [qB] at e;split at e
   ·split at e
    ·cases e;exact obj hk (by assumption) (by assumption)
    ·cases e
   ·cases e
  | jq _ _ _ _=>cases e
  | tup h1 h2 h3 h4 =>
   unfold qB at e;split at e
   ·rename_i ps q
    cases e;refine .tup (up h1) h2 h3 ?_;exact VM ih h4 q
   ·cases e
end
section
set_option tactic.hygienic true in
theorem ZK {μ : List Addr} {loc:List (Str × Sl)} (h:nQ c m fz hid μ loc):∃ us vs,eW c.base fz μ us vs∧∀ gM kM,eW c.base gM kM us vs→(∀ (j:Nat) a,μ[j]?=some a→kM[j]?=some a)→nQ c m gM hid kM loc:=by
 have core:∀ xs:List Str,∃ us vs,eW c.base fz μ us vs∧∀ gM kM,eW c.base gM kM us vs→∀ x∈xs,∀ v,loc.lookup x=some (.val v)→RL c m gM hid kM x (.val v):=by
  intro xs;induction xs with
  | nil=>exact (Y2 ([]) ([]) ⟨.nil,fun _ _ _ _ hx=>nomatch hx⟩)
  | cons x xs ih =>
   refine jU ih fun us vs h1 h2=>?_;refine oC (loc.lookup x) (fun q=>?_) fun sl q=>?_
   ·exact (Y2 us vs ⟨h1,fun gM kM hv y hy v e=>(av.mp hy).elim (fun z=>by rw[z,q] at e;cases e) fun z=>h2 gM kM hv y z v e⟩)
   ·cases sl with
    | unset=>exact (Y2 us vs ⟨h1,fun gM kM hv y hy v e=>(av.mp hy).elim (fun z=>by rw[z,q] at e;cases e) fun z=>h2 gM kM hv y z v e⟩)
    | cell j=>exact (Y2 us vs ⟨h1,fun gM kM hv y hy v e=>(av.mp hy).elim (fun z=>by rw[z,q] at e;cases e) fun z=>h2 gM kM hv y z v e⟩)
    | val u =>
     refine cz (h x _ q) fun hk aj9=>?_;refine bU aj9 fun val hv hm=>?_;refine (Y2 (u :: us) (val :: vs) ⟨.cons hv h1,fun gM kM hv' y hy v e=>?_⟩);cases hv' with | cons a r =>
     rcases av.mp hy with rfl | hy
     ·rw[q] at e
      cases e;exact ⟨hk,val,a,hm⟩
     ·exact h2 gM kM r y hy v e
 refine jU (core (loc.map (·.1))) fun us vs h1 h2=>?_;refine (Y2 us vs ⟨h1,fun gM kM hv hmu x sl e=>?_⟩);cases sl with
 | unset=>exact h x _ e
 | cell j=>obtain ⟨a,ad,b,d⟩:=h x _ e;exact ⟨a,ad,b,hmu _ _ d⟩
 | val v =>
  refine h2 gM kM hv x ?_ v e;clear h h2 core h1 hmu hv
  induction loc with
  | nil=>cases e
  | cons y r ih =>
   rw[aH] at e;split at e
   ·rename_i q
    rw[eq_of_beq q];exact .head _
   ·exact .tail _ (ih e)
theorem ZL {b:Heap} (μ : List Addr):∃ us vs,eW b fz μ us vs∧∀ gM kM,eW b gM kM us vs→∀ (j:Nat) a,μ[j]?=some a→kM[j]?=some a:=by
 have core:∀ k,k≤μ.length→∃ us vs,eW b fz μ us vs∧∀ gM kM,eW b gM kM us vs→∀ (j:Nat) a,j<k→μ[j]?=some a→kM[j]?=some a:=by
  intro k;induction k with
  | zero=>exact fun _=>(Y2 ([]) ([]) ⟨.nil,fun _ _ _ _ _ h=>absurd h (Bk _)⟩)
  | succ k ih =>
   intro hk;refine jU (ih (bk hk)) fun us vs h1 h2=>?_;refine (Y2 (.obj k :: us) (.ref μ[k] :: vs) ⟨.cons (.obj (bS hk)) h1,fun gM kM hv j a hj e=>?_⟩);cases hv with | cons x r =>
   refine bJ (Nat.lt_or_eq_of_le (eE hj)) (fun h=>?_) fun h=>?_
   ·exact h2 gM kM r j a h e
   ·subst h
    cases x with
    | obj q =>
     rw[bS hk] at e;rw[q,← e]
 refine jU (core μ.length (aB _)) fun us vs h1 h2=>?_;exact (Y2 us vs ⟨h1,fun gM kM hv j a e=>h2 gM kM hv j a (az.mp e).1 e⟩)
theorem Rl.pin (R:Rl c σ aD tv hid s g m mo fz):∃ us vs,us.length=vs.length∧eW c.base fz (bh mo) us vs ∧
  ∀ gM kM,eW c.base gM kM us vs→(∀ (j:Nat) a,(bh mo)[j]?=some a→kM[j]?=some a)∧nQ c m gM hid kM σ.loc:=by
 refine jU (ZK R.loc) fun us vs h1 h2=>?_;refine jU (ZL (b:=c.base) (fz:=fz) (bh mo)) fun v9 Jv h1' h2'=>?_;have hl:=h1.length;have Mc:=h1'.length;refine (Y2 (v9++us) (Jv++vs) ⟨by simp [hl,Mc],h1'.append h1,fun gM kM hv=>?_⟩);refine cz (eW.split Mc.symm hv) fun a b=>?_;exact ⟨h2' _ _ a,h2 _ _ b (h2' _ _ a)⟩
end
end
section
theorem iR {x:Str} {r:List Str} (h:iJ (x :: r)=true):x∉r∧iJ r=true:=by
 unfold iJ at h;rw[aR,dM,List.contains_eq_mem,gF] at h;exact h
set_option tactic.hygienic true in
theorem lookup_mem {α : Type}:∀ {l:List (Str × α)} {x:Str} {a:α},l.lookup x=some a→x∈l.map (·.1)
 | [],_,_,h=>by cases h
 | (y,b) :: r,x,a,h=>by
  rw[aH] at h;split at h
  ·rename_i q
   rw[eq_of_beq q];exact .head _
  ·exact .tail _ (lookup_mem h)
noncomputable def fC (n:Nat):List (Str × d9)→List (Str × Addr)
 | []=>[]
 | (x,.cell) :: r=>(x,n) :: fC (n+1) r
 | _ :: r=>fC n r
theorem nU:∀ (names:List (Str × d9)) (n:Nat) (acc:List (Str × Addr)),tQ n names acc=(fC n names).reverse++acc
 | [],n,acc=>rfl
 | (x,k) :: r,n,acc=>by
  dsimp only [tQ];cases k with
  | cell =>
   rw[aA (by decide),nU r (n+1)];show _=((x,n) :: fC (n+1) r).reverse++acc;simp
  | _=>rw[aS (by decide),nU r n];rfl
theorem qv:∀ {names:List (Str × d9)} {n:Nat} {x:Str},x∈(fC n names).map (·.1)→x∈names.map (·.1)
 | [],_,_,h=>by cases h
 | (y,k) :: r,n,x,h=>by
  cases k with
  | cell =>
   rcases av.mp h with h | h
   ·rw[h];exact .head _
   ·exact .tail _ (qv h)
  | _=>exact .tail _ (qv (names:=r) (n:=n) h)
theorem nT:∀ {names:List (Str × d9)} {n:Nat},iJ (names.map (·.1))=true→((fC n names).map (·.1)).Nodup
 | [],_,_=>mw
 | (y,k) :: r,n,h=>by
  have:=iR (x:=y) (r:=r.map fun (z:Str × d9)=>z.1) h;cases k with
  | cell =>
   exact bF.mpr ⟨fun q=>this.1 (qv q),nT this.2⟩
  | _=>exact nT (names:=r) this.2
theorem Cc {α : Type}:∀ {l:List α},l.Nodup→l.reverse.Nodup
 | [],_=>mw
 | a :: l,h=>by
  rw[bF] at h;rw[RH,mq];exact ⟨Cc h.2,by simp,fun x hx y hy e=>by rw[bA] at hy;subst hy;subst e;exact h.1 (rD.mp hx)⟩
theorem zV {α : Type} {l:List (Str × α)} (nd:(l.map (·.1)).Nodup) {x:Str} {a:α} (h:(x,a)∈l):l.reverse.lookup x=some a:=by
 refine m6 ?_ (rD.mpr h);rw[gQ];exact Cc nd
where
 m6:∀ {l:List (Str × α)} {x:Str} {a:α},(l.map (·.1)).Nodup→(x,a)∈l→l.lookup x=some a
  | [],_,_,_,h=>by cases h
  | (y,b) :: r,x,a,nd,h=>by
   rw[aH];rw[cZ,bF] at nd;refine bJ (av.mp h) (fun h=>?_) fun h=>?_
   ·cases h;simp
   ·have:x≠y:=fun q=>nd.1 (by rw[← q];exact bP (f:=(·.1)) h)
    rw[aJ.mpr this];exact m6 nd.2 h
theorem mD:∀ (names:List (Str × d9)) (binds:List (Str × V)) (aP:List Ob) (n:Nat),(fH names binds aP).2=aP++(fC n names).map fun p=>.cell (binds.lookup p.1)
 | [],_,_,_=>by simp [fH,fC]
 | (x,k) :: r,binds,aP,n=>by
  cases k with
  | cell =>
   dsimp only [fH];rw[mD r binds _ (n+1)];show _=aP++((x,n) :: fC (n+1) r).map _;simp
  | «local»=>unfold fH;rw[mD r binds _ n];rfl
  | _=>unfold fH;rw[mD r binds _ n];rfl
noncomputable def aaY (names:List (Str × d9)) (binds:List (Str × V)) (ln:Nat) (cs:List (Str × Addr)) (n:Nat) (x:Str):Sl→Prop
 | .val v=>names.lookup x=some .local∧binds.lookup x=some v
 | .unset=>names.lookup x=some .local
 | .cell j=>names.lookup x=some .cell∧∃ k,j=ln+k∧cs[k]?=some (x,n+k)
theorem uE:∀ {names:List (Str × d9)} {binds:List (Str × V)} {aP:List Ob} {n:Nat} {x:Str} {sl:Sl},iJ (names.map (·.1))=true→(fH names binds aP).1.lookup x=some sl →
  aaY names binds aP.length (fC n names) n x sl
 | [],_,_,_,_,_,_,h=>by cases h
 | (y,kd) :: r,binds,aP,n,x,sl,nd,h=>by
  refine cz (iR (x:=y) (r:=r.map fun (z:Str × d9)=>z.1) nd) fun h1 h2=>?_;have skip:(∃ a,r.lookup x=some a)→((y,kd) :: r).lookup x=r.lookup x:=fun aiM=>eU aiM fun a e=>by
   rw[aH];have:x≠y:=fun q=>h1 (q ▸ lookup_mem e);rw[aJ.mpr this]
  have rest:∀ (n':Nat) (Z1:List Ob),(fH r binds Z1).1.lookup x=some sl→aaY ((y,kd) :: r) binds Z1.length (fC n' r) n' x sl:=fun n' Z1 e=>by
   have:=uE (n:=n') h2 e;cases sl with
   | val v=>exact ⟨(skip ⟨_,this.1⟩).trans this.1,this.2⟩
   | unset=>exact (skip ⟨_,this⟩).trans this
   | cell j=>exact ⟨(skip ⟨_,this.1⟩).trans this.1,this.2⟩
  cases kd with
  | cell =>
   dsimp only [fH] at h;simp only [aH] at h;by_cases q:x=y
   ·subst q
    simp only [cY,cB] at h;rw[← h];refine ⟨by rw[aH];simp,0,rfl,?_⟩;rfl
   ·rw[aJ.mpr q] at h
    have:=rest (n+1) _ h;cases sl with
    | val v=>exact this
    | unset=>exact this
    | cell j =>
     refine cz this fun a aka=>?_;refine bU aka fun k e q=>?_;refine ⟨a,k+1,by rw[e];simp;exact dY aP.length k,?_⟩;show ((y,n) :: fC (n+1) r)[k+1]?=_;rw[rB,q];congr 2;exact dY n k
  | «local» =>
   dsimp only [fH] at h;simp only [aH] at h;by_cases q:x=y
   ·subst q
    simp only [cY,cB] at h;rw[← h];refine oC (binds.lookup x) (fun e=>?_) fun v e=>?_
    ·show Ls x _=_;rw[aH];simp
    ·exact ⟨by rw[aH];simp,e⟩
   ·rw[aJ.mpr q] at h
    exact rest n aP h
  | _=>exact rest n aP (by unfold fH at h;exact h)
section
variable {b:Heap} {fz:Led} {μ : List Addr}
inductive pQ (b:Heap) (fz:Led) (μ : List Addr):List (Str × V)→List (Str × ah)→Prop
 | nil:pQ b fz μ [] []
 | cons {x:Str} {u:V} {v:ah} {us:List (Str × V)} {vs:List (Str × ah)}:VR b fz μ u v→pQ b fz μ us vs→pQ b fz μ ((x,u) :: us) ((x,v) :: vs)
theorem pQ.lookup {us:List (Str × V)} {vs:List (Str × ah)} (h:pQ b fz μ us vs) (x:Str):aaZ b fz μ (us.lookup x) (vs.lookup x):=by
 induction h with
 | nil=>trivial
 | @cons y u v us vs a r ih =>
  rw[aH,aH];split
  ·exact a
  ·exact ih
theorem pQ.append {us v9:List (Str × V)} {vs Jv:List (Str × ah)} (h:pQ b fz μ us vs) (h':pQ b fz μ v9 Jv):pQ b fz μ (us++v9) (vs++Jv):=by
 induction h with
 | nil=>exact h'
 | cons a r ih=>exact .cons a ih
theorem pQ.zip:∀ {xs:List Str} {us:List V} {vs:List ah},eW b fz μ us vs→pQ b fz μ (xs.zip us) (xs.zip vs)
 | [],_,_,_=>.nil
 | x :: xs,[],_,h=>by cases h;exact .nil
 | x :: xs,u :: us,_,h=>by cases h with | cons a r=>exact .cons a (pQ.zip r)
theorem yO {kd:Str→Option d9}:∀ {vs:List (Str × ah)} {m:Str→Option ah} {x:Str},(vs.map (·.1)).Nodup→kd x=some .local→bindL kd vs m x=(match vs.lookup x with | some v=>some v | none=>m x)
 | [],m,x,_,_=>rfl
 | (y,v) :: r,m,x,nd,hk=>by
  rw[cZ,bF] at nd;dsimp only [bindL];rw[yO nd.2 hk,aH];by_cases e:x=y
  ·subst e
   have:r.lookup x=none:=by
    refine oC (r.lookup x) (fun q=>?_) fun a q=>?_
    ·rfl
    ·exact absurd (lookup_mem q) nd.1
   simp [this,hk]
  ·rw[aJ.mpr e]
   refine oC (r.lookup x) (fun q=>?_) fun a q=>?_
   ·simp only;split<;>simp [e]
   ·rfl
theorem yN {kd:Str→Option d9}:∀ {vs:List (Str × ah)} {m:Str→Option ah} {x:Str},(vs.map (·.1)).Nodup→kd x≠some .local→bindC kd vs m x=(match vs.lookup x with | some v=>some v | none=>m x)
 | [],m,x,_,_=>rfl
 | (y,v) :: r,m,x,nd,hk=>by
  rw[cZ,bF] at nd;dsimp only [bindC];rw[yN nd.2 hk,aH];by_cases e:x=y
  ·subst e
   have:r.lookup x=none:=by
    refine oC (r.lookup x) (fun q=>?_) fun a q=>?_
    ·rfl
    ·exact absurd (lookup_mem q) nd.1
   simp [this,hk]
  ·rw[aJ.mpr e]
   refine oC (r.lookup x) (fun q=>?_) fun a q=>?_
   ·simp only;split<;>simp [e]
   ·rfl
theorem xg {cm:Str→Option ah}:∀ {cs:List (Str × Addr)} {cells:Led},CellsAre cm cs cells→∀ {k:Nat} {x:Str} {a:Addr},cs[k]?=some (x,a)→∃ o,cells[k]?=some (a,o)∧o.data = .cell (cm x):=by
 intro cs cells hc;induction hc with
 | nil=>exact fun e=>nomatch e
 | cons h r ih =>
  intro k x a e;cases k with
  | zero =>
   have e:=aC e;exact ⟨_,aK (fun z=>some (z,_)) (aK WU e),by have e1:=aK uq e;dsimp only at e1;rw[← e1];exact h⟩
  | succ k=>exact ih e
theorem tP {cm:Str→Option ah}  {cs:List (Str × Addr)} {cells:Led} (h:CellsAre cm cs cells):bh cells=cs.map (·.2):=by
 induction h with
 | nil=>rfl
 | cons _ _ ih=>exact aK (_ :: ·) ih
end
end
theorem pV:∀ {names:List (Str × d9)} {n:Nat} {p:Str × Addr},p∈fC n names→n≤p.2
 | [],_,_,h=>by cases h
 | (y,k) :: r,n,p,h=>by
  cases k with
  | cell =>
   rcases av.mp h with rfl | h
   ·exact aB _
   ·exact bk (pV h)
  | _=>exact pV (names:=r) h
theorem qw:∀ {names:List (Str × d9)} {n:Nat},((fC n names).map (·.2)).Nodup
 | [],_=>mw
 | (y,k) :: r,n=>by
  cases k with
  | cell =>
   show (n :: (fC (n+1) r).map (·.2)).Nodup;refine bF.mpr ⟨fun q=>?_,qw⟩;refine bU (aX.mp q) fun p hp e=>?_;have:n+1≤p.2:=pV hp;exact IE this (zA e)
  | _=>exact qw (names:=r)
set_option tactic.hygienic true in
noncomputable def Cx.callee (c:Cx) (A':fP) (hA:Alike c.A A') (env':Env) (L':Addr) (g':Heap) (h1:env'.frame=some L') (h2:env'.scope.kind = .function) (h3:env'.globals=cy) (h4:uW env'.builtins env'.scope env'.code) (sf:1≤c.fu):Cx where
 w:=c.w
 mg:=c.mg
 mb:=c.mb
 A:=A'.deeper env'
 A₀:=A'
 env:=env'
 l8:=env'
 outer:=c.l8 :: c.outer
 base:=c.base
 g:=g'
 L:=L'
 os:=c.os
 p8:=none
 gn:=c.gn
 XB:=c.XB
 TB:=c.TB
 hA:=Hp (hA.frames.trans c.hA)
 hf:=h1
 TF:=h2
 hk:=h2
 yk:=h3
 Ma:=h4.1
 BO:=h4.2
 yj:=h1
 fu:=c.fu - 1
 Hl:=by
  have:=c.Hl;have:=hA.depth;show A'.depth+1+4*(c.fu - 1)≤900
  (rename_i nV;exact (xV (.g au (.a aT (.n 3)) (.h 4 (.a aE jr) bX (.g (.a aT (.m 4 bX)) (.n 900) .e))) (.a (.s au) (.m 4 aE)) (.n 900) zC this (zB sf) nV))
 NI:=by
  have:=c.NI;have:=hA.units;show A'.units+3+8*(c.fu - 1)≤9000
  (rename_i nV;exact (xV (.g au (.a aT (.n 5)) (.h 8 (.a aE jr) bX (.g (.a aT (.m 8 bX)) (.n 9000) .e))) (.a (.a au (.n 3)) (.m 8 aE)) (.n 9000) zC this (zB sf) nV))
section
noncomputable def lP (fd:kP) (L a:Addr):Env:=newEnv fd.scope L fd.globals (tQ (L+1) fd.scope.names []) (fd.qualname++".<locals>.") (some a) fd.code none fd.builtins
theorem Rl.enter (R:Rl c σ aD tv hid s g m mo fz) (hA:Alike c.A A') (sf:1≤c.fu) {bv:List (Str × ah)} {cD : aG}
  (hg:fd.globals=cy) (hb:uW fd.builtins fd.scope fd.code) (hk:fd.scope.kind = .function) (nd:iJ (fd.scope.names.map (·.1))=true) (hbd:pQ c.base fz (bh mo) binds bv) (nb:(bv.map (·.1)).Nodup)
  (x:InCallC s s.heap.objs.size (bindL (lP fd s.heap.objs.size a).kindOf bv fun _=>none) (tQ (s.heap.objs.size+1) fd.scope.names []) (bindC (lP fd s.heap.objs.size a).kindOf bv fun _=>none) cD) :
  Rel (c.callee A' hA (lP fd s.heap.objs.size a) s.heap.objs.size (cT s.heap ((mo++(fz++hid)).map (·.1))) rfl hk hg hb sf)
   ⟨(fH fd.scope.names binds σ.aP).1,(fH fd.scope.names binds σ.aP).2,σ.dw⟩ aD tv hid cD:=by
 refine En (groundX (R:=fun _ _=>True) R.gh.B R.core.F R.core.N (hA.frames.trans c.hA) c.hf c.TF) fun FG BG st _=>?_;refine jU x.done fun IA tk akb _=>?_;obtain rfl:=akb;have xw:=x.toInCall.keep;have ndn:=nT (n:=s.heap.objs.size+1) nd;have lk:∀ {n:Str} {ca:Addr},(n,ca)∈fC (s.heap.objs.size+1) fd.scope.names→(tQ (s.heap.objs.size+1) fd.scope.names []).lookup n=some ca:=fun {n ca} hm=>by
  rw[nU,cg];exact zV ndn hm
 refine bU (Cl.news (h₀:=s.heap) (L:=s.heap.objs.size) (aB _) (cs:=fC (s.heap.objs.size+1) fd.scope.names) fun n ca hm=>⟨x.cell n ca (lk hm),di (dJ _) (pV hm)⟩) fun cells NC CA=>?_;have Dw:=tP CA;have hlen:cells.length=(fC (s.heap.objs.size+1) fd.scope.names).length:=by
  have:=aK aN Dw;simpa [bh] using this
 have old:∀ p∈mo++(fz++hid),IA.get? p.1=some p.2∧p.1≠s.heap.objs.size∧(cT s.heap ((mo++(fz++hid)).map (·.1))).get? p.1=none:=fun p hp =>
  ⟨xw _ _ (R.core.N p hp).1,fU (gc (R.core.N p hp).1),hideAll_none _ (bP hp)⟩
 have new:∀ p∈cells,IA.get? p.1=some p.2∧p.1≠s.heap.objs.size∧(cT s.heap ((mo++(fz++hid)).map (·.1))).get? p.1=none:=fun p hp=>by
  refine ⟨(NC p hp).1,(NC p hp).2.1,?_⟩;cases q:(cT s.heap ((mo++(fz++hid)).map (·.1))).get? p.1 with
  | none=>rfl
  | some o=>have:=of_hideAll _ q;rw[(NC p hp).2.2] at this;cases this
 have apart:∀ p∈mo++(fz++hid),∀ r∈cells,p.1≠r.1:=fun p hp r hr e=>by
  have h1:=(R.core.N p hp).1;rw[e,(NC r hr).2.2] at h1;cases h1
 have G:pe fz fz (bh mo) (bh (mo++cells)):=⟨fun _ h=>h,fun k a h=>by unfold bh at *;rw[aV,cW (az.mp h).1];exact h⟩;have at2:∀ {k:Nat} {y:Str} {ca:Addr},(fC (s.heap.objs.size+1) fd.scope.names)[k]?=some (y,ca)→(bh (mo++cells))[σ.aP.length+k]?=some ca:=fun {k y ca} e=>by
  unfold bh;rw[aV,bw (by rw[aM,R.aP.len];exact b7 σ.aP.length k),aM,R.aP.len,b6];show (bh cells)[k]?=_;rw[Dw,bM,e];rfl
 refine ⟨_,_,mo++cells,fz,⟨Ei,BG,fun b hb=>?_⟩,⟨⟨x.toInCall.ns,fun b o e=>xw b o (of_hideAll _ e),cU (RT _ _)⟩,fun p hp=>?_,?_,fun p hp r hr=>?_,R.core.dh,R.core.nh⟩,fun z7 e=>(by cases e),fun y sl e=>?_,⟨?_,fun k ob p h1 h2=>?_⟩,R.aD.mono G,R.gens,R.os,fun h=>?_,fun h=>(R.dw.2 h).mono hA.handled fun _ hp=>.inl hp⟩
 ·change b∈c.Et at hb
  rw[yY] at hb;rcases av.mp hb with rfl | hb
  ·refine Ep FG.ns fun o es ep ho hd _=>?_
   exact ⟨o,es,ep,ho,hd⟩
  ·refine AN (R.gh.D b hb) fun o es n ho hd=>?_
   exact ⟨o,es,n,st b o ho,hd⟩
 ·refine bJ (aj.mp hp) (fun q=>?_) fun q=>?_
  ·rcases aj.mp q with q | q
   ·exact old p (af _ q)
   ·exact new p q
  ·exact old p (aa _ q)
 ·unfold bh
  rw[aV,mq];refine ⟨R.core.nd,?_,fun a ha b hb e=>?_⟩
  ·show (bh cells).Nodup
   rw[Dw];exact qw
  ·refine bU (aX.mp ha) fun p hp akc=>?_
   obtain rfl:=akc;refine bU (aX.mp hb) fun r hr ad1=>?_;obtain rfl:=ad1;exact apart p (af _ hp) r hr e
 ·refine bJ (aj.mp hp) (fun q=>?_) fun q=>?_
  ·exact R.core.dj p q r hr
  ·exact (apart r (aa _ hr) p q).symm
 ·have H:=uE (n:=s.heap.objs.size+1) nd e
  cases sl with
  | unset=>exact H
  | val v =>
   refine cz H fun h1 h2=>?_;have h3:=hbd.lookup y;rw[h2] at h3;refine oC (bv.lookup y) (fun q=>?_) fun val q=>?_
   ·rw[q] at h3;exact h3.elim
   ·rw[q] at h3
    refine ⟨h1,val,h3.mono G,.inl ⟨rfl,?_⟩⟩;rw[yO nb h1,q]
  | cell j =>
   refine cz H fun h1 ad2=>?_;refine bU ad2 fun k ad3 h2=>?_;rw[ad3];exact ⟨.inl h1,_,lk (bf h2),at2 h2⟩
 ·rw[mD _ _ _ (s.heap.objs.size+1),aO,aO,aM,hlen,R.aP.len]
 ·rw[mD _ _ _ (s.heap.objs.size+1)] at h1
  rcases JH k σ.aP.length with hk | hk
  ·rw[cW hk] at h1
   rw[cW (by rw[R.aP.len];exact hk)] at h2;exact (R.aP.at_ k ob p h1 h2).mono G
  ·rw[bw hk] at h1
   rw[bw (by rw[R.aP.len];exact hk),R.aP.len] at h2;rw[bM] at h1;refine oC ((fC (s.heap.objs.size+1) fd.scope.names)[k - σ.aP.length]?) (fun q=>?_) fun r q=>?_
   ·rw[q] at h1;cases h1
   ·obtain ⟨y,ca⟩:=r
    rw[q] at h1;cases h1;refine bU (xg CA q) fun o ho hd=>?_;rw[ho] at h2;cases h2;refine ⟨_,hd,?_⟩;have hy:(lP fd s.heap.objs.size a).kindOf y≠some .local:=by
     have hm:=bf q;have hc:∀ {names:List (Str × d9)} {n:Nat},iJ (names.map (·.1))=true→(y,ca)∈fC n names→names.lookup y=some .cell:=by
      intro names;induction names with
      | nil=>intro n _ h;cases h
      | cons z r ih =>
       intro n nd h;obtain ⟨z,kd⟩:=z;refine cz (iR (x:=z) (r:=r.map fun (z:Str × d9)=>z.1) nd) fun n1 n2=>?_;have skip:∀ n',(y,ca)∈fC n' r→((z,kd) :: r).lookup y=some .cell:=fun n' hr=>by
        have e:=ih n2 hr;rw[aH];have:y≠z:=fun q=>n1 (q ▸ lookup_mem e);rw[aJ.mpr this];exact e
       cases kd with
       | cell =>
        rcases av.mp h with h | h
        ·cases h;rw[aH];simp
        ·exact skip _ h
       | _=>exact skip n h
     show fd.scope.names.lookup y≠_;rw[hc nd hm];simp
    rw[yN nb hy];have h3:=hbd.lookup y;cases q1:binds.lookup y<;>cases q2:bv.lookup y<;>rw[q1,q2] at h3<;>first | exact h3.elim | trivial | exact VR.mono G h3
 ·show A'.handled=none
  rw[hA.handled];exact R.dw.1 h
end
section
theorem Rl.back (R:Rl c σ aD tv hid s g m mo fz) {g':Heap} {L':Addr} {m':Str→Option ah} {ri gM rH:Led}
  (hA:A'.frames=c.A.frames) (T':KtsTurn c.Et (cT s.heap ((mo++(fz++hid)).map (·.1))) g') (C':Core g' L' m' ri gM rH h') :
  ∃ Xo,Gh c Xo∧Core Xo c.L m ri gM rH h':=by
 refine En (groundX (R:=fun _ _=>True) R.gh.B R.core.F R.core.N (hA.trans c.hA) c.hf c.TF) fun FG BG st _=>?_;refine Hi FG.ns fun oL es ep hLg hLd hLk hLf=>?_;refine eU (T'.up hLg) fun sl hs=>?_;have acX : g.get? c.L=none:=kts_self R.core.F;obtain ⟨ve,WZ⟩:=kts_turn_at (h:=h') (fs:=c.fs) (g:=g) (fun b hb=>by
   refine cz (R.gh.B.frames.mem hb) fun _ ad4=>?_;refine bU ad4 fun o ho _=>?_;exact ⟨o,ho⟩)
  (fun b o e ah8=>C'.F.keep b o (T'.other b o (st b o e) (fun q=>by
   rw[yY] at q;refine bJ (av.mp q) (fun z=>?_) fun z=>?_
   ·rw[z,acX] at e;cases e
   ·exact ah8 z)))
  (fun b o e hm=>by
   refine eU (T'.up (st b o e)) fun Sd RX=>?_;exact ⟨Sd,C'.F.keep _ _ RX⟩)
 refine ⟨_,⟨R.gh.turn.trans ve,⟨R.gh.B.stack,fun b o e=>ve.other b o (R.gh.B.stays b o e) (fun hm=>?_),R.gh.B.frames.of_keeps fun b o e _=>?_⟩,R.gh.D.turn ve⟩,
  ⟨⟨(Y2 _ es ⟨ep,C'.F.keep _ _ hs,hLd,hLk,hLf⟩),WZ,by rw[ve.size];exact R.core.F.above⟩,fun p hp=>⟨(C'.N p hp).1,fun q=>?_,ve.none_ _ ?_⟩,C'.nd,C'.dj,C'.dh,C'.nh⟩⟩
 ·have:=(R.gh.B.frames.mem hm).1
  rw[this] at e;cases e
 ·refine eU (ve.up e) fun sl hs=>?_
  exact ⟨_,hs,rfl⟩
 ·have:=(C'.N p hp).2.2
  rw[q,hs] at this;cases this
 ·refine oC (g.get? p.1) (fun q=>?_) fun o q=>?_
  ·rfl
  ·refine eU (T'.up (st _ _ q)) fun Sd RX=>?_
   have:=(C'.N p hp).2.2;rw[RX] at this;cases this
theorem Core.UL (n:Nat) (C:Core g L m mo fz hid h):Core g L m (mo.take n) (mo.drop n++fz) hid h:=by
 have e:mo.take n++((mo.drop n++fz)++hid)=mo++(fz++hid):=by
  rw[dN,← dN (mo.take n),fZ]
 have dw:(bh (mo.take n)++bh (mo.drop n)).Nodup:=by
  unfold bh;rw[← aV,fZ];exact C.nd
 rw[mq] at dw;refine ⟨C.F,by rw[e];exact C.N,dw.1,fun p hp r hr=>?_,fun p hp r hr=>?_,C.nh⟩
 ·rcases aj.mp hr with q | q
  ·refine bJ (aj.mp q) (fun q=>?_) fun q=>?_
   ·exact dw.2.2 p.1 (bP hp) r.1 (bP q)
   ·exact C.dj p (j7 hp) r (af _ q)
  ·exact C.dj p (j7 hp) r (aa _ q)
 ·rcases aj.mp hp with q | q
  ·exact C.dj p (ug q) r (aa _ hr)
  ·exact C.dh p q r hr
theorem zY {n:Nat}:∀ {us vs:List V},Ku n us=true→Ku n vs=true→Ku n (us++vs)=true
 | [],_,_,h=>h
 | u :: us,vs,h,h'=>by
  rw[Ku,aR] at h;show Ku n (u :: (us++vs))=true;rw[Ku,h.1,zY h.2 h'];rfl
theorem Rl.N9 (R:Rl c σ aD tv hid s g m mo fz):(bh mo).length=σ.aP.length:=by unfold bh;rw[aM,R.aP.len]
set_option tactic.hygienic true in
theorem Rl.leave (R:Rl c σ aD tv hid s g m mo fz) (hl:us.length=vs.length) (hv:eW c.base fz (bh mo) us vs)
  (hp:∀ gM kM,eW c.base gM kM us vs→(∀ (j:Nat) a,(bh mo)[j]?=some a→kM[j]?=some a)∧nQ c m gM hid kM σ.loc)
  (hA:Alike c.A A') {env':Env} {L':Addr} {h1:env'.frame=some L'} {h2:env'.scope.kind = .function} {h3:env'.globals=cy} {h4:uW env'.builtins env'.scope env'.code} {sf:1≤c.fu}
  {σ':St} {u:V} {v:ah} {s':aG} (R':Rel (c.callee A' hA env' L' (cT s.heap ((mo++(fz++hid)).map (·.1))) h1 h2 h3 h4 sf) σ' (u :: (us++aD)) (v :: (vs++tv)) hid s') :
  iZ c (i7 σ σ' u) aD tv hid v s':=by
 refine iM R' fun g' m' ri gM R'=>?_;refine bU (R.back (A':=A') hA.frames R'.gh.turn R'.core) fun Xo G C=>?_;cases R'.aD with | cons hu hr =>
 refine cz (eW.split hl hr) fun hus XN=>?_;have hn:(bh mo).length=σ.aP.length:=R.N9;have kL:Ku σ.aP.length (us++aD)=true:=by
  rw[← hn];exact zY hv.B9 R.aD.B9
 have keep:Rel c ⟨σ.loc,σ'.aP,σ.dw⟩ (u :: aD) (v :: tv) hid s':=
  (Y2 Xo m (Y2 ri gM ⟨G,C,R.p8,(hp _ _ hus).2,R'.aP,.cons hu XN,R'.gens,R'.os,R.dw⟩))
 have drop:∀ {w:V},gG σ.aP.length σ'.aP=true→VR c.base (ri.drop σ.aP.length++gM) (bh (ri.take σ.aP.length)) w v →
   Rel c ⟨σ.loc,σ'.aP.take σ.aP.length,σ.dw⟩ (w :: aD) (v :: tv) hid s':=fun {w} FZ hw=>by
  have Gz:∀ μ,pe gM (ri.drop σ.aP.length++gM) μ μ:=fun μ=>⟨fun _ h=>aa _ h,fun _ _ h=>h⟩;have ym:=eW.low hr kL;rw[← wj] at ym;refine cz (eW.split hl (ym.mono (Gz _))) fun a b=>?_;have st:=R'.aP.low FZ;refine (Y2 Xo m (Y2 _ _ ⟨G,C.UL σ.aP.length,R.p8,(hp _ _ a).2,⟨st.len,fun k ob p h1 h2=>(st.at_ k ob p h1 h2).mono (Gz _)⟩,.cons hw b,R'.gens,R'.os,R.dw⟩))
 unfold i7;split
 ·rename_i FZ
  split
  ·rename_i hv
   refine (Y2 u _ ⟨rfl,drop FZ ?_⟩);have:=hu.low hv;rw[← wj] at this;exact this.mono ⟨fun _ h=>aa _ h,fun _ _ h=>h⟩
  ·split
   ·rename_i p hf
    exact (Y2 (.p p) _ ⟨rfl,drop FZ (.p (Tf R'.aP 2 hu hf))⟩)
   ·exact (Y2 u _ ⟨rfl,keep⟩)
 ·exact (Y2 u _ ⟨rfl,keep⟩)
end
section
section
variable {b:Heap} {fz:Led} {μ : List Addr}
theorem pQ.lookup_none {us:List (Str × V)} {vs:List (Str × ah)} (h:pQ b fz μ us vs) (x:Str):(vs.lookup x).isNone=(us.lookup x).isNone:=by
 have:=h.lookup x;cases q1:us.lookup x<;>cases q2:vs.lookup x<;>rw[q1,q2] at this<;>first | rfl | exact this.elim
theorem OH {normal:List Str} {f:Str × ah→List (Str × ah) × List (Str × ah)→Sem (xG (List (Str × ah) × List (Str × ah)))}
  (hf:∀ k v sl ex,normal.contains k=true→(sl.lookup k).isNone=true→f (k,v) (sl,ex)=pure (.yield (sl++[(k,v)],ex)))
  {ku:List (Str × V)} {kv:List (Str × ah)} {sl:List (Str × V)} {sv:List (Str × ah)} {Sd:List (Str × V)} (hk:pQ b fz μ ku kv) (h:pQ b fz μ sl sv) (e:pU normal sl ku=some Sd) :
   ∃ GO,pQ b fz μ Sd GO∧forIn kv (sv,([]:List (Str × ah))) f=pure (GO,[]):=by
 induction hk generalizing sl sv with
 | nil=>exact ⟨sv,aC e ▸ h,rfl⟩
 | cons a r ih =>
  refine cz (ji e) fun hc e=>?_;have hc:=bQ.mp hc;refine bU (ih (h.append (.cons a .nil)) e) fun GO h' e'=>⟨GO,h',?_⟩;rw[jC,hf _ _ sv [] hc.1 (by rw[h.lookup_none];exact hc.2)];exact e'
theorem G4 {M:u7} {A:fP} {E:ah→aG→Prop} {s:aG} {normal:List Str} {f:Str × ah→List (Str × ah) × List (Str × ah)→Sem (xG (List (Str × ah) × List (Str × ah)))}
  (hf:∀ k v sl ex,normal.contains k=true→(sl.lookup k).isNone=true→f (k,v) (sl,ex)=pure (.yield (sl++[(k,v)],ex)))
  {ku:List (Str × V)} {kv:List (Str × ah)} {sl:List (Str × V)} {sv:List (Str × ah)} {Sd:List (Str × V)} (h1:pQ b fz μ ku kv) (h2:pQ b fz μ sl sv) (h3:pU normal sl ku=some Sd)
  {Q:List (Str × ah) × List (Str × ah)→aG→Prop} (h:∀ GO,pQ b fz μ Sd GO→Q (GO,[]) s):aF M A (forIn kv (sv,([]:List (Str × ah))) f) Q E s:=by
 refine bU (OH hf h1 h2 h3) fun GO h4 e=>?_;rw[e];exact wpAny_pure (h GO h4)
theorem Ic {f:Str × ah→List (Str × ah)→Sem (xG (List (Str × ah)))}
  (hf:∀ k v sl,f (k,v) sl=if (sl.lookup k).isNone=true then pure (.yield (sl++[(k,v)])) else pure (.yield sl))
  {du:List (Str × V)} {dv:List (Str × ah)} {sl:List (Str × V)} {sv:List (Str × ah)} (hd:pQ b fz μ du dv) (h:pQ b fz μ sl sv) :
   ∃ GO,pQ b fz μ (nY sl du) GO∧forIn dv sv f=pure GO:=by
 induction hd generalizing sl sv with
 | nil=>exact ⟨sv,h,rfl⟩
 | cons a r ih =>
  rw[jC,hf,h.lookup_none];unfold nY;split
  ·exact ih (h.append (.cons a .nil))
  ·exact ih h
theorem Bc {M:u7} {A:fP} {E:ah→aG→Prop} {s:aG} {f:Str × ah→List (Str × ah)→Sem (xG (List (Str × ah)))}
  (hf:∀ k v sl,f (k,v) sl=if (sl.lookup k).isNone=true then pure (.yield (sl++[(k,v)])) else pure (.yield sl))
  {du:List (Str × V)} {dv:List (Str × ah)} {sl:List (Str × V)} {sv:List (Str × ah)} (h1:pQ b fz μ du dv) (h2:pQ b fz μ sl sv)
  {Q:List (Str × ah)→aG→Prop} (h:∀ GO,pQ b fz μ (nY sl du) GO→Q GO s):aF M A (forIn dv sv f) Q E s:=by
 refine bU (Ic hf h1 h2) fun GO h4 e=>?_;rw[e];exact wpAny_pure (h GO h4)
theorem pQ.pick {us:List (Str × V)} {vs:List (Str × ah)} (h:pQ b fz μ us vs):∀ (xs:List Str),pQ b fz μ (xs.filterMap fun n=>(us.lookup n).map (n,·)) (xs.filterMap fun n=>(vs.lookup n).map (n,·))
 | []=>.nil
 | x :: xs=>by
  rw[gD,gD];have:=h.lookup x;cases q1:us.lookup x<;>cases q2:vs.lookup x<;>rw[q1,q2] at this
  ·exact h.pick xs
  ·exact this.elim
  ·exact this.elim
  ·exact .cons this (h.pick xs)
theorem qK {vs:List (Str × ah)}:∀ {xs:List Str} {y:Str},y∈(xs.filterMap fun n=>(vs.lookup n).map (n,·)).map (·.1)→y∈xs
 | [],_,h=>by cases h
 | x :: xs,y,h=>by
  rw[gD] at h;refine oC (vs.lookup x) (fun q=>?_) fun v q=>?_
  ·rw[q] at h;exact .tail _ (qK h)
  ·rw[q] at h
   rcases av.mp h with h | h
   ·rw[h];exact .head _
   ·exact .tail _ (qK h)
theorem uH {vs:List (Str × ah)}:∀ {xs:List Str},iJ xs=true→((xs.filterMap fun n=>(vs.lookup n).map (n,·)).map (·.1)).Nodup
 | [],_=>mw
 | x :: xs,h=>by
  refine cz (iR h) fun h1 h2=>?_;rw[gD];refine oC (vs.lookup x) (fun q=>?_) fun v q=>?_
  ·exact uH h2
  ·exact bF.mpr ⟨fun z=>h1 (qK z),uH h2⟩
theorem jS.toV {us:List P} {vs:List ah} (h:jS b fz us vs):eW b fz μ (us.map V.p) vs:=by
 induction us generalizing vs with
 | nil=>cases h;exact .nil
 | cons u us ih=>cases h with | cons a r=>exact .cons (.p a) (ih r)
theorem Ec {α β : Type} {M:u7} {A:fP} {E:ah→aG→Prop} {s:aG} {i:β} {f:α→β→Sem (xG β)} {Q:β→aG→Prop} (h:Q i s):aF M A (forIn ([]:List α) i f) Q E s:=wpAny_pure h
theorem Az {α : Type} {M:u7} {A:fP} {E:ah→aG→Prop} {s:aG} {p:Prop} [mV p] {m n:Sem α} {Q:α→aG→Prop} (c:¬ p) (h:aF M A n Q E s):aF M A (if p then m else n) Q E s:=by rw[aS c];exact h
theorem EZ {M:u7} {A:fP} {E:ah→aG→Prop} {s:aG} {nm qn po ar kd dd bd sc gl cl df kdf d1 pm an cd ct bu} {us:List V} {vals:List ah} {ku:List (Str × V)} {kv:List (Str × ah)} {Q:List (Str × ah)→aG→Prop} {ps:List P} {slots:List (Str × V)}
  (hd:∀ {R:Option (eF ah)→aG→Prop},(∀ r,jS b fz ps (r.getD #[]).toList→R r s)→aF M A (seqItems? df) R E s) (hu:eW b fz μ us vals) (hk:pQ b fz μ ku kv)
  (hle:us.length≤(po.map eX++ar.map eX).length) (e3:pU (ar.map eX) ((po.map eX++ar.map eX).zip us) ku=some slots)
  (F0:(((po.map eX++ar.map eX).take ((po.map eX++ar.map eX).length - (ps.drop (ps.length - (po.map eX++ar.map eX).length)).length)).filter fun n=>(slots.lookup n).isNone).isEmpty=true)
  (h:∀ sv,pQ b fz μ (nY slots (((po.map eX++ar.map eX).drop ((po.map eX++ar.map eX).length - (ps.drop (ps.length - (po.map eX++ar.map eX).length)).length)).zip ((ps.drop (ps.length - (po.map eX++ar.map eX).length)).map V.p))) sv→Q ((po.map eX++ar.map eX).filterMap fun n=>(sv.lookup n).map (n,·)) s) :
  aF M A (Bm ⟨nm,qn,⟨po,ar,none,[],kd,none,dd⟩,bd,sc,gl,cl,df,kdf,d1,pm,an,cd,ct,bu⟩ ⟨vals,kv⟩) Q E s:=by
 refine wpAny_bind (G4 (normal:=ar.map (·.arg)) (fun k v sl ex h1 h2=>(aA (uX.mpr (.inl h1))).trans (aS fun z=>by rw[ic.mp h2] at z;cases z)) hk (pQ.zip hu) e3 fun sv hsv=>wpAny_bind (hd fun r xQ=>?_));have hn:=xQ.length;rw[← hn] at F0 h;have ym:(ps.drop ((r.getD #[]).toList.length - (po.map eX++ar.map eX).length)).length=((r.getD #[]).toList.drop ((r.getD #[]).toList.length - (po.map eX++ar.map eX).length)).length:=by rw[bT,bT,hn]
 rw[ym] at F0 h;refine Az (fun z=>?_) (Az (fun z=>?_) (wpAny_bind (Bc (fun k v sl=>rfl) (pQ.zip (xQ.drop ((r.getD #[]).toList.length - (po.map eX++ar.map eX).length)).toV) hsv fun sv2 ahD=>wpAny_bind (Ec (Az bR (wpAny_bind (wpAny_pure ?_)))))))
 ·exact Nat.not_le_of_gt (cA (bQ.mp z).1) (hu.length ▸ hle)
 ·exact bR ((aK not ((aK List.isEmpty (List.filter_congr fun x _=>hsv.lookup_none x)).trans F0)).symm.trans z)
 ·refine wpAny_pure ?_
  have h2:=h sv2 ahD;rw[← cg (po.map eX++ar.map eX)] at h2;exact h2
theorem Oz {K:Frag} {M:u7} {A:fP} {E:ah→aG→Prop} {s:aG} {v:ah} {dfl:List ah} {ps:List P} (X:K.In s.heap) (e:VG K v=some dfl) (h:jS b fz ps dfl)
  {R:Option (eF ah)→aG→Prop} (k:∀ r,jS b fz ps (r.getD #[]).toList→R r s):aF M A (seqItems? v) R E s:=by
 cases v with
 | ref a=>exact bU (bind_some e) fun o ho e=>jU (CM e) fun vs n hd el=>rz (X _ _ ho) hd (k _ (el ▸ h))
 | none=>exact wpAny_pure (k _ (aC e ▸ h))
 | _=>exact nomatch e
theorem w9 {K:Frag} {M:u7} {A:fP} {E:ah→aG→Prop} {s:aG} {fd:kP} {us:List V} {vals:List ah} {ku:List (Str × V)} {kv:List (Str × ah)} {binds:List (Str × V)} {Q:List (Str × ah)→aG→Prop}
  (X:K.In s.heap) (hu:eW b fz μ us vals) (hk:pQ b fz μ ku kv) (e:Mine.bindArgs K fd us ku=some binds)
  (h:∀ bv,pQ b fz μ binds bv→(bv.map (·.1)).Nodup→(∀ y∈bv,fd.scope.names.lookup y.1=some .local∨fd.scope.names.lookup y.1=some .cell)→Q bv s):aF M A (Bm fd ⟨vals,kv⟩) Q E s:=by
 cases fd with | mk _ _ pr=>?_
 cases pr with | mk po ar va ko _ kw=>?_
 cases va with | some _=>exact absurd (ji e).1 bR | none=>?_
 cases kw with | some _=>exact absurd (ji e).1 bR | none=>?_
 cases ko with | cons _ _=>exact absurd (ji e).1 bR | nil=>?_
 refine cz (ji e) fun hc e=>bU (aY.mp e) fun dfl e1 e=>bU (aY.mp e) fun ps e2 e=>bU (aY.mp e) fun slots e3 e=>cz (ji e) fun F0 e=>?_;refine cz (bQ.mp hc) fun hc c6=>cz (bQ.mp hc) fun hc c5=>?_;exact EZ (Oz X e1 (jS.DS e2)) hu hk (cA hc) e3 F0 fun sv hsv =>
  h _ (aC e ▸ hsv.pick _) (uH c5) fun y hy =>
   (uX.mp (cG.mp c6 y.1 (qK (bP (f:=(·.1)) hy)))).imp beq_iff_eq.mp beq_iff_eq.mp
end
end
section
theorem pQ.of {b:Heap} {μ : List Addr}:∀ {ku:List (Str × V)} {kv:List ah},ku.length=kv.length→eW b fz μ (ku.map (·.2)) kv→pQ b fz μ ku ((ku.map (·.1)).zip kv)
 | [],[],_,_=>.nil
 | [],_ :: _,h,_=>by cases h
 | _ :: _,[],h,_=>by cases h
 | (x,u) :: ku,v :: kv,h,hv=>by
  cases hv with | cons a r=>exact .cons a (pQ.of (by simpa using h) r)
structure NR (K:Frag) (a:Addr) (fd:kP) (body:List Stmt):Prop where
 at_:∃ oc od ZI,K.lookup a=some ⟨oc,od,.func fd,ZI⟩
 body:fd.body = .stmts body
 clo:fd.closure=[]
 gl:fd.globals=cy
 bl:uW fd.builtins fd.scope fd.code
 code:codeIn K fd.code fd.qualname=true
 co:fd.scope.isCoroutine=false
 gen:fd.scope.isGenerator=false
 kind:fd.scope.kind = .function
 nd:iJ (fd.scope.names.map (·.1))=true
noncomputable abbrev Vp (c:Cx):=NR c.K
theorem BC (h:defAt K a=some (fd,body)):NR K a fd body:=by
 refine bU (bind_some h) fun f hf h=>bU (bind_some hf) fun o ho hf=>bU (bind_some h) fun b hb h=>cz (ji h) fun hc h=>?_;rw[← show f=fd from aK uq (aC h),← show b=body from aK WU (aC h)];have and:=@bQ;have nt:∀ {b:Bool},(!b)=true→b=false:=fun {b} h=>by cases b with | false=>rfl | true=>cases h
 refine cz (and.mp hc) fun hc h9=>cz (and.mp hc) fun hc h8=>cz (and.mp hc) fun hc h7=>cz (and.mp hc) fun hc h6=>cz (and.mp hc) fun hc h5=>cz (and.mp hc) fun hc h4=>cz (and.mp hc) fun hc h3=>cz (and.mp hc) fun h1 h2=>?_;refine ⟨?_,M0 hb,List.isEmpty_iff.mp h1,beq_iff_eq.mp h2,⟨beq_iff_eq.mp h3,fun q=>?_⟩,h4,nt h5,nt h6,beq_iff_eq.mp h7,h8⟩
 ·rcases o with ⟨oc,od,dd,ZI⟩
  exact (Y2 oc od ⟨ZI,(show dd=_ from BH hf) ▸ ho⟩)
 ·exact (uX.mp h9).elim (fun h9=>by rw[ic.mp h9] at q;cases q) beq_iff_eq.mp
theorem yT (h:defAt c.K a=some (fd,body)):Vp c a fd body:=BC h
noncomputable def aiG:Flow→ah
 | .ret v=>v
 | _=>.none
set_option backward.match.sparseCases true in
theorem Bu {vals kv:List ah}
  (HB:∀ c':Cx,Own c'→c'.fu+1=c.fu→c'.w=c.w→kJ ev c') (sf:1≤c.fu) (hA:Alike c.A A') (D:Vp c a fd body) (hb:Mine.bindArgs c.K fd us ku=some binds)
  (yo:ev.B fd.scope body ⟨(fH fd.scope.names binds σ.aP).1,(fH fd.scope.names binds σ.aP).2,σ.dw⟩≠.fail)
  (Ex:us.length=vals.length) (ym:ku.length=kv.length) (R₀ : Rel c σ (us++(ku.map (·.2)++aD)) (vals++(kv++tv)) hid s)
  (k:∀ (f:Flow) (s':aG) (fl:Fl) (σ':St),ev.B fd.scope body ⟨(fH fd.scope.names binds σ.aP).1,(fH fd.scope.names binds σ.aP).2,σ.dw⟩ = .ok fl σ' →
   iZ c (i7 σ σ' (qN fl)) aD tv hid (match f with | .ret v=>v | _=>.none) s'→RR (.ok (.ret (match f with | .ret v=>v | _=>.none))) s')
  (kE:∀ (g:Heap) (m:Str→Option ah) (mo fz:Led) (us:List V) (vs:List ah) (L':Addr) (env':Env) (h1:env'.frame=some L') (h2:env'.scope.kind = .function) (h3:env'.globals=cy) (h4:uW env'.builtins env'.scope env'.code) (e:ah) (s':aG),
   Rl c σ aD tv hid s g m mo fz→us.length=vs.length→eW c.base fz (bh mo) us vs→(∀ gM kM,eW c.base gM kM us vs→(∀ (j:Nat) a,(bh mo)[j]?=some a→kM[j]?=some a)∧nQ c m gM hid kM σ.loc) →
   kH (c.callee A' hA env' L' (cT s.heap ((mo++(fz++hid)).map (·.1))) h1 h2 h3 h4 sf) (ev.B fd.scope body ⟨(fH fd.scope.names binds σ.aP).1,(fH fd.scope.names binds σ.aP).2,σ.dw⟩) (us++aD) (vs++tv) hid e s' →
   aF c.M (A'.deeper env') (leaving env' e) (fun _ Al=>RR (.error e) Al) (fun e' Al=>RR (.error e') Al) s') :
  qk c.M A' (.call (.ref a) ⟨vals,(ku.map (·.1)).zip kv⟩) RR s:=by
 refine iM R₀ fun g m mo fz bN=>?_;refine cz (eW.split Ex bN.aD) fun hu hr=>?_;refine cz (eW.split (by simpa using ym) hr) fun hk ht=>?_;have R:=bN.kj ht;refine X31 D.at_ fun oc od ZI hlk=>?_;have X:c.K.In s.heap:=c.XB.keeps R.jo;have Iv:s.heap.NoLimit:=c.TB.nolimit.keeps R.jo;refine Eo R.pin fun up vp yp F3 Iz=>?_;have Hl:=c.Hl;have hdA:=hA.depth;refine v8 (by unfold k6;exact acv hdA Hl) (X _ _ hlk) rfl D.co D.gen D.body (codeRec_of X D.code) (w9 X hu (pQ.of ym hk) hb fun bv hbv nb TL=>?_);rw[D.clo];refine ry D.kind (fun x hx=>(TL x hx).imp id fun q=>⟨q,cellsFrom_some _ _ _ (.inl q)⟩) fun env' he s' x=>?_;subst he;refine ⟨Iv.keeps x.toInCall.keep,RQ ?_⟩;have R2:=(R.kj (F3.append ht)).enter hA sf D.gl D.bl D.kind D.nd hbv nb x;have O:Own (c.callee A' hA (lP fd s.heap.objs.size a) s.heap.objs.size (cT s.heap ((mo++(fz++hid)).map (·.1))) rfl D.kind D.gl D.bl sf):=⟨rfl,rfl,rfl⟩;have S:=HB (c.callee A' hA (lP fd s.heap.objs.size a) s.heap.objs.size (cT s.heap ((mo++(fz++hid)).map (·.1))) rfl D.kind D.gl D.bl sf) O (by show c.fu - 1+1=c.fu;exact jx sf) rfl body _ yo _ _ _ _ R2;refine wpAny_mono S (fun f i9 aiO=>jU aiO fun fl σ' e RF=>?_) fun e i9 h=>?_
 ·have RF':Rel (c.callee A' hA (lP fd s.heap.objs.size a) s.heap.objs.size (cT s.heap ((mo++(fz++hid)).map (·.1))) rfl D.kind D.gl D.bl sf) σ' (qN fl :: (up++aD)) (aiG f :: (vp++tv)) hid i9:=by
   cases fl<;>cases f<;>first | exact RF.elim | exact RF | exact Rel.push RF fun _ _ _=>.p .none
  exact k f i9 fl σ' e (by cases f<;>exact Rl.leave R yp F3 Iz hA RF')
 ·exact kE g m mo fz up vp _ _ rfl D.kind D.gl D.bl e i9 R yp F3 Iz h
theorem De (h:eS K ev a us ku σ≠.fail):∃ fd body binds,defAt K a=some (fd,body)∧Mine.bindArgs K fd us ku=some binds ∧
  eS K ev a us ku σ=ev.B fd.scope body ⟨(fH fd.scope.names binds σ.aP).1,(fH fd.scope.names binds σ.aP).2,σ.dw⟩:=by
 unfold eS at h ⊢;cases hd:defAt K a with
 | none=>rw[hd] at h;exact absurd rfl h
 | some p =>
  obtain ⟨fd,body⟩:=p;rw[hd] at h;dsimp only at h ⊢;cases hb:Mine.bindArgs K fd us ku with
  | none=>rw[hb] at h;exact absurd rfl h
  | some binds=>exact ⟨fd,body,binds,rfl,hb,rfl⟩
theorem QJ (HB:∀ c':Cx,Own c'→c'.fu+1=c.fu→c'.w=c.w→kJ ev c') (sf:1≤c.fu):gC (step c.K ev) c:=by
 intro a us ku σ A' aD tv hid s vals kv hA hr Ex ym R;have xR:GK c.K ev a us ku σ≠.fail:=hr;show qk _ _ _ (PoC c (GK c.K ev a us ku σ) aD tv hid) s;refine Ep (De (fun q=>xR (by unfold GK;rw[q]))) fun fd body binds hd hb e1=>?_
 ··
   unfold GK at xR ⊢;rw[e1] at xR ⊢;refine Bu HB sf hA (yT hd) hb (fun q=>xR (by rw[q])) Ex ym R (fun f s' fl σ' e h=>?_) fun g m mo fz up vp L' env' h1 h2 h3 h4 e s' _ _ _ _ h=>?_
   ·rw[e]
    exact h
   ·refine AN h fun x σ' _ q _=>?_
    rw[q] at xR;exact absurd rfl xR
end
noncomputable def pn (ev:Ev) (c:Cx):Prop:=∀ (a:Addr) (u:V) (σ:St) (A':fP) (aD:List V) (tv:List ah) (hid:Led) (s:aG) (v:ah),Alike c.A A'→ev.N a u σ≠.fail→Rel c σ (u :: aD) (v :: tv) hid s →
 aF c.M A' (call (.ref a) [v]) (fun v' s'=>∃ w σ',ev.N a u σ = .ok (some w) σ'∧Rel c σ' (w :: aD) (v' :: tv) hid s')
  (fun e s'=>∃ σ' ea o,ev.N a u σ = .ok none σ'∧e = .ref ea∧s'.heap.get? ea=some o∧o.cls = .type "StopIteration"∧Rel c σ' aD tv hid s') s
section
set_option tactic.hygienic true in
theorem SS.raise {np pos:Pos}:SS c (exec (.Raise (some (.Name x np)) none pos) c.env) σ ((fun σ=>if (x==("StopIteration":Str)&&decide (σ.dw = .no)&&c.env.scope.names.lookup x==some .globalImplicit&&nsIn c.K cy x==some none)=true then .exc .stop σ else .fail:Mo Fl) σ):=by
 intro hr aD tv hid s R;simp only at hr ⊢;split at hr
 ·rename_i hc
  rw[aA hc];simp only [aR,beq_iff_eq,dM] at hc;refine cz hc fun ad5 h4=>?_;refine cz ad5 fun ad6 h3=>?_;refine cz ad6 fun ad7 h2=>?_;obtain rfl:=ad7;refine iM R fun g m mo fz R'=>?_;have XF:=c.TB.g.keeps R'.jo;refine owsi_raiseC (R'.dw.1 (cA h2)) ?_ fun h' e hm=>?_
  ·refine gS c.hk h3 (kO (env:=c.env) (v:=.type "StopIteration") (by rw[c.yk];exact XF) (Kx c.XB c.TB.g h4) (by rw[c.Ma];exact c.TB.b.keeps R'.jo) ((c.TB.builtins _ (by decide)).trans ?_) ⟨rfl,rfl⟩) rfl
   decide +kernel
  ·exact (Y2 (.stop) σ ⟨e,rfl,rfl,.inl ⟨s.heap,.of hm.newExc,R'.rel⟩⟩)
 ·exact absurd rfl hr
structure WO (x:Xn) (e T:Addr) (oe oT:Obj) (led:Led) (g:Heap) (L:Addr) (h:Heap):Prop where
 at_:h.get? e=some oe
 cls:oe.cls = .type x.cls
 data:∃ vs,oe.data = .fields vs∧vs.size=6∧vs[1]?=some (.ref T)∧(x.plain=true→vs[2]?=some .none)
 tb:h.get? T=some oT
 Wx:∃ ts,oT.data = .fields ts∧3<ts.size
 ne:T≠e
 off:∀ p∈led,p.1≠e∧p.1≠T
 gr:g.get? e=none∧g.get? T=none
theorem se {x:Xn} {e:Addr} {Q:Unit→aG→Prop} (H:n7 c x e σ aD tv hid s)
  (k:∀ h' g m mo fz T oe oT,Rl c σ aD tv hid { s with heap:=h' } g m mo fz→WO x e T oe oT (mo++(fz++hid)) g c.L h'→Q () { s with heap:=h' }):aF c.M c.A (QB (.ref e) none) Q E s:=by
 refine X65 H fun bs a0 g m mo fz R ad8 hb hl hxx=>?_;refine En ad8 fun f1 f2 f3 ad9=>?_;refine eU ad9 fun oe aea=>?_;obtain ⟨vs,T,oT,ts,he,Xx,hd,Kg,RW,Tp,hT,AP,hv3⟩:=aea;have Pe:3<ts.size:=(Be.mp hv3).1;have other:∀ b,b≠T→(s.heap.update T (dO (·.setIfInBounds 3 ((none:Option Addr).elim dZ fun f=>gu f)))).get? b=s.heap.get? b:=fun b hb=>bY _ _ (eO hb);have plain:∀ b o,s.heap.get? b=some o→(∀ vs,o.data≠.fields vs)→b≠T:=fun b o hb hn q=>by
  rw[q,hT] at hb;cases hb;exact hn ts AP
 have up:∀ b o,bs.get? b=some o→(s.heap.update T (dO (·.setIfInBounds 3 ((none:Option Addr).elim dZ fun f=>gu f)))).get? b=some o:=fun b o q=>(other b fun z=>by rw[z,RW] at q;cases q).trans (f1 b o q);refine wpAny_bind (m8 he hd Kg ?_);refine nM hT AP Pe ?_;obtain ⟨g',T',R'⟩:=R.Aj (s':={ s with heap:=s.heap.update T (dO (·.setIfInBounds 3 ((none:Option Addr).elim dZ fun f=>gu f))) }) (fun b o eb L8=>up b o (hb b o eb L8))
  (fun b o eb L8=>⟨o.slots,(other b (plain b o (R.core.F.keep b o eb) fun vs q=>by
   refine AN (R.gh.D b L8) fun o' es n sV zb=>?_;rw[eb] at sV;cases sV;rw[zb] at q;cases q)).trans (R.core.F.keep b o eb)⟩)
  (fun p hp=>up _ _ (hl p hp)) (by
   refine Ep R.core.F.ns fun oL es ep F1 OZ r=>?_;exact (Y2 oL es ⟨ep,(other _ (plain _ _ F1 fun vs q=>by rw[OZ] at q;cases q)).trans F1,OZ,r⟩)) R.gens R.os
 have he':=(other e (eO Tp)).trans he;have Kc:∀ b o,g.get? b=some o→(∃ vs,o.data = .fields vs)→bs.get? b=some o:=fun b o q aiP=>eU aiP fun vs hv=>hb b o q fun hm=>by
  refine AN (R.gh.D b hm) fun o' es n sV zb=>?_;rw[q] at sV;cases sV;rw[zb] at hv;cases hv
 refine W2 hxx fun oe2 vs2 x1 x2 x3 x4=>?_;rw[he] at x1;cases x1;rw[hd] at x2;cases x2;refine k _ g' m mo fz T _ _ R' ⟨he',Xx.1,⟨vs,hd,x3,Kg,x4⟩,bL _ hT (nq (gb AP _)),⟨_,gb AP _,by simp [Pe]⟩,Tp,fun p hp=>⟨fun q=>?_,fun q=>?_⟩,T'.none_ _ ?_,T'.none_ _ ?_⟩
 ·have:=hl p hp
  rw[q,f2] at this;cases this
 ·have:=hl p hp
  rw[q,RW] at this;cases this
 ·refine oC (g.get? e) (fun q=>?_) fun o q=>?_
  ·rfl
  ·have h1:=R.core.F.keep _ _ q
   rw[he] at h1;cases h1;rw[Kc _ _ q ⟨vs,hd⟩] at f2;rw[f2]
 ·refine oC (g.get? T) (fun q=>?_) fun o q=>?_
  ·rfl
  ·have h1:=R.core.F.keep _ _ q
   rw[hT] at h1;cases h1;rw[Kc _ _ q ⟨ts,AP⟩] at RW;rw[RW]
theorem ze {x:Xn} {e:Addr} {Q:Unit→aG→Prop} (H:n7 c x e σ aD tv hid s)
  (k:∀ h',Rel c σ aD tv hid { s with heap:=h' }→(∃ o,h'.get? e=some o∧o.cls = .type x.cls)→Q () { s with heap:=h' }):aF c.M c.A (QB (.ref e) none) Q E s:=
 se H fun h' g m mo fz T oe oT R L=>k h' R.rel ⟨oe,L.at_,L.cls⟩
theorem Ms {r:Res β} {ev:ah} {x:Xn} {Q:Unit→aG→Prop} (H:kH c r aD tv hid ev s) (hr:r = .exc x σ')
  (k:∀ e h',ev = .ref e→Rel c σ' aD tv hid { s with heap:=h' }→(∃ o,h'.get? e=some o∧o.cls = .type x.cls)→Q () { s with heap:=h' }):aF c.M c.A (leaving c.l8 ev) Q E s:=by
 refine Ep H fun x' bx e q aeb h=>?_;obtain rfl:=aeb;rw[hr] at q;cases q;rcases h with ⟨h,hx,R⟩ | H
 ·refine wpAny_bind (Aa hx R fun h' H'=>ze H' fun h'' R' ho=>k e h'' rfl R' ho)
 ·exact wpAny_bind (qJ H (ze H fun h'' R' ho=>k e h'' rfl R' ho))
theorem QL (HB:∀ c':Cx,Own c'→c'.fu+1=c.fu→c'.w=c.w→kJ ev c') (sf:1≤c.fu):pn (step c.K ev) c:=by
 intro a u σ A' aD tv hid s v hA hr R;have xR:tZ c.K ev a u σ≠.fail:=hr;show aF _ _ _ (fun v' s'=>∃ w σ',tZ c.K ev a u σ = .ok (some w) σ'∧_) (fun e s'=>∃ σ' ea o,tZ c.K ev a u σ = .ok none σ'∧_) _;refine Ep (De (fun q=>xR (by unfold tZ;rw[q]))) fun fd body binds hd hb e1=>?_
 ··
   unfold tZ at xR ⊢;rw[e1] at xR ⊢;refine jP (Bu (us:=[u]) (ku:=[]) (vals:=[v]) (kv:=[]) HB sf hA (yT hd) hb (fun q=>xR (by rw[q])) rfl rfl R (fun f s' fl σ' e h=>?_) fun g m mo fz up vp L' env' h1 h2 h3 h4 e s' R' yp F3 Iz h=>?_)
   ·refine jU h fun w b5 e2 R2=>?_
    refine (Y2 w b5 ⟨?_,R2⟩);rw[e];simp only [e2]
   ·obtain ⟨x,σ',q⟩:∃ x σ',ev.B fd.scope body ⟨(fH fd.scope.names binds σ.aP).1,(fH fd.scope.names binds σ.aP).2,σ.dw⟩ = .exc x σ':=by
     refine AN h fun x σ' _ q _=>?_;exact (Y2 x σ' (q))
    rw[q] at xR;cases x with
    | index=>exact absurd rfl xR
    | qE=>exact absurd rfl xR
    | stop =>
     simp only at xR;have FZ:gG σ.aP.length σ'.aP=true:=by
      refine bC (gG σ.aP.length σ'.aP) (fun z=>?_) fun z=>?_
      ·rfl
      ·rw[z] at xR;exact absurd rfl xR
     refine Ms h q fun ea h' he R3 ho=>?_;rw[he];refine bU ho fun o ho hc=>?_;have R4:=Rl.leave (u:=.p .none) (v:=.none) R' yp F3 Iz hA (R3.push fun _ _ _=>.p .none);refine jU R4 fun w b5 e2 R5=>?_;unfold i7 at e2;rw[aA FZ,aA (by rw[V.lt])] at e2;cases e2;refine (Y2 _ ea ⟨o,?_,rfl,ho,hc,R5.pop⟩);rw[q];simp only [FZ,gz]
end
section
theorem Rl.s9 (R:Rl c σ aD tv (pre++(a,o) :: post) s g m mo fz) (hex:oh o) (ho:h'.get? a=some o') (hs:mh a s.heap h')
  (hn:nQ c m fz (pre++(a,o') :: post) (bh mo) loc):Rl c ⟨loc,σ.aP,σ.dw⟩ aD tv (pre++(a,o') :: post) { s with heap:=h',toks:=k } g m mo fz:=by
 have HI:=R.core.N (a,o) (aa _ (aa _ (aa _ (.head _))));have key:∀ r∈pre++(a,o') :: post,∃ r'∈pre++(a,o) :: post,r'.1=r.1:=fun r hr=>by
  refine bJ (aj.mp hr) (fun q=>?_) fun q=>?_
  ·exact ⟨r,af _ q,rfl⟩
  ·rcases av.mp q with rfl | q
   ·exact ⟨(a,o),aa _ (.head _),rfl⟩
   ·exact ⟨r,aa _ (.tail _ q),rfl⟩
 have aht:(bh (pre++(a,o') :: post)).Nodup:=by
  have e:bh (pre++(a,o') :: post)=bh (pre++(a,o) :: post):=by simp [bh]
  rw[e];exact R.core.nh
 have nd2:∀ r∈pre++post,r.1≠a:=fun r hr e=>by
  have:=R.core.nh;unfold bh at this;rw[aV,cZ,mq] at this;refine xM this fun _ h2 h3=>?_;refine bJ (aj.mp hr) (fun q=>?_) fun q=>?_
  ·exact h3 r.1 (bP q) a (.head _) e
  ·exact (bF.mp h2).1 (aX.mpr ⟨r,q,e⟩)
 have old:∀ p∈mo++fz,p.1≠a:=fun p hp=>by
  refine bJ (aj.mp hp) (fun q=>?_) fun q=>?_
  ·exact R.core.dj p q (a,o) (aa _ (aa _ (.head _)))
  ·exact R.core.dh p q (a,o) (aa _ (.head _))
 have up:∀ {p:Addr × Obj},p.1≠a→s.heap.get? p.1=some p.2→h'.get? p.1=some p.2:=fun tV e=>(hs.2 _ tV).trans e;refine ⟨R.gh,⟨⟨R.core.F.ns.sameBut hs (eO HI.2.1),fun b ob e=>(hs.2 b (fun q=>by rw[q,HI.2.2] at e;cases e)).trans (R.core.F.keep b ob e),R.core.F.above⟩,fun p hp=>?_,R.core.nd,fun p hp r hr=>?_,fun p hp r hr=>?_,aht⟩,R.p8,hn,R.aP,R.aD,R.gens,R.os,R.dw.1,fun h=>(R.dw.2 h).mono rfl fun p hp=>?_⟩
 ·rcases aj.mp hp with q | q
  ·have P:=R.core.N p (af _ q)
   exact ⟨up (old p (af _ q)) P.1,P.2⟩
  ·refine bJ (aj.mp q) (fun q=>?_) fun q=>?_
   ·have P:=R.core.N p (aa _ (af _ q))
    exact ⟨up (old p (aa _ q)) P.1,P.2⟩
   ·refine bJ (aj.mp q) (fun z=>?_) fun z=>?_
    ·have P:=R.core.N p (aa _ (aa _ (af _ z)))
     exact ⟨up (nd2 p (af _ z)) P.1,P.2⟩
    ·rcases av.mp z with rfl | z
     ·exact ⟨ho,HI.2⟩
     ·have P:=R.core.N p (aa _ (aa _ (aa _ (.tail _ z))))
      exact ⟨up (nd2 p (aa _ z)) P.1,P.2⟩
 ·refine bJ (aj.mp hr) (fun q=>?_) fun q=>?_
  ·exact R.core.dj p hp r (af _ q)
  ·refine bU (key r q) fun r' xR e=>?_
   rw[← e];exact R.core.dj p hp r' (aa _ xR)
 ·refine bU (key r hr) fun r' xR e=>?_
  rw[← e];exact R.core.dh p hp r' xR
 ·rcases aj.mp hp with q | q
  ·exact .inl (af _ q)
  ·rcases av.mp q with rfl | q
   ·exact .inr hex
   ·exact .inl (aa _ (.tail _ q))
noncomputable def Cx.comp (c:Cx) (H6:Env) (m:Str→Option ah) (hk:H6.scope.kind = .function) (yk:H6.globals=cy) (Ma:uW H6.builtins H6.scope H6.code) (yj:H6.frame=some c.L):Cx:=
 { c with env:=H6,p8:=some m,hk:=hk,yk:=yk,Ma:=Ma.1,BO:=Ma.2,yj:=yj }
theorem qH {names:List (Str × d9)}:(names.map fun (n,k)=>if (k==tM&&sc.kind == .function&&sc.names.lookup n==some .cell) then (n,RJ) else (n,k)).lookup x =
  (names.lookup x).map fun k=>if (k==tM&&sc.kind == .function&&sc.names.lookup x==some .cell) then RJ else k:=by
 induction names with
 | nil=>rfl
 | cons y r ih =>
  obtain ⟨n,k⟩:=y;rw[cZ,aH (b:=k)];by_cases hx:x=n
  ·subst hx
   simp only [cY,rU];split<;>simp [aH]
  ·have hb:(x==n)=false:=aJ.mpr hx
   rw[hb];simp only;split<;>rw[aH,hb]<;>exact ih
set_option tactic.hygienic true in
theorem qy {out:List (Str × Sl)}:∀ {names:List (Str × d9)} {loc:List (Str × Sl)} {x:Str} {sl:Sl},iJ (names.map (·.1))=true→dX out names=some loc→loc.lookup x=some sl →
  (sl = .unset∧names.lookup x=some .local)∨∃ j,sl = .cell j∧names.lookup x=some .free∧out.lookup x=some (.cell j)
 | [],loc,x,sl,_,h,e=>by cases h;cases e
 | (y,kd) :: r,loc,x,sl,nd,h,e=>by
  refine cz (iR (x:=y) (r:=r.map fun (z:Str × d9)=>z.1) nd) fun n1 n2=>?_;have skip:∀ {k},r.lookup x=some k→((y,kd) :: r).lookup x=some k:=fun {k} q=>by
   rw[aH];have:x≠y:=fun z=>n1 (z ▸ lookup_mem q);rw[aJ.mpr this];exact q
  have rest:∀ {l},dX out r=some l→l.lookup x=some sl→(sl = .unset∧((y,kd) :: r).lookup x=some .local)∨∃ j,sl = .cell j∧((y,kd) :: r).lookup x=some .free∧out.lookup x=some (.cell j):=fun {l} h e=>by
   rcases qy n2 h e with ⟨a,b⟩ | ⟨j,a,b,d⟩
   ·exact .inl ⟨a,skip b⟩
   ·exact .inr ⟨j,a,skip b,d⟩
  unfold dX at h;cases kd with
  | «local» =>
   simp only at h;refine bU (aQ.mp h) fun l hl aec=>?_;obtain rfl:=aec;rw[aH] at e;by_cases q:x=y
   ·subst q
    simp only [cY,cB] at e;exact .inl ⟨e.symm,by rw[aH];simp⟩
   ·rw[aJ.mpr q] at e
    exact rest hl e
  | free =>
   simp only at h;split at h
   ·rename_i j ho
    refine bU (aQ.mp h) fun l hl aed=>?_;obtain rfl:=aed;rw[aH] at e;by_cases q:x=y
    ·subst q
     simp only [cY,cB] at e;exact .inr ⟨j,e.symm,by rw[aH];simp,ho⟩
    ·rw[aJ.mpr q] at e
     exact rest hl e
   ·cases h
  | _=>exact rest h e
theorem qx {env:Env}:∀ (names:List (Str × d9)) (acc:List (Str × Addr)),iJ (names.map (·.1))=true→(∀ x,names.lookup x=some .free→∃ a,env.cells.lookup x=some a) →
  ∃ cl:List (Str × Addr),(forIn names acc fun x __s=>if (x.2==tM)=true then (do let a ← cellOf env x.1;pure (gY ((x.1,a) :: __s))) else pure (gY __s):Sem (List (Str × Addr)))=pure (cl++acc) ∧
   (∀ x,names.lookup x=some .free→cl.lookup x=env.cells.lookup x)∧∀ x∈cl.map (·.1),x∈names.map (·.1)
 | [],acc,_,_=>⟨[],rfl,(fun x h=>by cases h),fun x h=>h⟩
 | (y,kd) :: r,acc,nd,h=>by
  refine cz (iR (x:=y) (r:=r.map fun (z:Str × d9)=>z.1) nd) fun n1 n2=>?_;have skip:∀ {x k},r.lookup x=some k→((y,kd) :: r).lookup x=some k:=fun {x k} q=>by
   rw[aH];have:x≠y:=fun z=>n1 (z ▸ lookup_mem q);rw[aJ.mpr this];exact q
  have h':∀ x,r.lookup x=some .free→∃ a,env.cells.lookup x=some a:=fun x q=>h x (skip q);by_cases hk:kd = .free
  ·subst hk
   obtain ⟨a,ha⟩:=h y (by rw[aH];simp);refine nv (qx (env:=env) r ((y,a) :: acc) n2 h') fun cl e e2 e3=>?_;refine ⟨cl++[(y,a)],?_,fun x q=>?_,fun x q=>?_⟩
   ·rw[jC]
    have:cellOf env y=pure a:=by unfold cellOf;rw[ha]
    rw[this];refine EK e ?_;simp
   ·rw[aH] at q
    by_cases z:x=y
    ·subst z
     have hn:cl.lookup x=none:=by
      refine oC (cl.lookup x) (fun w=>?_) fun b w=>?_
      ·rfl
      ·exact absurd (e3 x (lookup_mem w)) n1
     rw[NW,hn,ha];simp [aH]
    ·rw[aJ.mpr z] at q
     rw[NW,e2 x q];refine eU (h' x q) fun b hb=>?_;rw[hb];rfl
   ·rw[aV] at q
    refine bJ (aj.mp q) (fun q=>?_) fun q=>?_
    ·exact .tail _ (e3 x q)
    ·rw[List.map_singleton,bA] at q
     rw[q];exact .head _
  ·refine nv (qx (env:=env) r acc n2 h') fun cl e e2 e3=>?_
   refine ⟨cl,?_,fun x q=>?_,fun x q=>.tail _ (e3 x q)⟩
   ·rw[jC]
    have:(kd==tM)=false:=by cases kd<;>first | rfl | exact absurd rfl hk
    simp only [this,fB,jy];exact e
   ·rw[aH] at q
    by_cases z:x=y
    ·subst z
     simp only [cY,cB] at q;exact absurd q hk
    ·rw[aJ.mpr z] at q
     exact e2 x q
end
section
theorem nQ.turn (ha:a≠c.env.locals) (h:nQ c m fz (pre++(a,o) :: post) μ loc):nQ c m fz (pre++(a,o') :: post) μ loc:=fun x sl e=>by
 have:=h x sl e;cases sl with
 | unset=>exact this
 | cell j=>exact this
 | val v =>
  refine cz this fun h1 aee=>?_;refine bU aee fun val h2 h3=>?_;refine ⟨h1,val,h2,h3.imp id fun adS=>AN adS fun ob es ep hm r=>(Y2 ob es ⟨ep,?_,r⟩)⟩;refine bJ (aj.mp hm) (fun q=>?_) fun q=>?_
  ·exact af _ q
  ·refine bJ (av.mp q) (fun q=>?_) fun q=>?_
   ·exact absurd (WT q).1.symm ha
   ·exact aa _ (.tail _ q)
noncomputable def Lq (o:Obj):Prop:=∃ es ep,o.data = .dict es ep∧StrKeys es
set_option tactic.hygienic true in
theorem aad {oC:Obj} (hx:c.env.kindOf x=some .local) (hC:Lq oC) (hr:o9 x u σ≠.fail)
  (R₀ : Rel c σ (u :: aD) (v :: tv) (pre++(c.env.locals,oC) :: post) s) :
  aF c.M c.A (storeName c.env x v) (fun _ s'=>∃ σ' Wn,o9 x u σ = .ok () σ'∧Lq Wn∧Rel c σ' aD tv (pre++(c.env.locals,Wn) :: post) s') E s:=by
 refine iM R₀ fun g m mo fz bN=>?_;refine cz (bN.one) fun hv R=>?_;clear bN
 refine jU hC fun es ep hd hsk=>?_;have qD:=R.core.N (c.env.locals,oC) (aa _ (aa _ (aa _ (.head _))));refine Vf (m:=Ez es) hx (Y2 oC es ⟨ep,qD.1,hd,hsk,fun _=>rfl⟩) (fun h' hn hs=>?_) (by rw[c.hk];rfl);refine Hi hn fun o' yV ep' sV zb XK hf'=>?_;have e:o9 x u σ = .ok () ⟨B7 σ.loc x u,σ.aP,σ.dw⟩:=by
  unfold o9 at hr ⊢;split at hr
  ·rename_i j hl
   refine cz (R.loc _ _ hl) fun hk _=>?_;rw[hx] at hk;rcases hk with hk | hk<;>cases hk
  ·rename_i sl Mf hl
   cases sl with
   | cell j=>exact absurd rfl (Mf j)
   | unset=>rfl
   | val _=>rfl
  ·exact absurd rfl hr
 refine (Y2 _ o' ⟨e,(Y2 yV ep' ⟨zb,XK⟩),(R.s9 (g8 fun vs q=>by rw[hd] at q;cases q) (k:=s.toks+1) sV hs (fun y sl e=>?_)).rel⟩);rw[qI] at e;have RU:(c.env.locals,o')∈pre++(c.env.locals,o') :: post:=aa _ (.head _);by_cases hy:y=x
 ·subst hy
  rw[aA rfl] at e;cases e;exact ⟨hx,v,hv,.inr (Y2 o' yV ⟨ep',RU,zb,XK,by rw[hf'];simp⟩)⟩
 ·rw[aS hy] at e
  have:=R.loc _ _ e;cases sl with
  | unset=>exact this
  | cell j=>exact this
  | val u' =>
   refine cz this fun h1 aef=>?_;refine bU aef fun val h2 h3=>?_;refine ⟨h1,val,h2,?_⟩;rcases h3 with h3 | ⟨ob,es2,ep2,hm,hd2,amr,hf2⟩
   ·exact .inl h3
   ·refine .inr (Y2 o' yV ⟨ep',RU,zb,XK,?_⟩)
    have hob:ob=oC:=by
     have:=(R.core.N (c.env.locals,ob) (aa _ (aa _ hm))).1;rw[qD.1] at this;exact (aC this).symm
    subst hob;rw[hd] at hd2;cases hd2;rw[hf'];show (if y=x then some v else Ez es y)=some val;rw[aS hy];exact hf2
theorem vm {x:ah} (hl:s.heap.get? l=some (listOf vals n)) (kC:vals.size≤2 ^ 21)
  (h:Q .none { s with heap:=s.heap.update l (dm (·.push x)) }):aF (jN prog w) A (call (.builtin "list.append") [.ref l,x]) Q E s:=by
 have hT:s.TypeIs (.ref l) "list":=⟨_,hl,rfl⟩;exact uS Vm hT Sn (F.args_list_append_2 _ _) (uN l vals n x (by simp only [aZ];exact jj kC zC)) ⟨hl,h⟩
theorem Ax:∀ (es:List Expr) (env:Env),(forIn es false fun ce r=>if r=true then do let ok ← AR ce env (eval ce env);pure (gY ok) else pure (gY r):Sem Bool)=pure false
 | [],env=>rfl
 | e :: es,env=>by
  rw[jC];exact Ax es env
theorem GS (HT:nu ev c):∀ (es:List Expr) (σ:St),SB c (forIn es true fun ce r=>if r=true then do let ok ← AR ce c.env (eval ce c.env);pure (gY ok) else pure (gY r)) σ (vj (ev.T c.env.scope) es σ)
 | [],σ=>fun hr aD tv hid s R=>by
  exact wpAny_pure ⟨σ,rfl,R⟩
 | e :: es,σ=>by
  intro hr aD tv hid s R;have hr0:(ev.T c.env.scope e >>= fun t=>if t then vj (ev.T c.env.scope) es else pure false) σ≠.fail:=hr;show aF c.M c.A _ (Vt c ((ev.T c.env.scope e >>= fun t=>if t then vj (ev.T c.env.scope) es else pure false) σ) aD tv hid) (kH c ((ev.T c.env.scope e >>= fun t=>if t then vj (ev.T c.env.scope) es else pure false) σ) aD tv hid) s;rw[jC];refine wpAny_bind (wpAny_bind ((HT e σ).use hr0 R (fun _ _ x=>x) fun b bx b3 Dq bN=>?_));rw[mR,Dq] at hr0;rw[mR,Dq];refine wpAny_pure ?_;cases b with
  | true=>exact GS HT es bx hr0 aD tv hid b3 bN
  | false =>
   show aF c.M c.A (forIn es false _) _ _ b3;rw[Ax es c.env];exact wpAny_pure ⟨bx,rfl,bN⟩
theorem eW.swap {q:P} {y v:ah} {ds:List P} (hl:ds.length=vals.size)
  (h:eW b fz μ (.p q :: u :: (ds.map V.p++us)) (y :: v :: (vals.toList++vs))):eW b fz μ (u :: ((ds++[q]).map V.p++us)) (v :: ((vals.push y).toList++vs)):=by
 cases h with | cons a h =>
 cases h with | cons d h =>
 refine cz (eW.split (by simpa using hl) h) fun h1 h2=>?_;refine .cons d ?_;rw[aV,Array.toList_push];exact (h1.append (.cons a .nil)).append h2
theorem ML {a b:α} (h:Res.ok a σ = .ok b σ'):a=b∧σ=σ':=by cases h;exact ⟨rfl,rfl⟩
theorem Ae {m:Res α} {a:β} (h:iN m f = .ok a mG):∃ b σ',m = .ok b σ'∧f b σ' = .ok a mG:=by
 cases m with
 | ok b σ'=>exact (Y2 b σ' ⟨rfl,h⟩)
 | fail=>cases h
 | exc _ _=>cases h
theorem Bw {C:Prop} {t:Mo Bool} {f:Mo V} {k i:Nat} (e:jf nx x t f (k+1) i σ = .ok rest mG)
  (k0:nx i σ=some none→σ.dw = .no→rest=[]→mG=σ→C)
  (k1:∀ p b5 iU,nx i σ=some (some p)→o9 x (.p p) σ = .ok () b5→t b5 = .ok false iU→jf nx x t f k (i+1) iU = .ok rest mG→C)
  (k2:∀ p b5 iU q nN lU,nx i σ=some (some p)→o9 x (.p p) σ = .ok () b5→t b5 = .ok true iU→f iU = .ok (.p q) nN→i≤2 ^ 20→jf nx x t f k (i+1) nN = .ok lU mG→rest=q :: lU→C):C:=by
 unfold jf at e;generalize hp:nx i σ=o at e k0 k1 k2;cases o with
 | none=>exact nomatch e
 | some o =>
 cases o with
 | none =>
  by_cases hh:σ.dw = .no
  ·have e:=(aA hh).symm.trans e
   exact k0 rfl hh (ML e).1.symm (ML e).2.symm
  ·exact nomatch (aS hh).symm.trans e
 | some p =>
 refine jU (Ae e) fun u2 b5 hw e=>jU (Ae e) fun b iU ht e=>?_;cases b with
 | false=>exact k1 p b5 iU rfl hw ht e
 | true =>
  refine jU (Ae e) fun w nN hf e=>?_;cases w with
  | p q=>exact cz (bW e (fun z=>nomatch z)) fun hi e=>jU (Ae e) fun lU WH h5 e=>k2 p b5 iU q nN lU rfl hw ht hf hi ((ML e).2 ▸ h5) (ML e).1.symm
  | _=>exact nomatch e
theorem SB.known {t:Sem Bool} {m:Res Bool} {b:Bool} {Q:Bool→aG→Prop} (H:SB c t σ m) (e:m = .ok b σ') (R:Rel c σ aD tv hid s) (k:∀ s',Rel c σ' aD tv hid s'→Q b s'):aF c.M c.A t Q E s:=by
 subst e;exact wpAny_mono (H (fun z=>nomatch z) aD tv hid s R) (fun b' s' h=>bU h fun σ2 q R'=>by cases q;exact k s' R') fun _ _ h=>AN h fun _ _ _ q _=>nomatch q
theorem SE.known {t:Sem ah} {m:Res V} (H:SE c t σ m) (e:m = .ok u σ') (R:Rel c σ aD tv hid s) (k:∀ v s',Rel c σ' (u :: aD) (v :: tv) hid s'→Q v s'):aF c.M c.A t Q E s:=by
 subst e;exact wpAny_mono (H (fun z=>nomatch z) aD tv hid s R) (fun v s' h=>jU h fun u2 σ2 q R'=>by cases q;exact k v s' R') fun _ _ h=>AN h fun _ _ _ q _=>nomatch q
theorem LN {elt iter:Expr} {ifs:List Expr} {scope:bV} {I D:Addr}
  (HE:cI ev c) (HT:nu ev c) (hx:c.env.kindOf x=some .local) (W:Walk c u v nx I It) (hD:D≠c.env.locals)
  {n:Nat} (hcg:jf nx x (vj (ev.T c.env.scope) ifs) (ev.E c.env.scope elt) n 0 σ = .ok ps mG) {oI oC:Obj} (hI:It 0 oI) (hC:Lq oC)
  (R:Rel c σ (u :: aD) (v :: tv) ((I,oI) :: (c.env.locals,oC) :: (D,listOf #[] 0) :: hid) s)
  (k:∀ vals nn oC s',Lq oC→ps.length=vals.size→Rel c mG (ps.map V.p++aD) (vals.toList++tv) ((c.env.locals,oC) :: (D,listOf vals nn) :: hid) s'→RR (.ok .next) s') :
  qk c.M c.A (.compLoop (.ListComp elt [⟨.Name x px,iter,ifs,0⟩] scope pos) 0 (.ref I) (.ref D) c.env) RR s:=by
 refine codeAny_compLoop_tests (fun k s'=>∃ (i:Nat) (σ':St) (ds rest:List P) (oI oC:Obj) (vals:eF ah) (nn:Nat),jf nx x (vj (ev.T c.env.scope) ifs) (ev.E c.env.scope elt) k i σ' = .ok rest mG∧ps=ds++rest∧It i oI∧Lq oC∧ds.length=vals.size∧ds.length≤i ∧
  Rel c σ' (u :: (ds.map V.p++aD)) (v :: (vals.toList++tv)) ((I,oI) :: (c.env.locals,oC) :: (D,listOf vals nn) :: hid) s') (fun k' s' hk=>?_) n
  (Y2 (0) σ (Y2 ([]) ps (Y2 oI oC (Y2 (#[]) (0) ⟨hcg,rfl,hI,hC,rfl,aB _,R⟩))))
 refine X87 hk fun i σ' ds rest oI oC vals nn e xQ hit hC hl hle R'=>?_;cases k' with
 | zero=>cases e
 | succ k' =>
  refine Bw e (fun hp hh h1 h2=>?_) (fun p b5 iU hp hw ht e=>?_) fun p b5 iU q nN lU hp hw ht hq hi e hr=>?_
  ·rw[h1,cg] at xQ
   rw[← h2] at R' hp hh;refine W.done i mG _ _ _ s' oI hp hit hh R' _ _ fun b3 bN=>?_;rw[← xQ] at hl bN;exact k vals nn oC b3 hC hl bN
  all_goals
   refine W.item i p σ' _ _ _ s' oI hp hit R' _ _ fun xv NK b3 rI bN=>?_;refine iT (wpAny_mono (aad (pre:=[(I,NK)]) (E:=fun _ _=>iP) hx hC (fun z=>nomatch hw.symm.trans z) bN) (fun _ cD h=>Eo h fun WH Wn r8 hC' cX=>?_) fun _ _ z=>z.elim);rw[← (ML (hw.symm.trans r8)).2] at cX;refine SB.known (GS HT ifs b5) ht cX fun i9 gv=>?_
  ·skip
   exact ⟨k',dJ _,Y8 (i+1) iU ds rest NK Wn vals nn ⟨e,xQ,rI,hC',hl,qq hle,gv⟩⟩
  ·skip
   refine SE.known (HE elt iU) hq gv fun y Jl jT=>?_;refine iM (jT) fun g m mo fz pg=>?_;have RU:=(pg.core.N (D,listOf vals nn) (aa _ (aa _ (.tail _ (.tail _ (.head _)))))).1;refine vm RU (by exact Ko (zG hl) hle hi zC) ?_;refine eU (fF vals nn (·.push y)) fun n' en=>?_;have oO:=pg.s9 (g8 fun vs q=>by cases q) (pre:=[(I,NK),(c.env.locals,Wn)]) (a:=D) (o:=listOf vals nn) (o':=listOf (vals.push y) n') (post:=hid) (k:=Jl.toks) (h':=Jl.heap.update D (dm (·.push y))) (loc:=nN.loc)
    (by rw[← en];exact bL _ RU rfl) (iy ..) (nQ.turn hD pg.loc)
   exact ⟨k',dJ _,Y8 (i+1) nN (ds++[q]) lU NK Wn (vals.push y) n' ⟨e,by rw[xQ,hr];simp,rI,hC',by simp [hl],by simp;exact hle,(oO.kj (eW.swap hl oO.aD)).rel⟩⟩
end
section
section
theorem Rl.perm {rH:Led} (hp:hid.Perm rH) (R:Rl c σ aD tv hid s g m mo fz):Rl c σ aD tv rH s g m mo fz:=by
 have mem:∀ p,p∈rH→p∈hid:=fun p h=>hp.mem_iff.mpr h;refine ⟨R.gh,⟨R.core.F,fun p h=>R.core.N p ?_,R.core.nd,fun p h r hr=>R.core.dj p h r ?_,fun p h r hr=>R.core.dh p h r (mem r hr),?_⟩,R.p8,R.loc.mono .refl fun p h=>hp.mem_iff.mp h,R.aP,R.aD,R.gens,R.os,R.dw.1,fun h=>(R.dw.2 h).sub fun p h=>hp.mem_iff.mp h⟩
 ·rcases aj.mp h with q | q
  ·exact af _ q
  ·refine bJ (aj.mp q) (fun q=>?_) fun q=>?_
   ·exact aa _ (af _ q)
   ·exact aa _ (aa _ (mem p q))
 ·refine bJ (aj.mp hr) (fun q=>?_) fun q=>?_
  ·exact af _ q
  ·exact aa _ (mem r q)
 ·exact (hp.map fun (p:Addr × Obj)=>p.1).nodup_iff.mp R.core.nh
theorem Core.O3 {h:Heap} {L:Addr} {a:Addr} {o:Obj} (C:Core g L m mo fz ((a,o) :: hid) h):Core g L m mo ((a,o) :: fz) hid h:=by
 have sub:∀ p∈mo++((a,o) :: fz++hid),p∈mo++(fz++(a,o) :: hid):=fun p hp=>by
  refine bJ (aj.mp hp) (fun q=>?_) fun q=>?_
  ·exact af _ q
  ·refine bJ (aj.mp q) (fun q=>?_) fun q=>?_
   ·rcases av.mp q with rfl | q
    ·exact aa _ (aa _ (.head _))
    ·exact aa _ (af _ q)
   ·exact aa _ (aa _ (.tail _ q))
 refine ⟨C.F,fun p hp=>C.N p (sub p hp),C.nd,fun p hp r hr=>C.dj p hp r ?_,fun p hp r hr=>?_,(bF.mp C.nh).2⟩
 ·rcases aj.mp hr with q | q
  ·rcases av.mp q with rfl | q
   ·exact aa _ (.head _)
   ·exact af _ q
  ·exact aa _ (.tail _ q)
 ·rcases av.mp hp with rfl | hp
  ·exact fun e=>(bF.mp C.nh).1 (aX.mpr ⟨r,hr,e.symm⟩)
  ·exact C.dh p hp r (.tail _ hr)
theorem eW.EE {b:Heap} {μ : List Addr}:∀ {ps:List P} {vs:List ah},eW b fz μ (ps.map V.p) vs→jS b fz ps vs
 | [],_,h=>by cases h;exact .nil
 | p :: ps,_,h=>by cases h with | cons a r=>cases a with | p a=>exact .cons a (eW.EE r)
theorem lJ {out:List (Str × Sl)}:∀ {names:List (Str × d9)} {loc:List (Str × Sl)} {x:Str},dX out names=some loc→names.lookup x=some .free→∃ j,out.lookup x=some (.cell j)
 | [],_,_,_,h=>by cases h
 | (y,kd) :: r,loc,x,e,h=>by
  rw[aH] at h;by_cases q:x=y
  ·subst q
   simp only [cY,cB] at h;subst h;dsimp only [dX] at e;split at e
   ·exact ⟨_,by assumption⟩
   ·cases e
  ·rw[aJ.mpr q] at h
   cases kd with
   | «local» =>
    refine bU (aQ.mp e) fun l hl _=>?_;exact lJ hl h
   | free =>
    dsimp only [dX] at e;split at e
    ·refine bU (aQ.mp e) fun l hl _=>?_
     exact lJ hl h
    ·cases e
   | _=>exact lJ (names:=r) (by unfold dX at e;exact e) h
theorem Bx {cK:bV} {x:Str} (h:oj cK x=true):cK.kind = .function∧iJ (cK.names.map (·.1))=true∧cK.names.lookup x=some .local∧(∀ y∈cK.names,y.2≠.cell)∧cK.names.lookup ("split_command":Str)=none:=by
 unfold oj at h;simp only [aR,beq_iff_eq,cG,JS,ne_eq,ic] at h;refine cz h fun aeg h5=>?_;refine cz aeg fun aeh h4=>?_;refine cz aeh fun aei h3=>?_;refine cz aei fun h1 h2=>?_;exact ⟨h1,h2,h3,h4,h5⟩
theorem vK {α : Type}:∀ {l:List (Str × α)} {x:Str} {a:α},iJ (l.map (·.1))=true→(x,a)∈l→l.lookup x=some a
 | (y,b) :: r,x,a,nd,h=>by
  refine cz (iR (x:=y) (r:=r.map fun (z:Str × α)=>z.1) nd) fun n1 n2=>?_;rw[aH];refine bJ (av.mp h) (fun h=>?_) fun h=>?_
  ·cases h;simp
  ·have:x≠y:=fun q=>n1 (by rw[← q];exact bP (f:=fun (z:Str × α)=>z.1) h)
   rw[aJ.mpr this];exact vK n2 h
theorem uK {γ : Type} {m:Res α} {f:α→Mo β} {g:β→Mo γ}:iN (iN m f) g=iN m fun a=>f a >>= g:=by cases m<;>rfl
section
variable {cK sc:bV} {x:Str} {iter elt:Expr} {ifs:List Expr} {r:Res β} {u:V}
theorem LL {f:P→Mo β} (h:(yR ev sc elt cK x iter ifs >>= f) σ=r) (hn:r≠.fail):(mz iter=false∧oj cK x=true∧(dX σ.loc cK.names).isSome=true) ∧
  (ev.E sc iter >>= fun u=>r7 cK x (vj (ev.T (nI sc cK)) ifs) (ev.E (nI sc cK) elt) u >>= fun ps=>f (.lst ps)) σ=r:=by
 have e:(yR ev sc elt cK x iter ifs >>= f) σ=iN (if mz iter=false∧oj cK x=true∧(dX σ.loc cK.names).isSome=true then (ev.E sc iter >>= fun u=>r7 cK x (vj (ev.T (nI sc cK)) ifs) (ev.E (nI sc cK) elt) u >>= fun ps=>pure (.lst ps)) σ else .fail) f:=rfl;by_cases hc:mz iter=false∧oj cK x=true∧(dX σ.loc cK.names).isSome=true
 ·rw[aA hc] at e
  exact ⟨hc,(h.symm.trans (e.trans ((uK (m:=ev.E sc iter σ)).trans (aK (iN (ev.E sc iter σ)) (funext fun u=>funext fun σ'=>uK (m:=r7 cK x (vj (ev.T (nI sc cK)) ifs) (ev.E (nI sc cK) elt) u σ')))))).symm⟩
 ·rw[aS hc] at e
  exact absurd (h.symm.trans e) hn
theorem BD {i:Mo Bool} {d:Mo V} {f:List P→Mo β} (h:(r7 cK x i d u >>= f) σ=r) (hn:r≠.fail):∃ nx n loc ps mG,srcOf u σ=some (nx,n)∧dX σ.loc cK.names=some loc∧jf nx x i d (n+1) 0 ⟨loc,σ.aP,σ.dw⟩ = .ok ps mG∧f ps ⟨σ.loc,mG.aP,σ.dw⟩=r:=by
 rw[mR] at h;unfold r7 at h;cases hs:srcOf u σ with
 | none=>rw[hs] at h;exact absurd h.symm hn
 | some p =>
 rw[hs] at h;have h:=h;dsimp only [Yh] at h;cases hl:dX σ.loc cK.names with
 | none=>rw[hl] at h;exact absurd h.symm hn
 | some loc =>
 rw[hl] at h;have h:iN (JQ σ.loc σ.dw (jf p.1 x i d (p.2+1) 0 ⟨loc,σ.aP,σ.dw⟩)) f=r:=h;cases hg:jf p.1 x i d (p.2+1) 0 ⟨loc,σ.aP,σ.dw⟩ with
 | fail=>rw[hg] at h;exact absurd h.symm hn
 | exc _ _=>rw[hg] at h;exact absurd h.symm hn
 | ok ps mG =>
  rw[hg] at h;exact (Y2 (p.1) (p.2) (Y2 loc ps ⟨mG,rfl,rfl,hg,h⟩))
end
theorem Dh {x:Str} {px pos pos':Pos} {elt iter:Expr} {ifs:List Expr} {cK:bV} {use:Option (ah→Sem Unit)} {Q:ah→aG→Prop} {E:ah→aG→Prop} {f:P→Mo β} {r:Res β}
  (HE:cI ev c) (H1:∀ c1:Cx,c1.fu=c.fu→c1.w=c.w→cI ev c1∧nu ev c1) (h:(yR ev c.env.scope elt cK x iter ifs >>= f) σ=r) (hn:r≠.fail) (R:Rel c σ aD tv hid s)
  (hE:∀ e s',kH c r aD tv hid e s'→E e s')
  (k:∀ p σ' D C oC s' g m mo fz,f p σ'=r→Lq oC→Rl c σ' (.p p :: aD) (.ref D :: tv) ((C,oC) :: hid) s' g m mo fz→nQ c m fz hid (bh mo) σ'.loc→compPost c.M c.A E use Q (.ref D) C (.ok .next) s') :
  aF c.M c.A (comprehension (.ListComp elt [⟨.Name x px,iter,ifs,0⟩] cK pos) cK c.env pos' (newList []) false (eval iter c.env) use) Q E s:=by
 refine cz (LL h hn) fun hc h=>?_;refine xM hc fun TN pB hlo=>?_;refine X05 (Bx pB) fun o1 o2 o3 o4 o5=>?_;have Il:uW c.env.builtins (nI c.env.scope cK) c.env.code:=⟨c.Ma,fun q=>by
  have e:(nI c.env.scope cK).names.lookup ("split_command":Str)=none:=(qH (sc:=c.env.scope) (names:=cK.names) (x:="split_command")).trans (by rw[o5];rfl);rw[e] at q;cases q⟩
 refine eU (pS.mp hlo) fun ah3 Pa=>?_;have FY:∀ y,cK.names.lookup y=some .free→∃ a,c.env.cells.lookup y=some a:=fun y hy=>by
  refine eU (lJ Pa hy) fun j hj=>?_;refine iM R fun g m mo fz R'=>?_;refine cz (R'.loc y _ hj) fun _ aej=>?_;refine bU aej fun a ha _=>?_;exact ⟨a,ha⟩
 refine nv (qx (env:=c.env) cK.names [] o2 FY) fun cl Tw OX _=>?_;have OY:JU cK c.env=pure cl:=by
  rw[cg] at Tw;dsimp only [JU];rw[Tw,pure_bind]
 refine wpAny_comprehension_free (g:=⟨.Name x px,iter,ifs,0⟩) (gs:=[]) rfl (fun v=>by unfold foldedSetIterable;cases iter<;>first | rfl | cases TN) OY o1 (fun y hy hl=>?_) ?_
 ·have:=vK (x:=y.1) (a:=y.2) o2 hy
  rw[hl] at this;exact this
 refine SE.go (HE iter σ) h hn R hE fun u bx v b3 h bN=>?_;refine X54 (BD h hn) fun nx n loc ps mG hs Ex hcg hf=>?_;refine iM (bN) fun g m mo fz bN=>?_;refine cz (bN.one) fun hu R₀=>?_;refine Eo R₀.pin fun up vp yp F3 Iz=>?_;have aa5:Rl c bx (u :: (up++aD)) (v :: (vp++tv)) hid b3 g m mo fz:=R₀.kj (.cons hu (F3.append R₀.aD));refine Ji hs aa5 fun I oI It cD W hI cX=>?_;refine wpAny_newList ?_ (by simp [aZ]);have gv:=cX.mP { cls:=.type "list",data:=.seq ([]:List ah).toArray } rfl;refine wpAny_newFunctionEnv o4 (fun y hy=>nomatch hy) (fun h₁ hns hsb=>?_) o1;have jT:=gv.mP { cls:=.type "dict",data:=.dict #[] } rfl;refine Hi hns fun oC es ep hoC hdC ahA _=>?_;have sub:∀ {q:Addr × Obj} {a b d:Addr × Obj},q∈hid→q∈a :: b :: d :: hid:=fun h=>.tail _ (.tail _ (.tail _ h));have pg:=jT.s9 (g8 fun vs q=>by cases q) (pre:=[]) (o':=oC) (k:=cD.toks) (loc:=bx.loc) hoC hsb (bN.loc.mono .refl fun q h=>sub h);have oO:=pg.perm (rH:=(I,oI) :: ((cD.heap.push (listOf #[] 0)).objs.size,oC) :: (cD.heap.objs.size,listOf #[] 0) :: hid) (((lg _ _ _).cons _).trans (lg _ _ _));have dw:=oO.core.nh;have hIC:I≠(cD.heap.push (listOf #[] 0)).objs.size:=fun q=>(bF.mp dw).1 (q ▸ .head _);have hDC:cD.heap.objs.size≠(cD.heap.push (listOf #[] 0)).objs.size:=by rw[mj];exact Nat.ne_add_one cD.heap.objs.size
 have akB:nQ c m fz ((I,oI) :: ((cD.heap.push (listOf #[] 0)).objs.size,oC) :: (cD.heap.objs.size,listOf #[] 0) :: hid) (bh mo) bx.loc:=oO.loc;have abY:nQ (c.comp (xh cK cl (cD.heap.push (listOf #[] 0)).objs.size c.env) m o1 c.yk Il c.yj) m fz ((I,oI) :: ((cD.heap.push (listOf #[] 0)).objs.size,oC) :: (cD.heap.objs.size,listOf #[] 0) :: hid) (bh mo) loc:=fun y sl e=>by
  have TL:∀ z,(c.comp (xh cK cl (cD.heap.push (listOf #[] 0)).objs.size c.env) m o1 c.yk Il c.yj).env.kindOf z=_:=fun z=>qH (sc:=c.env.scope) (names:=cK.names) (x:=z);rcases qy o2 Ex e with ⟨rfl,q⟩ | ⟨j,rfl,q,q2⟩
  ·show _=_
   rw[TL y,q];rfl
  ·refine cz (bN.loc y _ q2) fun _ aek=>?_
   refine bU (aek) fun a ha XQ=>?_;refine ⟨?_,a,(OX y q).trans ha,XQ⟩;rw[TL y,q,rU];split
   ·exact .inl rfl
   ·exact .inr rfl
 have C6 : Rl (c.comp (xh cK cl (cD.heap.push (listOf #[] 0)).objs.size c.env) m o1 c.yk Il c.yj) ⟨loc,bx.aP,bx.dw⟩ (u :: (up++aD)) (v :: (vp++tv)) ((I,oI) :: ((cD.heap.push (listOf #[] 0)).objs.size,oC) :: (cD.heap.objs.size,listOf #[] 0) :: hid) _ g m mo fz:=
  ⟨⟨oO.gh.turn,oO.gh.B,oO.gh.D⟩,oO.core,fun z7 e=>aC e,abY,oO.aP,oO.aD,oO.gens,oO.os,oO.dw⟩
 refine cz (H1 (c.comp (xh cK cl (cD.heap.push (listOf #[] 0)).objs.size c.env) m o1 c.yk Il c.yj) rfl rfl) fun HE1 HT1=>?_;have hx1:(c.comp (xh cK cl (cD.heap.push (listOf #[] 0)).objs.size c.env) m o1 c.yk Il c.yj).env.kindOf x=some .local:=by
  refine (qH (sc:=c.env.scope) (names:=cK.names) (x:=x)).trans ?_;rw[o3];rfl
 have W1:=W (c.comp (xh cK cl (cD.heap.push (listOf #[] 0)).objs.size c.env) m o1 c.yk Il c.yj) hIC;have loop:=LN (c:=c.comp (xh cK cl (cD.heap.push (listOf #[] 0)).objs.size c.env) m o1 c.yk Il c.yj) (px:=px) (pos:=pos) (iter:=iter) (scope:=cK)
  (RR:=compPost c.M c.A E use Q (.ref cD.heap.objs.size) (cD.heap.push (listOf #[] 0)).objs.size) HE1 HT1 hx1 W1 hDC hcg hI (Y2 es ep ⟨hdC,ahA⟩) C6.rel fun vals nn Wn s' hC' Mc R'=>?_
 ·exact codeAny_compStart_list loop (W1.self 0 _ oI hI C6.mC _ _ loop)
 ·refine iM R' fun g' m' ri gM R'=>?_
  have hm:m'=m:=R'.p8 m rfl;subst hm;refine cz (eW.split (by simpa using Mc) R'.aD) fun xQ hr2=>?_;refine cz (eW.split yp hr2) fun V0 ht=>?_;have Me:nQ c m' ((cD.heap.objs.size,listOf vals nn) :: gM) hid (bh ri) bx.loc:=(Iz _ _ (eW.mono pe.ND V0)).2;have WV:Rl c ⟨bx.loc,mG.aP,bx.dw⟩ (.p (.lst ps) :: aD) (.ref cD.heap.objs.size :: tv) (((cD.heap.push (listOf #[] 0)).objs.size,Wn) :: hid) s' g' m' ri ((cD.heap.objs.size,listOf vals nn) :: gM):=
   ⟨⟨R'.gh.turn,R'.gh.B,R'.gh.D⟩,(R'.perm (lg _ _ _)).core.O3,bN.p8,Me.mono .refl (fun _ h=>.tail _ h),R'.aP.ND,
    .cons (.p (.lst (.inl (.head _)) ⟨rfl,rfl,rfl⟩ rfl ((eW.EE xQ).mono fun _ h=>.tail _ h))) (ht.mono .ND),R'.gens,R'.os,bN.dw.1,fun h=>(bN.dw.2 h).sub fun _ hp=>.tail _ hp⟩
  exact k _ _ _ _ _ _ _ _ _ _ hf hC' WV Me
end
end
section
theorem By {f:P→Mo β} {r:Res β} (h:(Mine.comp ev sc elt gens cK >>= f) σ=r) (hn:r≠.fail):∃ x px iter ifs,gens=[⟨.Name x px,iter,ifs,0⟩]∧(yR ev sc elt cK x iter ifs >>= f) σ=r:=by
 unfold Mine.comp at h;cases hg:DU gens with
 | none=>rw[hg] at h;exact absurd h.symm hn
 | some g =>
  rw[hg] at h;obtain ⟨⟨x,it,ifs⟩,px,e⟩:=g;exact (Y2 x px (Y2 it ifs ⟨e,h⟩))
theorem SE.PE (HE:cI ev c) (H1:∀ c1:Cx,c1.fu=c.fu→c1.w=c.w→cI ev c1∧nu ev c1) :
  SE c (eval (.ListComp elt gens cK pos) c.env) σ ((Mine.comp ev c.env.scope elt gens cK >>= fun p=>pure (.p p)) σ):=by
 refine .mk fun r h hn aD tv hid s R=>?_;refine W3 (By h hn) fun x px iter ifs zz h=>?_;rw[zz];refine Dh (use:=e8) HE H1 h hn R (fun _ _ h=>h) fun p σ' D C oC s' g m mo fz e hC R' hn=>?_;refine jU hC fun es ep hd hk=>?_;refine ⟨Ez es,(Y2 oC es ⟨ep,R'.mC,hd,hk,fun _=>rfl⟩),fun h' hs=>?_⟩;exact (Y2 _ σ' ⟨e.symm,(R'.oq (g8 fun vs q=>by rw[hd] at q;cases q) (k:=s'.toks) hs.extBut hn).rel⟩)
theorem SS.SK {pos Z0:Pos} (O:Own c) (HE:cI ev c) (H1:∀ c1:Cx,c1.fu=c.fu→c1.w=c.w→cI ev c1∧nu ev c1) :
  SS c (exec (.Assign [.Name y py] (.ListComp elt gens cK pos) Z0) c.env) σ ((Mine.comp ev c.env.scope elt gens cK >>= fun p=>o9 y (.p p) >>= fun _=>pure .next) σ):=by
 refine .mk fun r h hn aD tv hid s R=>?_;refine W3 (By h hn) fun x px iter ifs zz h=>?_;obtain rfl:=zz;refine bC ((c.env.blockKind == .function&&c.env.kindOf y==some .local&&py.line==pos.line && !(cK.names.any fun (n,k)=>n==y&&(k == .local||k == .cell)))) (fun hsw=>?_) fun hsw=>?_
 ·have XM:swapsWith (.ListComp elt [⟨.Name x px,iter,ifs,0⟩] cK pos) (some (.Name y py)) Z0.line c.env=pure true:=by
   show (pure _:Sem Bool)=_;rw[← hsw];rfl
  rw[exec_Assign_Name_used _ _ _ _ XM];refine wpAny_bind (gA (wpAny_bind ?_));refine wpAny_bind (Dh (use:=some (w4 (.Name y py) c.env)) HE H1 h hn R (fun _ _ h=>h) fun p σ' D C oC s' g m mo fz e hC R' _=>?_);refine iT (vR O e hn R'.rel fun b5 cD r8 cX=>?_);refine jU hC fun es ep hd hk=>?_;refine iM (cX) fun g m mo fz cX=>?_;refine ⟨Ez es,(Y2 oC es ⟨ep,cX.mC,hd,hk,fun _=>rfl⟩),fun h' hs=>?_⟩;exact wpAny_pure (wpAny_pure (Y2 (.next) b5 ⟨r8.symm,(cX.oq (g8 fun vs q=>by rw[hd] at q;cases q) (k:=cD.toks) hs.extBut (cX.jY (cX.qC O))).rel⟩))
 ·have XM:swapsWith (.ListComp elt [⟨.Name x px,iter,ifs,0⟩] cK pos) (some (.Name y py)) Z0.line c.env=pure false:=by
   show (pure _:Sem Bool)=_;rw[← hsw];rfl
  refine wpAny_Assign_Name ?_ XM;refine Dh (use:=e8) HE H1 h hn R (fun _ _ h=>h) fun p σ' D C oC s' g m mo fz e hC R' hl=>?_;refine jU hC fun es ep hd hk=>?_;refine ⟨Ez es,(Y2 oC es ⟨ep,R'.mC,hd,hk,fun _=>rfl⟩),fun h' hs=>?_⟩;exact vR O e hn (R'.oq (g8 fun vs q=>by rw[hd] at q;cases q) (k:=s'.toks) hs.extBut hl).rel fun b5 cD r8 cX=>(Y2 (.next) b5 ⟨r8.symm,cX⟩)
end
section
theorem Rl.grown (R:Rl c σ aD tv hid s g m mo fz) (hk:∀ b o,s.heap.get? b=some o→h'.get? b=some o):Rl c σ aD tv hid { s with heap:=h',toks:=k } g m mo fz:=
 ⟨R.gh,⟨⟨R.core.F.ns.keeps hk,fun b o e=>hk _ _ (R.core.F.keep b o e),R.core.F.above⟩,fun p hp=>⟨hk _ _ (R.core.N p hp).1,(R.core.N p hp).2⟩,R.core.nd,R.core.dj,R.core.dh,R.core.nh⟩,R.p8,R.loc,R.aP,R.aD,R.gens,R.os,R.dw⟩
theorem vg {f:α→Option β} {g:β→α} (hf:∀ a b,f a=some b→a=g b) {l:List α} {m:List β} (h:C9 f l=some m):l=m.map g:=by
 induction l generalizing m with
 | nil=>exact aC h ▸ rfl
 | cons a r ih=>exact bU (aY.mp h) fun b h1 h=>bU (aQ.mp h) fun q h2 e=>e ▸ congr (aK Ss (hf a b h1)) (ih h2)
theorem zv (h:Mk p=some i):p = .int i:=by
 cases p<;>first | exact aK P.int (aC h) | exact nomatch h
theorem GL {i:Str} (h:QX p=some i):p = .str i:=by
 cases p<;>first | exact aK P.str (aC h) | exact nomatch h
theorem TX {ns:List Int} (h:jS b fz (ns.map P.int) vs):∃ xs:List (Int × Tok),vs=xs.map (fun p=>Value.int p.1 p.2)∧xs.map (·.1)=ns:=by
 induction ns generalizing vs with
 | nil=>exact ⟨[],h.inv,rfl⟩
 | cons n ns ih=>exact Eo h.inv fun v r e a hr=>eU a.inv fun t ev=>bU (ih hr) fun xs e1 e2=>⟨(n,t) :: xs,e.trans (congr (aK Ss ev) e1),aK (n :: ·) e2⟩
theorem sr {ns:List Int} (h:jS b fz (ns.map P.int) vals.toList):∃ xs:eF (Int × Tok),vals=intItems xs∧xs.toList.map (·.1)=ns:=by
 refine bU (TX h) fun xs e1 e2=>?_;refine ⟨xs.toArray,?_,by exact e2⟩;unfold intItems;apply rN;rw[e1];simp
theorem UX {vs:List P} (h:D8 vs=some i):∃ ns:List Int,vs=ns.map P.int∧i=ns.sum:=
 bU (aQ.mp h) fun ns h1 e=>⟨ns,vg (fun _ _=>zv) h1,e.symm⟩
theorem Um {vs:List P} (h:Gm vs=some i):∃ ns:List Int,vs=ns.map P.int∧i∈ns∧∀ a∈ns,i≤a:=
 bU (aY.mp h) fun ns h1 e=>⟨ns,vg (fun _ _=>zv) h1,JE.mp e⟩
theorem Ui {vs:List P} (h:IS vs=some i):∃ ns:List Int,vs=ns.map P.int∧i∈ns∧∀ a∈ns,a≤i:=
 bU (aY.mp h) fun ns h1 e=>⟨ns,vg (fun _ _=>zv) h1,JD.mp e⟩
theorem IsList.cast {v w:eF ah} (x:h.IsList l v) (e:v=w):h.IsList l w:=e ▸ x
theorem KW {a:α} (h:Uq a σ≠.fail):σ.dw = .no∧Uq a σ = .ok a σ:=by
 unfold Uq at *;by_cases q:σ.dw = .no
 ·exact ⟨q,aA q⟩
 ·rw[aS q] at h;exact absurd rfl h
theorem DT {a:α} {r:Res α} (h:Uq a σ=r) (hn:r≠.fail):σ.dw = .no∧r = .ok a σ:=by
 subst h;exact KW hn
theorem Z3 {a:V} (h:yX c.K D8 a σ=r) (hn:r≠.fail) (R:Rl c σ aD tv hid s g m mo fz) (ha:VR c.base fz (bh mo) a va) :
  aF c.M c.A (call (.builtin "sum") [va]) (iZ c r aD tv hid) E s:=by
 refine Hi (mO R ha h hn) fun ps l vals h ael hl h1=>?_;rw[ael];refine bU (bK h hn) fun i q h=>?_
 ·refine cz (DT h hn) fun hh e2=>?_
  refine bU (UX q) fun ns aem aen=>?_;obtain rfl:=aem;obtain rfl:=aen;refine bU (sr h1) fun xs aeo hx=>?_;obtain rfl:=aeo;refine sum_intListG (R.dw.1 hh) hl fun h' tk t' hk=>?_;rw[preSum_eq,dP (by simp),hx];exact (Y2 _ σ ⟨e2,((R.grown hk).push VR.int).rel⟩)
theorem Yn {a:V} (h:yX c.K Gm a σ=r) (hn:r≠.fail) (R:Rl c σ aD tv hid s g m mo fz) (ha:VR c.base fz (bh mo) a va) :
  aF c.M c.A (call (.builtin "min") [va]) (iZ c r aD tv hid) E s:=by
 refine Hi (mO R ha h hn) fun ps l vals h aep hl h1=>?_;rw[aep];refine bU (bK h hn) fun i q h=>?_
 ·refine cz (DT h hn) fun hh e2=>?_
  refine nv (Um q) fun ns aeq h2 h3=>?_;obtain rfl:=aeq;refine bU (sr h1) fun xs aer hx=>?_;obtain rfl:=aer;have kC:0<xs.size:=by
   have:=Hu h2;rw[← hx] at this;simpa using this
  refine min_intList (R.dw.1 hh) hl kC fun v h' tk hv hk=>?_;refine eU (intItems_at hv) fun t aes=>?_;rw[aes];refine cz (argBest_lt (vM xs) (xs.size - 1)) fun b1 b2=>?_;have hle:xs.size=ns.length:=by rw[← hx];simp
  have qD:vM xs (argBest (fun i j=>decide (vM xs i<vM xs j)) (xs.size - 1))∈ns:=by
   rw[V9,hx];exact getD_mem (by exact acw b1 (zB (RZ kC)) (zA hle))
  have heq:vM xs (argBest (fun i j=>decide (vM xs i<vM xs j)) (xs.size - 1))=i:=by
   refine Bh ?_ (h3 _ qD);refine bU (mem_getD h2) fun j hj ej=>?_;have:=b2 j (by exact XZ hj (zG hle) (zS _ _));rw[V9 xs j,hx,ej] at this;exact this
  rw[heq];exact (Y2 _ σ ⟨e2,((R.grown hk).push VR.int).rel⟩)
theorem Yj {a:V} (h:yX c.K IS a σ=r) (hn:r≠.fail) (R:Rl c σ aD tv hid s g m mo fz) (ha:VR c.base fz (bh mo) a va) :
  aF c.M c.A (call (.builtin "max") [va]) (iZ c r aD tv hid) E s:=by
 refine Hi (mO R ha h hn) fun ps l vals h aet hl h1=>?_;rw[aet];refine bU (bK h hn) fun i q h=>?_
 ·refine cz (DT h hn) fun hh e2=>?_
  refine nv (Ui q) fun ns aeu h2 h3=>?_;obtain rfl:=aeu;refine bU (sr h1) fun xs aev hx=>?_;obtain rfl:=aev;have kC:0<xs.size:=by
   have:=Hu h2;rw[← hx] at this;simpa using this
  refine max_intList (R.dw.1 hh) hl kC fun v h' tk hv hk=>?_;refine eU (intItems_at hv) fun t aew=>?_;rw[aew];refine cz (argBest_gt (vM xs) (xs.size - 1)) fun b1 b2=>?_;have hle:xs.size=ns.length:=by rw[← hx];simp
  have qD:vM xs (argBest (fun i j=>decide (vM xs i>vM xs j)) (xs.size - 1))∈ns:=by
   rw[V9,hx];exact getD_mem (by exact acw b1 (zB (RZ kC)) (zA hle))
  have heq:vM xs (argBest (fun i j=>decide (vM xs i>vM xs j)) (xs.size - 1))=i:=by
   refine Bh (h3 _ qD) ?_;refine bU (mem_getD h2) fun j hj ej=>?_;have:=b2 j (by exact XZ hj (zG hle) (zS _ _));rw[V9 xs j,hx,ej] at this;exact this
  rw[heq];exact (Y2 _ σ ⟨e2,((R.grown hk).push VR.int).rel⟩)
end
section
theorem XO:aZ=2 ^ 24:=rfl
set_option tactic.hygienic true in
theorem Ue {a:V} (h:Ye c.K a σ=r) (hn:r≠.fail) (R:Rl c σ aD tv hid s g m mo fz) (ha:VR c.base fz (bh mo) a va):aF c.M c.A (call (.builtin "len") [va]) (iZ c r aD tv hid) E s:=by
 have hz:=XO;unfold Ye at h;refine oC (strOf a) (fun q=>?_) fun x q=>?_
 ·rw[q] at h
  refine Hi (mO R ha h hn) fun ps l vals h aey hl h1=>?_;obtain rfl:=aey;refine cz (bW h hn) fun hc h=>?_;have hz:=h1.length;rw[cH] at hz;refine Calls.call_len_list hl (by (rename_i i2' nV;exact (zI [↑vals.size,↑ps.length,↑aZ] 0 (.g bH cQ (.g cQ jg (.g jg (.num 16777216) .e))) (.add bH eB) (.num 9223372036854775808) zC (zO (zA hz)) (zO hc) (zO (zA i2'))))) (R.val ?_ fun _ _ _=>.int);rw[hz];exact h.symm
 ·rw[q] at h
  refine eU (ha.pG q) fun _ aex=>?_;obtain rfl:=aex;refine cz (bW h hn) fun hc h=>?_;exact len_str (by exact fun pM=>(zJ [↑x.length,↑aZ] (.g (.num 9223372036854775808) bH (.g bH cQ (.g cQ (.num 16777216) .e))) zC pM (zO hc) (zO (zA hz)))) (R.val h.symm fun _ _ _=>.int)
theorem SY {a:V} (h:abg a σ=r) (hn:r≠.fail) (R:Rl c σ aD tv hid s g m mo fz) (ha:VR c.base fz (bh mo) a va):aF c.M c.A (call (.builtin "chr") [va]) (iZ c r aD tv hid) E s:=by
 refine bU (bK h hn) fun i hi h=>?_;refine cz (bW h hn) fun hc h=>?_;refine eU (ha.pC hi) fun _ aez=>?_;obtain rfl:=aez;exact chr_of_range hc.1 (by exact zI [i] 0 (.g (.add bH eB) (.num 256) .e) bH (.num 1114111) zC hc.2) (R.val h.symm fun _ _ _=>.str)
theorem Ut {a:V} (h:adx a σ=r) (hn:r≠.fail) (R:Rl c σ aD tv hid s g m mo fz) (ha:VR c.base fz (bh mo) a va):aF c.M c.A (call (.builtin "ord") [va]) (iZ c r aD tv hid) E s:=by
 refine bU (bK h hn) fun x hi h=>?_;refine cz (bW h hn) fun hc h=>?_;refine eU (ha.pG hi) fun _ aeA=>?_;obtain rfl:=aeA;exact ord_of_one hc (R.val h.symm fun _ _ _=>.int)
theorem LG {a:V} (h:HQ c.K id a σ=r) (hn:r≠.fail) (R:Rl c σ aD tv hid s g m mo fz) (ha:VR c.base fz (bh mo) a va):aF c.M c.A (call (.builtin id) [va]) (iZ c r aD tv hid) E s:=by
 unfold HQ at h;by_cases q:id="len"
 ·rw[aA q] at h;rw[q];exact Ue h hn R ha
 rw[aS q] at h;clear q;by_cases q:id="chr"
 ·rw[aA q] at h;rw[q];exact SY h hn R ha
 rw[aS q] at h;clear q;by_cases q:id="ord"
 ·rw[aA q] at h;rw[q];exact Ut h hn R ha
 rw[aS q] at h;clear q;by_cases q:id="sum"
 ·rw[aA q] at h;rw[q];exact Z3 h hn R ha
 rw[aS q] at h;clear q;by_cases q:id="min"
 ·rw[aA q] at h;rw[q];exact Yn h hn R ha
 rw[aS q] at h;clear q;by_cases q:id="max"
 ·rw[aA q] at h;rw[q];exact Yj h hn R ha
 rw[aS q] at h;exact absurd h.symm hn
theorem Js {a:V} {n:dD} (h:tyName a=some n) (ha:VR b fz μ a va):∀ s:aG,s.TypeIs va n∧(n="int"∨n="str"):=by
 refine (Option.or_eq_some_iff.mp h).elim (fun h=>?_) fun h=>?_
 ·exact bU (wH h) fun i hi e=>eU (ha.pC hi) fun t ev=>e ▸ ev ▸ fun s=>⟨typeIs_int _ _ _,.inl rfl⟩
 ·exact bU (wH h.2) fun i hi e=>eU (ha.pG hi) fun t ev=>e ▸ ev ▸ fun s=>⟨mS _ _ _,.inr rfl⟩
theorem TV {a:V} (h:acr a σ=r) (hn:r≠.fail) (R:Rl c σ aD tv hid s g m mo fz) (ha:VR c.base fz (bh mo) a va):aF c.M c.A (call (.type "int") [va]) (iZ c r aD tv hid) E s:=by
 cases a with
 | p x=>cases x with
  | int i=>exact eU ha.inv.inv fun t ev=>ev ▸ call_int_int (R.Ju h.symm fun _ _ _=>.int)
  | bool b=>exact (show va=_ from ha.inv.inv) ▸ call_int_bool (R.val h.symm fun _ _ _=>.int)
  | _=>exact absurd h.symm hn
 | _=>exact absurd h.symm hn
theorem Ja {x y z:Int} {tx ty tz:Tok} (h:(.ok (.p (.rj x y z)) σ:Res V)=r) (R:Rl c σ aD tv hid s g m mo fz):iZ c r aD tv hid (.ref s.heap.objs.size) { s with heap:=s.heap.push (CK x tx y ty z tz),toks:=k }:=
 (Y2 _ σ ⟨h.symm,((R.sC (CK _ _ _ _ _ _) rfl).push (.p (.rj (.inl (.head _))))).rel.toks⟩)
theorem Rk {a:V} (h:Rj id a σ=r) (hn:r≠.fail) (R:Rl c σ aD tv hid s g m mo fz) (ha:VR c.base fz (bh mo) a va):aF c.M c.A (call (.type id) [va]) (iZ c r aD tv hid) E s:=by
 unfold Rj at h;by_cases q:id="type"
 ·rw[aA q] at h;rw[q]
  refine bU (bK h hn) fun n hi h=>?_;refine cz (Js hi ha s) fun h1 h2=>?_;rcases h2 with rfl | rfl
  ·exact call_type_of (Tx:="int") h1 rfl (R.Ju h.symm fun _ _ _=>.p (.ty _))
  ·exact call_type_of (Tx:="str") h1 rfl (R.Ju h.symm fun _ _ _=>.p (.ty _))
 rw[aS q] at h;clear q;by_cases q:id="int"
 ·rw[aA q] at h;rw[q];exact TV h hn R ha
 rw[aS q] at h;clear q;by_cases q:id="range"
 ·rw[aA q] at h;rw[q]
  refine bU (bK h hn) fun i hi h=>?_;refine eU (ha.pC hi) fun _ aeB=>?_;obtain rfl:=aeB;exact call_range_1 (Ja h R)
 rw[aS q] at h;exact absurd h.symm hn
theorem O0 (h:XA x=some i):(x="3D"∧i=61)∨(x="E9"∧i=233):=by
 unfold XA at h;by_cases q:x="3D"
 ·rw[aA q] at h;cases h;exact .inl ⟨q,rfl⟩
 rw[aS q] at h;by_cases q:x="E9"
 ·rw[aA q] at h;cases h;exact .inr ⟨q,rfl⟩
 rw[aS q] at h;cases h
theorem Rn {a b:V} (h:Rm id a b σ=r) (hn:r≠.fail) (R:Rl c σ aD tv hid s g m mo fz) (ha:VR c.base fz (bh mo) a va) (hb:VR c.base fz (bh mo) b vb):aF c.M c.A (call (.type id) [va,vb]) (iZ c r aD tv hid) E s:=by
 unfold Rm at h;by_cases q:id="int"
 ·rw[aA q] at h;rw[q]
  refine bU (bK h hn) fun x hx h=>?_;refine bU (bK h hn) fun i hi h=>?_;refine cz (bW h hn) fun hk h=>?_;refine bU (bK h hn) fun j hj h=>?_;subst hk;refine eU (ha.pG hx) fun _ aeC=>?_;rw[aeC];refine eU (hb.pC hi) fun _ aeD=>?_;obtain rfl:=aeD;rcases O0 hj with ⟨rfl,rfl⟩ | ⟨rfl,rfl⟩
  ·exact Fc (R.val h.symm fun _ _ _=>.int)
  ·exact Fd (R.val h.symm fun _ _ _=>.int)
 rw[aS q] at h;clear q;by_cases q:id="range"
 ·rw[aA q] at h;rw[q]
  refine bU (bK h hn) fun x hx h=>?_;refine bU (bK h hn) fun y hy h=>?_;refine eU (ha.pC hx) fun _ aeE=>?_;obtain rfl:=aeE;refine eU (hb.pC hy) fun _ aeF=>?_;obtain rfl:=aeF;exact call_range_2 (Ja h R)
 rw[aS q] at h;exact absurd h.symm hn
theorem MS {a b d:V} {va vb vd:ah} (h:Qs a b d σ=r) (hn:r≠.fail) (R:Rl c σ aD tv hid s g m mo fz) (ha:VR c.base fz (bh mo) a va) (hb:VR c.base fz (bh mo) b vb) (hd:VR c.base fz (bh mo) d vd) :
  aF c.M c.A (call (.type "range") [va,vb,vd]) (iZ c r aD tv hid) E s:=by
 refine bU (bK h hn) fun x hx h=>?_;refine bU (bK h hn) fun y hy h=>?_;refine bU (bK h hn) fun z hz h=>?_;refine cz (bW h hn) fun hc h=>?_;refine eU (ha.pC hx) fun _ aeG=>?_;obtain rfl:=aeG;refine eU (hb.pC hy) fun _ aeH=>?_;obtain rfl:=aeH;refine eU (hd.pC hz) fun _ aeI=>?_;rw[aeI];refine xM hc fun aeJ h2 h3=>?_;obtain rfl:=aeJ;exact call_range_3 (by decide) (Ja h R) (.inl (El (by exact ni rfl)))
theorem F7 {a:V} (h:DE a=true) (ha:VR b fz μ a va):va = .type "str":=by
 unfold DE at h;split at h
 ·rw[beq_iff_eq] at h
  subst h;cases ha with | p ha=>cases ha;rfl
 ·cases h
theorem TZ {a b:V} (h:acu id a b σ=r) (hn:r≠.fail) (R:Rl c σ aD tv hid s g m mo fz) (ha:VR c.base fz (bh mo) a va) (hb:VR c.base fz (bh mo) b vb):aF c.M c.A (call (.builtin id) [va,vb]) (iZ c r aD tv hid) E s:=by
 refine cz (bW h hn) fun aeK h=>?_;refine cz aeK fun hi ht=>?_;refine bU (bK h hn) fun x hx h=>?_;refine eU (ha.pG hx) fun _ aeL=>?_;rw[aeL];rw[hi,F7 ht hb];exact IsiPair.str_str (R.Ju h.symm fun _ _ _=>.bool)
theorem eW.MB (h:eW b fz μ [] vs):vs=[]:=by cases h;rfl
theorem eW.Fg (h:eW b fz μ (u :: us) vs):∃ v Jv,vs=v :: Jv∧VR b fz μ u v∧eW b fz μ us Jv:=by
 cases h with | cons a r=>exact (Y2 _ _ ⟨rfl,a,r⟩)
theorem LH (h:Of c.K id us σ=r) (hn:r≠.fail) (R:Rl c σ aD tv hid s g m mo fz) (hv:eW c.base fz (bh mo) us vs):aF c.M c.A (call (.builtin id) vs) (iZ c r aD tv hid) E s:=by
 cases us with
 | nil=>exact absurd h.symm hn
 | cons a us =>
 obtain ⟨va,vs,rfl,ha,hv⟩:=hv.Fg;cases us with
 | nil=>rw[hv.MB];exact LG h hn R ha
 | cons b us =>
 obtain ⟨vb,vs,e0',hb,hv⟩:=hv.Fg;rw[e0'];cases us with
 | nil=>rw[hv.MB];exact TZ h hn R ha hb
 | cons _ _=>exact absurd h.symm hn
theorem LI (h:Og id us σ=r) (hn:r≠.fail) (R:Rl c σ aD tv hid s g m mo fz) (hv:eW c.base fz (bh mo) us vs):aF c.M c.A (call (.type id) vs) (iZ c r aD tv hid) E s:=by
 cases us with
 | nil =>
  rw[hv.MB];refine cz (bW h hn) fun aeM h=>?_;obtain rfl:=aeM;exact SW fun h' hk=>(Y2 _ σ ⟨h.symm,(((R.sC Ft rfl).grown (k:=s.toks) hk).push (.p (.dq (.inl (.head _)) rfl rfl))).rel⟩)
 | cons a us =>
 obtain ⟨va,vs,e0',ha,hv⟩:=hv.Fg;rw[e0'];cases us with
 | nil=>rw[hv.MB];exact Rk h hn R ha
 | cons b us =>
 obtain ⟨vb,vs,e0',hb,hv⟩:=hv.Fg;rw[e0'];cases us with
 | nil=>rw[hv.MB];exact Rn h hn R ha hb
 | cons d us =>
 obtain ⟨vd,vs,rfl,hd,hv⟩:=hv.Fg;cases us with
 | nil =>
  rw[hv.MB];refine cz (bW h hn) fun aeN h=>?_;rw[aeN];exact MS h hn R ha hb hd
 | cons _ _=>exact absurd h.symm hn
theorem E2 {f:P} (h:vq c.K f us σ=r) (hn:r≠.fail) (R:Rl c σ aD tv hid s g m mo fz) (hf:PV c.base fz f fv) (hv:eW c.base fz (bh mo) us vs) :
  aF c.M c.A (call fv vs) (iZ c r aD tv hid) E s:=by
 cases f with
 | bi id =>
  obtain rfl:fv = .builtin id:=by cases hf;rfl
  exact LH h hn R hv
 | ty id =>
  obtain rfl:fv = .type id:=by cases hf;rfl
  exact LI h hn R hv
 | _=>exact absurd h.symm hn
end
section
open PySem.Builtin
section
theorem Ar {vs:List P} (h:strsOf vs=some ts):vs=ts.map P.str:=vg (fun _ _=>GL) h
theorem Ao (h:jS b fz (ts.map P.str) vs):∃ l:List (Str × Tok),vs=EC l∧l.map (·.1)=ts:=by
 induction ts generalizing vs with
 | nil=>exact ⟨[],h.inv,rfl⟩
 | cons n ns ih=>exact Eo h.inv fun v r e a hr=>eU a.inv fun t ev=>bU (ih hr) fun xs e1 e2=>⟨(n,t) :: xs,e.trans (congr (aK Ss ev) e1),aK (n :: ·) e2⟩
theorem jS.strs {b:Heap} {fz:Led}:∀ (l:List (Str × Tok)),jS b fz ((l.map (·.1)).map P.str) (EC l)
 | []=>.nil
 | _ :: l=>.cons (.str _ _) (jS.strs l)
theorem PD (hc:x.length≤2 ^ 20) (hd:(B0 x).length≤2 ^ 20) (h:(.ok (.p (.lst ((uU x).map P.str))) σ:Res V)=r) (R:Rl c σ aD tv hid s g m mo fz) :
  aF c.M c.A (call (.builtin "str.splitlines") [.str x t]) (iZ c r aD tv hid) E s:=by
 have hz:=XO;refine uS NQ (mS _ _ _) F.entry_str_splitlines (F.args_str_splitlines_1 _) (meets_str_splitlines x t (by exact fc hc) (by exact fc hd)) ?_;have fin:∀ (l:List (Str × Tok)) (k:Nat),l.map (·.1)=uU x→iZ c r aD tv hid (.ref s.heap.objs.size) { s with heap:=s.heap.push { cls:=.type "list",data:=.seq (EC l).toArray },toks:=k }:=fun l k hl=>by
  have R2:=R.sC (o:={ cls:=.type "list",data:=.seq (EC l).toArray }) rfl;refine (Y2 _ σ ⟨h.symm,(R2.push (.p (.lst (.inl (.head _)) ⟨rfl,rfl,rfl⟩ rfl ?_))).rel.toks⟩);rw[← hl];exact jS.strs l
 cases hw:B0 x==[(0,x.length)]
 ·skip
  rw[strsFrom_eq];exact fin (numbered s.toks (uU x)) _ (numbered_texts _ _)
 ·skip
  refine fin [(x,t)] s.toks ?_;unfold uU;rw[beq_iff_eq.mp hw];show [x]=[strSub x 0 x.length];rw[StrLaws.sub_whole]
theorem QU (h:QT x id σ=r) (hn:r≠.fail) (R:Rl c σ aD tv hid s g m mo fz):aF c.M c.A (call (.builtin id) [.str x t]) (iZ c r aD tv hid) E s:=by
 have hz:=XO;unfold QT at h;by_cases q:id="str.lstrip"
 ·rw[aA q] at h;rw[q]
  refine cz (bW h hn) fun hc h=>?_;exact SC.lstrip (fun t' k=>R.val h.symm fun _ _ _=>.str) (by exact fc hc)
 rw[aS q] at h;clear q;by_cases q:id="str.rstrip"
 ·rw[aA q] at h;rw[q]
  refine cz (bW h hn) fun hc h=>?_;exact SC.rstrip (fun t' k=>R.val h.symm fun _ _ _=>.str) (by exact fc hc)
 rw[aS q] at h;clear q;by_cases q:id="str.splitlines"
 ·rw[aA q] at h;rw[q]
  refine cz (bW h hn) fun aeO h=>?_;refine cz aeO fun hc hd=>?_;exact PD hc hd h R
 rw[aS q] at h;exact absurd h.symm hn
theorem UU (h:D7 c.K x id us σ=r) (hn:r≠.fail) (R:Rl c σ aD tv hid s g m mo fz) (hv:eW c.base fz (bh mo) us vs)
  (TR:∀ (a:V) (v:ah),VR c.base fz (bh mo) a v→U3 c.K x a σ=r→aF c.M c.A (call (.builtin "str.translate") [.str x t,v]) (iZ c r aD tv hid) E s) :
  aF c.M c.A (call (.builtin id) (.str x t :: vs)) (iZ c r aD tv hid) E s:=by
 cases us with
 | nil=>rw[hv.inv];exact QU h hn R
 | cons u us=>?_
 cases us with
 | cons _ _=>exact absurd h.symm hn
 | nil =>
  refine Eo hv.inv fun va w e a q=>?_;rw[e,q.inv];have h:QV c.K x id u σ=r:=h;unfold QV at h;by_cases q:id="str.endswith"
  ·rw[aA q] at h;rw[q]
   refine bU (bK h hn) fun y hy h=>?_;refine eU (a.pG hy) fun _ aeP=>?_;obtain rfl:=aeP;exact SC.endswith (R.Ju h.symm fun _ _ _=>.bool)
  rw[aS q] at h;clear q;by_cases q:id="str.count"
  ·rw[aA q] at h;rw[q]
   refine bU (bK h hn) fun y hy h=>?_;refine eU (a.pG hy) fun _ aeQ=>?_;obtain rfl:=aeQ;exact SC.count (R.val h.symm fun _ _ _=>.int)
  rw[aS q] at h;clear q;by_cases q:id="str.translate"
  ·rw[aA q] at h;rw[q]
   exact TR _ _ a h
  rw[aS q] at h;clear q;by_cases q:id="str.join"
  ·rw[aA q] at h;rw[q]
   refine Hi (mO R a h hn) fun ps l vals h' aeR hl h1=>?_;rw[aeR];refine bU (bK h' hn) fun ts hu h''=>?_;refine cz (bW h'' hn) fun aeS Pg=>?_;refine cz aeS fun hc hd=>?_;have xQ:=Ar hu;subst xQ;refine bU (Ao h1) fun sv e4 e5=>?_;refine SC.join (texts:=ts) (l:=sv) (IsList.cast hl (rN (by rw[e4]))) e5 ?_ fun t' k=>R.val Pg.symm fun _ _ _=>.str;unfold JoinOk;rw[hc];rfl
  rw[aS q] at h;exact absurd h.symm hn
end
end
section
open PySem.Builtin
section
theorem U1 {tb:List P} (h:jS b fz tb vals.toList) (hz:tb.length≤2 ^ 16) {cs:List Nat} (e:Z5 tb cs=some ts) (ha:(ts.all fun t=>decide (t.length≤16))=true):Tr vals cs ts:=by
 induction cs generalizing ts with
 | nil=>exact aC e ▸ .nil
 | cons ch r ih =>
  refine bU (aY.mp e) fun t q e=>bU (aQ.mp e) fun ts' q' e=>bU (aY.mp q) fun u q1 q2=>?_;rw[← e] at ha ⊢;have ha:=bQ.mp ha;refine bU (h.get q1) fun v hv hp=>?_;rw[GL q2] at hp;refine eU hp.inv fun k ek=>.cons ?_ (cA ha.1) ((Array.getElem?_toList ..).symm.trans (ek ▸ hv)) (ih q' ha.2);exact oH (.g (.s au) aE (.g aE (.n 65536) .e)) (.s au) (.n 1048576) zC (az.mp q1).1 hz
theorem D9 {a:V} (h:U3 c.K x a σ=r) (hn:r≠.fail) (R:Rl c σ aD tv hid s g m mo fz) (hv:VR c.base fz (bh mo) a v) :
  aF c.M c.A (call (.builtin "str.translate") [.str x t,v]) (iZ c r aD tv hid) E s:=by
 refine Hi (mO R hv h hn) fun ps l vals h aeT hl h1=>?_;rw[aeT];refine bU (bK h hn) fun ts hu h=>?_;refine cz (bW h hn) fun aeU h=>?_;refine xM aeU fun hc hd hf=>?_;exact yQ hl hc (U1 h1 hd hu hf) fun t' k=>R.val h.symm fun _ _ _=>.str
theorem QW (h:D7 c.K x id us σ=r) (hn:r≠.fail) (R:Rl c σ aD tv hid s g m mo fz) (hv:eW c.base fz (bh mo) us vs) :
  aF c.M c.A (call (.builtin id) (.str x t :: vs)) (iZ c r aD tv hid) E s:=
 UU h hn R hv fun _ _ a h=>D9 h hn R a
theorem Gy {f:List P→Mo β} {r:Res β} (h:(Qd k >>= f) σ=r) (hn:r≠.fail):∃ vs,σ.aP[k]?=some (.list vs)∧f vs σ=r:=by
 have h:iN (Qd k σ) f=r:=h;unfold Qd at h;refine oC (σ.aP[k]?) (fun q=>?_) fun o q=>?_
 ·rw[q] at h;exact absurd h.symm hn
 ·rw[q] at h
  cases o with
  | list vs=>exact ⟨vs,rfl,h⟩
  | _=>exact absurd h.symm hn
theorem eW.MM {f:V→Mo β} {r:Res β} (h:(match us with | [a]=>f a | _=>Mo.fail) σ=r) (hn:r≠.fail) (hv:eW b fz μ us vs):∃ a v,us=[a]∧vs=[v]∧VR b fz μ a v∧f a σ=r:=by
 cases hv with
 | nil=>exact absurd h.symm hn
 | cons a w =>
  cases w with
  | nil=>exact (Y2 _ _ ⟨rfl,rfl,a,h⟩)
  | cons _ _=>exact absurd h.symm hn
theorem DK (h:Ga k ps "append" us σ=r) (hn:r≠.fail) (h1:σ.aP[k]?=some (.list ps)) (ha:(bh mo)[k]?=some a) (R:Rl c σ aD tv hid s g m mo fz) (hv:eW c.base fz (bh mo) us vs) :
  aF c.M c.A (call (.builtin "list.append") (.ref a :: vs)) (iZ c r aD tv hid) E s:=by
 refine W2 (eW.MM h hn hv) fun u v ak5 aeV hu h=>?_;rw[aeV];refine bU (bK (o:=mQ u) (f:=LA k ps) h hn) fun x hx h=>?_;have hu:=hu.uI hx;refine cz (bW h hn) fun hc h=>?_;refine nv (R.kX ha h1) fun o ho hh aeW=>?_;refine jU aeW fun vals n' aeX hv=>?_;obtain rfl:=aeX;have z1:=hv.length;refine vm hh (by exact sy (zA z1) hc zC) ?_;exact (Y2 _ _ ⟨h.symm,(R.qh (ws:=ps++[x]) ho (by simpa using hv.append (.cons hu .nil))).push fun _ _ _=>.p .none⟩)
set_option tactic.hygienic true in
theorem DL (h:Ga k ps "extend" us σ=r) (hn:r≠.fail) (h1:σ.aP[k]?=some (.list ps)) (ha:(bh mo)[k]?=some a) (R:Rl c σ aD tv hid s g m mo fz) (hv:eW c.base fz (bh mo) us vs) :
  aF c.M c.A (call (.builtin "list.extend") (.ref a :: vs)) (iZ c r aD tv hid) E s:=by
 refine W2 (eW.MM h hn hv) fun u v ak6 aeY hu h=>?_;rw[aeY];refine bU (bK (o:=wG u) (f:=OC k ps) h hn) fun xs hx h=>?_;refine cz (bW h hn) fun hc h=>?_;cases hu.acT hx with | lst g1 g2 g3 g4 =>
 rename_i a2 o2 n2 vals2;refine nv (R.kX ha h1) fun o ho hh aeZ=>?_;refine jU aeZ fun vals n' ae0 hv=>?_;obtain rfl:=ae0;have hg:=R.at g1;obtain ⟨cl,dd,dt,sl⟩:=o2;refine xM g2 fun q1 q2 q3=>?_;simp only at q1 q2 q3 g3;subst q1 q2 q3 g3;have z1:=hv.length;have z2:=g4.length;have hz:aZ=2 ^ 24:=rfl;have Pb:¬ (!vals.isEmpty&&gX (vals.size+vals2.size))=true:=by
  intro q;simp only [aR] at q;have:=q.2;unfold gX at this;simp only [br] at this;exact z0 [_,_,_,_,_] (.g (.n 16777216) au (.g (.s au) (.a aE aT) (.g aE bX (.g (.a bX fh) (.n 1048576) (.g aT fh .e))))) zC (zG hz) this (zA z1) hc (zA z2)
 refine uS Vn ⟨_,hh,rfl⟩ F.entry_list_extend (F.args_list_extend_2 _ _) (AutoSeq1.list_extend_list_list_0 a vals n' _ vals2 n2 Pb (by exact xV (.g au aT (.g (.a aT bX) (.n 1048576) (.g (.n 16777216) aE .e))) au aE zC (zA z1) hc (zG hz)) (by exact G7 (.g au bX (.g aE fh (.g (.a bX fh) (.n 1048576) (.g (.n 16777216) aT .e)))) (.a au aE) (.s aT) zC (zA z1) (zA z2) hc (zG hz))) ⟨hh,hg,?_⟩;exact (Y2 _ _ ⟨h.symm,(R.qh (ws:=ps++xs) ho (by simpa using hv.append g4)).push fun _ _ _=>.p .none⟩)
end
end
section
open PySem.Builtin
noncomputable def n8 (M:u7) (f:ah) (h:Heap):Prop:=∃ k,(k=Keeper.frame∨k=Keeper.machine∨k=Keeper.boundFrame)∧rX M h (keeperOf f) k
section
variable {M:u7} {A:fP} {E:ah→aG→Prop} {s:aG} {env:Env}
theorem oY {f:ah} {args:List (Bool × Sem ah)} {zD:List (Option Str × Sem ah)} {Q:Args→aG→Prop} (hn:args.any (·.1)=false) (hk:zD.all (·.1.isSome)=true)
  (h:aF M A (spliced args) (fun vs b3=>aF M A (evalAll (zD.map (·.2))) (fun ks cD=>Q ⟨vs,(zD.filterMap (·.1)).zip ks⟩ cD) E b3) E s):aF M A (evalArgs f true args zD) Q E s:=by
 match args,hn,h with
 | [],_,h =>
  refine wpAny_bind (wpAny_mono h (fun vs b3 q=>?_) fun _ _ x=>x);refine cF ?_;rw[aA hk];exact wpAny_bind (wpAny_mono q (fun ks cD q=>wpAny_bind (wpAny_pure (wpAny_pure q))) fun _ _ x=>x)
 | [(false,x)],_,h =>
  refine wpAny_bind (wpAny_mono h (fun vs b3 q=>?_) fun _ _ x=>x);refine cF ?_;rw[aA hk];exact wpAny_bind (wpAny_mono q (fun ks cD q=>wpAny_bind (wpAny_pure (wpAny_pure q))) fun _ _ x=>x)
 | (true,x) :: y :: r,hn,h=>cases hn
 | (false,x) :: y :: r,_,h =>
  refine wpAny_bind (wpAny_mono h (fun vs b3 q=>?_) fun _ _ x=>x);refine cF ?_;rw[aA hk];exact wpAny_bind (wpAny_mono q (fun ks cD q=>wpAny_bind (wpAny_pure (wpAny_pure q))) fun _ _ x=>x)
theorem sQ {pos:Pos}:∀ {es:List Expr},noStar es=true→(sP pos (j3 es env)).any (·.1)=false
 | [],_=>rfl
 | e :: es,h=>by
  unfold noStar at h;rw[EM,aR,dM] at h;rw[D6 h.1];show (false||(sP pos (j3 es env)).any (·.1))=false;rw[sQ (es:=es) h.2];rfl
theorem oE {o:Expr} {a:Str} {t:Sem ah} (h:nH o=true):attributeBase o a env t=t:=by
 cases o with
 | Call f args zD pos=>cases f with
  | Name id _=>cases args with
   | nil=>cases zD with
    | nil =>
     have h':(id != ("super":Str))=true:=h;exact aA (by rw[h'];rfl)
    | cons _ _=>rfl
   | cons _ _=>rfl
  | _=>rfl
 | _=>rfl
end
section
theorem iZ.drop {r:Res V} {u:V} {v w:ah} {s':aG} (h:iZ c r (u :: aD) (v :: tv) hid w s'):iZ c r aD tv hid w s':=by
 refine jU h fun x σ' e R=>?_;exact (Y2 x σ' ⟨e,R.adC⟩)
theorem xe (HE:cI ev c) {es:List Expr} {pos:Pos} {fv:ah} {first:List ah} {f:List V→Mo β} {r:Res β} {Q:ah→aG→Prop} (hn:noStar es=true) (R:Rel c σ aD tv hid s) (h:(jD (ev.E c.env.scope) es >>= f) σ=r) (yo:r≠.fail)
  (k:∀ us vs bx b3,f us bx = r→us.length=vs.length→Rel c bx (us.reverse++aD) (vs.reverse++tv) hid b3→n8 c.M fv b3.heap∧aF c.M c.A (call fv (first++vs)) Q E b3)
  (hE:∀ e s',kH c r aD tv hid e s'→E e s') :
  aF c.M c.A (callWith pos fv first (sP pos (j3 es c.env)) []) Q E s:=
 E9 (P:=n8 c.M fv) (by rw[sQ hn];rfl) (fun h p=>p) (oY (sQ hn) rfl (yc HE h yo R hE fun us bx vs b3 h₁ hl bN=>nK (k us vs bx b3 h₁ hl bN)))
theorem jX (id:dD) (h:Heap):n8 c.M (.builtin id) h:=⟨.machine,.inr (.inl rfl),u6 rfl⟩
theorem BY (T:dD) (h:Heap):n8 c.M (.type T) h:=⟨.machine,.inr (.inl rfl),u6 rfl⟩
set_option tactic.hygienic true in
theorem Te {K:Frag} {f:Addr} (h:fnIn K f=true):Sa K (.ref f)=true:=by
 unfold fnIn at h;dsimp only [Sa];split at h
 ·rename_i q
  simp only [q]
 ·cases h
theorem Rl.KX (R:Rl c σ aD tv hid s g m mo fz):c.K.In s.heap:=c.XB.keeps R.jo
set_option tactic.hygienic true in
theorem M1 {x:Str} {id:dD} (h:QS x=some id):Slot "str" x id∧typeOf (.builtin id)=pure (.type "method_descriptor"):=by
 unfold QS at h;simp only [aH] at h;repeat (split at h;(rename_i q;rw[beq_iff_eq.mp q];cases h;first | exact ⟨F.slot_str_lstrip,F.type_str_lstrip⟩ | exact ⟨F.slot_str_rstrip,F.type_str_rstrip⟩ | exact ⟨NQ,F.type_str_splitlines⟩ | exact ⟨F.slot_str_endswith,F.type_str_endswith⟩ | exact ⟨F.slot_str_count,F.type_str_count⟩ | exact ⟨RE,F.type_str_translate⟩ | exact ⟨ue,F.type_str_join⟩))
 cases h
theorem E4 {a:Addr} {us:List V} {ku:List (Str × V)} {vs kv:List ah} (HC:gC ev c) (hr:ev.C a us ku σ≠.fail) (Ex:us.length=vs.length) (ym:ku.length=kv.length) (hv:eW c.base fz (bh mo) us vs) (hk:eW c.base fz (bh mo) (ku.map (·.2)) kv)
  (R:Rl c σ aD tv hid s g m mo fz):aF c.M c.A (call (.ref a) vs ((ku.map (·.1)).zip kv)) (iZ c (ev.C a us ku σ) aD tv hid) E s:=by
 have R1:=(R.kj (hv.append (hk.append R.aD))).rel;refine jP (ql (HC a us ku σ c.A aD tv hid s vs kv (Alike.refl _) hr Ex ym R1) fun res s' rJ=>?_);exact bU rJ.el fun v ev h=>by rw[ev];exact h
noncomputable def NY (ev:Ev) (c:Cx) (aD:List V) (tv:List ah) (hid:Led) (o:V) (ov:ah) (mk:MK) (p:ah × List ah):Prop:=
 ∀ us vs b5 cD (r:Res V),vJ c.K ev mk us b5 = r→r≠.fail→us.length=vs.length→Rel c b5 (us.reverse++o :: aD) (vs.reverse++ov :: tv) hid cD→n8 c.M p.1 cD.heap∧aF c.M c.A (call p.1 (p.2++vs)) (iZ c r aD tv hid) (fun _ _=>iP) cD
set_option tactic.hygienic true in
theorem IT {K:Frag} {C:Addr} {a:Str} {f:Addr} (h:uD K C a=some f):CI K C a=true∧jO K (.ref C) a=some (some (.ref f))∧isFn K (.ref f)=true∧fnIn K f=true:=by
 unfold uD at h;split at h
 ·rename_i q0
  split at h
  ·rename_i q
   split at h
   ·rename_i q2
    cases h;exact ⟨q0,q,q2⟩
   ·cases h
  ·cases h
 ·cases h
theorem Oa {k:Nat} {a:Addr} {x:Str} {id:dD} {kj:List V} {Ri:List ah}
  (H:∀ (b5 : St) (cD : aG) g m mo fz (us:List V) (vs:List ah) (ps:List P) (r:Res V),Ga k ps x us b5 = r→r≠.fail→b5.aP[k]?=some (.list ps)→(bh mo)[k]?=some a→Rl c b5 kj Ri hid cD g m mo fz→eW c.base fz (bh mo) us vs →
   aF c.M c.A (call (.builtin id) (.ref a :: vs)) (iZ c r kj Ri hid) (fun _ _=>iP) cD):NY ev c kj Ri hid (.obj k) (.ref a) (.app k x) (.builtin id,[.ref a]):=by
 intro us vs b5 cD r h hn hl R;refine iM R fun g m mo fz R=>?_;refine cz (R.args hl) fun hv R=>?_;refine cz R.one fun ho R=>?_;have ha:=ho.Up;refine bU (Gy h hn) fun ps hs h=>?_;exact ⟨jX _ _,H b5 cD _ _ _ _ us vs ps r h hn hs ha R hv⟩
theorem IU {o:V} {ov:ah} {x:Str} {mk:MK} {pl:Sem Bool} {Q:ah × List ah→aG→Prop} (HC:gC ev c) (hk:z5 c.K o x σ=some mk) (R₀ : Rel c σ (o :: aD) (ov :: tv) hid s) (k:∀ p,NY ev c aD tv hid o ov mk p→Q p s) :
  aF c.M c.A (getMethod ov x pl) Q E s:=by
 refine iM R₀ fun g m mo fz R=>?_;refine cz R.one fun ho R=>?_;unfold z5 at hk;refine oC (strOf o) (fun hs=>?_) fun xs hs=>?_
 ·rw[hs] at hk
  refine bU (aY.mp hk) fun n sV hk2=>?_;clear hk
  have hk:=hk2;clear hk2
  refine bU (ho.objE sV) fun a ae3 ha=>?_;obtain rfl:=ae3;have e:=CF sV;subst e;unfold V7 at hk;cases hd:σ.aP[n]? with
  | none=>rw[hd] at hk;cases hk
  | some ob =>
  rw[hd] at hk;cases ob with
  | list ps =>
   refine nv (R.kX ha hd) fun oo hoo hh ae4=>?_;refine jU ae4 fun vals n' ae5 hv=>?_;obtain rfl:=ae5;have hm:(x="append"∨x="extend")∧MK.app n x=mk:=by
    by_cases q:x="append"∨x="extend"
    ·exact ⟨q,aC ((aA q).symm.trans hk)⟩
    ·exact nomatch (aS q).symm.trans hk
   refine cz hm fun hm ae6=>?_;obtain rfl:=ae6;rcases hm with rfl | rfl
   ·exact nF (T:="list") (id:="list.append") (v:=.ref a) ⟨_,hh,rfl⟩ WL Vm xW (fun b e=>by cases e;exact ⟨_,hh,rfl⟩)
     (k _ (Oa fun b5 cD g m mo fz us vs ps r h hn h1 h2 h3 h4=>DK h hn h1 h2 h3 h4))
   ·exact nF (T:="list") (id:="list.extend") (v:=.ref a) ⟨_,hh,rfl⟩ WL Vn F.type_list_extend (fun b e=>by cases e;exact ⟨_,hh,rfl⟩)
     (k _ (Oa fun b5 cD g m mo fz us vs ps r h hn h1 h2 h3 h4=>DL h hn h1 h2 h3 h4))
  | inst C d =>
   refine bU (aY.mp hk) fun f hf hk=>?_;refine En (IT hf) fun hpg hfi XC hff=>?_;cases zb:σ.aP[d]? with
   | none=>rw[zb] at hk;cases hk
   | some ob =>
   rw[zb] at hk;cases ob with
   | attrs kv =>
    have hkv:kv.lookup x=none∧MK.fn f (.obj n)=mk:=by
     by_cases q:(kv.lookup x).isNone=true
     ·exact ⟨ic.mp q,aC ((aA q).symm.trans hk)⟩
     ·exact nomatch (aS q).symm.trans hk
    obtain ⟨hkv,rfl⟩:=hkv;obtain ⟨dx,es,nn,hdx,Tv,I⟩:=R.inst ha hd zb;have hg:getL x es=some none:=by
     have:=Tv.find x;rw[hkv] at this;exact this
    refine method_inst R.core.F R.X I hpg hfi XC hg (k _ fun us vs b5 cD r h hn hl R=>?_);refine iM R fun g' m' ri gM R=>?_;refine cz (R.args hl) fun hv R=>?_;refine cz R.one fun ho R=>?_;subst h;exact ⟨keeps_K (Te hff) _ R.KX,E4 HC hn (us:=.obj n :: us) (ku:=[]) (kv:=[]) (by simp [hl]) rfl (.cons ho hv) .nil R⟩
   | _=>cases hk
  | _=>cases hk
 ·rw[hs] at hk
  refine bU (aQ.mp hk) fun id rH ae1=>?_;obtain rfl:=ae1;refine cz (M1 rH) fun q1 q2=>?_;refine eU (ho.pG hs) fun t ae2=>?_;obtain rfl:=ae2;refine nF (mS _ _ _) Bf q1 q2 (fun _ e=>nomatch e) (k _ fun us vs b5 cD r h hn hl R=>?_);refine iM R fun g' m' ri gM R=>?_;refine cz (R.args hl) fun hv R=>?_;exact ⟨jX _ _,wpAny_mono (QW h hn R hv) (fun _ _ q=>q.drop) fun _ _ q=>q⟩
theorem My {o:V} {x:Str} {args:Mo (List V)} {r:Res V} {K:Frag} (h:Gl K ev o x args σ=r) (hn:r≠.fail):∃ mk,z5 K o x σ=some mk∧(args >>= fun vs=>vJ K ev mk vs) σ=r:=by
 unfold Gl at h;refine oC (z5 K o x σ) (fun q=>?_) fun mk q=>?_
 ·rw[q] at h;exact absurd h.symm hn
 ·rw[q] at h;exact ⟨mk,rfl,h⟩
theorem Ul {v:Expr} {args:List Expr} {x:Str} {ap pos:Pos} (HE:cI ev c) (HC:gC ev c) (h1:ap.endLine=pos.line) (h2:noStar args=true) (h3:args.length<20) (h4:nH v=true) :
  SE c (eval (.Call (.Attribute v x ap) args [] pos) c.env) σ ((ev.E c.env.scope v >>= fun o=>Gl c.K ev o x (jD (ev.E c.env.scope) args)) σ):=by
 refine .mk fun r h hn aD tv hid s R=>?_;rw[yK,oE h4];refine wpAny_bind (SE.go (HE v σ) h hn R (fun _ _ x=>x) fun o bx ov b3 h bN=>wpAny_bind (gA ?_));refine bU (My h hn) fun mk hk h=>?_;have O1:rg (args.length+([]:List uP).length) (sP pos (j3 args c.env)) (Br pos (su [] c.env))=true:=by
  unfold rg;have e':(sP pos (j3 args c.env)).all (!·.1)=true:=by
   rw[List.all_eq_not_any_not];simp only [Bool.not_not];rw[sQ h2];rfl
  rw[e'];show (true&&true&&decide (args.length+0+0<30))=true;simp only [EJ,br];exact uM (.g (.s au) (.n 20) .e) (.s (.a (.a au gR) gR)) (.n 30) zC h3
 have XH:j9 true v c.env ap pos=pure pos:=by unfold j9;simp [h1]
 dsimp only [Kv];rw[O1];refine wpAny_bind (cF ?_);refine IU HC hk bN fun p hp=>?_;rw[XH];exact wpAny_bind (wpAny_pure (xe HE h2 bN h hn (fun us vs b5 cD h hl cX=>(hp us vs b5 cD r h hn hl cX).imp id fun q=>wpAny_mono q (fun _ _ x=>x) fun _ _ x=>x.elim) fun _ _ x=>x.pop))
end
end
section
open PySem.Builtin
section
theorem Rl.PY {lo:Obj} (R:Rl c σ aD tv hid s g m mo fz) (hf:lo.isFreed=false) (hk:∀ b o,s.heap.get? b=some o→h'.get? b=some o) (hn:h'.get? s.heap.objs.size=some lo) :
  Rl c σ aD tv hid { s with heap:=h',toks:=k } g m mo ((s.heap.objs.size,lo) :: fz):=by
 refine (R.sC lo hf).grown fun b o e=>?_;rcases Heap.get?_push_cases e with ⟨rfl,rfl⟩ | e
 ·exact hn
 ·exact hk b o e
theorem B4 (ho:s.heap.get? l=some o) (hc:o.cls = .type "list") (hd:o.data = .seq vals n) (h1:jS c.base fz ps vals.toList) (hz:ps.length≤2 ^ 20) (R:Rl c σ aD tv hid s g m mo fz) :
  aF c.M c.A (call (.type "list") [.ref l]) (iZ c (.ok (.p (.lst ps)) σ) aD tv hid) E s:=by
 have z:=h1.length;have kC:aZ=2 ^ 24:=rfl;refine call_list_seq l (.inl rfl) ho hc hd (fun h' c' hk hn=>?_) (by exact rM (.g au aT (.g aT (.n 1048576) (.g (.n 16777216) aE .e))) au aE zC (zA z) hz (zG kC));exact (Y2 _ σ ⟨rfl,((R.PY (k:=s.toks) rfl hk hn).push (.p (.lst (.inl (.head _)) ⟨rfl,rfl,rfl⟩ rfl (h1.mono fun _ h=>.tail _ h)))).rel⟩)
theorem IB {a d:Int}:∀ {n:Nat} {acc:eF ah},ItemsOf (fun i v=>∃ t,v = .int (a+i*d) t) acc n→jS b fz ((b4 n).map fun (i:Nat)=>P.int (a+i*d)) acc.toList:=by
 intro n acc h;have key:∀ (l:List ah) (k:Nat),(∀ j v,l[j]?=some v→∃ t,v=Value.int (a+((k+j:Nat):Int)*d) t)→jS b fz ((b4 l.length).map fun (i:Nat)=>P.int (a+((k+i:Nat):Int)*d)) l:=by
  intro l;induction l with
  | nil=>intro k _;exact .nil
  | cons v l ih =>
   intro k hv;rw[dU,Hv,cZ,bZ];refine eU (hv 0 v rfl) fun t ht=>?_;refine .cons (by rw[ht];exact .int _ _) ?_;have:=ih (k+1) fun j w hw=>by
    refine eU (hv (j+1) w (by exact hw)) fun t ht=>?_;exact ⟨t,by rw[ht,show k+1+j=k+(j+1) from by exact dY k j]⟩
   have e:(fun (i:Nat)=>P.int (a+((k+1+i:Nat):Int)*d))=(fun (i:Nat)=>P.int (a+((k+i:Nat):Int)*d))∘Nat.succ:=by
    funext i
    show _=P.int (a+((k+(i+1):Nat):Int)*d);rw[show k+1+i=k+(i+1) from by exact dY k i]
   rw[e] at this;exact this
 have:=key acc.toList 0 fun j v hv=>by
  refine eU (h.2 j v (by simpa using hv)) fun t ht=>?_;exact ⟨t,by rw[ht,fy]⟩
 rw[cH,h.1] at this;simpa using this
theorem list_range {a b d:Int} (hp:sF a b d=some ps) (hz:ps.length≤2 ^ 20) (hh:σ.dw = .no) (R:Rl c σ aD tv hid s g m mo fz) (hv:VR c.base fz (bh mo) (.p (.rj a b d)) va) :
  aF c.M c.A (call (.type "list") [va]) (iZ c (.ok (.p (.lst ps)) σ) aD tv hid) E s:=by
 cases hv with | p hv=>cases hv with | rj h1 =>
 refine cz (K4 hp) fun q1 ae7=>?_;refine bU ae7 fun n q2 ae8=>?_;obtain rfl:=ae8;rw[aM,fK] at hz;refine call_list_range (R.dw.1 hh) (R.at h1) q1 q2 (by exact jj hz zC) fun h' tk alu c' hk hn hit=>?_;exact (Y2 _ σ ⟨rfl,((R.PY (k:=tk) rfl hk hn).push (.p (.lst (.inl (.head _)) ⟨rfl,rfl,rfl⟩ rfl (IB hit)))).rel⟩)
theorem Ox {p:kP × List Stmt} (h:defAt K a=some p):Sa K (.ref a)=true:=
 bU (bind_some h) fun fd hf _=>bU (bind_some hf) fun o ho hd=>by
  rcases o with ⟨oc,od,dd,ZI⟩
  rw[show dd = .func fd from BH hd] at ho;unfold Sa;dsimp only;rw[ho]
theorem zy {fs:eF ah} (ho:h.get? a=some o) (hc:o.cls = .type "builtin_function_or_method") (hd:o.data = .fields fs):n8 c.M (.ref a) h:=by
 refine ⟨.machine,.inr (.inl rfl),?_⟩;obtain ⟨cl,d,dt,sl⟩:=o;simp only at hc hd;subst hc hd;exact (JF (part:=none) ho).andThen .now
theorem yJ (A:fP) (C:Addr) (rest:List ah) (kw:List (Str × ah)):Alike A (A.under (.builtin "type.__call__" ⟨.ref C :: rest,kw⟩)):=by
 have h1:(Hq "type.__call__" ⟨.ref C :: rest,kw⟩).weight=1:=by rfl'
 have h2:(Hq "type.__call__" ⟨.ref C :: rest,kw⟩).cUnits=1:=by rfl'
 refine ⟨?_,rfl,?_,?_⟩
 ·show pushEnvs [] A.frames=A.frames
  cases A.frames<;>rfl
 ·skip
  exact oH (.g aE jr .e) (.a au aE) (.a au (.n 3)) zC (zA h1)
 ·skip
  exact oH (.g aE jr .e) (.a au aE) (.a au (.n 5)) zC (zA h2)
theorem GF {o u:V} (h:D3 o u σ=r) (hn:r≠.fail):u = .p .none∧r = .ok o σ:=by
 cases u with
 | p x=>cases x with
  | none=>exact ⟨rfl,h.symm⟩
  | _=>exact absurd h.symm hn
 | _=>exact absurd h.symm hn
theorem Ug {C f:Addr} (HC:gC ev c) (hmk:makesIn c.K C=true) (hi:jO c.K (.ref C) "__init__"=some (some (.ref f))) (XC:isFn c.K (.ref f)=true)
  (h:PS ev C f us ku σ=r) (hn:r≠.fail) (Ex:us.length=vs.length) (ym:ku.length=kv.length)
  (hv:eW c.base fz (bh mo) us vs) (hk:eW c.base fz (bh mo) (ku.map (·.2)) kv) (R:Rl c σ aD tv hid s g m mo fz) :
  aF c.M c.A (call (.ref C) vs ((ku.map (·.1)).zip kv)) (iZ c r aD tv hid) E s:=by
 have X:c.K.In s.heap:=R.KX;obtain ⟨hh,gg,d,t,os⟩:=s;refine jP (make_core (makes_of X hmk) (uV X hi) (fun self=>bind_fn X self (beq_iff_eq.mp XC)) (.inl rfl) ?_);have R1:=R.z8 gq (.attrs []) rfl (Y2 ([]) (0) ⟨rfl,.nil⟩);have hd:(bh (mo++[(hh.objs.size,gq)]))[σ.aP.length]?=some hh.objs.size:=by rw[← R.aP.len];unfold bh;simp
 have G1:=pe.app (fz:=fz) (mo:=mo) (p:=(hh.objs.size,gq));have G2:=pe.app (fz:=fz) (mo:=mo++[(hh.objs.size,gq)]) (p:=((hh.push gq).objs.size,qm C hh.objs.size));have R2:=R1.z8 (qm C hh.objs.size) (.inst C σ.aP.length) rfl ⟨hh.objs.size,G2.mu _ _ hd,rfl⟩;generalize Ew:(σ.aP++[Ob.attrs []]).length=k at *;generalize ha':(hh.push gq).objs.size=a at *;have ho:∀ {b z},VR b z (bh (mo++[(hh.objs.size,gq)]++[(a,qm C hh.objs.size)])) (.obj k) (.ref a):=fun {b z}=>.obj (by
  have:=R1.aP.len;simp only at this;rw[← Ew,← this];unfold bh;rw[aV,bw (by rw[aM];exact aB _),aM,iH];rfl)
 have R3:=(R2.kj (.cons ho (((hv.mono G1).mono G2).append (((hk.mono G1).mono G2).append (.cons ho R2.aD))))).rel;have kC:hh.objs.size+1=a:=by rw[← ha',mj]
 rw[kC];have h:(ev.C f (.obj k :: us) ku >>= D3 (.obj k)) { σ with aP:=σ.aP++[Ob.attrs []]++[Ob.inst C σ.aP.length] }=r:=by rw[← Ew];exact h
 refine ql (HC f (.obj k :: us) ku _ _ (.obj k :: aD) (.ref a :: tv) hid _ (.ref a :: vs) kv (yJ _ _ _ _) (oB h hn) (by simp [Ex]) ym R3) fun res s' rJ=>?_;refine bU rJ.el fun v er rJ=>?_;rw[er]
 ·refine jU rJ fun u σ' e R4=>?_
  refine cz (GF (i8 e h) hn) fun ae9 afa=>?_;rw[ae9] at R4;rw[afa];refine iM R4 fun g' m' ri gM R5=>?_;refine cz R5.one fun hu R6=>?_;rw[show v=dZ from hu.inv.inv];exact ⟨rfl,_,σ',rfl,R6.rel⟩
end
end
section
open PySem.Builtin
section
theorem Rl.KG (R:Rl c σ aD tv hid s g m mo fz):Rl c ⟨[],σ.aP,σ.dw⟩ aD tv hid s g m mo fz:=
 ⟨R.gh,R.core,R.p8,(fun x sl e=>by cases e),R.aP,R.aD,R.gens,R.os,R.dw⟩
set_option tactic.hygienic true in
theorem uA (h:oz k C σ=true):∃ d,σ.aP[k]?=some (.inst C d):=by
 unfold oz at h;split at h
 ·rename_i q
  rw[beq_iff_eq] at h;subst h;exact ⟨_,q⟩
 ·cases h
theorem Rl.DB (R:Rl c σ aD tv hid s g m mo fz) {k d:Nat} (ha:(bh mo)[k]?=some a) (h1:σ.aP[k]?=some (.inst C d)):∃ dx od,InstAt s.heap a (qm C dx) C (some od):=by
 refine nv (R.kX ha h1) fun oi hoi VV afb=>?_;refine bU afb fun dx hd afc=>?_;obtain rfl:=afc;unfold bh at hd;rw[bM] at hd;refine oC (mo[d]?) (fun q=>?_) fun p q=>?_
 ·rw[q] at hd;cases hd
 ·rw[q] at hd
  obtain rfl:=aC hd;exact (Y2 (p.1) (p.2) ⟨VV,rfl,rfl,(R.core.N p (af _ (bf q))).1⟩)
theorem sR {K:St→Bool} {nx:Mo (Option V)} (e:kT K nx (n+1) σ = .ok rest mG):K σ=true∧iN (m7 nx σ) (fun o=>match o with
  | some (.p x)=>kT K nx n >>= fun xs=>pure (x :: xs)
  | none=>pure []
  | _=>Mo.fail) = .ok rest mG:=by
 unfold kT at e;by_cases hc:K σ=true
 ·exact ⟨hc,(aA hc).symm.trans e⟩
 ·exact nomatch (aS hc).symm.trans e
theorem HV {K:St→Bool} {nx:Mo (Option V)} {bx mG:St} (e:kT K nx (n+1) σ = .ok rest mG) (h:m7 nx σ = .ok none bx):rest=[]∧mG=bx:=by
 have e:=(sR e).2;rw[h] at e;exact ⟨(ML e).1.symm,(ML e).2.symm⟩
theorem HW {K:St→Bool} {nx:Mo (Option V)} {w:V} {bx mG:St} (e:kT K nx (n+1) σ = .ok rest mG) (h:m7 nx σ = .ok (some w) bx):∃ p lU,w = .p p∧kT K nx n bx = .ok lU mG∧rest=p :: lU:=by
 have e:=(sR e).2;rw[h] at e;cases w with
 | p p =>
  have e:iN (kT K nx n bx) (fun xs=>pure (p :: xs)) = .ok rest mG:=e;exact jU (Ae e) fun lU WH h5 e=>⟨p,lU,rfl,(ML e).2 ▸ h5,(ML e).1.symm⟩
 | _=>exact nomatch e
theorem LW (hA:Alike c.A A2.in1) (HN:pn ev c) {S x C fn:Addr} (hfi:jO c.K (.ref C) "__next__"=some (some (.ref fn))) (XC:isFn c.K (.ref fn)=true) :
  ∀ (n:Nat) (σ:St) (s:aG) (ds rest:List P) (vals:eF ah) (nn:Nat),kT (oz k C) (ev.N fn (.obj k)) n σ = .ok rest mG→σ.loc=[]→ds.length=vals.size→ds.length+n≤2 ^ 16 →
   Rel c σ (.obj k :: (ds.map V.p++aD)) (.ref x :: (vals.toList++tv)) ((S,listOf vals nn) :: hid) s →
   (∀ jA AZ s',(ds++rest).length=jA.size→Rel c mG ((ds++rest).map V.p++aD) (jA.toList++tv) ((S,listOf jA AZ) :: hid) s'→RR (.ok (.ret .none)) s') →
   qk c.M A2 (.builtin "list.extend.loop" ⟨[.ref S,.ref x,.none],[]⟩) RR s:=by
 intro n;induction n with
 | zero=>intro σ s ds rest vals nn e;cases e
 | succ n ih =>
  intro σ s ds rest vals nn e hl hz hle R k'
  ·have hc:=(sR e).1
   refine eU (uA hc) fun d hd=>?_;obtain ⟨loc,aP,dw⟩:=σ;have hl:loc=[]:=hl;subst hl;have yo:ev.N fn (.obj k) ⟨[],aP,dw⟩≠.fail:=fun q=>by
    have e:=(sR e).2;unfold m7 at e;rw[q] at e;cases e
   refine gK wW ?_;have R0:=R;refine iM R fun g m mo fz R1=>?_;refine cz R1.one fun ho R2=>?_;have ha:=ho.Up;refine X21 (R2.DB ha hd) fun dx od I=>?_;have R3:Rel c ⟨[],aP,dw⟩ (.obj k :: .obj k :: (ds.map V.p++aD)) (.ref x :: .ref x :: (vals.toList++tv)) ((S,listOf vals nn) :: hid) s:=(R1.push (.obj ha)).rel;refine wpAny_bind (owit_next R2.core.F R2.X I hfi XC (wpAny_mono (HN fn (.obj k) ⟨[],aP,dw⟩ A2.in1 _ _ _ s (.ref x) hA yo R3) (fun v b3 q=>jU q fun w σ' e1 R4=>?_) fun Xg b3 q=>X35 q fun σ' ea o e1 e2 ho Tw R4=>?_))
   ·have e3:m7 (ev.N fn (.obj k)) ⟨[],aP,dw⟩ = .ok (some w) ⟨[],σ'.aP,σ'.dw⟩:=by unfold m7;rw[e1]
    refine Eo (HW e e3) fun p lU ew e5 er=>?_;rw[ew] at R4;rw[er] at k'
    ··
      refine iM R4 fun g' m' ri gM R5=>?_;have R6:=R5.KG;have RU:b3.heap.get? S=some (listOf vals nn):=R6.mC;have kC:aZ=2 ^ 24:=rfl;refine eU (fF vals nn (·.push v)) fun n' en=>?_;refine wpAny_bind (j4 RU rfl ?_ (by exact xV (.g au aT (.g (.a aT (.s bX)) (.n 65536) (.g (.n 16777216) aE .e))) au aE zC (zG hz) hle (zG kC)) (by show (vals.push v).size≤_;rw[AD];exact xV (.g au aT (.g (.a aT (.s bX)) (.n 65536) (.g (.n 16777216) aE .e))) (.s au) (.s aE) zC (zG hz) hle (zG kC)));have R7:=R6.oG (g8 fun vs q=>by cases q) (o':=listOf (vals.push v) n') (k:=b3.toks) (h':=b3.heap.update S (dm (·.push v))) (by rw[← en];exact bL _ RU rfl) (fun b o hb e=>(bY _ _ (eO hb)).trans e) (fun x sl q=>by cases q);refine wpAny_pure ⟨oR je _,ih ⟨[],σ'.aP,σ'.dw⟩ _ (ds++[p]) lU (vals.push v) n' e5 rfl (by simp [hz]) (by simp;exact oH (.g (.a au (.s aE)) (.n 65536) .e) (.a (.s au) aE) (.n 65536) zC hle) (R7.kj (eW.swap hz R7.aD)).rel fun jA AZ s' h1 h2=>k' jA AZ s' (by simpa using h1) (by simpa using h2)⟩
   ·have e3:m7 (ev.N fn (.obj k)) ⟨[],aP,dw⟩ = .ok e8 ⟨[],σ'.aP,σ'.dw⟩:=by unfold m7;rw[e1]
    have e4:=HV e e3;rw[e4.1,e4.2] at k';rw[e2];have hT:b3.TypeIs (.ref ea) "StopIteration":=⟨o,ho,Tw⟩;unfold OwitStop;refine uc hT isSubtype_stop ?_;rw[aA rfl];refine iM R4 fun g' m' ri gM R5=>?_;refine wpAny_pure ?_;rw[cg] at k';have R6:=(R5.KG).one.2;exact k' vals nn b3 hz R6.rel
theorem Rl.inner (R:Rl c σ aD tv hid s g m mo fz):Rl (c.comp c.env m c.hk c.yk c.bl c.yj) ⟨[],σ.aP,σ.dw⟩ aD tv hid s g m mo fz:=
 ⟨⟨R.gh.turn,R.gh.B,R.gh.D⟩,R.core,fun z7 e=>aC e,(fun x sl e=>by cases e),R.aP,R.aD,R.gens,R.os,R.dw⟩
set_option tactic.hygienic true in
theorem IC (h:uB K C=some (fi,fn)):(jO K (.ref C) "__iter__"=some (some (.ref fi))∧isFn K (.ref fi)=true)∧(jO K (.ref C) "__next__"=some (some (.ref fn))∧isFn K (.ref fn)=true)∧jO K (.ref C) "__len__"=some e8∧jO K (.ref C) "__length_hint__"=some e8:=by
 have jq:∀ {a:Str} {f:Addr},uD K C a=some f→jO K (.ref C) a=some (some (.ref f))∧isFn K (.ref f)=true:=fun {a f} h=>by
  unfold uD at h;split at h
  ·split at h
   ·rename_i q
    split at h
    ·rename_i q2
     cases h;exact ⟨q,q2.1⟩
    ·cases h
   ·cases h
  ·cases h
 unfold uB at h;split at h
 ·rename_i q1 q2
  split at h
  ·rename_i q3
   cases h;simp only [aR,beq_iff_eq] at q3;exact ⟨jq q1,jq q2,q3.1,q3.2⟩
  ·cases h
 ·cases h
theorem Mv {C fi fn x:Addr} {σ1 mG:St} (HC:gC ev c) (HN:pn ev c) (hit:uB c.K C=some (fi,fn)) (hl:σ.loc=[]) (hk:oz k C σ=true)
  (h1:ev.C fi [.obj k] [] σ = .ok (.obj k) σ1) (h2:kT (oz k C) (ev.N fn (.obj k)) l5 ⟨[],σ1.aP,σ1.dw⟩ = .ok ps mG)
  (R₀ : Rel c σ (.obj k :: aD) (.ref x :: tv) hid s) {Q:ah→aG→Prop}
  (kq:∀ S vals nn s',ps.length=vals.size→Rel c mG (ps.map V.p++aD) (vals.toList++tv) ((S,listOf vals nn) :: hid) s'→Q (.ref S) s') :
  aF c.M c.A (call (.type "list") [.ref x]) Q E s:=by
 refine En (IC hit) fun afd afe f5 f6=>?_;refine cz afd fun f1 f2=>?_;refine cz afe fun f3 f4=>?_;refine eU (uA hk) fun d hd=>?_;refine iM R₀ fun g m mo fz R=>?_;refine cz R.one fun ho Rt=>?_;have ha:=ho.Up;refine X21 (R.DB ha hd) fun dx od I=>?_;have ahN:x<s.heap.objs.size:=gc I.at_;have hSx:s.heap.objs.size≠x:=fun q=>iL _ (q ▸ ahN);refine callType_codes (Q₁:=fun obj b3=>obj = .ref s.heap.objs.size∧b3 = { s with heap:=s.heap.push { cls:=.type "list",data:=.seq #[] } }) F.called_list (F.typeCall_list_1 _) F.entry_list_init
  (code_list_new _ ⟨rfl,rfl⟩) fun obj b3 h₁=>?_
 refine cz (h₁) fun afg afh=>?_;obtain rfl:=afg;obtain rfl:=afh;have hS:(s.heap.push (listOf #[] 0)).get? s.heap.objs.size=some (listOf #[] 0):=oK _ rfl;refine ⟨⟨_,hS,rfl⟩,F.args_list_init_2 _ _,?_⟩;show aF _ c.A.in1.in1 (do let old ← yy (.ref s.heap.objs.size);Builtin.List.listUpdate (.ref s.heap.objs.size) (fun _ => #[]);letGo old.toList.reverse;vV (.ref s.heap.objs.size) (.ref x) .none) _ _ _;refine wpAny_bind ?_;refine wpAny_bind (rz hS rfl (wpAny_pure ?_));refine wpAny_bind (j4 hS rfl ?_);refine eU (fF (#[]:eF ah) 0 (fun _ => #[])) fun n1 en1=>?_;have R1:=R.mP (listOf #[] 0) rfl;have R2:=R1.oG (g8 fun vs q=>by cases q) (o':=listOf #[] n1) (k:=s.toks) (h':=(s.heap.push (listOf #[] 0)).update s.heap.objs.size (dm (fun _=>(#[]:eF ah)))) (by rw[← en1];exact bL _ hS rfl) (fun b o hb e=>(bY _ _ (eO hb)).trans e) (fun y sl q=>by rw[hl] at q;cases q);refine wpAny_bind (wpAny_letGo ?_);refine X21 (R2.DB ha hd) fun dx2 od2 I2=>?_;refine wpAny_bind (I2.type.here ?_);have e1:jQ (.ref s.heap.objs.size) (.ref x)=false:=by simp [jQ,hSx]
 have e2:(gJ C==gU "list")=false:=rfl;have e3:(gJ C==gU "tuple")=false:=rfl;simp only [e1,e2,e3,nD,fB,jy];have hA:Alike c.A c.A.in1.in1:=⟨rfl,rfl,by show c.A.depth≤_;exact b7 c.A.depth 3,by show c.A.units+1+1≤_;exact uM .e (.s (.s au)) (.a au (.n 5)) zC ⟩;have yo:ev.C fi [.obj k] [] σ≠.fail:=by rw[h1];exact fun q=>nomatch q
 have R3:=(R2.push (u:=.obj k) (v:=.ref x) (.obj ha)).rel;refine wpAny_bind (owit_iter R2.core.F R2.X I2 f1 f2 (jP (ql (HC fi [.obj k] [] σ c.A.in1.in1 (.obj k :: aD) (.ref x :: tv) ((s.heap.objs.size,listOf #[] n1) :: hid) _ [.ref x] [] hA yo rfl rfl R3) fun res i9 rJ=>?_)));refine bU rJ.el fun v ev rJ=>?_;rw[ev]
 ·refine jU rJ fun u σ' e4 R4=>?_
  have e5:=ML (h1.symm.trans e4);rw[← e5.1,← e5.2] at R4;clear e4 e5 rJ ev
  refine iM R4 fun g' m' ri gM R5=>?_;refine cz R5.one fun hu R6=>?_;refine cz R6.one fun hu2 R7=>?_;refine bU hu2.inv fun x2 ex ha2=>bU hu.inv fun x3 ev ha3=>?_;rw[ev];rw[← AM ex] at ha2;rw[← aC (ha2.symm.trans ha3)];have hck:oz k C ⟨[],σ1.aP,σ1.dw⟩=true:=by
   unfold l5 at h2;unfold kT at h2;split at h2
   ·assumption
   ·cases h2
  refine eU (uA hck) fun d3 hd3=>?_;refine X21 ((R6.KG).DB ha2 hd3) fun dx3 od3 I3=>?_;refine owit_it R6.core.F R6.X I3 f3 ?_;refine wpAny_bind (cF ?_);unfold Builtin.List.listLengthHint;refine wpAny_bind (wpAny_bind (I3.type.here ((uV R6.KX f5).here ?_)));refine wpAny_bind (wpAny_bind (I3.type.here ((uV R6.KX f6).here ?_)));refine wpAny_pure ?_;show aF _ c.A.in1.in1 (rule "list.extend.makes-room" >>= fun _=>yz (.ref s.heap.objs.size) >>= fun _ =>
   again (.builtin "list.extend.loop" ⟨[.ref s.heap.objs.size,.ref x,.none],[]⟩)) _ _ _
  refine wpAny_bind (fY ?_);refine wpAny_bind ?_;show aF _ c.A.in1.in1 (EG s.heap.objs.size (·.push .none) >>= fun _=>EG s.heap.objs.size (·.pop)) _ _ _;have hS5:i9.heap.get? s.heap.objs.size=some (listOf #[] n1):=R6.mC;refine wpAny_bind (j4 hS5 rfl ?_);refine eU (fF (#[]:eF ah) n1 (·.push dZ)) fun n2 en2=>?_;have hS6:=bL (dm (·.push dZ)) hS5 rfl;refine j4 (hz:=by seq_fits) hS6 rfl ?_;have hS7:=bL (dm (·.pop)) hS6 rfl;have e7:∃ n3,dm (·.pop) (dm (·.push dZ) (listOf #[] n1))=listOf #[] n3:=by
   rw[en2];refine eU (fF (#[dZ]) n2 (·.pop)) fun n3 Xd=>?_;exact ⟨n3,Xd⟩
  refine eU e7 fun n3 Xd=>?_;have R8:=(R6.KG).oG (g8 fun vs q=>by cases q) (o':=listOf #[] n3) (k:=i9.toks) (h':=(i9.heap.update s.heap.objs.size (dm (·.push dZ))).update s.heap.objs.size (dm (·.pop))) (by rw[← Xd];exact hS7)
   (fun b o hb e=>(bY _ _ (eO hb)).trans ((bY _ _ (eO hb)).trans e)) (fun y sl q=>by cases q)
  refine wpAny_pure ⟨oR je _,LW (A2:=c.A.in1) hA HN f3 f4 l5 ⟨[],σ1.aP,σ1.dw⟩ _ [] ps #[] n3 h2 rfl rfl (by unfold l5;simp) R8.rel fun jA AZ s' q1 q2=>?_⟩;exact ⟨rfl,kq _ jA AZ s' (by simpa using q1) (by simpa using q2)⟩
set_option tactic.hygienic true in
theorem F9 {m:Mo α} (h:sY m σ≠.fail):∃ a σ',m ⟨[],σ.aP,σ.dw⟩ = .ok a σ'∧sY m σ = .ok a ⟨σ.loc,σ'.aP,σ.dw⟩:=by
 unfold sY at h ⊢;split at h
 ·rename_i a σ' q
  exact (Y2 a σ' ⟨q,rfl⟩)
 ·exact absurd rfl h
theorem qf {m:Res α} {b:β} (h:iN m f = .ok b σ'):∃ a σ1,m = .ok a σ1∧f a σ1 = .ok b σ':=by
 cases m with
 | fail=>cases h
 | exc _ _=>cases h
 | ok a σ1=>exact (Y2 a σ1 ⟨rfl,h⟩)
theorem PI {C fi fn x:Addr} {k d:Nat} (H:∀ c1:Cx,c1.fu=c.fu→c1.w=c.w→gC ev c1∧pn ev c1) (hit:uB c.K C=some (fi,fn)) (hd:σ.aP[k]?=some (.inst C d)) (ha:(bh mo)[k]?=some x)
  (h:yt ev k C fi fn σ=r) (hn:r≠.fail) (R:Rl c σ aD tv hid s g m mo fz) :
  aF c.M c.A (call (.type "list") [.ref x]) (iZ c r aD tv hid) E s:=by
 refine jU (F9 fun q=>hn (h.symm.trans q)) fun u σ' q0 e0=>?_;rw[h.symm.trans e0];clear h e0
 refine jU (qf q0) fun it ant q3 q4=>?_;cases q1:ev.C fi [.obj k] [] ⟨[],σ.aP,σ.dw⟩ with
 | fail=>unfold m7 at q3;rw[q1] at q3;cases q3
 | exc _ _=>unfold m7 at q3;rw[q1] at q3;cases q3
 | ok it' σ1 =>
  have e1:m7 (ev.C fi [.obj k] []) ⟨[],σ.aP,σ.dw⟩ = .ok it' ⟨[],σ1.aP,σ1.dw⟩:=by unfold m7;rw[q1]
  rw[e1] at q3;cases q3;cases it with
  | obj k' =>
   simp only at q4;by_cases hkk:k'=k
   ·subst hkk
    simp only [gz] at q4;refine jU (qf q4) fun ps mG q2 q5=>?_;cases q5
    ·refine Eo R.pin fun up vp yp F3 Iz=>?_
     have R1:Rl (c.comp c.env m c.hk c.yk c.bl c.yj) ⟨[],σ.aP,σ.dw⟩ (.obj k' :: (up++aD)) (.ref x :: (vp++tv)) hid s g m mo fz:=Rl.inner (R.kj (.cons (.obj ha) (F3.append R.aD)));refine cz (H (c.comp c.env m c.hk c.yk c.bl c.yj) rfl rfl) fun HC1 HN1=>?_;refine Mv HC1 HN1 hit rfl (by unfold oz;rw[show (⟨[],σ.aP,σ.dw⟩:St).aP[k']?=_ from hd];exact cY _) q1 q2 R1.rel fun S vals nn s' hlen R2=>?_;refine iM R2 fun g' m' ri gM R'=>?_;have hm:m'=m:=R'.p8 m rfl;subst hm;refine cz (eW.split (by simpa using hlen) R'.aD) fun xQ hr2=>?_;refine cz (eW.split yp hr2) fun V0 ht=>?_;have Me:nQ c m' ((S,listOf vals nn) :: gM) hid (bh ri) σ.loc:=(Iz _ _ (eW.mono pe.ND V0)).2;have WV:Rl c ⟨σ.loc,σ'.aP,σ.dw⟩ (.p (.lst ps) :: aD) (.ref S :: tv) hid s' g' m' ri ((S,listOf vals nn) :: gM):=
      ⟨⟨R'.gh.turn,R'.gh.B,R'.gh.D⟩,R'.core.O3,R.p8,Me,R'.aP.ND,
       .cons (.p (.lst (.inl (.head _)) ⟨rfl,rfl,rfl⟩ rfl ((eW.EE xQ).mono fun _ h=>.tail _ h))) (ht.mono .ND),R'.gens,R'.os,R.dw⟩
     exact (Y2 _ _ ⟨rfl,WV.rel⟩)
   ·rw[aS hkk] at q4
    cases q4
  | _=>cases q4
end
end
section
open PySem.Builtin
section
noncomputable def ur (ev:Ev) (c:Cx):Prop:=∀ (f:Addr) (x:Str) (t:Tok) (σ:St) (aD:List V) (tv:List ah) (hid:Led) (s:aG) (g:Heap) (m:Str→Option ah) (mo fz:Led) (r:Res V),zo c.K 656=some f →
 PS ev 656 f [.p (.str x)] [] σ=r→r≠.fail→Rl c σ aD tv hid s g m mo fz →
 aF c.M c.A (call (.ref 656) [.str x t]) (iZ c r aD tv hid) (fun _ _=>iP) s
set_option tactic.hygienic true in
theorem zp {C f:Addr} (h:zo K C=some f):jO K (.ref C) "__init__"=some (some (.ref f))∧isFn K (.ref f)=true∧Sa K (.ref C)=true:=by
 unfold zo at h;split at h
 ·rename_i q
  split at h
  ·rename_i q2
   cases h;exact ⟨q,q2⟩
  ·cases h
 ·cases h
theorem IY (h:Qi us=true):∃ x,us=[.p (.str x)]:=by
 cases us with | nil=>exact nomatch h | cons u us=>?_
 cases us with | cons _ _=>exact nomatch h | nil=>?_
 exact eU (pS.mp h) fun x hx=>⟨x,wM hx ▸ rfl⟩
theorem NS {P:ai} (X:(Kf P).In h) (e:(Kf P).lookup a=some o):h.get? a=some o:=X _ _ e
theorem PL (P:ai):(Kf P).lookup 811=some (IW P):=rfl
theorem PK (P:ai):(Kf P).lookup 108=some (wJ P):=rfl
theorem PJ (P:ai):(Kf P).lookup 107=some (Ab P):=rfl
theorem E1 (h:vq K p us σ≠.fail):(∃ id,p = .bi id)∨∃ T,p = .ty T:=by
 unfold vq at h;split at h<;>first | exact .inl ⟨_,rfl⟩ | exact .inr ⟨_,rfl⟩ | exact absurd rfl h
theorem Yp (e:ku.isEmpty=true):(ku.map (·.1)).zip kv=[]:=by
 cases ku with
 | nil=>rfl
 | cons _ _=>cases e
theorem E7 (h:E6 k x us ku σ=r) (hn:r≠.fail) (R:Rl c σ aD tv hid s g m mo fz) (hf:VR c.base fz (bh mo) (.jq k x) fv) (hv:eW c.base fz (bh mo) us vs) :
  n8 c.M fv s.heap∧aF c.M c.A (call fv vs ((ku.map (·.1)).zip kv)) (iZ c r aD tv hid) (fun _ _=>iP) s:=by
 refine cz (bW h hn) fun afi h'=>?_;refine cz afi fun afj XE=>?_;obtain rfl:=afj;rw[Yp XE];refine bU (Gy h' hn) fun ps hs h=>?_;cases hf with | jq h1 h2 h3 h4 =>
 have ho:=R.at h1;refine ⟨zy ho h2 h3,?_⟩;refine W2 (eW.MM h hn hv) fun u v ak7 afk hu h=>?_;rw[afk];refine bU (bK (o:=mQ u) (f:=LA k ps) h hn) fun x hx h=>?_;have hu:=hu.uI hx;refine cz (bW h hn) fun hc h=>?_;refine nv (R.kX h4 hs) fun o VX hh afl=>?_;refine jU afl fun vals n' afm hv=>?_;obtain rfl:=afm;have z1:=hv.length;refine Fb ho h2 h3 hh (by exact sy (zA z1) hc zC) ?_;exact (Y2 _ _ ⟨h.symm,(R.qh (ws:=ps++[x]) VX (by simpa using hv.append (.cons hu .nil))).push fun _ _ _=>.p .none⟩)
theorem Jd (h:K8 us ku σ=r) (hn:r≠.fail) (R:Rl c σ aD tv hid s g m mo fz) (hv:eW c.base fz (bh mo) us vs) :
  n8 c.M (.ref 811) s.heap∧aF c.M c.A (call (.ref 811) vs ((ku.map (·.1)).zip kv)) (iZ c r aD tv hid) (fun _ _=>iP) s:=by
 refine W2 (eW.MM (f:=fun a=>Mo.get (strOf a) fun s=>if ku.isEmpty=true∧s.length≤2 ^ 20 then (if s.cps.toList.all safe=true then (pure (V.p .none):Mo V) else pure (V.p .mt)) else Mo.fail) h hn hv) fun u v ak8 afn hu h=>?_;rw[afn];refine bU (bK h hn) fun x hx h=>?_;refine eU (hu.pG hx) fun t afo=>?_;rw[afo];refine cz (bW h hn) fun afp h=>?_;refine cz afp fun XE hz=>?_;rw[Yp XE];have X:=R.KX;have h0:=NS X (PL c.w.params);refine ⟨zy h0 rfl rfl,Fe hz h0 (NS X (PK c.w.params)) (NS X (PJ c.w.params)) (fun q=>?_) fun q a h' Ew=>?_⟩
 ·rw[aA (show x.cps.toList.all safe=true from q)] at h
  exact R.Ju h.symm fun _ _ _=>.p .none
 ·rw[aS (show ¬ x.cps.toList.all safe=true from fun z=>by rw[show x.cps.toList.all safe=x.cps.toList.all lV from rfl,q] at z;cases z)] at h
  exact (Y2 _ σ ⟨h.symm,((R.grown (k:=s.toks) Ew).push (.p (.mt a))).rel⟩)
theorem Oi (HC:gC ev c) (HI:ur ev c)
  (h:E3 c.K ev a us ku σ=r) (hn:r≠.fail) (Ex:us.length=vs.length) (ym:ku.length=kv.length) (R:Rl c σ aD tv hid s g m mo fz) (hv:eW c.base fz (bh mo) us vs) (hk:eW c.base fz (bh mo) (ku.map (·.2)) kv) :
  n8 c.M (.ref a) s.heap∧aF c.M c.A (call (.ref a) vs ((ku.map (·.1)).zip kv)) (iZ c r aD tv hid) (fun _ _=>iP) s:=by
 have X:=R.KX;unfold E3 at h;by_cases ha:a=811
 ·rw[aA ha] at h;rw[ha]
  exact Jd h hn R hv
 rw[aS ha] at h;cases hd:defAt c.K a with
 | some p =>
  rw[hd] at h;subst h;exact ⟨keeps_K (Ox hd) _ X,E4 HC hn Ex ym hv hk R⟩
 | none =>
 rw[hd] at h;cases hi:zo c.K a with
 | none=>rw[hi] at h;exact absurd h.symm hn
 | some gg =>
 rw[hi] at h;refine xM (zp hi) fun q1 q2 q3=>?_;refine cz (bW h hn) fun hc h=>?_;refine ⟨keeps_K q3 _ X,?_⟩;by_cases hmk:makesIn c.K a=true
 ·exact Ug HC hmk q1 q2 h hn Ex ym hv hk R
 ·refine xM (hc.resolve_left hmk) fun ha h6 XE=>?_
  rw[ha] at h hi ⊢;refine eU (IY h6) fun x afq=>?_;obtain rfl:=afq;cases ku with
  | cons _ _=>cases XE
  | nil =>
  refine W2 (eW.MM (f:=fun _=>(pure ():Mo Unit)) (r:=.ok () σ) (σ:=σ) rfl (fun q=>nomatch q) hv) fun u v e1 afr hu _=>?_;rw[afr];cases e1;refine eU (hu.pG rfl) fun t afs=>?_;rw[afs];exact HI gg x _ σ aD tv hid s g m mo fz r hi h hn R
theorem PG (h:PF p σ=r) (hn:r≠.fail) (R:Rl c σ aD tv hid s g m mo fz) (hv:PV c.base fz p v):aF c.M c.A (call (.type "list") [v]) (iZ c r aD tv hid) E s:=by
 cases p with
 | lst vs =>
  refine cz (bW (σ:=σ) (p:=vs.length≤2 ^ 20) (a:=(pure (V.p (.lst vs)):Mo V)) h hn) fun hz h=>?_;cases hv with | lst h1 h2 h3 h4 =>
  rw[← h];exact B4 (R.at h1) h2.1 h3 h4 hz R
 | rj a b d =>
  refine bU (bK (σ:=σ) (o:=sF a b d) (f:=fun vs=>if vs.length≤2 ^ 20 then Uq (V.p (.lst vs)) else Mo.fail) h hn) fun vs hp h=>?_;refine cz (bW h hn) fun hz h=>?_;subst h;refine cz (KW hn) fun hh e=>?_;rw[e];exact list_range hp hz hh R (.p hv)
 | _=>exact absurd h.symm hn
theorem IP (H:∀ c1:Cx,c1.fu=c.fu→c1.w=c.w→gC ev c1∧pn ev c1) (h:yr c.K ev k σ=r) (hn:r≠.fail) (R:Rl c σ aD tv hid s g m mo fz) (ha:(bh mo)[k]?=some a) :
  aF c.M c.A (call (.type "list") [.ref a]) (iZ c r aD tv hid) E s:=by
 unfold yr at h;cases hs:σ.aP[k]? with
 | none=>rw[hs] at h;exact absurd h.symm hn
 | some ob =>
 rw[hs] at h;cases ob with
 | list ps =>
  refine nv (R.kX ha hs) fun o VX hh aft=>?_;refine jU aft fun vals n' afu hv=>?_;obtain rfl:=afu;have h:(if ps.length≤2 ^ 20 then Res.ok (V.p (.lst ps)) σ else Res.fail)=r:=h;by_cases hz:ps.length≤2 ^ 20
  case neg=>rw[aS hz] at h;exact absurd h.symm hn
  rw[aA hz] at h;rw[← h];exact B4 hh rfl rfl hv hz R
 | inst C d =>
  dsimp only at h;refine oC (uB c.K C) (fun hit=>?_) fun p hit=>?_
  ·rw[hit] at h;exact absurd h.symm hn
  ·rw[hit] at h;exact PI H hit hs ha h hn R
 | _=>exact absurd h.symm hn
theorem Om (HC:gC ev c) (H:∀ c1:Cx,c1.fu=c.fu→c1.w=c.w→gC ev c1∧pn ev c1) (HI:ur ev c)
  (h:Ol c.K ev p us ku σ=r) (hn:r≠.fail) (Ex:us.length=vs.length) (ym:ku.length=kv.length) (R:Rl c σ aD tv hid s g m mo fz) (hf:PV c.base fz p fv)
  (hv:eW c.base fz (bh mo) us vs) (hk:eW c.base fz (bh mo) (ku.map (·.2)) kv) :
  n8 c.M fv s.heap∧aF c.M c.A (call fv vs ((ku.map (·.1)).zip kv)) (iZ c r aD tv hid) (fun _ _=>iP) s:=by
 unfold Ol at h;cases ha:VD p with
 | some a =>
  rw[ha] at h;obtain rfl:fv = .ref a:=by
   cases p with
   | adr b=>exact (show fv = .ref b from hf.inv).trans (aK gJ (aC (show some b=some a from ha)))
   | _=>exact nomatch ha
  exact Oi HC HI h hn Ex ym R hv hk
 | none =>
 rw[ha] at h;refine cz (bW h hn) fun XE h=>?_;rw[Yp XE];by_cases hl:zw p=true
 ·rw[aA hl] at h
  obtain rfl:fv = .type "list":=by
   unfold zw at hl;split at hl
   ·obtain rfl:=eq_of_beq hl
    cases hf;rfl
   ·cases hl
  refine ⟨BY _ _,?_⟩;obtain ⟨u,v,e0',rfl,hu,h⟩:=eW.MM (f:=fun a=>match mQ a with
   | some p=>PF p
   | none=>Mo.get (objOf a) fun k=>yr c.K ev k) h hn hv
  refine oC (mQ u) (fun hp=>?_) fun q hp=>?_
  ·rw[hp] at h
   refine bU (bK h hn) fun k hk h=>?_;refine bU (hu.objE hk) fun a afv ha=>?_;rw[afv];exact IP H h hn R ha
  ·rw[hp] at h;exact PG h hn R (hu.uI hp)
 ·rw[aS hl] at h
  refine ⟨?_,E2 h hn R hf hv⟩;subst h;rcases E1 hn with ⟨id,rfl⟩ | ⟨T,rfl⟩
  ·cases hf;exact jX _ _
  ·cases hf;exact BY _ _
theorem E8 (HC:gC ev c) (H:∀ c1:Cx,c1.fu=c.fu→c1.w=c.w→gC ev c1∧pn ev c1) (HI:ur ev c) {f:V}
  (h:jL c.K ev f us ku σ=r) (hn:r≠.fail) (Ex:us.length=vs.length) (ym:ku.length=kv.length) (R:Rl c σ aD tv hid s g m mo fz) (hf:VR c.base fz (bh mo) f fv)
  (hv:eW c.base fz (bh mo) us vs) (hk:eW c.base fz (bh mo) (ku.map (·.2)) kv) :
  n8 c.M fv s.heap∧aF c.M c.A (call fv vs ((ku.map (·.1)).zip kv)) (iZ c r aD tv hid) (fun _ _=>iP) s:=by
 cases f with
 | jq k x=>exact E7 h hn R hf hv
 | p x=>exact Om HC H HI h hn Ex ym R (hf.uI rfl) hv hk
 | _=>exact absurd h.symm hn
end
end
section
open PySem.Builtin
section
theorem kH.ais {r:Res β} {e:ah} (hl:us.length=vs.length) (h:kH c r (us++aD) (vs++tv) hid e s'):kH c r aD tv hid e s':=by
 induction us generalizing vs with
 | nil=>cases vs with
  | nil=>exact h
  | cons _ _=>exact nomatch hl
 | cons u us ih=>cases vs with
  | nil=>exact nomatch hl
  | cons v vs=>exact ih (C5 hl) (kH.pop h)
theorem LZ {f:Expr} {args:List Expr} (h:DC f=false):eval (.Call f args zD pos) env=(do
  let fv ← eval f env
  callWith pos fv [] (sP pos (j3 args env)) (Br pos (su zD env))):=by
 cases f<;>first | rfl | cases h
theorem JP {args:List Expr} {fv:V} {VN:ah} {ks:List (Option Str × Sem ah)} {X:List V→Mo V} (HE:cI ev c) (h2:noStar args=true) (hk:ks.all (·.1.isSome)=true)
  (h:(jD (ev.E c.env.scope) args >>= X) σ=r) (hn:r≠.fail) (R:Rel c σ (fv :: aD) (VN :: tv) hid s)
  (k:∀ us vs b5 cD,X us b5 = r→us.length=vs.length→Rel c b5 (us.reverse++fv :: aD) (vs.reverse++VN :: tv) hid cD →
    aF c.M c.A (evalAll (ks.map (·.2))) (fun kvs i9=>n8 c.M VN i9.heap∧aF c.M c.A (call VN vs ((ks.filterMap (·.1)).zip kvs)) (iZ c r aD tv hid) (kH c r aD tv hid) i9) (kH c r aD tv hid) cD) :
  aF c.M c.A (callWith pos VN [] (sP pos (j3 args c.env)) ks) (iZ c r aD tv hid) (kH c r aD tv hid) s:=by
 refine E9 (P:=n8 c.M VN) ?_ (fun h p=>p) (oY (sQ h2) hk ?_)
 ·rw[sQ h2,vU,RC]
  intro q;refine bU (Sq.mp q) fun x hx hxn=>?_;have:=cG.mp hk x hx;rw[ic] at hxn;rw[hxn] at this;cases this
 ·exact yc HE h hn R (fun _ _ x=>x.pop) fun us b5 vs cD h hl cX=>k us vs b5 cD h hl cX
theorem SV {f:Expr} {args:List Expr} (HE:cI ev c) (HC:gC ev c) (H:∀ c1:Cx,c1.fu=c.fu→c1.w=c.w→gC ev c1∧pn ev c1) (HI:ur ev c) (h1:DC f=false) (h2:noStar args=true) (h3:kwOk zD=true) :
  SE c (eval (.Call f args zD pos) c.env) σ ((ev.E c.env.scope f >>= fun fv=>jD (ev.E c.env.scope) args >>= fun vs=>kwV c.K ev c.env.scope zD fv vs) σ):=by
 refine .mk fun r h hn aD tv hid s R=>?_;rw[LZ h1];refine wpAny_bind (SE.go (HE f σ) h hn R (fun _ _ x=>x) fun fv bx VN b3 h bN=>?_);cases zD with
 | nil =>
  refine JP HE h2 (ks:=[]) rfl h hn bN fun us vs b5 cD h hl cX=>nK ?_;refine iM (cX) fun g m mo fz gv=>?_;refine cz (gv.args hl) fun hv jT=>?_;refine cz (jT.one) fun hf pg=>?_;exact (E8 HC H HI (ku:=[]) (kv:=[]) h hn hl rfl pg hf hv .nil).imp id fun q=>wpAny_mono q (fun _ _ q=>q) fun _ _ q=>q.elim
 | cons kw r =>
  cases kw with | mk kn e kp=>?_
  cases kn with | none=>exact absurd h3 bR | some n=>?_
  cases r with | cons _ _=>exact absurd h3 bR | nil=>?_
  refine JP HE h2 (ks:=Br pos (su [⟨some n,e,kp⟩] c.env)) rfl h hn bN fun us vs b5 cD h hl cX=>?_;show aF _ _ (evalAll [do let v ← eval e c.env;standAt pos;pure v]) _ _ _;refine wpAny_evalAll_cons (wpAny_bind (SE.go (mm:=ev.E c.env.scope e) (f:=fun kv=>jL c.K ev fv us [(n,kv)]) (HE e b5) h hn cX (fun e' s' x=>?_) fun kvv iU kv i9 h gv=>wpAny_bind (gA (wpAny_pure (nK ?_)))))
  ·refine kH.ais (us:=us.reverse++[fv]) (vs:=vs.reverse++[VN]) (by simp [hl]) ?_
   rw[dN,dN];exact x
  ·refine iM (gv) fun g m mo fz jT=>?_
   refine cz (jT.one) fun hkv pg=>?_;refine cz (pg.args hl) fun hv oO=>?_;refine cz (oO.one) fun hf C6=>?_;exact (E8 HC H HI (ku:=[(n,kvv)]) (kv:=[kv]) h hn hl rfl C6 hf hv (.cons hkv .nil)).imp id fun q=>wpAny_mono q (fun _ _ q=>q) fun _ _ q=>q.elim
theorem Yg {o:Expr} {ov r:ah} {Q:Unit→aG→Prop} (h:Q () s):aF c.M c.A (Kq o ov r) Q E s:=WC h
theorem SM {v:Expr} {a:Str} (HE:cI ev c) (HC:gC ev c) (h:nH v=true):SE c (eval (.Attribute v a pos) c.env) σ ((ev.E c.env.scope v >>= fun o=>vo c.K ev o a) σ):=by
 refine .mk fun r h' hn aD tv hid s R=>?_;rw[arm_eval_Attribute,oE h];refine wpAny_bind (SE.go (HE v σ) h' hn R (fun _ _ x=>x) fun o bx ov b3 h bN=>?_);refine wpAny_bind (gA (wpAny_bind (cF (wpAny_mono (EY (E:=fun _ _=>iP) HC (h ▸ hn) (Alike.in1 _) bN) (fun r cD q=>?_) fun _ _ q=>q.elim))));exact wpAny_bind (Yg (wpAny_pure (h ▸ q)))
end
end
section
open PySem.Builtin
noncomputable def Cx.mark (c:Cx) (e:Addr):Cx:={ c with A:=c.A.mark (some (.ref e)),hA:=c.hA,Hl:=c.Hl,NI:=c.NI }
section
theorem Own.mark (O:Own c) (e:Addr):Own (c.mark e):=⟨O.loc,O.p8,O.J9⟩
theorem Rl.VE (R:Rl c σ aD tv hid s g m mo fz) (hT:T≠c.L) (hg:g.get? T=none) (hl:∀ p∈mo++(fz++hid),p.1≠T) (hk:∀ b o,b≠T→s.heap.get? b=some o→h'.get? b=some o) :
  Rl c σ aD tv hid { s with heap:=h' } g m mo fz:=by
 refine AN R.core.F.ns fun oL es ep F1 r=>?_;exact ⟨R.gh,⟨⟨(Y2 oL es ⟨ep,hk _ _ (eO hT) F1,r⟩),fun b o e=>hk b o (fun q=>by rw[q,hg] at e;cases e) (R.core.F.keep b o e),R.core.F.above⟩,fun p hp=>⟨hk _ _ (hl p hp) (R.core.N p hp).1,(R.core.N p hp).2⟩,R.core.nd,R.core.dj,R.core.dh,R.core.nh⟩,R.p8,R.loc,R.aP,R.aD,R.gens,R.os,R.dw⟩
theorem Rl.adopt (R:Rl c σ aD tv hid s g m mo fz) (ho:s.heap.get? a=some o) (hL:a≠c.L) (hg:g.get? a=none) (hl:∀ p∈mo++(fz++hid),p.1≠a):Rl c σ aD tv ((a,o) :: hid) s g m mo fz:=by
 refine ⟨R.gh,⟨R.core.F,fun p hp=>?_,R.core.nd,fun p hp r hr=>?_,fun p hp r hr=>?_,bF.mpr ⟨fun hm=>?_,R.core.nh⟩⟩,R.p8,R.loc.mono .refl (fun _ h=>.tail _ h),R.aP,R.aD,R.gens,R.os,R.dw.1,fun h=>(R.dw.2 h).sub fun _ hp=>.tail _ hp⟩
 ·rcases aj.mp hp with q | q
  ·exact R.core.N p (af _ q)
  ·refine bJ (aj.mp q) (fun q=>?_) fun q=>?_
   ·exact R.core.N p (aa _ (af _ q))
   ·rcases av.mp q with rfl | q
    ·exact ⟨ho,hL,hg⟩
    ·exact R.core.N p (aa _ (aa _ q))
 ·rcases aj.mp hr with q | q
  ·exact R.core.dj p hp r (af _ q)
  ·rcases av.mp q with rfl | q
   ·exact hl p (af _ hp)
   ·exact R.core.dj p hp r (aa _ q)
 ·rcases av.mp hr with rfl | q
  ·exact hl p (aa _ (af _ hp))
  ·exact R.core.dh p hp r q
 ·refine bU (aX.mp hm) fun p hp e=>?_
  exact hl p (aa _ (aa _ hp)) e
theorem Rl.adF (R:Rl c σ aD tv hid s g m mo fz) (h1:(hn = .no→c.A.handled=none)∧(hn≠.yes→jH c.A hid)):Rl c ⟨σ.loc,σ.aP,hn⟩ aD tv hid s g m mo fz:=
 ⟨R.gh,R.core,R.p8,R.loc,R.aP,R.aD,R.gens,R.os,h1⟩
theorem Rl.Q7 {e:Addr} (R:Rl c σ aD tv hid s g m mo fz) (h1:(hn = .no→(c.mark e).A.handled=none)∧(hn≠.yes→jH (c.mark e).A hid)):Rl (c.mark e) ⟨σ.loc,σ.aP,hn⟩ aD tv hid s g m mo fz:=
 ⟨⟨R.gh.turn,R.gh.B,R.gh.D⟩,R.core,R.p8,R.loc,R.aP,R.aD,R.gens,R.os,h1⟩
theorem Rl.Qe {e:Addr} (R:Rl (c.mark e) σ aD tv hid s g m mo fz) (h1:(hn = .no→c.A.handled=none)∧(hn≠.yes→jH c.A hid)):Rl c ⟨σ.loc,σ.aP,hn⟩ aD tv hid s g m mo fz:=
 ⟨⟨R.gh.turn,R.gh.B,R.gh.D⟩,R.core,R.p8,R.loc,R.aP,R.aD,R.gens,R.os,h1⟩
theorem Rl.VI (R:Rl c σ aD tv ((I,o) :: hid) s g m mo fz) (hh:σ.dw≠.yes→jH c.A hid) (hn:∀ x sl,σ.loc.lookup x=some sl→RL c m fz hid (bh mo) x sl):Rl c σ aD tv hid s g m mo fz:=by
 refine ⟨R.gh,⟨R.core.F,fun p hp=>R.core.N p ?_,R.core.nd,fun p hp r hr=>R.core.dj p hp r ?_,fun p hp r hr=>R.core.dh p hp r (.tail _ hr),(bF.mp R.core.nh).2⟩,R.p8,hn,R.aP,R.aD,R.gens,R.os,R.dw.1,hh⟩
 ·rcases aj.mp hp with q | q
  ·exact af _ q
  ·refine bJ (aj.mp q) (fun q=>?_) fun q=>?_
   ·exact aa _ (af _ q)
   ·exact aa _ (aa _ (.tail _ q))
 ·refine bJ (aj.mp hr) (fun q=>?_) fun q=>?_
  ·exact af _ q
  ·exact aa _ (.tail _ q)
theorem Rl.unmark {e T:Addr} (O:Own c) (R:Rl (c.mark e) σ aD tv ((e,oe) :: (T,oT) :: hid) s g m mo fz) (h1:(hn = .no→c.A.handled=none)∧(hn≠.yes→jH c.A hid)) :
  Rl c ⟨σ.loc,σ.aP,hn⟩ aD tv hid s g m mo fz:=by
 have R1:Rl (c.mark e) ⟨σ.loc,σ.aP,.yes⟩ aD tv ((e,oe) :: (T,oT) :: hid) s g m mo fz:=R.adF ⟨(fun q=>nomatch q),fun q=>absurd rfl q⟩;have R2:=R1.VI (fun q=>absurd rfl q) (R1.jY (R1.qC (O.mark e)));have R3:=R2.VI (fun q=>absurd rfl q) (R2.jY (R2.qC (O.mark e)));exact R3.Qe h1
theorem Vs.unmark {e:Addr} {f:Flow} {fl:Fl} (k:∀ (aD:List V) (tv:List ah),Rel (c.mark e) σ' aD tv rH s'→Rel c ⟨σ'.loc,σ'.aP,hn⟩ aD tv hid s')
  (h:Lx (c.mark e) σ' aD tv rH s' fl f):Lx c ⟨σ'.loc,σ'.aP,hn⟩ aD tv hid s' fl f:=by
 cases fl<;>cases f<;>first | exact h.elim | exact k _ _ h
theorem M3:qF (.type "IndexError") (.type "IndexError")=pure true:=by rw[kW];rfl'
theorem vL {x:Xn} {e:Addr} {Q:Unit→aG→Prop} (O:Own c) (h:aF c.M c.A (xS (.ref e) c.l8) Q E s'):aF c.M c.A (xS (.ref e) c.env) Q E s':=by rw[O.J9];exact h
theorem P0 {x:Xn} {e:Addr} {Q:Unit→aG→Prop} (hx:(∃ h,EO h s'.heap e x∧Rel c σ aD tv hid { s' with heap:=h })∨n7 c x e σ aD tv hid s') (k:∀ Al,n7 c x e σ aD tv hid Al→Q () Al) :
  aF c.M c.A (xS (.ref e) c.l8) Q E s':=by
 rcases hx with ⟨h,hx,R⟩ | H
 ·exact Aa hx R fun h' H'=>k _ H'
 ·exact qJ H (k _ H)
theorem IX {r:Res α} {f:α→St→Res β} {k:Xn→St→Res β} (h:r.obs f k≠.fail):r≠.fail:=fun q=>h (by rw[q];rfl)
theorem yv {p:Prop} [mV p] {r:Res α} (h:(if p then r else .fail)≠.fail):p∧(if p then r else .fail)=r:=
 if q:p then ⟨q,aA q⟩ else absurd (aS q) h
theorem SS.adN {np hp pos:Pos} {b hb:List Stmt} {h0:Stmt} (O:Own c) (H:∀ c1:Cx,Own c1→c1.env=c.env→c1.fu=c.fu→c1.w=c.w→kJ ev c1) :
  SS c (exec (.Try b [.ExceptHandler (some (.Name x np)) none (h0 :: hb) hp] [] [] pos) c.env) σ (U5 c.K ev c.env.scope x b (h0 :: hb) σ):=by
 intro hr aD tv hid s R;refine cz (yv hr) fun hc e0=>?_;have e0:U5 c.K ev c.env.scope x b (h0 :: hb) σ=_:=e0;rw[e0] at hr ⊢;clear e0
 have K:=H c O rfl rfl rfl b σ;generalize ev.B c.env.scope b σ=r1 at K hr ⊢;refine cz (bQ.mp hc) fun hc h4=>cz (bQ.mp hc) fun hx0 h3=>?_;have h3:=beq_iff_eq.mp h3;have h4:=beq_iff_eq.mp h4;rw[beq_iff_eq.mp hx0] at h3 h4 ⊢;clear hc hx0
 refine wpAny_Try_except (wpAny_mono (K (IX hr) aD tv hid s R) (fun f b3 q=>jU q fun fl bx e RF=>?_) fun Xg b3 hx=>?_)
 ·rw[e]
  cases fl<;>cases f<;>first
   | exact RF.elim
   | exact mF (Y2 _ bx ⟨rfl,RF⟩)
   | exact (Y2 _ bx ⟨rfl,RF⟩)
 ·obtain ⟨xn,bx,e,e1,rfl,hx⟩:=hx
  rw[e1] at hr ⊢;clear K e1
  refine cz (yv hr) fun BO e0=>?_;have e0:Res.obs (.exc xn bx) Res.ok (hdX (ev.B c.env.scope (h0 :: hb)))=_:=e0;rw[e0] at hr ⊢;clear e0
  refine vL (x:=xn) O (P0 hx fun cD So=>se So fun h' g m mo fz T oe oT R L=>?_);refine X14 L.data fun vs hd kC Kg _=>?_;refine bU L.Wx fun ts AP hz3=>?_;refine wpAny_handleBy_builtin (X:="IndexError") (T:="IndexError") (b:=true) PySem.F.isExc_IndexError PySem.F.notTuple_IndexError M3 ?_;refine gS c.hk h3 (kO (env:=c.env) (v:=.type "IndexError") (by rw[c.yk];exact c.TB.g.keeps R.jo) (Kx c.XB c.TB.g h4) (by rw[c.Ma];exact c.TB.b.keeps R.jo) ((c.TB.builtins _ (by decide)).trans (by decide +kernel)) ⟨rfl,⟨oe,L.at_,BO.2 ▸ L.cls⟩,?_⟩) (by decide);refine wpAny_bind (m8 L.at_ hd Kg ?_);refine nM L.tb AP hz3 ?_;have hTL:T≠c.L:=fun q=>by
   refine Ep R.core.F.ns fun oL es ep F1 OZ _=>?_;rw[← q,L.tb] at F1;cases F1;rw[AP] at OZ;cases OZ
  have R1:=R.VE (h':=h'.update T (dO (·.setIfInBounds 3 ((none:Option Addr).elim dZ fun f=>gu f)))) hTL L.gr.2 (fun p hp=>(L.off p hp).2) fun b o hb q=>(bY _ _ (eO hb)).trans q;have R2:Rl (c.mark e) ⟨bx.loc,bx.aP,.yes⟩ aD tv hid _ g m mo fz:=R1.Q7 ⟨(fun q=>nomatch q),fun q=>absurd rfl q⟩;have K:SS (c.mark e) (FF (h0 :: hb) c.env) ⟨bx.loc,bx.aP,.yes⟩ (ev.B c.env.scope (h0 :: hb) ⟨bx.loc,bx.aP,.yes⟩):=H (c.mark e) (O.mark e) rfl rfl rfl (h0 :: hb) ⟨bx.loc,bx.aP,.yes⟩;generalize ev.B c.env.scope (h0 :: hb) ⟨bx.loc,bx.aP,.yes⟩=r2 at K hr ⊢;refine wpAny_mono (K (IX hr) aD tv hid _ R2.rel) (fun f i9 q=>jU q fun fl b5 e2 RF=>?_) fun Xg i9 hx'=>AN hx' fun x' b5 e' e2 _=>absurd (by rw[e2];rfl) hr;rw[e2];exact (Y2 fl _ ⟨rfl,Vs.unmark (hn:=.no) (fun aD tv q=>iM q fun g' m' ri gM R3=>(R3.Qe (hn:=.no) ⟨fun _=>R.dw.1 BO.1,fun _=>R.dw.2 (by rw[BO.1];exact fun q=>nomatch q)⟩).rel) RF⟩)
theorem Rl.Ip {x:Xn} {e T:Addr} {vs ts:eF ah} (O:Own c) (R:Rl (c.mark e) σ aD tv ((e,oe) :: (T,oT) :: hid) s g m mo fz) (h1:c.A.handled=none) (h2:jH c.A hid)
  (hc:oe.cls = .type x.cls) (hd:oe.data = .fields vs) (kC:vs.size=6) (Kg:vs[1]?=some (.ref T)) (hv2:vs[2]?=some .none) (AP:oT.data = .fields ts) (hz3:3<ts.size) :
  n7 c x e ⟨σ.loc,σ.aP,.no⟩ aD tv hid { s with heap:=s.heap.update T (dO (·.setIfInBounds 3 (gu c.L))) }:=by
 have NE:=R.core.N (e,oe) (aa _ (aa _ (.head _)));have NT:=R.core.N (T,oT) (aa _ (aa _ (.tail _ (.head _))));have dw:=R.core.nh;have Tp:T≠e:=fun q=>(bF.mp dw).1 (by rw[q];exact .head _);have off:∀ p∈mo++(fz++hid),p.1≠e∧p.1≠T:=fun p hp=>by
  refine bJ (aj.mp hp) (fun q=>?_) fun q=>?_
  ·exact ⟨R.core.dj p q (e,oe) (aa _ (.head _)),R.core.dj p q (T,oT) (aa _ (.tail _ (.head _)))⟩
  ·refine bJ (aj.mp q) (fun q=>?_) fun q=>?_
   ·exact ⟨R.core.dh p q (e,oe) (.head _),R.core.dh p q (T,oT) (.tail _ (.head _))⟩
   ·exact ⟨fun z=>(bF.mp dw).1 (.tail _ (aX.mpr ⟨p,q,z⟩)),fun z=>(bF.mp (bF.mp dw).2).1 (aX.mpr ⟨p,q,z⟩)⟩
 have R1:=R.unmark (hn:=.no) O ⟨fun _=>h1,fun _=>h2⟩;have other:∀ b,b≠T→(s.heap.update T (dO (·.setIfInBounds 3 (gu c.L)))).get? b=s.heap.get? b:=fun b hb=>bY _ _ (eO hb);have R2:=R1.VE (h':=s.heap.update T (dO (·.setIfInBounds 3 (gu c.L)))) NT.2.1 NT.2.2 (fun p hp=>(off p hp).2) fun b o hb q=>(other b hb).trans q;obtain ⟨a0,ha0⟩:∃ a0,vs[0]?=some a0:=⟨vs[0],kg (by exact ni kC)⟩;have alD:e∉c.Et∧T∉c.Et:=by
  constructor
  ·intro hm
   refine cz (R1.frames.mem hm) fun _ afw=>?_;refine bU afw fun o ho yo=>?_;rw[NE.1] at ho;cases ho;exact yo vs hd
  ·intro hm
   refine cz (R1.frames.mem hm) fun _ afx=>?_;refine bU afx fun o ho yo=>?_;rw[NT.1] at ho;cases ho;exact yo ts AP
 have acq:∀ b o,s.heap.get? b=some o→b≠e→b≠T→b∉c.Et→(cT s.heap (e :: T :: c.Et)).get? b=some o:=fun b o q h1 h2 h3=>kU _ q fun hm=>by
  refine bJ (av.mp hm) (fun z=>?_) fun z=>?_
  ·exact h1 z
  ·refine bJ (av.mp z) (fun z=>?_) fun z=>?_
   ·exact h2 z
   ·exact h3 z
 have he':=(other e (eO Tp)).trans NE.1;have RW:(cT s.heap (e :: T :: c.Et)).get? T=none:=hideAll_none _ (.tail _ (.head _));refine (Y2 (cT s.heap (e :: T :: c.Et)) a0 (Y2 g m (Y2 mo fz ⟨R2,⟨fun b o q=>(other b fun z=>by rw[z,RW] at q;cases q).trans (of_hideAll _ q),hideAll_none _ (.head _),?_,⟨oe,vs,T,_,_,he',⟨hc,ha0⟩,hd,Kg,RW,Tp,bL _ NT.1 (nq (gb AP _)),gb AP _,by simp [hz3]⟩⟩,
  fun b o q hb=>acq b o (R1.core.F.keep b o q) (fun z=>by rw[z,NE.2.2] at q;cases q) (fun z=>by rw[z,NT.2.2] at q;cases q) (R1.off q hb),fun p hp=>acq _ _ (R1.core.N p hp).1 (off p hp).1 (off p hp).2 (R1.led hp),⟨oe,vs,he',hd,kC,fun _=>hv2⟩⟩)))
 refine (funFrames_hide (as:=e :: T :: c.Et) R1.frames fun env he a ha=>.tail _ (.tail _ (NX.mpr ⟨env,he,ha⟩))).of_keeps fun b o q yo=>⟨o,(other b fun z=>?_).trans q,rfl⟩;rw[z,NT.1] at q;cases q;exact yo ts AP
theorem n7.unmark {x:Xn} {e e2 T:Addr} {oe oT:Obj} (O:Own c) (h1:c.A.handled=none) (h2:jH c.A hid) (H:n7 (c.mark e) x e2 σ aD tv ((e,oe) :: (T,oT) :: hid) s):n7 c x e2 ⟨σ.loc,σ.aP,.no⟩ aD tv hid s:=by
 refine X65 H fun bs a0 g m mo fz R hh hb hl hx=>?_;refine (Y2 bs a0 (Y2 g m (Y2 mo fz ⟨R.unmark O ⟨fun _=>h1,fun _=>h2⟩,hh,hb,fun p hp=>hl p ?_,hx⟩)));rcases aj.mp hp with q | q
 ·exact af _ q
 ·refine bJ (aj.mp q) (fun q=>?_) fun q=>?_
  ·exact aa _ (af _ q)
  ·exact aa _ (aa _ (.tail _ (.tail _ q)))
set_option backward.match.sparseCases true in
theorem yg {f0:Stmt} {fb:List Stmt} {r0:Res Fl} {fl:Fl} {f:Flow} {kj:List V} {Ri:List ah} (O:Own c) (K:SS c (FF (f0 :: fb) c.env) σ r0) (hn:tU fl r0≠.fail) (R':Rel c σ kj Ri hid s)
  (kF:∀ b5 cD,Rel c b5 kj Ri hid cD→Lx c b5 aD tv hid cD fl f) (kE:∀ {r:Res Fl} ev s',kH c r kj Ri hid ev s'→kH c r aD tv hid ev s') :
  aF c.M c.A (FF (f0 :: fb) c.env) (fun g s'=>match g with
   | .next=>Vs c (tU fl r0) aD tv hid f s'
   | g=>Vs c (tU fl r0) aD tv hid g s') (notedBy c.M c.A c.env (uT c.M c.A c.env (kH c (tU fl r0) aD tv hid))) s:=by
 refine wpAny_mono (K (fun q=>hn (by rw[q];rfl)) kj Ri hid s R') (fun g cD q=>jU q fun fl2 b5 e2 RF2=>?_) fun ev2 cD hx=>AN hx fun x b5 e' e2 rest=>?_
 ·subst e2
  cases fl2 with
  | next=>cases g<;>first | exact RF2.elim | exact ⟨fl,b5,rfl,kF b5 cD RF2⟩
  | _=>exact absurd rfl hn
 ·subst e2
  rw[O.J9];exact kH.passes _ _ (kE ev2 cD ⟨x,b5,e',rfl,rest⟩)
theorem SS.Z7 {b fb:List Stmt} {f0:Stmt} (O:Own c) (H:∀ c1:Cx,Own c1→c1.env=c.env→c1.fu=c.fu→c1.w=c.w→kJ ev c1) :
  SS c (exec (.Try b [] [] (f0 :: fb) pos) c.env) σ (Z6 ev c.env.scope b (f0 :: fb) σ):=by
 intro hr aD tv hid s R;have K:=H c O rfl rfl rfl b σ;unfold Z6 at hr ⊢;generalize ev.B c.env.scope b σ=r1 at K hr ⊢;refine wpAny_Try_finally (wpAny_mono (K (IX hr) aD tv hid s R) (fun f b3 q=>jU q fun fl bx e RF=>?_) fun Xg b3 hx=>?_)
 ·subst e
  clear K
  have K:=H c O rfl rfl rfl (f0 :: fb) bx;cases fl with
  | next=>cases f with
   | next=>exact mF (yg (fl:=.next) (f:=.next) (aD:=aD) (tv:=tv) O K hr RF (fun _ _ z=>z) fun _ _ z=>z)
   | _=>exact RF.elim
  | brk=>cases f with
   | brk=>exact yg (fl:=.brk) (f:=.brk) (aD:=aD) (tv:=tv) O K hr RF (fun _ _ z=>z) fun _ _ z=>z
   | _=>exact RF.elim
  | cont=>cases f with
   | cont=>exact yg (fl:=.cont) (f:=.cont) (aD:=aD) (tv:=tv) O K hr RF (fun _ _ z=>z) fun _ _ z=>z
   | _=>exact RF.elim
  | ret u=>cases f with
   | ret v=>exact yg (fl:=.ret u) (f:=.ret v) (aD:=aD) (tv:=tv) O K hr RF (fun _ _ z=>z) fun _ _ z=>z.pop
   | _=>exact RF.elim
 ·obtain ⟨xn,bx,e,e1,rfl,hx⟩:=hx
  subst e1;clear K
  refine cz (yv hr) fun BO e0=>?_;have e0:Res.obs (.exc xn bx) (fun fl σ'=>tU fl (ev.B c.env.scope (f0 :: fb) σ')) (OD fun x σ'=>tT x (ev.B c.env.scope (f0 :: fb) σ'))=_:=e0;rw[e0] at hr ⊢;clear e0
  refine vL (x:=xn) O (P0 hx fun cD So=>⟨(fun q=>by cases q),vL (x:=xn) O (qJ So (se So fun h' g m mo fz T oe oT R L=>?_))⟩);refine X14 L.data fun vs hd kC Kg hv2=>?_;have hv2:=hv2 BO.2;refine bU L.Wx fun ts AP hz3=>?_;have acZ:∀ {b o vs},({ cD with heap:=h' }:aG).heap.get? b=some o→o.data = .fields vs→b≠c.L:=fun {b o vs} q1 q2 q=>by
   refine Ep R.core.F.ns fun oL es ep F1 OZ _=>?_;rw[← q,q1] at F1;cases F1;rw[q2] at OZ;cases OZ
  have hh:=R.dw.1 BO.1;have hH:jH c.A hid:=R.dw.2 (by rw[BO.1];exact fun q=>nomatch q);have R1:=R.adopt L.tb (acZ L.tb AP) L.gr.2 fun p hp=>(L.off p hp).2;have R2:=R1.adopt L.at_ (acZ L.at_ hd) L.gr.1 fun p hp=>by
   rcases aj.mp hp with q | q
   ·exact (L.off p (af _ q)).1
   ·refine bJ (aj.mp q) (fun q=>?_) fun q=>?_
    ·exact (L.off p (aa _ (af _ q))).1
    ·rcases av.mp q with rfl | q
     ·exact L.ne
     ·exact (L.off p (aa _ (aa _ q))).1
  have R3:Rl (c.mark e) ⟨bx.loc,bx.aP,.may⟩ aD tv ((e,oe) :: (T,oT) :: hid) { cD with heap:=h' } g m mo fz:=R2.Q7 ⟨(fun q=>nomatch q),fun _=>.inr ⟨e,oe,vs,rfl,.head _,hd,kC,hv2⟩⟩;have K:SS (c.mark e) (FF (f0 :: fb) c.env) ⟨bx.loc,bx.aP,.may⟩ (ev.B c.env.scope (f0 :: fb) ⟨bx.loc,bx.aP,.may⟩):=H (c.mark e) (O.mark e) rfl rfl rfl (f0 :: fb) ⟨bx.loc,bx.aP,.may⟩;generalize ev.B c.env.scope (f0 :: fb) ⟨bx.loc,bx.aP,.may⟩=r0 at K hr ⊢;refine wpAny_mono (K (fun q=>hr (by rw[q];rfl)) aD tv _ _ R3.rel) (fun gf i9 q=>jU q fun fl2 b5 e2 RF=>?_) fun ev2 i9 hx2=>Ep hx2 fun x2 b5 e' e2 ee hx3=>?_
  ·subst e2
   cases fl2 with
   | next =>
    cases gf with
    | next =>
     refine iM RF fun g' m' ri gM R4=>?_;have hE:=R4.Ip (x:=xn) O hh hH L.cls hd kC Kg hv2 AP hz3;have he3:=(R4.core.N (e,oe) (aa _ (aa _ (.head _)))).1;have hT3:=(R4.core.N (T,oT) (aa _ (aa _ (.tail _ (.head _))))).1;refine wpAny_bind (m8 he3 hd Kg ?_);rw[c.yj];unfold QB;refine wpAny_bind (wpAny_bind (m8 he3 hd Kg ?_));rw[aA (show (gJ T != dZ)=true from by simp)];exact nM hT3 AP hz3 (wpAny_throw ⟨xn,_,e,rfl,rfl,.inr hE⟩)
    | _=>exact RF.elim
   | _=>exact absurd rfl hr
  ·subst e2
   rw[ee];refine cz (yv hr) fun yp e0=>?_;have e0:tT xn (.exc x2 b5)=_:=e0;rw[e0];refine vL (c:=c.mark e) (x:=x2) (O.mark e) (P0 (c:=c.mark e) hx3 fun Jl agK=>?_);unfold uT;rw[O.J9];exact BS (n7.unmark O hh hH agK) fun h'' H'=>⟨x2,_,e',rfl,rfl,.inr H'⟩
end
end
section
open PySem.Builtin
section
theorem Qw {a y z:Str} {ov:V} (h:ZT a y z ov σ=r) (hn:r≠.fail):∃ x,strOf ov=some x∧(x.length≤2 ^ 10∧z.length≤2 ^ 4∧a.length≤2 ^ 10∧y.length≤2 ^ 4∧(y.length==0)=false) ∧
  (((ir x y 0 x.length (x.length+1)).isEmpty=true∧r = .ok (.p (.str (a++x))) σ) ∨
   ((ir x y 0 x.length (x.length+1)).isEmpty=false∧(BK z (CH x (ir x y 0 x.length (x.length+1)) y.length)).length≤2 ^ 20∧r = .ok (.p (.str (a++BK z (CH x (ir x y 0 x.length (x.length+1)) y.length)))) σ)):=by
 refine bU (bK (o:=strOf ov) h hn) fun x hx h=>?_;refine cz (bW h hn) fun q h=>?_;refine ⟨x,hx,q,?_⟩;generalize ir x y 0 x.length (x.length+1)=oc at h ⊢;by_cases hc:oc.isEmpty=true
 ·rw[aA hc] at h
  exact .inl ⟨hc,h.symm⟩
 ·rw[aS hc] at h
  refine cz (bW h hn) fun q6 h=>?_;exact .inr ⟨by simpa using hc,q6,h.symm⟩
theorem ZU {a y z:Str} {ka ky kz:Nat} {pa py pz ap pos ag1:Pos} {o:Expr} (HE:cI ev c) (h1:ap.endLine=pos.line) (hyz:(y==z)=false) (h4:nH o=true) :
  SE c (eval (.BinOp (.Constant (.str a) ka pa) .Add (.Call (.Attribute o "replace" ap) [.Constant (.str y) ky py,.Constant (.str z) kz pz] [] pos) ag1) c.env) σ ((ev.E c.env.scope o >>= fun ov=>ZT a y z ov) σ):=by
 refine .mk fun rr h hn aD tv hid s R=>?_;refine wpAny_BinOp (oU ?_);have R0:Rel c σ aD tv hid { s with toks:=s.toks+1 }:=R.toks;rw[yK,oE h4];refine wpAny_bind (wpAny_with_toks (n:=1) (by show 1≤s.toks+1;exact fV 1 s.toks) (SE.go (HE o σ) h hn R0 (fun _ _ x _=>x) fun ov bx v b3 h bN ht=>?_));show aF _ _ _ (fun b cD=>aF _ _ (Bs .Add _ b) (iZ c rr aD tv hid) (kH c rr aD tv hid) cD) (kH c rr aD tv hid) _;refine iM (bN) fun g m mo fz cX=>?_;refine cz (cX.one) fun hv gv=>?_;refine nv (Qw h hn) fun x hx G8 abF=>?_;refine X05 G8 fun q1 q2 q3 q4 q5=>?_;clear h hn
 refine eU (hv.pG hx) fun t afy=>?_;obtain rfl:=afy
 ·skip
  refine wpAny_bind (gA ?_);have O1:rg ([EL (.str y) ky py,EL (.str z) kz pz].length+([]:List uP).length) (sP pos (j3 [.Constant (.str y) ky py,.Constant (.str z) kz pz] c.env)) (Br pos (su [] c.env))=true:=rfl;have XH:j9 true o c.env ap pos=pure pos:=by unfold j9;simp [h1]
  unfold Kv;rw[O1];refine wpAny_bind (cF ?_);show aF _ _ (getMethod (.str x t) "replace" _) _ _ _;refine nF (T:="str") (id:="str.replace") ?h1 ?h2 ?h3 ?h4 ?h5 ?_;case h1=>exact mS _ _ _
  case h2=>exact Bf
  case h3=>exact Vo
  case h4=>exact F.type_str_replace
  case h5=>intro _ e;cases e
  rw[XH];refine wpAny_bind (wpAny_pure ?_);refine E9 (P:=n8 c.M (.builtin "str.replace")) rfl (fun h p=>p) (oY rfl rfl (CO (oU (CO (oU (Se (nK ⟨jX _ _,?_⟩)))))));have hz:aZ=2 ^ 24:=rfl;have ahv:=StrLaws.occ_length_le x y 0 x.length (x.length+1);have Xv:(ir x y 0 x.length (x.length+1)).length*z.length≤(x.length+1)*z.length:=uR _ ahv;have abE:(x.length+1)*z.length≤(2 ^ 10+1)*2 ^ 4:=Nat.mul_le_mul (by exact uM (.g au (.n 1024) .e) (.s au) (.s (.n 1024)) zC G8.1) q2;have hl:nJ (x.length+(ir x y 0 x.length (x.length+1)).length*z.length)=false:=by
   unfold nJ;rw[gF];exact fun pM=>(z0 [_,_,_,_] (.g (.n 16777216) au (.g (.s au) (.a aE aT) (.g aE (.n 1024) (.g aT bX (.g bX (.r (.s (.n 1024)) 16) .e))))) zC (zG hz) pM G8.1 Xv abE)
  have fin:∀ (r:Str) (t':Tok) (k:Nat),r.length≤2 ^ 20→aF c.M c.A (Bs .Add (.str a s.toks) (.str r t')) (iZ c (Res.ok (V.p (P.str (a++r))) bx) aD tv hid) (kH c (Res.ok (V.p (P.str (a++r))) bx) aD tv hid) { b3 with toks:=k }:=fun r t' k hlen=>by
   have hb:xN c.K .Add (.p (.str a)) (.p (.str r)) bx = .ok (.p (.str (a++r))) bx:=by
    show (if a.length+r.length≤aZ then pure (V.p (.str (a++r))) else Mo.fail:Mo V) bx = _;rw[aA (by exact rM (.g au (.n 1024) (.g aE (.n 1048576) (.g (.n 16777216) aT .e))) (.a au aE) aT zC G8.2.2.1 hlen (zG hz))];rfl
   have R4:Rel c bx (.p (.str r) :: .p (.str a) :: aD) (.str r t' :: .str a s.toks :: tv) hid { b3 with toks:=k }:=((gv.rel.toks (k:=k)).push fun _ _ _=>.str).push fun _ _ _=>.str;exact JR hb (fun q=>nomatch q) R4
  refine call_gives Vo (mS _ _ _) F.entry_str_replace (F.args_str_replace_3 _ _ _)
   (gives_str_replace x y z t _ _ fun _=>⟨?_,?_,hyz,hl⟩) ?_
  ·show ((b3.toks==0||b3.toks+1==0):Bool)=false
   rw[nO];exact ⟨aJ.mpr (JJ ht),aJ.mpr (Nat.succ_ne_zero _)⟩
  ·show ((b3.toks==b3.toks+1):Bool)=false
   rw[aJ];exact Nat.ne_add_one b3.toks
  ·rw[q5,WJ,nD]
   rcases abF with ⟨hc,rfl⟩ | ⟨hc,q6,rfl⟩
   ·rw[hc]
    exact fin x _ _ (by exact jj G8.1 zC)
   ·rw[hc]
    exact ⟨by exact fc q6,fin _ _ _ q6⟩
end
end
section
open PySem.Builtin
section
noncomputable def Hy (ev:Ev) (c:Cx):Prop:=∀ (v elt:Expr) (gens:List gx) (cK:bV) (gp ap pos:Pos) (σ:St),ap.endLine=pos.line→nH v=true →
 SE c (eval (.Call (.Attribute v "join" ap) [.GeneratorExp elt gens cK gp] [] pos) c.env) σ ((ev.E c.env.scope v >>= V3 ev c.env.scope elt gens cK) σ)
theorem SE.fail {t:Sem ah}:SE c t σ .fail:=fun h=>absurd rfl h
theorem SE.ite {t:Sem ah} {p:Prop} [mV p] {m:Mo V} (h:p→SE c t σ (m σ)):SE c t σ ((if p then m else Mo.fail) σ):=by
 intro hr;refine cz (zx hr) fun hp e=>?_;rw[e] at hr ⊢;exact h hp hr
structure Sub (ev:Ev) (c:Cx):Prop where
 E:cI ev c
 T:nu ev c
 C:gC ev c
 I:ur ev c
 J:Hy ev c
 X:∀ c1:Cx,c1.fu=c.fu→c1.w=c.w→(cI ev c1∧nu ev c1)∧(gC ev c1∧pn ev c1)∧(Own c1→kJ ev c1)
theorem EW (h:qu e=none):DC e=false:=by
 unfold DC;rw[h];rfl
theorem Ot {k:Const}:SE c (eval (.Constant k n pos) c.env) σ (Oq k σ):=by
 cases k<;>first | exact SE.none | exact SE.bool | exact SE.int | exact SE.str | exact SE.fail
theorem SQ {l r:Expr} (HE:cI ev c):SE c (eval (.BinOp l op r pos) c.env) σ (Oe c.K ev c.env.scope l op r σ):=by
 dsimp only [Oe];refine oC (K6 l op r) (fun _=>SE.bin HE) fun p _=>?_;obtain ⟨⟨a,o,y,z⟩,ha,hl,hr⟩:=p;refine X21 hl fun k p e=>?_;refine X64 hr fun ap ky py kz pz ps e2 h1 h2 h3=>?_;cases wF ha;subst e e2;exact ZU HE h1 h2 h3
theorem UW {v i:Expr} (HE:cI ev c):SE c (eval (.Subscript v i pos) c.env) σ (QZ c.K ev c.env.scope v i σ):=by
 dsimp only [QZ];refine oC (sliceOf i) (fun _=>SE.sub HE) fun p _=>?_;obtain ⟨⟨a,b,d⟩,hp⟩:=p;refine eU hp fun _ e=>?_;subst e;exact SE.slice HE
theorem Z8 {op:UnaryOp} (HE:cI ev c):SE c (eval (.UnaryOp op e pos) c.env) σ (unE c.K ev c.env.scope op e σ):=by
 cases op<;>first | exact SE.not HE | exact SE.neg HE | exact SE.fail
theorem S0 {l:Expr} {ops:List yC} {rs:List Expr} (HE:cI ev c):SE c (eval (.Compare l ops rs pos) c.env) σ (abh ev c.env.scope l ops rs σ):=by
 match ops,rs with
 | [op],[r]=>exact SE.cmp HE
 | [],_=>exact SE.fail
 | [_],[]=>exact SE.fail
 | [_],_ :: _ :: _=>exact SE.fail
 | _ :: _ :: _,_=>exact SE.fail
theorem Oj (U:Sub ev c) {f:Expr} {args:List Expr}:SE c (eval (.Call f args zD pos) c.env) σ (E5 c.K ev c.env.scope f args zD pos σ):=by
 dsimp only [E5];refine oC (qu f) (fun h=>?_) fun p _=>?_
 ·exact SE.ite fun q=>SV U.E U.C (fun c1 h1 h2=>(U.X c1 h1 h2).2.1) U.I (EW h) q.1 q.2
 ·obtain ⟨⟨v,m,ap⟩,e⟩:=p
  subst e;refine SE.ite fun q=>?_;refine X05 q fun q1 q2 q3 q4 q5=>?_;cases zD with
  | cons _ _=>cases q1
  | nil =>
  dsimp only [Gk];refine oC (BI args) (fun _=>Ul U.E U.C q2 q3 q4 q5) fun p _=>?_;obtain ⟨⟨a,b,d⟩,hp⟩:=p;refine eU hp fun _ e=>?_;subst e;exact SE.ite fun hm=>hm ▸ U.J _ _ _ _ _ _ _ _ q2 q5
theorem QK (U:Sub ev c):cI (step c.K ev) c:=by
 intro e σ;cases e with
 | Constant _ _ _=>exact Ot
 | Name _ _=>exact SE.name
 | BinOp _ _ _ _=>exact SQ U.E
 | UnaryOp _ _ _=>exact Z8 U.E
 | BoolOp _ _ _=>exact SE.Bt U.E _ σ
 | Compare _ _ _ _=>exact S0 U.E
 | List _ _=>exact SE.list U.E
 | Tuple _ _ _=>exact SE.tuple U.E
 | Subscript _ _ _=>exact UW U.E
 | ListComp _ _ _ _=>exact SE.PE U.E fun c1 h1 h2=>(U.X c1 h1 h2).1
 | Attribute _ _ _=>exact SE.ite fun h=>SM U.E U.C h
 | Call _ _ _ _=>exact Oj U
 | _=>exact SE.fail
theorem SB.fail {t:Sem Bool}:SB c t σ .fail:=fun h=>absurd rfl h
theorem GZ {r:Res Bool} (h:tG c.K u σ=r) (hn:r≠.fail) (R:Rel c σ (u :: aD) (v :: tv) hid s):aF c.M c.A (EF v) (Vt c r aD tv hid) (kH c r aD tv hid) s:=by
 subst h;exact Lj hn R
theorem Ll (HE:cI ev c) (h:AR e c.env (eval e c.env)=(do let v ← eval e c.env;standAt e.pos;holding [v] (EF v))):SB c (AR e c.env (eval e c.env)) σ (Nd c.K ev c.env.scope e σ):=
 .mk fun _ h' hn _ _ _ _ R =>
  wpAny_isTrue_value (SE.go (HE e σ) h' hn R (fun _ _ x=>x) fun a bx va b3 h bN=>GZ h hn bN) h
theorem S2 {l:Expr} {ops:List yC} {rs:List Expr} (HE:cI ev c):SB c (AR (.Compare l ops rs pos) c.env (eval (.Compare l ops rs pos) c.env)) σ (abi c.K ev c.env.scope l ops rs σ):=by
 match ops,rs with
 | [op],[r] =>
  refine .mk fun _ h hn _ _ _ _ R=>?_;refine cz (bW (σ:=σ) h hn) fun hm h=>?_;refine Vb (SE.go (HE l σ) h hn R (fun _ _ x=>x) fun a bx va b3 h bN=>SE.go (HE r bx) h hn bN (fun _ _ x=>x.pop) fun b b5 vb cD h cX=>?_) hm;exact wpAny_mono (JV (E:=fun _ _=>iP) rfl (oB h hn) cX) (fun v i9 aiS=>jU aiS fun u iU Xj gv=>GZ (i8 Xj h) hn gv) fun _ _ x=>x.elim
 | [],_=>exact SB.fail
 | [_],[]=>exact SB.fail
 | [_],_ :: _ :: _=>exact SB.fail
 | _ :: _ :: _,_=>exact SB.fail
theorem QN (U:Sub ev c):nu (step c.K ev) c:=by
 intro e σ;cases e with
 | UnaryOp op e pos =>
  cases op with
  | Not=>exact .mk fun _ h hn _ _ _ _ R=>wpAny_isTrue_Not (SB.go (U.T e σ) h hn R (fun _ _ x=>x) fun b bx b3 h bN=>⟨bx,h.symm,bN⟩)
  | _=>exact Ll U.E rfl
 | BoolOp _ _ _=>exact GR U.T _ σ
 | IfExp _ _ _ _=>exact SB.fail
 | Compare _ _ _ _=>exact S2 U.E
 | _=>exact Ll U.E rfl
theorem SS.fail {t:Sem Flow}:SS c t σ .fail:=fun h=>absurd rfl h
theorem SS.ite {t:Sem Flow} {p:Prop} [mV p] {m:Mo Fl} (h:p→SS c t σ (m σ)):SS c t σ ((if p then m else Mo.fail) σ):=by
 intro hr;refine cz (zx hr) fun hp e=>?_;rw[e] at hr ⊢;exact h hp hr
theorem SS.jV {γ : Type} {t:Sem Flow} {p : γ→Prop} {o:Option (Hz p)} {f : γ→Mo Fl} (h:∀ x,p x→SS c t σ (f x σ)):SS c t σ (Mo.jV o f σ):=by
 cases o with
 | none=>exact SS.fail
 | some x=>exact h x.1 x.2
theorem SH (U:Sub ev c) (O:Own c) {t e:Expr}:SS c (exec (.Assign [t] e pos) c.env) σ (HM c.K ev c.env.scope t e σ):=by
 dsimp only [HM];refine oC (PC e) (fun _=>?_) fun p _=>?_
 ·refine SS.ite fun h=>?_
  cases t with
  | Name x p=>exact SS.assign U.E O h.1 rfl rfl
  | Attribute o a p=>exact SS.assign U.E O h.1 rfl rfl
  | _=>exact absurd h.2 bR
 ·obtain ⟨⟨a,b,d⟩,hp⟩:=p
  refine eU hp fun _ e=>?_;subst e;refine SS.jV fun x hx=>?_;refine eU hx fun _ e=>?_;subst e;exact SS.SK O U.E fun c1 h1 h2=>(U.X c1 h1 h2).1
theorem SI (U:Sub ev c) (O:Own c) {ts:List Expr}:SS c (exec (.Assign ts e pos) c.env) σ (abd c.K ev c.env.scope ts e σ):=by
 cases ts with
 | nil=>exact SS.fail
 | cons t ts=>cases ts with
  | nil=>exact SH U O
  | cons t' ts=>cases ts with
   | cons _ _=>exact SS.fail
   | nil =>
    refine SS.jV (o:=nameOf t) (f:=fun x=>Mo.jV (nameOf t') fun y=>ev.E c.env.scope e >>= fun v=>o9 x v >>= fun _=>o9 y v >>= fun _=>pure .next) fun x hx=>?_;refine eU hx fun _ e=>?_;subst e;refine SS.jV fun y hy=>?_;refine eU hy fun _ e=>?_;subst e;exact SS.SJ U.E O
theorem SO (U:Sub ev c) (O:Own c) {t e:Expr}:SS c (exec (.AugAssign t .Add e pos) c.env) σ (abe c.K ev c.env.scope t e σ):=by
 cases t with
 | Name _ _=>exact SS.agZ U.E O
 | Attribute _ _ _=>exact SS.agX U.E U.C
 | Subscript _ _ _=>exact SS.agY U.E
 | _=>exact SS.fail
theorem U6 (U:Sub ev c) (O:Own c) {b HX fin:List Stmt} {hs:List ExceptHandler}:SS c (exec (.Try b hs HX fin pos) c.env) σ (adO c.K ev c.env.scope b hs HX fin σ):=by
 have HT:∀ c1:Cx,Own c1→c1.env=c.env→c1.fu=c.fu→c1.w=c.w→kJ ev c1:=fun c1 h1 _ h2 h3=>(U.X c1 h2 h3).2.2 h1;cases HX with
 | cons _ _=>exact SS.fail
 | nil =>
 cases fin with
 | nil =>
  refine SS.jV (o:=abL hs) (f:=fun p=>U5 c.K ev c.env.scope p.1 b p.2) fun p hp=>?_;obtain ⟨x,hb⟩:=p;refine W3 hp fun _ _ _ _ e1 e2=>?_;subst e1 e2;exact SS.adN O HT
 | cons f0 fb =>
  refine SS.ite fun h=>?_;cases hs with
  | nil=>exact SS.Z7 O HT
  | cons _ _=>cases h
theorem QM (U:Sub ev c) (O:Own c) (st:Stmt) (σ:St):SS c (exec st c.env) σ (fk c.K ev c.env.scope st σ):=by
 have HB:kJ ev c:=(U.X c rfl rfl).2.2 O;have hi:V1 c.env=false:=by unfold V1;rw[c.hk];rfl
 cases st with
 | Pass _=>exact SS.pass
 | Break _=>exact SS.brk
 | Continue _=>exact SS.cont
 | Return v _=>cases v with
  | none=>exact SS.aiu
  | some _=>exact SS.ret U.E
 | Expr _ _=>exact SS.expr U.E hi
 | Assign _ _ _=>exact SI U O
 | AugAssign _ op _ _=>exact SS.ite fun h=>wF h ▸ SO U O
 | If _ _ _ _=>exact SS.ifs U.T HB
 | While _ _ HX _ =>
  refine SS.ite fun h=>?_;cases HX with
  | nil=>exact SS.while U.T HB O.J9
  | cons _ _=>cases h
 | For _ _ _ HX _ =>
  refine SS.ite fun h=>?_;cases HX with
  | cons _ _=>cases h
  | nil =>
   refine SS.jV fun x hx=>?_;refine eU hx fun _ e=>?_;subst e;exact SS.for U.E HB O O.J9
 | Try _ _ _ _ _=>exact U6 U O
 | Raise e d _ =>
  refine SS.ite fun h=>?_;cases d with
  | some _=>cases h
  | none =>
   cases e with
   | none=>exact SS.fail
   | some e =>
   refine SS.jV fun x hx=>?_;refine eU hx fun _ e=>?_;subst e;exact SS.raise
 | _=>exact SS.fail
theorem QI (U:Sub ev c) (O:Own c):kJ (step c.K ev) c:=by
 intro ss;induction ss with
 | nil=>intro σ;exact SS.nil
 | cons st ss ih =>
  intro σ;show SS c (FF (st :: ss) c.env) σ (CP c.K ev c.env.scope (st :: ss) σ);unfold CP;exact SS.cons (n:=CP c.K ev c.env.scope ss) (fun σ=>QM U O st σ) (fun σ=>ih σ)
end
end
section
open PySem.Builtin
structure Sound (ev:Ev) (c:Cx):Prop where
 E:cI ev c
 T:nu ev c
 C:gC ev c
 N:pn ev c
 B:Own c→kJ ev c
theorem ZZ (c:Cx):Sound ev0 c:=by
 refine ⟨fun e σ h=>absurd rfl h,fun e σ h=>absurd rfl h,?_,?_,fun _ ss σ h=>absurd rfl h⟩
 ·intro a us ku σ A' aD tv hid s vals kv _ h
  exact absurd rfl h
 ·intro a u σ A' aD tv hid s v _ h
  exact absurd rfl h
theorem CN (HI:∀ (c:Cx) (ev:Ev),1≤c.fu→gC ev c→ur ev c) (HJ:∀ (c:Cx) (ev:Ev),1≤c.fu→cI ev c→(∀ c1:Cx,c1.fu+1=c.fu→c1.w=c.w→cI ev c1)→Hy ev c) :
  ∀ (n:Nat) (c:Cx),n≤c.fu→Sound (RS c.K n) c
 | 0,c,_=>ZZ c
 | n+1,c,h=>by
  have ih:=CN HI HJ n;have ihw:∀ c1:Cx,n≤c1.fu→c1.w=c.w→Sound (RS c.K n) c1:=fun c1 h1 h2=>by
   have e:c1.K=c.K:=by unfold Cx.K;rw[h2]
   exact e ▸ ih c1 h1
  have S:=ih c (by exact bk h);have U:Sub (RS c.K n) c:=⟨S.E,S.T,S.C,HI c _ (by exact AK h) S.C,HJ c _ (by exact AK h) S.E fun c1 h1 h2=>(ihw c1 (by exact V4 h (zG h1)) h2).E,fun c1 h1 h2=>by
   have S1:=ihw c1 (by exact DF h (zG h1)) h2;exact ⟨⟨S1.E,S1.T⟩,⟨S1.C,S1.N⟩,S1.B⟩⟩
  have HB:∀ c':Cx,Own c'→c'.fu+1=c.fu→c'.w=c.w→kJ (RS c.K n) c':=fun c' O h1 h2=>(ihw c' (by exact V4 h (zG h1)) h2).B O;exact ⟨QK U,QN U,QJ HB (ay (fV 1 n) h),QL HB (ay (fV 1 n) h),fun O=>QI U O⟩
end
section
open PySem.Builtin
section
theorem Uz (w:dz):peek (Kf w.params) ⟨pw,w.params⟩ (AE (.ref 656))=some e8:=by rfl'
theorem Uy (w:dz):peek (Kf w.params) ⟨pw,w.params⟩ (EI "object.__new__" (.ref 656))=some ():=by rfl'
theorem Qo (w:dz):readsIn (Kf w.params) 656 (.type "type")=true:=by rfl'
theorem Uw (w:dz):findCls (Kf w.params) (.ref 656) (.type "type") "__new__"=some (.get (.builtin "staticmethod.__get__") (.ref 153) .none (.ref 656)):=by rfl'
theorem ZO (w:dz):recIn (Kf w.params) 153 "staticmethod"=some [.ref 149]:=by rfl'
theorem Uv (w:dz):peek (Kf w.params) ⟨pw,w.params⟩ (xT (.ref 656) "__call__")=some (some (.builtin "type.__call__")):=by rfl'
theorem K1 (w:dz):peek (Kf w.params) ⟨pw,w.params⟩ (AQ (.ref 656) (.type "type"))=some true:=by rfl'
theorem ZM (w:dz):peek (Kf w.params) ⟨pw,w.params⟩ (mroOf (.ref 656))=some [.ref 656,.ref 179,.ref 152,.type "object"]:=by rfl'
theorem UA (w:dz):peek (Kf w.params) ⟨pw,w.params⟩ (qF (.ref 656) (.ref 656))=some true:=by rfl'
theorem UB (w:dz):typeIn (Kf w.params) (.ref 656)=some (.type "type"):=by rfl'
theorem Gd (P:ai):(Kf P).lookup 656=some (pD P):=rfl
theorem UQ {f:Addr} (R:Rl c σ aD tv hid s g m mo fz) (hi:jO c.K (.ref 656) "__init__"=some (some (.ref f))) (XC:isFn c.K (.ref f)=true)
  (ahs:aF c.M (c.A.under (.builtin "type.__call__" ⟨[.ref 656,.str x t],[]⟩)) (call (.ref 149) [.ref 656,.str x t] []) (fun o s'=>∃ y dx,o = .ref y∧c.K.In s'.heap∧s'.heap.get? y=some (qm 656 dx) ∧
   qk c.M (c.A.under (.builtin "type.__call__" ⟨[.ref 656,.str x t],[]⟩)) (.call (.ref f) ⟨[.ref y,.str x t],[]⟩) (InitBack y fun r s'=>match r with | .ok (.ret v)=>Q v s' | .ok _=>iP | .error e=>E e s') s') (fun e s'=>E e s') { s with toks:=s.toks+1 }) :
  aF c.M c.A (call (.ref 656) [.str x t]) Q E s:=by
 have X:c.K.In s.heap:=R.KX;obtain ⟨hh,gg,d,tk,os⟩:=s;have hC:hh.get? 656=some (pD c.w.params):=X _ _ (Gd _);have made:rX c.M hh (AE (.ref 656)) e8:=f9 X (Uz c.w);have acQ:rX c.M hh (xT (.ref 656) "__call__") (some (.builtin "type.__call__")):=f9 X (Uv c.w);have typ:rX c.M hh (AQ (.ref 656) (.type "type")) true:=f9 X (K1 c.w);have ah2:rX c.M hh (mroOf (.ref 656)) [.ref 656,.ref 179,.ref 152,.type "object"]:=f9 X (ZM c.w);refine jP (codeAny_of_tree ?_);refine nd_load hC ?_;show aF _ _ (callAny.viaDunder (.ref 656) _) _ _ _;refine wpAny_bind (acQ.at ?_);dsimp only;rw[tc_bind];refine wpAny_bind (wpAny_pure (wpAny_bind (wpAny_pure ?_)));refine wpAny_pure (a:=Fin.again (.call (.builtin "type.__call__") ⟨[.ref 656,.str x t],[]⟩)) (And.intro rfl ?_);refine codeAny_call_builtin_at (NN _ (by decide +kernel)) entry_typeCall (check_slot tc_kind tc_split typ (tc_args _ _ _) ?_);unfold jm.«type.__call__»;dsimp only;rw[aS (by decide)];refine wpAny_bind (ah2.at ?_);rw[aS (by decide)];refine wpAny_bind (made.at ?_);try dsimp only
 refine wpAny_bind (cls_sm (K:=c.K) (mc:=.type "type") R.core.F R.X (UB c.w) (Qo c.w) (Uw c.w) (ZO c.w) rfl ?_);refine wpAny_bind (cF (wpAny_mono ahs (fun o s' adV=>W2 adV fun y dx e X' ho hc=>?_) fun _ _ z=>z));subst e;have it:rX c.M s'.heap (AQ (.ref y) (.ref 656)) true:=((JF ho).andThen .now).andThen (f9 X' (UA c.w));refine wpAny_bind (it.here ?_);rw[aS (by decide)];have t1:rX c.M s'.heap (typeOf (.ref y)) (.ref 656):=(JF ho).andThen .now;have i1:=uV (M:=c.M) X' hi;have b1:=bind_fn (M:=c.M) X' (.ref y) (beq_iff_eq.mp XC);unfold callSpecial? xT;refine wpAny_bind (cF (wpAny_bind (wpAny_bind (t1.here (i1.here ?_)))));refine cF (wpAny_bind (b1.here ?_));refine wpAny_bind (jP (ql hc fun r cD z=>?_));rcases r with e | (_ | _ | _ | v)<;>first | exact z | exact z.elim | skip
 obtain ⟨rfl,z⟩:=z;refine wpAny_pure ?_;dsimp only;rw[aS (by decide)];exact wpAny_pure z
end
end
section
open PySem.Builtin
theorem ag8 {C:Prop} (P:ai) (x:Str) (t:Tok) (k:∀ (fd:kP) (b:List Stmt) (q1 q2 q3 q4 q5 q6 q7 p1 r1 r2 r3 r4 p2:Pos),
  (defAt (Kf P) 149=some (fd,[.If (.BoolOp .And [.Compare (.Name "cls" q1) [.IsNot] [.Name "BytesIO" q2] q3,.Compare (.Name "cls" q4) [.IsNot] [.Name "StringIO" q5] q6] q7) b [] p1,
   .Return (some (.Call (.Attribute (.Name "object" r1) "__new__" r2) [.Name "cls" r3] [] r4)) p2]))→(Bm fd ⟨[.ref 656,.str x t],[]⟩=(do
   let tup ← newTuple [.str x t]
   let d ← alloc { cls:=.type "dict",data:=.dict #[] }
   pure [("cls",.ref 656),("args",tup),("kwargs",.ref d)]))→fd.scope.names.lookup ("cls":Str)=some .local→fd.scope.names.lookup ("args":Str)=some .local→fd.scope.names.lookup ("kwargs":Str)=some .local→fd.scope.names.lookup ("BytesIO":Str)=some .globalImplicit→fd.scope.names.lookup ("StringIO":Str)=some .globalImplicit→fd.scope.names.lookup ("object":Str)=some .globalImplicit→r2.endLine=r4.line→(∀ binds aP,(fH fd.scope.names binds aP).2=aP)→(∀ u v w aP,(fH fd.scope.names [(("cls":Str),u),("args",v),("kwargs",w)] aP).1.lookup ("cls":Str)=some (.val u))→C):C:=
 k _ _ _ _ _ _ _ _ _ _ _ _ _ _ _ rfl (by rfl') rfl rfl rfl rfl rfl rfl rfl (fun _ _=>rfl) (fun _ _ _ _=>rfl)
theorem Du (P:ai):glob (Kf P) "BytesIO"=some (.adr 409):=by rfl'
theorem AY (P:ai):glob (Kf P) "StringIO"=some (.adr 656):=by rfl'
noncomputable def Xh (K:Frag):Ev:={ ev0 with E:=fun sc e=>Mo.jV (nameOf e) (I9 K sc) }
section
theorem Xi:cI (Xh c.K) c:=by
 intro e σ;show SE c (eval e c.env) σ (Mo.jV (nameOf e) (I9 c.K c.env.scope) σ);refine oC (nameOf e) (fun _=>SE.fail) fun x _=>?_;obtain ⟨x,hx⟩:=x;refine eU hx fun _ e=>?_;subst e;exact SE.name
theorem Ky (e:I9 c.K c.env.scope x σ = .ok u σ) (R:Rel c σ aD tv hid s) (k:∀ v s',Rel c σ (u :: aD) (v :: tv) hid s'→Q v s'):aF c.M c.A (eval (.Name x pos) c.env) Q E s:=by
 have H:=SE.name (c:=c) (σ:=σ) (x:=x) (pos:=pos);rw[e] at H;refine wpAny_mono (H (fun q=>nomatch q) aD tv hid s R) (fun v s' q=>jU q fun _ _ e' R'=>?_) fun _ _ q=>Ep q fun _ _ _ e' _ _=>nomatch e'
 cases e';exact k v s' R'
theorem F6 {p q:Addr} {o1 o2:Obj} {Q:Bool→aG→Prop} (d1:I9 c.K c.env.scope x σ = .ok (.p (.adr p)) σ) (d2:I9 c.K c.env.scope y σ = .ok (.p (.adr q)) σ) (h1:c.K.lookup p=some o1) (h2:c.K.lookup q=some o2) (hc:o1.cls = .type "type")
  (R:Rel c σ aD tv hid s) (k:∀ s',Rel c σ aD tv hid s'→Q (p != q) s'):aF c.M c.A (AR (.Compare (.Name x px) [.IsNot] [.Name y py] pos) c.env (eval (.Compare (.Name x px) [.IsNot] [.Name y py] pos) c.env)) Q E s:=by
 refine Vb (Ky d1 R fun v b3 bN=>Ky d2 bN fun w cD cX=>?_) rfl;refine iM (cX) fun g m mo fz gv=>?_;refine xM (gv.two) fun hu hv jT=>?_;obtain rfl:v = .ref p:=by cases hu.uI rfl;rfl
 obtain rfl:w = .ref q:=by cases hv.uI rfl;rfl
 have X:=jT.KX;have fin:=k cD jT.rel;by_cases hpq:p=q
 ·subst hpq
  rw[bne_self_eq_false] at fin;exact wpAny_isNot_ref_self (wpAny_pure fin)
 ·rw[JS.mpr hpq] at fin
  exact wpAny_isNot_ref_other hpq (X _ _ h1) (X _ _ h2) (by rw[hc];decide) (wpAny_pure fin)
theorem ZN:opaqueClassAbove (.type "object")=pure none:=by
 rfl
theorem Ux (w:dz):findCls (Kf w.params) (.type "object") (.type "type") "__new__"=some (.val (.builtin "object.__new__")):=by rfl'
theorem OE {Q:ah × List ah→aG→Prop} {pl:Sem Bool} (X:c.K.In s.heap) (h:Q (.builtin "object.__new__",[]) { s with toks:=s.toks+1 }):aF c.M c.A (getMethod (.type "object") "__new__" pl) Q E s:=by
 have ht:typeOf (.type "object")=pure (.type "type"):=kitMeta_of (by decide +kernel);have L0:rX c.M s.heap (typeOf (.type "object")) (.type "type"):=u6 ht;have LO:rX c.M s.heap (opaqueClassAbove (.type "object")) none:=u6 ZN;have hg:jO c.K (.type "type") "__getattribute__"=some (some (.builtin "type.__getattribute__")):=type_tga;refine wpAny_bind (wpAny_bind (L0.here ((uV X hg).here ?_)));refine wpAny_bind (cls_open X LO L0 hg (looks_hook X (r:=none) (by rfl)) (by show subIn c.K _ _=_;rfl) (Ux c.w) ?_);exact wpAny_pure (handed_on rfl (wpAny_pure h))
theorem MQ (w:dz):peek (Kf w.params) ⟨pw,w.params⟩ (isType (.ref 656))=some true:=by rfl'
theorem ZP (w:dz):peek (Kf w.params) ⟨pw,w.params⟩ (qF (.ref 656) (.type "object"))=some true:=by rfl'
theorem Uu (w:dz):peek (Kf w.params) ⟨pw,w.params⟩ (Vj (.ref 656))=some (.type "object"):=by rfl'
theorem Qn (w:dz):peek (Kf w.params) ⟨pw,w.params⟩ (AE (.type "object"))=some (some "object.__new__"):=by rfl'
theorem Uo {R:Result→aG→Prop} (X:c.K.In s.heap) (hq:R (.ok (.ret (.ref (s.heap.objs.size+1)))) { s with heap:=(s.heap.push gq).push (qm 656 s.heap.objs.size) }) :
  qk c.M c.A (.call (.builtin "object.__new__") ⟨[.ref 656],[]⟩) R s:=by
 obtain ⟨h,g,d,t,os⟩:=s;have F:=PySem.F.objNew;have hC:h.get? 656=some (pD c.w.params):=X _ _ (Gd _);have here:rX c.M h (EI "object.__new__" (.ref 656)) ():=f9 X (Uy c.w);have typ:rX c.M h (AQ (.ref 656) (.type "type")) true:=f9 X (K1 c.w);refine codeAny_call_builtin_code (NN _ F.quiet) ?_;simp only [Es,F.kind,F.split,F.row];have args:CY "object.__new__" ⟨.hand,"object.__new__","__new__",.cls,[]⟩ ⟨[.ref 656],[]⟩=pure ():=by rfl'
 rw[args];have ty:rX c.M h (isType (.ref 656)) true:=f9 X (MQ c.w);have top:rX c.M h (qF (.ref 656) (.type "object")) true:=f9 X (ZP c.w);have base:rX c.M h (Vj (.ref 656)) (.type "object"):=f9 X (Uu c.w);have made:rX c.M h (AE (.type "object")) (some "object.__new__"):=f9 X (Qn c.w);repeat (first | simp only [bne_self_eq_false,fB,jy,Bool.not_true,rU,cY,gz] | lk)
 refine gK F.entry ?_;have ec:(pD c.w.params)=(pD c.w.params):=rfl;have hC':=bI (qm 656 (h.push gq).objs.size.pred) (bI gq hC);have fin:∀ A',aF (jN pw c.w) A' (do
   let d ← if typeHasDict (.ref 656) then some <$> alloc { cls:=.type "dict",data:=.dict #[] } else pure none
   ret (← newObj (.ref 656) .plain d)) (fun fin s'=>match fin with | .done f=>R (.ok f) s' | .again c'=>c'.quiet=true∧qk (jN pw c.w) c.A c' R s') (fun e s'=>R (.error e) s') ⟨h,g,d,t,os⟩:=by
  intro A';show aF _ _ ((alloc gq >>= fun x=>pure (some x)) >>= _) _ _ _;refine wpAny_bind (wpAny_bind (WB (wpAny_pure (wpAny_bind ?_))));show aF _ _ (newObjAsIs _ _ _) _ _ _;unfold newObjAsIs classHasDel;refine wpAny_bind (WB (wpAny_bind (wpAny_bind (wpAny_load (bI _ (bI _ hC)) (wpAny_pure ?_)))));refine wpAny_pure (wpAny_pure ?_);show R _ _;rw[mj];exact hq
 have cd:rX c.M h (classData 656) (match (pD c.w.params).data with | .cls c=>c | _=>default):=(JF (part:=none) hC).andThen .now;repeat (first | simp only [Bool.not_true,fB,jy,List.isEmpty_nil,nD,vU] | exact fin _ | lk)
theorem L6 (P:ai):nsIn (Kf P) cy "object"=some e8:=by rfl'
theorem boot_object:bootBuiltins "object"=some (.type "object"):=by decide +kernel
theorem SR {b:List Stmt} {q1 q2 q3 q4 q5 q6 q7 p1 r1 r2 r3 r4 p2:Pos} (n1:c.env.scope.names.lookup ("cls":Str)=some .local) (n4:c.env.scope.names.lookup ("BytesIO":Str)=some .globalImplicit)
  (n5:c.env.scope.names.lookup ("StringIO":Str)=some .globalImplicit) (n6:c.env.scope.names.lookup ("object":Str)=some .globalImplicit) (O8:r2.endLine=r4.line)
  (hl:σ.loc.lookup ("cls":Str)=some (.val (.p (.adr 656)))) (R₀ : Rel c σ aD tv hid s) :
  aF c.M c.A (FF [.If (.BoolOp .And [.Compare (.Name "cls" q1) [.IsNot] [.Name "BytesIO" q2] q3,.Compare (.Name "cls" q4) [.IsNot] [.Name "StringIO" q5] q6] q7) b [] p1,
   .Return (some (.Call (.Attribute (.Name "object" r1) "__new__" r2) [.Name "cls" r3] [] r4)) p2] c.env)
   (fun f s'=>∃ o,f = .ret o∧Rel c ⟨σ.loc,σ.aP++[.attrs []]++[.inst 656 σ.aP.length],σ.dw⟩ (.obj (σ.aP.length+1) :: aD) (o :: tv) hid s') E s:=by
 have d1:I9 c.K c.env.scope "cls" σ = .ok (.p (.adr 656)) σ:=by
  unfold I9;rw[aS (by decide),n1];show Mo.opt ((σ.loc.lookup ("cls":Str)).bind (slV σ)) σ=_;rw[hl];rfl
 have d2:I9 c.K c.env.scope "BytesIO" σ = .ok (.p (.adr 409)) σ:=by
  unfold I9;rw[aS (by decide),n4];show Mo.opt ((glob c.K "BytesIO").map V.p) σ=_;rw[show glob c.K "BytesIO"=_ from Du _];rfl
 have d3:I9 c.K c.env.scope "StringIO" σ = .ok (.p (.adr 656)) σ:=by
  unfold I9;rw[aS (by decide),n5];show Mo.opt ((glob c.K "StringIO").map V.p) σ=_;rw[show glob c.K "StringIO"=_ from AY _];rfl
 refine EH (wpAny_If (isTrue_and (F6 (o1:=pD c.w.params) (o2:=P5 c.w.params) d1 d2 rfl rfl rfl R₀ fun qS aa4=>isTrue_and (F6 (o1:=pD c.w.params) (o2:=pD c.w.params) d1 d3 rfl rfl rfl aa4 fun b3 bN=>?_))));refine mF (EH (wpAny_Return_some ?_));rw[yK,oE rfl];refine iM (bN) fun g m mo fz R=>?_;have hob:∀ {Q:ah→aG→Prop},Q (.type "object") b3→aF c.M c.A (eval (.Name "object" r1) c.env) Q E b3:=fun {Q} h =>
  gS c.hk n6 (kO (env:=c.env) (by rw[c.yk];exact c.TB.g.keeps R.jo) (Kx c.XB c.TB.g (L6 _)) (by rw[c.Ma];exact c.TB.b.keeps R.jo) ((c.TB.builtins _ (by decide)).trans boot_object) h) (by decide)
 refine wpAny_bind (hob (wpAny_bind (gA ?_)));unfold Kv;rw[show rg (([.Name "cls" r3]:List Expr).length+([]:List uP).length) (sP r4 (j3 [.Name "cls" r3] c.env)) (Br r4 (su [] c.env))=true from rfl];refine wpAny_bind (cF ?_);unfold calleeOf;rw[aA rfl];have X:=R.KX;refine OE (c:=c) X ?_;rw[show j9 true (.Name "object" r1) c.env r2 r4=pure r4 from by unfold j9;simp [O8]];refine wpAny_bind (wpAny_pure ?_);have ha:jD ((Xh c.K).E c.env.scope) [.Name "cls" r3] σ = .ok [.p (.adr 656)] σ:=by
  show iN (I9 c.K c.env.scope "cls" σ) _=_;rw[d1];rfl
 refine xe (ev:=Xh c.K) (f:=(pure:List V→Mo (List V))) (r:=.ok [.p (.adr 656)] σ) Xi rfl R.rel.toks (by rw[mR,ha];rfl) (fun q=>nomatch q) (fun us vs b5 cD r8 ab0 cX=>?_) fun e s' adY=>AN adY fun x σ' _ q _=>nomatch q
 ·cases r8
  refine eU (Ht.mp ab0.symm) fun v ev=>?_;subst ev;refine iM (cX) fun g' m' ri gM gv=>?_;refine cz (gv.one) fun hv jT=>?_;rw[show v = .ref 656 from hv.inv.inv];refine ⟨jX _ _,jP (Uo (c:=c) jT.KX ?_)⟩;have R5:=jT.z8 gq (.attrs []) rfl ⟨[],0,rfl,.nil⟩;have hd:(bh (ri++[(cD.heap.objs.size,gq)]))[σ.aP.length]?=some cD.heap.objs.size:=by rw[← jT.aP.len];unfold bh;simp
  have R6:=R5.z8 (qm 656 cD.heap.objs.size) (.inst 656 σ.aP.length) rfl ⟨cD.heap.objs.size,by
   have G:=pe.app (fz:=gM) (mo:=ri++[(cD.heap.objs.size,gq)]) (p:=((cD.heap.push gq).objs.size,qm 656 cD.heap.objs.size));exact G.mu _ _ hd,rfl⟩
  refine ⟨_,rfl,(R6.push (.obj ?_)).rel⟩;have hs:=R5.aP.len;simp only [aO,dU,n9] at hs;have hn:(ri++[(cD.heap.objs.size,gq)]).length=σ.aP.length+1:=by simp only [aO,dU,n9];exact hs
  unfold bh;rw[aV,← hn,bw (by rw[aM];exact aB _),aM,iH];show some (cD.heap.push gq).objs.size=_;rw[mj]
theorem QF (sf:1≤c.fu) (hA:Alike c.A A') (R₀ : Rl c σ aD tv hid s g m mo fz) :
  aF c.M A' (call (.ref 149) [.ref 656,.str x t] []) (fun o s'=>Rel c ⟨σ.loc,σ.aP++[.attrs []]++[.inst 656 σ.aP.length],σ.dw⟩ (.obj (σ.aP.length+1) :: aD) (o :: tv) hid s') E s:=by
 refine ag8 c.w.params x t fun fd b q1 q2 q3 q4 q5 q6 q7 p1 r1 r2 r3 r4 p2 hd hb n1 n2 n3 n4 n5 n6 O8 hm1 hm2=>?_;have D:=yT (c:=c) hd;refine X31 D.at_ fun oc od ZI hlk=>?_;have X:=R₀.KX;have Hl:=c.Hl;have hdA:=hA.depth;refine Eo R₀.pin fun up vp yp F3 Iz=>?_;obtain ⟨hh,gg,dd,tk,os⟩:=s;refine jP (v8 (by unfold k6;exact acv hdA Hl) (X _ _ hlk) rfl D.co D.gen D.body (codeRec_of X D.code) ?_);rw[hb];refine wpAny_bind (gH ?_);refine wpAny_bind (WB (wpAny_pure ?_));have R:=(R₀.grown (k:=tk) (h':=(hh.push { cls:=.type "tuple",data:=.seq [oQ x t].toArray }).push { cls:=.type "dict",data:=.dict #[] }) fun b o e=>bI _ (bI _ e));generalize eh:((hh.push { cls:=.type "tuple",data:=.seq [oQ x t].toArray }).push { cls:=.type "dict",data:=.dict #[] })=h2 at R ⊢;rw[D.clo];refine ry D.kind (fun y hy=>?_) fun env' he s' z=>?_
 ·simp only [av,ng,KZ] at hy
  rcases hy with rfl | rfl | rfl
  ·exact .inl n1
  ·exact .inl n2
  ·exact .inl n3
 subst he;have Iv:Heap.NoLimit _:=(c.TB.nolimit.keeps R.jo);refine ⟨Iv.keeps z.toInCall.keep,RQ ?_⟩;have R2:=(R.kj (F3.append R.aD)).enter hA sf D.gl D.bl D.kind D.nd (binds:=[(("cls":Str),.p (.adr 656)),("args",.p .mt),("kwargs",.p .mt)])
  (.cons (.p (.adr 656)) (.cons (.p (.mt _)) (.cons (.p (.mt _)) .nil))) (by show ([("cls":Str),"args","kwargs"]:List Str).Nodup;decide) z
 rw[hm1] at R2;refine wpAny_mono (SR (E:=fun _ _=>iP) (b:=b) (q1:=q1) (q2:=q2) (q3:=q3) (q4:=q4) (q5:=q5) (q6:=q6) (q7:=q7) (p1:=p1) (r1:=r1) (r3:=r3) (p2:=p2) (c:=c.callee A' hA (lP fd h2.objs.size 149) h2.objs.size (cT h2 ((mo++(fz++hid)).map (·.1))) rfl D.kind D.gl D.bl sf) n1 n4 n5 n6 O8
  (hm2 _ _ _ _) R2) (fun f i9 adZ=>bU adZ fun o e R3=>?_) fun _ _ q=>q.elim
 subst e;refine jU (Rl.leave R yp F3 Iz hA R3) fun u σ' e R4=>?_;have e2:i7 σ ⟨(fH fd.scope.names [(("cls":Str),.p (.adr 656)),("args",.p .mt),("kwargs",.p .mt)] σ.aP).1,σ.aP++[.attrs []]++[.inst 656 σ.aP.length],σ.dw⟩ (.obj (σ.aP.length+1)) =
   .ok (.obj (σ.aP.length+1)) ⟨σ.loc,σ.aP++[.attrs []]++[.inst 656 σ.aP.length],σ.dw⟩:=by
  unfold i7;split
  ·rw[aS (by rw[V.lt];simp)]
   have:qB (σ.aP++[.attrs []]++[.inst 656 σ.aP.length]) σ.aP.length 2 (.obj (σ.aP.length+1))=none:=by
    unfold qB;rw[aA (Nat.le_succ _)];simp
   rw[this]
  ·rfl
 rw[e2] at e;cases e;exact R4
theorem ZX (HC:gC ev c) (sf:1≤c.fu):ur ev c:=by
 intro f x t σ aD tv hid s g m mo fz r hi h hn R;refine xM (zp hi) fun q1 q2 q3=>?_;refine UQ R q1 q2 ?_;have hA:=yJ c.A 656 [.str x t] [];refine wpAny_mono (QF (E:=fun _ _=>iP) sf hA R.toks) (fun o s' R1=>?_) fun _ _ z=>z.elim;rw[show σ.aP.length+1=(σ.aP++[Ob.attrs []]).length from by simp] at R1;refine iM R1 fun g' m' ri gM R2=>?_;refine cz R2.one fun ho R3=>?_;refine bU ho.inv fun ao eo ha=>?_;rw[eo];refine nv (R3.kX (ob:=.inst 656 σ.aP.length) ha (by simp)) fun oi hoi VV afz=>?_;refine bU afz fun dx hd afA=>?_;obtain rfl:=afA;refine (Y2 _ dx ⟨rfl,R3.KX,VV,?_⟩);generalize hk:(σ.aP++[Ob.attrs []]).length=k at *;have h:(ev.C f [V.obj k,V.p (.str x)] [] >>= D3 (.obj k)) { σ with aP:=σ.aP++[Ob.attrs []]++[Ob.inst 656 σ.aP.length] }=r:=by rw[← hk];exact h
 have R4:=(R3.kj (.cons (.obj ha) (.cons (.p (.str x t)) (.cons (.obj ha) R3.aD)))).rel;refine ql (HC f [.obj k,.p (.str x)] [] _ _ (.obj k :: aD) (.ref _ :: tv) hid _ [.ref _,.str x t] [] hA (oB h hn) rfl rfl R4) fun res cD rJ=>?_;refine bU rJ.el fun v er rJ=>?_;rw[er]
 ·refine jU rJ fun u σ' e R5=>?_
  refine iM R5 fun g2 m2 mo2 fz2 R6=>?_;refine cz R6.one fun hu R7=>?_;refine cz (GF (i8 e h) hn) fun afB afC=>?_;rw[afB] at hu;rw[afC,show v=dZ from hu.inv.inv];exact ⟨rfl,_,σ',rfl,R7.rel⟩
end
end
section
open PySem.Builtin
noncomputable def Cx.OR (c:Cx) (A1 A2:fP) (env':Env) (L':Addr) (g':Heap) (n:Nat) (hA:A2.frames=some (env' :: c.l8 :: c.outer)) (h1:env'.frame=some L') (h2:env'.scope.kind = .function) (h3:env'.globals=cy) (h4:uW env'.builtins env'.scope env'.code)
  (sf:1≤c.fu) (hd:A2.depth≤c.A.depth+4) (hu:A2.units≤c.A.units+8):Cx where
 w:=c.w
 mg:=c.mg
 mb:=c.mb
 A:=A2
 A₀:=A1
 env:=env'
 l8:=env'
 outer:=c.l8 :: c.outer
 base:=c.base
 g:=g'
 L:=L'
 os:=c.os
 p8:=none
 gn:=n
 XB:=c.XB
 TB:=c.TB
 hA:=hA
 hf:=h1
 TF:=h2
 hk:=h2
 yk:=h3
 Ma:=h4.1
 BO:=h4.2
 yj:=h1
 fu:=c.fu - 1
 Hl:=by
  have:=c.Hl;exact xV (.g au (.a aT (.n 4)) (.h 4 (.a aE jr) bX (.g (.a aT (.m 4 bX)) (.n 900) .e))) (.a au (.m 4 aE)) (.n 900) zC hd (zB sf) this
 NI:=by
  have:=c.NI;exact xV (.g au (.a aT (.n 8)) (.h 8 (.a aE jr) bX (.g (.a aT (.m 8 bX)) (.n 9000) .e))) (.a au (.m 8 aE)) (.n 9000) zC hu (zB sf) this
section
theorem Rl.Rv {gs:eF qV} (R:Rl c σ aD tv hid s g m mo fz) (h:Ho gs∧c.gn≤gs.size):Rl c σ aD tv hid { s with gens:=gs } g m mo fz:=
 ⟨R.gh,R.core,R.p8,R.loc,R.aP,R.aD,h,R.os,R.dw⟩
theorem ET {gs:eF qV} {i:Nat} {x:qV} (h:Ho gs) (hx:x.bare=true):Ho (gs.setIfInBounds i x):=fun y hy=>by
 obtain ⟨j,hj,rfl⟩:=Array.mem_iff_getElem.mp hy;have hj':j<gs.size:=by rw[Ef] at hj;exact hj
 rw[Array.getElem_setIfInBounds hj'];split
 ·exact hx
 ·exact h _ (Array.getElem_mem hj')
theorem Rel.setGen {i:Nat} {x:qV} (R:Rel c σ aD tv hid s) (hx:x.bare=true):Rel c σ aD tv hid (s.setGen i x):=by
 refine iM R fun g m mo fz R=>?_;exact (R.Rv (gs:=s.gens.setIfInBounds i x) ⟨ET R.gens.1 hx,by rw[Ef];exact R.gens.2⟩).rel
theorem Rl.ON (R:Rl c σ aD tv hid s g m mo fz) (hA1:A1.frames=c.A.frames) (hh:A2.handled=c.A.handled) {env':Env} {gs:qV} {x0:Str→Option ah} {cl:List (Str × Addr)}
  (hsc:env'.scope=cK) (Tw:env'.cells=cl) (hlc:env'.locals=s.heap.objs.size) (nd:iJ (cK.names.map (·.1))=true) (Me:dX σ.loc cK.names=some loc) (OX:∀ y,cK.names.lookup y=some .free→cl.lookup y=c.env.cells.lookup y)
  (hA:A2.frames=some (env' :: c.l8 :: c.outer)) (h1:env'.frame=some s.heap.objs.size) (h2:env'.scope.kind = .function) (h3:env'.globals=cy) (h4:uW env'.builtins env'.scope env'.code)
  (sf:1≤c.fu) (hd:A2.depth≤c.A.depth+4) (hu:A2.units≤c.A.units+8) (hn:h'.Ns s.heap.objs.size x0) (hs:mh s.heap.objs.size (s.heap.push { cls:=.type "frame",data:=.dict #[] }) h') (Kc:gs.bare=true) (hog:og.isFreed=false) :
  Rel (c.OR A1 A2 env' s.heap.objs.size (cT s.heap ((mo++(fz++hid)).map (·.1))) (s.gens.size+1) hA h1 h2 h3 h4 sf hd hu)
   ⟨loc,σ.aP,σ.dw⟩ aD tv ((h'.objs.size,og) :: hid) { s with heap:=h'.push og,gens:=s.gens.push gs,toks:=k }:=by
 refine En (groundX (R:=fun _ _=>True) R.gh.B R.core.F R.core.N (hA1.trans c.hA) c.hf c.TF) fun FG BG st _=>?_;have xw : ∀ b o,s.heap.get? b=some o→h'.get? b=some o:=fun b o e=>hs.extBut b o (fU (gc e)) (bI _ e);have old:∀ p∈mo++(fz++hid),h'.get? p.1=some p.2∧p.1≠s.heap.objs.size∧(cT s.heap ((mo++(fz++hid)).map (·.1))).get? p.1=none:=fun p hp =>
  ⟨xw _ _ (R.core.N p hp).1,fU (gc (R.core.N p hp).1),hideAll_none _ (bP hp)⟩
 have R1:Rl (c.OR A1 A2 env' s.heap.objs.size (cT s.heap ((mo++(fz++hid)).map (·.1))) (s.gens.size+1) hA h1 h2 h3 h4 sf hd hu)
   ⟨loc,σ.aP,σ.dw⟩ aD tv hid { s with heap:=h',gens:=s.gens.push gs,toks:=k } (cT s.heap ((mo++(fz++hid)).map (·.1))) x0 mo fz:=by
  refine ⟨⟨Ei,BG,fun b hb=>?_⟩,⟨⟨hn,fun b o e=>xw b o (of_hideAll _ e),cU (RT _ _)⟩,old,R.core.nd,R.core.dj,R.core.dh,R.core.nh⟩,fun z7 e=>(by cases e),fun y sl e=>?_,⟨R.aP.len,R.aP.at_⟩,R.aD,⟨R.gens.1.push Kc,by show s.gens.size+1≤_;rw[AD];exact aB _⟩,R.os,fun h=>?_,fun h=>(R.dw.2 h).mono hh fun _ hp=>.inl hp⟩
  ·change b∈c.Et at hb
   rw[yY] at hb;rcases av.mp hb with rfl | hb
   ·refine Ep FG.ns fun o es ep ho hd _=>?_
    exact (Y2 o es ⟨ep,ho,hd⟩)
   ·refine AN (R.gh.D b hb) fun o es n ho hd=>?_
    exact (Y2 o es ⟨n,st b o ho,hd⟩)
  ·have TL:(c.OR A1 A2 env' s.heap.objs.size (cT s.heap ((mo++(fz++hid)).map (·.1))) (s.gens.size+1) hA h1 h2 h3 h4 sf hd hu).env.kindOf y=cK.names.lookup y:=by
    show env'.scope.names.lookup y=_;rw[hsc]
   rcases qy nd Me e with ⟨rfl,q⟩ | ⟨j,rfl,q,q2⟩
   ·show _=_
    rw[TL,q]
   ·refine cz (R.loc y _ q2) fun _ afD=>?_
    refine bU (afD) fun a ha XQ=>?_;refine ⟨.inr (by rw[TL,q]),a,?_,XQ⟩;show env'.cells.lookup y=_;rw[Tw,OX y q];exact ha
  ·show A2.handled=none
   rw[hh];exact R.dw.1 h
 exact (R1.mP og hog).rel
theorem Core.tail {L:Addr} {h:Heap} {p:Addr × Obj} (C:Core g L m mo fz (p :: hid) h):Core g L m mo fz hid h:=by
 refine ⟨C.F,fun q hq=>C.N q ?_,C.nd,fun q hq r hr=>C.dj q hq r ?_,fun q hq r hr=>C.dh q hq r (.tail _ hr),(bF.mp C.nh).2⟩
 ·rcases aj.mp hq with z | z
  ·exact af _ z
  ·refine bJ (aj.mp z) (fun z=>?_) fun z=>?_
   ·exact aa _ (af _ z)
   ·exact aa _ (aa _ (.tail _ z))
 ·refine bJ (aj.mp hr) (fun z=>?_) fun z=>?_
  ·exact af _ z
  ·exact aa _ (.tail _ z)
theorem Rl.OO {abR:Led} {aiE:List V} {tv0:List ah} (R:Rl c σ aiE tv0 abR s g m mo fz) {us ds:List V} {vs dv:List ah} (hl:us.length=vs.length) (ym:ds.length=dv.length)
  (hp:∀ gM kM,eW c.base gM kM us vs→(∀ (j:Nat) a,(bh mo)[j]?=some a→kM[j]?=some a)∧nQ c m gM hid kM σ.loc)
  (hhd:σ.dw≠.yes→jH c.A hid) (hA1:A1.frames=c.A.frames) {env':Env} {L':Addr} {n:Nat} {hA:A2.frames=some (env' :: c.l8 :: c.outer)} {h1:env'.frame=some L'} {h2:env'.scope.kind = .function} {h3:env'.globals=cy} {h4:uW env'.builtins env'.scope env'.code}
  {sf:1≤c.fu} {hd:A2.depth≤c.A.depth+4} {hu:A2.units≤c.A.units+8} (hn:c.gn≤n) {σ':St} {s':aG} {x y:Addr × Obj}
  (R':Rel (c.OR A1 A2 env' L' (cT s.heap ((mo++(fz++abR)).map (·.1))) n hA h1 h2 h3 h4 sf hd hu) σ' (ds++(us++aD)) (dv++(vs++tv)) (x :: y :: hid) s') :
  Rel c ⟨σ.loc,σ'.aP,σ.dw⟩ (ds++aD) (dv++tv) hid s':=by
 refine iM R' fun g' m' ri gM R'=>?_;refine bU (R.back (A':=A1) hA1 R'.gh.turn R'.core.tail.tail) fun Xo G C=>?_;refine cz (eW.split ym R'.aD) fun hds hr=>?_;refine cz (eW.split hl hr) fun hus XN=>?_;exact (Y2 Xo m (Y2 ri gM ⟨G,C,R.p8,(hp _ _ hus).2,R'.aP,hds.append XN,⟨R'.gens.1,ay hn R'.gens.2⟩,R'.os,R.dw.1,hhd⟩))
end
end
section
open PySem.Builtin
section
noncomputable abbrev nA (elt:Expr) (x:Str) (px:Pos) (y:Str) (py:Pos) (cK:bV) (gp:Pos):Expr:=.GeneratorExp elt [⟨.Name x px,.Name y py,[],0⟩] cK gp
noncomputable def Hr (c:Cx) (ps:List P) (mG:St) (aD:List V) (tv:List ah) (a S:Addr) (og:Obj) (hid:Led):GenEnd:=fun n _ r b3=>r = .ok .next∧(n=0∧∃ vals nn,ps.length=vals.size∧Rel c mG (ps.map V.p++aD) (vals.toList++tv) ((a,og) :: (S,listOf vals nn) :: hid) b3)
noncomputable def C0 (c:Cx) (ps:List P) (u:V) (uv:ah) (It:Nat→Obj→Prop) (aD:List V) (tv:List ah) (I a S:Addr) (og:Obj) (hid:Led):Protocol:=fun n _ v s XX =>
 ∃ σ' i oI ds q rest vals nn,ps=ds++q :: rest∧rest.length=n∧It i oI∧ds.length=vals.size∧Rel c σ' (.p q :: u :: (ds.map V.p++aD)) (v :: uv :: (vals.toList++tv)) ((I,oI) :: (a,og) :: (S,listOf vals nn) :: hid) s ∧
  ∀ Al AZ,Rel c σ' (u :: ((ds++[q]).map V.p++aD)) (uv :: ((vals.push v).toList++tv)) ((I,oI) :: (a,og) :: (S,listOf (vals.push v) AZ) :: hid) Al→XX (.send .none) Al
theorem Ti (O:Own c) (Tz:c.env.scope.isCoroutine=false)
  (hB:c.A=B.over (.compLoop (nA elt x px y py cK gp) 0 (.ref I) .none c.env) []) (HE:cI ev c) (W:Walk c u uv nx I It) :
  ∀ (n i:Nat) (σ:St) (ds rest:List P) (vals:eF ah) (nn:Nat) (oI:Obj) (qS s:aG),jf nx x (fun σ=>.ok true σ) (ev.E c.env.scope elt) n i σ = .ok rest mG→ps=ds++rest→It i oI→ds.length=vals.size →
   Rel c σ (u :: (ds.map V.p++aD)) (uv :: (vals.toList++tv)) ((I,oI) :: (a,og) :: (S,listOf vals nn) :: hid) s →
   Seg c.M B (Hr c ps mG aD tv a S og hid) (C0 c ps u uv It aD tv I a S og hid) rest.length qS (.compLoop (nA elt x px y py cK gp) 0 (.ref I) .none c.env) (c.M.den (.compLoop (nA elt x px y py cK gp) 0 (.ref I) .none c.env)) [] s:=by
 intro n;induction n with
 | zero=>intro i σ ds rest vals nn oI qS s e;cases e
 | succ n ih =>
  intro i σ ds rest vals nn oI qS s e xQ hit hl R;show Seg _ B _ _ _ qS _ ((compTurn (nA elt x px y py cK gp) 0 (.ref I) .none c.env).onRaise (leaving c.env)) [] s;rw[compTurn_gen,N5];refine iw (gA ?_);refine Bw e (fun hp hh h1 h2=>?_) (fun _ _ _ _ _ ht _=>nomatch ht) fun p b5 iU q nN lU hp hw ht hq hi e5 hr=>?_
  ·rw[h1,cg] at xQ
   rw[← xQ] at hl R;rw[h1,h2];refine iw ?_;rw[← hB];exact W.done i σ _ _ _ s oI hp hit hh R _ _ fun b3 bN=>seg_end (.ok .next) ⟨rfl,rfl,vals,nn,hl,bN⟩
  ·rw[← (ML ht).2] at hq
   refine iw ?_;rw[← hB];refine W.item i p σ _ _ _ s oI hp hit R _ _ fun xv NK b3 rI bN=>?_;refine iw (fJ (rfl:letOwnedTupleGo (.Name x px) (.ref I) xv=pure ()) ?_);refine iw ?_;rw[← hB];refine iT (wpAny_mono (Ed (E:=fun _ _=>iP) O (fun z=>nomatch hw.symm.trans z) bN) (fun _ cD z=>bU z fun ake r8 cX=>?_) fun _ _ z=>z.elim);rw[← (ML (hw.symm.trans r8)).2] at cX;refine iw ?_;rw[List.forIn_nil];refine wpAny_pure ?_;simp only [gz];have hy:∀ v,yieldOut c.env v=yieldValue v:=fun v=>by simp only [yieldOut,Tz,fB,jy]
   simp only [hy];rw[Sz,Sz,Sem.wrap_wrap,Sem.wrap_wrap];refine seg_wrap ?_;rw[← hB];refine SE.known (HE elt b5) hq cX fun v i9 gv=>?_;rw[hr,dU];rw[hr] at xQ;refine seg_at (seg_yield rfl rfl rfl (Y8 nN (i+1) NK ds q lU vals nn ⟨xQ,rfl,rI,hl,gv,fun Al AZ jT=>?_⟩));exact seg_again rfl (ih (i+1) nN (ds++[q]) lU (vals.push v) AZ NK Al Al e5 (by rw[xQ];simp) rI (by simp [hl]) jT)
end
end
section
open PySem.Builtin
section
noncomputable def ow (gi:Nat) (n1:Str) (t1:Tok) (n2:Str) (t2:Tok):Obj:={ cls:=.type "generator",data:=.fields #[.int gi 0,.str n1 t1,.str n2 t2] }
theorem mZ (e:h.get? a=some (ow gi n1 t1 n2 t2)):h.IsGen a gi:=⟨_,_,_,e,rfl,rfl,rfl⟩
theorem Ij {uv res:ah} (hog:og=ow gi n1 t1 n2 t2) (O:Own c) (hh:A.handled=none) (hd:A.depth<k6) (hgn:gi<c.gn) (xQ:ps.length≤2 ^ 20)
  (k:∀ vals nn s',ps.length=vals.size→Rel c mG (ps.map V.p++aD) (vals.toList++tv) ((a,og) :: (S,listOf vals nn) :: hid) s'→RR (.ok (.ret res)) s') :
  ∀ (n:Nat) (σ:St) (ds rest:List P) (vals:eF ah) (nn:Nat) (oI:Obj) (s:aG) (gs:qV),rest.length=n→ps=ds++rest→ds.length=vals.size→s.gens[gi]?=some gs →
   Rel c σ (u :: (ds.map V.p++aD)) (uv :: (vals.toList++tv)) ((I,oI) :: (a,og) :: (S,listOf vals nn) :: hid) s →
   (∀ Al,Rel c σ (u :: (ds.map V.p++aD)) (uv :: (vals.toList++tv)) ((I,oI) :: (a,og) :: (S,listOf vals nn) :: hid) Al→gs.Goes c.M A.in1.in1 (Hr c ps mG aD tv a S (og) hid) (C0 c ps u uv It aD tv I a S (og) hid) rest.length (.send .none) Al) →
   qk c.M A (.builtin "list.extend.loop" ⟨[.ref S,.ref a,res],[]⟩) RR s:=by
 intro n;induction n with
 | zero =>
  intro σ ds rest vals nn oI s gs hn hp hl Kc R₀ hgo;refine gK wW ?_;rw[tw je _];show aF _ A.in1 (pyNext (.ref a) >>= _) _ _ s;refine iM R₀ fun g m mo fz R=>?_;have TG:s.heap.get? a=some (og):=(R.core.N (a,_) (aa _ (aa _ (.tail _ (.head _))))).1;have Iv:s.heap.NoLimit:=c.TB.nolimit.keeps R.jo;refine wpAny_bind (WE (A:=A.in1) (P:=fun n qS b3=>n=0∧∃ (vals:eF ah) (nn:Nat),ps.length=vals.size∧Rel c mG (ps.map V.p++aD) (vals.toList++tv) ((a,og) :: (S,listOf vals nn) :: hid) b3)
   hh Iv hd (mZ (hog ▸ TG)) Kc (hgo _ (Rel.setGen (i:=gi) (x:=.running) R.rel rfl)) (fun v b3 gs' hb hv=>?_) fun b3 VY h' hk=>?_)
  ·obtain ⟨σ',i,NK,ds',q,lU,jA,AZ,e1,e2,hit,Mc,bN,XX⟩:=hv
   rw[hn] at XX;refine iM (bN) fun g' m' ri gM bN=>?_;have hS:b3.heap.get? S=some (listOf jA AZ):=(bN.core.N (S,_) (aa _ (aa _ (.tail _ (.tail _ (.head _)))))).1;have hSL:S≠c.env.locals:=by
    rw[O.loc];exact (bN.core.N (S,listOf jA AZ) (aa _ (aa _ (.tail _ (.tail _ (.head _)))))).2.1
   refine eU (fF jA AZ (·.push v)) fun n' en=>?_;have cX:=bN.s9 (g8 fun vs q=>by cases q) (pre:=[(I,NK),(a,og)]) (a:=S) (o:=listOf jA AZ) (o':=listOf (jA.push v) n') (post:=hid) (k:=b3.toks) (h':=b3.heap.update S (dm (·.push v))) (loc:=σ'.loc)
    (by rw[← en];exact bL _ hS rfl) (iy ..) (nQ.turn hSL bN.loc)
   exact (XX _ n' (cX.kj (eW.swap Mc cX.aD)).rel).elim
  ·refine cz VY fun _ afE=>?_
   refine jU afE fun jA AZ e1 bN=>?_;refine iM (bN) fun g' m' ri gM bN=>?_;refine wpAny_pure (k jA AZ _ e1 ?_);have cX:=(bN.grown (k:=b3.toks) hk).rel.setGen (i:=gi) (x:=.finished) rfl;exact cX
 | succ n ih =>
  intro σ ds rest vals nn oI s gs hn hp hl Kc R₀ hgo;refine gK wW ?_;rw[tw je _];show aF _ A.in1 (pyNext (.ref a) >>= _) _ _ s;refine iM R₀ fun g m mo fz R=>?_;have TG:s.heap.get? a=some (og):=(R.core.N (a,_) (aa _ (aa _ (.tail _ (.head _))))).1;have Iv:s.heap.NoLimit:=c.TB.nolimit.keeps R.jo;refine wpAny_bind (WE (A:=A.in1) (P:=fun n qS b3=>n=0∧∃ (vals:eF ah) (nn:Nat),ps.length=vals.size∧Rel c mG (ps.map V.p++aD) (vals.toList++tv) ((a,og) :: (S,listOf vals nn) :: hid) b3)
   hh Iv hd (mZ (hog ▸ TG)) Kc (hgo _ (Rel.setGen (i:=gi) (x:=.running) R.rel rfl)) (fun v b3 gs' hb hv=>?_) fun b3 VY h' hk=>?_)
  ·obtain ⟨σ',i,NK,ds',q,lU,jA,AZ,e1,e2,hit,Mc,bN,XX⟩:=hv
   rw[hn] at e2 XX;refine iM (bN) fun g' m' ri gM bN=>?_;have hS:b3.heap.get? S=some (listOf jA AZ):=(bN.core.N (S,_) (aa _ (aa _ (.tail _ (.tail _ (.head _)))))).1;have hSL:S≠c.env.locals:=by
    rw[O.loc];exact (bN.core.N (S,listOf jA AZ) (aa _ (aa _ (.tail _ (.tail _ (.head _)))))).2.1
   have hgi:gi<b3.gens.size:=di hgn bN.gens.2;show aF _ A.in1 (EG S (·.push v) >>= _) _ _ _;refine eU (fF jA AZ (·.push v)) fun n' en=>?_;have kC:aZ=2 ^ 24:=rfl;have hvs:jA.size≤2 ^ 20:=by
    have:=aK aN e1;simp at this;exact xV (.g au aE (.g (.a aE (.s aT)) bX (.g bX (.n 1048576) .e))) au (.n 1048576) zC (zG Mc) (zG this) xQ
   refine wpAny_bind (j4 (s:=b3.setGen gi gs') hS rfl ?_ (by exact fc hvs) (by show (jA.push v).size≤_;rw[AD];exact oH (.g au (.n 1048576) (.g (.n 16777216) aE .e)) (.s au) (.s aE) zC hvs (zG kC)));have cX:=bN.s9 (g8 fun vs q=>by cases q) (pre:=[(I,NK),(a,og)]) (a:=S) (o:=listOf jA AZ) (o':=listOf (jA.push v) n') (post:=hid) (k:=b3.toks) (h':=b3.heap.update S (dm (·.push v))) (loc:=σ'.loc)
    (by rw[← en];exact bL _ hS rfl) (iy ..) (nQ.turn hSL bN.loc)
   have gv:=((cX.kj (eW.swap Mc cX.aD)).rel).setGen (i:=gi) hb;refine wpAny_pure ⟨oR je _,ih σ' (ds'++[q]) lU (jA.push v) n' NK _ gs' e2 (by rw[e1];simp) (by simp [Mc]) ?_ gv fun Al jT=>?_⟩
   ·show (b3.gens.setIfInBounds gi gs')[gi]?=some gs'
    simp [hgi]
   ·have:=XX Al n' jT
    rw[e2];exact this
  ·exact absurd VY.1 (by exact fun pM=>(z0 [_,_] (.g (.s au) aE (.g aE gR .e)) zC (zG hn) (zA VY.1)))
end
end
section
open PySem.Builtin
section
theorem I0 {I:ah}:B.over (.compStart (nA elt x px y py cK gp) 0 I .none env) []=B.over (.compLoop (nA elt x px y py cK gp) 0 I .none env) []:=rfl
theorem L5 (O:Own c) (Tz:c.env.scope.isCoroutine=false)
  (hB:c.A=B.over (.compLoop (nA elt x px y py cK gp) 0 (.ref I) .none c.env) []) (HE:cI ev c) (W:Walk c u uv nx I It) {n:Nat} {oI:Obj} {nn:Nat} {qS : aG} (e:jf nx x (fun σ=>.ok true σ) (ev.E c.env.scope elt) n 0 σ = .ok ps mG) (hit:It 0 oI)
  (R:Rel c σ (u :: aD) (uv :: tv) ((I,oI) :: (a,og) :: (S,listOf #[] nn) :: hid) s) :
  Seg c.M B (Hr c ps mG aD tv a S og hid) (C0 c ps u uv It aD tv I a S og hid) ps.length qS (.compStart (nA elt x px y py cK gp) 0 (.ref I) .none c.env) (c.M.den (.compStart (nA elt x px y py cK gp) 0 (.ref I) .none c.env)) [] s:=by
 have loop:=Ti (ps:=ps) (aD:=aD) (tv:=tv) (a:=a) (S:=S) (og:=og) (hid:=hid) (px:=px) (py:=py) (gp:=gp) (y:=y) (cK:=cK) O Tz hB HE W n 0 σ [] ps #[] nn oI qS s e rfl hit rfl R;show Seg _ B _ _ _ qS _ ((compStart (nA elt x px y py cK gp) 0 (.ref I) .none c.env).onRaise (leaving c.env)) [] s;rw[N5];refine iw (wpAny_askSetting ?_);split
 ·exact seg_again rfl loop
 ·refine iw (fY ?_)
  refine iw (gA (iw ?_));rw[I0,← hB];refine iM R fun g m mo fz R=>?_;exact W.self 0 _ oI hit R.mC _ _ (seg_again rfl loop)
theorem FP {Q:List ah→aG→Prop} (O:Own c) (Tz:c.env.scope.isCoroutine=false)
  (hB:c.A=A.in1.in1.over (.compLoop (nA elt x px y py cK gp) 0 (.ref I) .none c.env) []) (HE:cI ev c) (W:Walk c u uv nx I It) {n:Nat} {oI:Obj} (hh:A.handled=none) (hd:A.depth<k6) (hgn:gi<c.gn) (xQ:ps.length≤2 ^ 20)
  (e:jf nx x (fun σ=>.ok true σ) (ev.E c.env.scope elt) n 0 σ = .ok ps mG) (hit:It 0 oI) (Kc:s.gens[gi]?=some (.fresh (.compStart (nA elt x px y py cK gp) 0 (.ref I) .none c.env)))
  (R₀ : Rel c σ (u :: aD) (uv :: tv) ((I,oI) :: (a,ow gi n1 t1 n2 t2) :: hid) s)
  (k:∀ S (vals:eF ah) nn s',ps.length=vals.size→Rel c mG (ps.map V.p++aD) (vals.toList++tv) ((a,ow gi n1 t1 n2 t2) :: (S,listOf vals nn) :: hid) s'→Q vals.toList s') :
  aF c.M A (collect (.ref a)) Q E s:=by
 refine iM R₀ fun g m mo fz R=>?_;have TG:s.heap.get? a=some (ow gi n1 t1 n2 t2):=(R.core.N (a,_) (aa _ (aa _ (.tail _ (.head _))))).1;have hSa:s.heap.objs.size≠a:=fun q=>iL _ (q ▸ gc TG);refine wpAny_bind (Lo (gK F.entry_proto_collect ?_));refine wpAny_bind (gH ?_);refine wpAny_pure ⟨oR F.plain_list_iadd _,gK WK ?_⟩;have R1:=R.mP { cls:=.type "list",data:=.seq ([]:List ah).toArray } rfl;have TH:(s.heap.push { cls:=.type "list",data:=.seq ([]:List ah).toArray }).get? a=some (ow gi n1 t1 n2 t2):=bI _ TG;show aF _ A.in1 (vV (.ref s.heap.objs.size) (.ref a) (.ref s.heap.objs.size)) _ _ _;refine wpAny_bind (qo (mZ TH).typeIs ?_);have h1:jQ (.ref s.heap.objs.size) (.ref a)=false:=by simp [jQ,hSa]
 have h2:(gU "generator"==gU "list")=false:=by decide
 have h3:(gU "generator"==gU "tuple")=false:=by decide
 simp only [h1,h2,h3,nD,fB,jy];refine wpAny_bind (wpAny_pyIter_gen (mZ TH) ?_);refine wpAny_bind (cF ?_);refine wpAny_bind (pO (mZ TH).typeIs F.gen_no_len ?_);refine wpAny_bind (pO (mZ TH).typeIs F.gen_no_hint ?_);refine wpAny_pure ?_;show aF _ A.in1 (rule "list.extend.makes-room" >>= fun _=>yz (.ref s.heap.objs.size) >>= fun _ =>
  again (.builtin "list.extend.loop" ⟨[.ref s.heap.objs.size,.ref a,.ref s.heap.objs.size],[]⟩)) _ _ _
 refine wpAny_bind (fY ?_);refine wpAny_bind ?_;show aF _ A.in1 (EG s.heap.objs.size (·.push .none) >>= fun _=>EG s.heap.objs.size (·.pop)) _ _ _;have VS : (s.heap.push { cls:=.type "list",data:=.seq ([]:List ah).toArray }).get? s.heap.objs.size=some (listOf #[] 0):=R1.mC;refine wpAny_bind (j4 VS rfl ?_);refine eU (fF (#[]:eF ah) 0 (·.push dZ)) fun n2' en2=>?_;have VT:=bL (dm (·.push dZ)) VS rfl;refine j4 (hz:=by seq_fits) VT rfl ?_;have abA:=bL (dm (·.pop)) VT rfl;obtain ⟨n3,Xd⟩:∃ n3,dm (·.pop) (dm (·.push dZ) (listOf #[] 0))=listOf #[] n3:=by
  rw[en2];refine eU (fF (#[dZ]) n2' (·.pop)) fun n3 Xd=>?_;exact ⟨n3,Xd⟩
 have hSL:s.heap.objs.size≠c.env.locals:=R1.qC O;have R2:=R1.s9 (g8 fun vs q=>by cases q) (pre:=[]) (o':=listOf #[] n3) (k:=s.toks) (h':=((s.heap.push { cls:=.type "list",data:=.seq ([]:List ah).toArray }).update s.heap.objs.size (dm (·.push dZ))).update s.heap.objs.size (dm (·.pop))) (loc:=σ.loc)
  (by rw[← Xd];exact abA) ⟨(iy ..).1.trans (iy ..).1,fun b hb=>(bY _ _ (eO hb)).trans (bY _ _ (eO hb))⟩ (nQ.turn (pre:=[]) hSL R1.loc)
 have R3:=(R2.perm (rH:=(I,oI) :: (a,ow gi n1 t1 n2 t2) :: (s.heap.objs.size,listOf #[] n3) :: hid) ((lg _ _ _).trans ((lg _ _ _).cons _))).rel;refine wpAny_pure ⟨oR je _,Ij rfl (It:=It) O hh hd hgn xQ (fun vals nn s' hl R4=>?_) ps.length σ [] ps #[] n3 oI _ _ rfl rfl rfl Kc R3 fun Al R4=>⟨rfl,L5 O Tz hB HE W e hit R4⟩⟩;show aF _ A (load s.heap.objs.size >>= _) _ _ s';refine iM R4 fun g' m' ri gM R4=>?_;have hS':s'.heap.get? s.heap.objs.size=some (listOf vals nn):=(R4.core.N (s.heap.objs.size,_) (aa _ (aa _ (.tail _ (.head _))))).1;refine wpAny_bind (wpAny_load hS' ?_);exact wpAny_pure (k _ vals nn s' hl R4.rel)
end
end
section
open PySem.Builtin
theorem Ge (P:ai):(Kf P).lookup 809=some (Qc P):=rfl
theorem Yi (P:ai):(Kf P).lookup 4=some (Gx P):=rfl
theorem bns (P:ai):nsIn (Kf P) cy "__builtins__"=some (some (.ref 4)):=by rfl'
section
set_option tactic.hygienic true in
theorem Rl.U7 {tk:Nat} (R:Rl c σ aD tv hid s g m mo fz) (hk:mo[k]?=some (a,o)) (hx:Lp a s.heap h') (ho:h'.get? a=some o') (hb:Nv c.base fz (bh mo) ob o') (hs:σ.aP[k]?=some ob) :
  Rl c σ aD tv hid { s with heap:=h',toks:=tk } g m (mo.set k (a,o')) fz:=by
 have qD:=bf hk;have H:=R.core.N (a,o) (af _ qD);have kL:k<mo.length:=(az.mp hk).1;have uniq:∀ (i:Nat) (p:Addr × Obj),mo[i]?=some p→i≠k→p.1≠a:=fun i p hi tV e=>by
  have h1:(bh mo)[i]?=some a:=by unfold bh;rw[bM,hi,← e];rfl
  have h2:(bh mo)[k]?=some a:=by unfold bh;rw[bM,hk];rfl
  have VW:i<(bh mo).length:=(az.mp h1).1;have Ew:k<(bh mo).length:=(az.mp h2).1;exact tV ((Sv (h₀:=VW) (h₁:=Ew) R.core.nd).mp (by rw[(az.mp h1).2,(az.mp h2).2]))
 have R1:=R.Lb (h':=h') (tk:=tk) hk ⟨R.core.F.ns.extBut hx (eO H.2.1),fun b ob e=>hx b ob (fun q=>by rw[q,H.2.2] at e;cases e) (R.core.F.keep b ob e),R.core.F.above⟩ (fun p hp=>by
  rcases aj.mp hp with q | q
  ·refine eU (tB.mp q) fun i hi=>?_
   rw[iF] at hi;split at hi
   ·simp only [kL,gz,cB] at hi
    rw[← hi];exact ⟨ho,H.2⟩
   ·rename_i tV
    have P:=R.core.N p (af _ (bf hi));exact ⟨hx _ _ (uniq i p hi (eO tV)) P.1,P.2⟩
  ·have P:=R.core.N p (aa _ q)
   exact ⟨hx _ _ (R.core.dj _ qD p q).symm P.1,P.2⟩) hb (ob:=ob)
 have e:σ.aP.set k ob=σ.aP:=by
  refine qi fun i=>?_;rw[iF];split
  ·rename_i q
   subst q;rw[hs];simp [(az.mp hs).1]
  ·rfl
 rw[e] at R1;exact R1
theorem L7 (h:uz σ=true):σ.aP[0]?=some .gone:=by
 delta uz at h;generalize σ.aP=l at h ⊢;cases l with | nil=>exact nomatch h | cons o r=>?_
 cases o<;>first | rfl | exact nomatch h
theorem OP {qn:Str} (R:Rl c σ aD tv hid s g m mo fz) (hr:uz σ=true) (hc:c.env.code = .ref 809)
  (k:∀ code h' tk ri,Rl c σ aD tv hid { s with heap:=h',toks:=tk } g m ri fz→bh ri=bh mo→Q code { s with heap:=h',toks:=tk }):aF c.M c.A (genexprCode c.env gp qn cK) Q E s:=by
 have h0:=L7 hr;have hlen:=R.aP.len;have kL:0<mo.length:=by rw[hlen];exact (az.mp h0).1
 obtain ⟨p,hp⟩:∃ p,mo[0]?=some p:=⟨_,bS kL⟩;refine cz (R.aP.at_ 0 _ p h0 hp) fun wD afF=>?_;refine bU afF fun ps e1 htr=>?_;obtain ⟨a,o⟩:=p;have ha:a=805:=by
  unfold bh at wD;rw[bM,hp] at wD;exact aC wD
 subst ha;simp only at e1;subst e1;have Tv:=(R.core.N _ (af _ (bf hp))).1;have X:=R.KX;have h9:=NS X (Ge c.w.params);have J7:s.heap.IsCode 809 805 ps:=(Y2 _ _ (Y2 _ _ (Y2 _ _ (Y2 _ _ (Y2 _ _ ⟨h9,rfl,rfl,rfl,rfl,rfl,rfl,Tv,rfl,htr,by decide⟩)))));have ahE:s.heap.TableAt 809 805 ps:=⟨(Y2 _ _ ⟨h9,rfl,rfl,rfl⟩),Tv⟩;refine oC (codeAmong gp ps.toList) (fun hca=>?_) fun c' hca=>?_
 ·refine wpAny_genexprCodeX hc J7 ahE hca fun c' h' tk hx _ _ Xy _ acg _=>?_
  obtain ⟨_,_,_,_,_,_,_,_,_,_,_,_,_,_,_,_,_,hop,hpd,ahG,_⟩:=Xy;have e2:=acg.2;rw[e2] at hop;exact k _ h' tk _ (R.U7 (ob:=.gone) hp hx e2 ⟨wD,_,rfl,ahG⟩ h0) (rZ hp)
 ·exact wpAny_genexprCode_hit hc J7 hca (k c' s.heap s.toks mo R rfl)
theorem OM {f:List P→Mo β} {r:Res β} (h:(Tg ev sc elt gens cK >>= f) σ=r) (hn:r≠.fail):∃ x px y py,gens=[⟨.Name x px,.Name y py,[],0⟩]∧(Ii ev sc elt cK x y py >>= f) σ=r:=by
 dsimp only [Tg] at h;cases hg:DU gens with
 | none=>rw[hg] at h;exact absurd h.symm hn
 | some g =>
  rw[hg] at h;obtain ⟨⟨x,it,ifs⟩,px,e⟩:=g;cases ifs with
  | cons _ _=>exact absurd h.symm hn
  | nil =>
   have h:iN ((match nameP it with
    | some ⟨(y,py),_⟩=>Ii ev sc elt cK x y py
    | none=>Mo.fail) σ) f=r:=h
   cases hp:nameP it with
   | none=>rw[hp] at h;exact absurd h.symm hn
   | some q =>
    rw[hp] at h;obtain ⟨⟨y,py⟩,e2⟩:=q;exact (Y2 x px (Y2 y py ⟨e2 ▸ e,h⟩))
theorem OL {f:List P→Mo β} {r:Res β} (h:(Ii ev sc elt cK x y py >>= f) σ=r) (hn:r≠.fail):(BJ sc cK x=true∧(dX σ.loc cK.names).isSome=true) ∧
  (ev.E sc (.Name y py) >>= fun u=>fun σ=>iN (if pF σ u=true then r7 cK x (fun σ=>.ok true σ) (ev.E cK elt) u σ else .fail) f) σ=r:=by
 have e:(Ii ev sc elt cK x y py >>= f) σ=iN (if BJ sc cK x=true∧(dX σ.loc cK.names).isSome=true then (ev.E sc (.Name y py) >>= fun u=>fun σ=>if pF σ u=true then r7 cK x (fun σ=>.ok true σ) (ev.E cK elt) u σ else .fail) σ else .fail) f:=rfl;by_cases hc:BJ sc cK x=true∧(dX σ.loc cK.names).isSome=true
 ·rw[aA hc] at e
  exact ⟨hc,(h.symm.trans (e.trans (uK (m:=ev.E sc (.Name y py) σ)))).symm⟩
 ·rw[aS hc] at e
  exact absurd (h.symm.trans e) hn
theorem MZ {m:Mo (List P)} {f:List P→Mo β} {r:Res β} (h:iN (if pF σ u=true then m σ else .fail) f=r) (hn:r≠.fail):pF σ u=true∧(m >>= f) σ=r:=by
 by_cases hc:pF σ u=true
 ·rw[aA hc] at h
  exact ⟨hc,h⟩
 ·rw[aS hc] at h
  exact absurd h.symm hn
theorem MY (h:pF σ u=true) (hs:srcOf u σ=some (nx,n)):σ.dw = .no∧uz σ=true∧n≤2 ^ 20:=by
 unfold pF at h;rw[hs] at h;have h:=h;rw[aR,aR,br,br] at h;exact ⟨h.1.1,h.1.2,h.2⟩
theorem Mp {xs:Str} (h:BX xs ps σ=r) (hn:r≠.fail):∃ ts,strsOf ps=some ts∧nJ (ts.toArray.foldl (· + ·.length+xs.length) 0)=false∧(BK xs ts).length≤aZ∧r = .ok (.p (.str (BK xs ts))) σ:=by
 refine bU (bK h hn) fun ts hts h=>?_;refine cz (bW h hn) fun hc h=>?_;exact ⟨ts,hts,hc.1,hc.2,h.symm⟩
set_option tactic.hygienic true in
theorem LM {t:Mo Bool} {e:Mo V}:∀ (n i:Nat) (σ:St) (ps:List P) (mG:St),jf nx x t e n i σ = .ok ps mG→ps.length<n:=by
 intro n;induction n with
 | zero=>intro i σ ps mG h;cases h
 | succ n ih =>
  intro i σ ps mG h;dsimp only [jf] at h;split at h
  ·rename_i p hp
   refine jU (qf h) fun _ bx e1 h=>?_;refine jU (qf h) fun b b5 e2 h=>?_;cases b with
   | true =>
    refine jU (qf h) fun w iU e3 h=>?_;split at h
    ·split at h
     ·refine jU (qf h) fun ps' nN e4 h=>?_
      cases h;have:=ih _ _ _ _ e4;exact uQ this 1
     ·cases h
    ·cases h
   | false =>
    have:=ih _ _ _ _ h;exact ja 1 this
  ·split at h
   ·cases h
    exact JK _
   ·cases h
  ·cases h
theorem GA {I:ah} {f:List Env} (h:B.frames=some f):(B.over (.compLoop (nA elt x px y py cK gp) 0 I .none env) []).frames=some (env :: f):=by
 unfold Around.over;dsimp only;rw[h];rfl
theorem IZ {I:ah}:(B.over (.compLoop (nA elt x px y py cK gp) 0 I .none env) []).depth=B.depth+1:=rfl
theorem I1 {I:ah}:(B.over (.compLoop (nA elt x px y py cK gp) 0 I .none env) []).units=B.units+3:=rfl
theorem OQ {xs:Str} (O:Own c) (Tz:c.env.scope.isCoroutine=false)
  (hB:c.A=A.in1.in1.in1.over (.compLoop (nA elt x px y py cK gp) 0 (.ref I) .none c.env) []) (HE:cI ev c) (W:Walk c u uv nx I It) {n:Nat} {oI:Obj} (hh:A.handled=none) (hd:A.depth<k6) (hgn:gi<c.gn) (xQ:ps.length≤2 ^ 20)
  (e:jf nx x (fun σ=>.ok true σ) (ev.E c.env.scope elt) n 0 σ = .ok ps mG) (hit:It 0 oI) (Kc:s.gens[gi]?=some (.fresh (.compStart (nA elt x px y py cK gp) 0 (.ref I) .none c.env)))
  (R₀ : Rel c σ (u :: aD) (uv :: tv) ((a,ow gi n1 t1 n2 t2) :: (I,oI) :: hid) s) (hts:ps=ts.map P.str) (pB:nJ (ts.toArray.foldl (· + ·.length+xs.length) 0)=false)
  (k:∀ S (vals:eF ah) nn s',ps.length=vals.size→Rel c mG (ps.map V.p++aD) (vals.toList++tv) ((a,ow gi n1 t1 n2 t2) :: (S,listOf vals nn) :: hid) s'→∀ t' j,Q (.str (BK xs ts) t') { s' with toks:=j }) :
  aF c.M A (call (.builtin "str.join") [.str xs t,.ref a]) Q E s:=by
 refine iM R₀ fun g m mo fz R=>?_;have TG:s.heap.get? a=some (ow gi n1 t1 n2 t2):=R.mC;refine jP (codeAny_call_builtin ue.plain F.entry_str_join (ue.check _ _ _ _ _ _ _ _ (mS _ _ _) (F.args_str_join_2 _ _) ?_));rw[join_tree_other];refine wpAny_bind (qo (mZ TG).typeIs ?_);refine wpAny_bind (wpAny_tryCatch (wpAny_pyIter_gen (mZ TG) ?_));refine wpAny_bind (FP (A:=A.in1) O Tz hB HE W hh hd hgn xQ e hit Kc (R.perm (lg _ _ _)).rel fun S vals nn s' hl R1=>?_);have R1':=R1;refine iM R1 fun g' m' ri gM R2=>?_;refine cz (eW.split (by simpa using hl) R2.aD) fun hv _=>?_;have hv':=eW.EE hv;rw[hts] at hv';refine bU (Ao hv') fun l e4 e5=>?_;rw[e4];subst e5;have g:Gives (joinTail xs (EC l)) (joinMade xs l):=by
  have g0:=gives_joinTail xs l pB;cases l with
  | nil=>exact g0
  | cons p r=>cases r with
   | nil=>exact g0
   | cons q r'=>exact g0
 exact g pw c.w A (wants Q E) s' (post_join l ⟨joinFit_length pB,k S vals nn s' hl R1'⟩)
theorem T3 (sf:1≤c.fu) (HE:cI ev c) (H1:∀ c1:Cx,c1.fu+1=c.fu→c1.w=c.w→cI ev c1):Hy ev c:=by
 intro v elt gens cK gp ap pos σ h1 h4;refine .mk fun r h Iw aD tv hid s R=>?_;rw[yK,oE h4];refine wpAny_bind (SE.go (HE v σ) h Iw R (fun _ _ x=>x) fun o bx ov b3 h bN=>?_);refine bU (bK (o:=strOf o) (f:=fun s=>abq s (Tg ev c.env.scope elt gens cK)) h Iw) fun xs ho h=>?_;obtain rfl:=wM ho;refine W3 (OM (f:=BX xs) h Iw) fun x px y py afG h=>?_;obtain rfl:=afG;refine iM (bN) fun g m mo fz cX=>?_;refine cz (cX.one) fun ho gv=>?_;refine eU ho.inv.inv fun t eo=>?_;rw[eo];refine wpAny_bind (gA ?_);unfold Kv;rw[show rg (([nA elt x px y py cK gp]:List Expr).length+([]:List uP).length) (sP pos (j3 [nA elt x px y py cK gp] c.env)) (Br pos (su [] c.env))=true from rfl];refine wpAny_bind (cF ?_);unfold calleeOf;rw[aA rfl];refine nF (mS _ _ _) Bf ue F.type_str_join (fun _ e=>nomatch e) ?_;rw[show j9 true v c.env ap pos=pure pos from by unfold j9;simp [h1]];refine wpAny_bind (wpAny_pure (E9 (P:=n8 c.M (.builtin "str.join")) rfl (fun h p=>p) (oY rfl rfl (CO ?_ (D6 rfl)))));refine cz (OL h Iw) fun hc h=>?_;refine cz hc fun pB hlo=>?_;unfold BJ at pB;simp only [aR,beq_iff_eq,dM] at pB;refine cz pB fun afH hsp=>?_;refine cz afH fun afI abI=>?_;refine cz afI fun Tz h0=>?_;refine X05 (Bx Tz) fun o1 o2 o3 o4 o5=>?_;have J7:=c.BO hsp;refine eU (pS.mp hlo) fun ah3 Pa=>?_;have FY:∀ y,cK.names.lookup y=some .free→∃ a,c.env.cells.lookup y=some a:=fun y hy=>by
  refine eU (lJ Pa hy) fun j hj=>?_;refine cz (gv.loc y _ hj) fun _ afJ=>?_;refine bU afJ fun a ha _=>?_;exact ⟨a,ha⟩
 refine nv (qx (env:=c.env) cK.names [] o2 FY) fun cl Tw OX _=>?_;have OY:JU cK c.env=pure cl:=by
  rw[cg] at Tw;unfold JU;simp only [Tw,pure_bind]
 have Hl:=c.Hl;have VZ:c.A.depth<k6:=by unfold k6;exact oH (.g (.a au (.m 4 aE)) (.n 900) .e) (.s au) (.n 1000) zC Hl
 refine wpAny_GeneratorExp_make abI OY o4 h0 o1 VZ ?_ (fun _=>rfl);refine SE.go (HE (.Name y py) bx) h Iw gv.rel (fun _ _ x=>x) fun u b5 v cD h jT=>?_;refine cz (MZ h Iw) fun hsm h=>?_;refine X54 (BD h Iw) fun nx n loc ps mG hs Ex hcg h=>?_;refine xM (MY hsm hs) fun dw XJ hn=>?_;refine X14 (Mp h Iw) fun ts hts Pb akH hre=>?_;subst hre;have abW:=LM _ _ _ _ _ hcg;refine iM (jT) fun g m mo fz jT=>?_;refine cz (jT.one) fun hu pg=>?_;refine Eo (pg.pin) fun up vp yp F3 Iz=>?_;have oO : Rl c b5 (u :: (up++aD)) (v :: (vp++tv)) hid cD g m mo fz:=pg.kj (.cons hu (F3.append pg.aD));refine Ji hs oO fun I oI It i9 W hI C6=>?_;refine ⟨c.TB.nolimit.keeps C6.jo,OP C6 XJ J7 fun code h4 tk4 mo4 ER Dw=>?_⟩;refine wpAny_builtinsFor (m:=c.mg) (by rw[c.yk];exact c.TB.g.keeps ER.jo) (mg_of c.XB c.TB.g (bns _)) (by decide) (NS ER.KX (Yi _)) rfl rfl rfl ?_;intro h' hn' RX;have ahg:I<h4.objs.size:=gc ER.mC;have hA2:(c.A.in1.in1.in1.over (.compLoop (nA elt x px y py cK gp) 0 (.ref I) .none (qZ cK cl h4.objs.size code fX c.env)) []).frames=some (qZ cK cl h4.objs.size code fX c.env :: c.l8 :: c.outer):=by
  exact GA (show c.A.in1.in1.in1.frames=_ from c.hA)
 have hBl:uW (qZ cK cl h4.objs.size code fX c.env).builtins (qZ cK cl h4.objs.size code fX c.env).scope (qZ cK cl h4.objs.size code fX c.env).code:=
  ⟨rfl,fun q=>by rw[show (qZ cK cl h4.objs.size code fX c.env).scope.names.lookup ("split_command":Str)=none from o5] at q;cases q⟩
 have hdd:(c.A.in1.in1.in1.over (.compLoop (nA elt x px y py cK gp) 0 (.ref I) .none (qZ cK cl h4.objs.size code fX c.env)) []).depth≤c.A.depth+4:=by rw[IZ];show c.A.depth+1≤_;exact uM .e (.s au) (.a au (.n 4)) zC
 have huu:(c.A.in1.in1.in1.over (.compLoop (nA elt x px y py cK gp) 0 (.ref I) .none (qZ cK cl h4.objs.size code fX c.env)) []).units≤c.A.units+8:=by rw[I1];show c.A.units+1+1+1+3≤_;exact uM .e (.a (.s (.s (.s au))) (.n 3)) (.a au (.n 8)) zC
 have agN:=ER.ON (A1:=c.A.in1.in1.in1) (A2:=c.A.in1.in1.in1.over (.compLoop (nA elt x px y py cK gp) 0 (.ref I) .none (qZ cK cl h4.objs.size code fX c.env)) []) rfl rfl (env':=qZ cK cl h4.objs.size code fX c.env) (loc:=loc) (cK:=cK) (cl:=cl) rfl rfl rfl o2 Ex OX
  hA2 rfl o1 c.yk hBl sf hdd huu hn' RX (k:=tk4+1+1+1)
  (gs:=.fresh (.compStart (nA elt x px y py cK gp) 0 (.ref I) .none (qZ cK cl h4.objs.size code fX c.env))) (og:=ow i9.gens.size "<genexpr>" (tk4+1) (c.env.qual++"<genexpr>") (tk4+1+1)) rfl rfl
 refine Se (nK ⟨jX _ _,?_⟩);refine OQ (ev:=ev) (A:=c.A) (x:=x) (y:=y) (px:=px) (py:=py) (gp:=gp) (cK:=cK) (elt:=elt) (nx:=nx) (I:=I) (It:=It) (ps:=ps) (mG:=mG) (ts:=ts) (n:=n+1) (oI:=oI) (c:=c.OR c.A.in1.in1.in1 (c.A.in1.in1.in1.over (.compLoop (nA elt x px y py cK gp) 0 (.ref I) .none (qZ cK cl h4.objs.size code fX c.env)) []) (qZ cK cl h4.objs.size code fX c.env) h4.objs.size (cT h4 ((mo4++(fz++((I,oI) :: hid))).map (·.1))) (i9.gens.size+1) hA2 rfl o1 c.yk hBl sf hdd huu) ⟨rfl,rfl,rfl⟩ abI rfl (H1 _ (by show c.fu - 1+1=c.fu;exact jx sf) rfl) (W _ (fU ahg))
  (pg.dw.1 dw) VZ (dJ _) (by exact oH (.g (.s au) (.s aE) (.g aE (.n 1048576) .e)) au (.n 1048576) zC abW hn) hcg hI ?_ agN (Ar hts) Pb fun S vals nn s' hl R10 t' j=>?_
 ·exact Array.getElem?_push_size ..
 ·have R11:=ER.OO (A1:=c.A.in1.in1.in1) (hid:=hid) (aD:=aD) (tv:=tv) (us:=up) (vs:=vp) (ds:=ps.map V.p) (dv:=vals.toList) yp (by simpa using hl) (by rw[Dw];exact Iz) (fun h=>pg.dw.2 h) rfl (qq ER.gens.2) R10
  refine iM R11 fun g' m' ri gM R12=>?_;refine cz (eW.split (by simpa using hl) R12.aD) fun _ ht=>?_;exact ⟨_,_,rfl,((R12.kj ht).push .str).rel.toks⟩
end
end
end
section
open PySem.Builtin
theorem sound (n:Nat) (c:Cx) (h:n≤c.fu):Sound (RS c.K n) c:=
 CN (fun c ev h HC=>ZX HC h) (fun c ev h HE H1=>T3 h HE H1) n c h
end
section
open PySem.Builtin
noncomputable def Cx.top (w:dz) (mg mb:Str→Option ah) (env:Env) (L:Addr) (base:Heap) (os:Bl) (XB:(Kf w.params).In base) (TB:HF q (Sb q loose) mg mb base)
  (h1:env.frame=some L) (h2:env.scope.kind = .function) (h3:env.globals=cy) (h4:uW env.builtins env.scope env.code):Cx where
 w:=w
 mg:=mg
 mb:=mb
 A:=RP.deeper env
 A₀:=RP
 env:=env
 l8:=env
 outer:=[]
 base:=base
 g:=base
 L:=L
 os:=os
 p8:=none
 gn:=0
 XB:=XB
 TB:=TB
 hA:=Hp rfl
 hf:=h1
 TF:=h2
 hk:=h2
 yk:=h3
 Ma:=h4.1
 BO:=h4.2
 yj:=h1
 fu:=140
 Hl:=by
  show RP.depth+1+4*140≤900;decide +kernel
 NI:=by
  show RP.units+3+8*140≤9000;decide +kernel
section
variable {w:dz} {mg mb:Str→Option ah} {s cD : aG} {fd:kP} {a:Addr} {binds:List (Str × V)} {bv:List (Str × ah)}
theorem Na {XB:(Kf w.params).In (cT s.heap [805])} {TB:HF q (Sb q loose) mg mb (cT s.heap [805])} (wD:s.heap.get? 805=some Ad)
  (hg:fd.globals=cy) (hb:uW fd.builtins fd.scope fd.code) (hk:fd.scope.kind = .function) (nd:iJ (fd.scope.names.map (·.1))=true) (hbd:pQ (cT s.heap [805]) [] [805] binds bv) (nb:(bv.map (·.1)).Nodup) (Kc:s.gens = #[])
  (x:InCallC s s.heap.objs.size (bindL (lP fd s.heap.objs.size a).kindOf bv fun _=>none) (tQ (s.heap.objs.size+1) fd.scope.names []) (bindC (lP fd s.heap.objs.size a).kindOf bv fun _=>none) cD) :
  Rel (Cx.top w mg mb (lP fd s.heap.objs.size a) s.heap.objs.size (cT s.heap [805]) s.os XB TB rfl hk hg hb)
   ⟨(fH fd.scope.names binds [.gone]).1,(fH fd.scope.names binds [.gone]).2,.no⟩ [] [] [] cD:=by
 refine jU x.done fun IA tk afK _=>?_;obtain rfl:=afK;have xw:=x.toInCall.keep;have ndn:=nT (n:=s.heap.objs.size+1) nd;have lk:∀ {n:Str} {ca:Addr},(n,ca)∈fC (s.heap.objs.size+1) fd.scope.names→(tQ (s.heap.objs.size+1) fd.scope.names []).lookup n=some ca:=fun {n ca} hm=>by
  rw[nU,cg];exact zV ndn hm
 refine bU (Cl.news (h₀:=s.heap) (L:=s.heap.objs.size) (aB _) (cs:=fC (s.heap.objs.size+1) fd.scope.names) fun n ca hm=>⟨x.cell n ca (lk hm),di (dJ _) (pV hm)⟩) fun cells NC CA=>?_;have Dw:=tP CA;have hlen:cells.length=(fC (s.heap.objs.size+1) fd.scope.names).length:=by
  have:=aK aN Dw;simpa [bh] using this
 have old:IA.get? 805=some Ad∧805≠s.heap.objs.size∧(cT s.heap [805]).get? 805=none:=⟨xw _ _ wD,fU (gc wD),hideAll_none _ (.head _)⟩;have new:∀ p∈cells,IA.get? p.1=some p.2∧p.1≠s.heap.objs.size∧(cT s.heap [805]).get? p.1=none:=fun p hp=>by
  refine ⟨(NC p hp).1,(NC p hp).2.1,?_⟩;refine oC ((cT s.heap [805]).get? p.1) (fun q=>?_) fun o q=>?_
  ·rfl
  ·have:=of_hideAll _ q;rw[(NC p hp).2.2] at this;cases this
 have apart:∀ r∈cells,805≠r.1:=fun r hr e=>by
  rw[e,(NC r hr).2.2] at wD;cases wD
 have G:pe [] [] [805] (bh ((805,Ad) :: cells)):=⟨fun _ h=>h,fun k a h=>by
  cases k with
  | zero=>exact h
  | succ k=>simp at h⟩
 have at2:∀ {k:Nat} {y:Str} {ca:Addr},(fC (s.heap.objs.size+1) fd.scope.names)[k]?=some (y,ca)→(bh ((805,Ad) :: cells))[1+k]?=some ca:=fun {k y ca} e=>by
  unfold bh;rw[cZ,gI,rB];show (bh cells)[k]?=_;rw[Dw,bM,e];rfl
 refine (Y2 (cT s.heap [805]) _ (Y2 ((805,Ad) :: cells) ([]) ⟨⟨Ei,below_caller _,(fun b hb=>nomatch hb)⟩,⟨⟨x.toInCall.ns,fun b o e=>xw b o (of_hideAll _ e),cU (RT _ _)⟩,fun p hp=>?_,?_,(fun p _ r hr=>nomatch hr),(fun p hp=>nomatch hp),mw⟩,fun z7 e=>(by cases e),fun y sl e=>?_,⟨?_,fun k ob p h1 h2=>?_⟩,.nil,⟨by rw[Kc];exact .empty,d7 _⟩,rfl,fun _=>rfl,fun _=>.inl rfl⟩))
 ·have hp:p∈(805,Ad) :: cells:=by simpa using hp
  rcases av.mp hp with rfl | hp
  ·exact old
  ·exact new p hp
 ·show (805 :: bh cells).Nodup
  refine bF.mpr ⟨fun q=>?_,?_⟩
  ·refine bU (aX.mp q) fun r hr e=>?_
   exact apart r hr e.symm
  ·rw[Dw]
   exact qw
 ·have H:=uE (n:=s.heap.objs.size+1) nd e
  cases sl with
  | unset=>exact H
  | val v =>
   refine cz H fun h1 h2=>?_;have h3:=hbd.lookup y;rw[h2] at h3;refine oC (bv.lookup y) (fun q=>?_) fun val q=>?_
   ·rw[q] at h3;exact h3.elim
   ·rw[q] at h3
    refine ⟨h1,val,h3.mono G,.inl ⟨rfl,?_⟩⟩;rw[yO nb h1,q]
  | cell j =>
   refine cz H fun h1 afL=>?_;refine bU afL fun k afM h2=>?_;rw[afM];exact ⟨.inl h1,_,lk (bf h2),at2 h2⟩
 ·rw[mD _ _ _ (s.heap.objs.size+1),aO,aM,dU,hlen]
  exact gI (fC (s.heap.objs.size+1) fd.scope.names).length 1
 ·rw[mD _ _ _ (s.heap.objs.size+1)] at h1
  cases k with
  | zero =>
   simp only [iY,Su,cB] at h1 h2;subst h1 h2;exact ⟨rfl,#[],rfl,trivial⟩
  | succ k =>
   simp only [Su,List.nil_append,rB] at h1 h2;rw[bM] at h1;refine oC ((fC (s.heap.objs.size+1) fd.scope.names)[k]?) (fun q=>?_) fun r q=>?_
   ·rw[q] at h1;cases h1
   ·obtain ⟨y,ca⟩:=r
    rw[q] at h1;cases h1;refine bU (xg CA q) fun o ho hd=>?_;rw[ho] at h2;cases h2;refine ⟨_,hd,?_⟩;have hy:(lP fd s.heap.objs.size a).kindOf y≠some .local:=by
     have hm:=bf q;have hc:∀ {names:List (Str × d9)} {n:Nat},iJ (names.map (·.1))=true→(y,ca)∈fC n names→names.lookup y=some .cell:=by
      intro names;induction names with
      | nil=>intro n _ h;cases h
      | cons z r ih =>
       intro n nd h;obtain ⟨z,kd⟩:=z;refine cz (iR (x:=z) (r:=r.map fun (z:Str × d9)=>z.1) nd) fun n1 n2=>?_;have skip:∀ n',(y,ca)∈fC n' r→((z,kd) :: r).lookup y=some .cell:=fun n' hr=>by
        have e:=ih n2 hr;rw[aH];have:y≠z:=fun q=>n1 (q ▸ lookup_mem e);rw[aJ.mpr this];exact e
       cases kd with
       | cell =>
        rcases av.mp h with h | h
        ·cases h;rw[aH];simp
        ·exact skip _ h
       | _=>exact skip n h
     show fd.scope.names.lookup y≠_;rw[hc nd hm];simp
    rw[yN nb hy];have h3:=hbd.lookup y;cases q1:binds.lookup y<;>cases q2:bv.lookup y<;>rw[q1,q2] at h3<;>first | exact h3.elim | trivial | exact VR.mono G h3
end
theorem Yq (P:ai):nsIn (Kf P) cy "law"=some (some (.ref 893)):=by rfl'
theorem PZ (P:ai):(Kf P).lookup 805=none:=by rfl'
noncomputable def EP:Prop:=∀ (w:dz) (ns:List Int),ns.length≤63→∃ fl σ1,eS (Kf w.params) (RS (Kf w.params) 140) 893 [.p (.lst (ns.map P.int))] [] ⟨[],[.gone],.no⟩ = .ok fl σ1∧qN fl = .p (.bool true)∧σ1.aP[0]?=some .gone
section
variable {w:dz} {mg mb:Str→Option ah} {s:aG}
theorem Dz {h:Heap} {b:Addr} {m:Str→Option ah} (hb:b≠805) (H:h.Ns b m):(cT h [805]).Ns b m:=by
 refine AN H fun o es ep ho r=>?_;exact (Y2 o es ⟨ep,kU _ ho (by simpa using hb),r⟩)
theorem zf (T:HF q (Sb q loose) mg mb s.heap):HF q (Sb q loose) mg mb (cT s.heap [805]):=by
 obtain ⟨t1,t2,⟨mc,t3,t4⟩,t5,t6⟩:=T;exact ⟨Dz (by decide) t1,Dz (by decide) t2,⟨mc,Dz (by decide) t3,t4⟩,t5,t6⟩
theorem Iu (X:(Kf w.params).In s.heap):(Kf w.params).In (cT s.heap [805]):=fun a o e=>kU _ (X a o e) (by
 intro q;rw[bA] at q;rw[q,PZ] at e;cases e)
theorem XT {b:Heap} {fz:Led} {h:Heap} {v:ah} {i:Int} (a:Well w.params h v (.int i)):PV b fz (.int i) v:=by
 cases a with | int _ t=>exact .int i t
theorem TY {b:Heap} {fz:Led} {h:Heap} {vs:List ah} {xs:List Vz} (hw:WellAll w.params h vs xs) (hx:∀ d∈xs,∃ i,d = .int i):∃ ns:List Int,jS b fz (ns.map P.int) vs∧ns.length=xs.length:=by
 induction xs generalizing vs with
 | nil=>cases hw;exact ⟨[],.nil,rfl⟩
 | cons x xs ih =>
  cases hw with | cons a r =>
  exact eU (hx _ (.head _)) fun i e=>bU (ih r fun d hd=>hx d (.tail _ hd)) fun ns h1 h2=>⟨i :: ns,.cons (XT (e ▸ a)) h1,aK (· + 1) h2⟩
theorem Lx.aiv {c:Cx} {σ:St} {aD:List V} {tv:List ah} {hid:Led} {s:aG} {fl:Fl} {f:Flow} (RF:Lx c σ aD tv hid s fl f) (h:qN fl = .p (.bool true)):∃ v,f = .ret v∧Rel c σ (.p (.bool true) :: aD) (v :: tv) hid s:=by
 cases fl with
 | ret u=>cases f with
  | ret v=>exact ⟨v,rfl,(show u=_ from h) ▸ RF⟩
  | _=>exact RF.elim
 | _=>exact nomatch h
set_option tactic.hygienic true in
theorem Py (HL:EP) (T:HF q (Sb q loose) mg mb s.heap) (Y:(Kw w.params).In s.heap) (hg:s.gens = #[]) {v:ah} {xs:List Vz} (hw:Well w.params s.heap v (.list xs)) (hx:∀ d∈xs,∃ i,d = .int i) (hl:xs.length≤63) {Q:ah→aG→Prop}
  (k:∀ s',OldK s.heap s'.heap→s'.os=s.os→Ho s'.gens→Q (.bool true) s'):aF (jN pw w) RP (call (.ref 893) [v]) Q (fun _ _=>iP) s:=by
 have X:(Kf w.params).In s.heap:=fun a o e=>Y a o (by
  show Ls a ((805,Ad) :: Kf w.params)=_;rw[aH];split
  ·rename_i q
   rw[beq_iff_eq.mp q,PZ] at e;cases e
  ·exact e)
 have wD:s.heap.get? 805=some Ad:=Y 805 Ad rfl;cases hw with | @list a vs _ ha hv =>
 refine bU (TY (b:=cT s.heap [805]) (fz:=[]) hv hx) fun ns hns hlen=>?_;refine Eo (HL w ns (by exact nG hlen hl)) fun fl σ1 e ahy ace=>?_;refine Ep (De (fun q=>nomatch q.symm.trans e)) fun fd body binds hd hb e0=>?_;rw[e0] at e;have D:=BC hd;refine X31 D.at_ fun oc od ZI hlk=>?_;have hva:eW (cT s.heap [805]) [] [805] [.p (.lst (ns.map P.int))] [.ref a]:=.cons (.p (.lst (.inr (kU _ ha (fun q=>by
  rw[bA] at q;rw[q,wD] at ha;cases ha))) ⟨rfl,rfl,rfl⟩ rfl (by simpa using hns))) .nil
 refine jP (v8 (by decide +kernel) (X _ _ hlk) rfl D.co D.gen D.body (codeRec_of X D.code) (w9 X hva (ku:=[]) .nil hb fun bv hbv nb TL=>?_));rw[D.clo];refine ry D.kind (fun x hx=>(TL x hx).imp id fun q=>⟨q,cellsFrom_some _ _ _ (.inl q)⟩) fun env' he s' x=>?_;subst he;refine ⟨T.nolimit.keeps x.toInCall.keep,RQ ?_⟩;have R2:=Na (XB:=Iu X) (TB:=zf T) (a:=893) wD D.gl D.bl D.kind D.nd hbv nb hg x;have S:=(sound 140 (Cx.top w mg mb (lP fd s.heap.objs.size 893) s.heap.objs.size (cT s.heap [805]) s.os (Iu X) (zf T) rfl D.kind D.gl D.bl) (aB _)).B ⟨rfl,rfl,rfl⟩ body
  ⟨(fH fd.scope.names binds [.gone]).1,(fH fd.scope.names binds [.gone]).2,.no⟩
 have e':(RS (Cx.top w mg mb (lP fd s.heap.objs.size 893) s.heap.objs.size (cT s.heap [805]) s.os (Iu X) (zf T) rfl D.kind D.gl D.bl).K 140).B fd.scope body ⟨(fH fd.scope.names binds [.gone]).1,(fH fd.scope.names binds [.gone]).2,.no⟩ = .ok fl σ1:=e;have S1:=S (by show (RS _ 140).B fd.scope body _≠_;rw[e'];exact fun q=>nomatch q) [] [] [] _ R2;refine wpAny_mono S1 (fun f i9 q=>jU q fun fl' σ' e2 RF=>?_) fun e i9 q=>Ep q fun _ _ _ q _ _=>nomatch e'.symm.trans q
 have e3:=ML (e'.symm.trans e2);rw[← e3.1,← e3.2] at RF;refine bU (RF.aiv ahy) fun v ef RR=>iM RR fun g m mo fz R=>?_;rw[ef,show v = .bool true from R.one.1.inv.inv]
 ··
   refine k i9 ?_ R.os R.gens.1;have keep:∀ b o,b≠805→s.heap.get? b=some o→i9.heap.get? b=some o:=fun b o hb e=>R.core.F.keep b o (R.gh.turn.other b o (kU _ e (by simpa using hb)) (fun q=>nomatch q));have kL:0<mo.length:=by
    have hsl:=R.aP.len;rw[hsl];exact (az.mp ace).1
   obtain ⟨p,hp⟩:∃ p,mo[0]?=some p:=⟨_,bS kL⟩;refine cz (R.aP.at_ 0 _ p ace hp) fun h1 afN=>?_;refine bU afN fun ps h2 _=>?_;obtain ⟨b,o⟩:=p;have hb5:b=805:=by
    unfold bh at h1;rw[bM,hp] at h1;exact aC h1
   subst hb5;simp only at h2;subst h2;have h3:i9.heap.get? 805=some { cls:=.none,data:=.fields ps }:=(R.core.N _ (af _ (bf hp))).1;have hct:isCodeTable s.heap 805:=(Y2 (809) _ ⟨_,X _ _ (Ge w.params),rfl,rfl,rfl⟩);refine ⟨fun b o e=>?_,fun b o e=>?_⟩
   ·by_cases hb:b=805
    ·subst hb
     rw[wD] at e;cases e;exact .inr (.inl ⟨hct,rfl,#[],ps,rfl,by rw[h3,Array.empty_append];rfl⟩)
    ·exact .inl (keep b o hb e)
   ·by_cases hb:b=805
    ·subst hb
     exact ⟨_,h3⟩
    ·exact ⟨o,keep b o hb e⟩
end
end
section
open PySem.Builtin
theorem Pz:Fj.name=("law":Str):=by rfl'
theorem has_int {R:VA} {d:Vz} (h:Ly R d .int=true):∃ i,d = .int i:=by
 cases d with
 | int i=>exact ⟨i,rfl⟩
 | _=>exact nomatch h
theorem BN {R:VA}:∀ {xs:List Vz},yI R xs .int=true→∀ d∈xs,∃ i,d = .int i
 | [],_,_,m=>nomatch m
 | x :: xs,h,d,m=>by
  have h:(Ly R x .int&&yI R xs .int)=true:=h;rw[aR] at h;rcases av.mp m with rfl | m
  ·exact has_int h.1
  ·exact BN h.2 d m
theorem has_list {R:VA} {d:Vz} (h:Ly R d (.list .int)=true):∃ xs,d = .list xs∧∀ d∈xs,∃ i,d = .int i:=by
 cases d with
 | list xs =>
  have h:([WShape.int].any fun r=>yI R xs r)=true:=h;rw[List.any_cons,List.any_nil,nD] at h;exact ⟨xs,rfl,BN h⟩
 | _=>exact nomatch h
theorem UG {R:VA} {xs:List Vz} (h:VB R (.and (.not (.lt (.lit (.int 63)) (.len (.arg 0)))) (.lit (.bool true))) { args:=[.list xs] }=true):xs.length≤63:=by
 have v1:HG R (.lt (.lit (.int 63)) (.len (.arg 0))) { args:=[.list xs] }=some (.bool (decide ((63:Int)<(xs.length:Int)))):=by
  rfl
 have e:VB R (.and (.not (.lt (.lit (.int 63)) (.len (.arg 0)))) (.lit (.bool true))) { args:=[.list xs] } = !decide ((63:Int)<(xs.length:Int)):=by
  unfold VB;rw[HG,HG,HG,v1];cases decide ((63:Int)<(xs.length:Int))<;>rfl
 rw[e] at h;simp at h;exact zU h
theorem UD {xs:List Vz}:bB.row.claim.post [.list xs] (.bool true) [.list xs]=true:=by rfl'
set_option tactic.hygienic true in
theorem aaN (HL:EP):bB.Holds:=by
 refine hd ?_;intro w qS b3 mg mb G Y a o pm cd doc dV kV ho hod hcr hdf XF abO args vals as XI amc hrd acn FZ;refine cz (pre_splitW XI) fun hsh hp=>?_;refine Eo (hasAllW_cons hsh) fun d r afO VU hr=>?_;obtain rfl:=afO;obtain rfl:=hasAllW_nil hr;have X:(Kf w.params).In b3.heap:=fun a o e=>Y a o (by
  show Ls a ((805,Ad) :: Kf w.params)=_;rw[aH];split
  ·rename_i q
   rw[beq_iff_eq.mp q,PZ] at e;cases e
  ·exact e)
 have T:=topRead_of G.T;rw[Pz] at XF;have abv:=mg_of X T.g (Yq w.params);rw[XF] at abv;cases abv;cases acn with | cons hw hn =>
 cases hn;refine bU (has_list VU) fun xs afP hx=>?_;obtain rfl:=afP;have hl:xs.length≤63:=by
  exact UG hp
 refine wpAny_mono (Py HL T Y abO hw hx hl (Q:=fun v s'=>GoodWG bB.row.claim (classAt qS.heap) (ExcName.means qS.heap) [.list xs] b3 (.ok (.ret v)) s') fun s' K hos aho=>?_) (fun _ _ z=>z) fun _ _ z=>z.elim;exact ⟨.inl (Y2 _ (.bool true) ⟨[],rfl,fun _=>rfl,.bool true,UD,fun _=>⟨mw,fun _ h=>nomatch h⟩⟩),K,hos,aho⟩
end
section
variable {P:ai} {n:Nat} {sc:bV} {σ σ1 σ2 WG:St}
noncomputable abbrev ev (P:ai) (n:Nat):Ev:=RS (Kf P) n
theorem rb {α β : Type} {m:Mo α} {f:α→Mo β} {a:α} {r:Res β} (h:m σ = .ok a σ1) (k:f a σ1=r):(m >>= f) σ=r:=by
 show (match m σ with
 | .fail=>.fail
 | .ok a σ'=>f a σ'
 | .exc x σ'=>.exc x σ')=r
 rw[h];exact k
theorem aU {s:Stmt} {ss:List Stmt} {r:Res Fl} (h:fk (Kf P) (ev P n) sc s σ = .ok .next σ1) (k:(ev P (n+1)).B sc ss σ1=r):(ev P (n+1)).B sc (s :: ss) σ=r:=rb h k
theorem kN {s:Stmt} {ss:List Stmt} {v:V} (h:fk (Kf P) (ev P n) sc s σ = .ok (.ret v) σ1):(ev P (n+1)).B sc (s :: ss) σ = .ok (.ret v) σ1:=rb h rfl
theorem WY {t:Expr} {b e:List Stmt} {p:Pos} {c:Bool} {r:Res Fl} (h:(ev P n).T sc t σ = .ok c σ1) (k:(ev P n).B sc (if c then b else e) σ1=r):fk (Kf P) (ev P n) sc (.If t b e p) σ=r:=
 rb h (by cases c<;>exact k)
noncomputable def fM (P:ai) (a:Addr):kP × List Stmt:=(defAt (Kf P) a).getD default
theorem oW {x:Str} {px p:Pos} {e:Expr} {v:V} (h0:PC e=none) (h1:nB e=false) (h:(ev P n).E sc e σ = .ok v σ1) (k:o9 x v σ1 = .ok () σ2):fk (Kf P) (ev P n) sc (.Assign [.Name x px] e p) σ = .ok .next σ2:=by
 show HM (Kf P) (ev P n) sc (.Name x px) e σ=_;dsimp only [HM];rw[h0];show (if nB e=false∧Pn (.Name x px)=true then _ else Mo.fail:Mo Fl) σ=_;rw[aA ⟨h1,rfl⟩];exact rb h (rb k rfl)
theorem C7 {x:Str} {px p pos:Pos} {elt:Expr} {gens:List gx} {cK:bV} {q:Mine.P} (h:Mine.comp (ev P n) sc elt gens cK σ = .ok q σ1) (k:o9 x (.p q) σ1 = .ok () σ2):fk (Kf P) (ev P n) sc (.Assign [.Name x px] (.ListComp elt gens cK pos) p) σ = .ok .next σ2:=
 rb h (rb k rfl)
theorem agO {t:Expr} {b:List Stmt} {p:Pos} (h:(ev P (n+1)).T sc t σ = .ok false σ1):fk (Kf P) (ev P (n+1)) sc (.If t b [] p) σ = .ok .next σ1:=rb h rfl
theorem eK {s:Stmt} {r:Res Fl} (h:fk (Kf P) (ev P n) sc s σ=r):(ev P (n+1)).B sc [s] σ=r:=by
 subst h;show Mo.bind (fk (Kf P) (ev P n) sc s) (fun fl=>match fl with
  | .next=>CP (Kf P) (ev P n) sc []
  | fl=>pure fl) σ=_
 dsimp only [Mo.bind];cases fk (Kf P) (ev P n) sc s σ with
 | fail=>rfl
 | exc _ _=>rfl
 | ok fl σ'=>cases fl<;>rfl
theorem N4 {t:Expr} {b:List Stmt} {p:Pos} (h:(ev P n).T sc t σ = .ok false σ1):fk (Kf P) (ev P n) sc (.While t b [] p) σ = .ok .next σ1:=rb h rfl
theorem Bp {e:Expr} {p:Pos} {v:V} (h:(ev P n).E sc e σ = .ok v σ1):fk (Kf P) (ev P n) sc (.Return (some e) p) σ = .ok (.ret v) σ1:=rb h rfl
theorem wh {e:Expr} {p:Pos} {v:V} (h1:nB e=false) (h:(ev P n).E sc e σ = .ok v σ1):fk (Kf P) (ev P n) sc (.Expr e p) σ = .ok .next σ1:=by
 show (if nB e=false then _ else Mo.fail:Mo Fl) σ=_;rw[aA h1];exact rb h rfl
theorem yH {x:Str} {px p:Pos} {it:Expr} {b:List Stmt} {u:V} {vs:List Mine.P} {r:Res Fl} (h1:mz it=false) (h:(ev P n).E sc it σ = .ok u σ1) (hu:ux u=some vs) (k:j0 x ((ev P n).B sc b) vs σ1=r):fk (Kf P) (ev P n) sc (.For (.Name x px) it b [] p) σ=r:=by
 show (if mz it=false then ((ev P n).E sc it >>= fun u=>Mo.get (ux u) fun vs=>j0 x ((ev P n).B sc b) vs) else Mo.fail:Mo Fl) σ=r;rw[aA h1];refine rb h ?_;rw[hu];exact k
theorem wY {x:Str} {b:Mo Fl} (h:σ.dw = .no):j0 x b [] σ = .ok .next σ:=by
 show (if σ.dw = .no then Res.ok Fl.next σ else .fail)=_;rw[aA h]
theorem rV {x:Str} {b:Mo Fl} {v:Mine.P} {vs:List Mine.P} {r:Res Fl} (h:o9 x (.p v) σ = .ok () σ1) (hb:b σ1 = .ok .next σ2) (k:j0 x b vs σ2=r):j0 x b (v :: vs) σ=r:=rb h (rb hb k)
theorem Jy {l r:Expr} {op:wZ} {p:Pos} {a b:V} {res:Res V} (h0:K6 l op r=none) (h1:(ev P n).E sc l σ = .ok a σ1) (h2:(ev P n).E sc r σ1 = .ok b σ2) (k:xN (Kf P) op a b σ2=res):(ev P (n+1)).E sc (.BinOp l op r p) σ=res:=by
 show Oe (Kf P) (ev P n) sc l op r σ=res;dsimp only [Oe];rw[h0];exact rb h1 (rb h2 k)
theorem aaV {l r:Expr} {op:yC} {p:Pos} {a b:V} {res:Res V} (h0:fW op r=false) (h1:(ev P n).E sc l σ = .ok a σ1) (h2:(ev P n).E sc r σ1 = .ok b σ2) (k:rF op a b σ2=res):(ev P (n+1)).E sc (.Compare l [op] [r] p) σ=res:=by
 show (if fW op r=false then (ev P n).E sc l >>= fun a=>(ev P n).E sc r >>= fun b=>rF op a b else Mo.fail:Mo V) σ=res;rw[aA h0];exact rb h1 (rb h2 k)
theorem aa6 {l r:Expr} {op:yC} {p:Pos} {a b v:V} {res:Res Bool} (h0:fW op r=false) (h1:(ev P n).E sc l σ = .ok a σ1) (h2:(ev P n).E sc r σ1 = .ok b σ2) (k:rF op a b σ2 = .ok v WG) (k2:tG (Kf P) v WG=res):(ev P (n+1)).T sc (.Compare l [op] [r] p) σ=res:=by
 show (if fW op r=false then (ev P n).E sc l >>= fun a=>(ev P n).E sc r >>= fun b=>rF op a b >>= fun v=>tG (Kf P) v else Mo.fail:Mo Bool) σ=res;rw[aA h0];exact rb h1 (rb h2 (rb k k2))
theorem Vx {e:Expr} {p:Pos} {b:Bool} (h:(ev P n).T sc e σ = .ok b σ1):(ev P (n+1)).T sc (.UnaryOp .Not e p) σ = .ok (!b) σ1:=rb h rfl
theorem Vk {v i:Expr} {p:Pos} {a b:V} {res:Res V} (h0:sliceOf i=none) (h1:(ev P n).E sc v σ = .ok a σ1) (h2:(ev P n).E sc i σ1 = .ok b σ2) (k:jV (Kf P) a b σ2=res):(ev P (n+1)).E sc (.Subscript v i p) σ=res:=by
 show QZ (Kf P) (ev P n) sc v i σ=res;dsimp only [QZ];rw[h0];exact rb h1 (rb h2 k)
theorem aaW {v:Expr} {lo hi st:Option Expr} {q p:Pos} {a l u t:V} {σ4:St} {res:Res V} (h1:(ev P n).E sc v σ = .ok a σ1) (h2:Hj ((ev P n).E sc) lo σ1 = .ok l σ2) (h3:Hj ((ev P n).E sc) hi σ2 = .ok u WG) (h4:Hj ((ev P n).E sc) st WG = .ok t σ4) (k:GJ (Kf P) a l u t σ4=res):(ev P (n+1)).E sc (.Subscript v (.Slice lo hi st q) p) σ=res:=
 rb h1 (rb h2 (rb h3 (rb h4 k)))
theorem CZ {f:Expr} {args:List Expr} {p:Pos} {fv:V} {us:List V} {res:Res V} (h0:qu f=none) (h1:noStar args=true) (h2:(ev P n).E sc f σ = .ok fv σ1) (h3:jD ((ev P n).E sc) args σ1 = .ok us σ2) (k:jL (Kf P) (ev P n) fv us [] σ2=res):(ev P (n+1)).E sc (.Call f args [] p) σ=res:=by
 show E5 (Kf P) (ev P n) sc f args [] p σ=res;dsimp only [E5];rw[h0];show (if noStar args=true∧kwOk []=true then (ev P n).E sc f >>= fun fv=>jD ((ev P n).E sc) args >>= fun vs=>kwV (Kf P) (ev P n) sc [] fv vs else Mo.fail:Mo V) σ=res;rw[aA ⟨h1,rfl⟩];exact rb h2 (rb h3 k)
theorem NP {v:Expr} {m:Str} {ap p:Pos} {args:List Expr} {o:V} {mk:MK} {us:List V} {res:Res V} (h0:BI args=none) (h1:ap.endLine=p.line∧noStar args=true∧args.length<20∧nH v=true) (h2:(ev P n).E sc v σ = .ok o σ1) (h3:z5 (Kf P) o m σ1=some mk) (h4:jD ((ev P n).E sc) args σ1 = .ok us σ2)
  (k:vJ (Kf P) (ev P n) mk us σ2=res):(ev P (n+1)).E sc (.Call (.Attribute v m ap) args [] p) σ=res:=by
 show (if ([]:List uP).isEmpty=true∧ap.endLine=p.line∧noStar args=true∧args.length<20∧nH v=true then Gk (Kf P) (ev P n) sc v m args else Mo.fail:Mo V) σ=res;rw[aA ⟨rfl,h1⟩];dsimp only [Gk];rw[h0];refine rb h2 ?_;unfold Gl;rw[h3];exact rb h4 k
theorem A1 {f:Expr→Mo V} {e:Expr} {v:V} (h0:isStar e=false) (h:f e σ = .ok v σ1):jD f [e] σ = .ok [v] σ1:=by
 show (if isStar e=false then f e >>= fun v=>jD f [] >>= fun vs=>pure (v :: vs) else Mo.fail:Mo (List V)) σ=_;rw[aA h0];exact rb h rfl
theorem Ac {f:Expr→Mo V} {e:Expr} {es:List Expr} {v:V} {vs:List V} (h0:isStar e=false) (h:f e σ = .ok v σ1) (k:jD f es σ1 = .ok vs σ2):jD f (e :: es) σ = .ok (v :: vs) σ2:=by
 show (if isStar e=false then f e >>= fun v=>jD f es >>= fun vs=>pure (v :: vs) else Mo.fail:Mo (List V)) σ=_;rw[aA h0];exact rb h (rb k rfl)
theorem GQ {e1 e2:Expr} {p:Pos} {b:Bool} (h1:(ev P n).T sc e1 σ = .ok true σ) (h2:(ev P n).T sc e2 σ = .ok b σ):(ev P (n+1)).T sc (.BoolOp .And [e1,e2] p) σ = .ok b σ:=
 rb h1 (rb h2 (by cases b<;>rfl))
theorem Jm {e1:Expr} {es:List Expr} {p:Pos} (h1:(ev P n).T sc e1 σ = .ok false σ):(ev P (n+1)).T sc (.BoolOp .And (e1 :: es) p) σ = .ok false σ:=rb h1 rfl
theorem tO {x:Str} {px p:Pos} {e:Expr} {a b v:V} (h1:UJ x σ = .ok a σ) (h2:(ev P n).E sc e σ = .ok b σ) (h3:yL a b σ = .ok v σ1) (k:o9 x v σ1 = .ok () σ2):fk (Kf P) (ev P n) sc (.AugAssign (.Name x px) .Add e p) σ = .ok .next σ2:=
 rb h1 (rb h2 (rb h3 (rb k rfl)))
theorem Q6 {f:Expr→Mo Bool} {e:Expr} {es:List Expr} {b:Bool} (h:f e σ = .ok true σ) (k:xB f .And es σ = .ok b σ):xB f .And (e :: es) σ = .ok b σ:=rb h k
theorem aiD {f:Expr→Mo Bool} {e:Expr} {es:List Expr} (h:f e σ = .ok false σ):xB f .And (e :: es) σ = .ok false σ:=rb h rfl
theorem Ww {es:List Expr} {p:Pos} {b:Bool} (h:xB ((ev P n).T sc) .And es σ = .ok b σ):(ev P (n+1)).T sc (.BoolOp .And es p) σ = .ok b σ:=h
theorem eq_int {a b:Int}:rF .Eq (.p (.int a)) (.p (.int b)) σ = .ok (.p (.bool (a==b))) σ:=by rfl'
theorem aa9 {t:Mo Bool} {b:Mo Fl} {k:Nat} (h:t σ = .ok false σ):lS t b (k+1) σ = .ok .next σ:=rb h rfl
theorem HH {t:Mo Bool} {b:Mo Fl} {k:Nat} {r:Res Fl} (h:t σ = .ok true σ) (hb:b σ = .ok .next σ1) (hk:lS t b k σ1=r):lS t b (k+1) σ=r:=rb h (rb hb hk)
theorem C8 {t:Expr} {b:List Stmt} {p:Pos} {r:Res Fl} (k:lS ((ev P n).T sc t) ((ev P n).B sc b) 4096 σ=r):fk (Kf P) (ev P n) sc (.While t b [] p) σ=r:=k
theorem cR {a:Addr} {us:List V} {Xg:Ev} (h:((a != 811)&&(defAt (Kf P) a).isSome)=true):jL (Kf P) Xg (.p (.adr a)) us [] σ=Xg.C a us [] σ:=by
 rw[aR,JS] at h;show E3 (Kf P) Xg a us [] σ=_;unfold E3;rw[aS h.1];refine oC (defAt (Kf P) a) (fun q=>?_) fun _ q=>?_
 ·rw[q] at h;cases h.2
 ·rfl
theorem ig {l r:Expr} {op:wZ} {p:Pos} {a b:V} {res:Res V} (h0:K6 l op r=none) (h1:(ev P n).E sc l σ = .ok a σ) (h2:(ev P n).E sc r σ = .ok b σ) (k:xN (Kf P) op a b σ=res):(ev P (n+1)).E sc (.BinOp l op r p) σ=res:=Jy h0 h1 h2 k
theorem BE {l r:Expr} {op:yC} {p:Pos} {a b:V} {res:Res V} (h0:fW op r=false) (h1:(ev P n).E sc l σ = .ok a σ) (h2:(ev P n).E sc r σ = .ok b σ) (k:rF op a b σ=res):(ev P (n+1)).E sc (.Compare l [op] [r] p) σ=res:=aaV h0 h1 h2 k
theorem gW {l r:Expr} {op:yC} {p:Pos} {a b v:V} {res:Res Bool} (h0:fW op r=false) (h1:(ev P n).E sc l σ = .ok a σ) (h2:(ev P n).E sc r σ = .ok b σ) (k:rF op a b σ = .ok v σ) (k2:tG (Kf P) v σ=res):(ev P (n+1)).T sc (.Compare l [op] [r] p) σ=res:=aa6 h0 h1 h2 k k2
theorem Av {e:Expr} {p:Pos} {b:Bool} (h:(ev P n).T sc e σ = .ok b σ):(ev P (n+1)).T sc (.UnaryOp .Not e p) σ = .ok (!b) σ:=Vx h
theorem iQ {v i:Expr} {p:Pos} {a b:V} {res:Res V} (h0:sliceOf i=none) (h1:(ev P n).E sc v σ = .ok a σ) (h2:(ev P n).E sc i σ = .ok b σ) (k:jV (Kf P) a b σ=res):(ev P (n+1)).E sc (.Subscript v i p) σ=res:=Vk h0 h1 h2 k
theorem mX {v:Expr} {lo hi st:Option Expr} {q p:Pos} {a l u t:V} {res:Res V} (h1:(ev P n).E sc v σ = .ok a σ) (h2:Hj ((ev P n).E sc) lo σ = .ok l σ) (h3:Hj ((ev P n).E sc) hi σ = .ok u σ) (h4:Hj ((ev P n).E sc) st σ = .ok t σ) (k:GJ (Kf P) a l u t σ=res):(ev P (n+1)).E sc (.Subscript v (.Slice lo hi st q) p) σ=res:=aaW h1 h2 h3 h4 k
theorem b8 {f:Expr} {args:List Expr} {p:Pos} {fv:V} {us:List V} {res:Res V} (h0:qu f=none) (h1:noStar args=true) (h2:(ev P n).E sc f σ = .ok fv σ) (h3:jD ((ev P n).E sc) args σ = .ok us σ) (k:jL (Kf P) (ev P n) fv us [] σ=res):(ev P (n+1)).E sc (.Call f args [] p) σ=res:=CZ h0 h1 h2 h3 k
theorem jn {v:Expr} {m:Str} {ap p:Pos} {args:List Expr} {o:V} {mk:MK} {us:List V} {res:Res V} (h0:BI args=none) (h1:ap.endLine=p.line∧noStar args=true∧args.length<20∧nH v=true) (h2:(ev P n).E sc v σ = .ok o σ) (h3:z5 (Kf P) o m σ=some mk) (h4:jD ((ev P n).E sc) args σ = .ok us σ)
  (k:vJ (Kf P) (ev P n) mk us σ=res):(ev P (n+1)).E sc (.Call (.Attribute v m ap) args [] p) σ=res:=NP h0 h1 h2 h3 h4 k
theorem a1 {f:Expr→Mo V} {e:Expr} {v:V} (h0:isStar e=false) (h:f e σ = .ok v σ):jD f [e] σ = .ok [v] σ:=A1 h0 h
theorem ac {f:Expr→Mo V} {e:Expr} {es:List Expr} {v:V} {vs:List V} (h0:isStar e=false) (h:f e σ = .ok v σ) (k:jD f es σ = .ok vs σ):jD f (e :: es) σ = .ok (v :: vs) σ:=Ac h0 h k
theorem fD {x:Str} {px p:Pos} {e:Expr} {v:V} (h0:PC e=none) (h1:nB e=false) (h:(ev P n).E sc e σ = .ok v σ) (k:o9 x v σ = .ok () σ2):fk (Kf P) (ev P n) sc (.Assign [.Name x px] e p) σ = .ok .next σ2:=oW h0 h1 h k
theorem nW {t:Expr} {b:List Stmt} {p:Pos} (h:(ev P (n+1)).T sc t σ = .ok false σ):fk (Kf P) (ev P (n+1)) sc (.If t b [] p) σ = .ok .next σ:=agO h
theorem vQ {t:Expr} {b e:List Stmt} {p:Pos} {r:Res Fl} (h:(ev P n).T sc t σ = .ok true σ) (k:(ev P n).B sc b σ=r):fk (Kf P) (ev P n) sc (.If t b e p) σ=r:=WY h k
theorem qP {t:Expr} {b e:List Stmt} {p:Pos} {r:Res Fl} (h:(ev P n).T sc t σ = .ok false σ) (k:(ev P n).B sc e σ=r):fk (Kf P) (ev P n) sc (.If t b e p) σ=r:=WY h k
theorem o6 {e:Expr} {p:Pos} {v:V} (h:(ev P n).E sc e σ = .ok v σ):fk (Kf P) (ev P n) sc (.Return (some e) p) σ = .ok (.ret v) σ:=Bp h
theorem Wr {x:Str} {px p:Pos} {it:Expr} {b:List Stmt} {u:V} {vs:List Mine.P} {r:Res Fl} (h1:mz it=false) (h:(ev P n).E sc it σ = .ok u σ) (hu:ux u=some vs) (k:j0 x ((ev P n).B sc b) vs σ=r):fk (Kf P) (ev P n) sc (.For (.Name x px) it b [] p) σ=r:=yH h1 h hu k
theorem vP {t:Expr} {b:List Stmt} {p:Pos} (h:(ev P n).T sc t σ = .ok false σ):fk (Kf P) (ev P n) sc (.While t b [] p) σ = .ok .next σ:=N4 h
section
variable {aP:List Ob} {x:Str} {ifs:Mo Bool} {elt:Mo V} {L:Mine.P→List (Str × Sl)} {t:Mine.P→Bool} {f:Mine.P→Mine.P} {nx:Nat→St→Option (Option Mine.P)} {vs:List Mine.P}
theorem Bv (NH:∀ i l,nx i ⟨l,aP,.no⟩=some vs[i]?) (hL:∀ u v,o9 x (.p v) ⟨L u,aP,.no⟩ = .ok () ⟨L v,aP,.no⟩) (kC:vs.length≤2 ^ 20)
  (hi:∀ v∈vs,ifs ⟨L v,aP,.no⟩ = .ok (t v) ⟨L v,aP,.no⟩) (he:∀ v∈vs,t v=true→elt ⟨L v,aP,.no⟩ = .ok (.p (f v)) ⟨L v,aP,.no⟩) :
  ∀ (d i:Nat) (l:List (Str × Sl)),i+d=vs.length→(∀ v,o9 x (.p v) ⟨l,aP,.no⟩ = .ok () ⟨L v,aP,.no⟩)→∃ l',jf nx x ifs elt (d+1) i ⟨l,aP,.no⟩ = .ok (((vs.drop i).filter t).map f) ⟨l',aP,.no⟩:=by
 intro d;induction d with
 | zero =>
  intro i l hid _;refine ⟨l,?_⟩;show (match nx i ⟨l,aP,.no⟩ with
   | some (some v)=>_
   | some none=>if Hn.no=Hn.no then Res.ok [] ⟨l,aP,.no⟩ else .fail
   | none=>.fail)=_
  rw[NH,cC.mpr (by exact cU (id (iI hid))),rW (by exact cU (id (iI hid)))];rfl
 | succ d ih =>
  intro i l hid hw;have kL:i<vs.length:=by exact Mq (zA hid)
  have hg:vs[i]?=some vs[i]:=bS kL;have hm:vs[i]∈vs:=yE kL;have hd:vs.drop i=vs[i] :: vs.drop (i+1):=iB kL;generalize vs[i]=v at hg hm hd;refine eU (ih (i+1) (L v) (by exact zQ (IG (zA hid)) (Ua (zG hid))) (hL v)) fun l' Mc=>?_;refine ⟨l',?_⟩;unfold jf;rw[NH,hg];refine rb (hw v) (rb (hi v hm) ?_);rw[hd,iW];refine bC (t v) (fun ht=>?_) fun ht=>?_
  ·refine rb (he v hm ht) ?_
   show (if i≤2 ^ 20 then jf nx x ifs elt (d+1) (i+1) >>= fun ps=>pure (f v :: ps) else Mo.fail:Mo (List Mine.P)) _=_;rw[aA (by exact rM (.g (.a au (.s aE)) aT (.g aT (.n 1048576) .e)) au (.n 1048576) zC (zA hid) kC)];exact rb Mc rfl
  ·exact Mc
theorem Fx {cK:bV} {x:Str} {ifs:Mo Bool} {elt:Mo V} {u:V} {nx:Nat→St→Option (Option Mine.P)} {k:Nat} {loc l:List (Str × Sl)} {hn:Hn} {aP:List Ob} {ps:List Mine.P} {mG:St} (h5:srcOf u ⟨loc,aP,hn⟩=some (nx,k)) (h3:dX loc cK.names=some l) (e:jf nx x ifs elt (k+1) 0 ⟨l,aP,hn⟩ = .ok ps mG):r7 cK x ifs elt u ⟨loc,aP,hn⟩ = .ok ps ⟨loc,mG.aP,hn⟩:=by
 delta r7 Yh;rw[h5];show (match dX loc cK.names with
  | some l=>JQ loc hn (jf nx x ifs elt (k+1) 0 ⟨l,aP,hn⟩)
  | none=>.fail)=_
 rw[h3];show JQ loc hn (jf nx x ifs elt (k+1) 0 ⟨l,aP,hn⟩)=_;rw[e];rfl
theorem yS {iter:Expr} {Mi:List Expr} {rG:Expr} {px:Pos} {cK:bV} {u:V} {loc l:List (Str × Sl)} (h1:mz iter=false) (h2:oj cK x=true) (h3:dX loc cK.names=some l) (h4:(ev P n).E sc iter ⟨loc,aP,.no⟩ = .ok u ⟨loc,aP,.no⟩)
  (h5:srcOf u ⟨loc,aP,.no⟩=some (nx,vs.length)) (NH:∀ i l,nx i ⟨l,aP,.no⟩=some vs[i]?) (hw:∀ v,o9 x (.p v) ⟨l,aP,.no⟩ = .ok () ⟨L v,aP,.no⟩) (hL:∀ u v,o9 x (.p v) ⟨L u,aP,.no⟩ = .ok () ⟨L v,aP,.no⟩) (kC:vs.length≤2 ^ 20)
  (hi:∀ v∈vs,vj ((ev P n).T (nI sc cK)) Mi ⟨L v,aP,.no⟩ = .ok (t v) ⟨L v,aP,.no⟩) (he:∀ v∈vs,t v=true→(ev P n).E (nI sc cK) rG ⟨L v,aP,.no⟩ = .ok (.p (f v)) ⟨L v,aP,.no⟩) :
  Mine.comp (ev P n) sc rG [⟨.Name x px,iter,Mi,0⟩] cK ⟨loc,aP,.no⟩ = .ok (.lst ((vs.filter t).map f)) ⟨loc,aP,.no⟩:=by
 refine eU (Bv NH hL kC hi he vs.length 0 l (fy _) hw) fun l' e=>?_;show yR (ev P n) sc rG cK x iter Mi ⟨loc,aP,.no⟩=_;unfold yR;rw[aA ⟨h1,h2,by rw[h3];rfl⟩];exact rb h4 (rb (Fx h5 h3 e) rfl)
end
theorem ud {a:Addr} {us:List V} {fl:Fl} {x:Mine.P} (h:eS (Kf P) (ev P n) a us [] σ = .ok fl σ1) (hv:qN fl = .p x) (hl:gG σ.aP.length σ1.aP=true) (ht:σ1.aP.take σ.aP.length=σ2.aP) (h2:σ2.loc=σ.loc) (h3:σ2.dw=σ.dw):(ev P (n+1)).C a us [] σ = .ok (.p x) σ2:=by
 show (match eS (Kf P) (ev P n) a us [] σ with
 | .ok fl σ'=>i7 σ σ' (qN fl)
 | _=>.fail)=_
 rw[h];show i7 σ σ1 (qN fl)=_;rw[hv];unfold i7;rw[aA hl,aA (show V.lt _ (.p x)=true from by rw[V.lt]),ht];obtain ⟨_,_,_⟩:=σ2;simp only at h2 h3;rw[h2,h3]
end
section
variable {P:ai} {n:Nat}
noncomputable def S (l:List Nat):Str:=⟨l.toArray⟩
noncomputable def AU:List Nat:=[97,98,61,39,32,9,233,37]
noncomputable def Rw:List (List Nat):=AU.map fun a=>[a]
noncomputable def Rx:List (List Nat):=AU.flatMap fun a=>Rw.map fun w=>a :: w
noncomputable def aac:List (List Nat):=AU.flatMap fun a=>Rx.map fun w=>a :: w
noncomputable def d8:List (List Nat):=[] :: (Rw++(Rx++aac))
noncomputable def Ws (c:Nat):Bool:=c==97||c==98||c==61||c==37
noncomputable def b9 (w:List Nat):List Nat:=if w.isEmpty=true then [39,39] else if w.all Ws=true then w else 39 :: (w.flatMap fun c=>if c==39 then [39,34,39,34,39] else [c])++[39]
noncomputable def fO (w:List Nat):Nat:=w.length+2*((w.filter (· == 61)).length+(w.filter (· == 233)).length)+4*(w.filter (· == 39)).length+(if w.all Ws=true∧w.isEmpty=false then 0 else 2)
noncomputable def mapA {α β : Type} (f:α→β):List α→List β
 | []=>[]
 | x :: r=>f x :: mapA f r
noncomputable def Uh {α β : Type} (f:α→β):List α→List β
 | []=>[]
 | x :: r=>f x :: Uh f r
theorem PT {α β : Type} {f g:α→β}:∀ {l:List α},mapA f l=Uh g l→∀ x∈l,f x=g x
 | x :: l,h,y,hy=>by
  injection h with h1 h2;rcases av.mp hy with rfl | hy
  ·exact h1
  ·exact PT h2 y hy
theorem MR (T:List Ob):mapA (fun w=>eS (Kf P) (ev P (n+12)) 818 [.p (.str (S w))] [] ⟨[],T,.no⟩) d8=Uh (fun w=>.ok (.ret (.p (.str (S (b9 w))))) ⟨[("s",.val (.p (.str (S w))))],T,.no⟩) d8:=by rfl'
theorem Z9 {α β : Type} {f g:α→β}:∀ (k:Nat) {l:List α},mapA f (l.take k)=Uh g (l.take k)→mapA f (l.drop k)=Uh g (l.drop k)→mapA f l=Uh g l
 | 0,_,_,h=>h
 | _+1,[],_,_=>rfl
 | k+1,x :: l,h,h2=>by
  injection h with a b;show f x :: mapA f l=g x :: Uh g l;rw[a,Z9 k b h2]
noncomputable abbrev akG (P:ai) (n:Nat) (T:List Ob) (w:List Nat):Res Fl:=eS (Kf P) (ev P (n+12)) 835 [.p (.str (S w))] [] ⟨[],T,.no⟩
noncomputable abbrev akI (T:List Ob) (w:List Nat):Res Fl:=.ok (.ret (.p (.int (fO w)))) ⟨[("word",.val (.p (.str (S w)))),("width",.val (.p (.int (fO w))))],if w.isEmpty=true then T else T++[.list []],.no⟩
noncomputable def abB (k:Nat):List (List Nat)→List (List Nat):=fun l=>k.rec l fun _ r=>r.drop 98
noncomputable abbrev aaj (P:ai) (n:Nat) (g a b c d e:Ob) (k:Nat):Prop:=mapA (akG P n [g,a,b,c,d,e]) ((abB k d8).take 98)=Uh (akI [g,a,b,c,d,e]) ((abB k d8).take 98)
theorem aky (g a b c d e:Ob):aaj P n g a b c d e 0:=by rfl'
theorem akz (g a b c d e:Ob):aaj P n g a b c d e 1:=by rfl'
theorem akA (g a b c d e:Ob):aaj P n g a b c d e 2:=by rfl'
theorem akC (g a b c d e:Ob):aaj P n g a b c d e 3:=by rfl'
theorem akD (g a b c d e:Ob):aaj P n g a b c d e 4:=by rfl'
theorem akE (g a b c d e:Ob):aaj P n g a b c d e 5:=by rfl'
theorem Ng (g a b c d e:Ob):mapA (fun w=>eS (Kf P) (ev P (n+12)) 835 [.p (.str (S w))] [] ⟨[],[g,a,b,c,d,e],.no⟩) d8=Uh (fun w=>.ok (.ret (.p (.int (fO w)))) ⟨[("word",.val (.p (.str (S w)))),("width",.val (.p (.int (fO w))))],if w.isEmpty=true then [g,a,b,c,d,e] else [g,a,b,c,d,e,.list []],.no⟩) d8:=
 Z9 98 (aky g a b c d e) (Z9 98 (akz g a b c d e) (Z9 98 (akA g a b c d e) (Z9 98 (akC g a b c d e) (Z9 98 (akD g a b c d e) (Z9 98 (akE g a b c d e) rfl)))))
end
section
variable {P:ai} {n:Nat} {σ:St}
theorem FT {s:Str} {i:Int} {c:Nat} (h0:0≤i) (h1:i<s.length) (hz:s.length≤2 ^ 40) (hc:s.cps[i.toNat]?=some c):jV (Kf P) (.p (.str s)) (.p (.int i)) σ = .ok (.p (.str ⟨#[c]⟩)) σ:=by
 show (if mY i then FQ (Kf P) (.p (.str s)) i else Mo.fail:Mo V) σ=_;rw[aA (by unfold mY;rw[mK,show (2:Int) ^ 62=4611686018427387904 from by decide];exact ⟨(zI [i] 0 (.g i6 bH .e) (.num (-4611686018427387904)) bH zC h0),(zI [i,↑s.length] 0 (.g (.add bH eB) cQ (.g cQ (.num 1099511627776) .e)) (.add bH eB) (.num 4611686018427387904) zC h1 (zO hz))⟩)];show Mo.get ((idx i s.length).bind (s.cps[·]?)) (fun c=>(pure (.p (.str ⟨#[c]⟩)):Mo V)) σ=_;have e:idx i s.length=some i.toNat:=by
  delta idx jz;rw[aS (show ¬ i<0 by exact Int.not_lt_of_ge h0)];rw[aA (by rw[aR,br,br];exact ⟨h0,h1⟩)]
 rw[e];show Mo.get s.cps[i.toNat]? _ σ=_;rw[hc];rfl
noncomputable def chK (x:Int) (k:Nat):Nat:=AU[(((x.fdiv 4).fdiv (8 ^ k)).fmod 8).toNat]?.getD 0
theorem JT (x:Int) (k:Nat):chK x k∈AU∧AU[(((x.fdiv 4).fdiv (8 ^ k)).fmod 8).toNat]?=some (chK x k):=by
 have h1:=pH ((x.fdiv 4).fdiv (8 ^ k)) (show (0:Int)<8 by decide);have h2:=mH ((x.fdiv 4).fdiv (8 ^ k)) (show (0:Int)<8 by decide);unfold chK;generalize ((x.fdiv 4).fdiv (8 ^ k)).fmod 8=y at h1 h2;have hy:y.toNat<AU.length:=(JA h2).mpr h1;rw[bS hy];exact ⟨yE hy,rfl⟩
theorem Mx:∀ {w:List Nat},(∀ c∈w,c∈AU)→w.length≤3→w∈d8
 | [],_,_=>.head _
 | [a],h,_=>.tail _ (af _ (bP (h a (.head _))))
 | [a,b],h,_=>.tail _ (aa _ (af _ (rC.mpr ⟨a,h a (.head _),bP (bP (h b (.tail _ (.head _))))⟩)))
 | [a,b,c],h,_=>.tail _ (aa _ (aa _ (rC.mpr ⟨a,h a (.head _),bP (rC.mpr ⟨b,h b (.tail _ (.head _)),bP (bP (h c (.tail _ (.tail _ (.head _)))))⟩)⟩)))
 | _ :: _ :: _ :: _ :: _,_,h=>by simp at h
noncomputable def Lm (x:Int) (m:Nat):List Nat:=(b4 m).map (chK x)
theorem Ni (x:Int) {m:Nat} (h:m≤3):Lm x m∈d8:=by
 refine Mx (fun c hc=>?_) (by unfold Lm;simpa using h);refine bU (aX.mp hc) fun k _ afR=>?_;obtain rfl:=afR;exact (JT x k).1
noncomputable def qO (a b:Int):List Mine.P:=(b4 (b - a).toNat).map fun (i:Nat)=>Mine.P.int (a+i)
theorem Qu {a b:Int}:(qO a b).length=(b - a).toNat:=by unfold qO;rw[aM,fK]
theorem Ld {a b:Int} (h1 : -1000≤a) (h2:a≤1000) (h3 : -1000≤b) (h4:b≤1000):srcOf (.p (.rj a b 1)) σ=some (fun i _=>some (qO a b)[i]?,(qO a b).length):=by
 have e:sF a b 1=some (qO a b):=by
  delta sF qO;rw[aA (by rw[show (2:Int) ^ 60=1152921504606846976 from by decide];exact ⟨(zI [a] 0 (.g (.num (-1000)) bH .e) (.num (-1152921504606846976)) bH zC h1),⟨(zI [a] 0 (.g bH (.num 1000) .e) bH (.num 1152921504606846976) zC h2),⟨(zI [b] 0 (.g (.num (-1000)) bH .e) (.num (-1152921504606846976)) bH zC h3),(zI [b] 0 (.g bH (.num 1000) .e) bH (.num 1152921504606846976) zC h4)⟩⟩⟩),aA rfl]
 show (sF a b 1).map _=_;rw[e];rfl
theorem Ay {k:Nat} (g a b c d:Ob) (x:Int) (hk:k<3) {sc:bV} {e:Expr} {p q:Pos} {z:Nat} (he:(ev P (n+16)).E sc e ⟨[(".0",.unset),("k",.val (.p (.int (0+k)))),("n",.cell 5)],[g,a,b,c,d,.cell (some (.p (.int x)))],.no⟩ = .ok (.p (.int (((x.fdiv 4).fdiv (8 ^ k)).fmod 8))) ⟨[(".0",.unset),("k",.val (.p (.int (0+k)))),("n",.cell 5)],[g,a,b,c,d,.cell (some (.p (.int x)))],.no⟩) (h0:sliceOf e=none) :
  (ev P (n+17)).E sc (.Subscript (.Constant (.str "ab=' \té%") z p) e q) ⟨[(".0",.unset),("k",.val (.p (.int (0+k)))),("n",.cell 5)],[g,a,b,c,d,.cell (some (.p (.int x)))],.no⟩ = .ok (.p (.str (S [chK x k]))) ⟨[(".0",.unset),("k",.val (.p (.int (0+k)))),("n",.cell 5)],[g,a,b,c,d,.cell (some (.p (.int x)))],.no⟩:=by
 have h1:=pH ((x.fdiv 4).fdiv (8 ^ k)) (show (0:Int)<8 by decide);have h2:=mH ((x.fdiv 4).fdiv (8 ^ k)) (show (0:Int)<8 by decide);have hs:("ab=' \té%":Str)=S AU:=by rfl'
 refine Vk h0 (a:=.p (.str (S AU))) (by rw[hs];rfl) he (FT h2 h1 (by decide) ?_);exact JC.trans (JT x k).2
theorem Nj {l:List (Str × Sl)} (g a b c d:Ob) (x:Int):∃ m,m≤3∧eS (Kf P) (ev P (n+20)) 830 [.p (.int x)] [] ⟨l,[g,a,b,c,d],.no⟩ =
  .ok (.ret (.p (.str (S (Lm x m))))) ⟨[("n",.cell 5)],[g,a,b,c,d,.cell (some (.p (.int x)))],.no⟩:=by
 have h1:=pH x (show (0:Int)<4 by decide);have h2:=mH x (show (0:Int)<4 by decide);obtain ⟨m,hm⟩:∃ m:Nat,x.fmod 4=m:=⟨(x.fmod 4).toNat,(vY h2).symm⟩;have hm3:m≤3:=by exact zU (zI [↑m,x.fmod 4] 0 (.g bH cQ (.g (.add cQ eB) (.num 4) .e)) bH (.num 3) zC (zg hm) h1)
 refine ⟨m,hm3,?_⟩;have e:eS (Kf P) (ev P (n+20)) 830 [.p (.int x)] [] ⟨l,[g,a,b,c,d],.no⟩=(ev P (n+20)).B (fM P 830).1.scope (fM P 830).2 ⟨[("n",.cell 5)],[g,a,b,c,d,.cell (some (.p (.int x)))],.no⟩:=by rfl'
 rw[e];refine kN (Bp (NP rfl ⟨rfl,rfl,by decide,rfl⟩ (o:=.p (.str "")) rfl (mk:=.txt "" "str.join") (by rfl') (A1 rfl (rb (yS (x:="k") (u:=.p (.rj 0 (x.fmod 4) 1)) (l:=[(".0",.unset),("k",.unset),("n",.cell 5)]) (L:=fun v=>[(".0",.unset),("k",.val (.p v)),("n",.cell 5)])
  (vs:=qO 0 m) (nx:=fun i _=>some (qO 0 m)[i]?) (t:=fun _=>true)
  (f:=fun v=>match v with | .int k=>.str (S [chK x k.toNat]) | _=>.none) rfl (by rfl') (by rfl') (by rfl') (by rw[hm];exact Ld (by exact Int.neg_ofNat_le_ofNat 1000 0) (by exact Sp 1000) (by exact qY 1000 m) (by exact zI [↑m,x.fmod 4] 0 (.g bH cQ (.g (.add cQ eB) (.num 4) .e)) bH (.num 1000) zC (zg hm) h1)) (fun _ _=>rfl) (fun _=>by rfl') (fun _ _=>by rfl') (by rw[Qu];exact ay (cU (aK AF (Jz (m:Int)))) (ay hm3 (by decide))) (fun _ _=>rfl) ?_) rfl)) ?_))
 ·intro v hv _
  refine bU (aX.mp hv) fun k hk afS=>?_;obtain rfl:=afS;have hk:k<3:=di (dF.mp hk) (ay (cU (aK AF (Jz (m:Int)))) hm3);rcases k with _ | _ | _ | k
  ·exact Ay (k:=0) g a b c d x hk (by rfl') rfl
  ·exact Ay (k:=1) g a b c d x hk (by rfl') rfl
  ·exact Ay (k:=2) g a b c d x hk (by rfl') rfl
  ·exact (z0 [_] (.g (.s (.s (.s (.s au)))) (.n 3) .e) zC hk).elim
 ·rcases m with _ | _ | _ | _ | m
  ·rfl'
  ·rfl'
  ·rfl'
  ·rfl'
  ·exact (z0 [_] (.g (.s (.s (.s (.s au)))) (.n 3) .e) zC hm3).elim
end
section
variable {P:ai} {n:Nat} {σ:St}
theorem yG (a b:List Nat):S a++S b=S (a++b):=by
 show (⟨a.toArray++b.toArray⟩:Str)=⟨(a++b).toArray⟩;rw[List.append_toArray]
theorem gw (l:List Nat):(S l).length=l.length:=xH ..
theorem JL (l:List Nat) (i:Nat):(S l).cps[i]?=l[i]?:=JC ..
theorem qL {α : Type} {l:List α} {s:Nat}:∀ {c:Nat},s+c≤l.length→((b4 c).map fun (k:Nat)=>((s:Int)+1*(k:Int)).toNat).filterMap (l[·]?)=(l.drop s).take c
 | 0,_=>by simp
 | c+1,h=>by
  rw[sM,aV,List.filterMap_append,qL (by exact bk h),C2];congr 1;have e:((s:Int)+1*(c:Int)).toNat=s+c:=by rw[Int.one_mul];exact rfl
  simp only [cZ,List.map_nil,e,NU];refine oC (l[s+c]?) (fun q=>?_) fun v q=>?_
  ·rw[cC] at q;exact (z0 [_,_,_] (.g (.a au (.s aE)) aT (.g aT (.a au aE) .e)) zC h q).elim
  ·simp [q]
set_option tactic.hygienic true in
theorem yw {l:List Nat} {i j:Nat} (h:i≤j) (hj:j≤l.length):jK (S l) (some (i:Int)) (some (j:Int))=S ((l.drop i).take (j - i)):=by
 have e:iO (some (i:Int)) (some (j:Int)) 1 (S l).length=(b4 (j - i)).map fun (k:Nat)=>((i:Int)+1*(k:Int)).toNat:=by
  delta iO ru;rw[gw];simp only [aS (show ¬ (i:Int)<0 by exact fQ i),aS (show ¬ (j:Int)<0 by exact fQ j),show (1:Int)>0 from by decide,gz];rw[mxJ (ay h hj),mxJ hj];congr 2;exact rgL i j
 unfold jK;rw[e,show (fun x=>(S l).cps[x]?)=fun x=>l[x]? from funext fun x=>JL l x,qL (by exact acC (zB h) hj),aM,fK,gw];split
 ·rename_i c
  simp only [aR,beq_iff_eq] at c;rw[show i=0 by exact zQ (xV (.g (.a aE au) aT (.g aT bX (.g bX aE .e))) au gR zC (zB h) hj (zG c.2)) (uM .e gR au zC ),show j=l.length by exact zQ hj (Km (zG c.2) (aI _ _)),j5,oV,dG]
 ·rfl
theorem MX {l:List Nat}:jK (S l) (some 0) none=S l:=by
 have e:=yw (l:=l) (i:=0) (j:=l.length) (by exact d7 l.length) (aB _);rw[j5,oV,dG] at e;refine EK ?_ e;have e2:iO (some (0:Int)) none 1 (S l).length=iO (some ((0:Nat):Int)) (some (l.length:Int)) 1 (S l).length:=by
  dsimp only [iO];rw[gw];simp only [aS (show ¬ (l.length:Int)<0 by exact fQ l.length),show (1:Int)>0 from by decide,gz];rw[show max 0 (min (l.length:Int) l.length)=l.length by exact zq (zI [max 0 (min ↑l.length ↑l.length),↑l.length,min ↑l.length ↑l.length] 0 (.g bH jg (.g jg cQ .e)) bH cQ zC (ziy (zI [min ↑l.length ↑l.length,↑l.length] 0 (.g cQ bH (.g i6 cQ .e)) i6 bH zC (zin (zI [↑l.length] 0 .e bH bH zC )) (zW _))) (Int.min_le_left _ _)) (zI [↑l.length,max 0 (min ↑l.length ↑l.length),min ↑l.length ↑l.length] 0 (.g bH jg (.g jg cQ .e)) bH cQ zC (zin (zI [↑l.length] 0 .e bH bH zC )) (Int.le_max_right _ _))];rfl
 unfold jK;rw[e2]
theorem Jg {l:List Nat} (h:l≠[]):jK (S l) none (some (-1))=S l.dropLast:=by
 have hl:0<l.length:=oM.mpr h;have e:=yw (l:=l) (i:=0) (j:=l.length - 1) (by exact d7 (l.length - 1)) (by exact aI l.length 1);rw[j5,oV,← List.dropLast_eq_take] at e;refine EK ?_ e;have e2:iO none (some (-1)) 1 (S l).length=iO (some ((0:Nat):Int)) (some ((l.length - 1:Nat):Int)) 1 (S l).length:=by
  dsimp only [iO];rw[gw];simp only [aS (show ¬ ((l.length - 1:Nat):Int)<0 by exact fQ (l.length - 1)),aS (show ¬ ((0:Nat):Int)<0 by exact fQ 0),show (1:Int)>0 from by decide,show (-1:Int)<0 from by decide,gz];rw[show max 0 (min (((l.length - 1:Nat)):Int) l.length)=max 0 (min (-1+(l.length:Int)) l.length) by rw[mxK hl],show max 0 (min (((0:Nat)):Int) l.length)=0 by exact Int.max_self 0]
 unfold jK;rw[e2]
theorem B3 {l:List Nat} (h0:l≠[]) (h:∀ c∈l,fG c=false):uU (S l)=[S l]:=by
 have hl:0<l.length:=oM.mpr h0;have run:∀ (m cur:Nat),cur+m≤l.length→Id.run (forIn (m:=Id) (bg cur m) ((#[],0):StrLaws.LsSt) (RO (S l)))=(#[],0):=by
  intro m;induction m with
  | zero=>intro _ _;rfl
  | succ m ih =>
   intro cur hm;rw[Sw,jC];have hc:fG ((S l).cps.getD cur 0)=false:=by
    have e:(S l).cps.getD cur 0=l[cur]:=by
     rw[oJ,JL,bS (by exact JG hm)];rfl
    rw[e];exact h _ (yE _)
   dsimp only [RO];rw[hc,WI];exact ih (cur+1) (by exact IG hm)
 delta uU B0;rw[StrLaws.ls_eq,gw,run l.length 0 (by exact uM .e (.a gR au) au zC )];unfold StrLaws.lsEnd;rw[aA (by rw[gw];exact hl)];show [strSub (S l) 0 (S l).length]=_;unfold strSub;congr 2;show l.toArray.extract 0 l.length=l.toArray;have:l.length=l.toArray.size:=(xH ..).symm;rw[this,Array.extract_size]
theorem Aq {q:List Nat} {c:Nat} (hc:bz c=false):t8 bz true false (S (32 :: c :: q))=false∧l9 bz true false (S (32 :: c :: q))=S (c :: q):=by
 have e:stripLo bz true (S (32 :: c :: q))=1:=by
  show (j8 bz (32 :: c :: q)).length=1;rw[List.takeWhile_cons_of_pos rfl,C1 (by rw[hc];decide)];rfl
 constructor
 ·skip
  rfl
 ·unfold l9
  rw[e];delta stripHi strSub;show (⟨(32 :: c :: q).toArray.extract 1 (32 :: c :: q).toArray.size⟩:Str)=⟨(c :: q).toArray⟩;congr 1;apply rN;rw[Jx];simp
theorem GN {l:List Nat} (h:∀ c,l.getLast?=some c→bz c=false):t8 bz false true (S l)=true:=by
 delta t8 stripLo stripHi;show (0==0&&((S l).length - (j8 bz l.reverse).length==(S l).length))=true;have:j8 bz l.reverse=[]:=by
  refine lC (l.reverse) (fun q=>?_) fun c r q=>?_
  ·rfl
  ·refine C1 ?_
   rw[h c (by rw[← List.head?_reverse,q];rfl)];decide
 rw[this];simp
theorem J5 {ts:List (List Nat)}:BK (S [32]) (ts.map S)=S (eL ts):=by
 have key:∀ (r:List (List Nat)) (acc:List Nat),((r.map S).foldl (fun acc p=>acc++(S [32]).cps++p.cps) acc.toArray)=(acc++(r.flatMap fun q=>32 :: q)).toArray:=by
  intro r;induction r with
  | nil=>intro acc;simp
  | cons q r ih =>
   intro acc;rw[cZ,Vq];have:acc.toArray++(S [32]).cps++(S q).cps=(acc++32 :: q).toArray:=by
    show acc.toArray++[32].toArray++q.toArray=_;simp
   rw[this,ih];simp
 have jb:∀ (a:List Nat) (r:List (List Nat)),eL (a :: r)=a++r.flatMap fun q=>32 :: q:=by
  intro a r;induction r generalizing a with
  | nil=>simp [eL]
  | cons b r ih =>
   show a++32 :: eL (b :: r)=_;rw[ih];simp
 cases ts with
 | nil=>rfl
 | cons a r =>
  rw[jb];show (⟨((r.map S).foldl _ a.toArray)⟩:Str)=_;rw[key];rfl
end
section
variable {P:ai} {n:Nat} {σ:St}
noncomputable def pT:List Nat:=[97,98,61,39,32,9,233,37,34]
noncomputable def encC (c:Nat):List Nat:=if c=61 then [61,51,68] else if c=233 then [61,69,57] else [c]
noncomputable def encL (l:List Nat):List Nat:=l.flatMap encC
noncomputable def HY (P:ai):List Mine.P:=(((Gg (Kf P) 84).getD []).mapM EE).getD []
theorem Tc:iE (Kf P) (.p (.adr 84)) σ = .ok (HY P) σ:=by rfl'
theorem S9:∀ c∈pT,(HY P)[c]?=some (.str (S (encC c))):=by
 intro c hc;simp only [pT,av,ng,KZ] at hc;refine O9 hc ?_ ?_ ?_ ?_ ?_ ?_ ?_ ?_ ?_<;>rfl'
theorem vh {α β γ : Type} {f:α→Option β} {g : γ→α} {k : γ→β} {l:List γ} (h:∀ c∈l,f (g c)=some (k c)):C9 f (l.map g)=some (l.map k):=by
 induction l with
 | nil=>rfl
 | cons c l ih =>
  show (f (g c)).bind _=_;rw[h c (.head _)];rw[ih fun x hx=>h x (.tail _ hx)];rfl
theorem adM {l:List Nat} (h:∀ c∈l,c∈pT):Z5 (HY P) l=some (l.map fun c=>S (encC c)):=by
 have:=vh (f:=fun ch=>((HY P)[ch]?).bind QX) (g:=id) (k:=fun c=>S (encC c)) fun c hc=>by
  show ((HY P)[c]?).bind QX=_;rw[S9 c (h c hc)];rfl
 rw[List.map_id] at this;exact this
theorem GY {l:List Nat} (h:∀ c∈l,c∈pT) (hz:l.length≤2 ^ 16):D7 (Kf P) (S l) "str.translate" [.p (.adr 84)] σ = .ok (.p (.str (S (encL l)))) σ:=by
 have e:D7 (Kf P) (S l) "str.translate" [.p (.adr 84)] σ=U3 (Kf P) (S l) (.p (.adr 84)) σ:=by rfl'
 refine rb Tc ?_;rw[show (S l).cps.toList=l from rfl,adM h];have Tu:((l.map fun c=>S (encC c)).all fun t=>decide (t.length≤16))=true:=by
  rw[List.all_map,cG];intro c _;show decide ((S (encC c)).length≤16)=true;rw[gw,mK];unfold encC;split
  ·decide
  ·split<;>simp
 show (if _ then _ else _:Mo V) σ=_;rw[aA ⟨by rw[gw];exact hz,show (HY P).length≤2 ^ 16 from by
  rw[show (HY P).length=256 from by rfl'];decide,Tu⟩]
 have e2:(l.map fun c=>S (encC c)).flatMap (fun t=>t.cps.toList)=encL l:=by
  rw[List.flatMap_map];rfl
 rw[e2];rfl
theorem JM {sc:bV} {e:Expr} {l:List Nat} {σ1:St} (hE:(ev P (n+1)).T sc e=Nd (Kf P) (ev P n) sc e) (h:(ev P n).E sc e σ = .ok (.p (.str (S l))) σ1) (hz:l.length≤2 ^ 20):(ev P (n+1)).T sc e σ = .ok (!l.isEmpty) σ1:=by
 rw[hE];refine rb h ?_;show (if (S l).length≤aZ then pure (((S l).length:Int) != 0) else Mo.fail:Mo Bool) σ1=_;have hs:aZ=2 ^ 24:=rfl;rw[gw,aA (by exact fc hz)];cases l<;>rfl
theorem Kr {l:List Nat} (h0:l≠[]) (h:∀ c∈l,fG c=false) (hz:l.length≤2 ^ 20):D7 (Kf P) (S l) "str.splitlines" [] σ = .ok (.p (.lst [.str (S l)])) σ:=by
 have e:D7 (Kf P) (S l) "str.splitlines" [] σ=(if (S l).length≤2 ^ 20∧(B0 (S l)).length≤2 ^ 20 then pure (.p (.lst ((uU (S l)).map Mine.P.str))) else Mo.fail:Mo V) σ:=by rfl'
 have hc:(B0 (S l)).length=1:=by
  have:=aK aN (B3 h0 h);unfold uU at this
  rwa [aM] at this
 rw[e,aA ⟨by rw[gw];exact hz,by rw[hc];decide⟩,B3 h0 h];rfl
theorem zR {l:List Nat} (hz:l.length≤2 ^ 20):jL (Kf P) (ev P n) (.p (.bi "len")) [.p (.str (S l))] [] σ = .ok (.p (.int l.length)) σ:=by
 have e:jL (Kf P) (ev P n) (.p (.bi "len")) [.p (.str (S l))] [] σ=(if (S l).length≤aZ then pure (.p (.int (S l).length)) else Mo.fail:Mo V) σ:=by rfl'
 have hs:aZ=2 ^ 24:=rfl;rw[e,gw,aA (by exact fc hz)];rfl
theorem IJ {l:List Nat} {c:Nat} (hz:l.length≤2 ^ 20) (h:l.getLast?=some c):jV (Kf P) (.p (.str (S l))) (.p (.int (-1))) σ = .ok (.p (.str (S [c]))) σ:=by
 show Mo.get ((idx (-1) (S l).length).bind ((S l).cps[·]?)) (fun c=>(pure (.p (.str ⟨#[c]⟩)):Mo V)) σ=_;have hl:0<l.length:=oM.mpr fun q=>by rw[q] at h;cases h
 have e:idx (-1) (S l).length=some (l.length - 1):=by
  delta idx jz;rw[gw];rw[aA (by rw[aR,br,br];exact ⟨(zI [↑l.length] 0 (.g (.add i6 eB) bH .e) i6 (.add (.num (-1)) bH) zC (zO hl)),(zI [↑l.length] 0 .e (.add (.add (.num (-1)) bH) eB) bH zC )⟩)];congr 1;exact tnJ hl
 rw[e];show Mo.get ((S l).cps[l.length - 1]?) _ σ=_;rw[JL,← List.getLast?_eq_getElem?,h];rfl
noncomputable def lB (body soft mx1 eb ap line start last:Sl):List (Str × Sl):=[("body",body),("maxlinelen",.val (.p (.int 500))),("eol",.val (.p (.str "\n"))),("soft_break",soft),("maxlinelen1",mx1),("encoded_body",eb),("append",ap),("line",line),("start",start),("laststart",last),("stop",.unset),("room",.unset),("q",.unset)]
noncomputable abbrev sv (l:List Nat):Sl:=.val (.p (.str (S l)))
noncomputable abbrev iv (i:Int):Sl:=.val (.p (.int i))
theorem FA {T:List Ob} {l:List (Str × Sl)} {g a b c d e:Ob} {t:List Nat} {z:Nat} (h0:t≠[]) (hal:∀ x∈t,x∈pT) (hz:(encL t).length≤500) (hzt:t.length≤500) (zh:(encL t).getLast?=some z) (TS:z=97∨z=98∨z=37∨z=39∨z=68) (hbr:∀ x∈encL t,fG x=false) (Xz:encL t≠[]) :
  ∃ l',eS (Kf P) (ev P (n+20)) 95 [.p (.str (S t)),.p (.int 500)] [] ⟨l,[g,a,b,c,d,e],.no⟩ = .ok (.ret (.p (.str (S (encL t))))) ⟨l',[g,a,b,c,d,e,.list [.str (S (encL t))]],.no⟩:=by
 have e0:eS (Kf P) (ev P (n+20)) 95 [.p (.str (S t)),.p (.int 500)] [] ⟨l,[g,a,b,c,d,e],.no⟩=(ev P (n+20)).B (fM P 95).1.scope (fM P 95).2 ⟨lB (sv t) .unset .unset .unset .unset .unset .unset .unset,[g,a,b,c,d,e],.no⟩:=by rfl'
 rw[e0];refine ⟨lB (sv (encL t)) (sv [61,10]) (iv 499) (.val (.obj 6)) (.val (.jq 6 "append")) (sv (encL t)) (iv 0) (iv ((encL t).length - 1 - 500)),?_⟩;refine aU (nW (by rfl')) ?_;have hb:(!t.isEmpty)=true:=by cases t<;>simp_all
 have he:(!(encL t).isEmpty)=true:=by cases h:encL t<;>simp_all
 refine aU (nW (by rw[Vx (JM (l:=t) rfl (by rfl') (by exact jj hzt zC)),hb];rfl)) ?_;refine aU (fD (σ2:=⟨lB (sv (encL t)) .unset .unset .unset .unset .unset .unset .unset,[g,a,b,c,d,e],.no⟩) rfl rfl (jn rfl ⟨rfl,rfl,by decide,rfl⟩ (o:=.p (.str (S t))) (by rfl') (mk:=.txt (S t) "str.translate") (by rfl') (a1 rfl (v:=.p (.adr 84)) (by rfl')) (GY (P:=P) hal (by exact jj hzt zC))) (by rfl')) ?_;refine aU (fD (σ2:=⟨lB (sv (encL t)) (sv [61,10]) .unset .unset .unset .unset .unset .unset,[g,a,b,c,d,e],.no⟩) rfl rfl (v:=.p (.str (S [61,10]))) (by rfl') (by rfl')) ?_;refine aU (fD (σ2:=⟨lB (sv (encL t)) (sv [61,10]) (iv 499) .unset .unset .unset .unset .unset,[g,a,b,c,d,e],.no⟩) rfl rfl (v:=.p (.int 499)) (by rfl') (by rfl')) ?_;refine aU (oW (σ1:=⟨lB (sv (encL t)) (sv [61,10]) (iv 499) .unset .unset .unset .unset .unset,[g,a,b,c,d,e,.list []],.no⟩) (σ2:=⟨lB (sv (encL t)) (sv [61,10]) (iv 499) (.val (.obj 6)) .unset .unset .unset .unset,[g,a,b,c,d,e,.list []],.no⟩) rfl rfl (v:=.obj 6) (by rfl') (by rfl')) ?_;refine aU (fD (σ2:=⟨lB (sv (encL t)) (sv [61,10]) (iv 499) (.val (.obj 6)) (.val (.jq 6 "append")) .unset .unset .unset,[g,a,b,c,d,e,.list []],.no⟩) rfl rfl (v:=.jq 6 "append") (by rfl') (by rfl')) ?_;refine aU (Wr rfl (jn rfl ⟨rfl,rfl,by decide,rfl⟩ (o:=.p (.str (S (encL t)))) (by rfl') (mk:=.txt (S (encL t)) "str.splitlines") (by rfl') (us:=[]) rfl (Kr (P:=P) Xz hbr (by exact jj hz zC))) rfl
  (rV (σ1:=⟨lB (sv (encL t)) (sv [61,10]) (iv 499) (.val (.obj 6)) (.val (.jq 6 "append")) (sv (encL t)) .unset .unset,[g,a,b,c,d,e,.list []],.no⟩) (by rfl') (σ2:=⟨lB (sv (encL t)) (sv [61,10]) (iv 499) (.val (.obj 6)) (.val (.jq 6 "append")) (sv (encL t)) (iv 0) (iv ((encL t).length - 1 - 500)),[g,a,b,c,d,e,.list [.str (S (encL t))]],.no⟩) ?_ (wY rfl))) ?_
 ·refine aU (fD (σ2:=⟨lB (sv (encL t)) (sv [61,10]) (iv 499) (.val (.obj 6)) (.val (.jq 6 "append")) (sv (encL t)) (iv 0) .unset,[g,a,b,c,d,e,.list []],.no⟩) rfl rfl (v:=.p (.int 0)) (by rfl') (by rfl')) ?_
  refine aU (fD (σ2:=⟨lB (sv (encL t)) (sv [61,10]) (iv 499) (.val (.obj 6)) (.val (.jq 6 "append")) (sv (encL t)) (iv 0) (iv ((encL t).length - 1 - 500)),[g,a,b,c,d,e,.list []],.no⟩) rfl rfl
   (ig rfl (a:=.p (.int ((encL t).length - 1))) (ig rfl (a:=.p (.int (encL t).length)) (b8 rfl rfl (fv:=.p (.bi "len")) (by rfl') (a1 rfl (v:=.p (.str (S (encL t)))) (by rfl')) (zR (by exact jj hz zC))) (b:=.p (.int 1)) (by rfl') rfl) (b:=.p (.int 500)) (by rfl') rfl) (by rfl')) ?_
  refine aU (vP (gW rfl (a:=.p (.int 0)) (by rfl') (b:=.p (.int ((encL t).length - 1 - 500))) (by rfl') rfl ?_)) ?_
  ·show Res.ok (decide ((0:Int)≤((encL t).length:Int) - 1 - 500)) _=_
   rw[ez (by exact fun pM=>(zJ [↑(encL t).length] (.g i6 (.sub (.sub bH eB) (.num 500)) (.g bH (.num 500) .e)) zC pM (zO hz)))]
  refine eK (qP (GQ ?_ (gW rfl (iQ rfl (a:=.p (.str (S (encL t)))) (by rfl') (b:=.p (.int (-1))) (by rfl') (IJ (by exact jj hz zC) zh)) (b:=.p (.str (S [32,9]))) (by rfl') (v:=.p (.bool false)) ?_ rfl)) (eK (wh rfl (v:=.p .none) (b8 rfl rfl (fv:=.jq 6 "append") (by rfl') (a1 rfl (v:=.p (.str (S (encL t)))) (mX (a:=.p (.str (S (encL t)))) (by rfl') (l:=.p (.int 0)) (by rfl') (u:=.p .none) (by rfl') (t:=.p .none) (by rfl') ?_)) ?_))))
  ·rw[JM (l:=encL t) rfl (by rfl') (ay hz (by decide)),he]
  ·refine O5 TS ?_ ?_ ?_ ?_ ?_<;>rfl'
  ·show (if (e8:Option Int)=none∧(S (encL t)).length≤aZ then (pure (V.p (.str (jK (S (encL t)) (some 0) none))):Mo V) else Mo.fail) _=_
   have hs:aZ=2 ^ 24:=rfl;rw[aA ⟨rfl,by rw[gw];exact Yb hz (zG hs)⟩,MX];rfl
  ·rfl'
 refine aU (nW (gW rfl (iQ rfl (a:=.p (.str (S (encL t)))) (by rfl') (b:=.p (.int (-1))) (by rfl') (IJ (ay hz (by decide)) zh)) (b:=.p (.str "\r\n")) (by rfl') (v:=.p (.bool false)) ?_ rfl)) ?_
 ·refine O5 TS ?_ ?_ ?_ ?_ ?_<;>rfl'
 refine kN (o6 (jn rfl ⟨rfl,rfl,by decide,rfl⟩ (o:=.p (.str "\n")) (by rfl') (mk:=.txt "\n" "str.join") (by rfl') (a1 rfl (v:=.obj 6) (by rfl')) ?_));have e2:vJ (Kf P) (ev P (n+18)) (.txt "\n" "str.join") [.obj 6] ⟨lB (sv (encL t)) (sv [61,10]) (iv 499) (.val (.obj 6)) (.val (.jq 6 "append")) (sv (encL t)) (iv 0) (iv ((encL t).length - 1 - 500)),[g,a,b,c,d,e,.list [.str (S (encL t))]],.no⟩ =
   (if nJ (0+(S (encL t)).length+1)=false∧(S (encL t)).length≤aZ then (pure (V.p (.str (S (encL t)))):Mo V) else Mo.fail) ⟨lB (sv (encL t)) (sv [61,10]) (iv 499) (.val (.obj 6)) (.val (.jq 6 "append")) (sv (encL t)) (iv 0) (iv ((encL t).length - 1 - 500)),[g,a,b,c,d,e,.list [.str (S (encL t))]],.no⟩:=by rfl'
 have hs:aZ=2 ^ 24:=rfl;rw[e2,aA ⟨by unfold nJ;rw[gw,gF];exact fun pM=>(z0 [_,_] (.g (.n 16777216) au (.g (.s au) (.s (.a gR aE)) (.g aE (.n 500) .e))) zC (zG hs) pM hz),by rw[gw];exact Yb hz (zG hs)⟩];rfl
end
section
variable {P:ai} {n:Nat} {σ:St}
theorem Jt {T:List Ob} {l:List (Str × Sl)} {u:List Nat} {c:Nat} (h:(u=[61,51,68]∧c=61)∨(u=[61,69,57]∧c=233)) (hT:gG T.length T=true) :
  (ev P (n+21)).C 75 [.p (.str (S u))] [] ⟨l,T,.no⟩ = .ok (.p (.str (S [c]))) ⟨l,T,.no⟩:=by
 refine ud (fl:=.ret (.p (.str (S [c])))) (σ1:=⟨[("s",sv u)],T,.no⟩) ?_ rfl hT (dG) rfl rfl;rcases h with ⟨rfl,rfl⟩ | ⟨rfl,rfl⟩<;>rfl'
noncomputable def ag4 (t1 t2:List Nat):List Nat:=if t2.isEmpty=true then t1++[10] else t1
noncomputable def lD (t:List Nat) (dec line i n c:Sl):List (Str × Sl):=[("encoded",sv (encL t)),("eol",.val (.p (.str "\n"))),("decoded",dec),("line",line),("i",i),("n",n),("c",c)]
noncomputable abbrev UT (T:List Ob) (t t1 t2:List Nat) (c:Sl):St:=⟨lD t (sv (ag4 t1 t2)) (sv (encL t)) (iv (encL t1).length) (iv (encL t).length) c,T,.no⟩
theorem Fy (c:Nat):1≤(encC c).length∧(encC c).length≤3:=by
 unfold encC;split
 ·decide
 ·split<;>simp
theorem LX (t:List Nat) (c:Nat):encL (t++[c])=encL t++encC c:=by unfold encL;rw[Np];simp
theorem pX (t u:List Nat):encL (t++u)=encL t++encL u:=by unfold encL;rw[Np]
theorem nZ (c:Nat) (u:List Nat):encL (c :: u)=encC c++encL u:=rfl
noncomputable def qA:Stmt→List Stmt
 | .For _ _ b _ _=>b
 | _=>[]
noncomputable def wV:Stmt→List Stmt
 | .While _ b _ _=>b
 | _=>[]
noncomputable def wb (P:ai):List Stmt:=wV ((qA ((fM P 103).2.getD 2 (.Pass default))).getD 4 (.Pass default))
theorem Dc {a b:List Nat} (h:a.length+b.length≤2 ^ 20):yL (.p (.str (S a))) (.p (.str (S b))) σ = .ok (.p (.str (S (a++b)))) σ:=by
 show (if (S a).length+(S b).length≤aZ then (pure (V.p (.str (S a++S b))):Mo V) else Mo.fail) σ=_;have hs:aZ=2 ^ 24:=rfl;rw[aA (by rw[gw,gw];exact fc h),yG];rfl
theorem HS (x:Sl) {T:List Ob} {t1 t2:List Nat} {t:List Nat} {c:Nat} (hz:(encL t).length≤500) (sj:t.length≤500) (ht:t=t1++c :: t2) :
  (ev P (n+11)).B (fM P 103).1.scope ((wb P).drop 2) ⟨lD t (sv (t1++[c])) (sv (encL t)) (iv (encL (t1++[c])).length) (iv (encL t).length) x,T,.no⟩ = .ok .next (UT T t (t1++[c]) t2 x):=by
 have hl:(encL t).length=(encL (t1++[c])).length+(encL t2).length:=by
  rw[ht,show t1++c :: t2=(t1++[c])++t2 by simp,pX,aO]
 have kL:t.length=(t1++[c]).length+t2.length:=by rw[ht];simp;exact iI (dY t1.length t2.length)
 cases t2 with
 | nil =>
  refine eK (vQ (gW rfl (a:=.p (.int (encL (t1++[c])).length)) (by rfl') (b:=.p (.int (encL t).length)) (by rfl') eq_int ?_) (eK (tO (a:=.p (.str (S (t1++[c])))) (by rfl') (b:=.p (.str (S [10]))) (by rfl') (Dc (by simp at kL ⊢;exact oH (.g (.s au) aE (.g aE (.n 500) .e)) au (.n 1048574) zC (zG kL) sj)) (by rfl'))));show Res.ok _ _=_;rw[hl,beq_iff_eq.mpr (by simp [encL])]
 | cons c2 t2 =>
  have hc2:=(Fy c2).1;refine eK (nW (gW rfl (a:=.p (.int (encL (t1++[c])).length)) (by rfl') (b:=.p (.int (encL t).length)) (by rfl') eq_int ?_));show Res.ok _ _=_;rw[hl,aJ.mpr (by rw[nZ,aO];exact fun pM=>(zJ [↑(encC c2).length,↑(encL (t1++[c])).length,↑(encL t2).length] (.g eB bH (.g (.add cQ (.add bH jg)) cQ (.g i6 jg .e))) zC (zO hc2) (zg pM) (zW _)))]
theorem Xq {l:List Nat} {j c:Nat} (h:l[j]?=some c) (hz:l.length≤2 ^ 20):jV (Kf P) (.p (.str (S l))) (.p (.int j)) σ = .ok (.p (.str (S [c]))) σ:=by
 have:=(az.mp h).1;exact FT (by exact wX j) (by rw[gw];exact Int.ofNat_lt.mpr this) (by rw[gw];exact jj hz zC) (by rw[JL];exact h)
theorem VP {l:List Nat} {j c:Nat} {i:Int} (hi:i=j) (h:l[j]?=some c) (hz:l.length≤2 ^ 20):jV (Kf P) (.p (.str (S l))) (.p (.int i)) σ = .ok (.p (.str (S [c]))) σ:=by
 subst hi;exact Xq h hz
theorem yh {t t1 t2:List Nat} {c j x:Nat} (ht:t=t1++c :: t2) (hx:(encC c)[j]?=some x):(encL t)[(encL t1).length+j]?=some x:=by
 have:=(az.mp hx).1;rw[ht,pX,nZ,bw (by exact b7 (encL t1).length j),b6,cW this];exact hx
theorem Fq {T:List Ob} {t t1 t2:List Nat} {c:Nat} {HR:Sl} (hcs:HR = .unset∨∃ v,HR = .val v) (hT:gG T.length T=true) (ht:t=t1++c :: t2) (hc:c∈pT) (hz:(encL t).length≤500) (sj:t.length≤500) :
  (ev P (n+40)).B (fM P 103).1.scope (wb P) (UT T t t1 (c :: t2) HR) = .ok .next (UT T t (t1++[c]) t2 (sv [(encC c).headD 0])):=by
 have hl:(encL t).length=(encL t1).length+((encC c).length+(encL t2).length):=by
  rw[ht,pX,nZ,aO,aO]
 have kL:t.length=t1.length+(1+t2.length):=by rw[ht];simp;exact gI t2.length 1
 have hn:((encL (t1++[c])).length:Int)=(encL t1).length+(encC c).length:=by rw[LX,aO];exact WN (encL t1).length (encC c).length
 have hw:∀ v,o9 "c" v (UT T t t1 (c :: t2) HR) = .ok () ⟨lD t (sv t1) (sv (encL t)) (iv (encL t1).length) (iv (encL t).length) (.val v),T,.no⟩:=fun v=>by
  rcases hcs with rfl | ⟨v,rfl⟩<;>rfl'
 have fin:=HS (sv [(encC c).headD 0]) (P:=P) (n:=n+29) (T:=T) hz sj ht;rw[hn] at fin;by_cases h61:c=61∨c=233
 ·obtain ⟨u,v,he⟩:∃ u v,encC c=[61,u,v]∧((u=51∧v=68)∨(u=69∧v=57))∧(([61,u,v]=[61,51,68]∧c=61)∨([61,u,v]=[61,69,57]∧c=233)):=by
   rcases h61 with rfl | rfl
   ·exact (Y2 (51) (68) ⟨rfl,.inl ⟨rfl,rfl⟩,.inl ⟨rfl,rfl⟩⟩)
   ·exact ⟨69,57,rfl,.inr ⟨rfl,rfl⟩,.inr ⟨rfl,rfl⟩⟩
  refine xM he fun he huv hq=>?_;have g0:=yh (j:=0) ht (by rw[he];rfl);have g1:=yh (j:=1) ht (by rw[he];rfl);have g2:=yh (j:=2) ht (by rw[he];rfl);have hsl:((encL t).drop (encL t1).length).take ((encL t1).length+3 - (encL t1).length)=[61,u,v]:=by
   rw[ht,pX,nZ,he,List.drop_left,b6];rfl
  rw[he] at fin hl ⊢;simp only [dU,n9] at hl;refine aU (σ1:=⟨lD t (sv t1) (sv (encL t)) (iv (encL t1).length) (iv (encL t).length) (sv [61]),T,.no⟩) (fD rfl rfl (v:=.p (.str (S [61]))) (iQ rfl (a:=.p (.str (S (encL t)))) (by rfl') (b:=.p (.int (encL t1).length)) (by rfl') (Xq g0 (by exact jj hz zC))) (hw _)) ?_;refine aU (σ1:=⟨lD t (sv (t1++[c])) (sv (encL t)) (iv ((encL t1).length+3)) (iv (encL t).length) (sv [61]),T,.no⟩) (qP (by rfl') (eK (qP (gW rfl (a:=.p (.int ((encL t1).length+1))) (by rfl') (b:=.p (.int (encL t).length)) (by rfl') eq_int ?c1) (eK (vQ (Ww ?c2) ?c3))))) ?rest;case c1 =>
   show Res.ok _ _=_;rw[aJ.mpr (by exact fun pM=>(zJ [↑(encL t1).length,↑(encL t2).length,↑(encL t).length] (.g (.add bH (.add (.add (.add (.add i6 eB) eB) eB) cQ)) jg (.g jg (.add bH eB) (.g i6 cQ .e))) zC (zO (zG hl)) (zg pM) (zW _)))]
  case c2 =>
   refine Q6 (gW rfl (a:=.p (.int ((encL t1).length+2))) (by rfl') (b:=.p (.int (encL t).length)) (by rfl') rfl ?_) ?_
   ·show Res.ok (decide _) _=_
    rw[cL (show ((encL t1).length:Int)+2<((encL t).length:Int) from Int.ofNat_lt.mpr (pJ (N1 (di (dJ 2) (b7 3 _)) _) hl.symm))]
   refine Q6 (gW rfl (iQ rfl (a:=.p (.str (S (encL t)))) (by rfl') (b:=.p (.int ((encL t1).length+1))) (by rfl') (VP (by exact tH (encL t1).length) g1 (by exact jj hz zC))) (b:=.p (.str "0123456789abcdefABCDEF")) (by rfl') (v:=.p (.bool true)) ?_ rfl) ?_
   ·rcases huv with ⟨rfl,rfl⟩ | ⟨rfl,rfl⟩<;>rfl'
   refine Q6 (gW rfl (iQ rfl (a:=.p (.str (S (encL t)))) (by rfl') (b:=.p (.int ((encL t1).length+2))) (by rfl') (VP (by exact Int.mem_toNat?.mp rfl) g2 (by exact jj hz zC))) (b:=.p (.str "0123456789abcdefABCDEF")) (by rfl') (v:=.p (.bool true)) ?_ rfl) rfl
   ·rcases huv with ⟨rfl,rfl⟩ | ⟨rfl,rfl⟩<;>rfl'
  case c3 =>
   refine aU (tO (a:=.p (.str (S t1))) (by rfl') (b8 rfl rfl (fv:=.p (.adr 75)) (by rfl') (a1 rfl (v:=.p (.str (S [61,u,v]))) (mX (a:=.p (.str (S (encL t)))) (by rfl') (l:=.p (.int (encL t1).length)) (by rfl') (u:=.p (.int ((encL t1).length+3))) (by rfl') (t:=.p .none) (by rfl') ?_)) ((cR (a:=75) (by rfl')).trans (Jt hq hT))) (Dc (by simp;exact acD (zG kL) sj)) (σ2:=⟨lD t (sv (t1++[c])) (sv (encL t)) (iv (encL t1).length) (iv (encL t).length) (sv [61]),T,.no⟩) (by rfl')) ?_
   ·show (if (e8:Option Int)=none∧(S (encL t)).length≤aZ then (pure (V.p (.str (jK (S (encL t)) (some ((encL t1).length:Int)) (some ((encL t1).length+3:Int))))):Mo V) else Mo.fail) _=_
    have hs:aZ=2 ^ 24:=rfl;rw[aA ⟨rfl,by rw[gw];exact Yb hz (zG hs)⟩];have:=yw (l:=encL t) (i:=(encL t1).length) (j:=(encL t1).length+3) (by exact b7 (encL t1).length 3) (by exact rM (.g (.a au (.a (.s (.s (.s gR))) aT)) aE .e) (.a au (.n 3)) aE zC (zG hl));rw[hsl] at this;rw[show ((encL t1).length+3:Int)=(((encL t1).length+3:Nat):Int) by exact Int.mem_toNat?.mp rfl,this];rfl
   ·exact eK (tO (a:=.p (.int (encL t1).length)) (by rfl') (b:=.p (.int 3)) (by rfl') (v:=.p (.int ((encL t1).length+3))) rfl (by rfl'))
  case rest=>exact fin
 ·have he:encC c=[c]:=by unfold encC;rw[aS fun q=>h61 (.inl q),aS fun q=>h61 (.inr q)]
  have g0:=yh (j:=0) ht (by rw[he];rfl);rw[he] at fin ⊢;refine aU (σ1:=⟨lD t (sv t1) (sv (encL t)) (iv (encL t1).length) (iv (encL t).length) (sv [c]),T,.no⟩) (fD rfl rfl (v:=.p (.str (S [c]))) (iQ rfl (a:=.p (.str (S (encL t)))) (by rfl') (b:=.p (.int (encL t1).length)) (by rfl') (Xq g0 (ay hz (by decide)))) (hw _)) ?_;refine aU (vQ ?_ (aU (tO (a:=.p (.str (S t1))) (by rfl') (b:=.p (.str (S [c]))) (by rfl') (Dc (by simp;exact acD (zG kL) sj)) (σ2:=⟨lD t (sv (t1++[c])) (sv (encL t)) (iv (encL t1).length) (iv (encL t).length) (sv [c]),T,.no⟩) (by rfl')) (eK (tO (a:=.p (.int (encL t1).length)) (by rfl') (b:=.p (.int 1)) (by rfl') (v:=.p (.int ((encL t1).length+1))) rfl (σ2:=⟨lD t (sv (t1++[c])) (sv (encL t)) (iv ((encL t1).length+1)) (iv (encL t).length) (sv [c]),T,.no⟩) (by rfl'))))) fin;simp only [pT,av,ng,KZ] at hc;rcases hc with rfl | rfl | rfl | rfl | rfl | rfl | rfl | rfl | rfl<;>first | exact absurd (.inl rfl) h61 | exact absurd (.inr rfl) h61 | rfl'
noncomputable def Oh (t2:List Nat) (HR:Sl):Sl:=match t2.getLast? with
 | none=>HR
 | some c=>sv [(encC c).headD 0]
theorem LJ (c:Nat) (t2:List Nat) (HR:Sl):Oh (c :: t2) HR=Oh t2 (sv [(encC c).headD 0]):=by
 cases t2 with
 | nil=>rfl
 | cons d t2 =>
  unfold Oh;rw[Hf,NV]
theorem Fp {T:List Ob} {t:List Nat} (hT:gG T.length T=true) (hal:∀ x∈t,x∈pT) (hz:(encL t).length≤500) (sj:t.length≤500) {tst:Mo Bool}
  (acj:∀ t1 t2 c,tst (UT T t t1 t2 c) = .ok (decide (((encL t1).length:Int)<(encL t).length)) (UT T t t1 t2 c)) :
  ∀ (t2 t1:List Nat) (HR:Sl) (k:Nat),t=t1++t2→t2.length<k→(HR = .unset∨∃ v,HR = .val v)→lS tst ((ev P (n+40)).B (fM P 103).1.scope (wb P)) k (UT T t t1 t2 HR) = .ok .next (UT T t t [] (Oh t2 HR)):=by
 intro t2;induction t2 with
 | nil =>
  intro t1 HR k ht hk _;rw[cg] at ht;subst ht;obtain ⟨k,rfl⟩:∃ k',k=k'+1:=⟨k - 1,by simp at hk;exact (f7 hk).mp rfl⟩;exact aa9 (by rw[acj,ez (by exact G9 ↑(encL t).length)])
 | cons c t2 ih =>
  intro t1 HR k ht hk hcs;obtain ⟨k,rfl⟩:∃ k',k=k'+1:=⟨k - 1,by simp at hk;exact zQ (X8 (zS _ _)) (X9 (zB (oH (.g (.s (.s aE)) au .e) jr au zC hk)))⟩;have hl:(encL t).length=(encL t1).length+((encC c).length+(encL t2).length):=by
   rw[ht,pX,nZ,aO,aO]
  have h1:=(Fy c).1;rw[LJ];exact HH (by rw[acj,cL (by exact zI [↑(encL t1).length,↑(encL t).length,↑(encC c).length,↑(encL t2).length] 0 (.g (.add bH (.add jg vA)) cQ (.g eB jg (.g i6 vA .e))) (.add bH eB) cQ zC (zO (zG hl)) (zO h1) (zW _))]) (Fq hcs hT ht (hal c (by rw[ht];simp)) hz sj) (ih (t1++[c]) (sv [(encC c).headD 0]) k (by rw[ht];simp) (by simp at hk;exact hk) (.inr ⟨_,rfl⟩))
theorem Xe {t:List Nat}:D7 (Kf P) (S (t++[10])) "str.endswith" [.p (.str (S [10]))] σ = .ok (.p (.bool true)) σ:=by
 have e:D7 (Kf P) (S (t++[10])) "str.endswith" [.p (.str (S [10]))] σ = .ok (.p (.bool (decide (0+(S [10]).length≤(S (t++[10])).length)&&subAt (S (t++[10])) (S [10]) ((S (t++[10])).length - (S [10]).length)))) σ:=by rfl'
 have h:subAt (S (t++[10])) (S [10]) ((S (t++[10])).length - (S [10]).length)=true:=by
  unfold subAt;rw[gw,gw,beq_iff_eq];apply rN;rw[Jx];show ((t++[10]).drop _).take _=[10];simp
 rw[e,h,cL (by rw[gw,gw];simp)];rfl
theorem LS {T:List Ob} {l:List (Str × Sl)} {t:List Nat} {z:Nat} (hT:gG T.length T=true) (h0:t≠[]) (hal:∀ x∈t,x∈pT) (hz:(encL t).length≤500) (sj:t.length≤500) (zh:(encL t).getLast?=some z) (TS:z=97∨z=98∨z=37∨z=39∨z=68) (hbr:∀ x∈encL t,fG x=false) (Xz:encL t≠[]) :
  (ev P (n+46)).C 103 [.p (.str (S (encL t)))] [] ⟨l,T,.no⟩ = .ok (.p (.str (S t))) ⟨l,T,.no⟩:=by
 have he:(!(encL t).isEmpty)=true:=by cases h:encL t<;>simp_all
 have hte:(!t.isEmpty)=true:=by cases t<;>simp_all
 have kC:aZ=2 ^ 24:=rfl;obtain ⟨c',Xw⟩:∃ c',c'=Oh t .unset:=⟨_,rfl⟩;have hst:UT T t [] t .unset=⟨lD t (.val (.p (.str ""))) (sv (encL t)) (iv 0) (iv (encL t).length) .unset,T,.no⟩:=by
  cases t with
  | nil=>exact absurd rfl h0
  | cons _ _=>rfl
 refine ud (fl:=.ret (.p (.str (S t)))) (σ1:=⟨lD t (sv t) (sv (encL t)) (iv (encL t).length) (iv (encL t).length) c',T,.no⟩) ?_ rfl hT (dG) rfl rfl;have e0:eS (Kf P) (ev P (n+45)) 103 [.p (.str (S (encL t)))] [] ⟨l,T,.no⟩=(ev P (n+45)).B (fM P 103).1.scope (fM P 103).2 ⟨lD t .unset .unset .unset .unset .unset,T,.no⟩:=by rfl'
 rw[e0];refine aU (nW (by rw[Av (JM (l:=encL t) rfl (by rfl') (ay hz (by decide))),he];rfl)) ?_;refine aU (fD (σ2:=⟨lD t (.val (.p (.str ""))) .unset .unset .unset .unset,T,.no⟩) rfl rfl (v:=.p (.str "")) (by rfl') (by rfl')) ?_;refine aU (Wr rfl (jn rfl ⟨rfl,rfl,by decide,rfl⟩ (o:=.p (.str (S (encL t)))) (by rfl') (mk:=.txt (S (encL t)) "str.splitlines") (by rfl') (us:=[]) rfl (Kr (P:=P) Xz hbr (ay hz (by decide)))) rfl
  (rV (σ1:=⟨lD t (.val (.p (.str ""))) (sv (encL t)) .unset .unset .unset,T,.no⟩) (by rfl') (σ2:=⟨lD t (sv (t++[10])) (sv (encL t)) (iv (encL t).length) (iv (encL t).length) c',T,.no⟩) ?_ (wY rfl))) ?_
 ·refine aU (fD (σ2:=⟨lD t (.val (.p (.str ""))) (sv (encL t)) .unset .unset .unset,T,.no⟩) rfl rfl (v:=.p (.str (S (encL t)))) (jn rfl ⟨rfl,rfl,by decide,rfl⟩ (o:=.p (.str (S (encL t)))) (by rfl') (mk:=.txt (S (encL t)) "str.rstrip") (by rfl') (us:=[]) rfl ?_) (by rfl')) ?_
  ·have e1:vJ (Kf P) (ev P (n+42)) (.txt (S (encL t)) "str.rstrip") []=fun (σ:St)=>(if (S (encL t)).length≤2 ^ 20 then (pure (V.p (.str (if t8 bz false true (S (encL t)) then S (encL t) else l9 bz false true (S (encL t))))):Mo V) else Mo.fail) σ:=by rfl'
   rw[e1,GN (fun c hc=>by rw[zh] at hc;cases hc;rcases TS with rfl | rfl | rfl | rfl | rfl<;>decide)];show (if (S (encL t)).length≤2 ^ 20 then (pure (V.p (.str (S (encL t)))):Mo V) else Mo.fail) _=_;rw[aA (by rw[gw];exact ay hz (by decide))];rfl
  refine aU (nW (by rw[Av (JM (l:=encL t) rfl (by rfl') (ay hz (by decide))),he];rfl)) ?_;refine aU (fD (σ2:=⟨lD t (.val (.p (.str ""))) (sv (encL t)) (iv 0) .unset .unset,T,.no⟩) rfl rfl (v:=.p (.int 0)) (by rfl') (by rfl')) ?_;refine aU (fD (σ2:=⟨lD t (.val (.p (.str ""))) (sv (encL t)) (iv 0) (iv (encL t).length) .unset,T,.no⟩) rfl rfl (b8 rfl rfl (fv:=.p (.bi "len")) (by rfl') (a1 rfl (v:=.p (.str (S (encL t)))) (by rfl')) (zR (ay hz (by decide)))) (by rfl')) ?_;refine eK (C8 ?_);rw[← hst,Xw];exact Fp (n:=n+3) hT hal hz sj (fun t1 t2 c=>by rfl') t [] .unset 4096 rfl (by exact uM (.g au (.n 500) .e) (.s au) (.n 4096) zC sj) (.inl rfl)
 refine aU (vQ (GQ (gW rfl (iQ rfl (a:=.p (.str (S (encL t)))) (by rfl') (b:=.p (.int (-1))) (by rfl') (IJ (ay hz (by decide)) zh)) (b:=.p (.str "\r\n")) (by rfl') (v:=.p (.bool true)) ?_ rfl) ?_) (eK (fD rfl rfl (v:=.p (.str (S t))) (mX (a:=.p (.str (S (t++[10])))) (by rfl') (l:=.p .none) (by rfl') (u:=.p (.int (-1))) (by rfl') (t:=.p .none) (by rfl') ?_) (σ2:=⟨lD t (sv t) (sv (encL t)) (iv (encL t).length) (iv (encL t).length) c',T,.no⟩) (by rfl')))) (kN (o6 (by rfl')))
 ·refine O5 TS ?_ ?_ ?_ ?_ ?_<;>rfl'
 ·exact rb (a:=.p (.bool true)) (jn rfl ⟨rfl,rfl,by decide,rfl⟩ (o:=.p (.str (S (t++[10])))) (by rfl') (mk:=.txt (S (t++[10])) "str.endswith") (by rfl') (a1 rfl (v:=.p (.str (S [10]))) (by rfl')) (Xe (P:=P))) rfl
 ·show (if (e8:Option Int)=none∧(S (t++[10])).length≤aZ then (pure (V.p (.str (jK (S (t++[10])) none (some (-1))))):Mo V) else Mo.fail) _=_
  rw[aA ⟨rfl,by rw[gw];simp;exact oH (.g au (.n 500) (.g (.n 16777216) aE .e)) (.s au) aE zC sj (zG kC)⟩,Jg (by simp),Lr];rfl
end
section
variable {P:ai} {n:Nat} {σ:St}
theorem K3 {T:List Ob} {l:List (Str × Sl)} {w:List Nat} (hw:w∈d8) (hT:gG T.length T=true):(ev P (n+13)).C 818 [.p (.str (S w))] [] ⟨l,T,.no⟩ = .ok (.p (.str (S (b9 w)))) ⟨l,T,.no⟩:=
 ud (fl:=.ret (.p (.str (S (b9 w))))) (σ1:=⟨[("s",.val (.p (.str (S w))))],T,.no⟩) (PT (MR (P:=P) (n:=n) T) w hw) rfl hT dG rfl rfl
theorem QY (ts:List (List Nat)):strsOf (ts.map fun t=>Mine.P.str (S t))=some (ts.map S):=vh fun _ _=>rfl
set_option tactic.hygienic true in
theorem XW {ts:List (List Nat)} (h1:ts.length≤100) (h2:∀ t∈ts,t.length≤100):BX (S [32]) (ts.map fun t=>.str (S t)) σ = .ok (.p (.str (S (eL ts)))) σ:=by
 have hs:aZ=2 ^ 24:=rfl;have abN:∀ (ts:List (List Nat)) (a:Nat),(∀ t∈ts,t.length≤100)→(ts.map S).foldl (fun acc t=>acc+t.length+(S [32]).length) a≤a+101*ts.length:=by
  intro ts;induction ts with
  | nil=>intro a _;exact aB _
  | cons t ts ih =>
   intro a h;have:=ih (a+(S t).length+(S [32]).length) fun x hx=>h x (.tail _ hx);have ht:=h t (.head _);refine ay this ?_;exact rM (.g aE (.n 100) .e) (.a (.s (.a au aE)) (.m 101 aT)) (.a au (.m 101 (.s aT))) zC ht
 have hj:∀ (ts:List (List Nat)),(∀ t∈ts,t.length≤100)→(eL ts).length≤101*ts.length:=by
  intro ts h;by_cases h0:ts=[]
  ·subst h0;exact aB _
  ·have:=sX h0
   have TP:(ts.map aN).sum≤100*ts.length:=by
    clear this h0
    induction ts with
    | nil=>exact aB _
    | cons t ts ih =>
     have:=ih fun x hx=>h x (.tail _ hx);have:=h t (.head _)
     (rename_i nV;exact (rM (.g au (.n 100) (.g aE (.m 100 aT) .e)) (.a au aE) (.m 100 (.s aT)) zC this nV))
   exact rM (.g (.s au) (.a aT aE) (.g aT (.m 100 aE) .e)) au (.m 101 aE) zC (zA this) TP
 show Mo.get (strsOf (ts.map fun t=>Mine.P.str (S t))) _ σ=_;rw[QY];show (if _ then _ else _:Mo V) σ=_;have c1:nJ ((ts.map S).toArray.foldl (fun acc t=>acc+t.length+(S [32]).length) 0)=false:=by
  unfold nJ;rw[gF,List.foldl_toArray];exact Nat.not_lt_of_le (ay (abN ts 0 h2) (ay (NZ (gE 101 h1) 0) (by rw[hs];decide)))
 have c2:(BK (S [32]) (ts.map S)).length≤aZ:=by
  rw[J5,gw];exact ay (hj ts h2) (ay (gE 101 h1) (by rw[hs];decide))
 rw[aA ⟨c1,c2⟩,J5];rfl
section
variable {aP:List Ob} {x y:Str} {rG v:Expr} {L:Mine.P→List (Str × Sl)} {f:Mine.P→Mine.P} {nx:Nat→St→Option (Option Mine.P)} {vs:List Mine.P} {sc:bV}
theorem Th {px py ap gp pos:Pos} {cK:bV} {u:V} {s:Str} {loc l:List (Str × Sl)} {res:Res V} (h0:ap.endLine=pos.line∧nH v=true) (hv:(ev P n).E sc v ⟨loc,aP,.no⟩ = .ok (.p (.str s)) ⟨loc,aP,.no⟩) (h2:BJ sc cK x=true) (h3:dX loc cK.names=some l) (hg:uz ⟨loc,aP,.no⟩=true) (h4:(ev P n).E sc (.Name y py) ⟨loc,aP,.no⟩ = .ok u ⟨loc,aP,.no⟩)
  (h5:srcOf u ⟨loc,aP,.no⟩=some (nx,vs.length)) (NH:∀ i l,nx i ⟨l,aP,.no⟩=some vs[i]?) (hw:∀ v,o9 x (.p v) ⟨l,aP,.no⟩ = .ok () ⟨L v,aP,.no⟩) (hL:∀ u v,o9 x (.p v) ⟨L u,aP,.no⟩ = .ok () ⟨L v,aP,.no⟩) (kC:vs.length≤2 ^ 20)
  (he:∀ v∈vs,(ev P n).E cK rG ⟨L v,aP,.no⟩ = .ok (.p (f v)) ⟨L v,aP,.no⟩) (hr:BX s (vs.map f) ⟨loc,aP,.no⟩=res) :
  (ev P (n+1)).E sc (.Call (.Attribute v "join" ap) [.GeneratorExp rG [⟨.Name x px,.Name y py,[],0⟩] cK gp] [] pos) ⟨loc,aP,.no⟩=res:=by
 refine eU (Bv (t:=fun _=>true) (ifs:=fun σ=>.ok true σ) NH hL kC (fun _ _=>rfl) (fun v hv _=>he v hv) vs.length 0 l (fy _) hw) fun l' e=>?_;have e:jf nx x (fun σ=>.ok true σ) ((ev P n).E cK rG) (vs.length+1) 0 ⟨l,aP,.no⟩ = .ok (vs.map f) ⟨l',aP,.no⟩:=by
  rw[e,j5];congr 2;exact kI.mpr fun _ _=>rfl
 show (if ([]:List uP).isEmpty=true∧ap.endLine=pos.line∧noStar [RD rG [⟨.Name x px,.Name y py,[],0⟩] cK gp]=true∧1<20∧nH v=true then Gk (Kf P) (ev P n) sc v "join" [RD rG [⟨.Name x px,.Name y py,[],0⟩] cK gp] else Mo.fail:Mo V) ⟨loc,aP,.no⟩=res;rw[aA ⟨rfl,h0.1,rfl,by decide,h0.2⟩];refine rb hv ?_;refine rb (a:=vs.map f) (σ1:=⟨loc,aP,.no⟩) ?_ hr;show Ii (ev P n) sc rG cK x y py ⟨loc,aP,.no⟩=_;unfold Ii;rw[aA ⟨h2,by rw[h3];rfl⟩];refine rb h4 ?_;rw[aA (show pF ⟨loc,aP,.no⟩ u=true by
  dsimp only [pF];rw[h5];show (true&&uz ⟨loc,aP,.no⟩&&decide (vs.length≤2 ^ 20))=true;rw[hg,cL kC];rfl)]
 exact Fx h5 h3 e
end
theorem qe:∀ w∈d8,(b9 w).length≤20:=by
 have:(d8.all fun w=>decide ((b9 w).length≤20))=true:=by decide +kernel
 intro w hw;exact cA (cG.mp this w hw)
theorem XU {T:List Ob} {l:List (Str × Sl)} {ws:List (List Nat)} (hw:∀ w∈ws,w∈d8) (hz:ws.length≤100) (hT:gG (Ob.gone :: T).length (.gone :: T)=true):(ev P (n+30)).C 810 [.p (.lst (ws.map fun w=>.str (S w)))] [] ⟨l,.gone :: T,.no⟩ = .ok (.p (.str (S (eL (ws.map b9))))) ⟨l,.gone :: T,.no⟩:=by
 refine ud (fl:=.ret (.p (.str (S (eL (ws.map b9)))))) (σ1:=⟨[("split_command",.val (.p (.lst (ws.map fun w=>.str (S w)))))],.gone :: T,.no⟩) ?_ rfl hT dG rfl rfl;have e0:eS (Kf P) (ev P (n+29)) 810 [.p (.lst (ws.map fun w=>.str (S w)))] [] ⟨l,.gone :: T,.no⟩=(ev P (n+29)).B (fM P 810).1.scope (fM P 810).2 ⟨[("split_command",.val (.p (.lst (ws.map fun w=>.str (S w)))))],.gone :: T,.no⟩:=by rfl'
 rw[e0];refine kN (o6 (Th (x:="arg") (u:=.p (.lst (ws.map fun w=>.str (S w)))) (vs:=ws.map fun w=>.str (S w)) (nx:=fun i _=>some (ws.map fun w=>Mine.P.str (S w))[i]?) (l:=[(".0",.unset),("arg",.unset)]) (L:=fun v=>[(".0",.unset),("arg",.val (.p v))]) (f:=fun v=>match v with | .str w=>.str (S (b9 w.cps.toList)) | _=>.none)
  ⟨rfl,rfl⟩ (s:=S [32]) (by rfl') (by rfl') (by rfl') rfl (by rfl') rfl (fun _ _=>rfl) (fun _=>by rfl') (fun _ _=>by rfl') (by simp;exact jj hz zC) ?_ ?_))
 ·intro v hv
  refine bU (aX.mp hv) fun w Mg afT=>?_;obtain rfl:=afT;exact b8 rfl rfl (fv:=.p (.adr 818)) (by rfl') (a1 rfl (v:=.p (.str (S w))) (by rfl')) ((cR (by rfl')).trans (K3 (hw w Mg) hT))
 ·rw[bZ,show ((fun v=>match v with | Mine.P.str w=>Mine.P.str (S (b9 w.cps.toList)) | _=>.none)∘fun w=>Mine.P.str (S w))=(fun t=>Mine.P.str (S t))∘b9 from rfl,← bZ]
  refine XW (by simpa using hz) fun t ht=>?_;refine bU (aX.mp ht) fun w Mg afU=>?_;obtain rfl:=afU;have:=qe w (hw w Mg);exact jj this zC
end
section
variable {P:ai} {n:Nat} {σ:St}
noncomputable def tL (o:Ob):Prop:=∀ k,0<k→Ob.lt k o=true
theorem Ks {T new:List Ob} {k:Nat} (h:∀ o∈T,tL o) (hk:0<k) (hn:new.all (Ob.lt k)=true):gG k (T++new)=true:=by
 unfold gG;rw[cG];intro o ho;refine bJ (aj.mp (j7 ho)) (fun h1=>?_) fun h1=>?_
 ·exact h o h1 k hk
 ·exact cG.mp hn o h1
noncomputable def dQ (st:V) (tok:List Nat):Ob:=.attrs [("instream",.obj 9),("infile",.p .none),("posix",.p (.bool true)),("eof",.p .none),("commenters",.p (.str "")),("wordchars",.p (.str "abcdfeghijklmnopqrstuvwxyzABCDEFGHIJKLMNOPQRSTUVWXYZ0123456789_ßàáâãäåæçèéêëìíîïðñòóôõöøùúûüýþÿÀÁÂÃÄÅÆÇÈÉÊËÌÍÎÏÐÑÒÓÔÕÖØÙÚÛÜÝÞ")),("whitespace",.p (.str " \t\r\n")),("whitespace_split",.p (.bool true)),("quotes",.p (.str "'\"")),("escape",.p (.str "\\")),("escapedquotes",.p (.str "\"")),("state",st),("pushback",.p .dq),("lineno",.p (.int 1)),("debug",.p (.int 0)),("token",.p (.str (S tok))),("filestack",.p .dq),("source",.p .none),("_punctuation_chars",.p (.str ""))]
noncomputable def ioA (buf:List Nat) (pos:Nat):Ob:=.attrs [("_StringIO__newline",.p (.str "\n")),("_StringIO__buf",.p (.str (S buf))),("_StringIO__pos",.p (.int pos))]
noncomputable def sS (T:List Ob) (lx:Ob) (buf:List Nat) (pos:Nat):List Ob:=T++[lx,.inst 791 6,ioA buf pos,.inst 656 8]
theorem DM {T:List Ob} {lx:Ob} {buf:List Nat} {pos:Nat} (h:∀ o∈T,tL o) (hl:Ob.lt 10 lx=true):gG 10 (sS T lx buf pos)=true:=
 Ks h (by decide) (by simp only [EM,List.all_nil,hl];rfl')
theorem F5 {T:List Ob} {l:List (Str × Sl)} {w:Str} (hT:gG T.length T=true):(ev P (n+20)).C 122 [.p (.int 1),.p (.str w)] [] ⟨l,T,.no⟩ = .ok (.p (.int 1)) ⟨l,T,.no⟩:=
 ud (fl:=.ret (.p (.int 1))) (σ1:=⟨[("n",.val (.p (.int 1))),("what",.val (.p (.str w)))],T,.no⟩) (by rfl') rfl hT dG rfl rfl
theorem Ff {g a b c d e lx:Ob} {l:List (Str × Sl)} {buf:List Nat} {pos:Nat} (hT:gG 10 (sS [g,a,b,c,d,e] lx buf pos)=true):(ev P (n+20)).C 440 [.obj 9] [] ⟨l,sS [g,a,b,c,d,e] lx buf pos,.no⟩ = .ok (.p .none) ⟨l,sS [g,a,b,c,d,e] lx buf pos,.no⟩:=
 ud (fl:=.next) (σ1:=⟨[("self",.val (.obj 9))],sS [g,a,b,c,d,e] lx buf pos,.no⟩) (by rfl') rfl hT rfl rfl rfl
noncomputable def lR (size start stop:Sl):List (Str × Sl):=[("self",.val (.obj 9)),("size",size),("start",start),("stop",stop)]
theorem Xr {l:List Nat} {i j:Nat} {a b:Int} (ha:a=i) (hb:b=j) (h:i≤j) (hj:j≤l.length) (hz:l.length≤2 ^ 20):GJ (Kf P) (.p (.str (S l))) (.p (.int a)) (.p (.int b)) (.p .none) σ = .ok (.p (.str (S ((l.drop i).take (j - i))))) σ:=by
 subst ha hb;show (if (e8:Option Int)=none∧(S l).length≤aZ then (pure (V.p (.str (jK (S l) (some (i:Int)) (some (j:Int))))):Mo V) else Mo.fail) _=_;have hs:aZ=2 ^ 24:=rfl;rw[aA ⟨rfl,by rw[gw];exact fc hz⟩,yw h hj];rfl
theorem UK {g a b c d e lx:Ob} {l:List (Str × Sl)} {buf:List Nat} {pos:Nat} {x:Nat} (hT:∀ o∈[g,a,b,c,d,e],tL o) (hlx:Ob.lt 10 lx=true) (hz:buf.length≤1000) (hx:buf[pos]?=some x) :
  (ev P (n+30)).C 602 [.obj 9,.p (.int 1)] [] ⟨l,sS [g,a,b,c,d,e] lx buf pos,.no⟩ = .ok (.p (.str (S [x]))) ⟨l,sS [g,a,b,c,d,e] lx buf (pos+1),.no⟩:=by
 have kL:pos<buf.length:=(az.mp hx).1;refine ud (fl:=.ret (.p (.str (S [x])))) (σ1:=⟨lR (iv 1) (iv pos) (iv (pos+1)),sS [g,a,b,c,d,e] lx buf (pos+1),.no⟩) ?_ rfl (DM hT hlx) rfl rfl rfl;have e0:eS (Kf P) (ev P (n+29)) 602 [.obj 9,.p (.int 1)] [] ⟨l,sS [g,a,b,c,d,e] lx buf pos,.no⟩=(ev P (n+29)).B (fM P 602).1.scope (fM P 602).2 ⟨lR (iv 1) .unset .unset,sS [g,a,b,c,d,e] lx buf pos,.no⟩:=by rfl'
 rw[e0];have low:=DM (buf:=buf) (pos:=pos) hT hlx;refine aU (nW (by rfl')) ?_;refine aU (fD (σ2:=⟨lR (iv 1) .unset .unset,sS [g,a,b,c,d,e] lx buf pos,.no⟩) rfl rfl (v:=.p (.int 1)) (b8 rfl rfl (fv:=.p (.adr 122)) (by rfl') (ac rfl (v:=.p (.int 1)) (by rfl') (a1 rfl (v:=.p (.str "StringIO.read of a size that is no exact int")) (by rfl'))) ((cR (by rfl')).trans (F5 low))) (by rfl')) ?_;refine aU (wh rfl (v:=.p .none) (jn rfl ⟨rfl,rfl,by decide,rfl⟩ (o:=.obj 9) (by rfl') (mk:=.fn 440 (.obj 9)) (by rfl') (us:=[]) rfl (Ff low))) ?_;refine aU (fD (σ2:=⟨lR (iv 1) (iv pos) .unset,sS [g,a,b,c,d,e] lx buf pos,.no⟩) rfl rfl (v:=.p (.int pos)) (by rfl') (by rfl')) ?_;refine aU (fD (σ2:=⟨lR (iv 1) (iv pos) (iv buf.length),sS [g,a,b,c,d,e] lx buf pos,.no⟩) rfl rfl (b8 rfl rfl (fv:=.p (.bi "len")) (by rfl') (a1 rfl (v:=.p (.str (S buf))) (by rfl')) (zR (by exact jj hz zC))) (by rfl')) ?_;refine aU (nW (gW rfl (a:=.p (.int pos)) (by rfl') (b:=.p (.int buf.length)) (by rfl') (v:=.p (.bool false)) ?_ rfl)) ?_
 ·show Res.ok (V.p (.bool (decide ((buf.length:Int)≤(pos:Int))))) _=_
  rw[ez (by exact fun pM=>(zJ [↑pos,↑buf.length] (.g (.add bH eB) cQ (.g cQ bH .e)) zC (zO kL) pM))]
 have tail:(ev P (n+29)).B (fM P 602).1.scope ((fM P 602).2.drop 7) ⟨lR (iv 1) (iv pos) (iv (pos+1)),sS [g,a,b,c,d,e] lx buf pos,.no⟩ = .ok (.ret (.p (.str (S [x])))) ⟨lR (iv 1) (iv pos) (iv (pos+1)),sS [g,a,b,c,d,e] lx buf (pos+1),.no⟩:=by
  refine aU (σ1:=⟨lR (iv 1) (iv pos) (iv (pos+1)),sS [g,a,b,c,d,e] lx buf (pos+1),.no⟩) (by rfl') ?_;refine kN (o6 (mX (a:=.p (.str (S [x,32]))) (ig rfl (a:=.p (.str (S [x]))) (mX (a:=.p (.str (S buf))) (by rfl') (l:=.p (.int pos)) (by rfl') (u:=.p (.int (pos+1))) (by rfl') (t:=.p .none) (by rfl') ?_) (b:=.p (.str (S [32]))) (by rfl') (by rfl')) (l:=.p .none) (by rfl') (u:=.p (.int (-1))) (by rfl') (t:=.p .none) (by rfl') (by rfl')));rw[Xr (i:=pos) (j:=pos+1) rfl (by exact tH pos) (by exact b7 pos 1) (by exact kL) (by exact jj hz zC),b6,List.take_one,List.head?_drop,hx];rfl
 by_cases Iq:pos+1=buf.length
 ·refine aU (nW (GQ (by rfl') (gW rfl (a:=.p (.int (pos+1))) (ig rfl (a:=.p (.int pos)) (by rfl') (b:=.p (.int 1)) (by rfl') rfl) (b:=.p (.int buf.length)) (by rfl') (v:=.p (.bool false)) ?_ rfl))) ?_
  ·show Res.ok (V.p (.bool (decide ((pos:Int)+1<(buf.length:Int))))) _=_
   rw[ez (by exact fun pM=>(zJ [↑pos,↑buf.length] (.g (.add (.add bH eB) eB) cQ (.g cQ (.add bH eB) .e)) zC pM (zO (zG Iq))))]
  rw[show (buf.length:Int)=(pos:Int)+1 by exact zq (zO (zG Iq)) (zO (zA Iq))];exact tail
 ·refine aU (σ1:=⟨lR (iv 1) (iv pos) (iv (pos+1)),sS [g,a,b,c,d,e] lx buf pos,.no⟩) (vQ (GQ (by rfl') (gW rfl (a:=.p (.int (pos+1))) (ig rfl (a:=.p (.int pos)) (by rfl') (b:=.p (.int 1)) (by rfl') rfl) (b:=.p (.int buf.length)) (by rfl') (v:=.p (.bool true)) ?_ rfl)) (by rfl')) tail
  show Res.ok (V.p (.bool (decide ((pos:Int)+1<(buf.length:Int))))) _=_;rw[cL (by exact (aW Iq).elim (fun dK=>(zO dK)) fun dK=>((X3 kL dK).elim))]
theorem Qt {g a b c d e lx:Ob} {l:List (Str × Sl)} {buf:List Nat} (hT:∀ o∈[g,a,b,c,d,e],tL o) (hlx:Ob.lt 10 lx=true) (hz:buf.length≤1000) :
  (ev P (n+30)).C 602 [.obj 9,.p (.int 1)] [] ⟨l,sS [g,a,b,c,d,e] lx buf buf.length,.no⟩ = .ok (.p (.str (S []))) ⟨l,sS [g,a,b,c,d,e] lx buf buf.length,.no⟩:=by
 refine ud (fl:=.ret (.p (.str (S [])))) (σ1:=⟨lR (iv 1) (iv buf.length) (iv buf.length),sS [g,a,b,c,d,e] lx buf buf.length,.no⟩) ?_ rfl (DM hT hlx) rfl rfl rfl;have e0:eS (Kf P) (ev P (n+29)) 602 [.obj 9,.p (.int 1)] [] ⟨l,sS [g,a,b,c,d,e] lx buf buf.length,.no⟩=(ev P (n+29)).B (fM P 602).1.scope (fM P 602).2 ⟨lR (iv 1) .unset .unset,sS [g,a,b,c,d,e] lx buf buf.length,.no⟩:=by rfl'
 rw[e0];have low:=DM (buf:=buf) (pos:=buf.length) hT hlx;refine aU (nW (by rfl')) ?_;refine aU (fD (σ2:=⟨lR (iv 1) .unset .unset,sS [g,a,b,c,d,e] lx buf buf.length,.no⟩) rfl rfl (v:=.p (.int 1)) (b8 rfl rfl (fv:=.p (.adr 122)) (by rfl') (ac rfl (v:=.p (.int 1)) (by rfl') (a1 rfl (v:=.p (.str "StringIO.read of a size that is no exact int")) (by rfl'))) ((cR (by rfl')).trans (F5 low))) (by rfl')) ?_;refine aU (wh rfl (v:=.p .none) (jn rfl ⟨rfl,rfl,by decide,rfl⟩ (o:=.obj 9) (by rfl') (mk:=.fn 440 (.obj 9)) (by rfl') (us:=[]) rfl (Ff low))) ?_;refine aU (fD (σ2:=⟨lR (iv 1) (iv buf.length) .unset,sS [g,a,b,c,d,e] lx buf buf.length,.no⟩) rfl rfl (v:=.p (.int buf.length)) (by rfl') (by rfl')) ?_;refine aU (fD (σ2:=⟨lR (iv 1) (iv buf.length) (iv buf.length),sS [g,a,b,c,d,e] lx buf buf.length,.no⟩) rfl rfl (b8 rfl rfl (fv:=.p (.bi "len")) (by rfl') (a1 rfl (v:=.p (.str (S buf))) (by rfl')) (zR (ay hz (by decide)))) (by rfl')) ?_;refine kN (vQ (gW rfl (a:=.p (.int buf.length)) (by rfl') (b:=.p (.int buf.length)) (by rfl') (v:=.p (.bool true)) ?_ rfl) (by rfl'));show Res.ok (V.p (.bool (decide ((buf.length:Int)≤(buf.length:Int))))) _=_;rw[cL (qp _)]
end
section
variable {P:ai} {n:Nat} {σ:St}
noncomputable abbrev T6 (x1 x2 x3:Mine.P) (l0:List Mine.P):List Ob:=[.gone,.cell (some (.p x1)),.cell (some (.p x2)),.cell (some (.p x3)),.cell none,.list l0]
theorem HA {x1 x2 x3:Mine.P} {l0:List Mine.P}:∀ o∈T6 x1 x2 x3 l0,tL o:=by
 intro o ho;simp only [av,ng,KZ] at ho;refine O6 ho ?_ ?_ ?_ ?_ ?_ ?_<;>intro k hk
 ·exact cL hk
 all_goals first | rfl | rfl'
noncomputable def tb (P:ai):List Stmt:=wV ((fM P 759).2.getD 2 (.Pass default))
noncomputable def lT (q esc nc:Sl):List (Str × Sl):=[("self",.val (.obj 7)),("quoted",q),("escapedstate",esc),("nextchar",nc),("result",.unset)]
noncomputable abbrev bv (b:Bool):Sl:=.val (.p (.bool b))
variable {x1 x2 x3:Mine.P} {l0:List Mine.P} {buf tok:List Nat} {pos x:Nat} {q:Bool} {nc:Sl}
theorem GV {st:Mine.P} {r:Res Fl} (Mf:nc = .unset∨∃ v,nc = .val v) (hz:buf.length≤1000) (hx:buf[pos]?=some x)
  (k:(ev P (n+50)).B (fM P 759).1.scope ((tb P).drop 1) ⟨lT (bv q) (sv [32]) (sv [x]),sS (T6 x1 x2 x3 l0) (dQ (.p st) tok) buf (pos+1),.no⟩=r) :
  (ev P (n+50)).B (fM P 759).1.scope (tb P) ⟨lT (bv q) (sv [32]) nc,sS (T6 x1 x2 x3 l0) (dQ (.p st) tok) buf pos,.no⟩=r:=by
 refine aU (σ1:=⟨lT (bv q) (sv [32]) (sv [x]),sS (T6 x1 x2 x3 l0) (dQ (.p st) tok) buf (pos+1),.no⟩) (qP (Jm ?_) (eK (oW rfl rfl (jn rfl ⟨rfl,rfl,by decide,rfl⟩ (o:=.obj 9) (by rfl') (mk:=.fn 602 (.obj 9)) (by rfl') (a1 rfl (v:=.p (.int 1)) (by rfl')) (UK HA (by rfl') hz hx)) ?_))) k
 ·rfl'
 ·rcases Mf with rfl | ⟨v,rfl⟩<;>rfl'
theorem M7 (hz:x=97∨x=98∨x=61∨x=37):(ev P (n+50)).B (fM P 759).1.scope ((tb P).drop 1) ⟨lT (bv q) (sv [32]) (sv [x]),sS (T6 x1 x2 x3 l0) (dQ (.p (.str (S [32]))) []) buf (pos+1),.no⟩ =
  .ok .next ⟨lT (bv q) (sv [32]) (sv [x]),sS (T6 x1 x2 x3 l0) (dQ (.p (.str (S [97]))) [x]) buf (pos+1),.no⟩:=by
 refine O4 hz ?_ ?_ ?_ ?_<;>rfl'
theorem M6:(ev P (n+50)).B (fM P 759).1.scope ((tb P).drop 1) ⟨lT (bv q) (sv [32]) (sv [39]),sS (T6 x1 x2 x3 l0) (dQ (.p (.str (S [32]))) []) buf (pos+1),.no⟩ =
  .ok .next ⟨lT (bv q) (sv [32]) (sv [39]),sS (T6 x1 x2 x3 l0) (dQ (.p (.str (S [39]))) []) buf (pos+1),.no⟩:=by rfl'
noncomputable abbrev tS (q:Bool) (x:List Nat) (st:Mine.P) (tok:List Nat) (x1 x2 x3:Mine.P) (l0:List Mine.P) (buf:List Nat) (pos:Nat):St:=⟨lT (bv q) (sv [32]) (sv x),sS (T6 x1 x2 x3 l0) (dQ (.p st) tok) buf pos,.no⟩
theorem UY (hz:x=97∨x=98∨x=61∨x=37) (ht:tok.length≤2):(ev P (n+50)).B (fM P 759).1.scope ((tb P).drop 1) (tS q [x] (.str (S [97])) tok x1 x2 x3 l0 buf pos) = .ok .next (tS q [x] (.str (S [97])) (tok++[x]) x1 x2 x3 l0 buf pos):=by
 rcases tok with _ | ⟨y1,_ | ⟨y2,_ | ⟨y3,_⟩⟩⟩
 ·refine O4 hz ?_ ?_ ?_ ?_<;>rfl'
 ·refine O4 hz ?_ ?_ ?_ ?_<;>rfl'
 ·refine O4 hz ?_ ?_ ?_ ?_<;>rfl'
 ·simp at ht
theorem Q9 (hz:x=39∨x=34):(ev P (n+50)).B (fM P 759).1.scope ((tb P).drop 1) (tS q [x] (.str (S [97])) tok x1 x2 x3 l0 buf pos) = .ok .next (tS q [x] (.str (S [x])) tok x1 x2 x3 l0 buf pos):=by
 refine O2 hz ?_ ?_<;>rfl'
theorem Z4 (hz:x=97∨x=98∨x=61∨x=32∨x=9∨x=233∨x=37) (ht:tok.length≤2):(ev P (n+50)).B (fM P 759).1.scope ((tb P).drop 1) (tS q [x] (.str (S [39])) tok x1 x2 x3 l0 buf pos) = .ok .next (tS true [x] (.str (S [39])) (tok++[x]) x1 x2 x3 l0 buf pos):=by
 rcases tok with _ | ⟨y1,_ | ⟨y2,_ | ⟨y3,_⟩⟩⟩
 ·refine O7 hz ?_ ?_ ?_ ?_ ?_ ?_ ?_<;>rfl'
 ·refine O7 hz ?_ ?_ ?_ ?_ ?_ ?_ ?_<;>rfl'
 ·refine O7 hz ?_ ?_ ?_ ?_ ?_ ?_ ?_<;>rfl'
 ·simp at ht
theorem U0 (ht:tok.length≤2):(ev P (n+50)).B (fM P 759).1.scope ((tb P).drop 1) (tS q [39] (.str (S [34])) tok x1 x2 x3 l0 buf pos) = .ok .next (tS true [39] (.str (S [34])) (tok++[39]) x1 x2 x3 l0 buf pos):=by
 rcases tok with _ | ⟨y1,_ | ⟨y2,_ | ⟨y3,_⟩⟩⟩
 ·rfl'
 ·rfl'
 ·rfl'
 ·simp at ht
theorem M5 (hz:x=39∨x=34):(ev P (n+50)).B (fM P 759).1.scope ((tb P).drop 1) (tS q [x] (.str (S [x])) tok x1 x2 x3 l0 buf pos) = .ok .next (tS true [x] (.str (S [97])) tok x1 x2 x3 l0 buf pos):=by
 refine O2 hz ?_ ?_<;>rfl'
theorem M4 (ht:tok.length≤3) (h:tok≠[]∨q=true):(ev P (n+50)).B (fM P 759).1.scope ((tb P).drop 1) (tS q [32] (.str (S [97])) tok x1 x2 x3 l0 buf pos) = .ok .brk (tS q [32] (.str (S [32])) tok x1 x2 x3 l0 buf pos):=by
 rcases tok with _ | ⟨y1,_ | ⟨y2,_ | ⟨y3,_ | ⟨y4,_⟩⟩⟩⟩
 ·obtain rfl:=h.resolve_left (fun z=>z rfl)
  rfl'
 ·rfl'
 ·rfl'
 ·rfl'
 ·simp at ht
theorem UZ:(ev P (n+50)).B (fM P 759).1.scope ((tb P).drop 1) (tS q [] (.str (S [97])) tok x1 x2 x3 l0 buf pos) = .ok .brk (tS q [] .none tok x1 x2 x3 l0 buf pos):=by rfl'
theorem Q8:(ev P (n+50)).B (fM P 759).1.scope ((tb P).drop 1) (tS q [] .none tok x1 x2 x3 l0 buf pos) = .ok .brk (tS q [] .none [] x1 x2 x3 l0 buf pos):=by rfl'
end
section
variable {P:ai} {n:Nat} {σ:St}
noncomputable def Rf (z:Bool × Nat × List Nat) (x:Nat):Option (Bool × Nat × List Nat):=
 if z.2.1=32 then (if z.2.2=[] then (if x=97∨x=98∨x=61∨x=37 then some (z.1,97,[x]) else if x=39 then some (z.1,39,[]) else none) else none)
 else if z.2.1=97 then (if (x=97∨x=98∨x=61∨x=37)∧z.2.2.length≤2 then some (z.1,97,z.2.2++[x]) else if x=39∨x=34 then some (z.1,x,z.2.2) else none)
 else if z.2.1=39 then (if x=39 then some (true,97,z.2.2) else if (x=97∨x=98∨x=61∨x=32∨x=9∨x=233∨x=37)∧z.2.2.length≤2 then some (true,39,z.2.2++[x]) else none)
 else if z.2.1=34 then (if x=34 then some (true,97,z.2.2) else if x=39∧z.2.2.length≤2 then some (true,34,z.2.2++[39]) else none)
 else none
noncomputable def Rc:Bool × Nat × List Nat→List Nat→Option (Bool × Nat × List Nat)
 | z,[]=>some z
 | z,x :: r=>(Rf z x).bind fun z'=>Rc z' r
theorem CV:∀ w∈d8,∃ q,Rc (false,32,[]) (b9 w)=some (q,97,w)∧(w≠[]∨q=true)∧w.length≤3:=by
 have h:(d8.all fun w=>match Rc (false,32,[]) (b9 w) with
  | some (q,st,tok)=>st==97&&tok==w&&(!w.isEmpty||q)&&decide (w.length≤3)
  | none=>false)=true:=by decide +kernel
 intro w hw;have:=cG.mp h w hw;refine oC (Rc (false,32,[]) (b9 w)) (fun e=>?_) fun z e=>?_
 ·rw[e] at this;cases this
 ·obtain ⟨q,st,tok⟩:=z
  rw[e] at this;simp only [aR,beq_iff_eq,br,jB,dM] at this;refine cz this fun afV h2=>?_;refine cz afV fun afW h1=>?_;refine cz afW fun afX afY=>?_;rw[afX];rw[afY];exact ⟨q,rfl,h1.imp (fun z y=>by rw[y] at z;cases z) id,h2⟩
variable {x1 x2 x3:Mine.P} {l0:List Mine.P} {buf tok:List Nat} {pos x:Nat} {q:Bool} {nc:Sl}
@[elab_as_elim] theorem Jq {M:Nat→List Nat→Bool × Nat × List Nat→Nat→Prop} {st:Nat} {z':Bool × Nat × List Nat} (h:Rf (q,st,tok) x=some z')
  (a1:∀ x,(x=97∨x=98∨x=61∨x=37)→M 32 [] (q,97,[x]) x) (a2:M 32 [] (q,39,[]) 39) (a3:∀ tok x,(x=97∨x=98∨x=61∨x=37)→tok.length≤2→M 97 tok (q,97,tok++[x]) x)
  (a4:∀ tok x,(x=39∨x=34)→M 97 tok (q,x,tok) x) (a5:∀ tok x,(x=39∨x=34)→M x tok (true,97,tok) x)
  (a6:∀ tok x,(x=97∨x=98∨x=61∨x=32∨x=9∨x=233∨x=37)→tok.length≤2→M 39 tok (true,39,tok++[x]) x) (a7:∀ tok,tok.length≤2→M 34 tok (true,34,tok++[39]) 39):M st tok z' x:=by
 have jW:∀ {p:Prop} [mV p] {a b:Option (Bool × Nat × List Nat)} {C:Prop},(if p then a else b)=some z'→(p→a=some z'→C)→(¬p→b=some z'→C)→C:=fun {p} _ {a b C} e f g =>
  if q:p then f q ((aA q).symm.trans e) else g q ((aS q).symm.trans e)
 refine jW h (fun c h=>?_) fun c h=>jW h (fun c h=>?_) fun c h=>jW h (fun c h=>?_) fun c h=>jW h (fun c h=>?_) fun _ h=>nomatch h
 ·rw[show st=32 from c]
  refine jW h (fun c h=>?_) fun _ h=>nomatch h
  rw[show tok=[] from c];refine jW h (fun c h=>aC h ▸ a1 x c) fun _ h=>jW h (fun c h=>?_) fun _ h=>nomatch h
  rw[c];exact aC h ▸ a2
 ·rw[show st=97 from c]
  exact jW h (fun c h=>aC h ▸ a3 tok x c.1 c.2) fun _ h=>jW h (fun c h=>aC h ▸ a4 tok x c) fun _ h=>nomatch h
 ·rw[show st=39 from c]
  refine jW h (fun c h=>?_) fun _ h=>jW h (fun c h=>aC h ▸ a6 tok x c.1 c.2) fun _ h=>nomatch h
  rw[c];exact aC h ▸ a5 tok 39 (.inl rfl)
 ·rw[show st=34 from c]
  refine jW h (fun c h=>?_) fun _ h=>jW h (fun c h=>?_) fun _ h=>nomatch h
  ·rw[c]
   exact aC h ▸ a5 tok 34 (.inr rfl)
  ·rw[c.1]
   exact aC h ▸ a7 tok c.2
theorem Rg {z z':Bool × Nat × List Nat} (h:Rf z x=some z') (Mf:nc = .unset∨∃ v,nc = .val v) (hz:buf.length≤1000) (hx:buf[pos]?=some x) :
  (ev P (n+50)).B (fM P 759).1.scope (tb P) ⟨lT (bv z.1) (sv [32]) nc,sS (T6 x1 x2 x3 l0) (dQ (.p (.str (S [z.2.1]))) z.2.2) buf pos,.no⟩ = .ok .next (tS z'.1 [x] (.str (S [z'.2.1])) z'.2.2 x1 x2 x3 l0 buf (pos+1)):=
 GV Mf hz hx (Jq (M:=fun st tok z' x=>(ev P (n+50)).B (fM P 759).1.scope ((tb P).drop 1) ⟨lT (bv z.1) (sv [32]) (sv [x]),sS (T6 x1 x2 x3 l0) (dQ (.p (.str (S [st]))) tok) buf (pos+1),.no⟩ = .ok .next (tS z'.1 [x] (.str (S [z'.2.1])) z'.2.2 x1 x2 x3 l0 buf (pos+1))) h
  (fun _ c=>M7 c) M6 (fun _ _ c d=>UY c d) (fun _ _ c=>Q9 c) (fun _ _ c=>M5 c) (fun _ _ c d=>Z4 c d) fun _ d=>U0 d)
theorem Ea {t:Mo Bool} (ht:∀ σ,t σ = .ok true σ) {r:Res Fl} (hz:buf.length≤1000):∀ (xs:List Nat) (z z':Bool × Nat × List Nat) (pos k:Nat) (nc:Sl),Rc z xs=some z'→(nc = .unset∨∃ v,nc = .val v)→(∀ i,i<xs.length→buf[pos+i]?=xs[i]?) →
  (∀ Yo,(Yo = .unset∨∃ v,Yo = .val v)→lS t ((ev P (n+50)).B (fM P 759).1.scope (tb P)) k ⟨lT (bv z'.1) (sv [32]) Yo,sS (T6 x1 x2 x3 l0) (dQ (.p (.str (S [z'.2.1]))) z'.2.2) buf (pos+xs.length),.no⟩=r) →
  lS t ((ev P (n+50)).B (fM P 759).1.scope (tb P)) (k+xs.length) ⟨lT (bv z.1) (sv [32]) nc,sS (T6 x1 x2 x3 l0) (dQ (.p (.str (S [z.2.1]))) z.2.2) buf pos,.no⟩=r
 | [],z,z',pos,k,nc,h,Mf,_,hk=>by cases h;exact hk nc Mf
 | x :: xs,z,z',pos,k,nc,h,Mf,hb,hk=>by
  refine bU (aY.mp h) fun z1 h1 h2=>?_;refine HH (k:=k+xs.length) (ht _) (Rg h1 Mf hz (by have:=hb 0 (by simp);simpa using this)) ?_;refine Ea ht hz xs z1 z' (pos+1) k _ h2 (.inr ⟨_,rfl⟩) (fun i hi=>?_) fun Yo Pc=>?_
  ·have:=hb (i+1) (by simp;exact hi)
   rw[show pos+1+i=pos+(i+1) by exact dY pos i,this];rfl
  ·have:=hk Yo Pc
   rw[dU,show pos+(xs.length+1)=pos+1+xs.length by exact iI (dY pos xs.length)] at this;exact this
end
section
variable {P:ai} {n:Nat} {σ σ1:St}
theorem JN {t:Mo Bool} {b:Mo Fl} {k:Nat} (h:t σ = .ok true σ) (hb:b σ = .ok .brk σ1):lS t b (k+1) σ = .ok .next σ1:=rb h (rb hb rfl)
variable {x1 x2 x3:Mine.P} {l0:List Mine.P} {buf tok:List Nat} {pos x:Nat} {q:Bool} {nc:Sl}
theorem sL:∀ w∈d8,g9 (.str (S w))=true:=by
 have h:(d8.all fun w=>g9 (.str (S w)))=true:=by decide +kernel
 exact fun w hw=>cG.mp h w hw
theorem eq_nil {w:List Nat} (hs:g9 (.str (S w))=true) (h:w≠[]):rF .Eq (.p (.str (S w))) (.p (.str (S []))) σ = .ok (.p (.bool false)) σ:=by
 refine rb (a:=false) (σ1:=σ) ?_ rfl;show (if g9 (.str (S w))=true∧g9 (.str (S []))=true then (pure (u9 (.str (S w)) (.str (S []))):Mo Bool) else Mo.fail) σ=_;rw[aA ⟨hs,by decide +kernel⟩];show Res.ok (u9 (.str (S w)) (.str (S []))) σ=_;have e:u9 (.str (S w)) (.str (S []))=(S w==S []):=by rfl'
 rw[e,aJ.mpr];intro q;have:=aK RN q;exact h (nP this)
theorem GW {st:Mine.P} {w xs:List Nat} (hw:w∈d8) (hq:w≠[]∨q=true):(ev P (n+51)).B (fM P 759).1.scope ((fM P 759).2.drop 3) (tS q xs st w x1 x2 x3 l0 buf pos) =
  .ok (.ret (.p (.str (S w)))) ⟨[("self",.val (.obj 7)),("quoted",bv q),("escapedstate",sv [32]),("nextchar",sv xs),("result",sv w)],sS (T6 x1 x2 x3 l0) (dQ (.p st) []) buf pos,.no⟩:=by
 cases q with
 | true=>rfl'
 | false =>
  have hw0:w≠[]:=hq.resolve_right bR;refine aU (σ1:=⟨[("self",.val (.obj 7)),("quoted",bv false),("escapedstate",sv [32]),("nextchar",sv xs),("result",sv w)],sS (T6 x1 x2 x3 l0) (dQ (.p st) w) buf pos,.no⟩) (by rfl') ?_;refine aU (σ1:=⟨[("self",.val (.obj 7)),("quoted",bv false),("escapedstate",sv [32]),("nextchar",sv xs),("result",sv w)],sS (T6 x1 x2 x3 l0) (dQ (.p st) []) buf pos,.no⟩) (by rfl') ?_;refine aU (nW (Ww (Q6 (by rfl') (Q6 (by rfl') (aiD (gW rfl (a:=.p (.str (S w))) (by rfl') (b:=.p (.str (S []))) (by rfl') (v:=.p (.bool false)) (eq_nil (sL w hw) hw0) rfl)))))) ?_;rfl'
theorem M8 {xs:List Nat}:(ev P (n+51)).B (fM P 759).1.scope ((fM P 759).2.drop 3) (tS false xs .none [] x1 x2 x3 l0 buf pos) =
  .ok (.ret (.p .none)) ⟨[("self",.val (.obj 7)),("quoted",bv false),("escapedstate",sv [32]),("nextchar",sv xs),("result",.val (.p .none))],sS (T6 x1 x2 x3 l0) (dQ (.p .none) []) buf pos,.no⟩:=by rfl'
theorem CU {st:Mine.P} {r:Res Fl} (Mf:nc = .unset∨∃ v,nc = .val v) (hz:buf.length≤1000)
  (k:(ev P (n+50)).B (fM P 759).1.scope ((tb P).drop 1) ⟨lT (bv q) (sv [32]) (sv []),sS (T6 x1 x2 x3 l0) (dQ (.p st) tok) buf buf.length,.no⟩=r) :
  (ev P (n+50)).B (fM P 759).1.scope (tb P) ⟨lT (bv q) (sv [32]) nc,sS (T6 x1 x2 x3 l0) (dQ (.p st) tok) buf buf.length,.no⟩=r:=by
 refine aU (σ1:=⟨lT (bv q) (sv [32]) (sv []),sS (T6 x1 x2 x3 l0) (dQ (.p st) tok) buf buf.length,.no⟩) (qP (Jm ?_) (eK (oW rfl rfl (jn rfl ⟨rfl,rfl,by decide,rfl⟩ (o:=.obj 9) (by rfl') (mk:=.fn 602 (.obj 9)) (by rfl') (a1 rfl (v:=.p (.int 1)) (by rfl')) (Qt HA (by rfl') hz)) ?_))) k
 ·rfl'
 ·rcases Mf with rfl | ⟨v,rfl⟩<;>rfl'
theorem wR {l:List (Str × Sl)} {st:Mine.P} {v:Mine.P} {σ2 WG:St} {Le:Mine.P} {pos':Nat}
  (h:∀ {t:Mo Bool},(∀ σ,t σ = .ok true σ)→lS t ((ev P (n+50)).B (fM P 759).1.scope (tb P)) 4096 ⟨lT (bv false) (sv [32]) .unset,sS (T6 x1 x2 x3 l0) (dQ (.p st) []) buf pos,.no⟩ = .ok .next σ2)
  (h2:(ev P (n+51)).B (fM P 759).1.scope ((fM P 759).2.drop 3) σ2 = .ok (.ret (.p v)) WG) (h3:WG.aP=sS (T6 x1 x2 x3 l0) (dQ (.p Le) []) buf pos') :
  (ev P (n+52)).C 759 [.obj 7] [] ⟨l,sS (T6 x1 x2 x3 l0) (dQ (.p st) []) buf pos,.no⟩ = .ok (.p v) ⟨l,sS (T6 x1 x2 x3 l0) (dQ (.p Le) []) buf pos',.no⟩:=by
 refine ud (fl:=.ret (.p v)) (σ1:=WG) ?_ rfl (by rw[h3];rfl') (by rw[h3];rfl) rfl rfl;have e0:eS (Kf P) (ev P (n+51)) 759 [.obj 7] [] ⟨l,sS (T6 x1 x2 x3 l0) (dQ (.p st) []) buf pos,.no⟩=(ev P (n+51)).B (fM P 759).1.scope (fM P 759).2 ⟨lT .unset .unset .unset,sS (T6 x1 x2 x3 l0) (dQ (.p st) []) buf pos,.no⟩:=by rfl'
 rw[e0];refine aU (fD (σ2:=⟨lT (bv false) .unset .unset,sS (T6 x1 x2 x3 l0) (dQ (.p st) []) buf pos,.no⟩) rfl rfl (v:=.p (.bool false)) (by rfl') (by rfl')) ?_;refine aU (fD (σ2:=⟨lT (bv false) (sv [32]) .unset,sS (T6 x1 x2 x3 l0) (dQ (.p st) []) buf pos,.no⟩) rfl rfl (v:=.p (.str (S [32]))) (by rfl') (by rfl')) ?_;exact aU (C8 (h fun σ=>by rfl')) h2
theorem GX {l:List (Str × Sl)} {a b w:List Nat} (hw:w∈d8) (hz:(a++b9 w++32 :: b).length≤1000):(ev P (n+52)).C 759 [.obj 7] [] ⟨l,sS (T6 x1 x2 x3 l0) (dQ (.p (.str (S [32]))) []) (a++b9 w++32 :: b) a.length,.no⟩ =
  .ok (.p (.str (S w))) ⟨l,sS (T6 x1 x2 x3 l0) (dQ (.p (.str (S [32]))) []) (a++b9 w++32 :: b) (a.length+(b9 w).length+1),.no⟩:=by
 refine nv (CV w hw) fun q h1 h2 h3=>?_;have hl:=qe w hw;refine wR (fun {t} ht=>?_) (GW (q:=q) (xs:=[32]) (st:=.str (S [32])) (pos:=a.length+(b9 w).length+1) hw h2) rfl;rw[show 4096=(4095 - (b9 w).length+1)+(b9 w).length by exact zQ (acE (zS _ _)) (acF (zB (jj hl zC)))];refine Ea ht hz (b9 w) (false,32,[]) (q,97,w) a.length _ .unset h1 (.inl rfl) (fun i hi=>?_) fun Yo Pc=>?_
 ·rw[dN,bw (by exact b7 a.length i),b6,cW hi]
 ·refine JN (ht _) (GV Pc hz (x:=32) ?_ (M4 h3 h2))
  rw[bw (by simp),aO];simp
theorem M9 {l:List (Str × Sl)} {a w:List Nat} (hw:w∈d8) (hz:(a++b9 w).length≤1000):(ev P (n+52)).C 759 [.obj 7] [] ⟨l,sS (T6 x1 x2 x3 l0) (dQ (.p (.str (S [32]))) []) (a++b9 w) a.length,.no⟩ =
  .ok (.p (.str (S w))) ⟨l,sS (T6 x1 x2 x3 l0) (dQ (.p .none) []) (a++b9 w) (a++b9 w).length,.no⟩:=by
 refine nv (CV w hw) fun q h1 h2 h3=>?_;have hl:=qe w hw;refine wR (fun {t} ht=>?_) (GW (q:=q) (xs:=[]) (st:=.none) (pos:=(a++b9 w).length) hw h2) rfl;rw[show 4096=(4095 - (b9 w).length+1)+(b9 w).length by exact zQ (acE (zS _ _)) (acF (zB (jj hl zC)))];refine Ea ht hz (b9 w) (false,32,[]) (q,97,w) a.length _ .unset h1 (.inl rfl) (fun i hi=>?_) fun Yo Pc=>?_
 ·rw[bw (by exact b7 a.length i),b6]
 ·rw[← aO]
  exact JN (ht _) (CU Pc hz UZ)
theorem Jp {l:List (Str × Sl)} (hz:buf.length≤1000):(ev P (n+52)).C 759 [.obj 7] [] ⟨l,sS (T6 x1 x2 x3 l0) (dQ (.p .none) []) buf buf.length,.no⟩ = .ok (.p .none) ⟨l,sS (T6 x1 x2 x3 l0) (dQ (.p .none) []) buf buf.length,.no⟩:=
 wR (fun {t} ht=>JN (ht _) (CU (.inl rfl) hz Q8)) (M8 (xs:=[])) rfl
end
section
variable {P:ai} {n:Nat} {σ σ1:St}
variable {x1 x2 x3:Mine.P} {l0:List Mine.P} {buf:List Nat} {pos pos':Nat}
theorem J1 {w:List Nat} (hs:g9 (.str (S w))=true):rF .Eq (.p (.str (S w))) (.p .none) σ = .ok (.p (.bool false)) σ:=by
 refine rb (a:=false) (σ1:=σ) ?_ rfl;show (if g9 (.str (S w))=true∧g9 .none=true then (pure (u9 (.str (S w)) .none):Mo Bool) else Mo.fail) σ=_;rw[aA ⟨hs,by decide +kernel⟩];rfl
noncomputable def lG (raw:Sl):List (Str × Sl):=[("self",.val (.obj 7)),("tok",.unset),("raw",raw),("spec",.unset),("newfile",.unset),("newstream",.unset)]
theorem OT {l:List (Str × Sl)} {st Le:Mine.P} {w:List Nat} (hw:w∈d8) (h:∀ l,(ev P (n+52)).C 759 [.obj 7] [] ⟨l,sS (T6 x1 x2 x3 l0) (dQ (.p st) []) buf pos,.no⟩ = .ok (.p (.str (S w))) ⟨l,sS (T6 x1 x2 x3 l0) (dQ (.p Le) []) buf pos',.no⟩) :
  (ev P (n+55)).C 752 [.obj 7] [] ⟨l,sS (T6 x1 x2 x3 l0) (dQ (.p st) []) buf pos,.no⟩ = .ok (.p (.str (S w))) ⟨l,sS (T6 x1 x2 x3 l0) (dQ (.p Le) []) buf pos',.no⟩:=by
 refine ud (fl:=.ret (.p (.str (S w)))) (σ1:=⟨lG (sv w),sS (T6 x1 x2 x3 l0) (dQ (.p Le) []) buf pos',.no⟩) ?_ rfl (by rfl') rfl rfl rfl;have e0:eS (Kf P) (ev P (n+54)) 752 [.obj 7] [] ⟨l,sS (T6 x1 x2 x3 l0) (dQ (.p st) []) buf pos,.no⟩=(ev P (n+54)).B (fM P 752).1.scope (fM P 752).2 ⟨lG .unset,sS (T6 x1 x2 x3 l0) (dQ (.p st) []) buf pos,.no⟩:=by rfl'
 rw[e0];refine aU (nW (by rfl')) ?_;refine aU (oW (σ1:=⟨lG .unset,sS (T6 x1 x2 x3 l0) (dQ (.p Le) []) buf pos',.no⟩) (σ2:=⟨lG (sv w),sS (T6 x1 x2 x3 l0) (dQ (.p Le) []) buf pos',.no⟩) rfl rfl (jn rfl ⟨rfl,rfl,by decide,rfl⟩ (o:=.obj 7) (by rfl') (mk:=.fn 759 (.obj 7)) (by rfl') (us:=[]) rfl (h _)) (by rfl')) ?_;refine aU (nW (by rfl')) ?_;refine aU (vP (gW rfl (a:=.p (.str (S w))) (by rfl') (b:=.p .none) (by rfl') (J1 (sL w hw)) rfl)) ?_;refine aU (nW (by rfl')) ?_;exact kN (o6 (by rfl'))
theorem get_none {l:List (Str × Sl)} (hz:buf.length≤1000):(ev P (n+55)).C 752 [.obj 7] [] ⟨l,sS (T6 x1 x2 x3 l0) (dQ (.p .none) []) buf buf.length,.no⟩ = .ok (.p .none) ⟨l,sS (T6 x1 x2 x3 l0) (dQ (.p .none) []) buf buf.length,.no⟩:=by
 refine ud (fl:=.ret (.p .none)) (σ1:=⟨lG (.val (.p .none)),sS (T6 x1 x2 x3 l0) (dQ (.p .none) []) buf buf.length,.no⟩) ?_ rfl (by rfl') rfl rfl rfl;have e0:eS (Kf P) (ev P (n+54)) 752 [.obj 7] [] ⟨l,sS (T6 x1 x2 x3 l0) (dQ (.p .none) []) buf buf.length,.no⟩=(ev P (n+54)).B (fM P 752).1.scope (fM P 752).2 ⟨lG .unset,sS (T6 x1 x2 x3 l0) (dQ (.p .none) []) buf buf.length,.no⟩:=by rfl'
 rw[e0];refine aU (nW (by rfl')) ?_;refine aU (oW (σ1:=⟨lG .unset,sS (T6 x1 x2 x3 l0) (dQ (.p .none) []) buf buf.length,.no⟩) (σ2:=⟨lG (.val (.p .none)),sS (T6 x1 x2 x3 l0) (dQ (.p .none) []) buf buf.length,.no⟩) rfl rfl (jn rfl ⟨rfl,rfl,by decide,rfl⟩ (o:=.obj 7) (by rfl') (mk:=.fn 759 (.obj 7)) (by rfl') (us:=[]) rfl (Jp hz)) (by rfl')) ?_;refine aU (nW (by rfl')) ?_;rfl'
end
section
variable {P:ai} {n:Nat} {σ σ1:St}
variable {x1 x2 x3:Mine.P} {l0:List Mine.P} {buf:List Nat} {pos pos':Nat}
theorem agL {a:Addr} {u:V} {fl:Fl} {x:Mine.P} {σ2:St} (h:eS (Kf P) (ev P n) a [u] [] σ = .ok fl σ1) (hv:qN fl = .p x) (hl:gG σ.aP.length σ1.aP=true) (ht:σ1.aP.take σ.aP.length=σ2.aP) (h2:σ2.loc=σ.loc) (h3:σ2.dw=σ.dw):(ev P (n+1)).N a u σ = .ok (some (.p x)) σ2:=by
 show tZ (Kf P) (ev P n) a u σ=_;unfold tZ;rw[h];have e:i7 σ σ1 (qN fl) = .ok (.p x) σ2:=by
  rw[hv];unfold i7;rw[aA hl,aA (show V.lt _ (.p x)=true from by rw[V.lt]),ht];obtain ⟨_,_,_⟩:=σ2;simp only at h2 h3;rw[h2,h3]
 simp only [e]
theorem WR {a:Addr} {u:V} {σ2:St} (h:eS (Kf P) (ev P n) a [u] [] σ = .exc .stop σ1) (hl:gG σ.aP.length σ1.aP=true) (ht:σ1.aP.take σ.aP.length=σ2.aP) (h2:σ2.loc=σ.loc) (h3:σ2.dw=σ.dw):(ev P (n+1)).N a u σ = .ok none σ2:=by
 show tZ (Kf P) (ev P n) a u σ=_;unfold tZ;rw[h];simp only [hl,gz,ht];obtain ⟨_,_,_⟩:=σ2;simp only at h2 h3;rw[h2,h3]
theorem Ca {l:List (Str × Sl)} {st Le:Mine.P} {w:List Nat} (hw:w∈d8) (h:∀ l,(ev P (n+52)).C 759 [.obj 7] [] ⟨l,sS (T6 x1 x2 x3 l0) (dQ (.p st) []) buf pos,.no⟩ = .ok (.p (.str (S w))) ⟨l,sS (T6 x1 x2 x3 l0) (dQ (.p Le) []) buf pos',.no⟩) :
  (ev P (n+58)).N 788 (.obj 7) ⟨l,sS (T6 x1 x2 x3 l0) (dQ (.p st) []) buf pos,.no⟩ = .ok (some (.p (.str (S w)))) ⟨l,sS (T6 x1 x2 x3 l0) (dQ (.p Le) []) buf pos',.no⟩:=by
 refine agL (fl:=.ret (.p (.str (S w)))) (σ1:=⟨[("self",.val (.obj 7)),("token",sv w)],sS (T6 x1 x2 x3 l0) (dQ (.p Le) []) buf pos',.no⟩) ?_ rfl (by rfl') rfl rfl rfl;have e0:eS (Kf P) (ev P (n+57)) 788 [.obj 7] [] ⟨l,sS (T6 x1 x2 x3 l0) (dQ (.p st) []) buf pos,.no⟩=(ev P (n+57)).B (fM P 788).1.scope (fM P 788).2 ⟨[("self",.val (.obj 7)),("token",.unset)],sS (T6 x1 x2 x3 l0) (dQ (.p st) []) buf pos,.no⟩:=by rfl'
 rw[e0];refine aU (oW (σ1:=⟨[("self",.val (.obj 7)),("token",.unset)],sS (T6 x1 x2 x3 l0) (dQ (.p Le) []) buf pos',.no⟩) (σ2:=⟨[("self",.val (.obj 7)),("token",sv w)],sS (T6 x1 x2 x3 l0) (dQ (.p Le) []) buf pos',.no⟩) rfl rfl (jn rfl ⟨rfl,rfl,by decide,rfl⟩ (o:=.obj 7) (by rfl') (mk:=.fn 752 (.obj 7)) (by rfl') (us:=[]) rfl (OT hw h)) (by rfl')) ?_;refine aU (nW (gW rfl (a:=.p (.str (S w))) (by rfl') (b:=.p .none) (by rfl') (J1 (sL w hw)) rfl)) ?_;exact kN (o6 (by rfl'))
theorem MA {l:List (Str × Sl)} (hz:buf.length≤1000):(ev P (n+58)).N 788 (.obj 7) ⟨l,sS (T6 x1 x2 x3 l0) (dQ (.p .none) []) buf buf.length,.no⟩ = .ok none ⟨l,sS (T6 x1 x2 x3 l0) (dQ (.p .none) []) buf buf.length,.no⟩:=by
 refine WR (σ1:=⟨[("self",.val (.obj 7)),("token",.val (.p .none))],sS (T6 x1 x2 x3 l0) (dQ (.p .none) []) buf buf.length,.no⟩) ?_ (by rfl') rfl rfl rfl;have e0:eS (Kf P) (ev P (n+57)) 788 [.obj 7] [] ⟨l,sS (T6 x1 x2 x3 l0) (dQ (.p .none) []) buf buf.length,.no⟩=(ev P (n+57)).B (fM P 788).1.scope (fM P 788).2 ⟨[("self",.val (.obj 7)),("token",.unset)],sS (T6 x1 x2 x3 l0) (dQ (.p .none) []) buf buf.length,.no⟩:=by rfl'
 rw[e0];refine aU (oW (σ1:=⟨[("self",.val (.obj 7)),("token",.unset)],sS (T6 x1 x2 x3 l0) (dQ (.p .none) []) buf buf.length,.no⟩) (σ2:=⟨[("self",.val (.obj 7)),("token",.val (.p .none))],sS (T6 x1 x2 x3 l0) (dQ (.p .none) []) buf buf.length,.no⟩) rfl rfl (jn rfl ⟨rfl,rfl,by decide,rfl⟩ (o:=.obj 7) (by rfl') (mk:=.fn 752 (.obj 7)) (by rfl') (us:=[]) rfl (get_none hz)) (by rfl')) ?_;rfl'
end
section
variable {P:ai} {n:Nat} {σ σ1:St}
variable {x1 x2 x3:Mine.P} {l0:List Mine.P} {buf:List Nat} {pos pos':Nat}
theorem NO {SX:St→Bool} {nx:Mo (Option V)} {k:Nat} {aP Jj:List Ob} {x:Mine.P} {xs:List Mine.P} {σ2:St} (hc:SX ⟨[],aP,.no⟩=true) (h:nx ⟨[],aP,.no⟩ = .ok (some (.p x)) ⟨[],Jj,.no⟩) (hk:kT SX nx k ⟨[],Jj,.no⟩ = .ok xs σ2):kT SX nx (k+1) ⟨[],aP,.no⟩ = .ok (x :: xs) σ2:=by
 unfold kT;simp only [hc,gz];refine rb (a:=some (.p x)) (σ1:=⟨[],Jj,.no⟩) ?_ (rb hk rfl);dsimp only [m7];rw[h]
theorem aaU {SX:St→Bool} {nx:Mo (Option V)} {k:Nat} {aP Jj:List Ob} (hc:SX ⟨[],aP,.no⟩=true) (h:nx ⟨[],aP,.no⟩ = .ok none ⟨[],Jj,.no⟩):kT SX nx (k+1) ⟨[],aP,.no⟩ = .ok [] ⟨[],Jj,.no⟩:=by
 dsimp only [kT];simp only [hc,gz];refine rb (a:=none) (σ1:=⟨[],Jj,.no⟩) ?_ rfl;dsimp only [m7];rw[h]
theorem yU:∀ (ws:List (List Nat)) (a buf:List Nat) (k:Nat),ws≠[]→(∀ w∈ws,w∈d8)→ws.length<k→buf=a++eL (ws.map b9)→buf.length≤1000 →
  kT (oz 7 791) ((ev P (n+58)).N 788 (.obj 7)) k ⟨[],sS (T6 x1 x2 x3 l0) (dQ (.p (.str (S [32]))) []) buf a.length,.no⟩ = .ok (ws.map fun w=>.str (S w)) ⟨[],sS (T6 x1 x2 x3 l0) (dQ (.p .none) []) buf buf.length,.no⟩
 | [w],a,buf,k,_,hw,hk,hb,hz=>by
  obtain ⟨k,rfl⟩:∃ k',k=k'+2:=⟨k - 2,by simp at hk;exact (f7 hk).mp rfl⟩;have hb:buf=a++b9 w:=hb;subst hb;exact NO (by rfl') (Ca (hw w (.head _)) fun l=>M9 (hw w (.head _)) hz) (aaU (by rfl') (MA hz))
 | w :: w2 :: r,a,buf,k,_,hw,hk,hb,hz=>by
  obtain ⟨k,rfl⟩:∃ k',k=k'+1:=⟨k - 1,by simp at hk;exact zQ (X8 (zS _ _)) (X9 (zB (oH (.g (.s (.s (.s aE))) au .e) jr au zC hk)))⟩;have hb1:buf=a++b9 w++32 :: eL ((w2 :: r).map b9):=by rw[hb];show a++(b9 w++32 :: eL ((w2 :: r).map b9))=_;rw[dN]
  have hb2:buf=(a++b9 w++[32])++eL ((w2 :: r).map b9):=by rw[hb1];simp
  have ih:=yU (w2 :: r) (a++b9 w++[32]) buf k (kh _ _) (fun x hx=>hw x (.tail _ hx)) (by simp at hk ⊢;exact hk) hb2 hz;have hl:(a++b9 w++[32]).length=a.length+(b9 w).length+1:=by simp;exact iI (nR a.length (b9 w).length 1)
  rw[hl] at ih;refine NO (by rfl') (Ca (hw w (.head _)) fun l=>?_) ih;subst hb1;exact GX (hw w (.head _)) hz
end
section
variable {P:ai} {n:Nat} {σ σ1:St}
variable {x1 x2 x3:Mine.P} {l0:List Mine.P} {buf:List Nat} {pos pos':Nat}
noncomputable def lX (buf:List Nat) (lex:Sl):List (Str × Sl):=[("s",sv buf),("comments",bv false),("posix",bv true),("lex",lex)]
theorem II {α : Type} {m:Mo α} {a:α} {σ':St} (h:m ⟨[],σ.aP,σ.dw⟩ = .ok a σ'):sY m σ = .ok a ⟨σ.loc,σ'.aP,σ.dw⟩:=by
 unfold sY;rw[h]
theorem US {l:List (Str × Sl)} {ws:List (List Nat)} (h0:ws≠[]) (hw:∀ w∈ws,w∈d8) (hn:ws.length≤100) (hb:buf=eL (ws.map b9)) (hz:buf.length≤1000) :
  (ev P (n+70)).C 803 [.p (.str (S buf))] [] ⟨l,T6 x1 x2 x3 l0,.no⟩ = .ok (.p (.lst (ws.map fun w=>.str (S w)))) ⟨l,T6 x1 x2 x3 l0,.no⟩:=by
 refine ud (fl:=.ret (.p (.lst (ws.map fun w=>.str (S w))))) (σ1:=⟨lX buf (.val (.obj 7)),sS (T6 x1 x2 x3 l0) (dQ (.p .none) []) buf buf.length,.no⟩) ?_ rfl (by rfl') rfl rfl rfl;have e0:eS (Kf P) (ev P (n+69)) 803 [.p (.str (S buf))] [] ⟨l,T6 x1 x2 x3 l0,.no⟩=(ev P (n+69)).B (fM P 803).1.scope ((fM P 803).2.drop 4) ⟨lX buf (.val (.obj 7)),sS (T6 x1 x2 x3 l0) (dQ (.p (.str (S [32]))) []) buf 0,.no⟩:=by rfl'
 rw[e0];have d:kT (oz 7 791) ((ev P (n+67)).N 788 (.obj 7)) l5 ⟨[],sS (T6 x1 x2 x3 l0) (dQ (.p (.str (S [32]))) []) buf 0,.no⟩ = .ok (ws.map fun w=>.str (S w)) ⟨[],sS (T6 x1 x2 x3 l0) (dQ (.p .none) []) buf buf.length,.no⟩:=yU (n:=n+9) ws [] buf l5 h0 hw (by show ws.length<4096;exact uM (.g au (.n 100) .e) (.s au) (.n 4096) zC hn) hb hz;refine kN (Bp (CZ rfl rfl (fv:=.p (.ty "list")) (σ1:=⟨lX buf (.val (.obj 7)),sS (T6 x1 x2 x3 l0) (dQ (.p (.str (S [32]))) []) buf 0,.no⟩) (by rfl') (a1 rfl (v:=.obj 7) (by rfl')) ?_));have e1:jL (Kf P) (ev P (n+67)) (.p (.ty "list")) [.obj 7] [] ⟨lX buf (.val (.obj 7)),sS (T6 x1 x2 x3 l0) (dQ (.p (.str (S [32]))) []) buf 0,.no⟩=yt (ev P (n+67)) 7 791 781 788 ⟨lX buf (.val (.obj 7)),sS (T6 x1 x2 x3 l0) (dQ (.p (.str (S [32]))) []) buf 0,.no⟩:=by rfl'
 rw[e1];have e2:m7 ((ev P (n+67)).C 781 [.obj 7] []) ⟨[],sS (T6 x1 x2 x3 l0) (dQ (.p (.str (S [32]))) []) buf 0,.no⟩ = .ok (.obj 7) ⟨[],sS (T6 x1 x2 x3 l0) (dQ (.p (.str (S [32]))) []) buf 0,.no⟩:=by rfl'
 refine II (σ':=⟨[],sS (T6 x1 x2 x3 l0) (dQ (.p .none) []) buf buf.length,.no⟩) (rb e2 ?_);generalize l5=k at d ⊢;show (if (7:Nat)=7 then kT (oz 7 791) ((ev P (n+67)).N 788 (.obj 7)) k >>= fun vs=>(pure (V.p (.lst vs)):Mo V) else Mo.fail) _=_;rw[aA rfl];exact rb (f:=fun vs=>(pure (V.p (.lst vs)):Mo V)) d rfl
end
section
variable {P:ai} {n:Nat} {sc:bV} {σ σ1:St} {T X:List Ob} {l l':List (Str × Sl)}
theorem mE {o:Ob}:(T++o :: X)[T.length]?=some o:=by rw[bw (aB _),iH];rfl
theorem qQ {o o':Ob}:(T++o :: X).set T.length o'=T++o' :: X:=by rw[tC _ _ (aB _),iH];rfl
theorem Gf (hT:∀ o∈T,tL o):gG T.length (T++X)=true:=by
 unfold gG;rw[uo,cG];intro o ho;refine hT o ho _ (oM.mpr fun e=>?_);rw[e] at ho;cases ho
theorem uZ {a:Addr} {us:List V} {fl:Fl} {x:Mine.P} (hT:∀ o∈T,tL o) (h:eS (Kf P) (ev P n) a us [] ⟨l,T,.no⟩ = .ok fl ⟨l',T++X,.no⟩) (hv:qN fl = .p x):(ev P (n+1)).C a us [] ⟨l,T,.no⟩ = .ok (.p x) ⟨l,T,.no⟩:=
 ud h hv (Gf hT) uo rfl rfl
theorem NL {a:Addr} {us:List V} {fl:Fl} {vs:List Mine.P} {k:Nat} (hT:∀ o∈T,tL o) (h:eS (Kf P) (ev P n) a us [] ⟨l,T,.no⟩ = .ok fl ⟨l',T++X,.no⟩) (hv:qN fl = .obj k) (hk:T.length≤k) (hs:(T++X)[k]?=some (.list vs)):(ev P (n+1)).C a us [] ⟨l,T,.no⟩ = .ok (.p (.lst vs)) ⟨l,T,.no⟩:=by
 show (match eS (Kf P) (ev P n) a us [] ⟨l,T,.no⟩ with
 | .ok fl σ'=>i7 ⟨l,T,.no⟩ σ' (qN fl)
 | _=>.fail)=_
 rw[h];show i7 ⟨l,T,.no⟩ ⟨l',T++X,.no⟩ (qN fl)=_;rw[hv];dsimp only [i7];rw[aA (Gf hT),aS (by rw[V.lt,br];exact Nat.not_lt.mpr hk)];have e:qB (T++X) T.length 2 (.obj k)=some (.lst vs):=by
  show (if T.length≤k then (match (T++X)[k]? with
   | some (.list vs)=>some (Mine.P.lst vs)
   | _=>none) else none)=_
  rw[aA hk,hs]
 show (match qB (T++X) T.length 2 (.obj k) with
  | some p=>(Res.ok (V.p p) ⟨l,(T++X).take T.length,.no⟩:Res V)
  | none=>.ok (.obj k) ⟨l,T++X,.no⟩)=_
 rw[e,uo]
theorem w5 {v e:Expr} {ap p sp:Pos} {k:Nat} {vs:List Mine.P} {x:Mine.P} (h0:BI [e]=none) (h1:ap.endLine=p.line∧noStar [e]=true∧[e].length<20∧nH v=true) (h2:(ev P n).E sc v σ = .ok (.obj k) σ) (hk:σ.aP[k]?=some (.list vs)) (hs:isStar e=false) (h3:(ev P n).E sc e σ = .ok (.p x) σ) (hz:vs.length≤2 ^ 20) :
  fk (Kf P) (ev P (n+1)) sc (.Expr (.Call (.Attribute v "append" ap) [e] [] p) sp) σ = .ok .next { σ with aP:=σ.aP.set k (.list (vs++[x])) }:=by
 refine wh rfl (v:=.p .none) (jn h0 h1 h2 (mk:=.app k "append") ?_ (a1 hs h3) ?_)
 ·show (match σ.aP[k]? with
   | some (.list _)=>if ("append":Str)="append"∨("append":Str)="extend" then some (MK.app k "append") else none
   | some (.inst C d)=>PW (Kf P) C d k "append" σ
   | _=>none)=_
  rw[hk];exact aA (.inl rfl)
 ·refine rb (a:=vs) (σ1:=σ) ?_ ?_
  ·show (match σ.aP[k]? with
    | some (.list vs)=>Res.ok vs σ
    | _=>.fail)=_
   rw[hk]
  ·show (if ("append":Str)="append" then LA k vs x else if ("append":Str)="extend" then Mo.get (wG (.p x)) (OC k vs) else Mo.fail:Mo V) σ=_
   unfold LA;rw[aA hz];rfl
theorem UO {t:Expr} {b e:List Stmt} {p:Pos} {c:Bool} {r:Res Fl} (h:(ev P n).T sc t σ = .ok c σ) (k:(ev P n).B sc (if c then b else e) σ=r):fk (Kf P) (ev P n) sc (.If t b e p) σ=r:=WY h k
theorem VC {a b:List Nat} (h:a.length+b.length≤2 ^ 20):xN (Kf P) .Add (.p (.str (S a))) (.p (.str (S b))) σ = .ok (.p (.str (S (a++b)))) σ:=by
 show (if (S a).length+(S b).length≤aZ then (pure (V.p (.str (S a++S b))):Mo V) else Mo.fail) σ=_;have hs:aZ=2 ^ 24:=rfl;rw[aA (by rw[gw,gw];exact fc h),yG];rfl
theorem vI {k:Nat} {vs:List Mine.P} (hk:σ.aP[k]?=some (.list vs)):iE (Kf P) (.obj k) σ = .ok vs σ:=aK (fun o=>(Mo.opt (Option.bind o tX):Mo (List Mine.P)) σ) hk
theorem Vy {e:Expr} {k:Nat} {vs:List Mine.P} (hE:(ev P (n+1)).T sc e=Nd (Kf P) (ev P n) sc e) (h:(ev P n).E sc e σ = .ok (.obj k) σ) (hk:σ.aP[k]?=some (.list vs)) (hz:vs.length≤2 ^ 20):(ev P (n+1)).T sc e σ = .ok (!vs.isEmpty) σ:=by
 rw[hE];refine rb h ?_;refine rb (vI hk) ?_;have hs:aZ=2 ^ 24:=rfl;rw[aA (by exact fc hz)];rfl
theorem DJ {vs:List Mine.P} (hz:vs.length≤2 ^ 20):jL (Kf P) (ev P n) (.p (.bi "len")) [.p (.lst vs)] [] σ = .ok (.p (.int vs.length)) σ:=by
 have e:jL (Kf P) (ev P n) (.p (.bi "len")) [.p (.lst vs)] [] σ=(if vs.length≤aZ then pure (.p (.int vs.length)) else Mo.fail:Mo V) σ:=by rfl'
 have hs:aZ=2 ^ 24:=rfl;rw[e,aA (by exact fc hz)];rfl
theorem Xs {a:V} {vs:List Mine.P} {i:Int} {j:Nat} {x:Mine.P} (hi:i=j) (h0:strOf a=none∧xD a=none) (h:iE (Kf P) a σ = .ok vs σ) (hj:vs[j]?=some x) (hz:vs.length≤2 ^ 20):jV (Kf P) a (.p (.int i)) σ = .ok (.p x) σ:=by
 have kL:=(az.mp hj).1;show (if mY i then FQ (Kf P) a i else Mo.fail:Mo V) σ=_;rw[aA (by unfold mY;rw[mK,show (2:Int) ^ 62=4611686018427387904 from by decide];exact ⟨(zI [i,↑j] 0 (.g cQ bH (.g i6 cQ .e)) (.num (-4611686018427387904)) bH zC (zg hi) (zW _)),(zI [i,↑j,↑vs.length] 0 (.g bH cQ (.g (.add cQ eB) jg (.g jg (.num 1048576) .e))) (.add bH eB) (.num 4611686018427387904) zC (za hi) (zO kL) (zO hz))⟩)];unfold FQ;rw[h0.1,h0.2];have e:idx i vs.length=some j:=by
  delta idx jz;rw[aS (show ¬ i<0 by exact fun pM=>(zJ [i,↑j] (.g (.add bH eB) i6 (.g cQ bH (.g i6 cQ .e))) zC pM (zg hi) (zW _)))];rw[aA (by rw[aR,br,br];exact ⟨(zI [i,↑j] 0 (.g cQ bH (.g i6 cQ .e)) i6 bH zC (zg hi) (zW _)),(zI [i,↑vs.length,↑j] 0 (.g bH jg (.g (.add jg eB) cQ .e)) (.add bH eB) cQ zC (za hi) (zO kL))⟩)];rw[show i.toNat=j by exact zQ (zU (zI [↑i.toNat,↑j,i] 0 (.g bH jg (.g jg cQ .e)) bH cQ zC (zu (zI [i,↑j] 0 (.g cQ bH (.g i6 cQ .e)) i6 bH zC (zg hi) (zW _))) (za hi))) (zU (zI [↑j,↑i.toNat,i] 0 (.g bH jg (.g jg cQ .e)) bH cQ zC (zg hi) (zt _)))]
 refine rb h ?_;rw[e];show Mo.get vs[j]? _ σ=_;rw[hj];rfl
theorem xr {a:V} {vs:List Mine.P} {j:Nat} {x:Mine.P} (h0:strOf a=none∧xD a=none) (h:iE (Kf P) a σ = .ok vs σ) (hj:vs[j]?=some x) (hz:vs.length≤2 ^ 20):jV (Kf P) a (.p (.int j)) σ = .ok (.p x) σ:=Xs rfl h0 h hj hz
theorem zl {k:Nat}:idx (-1) (k+1)=some k:=by
 delta idx jz;rw[aA (by rw[aR,br,br];exact ⟨(zI [↑k] 0 (.g i6 bH .e) i6 (.add (.num (-1)) (.add bH eB)) zC (zW _)),(zI [↑k] 0 .e (.add (.add (.num (-1)) (.add bH eB)) eB) (.add bH eB) zC )⟩)];congr 1;exact tnJ (JK k)
theorem FU {a:V} {vs:List Mine.P} {x:Mine.P} (h0:strOf a=none∧xD a=none) (h:iE (Kf P) a σ = .ok (vs++[x]) σ):jV (Kf P) a (.p (.int (-1))) σ = .ok (.p x) σ:=by
 show FQ (Kf P) a (-1) σ=_;unfold FQ;rw[h0.1,h0.2];refine rb h ?_;rw[aO,g6,zl];show Mo.get (vs++[x])[vs.length]? _ σ=_;rw[oN];rfl
end
section
variable {P:ai} {n:Nat} {sc:bV} {σ σ1:St} {T X:List Ob} {l l':List (Str × Sl)}
theorem WW {o i e:Expr} {p sp:Pos} {k:Nat} {vs:List Mine.P} {s t:Str} (h0:isNm i=true) (h1:(ev P n).E sc o σ = .ok (.obj k) σ) (h2:(ev P n).E sc i σ = .ok (.p (.int (-1))) σ) (hk:σ.aP[k]?=some (.list (vs++[.str s]))) (h3:(ev P n).E sc e σ = .ok (.p (.str t)) σ) (hz:s.length+t.length≤aZ) :
  fk (Kf P) (ev P n) sc (.AugAssign (.Subscript o i p) .Add e sp) σ = .ok .next { σ with aP:=σ.aP.set k (.list (vs++[.str (s++t)])) }:=by
 show (if isNm i=true then _ else Mo.fail:Mo Fl) σ=_;rw[aA h0];refine rb h1 (rb h2 (rb (a:=.p (.str s)) (σ1:=σ) ?_ (rb h3 (rb (a:=.p (.str (s++t))) (σ1:=σ) ?_ (rb (a:=()) (σ1:={ σ with aP:=σ.aP.set k (.list (vs++[.str (s++t)])) }) ?_ rfl)))))
 ·show (match σ.aP[k]? with
   | some (.list vs)=>if mY (-1)=true then (match idx (-1) vs.length with
    | some n=>match vs[n]? with
     | some p=>Res.ok (V.p p) σ
     | none=>.fail
    | none=>.fail)
    else .fail
   | _=>.fail)=_
  rw[hk];show (if mY (-1)=true then (match idx (-1) (vs++[Mine.P.str s]).length with
    | some n=>match (vs++[Mine.P.str s])[n]? with
     | some p=>Res.ok (V.p p) σ
     | none=>.fail
    | none=>.fail)
    else .fail)=_
  rw[aA (show mY (-1)=true from rfl),aO,g6,zl];show (match (vs++[Mine.P.str s])[vs.length]? with
     | some p=>Res.ok (V.p p) σ
     | none=>.fail)=_
  rw[oN]
 ·show (if s.length+t.length≤aZ then (pure (V.p (.str (s++t))):Mo V) else Mo.fail) σ=_
  rw[aA hz];rfl
 ·show (match σ.aP[k]? with
   | some (.list vs)=>if mY (-1)=true∧(-1:Int)<0 then (match idx (-1) vs.length with
    | some n=>Res.ok () { σ with aP:=σ.aP.set k (.list (vs.set n (.str (s++t)))) }
    | none=>.fail)
    else .fail
   | _=>.fail)=_
  rw[hk];show (if mY (-1)=true∧(-1:Int)<0 then (match idx (-1) (vs++[Mine.P.str s]).length with
    | some n=>Res.ok () { σ with aP:=σ.aP.set k (.list ((vs++[Mine.P.str s]).set n (.str (s++t)))) }
    | none=>.fail)
    else .fail)=_
  rw[aA ⟨rfl,by decide⟩,aO,g6,zl];show Res.ok () { σ with aP:=σ.aP.set k (.list ((vs++[Mine.P.str s]).set vs.length (.str (s++t)))) }=_;rw[tC _ _ (aB _),iH];rfl
noncomputable def bD (rows:List (List Nat)):List Mine.P:=rows.map fun q=>.str (S q)
theorem qR {R:List (List Nat)} {x:List Nat}:bD (R++[x])=bD R++[.str (S x)]:=aV
theorem iK {R:List (List Nat)}:(bD R).length=R.length:=aM ..
noncomputable def lM (k:Nat) (q:List Nat) (r:Nat):List (Str × Sl):=[("L",.val (.obj k)),("s",sv q),("maxlen",iv r),("extra",.val (.p (.str "")))]
theorem Lf {q:List Nat} {c:Nat} (hc:bz c=false) (hz:q.length≤1000):vJ (Kf P) (ev P n) (.txt (S (32 :: c :: q)) "str.lstrip") [] σ = .ok (.p (.str (S (c :: q)))) σ:=by
 have e:vJ (Kf P) (ev P n) (.txt (S (32 :: c :: q)) "str.lstrip") []=fun (σ:St)=>(if (S (32 :: c :: q)).length≤2 ^ 20 then (pure (V.p (.str (if t8 bz true false (S (32 :: c :: q)) then S (32 :: c :: q) else l9 bz true false (S (32 :: c :: q))))):Mo V) else Mo.fail) σ:=by rfl'
 rw[e,(Aq hc).1,(Aq hc).2];show (if (S (32 :: c :: q)).length≤2 ^ 20 then (pure (V.p (.str (S (c :: q)))):Mo V) else Mo.fail) _=_;rw[aA (by rw[gw];simp;exact jj hz zC)];rfl
theorem EU {q:List Nat} {c r:Nat} {rows:List (List Nat)} (hc:bz c=false) (hq:q.length≤500) (hr:∀ x∈rows,x.length≤500) (hn:rows.length≤100) :
  eS (Kf P) (ev P (n+20)) 68 [.obj T.length,.p (.str (S (32 :: c :: q))),.p (.int r)] [] ⟨l,T++[.list (bD rows)],.no⟩ = .ok .next ⟨lM T.length (32 :: c :: q) r,T++[.list (bD (lF r rows (c :: q)))],.no⟩:=by
 have e0:eS (Kf P) (ev P (n+20)) 68 [.obj T.length,.p (.str (S (32 :: c :: q))),.p (.int r)] [] ⟨l,T++[.list (bD rows)],.no⟩=(ev P (n+20)).B (fM P 68).1.scope (fM P 68).2 ⟨lM T.length (32 :: c :: q) r,T++[.list (bD rows)],.no⟩:=by rfl'
 rw[e0];refine aU (nW (by rfl')) ?_;rcases jJ rows with rfl | ⟨R,y,rfl⟩
 ·refine eK (vQ (Av (b:=false) (Vy (vs:=[]) rfl (by rfl') mE (by decide))) (eK ((w5 rfl ⟨rfl,rfl,by decide,rfl⟩ (by rfl') mE rfl (jn rfl ⟨rfl,rfl,by decide,rfl⟩ (o:=.p (.str (S (32 :: c :: q)))) (by rfl') (mk:=.txt (S (32 :: c :: q)) "str.lstrip") (by rfl') (us:=[]) rfl (Lf hc (by exact jj hq zC))) (by decide)).trans ?_)))
  rw[qQ];rfl
 ·rw[jI] at hr hn ⊢
  rw[aO,g6] at hn;have hy:=hr y (aa _ (.head _));have hs:aZ=2 ^ 24:=rfl;have ln:=iK (R:=R);have he:(bD R++[Mine.P.str (S y)]).isEmpty=false:=by cases bD R<;>rfl
  rw[qR,oX];refine eK (qP (Av (b:=true) ((Vy rfl (by rfl') mE (by rw[aO,g6];exact oH (.g au aE (.g (.s aE) (.n 100) .e)) (.s au) (.n 1048576) zC (zA ln) hn)).trans (by rw[he];rfl))) (eK (UO (c:=decide (y.length+((c :: q).length+1)≤r)) (gW rfl (ig rfl (a:=.p (.int y.length)) (b8 rfl rfl (fv:=.p (.bi "len")) (by rfl') (a1 rfl (v:=.p (.str (S y))) (iQ rfl (a:=.obj T.length) (by rfl') (b:=.p (.int (-1))) (by rfl') (FU ⟨rfl,rfl⟩ (vI mE)))) (zR (by exact jj hy zC))) (b:=.p (.int (32 :: c :: q).length)) (b8 rfl rfl (fv:=.p (.bi "len")) (by rfl') (a1 rfl (v:=.p (.str (S (32 :: c :: q)))) (by rfl')) (zR (by simp;exact jj hq zC))) rfl) (b:=.p (.int r)) (by rfl') rfl ?_) ?_)))
  ·show Res.ok (decide ((y.length:Int)+((32 :: c :: q).length:Int)≤(r:Int))) _=_
   rw[show ((32 :: c :: q).length:Int)=((c :: q).length:Int)+1 from rfl];congr 1;rw[decide_eq_decide];exact ⟨fun g3'=>(zU g3'),fun g3'=>(zO g3')⟩
  ·by_cases Ir:y.length+((c :: q).length+1)≤r
   ·rw[cL Ir,aA Ir]
    refine eK ((WW (s:=S y) (t:=S (32 :: c :: q)) rfl (by rfl') (by rfl') mE ?_ ?_).trans ?_)
    ·exact ig rfl (a:=.p (.str (S []))) (by rfl') (b:=.p (.str (S (32 :: c :: q)))) (by rfl') (VC (by simp;exact jj hq zC))
    ·rw[gw,gw];simp;exact rM (.g au (.n 500) (.g aE (.n 500) (.g (.n 16777216) aT .e))) (.a au (.s (.s aE))) aT zC hy hq (zG hs)
    ·skip
     rw[qQ,yG,qR]
   ·rw[ez Ir,aS Ir]
    refine eK ((w5 rfl ⟨rfl,rfl,by decide,rfl⟩ (by rfl') mE rfl (jn rfl ⟨rfl,rfl,by decide,rfl⟩ (o:=.p (.str (S (32 :: c :: q)))) (by rfl') (mk:=.txt (S (32 :: c :: q)) "str.lstrip") (by rfl') (us:=[]) rfl (Lf hc (by exact jj hq zC))) (by rw[aO,g6];exact oH (.g au aE (.g (.s aE) (.n 100) .e)) (.s au) (.n 1048576) zC (zA ln) hn)).trans ?_);show Res.ok Fl.next ⟨_,(T++[Ob.list (bD R++[.str (S y)])]).set T.length _,_⟩=_;rw[qQ,qR,qR]
set_option tactic.hygienic true in
theorem Lz {r:Nat} {rows:List (List Nat)} {q:List Nat} (hr:∀ x∈rows,x.length≤500) (hq:q.length≤500) (hr5:r≤500):(∀ x∈lF r rows q,x.length≤500)∧(lF r rows q).length≤rows.length+1:=by
 rcases jJ rows with rfl | ⟨R,y,rfl⟩
 ·exact ⟨fun x hx=>by rw[bA.mp hx];exact hq,aB _⟩
 ·rw[jI] at hr ⊢
  rw[oX];split
  ·refine ⟨fun x hx=>?_,by simp⟩
   refine bJ (aj.mp hx) (fun h=>?_) fun h=>?_
   ·exact hr x (af _ h)
   ·rw[bA.mp h,aO,dU]
    (rename_i nV;exact (rM (.g (.a au (.s aE)) aT (.g aT (.n 500) .e)) (.a au (.s aE)) (.n 500) zC nV hr5))
  ·refine ⟨fun x hx=>?_,by simp⟩
   refine bJ (aj.mp hx) (fun h=>?_) fun h=>?_
   ·exact hr x h
   ·rw[bA.mp h]
    exact hq
theorem Oc {q:List Nat} {r:Nat} {rows:List (List Nat)} (hT:∀ o∈T,tL o) (hc:∀ c,q.head?=some c→bz c=false) (h0:q≠[]) (hq:q.length≤500) (hr:∀ x∈rows,x.length≤500) (hn:rows.length≤100) :
  (ev P (n+21)).C 68 [.obj T.length,.p (.str (S (32 :: q))),.p (.int r)] [] ⟨l,T++[.list (bD rows)],.no⟩ = .ok (.p .none) ⟨l,T++[.list (bD (lF r rows q))],.no⟩:=by
 cases q with
 | nil=>exact absurd rfl h0
 | cons c q =>
  refine ud (fl:=.next) (EU (hc c rfl) (by simp at hq;exact qq hq) hr hn) rfl (Ks hT (by simp) rfl) ?_ rfl rfl;exact dP (by simp)
noncomputable def lK (ps:List (List Nat)) (r k:Nat) (x:Sl):List (Str × Sl):=[("pieces",.val (.p (.lst (bD ps)))),("room",iv r),("rows",.val (.obj k)),("piece",x)]
noncomputable def pb (P:ai):List Stmt:=qA ((fM P 859).2.getD 1 (.Pass default))
theorem MP {r:Nat} {ps:List (List Nat)} (hT:∀ o∈T,tL o) (hr5:r≤500):∀ (qs rows:List (List Nat)) (x:Sl),(x = .unset∨∃ v,x = .val v)→(∀ q∈qs,q≠[]∧q.length≤500∧∀ c,q.head?=some c→bz c=false)→(∀ y∈rows,y.length≤500)→rows.length+qs.length≤100 →
  ∃ x',j0 "piece" ((ev P (n+30)).B (fM P 859).1.scope (pb P)) (bD (qs.map fun q=>32 :: q)) ⟨lK ps r T.length x,T++[.list (bD rows)],.no⟩ = .ok .next ⟨lK ps r T.length x',T++[.list (bD (qs.foldl (lF r) rows))],.no⟩:=by
 intro qs;induction qs with
 | nil=>intro rows x _ _ _ _;exact ⟨x,wY rfl⟩
 | cons q qs ih =>
  intro rows x hx hq hr hn;refine xM (hq q (.head _)) fun q0 q1 q2=>?_;have ok:=Lz hr q1 hr5;refine eU (ih (lF r rows q) (sv (32 :: q)) (.inr ⟨_,rfl⟩) (fun y hy=>hq y (.tail _ hy)) ok.1 (by exact rM (.g au (.s aT) (.g (.a aT (.s aE)) (.n 100) .e)) (.a au aE) (.n 100) zC ok.2 hn)) fun x' e=>?_;refine ⟨x',rV (σ1:=⟨lK ps r T.length (sv (32 :: q)),T++[.list (bD rows)],.no⟩) ?_ (eK (wh rfl (v:=.p .none) (CZ rfl rfl (fv:=.p (.adr 68)) (by rfl') (ac rfl (v:=.obj T.length) (by rfl') (ac rfl (v:=.p (.str (S (32 :: q)))) (by rfl') (a1 rfl (v:=.p (.int r)) (by rfl')))) ((cR (by rfl')).trans (Oc (n:=n+7) hT q2 q0 q1 hr (by exact fS hn)))))) e⟩;rcases hx with rfl | ⟨v,rfl⟩<;>rfl'
theorem sE {r:Nat} {qs:List (List Nat)} (hT:∀ o∈T,tL o) (hr5:r≤500) (hq:∀ q∈qs,q≠[]∧q.length≤500∧∀ c,q.head?=some c→bz c=false) (hn:qs.length≤100) :
  (ev P (n+40)).C 859 [.p (.lst (bD (qs.map fun q=>32 :: q))),.p (.int r)] [] ⟨l,T,.no⟩ = .ok (.p (.lst (bD (cO r qs)))) ⟨l,T,.no⟩:=by
 refine eU (MP (P:=P) (n:=n+8) (ps:=qs.map fun q=>32 :: q) hT hr5 qs [] .unset (.inl rfl) hq (fun y hy=>by cases hy) (by simpa using hn)) fun x' e=>?_;have e0:eS (Kf P) (ev P (n+39)) 859 [.p (.lst (bD (qs.map fun q=>32 :: q))),.p (.int r)] [] ⟨l,T,.no⟩=(ev P (n+39)).B (fM P 859).1.scope ((fM P 859).2.drop 1) ⟨lK (qs.map fun q=>32 :: q) r T.length .unset,T++[.list (bD [])],.no⟩:=by rfl'
 refine NL (X:=[.list (bD (cO r qs))]) (fl:=.ret (.obj T.length)) (l':=lK (qs.map fun q=>32 :: q) r T.length x') hT ?_ rfl (aB _) mE;rw[e0];exact aU (yH rfl (u:=.p (.lst (bD (qs.map fun q=>32 :: q)))) (by rfl') rfl e) (kN (Bp (by rfl')))
end
section
variable {P:ai} {n:Nat} {sc:bV} {σ σ1:St} {l l':List (Str × Sl)}
theorem DH {k:Nat}:∀ {xs:List g7},(∀ x∈xs,x.canLay0=true∧x.depth≤k)→Ny xs=true∧RK xs≤k
 | [],_=>⟨rfl,d7 _⟩
 | x :: xs,h=>by
  refine cz (h x (.head _)) fun h1 h2=>?_;refine cz (DH (xs:=xs) fun y hy=>h y (.tail _ hy)) fun h3 h4=>?_;exact ⟨by rw[Ny,h1,h3];rfl,by rw[RK];exact Nat.max_le.mpr ⟨h2,h4⟩⟩
noncomputable def Lay (k:Nat) (d:g7):Prop:=d.canLay0=true∧d.depth≤k
theorem Lay.list {k:Nat} {xs:List g7} (h:∀ x∈xs,Lay k x):Lay (k+1) (.list xs):=by
 refine cz (DH h) fun h1 h2=>?_;exact ⟨by rw[AS];exact h1,by rw[wg];exact gT h2⟩
theorem Lay.tuple {k:Nat} {xs:List g7} (h:∀ x∈xs,Lay k x):Lay (k+1) (.tuple xs):=by
 refine cz (DH h) fun h1 h2=>?_;exact ⟨by rw[AS];exact h1,by rw[wg];exact gT h2⟩
theorem Lay.int {i:Int}:Lay 0 (.int i):=⟨by rw[AS],by rw[wg];exact aB 0⟩
theorem Lay.str {s:List Nat} (h:∀ x∈s,x<0x110000):Lay 0 (.str (S s)):=by
 refine ⟨?_,by rw[wg];exact aB 0⟩;show (s.toArray.all (· < 0x110000))=true;rw[Array.all_eq_true'];intro x hx;exact cL (h x (List.mem_toArray.mp hx))
theorem Lay.shaped {k:Nat} {d:g7} (h:Lay k d) (hk:k≤64):g9 d=true:=bQ.mpr ⟨h.1,cL (ay h.2 hk)⟩
theorem FE {a b:V} {d:g7} {k:Nat} (ha:tE σ a=some d) (hb:tE σ b=some d) (hd:Lay k d) (hk:k≤64):VJ a b σ = .ok true σ:=by
 unfold VJ;rw[ha,hb];show (if g9 d=true∧g9 d=true then (pure (d.eqv d):Mo Bool) else Mo.fail) σ=_;rw[aA ⟨hd.shaped hk,hd.shaped hk⟩];show Res.ok (d.eqv d) σ=_;rw[eqv_refl d hd.1]
theorem vB {a b:V} {d:g7} {k:Nat} (ha:tE σ a=some d) (hb:tE σ b=some d) (hd:Lay k d) (hk:k≤64):rF .Eq a b σ = .ok (.p (.bool true)) σ:=rb (FE ha hb hd hk) rfl
theorem KA {a b:V} {d:g7} {k:Nat} (ha:tE σ a=some d) (hb:tE σ b=some d) (hd:Lay k d) (hk:k≤64):rF .NotEq a b σ = .ok (.p (.bool false)) σ:=rb (FE ha hb hd hk) rfl
theorem ye {α : Type} {f:α→Mine.P} {g:α→g7}:∀ {xs:List α},(∀ x∈xs,r5 (f x)=some (g x))→pW (xs.map f)=some (xs.map g)
 | [],_=>rfl
 | x :: xs,h=>by
  rw[cZ,pW,h x (.head _),ye fun y hy=>h y (.tail _ hy)];rfl
theorem Di {vs:List Mine.P} {ds:List g7} (h:pW vs=some ds):r5 (.lst vs)=some (.list ds):=by
 show (pW vs).map PyData.list=_;rw[h];rfl
theorem r6 (ts:List (List Nat)):r5 (.lst (bD ts))=some (.list (ts.map fun t=>.str (S t))):=Di (ye fun t _=>by rw[r5])
theorem zF {ts:List (List Nat)} (h:∀ t∈ts,∀ x∈t,x<0x110000):Lay 1 (.list (ts.map fun t=>.str (S t))):=Lay.list fun d hd=>by
 refine bU (aX.mp hd) fun t ht af2=>?_;obtain rfl:=af2;exact Lay.str (h t ht)
noncomputable def aq (xs:List Nat):List Mine.P:=xs.map fun (x:Nat)=>.int x
theorem lN (xs:List Nat):r5 (.lst (aq xs))=some (.list (xs.map fun (x:Nat)=>.int x)):=Di (ye fun t _=>by rw[r5])
theorem lay_ints (xs:List Nat):Lay 1 (.list (xs.map fun (x:Nat)=>.int x)):=Lay.list fun d hd=>by
 refine bU (aX.mp hd) fun t _ af3=>?_;obtain rfl:=af3;exact Lay.int
theorem Ou {k:Nat} {vs:List Mine.P} {d:g7} (hk:σ.aP[k]?=some (.list vs)) (h:r5 (.lst vs)=some d):tE σ (.obj k)=some d:=by
 show ((((σ.aP[k]?).bind tX).map P.lst).bind r5)=_;rw[hk];exact h
theorem wk (xs:List Nat):C9 Mk (aq xs)=some (xs.map fun (x:Nat)=>(x:Int)):=vh fun _ _=>rfl
theorem Mz {xs:List Nat} (h:xs≠[]):Gm (aq xs)=some (Gn xs:Int):=by
 unfold Gm;rw[wk];exact JE.mpr ⟨bP (z6 h),fun b hb=>bU (aX.mp hb) fun x hx e=>e ▸ zO (DO hx)⟩
theorem Mw {xs:List Nat} (h:xs≠[]):IS (aq xs)=some (Gj xs:Int):=by
 unfold IS;rw[wk];exact JD.mpr ⟨bP (z3 h),fun b hb=>bU (aX.mp hb) fun x hx e=>e ▸ zO (DI hx)⟩
theorem CR {xs:List Nat}:D8 (aq xs)=some (xs.sum:Int):=by
 unfold D8;rw[wk];refine aK some ?_;induction xs with
 | nil=>rfl
 | cons a r ih=>rw[cZ,vZ,vZ,ih];rfl
structure Good (t:List Nat):Prop where
 ne:t≠[]
 al:∀ x∈t,x∈pT
 last:∃ z,(encL t).getLast?=some z∧(z=97∨z=98∨z=37∨z=39∨z=68)
theorem Good.ene {t:List Nat} (h:Good t):encL t≠[]:=fun e=>by
 refine bU h.last fun z hz _=>?_;rw[e] at hz;cases hz
theorem LY:∀ c∈pT,∀ x∈encC c,fG x=false∧x<0x110000:=by
 have h:(pT.all fun c=>(encC c).all fun x=>fG x==false&&decide (x<0x110000))=true:=by decide +kernel
 intro c hc x hx;have:=cG.mp (cG.mp h c hc) x hx;rw[aR,beq_iff_eq,br] at this;exact this
theorem Good.sign {t:List Nat} (h:Good t):∀ x∈encL t,fG x=false∧x<0x110000:=fun x hx=>by
 refine bU (rC.mp hx) fun c hc hx=>?_;exact LY c (h.al c hc) x hx
noncomputable def okW (w:List Nat):Bool:=!(b9 w).isEmpty&&((b9 w).all fun x=>pT.contains x)&&((encL (b9 w)).length==fO w)&&decide (fO w≤40)&&(match (encL (b9 w)).getLast? with
 | some z=>z==97||z==98||z==37||z==39||z==68
 | none=>false)&&(match (encL (b9 w)).head? with
 | some c=>bz c==false
 | none=>false)&&w.all fun x=>decide (x<0x110000)
theorem Ur:∀ w∈d8,okW w=true:=by
 have h:(d8.all okW)=true:=by decide +kernel
 exact fun w hw=>cG.mp h w hw
noncomputable def eN (w:List Nat):List Nat:=encL (b9 w)
theorem iD {w:List Nat} (hw:w∈d8):Good (b9 w)∧(eN w).length=fO w∧fO w≤40∧(∀ c,(eN w).head?=some c→bz c=false)∧∀ x∈w,x<0x110000:=by
 have h:=Ur w hw;unfold okW at h;simp only [aR] at h;refine cz h fun af4 h7=>?_;refine cz af4 fun af5 h6=>?_;refine cz af5 fun af6 h5=>?_;refine cz af6 fun af7 h4=>?_;refine cz af7 fun af8 h3=>?_;refine cz af8 fun h1 h2=>?_;refine ⟨⟨fun e=>?_,fun x hx=>?_,?_⟩,eq_of_beq h3,cA h4,fun c hc=>?_,fun x hx=>cA (cG.mp h7 x hx)⟩
 ·rw[e] at h1
  cases h1
 ·exact cS.mp (cG.mp h2 x hx)
 ·refine oC ((encL (b9 w)).getLast?) (fun q=>?_) fun z q=>?_
  ·rw[q] at h5;cases h5
  ·rw[q] at h5
   refine ⟨z,rfl,?_⟩;simp only [jB,beq_iff_eq] at h5;exact or_assoc.mp (or_assoc.mp (or_assoc.mp h5))
 ·unfold eN at hc
  rw[hc] at h6;exact eq_of_beq h6
theorem ID:∀ {qs:List (List Nat)} {z:Nat},qs≠[]→(∀ q∈qs,q≠[])→(eL qs).getLast?=(qs.getLast?.getD []).getLast?:=by
 intro qs z h0 h;rcases jJ qs with rfl | ⟨R,y,rfl⟩
 ·exact absurd rfl h0
 ·rw[jI] at h ⊢
  have hy:=h y (aa _ (.head _));rw[uf];show _=y.getLast?;by_cases hR:R=[]
  ·rw[hR];rfl
  ·rw[uC hR]
   cases y with
   | nil=>exact absurd rfl hy
   | cons a y=>rw[List.getLast?_append,Hf,NV];rfl
theorem BW:∀ {qs:List (List Nat)} {x:Nat},x∈eL qs→x=32∨∃ q∈qs,x∈q
 | [q],x,h=>.inr ⟨q,.head _,h⟩
 | a :: b :: r,x,h=>by
  have h:=h;rcases aj.mp h with h | h
  ·exact .inr ⟨a,.head _,h⟩
  ·refine bJ (av.mp h) (fun h=>?_) fun h=>?_
   ·exact .inl h
   ·rcases BW h with h | ⟨q,h1,h2⟩
    ·exact .inl h
    ·exact .inr ⟨q,.tail _ h1,h2⟩
theorem wz:∀ {qs:List (List Nat)},encL (eL qs)=eL (qs.map encL)
 | []=>rfl
 | [q]=>rfl
 | a :: b :: r=>by
  show encL (a++32 :: eL (b :: r))=encL a++32 :: eL ((b :: r).map encL);rw[pX,nZ,wz];rfl
theorem wC {ws:List (List Nat)} (h0:ws≠[]) (hw:∀ w∈ws,w∈d8):Good (eL (ws.map b9)):=by
 have tV:ws.map b9≠[]:=fun e=>h0 (u5.mp e);have last:=ID (qs:=ws.map eN) (z:=0) (fun e=>h0 (u5.mp e)) fun q hq=>by
  refine bU (aX.mp hq) fun w Mg af9=>?_;obtain rfl:=af9;exact (iD (hw w Mg)).1.ene
 have e:encL (eL (ws.map b9))=eL (ws.map eN):=by rw[wz,bZ];rfl
 have hl:∃ z,(encL (eL (ws.map b9))).getLast?=some z∧(z=97∨z=98∨z=37∨z=39∨z=68):=by
  rw[e,last];rcases jJ ws with rfl | ⟨R,y,rfl⟩
  ·exact absurd rfl h0
  ·rw[jI] at hw ⊢
   rw[aV];show ∃ z,((R.map eN++[eN y]).getLast?.getD []).getLast?=some z∧_;rw[uf];exact (iD (hw y (aa _ (.head _)))).1.last
 refine ⟨fun q=>?_,fun x hx=>?_,hl⟩
 ·refine bU hl fun z hz _=>?_
  rw[q] at hz;cases hz
 ·rcases BW hx with rfl | ⟨q,hq,hx⟩
  ·decide
  ·refine bU (aX.mp hq) fun w Mg aga=>?_
   obtain rfl:=aga;exact (iD (hw w Mg)).1.al x hx
set_option tactic.hygienic true in
theorem F8 {ws:List (List Nat)} {f:List Nat→List Nat} {k:Nat} (h:∀ w∈ws,(f w).length≤k):(eL (ws.map f)).length≤(k+1)*ws.length:=by
 by_cases h0:ws=[]
 ·subst h0;exact d7 _
 ·have e:=sX (l:=ws.map f) fun e=>h0 (u5.mp e)
  have hs:((ws.map f).map aN).sum≤k*ws.length:=by
   clear e h0
   induction ws with
   | nil=>exact d7 _
   | cons w ws ih =>
    have:=ih fun x hx=>h x (.tail _ hx);have:=h w (.head _)
    (rename_i nV;exact (xV (.g au bX (.g aE aT .e)) (.a au aE) (.a aT bX) zC this nV))
  rw[aM] at e;rw[Nat.add_mul];exact xV (.g (.s au) (.a bX aT) (.g bX aE .e)) au (.a aE (.m 1 aT)) zC (zA e) hs
end
section
variable {P:ai} {n:Nat} {sc:bV} {σ σ1:St} {l l':List (Str × Sl)} {g a b c d e:Ob}
theorem U9 {w:List Nat} (hT:∀ o∈[g,a,b,c,d,e],tL o) (hw:w∈d8):(ev P (n+13)).C 835 [.p (.str (S w))] [] ⟨l,[g,a,b,c,d,e],.no⟩ = .ok (.p (.int (fO w))) ⟨l,[g,a,b,c,d,e],.no⟩:=by
 have h:=PT (Ng (P:=P) (n:=n) g a b c d e) w hw;refine bC (w.isEmpty) (fun hq=>?_) fun hq=>?_
 ·rw[hq,aA rfl] at h;exact uZ (X:=[]) hT h rfl
 ·rw[hq,aS bR] at h;exact uZ (X:=[.list []]) hT h rfl
theorem Fz {t:List Nat} (hT:∀ o∈[g,a,b,c,d,e],tL o) (h:Good t) (hz:(encL t).length≤500) (hzt:t.length≤500):(ev P (n+21)).C 95 [.p (.str (S t)),.p (.int 500)] [] ⟨l,[g,a,b,c,d,e],.no⟩ = .ok (.p (.str (S (encL t)))) ⟨l,[g,a,b,c,d,e],.no⟩:=by
 refine bU h.last fun z h1 h2=>?_;refine eU (FA (P:=P) (n:=n) (T:=[]) (l:=l) (g:=g) (a:=a) (b:=b) (c:=c) (d:=d) (e:=e) h.ne h.al hz hzt h1 h2 (fun x hx=>(h.sign x hx).1) h.ene) fun l' q=>?_;exact uZ (X:=[.list [.str (S (encL t))]]) hT q rfl
theorem Ow {T:List Ob} {t:List Nat} (hT:∀ o∈T,tL o) (h:Good t) (hz:(encL t).length≤500) (hzt:t.length≤500):(ev P (n+46)).C 103 [.p (.str (S (encL t)))] [] ⟨l,T,.no⟩ = .ok (.p (.str (S t))) ⟨l,T,.no⟩:=by
 refine bU h.last fun z h1 h2=>?_;have q:=Gf (X:=[]) hT;rw[cg] at q;exact LS q h.ne h.al hz hzt h1 h2 (fun x hx=>(h.sign x hx).1) h.ene
section
variable {α : Type}
theorem sZ {l:List Mine.P} {i j:Nat}:qa l (some (i:Int)) (some (j:Int)) none=(l.drop i).take (j - i):=by
 have e:ru (fq (some (i:Int)) (some (j:Int)) none l.length).1 (fq (some (i:Int)) (some (j:Int)) none l.length).2.1 (fq (some (i:Int)) (some (j:Int)) none l.length).2.2=(b4 (min j l.length - min i l.length)).map fun (k:Nat)=>(((min i l.length:Nat):Int)+1*(k:Int)).toNat:=by
  delta fq ru;simp only [aS (show ¬ (i:Int)<0 by exact fQ i),aS (show ¬ (j:Int)<0 by exact fQ j),xJ,show (1:Int)>0 from by decide,gz];rw[mxI,mxI];congr 2;exact rgL _ _
 unfold qa;rw[e,qL (by exact (mJ (min j l.length) (min i l.length)).elim (fun dK=>(rM (.g au aT (.g aE gR .e)) (.a au aE) aT zC (fE _ _) (zK dK))) fun dK=>(acC (zB dK) (fE _ _)))];by_cases hi:i≤l.length
 ·rw[jF hi]
  by_cases hj:j≤l.length
  ·rw[jF hj]
  ·rw[AI (by exact AH hj),dP (by rw[bT];exact aB _),dP (by rw[bT];exact G7 (.g (.a au aT) bX (.g (.s bX) fh (.g fh (.a aE aT) .e))) au aE zC (zB hi) (zN hj) (zS _ _))]
 ·rw[show min i l.length=l.length by exact Bq i l.length hi,yD,rW (by exact AH hi),List.take_nil,List.take_nil]
theorem Ah {l:List Mine.P} {j:Nat}:qa l none (some (j:Int)) none=l.take j:=by
 have e:=sZ (l:=l) (i:=0) (j:=j);rw[j5,oV] at e;rw[← e];delta qa fq;simp only [xJ,show (1:Int)>0 from by decide,gz,aS (show ¬ ((0:Nat):Int)<0 by exact fQ 0)];rw[show max 0 (min ((0:Nat):Int) l.length)=0 by exact Int.max_self 0]
theorem Ag {l:List Mine.P} {i:Nat}:qa l (some (i:Int)) none none=l.drop i:=by
 have e:=sZ (l:=l) (i:=i) (j:=l.length);rw[dP (by rw[bT];exact aB _)] at e;rw[← e];delta qa fq;simp only [xJ,show (1:Int)>0 from by decide,gz,aS (show ¬ (l.length:Int)<0 by exact fQ l.length)];rw[mxJ (aB l.length)]
theorem qc {l:List Mine.P}:qa l none none (some (-1))=l.reverse:=by
 have e:ru (fq none none (some (-1)) l.length).1 (fq none none (some (-1)) l.length).2.1 (fq none none (some (-1)) l.length).2.2=((b4 l.length).map fun (k:Nat)=>(((0:Nat):Int)+1*(k:Int)).toNat).reverse:=by
  delta fq ru;simp only [xK,show ¬ (-1:Int)>0 from by decide,jy];rw[show (if (l.length:Int) - 1 > -1 then ((l.length:Int) - 1 - -1 - -1 - 1) / - -1 else 0).toNat=l.length from rgR _];apply List.ext_getElem
  ·simp
  ·intro k h1 h2
   simp at h1 h2 ⊢;exact tnI h1
 unfold qa;rw[e,List.filterMap_reverse,qL (by exact uM .e (.a gR au) au zC ),j5,dG]
end
theorem N8 {x y:List Mine.P} {a b:V} (h0:intOf a=none∧strOf a=none) (ha:iE (Kf P) a σ = .ok x σ) (hb:iE (Kf P) b σ = .ok y σ) (hz:x.length+y.length≤2 ^ 20):xN (Kf P) .Add a b σ = .ok (.p (.lst (x++y))) σ:=by
 show N7 (Kf P) a b σ=_;unfold N7;rw[h0.1,h0.2];refine rb ha (rb hb ?_);have hs:aZ=2 ^ 24:=rfl;rw[aA (by exact fc hz)];rfl
theorem rq {vs:List Mine.P} {lo hi st:V} {i j k:Option Int} {r:List Mine.P} (h1:uG lo=some i) (h2:uG hi=some j) (h3:uG st=some k) (hk:k≠some 0) (hz:vs.length≤2 ^ 20) (h:qa vs i j k=r):GJ (Kf P) (.p (.lst vs)) lo hi st σ = .ok (.p (.lst r)) σ:=by
 unfold GJ;rw[h1,h2,h3];show (if k≠some 0∧vs.length≤aZ then (pure (V.p (.lst (qa vs i j k))):Mo V) else Mo.fail) σ=_;have hs:aZ=2 ^ 24:=rfl;rw[aA ⟨hk,by exact fc hz⟩,h];rfl
section
variable {α : Type} {em:α→Mine.P} {de:Mine.P→α} {aP:List Ob} {x:Str} {L:Mine.P→List (Str × Sl)} {t:α→Bool} {f:α→Mine.P} {nx:Nat→St→Option (Option Mine.P)} {vs ws:List Mine.P} {xs:List α} {iter:Expr} {Mi:List Expr} {rG:Expr} {px:Pos} {cK:bV} {u:V} {loc l:List (Str × Sl)}
theorem comp_map (hd:∀ x,de (em x)=x) (hr:(xs.filter t).map f=ws) (h1:mz iter=false) (h2:oj cK x=true) (h3:dX loc cK.names=some l) (h4:(ev P n).E sc iter ⟨loc,aP,.no⟩ = .ok u ⟨loc,aP,.no⟩) (hv:vs=xs.map em)
  (h5:srcOf u ⟨loc,aP,.no⟩=some (nx,vs.length)) (NH:∀ i l,nx i ⟨l,aP,.no⟩=some vs[i]?) (hw:∀ v,o9 x (.p v) ⟨l,aP,.no⟩ = .ok () ⟨L v,aP,.no⟩) (hL:∀ u v,o9 x (.p v) ⟨L u,aP,.no⟩ = .ok () ⟨L v,aP,.no⟩) (kC:xs.length≤2 ^ 20)
  (hi:∀ x∈xs,vj ((ev P n).T (nI sc cK)) Mi ⟨L (em x),aP,.no⟩ = .ok (t x) ⟨L (em x),aP,.no⟩) (he:∀ x∈xs,t x=true→(ev P n).E (nI sc cK) rG ⟨L (em x),aP,.no⟩ = .ok (.p (f x)) ⟨L (em x),aP,.no⟩) :
  Mine.comp (ev P n) sc rG [⟨.Name x px,iter,Mi,0⟩] cK ⟨loc,aP,.no⟩ = .ok (.lst ws) ⟨loc,aP,.no⟩:=by
 subst hv;have e:((xs.map em).filter fun v=>t (de v)).map (fun v=>f (de v))=ws:=by
  rw[List.filter_map,bZ,← hr];congr 1
  ·exact funext fun x=>aK f (hd x)
  ·congr 1
   exact funext fun x=>aK t (hd x)
 rw[← e];refine yS h1 h2 h3 h4 h5 NH hw hL (by rw[aM];exact kC) (fun v hv=>?_) fun v hv ht=>?_
 ·refine bU (aX.mp hv) fun x hx agb=>?_
  obtain rfl:=agb;rw[hd];exact hi x hx
 ·refine bU (aX.mp hv) fun x hx agc=>?_
  obtain rfl:=agc;rw[hd] at ht ⊢;exact he x hx ht
theorem BA (hd:∀ x,de (em x)=x) (hr:xs.map f=ws) (h1:mz iter=false) (h2:oj cK x=true) (h3:dX loc cK.names=some l) (h4:(ev P n).E sc iter ⟨loc,aP,.no⟩ = .ok u ⟨loc,aP,.no⟩) (hv:vs=xs.map em)
  (h5:srcOf u ⟨loc,aP,.no⟩=some (nx,vs.length)) (NH:∀ i l,nx i ⟨l,aP,.no⟩=some vs[i]?) (hw:∀ v,o9 x (.p v) ⟨l,aP,.no⟩ = .ok () ⟨L v,aP,.no⟩) (hL:∀ u v,o9 x (.p v) ⟨L u,aP,.no⟩ = .ok () ⟨L v,aP,.no⟩) (kC:xs.length≤2 ^ 20)
  (he:∀ x∈xs,(ev P n).E (nI sc cK) rG ⟨L (em x),aP,.no⟩ = .ok (.p (f x)) ⟨L (em x),aP,.no⟩) :
  Mine.comp (ev P n) sc rG [⟨.Name x px,iter,[],0⟩] cK ⟨loc,aP,.no⟩ = .ok (.lst ws) ⟨loc,aP,.no⟩:=
 comp_map (t:=fun _=>true) hd (by rw[kI.mpr fun _ _=>rfl,hr]) h1 h2 h3 h4 hv h5 NH hw hL kC (fun _ _=>rfl) fun x hx _=>he x hx
end
noncomputable def deN:Mine.P→Nat
 | .int k=>k.toNat
 | _=>0
noncomputable def Nz (x:Nat):Mine.P:=.int x
noncomputable def emS (x:List Nat):Mine.P:=.str (S x)
theorem uu (x:Nat):deN (Nz x)=x:=rfl
theorem vO {a b:Nat}:qO a b=(bg a (b - a)).map Nz:=by
 unfold qO;rw[EN,bZ,show ((b:Int) - a).toNat=b - a by exact Int.toNat_sub b a];refine e9 fun k _=>?_;congr 1
theorem D5 {a b:Nat} (ha:a≤1000) (hb:b≤1000) {i j:Int} (hi:i=a) (hj:j=b):srcOf (.p (.rj i j 1)) σ=some (fun i _=>some (qO a b)[i]?,(qO a b).length):=by
 subst hi hj;exact Ld (by exact qY 1000 a) (by exact zO ha) (by exact qY 1000 b) (by exact zO hb)
noncomputable def HP (es:List Nat) (n:Nat) (k:Nat):Nat:=(0 :: (es++[n]))[k]?.getD 0
theorem S4 {α : Type} {l:List α}:∀ (es:List Nat) (s:Nat),ie l s es++[l.drop (mL s es)]=(b4 (es.length+1)).map fun k=>(l.drop ((s :: (es++[l.length]))[k]?.getD 0)).take ((s :: (es++[l.length]))[k+1]?.getD 0 - (s :: (es++[l.length]))[k]?.getD 0):=by
 intro es;induction es with
 | nil =>
  intro s;show [l.drop s]=[(l.drop s).take (l.length - s)];rw[dP (by rw[bT];exact aB _)]
 | cons e es ih =>
  intro s;rw[dU,Hv,cZ,bZ];show (l.drop s).take (e - s) :: (ie l e es++[l.drop (mL e es)])=_;rw[ih e];rfl
theorem wm {α : Type} {l:List α} {es:List Nat}:cutAt l es=(b4 (es.length+1)).map fun k=>(l.drop (HP es l.length k)).take (HP es l.length (k+1) - HP es l.length k):=S4 es 0
end
section
variable {P:ai} {n:Nat} {sc:bV} {σ σ1:St} {l l':List (Str × Sl)} {g a b c d e:Ob}
noncomputable def k7 (rs:List (List (List Nat))):List Mine.P:=rs.map fun r=>.lst (bD r)
theorem pZ {xs:List Nat} {k x:Nat} (h:xs[k]?=some x):(aq xs)[k]?=some (.int x):=by
 unfold aq;rw[bM,h];rfl
theorem cP {xs:List Nat}:(aq xs).length=xs.length:=aM ..
theorem Dd {es:List Nat} {n k:Nat} (h:k<es.length+2):(0 :: (es++[n]))[k]?=some (HP es n k):=by
 unfold HP;rw[bS (by simp;exact h)];rfl
noncomputable def rL (es:List Nat):List (Str × Sl):=[("words",.cell 6),("ends",.val (.p (.lst (aq es)))),("bounds",.cell 7)]
noncomputable def rT (g a b c d e:Ob) (ws:List (List Nat)) (B:Option V) (X:List Ob):List Ob:=[g,a,b,c,d,e]++.cell (some (.p (.lst (bD ws)))) :: .cell B :: X
theorem Qx {ws:List (List Nat)} {es:List Nat} (hT:∀ o∈[g,a,b,c,d,e],tL o) (hw:ws.length≤100) (he:es.length≤100):(ev P (n+30)).C 864 [.p (.lst (bD ws)),.p (.lst (aq es))] [] ⟨l,[g,a,b,c,d,e],.no⟩ = .ok (.p (.lst (k7 (cutAt ws es)))) ⟨l,[g,a,b,c,d,e],.no⟩:=by
 have lw:=iK (R:=ws);have le:=cP (xs:=es);obtain ⟨B,hB⟩:∃ B,B=aq (0 :: (es++[ws.length])):=⟨_,rfl⟩;have hBl:B.length=es.length+2:=by rw[hB,cP,dU,aO];rfl
 have e0:eS (Kf P) (ev P (n+29)) 864 [.p (.lst (bD ws)),.p (.lst (aq es))] [] ⟨l,[g,a,b,c,d,e],.no⟩=(ev P (n+29)).B (fM P 864).1.scope (fM P 864).2 ⟨rL es,rT g a b c d e ws none [],.no⟩:=by rfl'
 refine uZ (X:=.cell (some (.p (.lst (bD ws)))) :: .cell (some (.p (.lst B))) :: [.list [.int 0],.list [.int (bD ws).length]]) (fl:=.ret (.p (.lst (k7 (cutAt ws es))))) (l':=rL es) hT ?_ rfl;rw[e0];refine aU (oW (σ1:=⟨rL es,rT g a b c d e ws none [.list [.int 0],.list [.int (bD ws).length]],.no⟩) (σ2:=⟨rL es,rT g a b c d e ws (some (.p (.lst B))) [.list [.int 0],.list [.int (bD ws).length]],.no⟩) rfl rfl (v:=.p (.lst B))
  (Jy rfl (a:=.p (.lst (.int 0 :: aq es))) (σ1:=⟨rL es,rT g a b c d e ws none [.list [.int 0]],.no⟩)
   (Jy rfl (a:=.obj 8) (σ1:=⟨rL es,rT g a b c d e ws none [.list [.int 0]],.no⟩) (by rfl') (b:=.p (.lst (aq es))) (by rfl') (N8 (x:=[.int 0]) (y:=aq es) ⟨rfl,rfl⟩ rfl rfl (by rw[le];simp;exact uM (.g au (.n 100) .e) (.a jr au) (.n 1048576) zC he)))
   (b:=.obj 9) (σ2:=⟨rL es,rT g a b c d e ws none [.list [.int 0],.list [.int (bD ws).length]],.no⟩) (rb (A1 rfl (b8 rfl rfl (fv:=.p (.bi "len")) (by rfl') (a1 rfl (v:=.p (.lst (bD ws))) (by rfl')) (DJ (by exact sy (zA lw) hw zC)))) rfl) ?_) (by rfl')) ?_
 ·rw[hB,← show Mine.P.int 0 :: aq es++[Mine.P.int (bD ws).length]=aq (0 :: (es++[ws.length])) by
   rw[lw];unfold aq;rw[cZ,aV];rfl]
  exact N8 (x:=.int 0 :: aq es) (y:=[.int (bD ws).length]) ⟨rfl,rfl⟩ rfl rfl (by simp;exact sy (zA le) he zC)
 ·refine kN (Bp (rb (a:=.lst (k7 (cutAt ws es))) (BA (x:="k") (u:=.p (.rj 0 ((es.length:Int)+1) 1)) (l:=[(".0",.unset),("k",.unset),("bounds",.cell 7),("words",.cell 6)]) (L:=fun v=>[(".0",.unset),("k",.val (.p v)),("bounds",.cell 7),("words",.cell 6)])
   (vs:=qO (0:Nat) (es.length+1:Nat)) (xs:=bg 0 (es.length+1)) (nx:=fun i _=>some (qO (0:Nat) (es.length+1:Nat))[i]?)
   (f:=fun k=>.lst (bD ((ws.drop (HP es ws.length k)).take (HP es ws.length (k+1) - HP es ws.length k)))) uu ?_ rfl (by rfl') (by rfl') (b8 rfl rfl (fv:=.p (.ty "range")) (by rfl') (a1 rfl (v:=.p (.int ((es.length:Int)+1))) (ig rfl (a:=.p (.int es.length)) (b8 rfl rfl (fv:=.p (.bi "len")) (by rfl') (a1 rfl (v:=.p (.lst (aq es))) (by rfl')) ((DJ (by exact sy (zA le) he zC)).trans (by rw[le]))) (b:=.p (.int 1)) (by rfl') rfl)) (by rfl')) vO (D5 (by exact d7 1000) (by exact uM (.g au (.n 100) .e) (.s au) (.n 1000) zC he) rfl rfl) (fun _ _=>rfl) (fun _=>by rfl') (fun _ _=>by rfl') (by rw[g5];exact uM (.g au (.n 100) .e) (.s au) (.n 1048576) zC he) ?_) rfl))
  ·rw[wm,← um]
   unfold k7;rw[bZ];rfl
  ·intro k hk
   rw[iG] at hk;have at1:=pZ (Dd (es:=es) (n:=ws.length) (k:=k) (by exact oH (.g (.s au) (.a gR (.s aE)) .e) (.s au) (.a aE (.n 2)) zC hk.2));have at2:=pZ (Dd (es:=es) (n:=ws.length) (k:=k+1) (by exact oH (.g (.s au) (.a gR (.s aE)) .e) (.s (.s au)) (.a aE (.n 2)) zC hk.2));rw[← hB] at at1 at2;refine mX (a:=.p (.lst (bD ws))) (by rfl') (l:=.p (.int (HP es ws.length k))) (iQ rfl (a:=.p (.lst B)) (by rfl') (b:=.p (.int k)) (by rfl') (xr ⟨rfl,rfl⟩ rfl at1 (by exact acG (zA hBl) he))) (u:=.p (.int (HP es ws.length (k+1)))) (iQ rfl (a:=.p (.lst B)) (by rfl') (b:=.p (.int (k+1:Nat))) (by rfl') (xr ⟨rfl,rfl⟩ rfl at2 (by exact acG (zA hBl) he))) (t:=.p .none) (by rfl')
    (rq (i:=some (HP es ws.length k:Int)) (j:=some (HP es ws.length (k+1):Int)) (k:=none) rfl rfl rfl (by decide) (by exact sy (zA lw) hw zC) ?_)
   rw[sZ];unfold bD;rw[← jE,← gk]
end
section
variable {P:ai} {n:Nat} {sc:bV} {σ σ1:St} {l l':List (Str × Sl)} {g a b c d e:Ob}
theorem add_int {x y z:Int} (h:x+y=z):xN (Kf P) .Add (.p (.int x)) (.p (.int y)) σ = .ok (.p (.int z)) σ:=by subst h;rfl
theorem sub_int {x y z:Int} (h:x - y=z):xN (Kf P) .Sub (.p (.int x)) (.p (.int y)) σ = .ok (.p (.int z)) σ:=by subst h;rfl
theorem mul_int {x y z:Int} (h:x*y=z) (hx:x.natAbs<2 ^ 60):xN (Kf P) .Mult (.p (.int x)) (.p (.int y)) σ = .ok (.p (.int z)) σ:=by
 subst h;show (if x.natAbs<2 ^ 60 then (pure (V.p (.int (x*y))):Mo V) else Mo.fail) σ=_;rw[aA hx];rfl
noncomputable def dc (H:List (Nat × Nat)):List Mine.P:=H.map fun x=>.tup [.int x.1,.int x.2]
theorem zd {H:List (Nat × Nat)}:(dc H).length=H.length:=aM ..
theorem BR {H:List (Nat × Nat)} {p x y:Nat} (h:H[p]?=some (x,y)):(dc H)[p]?=some (.tup [.int x,.int y]):=by
 unfold dc;rw[bM,h];rfl
theorem sH {ok:Nat→Nat→Bool} {m p:Nat} (h:p≤m):(dc (bO ok m))[p]?=some (.tup [.int (hF ok p),.int (hW ok p)]):=BR (kK h)
theorem qT {ok:Nat→Nat→Bool} {m:Nat}:(dc (bO ok m)).length=m+1:=by rw[zd,gm]
theorem r9 {e i:Expr} {p q:Pos} {a:V} {x y:Mine.P} {vs:List Mine.P} {j:Nat} (h0:sliceOf i=none) (h:(ev P n).E sc e σ = .ok a σ) (hi:(ev P n).E sc i σ = .ok (.p (.int j)) σ) (ha:strOf a=none∧xD a=none) (hl:iE (Kf P) a σ = .ok vs σ) (hj:vs[j]?=some (.tup [x,y])) (hz:vs.length≤2 ^ 20) :
  (ev P (n+2)).E sc (.Subscript (.Subscript e i p) (.Constant (.int 0) kk pp) q) σ = .ok (.p x) σ:=
 iQ rfl (a:=.p (.tup [x,y])) (iQ h0 h hi (xr ha hl hj hz)) (b:=.p (.int 0)) (by rfl') (by rfl')
theorem Jh {e i:Expr} {p q:Pos} {a:V} {x y:Mine.P} {vs:List Mine.P} {j:Nat} (h0:sliceOf i=none) (h:(ev P n).E sc e σ = .ok a σ) (hi:(ev P n).E sc i σ = .ok (.p (.int j)) σ) (ha:strOf a=none∧xD a=none) (hl:iE (Kf P) a σ = .ok vs σ) (hj:vs[j]?=some (.tup [x,y])) (hz:vs.length≤2 ^ 20) :
  (ev P (n+2)).E sc (.Subscript (.Subscript e i p) (.Constant (.int 1) kk pp) q) σ = .ok (.p y) σ:=
 iQ rfl (a:=.p (.tup [x,y])) (iQ h0 h hi (xr ha hl hj hz)) (b:=.p (.int 1)) (by rfl') (by rfl')
theorem KY {f:Expr→Mo Bool} {e:Expr} {b:Bool} (h:f e σ = .ok b σ):vj f [e] σ = .ok b σ:=rb h (by cases b<;>rfl)
theorem xA {e e':Expr} {p:Pos} {x y:Nat} (h0:fW .Eq e'=false) (h:(ev P n).E sc e σ = .ok (.p (.int x)) σ) (h':(ev P n).E sc e' σ = .ok (.p (.int y)) σ):(ev P (n+1)).T sc (.Compare e [.Eq] [e'] p) σ = .ok (x==y) σ:=by
 refine gW h0 h h' eq_int ?_;show Res.ok ((x:Int)==(y:Int)) σ=_;congr 1;rw[k9,beq_iff_eq,beq_iff_eq];exact Int.ofNat_inj
theorem Ib {id:dD} {f:List Mine.P→Option Int} {a:V} {vs:List Mine.P} {i:Int} (hid:jL (Kf P) (ev P n) (.p (.bi id)) [a] []=yX (Kf P) f a) (h:iE (Kf P) a ⟨l,l2,.no⟩ = .ok vs ⟨l,l2,.no⟩) (hi:f vs=some i):jL (Kf P) (ev P n) (.p (.bi id)) [a] [] ⟨l,l2,.no⟩ = .ok (.p (.int i)) ⟨l,l2,.no⟩:=by
 rw[hid];refine rb h ?_;rw[hi];rfl
theorem acV {vs:List Mine.P} {aP:List Ob} {i:Int} (hi:IS vs=some i):jL (Kf P) (ev P n) (.p (.bi "max")) [.p (.lst vs)] [] ⟨l,aP,.no⟩ = .ok (.p (.int i)) ⟨l,aP,.no⟩:=Ib (f:=IS) (by rfl') rfl hi
theorem acW {vs:List Mine.P} {aP:List Ob} {i:Int} (hi:Gm vs=some i):jL (Kf P) (ev P n) (.p (.bi "min")) [.p (.lst vs)] [] ⟨l,aP,.no⟩ = .ok (.p (.int i)) ⟨l,aP,.no⟩:=Ib (f:=Gm) (by rfl') rfl hi
theorem Q2 {vs:List Mine.P} {aP:List Ob} {i:Int} (hi:D8 vs=some i):jL (Kf P) (ev P n) (.p (.bi "sum")) [.p (.lst vs)] [] ⟨l,aP,.no⟩ = .ok (.p (.int i)) ⟨l,aP,.no⟩:=Ib (f:=D8) (by rfl') rfl hi
theorem lI {e:Expr} {p q:Pos} {vs:List Mine.P} (hn:(ev P (n+1)).E sc (.Name "len" q) σ = .ok (.p (.bi "len")) σ) (h0:isStar e=false) (h:(ev P (n+1)).E sc e σ = .ok (.p (.lst vs)) σ) (hz:vs.length≤2 ^ 20):(ev P (n+2)).E sc (.Call (.Name "len" q) [e] [] p) σ = .ok (.p (.int vs.length)) σ:=
 b8 rfl (by show (!isStar e&&true)=true;rw[h0];rfl) hn (a1 h0 h) (DJ hz)
theorem Px {ok:Nat→Nat→Bool} {m k:Nat} (hT:∀ o∈[g,a,b,c,d,e],tL o) (hm:m≤100) (hk:((b4 (m+1)).filter fun p=>hF ok p==k)≠[]):(ev P (n+30)).C 845 [.p (.lst (dc (bO ok m))),.p (.int k)] [] ⟨l,[g,a,b,c,d,e],.no⟩ = .ok (.p (.int (m5 (hF ok) m k))) ⟨l,[g,a,b,c,d,e],.no⟩:=by
 have hl:=qT (ok:=ok) (m:=m);have e0:eS (Kf P) (ev P (n+29)) 845 [.p (.lst (dc (bO ok m))),.p (.int k)] [] ⟨l,[g,a,b,c,d,e],.no⟩=(ev P (n+29)).B (fM P 845).1.scope (fM P 845).2 ⟨[("heads",.cell 6),("k",.cell 7)],[g,a,b,c,d,e]++[.cell (some (.p (.lst (dc (bO ok m))))),.cell (some (.p (.int k)))],.no⟩:=by rfl'
 refine uZ (X:=[.cell (some (.p (.lst (dc (bO ok m))))),.cell (some (.p (.int k)))]) (l':=[("heads",.cell 6),("k",.cell 7)]) (fl:=.ret (.p (.int (m5 (hF ok) m k)))) hT (e0.trans ?_) rfl;refine kN (o6 (b8 rfl rfl (fv:=.p (.bi "max")) (by rfl') (a1 rfl (v:=.p (.lst (aq ((b4 (m+1)).filter fun p=>hF ok p==k)))) (rb (comp_map (x:="p") (u:=.p (.rj 0 (dc (bO ok m)).length 1)) (l:=[(".0",.unset),("p",.unset),("heads",.cell 6),("k",.cell 7)]) (L:=fun v=>[(".0",.unset),("p",.val (.p v)),("heads",.cell 6),("k",.cell 7)])
   (vs:=qO (0:Nat) (m+1:Nat)) (xs:=bg 0 (m+1)) (nx:=fun i _=>some (qO (0:Nat) (m+1:Nat))[i]?) (t:=fun p=>hF ok p==k)
   (f:=fun p=>.int p) uu (by rw[← um];rfl) rfl (by rfl') (by rfl') (b8 rfl rfl (fv:=.p (.ty "range")) (by rfl') (a1 rfl (lI (vs:=dc (bO ok m)) (by rfl') rfl (by rfl') (by exact vF (zA hl) hm zC))) (by rfl')) vO (D5 (by exact d7 1000) (by exact uM (.g au (.n 100) .e) (.s au) (.n 1000) zC hm) rfl (by rw[hl])) (fun _ _=>rfl) (fun _=>by rfl') (fun _ _=>by rfl') (by rw[g5];exact uM (.g au (.n 100) .e) (.s au) (.n 1048576) zC hm) ?_ ?_) rfl)) (acV (Mw hk))))
 ·intro p hp
  rw[iG] at hp;exact KY (xA rfl (r9 rfl (a:=.p (.lst (dc (bO ok m)))) (by rfl') (by rfl') ⟨rfl,rfl⟩ rfl (sH (by exact oH (.g (.s au) (.a gR (.s aE)) .e) au aE zC hp.2)) (by exact vF (zA hl) hm zC)) (by rfl'))
 ·intro p _ _
  rfl'
end
section
variable {P:ai} {n:Nat} {sc:bV} {σ σ1:St} {l l':List (Str × Sl)} {g a b c d e o o':Ob} {ws:List Nat} {r m q:Nat} {H:List (Nat × Nat)} {F:Option V} {J:List Ob} {ny first ways:Sl}
noncomputable def Fr (s:Sl):Prop:=s = .unset∨∃ v,s = .val v
theorem Fr.val {v:V}:Fr (.val v):=.inr ⟨_,rfl⟩
noncomputable def hL (ws:List Nat) (r:Nat) (last ny first ways:Sl):List (Str × Sl):=[("widths",.val (.p (.lst (aq ws)))),("room",iv r),("heads",.cell 6),("last",last),("firsts",ny),("first",first),("fewest",.cell 7),("ways",ways)]
noncomputable def hS (g a b c d e:Ob) (H:List (Nat × Nat)) (F:Option V) (J:List Ob):List Ob:=[g,a,b,c,d,e]++.cell (some (.obj 8)) :: .cell F :: .list (dc H) :: J
theorem FW:(hS g a b c d e H F (J++[o]))[J.length+9]?=some o:=by
 exact oN
theorem Xu:(hS g a b c d e H F (J++[o])).set (J.length+9) o'=hS g a b c d e H F (J++[o']):=by
 show hS g a b c d e H F ((J++[o]).set J.length o')=_;rw[qQ]
theorem UE {p:Nat} (h:q≤p):pre ws q+((ws.drop q).take (p - q)).sum=pre ws p:=by
 unfold pre;rw[← ly];congr 1;obtain ⟨x,rfl⟩:∃ x,p=q+x:=⟨p - q,by exact iI (xZ h)⟩;rw[b6,List.take_add]
noncomputable def hb (P:ai):List Stmt:=qA ((fM P 840).2.getD 1 (.Pass default))
noncomputable def hi (P:ai):List Stmt:=qA ((hb P).getD 1 (.Pass default))
theorem Ia {fs:List Nat} (hw:ws.length≤100) (hf:fs.length≤1000) (hq:q<m) :
  (ev P (n+30)).B (fM P 840).1.scope (hi P) ⟨hL ws r (iv (m+1:Nat)) (.val (.obj (J.length+9))) (iv q) ways,hS g a b c d e H F (J++[.list (aq fs)]),.no⟩ = .ok .next ⟨hL ws r (iv (m+1:Nat)) (.val (.obj (J.length+9))) (iv q) ways,hS g a b c d e H F (J++[.list (aq (fs++[q].filter fun q=>eV ws r q (m+1)))]),.no⟩:=by
 have lw:=cP (xs:=ws);have lf:=cP (xs:=fs);have hp:=UE (ws:=ws) (q:=q) (p:=m+1) (by exact oH (.g (.s au) aE .e) au (.s aE) zC hq);refine eK (UO (c:=eV ws r q (m+1)) (gW rfl (ig rfl (ig rfl (ig rfl (b8 rfl rfl (fv:=.p (.bi "sum")) (by rfl') (a1 rfl (v:=.p (.lst (aq ((ws.drop q).take (m+1 - q))))) (mX (a:=.p (.lst (aq ws))) (by rfl') (l:=.p (.int q)) (by rfl') (u:=.p (.int (m+1:Nat))) (by rfl') (t:=.p .none) (by rfl') (rq (i:=some (q:Int)) (j:=some ((m+1:Nat):Int)) (k:=none) rfl rfl rfl (by decide) (by exact sy (zA lw) hw zC) ?_))) (Q2 CR)) (b:=.p (.int (m+1:Nat))) (by rfl') rfl) (b:=.p (.int q)) (by rfl') rfl) (b:=.p (.int 1)) (by rfl') rfl) (b:=.p (.int r)) (by rfl') rfl ?_) ?_)
 ·rw[sZ]
  unfold aq;rw[← jE,← gk]
 ·show Res.ok (decide ((((((ws.drop q).take (m+1 - q)).sum:Nat):Int)+((m+1:Nat):Int) - (q:Int)) - 1≤(r:Int))) _=_
  congr 1;unfold eV;exact frI hq hp
 ·refine bC (eV ws r q (m+1)) (fun pB=>?_) fun pB=>?_
  ·refine eK ((w5 rfl ⟨rfl,rfl,by decide,rfl⟩ (k:=J.length+9) (by rfl') FW rfl (x:=.int q) (by rfl') (by exact sy (zA lf) hf zC)).trans ?_)
   rw[Xu,iX (p:=fun q=>eV ws r q (m+1)) pB];dsimp only [aq];rw[aV];rfl
  ·rw[gy (p:=fun q=>eV ws r q (m+1)) (by rw[pB];exact bR),fm,cg]
   rfl
theorem FL (hw:ws.length≤100):∀ (x q:Nat) (fs:List Nat) (s:Sl),q+x=m→fs.length+x≤1000→Fr s→∃ s',Fr s' ∧
  j0 "first" ((ev P (n+30)).B (fM P 840).1.scope (hi P)) ((bg q x).map Nz) ⟨hL ws r (iv (m+1:Nat)) (.val (.obj (J.length+9))) s ways,hS g a b c d e H F (J++[.list (aq fs)]),.no⟩ = .ok .next ⟨hL ws r (iv (m+1:Nat)) (.val (.obj (J.length+9))) s' ways,hS g a b c d e H F (J++[.list (aq (fs++(bg q x).filter fun q=>eV ws r q (m+1)))]),.no⟩:=by
 intro x;induction x with
 | zero =>
  intro q fs s _ _ hs;refine ⟨s,hs,?_⟩;rw[yF,fm,cg];exact wY rfl
 | succ x ih =>
  intro q fs s hq hf hs;obtain ⟨s',RX,k⟩:=ih (q+1) (fs++[q].filter fun q=>eV ws r q (m+1)) (iv q) (by exact zQ (IG (zA hq)) (Ua (zG hq))) (by
   have:=fj (fun q=>eV ws r q (m+1)) [q];rw[aO];exact Yc hf this) Fr.val
  refine ⟨s',RX,?_⟩;rw[Sw,iW];rw[iW,fm,dN] at k;have ft:=Ia (P:=P) (n:=n) (g:=g) (a:=a) (b:=b) (c:=c) (d:=d) (e:=e) (ws:=ws) (r:=r) (m:=m) (q:=q) (H:=H) (F:=F) (J:=J) (ways:=ways) (fs:=fs) hw (by exact fS hf) (by exact Mq (zA hq));rw[iW,fm] at ft;refine rV ?_ ft ?_
  ·rcases hs with rfl | ⟨v,rfl⟩<;>rfl'
  ·rw[k]
   cases eV ws r q (m+1)<;>rfl
end
section
variable {P:ai} {n:Nat} {sc:bV} {σ σ1:St} {l l':List (Str × Sl)} {g a b c d e o o':Ob} {ws:List Nat} {r m q:Nat} {H:List (Nat × Nat)} {F:Option V} {J:List Ob} {ny first ways last:Sl}
theorem xu {ok:Nat→Nat→Bool} {m:Nat}:bO ok (m+1)=bO ok m++[(hF ok (m+1),hW ok (m+1))]:=by
 rw[zc,zc,sM,aV];rfl
theorem Lc {k:Nat} {aP:List Ob} {vs:List Mine.P} (hk:aP[k]?=some (.list vs)):srcOf (.obj k) ⟨l,aP,.no⟩=some (fun i σ=>(match σ.aP[k]? with
   | some (.list vs)=>some vs[i]?
   | _=>none),vs.length):=by
 show (match aP[k]? with
  | some (.list vs)=>some ((fun i (σ:St)=>(match σ.aP[k]? with
   | some (.list vs)=>some vs[i]?
   | _=>none):Nat→St→Option (Option Mine.P)),vs.length)
  | _=>none)=_
 rw[hk]
theorem P1 {k i:Nat} {aP:List Ob} {vs:List Mine.P} (hk:aP[k]?=some (.list vs)):(match aP[k]? with
   | some (.list vs)=>some vs[i]?
   | _=>none)=some vs[i]?:=by rw[hk]
theorem Dt:(m :: (bg 0 m).filter fun q=>eV ws r q (m+1))=dB (eV ws r) (m+1):=by
 rw[← um];rfl
theorem FJ {ok:Nat→Nat→Bool} (h:q∈dB ok (m+1)):q≤m:=by
 unfold dB at h;rw[av,gB,dF] at h;exact h.elim (fun dK=>(acB (zA dK) (zB (Ub )))) fun dK=>(V4 dK.1 (aI _ _))
theorem Dr {ok:Nat→Nat→Bool}:(dB ok (m+1)).length≤m+1:=by
 have:=fj (fun q=>ok q (m+1)) (b4 m);rw[fK] at this;exact gT this
theorem vC {a b:Nat} {i j:Int} (hi:i=a) (hj:j=b) (ha:a≤1000) (hb:b≤1000):ux (.p (.rj i j 1))=some ((bg a (b - a)).map Nz):=by
 subst hi hj;rw[← vO];show sF a b 1=_;delta sF qO;rw[aA (by rw[show (2:Int) ^ 60=1152921504606846976 from by decide];exact ⟨(zI [↑a] 0 (.g i6 bH .e) (.num (-1152921504606846976)) bH zC (zW _)),⟨(zI [↑a] 0 (.g bH (.num 1000) .e) bH (.num 1152921504606846976) zC (zO ha)),⟨(zI [↑b] 0 (.g i6 bH .e) (.num (-1152921504606846976)) bH zC (zW _)),(zI [↑b] 0 (.g bH (.num 1000) .e) bH (.num 1152921504606846976) zC (zO hb))⟩⟩⟩),aA rfl]
theorem Io (hw:ws.length≤100) (hm:m≤100) (h1:Fr ny) (h2:Fr first) (h3:Fr ways):∃ J3 OF WA F' J',Fr J3∧Fr OF∧Fr WA ∧
  (ev P (n+40)).B (fM P 840).1.scope (hb P) ⟨hL ws r (iv (m+1:Nat)) ny first ways,hS g a b c d e (bO (eV ws r) m) F J,.no⟩ = .ok .next ⟨hL ws r (iv (m+1:Nat)) J3 OF WA,hS g a b c d e (bO (eV ws r) (m+1)) F' J',.no⟩:=by
 obtain ⟨f',hf',fl⟩:=FL (P:=P) (n:=n+9) (g:=g) (a:=a) (b:=b) (c:=c) (d:=d) (e:=e) (r:=r) (H:=bO (eV ws r) m) (F:=F) (J:=J) (m:=m) (ways:=ways) hw m 0 [m] first (by exact fy m) (by simp;exact uM (.g au (.n 100) .e) (.a jr au) (.n 1000) zC hm) h2;rw[List.singleton_append,Dt] at fl;have hlen:=qT (ok:=eV ws r) (m:=m);have fn:=Dr (m:=m) (ok:=eV ws r);have tV:(dB (eV ws r) (m+1)).map (hF (eV ws r))≠[]:=kh _ _;obtain ⟨w,hw0⟩:∃ w,w=Gn ((dB (eV ws r) (m+1)).map (hF (eV ws r))):=⟨_,rfl⟩;have ab1:w+1=hF (eV ws r) (m+1):=by rw[hw0];exact (yi m).symm
 have ahJ:(((dB (eV ws r) (m+1)).filter fun q=>hF (eV ws r) q==w).map (hW (eV ws r))).sum=hW (eV ws r) (m+1):=by rw[hw0];exact (J6 m).symm
 have hml:Gm (aq ((dB (eV ws r) (m+1)).map (hF (eV ws r))))=some (w:Int):=by rw[hw0];exact Mz tV
 have hsl:D8 (aq (((dB (eV ws r) (m+1)).filter fun q=>hF (eV ws r) q==w).map (hW (eV ws r))))=some ((hW (eV ws r) (m+1):Nat):Int):=by rw[← ahJ];exact CR
 have qD:∀ q∈dB (eV ws r) (m+1),q≤m:=fun q hq=>FJ hq;refine (Y2 (.val (.obj (J.length+9))) f' (Y2 (iv (hW (eV ws r) (m+1))) (some (.p (.int w))) ⟨J++[.list (aq (dB (eV ws r) (m+1)))],Fr.val,hf',Fr.val,?_⟩));generalize dB (eV ws r) (m+1)=fs at *;refine aU (σ1:=⟨hL ws r (iv (m+1:Nat)) (.val (.obj (J.length+9))) first ways,hS g a b c d e (bO (eV ws r) m) F (J++[.list (aq [m])]),.no⟩) (oW (σ1:=⟨hL ws r (iv (m+1:Nat)) ny first ways,hS g a b c d e (bO (eV ws r) m) F (J++[.list (aq [m])]),.no⟩) rfl rfl (v:=.obj (J.length+9)) (rb (A1 rfl (v:=.p (.int m)) (ig rfl (a:=.p (.int (m+1:Nat))) (by rfl') (b:=.p (.int 1)) (by rfl') (sub_int (by exact tK.mpr rfl)))) (by rfl')) (by rcases h1 with rfl | ⟨v,rfl⟩<;>rfl')) ?_;refine aU (yH rfl (u:=.p (.rj 0 m 1)) (b8 rfl rfl (fv:=.p (.ty "range")) (by rfl') (a1 rfl (v:=.p (.int m)) (ig rfl (a:=.p (.int (m+1:Nat))) (by rfl') (b:=.p (.int 1)) (by rfl') (sub_int (by exact tK.mpr rfl)))) (by rfl')) (vC (a:=0) (b:=m) rfl rfl (by exact d7 1000) (by exact jj hm zC)) fl) ?_;refine aU (fD (σ2:=⟨hL ws r (iv (m+1:Nat)) (.val (.obj (J.length+9))) f' ways,hS g a b c d e (bO (eV ws r) m) (some (.p (.int w))) (J++[.list (aq fs)]),.no⟩) rfl rfl (v:=.p (.int w)) (b8 rfl rfl (fv:=.p (.bi "min")) (by rfl') (a1 rfl (v:=.p (.lst (aq (fs.map (hF (eV ws r)))))) (rb (BA (x:="first") (u:=.obj (J.length+9)) (l:=[(".0",.unset),("first",.unset),("heads",.cell 6)]) (L:=fun v=>[(".0",.unset),("first",.val (.p v)),("heads",.cell 6)])
   (vs:=aq fs) (xs:=fs) (f:=fun q=>.int (hF (eV ws r) q)) uu (by unfold aq;rw[bZ];rfl) rfl (by rfl') (by rfl') (by rfl') rfl (Lc FW) (fun i l=>P1 FW) (fun _=>by rfl') (fun _ _=>by rfl') (by exact vF fn hm zC) (fun q hq=>r9 rfl (a:=.obj 8) (by rfl') (by rfl') ⟨rfl,rfl⟩ (vI rfl) (sH (qD q hq)) (by exact vF (zA hlen) hm zC))) rfl)) (acW hml)) (by rfl')) ?_
 refine aU (fD (σ2:=⟨hL ws r (iv (m+1:Nat)) (.val (.obj (J.length+9))) f' (iv (hW (eV ws r) (m+1))),hS g a b c d e (bO (eV ws r) m) (some (.p (.int w))) (J++[.list (aq fs)]),.no⟩) rfl rfl (v:=.p (.int (hW (eV ws r) (m+1)))) (b8 rfl rfl (fv:=.p (.bi "sum")) (by rfl') (a1 rfl (v:=.p (.lst (aq ((fs.filter fun q=>hF (eV ws r) q==w).map (hW (eV ws r)))))) (rb (comp_map (x:="first") (u:=.obj (J.length+9)) (l:=[(".0",.unset),("first",.unset),("fewest",.cell 7),("heads",.cell 6)]) (L:=fun v=>[(".0",.unset),("first",.val (.p v)),("fewest",.cell 7),("heads",.cell 6)])
   (vs:=aq fs) (xs:=fs) (t:=fun q=>hF (eV ws r) q==w) (f:=fun q=>.int (hW (eV ws r) q)) uu (by unfold aq;rw[bZ];rfl) rfl (by rfl') (by rfl') (by rfl') rfl (Lc FW) (fun i l=>P1 FW) (fun _=>by rfl') (fun _ _=>by rfl') (by exact vF fn hm zC) (fun q hq=>KY (xA rfl (r9 rfl (a:=.obj 8) (by rfl') (by rfl') ⟨rfl,rfl⟩ (vI rfl) (sH (qD q hq)) (by exact vF (zA hlen) hm zC)) (by rfl')))
    (fun q hq _=>Jh rfl (a:=.obj 8) (by rfl') (by rfl') ⟨rfl,rfl⟩ (vI rfl) (sH (qD q hq)) (by exact vF (zA hlen) hm zC))) rfl)) (Q2 hsl)) (by rcases h3 with rfl | ⟨v,rfl⟩<;>rfl')) ?_
 refine eK ((w5 rfl ⟨rfl,rfl,by decide,rfl⟩ (k:=8) (vs:=dc (bO (eV ws r) m)) (by rfl') rfl rfl (x:=.tup [.int (hF (eV ws r) (m+1)),.int (hW (eV ws r) (m+1))]) (rb (ac rfl (v:=.p (.int (hF (eV ws r) (m+1)))) (ig rfl (a:=.p (.int w)) (by rfl') (b:=.p (.int 1)) (by rfl') (add_int (by exact zq (zO (zA ab1)) (zO (zG ab1))))) (a1 rfl (v:=.p (.int (hW (eV ws r) (m+1)))) (by rfl'))) rfl) (ay (cU hlen) (ay (gT hm) (by decide)))).trans ?_);rw[xu];delta hS dc;rw[aV];rfl
theorem Im (hw:ws.length≤100):∀ (x m:Nat) (last ny first ways:Sl) (F:Option V) (J:List Ob),m+x≤100→Fr last→Fr ny→Fr first→Fr ways→∃ f0 f1 f2 f3 F' J',
  j0 "last" ((ev P (n+40)).B (fM P 840).1.scope (hb P)) ((bg (m+1) x).map Nz) ⟨hL ws r last ny first ways,hS g a b c d e (bO (eV ws r) m) F J,.no⟩ = .ok .next ⟨hL ws r f0 f1 f2 f3,hS g a b c d e (bO (eV ws r) (m+x)) F' J',.no⟩:=by
 intro x;induction x with
 | zero =>
  intro m last ny first ways F J _ _ _ _ _;exact (Y2 last ny (Y2 first ways (Y2 F J (wY rfl))))
 | succ x ih =>
  intro m last ny first ways F J hm h0 h1 h2 h3;refine X54 (Io (P:=P) (n:=n) (g:=g) (a:=a) (b:=b) (c:=c) (d:=d) (e:=e) (r:=r) (F:=F) (J:=J) hw (m:=m) (by exact fS hm) h1 h2 h3) fun f1 f2 f3 F' J' g1 g2 g3 k=>?_;refine X61 (ih (m+1) (iv (m+1:Nat)) f1 f2 f3 F' J' (by exact oH (.g (.a au (.s aE)) (.n 100) .e) (.a (.s au) aE) (.n 100) zC hm) Fr.val g1 g2 g3) fun s0 s1 s2 s3 F2 J2 k2=>?_;rw[show m+1+x=m+(x+1) by exact dY m x] at k2;refine (Y2 s0 s1 (Y2 s2 s3 (Y2 F2 J2 (?_))));refine rV ?_ k k2;rcases h0 with rfl | ⟨v,rfl⟩<;>rfl'
theorem J8 (hT:∀ o∈[g,a,b,c,d,e],tL o) (hw:ws.length≤99):(ev P (n+50)).C 840 [.p (.lst (aq ws)),.p (.int r)] [] ⟨l,[g,a,b,c,d,e],.no⟩ = .ok (.p (.lst (dc (bO (eV ws r) ws.length)))) ⟨l,[g,a,b,c,d,e],.no⟩:=by
 refine X61 (Im (P:=P) (n:=n+8) (g:=g) (a:=a) (b:=b) (c:=c) (d:=d) (e:=e) (r:=r) (ws:=ws) (by exact qq hw) ws.length 0 .unset .unset .unset .unset none [] (by exact uM (.g au (.n 99) .e) (.a gR au) (.n 100) zC hw) (.inl rfl) (.inl rfl) (.inl rfl) (.inl rfl)) fun s0 s1 s2 s3 F' J' k=>?_;rw[fy ws.length] at k;have lw:=cP (xs:=ws);have e0:eS (Kf P) (ev P (n+49)) 840 [.p (.lst (aq ws)),.p (.int r)] [] ⟨l,[g,a,b,c,d,e],.no⟩=(ev P (n+49)).B (fM P 840).1.scope ((fM P 840).2.drop 1) ⟨hL ws r .unset .unset .unset .unset,hS g a b c d e (bO (eV ws r) 0) none [],.no⟩:=by rfl'
 refine NL (X:=.cell (some (.obj 8)) :: .cell F' :: .list (dc (bO (eV ws r) ws.length)) :: J') (fl:=.ret (.obj 8)) (l':=hL ws r s0 s1 s2 s3) hT (e0.trans ?_) rfl (show 6≤8 by decide) rfl;refine aU (yH rfl (u:=.p (.rj 1 (ws.length+1:Nat) 1)) (b8 rfl rfl (fv:=.p (.ty "range")) (by rfl') (ac rfl (v:=.p (.int 1)) (by rfl') (a1 rfl (v:=.p (.int (ws.length+1:Nat))) (ig rfl (a:=.p (.int (aq ws).length)) (lI (by rfl') rfl (by rfl') (by exact sy (zA lw) hw zC)) (b:=.p (.int 1)) (by rfl') (add_int (by exact iI (Nat.ToInt.add_congr (aK NatCast.natCast (id (iI lw))) rfl)))))) (by rfl')) ((vC (a:=1) (b:=ws.length+1) rfl rfl (by decide) (by exact uM (.g au (.n 99) .e) (.s au) (.n 1000) zC hw)).trans (by rw[ju])) k) ?_;exact kN (o6 (v:=.obj 8) (by rfl'))
end
section
variable {P:ai} {n:Nat} {sc:bV} {σ σ1:St} {l l':List (Str × Sl)} {T:List Ob} {ok ok':Nat→Nat→Bool} {m p q:Nat}
noncomputable def QC (ok ok':Nat→Nat→Bool) (m p:Nat):Bool:=hF ok p+hF ok' (m - p)==hF ok m&&hW ok p*hW ok' (m - p)==hW ok m
noncomputable def lH (ok ok':Nat→Nat→Bool) (m k:Nat) (s:Sl):List (Str × Sl):=[("heads",.val (.p (.lst (dc (bO ok m))))),("tails",.val (.p (.lst (dc (bO ok' m).reverse)))),("shared",.val (.obj k)),("p",s)]
theorem Aw (h:p≤m):(dc (bO ok' m).reverse)[p]?=some (.tup [.int (hF ok' (m - p)),.int (hW ok' (m - p))]):=by
 refine BR ?_;rw[JB (by rw[gm];exact jR h),gm,show m+1 - 1 - p=m - p by exact sN ((m+1 - 1).sub p),kK (by exact aI m p)]
theorem Q5 (h:0<m):dc (bO ok m)=dc (bO ok (m - 1))++[.tup [.int (hF ok m),.int (hW ok m)]]:=by
 obtain ⟨k,rfl⟩:∃ k,m=k+1:=⟨m - 1,by exact (f7 h).mp rfl⟩;rw[ju,xu];unfold dc;rw[aV];rfl
noncomputable def shb (P:ai):List Stmt:=qA ((fM P 852).2.getD 1 (.Pass default))
theorem GI {fs:List Nat} (hm0:0<m) (hm:m≤100) (hf:fs.length≤1000) (hp:p≤m) (hw:hW ok p<2 ^ 60) :
  (ev P (n+30)).B (fM P 852).1.scope (shb P) ⟨lH ok ok' m T.length (iv p),T++[.list (aq fs)],.no⟩ = .ok .next ⟨lH ok ok' m T.length (iv p),T++[.list (aq (fs++[p].filter (QC ok ok' m)))],.no⟩:=by
 have h1:=qT (ok:=ok) (m:=m);have h2:(dc (bO ok' m).reverse).length=m+1:=by rw[zd,cV,gm]
 have lf:=cP (xs:=fs);have gl:∀ σ:St,jV (Kf P) (.p (.lst (dc (bO ok m)))) (.p (.int (-1))) σ = .ok (.p (.tup [.int (hF ok m),.int (hW ok m)])) σ:=fun σ=>FU ⟨rfl,rfl⟩ (by rw[← Q5 hm0];rfl);refine eK (UO (c:=QC ok ok' m p) ?_ ?_)
 ·unfold QC
  refine bC (hF ok p+hF ok' (m - p)==hF ok m) (fun c1=>?_) fun c1=>?_
  ·exact GQ (by
    rw[← c1];exact xA rfl (ig rfl (r9 rfl (a:=.p (.lst (dc (bO ok m)))) (by rfl') (by rfl') ⟨rfl,rfl⟩ rfl (sH hp) (by exact vF (zA h1) hm zC)) (r9 rfl (a:=.p (.lst (dc (bO ok' m).reverse))) (by rfl') (by rfl') ⟨rfl,rfl⟩ rfl (Aw hp) (by exact vF (zA h2) hm zC)) (add_int (by exact vX (hF ok p) (hF ok' (m - p))))) (iQ rfl (iQ rfl (a:=.p (.lst (dc (bO ok m)))) (by rfl') (b:=.p (.int (-1))) (by rfl') (gl _)) (b:=.p (.int 0)) (by rfl') (by rfl')))
    (xA rfl (ig rfl (Jh rfl (a:=.p (.lst (dc (bO ok m)))) (by rfl') (by rfl') ⟨rfl,rfl⟩ rfl (sH hp) (by exact vF (zA h1) hm zC)) (Jh rfl (a:=.p (.lst (dc (bO ok' m).reverse))) (by rfl') (by rfl') ⟨rfl,rfl⟩ rfl (Aw hp) (by exact vF (zA h2) hm zC)) (mul_int (Int.natCast_mul _ _).symm (by rw[Int.natAbs_natCast];exact hw))) (iQ rfl (iQ rfl (a:=.p (.lst (dc (bO ok m)))) (by rfl') (b:=.p (.int (-1))) (by rfl') (gl _)) (b:=.p (.int 1)) (by rfl') (by rfl')))
  ·exact Jm (by
    rw[← c1];exact xA rfl (ig rfl (r9 rfl (a:=.p (.lst (dc (bO ok m)))) (by rfl') (by rfl') ⟨rfl,rfl⟩ rfl (sH hp) (by exact vF (zA h1) hm zC)) (r9 rfl (a:=.p (.lst (dc (bO ok' m).reverse))) (by rfl') (by rfl') ⟨rfl,rfl⟩ rfl (Aw hp) (by exact vF (zA h2) hm zC)) (add_int (by exact vX (hF ok p) (hF ok' (m - p))))) (iQ rfl (iQ rfl (a:=.p (.lst (dc (bO ok m)))) (by rfl') (b:=.p (.int (-1))) (by rfl') (gl _)) (b:=.p (.int 0)) (by rfl') (by rfl')))
 ·refine bC (QC ok ok' m p) (fun pB=>?_) fun pB=>?_
  ·refine eK ((w5 rfl ⟨rfl,rfl,by decide,rfl⟩ (k:=T.length) (by rfl') mE rfl (x:=.int p) (by rfl') (by exact sy (zA lf) hf zC)).trans ?_)
   rw[qQ,iX pB];dsimp only [aq];rw[aV];rfl
  ·rw[gy (by rw[pB];exact bR),fm,cg]
   rfl
theorem GH (hm0:0<m) (hm:m≤100) (hw:∀ p,p≤m→hW ok p<2 ^ 60):∀ (x q:Nat) (fs:List Nat) (s:Sl),q+x≤m→fs.length+x≤1000→Fr s→∃ s',
  j0 "p" ((ev P (n+30)).B (fM P 852).1.scope (shb P)) ((bg q x).map Nz) ⟨lH ok ok' m T.length s,T++[.list (aq fs)],.no⟩ = .ok .next ⟨lH ok ok' m T.length s',T++[.list (aq (fs++(bg q x).filter (QC ok ok' m)))],.no⟩:=by
 intro x;induction x with
 | zero =>
  intro q fs s _ _ hs;refine ⟨s,?_⟩;rw[yF,fm,cg];exact wY rfl
 | succ x ih =>
  intro q fs s hq hf hs;obtain ⟨s',k⟩:=ih (q+1) (fs++[q].filter (QC ok ok' m)) (iv q) (by exact IG hq) (by
   have:=fj (QC ok ok' m) [q];rw[aO];exact Yc hf this) Fr.val
  refine ⟨s',?_⟩;rw[dN,← gZ] at k;have ft:=GI (P:=P) (n:=n) (T:=T) (ok:=ok) (ok':=ok') (fs:=fs) hm0 hm (by exact fS hf) (p:=q) (by exact fS hq) (hw q (by exact fS hq));refine rV ?_ ft k;rcases hs with rfl | ⟨v,rfl⟩<;>rfl'
theorem QE (hT:∀ o∈T,tL o) (hm0:0<m) (hm:m≤100) (hw:∀ p,p≤m→hW ok p<2 ^ 60):(ev P (n+40)).C 852 [.p (.lst (dc (bO ok m))),.p (.lst (dc (bO ok' m).reverse))] [] ⟨l,T,.no⟩ = .ok (.p (.lst (aq ((bg 1 (m - 1)).filter (QC ok ok' m))))) ⟨l,T,.no⟩:=by
 obtain ⟨s',k⟩:=GH (P:=P) (n:=n+8) (T:=T) (ok:=ok) (ok':=ok') hm0 hm hw (m - 1) 1 [] .unset (by exact acH (zB (RZ hm0))) (by simp;exact jj hm zC) (.inl rfl);have h1:=qT (ok:=ok) (m:=m);have e0:eS (Kf P) (ev P (n+39)) 852 [.p (.lst (dc (bO ok m))),.p (.lst (dc (bO ok' m).reverse))] [] ⟨l,T,.no⟩=(ev P (n+39)).B (fM P 852).1.scope ((fM P 852).2.drop 1) ⟨lH ok ok' m T.length .unset,T++[.list (aq [])],.no⟩:=by rfl'
 refine NL (X:=[.list (aq ((bg 1 (m - 1)).filter (QC ok ok' m)))]) (fl:=.ret (.obj T.length)) (l':=lH ok ok' m T.length s') hT (e0.trans ?_) rfl (aB _) mE;refine aU (yH rfl (u:=.p (.rj 1 m 1)) (b8 rfl rfl (fv:=.p (.ty "range")) (by rfl') (ac rfl (v:=.p (.int 1)) (by rfl') (a1 rfl (v:=.p (.int m)) (ig rfl (a:=.p (.int (dc (bO ok m)).length)) (lI (by rfl') rfl (by rfl') (ay (cU h1) (ay (gT hm) (by decide)))) (b:=.p (.int 1)) (by rfl') (sub_int (by exact tK.mpr (aK Nat.cast h1)))))) (by rfl')) (vC (a:=1) (b:=m) rfl rfl (by decide) (by exact jj hm zC)) k) ?_;exact kN (o6 (v:=.obj T.length) (by rfl'))
end
section
variable {P:ai} {n:Nat} {sc:bV} {σ σ1 σ2:St} {l l':List (Str × Sl)} {T X:List Ob}
theorem rbx {α β : Type} {m:Mo α} {f:α→Mo β} {x:Xn} (h:m σ = .exc x σ1):(m >>= f) σ = .exc x σ1:=by
 show (match m σ with
 | .fail=>Res.fail
 | .ok a σ'=>f a σ'
 | .exc x σ'=>Res.exc x σ')=_
 rw[h]
theorem Vi {s:Stmt} {ss:List Stmt} {x:Xn} (h:fk (Kf P) (ev P n) sc s σ = .exc x σ1):(ev P (n+1)).B sc (s :: ss) σ = .exc x σ1:=rbx h
theorem Qy {x:Str} {px p:Pos} {e:Expr} {y:Xn} (h0:PC e=none) (h1:nB e=false) (h:(ev P n).E sc e σ = .exc y σ1):fk (Kf P) (ev P n) sc (.Assign [.Name x px] e p) σ = .exc y σ1:=by
 show HM (Kf P) (ev P n) sc (.Name x px) e σ=_;dsimp only [HM];rw[h0];show (if nB e=false∧Pn (.Name x px)=true then ((ev P n).E sc e >>= fun v=>assign (Kf P) (ev P n) sc v (.Name x px) >>= fun _=>pure .next) else Mo.fail:Mo Fl) σ=_;rw[aA ⟨h1,rfl⟩];exact rbx h
theorem GD {t:Expr} {b:List Stmt} {p:Pos} {x:Xn} (h:(ev P n).T sc t σ = .exc x σ1):fk (Kf P) (ev P n) sc (.While t b [] p) σ = .exc x σ1:=by
 exact rbx h
theorem Q3 {l r:Expr} {op:yC} {p:Pos} {x:Xn} (h0:fW op r=false) (h1:(ev P n).E sc l σ = .exc x σ1):(ev P (n+1)).T sc (.Compare l [op] [r] p) σ = .exc x σ1:=by
 show (if fW op r=false then (ev P n).E sc l >>= fun a=>(ev P n).E sc r >>= fun b=>rF op a b >>= fun v=>tG (Kf P) v else Mo.fail:Mo Bool) σ=_;rw[aA h0];exact rbx h1
theorem J4 {vs:List Mine.P} {i:Nat} (h:vs.length≤i) (hz:i≤2 ^ 20):jV (Kf P) (.p (.lst vs)) (.p (.int i)) σ=K0 σ:=by
 obtain ⟨k,hk⟩:∃ k:Int,k=i:=⟨_,rfl⟩;rw[← hk];show (if mY k then FQ (Kf P) (.p (.lst vs)) k else Mo.fail:Mo V) σ=_;rw[aA (by unfold mY;rw[mK,show (2:Int) ^ 62=4611686018427387904 from by decide];exact ⟨(zI [k,↑i] 0 (.g cQ bH (.g i6 cQ .e)) (.num (-4611686018427387904)) bH zC (zg hk) (zW _)),(zI [k,↑i] 0 (.g bH cQ (.g cQ (.num 1048576) .e)) (.add bH eB) (.num 4611686018427387904) zC (za hk) (zO hz))⟩)];refine rb (a:=vs) (σ1:=σ) rfl ?_;have e:idx k vs.length=none:=by
  delta idx jz;rw[aS (show ¬ k<0 by exact fun pM=>(zJ [k,↑i] (.g (.add bH eB) i6 (.g cQ bH (.g i6 cQ .e))) zC pM (zg hk) (zW _)))];rw[aS (by rw[aR,br,br];exact fun pM=>(zJ [k,↑vs.length,↑i] (.g (.add bH eB) cQ (.g cQ jg (.g jg bH .e))) zC pM.2 (zO h) (zg hk)))]
 rw[e]
theorem Vv {v e:Expr} {ap p sp:Pos} {k:Nat} {vs xs:List Mine.P} (h0:BI [e]=none) (h1:ap.endLine=p.line∧noStar [e]=true∧[e].length<20∧nH v=true) (h2:(ev P n).E sc v σ = .ok (.obj k) σ) (hk:σ.aP[k]?=some (.list vs)) (hs:isStar e=false) (h3:(ev P n).E sc e σ = .ok (.p (.lst xs)) σ) (hz:vs.length+xs.length≤2 ^ 20) :
  fk (Kf P) (ev P (n+1)) sc (.Expr (.Call (.Attribute v "extend" ap) [e] [] p) sp) σ = .ok .next { σ with aP:=σ.aP.set k (.list (vs++xs)) }:=by
 refine wh rfl (v:=.p .none) (jn h0 h1 h2 (mk:=.app k "extend") ?_ (a1 hs h3) ?_)
 ·show (match σ.aP[k]? with
   | some (.list _)=>if ("extend":Str)="append"∨("extend":Str)="extend" then some (MK.app k "extend") else none
   | some (.inst C d)=>PW (Kf P) C d k "extend" σ
   | _=>none)=_
  rw[hk];exact aA (.inr rfl)
 ·refine rb (a:=vs) (σ1:=σ) ?_ ?_
  ·show (match σ.aP[k]? with
    | some (.list vs)=>Res.ok vs σ
    | _=>.fail)=_
   rw[hk]
  ·show (if ("extend":Str)="append" then Mo.get (mQ (.p (.lst xs))) (LA k vs) else if ("extend":Str)="extend" then OC k vs xs else Mo.fail:Mo V) σ=_
   unfold OC;rw[aA hz];rfl
noncomputable def xOk (P:ai) (sc:bV) (x:Str):Bool:=x==("IndexError":Str)&&sc.names.lookup x==some .globalImplicit&&nsIn (Kf P) cy x==some none
theorem agP {b hb:List Stmt} {h0:Stmt} {x:Str} {px p q:Pos} {fl:Fl} (hx:xOk P sc x=true) (h:(ev P n).B sc b σ = .ok fl σ1):fk (Kf P) (ev P n) sc (.Try b [.ExceptHandler (some (.Name x px)) none (h0 :: hb) q] [] [] p) σ = .ok fl σ1:=
 (aA hx).trans (aK (Res.obs · Res.ok (hdX ((ev P n).B sc (h0 :: hb)))) h)
theorem aa7 {b hb:List Stmt} {h0:Stmt} {x:Str} {px p q:Pos} {fl:Fl} {y:Xn} {l1 l2:List (Str × Sl)} {s1 s2:List Ob} (hx:xOk P sc x=true) (h:(ev P n).B sc b σ = .exc y ⟨l1,s1,.no⟩) (hy:y.cls="IndexError") (hh:(ev P n).B sc (h0 :: hb) ⟨l1,s1,.yes⟩ = .ok fl ⟨l2,s2,.yes⟩) :
  fk (Kf P) (ev P n) sc (.Try b [.ExceptHandler (some (.Name x px)) none (h0 :: hb) q] [] [] p) σ = .ok fl ⟨l2,s2,.no⟩:=
 (aA hx).trans ((aK (Res.obs · Res.ok (hdX ((ev P n).B sc (h0 :: hb)))) h).trans ((aA ⟨rfl,hy⟩).trans (aK abK hh)))
theorem aaX {b fb:List Stmt} {f0:Stmt} {p:Pos} {r:Res Fl} (h:(ev P n).B sc b σ = .ok .next σ1) (hf:(ev P n).B sc (f0 :: fb) σ1=r) (hr:(∃ s,r = .ok .next s)∨∃ x s,r = .exc x s):fk (Kf P) (ev P n) sc (.Try b [] [] (f0 :: fb) p) σ=r:=by
 refine (aK (Res.obs · (fun fl σ'=>tU fl ((ev P n).B sc (f0 :: fb) σ')) (OD fun x σ'=>tT x ((ev P n).B sc (f0 :: fb) σ'))) h).trans ((aK (tU .next) hf).trans ?_);rcases hr with ⟨s,q⟩ | ⟨x,s,q⟩<;>rw[q]<;>rfl
theorem F_x {b fb:List Stmt} {f0:Stmt} {p:Pos} {l1 l2:List (Str × Sl)} {s1 s2:List Ob} (h:(ev P n).B sc b σ = .exc .index ⟨l1,s1,.no⟩) (hf:(ev P n).B sc (f0 :: fb) ⟨l1,s1,.may⟩ = .ok .next ⟨l2,s2,.may⟩):fk (Kf P) (ev P n) sc (.Try b [] [] (f0 :: fb) p) σ = .exc .index ⟨l2,s2,.no⟩:=
 (aK (Res.obs · (fun fl σ'=>tU fl ((ev P n).B sc (f0 :: fb) σ')) (OD fun x σ'=>tT x ((ev P n).B sc (f0 :: fb) σ'))) h).trans (EK (b:=tT .index ((ev P n).B sc (f0 :: fb) ⟨l1,s1,.may⟩)) (aA (c:=Hn.no=Hn.no∧Xn.index.plain=true) (e:=.fail) ⟨rfl,rfl⟩) (aK (tT .index) hf))
theorem agJ {b fb:List Stmt} {f0:Stmt} {p:Pos} {l1 l2:List (Str × Sl)} {s1 s2:List Ob} (h:(ev P n).B sc b σ = .exc .index ⟨l1,s1,.no⟩) (hf:(ev P n).B sc (f0 :: fb) ⟨l1,s1,.may⟩ = .exc .qE ⟨l2,s2,.may⟩):fk (Kf P) (ev P n) sc (.Try b [] [] (f0 :: fb) p) σ = .exc .qE ⟨l2,s2,.no⟩:=
 (aK (Res.obs · (fun fl σ'=>tU fl ((ev P n).B sc (f0 :: fb) σ')) (OD fun x σ'=>tT x ((ev P n).B sc (f0 :: fb) σ'))) h).trans (EK (b:=tT .index ((ev P n).B sc (f0 :: fb) ⟨l1,s1,.may⟩)) (aA (c:=Hn.no=Hn.no∧Xn.index.plain=true) (e:=.fail) ⟨rfl,rfl⟩) (aK (tT .index) hf))
end
section
variable {P:ai} {n:Nat} {sc:bV} {σ σ1 σ2:St} {l l':List (Str × Sl)} {T X:List Ob} {E A ms us:List Nat} {i j e a x:Nat} {es as:Sl} {h:Hn}
noncomputable def dS (T:List Ob) (E A:List Nat) (i j:Nat) (ms us:List Nat) (es as:Sl) (h:Hn):St:=
 ⟨[("expected",.val (.p (.lst (aq E)))),("actual",.val (.p (.lst (aq A)))),("i",iv i),("j",iv j),("missing",.val (.obj T.length)),("unexpected",.val (.obj (T.length+1))),("e",es),("a",as)],T++[.list (aq ms),.list (aq us)],h⟩
noncomputable def sD (P:ai):bV:=(fM P 825).1.scope
noncomputable def U4:Stmt→List Stmt
 | .Try b _ _ _ _=>b
 | _=>[]
noncomputable def Pj:Stmt→List Stmt
 | .If _ b _ _=>b
 | _=>[]
noncomputable def Ph:Stmt→List Stmt
 | .If _ _ b _=>b
 | _=>[]
noncomputable def dW (P:ai):List Stmt:=wV ((fM P 825).2.getD 3 (.Pass default))
noncomputable def dT (P:ai):List Stmt:=U4 ((dW P).getD 0 (.Pass default))
noncomputable def d1 (P:ai):List Stmt:=Pj ((dT P).getD 2 (.Pass default))
noncomputable def dI (P:ai):Stmt:=(Ph ((dT P).getD 2 (.Pass default))).getD 0 (.Pass default)
noncomputable def d2 (P:ai):List Stmt:=Pj (dI P)
noncomputable def d3 (P:ai):List Stmt:=Ph (dI P)
theorem adE {p1 p2 p3:Pos} (he:E[i]?=some e) (hz:E.length≤1000):(ev P (n+3)).E (sD P) (.Subscript (.Name "expected" p1) (.Name "i" p2) p3) (dS T E A i j ms us es as h) = .ok (.p (.int e)) (dS T E A i j ms us es as h):=
 iQ rfl (a:=.p (.lst (aq E))) (by rfl') (b:=.p (.int i)) (by rfl') (xr ⟨rfl,rfl⟩ rfl (pZ he) (by rw[cP];exact jj hz zC))
theorem adD {p1 p2 p3:Pos} (ha:A[j]?=some a) (hz:A.length≤1000):(ev P (n+3)).E (sD P) (.Subscript (.Name "actual" p1) (.Name "j" p2) p3) (dS T E A i j ms us es as h) = .ok (.p (.int a)) (dS T E A i j ms us es as h):=
 iQ rfl (a:=.p (.lst (aq A))) (by rfl') (b:=.p (.int j)) (by rfl') (xr ⟨rfl,rfl⟩ rfl (pZ ha) (by rw[cP];exact jj hz zC))
noncomputable def xOf:Hn→Xn
 | .may=>.qE
 | _=>.index
theorem Wq {p1 p2 p3:Pos} (he:i=E.length) (hz:E.length≤1000) (hh:h≠.yes):(ev P (n+3)).E (sD P) (.Subscript (.Name "expected" p1) (.Name "i" p2) p3) (dS T E A i j ms us es as h) = .exc (xOf h) (dS T E A i j ms us es as h):=
 iQ rfl (a:=.p (.lst (aq E))) (by rfl') (b:=.p (.int i)) (by rfl') ((J4 (cP ▸ zG he) (by exact sy (zA he) hz zC)).trans (by cases h<;>first | rfl | exact absurd rfl hh))
theorem Wo {p1 p2 p3:Pos} (ha:j=A.length) (hz:A.length≤1000) (hh:h≠.yes):(ev P (n+3)).E (sD P) (.Subscript (.Name "actual" p1) (.Name "j" p2) p3) (dS T E A i j ms us es as h) = .exc (xOf h) (dS T E A i j ms us es as h):=
 iQ rfl (a:=.p (.lst (aq A))) (by rfl') (b:=.p (.int j)) (by rfl') ((J4 (by rw[cP];exact zG ha) (by exact sy (zA ha) hz zC)).trans (by cases h<;>first | rfl | exact absurd rfl hh))
noncomputable def Out (ok:Prop) (r:Res Fl) (h:Hn) (σ:St):Prop:=(ok∧r = .ok .next σ)∨(¬ ok∧r = .exc (xOf h) σ)
theorem adR {p1 p2 p3 p4 p5 p6:Pos} {b:List Stmt} (hE:E.Pairwise (· < ·)) (he:E[i]?=some e) (hz:E.length≤1000) (hh:h≠.yes):Out (i+1<E.length) (fk (Kf P) (ev P (n+4)) (sD P) (.While (.Compare (.Subscript (.Name "expected" p1) (.Name "i" p2) p3) [.Eq] [.Name "e" p4] p5) b [] p6) (dS T E A (i+1) j ms us (iv e) as h)) h (dS T E A (i+1) j ms us (iv e) as h):=by
 refine En (s7 hE he) fun d t r lt=>?_;by_cases hi:i+1<E.length
 ·refine .inl ⟨hi,vP ?_⟩
  have hx:E[i+1]?=some E[i+1]:=bS hi;have hgt:=r E[i+1] (by rw[iB hi];exact .head _);generalize E[i+1]=y at hx hgt;rw[← show (y==e)=false from aJ.mpr (by exact eO (fU hgt))];exact xA rfl (adE hx hz) (by rfl')
 ·exact .inr ⟨hi,GD (Q3 rfl (Wq (by exact zQ lt (zM hi)) hz hh))⟩
theorem aaa {p1 p2 p3 p4 p5 p6:Pos} {b:List Stmt} (hA:A.Pairwise (· < ·)) (ha:A[j]?=some a) (hz:A.length≤1000) (hh:h≠.yes):Out (j+1<A.length) (fk (Kf P) (ev P (n+4)) (sD P) (.While (.Compare (.Subscript (.Name "actual" p1) (.Name "j" p2) p3) [.Eq] [.Name "a" p4] p5) b [] p6) (dS T E A i (j+1) ms us es (iv a) h)) h (dS T E A i (j+1) ms us es (iv a) h):=by
 refine En (s7 hA ha) fun d t r lt=>?_;by_cases hi:j+1<A.length
 ·refine .inl ⟨hi,vP ?_⟩
  have hx:A[j+1]?=some A[j+1]:=bS hi;have hgt:=r A[j+1] (by rw[iB hi];exact .head _);generalize A[j+1]=y at hx hgt;rw[← show (y==a)=false from aJ.mpr (by exact eO (fU hgt))];exact xA rfl (adD hx hz) (by rfl')
 ·exact .inr ⟨hi,GD (Q3 rfl (Wo (by exact zQ lt (zM hi)) hz hh))⟩
theorem Out.cons {ok:Prop} {s:Stmt} {ss:List Stmt} {r:Res Fl} (hs:fk (Kf P) (ev P n) sc s σ = .ok .next σ1) (k:Out ok ((ev P (n+1)).B sc ss σ1) h σ2):Out ok ((ev P (n+1)).B sc (s :: ss) σ) h σ2:=by
 rcases k with ⟨a,b⟩ | ⟨a,b⟩
 ·exact .inl ⟨a,aU hs b⟩
 ·exact .inr ⟨a,aU hs b⟩
theorem Out.one {ok:Prop} {s:Stmt} (k:Out ok (fk (Kf P) (ev P n) sc s σ) h σ2):Out ok ((ev P (n+1)).B sc [s] σ) h σ2:=by
 rcases k with ⟨a,b⟩ | ⟨a,b⟩
 ·exact .inl ⟨a,eK b⟩
 ·exact .inr ⟨a,eK b⟩
theorem at1 {o o':Ob}:(T++[o,o'])[T.length]?=some o:=mE
theorem at2 {o o':Ob}:(T++[o,o'])[T.length+1]?=some o':=by
 rw[bw (b7 _ _),b6];rfl
theorem adI {o o' u:Ob}:(T++[o,o']).set T.length u=T++[u,o']:=qQ
theorem ZV {o o' u:Ob}:(T++[o,o']).set (T.length+1) u=T++[o,u]:=by
 rw[tC _ _ (b7 _ _),b6];rfl
theorem part1 (hE:E.Pairwise (· < ·)) (he:E[i]?=some e) (hz:E.length≤1000) (hm:ms.length≤1000):Out (i+1<E.length) ((ev P (n+6)).B (sD P) (d1 P) (dS T E A i j ms us (iv e) as .no)) .no (dS T E A (i+1) j (ms++[e]) us (iv e) as .no):=by
 refine Out.cons (σ1:=dS T E A i j (ms++[e]) us (iv e) as .no) (r:=.fail) ((w5 rfl ⟨rfl,rfl,by decide,rfl⟩ (k:=T.length) (by rfl') at1 rfl (x:=.int e) (by rfl') (by rw[cP];exact jj hm zC)).trans ?_) ?_
 ·dsimp only [dS]
  show Res.ok Fl.next ⟨_,(T++[Ob.list (aq ms),.list (aq us)]).set T.length _,_⟩=_;rw[adI];unfold aq;rw[aV];rfl
 ·exact Out.cons (r:=.fail) (σ1:=dS T E A (i+1) j (ms++[e]) us (iv e) as .no) (tO (a:=.p (.int i)) (by rfl') (b:=.p (.int 1)) (by rfl') (v:=.p (.int (i+1:Nat))) rfl (by rfl')) (Out.one (adR hE he hz (by decide)))
theorem part2 (hA:A.Pairwise (· < ·)) (ha:A[j]?=some a) (hz:A.length≤1000) (hm:us.length≤1000):Out (j+1<A.length) ((ev P (n+6)).B (sD P) (d2 P) (dS T E A i j ms us es (iv a) .no)) .no (dS T E A i (j+1) ms (us++[a]) es (iv a) .no):=by
 refine Out.cons (σ1:=dS T E A i j ms (us++[a]) es (iv a) .no) (r:=.fail) ((w5 rfl ⟨rfl,rfl,by decide,rfl⟩ (k:=T.length+1) (by rfl') at2 rfl (x:=.int a) (by rfl') (by rw[cP];exact ay hm (by decide))).trans ?_) ?_
 ·dsimp only [dS]
  show Res.ok Fl.next ⟨_,(T++[Ob.list (aq ms),.list (aq us)]).set (T.length+1) _,_⟩=_;rw[ZV];unfold aq;rw[aV];rfl
 ·exact Out.cons (r:=.fail) (σ1:=dS T E A i (j+1) ms (us++[a]) es (iv a) .no) (tO (a:=.p (.int j)) (by rfl') (b:=.p (.int 1)) (by rfl') (v:=.p (.int (j+1:Nat))) rfl (by rfl')) (Out.one (aaa hA ha hz (by decide)))
noncomputable def WS (ok:Prop) (r:Res Fl) (σ:St):Prop:=(ok∧r = .ok .next σ)∨(¬ ok∧∃ y:Xn,y.cls="IndexError"∧r = .exc y σ)
theorem Out.to2 {ok:Prop} {r:Res Fl} (k:Out ok r h σ):WS ok r σ:=by
 rcases k with k | ⟨k1,k2⟩
 ·exact .inl k
 ·exact .inr ⟨k1,xOf h,by cases h<;>rfl,k2⟩
theorem part3 (hE:E.Pairwise (· < ·)) (hA:A.Pairwise (· < ·)) (he:E[i]?=some e) (ha:A[j]?=some a) (hz:E.length≤1000) (sj:A.length≤1000):WS (i+1<E.length∧j+1<A.length) ((ev P (n+7)).B (sD P) (d3 P) (dS T E A i j ms us (iv e) (iv a) .no)) (dS T E A (i+1) (j+1) ms us (iv e) (iv a) .no):=by
 have step:∀ {r:Res Fl},(ev P (n+7)).B (sD P) ((d3 P).drop 1) (dS T E A (i+1) j ms us (iv e) (iv a) .no)=r→(ev P (n+7)).B (sD P) (d3 P) (dS T E A i j ms us (iv e) (iv a) .no)=r:=fun k=>aU (tO (a:=.p (.int i)) (by rfl') (b:=.p (.int 1)) (by rfl') (v:=.p (.int (i+1:Nat))) rfl (σ2:=dS T E A (i+1) j ms us (iv e) (iv a) .no) (by rfl')) k;have aug:∀ (h:Hn) {x:Str} {p1 p2 pq:Pos} {k0:Nat},o9 x (.p (.int (j+1:Nat))) (dS T E A (i+1) j ms us (iv e) (iv a) h) = .ok () (dS T E A (i+1) (j+1) ms us (iv e) (iv a) h)→UJ x (dS T E A (i+1) j ms us (iv e) (iv a) h) = .ok (.p (.int j)) (dS T E A (i+1) j ms us (iv e) (iv a) h)→fk (Kf P) (ev P (n+5)) (sD P) (.AugAssign (.Name x p1) .Add (.Constant (.int 1) k0 p2) pq) (dS T E A (i+1) j ms us (iv e) (iv a) h) = .ok .next (dS T E A (i+1) (j+1) ms us (iv e) (iv a) h):=fun h _ _ _ _ _ hw hr=>tO hr (b:=.p (.int 1)) rfl (v:=.p (.int (j+1:Nat))) rfl hw;rcases adR (P:=P) (n:=n+1) (T:=T) (j:=j) (ms:=ms) (us:=us) (as:=iv a) (h:=.no) hE he hz (by decide) with ⟨c1,k1⟩ | ⟨c1,k1⟩
 ·rcases Out.cons (r:=.fail) (aug .no (by rfl') (by rfl')) (Out.one (aaa (P:=P) (n:=n+1) (T:=T) (ms:=ms) (us:=us) (es:=iv e) (h:=.no) hA ha sj (by decide))) with ⟨c2,k2⟩ | ⟨c2,k2⟩
  ·exact .inl ⟨⟨c1,c2⟩,step (eK (aaX (eK k1) k2 (.inl ⟨_,rfl⟩)))⟩
  ·exact .inr ⟨fun q=>c2 q.2,.index,rfl,step (eK (aaX (eK k1) k2 (.inr (Y2 _ _ (rfl)))))⟩
 ·rcases Out.cons (r:=.fail) (aug .may (by rfl') (by rfl')) (Out.one (aaa (P:=P) (n:=n+1) (T:=T) (ms:=ms) (us:=us) (es:=iv e) (h:=.may) hA ha sj (by decide))) with ⟨c2,k2⟩ | ⟨c2,k2⟩
  ·exact .inr ⟨fun q=>c1 q.1,.index,rfl,step (eK (F_x (eK k1) k2))⟩
  ·exact .inr ⟨fun q=>c1 q.1,.qE,rfl,step (eK (agJ (eK k1) k2))⟩
end
section
variable {P:ai} {n:Nat} {sc:bV} {σ σ1 σ2:St} {l l':List (Str × Sl)} {T X:List Ob} {E A ms us:List Nat} {i j e a x:Nat} {es as:Sl} {h:Hn}
theorem Rd (D:Dv E A i j ms us) (hE:E.Pairwise (· < ·)) (hA:A.Pairwise (· < ·)) (hz:E.length≤900) (sj:A.length≤900) (f1:Fr es) (f2:Fr as):∃ i' j' IV v9 yV HK,Dv E A i' j' IV v9∧Fr yV∧Fr HK ∧
  ((i+j<i'+j'∧(ev P (n+9)).B (sD P) (dT P) (dS T E A i j ms us es as .no) = .ok .next (dS T E A i' j' IV v9 yV HK .no))∨((i'=E.length∨j'=A.length)∧∃ y:Xn,y.cls="IndexError"∧(ev P (n+9)).B (sD P) (dT P) (dS T E A i j ms us es as .no) = .exc y (dS T E A i' j' IV v9 yV HK .no))):=by
 have lm:ms.length≤900:=by rw[D.hm];exact ay (fj _ _) (by rw[cM];exact sy (fE _ _) hz zC)
 have lu:us.length≤900:=by rw[D.hu];exact ay (fj _ _) (by rw[cM];exact sy (fE _ _) sj zC)
 have hi:=D.hi;have hj:=D.hj;by_cases ci:i=E.length
 ·exact (Y2 i j ⟨ms,us,es,as,D,f1,f2,.inr ⟨.inl ci,.index,rfl,Vi (Qy rfl rfl (Wq ci (by exact jj hz zC) (by decide)))⟩⟩)
 ·obtain ⟨e,he⟩:∃ e,E[i]?=some e:=⟨E[i],bS (by exact dg hi ci)⟩
  have st1:∀ {r:Res Fl},(ev P (n+9)).B (sD P) ((dT P).drop 1) (dS T E A i j ms us (iv e) as .no)=r→(ev P (n+9)).B (sD P) (dT P) (dS T E A i j ms us es as .no)=r:=fun k=>aU (fD rfl rfl (adE he (by exact jj hz zC)) (by rcases f1 with rfl | ⟨v,rfl⟩<;>rfl')) k;by_cases cj:j=A.length
  ·exact ⟨i,j,ms,us,iv e,as,D,Fr.val,f2,.inr ⟨.inr cj,.index,rfl,st1 (Vi (Qy rfl rfl (Wo cj (by exact jj sj zC) (by decide))))⟩⟩
  ·obtain ⟨a,ha⟩:∃ a,A[j]?=some a:=⟨A[j],bS (by exact dg hj cj)⟩
   have st2:∀ {r:Res Fl},(ev P (n+9)).B (sD P) ((dT P).drop 2) (dS T E A i j ms us (iv e) (iv a) .no)=r→(ev P (n+9)).B (sD P) (dT P) (dS T E A i j ms us es as .no)=r:=fun k=>st1 (aU (fD rfl rfl (adD ha (ay sj (by decide))) (by rcases f2 with rfl | ⟨v,rfl⟩<;>rfl')) k);have fin:∀ {i' j' IV v9} {ok:Prop} {blk:Res Fl},Dv E A i' j' IV v9→i+j<i'+j'→(¬ ok→i'=E.length∨j'=A.length)→((ev P (n+9)).B (sD P) (dT P) (dS T E A i j ms us es as .no)=blk)→WS ok blk (dS T E A i' j' IV v9 (iv e) (iv a) .no)→∃ i' j' IV v9 yV HK,Dv E A i' j' IV v9∧Fr yV∧Fr HK ∧
  ((i+j<i'+j'∧(ev P (n+9)).B (sD P) (dT P) (dS T E A i j ms us es as .no) = .ok .next (dS T E A i' j' IV v9 yV HK .no))∨((i'=E.length∨j'=A.length)∧∃ y:Xn,y.cls="IndexError"∧(ev P (n+9)).B (sD P) (dT P) (dS T E A i j ms us es as .no) = .exc y (dS T E A i' j' IV v9 yV HK .no))):=by
    intro i' j' IV v9 ok blk D' kL pB hb ho;refine ⟨i',j',IV,v9,iv e,iv a,D',Fr.val,Fr.val,?_⟩;rw[hb];rcases ho with ⟨_,q⟩ | ⟨c,y,hy,q⟩
    ·exact .inl ⟨kL,q⟩
    ·exact .inr ⟨pB c,y,hy,q⟩
   rcases x9 e a with c | c | c
   ·exact fin (D.left hE hA he ha c) (by exact oH .e (.s (.a au aE)) (.a (.s au) aE) zC ) (fun q=>.inl (by exact (aW ci).elim (fun dK=>(zQ dK (zM q))) fun dK=>(zQ (T5 hi dK) (zM q)))) (st2 (eK (vQ (gW rfl (a:=.p (.int e)) (by rfl') (b:=.p (.int a)) (by rfl') rfl (by
     show Res.ok (decide ((e:Int)<a)) _=_;rw[cL (by exact zO c)])) rfl))) (part1 hE he (ay hz (by decide)) (ay lm (by decide))).to2
   ·subst c
    exact fin (D.both hE hA he ha) (by exact oH .e (.s (.a au aE)) (.a (.s au) (.s aE)) zC ) (fun q=>(JH (i+1) E.length).elim (fun a=>.inr (lA (dg hj cj) (Nat.not_lt.mp fun b=>q ⟨a,b⟩))) fun a=>.inl (lA (dg hi ci) a)) (st2 (eK (qP (gW rfl (a:=.p (.int e)) (by rfl') (b:=.p (.int e)) (by rfl') rfl (by
     show Res.ok (decide ((e:Int)<e)) _=_;rw[ez (by exact G9 ↑e)])) (eK (qP (gW rfl (a:=.p (.int e)) (by rfl') (b:=.p (.int e)) (by rfl') rfl (by
     show Res.ok (decide ((e:Int)<e)) _=_;rw[ez (by exact G9 ↑e)])) rfl))))) (part3 hE hA he ha (ay hz (by decide)) (ay sj (by decide)))
   ·exact fin (D.swap.left hA hE ha he c).swap (by exact Ek (i+j)) (fun q=>.inr (by exact (aW cj).elim (fun dK=>(zQ dK (zM q))) fun dK=>(zQ (T5 hj dK) (zM q)))) (st2 (eK (qP (gW rfl (a:=.p (.int e)) (by rfl') (b:=.p (.int a)) (by rfl') rfl (by
     show Res.ok (decide ((e:Int)<a)) _=_;rw[ez (by exact fun pM=>(zJ [↑a,↑e] (.g (.add bH eB) cQ (.g (.add cQ eB) bH .e)) zC (zO c) pM))])) (eK (vQ (gW rfl (a:=.p (.int e)) (by rfl') (b:=.p (.int a)) (by rfl') rfl (by
     show Res.ok (decide ((a:Int)<e)) _=_;rw[cL (by exact zO c)])) rfl))))) (part2 hA ha (ay sj (by decide)) (ay lu (by decide))).to2
noncomputable def TA:Stmt→List Stmt
 | .Try _ [.ExceptHandler _ _ b _] _ _ _=>b
 | _=>[]
noncomputable def dH (P:ai):List Stmt:=TA ((dW P).getD 0 (.Pass default))
theorem sW {x y:List Nat}:aq x++aq y=aq (x++y):=aV.symm
theorem hand (hz:E.length≤900) (sj:A.length≤900) (lm:ms.length≤900) (lu:us.length≤900):(ev P (n+9)).B (sD P) (dH P) (dS T E A i j ms us es as .yes) = .ok .brk (dS T E A i j (ms++E.drop i) (us++A.drop j) es as .yes):=by
 have l1:(aq (E.drop i)).length≤900:=by rw[cP,bT];exact sy (aI _ _) hz zC
 have l2:(aq (A.drop j)).length≤900:=by rw[cP,bT];exact sy (aI _ _) sj zC
 have s1:∀ (xs:List Nat) (k:Nat),qa (aq xs) (some (k:Int)) none none=aq (xs.drop k):=fun xs k=>by
  rw[Ag];unfold aq;rw[jE]
 refine aU (σ1:=dS T E A i j (ms++E.drop i) us es as .yes) ((Vv rfl ⟨rfl,rfl,by decide,rfl⟩ (k:=T.length) (xs:=aq (E.drop i)) (by rfl') at1 rfl (mX (a:=.p (.lst (aq E))) (by rfl') (l:=.p (.int i)) (by rfl') (u:=.p .none) (by rfl') (t:=.p .none) (by rfl') (rq (i:=some (i:Int)) (j:=none) (k:=none) rfl rfl rfl (by decide) (by rw[cP];exact jj hz zC) (s1 E i))) (by rw[cP];exact acI lm l1)).trans ?_) ?_
 ·dsimp only [dS]
  show Res.ok Fl.next ⟨_,(T++[Ob.list (aq ms),.list (aq us)]).set T.length _,_⟩=_;rw[adI,sW]
 refine aU (σ1:=dS T E A i j (ms++E.drop i) (us++A.drop j) es as .yes) ((Vv rfl ⟨rfl,rfl,by decide,rfl⟩ (k:=T.length+1) (xs:=aq (A.drop j)) (by rfl') at2 rfl (mX (a:=.p (.lst (aq A))) (by rfl') (l:=.p (.int j)) (by rfl') (u:=.p .none) (by rfl') (t:=.p .none) (by rfl') (rq (i:=some (j:Int)) (j:=none) (k:=none) rfl rfl rfl (by decide) (by rw[cP];exact jj sj zC) (s1 A j))) (by rw[cP];exact acI lu l2)).trans ?_) (eK rfl)
 ·dsimp only [dS]
  show Res.ok Fl.next ⟨_,(T++[Ob.list (aq (ms++E.drop i)),.list (aq us)]).set (T.length+1) _,_⟩=_;rw[ZV,sW]
end
section
variable {P:ai} {n:Nat} {sc:bV} {σ σ1 σ2:St} {l l':List (Str × Sl)} {T X:List Ob} {E A ms us:List Nat} {i j e a x:Nat} {es as:Sl} {h:Hn}
noncomputable def sub (E A:List Nat):List Nat:=E.filter fun x => !A.contains x
set_option tactic.hygienic true in
theorem LU {t:Mo Bool} (ht:∀ i j ms us es as,t (dS T E A i j ms us es as .no) = .ok true (dS T E A i j ms us es as .no)) (hE:E.Pairwise (· < ·)) (hA:A.Pairwise (· < ·)) (hz:E.length≤900) (sj:A.length≤900):∀ (k i j:Nat) (ms us:List Nat) (es as:Sl),Dv E A i j ms us→Fr es→Fr as→E.length+A.length<k+(i+j) →
  ∃ i' j' yV HK,lS t ((ev P (n+10)).B (sD P) (dW P)) k (dS T E A i j ms us es as .no) = .ok .next (dS T E A i' j' (sub E A) (sub A E) yV HK .no):=by
 intro k;induction k with
 | zero =>
  intro i j ms us es as D _ _ hk;have:=D.hi;have:=D.hj
  (rename_i nV;exact ((z0 [_,_,_,_] (.g (.s (.a au aE)) (.a gR (.a aT bX)) (.g aT au (.g bX aE .e))) zC hk nV this).elim))
 | succ k ih =>
  intro i j ms us es as D f1 f2 hk;refine X64 (Rd (P:=P) (n:=n) (T:=T) D hE hA hz sj f1 f2) fun i' j' IV v9 yV HK D' g1 g2 agd=>?_;obtain ⟨kL,q⟩ | ⟨Iq,y,hy,q⟩:=agd
  ·refine iM (ih i' j' IV v9 yV HK D' g1 g2 (by exact zi7 (.g (.s (.a au aE)) (.a (.s aT) (.a m9 vS)) (.g (.s (.a m9 vS)) (.a bX fh) .e)) (.s (.a au aE)) (.a aT (.a bX fh)) zC hk kL)) fun i2 j2 es2 as2 k2=>?_
   exact (Y2 i2 j2 (Y2 es2 as2 (HH (ht ..) (eK (agP (by rfl') q)) k2)))
  ·have lm:IV.length≤900:=by rw[D'.hm];exact ay (fj _ _) (by rw[cM];exact sy (fE _ _) hz zC)
   have lu:v9.length≤900:=by rw[D'.hu];exact ay (fj _ _) (by rw[cM];exact sy (fE _ _) sj zC)
   have hh:=hand (P:=P) (n:=n) (T:=T) (i:=i') (j:=j') (es:=yV) (as:=HK) hz sj lm lu;rw[D'.VH Iq,D'.abk Iq] at hh;exact (Y2 i' j' (Y2 yV HK (JN (ht ..) (eK (aa7 (by rfl') q hy hh)))))
theorem aaT {a:Addr} {us:List V} {fl:Fl} {x y:List Mine.P} (hT:∀ o∈T,tL o) (h:eS (Kf P) (ev P n) a us [] ⟨l,T,.no⟩ = .ok fl ⟨l',T++[.list x,.list y],.no⟩) (hv:qN fl = .tup [.obj T.length,.obj (T.length+1)]):(ev P (n+1)).C a us [] ⟨l,T,.no⟩ = .ok (.p (.tup [.lst x,.lst y])) ⟨l,T,.no⟩:=by
 show (match eS (Kf P) (ev P n) a us [] ⟨l,T,.no⟩ with
 | .ok fl σ'=>i7 ⟨l,T,.no⟩ σ' (qN fl)
 | _=>.fail)=_
 rw[h];show i7 ⟨l,T,.no⟩ ⟨l',T++[.list x,.list y],.no⟩ (qN fl)=_;rw[hv];dsimp only [i7];have kL:V.lt T.length (.tup [.obj T.length,.obj (T.length+1)])=false:=by
  rw[V.lt,Ku,V.lt,ez (iL _)];rfl
 rw[aA (Gf hT),aS (kL ▸ bR)];have f1:qB (T++[Ob.list x,.list y]) T.length 1 (.obj T.length)=some (.lst x):=by
  show (if T.length≤T.length then (match (T++[Ob.list x,.list y])[T.length]? with
   | some (.list vs)=>some (Mine.P.lst vs)
   | _=>none) else none)=_
  rw[aA (aB _),at1]
 have f2:qB (T++[Ob.list x,.list y]) T.length 1 (.obj (T.length+1))=some (.lst y):=by
  show (if T.length≤T.length+1 then (match (T++[Ob.list x,.list y])[T.length+1]? with
   | some (.list vs)=>some (Mine.P.lst vs)
   | _=>none) else none)=_
  rw[aA (b7 _ _),at2]
 have e:qB (T++[Ob.list x,.list y]) T.length 2 (.tup [.obj T.length,.obj (T.length+1)])=some (.tup [.lst x,.lst y]):=by
  show (match [V.obj T.length,V.obj (T.length+1)].mapM (qB (T++[Ob.list x,.list y]) T.length 1) with
   | some ps=>some (Mine.P.tup ps)
   | none=>none)=_
  rw[j6,j6,List.mapM_nil,f1,f2];rfl
 show (match qB (T++[Ob.list x,.list y]) T.length 2 (.tup [.obj T.length,.obj (T.length+1)]) with
  | some p=>(Res.ok (V.p p) ⟨l,(T++[Ob.list x,.list y]).take T.length,.no⟩:Res V)
  | none=>.ok (.tup [.obj T.length,.obj (T.length+1)]) ⟨l,T++[Ob.list x,.list y],.no⟩)=_
 rw[e,uo]
theorem Xa (hT:∀ o∈T,tL o) (hE:E.Pairwise (· < ·)) (hA:A.Pairwise (· < ·)) (hz:E.length≤900) (sj:A.length≤900):(ev P (n+20)).C 825 [.p (.lst (aq E)),.p (.lst (aq A))] [] ⟨l,T,.no⟩ = .ok (.p (.tup [.lst (aq (sub E A)),.lst (aq (sub A E))])) ⟨l,T,.no⟩:=by
 have e0:eS (Kf P) (ev P (n+19)) 825 [.p (.lst (aq E)),.p (.lst (aq A))] [] ⟨l,T,.no⟩=(ev P (n+19)).B (sD P) ((fM P 825).2.drop 2) ⟨[("expected",.val (.p (.lst (aq E)))),("actual",.val (.p (.lst (aq A)))),("i",iv (0:Nat)),("j",iv (0:Nat)),("missing",.val (.obj T.length)),("unexpected",.unset),("e",.unset),("a",.unset)],T++[.list (aq [])],.no⟩:=by rfl'
 refine iM (LU (P:=P) (n:=n+8) (T:=T) (E:=E) (A:=A) (t:=(ev P (n+18)).T (sD P) (.Constant (.bool true) 0 default)) (fun _ _ _ _ _ _=>by rfl') hE hA hz sj 4096 0 0 [] [] .unset .unset Dv.start (.inl rfl) (.inl rfl) (by exact oH (.g au (.n 900) (.g aE (.n 900) .e)) (.s (.a au aE)) (.a (.n 4096) (.a gR gR)) zC hz sj)) fun i' j' yV HK k=>?_;refine aaT (fl:=.ret (.tup [.obj T.length,.obj (T.length+1)])) (l':=(dS T E A i' j' (sub E A) (sub A E) yV HK .no).loc) hT (e0.trans ?_) rfl;refine aU (oW rfl rfl (v:=.obj (T.length+1)) (σ1:=⟨[("expected",.val (.p (.lst (aq E)))),("actual",.val (.p (.lst (aq A)))),("i",iv (0:Nat)),("j",iv (0:Nat)),("missing",.val (.obj T.length)),("unexpected",.unset),("e",.unset),("a",.unset)],T++[.list (aq []),.list (aq [])],.no⟩) ?_ (σ2:=dS T E A 0 0 [] [] .unset .unset .no) (by rfl')) ?_
 ·show Res.ok (V.obj (T++[Ob.list (aq [])]).length) ⟨_,T++[Ob.list (aq [])]++[.list []],_⟩=_
  rw[aO,dN];rfl
 exact aU (C8 k) (kN (o6 (v:=.tup [.obj T.length,.obj (T.length+1)]) (by rfl')))
end
section
variable {P:ai} {n:Nat} {sc:bV} {σ σ1 σ2:St} {l l':List (Str × Sl)} {T X:List Ob} {E A:List Nat} {snd due:V}
noncomputable def S7 (x y:List Nat):g7:=.tuple [.list (x.map fun (x:Nat)=>.int x),.list (y.map fun (x:Nat)=>.int x)]
theorem Ud (x y:List Nat):Lay 2 (S7 x y):=Lay.tuple fun d hd=>by
 rcases av.mp hd with rfl | hd
 ·exact lay_ints x
 ·rw[bA.mp hd]
  exact lay_ints y
theorem Dj (x y:List Nat):r5 (.tup [.lst (aq x),.lst (aq y)])=some (S7 x y):=by
 rw[r5,pW,lN,pW,lN,pW];rfl
noncomputable def IsL (T:List Ob) (v:V) (A:List Nat):Prop:=v = .p (.lst (aq A))∨∃ k,v = .obj k∧T[k]?=some (.list (aq A))
theorem IsL.dat (h:IsL T snd A):tE ⟨l,T,.no⟩ snd=some (.list (A.map fun (x:Nat)=>.int x)):=by
 rcases h with rfl | ⟨k,rfl,hk⟩
 ·exact lN A
 ·exact Ou hk (lN A)
theorem IsL.list (h:IsL T snd A) (hz:A.length≤900):jL (Kf P) (ev P n) (.p (.ty "list")) [snd] [] ⟨l,T,.no⟩ = .ok (.p (.lst (aq A))) ⟨l,T,.no⟩:=by
 have hl:(aq A).length≤2 ^ 20:=by rw[cP];exact jj hz zC
 rcases h with rfl | ⟨k,rfl,hk⟩
 ·show (if (aq A).length≤2 ^ 20 then (pure (V.p (.lst (aq A))):Mo V) else Mo.fail) _=_
  rw[aA hl];rfl
 ·show (match T[k]? with
   | some (.list vs)=>if vs.length≤2 ^ 20 then Res.ok (V.p (.lst vs)) ⟨l,T,.no⟩ else .fail
   | some (.inst C _)=>match uB (Kf P) C with
    | some (fi,fn)=>yt (ev P n) k C fi fn ⟨l,T,.no⟩
    | none=>.fail
   | _=>.fail)=_
  rw[hk];exact aA hl
theorem agW {x y z:Expr} {p:Pos} (h1:(ev P n).E sc x σ = .ok (.p (.bool true)) σ) (h2:(ev P n).E sc y σ = .ok (.p (.bool true)) σ) (h3:(ev P n).E sc z σ = .ok (.p (.bool true)) σ):(ev P (n+1)).E sc (.BoolOp .And [x,y,z] p) σ = .ok (.p (.bool true)) σ:=
 rb h1 (rb (a:=true) rfl (rb h2 (rb (a:=true) rfl h3)))
noncomputable def lO (E:List Nat) (snd due:V) (one other told:Sl):List (Str × Sl):=[("first",.val (.p (.lst (aq E)))),("second",.val snd),("due",.val due),("one",one),("other",other),("told",told)]
theorem Ra (hT:∀ o∈T,tL o) (hE:E.Pairwise (· < ·)) (hA:A.Pairwise (· < ·)) (hz:E.length≤900) (sj:A.length≤900) (hs:IsL T snd A) (hd:∀ l,tE ⟨l,T,.no⟩ due=some (S7 (sub E A) (sub A E))):(ev P (n+30)).C 881 [.p (.lst (aq E)),snd,due] [] ⟨l,T,.no⟩ = .ok (.p (.bool true)) ⟨l,T,.no⟩:=by
 have e0:eS (Kf P) (ev P (n+29)) 881 [.p (.lst (aq E)),snd,due] [] ⟨l,T,.no⟩=(ev P (n+29)).B (fM P 881).1.scope (fM P 881).2 ⟨lO E snd due .unset .unset .unset,T,.no⟩:=by rfl'
 have hl:gG T.length T=true:=by have q:=Gf (X:=[]) hT;rwa [cg] at q
 refine ud (fl:=.ret (.p (.bool true))) (σ1:=⟨lO E snd due (.val (.p (.lst (aq E)))) (.val (.p (.lst (aq A)))) (.val (.p (.tup [.lst (aq (sub E A)),.lst (aq (sub A E))]))),T,.no⟩) (e0.trans ?_) rfl hl dG rfl rfl;refine aU (fD (σ2:=⟨lO E snd due (.val (.p (.lst (aq E)))) .unset .unset,T,.no⟩) rfl rfl (b8 rfl rfl (fv:=.p (.ty "list")) (by rfl') (a1 rfl (v:=.p (.lst (aq E))) (by rfl')) (IsL.list (.inl rfl) hz)) (by rfl')) ?_;refine aU (fD (σ2:=⟨lO E snd due (.val (.p (.lst (aq E)))) (.val (.p (.lst (aq A)))) .unset,T,.no⟩) rfl rfl (b8 rfl rfl (fv:=.p (.ty "list")) (by rfl') (a1 rfl (v:=snd) (by rfl')) (hs.list sj)) (by rfl')) ?_;refine aU (fD (σ2:=⟨lO E snd due (.val (.p (.lst (aq E)))) (.val (.p (.lst (aq A)))) (.val (.p (.tup [.lst (aq (sub E A)),.lst (aq (sub A E))]))),T,.no⟩) rfl rfl (b8 rfl rfl (fv:=.p (.adr 825)) (by rfl') (ac rfl (v:=.p (.lst (aq E))) (by rfl') (a1 rfl (v:=.p (.lst (aq A))) (by rfl'))) ((cR (by rfl')).trans (Xa (n:=n+7) hT hE hA hz sj))) (by rfl')) ?_;exact kN (o6 (agW (BE rfl (a:=.p (.tup [.lst (aq (sub E A)),.lst (aq (sub A E))])) (by rfl') (b:=due) (by rfl') (vB (Dj _ _) (hd _) (Ud _ _) (by decide))) (BE rfl (a:=.p (.lst (aq E))) (by rfl') (b:=.p (.lst (aq E))) (by rfl') (vB (lN E) (lN E) (lay_ints E) (by decide))) (BE rfl (a:=.p (.lst (aq A))) (by rfl') (b:=snd) (by rfl') (vB (lN A) hs.dat (lay_ints A) (by decide)))))
end
section
variable {P:ai} {n:Nat} {sc:bV} {σ σ1 σ2:St} {l l':List (Str × Sl)} {x1 x2 x3:Mine.P} {l0:List Mine.P} {ws:List (List Nat)} {es:List Nat} {r:Nat}
section
variable {α : Type} {em:α→Mine.P} {aP:List Ob} {x:Str} {L:Mine.P→List (Str × Sl)} {f:α→Mine.P} {nx:Nat→St→Option (Option Mine.P)} {vs:List Mine.P} {xs:List α} {iter:Expr} {rG:Expr} {px:Pos} {cK:bV} {u:V} {loc l:List (Str × Sl)}
open Classical in
theorem jl (h1:mz iter=false) (h2:oj cK x=true) (h3:dX loc cK.names=some l) (h4:(ev P n).E sc iter ⟨loc,aP,.no⟩ = .ok u ⟨loc,aP,.no⟩) (hv:vs=xs.map em)
  (h5:srcOf u ⟨loc,aP,.no⟩=some (nx,vs.length)) (NH:∀ i l,nx i ⟨l,aP,.no⟩=some vs[i]?) (hw:∀ v,o9 x (.p v) ⟨l,aP,.no⟩ = .ok () ⟨L v,aP,.no⟩) (hL:∀ u v,o9 x (.p v) ⟨L u,aP,.no⟩ = .ok () ⟨L v,aP,.no⟩) (kC:xs.length≤2 ^ 20)
  (he:∀ x∈xs,(ev P n).E (nI sc cK) rG ⟨L (em x),aP,.no⟩ = .ok (.p (f x)) ⟨L (em x),aP,.no⟩) :
  Mine.comp (ev P n) sc rG [⟨.Name x px,iter,[],0⟩] cK ⟨loc,aP,.no⟩ = .ok (.lst (xs.map f)) ⟨loc,aP,.no⟩:=by
 subst hv;obtain ⟨F,hF⟩:∃ F:Mine.P→Mine.P,∀ x∈xs,F (em x)=f x:=by
  refine ⟨fun v=>if h:∃ x∈xs,em x=v then f h.choose else .none,fun x hx=>?_⟩;have hq:∃ y∈xs,em y=em x:=⟨x,hx,rfl⟩;show (if h:∃ y∈xs,em y=em x then f h.choose else .none)=f x;rw[dif_pos hq];have e1:=he _ hq.choose_spec.1;rw[hq.choose_spec.2,he x hx] at e1;injection e1 with e1;injection e1 with e1;exact e1.symm
 have e:((xs.map em).filter fun _=>true).map F=xs.map f:=by
  rw[kI.mpr fun _ _=>rfl,bZ];exact e9 hF
 rw[← e];refine yS h1 h2 h3 h4 h5 NH hw hL (by rw[aM];exact kC) (fun _ _=>rfl) fun v hv _=>?_;refine bU (aX.mp hv) fun x hx age=>?_;obtain rfl:=age;rw[hF x hx];exact he x hx
end
theorem Fo (rs:List (List (List Nat))):r5 (.lst (k7 rs))=some (.list (rs.map fun r=>.list (r.map fun t=>.str (S t)))):=Di (ye fun t _=>r6 t)
theorem PB {rs:List (List (List Nat))} (h:∀ r∈rs,∀ t∈r,∀ x∈t,x<0x110000):Lay 2 (.list (rs.map fun r=>.list (r.map fun t=>.str (S t)))):=Lay.list fun d hd=>by
 refine bU (aX.mp hd) fun t ht agf=>?_;obtain rfl:=agf;exact zF (h t ht)
theorem vv {run:List (List Nat)} (h:run∈cutAt ws es):(∀ w∈run,w∈ws)∧run.length≤ws.length:=by
 rw[wm] at h;refine bU (aX.mp h) fun k _ agg=>?_;rw[← agg];refine ⟨fun w hw=>ug (j7 hw),?_⟩;rw[cM,bT];exact Km (fE _ _) (aI _ _)
noncomputable def nC (run:List (List Nat)):List Nat:=encL (eL (run.map b9))
theorem Ak {run:List (List Nat)}:nC run=eL (run.map eN):=by
 unfold nC;rw[wz,bZ];rfl
noncomputable def Bo (run:List (List Nat)):Prop:=run≠[]∧(∀ w∈run,w∈d8)∧run.length≤9
theorem Bo.len {run:List (List Nat)} (h:Bo run):(eL (run.map b9)).length≤200∧(nC run).length≤400:=by
 have h1:=F8 (ws:=run) (f:=b9) (k:=20) fun w hw=>qe w (h.2.1 w hw);have h2:=F8 (ws:=run) (f:=eN) (k:=40) fun w hw=>by
  refine En (iD (h.2.1 w hw)) fun _ a b _=>?_;exact nG a b
 have h3:=h.2.2;rw[Ak];exact ⟨ay h1 (ay (gE _ h3) (by decide)),ay h2 (ay (gE _ h3) (by decide))⟩
theorem rY:∀ o∈T6 x1 x2 x3 l0,tL o:=HA
theorem JZ {loc:List (Str × Sl)} {run:List (List Nat)} (h:Bo run) {p1 p2 p3 p4 p5:Pos} {k:Nat} (hb:(ev P (n+31)).E sc (.Name "body_encode" p1) ⟨loc,T6 x1 x2 x3 l0,.no⟩ = .ok (.p (.adr 95)) ⟨loc,T6 x1 x2 x3 l0,.no⟩) (hj:(ev P (n+30)).E sc (.Name "join_shlex" p2) ⟨loc,T6 x1 x2 x3 l0,.no⟩ = .ok (.p (.adr 810)) ⟨loc,T6 x1 x2 x3 l0,.no⟩) (hr:(ev P (n+30)).E sc (.Name "run" p3) ⟨loc,T6 x1 x2 x3 l0,.no⟩ = .ok (.p (.lst (bD run))) ⟨loc,T6 x1 x2 x3 l0,.no⟩) :
  (ev P (n+32)).E sc (.Call (.Name "body_encode" p1) [.Call (.Name "join_shlex" p2) [.Name "run" p3] [] p4,.Constant (.int 500) k kp] [] p5) ⟨loc,T6 x1 x2 x3 l0,.no⟩ = .ok (.p (.str (S (nC run)))) ⟨loc,T6 x1 x2 x3 l0,.no⟩:=by
 have hl:=h.len;exact b8 rfl rfl hb (ac rfl (v:=.p (.str (S (eL (run.map b9))))) (b8 rfl rfl hj (a1 rfl hr) ((cR (by rfl')).trans (XU (n:=n) h.2.1 (by have:=h.2.2;exact jj this zC) (by rfl')))) (a1 rfl (v:=.p (.int 500)) rfl)) ((cR (by rfl')).trans (Fz (n:=n+10) rY (wC h.1 h.2.1) (by have:=hl.2;unfold nC at this;exact jj this zC) (by exact jj hl.1 zC)))
end
section
variable {P:ai} {n:Nat} {sc:bV} {σ σ1 σ2:St} {l l':List (Str × Sl)} {x1 x2 x3:Mine.P} {l0:List Mine.P} {ws:List (List Nat)} {es:List Nat} {r:Nat}
noncomputable def eY (ws:List (List Nat)):List Mine.P:=bD ((ws.map eN).map fun q=>32 :: q)
theorem wK (hw:∀ w∈ws,w∈d8):∀ q∈ws.map eN,q≠[]∧q.length≤500∧∀ c,q.head?=some c→bz c=false:=by
 intro q hq;refine bU (aX.mp hq) fun w Mg agh=>?_;obtain rfl:=agh;refine X05 (iD (hw w Mg)) fun a b c d _=>?_;exact ⟨a.ene,by exact sy (zA b) c zC,d⟩
noncomputable def lW (ws:List (List Nat)) (r:Nat) (es:List Nat) (runs:Sl):List (Str × Sl):=[("words",.val (.p (.lst (bD ws)))),("pieces",.val (.p (.lst (eY ws)))),("room",iv r),("ends",.val (.p (.lst (aq es)))),("runs",runs)]
noncomputable def lWR (ws:List (List Nat)) (r:Nat) (es:List Nat) (runs rows:Sl):List (Str × Sl):=[("words",.val (.p (.lst (bD ws)))),("pieces",.val (.p (.lst (eY ws)))),("room",iv r),("ends",.val (.p (.lst (aq es)))),("runs",runs),("rows",rows)]
theorem K5 (y9:cO r (ws.map eN)=(cutAt (ws.map eN) es).map eL):cO r (ws.map eN)=(cutAt ws es).map nC:=by
 rw[y9,LP,bZ];exact e9 fun run _=>Ak.symm
theorem CL {run:List (List Nat)} (h:Bo run):∀ x∈nC run,x<0x110000:=fun x hx=>((wC h.1 h.2.1).sign x hx).2
theorem ZS (hw:∀ w∈ws,w∈d8) (hn:ws.length≤9) (he:es.length≤100) (hr:r≤500) (y9:cO r (ws.map eN)=(cutAt (ws.map eN) es).map eL) (tV:∀ run∈cutAt ws es,run≠[]):(ev P (n+90)).C 869 [.p (.lst (bD ws)),.p (.lst (eY ws)),.p (.int r),.p (.lst (aq es))] [] ⟨l,T6 x1 x2 x3 l0,.no⟩ = .ok (.p (.bool true)) ⟨l,T6 x1 x2 x3 l0,.no⟩:=by
 have zj:∀ run∈cutAt ws es,Bo run:=fun run h=>⟨tV run h,fun w Mg=>hw w ((vv h).1 w Mg),ay (vv h).2 hn⟩;have Pd:=K5 y9;have hlen:(cutAt ws es).length≤101:=by rw[wo];exact gT he
 have hpk:=sE (P:=P) (n:=n+47) (T:=T6 x1 x2 x3 l0) (l:=lWR ws r es (.val (.p (.lst (k7 (cutAt ws es))))) .unset) rY hr (wK hw) (by rw[aM];exact jj hn zC);rw[Pd] at hpk;have hrc:=Qx (P:=P) (n:=n+57) (l:=lWR ws r es .unset .unset) (ws:=ws) (es:=es) (rY (x1:=x1) (x2:=x2) (x3:=x3) (l0:=l0)) (by exact jj hn zC) he;have hw1:∀ w∈ws,∀ x∈w,x<0x110000:=fun w h=>(iD (hw w h)).2.2.2.2;have qD:∀ run∈cutAt ws es,∀ w∈run,w∈ws:=fun run h=>(vv h).1;generalize cutAt ws es=runs at *;have e0:eS (Kf P) (ev P (n+89)) 869 [.p (.lst (bD ws)),.p (.lst (eY ws)),.p (.int r),.p (.lst (aq es))] [] ⟨l,T6 x1 x2 x3 l0,.no⟩=(ev P (n+89)).B (fM P 869).1.scope (fM P 869).2 ⟨lWR ws r es .unset .unset,T6 x1 x2 x3 l0,.no⟩:=by rfl'
 refine uZ (T:=T6 x1 x2 x3 l0) (X:=[]) (fl:=.ret (.p (.bool true))) (l':=lWR ws r es (.val (.p (.lst (k7 runs)))) (.val (.p (.lst (bD (runs.map nC)))))) rY (e0.trans ?_) rfl;refine aU (fD (σ2:=⟨lWR ws r es (.val (.p (.lst (k7 runs)))) .unset,T6 x1 x2 x3 l0,.no⟩) rfl rfl (b8 rfl rfl (fv:=.p (.adr 864)) (by rfl') (ac rfl (v:=.p (.lst (bD ws))) (by rfl') (a1 rfl (v:=.p (.lst (aq es))) (by rfl'))) ((cR (by rfl')).trans hrc)) (by rfl')) ?_;refine aU (fD (σ2:=⟨lWR ws r es (.val (.p (.lst (k7 runs)))) (.val (.p (.lst (bD (runs.map nC))))),T6 x1 x2 x3 l0,.no⟩) rfl rfl (b8 rfl rfl (fv:=.p (.adr 859)) (by rfl') (ac rfl (v:=.p (.lst (eY ws))) (by rfl') (a1 rfl (v:=.p (.int r)) (by rfl'))) ((cR (by rfl')).trans hpk)) (by rfl')) ?_;refine aU (nW (gW rfl (a:=.p (.lst (bD (runs.map nC)))) (by rfl') (b:=.p (.lst (runs.map fun run=>.str (S (nC run))))) (rb (jl (x:="run") (u:=.p (.lst (k7 runs))) (l:=[(".0",.unset),("run",.unset)]) (L:=fun v=>[(".0",.unset),("run",.val (.p v))]) (em:=fun run=>.lst (bD run)) (f:=fun run=>.str (S (nC run))) (vs:=k7 runs) (xs:=runs) (nx:=fun i _=>some (k7 runs)[i]?) rfl (by rfl') (by rfl') (by rfl') rfl rfl (fun _ _=>rfl) (fun _=>by rfl') (fun _ _=>by rfl') (by exact jj hlen zC) (fun run h=>JZ (n:=n+54) (zj run h) (by rfl') (by rfl') (by rfl'))) rfl)
  (KA (r6 _) (by rw[show (runs.map fun run=>Mine.P.str (S (nC run)))=bD (runs.map nC) by unfold bD;rw[bZ];rfl];exact r6 _) (zF fun t ht=>by obtain ⟨run,h,rfl⟩:=aX.mp ht;exact CL (zj run h)) (by decide)) rfl)) ?_
 refine kN (o6 (BE rfl (a:=.p (.lst (k7 runs))) (rb (jl (x:="row") (u:=.p (.lst (bD (runs.map nC)))) (l:=[(".0",.unset),("row",.unset)]) (L:=fun v=>[(".0",.unset),("row",.val (.p v))]) (em:=fun run=>.str (S (nC run))) (f:=fun run=>.lst (bD run)) (vs:=bD (runs.map nC)) (xs:=runs) (nx:=fun i _=>some (bD (runs.map nC))[i]?) rfl (by rfl') (by rfl') (by rfl') (by unfold bD;rw[bZ];rfl) rfl (fun _ _=>rfl) (fun _=>by rfl') (fun _ _=>by rfl') (by exact jj hlen zC) ?_) rfl) (b:=.p (.lst (k7 runs))) (by rfl') (vB (Fo _) (Fo _) (PB fun run h t ht=>hw1 t (qD run h t ht)) (by decide))));intro run h;have hg:=wC (zj run h).1 (zj run h).2.1;have hl:=(zj run h).len;exact b8 rfl rfl (fv:=.p (.adr 803)) (by rfl') (a1 rfl (v:=.p (.str (S (eL (run.map b9))))) (b8 rfl rfl (fv:=.p (.adr 103)) (by rfl') (a1 rfl (v:=.p (.str (S (nC run)))) (by rfl')) ((cR (by rfl')).trans (Ow (n:=n+38) rY hg (by have:=hl.2;unfold nC at this;exact jj this zC) (by exact jj hl.1 zC))))) ((cR (by rfl')).trans (US (n:=n+15) (zj run h).1 (zj run h).2.1 (by have:=(zj run h).2.2;exact jj this zC) rfl (by exact jj hl.1 zC)))
theorem Rh (hw:∀ w∈ws,w∈d8) (hn:ws.length≤9) (he:es.length≤100) (hr:r≤500) (y9:cO r (ws.map eN)=(cutAt (ws.map eN) es).map eL) (tV:∀ run∈cutAt ws es,run≠[]):(ev P (n+90)).C 874 [.p (.lst (bD ws)),.p (.lst (eY ws)),.p (.int r),.p (.lst (aq es))] [] ⟨l,T6 x1 x2 x3 l0,.no⟩ = .ok (.p (.bool true)) ⟨l,T6 x1 x2 x3 l0,.no⟩:=by
 have zj:∀ run∈cutAt ws es,Bo run:=fun run h=>⟨tV run h,fun w Mg=>hw w ((vv h).1 w Mg),ay (vv h).2 hn⟩;have Pd:=K5 y9;have hlen:(cutAt ws es).length≤101:=by rw[wo];exact gT he
 have hpk:=sE (P:=P) (n:=n+46) (T:=T6 x1 x2 x3 l0) (l:=lW ws r es (.val (.p (.lst (k7 (cutAt ws es)))))) rY hr (wK hw) (by rw[aM];exact jj hn zC);rw[Pd] at hpk;have hrc:=Qx (P:=P) (n:=n+57) (l:=lW ws r es .unset) (ws:=ws) (es:=es) (rY (x1:=x1) (x2:=x2) (x3:=x3) (l0:=l0)) (ay hn (by decide)) he;generalize cutAt ws es=runs at *;have e0:eS (Kf P) (ev P (n+89)) 874 [.p (.lst (bD ws)),.p (.lst (eY ws)),.p (.int r),.p (.lst (aq es))] [] ⟨l,T6 x1 x2 x3 l0,.no⟩=(ev P (n+89)).B (fM P 874).1.scope (fM P 874).2 ⟨lW ws r es .unset,T6 x1 x2 x3 l0,.no⟩:=by rfl'
 refine uZ (T:=T6 x1 x2 x3 l0) (X:=[]) (fl:=.ret (.p (.bool true))) (l':=lW ws r es (.val (.p (.lst (k7 runs))))) rY (e0.trans ?_) rfl;refine aU (fD (σ2:=⟨lW ws r es (.val (.p (.lst (k7 runs)))),T6 x1 x2 x3 l0,.no⟩) rfl rfl (b8 rfl rfl (fv:=.p (.adr 864)) (by rfl') (ac rfl (v:=.p (.lst (bD ws))) (by rfl') (a1 rfl (v:=.p (.lst (aq es))) (by rfl'))) ((cR (by rfl')).trans hrc)) (by rfl')) ?_;exact kN (o6 (BE rfl (a:=.p (.lst (bD (runs.map nC)))) (b8 rfl rfl (fv:=.p (.adr 859)) (by rfl') (ac rfl (v:=.p (.lst (eY ws))) (by rfl') (a1 rfl (v:=.p (.int r)) (by rfl'))) ((cR (by rfl')).trans hpk)) (b:=.p (.lst (runs.map fun run=>.str (S (nC run))))) (rb (jl (x:="run") (u:=.p (.lst (k7 runs))) (l:=[(".0",.unset),("run",.unset)]) (L:=fun v=>[(".0",.unset),("run",.val (.p v))]) (em:=fun run=>.lst (bD run)) (f:=fun run=>.str (S (nC run))) (vs:=k7 runs) (xs:=runs) (nx:=fun i _=>some (k7 runs)[i]?) rfl (by rfl') (by rfl') (by rfl') rfl rfl (fun _ _=>rfl) (fun _=>by rfl') (fun _ _=>by rfl') (by exact jj hlen zC) (fun run h=>JZ (n:=n+54) (zj run h) (by rfl') (by rfl') (by rfl'))) rfl)
  (vB (r6 _) (by rw[show (runs.map fun run=>Mine.P.str (S (nC run)))=bD (runs.map nC) by unfold bD;rw[bZ];rfl];exact r6 _) (zF fun t ht=>by obtain ⟨run,h,rfl⟩:=aX.mp ht;exact CL (zj run h)) (by decide))))
end
section
variable {P:ai} {n:Nat} {sc:bV} {σ σ1 σ2:St} {l l':List (Str × Sl)} {T X:List Ob} {r m:Nat} {qs:List (List Nat)} {near ff:Nat→Nat}
theorem Wv {k:Nat}:(T++X)[T.length+k]?=X[k]?:=by
 rw[bw (b7 _ _),b6]
theorem B5 {T X:List Ob} (hT:∀ o∈T,tL o) (hX:∀ o∈X,∃ vs,o = .list vs):∀ o∈T++X,tL o:=fun o ho=>by
 refine bJ (aj.mp ho) (fun h=>?_) fun h=>?_
 ·exact hT o h
 ·refine eU (hX o h) fun vs agi=>?_
  rw[agi];exact fun _ _=>rfl
theorem TU {v:V} {A:List Nat} {x:Nat} (h:IsL T v A):sq (.p (.int x)) v ⟨l,T,.no⟩ = .ok (A.contains x) ⟨l,T,.no⟩:=by
 have e:sq (.p (.int x)) v=RY (.p (.int x)) v:=rfl;rw[e];unfold RY;rw[h.dat,show tE ⟨l,T,.no⟩ (.p (.int x))=some (.int x) from rfl];show (if g9 (.int x)=true∧g9 (.list (A.map fun (x:Nat)=>.int x))=true then (pure ((A.map fun (x:Nat)=>PyData.int x).any fun y=>y.eqv (.int x)):Mo Bool) else Mo.fail) ⟨l,T,.no⟩=_;rw[aA ⟨Lay.int.shaped (by decide),(lay_ints A).shaped (by decide)⟩];show Res.ok ((A.map fun (x:Nat)=>PyData.int x).any fun y=>y.eqv (.int x)) _=_;congr 1;rw[List.any_map,k9,Sq,cS];constructor
 ·rintro ⟨y,hy,q⟩
  have q:=by exact q
  have:y=x:=by have:=eq_of_beq q;exact Int.ofNat_inj.mp this
  exact this ▸ hy
 ·intro hx
  exact ⟨x,hx,by simp [u9]⟩
theorem uF {v:V} {A:List Nat} {x:Nat} (h:IsL T v A):rF .NotIn (.p (.int x)) v ⟨l,T,.no⟩ = .ok (.p (.bool (!A.contains x))) ⟨l,T,.no⟩:=rb (TU h) rfl
theorem ne_int {a b:Int}:rF .NotEq (.p (.int a)) (.p (.int b)) σ = .ok (.p (.bool (!(a==b)))) σ:=by rfl'
theorem Gb {a b:Nat} (ha:a≤1000) (hb:b≤1000):jL (Kf P) (ev P n) (.p (.ty "list")) [.p (.rj a b 1)] [] ⟨l,T,.no⟩ = .ok (.p (.lst (aq (bg a (b - a))))) ⟨l,T,.no⟩:=by
 have e:jL (Kf P) (ev P n) (.p (.ty "list")) [.p (.rj a b 1)] [] ⟨l,T,.no⟩=Mo.get (sF a b 1) (fun vs=>if vs.length≤2 ^ 20 then Uq (.p (.lst vs)) else Mo.fail) ⟨l,T,.no⟩:=by rfl'
 have h:sF a b 1=some ((bg a (b - a)).map Nz):=vC (a:=a) (b:=b) rfl rfl ha hb;rw[e,h];show (if ((bg a (b - a)).map Nz).length≤2 ^ 20 then Uq (.p (.lst ((bg a (b - a)).map Nz))) else Mo.fail:Mo V) _=_;rw[aA (by rw[aM,g5];exact sy (aI _ _) hb zC)];rfl
theorem WX {x:Str} {px p:Pos} {e:Expr} {k:Nat} {vs xs:List Mine.P} (h1:UJ x σ = .ok (.obj k) σ) (h2:(ev P n).E sc e σ = .ok (.p (.lst xs)) σ) (hk:σ.aP[k]?=some (.list vs)) (hz:vs.length+xs.length≤2 ^ 20) (hw:o9 x (.obj k) { σ with aP:=σ.aP.set k (.list (vs++xs)) } = .ok () σ2):fk (Kf P) (ev P n) sc (.AugAssign (.Name x px) .Add e p) σ = .ok .next σ2:=by
 refine tO h1 h2 (v:=.obj k) (σ1:={ σ with aP:=σ.aP.set k (.list (vs++xs)) }) ?_ hw;show (match σ.aP[k]? with
  | some (.list vs)=>if vs.length+xs.length≤2 ^ 20 then Res.ok (V.obj k) { σ with aP:=σ.aP.set k (.list (vs++xs)) } else .fail
  | _=>.fail)=_
 rw[hk];exact aA hz
noncomputable def DX (qs:List (List Nat)):List Mine.P:=bD (qs.map fun q=>32 :: q)
noncomputable def lQ (qs:List (List Nat)) (r m:Nat) (near ff:Nat→Nat) (whole places free k more p cost:Sl):List (Str × Sl):=[("pieces",.val (.p (.lst (DX qs)))),("room",iv r),("near",.val (.p (.lst (aq (cJ near m))))),("far",.val (.p (.lst (aq (cJ ff m))))),("whole",whole),("places",places),("free",free),("k",k),("more",more),("p",p),("cost",cost)]
theorem yf {f:Nat→Nat} {k:Nat} (h:k<m):(cJ f m)[k]?=some (f (k+1)):=by
 unfold cJ;rw[bM,u0 h];rfl
theorem jM {f:Nat→Nat}:(cJ f m).length=m:=by unfold cJ;rw[aM,fK]
noncomputable def fb (P:ai):List Stmt:=qA ((fM P 888).2.getD 3 (.Pass default))
variable {whole places more p cost:Sl}
theorem L4 {k:Nat} (hm:m≤100) (hk:k<m) (hn:near (k+1)≤900) (hf:ff (k+1)≤900) (hl:(cN near ff k).length≤10000) :
  (ev P (n+20)).B (fM P 888).1.scope (fb P) ⟨lQ qs r m near ff whole places (.val (.obj T.length)) (iv k) more p cost,T++[.list (aq (cN near ff k))],.no⟩ = .ok .next ⟨lQ qs r m near ff whole places (.val (.obj T.length)) (iv k) more p cost,T++[.list (aq (cN near ff (k+1)))],.no⟩:=by
 have l1:=jM (m:=m) (f:=near);have l2:=jM (m:=m) (f:=ff);have i1:=cP (xs:=cJ near m);have i2:=cP (xs:=cJ ff m);have i3:=cP (xs:=cN near ff k);have i4:=cP (xs:=bg (near (k+1)) (ff (k+1)+1 - near (k+1)));rw[g5] at i4;refine eK (WX (k:=T.length) (xs:=aq (bg (near (k+1)) (ff (k+1)+1 - near (k+1)))) (by rfl') (b8 rfl rfl (fv:=.p (.ty "list")) (by rfl') (a1 rfl (v:=.p (.rj (near (k+1)) (ff (k+1)+1:Nat) 1)) (b8 rfl rfl (fv:=.p (.ty "range")) (by rfl') (ac rfl (v:=.p (.int (near (k+1)))) (iQ rfl (a:=.p (.lst (aq (cJ near m)))) (by rfl') (b:=.p (.int k)) (by rfl') (xr ⟨rfl,rfl⟩ rfl (pZ (yf hk)) (by exact Ko (zA i1) (zA l1) hm zC))) (a1 rfl (v:=.p (.int (ff (k+1)+1:Nat))) (ig rfl (a:=.p (.int (ff (k+1)))) (iQ rfl (a:=.p (.lst (aq (cJ ff m)))) (by rfl') (b:=.p (.int k)) (by rfl') (xr ⟨rfl,rfl⟩ rfl (pZ (yf hk)) (by exact Ko (zA i2) (zA l2) hm zC))) (b:=.p (.int 1)) (by rfl') (add_int (by exact tH (ff (k+1))))))) (by rfl'))) (Gb (by exact jj hn zC) (by exact uM (.g au (.n 900) .e) (.s au) (.n 1000) zC hf))) mE (by exact G7 (.g au aT (.g aE bX (.g aT (.n 10000) (.g bX (.s fh) (.g fh (.n 900) .e))))) (.a au aE) (.n 1048576) zC (zA i3) (zA i4) hl (aI _ _) hf) ?_);rw[qQ,sW];rfl
end
section
variable {P:ai} {n:Nat} {sc:bV} {σ σ1 σ2:St} {l l':List (Str × Sl)} {T X:List Ob} {r m:Nat} {qs:List (List Nat)} {near ff:Nat→Nat} {whole places more p cost:Sl}
set_option tactic.hygienic true in
theorem FO {k:Nat} (hf:∀ j,1≤j→j≤k→ff j≤50):(cN near ff k).length≤k*51:=by
 induction k with
 | zero=>exact aB _
 | succ k ih =>
  dsimp only [cN];have:=ih fun j h1 h2=>hf j h1 (by exact fR h2);have:=hf (k+1) (by exact fV 1 k) (by exact aB (k+1));rw[aO,g5,Nat.succ_mul]
  (rename_i nV;exact (xV (.g au (.r aT 51) (.g aE (.s bX) (.g bX (.n 50) .e))) (.a au aE) (.a (.r aT 51) (.n 51)) zC nV (aI _ _) this))
theorem L3 (hm:m≤100) (hn:∀ j,1≤j→j≤m→near j≤50) (hf:∀ j,1≤j→j≤m→ff j≤50):∀ (x k:Nat) (s:Sl),k+x=m→Fr s→∃ s',
  j0 "k" ((ev P (n+20)).B (fM P 888).1.scope (fb P)) ((bg k x).map Nz) ⟨lQ qs r m near ff whole places (.val (.obj T.length)) s more p cost,T++[.list (aq (cN near ff k))],.no⟩ = .ok .next ⟨lQ qs r m near ff whole places (.val (.obj T.length)) s' more p cost,T++[.list (aq (cN near ff m))],.no⟩:=by
 intro x;induction x with
 | zero =>
  intro k s hk _;rw[show k=m by exact hk];exact ⟨s,wY rfl⟩
 | succ x ih =>
  intro k s hk hs;refine eU (ih (k+1) (iv k) (by exact zQ (IG (zA hk)) (Ua (zG hk))) Fr.val) fun s' q=>?_;have fl:=FO (near:=near) (ff:=ff) (k:=k) fun j h1 h2=>hf j h1 (by exact xV (.g au aT (.g (.a aT (.s bX)) aE .e)) au aE zC h2 (zA hk));have h1:=hn (k+1) (by exact fV 1 k) (by exact Mq (zA hk));have h2:=hf (k+1) (by exact fV 1 k) (by exact Mq (zA hk));refine ⟨s',?_⟩;refine rV ?_ (L4 hm (by exact Mq (zA hk)) (by exact jj h1 zC) (by exact jj h2 zC) (by exact xV (.g au (.r aE 51) (.h 51 (.a aE (.s aT)) bX (.h 51 bX (.n 100) .e))) au (.n 10000) zC fl (zA hk) hm)) q;rcases hs with rfl | ⟨v,rfl⟩<;>rfl'
noncomputable def qb (P:ai):List Stmt:=qA ((fM P 888).2.getD 5 (.Pass default))
theorem Qm {k:Nat}:(DX qs).take k=DX (qs.take k):=by
 delta DX bD;rw[← gk,← gk]
theorem Ql {k:Nat}:(DX qs).drop k=DX (qs.drop k):=by
 delta DX bD;rw[← jE,← jE]
theorem DY:(DX qs).length=qs.length:=by unfold DX bD;rw[aM,aM]
theorem OG {rows:List (List Nat)}:(qs.foldl (lF r) rows).length≤rows.length+qs.length:=by
 induction qs generalizing rows with
 | nil=>exact aB _
 | cons q qs ih =>
  have h:(lF r rows q).length≤rows.length+1:=by
   rcases jJ rows with rfl | ⟨R,y,rfl⟩
   ·exact aB _
   ·rw[jI,oX]
    split<;>simp
  have:=ih (rows:=lF r rows q);exact xV (.g au (.a bX aT) (.g bX (.s aE) .e)) au (.a aE (.s aT)) zC this h
theorem DV:(cO r qs).length≤qs.length:=by
 have:=OG (r:=r) (qs:=qs) (rows:=[]);exact acy this
theorem I6 {FR ms:List Nat} {W k c:Nat} {ks:Sl} (hT:∀ o∈T,tL o) (hr:r≤500) (hq:∀ q∈qs,q≠[]∧q.length≤500∧∀ c,q.head?=some c→bz c=false) (hn:qs.length≤50) (XG:ms.length≤1000)
  (hc:c=if FR.contains k then 0 else 1) (BP:(cO r (qs.take k)).length+(cO r (qs.drop k)).length=W+c) (hcs:Fr cost) :
  (ev P (n+60)).B (fM P 888).1.scope (qb P) ⟨lQ qs r m near ff (iv W) places (.val (.obj T.length)) ks (.val (.obj (T.length+1))) (iv k) cost,T++[.list (aq FR),.list (aq ms)],.no⟩ = .ok .next ⟨lQ qs r m near ff (iv W) places (.val (.obj T.length)) ks (.val (.obj (T.length+1))) (iv k) (iv c),T++[.list (aq FR),.list (aq (ms++[k].filter fun k => !FR.contains k))],.no⟩:=by
 have hL:∀ o∈T++[.list (aq FR),.list (aq ms)],tL o:=B5 hT fun o ho=>by
  rcases av.mp ho with rfl | ho
  ·exact ⟨_,rfl⟩
  ·rw[bA.mp ho];exact ⟨_,rfl⟩
 have lp:=DY (qs:=qs);have lt:(bD (cO r (qs.take k))).length≤2 ^ 20∧(bD (cO r (qs.drop k))).length≤2 ^ 20:=by
  have a:=DV (r:=r) (qs:=qs.take k);have b:=DV (r:=r) (qs:=qs.drop k);rw[iK,iK];rw[cM] at a;rw[bT] at b;exact ⟨(Ko a (fE _ _) hn zC),(Ko b (aI _ _) hn zC)⟩
 have p1:=sE (P:=P) (n:=n+15) (l:=lQ qs r m near ff (iv W) places (.val (.obj T.length)) ks (.val (.obj (T.length+1))) (iv k) cost) (r:=r) (qs:=qs.take k) hL hr (fun q h=>hq q (j7 h)) (by rw[cM];exact sy (fE _ _) hn zC);have p2:=sE (P:=P) (n:=n+15) (l:=lQ qs r m near ff (iv W) places (.val (.obj T.length)) ks (.val (.obj (T.length+1))) (iv k) cost) (r:=r) (qs:=qs.drop k) hL hr (fun q h=>hq q (ug h)) (by rw[bT];exact sy (aI _ _) hn zC);have e1:=iK (R:=cO r (qs.take k));have e2:=iK (R:=cO r (qs.drop k));generalize cO r (qs.take k)=R1 at *;generalize cO r (qs.drop k)=R2 at *;refine aU (fD (σ2:=⟨lQ qs r m near ff (iv W) places (.val (.obj T.length)) ks (.val (.obj (T.length+1))) (iv k) (iv c),T++[.list (aq FR),.list (aq ms)],.no⟩) rfl rfl (v:=.p (.int c)) (ig rfl (a:=.p (.int ((bD R1).length+(bD R2).length:Nat))) (ig rfl (a:=.p (.int (bD R1).length)) (lI (by rfl') rfl (b8 rfl rfl (fv:=.p (.adr 859)) (by rfl') (ac rfl (v:=.p (.lst (DX (qs.take k)))) (mX (a:=.p (.lst (DX qs))) (by rfl') (l:=.p .none) (by rfl') (u:=.p (.int k)) (by rfl') (t:=.p .none) (by rfl') (rq (i:=none) (j:=some (k:Int)) (k:=none) rfl rfl rfl (by decide) (by exact sy (zA lp) hn zC) (by rw[Ah,Qm]))) (a1 rfl (v:=.p (.int r)) (by rfl'))) ((cR (by rfl')).trans p1)) lt.1)
   (b:=.p (.int (bD R2).length)) (lI (by rfl') rfl (b8 rfl rfl (fv:=.p (.adr 859)) (by rfl') (ac rfl (v:=.p (.lst (DX (qs.drop k)))) (mX (a:=.p (.lst (DX qs))) (by rfl') (l:=.p (.int k)) (by rfl') (u:=.p .none) (by rfl') (t:=.p .none) (by rfl') (rq (i:=some (k:Int)) (j:=none) (k:=none) rfl rfl rfl (by decide) (by exact sy (zA lp) hn zC) (by rw[Ag,Ql]))) (a1 rfl (v:=.p (.int r)) (by rfl'))) ((cR (by rfl')).trans p2)) lt.2) (add_int (by exact vX (bD R1).length (bD R2).length))) (b:=.p (.int W)) (by rfl') (sub_int (by exact zq (zI [↑(bD R1).length,↑(bD R2).length,↑W,↑c,↑R1.length,↑R2.length] 0 (.g bH (.var 4) (.g cQ (.var 5) (.g (.add (.var 4) (.var 5)) (.add jg vA) .e))) (.sub (.add bH cQ) jg) vA zC (zO (zA e1)) (zO (zA e2)) (zO (zA BP))) (zI [↑c,↑(bD R1).length,↑(bD R2).length,↑W,↑R1.length,↑R2.length] 0 (.g (.add vA bH) (.add (.var 4) (.var 5)) (.g (.var 4) cQ (.g (.var 5) jg .e))) bH (.sub (.add cQ jg) vA) zC (zO (zG BP)) (zO (zG e1)) (zO (zG e2)))))) (by rcases hcs with rfl | ⟨v,rfl⟩<;>rfl')) ?_
 have hint:∀ σ,jL (Kf P) (ev P (n+57)) (.p (.ty "int")) [.p (.bool (!FR.contains k))] [] σ = .ok (.p (.int c)) σ:=fun σ=>by rw[hc];cases FR.contains k<;>rfl'
 refine aU (nW (gW rfl (a:=.p (.int c)) (by rfl') (b:=.p (.int c)) (b8 rfl rfl (fv:=.p (.ty "int")) (by rfl') (a1 rfl (v:=.p (.bool (!FR.contains k))) (BE rfl (a:=.p (.int k)) (by rfl') (b:=.obj T.length) (by rfl') (uF (.inr ⟨_,rfl,mE⟩)))) (hint _)) ne_int ?_)) ?_
 ·skip
  rw[cY];rfl
 refine eK (UO (c:=c==1) (xA rfl (by rfl') (by rfl')) ?_);refine bC (FR.contains k) (fun hb=>?_) fun hb=>?_
 ·rw[hb,aA rfl] at hc
  subst hc;rw[gy (p:=fun k => !FR.contains k) (by rw[hb];exact bR),fm,cg];rfl
 ·rw[hb,aS bR] at hc
  subst hc;rw[iX (p:=fun k => !FR.contains k) (by rw[hb];rfl)];have i1:=cP (xs:=ms);refine eK ((w5 rfl ⟨rfl,rfl,by decide,rfl⟩ (k:=T.length+1) (by rfl') at2 rfl (x:=.int k) (by rfl') (by exact sy (zA i1) XG zC)).trans ?_);rw[ZV,fm,← sW];rfl
theorem I5 {FR:List Nat} {W:Nat} {ks:Sl} (hT:∀ o∈T,tL o) (hr:r≤500) (hq:∀ q∈qs,q≠[]∧q.length≤500∧∀ c,q.head?=some c→bz c=false) (hn:qs.length≤50)
  (BP:∀ k,0<k→k<qs.length→(cO r (qs.take k)).length+(cO r (qs.drop k)).length=W+if FR.contains k then 0 else 1):∀ (x k:Nat) (ms:List Nat) (s c:Sl),0<k→k+x≤qs.length→ms.length+x≤1000→Fr s→Fr c→∃ s' c',
  j0 "p" ((ev P (n+60)).B (fM P 888).1.scope (qb P)) ((bg k x).map Nz) ⟨lQ qs r m near ff (iv W) places (.val (.obj T.length)) ks (.val (.obj (T.length+1))) s c,T++[.list (aq FR),.list (aq ms)],.no⟩ = .ok .next ⟨lQ qs r m near ff (iv W) places (.val (.obj T.length)) ks (.val (.obj (T.length+1))) s' c',T++[.list (aq FR),.list (aq (ms++(bg k x).filter fun k => !FR.contains k))],.no⟩:=by
 intro x;induction x with
 | zero =>
  intro k ms s c _ _ _ _ _;refine (Y2 s c (?_));rw[yF,fm,cg];exact wY rfl
 | succ x ih =>
  intro k ms s c h0 hk XG hs hc;obtain ⟨s',c',q⟩:=ih (k+1) (ms++[k].filter fun k => !FR.contains k) (iv k) (iv (if FR.contains k then 0 else 1:Nat)) (by exact jc k) (by exact IG hk) (by
   have:=fj (fun k => !FR.contains k) [k];rw[aO];exact Yc XG this) Fr.val Fr.val
  have tn:=I6 (P:=P) (n:=n) (T:=T) (m:=m) (near:=near) (ff:=ff) (places:=places) (ks:=ks) (cost:=c) (k:=k) hT hr hq hn (by exact fS XG:ms.length≤1000) rfl (BP k h0 (by exact JG hk)) hc;refine (Y2 s' c' (?_));rw[dN,← gZ] at q;refine rV ?_ tn q;rcases hs with rfl | ⟨v,rfl⟩<;>rfl'
end
section
variable {P:ai} {n:Nat} {sc:bV} {σ σ1 σ2:St} {l l':List (Str × Sl)} {T X:List Ob} {r m:Nat} {qs:List (List Nat)} {near ff:Nat→Nat} {whole places more p cost:Sl}
theorem acA {f:Expr→Mo V} {e:Expr} {es:List Expr} {v:V} {vs:List V} (h0:isStar e=false) (h:f e σ = .ok v σ) (k:jD f es σ = .ok vs σ1):jD f (e :: es) σ = .ok (v :: vs) σ1:=Ac h0 h k
theorem S8 {f:Expr} {args:List Expr} {p:Pos} {fv:V} {us:List V} {res:Res V} (h0:qu f=none) (h1:noStar args=true) (h2:(ev P n).E sc f σ = .ok fv σ) (h3:jD ((ev P n).E sc) args σ = .ok us σ1) (k:jL (Kf P) (ev P n) fv us [] σ1=res):(ev P (n+1)).E sc (.Call f args [] p) σ=res:=CZ h0 h1 h2 h3 k
theorem Ov {k k':Nat} {x y:List Nat} {T:List Ob} (h1:T[k]?=some (.list (aq x))) (h2:T[k']?=some (.list (aq y))):tE ⟨l,T,.no⟩ (.tup [.obj k,.obj k'])=some (S7 x y):=by
 show (([V.obj k,V.obj k'].mapM (Xl ⟨l,T,.no⟩ 0)).map Mine.P.tup).bind r5=_;have f1:Xl ⟨l,T,.no⟩ 0 (.obj k)=some (.lst (aq x)):=by
  show ((T[k]?).bind tX).map Mine.P.lst=_;rw[h1];rfl
 have f2:Xl ⟨l,T,.no⟩ 0 (.obj k')=some (.lst (aq y)):=by
  show ((T[k']?).bind tX).map Mine.P.lst=_;rw[h2];rfl
 rw[j6,j6,List.mapM_nil,f1,f2];exact Dj x y
theorem Qp (hT:∀ o∈T,tL o) (hr:r≤500) (hq:∀ q∈qs,q≠[]∧q.length≤500∧∀ c,q.head?=some c→bz c=false) (hn:qs.length≤50) (hn0:0<qs.length) (hm:m≤10) (Iw:∀ j,1≤j→j≤m→near j≤50) (yj:∀ j,1≤j→j≤m→ff j≤50)
  (BP:∀ k,0<k→k<qs.length→(cO r (qs.take k)).length+(cO r (qs.drop k)).length=(cO r qs).length+if (cN near ff m).contains k then 0 else 1) (ab7:(cN near ff m).Pairwise (· < ·)) (RU:∀ x∈cN near ff m,0<x∧x<qs.length) :
  (ev P (n+80)).C 888 [.p (.lst (DX qs)),.p (.int r),.p (.lst (aq (cJ near m))),.p (.lst (aq (cJ ff m)))] [] ⟨l,T,.no⟩ = .ok (.p (.bool true)) ⟨l,T,.no⟩:=by
 have lp:=DY (qs:=qs);have lf:=jM (m:=m) (f:=ff);have i2:=cP (xs:=cJ ff m);have le:=iK (R:=cO r qs);have lpk:=DV (r:=r) (qs:=qs);have lfr:=FO (near:=near) (ff:=ff) (k:=m) yj;obtain ⟨W,hW⟩:∃ W,W=(bD (cO r qs)).length:=⟨_,rfl⟩;refine eU (L3 (P:=P) (n:=n+58) (T:=T) (r:=r) (qs:=qs) (whole:=iv W) (places:=.val (.p (.lst (aq (bg 1 (qs.length - 1)))))) (more:=.unset) (p:=.unset) (cost:=.unset) (by exact jj hm zC) Iw yj m 0 .unset (by exact fy m) (.inl rfl)) fun s1 f1=>?_;obtain ⟨s2,s3,f2⟩:=I5 (P:=P) (n:=n+18) (T:=T) (m:=m) (near:=near) (ff:=ff) (FR:=cN near ff m) (W:=W) (places:=.val (.p (.lst (aq (bg 1 (qs.length - 1)))))) (ks:=s1) hT hr hq hn (by rw[hW,le];exact BP) (qs.length - 1) 1 [] .unset .unset (by decide) (by exact acH (zB (RZ hn0))) (by rw[n9];exact oH (.g au aE (.g aE (.n 50) .e)) (.a gR au) (.n 1000) zC (aI _ _) hn) (.inl rfl) (.inl rfl);obtain ⟨ms,XG⟩:∃ ms,ms=(bg 1 (qs.length - 1)).filter fun k => !(cN near ff m).contains k:=⟨_,rfl⟩;rw[← XG] at f2;have hL:∀ o∈T++[.list (aq (cN near ff m)),.list (aq ms),.list []],tL o:=B5 hT fun o ho=>by
  rcases av.mp ho with rfl | ho
  ·exact ⟨_,rfl⟩
  ·rcases av.mp ho with rfl | ho
   ·exact ⟨_,rfl⟩
   ·rw[bA.mp ho];exact ⟨_,rfl⟩
 have ahC:sub (cN near ff m) (bg 1 (qs.length - 1))=[]:=by
  unfold sub;rw[List.filter_eq_nil_iff];intro x hx;rw[dM,xF,cS,iG];have:=RU x hx;exact ⟨(RZ this.1),(acJ this.2 (zS _ _))⟩
 have told:=Ra (P:=P) (n:=n+47) (T:=T++[.list (aq (cN near ff m)),.list (aq ms),.list []]) (E:=bg 1 (qs.length - 1)) (A:=cN near ff m) (snd:=.obj T.length) (due:=.tup [.obj (T.length+1),.obj (T.length+2)]) (l:=lQ qs r m near ff (iv W) (.val (.p (.lst (aq (bg 1 (qs.length - 1)))))) (.val (.obj T.length)) s1 (.val (.obj (T.length+1))) s2 s3) hL Hg ab7 (by rw[g5];exact sy (aI _ _) hn zC) (ay lfr (ay (uR 51 hm) (by decide))) (.inr ⟨_,rfl,mE⟩) (fun l=>by
  rw[ahC,show sub (bg 1 (qs.length - 1)) (cN near ff m)=ms from XG.symm];exact Ov Wv Wv)
 have pk:=sE (P:=P) (n:=n+36) (T:=T) (r:=r) (qs:=qs) (l:=lQ qs r m near ff .unset .unset .unset .unset .unset .unset .unset) hT hr hq (by exact jj hn zC);have e0:eS (Kf P) (ev P (n+79)) 888 [.p (.lst (DX qs)),.p (.int r),.p (.lst (aq (cJ near m))),.p (.lst (aq (cJ ff m)))] [] ⟨l,T,.no⟩=(ev P (n+79)).B (fM P 888).1.scope (fM P 888).2 ⟨lQ qs r m near ff .unset .unset .unset .unset .unset .unset .unset,T,.no⟩:=by rfl'
 refine uZ (X:=[.list (aq (cN near ff m)),.list (aq ms),.list []]) (fl:=.ret (.p (.bool true))) (l':=lQ qs r m near ff (iv W) (.val (.p (.lst (aq (bg 1 (qs.length - 1)))))) (.val (.obj T.length)) s1 (.val (.obj (T.length+1))) s2 s3) hT (e0.trans ?_) rfl;generalize cO r qs=R at *;refine aU (fD (σ2:=⟨lQ qs r m near ff (iv W) .unset .unset .unset .unset .unset .unset,T,.no⟩) rfl rfl (v:=.p (.int W)) (by rw[hW];exact lI (by rfl') rfl (b8 rfl rfl (fv:=.p (.adr 859)) (by rfl') (ac rfl (v:=.p (.lst (DX qs))) (by rfl') (a1 rfl (v:=.p (.int r)) (by rfl'))) ((cR (by rfl')).trans pk)) (by exact Ko (zA le) lpk hn zC)) (by rfl')) ?_;refine aU (fD (σ2:=⟨lQ qs r m near ff (iv W) (.val (.p (.lst (aq (bg 1 (qs.length - 1)))))) .unset .unset .unset .unset .unset,T,.no⟩) rfl rfl (v:=.p (.lst (aq (bg 1 (qs.length - 1))))) (b8 rfl rfl (fv:=.p (.ty "list")) (by rfl') (a1 rfl (v:=.p (.rj (1:Nat) (qs.length:Nat) 1)) (b8 rfl rfl (fv:=.p (.ty "range")) (by rfl') (ac rfl (v:=.p (.int 1)) (by rfl') (a1 rfl (v:=.p (.int qs.length)) ((lI (vs:=DX qs) (by rfl') rfl (by rfl') (by exact sy (zA lp) hn zC)).trans (by rw[lp])))) (by rfl'))) (Gb (by decide) (by exact jj hn zC))) (by rfl')) ?_;refine aU (oW rfl rfl (v:=.obj T.length) (σ1:=⟨lQ qs r m near ff (iv W) (.val (.p (.lst (aq (bg 1 (qs.length - 1)))))) .unset .unset .unset .unset .unset,T++[.list (aq (cN near ff 0))],.no⟩) (by rfl') (σ2:=⟨lQ qs r m near ff (iv W) (.val (.p (.lst (aq (bg 1 (qs.length - 1)))))) (.val (.obj T.length)) .unset .unset .unset .unset,T++[.list (aq (cN near ff 0))],.no⟩) (by rfl')) ?_;refine aU (yH rfl (u:=.p (.rj 0 m 1)) (b8 rfl rfl (fv:=.p (.ty "range")) (by rfl') (a1 rfl (v:=.p (.int m)) ((lI (vs:=aq (cJ ff m)) (by rfl') rfl (by rfl') (by exact Ko (zA i2) (zA lf) hm zC)).trans (by rw[i2,lf]))) (by rfl')) (vC (a:=0) (b:=m) rfl rfl (by exact d7 1000) (by exact jj hm zC)) f1) ?_;refine aU (oW rfl rfl (v:=.obj (T.length+1)) (σ1:=⟨lQ qs r m near ff (iv W) (.val (.p (.lst (aq (bg 1 (qs.length - 1)))))) (.val (.obj T.length)) s1 .unset .unset .unset,T++[.list (aq (cN near ff m)),.list (aq [])],.no⟩) ?_ (σ2:=⟨lQ qs r m near ff (iv W) (.val (.p (.lst (aq (bg 1 (qs.length - 1)))))) (.val (.obj T.length)) s1 (.val (.obj (T.length+1))) .unset .unset,T++[.list (aq (cN near ff m)),.list (aq [])],.no⟩) (by rfl')) ?_
 ·show Res.ok (V.obj (T++[Ob.list (aq (cN near ff m))]).length) ⟨_,T++[Ob.list (aq (cN near ff m))]++[.list []],_⟩=_
  rw[aO,dN];rfl
 refine aU (yH rfl (u:=.p (.lst (aq (bg 1 (qs.length - 1))))) (by rfl') rfl f2) ?_;refine kN (Bp (S8 rfl rfl (fv:=.p (.adr 881)) (by rfl') (acA rfl (v:=.p (.lst (aq (bg 1 (qs.length - 1))))) (by rfl') (acA rfl (v:=.obj T.length) (by rfl') ?_)) ((cR (by rfl')).trans told)));refine A1 rfl (v:=.tup [.obj (T.length+1),.obj (T.length+2)]) (rb (acA rfl (v:=.obj (T.length+1)) (by rfl') (A1 rfl (v:=.obj (T.length+2)) (σ1:=⟨lQ qs r m near ff (iv W) (.val (.p (.lst (aq (bg 1 (qs.length - 1)))))) (.val (.obj T.length)) s1 (.val (.obj (T.length+1))) s2 s3,T++[.list (aq (cN near ff m)),.list (aq ms),.list []],.no⟩) ?_)) rfl);show Res.ok (V.obj (T++[Ob.list (aq (cN near ff m)),.list (aq ms)]).length) ⟨_,T++[Ob.list (aq (cN near ff m)),.list (aq ms)]++[.list []],_⟩=_;rw[aO,dN];rfl
end
section
variable {P:ai} {n:Nat} {sc:bV} {σ σ1 σ2:St} {l l':List (Str × Sl)} {ns:List Int} {words room widths pieces uw ff near:Sl} {cc ch ct cs:Option V} {X:List Ob}
noncomputable def lZ (ns:List Int) (words room widths pieces uw ff near:Sl):List (Str × Sl):=[("script",.val (.p (.lst (ns.map Mine.P.int)))),("words",words),("room",room),("count",.cell 1),("widths",widths),("pieces",pieces),("heads",.cell 2),("turned",.cell 3),("fewest",uw),("far",ff),("near",near),("shared",.cell 4)]
noncomputable def zT (cc ch ct cs:Option V) (X:List Ob):List Ob:=.gone :: .cell cc :: .cell ch :: .cell ct :: .cell cs :: X
noncomputable def FN:List (List Nat):=[[61],[32],[98,32,98],[],[233],[39]]
noncomputable def zX:List Ob:=[.list (bD FN)]
theorem aab {x:Int} {loc:List (Str × Sl)}:∃ w,w∈d8∧(ev P (n+21)).C 830 [.p (.int x)] [] ⟨loc,zT none none none none [],.no⟩ = .ok (.p (.str (S w))) ⟨loc,zT none none none none [],.no⟩:=by
 refine bU (Nj (P:=P) (n:=n) (l:=loc) .gone (.cell none) (.cell none) (.cell none) (.cell none) x) fun m hm h=>?_;refine ⟨Lm x m,Ni x hm,uZ (T:=zT none none none none []) (X:=[.cell (some (.p (.int x)))]) ?_ h rfl⟩;intro o ho;rcases av.mp ho with rfl | ho
 ·exact fun k hk=>cL hk
 ·have:o = .cell none:=by
   simp only [av,ng,KZ,or_self] at ho;exact ho
  rw[this];exact fun _ _=>rfl
theorem Q0 {xs:List Int}:D8 (xs.map Mine.P.int)=some xs.sum:=(aK (Lw List.sum) (vh (f:=Mk) (g:=Mine.P.int) (k:=id) fun _ _=>rfl)).trans (by rw[List.map_id];rfl)
theorem L2:∀ w∈FN,w∈d8:=by decide +kernel
theorem Mr (hn:ns.length≤1000):∃ (ws:List (List Nat)) (r:Nat),(∀ w∈ws,w∈d8)∧6≤ws.length∧ws.length≤9∧r≤19∧∀ {res:Res Fl},
  (ev P (n+100)).B (fM P 893).1.scope ((fM P 893).2.drop 3) ⟨lZ ns (.val (.p (.lst (bD ws)))) (iv r) .unset .unset .unset .unset .unset,zT (some (.p (.int ws.length))) none none none zX,.no⟩=res →
  (ev P (n+100)).B (fM P 893).1.scope (fM P 893).2 ⟨lZ ns .unset .unset .unset .unset .unset .unset .unset,zT none none none none [],.no⟩=res:=by
 have hw:=fun x:Int=>aab (P:=P) (n:=n+75) (x:=x) (loc:=[(".0",.unset),("n",.val (.p (.int x)))]);refine eU (Classical.axiomOfChoice hw) fun wf hwf=>?_;obtain ⟨ws,hws⟩:∃ ws,ws=(ns.take 3).map wf++FN:=⟨_,rfl⟩;have h1:=pH ns.sum (show (0:Int)<12 by decide);have h2:=mH ns.sum (show (0:Int)<12 by decide);obtain ⟨r,hr⟩:∃ r:Nat,8+ns.sum.fmod 12=r:=⟨(8+ns.sum.fmod 12).toNat,(vY (uO (by decide) h2)).symm⟩;have hlen:ws.length=min 3 ns.length+6:=by
  rw[hws,aO,aM,cM];rfl
 have ls:=iK (R:=ws);refine (Y2 ws r ⟨fun w h=>?_,by exact oH (.g (.a aE (.n 6)) au .e) (.n 6) au zC (zG hlen),by exact oH (.g au (.a aE (.n 6)) (.g aE (.n 3) .e)) au (.n 9) zC (zA hlen) (jG _ _),by exact zU (zI [↑r,ns.sum.fmod 12] 0 (.g bH (.add (.num 8) cQ) (.g (.add cQ eB) (.num 12) .e)) bH (.num 19) zC (zg hr) h1),fun {res} k=>?_⟩)
 ·rw[hws] at h
  refine bJ (aj.mp h) (fun h=>?_) fun h=>?_
  ·refine bU (aX.mp h) fun x _ agj=>?_
   rw[← agj];exact (hwf x).1
  ·exact L2 w h
 ·have hsw:bD ws=((ns.take 3).map fun x=>.str (S (wf x)))++bD FN:=by
   rw[hws];unfold bD;rw[aV,bZ];rfl
  refine aU (oW (σ1:=⟨lZ ns .unset .unset .unset .unset .unset .unset .unset,zT none none none none zX,.no⟩) (σ2:=⟨lZ ns (.val (.p (.lst (bD ws)))) .unset .unset .unset .unset .unset .unset,zT none none none none zX,.no⟩) rfl rfl (v:=.p (.lst (bD ws)))
   (Jy rfl (σ1:=⟨lZ ns .unset .unset .unset .unset .unset .unset .unset,zT none none none none [],.no⟩) (a:=.p (.lst ((ns.take 3).map fun x=>.str (S (wf x))))) (rb (jl (x:="n") (u:=.p (.lst ((ns.take 3).map Mine.P.int))) (l:=[(".0",.unset),("n",.unset)]) (L:=fun v=>[(".0",.unset),("n",.val (.p v))]) (em:=Mine.P.int) (f:=fun x=>.str (S (wf x))) (vs:=(ns.take 3).map Mine.P.int) (xs:=ns.take 3) (nx:=fun i _=>some ((ns.take 3).map Mine.P.int)[i]?) rfl (by rfl') (by rfl') (mX (a:=.p (.lst (ns.map Mine.P.int))) (by rfl') (l:=.p .none) (by rfl') (u:=.p (.int 3)) (by rfl') (t:=.p .none) (by rfl') (rq (i:=none) (j:=some ((3:Nat):Int)) (k:=none) rfl rfl rfl (by decide) (by rw[aM];exact jj hn zC) (by rw[Ah,gk]))) rfl rfl (fun _ _=>rfl) (fun _=>by rfl') (fun _ _=>by rfl') (by rw[cM];exact jj (jG _ _) zC)
    (fun x _=>b8 rfl rfl (fv:=.p (.adr 830)) (by rfl') (a1 rfl (v:=.p (.int x)) (by rfl')) ((cR (by rfl')).trans (hwf x).2))) rfl)
    (b:=.obj 5) (σ2:=⟨lZ ns .unset .unset .unset .unset .unset .unset .unset,zT none none none none zX,.no⟩) (by rfl') (by
     rw[hsw];exact N8 (y:=bD FN) ⟨rfl,rfl⟩ rfl rfl (by rw[aM,cM,iK,show FN.length=6 from rfl];exact uM (.g au (.n 3) .e) (.a au (.n 6)) (.n 1048576) zC (jG _ _)))) (by rfl')) ?_
  refine aU (fD (σ2:=⟨lZ ns (.val (.p (.lst (bD ws)))) (iv r) .unset .unset .unset .unset .unset,zT none none none none zX,.no⟩) rfl rfl (v:=.p (.int r)) (ig rfl (a:=.p (.int 8)) (by rfl') (b:=.p (.int (ns.sum.fmod 12))) (ig rfl (a:=.p (.int ns.sum)) (b8 rfl rfl (fv:=.p (.bi "sum")) (by rfl') (a1 rfl (v:=.p (.lst (ns.map Mine.P.int))) (by rfl')) (Q2 Q0)) (b:=.p (.int 12)) (by rfl') rfl) (add_int hr)) (by rfl')) ?_;refine aU (fD (σ2:=⟨lZ ns (.val (.p (.lst (bD ws)))) (iv r) .unset .unset .unset .unset .unset,zT (some (.p (.int ws.length))) none none none zX,.no⟩) rfl rfl (v:=.p (.int ws.length)) ((lI (vs:=bD ws) (by rfl') rfl (by rfl') (by exact rM (.g au aE (.g aE (.a aT (.n 6)) (.g aT (.n 3) .e))) au (.n 1048576) zC (zA ls) (zA hlen) (jG _ _))).trans (by rw[ls])) (by rfl')) k
end
section
variable {P:ai} {n:Nat} {sc:bV} {σ σ1 σ2:St} {l l':List (Str × Sl)} {ns:List Int} {ws:List (List Nat)} {r:Nat} {words room widths pieces uw ff near:Sl} {cc ch ct cs:Option V} {X:List Ob}
theorem B6 {cc ch ct cs:Option Mine.P}:∀ o∈zT (cc.map V.p) (ch.map V.p) (ct.map V.p) (cs.map V.p) zX,tL o:=by
 have hc:∀ q:Option Mine.P,tL (.cell (q.map V.p)):=fun q=>by cases q<;>exact fun _ _=>rfl
 intro o ho;rcases av.mp ho with rfl | ho
 ·exact fun k hk=>cL hk
 rcases av.mp ho with rfl | ho
 ·exact hc _
 rcases av.mp ho with rfl | ho
 ·exact hc _
 rcases av.mp ho with rfl | ho
 ·exact hc _
 rcases av.mp ho with rfl | ho
 ·exact hc _
 rw[bA.mp ho];exact fun _ _=>rfl
theorem Nh (hw:∀ w∈ws,w∈d8):(ws.map eN).map aN=ws.map fO:=by
 rw[bZ];exact e9 fun w h=>(iD (hw w h)).2.1
theorem IK (hw:∀ w∈ws,w∈d8) (hn:ws.length≤9) {res:Res Fl}
  (k:(ev P (n+100)).B (fM P 893).1.scope ((fM P 893).2.drop 6) ⟨lZ ns (.val (.p (.lst (bD ws)))) (iv r) (.val (.p (.lst (aq (ws.map fO))))) (.val (.p (.lst (eY ws)))) .unset .unset .unset,zT (some (.p (.int ws.length))) none none none zX,.no⟩=res) :
  (ev P (n+100)).B (fM P 893).1.scope ((fM P 893).2.drop 3) ⟨lZ ns (.val (.p (.lst (bD ws)))) (iv r) .unset .unset .unset .unset .unset,zT (some (.p (.int ws.length))) none none none zX,.no⟩=res:=by
 have low:=B6 (cc:=some (.int ws.length)) (ch:=none) (ct:=none) (cs:=none);have ls:=iK (R:=ws);have Iz:eY ws=ws.map fun w=>Mine.P.str (S (32 :: eN w)):=by
  delta eY bD;rw[bZ,bZ];rfl
 have hww:aq (ws.map fO)=ws.map fun w=>Mine.P.int (fO w):=by
  unfold aq;rw[bZ];rfl
 refine aU (C7 (σ1:=⟨lZ ns (.val (.p (.lst (bD ws)))) (iv r) .unset .unset .unset .unset .unset,zT (some (.p (.int ws.length))) none none none zX,.no⟩) (jl (x:="word") (u:=.p (.lst (bD ws))) (l:=[(".0",.unset),("word",.unset)]) (L:=fun v=>[(".0",.unset),("word",.val (.p v))]) (em:=emS) (f:=fun w=>.int (fO w)) (vs:=bD ws) (xs:=ws) (nx:=fun i _=>some (bD ws)[i]?) rfl (by rfl') (by rfl') (by rfl') rfl rfl (fun _ _=>rfl) (fun _=>by rfl') (fun _ _=>by rfl') (by exact jj hn zC)
  (fun w h=>b8 rfl rfl (fv:=.p (.adr 835)) (by rfl') (a1 rfl (v:=.p (.str (S w))) (by rfl')) ((cR (by rfl')).trans (U9 (n:=n+85) low (hw w h))))) (σ2:=⟨lZ ns (.val (.p (.lst (bD ws)))) (iv r) (.val (.p (.lst (aq (ws.map fO))))) .unset .unset .unset .unset,zT (some (.p (.int ws.length))) none none none zX,.no⟩) (by rw[hww];rfl')) ?_
 refine aU (C7 (σ1:=⟨lZ ns (.val (.p (.lst (bD ws)))) (iv r) (.val (.p (.lst (aq (ws.map fO))))) .unset .unset .unset .unset,zT (some (.p (.int ws.length))) none none none zX,.no⟩) (jl (x:="word") (u:=.p (.lst (bD ws))) (l:=[(".0",.unset),("word",.unset)]) (L:=fun v=>[(".0",.unset),("word",.val (.p v))]) (em:=emS) (f:=fun w=>.str (S (32 :: eN w))) (vs:=bD ws) (xs:=ws) (nx:=fun i _=>some (bD ws)[i]?) rfl (by rfl') (by rfl') (by rfl') rfl rfl (fun _ _=>rfl) (fun _=>by rfl') (fun _ _=>by rfl') (by exact jj hn zC) ?_) (σ2:=⟨lZ ns (.val (.p (.lst (bD ws)))) (iv r) (.val (.p (.lst (aq (ws.map fO))))) (.val (.p (.lst (eY ws)))) .unset .unset .unset,zT (some (.p (.int ws.length))) none none none zX,.no⟩) (by rw[Iz];rfl')) ?_
 ·intro w h
  refine X05 (iD (hw w h)) fun hg hl h40 _ _=>?_;have hq:=qe w (hw w h);unfold eN at hl;exact ig rfl (a:=.p (.str (S [32]))) (by rfl') (b:=.p (.str (S (eN w)))) (b8 rfl rfl (fv:=.p (.adr 95)) (by rfl') (ac rfl (v:=.p (.str (S (b9 w)))) (b8 rfl rfl (fv:=.p (.adr 818)) (by rfl') (a1 rfl (v:=.p (.str (S w))) (by rfl')) ((cR (by rfl')).trans (K3 (n:=n+83) (hw w h) (by rfl')))) (a1 rfl (v:=.p (.int 500)) (by rfl'))) ((cR (by rfl')).trans (Fz (n:=n+76) low hg (by exact sy (zA hl) h40 zC) (by exact jj hq zC)))) (VC (by unfold eN;simp;exact oH (.g au aE (.g aE (.n 40) .e)) (.a jr au) (.n 1048576) zC (zA hl) h40))
 refine aU (nW (gW rfl (a:=.p (.lst (ws.map fun w=>.int (32 :: eN w).length))) (rb (jl (x:="piece") (u:=.p (.lst (eY ws))) (l:=[(".0",.unset),("piece",.unset)]) (L:=fun v=>[(".0",.unset),("piece",.val (.p v))]) (em:=fun w=>.str (S (32 :: eN w))) (f:=fun w=>.int (32 :: eN w).length) (vs:=eY ws) (xs:=ws) (nx:=fun i _=>some (eY ws)[i]?) rfl (by rfl') (by rfl') (by rfl') Iz rfl (fun _ _=>rfl) (fun _=>by rfl') (fun _ _=>by rfl') (ay hn (by decide))
   (fun w h=>b8 rfl rfl (fv:=.p (.bi "len")) (by rfl') (a1 rfl (v:=.p (.str (S (32 :: eN w)))) (by rfl')) (zR (by have:=(iD (hw w h)).2;simp;exact sy (zA this.1) this.2.1 zC)))) rfl)
  (b:=.p (.lst (ws.map fun w=>.int (fO w+1)))) (rb (jl (x:="width") (u:=.p (.lst (aq (ws.map fO)))) (l:=[(".0",.unset),("width",.unset)]) (L:=fun v=>[(".0",.unset),("width",.val (.p v))]) (em:=fun w=>.int (fO w)) (f:=fun w=>.int (fO w+1)) (vs:=aq (ws.map fO)) (xs:=ws) (nx:=fun i _=>some (aq (ws.map fO))[i]?) rfl (by rfl') (by rfl') (by rfl') hww rfl (fun _ _=>rfl) (fun _=>by rfl') (fun _ _=>by rfl') (ay hn (by decide))
   (fun w h=>ig rfl (a:=.p (.int (fO w))) (by rfl') (b:=.p (.int 1)) (by rfl') rfl)) rfl)
  (KA (d:=.list ((ws.map fun w=>fO w+1).map fun (x:Nat)=>.int x)) ?_ ?_ (lay_ints _) (by decide)) rfl)) k
 ·rw[show (ws.map fun w=>Mine.P.int (32 :: eN w).length)=aq (ws.map fun w=>fO w+1) by
   unfold aq;rw[bZ];refine e9 fun w h=>?_;have e:=(iD (hw w h)).2.1;show Mine.P.int (((eN w).length+1:Nat):Int) = .int ((fO w+1:Nat):Int);rw[e]]
  exact lN _
 ·rw[show (ws.map fun w=>Mine.P.int ((fO w:Int)+1))=aq (ws.map fun w=>fO w+1) by
   unfold aq;rw[bZ];rfl]
  exact lN _
end
section
variable {P:ai} {n:Nat} {sc:bV} {σ σ1 σ2:St} {l l':List (Str × Sl)} {ns:List Int} {wd:List Nat} {r N:Nat} {words room widths pieces uw ff near:Sl} {cc ch ct cs:Option V} {X:List Ob}
theorem BU {xs:List Nat}:(aq xs).reverse=aq xs.reverse:=gQ.symm
theorem L1 {f:Nat→Nat} {m:Nat}:((bg 1 m).map fun k=>Mine.P.int (f k))=aq (cJ f m):=by
 delta aq cJ;rw[EN,bZ,bZ];refine e9 fun k _=>?_;show Mine.P.int (f (1+k)) = .int (f (k+1));rw[gI]
noncomputable def ED (wd:List Nat) (r:Nat):Mine.P:=.lst (dc (bO (eV wd r) wd.length))
noncomputable def Jo (wd:List Nat) (r:Nat):Mine.P:=.lst (dc (bO (eV wd.reverse r) wd.length))
noncomputable def fN (wd:List Nat) (r:Nat):Nat:=hF (eV wd r) wd.length
noncomputable def pA (wd:List Nat) (r:Nat):Nat→Nat:=qz wd.length (hF (eV wd r))
noncomputable def nearF (wd:List Nat) (r:Nat):Nat→Nat:=kY wd.length (hF (eV wd r)) (hF (eV wd.reverse r))
theorem Qv {a:Nat} (h:a≤1000):jL (Kf P) (ev P n) (.p (.ty "range")) [.p (.int a),.p (.int 0),.p (.int (-1))] [] σ = .ok (.p (.rj a 0 (-1))) σ:=by
 show (if (-1:Int) = -1∧-(2 ^ 29)≤(0:Int) - (a:Int)∧(0:Int) - (a:Int)≤2 ^ 29 then (pure (V.p (.rj a 0 (-1))):Mo V) else Mo.fail) σ=_;rw[aA ⟨rfl,by rw[show (2:Int) ^ 29=536870912 from by decide];exact zI [↑a] 0 (.g bH (.num 1000) .e) (.num (-536870912)) (.sub i6 bH) zC (zO h),by rw[show (2:Int) ^ 29=536870912 from by decide];exact zI [↑a] 0 (.g i6 bH .e) (.sub i6 bH) (.num 536870912) zC (zW _)⟩];rfl
theorem QG {a:Nat} (h:a≤1000):srcOf (.p (.rj a 0 (-1))) σ=some (fun i _=>some ((b4 a).map fun (i:Nat)=>Mine.P.int ((a:Int) - i))[i]?,((b4 a).map fun (i:Nat)=>Mine.P.int ((a:Int) - i)).length):=by
 have e:sF a 0 (-1)=some ((b4 a).map fun (i:Nat)=>Mine.P.int ((a:Int) - i)):=by
  unfold sF;rw[aA (by rw[show (2:Int) ^ 60=1152921504606846976 from by decide];exact ⟨(zI [↑a] 0 (.g i6 bH .e) (.num (-1152921504606846976)) bH zC (zW _)),⟨(zI [↑a] 0 (.g bH (.num 1000) .e) bH (.num 1152921504606846976) zC (zO h)),⟨(zI [] 0 .e (.num (-1152921504606846976)) i6 zC ),(zI [] 0 .e i6 (.num 1152921504606846976) zC )⟩⟩⟩),aS (by decide),aA rfl,Jz,Int.toNat_natCast]
 show (sF a 0 (-1)).map _=_;rw[e];rfl
set_option tactic.hygienic true in
theorem IL (hn:wd.length=N) (h9:N≤9) (h0:0<N) {res:Res Fl}
  (k:(ev P (n+100)).B (fM P 893).1.scope ((fM P 893).2.drop 11) ⟨lZ ns words (iv r) (.val (.p (.lst (aq wd)))) pieces (iv (fN wd r)) (.val (.p (.lst (aq (cJ (pA wd r) (fN wd r - 1)))))) (.val (.p (.lst (aq (cJ (nearF wd r) (fN wd r - 1)))))),zT (some (.p (.int N))) (some (.p (ED wd r))) (some (.p (Jo wd r))) none zX,.no⟩=res) :
  (ev P (n+100)).B (fM P 893).1.scope ((fM P 893).2.drop 6) ⟨lZ ns words (iv r) (.val (.p (.lst (aq wd)))) pieces .unset .unset .unset,zT (some (.p (.int N))) none none none zX,.no⟩=res:=by
 subst hn;have T:=two wd r;have hD:=T.D;have hFn:fN wd r≤wd.length:=by
  have:∀ p,p≤wd.length→hF (eV wd r) p≤p:=by
   intro p;induction p with
   | zero=>intro _;rw[hD.f0];exact aB _
   | succ p ih=>intro hp;have:=ih (by exact bk hp);have:=hD.up1 T.M (p:=p) (by exact hp);(rename_i nV;exact (T7 this nV))
  exact this _ (aB _)
 have lw:=cP (xs:=wd);have l1:=qT (ok:=eV wd r) (m:=wd.length);have l2:=qT (ok:=eV wd.reverse r) (m:=wd.length);have h2:=J8 (P:=P) (n:=n+48) (ws:=wd.reverse) (r:=r) (l:=lZ ns words (iv r) (.val (.p (.lst (aq wd)))) pieces .unset .unset .unset) (B6 (cc:=some (.int wd.length)) (ch:=some (ED wd r)) (ct:=none) (cs:=none)) (by rw[cV];exact jj h9 zC);rw[cV] at h2;refine aU (fD (σ2:=⟨lZ ns words (iv r) (.val (.p (.lst (aq wd)))) pieces .unset .unset .unset,zT (some (.p (.int wd.length))) (some (.p (ED wd r))) none none zX,.no⟩) rfl rfl (b8 rfl rfl (fv:=.p (.adr 840)) (by rfl') (ac rfl (v:=.p (.lst (aq wd))) (by rfl') (a1 rfl (v:=.p (.int r)) (by rfl'))) ((cR (by rfl')).trans (J8 (n:=n+48) (B6 (cc:=some (.int wd.length)) (ch:=none) (ct:=none) (cs:=none)) (by exact jj h9 zC)))) (by rfl')) ?_;refine aU (fD (σ2:=⟨lZ ns words (iv r) (.val (.p (.lst (aq wd)))) pieces .unset .unset .unset,zT (some (.p (.int wd.length))) (some (.p (ED wd r))) (some (.p (Jo wd r))) none zX,.no⟩) rfl rfl (b8 rfl rfl (fv:=.p (.adr 840)) (by rfl') (ac rfl (v:=.p (.lst (aq wd.reverse))) (mX (a:=.p (.lst (aq wd))) (by rfl') (l:=.p .none) (by rfl') (u:=.p .none) (by rfl') (t:=.p (.int (-1))) (by rfl') (rq (i:=none) (j:=none) (k:=some (-1)) rfl rfl rfl (by decide) (by exact sy (zA lw) h9 zC) (by rw[qc,BU]))) (a1 rfl (v:=.p (.int r)) (by rfl'))) ((cR (by rfl')).trans h2)) (by rfl')) ?_;refine aU (fD (σ2:=⟨lZ ns words (iv r) (.val (.p (.lst (aq wd)))) pieces (iv (fN wd r)) .unset .unset,zT (some (.p (.int wd.length))) (some (.p (ED wd r))) (some (.p (Jo wd r))) none zX,.no⟩) rfl rfl (r9 rfl (a:=.p (ED wd r)) (by rfl') (by rfl') ⟨rfl,rfl⟩ rfl (sH (aB _)) (by exact vF (zA l1) h9 zC)) (by rfl')) ?_;refine aU (C7 (σ1:=⟨lZ ns words (iv r) (.val (.p (.lst (aq wd)))) pieces (iv (fN wd r)) .unset .unset,zT (some (.p (.int wd.length))) (some (.p (ED wd r))) (some (.p (Jo wd r))) none zX,.no⟩) (jl (x:="k") (u:=.p (.rj 1 (fN wd r) 1)) (l:=[(".0",.unset),("k",.unset),("heads",.cell 2)]) (L:=fun v=>[(".0",.unset),("k",.val (.p v)),("heads",.cell 2)]) (em:=Nz) (f:=fun k=>.int (pA wd r k)) (vs:=qO (1:Nat) (fN wd r:Nat)) (xs:=bg 1 (fN wd r - 1)) (nx:=fun i _=>some (qO (1:Nat) (fN wd r:Nat))[i]?) rfl (by rfl') (by rfl') (b8 rfl rfl (fv:=.p (.ty "range")) (by rfl') (ac rfl (v:=.p (.int 1)) (by rfl') (a1 rfl (v:=.p (.int (fN wd r))) (by rfl'))) (by rfl')) vO (D5 (by decide) (by exact sy hFn h9 zC) rfl rfl) (fun _ _=>rfl) (fun _=>by rfl') (fun _ _=>by rfl') (by rw[g5];exact Ko (aI _ _) hFn h9 zC) ?_) (σ2:=⟨lZ ns words (iv r) (.val (.p (.lst (aq wd)))) pieces (iv (fN wd r)) (.val (.p (.lst (aq (cJ (pA wd r) (fN wd r - 1)))))) .unset,zT (some (.p (.int wd.length))) (some (.p (ED wd r))) (some (.p (Jo wd r))) none zX,.no⟩) (by rw[L1];rfl')) ?_
 ·intro k hk
  rw[iG] at hk;exact b8 rfl rfl (fv:=.p (.adr 845)) (by rfl') (ac rfl (v:=.p (ED wd r)) (by rfl') (a1 rfl (v:=.p (.int k)) (by rfl'))) ((cR (by rfl')).trans (Px (n:=n+68) (B6 (cc:=some (.int wd.length)) (ch:=some (ED wd r)) (ct:=some (Jo wd r)) (cs:=none)) (by exact jj h9 zC) (hD.some T.M (show k≤fN wd r by exact rM (.g (.s au) (.a jr aT) (.g aT aE .e)) au aE zC hk.2 (aI _ _)))))
 refine aU (C7 (σ1:=⟨lZ ns words (iv r) (.val (.p (.lst (aq wd)))) pieces (iv (fN wd r)) (.val (.p (.lst (aq (cJ (pA wd r) (fN wd r - 1)))))) .unset,zT (some (.p (.int wd.length))) (some (.p (ED wd r))) (some (.p (Jo wd r))) none zX,.no⟩) (jl (x:="k") (u:=.p (.rj (fN wd r - 1:Nat) 0 (-1))) (l:=[(".0",.unset),("k",.unset),("count",.cell 1),("turned",.cell 3)]) (L:=fun v=>[(".0",.unset),("k",.val (.p v)),("count",.cell 1),("turned",.cell 3)]) (em:=fun (i:Nat)=>.int ((fN wd r - 1:Nat) - (i:Int))) (f:=fun i=>.int (nearF wd r (i+1))) (xs:=b4 (fN wd r - 1)) rfl (by rfl') (by rfl') (b8 rfl rfl (fv:=.p (.ty "range")) (by rfl') (ac rfl (v:=.p (.int (fN wd r - 1:Nat))) (ig rfl (a:=.p (.int (fN wd r))) (by rfl') (b:=.p (.int 1)) (by rfl') (sub_int ?ahb)) (ac rfl (v:=.p (.int 0)) (by rfl') (a1 rfl (v:=.p (.int (-1))) (by rfl')))) (Qv (by exact Ko (aI _ _) hFn h9 zC))) rfl (QG (by exact Ko (aI _ _) hFn h9 zC)) (fun _ _=>rfl) (fun _=>by rfl') (fun _ _=>by rfl') (by rw[fK];exact Ko (aI _ _) hFn h9 zC) ?_) (σ2:=⟨lZ ns words (iv r) (.val (.p (.lst (aq wd)))) pieces (iv (fN wd r)) (.val (.p (.lst (aq (cJ (pA wd r) (fN wd r - 1)))))) (.val (.p (.lst (aq (cJ (nearF wd r) (fN wd r - 1)))))),zT (some (.p (.int wd.length))) (some (.p (ED wd r))) (some (.p (Jo wd r))) none zX,.no⟩) ?_) k;case ahb =>
  have:=hD.pos (p:=wd.length) h0 (aB _);exact zq (zI [↑(hF (eV wd r) wd.length),↑(hF (eV wd r) wd.length - 1)] 0 (.g bH (.add cQ eB) .e) (.sub bH eB) cQ zC (zO (zS _ _))) (zI [↑(hF (eV wd r) wd.length - 1),↑(hF (eV wd r) wd.length)] 0 (.g (.add bH eB) cQ .e) bH (.sub cQ eB) zC (zO (zB (zU (zI [↑(hF (eV wd r) wd.length)] 0 (.g (.add i6 eB) bH .e) eB bH zC (zO this))))))
 ·intro i hi
  rw[dF] at hi;have hl:=(T.sA (k:=i+1)).2;have zh:=T.D'.m5 T.M' (k:=fN wd r - (i+1)) (by rw[T.N];exact aI _ _);refine ig rfl (a:=.p (.int wd.length)) (by rfl') (b:=.p (.int (m5 (hF (eV wd.reverse r)) wd.length (fN wd r - (i+1)):Nat))) (b8 rfl rfl (fv:=.p (.adr 845)) (by rfl') (ac rfl (v:=.p (Jo wd r)) (by rfl') (a1 rfl (v:=.p (.int (fN wd r - (i+1):Nat))) ?_)) ((cR (by rfl')).trans (Px (n:=n+67) (B6 (cc:=some (.int wd.length)) (ch:=some (ED wd r)) (ct:=some (Jo wd r)) (cs:=none)) (by exact jj h9 zC) (T.D'.some T.M' (by rw[T.N];exact aI _ _))))) (sub_int ?_)
  ·rw[show ((fN wd r - (i+1):Nat):Int)=((fN wd r - 1:Nat):Int) - (i:Int) by exact zq (zI [↑(fN wd r - (i+1)),↑(fN wd r - 1),↑i,↑(fN wd r)] 0 (.g (.add bH (.add jg eB)) vA (.g vA (.add cQ eB) .e)) bH (.sub cQ jg) zC (zO (zB (zU (zI [↑i,↑(fN wd r),↑(fN wd r - 1)] 0 (.g (.add bH eB) jg (.g jg cQ .e)) (.add bH eB) cQ zC (zO hi) (zO (aI _ _)))))) (zO (zS _ _))) (zI [↑(fN wd r - 1),↑i,↑(fN wd r - (i+1)),↑(fN wd r)] 0 (.g (.add bH eB) vA (.g vA (.add jg (.add cQ eB)) .e)) (.sub bH cQ) jg zC (zO (zB (zU (zI [↑(fN wd r),↑(fN wd r - 1),↑i] 0 (.g cQ bH (.g (.add jg eB) cQ (.g i6 jg .e))) eB bH zC (zO (aI _ _)) (zO hi) (zW _))))) (zO (zS _ _)))]
   rfl'
  ·have:=zh.1
   show (wd.length:Int) - _=((wd.length - m5 (hF (eV wd.reverse r)) wd.length (fN wd r - (i+1)):Nat):Int);exact iI (Int.ofNat_sub this)
 ·rw[show ((b4 (fN wd r - 1)).map fun i=>Mine.P.int (nearF wd r (i+1)))=aq (cJ (nearF wd r) (fN wd r - 1)) by
   delta aq cJ;rw[bZ];rfl]
  rfl'
end
section
variable {P:ai} {n:Nat} {ns:List Int} {ws:List (List Nat)} {r m N:Nat} {α : Type}
theorem K7 {l:List α} {es:List Nat} (h:(0 :: (es++[l.length])).Pairwise (· < ·)):∀ run∈cutAt l es,run≠[]:=by
 intro run hr;rw[wm] at hr;refine bU (aX.mp hr) fun k hk agk=>?_;rw[← agk];rw[dF] at hk;have a1:=Dd (es:=es) (n:=l.length) (k:=k) (by exact qt hk);have a2:=Dd (es:=es) (n:=l.length) (k:=k+1) (by exact uQ hk 1);have lt:HP es l.length k<HP es l.length (k+1):=by
  refine eU (az.mp a1) fun h1 e1=>?_;refine eU (az.mp a2) fun h2 e2=>?_;rw[← e1,← e2];exact List.pairwise_iff_getElem.mp h k (k+1) h1 h2 (dJ k)
 have le:HP es l.length (k+1)≤l.length:=by
  have hm:=bf a2;refine bJ (av.mp hm) (fun q=>?_) fun q=>?_
  ·exact Pq (zA q)
  ·rcases aj.mp q with q | q
   ·rw[wc,uh] at h
    exact jw (h.2.2.2 _ q _ (.head _))
   ·rw[bA.mp q]
    exact aB _
 intro e;have:=aK aN e;rw[cM,bT,n9] at this;exact mnI lt le this
theorem E0 {f:Nat→Nat} (h1:∀ j,1≤j→j≤m→0<f j∧f j<N) (h2:∀ j k,1≤j→j<k→k≤m→f j<f k) (h0:0<N):(0 :: (cJ f m++[N])).Pairwise (· < ·):=by
 rw[wc,uh];have hm:∀ x∈cJ f m,0<x∧x<N:=fun x hx=>by
  refine nv (p7.mp hx) fun k a b agl=>?_;obtain rfl:=agl;exact h1 k a b
 refine ⟨fun x hx=>?_,wA h2,List.pairwise_singleton ..,fun x hx y hy=>?_⟩
 ·refine bJ (aj.mp hx) (fun q=>?_) fun q=>?_
  ·exact (hm x q).1
  ·rw[bA.mp q];exact h0
 ·rw[bA.mp hy]
  exact (hm x hx).2
section
variable {qs:List (List Nat)}
theorem G0:v7 qs.length (eV (qs.map aN) r) (eV (qs.map aN).reverse r) (hF (eV (qs.map aN) r)) (hW (eV (qs.map aN) r)) (hF (eV (qs.map aN).reverse r)) (hW (eV (qs.map aN).reverse r)):=by
 have T:=two (qs.map aN) r
 rwa [aM] at T
theorem yq:(qs.map aN).length=qs.length:=aM ..
theorem JW (h0:0<qs.length):cO r qs=(cutAt qs (cJ (pA (qs.map aN) r) (fN (qs.map aN) r - 1))).map eL:=by
 have T:=G0 (qs:=qs) (r:=r);have e:=CG (r:=r) (qs:=qs) (n:=qs.length) (aB _) qs.length h0 (aB _) (pA (qs.map aN) r) fun k _ h=>by
  unfold pA;rw[yq];exact T.ff (by exact bk h)
 rw[dG] at e;unfold fN;rw[yq];exact e
theorem FH (h0:0<qs.length):(0 :: (cJ (pA (qs.map aN) r) (fN (qs.map aN) r - 1)++[qs.length])).Pairwise (· < ·):=by
 have T:=G0 (qs:=qs) (r:=r);delta pA fN;rw[yq];exact E0 (fun j h1 h2=>T.yW h1 (by exact Ey h2 (zB (Kn h1 h2 (aI _ _))))) (fun j k h1 h2 h3=>T.H9 h1 h2 (by exact Ey h3 (zB (Yd h2 h3 (aI _ _))))) h0
theorem CX:(cJ (nearF (qs.map aN) r) (fN (qs.map aN) r - 1)).reverse.map (fun p=>qs.length - p)=cJ (pA (qs.reverse.map aN) r) (fN (qs.reverse.map aN) r - 1):=by
 have T:=G0 (qs:=qs) (r:=r);have hN:=T.N;rw[show qs.reverse.map aN=(qs.map aN).reverse from gQ];delta fN pA nearF qz kY;rw[cV,yq,hN];refine qi fun i=>?_;by_cases hi:i<hF (eV (qs.map aN) r) qs.length - 1
 ·rw[bM,JB (by rw[jM];exact hi),jM,yf (by exact Nat.sub_one_sub_lt_of_lt hi),yf hi]
  have hl:=(T.D'.m5 T.M' (k:=i+1) (by rw[hN];exact XY hi (aI _ _))).1;show some _=some _;congr 1;rw[show hF (eV (qs.map aN) r) qs.length - (hF (eV (qs.map aN) r) qs.length - 1 - 1 - i+1)=i+1 from rvI hi];exact rS hl
 ·rw[cC.mpr (by rw[aM,cV,jM];exact rR hi),cC.mpr (by rw[jM];exact rR hi)]
end
end
section
variable {P:ai} {n:Nat} {sc:bV} {σ σ1 σ2:St} {l:List (Str × Sl)} {ns:List Int} {ws:List (List Nat)} {r m N:Nat} {widths uw:Sl}
theorem HD {f:Expr} {args:List Expr} {p:Pos} (h:(ev P n).E sc (.Call f args [] p) σ = .ok (.p (.bool true)) σ):(ev P (n+1)).T sc (.Call f args [] p) σ = .ok true σ:=by
 show Nd (Kf P) (ev P n) sc (.Call f args [] p) σ=_;exact rb h rfl
theorem CQ {xs:List (List Nat)}:(bD xs).reverse=bD xs.reverse:=gQ.symm
theorem I4:(eY ws).reverse=eY ws.reverse:=by
 unfold eY;rw[CQ,← gQ,← gQ]
theorem Ai:eY ws=DX (ws.map eN):=rfl
theorem JY {A B C:List Nat} (h:∀ x∈A,(x∈B↔x∈C)):A.filter (fun x => !C.contains x)=sub A B:=by
 refine ki fun x hx=>?_;rw[k9,dM,dM,← rA,← rA,cS,cS,h x hx]
section
variable {qs:List (List Nat)}
noncomputable def kG (qs:List (List Nat)):List Nat:=qs.map aN
theorem tg:(kG qs).length=qs.length:=aM ..
noncomputable def MW (wd:List Nat) (r:Nat):List Nat:=(bg 1 (wd.length - 1)).filter (QC (eV wd r) (eV wd.reverse r) wd.length)
theorem QD {wd:List Nat} {x:Nat}:x∈MW wd r↔s8 wd.length (hF (eV wd r)) (hW (eV wd r)) (hF (eV wd.reverse r)) (hW (eV wd.reverse r)) x=true:=by
 delta MW s8 QC;rw[gB,iG,aR (decide _),br];constructor
 ·rintro ⟨h,q⟩
  exact ⟨by exact ⟨(uM (.g jr au .e) (.s gR) au zC h.1),(rM (.g (.s au) (.a jr aT) (.g (.a aT jr) aE .e)) (.s au) aE zC h.2 (zB (rM (.g jr aE (.g (.s aE) (.a jr aT) (.g aT au .e))) jr au zC h.1 h.2 (aI _ _))))⟩,q⟩
 ·rintro ⟨h,q⟩
  exact ⟨by exact ⟨(RZ h.1),(acJ h.2 (zS _ _))⟩,q⟩
end
set_option tactic.hygienic true in
theorem VL {qs:List (List Nat)}:fN (kG qs) r≤qs.length:=by
 have T:=G0 (qs:=qs) (r:=r);have:∀ p,p≤qs.length→hF (eV (qs.map aN) r) p≤p:=by
  intro p;induction p with
  | zero=>intro _;rw[T.D.f0];exact aB _
  | succ p ih=>intro hp;have:=ih (by exact bk hp);have:=T.D.up1 T.M (p:=p) (by exact hp);(rename_i nV;exact (T7 this nV))
 unfold fN;rw[tg];exact this _ (aB _)
noncomputable def nL (qs:List (List Nat)) (r:Nat):List Nat:=cJ (nearF (kG qs) r) (fN (kG qs) r - 1)
noncomputable def fL (qs:List (List Nat)) (r:Nat):List Nat:=cJ (pA (kG qs) r) (fN (kG qs) r - 1)
theorem BB {qs:List (List Nat)}:(nL qs r).Pairwise (· < ·)∧(fL qs r).Pairwise (· < ·):=by
 have T:=G0 (qs:=qs) (r:=r);delta nL fL nearF pA fN;rw[tg];exact ⟨wA fun j k h1 h2 h3=>T.KC h1 h2 (by unfold kG at h3;exact Ey h3 (zB (Yd h2 h3 (aI _ _)))),wA fun j k h1 h2 h3=>T.H9 h1 h2 (by unfold kG at h3;exact Ey h3 (zB (Yd h2 h3 (aI _ _))))⟩
theorem Fi {qs:List (List Nat)}:(nL qs r).filter (fun x => !(MW (kG qs) r).contains x)=sub (nL qs r) (fL qs r)∧(fL qs r).filter (fun x => !(MW (kG qs) r).contains x)=sub (fL qs r) (nL qs r):=by
 have T:=two (kG qs) r;exact ⟨JY fun x hx=>(T.PX hx).trans QD.symm,JY fun x hx=>(T.Td hx).trans QD.symm⟩
theorem LQ {qs:List (List Nat)} {k:Nat} (h0:0<k) (hk:k<qs.length):(cO r (qs.take k)).length+(cO r (qs.drop k)).length=(cO r qs).length+if (cN (nearF (kG qs) r) (pA (kG qs) r) (fN (kG qs) r - 1)).contains k then 0 else 1:=by
 have T:=G0 (qs:=qs) (r:=r);have c:=T.cost h0 hk;have e1:=Af (r:=r) (qs:=qs) h0 (jw hk);have e2:=MO (r:=r) hk;have e3:=Af (r:=r) (qs:=qs) (m:=qs.length) (by exact yb hk) (aB _);rw[dG] at e3;rw[e1,e2,e3,c];delta nearF pA fN;rw[tg];congr 1;by_cases q:k∈cN (kY qs.length (hF (eV (qs.map aN) r)) (hF (eV (qs.map aN).reverse r))) (qz qs.length (hF (eV (qs.map aN) r))) (hF (eV (qs.map aN) r) qs.length - 1)
 ·rw[aA q]
  exact (aA (cS.mpr q)).symm
 ·rw[aS q]
  exact (aS fun z=>q (cS.mp z)).symm
theorem LR {qs:List (List Nat)} (h0:0<qs.length):(cN (nearF (kG qs) r) (pA (kG qs) r) (fN (kG qs) r - 1)).Pairwise (· < ·)∧(∀ x∈cN (nearF (kG qs) r) (pA (kG qs) r) (fN (kG qs) r - 1),0<x∧x<qs.length)∧(∀ j,nearF (kG qs) r j≤qs.length)∧∀ j,1≤j→j≤fN (kG qs) r - 1→pA (kG qs) r j≤qs.length:=by
 have T:=G0 (qs:=qs) (r:=r);have hp:=T.D.pos (p:=qs.length) h0 (aB _);delta nearF pA fN;rw[tg];refine ⟨T.Ih ?_,fun x hx=>T.OI hx,fun j=>aI _ _,fun j h1 h2=>?_⟩
 ·skip
  exact kc hp
 ·have:=T.yW (k:=j) h1 (by unfold kG at h2;exact Nat.lt_of_le_pred hp h2)
  exact NJ this.2
end
section
variable {P:ai} {n:Nat} {sc:bV} {σ σ1 σ2:St} {l:List (Str × Sl)} {ns:List Int} {ws:List (List Nat)} {r m N:Nat} {widths uw:Sl} {qs:List (List Nat)}
noncomputable def lE (ns:List Int) (ws:List (List Nat)) (qs:List (List Nat)) (r:Nat):List (Str × Sl):=lZ ns (.val (.p (.lst (bD ws)))) (iv r) (.val (.p (.lst (aq (kG qs))))) (.val (.p (.lst (eY ws)))) (iv (fN (kG qs) r)) (.val (.p (.lst (aq (fL qs r))))) (.val (.p (.lst (aq (nL qs r)))))
noncomputable def zE (ws:List (List Nat)) (qs:List (List Nat)) (r:Nat) (s:Option V):List Ob:=zT (some (.p (.int ws.length))) (some (.p (ED (kG qs) r))) (some (.p (Jo (kG qs) r))) s zX
theorem PM {s:Option Mine.P}:∀ o∈zE ws qs r (s.map V.p),tL o:=B6 (cc:=some (.int ws.length)) (ch:=some (ED (kG qs) r)) (ct:=some (Jo (kG qs) r))
theorem PA (hw:∀ w∈ws,w∈d8) (hn:ws.length≤9) (h0:0<ws.length) (hr:r≤19) (hq:qs=ws.map eN) {res:Res Fl} (k:(ev P (n+100)).B (fM P 893).1.scope ((fM P 893).2.drop 14) ⟨lE ns ws qs r,zE ws qs r none,.no⟩=res) :
  (ev P (n+100)).B (fM P 893).1.scope ((fM P 893).2.drop 11) ⟨lE ns ws qs r,zE ws qs r none,.no⟩=res:=by
 have lq:qs.length=ws.length:=by rw[hq,aM]
 have hN:=VL (qs:=qs) (r:=r);have hfl:(fL qs r).length≤9:=by unfold fL;rw[jM];exact kt4 (aI _ _) hN (zA lq) hn zC
 have hnl:(nL qs r).length≤9:=by unfold nL;rw[jM];exact kt4 (aI _ _) hN (zA lq) hn zC
 have h0q:0<qs.length:=by exact pJ h0 (id (iI lq))
 have lnl:=cP (xs:=nL qs r);have lsp:=iK (R:=ws);have lpp:(eY ws).length=ws.length:=by rw[Ai,DY,aM]
 have rc:=ZS (P:=P) (n:=n+6) (l:=lE ns ws qs r) (ws:=ws) (es:=fL qs r) (r:=r) (x1:=.int ws.length) (x2:=ED (kG qs) r) (x3:=Jo (kG qs) r) (l0:=bD FN) hw hn (by exact jj hfl zC) (by exact jj hr zC) (by rw[← hq];exact JW h0q) (K7 (by have:=FH (r:=r) h0q;rw[lq] at this;exact this));have cu:=LR (r:=r) h0q;have tc:=Rh (P:=P) (n:=n+6) (l:=lE ns ws qs r) (ws:=ws.reverse) (es:=(nL qs r).reverse.map fun p=>qs.length - p) (r:=r) (x1:=.int ws.length) (x2:=ED (kG qs) r) (x3:=Jo (kG qs) r) (l0:=bD FN) (fun w h=>hw w (rD.mp h)) (by rw[cV];exact hn) (by rw[aM,cV];exact jj hnl zC) (by exact jj hr zC)
  (by
   rw[gQ,← hq];delta nL kG;rw[CX];exact JW (by rw[cV];exact h0q))
  (by
   delta nL kG;rw[CX];refine K7 ?_;have:=FH (r:=r) (qs:=qs.reverse) (by rw[cV];exact h0q);rw[cV,lq,← cV (as:=ws)] at this;exact this)
 have pc:=Qp (P:=P) (n:=n+16) (T:=zE ws qs r none) (l:=lE ns ws qs r) (r:=r) (qs:=qs) (m:=fN (kG qs) r - 1) (near:=nearF (kG qs) r) (ff:=pA (kG qs) r) (PM (s:=none)) (by exact jj hr zC) (by rw[hq];exact wK hw) (by exact sy (zA lq) hn zC) h0q (by exact kt4 (aI _ _) hN (zA lq) hn zC) (fun j _ _=>by have:=cu.2.2.1 j;exact Ko this (zA lq) hn zC) (fun j h1 h2=>by have:=cu.2.2.2 j h1 h2;exact Ko this (zA lq) hn zC) (fun k h1 h2=>LQ h1 h2) cu.1 cu.2.1;refine aU (nW (Av (b:=true) (HD (b8 rfl rfl (fv:=.p (.adr 869)) (by rfl') (ac rfl (v:=.p (.lst (bD ws))) (by rfl') (ac rfl (v:=.p (.lst (eY ws))) (by rfl') (ac rfl (v:=.p (.int r)) (by rfl') (a1 rfl (v:=.p (.lst (aq (fL qs r)))) (by rfl'))))) ((cR (by rfl')).trans rc))))) ?_;refine aU (nW (Av (b:=true) (HD (b8 rfl rfl (fv:=.p (.adr 874)) (by rfl') (ac rfl (v:=.p (.lst (bD ws.reverse))) (mX (a:=.p (.lst (bD ws))) (by rfl') (l:=.p .none) (by rfl') (u:=.p .none) (by rfl') (t:=.p (.int (-1))) (by rfl') (rq (i:=none) (j:=none) (k:=some (-1)) rfl rfl rfl (by decide) (by exact sy (zA lsp) hn zC) (by rw[qc,CQ]))) (ac rfl (v:=.p (.lst (eY ws.reverse))) (mX (a:=.p (.lst (eY ws))) (by rfl') (l:=.p .none) (by rfl') (u:=.p .none) (by rfl') (t:=.p (.int (-1))) (by rfl') (rq (i:=none) (j:=none) (k:=some (-1)) rfl rfl rfl (by decide) (by exact sy (zA lpp) hn zC) (by rw[qc,I4]))) (ac rfl (v:=.p (.int r)) (by rfl') (a1 rfl (v:=.p (.lst (aq ((nL qs r).reverse.map fun p=>qs.length - p))))
   (rb (comp_map (x:="p") (u:=.p (.lst (aq (nL qs r).reverse))) (l:=[(".0",.unset),("p",.unset),("count",.cell 1)]) (L:=fun v=>[(".0",.unset),("p",.val (.p v)),("count",.cell 1)]) (vs:=aq (nL qs r).reverse) (xs:=(nL qs r).reverse) (t:=fun _=>true) (f:=fun p=>.int (qs.length - p:Nat)) (nx:=fun i _=>some (aq (nL qs r).reverse)[i]?) uu ?_ rfl (by rfl') (by rfl') (mX (a:=.p (.lst (aq (nL qs r)))) (by rfl') (l:=.p .none) (by rfl') (u:=.p .none) (by rfl') (t:=.p (.int (-1))) (by rfl') (rq (i:=none) (j:=none) (k:=some (-1)) rfl rfl rfl (by decide) (by exact sy (zA lnl) hnl zC) (by rw[qc,BU]))) rfl rfl (fun _ _=>rfl) (fun _=>by rfl') (fun _ _=>by rfl') (by rw[cV];exact jj hnl zC) (fun _ _=>rfl) ?_) rfl))))) ((cR (by rfl')).trans tc))))) ?_
 ·rw[kI.mpr fun _ _=>rfl]
  unfold aq;rw[bZ];rfl
 ·intro p hp _
  have hp:=rD.mp hp;refine nv (p7.mp hp) fun j _ _ agm=>?_;obtain rfl:=agm;have:=cu.2.2.1 j;exact ig rfl (a:=.p (.int ws.length)) (by rfl') (b:=.p (.int (nearF (kG qs) r j))) (by rfl') (sub_int (by exact zq (zI [↑ws.length,↑(nearF (kG qs) r j),↑(qs.length - nearF (kG qs) r j),↑qs.length] 0 (.g bH vA (.g vA (.add jg cQ) .e)) (.sub bH cQ) jg zC (zO (zG lq)) (zO (zS _ _))) (zI [↑(qs.length - nearF (kG qs) r j),↑ws.length,↑(nearF (kG qs) r j),↑qs.length] 0 (.g (.add bH jg) vA (.g vA cQ .e)) bH (.sub cQ jg) zC (zO (zB (zU (zO this)))) (zO (zA lq)))))
 rw[show DX qs=eY ws by rw[Ai,hq]] at pc;exact aU (nW (Av (b:=true) (HD (b8 rfl rfl (fv:=.p (.adr 888)) (by rfl') (ac rfl (v:=.p (.lst (eY ws))) (by rfl') (ac rfl (v:=.p (.int r)) (by rfl') (ac rfl (v:=.p (.lst (aq (nL qs r)))) (by rfl') (a1 rfl (v:=.p (.lst (aq (fL qs r)))) (by rfl'))))) ((cR (by rfl')).trans pc))))) k
end
section
variable {P:ai} {n:Nat} {sc:bV} {σ σ1 σ2:St} {l:List (Str × Sl)} {ns:List Int} {ws:List (List Nat)} {r m N:Nat} {widths uw:Sl} {qs:List (List Nat)}
theorem U8 {p:Nat} (h9:qs.length≤9) (hp:p≤qs.length):hW (eV (kG qs) r) p<2 ^ 60:=by
 have T:=G0 (qs:=qs) (r:=r);have h1:=T.D.wle p hp;have h2:2 ^ p≤2 ^ 9:=Nat.pow_le_pow_right (by decide) (by exact ay hp h9);exact l6 h1 (l6 h2 (by decide))
theorem Uc (hn:ws.length≤9) (h0:0<ws.length) (hq:qs=ws.map eN):(ev P (n+100)).B (fM P 893).1.scope ((fM P 893).2.drop 14) ⟨lE ns ws qs r,zE ws qs r none,.no⟩ = .ok (.ret (.p (.bool true))) ⟨lE ns ws qs r,zE ws qs r (some (.p (.lst (aq (MW (kG qs) r))))),.no⟩:=by
 have lq:qs.length=ws.length:=by rw[hq,aM]
 have hN:=VL (qs:=qs) (r:=r);have hfl:(fL qs r).length≤9:=by unfold fL;rw[jM];exact kt4 (aI _ _) hN (zA lq) hn zC
 have hnl:(nL qs r).length≤9:=by unfold nL;rw[jM];exact kt4 (aI _ _) hN (zA lq) hn zC
 have lw:=tg (qs:=qs);have lt:=qT (ok:=eV (kG qs).reverse r) (m:=(kG qs).length);have sh:=QE (P:=P) (n:=n+58) (T:=zE ws qs r none) (l:=lE ns ws qs r) (ok:=eV (kG qs) r) (ok':=eV (kG qs).reverse r) (m:=(kG qs).length) (PM (s:=none)) (by exact rM (.g (.s gR) aE (.g aE aT (.g aT au .e))) (.s gR) au zC h0 (zG lq) (zG lw)) (by exact Ko (zA lw) (zA lq) hn zC) (fun p hp=>U8 (by exact nG lq hn) (by exact le_of_le_of_eq hp lw));have tl:=Ra (P:=P) (n:=n+68) (T:=zE ws qs r (some (.p (.lst (aq (MW (kG qs) r)))))) (l:=lE ns ws qs r) (E:=nL qs r) (A:=fL qs r) (snd:=.p (.lst (aq (fL qs r)))) (due:=.p (.tup [.lst (aq (sub (nL qs r) (fL qs r))),.lst (aq (sub (fL qs r) (nL qs r)))])) (PM (s:=some (.lst (aq (MW (kG qs) r))))) BB.1 BB.2 (by exact jj hnl zC) (by exact jj hfl zC) (.inl rfl) (fun _=>Dj _ _);refine aU (fD (σ2:=⟨lE ns ws qs r,zE ws qs r (some (.p (.lst (aq (MW (kG qs) r))))),.no⟩) rfl rfl (b8 rfl rfl (fv:=.p (.adr 852)) (by rfl') (ac rfl (v:=.p (ED (kG qs) r)) (by rfl') (a1 rfl (v:=.p (.lst (dc (bO (eV (kG qs).reverse r) (kG qs).length).reverse))) (mX (a:=.p (Jo (kG qs) r)) (by rfl') (l:=.p .none) (by rfl') (u:=.p .none) (by rfl') (t:=.p (.int (-1))) (by rfl') (rq (i:=none) (j:=none) (k:=some (-1)) rfl rfl rfl (by decide) (by exact xV (.g au (.s aE) (.g aE aT (.g aT bX (.g bX (.n 9) .e)))) au (.n 1048576) zC (zA lt) (zA lw) (zA lq) hn) (by
  rw[qc];exact gQ.symm))))) ((cR (by rfl')).trans sh)) (by rfl')) ?_
 refine kN (o6 (b8 rfl rfl (fv:=.p (.adr 881)) (by rfl') (ac rfl (v:=.p (.lst (aq (nL qs r)))) (by rfl') (ac rfl (v:=.p (.lst (aq (fL qs r)))) (by rfl') (a1 rfl (v:=.p (.tup [.lst (aq (sub (nL qs r) (fL qs r))),.lst (aq (sub (fL qs r) (nL qs r)))])) (rb (ac rfl (v:=.p (.lst (aq (sub (nL qs r) (fL qs r))))) (rb (comp_map (x:="p") (u:=.p (.lst (aq (nL qs r)))) (l:=[(".0",.unset),("p",.unset),("shared",.cell 4)]) (L:=fun v=>[(".0",.unset),("p",.val (.p v)),("shared",.cell 4)]) (vs:=aq (nL qs r)) (xs:=nL qs r) (t:=fun x => !(MW (kG qs) r).contains x) (f:=fun p=>.int p) (nx:=fun i _=>some (aq (nL qs r))[i]?) uu ?a rfl (by rfl') (by rfl') (by rfl') rfl rfl (fun _ _=>rfl) (fun _=>by rfl') (fun _ _=>by rfl') (by exact jj hnl zC) (fun x _=>KY (gW rfl (a:=.p (.int x)) (by rfl') (b:=.p (.lst (aq (MW (kG qs) r)))) (by rfl') (uF (.inl rfl)) rfl)) (fun x _ _=>by rfl')) rfl)
   (a1 rfl (v:=.p (.lst (aq (sub (fL qs r) (nL qs r))))) (rb (comp_map (x:="p") (u:=.p (.lst (aq (fL qs r)))) (l:=[(".0",.unset),("p",.unset),("shared",.cell 4)]) (L:=fun v=>[(".0",.unset),("p",.val (.p v)),("shared",.cell 4)]) (vs:=aq (fL qs r)) (xs:=fL qs r) (t:=fun x => !(MW (kG qs) r).contains x) (f:=fun p=>.int p) (nx:=fun i _=>some (aq (fL qs r))[i]?) uu ?b rfl (by rfl') (by rfl') (by rfl') rfl rfl (fun _ _=>rfl) (fun _=>by rfl') (fun _ _=>by rfl') (by exact jj hfl zC) (fun x _=>KY (gW rfl (a:=.p (.int x)) (by rfl') (b:=.p (.lst (aq (MW (kG qs) r)))) (by rfl') (uF (.inl rfl)) rfl)) (fun x _ _=>by rfl')) rfl))) rfl)))) ((cR (by rfl')).trans tl)))
 case a=>rw[Fi.1];rfl
 case b=>rw[Fi.2];rfl
theorem aaO (hn:ns.length≤63):∃ fl σ1,eS (Kf P) (ev P 140) 893 [.p (.lst (ns.map Mine.P.int))] [] ⟨[],[.gone],.no⟩ = .ok fl σ1∧qN fl = .p (.bool true)∧σ1.aP[0]?=some .gone:=by
 refine X25 (Mr (P:=P) (n:=40) (ns:=ns) (by exact jj hn zC)) fun ws r hw h6 h9 hr go=>?_;obtain ⟨qs,hq⟩:∃ qs,qs=ws.map eN:=⟨_,rfl⟩;have hwd:ws.map fO=kG qs:=by rw[hq];exact (Nh hw).symm
 have e0:eS (Kf P) (ev P 140) 893 [.p (.lst (ns.map Mine.P.int))] [] ⟨[],[.gone],.no⟩=(ev P (40+100)).B (fM P 893).1.scope (fM P 893).2 ⟨lZ ns .unset .unset .unset .unset .unset .unset .unset,zT none none none none [],.no⟩:=by rfl'
 refine (Y2 (.ret (.p (.bool true))) (⟨lE ns ws qs r,zE ws qs r (some (.p (.lst (aq (MW (kG qs) r))))),.no⟩) ⟨e0.trans (go (IK hw h9 ?_)),rfl,rfl⟩);rw[hwd];exact IL (N:=ws.length) (by rw[tg,hq,aM]) h9 (by exact yb h6) (PA hw h9 (by exact yb h6) hr hq (Uc h9 (di (by decide) h6) hq))
end
end Mine
theorem PySem.Challenge.cw_il0194_01_holds : PySem.Challenge.rw_il0194_01.Holds := by
 exact Mine.aaN fun _ _ h=>Mine.aaO h
