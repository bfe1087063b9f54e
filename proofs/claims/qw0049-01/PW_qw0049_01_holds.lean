import PyProof.Rows.All
import Wide.All
import OpenK.AllK
import Wide.FinOn
import PySem.Challenge.RW_qw0049_01
set_option Elab.async false
set_option tactic.hygienic false
set_option bootstrap.genMatcherCode false
set_option genInjectivity false
set_option genSizeOf false
set_option autoImplicit false
set_option linter.unusedVariables false
set_option maxRecDepth 100000
set_option maxHeartbeats 4000000
namespace Mine
open PySem PySem.Calls PyProof.Rows
open _root_.PySem renaming wpAny_bind→aa,wpAny_pure→af,sizeLine→av,wpAny_holding→aC,wpAny_mono→aK,wpAny_standAt→be,Builtin→bh,wpAny_newObj_type→bj,codeAny_builtin→bE,argBest→bK,plainId_quiet→bY,wpAny_field→b9,builtinKind→ca,codeAny→cb,wpAny_call_entry→co,builtinLookup_eq_fast→cq,wpAny_of_eq→cI,wpAny_seqItems→cJ,wpAny_callSpecial?_slot→cS,bindArgs→c8,Program→dt,NameKind→dy,wpAny_loadName_local→dz,wpAny_specialOf→dA,typeLookup_type→dB,starEach→dD,wpAny_setState_of→dH,isSubtype_type→dM,wpAny_rule→dT,slot_listiter_next→dU,wpAny_Name→d5,compareOp→ez,typeLookup→eA,wpAny_setField→eI,codeAny_mono→fb,sliceBounds→fg,callWith→fv,wpAny_tryCatch→fy,isSubtype→fQ,wpAny_updateSeq→fR,wpAny_execs_nil→fS,letOwnedTupleGo→fT,wpAny_letGo→fV,wpAny_truthy_bool→fY,wpAny_attempt→gg,assignInOrder→gh,wpAny_comprehension_free→gj,standAt→gw,recursionLimit→gC,firstArgMember→gF,wpAny_isInstance→gG,wpAny_call→g6,ks_wpAt_execs_cons→g7,seqItems?→ii,slot_list_getitem→iw,wpAny_bindName→iV,newFunctionEnv→iW,checkBoundCall→iX,entryFor_of_tree→i9,checkBuiltinCall→ja,attributeBase→ju,codeAny_of_tree→jA,wpAny_load→jL,noteFrame→jQ,compStart→jR,cellsFrom→jS,newTuple→kg,keeperOf→kh,entryFor→km,wpAny_mkText→ko,wpAny_listPart→kq,wpAny_pyIter_list→ku,richCompare_meets_room→kv,wpAny_askSetting→lw,splitId→lC,Fin→lD,swappedStores→lF,signature?_of→lG,binaryOp→lL,wpAny_throw→lM,keywordEach→lN,callSpecialIfBoundUnlessNone?→lP,arm_assign_Name→mq,entry_listiter_next→mv,builtinType_eq_fast→mw,getItem→mT,seqIndex?→mV,setField→nG,wpAny_newTuple→nH,args_listiter_next→nI,spliced→nV,wpAny_point→nZ,richCompare→n0,wpAt_of_wpAny→pe,wpAny_newList→pf,comprehension→ph,SetTable→pR,slicePick→pS,getMethod→pT,plainId→qP,holding→qQ,OsState→qR,typeIs_str→qS,isInstance→qT,setAddHashed→qU,callSpecial?→qW,codeAny_compStart_list→qY,wpAny_tests_nil→q4,theTreesLotGoes→q5,raiseErrorWords→q6,post_val_or_str→q7,getitemInPython→q8,getAttrByItsOwn→q9,ks_codeAny_call_defAt→rX,codeAny_call_function→rY,loadName→sK,compTurn→sL,backToKw→sM,GenState→sN,wpAny_loadPart→sO,sliceRange_one→sP,wpAny_letTemporaryGo→sQ,newList→tG,updateSeq→tH,strValues→tI,DictEntry→tJ,ks_wpAt_Return_some→tZ,wpAny_handled→uq,cameBackBy→wb,builtinsNs→wc,assignEach→we,call_function_tree→wg,callerA→wI,callEnv→wJ,notIterableAtAll→yT,callGetattribute→yU,wpAny_noted→yZ,builtinType→y8,wpAny_operating→A3,notedBy→Bc,getAttr→Bd,closureFor→CL,call_meets→CM,wpAny_runValue→CN,slot_list_iter→CO,isSubtype_stop→CP,entryFor_alias→CQ,boundAndCalled→CR,wpAt→FY,call→FZ,ExceptHandler→F2,specialOf→F8,callAny→IY,wpAny_runOwn→IZ,raiseNew→Kf,evalArgs→Kg,cStatics→Kh,wpAny_nsGet→Ki,wpAny_mkInt→Kj,unpackItems→Kk,subscripted→Kl,sizeLine_eq→Km,interactive→Ko,bindSpecial→Kp
open _root_.List renaming length→ae,mem_cons_self→ah,mem_cons_of_mem→ai,mem_append_left→aj,mem_append_right→ak,length_map→an,mem_singleton→ao,mem_map→ap,mem_append→aw,all_eq_true→ay,getElem?_eq_getElem→aD,mem_of_getElem?→aE,mem_cons→aF,range→aG,size_toArray→aI,nodup_append→aJ,getElem?_map→aM,mem_range→aQ,length_append→aR,length_cons→aT,map_cons→aV,getElem?_eq_some_iff→aX,not_mem_nil→aZ,flatMap_cons→a0,map_map→a9,countP→bF,length_take→bM,length_filter_le→bN,take_add_one→bT,map_congr_left→bV,filter→bX,countP_cons→cc,nodup_cons→cg,map→cA,map_append→cC,sum_cons→cH,toArray→cM,getD_eq_getElem?_getD→cP,append_nil→cW,take_length→cY,mem_flatMap→cZ,lookup_cons→c0,filterMap_eq_map→c6,filterMap_map→de,mem_of_mem_take→dO,length_range→dX,length_nil→dZ,take_append_drop→d7,length_singleton→d8,filterMap_cons→eK,idxOf_lt_length_of_mem→eM,cons→eT,length_drop→eW,pairwise_cons→e8,drop_eq_getElem_cons→fk,take→fw,mem_filter→fz,forIn_cons→fA,count_append→fB,append_assoc→fE,eraseIdx_eq_take_drop_succ→fO,perm_iff_count→f8,take_of_length_le→gx,foldl_cons→gP,pairwise_map→g8,nodup_iff_pairwise_ne→ik,getElem_mem→ix,map_take→i8,count_cons→jb,pairwise_singleton→jq,map_nil→jz,getElem?_eq_none→j3,getD→j5,map_drop→kr,take_succ_cons→ly,nodup_nil→l8,getElem_idxOf→l9,filter_append→md,count_pos_iff→me,countP_congr→mU,filter_cons→nQ,length_eq_zero_iff→nS,flatMap→n5,range_succ→po,countP_map→pq,filterMap_append→pL,countP_le_length→pM,contains_iff_mem→pN,forIn_nil→qm,mem_of_mem_drop→qq,mem_map_of_mem→rc,length_pos_iff→re,getElem?_range→rf,flatMap_append→rg,all_cons→rW,forIn_toArray→r5,isEmpty_cons→tL,drop_sublist→tM,any_eq_false→tN,isEmpty_nil→ut,flatMap_nil→uu,cons_append→uw,any_eq_true→ux,take_take→xK,take_nil→zc,map_id''→ze,Perm→AZ,sum→DX
open _root_.Nat renaming sub_add_cancel→ag,le_of_ble_eq_true→am,le_antisymm→aq,le_trans→aU,zero_le→bi,le_add_left→bm,le_refl→bo,min_le_left→bC,le_of_lt→bJ,lt_of_le_of_lt→bL,not_le→bU,lt_succ_of_le→cf,lt_or_gt_of_ne→ci,min_le_right→cw,le_add_right→cy,beq→cB,succ_pos→cN,le_succ_of_le→cQ,le_of_lt_succ→cR,lt_succ_self→c5,sub_eq_zero_of_le→c9,lt_irrefl→dh,min_eq_left→dJ,le_total→dY,lt_of_lt_of_le→eg,lt_or_ge→ek,ne_of_lt→eQ,le_of_eq→eR,ble→fF,not_succ_le_zero→fG,sub_le→fL,ne_of_gt→gA,add_comm→gB,le_of_succ_le_succ→gH,not_lt→ip,add_le_add→ir,le_sub_one_of_lt→iu,lt_trans→iD,le_of_not_lt→iH,not_lt_zero→jc,le_succ→jr,lt_of_lt_pred→jM,mul_div_le→mr,lt_succ_of_lt→mX,add_sub_of_le→mY,succ_add_eq_add_succ→nJ,sub_add_eq→qX,add_assoc→r4,lt_of_lt_of_eq→sS,lt_of_le_of_ne→sT,zero_add→tX,succ_le_succ→wj,min_eq_right→wl,lt_of_not_le→wm,zero_mul→CS,mul_zero→CT,succ→FV
open _root_.PySem.Heap renaming get?_push_of_some→al,get?_push_size→aA,lt_size→bu,SameBut→cD,get?_update_other→cT,get?_update_self→dE,size_push→eZ,ExtBut→wf,SlotsOnly→xL
open _root_.Bool renaming false_ne_true→au,and_eq_true_iff→aO,false_eq_true→aW,and_eq_true→bk,noConfusion→cO,or_eq_true→gQ,not_eq_true'→g9,true_and→zg,or_false→zh
open _root_.PySem.PyData renaming keyHash→aL,eqv→bw,strOk→bH,eqvAll→d9,depthAll→iZ
open _root_ renaming decide_eq_true→aP,congrArg→bc,decide_eq_true_eq→bd,decide_eq_false→bg,if_false→cj,of_decide_eq_true→cp,decide_eq_false_iff_not→dk,if_true→dG,of_decide_eq_false→eC,beq_iff_eq→eP,bne_self_eq_false→fZ,or_false→gz,Decidable→jT,beq_self_eq_true→lx,decide_true→n4,decide_false→qV,DecidableEq→y9,ForInStep→F9
open _root_.PySem.Around renaming under_plainId→a7,frames_deeper→j6
open _root_.PySem.Value renaming none→bx,ref→dq,type→eX,bool→FX,str→I0
open _root_.Int renaming natCast_nonneg→bI,toNat_natCast→hV,zero_add→tY,le_refl→wo,not_lt→yS,mul_assoc→A5,ofNat_le→CU
open _root_.Option renaming map_eq_some_iff→bQ,isSome_iff_exists→cX,some→hF,toList_some→lH,bind_some→mW,getD_some→tK,map_some→ur
open _root_.PySem.Obj renaming mapSeq→bR,mapFields→eU,data_mapFields→sR,putSet→yR
open _root_.PySem.Heap.SameBut renaming update→b8
open _root_.PySem.Challenge renaming rw_qw0049_01→cz
open _root_.PySem.Str renaming ofString→cE,length_append→hU
open _root_.PySem.Builtin.List renaming listSubscript?→dF,listItems→eu,listUpdate→fm,listExtendWith→gm,listTooLong→ia,listSameRef→ib
open _root_.List.cons renaming inj→dN,injEq→sU
open _root_.PyProof.Rows renaming listUpdate_at→d0,AllBare→eL,listItems_at→fX,get?_update_seq→A4,seqEpoch_at→Kn
open _root_.PySem.NameKind renaming free→d6,cell→pV
open _root_.PySem.Builtin.Builtins renaming bindParams→ed
open _root_.ToString renaming toString→eh
open _root_.Option.some renaming inj→eV
open _root_.Decidable renaming byContradiction→eY
open _root_.PySem.Calls renaming spliced_cons→e9,spliced_nil→fW,callWith_builtin→pU
open _root_.PySem.F renaming type_list_count→fM,slot_list_count→fN,plain_min_loop→gr,plain_max_loop→gu,type_list_append→gU,slot_list_append→gV,type_list_append→iI,slot_list_append→iJ,plain_extend_loop→mf,slot_bool_hash→pz,called_str→qZ,slot_list_extend→t0,ks_slot_super_ga→t3,entry_min_loop→wL,entry_max_loop→wM,slot_set_iter→yV,slot_list_lt→A6,called_tuple→A7
open _root_.Array.Perm renaming refl→ga
open _root_.PySem.Builtin.SmallTypes renaming nextOf→gk,iterAll→js
open _root_.Ne renaming symm→gO
open _root_.PySem.MeetsSeq renaming plain_remove_loop→gW
open _root_.PySem.Manifest renaming signature?→ij
open _root_.PySem.Txt renaming startswith→iq,join→kF,slice_le→pj,endswith→tW,rstripChars→wK,mul→CK,slice→Kq,rfind→Kr
open _root_.PySem.StrLaws renaming join_length_le→jp,glued_eq_join→jB
open _root_.PySem.Builtin.Str renaming strKind→jU,occurrences→lQ
open _root_.And renaming intro→kn
open _root_.PySem.Builtin.Range renaming rangeSize→lz
open _root_.Array renaming Perm→lO,getElem?_eq_getElem→mu,find?_toList→rZ
open _root_.ForInStep renaming yield→mZ
open _root_.Eq renaming symm→nC
open _root_.Inhabited renaming default→nW
open _root_.PySem.SetTable renaming below→n7
open _root_.MonadExcept renaming tryCatch→pQ
open _root_.PySem.W renaming ownOf→qk,nsIn→rV
open _root_.PySem.Bind renaming checkArgs→qp
open _root_.PySem.Shared renaming TypeIs→xI
open _root_.Nat.succ renaming inj→xJ
open _root_.PySem.Walks renaming list→FW
open _root_.BEq renaming rfl→I5
open _root_.PySem.Data renaming seq→KM
section
noncomputable def cd{α:Type _}(b:Bool)(x y:α):α:=(fun _=>b.rec y x) @PySem.Gives
noncomputable def sk(f:Nat):Nat→Nat:=
 f.rec (fun n=>n) fun _ go n=>cd (cB (n%64) 0) (go (go (n/64))) (cd (cB (n%64) 1) (go (n/262144)) (cd (cB (n%64) 2) (n/68719476736) (cd (cB (n%64) 3) (go (n/262144)) (n/64))))
noncomputable def NU{α:Type}(v k:Nat→α)(a:α→α→α)(m m':Nat→α→α)(f:Nat):Nat→α:=
 f.rec (fun _=>k 0) fun f go n=>
  cd (cB (n%64) 0) (a (go (n/64)) (go (sk f (n/64))))
  (cd (cB (n%64) 1) (m (n/64%4096) (go (n/262144)))
  (cd (cB (n%64) 2) (k (n/64%1073741824))
  (cd (cB (n%64) 3) (m' (n/64%4096) (go (n/262144)))
  (cd (fF (n%64) 31) (v (n%64-4)) (k (n%64-32))))))
noncomputable def Ni(c:List Nat):Nat→Nat:=c.rec (fun _=>0) fun a _ go i=>i.rec a fun i _=>go i
noncomputable def uv(i:Nat):List Nat:=i.rec [1] fun _ l=>0::l
noncomputable def nU(l:List Nat):List Nat→Nat:=l.rec (fun _=>0) fun b _ go c=>c.rec 0 fun a c _=>b*a+go c
noncomputable def qu(x:List Nat):List Nat→List Nat:=x.rec (fun y=>y) fun a x go y=>y.rec (a::x) fun b y _=>(a+b)::go y
noncomputable def Nj(x:List Nat):List Nat→Bool:=x.rec (fun _=>true) fun a x go y=>y.rec (cd (cB a 0) (go []) false) fun b y _=>cd (fF a b) (go y) false
noncomputable def Mp(c:List Nat):Nat→Nat:=NU (Ni c) (fun k=>k) (fun x y=>x+y) (fun x y=>x*y) (fun x y=>y*x) 30
noncomputable def Mn:Nat→List Nat:=NU (fun i=>0::uv i) (fun k=>[k]) qu (fun k l=>l.map (k * ·)) (fun k l=>l.map (k * ·)) 30
noncomputable def rl(k x y:Nat):Prop:=cd (cB k 1) (x≤y) (cd (cB k 2) (x<y) (cd (cB k 4) (¬ x≤y) (cd (cB k 5) (¬ x<y) (cd (cB k 3) (x=y) True))))
noncomputable def gl(k x y:Nat):Prop:=cd (cB k 1) (¬ x≤y) (cd (cB k 2) (¬ x<y) (cd (cB k 4) (x≤y) (cd (cB k 5) (x<y) (cd (cB k 3) True False))))
noncomputable def sd(k w u:Nat)(x y:List Nat):List Nat×List Nat:=
 cd (cB k 1) (x.map (w * ·),y.map (w * ·)) (cd (cB k 2) ((qu [1] x).map (w * ·),y.map (w * ·)) (cd (cB k 4) ((qu [1] y).map (w * ·),x.map (w * ·)) (cd (cB k 5) (y.map (w * ·),x.map (w * ·))
 (cd (cB k 3) (qu (x.map (w * ·)) (y.map (u * ·)),qu (y.map (w * ·)) (x.map (u * ·))) ([],[])))))
noncomputable def NV(c:List Nat)(f:Nat):Nat→Prop:=
 f.rec (fun _=>True) fun _ go n=>
  cd (cB (n%64) 0) (gl (n/64%64) (Mp c (n/262144)) (Mp c (sk 30 (n/262144))))
  (rl (n%64) (Mp c (n/262144)) (Mp c (sk 30 (n/262144)))→go (sk 30 (sk 30 (n/262144))))
noncomputable def ck(f:Nat):Nat→List Nat→List Nat→Bool:=
 f.rec (fun _ _ _=>false) fun _ go n l r=>
  cd (cB (n%64) 0) ((fun p=>Nj (qu [1] (qu r p.2)) (qu l p.1)) (sd (n/64%64) (n/4096%64) 0 (Mn (n/262144)) (Mn (sk 30 (n/262144)))))
  ((fun p=>go (sk 30 (sk 30 (n/262144))) (qu l p.1) (qu r p.2)) (sd (n%64) (n/64%64) (n/4096%64) (Mn (n/262144)) (Mn (sk 30 (n/262144)))))
theorem lZ(x y c:List Nat):nU (qu x y) c=nU x c+nU y c:=by
 induction x generalizing y c with
 | nil=>exact(tX _).symm
 | cons a x ih=>
  cases y with
  | nil=>exact(Nat.add_zero _).symm
  | cons b y=>
   cases c with
   | nil=>rfl
   | cons d c=>
    show (a+b)*d+nU (qu x y) c=(a*d+nU x c)+(b*d+nU y c);rw[ih,Nat.add_mul,Nat.add_add_add_comm]
theorem ui(k:Nat)(x c:List Nat):nU (x.map (k * ·)) c=k*nU x c:=by
 induction x generalizing c with
 | nil=>rfl
 | cons a x ih=>
  cases c with
  | nil=>rfl
  | cons d c=>
   show k*a*d+nU (x.map (k * ·)) c=k*(a*d+nU x c);rw[ih,Nat.mul_add,Nat.mul_assoc]
theorem LN(x y c:List Nat):Nj x y=true→nU x c≤nU y c:=by
 induction x generalizing y c with
 | nil=>exact fun _=>bi _
 | cons a x ih=>
  cases c with
  | nil=>exact fun _=>bi _
  | cons d c=>
   cases y with
   | nil=>
    cases a with
    | zero=>exact fun h=>by show 0*d+nU x c≤0;rw[CS,tX];exact ih [] c h
    | succ a=>exact nofun
   | cons b y=>
    intro h;show a*d+nU x c≤b*d+nU y c;have h:cd (fF a b) (Nj x y) false=true:=h
    cases e:fF a b with
    | true=>rw[e]at h;exact ir (Nat.mul_le_mul_right _ (am e)) (ih y c h)
    | false=>rw[e]at h;cases h
theorem LM(c:List Nat)(i:Nat):nU (uv i) c=Ni c i:=by
 induction c generalizing i with
 | nil=>cases i<;>rfl
 | cons a c ih=>
  cases i with
  | zero=>exact Nat.one_mul a
  | succ i=>show 0*a+nU (uv i) c=Ni c i;rw[CS,tX,ih]
theorem KC(c:List Nat)(k:Nat):nU [k] (1::c)=k:=Nat.mul_one k
theorem dc{c x x':List Nat}{b:Bool}{y y':Nat}(h:nU x c=y)(h':nU x' c=y'):nU (cd b x x') c=cd b y y':=by cases b<;>assumption
theorem rd(c:List Nat):∀ n,nU (Mn n) (1::c)=Mp c n:=by
 unfold Mn Mp;generalize 30=f
 induction f with
 | zero=>exact fun n=>rfl
 | succ f ih=>exact fun n=>dc ((lZ _ _ _).trans (congr (bc _ (ih _)) (ih _))) (dc ((ui _ _ _).trans (bc _ (ih _))) (dc (KC c _) (dc ((ui _ _ _).trans ((bc _ (ih _)).trans (Nat.mul_comm _ _))) (dc ((bc (·+ _) (CS 1)).trans ((tX _).trans (LM c _))) (KC c _)))))
theorem Mr{w:Nat}{x y c:List Nat}(h:nU x c≤nU y c):nU (x.map (w * ·)) c≤nU (y.map (w * ·)) c:=by rw[ui,ui];exact Nat.mul_le_mul_left _ h
theorem Nk(c l:List Nat):nU (qu [1] l) (1::c)=nU l (1::c)+1:=(lZ _ _ _).trans (gB _ _)
theorem Kv(c x y:List Nat)(k w u:Nat):rl k (nU x (1::c)) (nU y (1::c))→nU (sd k w u x y).1 (1::c)≤nU (sd k w u x y).2 (1::c):=by
 unfold rl;unfold sd
 cases cB k 1 with
 | true=>exact Mr
 | false=>
  cases cB k 2 with
  | true=>exact fun h=>Mr (by rw[Nk];exact h)
  | false=>
   cases cB k 4 with
   | true=>exact fun h=>Mr (by rw[Nk];exact wm h)
   | false=>
    cases cB k 5 with
    | true=>exact fun h=>Mr (iH h)
    | false=>
     cases cB k 3 with
     | true=>exact fun h=>by show nU (qu _ _) _≤nU (qu _ _) _;rw[lZ,lZ];exact ir (Mr (eR h)) (Mr (eR h.symm))
     | false=>exact fun _=>bo 0
theorem MM{k x y:Nat}:(rl k x y→False)→gl k x y:=by
 unfold rl;unfold gl
 cases cB k 1 with
 | true=>exact id
 | false=>
  cases cB k 2 with
  | true=>exact id
  | false=>
   cases cB k 4 with
   | true=>exact eY
   | false=>
    cases cB k 5 with
    | true=>exact eY
    | false=>
     cases cB k 3 with
     | true=>exact fun _=>trivial
     | false=>exact fun h=>h trivial
theorem MU(c:List Nat)(f:Nat):∀ n l r,ck f n l r=true→nU l (1::c)≤nU r (1::c)→NV c f n:=by
 induction f with
 | zero=>exact nofun
 | succ f ih=>
  intro n l r;show cd _ _ _=true→_→cd _ _ _;rw[← rd c,← rd c]
  cases cB (n%64) 0 with
  | true=>
   refine fun h q=>MM fun z=>?_;have:=LN _ _ (1::c) h;rw[Nk,lZ,lZ]at this;exact absurd (ir q (Kv c _ _ _ (n/4096%64) 0 z)) (bU.mpr this)
  | false=>exact fun h q z=>ih _ _ _ h (by rw[lZ,lZ];exact ir q (Kv c _ _ _ _ _ z))
theorem tt:true=true:=rfl
theorem su(a b:Nat):a≤a-b+b:=Nat.sub_le_iff_le_add.mp (bo _)
theorem dv(a:Nat):a<2*(a/2)+2:=Nat.lt_mul_div_succ a (cN 1)
theorem aH(c:List Nat)(n:Nat)(h:ck 30 n [] []=true):NV c 30 n:=MU c 30 n [] [] h (bo 0)
theorem ff:false=false:=rfl
theorem je{α:Type}{P:α→Prop}:∀ x∈([]:List α),P x:=fun _ h=>(aZ h).elim
section
variable{α β:Type}{M:Model}{A:Around}{Q:α→Shared→Prop}{Q':β→Shared→Prop}{E:Value→Shared→Prop}{s:Shared}{p:Prop}[jT p]{t t':Sem α}{f:α→Sem β}
theorem wq(e:t=t')(h:wpAny M A t' Q E s):wpAny M A t Q E s:=e▸h
theorem KN(e:t=t')(h:wpAny M A (t' >>= f) Q' E s):wpAny M A (t >>= f) Q' E s:=e▸h
theorem wn(n: ¬ p)(h:wpAny M A t' Q E s):wpAny M A (if p then t else t') Q E s:=wq (if_neg n) h
theorem N6(n: ¬ p)(h:wpAny M A (t' >>= f) Q' E s):wpAny M A ((if p then t else t') >>= f) Q' E s:=KN (if_neg n) h
theorem wy(n:p)(h:wpAny M A t Q E s):wpAny M A (if p then t else t') Q E s:=wq (if_pos n) h
theorem N5(n:p)(h:wpAny M A (t >>= f) Q' E s):wpAny M A ((if p then t else t') >>= f) Q' E s:=KN (if_pos n) h
end
theorem pn{p:Prop}[jT p]{P Q:Prop}(n: ¬ p)(h:Q):if p then P else Q:=(if_neg n).symm▸h
theorem py{p:Prop}[jT p]{P Q:Prop}(n:p)(h:P):if p then P else Q:=(if_pos n).symm▸h
end
section
inductive V where
 | none
 | bool(b:Bool)
 | int(i:Int)
 | str(s:Str)
 | tup(l:List V)
 | lst(a:Addr)(l:List V)
 | acc(a:Addr)(l:List V)
 | ref(a:Addr)
 | obj(v:Value)
 | rng(lo hi:Int)
 | unb
noncomputable def V.onI{α:Type}(f:Int→α)(d:α)(v:V):α:= @V.casesOn (fun _=>α) v d (fun _=>d) f (fun _=>d) (fun _=>d) (fun _ _=>d) (fun _ _=>d) (fun _=>d) (fun _=>d) (fun _ _=>d) d
noncomputable def V.onS{α:Type}(f:Str→α)(d:α)(v:V):α:= @V.casesOn (fun _=>α) v d (fun _=>d) (fun _=>d) f (fun _=>d) (fun _ _=>d) (fun _ _=>d) (fun _=>d) (fun _=>d) (fun _ _=>d) d
noncomputable def V.onT{α:Type}(f:List V→α)(d:α)(v:V):α:= @V.casesOn (fun _=>α) v d (fun _=>d) (fun _=>d) (fun _=>d) f (fun _ _=>d) (fun _ _=>d) (fun _=>d) (fun _=>d) (fun _ _=>d) d
noncomputable def V.onL{α:Type}(f:Addr→List V→α)(d:α)(v:V):α:= @V.casesOn (fun _=>α) v d (fun _=>d) (fun _=>d) (fun _=>d) (fun _=>d) f (fun _ _=>d) (fun _=>d) (fun _=>d) (fun _ _=>d) d
noncomputable abbrev j7(vs:List Value)(n:Nat):Obj:={ cls:=.type "tuple",data:=.seq vs.toArray n }
noncomputable abbrev ic(vs:List Value)(n:Nat):Obj:={ cls:=.type "list",data:=.seq vs.toArray n }
noncomputable abbrev j8(d:Addr)(vs:List Value)(n:Nat):Obj:={ cls:=.ref 122,dict:=some d,data:=.seq vs.toArray n }
mutual
inductive VR(h:Heap)(X:List Addr):V→Value→Prop
 | none:VR h X .none .none
 | bool (b:Bool):VR h X (.bool b) (.bool b)
 | int (i:Int) (t:Tok):VR h X (.int i) (.int i t)
 | str (s:Str) (t:Tok):VR h X (.str s) (.str s t)
 | tup {a:Addr} {vs:List Value} {n:Nat} {l:List V}:h.get? a=some (j7 vs n)→a∉X→dP h X l vs→VR h X (.tup l) (.ref a)
 | lst {a:Addr} {vs:List Value} {n:Nat} {l:List V}:h.get? a=some (ic vs n)→a∉X→dP h X l vs→VR h X (.lst a l) (.ref a)
 | acc {a d:Addr} {vs:List Value} {n:Nat} {l:List V}:h.get? a=some (j8 d vs n)→a∉X→dP h X l vs→VR h X (.acc a l) (.ref a)
 | ref (a:Addr):VR h X (.ref a) (.ref a)
 | obj (v:Value):VR h X (.obj v) v
 | rng {a:Addr} {lo hi:Int} {t u v:Tok}:IsRange h a lo hi 1 t u v→a∉X→VR h X (.rng lo hi) (.ref a)
inductive dP(h:Heap)(X:List Addr):List V→List Value→Prop
 | nil:dP h X [] []
 | cons {a:V} {v:Value} {l:List V} {vs:List Value}:VR h X a v→dP h X l vs→dP h X (a::l) (v::vs)
end
noncomputable def aN(h:Heap)(X:List Addr)(h':Heap)(X':List Addr):Prop:=∀ b o,h.get? b=some o→b∉X→h'.get? b=some o∧b∉X'
theorem aN.refl(h:Heap)(X:List Addr):aN h X h X:=fun _ _ e n=>⟨e,n⟩
theorem aN.trans{h h' h'':Heap}{X X' X'':List Addr}(a:aN h X h' X')(b:aN h' X' h'' X''):aN h X h'' X'':=
 fun x o e n=>b x o (a x o e n).1 (a x o e n).2
theorem VR.stay{h h':Heap}{X X':List Addr}(S:aN h X h' X'){a:V}{v:Value}(z:VR h X a v):VR h' X' a v:=
 VR.rec (h:=h) (X:=X) (motive_1:=fun a v _=>VR h' X' a v) (motive_2:=fun l vs _=>dP h' X' l vs)
  .none (fun b=>.bool b) (fun i t=>.int i t) (fun s t=>.str s t) (fun e n _ r=>.tup (S _ _ e n).1 (S _ _ e n).2 r) (fun e n _ r=>.lst (S _ _ e n).1 (S _ _ e n).2 r) (fun e n _ r=>.acc (S _ _ e n).1 (S _ _ e n).2 r)
  (fun a=>.ref a) (fun v=>.obj v) (fun e n=>.rng (S _ _ e n).1 (S _ _ e n).2) .nil (fun _ _ a r=>.cons a r) z
section
variable{h:Heap}{X:List Addr}
inductive K8(h:Heap)(X:List Addr)(a:Addr)(l:List V):Value→Prop
 | mk {vs:List Value} {n:Nat} (e:h.get? a=some (ic vs n)) (x:a∉X) (z:dP h X l vs):K8 h X a l (.ref a)
inductive K2(h:Heap)(X:List Addr)(l:List V):Value→Prop
 | mk {a:Addr} {vs:List Value} {n:Nat} (e:h.get? a=some (j7 vs n)) (x:a∉X) (z:dP h X l vs):K2 h X l (.ref a)
inductive La(h:Heap)(X:List Addr)(a:Addr)(l:List V):Value→Prop
 | mk {d:Addr} {vs:List Value} {n:Nat} (e:h.get? a=some (j8 d vs n)) (x:a∉X) (z:dP h X l vs):La h X a l (.ref a)
inductive K4(h:Heap)(X:List Addr)(lo hi:Int):Value→Prop
 | mk {a:Addr} {t u w:Tok} (e:IsRange h a lo hi 1 t u w) (x:a∉X):K4 h X lo hi (.ref a)
inductive K9(i:Int):Value→Prop
 | mk (i':Unit) (t:Tok):K9 i (.int i t)
inductive K3(x:Str):Value→Prop
 | mk (x':Unit) (t:Tok):K3 x (.str x t)
inductive K5(a:Addr):Value→Prop
 | mk:K5 a (.ref a)
inductive K6(w:Value):Value→Prop
 | mk:K6 w w
inductive Gv(b:Bool):Value→Prop
 | mk:Gv b (.bool b)
inductive Gs:Value→Prop
 | mk:Gs .none
noncomputable def VI(h:Heap)(X:List Addr):V→Value→Prop
 | .none=>Gs
 | .bool b=>Gv b
 | .int i=>K9 i
 | .str x=>K3 x
 | .tup l=>K2 h X l
 | .lst a l=>K8 h X a l
 | .acc a l=>La h X a l
 | .ref a=>K5 a
 | .obj w=>K6 w
 | .rng lo hi=>K4 h X lo hi
 | .unb=>fun _=>True
theorem VR.vi{a:V}{v:Value}(z:VR h X a v):VI h X a v:=
 VR.casesOn (h:=h) (X:=X) (motive_1:=fun a v _=>VI h X a v) z .mk (fun b=>.mk) (fun i t=>.mk () t) (fun s t=>.mk () t) (fun e n z=>.mk e n z) (fun e n z=>.mk e n z) (fun e n z=>.mk e n z) (fun a=>.mk) (fun v=>.mk) (fun e n=>.mk e n)
theorem VR.iLst{a:Addr}{l:List V}{v:Value}(z:VR h X (.lst a l) v):K8 h X a l v:=z.vi
theorem VR.iTup{l:List V}{v:Value}(z:VR h X (.tup l) v):K2 h X l v:=z.vi
theorem VR.iAcc{a:Addr}{l:List V}{v:Value}(z:VR h X (.acc a l) v):La h X a l v:=z.vi
theorem VR.iRng{lo hi:Int}{v:Value}(z:VR h X (.rng lo hi) v):K4 h X lo hi v:=z.vi
theorem VR.iInt{i:Int}{v:Value}(z:VR h X (.int i) v):K9 i v:=z.vi
theorem VR.iStr{x:Str}{v:Value}(z:VR h X (.str x) v):K3 x v:=z.vi
theorem VR.iRef{a:Addr}{v:Value}(z:VR h X (.ref a) v):K5 a v:=z.vi
theorem VR.iObj{w v:Value}(z:VR h X (.obj w) v):K6 w v:=z.vi
theorem VR.iBool{b:Bool}{v:Value}(z:VR h X (.bool b) v):Gv b v:=z.vi
theorem VR.iNone{v:Value}(z:VR h X .none v):Gs v:=z.vi
inductive K7:List Value→Prop
 | mk:K7 []
inductive Gu(h:Heap)(X:List Addr)(a:V)(l:List V):List Value→Prop
 | mk {v:Value} {vs:List Value} (z:VR h X a v) (zs:dP h X l vs):Gu h X a l (v::vs)
noncomputable def NY(h:Heap)(X:List Addr)(l:List V):List Value→Prop:= @List.rec V (fun _=>List Value→Prop) K7 (fun a l _=>Gu h X a l) l
theorem dP.vi{l:List V}{vs:List Value}(z:dP h X l vs):NY h X l vs:=
 dP.casesOn (h:=h) (X:=X) (motive_2:=fun l v _=>NY h X l v) z .mk (fun z zs=>.mk z zs)
theorem dP.iNil{vs:List Value}(z:dP h X [] vs):K7 vs:=z.vi
theorem dP.iCons{a:V}{l:List V}{vs:List Value}(z:dP h X (a::l) vs):Gu h X a l vs:=z.vi
end
section
variable{h:Heap}{X:List Addr}
theorem dP.stay{h':Heap}{X':List Addr}(S:aN h X h' X'){l:List V}{vs:List Value}(z:dP h X l vs):dP h' X' l vs:=by
 induction l generalizing vs with
 | nil=>cases z.iNil;exact .nil
 | cons a l ih=>cases z.iCons with | mk z1 zs=>exact .cons (z1.stay S) (ih zs)
theorem dP.length{l:List V}{vs:List Value}(z:dP h X l vs):l.length=vs.length:=by
 induction l generalizing vs with
 | nil=>cases z.iNil;rfl
 | cons a l ih=>cases z.iCons with | mk _ zs=>exact bc (·+ 1) (ih zs)
theorem dP.append{l m:List V}{vs ws:List Value}(z:dP h X l vs)(k:dP h X m ws):dP h X (l++m) (vs++ws):=by
 induction l generalizing vs with
 | nil=>cases z.iNil;exact k
 | cons a l ih=>cases z.iCons with | mk z1 zs=>exact .cons z1 (ih zs)
theorem dP.get{l:List V}{vs:List Value}(z:dP h X l vs):∀ {i:Nat} {a:V},l[i]?=some a→∃ v,vs[i]?=some v∧VR h X a v:=by
 induction l generalizing vs with
 | nil=>exact fun e=>nomatch e
 | cons a l ih=>
  cases z.iCons with | mk z1 zs=>
  intro i b e
  cases i with
  | zero=>cases e;exact⟨_,rfl,z1⟩
  | succ i=>exact ih zs e
theorem dP.take{l:List V}{vs:List Value}(z:dP h X l vs)(n:Nat):dP h X (l.take n) (vs.take n):=by
 induction l generalizing vs n with
 | nil=>cases z.iNil;rw[zc,zc];exact .nil
 | cons a l ih=>
  cases z.iCons with | mk z1 zs=>
  cases n with
  | zero=>exact .nil
  | succ n=>exact .cons z1 (ih zs n)
theorem dP.drop{l:List V}{vs:List Value}(z:dP h X l vs)(n:Nat):dP h X (l.drop n) (vs.drop n):=by
 induction n generalizing l vs with
 | zero=>exact z
 | succ n ih=>
  cases l with
  | nil=>cases z.iNil;exact .nil
  | cons a l=>cases z.iCons with | mk z1 zs=>exact ih zs
end
theorem jy{x m n:Nat}(h:x≤m)(e:fF m n=true):x≤n:=aU h (am e)
theorem MX{x m n:Nat}(h:x≤m)(e:fF (m+1) n=true):x<n:=eg (cf h) (am e)
theorem uW{x m n:Nat}(h:x<m)(e:fF m (n+1)=true):x≤n:=cR (eg h (am e))
theorem L6{x a b m n:Nat}(h:x+a≤m)(e:fF (b+m) (n+a)=true):x+b≤n:=by have:=am e;exact aH [x,a,m,b,n] 44156954364782213031494913341097691316289 tt h this
theorem uX{x a b m n:Nat}(h:x+a<m)(e:fF (b+m) (n+a)=true):x+b<n:=by have:=am e;exact aH [x,a,m,b,n] 44156954369852815432407830947084504137794 tt h this
theorem x0{x m n:Nat}(h:x=m)(e:fF m n=true):x≤n:=h▸am e
theorem L5{x m n:Nat}(h:x=m)(e:fF (m+1) n=true):x<n:=h▸am e
theorem d4{α β:Type}{f:α→β}{l:List α}{m n:Nat}(h:l.length≤m)(e:fF m n=true):(l.map f).length≤n:=by rw[an];exact jy h e
theorem pC{α β:Type}{f:α→β}{l:List α}{m n:Nat}(h:l.length=m)(e:fF m n=true):(l.map f).length≤n:=by rw[an];exact x0 h e
theorem xZ{x y m n:Nat}(h:x≤m)(q:x=y)(e:fF m n=true):y≤n:=q▸jy h e
theorem KE{k m:Int}(h:0≤k)(e:decide (m≤0)=true):m≤k:=Int.le_trans (cp e) h
theorem nn{p:Prop}(h: ¬p→False):p:=Classical.byContradiction h
theorem Gj{i:Nat}:((0:Int)+(i:Int)).toNat=i:=bc Int.toNat (tY _)
theorem KD{i:Nat}:(1+(i:Int)).toNat=i+1:=bc Int.toNat (Int.add_comm 1 i)
theorem m9{α β:Type}{f:α→β}{l:List α}{i:Nat}{a:α}(h:l[i]?=some a):(l.map f)[i]?=some (f a):=by rw[aM,h];rfl
theorem N1{α:Type}{l:List α}(h:2≤l.length):∃ a b r,l=a::b::r:=by
 cases l with
 | nil=>exact(fG _ h).elim
 | cons a l=>
  cases l with
  | nil=>exact(fG _ (gH h)).elim
  | cons b r=>exact⟨a,b,r,rfl⟩
theorem all1{α:Type}{P:α→Prop}{a:α}(h1:P a):∀ y∈ [a],P y:=fun _ h=>(ao.mp h)▸h1
theorem all2{α:Type}{P:α→Prop}{a b:α}(h1:P a)(h2:P b):∀ y∈ [a,b],P y:=fun _ h=>(aF.mp h).elim (fun e=>e▸h1) fun h=>(ao.mp h)▸h2
theorem Bh{α:Type}{a b:α}:b∈ [a,b]:=ai _ ah
inductive bW where
 | list(l:List V)
 | acc(d:Addr)(l:List V)
 | raw(o:Obj)
noncomputable def bW.addrs(a:Addr)(o:bW):List Addr:=a:: @bW.rec (fun _=>List Addr) (fun _=>[]) (fun d _=>[d]) (fun _=>[]) o
theorem fc(o:bW)(a:Addr):a∈o.addrs a:=ah
noncomputable def er:Str:=cE "_initial_size"
noncomputable def jO(h:Heap)(d:Addr):Prop:=∃ (o:Obj) (es:Array tJ) (ep:Nat) (t:Tok),h.get? d=some o∧o.data= .dict es ep∧StrKeys es∧UniqKeys es∧∀ x,nsFind es x=if x=er then some (.int 0 t)else none
noncomputable def MR(h:Heap)(X:List Addr)(a:Addr):bW→Prop
 | .list l=>∃ vs n,h.get? a=some (ic vs n)∧dP h X l vs
 | .acc d l=>∃ vs n,h.get? a=some (j8 d vs n)∧dP h X l vs∧jO h d
 | .raw o=>∃ sl,h.get? a=some { o with slots:=sl }
noncomputable abbrev Hp:=List (Addr×bW)
noncomputable def haddrs(H:Hp):List Addr:=H.flatMap fun p=>p.2.addrs p.1
theorem bP{H:Hp}{b:Addr}:b∈haddrs H↔∃ p∈H,b∈p.2.addrs p.1:=by simp[haddrs]
noncomputable def TB:List Addr:=[84,91]
end
section
noncomputable abbrev pw:dt:=PySem.Challenge.pw_qw0049_01
open PySem.W (Frag)
noncomputable def JZ:List Stmt:=Stmt.ClassDef.elim ((pw.main.body[7]?:Option Stmt).getD (.Pass nW)) rfl fun _ _ _ body _ _ _ _ _ _ _=>body
noncomputable def MB(i:Nat):Stmt:=(if i<100 then pw.main.body[i]? else JZ[i-100]?).getD (.Pass nW)
noncomputable def xV{α:Type}(i:Nat)(d:α)(k:Str→Arguments→List Stmt→Scope→α):α:=if h:(MB i).ctorIdx=0 then Stmt.FunctionDef.elim (MB i) h fun n a b _ _ _ s _ _ _=>k n a b s else d
noncomputable def BF(i:Nat):Str:=xV i (cE "") fun n _ _ _=>n
noncomputable def LH(i:Nat):Arguments:=xV i ⟨[],[],none,[],[],none,[]⟩ fun _ a _ _=>a
noncomputable def gy(i:Nat):List Stmt:=xV i [] fun _ _ b _=>b
noncomputable def bD(i:Nat):Scope:=xV i ⟨.function,[],false,false,[]⟩ fun _ _ _ s=>s
noncomputable def DG(s:Stmt):List Stmt:=if h:s.ctorIdx=9 then Stmt.For.elim s h fun _ _ b _ _=>b else []
noncomputable def Ld(s:Stmt):List Stmt:=if h:s.ctorIdx=11 then Stmt.While.elim s h fun _ b _ _=>b else []
noncomputable def L4(s:Stmt):Expr:=if h:s.ctorIdx=5 then Stmt.Assign.elim s h fun _ v _=>v else .Name "" nW
noncomputable def BE(i:Nat):Str:=if i<100 then BF i else cE "_Accumulator." ++BF i
noncomputable def Hg:List Nat:=[100,103,108]
noncomputable def Gp(i:Nat):List (Str×Addr):=if Hg.contains i then [("__class__",46)]else []
noncomputable def No(i:Nat):Value:=if i=100 then .ref 52 else if i=103 then .ref 75 else if i=108 then .ref 112 else .none
noncomputable def MP(i:Nat):Value:=if i=100 then .ref 51 else if i=106 then .ref 97 else .none
noncomputable def iR(i:Nat)(code:Addr)(pm:Value):FuncData:=
 {docDef (BF i) (LH i) (gy i) (bD i) pm (.ref code) .none with qualname:=BE i,closure:=Gp i,closureTuple:=No i,defaults:=MP i }
noncomputable def xN(i:Nat)(code:Addr)(pm:Value):Obj:={ cls:=.type "function",data:=.func (iR i code pm) }
noncomputable def yh:List (Nat×Addr×Addr):=[(100,59,58),(101,66,65),(103,82,81),(104,89,88),(105,96,95),(106,104,103),(108,119,118)]
noncomputable def ou:List (Nat×Addr×Addr):=[(2,28,27),(3,35,34),(4,42,41),(16,199,198),(20,213,212),(21,220,219),(22,227,226),(23,232,231),(25,237,236),(26,244,243),(27,249,248),(28,254,253),(29,259,258)]++yh
noncomputable def uG:List (Str×Value):=[("sorted_list_difference", .ref 28),("unorderable_list_difference", .ref 35),("three_way_cmp", .ref 42),("_Accumulator", .ref 122),("fspath", .ref 199),("_get_sep", .ref 213),("join", .ref 220),("split", .ref 227),("commonpath", .ref 232),("_law_names", .ref 237),("_law_pairs", .ref 244),("_law_steps", .ref 249),("_law_pairings", .ref 254),("_law_passed", .ref 259),("EMPTYSTRING", .str "" 230)]
noncomputable def p8:List (Str×Value):=[("len", .builtin "len"),("sum", .builtin "sum"),("sorted", .builtin "sorted"),("min", .builtin "min"),("max", .builtin "max"),("isinstance", .builtin "isinstance"),("issubclass", .builtin "issubclass"),
 ("range", .type "range"),("enumerate", .type "enumerate"),("map", .type "map"),("tuple", .type "tuple"),("str", .type "str"),("bytes", .type "bytes"),("type", .type "type"),("super", .type "super"),("ValueError", .type "ValueError"),("IndexError", .type "IndexError"),("TypeError", .type "TypeError"),("AttributeError", .type "AttributeError")]
noncomputable def KF(P:Params):Frag:=[
 (43,⟨.type "tuple",none, .seq #[.type "list"] 0,#[]⟩),
 (46,⟨.type "cell",none, .cell (some (.ref 122)),#[]⟩),
 (51,⟨.type "tuple",none, .seq #[.int 0 244] 0,#[]⟩),
 (52,⟨.type "tuple",none, .seq #[.ref 46] 0,#[]⟩),
 (58,⟨.type "code",none, .fields #[.str "__init__" 245, .str "_Accumulator.__init__" 246, .str "/claim/cut.py" 247, .int 52 0, .int 2 0, .int 0 0, .int 0 0, .int 3 0, .ref 53, .bool true, .int 181 0, .ref 54, .none, .ref 55, .ref 56, .ref 57, .int 251 0, .int 52 0, .str "/claim/cut.py" 252],#[]⟩),
 (65,⟨.type "code",none, .fields #[.str "push" 254, .str "_Accumulator.push" 255, .str "/claim/cut.py" 256, .int 56 0, .int 3 0, .int 0 0, .int 0 0, .int 3 0, .ref 60, .bool true, .int 181 0, .ref 61, .none, .ref 62, .ref 63, .ref 64, .int 260 0, .int 56 0, .str "/claim/cut.py" 261],#[]⟩),
 (75,⟨.type "tuple",none, .seq #[.ref 46] 0,#[]⟩),
 (81,⟨.type "code",none, .fields #[.str "pop" 272, .str "_Accumulator.pop" 273, .str "/claim/cut.py" 274, .int 62 0, .int 1 0, .int 0 0, .int 0 0, .int 3 0, .ref 76, .bool true, .int 181 0, .ref 77, .none, .ref 78, .ref 79, .ref 80, .int 277 0, .int 62 0, .str "/claim/cut.py" 278],#[]⟩),
 (88,⟨.type "code",none, .fields #[.str "__len__" 280, .str "_Accumulator.__len__" 281, .str "/claim/cut.py" 282, .int 67 0, .int 1 0, .int 0 0, .int 0 0, .int 3 0, .ref 83, .bool true, .int 181 0, .ref 84, .none, .ref 85, .ref 86, .ref 87, .int 284 0, .int 67 0, .str "/claim/cut.py" 285],#[]⟩),
 (95,⟨.type "code",none, .fields #[.str "__str__" 287, .str "_Accumulator.__str__" 288, .str "/claim/cut.py" 289, .int 70 0, .int 1 0, .int 0 0, .int 0 0, .int 3 0, .ref 90, .bool true, .int 181 0, .ref 91, .none, .ref 92, .ref 93, .ref 94, .int 291 0, .int 70 0, .str "/claim/cut.py" 292],#[]⟩),
 (97,⟨.type "tuple",none, .seq #[.none] 0,#[]⟩),
 (103,⟨.type "code",none, .fields #[.str "reset" 294, .str "_Accumulator.reset" 295, .str "/claim/cut.py" 296, .int 73 0, .int 2 0, .int 0 0, .int 0 0, .int 3 0, .ref 98, .bool true, .int 181 0, .ref 99, .none, .ref 100, .ref 101, .ref 102, .int 299 0, .int 73 0, .str "/claim/cut.py" 300],#[]⟩),
 (112,⟨.type "tuple",none, .seq #[.ref 46] 0,#[]⟩),
 (118,⟨.type "code",none, .fields #[.str "part_count" 309, .str "_Accumulator.part_count" 310, .str "/claim/cut.py" 311, .int 82 0, .int 1 0, .int 0 0, .int 0 0, .int 3 0, .ref 113, .bool true, .int 181 0, .ref 114, .none, .ref 115, .ref 116, .ref 117, .int 314 0, .int 82 0, .str "/claim/cut.py" 315],#[]⟩),
 (121,⟨.type "dict",none, .dict #[⟨aL P "__module__", .str "__module__" 239, .str "cpy313.email.header" 228⟩,⟨aL P "__firstlineno__", .str "__firstlineno__" 243, .int 50 242⟩,⟨aL P "__init__", .str "__init__" 253, .ref 59⟩,⟨aL P "push", .str "push" 262, .ref 66⟩,⟨aL P "pop_from", .str "pop_from" 271, .ref 74⟩,⟨aL P "pop", .str "pop" 279, .ref 82⟩,⟨aL P "__len__", .str "__len__" 286, .ref 89⟩,⟨aL P "__str__", .str "__str__" 293, .ref 96⟩,⟨aL P "reset", .str "reset" 301, .ref 104⟩,⟨aL P "is_onlyws", .str "is_onlyws" 308, .ref 111⟩,⟨aL P "part_count", .str "part_count" 316, .ref 119⟩,⟨aL P "__static_attributes__", .str "__static_attributes__" 318, .ref 120⟩,⟨aL P "__dict__", .str "__dict__" 321, .ref 123⟩,⟨aL P "__weakref__", .str "__weakref__" 323, .ref 124⟩,⟨aL P "__doc__", .str "__doc__" 324, .none⟩] 5,#[]⟩),
 (122,⟨.type "type",none, .cls { name:="_Accumulator",bases:=[.type "list"],mro:=[.ref 122, .type "list", .type "object"],ns:=121,qualname:="_Accumulator" },#[some (.ref 43),none,some (.str "_Accumulator" 232),some (.str "_Accumulator" 240),some (.builtin "list.__new__"),some (.bool true)]⟩)]++yh.map fun(i,a,c)=>(a,xN i c (.str "cpy313.email.header" 228))
structure ey(h:Heap):Prop where
 lim:h.NoLimit
 top:∃ o,h.get? 264=some o
 fns:∀ i a c,(i,a,c)∈ou→∃ pm,h.get? a=some (xN i c pm)∧h.CodeRec (.ref c) (BE i)
 glob:∃ mg,h.Ns 3 mg∧(∀ x v,uG.lookup x=some v→mg x=some v)∧(∀ x v,p8.lookup x=some v→mg x=none)∧mg "EMPTYSTRING" =some (.str "" 230)∧mg "__builtins__" =some (.ref 4)
 blt:∃ mb,h.Ns 0 mb∧(∀ x v,p8.lookup x=some v→mb x=some v)
 frag:∃ P,(KF P).In h
 bmod:∃ ob,h.get? 4=some ob∧ob.cls= .type "module" ∧ob.dict=some wc∧ob.data= .plain
 stat:∃ o,h.get? Kh=some o∧PySem.W.lookIn "thirdparty.any" o=some none
end
section
structure Cx where
 w:World
 A:Around
 env:Env
 names:List Str
 own:List Addr
 Y:List Addr
 B:Heap
 W:List Addr
 os:qR
 fr:List (Str×V):=[]
 lvl:Nat:=0
 gn:List Str:=[]
 gv:List Value:=[]
 cn:List Str:=[]
noncomputable def Cx.Z(c:Cx)(H:Hp):List Addr:=TB++(c.own++haddrs H)
noncomputable def Cx.X(c:Cx)(H:Hp):List Addr:=c.Y++c.Z H
theorem aN.toX{c:Cx}{H H':Hp}{h h':Heap}(S:aN h (c.Z H) h' (c.Z H')):aN h (c.X H) h' (c.X H'):=fun b o e n=>by
 have q:=S b o e fun z=>n (ak _ z);exact⟨q.1,fun z=>(aw.mp z).elim (fun y=>n (aj _ y)) q.2⟩
theorem VR.go{c:Cx}{H H':Hp}{h h':Heap}{a:V}{v:Value}(z:VR h (c.X H) a v)(S:aN h (c.Z H) h' (c.Z H')):VR h' (c.X H') a v:=z.stay S.toX
theorem dP.go{c:Cx}{H H':Hp}{h h':Heap}{a:List V}{v:List Value}(z:dP h (c.X H) a v)(S:aN h (c.Z H) h' (c.Z H')):dP h' (c.X H') a v:=z.stay S.toX
noncomputable abbrev Cx.M(c:Cx):Model:=model pw c.w
noncomputable def uK(env:Env)(h:Heap)(x:Str)(v:Value):Prop:=
 (env.kindOf x=some .local∧∃ m,h.Ns env.locals m∧m x=some v)∨
 ((env.kindOf x=some .cell∨env.kindOf x=some .free)∧∃ k,env.cells.lookup x=some k∧h.IsCell k (some v))
inductive At{α:Type}:List Str→List α→Str→α→Prop
 | head {x:Str} {ns:List Str} {a:α} {vs:List α}:At (x::ns) (a::vs) x a
 | tail {x y:Str} {ns:List Str} {a b:α} {vs:List α}:At ns vs x a→At (y::ns) (b::vs) x a
inductive pW{α:Type}:List Str→List α→Str→α→List α→Prop
 | head {x:Str} {ns:List Str} {a b:α} {vs:List α}:pW (x::ns) (b::vs) x a (a::vs)
 | tail {x y:Str} {ns:List Str} {a b:α} {vs vs':List α}:pW ns vs x a vs'→pW (y::ns) (b::vs) x a (b::vs')
theorem At.i{α:Type}(k:Nat){ns:List Str}{vs:List α}{x:Str}{a:α}(h:ns[k]?=some x)(h':vs[k]?=some a):At ns vs x a:=by
 induction k generalizing ns vs with
 | zero=>
  cases ns with
  | nil=>exact nomatch h
  | cons n ns=>
   cases vs with
   | nil=>exact nomatch h'
   | cons v vs=>cases h;cases h';exact .head
 | succ k ih=>
  cases ns with
  | nil=>exact nomatch h
  | cons n ns=>
   cases vs with
   | nil=>exact nomatch h'
   | cons v vs=>exact .tail (ih h h')
inductive iK:Hp→Addr→bW→Prop
 | head {a:Addr} {o:bW} {H:Hp}:iK ((a,o)::H) a o
 | tail {a:Addr} {o:bW} {p:Addr×bW} {H:Hp}:iK H a o→iK (p::H) a o
inductive du:Hp→Addr→bW→bW→Hp→Prop
 | head {a:Addr} {o o':bW} {H:Hp}:du ((a,o)::H) a o o' ((a,o')::H)
 | tail {a:Addr} {o o':bW} {p:Addr×bW} {H H':Hp}:du H a o o' H'→du (p::H) a o o' (p::H')
theorem iK.mem{H:Hp}{a:Addr}{o:bW}(h:iK H a o):(a,o)∈H:=by
 induction h with
 | head=>exact ah
 | tail _ ih=>exact ai _ ih
theorem du.inH{H H':Hp}{a:Addr}{o o':bW}(h:du H a o o' H'):iK H a o:=by
 induction h with
 | head=>exact .head
 | tail _ ih=>exact .tail ih
theorem du.haddrs{H H':Hp}{a:Addr}{o o':bW}(h:du H a o o' H')(e:o'.addrs a=o.addrs a):Mine.haddrs H'=Mine.haddrs H:=by
 induction h with
 | head=>simp[Mine.haddrs,e]
 | tail _ ih=>simpa[Mine.haddrs]using ih e
theorem du.apart{H H':Hp}{a:Addr}{o o':bW}(h:du H a o o' H')(hn:(Mine.haddrs H).Nodup):∀ {b:Addr} {x:bW},(b,x)∈H'→(b=a∧x=o')∨((b,x)∈H∧∀ y∈x.addrs b,y∉o.addrs a):=by
 induction h with
 | head=>
  intro b x hm;rcases aF.mp hm with e | hm
  ·cases e;exact .inl ⟨rfl,rfl⟩
  ·refine .inr ⟨ai _ hm,fun y hy hy'=>?_⟩;simp only[Mine.haddrs,a0]at hn;exact(aJ.mp hn).2.2 _ hy' y (cZ.mpr ⟨_,hm,hy⟩) rfl
 | tail h' ih=>
  intro b x hm;simp only[Mine.haddrs,a0]at hn;rcases aF.mp hm with e | hm
  ·subst e;refine .inr ⟨ah,fun y hy hy'=>?_⟩;exact(aJ.mp hn).2.2 _ hy y (cZ.mpr ⟨_,h'.inH.mem,hy'⟩) rfl
  ·exact(ih (aJ.mp hn).2.1 hm).imp id fun hP=>by obtain⟨p,q⟩:=hP;exact⟨ai _ p,q⟩
theorem nu{a:V}(h:a.ctorIdx.beq 10=false):a≠ .unb:=fun e=>au ((e▸h:cB (V.ctorIdx .unb) 10=false).symm.trans rfl)
noncomputable def iz(h:Heap):Prop:=(∃ ps,h.get? 84=some { cls:=.none,data:=.fields ps }∧TriplesOk ps.toList)∧(∃ ps,h.get? 91=some { cls:=.none,data:=.fields ps }∧TriplesOk ps.toList)
noncomputable def Mw(c:Cx)(vals:List V)(x:Str)(a:V):Prop:=At c.names vals x a∨(x,a)∈c.fr
structure Rel(c:Cx)(vals:List V)(H:Hp)(s:Shared):Prop where
 vars:∀ x a,Mw c vals x a→a= .unb∨∃ v,uK c.env s.heap x v∧VR s.heap (c.X H) a v
 loc:∃ m,s.heap.Ns c.env.locals m
 cel:∀ x k,c.env.cells.lookup x=some k→∃ v,s.heap.IsCell k v
 objs:∀ a o,(a,o)∈H→MR s.heap (c.X H) a o
 nodup:(c.own++haddrs H).Nodup
 apart:∀ x∈c.own++haddrs H,x∉c.Y
 there:∀ x∈c.X H,∃ o,s.heap.get? x=some o
 new:∀ x∈c.own++haddrs H,c.B.get? x=none∨x∈c.W
 keep:∀ b o,c.B.get? b=some o→b∉c.W→b∉TB→s.heap.get? b=some o
 base:ey s.heap
 tabs:iz s.heap
 gens:eL s.gens
 os:s.os=c.os
 hi:∀ x∈c.own++haddrs H,265≤x
structure Cx.Ok(c:Cx):Prop where
 kind:c.env.scope.kind= .function
 glob:c.env.globals=3
 blt:c.env.builtins=0
 loc:c.env.locals∈c.own
 cell:∀ x∈c.names,∀ k,c.env.kindOf x=some .cell→c.env.cells.lookup x=some k→k∈c.own∧k≠c.env.locals
 cells:∀ x k,c.env.cells.lookup x=some k→(k∈c.own∧k≠c.env.locals)∨k∈c.Y∨(k<265∧k∉TB)
 inj:∀ x y k,c.env.cells.lookup x=some k→c.env.cells.lookup y=some k→x=y
 tb:∀ x∈TB,x∈c.Y
 nn:c.names.Nodup
 nd:∀ x∈c.names,(x == ("__debug__" :Str))=false
 nc:∀ x∈c.names,(x == ("__classdict__" :Str))=false
 sto:∀ x∈c.names,c.env.kindOf x=some .local∨(c.env.kindOf x=some .cell∧(c.env.cells.lookup x).isSome=true)
 dj:∀ p∈c.fr,p.1∉c.names∧(p.1 == ("__debug__" :Str))=false∧(p.1 == ("__classdict__" :Str))=false
 gl:∀ x v,At c.gn c.gv x v→c.env.kindOf x=some .globalImplicit∧(x == ("__debug__" :Str))=false∧(uG.lookup x=some v∨p8.lookup x=some v)
 cnk:∀ x∈c.cn,(c.env.kindOf x=some .cell∨c.env.kindOf x=some .free)∧(c.env.cells.lookup x).isSome=true
 frm:∃ l,c.A.frames=some l
 dep:c.A.depth≤400+2*c.lvl
 uni:c.A.units≤100+50*c.lvl
 low:c.lvl≤20
theorem Cx.Ok.depth{c:Cx}(ok:c.Ok):c.A.depth+10≤500:=by have w1:=ok.dep;have:=ok.low;exact aH [c.A.depth,c.lvl] 2923245995978332525567797228594055183859172848435265 tt w1 this
theorem Cx.Ok.units{c:Cx}(ok:c.Ok):c.A.units+100≤5000:=by have w1:=ok.uni;have:=ok.low;exact aH [c.A.units,c.lvl] 31385704836371771981890287215600793073437737098526674341855297 tt w1 this
inductive a8{α β:Type}(c:Cx)(H:Hp)(s:Shared)(R:Heap→List Addr→β→α→Prop)(Q:β→List V→Hp→Prop)(v:α)(s':Shared):Prop
 | mk (b:β) (vals':List V) (H':Hp) (r:Rel c vals' H' s') (S:aN s.heap (c.Z H) s'.heap (c.Z H')) (h:R s'.heap (c.X H') b v) (q:Q b vals' H')
noncomputable abbrev dK:=Value→Shared→List V→Hp→Prop
inductive cF(c:Cx)(H:Hp)(s:Shared)(EX:dK)(e:Value)(s':Shared):Prop
 | mk (vals':List V) (H':Hp) (r:Rel c vals' H' s') (S:aN s.heap (c.Z H) s'.heap (c.Z H')) (h:EX e s' vals' H')
noncomputable def Tn{α β:Type}(c:Cx)(vals:List V)(H:Hp)(as:List V)(f:List Value→Sem α)(R:Heap→List Addr→β→α→Prop)(Q:β→List V→Hp→Prop)(EX:dK):Prop:=
 ∀ s vs,Rel c vals H s→dP s.heap (c.X H) as vs→wpAny c.M c.A (f vs) (a8 c H s R Q) (cF c H s EX) s
noncomputable def T2{α β:Type}(c:Cx)(vals:List V)(H:Hp)(a b:V)(f:Value→Value→Sem α)(R:Heap→List Addr→β→α→Prop)(Q:β→List V→Hp→Prop)(EX:dK):Prop:=
 ∀ s v u,Rel c vals H s→VR s.heap (c.X H) a v→VR s.heap (c.X H) b u→wpAny c.M c.A (f v u) (a8 c H s R Q) (cF c H s EX) s
noncomputable def T1{α β:Type}(c:Cx)(vals:List V)(H:Hp)(a:V)(f:Value→Sem α)(R:Heap→List Addr→β→α→Prop)(Q:β→List V→Hp→Prop)(EX:dK):Prop:=
 ∀ s v,Rel c vals H s→VR s.heap (c.X H) a v→wpAny c.M c.A (f v) (a8 c H s R Q) (cF c H s EX) s
noncomputable def T0{α β:Type}(c:Cx)(vals:List V)(H:Hp)(f:Sem α)(R:Heap→List Addr→β→α→Prop)(Q:β→List V→Hp→Prop)(EX:dK):Prop:=
 ∀ s,Rel c vals H s→wpAny c.M c.A f (a8 c H s R Q) (cF c H s EX) s
noncomputable abbrev Ev(c:Cx)(vals:List V)(H:Hp)(e:Expr)(Q:V→List V→Hp→Prop)(EX:dK):Prop:=T0 c vals H (eval e c.env) VR Q EX
noncomputable def BR(_:Heap)(_:List Addr)(b v:Bool):Prop:=v=b
noncomputable def UR(_:Heap)(_:List Addr)(_ v:Unit):Prop:=v=()
inductive Fl where
 | next | brk | cont
 | ret(a:V)
inductive FR(h:Heap)(X:List Addr):Fl→Flow→Prop
 | next:FR h X .next .next
 | brk:FR h X .brk .brk
 | cont:FR h X .cont .cont
 | ret {a:V} {v:Value}:VR h X a v→FR h X (.ret a) (.ret v)
noncomputable abbrev F7(c:Cx)(vals:List V)(H:Hp)(e:Expr)(Q:Bool→List V→Hp→Prop)(EX:dK):Prop:=T0 c vals H (isTrue e c.env (eval e c.env)) BR Q EX
noncomputable abbrev Ss(c:Cx)(vals:List V)(H:Hp)(l:List Stmt)(Q:Fl→List V→Hp→Prop)(EX:dK):Prop:=T0 c vals H (execs l c.env) FR Q EX
noncomputable abbrev S1(c:Cx)(vals:List V)(H:Hp)(st:Stmt)(Q:Fl→List V→Hp→Prop)(EX:dK):Prop:=T0 c vals H (exec st c.env) FR Q EX
end
section
theorem C2{M:Model}{A:Around}{s:Shared}{c:Code}{R:Result→Shared→Prop}(hq:c.quiet=true)(I:Nat→Shared→Prop)
  (turn:∀ (n:Nat) (s:Shared),I n s→∀ (Q:lD→Shared→Prop) (E:Value→Shared→Prop),(∀ (f:Flow) (s':Shared),R (.ok f) s'→Q (.done f) s')→(∀ (m:Nat) (s':Shared),m<n→I m s'→Q (.again c) s')→wpAny M (A.under c) (M.den c) Q E s)(n:Nat)(h:I n s):cb M A c R s:=
 codeAny_loop hq I (fun n s h=>turn n s h _ _ (fun _ _ x=>x) fun m _ hm hI=>⟨rfl,m,hm,hI⟩) n h
theorem wS{α:Type}{M:Model}{A:Around}{t:Sem α}{Q:α→Shared→Prop}{E:Value→Shared→Prop}{s:Shared}(h:∀ Q':α→Shared→Prop,(∀ ⦃v s⦄,Q v s→Q' v s)→wpAny M A t Q' E s):wpAny M A t Q E s:=h Q fun _ _ x=>x
theorem L3{α:Type}{M:Model}{A:Around}{c:Code}{t:Sem α}{Q:α→Shared→Prop}{E:Value→Shared→Prop}{s:Shared}(h:∀ (Q':α→Shared→Prop) (E':Value→Shared→Prop),(∀ ⦃v s⦄,Q v s→Q' v s)→(∀ ⦃e s⦄,E e s→E' e s)→FY M A c t Q' E' s):FY M A c t Q E s:=
 h Q E (fun _ _ x=>x) fun _ _ x=>x
theorem mM{M:Model}{A:Around}{c:Code}{R:Result→Shared→Prop}{s:Shared}(h:∀ R':Result→Shared→Prop,(∀ ⦃r s⦄,R r s→R' r s)→cb M A c R' s):cb M A c R s:=h R fun _ _ x=>x
set_option tactic.hygienic true in
theorem KI{P:Params}{a:Addr}{o:Obj}(e:(KF P).lookup a=some o):a<265∧a∉TB:=by
 have q:∀ {K:PySem.W.Frag} {a:Addr} {o:Obj},K.lookup a=some o→a∈K.map (·.1):=by
  intro K
  induction K with
  | nil=>intro a o e;cases e
  | cons p K ih=>
   intro a o e;rw[c0]at e
   split at e
   ·rename_i h;rw[eP.mp h];exact ah
   ·exact ai _ (ih e)
 have m:=q e;have l:(KF P).map (·.1)= [43,46,51,52,58,65,75,81,88,95,97,103,112,118,121,122,59,66,82,89,96,104,119]:=rfl;rw[l]at m;have w:∀ a∈ [43,46,51,52,58,65,75,81,88,95,97,103,112,118,121,122,59,66,82,89,96,104,119],a<265∧a∉TB:=by decide
 exact w a m
theorem ey.of{h h':Heap}(b:ey h)(k:∀ x o,x<265→x∉TB→h.get? x=some o→h'.get? x=some o):ey h':=by
 obtain⟨⟨mc,ns,nn⟩,⟨ot,ht⟩,fns,⟨mg,g1,g2⟩,⟨mb,b1,b2⟩,⟨P,fr⟩,⟨ob,hb,lb⟩,⟨os,hs,ls⟩⟩:=b;refine⟨⟨mc,ns.at' fun o e=>k _ o (by decide) (by decide) e,nn⟩,⟨ot,k _ _ (by decide) (by decide) ht⟩,fun i a c hm=>?_,⟨mg,g1.at' fun o e=>k _ o (by decide) (by decide) e,g2⟩,⟨mb,b1.at' fun o e=>k _ o (by decide) (by decide) e,b2⟩,⟨P,fun a o e=>k a o (KI e).1 (KI e).2 (fr a o e)⟩,⟨ob,k _ _ (by decide) (by decide) hb,lb⟩,⟨os,k _ _ (by decide) (by decide) hs,ls⟩⟩;obtain⟨pm,ho,hc⟩:=fns i a c hm;have hlt:∀ q∈ou,q.2.1<265∧q.2.1∉TB∧q.2.2<265∧q.2.2∉TB:=by decide
 have q:=hlt _ hm;obtain⟨c',o,vs,t,e,g,r⟩:=hc;cases e;exact⟨pm,k _ _ q.1 q.2.1 ho,c,o,vs,t,rfl,k _ _ q.2.2.1 q.2.2.2 g,r⟩
theorem iz.of{h h':Heap}(t:iz h)(k:∀ x o,x∈TB→h.get? x=some o→h'.get? x=some o):iz h':=by
 refine nn fun hG=>?_;obtain⟨⟨p,hp,tp⟩,q,hq,tq⟩:=t;refine hG ?_;clear hG;exact⟨⟨p,k _ _ (by decide) hp,tp⟩,q,k _ _ (by decide) hq,tq⟩
section
variable{c:Cx}{vals:List V}{H:Hp}{s s':Shared}
theorem uK.of{env:Env}{h h':Heap}{x:Str}{v:Value}(y:uK env h x v)(kl:env.kindOf x=some .local→∀ o,h.get? env.locals=some o→h'.get? env.locals=some o)
  (kc:∀ k o,env.cells.lookup x=some k→h.get? k=some o→h'.get? k=some o):uK env h' x v:=by
 rcases y with ⟨kd,m,ns,hv⟩ | ⟨kd,k,hk,o,ho,hd⟩
 ·exact .inl ⟨kd,m,ns.at' (kl kd),hv⟩
 ·exact .inr ⟨kd,k,hk,o,kc k o hk ho,hd⟩
theorem jO.of{h h':Heap}{d:Addr}(y:jO h d)(k:∀ o,h.get? d=some o→h'.get? d=some o):jO h' d:=by
 refine nn fun hG=>?_;obtain⟨o,es,ep,t,ho,r⟩:=y;refine hG ?_;clear hG;exact⟨o,es,ep,t,k _ ho,r⟩
theorem MR.of{h h':Heap}{X X':List Addr}{a:Addr}{o:bW}(M:MR h X a o)(k:∀ b ob,b∈o.addrs a→h.get? b=some ob→h'.get? b=some ob)(S:aN h X h' X'):MR h' X' a o:=by
 cases o with
 | list l=>exact M.elim fun vs h=>h.elim fun n h=>⟨vs,n,k _ _ ah h.1,h.2.stay S⟩
 | acc d l=>exact M.elim fun vs h=>h.elim fun n h=>⟨vs,n,k _ _ ah h.1,h.2.1.stay S,h.2.2.of fun o e=>k _ _ Bh e⟩
 | raw o=>exact M.elim fun sl h=>⟨sl,k _ _ ah h⟩
theorem Rel.keeps(R:Rel c vals H s)(k:∀ b o,s.heap.get? b=some o→s'.heap.get? b=some o)(g:eL s'.gens)(os:s'.os=s.os):Rel c vals H s' where
 vars x a h:=(R.vars x a h).imp id (Exists.imp fun v q=>⟨q.1.of (fun _ o e=>k _ o e) fun _ o _ e=>k _ o e,q.2.stay fun b o e n=>⟨k b o e,n⟩⟩)
 loc:=R.loc.imp fun m n=>n.keeps k
 cel x y h:=(R.cel x y h).imp fun v n=>n.keeps k
 objs a o h:=(R.objs a o h).of (fun b ob _ e=>k b ob e) fun b o e n=>⟨k b o e,n⟩
 nodup:=R.nodup
 apart:=R.apart
 there x h:=(R.there x h).imp fun o e=>k _ _ e
 new:=R.new
 keep b o e h1 h2:=k _ _ (R.keep b o e h1 h2)
 base:=R.base.of fun x o _ _ e=>k x o e
 tabs:=R.tabs.of fun x o _ e=>k x o e
 gens:=g
 os:=os.trans R.os
 hi:=R.hi
theorem aN.keeps{h h':Heap}{X:List Addr}(k:∀ b o,h.get? b=some o→h'.get? b=some o):aN h X h' X:=fun b o e n=>⟨k b o e,n⟩
theorem c4(ok:c.Ok)(R:Rel c vals H s){x:Addr}(h:x∈c.own++haddrs H):x∉TB:=fun t=>R.apart x h (ok.tb x t)
theorem Rel.celTB(R:Rel c vals H s):∀ y q,c.env.cells.lookup y=some q→q∉TB:=fun y q hq hm=>by
 refine nn fun hG=>?_;obtain⟨v,o,e,hc⟩:=R.cel y q hq;refine hG ?_;clear hG;refine nn fun hG=>?_;obtain⟨⟨p1,q1,_⟩,p2,q2,_⟩:=R.tabs;refine hG ?_;clear hG;refine(aF.mp hm).elim (fun h=>?_) fun h=>?_
 ·rw[h,q1]at e;cases e;cases hc
 ·rw[ao.mp h,q2]at e;cases e;cases hc
theorem sr{vals₁ vals₂:List V}{H₁ H₂:Hp}{s₁ s₂:Shared}(hW:c.W= [])(R₁:Rel c vals₁ H₁ s₁)(R₂:Rel c vals₂ H₂ s₂){b:Addr}{o o':Obj}(hT:b∉TB)(e':c.B.get? b=some o')(e:s₁.heap.get? b=some o):s₂.heap.get? b=some o:=
 (R₂.keep b o' e' (hW▸aZ) hT).trans ((R₁.keep b o' e' (hW▸aZ) hT).symm.trans e)
theorem Rel.change(ok:c.Ok)(R:Rel c vals H s){ds:List Addr}(hd:∀ x∈ds,x∈c.own++haddrs H)(k:∀ b o,b∉ds→b∉TB→s.heap.get? b=some o→s'.heap.get? b=some o)(tabs:iz s'.heap)(g:eL s'.gens)(os:s'.os=s.os)
  {vals':List V}{H':Hp}(hH:haddrs H'=haddrs H)(hds:∀ x∈ds,∃ o,s'.heap.get? x=some o)
  (vars:∀ x a,Mw c vals' x a→a= .unb∨∃ v,uK c.env s'.heap x v∧VR s'.heap (c.X H') a v)
  (loc:∃ m,s'.heap.Ns c.env.locals m)
  (cel:∀ x k,c.env.cells.lookup x=some k→∃ v,s'.heap.IsCell k v)
  (objs:∀ a o,(a,o)∈H'→MR s'.heap (c.X H') a o):Rel c vals' H' s' where
 vars:=vars
 loc:=loc
 cel:=cel
 objs:=objs
 nodup:=by rw[hH];exact R.nodup
 apart:=by rw[hH];exact R.apart
 there x h:=by
  have e:c.X H'=c.X H:=by unfold Cx.X Cx.Z;rw[hH]
  rw[e]at h;obtain⟨o,e⟩:=R.there x h;by_cases q:x∈ds
  ·exact hds x q
  ·by_cases t:x∈TB
   ·refine nn fun hG=>?_;obtain⟨⟨p1,q1,_⟩,p2,q2,_⟩:=tabs;refine hG ?_;clear hG;exact all2 (P:=fun x=>∃ o,s'.heap.get? x=some o) ⟨_,q1⟩ ⟨_,q2⟩ x t
   ·exact⟨o,k _ _ q t e⟩
 new:=by rw[hH];exact R.new
 keep b o e h1 h2:=k _ _ (fun q=>(R.new b (hd b q)).elim (fun z=>by rw[e]at z;cases z) h1) h2 (R.keep b o e h1 h2)
 base:=R.base.of fun x o h1 h2 e=>k x o (fun q=>absurd (R.hi x (hd x q)) (bU.mpr h1)) h2 e
 tabs:=tabs
 gens:=g
 os:=os.trans R.os
 hi:=by rw[hH];exact R.hi
theorem aN.change{ds:List Addr}{h h':Heap}{X:List Addr}(hd:∀ x∈ds,x∈X)(k:∀ b o,b∉ds→h.get? b=some o→h'.get? b=some o):aN h X h' X:=
 fun b o e n=>⟨k b o (fun q=>n (hd b q)) e,n⟩
theorem J9{H H':Hp}(hH:haddrs H'=haddrs H):c.X H'=c.X H:=by unfold Cx.X Cx.Z;rw[hH]
theorem DR{H H':Hp}(hH:haddrs H'=haddrs H):c.Z H'=c.Z H:=by unfold Cx.Z;rw[hH]
theorem wQ{x:Addr}(h:x∈c.own++haddrs H):x∈c.Z H:=ak _ h
theorem kP{x:Addr}(h:x∈c.own++haddrs H):x∈c.X H:=ak _ (wQ h)
theorem Rel.turn(ok:c.Ok)(R:Rel c vals H s){H':Hp}{a:Addr}{o o':bW}(p:du H a o o' H')(ea:o'.addrs a=o.addrs a)
  (k:∀ b ob,b∉o.addrs a→s.heap.get? b=some ob→s'.heap.get? b=some ob)(g:eL s'.gens)(os:s'.os=s.os)
  (m:MR s'.heap (c.X H) a o'):Rel c vals H' s'∧aN s.heap (c.Z H) s'.heap (c.Z H'):=by
 have hH:=p.haddrs ea;have hX:=J9 (c:=c) hH;have hZ:=DR (c:=c) hH;have hd:∀ x∈o.addrs a,x∈c.own++haddrs H:=fun x h=>ak _ (bP.mpr ⟨_,p.inH.mem,h⟩);have hnd:=R.nodup;have own:∀ x∈c.own,x∉o.addrs a:=fun x h q=>(aJ.mp hnd).2.2 x h x (bP.mpr ⟨_,p.inH.mem,q⟩) rfl;have SZ:aN s.heap (c.Z H) s'.heap (c.Z H):=aN.change (fun x h=>wQ (hd x h)) k;have S:=SZ.toX;have cel:∀ x q,c.env.cells.lookup x=some q→q∉o.addrs a:=fun x q hq hm=>(ok.cells x q hq).elim (fun z=>own q z.1 hm) fun z=>z.elim (fun z=>R.apart q (hd q hm) z) fun z=>absurd (R.hi q (hd q hm)) (bU.mpr z.1);refine⟨R.change ok hd (fun b o h _ e=>k b o h e) (R.tabs.of fun x o h e=>k x o (fun q=>c4 ok R (hd x q) h) e) g os hH ?_ ?_ ?_ ?_ ?_,by rw[hZ];exact SZ⟩
 ·intro x hx;rw[← ea]at hx
  cases o' with
  | list l=>simp[bW.addrs]at hx;subst hx;obtain⟨_,_,e,_⟩:=m;exact⟨_,e⟩
  | raw ob=>simp[bW.addrs]at hx;subst hx;obtain⟨sl,m⟩:=m;exact⟨_,m⟩
  | acc d l=>
   refine nn fun hG=>?_;obtain⟨_,_,e,_,od,_,_,_,e',_⟩:=m;refine hG ?_;clear hG;simp[bW.addrs]at hx;rcases hx with rfl | rfl
   ·exact⟨_,e⟩
   ·exact⟨_,e'⟩
 ·intro x b h;exact(R.vars x b h).imp id fun hP=>by obtain⟨v,y,z⟩:=hP;exact⟨v,y.of (fun kd ob e=>k _ _ (own _ ok.loc) e) (fun q ob hq e=>k _ _ (cel x q hq) e),by rw[hX];exact z.stay S⟩
 ·obtain⟨mm,n⟩:=R.loc;exact⟨mm,n.at' fun ob e=>k _ _ (own _ ok.loc) e⟩
 ·intro x q hq;refine nn fun hG=>?_;obtain⟨v,ob,e,hc⟩:=R.cel x q hq;refine hG ?_;clear hG;exact⟨v,ob,k _ _ (cel x q hq) e,hc⟩
 ·intro b ob h;rw[hX];rcases p.apart (aJ.mp hnd).2.1 h with ⟨rfl,rfl⟩ | ⟨h1,h2⟩
  ·exact m
  ·exact(R.objs b ob h1).of (fun y oy hy e=>k _ _ (h2 y hy) e) S
theorem At.mem{α:Type}{ns:List Str}{vs:List α}{y:Str}{b:α}(h:At ns vs y b):y∈ns:=by
 induction h with
 | head=>exact ah
 | tail _ ih=>exact ai _ ih
theorem pW.mem{α:Type}{ns:List Str}{vs vs':List α}{y:Str}{b:α}(h:pW ns vs y b vs'):y∈ns:=by
 induction h with
 | head=>exact ah
 | tail _ ih=>exact ai _ ih
theorem GU{α:Type}{ns:List Str}{vs vs':List α}{x:Str}{a:α}(p:pW ns vs x a vs')(nn:ns.Nodup):∀ {y:Str} {b:α},At ns vs' y b→(y=x∧b=a)∨(y≠x∧At ns vs y b):=by
 induction p with
 | head=>
  intro y b h
  cases h with
  | head=>exact .inl ⟨rfl,rfl⟩
  | tail h=>
   refine .inr ⟨?_, .tail h⟩;intro e;exact(cg.mp nn).1 (e▸h.mem)
 | tail p' ih=>
  intro y b h
  cases h with
  | head=>exact .inr ⟨fun e=>(cg.mp nn).1 (e▸p'.mem), .head⟩
  | tail h=>exact(ih (cg.mp nn).2 h).imp id fun hP=>by obtain⟨z,w⟩:=hP;exact⟨z, .tail w⟩
theorem DF(ok:c.Ok){vals':List V}{x:Str}{a:V}(p:pW c.names vals x a vals'){y:Str}{b:V}(h:Mw c vals' y b):(y=x∧b=a)∨(y≠x∧Mw c vals y b):=by
 rcases h with h | h
 ·exact(GU p ok.nn h).imp id fun hP=>by obtain⟨z,w⟩:=hP;exact⟨z, .inl w⟩
 ·exact .inr ⟨fun e=>(ok.dj _ h).1 (e▸p.mem), .inr h⟩
theorem Rel.storeLocal(ok:c.Ok)(R:Rel c vals H s){x:Str}{a:V}{v:Value}{vals':List V}(hk:c.env.kindOf x=some .local)(p:pW c.names vals x a vals')(r:VR s.heap (c.X H) a v)
  {m:Str→Option Value}(hm:s.heap.Ns c.env.locals m)(hn:s'.heap.Ns c.env.locals (fun y=>if y=x then some v else m y))(hs:cD c.env.locals s.heap s'.heap)(g:eL s'.gens)(os:s'.os=s.os):
  Rel c vals' H s'∧aN s.heap (c.Z H) s'.heap (c.Z H):=by
 have hd:∀ y∈ [c.env.locals],y∈c.own++haddrs H:=fun y h=>by rw[ao.mp h];exact aj _ ok.loc
 have k:∀ b o,b∉ [c.env.locals]→s.heap.get? b=some o→s'.heap.get? b=some o:=fun b o hb e=>hs.extBut b o (fun z=>hb (by simp[z])) e;have SZ:aN s.heap (c.Z H) s'.heap (c.Z H):=aN.change (fun y h=>wQ (hd y h)) k;have S:=SZ.toX;have cel:∀ y q,c.env.cells.lookup y=some q→q∉ [c.env.locals]:=fun y q hq hm'=>(ok.cells y q hq).elim (fun z=>z.2 (ao.mp hm')) fun z=>z.elim (fun z=>R.apart q (hd q hm') z) fun z=>absurd (R.hi q (hd q hm')) (bU.mpr z.1);refine⟨R.change ok hd (fun b o h _ e=>k b o h e) (R.tabs.of fun x o h e=>k x o (fun q=>c4 ok R (hd x q) h) e) g os rfl ?_ ?_ ⟨_,hn⟩ ?_ ?_,SZ⟩
 ·intro y hy;rw[ao.mp hy];refine nn fun hG=>?_;obtain⟨o,_,_,e,_⟩:=hn;refine hG ?_;clear hG;exact⟨o,e⟩
 ·intro y b h;rcases DF ok p h with ⟨rfl,rfl⟩ | ⟨ne,h⟩
  ·exact .inr ⟨v, .inl ⟨hk,_,hn,by simp⟩,r.stay S⟩
  ·refine(R.vars y b h).imp id fun⟨u,z,q⟩=>⟨u,?_,q.stay S⟩
   rcases z with ⟨kd,m',ns',e'⟩ | ⟨kd,q',hq',o,ho,hc⟩
   ·refine .inl ⟨kd,_,hn,?_⟩;refine nn fun hG=>?_;obtain⟨o,es,ep,e1,e2,_,e3⟩:=hm;refine hG ?_;clear hG;refine nn fun hG=>?_;obtain⟨o',es',ep',f1,f2,_,f3⟩:=ns';refine hG ?_;clear hG;rw[e1]at f1;cases f1;rw[e2]at f2;cases f2;show (if y=x then some v else m y)=some u;rw[if_neg ne,← e3,f3];exact e'
   ·exact .inr ⟨kd,q',hq',o,k _ _ (cel y q' hq') ho,hc⟩
 ·intro y q hq;refine nn fun hG=>?_;obtain⟨u,o,e,hc⟩:=R.cel y q hq;refine hG ?_;clear hG;exact⟨u,o,k _ _ (cel y q hq) e,hc⟩
 ·intro b ob h;exact(R.objs b ob h).of (fun y oy hy e=>k _ _ (fun z=>by
   have hnd:=R.nodup;rw[ao.mp z]at hy;exact(aJ.mp hnd).2.2 _ ok.loc _ (bP.mpr ⟨_,h,hy⟩) rfl) e) S
theorem Rel.storeCell(ok:c.Ok)(R:Rel c vals H s){x:Str}{a:V}{v:Value}{q:Addr}{vals':List V}(hk:c.env.kindOf x=some .cell)(hq:c.env.cells.lookup x=some q)(p:pW c.names vals x a vals')(r:VR s.heap (c.X H) a v)
  (hn:s'.heap.IsCell q (some v))(hs:cD q s.heap s'.heap)(g:eL s'.gens)(os:s'.os=s.os):
  Rel c vals' H s'∧aN s.heap (c.Z H) s'.heap (c.Z H):=by
 obtain⟨qo,ql⟩:=ok.cell x p.mem q hk hq;have hd:∀ y∈ [q],y∈c.own++haddrs H:=fun y h=>by rw[ao.mp h];exact aj _ qo
 have k:∀ b o,b∉ [q]→s.heap.get? b=some o→s'.heap.get? b=some o:=fun b o hb e=>hs.extBut b o (fun z=>hb (by simp[z])) e;have SZ:aN s.heap (c.Z H) s'.heap (c.Z H):=aN.change (fun y h=>wQ (hd y h)) k;have S:=SZ.toX;have ll:c.env.locals∉ [q]:=fun z=>ql (ao.mp z).symm;refine⟨R.change ok hd (fun b o h _ e=>k b o h e) (R.tabs.of fun x o h e=>k x o (fun q=>c4 ok R (hd x q) h) e) g os rfl ?_ ?_ ?_ ?_ ?_,SZ⟩
 ·intro y hy;rw[ao.mp hy];refine nn fun hG=>?_;obtain⟨o,e,_⟩:=hn;refine hG ?_;clear hG;exact⟨o,e⟩
 ·intro y b h;rcases DF ok p h with ⟨rfl,rfl⟩ | ⟨ne,h⟩
  ·exact .inr ⟨v, .inr ⟨.inl hk,q,hq,hn⟩,r.stay S⟩
  ·refine(R.vars y b h).imp id fun⟨u,z,w⟩=>⟨u,z.of (fun _ o e=>k _ _ ll e) (fun q' o hq' e=>k _ _ (fun z=>?_) e),w.stay S⟩
   rw[ao.mp z]at hq';exact ne (ok.inj y x q hq' hq)
 ·obtain⟨m,n⟩:=R.loc;exact⟨m,n.at' fun o e=>k _ _ ll e⟩
 ·intro y q' hq';by_cases e:q'=q
  ·subst e;exact⟨_,hn⟩
  ·refine nn fun hG=>?_;obtain⟨u,o,e',hc⟩:=R.cel y q' hq';refine hG ?_;clear hG;exact⟨u,o,k _ _ (fun z=>e (ao.mp z)) e',hc⟩
 ·intro b ob h;exact(R.objs b ob h).of (fun y oy hy e=>k _ _ (fun z=>by
   have hnd:=R.nodup;rw[ao.mp z]at hy;exact(aJ.mp hnd).2.2 _ qo _ (bP.mpr ⟨_,h,hy⟩) rfl) e) S
theorem Rel.fresh(R:Rel c vals H s){a:Addr}(h:∀ o,s.heap.get? a≠some o):a∉c.X H∧(c.B.get? a=none∨a∈c.W)∧a∉TB:=by
 have hx:a∉c.X H:=fun z=>by obtain⟨o,e⟩:=R.there a z;exact h o e
 have tb:a∉TB:=fun z=>by
  refine nn fun hG=>?_;obtain⟨⟨p,hp,_⟩,q,hq,_⟩:=R.tabs;refine hG ?_;clear hG;exact all2 (P:=fun x=>x≠a) (fun e=>h _ (e▸hp)) (fun e=>h _ (e▸hq)) a z rfl
 refine⟨hx,?_,tb⟩
 cases e:c.B.get? a with
 | none=>exact .inl rfl
 | some o=>
  by_cases w:a∈c.W
  ·exact .inr w
  ·exact absurd (R.keep a o e w tb) (h o)
theorem Rel.lay(R:Rel c vals H s){a:Addr}{mo:bW}(hf:∀ x∈mo.addrs a,(∀ o,s.heap.get? x≠some o)∧265≤x)(hn:(mo.addrs a).Nodup)(k:∀ b o,s.heap.get? b=some o→s'.heap.get? b=some o)(g:eL s'.gens)(os:s'.os=s.os)
  (m:MR s'.heap (c.X ((a,mo)::H)) a mo):Rel c vals ((a,mo)::H) s'∧aN s.heap (c.Z H) s'.heap (c.Z ((a,mo)::H)):=by
 have hZ:∀ {x},x∈c.Z ((a,mo)::H)↔x∈c.Z H∨x∈mo.addrs a:=by
  intro x;simp only[Cx.Z,haddrs,a0,aw]
  constructor
  ·rintro (h | h | h | h)<;>simp[h]
  ·rintro ((h | h | h) | h)<;>simp[h]
 have hX:∀ {x},x∈c.X ((a,mo)::H)↔x∈c.X H∨x∈mo.addrs a:=by
  intro x;simp only[Cx.X,aw,hZ]
  constructor
  ·rintro (h | h | h)<;>simp[h]
  ·rintro ((h | h) | h)<;>simp[h]
 have SZ:aN s.heap (c.Z H) s'.heap (c.Z ((a,mo)::H)):=fun b o e n=>⟨k b o e,fun z=>(hZ.mp z).elim n fun z=>(hf b z).1 o e⟩
 have S:=SZ.toX;have old:∀ x,x∈c.own++haddrs ((a,mo)::H)→x∈c.own++haddrs H∨x∈mo.addrs a:=by
  intro x h;simp only[haddrs,a0,aw]at h ⊢;rcases h with h | h | h<;>simp[h]
 refine⟨⟨?_,?_,?_,?_,?_,?_,?_,?_,?_,?_,?_,g,os.trans R.os,?_⟩,SZ⟩
 ·exact fun x b h=>(R.vars x b h).imp id fun⟨v,y,z⟩=>⟨v,y.of (fun _ o e=>k _ o e) fun _ o _ e=>k _ o e,z.stay S⟩
 ·exact let ⟨m,n⟩:=R.loc;⟨m,n.keeps k⟩
 ·exact fun x y h=>let ⟨v,n⟩:=R.cel x y h;⟨v,n.keeps k⟩
 ·intro b ob h;rcases aF.mp h with e | h
  ·cases e;exact m
  ·exact(R.objs b ob h).of (fun b ob _ e=>k b ob e) S
 ·have nd:=R.nodup;rw[aJ]at nd ⊢;simp only[haddrs,a0]
  refine⟨nd.1,aJ.mpr ⟨hn,nd.2.1,fun x hx y hy e=>?_⟩,fun x hx y hy e=>?_⟩
  ·subst e;obtain⟨o,e⟩:=R.there x (kP (ak _ hy));exact(hf x hx).1 o e
  ·subst e;rcases aw.mp hy with hy | hy
   ·obtain⟨o,e⟩:=R.there x (kP (aj _ hx));exact(hf x hy).1 o e
   ·exact nd.2.2 x hx x hy rfl
 ·intro x h;rcases old x h with h | h
  ·exact R.apart x h
  ·exact fun z=>by
    obtain⟨o,e⟩:=R.there x (aj _ z);exact(hf x h).1 o e
 ·intro x h;rcases hX.mp h with h | h
  ·obtain⟨o,e⟩:=R.there x h;exact⟨o,k _ _ e⟩
  ·cases mo with
   | list l=>simp[bW.addrs]at h;subst h;obtain⟨_,_,e,_⟩:=m;exact⟨_,e⟩
   | raw ob=>simp[bW.addrs]at h;subst h;obtain⟨sl,m⟩:=m;exact⟨_,m⟩
   | acc d l=>
    refine nn fun hG=>?_;obtain⟨_,_,e,_,od,_,_,_,e',_⟩:=m;refine hG ?_;clear hG;simp[bW.addrs]at h;rcases h with rfl | rfl
    ·exact⟨_,e⟩
    ·exact⟨_,e'⟩
 ·intro x h;rcases old x h with h | h
  ·exact R.new x h
  ·exact(R.fresh (hf x h).1).2.1
 ·exact fun b o e h1 h2=>k _ _ (R.keep b o e h1 h2)
 ·exact R.base.of fun x o _ _ e=>k x o e
 ·exact R.tabs.of fun x o _ e=>k x o e
 ·intro x h;rcases old x h with h | h
  ·exact R.hi x h
  ·exact(hf x h).2
theorem Rel.size(R:Rel c vals H s):265≤s.heap.objs.size:=by
 obtain⟨o,e⟩:=R.base.top;exact bu e
theorem Rel.none_at_size(_:Rel c vals H s):∀ o,s.heap.get? s.heap.objs.size≠some o:=fun _ e=>dh _ (bu e)
theorem Rel.drop(R:Rel c vals H s){H':Hp}{vals':List V}(hH:∀ p∈H',p∈H)(hn:(haddrs H').Nodup)(hv:∀ x a,At c.names vals' x a→a= .unb∨At c.names vals x a∨∃ v,uK c.env s.heap x v∧VR s.heap (c.X H') a v)
   :Rel c vals' H' s∧aN s.heap (c.Z H) s.heap (c.Z H'):=by
 have sub:∀ x,x∈haddrs H'→x∈haddrs H:=fun x h=>by obtain⟨p,hp,hx⟩:=bP.mp h;exact bP.mpr ⟨p,hH p hp,hx⟩
 have sub2:∀ x,x∈c.own++haddrs H'→x∈c.own++haddrs H:=fun x h=>by
  rcases aw.mp h with h | h
  ·exact aj _ h
  ·exact ak _ (sub x h)
 have subZ:∀ x,x∈c.Z H'→x∈c.Z H:=fun x h=>by
  rcases aw.mp h with h | h
  ·exact aj _ h
  ·exact ak _ (sub2 x h)
 have subX:∀ x,x∈c.X H'→x∈c.X H:=fun x h=>by
  rcases aw.mp h with h | h
  ·exact aj _ h
  ·exact ak _ (subZ x h)
 have SZ:aN s.heap (c.Z H) s.heap (c.Z H'):=fun b o e n=>⟨e,fun z=>n (subZ b z)⟩
 have S:=SZ.toX;refine⟨⟨?_,R.loc,R.cel,?_,?_,fun x h=>R.apart x (sub2 x h),fun x h=>R.there x (subX x h),fun x h=>R.new x (sub2 x h),R.keep,R.base,R.tabs,R.gens,R.os,fun x h=>R.hi x (sub2 x h)⟩,SZ⟩
 ·intro x a h;rcases h with h | h
  ·rcases hv x a h with h | h | h
   ·exact .inl h
   ·exact(R.vars x a (.inl h)).imp id fun hP=>by obtain⟨v,y,z⟩:=hP;exact⟨v,y,z.stay S⟩
   ·exact .inr h
  ·exact(R.vars x a (.inr h)).imp id fun hP=>by obtain⟨v,y,z⟩:=hP;exact⟨v,y,z.stay S⟩
 ·exact fun a o h=>(R.objs a o (hH _ h)).of (fun _ _ _ e=>e) S
 ·have nd:=R.nodup;rw[aJ]at nd ⊢;exact⟨nd.1,hn,fun x hx y hy e=>nd.2.2 x hx y (sub y hy) e⟩
end
end
section
noncomputable abbrev QV:=V→List V→Hp→Prop
noncomputable abbrev QF:=Fl→List V→Hp→Prop
noncomputable abbrev N4(c:Cx)(a:V)(f:Value→Value→Sem Value)(Q:QV)(EX:dK):QV:=fun b vals H=>T2 c vals H a b f VR Q EX
noncomputable abbrev K1(c:Cx)(e:Expr)(f:Value→Value→Sem Value)(Q:QV)(EX:dK):QV:=fun a vals H=>Ev c vals H e (N4 c a f Q EX) EX
inductive M7(Q:Bool→List V→Hp→Prop)(d:V)(vals:List V)(H:Hp):Prop
 | mk (t:Bool) (e:d= .bool t) (q:Q t vals H)
noncomputable abbrev NC(c:Cx)(Q:Bool→List V→Hp→Prop)(EX:dK):QV:=fun a vals H=>T1 c vals H a truthy BR Q EX
noncomputable abbrev NI(c:Cx)(a b:Expr)(Q:QV)(EX:dK):Bool→List V→Hp→Prop:=fun x vals H=>Ev c vals H (if x then a else b) Q EX
noncomputable abbrev K0(c:Cx)(a b:List Stmt)(Q:QF)(EX:dK):Bool→List V→Hp→Prop:=fun x vals H=>Ss c vals H (if x then a else b) Q EX
inductive MD(c:Cx)(x:Str)(Q:QF)(a:V)(vals:List V)(H:Hp):Prop
 | mk (vals':List V) (p:pW c.names vals x a vals') (q:Q .next vals' H)
noncomputable abbrev NM(c:Cx)(x:Str)(a:V)(op:Operator)(Q:QF)(EX:dK):QV:=fun b vals H=>T2 c vals H a b (inplaceOp op) VR (MD c x Q) EX
inductive Na(c:Cx)(x y:Str)(Q:QF)(a:V)(vals:List V)(H:Hp):Prop
 | mk (v₂:List V) (p:pW c.names vals x a v₂) (v₃:List V) (p':pW c.names v₂ y a v₃) (q:Q .next v₃ H)
inductive Mf(c:Cx)(x y:Str)(Q:QF)(a:V)(vals:List V)(H:Hp):Prop
 | mk (b d:V) (e:a= .tup [b,d]) (v₂:List V) (p:pW c.names vals y d v₂) (v₃:List V) (p':pW c.names v₂ x b v₃) (q:Q .next v₃ H)
section
variable{c:Cx}{vals:List V}{H:Hp}{s:Shared}{EX:dK}
theorem T0.abs{α β:Type}{R:Heap→List Addr→β→α→Prop}{Q:β→List V→Hp→Prop}{t:Sem α}(h:∀ Q':β→List V→Hp→Prop,(∀ ⦃b v h⦄,Q b v h→Q' b v h)→T0 c vals H t R Q' EX):T0 c vals H t R Q EX:=h Q fun _ _ _ x=>x
theorem a8.intro{α β:Type}{R:Heap→List Addr→β→α→Prop}{Q:β→List V→Hp→Prop}{v:α}{s':Shared}{b:β}{vals':List V}{H':Hp}(r:Rel c vals' H' s')(S:aN s.heap (c.Z H) s'.heap (c.Z H'))(h:R s'.heap (c.X H') b v)(q:Q b vals' H'):a8 c H s R Q v s':=
 ⟨b,vals',H',r,S,h,q⟩
theorem a8.stay{α β:Type}{R:Heap→List Addr→β→α→Prop}{Q:β→List V→Hp→Prop}{v:α}{s₁ s':Shared}{H₁:Hp}(S:aN s.heap (c.Z H) s₁.heap (c.Z H₁))(p:a8 c H₁ s₁ R Q v s'):a8 c H s R Q v s':=
 let ⟨b,vals',H',r,S',h,q⟩:=p;⟨b,vals',H',r,S.trans S',h,q⟩
theorem cF.stay{e:Value}{s₁ s':Shared}{H₁:Hp}(S:aN s.heap (c.Z H) s₁.heap (c.Z H₁))(p:cF c H₁ s₁ EX e s'):cF c H s EX e s':=
 let ⟨vals',H',r,S',h⟩:=p;⟨vals',H',r,S.trans S',h⟩
theorem dg{α β:Type}{R:Heap→List Addr→β→α→Prop}{Q:β→List V→Hp→Prop}{t:Sem α}{s₁:Shared}{H₁:Hp}(S:aN s.heap (c.Z H) s₁.heap (c.Z H₁))
  (h:wpAny c.M c.A t (a8 c H₁ s₁ R Q) (cF c H₁ s₁ EX) s₁):wpAny c.M c.A t (a8 c H s R Q) (cF c H s EX) s₁:=
 aK h (fun _ _ p=>p.stay S) fun _ _ p=>p.stay S
theorem bO{α β:Type}{R:Heap→List Addr→β→α→Prop}{Q:β→List V→Hp→Prop}{t:Sem α}{P:α→Shared→Prop}(h:wpAny c.M c.A t (a8 c H s R Q) (cF c H s EX) s)
  (k:∀ v s₁ b vals₁ H₁,Rel c vals₁ H₁ s₁→aN s.heap (c.Z H) s₁.heap (c.Z H₁)→R s₁.heap (c.X H₁) b v→Q b vals₁ H₁→P v s₁):wpAny c.M c.A t P (cF c H s EX) s:=
 aK h (fun v s₁ hP=>by obtain⟨b,vals₁,H₁,r,S,hr,q⟩:=hP;exact k v s₁ b vals₁ H₁ r S hr q) fun _ _ p=>p
theorem df{α β:Type}{R:Heap→List Addr→β→α→Prop}{Q:β→List V→Hp→Prop}{t:Sem α}{P:α→Shared→Prop}{s₁:Shared}{H₁:Hp}(S:aN s.heap (c.Z H) s₁.heap (c.Z H₁))(h:wpAny c.M c.A t (a8 c H₁ s₁ R Q) (cF c H₁ s₁ EX) s₁)
  (k:∀ v s₂ b vals₂ H₂,Rel c vals₂ H₂ s₂→aN s₁.heap (c.Z H₁) s₂.heap (c.Z H₂)→aN s.heap (c.Z H) s₂.heap (c.Z H₂)→R s₂.heap (c.X H₂) b v→Q b vals₂ H₂→P v s₂):wpAny c.M c.A t P (cF c H s EX) s₁:=
 aK h (fun v s₂ hP=>by obtain⟨b,vals₂,H₂,r,S',hr,q⟩:=hP;exact k v s₂ b vals₂ H₂ r S' (S.trans S') hr q) fun _ _ p=>p.stay S
theorem T0.mono{α β:Type}{R:Heap→List Addr→β→α→Prop}{Q Q':β→List V→Hp→Prop}{t:Sem α}(h:T0 c vals H t R Q EX)(k:∀ b vals' H',Q b vals' H'→Q' b vals' H'):T0 c vals H t R Q' EX:=
 fun s r=>bO (h s r) fun _ _ b vals₁ H₁ r' S hr q=>⟨b,vals₁,H₁,r',S,hr,k _ _ _ q⟩
theorem Rel.toks(r:Rel c vals H s)(t:Nat):Rel c vals H { s with toks:=t }:=r.keeps (fun _ _ e=>e) r.gens rfl
theorem bS{i:Int}{k:Nat}{pos:Pos}{Q:V→List V→Hp→Prop}(q:Q (.int i) vals H):Ev c vals H (.Constant (.int i) k pos) Q EX:=
 fun s r=>wpAny_Constant_int (a8.intro (r.toks _) (aN.refl _ _) (.int i _) q)
theorem ft{x:Str}{k:Nat}{pos:Pos}{Q:V→List V→Hp→Prop}(q:Q (.str x) vals H):Ev c vals H (.Constant (.str x) k pos) Q EX:=
 fun s r=>(show wpAny c.M c.A (mkText x) _ _ s from ko (a8.intro (r.toks _) (aN.refl _ _) (.str x _) q))
theorem Kb{b:Bool}{k:Nat}{pos:Pos}{Q:V→List V→Hp→Prop}(q:Q (.bool b) vals H):Ev c vals H (.Constant (.bool b) k pos) Q EX:=
 fun s r=>(show wpAny c.M c.A (pure (FX b)) _ _ s from af (a8.intro r (aN.refl _ _) (.bool b) q))
theorem DV{k:Nat}{pos:Pos}{Q:V→List V→Hp→Prop}(q:Q .none vals H):Ev c vals H (.Constant .none k pos) Q EX:=
 fun s r=>(show wpAny c.M c.A (pure bx) _ _ s from af (a8.intro r (aN.refl _ _) .none q))
theorem Dw(ok:c.Ok){x:Str}{v:Value}{P:Value→Shared→Prop}{E:Value→Shared→Prop}(y:uK c.env s.heap x v)(hd:(x == ("__classdict__" :Str))=false)(h:P v s):wpAny c.M c.A (sK c.env x) P E s:=by
 rcases y with ⟨kd,m,ns,e⟩ | ⟨kd | kd,k,hk,hc⟩
 ·exact dz ok.kind kd ns e h
 ·exact wpAny_loadName_cell ok.kind kd hk hc h
 ·exact wpAny_loadName_free ok.kind kd hk hc h hd
theorem BA(ok:c.Ok){x:Str}{a:V}{P:Value→Shared→Prop}{E:Value→Shared→Prop}(r:Rel c vals H s)(h:At c.names vals x a)(ha:a≠ .unb)(k:∀ v,VR s.heap (c.X H) a v→P v s):wpAny c.M c.A (sK c.env x) P E s:=by
 rcases r.vars x a (.inl h)with e | ⟨v,y,z⟩
 ·exact(ha e).elim
 ·exact Dw ok y (ok.nc x h.mem) (k v z)
theorem Dx(ok:c.Ok){x:Str}{a:Addr}{P:Value→Shared→Prop}{E:Value→Shared→Prop}(r:Rel c vals H s)(h:At c.names vals x (.ref a))(q:P (.ref a) s):wpAny c.M c.A (sK c.env x) P E s:=BA ok r h nofun fun v z=>by
 cases z.iRef;exact q
theorem dL(ok:c.Ok){x:Str}{pos:Pos}{a:V}{Q:V→List V→Hp→Prop}(h:At c.names vals x a)(ha:a≠ .unb)(q:Q a vals H):Ev c vals H (.Name x pos) Q EX:=
 fun _ r=>d5 (BA ok r h ha fun _ z=>a8.intro r (aN.refl _ _) z q) (ok.nd x h.mem)
theorem En(ok:c.Ok)(k:Nat){x:Str}{pos:Pos}{a:V}{Q:V→List V→Hp→Prop}(h:c.names[k]?=some x)(h':vals[k]?=some a)(u:a.ctorIdx.beq 10=false)(q:Q a vals H):Ev c vals H (.Name x pos) Q EX:=dL ok (.i k h h') (nu u) q
theorem et(ok:c.Ok){x:Str}{pos:Pos}{a:V}{Q:V→List V→Hp→Prop}(h:(x,a)∈c.fr)(ha:a≠ .unb)(q:Q a vals H):Ev c vals H (.Name x pos) Q EX:=fun s r=>by
 refine nn fun hG=>?_;obtain⟨_,h1,h2⟩:=ok.dj _ h;refine hG ?_;clear hG;rcases r.vars x a (.inr h)with e | ⟨v,y,z⟩
 ·exact(ha e).elim
 ·exact d5 (Dw ok y h2 (a8.intro r (aN.refl _ _) z q)) h1
theorem nh{M:Model}{A:Around}{E:Value→Shared→Prop}{s:Shared}{env:Env}{x:Str}{v:Value}(hk:env.scope.kind= .function)(hx:env.kindOf x=some .globalImplicit)(hg:env.globals=3)(hb:env.builtins=0)(b:ey s.heap)(h:uG.lookup x=some v∨p8.lookup x=some v){Q:Value→Shared→Prop}(q:Q v s):
  wpAny M A (sK env x) Q E s:=by
 refine wq ((loadName_read hk hx).trans (loadGlobal.eq_1 ..)) ?_;refine nn fun hG=>?_;obtain⟨mg,g1,g2,g3,_⟩:=b.glob;refine hG ?_;clear hG;refine nn fun hG=>?_;obtain⟨mb,b1,b2⟩:=b.blt;refine hG ?_;clear hG;refine hg.symm▸?_;refine hb.symm▸?_;refine aa (Ki g1 ?_);rcases h with h | h
 ·refine(g2 x v h).symm▸?_;exact af q
 ·refine(g3 x v h).symm▸?_;refine aa (Ki b1 ?_);refine(b2 x v h).symm▸?_;exact af q
theorem l4(ok:c.Ok){x:Str}{pos:Pos}{v:Value}{Q:V→List V→Hp→Prop}(h:At c.gn c.gv x v)(q:Q (.obj v) vals H):Ev c vals H (.Name x pos) Q EX:=by
 intro s r;refine nn fun hG=>?_;obtain⟨hk,hd,h⟩:=ok.gl x v h;refine hG ?_;clear hG;exact d5 (nh ok.kind hk ok.glob ok.blt r.base h (a8.intro r (aN.refl _ _) (.obj v) q)) hd
theorem Eg(ok:c.Ok)(k:Nat){x:Str}{pos:Pos}{v:Value}{Q:V→List V→Hp→Prop}(h:c.gn[k]?=some x)(h':c.gv[k]?=some v)(q:Q (.obj v) vals H):Ev c vals H (.Name x pos) Q EX:=l4 ok (.i k h h') q
theorem cK{l r':Expr}{op:Operator}{pos:Pos}{Q:V→List V→Hp→Prop}
  (h:Ev c vals H l (K1 c r' (lL op) Q EX) EX):Ev c vals H (.BinOp l op r' pos) Q EX:=
 fun s r=>wpAny_BinOp (bO (h s r) fun v s₁ a vals₁ H₁ r₁ S₁ z₁ h₁=>df S₁ (h₁ s₁ r₁) fun u s₂ b vals₂ H₂ r₂ S₂ S z₂ h₂=>
  dg S (h₂ s₂ v u r₂ (z₁.go S₂) z₂))
theorem qN{l r':Expr}{op:CmpOp}{pos:Pos}{Q:V→List V→Hp→Prop}(hm:behindInMarks op r'=false)
  (h:Ev c vals H l (K1 c r' (ez op) Q EX) EX):Ev c vals H (.Compare l [op] [r'] pos) Q EX:=
 fun s r=>wpAny_Compare1 (hm:=hm) (bO (h s r) fun v s₁ a vals₁ H₁ r₁ S₁ z₁ h₁=>df S₁ (h₁ s₁ r₁) fun u s₂ b vals₂ H₂ r₂ S₂ S z₂ h₂=>
  dg S (h₂ s₂ v u r₂ (z₁.go S₂) z₂))
theorem bv{l r':Expr}{op:CmpOp}{pos:Pos}{Q:Bool→List V→Hp→Prop}(hm:behindInMarks op r'=false)
  (h:Ev c vals H l (K1 c r' (ez op) (M7 Q) EX) EX):F7 c vals H (.Compare l [op] [r'] pos) Q EX:=
 fun s r=>wpAny_isTrue_Compare1 (hm:=hm) (bO (h s r) fun v s₁ a vals₁ H₁ r₁ S₁ z₁ h₁=>df S₁ (h₁ s₁ r₁) fun u s₂ b vals₂ H₂ r₂ S₂ S z₂ h₂=>
  df S (h₂ s₂ v u r₂ (z₁.go S₂) z₂) fun t s₃ d vals₃ H₃ r₃ _ S₃ z₃ ⟨b',e,q⟩=>by
   subst e;cases z₃.iBool;exact fY (a8.intro r₃ S₃ rfl q))
theorem DS{e:Expr}{pos:Pos}{Q:Bool→List V→Hp→Prop}(h:F7 c vals H e (fun b=>Q (!b)) EX):F7 c vals H (.UnaryOp .Not e pos) Q EX:=
 fun s r=>wpAny_isTrue_Not (bO (h s r) fun v s₁ a vals₁ H₁ r₁ S₁ z₁ q=>by
  cases z₁;exact a8.intro r₁ S₁ rfl q)
noncomputable def Bq(c:Cx)(op:BoolOp)(Q:Bool→List V→Hp→Prop)(EX:dK):List Expr→List V→Hp→Prop
 | [],vals,H=>Q (op == .And) vals H
 | e::l,vals,H=>F7 c vals H e (fun b vals₁ H₁=>match op,b with
  | .And,false=>Q false vals₁ H₁
  | .Or,true=>Q true vals₁ H₁
  | _,_=>Bq c op Q EX l vals₁ H₁) EX
theorem qM{op:BoolOp}{Q:Bool→List V→Hp→Prop}:∀ (l:List Expr) (vals:List V) (H:Hp),Bq c op Q EX l vals H→T0 c vals H (allTrue op l c.env) BR Q EX
 | [],vals,H,h=>fun s r=>by rw[arm_allTrue_nil];exact af (a8.intro r (aN.refl _ _) rfl h)
 | e::l,vals,H,h=>fun s r=>by
  rw[arm_allTrue_cons];refine aa (bO (h s r) fun v s₁ b vals₁ H₁ r₁ S₁ z₁ q=>?_);cases z₁;cases op<;>cases v
  ·exact af (a8.intro r₁ S₁ rfl q)
  ·exact dg S₁ (qM l _ _ q s₁ r₁)
  ·exact dg S₁ (qM l _ _ q s₁ r₁)
  ·exact af (a8.intro r₁ S₁ rfl q)
theorem gf{op:BoolOp}{l:List Expr}{pos:Pos}{Q:Bool→List V→Hp→Prop}(h:Bq c op Q EX l vals H):F7 c vals H (.BoolOp op l pos) Q EX:=
 fun s r=>by rw[arm_isTrue_BoolOp];exact qM l vals H h s r
theorem iL{e:Expr}{Q:Bool→List V→Hp→Prop}(he:∀ (env:Env) (t:Sem Value),isTrue e env t=(do let v ← t;gw e.pos;qQ [v] (truthy v)))
  (h:Ev c vals H e (NC c Q EX) EX):F7 c vals H e Q EX:=
 fun s r=>by
  show wpAny _ _ (isTrue e c.env (eval e c.env)) _ _ _;rw[he];exact aa (bO (h s r) fun v s₁ a vals₁ H₁ r₁ S₁ z₁ h₁=>aa (be (aC (dg S₁ (h₁ s₁ v r₁ z₁)))))
theorem IW{t a b:Expr}{pos:Pos}{Q:V→List V→Hp→Prop}(h:F7 c vals H t (NI c a b Q EX) EX):Ev c vals H (.IfExp t a b pos) Q EX:=
 fun s r=>wpAny_IfExp (bO (h s r) fun v s₁ x vals₁ H₁ r₁ S₁ z₁ h₁=>by
  cases z₁;cases v<;>exact dg S₁ (h₁ s₁ r₁))
theorem bz{Q:Fl→List V→Hp→Prop}(q:Q .next vals H):Ss c vals H [] Q EX:=fun _ r=>fS (a8.intro r (aN.refl _ _) .next q)
noncomputable def Lu(Q:Fl→List V→Hp→Prop)(N:List V→Hp→Prop):Fl→List V→Hp→Prop
 | .next,vals,H=>N vals H
 | f,vals,H=>Q f vals H
noncomputable abbrev M0(c:Cx)(l:List Stmt)(Q:QF)(EX:dK):QF:=Lu Q fun vals₁ H₁=>Ss c vals₁ H₁ l Q EX
theorem az{st:Stmt}{l:List Stmt}{Q:Fl→List V→Hp→Prop}(h:S1 c vals H st (M0 c l Q EX) EX):Ss c vals H (st::l) Q EX:=
 fun s r=>wpAny_execs_cons (bO (h s r) fun v s₁ f vals₁ H₁ r₁ S₁ z₁ q=>by
  cases z₁ with
  | next=>exact dg S₁ (q s₁ r₁)
  | brk=>exact a8.intro r₁ S₁ .brk q
  | cont=>exact a8.intro r₁ S₁ .cont q
  | ret z=>exact a8.intro r₁ S₁ (.ret z) q)
theorem j9{t:Expr}{a b:List Stmt}{pos:Pos}{Q:Fl→List V→Hp→Prop}(h:F7 c vals H t (K0 c a b Q EX) EX):S1 c vals H (.If t a b pos) Q EX:=
 fun s r=>wpAny_If (bO (h s r) fun v s₁ x vals₁ H₁ r₁ S₁ z₁ h₁=>by
  cases z₁;cases v<;>exact dg S₁ (h₁ s₁ r₁))
theorem ee{e:Expr}{pos:Pos}{Q:Fl→List V→Hp→Prop}(h:Ev c vals H e (fun a=>Q (.ret a)) EX):S1 c vals H (.Return (some e) pos) Q EX:=
 fun s r=>wpAny_Return_some (bO (h s r) fun v s₁ a vals₁ H₁ r₁ S₁ z₁ q=>a8.intro r₁ S₁ (.ret z₁) q)
theorem DT{pos:Pos}{Q:Fl→List V→Hp→Prop}(q:Q .brk vals H):S1 c vals H (.Break pos) Q EX:=fun _ r=>wpAny_Break (a8.intro r (aN.refl _ _) .brk q)
theorem iA(ok:c.Ok){x:Str}{a:V}{v:Value}{vals':List V}{Q:Unit→List V→Hp→Prop}(hk:c.env.kindOf x=some .local∨(c.env.kindOf x=some .cell∧(c.env.cells.lookup x).isSome=true))(p:pW c.names vals x a vals')(r:Rel c vals H s)(z:VR s.heap (c.X H) a v)(q:Q () vals' H):
  wpAny c.M c.A (storeName c.env x v) (a8 c H s UR Q) (cF c H s EX) s:=by
 rcases hk with hk | ⟨hk,hc⟩
 ·obtain⟨m,ns⟩:=r.loc;refine wpAny_storeName_local hk ns (fun h' hn hs=>?_) (by rw[ok.kind];rfl);obtain⟨r',S⟩:=r.storeLocal (s':={ s with heap:=h',toks:=s.toks+1 }) ok hk p z ns hn hs r.gens rfl;exact a8.intro r' S rfl q
 ·obtain⟨k,hc⟩:=cX.mp hc;obtain⟨v₀,cl⟩:=r.cel x k hc;refine wpAny_storeName_cell ok.kind hk hc cl fun h' hn hs=>?_;obtain⟨r',S⟩:=r.storeCell (s':={ s with heap:=h' }) ok hk hc p z hn hs r.gens rfl;exact a8.intro r' S rfl q
noncomputable def qz(e:Expr):Bool:=!(e.ctorIdx.beq 8 || e.ctorIdx.beq 9 || e.ctorIdx.beq 10)
theorem mD{e:Expr}(h:qz e=true)(t:Option Expr)(n:Nat)(env:Env):swapsWith e t n env=pure false:=by
 cases e<;>first | rfl | cases h
theorem bB(ok:c.Ok){x:Str}{e:Expr}{p₁ p₂:Pos}{Q:Fl→List V→Hp→Prop}(hs:qz e=true)(h:Ev c vals H e (MD c x Q) EX):S1 c vals H (.Assign [.Name x p₁] e p₂) Q EX:=
 fun s r=>wpAny_Assign_Name (hs:=mD hs _ _ _) (bO (h s r) fun v s₁ a vals₁ H₁ r₁ S₁ z₁ ⟨vals₂,p,q⟩=>
  aK (dg S₁ (iA (EX:=EX) (Q:=fun _ vals' H'=>Q .next vals' H') ok (ok.sto _ p.mem) p r₁ z₁ q)) (fun _ s₂ hP=>by obtain⟨_,vals',H',r',S',_,q'⟩:=hP;exact a8.intro r' S' .next q') fun _ _ e=>e)
theorem uL(ok:c.Ok){x:Str}{e:Expr}{op:Operator}{p₁ p₂:Pos}{a:V}{Q:Fl→List V→Hp→Prop}(hx:At c.names vals x a)(ha:a≠ .unb)
  (h:Ev c vals H e (NM c x a op Q EX) EX):S1 c vals H (.AugAssign (.Name x p₁) op e p₂) Q EX:=
 fun s r=>wpAny_AugAssign_Name (BA ok r hx ha fun v z=>bO (h s r) fun u s₁ b vals₁ H₁ r₁ S₁ z₁ h₁=>
  df S₁ (h₁ s₁ v u r₁ (z.go S₁) z₁) fun d s₂ d' vals₂ H₂ r₂ _ S₂ z₂ ⟨vals₃,p,q⟩=>
   aK (dg S₂ (iA (EX:=EX) (Q:=fun _ vals' H'=>Q .next vals' H') ok (ok.sto _ p.mem) p r₂ z₂ q)) (fun _ s₃ hP=>by obtain⟨_,vals',H',r',S',_,q'⟩:=hP;exact a8.intro r' S' .next q') fun _ _ e=>e)
end
end
section
section
variable{c:Cx}{vals:List V}{H:Hp}{s:Shared}{EX:dK}{x y:Int}{p r':Str}{Q:V→List V→Hp→Prop}
theorem oC(q:Q (.int (x+y)) vals H):T2 c vals H (.int x) (.int y) (lL .Add) VR Q EX:=fun s v u r z z'=>by
 cases z.iInt;cases z'.iInt;exact P.add_int (a8.intro (r.toks _) (aN.refl _ _) (.int _ _) q)
theorem rx(q:Q (.int (x+y)) vals H):T2 c vals H (.int x) (.int y) (inplaceOp .Add) VR Q EX:=fun s v u r z z'=>by
 cases z.iInt;cases z'.iInt;exact P.iadd_int (a8.intro (r.toks _) (aN.refl _ _) (.int _ _) q)
theorem GC(q:Q (.int (x-y)) vals H):T2 c vals H (.int x) (.int y) (lL .Sub) VR Q EX:=fun s v u r z z'=>by
 cases z.iInt;cases z'.iInt;exact P.sub_int (a8.intro (r.toks _) (aN.refl _ _) (.int _ _) q)
theorem Lo(hm:IntMulOk x y)(q:Q (.int (x*y)) vals H):T2 c vals H (.int x) (.int y) (lL .Mult) VR Q EX:=fun s v u r z z'=>by
 cases z.iInt;cases z'.iInt;exact P.mul_int (hm:=hm) (a8.intro (r.toks _) (aN.refl _ _) (.int _ _) q)
theorem Bx(hb:y≠0)(q:Q (.int (x.fmod y)) vals H):T2 c vals H (.int x) (.int y) (lL .Mod) VR Q EX:=fun s v u r z z'=>by
 cases z.iInt;cases z'.iInt;exact mod_int' hb (a8.intro (r.toks _) (aN.refl _ _) (.int _ _) q)
theorem td(hb:y≠0)(hp:Builtin.divisionGoesByPylong x y=false)(q:Q (.int (x.fdiv y)) vals H):T2 c vals H (.int x) (.int y) (lL .FloorDiv) VR Q EX:=fun s v u r z z'=>by
 cases z.iInt;cases z'.iInt;exact floordiv_int (hp:=.inl hp) hb (a8.intro (r.toks _) (aN.refl _ _) (.int _ _) q)
theorem zG(q:Q (.bool (x != y)) vals H):T2 c vals H (.int x) (.int y) (ez .NotEq) VR Q EX:=fun s v u r z z'=>by
 cases z.iInt;cases z'.iInt;exact P.ne_int (a8.intro r (aN.refl _ _) (.bool _) q)
theorem MI(q:Q (.bool (decide (x>y))) vals H):T2 c vals H (.int x) (.int y) (ez .Gt) VR Q EX:=fun s v u r z z'=>by
 cases z.iInt;cases z'.iInt;exact P.gt_int (a8.intro r (aN.refl _ _) (.bool _) q)
theorem MJ(q:Q (.bool (decide (x≥y))) vals H):T2 c vals H (.int x) (.int y) (ez .GtE) VR Q EX:=fun s v u r z z'=>by
 cases z.iInt;cases z'.iInt;exact P.ge_int (a8.intro r (aN.refl _ _) (.bool _) q)
theorem str_beq(p r:Str):(p.cps.toList == r.cps.toList)=decide (p=r):=by
 by_cases h:p=r
 ·subst h;simp
 ·have:p.cps≠r.cps:=fun e=>h (by cases p;cases r;simp only[Str.mk.injEq];exact e);simp[h,this]
theorem r9(q:Q (.bool (!decide (p=r'))) vals H):T2 c vals H (.str p) (.str r') (ez .NotEq) VR Q EX:=fun s v u r z z'=>by
 cases z.iStr;cases z'.iStr;exact P.ne_str (by rw[show (p.cps.toList != r'.cps.toList)=!(p.cps.toList == r'.cps.toList) from rfl,str_beq];exact a8.intro r (aN.refl _ _) (.bool _) q)
theorem ig{p r:Str}(h:p.length=0):p++r=r∧r++p=r:=by
 have e:p=⟨#[]⟩:=by
  obtain⟨a⟩:=p;have:a= #[]:=Array.eq_empty_of_size_eq_zero h;rw[this]
 subst e;obtain⟨a⟩:=r
 constructor
 ·show Str.mk (#[]++a)=_;simp
 ·show Str.mk (a++ #[])=_;simp
theorem Ds(hl:p.length+r'.length≤av)(q:Q (.str (p++r')) vals H):T2 c vals H (.str p) (.str r') (lL .Add) VR Q EX:=fun s v u r z z'=>by
 cases z.iStr;cases z'.iStr;refine P.add_str ?_;by_cases h1:p.length=0
 ·simp only[h1,I5,dG]
  refine a8.intro r (aN.refl _ _) ?_ q;rw[(ig h1).1];exact .str _ _
 ·by_cases h2:r'.length=0
  ·simp only[h2,I5,dG,eP,h1,cj]
   refine a8.intro r (aN.refl _ _) ?_ q;rw[(ig h2).2];exact .str _ _
  ·simp only[eP,h1,h2,cj]
   exact⟨by rw[hU];exact hl,a8.intro (r.toks _) (aN.refl _ _) (.str _ _) q⟩
theorem zX(hl:p.length+r'.length≤av)(q:Q (.str (p++r')) vals H):T2 c vals H (.str p) (.str r') (inplaceOp .Add) VR Q EX:=fun s v u r z z'=>by
 cases z.iStr;cases z'.iStr;refine P.iadd_str ?_;by_cases h1:p.length=0
 ·simp only[h1,I5,dG]
  refine a8.intro r (aN.refl _ _) ?_ q;rw[(ig h1).1];exact .str _ _
 ·by_cases h2:r'.length=0
  ·simp only[h2,I5,dG,eP,h1,cj]
   refine a8.intro r (aN.refl _ _) ?_ q;rw[(ig h2).2];exact .str _ _
  ·simp only[eP,h1,h2,cj]
   exact⟨by rw[hU];exact hl,a8.intro (r.toks _) (aN.refl _ _) (.str _ _) q⟩
end
end
section
noncomputable def eN(e:Expr):Bool:=!e.ctorIdx.beq 22
theorem cV{e:Expr}(h:eN e=true)(l:List Expr)(env:Env):dD (e::l) env=(false,eval e env)::dD l env:=by
 cases e<;>first | rfl | cases h
theorem dI(pos:Pos)(t:Sem Value)(l:List (Bool×Sem Value)):backTo pos ((false,t)::l)=(false,t)::backTo pos l:=rfl
theorem jJ:∀ {l:List Expr},l.all eN=true→∀ (pos:Pos) (env:Env),(backTo pos (dD l env)).any (·.1)=false
 | [],_,_,_=>rfl
 | e::l,h,pos,env=>by
  rw[rW,bk]at h;rw[cV h.1,dI,List.any_cons,jJ h.2];rfl
noncomputable def VL(h:Heap)(X:List Addr)(l:List V)(vs:List Value):Prop:=dP h X l vs
section
variable{c:Cx}{EX:dK}
noncomputable abbrev M5(K:List V→List V→Hp→Prop)(a:V):List V→List V→Hp→Prop:=fun as=>K (a::as)
inductive NB(Q:QV)(as:List V)(vals:List V)(H:Hp):Prop
 | mk (hl:as.length≤av) (q:Q (.tup as) vals H)
inductive NH(Q:QV)(as:List V)(vals:List V)(H:Hp):Prop
 | mk (hl:as.length≤av) (q:∀ a,Q (.lst a as) vals H)
inductive M2(Q:QV)(as:List V)(vals:List V)(H:Hp):Prop
 | mk (hl:as.length≤av) (q:∀ a,Q (.ref a) vals ((a, .list as)::H))
noncomputable def Gc(c:Cx)(EX:dK):(List V→List V→Hp→Prop)→List Expr→List V→Hp→Prop
 | K,[],vals,H=>K [] vals H
 | K,e::l,vals,H=>Ev c vals H e (fun a vals₁ H₁=>Gc c EX (M5 K a) l vals₁ H₁) EX
theorem gZ{pos:Pos}:∀ (l:List Expr) {K:List V→List V→Hp→Prop} {vals:List V} {H:Hp},l.all eN=true→Gc c EX K l vals H→T0 c vals H (nV (backTo pos (dD l c.env))) VL K EX
 | [],K,vals,H,_,h=>fun s r=>fW (a8.intro r (aN.refl _ _) .nil h)
 | e::l,K,vals,H,hn,h=>fun s r=>by
  rw[rW,bk]at hn;rw[cV hn.1,dI];exact e9 (bO (h s r) fun v s₁ a vals₁ H₁ r₁ S₁ z₁ h₁=>df S₁ (gZ (pos:=pos) l hn.2 h₁ s₁ r₁) fun vs s₂ as vals₂ H₂ r₂ S₂ S z₂ q=>
   a8.intro (b:=a::as) r₂ S (.cons (z₁.go S₂) z₂) q)
end
section
variable{c:Cx}{vals:List V}{H:Hp}{EX:dK}{Q:V→List V→Hp→Prop}
theorem s5{s:Shared}{as:List V}{vs:List Value}(r:Rel c vals H s)(z:dP s.heap (c.X H) as vs)(hl:as.length≤av)(q:Q (.tup as) vals H):wpAny c.M c.A (kg vs) (a8 c H s VR Q) (cF c H s EX) s:=by
 have k:∀ b o,s.heap.get? b=some o→(s.heap.push (j7 vs 0)).get? b=some o:=fun b o e=>al _ e;have S:aN s.heap (c.Z H) (s.heap.push (j7 vs 0)) (c.Z H):=aN.keeps k;refine nH (a8.intro (r.keeps (s':={ s with heap:=s.heap.push (j7 vs 0) }) k r.gens rfl) S ?_ q) (by rw[← z.length];exact hl);exact .tup (aA _ rfl) (fun hx=>by obtain⟨o,e⟩:=r.there _ hx;exact r.none_at_size o e) (z.go S)
theorem BK{s:Shared}{as:List V}{vs:List Value}(r:Rel c vals H s)(z:dP s.heap (c.X H) as vs)(hl:as.length≤av)(q:∀ a,Q (.lst a as) vals H):wpAny c.M c.A (tG vs) (a8 c H s VR Q) (cF c H s EX) s:=by
 have k:∀ b o,s.heap.get? b=some o→(s.heap.push (ic vs 0)).get? b=some o:=fun b o e=>al _ e;have S:aN s.heap (c.Z H) (s.heap.push (ic vs 0)) (c.Z H):=aN.keeps k;refine pf (a8.intro (b:=.lst s.heap.objs.size as) (r.keeps (s':={ s with heap:=s.heap.push (ic vs 0) }) k r.gens rfl) S ?_ (q _)) (by rw[← z.length];exact hl);exact .lst (aA _ rfl) (fun hx=>by obtain⟨o,e⟩:=r.there _ hx;exact r.none_at_size o e) (z.go S)
theorem Ar{s:Shared}{as:List V}{vs:List Value}(r:Rel c vals H s)(z:dP s.heap (c.X H) as vs)(hl:as.length≤av)(q:∀ a,Q (.ref a) vals ((a, .list as)::H)):wpAny c.M c.A (tG vs) (a8 c H s VR Q) (cF c H s EX) s:=by
 have k:∀ b o,s.heap.get? b=some o→(s.heap.push (ic vs 0)).get? b=some o:=fun b o e=>al _ e;have S:aN s.heap (c.Z H) (s.heap.push (ic vs 0)) (c.Z ((s.heap.objs.size, .list as)::H)):=fun b o e n=>⟨k b o e,fun hx=>by
  simp only[Cx.Z,haddrs,a0,bW.addrs,aw,aF,aZ,gz]at hx n;rcases hx with h | h | h | h
  ·exact n (.inl h)
  ·exact n (.inr (.inl h))
  ·subst h;exact r.none_at_size o e
  ·exact n (.inr (.inr h))⟩
 obtain⟨r',S'⟩:=r.lay (s':={ s with heap:=s.heap.push (ic vs 0) }) (a:=s.heap.objs.size) (mo:=.list as) (by
   intro x hx;simp only[bW.addrs,ao]at hx;subst hx;exact⟨r.none_at_size,r.size⟩) (jq _ _) k r.gens rfl ⟨vs,0,aA _ rfl,z.go S⟩
 exact pf (a8.intro r' S' (.ref _) (q _)) (by rw[← z.length];exact hl)
theorem gq{l:List Expr}{k:Nat}{pos:Pos}(hn:l.all eN=true)(h:Gc c EX (NB Q) l vals H):Ev c vals H (.Tuple l k pos) Q EX:=
 fun s r=>Tuple_ (bO (gZ (pos:=pos) l hn h s r) fun vs s₁ as vals₁ H₁ r₁ S₁ z₁ hP=>by obtain⟨hl,q⟩:=hP;exact dg S₁ (s5 r₁ z₁ hl q))
theorem fH{l:List Expr}{pos:Pos}(hn:l.all eN=true)(h:Gc c EX (NH Q) l vals H):Ev c vals H (.List l pos) Q EX:=
 fun s r=>List_ (bO (gZ (pos:=pos) l hn h s r) fun vs s₁ as vals₁ H₁ r₁ S₁ z₁ hP=>by obtain⟨hl,q⟩:=hP;exact dg S₁ (BK r₁ z₁ hl q))
theorem jk{l:List Expr}{pos:Pos}(hn:l.all eN=true)(h:Gc c EX (M2 Q) l vals H):Ev c vals H (.List l pos) Q EX:=
 fun s r=>List_ (bO (gZ (pos:=pos) l hn h s r) fun vs s₁ as vals₁ H₁ r₁ S₁ z₁ hP=>by obtain⟨hl,q⟩:=hP;exact dg S₁ (Ar r₁ z₁ hl q))
noncomputable def s4(f:Value):Prop:=(∃ id,f= .builtin id)∨(∃ T,f= .type T)∨∃ i a k,(i,a,k)∈ou∧f= .ref a
theorem fj{s:Shared}{f:Value}{args:List Expr}{pos:Pos}{env:Env}{M:Model}{A:Around}{P:Args→Shared→Prop}{E:Value→Shared→Prop}(hn:args.all eN=true)
  (h:wpAny M A (nV (backTo pos (dD args env))) (fun vs s₁=>P ⟨vs,[]⟩ s₁) E s):wpAny M A (Kg f true (backTo pos (dD args env)) []) P E s:=by
 cases args with
 | nil=>
  unfold Kg;show wpAny M A (nV [] >>= _) P E s;refine aa (aK (show wpAny M A (nV []) _ E s from h) (fun vs s' h'=>?_) fun _ _ x=>x);refine aa (af ?_);refine aC ?_;exact aa (af (aa (af (af h'))))
 | cons e l=>
  rw[rW,bk]at hn;rw[cV hn.1,dI]at h ⊢;exact evalArgs_plain h
theorem jo{s:Shared}{f:Value}(hf:s4 f){args:List Expr}{pos:Pos}{P:Value→Shared→Prop}{E:Value→Shared→Prop}(hn:args.all eN=true)(first:List Value)
  (h:wpAny c.M c.A (nV (backTo pos (dD args c.env))) (fun vs s₁=>ey s₁.heap∧wpAny c.M c.A (call f (first++vs)) P E s₁) E s):wpAny c.M c.A (fv pos f first (backTo pos (dD args c.env)) []) P E s:=by
 have hp:=jJ hn pos c.env;rcases hf with ⟨id,rfl⟩ | ⟨T,rfl⟩ | ⟨i,a,k,hm,rfl⟩
 ·exact pU hp (fj hn (aK h (fun _ _ x=>x.2) fun _ _ x=>x))
 ·exact PySem.callWith_type hp (fj hn (aK h (fun _ _ x=>x.2) fun _ _ x=>x))
 ·refine wq (callWith.eq_1 ..) ?_;refine aa (aC (aK (fj (P:=fun a s₁=>ey s₁.heap∧wpAny c.M c.A (call (.ref _) (first++a.pos) a.kw) P E s₁) hn h) (fun x s₁ h₁=>aa (be ?_)) fun _ _ x=>x));refine nn fun hG=>?_;obtain⟨pm,ho,_⟩:=h₁.1.fns i a k hm;refine hG ?_;clear hG;have tail:∀ {t:Sem Value},wpAny c.M c.A t P E s₁→wpAny c.M c.A (t >>= fun r=>qQ [r] point >>= fun _=>pure r) P E s₁:=
   fun ht=>aa (aK ht (fun r s₂ hr=>aa (aC (nZ (af hr)))) fun _ _ x=>x)
  simp only[hp,List.any_nil,zh]
  refine aa (m:=kh (.ref a)) ?_;refine wq (keeperOf.eq_1 ..) ?_;refine aa (jL ho ?_);refine af ?_
  dsimp only
  split
  ·exact tail h₁.2
  ·exact tail (by unfold callMarked;exact wpAny_keep h₁.2)
noncomputable abbrev NZ(c:Cx)(f:Value)(Q:QV)(EX:dK):List V→List V→Hp→Prop:=fun as vals H=>Tn c vals H as (fun vs=>call f vs) VR Q EX
noncomputable abbrev KZ(c:Cx)(a:V)(f:Value)(Q:QV)(EX:dK):List V→List V→Hp→Prop:=fun as vals H=>Tn c vals H (a::as) (fun vs=>call f vs) VR Q EX
inductive M6(c:Cx)(args:List Expr)(Q:QV)(EX:dK)(g:V)(vals:List V)(H:Hp):Prop
 | mk (f:Value) (e:g= .obj f) (p:s4 f) (h:Gc c EX (NZ c f Q EX) args vals H)
noncomputable abbrev Ka(c:Cx)(T:String)(a:V)(vals:List V)(H:Hp):Prop:=∀ s v,Rel c vals H s→VR s.heap (c.X H) a v→s.TypeIs v T∧∀ b,v= .ref b→∃ ob,s.heap.get? b=some ob∧ob.dict=none
inductive M1(c:Cx)(T id:String)(args:List Expr)(Q:QV)(EX:dK)(a:V)(vals:List V)(H:Hp):Prop
 | mk (t:Ka c T a vals H) (h:Gc c EX (KZ c a (.builtin id) Q EX) args vals H)
theorem uo{func:Expr}{args:List Expr}{pos:Pos}(ha:func.ctorIdx.beq 20=false)(hn:args.all eN=true)
  (h:Ev c vals H func (M6 c args Q EX) EX):Ev c vals H (.Call func args [] pos) Q EX:=by
 intro s r;have e:eval (.Call func args [] pos) c.env=(do fv pos (← eval func c.env) [] (backTo pos (dD args c.env)) (sM pos (lN [] c.env))):=by
  cases func<;>first | rfl | exact nomatch ha
 refine wq e ?_;refine aa (bO (h s r) fun v s₁ g vals₁ H₁ r₁ S₁ z₁ hP=>?_);refine nn fun hG=>?_;obtain⟨f,hg,hf,h₁⟩:=hP;refine hG ?_;clear hG;subst hg;cases z₁.iObj;refine jo hf hn [] (df S₁ (gZ (pos:=pos) args hn h₁ s₁ r₁) fun vs s₂ as vals₂ H₂ r₂ S₂ S z₂ h₂=>⟨r₂.base,dg S (h₂ s₂ vs r₂ z₂)⟩)
theorem pb{id:String}:s4 (.builtin id):=.inl ⟨_,rfl⟩
theorem pt{T:String}:s4 (.type T):=.inr (.inl ⟨_,rfl⟩)
theorem i3(ok:c.Ok)(k:Nat){x:Str}{f:Value}{args:List Expr}{pos p:Pos}(h:c.gn[k]?=some x)(h':c.gv[k]?=some f)(hn:args.all eN=true)(pl:s4 f)(q:Gc c EX (NZ c f Q EX) args vals H):Ev c vals H (.Call (.Name x p) args [] pos) Q EX:=
 uo ff hn (Eg ok k h h' ⟨_,rfl,pl,q⟩)
theorem DW{o:Expr}{name:Str}{apos pos:Pos}{args:List Expr}{T id:String}(hb:ju o name c.env (eval o c.env)=eval o c.env)(hn:args.all eN=true)(hl:args.length<29)(hline:(apos.endLine == pos.line)=true)
  (pa:PlainAttrs T)(slot:Slot T name id)(hty:typeOf (.builtin id)=pure (.type "method_descriptor"))
  (h:Ev c vals H o (M1 c T id args Q EX) EX):
  Ev c vals H (.Call (.Attribute o name apos) args [] pos) Q EX:=by
 intro s r;have hp:=jJ hn pos c.env;refine wpAny_Call_method hb ?_ hline pa slot hty (bO (h s r) fun v s₁ a vals₁ H₁ r₁ S₁ z₁ hP=>⟨(hP.1 s₁ v r₁ z₁).1,(hP.1 s₁ v r₁ z₁).2,?_⟩)
 ·have h1:(backTo pos (dD args c.env)).all (fun x=>!x.1)=true:=by
   rw[ay];intro x hx;have:=tN.mp hp x hx;simpa using this
  rw[h1];show (true && ([]:List (Option Str×Sem Value)).all _ && decide (args.length+0+0<30))=true;simp;exact jM hl
 ·exact jo (.inl ⟨id,rfl⟩) hn [v] (df S₁ (gZ (pos:=pos) args hn hP.2 s₁ r₁) fun vs s₂ as vals₂ H₂ r₂ S₂ S z₂ h₂=>⟨r₂.base,dg S (h₂ s₂ (v::vs) r₂ (.cons (z₁.go S₂) z₂))⟩)
end
end
section
mutual
noncomputable def V.py:V→PyData
 | .none=>.none
 | .bool b=>.bool b
 | .int i=>.int i
 | .str s=>.str s
 | .tup l=>.tuple (V.pys l)
 | .lst _ l=>.list (V.pys l)
 | .acc _ _=>.none
 | .ref _=>.none
 | .obj _=>.none
 | .rng _ _=>.none
 | .unb=>.none
noncomputable def V.pys:List V→List PyData
 | []=>[]
 | a::l=>V.py a::V.pys l
end
mutual
noncomputable def V.data:Nat→V→Bool
 | _, .none=>true
 | _, .bool _=>true
 | _, .int _=>true
 | _, .str s=>bH s
 | n, .tup l=>fF 1 n && V.datas (n-1) l
 | n, .lst _ l=>fF 1 n && V.datas (n-1) l
 | _, .acc _ _=>false
 | _, .ref _=>false
 | _, .obj _=>false
 | _, .rng _ _=>false
 | _, .unb=>false
noncomputable def V.datas:Nat→List V→Bool
 | _,[]=>true
 | n,a::l=>V.data n a && V.datas n l
end
theorem V.data_str{n:Nat}{s:Str}:V.data n (.str s)=bH s:=rfl
theorem V.data_tup{n:Nat}{l:List V}:V.data n (.tup l)=(fF 1 n && V.datas (n-1) l):=rfl
theorem V.data_lst{n:Nat}{p:Addr}{l:List V}:V.data n (.lst p l)=(fF 1 n && V.datas (n-1) l):=rfl
theorem V.datas_nil{n:Nat}:V.datas n []=true:=rfl
theorem V.datas_cons{n:Nat}{a:V}{l:List V}:V.datas n (a::l)=(V.data n a && V.datas n l):=rfl
theorem V.lst_data{n:Nat}{p:Addr}{l:List V}(h:V.datas n l=true):V.data (n+1) (.lst p l)=true:=h
theorem V.py_str{s:Str}:(V.str s).py= .str s:=rfl
theorem V.py_tup{l:List V}:(V.tup l).py= .tuple (V.pys l):=rfl
theorem V.pys_nil:V.pys []= []:=rfl
theorem V.pys_cons{a:V}{l:List V}:V.pys (a::l)=a.py::V.pys l:=rfl
theorem V.datas_all(n:Nat)(l:List V):V.datas n l=l.all (V.data n):=by
 induction l with
 | nil=>rfl
 | cons a l ih=>exact bc (V.data n a && ·) ih
theorem VR.reads{h:Heap}{X:List Addr}{a:V}{v:Value}(n:Nat)(z:VR h X a v)(hd:V.data n a=true):∃ as,Reads h v a.py as:=
 VR.rec (h:=h) (X:=X) (motive_1:=fun a v _=>∀ n,V.data n a=true→∃ as,Reads h v a.py as) (motive_2:=fun l vs _=>∀ n,V.datas n l=true→∃ as,ReadsAll h vs (V.pys l) as)
  (fun _ _=>⟨_, .none⟩) (fun b _ _=>⟨_, .bool b⟩) (fun i t _ _=>⟨_, .int i t⟩) (fun s t _ _=>⟨_, .str s t⟩)
  (fun e _ _ ih n hd=>(ih _ (aO.mp hd).2).imp fun _ q=>.tuple e rfl rfl q)
  (fun e _ _ ih n hd=>(ih _ (aO.mp hd).2).elim fun _ q=>⟨_, .list e rfl rfl q⟩)
  (fun _ _ _ _ _ hd=>cO hd) (fun _ _ hd=>cO hd) (fun _ _ hd=>cO hd) (fun _ _ _ hd=>cO hd)
  (fun _ _=>⟨_, .nil⟩)
  (fun _ _ i1 i2 n hd=>(i1 n (aO.mp hd).1).elim fun _ q=>(i2 n (aO.mp hd).2).elim fun _ p=>⟨_, .cons q p⟩) z n hd
theorem GG{n d:Nat}(h:fF 1 n=true)(q:d≤n-1):d+1≤n:=by have:=am h;exact aH [d,n-1,n] 2114758134382963490835056720609345 tt q (ag (aH [n] 81350941269557313 tt this:1≤n))
theorem V.lay(n:Nat)(a:V)(hd:V.data n a=true):a.py.canLay0=true∧a.py.depth≤n:=
 V.rec (motive_1:=fun a=>∀ n,V.data n a=true→a.py.canLay0=true∧a.py.depth≤n) (motive_2:=fun l=>∀ n,V.datas n l=true→PyData.canLayAll0 (V.pys l)=true∧iZ (V.pys l)≤n)
  (fun _ _=>⟨rfl,bi _⟩) (fun _ _ _=>⟨rfl,bi _⟩) (fun _ _ _=>⟨rfl,bi _⟩) (fun _ _ hd=>⟨hd,bi _⟩)
  (fun _ ih n hd=>⟨(ih _ (aO.mp hd).2).1,GG (aO.mp hd).1 (ih _ (aO.mp hd).2).2⟩)
  (fun _ _ ih n hd=>⟨(ih _ (aO.mp hd).2).1,GG (aO.mp hd).1 (ih _ (aO.mp hd).2).2⟩)
  (fun _ _ _ _ hd=>cO hd) (fun _ _ hd=>cO hd) (fun _ _ hd=>cO hd) (fun _ _ _ hd=>cO hd) (fun _ hd=>cO hd)
  (fun _ _=>⟨rfl,bi _⟩)
  (fun _ _ i1 i2 n hd=>⟨aO.mpr ⟨(i1 n (aO.mp hd).1).1,(i2 n (aO.mp hd).2).1⟩,Nat.max_le.mpr ⟨(i1 n (aO.mp hd).1).2,(i2 n (aO.mp hd).2).2⟩⟩) a n hd
theorem V.lays(n:Nat)(l:List V)(hd:V.datas n l=true):PyData.canLayAll0 (V.pys l)=true∧iZ (V.pys l)≤n:=by
 induction l with
 | nil=>exact⟨rfl,bi _⟩
 | cons a l ih=>
  have h:=aO.mp hd;exact⟨aO.mpr ⟨(V.lay n a h.1).1,(ih h.2).1⟩,Nat.max_le.mpr ⟨(V.lay n a h.1).2,(ih h.2).2⟩⟩
section
variable{c:Cx}{vals:List V}{H:Hp}{EX:dK}{Q:V→List V→Hp→Prop}{a b:V}
theorem uR(ok:c.Ok)(ha:V.data 8 a=true)(hb:V.data 8 b=true)(q:Q (.bool (bw a.py b.py)) vals H):T2 c vals H a b (ez .Eq) VR Q EX:=fun s v u r z z'=>by
 obtain⟨as,ra⟩:=z.reads 8 ha;obtain⟨bs,rb⟩:=z'.reads 8 hb;have la:=V.lay 8 a ha;have lb:=V.lay 8 b hb;refine SeqAt.eqOverData _ _ _ _ _ _ _ _ _ _ _ _ ra rb la.1 lb.1 ?_ (a8.intro r (aN.refl _ _) (.bool _) q);have w1:=ok.units;have:=bC a.py.depth b.py.depth;simp only[cLine]
 exact aH [a.py.depth,c.A.units,min a.py.depth b.py.depth] 254539827832680990877014646549089504427534574015091273362016567361 tt la.2 w1 this
theorem uQ(ok:c.Ok)(ha:V.data 8 a=true)(hb:V.data 8 b=true)(q:Q (.bool (!bw a.py b.py)) vals H):T2 c vals H a b (ez .NotEq) VR Q EX:=fun s v u r z z'=>by
 obtain⟨as,ra⟩:=z.reads 8 ha;obtain⟨bs,rb⟩:=z'.reads 8 hb;have la:=V.lay 8 a ha;have lb:=V.lay 8 b hb;refine ne_dataH ra rb ?_ ?_ ?_ (a8.intro r (aN.refl _ _) (.bool _) q)
 ·unfold SeqAt.shaped;rw[la.1,zg];exact aP (aU la.2 (by decide))
 ·unfold SeqAt.shaped;rw[lb.1,zg];exact aP (aU lb.2 (by decide))
 ·have:=ok.units;simp only[cLine]
  exact uX this rfl
theorem GE(ok:c.Ok){ad:Addr}{l:List V}(ha:V.data 8 a=true)(hb:V.datas 8 l=true)(q:Q (.bool ((V.pys l).any fun y=>bw y a.py)) vals H):T2 c vals H a (.lst ad l) (ez .In) VR Q EX:=fun s v u r z z'=>by
 obtain⟨as,ra⟩:=z.reads 8 ha;obtain⟨bs,rb⟩:=z'.reads 9 (by trivial);have la:=V.lay 8 a ha;have lb:=V.lays 8 l hb;refine SeqAt.in_list_reads rb ra lb.1 la.1 ?_ (a8.intro r (aN.refl _ _) (.bool _) q);have w1:=ok.units;have:=cw (iZ (V.pys l)) a.py.depth;simp only[cLine]
 exact aH [a.py.depth,c.A.units,min (iZ (V.pys l)) a.py.depth] 1042595146082507439214481274137881263929983673880667618466849528741953 tt la.2 w1 this
theorem Ez(ok:c.Ok){ad:Addr}{l:List V}(ha:V.data 8 a=true)(hb:V.datas 8 l=true)(q:Q (.bool (!(V.pys l).any fun y=>bw y a.py)) vals H):T2 c vals H a (.lst ad l) (ez .NotIn) VR Q EX:=fun s v u r z z'=>by
 obtain⟨as,ra⟩:=z.reads 8 ha;obtain⟨bs,rb⟩:=z'.reads 9 (by trivial);have la:=V.lay 8 a ha;have lb:=V.lays 8 l hb;refine SeqAt.notIn_list_reads rb ra lb.1 la.1 ?_ (a8.intro r (aN.refl _ _) (.bool _) q);have w1:=ok.units;have:=cw (iZ (V.pys l)) a.py.depth;simp only[cLine]
 exact aH [a.py.depth,c.A.units,min (iZ (V.pys l)) a.py.depth] 1042595146082507439214481274137881263929983673880667618466849528741953 tt la.2 w1 this
end
end
section
noncomputable def kx:dK:=fun _ _ _ _=>False
theorem fI{c:Cx}{H:Hp}{s:Shared}{e:Value}{s':Shared}:cF c H s kx e s'→False:=fun hP=>by obtain⟨_,_,_,_,h⟩:=hP;exact h
noncomputable abbrev Cx.addY(c:Cx)(y:Addr):Cx:={ c with Y:=y::c.Y }
theorem Cx.Ok.addY{c:Cx}(ok:c.Ok)(y:Addr):(c.addY y).Ok where
 kind:=ok.kind
 glob:=ok.glob
 blt:=ok.blt
 loc:=ok.loc
 cell:=ok.cell
 cells x k h:=(ok.cells x k h).imp id (Or.imp (ai _) id)
 inj:=ok.inj
 tb x h:=ai _ (ok.tb x h)
 nn:=ok.nn
 nd:=ok.nd
 nc:=ok.nc
 sto:=ok.sto
 dj:=ok.dj
 gl:=ok.gl
 cnk:=ok.cnk
 frm:=ok.frm
 dep:=ok.dep
 uni:=ok.uni
 low:=ok.low
section
variable{c:Cx}{vals:List V}{H:Hp}{s s':Shared}{y:Addr}
theorem cU{x:Addr}:x∈(c.addY y).X H↔x=y∨x∈c.X H:=by
 show x∈(y::c.Y)++c.Z H↔x=y∨x∈c.Y++c.Z H;rw[uw,aF]
theorem wX{h:Heap}(hf:∀ o,h.get? y≠some o):aN h (c.X H) h ((c.addY y).X H):=fun b o e n=>⟨e,fun z=>(cU.mp z).elim (fun q=>hf o (q▸e)) n⟩
theorem Rel.addY(R:Rel c vals H s)(hf:∀ o,s.heap.get? y≠some o)(ht:∃ o,s'.heap.get? y=some o)(k:∀ b o,s.heap.get? b=some o→s'.heap.get? b=some o)(g:eL s'.gens)(os:s'.os=s.os):Rel (c.addY y) vals H s':=by
 have S:aN s.heap (c.X H) s'.heap ((c.addY y).X H):=(wX hf).trans (aN.keeps k);have R':=R.keeps k g os;refine⟨fun x a h=>(R.vars x a h).imp id fun⟨v,q,z⟩=>⟨v,q.of (fun _ o e=>k _ o e) fun _ o _ e=>k _ o e,z.stay S⟩,R'.loc,R'.cel,fun a o h=>(R.objs a o h).of (fun b ob _ e=>k b ob e) S,R.nodup,fun x h=>?_,fun x h=>?_,R.new,R'.keep,R'.base,R'.tabs,R'.gens,R'.os,R.hi⟩
 ·intro z;rcases aF.mp z with e | z
  ·subst e;obtain⟨o,e⟩:=R.there x (kP h);exact hf o e
  ·exact R.apart x h z
 ·rcases cU.mp h with e | h
  ·rw[e];exact ht
  ·exact R'.there x h
theorem Rel.dropY(R:Rel (c.addY y) vals H s):Rel c vals H s:=by
 have S:aN s.heap ((c.addY y).X H) s.heap (c.X H):=fun b o e n=>⟨e,fun z=>n (cU.mpr (.inr z))⟩
 exact⟨fun x a h=>(R.vars x a h).imp id fun hP=>by obtain⟨v,q,z⟩:=hP;exact⟨v,q,z.stay S⟩,R.loc,R.cel,fun a o h=>(R.objs a o h).of (fun b ob _ e=>e) S,R.nodup,fun x h z=>R.apart x h (ai _ z),fun x h=>R.there x (cU.mpr (.inr h)),R.new,R.keep,R.base,R.tabs,R.gens,R.os,R.hi⟩
theorem Rel.yturn(ok:c.Ok)(R:Rel c vals H s)(hy:y∈c.Y)(hc:∀ x,c.env.cells.lookup x≠some y)(hB:c.B.get? y=none∨y∈c.W)(hi:265≤y)(ht:∃ o,s'.heap.get? y=some o)(k:∀ b o,b≠y→s.heap.get? b=some o→s'.heap.get? b=some o)(g:eL s'.gens)(os:s'.os=s.os):Rel c vals H s':=by
 have hne:∀ x,x∈c.own++haddrs H→x≠y:=fun x h e=>R.apart x h (e▸hy);have S:aN s.heap (c.X H) s'.heap (c.X H):=fun b o e n=>⟨k b o (fun z=>n (z▸aj _ hy)) e,n⟩
 have tb:∀ x∈TB,x≠y:=fun x h e=>by
  have q:∀ x∈TB,x<265:=by decide
  exact absurd (e▸hi) (bU.mpr (q x h))
 refine⟨fun x a h=>(R.vars x a h).imp id fun⟨v,q,z⟩=>⟨v,q.of (fun _ o e=>k _ o (hne _ (aj _ ok.loc)) e) fun q o hq e=>k _ o (fun z=>hc x (z▸hq)) e,z.stay S⟩,?_,?_,?_,R.nodup,R.apart,?_,R.new,?_,?_,?_,g,os.trans R.os,R.hi⟩
 ·obtain⟨m,n⟩:=R.loc;exact⟨m,n.at' fun o e=>k _ o (hne _ (aj _ ok.loc)) e⟩
 ·intro x q hq;refine nn fun hG=>?_;obtain⟨v,o,e,h⟩:=R.cel x q hq;refine hG ?_;clear hG;exact⟨v,o,k _ _ (fun z=>hc x (z▸hq)) e,h⟩
 ·exact fun a o h=>(R.objs a o h).of (fun b ob hb e=>k b ob (hne _ (ak _ (bP.mpr ⟨_,h,hb⟩))) e) S
 ·intro x h;by_cases e:x=y
  ·rw[e];exact ht
  ·obtain⟨o,q⟩:=R.there x h;exact⟨o,k _ _ e q⟩
 ·exact fun b o e h1 h2=>k _ _ (fun z=>by
   subst z;rcases hB with h | h
   ·rw[h]at e;cases e
   ·exact h1 h) (R.keep b o e h1 h2)
 ·exact R.base.of fun x o h1 _ e=>k x o (fun z=>absurd (z▸hi) (bU.mpr h1)) e
 ·exact R.tabs.of fun x o h e=>k x o (tb x h) e
theorem Rel.ygone(ok:c.Ok)(R:Rel (c.addY y) vals H s)(hc:∀ x,c.env.cells.lookup x≠some y)(hB:c.B.get? y=none∨y∈c.W)(hY:y∉c.Y)(hi:265≤y)(k:∀ b o,b≠y→s.heap.get? b=some o→s'.heap.get? b=some o)(g:eL s'.gens)(os:s'.os=s.os):Rel c vals H s':=by
 have hne:∀ x,x∈c.own++haddrs H→x≠y:=fun x h e=>R.apart x h (e▸ah);have S:aN s.heap ((c.addY y).X H) s'.heap (c.X H):=fun b o e n=>⟨k b o (fun z=>n (cU.mpr (.inl z))) e,fun z=>n (cU.mpr (.inr z))⟩
 have tb:∀ x∈TB,x≠y:=fun x h e=>by
  have q:∀ x∈TB,x<265:=by decide
  exact absurd (e▸hi) (bU.mpr (q x h))
 refine⟨fun x a h=>(R.vars x a h).imp id fun⟨v,q,z⟩=>⟨v,q.of (fun _ o e=>k _ o (hne _ (aj _ ok.loc)) e) fun q o hq e=>k _ o (fun z=>hc x (z▸hq)) e,z.stay S⟩,?_,?_,?_,R.nodup,fun x h z=>R.apart x h (ai _ z),?_,R.new,?_,?_,?_,g,os.trans R.os,R.hi⟩
 ·obtain⟨m,n⟩:=R.loc;exact⟨m,n.at' fun o e=>k _ o (hne _ (aj _ ok.loc)) e⟩
 ·intro x q hq;refine nn fun hG=>?_;obtain⟨v,o,e,h⟩:=R.cel x q hq;refine hG ?_;clear hG;exact⟨v,o,k _ _ (fun z=>hc x (z▸hq)) e,h⟩
 ·exact fun a o h=>(R.objs a o h).of (fun b ob hb e=>k b ob (hne _ (ak _ (bP.mpr ⟨_,h,hb⟩))) e) S
 ·intro x h;obtain⟨o,q⟩:=R.there x (cU.mpr (.inr h));refine⟨o,k _ _ (fun z=>?_) q⟩;subst z;rcases aw.mp h with h | h
  ·exact hY h
  ·rcases aw.mp h with h | h
   ·exact tb x h rfl
   ·exact hne x h rfl
 ·exact fun b o e h1 h2=>k _ _ (fun z=>by
   subst z;rcases hB with h | h
   ·rw[h]at e;cases e
   ·exact h1 h) (R.keep b o e h1 h2)
 ·exact R.base.of fun x o h1 _ e=>k x o (fun z=>absurd (z▸hi) (bU.mpr h1)) e
 ·exact R.tabs.of fun x o h e=>k x o (tb x h) e
end
structure Itr(c:Cx)(H:Hp)(N:List Addr)(l:List V)(I:Addr)(s s':Shared):Prop where
 keep:∀ b o,s.heap.get? b=some o→s'.heap.get? b=some o
 gens:s'.gens=s.gens
 os:s'.os=s.os
 fresh:∀ o,s.heap.get? I≠some o
 hi:265≤I
 there:∃ o,s'.heap.get? I=some o
 walk:∃ fp P St,Walks pw c.w c.A I fp [I] l.length P St∧St 0 s'.heap∧(∀ b∈fp,b=I∨(b∉N∧∃ o,s.heap.get? b=some o))∧
  (∀ i v,P i v→i<l.length→∃ a,l[i]?=some a∧VR s.heap (c.X H) a v)∧(∀ i h,St i h→∃ o,h.get? I=some o)∧
  ∀ i (s:Shared) t v (Q:Unit→Shared→Prop) E,St i s.heap→Q () s→wpAny c.M c.A (fT t (.ref I) v) Q E s
noncomputable def Bn(c:Cx)(vals:List V)(H:Hp)(a:V)(l:List V):Prop:=
 ∀ s v,Rel c vals H s→VR s.heap (c.X H) a v→∀ (P:Value→Shared→Prop) E,(∀ I s',Itr c H (c.X H) l I s s'→P (.ref I) s')→wpAny c.M c.A (pyIter v) P E s
noncomputable def zK(c:Cx)(vals:List V)(H:Hp)(a:V)(l:List V):Prop:=
 ∀ s v,Rel c vals H s→VR s.heap (c.X H) a v→∀ (P:Value→Shared→Prop) E,(∀ I s',Itr c H TB l I s s'→P (.ref I) s')→wpAny c.M c.A (pyIter v) P E s
theorem Bn.c{c:Cx}{vals:List V}{H:Hp}{a:V}{l:List V}(h:Bn c vals H a l)(ok:c.Ok):zK c vals H a l:=fun s v r z P E k=>by
 refine h s v r z P E fun I s' it=>k I s' ⟨it.keep,it.gens,it.os,it.fresh,it.hi,it.there,?_⟩;refine nn fun hG=>?_;obtain⟨fp,P,St,W,st0,hfp,rest⟩:=it.walk;refine hG ?_;clear hG;exact⟨fp,P,St,W,st0,fun b hb=>(hfp b hb).imp id fun hP=>by obtain⟨q,e⟩:=hP;exact⟨fun z=>q (aj _ (ok.tb b z)),e⟩,rest⟩
section
variable{c:Cx}{vals:List V}{H:Hp}{EX:dK}
noncomputable abbrev CX(c:Cx)(vals:List V)(H:Hp)(t:Expr)(a:V)(K:List V→Hp→Prop)(EX:dK):Prop:=T1 c vals H a (assign t c.env) UR (fun _=>K) EX
noncomputable def Kz(Q:Fl→List V→Hp→Prop)(N:List V→Hp→Prop):Fl→List V→Hp→Prop
 | .next,vals,H=>N vals H
 | .cont,vals,H=>N vals H
 | .brk,vals,H=>Q .next vals H
 | .ret a,vals,H=>Q (.ret a) vals H
noncomputable abbrev M8(c:Cx)(body:List Stmt)(Q:QF)(N:List V→Hp→Prop):List V→Hp→Prop:=fun vals H=>Ss c vals H body (Kz Q N) kx
inductive ME(c:Cx)(t:Expr)(body:List Stmt)(l:List V)(Q:Fl→List V→Hp→Prop)(vals:List V)(H:Hp):Prop
 | mk (J:Nat→List V→Hp→Prop) (j0:J 0 vals H)
  (turn:∀ i x y vals H,l[i]?=some x→J i vals H→∀ N:List V→Hp→Prop,(∀ ⦃v h⦄,J (i+1) v h→N v h)→CX (c.addY y) vals H t x (M8 (c.addY y) body Q N) kx)
  (done:∀ vals H,J l.length vals H→Q .next vals H)
inductive NK(c:Cx)(t:Expr)(body:List Stmt)(Q:QF)(a:V)(vals:List V)(H:Hp):Prop
 | mk (l:List V) (it:Bn c vals H a l) (h:ME c t body l Q vals H)
noncomputable def m7(e:Expr):Bool:=!e.ctorIdx.beq 7
theorem i6{e:Expr}(h:m7 e=true)(env:Env)(x:Value):foldedSetIterable e env x=pure x:=by
 cases e<;>first | rfl | cases h
noncomputable abbrev BH(c:Cx)(H:Hp)(s:Shared)(Q:QF)(r:Result)(s':Shared):Prop:=match r with | .ok f=>a8 c H s FR Q f s' | .error _=>False
inductive Mg(c:Cx)(I:Addr)(l:List V)(H:Hp)(s:Shared)(St:Nat→Heap→Prop)(J:Nat→List V→Hp→Prop)(n:Nat)(s':Shared):Prop
 | mk (i:Nat) (vals':List V) (H':Hp) (en:n=l.length-i) (hi:i≤l.length) (R:Rel (c.addY I) vals' H' s') (st:St i s'.heap) (S:aN s.heap (c.Z H) s'.heap (c.Z H')) (j:J i vals' H')
theorem MA{prog:dt}{w:World}{A:Around}{s:Shared}{R:Result→Shared→Prop}{t:Expr}{it:Value}{body:List Stmt}{env:Env}(I:Nat→Shared→Prop)
  (turn:∀ (n:Nat) (s:Shared),I n s→∀ (N:Option Value→Shared→Prop) (E:Value→Shared→Prop),(∀ s₁:Shared,R (.ok .next) s₁→N none s₁)→
   (∀ (v:Value) (s₁:Shared),(∀ B:Flow→Shared→Prop,(∀ (m:Nat) (s₃:Shared),m<n→I m s₃→B .next s₃∧B .cont s₃)→(∀ s₃:Shared,R (.ok .next) s₃→B .brk s₃)→(∀ (v:Value) (s₃:Shared),R (.ok (.ret v)) s₃→B (.ret v) s₃)→
    wpAny (model prog w) A (fT t it v) (fun _ s₁'=>wpAny (model prog w) A (assign t env v) (fun _ s₂=>wpAny (model prog w) A (execs body env) B E s₂) E s₁') E s₁)→N (some v) s₁)→wpAny (model prog w) A (pyNext it) N E s)
  (n:Nat)(h:I n s):cb (model prog w) A (.forLoop t it body [] env) R s:=
 codeAny_forLoop_any I (fun n s h=>turn n s h _ _ (fun _ r=>fS r) fun _ _ g=>g _ (fun m _ hm hI=>⟨⟨m,hm,hI⟩,m,hm,hI⟩) (fun _ r=>r) fun _ _ r=>r) n h
theorem LG(ok:c.Ok){t:Expr}{body:List Stmt}{l:List V}{Q:Fl→List V→Hp→Prop}(h:ME c t body l Q vals H){I:Addr}{s s₁:Shared}(R:Rel c vals H s)(it:Itr c H (c.X H) l I s s₁):
  cb c.M c.A (.forLoop t (.ref I) body [] c.env) (BH c H s Q) s₁:=by
 refine mM fun RR hR=>?_;refine nn fun hG=>?_;obtain⟨J,j0,jt,jn⟩:=h;refine hG ?_;clear hG;refine nn fun hG=>?_;obtain⟨fp,P,St,W,st0,hfp,hP,hSt,hgo⟩:=it.walk;refine hG ?_;clear hG;have ok':=ok.addY I;have R₁:Rel (c.addY I) vals H s₁:=R.addY it.fresh it.there it.keep (by rw[it.gens];exact R.gens) it.os;have fr:=R.fresh it.fresh;have hc:∀ x,(c.addY I).env.cells.lookup x≠some I:=fun x e=>by
  refine nn fun hG=>?_;obtain⟨v,o,q,_⟩:=R.cel x I e;refine hG ?_;clear hG;exact it.fresh o q
 have nope:∀ {H':Hp} {s'':Shared} {e:Value} {s₃:Shared} {X:Value→Shared→Prop},cF (c.addY I) H' s'' kx e s₃→X e s₃:=fun p=>(fI p).elim;refine MA (Mg c I l H s St J) ?_ l.length
  ⟨0,vals,H,rfl,bi _,R₁,st0,fun b o e n=>⟨it.keep b o e,n⟩,j0⟩
 intro n s' hI NN EE nd ns;refine nn fun hG=>?_;obtain⟨i,vals',H',hE1,hi,R',st,S,j⟩:=hI;refine hG ?_;clear hG;subst hE1;by_cases hlt:i<l.length
 ·refine W.item i s' _ _ hlt st fun v h' tk hv st' hk=>?_;refine nn fun hG=>?_;obtain⟨a,ha,za⟩:=hP i v hv hlt;refine hG ?_;clear hG;have k':∀ b o,b≠I→s'.heap.get? b=some o→h'.get? b=some o:=fun b o hb e=>hk b o (fun z=>hb (ao.mp z)) e;have R₂:Rel (c.addY I) vals' H' { s' with heap:=h',toks:=tk }:=
   R'.yturn (s':={ s' with heap:=h',toks:=tk }) ok' ah hc fr.2.1 it.hi (hSt _ _ st') k' R'.gens rfl
  have S₂:aN s.heap (c.Z H) h' (c.Z H'):=fun b o e n=>⟨k' b o (fun z=>it.fresh o (z▸e)) (S b o e n).1,(S b o e n).2⟩
  refine ns _ _ fun BB bn bb br=>hgo (i+1) _ t v _ _ st' ?_;have za':VR h' ((c.addY I).X H') a v:=by
   refine za.stay ?_;intro b o e n;have q:=S₂ b o e fun z=>n (ak _ z);refine⟨q.1,fun z=>?_⟩;rcases cU.mp z with z | z
   ·exact it.fresh o (z▸e)
   ·rcases aw.mp z with z | z
    ·exact n (aj _ z)
    ·exact q.2 z
  refine aK (jt i a I vals' H' ha j _ (fun _ _ x=>x) _ v R₂ za') (fun _ s₃ p=>?_) fun _ _ p=>nope p;refine nn fun hG=>?_;obtain⟨_,vals₃,H₃,R₃,S₃,_,hb⟩:=p;refine hG ?_;clear hG;refine aK (hb s₃ R₃) (fun f s₄ p=>?_) fun _ _ p=>nope p;refine nn fun hG=>?_;obtain⟨fl,vals₄,H₄,R₄,S₄,zf,q⟩:=p;refine hG ?_;clear hG;have SS:aN s.heap (c.Z H) s₄.heap (c.Z H₄):=S₂.trans (aN.trans S₃ S₄);have stt:St (i+1) s₄.heap:=W.frame _ _ _ st' fun b hb o e=>by
   rcases(hfp b hb).imp nC id with rfl | ⟨hx,o',e'⟩
   ·refine(aN.trans S₃ S₄ I o e fun z=>?_).1;rcases aw.mp z with z | z
    ·exact fr.2.2 z
    ·exact R₂.apart I z ah
   ·have q:=S₂ b o' e' fun z=>hx (ak _ z);exact(aN.trans S₃ S₄ b o e q.2).1
  cases zf with
  | next=>exact(bn (l.length-(i+1)) _ (by exact aH [l.length,l.length-i,i,l.length-(i+1)] 6791874168121104424569298686978293825 tt (su l.length i) (ag (aH [i,l.length] 407053353393264263234 tt hlt:(i+1)≤l.length))) ⟨i+1,vals₄,H₄,rfl,hlt,R₄,stt,SS,q⟩).1
  | cont=>exact(bn (l.length-(i+1)) _ (by exact aH [l.length,l.length-i,i,l.length-(i+1)] 6791874168121104424569298686978293825 tt (su l.length i) (ag (aH [i,l.length] 407053353393264263234 tt hlt:(i+1)≤l.length))) ⟨i+1,vals₄,H₄,rfl,hlt,R₄,stt,SS,q⟩).2
  | brk=>exact bb _ (hR (a8.intro R₄.dropY SS .next q))
  | ret z=>
   refine br _ _ (hR (a8.intro R₄.dropY SS (.ret (z.stay ?_)) q));exact fun b o e n=>⟨e,fun z=>n (cU.mpr (.inr z))⟩
 ·have e:i=l.length:=by exact aq (aH [i,l.length] 91202565463605313 tt hi) (aH [i,l.length] 73469641930833989 tt hlt)
  subst e;refine W.done s' _ _ st fun h' tk hk=>?_;have k':∀ b o,b≠I→s'.heap.get? b=some o→h'.get? b=some o:=fun b o hb e=>hk b o (fun z=>hb (ao.mp z)) e;have R₂:Rel c vals' H' { s' with heap:=h',toks:=tk }:=R'.ygone (s':={ s' with heap:=h',toks:=tk }) ok hc fr.2.1 (fun z=>fr.1 (aj _ z)) it.hi k' R'.gens rfl;exact nd _ (hR (a8.intro R₂ (fun b o e n=>⟨k' b o (fun z=>it.fresh o (z▸e)) (S b o e n).1,(S b o e n).2⟩) .next (jn _ _ j)))
theorem qb(ok:c.Ok){t iter:Expr}{body:List Stmt}{pos:Pos}{Q:Fl→List V→Hp→Prop}(hs:m7 iter=true)
  (h:Ev c vals H iter (NK c t body Q) EX):S1 c vals H (.For t iter body [] pos) Q EX:=by
 intro s r;rw[arm_exec_For];refine aa (be (aa (bO (h s r) fun v s₁ a vals₁ H₁ r₁ S₁ z₁ hP=>?_)));refine nn fun hG=>?_;obtain⟨l,hit,hf⟩:=hP;refine hG ?_;clear hG;rw[i6 hs];refine aa (af (aa (be (aa (aC (hit s₁ v r₁ z₁ _ _ fun I s₂ it=>?_))))));refine IZ (fb (LG ok hf r₁ it) fun r s' q=>?_)
 cases r with
 | ok f=>exact a8.stay S₁ q
 | error e=>exact q.elim
theorem rG{s:Shared}{I:Addr}{o:Obj}{T:String}(ho:s.heap.get? I=some o)(hc:o.cls= .type T)(hT:["enumerate","zip","dict_itemiterator","dict_reverseitemiterator","odict_iterator","itertools.zip_longest","itertools.pairwise"].contains T=false)
  (t:Expr)(v:Value){Q:Unit→Shared→Prop}{E:Value→Shared→Prop}(q:Q () s):wpAny c.M c.A (fT t (.ref I) v) Q E s:=by
 have key:∀ b,wpAny c.M c.A (do
   let o ← load I
   match o.cls,o.data with
   | .type n, .fields vs=>
    if ["enumerate","zip","dict_itemiterator","dict_reverseitemiterator","odict_iterator","itertools.zip_longest","itertools.pairwise"].contains n && vs[0]? == some (rawInt b)then
     rule "for.unpacks-the-owned-tuple"
     updateField I 0 .none
   | _,_=>pure ()) Q E s:=fun b=>by
  refine aa (jL ho ?_);refine hc.symm▸?_;cases o.data<;>first | exact af q | skip
  dsimp only
  rw[hT];rw[Bool.false_and];refine wn au ?_;exact af q
 cases t<;>first | exact af q | (cases v<;>first | exact af q | exact key _)
theorem iQ(hh:c.A.handled=none){ad:Addr}{l:List V}:Bn c vals H (.lst ad l) l:=by
 intro s v r z P E k
 cases z.iLst with
 | @mk vs m e n zs=>
  refine ku ⟨_,e,rfl,_,rfl⟩ (k _ _ ?_);have hne:ad≠s.heap.objs.size:=fun q=>r.none_at_size _ (q▸e);have hl:l.length=vs.toArray.size:=by rw[zs.length];simp
  refine⟨fun b o e=>al _ e,rfl,rfl,r.none_at_size,r.size,⟨_,aA _ rfl⟩,[s.heap.objs.size,ad],_,_,hl▸FW hh _ ad hne vs.toArray,?_,?_,?_,?_,?_⟩
  ·exact⟨⟨_,aA _ rfl,rfl,rfl⟩,⟨_,al _ e,rfl,_,rfl⟩⟩
  ·exact all2 (.inl rfl) (.inr ⟨n,_,e⟩)
  ·intro i v hv hi;have hv:vs[i]?=some v:=by simpa using hv
   obtain⟨a,ha⟩:∃ a,l[i]?=some a:=⟨l[i],by simp[hi]⟩
   refine nn fun hG=>?_;obtain⟨v',hv',z⟩:=zs.get ha;refine hG ?_;clear hG;rw[hv]at hv';cases hv';exact⟨a,ha,z⟩
  ·exact fun i h st=>st.1.imp fun o h=>h.1
  ·exact fun i s' t v Q E st q=>st.1.elim fun o h=>rG h.1 h.2.1 (by decide) t v q
theorem oE(hh:c.A.handled=none){lo hi:Int}(hs:Builtin.Range.small lo hi 1=true)(n:Nat)(hn:lz lo hi 1=(n:Int)):Bn c vals H (.rng lo hi) ((aG n).map fun(i:Nat)=>V.int (lo+(i:Int))):=by
 intro s v r z P E k
 cases z.iRng with
 | mk e hx=>
  refine wpAny_pyIter_range e hs (k _ _ ?_);refine⟨fun b o e=>al _ e,rfl,rfl,r.none_at_size,r.size,⟨_,aA _ rfl⟩,[s.heap.objs.size],_,_,(by simp:((aG n).map fun(i:Nat)=>V.int (lo+(i:Int))).length=n)▸Walks.range hh _ lo 1 n,?_,?_,?_,?_,?_⟩
  ·show IsRangeIter _ _ _ _ _;have q:=aA s.heap (o:={ cls:=.type "range_iterator",data:=.fields #[rawInt lo,rawInt (lz lo hi 1),rawInt 1] }) rfl;rw[hn]at q;simpa[hn]using q
  ·exact fun b hb=>.inl (by simpa using hb)
  ·rintro i v ⟨t,rfl⟩ hi
   simp only[an,dX]at hi;exact⟨.int (lo+(i:Int)),by simp[hi],by simpa using VR.int (lo+(i:Int)) t⟩
  ·exact fun i h st=>⟨_,st⟩
  ·exact fun i s' t v Q E st q=>rG st rfl (by decide) t v q
theorem cL(ok:c.Ok){x:Str}{p:Pos}{a:V}{K:List V→Hp→Prop}(h:∃ vals₂,pW c.names vals x a vals₂∧K vals₂ H):CX c vals H (.Name x p) a K EX:=fun s v r z=>by
 refine nn fun hG=>?_;obtain⟨vals₂,p,q⟩:=h;refine hG ?_;clear hG;rw[mq];exact aa (be (iV (iA (Q:=fun _=>K) ok (ok.sto _ p.mem) p r z q)))
end
end
section
structure Fd where
 i:Nat
 a:Addr
 k:Addr
 np:Nat
 names:List Str
 gn:List Str
 gv:List Value
 cn:List Str:=[]
noncomputable def Fd.fd(d:Fd)(pm:Value):FuncData:=iR d.i d.k pm
noncomputable def xO(sc:Scope):List Str→List Value→Bool
 | x::gn,v::gv=>sc.names.lookup x == some .globalImplicit && !(x == ("__debug__" :Str)) && (uG.lookup x == some v || p8.lookup x == some v) && xO sc gn gv
 | [],_=>true
 | _::_,[]=>true
noncomputable def kQ:List Str→Bool
 | []=>true
 | x::l=>!l.contains x && kQ l
theorem kY:∀ {l:List Str},kQ l=true→l.Nodup
 | [],_=>l8
 | x::l,h=>by
  simp only[kQ,bk,g9]at h;exact cg.mpr ⟨fun m=>by have:=h.1;simp[m]at this,kY h.2⟩
theorem yo{sc:Scope}{gn:List Str}{gv:List Value}{x:Str}{v:Value}(h:At gn gv x v):xO sc gn gv=true→sc.names.lookup x=some .globalImplicit∧(x == ("__debug__" :Str))=false∧(uG.lookup x=some v∨p8.lookup x=some v):=by
 induction h with
 | head=>
  intro q;simp only[xO,bk,gQ,eP,g9]at q;exact⟨q.1.1.1,by simpa using q.1.1.2,q.1.2⟩
 | tail _ ih=>
  intro q;simp only[xO,bk]at q;exact ih q.2
noncomputable def Fd.chk(d:Fd):Bool:=
 (Gp d.i).isEmpty && ou.contains (d.i,d.a,d.k) && kQ d.names && d.names.all (fun x=>((bD d.i).names.lookup x == some .local || (bD d.i).names.lookup x == some .cell) && !(x == ("__debug__" :Str)) && !(x == ("__classdict__" :Str))) &&
 xO (bD d.i) d.gn d.gv && !(bD d.i).isCoroutine && !(bD d.i).isGenerator && (bD d.i).kind == .function && decide (d.np≤d.names.length) && kQ ((bD d.i).names.map (·.1)) && d.cn.all fun x=>(bD d.i).names.lookup x == some .cell
structure NR(d:Fd):Prop where
 hclo:Gp d.i= []
 hmem:(d.i,d.a,d.k)∈ou
 hnd:kQ d.names=true
 hkd:∀ x∈d.names,(((bD d.i).names.lookup x=some .local∨(bD d.i).names.lookup x=some .cell)∧(x == ("__debug__" :Str))=false)∧(x == ("__classdict__" :Str))=false
 hgl:xO (bD d.i) d.gn d.gv=true
 hco:(bD d.i).isCoroutine=false
 hgen:(bD d.i).isGenerator=false
 hfk:(bD d.i).kind= .function
 hnp:d.np≤d.names.length
 hsn:kQ ((bD d.i).names.map (·.1))=true
 hcn:∀ x∈d.cn,(bD d.i).names.lookup x=some .cell
theorem Fd.ok{d:Fd}(hd:d.chk=true):NR d:=by
 simp only[Fd.chk,bk,g9,ay,gQ,eP,bd,pN,List.isEmpty_iff]at hd;obtain⟨⟨⟨⟨⟨⟨⟨⟨⟨⟨hclo,hmem⟩,hnd⟩,hkd⟩,hgl⟩,hco⟩,hgen⟩,hfk⟩,hnp⟩,hsn⟩,hcn⟩:=hd;exact⟨hclo,by simpa using hmem,hnd,hkd,hgl,hco,hgen,hfk,hnp,hsn,hcn⟩
noncomputable def gX(n:Nat):List V:=List.replicate n .unb
structure Fx where
 w:World
 A:Around
 env:Env
 own:List Addr
 Y:List Addr
 B:Heap
 W:List Addr
 os:qR
 lvl:Nat
noncomputable abbrev frame(d:Fd)(x:Fx):Cx:=⟨x.w,x.A,x.env,d.names,x.own,x.Y,x.B,x.W,x.os,[],x.lvl,d.gn,d.gv,d.cn⟩
noncomputable def KP:Fl→Option V
 | .ret a=>some a
 | .next=>some .none
 | _=>none
theorem Mu{α:Type}{v:α}{P:α→Prop}(h:P v):∀ b,b=v→P b:=fun b e=>e▸h
theorem ri{α:Type}{l:List α}(h:l.length=1):∃ a,l= [a]:=List.length_eq_one_iff.mp h
theorem ww{α:Type}{l:List α}(h:l.length=2):∃ a b,l= [a,b]:=by
 cases l with
 | nil=>cases h
 | cons a l=>obtain⟨b,rfl⟩:=ri (xJ h);exact⟨a,b,rfl⟩
theorem Gh{α:Type}{l:List α}(h:l.length=3):∃ a b d,l= [a,b,d]:=by
 cases l with
 | nil=>cases h
 | cons a l=>obtain⟨b,d,rfl⟩:=ww (xJ h);exact⟨a,b,d,rfl⟩
inductive Mh(H₀:Hp)(Q:V→Hp→Prop)(fl:Fl)(vals:List V)(H':Hp):Prop
 | mk (b:V) (G H₁:Hp) (e:KP fl=some b) (e1:H'=G++H₁) (e2:haddrs H₁=haddrs H₀) (q:Q b H₁)
noncomputable def eO(d:Fd)(n:Nat)(as:List V)(H₀:Hp)(Q:V→Hp→Prop):Prop:=
 ∀ x:Fx,(frame d x).Ok→x.A.handled=none→(∃ out,x.A.frames=some (x.env::out))∧x.env.scope=bD d.i∧x.env.code= .ref d.k∧x.env.func=some d.a→x.lvl+n≤20→
  Ss (frame d x) (as++gX (d.names.length-d.np)) H₀ (gy d.i) (Mh H₀ Q) kx
inductive DU(F H₀:Hp)(Q:V→Hp→Prop)(fl:Fl)(vals:List V)(H':Hp):Prop
 | mk (b:V) (G H₁:Hp) (e:KP fl=some b) (e1:H'=G++(H₁++F)) (e2:haddrs H₁=haddrs H₀) (q:Q b H₁)
theorem xG{ns ms:List Str}{as bs:List V}(hl:ns.length=as.length){x:Str}{a:V}(h:At (ns++ms) (as++bs) x a):At ns as x a∨At ms bs x a:=by
 induction ns generalizing as with
 | nil=>
  cases as with
  | nil=>exact .inr h
  | cons _ _=>cases hl
 | cons n ns ih=>
  cases as with
  | nil=>cases hl
  | cons b as=>
   cases h with
   | head=>exact .inl .head
   | tail h=>exact(ih (by simpa using hl) h).imp .tail id
theorem L0{ns:List Str}{bs:List V}{x:Str}{a:V}(h:At ns bs x a):(∀ b∈bs,b=V.unb)→a= .unb:=by
 induction h with
 | head=>exact fun hb=>hb _ ah
 | tail _ ih=>exact fun hb=>ih fun b m=>hb b (ai _ m)
theorem ul{ns:List Str}{n:Nat}{x:Str}{a:V}(h:At ns (gX n) x a):a= .unb:=L0 h fun b m=>List.eq_of_mem_replicate m
theorem GT{h:Heap}{X:List Addr}{ns:List Str}{as:List V}{vs:List Value}(z:dP h X as vs){x:Str}{a:V}(ha:At ns as x a):∃ v,VR h X a v∧At ns vs x v:=by
 induction ha generalizing vs with
 | head=>replace z:=z.iCons;cases z with | mk z _=>exact⟨_,z, .head⟩
 | tail _ ih=>cases z.iCons with | mk _ zs=>obtain⟨v,q,w⟩:=ih zs;exact⟨v,q, .tail w⟩
theorem GS{ns:List Str}{vs:List Value}{x:Str}{v:Value}(h:At ns vs x v):(x,v)∈ns.zip vs:=by
 induction h with
 | head=>exact ah
 | tail _ ih=>exact ai _ ih
theorem DQ{kd:Str→Option dy}:∀ (bs:List (Str×Value)) (m cm:Str→Option Value),(bs.map (·.1)).Nodup→∀ x v,(x,v)∈bs→
  (kd x=some .local→bindL kd bs m x=some v)∧(kd x≠some .local→bindC kd bs cm x=some v):=by
 have keepL:∀ (bs:List (Str×Value)) (m:Str→Option Value) (x:Str),x∉bs.map (·.1)→bindL kd bs m x=m x:=by
  intro bs
  induction bs with
  | nil=>intro m x _;rfl
  | cons b bs ih=>
   intro m x hx;obtain⟨n,v⟩:=b;simp only[aV,aF,not_or]at hx;unfold bindL;rw[ih _ x hx.2]
   split
   ·show (if x=n then some v else m x)=m x;rw[if_neg hx.1]
   ·rfl
 have keepC:∀ (bs:List (Str×Value)) (m:Str→Option Value) (x:Str),x∉bs.map (·.1)→bindC kd bs m x=m x:=by
  intro bs
  induction bs with
  | nil=>intro m x _;rfl
  | cons b bs ih=>
   intro m x hx;obtain⟨n,v⟩:=b;simp only[aV,aF,not_or]at hx;unfold bindC;rw[ih _ x hx.2]
   split
   ·rfl
   ·show (if x=n then some v else m x)=m x;rw[if_neg hx.1]
 intro bs
 induction bs with
 | nil=>intro _ _ _ x v h;cases h
 | cons b bs ih=>
  intro m cm nd x v h;obtain⟨n,u⟩:=b;rw[aV,cg]at nd;rcases aF.mp h with e | h
  ·cases e;refine⟨fun hk=>?_,fun hk=>?_⟩
   ·unfold bindL;rw[keepL bs _ x nd.1,if_pos hk];simp
   ·unfold bindC;rw[keepC bs _ x nd.1,if_neg hk];simp
  ·unfold bindL bindC;exact ih _ _ nd.2 x v h
set_option tactic.hygienic true in
theorem rJ:∀ (names:List (Str×dy)) (n:Nat) (acc:List (Str×Addr)) (x:Str),((x,pV)∈names∨(acc.lookup x).isSome=true)→((jS n names acc).lookup x).isSome=true
 | [],n,acc,x,h=>by
  rcases h with h | h
  ·cases h
  ·exact h
 | (y,kd)::r,n,acc,x,h=>by
  unfold jS
  split
  ·rename_i hk
   refine rJ r _ _ x ?_;by_cases e:x=y
   ·subst e;exact .inr (by simp)
   ·rcases h with h | h
    ·rcases aF.mp h with q | q
     ·cases q;exact(e rfl).elim
     ·exact .inl q
    ·refine .inr ?_;rw[c0];have:(x == y)=false:=by simpa using e
     rw[this];exact h
  ·rename_i hk
   refine rJ r _ _ x ?_;rcases h with h | h
   ·rcases aF.mp h with q | q
    ·cases q;exact(hk rfl).elim
    ·exact .inl q
   ·exact .inr h
theorem pI:∀ (names:List (Str×dy)) (n:Nat) (acc:List (Str×Addr)),(names.map (·.1)++acc.map (·.1)).Nodup→((jS n names acc).map (·.1)).Nodup
 | [],n,acc,h=>by unfold jS;simpa using h
 | (y,kd)::r,n,acc,h=>by
  unfold jS;rw[aV,uw,cg]at h
  split
  ·refine pI r _ _ ?_;rw[aV];exact(List.perm_middle.nodup_iff).mpr (cg.mpr h)
  ·exact pI r _ _ h.2
theorem fu{α:Type}{l:List (Str×α)}(nd:(l.map (·.1)).Nodup){p:Str×α}(h:p∈l):l.lookup p.1=some p.2:=by
 induction l with
 | nil=>exact nomatch h
 | cons a l ih=>
  rw[aV,cg]at nd;rw[c0];rcases aF.mp h with e | h
  ·rw[e,lx]
  ·have:(p.1 == a.1)=false:=beq_eq_false_iff_ne.mpr fun e=>nd.1 (e▸rc h);rw[this];exact ih nd.2 h
theorem Dg{h:Heap}{X X':List Addr}(hs:∀ x,x∈X'→x∈X):aN h X h X':=fun b o e n=>⟨e,fun z=>n (hs b z)⟩
section
variable{c:Cx}{vals:List V}{H₀ H₁:Hp}{EX:dK}{Q:V→List V→Hp→Prop}{as:List V}
theorem jK(A B:Hp):haddrs (A++B)=haddrs A++haddrs B:=rg
theorem m3{x:Addr}{a b d:List Addr}(h:x∈a++(b++d)):x∈a∨x∈b∨x∈d:=(aw.mp h).imp id aw.mp
theorem m4{x:Addr}{a b d e:List Addr}(h:x∈a++(b++(d++e))):x∈a∨x∈b∨x∈d∨x∈e:=(aw.mp h).imp id m3
theorem call_atG(d:Fd)(hd:d.chk=true)(n:Nat)(ok:c.Ok)(hl:c.lvl+(n+1)≤20)(ha:as.length=d.np)
  {Qf:V→Hp→Prop}(q:∀ b H',haddrs H'=haddrs H₀→Qf b H'→Q b vals (H'++H₁)){s:Shared}{vs:List Value}(r:Rel c vals (H₀++H₁) s)(z:dP s.heap (c.X (H₀++H₁)) as vs)(pm:Value)(E:Value→Shared→Prop)
  {F:Hp}{own':List Addr}(own1:∀ y∈own',y∈c.own)(ownF:∀ y∈haddrs F,y∈c.own∧y∉own')(own2:∀ y∈c.own,y∈own'∨y∈haddrs F)(ndF:(haddrs F).Nodup)(celF:∀ q∈haddrs F,q=c.env.locals)
  (objF:∀ a o,(a,o)∈F→∀ h X,(∀ b ob,s.heap.get? b=some ob→h.get? b=some ob)→MR h X a o)
  (locF:∀ (s':Shared) X,(∀ p∈F,MR s'.heap X p.1 p.2)→(c.env.locals∉haddrs F→∀ o,s.heap.get? c.env.locals=some o→s'.heap.get? c.env.locals=some o)→∀ m,s.heap.Ns c.env.locals m→s'.heap.Ns c.env.locals m)
  (spec:∀ (env:Env) (own Y:List Addr),(frame d ⟨c.w,c.A.deeper env,env,own,Y,s.heap,haddrs (H₀++F),c.os,c.lvl+1⟩).Ok→env.scope=bD d.i→env.code= .ref d.k→env.func=some d.a→env.frame=some env.locals→
   Ss (frame d ⟨c.w,c.A.deeper env,env,own,Y,s.heap,haddrs (H₀++F),c.os,c.lvl+1⟩) (as++gX (d.names.length-d.np)) (H₀++F) (gy d.i) (DU F H₀ Qf) kx):
  wpAny c.M c.A.in1 (iW (d.fd pm).scope (d.fd pm).globals (d.fd pm).closure ((d.names.take d.np).zip vs) ((d.fd pm).qualname++ ".<locals>.") (some d.a) (d.fd pm).code none (d.fd pm).builtins)
   (fun env s₂=>s₂.heap.NoLimit∧cb c.M c.A (.func (gy d.i) env) (fun r s'=>match r with | .ok (.ret v)=>a8 c (H₀++H₁) s VR Q v s' | .ok _=>False | .error e=>cF c (H₀++H₁) s EX e s') s₂) E s:=by
 have hlen:vs.length=d.np:=by rw[← z.length];exact ha
 obtain⟨hclo,hmem,hnd,hkd,hgl,hco,hgen,hfk,hnp,hsn,hcn⟩:=Fd.ok hd;have hnod:=kY hnd;have hHa:=jK H₀ H₁;have hFa:=jK H₀ F;have hzip:((d.names.take d.np).zip vs).map (·.1)=d.names.take d.np:=List.map_fst_zip (by rw[bM,hlen];exact bC _ _);have hbk:∀ x∈(d.names.take d.np).zip vs,x.1∈d.names:=fun x hx=>dO (hzip▸rc hx);let fd:=d.fd pm;let L:=s.heap.objs.size;let env:=callEnvC fd L d.a;have hcells:∀ x,env.kindOf x=some .cell→∃ k,env.cells.lookup x=some k:=by
  intro x hx;have q:=rJ fd.scope.names (L+1) [] x (.inl (mem_of_lookup (show fd.scope.names.lookup x=some .cell from hx)));exact cX.mp q
 have hkind:∀ x∈(d.names.take d.np).zip vs,fd.scope.names.lookup x.1=some .local∨(fd.scope.names.lookup x.1=some .cell∧((jS (L+1) fd.scope.names []).lookup x.1).isSome=true):=by
  intro x hx;rcases(hkd _ (hbk x hx)).1.1 with h | h
  ·exact .inl h
  ·obtain⟨k,hk⟩:=hcells x.1 h;exact .inr ⟨h,by rw[show (jS (L+1) fd.scope.names []).lookup x.1=some k from hk];rfl⟩
 have hclo':fd.closure= []:=hclo;show wpAny _ _ (iW fd.scope fd.globals fd.closure _ _ _ _ _ _) _ _ _;refine hclo'.symm▸?_;refine wpAny_newFunctionEnv_cells hfk hkind fun env₀ he s₁ x=>?_;obtain rfl:env₀=env:=he;refine⟨r.base.lim.keeps x.toInCall.keep,codeAny_func ?_⟩;let own:=L::env.cells.map (·.2);let c':=frame d ⟨c.w,c.A.deeper env,env,own,c.Y++(TB++(own'++haddrs H₁)),s.heap,haddrs (H₀++F),c.os,c.lvl+1⟩;have hnone:∀ y,L≤y→∀ o,s.heap.get? y≠some o:=fun y hy o e=>absurd (bu e) (ip.mpr hy);have hownL:∀ y∈own,L≤y:=by
  intro y hy;rcases aF.mp hy with e | hy
  ·rw[e];exact bo _
  ·refine nn fun hG=>?_;obtain⟨p,hp,hE1⟩:=ap.mp hy;refine hG ?_;clear hG;subst hE1;exact bJ (x.above p.1 p.2 hp)
 have ok':c'.Ok:=by
  refine⟨hfk,rfl,rfl,ah,?_,?_,?_,?_,hnod,?_,?_,?_,?_,?_,?_,(let ⟨_,h⟩:=ok.frm;⟨_,j6 h⟩),?_,?_,?_⟩
  ·intro y _ k hk hl';exact⟨ai _ (ap.mpr ⟨_,mem_of_lookup hl',rfl⟩),gA (x.above y k (mem_of_lookup hl'))⟩
  ·intro y k hl';exact .inl ⟨ai _ (ap.mpr ⟨_,mem_of_lookup hl',rfl⟩),gA (x.above y k (mem_of_lookup hl'))⟩
  ·intro y y' k h1 h2;exact name_of_addr x.apart (mem_of_lookup h1) (mem_of_lookup h2)
  ·exact fun y hy=>ak _ (aj _ hy)
  ·exact fun y hy=>(hkd y hy).1.2
  ·exact fun y hy=>(hkd y hy).2
  ·intro y hy;rcases(hkd y hy).1.1 with h | h
   ·exact .inl h
   ·obtain⟨k,hk⟩:=hcells y h;exact .inr ⟨h,by rw[hk];rfl⟩
  ·exact fun p hp=>nomatch hp
  ·exact fun y v hy=>yo hy hgl
  ·intro y hy;obtain⟨k,hk⟩:=hcells y (hcn y hy);exact⟨.inl (hcn y hy),by rw[hk];rfl⟩
  ·have:=ok.dep;show c.A.depth+1≤400+2*(c.lvl+1);exact aH [c.A.depth,c.lvl] 13288624422078233387646694653852980634495886054755102910054465 tt this
  ·have:=ok.uni;show c.A.units+3≤100+50*(c.lvl+1);exact aH [c.A.units,c.lvl] 13288625571449888932528597962956946591337513764541497676398657 tt this
  ·show c.lvl+1≤20;exact bL (cy _ _) hl
 refine nn fun hG=>?_;obtain⟨h₁,tk,hs₁⟩:=x.toInCall.same;refine hG ?_;clear hG;have k₁:=x.toInCall.keep;have hH₀:∀ y∈haddrs H₀,y∈c.own++haddrs (H₀++H₁):=fun y hy=>ak _ (hHa▸aj _ hy);have hH₁:∀ y∈haddrs H₁,y∈c.own++haddrs (H₀++H₁):=fun y hy=>ak _ (hHa▸ak _ hy);have hHF:∀ y∈haddrs (H₀++F),y∈c.own++haddrs (H₀++H₁):=fun y hy=>(aw.mp (hFa▸hy)).elim (hH₀ y) fun w=>aj _ (ownF y w).1;have hYX:∀ y∈c.Y++(TB++(own'++haddrs H₁)),y∈c.X (H₀++H₁):=fun y hy=>(m4 hy).elim (fun h=>aj _ h) fun h=>h.elim (fun h=>ak _ (aj _ h)) fun h=>kP (h.elim (fun h=>aj _ (own1 y h)) (hH₁ y));have hX':∀ y,y∈c'.X (H₀++F)→y∈c.X (H₀++H₁)∨y∈own:=fun y hy=>(aw.mp (show y∈(c.Y++(TB++(own'++haddrs H₁)))++(TB++(own++haddrs (H₀++F))) from hy)).elim (fun h=>.inl (hYX y h))
  fun h=>(m3 h).elim (fun h=>.inl (ak _ (aj _ h))) fun h=>h.elim .inr fun h=>.inl (kP (hHF y h))
 have S₁:aN s.heap (c.X (H₀++H₁)) s₁.heap (c'.X (H₀++F)):=fun b o e n=>⟨k₁ b o e,fun z=>(hX' b z).elim n fun w=>hnone b (hownL b w) o e⟩
 have nd:=r.nodup;rw[hHa,aJ]at nd;have nd2:=aJ.mp nd.2.1;have nF:∀ y∈haddrs F,∀ y'∈haddrs H₀++haddrs H₁,y≠y':=fun y hy y' hy'=>nd.2.2 y (ownF y hy).1 y' hy';have exHF:∀ y∈haddrs (H₀++F),∃ o,s.heap.get? y=some o:=fun y hy=>r.there y (kP (hHF y hy));have ndHF:(haddrs (H₀++F)).Nodup:=by
  rw[hFa,aJ];exact⟨nd2.1,ndF,fun y hy y' hy' e=>nF y' hy' y (aj _ hy) e.symm⟩
 have R':Rel c' (as++gX (d.names.length-d.np)) (H₀++F) s₁:=by
  refine⟨?_,⟨_,x.toInCall.ns⟩,fun y k hk=>⟨_,x.cell y k hk⟩,?_,?_,?_,?_,?_,fun b o e h1 h2=>k₁ b o e,r.base.of fun y o _ _ e=>k₁ y o e,r.tabs.of fun y o _ e=>k₁ y o e,?_,?_,?_⟩
  ·intro y a hy;rcases hy with hy | hy
   ·have hsp:d.names=d.names.take d.np++d.names.drop d.np:=(d7 _ _).symm;have hy':At (d.names.take d.np++d.names.drop d.np) (as++gX (d.names.length-d.np)) y a:=by rw[← hsp];exact hy
    rcases xG (by rw[bM,ha];exact dJ hnp) hy' with h | h
    ·refine nn fun hG=>?_;obtain⟨v,zv,hv⟩:=GT z h;refine hG ?_;clear hG;refine .inr ⟨v,?_,zv.stay S₁⟩;have hb':=DQ (kd:=env.kindOf) ((d.names.take d.np).zip vs) (fun _=>none) (fun _=>none) (by rw[hzip];exact hnod.sublist (List.take_sublist _ _)) y v (GS hv);rcases(hkd y (dO h.mem)).1.1 with hk | hk
     ·exact .inl ⟨hk,_,x.toInCall.ns,hb'.1 hk⟩
     ·obtain⟨k,hkc⟩:=hcells y hk;have hne:env.kindOf y≠some .local:=by rw[show env.kindOf y=some .cell from hk];decide
      exact .inr ⟨.inl hk,k,hkc,by rw[← hb'.2 hne];exact x.cell y k hkc⟩
    ·exact .inl (ul h)
   ·exact nomatch hy
  ·intro a o hm;rcases aw.mp hm with hm | hm
   ·exact(r.objs a o (aj _ hm)).of (fun b ob _ e=>k₁ b ob e) S₁
   ·exact objF a o hm _ _ fun b ob e=>k₁ b ob e
  ·show (own++haddrs (H₀++F)).Nodup;rw[aJ];refine⟨?_,ndHF,fun y hy y' hy' e=>?_⟩
   ·refine cg.mpr ⟨fun hm=>?_,?_⟩
    ·refine nn fun hG=>?_;obtain⟨p,hp,hpe⟩:=ap.mp hm;refine hG ?_;clear hG;exact gA (x.above p.1 p.2 hp) hpe
    ·rw[ik,g8];exact x.apart
   ·subst e;obtain⟨o,e⟩:=exHF y hy';exact hnone y (hownL y hy) o e
  ·intro y hy hY;have hY:y∈c.Y++(TB++(own'++haddrs H₁)):=hY;rcases aw.mp hy with hy | hy
   ·obtain⟨o,e⟩:=r.there y (hYX y hY);exact hnone y (hownL y hy) o e
   ·rcases m4 hY with h | h | h | h
    ·exact r.apart y (hHF y hy) h
    ·exact c4 ok r (hHF y hy) h
    ·exact(aw.mp (hFa▸hy)).elim (fun hy=>nd.2.2 y (own1 y h) y (aj _ hy) rfl) fun hy=>(ownF y hy).2 h
    ·exact(aw.mp (hFa▸hy)).elim (fun hy=>nd2.2.2 y hy y h rfl) fun hy=>nF y hy y (ak _ h) rfl
  ·intro y hy;rcases hX' y hy with h | h
   ·obtain⟨o,e⟩:=r.there y h;exact⟨o,k₁ _ _ e⟩
   ·rcases aF.mp h with e | h
    ·rw[e];refine nn fun hG=>?_;obtain⟨o,_,_,e',_⟩:=x.toInCall.ns;refine hG ?_;clear hG;exact⟨o,e'⟩
    ·refine nn fun hG=>?_;obtain⟨p,hp,hE1⟩:=ap.mp h;refine hG ?_;clear hG;subst hE1;have nc:(env.cells.map (·.1)).Nodup:=pI fd.scope.names (L+1) [] (by rw[jz,cW];exact kY hsn);refine nn fun hG=>?_;obtain⟨o,e,_⟩:=x.cell p.1 p.2 (fu nc hp);refine hG ?_;clear hG;exact⟨o,e⟩
  ·intro y hy;rcases aw.mp hy with h | h
   ·left
    cases e:s.heap.get? y with
    | none=>rfl
    | some o=>exact(hnone y (hownL y h) o e).elim
   ·exact .inr h
  ·rw[hs₁];exact r.gens
  ·rw[hs₁];exact r.os
  ·intro y hy;rcases aw.mp hy with h | h
   ·exact aU r.size (hownL y h)
   ·exact r.hi y (hHF y h)
 refine aK (spec env own _ ok' rfl rfl rfl rfl s₁ R') (fun f s' p=>?_) fun e s' p=>(fI p).elim;refine nn fun hG=>?_;obtain⟨fl,vals',H',R'',S,zf,b,G,H₂,hret,hH',hadr,qf⟩:=p;refine hG ?_;clear hG;subst hH';have hGa:haddrs (G++(H₂++F))=haddrs G++(haddrs H₂++haddrs F):=(jK _ _).trans (bc _ (jK _ _));have hN:haddrs (H₂++H₁)=haddrs (H₀++H₁):=by rw[hHa,← hadr];exact jK _ _
 have kk:∀ b o,b∉haddrs (H₀++F)→b∉TB→s.heap.get? b=some o→s'.heap.get? b=some o:=fun b o h1 h2 e=>R''.keep b o e h1 h2;have iH₂:∀ y∈haddrs H₂,y∈c'.X (G++(H₂++F)):=fun y hy=>kP (ak _ (hGa▸ak _ (aj _ hy)));have iF:∀ y∈haddrs F,y∈c'.X (G++(H₂++F)):=fun y hy=>kP (ak _ (hGa▸ak _ (ak _ hy)));have iY:∀ y,y∈c.Y++(TB++(own'++haddrs H₁))→y∈c'.X (G++(H₂++F)):=fun y hy=>aj _ hy;have subX:∀ y,y∈c.X (H₂++H₁)→y∈c'.X (G++(H₂++F)):=by
  intro y hy;rcases m4 (show y∈c.Y++(TB++(c.own++haddrs (H₂++H₁))) from hy)with h | h | h | h
  ·exact iY y (aj _ h)
  ·exact iY y (ak _ (aj _ h))
  ·exact(own2 y h).elim (fun h=>iY y (ak _ (ak _ (aj _ h)))) (iF y)
  ·exact(aw.mp (jK H₂ H₁▸h)).elim (iH₂ y) fun h=>iY y (ak _ (ak _ (ak _ h)))
 have hZ:c.Z (H₂++H₁)=c.Z (H₀++H₁):=DR hN;have SZ:aN s.heap (c.Z (H₀++H₁)) s'.heap (c.Z (H₂++H₁)):=fun b o e n=>by
  rw[hZ];exact⟨kk b o (fun z=>n (wQ (hHF b z))) (fun z=>n (aj _ z)) e,n⟩
 have cel:∀ y q,c.env.cells.lookup y=some q→q∉haddrs (H₀++F)∧q∉TB:=fun y q hq=>by
  refine⟨fun hm=>?_,fun hm=>?_⟩
  ·rcases ok.cells y q hq with z | z | z
   ·rw[hFa]at hm;exact(aw.mp hm).elim (fun hm=>nd.2.2 q z.1 q (aj _ hm) rfl) fun hm=>z.2 (celF q hm)
   ·exact r.apart q (hHF q hm) z
   ·exact absurd (r.hi q (hHF q hm)) (bU.mpr z.1)
  exact r.celTB y q hq hm
 have locN:=locF s' _ (fun p hp=>R''.objs p.1 p.2 (ak _ (ak _ hp))) fun hn o e=>kk _ _ (fun hm=>(aw.mp (hFa▸hm)).elim (fun hm=>nd.2.2 _ ok.loc _ (aj _ hm) rfl) hn) (c4 ok r (aj _ ok.loc)) e;have R₂:Rel c vals (H₂++H₁) s':=by
  refine r.change ok hHF kk R''.tabs R''.gens (R''.os.trans r.os.symm) hN ?_ ?_ ?_ ?_ ?_
  ·exact fun y hy=>R''.there y (kP (ak _ (by rw[hGa,hadr];rw[hFa]at hy;exact ak _ hy)))
  ·intro y a hy;refine(r.vars y a hy).imp id fun⟨v,w,zz⟩=>⟨v,?_,zz.go SZ⟩
   rcases w with ⟨kd,m,ns,hv⟩ | ⟨kd,q,hq,o,ho,hc⟩
   ·exact .inl ⟨kd,m,locN m ns,hv⟩
   ·exact .inr ⟨kd,q,hq,o,kk _ _ (cel y q hq).1 (cel y q hq).2 ho,hc⟩
  ·obtain⟨m,n⟩:=r.loc;exact⟨m,locN m n⟩
  ·intro y q hq;refine nn fun hG=>?_;obtain⟨v,o,e,hc⟩:=r.cel y q hq;refine hG ?_;clear hG;exact⟨v,o,kk _ _ (cel y q hq).1 (cel y q hq).2 e,hc⟩
  ·intro a o hm;rcases aw.mp hm with hm | hm
   ·exact(R''.objs a o (ak _ (aj _ hm))).of (fun _ _ _ e=>e) (Dg subX)
   ·refine(r.objs a o (ak _ hm)).of (fun y oy hy e=>kk _ _ (fun w=>?_) (c4 ok r (hH₁ y (bP.mpr ⟨_,hm,hy⟩))) e) SZ.toX;have hy1:y∈haddrs H₁:=bP.mpr ⟨_,hm,hy⟩;exact(aw.mp (hFa▸w)).elim (fun w=>nd2.2.2 y w y hy1 rfl) fun w=>nF y w y (ak _ hy1) rfl
 have fin:∀ v,VR s'.heap (c'.X (G++(H₂++F))) b v→a8 c (H₀++H₁) s VR Q v s':=fun v zv=>a8.intro R₂ SZ (zv.stay (Dg subX)) (q b H₂ hadr qf)
 cases zf with
 | next=>cases hret;exact fin _ .none
 | brk=>cases hret
 | cont=>cases hret
 | ret zz=>cases hret;exact fin _ zz
theorem J6(d:Fd)(hd:d.chk=true)(n:Nat)(ok:c.Ok)(hh:c.A.handled=none)(hl:c.lvl+(n+1)≤20)(ha:as.length=d.np)
  {Qf:V→Hp→Prop}(spec:eO d n as H₀ Qf)(q:∀ b H',haddrs H'=haddrs H₀→Qf b H'→Q b vals (H'++H₁)){s:Shared}{vs:List Value}(r:Rel c vals (H₀++H₁) s)(z:dP s.heap (c.X (H₀++H₁)) as vs)(pm:Value)(E:Value→Shared→Prop):
  wpAny c.M c.A.in1 (iW (d.fd pm).scope (d.fd pm).globals (d.fd pm).closure ((d.names.take d.np).zip vs) ((d.fd pm).qualname++ ".<locals>.") (some d.a) (d.fd pm).code none (d.fd pm).builtins)
   (fun env s₂=>s₂.heap.NoLimit∧cb c.M c.A (.func (gy d.i) env) (fun r s'=>match r with | .ok (.ret v)=>a8 c (H₀++H₁) s VR Q v s' | .ok _=>False | .error e=>cF c (H₀++H₁) s EX e s') s₂) E s:=
 call_atG (F:=[]) (own':=c.own) d hd n ok hl ha q r z pm E (fun _ h=>h) (fun _ h=>(aZ h).elim) (fun _ h=>.inl h) .nil (fun _ h=>(aZ h).elim) (fun _ _ h=>(aZ h).elim) (fun s' _ _ k m n=>n.at' fun o e=>k aZ o e) fun env own Y ok' e1 e2 e3 _=>by
  rw[cW]at ok' ⊢;refine fun s r=>aK (spec _ ok' hh ⟨(let ⟨_,h⟩:=ok.frm;⟨_,j6 h⟩),e1,e2,e3⟩ (by rw[r4,gB 1];exact hl) s r) (fun f s' p=>?_) fun _ _ p=>p
  cases p with
  | mk fl vals' H' r S h p=>cases p with | mk b G H₁ e e' e'' q=>exact⟨_,_,_,r,S,h,b,G,H₁,e,e'.trans (bc (G++ ·) (cW H₁).symm),e'',q⟩
noncomputable def jX(c:Cx)(vals:List V)(H:Hp)(d:Fd)(as as':List V):Prop:=
 ∀ pm s vs,Rel c vals H s→dP s.heap (c.X H) as vs→∀ (P:List (Str×Value)→Shared→Prop) E,
  (∀ vs' s',Rel c vals H s'→aN s.heap (c.Z H) s'.heap (c.Z H)→dP s'.heap (c.X H) as' vs'→P ((d.names.take d.np).zip vs') s')→wpAny c.M c.A.in1 (c8 (d.fd pm) ⟨vs,[]⟩) P E s
theorem jZ{H:Hp}(d:Fd)(ha:as.length=d.np)(hb:∀ pm (vs:List Value),vs.length=d.np→c8 (d.fd pm) ⟨vs,[]⟩=pure ((d.names.take d.np).zip vs)):jX c vals H d as as:=
 fun pm s vs r z P E k=>by
  refine wq (hb pm vs (by rw[← z.length];exact ha)) ?_;exact af (k vs s r (aN.refl _ _) z)
theorem Ak{s:Shared}{as':List V}(d:Fd)(hd:d.chk=true)(hb:jX c vals (H₀++H₁) d as as')(n:Nat)(ok:c.Ok)(hh:c.A.handled=none)(hl:c.lvl+(n+1)≤20)(ha:as'.length=d.np)
  {Qf:V→Hp→Prop}(spec:eO d n as' H₀ Qf)(q:∀ b H',haddrs H'=haddrs H₀→Qf b H'→Q b vals (H'++H₁)){vs:List Value}(r:Rel c vals (H₀++H₁) s)(z:dP s.heap (c.X (H₀++H₁)) as vs):
  cb c.M c.A (.call (.ref d.a) ⟨vs,[]⟩) (wants (a8 c (H₀++H₁) s VR Q) (cF c (H₀++H₁) s EX)) s:=by
 have F:=Fd.ok hd;refine nn fun hG=>?_;obtain⟨pm,ho,hcd⟩:=r.base.fns d.i d.a d.k F.hmem;refine hG ?_;clear hG;refine rY (fd:=d.fd pm) (body:=gy d.i) (by have:=ok.depth;simp only[gC];exact aH [c.A.depth] 5070765829852073666734658628354113 tt this) ho rfl F.hco F.hgen rfl hcd ?_;refine hb pm s vs r z _ _ fun vs' s' r' S' z'=>?_;refine aK (J6 (Q:=Q) (EX:=EX) d hd n ok hh hl ha spec q r' z' pm (fun _ _=>False)) (fun env s₂ h₂=>⟨h₂.1,fb h₂.2 fun res s₃ h₃=>?_⟩) fun _ _ x=>x.elim
 cases res with
 | error e=>exact cF.stay S' h₃
 | ok f=>cases f<;>first | exact h₃.elim | exact a8.stay S' h₃
theorem call_fnB(d:Fd)(hd:d.chk=true){as':List V}(hb:jX c vals (H₀++H₁) d as as')(n:Nat)(ok:c.Ok)(hh:c.A.handled=none)(hl:c.lvl+(n+1)≤20)(ha:as'.length=d.np)
  {Qf:V→Hp→Prop}(spec:eO d n as' H₀ Qf)(q:∀ b H',haddrs H'=haddrs H₀→Qf b H'→Q b vals (H'++H₁)):Tn c vals (H₀++H₁) as (fun vs=>call (.ref d.a) vs) VR Q EX:=
 fun s vs r z=>g6 (Ak d hd hb n ok hh hl ha spec q r z)
theorem call_fn(d:Fd)(hd:d.chk=true)(hb:∀ pm (vs:List Value),vs.length=d.np→c8 (d.fd pm) ⟨vs,[]⟩=pure ((d.names.take d.np).zip vs))(n:Nat)(ok:c.Ok)(hh:c.A.handled=none)(hl:c.lvl+(n+1)≤20)(ha:as.length=d.np)
  {Qf:V→Hp→Prop}(spec:eO d n as H₀ Qf)(q:∀ b H',haddrs H'=haddrs H₀→Qf b H'→Q b vals (H'++H₁)):Tn c vals (H₀++H₁) as (fun vs=>call (.ref d.a) vs) VR Q EX:=
 call_fnB d hd (jZ d ha hb) n ok hh hl ha spec q
end
end
section
section
variable{c:Cx}{vals:List V}{H:Hp}{EX:dK}{Q:V→List V→Hp→Prop}
noncomputable def D7(c:Cx)(vals:List V)(H:Hp)(a:V):Prop:=∀ s v,Rel c vals H s→VR s.heap (c.X H) a v→∀ (P:Bool→Shared→Prop) E,P false s→wpAny c.M c.A (q8 v) P E s
theorem pK{s:Shared}{v:Value}{T id:String}(hT:s.TypeIs v T)(hl:eA (.type T) "__getitem__" =pure (some (.builtin id))){P:Bool→Shared→Prop}{E:Value→Shared→Prop}(h:P false s):wpAny c.M c.A (q8 v) P E s:=by
 refine wq (getitemInPython.eq_1 ..) ?_;exact aa (dA hT hl (af h))
theorem cG{ad:Addr}{l:List V}:D7 c vals H (.lst ad l):=fun s v r z P E h=>by
 cases z.iLst with
 | mk e _ _=>exact pK (s:=s) (T:="list") (show s.TypeIs (.ref _) "list" from ⟨_,e,rfl⟩) iw.lookup h
theorem rL{l:List V}:D7 c vals H (.tup l):=fun s v r z P E h=>by
 cases z.iTup with
 | mk e _ _=>exact pK (s:=s) (T:="tuple") (show s.TypeIs (.ref _) "tuple" from ⟨_,e,rfl⟩) F.slot_tuple_getitem.lookup h
theorem Al{x:Str}:D7 c vals H (.str x):=fun s v r z P E h=>by
 cases z.iStr with
 | mk _ t=>exact pK (T:="str") (qS s x t) F.slot_str_getitem.lookup h
noncomputable def Dt(e:Expr):Bool:=!e.ctorIdx.beq 26
theorem vW{e:Expr}(h:Dt e=true)(o i:Value):Kl e false o i=operate [o,i] (mT o i):=by
 cases e<;>first | rfl | cases h
inductive NJ(c:Cx)(a:V)(Q:QV)(EX:dK)(b:V)(vals:List V)(H:Hp):Prop
 | mk (g:D7 c vals H a) (h:T2 c vals H a b mT VR Q EX)
noncomputable abbrev ND(c:Cx)(slice:Expr)(Q:QV)(EX:dK):QV:=fun a vals H=>Ev c vals H slice (NJ c a Q EX) EX
theorem dQ{value slice:Expr}{pos:Pos}(hs:Dt slice=true)
  (h:Ev c vals H value (ND c slice Q EX) EX):Ev c vals H (.Subscript value slice pos) Q EX:=by
 intro s r;rw[arm_eval_Subscript];refine aa (bO (h s r) fun v s₁ a vals₁ H₁ r₁ S₁ z₁ h₁=>?_);refine aa (aC (df S₁ (h₁ s₁ r₁) fun u s₂ b vals₂ H₂ r₂ S₂ S z₂ hP=>?_));obtain⟨hb,h₂⟩:=hP;refine aa (be (aa (hb s₂ v r₂ (z₁.go S₂) _ _ ?_)));rw[vW hs];refine aa (A3 (df S (h₂ s₂ v u r₂ (z₁.go S₂) z₂) fun x s₃ d vals₃ H₃ r₃ _ S₃ z₃ q=>?_));exact aa (sQ (af (a8.intro r₃ S₃ z₃ q)))
theorem fq{ad:Addr}{l:List V}{k:Int}{a:V}(h0:0≤k)(hk:l[k.toNat]?=some a)(hl:l.length≤av)(q:Q a vals H):T2 c vals H (.lst ad l) (.int k) mT VR Q EX:=fun s v u r z z'=>by
 cases z'.iInt with
 | mk _ t=>
  cases z.iLst with
  | mk e n zs=>
   refine nn fun hG=>?_;obtain⟨x,hx,zx⟩:=zs.get hk;refine hG ?_;clear hG;have hlt:k.toNat<l.length:=(aX.mp hk).1;exact wpAny_getItem_list ⟨_,e,rfl,_,rfl⟩ h0 (by simp only[av]at hl;omega) (by simpa using hx) (a8.intro r (aN.refl _ _) zx q)
theorem uc{l:List V}{k:Int}{a:V}(h0:0≤k)(hk:l[k.toNat]?=some a)(hl:l.length≤av)(q:Q a vals H):T2 c vals H (.tup l) (.int k) mT VR Q EX:=fun s v u r z z'=>by
 cases z'.iInt with
 | mk _ t=>
  cases z.iTup with
  | mk e n zs=>
   refine nn fun hG=>?_;obtain⟨x,hx,zx⟩:=zs.get hk;refine hG ?_;clear hG;have hlt:k.toNat<l.length:=(aX.mp hk).1;have hle:=zs.length;refine P.getItem_tuple (k:=k.toNat) e (by exact KE h0 rfl) (by simp only[av]at hl;omega) ?_ (by simpa using hx) (a8.intro r (aN.refl _ _) zx q);have h1: ¬ k<0:=by lia
   simp only[mV,h1,cj,aI,← hle]
   simp only[h0]
   have:k<(l.length:Int):=by lia
   simp[this]
noncomputable def Ng(c:Cx)(EX:dK)(K:Option Int→List V→Hp→Prop):Option Expr→List V→Hp→Prop
 | none,vals,H=>K none vals H
 | some e,vals,H=>Ev c vals H e (fun a vals₁ H₁=>∃ i,a= .int i∧K (some i) vals₁ H₁) EX
noncomputable def PR(_:Heap)(_:List Addr)(k:Option Int)(v:Value):Prop:=IsPart v k
theorem yg{o:Option Expr}{K:Option Int→List V→Hp→Prop}(h:Ng c EX K o vals H):T0 c vals H (valueOrNone (evalOpt o c.env)) PR K EX:=fun s r=>by
 cases o with
 | none=>exact af (a8.intro r (aN.refl _ _) .none h)
 | some e=>
  exact bO (h s r) fun v s₁ a vals₁ H₁ r₁ S₁ z₁ ⟨i,e,q⟩=>by
   subst e
   cases z₁.iInt with
   | mk _ t=>exact a8.intro r₁ S₁ (.int i t) q
noncomputable def gJ{α:Type}(l:List α)(lo hi st:Option Int):List α:=
 (sliceRange (fg lo hi st l.length).1 (fg lo hi st l.length).2.1 (fg lo hi st l.length).2.2).filterMap (l[·]?)
theorem dP.picks{h:Heap}{X:List Addr}{l:List V}{vs:List Value}(z:dP h X l vs):∀ (is:List Nat),dP h X (is.filterMap (l[·]?)) (is.filterMap (vs[·]?))
 | []=>.nil
 | i::is=>by
  have ih:=dP.picks z is;rw[eK,eK]
  cases e:l[i]? with
  | none=>
   have:vs[i]?=none:=by
    rw[List.getElem?_eq_none_iff]at e ⊢;rw[← z.length];exact e
   rw[this];exact ih
  | some a=>
   refine nn fun hG=>?_;obtain⟨v,hv,zv⟩:=z.get e;refine hG ?_;clear hG;refine hv.symm▸?_;exact .cons zv ih
theorem dP.pick{h:Heap}{X:List Addr}{l:List V}{vs:List Value}(z:dP h X l vs)(lo hi st:Option Int):dP h X (gJ l lo hi st) (pS vs.toArray lo hi st).toList:=by
 unfold gJ pS;have e:vs.toArray.size=l.length:=by rw[z.length];simp
 refine e.symm▸?_;simpa using z.picks _
end
end
section
section
variable{c:Cx}{vals:List V}{H:Hp}{s s':Shared}
theorem Rel.keepsT(ok:c.Ok)(R:Rel c vals H s)(k:∀ b o,b∉TB→s.heap.get? b=some o→s'.heap.get? b=some o)(tabs:iz s'.heap)(g:eL s'.gens)(os:s'.os=s.os):Rel c vals H s'∧aN s.heap (c.Z H) s'.heap (c.Z H):=by
 have SZ:aN s.heap (c.Z H) s'.heap (c.Z H):=fun b o e n=>⟨k b o (fun z=>n (aj _ z)) e,n⟩
 have cel:=R.celTB;have loc:c.env.locals∉TB:=c4 ok R (aj _ ok.loc);refine⟨R.change ok (ds:=[]) (fun _ h=>nomatch h) (fun b o _ h e=>k b o h e) tabs g os rfl (fun _ h=>nomatch h) ?_ ?_ ?_ ?_,SZ⟩
 ·exact fun x a h=>(R.vars x a h).imp id fun hP=>by obtain⟨v,y,z⟩:=hP;exact⟨v,y.of (fun _ o e=>k _ o loc e) (fun q o hq e=>k _ o (cel x q hq) e),z.go SZ⟩
 ·obtain⟨m,n⟩:=R.loc;exact⟨m,n.at' fun o e=>k _ _ loc e⟩
 ·intro x q hq;refine nn fun hG=>?_;obtain⟨v,o,e,h⟩:=R.cel x q hq;refine hG ?_;clear hG;exact⟨v,o,k _ _ (cel x q hq) e,h⟩
 ·exact fun a o h=>(R.objs a o h).of (fun b ob hb e=>k b ob (c4 ok R (ak _ (bP.mpr ⟨_,h,hb⟩))) e) SZ.toX
end
structure Cp where
 scope:Scope
 names:List Str
 fn:List Str
 gn:List Str
 gv:List Value
noncomputable def Cp.chk(p:Cp):Bool:=
 kQ p.names && p.names.all (fun x=>p.scope.names.lookup x == some .local && !(x == ("__debug__" :Str)) && !(x == ("__classdict__" :Str))) &&
 p.fn.all (fun x=>p.scope.names.lookup x == some .free && !(x == ("__debug__" :Str)) && !(x == ("__classdict__" :Str))) &&
 xO p.scope p.gn p.gv && p.scope.kind == .function && p.scope.names.all (fun x=>x.2 != .cell) && kQ (p.scope.names.map (·.1)) && p.scope.names.all (fun x=>x.2 != .free || p.fn.contains x.1)
noncomputable def jF(env:Env):List (Str×dy)→List (Str×Addr)→List (Str×Addr)
 | [],acc=>acc
 | (n,k)::r,acc=>if k == .free then jF env r ((n,(env.cells.lookup n).getD 0)::acc)else jF env r acc
theorem rU{scope:Scope}{env:Env}(h:∀ x∈scope.names,x.2= .free→(env.cells.lookup x.1).isSome=true):CL scope env=pure (jF env scope.names []):=by
 unfold CL;have key:∀ (l:List (Str×dy)) (acc:List (Str×Addr)),(∀ x∈l,x.2= .free→(env.cells.lookup x.1).isSome=true)→
   (forIn l acc fun(x:Str×dy) (r:List (Str×Addr))=>if (x.2 == d6)=true then (do let a ← cellOf env x.1;pure (mZ ((x.1,a)::r)))else pure (mZ r):Sem (List (Str×Addr)))=pure (jF env l acc):=by
  intro l
  induction l with
  | nil=>intro acc _;rfl
  | cons x l ih=>
   intro acc hx;obtain⟨n,k⟩:=x;rw[fA];unfold jF;have hl:=fun y hy=>hx y (ai _ hy);by_cases hk:(k == d6)=true
   ·simp only[hk,dG]
    obtain⟨a,ha⟩:=cX.mp (hx (n,k) ah (by simpa using hk));have ha:env.cells.lookup n=some a:=ha;simp only[cellOf,ha,pure_bind,tK]
    exact ih _ hl
   ·simp only[hk,cj,pure_bind]
    exact ih _ hl
 have:=key scope.names [] h;exact bc (fun t:Sem (List (Str×Addr))=>t >>= fun r=>pure r) this
set_option tactic.hygienic true in
theorem ml{env:Env}:∀ (l:List (Str×dy)) (acc:List (Str×Addr)) (x:Str) (k:Addr),(jF env l acc).lookup x=some k→acc.lookup x=some k∨((x,d6)∈l∧k=(env.cells.lookup x).getD 0)
 | [],acc,x,k,h=>.inl h
 | (n,kd)::l,acc,x,k,h=>by
  unfold jF at h
  split at h
  ·rename_i hk
   rcases ml l _ x k h with h | h
   ·rw[c0]at h
    split at h
    ·rename_i e
     cases h;have e:=eP.mp e;subst e;exact .inr ⟨by rw[eP.mp hk];exact ah,rfl⟩
    ·exact .inl h
   ·exact .inr ⟨ai _ h.1,h.2⟩
  ·exact(ml l _ x k h).imp id fun h=>⟨ai _ h.1,h.2⟩
set_option tactic.hygienic true in
theorem qL{env:Env}:∀ (l:List (Str×dy)) (acc:List (Str×Addr)) (x:Str),((x,d6)∈l∨(acc.lookup x).isSome=true)→((jF env l acc).lookup x).isSome=true
 | [],acc,x,h=>by
  rcases h with h | h
  ·cases h
  ·exact h
 | (n,kd)::l,acc,x,h=>by
  unfold jF
  split
  ·rename_i hk
   refine qL l _ x ?_;by_cases e:x=n
   ·subst e;exact .inr (by simp)
   ·rcases h with h | h
    ·rcases aF.mp h with q | q
     ·cases q;exact(e rfl).elim
     ·exact .inl q
    ·refine .inr ?_;rw[c0];have:(x == n)=false:=by simpa using e
     rw[this];exact h
  ·rename_i hk
   refine qL l _ x ?_;rcases h with h | h
   ·rcases aF.mp h with q | q
    ·cases q;exact(hk rfl).elim
    ·exact .inl q
   ·exact .inr h
theorem o7{env:Env}:∀ (names:List (Str×dy)) (x:Str),(names.map fun(n,k)=>if (k == d6 && env.scope.kind == .function && env.kindOf n == some .cell)then (n,pV)else (n,k)).lookup x=
  (names.lookup x).map fun k=>if (k == d6 && env.scope.kind == .function && env.kindOf x == some .cell)then pV else k
 | [],x=>rfl
 | (n,k)::r,x=>by
  have ih:= @o7 env r x;rw[aV];by_cases e:x=n
  ·subst e;by_cases hk:(k == d6 && env.scope.kind == .function && env.kindOf x == some .cell)=true
   ·simp only[hk,dG,c0,lx,ur]
   ·simp only[hk,cj,c0,lx,ur]
    simp
  ·have hb:(x == n)=false:=by simpa using e
   by_cases hk:(k == d6 && env.scope.kind == .function && env.kindOf n == some .cell)=true
   ·simp only[hk,dG,c0,hb];exact ih
   ·simp only[hk,c0,hb]
    simp only[aW,cj,c0,hb]
    exact ih
end
section
noncomputable abbrev gc(c:Cx)(p:Cp)(fr:List (Str×V))(env:Env)(own Y:List Addr)(B:Heap):Cx:=⟨c.w,c.A,env,p.names,own,Y,B,[],c.os,fr,c.lvl,p.gn,p.gv,p.fn⟩
noncomputable def Ja(c:Cx)(K:Bool→List V→Hp→Prop):List Expr→List V→Hp→Prop
 | [],vals,H=>K true vals H
 | [e],vals,H=>F7 c vals H e K kx
 | _,_,_=>False
noncomputable def CompI(c:Cx)(t:Expr)(ifs:List Expr)(elt:Expr)(l:List V)(Q:List V→Prop):Prop:=
 ∃ J:Nat→List V→Prop,J 0 []∧
  (∀ i x out,l[i]?=some x→J i out→CX c (gX c.names.length) [] t x (fun vals₂ H₂=>Ja c (fun b vals₃ H₃=>if b=true then Ev c vals₃ H₃ elt (fun d _ _=>J (i+1) (out++ [d])) kx else J (i+1) out) ifs vals₂ H₂) kx)∧
  ∀ out,J l.length out→Q out
inductive Kd(c:Cx)(l:List V)(St:Nat→Heap→Prop)(J:Nat→List V→Prop)(D:Addr)(n:Nat)(s':Shared):Prop
 | mk (i:Nat) (out:List V) (ys:List Value) (m:Nat) (en:n=l.length+1-i) (hi:i≤l.length) (ho:out.length≤i) (R:Rel c (gX c.names.length) [] s') (st:St i s'.heap) (g:s'.heap.get? D=some (ic ys m)) (z:dP s'.heap (c.X []) out ys) (j:J i out)
noncomputable def D6(c:Cx)(vals:List V)(p:Cp)(fr:List (Str×V)):Prop:=(∀ x∈p.fn,x∈c.cn)∧∀ q∈fr,q.1∈p.fn∧q.2≠ .unb∧Mw c vals q.1 q.2
theorem rt{c:Cx}{vals:List V}{p:Cp}(h:p.fn= []):D6 c vals p []:=⟨h▸je,je⟩
section
variable{c:Cx}{vals:List V}{H:Hp}{EX:dK}
theorem Rel.forget{s:Shared}(R:Rel c vals H s):Rel c (gX c.names.length) [] s∧aN s.heap (c.Z H) s.heap (c.Z []):=
 R.drop (fun p h=>nomatch h) l8 fun x a h=>.inl (ul h)
theorem Hb(ok:c.Ok){K:Bool→List V→Hp→Prop}{ifs:List Expr}(h:Ja c K ifs vals H):
  T0 c vals H (forIn ifs true fun e r=>if r=true then do let ok ← isTrue e c.env (eval e c.env);pure (mZ ok)else pure (mZ r)) BR K kx:=fun s r=>by
 match ifs,h with
 | [],h=>exact q4 (a8.intro r (aN.refl _ _) rfl h)
 | [e],h=>exact wpAny_tests_one (h s r)
structure Ke(c:Cx)(D:Addr)(Q:List V→Prop)(s₀ s':Shared):Prop where
 keep:∀ b o,c.B.get? b=some o→b∉TB→s'.heap.get? b=some o
 tabs:iz s'.heap
 gens:eL s'.gens
 os:s'.os=c.os
 out:∃ out ys n,s'.heap.get? D=some (ic ys n)∧dP s'.heap (c.X []) out ys∧Q out
 loc:∃ m,s'.heap.Ns c.env.locals m
theorem Fw(ok:c.Ok){t iter elt:Expr}{ifs:List Expr}{scope:Scope}{pos:Pos}{l:List V}{Q:List V→Prop}(h:CompI c t ifs elt l Q)(hl:l.length≤av){I D:Addr}{fp:List Addr}{P:Nat→Value→Prop}{St:Nat→Heap→Prop}
  (W:Walks pw c.w c.A I fp [I] l.length P St)(hW:c.W= [])(hI:I∈c.Y)(hD:D∈c.Y)(hID:I≠D)(hIB:c.B.get? I=none)(hDB:c.B.get? D=none)(hI2:265≤I)(hD2:265≤D)(hIc:∀ x,c.env.cells.lookup x≠some I)(hDc:∀ x,c.env.cells.lookup x≠some D)
  (hfp:∀ b∈fp,b=I∨(b∉TB∧∃ o,c.B.get? b=some o))(hP:∀ i v (s':Shared) vals',P i v→i<l.length→Rel c vals' [] s'→∃ a,l[i]?=some a∧VR s'.heap (c.X []) a v)
  (hSt:∀ i h,St i h→∃ o,h.get? I=some o)(hgo:∀ i (s:Shared) t v (Q:Unit→Shared→Prop) E,St i s.heap→Q () s→wpAny c.M c.A (fT t (.ref I) v) Q E s)
  {s:Shared}(R:Rel c (gX c.names.length) [] s)(st:St 0 s.heap){n₀:Nat}(hd:s.heap.get? D=some (ic [] n₀)):
  cb c.M c.A (.compLoop (.ListComp elt [⟨t,iter,ifs,0⟩] scope pos) 0 (.ref I) (.ref D) c.env) (fun r s'=>r= .ok .next∧Ke c D Q s s') s:=by
 refine mM fun RR hR=>?_;refine nn fun hG=>?_;obtain⟨J,j0,jt,jn⟩:=h;refine hG ?_;clear hG;have tb:∀ x∈TB,x<265:=by decide
 have hIT:I∉TB:=fun z=>absurd hI2 (bU.mpr (tb I z));have hDT:D∉TB:=fun z=>absurd hD2 (bU.mpr (tb D z));have nope:∀ {H':Hp} {s'':Shared} {e:Value} {s₃:Shared} {X:Value→Shared→Prop},cF c H' s'' kx e s₃→X e s₃:=fun p=>(fI p).elim;refine C2 rfl (Kd c l St J D) ?_ (l.length+1)
  ⟨0,[],[],n₀,rfl,bi _,bi _,R,st,hd, .nil,j0⟩
 intro n s' hI QQ EE qd qa;refine nn fun hG=>?_;obtain⟨i,out,ys,m,hE1,hi,hol,R',st',hD',zo,j⟩:=hI;refine hG ?_;clear hG;subst hE1;show wpAny _ c.A ((sL (.ListComp elt [⟨t,iter,ifs,0⟩] scope pos) 0 (.ref I) (.ref D) c.env).onRaise (fun x=>do jQ x c.env;q5 x)) _ _ s';refine yZ ?_;rw[compTurn_list];refine aa (be (aa ?_));by_cases hlt:i<l.length
 ·refine W.item i s' _ _ hlt st' fun v h' tk hv st₁ hk=>?_;have k₁:∀ b o,b≠I→s'.heap.get? b=some o→h'.get? b=some o:=fun b o hb e=>hk b o (fun z=>hb (ao.mp z)) e;have R₁:Rel c (gX c.names.length) [] { s' with heap:=h',toks:=tk }:=R'.yturn (s':={ s' with heap:=h',toks:=tk }) ok hI hIc (.inl hIB) hI2 (hSt _ _ st₁) k₁ R'.gens rfl;have S₁:aN s'.heap (c.X []) h' (c.X []):=fun b o e nn=>⟨k₁ b o (fun z=>nn (z▸aj _ hI)) e,nn⟩
  refine nn fun hG=>?_;obtain⟨a,ha,za⟩:=hP i v { s' with heap:=h',toks:=tk } _ hv hlt R₁;refine hG ?_;clear hG;refine aa (hgo (i+1) _ t v _ _ st₁ ?_);refine aa (aK (jt i a out ha j _ v R₁ za) (fun _ s₂ p=>?_) fun _ _ p=>nope p);refine nn fun hG=>?_;obtain⟨_,vals₂,H₂,R₂,S₂,_,ht⟩:=p;refine hG ?_;clear hG;refine aa (aK (Hb ok ht s₂ R₂) (fun b s₃ p=>?_) fun _ _ p=>nope p);refine nn fun hG=>?_;obtain⟨b',vals₃,H₃,R₃,S₃,hE1,he⟩:=p;refine hG ?_;clear hG;subst hE1;have zD:∀ {hh:Heap} {HH:Hp},aN h' (c.Z []) hh (c.Z HH)→∀ o,h'.get? D=some o→hh.get? D=some o:=fun S o e=>(S D o e (fun z=>by
   rcases aw.mp z with z | z
   ·exact hDT z
   ·exact R₁.apart D z hD)).1
  have zfr:∀ {hh:Heap} {HH:Hp} {ss:Shared} {vv:List V},aN h' (c.Z []) hh (c.Z HH)→ss.heap=hh→Rel c vv HH ss→St (i+1) hh:=fun S es RR=>W.frame _ _ _ st₁ fun b hb o e=>by
   rcases(hfp b hb).imp nC id with rfl | ⟨hT,o',e'⟩
   ·exact(S I o e (fun z=>by
     rcases aw.mp z with z | z
     ·exact hIT z
     ·exact R₁.apart I z hI)).1
   ·exact es▸sr hW R₁ RR hT e' e
  cases b with
  | false=>
   simp only[aW,cj]at he ⊢;obtain⟨R₄,S₄⟩:=R₃.forget;have SS:aN h' (c.Z []) s₃.heap (c.Z []):=(aN.trans S₂ S₃).trans S₄;refine af (qa (l.length+1-(i+1)) _ (by exact aH [l.length,l.length+1-i,i,l.length+1-(i+1)] 113948740556255670302628585462872472740167745 tt (su (l.length+1) i) (ag (aH [i,l.length] 9997287962706957990625346 tt hlt:(i+1)≤(l.length+1)))) ⟨i+1,out,ys,m,rfl,hlt,by exact cQ hol,R₄,zfr SS rfl R₄,zD SS _ (k₁ D _ (gO hID) hD'),(zo.stay S₁).go SS,he⟩)
  | true=>
   simp only[dG]at he ⊢;refine aa (aa (aK (he s₃ R₃) (fun x s₄ p=>?_) fun _ _ p=>nope p));refine nn fun hG=>?_;obtain⟨d,vals₄,H₄,R₄,S₄,zd,q⟩:=p;refine hG ?_;clear hG;obtain⟨R₅,S₅⟩:=R₄.forget;have SS:aN h' (c.Z []) s₄.heap (c.Z []):=((aN.trans S₂ S₃).trans S₄).trans S₅;have hD₄:=zD SS _ (k₁ D _ (gO hID) hD');have zo₄:dP s₄.heap (c.X []) (out++ [d]) (ys++ [x]):=((zo.stay S₁).go SS).append (.cons (zd.go S₅) .nil);refine aa (wpAny_list_append_plain (l:=D) (items:=ys.toArray) ⟨m,hD₄⟩ (fun h₆ pl hs₆=>af (af ?_)) ?_)
   ·obtain⟨m',hp'⟩:=pl;have k₆:∀ b o,b≠D→s₄.heap.get? b=some o→h₆.get? b=some o:=fun b o hb e=>hs₆.extBut b o hb e;have R₆:Rel c (gX c.names.length) [] { s₄ with heap:=h₆ }:=R₅.yturn (s':={ s₄ with heap:=h₆ }) ok hD hDc (.inl hDB) hD2 ⟨_,hp'⟩ k₆ R₅.gens rfl;have S₆:aN s₄.heap (c.X []) h₆ (c.X []):=fun b o e nn=>⟨k₆ b o (fun z=>nn (z▸aj _ hD)) e,nn⟩
    refine qa (l.length+1-(i+1)) _ (by exact aH [l.length,l.length+1-i,i,l.length+1-(i+1)] 113948740556255670302628585462872472740167745 tt (su (l.length+1) i) (ag (aH [i,l.length] 9997287962706957990625346 tt hlt:(i+1)≤(l.length+1)))) ⟨i+1,out++ [d],ys++ [x],m',rfl,hlt,by rw[aR,d8];exact aH [out.length,i] 9997287962706957990625345 tt hol,R₆,?_,by simpa using hp',zo₄.stay S₆,q⟩;exact W.frame _ _ _ (zfr SS rfl R₅) fun b hb o e=>k₆ b o (fun z=>by
     rcases(hfp b hb).imp nC id with rfl | ⟨_,o',e'⟩
     ·exact hID z
     ·rw[z,hDB]at e';cases e') e
   ·have:=zo.length;rw[aI];exact aH [l.length,av,out.length,i,ys.length] 114297104110812784745022457623341704540061761 tt hl hol hlt this
 ·have e:i=l.length:=by exact aq (aH [i,l.length] 91202565463605313 tt hi) (aH [i,l.length] 73469641930833989 tt hlt)
  subst e;refine W.done s' _ _ st' fun h' tk hk=>af (qd _ _ (hR ⟨rfl,?_⟩));have k':∀ b o,b≠I→s'.heap.get? b=some o→h'.get? b=some o:=fun b o hb e=>hk b o (fun z=>hb (ao.mp z)) e;have hne:∀ x,x∈c.own++haddrs []→x≠I:=fun x h e=>R'.apart x h (e▸hI);refine⟨fun b o e h2=>k' b o (fun z=>by rw[z,hIB]at e;cases e) (R'.keep b o e (by rw[hW];exact aZ) h2),R'.tabs.of fun x o hx e=>k' x o (fun z=>hIT (z▸hx)) e,R'.gens,R'.os,⟨out,ys,m,k' D _ (gO hID) hD',zo.stay ?_,jn out j⟩,?_⟩
  ·exact fun b o e nn=>⟨k' b o (fun z=>nn (z▸aj _ hI)) e,nn⟩
  ·obtain⟨mm,nn⟩:=R'.loc;exact⟨mm,nn.at' fun o e=>k' _ o (hne _ (aj _ ok.loc)) e⟩
end
end
section
structure Cp.Ok(p:Cp):Prop where
 nn:p.names.Nodup
 loc:∀ x∈p.names,p.scope.names.lookup x=some .local∧(x == ("__debug__" :Str))=false∧(x == ("__classdict__" :Str))=false
 fre:∀ x∈p.fn,p.scope.names.lookup x=some .free∧(x == ("__debug__" :Str))=false∧(x == ("__classdict__" :Str))=false
 gl:xO p.scope p.gn p.gv=true
 kind:p.scope.kind= .function
 nocell:∀ x∈p.scope.names,x.2≠ .cell
 nd:(p.scope.names.map (·.1)).Nodup
 all:∀ x∈p.scope.names,x.2= .free→x.1∈p.fn
theorem Cp.ok{p:Cp}(h:p.chk=true):p.Ok:=by
 simp only[Cp.chk,bk,g9,ay,gQ,eP,bne_iff_ne,pN]at h;refine nn fun hG=>?_;obtain⟨⟨⟨⟨⟨⟨⟨h1,h2⟩,h3⟩,h4⟩,h5⟩,h6⟩,h7⟩,h8⟩:=h;refine hG ?_;clear hG;exact⟨kY h1,fun x hx=>⟨(h2 x hx).1.1,(h2 x hx).1.2,(h2 x hx).2⟩,fun x hx=>⟨(h3 x hx).1.1,(h3 x hx).1.2,(h3 x hx).2⟩,h4,h5,h6,kY h7,fun x hx e=>(h8 x hx).resolve_left fun n=>n e⟩
section
variable{c:Cx}{vals:List V}{H:Hp}{EX:dK}
theorem Rel.addYT(ok:c.Ok){s s':Shared}{y:Addr}(R:Rel c vals H s)(hf:∀ o,s.heap.get? y≠some o)(ht:∃ o,s'.heap.get? y=some o)(k:∀ b o,b∉TB→s.heap.get? b=some o→s'.heap.get? b=some o)(tabs:iz s'.heap)(g:eL s'.gens)(os:s'.os=s.os):Rel (c.addY y) vals H s':=by
 obtain⟨R',_⟩:=R.keepsT ok k tabs g os;have S:aN s.heap (c.X H) s'.heap ((c.addY y).X H):=fun b o e n=>⟨k b o (fun z=>n (aj _ (ok.tb b z))) e,fun z=>(cU.mp z).elim (fun q=>hf o (q▸e)) n⟩
 have cel:=R.celTB;have loc:c.env.locals∉TB:=c4 ok R (aj _ ok.loc);refine⟨fun x a h=>(R.vars x a h).imp id fun hP=>by obtain⟨v,q,z⟩:=hP;exact⟨v,q.of (fun _ o e=>k _ o loc e) (fun q o hq e=>k _ o (cel x q hq) e),z.stay S⟩,R'.loc,R'.cel,fun a o h=>(R.objs a o h).of (fun b ob hb e=>k b ob (c4 ok R (ak _ (bP.mpr ⟨_,h,hb⟩))) e) S,R.nodup,fun x h=>?_,fun x h=>?_,R.new,R'.keep,R'.base,R'.tabs,R'.gens,R'.os,R.hi⟩
 ·intro z;rcases aF.mp z with e | z
  ·subst e;obtain⟨o,e⟩:=R.there x (kP h);exact hf o e
  ·exact R.apart x h z
 ·rcases cU.mp h with e | h
  ·rw[e];exact ht
  ·exact R'.there x h
end
structure x7(c:Cx)(l:List V)(o₀:Obj)(I D:Addr)(s:Shared):Prop where
 hW:c.W= []
 hI:I∈c.Y
 hD:D∈c.Y
 hID:I≠D
 hIB:c.B.get? I=none
 hDB:c.B.get? D=none
 hI2:265≤I
 hD2:265≤D
 hIc:∀ x,c.env.cells.lookup x≠some I
 hDc:∀ x,c.env.cells.lookup x≠some D
 R:Rel c (gX c.names.length) [] s
 hd:s.heap.get? D=some o₀
 walk:∃ fp P St,Walks pw c.w c.A I fp [I] l.length P St∧St 0 s.heap∧(∀ b∈fp,b=I∨(b∉TB∧∃ o,c.B.get? b=some o))∧(∀ i v (s':Shared) vals',P i v→i<l.length→Rel c vals' [] s'→∃ a,l[i]?=some a∧VR s'.heap (c.X []) a v)∧
  (∀ i h,St i h→∃ o,h.get? I=some o)∧∀ i (s:Shared) t v (Q:Unit→Shared→Prop) E,St i s.heap→Q () s→wpAny c.M c.A (fT t (.ref I) v) Q E s
structure rM(c:Cx)(D:Addr)(OP:Heap→List Addr→Addr→Prop)(s':Shared):Prop where
 keep:∀ b o,c.B.get? b=some o→b∉TB→s'.heap.get? b=some o
 tabs:iz s'.heap
 gens:eL s'.gens
 os:s'.os=c.os
 out:OP s'.heap (c.X []) D
 loc:∃ m,s'.heap.Ns c.env.locals m
noncomputable def FU(c:Cx)(vals:List V)(H:Hp)(s₁:Shared)(OP:Heap→List Addr→Addr→Prop)(D C:Addr)(s':Shared):Prop:=
 (∀ o,s₁.heap.get? C≠some o)∧265≤C∧(∃ m,s'.heap.Ns C m)∧Rel (c.addY C) vals H s'∧aN s₁.heap (c.Z H) s'.heap (c.Z H)∧D∉(c.addY C).X H∧265≤D∧(∃ o,s'.heap.get? D=some o)∧(∀ o,s₁.heap.get? D≠some o)∧∃ X',OP s'.heap X' D∧(∀ y∈(c.addY C).X H,y∈X')∧(∀ b o,b∉TB→s₁.heap.get? b=some o→s'.heap.get? b=some o)∧D∈X'
noncomputable def uY(Q:List V→Prop)(h:Heap)(X:List Addr)(D:Addr):Prop:=∃ out ys n,h.get? D=some (ic ys n)∧dP h X out ys∧Q out
section
variable{c:Cx}{vals:List V}{H:Hp}{EX:dK}
noncomputable def IX(c:Cx)(vals:List V)(H:Hp)(s₁:Shared)(Qc:List V→Prop)(D C:Addr)(s':Shared):Prop:=
 (∀ o,s₁.heap.get? C≠some o)∧265≤C∧(∃ m,s'.heap.Ns C m)∧Rel (c.addY C) vals H s'∧aN s₁.heap (c.Z H) s'.heap (c.Z H)∧∃ out,Qc out∧VR s'.heap ((c.addY C).X H) (.lst D out) (.ref D)
theorem Rel.letgo(ok:c.Ok){s₁ s':Shared}{C:Addr}{H₁:Hp}{vals₁:List V}(R₁:Rel c vals H s₁)(fC:∀ o,s₁.heap.get? C≠some o)(hi:265≤C)(R:Rel (c.addY C) vals₁ H₁ s'){h':Heap}(hs':cD C s'.heap h')(hY:C∉c.Y):
  Rel c vals₁ H₁ { s' with heap:=h' }:=by
 have fr:=R₁.fresh fC;exact R.ygone (s':={ s' with heap:=h' }) ok (fun x e=>by obtain⟨v,o,q,_⟩:=R₁.cel x C e;exact fC o q) fr.2.1 hY hi (fun b o hb e=>hs'.extBut b o hb e) R.gens rfl
theorem vM{s:Shared}(ok:c.Ok){t iter elt:Expr}{ifs:List Expr}{scope:Scope}{pos:Pos}{l:List V}{Q:List V→Prop}(h:CompI c t ifs elt l Q)(hl:l.length≤av){I D:Addr}(L:x7 c l (ic [] 0) I D s):
  cb c.M c.A (.compLoop (.ListComp elt [⟨t,iter,ifs,0⟩] scope pos) 0 (.ref I) (.ref D) c.env) (fun r s'=>r= .ok .next∧rM c D (uY Q) s') s:=by
 refine nn fun hG=>?_;obtain⟨fp,P,St,W,st,hfp,hP,hSt,hgo⟩:=L.walk;refine hG ?_;clear hG;refine fb (Fw ok h hl W L.hW L.hI L.hD L.hID L.hIB L.hDB L.hI2 L.hD2 L.hIc L.hDc hfp hP hSt hgo L.R st L.hd) fun r s' q=>?_;obtain⟨e,q⟩:=q;exact⟨e,q.keep,q.tabs,q.gens,q.os,q.out,q.loc⟩
theorem l6(ok:c.Ok){p:Cp}(hp:p.Ok){e:Expr}{l:List V}{fr:List (Str×V)}{o₀:Obj}(hfree:o₀.isFreed=false){OP:Heap→List Addr→Addr→Prop}{newAcc:Sem Value}{E:Value→Shared→Prop}(cap:D6 c vals p fr)
  (hOP:∀ h X D,OP h X D→∃ o,h.get? D=some o)
  (hstart:∀ (A:Around) (it acc:Value) (env:Env) (R:Result→Shared→Prop) (s:Shared),cb c.M A (.compLoop e 0 it acc env) R s→wpAny c.M A (pyIter it) (fun it' s'=>cb c.M A (.compLoop e 0 it' acc env) R s') (Bc c.M A env fun x s'=>R (.error x) s') s→cb c.M A (.compStart e 0 it acc env) R s)
  (hloop:∀ env own Y B I D s,(gc c p fr env own Y B).Ok→x7 (gc c p fr env own Y B) l o₀ I D s→cb c.M c.A (.compLoop e 0 (.ref I) (.ref D) env) (fun r s'=>r= .ok .next∧rM (gc c p fr env own Y B) D OP s') s)
  {I:Addr}{s₁ s₂:Shared}(R:Rel c vals H s₁)(it:Itr c H TB l I s₁ s₂)(hnew:∀ {P:Value→Shared→Prop},P (.ref s₂.heap.objs.size) { s₂ with heap:=s₂.heap.push o₀ }→wpAny c.M c.A newAcc P E s₂)
  {RR:Value→Addr→Result→Shared→Prop}(fin:∀ D C s',FU c vals H s₁ OP D C s'→RR (.ref D) C (.ok .next) s'):
  wpAny c.M c.A newAcc (fun acc s₃=>wpAny c.M c.A (iW p.scope c.env.globals (jF c.env p.scope.names []) [] c.env.qual none .none (some c.env)) (fun cenv s₄=>
   cb c.M c.A (.compStart e 0 (.ref I) acc { cenv with scope:=relabel p.scope c.env }) (RR acc cenv.locals) s₄) E s₃) E s₂:=by
 refine hnew (wpAny_newFunctionEnv hp.nocell (by intro y hy;simp at hy) (fun h₁ hns₁ hsb₁=>?_) hp.kind)
 dsimp only at hns₁ hsb₁ ⊢
 generalize hH2:s₂.heap.push o₀=H2 at hns₁ hsb₁ ⊢;have hC:H2.objs.size=s₂.heap.objs.size+1:=by rw[← hH2,eZ]
 have hDC:s₂.heap.objs.size≠H2.objs.size:=by rw[hC];exact eQ (c5 _)
 have below:∀ b,b<s₂.heap.objs.size→b≠H2.objs.size∧b≠s₂.heap.objs.size:=fun b hb=>⟨by rw[hC];exact eQ (mX hb),eQ hb⟩
 have old:∀ b o,s₂.heap.get? b=some o→h₁.get? b=some o:=fun b o e=>hsb₁.extBut b o (below b (bu e)).1 (al _ (hH2▸al _ e));have hacc:h₁.get? s₂.heap.objs.size=some o₀:=hsb₁.extBut _ _ hDC (al _ (hH2▸aA _ hfree));generalize hD:s₂.heap.objs.size=D at *;generalize hCC:H2.objs.size=C at *;have k₃:∀ b o,s₁.heap.get? b=some o→h₁.get? b=some o:=fun b o e=>old b o (it.keep b o e);have fD:∀ o,s₂.heap.get? D≠some o:=fun o e=>dh _ (hD▸bu e);have fC:∀ o,s₂.heap.get? C≠some o:=fun o e=>by
  have:=bu e;rw[hD,hC]at this;exact dh _ (Nat.lt_of_succ_lt this)
 have fD₁:∀ o,s₁.heap.get? D≠some o:=fun o e=>fD o (it.keep _ _ e);have fC₁:∀ o,s₁.heap.get? C≠some o:=fun o e=>fC o (it.keep _ _ e);obtain⟨oI,hoI⟩:=it.there;have hID:I≠D:=fun e=>fD oI (e▸hoI);have hIC:I≠C:=fun e=>fC oI (e▸hoI);have nX:∀ y,(∀ o,s₁.heap.get? y≠some o)→y∉c.X H:=fun y hy hm=>by obtain⟨o,e⟩:=R.there y hm;exact hy o e
 have hiD:265≤D:=by
  have:=bu hoI;rw[hD]at this;exact aU it.hi (bJ this)
 have hiC:265≤C:=by rw[hC];exact cQ hiD
 let env':=compEnvC p.scope (jF c.env p.scope.names []) C c.env;let c':=gc c p fr env' [C] (I::D::c.X H) s₁.heap;have hcl:∀ x k,env'.cells.lookup x=some k→x∈p.fn∧c.env.cells.lookup x=some k:=fun x k h=>by
  rcases ml p.scope.names [] x k h with h | ⟨h,e⟩
  ·cases h
  ·have hx:=hp.all _ h rfl;obtain⟨q,hq⟩:=cX.mp (ok.cnk x (cap.1 x hx)).2;exact⟨hx,by rw[hq,e,hq];rfl⟩
 have hhas:∀ x∈p.fn,∃ k,env'.cells.lookup x=some k∧c.env.cells.lookup x=some k:=fun x hx=>by
  obtain⟨k,hk⟩:=cX.mp (qL (env:=c.env) p.scope.names [] x (.inl (mem_of_lookup (hp.fre x hx).1)));exact⟨k,hk,(hcl x k hk).2⟩
 have hkd:∀ x,env'.kindOf x=(p.scope.names.lookup x).map fun k=>if (k == d6 && c.env.scope.kind == .function && c.env.kindOf x == some .cell)then pV else k:=fun x=>o7 p.scope.names x
 have hloc:∀ x∈p.names,env'.kindOf x=some .local:=fun x hx=>by rw[hkd,(hp.loc x hx).1];rfl
 have hfre:∀ x∈p.fn,env'.kindOf x=some .cell∨env'.kindOf x=some .free:=fun x hx=>by
  rw[hkd,(hp.fre x hx).1,ur];by_cases q:(d6 == d6 && c.env.scope.kind == .function && c.env.kindOf x == some .cell)=true
  ·rw[if_pos q];exact .inl rfl
  ·rw[if_neg q];exact .inr rfl
 have ok':c'.Ok:=by
  refine⟨hp.kind,ok.glob,ok.blt,ao.mpr rfl,?_,?_,?_,?_,hp.nn,fun x hx=>(hp.loc x hx).2.1,fun x hx=>(hp.loc x hx).2.2,fun x hx=>.inl (hloc x hx),?_,?_,?_,ok.frm,ok.dep,ok.uni,ok.low⟩
  ·intro x hx k hk _;rw[hloc x hx]at hk;cases hk
  ·intro x k h;have:=(hcl x k h).2;rcases ok.cells x k this with q | q | q
   ·exact .inr (.inl (ai _ (ai _ (kP (aj _ q.1)))))
   ·exact .inr (.inl (ai _ (ai _ (aj _ q))))
   ·exact .inr (.inr q)
  ·exact fun x y k h1 h2=>ok.inj x y k (hcl x k h1).2 (hcl y k h2).2
  ·exact fun x hx=>ai _ (ai _ (aj _ (ok.tb x hx)))
  ·intro q hq;have hx:=(cap.2 q hq).1;refine⟨fun hm=>?_,(hp.fre _ hx).2.1,(hp.fre _ hx).2.2⟩;have:=(hp.loc _ hm).1;rw[(hp.fre _ hx).1]at this;cases this
  ·intro x v h;refine nn fun hG=>?_;obtain⟨q1,q2,q3⟩:=yo h hp.gl;refine hG ?_;clear hG;exact⟨by show env'.kindOf x=_;rw[hkd,q1];rfl,q2,q3⟩
  ·intro x hx;refine nn fun hG=>?_;obtain⟨k,hk,_⟩:=hhas x hx;refine hG ?_;clear hG;exact⟨hfre x hx,by show (env'.cells.lookup x).isSome=true;rw[hk];rfl⟩
 have hX':∀ y,y∈c'.X []↔y=I∨y=D∨y∈c.X H∨y∈TB∨y=C:=fun y=>by
  have e:c'.X []=(I::D::c.X H)++(TB++([C]++ [])):=rfl;rw[e];simp
 have nX':∀ b o,s₁.heap.get? b=some o→b∉c.X H→b∉c'.X []:=fun b o e n hm=>by
  rcases(hX' b).mp hm with q | q | q | q | q
  ·exact it.fresh o (q▸e)
  ·exact fD₁ o (q▸e)
  ·exact n q
  ·exact n (aj _ (ok.tb b q))
  ·exact fC₁ o (q▸e)
 have S₃:aN s₁.heap (c.X H) h₁ (c'.X []):=fun b o e n=>⟨k₃ b o e,nX' b o e n⟩
 let s₃:Shared:={ s₂ with heap:=h₁,toks:=s₂.toks+([]:List (Str×Value)).length }
 have R₃:Rel c' (gX c'.names.length) [] s₃:=by
  refine⟨?_,⟨_,hns₁⟩,?_,(fun _ _ h=>nomatch h),?_,?_,?_,?_,fun b o e _ _=>k₃ b o e,R.base.of fun y o _ _ e=>k₃ y o e,R.tabs.of fun y o _ e=>k₃ y o e,?_,?_,?_⟩
  ·intro x a h;rcases h with h | h
   ·exact .inl (ul h)
   ·refine nn fun hG=>?_;obtain⟨h1,h2,h3⟩:=cap.2 _ h;refine hG ?_;clear hG;rcases R.vars x a h3 with q | ⟨v,q,z⟩
    ·exact(h2 q).elim
    ·refine .inr ⟨v,?_,z.stay S₃⟩;refine nn fun hG=>?_;obtain⟨k,hk,hk'⟩:=hhas x h1;refine hG ?_;clear hG;rcases q with ⟨q,_⟩ | ⟨_,k',e',o,e,q⟩
     ·rcases(ok.cnk x (cap.1 x h1)).1 with y | y<;>(rw[q]at y;cases y)
     ·rw[hk']at e';cases e';exact .inr ⟨hfre x h1,k,hk,o,k₃ _ _ e,q⟩
  ·intro x k h;refine nn fun hG=>?_;obtain⟨v,o,e,q⟩:=R.cel x k (hcl x k h).2;refine hG ?_;clear hG;exact⟨v,o,k₃ _ _ e,q⟩
  ·show ([C]++haddrs []).Nodup;simp[haddrs]
  ·intro y hy hm;have hy:y∈ [C]++haddrs []:=hy;have e:y=C:=by simpa[haddrs]using hy
   obtain rfl:=e.symm;rcases aF.mp hm with q | q
   ·exact hIC q.symm
   ·rcases aF.mp q with q | q
    ·exact hDC q.symm
    ·exact nX _ fC₁ q
  ·intro y hy;rcases(hX' y).mp hy with q | q | q | q | q
   ·rw[q];exact⟨_,old _ _ hoI⟩
   ·rw[q];exact⟨_,hacc⟩
   ·obtain⟨o,e⟩:=R.there y q;exact⟨o,k₃ _ _ e⟩
   ·obtain⟨o,e⟩:=R.there y (aj _ (ok.tb y q));exact⟨o,k₃ _ _ e⟩
   ·rw[q];refine nn fun hG=>?_;obtain⟨o,_,_,e',_⟩:=hns₁;refine hG ?_;clear hG;exact⟨o,e'⟩
  ·intro y hy;have e:y=C:=by simpa[haddrs]using (show y∈ [C]++haddrs [] from hy)
   left
   cases q:s₁.heap.get? y with
   | none=>rfl
   | some o=>exact(fC₁ o (e▸q)).elim
  ·show eL s₂.gens;rw[it.gens];exact R.gens
  ·exact it.os.trans R.os
  ·intro y hy;have e:y=C:=by simpa[haddrs]using (show y∈ [C]++haddrs [] from hy)
   rw[e];exact hiC
 refine nn fun hG=>?_;obtain⟨fp,P,St,W,st0,hfp,hP,hSt,hgo⟩:=it.walk;refine hG ?_;clear hG;have hcell:∀ x y,(∀ o,s₁.heap.get? y≠some o)→env'.cells.lookup x≠some y:=fun x y hy e=>by
  refine nn fun hG=>?_;obtain⟨v,o,q,_⟩:=R.cel x y (hcl x y e).2;refine hG ?_;clear hG;exact hy o q
 have non:∀ y,(∀ o,s₁.heap.get? y≠some o)→s₁.heap.get? y=none:=fun y hy=>by
  cases q:s₁.heap.get? y with
  | none=>rfl
  | some o=>exact(hy o q).elim
 have st₁:St 0 h₁:=W.frame _ _ _ st0 fun b _ o e=>old b o e;have loop:cb c.M c.A (.compLoop e 0 (.ref I) (.ref D) env') (RR (.ref D) C) s₃:=by
  refine fb (hloop env' [C] (I::D::c.X H) s₁.heap I D s₃ ok' ⟨rfl,ah,ai _ ah,hID,non _ it.fresh,non _ fD₁,it.hi,hiD,fun x=>hcell x I it.fresh,fun x=>hcell x D fD₁,R₃,hacc,
   fp,P,St,W,st₁,fun b hb=>hfp b hb,fun i v s' vals' hv hi R'=>?_,hSt,hgo⟩) fun r s' q=>?_
  ·refine nn fun hG=>?_;obtain⟨a,ha,z⟩:=hP i v hv hi;refine hG ?_;clear hG;exact⟨a,ha,z.stay fun b o e n=>⟨R'.keep b o e aZ fun z=>n (aj _ (ok.tb b z)),nX' b o e n⟩⟩
  ·obtain⟨rfl,q⟩:=q;have kT:∀ b o,b∉TB→s₁.heap.get? b=some o→s'.heap.get? b=some o:=fun b o hb e=>q.keep b o e hb;have htC:∃ o,s'.heap.get? C=some o:=by
    refine nn fun hG=>?_;obtain⟨m,o,_,_,e',_⟩:=q.loc;refine hG ?_;clear hG;exact⟨o,e'⟩
   refine fin D C s' ⟨fC₁,hiC,q.loc,R.addYT ok fC₁ htC kT q.tabs q.gens (q.os.trans R.os.symm),fun b o e n=>⟨kT b o (fun z=>n (aj _ z)) e,n⟩,fun z=>(cU.mp z).elim hDC (nX _ fD₁),hiD,hOP _ _ _ q.out,fD₁,c'.X [],q.out,fun y hy=>?_,kT,(hX' D).mpr (.inr (.inl rfl))⟩;exact(hX' y).mpr ((cU.mp hy).elim (fun z=>by simp[z]) fun z=>by simp[z])
 exact hstart _ _ _ _ _ _ loop (W.self 0 _ _ _ st₁ loop)
theorem vN(ok:c.Ok){p:Cp}(hp:p.Ok){t iter elt:Expr}{ifs:List Expr}{pos:Pos}{l:List V}{fr:List (Str×V)}{Qc:List V→Prop}{E:Value→Shared→Prop}(hl:l.length≤av)(cap:D6 c vals p fr)
  (hc:∀ env own Y B,(gc c p fr env own Y B).Ok→CompI (gc c p fr env own Y B) t ifs elt l Qc){I:Addr}{s₁ s₂:Shared}(R:Rel c vals H s₁)(it:Itr c H TB l I s₁ s₂)
  {RR:Value→Addr→Result→Shared→Prop}(fin:∀ D C s',IX c vals H s₁ Qc D C s'→RR (.ref D) C (.ok .next) s'):
  wpAny c.M c.A (tG []) (fun acc s₃=>wpAny c.M c.A (iW p.scope c.env.globals (jF c.env p.scope.names []) [] c.env.qual none .none (some c.env)) (fun cenv s₄=>
   cb c.M c.A (.compStart (.ListComp elt [⟨t,iter,ifs,0⟩] p.scope pos) 0 (.ref I) acc { cenv with scope:=relabel p.scope c.env }) (RR acc cenv.locals) s₄) E s₃) E s₂:=by
 refine l6 (OP:=uY Qc) (o₀:=ic [] 0) ok hp rfl cap (fun h X D e=>by obtain⟨_,_,_,e,_⟩:=e;exact⟨_,e⟩) (fun A it acc env R s h0 h1=>qY h0 h1) (fun env own Y B I D s ok' L=>vM ok' (hc env own Y B ok') hl L) R it (fun hP=>bj hP) fun D C s' q'=>fin D C s' ?_;obtain⟨fC,hiC,loc,R₂,S₂,hDX,hiD,_,fD,X',⟨out,ys,n',gD,zo,qc⟩,hX',_⟩:=q';exact⟨fC,hiC,loc,R₂,S₂,out,qc, .lst gD hDX (zo.stay fun b o e n=>⟨e,fun z=>n (hX' b z)⟩)⟩
noncomputable def BJ(c:Cx)(vals:List V)(H:Hp)(p:Cp)(t iter elt:Expr)(ifs:List Expr)(K:List V→List V→Hp→Prop)(EX:dK):Prop:=
 Ev c vals H iter (fun a vals₁ H₁=>∃ l fr,zK c vals₁ H₁ a l∧l.length≤av∧D6 c vals₁ p fr∧
  ∀ env own Y B,(gc c p fr env own Y B).Ok→CompI (gc c p fr env own Y B) t ifs elt l (fun out=>K out vals₁ H₁)) EX
theorem mR(ok:c.Ok){p:Cp}(hp:p.Ok)(h:∀ x∈p.fn,x∈c.cn):CL p.scope c.env=pure (jF c.env p.scope.names []):=
 rU fun x hx e=>(ok.cnk x.1 (h _ (hp.all x hx e))).2
theorem iM(ok:c.Ok)(p:Cp)(hp:p.chk=true)(hf:∀ x∈p.fn,x∈c.cn){t iter elt:Expr}{ifs:List Expr}{pos:Pos}{Q:V→List V→Hp→Prop}(hs:m7 iter=true)
  (h:BJ c vals H p t iter elt ifs (fun out vals₁ H₁=>∀ D,Q (.lst D out) vals₁ H₁) EX):Ev c vals H (.ListComp elt [⟨t,iter,ifs,0⟩] p.scope pos) Q EX:=by
 have hp:=Cp.ok hp;intro s r;show wpAny c.M c.A (ph _ p.scope c.env _ (tG []) false (eval iter c.env)) _ _ s;refine gj (use:=none) rfl (i6 hs c.env) (mR ok hp hf) hp.kind (fun y hy e=>by rw[fu hp.nd hy,e]) ?_;refine bO (h s r) fun v s₁ a vals₁ H₁ r₁ S₁ z₁ hP=>?_;refine nn fun hG=>?_;obtain⟨l,fr,hit,hl,cap,hc⟩:=hP;refine hG ?_;clear hG;refine hit s₁ v r₁ z₁ _ _ fun I s₂ it=>?_;refine vN ok hp hl cap hc r₁ it fun D C s' q=>?_;refine nn fun hG=>?_;obtain⟨fC,hiC,⟨m,n⟩,R₂,S₂,out,qc,z⟩:=q;refine hG ?_;clear hG;refine⟨m,n,fun h' hs'=>?_⟩;have hCX:C∉c.X H₁:=fun z=>by obtain⟨o,e⟩:=r₁.there C z;exact fC o e
 refine a8.intro (r₁.letgo ok fC hiC R₂ hs' fun z=>hCX (aj _ z)) (S₁.trans fun b o e n=>⟨hs'.extBut b o (fun z=>fC o (z▸e)) (S₂ b o e n).1,n⟩) (z.stay fun b o e n=>⟨hs'.extBut b o (fun z=>n (cU.mpr (.inl z))) e,fun z=>n (cU.mpr (.inr z))⟩) (qc D)
end
end
section
section
variable{c:Cx}{vals:List V}{H:Hp}{EX:dK}
theorem eJ(ok:c.Ok)(p:Cp)(hp:p.chk=true)(hf:∀ x∈p.fn,x∈c.cn){x:Str}{p₁ p₂:Pos}{t iter elt:Expr}{ifs:List Expr}{pos:Pos}{Q:Fl→List V→Hp→Prop}(hs:m7 iter=true)
  (h:BJ c vals H p t iter elt ifs (fun out vals₁ H₁=>∀ D,∃ vals₂,pW c.names vals₁ x (.lst D out) vals₂∧Q .next vals₂ H₁) EX):S1 c vals H (.Assign [.Name x p₁] (.ListComp elt [⟨t,iter,ifs,0⟩] p.scope pos) p₂) Q EX:=by
 intro s r;obtain⟨b,hb⟩:∃ b:Bool,swapsWith (.ListComp elt [⟨t,iter,ifs,0⟩] p.scope pos) (some (.Name x p₁)) p₂.line c.env=pure b:=⟨_,rfl⟩
 cases b with
 | false=>
  refine wpAny_Assign_Name (hs:=hb) (bO (iM (Q:=fun a vals₁ H₁=>∃ vals₂,pW c.names vals₁ x a vals₂∧Q .next vals₂ H₁) ok p hp hf hs h s r) fun v s₁ a vals₁ H₁ r₁ S₁ z₁ hP=>?_);refine nn fun hG=>?_;obtain⟨vals₂,p,q⟩:=hP;refine hG ?_;clear hG;exact aK (dg S₁ (iA (EX:=EX) (Q:=fun _ vals' H'=>Q .next vals' H') ok (ok.sto _ p.mem) p r₁ z₁ q)) (fun _ s₂ hP=>by obtain⟨_,vals',H',r',S',_,q'⟩:=hP;exact a8.intro r' S' .next q') fun _ _ e=>e
 | true=>
  have hp:=Cp.ok hp;show wpAny c.M c.A (exec _ c.env) _ _ s;refine(exec_Assign_Name_used _ _ _ _ hb).symm▸?_;refine aa (be (aa ?_));show wpAny c.M c.A (do let _ ← ph (.ListComp elt [⟨t,iter,ifs,0⟩] p.scope pos) p.scope c.env _ (tG []) false (eval iter c.env) (some (assign (.Name x p₁) c.env))) _ _ s;refine aa (aK (gj (use:=some (assign (.Name x p₁) c.env)) (Q:=fun _ s'=>a8 c H s FR Q .next s') rfl (i6 hs c.env) (mR ok hp hf) hp.kind (fun y hy e=>by rw[fu hp.nd hy,e])
   (bO (h s r) fun v s₁ a vals₁ H₁ r₁ S₁ z₁ hP=>?_)) (fun _ s' hq=>af (af hq)) fun _ _ e=>e)
  refine nn fun hG=>?_;obtain⟨l,fr,hit,hl,cap,hc⟩:=hP;refine hG ?_;clear hG;refine hit s₁ v r₁ z₁ _ _ fun I s₂ it=>?_;refine vN ok hp hl cap hc r₁ it fun D C s' q=>?_;refine nn fun hG=>?_;obtain⟨fC,hiC,⟨m,n⟩,R₀,S₀,out,qc,z₀⟩:=q;refine hG ?_;clear hG;refine nn fun hG=>?_;obtain⟨vals₂,p,q⟩:=qc D;refine hG ?_;clear hG;have hCX:C∉c.X H₁:=fun z=>by obtain⟨o,e⟩:=r₁.there C z;exact fC o e
  show wpAny c.M c.A (assign (.Name x p₁) c.env (.ref D)) _ _ _;rw[mq];refine aa (be (iV ?_));refine aK (iA (c:=c.addY C) (EX:=kx) (Q:=fun _ vals' H'=>Q .next vals' H') (ok.addY C) (ok.sto _ p.mem) p R₀ z₀ q) (fun _ s₂ pp=>?_) fun _ _ e=>(fI e).elim;refine nn fun hG=>?_;obtain⟨_,vals₃,H₃,r₃,S',z₃,q₃⟩:=pp;refine hG ?_;clear hG;have hn:s₂.heap.Ns C m:=n.at' fun o e=>(S' C o e fun z=>hCX (ak _ z)).1;refine⟨m,hn,fun h'' hs''=>?_⟩;refine a8.intro (r₁.letgo ok fC hiC r₃ hs'' fun z=>hCX (aj _ z)) (S₁.trans fun b o e n=>?_) .next q₃
  have w:=(S₀.trans S') b o e n;exact⟨hs''.extBut b o (fun z=>fC o (z▸e)) w.1,w.2⟩
end
end
section
section
variable{c:Cx}{t elt:Expr}{ifs:List Expr}{l:List V}{Q:List V→Prop}
inductive rj(F:V→Option V→Prop):List V→List V→Prop
 | nil:rj F [] []
 | skip {l out:List V} {x:V}:rj F l out→F x none→rj F (l++ [x]) out
 | snoc {l out:List V} {x d:V}:rj F l out→F x (some d)→rj F (l++ [x]) (out++ [d])
theorem CompI.rel(F:V→Option V→Prop)(h:∀ x∈l,CX c (gX c.names.length) [] t x (fun vals₂ H₂=>Ja c (fun b vals₃ H₃=>if b=true then Ev c vals₃ H₃ elt (fun d _ _=>F x (some d)) kx else F x none) ifs vals₂ H₂) kx)
  (q:∀ out,rj F l out→Q out):CompI c t ifs elt l Q:=by
 refine⟨fun i out=>rj F (l.take i) out, .nil,fun i x out hx ho=>?_,fun out ho=>q _ (by have ho:rj F (l.take l.length) out:=ho;rwa [cY]at ho)⟩;have ht:l.take (i+1)=l.take i++ [x]:=by rw[bT,hx];rfl
 have kk:∀ b vals₃ H₃,(if b=true then Ev c vals₃ H₃ elt (fun d _ _=>F x (some d)) kx else F x none)→(if b=true then Ev c vals₃ H₃ elt (fun d _ _=>rj F (l.take (i+1)) (out++ [d])) kx else rj F (l.take (i+1)) out):=by
  intro b vals₃ H₃ hb;refine ht.symm▸?_
  cases b with
  | true=>simp only[dG]at hb ⊢;exact T0.mono hb fun d _ _ hd=>.snoc ho hd
  | false=>simp only[aW,cj]at hb ⊢;exact .skip ho hb
 intro s v r z;refine bO (h x (aE hx) s v r z) fun _ _ b vals₁ H₁ r' S hr q=>⟨b,vals₁,H₁,r',S,hr,?_⟩
 cases ifs with
 | nil=>exact kk true _ _ q
 | cons e r=>
  cases r with
  | nil=>exact T0.mono q kk
  | cons _ _=>exact q.elim
theorem JB{f:V→Option V}{out:List V}(m:rj (fun x d=>f x=d) l out):out=l.filterMap f:=by
 induction m with
 | nil=>rfl
 | skip _ h ih=>rw[pL,← ih,eK,h];exact(cW _).symm
 | snoc _ h ih=>rw[pL,← ih,eK,h];rfl
theorem CompI.map(f:V→Option V)(h:∀ x∈l,CX c (gX c.names.length) [] t x (fun vals₂ H₂=>Ja c (fun b vals₃ H₃=>if b=true then Ev c vals₃ H₃ elt (fun d _ _=>f x=some d) kx else f x=none) ifs vals₂ H₂) kx)
  (q:Q (l.filterMap f)):CompI c t ifs elt l Q:=CompI.rel _ h fun _ m=>JB m▸q
set_option tactic.hygienic true in
theorem rj.all2{F:V→Option V→Prop}(hn:∀ x,¬ F x none){l out:List V}(h:rj F l out):out.length=l.length∧∀ (i:Nat) (x d:V),l[i]?=some x→out[i]?=some d→F x (some d):=by
 induction h with
 | nil=>exact⟨rfl,fun i x d h=>by trivial⟩
 | skip _ h=>exact(hn _ h).elim
 | snoc _ hf ih=>
  refine⟨by simp[ih.1],fun i x d h1 h2=>?_⟩
  rename_i l out x' d' hm
  rw[List.getElem?_append]at h1 h2;rw[ih.1]at h2
  split at h1
  ·rename_i hi
   rw[if_pos hi]at h2;exact ih.2 i x d h1 h2
  ·rename_i hi
   rw[if_neg hi]at h2;have e:i-l.length=0:=by
    have:=(aX.mp h1).1;simp at this;exact aq (aH [i-l.length] 577591325672603715 tt this) (aH [i-l.length] 81069466755010563 tt this)
   rw[e]at h1 h2;simp at h1 h2;subst h1;subst h2;exact hf
end
end
section
section
variable{c:Cx}{vals:List V}{H:Hp}{EX:dK}{Q:V→List V→Hp→Prop}
theorem dP.one{h:Heap}{X:List Addr}{a:V}{vs:List Value}(z:dP h X [a] vs):∃ v,vs= [v]∧VR h X a v:=by
 replace z:=z.iCons;cases z with
 | mk z zs=>cases zs.iNil;exact⟨_,rfl,z⟩
theorem dP.two{h:Heap}{X:List Addr}{a b:V}{vs:List Value}(z:dP h X [a,b] vs):∃ v u,vs= [v,u]∧VR h X a v∧VR h X b u:=by
 replace z:=z.iCons;cases z with
 | mk z zs=>obtain⟨u,rfl,y⟩:=zs.one;exact⟨_,u,rfl,z,y⟩
theorem Tn.one{c:Cx}{vals:List V}{H:Hp}{EX:dK}{α β:Type}{a:V}{f:List Value→Sem α}{R:Heap→List Addr→β→α→Prop}{Q:β→List V→Hp→Prop}(k:∀ s v,Rel c vals H s→VR s.heap (c.X H) a v→wpAny c.M c.A (f [v]) (a8 c H s R Q) (cF c H s EX) s):Tn c vals H [a] f R Q EX:=fun s vs r z=>by
 obtain⟨v,rfl,z'⟩:=z.one;exact k s v r z'
theorem Tn.two{c:Cx}{vals:List V}{H:Hp}{EX:dK}{α β:Type}{a b:V}{f:List Value→Sem α}{R:Heap→List Addr→β→α→Prop}{Q:β→List V→Hp→Prop}(k:∀ s v u,Rel c vals H s→VR s.heap (c.X H) a v→VR s.heap (c.X H) b u→wpAny c.M c.A (f [v,u]) (a8 c H s R Q) (cF c H s EX) s):Tn c vals H [a,b] f R Q EX:=fun s vs r z=>by
 obtain⟨v,u,rfl,z',y⟩:=z.two;exact k s v u r z' y
theorem Tn.oneR{c:Cx}{vals:List V}{H:Hp}{EX:dK}{α β:Type}{a:Addr}{f:List Value→Sem α}{R:Heap→List Addr→β→α→Prop}{Q:β→List V→Hp→Prop}(k:∀ s,Rel c vals H s→wpAny c.M c.A (f [.ref a]) (a8 c H s R Q) (cF c H s EX) s):Tn c vals H [.ref a] f R Q EX:=Tn.one fun s v r z=>by
 cases z.iRef;exact k s r
theorem Tn.twoR{c:Cx}{vals:List V}{H:Hp}{EX:dK}{α β:Type}{a:Addr}{b:V}{f:List Value→Sem α}{R:Heap→List Addr→β→α→Prop}{Q:β→List V→Hp→Prop}(k:∀ s u,Rel c vals H s→VR s.heap (c.X H) b u→wpAny c.M c.A (f [.ref a,u]) (a8 c H s R Q) (cF c H s EX) s):Tn c vals H [.ref a,b] f R Q EX:=Tn.two fun s v u r z y=>by
 cases z.iRef;exact k s u r y
theorem Tn.oneL{c:Cx}{vals:List V}{H:Hp}{EX:dK}{α β:Type}{a:Addr}{l:List V}{f:List Value→Sem α}{R:Heap→List Addr→β→α→Prop}{Q:β→List V→Hp→Prop}(k:∀ s vs n,Rel c vals H s→s.heap.get? a=some (ic vs n)→a∉c.X H→dP s.heap (c.X H) l vs→wpAny c.M c.A (f [.ref a]) (a8 c H s R Q) (cF c H s EX) s):Tn c vals H [.lst a l] f R Q EX:=Tn.one fun s v r z=>by
 cases z.iLst with
 | mk e n zs=>exact k s _ _ r e n zs
theorem Tn.twoLI{c:Cx}{vals:List V}{H:Hp}{EX:dK}{α β:Type}{a:Addr}{l:List V}{i:Int}{f:List Value→Sem α}{R:Heap→List Addr→β→α→Prop}{Q:β→List V→Hp→Prop}(k:∀ s vs n t,Rel c vals H s→s.heap.get? a=some (ic vs n)→a∉c.X H→dP s.heap (c.X H) l vs→wpAny c.M c.A (f [.ref a, .int i t]) (a8 c H s R Q) (cF c H s EX) s):Tn c vals H [.lst a l, .int i] f R Q EX:=Tn.two fun s v u r z y=>by
 cases y.iInt
 cases z.iLst with
 | mk e n zs=>exact k s _ _ _ r e n zs
theorem Tn.twoSS{c:Cx}{vals:List V}{H:Hp}{EX:dK}{α β:Type}{x y:Str}{f:List Value→Sem α}{R:Heap→List Addr→β→α→Prop}{Q:β→List V→Hp→Prop}(k:∀ s t u,Rel c vals H s→wpAny c.M c.A (f [.str x t, .str y u]) (a8 c H s R Q) (cF c H s EX) s):Tn c vals H [.str x, .str y] f R Q EX:=Tn.two fun s v u r z y=>by
 cases z.iStr;cases y.iStr;exact k s _ _ r
theorem iT{ad:Addr}{l:List V}(hl:l.length≤av)(q:Q (.int l.length) vals H):Tn c vals H [.lst ad l] (fun vs=>call (.builtin "len") vs) VR Q EX:=Tn.oneL fun s vs m r e n zs=>by
 have hle:=zs.length;refine call_len_list (s:=s) (items:=vs.toArray) ⟨_,e,rfl,_,rfl⟩ (by rw[aI,← hle];simp only[av]at hl;omega) ?_;rw[aI,← hle];exact a8.intro (r.toks _) (aN.refl _ _) (.int _ _) q
theorem vO{x:Str}(hl:x.length≤av)(q:Q (.int x.length) vals H):Tn c vals H [.str x] (fun vs=>call (.builtin "len") vs) VR Q EX:=Tn.one fun s v r z'=>by
 cases z'.iStr with
 | mk _ t=>exact P.len_str (by simp only[av]at hl;omega) (a8.intro (r.toks _) (aN.refl _ _) (.int _ _) q)
theorem vP{x:Str}(q:Q (.bool false) vals H):Tn c vals H [.str x, .obj (.type "bytes")] (fun vs=>call (.builtin "isinstance") vs) VR Q EX:=Tn.two fun s v u r z' y=>by
 cases z'.iStr;cases y.iObj;exact IsiPair.str_bytes (a8.intro (r.toks _) (aN.refl _ _) (.bool _) q)
end
end
section
open PySem.SeqAt
open AutoSeq1 (wpAny_loadPart')
open MeetsSeq MeetsSeq2 MeetsSeq3 SeqRoads2
noncomputable def gK(e r:Nat→Bool)(fin:Bool):Nat→Nat→Bool
 | 0,_=>fin
 | k+1,i=>if e i then gK e r fin k (i+1)else r i
noncomputable def tQ(A:Around)(s:Shared)(op:CmpOp)(v u:Value)(b:Bool):Prop:=
 ∀ (prog:dt) (w:World) (E:Value→Shared→Prop) (Q:Value→Shared→Prop),Q (.bool b) s→wpAny (model prog w) A (n0 op v u) Q E s
theorem ES(l b:Addr)(items items2:Array Value)(n n2:Nat)(dd dd2:Option Addr)(sl sl2:Array (Option Value))(e r:Nat→Bool)(k:Nat):
  ∀ i:Nat,min items.size items2.size-i=k→Meets (Builtin.«list.__eq__.loop» ⟨[.ref l, .ref b,rawInt i,rawInt 0],[]⟩)
   (fun A R s=>s.heap.get? l=some { cls:=.type "list",dict:=dd,data:=.seq items n,slots:=sl }∧s.heap.get? b=some { cls:=.type "list",dict:=dd2,data:=.seq items2 n2,slots:=sl2 }∧
    (∀ j (h1:j<items.size) (h2:j<items2.size),EqAt A.in1 s items[j] items2[j] (e j)∧(e j=false→tQ A.in1 s .Lt items[j] items2[j] (r j)))∧
    R (.ok (.ret (.bool (gK e r (decide (items.size<items2.size)) (min items.size items2.size-i) i)))) s):=by
 induction k with
 | zero=>
  intro i hk prog w A R s h;obtain⟨hp,g,d,tk,os⟩:=s;obtain⟨hl,hb,he,h⟩:=h;rw[hk]at h
  wp_walk using wpAny_loadPart' hl,wpAny_loadPart' hb
  rcases ek i items.size with h1 | h1
  ·have hi2:items2[((i:Nat):Int).toNat]?=none:=by simp;exact(dY items.size items2.size).elim (fun q0=>aH [min items.size items2.size-i,i,items.size,min items.size items2.size,items2.size] 468138637523878680303302280740178872076667453507 tt hk h1 (su (min items.size items2.size) i) (dJ (aH [items.size,items2.size] 91202565463605313 tt q0:items.size≤items2.size))) (fun q0=>aH [min items.size items2.size-i,min items.size items2.size,i,items2.size] 519750214174357074546635313616719446083 tt hk (su (min items.size items2.size) i) (wl (aH [items2.size,items.size] 91202565463605313 tt q0:items2.size≤items.size)))
   have hi1:items[((i:Nat):Int).toNat]?=some items[i]:=by simp[h1]
   refine hi1.symm▸?_;refine hi2.symm▸?_
   wp_walk using wpAny_loadPart' hl,wpAny_loadPart' hb
   exact h
  ·have hi1:items[((i:Nat):Int).toNat]?=none:=by simp;exact aH [items.size,i] 91202565463605313 tt h1
   refine hi1.symm▸?_
   wp_walk using wpAny_loadPart' hl,wpAny_loadPart' hb
   exact h
 | succ k ih=>
  intro i hk prog w A R s h;obtain⟨hp,g,d,tk,os⟩:=s;obtain⟨hl,hb,he,h⟩:=h;have hlt:i<items.size:=by exact(dY (min items.size items2.size) i).elim (fun q0=>aH [min items.size items2.size-i,k,i,items.size] 562026291358632387486149513219 tt hk (c9 (aH [min items.size items2.size,i] 91202565463605313 tt q0:(min items.size items2.size)≤i))) (fun q0=>aH [min items.size items2.size-i,k,min items.size items2.size,items.size,i] 2482791867774869242748854238410048889950211 tt hk (bC items.size items2.size) (ag (aH [i,min items.size items2.size] 91202565463605313 tt q0:i≤(min items.size items2.size))))
  have hlt2:i<items2.size:=by exact(dY (min items.size items2.size) i).elim (fun q0=>aH [min items.size items2.size-i,k,i,items2.size] 562026291358632387486149513219 tt hk (c9 (aH [min items.size items2.size,i] 91202565463605313 tt q0:(min items.size items2.size)≤i))) (fun q0=>aH [min items.size items2.size-i,k,min items.size items2.size,items2.size,i] 2482791867774869242748854238410048889950211 tt hk (cw items.size items2.size) (ag (aH [i,min items.size items2.size] 91202565463605313 tt q0:i≤(min items.size items2.size))))
  rw[hk]at h
  wp_walk using wpAny_loadPart' hl,wpAny_loadPart' hb
  have hi1:items[((i:Nat):Int).toNat]?=some items[i]:=by simp[hlt]
  have hi2:items2[((i:Nat):Int).toNat]?=some items2[i]:=by simp[hlt2]
  have hc:((i:Int)+1)=((i+1:Nat):Int):=by push_cast;rfl
  refine hi1.symm▸?_;refine hi2.symm▸?_;obtain⟨heq,hrc⟩:=he i hlt hlt2;refine aa (heq prog w _ _ ?_);unfold gK at h
  cases hb':e i with
  | true=>
   rw[hb',if_pos rfl]at h
   wp_walk
   refine hc.symm▸?_;exact⟨bY plain_eq_loop _,bE entry_eq_loop (by
    refine(a7 plain_eq_loop _).symm▸?_;refine ih (i+1) ((qX _ i 1).trans (bc (·- 1) hk)) prog w A R _ ⟨hl,hb,he,?_⟩;rw[show min items.size items2.size-(i+1)=k from (qX _ i 1).trans (bc (·- 1) hk)];exact h)⟩
  | false=>
   rw[hb',if_neg au]at h
   wp_walk using wpAny_loadPart' hl,wpAny_loadPart' hb
   refine hi1.symm▸?_;refine hi2.symm▸?_;refine aa (hrc hb' prog w _ _ ?_)
   wp_walk
   exact h
theorem Fm(l b:Addr)(items items2:Array Value)(n n2:Nat)(dd dd2:Option Addr)(sl sl2:Array (Option Value))(e r:Nat→Bool)(k:Nat):
  ∀ i:Nat,min items.size items2.size-i=k→Meets (Builtin.«list.__eq__.loop» ⟨[.ref l, .ref b,rawInt i,rawInt 4],[]⟩)
   (fun A R s=>s.heap.get? l=some { cls:=.type "list",dict:=dd,data:=.seq items n,slots:=sl }∧s.heap.get? b=some { cls:=.type "list",dict:=dd2,data:=.seq items2 n2,slots:=sl2 }∧
    (∀ j (h1:j<items.size) (h2:j<items2.size),EqAt A.in1 s items[j] items2[j] (e j)∧(e j=false→tQ A.in1 s .Gt items[j] items2[j] (r j)))∧
    R (.ok (.ret (.bool (gK e r (decide (items.size>items2.size)) (min items.size items2.size-i) i)))) s):=by
 induction k with
 | zero=>
  intro i hk prog w A R s h;obtain⟨hp,g,d,tk,os⟩:=s;obtain⟨hl,hb,he,h⟩:=h;rw[hk]at h
  wp_walk using wpAny_loadPart' hl,wpAny_loadPart' hb
  rcases ek i items.size with h1 | h1
  ·have hi2:items2[((i:Nat):Int).toNat]?=none:=by simp;exact(dY items.size items2.size).elim (fun q0=>aH [min items.size items2.size-i,i,items.size,min items.size items2.size,items2.size] 468138637523878680303302280740178872076667453507 tt hk h1 (su (min items.size items2.size) i) (dJ (aH [items.size,items2.size] 91202565463605313 tt q0:items.size≤items2.size))) (fun q0=>aH [min items.size items2.size-i,min items.size items2.size,i,items2.size] 519750214174357074546635313616719446083 tt hk (su (min items.size items2.size) i) (wl (aH [items2.size,items.size] 91202565463605313 tt q0:items2.size≤items.size)))
   have hi1:items[((i:Nat):Int).toNat]?=some items[i]:=by simp[h1]
   refine hi1.symm▸?_;refine hi2.symm▸?_
   wp_walk using wpAny_loadPart' hl,wpAny_loadPart' hb
   exact h
  ·have hi1:items[((i:Nat):Int).toNat]?=none:=by simp;exact aH [items.size,i] 91202565463605313 tt h1
   refine hi1.symm▸?_
   wp_walk using wpAny_loadPart' hl,wpAny_loadPart' hb
   exact h
 | succ k ih=>
  intro i hk prog w A R s h;obtain⟨hp,g,d,tk,os⟩:=s;obtain⟨hl,hb,he,h⟩:=h;have hlt:i<items.size:=by exact(dY (min items.size items2.size) i).elim (fun q0=>aH [min items.size items2.size-i,k,i,items.size] 562026291358632387486149513219 tt hk (c9 (aH [min items.size items2.size,i] 91202565463605313 tt q0:(min items.size items2.size)≤i))) (fun q0=>aH [min items.size items2.size-i,k,min items.size items2.size,items.size,i] 2482791867774869242748854238410048889950211 tt hk (bC items.size items2.size) (ag (aH [i,min items.size items2.size] 91202565463605313 tt q0:i≤(min items.size items2.size))))
  have hlt2:i<items2.size:=by exact(dY (min items.size items2.size) i).elim (fun q0=>aH [min items.size items2.size-i,k,i,items2.size] 562026291358632387486149513219 tt hk (c9 (aH [min items.size items2.size,i] 91202565463605313 tt q0:(min items.size items2.size)≤i))) (fun q0=>aH [min items.size items2.size-i,k,min items.size items2.size,items2.size,i] 2482791867774869242748854238410048889950211 tt hk (cw items.size items2.size) (ag (aH [i,min items.size items2.size] 91202565463605313 tt q0:i≤(min items.size items2.size))))
  rw[hk]at h
  wp_walk using wpAny_loadPart' hl,wpAny_loadPart' hb
  have hi1:items[((i:Nat):Int).toNat]?=some items[i]:=by simp[hlt]
  have hi2:items2[((i:Nat):Int).toNat]?=some items2[i]:=by simp[hlt2]
  have hc:((i:Int)+1)=((i+1:Nat):Int):=by push_cast;rfl
  refine hi1.symm▸?_;refine hi2.symm▸?_;obtain⟨heq,hrc⟩:=he i hlt hlt2;refine aa (heq prog w _ _ ?_);unfold gK at h
  cases hb':e i with
  | true=>
   rw[hb',if_pos rfl]at h
   wp_walk
   refine hc.symm▸?_;exact⟨bY plain_eq_loop _,bE entry_eq_loop (by
    refine(a7 plain_eq_loop _).symm▸?_;refine ih (i+1) ((qX _ i 1).trans (bc (·- 1) hk)) prog w A R _ ⟨hl,hb,he,?_⟩;rw[show min items.size items2.size-(i+1)=k from (qX _ i 1).trans (bc (·- 1) hk)];exact h)⟩
  | false=>
   rw[hb',if_neg au]at h
   wp_walk using wpAny_loadPart' hl,wpAny_loadPart' hb
   refine hi1.symm▸?_;refine hi2.symm▸?_;refine aa (hrc hb' prog w _ _ ?_)
   wp_walk
   exact h
theorem xk(l b:Addr)(items items2:Array Value)(n n2:Nat)(dd dd2:Option Addr)(sl sl2:Array (Option Value))(e r:Nat→Bool):
  Meets (Builtin.«list.__lt__» ⟨[.ref l, .ref b],[]⟩)
   (fun A R s=>s.heap.get? l=some { cls:=.type "list",dict:=dd,data:=.seq items n,slots:=sl }∧s.heap.get? b=some { cls:=.type "list",dict:=dd2,data:=.seq items2 n2,slots:=sl2 }∧
    (∀ j (h1:j<items.size) (h2:j<items2.size),EqAt A.in1 s items[j] items2[j] (e j)∧(e j=false→tQ A.in1 s .Lt items[j] items2[j] (r j)))∧
    R (.ok (.ret (.bool (gK e r (decide (items.size<items2.size)) (min items.size items2.size) 0)))) s):=by
 intro prog w A R s h;obtain⟨hp,g,d,tk,os⟩:=s;obtain⟨hl,hb,he,h⟩:=h;have f3:=AutoSeq1.sub_list_list
 wp_walk using wpAny_loadPart' hl,wpAny_loadPart' hb
 exact⟨bY plain_eq_loop _,bE entry_eq_loop (by
  refine(a7 plain_eq_loop _).symm▸?_;exact ES l b items items2 n n2 dd dd2 sl sl2 e r _ 0 rfl prog w A R _ ⟨hl,hb,he,by simpa using h⟩)⟩
theorem EU(l b:Addr)(items items2:Array Value)(n n2:Nat)(dd dd2:Option Addr)(sl sl2:Array (Option Value))(e r:Nat→Bool):
  Meets (Builtin.«list.__gt__» ⟨[.ref l, .ref b],[]⟩)
   (fun A R s=>s.heap.get? l=some { cls:=.type "list",dict:=dd,data:=.seq items n,slots:=sl }∧s.heap.get? b=some { cls:=.type "list",dict:=dd2,data:=.seq items2 n2,slots:=sl2 }∧
    (∀ j (h1:j<items.size) (h2:j<items2.size),EqAt A.in1 s items[j] items2[j] (e j)∧(e j=false→tQ A.in1 s .Gt items[j] items2[j] (r j)))∧
    R (.ok (.ret (.bool (gK e r (decide (items.size>items2.size)) (min items.size items2.size) 0)))) s):=by
 intro prog w A R s h;obtain⟨hp,g,d,tk,os⟩:=s;obtain⟨hl,hb,he,h⟩:=h;have f3:=AutoSeq1.sub_list_list
 wp_walk using wpAny_loadPart' hl,wpAny_loadPart' hb
 exact⟨bY plain_eq_loop _,bE entry_eq_loop (by
  refine(a7 plain_eq_loop _).symm▸?_;exact Fm l b items items2 n n2 dd dd2 sl sl2 e r _ 0 rfl prog w A R _ ⟨hl,hb,he,by simpa using h⟩)⟩
theorem G9(l b:Addr)(items items2:Array Value)(n n2:Nat)(dd dd2:Option Addr)(sl sl2:Array (Option Value))(e r:Nat→Bool):
  Meets (Builtin.«tuple.__lt__» ⟨[.ref l, .ref b],[]⟩)
   (fun A R s=>s.heap.get? l=some { cls:=.type "tuple",dict:=dd,data:=.seq items n,slots:=sl }∧s.heap.get? b=some { cls:=.type "tuple",dict:=dd2,data:=.seq items2 n2,slots:=sl2 }∧
    (∀ j (h1:j<items.size) (h2:j<items2.size),EqAt A.in1 s items[j] items2[j] (e j)∧(e j=false→tQ A.in1 s .Lt items[j] items2[j] (r j)))∧
    R (.ok (.ret (.bool (gK e r (decide (items.size<items2.size)) (min items.size items2.size) 0)))) s):=
 .of_wp fun prog w A R s h=>by
  obtain⟨hp,g,d,tk,os⟩:=s;obtain⟨hl,hb,he,h⟩:=h;have f2:=AutoSeq1.sub_tuple_tuple;have hZ:(items.toList.zip items2.toList).length=min items.size items2.size:=by simp
  wp_walk using wpAny_loadPart' hl,wpAny_loadPart' hb,wpAny_forIn_list _ (fun rest b s'=>b.1=none∧s'=⟨hp,g,d,tk,os⟩∧∃ i,rest=(items.toList.zip items2.toList).drop i∧
   R (.ok (.ret (.bool (gK e r (decide (items.size<items2.size)) (min items.size items2.size-i) i)))) ⟨hp,g,d,tk,os⟩) _
  case turn=>
   rintro ⟨y,x⟩ rest b s' ⟨hb',rfl,i,hz,hR⟩
   have hlt:i<(items.toList.zip items2.toList).length:=by
    rcases ek i (items.toList.zip items2.toList).length with h' | h'
    ·exact h'
    ·rw[List.drop_of_length_le h']at hz;cases hz
   have hm:i<min items.size items2.size:=hZ▸hlt;have h1:i<items.size:=eg hm (bC _ _);have h2:i<items2.size:=eg hm (cw _ _);rw[fk hlt]at hz
   injection hz with hyx hrest
   have hy:y=items[i]:=by have:=bc Prod.fst hyx;simpa using this
   have hx:x=items2[i]:=by have:=bc Prod.snd hyx;simpa using this
   subst hy hx;obtain⟨heq,hrc⟩:=he i h1 h2;refine aa (heq prog w _ _ ?_);rw[show min items.size items2.size-i=(min items.size items2.size-(i+1))+1 by exact aq (aH [min items.size items2.size,min items.size items2.size-(i+1),i,min items.size items2.size-i] 180094588422024753957900232175133255532609 tt (su (min items.size items2.size) (i+1)) (ag (aH [(items.toList.zip items2.toList).length,min items.size items2.size,i] 98532471886726841586679875 tt hZ hlt:i≤(min items.size items2.size)))) (aH [min items.size items2.size,min items.size items2.size-i,i,min items.size items2.size-(i+1)] 30039223821549868960726669558777052659777 tt (su (min items.size items2.size) i) (ag (aH [(items.toList.zip items2.toList).length,min items.size items2.size,i] 437108895764010376004010770499 tt hZ hlt:(i+1)≤(min items.size items2.size))))]at hR;unfold gK at hR
   cases hy:e i with
   | true=>
    rw[hy,if_pos rfl]at hR
    wp_walk
    exact⟨rfl,rfl,i+1,hrest,hR⟩
   | false=>
    rw[hy,if_neg au]at hR;have hrc':∀ {Q:Value→Shared→Prop} {E:Value→Shared→Prop},Q (.bool (r i)) ⟨hp,g,d,tk,os⟩→wpAny (model prog w) A.in1 (n0 .Lt items[i] items2[i]) Q E ⟨hp,g,d,tk,os⟩:=fun h=>hrc hy prog w _ _ h
    wp_walk using hrc'
    exact⟨_,rfl,hR⟩
  case fin=>
   rintro ⟨b1,b2⟩ s' ⟨hb',rfl,i,hz,hR⟩
   simp only at hb';subst hb';have hge:min items.size items2.size≤i:=by
    rcases ek i (items.toList.zip items2.toList).length with h' | h'
    ·rw[fk h']at hz;cases hz
    ·exact hZ▸h'
   rw[show min items.size items2.size-i=0 by exact aq (aH [min items.size items2.size-i] 577591325672603715 tt (c9 (aH [min items.size items2.size,i] 91202565463605313 tt hge:(min items.size items2.size)≤i))) (aH [min items.size items2.size-i] 75501824 tt)]at hR;unfold gK at hR
   wp_walk
   exact⟨_,rfl,by simpa[Builtin.Tuple.tupleCompareSizes]using hR⟩
  case h=>
   exact⟨rfl,rfl,0,rfl,by simpa using h⟩
theorem Ha(l b:Addr)(items items2:Array Value)(n n2:Nat)(dd dd2:Option Addr)(sl sl2:Array (Option Value))(e r:Nat→Bool):
  Meets (Builtin.«tuple.__gt__» ⟨[.ref l, .ref b],[]⟩)
   (fun A R s=>s.heap.get? l=some { cls:=.type "tuple",dict:=dd,data:=.seq items n,slots:=sl }∧s.heap.get? b=some { cls:=.type "tuple",dict:=dd2,data:=.seq items2 n2,slots:=sl2 }∧
    (∀ j (h1:j<items.size) (h2:j<items2.size),EqAt A.in1 s items[j] items2[j] (e j)∧(e j=false→tQ A.in1 s .Gt items[j] items2[j] (r j)))∧
    R (.ok (.ret (.bool (gK e r (decide (items.size>items2.size)) (min items.size items2.size) 0)))) s):=
 .of_wp fun prog w A R s h=>by
  obtain⟨hp,g,d,tk,os⟩:=s;obtain⟨hl,hb,he,h⟩:=h;have f2:=AutoSeq1.sub_tuple_tuple;have hZ:(items.toList.zip items2.toList).length=min items.size items2.size:=by simp
  wp_walk using wpAny_loadPart' hl,wpAny_loadPart' hb,wpAny_forIn_list _ (fun rest b s'=>b.1=none∧s'=⟨hp,g,d,tk,os⟩∧∃ i,rest=(items.toList.zip items2.toList).drop i∧
   R (.ok (.ret (.bool (gK e r (decide (items.size>items2.size)) (min items.size items2.size-i) i)))) ⟨hp,g,d,tk,os⟩) _
  case turn=>
   rintro ⟨y,x⟩ rest b s' ⟨hb',rfl,i,hz,hR⟩
   have hlt:i<(items.toList.zip items2.toList).length:=by
    rcases ek i (items.toList.zip items2.toList).length with h' | h'
    ·exact h'
    ·rw[List.drop_of_length_le h']at hz;cases hz
   have hm:i<min items.size items2.size:=hZ▸hlt;have h1:i<items.size:=eg hm (bC _ _);have h2:i<items2.size:=eg hm (cw _ _);rw[fk hlt]at hz
   injection hz with hyx hrest
   have hy:y=items[i]:=by have:=bc Prod.fst hyx;simpa using this
   have hx:x=items2[i]:=by have:=bc Prod.snd hyx;simpa using this
   subst hy hx;obtain⟨heq,hrc⟩:=he i h1 h2;refine aa (heq prog w _ _ ?_);rw[show min items.size items2.size-i=(min items.size items2.size-(i+1))+1 by exact aq (aH [min items.size items2.size,min items.size items2.size-(i+1),i,min items.size items2.size-i] 180094588422024753957900232175133255532609 tt (su (min items.size items2.size) (i+1)) (ag (aH [(items.toList.zip items2.toList).length,min items.size items2.size,i] 98532471886726841586679875 tt hZ hlt:i≤(min items.size items2.size)))) (aH [min items.size items2.size,min items.size items2.size-i,i,min items.size items2.size-(i+1)] 30039223821549868960726669558777052659777 tt (su (min items.size items2.size) i) (ag (aH [(items.toList.zip items2.toList).length,min items.size items2.size,i] 437108895764010376004010770499 tt hZ hlt:(i+1)≤(min items.size items2.size))))]at hR;unfold gK at hR
   cases hy:e i with
   | true=>
    rw[hy,if_pos rfl]at hR
    wp_walk
    exact⟨rfl,rfl,i+1,hrest,hR⟩
   | false=>
    rw[hy,if_neg au]at hR;have hrc':∀ {Q:Value→Shared→Prop} {E:Value→Shared→Prop},Q (.bool (r i)) ⟨hp,g,d,tk,os⟩→wpAny (model prog w) A.in1 (n0 .Gt items[i] items2[i]) Q E ⟨hp,g,d,tk,os⟩:=fun h=>hrc hy prog w _ _ h
    wp_walk using hrc'
    exact⟨_,rfl,hR⟩
  case fin=>
   rintro ⟨b1,b2⟩ s' ⟨hb',rfl,i,hz,hR⟩
   simp only at hb';subst hb';have hge:min items.size items2.size≤i:=by
    rcases ek i (items.toList.zip items2.toList).length with h' | h'
    ·rw[fk h']at hz;cases hz
    ·exact hZ▸h'
   rw[show min items.size items2.size-i=0 by exact aq (aH [min items.size items2.size-i] 577591325672603715 tt (c9 (aH [min items.size items2.size,i] 91202565463605313 tt hge:(min items.size items2.size)≤i))) (aH [min items.size items2.size-i] 75501824 tt)]at hR;unfold gK at hR
   wp_walk
   exact⟨_,rfl,by simpa[Builtin.Tuple.tupleCompareSizes]using hR⟩
  case h=>
   exact⟨rfl,rfl,0,rfl,by simpa using h⟩
end
section
open PySem.SeqAt
mutual
noncomputable def kL:V→V→Bool
 | .str x, .str y=>decide (x.cps.toList<y.cps.toList)
 | .int x, .int y=>decide (x<y)
 | .tup l, .tup m=>n8 l m
 | .lst _ l, .lst _ m=>n8 l m
 | _,_=>false
noncomputable def n8:List V→List V→Bool
 | [],[]=>false
 | [],_::_=>true
 | _::_,[]=>false
 | a::l,b::m=>if bw a.py b.py then n8 l m else kL a b
end
mutual
noncomputable def pO:V→V→Bool
 | .str x, .str y=>decide (y.cps.toList<x.cps.toList)
 | .int x, .int y=>decide (x>y)
 | .tup l, .tup m=>wu l m
 | .lst _ l, .lst _ m=>wu l m
 | _,_=>false
noncomputable def wu:List V→List V→Bool
 | [],[]=>false
 | [],_::_=>false
 | _::_,[]=>true
 | a::l,b::m=>if bw a.py b.py then wu l m else pO a b
end
inductive xM:Nat→V→V→Prop
 | str {n:Nat} {x y:Str}:xM n (.str x) (.str y)
 | int {n:Nat} {x y:Int}:xM n (.int x) (.int y)
 | tup {n:Nat} {l m:List V} (h:∀ a∈l,∀ b∈m,bw a.py b.py=false→xM n a b):xM (n+1) (.tup l) (.tup m)
 | lst {n:Nat} {p q:Addr} {l m:List V} (h:∀ a∈l,∀ b∈m,bw a.py b.py=false→xM n a b):xM (n+1) (.lst p l) (.lst q m)
theorem Jd{x y:Str}:kL (.str x) (.str y)=decide (x.cps.toList<y.cps.toList):=rfl
theorem lT{x y:Int}:kL (.int x) (.int y)=decide (x<y):=rfl
theorem C9{l m:List V}:kL (.tup l) (.tup m)=n8 l m:=rfl
theorem x8{p q:Addr}{l m:List V}:kL (.lst p l) (.lst q m)=n8 l m:=rfl
theorem Da{p q:Addr}{l m:List V}:pO (.lst p l) (.lst q m)=wu l m:=rfl
theorem kG{a b:V}{l m:List V}:n8 (a::l) (b::m)=if bw a.py b.py then n8 l m else kL a b:=rfl
theorem wW{a b:V}{l m:List V}:wu (a::l) (b::m)=if bw a.py b.py then wu l m else pO a b:=rfl
theorem oZ(e r:Nat→Bool)(fin:Bool):∀ (k i:Nat),gK (fun j=>e (j+1)) (fun j=>r (j+1)) fin k i=gK e r fin k (i+1)
 | 0,i=>rfl
 | k+1,i=>by unfold gK;rw[oZ e r fin k (i+1)]
noncomputable def Mq(l m:List V)(j:Nat):Bool:=bw (l.getD j .none).py (m.getD j .none).py
theorem nz:∀ (l m:List V),gK (Mq l m) (fun j=>kL (l.getD j .none) (m.getD j .none)) (decide (l.length<m.length)) (min l.length m.length) 0=n8 l m
 | [],[]=>rfl
 | [],b::m=>rfl
 | a::l,[]=>rfl
 | a::l,b::m=>by
  have ih:=nz l m;rw[aT,aT,Nat.succ_min_succ];refine kG.symm▸?_;unfold gK;show (if bw a.py b.py=true then _ else kL a b)=_;congr 1;rw[← ih,← oZ];simp only[Nat.succ_lt_succ_iff]
  rfl
theorem qH:∀ (l m:List V),gK (Mq l m) (fun j=>pO (l.getD j .none) (m.getD j .none)) (decide (l.length>m.length)) (min l.length m.length) 0=wu l m
 | [],[]=>rfl
 | [],b::m=>rfl
 | a::l,[]=>rfl
 | a::l,b::m=>by
  have ih:=qH l m;rw[aT,aT,Nat.succ_min_succ];refine wW.symm▸?_;unfold gK;show (if bw a.py b.py=true then _ else pO a b)=_;congr 1;rw[← ih,← oZ];simp only[gt_iff_lt,Nat.succ_lt_succ_iff]
  rfl
theorem units_in1(A:Around):A.in1.units=A.units+1:=rfl
theorem ge{l:List V}{j:Nat}(h:j<l.length):l[j]?=some (l.getD j .none):=by
 rw[cP,aD h];rfl
section
variable{h:Heap}{X:List Addr}
theorem xl{A:Around}{s:Shared}{l m:List V}{vs us:List Value}(op:CmpOp)(f:V→V→Bool)(zs:dP s.heap X l vs)(ys:dP s.heap X m us){k:Nat}(hk8:k≤8)(dl:V.datas k l=true)(dm:V.datas k m=true)(hu:A.units+20<cLine)
  (ih:∀ a∈l,∀ b∈m,∀ v u,VR s.heap X a v→VR s.heap X b u→bw a.py b.py=false→tQ A.in1 s op v u (f a b)):
  ∀ j (h1:j<vs.toArray.size) (h2:j<us.toArray.size),EqAt A.in1 s vs.toArray[j] us.toArray[j] (Mq l m j)∧(Mq l m j=false→tQ A.in1 s op vs.toArray[j] us.toArray[j] (f (l.getD j .none) (m.getD j .none))):=by
 intro j h1 h2;simp only[aI]at h1 h2;have l1:j<l.length:=by rw[zs.length];exact h1
 have l2:j<m.length:=by rw[ys.length];exact h2
 refine nn fun hG=>?_;obtain⟨v,hv,zv⟩:=zs.get (ge l1);refine hG ?_;clear hG;refine nn fun hG=>?_;obtain⟨u,hu',zu⟩:=ys.get (ge l2);refine hG ?_;clear hG;have e1:vs.toArray[j]=v:=by simpa[aD h1]using hv
 have e2:us.toArray[j]=u:=by simpa[aD h2]using hu'
 refine e1.symm▸?_;refine e2.symm▸?_;rw[V.datas_all,ay]at dl dm;have m1:=aE (ge l1);have m2:=aE (ge l2);obtain⟨as,ra⟩:=zv.reads k (dl _ m1);obtain⟨bs,rb⟩:=zu.reads k (dm _ m2);have la:=V.lay k _ (dl _ m1);have lb:=V.lay k _ (dm _ m2);have i:=ih _ m1 _ m2 v u zv zu;refine⟨eqAt_reads _ _ A.in1 s v u as bs ra rb la.1 lb.1 ?_,i⟩;rw[units_in1];have:=bC (l.getD j .none).py.depth (m.getD j .none).py.depth;exact aH [k,A.units,cLine,(l.getD j V.none).py.depth,min (l.getD j V.none).py.depth (m.getD j V.none).py.depth] 9398911183692530940401686165189788602958578103647993921 tt hk8 hu la.2 this
theorem rH{A:Around}{s:Shared}{l m:List V}{vs us:List Value}(op:CmpOp)(f:V→V→Bool){n k:Nat}(hk8:k+1≤8)(rp:dP s.heap X l vs)(rq:dP s.heap X m us)(dl:V.datas k l=true)(dm:V.datas k m=true)(hu:A.units+(20+(n+1))<cLine)
  (ih:∀ a∈l,∀ b∈m,bw a.py b.py=false→∀ (k:Nat),k≤8→∀ {A:Around} {v u:Value},VR s.heap X a v→VR s.heap X b u→V.data k a=true→V.data k b=true→A.units+(20+n)<cLine→tQ A s op v u (f a b)):
  ∀ j (h1:j<vs.toArray.size) (h2:j<us.toArray.size),EqAt A.in1 s vs.toArray[j] us.toArray[j] (Mq l m j)∧(Mq l m j=false→tQ A.in1 s op vs.toArray[j] us.toArray[j] (f (l.getD j .none) (m.getD j .none))):=
 xl op f rp rq (bJ hk8) dl dm (bL (Nat.add_le_add_left (cy _ _) _) hu) fun a ha b hb v u za zb e=>
  ih a ha b hb e k (bJ hk8) za zb (by rw[V.datas_all,ay]at dl;exact dl a ha) (by rw[V.datas_all,ay]at dm;exact dm b hb) (by rw[units_in1];exact aH [A.units,n,cLine] 518149855753699724740454370756867915842 tt hu)
theorem rv{l:List V}{vs:List Value}{m:List V}{us:List Value}(rp:dP h X l vs)(rq:dP h X m us)(f:Nat→Nat→Bool)(e r:Nat→Bool){x:Bool}(hx:gK e r (f l.length m.length) (min l.length m.length) 0=x):gK e r (f vs.toArray.size us.toArray.size) (min vs.toArray.size us.toArray.size) 0=x:=by
 rw[aI,aI,← rp.length,← rq.length];exact hx
theorem xp{k:Nat}{l:List V}(h:V.data k (.tup l)=true):∃ k',k=k'+1∧V.datas k' l=true:=by
 cases k with
 | zero=>exact nomatch h
 | succ k=>exact⟨k,rfl,h⟩
theorem xr{k:Nat}{p:Addr}{l:List V}(h:V.data k (.lst p l)=true):∃ k',k=k'+1∧V.datas k' l=true:=by
 cases k with
 | zero=>exact nomatch h
 | succ k=>exact⟨k,rfl,h⟩
theorem Bw{s:Shared}{n:Nat}{a b:V}(hk:xM n a b):∀ (k:Nat),k≤8→∀ {A:Around} {v u:Value},VR s.heap X a v→VR s.heap X b u→V.data k a=true→V.data k b=true→A.units+(20+n)<cLine→tQ A s .Lt v u (kL a b):=by
 induction hk with
 | str=>intro k _ A v u za zb _ _ _;cases za.iStr;cases zb.iStr;exact fun prog w E Q hq=>P.lt_str hq
 | int=>intro k _ A v u za zb _ _ _;cases za.iInt;cases zb.iInt;exact fun prog w E Q hq=>P.lt_int hq
 | tup hk ih=>
  intro k hk8 A v u za zb da db hu;refine nn fun hG=>?_;obtain⟨k,hE1,da⟩:=xp da;refine hG ?_;clear hG;subst hE1;cases za.iTup with | mk ep np rp=>
  cases zb.iTup with | mk eq nq rq=>
  exact fun prog w E Q hq=>kv (op:=.Lt) ⟨_,ep,rfl⟩ ⟨_,eq,rfl⟩ F.slot_tuple_lt F.entry_tuple_lt (F.args_tuple_lt_2 _ _) (G9 _ _ _ _ _ _ _ _ _ _ _ _) ⟨ep,eq,rH .Lt kL hk8 rp rq da db hu ih,(fun x=>nomatch x),(rv rp rq (fun x y=>decide (x<y)) _ _ (nz _ _)).symm▸hq⟩ (by omega)
 | lst hk ih=>
  intro k hk8 A v u za zb da db hu;refine nn fun hG=>?_;obtain⟨k,hE1,da⟩:=xr da;refine hG ?_;clear hG;subst hE1;cases za.iLst with | mk ep np rp=>
  cases zb.iLst with | mk eq nq rq=>
  exact fun prog w E Q hq=>kv (op:=.Lt) ⟨_,ep,rfl⟩ ⟨_,eq,rfl⟩ A6 F.entry_list_lt (F.args_list_lt_2 _ _) (xk _ _ _ _ _ _ _ _ _ _ _ _) ⟨ep,eq,rH .Lt kL hk8 rp rq da db hu ih,(fun x=>nomatch x),(rv rp rq (fun x y=>decide (x<y)) _ _ (nz _ _)).symm▸hq⟩ (by omega)
theorem GB{s:Shared}{n:Nat}{a b:V}(hk:xM n a b):∀ (k:Nat),k≤8→∀ {A:Around} {v u:Value},VR s.heap X a v→VR s.heap X b u→V.data k a=true→V.data k b=true→A.units+(20+n)<cLine→tQ A s .Gt v u (pO a b):=by
 induction hk with
 | str=>intro k _ A v u za zb _ _ _;cases za.iStr;cases zb.iStr;exact fun prog w E Q hq=>P.gt_str hq
 | int=>intro k _ A v u za zb _ _ _;cases za.iInt;cases zb.iInt;exact fun prog w E Q hq=>P.gt_int hq
 | tup hk ih=>
  intro k hk8 A v u za zb da db hu;refine nn fun hG=>?_;obtain⟨k,hE1,da⟩:=xp da;refine hG ?_;clear hG;subst hE1;cases za.iTup with | mk ep np rp=>
  cases zb.iTup with | mk eq nq rq=>
  exact fun prog w E Q hq=>kv (op:=.Gt) ⟨_,ep,rfl⟩ ⟨_,eq,rfl⟩ F.slot_tuple_gt F.entry_tuple_gt (F.args_tuple_gt_2 _ _) (Ha _ _ _ _ _ _ _ _ _ _ _ _) ⟨ep,eq,rH .Gt pO hk8 rp rq da db hu ih,(fun x=>nomatch x),(rv rp rq (fun x y=>decide (x>y)) _ _ (qH _ _)).symm▸hq⟩ (by omega)
 | lst hk ih=>
  intro k hk8 A v u za zb da db hu;refine nn fun hG=>?_;obtain⟨k,hE1,da⟩:=xr da;refine hG ?_;clear hG;subst hE1;cases za.iLst with | mk ep np rp=>
  cases zb.iLst with | mk eq nq rq=>
  exact fun prog w E Q hq=>kv (op:=.Gt) ⟨_,ep,rfl⟩ ⟨_,eq,rfl⟩ F.slot_list_gt F.entry_list_gt (F.args_list_gt_2 _ _) (EU _ _ _ _ _ _ _ _ _ _ _ _) ⟨ep,eq,rH .Gt pO hk8 rp rq da db hu ih,(fun x=>nomatch x),(rv rp rq (fun x y=>decide (x>y)) _ _ (qH _ _)).symm▸hq⟩ (by omega)
end
section
variable{c:Cx}{vals:List V}{H:Hp}{EX:dK}{Q:V→List V→Hp→Prop}{a b:V}
theorem GD(ok:c.Ok)(ha:V.data 8 a=true)(hb:V.data 8 b=true)(hk:xM 4 a b)(q:Q (.bool (kL a b)) vals H):T2 c vals H a b (ez .Lt) VR Q EX:=fun s v u r z z'=>by
 have:=ok.units;exact Bw hk 8 (bo _) z z' ha hb (by exact uX this rfl) _ _ _ _ (a8.intro r (aN.refl _ _) (.bool _) q)
theorem GF(ok:c.Ok)(ha:V.data 8 a=true)(hb:V.data 8 b=true)(hk:xM 4 a b)(q:Q (.bool (pO a b)) vals H):T2 c vals H a b (ez .Gt) VR Q EX:=fun s v u r z z'=>by
 have:=ok.units;exact GB hk 8 (bo _) z z' ha hb (by exact uX this rfl) _ _ _ _ (a8.intro r (aN.refl _ _) (.bool _) q)
end
end
section
open PySem.W
noncomputable def cr{α:Type}(lt:Nat→Nat→Bool):KasT α→α
 | .ret a=>a
 | .ask i j k=>cr lt (k (lt i j))
theorem ie{α β:Type}{lt:Nat→Nat→Bool}{f:α→KasT β}:∀ t:KasT α,cr lt (t.bind f)=cr lt (f (cr lt t))
 | .ret _=>rfl
 | .ask i j k=>ie (k (lt i j))
section
variable{lt:Nat→Nat→Bool}
structure t5(lt:Nat→Nat→Bool):Prop where
 refl:∀ i,lt i i=false
 trans:∀ i j k,lt j i=false→lt k j=false→lt k i=false
 total:∀ i j,lt i j=true→lt j i=false
noncomputable abbrev pk(p:Array Nat)(i:Nat):Nat:=p.getD i 0
theorem uE{p:Array Nat}{i:Nat}:pk p i=(p[i]?).getD 0:=by simp[pk]
noncomputable def DZ(lt:Nat→Nat→Bool)(p:Array Nat)(n:Nat):Prop:=∀ i j,i≤j→j<n→lt (pk p j) (pk p i)=false
noncomputable def yY(lt:Nat→Nat→Bool)(p:Array Nat)(n:Nat):Prop:=∀ i j,i≤j→j<n→lt (pk p i) (pk p j)=false
theorem DZ.step(P:t5 lt){p:Array Nat}{n:Nat}(h:DZ lt p n)(h1:1≤n)(hn:lt (pk p n) (pk p (n-1))=false):DZ lt p (n+1):=fun i j hij hj=>by
 rcases ek j n with q | q
 ·exact h i j hij q
 ·obtain rfl:j=n:=by exact aq (aH [j,n] 373565710064147234882 tt hj) (aH [n,j] 91202565463605313 tt q)
  rcases ek i j with q' | q'
  ·exact P.trans _ _ _ (h i (j-1) (by exact iu q') (by exact aH [j-1,j] 373565989645109428291 tt (ag (aH [j] 81350941269557313 tt h1:1≤j)))) hn
  ·obtain rfl:i=j:=by exact aq (aH [i,j] 91202565463605313 tt hij) (aH [j,i] 91202565463605313 tt q')
   exact P.refl _
theorem yY.step(P:t5 lt){p:Array Nat}{n:Nat}(h:yY lt p n)(h1:1≤n)(hn:lt (pk p (n-1)) (pk p n)=false):yY lt p (n+1):=fun i j hij hj=>by
 rcases ek j n with q | q
 ·exact h i j hij q
 ·obtain rfl:j=n:=by exact aq (aH [j,n] 373565710064147234882 tt hj) (aH [n,j] 91202565463605313 tt q)
  rcases ek i j with q' | q'
  ·exact P.trans _ _ _ hn (h i (j-1) (by exact iu q') (by exact aH [j-1,j] 373565989645109428291 tt (ag (aH [j] 81350941269557313 tt h1:1≤j))))
  ·obtain rfl:i=j:=by exact aq (aH [i,j] 91202565463605313 tt hij) (aH [j,i] 91202565463605313 tt q')
   exact P.refl _
theorem J8(P:t5 lt){p:Array Nat}:DZ lt p 1:=fun i j hij hj=>by
 obtain rfl:i=j:=by exact aq (aH [i,j] 91202565463605313 tt hij) (aH [j,i] 91202565933367362 tt hj)
 exact P.refl _
theorem JQ(P:t5 lt){p:Array Nat}:yY lt p 1:=fun i j hij hj=>by
 obtain rfl:i=j:=by exact aq (aH [i,j] 91202565463605313 tt hij) (aH [j,i] 91202565933367362 tt hj)
 exact P.refl _
structure MF(lt:Nat→Nat→Bool)(p:Array Nat)(n f r:Nat):Prop where
 asc:DZ lt p r
 lo:n≤r
 hi:r≤n+f
 nx:r<n+f→lt (pk p r) (pk p (r-1))=true
theorem GV(P:t5 lt)(p:Array Nat)(f:Nat):∀ n:Nat,1≤n→DZ lt p n→MF lt p n f (cr lt (kas_asc p f n)):=by
 induction f with
 | zero=>exact fun n _ h=>⟨h,bo _,bo _,fun q=>(dh _ q).elim⟩
 | succ f ih=>
  intro n h1 h;show MF lt p n (f+1) (cr lt ((fun c:Bool=>if c=true then .ret n else kas_asc p f (n+1)) (lt (p.getD n 0) (p.getD (n-1) 0))))
  cases q:lt (p.getD n 0) (p.getD (n-1) 0)with
  | true=>exact⟨h,bo _,cy _ _,fun _=>q⟩
  | false=>
   have h2:=ih (n+1) (cN _) (h.step P h1 q);have e:=nJ n f;exact⟨h2.asc,bJ h2.lo,e▸h2.hi,fun w=>h2.nx (e.symm▸w)⟩
theorem qy{p:Array Nat}{i j:Nat}(hj:j≤p.size)(k:Nat):pk (kas_rev p i j) k=if i≤k∧k<j then pk p (i+j-1-k)else pk p k:=by
 rw[uE,kas_rev,getElem?_mirror_all hj]
 split<;>rw[uE]
theorem kX{p:Array Nat}{i j:Nat}:(kas_rev p i j).size=p.size:=mirror_size _ _ _ _
theorem jh{p:Array Nat}{i j:Nat}:(kas_rev p i j).Perm p:=mirror_perm _ _ _ _
theorem yY.rev{p:Array Nat}{n:Nat}(h:yY lt p n)(hn:n≤p.size):DZ lt (kas_rev p 0 n) n:=fun i j hij hj=>by
 rw[qy hn,qy hn,if_pos ⟨by exact bm _ _,by exact aH [j,n] 91202634183082050 tt hj⟩,if_pos ⟨by exact bm _ _,by exact bL hij hj⟩];exact h _ _ (by exact aH [i,j,0+n-1,0+n-1-i,0+n-1-j] 2482790538531978563280079432528796041871425 tt hij (su (0+n-1) i) (ag (aH [j,n,0+n-1] 1967477921478861988767830293610562 tt hj (su (0+n) 1):j≤(0+n-1)))) (by exact aH [0+n-1-i,0+n-1,n] 1967479151381465315717340422209601 tt (fL (0+n-1) i) (ag (aH [j,n] 405837662968850939970 tt hj:1≤(0+n))))
noncomputable def D5(lt:Nat→Nat→Bool)(p:Array Nat)(a n:Nat):Prop:=∀ i j,a≤i→i<n→a≤j→j<n→lt (pk p i) (pk p j)=false
theorem u9(P:t5 lt){p:Array Nat}{n:Nat}:D5 lt p (n+1-(0+1)) (n+1):=fun i j i1 i2 j1 j2=>by
 obtain rfl:i=j:=by exact aq (aH [i,n,n+1-(0+1),j] 41288937887662980974101362555484260432499289620546 tt i2 j1 (su (n+1) (0+1))) (aH [n+1-(0+1),i,j,n] 29779612493682078955030932546170647789870351646785 tt i1 j2 (su (n+1) (0+1)))
 exact P.refl _
theorem yY.flat_rev{p:Array Nat}{n a:Nat}(P:t5 lt)(h:yY lt p n)(hf:D5 lt p a n)(hn:n≤p.size):yY lt (kas_rev p a n) n:=fun i j hij hj=>by
 have key:∀ i,i<n→∃ i',i'<n∧pk (kas_rev p a n) i=pk p i'∧lt (pk p i) (pk p i')=false∧lt (pk p i') (pk p i)=false:=fun i hi=>by
  rw[qy hn];by_cases q:a≤i∧i<n
  ·rw[if_pos q];exact⟨_,by exact aH [a,i,a+n-1-i,a+n-1,n] 11552161695289012103871734503152641391557869633 tt q.1 (ag (aH [i,n,a,a+n-1] 2291996475142010613659494712868930 tt hi (su (a+n) 1):i≤(a+n-1))) (ag (aH [i,n,a] 375861703849072918594 tt hi:1≤(a+n))),rfl,hf _ _ q.1 hi (by exact aH [i,n,a+n-1,a+n-1-i,a] 10169510081734339105933207288555065352387559490 tt hi (su (a+n-1) i) (su (a+n) 1)) (by exact aH [a,i,a+n-1-i,a+n-1,n] 11552161695289012103871734503152641391557869633 tt q.1 (ag (aH [i,n,a,a+n-1] 2291996475142010613659494712868930 tt hi (su (a+n) 1):i≤(a+n-1))) (ag (aH [i,n,a] 375861703849072918594 tt hi:1≤(a+n)))),hf _ _ (by exact aH [i,n,a+n-1,a+n-1-i,a] 10169510081734339105933207288555065352387559490 tt hi (su (a+n-1) i) (su (a+n) 1)) (by exact aH [a,i,a+n-1-i,a+n-1,n] 11552161695289012103871734503152641391557869633 tt q.1 (ag (aH [i,n,a,a+n-1] 2291996475142010613659494712868930 tt hi (su (a+n) 1):i≤(a+n-1))) (ag (aH [i,n,a] 375861703849072918594 tt hi:1≤(a+n)))) q.1 hi⟩
  ·rw[if_neg q];exact⟨i,hi,rfl,P.refl _,P.refl _⟩
 refine nn fun hG=>?_;obtain⟨i',_,ei,i1,i2⟩:=key i (by exact bL hij hj);refine hG ?_;clear hG;refine nn fun hG=>?_;obtain⟨j',_,ej,j1,j2⟩:=key j hj;refine hG ?_;clear hG;rw[ei,ej];exact P.trans _ _ _ j1 (P.trans _ _ _ (h i j hij hj) i2)
structure Bo(lt:Nat→Nat→Bool)(p:Array Nat)(n f:Nat)(r:Array Nat×Nat×Nat):Prop where
 pm:r.1.Perm p
 sz:r.1.size=p.size
 lo:n≤r.2.1
 hi:r.2.1≤n+f
 hq:r.2.2<r.2.1
 ds:yY lt r.1 r.2.1
 fl:D5 lt r.1 (r.2.1-(r.2.2+1)) r.2.1
theorem Bo.up{p p':Array Nat}{n f:Nat}{r:Array Nat×Nat×Nat}(h:Bo lt p' (n+1) f r)(e:p'.Perm p)(s:p'.size=p.size):Bo lt p n (f+1) r:=
 ⟨h.pm.trans e,h.sz.trans s,bJ h.lo,(nJ n f)▸h.hi,h.hq,h.ds,h.fl⟩
theorem JS(P:t5 lt)(f:Nat):∀ (p:Array Nat) (n q:Nat),1≤n→q<n→n+f≤p.size→yY lt p n→D5 lt p (n-(q+1)) n→Bo lt p n f (cr lt (kas_desc f p n q)):=by
 induction f with
 | zero=>exact fun p n q h1 hq hs h hf=>⟨ga _,rfl,bo _,bo _,hq,h,hf⟩
 | succ f ih=>
  intro p n q h1 hq hs h hf;have hs':n+1+f≤p.size:=(nJ n f).symm▸hs;show Bo lt p n (f+1) (cr lt ((fun c:Bool=>if c=true then (if q>0 then kas_desc f (kas_rev p (n-(q+1)) n) (n+1) 0 else kas_desc f p (n+1) 0)
   else .ask (p.getD (n-1) 0) (p.getD n 0) fun d=>if d=true then .ret (p,n,q)else kas_desc f p (n+1) (q+1)) (lt (p.getD n 0) (p.getD (n-1) 0))))
  cases e:lt (p.getD n 0) (p.getD (n-1) 0)with
  | true=>
   show Bo lt p n (f+1) (cr lt (if q>0 then kas_desc f (kas_rev p (n-(q+1)) n) (n+1) 0 else kas_desc f p (n+1) 0));by_cases hq0:q>0
   ·rw[if_pos hq0];have d:=yY.flat_rev P h hf (by exact aU (cy _ _) hs);have en:pk (kas_rev p (n-(q+1)) n) n=pk p n:=by rw[qy (by exact aH [n,f,p.size] 1832356595850064668131393 tt hs),if_neg (by omega)]
    have en1:lt (pk (kas_rev p (n-(q+1)) n) (n-1)) (pk p (n-1))=false∧lt (pk p (n-1)) (pk (kas_rev p (n-(q+1)) n) (n-1))=false:=by
     rw[qy (by exact aH [n,f,p.size] 1832356595850064668131393 tt hs),if_pos ⟨by exact aH [q,n,n-1,n-(q+1)] 8719961607173505422451980754864458176684621890 tt hq0 (su n 1) (ag (aH [q,n] 407053353393264263234 tt hq:(q+1)≤n)),by exact aH [n-1,n] 373565989645109428291 tt (ag (aH [n] 81350941269557313 tt h1:1≤n))⟩];exact⟨hf _ _ (by exact aH [n-(q+1)+n-1,n-(q+1)+n-1-(n-1),n-1,n-(q+1),n] 29870956209995276339463224658903811895158664855617 tt (su (n-(q+1)+n-1) (n-1)) (su ((n-(q+1))+n) 1) (ag (aH [n] 81350941269557313 tt h1:1≤n))) (by exact(dY (n-(q+1)+n-1) (n-1)).elim (fun q0=>aH [n-(q+1)+n-1,n-1,n-(q+1)+n-1-(n-1),n] 603491902462100110781633013015586537537 tt q0 (fL (n-(q+1)+n-1) (n-1)) (ag (aH [q,n] 106692721176443937910423618 tt hq hq0:1≤n))) (fun q0=>aH [q,n,n-1,n-(q+1)+n-1-(n-1),n-(q+1)+n-1,n-(q+1)] 577788754544618219343230619595005735336250075962046766798003307901569990722 tt hq0 (su n 1) (ag (aH [n-1,n-(q+1)+n-1] 91202565463605313 tt q0:(n-1)≤(n-(q+1)+n-1))) (ag (aH [q,n,n-(q+1)] 403578431462641243221048426562 tt hq hq0:1≤((n-(q+1))+n))) (ag (aH [q,n] 407053353393264263234 tt hq:(q+1)≤n)))) (by exact aH [q,n,n-1,n-(q+1)] 8719961607173505422451980754864458176684621890 tt hq0 (su n 1) (ag (aH [q,n] 407053353393264263234 tt hq:(q+1)≤n))) (by exact aH [n-1,n] 373565989645109428291 tt (ag (aH [n] 81350941269557313 tt h1:1≤n))),hf _ _ (by exact aH [q,n,n-1,n-(q+1)] 8719961607173505422451980754864458176684621890 tt hq0 (su n 1) (ag (aH [q,n] 407053353393264263234 tt hq:(q+1)≤n))) (by exact aH [n-1,n] 373565989645109428291 tt (ag (aH [n] 81350941269557313 tt h1:1≤n))) (by exact aH [n-(q+1)+n-1,n-(q+1)+n-1-(n-1),n-1,n-(q+1),n] 29870956209995276339463224658903811895158664855617 tt (su (n-(q+1)+n-1) (n-1)) (su ((n-(q+1))+n) 1) (ag (aH [n] 81350941269557313 tt h1:1≤n))) (by exact(dY (n-(q+1)+n-1) (n-1)).elim (fun q0=>aH [n-(q+1)+n-1,n-1,n-(q+1)+n-1-(n-1),n] 603491902462100110781633013015586537537 tt q0 (fL (n-(q+1)+n-1) (n-1)) (ag (aH [q,n] 106692721176443937910423618 tt hq hq0:1≤n))) (fun q0=>aH [q,n,n-1,n-(q+1)+n-1-(n-1),n-(q+1)+n-1,n-(q+1)] 577788754544618219343230619595005735336250075962046766798003307901569990722 tt hq0 (su n 1) (ag (aH [n-1,n-(q+1)+n-1] 91202565463605313 tt q0:(n-1)≤(n-(q+1)+n-1))) (ag (aH [q,n,n-(q+1)] 403578431462641243221048426562 tt hq hq0:1≤((n-(q+1))+n))) (ag (aH [q,n] 407053353393264263234 tt hq:(q+1)≤n))))⟩
    exact(ih _ _ 0 (cN _) (cN _) (kX.symm▸hs') (d.step P h1 (by rw[en];exact P.trans _ _ _ (P.total _ _ e) en1.1)) (u9 P)).up jh kX
   ·rw[if_neg hq0];exact(ih _ _ 0 (cN _) (cN _) hs' (h.step P h1 (P.total _ _ e)) (u9 P)).up (ga _) rfl
  | false=>
   show Bo lt p n (f+1) (cr lt ((fun d:Bool=>if d=true then .ret (p,n,q)else kas_desc f p (n+1) (q+1)) (lt (p.getD (n-1) 0) (p.getD n 0))))
   cases e':lt (p.getD (n-1) 0) (p.getD n 0)with
   | true=>exact⟨ga _,rfl,bo _,cy _ _,hq,h,hf⟩
   | false=>
    have f':D5 lt p (n+1-(q+1+1)) (n+1):=fun i j i1 i2 j1 j2=>by
     rcases ek i n with a | a<;>rcases ek j n with b | b
     ·exact hf i j (by exact aH [n+1-(q+1+1),i,n,q,n-(q+1)] 502683979819832638530477777990457966772367063339395711041 tt i1 (su (n+1) ((q+1)+1)) (ag (aH [q,n] 407053353393264263234 tt hq:(q+1)≤n))) a (by exact aH [n+1-(q+1+1),j,n,q,n-(q+1)] 502683979819832638530477777990457966772367063339395711041 tt j1 (su (n+1) ((q+1)+1)) (ag (aH [q,n] 407053353393264263234 tt hq:(q+1)≤n))) b
     ·obtain rfl:j=n:=by exact aq (aH [j,n] 373565710064147234882 tt j2) (aH [n,j] 91202565463605313 tt b)
      exact P.trans _ _ _ e' (hf i (j-1) (by exact aH [j+1-(q+1+1),i,j,q,j-(q+1)] 502683979819832638530477777990457966772367063339395711041 tt i1 (su (j+1) ((q+1)+1)) (ag (aH [q,j] 407053353393264263234 tt hq:(q+1)≤j))) a (by exact aH [j,j-1,j-(q+1),q] 6771099910084866358805499932729933889 tt (su j 1) (ag (aH [q,j] 407053353393264263234 tt hq:(q+1)≤j))) (by exact aH [j-1,j] 373565989645109428291 tt (ag (aH [j] 81350941269557313 tt h1:1≤j))))
     ·obtain rfl:i=n:=by exact aq (aH [i,n] 373565710064147234882 tt i2) (aH [n,i] 91202565463605313 tt a)
      exact P.trans _ _ _ (hf (i-1) j (by exact aH [i,i-1,i-(q+1),q] 6771099910084866358805499932729933889 tt (su i 1) (ag (aH [q,i] 407053353393264263234 tt hq:(q+1)≤i))) (by exact aH [i-1,i] 373565989645109428291 tt (ag (aH [i] 81350941269557313 tt h1:1≤i))) (by exact aH [i+1-(q+1+1),j,i,q,i-(q+1)] 502683979819832638530477777990457966772367063339395711041 tt j1 (su (i+1) ((q+1)+1)) (ag (aH [q,i] 407053353393264263234 tt hq:(q+1)≤i))) b) e
     ·obtain rfl:j=n:=by exact aq (aH [j,n] 373565710064147234882 tt j2) (aH [n,j] 91202565463605313 tt b)
      obtain rfl:i=j:=by exact aq (aH [i,j] 373565710064147234882 tt i2) (aH [j,i] 91202565463605313 tt a)
      exact P.refl _
    exact(ih p (n+1) (q+1) (cN _) (cf hq) hs' (h.step P h1 e') f').up (ga _) rfl
structure Bp(lt:Nat→Nat→Bool)(p:Array Nat)(nrem:Nat)(r:Nat×Array Nat):Prop where
 pm:r.2.Perm p
 sz:r.2.size=p.size
 lo:1≤r.1
 hi:r.1≤nrem
 asc:DZ lt r.2 r.1
theorem Bp.up{p p':Array Nat}{nrem:Nat}{r:Nat×Array Nat}(h:Bp lt p' nrem r)(e:p'.Perm p)(s:p'.size=p.size):Bp lt p nrem r:=⟨h.pm.trans e,h.sz.trans s,h.lo,h.hi,h.asc⟩
theorem zP(P:t5 lt){n nrem:Nat}{p:Array Nat}(h1:1≤n)(hn:n≤nrem)(hs:nrem≤p.size)(h:yY lt p n):Bp lt p nrem (cr lt (kas_tail3 n nrem p)):=by
 unfold kas_tail3;rw[ie];have A:=GV P (kas_rev p 0 n) (nrem-n) n h1 (h.rev (aU hn hs));exact⟨jh,kX,aU h1 A.lo,aU A.hi (eR (mY hn)),A.asc⟩
theorem tr(P:t5 lt){n nrem:Nat}{p:Array Nat}(h1:1≤n)(hn:n<nrem)(hs:nrem≤p.size)(h:yY lt p (n+1)):Bp lt p nrem (cr lt (kas_descPart n nrem p)):=by
 unfold kas_descPart;rw[ie];have en:=mY hn;have D:=JS P (nrem-(n+1)) p (n+1) 0 (cN _) (cN _) (aU (eR en) hs) h (u9 P);generalize cr lt (kas_desc (nrem-(n+1)) p (n+1) 0)=r at D ⊢;have hm:r.2.1≤nrem:=aU D.hi (eR en);have hs':nrem≤r.1.size:=D.sz.symm▸hs;by_cases hq:r.2.2>0
 ·rw[if_pos hq];exact(zP P (bL (bi _) D.hq) hm (kX.symm▸hs') (yY.flat_rev P D.ds D.fl (aU hm hs'))).up (jh.trans D.pm) (kX.trans D.sz)
 ·rw[if_neg hq];exact(zP P (bL (bi _) D.hq) hm hs' D.ds).up D.pm D.sz
theorem IA(P:t5 lt){nrem:Nat}{p:Array Nat}(h1:1≤nrem)(hs:nrem≤p.size):Bp lt p nrem (cr lt (kas_count nrem p)):=by
 unfold kas_count;rw[ie];refine nn fun hG=>?_;obtain⟨a,b,c,d⟩:=GV P p (nrem-1) 1 (bo _) (J8 P);refine hG ?_;clear hG;generalize cr lt (kas_asc p (nrem-1) 1)=n at a b c d;have hn:n≤nrem:=aU c (eR (mY h1));by_cases e1:(n == nrem)=true
 ·rw[if_pos e1];exact⟨ga _,rfl,b,hn,a⟩
 ·rw[if_neg e1];have hne:n≠nrem:=fun q=>e1 (eP.mpr q);have hlt:=sT hn hne;have hd:=d (eg hlt (eR (mY h1).symm));by_cases e2:n>1
  ·rw[if_pos e2];show Bp lt p nrem (cr lt ((fun c:Bool=>if c=true then .ret (n,p)else kas_descPart n nrem (kas_rev p 0 n)) (lt (p.getD 0 0) (p.getD (n-1) 0))))
   cases e3:lt (p.getD 0 0) (p.getD (n-1) 0)with
   | true=>exact⟨ga _,rfl,b,hn,a⟩
   | false=>
    have fl:D5 lt p 0 n:=fun i j i1 i2 j1 j2=>P.trans _ _ _ (a j (n-1) (by exact iu j2) (by exact aH [n-1,n] 373565989645109428291 tt (ag (aH [n] 81350941269557314 tt e2:1≤n)))) (P.trans _ _ _ e3 (a 0 i (by exact aH [i] 81069466292584513 tt i1) (by exact aH [i,n] 91202634183082050 tt i2)));have dsc:yY lt p n:=fun i j hij hj=>fl i j (by exact bm _ _) (by exact bL hij hj) (by exact bm _ _) hj;have d2:=(yY.flat_rev P dsc fl (by exact aH [nrem,p.size,n,nrem-1] 1775003214829287091022705561022447628582977 tt hs c (ag (aH [nrem] 81350941269557313 tt h1:1≤nrem)))).step P (by exact aH [n] 81350941269557313 tt b) (by
     rw[qy (by exact aH [nrem,p.size,n,nrem-1] 1775003214829287091022705561022447628582977 tt hs c (ag (aH [nrem] 81350941269557313 tt h1:1≤nrem))),qy (by exact aH [nrem,p.size,n,nrem-1] 1775003214829287091022705561022447628582977 tt hs c (ag (aH [nrem] 81350941269557313 tt h1:1≤nrem))),if_pos ⟨by exact bm _ _,by exact aH [n-1,n] 373565989645109428291 tt (ag (aH [n] 81350941269557314 tt e2:1≤n))⟩,if_neg (by lia)];refine P.trans _ _ _ (P.total _ _ hd) (fl _ _ (by exact bm _ _) (by exact aH [0+n-1-(n-1),0+n-1,n] 1967479151381465315717340422209601 tt (fL (0+n-1) (n-1)) (ag (aH [n] 332050686674003558466 tt e2:1≤(0+n)))) (by exact bm _ _) (by exact aH [n-1,n] 373565989645109428291 tt (ag (aH [n] 81350941269557314 tt e2:1≤n)))))
    exact(tr P b hlt (kX.symm▸hs) d2).up jh kX
  ·rw[if_neg e2];obtain rfl:n=1:=by exact aq (aH [n] 595605723719925829 tt e2) (aH [n] 81350941269557313 tt b)
   have d1:yY lt p 1:=JQ P;exact tr P (by exact aH [] 562303232 tt) (by exact sT h1 hne) hs (d1.step P (by exact aH [] 562303232 tt) (P.total _ _ hd))
theorem HO(P:t5 lt)(p:Array Nat)(k:Nat)(h:DZ lt p k)(f:Nat):∀ l r:Nat,l≤r→r≤k→r-l≤f→(∀ i,i<l→lt (pk p k) (pk p i)=false)→(∀ i,r≤i→i<k→lt (pk p k) (pk p i)=true)→
  cr lt (kas_place p k f l r)≤k∧(∀ i,i<cr lt (kas_place p k f l r)→lt (pk p k) (pk p i)=false)∧∀ i,cr lt (kas_place p k f l r)≤i→i<k→lt (pk p k) (pk p i)=true:=by
 induction f with
 | zero=>
  intro l r h1 h2 h3 a b;obtain rfl:l=r:=by exact aq (aH [l,r] 91202565463605313 tt h1) (aH [r-l,r,l] 481579227468281326864400646209 tt h3 (su r l))
  exact⟨h2,a,b⟩
 | succ f ih=>
  intro l r h1 h2 h3 a b;unfold kas_place;by_cases e:l≥r
  ·rw[if_pos e];obtain rfl:l=r:=by exact aq h1 e
   exact⟨h2,a,b⟩
  ·rw[if_neg e];unfold cr
   cases q:lt (p.getD k 0) (p.getD ((l+r)/2) 0)with
   | true=>
    simp only[dG]
    refine ih l ((l+r)/2) (by exact aH [r,l,(l+r)/2] 517112529510600961798194131139818422340 tt e (dv (l+r))) (by exact aH [r,k,l,(l+r)/2] 113954099401875209277711686910589957011669121 tt h2 e (mr (l+r) 2)) (by exact aH [r-l,f,(l+r)/2,l,r,(l+r)/2-l] 8459750451774353099987523476363549066931827023260986717642948673 tt h3 (mr (l+r) 2) (su r l) (ag (aH [r,l,(l+r)/2] 517112529510600961798194131139818422340 tt e (dv (l+r)):l≤((l+r)/2)))) a fun i i1 i2=>?_
    cases w:lt (pk p k) (pk p i)with
    | true=>rfl
    | false=>
     have:=P.trans _ _ _ (h _ i i1 i2) w;rw[show lt (pk p k) (pk p ((l+r)/2))=true from q]at this;cases this
   | false=>
    simp only[aW,cj]
    refine ih ((l+r)/2+1) r (by exact aH [r,l,(l+r)/2] 384271516364641857867665557345274953796 tt e (mr (l+r) 2)) h2 (by exact aH [r-l,f,l,r,(l+r)/2,r-((l+r)/2+1)] 141931060671665747856269809168139830291316829081492666190152941203095617 tt h3 (dv (l+r)) (su r l) (ag (aH [r,l,(l+r)/2] 384271516364641857867665557345274953796 tt e (mr (l+r) 2):(((l+r)/2)+1)≤r))) (fun i hi=>?_) b;exact P.trans _ _ _ (h i ((l+r)/2) (by exact cR hi) (by exact aH [r,k,l,(l+r)/2] 113954184472466939512327552754241814953721985 tt h2 e (mr (l+r) 2))) q
theorem w7{p:Array Nat}{src d:Nat}(hs:src<p.size)(hd:d≤src)(k:Nat):pk (bubble p src d) k=if k=src-d then pk p src else if src-d<k∧k≤src then pk p (k-1)else pk p k:=by
 rw[uE,getElem?_bubble hs d hd];simp only[uE]
 split
 ·rfl
 ·split<;>rfl
theorem GR(P:t5 lt):∀ (f:Nat) (p:Array Nat) (k:Nat),k+f≤p.size→DZ lt p k→(cr lt (kas_bin f p k)).Perm p∧DZ lt (cr lt (kas_bin f p k)) (k+f)
 | 0,p,k,_,h=>⟨ga _,h⟩
 | f+1,p,k,hs,h=>by
  unfold kas_bin;rw[ie];refine nn fun hG=>?_;obtain⟨a,b,c⟩:=HO P p k h k 0 k (bi _) (bo _) (by exact bo _) (fun i hi=>absurd hi (jc _)) (fun i h1 h2=>absurd h1 (bU.mpr h2));refine hG ?_;clear hG;generalize cr lt (kas_place p k k 0 k)=l at a b c;have hz:(bubble p k (k-l)).size=p.size:=bubble_size _ _ _;have key:DZ lt (bubble p k (k-l)) (k+1):=fun i j hij hj=>by
   rw[w7 (by exact bL (cy _ _) hs) (by exact aH [k-l,k] 91202565463605313 tt (fL k l)),w7 (by exact aH [k,f,p.size] 1832357748771569274978369 tt hs) (by exact aH [k-l,k] 91202565463605313 tt (fL k l))];have e:k-(k-l)=l:=by exact aq (aH [k,k-l,l,k-(k-l)] 1982689719912676350957665024737345 tt (su k l) (ag (aH [k-l,k] 91202565463605313 tt (fL k l):(k-l)≤k))) (aH [k,k-(k-l),k-l,l] 1658171166263620570163953456382017 tt (su k (k-l)) (ag (aH [l,k] 91202565463605313 tt a:l≤k)))
   refine e.symm▸?_;by_cases i1:i=l
   ·rw[if_pos i1];by_cases j1:j=l
    ·rw[if_pos j1];exact P.refl _
    ·rw[if_neg j1,if_pos ⟨by exact(ci j1).elim (fun q0=>aH [i,j,l] 105793444751027796412555514036092993 tt hij i1 q0) (fun q0=>aH [l,j] 91202634183082050 tt q0),by exact cR hj⟩];exact P.total _ _ (c (j-1) (by exact(ci j1).elim (fun q0=>aH [i,j,l,j-1] 147331740391143903176461891125903425 tt hij i1 q0) (fun q0=>aH [l,j,j-1] 480341289423550149558893805634 tt q0 (su j 1))) (by exact(ci j1).elim (fun q0=>aH [i,j,l,j-1,k] 168425525607104154681704626007310401 tt hij i1 q0) (fun q0=>aH [j,k,j-1] 1653101801925528466494707744112706 tt hj (ag (aH [l,j] 99365339788214338 tt q0:1≤j)))))
   ·rw[if_neg i1];by_cases i2:l<i∧i≤k
    ·rw[if_pos i2,if_neg (by exact fun q0=>aH [i,j,l] 674999067096070790572000094811324481 tt hij i2.1 q0),if_pos ⟨by exact aH [i,j,l] 98532545673703136424886337 tt hij i2.1,by exact cR hj⟩];exact h _ _ (by exact aH [i,j,j-1,i-1] 2128896876427063093026502484973053000286273 tt hij (su j 1) (ag (aH [l,i] 99365339788214338 tt i2.1:1≤i))) (by exact aH [j,k,j-1] 1653101801925528466494707744112706 tt hj (ag (aH [i,j,l] 106692721169125588515946561 tt hij i2.1:1≤j)))
    ·rw[if_neg i2];by_cases j1:j=l
     ·rw[if_pos j1];exact b i (by exact(ci i1).elim (fun q0=>aH [i,l] 91202634183082050 tt q0) (fun q0=>aH [i,j,l] 125913595039466858700623856664576065 tt hij j1 q0))
     ·rw[if_neg j1];by_cases j2:l<j∧j≤k
      ·rw[if_pos j2];exact h _ _ (by lia) (by exact aH [j,k,j-1] 1653101801925528466494707744112706 tt hj (ag (aH [l,j] 99365339788214338 tt j2.1:1≤j)))
      ·rw[if_neg j2];exact h _ _ hij (by lia)
  obtain⟨x,y⟩:=GR P f (bubble p k (k-l)) (k+1) (by exact aH [k,f,p.size,(bubble p k (k-l)).size] 38580925654491101537465599927122114117697 tt hs hz) key;exact⟨x.trans (bubble_perm _ _ _),by lia⟩
theorem yd(P:t5 lt){n:Nat}(hn:1≤n):(cr lt (kas_sort n)).Perm (cM (aG n))∧DZ lt (cr lt (kas_sort n)) n:=by
 unfold kas_sort;rw[ie];have C:=IA P hn (p:=cM (aG n)) (by simp);generalize cr lt (kas_count n (cM (aG n)))=r at C ⊢;obtain⟨m,p⟩:=r;obtain⟨a2,a3,a4,a5,a6⟩:=C;have hsz:p.size=n:=a3.trans (by simp);by_cases e:m<n
 ·rw[if_pos e];have hm:max m 1=m:=by exact aq (aH [max m 1,m] 91202565463605315 tt (Nat.max_eq_left (aH [m] 81350941269557313 tt a4:1≤m))) (aH [m,max m 1] 91202565463605313 tt (Nat.le_max_left m 1))
  rw[hm];obtain⟨x,y⟩:=GR P (n-m) p m (by exact aH [p.size,n,n-m,m] 1329052446728900309998865258385411 tt hsz (ag (aH [m,n] 91202565463605314 tt e:m≤n))) a6;exact⟨x.trans a2,by rw[show n=m+(n-m) by exact aq (aH [n,n-m,m] 1539496104242238869995585 tt (su n m)) (aH [n-m,m,n] 1832647149375612702949443 tt (ag (aH [m,n] 91202565463605314 tt e:m≤n)))];rw[show m+(n-m)-m=n-m by exact aq (aH [m+(n-m)-m,m,n-m] 1832356595726581137145923 tt (ag (aH [m,n,n-m] 1967398703866410172934330696859714 tt e (su n m):m≤(m+(n-m))))) (aH [m,n-m,m+(n-m)-m] 1837078961650898875449409 tt (su (m+(n-m)) m))];exact y⟩
 ·rw[if_neg e];obtain rfl:m=n:=by exact aq a5 (iH e)
  exact⟨a2,a6⟩
end
end
section
open PySem.W
noncomputable def wt{α:Type}(n:Nat)(K:α→Prop):KasT α→Prop
 | .ret a=>K a
 | .ask i j k=>i<n∧j<n∧∀ b,wt n K (k b)
theorem wt.bind{α β:Type}{n:Nat}{K:α→Prop}{L:β→Prop}{f:α→KasT β}(h:∀ a,K a→wt n L (f a)):∀ t:KasT α,wt n K t→wt n L (t.bind f)
 | .ret a,k=>h a k
 | .ask i j k,⟨a,b,q⟩=>⟨a,b,fun x=>wt.bind h (k x) (q x)⟩
noncomputable def Bb(n:Nat)(p:Array Nat):Prop:=∀ i,pk p i<n
section
variable{n:Nat}
theorem Bb.of_perm{p q:Array Nat}(h:Bb n p)(hn:0<n)(hp:q.Perm p):Bb n q:=fun i=>by
 rw[uE]
 cases e:q[i]? with
 | none=>exact hn
 | some x=>
  have m:x∈q:=Array.mem_of_getElem? e;have m':x∈p:=hp.mem_iff.mp m;refine nn fun hG=>?_;obtain⟨j,hj,e⟩:=Array.mem_iff_getElem.mp m';refine hG ?_;clear hG;have:=h j;rw[uE,mu hj,e]at this;exact this
theorem yt{p:Array Nat}(h:Bb n p):∀ (f m:Nat),wt n (fun _=>True) (kas_asc p f m)
 | 0,_=>trivial
 | f+1,m=>⟨h _,h _,fun b=>by
  cases b
  ·exact yt h f (m+1)
  ·exact trivial⟩
theorem rK(hn:0<n):∀ (f:Nat) (p:Array Nat) (m q:Nat),Bb n p→wt n (fun r=>Bb n r.1) (kas_desc f p m q)
 | 0,p,m,q,h=>h
 | f+1,p,m,q,h=>⟨h _,h _,fun b=>by
  cases b
  ·refine⟨h _,h _,fun b=>?_⟩;cases b
   ·exact rK hn f p (m+1) (q+1) h
   ·exact h
  ·show wt n _ (if true=true then _ else _);rw[if_pos rfl]
   split
   ·exact rK hn f _ (m+1) 0 (h.of_perm hn jh)
   ·exact rK hn f p (m+1) 0 h⟩
theorem xE(hn:0<n){p:Array Nat}(h:Bb n p)(m r:Nat):wt n (fun r:Nat×Array Nat=>Bb n r.2) (kas_tail3 m r p):=by
 unfold kas_tail3;refine wt.bind (K:=fun _=>True) (fun _ _=>?_) _ (yt (h.of_perm hn jh) _ _);show Bb n (kas_rev p 0 m);exact h.of_perm hn jh
theorem rT(hn:0<n){p:Array Nat}(h:Bb n p)(m r:Nat):wt n (fun r=>Bb n r.2) (kas_descPart m r p):=by
 refine wt.bind (fun a ha=>?_) _ (rK hn _ _ _ _ h)
 split
 ·exact xE hn (ha.of_perm hn jh) _ _
 ·exact xE hn ha _ _
theorem FE(hn:0<n){p:Array Nat}(h:Bb n p)(r:Nat):wt n (fun r=>Bb n r.2) (kas_count r p):=by
 refine wt.bind (fun a _=>?_) _ (yt h _ _)
 split
 ·exact h
 ·split
  ·refine⟨h _,h _,fun b=>?_⟩;cases b
   ·exact rT hn (h.of_perm hn jh) _ _
   ·exact h
  ·exact rT hn h _ _
theorem sH{p:Array Nat}(h:Bb n p)(k:Nat):∀ (f l r:Nat),wt n (fun _=>True) (kas_place p k f l r)
 | 0,_,_=>trivial
 | f+1,l,r=>by
  unfold kas_place
  split
  ·exact trivial
  ·refine⟨h _,h _,fun b=>?_⟩;cases b
   ·exact sH h k f _ _
   ·exact sH h k f _ _
theorem DP(hn:0<n):∀ (f:Nat) (p:Array Nat) (k:Nat),Bb n p→wt n (fun _=>True) (kas_bin f p k)
 | 0,_,_,_=>trivial
 | f+1,p,k,h=>wt.bind (fun _ _=>DP hn f _ _ (h.of_perm hn (bubble_perm _ _ _))) _ (sH h k _ _ _)
theorem IM(hn:0<n):wt n (fun _=>True) (kas_sort n):=by
 have low:Bb n (cM (aG n)):=fun i=>by
  rw[uE]
  cases e:(cM (aG n))[i]? with
  | none=>exact hn
  | some x=>
   have:=Array.mem_of_getElem? e;simpa using this
 refine wt.bind (fun a ha=>?_) _ (FE hn low n)
 split
 ·exact DP hn _ _ _ ha
 ·exact trivial
theorem kasEval_wpB{α:Type}{lt:Nat→Nat→Bool}{cmp:Nat→Nat→(Bool→Shared→Prop)→Shared→Prop}{s:Shared}(hc:∀ i j C,i<n→j<n→C (lt i j) s→cmp i j C s){K:α→Prop}{Q:α→Shared→Prop}(t:KasT α):wt n K t→Q (cr lt t) s→t.kasWp cmp Q s:=
 t.rec (fun _ _ h=>h) fun i j k ih b h=>hc i j _ b.1 b.2.1 (ih (lt i j) (b.2.2 _) h)
end
noncomputable def srt(lt:Nat→Nat→Bool)(n:Nat):List Nat:=if n<2 then aG n else (cr lt (kas_sort n)).toList
noncomputable def Grows(h h':Heap):Prop:=∀ b o,h.get? b=some o→h'.get? b=some o
noncomputable def uZ(prog:dt)(w:World)(A:Around)(h:Heap)(vs:List Value)(lt:Nat→Nat→Bool):Prop:=
 ∀ s (Q:SortKind→Shared→Prop) E,Grows h s.heap→(∀ κ,(∀ s' i j (C:Bool→Shared→Prop) E',Grows h s'.heap→i<vs.length→j<vs.length→C (lt i j) s'→wpAny (model prog w) A (keyLt' κ (vs.getD i .none) (vs.getD j .none)) C E' s')→Q κ s)→
  wpAny (model prog w) A (keyKind' vs.toArray) Q E s
section
variable{prog:dt}{w:World}{A:Around}{E:Value→Shared→Prop}{s:Shared}
theorem BZ(vs:List Value)(h:vs.length<2):(vs.toArray.zip vs.toArray).map (·.2)=cM ((aG vs.length).map fun i=>vs.getD i bx):=by
 cases vs with
 | nil=>simp
 | cons x r=>
  cases r with
  | nil=>simp
  | cons y r=>exact(jc _ (Nat.lt_of_succ_lt_succ (Nat.lt_of_succ_lt_succ h))).elim
theorem B0{h₀:Heap}{a:Addr}{vs:List Value}{n:Nat}{lt:Nat→Nat→Bool}(P:lD→Shared→Prop)(K:2≤vs.length→uZ prog w A h₀ vs lt)(ha:∀ o,h₀.get? a≠some o)(hg:Grows h₀ s.heap)(ho:s.heap.get? a=some (seqObj "list" vs.toArray n))(h64:vs.length<64)
  (h:∀ h' c,Grows h₀ h'→h'.get? a=some (seqObj "list" (cM ((srt lt vs.length).map fun i=>vs.getD i bx)) c)→P (.done (.ret .none)) { s with heap:=h' }):
  wpAny (model prog w) A (Builtin.«list.sort» ⟨[.ref a],[]⟩) P E s:=by
 have s1:=b8 s.heap a (bR fun _=>(#[]:Array Value));obtain⟨e1,ho1⟩:∃ e1,(s.heap.update a (bR fun _=>(#[]:Array Value))).get? a=some (seqObj "list" #[] e1):=⟨_,A4 ho fun _=> #[]⟩
 have g1:Grows h₀ (s.heap.update a (bR fun _=>(#[]:Array Value))):=fun b o e=>s1.extBut b o (fun q=>ha o (q▸e)) (hg b o e);have g3:Grows h₀ (((s.heap.update a (bR fun _=>(#[]:Array Value))).push (seqObj "tuple" vs.toArray 0)).push (seqObj "list" #[] 0)):=fun b o e=>al _ (al _ (g1 b o e));have ho3:(((s.heap.update a (bR fun _=>(#[]:Array Value))).push (seqObj "tuple" vs.toArray 0)).push (seqObj "list" #[] 0)).get? a=some (seqObj "list" #[] e1):=al _ (al _ ho1);rw[list_sort_plain];refine aa (fX ho rfl ?_);refine aa (d0 ho rfl ?_ (by exact uW h64 rfl) (bi _));refine aa (Kn ho1 rfl ?_);refine aa (nH ?_ (by exact uW h64 rfl));refine aa (pf ?_ (bi _));refine aC ?_;show wpAny (model prog w) A _ P E { s with heap:=((s.heap.update a (bR fun _=>(#[]:Array Value))).push (seqObj "tuple" vs.toArray 0)).push (seqObj "list" #[] 0) }
 dsimp only
 by_cases hn2:vs.toArray.size<2
 ·refine wy hn2 ?_;rw[if_pos hn2];refine aa (af ?_);rw[StateT.run_pure];refine aa (af ?_)
  dsimp only
  have hout:(arrOf (SortSt.mk' general' (vs.toArray.zip vs.toArray) #[] 7 none)).map (·.2)=cM ((srt lt vs.length).map fun i=>vs.getD i bx):=by
   unfold srt;rw[if_pos (by trivial)];exact BZ vs hn2
  have hsz:(cM ((srt lt vs.length).map fun i=>vs.getD i bx)).size≤av:=by
   rw[← hout];show ((vs.toArray.zip vs.toArray).map (·.2)).size≤_;simp only[Array.size_map,Array.size_zip,aI,Nat.min_self,Km]
   exact aH [vs.length] 20769187474038880075792865834303554 tt h64
  refine hout.symm▸?_;have s2:=b8 (((s.heap.update a (bR fun _=>(#[]:Array Value))).push (seqObj "tuple" vs.toArray 0)).push (seqObj "list" #[] 0)) a (bR fun _=>cM ((srt lt vs.length).map fun i=>vs.getD i bx));obtain⟨c2,hc2⟩:∃ c2,((((s.heap.update a (bR fun _=>(#[]:Array Value))).push (seqObj "tuple" vs.toArray 0)).push (seqObj "list" #[] 0)).update a (bR fun _=>cM ((srt lt vs.length).map fun i=>vs.getD i bx))).get? a=some (seqObj "list" (cM ((srt lt vs.length).map fun i=>vs.getD i bx)) c2):=⟨_,A4 ho3 fun _=>cM ((srt lt vs.length).map fun i=>vs.getD i bx)⟩
  refine aa (Kn ho3 rfl ?_);refine aa (d0 ho3 rfl ?_ (bi _) (cQ hsz));simp only[fZ,aW,cj]
  exact af (h _ c2 (fun b o e=>s2.extBut b o (fun q=>ha o (q▸e)) (g3 b o e)) hc2)
 ·have h2:2≤vs.length:=by rw[aI]at hn2;exact iH hn2
  refine wn hn2 ?_;rw[if_neg hn2];refine aa (K h2 _ _ _ g3 fun κ hκ=>?_);have run:(kas_sort vs.length).kasWp (kas_ask prog w A κ vs) (fun p s'=>p=cr lt (kas_sort vs.length)∧s'= { s with heap:=((s.heap.update a (bR fun _=>(#[]:Array Value))).push (seqObj "tuple" vs.toArray 0)).push (seqObj "list" #[] 0) }) { s with heap:=((s.heap.update a (bR fun _=>(#[]:Array Value))).push (seqObj "tuple" vs.toArray 0)).push (seqObj "list" #[] 0) }:=
   kasEval_wpB (lt:=lt) (n:=vs.length) (fun i j C hi hj hC=>hκ _ i j C _ g3 hi hj hC) _ (IM (by exact bJ h2)) ⟨rfl,rfl⟩
  refine aa (aK (kat_run (Q:=fun st' s'=>∃ p:Array Nat,p.size=vs.length∧arrOf st'=p.map (kas_item (vs.toArray.zip vs.toArray))∧failedOf st'=none∧p=cr lt (kas_sort vs.length)∧s'= { s with heap:=((s.heap.update a (bR fun _=>(#[]:Array Value))).push (seqObj "tuple" vs.toArray 0)).push (seqObj "list" #[] 0) })
   rfl h2 h64 (fun p' st' s' a1 a2 a3 a4=>⟨p',a1,a2,a3,a4⟩) run) ?_ fun _ _ e=>e)
  rintro ⟨⟨⟩,st'⟩ s' ⟨p,hp,har,hf,rfl,rfl⟩
  dsimp only
  have hout:=kat_snds rfl har;have hsz:(cM ((cr lt (kas_sort vs.length)).toList.map fun i=>vs.getD i bx)).size=vs.length:=by rw[aI,an,Array.length_toList,hp]
  refine hout.symm▸?_;have s2:=b8 (((s.heap.update a (bR fun _=>(#[]:Array Value))).push (seqObj "tuple" vs.toArray 0)).push (seqObj "list" #[] 0)) a (bR fun _=>cM ((cr lt (kas_sort vs.length)).toList.map fun i=>vs.getD i bx));obtain⟨c2,hc2⟩:∃ c2,((((s.heap.update a (bR fun _=>(#[]:Array Value))).push (seqObj "tuple" vs.toArray 0)).push (seqObj "list" #[] 0)).update a (bR fun _=>cM ((cr lt (kas_sort vs.length)).toList.map fun i=>vs.getD i bx))).get? a=some (seqObj "list" (cM ((cr lt (kas_sort vs.length)).toList.map fun i=>vs.getD i bx)) c2):=⟨_,A4 ho3 fun _=>cM ((cr lt (kas_sort vs.length)).toList.map fun i=>vs.getD i bx)⟩
  refine aa (Kn ho3 rfl ?_);refine aa (d0 ho3 rfl ?_ (bi _) (aU (eR hsz) (by exact uW h64 rfl)));refine hf.symm▸?_;simp only[fZ,aW,cj]
  have es:srt lt vs.length=(cr lt (kas_sort vs.length)).toList:=by unfold srt;rw[if_neg (by exact aH [vs.length] 613619984790716481 tt h2)]
  rw[← es]at hc2 s2;refine es▸?_;exact af (h _ c2 (fun b o e=>s2.extBut b o (fun q=>ha o (q▸e)) (g3 b o e)) hc2)
end
end
section
open PySem.W PySem.SeqAt
noncomputable def my(l:List V)(i j:Nat):Bool:=kL (l.getD i (l.headD .none)) (l.getD j (l.headD .none))
theorem uf{l:List V}{i j:Nat}(hi:i<l.length)(hj:j<l.length):my l i j=kL (l.getD i .none) (l.getD j .none):=by
 unfold my;simp only[cP,aD hi,aD hj,tK]
noncomputable def m0(l:List V):List V:=(srt (my l) l.length).map fun i=>l.getD i .none
noncomputable def Ao(l:List V):Prop:=(∀ a∈l,∃ k,a= .int k)∨(∀ a∈l,∃ x y,a= .tup [.str x, .str y])∨(∀ a∈l,∃ (ad:Addr) (m:List Str),a= .lst ad (m.map .str)∧m.all bH=true)
section
variable{prog:dt}{w:World}{A:Around}{s:Shared}{h:Heap}{X:List Addr}
theorem fJ{l:List V}{vs:List Value}(z:dP h X l vs){i:Nat}(hi:i<vs.length):VR h X (l.getD i .none) (vs.getD i .none):=by
 refine nn fun hG=>?_;obtain⟨v,hv,zv⟩:=z.get (ge (by rw[z.length];exact hi));refine hG ?_;clear hG;have e:vs.getD i .none=v:=by rw[cP,hv];rfl
 rw[e];exact zv
theorem Ff{l:List V}{vs:List Value}(z:dP h X l vs)(hk:∀ a∈l,∃ k,a= .int k)(h2:2≤vs.length):uZ prog w A h vs (my l):=by
 have ars:∀ {l:List V} {vs:List Value},dP h X l vs→(∀ a∈l,∃ k,a= .int k)→∃ ns,IntsAre vs ns:=by
  intro l
  induction l with
  | nil=>intro vs z _;cases z.iNil;exact⟨[], .nil⟩
  | cons a l ih=>
   intro vs z hk
   cases z.iCons with
   | mk za zs=>
    obtain⟨k,rfl⟩:=hk a ah;obtain⟨ns,i⟩:=ih zs fun b hb=>hk b (ai _ hb);cases za.iInt;exact⟨k::ns, .cons _ _ i⟩
 obtain⟨ns,I⟩:=ars z hk;intro s Q E g hq;obtain⟨v₁,v₂,rest,rfl⟩:∃ v₁ v₂ rest,vs=v₁::v₂::rest:=N1 h2;refine wq (keyKind_ints I) ?_;refine af (hq _ fun s' i j C E' g' hi hj hC=>?_);have zi:=fJ z hi;have zj:=fJ z hj;obtain⟨ki,ei⟩:=hk _ (aE (ge (l:=l) (by rw[z.length];exact hi)));obtain⟨kj,ej⟩:=hk _ (aE (ge (l:=l) (by rw[z.length];exact hj)));rw[uf (by rw[z.length];exact hi) (by rw[z.length];exact hj)]at hC;rw[ei]at zi hC;rw[ej]at zj hC;generalize (v₁::v₂::rest).getD i .none=vi at zi;generalize (v₁::v₂::rest).getD j .none=vj at zj;cases zi.iInt;cases zj.iInt;rw[keyLt'_oneType];exact oneLt_int hC
theorem Cr{l:List V}{vs:List Value}(z:dP h X l vs)(hk:∀ a∈l,∃ x y,a= .tup [.str x, .str y])(h2:2≤vs.length):uZ prog w A h vs (my l):=by
 intro s Q E g hq;have tups:∀ {l:List V} {vs:List Value},dP h X l vs→(∀ a∈l,∃ x y,a= .tup [.str x, .str y])→∃ fs,KatTups s.heap vs fs∧fs.length=vs.length∧∀ f∈fs,∃ x t,f= .str x t:=by
  intro l
  induction l with
  | nil=>intro vs z _;cases z.iNil;exact⟨[],trivial,rfl,fun _ h=>nomatch h⟩
  | cons a l ih=>
   intro vs z hk
   cases z.iCons with
   | mk za zs=>
    refine nn fun hG=>?_;obtain⟨x,y,hE1⟩:=hk a ah;refine hG ?_;clear hG;subst hE1;refine nn fun hG=>?_;obtain⟨fs,i,e,k⟩:=ih zs fun b hb=>hk b (ai _ hb);refine hG ?_;clear hG
    cases za.iTup with
    | mk ea na ra=>
     cases ra.iCons with
     | mk z1 z2=>
      cases z1.iStr with
      | mk _ t=>
       refine⟨.str x t::fs,KatTups.cons (g _ _ ea) rfl rfl rfl i,by simp[e],fun f hf=>?_⟩;rcases aF.mp hf with e | hf
       ·exact⟨x,t,e⟩
       ·exact k f hf
 refine nn fun hG=>?_;obtain⟨fs,kt,el,hfs⟩:=tups z hk;refine hG ?_;clear hG;refine kat_kind (T:=.type "str") kt (by exact aH [vs.length,fs.length] 106390563500921081475629121 tt h2 el) (fun v hv=>?_) (by decide) (hq _ fun s' i j C E' g' hi hj hC=>?_)
 ·refine nn fun hG=>?_;obtain⟨x,t,hE1⟩:=hfs v hv;refine hG ?_;clear hG;subst hE1;exact Looks.of_pure rfl
 have zi:=fJ z hi;have zj:=fJ z hj;refine nn fun hG=>?_;obtain⟨xi,yi,ei⟩:=hk _ (aE (ge (l:=l) (by rw[z.length];exact hi)));refine hG ?_;clear hG;refine nn fun hG=>?_;obtain⟨xj,yj,ej⟩:=hk _ (aE (ge (l:=l) (by rw[z.length];exact hj)));refine hG ?_;clear hG;rw[uf (by rw[z.length];exact hi) (by rw[z.length];exact hj)]at hC;rw[ei]at zi hC;rw[ej]at zj hC;generalize vs.getD i .none=vi at zi;generalize vs.getD j .none=vj at zj
 cases zi.iTup with
 | mk e1 _ r1=>
  cases zj.iTup with
  | mk e2 _ r2=>
   replace r1:=r1.iCons;cases r1 with | mk a1 r1=>replace r1:=r1.iCons;cases r1 with | mk b1 r1=>cases r1.iNil with | mk=>
   replace r2:=r2.iCons;cases r2 with | mk a2 r2=>replace r2:=r2.iCons;cases r2 with | mk b2 r2=>cases r2.iNil with | mk=>
   cases a1.iStr with | mk _ t1=>cases b1.iStr with | mk _ u1=>cases a2.iStr with | mk _ t2=>cases b2.iStr with | mk _ u2=>
   refine kat_lt (g' _ _ e1) rfl (g' _ _ e2) rfl ?_;show KatLex prog w A _ (decide (2<2)) C [(.str xi t1, .str xj t2),(.str yi u1, .str yj u2)] 0 s';rw[C9,kG]at hC;rw[V.py_str,V.py_str,bw]at hC;refine kat_cons (EqAt.str_str xi t1 xj t2 prog w _ _ ?_)
   cases q1:(xi == xj)with
   | false=>
    rw[q1,if_neg au]at hC;exact kat_no (oneLt_str hC)
   | true=>
    rw[q1,if_pos rfl]at hC;refine kat_yes (kat_cons (EqAt.str_str yi u1 yj u2 prog w _ _ ?_));rw[kG]at hC;rw[V.py_str,V.py_str,bw]at hC
    cases q2:(yi == yj)with
    | false=>
     rw[q2,if_neg au]at hC;exact kat_no (kat_one _ _ (P.lt_str hC))
    | true=>
     rw[q2,if_pos rfl]at hC;exact kat_yes (kat_nil (by trivial))
theorem Cs{l:List V}{vs:List Value}(z:dP h X l vs)(hk:∀ a∈l,∃ (ad:Addr) (m:List Str),a= .lst ad (m.map .str)∧m.all bH=true)(h2:2≤vs.length)(hu:A.units+40<cLine):uZ prog w A h vs (my l):=by
 intro s Q E g hq;have obs:∀ v∈vs,∃ a o,v= .ref a∧s.heap.get? a=some o∧o.cls= .type "list" :=by
  have key:∀ {l:List V} {vs:List Value},dP h X l vs→(∀ a∈l,∃ (ad:Addr) (m:List Str),a= .lst ad (m.map .str)∧m.all bH=true)→∀ v∈vs,∃ a o,v= .ref a∧s.heap.get? a=some o∧o.cls= .type "list" :=by
   intro l
   induction l with
   | nil=>intro vs z _;cases z.iNil;exact fun _ h=>nomatch h
   | cons a l ih=>
    intro vs z hk v hv
    cases z.iCons with
    | mk za zs=>
     rcases aF.mp hv with e | hv
     ·refine nn fun hG=>?_;obtain⟨ad,m,hE1,_⟩:=hk a ah;refine hG ?_;clear hG;subst hE1;subst e
      cases za.iLst with
      | mk ea na ra=>exact⟨_,_,rfl,g _ _ ea,rfl⟩
     ·exact ih zs (fun b hb=>hk b (ai _ hb)) v hv
  exact key z hk
 refine kas_kind (T:=.type "list") h2 (fun v hv=>?_) (by decide) (by decide) (hq _ fun s' i j C E' g' hi hj hC=>?_)
 ·refine nn fun hG=>?_;obtain⟨a,o,hE1,ho,hc⟩:=obs v hv;refine hG ?_;clear hG;subst hE1;have:=(Looks.ld (M:=model prog w) ho (part:=none)).andThen (f:=fun o=>pure o.cls) (b:=o.cls) .now;rw[hc]at this;exact this
 have zi:=fJ z hi;have zj:=fJ z hj;refine nn fun hG=>?_;obtain⟨di,mi,ei,oi⟩:=hk _ (aE (ge (l:=l) (by rw[z.length];exact hi)));refine hG ?_;clear hG;refine nn fun hG=>?_;obtain⟨dj,mj,ej,oj⟩:=hk _ (aE (ge (l:=l) (by rw[z.length];exact hj)));refine hG ?_;clear hG;rw[uf (by rw[z.length];exact hi) (by rw[z.length];exact hj)]at hC;rw[ei]at zi hC;rw[ej]at zj hC;generalize vs.getD i .none=vi at zi;generalize vs.getD j .none=vj at zj;have zi':VR s'.heap [] (.lst di (mi.map .str)) vi:=zi.stay fun b o e _=>⟨g' b o e,aZ⟩
 have zj':VR s'.heap [] (.lst dj (mj.map .str)) vj:=zj.stay fun b o e _=>⟨g' b o e,aZ⟩
 have dat:∀ {m:List Str},m.all bH=true→V.datas 7 (m.map .str)=true:=fun{m} h=>by
  rw[V.datas_all,List.all_map];simpa[Function.comp_def,V.data_str]using h
 rw[keyLt'_oneType,oneLt'_eq];refine wy rfl ?_
 cases zi'.iLst with
 | mk e1 n1 r1=>
  cases zj'.iLst with
  | mk e2 n2 r2=>
   refine aa (wpAny_cRoomFor (by exact bL (cy _ _) hu) ?_);have it:=xl (A:=A) (s:=s') .Lt kL r1 r2 (k:=7) (by exact bm _ _) (dat oi) (dat oj) (by exact uX hu rfl) fun a ha b hb v u za zb=>by
    refine nn fun hG=>?_;obtain⟨x,hx,hE1⟩:=ap.mp ha;refine hG ?_;clear hG;subst hE1;refine nn fun hG=>?_;obtain⟨y,hy,hE1⟩:=ap.mp hb;refine hG ?_;clear hG;subst hE1;exact fun _=>Bw (n:=0) .str 7 (by exact bm _ _) za zb (by simp only[ay]at oi;exact oi _ hx) (by simp only[ay]at oj;exact oj _ hy) (by lia)
   refine aa (wpAny_callSpecialIfBound?_slot (T:="list") ⟨_,e1,rfl⟩ A6 (CM A6 ⟨_,e1,rfl⟩ F.entry_list_lt (F.args_list_lt_2 _ _) (xk _ _ _ _ _ _ _ _ _ _ _ _) ⟨e1,e2,it,?_⟩));refine fY ?_;exact(rv r1 r2 (fun x y=>decide (x<y)) _ _ (nz _ _)).symm▸hC
end
section
variable{c:Cx}{vals:List V}{H:Hp}{EX:dK}{Q:V→List V→Hp→Prop}
theorem Io{prog:dt}{w:World}{A:Around}{h:Heap}{X:List Addr}{l:List V}{vs:List Value}(z:dP h X l vs)(hk:Ao l)(hu:A.units+40<cLine)(h2:2≤vs.length):uZ prog w A h vs (my l):=by
 rcases hk with hk | hk | hk
 ·exact Ff z hk h2
 ·exact Cr z hk h2
 ·exact Cs z hk h2 hu
theorem yk{lt:Nat→Nat→Bool}{n i:Nat}(h:i∈srt lt n)(P:t5 lt):i<n:=by
 unfold srt at h;by_cases hn:n<2
 ·rw[if_pos hn]at h;exact aQ.mp h
 ·rw[if_neg hn]at h;have:=(yd P (n:=n) (by exact aH [n] 81350941765271621 tt hn)).1.toList.mem_iff.mp h;simpa using this
theorem Hl{lt:Nat→Nat→Bool}(P:t5 lt)(n:Nat):(srt lt n).Perm (aG n):=by
 unfold srt;by_cases hn:n<2
 ·rw[if_pos hn]
 ·rw[if_neg hn];simpa using (yd P (n:=n) (by exact aH [n] 81350941765271621 tt hn)).1.toList
theorem C8{h:Heap}{X:List Addr}{l:List V}{vs:List Value}(z:dP h X l vs):∀ (is:List Nat),(∀ i∈is,i<vs.length)→dP h X (is.map fun i=>l.getD i .none) (is.map fun i=>vs.getD i .none)
 | [],_=>.nil
 | i::is,hi=>.cons (fJ z (hi i ah)) (C8 z is fun j hj=>hi j (ai _ hj))
theorem pH(ok:c.Ok){ad:Addr}{l:List V}(hk:Ao l)(P:t5 (my l))(h64:l.length<64)(q:∀ D,Q (.lst D (m0 l)) vals H):Tn c vals H [.lst ad l] (fun vs=>call (.builtin "sorted") vs) VR Q EX:=Tn.oneL fun s vs m r e n zs=>by
 have hle:=zs.length;refine Calls.call_function_entry kind_sorted plain_sorted entry_sorted (args_sorted1 _) ?_;unfold Builtin.«sorted»;refine aa (m:=checkCount "sorted" 1 1 _) (af ?_);refine aa (collect_list ⟨_,e,rfl,_,rfl⟩ ?_ (by rw[Km];exact aH [l.length,vs.length] 22300745241696978391085160123796888602280002 tt h64 hle));refine aa (pf ?_ (by rw[Km];exact aH [l.length,vs.length] 22300745241696978391085160123796888602280002 tt h64 hle));have hsz:((s.heap.push (seqObj "list" #[] 0)).update s.heap.objs.size (bR (· ++vs.toArray))).objs.size=s.heap.objs.size+1:=by
  rw[Heap.size_update,size_push']
 have hoL:(((s.heap.push (seqObj "list" #[] 0)).update s.heap.objs.size (bR (· ++vs.toArray))).push (seqObj "list" vs.toArray 0)).get? (s.heap.objs.size+1)=some (seqObj "list" vs.toArray 0):=by
  rw[← hsz];exact aA _ rfl
 have keep:Grows s.heap (((s.heap.push (seqObj "list" #[] 0)).update s.heap.objs.size (bR (· ++vs.toArray))).push (seqObj "list" vs.toArray 0)):=fun b o q=>by
  have hlt:b<s.heap.objs.size:=bu q;rw[Heap.get?_push_ne _ _ _ (by rw[hsz];exact eQ (mX hlt)),Heap.get?_update_ne _ _ _ _ (eQ hlt),Heap.get?_push_ne _ _ _ (eQ hlt)];exact q
 have fresh:∀ o,s.heap.get? (s.heap.objs.size+1)≠some o:=fun o q=>absurd (bu q) (ip.mpr (jr _));show wpAny _ _ _ _ _ { s with heap:=((s.heap.push (seqObj "list" #[] 0)).update s.heap.objs.size (bR (· ++vs.toArray))).push (seqObj "list" vs.toArray 0) };refine hsz.symm▸?_;refine aa (aC (co slot_list_sort ⟨_,hoL,rfl⟩ entry_list_sort (B0 (h₀:=s.heap) (s:={ s with heap:=_ }) (lt:=my l) _ (Io zs hk (by have:=ok.units;rw[units_in1,units_in1];simp only[cLine];exact aH [c.A.units] 3977184213744705776114053708398487804375628410500945009887412289 tt this)) fresh keep hoL (by exact hle▸h64) fun h' c' g' e'=>⟨_,rfl,?_⟩) (args_list_sort _)));refine af ⟨_,rfl,?_⟩;have g:∀ b o,s.heap.get? b=some o→h'.get? b=some o:=g';have S:aN s.heap (c.Z H) h' (c.Z H):=aN.keeps g;refine a8.intro (b:=.lst (s.heap.objs.size+1) (m0 l)) (r.keeps (s':={ s with heap:=h' }) g r.gens rfl) S ?_ (q _);refine .lst (vs:=(srt (my l) vs.length).map fun i=>vs.getD i .none) (n:=c') (by trivial) (fun hx=>by obtain⟨o,e⟩:=r.there _ hx;exact fresh o e) ?_;unfold m0;refine hle.symm▸?_;exact(C8 zs _ fun i hi=>yk hi P).go S
end
end
section
open PySem.W PySem.SeqAt
inductive uB:bW→List V→Prop
 | list (l:List V):uB (.list l) l
 | acc (d:Addr) (l:List V):uB (.acc d l) l
noncomputable def bW.set:bW→List V→bW
 | .list _,l=>.list l
 | .acc d _,l=>.acc d l
 | .raw o,_=>.raw o
theorem sub_list_list:fQ (.type "list") (.type "list")=pure true:=by rw[dM];kernel_rfl
theorem ue(P:Params):mroIn (KF P) 122 (.type "list")=some true:=rfl
section
variable{c:Cx}{vals:List V}{H H':Hp}{EX:dK}{s:Shared}
theorem Db{h:Heap}{a:Addr}{cls:Value}{dd:Option Addr}{xs:Array Value}{n:Nat}{f:Array Value→Array Value}(ho:h.get? a=some { cls:=cls,dict:=dd,data:=.seq xs n }):
  ∃ n',(h.update a (bR f)).get? a=some { cls:=cls,dict:=dd,data:=.seq (f xs) n' }:=by
 refine⟨_,dE _ ho ?_⟩
 rfl
theorem sC{M:Model}{h:Heap}{a:Addr}{o:Obj}(ho:h.get? a=some o)(hc:o.cls= .type "list"):Looks M h (qT (.ref a) (.type "list")) true:=by
 have t:Looks M h (typeOf (.ref a)) (.type "list"):=hc▸(Looks.ld ho (part:=none)).andThen .now;exact t.andThen (Looks.of_pure sub_list_list)
theorem mK{M:Model}{h:Heap}{a:Addr}{o:Obj}(b:ey h)(ho:h.get? a=some o)(hc:o.cls= .ref 122):Looks M h (qT (.ref a) (.type "list")) true:=by
 obtain⟨P,fr⟩:=b.frag;have t:Looks M h (typeOf (.ref a)) (.ref 122):=hc▸(Looks.ld ho (part:=none)).andThen .now;exact t.andThen (looks_mroIn fr (ue P))
theorem Rel.rowAt(R:Rel c vals H s){a:Addr}{mo:bW}{l:List V}(hm:iK H a mo)(hr:uB mo l):
  ∃ cls dd vs n,s.heap.get? a=some { cls:=cls,dict:=dd,data:=.seq vs.toArray n }∧dP s.heap (c.X H) l vs∧Looks c.M s.heap (qT (.ref a) (.type "list")) true:=by
 have m:=R.objs _ _ hm.mem
 cases hr with
 | list l=>
  refine nn fun hG=>?_;obtain⟨vs,n,e,z⟩:=m;refine hG ?_;clear hG;exact⟨_,_,vs,n,e,z,sC e rfl⟩
 | acc d l=>
  refine nn fun hG=>?_;obtain⟨vs,n,e,z,_⟩:=m;refine hG ?_;clear hG;exact⟨_,_,vs,n,e,z,mK R.base e rfl⟩
theorem GW(R:Rel c vals H s){a d:Addr}{l:List V}(hm:iK H a (.acc d l)):a≠d:=by
 have nd:=(aJ.mp R.nodup).2.1;have key:∀ {H:Hp} {a:Addr} {mo:bW},iK H a mo→mo= .acc d l→(haddrs H).Nodup→a≠d:=by
  intro H a mo h
  induction h with
  | head=>rintro rfl n;simp only[haddrs,a0,bW.addrs]at n;intro e;subst e;simp at n
  | tail _ ih=>intro e n;simp only[haddrs,a0]at n;exact ih e (aJ.mp n).2.1
 exact key hm rfl nd
theorem Rel.rowTurn(ok:c.Ok)(R:Rel c vals H s){a:Addr}{mo:bW}{l l':List V}(p:du H a mo (mo.set l') H')(hr:uB mo l){cls:Value}{dd:Option Addr}{vs vs':List Value}{n:Nat}
  (ho:s.heap.get? a=some { cls:=cls,dict:=dd,data:=.seq vs.toArray n }){f:Array Value→Array Value}(hf:f vs.toArray=vs'.toArray)(z':dP s.heap (c.X H) l' vs'):
  Rel c vals H' { s with heap:=s.heap.update a (bR f) }∧aN s.heap (c.Z H) (s.heap.update a (bR f)) (c.Z H'):=by
 have sb:=b8 s.heap a (bR f);have kk:∀ b ob,b≠a→s.heap.get? b=some ob→(s.heap.update a (bR f)).get? b=some ob:=fun b ob hb e=>sb.extBut b ob hb e;obtain⟨n',e'⟩:=Db (f:=f) ho;rw[hf]at e';have m:=R.objs _ _ p.inH.mem;have za:a∈c.own++haddrs H:=ak _ (bP.mpr ⟨_,p.inH.mem,fc _ _⟩);have z'':dP (s.heap.update a (bR f)) (c.X H) l' vs':=z'.stay fun b o e nn=>⟨kk b o (fun q=>nn (q▸kP za)) e,nn⟩
 cases hr with
 | list l=>
  refine nn fun hG=>?_;obtain⟨us,k,e,_⟩:=m;refine hG ?_;clear hG;rw[ho]at e;cases e;exact R.turn (s':={ s with heap:=s.heap.update a (bR f) }) ok p rfl (fun b ob hb e=>kk b ob (fun q=>hb (q▸fc _ _)) e) R.gens rfl ⟨vs',n',e',z''⟩
 | acc d l=>
  have ne:=GW R p.inH;refine nn fun hG=>?_;obtain⟨us,k,e,_,ad⟩:=m;refine hG ?_;clear hG;rw[ho]at e;cases e;exact R.turn (s':={ s with heap:=s.heap.update a (bR f) }) ok p rfl (fun b ob hb e=>kk b ob (fun q=>hb (q▸fc _ _)) e) R.gens rfl ⟨vs',n',e',z'',ad.of fun o e=>kk _ o (gO ne) e⟩
end
section
variable{M:Model}{A:Around}{E:Value→Shared→Prop}{s:Shared}
theorem CB{i n:String}{self:Value}{rest:List Value}{Q:Unit→Shared→Prop}(hk:ca i=some .slot∨ca i=some .method)(hs:lC i=some ("list",n))(hi:Looks M s.heap (qT self (.type "list")) true)(ha:argsOk i ⟨self::rest,[]⟩)(q:Q () s):
  wpAny M A (ja i ⟨self::rest,[]⟩) Q E s:=by
 rcases hk with hk | hk<;>
 ·simp only[ja,hk,hs]
  refine aa (hi.here ?_);refine wn au ?_
  cases hsig:ij i with
  | none=>exact af q
  | some sig=>
   simp only[argsOk,hsig]at ha;have h2:qp i sig ⟨self::rest,[]⟩=pure ():=ha;show wpAny M A (qp i sig ⟨self::rest,[]⟩) Q E s;rw[h2];exact af q
theorem fK{prog:dt}{w:World}{id n:String}{B:Builtin}{self:Value}{rest:List Value}{Q:Value→Shared→Prop}(plain:qP id=true)(hk:ca id=some .slot∨ca id=some .method)(hs:lC id=some ("list",n))(hb:km table id=some B)
  (ha:argsOk id ⟨self::rest,[]⟩)(hi:Looks (model prog w) s.heap (qT self (.type "list")) true)
  (hc:wpAny (model prog w) A.in1 (B ⟨self::rest,[]⟩) (fun fin s'=>match fin with | .done f=>wants Q E (.ok f) s' | .again c'=>c'.quiet=true∧cb (model prog w) A c' (wants Q E) s') (fun e s'=>wants Q E (.error e) s') s):
  wpAny (model prog w) A (call (.builtin id) (self::rest)) Q E s:=
 g6 (codeAny_call_builtin plain hb (CB hk hs hi ha hc))
end
section
variable{c:Cx}{vals:List V}{H H':Hp}{EX:dK}{Q:V→List V→Hp→Prop}
theorem AL:ca "list.append" =some .slot∨ca "list.append" =some .method:=by trivial
theorem yD:lC "list.append" =some ("list","append"):=by decide +kernel
theorem FJ(a x:Value):Builtin.«list.append» ⟨[a,x],[]⟩=(do fm a (·.push x);ret .none):=by kernel_rfl
theorem cl_append(ok:c.Ok){a:Addr}{mo:bW}{l:List V}{x:V}(p:du H a mo (mo.set (l++ [x])) H')(hr:uB mo l)(hl:l.length<av)(q:Q .none vals H'):Tn c vals H [.ref a,x] (fun vs=>call (.builtin "list.append") vs) VR Q EX:=Tn.twoR fun s u r y=>by
 refine nn fun hG=>?_;obtain⟨cls,dd,vs,n,ho,zs,hi⟩:=r.rowAt p.inH hr;refine hG ?_;clear hG;refine fK slot_list_append.plain AL yD entry_list_append (F.args_list_append_2 _ _) hi ?_;rw[FJ];have hle:=zs.length;refine aa (d0 ho rfl ?_ (by rw[aI];exact aH [l.length,av,vs.length] 98532471922197019052998722 tt hl hle) (by rw[Array.size_push,aI];exact aH [l.length,av,vs.length] 10734506250815839296032296500461634 tt hl hle));obtain⟨r',S'⟩:=r.rowTurn ok p hr ho (f:=(·.push u)) (vs':=vs++ [u]) (by simp) (zs.append (.cons y .nil));exact af (a8.intro r' S' .none q)
end
end
section
open PySem.W PySem.SeqAt Builtin
theorem Fi(a x:Value)(t:Tok):Builtin.«list.insert» ⟨[a, .int 0 t,x],[]⟩=(do
  fm a fun xs=>(xs.extract 0 (min 0 xs.size)).push x++xs.extract (min 0 xs.size) xs.size
  ret .none):=by kernel_rfl
theorem Gz(a:Value):Builtin.«list.pop» ⟨[a],[]⟩=(do
  let xs ← eu a
  if xs.isEmpty then rule "list.pop.empty";raiseError "IndexError" "pop from empty list"
  match (mV (-1) xs.size).bind fun k=>xs[k]?.map (k,·)with
  | some (k,x)=>fm a (·.eraseIdxIfInBounds k);ret x
  | none=>rule "list.pop.out-of-range";raiseError "IndexError" "pop index out of range"):=by kernel_rfl
theorem Fq(a it:Value):Builtin.«list.extend» ⟨[a,it],[]⟩=gm a it .none:=by kernel_rfl
theorem JK(a:Value):Builtin.«list.__init__» ⟨[a],[]⟩=(do
  let old ← eu a
  fm a fun _=> #[]
  letGo old.toList.reverse
  ret .none):=by kernel_rfl
theorem Lz(a:Addr):Builtin.«list.__len__» ⟨[.ref a],[]⟩=(do retInt (← seqSize a)):=by kernel_rfl
theorem AJ:ca "list.insert" =some .slot∨ca "list.insert" =some .method:=by trivial
theorem yB:lC "list.insert" =some ("list","insert"):=by decide +kernel
theorem Im:ca "list.pop" =some .slot∨ca "list.pop" =some .method:=by trivial
theorem Ej:lC "list.pop" =some ("list","pop"):=by decide +kernel
theorem AK:ca "list.extend" =some .slot∨ca "list.extend" =some .method:=by trivial
theorem yC:lC "list.extend" =some ("list","extend"):=by decide +kernel
section
variable{c:Cx}{vals:List V}{H H':Hp}{EX:dK}{Q:V→List V→Hp→Prop}
theorem CA(ok:c.Ok){a:Addr}{mo:bW}{l:List V}{x:V}(p:du H a mo (mo.set (x::l)) H')(hr:uB mo l)(hl:l.length<av)(q:Q .none vals H'):Tn c vals H [.ref a, .int 0,x] (fun vs=>call (.builtin "list.insert") vs) VR Q EX:=fun s vs r z=>by
 replace z:=z.iCons;cases z with
 | mk z0 z=>
  refine nn fun hG=>?_;obtain⟨v,u,hE1,z',y⟩:=z.two;refine hG ?_;clear hG;subst hE1;cases z0.iRef;cases z'.iInt;refine nn fun hG=>?_;obtain⟨cls,dd,vs,n,ho,zs,hi⟩:=r.rowAt p.inH hr;refine hG ?_;clear hG;refine fK F.slot_list_insert.plain AJ yB F.entry_list_insert (F.args_list_insert_3 _ _ _) hi ?_;rw[Fi];have hle:=zs.length;have hf:(vs.toArray.extract 0 (min 0 vs.toArray.size)).push u++vs.toArray.extract (min 0 vs.toArray.size) vs.toArray.size=(u::vs).toArray:=by
   simp
  refine aa (d0 ho rfl ?_ (by rw[aI];exact aH [l.length,av,vs.length] 98532471922197019052998722 tt hl hle) (by rw[hf,aI,aT];exact aH [l.length,av,vs.length] 10734506250815839296032296500461634 tt hl hle));obtain⟨r',S'⟩:=r.rowTurn ok p hr ho (f:=fun xs=>(xs.extract 0 (min 0 xs.size)).push u++xs.extract (min 0 xs.size) xs.size) (vs':=u::vs) hf (.cons y zs);exact af (a8.intro r' S' .none q)
theorem dP.split_last{h:Heap}{X:List Addr}{l:List V}{x:V}{vs:List Value}(z:dP h X (l++ [x]) vs):∃ us u,vs=us++ [u]∧dP h X l us∧VR h X x u:=by
 induction l generalizing vs with
 | nil=>
  refine nn fun hG=>?_;obtain⟨v,hv,z1⟩:=dP.one (show dP h X [x] vs from z);refine hG ?_;clear hG;exact⟨[],v,hv, .nil,z1⟩
 | cons a l ih=>
  cases z.iCons with
  | mk za zs=>
   refine nn fun hG=>?_;obtain⟨us,u,hE1,z1,z2⟩:=ih zs;refine hG ?_;clear hG;subst hE1;exact⟨_::us,u,rfl, .cons za z1,z2⟩
theorem LS(ok:c.Ok){a:Addr}{mo:bW}{l:List V}{x:V}(p:du H a mo (mo.set l) H')(hr:uB mo (l++ [x]))(hl:l.length<av)(q:Q x vals H'):Tn c vals H [.ref a] (fun vs=>call (.builtin "list.pop") vs) VR Q EX:=Tn.oneR fun s r=>by
 refine nn fun hG=>?_;obtain⟨cls,dd,vs,n,ho,zs,hi⟩:=r.rowAt p.inH hr;refine hG ?_;clear hG;refine fK F.slot_list_pop.plain Im Ej F.entry_list_pop (F.args_list_pop_1 _) hi ?_;rw[Gz];refine nn fun hG=>?_;obtain⟨us,u,hE1,zu,zx⟩:=zs.split_last;refine hG ?_;clear hG;subst hE1;have hle:=zu.length;refine aa (fX ho rfl ?_);refine wn (by simp) ?_;have hx:(mV (-1) (us++ [u]).toArray.size).bind (fun k=>((us++ [u]).toArray[k]?).map (k,·))=some (us.length,u):=by
  have e:mV (-1) (us++ [u]).toArray.size=some us.length:=by
   simp only[aI,aR,d8]
   unfold mV;simp;refine⟨⟨by lia,by lia⟩,by lia⟩
  rw[e];simp
 refine hx.symm▸?_;have hf:(us++ [u]).toArray.eraseIdxIfInBounds us.length=us.toArray:=by
  simp[Array.eraseIdxIfInBounds];rw[List.eraseIdx_append_of_length_le (bo _)];simp
 refine aa (d0 ho rfl ?_ (by rw[aI,aR,d8];exact aH [l.length,av,us.length] 437108895764045846181477089346 tt hl hle) (by rw[hf,aI];exact aH [l.length,av,us.length] 2620720881573503068646522486850 tt hl hle));obtain⟨r',S'⟩:=r.rowTurn ok p hr ho (f:=(·.eraseIdxIfInBounds us.length)) (vs':=us) hf zu;exact af (a8.intro r' S' (zx.go S') q)
theorem cl_extend(ok:c.Ok){a ad:Addr}{mo:bW}{l m:List V}(p:du H a mo (mo.set (l++m)) H')(hr:uB mo l)(hl:l.length+m.length≤av)(q:Q .none vals H'):Tn c vals H [.ref a, .lst ad m] (fun vs=>call (.builtin "list.extend") vs) VR Q EX:=Tn.twoR fun s u r y=>by
 refine nn fun hG=>?_;obtain⟨cls,dd,vs,n,ho,zs,hi⟩:=r.rowAt p.inH hr;refine hG ?_;clear hG
 cases y.iLst with
 | @mk us m' e ne zm=>
  refine fK t0.plain AK yC F.entry_list_extend (F.args_list_extend_2 _ _) hi ?_;rw[Fq];refine wq (Builtin.List.listExtendWith.eq_1 ..) ?_;have hle:=zs.length;have hme:=zm.length;refine aa (wpAny_typeOf (T:="list") ⟨_,e,rfl⟩ ?_);have ht:(eX "list" == eX "list")=true:=by rfl
  refine wy (by rw[ht];simp) ?_;refine aa (fX e rfl ?_);refine aa (fX ho rfl ?_);have hlong:ia (vs.toArray.size+us.toArray.size)=false:=by
   rw[aI,aI,← hle,← hme];unfold ia;simp only[dk]
   have hl':=hl;simp only[av]at hl';exact aH [l.length,m.length,av] 1530053676556558905901121 tt hl
  rw[hlong];rw[Bool.and_false];refine wn au ?_;refine aa (d0 ho rfl ?_ (by rw[aI];exact aH [l.length,m.length,av,vs.length] 484055107620655684274224103489 tt hl hle) (by rw[Array.size_append,aI,aI];exact aH [l.length,m.length,av,vs.length,us.length] 47233022482147035707221416503639231442265833537 tt hl hle hme));obtain⟨r',S'⟩:=r.rowTurn ok p hr ho (f:=(· ++us.toArray)) (vs':=vs++us) (by simp) (zs.append zm);exact af (a8.intro r' S' .none q)
noncomputable def aY(ns:List Int):List V:=ns.map .int
noncomputable def isInt(k:Int)(v:Value):Bool:= @Value.rec (fun _=>Bool) false false false (fun _=>false) (fun n _=>n == k) (fun _ _=>false) (fun _ _=>false) (fun _ _=>false) (fun _=>false) (fun _=>false) (fun _=>false) v
theorem rC{h:Heap}{X:List Addr}:∀ {ns:List Int} {vs:List Value},dP h X (aY ns) vs→IntsAre vs ns
 | [],vs,z=>by cases z.iNil;exact .nil
 | n::ns,vs,z=>by
  cases z.iCons with
  | mk a r=>cases a.iInt;exact .cons _ _ (rC r)
theorem AQ{k:Int}{vs:List Value}{ns:List Int}(I:IntsAre vs ns):vs.countP (isInt k)=ns.count k:=by
 induction I with
 | nil=>rfl
 | cons n t r ih=>rw[cc,jb,ih];rfl
theorem oN(ok:c.Ok){ad:Addr}{ns:List Int}{k:Int}(q:Q (.int (ns.count k:Nat)) vals H):Tn c vals H [.lst ad (aY ns), .int k] (fun vs=>call (.builtin "list.count") vs) VR Q EX:=Tn.twoLI fun s vs m t r e ne zs=>by
 have I:=rC zs;refine CM F.slot_list_count ⟨_,e,rfl⟩ F.entry_list_count (F.args_list_count_2 _ _) (list_countAt _ _ _ _ _ _ (isInt k)) ⟨e,fun y hy=>?_,?_⟩
 ·refine nn fun hG=>?_;obtain⟨n,t',hE1⟩:=I.all y (by exact hy.1);refine hG ?_;clear hG;subst hE1;exact EqAt.int_int n t' k t
 ·have:=AQ (k:=k) I;show a8 c H s VR Q (.int (vs.countP (isInt k):Nat) s.toks) { s with toks:=s.toks+1 };rw[this];exact a8.intro (r.toks _) (aN.refl _ _) (.int _ _) q
theorem Ai(ok:c.Ok){ad:Addr}{ns:List Int}{k:Int}{j:Nat}(hj:ns[j]?=some k)(hno:∀ m,m<j→ns[m]?≠some k)(hs:j<1000)(q:Q (.int (j:Nat)) vals H):Tn c vals H [.lst ad (aY ns), .int k] (fun vs=>call (.builtin "list.index") vs) VR Q EX:=Tn.twoLI fun s vs m t r e ne zs=>by
 have I:=rC zs;have at_:∀ {i:Nat} {n:Int},ns[i]?=some n→∃ t',vs[i]?=some (.int n t'):=fun{i n} hi=>by
  refine nn fun hG=>?_;obtain⟨v,hv,zv⟩:=zs.get (i:=i) (a:=.int n) (by exact m9 hi);refine hG ?_;clear hG;cases zv.iInt;exact⟨_,hv⟩
 obtain⟨tj,hvj⟩:=at_ hj;have hlt:j<vs.length:=(aX.mp hvj).1;have evj:vs[j]= .int k tj:=(aX.mp hvj).2;refine CM F.slot_list_index ⟨_,e,rfl⟩ F.entry_list_index (F.args_list_index_2 _ _) (list_indexAt _ _ _ _ _ _ (isInt k) j (by trivial) (by omega) (by simp[evj,isInt]) (fun m hm hmj=>?_)) ⟨e,fun y hy=>?_,a8.intro (r.toks _) (aN.refl _ _) (.int _ _) q⟩
 ·have hm':m<vs.length:=by simpa using hm
  have hl:=zs.length;simp only[aY,an]at hl;obtain⟨n,hn⟩:∃ n,ns[m]?=some n:=⟨ns[m]'(by exact hl▸hm'),by simp⟩
  obtain⟨t',hv⟩:=at_ hn;have ev:vs[m]= .int n t':=(aX.mp hv).2;simp only[List.getElem_toArray,ev,isInt,beq_eq_false_iff_ne]
  intro q;subst q;exact hno m hmj hn
 ·refine nn fun hG=>?_;obtain⟨n,t',hE1⟩:=I.all y (by exact hy.1);refine hG ?_;clear hG;subst hE1;exact EqAt.int_int n t' k t
end
end
section
open PySem.W PySem.SeqAt PySem.Builtin.Str
section
variable{c:Cx}{vals:List V}{H H':Hp}{EX:dK}{Q:V→List V→Hp→Prop}
theorem IG{x y:Str}(q:Q (.int (Kr x y)) vals H):Tn c vals H [.str x, .str y] (fun vs=>call (.builtin "str.rfind") vs) VR Q EX:=Tn.twoSS fun s t u r=>SC.rfind (a8.intro (r.toks _) (aN.refl _ _) (.int _ _) q)
theorem xB{x y:Str}(q:Q (.bool (iq x y)) vals H):Tn c vals H [.str x, .str y] (fun vs=>call (.builtin "str.startswith") vs) VR Q EX:=Tn.twoSS fun s t u r=>SC.startswith (a8.intro r (aN.refl _ _) (.bool _) q)
theorem J5{x y:Str}(q:Q (.bool (tW x y)) vals H):Tn c vals H [.str x, .str y] (fun vs=>call (.builtin "str.endswith") vs) VR Q EX:=Tn.twoSS fun s t u r=>SC.endswith (a8.intro r (aN.refl _ _) (.bool _) q)
theorem FA{x y:Str}(hl:x.length≤av)(q:Q (.str (wK x y)) vals H):Tn c vals H [.str x, .str y] (fun vs=>call (.builtin "str.rstrip") vs) VR Q EX:=Tn.twoSS fun s t u r=>SC.rstripChars (fun t' k=>a8.intro (r.toks k) (aN.refl _ _) (.str _ _) q) hl
theorem zM{h:Heap}{X:List Addr}:∀ (l:List (Str×Tok)),dP h X ((l.map (·.1)).map V.str) (tI l)
 | []=>.nil
 | p::l=>.cons (.str _ _) (zM l)
theorem IF{x y:Str}(hy:(y.length == 0)=false)(h1:(decide (x.length<y.length) || decide (strKind x<strKind y))=false)(hf:(occurrences x y 0 x.length (x.length+1)).isEmpty=false)(hl:x.length≤av)
  (hl2:(partsBetween x (occurrences x y 0 x.length (x.length+1)) y.length).length≤av)(q:∀ D,Q (.lst D ((partsBetween x (occurrences x y 0 x.length (x.length+1)) y.length).map .str)) vals H):
  Tn c vals H [.str x, .str y] (fun vs=>call (.builtin "str.split") vs) VR Q EX:=Tn.twoSS fun s t u r=>by
 refine CM F.slot_str_split (qS _ _ _) F.entry_str_split (F.args_str_split_2 _ _) (meets_str_split_sep x y t u h1 hy hf hl hl2) ?_;rw[strsFrom_eq];have k:∀ b o,s.heap.get? b=some o→(s.heap.push { cls:=.type "list",data:=.seq (tI (numbered s.toks (partsBetween x (occurrences x y 0 x.length (x.length+1)) y.length))).toArray }).get? b=some o:=fun b o e=>al _ e;refine a8.intro (b:=.lst s.heap.objs.size _) (r.keeps k r.gens rfl) (aN.keeps k) ?_ (q _);refine .lst (n:=0) (aA _ rfl) (fun hx=>by obtain⟨o,e⟩:=r.there _ hx;exact r.none_at_size o e) ?_;have:=zM (h:=s.heap.push { cls:=.type "list",data:=.seq (tI (numbered s.toks (partsBetween x (occurrences x y 0 x.length (x.length+1)) y.length))).toArray }) (X:=c.X H) (numbered s.toks (partsBetween x (occurrences x y 0 x.length (x.length+1)) y.length));rw[numbered_texts]at this;exact this
theorem s6{h:Heap}{X:List Addr}:∀ {ys:List Str} {vs:List Value},dP h X (ys.map .str) vs→StrsAre vs ys
 | [],vs,z=>by cases z.iNil;exact .nil
 | y::ys,vs,z=>by
  cases z.iCons with
  | mk a r=>cases a.iStr;exact .cons _ _ (s6 r)
theorem J3{x:Str}{ad:Addr}{ys:List Str}(hok:(ys.map (·.length)).sum+ys.length*x.length≤16777216)(q:Q (.str (kF x ys)) vals H):Tn c vals H [.str x, .lst ad (ys.map .str)] (fun vs=>call (.builtin "str.join") vs) VR Q EX:=Tn.two fun s v u r z' y'=>by
 cases z'.iStr
 cases y'.iLst with
 | mk e ne zs=>exact join_list ⟨_,e,rfl,_,rfl⟩ (s6 zs) hok fun t' k=>a8.intro (r.toks k) (aN.refl _ _) (.str _ _) q
theorem Jx{x:Str}{n:Int}(hok:MulOk x n)(q:Q (.str (CK x n)) vals H):T2 c vals H (.str x) (.int n) (lL .Mult) VR Q EX:=fun s v u r z z'=>by
 cases z.iStr;cases z'.iInt;exact SB.mul hok fun t' k=>a8.intro (r.toks k) (aN.refl _ _) (.str _ _) q
set_option tactic.hygienic true in
theorem ng{a b:Addr}{l m:List V}(hl:l.length+m.length≤av)(q:∀ D,Q (.lst D (l++m)) vals H):T2 c vals H (.lst a l) (.lst b m) (lL .Add) VR Q EX:=fun s v u r z z'=>by
 cases z.iLst with
 | mk e ne zs=>
  cases z'.iLst with
  | mk e' ne' zs'=>
   rename_i vs n us m'
   have k:∀ b o,s.heap.get? b=some o→(s.heap.push { cls:=eX "list",data:=KM (vs.toArray++us.toArray) }).get? b=some o:=fun b o e=>al _ e;refine concat_meets ⟨_,e,rfl⟩ ⟨_,e',rfl⟩ noFill_list_add seq_list_add PySem.F.slot_list_add PySem.F.entry_list_add (PySem.F.args_list_add_2 _ _) (list_addW _ _ vs.toArray us.toArray _ _ _ _ _ _ (by simp only[aI];rw[← zs.length,← zs'.length];exact hl)) ⟨e,e',?_⟩;refine a8.intro (b:=.lst s.heap.objs.size (l++m)) (r.keeps (s':={ s with heap:=_,toks:=s.toks }) k r.gens rfl) (aN.keeps k) ?_ (q _);refine .lst (vs:=vs++us) (n:=0) ?_ (fun hx=>by obtain⟨o,e⟩:=r.there _ hx;exact r.none_at_size o e) ((zs.append zs').go (aN.keeps k));have:=aA s.heap (o:={ cls:=eX "list",data:=KM (vs.toArray++us.toArray) }) rfl;simpa[ic]using this
theorem Cz{x:Str}(q:Q (.obj (.type "str")) vals H):Tn c vals H [.str x] (fun vs=>call (.type "type") vs) VR Q EX:=Tn.one fun s v r z'=>by
 cases z'.iStr;exact call_type_of (qS _ _ _) (by decide) (a8.intro r (aN.refl _ _) (.obj _) q)
theorem kK{n:Int}(q:Q (.rng 0 n) vals H):Tn c vals H [.int n] (fun vs=>call (.type "range") vs) VR Q EX:=Tn.one fun s v r z'=>by
 cases z'.iInt with
 | mk _ t=>
  refine call_range_1 (a8.intro (b:=.rng 0 n) (r.keeps (s':={ s with heap:=_,toks:=_ }) (fun b o e=>al _ e) r.gens rfl) (aN.keeps fun b o e=>al _ e) ?_ q);exact .rng (IsRange.new ..) fun hx=>by obtain⟨o,e⟩:=r.there _ hx;exact r.none_at_size o e
theorem xC{a n:Int}(q:Q (.rng a n) vals H):Tn c vals H [.int a, .int n] (fun vs=>call (.type "range") vs) VR Q EX:=Tn.two fun s v u r z' y'=>by
 cases z'.iInt with
 | mk _ t=>
  cases y'.iInt with
  | mk _ t'=>
   refine call_range_2 (a8.intro (b:=.rng a n) (r.keeps (s':={ s with heap:=_,toks:=_ }) (fun b o e=>al _ e) r.gens rfl) (aN.keeps fun b o e=>al _ e) ?_ q);exact .rng (IsRange.new ..) fun hx=>by obtain⟨o,e⟩:=r.there _ hx;exact r.none_at_size o e
theorem Ch(k:Tok):Builtin.«issubclass.nested» ⟨[.type "str", .type "str", .int 1 k],[]⟩=pure (.done (.ret (.bool true))):=by kernel_rfl
end
end
section
open PySem.W PySem.SeqAt PySem.Builtin.Str
open AutoSeq1 (wpAny_loadPart')
theorem yF:qP "issubclass.nested" =true:=by decide +kernel
theorem AI:ca "issubclass.nested" =none:=by decide +kernel
theorem AT(a b c:Value):argsOk "issubclass.nested" ⟨[a,b,c],[]⟩:=by unfold argsOk;kernel_rfl
theorem AR{prog:dt}{w:World}{A:Around}{E:Value→Shared→Prop}{s:Shared}{k:Tok}{Q:Value→Shared→Prop}(h:Q (.bool true) s):wpAny (model prog w) A (call (.builtin "issubclass.nested") [.type "str", .type "str", .int 1 k]) Q E s:=
 Calls.call_function_entry AI yF F.entry_issubclass_nested (AT _ _ _) (by rw[Ch];exact af ⟨_,rfl,h⟩)
theorem sJ:fQ (.type "tuple") (.type "tuple")=pure true:=by rw[dM];kernel_rfl
theorem AN(a:Addr)(n:Nat):Meets (Builtin.«issubclass» ⟨[.type "str", .ref a],[]⟩)
  (fun A R s=>s.heap.get? a=some (j7 [.type "str", .type "bytes"] n)∧R (.ok (.ret (.bool true))) s):=fun prog w A R s h=>by
 obtain⟨ho,h⟩:=h;refine issubclass_outer ?_;unfold Builtin.«issubclass.nested»;have hT:s.TypeIs (.ref a) "tuple" :=⟨_,ho,rfl⟩
 refine aa (wpAny_typeOf hT ?_);refine wn (by decide) ?_;refine KN (Builtin.Builtins.unionMembers.eq_1 ..) ?_;refine aa (aa (wpAny_typeOf hT ?_));refine wn (by decide) ?_;refine af (aa (gG (b:=true) hT sJ ?_));refine wy rfl ?_;refine wn (by decide) ?_;refine aa (cJ ho rfl ?_);simp only[tK,r5,fA]
 refine aa (aa (aa (AR ?_)));refine aa (fY ?_);refine wy rfl ?_;exact aa (af (af (af (af h))))
section
variable{c:Cx}{vals:List V}{H H':Hp}{EX:dK}{Q:V→List V→Hp→Prop}
theorem IJ(q:Q (.bool true) vals H):Tn c vals H [.obj (.type "str"), .tup [.obj (.type "str"), .obj (.type "bytes")]] (fun vs=>call (.builtin "issubclass") vs) VR Q EX:=Tn.two fun s v u r z' y'=>by
 cases z'.iObj
 cases y'.iTup with
 | mk e ne zs=>
  refine nn fun hG=>?_;obtain⟨v1,v2,hE1,z1,z2⟩:=zs.two;refine hG ?_;clear hG;subst hE1;cases z1.iObj;cases z2.iObj;exact call_issubclass (AN _ _) ⟨e,a8.intro r (aN.refl _ _) (.bool _) q⟩
end
end
section
open PySem.W PySem.SeqAt PySem.Builtin.Str
noncomputable def C6(prog:dt)(w:World)(A:Around)(n:Nat)(h₀:Heap)(op:CmpOp)(P:Nat→Value→Prop)(bt:Nat→Nat→Bool):Prop:=
 ∀ i j vi vj (s:Shared) (Q:Value→Shared→Prop) (E:Value→Shared→Prop),Grows h₀ s.heap→i<n→j<n→P i vi→P j vj→Q (.bool (bt i j)) s→wpAny (model prog w) A (n0 op vi vj) Q E s
theorem lr(bt:Nat→Nat→Bool):∀ k,bK bt k≤k
 | 0=>bo _
 | k+1=>by unfold bK;split;exact bo _;exact cQ (lr bt k)
theorem k3{vs:List Value}{i:Nat}{v:Value}(h:vs[i]?=some v):vs.getD i .none=v:=by rw[cP,h];rfl
noncomputable def fU(l:List V)(f:V→V→Bool)(i j:Nat):Bool:=f (l.getD i .none) (l.getD j .none)
noncomputable def Bg(l:List V):V:=l.getD (bK (fU l kL) (l.length-1)) .none
noncomputable def Bi(l:List V):V:=l.getD (bK (fU l pO) (l.length-1)) .none
section
variable{prog:dt}{w:World}{A:Around}{R:Result→Shared→Prop}{I:Addr}{fp:List Addr}{n:Nat}{P:Nat→Value→Prop}{St:Nat→Heap→Prop}{h₀:Heap}
theorem HZ(W:Walks prog w A.in1 I fp [I] n P St)(bt:Nat→Nat→Bool)(hcmp:C6 prog w A.in1 n h₀ .Lt P bt)(S:Addr)(hSf:S∉fp)(hS0:∀ o,h₀.get? S≠some o)(hI0:∀ o,h₀.get? I≠some o):
  ∀ (k j:Nat) (s:Shared) (vb:Value) (c:Nat),n-(j+1)=k→j+1≤n→St (j+1) s.heap→P (bK bt j) vb→Grows h₀ s.heap→
  s.heap.get? S=some { cls:=.type "list",dict:=none,data:=.seq #[vb,vb] c,slots:= #[] }→
  (∀ v h' tk,P (bK bt (n-1)) v→Grows h₀ h'→R (.ok (.ret v)) { s with heap:=h',toks:=tk })→
  cb (model prog w) A (.builtin "min.loop" ⟨[.ref I, .none, .ref S],[]⟩) R s:=by
 have hSw:S∉ [I]:=fun h=>hSf (W.sub _ h);have hname:(eh "min" ++eh ".loop" :String)= "min.loop" :=by decide
 have gS:∀ {h h':Heap} (hs:cD S h h'),Grows h₀ h→Grows h₀ h':=fun hs g b o e=>hs.extBut b o (fun q=>hS0 o (q▸e)) (g b o e);have gI:∀ {h h':Heap},(∀ b o,b∉ [I]→h.get? b=some o→h'.get? b=some o)→Grows h₀ h→Grows h₀ h':=fun k g b o e=>k b o (fun q=>hI0 o (ao.mp q▸e)) (g b o e);intro k
 induction k with
 | zero=>
  intro j s vb c hk hj hst hPb g hS hR;have hin:j+1=n:=by exact aq (aH [j,n] 1667290535498841627557953 tt hj) (aH [n-(j+1),n,j] 43989164422708988881728064900561895491 tt hk (su n (j+1)))
  refine bE wL ?_;refine(a7 gr _).symm▸?_;show wpAny _ A.in1 (ii (.ref S) >>= _) _ _ s;refine aa (cJ hS rfl ?_);show wpAny _ A.in1 (pQ (pyNext (.ref I)) _ >>= _) _ _ s;refine aa (fy (W.done s _ _ (hin▸hst) fun h' tk hk'=>?_));have hS':=hk' S _ hSw hS;show wpAny _ A.in1 (tH S (fun _=> #[]) >>= _) _ _ _;refine aa ?_;refine fR hS' rfl (aa (fV (af ?_)));exact hR vb _ tk (by rw[← hin];exact hPb) (gS (b8 ..) (gI hk' g))
 | succ k ih=>
  intro j s vb c hk hj hst hPb g hS hR;have hlt:j+1<n:=by exact aH [n-(j+1),k,j,n] 40926930340098431096491166009315776532483 tt hk (ag (aH [j,n] 1667290535498841627557953 tt hj:(j+1)≤n))
  refine bE wL ?_;refine(a7 gr _).symm▸?_;show wpAny _ A.in1 (ii (.ref S) >>= _) _ _ s;refine aa (cJ hS rfl ?_);show wpAny _ A.in1 (pQ (pyNext (.ref I)) _ >>= _) _ _ s;refine aa (fy (W.item (j+1) s _ _ hlt hst fun v h' tk hP hst' hk'=>?_));have hS':=hk' S _ hSw hS;have g':Grows h₀ h':=gI hk' g;show wpAny _ A.in1 (pQ (qQ [v,v] (n0 .Lt v vb >>= _)) _ >>= _) _ _ _;refine aa (fy (aC (aa (hcmp (j+1) (bK bt j) v vb { s with heap:=h',toks:=tk } _ _ g' hlt (bL (lr bt j) (by trivial)) hP hPb ?_))));refine aa (aC (fY ?_));refine aa (fV (af ?_))
  cases hb:bt (j+1) (bK bt j)with
  | true=>
   refine wy rfl ?_;refine aa ?_;refine fR hS' rfl (aa (fV ?_));refine hname.symm▸?_;refine af ⟨bY gr _,ih (j+1) _ v _ (by exact aq (aH [n-(j+1),k,n,j,n-(j+1+1)] 502683979820414853504114614218305026037914752707055321155 tt hk (su n (j+1)) (ag (aH [j,n] 6838005556680318425526960194 tt hlt:((j+1)+1)≤n))) (aH [n-(j+1),k,n,n-(j+1+1),j] 694245922428091024792398204068564442962155376285336997891 tt hk (su n ((j+1)+1)) (ag (aH [j,n] 1667290535498841627557954 tt hlt:(j+1)≤n)))) hlt (W.frame _ _ _ hst' fun b hbf o e=>?_) (by simp only[bK,hb,dG];exact hP) (gS (b8 ..) g') (dE _ hS' rfl)
    fun v' h'' tk'' hP' hk''=>?_⟩
   ·exact(cT _ _ (fun h:S=b=>hSf (by rw[h];exact hbf))).trans e
   ·exact hR v' h'' tk'' hP' hk''
  | false=>
   refine wn au ?_;refine aa (fV ?_);refine hname.symm▸?_;exact af ⟨bY gr _,ih (j+1) _ vb c (by exact aq (aH [n-(j+1),k,n,j,n-(j+1+1)] 502683979820414853504114614218305026037914752707055321155 tt hk (su n (j+1)) (ag (aH [j,n] 6838005556680318425526960194 tt hlt:((j+1)+1)≤n))) (aH [n-(j+1),k,n,n-(j+1+1),j] 694245922428091024792398204068564442962155376285336997891 tt hk (su n ((j+1)+1)) (ag (aH [j,n] 1667290535498841627557954 tt hlt:(j+1)≤n)))) hlt hst' (by simp only[bK,hb,aW,cj];exact hPb) g' hS' fun v' h'' tk'' hP' hk''=>hR v' h'' tk'' hP' hk''⟩
theorem EN(W:Walks prog w A.in1 I fp [I] n P St)(bt:Nat→Nat→Bool)(hcmp:C6 prog w A.in1 n h₀ .Lt P bt)(S:Addr)(hSf:S∉fp)(hS0:∀ o,h₀.get? S≠some o)(hI0:∀ o,h₀.get? I≠some o)(hn:0<n){s:Shared}{c:Nat}(hst:St 0 s.heap)(g:Grows h₀ s.heap)
  (hS:s.heap.get? S=some { cls:=.type "list",dict:=none,data:=.seq #[] c,slots:= #[] })
  (hR:∀ v h' tk,P (bK bt (n-1)) v→Grows h₀ h'→R (.ok (.ret v)) { s with heap:=h',toks:=tk }):
  cb (model prog w) A (.builtin "min.loop" ⟨[.ref I, .none, .ref S],[]⟩) R s:=by
 have hSw:S∉ [I]:=fun h=>hSf (W.sub _ h);have hname:(eh "min" ++eh ".loop" :String)= "min.loop" :=by decide
 refine bE wL ?_;refine(a7 gr _).symm▸?_;show wpAny _ A.in1 (ii (.ref S) >>= _) _ _ s;refine aa (cJ hS rfl ?_);show wpAny _ A.in1 (pQ (pyNext (.ref I)) _ >>= _) _ _ s;refine aa (fy (W.item 0 s _ _ hn hst fun v h' tk hP hst' hk'=>?_));have hS':=hk' S _ hSw hS;show wpAny _ A.in1 (tH S (fun _=> #[v,v]) >>= _) _ _ _;refine aa ?_;refine fR hS' rfl ?_;refine hname.symm▸?_;refine af ⟨bY gr _,HZ W bt hcmp S hSf hS0 hI0 _ 0 _ v _ rfl hn (W.frame _ _ _ hst' fun b hbf o e=>?_) hP (fun b o e=>?_) (dE _ hS' rfl) fun v' h'' tk'' hP' hk''=>?_⟩
 ·exact(cT _ _ (fun h:S=b=>hSf (by rw[h];exact hbf))).trans e
 ·exact(b8 ..).extBut b o (fun q=>hS0 o (q▸e)) (hk' b o (fun q=>hI0 o (ao.mp q▸e)) (g b o e))
 ·exact hR v' h'' tk'' hP' hk''
theorem H4(W:Walks prog w A.in1 I fp [I] n P St)(bt:Nat→Nat→Bool)(hcmp:C6 prog w A.in1 n h₀ .Gt P bt)(S:Addr)(hSf:S∉fp)(hS0:∀ o,h₀.get? S≠some o)(hI0:∀ o,h₀.get? I≠some o):
  ∀ (k j:Nat) (s:Shared) (vb:Value) (c:Nat),n-(j+1)=k→j+1≤n→St (j+1) s.heap→P (bK bt j) vb→Grows h₀ s.heap→
  s.heap.get? S=some { cls:=.type "list",dict:=none,data:=.seq #[vb,vb] c,slots:= #[] }→
  (∀ v h' tk,P (bK bt (n-1)) v→Grows h₀ h'→R (.ok (.ret v)) { s with heap:=h',toks:=tk })→
  cb (model prog w) A (.builtin "max.loop" ⟨[.ref I, .none, .ref S],[]⟩) R s:=by
 have hSw:S∉ [I]:=fun h=>hSf (W.sub _ h);have hname:(eh "max" ++eh ".loop" :String)= "max.loop" :=by decide
 have gS:∀ {h h':Heap} (hs:cD S h h'),Grows h₀ h→Grows h₀ h':=fun hs g b o e=>hs.extBut b o (fun q=>hS0 o (q▸e)) (g b o e);have gI:∀ {h h':Heap},(∀ b o,b∉ [I]→h.get? b=some o→h'.get? b=some o)→Grows h₀ h→Grows h₀ h':=fun k g b o e=>k b o (fun q=>hI0 o (ao.mp q▸e)) (g b o e);intro k
 induction k with
 | zero=>
  intro j s vb c hk hj hst hPb g hS hR;have hin:j+1=n:=by exact aq (aH [j,n] 1667290535498841627557953 tt hj) (aH [n-(j+1),n,j] 43989164422708988881728064900561895491 tt hk (su n (j+1)))
  refine bE wM ?_;refine(a7 gu _).symm▸?_;show wpAny _ A.in1 (ii (.ref S) >>= _) _ _ s;refine aa (cJ hS rfl ?_);show wpAny _ A.in1 (pQ (pyNext (.ref I)) _ >>= _) _ _ s;refine aa (fy (W.done s _ _ (hin▸hst) fun h' tk hk'=>?_));have hS':=hk' S _ hSw hS;show wpAny _ A.in1 (tH S (fun _=> #[]) >>= _) _ _ _;refine aa ?_;refine fR hS' rfl (aa (fV (af ?_)));exact hR vb _ tk (by rw[← hin];exact hPb) (gS (b8 ..) (gI hk' g))
 | succ k ih=>
  intro j s vb c hk hj hst hPb g hS hR;have hlt:j+1<n:=by exact aH [n-(j+1),k,j,n] 40926930340098431096491166009315776532483 tt hk (ag (aH [j,n] 1667290535498841627557953 tt hj:(j+1)≤n))
  refine bE wM ?_;refine(a7 gu _).symm▸?_;show wpAny _ A.in1 (ii (.ref S) >>= _) _ _ s;refine aa (cJ hS rfl ?_);show wpAny _ A.in1 (pQ (pyNext (.ref I)) _ >>= _) _ _ s;refine aa (fy (W.item (j+1) s _ _ hlt hst fun v h' tk hP hst' hk'=>?_));have hS':=hk' S _ hSw hS;have g':Grows h₀ h':=gI hk' g;show wpAny _ A.in1 (pQ (qQ [v,v] (n0 .Gt v vb >>= _)) _ >>= _) _ _ _;refine aa (fy (aC (aa (hcmp (j+1) (bK bt j) v vb { s with heap:=h',toks:=tk } _ _ g' hlt (bL (lr bt j) (by trivial)) hP hPb ?_))));refine aa (aC (fY ?_));refine aa (fV (af ?_))
  cases hb:bt (j+1) (bK bt j)with
  | true=>
   refine wy rfl ?_;refine aa ?_;refine fR hS' rfl (aa (fV ?_));refine hname.symm▸?_;refine af ⟨bY gu _,ih (j+1) _ v _ (by exact aq (aH [n-(j+1),k,n,j,n-(j+1+1)] 502683979820414853504114614218305026037914752707055321155 tt hk (su n (j+1)) (ag (aH [j,n] 6838005556680318425526960194 tt hlt:((j+1)+1)≤n))) (aH [n-(j+1),k,n,n-(j+1+1),j] 694245922428091024792398204068564442962155376285336997891 tt hk (su n ((j+1)+1)) (ag (aH [j,n] 1667290535498841627557954 tt hlt:(j+1)≤n)))) hlt (W.frame _ _ _ hst' fun b hbf o e=>?_) (by simp only[bK,hb,dG];exact hP) (gS (b8 ..) g') (dE _ hS' rfl)
    fun v' h'' tk'' hP' hk''=>?_⟩
   ·exact(cT _ _ (fun h:S=b=>hSf (by rw[h];exact hbf))).trans e
   ·exact hR v' h'' tk'' hP' hk''
  | false=>
   refine wn au ?_;refine aa (fV ?_);refine hname.symm▸?_;exact af ⟨bY gu _,ih (j+1) _ vb c (by exact aq (aH [n-(j+1),k,n,j,n-(j+1+1)] 502683979820414853504114614218305026037914752707055321155 tt hk (su n (j+1)) (ag (aH [j,n] 6838005556680318425526960194 tt hlt:((j+1)+1)≤n))) (aH [n-(j+1),k,n,n-(j+1+1),j] 694245922428091024792398204068564442962155376285336997891 tt hk (su n ((j+1)+1)) (ag (aH [j,n] 1667290535498841627557954 tt hlt:(j+1)≤n)))) hlt hst' (by simp only[bK,hb,aW,cj];exact hPb) g' hS' fun v' h'' tk'' hP' hk''=>hR v' h'' tk'' hP' hk''⟩
theorem EQ(W:Walks prog w A.in1 I fp [I] n P St)(bt:Nat→Nat→Bool)(hcmp:C6 prog w A.in1 n h₀ .Gt P bt)(S:Addr)(hSf:S∉fp)(hS0:∀ o,h₀.get? S≠some o)(hI0:∀ o,h₀.get? I≠some o)(hn:0<n){s:Shared}{c:Nat}(hst:St 0 s.heap)(g:Grows h₀ s.heap)
  (hS:s.heap.get? S=some { cls:=.type "list",dict:=none,data:=.seq #[] c,slots:= #[] })
  (hR:∀ v h' tk,P (bK bt (n-1)) v→Grows h₀ h'→R (.ok (.ret v)) { s with heap:=h',toks:=tk }):
  cb (model prog w) A (.builtin "max.loop" ⟨[.ref I, .none, .ref S],[]⟩) R s:=by
 have hSw:S∉ [I]:=fun h=>hSf (W.sub _ h);have hname:(eh "max" ++eh ".loop" :String)= "max.loop" :=by decide
 refine bE wM ?_;refine(a7 gu _).symm▸?_;show wpAny _ A.in1 (ii (.ref S) >>= _) _ _ s;refine aa (cJ hS rfl ?_);show wpAny _ A.in1 (pQ (pyNext (.ref I)) _ >>= _) _ _ s;refine aa (fy (W.item 0 s _ _ hn hst fun v h' tk hP hst' hk'=>?_));have hS':=hk' S _ hSw hS;show wpAny _ A.in1 (tH S (fun _=> #[v,v]) >>= _) _ _ _;refine aa ?_;refine fR hS' rfl ?_;refine hname.symm▸?_;refine af ⟨bY gu _,H4 W bt hcmp S hSf hS0 hI0 _ 0 _ v _ rfl hn (W.frame _ _ _ hst' fun b hbf o e=>?_) hP (fun b o e=>?_) (dE _ hS' rfl) fun v' h'' tk'' hP' hk''=>?_⟩
 ·exact(cT _ _ (fun h:S=b=>hSf (by rw[h];exact hbf))).trans e
 ·exact(b8 ..).extBut b o (fun q=>hS0 o (q▸e)) (hk' b o (fun q=>hI0 o (ao.mp q▸e)) (g b o e))
 ·exact hR v' h'' tk'' hP' hk''
end
section
variable{c:Cx}{vals:List V}{H H':Hp}{EX:dK}{Q:V→List V→Hp→Prop}
theorem GP(ok:c.Ok)(hh:c.A.handled=none){ad:Addr}{l:List V}(hne:0<l.length)(hd:V.datas 7 l=true)(hk:∀ a∈l,∀ b∈l,xM 3 a b)(q:Q (Bg l) vals H):Tn c vals H [.lst ad l] (fun vs=>call (.builtin "min") vs) VR Q EX:=Tn.oneL fun s vs m r e ne zs=>by
 have hl:l.length=vs.toArray.size:=by rw[zs.length];simp
 have hname:(eh "min" ++eh ".loop" :String)= "min.loop" :=by decide
 refine wg F.kind_min F.plain_min F.entry_min (F.args_min1 _) ?_;show wpAny _ c.A.in1 (ed "min" ["key","default"] 0 ⟨[],[]⟩ >>= _) _ _ s;refine aa (cI (show ed "min" ["key","default"] 0 ⟨[],[]⟩=pure [none,none] from rfl) ?_);refine aa (af ?_);refine aa (ku ⟨_,e,rfl,_,rfl⟩ ?_);refine aa (bj ?_);have hI:∀ o,s.heap.get? s.heap.objs.size≠some o:=r.none_at_size;have hne':ad≠s.heap.objs.size:=fun q=>hI _ (q▸e);have g0:Grows s.heap ((s.heap.push { cls:=.type "list_iterator",data:=.fields #[.ref ad,rawInt 0] }).push { cls:=.type "list",data:=.seq ([]:List Value).toArray }):=fun b o e=>al _ (al _ e);have hS:∀ o,s.heap.get? (s.heap.objs.size+1)≠some o:=fun o q=>absurd (bu q) (ip.mpr (jr _));have hsz:(s.heap.push { cls:=.type "list_iterator",data:=.fields #[.ref ad,rawInt 0] }).objs.size=s.heap.objs.size+1:=eZ ..;show wpAny _ _ (again (.builtin (eh "min" ++eh ".loop") ⟨[.ref s.heap.objs.size, .none, .ref (s.heap.push { cls:=.type "list_iterator",data:=.fields #[.ref ad,rawInt 0] }).objs.size],[]⟩)) _ _ _;refine hname.symm▸?_;refine hsz.symm▸?_;have W:=FW (prog:=pw) (w:=c.w) (A:=c.A.in1) hh s.heap.objs.size ad hne' vs.toArray;refine af ⟨bY gr _,EN (h₀:=s.heap) (A:=c.A) W (fU l kL) ?_ (s.heap.objs.size+1) ?_ hS hI (by exact sS hne hl) (s:={ s with heap:=_ }) ?_ g0 (c:=0) ?_ fun v h' tk hP g=>?_⟩
 ·intro i j vi vj s' Q' E' g' hi hj hvi hvj hq;have zi:=fJ zs (i:=i) (by trivial);have zj:=fJ zs (i:=j) (by trivial);have ei:vs.getD i .none=vi:=k3 (by simpa using hvi);have ej:vs.getD j .none=vj:=k3 (by simpa using hvj);rw[ei]at zi;rw[ej]at zj;have mi:=aE (ge (l:=l) (j:=i) (by exact aH [l.length,vs.toArray.size,i] 79189732577883468139073539 tt hl hi));have mj:=aE (ge (l:=l) (j:=j) (by exact aH [l.length,vs.toArray.size,j] 79189732577883468139073539 tt hl hj));rw[V.datas_all,ay]at hd;have S':aN s.heap (c.X H) s'.heap []:=fun b o e _=>⟨g' b o e,aZ⟩
  exact Bw (hk _ mi _ mj) 7 (by exact bm _ _) (zi.stay S') (zj.stay S') (hd _ mi) (hd _ mj) (by have:=ok.units;rw[units_in1];simp only[cLine];exact aH [c.A.units] 3704044712927771285015678927951310828368560673527955521 tt this) _ _ _ _ hq
 ·intro hm;rcases aF.mp hm with q | hm
  ·exact absurd q (gA (c5 _))
  ·exact hS _ (ao.mp hm▸e)
 ·exact⟨⟨_,al _ (aA _ rfl),rfl,rfl⟩,⟨_,al _ (al _ e),rfl,_,rfl⟩⟩
 ·rw[← hsz];exact aA _ rfl
 ·have S:aN s.heap (c.Z H) h' (c.Z H):=aN.keeps g;have hlt:=lr (fU l kL) (l.length-1);have hb:bK (fU l kL) (vs.toArray.size-1)<vs.length:=by rw[← zs.length,← hl];exact aH [bK (fU l kL) (l.length-1),l.length-1,l.length] 480341589693974238499752116289 tt hlt (ag (aH [l.length] 81350941269295170 tt hne:1≤l.length))
  have zv:=fJ zs hb;have ev:vs.getD (bK (fU l kL) (vs.toArray.size-1)) .none=v:=k3 (by simpa using hP);rw[ev,← hl]at zv;exact a8.intro (r.keeps (s':={ s with heap:=h',toks:=tk }) g r.gens rfl) S (zv.go S) q
theorem GQ(ok:c.Ok)(hh:c.A.handled=none){ad:Addr}{l:List V}(hne:0<l.length)(hd:V.datas 7 l=true)(hk:∀ a∈l,∀ b∈l,xM 3 a b)(q:Q (Bi l) vals H):Tn c vals H [.lst ad l] (fun vs=>call (.builtin "max") vs) VR Q EX:=Tn.oneL fun s vs m r e ne zs=>by
 have hl:l.length=vs.toArray.size:=by rw[zs.length];simp
 have hname:(eh "max" ++eh ".loop" :String)= "max.loop" :=by decide
 refine wg F.kind_max F.plain_max F.entry_max (F.args_max1 _) ?_;show wpAny _ c.A.in1 (ed "max" ["key","default"] 0 ⟨[],[]⟩ >>= _) _ _ s;refine aa (cI (show ed "max" ["key","default"] 0 ⟨[],[]⟩=pure [none,none] from rfl) ?_);refine aa (af ?_);refine aa (ku ⟨_,e,rfl,_,rfl⟩ ?_);refine aa (bj ?_);have hI:∀ o,s.heap.get? s.heap.objs.size≠some o:=r.none_at_size;have hne':ad≠s.heap.objs.size:=fun q=>hI _ (q▸e);have g0:Grows s.heap ((s.heap.push { cls:=.type "list_iterator",data:=.fields #[.ref ad,rawInt 0] }).push { cls:=.type "list",data:=.seq ([]:List Value).toArray }):=fun b o e=>al _ (al _ e);have hS:∀ o,s.heap.get? (s.heap.objs.size+1)≠some o:=fun o q=>absurd (bu q) (ip.mpr (jr _));have hsz:(s.heap.push { cls:=.type "list_iterator",data:=.fields #[.ref ad,rawInt 0] }).objs.size=s.heap.objs.size+1:=eZ ..;show wpAny _ _ (again (.builtin (eh "max" ++eh ".loop") ⟨[.ref s.heap.objs.size, .none, .ref (s.heap.push { cls:=.type "list_iterator",data:=.fields #[.ref ad,rawInt 0] }).objs.size],[]⟩)) _ _ _;refine hname.symm▸?_;refine hsz.symm▸?_;have W:=FW (prog:=pw) (w:=c.w) (A:=c.A.in1) hh s.heap.objs.size ad hne' vs.toArray;refine af ⟨bY gu _,EQ (h₀:=s.heap) (A:=c.A) W (fU l pO) ?_ (s.heap.objs.size+1) ?_ hS hI (by exact sS hne hl) (s:={ s with heap:=_ }) ?_ g0 (c:=0) ?_ fun v h' tk hP g=>?_⟩
 ·intro i j vi vj s' Q' E' g' hi hj hvi hvj hq;have zi:=fJ zs (i:=i) (by trivial);have zj:=fJ zs (i:=j) (by trivial);have ei:vs.getD i .none=vi:=k3 (by simpa using hvi);have ej:vs.getD j .none=vj:=k3 (by simpa using hvj);rw[ei]at zi;rw[ej]at zj;have mi:=aE (ge (l:=l) (j:=i) (by exact aH [l.length,vs.toArray.size,i] 79189732577883468139073539 tt hl hi));have mj:=aE (ge (l:=l) (j:=j) (by exact aH [l.length,vs.toArray.size,j] 79189732577883468139073539 tt hl hj));rw[V.datas_all,ay]at hd;have S':aN s.heap (c.X H) s'.heap []:=fun b o e _=>⟨g' b o e,aZ⟩
  exact GB (hk _ mi _ mj) 7 (by exact bm _ _) (zi.stay S') (zj.stay S') (hd _ mi) (hd _ mj) (by have:=ok.units;rw[units_in1];simp only[cLine];exact aH [c.A.units] 3704044712927771285015678927951310828368560673527955521 tt this) _ _ _ _ hq
 ·intro hm;rcases aF.mp hm with q | hm
  ·exact absurd q (gA (c5 _))
  ·exact hS _ (ao.mp hm▸e)
 ·exact⟨⟨_,al _ (aA _ rfl),rfl,rfl⟩,⟨_,al _ (al _ e),rfl,_,rfl⟩⟩
 ·rw[← hsz];exact aA _ rfl
 ·have S:aN s.heap (c.Z H) h' (c.Z H):=aN.keeps g;have hlt:=lr (fU l pO) (l.length-1);have hb:bK (fU l pO) (vs.toArray.size-1)<vs.length:=by rw[← zs.length,← hl];exact aH [bK (fU l pO) (l.length-1),l.length-1,l.length] 480341589693974238499752116289 tt hlt (ag (aH [l.length] 81350941269295170 tt hne:1≤l.length))
  have zv:=fJ zs hb;have ev:vs.getD (bK (fU l pO) (vs.toArray.size-1)) .none=v:=k3 (by simpa using hP);rw[ev,← hl]at zv;exact a8.intro (r.keeps (s':={ s with heap:=h',toks:=tk }) g r.gens rfl) S (zv.go S) q
theorem GO(hh:c.A.handled=none){ad:Addr}{ns:List Int}(q:Q (.int ns.sum) vals H):Tn c vals H [.lst ad (aY ns)] (fun vs=>call (.builtin "sum") vs) VR Q EX:=Tn.oneL fun s vs m r e ne zs=>by
 have I:=rC zs;obtain⟨xs,ex⟩:=(I.allInts).items;refine sum_intListG hh (xs:=xs) ⟨_,e,rfl,_,by show KM vs.toArray m=_;rw[ex]⟩ fun h' tk t' k=>?_;rw[preSum_eq,gx (by simp)];have e2:=I.numsOf;have e3:numsOf vs=numsOf (intItems xs).toList:=by rw[← ex]
 rw[e3,nums_intItems]at e2;rw[e2];have g:∀ b o,s.heap.get? b=some o→h'.get? b=some o:=k;exact a8.intro (r.keeps (s':={ s with heap:=h',toks:=tk }) g r.gens rfl) (aN.keeps g) (.int _ _) q
end
end
section
open PySem.W PySem.SeqAt PySem.Builtin.Str
section
variable{c:Cx}{vals:List V}{H:Hp}{EX:dK}
theorem v0(ok:c.Ok):Ko c.env=false:=by
 unfold Ko;rw[ok.kind];rfl
theorem gd(ok:c.Ok){e:Expr}{pos:Pos}{Q:Fl→List V→Hp→Prop}(hs:qz e=true)(h:Ev c vals H e (fun _=>Q .next) EX):S1 c vals H (.Expr e pos) Q EX:=fun s r=>by
 refine wpAny_Expr_any (bO (h s r) fun v s₁ a vals₁ H₁ r₁ S₁ z₁ q=>a8.intro r₁ S₁ .next q) (v0 ok) (mD hs _ _ _)
noncomputable def Gm(c:Cx)(EX:dK)(K:List V→Hp→Prop):List Expr→List V→List V→Hp→Prop
 | [],[],vals,H=>K vals H
 | t::ts,a::as,vals,H=>CX c vals H t a (fun vals₁ H₁=>Gm c EX K ts as vals₁ H₁) EX
 | _,_,_,_=>False
theorem tV{e:Expr}(h:eN e=true)(l:List Expr)(env:Env):we (e::l) env=(false,assign e env)::we l env:=by
 cases e<;>first | rfl | cases h
theorem mS:∀ {l:List Expr},l.all eN=true→∀ env,(we l env).length=l.length∧(we l env).findIdx? (·.1)=none∧(we l env).map (·.2)=l.map fun e=>assign e env
 | [],_,_=>⟨rfl,rfl,rfl⟩
 | e::l,h,env=>by
  rw[rW,bk]at h;refine nn fun hG=>?_;obtain⟨h1,h2,h3⟩:=mS h.2 env;refine hG ?_;clear hG;rw[tV h.1];exact⟨by simp[h1],by simp[List.findIdx?_cons,h2],by simp[h3]⟩
theorem vT{K:List V→Hp→Prop}:∀ (ts:List Expr) (as:List V) {vals:List V} {H:Hp},Gm c EX K ts as vals H→Tn c vals H as (fun vs=>gh (ts.map fun e=>assign e c.env) vs) UR (fun _=>K) EX
 | [],[],vals,H,h=>fun s vs r z=>by cases z.iNil;exact af (a8.intro (b:=()) r (aN.refl _ _) rfl h)
 | [],_::_,_,_,h=>h.elim
 | _::_,[],_,_,h=>h.elim
 | t::ts,a::as,vals,H,h=>fun s vs r z=>by
  replace z:=z.iCons;cases z with
  | mk z zs=>
   rw[aV];refine wq (assignInOrder.eq_1 ..) ?_;refine aa (aC (bO (h s _ r z) fun _ s₁ _ vals₁ H₁ r₁ S₁ _ q=>?_));exact dg S₁ (vT ts as q s₁ _ r₁ (zs.go S₁))
theorem Asg_tuple(hh:c.A.handled=none){ts:List Expr}{k:Nat}{p:Pos}{as:List V}{K:List V→Hp→Prop}(hn:ts.all eN=true)(hl:ts.length=as.length)(h:Gm c EX K ts as vals H):CX c vals H (.Tuple ts k p) (.tup as) K EX:=fun s v r z=>by
 cases z.iTup with
 | @mk a vs n e ne zs=>
  refine nn fun hG=>?_;obtain⟨h1,h2,h3⟩:=mS hn c.env;refine hG ?_;clear hG;refine wpAny_assign_Tuple hh ⟨_,e,rfl,_,rfl⟩ (by rw[h1,hl,zs.length];simp) h2 fun h' x=>?_;refine h3.symm▸?_;have g:∀ b o,s.heap.get? b=some o→h'.get? b=some o:=fun b o e=>x b o (eQ (bu e)) e;have S:aN s.heap (c.Z H) h' (c.Z H):=aN.keeps g;exact dg (s₁:={ s with heap:=h' }) S (vT ts as h _ _ (r.keeps (s':={ s with heap:=h' }) g r.gens rfl) (zs.go S))
theorem dS(ok:c.Ok){K:List V→Hp→Prop}{x:Str}{p:Pos}{a:V}{ts:List Expr}{as:List V}(h:∃ vals₂,pW c.names vals x a vals₂∧Gm c EX K ts as vals₂ H):Gm c EX K (.Name x p::ts) (a::as) vals H:=
 cL ok h
theorem BQ{ts:List Expr}{k:Nat}{p:Pos}{e:Expr}{env:Env}(ht:(!e.ctorIdx.beq 25)=true):lF [.Tuple ts k p] e env=pure none:=by
 unfold lF;cases e<;>first | rfl | cases ht
theorem xH(ok:c.Ok){ts:List Expr}{k:Nat}{p pos:Pos}{e:Expr}{Q:Fl→List V→Hp→Prop}(hs:qz e=true)(ht:(!e.ctorIdx.beq 25)=true)
  (h:Ev c vals H e (fun a vals₁ H₁=>CX c vals₁ H₁ (.Tuple ts k p) a (Q .next) EX) EX):S1 c vals H (.Assign [.Tuple ts k p] e pos) Q EX:=fun s r=>by
 refine Assign_Tuple (bO (h s r) fun v s₁ a vals₁ H₁ r₁ S₁ z₁ h₁=>?_) (by unfold swapsWithSole;exact mD hs _ _ _) (BQ ht);exact aK (dg S₁ (h₁ s₁ v r₁ z₁)) (fun _ s₂ hP=>by obtain⟨_,vals',H',r',S',_,q'⟩:=hP;exact a8.intro r' S' .next q') fun _ _ e=>e
theorem CJ(ok:c.Ok)(hh:c.A.handled=none){x y:Str}{p₁ p₂ p pos:Pos}{k:Nat}{e:Expr}{Q:Fl→List V→Hp→Prop}(hs:qz e=true)(hw:lF [.Tuple [.Name x p₁, .Name y p₂] k p] e c.env=pure (some [x,y]))
  (h:Ev c vals H e (Mf c x y Q) EX):S1 c vals H (.Assign [.Tuple [.Name x p₁, .Name y p₂] k p] e pos) Q EX:=fun s r=>by
 refine Assign_Tuple_swapped (names:=[x,y]) (bO (h s r) fun v s₁ a vals₁ H₁ r₁ S₁ z₁ hP=>?_) (by unfold swapsWithSole;exact mD hs _ _ _) hw;refine nn fun hG=>?_;obtain⟨b,d,ea,vals₂,p2,vals₃,p3,q⟩:=hP;refine hG ?_;clear hG;subst ea
 cases z₁.iTup with
 | mk e ne zs=>
  refine nn fun hG=>?_;obtain⟨v,u,hE1,zb,zd⟩:=zs.two;refine hG ?_;clear hG;subst hE1;have e2:[x,y].length= [v,u].toArray.size:=rfl;refine e2.symm▸?_;refine wpAny_unpackItems_tuple hh ⟨_,e,rfl,_,rfl⟩ fun h' ext=>?_;have g:∀ b o,s₁.heap.get? b=some o→h'.get? b=some o:=fun b o e=>ext b o (eQ (bu e)) e;have S:aN s₁.heap (c.Z H₁) h' (c.Z H₁):=aN.keeps g;have r':=r₁.keeps (s':={ s₁ with heap:=h' }) g r₁.gens rfl;show wpAny _ _ (gh [bindName c.env y,bindName c.env x] [u,v]) _ _ _;refine wq (assignInOrder.eq_1 ..) ?_;refine aa (aC (iV (df (S₁.trans S) (iA (EX:=EX) (Q:=fun _ vals' H'=>vals'=vals₂∧H'=H₁) ok (ok.sto _ p2.mem) p2 r' (zd.go S) ⟨rfl,rfl⟩) fun _ s₂ _ vals' H' r₂ S₂ T₂ _ hv=>?_)));obtain⟨e1,e2⟩:=hv;obtain rfl:=e1.symm;obtain rfl:=e2.symm;refine wq (assignInOrder.eq_1 ..) ?_;refine aa (aC (iV (df T₂ (iA (EX:=EX) (Q:=fun _ vals' H'=>Q .next vals' H') ok (ok.sto _ p3.mem) p3 r₂ ((zb.go S).go S₂) q) fun _ s₃ _ vals' H' r₃ S₃ T₃ _ q'=>?_)));unfold gh;exact af (a8.intro r₃ T₃ .next q')
theorem FS(ok:c.Ok){x y:Str}{p₁ p₂ pos:Pos}{e:Expr}{Q:Fl→List V→Hp→Prop}(h:Ev c vals H e (Na c x y Q) EX):
  S1 c vals H (.Assign [.Name x p₁, .Name y p₂] e pos) Q EX:=fun s r=>by
 refine wpAny_Assign_two (bO (h s r) fun v s₁ a vals₁ H₁ r₁ S₁ z₁ hP=>?_);refine nn fun hG=>?_;obtain⟨vals₂,p2,vals₃,p3,q⟩:=hP;refine hG ?_;clear hG;rw[mq];refine aa (be (iV (df S₁ (iA (EX:=EX) (Q:=fun _ vals' H'=>vals'=vals₂∧H'=H₁) ok (ok.sto _ p2.mem) p2 r₁ z₁ ⟨rfl,rfl⟩) fun _ s₂ _ vals' H' r₂ S₂ T₂ _ hv=>?_)));obtain⟨e1,e2⟩:=hv;obtain rfl:=e1.symm;obtain rfl:=e2.symm;rw[mq];refine aa (be (iV (df T₂ (iA (EX:=EX) (Q:=fun _ vals' H'=>Q .next vals' H') ok (ok.sto _ p3.mem) p3 r₂ (z₁.go S₂) q) fun _ s₃ _ vals' H' r₃ S₃ T₃ _ q'=>a8.intro r₃ T₃ .next q')))
noncomputable def L9(c:Cx)(body:List Stmt)(Q:QF)(N:List V→Hp→Prop)(EX:dK):Bool→List V→Hp→Prop
 | true,vals,H=>Ss c vals H body (Kz Q N) EX
 | false,vals,H=>Q .next vals H
theorem yu(ok:c.Ok)(hpo:∀ H₀ s₀,PassesOwn c.M c.A c.env (cF c H₀ s₀ EX)){t:Expr}{body:List Stmt}{pos:Pos}{Q:Fl→List V→Hp→Prop}(I:Nat→List V→Hp→Prop)(n:Nat)(i0:I n vals H)
  (turn:∀ n vals H,I n vals H→∀ N:List V→Hp→Prop,(∀ ⦃m v h⦄,m<n→I m v h→N v h)→F7 c vals H t (L9 c body Q N EX) EX):S1 c vals H (.While t body [] pos) Q EX:=fun s r=>by
 have up:∀ {s₁:Shared} {H₁:Hp},aN s.heap (c.Z H) s₁.heap (c.Z H₁)→∀ {α:Type} {T:Sem α} {P:α→Shared→Prop},wpAny c.M c.A T P (cF c H₁ s₁ EX) s₁→wpAny c.M c.A T P (Bc c.M c.A c.env (wb c.M c.A c.env (cF c H s EX))) s₁:=fun S _ _ _ h=>
  wpAny_passesOwn (hpo H s) (aK h (fun _ _ x=>x) fun _ _ p=>p.stay S)
 refine wpAny_While (codeAny_whileLoop (fun n s'=>∃ vals' H',Rel c vals' H' s'∧aN s.heap (c.Z H) s'.heap (c.Z H')∧I n vals' H') ?_ n ⟨vals,H,r,aN.refl _ _,i0⟩);intro n s' hI;refine nn fun hG=>?_;obtain⟨vals',H',r',S,i⟩:=hI;refine hG ?_;clear hG;refine up S (bO (turn n vals' H' i (fun v h=>∃ m,m<n∧I m v h) (fun m _ _ hm im=>⟨m,hm,im⟩) s' r') fun b s₁ b' vals₁ H₁ r₁ S₁ z₁ q=>?_);cases z₁
 cases b with
 | true=>
  refine py rfl ?_;refine up (S.trans S₁) (bO ((show Ss c vals₁ H₁ body _ EX from q) s₁ r₁) fun f s₂ fl vals₂ H₂ r₂ S₂ z₂ q₂=>?_)
  cases z₂ with
  | next=>obtain⟨m,hm,im⟩:=q₂;exact⟨m,hm,vals₂,H₂,r₂,(S.trans S₁).trans S₂,im⟩
  | cont=>obtain⟨m,hm,im⟩:=q₂;exact⟨m,hm,vals₂,H₂,r₂,(S.trans S₁).trans S₂,im⟩
  | brk=>exact a8.intro r₂ ((S.trans S₁).trans S₂) .next q₂
  | ret z=>exact a8.intro r₂ ((S.trans S₁).trans S₂) (.ret z) q₂
 | false=>
  refine pn au ?_;exact fS (a8.intro r₁ (S.trans S₁) .next q)
theorem Do{c:Cx}(H₀:Hp)(s₀:Shared):PassesOwn c.M c.A c.env (cF c H₀ s₀ kx):=fun _ _ h=>(fI h).elim
end
end
section
open PySem.W PySem.SeqAt PySem.Builtin.Str
section
variable{M:Model}{h:Heap}{a:Addr}{o:Obj}
theorem oH(ho:h.get? a=some o)(hc:o.cls= .ref 122):Looks M h (typeOf (.ref a)) (.ref 122):=hc▸(Looks.ld ho (part:=none)).andThen .now
theorem jg(b:ey h)(ho:h.get? a=some o)(hc:o.cls= .ref 122){name:Str}{r:Option Value}(hf:∀ P,findIn (KF P) (.ref 122) name=some r):Looks M h (F8 (.ref a) name) r:=by
 obtain⟨P,fr⟩:=b.frag;exact(oH ho hc).andThen (looks_findIn fr (hf P))
theorem LI(P:Params):findIn (KF P) (.ref 122) "__iter__" =some (some (.builtin "list.__iter__")):=by kernel_rfl
theorem xm(P:Params):findIn (KF P) (.ref 122) "__getitem__" =some (some (.builtin "list.__getitem__")):=by kernel_rfl
theorem MT(P:Params):findIn (KF P) (.ref 122) "__len__" =some (some (.ref 89)):=by kernel_rfl
theorem LK(P:Params):findIn (KF P) (.ref 122) "__bool__" =some none:=by kernel_rfl
theorem MS(P:Params):findIn (KF P) (.ref 122) "__str__" =some (some (.ref 96)):=by kernel_rfl
theorem GK(P:Params):findIn (KF P) (.ref 122) "push" =some (some (.ref 66)):=by kernel_rfl
theorem Ix(P:Params):findIn (KF P) (.ref 122) "append" =some (some (.builtin "list.append")):=by kernel_rfl
theorem KU(P:Params):findIn (KF P) (.ref 122) "__getattribute__" =some (some (.builtin "list.__getattribute__")):=by kernel_rfl
theorem yp(P:Params):findIn (KF P) (.ref 122) "__getattr__" =some none:=by kernel_rfl
end
section
variable{prog:dt}{w:World}{A:Around}{E:Value→Shared→Prop}{s:Shared}
theorem vr{it l:Addr}{i:Nat}{ol:Obj}{items:Array Value}{nl:Nat}{x:Value}{Q:Option Value→Shared→Prop}(hit:s.heap.IsListIter it l i)
  (hol:s.heap.get? l=some ol)(hdl:ol.data= .seq items nl)(hx:items[i]?=some x)
  (hQ:∀ h',h'.IsListIter it l (i+1)→cD it s.heap h'→Q (some x) { s with heap:=h' }):
  wpAny (model prog w) A (pyNext (.ref it)) Q E s:=by
 refine nn fun hG=>?_;obtain⟨o,ho,hc,hd⟩:=id hit;refine hG ?_;clear hG;refine wq (pyNext.eq_1 ..) ?_;refine aa (gg (cS (name:=cE "__next__") hit.typeIs dU
  (co dU hit.typeIs mv ?_ (nI _))))
 show wpAny _ _ (field (.ref it) 0 >>= _) _ _ s;refine aa (b9 ho hd (x:=.ref l) rfl ?_);show wpAny _ _ (if (dq l == bx)=true then _ else _) _ _ s;refine wn (show ¬ ((dq l == bx)=true) from au) ?_;show wpAny _ _ (field (.ref it) 1 >>= _) _ _ s;refine aa (b9 ho hd (x:=.int i 0) rfl ?_);show wpAny _ _ (ii (.ref l) >>= _) _ _ s;refine aa (cJ hol hdl ?_);simp only[hV,hx]
 refine aa (eI ho hd (by exact c5 _) (af ⟨x,rfl,af (hQ _ ?_ (b8 ..))⟩));exact⟨_,dE _ ho (Obj.isFreed_of_fields (sR hd _)),(Obj.cls_mapFields ..).trans hc,by
  rw[sR hd];simp[rawInt]⟩
theorem o8{it l:Addr}{i:Nat}{ol:Obj}{items:Array Value}{nl:Nat}{Q:Option Value→Shared→Prop}(hh:A.handled=none)
  (hit:s.heap.IsListIter it l i)(hol:s.heap.get? l=some ol)(hdl:ol.data= .seq items nl)(hx:items[i]?=none)
  (hQ:∀ h',wf it s.heap h'→Q none { s with heap:=h' }):wpAny (model prog w) A (pyNext (.ref it)) Q E s:=by
 refine nn fun hG=>?_;obtain⟨o,ho,hc,hd⟩:=id hit;refine hG ?_;clear hG;refine wq (pyNext.eq_1 ..) ?_;refine aa (gg (cS (name:=cE "__next__") hit.typeIs dU
  (co dU hit.typeIs mv ?_ (nI _))))
 show wpAny _ _ (field (.ref it) 0 >>= _) _ _ s;refine aa (b9 ho hd (x:=.ref l) rfl ?_);show wpAny _ _ (if (dq l == bx)=true then _ else _) _ _ s;refine wn (show ¬ ((dq l == bx)=true) from au) ?_;show wpAny _ _ (field (.ref it) 1 >>= _) _ _ s;refine aa (b9 ho hd (x:=.int i 0) rfl ?_);show wpAny _ _ (ii (.ref l) >>= _) _ _ s;refine aa (cJ hol hdl ?_);simp only[hV,hx]
 refine aa (dT (aa (eI ho hd (by exact am tt) ?_)));show wpAny _ _ (newExc (.type "StopIteration") [] >>= _) _ _ _;refine aa ?_;simp only[newExc,kg]
 refine aa (bj ?_ (by exact am tt));refine aa (m:=gF _ _) (cI (a:=bx) (by first | rfl | (simp only[gF];rfl)) ?_);refine bj ?_ (by exact bm _ _);simp only[Kf]
 refine aa (uq ?_);refine(show A.in1.handled=none from hh).symm▸?_;refine aa (af (lM ?_));refine aa (gG (T:="StopIteration") (b:=true) ⟨_,aA _ rfl,rfl⟩ CP ?_);exact af (hQ _ (((b8 ..).extBut.push _).push _))
theorem D9(hh:A.handled=none)(I ax:Addr)(hne:ax≠I)(ol:Obj)(items:Array Value)(nl:Nat)(hdl:ol.data= .seq items nl):
  Walks prog w A I [I,ax] [I] items.size (fun i v=>items[i]?=some v) (fun i h=>h.IsListIter I ax i∧h.get? ax=some ol) where
 sub:=fun b hb=>by simp at hb;simp[hb]
 frame:=fun _ _ _ st hk=>⟨st.1.at fun o e=>hk I (by simp) o e,hk ax (by simp) _ st.2⟩
 item:=fun i s Q E hi st hQ=>by
  refine vr st.1 st.2 hdl (x:=items[i]) (by simp[hi]) fun h' hit' hs'=>?_;exact hQ _ h' s.toks (by simp[hi]) ⟨hit',hs'.extBut _ _ hne st.2⟩ fun b o hb e=>hs'.extBut b o (fun h=>hb (by simp[h])) e
 done:=fun s Q E st hQ=>o8 hh st.1 st.2 hdl (by simp) fun h' he'=>hQ h' s.toks fun b o hb e=>he' b o (fun h=>hb (by simp[h])) e
 self:=fun _ _ _ _ st hQ=>wpAny_pyIter_listiter st.1 hQ
theorem Fe:ca "list.__iter__" =some .slot∨ca "list.__iter__" =some .method:=by trivial
theorem BV:lC "list.__iter__" =some ("list","__iter__"):=by decide +kernel
theorem vx{a:Addr}{o:Obj}{Q:Value→Shared→Prop}(b:ey s.heap)(ho:s.heap.get? a=some o)(hc:o.cls= .ref 122)
  (hQ:Q (.ref s.heap.objs.size) { s with heap:=s.heap.push { cls:=.type "list_iterator",data:=.fields #[.ref a, .int 0 0] } }):wpAny (model prog w) A (pyIter (.ref a)) Q E s:=by
 have L:=jg (M:=model prog w) b ho hc LI;have key:wpAny (model prog w) A (call (.builtin "list.__iter__") [.ref a]) (fun it s'=>∃ T' r,s'.TypeIs it T'∧eA (.type T') "__next__" =pure (some r)∧Q it s') E s:=by
  refine fK CO.plain Fe BV entry_list_iter (args_list_iter _) (mK b ho hc) ?_;show wpAny _ _ (do ret (← newFields "list_iterator" [.ref a,rawInt 0])) _ _ s;exact aa (bj (af ⟨"list_iterator",_,⟨_,aA _ rfl,rfl⟩,dU.lookup,hQ⟩))
 refine wq (pyIter.eq_1 ..) ?_;refine aa (L.here ?_);show wpAny (model prog w) A (lP (.ref a) "__iter__" _ >>= _) Q E s;refine aa ?_;simp only[lP,bindSpecialIfBound?]
 refine aC (aa (aa (L.here ?_)));simp only[CO.bind]
 refine aa (lw (wpAny_ite ?_));have fin:∀ {R:Option Value→Shared→Prop} {refuse:Sem Value},(∀ it s',(∃ T' r,s'.TypeIs it T'∧eA (.type T') "__next__" =pure (some r)∧Q it s')→R (some it) s')→
   wpAny (model prog w) A (if (Value.builtin "list.__iter__" == bx)=true then (refuse >>= fun v=>pure (some v))else (call (.builtin "list.__iter__") [.ref a] >>= fun v=>pure (some v))) R E s:=fun hR=>by
  refine wn au ?_;exact aa (aK key (fun v s' h'=>af (hR v s' h')) fun _ _ h'=>h')
 have post:∀ it s',(∃ T' r,s'.TypeIs it T'∧eA (.type T') "__next__" =pure (some r)∧Q it s')→wpAny (model prog w) A (F8 it "__next__" >>= fun r=>match r with
   | none=>do rule "iter.non-iterator";raiseError "TypeError" s!"iter() returned non-iterator of type '{← typeNameOf it}'"
   | some _=>pure it) Q E s':=fun it s' hP=>by obtain⟨T',r,hT',hl,hq⟩:=hP;exact aa (dA hT' hl (af hq))
 split
 ·exact aa (af (af (fin fun it s' h'=>post it s' h')))
 ·exact fy (aa (af (af (fin fun it s' h'=>post it s' h'))))
end
end
section
open PySem.W PySem.SeqAt PySem.Builtin.Str
inductive lS(H:Hp):V→List V→Prop
 | lst (a:Addr) (l:List V):lS H (.lst a l) l
 | acc (a:Addr) (l:List V):lS H (.acc a l) l
 | ref {a:Addr} {mo:bW} {l:List V}:iK H a mo→uB mo l→lS H (.ref a) l
noncomputable def Gf(cls:Value)(dd:Option Addr)(vs:List Value)(n:Nat):Obj:={ cls:=cls,dict:=dd,data:=.seq vs.toArray n }
section
variable{c:Cx}{vals:List V}{H H':Hp}{EX:dK}{s:Shared}{Q:V→List V→Hp→Prop}
theorem Rel.row(r:Rel c vals H s){a:V}{l:List V}{v:Value}(hr:lS H a l)(z:VR s.heap (c.X H) a v):
  ∃ ad cls dd vs n,v= .ref ad∧s.heap.get? ad=some (Gf cls dd vs n)∧dP s.heap (c.X H) l vs∧(cls= .type "list" ∨cls= .ref 122):=by
 cases hr with
 | lst a l=>cases z.iLst with | mk e n zs=>exact⟨_,_,_,_,_,rfl,e,zs, .inl rfl⟩
 | acc a l=>cases z.iAcc with | mk e n zs=>exact⟨_,_,_,_,_,rfl,e,zs, .inr rfl⟩
 | ref hm hr=>
  cases z.iRef;have m:=r.objs _ _ hm.mem
  cases hr with
  | list l=>obtain⟨vs,n,e,z⟩:=m;exact⟨_,_,_,vs,n,rfl,e,z, .inl rfl⟩
  | acc d l=>obtain⟨vs,n,e,z,_⟩:=m;exact⟨_,_,_,vs,n,rfl,e,z, .inr rfl⟩
theorem k6{a:V}{l:List V}(hr:lS H a l):D7 c vals H a:=fun s v r z P E h=>by
 refine nn fun hG=>?_;obtain⟨ad,cls,dd,vs,n,hE1,e,zs,hc⟩:=r.row hr z;refine hG ?_;clear hG;subst hE1;rcases hc with rfl | rfl
 ·exact pK (s:=s) (T:="list") (show s.TypeIs (.ref _) "list" from ⟨_,e,rfl⟩) iw.lookup h
 ·unfold q8;exact aa ((jg r.base e rfl xm).here (af h))
theorem EM(P:Params):mroIn (KF P) 122 (.type "collections.deque")=some false:=rfl
theorem vq{M:Model}{A:Around}{E:Value→Shared→Prop}{a:Addr}{o:Obj}(b:ey s.heap)(ho:s.heap.get? a=some o)(hc:o.cls= .ref 122){k:Value}{name:Str}{P:Value→Shared→Prop}(h:P k s):wpAny M A (sequenceKey (.ref a) k name) P E s:=by
 obtain⟨p,fr⟩:=b.frag;have hd:Looks M s.heap (fQ (.ref 122) (.type "collections.deque")) false:=looks_mroIn fr (EM p);unfold sequenceKey;refine aa ((oH ho hc).here ?_)
 dsimp only
 have e:List.anyM (fun n=>fQ (dq 122) (eX n)) seqItemTypes=(fQ (.ref 122) (.type "collections.deque") >>= fun b=>match b with | true=>pure true | false=>pure false):=rfl;refine e.symm▸?_;exact aa (aa (hd.here (af (af h))))
end
end
section
open PySem.W PySem.SeqAt PySem.Builtin.Str
theorem rP:ca "list.__getitem__" =some .slot∨ca "list.__getitem__" =some .method:=by decide +kernel
theorem qe:lC "list.__getitem__" =some ("list","__getitem__"):=by decide +kernel
section
variable{c:Cx}{vals:List V}{H H':Hp}{EX:dK}{s:Shared}{Q:V→List V→Hp→Prop}
theorem o0(b:ey s.heap){a:Addr}{cls:Value}{dd:Option Addr}{vs:List Value}{n:Nat}(ho:s.heap.get? a=some (Gf cls dd vs n))(hc:cls= .type "list" ∨cls= .ref 122){k:Value}{P E:Value→Shared→Prop}
  (h:wpAny c.M c.A.in1 (Builtin.«list.__getitem__» ⟨[.ref a,k],[]⟩) (fun fin s'=>match fin with | .done f=>wants P E (.ok f) s' | .again c'=>c'.quiet=true∧cb c.M c.A c' (wants P E) s') (fun e s'=>wants P E (.error e) s') s):wpAny c.M c.A (mT (.ref a) k) P E s:=by
 refine wq (getItem.eq_1 ..) ?_
 try with_reducible refine aC ?_
 first | refine aa (af ?_) | skip
 rcases hc with rfl | rfl
 ·have hT:s.TypeIs (.ref a) "list" :=⟨_,ho,rfl⟩
  refine aa (wpAny_sequenceKey hT (by decide) ?_);refine aa (cS (name:=cE "__getitem__") hT iw ?_);exact aK (fK iw.plain rP qe entry_list_getitem (args_list_getitem _ _) (sC ho rfl) h) (fun _ _ h=>af h) fun _ _ h=>h
 ·refine aa (vq b ho rfl ?_);refine aa ?_;refine wq (callSpecial?.eq_1 ..) ?_;refine aa ((jg b ho rfl xm).here ?_);simp only[iw.bind]
  refine aC (aa (af (aa ?_)));exact aK (fK iw.plain rP qe entry_list_getitem (args_list_getitem _ _) (mK b ho rfl) h) (fun _ _ h=>af (af h)) fun _ _ h=>h
theorem ud{a:V}{l:List V}{k:Int}{x:V}(hr:lS H a l)(h0:0≤k)(hk:l[k.toNat]?=some x)(hl:l.length≤av)(q:Q x vals H):T2 c vals H a (.int k) mT VR Q EX:=fun s v u r z z'=>by
 cases z'.iInt with
 | mk _ t=>
  refine nn fun hG=>?_;obtain⟨ad,cls,dd,vs,n,hE1,e,zs,hc⟩:=r.row hr z;refine hG ?_;clear hG;subst hE1;refine nn fun hG=>?_;obtain⟨y,hy,zy⟩:=zs.get hk;refine hG ?_;clear hG;have hlt:k.toNat<l.length:=(aX.mp hk).1;refine o0 r.base e hc ?_;show wpAny _ _ (dF (.int k t) >>= _) _ _ s;refine aa (wpAny_listSubscript_int (fitsIndex_of h0 (by simp only[av]at hl;omega)) ?_);obtain⟨j,rfl⟩:=Int.eq_ofNat_of_zero_le h0;have hx':vs.toArray[j]?=some y:=by simpa using hy
  show wpAny _ _ ((seqItemAt ad j >>= fun r=>pure (r.map (j,·))) >>= _) _ _ s;refine aa (aa (wpAny_seqItemAt e rfl (af ?_)));refine hx'.symm▸?_
  first
   | exact aa (af (af (a8.intro r (aN.refl _ _) zy q)))
   | exact af (a8.intro r (aN.refl _ _) zy q)
noncomputable def KY(c:Cx)(vals:List V)(H:Hp)(a:V)(lo hi st:Option Int)(Q:V→List V→Hp→Prop)(EX:dK):Prop:=
 ∀ s v sl vl vu vt,Rel c vals H s→VR s.heap (c.X H) a v→s.heap.get? sl=some { cls:=.type "slice",data:=.fields #[vl,vu,vt] }→IsPart vl lo→IsPart vu hi→IsPart vt st→
  wpAny c.M c.A (mT v (.ref sl)) (a8 c H s VR Q) (cF c H s EX) s
inductive N3(c:Cx)(a:V)(lo hi:Option Int)(Q:QV)(EX:dK)(st:Option Int)(vals:List V)(H:Hp):Prop
 | mk (g:D7 c vals H a) (h:KY c vals H a lo hi st Q EX)
noncomputable abbrev NE(c:Cx)(step:Option Expr)(a:V)(lo:Option Int)(Q:QV)(EX:dK):Option Int→List V→Hp→Prop:=fun hi vals H=>Ng c EX (N3 c a lo hi Q EX) step vals H
noncomputable abbrev NF(c:Cx)(upper step:Option Expr)(a:V)(Q:QV)(EX:dK):Option Int→List V→Hp→Prop:=fun lo vals H=>Ng c EX (NE c step a lo Q EX) upper vals H
noncomputable abbrev NG(c:Cx)(lower upper step:Option Expr)(Q:QV)(EX:dK):QV:=fun a vals H=>Ng c EX (NF c upper step a Q EX) lower vals H
theorem fe{value:Expr}{lower upper step:Option Expr}{p pos:Pos}
  (h:Ev c vals H value (NG c lower upper step Q EX) EX):
  Ev c vals H (.Subscript value (.Slice lower upper step p) pos) Q EX:=by
 intro s r;rw[arm_eval_Subscript];refine aa (bO (h s r) fun v s₁ a vals₁ H₁ r₁ S₁ z₁ h₁=>?_);refine aa (aC ?_);rw[arm_eval_Slice];refine aa (df S₁ (yg h₁ s₁ r₁) fun vl s₂ lo vals₂ H₂ r₂ S₂ T₂ pl h₂=>?_);refine aa (aC (df T₂ (yg h₂ s₂ r₂) fun vu s₃ hi vals₃ H₃ r₃ S₃ T₃ pu h₃=>?_));refine aa (aC (df T₃ (yg h₃ s₃ r₃) fun vt s₄ st vals₄ H₄ r₄ S₄ T₄ pt hP=>?_));obtain⟨hb,hs⟩:=hP;have z₄:=((z₁.go S₂).go S₃).go S₄;refine bj (T:="slice") (data:=.fields #[vl,vu,vt]) ?_ (by exact bm _ _);have k₅:∀ b o,s₄.heap.get? b=some o→(s₄.heap.push { cls:=.type "slice",data:=.fields #[vl,vu,vt] }).get? b=some o:=fun b o e=>al _ e;have r₅:Rel c vals₄ H₄ { s₄ with heap:=s₄.heap.push { cls:=.type "slice",data:=.fields #[vl,vu,vt] } }:=r₄.keeps k₅ r₄.gens rfl;have S₅:aN s₄.heap (c.Z H₄) (s₄.heap.push { cls:=.type "slice",data:=.fields #[vl,vu,vt] }) (c.Z H₄):=aN.keeps k₅;have z₅:=z₄.go S₅;refine aa (be (aa (hb _ v r₅ z₅ _ _ ?_)));have hsub:∀ o i,Kl (.Slice lower upper step p) false o i=operate [i,o] (mT o i)∨Kl (.Slice lower upper step p) false o i=operate [o,i] (mT o i):=by
  intro o i
  cases step with
  | none=>exact .inl rfl
  | some _=>exact .inr rfl
 have main:=hs _ v s₄.heap.objs.size vl vu vt r₅ z₅ (aA _ rfl) pl pu pt;rcases hsub v (.ref s₄.heap.objs.size)with e | e<;>rw[e]<;>
  exact aa (A3 (df (T₄.trans S₅) main fun x s₆ d vals₆ H₆ r₆ _ S₆ z₆ q=>aa (sQ (af (a8.intro r₆ S₆ z₆ q)))))
theorem mh{a:V}{l:List V}{lo hi st:Option Int}(hr:lS H a l)(h0:st≠some 0)(hl:l.length≤av)(q:∀ D,Q (.lst D (gJ l lo hi st)) vals H):KY c vals H a lo hi st Q EX:=fun s v sl vl vu vt r z hsl pl pu pt=>by
 refine nn fun hG=>?_;obtain⟨ad,cls,dd,vs,n,hE1,e,zs,hc⟩:=r.row hr z;refine hG ?_;clear hG;subst hE1;have hlen:vs.length=l.length:=zs.length.symm;have hTs:s.TypeIs (.ref sl) "slice" :=⟨_,hsl,rfl⟩
 have k₆:∀ b o,s.heap.get? b=some o→(s.heap.push { cls:=.type "list",data:=.seq (pS vs.toArray lo hi st) }).get? b=some o:=fun b o e=>al _ e;have S₆:aN s.heap (c.Z H) (s.heap.push { cls:=.type "list",data:=.seq (pS vs.toArray lo hi st) }) (c.Z H):=aN.keeps k₆;have fin:a8 c H s VR Q (.ref s.heap.objs.size) { s with heap:=s.heap.push { cls:=.type "list",data:=.seq (pS vs.toArray lo hi st) } }:=by
  refine a8.intro (b:=.lst s.heap.objs.size (gJ l lo hi st)) (r.keeps k₆ r.gens rfl) S₆ ?_ (q _);refine .lst (n:=0) (vs:=(pS vs.toArray lo hi st).toList) (by
   have q:=aA s.heap (o:={ cls:=.type "list",data:=.seq (pS vs.toArray lo hi st) }) rfl;simpa[ic]using q) (fun hx=>?_) ((zs.pick lo hi st).go S₆)
  obtain⟨o,e⟩:=r.there _ hx;exact r.none_at_size o e
 refine o0 r.base e hc ?_;show wpAny _ _ (dF (.ref sl) >>= _) _ _ s;refine aa ?_;refine wq (Builtin.List.listSubscript?.eq_1 ..) ?_;refine aa (dA hTs slice_no_index ?_);refine wy rfl ?_;refine af ?_;show wpAny _ _ (typeOf (.ref sl) >>= _) _ _ s;refine aa (wpAny_typeOf hTs ?_);refine wn (by decide) ?_;rw[listSliceParts_eq];have hstep: ¬ ((rawPart st == rawInt 0)=true):=by
  cases st with
  | none=>exact au
  | some c=>
   intro hh;have:c=0:=by simpa[rawPart,rawInt]using hh
   exact h0 (by rw[this])
 refine aa (aa (b9 hsl rfl (x:=vt) rfl (aa (kq pt ?_))));refine wn hstep ?_;refine aa (b9 hsl rfl (x:=vl) rfl (aa (kq pl ?_)));refine aa (b9 hsl rfl (x:=vu) rfl (aa (kq pu (af ?_))));refine aa (m:=eu (.ref ad)) ?_;refine wq (Builtin.List.listItems.eq_1 ..) ?_;refine aa (cJ e rfl (af ?_));refine aa (cI (sliceIndices_raw lo hi st vs.toArray.size h0) ?_);exact aa (bj (af fin) (aU (slicePick_size_le vs.toArray lo hi st) (by rw[aI,hlen];exact hl)))
theorem Gx{x:Str}{lo hi:Option Int}(hl:x.length≤av)(q:Q (.str (Kq x lo hi)) vals H):KY c vals H (.str x) lo hi none Q EX:=fun s v sl vl vu vt r z hsl pl pu pt=>by
 cases z.iStr with
 | mk _ t=>
  have hp:∀ {v:Value} {k:Option Int},IsPart v k→∃ l:Option (Int×Tok),v=partValue l∧l.map (·.1)=k:=by
   intro v k h
   cases h with
   | none=>exact⟨none,rfl,rfl⟩
   | int i t=>exact⟨some (i,t),rfl,rfl⟩
  refine nn fun hG=>?_;obtain⟨l,hE1,hE2⟩:=hp pl;refine hG ?_;clear hG;subst hE1;subst hE2;refine nn fun hG=>?_;obtain⟨u,hE1,hE2⟩:=hp pu;refine hG ?_;clear hG;subst hE1;subst hE2;cases pt;refine wpAny_getItem_str_slice (l:=l) (u:=u) (st:=none) ⟨_,hsl,rfl,rfl⟩ rfl ?_
  cases l with
  | none=>
   cases u with
   | none=>exact q7 ⟨aU (pj x _ _) hl,fun t' k=>a8.intro (r.toks _) (aN.refl _ _) (.str _ _) q⟩
   | some u=>exact q7 ⟨aU (pj x _ _) hl,fun t' k=>a8.intro (r.toks _) (aN.refl _ _) (.str _ _) q⟩
  | some l=>
   cases u with
   | none=>exact q7 ⟨aU (pj x _ _) hl,fun t' k=>a8.intro (r.toks _) (aN.refl _ _) (.str _ _) q⟩
   | some u=>exact q7 ⟨aU (pj x _ _) hl,fun t' k=>a8.intro (r.toks _) (aN.refl _ _) (.str _ _) q⟩
end
end
section
open PySem.W PySem.SeqAt PySem.Builtin.Str
section
variable{c:Cx}{vals:List V}{H H':Hp}{EX:dK}{s:Shared}{Q:V→List V→Hp→Prop}
theorem nf{b:Bool}{Q:Bool→List V→Hp→Prop}(q:Q b vals H):T1 c vals H (.bool b) truthy BR Q EX:=fun s v r z=>by
 cases z.iBool;exact fY (a8.intro r (aN.refl _ _) rfl q)
theorem xR{x:Str}{Q:Bool→List V→Hp→Prop}(hl:x.length≤av)(q:Q (decide (x.length≠0)) vals H):T1 c vals H (.str x) truthy BR Q EX:=fun s v r z=>by
 cases z.iStr;refine P.truthy_str (by simp only[av]at hl;omega) (a8.intro (r.toks _) (aN.refl _ _) ?_ q);show _=_;by_cases h:x.length=0
 ·simp[h]
 ·rw[aP h];exact bne_iff_ne.mpr (by lia)
theorem Li{l:List V}{Q:Bool→List V→Hp→Prop}(hl:l.length≤av)(q:Q (!l.isEmpty) vals H):T1 c vals H (.tup l) truthy BR Q EX:=fun s v r z=>by
 cases z.iTup with
 | @mk _ vs m e n zs=>
  have hle:=zs.length;refine PyProof.Rows.truthy_tuple ⟨_,e,rfl,_,rfl⟩ (by rw[aI,← hle];simp only[av]at hl;omega) (a8.intro (r.toks _) (aN.refl _ _) ?_ q);show _=_
  cases l with
  | nil=>cases zs.iNil;rfl
  | cons=>cases zs.iCons;rfl
theorem Je{ad:Addr}{l:List V}{Q:Bool→List V→Hp→Prop}(hm:iK H ad (.list l))(hl:l.length≤av)(q:Q (!l.isEmpty) vals H):T1 c vals H (.ref ad) truthy BR Q EX:=fun s v r z=>by
 cases z.iRef;refine nn fun hG=>?_;obtain⟨vs,n,e,zs⟩:=r.objs _ _ hm.mem;refine hG ?_;clear hG;have hle:=zs.length;refine wpAny_truthy_list (items:=vs.toArray) ⟨_,e,rfl,_,rfl⟩ (by rw[aI,← hle];simp only[av]at hl;omega) (a8.intro (r.toks _) (aN.refl _ _) ?_ q);show _=_
 cases l with
 | nil=>cases zs.iNil;rfl
 | cons=>cases zs.iCons;rfl
theorem Nc{e₁ e₂:Expr}{pos:Pos}(h:Ev c vals H e₁ (fun a vals₁ H₁=>T1 c vals₁ H₁ a truthy BR (fun b vals₂ H₂=>if b=true then Q a vals₂ H₂ else Ev c vals₂ H₂ e₂ Q EX) EX) EX):Ev c vals H (.BoolOp .Or [e₁,e₂] pos) Q EX:=fun s r=>by
 refine BoolOp_or (bO (h s r) fun v s₁ a vals₁ H₁ r₁ S₁ z₁ h₁=>df S₁ (h₁ s₁ v r₁ z₁) fun b s₂ b' vals₂ H₂ r₂ S₂ T₂ zb q=>?_);cases zb
 cases b with
 | true=>exact a8.intro r₂ T₂ (z₁.go S₂) (by trivial)
 | false=>
  simp only[aW,cj]at q ⊢;exact BoolOp_one (dg T₂ (q s₂ r₂))
theorem JJ(hh:c.A.handled=none){N:List Addr}{ad:Addr}{cls:Value}{dd:Option Addr}{vs:List Value}{n:Nat}{l:List V}(r:Rel c vals H s)(ho:s.heap.get? ad=some (Gf cls dd vs n))(hN:ad∉N)(zs:dP s.heap (c.X H) l vs):
  Itr c H N l s.heap.objs.size s { s with heap:=s.heap.push { cls:=.type "list_iterator",data:=.fields #[.ref ad, .int 0 0] } }:=by
 have hne:ad≠s.heap.objs.size:=fun q=>r.none_at_size _ (q▸ho);have hl:l.length=vs.toArray.size:=by rw[zs.length];simp
 refine⟨fun b o e=>al _ e,rfl,rfl,r.none_at_size,r.size,⟨_,aA _ rfl⟩,[s.heap.objs.size,ad],_,_,hl▸D9 hh _ ad hne (Gf cls dd vs n) vs.toArray n rfl,?_,?_,?_,?_,?_⟩
 ·exact⟨⟨_,aA _ rfl,rfl,rfl⟩,al _ ho⟩
 ·exact all2 (.inl rfl) (.inr ⟨hN,_,ho⟩)
 ·intro i v hv hi;have hv:vs[i]?=some v:=by simpa using hv
  obtain⟨a,ha⟩:∃ a,l[i]?=some a:=⟨l[i],by simp[hi]⟩
  refine nn fun hG=>?_;obtain⟨v',hv',z⟩:=zs.get ha;refine hG ?_;clear hG;rw[hv]at hv';cases hv';exact⟨a,ha,z⟩
 ·exact fun i h st=>st.1.imp fun o h=>h.1
 ·exact fun i s' t v Q E st q=>st.1.elim fun o h=>rG h.1 h.2.1 (by decide) t v q
theorem B5(b:ey s.heap){ad:Addr}{cls:Value}{dd:Option Addr}{vs:List Value}{n:Nat}(ho:s.heap.get? ad=some (Gf cls dd vs n))(hc:cls= .type "list" ∨cls= .ref 122){P E:Value→Shared→Prop}
  (h:P (.ref s.heap.objs.size) { s with heap:=s.heap.push { cls:=.type "list_iterator",data:=.fields #[.ref ad, .int 0 0] } }):wpAny c.M c.A (pyIter (.ref ad)) P E s:=by
 rcases hc with rfl | rfl
 ·exact ku (items:=vs.toArray) ⟨_,ho,rfl,_,rfl⟩ h
 ·exact vx b ho rfl h
theorem lW(ok:c.Ok)(hh:c.A.handled=none){a:V}{l:List V}(hr:lS H a l):zK c vals H a l:=fun s v r z P E k=>by
 have hN:∀ ad,v= .ref ad→ad∉TB:=by
  rintro ad rfl
  cases hr with
  | lst a l=>cases z.iLst with | mk e n zs=>exact fun t=>n (aj _ (ok.tb _ t))
  | acc a l=>cases z.iAcc with | mk e n zs=>exact fun t=>n (aj _ (ok.tb _ t))
  | ref hm _=>
   cases z.iRef;refine c4 ok r (ak _ (bP.mpr ⟨_,hm.mem,?_⟩));exact fc _ _
 refine nn fun hG=>?_;obtain⟨ad,cls,dd,vs,n,hE1,e,zs,hc⟩:=r.row hr z;refine hG ?_;clear hG;subst hE1;exact B5 r.base e hc (k _ _ (JJ hh r e (hN _ rfl) zs))
theorem BD(hh:c.A.handled=none){l:List V}:Bn c vals H (.tup l) l:=fun s v r z P E k=>by
 cases z.iTup with
 | @mk ad vs m e n zs=>
  refine wpAny_pyIter_tuple ⟨_,e,rfl,_,rfl⟩ (k _ _ ?_);have hne:ad≠s.heap.objs.size:=fun q=>r.none_at_size _ (q▸e);have hl:l.length=vs.toArray.size:=by rw[zs.length];simp
  refine⟨fun b o e=>al _ e,rfl,rfl,r.none_at_size,r.size,⟨_,aA _ rfl⟩,[s.heap.objs.size,ad],_,_,hl▸Walks.tuple hh _ ad hne vs.toArray,?_,?_,?_,?_,?_⟩
  ·exact⟨⟨_,aA _ rfl,rfl,rfl⟩,⟨_,al _ e,rfl,_,rfl⟩⟩
  ·exact all2 (.inl rfl) (.inr ⟨n,_,e⟩)
  ·intro i v hv hi;have hv:vs[i]?=some v:=by simpa using hv
   obtain⟨a,ha⟩:∃ a,l[i]?=some a:=⟨l[i],by simp[hi]⟩
   refine nn fun hG=>?_;obtain⟨v',hv',z⟩:=zs.get ha;refine hG ?_;clear hG;rw[hv]at hv';cases hv';exact⟨a,ha,z⟩
  ·exact fun i h st=>st.1.imp fun o h=>h.1
  ·exact fun i s' t v Q E st q=>st.1.elim fun o h=>rG h.1 h.2.1 (by decide) t v q
end
end
section
open PySem.W PySem.SeqAt PySem.Builtin.Str
theorem s8:Slot "wrapper_descriptor" "__get__" "wrapper_descriptor.__get__" :=.of (owner:="wrapper_descriptor") (n:="__get__") (by rw[dB,cq];kernel_rfl) (by decide +kernel) (by decide +kernel) (by decide +kernel)
 (by first | exact .inl (by decide +kernel) | exact .inr (by decide +kernel)) (by rw[dM];kernel_rfl)
theorem rS:km table "wrapper_descriptor.__get__" =some Builtin.«wrapper_descriptor.__get__» :=i9 (by kernel_rfl)
theorem tD(a b c:Value):argsOk "wrapper_descriptor.__get__" ⟨[a,b,c],[]⟩:=by unfold argsOk;kernel_rfl
theorem Av:Slot "method_descriptor" "__get__" "method_descriptor.__get__" :=.of (owner:="method_descriptor") (n:="__get__") (by rw[dB,cq];kernel_rfl) (by decide +kernel) (by decide +kernel) (by decide +kernel)
 (by first | exact .inl (by decide +kernel) | exact .inr (by decide +kernel)) (by rw[dM];kernel_rfl)
theorem yO:km table "method_descriptor.__get__" =some Builtin.«method_descriptor.__get__» :=i9 (by kernel_rfl)
theorem AU(a b c:Value):argsOk "method_descriptor.__get__" ⟨[a,b,c],[]⟩:=by unfold argsOk;kernel_rfl
section
variable{prog:dt}{w:World}{A:Around}{E:Value→Shared→Prop}{h:Heap}{g:Array sN}{d:Drawn}{t:Nat}{os:qR}
theorem Ey: ".".intercalate ("list.__len__".cutAt '.').dropLast= "list" :=by decide +kernel
theorem Cc: ".".intercalate ("list.__init__".cutAt '.').dropLast= "list" :=by decide +kernel
theorem Ex: ".".intercalate ("list.pop".cutAt '.').dropLast= "list" :=by decide +kernel
theorem Kt{x:Addr}{ox:Obj}{id:String}(hid:id= "list.__len__" ∨id= "list.__init__"){Q:Fin→Shared→Prop}(b:ey h)(hx:h.get? x=some ox)(hc:ox.cls= .ref 122)
  (hq:Q (.done (.ret (.ref h.objs.size))) ⟨h.push { cls:=.type "method-wrapper",data:=.fields #[.builtin id, .ref x] },g,d,t,os⟩):
  wpAny (model prog w) A (Builtin.«wrapper_descriptor.__get__» ⟨[.builtin id, .ref x, .ref 122],[]⟩) Q E ⟨h,g,d,t,os⟩:=by
 obtain⟨P,fr⟩:=b.frag;have hs:Looks (model prog w) h (fQ (.ref 122) (.type "list")) true:=looks_mroIn fr (ue P);unfold Builtin.«wrapper_descriptor.__get__»;rcases hid with rfl | rfl
 all_goals
  repeat (first | wp_step | dsimp only)
  first | rw[hc,Ey] | rw[hc,Cc]
  refine Looks.at hs ?_;refine wn au ?_;refine af (aa (bj (af ?_) (by size_fits)));exact hq
theorem ML{x:Addr}{ox:Obj}{Q:Fin→Shared→Prop}(b:ey h)(hx:h.get? x=some ox)(hc:ox.cls= .ref 122)
  (hq:Q (.done (.ret (.ref h.objs.size))) ⟨h.push { cls:=.type "builtin_function_or_method",data:=.fields #[.builtin "list.pop", .ref x] },g,d,t,os⟩):
  wpAny (model prog w) A (Builtin.«method_descriptor.__get__» ⟨[.builtin "list.pop", .ref x, .ref 122],[]⟩) Q E ⟨h,g,d,t,os⟩:=by
 obtain⟨P,fr⟩:=b.frag;have hs:Looks (model prog w) h (fQ (.ref 122) (.type "list")) true:=looks_mroIn fr (ue P);unfold Builtin.«method_descriptor.__get__»
 repeat (first | wp_step | (rw[told_pop]) | dsimp only)
 refine hc.symm▸?_;refine Ex.symm▸?_;refine Looks.at hs ?_;refine wn au ?_;refine af (aa (bj (af ?_) (by exact bm _ _)));exact hq
end
theorem FL(P:Params):alongIn (KF P) "__len__" [.type "list", .type "object"]=some (some (.builtin "list.__len__")):=by kernel_rfl
theorem CG(P:Params):alongIn (KF P) "__init__" [.type "list", .type "object"]=some (some (.builtin "list.__init__")):=by kernel_rfl
theorem FK(P:Params):alongIn (KF P) "pop" [.type "list", .type "object"]=some (some (.builtin "list.pop")):=by kernel_rfl
theorem Ed:typeOf (.builtin "list.__len__")=pure (.type "wrapper_descriptor"):=by show y8 _=_;rw[mw];kernel_rfl
theorem BO:typeOf (.builtin "list.__init__")=pure (.type "wrapper_descriptor"):=by show y8 _=_;rw[mw];kernel_rfl
theorem Ec:typeOf (.builtin "list.pop")=pure (.type "method_descriptor"):=by show y8 _=_;rw[mw];kernel_rfl
theorem ny(P:Params){M:Model}{h:Heap}(X:(KF P).In h):Looks M h (mroOf (.ref 122)) [.ref 122, .type "list", .type "object"]:=by
 have e:clsIn (KF P) 122=some { name:="_Accumulator",bases:=[.type "list"],mro:=[.ref 122, .type "list", .type "object"],ns:=121,qualname:="_Accumulator" }:=rfl;exact(looks_clsIn X e).andThen .now
set_option tactic.hygienic true in
theorem EG{M:Model}{h:Heap}(b:ey h):Looks M h (opaqueClassAbove (.ref 122)) none:=by
 refine nn fun hG=>?_;obtain⟨o,ho,hl⟩:=b.stat;refine hG ?_;clear hG;exact looks_opaque (K:=[(Kh,o)]) (by
  intro a o' e;rw[c0]at e
  split at e
  ·rename_i h;cases e;rw[eP.mp h];exact ho
  ·cases e) (by
  refine nn fun hG=>?_;obtain⟨oc,od,odt,osl⟩:=o;refine hG ?_;clear hG;have e:nsIn [(Kh,({ cls:=oc,dict:=od,data:=odt,slots:=osl }:Obj))] Kh "thirdparty.any" =lookIn "thirdparty.any" { cls:=oc,dict:=od,data:=odt,slots:=osl }:=by
   cases odt<;>rfl
  rw[e];exact hl)
end
section
open PySem.W PySem.SeqAt PySem.Builtin.Str
structure D4(name:Str)(id D gid bt:String):Prop where
 along:∀ P,alongIn (KF P) name [.type "list", .type "object"]=some (some (.builtin id))
 ty:typeOf (.builtin id)=pure (.type D)
 slot:Slot D "__get__" gid
 entry:∃ B,km table gid=some B∧∀ {prog:dt} {w:World} {A:Around} {E:Value→Shared→Prop} {h:Heap} {g:Array sN} {d:Drawn} {t:Nat} {os:qR} {x:Addr} {ox:Obj} {Q:Fin→Shared→Prop},ey h→h.get? x=some ox→ox.cls= .ref 122→
  Q (.done (.ret (.ref h.objs.size))) ⟨h.push { cls:=.type bt,data:=.fields #[.builtin id, .ref x] },g,d,t,os⟩→wpAny (model prog w) A (B ⟨[.builtin id, .ref x, .ref 122],[]⟩) Q E ⟨h,g,d,t,os⟩
 args:∀ a b c:Value,argsOk gid ⟨[a,b,c],[]⟩
 nc:(name == ("__class__" :Str))=false
theorem Ji:D4 "__len__" "list.__len__" "wrapper_descriptor" "wrapper_descriptor.__get__" "method-wrapper" :=
 ⟨FL,Ed,s8,⟨_,rS,fun b hx hc q=>Kt (.inl rfl) b hx hc q⟩,tD,by decide⟩
theorem Hi:D4 "__init__" "list.__init__" "wrapper_descriptor" "wrapper_descriptor.__get__" "method-wrapper" :=
 ⟨CG,BO,s8,⟨_,rS,fun b hx hc q=>Kt (.inr rfl) b hx hc q⟩,tD,by decide⟩
theorem Jh:D4 "pop" "list.pop" "method_descriptor" "method_descriptor.__get__" "builtin_function_or_method" :=
 ⟨FK,Ec,Av,⟨_,yO,fun b hx hc q=>ML b hx hc q⟩,AU,by decide⟩
section
variable{prog:dt}{w:World}{A:Around}{E:Value→Shared→Prop}{h:Heap}{g:Array sN}{d:Drawn}{t:Nat}{os:qR}
theorem Hf{name:Str}{id D gid bt:String}(S:D4 name id D gid bt){so x:Addr}{ox:Obj}{tk:Tok}{Q:Fin→Shared→Prop}
  (hso:h.get? so=some { cls:=.type "super",dict:=none,data:=.fields #[.ref 122, .ref x, .ref 122],slots:= #[] })(b:ey h)(hx:h.get? x=some ox)(hc:ox.cls= .ref 122)(hxC:x≠122)
  (hq:Q (.done (.ret (.ref h.objs.size))) ⟨h.push { cls:=.type bt,data:=.fields #[.builtin id, .ref x] },g,d,t,os⟩):
  wpAny (model prog w) A (Builtin.«super.__getattribute__» ⟨[.ref so, .str name tk],[]⟩) Q E ⟨h,g,d,t,os⟩:=by
 obtain⟨P,X⟩:=b.frag;refine nn fun hG=>?_;obtain⟨B,eB,hB⟩:=S.entry;refine hG ?_;clear hG;have hlk:=S.slot.lookup;have hne:(dq x == dq 122)=false:=by simp[hxC]
 have hno:=EG (M:=model prog w) b;have hC:=ny (M:=model prog w) P X;have hl:(([.ref 122, .type "list", .type "object"]:List Value).dropWhile (·!= .ref 122)).drop 1= [.type "list", .type "object"]:=by rfl
 have hn:=S.nc;have hty:=S.ty;have hTf:(⟨h,g,d,t,os⟩:Shared).TypeIs (.builtin id) D:=by
  first | exact hty | (show typeOf _=_;exact hty) | trivial
 have hdt:({ cls:=.type "super",dict:=none,data:=.fields #[.ref 122, .ref x, .ref 122],slots:= #[] }:Obj).data= .fields #[.ref 122, .ref x, .ref 122]:=rfl;have f0:(#[.ref 122, .ref x, .ref 122]:Array Value)[0]?=some (.ref 122):=rfl;have f1:(#[.ref 122, .ref x, .ref 122]:Array Value)[1]?=some (.ref x):=rfl;have f2:(#[.ref 122, .ref x, .ref 122]:Array Value)[2]?=some (.ref 122):=rfl;have hf:=S.along P;unfold Builtin.«super.__getattribute__»
 repeat (first
  | (with_reducible refine b9 hso hdt f0 ?_) | (with_reducible refine b9 hso hdt f1 ?_) | (with_reducible refine b9 hso hdt f2 ?_)
  | (with_reducible refine ks_wpAny_notOpaque hno ?_)
  | (with_reducible refine Looks.at hC ?_;rw[hl])
  | (refine ks_forIn_along X (fun _ _=>rfl) rfl ?_ hf)
  | (with_reducible refine wpAny_typeOf hTf ?_)
  | (with_reducible refine co S.slot hTf eB ?_ (S.args _ _ _))
  | (with_reducible refine hB b hx hc ?_)
  | (with_reducible refine⟨_,rfl,?_⟩)
  | (simp only[hn,hne,zh,aW,cj])
  | wp_step
  | dsimp only)
 all_goals exact hq
end
end
section
open PySem.W PySem.SeqAt PySem.Builtin.Str
theorem v8(x:Addr):iX "list.__len__" ⟨[.ref x],[]⟩=pure ():=by kernel_rfl
theorem tU(x:Addr):iX "list.__init__" ⟨[.ref x],[]⟩=pure ():=by kernel_rfl
theorem Jn(x:Addr):(match ij "list.pop" with | some sig=>qp "list.pop" { sig with full:=eh ("_Accumulator" :Str).toString++eh "." ++eh (Bind.lastOf "list.pop") } ⟨[.ref x],[]⟩ | none=>pure ())=pure ():=by
 rw[lG (id:="list.pop") (n:=['p','o','p']) (o:=['t','s','i','l']) (by kernel_rfl) F.owner_list];kernel_rfl
theorem Cj(P:Params):mroIn (KF P) 122 (.type "module")=some false:=rfl
section
variable{prog:dt}{w:World}{A:Around}{E:Value→Shared→Prop}{h:Heap}{g:Array sN}{d:Drawn}{t:Nat}{os:qR}
theorem tS{name:Str}{id D gid bt:String}(S:D4 name id D gid bt){so x:Addr}{ox:Obj}{pl:Sem Bool}{Q:Value×List Value→Shared→Prop}
  (hso:h.get? so=some { cls:=.type "super",dict:=none,data:=.fields #[.ref 122, .ref x, .ref 122],slots:= #[] })(b:ey h)(hx:h.get? x=some ox)(hc:ox.cls= .ref 122)(hxC:x≠122)
  (hq:Q (.ref h.objs.size,[]) ⟨h.push { cls:=.type bt,data:=.fields #[.builtin id, .ref x] },g,d,t+1,os⟩):wpAny (model prog w) A (pT (.ref so) name pl) Q E ⟨h,g,d,t,os⟩:=by
 have hlk:=t3.lookup;have hT:∀ t',(⟨h,g,d,t',os⟩:Shared).TypeIs (.ref so) "super" :=fun _=>⟨_,hso,rfl⟩
 refine wq (getMethod.eq_1 ..) ?_;refine aa (dA (hT _) hlk ?_);show wpAny _ _ (if (Manifest.canonical "super.__getattribute__" != "object.__getattribute__")=true then _ else _) _ _ _;refine wy F.ks_canon_super_ga ?_;unfold Bd getAttrBy;refine aa (aa (ko (aC (aa (wpAny_typeOf (hT _) (aa (cI hlk ?_)))))));show wpAny _ _ (q9 (.ref so) (.str name t) (.type "super") (.builtin "super.__getattribute__") true false) _ _ _;unfold q9 hookBefore yU CR;refine aa (cI (show (if onTheHeap (.type "super")then eA (.type "super") "__getattr__" else pure none)=pure none from rfl) ?_);refine aa (gg (aC ?_));show wpAny _ _ (Kp (.builtin "super.__getattribute__") (.ref so) >>= _) _ _ _;refine aa (cI (t3.bind _) ?_);refine aK (Q:=fun v s'=>v= .ref h.objs.size∧s'=⟨h.push { cls:=.type bt,data:=.fields #[.builtin id, .ref x] },g,d,t+1,os⟩) (E:=fun _ _=>False)
  (co t3 (hT _) F.ks_entry_super_ga (Hf S hso b hx hc hxC ⟨_,rfl,rfl,rfl⟩) (F.ks_gaArgs_super _ _)) (fun v s' hv=>?_) fun _ _ z=>z.elim
 obtain⟨rfl,rfl⟩:=hv;exact af (af hq)
theorem v7{x:Addr}{ox:Obj}{Q:Unit→Shared→Prop}(b:ey h)(hx:h.get? x=some ox)(hc:ox.cls= .ref 122)(hnc:∀ c,ox.data≠ .cls c)(hq:Q () ⟨h,g,d,t,os⟩):
  wpAny (model prog w) A (iX "list.pop" ⟨[.ref x],[]⟩) Q E ⟨h,g,d,t,os⟩:=by
 obtain⟨P,X⟩:=b.frag;have hm:Looks (model prog w) h (fQ (.ref 122) (.type "module")) false:=looks_mroIn X (Cj P);have h122:h.get? 122=some _:=X 122 _ rfl;have k1:ca "list.pop" =some .method:=by decide +kernel
 have k2:Manifest.varargsMethods.contains "list.pop" =false:=by decide +kernel
 obtain⟨sig,hsig⟩:∃ sig,ij "list.pop" =some sig:=cX.mp (by decide +kernel);refine wq (checkBoundCall.eq_1 ..) ?_;simp only[hsig,k1]
 show wpAny _ _ (if (Manifest.AttrKind.method != .method && Manifest.AttrKind.method != .classMethod)=true then _ else _) _ _ _;refine wn (by decide) ?_
 repeat (first | (with_reducible refine Looks.at hm ?_) | wp_step | rw[k2] | dsimp only)
 have hcd:Looks (model prog w) h (classData 122) { name:="_Accumulator",bases:=[.type "list"],mro:=[.ref 122, .type "list", .type "object"],ns:=121,qualname:="_Accumulator" }:=looks_clsIn X (rfl:clsIn (KF P) 122=some _);have ht:Looks (model prog w) h (typeOf (.ref 122)) (.type "type"):=(Looks.ld h122 (part:=none)).andThen .now;refine hc.symm▸?_;refine Looks.at hm ?_;refine wn au ?_;refine aa (ks_wpAny_isType_inst hx hnc ?_);refine wn au ?_;refine aa (Looks.at (oH hx hc) ?_)
 dsimp only
 refine aa (Looks.at hcd ?_);refine aa (Looks.at ht ?_);refine wy (by decide) ?_;have e:=Jn x;rw[hsig]at e;exact cI e hq
end
end
section
open PySem.W PySem.SeqAt PySem.Builtin.Str
section
variable{prog:dt}{w:World}{A:Around}{E:Value→Shared→Prop}{s:Shared}
theorem CD{b x:Addr}{id bt:String}{Q:Value→Shared→Prop}(hb:s.heap.get? b=some { cls:=.type bt,data:=.fields #[.builtin id, .ref x] })(hbt:bt= "method-wrapper" ∨bt= "builtin_function_or_method")
  (hck:∀ (A':Around) (Q':Unit→Shared→Prop) (E':Value→Shared→Prop),Q' () s→wpAny (model prog w) A' (iX id ⟨[.ref x],[]⟩) Q' E' s)(plain:qP id=true)
  (hq:cb (model prog w) A (.builtin id ⟨[.ref x],[]⟩) (wants Q E) s):wpAny (model prog w) A (call (.ref b) []) Q E s:=by
 refine g6 (jA ?_);show wpAny _ A.in1 (IY (.ref b) ⟨[],[]⟩) _ _ _;unfold IY;refine aa (jL hb ?_);rcases hbt with rfl | rfl
 all_goals
  dsimp only
  refine wy (by decide) ?_
  first
  | (show wpAny _ A.in1 (iX id ⟨[.ref x],[]⟩ >>= fun _=>again (.builtin id ⟨[.ref x],[]⟩)) _ _ _;exact aa (hck _ _ _ (af ⟨bY plain _,hq⟩)))
  | skip
theorem yK{b x:Addr}{id bt:String}{P:Keeper→Shared→Prop}(hb:s.heap.get? b=some { cls:=.type bt,data:=.fields #[.builtin id, .ref x] })(hbt:bt= "method-wrapper" ∨bt= "builtin_function_or_method")(h:P .machine s):
  wpAny (model prog w) A (kh (.ref b)) P E s:=by
 refine wq (keeperOf.eq_1 ..) ?_;refine aa (jL hb ?_);rcases hbt with rfl | rfl
 all_goals
  dsimp only
  refine wy (by decide) ?_;rw[if_pos (by decide)];exact af h
theorem v9{b x:Addr}{id bt:String}{pos:Pos}{env:Env}{Q:Value→Shared→Prop}(hb:s.heap.get? b=some { cls:=.type bt,data:=.fields #[.builtin id, .ref x] })(hbt:bt= "method-wrapper" ∨bt= "builtin_function_or_method")
  (h:wpAny (model prog w) A (call (.ref b) []) Q E s):wpAny (model prog w) A (fv pos (.ref b) [] (backTo pos (dD [] env)) []) Q E s:=by
 refine wq (callWith.eq_1 ..) ?_;refine aa (aC (fj (args:=[]) (P:=fun a s₁=>a=⟨[],[]⟩∧s₁=s) rfl (fW ⟨rfl,rfl⟩) |> fun h'=>aK h' (fun x s₁ h₁=>?_) fun _ _ x=>x));obtain⟨rfl,rfl⟩:=h₁;refine aa (be ?_);refine aa (m:=kh (.ref b)) (yK hb hbt ?_);show wpAny _ _ (call (.ref b) [] >>= _) _ _ _;exact aa (aK h (fun r s₂ hr=>aa (aC (nZ (af hr)))) fun _ _ x=>x)
end
end
section
open PySem.W PySem.SeqAt PySem.Builtin.Str
theorem z3(P:Params):mroIn (KF P) 122 (.ref 122)=some true:=rfl
theorem Jr:((pw.main.file:Str) == ("/claim/cut.py" :Str))=true:=by decide +kernel
theorem B6:(pw.main.scope.names.lookup ("super" :Str)).isSome=false:=by decide +kernel
theorem ey.grow{h h':Heap}(b:ey h)(k:∀ y o,h.get? y=some o→h'.get? y=some o):ey h':=b.of fun x o _ _ e=>k x o e
structure Gk(env:Env)(fa k:Addr):Prop where
 ks:env.kindOf "super" =some .globalImplicit
 kc:env.kindOf "__class__" =some .free
 kself:env.kindOf "self" =some .local
 kind:env.scope.kind= .function
 glob:env.globals=3
 blt:env.builtins=0
 cells:env.cells.lookup ("__class__" :Str)=some 46
 func:env.func=some fa
 code:env.code= .ref k
 fd:∀ {h:Heap},ey h→∃ of fd ar,h.get? fa=some of∧of.data= .func fd∧(fd.params.posonlyargs++fd.params.args).head?=some ar∧ar.arg= "self"
 cd:∀ {h:Heap},ey h→∃ oc vs tf,h.get? k=some oc∧oc.data= .fields vs∧vs[2]?=some (.str "/claim/cut.py" tf)
section
variable{w:World}{A:Around}{E:Value→Shared→Prop}{s:Shared}{env:Env}
theorem Co{fa k:Addr}(F:Gk env fa k)(b:ey s.heap){Q:Value→Shared→Prop}(h:Q (.type "super") s):wpAny (model pw w) A (sK env "super") Q E s:=
 nh F.kind F.ks F.glob F.blt b (.inr (by decide)) h
theorem vd{name:Str}{id D gid bt:String}(S:D4 name id D gid bt)(hbt:bt= "method-wrapper" ∨bt= "builtin_function_or_method")(plain:qP id=true){fa k:Addr}(F:Gk env fa k)
  {body:List Stmt}{p0 p1 apos pos:Pos}{a:Addr}{oa:Obj}{m:Str→Option Value}(b:ey s.heap)(hns:s.heap.Ns env.locals m)(hm:m "self" =some (.ref a))
  (ha:s.heap.get? a=some oa)(hac:oa.cls= .ref 122)(hnc:∀ c,oa.data≠ .cls c)(ha122:a≠122){Q:Value→Shared→Prop}{pl:Sem Bool}
  (he:eval (.Call (.Attribute (.Call (.Name "super" p0) [] [] p1) name apos) [] [] pos) env=(do
   let ov ← ju (.Call (.Name "super" p0) [] [] p1) name env (eval (.Call (.Name "super" p0) [] [] p1) env)
   gw apos.atName
   let (f,first) ← qQ [ov] (pT ov name pl)
   fv pos f first (backTo pos (dD [] env)) []))
  (hck:∀ (h':Heap) (t':Nat),ey h'→h'.get? a=some oa→∀ (A':Around) (Q':Unit→Shared→Prop) (E':Value→Shared→Prop),Q' () { s with heap:=h',toks:=t' }→wpAny (model pw w) A' (iX id ⟨[.ref a],[]⟩) Q' E' { s with heap:=h',toks:=t' })
  (hq:∀ h' t',(∀ y o,s.heap.get? y=some o→h'.get? y=some o)→cb (model pw w) A (.builtin id ⟨[.ref a],[]⟩) (wants Q E) { s with heap:=h',toks:=t' }):
  FY (model pw w) A (.func body env) (eval (.Call (.Attribute (.Call (.Name "super" p0) [] [] p1) name apos) [] [] pos) env) Q E s:=by
 refine nn fun hG=>?_;obtain⟨of,fd,ar,hf,hfd,hp,har⟩:=F.fd b;refine hG ?_;clear hG;refine nn fun hG=>?_;obtain⟨oc,vs,tf,hoc,hvd,hv2⟩:=F.cd b;refine hG ?_;clear hG;obtain⟨P,X⟩:=b.frag;have h122:s.heap.get? 122=some _:=X 122 _ rfl;have h46:s.heap.get? 46=some _:=X 46 _ rfl;refine ks_wpAt_MethodCall (pl:=pl) (he:=he) ?_;refine ks_wpAt_super_base F.ks F.kc S.nc F.func hf hfd hp F.code hoc hvd hv2 Jr B6 ?_;refine Co F b ⟨rfl,?_⟩;refine wpAny_loadName_free F.kind F.kc F.cells ⟨_,h46,rfl⟩ ?_;refine har.symm▸?_;refine dz F.kind F.kself hns hm ?_;refine nn fun hG=>?_;obtain⟨h,g,d,t,os⟩:=s;refine hG ?_;clear hG;refine ks_wpAny_isType_cls h122 rfl ⟨rfl,?_⟩;refine ks_wpAny_call_super h122 rfl ha hac hnc (looks_mroIn X (z3 P)) fun h' hso hk=>?_;have b':=b.grow hk;refine tS S hso b' (hk _ _ ha) hac ha122 ?_;have hk2:∀ y o,h.get? y=some o→(h'.push { cls:=.type bt,data:=.fields #[.builtin id, .ref a] }).get? y=some o:=fun y o e=>al _ (hk y o e);have hb:(h'.push { cls:=.type bt,data:=.fields #[.builtin id, .ref a] }).get? h'.objs.size=some { cls:=.type bt,data:=.fields #[.builtin id, .ref a] }:=aA _ rfl;exact v9 (s:=⟨_,g,d,t+1,os⟩) hb hbt (CD (s:=⟨_,g,d,t+1,os⟩) hb hbt (hck _ _ (b.grow hk2) (hk2 _ _ ha)) plain (hq _ _ hk2))
end
end
section
open PySem.W PySem.SeqAt PySem.Builtin.Str
theorem Ee(pm:Value)(L:Addr):Gk (wJ (iR 108 118 pm) L 119) 119 118 where
 ks:=by show (bD 108).names.lookup ("super" :Str)=_;decide +kernel
 kc:=by show (bD 108).names.lookup ("__class__" :Str)=_;decide +kernel
 kself:=by show (bD 108).names.lookup ("self" :Str)=_;decide +kernel
 kind:=by show (bD 108).kind=_;decide +kernel
 glob:=rfl
 blt:=rfl
 cells:=rfl
 func:=rfl
 code:=rfl
 fd b:=let ⟨pm,ho,_⟩:=b.fns 108 119 118 (by decide);⟨_,_,_,ho,rfl,rfl,rfl⟩
 cd b:=let ⟨P,X⟩:=b.frag;⟨_,_,_,X 118 _ rfl,rfl,rfl⟩
theorem vB:qP "list.__len__" =true:=by decide +kernel
theorem Ce:∀ x∈(bD 108).names,x.2≠ .cell:=by decide +kernel
section
variable{c:Cx}{vals:List V}{H H':Hp}{EX:dK}{s:Shared}{Q:V→List V→Hp→Prop}
theorem sG(ok:c.Ok){a d:Addr}{l:List V}(hm:iK H a (.acc d l))(hl:l.length≤av)(q:Q (.int l.length) vals H):Tn c vals H [.ref a] (fun vs=>call (.ref 119) vs) VR Q EX:=Tn.oneR fun s r=>by
 refine nn fun hG=>?_;obtain⟨us,n,e,zs,ad⟩:=r.objs _ _ hm.mem;refine hG ?_;clear hG;refine nn fun hG=>?_;obtain⟨pm,ho,hcd⟩:=r.base.fns 108 119 118 (by decide);refine hG ?_;clear hG;have hhi:=r.hi a (ak _ (bP.mpr ⟨_,hm.mem,ah⟩));have hne:a≠122:=fun e=>absurd hhi (by rw[e];decide);have hlen:=zs.length;refine g6 (rX (fd:=iR 108 118 pm) (binds:=[("self", .ref a)]) (by have:=ok.depth;simp only[gC];exact aH [c.A.depth] 5070765829852073666734658628354113 tt this) ho rfl r.base.lim hcd rfl (BindsTo.of_eq (by kernel_rfl)) Ce (by intro x hx;cases ao.mp hx;show (bD 108).names.lookup ("self" :Str)=_;decide +kernel) fun h₀ hns hk=>?_);refine g7 (tZ ?_);refine vd Ji (.inl rfl) vB (Ee pm _) (r.base.grow hk) hns (by rfl) (hk _ _ e) rfl (fun _ h=>by cases h) hne rfl (fun h' t' b' ha' A' Q' E' hq'=>cI (v8 a) hq') fun h' t' hk'=>?_;have e':=hk' _ _ (hk _ _ e);refine bE entry_list_len ?_;rw[a7 vB _,Lz];refine aa ?_;refine wq (seqSize.eq_1 ..) ?_;refine aa (sO e' (af ?_));have hs:us.toArray.size=l.length:=by rw[aI];exact hlen.symm
 refine hs.symm▸?_;refine aa (Kj (af ?_));exact a8.intro (r.keeps (s':={ s with heap:=h',toks:=t'+1 }) (fun b o e=>hk' b o (hk b o e)) r.gens rfl) (aN.keeps fun b o e=>hk' b o (hk b o e)) (.int _ _) q
end
end
section
open PySem.W PySem.SeqAt PySem.Builtin.Str
structure xQ(name:Str)(f:Value):Prop where
 find:∀ P,findIn (KF P) (.ref 122) name=some (some f)
 plain:s4 f
 ty:∀ {M:Model} {h:Heap},ey h→∃ T,Looks M h (typeOf f) (.type T)∧(eX T != .type "function" && eX T != .type "method_descriptor" && eX T != .type "wrapper_descriptor")=false
 ns:(name=er)=False
theorem um{name:Str}{i a k:Nat}(h:ou.contains (i,a,k)=true)(hf:∀ P,findIn (KF P) (.ref 122) name=some (some (.ref a)))(hn:(name=er)=False):xQ name (.ref a):=
 ⟨hf,fn_plain' h,fun b=>by
  refine nn fun hG=>?_;obtain⟨pm,ho,_⟩:=b.fns i a k (by simpa using h);refine hG ?_;clear hG;exact⟨"function",(Looks.ld ho (part:=none)).andThen .now,by decide⟩,hn⟩
where fn_plain' {i a k:Nat} (h:ou.contains (i,a,k)=true):s4 (.ref a):=.inr (.inr ⟨i,a,k,by simpa using h,rfl⟩)
theorem l7:xQ "part_count" (.ref 119):=um (i:=108) (k:=118) rfl (fun P=>by kernel_rfl) (by trivial)
theorem FO:xQ "push" (.ref 66):=um (i:=101) (k:=65) rfl GK (by trivial)
theorem vh:xQ "pop" (.ref 82):=um (i:=103) (k:=81) rfl (fun P=>by kernel_rfl) (by trivial)
theorem vU:xQ "reset" (.ref 104):=um (i:=106) (k:=103) rfl (fun P=>by kernel_rfl) (by trivial)
theorem yy:typeOf (.builtin "list.append")=pure (.type "method_descriptor"):=by show y8 _=_;rw[mw];kernel_rfl
theorem AV:xQ "append" (.builtin "list.append"):=⟨Ix, .inl ⟨_,rfl⟩,fun b=>⟨"method_descriptor",Looks.of_pure yy,by decide⟩,by trivial⟩
theorem FC:(Manifest.canonical "list.__getattribute__" != "object.__getattribute__")=false:=by decide +kernel
section
variable{M:Model}{A:Around}{E:Value→Shared→Prop}{s:Shared}
theorem wE{name:Str}{f:Value}(S:xQ name f)(b:ey s.heap){a d:Addr}{oa:Obj}{m:Str→Option Value}(ha:s.heap.get? a=some oa)(hc:oa.cls= .ref 122)(hd:oa.dict=some d)(hns:s.heap.Ns d m)(hm:m name=none)
  {pl:Sem Bool}{Q:Value×List Value→Shared→Prop}(hq:Q (f,[.ref a]) s):wpAny M A (pT (.ref a) name pl) Q E s:=by
 refine nn fun hG=>?_;obtain⟨T,hT,hTn⟩:=S.ty (M:=M) b;refine hG ?_;clear hG;refine wq (getMethod.eq_1 ..) ?_;refine aa ((jg b ha hc KU).here ?_)
 dsimp only
 refine FC.symm▸?_;refine wn au ?_;refine aa ((jg b ha hc yp).here ?_);refine wn au ?_;refine aa ((jg b ha hc S.find).here ?_)
 dsimp only
 refine aa (hT.here ?_);refine hTn.symm▸?_;refine wn au ?_;refine aa (sO ha ?_);refine hd.symm▸?_
 dsimp only
 refine aa (Ki hns ?_);refine hm.symm▸?_;refine wn au ?_;exact aa (dT (af hq))
theorem jO.ns{h:Heap}{d:Addr}(ad:jO h d):∃ m t,h.Ns d m∧m er=some (.int 0 t)∧∀ x,x≠er→m x=none:=by
 refine nn fun hG=>?_;obtain⟨o,es,ep,t,ho,hd,hk,_,hf⟩:=ad;refine hG ?_;clear hG;refine⟨nsFind es,t,⟨o,es,ep,ho,hd,hk,fun x=>rfl⟩,?_,fun x hx=>?_⟩
 ·rw[hf];simp
 ·rw[hf];simp[hx]
end
section
variable{c:Cx}{vals:List V}{H H':Hp}{EX:dK}{s:Shared}{Q:V→List V→Hp→Prop}
theorem vS{name:Str}{f:Value}(S:xQ name f){o:Expr}{apos pos:Pos}{args:List Expr}{P E:Value→Shared→Prop}{pl:Sem Bool}(hn:args.all eN=true)
  (he:eval (.Call (.Attribute o name apos) args [] pos) c.env=(do
   let ov ← eval o c.env
   gw apos.atName
   let (f,first) ← qQ [ov] (pT ov name pl)
   fv pos f first (backTo pos (dD args c.env)) []))
  (h:wpAny c.M c.A (eval o c.env) (fun v s₁=>∃ a oa d m,v= .ref a∧ey s₁.heap∧s₁.heap.get? a=some oa∧oa.cls= .ref 122∧oa.dict=some d∧s₁.heap.Ns d m∧m name=none∧
   wpAny c.M c.A (nV (backTo pos (dD args c.env))) (fun vs s₂=>ey s₂.heap∧wpAny c.M c.A (call f (.ref a::vs)) P E s₂) E s₁) E s):
  wpAny c.M c.A (eval (.Call (.Attribute o name apos) args [] pos) c.env) P E s:=by
 refine wq he ?_;refine aa (aK h (fun v s₁ h₁=>?_) fun _ _ x=>x);refine nn fun hG=>?_;obtain⟨a,oa,d,m,hE1,b,ha,hc,hd,hns,hm,h₂⟩:=h₁;refine hG ?_;clear hG;subst hE1;refine aa (be (aa (aC (wE S b ha hc hd hns hm ?_))));exact jo S.plain hn [.ref a] h₂
inductive Md(c:Cx)(f:Value)(args:List Expr)(Q:QV)(EX:dK)(g:V)(vals:List V)(H:Hp):Prop
 | mk (a d:Addr) (l:List V) (e:g= .ref a) (m:iK H a (.acc d l)) (h:Gc c EX (KZ c (.ref a) f Q EX) args vals H)
theorem jj{name:Str}{f:Value}(S:xQ name f){o:Expr}{apos pos:Pos}{args:List Expr}{pl:Sem Bool}(hn:args.all eN=true)
  (he:eval (.Call (.Attribute o name apos) args [] pos) c.env=(do
   let ov ← eval o c.env
   gw apos.atName
   let (f,first) ← qQ [ov] (pT ov name pl)
   fv pos f first (backTo pos (dD args c.env)) []))
  (h:Ev c vals H o (Md c f args Q EX) EX):
  Ev c vals H (.Call (.Attribute o name apos) args [] pos) Q EX:=fun s r=>
 vS S hn he (bO (h s r) fun v s₁ g vals₁ H₁ r₁ S₁ z₁ hP=>by
  refine nn fun hG=>?_;obtain⟨a,d,l,hg,hm,h₁⟩:=hP;refine hG ?_;clear hG;subst hg;cases z₁.iRef;refine nn fun hG=>?_;obtain⟨us,n,e,zs,ad⟩:=r₁.objs _ _ hm.mem;refine hG ?_;clear hG;refine nn fun hG=>?_;obtain⟨m,t,hns,_,hno⟩:=ad.ns;refine hG ?_;clear hG;refine⟨a,_,d,m,rfl,r₁.base,e,rfl,rfl,hns,hno _ (fun e=>S.ns▸e),?_⟩;exact df S₁ (gZ (pos:=pos) args hn h₁ s₁ r₁) fun vs s₂ as vals₂ H₂ r₂ S₂ T₂ z₂ h₂=>⟨r₂.base,dg T₂ (h₂ s₂ (.ref a::vs) r₂ (.cons (.ref a) z₂))⟩)
end
end
section
open PySem.W PySem.SeqAt PySem.Builtin.Str
theorem BU:lC "list.__new__" =some ("list","__new__"):=by decide +kernel
theorem Fc:ca "list.__new__" =some .builtinFn:=by decide +kernel
theorem B4:("list.__new__" :String).startsWith "lifetime." =false:=by decide +kernel
theorem G8(P:Params):instIn (KF P) (.ref 122) (.type "type")=some true:=by kernel_rfl
theorem w0(P:Params):specialIn (KF P) (.ref 122) "__call__" =some (some (.builtin "type.__call__")):=by kernel_rfl
theorem LJ(P:Params):findIn (KF P) (.ref 122) "__init__" =some (some (.ref 59)):=by kernel_rfl
theorem FI:(match ij "list.__new__" with | some sig=>qp "list.__new__" sig ⟨[.ref 122],[]⟩ | none=>pure ())=pure ():=by
 rw[lG (id:="list.__new__") (n:=['_','_','w','e','n','_','_']) (o:=['t','s','i','l']) (by kernel_rfl) F.owner_list];kernel_rfl
section
variable{prog:dt}{w:World}{A:Around}{R:Result→Shared→Prop}{h:Heap}{g:Array sN}{d:Drawn}{t:Nat}{os:qR}{P:Params}
theorem u7{M:Model}(X:(KF P).In h):Looks M h (Bind.madeBy (.ref 122)) (some "list.__new__"):=by
 have hm:Looks M h (mroOf (.ref 122)) [.ref 122, .type "list", .type "object"]:=ny P X;have h122:(KF P).lookup 122=some _:=rfl;intro A Q E s k q;refine wq (Bind.madeBy.eq_1 ..) ?_;refine aa (hm A _ E s k ?_);rw[fA];refine aa (aa (aa (aa (sO (k _ _ (X _ _ h122)) (af ?_)))));exact af (af (af q))
theorem IS{M:Model}(X:(KF P).In h):Looks M h (Bind.staticBase (.ref 122)) (.ref 122):=by
 have hm:Looks M h (mroOf (.ref 122)) [.ref 122, .type "list", .type "object"]:=ny P X;intro A Q E s k q;refine wq (Bind.staticBase.eq_1 ..) ?_;refine aa (hm A _ E s k ?_);rw[fA];exact aa (aa (aa (u7 X A _ E s k (af (af (af q))))))
theorem Jy(X:(KF P).In h)(hq:R (.ok (.ret (.ref (h.objs.size+1)))) ⟨(h.push emptyDict).push (j8 h.objs.size [] 0),g,d,t,os⟩):
  cb (model prog w) A (.call (.builtin "list.__new__") ⟨[.ref 122],[]⟩) R ⟨h,g,d,t,os⟩:=by
 have h122:h.get? 122=some _:=X 122 _ rfl;have hs:Looks (model prog w) h (fQ (.ref 122) (.type "list")) true:=looks_mroIn X (ue P);have made:=u7 (M:=model prog w) X;have base:=IS (M:=model prog w) X;have hown:=owner_list_new;obtain⟨sig,hsig⟩:∃ sig,ij "list.__new__" =some sig:=cX.mp (by decide +kernel);have args:=FI;rw[hsig]at args
 dsimp only at args
 refine codeAny_call_builtin_code (Code.quiet_builtin _ B4) ?_;simp only[ja,Fc,BU,hsig,args]
 repeat (first | simp only[fZ,aW,cj] | lk)
 refine codeAny_builtin_stack F.entry_list_new rfl fun p st=>?_;refine(a7 F.plain_list_new _).symm▸?_;simp only[hown]
 have hty:Looks (model prog w) h (isType (.ref 122)) true:=fun A Q E s k q=>by
  unfold isType loadHead;exact aa (sO (k _ _ h122) (af q))
 repeat (first | simp only[fZ,aW,cj] | (with_reducible refine Looks.at hs ?_) | (with_reducible refine Looks.at hty ?_) | lk)
 refine nd_load (al _ (al _ h122)) (af ?_);refine af ?_;refine wn au ?_;refine af (af ?_);have e:(h.push { cls:=eX "dict",data:=Data.dict #[] }).objs.size=h.objs.size+1:=eZ _ _;refine e.symm▸?_;exact hq
end
end
section
inductive lK:Hp→Addr→bW→Hp→Prop
 | head {a:Addr} {o:bW} {H:Hp}:lK ((a,o)::H) a o H
 | tail {a:Addr} {o:bW} {p:Addr×bW} {H H':Hp}:lK H a o H'→lK (p::H) a o (p::H')
inductive Mx:bW→Addr→V→List V→Prop
 | list (a:Addr) (l:List V):Mx (.list l) a (.lst a l) l
 | acc (a d:Addr) (l:List V):Mx (.acc d l) a (.acc a l) l
theorem lK.inH{H H':Hp}{a:Addr}{o:bW}(h:lK H a o H'):iK H a o:=by
 induction h with
 | head=>exact .head
 | tail _ ih=>exact .tail ih
theorem lK.sub{H H':Hp}{a:Addr}{o:bW}(h:lK H a o H'):∀ p∈H',p∈H:=by
 induction h with
 | head=>exact fun p hp=>ai _ hp
 | tail _ ih=>
  intro p hp;rcases aF.mp hp with e | hp
  ·rw[e];exact ah
  ·exact ai _ (ih p hp)
theorem lK.nodup{H H':Hp}{a:Addr}{o:bW}(h:lK H a o H')(n:(haddrs H).Nodup):(haddrs H').Nodup∧∀ x∈o.addrs a,x∉haddrs H':=by
 induction h with
 | head=>
  simp only[haddrs,a0,aJ]at n;exact⟨n.2.1,fun x hx hx'=>n.2.2 x hx x hx' rfl⟩
 | @tail a o p H H' hd ih=>
  simp only[haddrs,a0,aJ]at n ⊢;have q:=ih n.2.1;have sub:∀ x,x∈n5 (fun p=>p.2.addrs p.1) H'→x∈n5 (fun p=>p.2.addrs p.1) H:=fun x hx=>by
   refine nn fun hG=>?_;obtain⟨r,hr,hx⟩:=cZ.mp hx;refine hG ?_;clear hG;exact cZ.mpr ⟨r,hd.sub r hr,hx⟩
  refine⟨⟨n.1,q.1,fun x hx y hy e=>n.2.2 x hx y (sub y hy) e⟩,fun x hx hx'=>?_⟩;rcases aw.mp hx' with h | h
  ·exact n.2.2 x h x (cZ.mpr ⟨_,hd.inH.mem,hx⟩) rfl
  ·exact q.2 x hx h
section
variable{c:Cx}{vals vals':List V}{H H':Hp}{EX:dK}{s:Shared}
theorem wC(R:Rel c vals H s){x:Addr}(h:x∈c.own++haddrs H):x∉TB:=fun t=>by
 have q:∀ x∈TB,x<265:=by decide
 exact absurd (R.hi x h) (bU.mpr (q x t))
theorem Rel.frozen(ok:c.Ok)(R:Rel c vals H s){a:Addr}{mo:bW}{b:V}{l:List V}(hd:lK H a mo H')(hf:Mx mo a b l):VR s.heap (c.X H') b (.ref a)∧aN s.heap (c.Z H) s.heap (c.Z H'):=by
 have nd:=aJ.mp R.nodup;have dn:=hd.nodup nd.2.1;have ha:a∈mo.addrs a:=fc _ _;have hm:a∈c.own++haddrs H:=ak _ (bP.mpr ⟨_,hd.inH.mem,ha⟩);have sub:∀ x,x∈haddrs H'→x∈haddrs H:=fun x h=>by obtain⟨p,hp,hx⟩:=bP.mp h;exact bP.mpr ⟨p,hd.sub p hp,hx⟩
 have subZ:∀ x,x∈c.Z H'→x∈c.Z H:=fun x h=>by
  rcases aw.mp h with h | h
  ·exact aj _ h
  ·rcases aw.mp h with h | h
   ·exact ak _ (aj _ h)
   ·exact ak _ (ak _ (sub x h))
 have S:aN s.heap (c.Z H) s.heap (c.Z H'):=fun b o e n=>⟨e,fun z=>n (subZ b z)⟩
 have na:a∉c.X H':=fun z=>by
  rcases aw.mp z with z | z
  ·exact R.apart a hm z
  ·rcases aw.mp z with z | z
   ·exact wC R hm z
   ·rcases aw.mp z with z | z
    ·exact nd.2.2 a z a (bP.mpr ⟨_,hd.inH.mem,ha⟩) rfl
    ·exact dn.2 a ha z
 refine⟨?_,S⟩;have m:=R.objs _ _ hd.inH.mem
 cases hf with
 | list=>obtain⟨vs,n,e,zs⟩:=m;exact .lst e na (zs.go S)
 | acc=>obtain⟨vs,n,e,zs,_⟩:=m;exact .acc e na (zs.go S)
theorem Rel.freeze(ok:c.Ok)(R:Rel c vals H s){a:Addr}{mo:bW}{b:V}{l:List V}{x:Str}(hd:lK H a mo H')(hf:Mx mo a b l)(hx:At c.names vals x (.ref a))(p:pW c.names vals x b vals'):
  Rel c vals' H' s∧aN s.heap (c.Z H) s.heap (c.Z H'):=by
 obtain⟨zb,S⟩:=R.frozen ok hd hf;refine R.drop hd.sub (hd.nodup (aJ.mp R.nodup).2.1).1 fun y d hy=>?_;rcases GU p ok.nn hy with ⟨rfl,rfl⟩ | ⟨ne,hy⟩
 ·rcases R.vars y (.ref a) (.inl hx)with e | ⟨v,w,z⟩
  ·cases e
  ·cases z.iRef;exact .inr (.inr ⟨_,w,zb⟩)
 ·exact .inr (.inl hy)
theorem T0.freeze{α β:Type}{f:Sem α}{R:Heap→List Addr→β→α→Prop}{Q:β→List V→Hp→Prop}(ok:c.Ok){a:Addr}{mo:bW}{b:V}{l:List V}{x:Str}(hd:lK H a mo H')(hf:Mx mo a b l)(hx:At c.names vals x (.ref a))
  (p:pW c.names vals x b vals')(h:T0 c vals' H' f R Q EX):T0 c vals H f R Q EX:=fun s r=>
 let ⟨r',S⟩:=r.freeze ok hd hf hx p
 dg S (h s r')
inductive Mc(c:Cx)(id:String)(args:List Expr)(Q:QV)(EX:dK)(a:V)(vals:List V)(H:Hp):Prop
 | mk (i:∃ ad l,(a= .ref ad∧iK H ad (.list l))∨a= .lst ad l) (h:Gc c EX (KZ c a (.builtin id) Q EX) args vals H)
theorem dp{o:Expr}{name:Str}{apos pos:Pos}{args:List Expr}{id:String}{Q:V→List V→Hp→Prop}(hb:ju o name c.env (eval o c.env)=eval o c.env)(hn:args.all eN=true)(hl:args.length<29)(hline:(apos.endLine == pos.line)=true)
  (slot:Slot "list" name id)(hty:typeOf (.builtin id)=pure (.type "method_descriptor"))
  (h:Ev c vals H o (Mc c id args Q EX) EX):
  Ev c vals H (.Call (.Attribute o name apos) args [] pos) Q EX:=
 DW hb hn hl hline F.plainAttrs_list slot hty (T0.mono h fun a vals₁ H₁ hP=>⟨fun s v r z=>by
  obtain⟨ad,l,e⟩:=hP.1;clear hP;rcases e with ⟨rfl,hm⟩ | rfl
  ·cases z.iRef;refine nn fun hG=>?_;obtain⟨vs,n,e,zs⟩:=r.objs _ _ hm.mem;refine hG ?_;clear hG;exact⟨⟨_,e,rfl⟩,fun b hb=>by cases hb;exact⟨_,e,rfl⟩⟩
  ·cases z.iLst with
   | mk e n zs=>exact⟨⟨_,e,rfl⟩,fun b hb=>by cases hb;exact⟨_,e,rfl⟩⟩,hP.2⟩)
end
end
section
set_option linter.unusedSimpArgs false
open PySem.W PySem.SeqAt PySem.Builtin.Str
section
variable{prog:dt}{w:World}{A:Around}{R:Result→Shared→Prop}{h:Heap}{g:Array sN}{d:Drawn}{t:Nat}{os:qR}
theorem H8(b:ey h)
  (hq:cb (model prog w) (A.under (.builtin "type.__call__" ⟨[.ref 122],[]⟩)) (.call (.ref 59) ⟨[.ref (h.objs.size+1)],[]⟩) (InitBack (h.objs.size+1) R) ⟨(h.push emptyDict).push (j8 h.objs.size [] 0),g,d,t,os⟩):
  cb (model prog w) A (.call (.ref 122) ⟨[],[]⟩) R ⟨h,g,d,t,os⟩:=by
 obtain⟨P,X⟩:=b.frag;have h122:h.get? 122=some _:=X 122 _ rfl;have call:=looks_specialIn (M:=model prog w) X (w0 P);have typ:=looks_instIn (M:=model prog w) X (G8 P);have made:=u7 (M:=model prog w) X;have hm:=ny (M:=model prog w) P X;have self:Looks (model prog w) h (fQ (.ref 122) (.ref 122)) true:=looks_mroIn X (z3 P);have hi:Looks (model prog w) h (eA (.ref 122) "__init__") (some (.ref 59)):=looks_findIn X (LJ P);refine nn fun hG=>?_;obtain⟨pm,h59,_⟩:=b.fns 100 59 58 (by decide);refine hG ?_;clear hG;have hb:∀ self,Looks (model prog w) h (Kp (.ref 59) self) (.ref 59,[self]):=fun self=>by
  unfold Kp;exact((Looks.ld h59 (part:=none)).andThen .now).andThen (Looks.of_pure (by kernel_rfl))
 refine jA ?_;show wpAny _ _ (IY (.ref 122) _) _ _ _;refine nd_load h122 ?_;show wpAny _ _ (IY.viaDunder (.ref 122) _) _ _ _;refine wq (callAny.viaDunder.eq_1 ..) ?_;refine aa (call.at ?_)
 dsimp only
 rw[tc_bind];refine aa (af (aa (af ?_)));refine af (a:=Fin.again (.call (.builtin "type.__call__") ⟨[.ref 122],[]⟩)) (kn rfl ?_);refine codeAny_call_builtin_at (Code.quiet_builtin _ (by decide +kernel)) entry_typeCall (check_slot tc_kind tc_split typ (tc_args _ _ _) ?_);unfold Builtin.«type.__call__»
 repeat (first | simp only[tL,aW,cj] | with_reducible refine g6 ?_ | lk)
 refine Jy X ?_;have k:∀ b o,h.get? b=some o→((h.push emptyDict).push (j8 h.objs.size [] 0)).get? b=some o:=fun b o e=>al _ (al _ e);have hx:((h.push emptyDict).push (j8 h.objs.size [] 0)).get? (h.objs.size+1)=some (j8 h.objs.size [] 0):=by
  have e:=aA (h.push emptyDict) (o:=j8 h.objs.size [] 0) rfl
  rwa [eZ]at e
 have t1:Looks (model prog w) ((h.push emptyDict).push (j8 h.objs.size [] 0)) (typeOf (.ref (h.objs.size+1))) (.ref 122):=(Looks.ld hx).andThen .now;have s1:=self.keeps k;have i1:=hi.keeps k;have b1:=(hb (.ref (h.objs.size+1))).keeps k;unfold qT qW F8
 repeat (first | with_reducible refine g6 ?_ | lk)
 refine fb hq fun r s' z=>?_;rcases r with e | (v | _ | _ | _)<;>first | exact z | exact z.elim | skip
 obtain⟨rfl,z⟩:=z;exact af (af z)
end
end
section
set_option linter.unusedSimpArgs false
open PySem.W PySem.SeqAt PySem.Builtin.Str
theorem FF{s:Shared}(b:ey s.heap)(pm:Value)(x:Value):BindsTo s (iR 100 58 pm) ⟨[x],[]⟩ [("self",x),("initial_size", .int 0 244)]:=fun M A E Q hq=>by
 obtain⟨P,X⟩:=b.frag;have h51:s.heap.get? 51=some _:=X 51 _ rfl;show wpAny M A (ii (.ref 51) >>= _) _ _ _;refine aa (cJ h51 rfl ?_);exact cI (a:=[(("self" :Str),x),(("initial_size" :Str), .int 0 244)]) (by kernel_rfl) hq
theorem sq(pm:Value)(L:Addr):Gk (wJ (iR 100 58 pm) L 59) 59 58 where
 ks:=by show (bD 100).names.lookup ("super" :Str)=_;decide +kernel
 kc:=by show (bD 100).names.lookup ("__class__" :Str)=_;decide +kernel
 kself:=by show (bD 100).names.lookup ("self" :Str)=_;decide +kernel
 kind:=by show (bD 100).kind=_;decide +kernel
 glob:=rfl
 blt:=rfl
 cells:=rfl
 func:=rfl
 code:=rfl
 fd b:=let ⟨pm,ho,_⟩:=b.fns 100 59 58 (by decide);⟨_,_,_,ho,rfl,rfl,rfl⟩
 cd b:=let ⟨P,X⟩:=b.frag;⟨_,_,_,X 58 _ rfl,rfl,rfl⟩
theorem Cg:∀ x∈(bD 100).names,x.2≠ .cell:=by decide +kernel
theorem tc:qP "list.__init__" =true:=by decide +kernel
theorem BS:StoreFacts "list" [.type "list", .type "object"] "object.__setattr__" "object" where
 mro:=by kernel_rfl
 slot:=.of (owner:="object") (n:="__setattr__") (by rw[dB,cq];kernel_rfl) (by decide +kernel) (by decide +kernel) (by decide +kernel)
  (by first | exact .inl (by decide +kernel) | exact .inr (by decide +kernel)) (by rw[dM];kernel_rfl)
 entry:=F.entry_object_sa
 kind:=by decide +kernel
 split:=by decide +kernel
 hasOwner:=by decide +kernel
 args:=fun a b c=>by unfold argsOk;kernel_rfl
 passes:=fun self=>by kernel_rfl
theorem AE:eA (.type "list") er=pure none:=by
 show eA (.type "list") "_initial_size" =_;rw[dB,cq];kernel_rfl
noncomputable def rn(P:Params):Array tJ:=match (KF P).lookup 121 with
 | some ⟨_,_, .dict es _,_⟩=>es
 | _=> #[]
theorem Cd(P:Params):StrKeys (rn P):=by
 intro e he;have he':e∈(rn P).toList:=by exact he.1
 have q:(rn P).toList.all (fun e=>match e.key with | .str _ _=>true | _=>false)=true:=by kernel_rfl
 have z:=ay.mp q e he'
 cases hk:e.key with
 | str n t=>exact⟨n,t,rfl⟩
 | _=>rw[hk]at z;cases z
theorem u5{h:Heap}{P:Params}(X:(KF P).In h):h.Ns 121 (nsFind (rn P)):=⟨_,rn P,5,X 121 _ rfl,rfl,Cd P,fun _=>rfl⟩
theorem HW(P:Params):nsFind (rn P) "__setattr__" =none:=by kernel_rfl
theorem ED(P:Params):nsFind (rn P) er=none:=by kernel_rfl
end
section
set_option linter.unusedSimpArgs false
open PySem.W PySem.SeqAt PySem.Builtin.Str
section
variable{w:World}{A:Around}{E:Value→Shared→Prop}{h:Heap}{g:Array sN}{d:Drawn}{t:Nat}{os:qR}
theorem s9{x dx:Addr}{mA:Str→Option Value}{ns:List Str}{v:Value}{vs:List Value}{n:Nat}(b:ey h)(hx:h.get? x=some (j8 dx vs n))(hx122:x≠122)(hdx:dx≠x)(hns:h.Ns1 dx mA)(hw:Within mA ns)(hsz:ns.length≤av){Q:Unit→Shared→Prop}
  (hq:∀ h' tk',h'.Ns1 dx (fun y=>if y=er then some v else mA y)→(∀ b o,b≠dx→h.get? b=some o→h'.get? b=some o)→Q () ⟨h',g,d,tk',os⟩):
  wpAny (model pw w) A (setAttr (.ref x) er v) Q E ⟨h,g,d,t,os⟩:=by
 obtain⟨P,X⟩:=b.frag;have h122:h.get? 122=some (excClassObj "_Accumulator" "_Accumulator" 122 121 [.type "list"] [.type "list", .type "object"] true [] [] false none none (some (.ref 43)) none (some (.str "_Accumulator" 232)) (some (.str "_Accumulator" 240)) (some (.bool true)) "list.__new__"):=X 122 _ rfl;refine store_attr BS h122 (u5 X) (HW P) (ED P) AE hx122 ⟨_,hx,rfl,(fun _ h=>by cases h), .inr ⟨dx,rfl,hdx,hns⟩⟩ (fun h' tk' I hk hs=>?_) hw hsz;refine nn fun hG=>?_;obtain⟨o₁,e₁,c₁,d₁,s₁,dd₁⟩:=hs _ hx;refine hG ?_;clear hG;refine nn fun hG=>?_;obtain⟨o₂,e₂,_,_,hI⟩:=I;refine hG ?_;clear hG;rw[e₁]at e₂;cases e₂;have hd1:=dd₁ dx rfl;rcases hI with ⟨hn,_⟩ | ⟨d',hd',_,hns'⟩
 ·rw[hd1]at hn;cases hn
 ·rw[hd1]at hd';cases hd';refine hq h' tk' hns' fun b o hb e=>?_;by_cases hbx:b=x
  ·subst hbx;rw[hx]at e;cases e;rw[e₁];refine nn fun hG=>?_;obtain⟨oc,od,odt,osl⟩:=o₁;refine hG ?_;clear hG;simp only at c₁ d₁ s₁ hd1;rw[c₁,d₁,s₁,hd1]
  ·exact hk b o hbx (fun o₀ dx' h₀ hd₀=>by rw[hx]at h₀;cases h₀;cases hd₀;exact hb) e
theorem HC{x dx:Addr}(b:ey h)(lim:h.NoLimit)(hdep:A.depth<gC)(hx:h.get? x=some (j8 dx [] 0))(hx122:x≠122)(hdx:dx≠x)(hd:h.get? dx=some emptyDict)(hhi:265≤dx){R:Result→Shared→Prop}
  (hq:∀ h' tk' n,(∀ b o,b≠x→b≠dx→h.get? b=some o→h'.get? b=some o)→h'.get? x=some (j8 dx [] n)→jO h' dx→R (.ok (.ret .none)) ⟨h',g,d,tk',os⟩):
  cb (model pw w) A (.call (.ref 59) ⟨[.ref x],[]⟩) R ⟨h,g,d,t,os⟩:=by
 refine nn fun hG=>?_;obtain⟨pm,ho,hcd⟩:=b.fns 100 59 58 (by decide);refine hG ?_;clear hG;refine rX (fd:=iR 100 58 pm) (binds:=[("self", .ref x),("initial_size", .int 0 244)]) hdep ho rfl lim hcd rfl (FF b pm _) Cg (all2 (by kernel_rfl) (by kernel_rfl)) fun h₀ hns hk=>?_;have hL:(wJ (iR 100 58 pm) h.objs.size 59).locals=h.objs.size:=rfl;have hxL:x<h.objs.size:=bu hx;have hdL:dx<h.objs.size:=bu hd;have b₀:=b.grow hk;have kk:(wJ (iR 100 58 pm) h.objs.size 59).scope.kind= .function:=(sq pm _).kind;refine g7 (ks_wpAt_Assign_Attr (pe (d5 (dz kk (by show (bD 100).names.lookup ("initial_size" :Str)=_;decide +kernel) hns (by rfl) ?_) (by decide))) (by rfl));refine d5 (dz kk (sq pm _).kself hns (by rfl) ?_) (by decide);refine s9 (mA:=fun _=>none) (ns:=[]) b₀ (hk _ _ hx) hx122 hdx (Heap.Ns1.of_empty ⟨_,#[],_,hk _ _ hd,rfl,fun e he=>absurd he (by simp),fun _=>rfl⟩) Within.nil (by decide) fun h₁ tk₁ hn₁ hk₁=>?_;have hns₁:h₁.Ns h.objs.size _:=hns.at' fun o e=>hk₁ _ o (gA hdL) e;have b₁:ey h₁:=b₀.of fun y o h1 _ e=>hk₁ y o (fun q=>absurd hhi (bU.mpr (q▸h1))) e;refine g7 (ks_wpAt_Expr_any (hi:=by unfold Ko;rw[kk];rfl) (hs:=by rfl) ?_);refine vd Hi (.inl rfl) tc (sq pm _) b₁ hns₁ (by rfl) (hk₁ _ _ (gO hdx) (hk _ _ hx)) rfl (fun _ h=>by cases h) hx122 rfl (fun h' t' b' ha' A' Q' E' hq'=>cI (tU x) hq') fun h₂ tk₂ hk₂=>?_;have hx₂:=hk₂ _ _ (hk₁ _ _ (gO hdx) (hk _ _ hx));refine bE F.entry_list_init ?_;rw[a7 tc _,JK];refine aa (fX hx₂ rfl ?_);refine aa (d0 hx₂ rfl ?_ (by exact am tt) (by exact am tt));refine aa (fV (af ?_));obtain⟨n',e'⟩:=Db (f:=fun _=>(#[]:Array Value)) hx₂;have sb:=b8 h₂ x (bR fun _=>(#[]:Array Value));refine nn fun hG=>?_;obtain⟨od,es,ep,e1,e2,e3,e4,e5⟩:=hn₁;refine hG ?_;clear hG;refine pe (fS ?_);refine hq _ _ n' (fun y o hy hy' e=>sb.extBut y o hy (hk₂ y o (hk₁ y o hy' (hk y o e)))) e' ⟨od,es,ep,244,sb.extBut _ _ hdx (hk₂ _ _ e1),e2,e3,e4,fun y=>e5 y⟩
end
section
variable{c:Cx}{vals:List V}{H:Hp}{EX:dK}{s:Shared}
theorem yw:(Code.builtin "type.__call__" ⟨[.ref 122],[]⟩).weight≤2:=by decide +kernel
theorem BI(ok:c.Ok){x:Str}{p pos:Pos}{Q:V→List V→Hp→Prop}(hg:At c.gn c.gv x (.ref 122))(q:∀ a d,Q (.ref a) vals ((a, .acc d [])::H)):Ev c vals H (.Call (.Name x p) [] [] pos) Q EX:=by
 intro s r;have e:eval (.Call (.Name x p) [] [] pos) c.env=(do fv pos (← eval (.Name x p) c.env) [] (backTo pos (dD [] c.env)) (sM pos (lN [] c.env))):=rfl;refine e.symm▸?_;refine aa (bO (l4 (EX:=EX) (Q:=fun a vals' H'=>a= .obj (.ref 122)∧vals'=vals∧H'=H) ok hg ⟨rfl,rfl,rfl⟩ s r) fun v s₁ g vals₁ H₁ r₁ S₁ z₁ hq=>?_);refine nn fun hG=>?_;obtain⟨hE1,hE2,hE3⟩:=hq;refine hG ?_;clear hG;subst hE1;obtain rfl:=hE2.symm;obtain rfl:=hE3.symm;cases z₁.iObj;obtain⟨P,X⟩:=r₁.base.frag;have h122:s₁.heap.get? 122=some _:=X 122 _ rfl;refine wq (callWith.eq_1 ..) ?_;refine aa (aC (aK (fj (args:=[]) (P:=fun a s₂=>a=⟨[],[]⟩∧s₂=s₁) rfl (fW ⟨rfl,rfl⟩)) (fun a s₂ h₂=>?_) fun _ _ x=>x));obtain⟨rfl,rfl⟩:=h₂;refine aa (be ?_);refine aa (m:=kh (.ref 122)) ?_
 ·refine wq (keeperOf.eq_1 ..) ?_;refine aa (jL h122 ?_)
  dsimp only
  refine aa ((looks_specialIn X (w0 P)).here (af ?_));rw[if_pos (by decide)];show wpAny _ _ (call (.ref 122) [] >>= _) _ _ _;refine aa ?_;have hs:=r₁.size;refine nn fun hG=>?_;obtain⟨h,g,d,t,os⟩:=s₂;refine hG ?_;clear hG;have k₁:∀ b o,h.get? b=some o→((h.push emptyDict).push (j8 h.objs.size [] 0)).get? b=some o:=fun b o e=>al _ (al _ e);have hd:((h.push emptyDict).push (j8 h.objs.size [] 0)).get? h.objs.size=some emptyDict:=al _ (aA _ rfl);have hx:((h.push emptyDict).push (j8 h.objs.size [] 0)).get? (h.objs.size+1)=some (j8 h.objs.size [] 0):=by
   have e:=aA (h.push emptyDict) (o:=j8 h.objs.size [] 0) rfl
   rwa [eZ]at e
  have hs':265≤h.objs.size:=hs;refine g6 (H8 r₁.base ?_);refine HC (r₁.base.grow k₁) (r₁.base.lim.keeps k₁) (by
   have h:=ok.depth;have hw:=yw;show c.A.depth+(Code.builtin "type.__call__" ⟨[.ref 122],[]⟩).weight<gC;simp only[gC];exact uX h rfl) hx (fun q=>absurd (show (h.objs.size+1:Nat)=122 from q) (by exact fun q0=>aH [h.objs.size] 2968677291523259533660032964459205233784251744321 tt hs' q0)) (eQ (c5 _)) hd hs' fun h' tk' n hk hx' ad=>⟨rfl,?_⟩
  have kk:∀ b o,h.get? b=some o→h'.get? b=some o:=fun b o e=>hk b o (fun q=>absurd (q▸bu e) (ip.mpr (jr _))) (fun q=>absurd (q▸bu e) (dh _)) (k₁ b o e);have none1:∀ o,h.get? (h.objs.size+1)≠some o:=fun o e=>absurd (bu e) (ip.mpr (jr _));obtain⟨r',S'⟩:=r₁.lay (s':=⟨h',g,d,tk',os⟩) (a:=h.objs.size+1) (mo:=.acc h.objs.size []) (by
    intro y hy;simp only[bW.addrs,aF,aZ,gz]at hy;rcases hy with rfl | rfl
    ·exact⟨none1,cQ hs'⟩
    ·exact⟨r₁.none_at_size,hs'⟩) (by simp[bW.addrs]) kk r₁.gens rfl ⟨[],n,hx', .nil,ad⟩
  exact aa (aC (nZ (af (a8.intro r' (S₁.trans S') (.ref _) (q _ _)))))
end
end
section
set_option linter.unusedSimpArgs false
open PySem.W PySem.SeqAt PySem.Builtin.Str
theorem Hj(pm:Value)(L:Addr):Gk (wJ (iR 103 81 pm) L 82) 82 81 where
 ks:=by show (bD 103).names.lookup ("super" :Str)=_;decide +kernel
 kc:=by show (bD 103).names.lookup ("__class__" :Str)=_;decide +kernel
 kself:=by show (bD 103).names.lookup ("self" :Str)=_;decide +kernel
 kind:=by show (bD 103).kind=_;decide +kernel
 glob:=rfl
 blt:=rfl
 cells:=rfl
 func:=rfl
 code:=rfl
 fd b:=let ⟨pm,ho,_⟩:=b.fns 103 82 81 (by decide);⟨_,_,_,ho,rfl,rfl,rfl⟩
 cd b:=let ⟨P,X⟩:=b.frag;⟨_,_,_,X 81 _ rfl,rfl,rfl⟩
theorem Cf:∀ x∈(bD 103).names,x.2≠ .cell:=by decide +kernel
theorem vA:qP "list.pop" =true:=by decide +kernel
section
variable{c:Cx}{vals:List V}{H H':Hp}{EX:dK}{s:Shared}
theorem Rel.reA(r:Rel c vals H s)(A:Around)(lvl:Nat):Rel { c with A:=A,lvl:=lvl } vals H s:=
 ⟨r.vars,r.loc,r.cel,r.objs,r.nodup,r.apart,r.there,r.new,r.keep,r.base,r.tabs,r.gens,r.os,r.hi⟩
theorem Rel.unA{A:Around}{lvl:Nat}(r:Rel { c with A:=A,lvl:=lvl } vals H s):Rel c vals H s:=
 ⟨r.vars,r.loc,r.cel,r.objs,r.nodup,r.apart,r.there,r.new,r.keep,r.base,r.tabs,r.gens,r.os,r.hi⟩
theorem Cx.Ok.reA(ok:c.Ok)(env:Env)(h:c.lvl+1≤20):Cx.Ok { c with A:=c.A.deeper env,lvl:=c.lvl+1 }:=
 {kind:=ok.kind,glob:=ok.glob,blt:=ok.blt,loc:=ok.loc,cell:=ok.cell,cells:=ok.cells,inj:=ok.inj,tb:=ok.tb,nn:=ok.nn,nd:=ok.nd,nc:=ok.nc,sto:=ok.sto,dj:=ok.dj,gl:=ok.gl,cnk:=ok.cnk,
  frm:=let ⟨_,h⟩:=ok.frm;⟨_,j6 h⟩
  dep:=by have:=ok.dep;show c.A.depth+1≤400+2*(c.lvl+1);exact aH [c.A.depth,c.lvl] 13288624422078233387646694653852980634495886054755102910054465 tt this
  uni:=by have:=ok.uni;show c.A.units+3≤100+50*(c.lvl+1);exact aH [c.A.units,c.lvl] 13288625571449888932528597962956946591337513764541497676398657 tt this
  low:=h }
theorem HN(ok:c.Ok){a:Addr}{mo:bW}{l:List V}{x:V}(p:du H a mo (mo.set l) H')(hr:uB mo (l++ [x]))(hl:l.length<av)(r:Rel c vals H s){M:Model}{A:Around}{P:lD→Shared→Prop}{E:Value→Shared→Prop}
  (h:∀ u s',Rel c vals H' s'→aN s.heap (c.Z H) s'.heap (c.Z H')→VR s'.heap (c.X H') x u→P (.done (.ret u)) s'):wpAny M A (Builtin.«list.pop» ⟨[.ref a],[]⟩) P E s:=by
 refine nn fun hG=>?_;obtain⟨cls,dd,vs,n,ho,zs,hi⟩:=r.rowAt p.inH hr;refine hG ?_;clear hG;rw[Gz];refine nn fun hG=>?_;obtain⟨us,u,hE1,zu,zx⟩:=zs.split_last;refine hG ?_;clear hG;subst hE1;have hle:=zu.length;refine aa (fX ho rfl ?_);refine wn (by simp) ?_;have hx:(mV (-1) (us++ [u]).toArray.size).bind (fun k=>((us++ [u]).toArray[k]?).map (k,·))=some (us.length,u):=by
  have e:mV (-1) (us++ [u]).toArray.size=some us.length:=by
   simp only[aI,aR,d8]
   unfold mV;simp;refine⟨⟨by lia,by lia⟩,by lia⟩
  rw[e];simp
 refine hx.symm▸?_;have hf:(us++ [u]).toArray.eraseIdxIfInBounds us.length=us.toArray:=by
  simp[Array.eraseIdxIfInBounds];rw[List.eraseIdx_append_of_length_le (bo _)];simp
 refine aa (d0 ho rfl ?_ (by rw[aI,aR,d8];exact aH [l.length,av,us.length] 437108895764045846181477089346 tt hl hle) (by rw[hf,aI];exact aH [l.length,av,us.length] 2620720881573503068646522486850 tt hl hle));obtain⟨r',S'⟩:=r.rowTurn ok p hr ho (f:=(·.eraseIdxIfInBounds us.length)) (vs':=us) hf zu;exact af (h _ _ r' S' (zx.go S'))
theorem yr(ok:c.Ok)(hlv:c.lvl+1≤20){a d:Addr}{l:List V}{Q:V→List V→Hp→Prop}(hm:iK H a (.acc d l))(hl:l.length≤av)
  (q:(l= []∧Q (.tup [.str "", .str ""]) vals H)∨∃ l' x H',l=l'++ [x]∧du H a (.acc d l) (.acc d l') H'∧Q x vals H'):Tn c vals H [.ref a] (fun vs=>call (.ref 82) vs) VR Q EX:=Tn.oneR fun s r=>by
 refine nn fun hG=>?_;obtain⟨us,n,e,zs,ad⟩:=r.objs _ _ hm.mem;refine hG ?_;clear hG;refine nn fun hG=>?_;obtain⟨pm,ho,hcd⟩:=r.base.fns 103 82 81 (by decide);refine hG ?_;clear hG;have hhi:=r.hi a (ak _ (bP.mpr ⟨_,hm.mem,ah⟩));have hne:a≠122:=fun e=>absurd hhi (by rw[e];decide);have hlen:=zs.length;refine g6 (rX (fd:=iR 103 81 pm) (binds:=[("self", .ref a)]) (by have:=ok.depth;simp only[gC];exact aH [c.A.depth] 5070765829852073666734658628354113 tt this) ho rfl r.base.lim hcd rfl (BindsTo.of_eq (by kernel_rfl)) Cf (by intro x hx;cases ao.mp hx;show (bD 103).names.lookup ("self" :Str)=_;decide +kernel) fun h₀ hns hk=>L3 fun QQ EE hQ hE=>?_);clear hE;have sF:=Hj pm s.heap.objs.size;have hce:(wJ (iR 103 81 pm) s.heap.objs.size 82).locals=s.heap.objs.size:=rfl;generalize wJ (iR 103 81 pm) s.heap.objs.size 82=ce at *;rw[← hce]at hns;have kk:ce.scope.kind= .function:=sF.kind;have S₁:aN s.heap (c.Z H) h₀ (c.Z H):=aN.keeps hk;have r₁:Rel c vals H { s with heap:=h₀,toks:=s.toks+1 }:=r.keeps hk r.gens rfl;have ad₁:=ad.of fun o e=>hk _ o e;refine nn fun hG=>?_;obtain⟨m,t,hnsd,_,hno⟩:=ad₁.ns;refine hG ?_;clear hG;have ok':=ok.reA ce hlv;refine g7 (ks_wpAt_If (pe (wpAny_isTrue_Compare1 (hm:=rfl) ?_)));refine vS (c:={ c with A:=c.A.deeper ce,env:=ce }) l7 rfl rfl ?_;refine d5 (dz kk sF.kself hns (by rfl) ?_) (by decide);refine⟨a,_,d,m,rfl,r₁.base,hk _ _ e,rfl,rfl,hnsd,hno _ (fun e=>l7.ns▸e),fW ⟨r₁.base,?_⟩⟩;refine aK (sG (EX:=kx) (Q:=fun v vals' H'=>v= .int l.length∧vals'=vals∧H'=H) ok' hm hl ⟨rfl,rfl,rfl⟩ _ [.ref a] (r₁.reA _ _) (.cons (.ref a) .nil)) (fun v s₂ p=>?_) fun e s₂ p=>?_
 ·refine nn fun hG=>?_;obtain⟨b,vals₂,H₂,r₂',S₂,z₂,hb,hE1,hE2⟩:=p;refine hG ?_;clear hG;obtain rfl:=hE1.symm;obtain rfl:=hE2.symm;have r₂:=r₂'.unA;subst hb;obtain⟨tk,rfl⟩:∃ tk,v= .int l.length tk:=by cases z₂.iInt;exact⟨_,rfl⟩
  refine wpAny_Constant_int (P.eq_int (fY ?_));have hL:∀ y∈c.Z H,y≠s.heap.objs.size:=fun y hy hyL=>by
   obtain⟨o,e⟩:=r.there y (ak _ hy);exact absurd (hyL▸bu e) (dh _)
  rcases q with ⟨rfl,q⟩ | ⟨l',x,H',rfl,p,q⟩
  ·refine py (by rfl) ?_;refine g7 (tZ (pe (Tuple_ ?_)));rw[cV rfl,cV rfl,dI,dI];refine e9 (show wpAny _ _ (mkText _) _ _ _ from ko (e9 (show wpAny _ _ (mkText _) _ _ _ from ko (fW ?_))));refine aK (s5 (EX:=kx) (Q:=Q) ((r₂.toks _).reA (c.A.deeper ce) (c.lvl+1)) (.cons (.str "" _) (.cons (.str "" _) .nil)) (by decide) q) (fun v s₃ p=>?_) fun e s₃ p=>(fI p).elim;refine nn fun hG=>?_;obtain⟨b,vals₃,H₃,r₃,S₃,z,q⟩:=p;refine hG ?_;clear hG;exact hQ (a8.mk b vals₃ H₃ r₃.unA (S₁.trans (aN.trans S₂ S₃)) z q)
  ·refine pn (by simp;omega) ?_;refine pe (fS ?_);refine g7 (tZ ?_);refine nn fun hG=>?_;obtain⟨us₂,n₂,e₂,_,_⟩:=r₂.objs _ _ hm.mem;refine hG ?_;clear hG;have hns₂:s₂.heap.Ns ce.locals _:=hns.at' fun o e=>(S₂ _ o e fun hy=>hL _ hy hce).1;refine vd (s:={ s₂ with toks:=s₂.toks+1 }) Jh (.inr rfl) vA sF r₂.base hns₂ (by rfl) e₂ rfl (fun _ h=>by cases h) hne (pl:=pure false) ?he (fun h' t' b' ha' A' Q' E' hq'=>v7 b' ha' rfl (fun _ h=>by cases h) hq') fun h' t' hk'=>?_
   case he=>rfl
   refine bE F.entry_list_pop ?_;refine(a7 vA _).symm▸?_;refine HN ok (mo:=.acc d (l'++ [x])) (l:=l') p (.acc d _) (by rw[aR,d8]at hl;exact aH [l'.length,av] 373565989645109428289 tt hl) (s:=⟨h',_,_,t',_⟩) (r₂.keeps hk' r₂.gens rfl) fun u s₃ r₃ S₃ zu=>?_;exact hQ (a8.mk x vals H' r₃ (S₁.trans (aN.trans S₂ ((aN.keeps hk').trans S₃))) zu q)
 ·exact(fI p).elim
end
end
section
section
variable{c:Cx}{vals:List V}{H:Hp}{EX:dK}{Q:V→List V→Hp→Prop}
theorem Jw{x y:Bool}(q:Q (.int (b2i x-b2i y)) vals H):T2 c vals H (.bool x) (.bool y) (lL .Sub) VR Q EX:=fun s v u r z z'=>by
 cases z.iBool;cases z'.iBool;exact PyProof.Rows.sub_bool (a8.intro (r.toks _) (aN.refl _ _) (.int _ _) q)
end
noncomputable def uI:Fd:=⟨4,42,41,2,["x","y"],[],[],[]⟩
theorem Iz:uI.chk=true:=by decide +kernel
theorem El(a b:V)(ha:V.data 8 a=true)(hb:V.data 8 b=true)(hk:xM 4 a b)(na:a≠ .unb)(nb:b≠ .unb):eO uI 0 [a,b] [] (fun r H'=>r= .int (b2i (pO a b)-b2i (kL a b))):=by
 intro fx ok hh hfr hl;refine T0.abs fun K hK=>?_;refine az (ee (cK (qN rfl (dL ok (.i 0 rfl rfl) na (dL ok (.i 1 rfl rfl) nb (GF ok ha hb hk ?_))))));refine qN rfl (dL ok (.i 0 rfl rfl) na (dL ok (.i 1 rfl rfl) nb (GD ok ha hb hk (Jw ?_))));exact hK ⟨_,[],[],rfl,rfl,rfl,rfl⟩
noncomputable def I4:Fd:=⟨16,199,198,1,["path","kind","hook","given"],["type","issubclass","str","bytes"],[.type "type", .builtin "issubclass", .type "str", .type "bytes"],[]⟩
theorem xX:I4.chk=true:=by decide +kernel
theorem ua(p:Str):eO I4 0 [.str p] [] (fun r H'=>r= .str p):=by
 intro fx ok hh hfr hl;refine T0.abs fun K hK=>?_;refine az (bB ok rfl (i3 ok 0 rfl rfl tt pt ?_));refine En ok 0 rfl rfl ff (Cz ⟨_, .tail .head,?_⟩);refine az (j9 (iL (fun _ _=>rfl) (i3 ok 1 rfl rfl tt pb ?_)));refine En ok 1 rfl rfl ff (gq rfl (Eg ok 2 rfl rfl (Eg ok 3 rfl rfl ⟨by decide,?_⟩)));refine IJ (nf ?_);refine az (ee (En ok 0 rfl rfl ff ?_));exact hK ⟨_,[],[],rfl,rfl,rfl,rfl⟩
noncomputable def bG:Str:="/"
noncomputable def zA:Fd:=⟨20,213,212,1,["path"],["isinstance","bytes"],[.builtin "isinstance", .type "bytes"],[]⟩
theorem DI:zA.chk=true:=by decide +kernel
theorem zU(p:Str):eO zA 0 [.str p] [] (fun r H'=>r= .str bG):=by
 intro fx ok hh hfr hl;refine T0.abs fun K hK=>?_;refine az (j9 (iL (fun _ _=>rfl) (i3 ok 0 rfl rfl tt pb ?_)));refine En ok 0 rfl rfl ff (Eg ok 1 rfl rfl (vP (nf ?_)));refine az (ee (ft ?_));exact hK ⟨_,[],[],rfl,rfl,rfl,rfl⟩
end
section
theorem qI{H:Hp}(h:haddrs H=haddrs []):H= []:=by
 cases H with
 | nil=>rfl
 | cons p H=>
  obtain⟨a,o⟩:=p;exact absurd (show a::_=([]:List Addr) from h) (List.cons_ne_nil _ _)
section
variable{c:Cx}{vals:List V}{H:Hp}{EX:dK}{Q:V→List V→Hp→Prop}{as:List V}
theorem gY(d:Fd)(hd:d.chk=true)(hb:∀ pm (vs:List Value),vs.length=d.np→c8 (d.fd pm) ⟨vs,[]⟩=pure ((d.names.take d.np).zip vs))(n:Nat)(ok:c.Ok)(hh:c.A.handled=none)(hl:c.lvl+(n+1)≤20)(ha:as.length=d.np)
  {Qf:V→Hp→Prop}(spec:eO d n as [] Qf)(q:∀ b,Qf b []→Q b vals H):Tn c vals H as (fun vs=>call (.ref d.a) vs) VR Q EX:=
 call_fn (H₁:=H) d hd hb n ok hh hl ha spec fun b H' e qf=>by
  cases qI e;exact q b qf
end
section
variable{c:Cx}{vals:List V}{H:Hp}{EX:dK}{Q:V→List V→Hp→Prop}
theorem k7{o:Expr}{name:Str}{apos pos:Pos}{args:List Expr}{id:String}(hb:ju o name c.env (eval o c.env)=eval o c.env)(hn:args.all eN=true)(hl:args.length<29)(hline:(apos.endLine == pos.line)=true)
  (slot:Slot "str" name id)(hty:typeOf (.builtin id)=pure (.type "method_descriptor"))
  (h:Ev c vals H o (fun a vals₁ H₁=>(∃ x,a= .str x)∧Gc c EX (fun as vals₂ H₂=>Tn c vals₂ H₂ (a::as) (fun vs=>call (.builtin id) vs) VR Q EX) args vals₁ H₁) EX):
  Ev c vals H (.Call (.Attribute o name apos) args [] pos) Q EX:=
 DW hb hn hl hline F.plainAttrs_str slot hty (T0.mono h fun a vals₁ H₁ hP=>⟨fun s v r z=>by
  obtain⟨x,e⟩:=hP.1;clear hP;subst e
  cases z.iStr with
  | mk _ t=>exact⟨qS _ _ _,fun b hb=>by cases hb⟩,hP.2⟩)
theorem mN{Q:Bool→List V→Hp→Prop}{e:Expr}{l:List Expr}(h:F7 c vals H e (fun b vals₁ H₁=>if b=true then Bq c .And Q EX l vals₁ H₁ else Q false vals₁ H₁) EX):Bq c .And Q EX (e::l) vals H:=
 T0.mono h fun b vals' H' q=>by cases b<;>simpa using q
theorem gN{Q:Bool→List V→Hp→Prop}{e:Expr}{l:List Expr}(h:F7 c vals H e (fun b vals₁ H₁=>if b=true then Q true vals₁ H₁ else Bq c .Or Q EX l vals₁ H₁) EX):Bq c .Or Q EX (e::l) vals H:=
 T0.mono h fun b vals' H' q=>by cases b<;>simpa using q
end
theorem wz(ts:List Expr)(e:Expr){env env':Env}(h:env.scope=env'.scope):lF ts e env=lF ts e env':=by
 have h1:env.kindOf=env'.kindOf:=by funext x;show env.scope.names.lookup x=env'.scope.names.lookup x;rw[h]
 have h2:env.blockKind=env'.blockKind:=by unfold Env.blockKind;rw[h]
 unfold lF;rw[h1,h2]
theorem C4(pm:Value)(vs:List Value)(h:vs.length=I4.np):c8 (I4.fd pm) ⟨vs,[]⟩=pure ((I4.names.take I4.np).zip vs):=by
 obtain⟨v,rfl⟩:=ri h
 kernel_rfl
theorem GH(pm:Value)(vs:List Value)(h:vs.length=zA.np):c8 (zA.fd pm) ⟨vs,[]⟩=pure ((zA.names.take zA.np).zip vs):=by
 obtain⟨v,rfl⟩:=ri h
 kernel_rfl
noncomputable def jw(p:Str):Str:=Kq p none (some (Kr p bG+1))
noncomputable def Gn(p:Str):Str:=Kq p (some (Kr p bG+1)) none
noncomputable def zE(h:Str):Str:=if h.length≠0∧h≠CK bG h.length then wK h bG else h
noncomputable def ke(p:Str):Str×Str:=(zE (jw p),Gn p)
noncomputable def aB(p:Str×Str):V:=.tup [.str p.1, .str p.2]
noncomputable def kR:Fd:=⟨22,227,226,1,["p","sep","i","head","tail"],["fspath","_get_sep","len"],[.ref 199, .ref 213, .builtin "len"],[]⟩
theorem xw:kR.chk=true:=by decide +kernel
theorem dR{i a k:Nat}(h:ou.contains (i,a,k)=true):s4 (.ref a):=.inr (.inr ⟨i,a,k,by simpa using h,rfl⟩)
set_option tactic.hygienic true in
theorem vk(p:Str)(hl:p.length≤1000):eO kR 1 [.str p] [] (fun r H'=>r=aB (ke p)):=by
 intro fx ok hh hfr hlv;refine T0.abs fun K hK=>?_;refine az (bB ok rfl (i3 ok 0 rfl rfl tt (dR (i:=16) (k:=198) rfl) ?_));refine En ok 0 rfl rfl ff (gY I4 xX C4 0 ok hh hlv rfl (ua p) (Mu ?_));refine⟨_, .head,az (bB ok rfl (i3 ok 1 rfl rfl tt (dR (i:=20) (k:=212) rfl) ?_))⟩;refine En ok 0 rfl rfl ff (gY zA DI GH 0 ok hh hlv rfl (zU p) (Mu ?_));refine⟨_, .tail .head,az (bB ok rfl (cK ?_))⟩;refine k7 rfl rfl (by decide) rfl F.slot_str_rfind F.type_str_rfind (En ok 0 rfl rfl ff ⟨⟨_,rfl⟩,En ok 1 rfl rfl ff ?_⟩);refine IG (bS (oC ⟨_, .tail (.tail .head),az (CJ ok hh rfl ?_ (gq rfl ?_))⟩))
 ·rw[wz _ _ (env':={ (nW:Env)with scope:=bD 22 }) (by exact hfr.2.1)]
  kernel_rfl
 have h0:p.length≤av:=aU hl (by decide);refine fe (En ok 0 rfl rfl ff (En ok 2 rfl rfl ff ⟨_,rfl,Al,Gx h0 ?_⟩));refine fe (En ok 0 rfl rfl ff (En ok 2 rfl rfl ff ⟨_,rfl,Al,Gx h0 ⟨by exact am tt,?_⟩⟩));have hhl:(jw p).length≤1000:=aU (pj p _ _) hl;refine⟨.str (jw p), .str (Gn p),rfl,_, .tail (.tail (.tail (.tail .head))),_, .tail (.tail (.tail .head)),?_⟩;have fin:∀ vals',At kR.names vals' "head" (.str (zE (jw p)))→At kR.names vals' "tail" (.str (Gn p))→
   Ss (frame kR fx) vals' [] [(gy 22).getLastD (.Pass nW)] K kx:=fun vals' h1 h2=>
  az (ee (gq rfl (dL ok h1 (nu ff) (dL ok h2 (nu ff) ⟨by exact am tt,hK ⟨_,[],[],rfl,rfl,rfl,rfl⟩⟩))))
 refine az (j9 (gf (mN (iL (fun _ _=>rfl) (En ok 3 rfl rfl ff (xR (aU hhl (by decide)) ?_))))));by_cases e0:(jw p).length≠0
 ·refine py (aP e0) ?_;refine mN (bv rfl (En ok 3 rfl rfl ff (cK (En ok 1 rfl rfl ff (i3 ok 2 rfl rfl tt pb (En ok 3 rfl rfl ff (vO (aU hhl (by decide)) (Jx ?_ (r9 ⟨_,rfl,?_⟩)))))))))
  ·generalize (jw p).length=n at hhl;have e1:bG.length=1:=by decide
   refine⟨?_,fun _ _=>?_,fun _ _=>?_⟩
   ·have h1: ¬ (n:Int) < -(2^63):=by omega
    have h2: ¬ (n:Int)≥2^63:=by lia
    rw[bg h1,bg h2];rfl
   ·rw[e1];intro h;have:(1:Int)≤(2^63-1)/(n:Int):=by
     rename_i h1 h2
     exact(Int.le_ediv_iff_mul_le (by omega)).mpr (by lia)
    omega
   ·rw[e1];unfold Builtin.Str.tooLong av;simp only[dk]
    omega
  ·by_cases e1:jw p=CK bG (jw p).length
   ·have:(!decide (jw p=CK bG (jw p).length))=false:=by rw[aP e1];rfl
    refine this.symm▸?_;refine bz (fin _ (.tail (.tail (.tail ?_))) (.tail (.tail (.tail (.tail .head)))));rw[show zE (jw p)=jw p from if_neg fun z=>z.2 e1];exact .head
   ·have:(!decide (jw p=CK bG (jw p).length))=true:=by rw[bg e1];rfl
    refine this.symm▸?_;refine az (bB ok rfl (k7 rfl rfl (by decide) rfl F.slot_str_rstrip F.type_str_rstrip (En ok 3 rfl rfl ff ⟨⟨_,rfl⟩,En ok 1 rfl rfl ff ?_⟩)));refine FA (aU hhl (by decide)) ⟨_, .tail (.tail (.tail .head)),bz (fin _ (.tail (.tail (.tail ?_))) (.tail (.tail (.tail (.tail .head)))))⟩;rw[show zE (jw p)=wK (jw p) bG from if_pos ⟨e0,e1⟩];exact .head
 ·refine pn (by simpa using e0) ?_;refine bz (fin _ (.tail (.tail (.tail ?_))) (.tail (.tail (.tail (.tail .head)))));rw[show zE (jw p)=jw p from if_neg fun z=>e0 z.1];exact .head
end
section
set_option linter.unusedSimpArgs false
open PySem.W PySem.SeqAt PySem.Builtin.Str
theorem iK.del{H:Hp}{a:Addr}{mo:bW}(h:iK H a mo):∃ Hr,lK H a mo Hr:=by
 induction h with
 | head=>exact⟨_, .head⟩
 | tail _ ih=>obtain⟨Hr,d⟩:=ih;exact⟨_, .tail d⟩
theorem lK.perm{H Hr:Hp}{a:Addr}{mo:bW}(h:lK H a mo Hr):H.Perm ((a,mo)::Hr):=by
 induction h with
 | head=>exact .refl _
 | tail _ ih=>exact(ih.cons _).trans (.swap _ _ _)
theorem lK.put{H Hr:Hp}{a:Addr}{mo:bW}(h:lK H a mo Hr)(mo':bW):∃ H',du H a mo mo' H'∧H'.Perm ((a,mo')::Hr):=by
 induction h with
 | head=>exact⟨_, .head, .refl _⟩
 | tail _ ih=>obtain⟨H',p,q⟩:=ih;exact⟨_, .tail p,(q.cons _).trans (.swap _ _ _)⟩
section
variable{c:Cx}{vals:List V}{H H':Hp}{EX:dK}{s:Shared}{Q:V→List V→Hp→Prop}
theorem AO(p:H.Perm H'):(haddrs H).Perm (haddrs H'):=p.flatMap_right _
theorem Rel.perm(R:Rel c vals H s)(p:H.Perm H'):Rel c vals H' s∧aN s.heap (c.Z H) s.heap (c.Z H'):=by
 have pa:=AO p;have ho:∀ x,x∈c.own++haddrs H'↔x∈c.own++haddrs H:=fun x=>by simp only[aw,pa.mem_iff]
 have hZ:∀ x,x∈c.Z H'↔x∈c.Z H:=fun x=>by simp only[Cx.Z,aw,pa.mem_iff]
 have hX:∀ x,x∈c.X H'↔x∈c.X H:=fun x=>by simp only[Cx.X,aw,hZ]
 have SZ:aN s.heap (c.Z H) s.heap (c.Z H'):=fun b o e n=>⟨e,fun z=>n ((hZ b).mp z)⟩
 have S:=SZ.toX;refine⟨⟨fun x a h=>(R.vars x a h).imp id fun hP=>by obtain⟨v,y,z⟩:=hP;exact⟨v,y,z.stay S⟩,R.loc,R.cel,fun a o h=>(R.objs a o (p.mem_iff.mpr h)).of (fun _ _ _ e=>e) S,?_,fun x h=>R.apart x ((ho x).mp h),fun x h=>R.there x ((hX x).mp h),fun x h=>R.new x ((ho x).mp h),R.keep,R.base,R.tabs,R.gens,R.os,fun x h=>R.hi x ((ho x).mp h)⟩,SZ⟩;exact((pa.append_left c.own).nodup_iff).mp R.nodup
theorem DM(d:Fd)(hd:d.chk=true)(hb:∀ pm (vs:List Value),vs.length=d.np→c8 (d.fd pm) ⟨vs,[]⟩=pure ((d.names.take d.np).zip vs))(n:Nat)(ok:c.Ok)(hh:c.A.handled=none)(hl:c.lvl+(n+1)≤20){as:List V}(ha:as.length=d.np){a:Addr}{mo:bW}(hm:iK H a mo)
  {Qf:V→bW→Prop}(spec:eO d n as [(a,mo)] (fun b H'=>∃ mo',H'= [(a,mo')]∧Qf b mo'))(q:∀ b mo' H',du H a mo mo' H'→Qf b mo'→Q b vals H'):Tn c vals H as (fun vs=>call (.ref d.a) vs) VR Q EX:=fun s vs r z=>by
 obtain⟨Hr,dl⟩:=hm.del;obtain⟨r',S'⟩:=r.perm dl.perm;have main:=call_fn (EX:=EX) (H₀:=[(a,mo)]) (H₁:=Hr) (vals:=vals) (Q:=fun b vals' H'=>vals'=vals∧∃ mo',H'=(a,mo')::Hr∧Qf b mo') d hd hb n ok hh hl ha spec (fun b H' e qf=>by
  refine nn fun hG=>?_;obtain⟨mo',hE1,qf⟩:=qf;refine hG ?_;clear hG;subst hE1;exact⟨rfl,mo',rfl,qf⟩) s vs r' (z.go S')
 refine aK (dg S' main) (fun v s₁ p=>?_) fun _ _ p=>p;refine nn fun hG=>?_;obtain⟨b,vals₁,H₁,r₁,S₁,z₁,hE1,mo',hE2,qf⟩:=p;refine hG ?_;clear hG;subst hE1;subst hE2;refine nn fun hG=>?_;obtain⟨H',pt,pm⟩:=dl.put mo';refine hG ?_;clear hG;obtain⟨r₂,S₂⟩:=r₁.perm pm.symm;exact a8.intro r₂ (S₁.trans S₂) (z₁.go S₂) (q b mo' H' pt qf)
end
noncomputable def pZ:Fd:=⟨101,66,65,3,["self","fws","string"],[],[],[]⟩
theorem Ah:pZ.chk=true:=by decide +kernel
theorem DE(pm:Value)(vs:List Value)(h:vs.length=pZ.np):c8 (pZ.fd pm) ⟨vs,[]⟩=pure ((pZ.names.take pZ.np).zip vs):=by
 refine nn fun hG=>?_;obtain⟨u,v,w,hE1⟩:=Gh h;refine hG ?_;clear hG;subst hE1
 kernel_rfl
theorem wZ(a d:Addr)(l:List V)(x y:V)(hl:l.length<av)(hx:x≠ .unb)(hy:y≠ .unb):eO pZ 0 [.ref a,x,y] [(a, .acc d l)] (fun b H'=>∃ mo',H'= [(a,mo')]∧b= .none∧mo'= .acc d (l++ [.tup [x,y]])):=by
 intro fx ok hh hfr hlv;refine T0.abs fun K hK=>?_;refine az (gd ok rfl (jj AV rfl rfl (En ok 0 rfl rfl ff ⟨a,d,l,rfl, .head,?_⟩)));refine gq rfl (dL ok (.i 1 rfl rfl) hx (dL ok (.i 2 rfl rfl) hy ⟨by exact am tt,?_⟩));refine cl_append ok (mo:=.acc d l) .head (.acc d l) hl (bz ?_);exact hK ⟨_,[],_,rfl,rfl,rfl,_,rfl,rfl,rfl⟩
end
section
theorem vH:∀ {H:Hp},(haddrs H).Nodup→∀ {p q:Addr×bW} {b:Addr},p∈H→q∈H→b∈p.2.addrs p.1→b∈q.2.addrs q.1→p=q
 | [],_,_,_,_,hp,_,_,_=>nomatch hp
 | r::H,hn,p,q,b,hp,hq,bp,bq=>by
  simp only[haddrs,a0]at hn;have hn':=aJ.mp hn;rcases aF.mp hp with e | hp₁<;>rcases aF.mp hq with e' | hq₁
  ·rw[e,e']
  ·subst e;exact(hn'.2.2 b bp b (cZ.mpr ⟨_,hq₁,bq⟩) rfl).elim
  ·subst e';exact(hn'.2.2 b bq b (cZ.mpr ⟨_,hp₁,bp⟩) rfl).elim
  ·exact vH hn'.2.1 hp₁ hq₁ bp bq
section
variable{c:Cx}{vals:List V}{H:Hp}{s:Shared}
theorem zZ{h h':Heap}{S:List Addr}(x:xL S h h'){a:Addr}{m:Str→Option Value}(n:h.Ns a m):h'.Ns a m:=by
 refine nn fun hG=>?_;obtain⟨o,es,ep,ho,hd,hk,hf⟩:=n;refine hG ?_;clear hG;obtain⟨sl,e⟩:=x.2.2 a o ho;exact⟨_,es,ep,e,hd,hk,hf⟩
theorem vR{h h':Heap}{S:List Addr}(x:xL S h h'){a:Addr}{v:Option Value}(n:h.IsCell a v):h'.IsCell a v:=by
 refine nn fun hG=>?_;obtain⟨o,ho,hd⟩:=n;refine hG ?_;clear hG;obtain⟨sl,e⟩:=x.2.2 a o ho;exact⟨_,e,hd⟩
theorem Rel.slots(ok:c.Ok)(R:Rel c vals H s){S:List Addr}{h':Heap}(x:xL S s.heap h')(hS:∀ b∈S,b=c.env.locals∨∃ o,(b,bW.raw o)∈H):Rel c vals H { s with heap:=h' }∧aN s.heap (c.Z H) h' (c.Z H):=by
 have hd:∀ b∈S,b∈c.own++haddrs H:=fun b hb=>by
  rcases hS b hb with e | ⟨o,e⟩
  ·rw[e];exact aj _ ok.loc
  ·exact ak _ (bP.mpr ⟨_,e,fc _ _⟩)
 have k:∀ b o,b∉S→s.heap.get? b=some o→h'.get? b=some o:=fun b o hb e=>(x.2.1 b hb).trans e;have SZ:aN s.heap (c.Z H) h' (c.Z H):=aN.change (fun y h=>wQ (hd y h)) k;have nd:=R.nodup;refine⟨R.change (s':={ s with heap:=h' }) ok hd (fun b o h _ e=>k b o h e) (R.tabs.of fun y o h e=>k y o (fun q=>c4 ok R (hd y q) h) e) R.gens rfl rfl (fun b hb=>?_) ?_ ?_ ?_ ?_,SZ⟩
 ·obtain⟨o,e⟩:=R.there b (kP (hd b hb));obtain⟨sl,e'⟩:=x.2.2 b o e;exact⟨_,e'⟩
 ·intro y a h;refine(R.vars y a h).imp id fun⟨v,q,z⟩=>⟨v,?_,z.go SZ⟩
  rcases q with ⟨kd,m,ns,hv⟩ | ⟨kd,q,hq,hc⟩
  ·exact .inl ⟨kd,m,zZ x ns,hv⟩
  ·exact .inr ⟨kd,q,hq,vR x hc⟩
 ·obtain⟨m,n⟩:=R.loc;exact⟨m,zZ x n⟩
 ·intro y q hq;obtain⟨v,n⟩:=R.cel y q hq;exact⟨v,vR x n⟩
 ·intro a o hm;have hno:∀ b,b∈o.addrs a→b∈S→∃ r,(a,o)=(b,bW.raw r):=fun b hb hs=>by
   rcases hS b hs with e | ⟨r,e⟩
   ·subst e;exact((aJ.mp nd).2.2 _ ok.loc _ (bP.mpr ⟨_,hm,hb⟩) rfl).elim
   ·exact⟨r,vH (aJ.mp nd).2.1 hm e hb (fc _ _)⟩
  cases o with
  | list l=>exact(R.objs a _ hm).of (fun b ob hb e=>k b ob (fun hs=>by obtain⟨r,e⟩:=hno b hb hs;cases e) e) SZ.toX
  | acc d l=>exact(R.objs a _ hm).of (fun b ob hb e=>k b ob (fun hs=>by obtain⟨r,e⟩:=hno b hb hs;cases e) e) SZ.toX
  | raw o=>
   obtain⟨sl,e⟩:=R.objs a _ hm;obtain⟨sl',e'⟩:=x.2.2 a _ e;exact⟨sl',e'⟩
end
noncomputable def io(out:List Env)(H:Hp):Prop:=∀ env∈out,env.scope.kind≠ .module∧∃ L o,env.frame=some L∧(L,bW.raw o)∈H∧∀ vs,o.data≠ .fields vs
structure tO(c:Cx)(out:List Env):Prop where
 fr:c.A.frames=some (c.env::out)
 own:c.env.frame=some c.env.locals
theorem io.mono{out:List Env}{H H':Hp}(h:io out H)(k:∀ a o,(a,bW.raw o)∈H→(∀ vs,o.data≠ .fields vs)→(a,bW.raw o)∈H'):io out H':=fun env he=>by
 refine nn fun hG=>?_;obtain⟨a,L,o,b,d,e⟩:=h env he;refine hG ?_;clear hG;exact⟨a,L,o,b,k L o d e,e⟩
section
variable{c:Cx}{vals:List V}{H:Hp}{s:Shared}{E:Value→Shared→Prop}
theorem rQ(R:Rel c vals H s){base:Heap}(hb:∀ a,base.get? a=none):∀ {out:List Env},io out H→s.heap.FunFrames base out
 | [],_=>trivial
 | env::out,h=>by
  refine nn fun hG=>?_;obtain⟨hk,L,o,hf,hm,hd⟩:=h env ah;refine hG ?_;clear hG;obtain⟨sl,e⟩:=R.objs L _ hm;exact⟨hk,⟨L,_,hf,hb L,e,hd⟩,rQ R hb fun x hx=>h x (ai _ hx)⟩
noncomputable def GL:Heap:={}
theorem vI(a:Addr):GL.get? a=none:=by rfl
theorem BL(ok:c.Ok)(R:Rel c vals H s){out:List Env}(F:tO c out)(ho:io out H){Q:Value→Shared→Prop}
  (h:∀ h',Rel c vals H { s with heap:=h' }→aN s.heap (c.Z H) h' (c.Z H)→Q (.ref c.env.locals) { s with heap:=h' }):wpAny c.M c.A (frameOf c.env) Q E s:=by
 refine nn fun hG=>?_;obtain⟨m,o,es,ep,e1,e2,_⟩:=R.loc;refine hG ?_;clear hG;refine wpAny_frameOf_fun (base:=GL) F.fr ⟨by rw[ok.kind];decide,⟨_,o,F.own,vI _,e1,fun vs q=>by rw[e2]at q;cases q⟩,rQ R vI ho⟩ F.own fun h' hs=>?_;obtain⟨R',S⟩:=R.slots ok hs fun b hb=>by
  rw[eK,F.own]at hb;rcases aF.mp hb with e | hb
  ·exact .inl e
  ·refine nn fun hG=>?_;obtain⟨env,he,hf⟩:=List.mem_filterMap.mp hb;refine hG ?_;clear hG;refine nn fun hG=>?_;obtain⟨_,L,o,hf',hm,_⟩:=ho env he;refine hG ?_;clear hG;rw[hf]at hf';cases hf';exact .inr ⟨o,hm⟩
 exact h h' R' S
end
end
section
theorem iK.app{G H:Hp}{a:Addr}{o:bW}(h:iK G a o):iK (G++H) a o:=by
 induction h with
 | head=>exact .head
 | tail _ ih=>exact .tail ih
theorem iK.right{H:Hp}{a:Addr}{o:bW}:∀ (G:Hp),iK H a o→iK (G++H) a o
 | [],h=>h
 | _::G,h=>.tail (h.right G)
theorem du.app{G G' H:Hp}{a:Addr}{o o':bW}(h:du G a o o' G'):du (G++H) a o o' (G'++H):=by
 induction h with
 | head=>exact .head
 | tail _ ih=>exact .tail ih
theorem du.right{H H':Hp}{a:Addr}{o o':bW}:∀ (G:Hp),du H a o o' H'→du (G++H) a o o' (G++H')
 | [],h=>h
 | _::G,h=>.tail (h.right G)
theorem iK.put{H:Hp}{a:Addr}{o:bW}(h:iK H a o)(o':bW):∃ H',du H a o o' H'∧iK H' a o':=by
 induction h with
 | head=>exact⟨_, .head, .head⟩
 | tail _ ih=>obtain⟨H',p,q⟩:=ih;exact⟨_, .tail p, .tail q⟩
theorem du.other{H H':Hp}{a b:Addr}{o o' x:bW}(h:du H a o o' H')(hb:b≠a):iK H b x→iK H' b x:=by
 induction h with
 | head=>
  intro i
  cases i with
  | head=>exact(hb rfl).elim
  | tail i=>exact .tail i
 | tail _ ih=>
  intro i
  cases i with
  | head=>exact .head
  | tail i=>exact .tail (ih hb i)
noncomputable abbrev Gi(t tb cx:Value):Data:=.fields #[t,tb,cx, .none, .bool false, .none]
noncomputable def wV(cls:String)(G:Hp)(e:Addr)(tb cx:Value):Prop:=∃ oe t,iK G e (.raw oe)∧oe.cls= .type cls∧oe.data=Gi t tb cx
noncomputable def NA(G:Hp)(tb:Addr)(fl:Value):Prop:=∃ ot ts,iK G tb (.raw ot)∧ot.data= .fields ts∧ts[3]?=some fl
noncomputable def ow(cls:String)(G:Hp)(e:Addr)(cx fl:Value):Prop:=∃ tb,tb≠e∧wV cls G e (.ref tb) cx∧NA G tb fl
section
variable{c:Cx}{vals:List V}{H H':Hp}{s:Shared}{E:Value→Shared→Prop}
theorem Rel.rawSet(ok:c.Ok)(R:Rel c vals H s){a:Addr}{o:Obj}{vs:Array Value}{f:Array Value→Array Value}(hd:o.data= .fields vs)(p:du H a (.raw o) (.raw { o with data:=.fields (f vs) }) H'):
  Rel c vals H' { s with heap:=s.heap.update a (eU f) }∧aN s.heap (c.Z H) (s.heap.update a (eU f)) (c.Z H'):=by
 obtain⟨sl,e⟩:=R.objs a _ p.inH.mem;refine R.turn (s':={ s with heap:=s.heap.update a (eU f) }) ok p rfl (fun b ob hb he=>?_) R.gens rfl ?_
 ·have hb':b≠a:=fun q=>hb (q▸fc _ _);exact(cT _ _ (gO hb')).trans he
 ·refine⟨sl,?_⟩;have hdd:({ o with slots:=sl }:Obj).data= .fields vs:=hd;have:=dE (eU f) e (Obj.isFreed_of_fields (sR hdd f));refine this.symm▸?_;refine nn fun hG=>?_;obtain⟨cl,di,da,s0⟩:=o;refine hG ?_;clear hG;cases hd
  rfl
theorem Rel.rawAt(R:Rel c vals H s){a:Addr}{o:Obj}(h:iK H a (.raw o)):∃ sl,s.heap.get? a=some { o with slots:=sl }:=R.objs a _ h.mem
theorem Rel.layRaw(R:Rel c vals H s)(o:Obj)(hf:o.isFreed=false):Rel c vals ((s.heap.objs.size, .raw o)::H) { s with heap:=s.heap.push o }∧aN s.heap (c.Z H) (s.heap.push o) (c.Z ((s.heap.objs.size, .raw o)::H)):=by
 refine R.lay (s':={ s with heap:=s.heap.push o }) (mo:=.raw o) (fun x hx=>?_) (jq _ _) (fun b ob e=>al _ e) R.gens rfl ⟨o.slots,aA _ hf⟩;simp only[bW.addrs,ao]at hx;subst hx;exact⟨R.none_at_size,R.size⟩
section
variable{G H₀:Hp}{cls:String}{e:Addr}{cx fl:Value}{out:List Env}
theorem vF(ok:c.Ok)(F:tO c out)(ho:io out H₀)(R:Rel c vals (G++H₀) s)(x:wV cls G e .none cx){Q:Unit→Shared→Prop}
  (h:∀ s' G',Rel c vals (G'++H₀) s'→aN s.heap (c.Z (G++H₀)) s'.heap (c.Z (G'++H₀))→ow cls G' e cx (rawInt c.env.locals)→Q () s'):wpAny c.M c.A (jQ (.ref e) c.env) Q E s:=by
 refine nn fun hG=>?_;obtain⟨oe,t,he,hc,hd⟩:=x;refine hG ?_;clear hG;obtain⟨sl,hg⟩:=R.rawAt he.app;refine wq (noteFrame.eq_1 ..) ?_;simp only[F.own]
 refine aa (b9 hg hd (x:=.none) rfl ?_);refine wn (by decide) ?_;refine aa (BL ok R F (fun env hm=>by
  refine nn fun hG=>?_;obtain⟨a,L,o,b,d,e⟩:=ho env hm;refine hG ?_;clear hG;exact⟨a,L,o,b,ak _ d,e⟩) fun h₁ R₁ S₁=>?_)
 refine aa (wpAny_entryPlaceOf fun pl hpl=>?_);unfold EntryCells.newEntry newFields;refine aa (bj ?_ (hpl.sizeOk5 _ _ _ _ _));generalize hot:({ cls:=.type "traceback",dict:=none,data:=.fields ([bx, .ref c.env.locals, .none,rawInt c.env.locals, .none]++(if pl.isEmpty then List.replicate 6 bx else pl)).toArray }:Obj)=ot;have hnf:ot.isFreed=false:=by subst hot;rfl
 obtain⟨R₂,S₂⟩:=R₁.layRaw ot hnf;have he₂:iK (((h₁.objs.size,bW.raw ot)::G)++H₀) e (.raw oe):=iK.tail he.app;obtain⟨sl₂,hg₂⟩:=R₂.rawAt he₂;have hne:h₁.objs.size≠e:=fun q=>by
  obtain⟨sl₁,hg₁⟩:=R₁.rawAt he.app;exact absurd (bu hg₁) (by rw[← q];exact dh _)
 refine eI hg₂ hd (by show 1<6;decide) ?_;refine nn fun hG=>?_;obtain⟨G',pG,iG⟩:=iK.put (iK.tail (p:=(h₁.objs.size,bW.raw ot)) he) (.raw { oe with data:=.fields ((#[t,bx,cx, .none, .bool false, .none]:Array Value).setIfInBounds 1 (.ref h₁.objs.size)) });refine hG ?_;clear hG;obtain⟨R₃,S₃⟩:=R₂.rawSet ok (f:=(·.setIfInBounds 1 (.ref h₁.objs.size))) hd (pG.app (H:=H₀));refine h _ G' R₃ ((S₁.trans S₂).trans S₃) ⟨h₁.objs.size,hne,⟨_,t,iG,hc,by rfl⟩,ot,_,du.other pG hne .head,by rw[← hot],by rfl⟩
theorem qF(F:tO c out)(R:Rel c vals (G++H₀) s)(x:ow cls G e cx (rawInt c.env.locals)){Q:Unit→Shared→Prop}(h:Q () s):wpAny c.M c.A (jQ (.ref e) c.env) Q E s:=by
 refine nn fun hG=>?_;obtain⟨tb,hne,⟨oe,t,he,hc,hd⟩,ot,ts,ht,hdt,h3⟩:=x;refine hG ?_;clear hG;obtain⟨sl,hg⟩:=R.rawAt he.app;obtain⟨sl',hg'⟩:=R.rawAt ht.app;exact wpAny_noteFrame_inFlight F.own hg hd (by rfl) hg' hdt h3 h
theorem k8(ok:c.Ok)(R:Rel c vals (G++H₀) s)(x:ow cls G e cx fl)(f:Option Addr){M:Model}{A:Around}{Q:Unit→Shared→Prop}
  (h:∀ s' G',Rel c vals (G'++H₀) s'→aN s.heap (c.Z (G++H₀)) s'.heap (c.Z (G'++H₀))→ow cls G' e cx (f.elim .none fun f=>rawInt f)→Q () s'):wpAny M A (setFlight (.ref e) f) Q E s:=by
 refine nn fun hG=>?_;obtain⟨tb,hne,⟨oe,t,he,hc,hd⟩,ot,ts,ht,hdt,h3⟩:=x;refine hG ?_;clear hG;obtain⟨sl,hg⟩:=R.rawAt he.app;obtain⟨sl',hg'⟩:=R.rawAt ht.app;refine wq (setFlight.eq_1 ..) ?_;refine aa (b9 hg hd (x:=.ref tb) (by rfl) ?_);refine wy (show (dq tb != bx)=true from by rfl) ?_;have hsz:=(Array.getElem?_eq_some_iff.mp h3).1;refine eI hg' hdt hsz ?_;refine nn fun hG=>?_;obtain⟨G',pG,iG⟩:=ht.put (.raw { ot with data:=.fields (ts.setIfInBounds 3 (f.elim .none fun f=>rawInt f)) });refine hG ?_;clear hG;obtain⟨R₃,S₃⟩:=R.rawSet ok (f:=(·.setIfInBounds 3 (f.elim .none fun f=>rawInt f))) hdt (pG.app (H:=H₀));refine h _ G' R₃ S₃ ⟨tb,hne,⟨oe,t,du.other pG (gO hne) he,hc,hd⟩,_,_,iG,rfl,by simp[hsz]⟩
theorem xD(ok:c.Ok)(F:tO c out)(R:Rel c vals (G++H₀) s)(x:ow cls G e cx fl){P:Value→Shared→Prop}
  (h:∀ s' G',Rel c vals (G'++H₀) s'→aN s.heap (c.Z (G++H₀)) s'.heap (c.Z (G'++H₀))→ow cls G' e cx (rawInt c.env.locals)→P (.ref e) s'):wb c.M c.A c.env P (.ref e) s:=by
 have x':=x;refine nn fun hG=>?_;obtain⟨tb,hne,⟨oe,t,he,hc,hd⟩,_⟩:=x';refine hG ?_;clear hG;obtain⟨sl,hg⟩:=R.rawAt he.app;unfold wb;refine aa (b9 hg hd (x:=.ref tb) (by rfl) ?_);refine wn (show ¬ (dq tb == bx)=true from by simp) ?_;refine k8 ok R x _ fun s' G' R' S' x'=>?_;rw[F.own]at x';exact h s' G' R' S' x'
theorem Et(ok:c.Ok)(F:tO c out)(R:Rel c vals (G++H₀) s)(x:ow cls G e cx fl){α:Type}{w:String}{Q:α→Shared→Prop}
  (h:∀ s' G',Rel c vals (G'++H₀) s'→aN s.heap (c.Z (G++H₀)) s'.heap (c.Z (G'++H₀))→ow cls G' e cx (rawInt c.env.locals)→E (.ref e) s'):wpAny c.M c.A (PySem.passOn w (.ref e) c.env) Q E s:=by
 have x':=x;refine nn fun hG=>?_;obtain⟨tb,hne,⟨oe,t,he,hc,hd⟩,_⟩:=x';refine hG ?_;clear hG;obtain⟨sl,hg⟩:=R.rawAt he.app;refine wq (PySem.passOn.eq_1 ..) ?_;refine aa (b9 hg hd (x:=.ref tb) (by rfl) ?_);refine wn (show ¬ (dq tb == bx)=true from by simp) ?_;refine aa (k8 ok R x _ fun s' G' R' S' x'=>lM ?_);rw[F.own]at x';exact h s' G' R' S' x'
end
end
end
section
theorem wF:km table "proto.unchain" =some Builtin.«proto.unchain» :=i9 (by kernel_rfl)
noncomputable def oF(A:Around)(G:Hp)(K:Bool):Prop:=A.handled=none∨(K=false∧∃ e1 cls1 tb1,A.handled=some (.ref e1)∧wV cls1 G e1 tb1 .none)
section
variable{c:Cx}{vals:List V}{H H':Hp}{s:Shared}{E:Value→Shared→Prop}
theorem wp_raise(ok:c.Ok){G H₀:Hp}{cls msg:String}{K:Bool}(hp:PlainExc cls)(R:Rel c vals (G++H₀) s){prog:dt}{w:World}{A:Around}(hh:oF A G K){α:Type}{Q:α→Shared→Prop}
  (h:∀ s' G' e cx,Rel c vals (G'++H₀) s'→aN s.heap (c.Z (G++H₀)) s'.heap (c.Z (G'++H₀))→wV cls G' e .none cx→(K=true→cx= .none)→E (.ref e) s'):wpAny (model prog w) A (q6 cls msg:Sem α) Q E s:=by
 refine wq (raiseErrorWords.eq_1 ..) ?_;refine aa (ko (aa ?_));unfold newExc kg;refine aa (bj ?_);refine aa (m:=gF _ _) (cI (a:=bx) (by simp only[gF,hp.first];rfl) ?_);rw[hp.own];refine bj ?_;have R₁:=R.toks (s.toks+1);generalize hot:({ cls:=.type "tuple",dict:=none,data:=.seq [I0 msg s.toks].toArray }:Obj)=ot;have k₁:∀ b o,s.heap.get? b=some o→(s.heap.push ot).get? b=some o:=fun b o e=>al _ e;have R₂:Rel c vals (G++H₀) { s with heap:=s.heap.push ot,toks:=s.toks+1 }:=R.keeps k₁ R.gens rfl;have S₂:aN s.heap (c.Z (G++H₀)) (s.heap.push ot) (c.Z (G++H₀)):=aN.keeps k₁;have e0:(#[dq s.heap.objs.size, .none, .none,bx, .bool false, .none]++ #[]:Array Value)= #[dq s.heap.objs.size, .none, .none, .none, .bool false, .none]:=by rfl
 simp only[e0]
 obtain⟨R₃,S₃⟩:=R₂.layRaw { cls:=.type cls,dict:=none,data:=Gi (.ref s.heap.objs.size) .none .none } rfl;have S₃':=S₂.trans S₃;refine wq (raiseNew.eq_1 ..) ?_;refine aa (uq ?_);rcases hh with hh | ⟨hK,e1,cls1,tb1,hh,oe1,t1,i1,hc1,hd1⟩
 ·refine hh.symm▸?_;have fin:=h _ ((_, .raw _)::G) _ _ R₃ S₃' ⟨_,_, .head,rfl,rfl⟩ (fun _=>rfl)
  first
   | exact lM fin
   | exact aa (af (lM fin))
 ·refine hh.symm▸?_
  dsimp only
  have i1':iK ((((s.heap.push ot).objs.size,bW.raw { cls:=.type cls,dict:=none,data:=Gi (.ref s.heap.objs.size) .none .none })::G)++H₀) e1 (.raw oe1):=iK.tail i1.app;obtain⟨sl1,hg1⟩:=R₃.rawAt i1';have hne:e1≠(s.heap.push ot).objs.size:=fun q=>by
   obtain⟨sl0,hg0⟩:=R₂.rawAt i1.app;exact absurd (bu hg0) (by show ¬ e1<(s.heap.push ot).objs.size;rw[q];exact dh _)
  refine wy (show (dq e1 != dq (s.heap.push ot).objs.size)=true from by simpa using hne) ?_;refine aa (aC (CN (bE wF ?_)));show wpAny _ _ (field (.ref e1) 2 >>= _) _ _ _;refine aa (b9 hg1 hd1 (x:=.none) rfl ?_);refine wy (by decide) ?_;show wpAny _ _ (ret .none >>= _) _ _ _;refine aa (af (af ?_));have iE:iK ((((s.heap.push ot).objs.size,bW.raw { cls:=.type cls,dict:=none,data:=Gi (.ref s.heap.objs.size) .none .none })::G)) (s.heap.push ot).objs.size (.raw _):=.head;obtain⟨slE,hgE⟩:=R₃.rawAt (iE.app (H:=H₀));show wpAny _ _ (nG (.ref (s.heap.push ot).objs.size) 2 (.ref e1) >>= _) _ _ _;refine aa (eI (i:=2) hgE rfl (by show 2<6;decide) ?_);obtain⟨R₄,S₄⟩:=R₃.rawSet (o:={ cls:=.type cls,dict:=none,data:=Gi (.ref s.heap.objs.size) .none .none }) ok (f:=(·.setIfInBounds 2 (.ref e1))) rfl .head;refine lM (h _ ((_, .raw _)::G) _ (.ref e1) R₄ (S₃'.trans S₄) ⟨_, .ref s.heap.objs.size, .head,rfl,by rfl⟩ (fun q=>by rw[hK]at q;cases q))
end
end
section
inductive CW(L:Addr)(out:List Env)(cls:String)(K:Bool)(P:List V→Hp→Prop)(v:Value)(s:Shared)(vals:List V)(H:Hp):Prop
 | mk (e:Addr) (G H₀:Hp) (cx:Value) (ev:v= .ref e) (eH:H=G++H₀) (x:wV cls G e .none cx∨ow cls G e cx (rawInt L)) (k:K=true→cx= .none) (o:io out H₀) (p:P vals H₀)
section
variable{c:Cx}{vals:List V}{H:Hp}{s:Shared}{out:List Env}{cls:String}{K:Bool}{P:List V→Hp→Prop}
theorem Dl(ok:c.Ok)(F:tO c out)(H₀:Hp)(s₀:Shared):PassesOwn c.M c.A c.env (cF c H₀ s₀ (CW c.env.locals out cls K P)):=by
 intro v s' hI;refine nn fun hG=>?_;obtain⟨vals',H',R,S,e,G,H₁,cx,hE1,hE2,hx,hK,ho,p⟩:=hI;refine hG ?_;clear hG;subst hE1;subst hE2;have fin:∀ s₂ G₂,Rel c vals' (G₂++H₁) s₂→aN s'.heap (c.Z (G++H₁)) s₂.heap (c.Z (G₂++H₁))→ow cls G₂ e cx (rawInt c.env.locals)→wb c.M c.A c.env (cF c H₀ s₀ (CW c.env.locals out cls K P)) (.ref e) s₂:=fun s₂ G₂ R₂ S₂ x₂=>
  xD ok F R₂ x₂ fun s₃ G₃ R₃ S₃ x₃=>⟨vals',_,R₃,(S.trans S₂).trans S₃,e,G₃,H₁,cx,rfl,rfl, .inr x₃,hK,ho,p⟩
 rcases hx with x | x
 ·exact vF ok F ho R x fun s₂ G₂ R₂ S₂ x₂=>fin s₂ G₂ R₂ S₂ x₂
 ·exact qF F R x (fin _ G R (aN.refl _ _) x)
theorem Go(ok:c.Ok)(F:tO c out){H₀:Hp}{s₀:Shared}{v:Value}{s':Shared}(x:cF c H₀ s₀ (CW c.env.locals out cls K P) v s'){Q:Unit→Shared→Prop}{E:Value→Shared→Prop}
  (h:∀ e s₂ G vals₂ H₂ cx,v= .ref e→Rel c vals₂ (G++H₂) s₂→aN s₀.heap (c.Z H₀) s₂.heap (c.Z (G++H₂))→ow cls G e cx (rawInt c.env.locals)→(K=true→cx= .none)→io out H₂→P vals₂ H₂→Q () s₂):wpAny c.M c.A (jQ v c.env) Q E s':=by
 refine nn fun hG=>?_;obtain⟨vals',H',R,S,e,G,H₁,cx,hE1,hE2,hx,hK,ho,p⟩:=x;refine hG ?_;clear hG;subst hE1;subst hE2;rcases hx with x | x
 ·exact vF ok F ho R x fun s₂ G₂ R₂ S₂ x₂=>h e s₂ G₂ vals' H₁ cx rfl R₂ (S.trans S₂) x₂ hK ho p
 ·exact qF F R x (h e _ G vals' H₁ cx rfl R S x hK ho p)
theorem sx(ok:c.Ok){a:V}{l:List V}{k:Int}{G H₀:Hp}(hr:lS (G++H₀) a l)(h0:0≤k)(hk:(l.length:Int)≤k)(hb:k<2^63)(hh:oF c.A G K)(ho:io out H₀)(p:P vals H₀){Q:V→List V→Hp→Prop}:T2 c vals (G++H₀) a (.int k) mT VR Q (CW c.env.locals out "IndexError" K P):=fun s v u r z z'=>by
 cases z'.iInt with
 | mk _ t=>
  refine nn fun hG=>?_;obtain⟨ad,cl,dd,vs,n,hE1,e,zs,hc⟩:=r.row hr z;refine hG ?_;clear hG;subst hE1;have hle:=zs.length;refine o0 r.base e hc ?_;show wpAny _ _ (dF (.int k t) >>= _) _ _ s;refine aa (wpAny_listSubscript_int (fitsIndex_both (by exact KE h0 rfl) hb) ?_);obtain⟨j,rfl⟩:=Int.eq_ofNat_of_zero_le h0;have hx':vs.toArray[j]?=none:=Array.getElem?_eq_none (by rw[aI,← hle];omega);show wpAny _ _ ((seqItemAt ad j >>= fun r=>pure (r.map (j,·))) >>= _) _ _ s;refine aa (aa (wpAny_seqItemAt e rfl (af ?_)));refine hx'.symm▸?_;have fin:∀ {α:Type} {Q':α→Shared→Prop} {E':Value→Shared→Prop},(∀ e s',cF c (G++H₀) s (CW c.env.locals out "IndexError" K P) e s'→E' e s')→wpAny c.M c.A.in1 (q6 "IndexError" "list index out of range" :Sem α) Q' E' s:=fun hE=>
   wp_raise (K:=K) (A:=c.A.in1) ok plainExc_IndexError r (show oF c.A.in1 G K from hh) fun s' G' e cx R' S' x hK=>hE _ _ ⟨vals,_,R',S',e,G',H₀,cx,rfl,rfl, .inl x,hK,ho,p⟩
  first
   | exact aa (dT (fin fun _ _ h=>h))
   | exact aa (dT (aa (fin fun _ _ h=>h)))
   | exact aa (aa (dT (fin fun _ _ h=>h)))
   | exact dT (fin fun _ _ h=>h)
end
noncomputable abbrev Cx.hd(c:Cx)(e:Addr):Cx:={ c with A:=c.A.mark (some (.ref e)) }
theorem Cx.Ok.hd{c:Cx}(ok:c.Ok)(e:Addr):(c.hd e).Ok:=⟨ok.kind,ok.glob,ok.blt,ok.loc,ok.cell,ok.cells,ok.inj,ok.tb,ok.nn,ok.nd,ok.nc,ok.sto,ok.dj,ok.gl,ok.cnk,ok.frm,ok.dep,ok.uni,ok.low⟩
section
variable{c:Cx}{vals:List V}{H:Hp}{s:Shared}{out:List Env}{cls:String}{K:Bool}{P:List V→Hp→Prop}{EX:dK}
theorem Rel.hd(R:Rel c vals H s)(e:Addr):Rel (c.hd e) vals H s:=⟨R.vars,R.loc,R.cel,R.objs,R.nodup,R.apart,R.there,R.new,R.keep,R.base,R.tabs,R.gens,R.os,R.hi⟩
theorem Rel.unhd{e:Addr}(R:Rel (c.hd e) vals H s):Rel c vals H s:=⟨R.vars,R.loc,R.cel,R.objs,R.nodup,R.apart,R.there,R.new,R.keep,R.base,R.tabs,R.gens,R.os,R.hi⟩
theorem cF.unhd{e:Addr}{v:Value}{s':Shared}(x:cF (c.hd e) H s EX v s'):cF c H s EX v s':=let ⟨a,b,r,S,d⟩:=x;⟨a,b,r.unhd,S,d⟩
theorem a8.unhd{α β:Type}{R:Heap→List Addr→β→α→Prop}{Q:β→List V→Hp→Prop}{e:Addr}{v:α}{s':Shared}(x:a8 (c.hd e) H s R Q v s'):a8 c H s R Q v s':=let ⟨a,b,d,r,S,z,y⟩:=x;⟨a,b,d,r.unhd,S,z,y⟩
theorem tO.hd(F:tO c out)(e:Addr):tO (c.hd e) out:=⟨F.fr,F.own⟩
theorem HT(ok:c.Ok)(F:tO c out)(e:Addr)(H₀:Hp)(s₀:Shared):∀ v s',cF c H₀ s₀ (CW c.env.locals out cls K P) v s'→Bc c.M (c.A.mark (some (.ref e))) c.env (wb c.M c.A c.env (cF c H₀ s₀ (CW c.env.locals out cls K P))) v s':=fun v s' x=>by
 refine nn fun hG=>?_;obtain⟨vals',H',R,S,x⟩:=x;refine hG ?_;clear hG;refine Go (c:=c.hd e) (ok.hd e) (F.hd e) ⟨vals',H',R.hd e,S,x⟩ fun e' s₂ G vals₂ H₂ cx hv R₂ S₂ x₂ hK ho p=>?_;subst hv;exact xD ok F R₂.unhd x₂ fun s₃ G₃ R₃ S₃ x₃=>⟨vals₂,_,R₃,S₂.trans S₃,e',G₃,H₂,cx,rfl,rfl, .inr x₃,hK,ho,p⟩
theorem GX(ok:c.Ok)(F:tO c out){T:String}{body:List Stmt}{b₀:Stmt}{suite:List Stmt}{x:Str}{p1 p2 pos:Pos}{Q:Fl→List V→Hp→Prop}
  (hexc:fQ (.type T) (.type "BaseException")=pure true)(hnt:fQ (.type ((Manifest.find? T).elim "type" fun x=>x.metatype)) (.type "tuple")=pure false)(hsub:fQ (.type T) (.type T)=pure true)
  (hg:At c.gn c.gv x (.type T))(h:Ss c vals H body Q (CW c.env.locals out T K P))
  (hk:∀ e G vals₁ H₁,io out H₁→P vals₁ H₁→Ss (c.hd e) vals₁ (G++H₁) (b₀::suite) Q kx):S1 c vals H (.Try body [.ExceptHandler (some (.Name x p1)) none (b₀::suite) p2] [] [] pos) Q EX:=fun s r=>by
 refine wpAny_Try_except (aK (h s r) (fun f s₁ ⟨fl,vals₁,H₁,r₁,S₁,z,q⟩=>?_) fun v s₁ px=>?_)
 ·cases z with
  | next=>exact fS (a8.intro r₁ S₁ .next q)
  | brk=>exact a8.intro r₁ S₁ .brk q
  | cont=>exact a8.intro r₁ S₁ .cont q
  | ret z=>exact a8.intro r₁ S₁ (.ret z) q
 ·refine Go ok F px fun e s₂ G vals₂ H₂ cx hv R₂ S₂ x₂ hK ho p=>?_;subst hv;refine k8 ok R₂ x₂ none fun s₃ G₃ R₃ S₃ x₃=>?_;refine wpAny_handleBy_builtin (X:=T) (T:=T) (b:=true) hexc hnt hsub ?_;have okh:=ok.hd e;refine aK (l4 (c:=c.hd e) (EX:=kx) (Q:=fun a vals' H'=>a= .obj (.type T)∧vals'=vals₂∧H'=G₃++H₂) okh hg ⟨rfl,rfl,rfl⟩ s₃ (R₃.hd e)) (fun v s₄ p₄=>?_) fun _ _ p=>(fI p).elim;refine nn fun hG=>?_;obtain⟨a,vals',H',R₄,S₄,z,hE1,hE2,hE3⟩:=p₄;refine hG ?_;clear hG;subst hE1;obtain rfl:=hE2.symm;subst hE3;cases z.iObj;have x₄:=x₃;refine nn fun hG=>?_;obtain⟨tb,hne,⟨oe,t,he,hc,hd⟩,_⟩:=x₄;refine hG ?_;clear hG;obtain⟨sl,hg'⟩:=R₄.rawAt he.app;refine⟨rfl,⟨_,hg',hc⟩,?_⟩;simp only[dG]
  refine k8 ok R₄.unhd x₃ none fun s₅ G₅ R₅ S₅ x₅=>?_;refine aK (hk e G₅ _ H₂ ho p s₅ (R₅.hd e)) (fun f s₆ p₆=>(a8.stay (((S₂.trans S₃).trans S₄).trans S₅) p₆.unhd)) fun _ _ p=>(fI p).elim
inductive NL(c:Cx)(l:List Stmt)(Q:QF)(EX:dK)(f:Fl)(vals:List V)(H:Hp):Prop
 | mk (e:f= .next) (h:Ss c vals H l Q EX)
inductive M4(G H₁:Hp)(cls' cls:String)(P':List V→Hp→Prop)(f:Fl)(vals:List V)(H:Hp):Prop
 | mk (e:f= .next) (eH:H=G++H₁) (ec:cls'=cls) (p:P' vals H₁)
theorem FQ(ok:c.Ok)(F:tO c out){body:List Stmt}{f₀:Stmt}{final:List Stmt}{pos:Pos}{Q:Fl→List V→Hp→Prop}{cls':String}{K':Bool}{P':List V→Hp→Prop}
  (h:Ss c vals H body (NL c (f₀::final) Q (CW c.env.locals out cls' K' P')) (CW c.env.locals out cls true P))
  (hk:∀ e tb G vals₁ H₁,io out H₁→wV cls G e tb .none→P vals₁ H₁→Ss (c.hd e) vals₁ (G++H₁) (f₀::final) (M4 G H₁ cls' cls P') (CW c.env.locals out cls' K' P')):
  S1 c vals H (.Try body [] [] (f₀::final) pos) Q (CW c.env.locals out cls' K' P'):=fun s r=>by
 have hp:=Dl (cls:=cls') (K:=K') (P:=P') ok F;refine wpAny_Try_finally (aK (h s r) (fun f s₁ ⟨fl,vals₁,H₁,r₁,S₁,z,q⟩=>?_) fun v s₁ px=>?_)
 ·obtain⟨rfl,q⟩:=q;cases z;refine fS ?_;refine aK (q s₁ r₁) (fun g s₂ p₂=>?_) fun v s₂ p₂=>hp H s v s₂ (cF.stay S₁ p₂);have p₃:=a8.stay S₁ p₂;cases g<;>exact p₃
 ·refine Go ok F px fun e s₂ G vals₂ H₂ cx hv R₂ S₂ x₂ hK ho p=>?_;subst hv;obtain rfl:=hK rfl;refine⟨ref_ne_byPass e,?_⟩;refine qF F R₂ x₂ (k8 ok R₂ x₂ none fun s₃ G₃ R₃ S₃ x₃=>?_);refine nn fun hG=>?_;obtain⟨tb,hne,hE,hT⟩:=id x₃;refine hG ?_;clear hG;refine aK (hk e _ G₃ vals₂ H₂ ho hE p s₃ (R₃.hd e)) (fun g s₄ p₄=>?_) fun v s₄ p₄=>HT ok F e H s v s₄ (cF.stay (S₂.trans S₃) p₄.unhd);refine nn fun hG=>?_;obtain⟨fl,vals₄,H₄,R₄,S₄,z,hE1,hE2,hE3,p'⟩:=p₄.unhd;refine hG ?_;clear hG;subst hE1;subst hE2;subst hE3;cases z;exact Et ok F R₄ x₃ fun s₅ G₅ R₅ S₅ x₅=>⟨vals₄,_,R₅,((S₂.trans S₃).trans S₄).trans S₅,e,G₅,H₂, .none,rfl,rfl, .inr x₅,fun _=>rfl,ho,p'⟩
end
end
section
noncomputable def rB(d:Fd)(n:Nat)(as:List V)(H₀:Hp)(Q:V→Hp→Prop):Prop:=
 ∀ (x:Fx) out F,(frame d x).Ok→x.A.handled=none→tO (frame d x) out→io out F→x.env.scope=bD d.i→x.lvl+n≤20→
  Ss (frame d x) (as++gX (d.names.length-d.np)) (H₀++F) (gy d.i) (DU F H₀ Q) kx
theorem vc{l:List Addr}{a x:Addr}:x∈l.filter (fun y=>y != a)↔x∈l∧x≠a:=by simp[fz]
section
variable{c:Cx}{vals:List V}{H₀ H₁:Hp}{EX:dK}{Q:V→List V→Hp→Prop}{as:List V}
theorem IL(d:Fd)(hd:d.chk=true)(n:Nat)(ok:c.Ok)(hh:c.A.handled=none)(FR:tO c [])(hl:c.lvl+(n+1)≤20)(ha:as.length=d.np)
  {Qf:V→Hp→Prop}(spec:rB d n as H₀ Qf)(q:∀ b H',haddrs H'=haddrs H₀→Qf b H'→Q b vals (H'++H₁)){s:Shared}{vs:List Value}(r:Rel c vals (H₀++H₁) s)(z:dP s.heap (c.X (H₀++H₁)) as vs)(pm:Value)(E:Value→Shared→Prop):
  wpAny c.M c.A.in1 (iW (d.fd pm).scope (d.fd pm).globals (d.fd pm).closure ((d.names.take d.np).zip vs) ((d.fd pm).qualname++ ".<locals>.") (some d.a) (d.fd pm).code none (d.fd pm).builtins)
   (fun env s₂=>s₂.heap.NoLimit∧cb c.M c.A (.func (gy d.i) env) (fun r s'=>match r with | .ok (.ret v)=>a8 c (H₀++H₁) s VR Q v s' | .ok _=>False | .error e=>cF c (H₀++H₁) s EX e s') s₂) E s:=by
 refine nn fun hG=>?_;obtain⟨mloc,oloc,esl,epl,eloc,dloc,kloc,floc⟩:=r.loc;refine hG ?_;clear hG;have fs:∀ {q:Addr},q∈haddrs [(c.env.locals,bW.raw oloc)]→q=c.env.locals:=fun h=>ao.mp h;exact call_atG (F:=[(c.env.locals, .raw oloc)]) (own':=c.own.filter fun y=>y != c.env.locals) d hd n ok hl ha q r z pm E (fun y h=>(vc.mp h).1)
  (fun y hy=>(fs hy).symm▸⟨ok.loc,fun h=>(vc.mp h).2 rfl⟩)
  (fun y h=>(jT.em (y=c.env.locals)).elim (fun e=>.inr (e▸ah)) fun e=>.inl (vc.mpr ⟨h,e⟩)) (cg.mpr ⟨nofun, .nil⟩)
  (fun q h=>fs h) (fun a o hm h X k=>by cases ao.mp hm;exact⟨oloc.slots,k _ _ eloc⟩)
  (fun s' _ F _ m N=>by
   obtain⟨sl,g⟩:∃ sl,s'.heap.get? c.env.locals=some { oloc with slots:=sl }:=F _ ah;obtain⟨o,es,ep,ho,hd,hk,hf⟩:=N;rw[eloc]at ho;cases ho;exact⟨_,es,ep,g,hd,hk,hf⟩)
  fun env own Y ok' e1 _ _ ef=>spec _ [c.env] _ ok' hh ⟨j6 FR.fr,ef⟩ (fun e he=>by
   cases ao.mp he;exact⟨by rw[ok.kind];decide,c.env.locals,oloc,FR.own,ah,fun vs q=>by rw[dloc]at q;cases q⟩) e1 (by rw[r4,gB 1];exact hl)
theorem call_fnX(d:Fd)(hd:d.chk=true){as':List V}(hb:jX c vals (H₀++H₁) d as as')(n:Nat)(ok:c.Ok)(hh:c.A.handled=none)(FR:tO c [])(hl:c.lvl+(n+1)≤20)(ha:as'.length=d.np)
  {Qf:V→Hp→Prop}(spec:rB d n as' H₀ Qf)(q:∀ b H',haddrs H'=haddrs H₀→Qf b H'→Q b vals (H'++H₁)):Tn c vals (H₀++H₁) as (fun vs=>call (.ref d.a) vs) VR Q EX:=by
 intro s vs r z;have F:=Fd.ok hd;refine nn fun hG=>?_;obtain⟨pm,ho,hcd⟩:=r.base.fns d.i d.a d.k F.hmem;refine hG ?_;clear hG;refine g6 (rY (fd:=d.fd pm) (body:=gy d.i) (by have:=ok.depth;simp only[gC];exact aH [c.A.depth] 5070765829852073666734658628354113 tt this) ho rfl F.hco F.hgen rfl hcd ?_);refine hb pm s vs r z _ _ fun vs' s' r' S' z'=>?_;refine aK (IL (Q:=Q) (EX:=EX) d hd n ok hh FR hl ha spec q r' z' pm (fun _ _=>False)) (fun env s₂ h₂=>⟨h₂.1,fb h₂.2 fun res s₃ h₃=>?_⟩) fun _ _ x=>x.elim
 cases res with
 | error e=>exact cF.stay S' h₃
 | ok f=>cases f<;>first | exact h₃.elim | exact a8.stay S' h₃
end
end
section
set_option linter.unusedSimpArgs false
open PySem.W PySem.SeqAt PySem.Builtin.Str
theorem Fp(P:Params):findIn (KF P) (.ref 122) "__setitem__" =some (some (.builtin "list.__setitem__")):=by kernel_rfl
theorem yJ:ca "list.__setitem__" =some .slot∨ca "list.__setitem__" =some .method:=by decide +kernel
theorem wA:lC "list.__setitem__" =some ("list","__setitem__"):=by decide +kernel
theorem iK.putSelf{H:Hp}{a:Addr}{mo:bW}(h:iK H a mo):du H a mo mo H:=by
 induction h with
 | head=>exact .head
 | tail _ ih=>exact .tail ih
section
variable{c:Cx}{vals:List V}{H H':Hp}{EX:dK}{s:Shared}{Q:V→List V→Hp→Prop}
theorem EA{a:V}(ha:∀ {h X v},VR h X a v→plainIs v .none=true∧v≠ .none)(q:Q (.bool false) vals H):T2 c vals H a .none (ez .Is) VR Q EX:=fun s v u r z z'=>by
 cases z'.iNone;exact wpAny_is_other (ha z).1 (ha z).2 (a8.intro r (aN.refl _ _) (.bool _) q)
theorem Ct{D:Addr}{m:List V}:∀ {h X v},VR h X (.lst D m) v→plainIs v .none=true∧v≠ .none:=fun z=>by cases z.iLst;exact⟨rfl,nofun⟩
theorem yH(q:Q (.bool false) vals H):T2 c vals H .none .none (ez .IsNot) VR Q EX:=fun s v u r z z'=>by
 cases z.iNone;cases z'.iNone;exact wpAny_isNot_self rfl (a8.intro r (aN.refl _ _) (.bool _) q)
theorem AA{a:Addr}(q:Q (.bool false) vals H):T2 c vals H (.ref a) (.ref a) (ez .IsNot) VR Q EX:=fun s v u r z z'=>by
 cases z.iRef;cases z'.iRef;exact wpAny_isNot_ref_self (a8.intro r (aN.refl _ _) (.bool _) q)
inductive Me(Q:QF)(g:V)(vals:List V)(H:Hp):Prop
 | mk (a d:Addr) (l:List V) (e:g= .ref a) (m:iK H a (.acc d l)) (q:Q .next vals H)
inductive M9(c:Cx)(o:Expr)(Q:QF)(EX:dK)(b:V)(vals:List V)(H:Hp):Prop
 | mk (e:b= .int 0) (h:Ev c vals H o (Me Q) EX)
inductive Nb(m:List V)(Q:QF)(g:V)(vals:List V)(H:Hp):Prop
 | mk (a d:Addr) (l:List V) (H':Hp) (e:g= .ref a) (p:du H a (.acc d l) (.acc d m) H') (n:l.length+m.length≤av) (q:Q .next vals H')
inductive NO(c:Cx)(o:Expr)(Q:QF)(EX:dK)(b:V)(vals:List V)(H:Hp):Prop
 | mk (D:Addr) (m:List V) (e:b= .lst D m) (h:Ev c vals H o (Nb m Q) EX)
theorem L8(ok:c.Ok){o e:Expr}{pos' pos:Pos}{Q:Fl→List V→Hp→Prop}(hs:qz e=true)
  (h:Ev c vals H e (M9 c o Q EX) EX):
  S1 c vals H (.Assign [.Attribute o "_initial_size" pos'] e pos) Q EX:=fun s r=>by
 refine plainObj_wpAny_Assign_Attribute (bO (h s r) fun v s₁ b vals₁ H₁ r₁ S₁ z₁ hP₁=>df S₁ (hP₁.2 s₁ r₁) fun u s₂ g vals₂ H₂ r₂ S₂ T₂ z₂ hP=>?_) (mD hs _ _ _);refine nn fun hG=>?_;obtain⟨a,d,l,hg,hm,q⟩:=hP;refine hG ?_;clear hG;have hb:=hP₁.1;clear hP₁;subst hb hg;refine nn fun hG=>?_;obtain⟨us,n,e,zs,ad⟩:=r₂.objs _ _ hm.mem;refine hG ?_;clear hG;have hhi:=r₂.hi a (ak _ (bP.mpr ⟨_,hm.mem,ah⟩));have hne:a≠122:=fun e=>absurd hhi (by rw[e];decide);have had:=GW r₂ hm
 cases z₁.iInt with
 | mk _ t=>
 cases z₂.iRef;refine nn fun hG=>?_;obtain⟨od,es,ep,t₀,e1,e2,e3,e4,e5⟩:=ad;refine hG ?_;clear hG;refine nn fun hG=>?_;obtain⟨hp,g,dr,tk,os⟩:=s₂;refine hG ?_;clear hG;refine s9 (mA:=fun x=>if x=er then some (.int 0 t₀)else none) (ns:=[er]) r₂.base e hne (gO had) ⟨od,es,ep,e1,e2,e3,e4,e5⟩ (fun y hy=>by
  by_cases hyk:y=er
  ·rw[hyk];exact ao.mpr rfl
  ·simp only[hyk,cj]at hy;exact(hy rfl).elim) (by decide) fun h' tk' hn' hk'=>?_
 refine nn fun hG=>?_;obtain⟨od',es',ep',f1,f2,f3,f4,f5⟩:=hn';refine hG ?_;clear hG;have e':=hk' _ _ had e;obtain⟨r₃,S₃⟩:=r₂.turn (s':=⟨h',g,dr,tk',os⟩) ok hm.putSelf rfl (fun b ob hb he=>hk' b ob (fun q=>hb (q▸ai _ ah)) he) r₂.gens rfl
  ⟨us,n,e',zs.stay fun b ob he nb=>⟨hk' b ob (fun q=>nb (q▸kP (ak _ (bP.mpr ⟨_,hm.mem,ai _ ah⟩)))) he,nb⟩,od',es',ep',t,f1,f2,f3,f4,fun y=>by rw[f5 y];by_cases hy:y=er<;>simp[hy]⟩
 exact a8.intro r₃ (T₂.trans S₃) .next q
set_option tactic.hygienic true in
theorem IT(ok:c.Ok){o e:Expr}{pos' p pos:Pos}{Q:Fl→List V→Hp→Prop}(hs:qz e=true)
  (h:Ev c vals H e (NO c o Q EX) EX):
  S1 c vals H (.Assign [.Subscript o (.Slice none none none p) pos'] e pos) Q EX:=fun s r=>by
 refine wpAny_Assign_Subscript (bO (h s r) fun v s₁ b vals₁ H₁ r₁ S₁ z₁ hP₁=>?_) (mD hs _ _ _);refine nn fun hG=>?_;obtain⟨D,m,hb,h₁⟩:=hP₁;refine hG ?_;clear hG;refine df S₁ (h₁ s₁ r₁) fun u s₂ g vals₂ H₂ r₂ S₂ T₂ z₂ hP=>?_;refine nn fun hG=>?_;obtain⟨a,d,l,H',hg,pt,hl,q⟩:=hP;refine hG ?_;clear hG;subst hb hg;have z₁:=z₁.go S₂;cases z₂.iRef;show wpAny _ _ (eval (.Slice none none none p) c.env) _ _ _;rw[arm_eval_Slice];refine aa (show wpAny _ _ (pure bx) _ _ _ from af (aa (aC (show wpAny _ _ (pure bx) _ _ _ from af (aa (aC (show wpAny _ _ (pure bx) _ _ _ from af ?_)))))));refine bj (T:="slice") (data:=.fields #[.none, .none, .none]) ?_ (by exact bm _ _);have k₃:∀ b o,s₂.heap.get? b=some o→(s₂.heap.push { cls:=.type "slice",data:=.fields #[.none, .none, .none] }).get? b=some o:=fun b o e=>al _ e;have r₃:Rel c vals₂ H₂ { s₂ with heap:=s₂.heap.push { cls:=.type "slice",data:=.fields #[.none, .none, .none] } }:=r₂.keeps k₃ r₂.gens rfl;have S₃:aN s₂.heap (c.Z H₂) (s₂.heap.push { cls:=.type "slice",data:=.fields #[.none, .none, .none] }) (c.Z H₂):=aN.keeps k₃;have z₃:=z₁.go S₃;have hsl:(s₂.heap.push { cls:=.type "slice",data:=.fields #[.none, .none, .none] }).get? s₂.heap.objs.size=some { cls:=.type "slice",data:=.fields #[.none, .none, .none] }:=aA _ rfl;refine nn fun hG=>?_;obtain⟨us,n,ea,zs,ad⟩:=r₃.objs _ _ pt.inH.mem;refine hG ?_;clear hG;have hTs:xI { s₂ with heap:=s₂.heap.push { cls:=.type "slice",data:=.fields #[.none, .none, .none] } } (.ref s₂.heap.objs.size) "slice" :=⟨_,hsl,rfl⟩
 cases z₃.iLst with
 | mk em nm zm=>
 rename_i vs k zz
 have hTm:xI { s₂ with heap:=s₂.heap.push { cls:=.type "slice",data:=.fields #[.none, .none, .none] } } (.ref D) "list" :=⟨_,em,rfl⟩
 have hne:a≠D:=fun q=>by rw[q,em]at ea;cases ea
 refine wq (setItem.eq_1 ..) ?_;refine aC ?_;refine aa (vq r₃.base ea rfl ?_);refine aa ?_;refine wq (callSpecial?.eq_1 ..) ?_;refine aa ((jg r₃.base ea rfl Fp).here ?_);simp only[slot_list_setitem.bind]
 refine aC (aa (af (aa ?_)));refine aK (Q:=a8 c H s FR (fun _ vals' H''=>vals'=vals₂∧H''=H') |> fun P v s'=>P .next s') (fK slot_list_setitem.plain yJ wA entry_list_setitem (args_list_setitem _ _ _) (mK r₃.base ea rfl) ?_) (fun _ s₄ p=>af (af ?_)) fun _ _ h=>h
 ·show wpAny _ _ (dF (.ref s₂.heap.objs.size) >>= _) _ _ _;refine aa (wS fun Q1 q1=>?_);refine wq (Builtin.List.listSubscript?.eq_1 ..) ?_;refine aa (dA hTs slice_no_index ?_);refine wy rfl ?_;refine af (q1 ?_);show wpAny _ _ (typeOf (.ref s₂.heap.objs.size) >>= _) _ _ _;refine aa (wpAny_typeOf hTs ?_);refine wn (by decide) ?_;rw[listSliceParts_eq];refine aa (wS fun Q2 q2=>?_);refine aa (b9 hsl rfl (x:=.none) rfl (aa (kq .none ?_)));refine wn (by trivial) ?_;refine aa (b9 hsl rfl (x:=.none) rfl (aa (kq .none ?_)));refine aa (b9 hsl rfl (x:=.none) rfl (aa (kq .none (af (q2 ?_)))));have hsame:ib (.ref a) (.ref D)=false:=by simp[ib,hne]
  refine hsame.symm▸?_;refine wn au ?_;refine aa (wS fun Q3 q3=>?_);refine wq (Builtin.List.listAllItems.eq_1 ..) ?_;refine aa (wpAny_typeOf hTm ?_);refine wy (by decide) ?_;refine fX em rfl (q3 ?_);refine aa (fX ea rfl ?_);refine aa (cI (sliceIndices_raw none none none _ (by simp)) ?_);have hbd:fg none none none us.toArray.size=(0,(us.toArray.size:Int),1):=by rfl
  refine hbd.symm▸?_
  dsimp only
  refine wy (by decide) ?_;refine aa (dT ?_);have hl1:=zs.length;have hl2:=zm.length;have hlong:ia (us.toArray.size+vs.toArray.size)=false:=by
   rw[aI,aI,← hl1,← hl2];unfold ia;simp only[dk]
   have hl':=hl;simp only[av]at hl';exact aH [l.length,m.length,av] 1530053676556558905901121 tt hl
  refine hlong.symm▸?_;refine wn au ?_;have hf:us.toArray.extract 0 (0:Int).toNat++vs.toArray++us.toArray.extract (max (0:Int) us.toArray.size).toNat us.toArray.size=vs.toArray:=by
   simp
  refine aa (d0 ea rfl ?_ (by rw[aI];exact aH [l.length,m.length,av,us.length] 484055107620655684274224103489 tt hl hl1) (by rw[hf,aI];exact aH [l.length,m.length,av,vs.length] 10739544571266095712060287123193921 tt hl hl2));obtain⟨r₄,S₄⟩:=r₃.rowTurn ok (mo:=.acc d l) (l':=m) pt (.acc d l) ea (f:=fun xs:Array Value=>xs.extract 0 (0:Int).toNat++vs.toArray++xs.extract (max (0:Int) us.toArray.size).toNat xs.size) hf zm;refine aa (fV (af ?_));exact a8.intro r₄ (T₂.trans (aN.trans S₃ S₄)) .next ⟨rfl,rfl⟩
 ·refine nn fun hG=>?_;obtain⟨_,_,_,r₄,S₄,_,hE1,hE2⟩:=p;refine hG ?_;clear hG;subst hE1;subst hE2;exact a8.intro r₄ S₄ .next q
end
end
section
set_option linter.unusedSimpArgs false
open PySem.W PySem.SeqAt PySem.Builtin.Str
section
variable{c:Cx}{vals:List V}{H H':Hp}{EX:dK}{s:Shared}{Q:V→List V→Hp→Prop}
theorem IH(d:Fd)(hd:d.chk=true)(n:Nat)(ok:c.Ok)(hh:c.A.handled=none)(hl:c.lvl+(n+1)≤20){as:List V}(hb:∀ H,jX c vals H d as as)(ha:as.length=d.np){a:Addr}{mo:bW}(hm:iK H a mo)
  {Qf:V→bW→Prop}(spec:eO d n as [(a,mo)] (fun b H'=>∃ mo',H'= [(a,mo')]∧Qf b mo'))(q:∀ b mo' H',du H a mo mo' H'→Qf b mo'→Q b vals H'):Tn c vals H as (fun vs=>call (.ref d.a) vs) VR Q EX:=fun s vs r z=>by
 obtain⟨Hr,dl⟩:=hm.del;obtain⟨r',S'⟩:=r.perm dl.perm;have main:=call_fnB (EX:=EX) (H₀:=[(a,mo)]) (H₁:=Hr) (vals:=vals) (Q:=fun b vals' H'=>vals'=vals∧∃ mo',H'=(a,mo')::Hr∧Qf b mo') d hd (hb _) n ok hh hl ha spec (fun b H' e qf=>by
  refine nn fun hG=>?_;obtain⟨mo',hE1,qf⟩:=qf;refine hG ?_;clear hG;subst hE1;exact⟨rfl,mo',rfl,qf⟩) s vs r' (z.go S')
 refine aK (dg S' main) (fun v s₁ p=>?_) fun _ _ p=>p;refine nn fun hG=>?_;obtain⟨b,vals₁,H₁,r₁,S₁,z₁,hE1,mo',hE2,qf⟩:=p;refine hG ?_;clear hG;subst hE1;subst hE2;refine nn fun hG=>?_;obtain⟨H',pt,pm⟩:=dl.put mo';refine hG ?_;clear hG;obtain⟨r₂,S₂⟩:=r₁.perm pm.symm;exact a8.intro r₂ (S₁.trans S₂) (z₁.go S₂) (q b mo' H' pt qf)
end
noncomputable def uT:Fd:=⟨106,104,103,2,["self","startval"],[],[],[]⟩
theorem xx:uT.chk=true:=by decide +kernel
theorem tC{c:Cx}{vals:List V}{H:Hp}{x y:V}:jX c vals H uT [x,y] [x,y]:=fun pm s vs r z P E k=>by
 refine nn fun hG=>?_;obtain⟨u,v,hE1,zu,zv⟩:=z.two;refine hG ?_;clear hG;subst hE1;obtain⟨P',X⟩:=r.base.frag;have h97:s.heap.get? 97=some _:=X 97 _ rfl;show wpAny _ _ (ii (.ref 97) >>= _) _ _ _;refine aa (cJ h97 rfl ?_);exact cI (a:=[(("self" :Str),u),(("startval" :Str),v)]) (by kernel_rfl) (k [u,v] s r (aN.refl _ _) z)
theorem vn(a d D:Addr)(l m:List V)(hl:l.length+m.length≤av):eO uT 0 [.ref a, .lst D m] [(a, .acc d l)] (fun b H'=>∃ mo',H'= [(a,mo')]∧b= .none∧mo'= .acc d m):=by
 intro fx ok hh hfr hlv;refine T0.abs fun K hK=>?_;refine az (j9 (bv rfl (En ok 1 rfl rfl ff (DV (EA Ct ⟨_,rfl,bz ?_⟩)))));refine az (IT ok rfl (En ok 1 rfl rfl ff ⟨D,m,rfl,En ok 0 rfl rfl ff ⟨a,d,l,_,rfl, .head,hl,?_⟩⟩));refine az (L8 ok rfl (bS ⟨rfl,En ok 0 rfl rfl ff ⟨a,d,m,rfl, .head,bz ?_⟩⟩));exact hK ⟨_,[],_,rfl,rfl,rfl,_,rfl,rfl,rfl⟩
end
section
set_option linter.unusedSimpArgs false
open PySem.W PySem.SeqAt PySem.Builtin.Str
noncomputable def rA(ps:List (Str×Str))(items:Array Value)(ts:List Addr)(I:Addr)(h:Heap):Prop:=
 ∀ (k:Nat) (p:Str×Str),ps[k]?=some p→∃ (T:Addr) (tx ty:Tok),items[k]?=some (dq T)∧T∈ts∧T≠I∧h.IsTuple T #[.str p.1 tx, .str p.2 ty]
noncomputable def GZ(ps:List (Str×Str))(k:Nat)(v:Array Value):Prop:=∃ (p:Str×Str) (tx ty:Tok),ps[k]?=some p∧v= #[I0 p.1 tx,I0 p.2 ty]
theorem rA.of{ps:List (Str×Str)}{items:Array Value}{ts:List Addr}{I:Addr}{h h':Heap}(x:rA ps items ts I h)(k:∀ b∈ts,b≠I→∀ o,h.get? b=some o→h'.get? b=some o):rA ps items ts I h':=fun j p hp=>by
 refine nn fun hG=>?_;obtain⟨T,tx,ty,h1,h2,h3,h4⟩:=x j p hp;refine hG ?_;clear hG;exact⟨T,tx,ty,h1,h2,h3,h4.at fun o e=>k T h2 h3 o e⟩
section
variable{prog:dt}{w:World}{A:Around}
theorem BN(hh:A.handled=none)(I ax:Addr)(hne:ax≠I)(ol:Obj)(items:Array Value)(nl:Nat)(hdl:ol.data= .seq items nl)(ps:List (Str×Str))(hn:items.size=ps.length)(ts:List Addr):
  WalksU prog w A I (I::ax::ts) [I] ps.length (GZ ps)
   (fun j h=>h.IsListIter I ax j∧h.get? ax=some ol∧rA ps items ts I h)
   (fun j T h=>T≠I∧h.IsListIter I ax (j+1)∧h.get? ax=some ol∧rA ps items ts I h) where
 sub:=fun b hb=>by simp at hb;simp[hb]
 frame:=fun _ _ _ st hk=>⟨st.1.at fun o e=>hk I (by simp) o e,hk ax (by simp) _ st.2.1,st.2.2.of fun b hb _ o e=>hk b (ai _ (ai _ hb)) o e⟩
 item:=fun i s Q E hi st hQ=>by
  obtain⟨p,hp⟩:∃ p,ps[i]?=some p:=⟨ps[i],by simp[hi]⟩
  refine nn fun hG=>?_;obtain⟨T,tx,ty,hx,hT,hTI,hTup⟩:=st.2.2 i p hp;refine hG ?_;clear hG;refine vr st.1 st.2.1 hdl (x:=.ref T) hx fun h' hit' hs'=>?_;have keep:=fun b (hb:b≠I) o e=>hs'.extBut b o hb e;exact hQ T _ h' s.toks ⟨p,tx,ty,hp,rfl⟩ (hTup.at fun o e=>keep _ hTI o e) ⟨hTI,hit',keep _ hne _ st.2.1,st.2.2.of fun b _ hb o e=>keep b hb o e⟩ fun b o hb e=>keep b (fun h=>hb (by simp[h])) o e
 go:=fun _ _ _ _ _ s Q _ hm hQ=>wpAny_letOwnedTupleGo_listiter hm.2.1 (hQ s.heap hm.2 fun _ _ _ e=>e)
 apart:=fun j T _ hm hmem=>hm.1 (ao.mp hmem)
 done:=fun s Q E st hQ=>o8 hh st.1 st.2.1 hdl (by simp[hn]) fun h' he'=>hQ h' s.toks fun b o hb e=>he' b o (fun h=>hb (by simp[h])) e
 self:=fun _ _ _ _ st hQ=>wpAny_pyIter_listiter st.1 hQ
end
theorem Ea{h:Heap}{X:List Addr}{ps:List (Str×Str)}:∀ {vs:List Value},dP h X (ps.map aB) vs→∀ (k:Nat) (p:Str×Str),ps[k]?=some p→∃ (T:Addr) (n:Nat) (tx ty:Tok),vs[k]?=some (dq T)∧h.get? T=some (j7 [.str p.1 tx, .str p.2 ty] n)∧T∉X:=by
 induction ps with
 | nil=>intro vs _ k p e;cases e
 | cons q ps ih=>
  intro vs z k p e
  cases dP.iCons z with
  | mk za zs=>
   cases k with
   | succ k=>exact ih zs k p e
   | zero=>
    cases eV e
    cases za.iTup with
    | mk e n zz=>
     refine nn fun hG=>?_;obtain⟨v1,v2,hE1,z1,z2⟩:=zz.two;refine hG ?_;clear hG;subst hE1;cases z1.iStr;cases z2.iStr;exact⟨_,_,_,_,rfl,e,n⟩
noncomputable def Gl(w:World)(A:Around)(K g:Addr)(n:Nat)(F:Nat→Value→Prop)(s:Shared):Prop:=
 ∃ fp wr gi St,WalksS pw w A.in4 g fp wr (GenOnlyQ gi) n F St∧St 0 s∧(∀ i s',St i s'→s'.TypeIs (.ref g) "generator")∧g∈fp∧(∀ b∈fp,b<s.heap.objs.size)∧∀ b∈wr,K≤b
end
section
set_option linter.unusedSimpArgs false
open PySem.W PySem.SeqAt PySem.Builtin.Str
structure Jb(k P:Addr):Prop where
 mem:P∈TB
 lt:P<265
 code:∀ {h:Heap},ey h→iz h→∃ ps,h.IsCode k P ps∧h.TableAt k P ps
 back:∀ {h h':Heap} {ps:Array Value},iz h→wf P h h'→h'.IsCode k P ps→h'.TableAt k P ps→iz h'
theorem vG{h:Heap}{k P:Addr}{ps:Array Value}(c:h.IsCode k P ps):TriplesOk ps.toList:=by
 refine nn fun hG=>?_;obtain⟨_,_,_,_,_,_,_,_,_,_,_,_,_,_,_,_,_,_,_,t,_⟩:=c;refine hG ?_;clear hG;exact t
theorem He:Jb 88 84 where
 mem:=by decide
 lt:=by decide
 code:=fun{h} b t=>by
  obtain⟨P,X⟩:=b.frag;refine nn fun hG=>?_;obtain⟨⟨ps,h1,h2⟩,_⟩:=t;refine hG ?_;clear hG;have hc:h.get? 88=some _:=X 88 _ rfl;exact⟨ps,⟨_,_,_,_,_,_,_,_,_,_,hc,rfl,rfl,rfl,rfl,rfl,rfl,h1,rfl,h2,by decide⟩,⟨_,_,hc,rfl,rfl,rfl⟩,h1⟩
 back:=fun t x c a=>⟨⟨_,a.2,vG c⟩,let ⟨_,q,h1,h2⟩:=t;⟨q,x _ _ (by decide) h1,h2⟩⟩
theorem Hd:Jb 95 91 where
 mem:=by decide
 lt:=by decide
 code:=fun{h} b t=>by
  obtain⟨P,X⟩:=b.frag;refine nn fun hG=>?_;obtain⟨_,ps,h1,h2⟩:=t;refine hG ?_;clear hG;have hc:h.get? 95=some _:=X 95 _ rfl;exact⟨ps,⟨_,_,_,_,_,_,_,_,_,_,hc,rfl,rfl,rfl,rfl,rfl,rfl,h1,rfl,h2,by decide⟩,⟨_,_,hc,rfl,rfl,rfl⟩,h1⟩
 back:=fun t x c a=>⟨let ⟨⟨q,h1,h2⟩,_⟩:=t;⟨q,x _ _ (by decide) h1,h2⟩,_,a.2,vG c⟩
theorem tT{M:Model}{A:Around}{E:Value→Shared→Prop}{s:Shared}{k P:Addr}(T:Jb k P)(b:ey s.heap)(t:iz s.heap){env:Env}(hc:env.code= .ref k){pos:Pos}{qn:Str}{scope:Scope}{Q:Value→Shared→Prop}
  (hQ:∀ code h' tk,wf P s.heap h'→s.heap.objs.size≤h'.objs.size→iz h'→Q code { s with heap:=h',toks:=tk }):wpAny M A (genexprCode env pos qn scope) Q E s:=by
 refine nn fun hG=>?_;obtain⟨ps,hok,htab⟩:=T.code b t;refine hG ?_;clear hG
 cases hnf:codeAmong pos ps.toList with
 | some cv=>exact wpAny_genexprCode_hit hc hok hnf (hQ cv s.heap s.toks (wf.refl _ _) (bo _) t)
 | none=>exact wpAny_genexprCodeX hc hok htab hnf fun c' h' tk hx hge hlt hcd _ htb _=>hQ _ h' tk hx (aU hge (bJ hlt)) (T.back t hx hcd htb)
theorem Ax(n:Nat):passing (fun _=>true) n 0=aG n:=by
 simp[passing]
section
variable{c:Cx}{vals:List V}{H:Hp}{s:Shared}
theorem Ac(ok:c.Ok)(hh:c.A.handled=none)(r:Rel c vals H s){k P:Addr}(T:Jb k P)(hcd:c.env.code= .ref k){elt:Expr}{xa xb:Str}{pa pb pt p0 pos:Pos}{kt:Nat}{scope:Scope}{a d:Addr}{ps:List (Str×Str)}
  (hco:scope.isCoroutine=false)(hclos:CL scope c.env=pure [])(hcell:∀ y∈scope.names,y.2≠ .cell)(h0:scope.names.lookup (".0" :Str)=some dy.local)
  (hxa:scope.names.lookup xa=some .local)(hxb:scope.names.lookup xb=some .local)(hab:xa≠xb)(hkind:scope.kind= .function)
  (hself:At c.names vals "self" (.ref a))(hm:iK H a (.acc d (ps.map aB)))(F:Nat→Value→Prop)
  (helt:∀ (A':Around) (E':Value→Shared→Prop) (i:Nat) (p:Str×Str) (tx ty:Tok) (s₂:Shared) (code:Value) (C:Addr) (m₂:Str→Option Value),A'.handled=none→ey s₂.heap→ps[i]?=some p→s₂.heap.Ns C m₂→m₂ xa=some (.str p.1 tx)→m₂ xb=some (.str p.2 ty)→
   wpAny (model pw c.w) A' (eval elt (genEnv scope [] C code wc c.env)) (fun v s₃=>F i v∧Keeps s₂ s₃) E' s₂)
  {Q E:Value→Shared→Prop}
  (hQ:∀ g s',Rel c vals H s'→aN s.heap (c.Z H) s'.heap (c.Z H)→(∀ b o,b∉TB→s.heap.get? b=some o→s'.heap.get? b=some o)→Gl c.w c.A s.heap.objs.size g ps.length (fun j y=>∃ i,(aG ps.length)[j]?=some i∧F i y) s'→Q (.ref g) s'):
  wpAny c.M c.A (eval (.GeneratorExp elt [⟨.Tuple [.Name xa pa, .Name xb pb] kt pt, .Name "self" p0,[],0⟩] scope pos) c.env) Q E s:=by
 refine nn fun hG=>?_;obtain⟨us,n,e,zs,ad⟩:=r.objs _ _ hm.mem;refine hG ?_;clear hG;have hlen:us.length=ps.length:=by rw[← zs.length,an]
 refine wpAny_GeneratorExp_walksQT hh hco hclos hcell h0 hxa hxb hab hkind (by have:=ok.depth;simp only[gC];exact aH [c.A.depth] 5070765829852073666734658628354113 tt this) ?_ (fun x=>rfl);refine d5 (Dx ok r hself ?_) (by decide);refine vx r.base e rfl ?_;have k₂:∀ b o,s.heap.get? b=some o→(s.heap.push { cls:=.type "list_iterator",data:=.fields #[.ref a, .int 0 0] }).get? b=some o:=fun b o e=>al _ e;have b₂:=r.base.grow k₂;have t₂:iz (s.heap.push { cls:=.type "list_iterator",data:=.fields #[.ref a, .int 0 0] }):=r.tabs.of fun x o _ e=>k₂ x o e;refine⟨b₂.lim,tT T b₂ t₂ hcd fun code h₃ tk₃ hx₃ hge t₃=>?_⟩;have hP:=T.lt;have hsz:=r.size;have k₃:∀ b o,b≠P→s.heap.get? b=some o→h₃.get? b=some o:=fun b o hb e=>hx₃ b o hb (k₂ b o e);have b₃:ey h₃:=r.base.of fun x o h1 h2 e=>k₃ x o (fun q=>h2 (q▸T.mem)) e;refine nn fun hG=>?_;obtain⟨mg,g1,g2,g3,_,g5⟩:=b₃.glob;refine hG ?_;clear hG;refine nn fun hG=>?_;obtain⟨ob,hob,ob1,ob2,ob3⟩:=b₃.bmod;refine hG ?_;clear hG;refine wpAny_builtinsFor (by rw[ok.glob];exact g1) g5 (by decide) hob ob1 ob2 ob3 ?_;have hhi:=r.hi a (ak _ (bP.mpr ⟨_,hm.mem,ah⟩));have hne:a≠s.heap.objs.size:=fun q=>r.none_at_size _ (q▸e);have hI:s.heap.objs.size≠P:=fun q=>absurd hsz (bU.mpr (q▸hP));have haP:a≠P:=fun q=>absurd hhi (bU.mpr (q▸hP));have hlt₃:s.heap.objs.size<h₃.objs.size:=eg (by show s.heap.objs.size<(s.heap.push _).objs.size;rw[eZ];exact c5 _) hge;refine⟨s.heap.objs.size,s.heap.objs.size::a::aG s.heap.objs.size,[s.heap.objs.size],ps.length,GZ ps,_,_,fun _=>true,F,rfl,fun A' hA=>BN hA _ a hne (j8 d us n) us.toArray n rfl ps (by trivial) _,?_,?_,?_,b₃.lim,?_,?_,?_⟩
 ·intro i v hI;refine nn fun hG=>?_;obtain⟨p,tx,ty,_,hE1⟩:=hI;refine hG ?_;clear hG;subst hE1;exact⟨_,_,rfl⟩
 ·refine⟨⟨_,hx₃ _ _ hI (aA _ rfl),rfl,rfl⟩,k₃ _ _ haP e,fun j p hp=>?_⟩;refine nn fun hG=>?_;obtain⟨T',n',tx,ty,h1,h2,h3⟩:=Ea zs j p hp;refine hG ?_;clear hG;have hT:=bu h2;refine⟨T',tx,ty,by simpa using h1,aQ.mpr hT,eQ hT,⟨_,k₃ _ _ (fun q=>h3 (q▸aj _ (ok.tb _ T.mem))) h2,rfl,_,rfl⟩⟩
 ·intro b hb;rcases aF.mp hb with rfl | hb
  ·exact hlt₃
  ·rcases(aF.mp hb).imp nC id with rfl | hb
   ·exact iD (bu e) hlt₃
   ·exact iD (aQ.mp hb) hlt₃
 ·intro hb;have q:=ao.mp hb;rw[← q]at hsz;exact absurd hsz (by decide)
 ·intro href hk;refine⟨fun A' E' i va vb s₂ m₂ hA hp hns h1 h2 hkp=>?_,fun A' E' i va vb s₂ m₂ hA hp _ hns h1 h2 hkp=>?_⟩
  ·exact af ⟨rfl,s₂.heap,s₂.toks,rfl,fun _ _ e=>e⟩
  ·refine nn fun hG=>?_;obtain⟨p,tx,ty,hp,hv⟩:=hp;refine hG ?_;clear hG;have hv1:va= .str p.1 tx:=by
    have:=bc (fun x:Array Value=>x[0]?) hv;simpa using this
   have hv2:vb= .str p.2 ty:=by
    have:=bc (fun x:Array Value=>x[1]?) hv;simpa using this
   subst hv1 hv2;have b':ey s₂.heap:=b₃.of fun x o hx _ e=>hkp x (aQ.mpr (bu e)) (fun q=>absurd hsz (bU.mpr (ao.mp q▸hx))) o (hk _ _ e);exact helt A' E' i p tx ty s₂ code _ m₂ hA b' hp hns h1 h2
 ·intro g h₅ tk gs hgb hag hsz₅ hk₅ W hat;have kk:∀ b o,b∉TB→s.heap.get? b=some o→h₅.get? b=some o:=fun b o hb e=>hk₅ b o (k₃ b o (fun q=>hb (q▸T.mem)) e);obtain⟨r',S'⟩:=r.keepsT (s':=({ s with heap:=h₅,toks:=tk,gens:=s.gens.push gs }:Shared)) ok kk (t₃.of fun x o _ e=>hk₅ x o e) (r.gens.push hgb) rfl;rw[Ax,dX]at W;refine hQ g _ r' S' kk ⟨_,_,_,_,W,hat,(fun i s' st=>st.1.typeIs),ah,?_,?_⟩
  ·intro b hb;show b<h₅.objs.size;rw[hsz₅];rcases aF.mp hb with rfl | hb
   ·exact c5 _
   ·rcases(aF.mp hb).imp nC id with rfl | hb
    ·exact mX hag
    ·exact mX (iD (aQ.mp hb) hag)
  ·intro b hb;rcases aF.mp hb with rfl | hb
   ·exact bJ hlt₃
   ·exact eR (ao.mp hb).symm
end
end
section
set_option linter.unusedSimpArgs false
open PySem.W PySem.SeqAt PySem.Builtin.Str
theorem Aa:ca "list.__getattribute__" =some .slot∨ca "list.__getattribute__" =some .method:=by decide +kernel
theorem wY:lC "list.__getattribute__" =some ("list","__getattribute__"):=by decide +kernel
theorem xo:km table "list.__getattribute__" =some Builtin.«object.__getattribute__» :=
 CQ (id':="object.__getattribute__") (by kernel_rfl) (by decide +kernel) (by decide +kernel) (by kernel_rfl)
theorem Iw(P:Params):findIn (KF P) (.ref 122) er=some none:=by kernel_rfl
theorem Fn{M:Model}{h:Heap}(b:ey h){a d:Addr}{vs:List Value}{n:Nat}(ha:h.get? a=some (j8 d vs n)){t:Tok}{o:Obj}{es:Array tJ}{ep:Nat}(ho:h.get? d=some o)(hd:o.data= .dict es ep)(hk:StrKeys es)(hf:nsFind es er=some (.int 0 t)):
  Looks M h (Builtin.ObjectAttr.find (.ref a) (.ref 122) er) (Builtin.ObjectAttr.Found.value (.int 0 t)):=by
 obtain⟨P,X⟩:=b.frag;have hc:clsIn (KF P) 122=some { name:="_Accumulator",bases:=[.type "list"],mro:=[.ref 122, .type "list", .type "object"],ns:=121,qualname:="_Accumulator" }:=rfl;refine looks_find (K:=KF P) (C:=122) (od:=some o) X ⟨ha,rfl,rfl,ho⟩ ?_;unfold findObj;refine hc.symm▸?_;simp only[mW,Iw]
 show (qk _ (some o) er).bind _=_;have hl:lookIn er o=some (some (.int 0 t)):=by
  unfold lookIn;rw[hd]
  dsimp only
  unfold nsFind findBy at hf;refine nn fun hG=>?_;obtain⟨e,he,hv⟩:=bQ.mp hf;refine hG ?_;clear hG;rw[← rZ]at he;rw[he];show some (some e.val)=_;rw[hv]
 unfold qk;rw[if_pos rfl];simp only[hl,mW]
section
variable{w:World}{A:Around}{E:Value→Shared→Prop}{s:Shared}
theorem yL(b:ey s.heap){a d:Addr}{vs:List Value}{n:Nat}(ha:s.heap.get? a=some (j8 d vs n))(ad:jO s.heap d){ex:Bool}{Q:Value→Shared→Prop}(hQ:∀ t,Q (.int 0 t) { s with toks:=s.toks+1 }):
  wpAny (model pw w) A (Bd (.ref a) er ex) Q E s:=by
 refine nn fun hG=>?_;obtain⟨o,es,ep,t,ho,hd,hk,_,hf⟩:=ad;refine hG ?_;clear hG;have hfind:=Fn (M:=model pw w) b ha ho hd hk (t:=t) (by rw[hf];simp);have hty:Looks (model pw w) s.heap (typeOf (.ref a)) (.ref 122):=oH ha rfl;obtain⟨P,X⟩:=b.frag;have L1:=looks_findIn (M:=model pw w) X (KU P);have L2:=looks_findIn (M:=model pw w) X (yp P);have hi:=mK (M:=model pw w) b ha rfl;refine nn fun hG=>?_;obtain⟨h,g,dr,tk,os⟩:=s;refine hG ?_;clear hG;unfold Bd getAttrBy;refine aa (ko (aC (aa (hty.at (aa (L1.at ?_))))))
 dsimp only
 refine wn (by decide) ?_;unfold q9 hookBefore yU CR;refine aa (show wpAny _ _ (eA (.ref 122) "__getattr__") _ _ _ from L2.at ?_);refine aa (gg (aC ?_));refine wn (by simp[onTheHeap]) ?_;refine aa (cI (F.slot_list_getattribute.bind _) ?_);refine aK (Q:=fun v s'=>v= .int 0 t∧s'=⟨h,g,dr,tk+1,os⟩) (E:=fun _ _=>False) (fK F.slot_list_getattribute.plain Aa wY xo (F.args_list_getattribute_2 _ _) hi ?_) (fun v s' hv=>?_) fun _ _ z=>z.elim
 ·unfold Builtin.«object.__getattribute__»
  repeat (first | (with_reducible refine Looks.at hty ?_) | (with_reducible refine Looks.at hfind ?_) | wp_step | dsimp only)
  exact⟨rfl,rfl⟩
 ·obtain⟨rfl,rfl⟩:=hv;exact af (hQ t)
theorem FH(a b:Value):argsOk "sum" ⟨[a,b],[]⟩:=by unfold argsOk;kernel_rfl
theorem FD{K g:Addr}{n:Nat}{F:Nat→Value→Prop}(G:Gl w A K g n F s)(val:Nat→Int)(hval:∀ i v,F i v→∃ t,v= .int (val i) t){t:Tok}{Q:Value→Shared→Prop}
  (hQ:∀ s' t' wr gi,(∀ b∈wr,K≤b)→Moved wr (GenOnlyQ gi) s s'→Q (.int (preSum val n) t') s'):wpAny (model pw w) A (call (.builtin "sum") [.ref g, .int 0 t]) Q E s:=by
 refine nn fun hG=>?_;obtain⟨fp,wr,gi,St,W,hst,hT,hg,hfp,hwr⟩:=G;refine hG ?_;clear hG;have W1:=W.in4_1;refine wg PySem.F.kind_sum PySem.F.plain_sum PySem.F.entry_sum (FH _ _) ?_;unfold Builtin.«sum»;simp only[aT,dZ]
 refine wn (by decide) ?_;refine aa (cI (show ed "sum" ["start"] 0 ⟨[.int 0 t],[]⟩=pure [some (.int 0 t)] from rfl) ?_);refine aa (W1.self 0 s _ _ hst ?_)
 dsimp only
 refine wy (by decide) ?_;refine aa (dT (aa (Kj (aa (af ?_)))))
 dsimp only
 simp only[fA,qm]
 refine aa (aa (aa (gG (T:="int") (b:=false) (typeIs_int _ _ _) PySem.sub_int_str ?_)));refine wn au ?_;refine af (aa (aa (gG (T:="int") (b:=false) (typeIs_int _ _ _) PySem.sub_int_bytes ?_)));refine wn au ?_;refine af (aa (aa (gG (T:="int") (b:=false) (typeIs_int _ _ _) PySem.sub_int_bytearray ?_)));refine wn au ?_;refine af (af ?_);refine aa (bj ?_);have hSf:s.heap.objs.size∉fp:=fun hm=>dh _ (hfp _ hm);refine af ⟨bY PySem.F.plain_sum_loop _,codeAny_sum_loopAnyS W1 val hval s.heap.objs.size hSf n 0 _ s.toks 0 0 (.inl rfl) rfl (bi _)
  (W1.frame 0 s _ _ hst (jr _) fun b _ o e=>al _ e) (aA _ rfl) fun s' t' hm=>?_⟩
 exact hQ s' t' wr gi hwr (hm.drop_new (jr _))
theorem Gl.toks{K g:Addr}{n:Nat}{F:Nat→Value→Prop}(G:Gl w A K g n F s){tk:Nat}(h:s.toks≤tk):Gl w A K g n F { s with toks:=tk }:=by
 refine nn fun hG=>?_;obtain⟨fp,wr,gi,St,W,hst,r⟩:=G;refine hG ?_;clear hG;exact⟨fp,wr,gi,St,W,W.frame 0 s s.heap tk hst h fun _ _ _ e=>e,r⟩
end
end
section
set_option linter.unusedSimpArgs false
open PySem.W PySem.SeqAt PySem.Builtin.Str
section
variable{M:Model}{A:Around}{E:Value→Shared→Prop}{s:Shared}{env:Env}
theorem w6{f:Str}{id:String}{p pos:Pos}{e:Expr}(he:eN e=true)(hd:(f == ("__debug__" :Str))=false){Q:Value→Shared→Prop}(hf:∀ {P:Value→Shared→Prop},P (.builtin id) s→wpAny M A (sK env f) P E s)
  (h:wpAny M A (eval e env) (fun v s₁=>wpAny M A (call (.builtin id) [v]) Q E s₁) E s):wpAny M A (eval (.Call (.Name f p) [e] [] pos) env) Q E s:=by
 have e1:eval (.Call (.Name f p) [e] [] pos) env=(do fv pos (← eval (.Name f p) env) [] (backTo pos (dD [e] env)) (sM pos (lN [] env))):=rfl;refine wq e1 ?_;refine aa (d5 (hf ?_) hd);have hn:[e].all eN=true:=by simp[he]
 refine pU (jJ hn pos env) (fj hn ?_);rw[cV he,dI];exact e9 (aK h (fun v s₁ h₁=>fW h₁) fun _ _ x=>x)
theorem Er{f:Str}{id:String}{p pos:Pos}{args:List Expr}(hn:args.all eN=true)(hd:(f == ("__debug__" :Str))=false){Q:Value→Shared→Prop}(hf:∀ {P:Value→Shared→Prop},P (.builtin id) s→wpAny M A (sK env f) P E s)
  (h:wpAny M A (nV (backTo pos (dD args env))) (fun vs s₁=>wpAny M A (call (.builtin id) vs) Q E s₁) E s):wpAny M A (eval (.Call (.Name f p) args [] pos) env) Q E s:=by
 have e1:eval (.Call (.Name f p) args [] pos) env=(do fv pos (← eval (.Name f p) env) [] (backTo pos (dD args env)) (sM pos (lN [] env))):=rfl;refine wq e1 ?_;refine aa (d5 (hf ?_) hd);exact pU (jJ hn pos env) (fj hn h)
end
noncomputable def wR(ps:List (Str×Str))(i:Nat):Int:=match ps[i]? with
 | some p=>((p.1.length+p.2.length:Nat):Int)
 | none=>0
noncomputable def dC(ps:List (Str×Str)):Int:=(ps.map fun p=>((p.1.length+p.2.length:Nat):Int)).sum
theorem vy(ps:List (Str×Str)):∀ n,n≤ps.length→preSum (wR ps) n=((ps.map fun p=>((p.1.length+p.2.length:Nat):Int)).take n).sum
 | 0,_=>rfl
 | n+1,h=>by
  rw[preSum,vy ps n (by exact bJ h),bT];have:ps[n]?=some ps[n]:=by simp
  simp[wR,this]
noncomputable def Bl:Fd:=⟨104,89,88,1,["self"],["sum"],[.builtin "sum"],[]⟩
theorem JW:Bl.chk=true:=by decide +kernel
theorem LD(pm:Value)(vs:List Value)(h:vs.length=Bl.np):c8 (Bl.fd pm) ⟨vs,[]⟩=pure ((Bl.names.take Bl.np).zip vs):=by
 obtain⟨u,rfl⟩:=ri h
 kernel_rfl
theorem Ht(a d:Addr)(ps:List (Str×Str))(hl:∀ p∈ps,p.1.length≤1000∧p.2.length≤1000)(hn:ps.length≤1000):eO Bl 0 [.ref a] [(a, .acc d (ps.map aB))] (fun b H'=>∃ mo',H'= [(a,mo')]∧b= .int (dC ps)∧mo'= .acc d (ps.map aB)):=by
 intro fx ok hh hfr hlv;refine T0.abs fun K hP=>?_;refine az (ee fun s r=>?_);refine Er rfl (by decide) (fun{P} q=>nh ok.kind (ok.gl _ _ .head).1 ok.glob ok.blt r.base (.inr rfl) q) ?_;rw[cV rfl,cV rfl,dI,dI];refine e9 (Ac ok hh r He hfr.2.2.1 (by rfl) (by rfl) (by decide +kernel) (by rfl) (by decide +kernel) (by decide +kernel) (by decide) (by rfl) .head .head (fun i v=>∃ t,v= .int (wR ps i) t) ?_ fun g s₁ r₁ S₁ k₁ G=>?_)
 ·intro A' E' i p tx ty s₂ code C m₂ hA b hp hns h1 h2;have hx:=hl p (aE hp);generalize hce:genEnv _ [] C code wc _=cenv;have f1:cenv.globals=3:=by rw[← hce];exact ok.glob
  have f2:cenv.builtins=0:=by rw[← hce];rfl
  have f3:cenv.scope.kind= .function:=by rw[← hce];rfl
  have f4:cenv.kindOf "len" =some .globalImplicit:=by rw[← hce];rfl
  have f5:cenv.kindOf "fws" =some .local:=by rw[← hce];rfl
  have f6:cenv.kindOf "part" =some .local:=by rw[← hce];rfl
  have f7:cenv.locals=C:=by rw[← hce];rfl
  rw[← f7]at hns;refine wpAny_BinOp (w6 rfl (by decide) (fun{P} q=>nh f3 f4 f1 f2 b (.inr rfl) q) (d5 (dz f3 f5 hns h1 (P.len_str (by lia) ?_)) (by decide)));refine w6 rfl (by decide) (fun{P} q=>nh (s:={ s₂ with toks:=s₂.toks+1+1 }) f3 f4 f1 f2 b (.inr rfl) q) (d5 (dz f3 f6 hns h2 (P.len_str (by lia) (P.add_int ?_))) (by decide));exact⟨⟨_,by simp only[wR,hp];rfl⟩,s₂.heap,_,rfl,fun _ _ e=>e⟩
 ·refine nn fun hG=>?_;obtain⟨us,n,e₁,zs₁,ad₁⟩:=r₁.objs _ _ iK.head.mem;refine hG ?_;clear hG;refine e9 ?_;rw[arm_eval_Attribute];refine aa (d5 (Dx ok r₁ .head ?_) (by decide));refine aa (be (aa (aC (yL r₁.base e₁ ad₁ fun t=>aa (sQ (af (fW ?_)))))));refine FD (G.toks (jr _)) (wR ps) (fun i v hP=>by
   obtain⟨j,hj,hv⟩:=hP;have:j=i:=by
    rw[rf]at hj
    ·exact(eV hj).symm
    ·by_cases hi:i<ps.length
     ·exact hi
     ·rw[j3 (by simp;exact aH [i,ps.length] 73469641930833989 tt hi)]at hj;cases hj
   rw[← this];exact hv) fun s' t' wr gi hwr hm=>?_
  have hK:∀ b o,s.heap.get? b=some o→b∉wr:=fun b o e hb=>absurd (bu e) (ip.mpr (hwr b hb));have hT:∀ b∈TB,b∉wr:=fun b hb hw=>absurd (aU r.size (hwr b hw)) (bU.mpr ((by decide:∀ x∈TB,x<265) b hb));have kk:∀ b o,b∉TB→s.heap.get? b=some o→s'.heap.get? b=some o:=fun b o hb e=>hm.heap b o (hK b o e) (k₁ b o hb e);obtain⟨r',S'⟩:=r.keepsT ok kk (r₁.tabs.of fun x o hx e=>hm.heap x o (hT x hx) e) (eL.movedS (s:={ s₁ with toks:=s₁.toks+1 }) r₁.gens hm) (hm.os.trans (r₁.os.trans r.os.symm));refine a8.intro (b:=.int (dC ps)) r' S' ?_ (hP ⟨_,[],_,rfl,rfl,rfl,_,rfl,rfl,rfl⟩);have hs:preSum (wR ps) ps.length=dC ps:=by
   rw[vy ps _ (bo _),gx (by simp)];rfl
  refine hs.symm▸?_;exact .int _ _
end
section
set_option linter.unusedSimpArgs false
open PySem.W PySem.SeqAt PySem.Builtin.Str
section
variable{prog:dt}{w:World}{A:Around}{E:Value→Shared→Prop}{s:Shared}{env:Env}
theorem w5{o:Expr}{name:Str}{apos pos:Pos}{args:List Expr}{id:String}(hb:ju o name env (eval o env)=eval o env)(hn:args.all eN=true)(hl:args.length<29)(hline:(apos.endLine == pos.line)=true)
  (slot:Slot "str" name id)(hty:typeOf (.builtin id)=pure (.type "method_descriptor")){Q:Value→Shared→Prop}
  (h:wpAny (model prog w) A (eval o env) (fun v s₁=>∃ x t,v= .str x t∧wpAny (model prog w) A (nV (backTo pos (dD args env))) (fun vs s₂=>wpAny (model prog w) A (call (.builtin id) (v::vs)) Q E s₂) E s₁) E s):
  wpAny (model prog w) A (eval (.Call (.Attribute o name apos) args [] pos) env) Q E s:=by
 have hp:=jJ hn pos env;refine wpAny_Call_method hb ?_ hline PySem.F.plainAttrs_str slot hty (aK h (fun v s₁ h₁=>?_) fun _ _ x=>x)
 ·have h1:(backTo pos (dD args env)).all (fun x=>!x.1)=true:=by
   rw[ay];intro x hx;have:=tN.mp hp x hx;simpa using this
  rw[h1];show (true && ([]:List (Option Str×Sem Value)).all _ && decide (args.length+0+0<30))=true;simp;exact jM hl
 ·refine nn fun hG=>?_;obtain⟨x,t,hE1,h₂⟩:=h₁;refine hG ?_;clear hG;subst hE1;exact⟨qS _ _ _,(fun b hb=>by cases hb),pU hp (fj hn h₂)⟩
end
noncomputable def d3:Str:=""
noncomputable def qw(p:Str×Str):Str:=kF d3 [p.1,p.2]
noncomputable def c7(ps:List (Str×Str)):Str:=kF d3 (ps.map qw)
noncomputable def Bk:Fd:=⟨105,96,95,1,["self"],["EMPTYSTRING"],[.str "" 230],[]⟩
theorem JU:Bk.chk=true:=by decide +kernel
theorem LB(pm:Value)(vs:List Value)(h:vs.length=Bk.np):c8 (Bk.fd pm) ⟨vs,[]⟩=pure ((Bk.names.take Bk.np).zip vs):=by
 obtain⟨u,rfl⟩:=ri h
 kernel_rfl
theorem IK(p:Str×Str):(qw p).length≤p.1.length+p.2.length:=by
 have h:=jp d3 [p.1,p.2];have e:(qw p).length=(Str.join d3 [p.1,p.2]).length:=bc Str.length (jB d3 [p.1,p.2]);have e0:d3.length=0:=by decide
 rw[e];simp only[aV,jz,cH,List.sum_nil,e0,CT]at h;exact aH [(d3.join [p.fst,p.snd]).length,p.fst.length,p.snd.length] 30819832910459675133384833630273 tt h
theorem zR:∀ (ps:List (Str×Str)),(∀ p∈ps,p.1.length≤1000∧p.2.length≤1000)→((ps.map qw).map (·.length)).sum≤2000*ps.length
 | [],_=>by simp
 | p::ps,h=>by
  have ih:=zR ps fun q hq=>h q (ai _ hq);have h1:=h p ah;have h2:=IK p;simp only[aV,cH,aT]
  lia
theorem ER{ps:List (Str×Str)}{lt:List (Str×Tok)}(hacc:ItemsOf (fun j y=>∃ i,(aG ps.length)[j]?=some i∧∃ p t,ps[i]?=some p∧y= .str (qw p) t) (tI lt).toArray ps.length):lt.map (·.1)=ps.map qw:=by
 have hsz:lt.length=ps.length:=by
  have:=hacc.1;simpa[tI]using this
 refine List.ext_getElem? fun j=>?_;rw[aM,aM];by_cases hj:j<ps.length
 ·have hl:lt[j]?=some lt[j]:=by simp
  refine nn fun hG=>?_;obtain⟨i,hi,p,t,hp,hv⟩:=hacc.2 j (.str lt[j].1 lt[j].2) (by simp[tI,hl]);refine hG ?_;clear hG;rw[rf hj]at hi;cases hi;rw[hp,hl];have hc:lt[j].1=qw p:=by injection hv
  simp[hc]
 ·rw[j3 (by exact aH [lt.length,ps.length,j] 117270822108767995525333059 tt hsz hj),j3 (by exact iH hj)]
  rfl
theorem Ho(a d:Addr)(ps:List (Str×Str))(hl:∀ p∈ps,p.1.length≤1000∧p.2.length≤1000)(hn:ps.length≤1000):eO Bk 0 [.ref a] [(a, .acc d (ps.map aB))] (fun b H'=>∃ mo',H'= [(a,mo')]∧b= .str (c7 ps)∧mo'= .acc d (ps.map aB)):=by
 intro fx ok hh hfr hlv;refine T0.abs fun K hP=>?_;refine az (ee fun s r=>?_);refine w5 rfl rfl (by decide) rfl PySem.F.slot_str_join PySem.F.type_str_join (d5 (nh ok.kind (ok.gl _ _ .head).1 ok.glob ok.blt r.base (.inl rfl) ⟨_,_,rfl,?_⟩) (by decide));rw[cV rfl,dI];refine e9 (Ac ok hh r Hd hfr.2.2.1 (by rfl) (by rfl) (by decide +kernel) (by rfl) (by decide +kernel) (by decide +kernel) (by decide) (by rfl) .head .head (fun i v=>∃ p t,ps[i]?=some p∧v= .str (qw p) t) ?_ fun g s₁ r₁ S₁ k₁ G=>fW ?_)
 ·intro A' E' i p tx ty s₂ code C m₂ hA b hp hns h1 h2;have hx:=hl p (aE hp);generalize hce:genEnv _ [] C code wc _=cenv;have f1:cenv.globals=3:=by rw[← hce];exact ok.glob
  have f2:cenv.builtins=0:=by rw[← hce];rfl
  have f3:cenv.scope.kind= .function:=by rw[← hce];rfl
  have f4:cenv.kindOf "EMPTYSTRING" =some .globalImplicit:=by rw[← hce];rfl
  have f5:cenv.kindOf "fws" =some .local:=by rw[← hce];rfl
  have f6:cenv.kindOf "part" =some .local:=by rw[← hce];rfl
  have f7:cenv.locals=C:=by rw[← hce];rfl
  rw[← f7]at hns;refine w5 rfl rfl (by decide) rfl PySem.F.slot_str_join PySem.F.type_str_join (d5 (nh f3 f4 f1 f2 b (.inl rfl) ⟨_,_,rfl,?_⟩) (by decide));rw[cV rfl,dI];refine e9 (Tuple_ ?_);rw[cV rfl,cV rfl,dI,dI];refine e9 (d5 (dz f3 f5 hns h1 ?_) (by decide));refine e9 (d5 (dz f3 f6 hns h2 (fW (nH (fW ?_) (by exact am tt)))) (by decide));refine PyProof.Rows.join_tuple (ys:=[p.1,p.2]) ⟨_,aA _ rfl,rfl,_,rfl⟩ (.cons _ _ (.cons _ _ .nil)) ?_ fun t' k=>?_
  ·have e0:("" :Str).length=0:=by decide
   simp only[aV,jz,cH,List.sum_nil,e0,CT]
   exact aH [p.fst.length,p.snd.length] 1645504561164446751474449258841585150872033839826509264845799489 tt hx.1 hx.2
  ·exact⟨⟨p,t',hp,rfl⟩,_,_,rfl,fun _ _ e=>al _ e⟩
 ·refine nn fun hG=>?_;obtain⟨fp,wr,gi,St,W,hst,hT,hg,hfp,hwr⟩:=G;refine hG ?_;clear hG;refine SC.joinGen W.in4_2 hT hst hfp hg (fun i v hP=>by obtain⟨j,_,p,t,_,hv⟩:=hP;exact⟨_,t,hv⟩) (fun s' lt hm hacc=>?_) (by exact jy hn rfl);have hmap:lt.map (·.1)=ps.map qw:=ER hacc;rw[hmap];refine⟨?_,fun t' k=>?_⟩
  ·refine joinOk_of ?_;have e0:("" :Str).length=0:=by decide
   have:=zR ps hl;rw[e0,CT];lia
  ·have hK:∀ b o,s.heap.get? b=some o→b∉wr:=fun b o e hb=>absurd (bu e) (ip.mpr (hwr b hb));have hT:∀ b∈TB,b∉wr:=fun b hb hw=>absurd (aU r.size (hwr b hw)) (bU.mpr ((by decide:∀ x∈TB,x<265) b hb));have kk:∀ b o,b∉TB→s.heap.get? b=some o→s'.heap.get? b=some o:=fun b o hb e=>hm.heap b o (hK b o e) (k₁ b o hb e);obtain⟨r',S'⟩:=r.keepsT (s':={ s' with toks:=k }) ok kk (r₁.tabs.of fun x o hx e=>hm.heap x o (hT x hx) e) (eL.movedS (s':=s') r₁.gens hm) (hm.os.trans (r₁.os.trans r.os.symm));exact a8.intro (b:=.str (c7 ps)) r' S' (.str _ _) (hP ⟨_,[],_,rfl,rfl,rfl,_,rfl,rfl,rfl⟩)
end
section
set_option linter.unusedSimpArgs false
open PySem.W PySem.SeqAt PySem.Builtin.Str
theorem Lr(P:Params):nsFind (rn P) "__len__" =some (.ref 89):=by kernel_rfl
theorem Lq(P:Params):nsFind (rn P) "__str__" =some (.ref 96):=by kernel_rfl
theorem xf:mroOf (.type "list")=pure [.type "list", .type "object"]:=by kernel_rfl
theorem vZ:∃ y,eA (.type "list") "__len__" =pure y:=⟨_,slot_list_len.lookup⟩
theorem vY:∃ y,eA (.type "list") "__str__" =pure y:=⟨some (.builtin "object.__str__"),by rw[dB,cq];kernel_rfl⟩
theorem Dq{h:Heap}(b:ey h){a d:Addr}{vs:List Value}{n:Nat}(ha:h.get? a=some (j8 d vs n)):h.OwnSpecial a 122 89 "list" "__len__" :=by
 obtain⟨P,X⟩:=b.frag;refine nn fun hG=>?_;obtain⟨pm,ho,_⟩:=b.fns 104 89 88 (by decide);refine hG ?_;clear hG;obtain⟨y,hy⟩:=vZ;exact⟨_,_,"_Accumulator","_Accumulator",121,[.type "list"],[.type "list", .type "object"],true,[],[],false,none,none,some (.ref 43),none,some (.str "_Accumulator" 232),some (.str "_Accumulator" 240),some (.bool true),"list.__new__",_,y,ha,rfl,X 122 _ rfl,u5 X,Lr P,ho,rfl,xf,hy⟩
theorem Jv{h:Heap}(b:ey h){a d:Addr}{vs:List Value}{n:Nat}(ha:h.get? a=some (j8 d vs n)):h.OwnSpecial a 122 96 "list" "__str__" :=by
 obtain⟨P,X⟩:=b.frag;refine nn fun hG=>?_;obtain⟨pm,ho,_⟩:=b.fns 105 96 95 (by decide);refine hG ?_;clear hG;obtain⟨y,hy⟩:=vY;exact⟨_,_,"_Accumulator","_Accumulator",121,[.type "list"],[.type "list", .type "object"],true,[],[],false,none,none,some (.ref 43),none,some (.str "_Accumulator" 232),some (.str "_Accumulator" 240),some (.bool true),"list.__new__",_,y,ha,rfl,X 122 _ rfl,u5 X,Lq P,ho,rfl,xf,hy⟩
section
variable{c:Cx}{vals:List V}{H H':Hp}{EX:dK}{s:Shared}{Q:V→List V→Hp→Prop}
theorem Cx.Ok.near(ok:c.Ok){A:Around}(hd:A.depth=c.A.depth)(hf:A.frames=c.A.frames)(hu:A.units≤c.A.units+40)(h:c.lvl+1≤20):Cx.Ok { c with A:=A,lvl:=c.lvl+1 }:=
 {kind:=ok.kind,glob:=ok.glob,blt:=ok.blt,loc:=ok.loc,cell:=ok.cell,cells:=ok.cells,inj:=ok.inj,tb:=ok.tb,nn:=ok.nn,nd:=ok.nd,nc:=ok.nc,sto:=ok.sto,dj:=ok.dj,gl:=ok.gl,cnk:=ok.cnk,
  frm:=by show ∃ l,A.frames=some l;rw[hf];exact ok.frm
  dep:=by have:=ok.dep;show A.depth≤400+2*(c.lvl+1);exact aH [A.depth,c.A.depth,c.lvl] 3485178665058597619213399971502466071725562627794249241722235125827 tt hd this
  uni:=by have:=ok.uni;show A.units≤100+50*(c.lvl+1);exact aH [A.units,c.A.units,c.lvl] 15327979193570359914168388329560969893662242313282020180446553310387833163219009 tt hu this
  low:=h }
theorem du.same{H H':Hp}{a:Addr}{mo:bW}(p:du H a mo mo H'):H'=H:=by
 have key:∀ {H H':Hp} {a:Addr} {m m':bW},du H a m m' H'→m=m'→H'=H:=by
  intro H H' a m m' p
  induction p with
  | head=>intro e;rw[e]
  | tail _ ih=>intro e;rw[ih e]
 exact key p rfl
theorem C7(ok:c.Ok)(hh:c.A.handled=none)(hlv:c.lvl+1≤20){a d:Addr}{ps:List (Str×Str)}(hm:iK H a (.acc d (ps.map aB)))(hl:∀ p∈ps,p.1.length≤1000∧p.2.length≤1000)(hn:ps.length≤1000)(r:Rel c vals H s):
  wpAny c.M c.A (call (.ref 89) [.ref a]) (fun v s'=>∃ t,v= .int (dC ps) t∧Rel c vals H s'∧aN s.heap (c.Z H) s'.heap (c.Z H)) (fun _ _=>False) s:=by
 refine aK (DM (EX:=kx) (Q:=fun v vals' H'=>v= .int (dC ps)∧vals'=vals∧H'=H) Bl JW LD 0 ok hh hlv rfl hm (Ht a d ps hl hn) (fun b mo' H' p q=>?_) s [.ref a] r (.cons (.ref a) .nil)) (fun v s' p=>?_) fun _ _ p=>fI p
 ·obtain⟨rfl,rfl⟩:=q;exact⟨rfl,rfl,p.same⟩
 ·refine nn fun hG=>?_;obtain⟨b,vals',H',r',S',z,hE1,hE2,hE3⟩:=p;refine hG ?_;clear hG;subst hE1;obtain rfl:=hE2.symm;obtain rfl:=hE3.symm;cases z.iInt;exact⟨_,rfl,r',S'⟩
theorem J1(ok:c.Ok)(hh:c.A.handled=none)(hlv:c.lvl+2≤20){a d:Addr}{ps:List (Str×Str)}(hm:iK H a (.acc d (ps.map aB)))(hl:∀ p∈ps,p.1.length≤1000∧p.2.length≤1000)(hn:ps.length≤1000)(h0:0≤dC ps∧dC ps<2^63)
  (q:Q (.int (dC ps)) vals H):Tn c vals H [.ref a] (fun vs=>call (.builtin "len") vs) VR Q EX:=Tn.oneR fun s r=>by
 refine nn fun hG=>?_;obtain⟨us,n,e,zs,ad⟩:=r.objs _ _ hm.mem;refine hG ?_;clear hG;have X:=Dq r.base e;refine nn fun hG=>?_;obtain⟨h,g,dr,tk,os⟩:=s;refine hG ?_;clear hG;refine len_own X (aK (C7 (c:={ c with A:=c.A.in1,lvl:=c.lvl+1 }) (ok.near rfl rfl (by lia) (by exact bJ hlv)) hh hlv hm hl hn (r.reA _ _)) (fun v s' p=>?_) fun _ _ p=>p.elim);refine nn fun hG=>?_;obtain⟨t,hE1,r',S'⟩:=p;refine hG ?_;clear hG;subst hE1;exact⟨_,t,rfl,h0.1,h0.2,a8.intro (r'.unA.toks _) S' (.int _ _) q⟩
theorem Lj(ok:c.Ok)(hh:c.A.handled=none)(hlv:c.lvl+2≤20){a d:Addr}{ps:List (Str×Str)}{Q:Bool→List V→Hp→Prop}(hm:iK H a (.acc d (ps.map aB)))(hl:∀ p∈ps,p.1.length≤1000∧p.2.length≤1000)(hn:ps.length≤1000)(h0:0≤dC ps∧dC ps<2^63)
  (q:Q (dC ps != 0) vals H):T1 c vals H (.ref a) truthy BR Q EX:=fun s v r z=>by
 cases z.iRef;refine nn fun hG=>?_;obtain⟨us,n,e,zs,ad⟩:=r.objs _ _ hm.mem;refine hG ?_;clear hG;have X:=Dq r.base e;have Lb:=jg (M:=c.M) r.base e rfl LK;have Ll:=jg (M:=c.M) r.base e rfl MT;unfold truthy;refine aa ?_;refine wq (callSpecial?.eq_1 ..) ?_;refine aa (Lb.here (af ?_))
 dsimp only
 refine aa (Ll.here ?_);refine wn au ?_;refine aa ?_;refine CN (bE entry_len ?_);refine(a7 plain_len _).symm▸?_;refine nn fun hG=>?_;obtain⟨h,g,dr,tk,os⟩:=s;refine hG ?_;clear hG;unfold Builtin.«len»;refine aa (m:=PySem.oneArg "len" _) (af ?_);refine aa (m:=qW (.ref a) (cE "__len__")) (wpAny_callSpecial?_own X (aK (C7 (c:={ c with A:=c.A.in1,lvl:=c.lvl+1 }) (ok.near rfl rfl (by show c.A.units+1≤c.A.units+40;exact aH [c.A.units] 721156518019338496 tt) (by exact bJ hlv)) hh hlv hm hl hn (r.reA _ _)) (fun v s' p=>?_) fun _ _ p=>p.elim));refine nn fun hG=>?_;obtain⟨t,hE1,r',S'⟩:=p;refine hG ?_;clear hG;subst hE1;refine aa (aC (af ?_));refine aa (fV ?_);show wpAny _ _ (if dC ps<0 then _ else _) _ _ _;refine wn (by omega) ?_;show wpAny _ _ (if dC ps≥2^63 then _ else _) _ _ _;refine wn (by omega) ?_;exact aa (Kj (af (af (a8.intro (r'.unA.toks _) S' rfl q))))
end
end
section
set_option linter.unusedSimpArgs false
open PySem.W PySem.SeqAt PySem.Builtin.Str
theorem vz:qP "str.__new__" =true:=by decide +kernel
section
variable{c:Cx}{vals:List V}{H H':Hp}{EX:dK}{s:Shared}{Q:V→List V→Hp→Prop}
theorem Jc(ok:c.Ok)(hh:c.A.handled=none)(hlv:c.lvl+1≤20){a d:Addr}{ps:List (Str×Str)}(hm:iK H a (.acc d (ps.map aB)))(hl:∀ p∈ps,p.1.length≤1000∧p.2.length≤1000)(hn:ps.length≤1000)(r:Rel c vals H s):
  wpAny c.M c.A (call (.ref 96) [.ref a]) (fun v s'=>∃ t,v= .str (c7 ps) t∧Rel c vals H s'∧aN s.heap (c.Z H) s'.heap (c.Z H)) (fun _ _=>False) s:=by
 refine aK (DM (EX:=kx) (Q:=fun v vals' H'=>v= .str (c7 ps)∧vals'=vals∧H'=H) Bk JU LB 0 ok hh hlv rfl hm (Ho a d ps hl hn) (fun b mo' H' p q=>?_) s [.ref a] r (.cons (.ref a) .nil)) (fun v s' p=>?_) fun _ _ p=>fI p
 ·obtain⟨rfl,rfl⟩:=q;exact⟨rfl,rfl,p.same⟩
 ·refine nn fun hG=>?_;obtain⟨b,vals',H',r',S',z,hb,hE1,hE2⟩:=p;refine hG ?_;clear hG;obtain rfl:=hE1.symm;obtain rfl:=hE2.symm;subst hb;obtain⟨t,rfl⟩:∃ t,v= .str (c7 ps) t:=by cases z.iStr;exact⟨_,rfl⟩
  exact⟨_,rfl,r',S'⟩
theorem yq(ok:c.Ok)(hh:c.A.handled=none)(hlv:c.lvl+2≤20){a d:Addr}{ps:List (Str×Str)}(hm:iK H a (.acc d (ps.map aB)))(hl:∀ p∈ps,p.1.length≤1000∧p.2.length≤1000)(hn:ps.length≤1000)
  (q:Q (.str (c7 ps)) vals H):Tn c vals H [.ref a] (fun vs=>call (.type "str") vs) VR Q EX:=Tn.oneR fun s r=>by
 refine nn fun hG=>?_;obtain⟨us,n,e,zs,ad⟩:=r.objs _ _ hm.mem;refine hG ?_;clear hG;have X:=Jv r.base e;have hu:=ok.units;refine nn fun hG=>?_;obtain⟨h,g,dr,tk,os⟩:=s;refine hG ?_;clear hG;refine callType_codes (Q₁:=fun obj s₁=>s₁.TypeIs obj "str" ∧a8 c H ⟨h,g,dr,tk,os⟩ VR Q obj s₁) qZ (PySem.F.typeCall_str_1 _) PySem.F.entry_object_init ?_ fun obj s₁ h₁=>?_
 ·refine jA ?_;show wpAny _ _ (do ja "str.__new__" ⟨[.type "str", .ref a],[]⟩;again (.builtin "str.__new__" ⟨[.type "str", .ref a],[]⟩)) _ _ _;refine aa (cI (PySem.F.newCall_str_1 _) (af ⟨bY vz _,bE PySem.F.entry_str_new ?_⟩));refine(a7 vz _).symm▸?_;unfold Builtin.«str.__new__»;have hcr:∀ {Q':Unit→Shared→Prop} {E':Value→Shared→Prop} {s':Shared},Q' () s'→wpAny c.M c.A.in1.in1 (cRoomFor "str" [.ref a]) Q' E' s':=fun q'=>wpAny_cRoomFor (by show c.A.units+1+1<cLine;simp only[cLine];exact aH [c.A.units] 904307740039072980935928622553276860353710617788481 tt hu) q';have hsub:fQ (.type "str") (.type "str")=pure true:=isSubtype_str_str
  repeat (first | (with_reducible refine hcr ?_) | wp_step)
  obtain⟨P',X'⟩:=r.base.frag;refine nn fun hG=>?_;obtain⟨pm,ho,_⟩:=r.base.fns 105 96 95 (by decide);refine hG ?_;clear hG;have L:=looks_findIn (M:=c.M) X' (MS P');refine L.at ?_
  dsimp only
  refine aC (aa (wpAny_bindSpecial_def (s:=⟨h,g,dr,tk,os⟩) ho rfl ?_));refine aa (aK (Jc (c:={ c with A:=c.A.in1.in1,lvl:=c.lvl+1 }) (ok.near rfl rfl (by lia) (by exact bJ hlv)) hh hlv hm hl hn (r.reA _ _)) (fun v s' p=>?_) fun _ _ p=>p.elim);refine nn fun hG=>?_;obtain⟨t,hE1,r',S'⟩:=p;refine hG ?_;clear hG;subst hE1;refine af ?_
  dsimp only
  refine aa (show wpAny _ _ (pure (some (c7 ps))) _ _ _ from af ?_);refine wn au ?_;refine af ?_;refine wy (by decide) ?_;exact af ⟨qS _ _ _,a8.intro r'.unA S' (.str _ _) q⟩
 ·exact⟨h₁.1,PySem.F.args_object_init_2 obj _,object_init_meets qZ.init.lookup qZ.made (by decide) pw c.w c.A.in1 _ s₁ ⟨h₁.1,rfl,h₁.2⟩⟩
end
end
section
section
variable{c:Cx}{vals:List V}{H:Hp}{EX:dK}{Q:Fl→List V→Hp→Prop}
theorem BG{body:List Stmt}{h₀:F2}{hs:List F2}{pos:Pos}(h:Ss c vals H body Q kx):S1 c vals H (.Try body (h₀::hs) [] [] pos) Q EX:=fun s r=>by
 refine wpAny_Try_except (aK (h s r) (fun f s₁ ⟨fl,vals₁,H₁,r₁,S₁,z,q⟩=>?_) fun e s₁ p=>(fI p).elim)
 cases z with
 | next=>exact fS (a8.intro r₁ S₁ .next q)
 | brk=>exact a8.intro r₁ S₁ .brk q
 | cont=>exact a8.intro r₁ S₁ .cont q
 | ret z=>exact a8.intro r₁ S₁ (.ret z) q
end
noncomputable def oq(path b:Str):Str:=if (iq b bG || path.length == 0)=true then b else if tW path bG=true then path++b else path++(bG++b)
noncomputable def kz(a:Str)(ps:List Str):Str:=ps.foldl oq a
theorem Ef(path b:Str):(oq path b).length≤path.length+(b.length+1):=by
 have e:bG.length=1:=by decide
 unfold oq
 split
 ·exact aH [b.length,path.length] 9306271787258112 tt
 ·split
  ·rw[hU];exact aH [path.length,b.length] 38136499242195226880 tt
  ·rw[hU,hU,e];exact aH [path.length,b.length] 156207100898024563413248 tt
theorem Fg(a:Str)(ps:List Str)(h:∀ p∈ps,p.length≤10):(kz a ps).length≤a.length+11*ps.length:=by
 unfold kz
 induction ps generalizing a with
 | nil=>simp
 | cons p ps ih=>
  have h1:=ih (oq a p) fun q hq=>h q (ai _ hq);have h2:=Ef a p;have h3:=h p ah;rw[gP,aT];exact aH [(List.foldl oq (oq a p) ps).length,(oq a p).length,ps.length,a.length,p.length] 54455917524425658948893581941767128262791762157703658798782087233 tt h1 h2 h3
noncomputable def rr:Fd:=⟨21,220,219,2,["a","p","sep","path","b"],["fspath","_get_sep"],[.ref 199, .ref 213],[]⟩
theorem Iy:rr.chk=true:=by decide +kernel
theorem Ek(a:Str)(ps:List Str)(ha:a.length≤10)(hp:∀ p∈ps,p.length≤10)(hn:ps.length≤10):eO rr 1 [.str a, .tup (ps.map .str)] [] (fun r H'=>r= .str (kz a ps)):=by
 intro fx ok hh hfr hlv;refine T0.abs fun K hK=>?_;refine az (bB ok rfl (i3 ok 0 rfl rfl tt (dR (i:=16) (k:=198) rfl) ?_));refine En ok 0 rfl rfl ff (gY I4 xX C4 0 ok hh hlv rfl (ua a) (Mu ?_));refine⟨_, .head,az (bB ok rfl (i3 ok 1 rfl rfl tt (dR (i:=20) (k:=212) rfl) ?_))⟩;refine En ok 0 rfl rfl ff (gY zA DI GH 0 ok hh hlv rfl (zU a) (Mu ?_));refine⟨_, .tail (.tail .head),az (bB ok rfl (En ok 0 rfl rfl ff ⟨_, .tail (.tail (.tail .head)),?_⟩))⟩;refine az (BG (az (qb ok rfl (En ok 1 rfl rfl ff ⟨ps.map .str,BD hh,?_⟩))));refine⟨fun i vals H=>∃ b,vals= [.str a, .tup (ps.map .str), .str bG, .str (kz a (ps.take i)),b]∧H= [],⟨_,rfl,rfl⟩,?_,?_⟩
 ·intro i x y vals H hx hI N hN;refine nn fun hG=>?_;obtain⟨b,hE1,hE2⟩:=hI;refine hG ?_;clear hG;subst hE1;subst hE2;rw[aM,bQ]at hx;refine nn fun hG=>?_;obtain⟨q,hq,hE1⟩:=hx;refine hG ?_;clear hG;subst hE1;have ok':=ok.addY y;have hqm:q∈ps:=aE hq;have hql:=hp q hqm;have hil:i<ps.length:=(aX.mp hq).1;have hJ:(kz a (ps.take i)).length≤200:=by
   have:=Fg a (ps.take i) fun z hz=>hp z (dO hz);rw[bM]at this;exact aH [a.length,ps.length,i,(kz a (fw i ps)).length,min i ps.length] 329155152292802208819839209376636768213068591949218747306390585409 tt ha hn hil this (bC i ps.length)
  have hnext:kz a (ps.take (i+1))=oq (kz a (ps.take i)) q:=by
   unfold kz;rw[bT,hq];simp
  generalize kz a (ps.take i)=path at hJ hnext;have hs1:bG.length=1:=by decide
  refine cL ok' ⟨_, .tail (.tail (.tail (.tail .head))),?_⟩;refine az (bB ok' rfl (i3 ok' 0 rfl rfl tt (dR (i:=16) (k:=198) rfl) ?_));refine En ok' 4 rfl rfl ff (gY I4 xX C4 0 ok' hh hlv rfl (ua q) (Mu ?_));refine⟨_, .tail (.tail (.tail (.tail .head))),az (j9 (gf (gN (iL (fun _ _=>rfl) (k7 rfl rfl (by decide) rfl F.slot_str_startswith F.type_str_startswith ?_)))))⟩;refine En ok' 4 rfl rfl ff ⟨⟨_,rfl⟩,En ok' 2 rfl rfl ff (xB (nf ?_))⟩;have one:(iq q bG || path.length == 0)=true→oq path q=q:=fun h=>if_pos h;have other: ¬ (iq q bG || path.length == 0)=true→oq path q=if tW path bG=true then path++q else path++(bG++q):=fun h=>if_neg h
  have fin:∀ z,oq path q=z→∃ b,([.str a, .tup (ps.map .str), .str bG, .str z, .str q]:List V)= [.str a, .tup (ps.map .str), .str bG, .str (kz a (ps.take (i+1))),b]∧([]:Hp)= []:=fun z hz=>⟨_,by rw[hnext,hz],rfl⟩
  by_cases h1:iq q bG=true
  ·refine py h1 ?_;exact az (bB ok' rfl (En ok' 4 rfl rfl ff ⟨_, .tail (.tail (.tail .head)),bz (bz (hN (fin _ (one (by rw[h1];rfl)))))⟩))
  refine pn h1 ?_;refine gN (DS (iL (fun _ _=>rfl) (En ok' 3 rfl rfl ff (xR (aU hJ (by decide)) ?_))));by_cases h2:path.length=0
  ·refine py (by simp[h2]) ?_;exact az (bB ok' rfl (En ok' 4 rfl rfl ff ⟨_, .tail (.tail (.tail .head)),bz (bz (hN (fin _ (one (by simp[h2])))))⟩))
  refine pn (by simp[h2]) ?_;have other:=other (by simp[h1,h2]);refine az (j9 (iL (fun _ _=>rfl) (k7 rfl rfl (by decide) rfl F.slot_str_endswith F.type_str_endswith ?_)));refine En ok' 3 rfl rfl ff ⟨⟨_,rfl⟩,En ok' 2 rfl rfl ff (J5 (nf ?_))⟩;by_cases h3:tW path bG=true
  ·refine h3.symm▸?_;refine az (uL ok' (.tail (.tail (.tail .head))) (nu ff) (En ok' 4 rfl rfl ff (zX (by simp only[av];exact aH [q.length,path.length] 91343852508743379156024945021237524136845115457 tt hql hJ) ⟨_, .tail (.tail (.tail .head)),bz (bz (bz (hN (fin _ ?_))))⟩)));rw[other,if_pos h3]
  ·rw[Bool.not_eq_true]at h3;refine h3.symm▸?_;refine az (uL ok' (.tail (.tail (.tail .head))) (nu ff) (cK (En ok' 2 rfl rfl ff (En ok' 4 rfl rfl ff (Ds (by simp only[av];exact aH [q.length,bG.length] 85070591893739420135193289125943836737 tt hql hs1) (zX (by rw[hU];simp only[av];exact aH [q.length,path.length,bG.length] 401734511836968608019717832712313876205155589464582748373057 tt hql hJ hs1) ⟨_, .tail (.tail (.tail .head)),bz (bz (bz (hN (fin _ ?_))))⟩))))));rw[other,if_neg (by simp[h3])]
 ·intro vals H hI;refine nn fun hG=>?_;obtain⟨b,hE1,hE2⟩:=hI;refine hG ?_;clear hG;subst hE1;subst hE2;rw[an,cY];refine bz (az (ee (En ok 3 rfl rfl ff ?_)));exact hK ⟨_,[],[],rfl,rfl,rfl,rfl⟩
end
section
theorem Ab(pm:Value)(vs:List Value)(h:vs.length=kR.np):c8 (kR.fd pm) ⟨vs,[]⟩=pure ((kR.names.take kR.np).zip vs):=by
 obtain⟨v,rfl⟩:=ri h
 kernel_rfl
noncomputable def pX(st:Str×List (Str×Str)):Str×List (Str×Str):=if st.1=bG then st else ((ke st.1).1,ke st.1::st.2)
noncomputable def jd(p:Str):Nat→Str×List (Str×Str)
 | 0=>(p,[])
 | n+1=>pX (jd p n)
noncomputable def pairsOf(p:Str):List (Str×Str):=(jd p 3).2
noncomputable def qB:Fd:=⟨26,244,243,1,["path","pairs","turn"],["range","split"],[.type "range", .ref 227],[]⟩
theorem Fu:qB.chk=true:=by decide +kernel
theorem xd(p:Str):∀ n,(jd p n).2.length≤n
 | 0=>bo _
 | n+1=>by
  have ih:=xd p n;show (pX (jd p n)).2.length≤_;unfold pX
  split
  ·exact cQ ih
  ·simp only[aT];exact cf ih
theorem BX(p:Str)(hl:∀ n,(jd p n).1.length≤1000):eO qB 2 [.str p] [] (fun b H'=>∃ D,b= .lst D ((pairsOf p).map aB)):=by
 intro fx ok hh hfr hlv;refine T0.abs fun K hK=>?_;refine az (bB ok rfl (jk rfl ⟨by simp[av],fun a=>⟨_, .tail .head,?_⟩⟩));refine az (qb ok rfl (i3 ok 0 rfl rfl tt pt ?_));refine bS (kK ⟨_,oE hh (by decide) 3 (by decide),?_⟩);refine⟨fun i vals H=>∃ tv,vals= [.str (jd p i).1, .ref a,tv]∧H= [(a, .list ((jd p i).2.map aB))],⟨_,rfl,rfl⟩,?_,?_⟩
 ·intro i x y vals H hx hI N hN;refine nn fun hG=>?_;obtain⟨tv,hE1,hE2⟩:=hI;refine hG ?_;clear hG;subst hE1;subst hE2;have ok':=ok.addY y;have hln:=hl i;have hle:=xd p i;have hi:i<3:=by
   have:=(aX.mp hx).1;simpa using this
  have hs:jd p (i+1)=pX (jd p i):=rfl;generalize jd p i=st at hln hs hle;obtain⟨q,l⟩:=st;refine cL ok' ⟨_, .tail (.tail .head),?_⟩;refine az (j9 (bv rfl (En ok' 0 rfl rfl ff (ft (r9 ⟨_,rfl,?_⟩)))));by_cases hq:q=bG
  ·have:(!decide (q= "/"))=false:=by rw[show ("/" :Str)=bG from rfl,aP hq];rfl
   refine this.symm▸?_;refine bz (bz (hN ⟨x,?_,?_⟩))
   ·rw[hs,pX,if_pos hq]
   ·rw[hs,pX,if_pos hq]
  ·have:(!decide (q= "/"))=true:=by rw[show ("/" :Str)=bG from rfl,bg hq];rfl
   refine this.symm▸?_;refine az (gd ok' rfl (dp rfl rfl (by decide) rfl PySem.F.slot_list_insert PySem.F.type_list_insert (En ok' 1 rfl rfl ff ⟨⟨a,_, .inl ⟨rfl, .head⟩⟩,bS ?_⟩)));refine i3 ok' 1 rfl rfl tt (dR (i:=22) (k:=226) rfl) (En ok' 0 rfl rfl ff ?_);refine gY kR xw Ab 1 ok' hh hlv rfl (vk q hln) fun b e=>?_;subst e;refine CA ok' (mo:=.list (l.map aB)) .head (.list _) (by simp only[an,av];simp only at hle;exact aH [i,l.length] 20769187474341185391137788515057730 tt hi hle) ?_;refine az (bB ok' rfl (dQ rfl (dQ rfl (En ok' 1 rfl rfl ff (bS ⟨k6 (.ref .head (.list _)),ud (.ref .head (.list _)) (by decide) rfl (by simp only[aT,an,av];simp only at hle;exact aH [i,l.length] 85070591929639681273946899538978537538 tt hi hle) ?_⟩)))));refine bS ⟨rL,uc (by decide) rfl (by exact am tt) ⟨_, .head,bz (bz (hN ⟨x,?_,?_⟩))⟩⟩
   ·rw[hs,pX,if_neg hq]
   ·rw[hs,pX,if_neg hq];rfl
 ·intro vals H hI;refine nn fun hG=>?_;obtain⟨tv,hE1,hE2⟩:=hI;refine hG ?_;clear hG;subst hE1;subst hE2;refine T0.freeze ok (x:="pairs") .head (.list a _) (.tail .head) (.tail .head) ?_;refine az (ee (En ok 1 rfl rfl ff ?_));exact hK ⟨_,[],[],rfl,rfl,rfl,a,rfl⟩
end
section
theorem zW{α:Type}{l:List α}{lo hi st:Option Int}{x:α}(h:x∈gJ l lo hi st):x∈l:=by
 unfold gJ at h;refine nn fun hG=>?_;obtain⟨i,_,hi⟩:=List.mem_filterMap.mp h;refine hG ?_;clear hG;exact aE hi
theorem lh{n:Nat}{l:List Str}(h:∀ x∈l,bH x=true):V.datas n (l.map .str)=true:=by
 rw[V.datas_all,ay];intro v hv;refine nn fun hG=>?_;obtain⟨x,hx,hE1⟩:=ap.mp hv;refine hG ?_;clear hG;subst hE1;exact h x hx
theorem xq{n:Nat}{l m:List V}(h:V.datas n l=true)(hm:∀ x∈m,x∈l):V.datas n m=true:=by
 rw[V.datas_all,ay]at h ⊢;exact fun x hx=>h x (hm x hx)
noncomputable def upTo(r:List Str)(k:Int):List V:=gJ (r.map V.str) none (some k) none
noncomputable def uO(r1 r2:List Str)(k:Int):Bool:=bw (.list (V.pys (upTo r1 k))) (.list (V.pys (upTo r2 k)))
noncomputable def HA(r1 r2:List Str):List Int:=([1,2,3]:List Int).filter fun k=>decide (k≤r1.length) && uO r1 r2 k
noncomputable def kD(r1 r2:List Str):Int:=r1.length+r2.length-2*(HA r1 r2).length
theorem MG(P:Int→Bool):(((aG 3).map fun(i:Nat)=>V.int (1+(i:Int))).filterMap (V.onI (fun k=>if P k=true then some (V.int k)else none) none))=(([1,2,3]:List Int).filter P).map V.int:=by
 have e:((aG 3).map fun(i:Nat)=>V.int (1+(i:Int)))= [V.int 1,V.int 2,V.int 3]:=by rfl
 rw[e];cases h1:P 1<;>cases h2:P 2<;>cases h3:P 3<;>simp[List.filterMap,bX,V.onI,h1,h2,h3]
noncomputable def qA:Fd:=⟨27,249,248,2,["first","second","shared"],["range","len"],[.type "range", .builtin "len"],["first","second"]⟩
theorem Ft:qA.chk=true:=by decide +kernel
theorem BW(r1 r2:List Str)(D1 D2:Addr)(h1:∀ x∈r1,bH x=true)(h2:∀ x∈r2,bH x=true)(l1:r1.length≤1000)(l2:r2.length≤1000):
  eO qA 0 [.lst D1 (r1.map .str), .lst D2 (r2.map .str)] [] (fun b H'=>b= .int (kD r1 r2)):=by
 intro fx ok hh hfr hlv;refine T0.abs fun K hK=>?_;have s1:(r1.map V.str).length≤av:=by exact d4 l1 rfl
 have s2:(r2.map V.str).length≤av:=by exact d4 l2 rfl
 refine az (eJ ok ⟨_,["k"],["first","second"],["len"],[.builtin "len"]⟩ (by decide +kernel) (fun _ h=>h) rfl ?_);refine i3 ok 0 rfl rfl tt pt (bS (bS (xC ?_)));refine⟨_,[("first", .lst D1 (r1.map .str)),("second", .lst D2 (r2.map .str))],(oE hh (by decide) 3 (by decide)).c ok,by exact am tt,⟨fun _ h=>h,?_⟩,fun env own Y B ok'=>?_⟩
 ·exact all2 ⟨ah,nu ff, .inl .head⟩ ⟨Bh,nu ff, .inl (.tail .head)⟩
 refine CompI.map (V.onI (fun k=>if (decide (k≤r1.length) && uO r1 r2 k)=true then some (.int k)else none) none) (fun x hx=>cL ok' ⟨_, .head,?_⟩) fun D=>⟨_, .tail (.tail .head),?_⟩
 ·refine nn fun hG=>?_;obtain⟨i,hi,hE1⟩:=ap.mp hx;refine hG ?_;clear hG;subst hE1;have hi:=aQ.mp hi;have m1:(("first" :Str),V.lst D1 (r1.map .str))∈ [(("first" :Str),V.lst D1 (r1.map .str)),(("second" :Str),V.lst D2 (r2.map .str))]:=ah;have m2:(("second" :Str),V.lst D2 (r2.map .str))∈ [(("first" :Str),V.lst D1 (r1.map .str)),(("second" :Str),V.lst D2 (r2.map .str))]:=ai _ ah;refine gf (mN (bv rfl (i3 ok' 0 rfl rfl tt pb ?_)));refine et ok' m1 (nu ff) (iT s1 (En ok' 0 rfl rfl ff (MJ ⟨_,rfl,?_⟩)));rw[an];by_cases hk:(1+(i:Int))≤r1.length
  ·refine py (aP hk) ?_;refine mN (bv rfl (fe (et ok' m1 (nu ff) ?_)));refine En ok' 0 rfl rfl ff ⟨_,rfl,cG,mh (.lst _ _) (by simp) s1 fun E1=>?_⟩;refine fe (et ok' m2 (nu ff) (En ok' 0 rfl rfl ff ⟨_,rfl,cG,mh (.lst _ _) (by simp) s2 fun E2=>?_⟩));refine uR ok' (V.lst_data (xq (lh (n:=7) h1) fun x hx=>zW hx)) (V.lst_data (xq (lh (n:=7) h2) fun x hx=>zW hx)) ⟨_,rfl,?_⟩;show if uO r1 r2 (1+(i:Int))=true then _ else _
   by_cases hs:uO r1 r2 (1+(i:Int))=true
   ·refine py hs ?_;show Ev _ _ _ _ _ _;exact En ok' 0 rfl rfl ff (by show (if _ then _ else _)=_;simp[hk,hs])
   ·refine pn hs ?_;show (if _ then _ else _)=_;simp[hs]
  ·refine pn (by simpa using hk) ?_;show (if _ then _ else _)=_;simp[hk]
 ·refine az (ee (cK (cK (i3 ok 1 rfl rfl tt pb (En ok 0 rfl rfl ff (iT s1 ?_))))));refine i3 ok 1 rfl rfl tt pb (En ok 1 rfl rfl ff (iT s2 (oC ?_)));refine cK (bS (i3 ok 1 rfl rfl tt pb (En ok 2 rfl rfl ff (iT ?_ (Lo ?_ (GC ?_))))))
  ·refine aU (List.length_filterMap_le _ _) (by exact am tt)
  ·exact IntMulOk.of_left (by decide)
  ·refine hK ⟨_,[],[],rfl,rfl,rfl,?_⟩;have e:=MG fun k=>decide (k≤r1.length) && uO r1 r2 k;rw[an,an,e,an]
   rfl
end
section
open PySem.W
theorem range_getD(l:List V):(aG l.length).map (fun i=>l.getD i .none)=l:=by
 refine List.ext_getElem (by simp) fun i h1 h2=>?_;simp[h2]
theorem mO{l:List V}(P:t5 (my l)):(m0 l).Perm l:=by
 have h:=(Hl P l.length).map fun i=>l.getD i V.none;rw[range_getD]at h;exact h
theorem Jk{lt:Nat→Nat→Bool}(P:t5 lt)(n:Nat):(srt lt n).Pairwise fun i j=>lt j i=false:=by
 rw[List.pairwise_iff_getElem];intro i j hi hj hij;unfold srt at hi hj ⊢;by_cases h:n<2
 ·simp only[h,dG,dX]at hi hj;omega
 ·simp only[h,cj]at hi hj ⊢;have hs:=yd P (n:=n) (by exact aH [n] 81350941765271621 tt h);have hl:(cr lt (kas_sort n)).size=n:=by
   have:=hs.1.size_eq;simpa using this
  have hj':j<n:=by simpa[hl]using hj
  have q:=hs.2 i j (bJ hij) hj';simp only[pk,Array.getD_eq_getD_getElem?]at q;have hi2:i<(cr lt (kas_sort n)).size:=by simpa using hi
  have hj2:j<(cr lt (kas_sort n)).size:=by simpa using hj
  rw[mu hi2,mu hj2]at q;simpa using q
theorem oJ{l:List V}(P:t5 (my l)):(m0 l).Pairwise fun a b=>kL b a=false:=by
 unfold m0;rw[g8];refine(Jk P l.length).imp_of_mem fun hi hj h=>?_
 rwa [uf (yk hj P) (yk hi P)]at h
end
section
open PySem.W
noncomputable abbrev LL:=List (List Nat)
theorem z7(a b c:LL)(h1: ¬ b<a)(h2: ¬ c<b): ¬ c<a:=by
 rw[List.not_lt]at h1 h2 ⊢;exact List.le_trans h1 h2
theorem mJ(a b:LL)(h:a<b): ¬ b<a:=List.lt_asymm h
theorem jH(a:LL): ¬ a<a:=List.lt_irrefl a
noncomputable def cps(x:Str):List Nat:=x.cps.toList
theorem uj{x y:Str}:cps x=cps y↔x=y:=by
 constructor
 ·intro h;obtain⟨a⟩:=x;obtain⟨b⟩:=y;have:a=b:=by
   have h:a.toList=b.toList:=h;exact Array.toList_inj.mp h
  rw[this]
 ·intro h;rw[h]
theorem mL(x y:Str):bw (.str x) (.str y)=decide (x=y):=by
 rw[bw];by_cases h:x=y
 ·subst h;simp
 ·simp[h]
theorem pD:∀ (l m:List Str),n8 (l.map .str) (m.map .str)=decide ((l.map cps:LL)<m.map cps)
 | [],[]=>rfl
 | [],_::_=>rfl
 | _::_,[]=>rfl
 | x::l,y::m=>by
  simp only[aV,kG,V.py_str,mL,Jd]
  have ih:=pD l m;by_cases h:x=y
  ·subst h;simp[List.cons_lt_cons_iff,ih]
  ·have h':cps x≠cps y:=fun e=>h (uj.mp e);simp[List.cons_lt_cons_iff,h,cps];intro he;exact(h' (by simp[cps,he])).elim
theorem Eb(x y x' y':Str):kL (.tup [.str x, .str y]) (.tup [.str x', .str y'])=decide (([cps x,cps y]:LL) < [cps x',cps y']):=by
 refine C9.symm▸?_;exact pD [x,y] [x',y']
theorem sE{l:List V}(h:l≠ [])(i:Nat):l.getD i (l.headD .none)∈l:=by
 cases l with
 | nil=>exact(h rfl).elim
 | cons a l=>
  rw[cP]
  cases e:(a::l)[i]? with
  | none=>exact ah
  | some b=>exact aE e
theorem uP{l:List V}(k:V→LL)(h:∀ a∈l,∀ b∈l,kL a b=decide (k a<k b)):t5 (my l):=by
 by_cases hl:l= []
 ·subst hl;exact⟨fun _=>rfl,fun _ _ _ _ _=>rfl,fun _ _ _=>rfl⟩
 have g:∀ i j,my l i j=decide (k (l.getD i (l.headD .none))<k (l.getD j (l.headD .none))):=fun i j=>h _ (sE hl i) _ (sE hl j);refine⟨fun i=>?_,fun i j m h1 h2=>?_,fun i j h1=>?_⟩
 ·rw[g];exact bg (jH _)
 ·rw[g]at h1 h2 ⊢;exact bg (z7 _ _ _ (eC h1) (eC h2))
 ·rw[g]at h1 ⊢;exact bg (mJ _ _ (cp h1))
end
section
open PySem.W
theorem jm{α:Type}{R:α→α→Prop}{l:List α}:∀ {m:List α},l.Perm m→l.Pairwise R→m.Pairwise R→(∀ a∈l,∀ b∈l,R a b→R b a→a=b)→l=m:=by
 induction l with
 | nil=>exact fun p _ _ _=>AZ.nil_eq p
 | cons a l ih=>
  intro m p hl hm anti
  cases m with
  | nil=>exact p.eq_nil
  | cons b m=>
  have ab:a=b:=by
   have hb:b∈a::l:=p.mem_iff.mpr ah;have ha:a∈b::m:=p.mem_iff.mp ah;rcases aF.mp hb with e | hb'
   ·exact e.symm
   ·rcases aF.mp ha with e | ha'
    ·exact e
    ·exact anti a ah b hb ((e8.mp hl).1 b hb') ((e8.mp hm).1 a ha')
  subst ab;have p':=p.cons_inv;exact bc _ (ih p' (e8.mp hl).2 (e8.mp hm).2 fun x hx y hy=>anti x (ai _ hx) y (ai _ hy))
theorem mH{a b:LL}(h1: ¬ a<b)(h2: ¬ b<a):a=b:=by
 rw[List.not_lt]at h1 h2;exact List.le_antisymm h2 h1
theorem Jl{l m:List V}(k:V→LL)(hl:∀ a∈l,∀ b∈l,kL a b=decide (k a<k b))(inj:∀ a∈l,∀ b∈l,k a=k b→a=b)(p:l.Perm m):m0 l=m0 m:=by
 have hm:∀ a∈m,∀ b∈m,kL a b=decide (k a<k b):=fun a ha b hb=>hl a (p.mem_iff.mpr ha) b (p.mem_iff.mpr hb);have Pl:=uP k hl;have Pm:=uP k hm;have sl:=mO Pl;have sm:=mO Pm;refine jm ((sl.trans p).trans sm.symm) (oJ Pl) (oJ Pm) fun a ha b hb h1 h2=>?_;have ha:=sl.mem_iff.mp ha;have hb:=sl.mem_iff.mp hb;rw[hl b hb a ha]at h1;rw[hl a ha b hb]at h2;exact inj a ha b hb (mH (eC h2) (eC h1))
theorem Dj{l:List V}(h:∀ a∈l,∃ i,a= .int i):t5 (my l):=by
 by_cases hl:l= []
 ·subst hl;exact⟨fun _=>rfl,fun _ _ _ _ _=>rfl,fun _ _ _=>rfl⟩
 have g:∀ i,∃ k,l.getD i (l.headD .none)= .int k:=fun i=>h _ (sE hl i);refine⟨fun i=>?_,fun i j m h1 h2=>?_,fun i j h1=>?_⟩
 ·obtain⟨x,hx⟩:=g i;unfold my;rw[hx,lT];simp
 ·obtain⟨x,hx⟩:=g i;obtain⟨y,hy⟩:=g j;obtain⟨z,hz⟩:=g m;unfold my at h1 h2 ⊢;rw[hx,hy,lT]at h1;rw[hy,hz,lT]at h2;rw[hx,hz,lT];simp only[dk]at h1 h2 ⊢;omega
 ·obtain⟨x,hx⟩:=g i;obtain⟨y,hy⟩:=g j;unfold my at h1 ⊢;rw[hx,hy,lT]at h1;rw[hx,hy,lT];simp only[bd,dk]at h1 ⊢;omega
end
section
open PySem.W
noncomputable abbrev vp(p:Str×Str):V:=.tup [.str p.1, .str p.2]
noncomputable def gb(p:Str×Str):LL:=[cps p.1,cps p.2]
noncomputable def Ga(v:V):Str×Str:=v.onT (fun l=>((l[0]?.getD V.none).onS (fun x=>x) "",(l[1]?.getD V.none).onS (fun x=>x) "")) ("","")
theorem Lg(p:Str×Str):Ga (vp p)=p:=rfl
theorem rE{p q:Str×Str}(h:gb p=gb q):p=q:=by
 simp only[gb,sU,and_true]at h;obtain⟨h1,h2⟩:=h;exact Prod.ext (uj.mp h1) (uj.mp h2)
theorem Bs(p q:Str×Str):kL (vp p) (vp q)=decide (gb p<gb q):=Eb _ _ _ _
theorem Bz{ps:List (Str×Str)}:∀ a∈ps.map vp,∀ b∈ps.map vp,kL a b=decide (gb (Ga a)<gb (Ga b)):=by
 intro a ha b hb;refine nn fun hG=>?_;obtain⟨p,_,hE1⟩:=ap.mp ha;refine hG ?_;clear hG;subst hE1;refine nn fun hG=>?_;obtain⟨q,_,hE1⟩:=ap.mp hb;refine hG ?_;clear hG;subst hE1;exact Bs p q
theorem yf(ps:List (Str×Str)):t5 (my (ps.map vp)):=uP (fun a=>gb (Ga a)) Bz
theorem t7(ps:List (Str×Str)):∃ qs:List (Str×Str),m0 (ps.map vp)=qs.map vp∧qs.Perm ps∧qs.Pairwise fun a b=> ¬ gb b<gb a:=by
 have P:=yf ps;have p:=mO P;have im:∀ a∈m0 (ps.map vp),vp (Ga a)=a:=fun a ha=>by
  refine nn fun hG=>?_;obtain⟨q,_,hE1⟩:=ap.mp (p.mem_iff.mp ha);refine hG ?_;clear hG;subst hE1
  rfl
 refine⟨(m0 (ps.map vp)).map Ga,?_,?_,?_⟩
 ·rw[a9]
  symm
  refine(bV fun a ha=>?_).trans (List.map_id _);exact im a ha
 ·have:=p.map Ga;rw[a9]at this;simpa[Function.comp_def,Lg]using this
 ·rw[g8];refine(oJ P).imp_of_mem fun{a b} ha hb h=>?_;have ha:=p.mem_iff.mp ha;have hb:=p.mem_iff.mp hb;rw[Bz _ hb _ ha]at h;exact eC h
end
section
open PySem.W
theorem xW(p q:Str×Str):bw (vp p).py (vp q).py=decide (p=q):=by
 simp only[vp,V.py_tup,V.pys_cons,V.pys_nil,V.py_str,bw,d9,Bool.and_true]
 rw[show (p.1 == q.1)=decide (p.1=q.1) from by rw[← mL];rw[bw],show (p.2 == q.2)=decide (p.2=q.2) from by rw[← mL];rw[bw]];by_cases h:p=q
 ·subst h;simp
 ·have h': ¬ (p.1=q.1∧p.2=q.2):=fun e=>h (Prod.ext e.1 e.2);rw[bg h];simpa using fun e=>fun e2=>h' ⟨e,e2⟩
theorem qJ:∀ ps qs:List (Str×Str),d9 (V.pys (ps.map vp)) (V.pys (qs.map vp))=decide (ps=qs)
 | [],[]=>rfl
 | [],_::_=>rfl
 | _::_,[]=>rfl
 | p::ps,q::qs=>by
  have ih:=qJ ps qs;simp only[aV,V.pys_cons,d9]
  rw[ih,xW];by_cases h1:p=q
  ·by_cases h2:ps=qs
   ·rw[aP h1,aP h2,aP (by rw[h1,h2])];rfl
   ·rw[bg h2,Bool.and_false,bg (fun e=>h2 (dN e).2)]
  ·rw[bg h1,Bool.false_and,bg (fun e=>h1 (dN e).1)]
theorem x4(p:Str×Str):∀ ps:List (Str×Str),((V.pys (ps.map vp)).any fun y=>bw y (vp p).py)=decide (p∈ps)
 | []=>rfl
 | q::ps=>by
  have ih:=x4 p ps;simp only[aV,V.pys_cons,List.any_cons]
  rw[ih,xW];by_cases h1:q=p
  ·subst h1;simp
  ·have h2: ¬ p=q:=fun e=>h1 e.symm;simp[h1,h2]
theorem Ei{ps qs:List (Str×Str)}(p:ps.Perm qs):m0 (ps.map vp)=m0 (qs.map vp):=
 Jl (fun a=>gb (Ga a)) Bz (fun a ha b hb h=>by
  refine nn fun hG=>?_;obtain⟨x,_,hE1⟩:=ap.mp ha;refine hG ?_;clear hG;subst hE1;refine nn fun hG=>?_;obtain⟨y,_,hE1⟩:=ap.mp hb;refine hG ?_;clear hG;subst hE1;have:x=y:=rE h;rw[this]) (p.map vp)
end
section
theorem ti{a b c:LL}(h1:a<b)(h2:b<c):a<c:=by
 refine eY fun h3=>?_;have h4: ¬ c<a:=z7 a b c (mJ a b h1) (mJ b c h2);have:=mH h3 h4;subst this;exact mJ _ _ h1 h2
theorem k9{α:Type}(l:List α)(a:Nat):∀ n,((aG n).map (a + ·)).filterMap (l[·]?)=(l.drop a).take n
 | 0=>by simp
 | n+1=>by
  rw[po,cC,pL,k9 l a n,bT];congr 1;simp only[aV,jz,eK,List.filterMap_nil,List.getElem?_drop]
  cases l[a+n]?<;>rfl
theorem xY{a n:Nat}(h:a≤n):max (0:Int) (min (a:Int) n)=a:=by
 rw[Int.min_eq_left (CU.mpr h),Int.max_eq_right (bI a)]
theorem pick_from{α:Type}(l:List α){a:Nat}(h:a≤l.length):gJ l (some (a:Int)) none none=l.drop a:=by
 have e:fg (some (a:Int)) none none l.length=((a:Int),(l.length:Int),1):=by
  simp only[fg]
  have h1: ¬ (a:Int)<0:=yS.mpr (bI a);have h2:=xY h;simp[h1,h2]
 unfold gJ;rw[e,sP,k9,gx (by simp)]
theorem Dk{α:Type}(l:List α){b:Nat}(h:b≤l.length):gJ l none (some (b:Int)) none=l.take b:=by
 have e:fg none (some (b:Int)) none l.length=(((0:Nat):Int),(b:Int),1):=by
  simp only[fg]
  have h1: ¬ (b:Int)<0:=yS.mpr (bI b);have h2:=xY h;simp[h1,h2]
 unfold gJ;refine e.symm▸?_;show ((sliceRange ((0:Nat):Int) (b:Int) 1).filterMap _)=_;rw[sP,k9];simp
theorem sj:∀ (l m:List Str),wu (l.map .str) (m.map .str)=n8 (m.map .str) (l.map .str)
 | [],[]=>rfl
 | [],_::_=>rfl
 | _::_,[]=>rfl
 | x::l,y::m=>by
  have ih:=sj l m;simp only[aV,wW,kG]
  refine ih.symm▸?_;simp only[V.py_str,mL]
  by_cases h:x=y
  ·subst h;simp
  ·have h': ¬ y=x:=fun e=>h e.symm;simp only[h,h',qV,aW,cj]
   rfl
theorem Le(p q:Str×Str):pO (vp p) (vp q)=decide (gb q<gb p):=by
 have h:=sj [p.1,p.2] [q.1,q.2];have:pO (vp p) (vp q)=kL (vp q) (vp p):=by
  exact h
 rw[this,Bs]
noncomputable abbrev PL:=List (Str×Str)
noncomputable def wN(X:PL):Prop:=X.Pairwise fun a b=>gb a<gb b
structure lJ(X Y:PL)(i j:Nat)(Mi Un:PL):Prop where
 hi:i≤X.length
 hj:j≤Y.length
 mi:Mi=(X.take i).filter fun p=>!decide (p∈Y)
 un:Un=(Y.take j).filter fun p=>!decide (p∈X)
 xy:∀ x∈X.take i,∀ y∈Y.drop j,gb x<gb y
 yx:∀ y∈Y.take j,∀ x∈X.drop i,gb y<gb x
section
variable{X Y Mi Un:PL}{i j:Nat}{e a:Str×Str}
theorem nj{l:PL}{i:Nat}{e:Str×Str}(h:l[i]?=some e):l.drop i=e::l.drop (i+1):=by
 obtain⟨hl,rfl⟩:=aX.mp h;exact fk hl
theorem pA{l:PL}{i:Nat}{e:Str×Str}(h:l[i]?=some e):l.take (i+1)=l.take i++ [e]:=by
 rw[bT,h];rfl
theorem BC{l:PL}{i:Nat}{e:Str×Str}(h:l[i]?=some e):i<l.length:=(aX.mp h).1
theorem rD{l:PL}{i:Nat}{e:Str×Str}(s:wN l)(h:l[i]?=some e):∀ y∈l.drop (i+1),gb e<gb y:=by
 have s':=s.sublist (tM i l);rw[nj h]at s';exact(e8.mp s').1
theorem uN{l:PL}{i:Nat}{e x:Str×Str}(s:wN l)(h:l[i]?=some e)(hx:l[i+1]?=some x):x≠e:=fun q=>by
 have:=rD s h x (by rw[nj hx];exact ah);rw[q]at this;exact jH _ this
theorem lJ.start:lJ X Y 0 0 [] []:=⟨bi _,bi _,rfl,rfl,(fun x h=>nomatch h),(fun x h=>nomatch h)⟩
theorem lJ.sym(s:lJ X Y i j Mi Un):lJ Y X j i Un Mi:=⟨s.hj,s.hi,s.un,s.mi,s.yx,s.xy⟩
theorem EO{l:PL}{i:Nat}{x:Str×Str}(h:x∈l):x∈l.take i∨x∈l.drop i:=by
 rw[← d7 i l]at h;exact aw.mp h
theorem lJ.lt(s:lJ X Y i j Mi Un)(hY:wN Y)(he:X[i]?=some e)(ha:Y[j]?=some a)(h:gb e<gb a):lJ X Y (i+1) j (Mi++ [e]) Un:=by
 have all:∀ y∈Y.drop j,gb e<gb y:=fun y hy=>by
  rw[nj ha]at hy;rcases aF.mp hy with q | q
  ·rw[q];exact h
  ·exact ti h (rD hY ha y q)
 have hn:e∉Y:=fun hm=>by
  rcases EO (i:=j) hm with q | q
  ·exact jH _ (s.yx e q e (by rw[nj he];exact ah))
  ·exact jH _ (all e q)
 refine⟨BC he,s.hj,?_,s.un,fun x hx y hy=>?_,fun y hy x hx=>s.yx y hy x ?_⟩
 ·rw[pA he,md,← s.mi];simp[hn]
 ·rw[pA he]at hx;rcases aw.mp hx with q | q
  ·exact s.xy x q y hy
  ·rw[ao.mp q];exact all y hy
 ·rw[nj he];exact ai _ hx
theorem lJ.gt(s:lJ X Y i j Mi Un)(hX:wN X)(he:X[i]?=some e)(ha:Y[j]?=some a)(h:gb a<gb e):lJ X Y i (j+1) Mi (Un++ [a]):=(s.sym.lt hX ha he h).sym
theorem lJ.eq(s:lJ X Y i j Mi Un)(hX:wN X)(hY:wN Y)(he:X[i]?=some e)(ha:Y[j]?=some e):lJ X Y (i+1) (j+1) Mi Un:=by
 have m1:e∈Y:=aE ha;have m2:e∈X:=aE he;refine⟨BC he,BC ha,?_,?_,fun x hx y hy=>?_,fun y hy x hx=>?_⟩
 ·rw[pA he,md,← s.mi];simp[m1]
 ·rw[pA ha,md,← s.un];simp[m2]
 ·rw[pA he]at hx;rcases aw.mp hx with q | q
  ·exact s.xy x q y (by rw[nj ha];exact ai _ hy)
  ·rw[ao.mp q];exact rD hY ha y hy
 ·rw[pA ha]at hy;rcases aw.mp hy with q | q
  ·exact s.yx y q x (by rw[nj he];exact ai _ hx)
  ·rw[ao.mp q];exact rD hX he x hx
theorem lJ.left(s:lJ X Y i j Mi Un)(h:i=X.length∨j=Y.length):Mi++X.drop i=X.filter fun p=>!decide (p∈Y):=by
 rcases h with h | h
 ·rw[s.mi,h];simp
 ·have e:(X.drop i).filter (fun p=>!decide (p∈Y))=X.drop i:=by
   rw[List.filter_eq_self];intro x hx;have:x∉Y:=fun hm=>by
    have q:=s.yx x (by rw[h,cY];exact hm) x hx;exact jH _ q
   simp[this]
  rw[s.mi,← e,← md,d7]
theorem lJ.right(s:lJ X Y i j Mi Un)(h:i=X.length∨j=Y.length):Un++Y.drop j=Y.filter fun p=>!decide (p∈X):=s.sym.left h.symm
end
noncomputable def gR(X Y:PL):PL:=X.filter fun p=>!decide (p∈Y)
end
section
theorem sy{c:Cx}{vals:List V}{H:Hp}{a b:List Stmt}{Q:QF}{EX:dK}{x:Bool}(e:x=true)(h:Ss c vals H a Q EX):K0 c a b Q EX x vals H:=e▸h
theorem sn{c:Cx}{vals:List V}{H:Hp}{a b:List Stmt}{Q:QF}{EX:dK}{x:Bool}(e:x=false)(h:Ss c vals H b Q EX):K0 c a b Q EX x vals H:=e▸h
theorem DY{b:Bool}{P Q:Prop}(e:b=false)(h:Q):if b=true then P else Q:=pn (fun q=>au (e.symm.trans q)) h
theorem Mm{b:Bool}{P Q:Prop}(e:b=true)(h:P):if b=true then P else Q:=py e h
noncomputable def j4(p:Str×Str):Prop:=bH p.1=true∧bH p.2=true
theorem gL{p:Str×Str}(h:j4 p)(n:Nat):V.data (n+1) (aB p)=true:=
 show (bH p.1 && (bH p.2 && true))=true from aO.mpr ⟨h.1,aO.mpr ⟨h.2,rfl⟩⟩
section
variable{c:Cx}{vals:List V}{H:Hp}{out:List Env}{cls:String}{K:Bool}{P:List V→Hp→Prop}
theorem oQ(ok:c.Ok)(F:tO c out){G H₀:Hp}{row k v:Str}{R:V}{X:PL}{n:Nat}{e:Str×Str}{p1 p2 p3 p4 p5 pos:Pos}{body:List Stmt}{Q:Fl→List V→Hp→Prop}
  (hR:At c.names vals row R)(nR:R≠ .unb)(rR:lS (G++H₀) R (X.map aB))(hk:At c.names vals k (.int n))(hv:At c.names vals v (aB e))(hn:n≤X.length)(hX:∀ x∈X,j4 x)(he:j4 e)(hs:X.length≤1000)
  (hne:∀ x,X[n]?=some x→x≠e)(hh:oF c.A G K)(ho:io out H₀)(q:n<X.length→Q .next vals (G++H₀))(p:n=X.length→P vals H₀):
  S1 c vals (G++H₀) (.While (.Compare (.Subscript (.Name row p1) (.Name k p2) p3) [.Eq] [.Name v p4] p5) body [] pos) Q (CW c.env.locals out "IndexError" K P):=by
 refine yu ok (Dl ok F) (fun _ vals' H'=>vals'=vals∧H'=G++H₀) 0 ⟨rfl,rfl⟩ fun m vals' H' hI N _=>?_;obtain⟨rfl,rfl⟩:=hI;refine bv rfl (dQ rfl (dL ok hR nR (dL ok hk (nu ff) ⟨k6 rR,?_⟩)));by_cases hl:n<X.length
 ·have hx:X[n]?=some X[n]:=aD hl;refine ud rR (by exact bI _) (x:=aB X[n]) (by exact m9 hx) (by exact d4 hs rfl) ?_;refine dL ok hv (nu ff) (uR ok (gL (hX _ (ix hl)) 7) (gL he 7) ⟨_,rfl,?_⟩);have e1:bw (aB X[n]).py (aB e).py=false:=by
   rw[show aB X[n]=vp X[n] from rfl,show aB e=vp e from rfl,xW];exact bg (hne _ hx)
  refine e1.symm▸?_;exact q hl
 ·have e1:n=X.length:=by exact aq (aH [n,ae X] 91202565463605313 tt hn) (aH [n,ae X] 73469641930833989 tt hl)
  exact sx ok rR (by exact bI _) (by simp only[an];omega) (by omega) hh ho (p e1)
end
section
variable{c:Cx}{vals:List V}{H H':Hp}{EX:dK}{Q:V→List V→Hp→Prop}
theorem iU(ok:c.Ok){a:Addr}{Mi:PL}{e:Str×Str}(p:du H a (.list (Mi.map aB)) (.list ((Mi++ [e]).map aB)) H')(hl:Mi.length≤1000)(q:Q .none vals H'):Tn c vals H [.ref a,aB e] (fun vs=>call (.builtin "list.append") vs) VR Q EX:=
 cl_append ok (mo:=.list (Mi.map aB)) (by simpa[bW.set]using p) (.list _) (by simp only[an,av];exact aH [ae Mi] 20769187474038953862770165694857281 tt hl) q
theorem vQ(ok:c.Ok){a D:Addr}{Mi Ne:PL}(p:du H a (.list (Mi.map aB)) (.list ((Mi++Ne).map aB)) H')(hl:Mi.length≤1000)(hl':Ne.length≤1000)(q:Q .none vals H'):Tn c vals H [.ref a, .lst D (Ne.map aB)] (fun vs=>call (.builtin "list.extend") vs) VR Q EX:=
 cl_extend ok (mo:=.list (Mi.map aB)) (by simpa[bW.set]using p) (.list _) (by simp only[an,av];exact aH [ae Mi,ae Ne] 98079714805330038830421235304872079582663436937144041537 tt hl hl') q
theorem vC{X:PL}{i:Nat}(h:i≤X.length):gJ (X.map aB) (some (i:Int)) none none=(X.drop i).map aB:=by
 rw[pick_from _ (by simpa using h),kr]
end
theorem Br(p q:Str×Str)(n:Nat):xM (n+1) (aB p) (aB q):=by
 have h:∀ {l m:List Str} {n:Nat},∀ a∈l.map V.str,∀ b∈m.map V.str,bw a.py b.py=false→xM n a b:=fun a ha b hb _=>by
  refine nn fun hG=>?_;obtain⟨x,_,hE1⟩:=ap.mp ha;refine hG ?_;clear hG;subst hE1;refine nn fun hG=>?_;obtain⟨y,_,hE1⟩:=ap.mp hb;refine hG ?_;clear hG;subst hE1;exact .str
 exact .tup (h (l:=[p.1,p.2]) (m:=[q.1,q.2]))
noncomputable def r8:Fd:=⟨2,28,27,2,["expected","actual","i","j","missing","unexpected","e","a"],["IndexError"],[.type "IndexError"],[]⟩
theorem JV:r8.chk=true:=by decide +kernel
theorem LC(pm:Value)(vs:List Value)(h:vs.length=r8.np):c8 (r8.fd pm) ⟨vs,[]⟩=pure ((r8.names.take r8.np).zip vs):=by
 refine nn fun hG=>?_;obtain⟨v,u,hE1⟩:=ww h;refine hG ?_;clear hG;subst hE1
 kernel_rfl
noncomputable def Ge(E A:V)(i j:Nat)(m u:Addr)(ve va:V):List V:=[E,A, .int i, .int j, .ref m, .ref u,ve,va]
noncomputable def qt(m u:Addr)(Mi Un:PL)(Fh:Hp):Hp:=(u, .list (Un.map aB))::(m, .list (Mi.map aB))::Fh
theorem Hq(E A:V)(X Y:PL)(hE:∀ H,lS H E (X.map aB))(hA:∀ H,lS H A (Y.map aB))(nE:E≠ .unb)(nA:A≠ .unb)(sX:wN X)(sY:wN Y)(oX:∀ x∈X,j4 x)(oY:∀ x∈Y,j4 x)(lX:X.length≤400)(lY:Y.length≤400):
  rB r8 0 [E,A] [] (fun b H'=>∃ m u,b= .tup [.lst m ((gR X Y).map aB), .lst u ((gR Y X).map aB)]):=by
 intro fx out Fh ok hh FR ho hsc hlv;refine T0.abs fun K hK=>?_;have z1:(X.map aB).length≤av:=by exact d4 lX rfl
 have z2:(Y.map aB).length≤av:=by exact d4 lY rfl
 have bnd:∀ {i j:Nat} {Mi Un:PL},lJ X Y i j Mi Un→Mi.length≤400∧Un.length≤400:=fun s=>by
  rw[s.mi,s.un];refine⟨aU (bN _ _) ?_,aU (bN _ _) ?_⟩<;>rw[bM]<;>first | exact aU (cw _ _) lX | exact aU (cw _ _) lY
 refine az (FS ok (bS ⟨_, .tail (.tail .head),_, .tail (.tail (.tail .head)),?_⟩));refine az (bB ok rfl (jk rfl ⟨by simp[av],fun m=>⟨_, .tail (.tail (.tail (.tail .head))),?_⟩⟩));refine az (bB ok rfl (jk rfl ⟨by simp[av],fun u=>⟨_, .tail (.tail (.tail (.tail (.tail .head)))),?_⟩⟩));have finish:∀ (i j:Nat) (ve va:V) (G:Hp) (l1 l2:PL),l1=gR X Y→l2=gR Y X→
   Ss (frame r8 fx) (Ge E A i j m u ve va) (G++qt m u l1 l2 Fh) [(gy 2).getLastD (.Pass nW)] K kx:=by
  intro i j ve va G l1 l2 e1 e2;have d1:∀ (G:Hp),lK (G++qt m u l1 l2 Fh) u (.list (l2.map aB)) (G++((m, .list (l1.map aB))::Fh)):=fun G=>by
   induction G with
   | nil=>exact .head
   | cons g G ih=>exact .tail ih
  have d2:∀ (G:Hp),lK (G++((m,bW.list (l1.map aB))::Fh)) m (.list (l1.map aB)) (G++Fh):=fun G=>by
   induction G with
   | nil=>exact .head
   | cons g G ih=>exact .tail ih
  refine T0.freeze ok (x:="unexpected") (d1 G) (.list u _) (.tail (.tail (.tail (.tail (.tail .head))))) (.tail (.tail (.tail (.tail (.tail .head))))) ?_;refine T0.freeze ok (x:="missing") (d2 G) (.list m _) (.tail (.tail (.tail (.tail .head)))) (.tail (.tail (.tail (.tail .head)))) ?_;refine az (ee (gq rfl (En ok 4 rfl rfl ff (En ok 5 rfl rfl ff ⟨by exact am tt,?_⟩))));exact hK ⟨_,G,[],rfl,rfl,rfl,m,u,by rw[e1,e2]⟩
 refine az (yu ok Do (fun n vals H=>∃ i j ve va Mi Un,n=X.length+Y.length-(i+j)∧vals=Ge E A i j m u ve va∧H=qt m u Mi Un Fh∧lJ X Y i j Mi Un) _
  ⟨0,0, .unb, .unb,[],[],rfl,rfl,rfl,lJ.start⟩ ?_)
 intro n vals H hI N hN;refine nn fun hG=>?_;obtain⟨i,j,ve,va,Mi,Un,hE1,hE2,hE3,sI⟩:=hI;refine hG ?_;clear hG;subst hE1;subst hE2;subst hE3;refine iL (fun _ _=>rfl) (Kb (nf ?_));let P:List V→Hp→Prop:=fun vals H=>∃ i j ve va Mi Un,vals=Ge E A i j m u ve va∧H=qt m u Mi Un Fh∧lJ X Y i j Mi Un∧(i=X.length∨j=Y.length)
 have outs:∀ Mi Un,io out (qt m u Mi Un Fh):=fun Mi Un=>ho.mono fun a o hm _=>ai _ (ai _ hm);have H0:oF (frame r8 fx).A [] false:=.inl hh;have H1:oF (frame r8 fx).A [] true:=.inl hh;refine az (GX (K:=false) (P:=P) ok FR F.isExc_IndexError F.notTuple_IndexError (by rw[dM];kernel_rfl) .head ?_ ?_)
 ·
  have at0:At r8.names (Ge E A i j m u ve va) "expected" E:=.head;refine az (bB ok rfl (dQ rfl (dL ok (.i 0 rfl rfl) nE (En ok 2 rfl rfl ff ⟨k6 (hE _),?_⟩))));by_cases hi:i<X.length
  case neg=>
   have ei:i=X.length:=aq sI.hi (iH hi);exact sx (G:=[]) ok (hE _) (by exact bI _) (by simp only[an];omega) (by omega) H0 (outs _ _) ⟨i,j,ve,va,Mi,Un,rfl,rfl,sI, .inl ei⟩
  have hx:X[i]?=some X[i]:=aD hi;generalize X[i]=e at hx;refine ud (hE _) (by exact bI _) (x:=aB e) (by exact m9 hx) z1 ⟨_, .tail (.tail (.tail (.tail (.tail (.tail .head))))),?_⟩;refine az (bB ok rfl (dQ rfl (dL ok (.i 1 rfl rfl) nA (En ok 3 rfl rfl ff ⟨k6 (hA _),?_⟩))));by_cases hj:j<Y.length
  case neg=>
   have ej:j=Y.length:=aq sI.hj (iH hj);exact sx (G:=[]) ok (hA _) (by exact bI _) (by simp only[an];omega) (by omega) H0 (outs _ _) ⟨i,j,_,va,Mi,Un,rfl,rfl,sI, .inr ej⟩
  have hy:Y[j]?=some Y[j]:=aD hj;generalize Y[j]=a at hy;refine ud (hA _) (by exact bI _) (x:=aB a) (by exact m9 hy) z2 ⟨_, .tail (.tail (.tail (.tail (.tail (.tail (.tail .head)))))),?_⟩;have oe:=oX e (aE hx);have oa:=oY a (aE hy);have bl:=bnd sI;refine az (j9 (bv rfl (En ok 6 rfl rfl ff (En ok 7 rfl rfl ff (GD ok (gL oe 7) (gL oa 7) (Br e a 3) ⟨_,rfl,?_⟩)))));refine(show kL (aB e) (aB a)=decide (gb e<gb a) from Bs e a).symm▸?_;by_cases hlt:gb e<gb a
  ·refine(aP hlt).symm▸?_;have s2:=sI.lt sY hx hy hlt;refine az (gd ok rfl (dp rfl rfl (by decide) rfl gV gU (En ok 4 rfl rfl ff ⟨⟨m,_, .inl ⟨rfl, .tail .head⟩⟩,En ok 6 rfl rfl ff ?_⟩)));refine iU ok (.tail .head) (by exact jy bl.1 rfl) ?_;refine az (uL ok (.tail (.tail .head)) (nu ff) (bS (rx ⟨_, .tail (.tail .head),?_⟩)));refine az (oQ (G:=[]) (H₀:=qt m u (Mi++ [e]) Un Fh) (n:=i+1) ok FR .head nE (hE _) (.tail (.tail .head)) (.tail (.tail (.tail (.tail (.tail (.tail .head)))))) s2.hi oX oe (by exact jy lX rfl) (fun x hx'=>uN sX hx hx') H0 (outs _ _) (fun _=>?_) fun q=>?_)
   ·exact bz (bz (bz (hN (by exact aH [ae X,ae Y,ae X+ae Y-(i+j),i,j,ae X+ae Y-(i+1+j)] 2297579055739011210244923196354546816287361007091777 tt (su ((ae X)+(ae Y)) (i+j)) (ag (aH [i,ae X,j,ae Y] 9408474950760641285909734715347173442 tt hi hj:((i+1)+j)≤((ae X)+(ae Y))))) ⟨i+1,j,_,_,_,_,rfl,rfl,rfl,s2⟩)))
   ·exact⟨i+1,j,_,_,_,_,rfl,rfl,s2, .inl q⟩
  refine(bg hlt).symm▸?_;refine az (j9 (bv rfl (En ok 6 rfl rfl ff (En ok 7 rfl rfl ff (GF ok (gL oe 7) (gL oa 7) (Br e a 3) ⟨_,rfl,?_⟩)))));refine(show pO (aB e) (aB a)=decide (gb a<gb e) from Le e a).symm▸?_;by_cases hgt:gb a<gb e
  ·refine(aP hgt).symm▸?_;have s2:=sI.gt sX hx hy hgt;refine az (gd ok rfl (dp rfl rfl (by decide) rfl gV gU (En ok 5 rfl rfl ff ⟨⟨u,_, .inl ⟨rfl, .head⟩⟩,En ok 7 rfl rfl ff ?_⟩)));refine iU ok .head (by exact jy bl.2 rfl) ?_;refine az (uL ok (.tail (.tail (.tail .head))) (nu ff) (bS (rx ⟨_, .tail (.tail (.tail .head)),?_⟩)));refine az (oQ (G:=[]) (H₀:=qt m u Mi (Un++ [a]) Fh) (n:=j+1) ok FR (.tail .head) nA (hA _) (.tail (.tail (.tail .head))) (.tail (.tail (.tail (.tail (.tail (.tail (.tail .head))))))) s2.hj oY oa (by exact jy lY rfl) (fun x hx'=>uN sY hy hx') H0 (outs _ _) (fun _=>?_) fun q=>?_)
   ·exact bz (bz (bz (bz (hN (by exact aH [ae X,ae Y,ae X+ae Y-(i+j),i,j,ae X+ae Y-(i+(j+1))] 2297579055739043919478996306966009894174050639413313 tt (su ((ae X)+(ae Y)) (i+j)) (ag (aH [i,ae X,j,ae Y] 9408609712990689144861796501191393346 tt hi hj:(i+(j+1))≤((ae X)+(ae Y))))) ⟨i,j+1,_,_,_,_,rfl,rfl,rfl,s2⟩))))
   ·exact⟨i,j+1,_,_,_,_,rfl,rfl,s2, .inr q⟩
  refine(bg hgt).symm▸?_;obtain rfl:e=a:=rE (mH hlt hgt);have s2:=sI.eq sX sY hx hy;refine az (uL ok (.tail (.tail .head)) (nu ff) (bS (rx ⟨_, .tail (.tail .head),?_⟩)));refine az (FQ (cls:="IndexError") (P:=fun vals H=>vals=Ge E A (i+1) j m u (aB e) (aB e)∧H=qt m u Mi Un Fh∧i+1=X.length) ok FR ?_ ?_)
  ·refine az (oQ (G:=[]) (H₀:=qt m u Mi Un Fh) (n:=i+1) ok FR .head nE (hE _) (.tail (.tail .head)) (.tail (.tail (.tail (.tail (.tail (.tail .head)))))) s2.hi oX oe (by exact jy lX rfl) (fun x hx'=>uN sX hx hx') H1 (outs _ _) (fun _=>?_) fun q=>⟨rfl,rfl,q⟩);refine bz ⟨rfl,?_⟩;refine az (uL ok (.tail (.tail (.tail .head))) (nu ff) (bS (rx ⟨_, .tail (.tail (.tail .head)),?_⟩)));refine az (oQ (G:=[]) (H₀:=qt m u Mi Un Fh) (n:=j+1) ok FR (.tail .head) nA (hA _) (.tail (.tail (.tail .head))) (.tail (.tail (.tail (.tail (.tail (.tail (.tail .head))))))) s2.hj oY oe (by exact jy lY rfl) (fun x hx'=>uN sY hy hx') H0 (outs _ _) (fun _=>?_) fun q=>?_)
   ·exact bz (bz (bz (bz (bz (hN (by exact aH [ae X,ae Y,ae X+ae Y-(i+j),i,j,ae X+ae Y-(i+1+(j+1))] 9410883812307123894728193752195576874351093980619341889 tt (su ((ae X)+(ae Y)) (i+j)) (ag (aH [i,ae X,j,ae Y] 38537665386712410663180007855545253888066 tt hi hj:((i+1)+(j+1))≤((ae X)+(ae Y))))) ⟨i+1,j+1,_,_,_,_,rfl,rfl,rfl,s2⟩)))))
   ·exact⟨i+1,j+1,_,_,_,_,rfl,rfl,s2, .inr q⟩
  ·intro x tb G vals₁ H₁ ho₁ hx₁ hI;refine nn fun hG=>?_;obtain⟨hE1,hE2,q₁⟩:=hI;refine hG ?_;clear hG;subst hE1;subst hE2;have okh:=ok.hd x;have Hh:oF ((frame r8 fx).hd x).A G false:=.inr ⟨rfl,x,_,tb,rfl,hx₁⟩;refine az (uL okh (.tail (.tail (.tail .head))) (nu ff) (bS (rx ⟨_, .tail (.tail (.tail .head)),?_⟩)));refine az (oQ (c:=(frame r8 fx).hd x) (G:=G) (H₀:=qt m u Mi Un Fh) (n:=j+1) okh (FR.hd x) (.tail .head) nA (hA _) (.tail (.tail (.tail .head))) (.tail (.tail (.tail (.tail (.tail (.tail (.tail .head))))))) s2.hj oY oe (by exact jy lY rfl) (fun x hx'=>uN sY hy hx') Hh (outs _ _) (fun _=>?_) fun q=>?_)
   ·exact bz ⟨rfl,rfl,rfl,i+1,j+1,_,_,_,_,rfl,rfl,s2, .inl q₁⟩
   ·exact⟨i+1,j+1,_,_,_,_,rfl,rfl,s2, .inr q⟩
 ·
  intro x G vals₁ H₁ ho₁ hI;refine nn fun hG=>?_;obtain⟨i,j,ve,va,Mi,Un,hE1,hE2,sI,hend⟩:=hI;refine hG ?_;clear hG;subst hE1;subst hE2;have okh:=ok.hd x;have bl:=bnd sI;have pm:du (G++qt m u Mi Un Fh) m (.list (Mi.map aB)) (.list ((Mi++X.drop i).map aB)) (G++qt m u (Mi++X.drop i) Un Fh):=du.right G (.tail .head);have pu:du (G++qt m u (Mi++X.drop i) Un Fh) u (.list (Un.map aB)) (.list ((Un++Y.drop j).map aB)) (G++qt m u (Mi++X.drop i) (Un++Y.drop j) Fh):=du.right G .head;have d1:(X.drop i).length≤1000:=by rw[eW];exact aH [ae X,ae X-i] 1329271162140146377113113929174695804993 tt lX (fL (ae X) i)
  have d2:(Y.drop j).length≤1000:=by rw[eW];exact aH [ae Y,ae Y-j] 1329271162140146377113113929174695804993 tt lY (fL (ae Y) j)
  refine az (gd okh rfl (dp rfl rfl (by decide) rfl t0 F.type_list_extend (En okh 4 rfl rfl ff ⟨⟨m,_, .inl ⟨rfl,pm.inH⟩⟩,?_⟩)));refine fe (dL okh (.i 0 rfl rfl) nE (En okh 2 rfl rfl ff ⟨_,rfl,k6 (hE _),mh (hE _) nofun z1 fun D=>?_⟩));refine(vC sI.hi).symm▸?_;refine vQ okh pm (by exact aH [ae Mi] 1237979938854941946140418900033 tt bl.1) d1 ?_;refine az (gd okh rfl (dp rfl rfl (by decide) rfl t0 F.type_list_extend (En okh 5 rfl rfl ff ⟨⟨u,_, .inl ⟨rfl,pu.inH⟩⟩,?_⟩)));refine fe (dL okh (.i 1 rfl rfl) nA (En okh 3 rfl rfl ff ⟨_,rfl,k6 (hA _),mh (hA _) nofun z2 fun D'=>?_⟩));refine(vC sI.hj).symm▸?_;refine vQ okh pu (by exact aH [ae Un] 1237979938854941946140418900033 tt bl.2) d2 ?_;refine az (DT ?_);exact finish i j ve va G _ _ (sI.left hend) (sI.right hend)
end
section
section
variable{prog:dt}{w:World}{A:Around}{s:Shared}
theorem Jp{l:Addr}{vs:List Value}{n:Nat}{x:Value}(ho:s.heap.get? l=some (ic vs n))(e:Nat→Bool)(he:∀ j,j<vs.length→SeqAt.EqAt A.in1 s (vs.getD j .none) x (e j))(hs:vs.length≤av){R:Result→Shared→Prop}
  (hj:∀ j,j<vs.length→e j=true→(∀ m,m<j→e m=false)→R (.ok (.ret .none)) { s with heap:=s.heap.update l (bR (·.eraseIdxIfInBounds j)) })
  (hn:(∀ m,m<vs.length→e m=false)→∀ (Q':lD→Shared→Prop),wpAny (model prog w) A.in1 (q6 "ValueError" "list.remove(x): x not in list" :Sem lD) Q' (fun e s'=>R (.error e) s') s):
  ∀ k (i:Nat),vs.length-i=k→(∀ m,m<i→e m=false)→cb (model prog w) A (.builtin "list.remove.loop" ⟨[.ref l,x,rawInt i],[]⟩) R s:=by
 intro k
 induction k with
 | zero=>
  intro i hk hlt;refine bE MeetsSeq.entry_remove_loop ?_;refine(a7 gW _).symm▸?_;show wpAny _ _ (eu (.ref l) >>= _) _ _ _;refine aa (fX ho rfl ?_);have hi:vs.toArray[((i:Nat):Int).toNat]?=none:=by simp;exact aH [vs.length-i,vs.length,i] 481579227468281326864400646211 tt hk (su vs.length i)
  refine hi.symm▸?_;exact aa (dT (hn (fun m hm=>hlt m (by exact aH [vs.length-i,m,vs.length,i] 602162674430320033090343333907372441667 tt hk hm (su vs.length i))) _))
 | succ k ih=>
  intro i hk hlt;have hil:i<vs.length:=by exact(dY vs.length i).elim (fun q0=>aH [vs.length-i,k,i,vs.length] 562026291358632387486149513219 tt hk (c9 (aH [vs.length,i] 91202565463605313 tt q0:vs.length≤i))) (fun q0=>aH [vs.length-i,k,i,vs.length] 2302138910021424815781921569116163 tt hk (ag (aH [i,vs.length] 91202565463605313 tt q0:i≤vs.length)))
  refine bE MeetsSeq.entry_remove_loop ?_;refine(a7 gW _).symm▸?_;show wpAny _ _ (eu (.ref l) >>= _) _ _ _;refine aa (fX ho rfl ?_);have hi:vs.toArray[((i:Nat):Int).toNat]?=some (vs.getD i .none):=by simp[hil]
  refine hi.symm▸?_;refine aa (he i hil prog w _ _ ?_)
  cases hb:e i with
  | true=>
   refine wy rfl ?_;refine aa (d0 ho rfl ?_ (by simpa using hs) (aU (MeetsSeq.size_erased _ _) (cQ (by simpa using hs))));exact af (by simpa using hj i hil hb hlt)
  | false=>
   refine wn au ?_;have hc:((i:Int)+1)=((i+1:Nat):Int):=by rfl
   refine hc.symm▸?_;refine af ⟨bY gW _,ih (i+1) (by exact aq (aH [vs.length-i,k,vs.length,i,vs.length-(i+1)] 29962300051440753849177220097102480687689685270595 tt hk (su vs.length i) (ag (aH [i,vs.length] 407053353393264263234 tt hil:(i+1)≤vs.length))) (aH [vs.length-i,k,vs.length,vs.length-(i+1),i] 41380281590957677829599854023345151876780174348291 tt hk (su vs.length (i+1)) (ag (aH [i,vs.length] 91202565463605314 tt hil:i≤vs.length)))) fun m hm=>?_⟩;by_cases q:m=i
   ·rw[q];exact hb
   ·exact hlt m (by exact sT (cR hm) q)
end
theorem xn{e:Str×Str}:∀ (l:PL) (j:Nat),l[j]?=some e→(∀ m,m<j→l[m]?≠some e)→l.erase e=l.eraseIdx j
 | [],j,h,_=>by simp at h
 | x::l,0,h,_=>by
  simp at h;subst h;simp
 | x::l,j+1,h,hno=>by
  have hx:x≠e:=fun q=>hno 0 (by exact cN _) (by simp[q]);rw[List.erase_cons_tail (by simpa using hx),List.eraseIdx_cons_succ,xn l j (by simpa using h) fun m hm=>by simpa using hno (m+1) (by exact aH [m,j] 9997287962707026710102082 tt hm)]
theorem dP.eraseIdx{h:Heap}{X:List Addr}{l:List V}{vs:List Value}(z:dP h X l vs)(j:Nat):dP h X (l.eraseIdx j) (vs.eraseIdx j):=by
 rw[fO,fO];exact(z.take j).append (z.drop (j+1))
theorem AH:ca "list.remove" =some .slot∨ca "list.remove" =some .method:=by trivial
theorem yA:lC "list.remove" =some ("list","remove"):=by decide +kernel
section
variable{c:Cx}{vals:List V}{H:Hp}{out:List Env}{K:Bool}{P:List V→Hp→Prop}{Q:V→List V→Hp→Prop}
theorem FB(ok:c.Ok)(hh:c.A.handled=none)(ho:io out H){a:Addr}{l:PL}{e:Str×Str}(hm:iK H a (.list (l.map aB)))(ol:∀ p∈l,j4 p)(oe:j4 e)(hl:l.length≤1000)
  {H':Hp}(pt:du H a (.list (l.map aB)) (.list ((l.erase e).map aB)) H')(q:e∈l→Q .none vals H')(p:e∉l→P vals H):Tn c vals H [.ref a,aB e] (fun vs=>call (.builtin "list.remove") vs) VR Q (CW c.env.locals out "ValueError" K P):=Tn.twoR fun s u r y=>by
 refine nn fun hG=>?_;obtain⟨vs,n,ha,zs⟩:=r.objs _ _ hm.mem;refine hG ?_;clear hG;have hle:=zs.length;rw[an]at hle;refine fK F.slot_list_remove.plain AH yA F.entry_list_remove (F.args_list_remove_2 _ _) (sC ha rfl) ?_;show wpAny _ _ (pure (lD.again (.builtin "list.remove.loop" ⟨[.ref a,u,rawInt 0],[]⟩))) _ _ _;refine af ⟨bY gW _,?_⟩;have hsz:vs.length≤av:=by exact xZ hl hle rfl
 refine Jp (A:=c.A) ha (fun j=>decide (l.getD j ("","")=e)) (fun j hj=>?_) hsz (fun j hj hb hlt=>?_) (fun hno Q'=>?_) _ 0 rfl (fun m hm=>absurd hm (jc _))
 ·have hlj:j<l.length:=by exact aH [ae l,vs.length,j] 79189732577883468139073539 tt hle hj
  have hlx:(l.map aB)[j]?=some (aB (l.getD j ("",""))):=by simp[hlj]
  refine nn fun hG=>?_;obtain⟨x,hx,zx⟩:=zs.get hlx;refine hG ?_;clear hG;rw[k3 hx];have hm':l.getD j ("","")∈l:=by
   rw[cP,aD hlj];exact ix hlj
  obtain⟨as,ra⟩:=zx.reads 8 (gL (ol _ hm') 7);obtain⟨bs,rb⟩:=y.reads 8 (gL oe 7);have la:=V.lay 8 _ (gL (ol _ hm') 7);have lb:=V.lay 8 _ (gL oe 7);have:=SeqAt.eqAt_reads _ _ c.A.in1 s x u as bs ra rb la.1 lb.1 (by
   have w1:=ok.units;have:=bC (aB (l.getD j ("",""))).py.depth (aB e).py.depth;rw[units_in1];simp only[cLine]
   exact aH [(aB (j5 l j (cE "",cE ""))).py.depth,c.A.units,min (aB (j5 l j (cE "",cE ""))).py.depth (aB e).py.depth] 1042595146082507439214481274137881263929983673880667618466849528741953 tt la.2 w1 this)
  rwa [show bw (aB (l.getD j ("",""))).py (aB e).py=decide (l.getD j ("","")=e) from xW _ _]at this
 ·have hlj:j<l.length:=by exact aH [ae l,vs.length,j] 79189732577883468139073539 tt hle hj
  have hg:∀ m,m<l.length→l[m]?=some (l.getD m ("","")):=fun m hm=>by simp[hm]
  have hb':l.getD j ("","")=e:=cp hb;have hje:l[j]?=some e:=by rw[hg j hlj,hb']
  have her:=xn l j hje fun m hm q=>by
   have:=hlt m hm;rw[hg m (by exact aH [ae l,vs.length,j,m] 85353846473552288435174207183130627 tt hle hj hm)]at q;simp only[hF.injEq]at q;rw[aP q]at this;cases this
  have z2:=zs.eraseIdx j;have hme:(l.map aB).eraseIdx j=(l.erase e).map aB:=by rw[her,fO,fO];simp
  rw[hme]at z2;obtain⟨r',S'⟩:=r.rowTurn (mo:=.list (l.map aB)) ok pt (.list _) ha (f:=(·.eraseIdxIfInBounds j)) (vs':=vs.eraseIdx j) (by simp) z2;exact a8.intro r' S' .none (q (aE hje))
 ·have hnot:e∉l:=fun q=>by
   refine nn fun hG=>?_;obtain⟨m,hm,hme⟩:=List.getElem_of_mem q;refine hG ?_;clear hG;have:=hno m (by exact sS hm hle);have h2:l.getD m ("","")=e:=by rw[cP,aD hm];exact hme
   rw[aP h2]at this;cases this
  exact wp_raise (K:=K) (A:=c.A.in1) (G:=[]) ok plainExc_ValueError r (show oF c.A.in1 [] K from .inl hh) fun s' G' e' cx R' S' x hK=>⟨vals,_,R',S',e',G',H,cx,rfl,rfl, .inl x,hK,ho,p hnot⟩
end
end
section
end
section
noncomputable def ky(es:Array (Int×Value))(ep:Nat)(t:pR):Obj:={ cls:=.type "set",data:=.set es ep t }
noncomputable def tE(led:Bool):pR:=.fresh 0 0 led
noncomputable def tF(led:Bool):pR:={ mask:=7,place:= #[1],dummies:= #[],finger:=0,led:=led,moves:=0,plain:=true }
noncomputable def wp:Array (Int×Value):= #[(1, .bool true)]
theorem Ic(led:Bool):layNew (tE led) #[] 1 (.bool true)=(wp,tF led,false,false):=by cases led<;>kernel_rfl
theorem hash_eq:Builtin.«int.__hash__» ⟨[.bool true],[]⟩=(do ret (← mkInt 1)):=by kernel_rfl
section
variable{prog:dt}{w:World}{A:Around}{E:Value→Shared→Prop}{s:Shared}
theorem Fk{Q:Int→Shared→Prop}(h:Q 1 { s with toks:=s.toks+1 }):wpAny (model prog w) A (pyHash (.bool true)) Q E s:=by
 have hT:s.TypeIs (.bool true) "bool" :=rfl;unfold pyHash;refine aa ?_;rw[cRoomFor,if_neg (by rw[show [FX true].any Value.onHeap=false from rfl];exact au)];refine af ?_;refine aa (dA hT pz.lookup ?_);show wpAny _ _ (if (some (Value.builtin "int.__hash__") == some bx)=true then _ else _) Q E s;rw[if_neg (by rw[beq_builtin_none];exact au)];refine aa (dA hT pz.lookup ?_);show wpAny _ _ (lP (.bool true) "__hash__" _ >>= _) Q E s;refine aa (wpAny_callSpecialIfBoundUnlessNone?_slot hT pz (co pz hT entry_int_hash ?_ (args_int_hash _)));rw[hash_eq];refine wpAny_ret_mkInt ?_;show wpAny _ _ (if (decide (-(2:Int)^63≤1) && decide ((1:Int)<2^63))=true then _ else _) Q E _;rw[if_pos (by decide)];exact af h
theorem tz{D:Addr}{o:Obj}{es:Array (Int×Value)}{ep:Nat}{t:pR}(ho:s.heap.get? D=some o)(hc:o.cls= .type "set")(hd:o.data= .set es ep t)(hf:t.fits es.size=true){Q:Value→Shared→Prop}
  (h:wpAny (model prog w) A.in1 (qU D (.bool true) 1) (fun _ s'=>Q .none s') E { s with toks:=s.toks+1 }):wpAny (model prog w) A (call (.builtin "set.add") [.ref D, .bool true]) Q E s:=by
 have hT:s.TypeIs (.ref D) "set" :=⟨_,ho,hc⟩
 refine co F.slot_set_add hT F.entry_set_add ?_ (F.args_set_add_2 _ _);unfold Builtin.«set.add» Builtin.Frozenset.oneOther;simp only[ut,bind_assoc]
 unfold Builtin.Frozenset.addrOf setAdd;refine aa (af ?_)
 try dsimp only
 refine aa (af ?_)
 try dsimp only
 refine aa ?_;refine aC ?_;refine aa (Fk ?_);refine aK h (fun _ s' q=>?_) fun _ _ q=>q;show wpAny _ _ (ret bx) _ _ _;exact af ⟨_,rfl,q⟩
theorem FM{D:Addr}{led:Bool}{sl:Array (Option Value)}(ho:s.heap.get? D=some { ky #[] 0 (tE led)with slots:=sl }){Q:Bool→Shared→Prop}(h:Q true { s with heap:=s.heap.update D (yR wp (tF led)) }):wpAny (model prog w) A (qU D (.bool true) 1) Q E s:=by
 unfold qU setAddHashedIn;refine aC (aa (dH ho rfl rfl ?_))
 dsimp only
 refine(show byScan (.bool true) #[]=true from by decide +kernel).symm▸?_;simp only[dG]
 unfold setAddByScan;refine aa (aa (dT (aa ?_)));show wpAny _ _ (pure ScanMet.absent) _ _ _;refine af ?_
 dsimp only
 rw[Ic]
 dsimp only
 refine aa (af ?_);refine(show (tF led).plain=true from rfl).symm▸?_;simp only[dG]
 refine aa (af ?_);simp only[dG]
 refine aa (wpAny_storeSet_of ho rfl ?_ (by exact cN _));refine(show (!false && (tF led).tooFull)=false from rfl).symm▸?_;simp only[aW,cj]
 exact af (af h)
theorem FN{D:Addr}{led:Bool}{ep:Nat}{sl:Array (Option Value)}(ho:s.heap.get? D=some { ky wp ep (tF led)with slots:=sl }){Q:Bool→Shared→Prop}(h:Q false s):wpAny (model prog w) A (qU D (.bool true) 1) Q E s:=by
 unfold qU setAddHashedIn;refine aC (aa (dH ho rfl rfl ?_))
 dsimp only
 refine(show byScan (.bool true) wp=true from by decide +kernel).symm▸?_;simp only[dG]
 unfold setAddByScan;refine aa (aa (dT (aa ?_)));show wpAny _ _ (setScanFrom D (.bool true) 1 true [(1, .bool true)] 0) _ _ _;unfold setScanFrom;rw[if_pos (by decide)];unfold setEpoch;refine aa (aa (dH ho rfl rfl (af ?_)));refine aa (SeqAt.EqAt.bool_bool true true prog w _ _ ?_);exact af (af (af h))
end
end
section
theorem iB:Slot "set_iterator" "__next__" "set_iterator.__next__" :=
 .of (owner:="set_iterator") (n:="__next__") (by rw[dB,cq];kernel_rfl) (by decide +kernel) (by decide +kernel) (by decide +kernel)
  (by first | exact .inl (by decide +kernel) | exact .inr (by decide +kernel)) (by rw[dM];kernel_rfl)
theorem o9:km table "set_iterator.__next__" =some Builtin.«set_iterator.__next__» :=i9 (by kernel_rfl)
theorem Ew:Manifest.owners.lookup (String.ofList ['r','o','t','a','r','e','t','i','_','t','e','s'].reverse)=some Manifest.sig_set_iterator:=by kernel_rfl
theorem qi(a:Value):argsOk "set_iterator.__next__" ⟨[a],[]⟩:=by
 unfold argsOk;rw[lG (id:="set_iterator.__next__") (n:=['_','_','t','x','e','n','_','_']) (o:=['r','o','t','a','r','e','t','i','_','t','e','s']) (by kernel_rfl) Ew];kernel_rfl
theorem v3:km table "set.__iter__" =some Builtin.«frozenset.__iter__» :=
 CQ (id':="frozenset.__iter__") (by kernel_rfl) rfl (by decide +kernel) (by kernel_rfl)
noncomputable def n9(D:Addr)(first i:Int)(ep:Nat):Obj:={ cls:=.type "set_iterator",data:=.fields #[rawInt first,rawInt i, .ref D,rawInt 1,rawInt ep] }
section
variable{prog:dt}{w:World}{A:Around}{E:Value→Shared→Prop}{s:Shared}
theorem pJ{Q:Bool→Shared→Prop}(h:Q (w.params.followText "set-order") s):wpAny (model prog w) A setsByText Q E s:=by
 refine wq (setsByText.eq_1 ..) ?_;exact aa (lw (af h))
theorem Ip{D:Addr}{led:Bool}{ep:Nat}(ho:s.heap.get? D=some (ky wp ep (tF led))){Q:Value→Shared→Prop}(h:Q (.ref s.heap.objs.size) { s with heap:=s.heap.push (n9 D 0 0 ep) }):wpAny (model prog w) A (pyIter (.ref D)) Q E s:=by
 have hT:s.TypeIs (.ref D) "set" :=⟨_,ho,rfl⟩
 refine wpAny_pyIter_slot hT yV (co yV hT v3 ?_ (F.args_set_iter_1 _));unfold Builtin.«frozenset.__iter__» Builtin.Frozenset.slot0 slotArgs;simp only[ut,Bool.not_true,aW,↓reduceIte,bind_assoc,dZ,fZ]
 unfold Builtin.Frozenset.addrOf Builtin.Frozenset.sizeOf setEntries setDrawn setEpoch;refine aa (af ?_)
 try dsimp only
 refine aa (af ?_)
 try dsimp only
 refine aa (aa (aa (dH ho rfl rfl (af (af ?_)))));refine aa (aa (dH ho rfl rfl (aa (pJ (af ?_)))));refine wn (by cases w.params.followText "set-order" <;>exact au) ?_;refine aa (af ?_);refine aa (aa (dH ho rfl rfl (af ?_)));refine aa ?_;show wpAny _ _ (newObj (.type "set_iterator") (.fields #[rawInt 0,rawInt 0, .ref D,rawInt 1,rawInt ep])) _ _ _;refine bj ?_ (by exact bm _ _);exact af ⟨_,rfl,"set_iterator",_,⟨_,aA _ rfl,rfl⟩,iB.lookup,h⟩
end
section
variable{c:Cx}{vals:List V}{H H':Hp}{s:Shared}{E:Value→Shared→Prop}
theorem HP{α:Type}(f:Nat→Nat)(x:α):pickOrder f #[x]= #[x]:=by
 show pickOrder.go f 1 0 [x] #[]=_;simp[pickOrder.go,Nat.mod_one]
theorem vo{M:Model}{prog:dt}{w:World}{A:Around}{D:Addr}{ep slot i:Nat}(hD:s.heap.get? D=some (ky wp ep (tF (!w.params.followText "set-order")))){Q:Option (Value×Nat)→Shared→Prop}
  (h:Q (if w.params.followText "set-order" =true then (wp[i]?).map fun e=>(e.2,slot)else match wp[n7 #[1] slot]?,(#[1]:Array Nat)[n7 #[1] slot]? with | some (_,x),some j=>some (x,j+1) | _,_=>none) s):
  wpAny (model prog w) A (setNext D slot i ep) Q E s:=by
 refine wq (setNext.eq_1 ..) ?_;refine aa (dH hD rfl rfl ?_)
 dsimp only
 refine aa (pJ ?_)
 cases hb:w.params.followText "set-order" with
 | true=>
  rw[hb]at h hD;simp only[dG]at h ⊢;refine wn (by simp) ?_;refine aa ?_;refine wq (setWalk.eq_1 ..) ?_;refine aa (dH hD rfl rfl ?_)
  dsimp only
  refine aa (pJ ?_);refine hb.symm▸?_;refine wy rfl ?_;refine aa (lw (af (af ?_)));rw[show wp= #[(1,FX true)] from rfl,HP];exact h
 | false=>
  rw[hb]at h hD;simp only[aW,cj]at h ⊢;refine wn (by exact au) ?_;refine aa ?_;show wpAny _ _ (pure ()) _ _ _;exact af (af h)
theorem Jo(ok:c.Ok){D it:Addr}{ep:Nat}{n:Int}(hne:D≠it){o:Obj}(hD:s.heap.get? D=some o)(R:Rel c vals ((it, .raw (n9 D 0 0 ep))::H) s){A:Around}{Q:Unit→Shared→Prop}
  (k:∀ s',s'.heap.get? D=some o→Rel c vals ((it, .raw (n9 D n 1 ep))::H) s'→aN s.heap (c.Z ((it, .raw (n9 D 0 0 ep))::H)) s'.heap (c.Z ((it, .raw (n9 D n 1 ep))::H))→Q () s'):wpAny c.M A (do nG (.ref it) 0 (rawInt n);nG (.ref it) 1 (rawInt 1)) Q E s:=by
 obtain⟨sl,gi⟩:=R.rawAt .head;obtain⟨R₁,S₁⟩:=R.rawSet (o:=n9 D 0 0 ep) (H':=(it, .raw (n9 D n 0 ep))::H) ok (f:=(·.setIfInBounds 0 (rawInt n))) rfl .head;refine aa (eI gi rfl (by show 0<5;decide) ?_);obtain⟨sl',gi'⟩:=R₁.rawAt .head;obtain⟨R₂,S₂⟩:=R₁.rawSet (o:=n9 D n 0 ep) (H':=(it, .raw (n9 D n 1 ep))::H) ok (f:=(·.setIfInBounds 1 (rawInt 1))) rfl .head;refine eI gi' rfl (by show 1<5;decide) (k _ ?_ R₂ (S₁.trans S₂));exact(cT _ _ (gO hne)).trans ((cT _ _ (gO hne)).trans hD)
theorem EI(ok:c.Ok){A:Around}{D it:Addr}{ep:Nat}(hD:s.heap.get? D=some (ky wp ep (tF (!c.w.params.followText "set-order"))))(hne:D≠it)(R:Rel c vals ((it, .raw (n9 D 0 0 ep))::H) s)
  {Q:Option Value→Shared→Prop}(k:∀ s' (n:Int),(c.w.params.followText "set-order" =false→n=2)→s'.heap.get? D=some (ky wp ep (tF (!c.w.params.followText "set-order")))→Rel c vals ((it, .raw (n9 D n 1 ep))::H) s'→aN s.heap (c.Z ((it, .raw (n9 D 0 0 ep))::H)) s'.heap (c.Z ((it, .raw (n9 D n 1 ep))::H))→Q (some (.bool true)) s'):wpAny c.M A (pyNext (.ref it)) Q E s:=by
 obtain⟨sl,gi⟩:=R.rawAt .head;have hT:s.TypeIs (.ref it) "set_iterator" :=⟨_,gi,rfl⟩
 refine wq (pyNext.eq_1 ..) ?_;refine aa (gg (cS (name:=cE "__next__") hT iB (co iB hT o9 ?_ (qi _))));show wpAny _ _ (fieldsOf (.ref it) >>= _) _ _ s;refine aa (wpAny_fieldsOf gi rfl ?_)
 dsimp only
 refine KN (setEntries.eq_1 ..) ?_;refine aa (aa (dH hD rfl rfl (af ?_)))
 dsimp only
 refine wn (by decide) ?_;show wpAny _ _ (setNext D 0 0 ep >>= _) _ _ _;refine aa (vo (M:=c.M) hD ?_);have fin:∀ (n:Nat) (E':Value→Shared→Prop),(c.w.params.followText "set-order" =false→n=2)→wpAny c.M A.in1 (do
   nG (.ref it) 0 (rawInt (n:Int))
   nG (.ref it) 1 (rawInt (0+1))
   ret (.bool true)) (fun fin s'=>∃ v,fin=lD.done (Flow.ret v)∧wpAny c.M A (pure (some v)) Q E s') E' s:=fun n E' hn=>by
  have e:(do nG (.ref it) 0 (rawInt (n:Int));nG (.ref it) 1 (rawInt (0+1));ret (.bool true):Sem lD)=((do nG (.ref it) 0 (rawInt (n:Int));nG (.ref it) 1 (rawInt 1)) >>= fun _=>ret (.bool true)):=by simp
  refine e.symm▸?_;exact aa (Jo ok hne hD R fun s' hD' R' S'=>af ⟨_,rfl,af (k s' n (fun q=>by rw[hn q];rfl) hD' R' S')⟩)
 cases hb:c.w.params.followText "set-order" with
 | true=>
  simp only[dG]
  exact fin 0 _ (fun q=>by rw[hb]at q;cases q)
 | false=>
  simp only[aW,cj]
  exact fin 2 _ (fun _=>rfl)
theorem EH(ok:c.Ok){A:Around}(hh:A.handled=none){D it:Addr}{ep:Nat}{n:Int}(hn:c.w.params.followText "set-order" =false→n=2)(hD:s.heap.get? D=some (ky wp ep (tF (!c.w.params.followText "set-order"))))(R:Rel c vals ((it, .raw (n9 D n 1 ep))::H) s)
  {Q:Option Value→Shared→Prop}(k:∀ s' o',Rel c vals ((it, .raw o')::H) s'→aN s.heap (c.Z ((it, .raw (n9 D n 1 ep))::H)) s'.heap (c.Z ((it, .raw o')::H))→Q none s'):wpAny c.M A (pyNext (.ref it)) Q E s:=by
 obtain⟨sl,gi⟩:=R.rawAt .head;have hT:s.TypeIs (.ref it) "set_iterator" :=⟨_,gi,rfl⟩
 refine wq (pyNext.eq_1 ..) ?_;refine aa (gg (cS (name:=cE "__next__") hT iB (co iB hT o9 ?_ (qi _))));show wpAny _ _ (fieldsOf (.ref it) >>= _) _ _ s;refine aa (wpAny_fieldsOf gi rfl ?_)
 dsimp only
 refine KN (setEntries.eq_1 ..) ?_;refine aa (aa (dH hD rfl rfl (af ?_)))
 dsimp only
 refine wn (by decide) ?_;show wpAny _ _ (setNext D n.toNat 1 ep >>= _) _ _ _;refine aa (vo (M:=c.M) hD ?_);have e:(if c.w.params.followText "set-order" =true then (wp[1]?).map fun e=>(e.2,n.toNat)else match wp[n7 #[1] n.toNat]?,(#[1]:Array Nat)[n7 #[1] n.toNat]? with | some (_,x),some j=>some (x,j+1) | _,_=>none)=none:=by
  cases hb:c.w.params.followText "set-order" with
  | true=>rfl
  | false=>rw[hn hb];rfl
 refine e.symm▸?_
 dsimp only
 obtain⟨R₁,S₁⟩:=R.rawSet (o:=n9 D n 1 ep) (H':=(it, .raw _)::H) ok (f:=(·.setIfInBounds 2 .none)) rfl .head;refine aa (eI gi rfl (by show 2<5;decide) ?_);refine aa ?_;simp only[newExc,kg]
 refine aa (bj ?_ (by exact am tt));refine aa (m:=gF _ _) (cI (a:=bx) (by first | rfl | (simp only[gF];rfl)) ?_);refine bj ?_ (by exact bm _ _);simp only[Kf]
 refine aa (uq ?_)
 first | rw[show A.in1.handled=none from hh] | rw[hh]
 refine aa (af (lM ?_));refine aa (gG (T:="StopIteration") (b:=true) ⟨_,aA _ rfl,rfl⟩ CP ?_);have kk:∀ (o1 o2:Obj) b o,(s.heap.update it (eU (·.setIfInBounds 2 .none))).get? b=some o→(((s.heap.update it (eU (·.setIfInBounds 2 .none))).push o1).push o2).get? b=some o:=fun o1 o2 b o e=>al _ (al _ e);exact af (k _ _ (R₁.keeps (s':={ s with heap:=((s.heap.update it (eU (·.setIfInBounds 2 .none))).push _).push _ }) (kk _ _) R₁.gens rfl) (S₁.trans (aN.keeps (kk _ _))))
theorem B3(ok:c.Ok)(hh:c.A.handled=none){D:Addr}{ep:Nat}(hD:s.heap.get? D=some (ky wp ep (tF (!c.w.params.followText "set-order"))))(R:Rel c vals H s)
  {Q:List Value→Shared→Prop}(k:∀ s',Rel c vals H s'→aN s.heap (c.Z H) s'.heap (c.Z H)→Q [.bool true] s'):wpAny c.M c.A (Kk (.ref D) 1 none) Q E s:=by
 have hT:s.TypeIs (.ref D) "set" :=⟨_,hD,rfl⟩
 refine wq (unpackItems.eq_1 ..) ?_;refine aa ?_;refine wq (notIterableAtAll.eq_1 ..) ?_;refine aa (dA hT yV.lookup (af ?_));refine wn au ?_;refine aa (aC (Ip hD ?_));obtain⟨R₁,S₁⟩:=R.layRaw (n9 D 0 0 ep) rfl;have hne:D≠s.heap.objs.size:=eQ (bu hD);refine aa (aC ?_);unfold draw;refine aa (EI ok (al _ hD) hne R₁ fun s₂ n hn hD₂ R₂ S₂=>?_)
 dsimp only
 refine aa (aC ?_);refine wq (draw.eq_1 ..) ?_;refine af (af ?_);simp only[aT,dZ]
 refine wn (by decide) ?_;refine aa (aC (EH ok hh hn hD₂ R₂ fun s₃ o' R₃ S₃=>?_));refine wn au ?_;obtain⟨R₄,S₄⟩:=R₃.drop (H':=H) (vals':=vals) (fun p hp=>.tail _ hp) (by
  have nd:=(aJ.mp R₃.nodup).2.1;simp only[haddrs,a0]at nd;exact(aJ.mp nd).2.1) (fun x a h=>.inr (.inl h))
 exact af (k s₃ R₄ (((S₁.trans S₂).trans S₃).trans S₄))
end
end
section
theorem yQ(elt target iter:Expr)(ifs:List Expr)(scope:Scope)(pos:Pos)(it acc:Value)(env:Env):
  sL (.SetComp elt [⟨target,iter,ifs,0⟩] scope pos) 0 it acc env=(do
   gw iter.pos
   match ← pyNext it with
   | none=>pure (.done .next)
   | some v=>
    fT target it v
    assign target env v
    let mut ok:=true
    for c in ifs do
     if ok then ok ← isTrue c env (eval c env)
    if ok then
     (do let v ← eval elt env;gw elt.pos;let _ ← call (.builtin "set.add") [acc,v])
    again (.compLoop (.SetComp elt [⟨target,iter,ifs,0⟩] scope pos) 0 it acc env)):=by rfl
theorem Eh{M:Model}{prog:dt}{w:World}{A:Around}{R:Result→Shared→Prop}{s:Shared}{elt target iter:Expr}{ifs:List Expr}{scope:Scope}{pos:Pos}{it acc:Value}{env:Env}
  (h0:cb (model prog w) A (.compLoop (.SetComp elt [⟨target,iter,ifs,0⟩] scope pos) 0 it acc env) R s)
  (h:wpAny (model prog w) A (pyIter it) (fun it' s'=>cb (model prog w) A (.compLoop (.SetComp elt [⟨target,iter,ifs,0⟩] scope pos) 0 it' acc env) R s') (Bc (model prog w) A env fun x s'=>R (.error x) s') s):
  cb (model prog w) A (.compStart (.SetComp elt [⟨target,iter,ifs,0⟩] scope pos) 0 it acc env) R s:=by
 refine jA ?_;show wpAny _ _ ((jR (.SetComp elt [⟨target,iter,ifs,0⟩] scope pos) 0 it acc env).onRaise (fun x=>do jQ x env;gw theWindowsPlace)) _ _ s;refine wpAny_notedAt ?_;refine wq (compStart.eq_1 ..) ?_;show wpAny _ _ (ask >>= _) _ _ s;refine aa (lw (wpAny_ite ?_))
 split
 ·first
   | exact aa (af (af (kn rfl h0)))
   | exact af (kn rfl h0)
 ·first
   | exact aa (dT (aa (be (aa (aK h (fun it' s' h'=>af (kn rfl h')) fun _ _ x=>x)))))
   | (refine aa (dT ?_);show wpAny _ _ (gw iter.pos >>= _) _ _ s;exact aa (be (aa (aK h (fun it' s' h'=>af (kn rfl h')) fun _ _ x=>x))))
noncomputable def wT(led:Bool)(h:Heap)(D:Addr):Nat→Prop
 | 0=>h.get? D=some (ky #[] 0 (tE led))
 | _+1=>∃ ep,h.get? D=some (ky wp ep (tF led))
theorem Di{D:Addr}{h:Heap}{led:Bool}(ho:h.get? D=some (ky #[] 0 (tE led))):∃ ep,(h.update D (yR wp (tF led))).get? D=some (ky wp ep (tF led)):=
 ⟨_,dE _ ho rfl⟩
section
variable{c:Cx}
inductive L7(c:Cx)(l:List V)(St:Nat→Heap→Prop)(led:Bool)(D:Addr)(n:Nat)(s':Shared):Prop
 | mk (i:Nat) (en:n=l.length+1-i) (hi:i≤l.length) (R:Rel c (gX c.names.length) [] s') (st:St i s'.heap) (g:wT led s'.heap D i)
theorem HB(ok:c.Ok){t iter elt:Expr}{scope:Scope}{pos:Pos}{l:List V}{led:Bool}{I D:Addr}{s:Shared}(h:x7 c l (ky #[] 0 (tE led)) I D s)
  (hb:∀ (i:Nat) (x:V),l[i]?=some x→CX c (gX c.names.length) [] t x (fun vals₂ H₂=>Ev c vals₂ H₂ elt (fun d _ _=>d= .bool true) kx) kx):
  cb c.M c.A (.compLoop (.SetComp elt [⟨t,iter,[],0⟩] scope pos) 0 (.ref I) (.ref D) c.env) (fun r s'=>r= .ok .next∧rM c D (fun h _ D=>wT led h D l.length) s') s:=by
 refine mM fun RR hR=>?_;refine nn fun hG=>?_;obtain⟨hW,hI,hD,hID,hIB,hDB,hI2,hD2,hIc,hDc,R,hd,fp,P,St,W,st,hfp,hP,hSt,hgo⟩:=h;refine hG ?_;clear hG;have tb:∀ x∈TB,x<265:=by decide
 have hIT:I∉TB:=fun z=>absurd hI2 (bU.mpr (tb I z));have hDT:D∉TB:=fun z=>absurd hD2 (bU.mpr (tb D z));have nope:∀ {H':Hp} {s'':Shared} {e:Value} {s₃:Shared} {X:Value→Shared→Prop},cF c H' s'' kx e s₃→X e s₃:=fun p=>(fI p).elim;have keepAt:∀ {h h':Heap} {m:Nat},wT led h D m→(∀ o,h.get? D=some o→h'.get? D=some o)→wT led h' D m:=fun{h h' m} x k=>by
  cases m with
  | zero=>exact k _ x
  | succ m=>obtain⟨ep,e⟩:=x;exact⟨ep,k _ e⟩
 refine C2 rfl (L7 c l St led D) ?_ (l.length+1)
  ⟨0,rfl,bi _,R,st,hd⟩
 intro n s' hI QQ EE qd qa;refine nn fun hG=>?_;obtain⟨i,hE1,hi,R',st',hD'⟩:=hI;refine hG ?_;clear hG;subst hE1;show wpAny _ c.A ((sL (.SetComp elt [⟨t,iter,[],0⟩] scope pos) 0 (.ref I) (.ref D) c.env).onRaise (fun x=>do jQ x c.env;q5 x)) _ _ s';refine yZ ?_;rw[yQ];refine aa (be (aa ?_));by_cases hlt:i<l.length
 ·refine W.item i s' _ _ hlt st' fun v h' tk hv st₁ hk=>?_;have k₁:∀ b o,b≠I→s'.heap.get? b=some o→h'.get? b=some o:=fun b o hb e=>hk b o (fun z=>hb (ao.mp z)) e;have R₁:Rel c (gX c.names.length) [] { s' with heap:=h',toks:=tk }:=R'.yturn (s':={ s' with heap:=h',toks:=tk }) ok hI hIc (.inl hIB) hI2 (hSt _ _ st₁) k₁ R'.gens rfl;refine nn fun hG=>?_;obtain⟨a,ha,za⟩:=hP i v { s' with heap:=h',toks:=tk } _ hv hlt R₁;refine hG ?_;clear hG;refine aa (hgo (i+1) _ t v _ _ st₁ ?_);refine aa (aK (hb i a ha _ v R₁ za) (fun _ s₂ p=>?_) fun _ _ p=>nope p);refine nn fun hG=>?_;obtain⟨_,vals₂,H₂,R₂,S₂,_,he⟩:=p;refine hG ?_;clear hG;refine aa (q4 ?_);refine wy rfl ?_;refine aa (aa (aK (he s₂ R₂) (fun x s₃ p=>?_) fun _ _ p=>nope p));refine nn fun hG=>?_;obtain⟨d,vals₃,H₃,R₃,S₃,zd,hE1⟩:=p;refine hG ?_;clear hG;subst hE1;cases zd.iBool;refine aa (be ?_);have zD:∀ o,h'.get? D=some o→s₃.heap.get? D=some o:=fun o e=>(aN.trans S₂ S₃ D o e (fun z=>by
   rcases aw.mp z with z | z
   ·exact hDT z
   ·exact R₁.apart D z hD)).1
  have hD₃:wT led s₃.heap D i:=keepAt (keepAt hD' fun o e=>k₁ D o (gO hID) e) zD;have zfr:St (i+1) s₃.heap:=W.frame _ _ _ st₁ fun b hb o e=>by
   rcases(hfp b hb).imp nC id with rfl | ⟨hT,o',e'⟩
   ·exact(aN.trans S₂ S₃ I o e (fun z=>by
     rcases aw.mp z with z | z
     ·exact hIT z
     ·exact R₁.apart I z hI)).1
   ·exact sr hW R₁ R₃ hT e' e
  obtain⟨R₄,S₄⟩:=R₃.forget
  cases i with
  | zero=>
   have hD₃:s₃.heap.get? D=some (ky #[] 0 (tE led)):=hD₃;refine aa (tz hD₃ rfl rfl rfl (FM (s:={ s₃ with toks:=s₃.toks+1 }) (sl:= #[]) hD₃ ?_));refine af (af (qa (l.length+1-1) _ (by exact c5 _) ⟨1,rfl,hlt,?_,?_,Di hD₃⟩))
   ·have k₆:∀ b o,b≠D→s₃.heap.get? b=some o→(s₃.heap.update D (yR wp (tF led))).get? b=some o:=fun b o hb e=>(cT _ _ (gO hb)).trans e;exact R₄.yturn (s':={ s₃ with heap:=s₃.heap.update D (yR wp (tF led)),toks:=s₃.toks+1 }) ok hD hDc (.inl hDB) hD2 (let ⟨ep,e⟩:=Di hD₃;⟨_,e⟩) k₆ R₄.gens rfl
   ·exact W.frame _ _ _ zfr fun b hb o e=>(cT _ _ (fun z:D=b=>by
     rcases(hfp b hb).imp nC id with rfl | ⟨_,o',e'⟩
     ·exact hID z.symm
     ·rw[← z,hDB]at e';cases e')).trans e
  | succ i=>
   obtain⟨ep,hD₃⟩:=hD₃;refine aa (tz hD₃ rfl rfl rfl (FN (s:={ s₃ with toks:=s₃.toks+1 }) (sl:= #[]) hD₃ ?_));exact af (af (qa (l.length+1-(i+1+1)) _ (by exact aH [l.length,l.length+1-(i+1),i,l.length+1-(i+1+1)] 1911742633240262094571671618297670946033502844354625 tt (su (l.length+1) (i+1)) (ag (aH [i,l.length] 167726668348057856102583574200386 tt hlt:((i+1)+1)≤(l.length+1)))) ⟨i+1+1,rfl,hlt,R₄.toks _,zfr,ep,hD₃⟩))
 ·have e:i=l.length:=by exact aq (aH [i,l.length] 91202565463605313 tt hi) (aH [i,l.length] 73469641930833989 tt hlt)
  subst e;refine W.done s' _ _ st' fun h' tk hk=>af (qd _ _ (hR ⟨rfl,?_⟩));have k':∀ b o,b≠I→s'.heap.get? b=some o→h'.get? b=some o:=fun b o hb e=>hk b o (fun z=>hb (ao.mp z)) e;have hne:∀ x,x∈c.own++haddrs []→x≠I:=fun x h e=>R'.apart x h (e▸hI);refine⟨fun b o e h2=>k' b o (fun z=>by rw[z,hIB]at e;cases e) (R'.keep b o e (by rw[hW];exact aZ) h2),R'.tabs.of fun x o hx e=>k' x o (fun z=>hIT (z▸hx)) e,R'.gens,R'.os,keepAt hD' fun o e=>k' D o (gO hID) e,?_⟩;obtain⟨mm,nn⟩:=R'.loc;exact⟨mm,nn.at' fun o e=>k' _ o (hne _ (aj _ ok.loc)) e⟩
end
section
variable{c:Cx}{vals:List V}{H:Hp}{EX:dK}
theorem AX(ok:c.Ok)(hh:c.A.handled=none)(p:Cp)(hp:p.chk=true)(hf:∀ x∈p.fn,x∈c.cn){x:Str}{p₁ p₂ p₃ pos:Pos}{k:Nat}{t iter elt:Expr}{Q:Fl→List V→Hp→Prop}(hs:m7 iter=true)
  (h:Ev c vals H iter (fun a vals₁ H₁=>∃ l fr,zK c vals₁ H₁ a l∧l≠ []∧D6 c vals₁ p fr∧
   (∀ env own Y B,(gc c p fr env own Y B).Ok→∀ (i:Nat) (x:V),l[i]?=some x→CX (gc c p fr env own Y B) (gX p.names.length) [] t x (fun vals₂ H₂=>Ev (gc c p fr env own Y B) vals₂ H₂ elt (fun d _ _=>d= .bool true) kx) kx)∧
   ∃ vals₂,pW c.names vals₁ x (.bool true) vals₂∧Q .next vals₂ H₁) EX):S1 c vals H (.Assign [.Tuple [.Name x p₁] k p₂] (.SetComp elt [⟨t,iter,[],0⟩] p.scope pos) p₃) Q EX:=by
 have hp:=Cp.ok hp;intro s r;refine Assign_Tuple ?_ rfl rfl;show wpAny c.M c.A (ph _ p.scope c.env _ (newSet (.type "set")) false (eval iter c.env)) _ _ s;refine gj (use:=none) rfl (i6 hs c.env) (mR ok hp hf) hp.kind (fun y hy e=>by rw[fu hp.nd hy,e]) ?_;refine bO (h s r) fun v s₁ a vals₁ H₁ r₁ S₁ z₁ hP=>?_;refine nn fun hG=>?_;obtain⟨l,fr,hit,hl,cap,hc,vals₂,pt,q⟩:=hP;refine hG ?_;clear hG;refine hit s₁ v r₁ z₁ _ _ fun I s₂ it=>?_;refine l6 (OP:=fun h _ D=>wT (!c.w.params.followText "set-order") h D l.length) (o₀:=ky #[] 0 (tE (!c.w.params.followText "set-order"))) ok hp rfl cap (fun h X D e=>?_) (fun A it acc env R s h0 h1=>Eh (M:=c.M) h0 h1) (fun env own Y B I D s ok' L=>HB ok' L (hc env own Y B ok')) r₁ it (fun hP=>?_) fun D C s' q'=>?_
 ·cases hl':l.length with
  | zero=>rw[hl']at e;exact⟨_,e⟩
  | succ m=>rw[hl']at e;obtain⟨ep,e⟩:=e;exact⟨_,e⟩
 ·refine wq (newSet.eq_1 ..) ?_;refine aa (pJ ?_)
  dsimp only
  simp only[newObj]
  exact aa (wpAny_alloc (af hP))
 ·refine nn fun hG=>?_;obtain⟨fC,hiC,⟨m,n⟩,R₂,S₂,hDX,hiD,⟨oD,gD⟩,fD,X',out,_⟩:=q';refine hG ?_;clear hG;refine⟨m,n,fun h' hs'=>?_⟩;have hCX:C∉c.X H₁:=fun z=>by obtain⟨o,e⟩:=r₁.there C z;exact fC o e
  have r₃:=r₁.letgo ok fC hiC R₂ hs' fun z=>hCX (aj _ z);have S₃:aN s.heap (c.Z H) h' (c.Z H₁):=S₁.trans fun b o e n=>⟨hs'.extBut b o (fun z=>fC o (z▸e)) (S₂ b o e n).1,n⟩
  have hDC:D≠C:=fun e=>hDX (cU.mpr (.inl e));obtain⟨ep,hD⟩:∃ ep,h'.get? D=some (ky wp ep (tF (!c.w.params.followText "set-order"))):=by
   cases hl':l.length with
   | zero=>exact(hl (nS.mp hl')).elim
   | succ m=>rw[hl']at out;obtain⟨ep,e⟩:=out;exact⟨ep,hs'.extBut D _ hDC e⟩
  show wpAny c.M c.A (assign (.Tuple [.Name x p₁] k p₂) c.env (.ref D)) _ _ _;rw[arm_assign_Tuple];refine aa (be ?_);refine wq (unpack.eq_1 ..) ?_;refine aa (aC ?_);show wpAny _ _ (Kk (.ref D) 1 none) _ _ _;refine B3 (s:={ s' with heap:=h' }) ok hh hD r₃ fun s₄ r₄ S₄=>?_;show wpAny _ _ (gh [assign (.Name x p₁) c.env] [.bool true]) _ _ _;refine wq (assignInOrder.eq_1 ..) ?_;refine aa (aC ?_);rw[mq];refine aa (be (iV ?_));refine aK (iA (EX:=EX) (Q:=fun _ vals' H'=>Q .next vals' H') ok (ok.sto _ pt.mem) pt r₄ (.bool true) q) (fun _ s₅ pp=>?_) fun _ _ e=>cF.stay (S₃.trans S₄) e;refine nn fun hG=>?_;obtain⟨_,vals₃,H₃,r₅,S₅,_,q₃⟩:=pp;refine hG ?_;clear hG;unfold gh;exact af (a8.intro r₅ ((S₃.trans S₄).trans S₅) .next q₃)
end
end
section
noncomputable abbrev CV(elt t1 i1 t2 i2:Expr)(scope:Scope)(pos:Pos):Expr:=.ListComp elt [⟨t1,i1,[],0⟩,⟨t2,i2,[],0⟩] scope pos
theorem v5(elt t1 i1 t2 i2:Expr)(scope:Scope)(pos:Pos)(it acc:Value)(env:Env):
  sL (CV elt t1 i1 t2 i2 scope pos) 0 it acc env=(do
   gw i1.pos
   match ← pyNext it with
   | none=>pure (.done .next)
   | some v=>
    fT t1 it v
    assign t1 env v
    let mut ok:=true
    for c in ([]:List Expr) do
     if ok then ok ← isTrue c env (eval c env)
    if ok then
     let x ← eval i2 env
     gw i2.pos
     let x ← foldedSetIterable i2 env x;let _ ← runOwn (.compStart (CV elt t1 i1 t2 i2 scope pos) 1 (← qQ [x] (pyIter x)) acc env) env
    again (.compLoop (CV elt t1 i1 t2 i2 scope pos) 0 it acc env)):=by rfl
theorem v6(elt t1 i1 t2 i2:Expr)(scope:Scope)(pos:Pos)(it acc:Value)(env:Env):
  sL (CV elt t1 i1 t2 i2 scope pos) 1 it acc env=(do
   gw i2.pos
   match ← pyNext it with
   | none=>pure (.done .next)
   | some v=>
    fT t2 it v
    assign t2 env v
    let mut ok:=true
    for c in ([]:List Expr) do
     if ok then ok ← isTrue c env (eval c env)
    if ok then
     (do let _ ← call (.builtin "list.append") [acc,← eval elt env])
    again (.compLoop (CV elt t1 i1 t2 i2 scope pos) 1 it acc env)):=by rfl
theorem Au{M:Model}{prog:dt}{w:World}{A:Around}{R:Result→Shared→Prop}{s:Shared}{elt t1 i1 t2 i2:Expr}{scope:Scope}{pos:Pos}{it acc:Value}{env:Env}
  (h0:cb (model prog w) A (.compLoop (CV elt t1 i1 t2 i2 scope pos) 1 it acc env) R s)
  (h:wpAny (model prog w) A (pyIter it) (fun it' s'=>cb (model prog w) A (.compLoop (CV elt t1 i1 t2 i2 scope pos) 1 it' acc env) R s') (Bc (model prog w) A env fun x s'=>R (.error x) s') s):
  cb (model prog w) A (.compStart (CV elt t1 i1 t2 i2 scope pos) 1 it acc env) R s:=by
 refine jA ?_;show wpAny _ _ ((jR (CV elt t1 i1 t2 i2 scope pos) 1 it acc env).onRaise (fun x=>do jQ x env;gw theWindowsPlace)) _ _ s;refine wpAny_notedAt ?_;refine wq (compStart.eq_1 ..) ?_;show wpAny _ _ (ask >>= _) _ _ s;refine aa (lw (wpAny_ite ?_))
 split
 ·first
   | exact aa (af (af (kn rfl h0)))
   | exact af (kn rfl h0)
 ·first
   | exact aa (dT (aa (be (aa (aK h (fun it' s' h'=>af (kn rfl h')) fun _ _ x=>x)))))
   | (refine aa (dT ?_);show wpAny _ _ (gw i2.pos >>= _) _ _ s;exact aa (be (aa (aK h (fun it' s' h'=>af (kn rfl h')) fun _ _ x=>x))))
noncomputable def Lc(ns:List Str)(vals' vals:List V):Prop:=∀ x a,At ns vals x a→a= .unb∨At ns vals' x a
section
variable{c:Cx}
theorem Rel.back{vals vals':List V}{H':Hp}{s:Shared}(R:Rel c vals' H' s)(f:Lc c.names vals' vals):Rel c vals [] s∧aN s.heap (c.Z H') s.heap (c.Z []):=
 R.drop (fun p h=>nomatch h) l8 fun x a h=>(f x a h).imp id .inl
inductive NP(c c2:Cx)(vals l2:List V)(St:Nat→Heap→Prop)(D:Addr)(s:Shared)(J:Nat→List V→Prop)(n:Nat)(s':Shared):Prop
 | mk (j:Nat) (o:List V) (ys:List Value) (m:Nat) (en:n=l2.length+1-j) (hj:j≤l2.length) (R:Rel c2 vals [] s') (st:St j s'.heap) (g:s'.heap.get? D=some (ic ys m)) (z:dP s'.heap (c2.X []) o ys) (hJ:J j o)
  (kp:∀ b ob,b≠D→b∉c.Z []→s.heap.get? b=some ob→s'.heap.get? b=some ob)
inductive NS(c:Cx)(vals l2:List V)(D:Addr)(s:Shared)(J:Nat→List V→Prop)(s':Shared):Prop
 | mk (out:List V) (ys:List Value) (m:Nat) (R:Rel c vals [] s') (g:s'.heap.get? D=some (ic ys m)) (z:dP s'.heap (c.X []) out ys) (hJ:J l2.length out) (kp:∀ b o,b≠D→b∉c.Z []→s.heap.get? b=some o→s'.heap.get? b=some o)
theorem Cy(ok:c.Ok){elt t1 i1 t2 i2:Expr}{scope:Scope}{pos:Pos}{l2:List V}{vals:List V}{I2 D:Addr}{s s₁:Shared}(R:Rel c vals [] s)(it:Itr c [] (c.X []) l2 I2 s s₁)(hD:D∈c.Y)(hDB:c.B.get? D=none)(hD2:265≤D)(hDc:∀ x,c.env.cells.lookup x≠some D)
  {out:List V}{ys:List Value}{m:Nat}(gD:s.heap.get? D=some (ic ys m))(zo:dP s.heap (c.X []) out ys){J:Nat→List V→Prop}(j0:J 0 out)(jl:∀ j o,J j o→o.length≤1000)
  (jt:∀ (y:Addr) (j:Nat) (x:V) (o:List V),l2[j]?=some x→J j o→CX (c.addY y) vals [] t2 x (fun vals₂ H₂=>Ev (c.addY y) vals₂ H₂ elt (fun d vals₃ _=>Lc c.names vals₃ vals∧J (j+1) (o++ [d])) kx) kx):
  cb c.M c.A (.compLoop (CV elt t1 i1 t2 i2 scope pos) 1 (.ref I2) (.ref D) c.env) (fun r s'=>r= .ok .next∧NS c vals l2 D s J s') s₁:=by
 refine mM fun RR hR=>?_;refine nn fun hG=>?_;obtain⟨fp,P,St,W,st0,hfp,hP,hSt,hgo⟩:=it.walk;refine hG ?_;clear hG;let c2:Cx:=c.addY I2;have ok2:c2.Ok:=ok.addY I2;have fr:=R.fresh it.fresh;have hI2c:∀ x,c.env.cells.lookup x≠some I2:=fun x e=>by
  refine nn fun hG=>?_;obtain⟨v,o,q,_⟩:=R.cel x I2 e;refine hG ?_;clear hG;exact it.fresh o q
 have hDI:D≠I2:=fun e=>it.fresh _ (e▸gD);have R₁:Rel c2 vals [] s₁:=R.addY it.fresh it.there it.keep (by rw[it.gens];exact R.gens) it.os;have tb:∀ x∈TB,x<265:=by decide
 have hZI:∀ {HH:Hp} {vv:List V} {ss:Shared},Rel c2 vv HH ss→I2∉c2.Z HH:=fun r z=>by
  rcases aw.mp z with z | z
  ·exact absurd it.hi (bU.mpr (tb I2 z))
  ·exact r.apart I2 z ah
 have hZD:∀ {HH:Hp} {vv:List V} {ss:Shared},Rel c2 vv HH ss→D∉c2.Z HH:=fun r z=>by
  rcases aw.mp z with z | z
  ·exact absurd hD2 (bU.mpr (tb D z))
  ·exact r.apart D z (ai _ hD)
 have zo₁:dP s₁.heap (c2.X []) out ys:=(zo.stay (wX it.fresh)).stay (aN.keeps it.keep);refine C2 rfl (NP c c2 vals l2 St D s J) ?_ (l2.length+1)
  ⟨0,out,ys,m,rfl,bi _,R₁,st0,it.keep _ _ gD,zo₁,j0,fun b ob _ _ e=>it.keep b ob e⟩
 intro n s' hI QQ EE qd qa;refine nn fun hG=>?_;obtain⟨j,o,ys,m,hE1,hj,R',st',gD',zo',hJ,kp⟩:=hI;refine hG ?_;clear hG;subst hE1;show wpAny _ c.A ((sL (CV elt t1 i1 t2 i2 scope pos) 1 (.ref I2) (.ref D) c.env).onRaise (fun x=>do jQ x c.env;q5 x)) _ _ s';have nope:∀ {c':Cx} {H':Hp} {s'':Shared} {e:Value} {s₃:Shared} {X:Value→Shared→Prop},cF c' H' s'' kx e s₃→X e s₃:=fun p=>(fI p).elim;refine yZ ?_;rw[v6];refine aa (be (aa ?_));by_cases hlt:j<l2.length
 ·refine W.item j s' _ _ hlt st' fun v h' tk hv st₁ hk=>?_;have k₁:∀ b ob,b≠I2→s'.heap.get? b=some ob→h'.get? b=some ob:=fun b ob hb e=>hk b ob (fun z=>hb (ao.mp z)) e;have R₂:Rel c2 vals [] { s' with heap:=h',toks:=tk }:=R'.yturn (s':={ s' with heap:=h',toks:=tk }) ok2 ah hI2c fr.2.1 it.hi (hSt _ _ st₁) k₁ R'.gens rfl;have S₂:aN s'.heap (c2.X []) h' (c2.X []):=fun b ob e nn=>⟨k₁ b ob (fun z=>nn (z▸cU.mpr (.inl rfl))) e,nn⟩
  refine nn fun hG=>?_;obtain⟨a,ha,za⟩:=hP j v hv hlt;refine hG ?_;clear hG;have za':VR h' (c2.X []) a v:=by
   refine za.stay ?_;intro b ob e nb;refine⟨k₁ b ob (fun z=>it.fresh ob (z▸e)) (kp b ob (fun z=>nb (z▸aj _ hD)) (fun z=>nb (ak _ z)) e),fun z=>?_⟩;rcases cU.mp z with z | z
   ·exact it.fresh ob (z▸e)
   ·exact nb z
  refine aa (hgo (j+1) _ t2 v _ _ st₁ ?_);refine aa (aK (jt I2 j a o ha hJ _ v R₂ za') (fun _ s₃ p=>?_) fun _ _ p=>nope p);refine nn fun hG=>?_;obtain⟨_,vals₃,H₃,R₃,S₃,_,he⟩:=p;refine hG ?_;clear hG;refine aa (q4 ?_);refine wy rfl ?_;refine aa (aa (aK (he s₃ R₃) (fun x s₄ p=>?_) fun _ _ p=>nope p));refine nn fun hG=>?_;obtain⟨d,vals₄,H₄,R₄,S₄,zd,hf,hJ'⟩:=p;refine hG ?_;clear hG;obtain⟨R₅,S₅⟩:=R₄.back hf;have SS:aN h' (c2.Z []) s₄.heap (c2.Z []):=(aN.trans S₃ S₄).trans S₅;have zD:s₄.heap.get? D=some (ic ys m):=(SS D _ (k₁ D _ hDI gD') (hZD R₂)).1;have stt:St (j+1) s₄.heap:=W.frame _ _ _ st₁ fun b hb ob e=>by
   rcases(hfp b hb).imp nC id with rfl | ⟨hx,ob',e'⟩
   ·exact(SS I2 ob e (hZI R₂)).1
   ·refine(SS b ob e fun z=>hx ?_).1;exact ak _ z
  have zo₄:dP s₄.heap (c2.X []) (o++ [d]) (ys++ [x]):=((zo'.stay S₂).go SS).append (.cons (zd.go S₅) .nil);have hlen:=zo'.length;have hjl:=jl j o hJ;refine aa (wpAny_list_append_plain (l:=D) (items:=ys.toArray) ⟨m,zD⟩ (fun h₆ pl hs₆=>af (af ?_)) ?_)
  ·obtain⟨m',hp'⟩:=pl;have k₆:∀ b ob,b≠D→s₄.heap.get? b=some ob→h₆.get? b=some ob:=fun b ob hb e=>hs₆.extBut b ob hb e;have R₆:Rel c2 vals [] { s₄ with heap:=h₆ }:=R₅.yturn (s':={ s₄ with heap:=h₆ }) ok2 (ai _ hD) hDc (.inl hDB) hD2 ⟨_,hp'⟩ k₆ R₅.gens rfl;have S₆:aN s₄.heap (c2.X []) h₆ (c2.X []):=fun b ob e nn=>⟨k₆ b ob (fun z=>nn (z▸aj _ (ai _ hD))) e,nn⟩
   refine qa (l2.length+1-(j+1)) _ (by exact aH [l2.length,l2.length+1-j,j,l2.length+1-(j+1)] 113948740556255670302628585462872472740167745 tt (su (l2.length+1) j) (ag (aH [j,l2.length] 9997287962706957990625346 tt hlt:(j+1)≤(l2.length+1)))) ⟨j+1,o++ [d],ys++ [x],m',rfl,hlt,R₆,?_,by simpa using hp',zo₄.stay S₆,hJ',fun b ob hb nb e=>?_⟩
   ·exact W.frame _ _ _ stt fun b hb ob e=>k₆ b ob (fun z=>by
     rcases(hfp b hb).imp nC id with rfl | ⟨hx,_⟩
     ·exact hDI z.symm
     ·exact hx (z▸aj _ hD)) e
   ·have hbI:b≠I2:=fun z=>it.fresh ob (z▸e);exact k₆ b ob hb (SS b ob (k₁ b ob hbI (kp b ob hb nb e)) nb).1
  ·rw[aI,← hlen];simp only[av];exact jy hjl rfl
 ·have e:j=l2.length:=by exact aq (aH [j,l2.length] 91202565463605313 tt hj) (aH [j,l2.length] 73469641930833989 tt hlt)
  subst e;refine W.done s' _ _ st' fun h' tk hk=>af (qd _ _ (hR ⟨rfl,?_⟩));have k':∀ b ob,b≠I2→s'.heap.get? b=some ob→h'.get? b=some ob:=fun b ob hb e=>hk b ob (fun z=>hb (ao.mp z)) e;have R₂:Rel c vals [] { s' with heap:=h',toks:=tk }:=R'.ygone (s':={ s' with heap:=h',toks:=tk }) ok hI2c fr.2.1 (fun z=>fr.1 (aj _ z)) it.hi k' R'.gens rfl;refine⟨o,ys,m,R₂,k' D _ hDI gD',zo'.stay fun b ob e nb=>⟨k' b ob (fun z=>nb (cU.mpr (.inl z))) e,fun z=>nb (cU.mpr (.inr z))⟩,hJ,fun b ob hb nb e=>?_⟩;exact k' b ob (fun z=>it.fresh ob (z▸e)) (kp b ob hb nb e)
end
end
section
noncomputable def G1(c:Cx)(t1 t2 i2 elt:Expr)(l:List V)(Q:List V→Prop):Prop:=
 ∃ J:Nat→List V→Prop,J 0 []∧(∀ i o,J i o→o.length≤1000)∧
  (∀ (i:Nat) (x:V) (out:List V),l[i]?=some x→J i out→CX c (gX c.names.length) [] t1 x (fun vals₂ H₂=>H₂= []∧Ev c vals₂ [] i2 (fun a vals₃ H₃=>H₃= []∧∃ l2,Bn c vals₃ [] a l2∧∃ J2:Nat→List V→Prop,J2 0 out∧(∀ j o,J2 j o→o.length≤1000)∧
   (∀ (y:Addr) (j:Nat) (x:V) (o:List V),l2[j]?=some x→J2 j o→CX (c.addY y) vals₃ [] t2 x (fun vals₄ H₄=>Ev (c.addY y) vals₄ H₄ elt (fun d vals₅ _=>Lc c.names vals₅ vals₃∧J2 (j+1) (o++ [d])) kx) kx)∧
   ∀ o,J2 l2.length o→J (i+1) o) kx) kx)∧
  ∀ out,J l.length out→Q out
section
variable{c:Cx}
inductive NQ(c:Cx)(l:List V)(St:Nat→Heap→Prop)(J:Nat→List V→Prop)(D:Addr)(n:Nat)(s':Shared):Prop
 | mk (i:Nat) (out:List V) (ys:List Value) (m:Nat) (en:n=l.length+1-i) (hi:i≤l.length) (R:Rel c (gX c.names.length) [] s') (st:St i s'.heap) (g:s'.heap.get? D=some (ic ys m)) (z:dP s'.heap (c.X []) out ys) (j:J i out)
theorem Cw(ok:c.Ok){elt t1 i1 t2 i2:Expr}(hs2:m7 i2=true){scope:Scope}{pos:Pos}{l:List V}{Q:List V→Prop}{I D:Addr}{s:Shared}(h:x7 c l (ic [] 0) I D s)(hc:G1 c t1 t2 i2 elt l Q):
  cb c.M c.A (.compLoop (CV elt t1 i1 t2 i2 scope pos) 0 (.ref I) (.ref D) c.env) (fun r s'=>r= .ok .next∧rM c D (uY Q) s') s:=by
 refine mM fun RR hR=>?_;refine nn fun hG=>?_;obtain⟨hW,hI,hD,hID,hIB,hDB,hI2,hD2,hIc,hDc,R,hd,fp,P,St,W,st,hfp,hP,hSt,hgo⟩:=h;refine hG ?_;clear hG;refine nn fun hG=>?_;obtain⟨J,j0,jl,jt,jn⟩:=hc;refine hG ?_;clear hG;have tb:∀ x∈TB,x<265:=by decide
 have hIT:I∉TB:=fun z=>absurd hI2 (bU.mpr (tb I z));have hDT:D∉TB:=fun z=>absurd hD2 (bU.mpr (tb D z));have nope:∀ {H':Hp} {s'':Shared} {e:Value} {s₃:Shared} {X:Value→Shared→Prop},cF c H' s'' kx e s₃→X e s₃:=fun p=>(fI p).elim;refine C2 rfl (NQ c l St J D) ?_ (l.length+1)
  ⟨0,[],[],0,rfl,bi _,R,st,hd, .nil,j0⟩
 intro n s' hI QQ EE qd qa;refine nn fun hG=>?_;obtain⟨i,out,ys,m,hE1,hi,R',st',gD,zo,hJ⟩:=hI;refine hG ?_;clear hG;subst hE1;show wpAny _ c.A ((sL (CV elt t1 i1 t2 i2 scope pos) 0 (.ref I) (.ref D) c.env).onRaise (fun x=>do jQ x c.env;q5 x)) _ _ s';refine yZ ?_;rw[v5];refine aa (be (aa ?_));by_cases hlt:i<l.length
 ·refine W.item i s' _ _ hlt st' fun v h' tk hv st₁ hk=>?_;have k₁:∀ b o,b≠I→s'.heap.get? b=some o→h'.get? b=some o:=fun b o hb e=>hk b o (fun z=>hb (ao.mp z)) e;have R₁:Rel c (gX c.names.length) [] { s' with heap:=h',toks:=tk }:=R'.yturn (s':={ s' with heap:=h',toks:=tk }) ok hI hIc (.inl hIB) hI2 (hSt _ _ st₁) k₁ R'.gens rfl;have S₁:aN s'.heap (c.X []) h' (c.X []):=fun b o e nn=>⟨k₁ b o (fun z=>nn (z▸aj _ hI)) e,nn⟩
  refine nn fun hG=>?_;obtain⟨a,ha,za⟩:=hP i v { s' with heap:=h',toks:=tk } _ hv hlt R₁;refine hG ?_;clear hG;refine aa (hgo (i+1) _ t1 v _ _ st₁ ?_);refine aa (aK (jt i a out ha hJ _ v R₁ za) (fun _ s₂ p=>?_) fun _ _ p=>nope p);refine nn fun hG=>?_;obtain⟨_,vals₂,H₂,R₂,S₂,_,hE1,he⟩:=p;refine hG ?_;clear hG;subst hE1;refine aa (q4 ?_);refine wy rfl ?_;refine aa (aK (he s₂ R₂) (fun x s₃ p=>?_) fun _ _ p=>nope p);refine nn fun hG=>?_;obtain⟨b,vals₃,H₃,R₃,S₃,zb,hE1,l2,hit,J2,j20,j2l,j2t,j2n⟩:=p;refine hG ?_;clear hG;subst hE1;refine aa (be ?_);rw[i6 hs2];refine aa (af (aa (aC (hit s₃ x R₃ zb _ _ fun I2 s₄ it2=>?_))));have SS:aN h' (c.Z []) s₃.heap (c.Z []):=S₂.trans S₃;have zD:s₃.heap.get? D=some (ic ys m):=(SS D _ (k₁ D _ (gO hID) gD) (fun z=>by
   rcases aw.mp z with z | z
   ·exact hDT z
   ·exact R₁.apart D z hD)).1
  have zo₃:dP s₃.heap (c.X []) out ys:=(zo.stay S₁).go SS;have stt:∀ {hh:Heap} {vv:List V} {ss:Shared},ss.heap=hh→Rel c vv [] ss→(∀ o,h'.get? I=some o→hh.get? I=some o)→St (i+1) hh:=fun{hh vv ss} es RR kI=>W.frame _ _ _ st₁ fun b hb o e=>by
   rcases(hfp b hb).imp nC id with rfl | ⟨hT,o',e'⟩
   ·exact kI o e
   ·exact es▸sr hW R₁ RR hT e' e
  have hIZ:I∉c.Z []:=fun z=>by
   rcases aw.mp z with z | z
   ·exact hIT z
   ·exact R₁.apart I z hI
  have inner:=Cy (elt:=elt) (t1:=t1) (i1:=i1) (i2:=i2) (scope:=scope) (pos:=pos) ok R₃ it2 hD hDB hD2 hDc zD zo₃ j20 j2l j2t;refine aa (IZ ?_);rw[Around.mark_none];refine nn fun hG=>?_;obtain⟨fp2,P2,St2,W2,st02,_⟩:=id it2.walk;refine hG ?_;clear hG;have inner':=fb inner (R':=fun r s₅=>match r with
   | .ok f=>wpAny c.M c.A (again (.compLoop (CV elt t1 i1 t2 i2 scope pos) 0 (.ref I) (.ref D) c.env)) QQ (Bc c.M c.A c.env EE) s₅
   | .error e=>False) fun r s₅ q=>?_
  ·refine fb (Au (M:=c.M) inner' (W2.self 0 _ _ _ st02 inner')) fun r s₅ q=>?_
   cases r with
   | ok f=>exact q
   | error e=>exact q.elim
  ·refine nn fun hG=>?_;obtain⟨hE1,out2,ys2,m2,R₅,gD₅,zo₅,hJ2,k₅⟩:=q;refine hG ?_;clear hG;subst hE1;obtain⟨R₆,S₆⟩:=R₅.forget;refine af (qa (l.length+1-(i+1)) _ (by exact aH [l.length,l.length+1-i,i,l.length+1-(i+1)] 113948740556255670302628585462872472740167745 tt (su (l.length+1) i) (ag (aH [i,l.length] 9997287962706957990625346 tt hlt:(i+1)≤(l.length+1)))) ⟨i+1,out2,ys2,m2,rfl,hlt,R₆,stt rfl R₆ fun o e=>?_,gD₅,zo₅.go S₆,j2n _ hJ2⟩);exact k₅ I o hID hIZ (SS I o e hIZ).1
 ·have e:i=l.length:=by exact aq (aH [i,l.length] 91202565463605313 tt hi) (aH [i,l.length] 73469641930833989 tt hlt)
  subst e;refine W.done s' _ _ st' fun h' tk hk=>af (qd _ _ (hR ⟨rfl,?_⟩));have k':∀ b o,b≠I→s'.heap.get? b=some o→h'.get? b=some o:=fun b o hb e=>hk b o (fun z=>hb (ao.mp z)) e;have hne:∀ x,x∈c.own++haddrs []→x≠I:=fun x h e=>R'.apart x h (e▸hI);refine⟨fun b o e h2=>k' b o (fun z=>by rw[z,hIB]at e;cases e) (R'.keep b o e (by rw[hW];exact aZ) h2),R'.tabs.of fun x o hx e=>k' x o (fun z=>hIT (z▸hx)) e,R'.gens,R'.os,⟨out,ys,m,k' D _ (gO hID) gD,zo.stay ?_,jn out hJ⟩,?_⟩
  ·exact fun b o e nn=>⟨k' b o (fun z=>nn (z▸aj _ hI)) e,nn⟩
  ·obtain⟨mm,nn⟩:=R'.loc;exact⟨mm,nn.at' fun o e=>k' _ o (hne _ (aj _ ok.loc)) e⟩
end
section
variable{c:Cx}{vals:List V}{H:Hp}{EX:dK}
theorem IV(ok:c.Ok)(p:Cp)(hp:p.chk=true)(hf:∀ x∈p.fn,x∈c.cn){t1 i1 t2 i2 elt:Expr}{pos:Pos}{Q:V→List V→Hp→Prop}(hs:m7 i1=true)(hs2:m7 i2=true)
  (h:Ev c vals H i1 (fun a vals₁ H₁=>∃ l fr,zK c vals₁ H₁ a l∧D6 c vals₁ p fr∧∀ env own Y B,(gc c p fr env own Y B).Ok→G1 (gc c p fr env own Y B) t1 t2 i2 elt l (fun out=>∀ D,Q (.lst D out) vals₁ H₁)) EX):
  Ev c vals H (.ListComp elt [⟨t1,i1,[],0⟩,⟨t2,i2,[],0⟩] p.scope pos) Q EX:=by
 have hp:=Cp.ok hp;intro s r;show wpAny c.M c.A (ph _ p.scope c.env _ (tG []) false (eval i1 c.env)) _ _ s;refine gj (use:=none) rfl (i6 hs c.env) (mR ok hp hf) hp.kind (fun y hy e=>by rw[fu hp.nd hy,e]) ?_;refine bO (h s r) fun v s₁ a vals₁ H₁ r₁ S₁ z₁ hP=>?_;refine nn fun hG=>?_;obtain⟨l,fr,hit,cap,hc⟩:=hP;refine hG ?_;clear hG;refine hit s₁ v r₁ z₁ _ _ fun I s₂ it=>?_;refine l6 (OP:=uY (fun out=>∀ D,Q (.lst D out) vals₁ H₁)) (o₀:=ic [] 0) ok hp rfl cap (fun h X D e=>by obtain⟨_,_,_,e,_⟩:=e;exact⟨_,e⟩) (fun A it acc env R s h0 h1=>qY h0 h1) (fun env own Y B I D s ok' L=>Cw ok' hs2 L (hc env own Y B ok')) r₁ it (fun hP=>bj hP) fun D C s' q'=>?_;refine nn fun hG=>?_;obtain⟨fC,hiC,⟨m,n⟩,R₂,S₂,hDX,hiD,_,fD,X',⟨out,ys,n',gD,zo,qc⟩,hX',_⟩:=q';refine hG ?_;clear hG;refine⟨m,n,fun h' hs'=>?_⟩;have hCX:C∉c.X H₁:=fun z=>by obtain⟨o,e⟩:=r₁.there C z;exact fC o e
 have z:VR s'.heap ((c.addY C).X H₁) (.lst D out) (.ref D):=.lst gD hDX (zo.stay fun b o e n=>⟨e,fun z=>n (hX' b z)⟩);refine a8.intro (r₁.letgo ok fC hiC R₂ hs' fun z=>hCX (aj _ z)) (S₁.trans fun b o e n=>⟨hs'.extBut b o (fun z=>fC o (z▸e)) (S₂ b o e n).1,n⟩) (z.stay fun b o e n=>⟨hs'.extBut b o (fun z=>n (cU.mpr (.inl z))) e,fun z=>n (cU.mpr (.inr z))⟩) (qc D)
end
end
section
section
variable{c:Cx}{vals:List V}{H:Hp}{s s':Shared}
theorem Rel.layT(ok:c.Ok)(R:Rel c vals H s){a:Addr}{l:List V}(hf:(∀ o,s.heap.get? a≠some o)∧265≤a)(k:∀ b o,b∉TB→s.heap.get? b=some o→s'.heap.get? b=some o)(tabs:iz s'.heap)(g:eL s'.gens)(os:s'.os=s.os)
  (m:MR s'.heap (c.X ((a, .list l)::H)) a (.list l)):Rel c vals ((a, .list l)::H) s'∧aN s.heap (c.Z H) s'.heap (c.Z ((a, .list l)::H)):=by
 obtain⟨R',SZ'⟩:=R.keepsT ok k tabs g os;have hZ:∀ {x},x∈c.Z ((a, .list l)::H)↔x∈c.Z H∨x=a:=by
  intro x;simp only[Cx.Z,haddrs,a0,bW.addrs,aw,ao]
  constructor
  ·rintro (h | h | h | h)<;>simp[h]
  ·rintro ((h | h | h) | h)<;>simp[h]
 have hX:∀ {x},x∈c.X ((a, .list l)::H)↔x∈c.X H∨x=a:=by
  intro x;simp only[Cx.X,aw,hZ]
  constructor
  ·rintro (h | h | h)<;>simp[h]
  ·rintro ((h | h) | h)<;>simp[h]
 have SZ:aN s.heap (c.Z H) s'.heap (c.Z ((a, .list l)::H)):=fun b o e n=>⟨(SZ' b o e n).1,fun z=>(hZ.mp z).elim n fun z=>hf.1 o (z▸e)⟩
 have S:=SZ.toX;have old:∀ x,x∈c.own++haddrs ((a, .list l)::H)→x∈c.own++haddrs H∨x=a:=by
  intro x h;simp only[haddrs,a0,bW.addrs,aw,ao]at h ⊢;rcases h with h | h | h<;>simp[h]
 have cel:=R.celTB;have loc:c.env.locals∉TB:=c4 ok R (aj _ ok.loc);have nX:a∉c.X H:=fun h=>by obtain⟨o,e⟩:=R.there a h;exact hf.1 o e
 refine⟨⟨?_,R'.loc,R'.cel,?_,?_,?_,?_,?_,R'.keep,R'.base,R'.tabs,R'.gens,R'.os,?_⟩,SZ⟩
 ·exact fun x b h=>(R.vars x b h).imp id fun hP=>by obtain⟨v,y,z⟩:=hP;exact⟨v,y.of (fun _ o e=>k _ o loc e) (fun q o hq e=>k _ o (cel x q hq) e),z.stay S⟩
 ·intro b ob h;rcases aF.mp h with e | h
  ·cases e;exact m
  ·exact(R.objs b ob h).of (fun y oy hb e=>k y oy (c4 ok R (ak _ (bP.mpr ⟨_,h,hb⟩))) e) S
 ·have nd:=R.nodup;have e:haddrs ((a, .list l)::H)=a::haddrs H:=by rfl
  rw[e];refine(List.perm_middle.nodup_iff).mpr (cg.mpr ⟨fun h=>nX (kP h),nd⟩)
 ·intro x h;rcases old x h with h | h
  ·exact R.apart x h
  ·exact fun z=>nX (h▸aj _ z)
 ·intro x h;rcases hX.mp h with h | h
  ·exact R'.there x h
  ·obtain⟨_,_,e,_⟩:=m;exact⟨_,h▸e⟩
 ·intro x h;rcases old x h with h | h
  ·exact R.new x h
  ·rw[h];exact(R.fresh hf.1).2.1
 ·intro x h;rcases old x h with h | h
  ·exact R.hi x h
  ·rw[h];exact hf.2
end
section
variable{c:Cx}{vals:List V}{H:Hp}{EX:dK}
theorem Aq(ok:c.Ok)(p:Cp)(hp:p.chk=true)(hf:∀ x∈p.fn,x∈c.cn){t iter elt:Expr}{ifs:List Expr}{pos:Pos}{Q:V→List V→Hp→Prop}(hs:m7 iter=true)
  (h:BJ c vals H p t iter elt ifs (fun out vals₁ H₁=>∀ D,Q (.ref D) vals₁ ((D, .list out)::H₁)) EX):Ev c vals H (.ListComp elt [⟨t,iter,ifs,0⟩] p.scope pos) Q EX:=by
 have hp:=Cp.ok hp;intro s r;show wpAny c.M c.A (ph _ p.scope c.env _ (tG []) false (eval iter c.env)) _ _ s;refine gj (use:=none) rfl (i6 hs c.env) (mR ok hp hf) hp.kind (fun y hy e=>by rw[fu hp.nd hy,e]) ?_;refine bO (h s r) fun v s₁ a vals₁ H₁ r₁ S₁ z₁ hP=>?_;refine nn fun hG=>?_;obtain⟨l,fr,hit,hl,cap,hc⟩:=hP;refine hG ?_;clear hG;refine hit s₁ v r₁ z₁ _ _ fun I s₂ it=>?_;refine l6 (OP:=uY (fun out=>∀ D,Q (.ref D) vals₁ ((D, .list out)::H₁))) (o₀:=ic [] 0) ok hp rfl cap (fun h X D e=>by obtain⟨_,_,_,e,_⟩:=e;exact⟨_,e⟩) (fun A it acc env R s h0 h1=>qY h0 h1) (fun env own Y B I D s ok' L=>vM ok' (hc env own Y B ok') hl L) r₁ it (fun hP=>bj hP) fun D C s' q'=>?_;refine nn fun hG=>?_;obtain⟨fC,hiC,⟨m,n⟩,R₂,S₂,hDX,hiD,_,fD,X',⟨out,ys,n',gD,zo,qc⟩,hX',kT,hDX'⟩:=q';refine hG ?_;clear hG;refine⟨m,n,fun h' hs'=>?_⟩;have hDC:D≠C:=fun e=>hDX (cU.mpr (.inl e));have hk:∀ b o,b≠C→s'.heap.get? b=some o→h'.get? b=some o:=fun b o hb e=>hs'.extBut b o hb e;have hCT:C∉TB:=fun z=>by
  have q:∀ x∈TB,x<265:=by decide
  exact absurd hiC (bU.mpr (q C z))
 have kT':∀ b o,b∉TB→s₁.heap.get? b=some o→h'.get? b=some o:=fun b o hb e=>hk b o (fun z=>fC o (z▸e)) (kT b o hb e);have hCX:C∉c.X H₁:=fun z=>by obtain⟨o,e⟩:=r₁.there C z;exact fC o e
 have r₃:=r₁.letgo ok fC hiC R₂ hs' fun z=>hCX (aj _ z);have hX2:∀ y,y∈c.X ((D, .list out)::H₁)→y∈X':=fun y hy=>by
  have:y=D∨y∈c.X H₁:=by
   simp only[Cx.X,Cx.Z,haddrs,a0,bW.addrs,aw,ao]at hy ⊢;rcases hy with h | h | h | h | h<;>simp[h]
  rcases this with h | h
  ·rw[h];exact hDX'
  ·exact hX' y (cU.mpr (.inr h))
 have zo':dP h' (c.X ((D, .list out)::H₁)) out ys:=zo.stay fun b o e n=>⟨hk b o (fun z=>n (hX' b (cU.mpr (.inl z)))) e,fun z=>n (hX2 b z)⟩
 obtain⟨r₄,S₄⟩:=r₁.layT (s':={ s' with heap:=h' }) ok ⟨fD,hiD⟩ kT' r₃.tabs r₃.gens (r₃.os.trans r₁.os.symm) ⟨ys,n',hk D _ hDC gD,zo'⟩;exact a8.intro r₄ (S₁.trans S₄) (.ref D) (qc D)
end
end
section
noncomputable def Lh:Expr:=L4 ((Ld ((gy 3).getD 1 (.Pass nW))).getD 0 (.Pass nW))
noncomputable def on:PL→PL→PL→PL×PL
 | [],mi,ac=>(mi,ac)
 | e::r,mi,ac=>if e∈ac then on r mi (ac.erase e)else on r (mi++ [e]) ac
noncomputable def lI(l ac:PL):PL×PL:=on l.reverse [] ac
noncomputable def A8(p:Str×Str):Prop:=j4 p∧p.1.length≤1000∧p.2.length≤1000∧0<p.1.length
structure x5(x:Addr)(mk:PL→bW):Prop where
 addrs:∀ l l',(mk l').addrs x=(mk l).addrs x
 tru:∀ {c:Cx} {vals:List V} {H:Hp} {EX:dK} {l:PL} {Q:Bool→List V→Hp→Prop},c.Ok→c.A.handled=none→c.lvl+2≤20→iK H x (mk l)→(∀ p∈l,A8 p)→l.length≤400→Q (!l.isEmpty) vals H→T1 c vals H (.ref x) truthy BR Q EX
 pop:∀ {c:Cx} {vals:List V} {H H':Hp} {EX:dK} {l:PL} {e:Str×Str} {Q:V→List V→Hp→Prop},c.Ok→c.A.handled=none→c.lvl+2≤20→At c.names vals "expected" (.ref x)→l.length≤400→du H x (mk (l++ [e])) (mk l) H'→Q (aB e) vals H'→Ev c vals H Lh Q EX
theorem vV:∀ {l:PL},(∀ p∈l,A8 p)→0≤dC l∧dC l≤2000*l.length∧(dC l != 0)=!l.isEmpty
 | [],_=>by simp[dC]
 | p::l,h=>by
  have ih:=vV fun q hq=>h q (ai _ hq);have hp:=h p ah;have e:dC (p::l)=((p.1.length+p.2.length:Nat):Int)+dC l:=by rfl
  refine nn fun hG=>?_;obtain⟨_,h1,h2,h3⟩:=hp;refine hG ?_;clear hG;rw[e];refine⟨by lia,by simp only[aT];omega,?_⟩;have:((p.1.length+p.2.length:Nat):Int)+dC l≠0:=by lia
  simpa using this
theorem B7(x d:Addr):x5 x (fun l=>.acc d (l.map aB)) where
 addrs _ _:=rfl
 tru {c vals H EX l Q} ok hh hl hm ho hn q:=by
  have h:=vV ho;refine Lj ok hh hl hm (fun p hp=>⟨(ho p hp).2.1,(ho p hp).2.2.1⟩) (by exact jy hn rfl) ⟨h.1,by have:=h.2.1;omega⟩ ?_;rw[h.2.2];exact q
 pop {c vals H H' EX l e Q} ok hh hl hx hn p q:=by
  refine jj vh (pl:=_) rfl rfl (dL ok hx (nu ff) ⟨x,d,_,rfl,p.inH,?_⟩);refine yr ok (by exact bJ hl) p.inH (by simp only[an,aR,d8,av];exact aH [ae l] 85070591929620338460759600862411620417 tt hn) (.inr ⟨l.map aB,aB e,H',by simp,p,q⟩)
theorem Aw(x:Addr):x5 x (fun l=>.list (l.map aB)) where
 addrs _ _:=rfl
 tru {c vals H EX l Q} ok hh hl hm ho hn q:=by
  refine Je hm (by exact d4 hn rfl) ?_;have:(l.map aB).isEmpty=l.isEmpty:=by cases l<;>rfl
  rw[this];exact q
 pop {c vals H H' EX l e Q} ok hh hl hx hn p q:=by
  refine dp rfl rfl (by decide) rfl F.slot_list_pop F.type_list_pop (dL ok hx (nu ff) ⟨⟨x,_, .inl ⟨rfl,p.inH⟩⟩,?_⟩);exact LS ok (mo:=.list ((l++ [e]).map aB)) (l:=l.map aB) p (by simpa using uB.list _) (by simp only[an,av];exact aH [ae l] 20769187474038953862769521449762881 tt hn) q
noncomputable def zw:Fd:=⟨3,35,34,2,["expected","actual","missing","item"],["ValueError"],[.type "ValueError"],[]⟩
theorem JT:zw.chk=true:=by decide +kernel
theorem LA(pm:Value)(vs:List Value)(h:vs.length=zw.np):c8 (zw.fd pm) ⟨vs,[]⟩=pure ((zw.names.take zw.np).zip vs):=by
 refine nn fun hG=>?_;obtain⟨v,u,hE1⟩:=ww h;refine hG ?_;clear hG;subst hE1
 kernel_rfl
theorem Jm{α:Type}(l:List α):l= []∨∃ l' e,l=l'++ [e]:=(List.eq_nil_or_concat l).imp id fun⟨a,b,h⟩=>⟨a,b,h.trans List.concat_eq_append⟩
theorem De{α:Type}{l:List α}{e:α}:l.length<(l++ [e]).length:=by rw[aR];exact c5 _
theorem Fs{l:PL}{e p:Str×Str}(h:p∈l.erase e):p∈l:=List.mem_of_mem_erase h
theorem Hn(x y:Addr)(mk:PL→bW)(pr:x5 x mk)(l₀ a₀:PL)(ol:∀ p∈l₀,A8 p)(oa:∀ p∈a₀,A8 p)(nl:l₀.length≤400)(na:a₀.length≤400):
  rB zw 2 [.ref x, .ref y] [(x,mk l₀),(y, .list (a₀.map aB))] (fun b H'=>∃ m,b= .tup [.lst m ((lI l₀ a₀).1.map aB), .ref y]∧H'= [(x,mk []),(y, .list ((lI l₀ a₀).2.map aB))]):=by
 intro fx out Fh ok hh FR ho hsc hlv;refine T0.abs fun K hK=>?_;refine az (bB ok rfl (jk rfl ⟨by simp[av],fun m=>⟨_, .tail (.tail .head),?_⟩⟩));let uV:V→List V:=fun vi=>[.ref x, .ref y, .ref m,vi]
 let uH:PL→PL→PL→Hp:=fun l mi ac=>(m, .list (mi.map aB))::(x,mk l)::(y, .list (ac.map aB))::Fh;have outs:∀ l mi ac,io out (uH l mi ac):=fun l mi ac=>ho.mono fun a o hm _=>ai _ (ai _ (ai _ hm));refine az (yu ok Do (fun n vals H=>∃ vi l mi ac G,n=l.length∧vals=uV vi∧H=G++uH l mi ac∧on l.reverse mi ac=lI l₀ a₀∧(∀ p∈l,A8 p)∧(∀ p∈ac,A8 p)∧l.length+mi.length≤400∧ac.length≤400) _
  ⟨.unb,l₀,[],a₀,[],rfl,rfl,rfl,rfl,ol,oa,by trivial,na⟩ ?_)
 intro n vals H hI N hN;refine nn fun hG=>?_;obtain⟨vi,l,mi,ac,G,hE1,hE2,hE3,inv,ol',oa',nl',na'⟩:=hI;refine hG ?_;clear hG;subst hE1;subst hE2;subst hE3;have lv2:fx.lvl+2≤20:=hlv;have mx:iK (G++uH l mi ac) x (mk l):=iK.right G (.tail .head);refine iL (fun _ _=>rfl) (En ok 0 rfl rfl ff (pr.tru ok hh lv2 mx ol' (by exact aU (cy _ _) nl') ?_));rcases Jm l with rfl | ⟨l',e,rfl⟩
 ·
  have inv:(mi,ac)=lI l₀ a₀:=inv;have dm:∀ (G:Hp),lK (G++uH [] mi ac) m (.list (mi.map aB)) (G++((x,mk [])::(y, .list (ac.map aB))::Fh)):=fun G=>by
   induction G with
   | nil=>exact .head
   | cons g G ih=>exact .tail ih
  refine T0.freeze ok (x:="missing") (dm G) (.list m _) (.tail (.tail .head)) (.tail (.tail .head)) ?_;refine az (ee (gq rfl (En ok 2 rfl rfl ff (En ok 1 rfl rfl ff ⟨by exact am tt,?_⟩))));refine hK ⟨_,G,[(x,mk []),(y, .list (ac.map aB))],rfl,rfl,?_,m,by rw[← inv],by rw[← inv]⟩;simp only[haddrs,a0,uu,pr.addrs l₀ []];rfl
 ·refine(show (l'++ [e]).isEmpty=false from by cases l'<;>rfl).symm▸?_;have px:du (G++uH (l'++ [e]) mi ac) x (mk (l'++ [e])) (mk l') (G++uH l' mi ac):=du.right G (.tail .head);have nl'':l'.length+1+mi.length≤400:=by simpa using nl'
  have oe:=ol' e (ak _ ah);refine az (bB ok rfl (pr.pop ok hh lv2 .head (by exact aH [l'.length,ae mi] 8308344377352567389384989695201509441 tt nl'') px ⟨_, .tail (.tail (.tail .head)),?_⟩));have inv':on (e::l'.reverse) mi ac=lI l₀ a₀:=by rw[← inv];simp
  refine az (GX (K:=false) (P:=fun vals H=>∃ G,vals=uV (aB e)∧H=G++uH l' mi ac∧e∉ac) ok FR F.isExc_ValueError F.notTuple_ValueError (by rw[dM];kernel_rfl) .head ?_ ?_)
  ·have ya:iK (G++uH l' mi ac) y (.list (ac.map aB)):=iK.right G (.tail (.tail .head));refine az (gd ok rfl (dp rfl rfl (by decide) rfl F.slot_list_remove F.type_list_remove (En ok 1 rfl rfl ff ⟨⟨y,_, .inl ⟨rfl,ya⟩⟩,En ok 3 rfl rfl ff ?_⟩)));have pt:du (G++uH l' mi ac) y (.list (ac.map aB)) (.list ((ac.erase e).map aB)) (G++uH l' mi (ac.erase e)):=du.right G (.tail (.tail .head));refine FB ok hh ((outs l' mi ac).mono fun a o hm _=>ak _ hm) ya (fun p hp=>(oa' p hp).1) oe.1 (by exact jy na' rfl) pt (fun hin=>?_) fun hno=>⟨G,rfl,rfl,hno⟩
   refine bz (bz (hN De ⟨_,l',mi,ac.erase e,G,rfl,rfl,rfl,?_,fun p hp=>ol' p (aj _ hp),fun p hp=>oa' p (Fs hp),by exact aH [l'.length,ae mi] 34031000292180981431021358305157205459009 tt nl'',aU (List.length_erase_le) na'⟩));rw[← inv',on,if_pos hin]
  ·intro z G' vals₁ H₁ ho₁ hI;refine nn fun hG=>?_;obtain⟨G,hE1,hE2,hno⟩:=hI;refine hG ?_;clear hG;subst hE1;subst hE2;have okh:=ok.hd z;have pm:du (G'++(G++uH l' mi ac)) m (.list (mi.map aB)) (.list ((mi++ [e]).map aB)) (G'++(G++uH l' (mi++ [e]) ac)):=du.right G' (du.right G .head);refine az (gd okh rfl (dp rfl rfl (by decide) rfl gV gU (En okh 2 rfl rfl ff ⟨⟨m,_, .inl ⟨rfl,pm.inH⟩⟩,En okh 3 rfl rfl ff ?_⟩)));refine iU okh pm (by exact aH [(l'++ [e]).length,ae mi] 5070767067489881496771431854243905 tt nl') (bz (bz (hN De ⟨_,l',mi++ [e],ac,G'++G,rfl,rfl,(fE G' G _).symm,?_,fun p hp=>ol' p (aj _ hp),oa',by simp;exact aH [l'.length,ae mi] 139393360503523099726888390070374622723833921 tt nl'',na'⟩)));rw[← inv',on,if_neg hno]
end
section
set_option linter.unusedSimpArgs false
open PySem.W PySem.SeqAt PySem.Builtin.Str
section
variable{c:Cx}{vals:List V}{H H':Hp}{EX:dK}{s:Shared}
inductive StarOf:V→List V→Prop
 | lst (a:Addr) (l:List V):StarOf (.lst a l) l
 | tup (l:List V):StarOf (.tup l) l
theorem rN{a:V}{l:List V}{v:Value}(h:StarOf a l)(z:VR s.heap (c.X H) a v){P:Bool→Shared→Prop}{E:Value→Shared→Prop}(q:P false s):wpAny c.M c.A (yT v) P E s:=by
 refine wq (notIterableAtAll.eq_1 ..) ?_
 cases h with
 | lst=>cases z.iLst with | mk e n zs=>exact aa (dA (s:=s) (T:="list") (show s.TypeIs (.ref _) "list" from ⟨_,e,rfl⟩) CO.lookup (af q))
 | tup=>cases z.iTup with | mk e n zs=>exact aa (dA (s:=s) (T:="tuple") (show s.TypeIs (.ref _) "tuple" from ⟨_,e,rfl⟩) PySem.F.slot_tuple_iter.lookup (af q))
theorem rO{a:V}{l:List V}{v:Value}(h:StarOf a l)(hl:l.length≤av)(r:Rel c vals H s)(z:VR s.heap (c.X H) a v){P:List Value→Shared→Prop}{E:Value→Shared→Prop}
  (k:∀ vs s',Rel c vals H s'→aN s.heap (c.Z H) s'.heap (c.Z H)→dP s'.heap (c.X H) l vs→P vs s'):wpAny c.M c.A (collect v) P E s:=by
 cases h with
 | lst=>
  cases z.iLst with
  | mk e n zs=>
   have hlen:=zs.length;exact wpAny_collect_seq _ (.inl rfl) e rfl rfl (fun h' kk=>k _ { s with heap:=h' } (r.keeps kk r.gens rfl) (aN.keeps kk) (by simpa using zs.go (aN.keeps (X:=c.Z H) kk))) (by rw[aI,← hlen];exact hl)
 | tup=>
  cases z.iTup with
  | mk e n zs=>
   have hlen:=zs.length;exact wpAny_collect_seq _ (.inr rfl) e rfl rfl (fun h' kk=>k _ { s with heap:=h' } (r.keeps kk r.gens rfl) (aN.keeps kk) (by simpa using zs.go (aN.keeps (X:=c.Z H) kk))) (by rw[aI,← hlen];exact hl)
inductive Ma(c:Cx)(a:Addr)(b:V)(Q:QV)(EX:dK)(b2:V)(vals:List V)(H:Hp):Prop
 | mk (l:List V) (o:StarOf b2 l) (n:l.length≤av) (h:Tn c vals H (b::l) (fun vs=>call (.ref a) vs) VR Q EX)
noncomputable abbrev MY(c:Cx)(a:Addr)(e2:Expr)(Q:QV)(EX:dK):QV:=fun b vals H=>Ev c vals H e2 (Ma c a b Q EX) EX
theorem IU{x:Str}{p ps pos:Pos}{e e2:Expr}{Q:V→List V→Hp→Prop}{i a k:Nat}(hi:ou.contains (i,a,k)=true)(he:eN e=true)(ok:c.Ok)(hg:At c.gn c.gv x (.ref a))
  (h:Ev c vals H e (MY c a e2 Q EX) EX):
  Ev c vals H (.Call (.Name x p) [e, .Starred e2 ps] [] pos) Q EX:=fun s r=>by
 have e1:eval (.Call (.Name x p) [e, .Starred e2 ps] [] pos) c.env=(do fv pos (← eval (.Name x p) c.env) [] (backTo pos (dD [e, .Starred e2 ps] c.env)) (sM pos (lN [] c.env))):=rfl;refine e1.symm▸?_;refine aa (bO (l4 (EX:=EX) (Q:=fun g vals' H'=>g= .obj (.ref a)∧vals'=vals∧H'=H) ok hg ⟨rfl,rfl,rfl⟩ s r) fun v s₁ g vals₁ H₁ r₁ S₁ z₁ hq=>?_);refine nn fun hG=>?_;obtain⟨hE1,hE2,hE3⟩:=hq;refine hG ?_;clear hG;subst hE1;obtain rfl:=hE2.symm;obtain rfl:=hE3.symm;cases z₁.iObj;rw[cV he,dI,arm_starEach_Starred,arm_starEach_nil];have eb:backTo pos [(true,eval e2 c.env)]= [(true,do let v ← eval e2 c.env;gw pos;pure v)]:=rfl;refine eb.symm▸?_;refine nn fun hG=>?_;obtain⟨pm,ho,_⟩:=r₁.base.fns i a k (by simpa using hi);refine hG ?_;clear hG;refine wq (callWith.eq_1 ..) ?_;refine aa (aC ?_);unfold Kg;show wpAny _ _ (nV [(false,eval e c.env),(true,do let v ← eval e2 c.env;gw pos;pure v)] >>= _) _ _ _;refine aa (wS fun Q1 q1=>?_);refine e9 (df S₁ (h s₁ r₁) fun v₁ s₂ b vals₂ H₂ r₂ S₂ T₂ z₂ h₂=>?_);refine wS fun Q2 q2=>?_;unfold nV;refine aa (aa (df T₂ (h₂ s₂ r₂) fun v₂ s₃ b2 vals₃ H₃ r₃ S₃ T₃ z₃ ⟨l,hs,hl,h₃⟩=>aa (be (af ?_))));refine wy rfl ?_;refine aa (rN hs z₃ ?_);refine wn au ?_;refine aa (rO hs hl r₃ z₃ fun vs s₄ r₄ S₄ z₄=>?_);refine aa (aC (fW (af ?_)));refine q2 ?_;rw[cW];refine q1 ?_;refine aa (af ?_);refine aC ?_;refine aa (af (aa (af (af ?_))));refine aa (be ?_);refine nn fun hG=>?_;obtain⟨pm',ho',_⟩:=r₄.base.fns i a k (by simpa using hi);refine hG ?_;clear hG;refine aa (m:=kh (.ref a)) ?_;refine wq (keeperOf.eq_1 ..) ?_;refine aa (jL ho' (af ?_));show wpAny _ _ (callMarked starredCall (.ref a) _ [] >>= _) _ _ _;refine KN (callMarked.eq_1 ..) ?_;refine aa (wpAny_keep ?_);exact df (T₃.trans S₄) (h₃ s₄ (v₁::vs) r₄ (.cons ((z₂.go S₃).go S₄) z₄)) fun x s₅ d vals₅ H₅ r₅ _ S₅ z₅ q=>aa (aC (nZ (af (a8.intro r₅ S₅ z₅ q))))
end
end
section
set_option linter.unusedSimpArgs false
open PySem.W PySem.SeqAt PySem.Builtin.Str
theorem du.uniq{H H₁:Hp}{a:Addr}{o o':bW}(p:du H a o o' H₁):∀ {H₂:Hp},(Mine.haddrs H).Nodup→du H a o o' H₂→H₁=H₂:=by
 induction p with
 | head=>
  intro H₂ nd q
  cases q with
  | head=>rfl
  | tail q=>
   simp only[Mine.haddrs,a0,aJ]at nd;exact(nd.2.2 _ (fc _ _) _ (cZ.mpr ⟨_,q.inH.mem,fc _ _⟩) rfl).elim
 | tail p ih=>
  intro H₂ nd q;simp only[Mine.haddrs,a0,aJ]at nd
  cases q with
  | head=>exact(nd.2.2 _ (fc _ _) _ (cZ.mpr ⟨_,p.inH.mem,fc _ _⟩) rfl).elim
  | tail q=>rw[ih nd.2.1 q]
theorem Hu(P:Params):specialIn (KF P) (.ref 66) "__get__" =some (some (.builtin "function.__get__")):=by kernel_rfl
theorem BP(P:Params):takesIn (KF P) (.ref 66)=some false:=by kernel_rfl
theorem EF{o:Obj}{es:Array tJ}{ep:Nat}(hd:o.data= .dict es ep)(hk:StrKeys es){x:Str}(hf:nsFind es x=none):lookIn x o=some none:=by
 unfold lookIn;rw[hd]
 dsimp only
 unfold nsFind findBy at hf;have he:=Option.map_eq_none_iff.mp hf;rw[← rZ]at he;rw[he]
 dsimp only
 have hn:es.toList.any (·.refKey)=false:=by
  rw[tN];intro e he';refine nn fun hG=>?_;obtain⟨n,t,hk'⟩:=hk e (by simpa using he');refine hG ?_;clear hG;simp[tJ.refKey,hk']
 rw[hn];rfl
theorem Fo{M:Model}{h:Heap}(b:ey h){a d:Addr}{vs:List Value}{n:Nat}(ha:h.get? a=some (j8 d vs n))(ad:jO h d):
  Looks M h (Builtin.ObjectAttr.find (.ref a) (.ref 122) "push") (Builtin.ObjectAttr.Found.bind (.builtin "function.__get__") (.ref 66)):=by
 refine nn fun hG=>?_;obtain⟨o,es,ep,t,ho,hd,hk,_,hf⟩:=ad;refine hG ?_;clear hG;obtain⟨P,X⟩:=b.frag;have hc:clsIn (KF P) 122=some { name:="_Accumulator",bases:=[.type "list"],mro:=[.ref 122, .type "list", .type "object"],ns:=121,qualname:="_Accumulator" }:=rfl;refine looks_find (K:=KF P) (C:=122) (od:=some o) X ⟨ha,rfl,rfl,ho⟩ ?_;have hl:lookIn "push" o=some none:=EF hd hk (by rw[hf,if_neg (by simp[er];decide)]);unfold findObj;refine hc.symm▸?_;simp only[mW,GK,Hu,BP]
 show (qk _ (some o) "push").bind _=_;unfold qk;rw[if_pos rfl];simp only[hl,mW]
 rfl
section
variable{w:World}{A:Around}{E:Value→Shared→Prop}{s:Shared}
theorem yM(b:ey s.heap){a d:Addr}{vs:List Value}{n:Nat}(ha:s.heap.get? a=some (j8 d vs n))(ad:jO s.heap d){ex:Bool}{Q:Value→Shared→Prop}
  (hQ:Q (.ref s.heap.objs.size) { s with heap:=s.heap.push { cls:=.type "method",data:=.fields #[.ref 66, .ref a] },toks:=s.toks+1 }):wpAny (model pw w) A (Bd (.ref a) "push" ex) Q E s:=by
 have hfind:=Fo (M:=model pw w) b ha ad;have hty:Looks (model pw w) s.heap (typeOf (.ref a)) (.ref 122):=oH ha rfl;refine nn fun hG=>?_;obtain⟨pm,h66,_⟩:=b.fns 101 66 65 (by decide);refine hG ?_;clear hG;obtain⟨P,X⟩:=b.frag;have L1:=looks_findIn (M:=model pw w) X (KU P);have L2:=looks_findIn (M:=model pw w) X (yp P);have hi:=mK (M:=model pw w) b ha rfl;refine nn fun hG=>?_;obtain⟨h,g,dr,tk,os⟩:=s;refine hG ?_;clear hG;have hTf:∀ t',(⟨h,g,dr,t',os⟩:Shared).TypeIs (.ref 66) "function" :=fun _=>⟨_,h66,rfl⟩
 unfold Bd getAttrBy;refine aa (ko (aC (aa (hty.at (aa (L1.at ?_))))))
 dsimp only
 refine wn (by decide) ?_;unfold q9 hookBefore yU CR;refine aa (show wpAny _ _ (eA (.ref 122) "__getattr__") _ _ _ from L2.at ?_);refine aa (gg (aC ?_));refine wn (by simp[onTheHeap]) ?_;refine aa (cI (PySem.F.slot_list_getattribute.bind _) ?_);refine aK (Q:=fun v s'=>v= .ref h.objs.size∧s'=⟨h.push { cls:=.type "method",data:=.fields #[.ref 66, .ref a] },g,dr,tk+1,os⟩) (E:=fun _ _=>False) (fK PySem.F.slot_list_getattribute.plain Aa wY xo (PySem.F.args_list_getattribute_2 _ _) hi ?_) (fun v s' hv=>?_) fun _ _ z=>z.elim
 ·unfold Builtin.«object.__getattribute__»
  repeat (first | (with_reducible refine Looks.at hty ?_) | (with_reducible refine Looks.at hfind ?_) | (with_reducible refine co PySem.F.ks_slot_function_get (hTf _) PySem.F.ks_entry_function_get ?_ (PySem.F.ks_getArgs_function _ _ _)) | wp_step | dsimp only)
  exact⟨_,rfl,af ⟨rfl,rfl⟩⟩
 ·obtain⟨rfl,rfl⟩:=hv;exact af hQ
end
section
variable{c:Cx}{vals:List V}{H H':Hp}{EX:dK}{s:Shared}
theorem Es(ok:c.Ok)(hh:c.A.handled=none)(hl:c.lvl+1≤20){a d:Addr}{l:List V}{x y:V}{Q:V→List V→Hp→Prop}(p:du H a (.acc d l) (.acc d (l++ [.tup [x,y]])) H')(hn:l.length<av)(hx:x≠ .unb)(hy:y≠ .unb)(q:Q .none vals H')
  {vs:List Value}(r:Rel c vals H s)(z:dP s.heap (c.X H) [.ref a,x,y] vs):cb c.M c.A (.call (.ref 66) ⟨vs,[]⟩) (wants (a8 c H s VR Q) (cF c H s EX)) s:=by
 obtain⟨Hr,dl⟩:=p.inH.del;obtain⟨r',S'⟩:=r.perm dl.perm;refine fb (Ak (EX:=EX) (H₀:=[(a, .acc d l)]) (H₁:=Hr) (vals:=vals) (Q:=fun b vals' H''=>vals'=vals∧b= .none∧H''=(a, .acc d (l++ [.tup [x,y]]))::Hr) pZ Ah (jZ pZ rfl DE) 0 ok hh hl rfl (wZ a d l x y hn hx hy) (fun b H'' e qf=>by
  refine nn fun hG=>?_;obtain⟨mo',hE1,hE2,hE3⟩:=qf;refine hG ?_;clear hG;subst hE1;subst hE2;subst hE3;exact⟨rfl,rfl,rfl⟩) r' (z.go S')) fun res s₁ h₁=>?_
 cases res with
 | error e=>exact cF.stay S' h₁
 | ok f=>
  cases f<;>first | exact h₁.elim | skip
  refine nn fun hG=>?_;obtain⟨b,vals₁,H₁,r₁,S₁,z₁,hE1,hE2,hE3⟩:=h₁;refine hG ?_;clear hG;subst hE1;subst hE2;subst hE3;refine nn fun hG=>?_;obtain⟨H₂,pt,pm⟩:=dl.put (.acc d (l++ [.tup [x,y]]));refine hG ?_;clear hG;obtain⟨r₂,S₂⟩:=r₁.perm pm.symm;have e:=pt.uniq (aJ.mp r.nodup).2.1 p;subst e;exact a8.intro r₂ (S'.trans (aN.trans S₁ S₂)) (z₁.go S₂) q
inductive Mb(a d:Addr)(l:List V)(Q:QV)(b2:V)(vals:List V)(H:Hp):Prop
 | mk (x y:V) (H₃:Hp) (o:StarOf b2 [x,y]) (hx:x≠ .unb) (hy:y≠ .unb) (p:du H a (.acc d l) (.acc d (l++ [.tup [x,y]])) H₃) (q:Q .none vals H₃)
inductive MZ(c:Cx)(e2:Expr)(Q:QV)(EX:dK)(g:V)(vals:List V)(H:Hp):Prop
 | mk (a d:Addr) (l:List V) (e:g= .ref a) (m:iK H a (.acc d l)) (n:l.length<av) (h:Ev c vals H e2 (Mb a d l Q) EX)
theorem AY(ok:c.Ok)(hh:c.A.handled=none)(hl:c.lvl+1≤20){o e2:Expr}{ps apos pos:Pos}{Q:V→List V→Hp→Prop}(hb:ju o "push" c.env (eval o c.env)=eval o c.env)
  (h:Ev c vals H o (MZ c e2 Q EX) EX):
  Ev c vals H (.Call (.Attribute o "push" apos) [.Starred e2 ps] [] pos) Q EX:=fun s r=>by
 have e1:eval (.Call (.Attribute o "push" apos) [.Starred e2 ps] [] pos) c.env=(do
   let ov ← ju o "push" c.env (eval o c.env)
   gw apos.atName
   let (f,first) ← qQ [ov] (do pure (← Bd ov "push" true,[]));let callPos ← pure pos
   fv callPos f first (backTo pos (dD [.Starred e2 ps] c.env)) (sM pos (lN [] c.env))):=by rfl
 refine e1.symm▸?_;refine hb.symm▸?_;refine aa (bO (h s r) fun v s₁ g vals₁ H₁ r₁ S₁ z₁ hP=>?_);refine nn fun hG=>?_;obtain⟨a,d,l,hg,hm,hn,h₁⟩:=hP;refine hG ?_;clear hG;subst hg;cases z₁.iRef;refine nn fun hG=>?_;obtain⟨us,n,e,zs,ad⟩:=r₁.objs _ _ hm.mem;refine hG ?_;clear hG;refine aa (be (aa (aC (aa (yM r₁.base e ad (af ?_))))));refine aa (af ?_);have k₂:∀ b o,s₁.heap.get? b=some o→(s₁.heap.push { cls:=.type "method",data:=.fields #[.ref 66, .ref a] }).get? b=some o:=fun b o e=>al _ e;have r₂:Rel c vals₁ H₁ { s₁ with heap:=s₁.heap.push { cls:=.type "method",data:=.fields #[.ref 66, .ref a] },toks:=s₁.toks+1 }:=r₁.keeps k₂ r₁.gens rfl;have T₂:aN s.heap (c.Z H) (s₁.heap.push { cls:=.type "method",data:=.fields #[.ref 66, .ref a] }) (c.Z H₁):=S₁.trans (aN.keeps k₂);have hbm:(s₁.heap.push { cls:=.type "method",data:=.fields #[.ref 66, .ref a] }).get? s₁.heap.objs.size=some { cls:=.type "method",data:=.fields #[.ref 66, .ref a] }:=aA _ rfl;have hfresh:s₁.heap.objs.size∉c.Z H₁:=fun hx=>by
  obtain⟨o,e⟩:=r₁.there _ (ak _ hx);exact r₁.none_at_size o e
 rw[arm_starEach_Starred,arm_starEach_nil];have eb:backTo pos [(true,eval e2 c.env)]= [(true,do let v ← eval e2 c.env;gw pos;pure v)]:=rfl;refine eb.symm▸?_;refine wq (callWith.eq_1 ..) ?_;refine aa (aC ?_);refine wq (evalArgs.eq_1 ..) ?_;show wpAny _ _ ((do let v ← eval e2 c.env;gw pos;pure v) >>= _) _ _ _;refine aa (wS fun Q1 q1=>?_);refine aa (df T₂ (h₁ _ r₂) fun v₂ s₃ b2 vals₃ H₃ r₃ S₃ T₃ z₃ ⟨x,y,H₄,hs,hx,hy,pt,q⟩=>aa (be (af (q1 ?_))));have hb3:=(S₃ _ _ hbm hfresh)
 refine aC ?_;refine aa (af ?_);refine aa ?_;refine aa (rN hs z₃ ?_);refine wn au ?_;refine aC (rO hs (by exact am tt) r₃ z₃ fun vs s₄ r₄ S₄ z₄=>?_);refine af ?_;refine aa (be ?_);have hb4:=S₄ _ _ hb3.1 hb3.2;refine nn fun hG=>?_;obtain⟨pm,h66,_⟩:=r₄.base.fns 101 66 65 (by decide);refine hG ?_;clear hG;refine aa (m:=kh (.ref s₁.heap.objs.size)) ?_;refine wq (keeperOf.eq_1 ..) ?_;refine aa (jL hb4.1 ?_)
 dsimp only
 refine wn (by decide) ?_;show wpAny _ _ (load 66 >>= _) _ _ _;refine aa (jL h66 (af ?_));show wpAny _ _ (operate _ (call (.ref s₁.heap.objs.size) vs []) >>= _) _ _ _;refine aa (A3 (g6 (ks_codeAny_call_bound hb4.1 (fb (Es (EX:=EX) ok hh hl pt hn hx hy q (vs:=.ref a::vs) r₄ (.cons (.ref a) z₄)) fun res s₅ h₅=>?_))))
 cases res with
 | error e=>exact cF.stay (T₃.trans S₄) h₅
 | ok f=>
  cases f<;>first | exact h₅.elim | skip
  exact aa (aC (nZ (af (a8.stay (T₃.trans S₄) h₅))))
end
end
section
noncomputable def qC:Fd:=⟨25,237,236,1,["number","figures"],[],[],[]⟩
theorem Fv:qC.chk=true:=by decide +kernel
noncomputable def Bj(n:Int):List Int:=[n.fmod 4,(n.fdiv 4).fmod 4,(n.fdiv 16).fmod 4]
noncomputable def nm(k:Int):Str:=(["a","b","ab"]:List Str)[(k-1).toNat]?.getD ""
noncomputable def namesOf(n:Int):List Str:=((Bj n).filter (0 < ·)).map nm
theorem JO{n:Int}{k:Int}(h:k∈Bj n):0≤k∧k<4:=by
 simp only[Bj,aF,aZ,gz]at h;have q:∀ m:Int,0≤m.fmod 4∧m.fmod 4<4:=fun m=>⟨Int.fmod_nonneg_of_pos _ (by decide),Int.fmod_lt_of_pos _ (by decide)⟩
 rcases h with rfl | rfl | rfl<;>exact q _
theorem BY(n:Int):eO qC 0 [.int n] [] (fun b H'=>∃ a,b= .lst a ((namesOf n).map .str)):=by
 intro fx ok hh hfr hl;refine T0.abs fun K hK=>?_;refine az (bB ok rfl (fH rfl ?_));refine cK (En ok 0 rfl rfl ff (bS (Bx (by decide) ?_)));refine cK (cK (En ok 0 rfl rfl ff (bS (td (by decide) (PyProof.noPylong_small (by decide)) (bS (Bx (by decide) ?_))))));refine cK (cK (En ok 0 rfl rfl ff (bS (td (by decide) (PyProof.noPylong_small (by decide)) (bS (Bx (by decide) ?_))))));refine⟨by exact am tt,fun a=>⟨_, .tail .head,?_⟩⟩;refine az (ee (iM ok ⟨_,["figure"],[],[],[]⟩ (by decide +kernel) je rfl ?_));refine En ok 1 rfl rfl ff ⟨(Bj n).map .int,[],(iQ hh).c ok,by exact am tt,rt rfl,fun env own Y B ok'=>?_⟩;refine CompI.map (V.onI (fun k=>if 0<k then some (.str (nm k))else none) none) (fun x hx=>cL ok' ⟨_, .head,?_⟩) fun D=>hK ⟨_,[],[],rfl,rfl,rfl,D,?_⟩
 ·refine nn fun hG=>?_;obtain⟨k,hk,hE1⟩:=ap.mp hx;refine hG ?_;clear hG;subst hE1;obtain⟨k0,k4⟩:=JO hk;refine bv rfl (En ok' 0 rfl rfl ff (bS (MI ⟨_,rfl,?_⟩)));by_cases h0:0<k
  ·refine py (aP h0) ?_;refine dQ rfl (fH rfl (ft (ft (ft ⟨by decide,fun a=>?_⟩))));refine cK (En ok' 0 rfl rfl ff (bS (GC ⟨cG,fq (a:=.str (nm k)) (by lia) ?_ (by decide) (if_pos h0)⟩)));obtain h | h | h:k=1∨k=2∨k=3:=by lia
   all_goals subst h;rfl
  ·rw[if_neg (by simpa using h0)];exact if_neg h0
 ·rw[de,namesOf,a9,← c6,List.filterMap_filter];congr 1;congr 1;funext x;simp[V.onI]
end
section
theorem LZ(pm v:Value):c8 (rr.fd pm) ⟨[v],[]⟩=(kg [] >>= fun t=>pure [(("a" :Str),v),(("p" :Str),t)]):=by kernel_rfl
theorem LY(pm v u1:Value):c8 (rr.fd pm) ⟨[v,u1],[]⟩=(kg [u1] >>= fun t=>pure [(("a" :Str),v),(("p" :Str),t)]):=by kernel_rfl
theorem LX(pm v u1 u2:Value):c8 (rr.fd pm) ⟨[v,u1,u2],[]⟩=(kg [u1,u2] >>= fun t=>pure [(("a" :Str),v),(("p" :Str),t)]):=by kernel_rfl
theorem LW(pm v u1 u2 u3:Value):c8 (rr.fd pm) ⟨[v,u1,u2,u3],[]⟩=(kg [u1,u2,u3] >>= fun t=>pure [(("a" :Str),v),(("p" :Str),t)]):=by kernel_rfl
theorem MW(pm v:Value)(us:List Value)(h:us.length≤3):c8 (rr.fd pm) ⟨v::us,[]⟩=(kg us >>= fun t=>pure [(("a" :Str),v),(("p" :Str),t)]):=by
 match us,h with
 | [],_=>exact LZ pm v
 | [a],_=>exact LY pm v a
 | [a,b],_=>exact LX pm v a b
 | [a,b,c],_=>exact LW pm v a b c
 | _::_::_::_::_,h=>simp at h
section
variable{c:Cx}{vals:List V}{H:Hp}{EX:dK}{Q:V→List V→Hp→Prop}
theorem CE{x:V}{l:List V}(hl:l.length≤3):jX c vals H rr (x::l) [x, .tup l]:=fun pm s vs r z P E k=>by
 cases z.iCons with
 | @mk v us zv zs=>
  have hlen:=zs.length;rw[MW pm v us (by exact xZ hl hlen rfl)];have kk:∀ b o,s.heap.get? b=some o→(s.heap.push (j7 us 0)).get? b=some o:=fun b o e=>al _ e;have S:aN s.heap (c.Z H) (s.heap.push (j7 us 0)) (c.Z H):=aN.keeps kk;have r':Rel c vals H { s with heap:=s.heap.push (j7 us 0) }:=r.keeps kk r.gens rfl;refine aa (nH (af (k [v, .ref s.heap.objs.size] _ r' S (.cons (zv.go S) (.cons ?_ .nil)))) (by exact xZ hl hlen rfl));exact .tup (aA _ rfl) (fun hx=>by obtain⟨o,e⟩:=r.there _ hx;exact r.none_at_size o e) (zs.go S)
theorem II(ok:c.Ok)(hh:c.A.handled=none)(hlv:c.lvl+2≤20){a:Str}{ps:List Str}(ha:a.length≤10)(hp:∀ p∈ps,p.length≤10)(hn:ps.length≤3)(q:Q (.str (kz a ps)) vals H):Tn c vals H (.str a::ps.map .str) (fun vs=>call (.ref 220) vs) VR Q EX:=
 call_fnB (H₀:=[]) (H₁:=H) rr Iy (CE (by exact d4 hn rfl)) 1 ok hh hlv rfl (Ek a ps ha hp (by exact jy hn rfl)) fun b H' e qf=>by
  cases qI e;subst qf;exact q
end
end
section
theorem Np(n:Int):n/4%4=n%64/4%4:=by
 have e:n%64+n/64*16*4=n:=(bc _ (A5 _ 16 4)).trans (Int.emod_add_ediv_mul n 64);have h:(n%64+n/64*16*4)/4%4=n%64/4%4:=by
  rw[Int.add_mul_ediv_right _ _ (by decide),show n/64*16=n/64*4*4 from (A5 _ 4 4).symm,Int.add_mul_emod_self_right]
 rwa [e]at h
theorem MQ(n:Int):n/16%4=n%64/16%4:=by
 have e:n%64+n/64*4*16=n:=(bc _ (A5 _ 4 16)).trans (Int.emod_add_ediv_mul n 64);have h:(n%64+n/64*4*16)/16%4=n%64/16%4:=by
  rw[Int.add_mul_ediv_right _ _ (by decide),Int.add_mul_emod_self_right]
 rwa [e]at h
theorem Iv(n:Int):Bj n=Bj (n%64):=by
 have e1:∀ m:Int,m.fmod 4=m%4:=fun m=>Int.fmod_eq_emod_of_nonneg m (by decide);have e2:∀ m:Int,m.fdiv 4=m/4:=fun m=>Int.fdiv_eq_ediv_of_nonneg m (by decide);have e3:∀ m:Int,m.fdiv 16=m/16:=fun m=>Int.fdiv_eq_ediv_of_nonneg m (by decide);unfold Bj;rw[e1,e1,e1,e1,e1,e1,e2,e2,e3,e3];have h1:n%4=n%64%4:=(Int.emod_emod_of_dvd n (by decide)).symm;rw[h1,Np,MQ]
theorem Lk(n:Int):∃ k:Nat,k<64∧Mine.namesOf n=Mine.namesOf (k:Int):=by
 have h0:0≤n%64:=Int.emod_nonneg _ (by decide);have h1:n%64<64:=Int.emod_lt_of_pos _ (by decide);refine⟨(n%64).toNat,(Int.toNat_lt h0).mpr h1,?_⟩;rw[Int.toNat_of_nonneg h0];unfold Mine.namesOf;rw[← Iv]
noncomputable def iP(r:List Str):Str:=kz bG r
noncomputable def qx(s:Str):Bool:=decide (s.length≤12) && bH s
noncomputable def uC(r:List Str):Bool:=decide (r.length≤3) && r.all qx && qx (iP r) && (aG 4).all (fun i=>qx (jd (iP r) i).1) && (pairsOf (iP r)).all (fun p=>qx p.1 && qx p.2) && decide ((pairsOf (iP r)).length=r.length)
end
section
theorem wB:Slot "map" "__init__" "object.__init__" :=
 .of (owner:="object") (n:="__init__") (by rw[dB,cq];kernel_rfl) (by decide +kernel) (by decide +kernel) (by decide +kernel)
  (by first | exact .inl (by decide +kernel) | exact .inr (by decide +kernel)) (by rw[dM];kernel_rfl)
theorem qg:Slot "map" "__iter__" "map.__iter__" :=
 .of (owner:="map") (n:="__iter__") (by rw[dB,cq];kernel_rfl) (by decide +kernel) (by decide +kernel) (by decide +kernel)
  (by first | exact .inl (by decide +kernel) | exact .inr (by decide +kernel)) (by rw[dM];kernel_rfl)
theorem iC:Slot "map" "__next__" "map.__next__" :=
 .of (owner:="map") (n:="__next__") (by rw[dB,cq];kernel_rfl) (by decide +kernel) (by decide +kernel) (by decide +kernel)
  (by first | exact .inl (by decide +kernel) | exact .inr (by decide +kernel)) (by rw[dM];kernel_rfl)
theorem pd:km table "map.__next__" =some Builtin.«map.__next__» :=i9 (by kernel_rfl)
theorem v4:km table "map.__iter__" =some Builtin.«dict_keyiterator.__iter__» :=
 CQ (id':="dict_keyiterator.__iter__") (by kernel_rfl) (by first | rfl | decide +kernel | (unfold String.splitOn;simp +decide [String.splitOnAux])) (by decide +kernel) (by kernel_rfl)
theorem xe:Manifest.owners.lookup (String.ofList ['p','a','m'].reverse)=some Manifest.sig_map:=by kernel_rfl
theorem qj(a:Value):argsOk "map.__next__" ⟨[a],[]⟩:=by
 unfold argsOk;rw[lG (id:="map.__next__") (n:=['_','_','t','x','e','n','_','_']) (o:=['p','a','m']) (by kernel_rfl) xe];kernel_rfl
theorem wH(a:Value):argsOk "map.__iter__" ⟨[a],[]⟩:=by
 unfold argsOk;rw[lG (id:="map.__iter__") (n:=['_','_','r','e','t','i','_','_']) (o:=['p','a','m']) (by kernel_rfl) xe];kernel_rfl
theorem Cm:eA (.type "map") "__len__" =pure none:=by rw[dB,cq];kernel_rfl
theorem AG:eA (.type "map") "__length_hint__" =pure none:=by rw[dB,cq];kernel_rfl
theorem Du:mroOf (.type "map")=pure [.type "map", .type "object"]:=by rw[mroOf_type];kernel_rfl
theorem vX:eA (.type "map") "__new__" =pure (some (.builtin "map.__new__")):=by rw[dB,cq];kernel_rfl
theorem CC:TypeCalled "map" "map.__new__" "object.__init__" :=
 ⟨by decide +kernel,by decide +kernel,⟨_,_,Du⟩,madeBy_type Du vX (by decide +kernel),by decide +kernel,by rw[dM];kernel_rfl,wB⟩
theorem yz(a b:Value):checkTypeCall "map" ⟨[a,b],[]⟩=pure ():=by kernel_rfl
theorem AF(a b:Value):ja "map.__new__" ⟨[.type "map",a,b],[]⟩=pure ():=by kernel_rfl
theorem wG:km table "map.__new__" =some Builtin.«map.__new__» :=i9 (by kernel_rfl)
theorem qO(a b c:Value):argsOk "object.__init__" ⟨[a,b,c],[]⟩:=by
 unfold argsOk;rw[lG (id:="object.__init__") (n:=['_','_','t','i','n','i','_','_']) (o:=['t','c','e','j','b','o']) (by kernel_rfl) PySem.F.owner_object];kernel_rfl
noncomputable def il(l:Addr)(i:Nat):Obj:={ cls:=.type "list_iterator",data:=.fields #[.ref l, .int i 0] }
noncomputable def uA(t:Addr)(f:Value):Obj:={ cls:=.type "map",data:=.fields #[.ref t,f] }
end
section
theorem Lw(f x:Value):Builtin.«map.__new__» ⟨[.type "map",f,x],[]⟩=(do
 let its ← js [x];let t ← kg its;let m ← Builtin.SmallTypes.newRecord (.type "map") [t,f]
 ret m):=by kernel_rfl
section
variable{prog:dt}{w:World}{A:Around}{E:Value→Shared→Prop}{s:Shared}
theorem AM{M:Model}{x v:Value}{Q:List Value→Shared→Prop}{s':Shared}(h:∀ {P:Value→Shared→Prop},P v s'→wpAny M A (pyIter x) P E s)(q:Q [v] s'):wpAny M A (js [x]) Q E s:=by
 refine wq (Builtin.SmallTypes.iterAll.eq_1 ..) ?_;simp only[fA,qm]
 refine aa (aa (aa (aC (h ?_))));exact af (af (af q))
theorem JC{f:Value}(l:Addr)(items:Array Value)(n:Nat):
  Meets (Builtin.«map.__new__» ⟨[.type "map",f, .ref l],[]⟩) (fun _ R s=>s.heap.get? l=some { cls:=.type "list",dict:=none,data:=.seq items n,slots:= #[] }∧
   R (.ok (.ret (.ref ((s.heap.push (il l 0)).push (j7 [.ref s.heap.objs.size] 0)).objs.size)))
    {s with heap:=((s.heap.push (il l 0)).push (j7 [.ref s.heap.objs.size] 0)).push (uA (s.heap.push (il l 0)).objs.size f) }):=
 .of_wp fun prog w A R s h=>by
  obtain⟨hl,h⟩:=h;have hL:Heap.IsList s.heap l items:=⟨_,hl,rfl,n,rfl⟩
  rw[Lw];refine aa (AM (s':={ s with heap:=s.heap.push (il l 0) }) (v:=.ref s.heap.objs.size) (fun hp=>ku hL hp) ?_);refine aa (nH ?_);show wpAny _ _ (newObj (.type "map") (.fields #[_,f]) >>= _) _ _ _;refine aa (bj ?_ (by exact bm _ _));exact af ⟨_,rfl,h⟩
end
section
variable{c:Cx}{vals:List V}{H H':Hp}{EX:dK}{s:Shared}{Q:V→List V→Hp→Prop}
theorem LU{f:Value}{D:Addr}{L:List V}(q:∀ Mo t it,Q (.ref Mo) vals ((Mo, .raw (uA t f))::(t, .raw (j7 [.ref it] 0))::(it, .raw (il D 0))::H)):Tn c vals H [.obj f, .lst D L] (fun vs=>call (.type "map") vs) VR Q EX:=Tn.two fun s v u r z' y=>by
 cases z'.iObj
 cases y.iLst with
 | mk e ne zs=>
  obtain⟨R₁,S₁⟩:=r.layRaw (il D 0) rfl;obtain⟨R₂,S₂⟩:=R₁.layRaw (j7 [.ref s.heap.objs.size] 0) rfl;obtain⟨R₃,S₃⟩:=R₂.layRaw (uA (s.heap.push (il D 0)).objs.size f) rfl;refine callType_new CC (by decide) (yz _ _) (AF _ _) (fun obj=>qO obj _ _) wG (JC _ _ _) ⟨e,?_⟩;exact⟨⟨_,aA _ rfl,rfl⟩,a8.intro R₃ ((S₁.trans S₂).trans S₃) (.ref _) (q _ _ _)⟩
end
section
variable{c:Cx}{vals:List V}{H H':Hp}{s:Shared}{E:Value→Shared→Prop}
theorem EV{M:Model}{A:Around}{a b:Value}{Q:Unit→Shared→Prop}(q:Q () s):wpAny M A (letGo [a] [b]) Q E s:=by
 unfold letGo;exact aa (aC (nZ (by unfold letGo;exact af q)))
theorem EJ(ok:c.Ok){A:Around}{it D:Addr}{i:Nat}{vs:List Value}{n:Nat}{y:Value}(hi:du H it (.raw (il D i)) (.raw (il D (i+1))) H')(eD:s.heap.get? D=some (ic vs n))(hy:vs[i]?=some y)(R:Rel c vals H s)
  {Q:Value→Shared→Prop}(k:∀ s',Rel c vals H' s'→aN s.heap (c.Z H) s'.heap (c.Z H')→Q y s'):wpAny c.M A (gk (.ref it)) Q E s:=by
 obtain⟨sli,gi⟩:=R.rawAt hi.inH;have hT:s.TypeIs (.ref it) "list_iterator" :=⟨_,gi,rfl⟩
 refine wq (Builtin.SmallTypes.nextOf.eq_1 ..) ?_;refine aa (cS (name:=cE "__next__") hT dU (co dU hT mv ?_ (nI _)));show wpAny _ _ (field (.ref it) 0 >>= _) _ _ s;refine aa (b9 gi rfl (x:=.ref D) rfl ?_);show wpAny _ _ (if (dq D == bx)=true then _ else _) _ _ s;refine wn (show ¬ ((dq D == bx)=true) from au) ?_;show wpAny _ _ (field (.ref it) 1 >>= _) _ _ s;refine aa (b9 gi rfl (x:=.int i 0) rfl ?_);show wpAny _ _ (ii (.ref D) >>= _) _ _ s;refine aa (cJ eD rfl ?_);have hx:vs.toArray[((i:Nat):Int).toNat]?=some y:=by simpa using hy
 simp only[hx]
 obtain⟨R',S'⟩:=R.rawSet (o:=il D i) ok (f:=(·.setIfInBounds 1 (rawInt ((i:Int)+1)))) rfl hi;exact aa (eI gi rfl (by show 1<2;decide) (af ⟨y,rfl,af (k _ R' S')⟩))
noncomputable def KS(D:Addr)(i:Nat):Obj:={ il D i with data:=.fields ((#[.ref D, .int i 0]:Array Value).setIfInBounds 0 .none) }
theorem HX(ok:c.Ok){A:Around}(hh:A.handled=none){it D:Addr}{i:Nat}{vs:List Value}{n:Nat}(hi:du H it (.raw (il D i)) (.raw (KS D i)) H')(eD:s.heap.get? D=some (ic vs n))(hy:vs[i]?=none)(R:Rel c vals H s)
  {Q:Value→Shared→Prop}(k:∀ s' e,Rel c vals H' s'→aN s.heap (c.Z H) s'.heap (c.Z H')→(∃ o,s'.heap.get? e=some o∧o.cls= .type "StopIteration")→E (.ref e) s'):wpAny c.M A (gk (.ref it)) Q E s:=by
 obtain⟨sli,gi⟩:=R.rawAt hi.inH;have hT:s.TypeIs (.ref it) "list_iterator" :=⟨_,gi,rfl⟩
 refine wq (Builtin.SmallTypes.nextOf.eq_1 ..) ?_;refine aa (cS (name:=cE "__next__") hT dU (co dU hT mv ?_ (nI _)));show wpAny _ _ (field (.ref it) 0 >>= _) _ _ s;refine aa (b9 gi rfl (x:=.ref D) rfl ?_);show wpAny _ _ (if (dq D == bx)=true then _ else _) _ _ s;refine wn (show ¬ ((dq D == bx)=true) from au) ?_;show wpAny _ _ (field (.ref it) 1 >>= _) _ _ s;refine aa (b9 gi rfl (x:=.int i 0) rfl ?_);show wpAny _ _ (ii (.ref D) >>= _) _ _ s;refine aa (cJ eD rfl ?_);have hx:vs.toArray[((i:Nat):Int).toNat]?=none:=by simpa using hy
 simp only[hx]
 obtain⟨R',S'⟩:=R.rawSet (o:=il D i) ok (f:=(·.setIfInBounds 0 .none)) rfl hi;refine aa (dT (aa (eI gi rfl (by show 0<2;decide) ?_)));show wpAny _ _ (newExc (.type "StopIteration") [] >>= _) _ _ _;refine aa ?_;simp only[newExc,kg]
 refine aa (bj ?_ (by exact am tt));refine aa (m:=gF _ _) (cI (a:=bx) (by first | rfl | (simp only[gF];rfl)) ?_);refine bj ?_ (by exact bm _ _);simp only[Kf]
 refine aa (uq ?_)
 first | rw[show A.in1.handled=none from hh] | rw[hh]
 refine aa (af (lM ?_));have kk:∀ (o1 o2:Obj) b o,(s.heap.update it (eU (·.setIfInBounds 0 .none))).get? b=some o→(((s.heap.update it (eU (·.setIfInBounds 0 .none))).push o1).push o2).get? b=some o:=fun o1 o2 b o e=>al _ (al _ e);exact k _ _ (R'.keeps (s':={ s with heap:=((s.heap.update it (eU (·.setIfInBounds 0 .none))).push _).push _ }) (kk _ _) R'.gens rfl) (S'.trans (aN.keeps (kk _ _))) ⟨_,aA _ rfl,rfl⟩
theorem H7(ok:c.Ok){A:Around}(hd:A.depth=c.A.depth)(hf:A.frames=c.A.frames)(hu:A.units≤c.A.units+30)(hh:A.handled=none)(hl:c.lvl+2≤20){Mo t it D:Addr}{x:Str}{ps:List Str}{i:Nat}{p:Str}
  (hM:iK H Mo (.raw (uA t (.ref 199))))(ht:iK H t (.raw (j7 [.ref it] 0)))(hMi:Mo≠it)(hi:du H it (.raw (il D i)) (.raw (il D (i+1))) H')(hx:At c.names vals x (.lst D (ps.map .str)))(hp:ps[i]?=some p)(R:Rel c vals H s)
  {Q:Option Value→Shared→Prop}(k:∀ s' tk,Rel c vals H' s'→aN s.heap (c.Z H) s'.heap (c.Z H')→Q (some (.str p tk)) s'):wpAny c.M A (pyNext (.ref Mo)) Q E s:=by
 obtain⟨slM,gM⟩:=R.rawAt hM;obtain⟨slt,gt⟩:=R.rawAt ht;have hT:s.TypeIs (.ref Mo) "map" :=⟨_,gM,rfl⟩
 refine nn fun hG=>?_;obtain⟨v,hv,zv⟩:=(R.vars x _ (.inl hx)).resolve_left nofun;refine hG ?_;clear hG
 cases zv.iLst with
 | @mk vs n eD nD zs=>
  refine nn fun hG=>?_;obtain⟨y,hy,zy⟩:=zs.get (show (ps.map V.str)[i]?=some (.str p) by exact m9 hp);refine hG ?_;clear hG;refine wq (pyNext.eq_1 ..) ?_;refine aa (gg (cS (name:=cE "__next__") hT iC (co iC hT pd ?_ (qj _))));show wpAny _ _ (field (.ref Mo) 0 >>= _) _ _ s;refine aa (b9 gM rfl (x:=.ref t) rfl ?_);refine aa (cJ gt rfl ?_);simp only[r5,fA,qm]
  refine aa (aa (aa (aC (EJ ok hi eD hy R fun s₁ R₁ S₁=>?_))));refine af (af ?_);obtain⟨slM',gM'⟩:=R₁.rawAt (du.other hi hMi hM);refine aa (b9 gM' rfl (x:=.ref 199) rfl ?_);have ok2:=ok.near (A:=A.in1) hd hf (by lia) (by exact bJ hl);have main:=gY (c:={ c with A:=A.in1,lvl:=c.lvl+1 }) (vals:=vals) (H:=H') (EX:=kx) (Q:=fun b vals' H''=>b= .str p∧vals'=vals∧H''=H') I4 xX C4 0 ok2 hh (by trivial) rfl (ua p) (fun b e=>⟨e,rfl,rfl⟩) s₁ [y] (R₁.reA A.in1 (c.lvl+1)) (.cons (zy.go S₁) .nil);refine aa (aC (aK main (fun r s₂ h₂=>?_) fun _ _ h=>(fI h).elim));refine nn fun hG=>?_;obtain⟨b,vals',H'',R₂,S₂,zb,hE1,hE2,hE3⟩:=h₂;refine hG ?_;clear hG;subst hE1;obtain rfl:=hE2.symm;obtain rfl:=hE3.symm
  cases zb.iStr with
  | mk _ tk=>exact aa (EV (af ⟨_,rfl,af (k s₂ tk R₂.unA (S₁.trans S₂))⟩))
theorem JD(ok:c.Ok){A:Around}(hh:A.handled=none){Mo t it D:Addr}{x:Str}{ps:List Str}
  (hM:iK H Mo (.raw (uA t (.ref 199))))(ht:iK H t (.raw (j7 [.ref it] 0)))(pt:du H it (.raw (il D ps.length)) (.raw (KS D ps.length)) H')(hx:At c.names vals x (.lst D (ps.map .str)))(R:Rel c vals H s)
  {Q:Option Value→Shared→Prop}(k:∀ s',Rel c vals H' s'→aN s.heap (c.Z H) s'.heap (c.Z H')→Q none s'):wpAny c.M A (pyNext (.ref Mo)) Q E s:=by
 obtain⟨slM,gM⟩:=R.rawAt hM;obtain⟨slt,gt⟩:=R.rawAt ht;have hT:s.TypeIs (.ref Mo) "map" :=⟨_,gM,rfl⟩
 refine nn fun hG=>?_;obtain⟨v,hv,zv⟩:=(R.vars x _ (.inl hx)).resolve_left nofun;refine hG ?_;clear hG
 cases zv.iLst with
 | @mk vs n eD nD zs=>
  have hle:=zs.length;rw[an]at hle;refine wq (pyNext.eq_1 ..) ?_;refine aa (gg (cS (name:=cE "__next__") hT iC (co iC hT pd ?_ (qj _))));show wpAny _ _ (field (.ref Mo) 0 >>= _) _ _ s;refine aa (b9 gM rfl (x:=.ref t) rfl ?_);refine aa (cJ gt rfl ?_);simp only[r5,fA,qm]
  refine aa (aa (aa (aC (HX (A:=A.in1) ok hh pt eD (j3 (by exact aH [ps.length,vs.length] 73469641930838019 tt hle)) R fun s₁ e R₁ S₁ he=>?_))));refine nn fun hG=>?_;obtain⟨o,ho,hc⟩:=he;refine hG ?_;clear hG;refine aa (gG (T:="StopIteration") (b:=true) ⟨o,ho,hc⟩ CP ?_);exact af (k _ R₁ S₁)
end
end
section
section
variable{c:Cx}{vals:List V}{H:Hp}{s:Shared}{E:Value→Shared→Prop}
noncomputable def I9(S Mo t it D:Addr)(i:Nat)(acc:List V)(H:Hp):Hp:=(S, .list acc)::(Mo, .raw (uA t (.ref 199)))::(t, .raw (j7 [.ref it] 0))::(it, .raw (il D i))::H
theorem JE{S Mo t it D:Addr}{i:Nat}{acc:List V}(R:Rel c vals (I9 S Mo t it D i acc H) s):Mo≠it:=by
 have nd:=(aJ.mp R.nodup).2.1;simp only[I9,haddrs,a0,bW.addrs,List.singleton_append,cg]at nd;intro e;exact nd.2.1 (by rw[e];simp)
noncomputable def KQ(S Mo t it D:Addr)(ps:List Str)(H:Hp):Hp:=(S, .list (ps.map .str))::(Mo, .raw (uA t (.ref 199)))::(t, .raw (j7 [.ref it] 0))::(it, .raw (KS D ps.length))::H
theorem G6{h:Heap}{X:List Addr}{l:List V}{a:V}{vs:List Value}{v:Value}(z:dP h X l vs)(y:VR h X a v):dP h X (l++ [a]) (vs++ [v]):=z.append (.cons y .nil)
theorem H6(ok:c.Ok){A:Around}(hd:A.depth=c.A.depth)(hf:A.frames=c.A.frames)(hu:A.units≤c.A.units+20)(hh:A.handled=none)(hl:c.lvl+2≤20){S Mo t it D:Addr}{x:Str}{ps:List Str}(hx:At c.names vals x (.lst D (ps.map .str)))(hn:ps.length≤1000)
  {R:Result→Shared→Prop}{res:Value}{s₀:Shared}{H₀:Hp}(fin:∀ s',Rel c vals (KQ S Mo t it D ps H) s'→aN s₀.heap (c.Z H₀) s'.heap (c.Z (KQ S Mo t it D ps H))→R (.ok (.ret res)) s'):
  ∀ (k i:Nat) (s:Shared),ps.length-i=k→i≤ps.length→Rel c vals (I9 S Mo t it D i ((ps.take i).map .str) H) s→aN s₀.heap (c.Z H₀) s.heap (c.Z (I9 S Mo t it D i ((ps.take i).map .str) H))→
  cb c.M A (.builtin "list.extend.loop" ⟨[.ref S, .ref Mo,res],[]⟩) R s:=by
 intro k
 induction k with
 | zero=>
  intro i s hk hi r S₀;have hin:i=ps.length:=by exact aq (aH [i,ps.length] 91202565463605313 tt hi) (aH [ps.length-i,ps.length,i] 481579227468281326864400646211 tt hk (su ps.length i))
  subst hin;rw[cY]at r S₀;refine bE F.entry_extend_loop ?_;refine(a7 mf _).symm▸?_;show wpAny _ A.in1 (pyNext (.ref Mo) >>= _) _ _ s;refine aa (JD (A:=A.in1) ok hh (.tail .head) (.tail (.tail .head)) (.tail (.tail (.tail .head))) hx r fun s' r' S'=>?_);exact af (fin s' r' (S₀.trans S'))
 | succ k ih=>
  intro i s hk hi r S₀;have hlt:i<ps.length:=by exact aH [ps.length-i,k,i,ps.length] 2302138910021424815781921569116163 tt hk (ag (aH [i,ps.length] 91202565463605313 tt hi:i≤ps.length))
  refine bE F.entry_extend_loop ?_;refine(a7 mf _).symm▸?_;show wpAny _ A.in1 (pyNext (.ref Mo) >>= _) _ _ s;have hp:ps[i]?=some ps[i]:=aD hlt;refine aa (H7 (A:=A.in1) ok hd hf (by lia) hh hl (.tail .head) (.tail (.tail .head)) (JE r) (.tail (.tail (.tail .head))) hx hp r fun s' tk r' S'=>?_);refine nn fun hG=>?_;obtain⟨cls,dd,vs,n,ho,zs,hi'⟩:=r'.rowAt .head (.list _);refine hG ?_;clear hG;have hle:=zs.length;rw[an,bM]at hle;have e1:(ps.take (i+1)).map V.str=(ps.take i).map V.str++ [V.str ps[i]]:=by rw[bT,hp,lH,cC];rfl
  obtain⟨r₂,S₂⟩:=r'.rowTurn (mo:=.list ((ps.take i).map .str)) (l':=(ps.take (i+1)).map .str) ok .head (.list _) ho (f:=(·.push (.str ps[i] tk))) (vs':=vs++ [.str ps[i] tk]) (by simp) (by rw[e1];exact G6 zs (.str _ _));show wpAny _ A.in1 (fm (.ref S) (·.push (.str ps[i] tk)) >>= _) _ _ _;refine aa (d0 ho rfl ?_ (by rw[aI];simp only[av];exact aH [ps.length,i,min i ps.length,vs.length] 25711008758659552490380562070151900522327587517403337736585281 tt hn hlt hle (bC i ps.length)) (by rw[Array.size_push,aI];simp only[av];exact aH [ps.length,i,min i ps.length,vs.length] 14241591826934930414979383933337874930165289992104986958292157417390145 tt hn hlt hle (bC i ps.length)));exact af ⟨bY mf _,ih (i+1) _ (by exact aq (aH [ps.length-i,k,ps.length,i,ps.length-(i+1)] 29962300051440753849177220097102480687689685270595 tt hk (su ps.length i) (ag (aH [i,ps.length] 407053353393264263234 tt hlt:(i+1)≤ps.length))) (aH [ps.length-i,k,ps.length,ps.length-(i+1),i] 41380281590957677829599854023345151876780174348291 tt hk (su ps.length (i+1)) (ag (aH [i,ps.length] 91202565463605314 tt hlt:i≤ps.length)))) hlt r₂ ((S₀.trans S').trans S₂)⟩
theorem map_collect(ok:c.Ok){A:Around}(hd:A.depth=c.A.depth)(hf:A.frames=c.A.frames)(hu:A.units≤c.A.units+10)(hh:A.handled=none)(hl:c.lvl+2≤20){Mo t it D:Addr}{x:Str}{ps:List Str}(hx:At c.names vals x (.lst D (ps.map .str)))(hn:ps.length≤1000)
  (r:Rel c vals ((Mo, .raw (uA t (.ref 199)))::(t, .raw (j7 [.ref it] 0))::(it, .raw (il D 0))::H) s)
  {Q:List Value→Shared→Prop}(k:∀ s' vs,Rel c vals H s'→aN s.heap (c.Z ((Mo, .raw (uA t (.ref 199)))::(t, .raw (j7 [.ref it] 0))::(it, .raw (il D 0))::H)) s'.heap (c.Z H)→dP s'.heap (c.X H) (ps.map .str) vs→Q vs s'):wpAny c.M A (collect (.ref Mo)) Q E s:=by
 obtain⟨slM,gM⟩:=r.rawAt .head;refine wq (collect.eq_1 ..) ?_;refine aa (CN (bE F.entry_proto_collect ?_));refine(a7 F.plain_proto_collect _).symm▸?_;show wpAny _ A.in1 (tG [] >>= fun l=>again (.builtin "list.__iadd__" ⟨[l, .ref Mo],[]⟩)) _ _ s;refine aa ?_;generalize hS:s.heap.objs.size=S;have k₁:∀ b o,s.heap.get? b=some o→(s.heap.push (ic [] 0)).get? b=some o:=fun b o e=>al _ e;obtain⟨r₁,S₁⟩:=r.lay (s':={ s with heap:=s.heap.push (ic [] 0) }) (a:=S) (mo:=.list []) (by
  intro y hy;simp only[bW.addrs,ao]at hy;rw[hy,← hS];exact⟨r.none_at_size,r.size⟩) (jq _ _) k₁ r.gens rfl ⟨[],0,by rw[← hS];exact aA _ rfl, .nil⟩
 refine pf (?_:_) (by simp[av]);refine hS.symm▸?_;refine af ⟨bY F.plain_list_iadd _,bE F.entry_list_iadd ?_⟩;refine(a7 F.plain_list_iadd _).symm▸?_;have gM₁:=k₁ _ _ gM;have hT:xI { s with heap:=s.heap.push (ic [] 0) } (.ref Mo) "map" :=⟨_,gM₁,rfl⟩
 have hSM:S≠Mo:=fun e=>by rw[← e,← hS]at gM;exact dh _ (bu gM)
 show wpAny _ A.in1 (gm (.ref S) (.ref Mo) (.ref S)) _ _ _;refine wq (Builtin.List.listExtendWith.eq_1 ..) ?_;refine aa (wpAny_typeOf hT ?_);have h1:ib (.ref S) (.ref Mo)=false:=by simp[ib,hSM]
 have h2:(eX "map" == eX "list")=false:=by decide
 have h3:(eX "map" == eX "tuple")=false:=by decide
 refine wn (by rw[h1,h2,h3];exact au) ?_;refine aa (wpAny_pyIter_slot hT qg (co qg hT v4 ?_ (wH _)));refine af ⟨_,rfl,"map",_,hT,iC.lookup,?_⟩;refine aa (aC ?_);refine wq (Builtin.List.listLengthHint.eq_1 ..) ?_;refine aa (dA hT Cm ?_);show wpAny _ A.in1 (F8 (dq Mo) (cE "__length_hint__") >>= _) _ _ _;refine aa (dA hT AG ?_);refine af ?_;show wpAny _ A.in1 (rule "list.extend.makes-room" >>= fun _=>Builtin.List.listTouch (.ref S) >>= fun _=>
  again (.builtin "list.extend.loop" ⟨[.ref S, .ref Mo, .ref S],[]⟩)) _ _ _
 refine aa (dT ?_);refine aa ?_;show wpAny _ A.in1 (tH S (·.push .none) >>= fun _=>tH S (·.pop)) _ _ _;refine nn fun hG=>?_;obtain⟨cls,dd,vs,n,ho,zs,hi'⟩:=r₁.rowAt .head (.list _);refine hG ?_;clear hG;cases zs.iNil;obtain⟨r₂,S₂⟩:=r₁.rowTurn (mo:=.list []) (l':=[.none]) ok .head (.list _) ho (f:=(·.push .none)) (vs':=[.none]) (by rfl) (.cons .none .nil);refine aa (fR ho rfl ?_ (by exact am tt) (by exact cN _));refine nn fun hG=>?_;obtain⟨cls,dd,vs,n,ho₂,zs,hi'⟩:=r₂.rowAt .head (.list _);refine hG ?_;clear hG;refine nn fun hG=>?_;obtain⟨u,hE1,_⟩:=zs.one;refine hG ?_;clear hG;subst hE1;obtain⟨r₃,S₃⟩:=r₂.rowTurn (mo:=.list [.none]) (l':=[]) ok .head (.list _) ho₂ (f:=(·.pop)) (vs':=[]) (by rfl) .nil;refine fR ho₂ rfl ?_ (by exact cN _) (by exact am tt);refine af ⟨bY mf _,H6 (A:=A) (H:=H) (s₀:=s) (H₀:=_) ok hd hf (by exact aH [A.units,c.A.units] 15739652118233735928741953 tt hu) hh hl hx hn (fun s' r' S'=>?_) _ 0 _ rfl (bi _) r₃ ((S₁.trans S₂).trans S₃)⟩;refine nn fun hG=>?_;obtain⟨cls,dd,vs,n,ho',zs',_⟩:=r'.rowAt .head (.list _);refine hG ?_;clear hG;show wpAny _ A (load S >>= _) _ _ s';refine aa (jL ho' ?_);obtain⟨r'',S''⟩:=r'.drop (H':=H) (vals':=vals) (fun p hp=>.tail _ (.tail _ (.tail _ (.tail _ hp)))) (by
  have nd:=(aJ.mp r'.nodup).2.1;simp only[KQ,haddrs,a0]at nd;exact(aJ.mp (aJ.mp (aJ.mp (aJ.mp nd).2.1).2.1).2.1).2.1) (fun x a h=>.inr (.inl h))
 refine af (k s' _ r'' (S'.trans S'') ?_);simpa using zs'.go S''
theorem nN:qP "tuple.__new__" =true:=by decide +kernel
theorem Fz(ok:c.Ok)(hh:c.A.handled=none)(hl:c.lvl+2≤20){Mo t it D:Addr}{x:Str}{ps:List Str}(hx:At c.names vals x (.lst D (ps.map .str)))(hn:ps.length≤1000){EX:dK}{Q:V→List V→Hp→Prop}(q:Q (.tup (ps.map .str)) vals H):
  Tn c vals ((Mo, .raw (uA t (.ref 199)))::(t, .raw (j7 [.ref it] 0))::(it, .raw (il D 0))::H) [.ref Mo] (fun vs=>call (.type "tuple") vs) VR Q EX:=Tn.oneR fun s r=>by
 obtain⟨slM,gM⟩:=r.rawAt .head;have hT:s.TypeIs (.ref Mo) "map" :=⟨_,gM,rfl⟩
 refine callType_codes (Q₁:=fun obj s₁=>s₁.TypeIs obj "tuple" ∧a8 c ((Mo, .raw (uA t (.ref 199)))::(t, .raw (j7 [.ref it] 0))::(it, .raw (il D 0))::H) s VR Q obj s₁) A7 (F.typeCall_tuple_1 _) F.entry_object_init ?_ fun obj s₁ h₁=>?_
 ·refine jA ?_;show wpAny _ c.A.in1.in1 (do ja "tuple.__new__" ⟨[.type "tuple", .ref Mo],[]⟩;again (.builtin "tuple.__new__" ⟨[.type "tuple", .ref Mo],[]⟩)) _ _ s;refine aa (cI (F.newCall_tuple_1 _) (af ⟨bY nN _,bE F.entry_tuple_new ?_⟩));refine(a7 nN _).symm▸?_;have hsub:=sub_tuple_self;have hinit:=init_tuple_lookup;have hmh:=madeHere_tuple
  wp_walk using wpAny_typeOf hT,(map_collect (A:=c.A.in1.in1) ok rfl rfl (by lia) hh hl hx hn r)
  intro s' vs' r' S' zs;show wpAny _ _ (Builtin.Tuple.tupleExact vs'.toArray >>= fun v=>ret v) _ _ _;refine KN (Builtin.Tuple.tupleExact.eq_1 ..) ?_;have hle:=zs.length;rw[an]at hle;refine aa (bj ?_ (by exact xZ hn hle rfl));have kk:∀ b o,s'.heap.get? b=some o→(s'.heap.push (j7 vs' 0)).get? b=some o:=fun b o e=>al _ e;have S'':aN s'.heap (c.Z H) (s'.heap.push (j7 vs' 0)) (c.Z H):=aN.keeps kk;refine af ⟨⟨_,aA _ rfl,rfl⟩,a8.intro (r'.keeps (s':={ s' with heap:=s'.heap.push (j7 vs' 0) }) kk r'.gens rfl) (S'.trans S'') ?_ q⟩;exact .tup (aA _ rfl) (fun hx=>by obtain⟨o,e⟩:=r'.there _ hx;exact r'.none_at_size o e) (zs.go S'')
 ·exact⟨h₁.1,F.args_object_init_2 obj _,object_init_meets A7.init.lookup A7.made (by decide) pw c.w c.A.in1 _ s₁ ⟨h₁.1,rfl,h₁.2⟩⟩
end
end
section
noncomputable def Mv(it:Addr)(i:Int)(old out:Value):Obj:={ cls:=.type "enumerate",data:=.fields #[out, .bool false, .ref it,rawInt i, .none,old] }
section
variable{c:Cx}{vals:List V}{H:Hp}{s s':Shared}
theorem Rel.yturns(ok:c.Ok)(R:Rel c vals H s){ds:List Addr}(hy:∀ y∈ds,y∈c.Y∧(∀ x,c.env.cells.lookup x≠some y)∧(c.B.get? y=none∨y∈c.W)∧265≤y)(ht:∀ y∈ds,∃ o,s'.heap.get? y=some o)(k:∀ b o,b∉ds→s.heap.get? b=some o→s'.heap.get? b=some o)(g:eL s'.gens)(os:s'.os=s.os):
  Rel c vals H s'∧aN s.heap (c.X H) s'.heap (c.X H):=by
 have hne:∀ x,x∈c.own++haddrs H→x∉ds:=fun x h m=>R.apart x h (hy x m).1;have S:aN s.heap (c.X H) s'.heap (c.X H):=fun b o e n=>⟨k b o (fun z=>n (aj _ (hy b z).1)) e,n⟩
 have tb:∀ x∈TB,x∉ds:=fun x h m=>by
  have q:∀ x∈TB,x<265:=by decide
  exact absurd (hy x m).2.2.2 (bU.mpr (q x h))
 refine⟨⟨fun x a h=>(R.vars x a h).imp id fun⟨v,q,z⟩=>⟨v,q.of (fun _ o e=>k _ o (hne _ (aj _ ok.loc)) e) fun q o hq e=>k _ o (fun z=>(hy q z).2.1 x hq) e,z.stay S⟩,?_,?_,?_,R.nodup,R.apart,?_,R.new,?_,?_,?_,g,os.trans R.os,R.hi⟩,S⟩
 ·obtain⟨m,n⟩:=R.loc;exact⟨m,n.at' fun o e=>k _ o (hne _ (aj _ ok.loc)) e⟩
 ·intro x q hq;refine nn fun hG=>?_;obtain⟨v,o,e,h⟩:=R.cel x q hq;refine hG ?_;clear hG;exact⟨v,o,k _ _ (fun z=>(hy q z).2.1 x hq) e,h⟩
 ·exact fun a o h=>(R.objs a o h).of (fun b ob hb e=>k b ob (hne _ (ak _ (bP.mpr ⟨_,h,hb⟩))) e) S
 ·intro x h;by_cases e:x∈ds
  ·exact ht x e
  ·obtain⟨o,q⟩:=R.there x h;exact⟨o,k _ _ e q⟩
 ·exact fun b o e h1 h2=>k _ _ (fun z=>by
   rcases(hy b z).2.2.1 with h | h
   ·rw[h]at e;cases e
   ·exact h1 h) (R.keep b o e h1 h2)
 ·exact R.base.of fun x o h1 _ e=>k x o (fun z=>absurd (hy x z).2.2.2 (bU.mpr h1)) e
 ·exact R.tabs.of fun x o h e=>k x o (tb x h) e
theorem Rel.notZ(R:Rel c vals H s){y:Addr}(hy:y∈c.Y)(hi:265≤y):y∉c.Z H:=fun z=>by
 rcases aw.mp z with z | z
 ·have q:∀ x∈TB,x<265:=by decide
  exact absurd hi (bU.mpr (q y z))
 ·exact R.apart y z hy
end
section
variable{c:Cx}{vals:List V}{H:Hp}
inductive Kc(c c2:Cx)(L:List V)(H:Hp)(s:Shared)(e it D:Addr)(J:Nat→List V→Prop)(n:Nat)(s':Shared):Prop
 | mk (i:Nat) (vals':List V) (old:Value) (en:n=L.length+1-i) (hi:i≤L.length) (R:Rel c2 vals' H s') (S:aN s.heap (c.Z H) s'.heap (c.Z H)) (gE:IsEnum s'.heap e it i old) (gI:s'.heap.IsListIter it D i) (j:J i vals')
inductive Gr(J:Nat→List V→Prop)(Dn:List V→Prop)(H:Hp)(i:Nat)(fl:Fl)(vals:List V)(H₃:Hp):Prop
 | mk (e:H₃=H) (h:(fl= .next∧J (i+1) vals)∨(fl= .brk∧Dn vals))
inductive KX(c:Cx)(H:Hp)(s:Shared)(J:Nat→List V→Prop)(Dn:List V→Prop)(i:Nat)(s':Shared):Flow→Prop
 | next (vals':List V) (R:Rel c vals' H s') (S:aN s.heap (c.Z H) s'.heap (c.Z H)) (q:J (i+1) vals'):KX c H s J Dn i s' .next
 | brk (vals':List V) (R:Rel c vals' H s') (S:aN s.heap (c.Z H) s'.heap (c.Z H)) (q:Dn vals'):KX c H s J Dn i s' .brk
theorem MH{s s':Shared}{J:Nat→List V→Prop}{Dn:List V→Prop}{i:Nat}{f:Flow}(p:a8 c H s FR (Gr J Dn H i) f s'):KX c H s J Dn i s' f:=by
 obtain⟨fl,vals',H',R,S,z,h,q⟩:=p;subst h;rcases q with ⟨rfl,q⟩ | ⟨rfl,q⟩
 ·cases z;exact .next vals' R S q
 ·cases z;exact .brk vals' R S q
theorem KA{α β:Type}{s s':Shared}{R:Heap→List Addr→β→α→Prop}{vals₂:List V}{v:α}(p:a8 c H s R (fun _ vals' H'=>vals'=vals₂∧H'=H) v s'):Rel c vals₂ H s'∧aN s.heap (c.Z H) s'.heap (c.Z H):=by
 obtain⟨_,_,_,R,S,_,rfl,rfl⟩:=p;exact⟨R,S⟩
theorem yN(ok:c.Ok)(hh:c.A.handled=none){xi xv x1:Str}{pi pv pt:Pos}{k:Nat}{body:List Stmt}{D e it:Addr}{L:List V}{Q:Fl→List V→Hp→Prop}(nd1:e≠it)
  (hnY:∀ y∈ [e,it],y∉c.Y)(hye:∀ y∈ [e,it],(∀ x,c.env.cells.lookup x≠some y)∧(c.B.get? y=none∨y∈c.W)∧265≤y)
  (J:Nat→List V→Prop)(Dn:List V→Prop)(j0:J 0 vals)(keepx:∀ i vals',J i vals'→At c.names vals' x1 (.lst D L))
  (turn:∀ (i:Nat) (x:V) vals',L[i]?=some x→J i vals'→∃ vals₁,pW c.names vals' xi (.int i) vals₁∧∃ vals₂,pW c.names vals₁ xv x vals₂∧Ss ((c.addY it).addY e) vals₂ H body (Gr J Dn H i) kx)
  (done:∀ vals',(J L.length vals'∨Dn vals')→Q .next vals' H){s s₁:Shared}(R₂:Rel ((c.addY it).addY e) vals H s₁)(S₂:aN s.heap (c.Z H) s₁.heap (c.Z H))
  (gE0:IsEnum s₁.heap e it 0 .none)(gI0:s₁.heap.IsListIter it D 0)(hfr:∀ y∈ [e,it],∀ o,s.heap.get? y≠some o):
  cb c.M c.A (.forLoop (.Tuple [.Name xi pi, .Name xv pv] k pt) (.ref e) body [] c.env) (BH c H s Q) s₁:=by
 refine mM fun RR hR=>?_;have nope:∀ {H':Hp} {s'':Shared} {e:Value} {s₃:Shared} {X:Value→Shared→Prop},cF c H' s'' kx e s₃→X e s₃:=fun p=>(fI p).elim;let c2:Cx:=(c.addY it).addY e;have ok2:c2.Ok:=(ok.addY it).addY e;have yE:=hye e ah;have yI:=hye it Bh;have mE:e∈c2.Y:=ah;have mI:it∈c2.Y:=ai _ ah;have hY:∀ y∈ [e,it],y∈c2.Y∧(∀ x,c2.env.cells.lookup x≠some y)∧(c2.B.get? y=none∨y∈c2.W)∧265≤y:=all2 ⟨mE,yE⟩ ⟨mI,yI⟩;refine MA (Kc c c2 L H s e it D J) ?_ (L.length+1)
  ⟨0,vals, .none,rfl,bi _,R₂,S₂,gE0,gI0,j0⟩
 intro n s' hI NN EE nd ns;refine nn fun hG=>?_;obtain⟨i,vals',old,hE1,hi,R',S',gE,hit,j⟩:=hI;refine hG ?_;clear hG;subst hE1;refine nn fun hG=>?_;obtain⟨v,hv,zv⟩:=(R'.vars x1 _ (.inl (keepx i vals' j))).resolve_left nofun;refine hG ?_;clear hG
 cases zv.iLst with
 | @mk vs n eD nD zsD=>
 have hle:=zsD.length;have hL:s'.heap.IsList D vs.toArray:=⟨_,eD,rfl,n,rfl⟩
 have hEZ:e∉c.Z H:=R'.notZ mE yE.2.2;have hIZ:it∉c.Z H:=R'.notZ mI yI.2.2;by_cases hlt:i<L.length
 ·refine nn fun hG=>?_;obtain⟨y,hy,zy⟩:=zsD.get (aD hlt);refine hG ?_;clear hG;refine wpAny_pyNext_enum_item gE hit hL (x:=y) (by simpa using hy) nd1 fun h₁ gE₁ hit₁ gT hsz k₁=>?_;refine ns _ _ fun BB bn bb br=>wpAny_letOwnedTupleGo_enum gE₁ fun h₂ gE₂ hs₂=>?_;have k₂:∀ b ob,b≠e→h₁.get? b=some ob→h₂.get? b=some ob:=fun b ob hb e=>(hs₂.2 b hb).trans e;have hit₂:h₂.IsListIter it D (i+1):=hit₁.extBut hs₂.extBut (gO nd1);refine nn fun hG=>?_;obtain⟨oi,gi,_,_⟩:=id hit₂;refine hG ?_;clear hG;obtain⟨R₄,S₄⟩:=R'.yturns (s':={ s' with heap:=h₂,toks:=s'.toks+1 }) ok2 hY (all2 ⟨_,gE₂⟩ ⟨_,gi⟩) (fun b ob hb e'=>k₂ b ob (fun q=>hb (q▸ah)) (k₁ b ob (fun q=>hb (q▸ah)) (fun q=>hb (q▸Bh)) e')) R'.gens rfl;have hTn:s'.heap.objs.size≠e:=fun q=>dh _ (q▸bu gE);refine nn fun hG=>?_;obtain⟨vals₁,p1,vals₂,p2,hb⟩:=turn i _ vals' (aD hlt) j;refine hG ?_;clear hG;have zT:VR h₂ (c2.X H) (.tup [.int i,L[i]]) (.ref s'.heap.objs.size):=by
   refine .tup (n:=0) (k₂ _ _ hTn gT) (fun hm=>?_) (.cons (.int _ _) (.cons (zy.stay S₄) .nil));obtain⟨o,eo⟩:=R'.there s'.heap.objs.size hm;exact R'.none_at_size o eo
  have S₄Z:aN s.heap (c.Z H) h₂ (c.Z H):=fun b o eb nb=>by
   obtain⟨e1,n1⟩:=S' b o eb nb;have hbe:b≠e:=fun q=>hfr e ah o (q▸eb);have hbi:b≠it:=fun q=>hfr it Bh o (q▸eb);exact⟨k₂ b o hbe (k₁ b o hbe hbi e1),n1⟩
  have asg:CX c2 vals' H (.Tuple [.Name xi pi, .Name xv pv] k pt) (.tup [.int i,L[i]]) (fun vals'' H''=>vals''=vals₂∧H''=H) kx:=
   Asg_tuple (c:=c2) (as:=[.int i,L[i]]) hh rfl rfl (dS ok2 ⟨vals₁,p1,dS ok2 ⟨vals₂,p2,rfl,rfl⟩⟩)
  refine aK (asg _ _ R₄ zT) (fun _ s₅ p=>?_) fun _ _ p=>(fI p).elim;have S₆:=(KA p).2;refine aK (hb s₅ (KA p).1) (fun f s₆ p=>?_) fun _ _ p=>(fI p).elim;have fly:∀ S₇:aN s₅.heap (c.Z H) s₆.heap (c.Z H),∀ b ob,b∉c.Z H→h₂.get? b=some ob→s₆.heap.get? b=some ob:=fun S₇ b ob hb eb=>(S₇ b ob (S₆ b ob eb hb).1 hb).1
  cases MH p with
  | next vals₆ R₆ S₇ hq=>exact(bn (L.length+1-(i+1)) _ (by exact aH [L.length,L.length+1-i,i,L.length+1-(i+1)] 113948740556255670302628585462872472740167745 tt (su (L.length+1) i) (ag (aH [i,L.length] 9997287962706957990625346 tt hlt:(i+1)≤(L.length+1)))) ⟨i+1,vals₆,y,rfl,hlt,R₆,(S₄Z.trans S₆).trans S₇,fly S₇ _ _ hEZ gE₂,hit₂.at fun o e=>fly S₇ _ o hIZ e,hq⟩).1
  | brk vals₆ R₆ S₇ hq=>exact bb _ <| hR (a8.intro R₆.dropY.dropY ((S₄Z.trans S₆).trans S₇) .next (done _ (.inr hq)))
 ·have hii:i=L.length:=by exact aq (aH [i,L.length] 91202565463605313 tt hi) (aH [i,L.length] 73469641930833989 tt hlt)
  refine wpAny_pyNext_enum_end hh gE hit hL (Array.getElem?_eq_none (eR (hle.symm.trans hii.symm))) fun h₁ he₁=>nd _ ?_;have gE₁:h₁.get? e=_:=he₁ e _ nd1 gE;have kk:∀ b ob,b≠it→s'.heap.get? b=some ob→h₁.get? b=some ob:=fun b ob hb e'=>he₁ b ob hb e';refine nn fun hG=>?_;obtain⟨oi,gi,_⟩:=id hit;refine hG ?_;clear hG;have R₀:Rel c vals' H { s' with heap:=h₁ }:=(Rel.ygone (c:=c.addY it) (y:=e) (ok.addY it) R' yE.1 yE.2.1 (fun z=>(aF.mp z).elim nd1 (hnY e ah)) yE.2.2 (s':=s') (fun b o _ e=>e) R'.gens rfl).ygone ok yI.1 yI.2.1 (hnY it Bh) yI.2.2 (s':={ s' with heap:=h₁ }) kk R'.gens rfl;refine hR (a8.intro R₀ (fun b o eb nb=>?_) .next (done _ (.inl (hii▸j))));obtain⟨e1,n1⟩:=S' b o eb nb;exact⟨kk b o (fun q=>hfr it Bh o (q▸eb)) e1,n1⟩
theorem FP(ok:c.Ok)(hh:c.A.handled=none){xi xv x1:Str}{pi pv pt pos pc pn pa:Pos}{k:Nat}{body:List Stmt}{D:Addr}{L:List V}{Q:Fl→List V→Hp→Prop}{EX:dK}
  (hx:At c.names vals x1 (.lst D L))(hg:At c.gn c.gv "enumerate" (.type "enumerate"))(J:Nat→List V→Prop)(Dn:List V→Prop)(j0:J 0 vals)(keepx:∀ i vals',J i vals'→At c.names vals' x1 (.lst D L))
  (turn:∀ (e it:Addr) (i:Nat) (x:V) vals',L[i]?=some x→J i vals'→∃ vals₁,pW c.names vals' xi (.int i) vals₁∧∃ vals₂,pW c.names vals₁ xv x vals₂∧Ss ((c.addY it).addY e) vals₂ H body (Gr J Dn H i) kx)
  (done:∀ vals',(J L.length vals'∨Dn vals')→Q .next vals' H):S1 c vals H (.For (.Tuple [.Name xi pi, .Name xv pv] k pt) (.Call (.Name "enumerate" pn) [.Name x1 pa] [] pc) body [] pos) Q EX:=by
 intro s r;rw[arm_exec_For];refine aa (be (aa ?_));have e0:eval (.Call (.Name "enumerate" pn) [.Name x1 pa] [] pc) c.env=(do fv pc (← eval (.Name "enumerate" pn) c.env) [] (backTo pc (dD [.Name x1 pa] c.env)) (sM pc (lN [] c.env))):=rfl;refine e0.symm▸?_;refine aa (bO (l4 (EX:=EX) (Q:=fun b vals' H'=>b= .obj (.type "enumerate")∧vals=vals'∧H=H') ok hg ⟨rfl,rfl,rfl⟩ s r) fun v s₀ b vals₀ H₀ r₀ S₀ z₀ hq=>?_);refine nn fun hG=>?_;obtain⟨hE1,hE2,hE3⟩:=hq;refine hG ?_;clear hG;subst hE1;subst hE2;subst hE3;cases z₀.iObj;refine jo (c:=c) (args:=[.Name x1 pa]) (.inr (.inl ⟨_,rfl⟩)) rfl [] (df S₀ (gZ (EX:=EX) (K:=fun as vals' H'=>as= [.lst D L]∧vals=vals'∧H=H') (pos:=pc) [.Name x1 pa] rfl (dL ok hx (nu ff) ⟨rfl,rfl,rfl⟩) s₀ r₀) fun vs s₁ as vals₁ H₁ r₁ S₁ S₁' z₁ hq=>?_);refine nn fun hG=>?_;obtain⟨hE1,hE2,hE3⟩:=hq;refine hG ?_;clear hG;subst hE1;subst hE2;subst hE3;refine nn fun hG=>?_;obtain⟨v,hE1,zz⟩:=dP.one z₁;refine hG ?_;clear hG;subst hE1
 cases zz.iLst with
 | @mk vsD nD eD neD zsD=>
 refine⟨r₁.base,?_⟩;refine callType_new F.called_enumerate (by decide) (F.typeCall_enumerate_1 _) (F.newCall_enumerate_1 _) (fun obj=>F.args_object_init_2 obj _) F.entry_enumerate_new (meets_enumerate_new _ _ _) ⟨eD,?_⟩;have ka:∀ b o,s₁.heap.get? b=some o→(s₁.heap.push (il D 0)).get? b=some o:=fun b o e=>al _ e;have R₁:Rel (c.addY s₁.heap.objs.size) vals H { s₁ with heap:=s₁.heap.push (il D 0) }:=r₁.addY r₁.none_at_size ⟨_,aA _ rfl⟩ ka r₁.gens rfl;have kb:∀ b o,(s₁.heap.push (il D 0)).get? b=some o→((s₁.heap.push (il D 0)).push (Mv s₁.heap.objs.size 0 .none .none)).get? b=some o:=fun b o e=>al _ e;have gE0:((s₁.heap.push (il D 0)).push (Mv s₁.heap.objs.size 0 .none .none)).get? (s₁.heap.push (il D 0)).objs.size=some (Mv s₁.heap.objs.size 0 .none .none):=aA _ rfl;have R₂:Rel ((c.addY s₁.heap.objs.size).addY (s₁.heap.push (il D 0)).objs.size) vals H { s₁ with heap:=(s₁.heap.push (il D 0)).push (Mv s₁.heap.objs.size 0 .none .none) }:=R₁.addY R₁.none_at_size ⟨_,gE0⟩ kb r₁.gens rfl;have gI0:((s₁.heap.push (il D 0)).push (Mv s₁.heap.objs.size 0 .none .none)).IsListIter s₁.heap.objs.size D 0:=⟨_,kb _ _ (aA _ rfl),rfl,rfl⟩
 refine⟨⟨_,gE0,rfl⟩,?_⟩;rw[i6 rfl];have nd1:(s₁.heap.push (il D 0)).objs.size≠s₁.heap.objs.size:=by rw[eZ];exact Nat.succ_ne_self _
 refine aa (af (aa (be (aa (aC ?_)))));refine wpAny_pyIter_enum (it:=s₁.heap.objs.size) (i:=0) (old:=.none) gE0 ?_;refine IZ (fb (R:=BH c H s Q) ?_ fun r s' q=>by cases r with | ok f=>exact q | error e=>exact q.elim);have hz:(s₁.heap.push (il D 0)).objs.size=s₁.heap.objs.size+1:=eZ ..;have fr1:∀ y∈ [(s₁.heap.push (il D 0)).objs.size,s₁.heap.objs.size],∀ o,s₁.heap.get? y≠some o:=all2 (fun o e=>dh _ (Nat.lt_of_succ_lt (hz▸bu e:s₁.heap.objs.size+1<s₁.heap.objs.size))) fun o e=>dh _ (bu e);refine yN ok hh nd1 (fun y hy z=>(r₁.fresh (fr1 y hy)).1 (aj _ z)) (fun y hy=>⟨fun x e=>?_,(r₁.fresh (fr1 y hy)).2.1,?_⟩) J Dn j0 keepx (turn _ _) done R₂ ((S₁'.trans (aN.keeps ka)).trans (aN.keeps kb)) gE0 gI0 fun y hy o e=>?_
 ·refine nn fun hG=>?_;obtain⟨v,o,q,_⟩:=r₁.cel x y e;refine hG ?_;clear hG;exact fr1 y hy o q
 ·exact all2 (P:=fun y=>265≤y) (hz▸cQ r₁.size) r₁.size y hy
 ·by_cases z:y∈c.Z H
  ·obtain⟨o',e'⟩:=r₁.there y (ak _ z);exact fr1 y hy o' e'
  ·exact fr1 y hy o (S₁' y o e z).1
end
end
section
noncomputable abbrev SL:=List Str
noncomputable def iy{α:Type}[y9 α](l:List α):List α→List α:=l.rec (fun _=>[]) fun a _ ih m=>m.rec [] fun b m _=>if a=b then a::ih m else []
section
variable{α:Type}[y9 α]{a b:α}{l m:List α}
theorem uF(h:a=b):iy (a::l) (b::m)=a::iy l m:=if_pos h
theorem zJ(h:a≠b):iy (a::l) (b::m)= []:=if_neg h
end
theorem Fy(l:SL):∀ (m:SL) (i:Nat) (a b:Str),l.take i=m.take i→l[i]?=some a→m[i]?=some b→a≠b→iy l m=l.take i:=by
 induction l with
 | nil=>intro m i a b _ h;cases h
 | cons x l ih=>
  intro m i a b ht h1 h2 ne
  cases m with
  | nil=>cases h2
  | cons y m=>
   cases i with
   | zero=>exact zJ fun e=>ne (eV (h1.symm.trans ((bc some e).trans h2)))
   | succ i=>rw[uF (dN ht).1,ih m i a b (dN ht).2 h1 h2 ne];rfl
theorem ID(l:SL):∀ m:SL,l.take l.length=m.take l.length→iy l m=l:=by
 induction l with
 | nil=>exact fun _ _=>rfl
 | cons x l ih=>
  intro m h
  cases m with
  | nil=>exact(List.cons_ne_nil _ _ h).elim
  | cons y m=>rw[uF (dN h).1,ih m (dN h).2]
theorem Lx(l:SL):∀ m:SL,n8 (m.map .str) (l.map .str)=false→∀ i,i<l.length→l.take i=m.take i→i<m.length:=by
 induction l with
 | nil=>exact fun _ _ _ hi _=>absurd hi (jc _)
 | cons x l ih=>
  intro m h i hi ht
  cases m with
  | nil=>exact absurd h.symm au
  | cons y m=>
   cases i with
   | zero=>exact cN _
   | succ i=>
    have e:=(dN ht).1;subst e;simp only[aV,kG,V.py_str,mL,n4,dG]at h;exact Nat.succ_lt_succ (ih m h i (cR hi) (dN ht).2)
noncomputable def F3(l m:SL):Bool:=n8 (l.map .str) (m.map .str)
noncomputable def r7(l m:SL):SL:=if F3 m l then m else l
noncomputable def uz(l m:SL):SL:=if F3 l m then m else l
theorem Bv(l m:SL):F3 l m=decide ((l.map cps:LL)<m.map cps):=pD l m
theorem JA(l m:SL):n8 ((uz l m).map .str) ((r7 l m).map .str)=false:=by
 show F3 (uz l m) (r7 l m)=false;rw[Bv];unfold uz r7;rw[Bv,Bv];by_cases h1:(m.map cps:LL)<l.map cps<;>by_cases h2:(l.map cps:LL)<m.map cps
 ·exact absurd h2 (mJ _ _ h1)
 ·simp only[h1,h2,n4,qV,dG,aW,cj]
 ·simp only[h1,h2,n4,qV,dG,aW,cj,dk,not_false_eq_true]
 ·simp only[h1,h2,qV,aW,cj,dk]
  exact jH _
theorem H3{a b:Addr}(l m:SL):Bg [.lst a (l.map .str), .lst b (m.map .str)]=if F3 m l then .lst b (m.map .str)else .lst a (l.map .str):=by
 unfold Bg;simp only[aT,dZ]
 show [V.lst a (l.map .str), .lst b (m.map .str)].getD (bK (fU _ kL) 1) .none=_;unfold bK bK fU;simp only[List.getD_cons_succ,List.getD_cons_zero]
 refine x8.symm▸?_;unfold F3;cases n8 (m.map V.str) (l.map V.str)<;>rfl
theorem H5{a b:Addr}(l m:SL):Bi [.lst a (l.map .str), .lst b (m.map .str)]=if F3 l m then .lst b (m.map .str)else .lst a (l.map .str):=by
 unfold Bi;simp only[aT,dZ]
 show [V.lst a (l.map .str), .lst b (m.map .str)].getD (bK (fU _ pO) 1) .none=_;unfold bK bK fU;simp only[List.getD_cons_succ,List.getD_cons_zero]
 rw[Da,sj];unfold F3;cases n8 (l.map V.str) (m.map V.str)<;>rfl
noncomputable def m6(p:Str):SL:=Builtin.Str.partsBetween p (lQ p bG 0 p.length (p.length+1)) bG.length
noncomputable def sa(c:Str):Bool:=decide (c.length≠0) && !decide (c= ".")
noncomputable def eS(p:Str):SL:=(m6 p).filter sa
noncomputable def xS(p:Str):Bool:=!(decide (p.length<bG.length) || decide (jU p<jU bG)) && !(lQ p bG 0 p.length (p.length+1)).isEmpty && decide (p.length≤100) && decide ((m6 p).length≤100) && (m6 p).all (fun c=>bH c && decide (c.length≤100)) && iq p bG
noncomputable def l0(p q:Str):Str:=bG++kF bG (iy (r7 (eS p) (eS q)) (uz (eS p) (eS q)))
theorem th{l m:SL}(h:l.map V.str=m.map V.str):l=m:=
 (List.map_inj_right fun _ _ e=>by cases e;rfl).mp h
structure jG(p:Str):Prop where
 k:(decide (p.length<bG.length) || decide (jU p<jU bG))=false
 o:(lQ p bG 0 p.length (p.length+1)).isEmpty=false
 l:p.length≤100
 n:(m6 p).length≤100
 s:∀ c∈m6 p,bH c=true∧c.length≤100
 b:iq p bG=true
theorem B9{p:Str}(h:xS p=true):jG p:=by
 simp only[xS,bk,g9,bd,ay]at h;refine nn fun hG=>?_;obtain⟨⟨⟨⟨⟨h1,h2⟩,h3⟩,h4⟩,h5⟩,h6⟩:=h;refine hG ?_;clear hG;exact⟨h1,h2,h3,h4,h5,h6⟩
theorem xc{p c:Str}(h:c∈eS p):c∈m6 p:=(fz.mp h).1
noncomputable def Bm:Fd:=⟨23,232,231,1,["paths","sep","curdir","split_paths","isabs","s1","s2","common","i","c","prefix"],["tuple","map","fspath","isinstance","bytes","min","max","enumerate"],
 [.type "tuple", .type "map", .ref 199, .builtin "isinstance", .type "bytes", .builtin "min", .builtin "max", .type "enumerate"],["sep","curdir"]⟩
theorem JX:Bm.chk=true:=by decide +kernel
theorem LF(pm:Value)(vs:List Value)(h:vs.length=Bm.np):c8 (Bm.fd pm) ⟨vs,[]⟩=pure ((Bm.names.take Bm.np).zip vs):=by
 obtain⟨v,rfl⟩:=ri h
 kernel_rfl
theorem Hv(p q:Str)(D:Addr)(hp:jG p)(hq:jG q):eO Bm 2 [.lst D [.str p, .str q]] [] (fun b H'=>b= .str (l0 p q)):=by
 intro fx ok hh hfr hlv;refine T0.abs fun K hK=>?_;have lv2:fx.lvl+2≤20:=hlv;refine az (bB ok rfl (i3 ok 0 rfl rfl tt pt ?_));refine i3 ok 1 rfl rfl tt pt (Eg ok 2 rfl rfl (En ok 0 rfl rfl ff (LU fun Mo t it=>?_)));refine Fz (ps:=[p,q]) (x:="paths") ok hh lv2 .head (by exact am tt) ⟨_, .head,?_⟩;refine az (j9 (DS (iL (fun _ _=>rfl) (En ok 0 rfl rfl ff (Li (by exact am tt) ?_)))));simp only[aV,jz,tL,Bool.not_false,Bool.not_true,aW,cj]
 refine bz (az (j9 (iL (fun _ _=>rfl) (i3 ok 3 rfl rfl tt pb ?_))));refine dQ rfl (En ok 0 rfl rfl ff (bS ⟨rL,uc (a:=.str p) (by decide) rfl (by exact am tt) ?_⟩));refine Eg ok 4 rfl rfl (vP (nf ?_));refine az (bB ok rfl (ft ⟨_, .tail .head,?_⟩));refine az (bB ok rfl (ft ⟨_, .tail (.tail .head),bz ?_⟩));refine az (BG (az (eJ ok ⟨_,["path"],["sep"],[],[]⟩ (by decide +kernel) (fun _ h=>by simp at h;subst h;exact ah) rfl ?_)));have e1:bG.length=1:=by decide
 have lp:=hp.l;have lq:=hq.l;have two:∀ {F:V→Option V→Prop} {out:List V},(∀ x,¬ F x none)→∀ {x y:V},rj F [x,y] out→∃ d d',out= [d,d']∧F x (some d)∧F y (some d'):=fun{F out} hn {x y} m=>by
  obtain⟨hl,hf⟩:=m.all2 hn
  match out,hl with
  | [d,d'],_=>exact⟨d,d',rfl,hf 0 x d rfl rfl,hf 1 y d' rfl rfl⟩
 refine En ok 0 rfl rfl ff ⟨[.str p, .str q],[("sep", .str bG)],(BD hh).c ok,by exact am tt,⟨fun _ h=>by simp at h;subst h;exact ah,?_⟩,fun env own Y B ok'=>?_⟩
 ·exact all1 ⟨ah,nu ff, .inl (.tail .head)⟩
 refine CompI.rel (fun x d=>∃ t D',jG t∧x= .str t∧d=some (.lst D' ((m6 t).map .str))) (fun x hx=>cL ok' ⟨_, .head,?_⟩) fun out ho=>?_
 ·obtain⟨t,ht,rfl⟩:∃ t,jG t∧x= .str t:=by
   exact all2 (P:=fun x=>∃ t,jG t∧x=V.str t) ⟨p,hp,rfl⟩ ⟨q,hq,rfl⟩ x hx
  refine k7 rfl rfl (by decide) rfl F.slot_str_split F.type_str_split (En ok' 0 rfl rfl ff ⟨⟨_,rfl⟩,et (a:=.str bG) ok' ah (nu ff) ?_⟩);have:=ht.l;have:=ht.n;exact IF rfl ht.k ht.o (by simp only[av];omega) (by simp only[av];exact aU ht.n (by decide)) fun D'=>⟨t,D',ht,rfl,rfl⟩
 refine nn fun hG=>?_;obtain⟨d1,d2,hE1,⟨t1,A1,_,h1,h1'⟩,⟨t2,A2,_,h2,h2'⟩⟩:=two (fun x h=>by obtain⟨_,_,_,_,h⟩:=h;cases h) ho;refine hG ?_;clear hG;subst hE1;cases h1;cases h1';cases h2;cases h2';refine fun D1=>⟨_, .tail (.tail (.tail .head)),?_⟩
 refine az (BG (az (AX ok hh ⟨_,["p"],["sep"],[],[]⟩ (by decide +kernel) (fun _ h=>by simp at h;subst h;exact ah) rfl ?_)));refine En ok 0 rfl rfl ff ⟨[.str p, .str q],[("sep", .str bG)],(BD hh).c ok,by simp,⟨fun _ h=>by simp at h;subst h;exact ah,?_⟩,fun env own Y B ok' i x hx=>?_,?_⟩
 ·exact all1 ⟨ah,nu ff, .inl (.tail .head)⟩
 ·obtain⟨t,ht,rfl⟩:∃ t,jG t∧x= .str t:=by
   have hx:=aE hx;exact all2 (P:=fun x=>∃ t,jG t∧x=V.str t) ⟨p,hp,rfl⟩ ⟨q,hq,rfl⟩ x hx
  refine cL ok' ⟨_, .head,?_⟩;refine k7 rfl rfl (by decide) rfl F.slot_str_startswith F.type_str_startswith (En ok' 0 rfl rfl ff ⟨⟨_,rfl⟩,et (a:=.str bG) ok' ah (nu ff) (xB ?_)⟩);rw[ht.b]
 refine⟨_, .tail (.tail (.tail (.tail .head))),bz ?_⟩;refine az (eJ ok ⟨_,["s"],["curdir"],[],[]⟩ (by decide +kernel) (fun _ h=>by simp at h;subst h;exact ai _ ah) rfl ?_);refine En ok 3 rfl rfl ff ⟨_,[("curdir", .str ".")],(iQ hh).c ok,by exact am tt,⟨fun _ h=>by simp at h;subst h;exact ai _ ah,?_⟩,fun env own Y B ok'=>?_⟩
 ·exact all1 ⟨ah,nu ff, .inl (.tail (.tail .head))⟩
 refine CompI.rel (fun x d=>∃ t A0 D',jG t∧x= .lst A0 ((m6 t).map .str)∧d=some (.lst D' ((eS t).map .str))) (fun x hx=>cL ok' ⟨_, .head,?_⟩) fun out ho=>?_
 ·obtain⟨t,A0,ht,rfl⟩:∃ t A0,jG t∧x= .lst A0 ((m6 t).map .str):=by
   simp only[aF,aZ,gz]at hx;rcases hx with rfl | rfl
   ·exact⟨p,_,hp,rfl⟩
   ·exact⟨q,_,hq,rfl⟩
  refine iM ok' ⟨_,["c"],["curdir"],[],[]⟩ (by decide +kernel) (fun _ h=>h) rfl ?_;have hn:=ht.n;refine En ok' 0 rfl rfl ff ⟨_,[("curdir", .str ".")],(iQ hh).c ok',by exact d4 hn rfl,⟨fun _ h=>h,?_⟩,fun env' own' Y' B' ok2=>?_⟩
  ·intro r hr;simp only[aF,aZ,gz]at hr;subst hr;exact⟨ah,nu ff, .inr ah⟩
  refine CompI.map (fun x=>match x with | .str k=>if sa k=true then some (.str k)else none | _=>none) (fun x hx=>cL ok2 ⟨_, .head,?_⟩) fun D'=>⟨t,A0,D',ht,rfl,?_⟩
  ·refine nn fun hG=>?_;obtain⟨k,hk,hE1⟩:=ap.mp hx;refine hG ?_;clear hG;subst hE1;have hkl:=(ht.s k hk).2;refine gf (mN (iL (fun _ _=>rfl) (En ok2 0 rfl rfl ff (xR (by exact jy hkl rfl) ?_))));show if decide (k.length≠0)=true then _ else _
   by_cases h0:k.length≠0
   ·refine py (aP h0) ?_;refine mN (bv rfl (En ok2 0 rfl rfl ff (et (a:=.str ".") ok2 ah (nu ff) (r9 ⟨_,rfl,?_⟩))));by_cases h1:k= "."
    ·refine(aP h1).symm▸?_;simp[sa,h1]
    ·first | refine Mm (bc not (bg h1)) ?_ | refine sy (bc not (bg h1)) ?_
     show Ev _ _ _ _ _ _;exact En ok2 0 rfl rfl ff (by simp[sa,h0,h1])
   ·refine pn (by simpa using h0) ?_;simp only[ne_eq,jT.not_not]at h0;simp[sa,h0]
  ·rw[de];unfold eS;rw[← List.filterMap_eq_filter,List.map_filterMap];congr 2;congr 1;funext k;simp only[Function.comp]
   by_cases h:sa k=true<;>simp[h,Option.guard]
 refine nn fun hG=>?_;obtain⟨d1,d2,hE1,⟨t1,_,B1,_,h1,h1'⟩,⟨t2,_,B2,_,h2,h2'⟩⟩:=two (fun x h=>by obtain⟨_,_,_,_,_,h⟩:=h;cases h) ho;refine hG ?_;clear hG;subst hE1;cases h1';cases h2'
 injection h1 with _ h1
 injection h2 with _ h2
 have f1:eS t1=eS p:=by unfold eS;rw[th h1]
 have f2:eS t2=eS q:=by unfold eS;rw[th h2]
 refine f1.symm▸?_;refine f2.symm▸?_;generalize hX:eS p=X;generalize hY:eS q=Y;have okX:∀ c∈X,bH c=true∧c.length≤100:=fun c hc=>hp.s c (xc (hX▸hc));have okY:∀ c∈Y,bH c=true∧c.length≤100:=fun c hc=>hq.s c (xc (hY▸hc));have nX:X.length≤100:=by rw[← hX];exact aU (bN _ _) hp.n
 have nY:Y.length≤100:=by rw[← hY];exact aU (bN _ _) hq.n
 have hdat:V.datas 7 [V.lst B1 (X.map .str), .lst B2 (Y.map .str)]=true:=by
  exact aO.mpr ⟨V.lst_data (lh fun c hc=>(okX c hc).1),aO.mpr ⟨V.lst_data (lh fun c hc=>(okY c hc).1),rfl⟩⟩
 have hvok:∀ a∈ [V.lst B1 (X.map .str), .lst B2 (Y.map .str)],∀ b∈ [V.lst B1 (X.map .str), .lst B2 (Y.map .str)],xM 3 a b:=by
  have:∀ (a b:Addr) (l m:SL),xM 3 (.lst a (l.map .str)) (.lst b (m.map .str)):=fun a b l m=>.lst fun x hx y hy _=>by
   refine nn fun hG=>?_;obtain⟨x,_,hE1⟩:=ap.mp hx;refine hG ?_;clear hG;subst hE1;refine nn fun hG=>?_;obtain⟨y,_,hE1⟩:=ap.mp hy;refine hG ?_;clear hG;subst hE1;exact .str
  exact all2 (all2 (this _ _ _ _) (this _ _ _ _)) (all2 (this _ _ _ _) (this _ _ _ _))
 refine fun D2=>⟨_, .tail (.tail (.tail .head)),?_⟩
 refine az (bB ok rfl (i3 ok 5 rfl rfl tt pb ?_));refine En ok 3 rfl rfl ff (GP ok hh (by exact am tt) hdat hvok ?_);rw[H3];obtain⟨S1,hS1⟩:∃ S1,(if F3 Y X then V.lst B2 (Y.map .str)else .lst B1 (X.map .str))= .lst S1 ((r7 X Y).map .str):=by
  unfold r7;by_cases h:F3 Y X=true
  ·rw[if_pos h,if_pos h];exact⟨_,rfl⟩
  ·rw[if_neg h,if_neg h];exact⟨_,rfl⟩
 refine hS1.symm▸?_;refine⟨_, .tail (.tail (.tail (.tail (.tail .head)))),?_⟩;refine az (bB ok rfl (i3 ok 6 rfl rfl tt pb ?_));refine En ok 3 rfl rfl ff (GQ ok hh (by exact am tt) hdat hvok ?_);rw[H5];obtain⟨S2,hS2⟩:∃ S2,(if F3 X Y then V.lst B2 (Y.map .str)else .lst B1 (X.map .str))= .lst S2 ((uz X Y).map .str):=by
  unfold uz;by_cases h:F3 X Y=true
  ·rw[if_pos h,if_pos h];exact⟨_,rfl⟩
  ·rw[if_neg h,if_neg h];exact⟨_,rfl⟩
 refine hS2.symm▸?_;refine⟨_, .tail (.tail (.tail (.tail (.tail (.tail .head))))),?_⟩;have hmm:=JA X Y;have okm:∀ c∈r7 X Y,bH c=true∧c.length≤100:=fun c hc=>by
  unfold r7 at hc
  split at hc
  ·exact okY c hc
  ·exact okX c hc
 have nm:(r7 X Y).length≤100:=by
  unfold r7
  split
  ·exact nY
  ·exact nX
 have nM:(uz X Y).length≤100:=by
  unfold uz
  split
  ·exact nY
  ·exact nX
 have hcom:l0 p q=bG++kF bG (iy (r7 X Y) (uz X Y)):=by unfold l0;rw[hX,hY]
 generalize r7 X Y=m1 at *;generalize uz X Y=m2 at *;refine az (bB ok rfl (En ok 5 rfl rfl ff ⟨_, .tail (.tail (.tail (.tail (.tail (.tail (.tail .head)))))),?_⟩));let vv:V→V→V→List V:=fun cm iv cv=>[.tup [.str p, .str q], .str bG, .str ".", .lst D2 [.lst B1 (X.map .str), .lst B2 (Y.map .str)], .bool true, .lst S1 (m1.map .str), .lst S2 (m2.map .str),cm,iv,cv, .unb]
 refine az (FP (D:=S1) (L:=m1.map .str) ok hh (.tail (.tail (.tail (.tail (.tail .head))))) (.tail (.tail (.tail (.tail (.tail (.tail (.tail .head)))))))
  (fun i vals'=>∃ iv cv,vals'=vv (.lst S1 (m1.map .str)) iv cv∧m1.take i=m2.take i) (fun vals'=>∃ iv cv D',vals'=vv (.lst D' ((iy m1 m2).map .str)) iv cv) ⟨.unb, .unb,rfl,by simp⟩ (fun i vals' h=>?_) (fun e it i x vals' hx h=>?_) fun vals' h=>?_)
 ·refine nn fun hG=>?_;obtain⟨iv,cv,hE1,_⟩:=h;refine hG ?_;clear hG;subst hE1;exact .tail (.tail (.tail (.tail (.tail .head))))
 ·refine nn fun hG=>?_;obtain⟨iv,cv,hE1,ht⟩:=h;refine hG ?_;clear hG;subst hE1;rw[aM,bQ]at hx;refine nn fun hG=>?_;obtain⟨a,ha,hE1⟩:=hx;refine hG ?_;clear hG;subst hE1;have hil:=(aX.mp ha).1;have hjl:=Lx m1 m2 hmm i hil ht;have hb:m2[i]?=some m2[i]:=aD hjl;generalize m2[i]=b at hb;have ok2:=(ok.addY it).addY e;refine⟨_, .tail (.tail (.tail (.tail (.tail (.tail (.tail (.tail .head))))))),_, .tail (.tail (.tail (.tail (.tail (.tail (.tail (.tail (.tail .head)))))))),?_⟩;refine az (j9 (bv rfl (En ok2 9 rfl rfl ff (dQ rfl (En ok2 6 rfl rfl ff (En ok2 8 rfl rfl ff ⟨cG,?_⟩))))));refine fq (a:=.str b) (by exact bI _) (by exact m9 hb) (by exact d4 nM rfl) (r9 ⟨_,rfl,?_⟩);by_cases hab:a=b
  ·refine(aP hab).symm▸?_;refine bz (bz ⟨rfl, .inl ⟨rfl,_,_,rfl,?_⟩⟩);rw[bT,bT,ha,hb,ht,hab]
  ·first | refine Mm (bc not (bg hab)) ?_ | refine sy (bc not (bg hab)) ?_
   refine az (bB ok2 rfl (fe (En ok2 5 rfl rfl ff (En ok2 8 rfl rfl ff ⟨_,rfl,cG,mh (.lst _ _) nofun (by exact d4 nm rfl) fun D'=>?_⟩))));rw[Dk _ (by simp;exact aH [i,ae m1] 91202565463605314 tt hil),← i8,← Fy m1 m2 i a b ht ha hb hab];exact⟨_, .tail (.tail (.tail (.tail (.tail (.tail (.tail .head)))))),az (DT ⟨rfl, .inr ⟨rfl,_,_,D',rfl⟩⟩)⟩
 ·obtain⟨iv,cv,D',rfl⟩:∃ iv cv D',vals'=vv (.lst D' ((iy m1 m2).map .str)) iv cv:=by
   rcases h with ⟨iv,cv,rfl,ht⟩ | h
   ·rw[an]at ht;rw[ID m1 m2 ht];exact⟨iv,cv,S1,rfl⟩
   ·exact h
  have hcl:∀ (l m:SL) (n:Nat),(∀ c∈l,c.length≤100)→((iy l m).map (·.length)).sum≤100*l.length∧(iy l m).length≤l.length:=fun l=>by
   induction l with
   | nil=>exact fun m n _=>⟨bi _,bo _⟩
   | cons a l ih=>
    intro m n h
    cases m with
    | nil=>exact⟨bi _,bi _⟩
    | cons b m=>
     have h1:=ih m n fun c hc=>h c (.tail _ hc);have h2:=h a (.head _);by_cases e:a=b
     ·rw[uF e];exact⟨aU (ir h2 h1.1) (eR (by rw[aT,Nat.mul_succ,gB])),wj h1.2⟩
     ·rw[zJ e];exact⟨bi _,bi _⟩
  have hc:=hcl m1 m2 0 fun c hc=>(okm c hc).2;have hj:(kF bG (iy m1 m2)).length≤100000:=by
   have h:=jp bG (iy m1 m2);rw[← jB,e1]at h;have h':(kF bG (iy m1 m2)).length≤((iy m1 m2).map (·.length)).sum+(iy m1 m2).length*1:=h;lia
  refine az (bB ok rfl (IW (iL (fun _ _=>rfl) (En ok 4 rfl rfl ff (nf ?_)))));refine En ok 1 rfl rfl ff ⟨_, .tail (.tail (.tail (.tail (.tail (.tail (.tail (.tail (.tail (.tail .head))))))))),?_⟩;refine az (ee (cK (En ok 10 rfl rfl ff (k7 rfl rfl (by decide) rfl F.slot_str_join F.type_str_join (En ok 1 rfl rfl ff ⟨⟨_,rfl⟩,En ok 7 rfl rfl ff ?_⟩)))));refine J3 (by lia) (Ds (by simp only[av];exact aH [bG.length,(kF bG (iy m1 m2)).length] 91343852510051837964375836645193368974985789507 tt e1 hj) ?_);exact hK ⟨_,[],[],rfl,rfl,rfl,by rw[hcom]⟩
end
section
noncomputable def eF{α:Type}(f:Nat):List α→List (List (α×α)):=
 f.rec (fun _=>[[]]) fun _ ih l=>l.rec [[]] fun a l _=>(aG l.length).flatMap fun k=>l[k]?.elim [] fun b=>(ih (l.take k++l.drop (k+1))).map fun more=>(a,b)::more
noncomputable def qv:List (List (Nat×Nat)):=eF 3 [0,1,2,3,4,5]
noncomputable def i4(M:List (Nat×Nat))(S:Nat→Bool):Nat:=M.countP fun p=>S p.1 != S p.2
noncomputable def wO(n:Nat)(i:Nat):Bool:=n.testBit i
noncomputable def kO(S:Nat→Bool):Nat:=([0,1,2,3,4,5]:List Nat).countP S
noncomputable def oh:List (Nat×Nat):=[(3,0),(4,1),(5,2)]
theorem u8:qv.length=15:=by decide +kernel
theorem yP:(qv.all fun M=>(aG 64).all fun n=>decide (kO (wO n)%2≤i4 M (wO n)) && decide (i4 M (wO n)≤min (kO (wO n)) (6-kO (wO n))))=true:=by decide +kernel
noncomputable def I7(a b i:Nat):Bool:=decide (a≤i) && decide (i<b)
theorem BM:((aG 7).all fun a=>(aG 7).all fun b=>decide (i4 oh (I7 a b)=min (kO (I7 a b)) (6-kO (I7 a b))))=true:=by decide +kernel
noncomputable def pY(ls:List Nat)(d:Nat):Nat→Nat→Nat
 | 0,a=>a+1
 | f+1,a=>if d≤ls.getD a 0 then pY ls d f (a+1)else a+1
noncomputable def u0(ls:List Nat)(d a:Nat):Bool:=a == 0 || decide (ls.getD (a-1) 0<d)
noncomputable def out(n:Nat)(f:Nat→Bool):Bool:=n.rec (f 0) fun n _=>f (n+1)
theorem Lm{n:Nat}{f:Nat→Bool}:out n f=f n:=by cases n<;>rfl
noncomputable def u6(ls:List Nat)(M:List (Nat×Nat)):Bool:=([1,2,3]:List Nat).all fun d=>(aG 6).all fun a=>!u0 ls d a || out (pY ls d (5-a) a) fun e=>decide (i4 M (I7 a e)=(e-a)%2)
noncomputable def HY:Nat:=1415065308390938901274442500039865089750075143449514815189474593192953817555622050692152460803750769103904421513768150259587293499234002208945597087179782806354329285137445098287713381560831987154933324100232461722178273178030196279868651649300185016438950153196361881762373639836631953021713806707388018694441214843330495319283250920848313437142787405036284056933735991141009993324154959244339412288928863392062031190745082914013587096245628383798011761088230562081659541289769748198657955969168339855572007995268563371057561385091446049748835713595356319599588493872662850992141374593429081793834259210712686828230063229603871934908711711389494564865583191456803284367976500605285625020577522897535047379889817028547773200297535612483328735236211713710458215149002149123142742131806435779438197290103189038985469198895283318829514719917988086623985764694641457615479788761066682602356958704595346559214949951277327274204319325387633772911560656590209781074621506578297491738625039821320575699069138859436931567483737634478114196496235615542423882495590253037108485955387746638659546812612514691091820318501248547126290757957351035512375991329452688984990038687792262768990496520589599500043428689977524787478528
theorem Ci:((aG 4).all fun a=>(aG 4).all fun b=>(aG 4).all fun c=>(aG 4).all fun d=>(aG 4).all fun e=>(qv[HY/16^(a+4*b+16*c+64*d+256*e)%16]?).any (u6 [a,b,c,d,e]))=true:=by decide +kernel
end
section
noncomputable def Be(p:Int×Int):V:=.tup [.int p.1, .int p.2]
noncomputable def x6(b:V)(M:List (Int×Int)):Prop:=∃ D,b= .lst D (M.map Be)
theorem HQ{α:Type}(l:List α){a b:Nat}(hab:a≤b)(hb:b≤l.length):gJ l (some (a:Int)) (some (b:Int)) none=(l.drop a).take (b-a):=by
 have e:fg (some (a:Int)) (some (b:Int)) none l.length=((a:Int),(b:Int),1):=by
  simp only[fg]
  have h1: ¬ (a:Int)<0:=yS.mpr (bI a);have h2: ¬ (b:Int)<0:=yS.mpr (bI b);have h3:=xY (aU hab hb);have h4:=xY hb;simp[h1,h2,h3,h4]
 unfold gJ;rw[e,sP,k9]
noncomputable def zB:Fd:=⟨28,254,253,1,["row"],["range","len"],[.type "range", .builtin "len"],["row"]⟩
theorem DK:zB.chk=true:=by decide +kernel
theorem GJ(pm:Value)(vs:List Value)(h:vs.length=zB.np):c8 (zB.fd pm) ⟨vs,[]⟩=pure ((zB.names.take zB.np).zip vs):=by
 obtain⟨v,rfl⟩:=ri h
 kernel_rfl
theorem Ju{α:Type}(f:Nat)(l:List α)(hf:f≤2)(hl:l.length=2*f):(eF f l).length≤15:=by
 cases f with
 | zero=>exact am tt
 | succ f=>
  cases f with
  | zero=>obtain⟨a,b,rfl⟩:=ww hl;exact am tt
  | succ f=>
   cases f with
   | zero=>
    cases l with
    | nil=>cases hl
    | cons a l=>obtain⟨b,c,d,rfl⟩:=Gh (xJ hl);exact am tt
   | succ f=>exact(fG _ (gH (gH hf))).elim
theorem Ay{α:Type}(f:Nat):∀ (l:List α) (M:List (α×α)),M∈eF f l→M.length≤f:=by
 induction f with
 | zero=>exact fun l M h=>(ao.mp h)▸bo 0
 | succ f ih=>
  intro l M h
  cases l with
  | nil=>exact(ao.mp h)▸bi _
  | cons a l=>
   refine nn fun hG=>?_;obtain⟨k,_,h⟩:=cZ.mp h;refine hG ?_;clear hG
   cases e:l[k]? with
   | none=>rw[e]at h;cases h
   | some b=>
    rw[e]at h;obtain⟨m,hm,rfl⟩:=ap.mp h;exact wj (ih _ m hm)
theorem Cb{α β:Type}{F:α→β→Prop}{l:List α}{m:List β}(P:Paired F l m):∀ {j:Nat} {a:α},l[j]?=some a→∃ b,m[j]?=some b∧F a b:=by
 induction P with
 | nil=>intro j a h;cases h
 | cons hf t ih=>
  intro j a h
  cases j with
  | zero=>exact⟨_,rfl,eV h▸hf⟩
  | succ j=>exact ih h
theorem DH(a:Addr)(D:Addr)(ns:List Int):bw (V.lst D (aY ns)).py (V.lst a []).py=ns.isEmpty:=by
 cases ns<;>rfl
theorem xu(D:Addr)(ns:List Int)(n:Nat):V.data (n+1) (.lst D (aY ns))=true:=by
 refine V.lst_data ?_;rw[V.datas_all,ay];intro v hv;refine nn fun hG=>?_;obtain⟨k,_,hE1⟩:=ap.mp hv;refine hG ?_;clear hG;subst hE1;cases n<;>rfl
theorem Hs:∀ (f:Nat) (ns:List Int) (D:Addr),f≤3→ns.length=2*f→eO zB f [.lst D (aY ns)] [] (fun b H'=>∃ D' out,b= .lst D' out∧Paired x6 out (eF f ns)):=by
 intro f
 induction f with
 | zero=>
  intro ns D _ hl fx ok hh hfr hlv;refine T0.abs fun K hK=>?_;obtain rfl:ns= []:=nS.mp (by trivial);refine az (j9 (bv rfl (En ok 0 rfl rfl ff (fH rfl ⟨by simp[av],fun a=>uR ok (xu D [] 7) rfl ⟨_,rfl,?_⟩⟩))));rw[DH];simp only[ut,dG]
  refine az (ee (fH rfl (fH rfl ⟨by simp[av],fun a=>⟨by exact cN _,fun a'=>?_⟩⟩)));exact hK ⟨_,[],[],rfl,rfl,rfl,a',_,rfl, .cons ⟨a,rfl⟩ .nil⟩
 | succ f ih=>
  intro ns D hf hl fx ok hh hfr hlv;refine T0.abs fun K hK=>?_;obtain⟨a,l,rfl⟩:∃ a l,ns=a::l:=by
   cases ns with
   | nil=>simp at hl
   | cons a l=>exact⟨a,l,rfl⟩
  have hll:l.length=2*f+1:=by simp at hl;exact aq (aH [l.length,f] 2813976321189348935040540522860918079555 tt hl) (aH [l.length,f] 384250746939464902341538682763751723011 tt hl)
  have sz:(aY (a::l)).length≤av:=by simp only[aY,an,aT,av];exact aH [fx.lvl,f,l.length] 1532495544458399620582377780009342030239179002932625537 tt hlv hll
  refine az (j9 (bv rfl (En ok 0 rfl rfl ff (fH rfl ⟨by simp[av],fun a'=>uR ok (xu D _ 7) rfl ⟨_,rfl,?_⟩⟩))));rw[DH];simp only[tL,aW,cj]
  refine bz (az (ee (IV ok ⟨_,["k","more"],["row"],["_law_pairings"],[.ref 254]⟩ (by decide +kernel) (fun _ h=>h) rfl rfl ?_)));have hrs:∀ n:Nat,n<8→Builtin.Range.small 1 (n:Int) 1=true∧(1≤n→lz 1 (n:Int) 1=((n-1:Nat):Int)):=by decide +kernel
  have hr:=hrs (aY (a::l)).length (by simp only[aY,an,aT];exact aH [f,l.length] 14118060214168945829411577985282758299091073 tt hf hll);have hr2:=hr.2 (by exact cN _);have hlen1:(aY (a::l)).length-1=l.length:=by simp[aY]
  rw[hlen1]at hr2;refine i3 ok 0 rfl rfl tt pt (bS (i3 ok 1 rfl rfl tt pb (En ok 0 rfl rfl ff (iT sz (xC ?_)))));refine⟨_,[("row", .lst D (aY (a::l)))],(oE hh hr.1 l.length hr2).c ok,⟨fun _ h=>h,?_⟩,fun env own Y B ok'=>?_⟩
  ·exact all1 ⟨ah,nu ff, .inl .head⟩
  let g:Nat→List (List (Int×Int)):=fun k=>l[k]?.elim [] fun b=>(eF f (l.take k++l.drop (k+1))).map fun more=>(a,b)::more;have hpair:eF (f+1) (a::l)=(aG l.length).flatMap g:=rfl;have m1:(("row" :Str),V.lst D (aY (a::l)))∈ [(("row" :Str),V.lst D (aY (a::l)))]:=ah;refine⟨fun i o=>Paired x6 o ((aG i).flatMap g)∧o.length≤15*i∧i≤5,⟨.nil,by exact bo _,by exact bm _ _⟩,fun i o h=>by lia,fun i x out hx hJ=>?_,fun out hJ=>?_⟩
  ·refine nn fun hG=>?_;obtain⟨hP,hol,hi5⟩:=hJ;refine hG ?_;clear hG;rw[aM,bQ]at hx;refine nn fun hG=>?_;obtain⟨i',hi',hE1⟩:=hx;refine hG ?_;clear hG;subst hE1;obtain⟨hil,rfl⟩:i<l.length∧i=i':=by
    rw[aX]at hi';obtain⟨h1,h2⟩:=hi';simp at h1 h2;exact⟨h1,h2⟩
   have hb:l[i]?=some l[i]:=aD hil;generalize l[i]=b at hb;have hf2:f≤2:=by exact cR hf
   have hrest:(l.take i++l.drop (i+1)).length=2*f:=by simp;exact aq (aH [l.length,f,min i l.length,i,l.length-(i+1)] 2008870441055415721683720349557219553000199181601106979455043 tt hll (bC i l.length) (ag (aH [i,l.length] 407053353393264263234 tt hil:(i+1)≤l.length))) (aH [l.length,f,l.length-(i+1),i,min i l.length] 2460631543503515089056556449396627806631854028340041022967811 tt hll (su l.length (i+1)) (dJ (aH [i,l.length] 91202565463605314 tt hil:i≤l.length)))
   refine cL ok' ⟨_, .head,rfl,?_⟩;refine i3 ok' 0 rfl rfl tt (dR (i:=28) (k:=253) rfl) ?_;refine cK (fe (et ok' m1 (nu ff) (bS ⟨_,rfl,En ok' 0 rfl rfl ff ⟨_,rfl,cG,mh (.lst _ _) nofun sz fun E1=>?_⟩⟩)));refine fe (et ok' m1 (nu ff) (cK (En ok' 0 rfl rfl ff (bS (oC ⟨_,rfl,cG,mh (.lst _ _) nofun sz fun E2=>?_⟩)))));have s1:gJ (aY (a::l)) (some 1) (some (1+(i:Int))) none=aY (l.take i):=by
    have h:=HQ (aY (a::l)) (a:=1) (b:=1+i) (by exact cy _ _) (by simp[aY];exact aH [i,l.length] 9997255050400881167040578 tt hil);have e:((1+i:Nat):Int)=1+(i:Int):=by rfl
    rw[e]at h;rw[show ((1:Nat):Int)=1 from rfl]at h;rw[h];simp[aY,i8]
   have s2:gJ (aY (a::l)) (some (1+(i:Int)+1)) none none=aY (l.drop (i+1)):=by
    have h:=pick_from (aY (a::l)) (a:=1+i+1) (by simp[aY];exact aH [i,l.length] 374141047316440678466 tt hil);have e:((1+i+1:Nat):Int)=1+(i:Int)+1:=by rfl
    rw[e]at h;rw[h];have:1+i+1=(i+1)+1:=by exact aq (aH [i] 158277675983892226511104 tt) (aH [i] 156171288396937243398400 tt)
    simp[aY,this,kr]
   refine s1.symm▸?_;refine s2.symm▸?_;refine ng (by simp only[aY,an,bM,eW,av];exact aH [fx.lvl,f,l.length,i,l.length-(i+1),min i l.length] 1897137593822620902691101945771096920877115944697890584183865648768815978988437761 tt hlv hll hil (fL l.length (i+1)) (bC i l.length)) fun E3=>?_;have e3:aY (l.take i)++aY (l.drop (i+1))=aY (l.take i++l.drop (i+1)):=by simp[aY]
   refine e3.symm▸?_;refine gY zB DK GJ f ok' hh (by trivial) rfl (ih _ E3 (by exact bJ hf) hrest) fun r hq=>?_;refine nn fun hG=>?_;obtain⟨D',out',hE1,hP'⟩:=hq;refine hG ?_;clear hG;subst hE1;have hlen':=hP'.length;have hmax:=Ju f _ hf2 hrest;have hml:=Ay f (l.take i++l.drop (i+1));have hgi:g i=(eF f (l.take i++l.drop (i+1))).map fun more=>(a,b)::more:=by show l[i]?.elim _ _=_;rw[hb];rfl
   generalize eF f (l.take i++l.drop (i+1))=PP at *;refine⟨rfl,out',iQ hh,fun j o=>Paired x6 o ((aG i).flatMap g++(PP.take j).map fun more=>(a,b)::more)∧o.length≤15*i+j∧j≤PP.length,⟨by simpa using hP,by exact aH [out.length,i] 162655708086509220400489307308097 tt hol,by exact bm _ _⟩,fun j o h=>by lia,fun y j x o hx hJ2=>?_,fun o hJ2=>?_⟩
   ·refine nn fun hG=>?_;obtain⟨hP2,hol2,hj2⟩:=hJ2;refine hG ?_;clear hG;have ok2:=ok'.addY y;refine nn fun hG=>?_;obtain⟨M,hM,Dm,hE1⟩:=Cb hP' hx;refine hG ?_;clear hG;subst hE1;have hjl:j<PP.length:=(aX.mp hM).1;refine cL ok2 ⟨_, .tail .head,?_⟩;refine cK (fH rfl (gq rfl ?_));refine dQ rfl (et ok2 m1 (nu ff) (bS ⟨cG,fq (a:=.int a) (by decide) rfl sz ?_⟩));refine dQ rfl (et ok2 m1 (nu ff) (En ok2 0 rfl rfl ff ⟨cG,fq (a:=.int b) (by exact bI _) ?_ sz ?_⟩))
    ·have e:=KD (i:=i);rw[e];simp[aY,hb]
    refine⟨by exact am tt,⟨by exact cN _,fun E4=>En ok2 1 rfl rfl ff (ng ?_ fun E5=>?_)⟩⟩
    ·have:=hml M (aE hM);simp only[aT,dZ,an,av];exact aH [fx.lvl,f,M.length] 5846006560767600102609154000794523956385941553217 tt hlv this
    refine⟨?_,?_,by simp;exact aH [o.length,i,j] 11531495501229631411101083531804575330730049 tt hol2,by trivial⟩
    ·intro z v h
     cases h with
     | head=>exact .inr .head
     | tail h=>
      cases h with
      | head=>exact .inl rfl
      | tail h=>nomatch h
    ·rw[bT,hM];simp only[lH,cC,aV,jz]
     rw[← fE];exact hP2.snoc ⟨E5,rfl⟩
   ·refine nn fun hG=>?_;obtain⟨hP2,hol2,hj2⟩:=hJ2;refine hG ?_;clear hG;rw[hlen',cY]at hP2;refine⟨?_,by exact aH [out'.length,PP.length,o.length,i] 792812045626183536156321999258186309857916451575300163 tt hlen' hmax hol2,by exact aH [f,l.length,i] 14036809811734965817125207725868289500550115868278913 tt hf hll hil⟩;rw[po,rg];simp only[a0,uu,cW]
    rw[hgi];exact hP2
  ·intro D';obtain⟨hP,_⟩:=hJ;rw[an,dX]at hP;exact hK ⟨_,[],[],rfl,rfl,rfl,D',out,rfl,by rw[hpair];exact hP⟩
end
section
section
variable{c:Cx}{vals:List V}{H:Hp}{EX:dK}{Q:V→List V→Hp→Prop}
theorem vf(d:Fd)(hd:d.chk=true)(n:Nat)(ok:c.Ok)(hh:c.A.handled=none)(hl:c.lvl+(n+1)≤20){as:List V}(hb:∀ H,jX c vals H d as as)(ha:as.length=d.np){a:Addr}{mo mo₁:bW}{H₁:Hp}(pt:du H a mo mo₁ H₁)
  {Qf:V→bW→Prop}(spec:eO d n as [(a,mo)] (fun b H'=>∃ mo',H'= [(a,mo')]∧Qf b mo'))(q:∀ b mo',Qf b mo'→mo'=mo₁∧Q b vals H₁):Tn c vals H as (fun vs=>call (.ref d.a) vs) VR Q EX:=fun s vs r z=>by
 refine bO (IH (EX:=EX) (Q:=fun b vals' H'=>vals'=vals∧∃ mo',du H a mo mo' H'∧Qf b mo') d hd n ok hh hl hb ha pt.inH spec (fun b mo' H' p qf=>⟨rfl,mo',p,qf⟩) s vs r z) fun v s' b vals' H' r' S zr hq=>?_;refine nn fun hG=>?_;obtain⟨h1,mo',p,qf⟩:=hq;refine hG ?_;clear hG;subst h1;obtain⟨rfl,hq⟩:=q b mo' qf;obtain rfl:=p.uniq (aJ.mp r.nodup).2.1 pt;exact a8.intro r' S zr hq
end
theorem B8{α:Type}(l:List α)(a:Nat):gJ l (some (a:Int)) none none=l.drop a:=by
 by_cases h:a≤l.length
 ·exact pick_from l h
 ·have e:fg (some (a:Int)) none none l.length=((l.length:Int),(l.length:Int),1):=by
   simp only[fg]
   have h1: ¬ (a:Int)<0:=by omega
   have h2:max (0:Int) (min (a:Int) l.length)=l.length:=by omega
   simp[h1,h2]
  unfold gJ;rw[e,sP,k9];simp only[Nat.sub_self,List.take_zero]
  exact(List.drop_eq_nil_of_le (by exact Nat.le_of_not_le h)).symm
theorem CH:∀ (ps:PL),(∀ p∈ps,p.1.length≤100∧p.2.length≤100)→(c7 ps).length≤200*ps.length:=fun ps h=>by
 have cat:∀ p:Str×Str,(qw p).length≤p.1.length+p.2.length:=fun p=>by
  have h:=jp d3 [p.1,p.2];rw[← jB]at h;have e:d3.length=0:=by decide
  have h':(qw p).length≤([p.1,p.2].map (·.length)).sum + [p.1,p.2].length*d3.length:=h;simpa[e]using h'
 have h1:=jp d3 (ps.map qw);rw[← jB]at h1;have e:d3.length=0:=by decide
 have h2:(c7 ps).length≤((ps.map qw).map (·.length)).sum+(ps.map qw).length*d3.length:=h1;have h3:((ps.map qw).map (·.length)).sum≤200*ps.length:=by
  clear h1 h2
  induction ps with
  | nil=>simp
  | cons p ps ih=>
   have w1:=ih fun q hq=>h q (.tail _ hq);have hp:=h p (.head _);have:=cat p;simp only[aV,cH,aT]
   lia
 rw[e]at h2;exact aU h2 h3
noncomputable def I3(s:Str):Str:=if s.length≠0 then s else bG
noncomputable def oz(top:Str)(st:PL×PL):PL×PL:=if I3 (c7 st.1)≠top then (st.1.dropLast,st.2++ [ke (c7 st.1)])else st
noncomputable def eG(st:PL×PL)(p:Str×Str):PL×PL:=(st.1++ [(bG,p.2)],st.2++ [ke (c7 (st.1++ [(bG,p.2)]))])
noncomputable def iO(top:Str)(st:PL×PL):Nat→PL×PL
 | 0=>st
 | n+1=>oz top (iO top st n)
noncomputable def qr(c:PL):PL:=c.map fun p=>(bG,p.2)
noncomputable def tP(p1 p2:Str)(c1:PL):PL×PL:=iO (l0 p1 p2) (qr c1,[]) 3
noncomputable def mC(p1 p2:Str)(c1 c2:PL):PL×PL:=(c2.drop (tP p1 p2 c1).1.length).foldl eG (tP p1 p2 c1)
noncomputable def lV(p1 p2:Str)(c1 c2:PL):PL:=(mC p1 p2 c1 c2).2++if I3 (c7 (mC p1 p2 c1 c2).1)≠p2∨dC (mC p1 p2 c1 c2).1≠(c7 (mC p1 p2 c1 c2).1).length then [((d3,d3):Str×Str)]else []
noncomputable def kB(w:PL)(n:Nat):Prop:=w.length≤n∧∀ p∈w,p.1=bG∧p.2.length≤100
theorem w3:bG.length=1:=by decide
theorem kB.lens{w:PL}{n:Nat}(h:kB w n):∀ p∈w,p.1.length≤100∧p.2.length≤100:=fun p hp=>by
 obtain⟨h1,h2⟩:=h.2 p hp;rw[h1,w3];trivial
theorem kB.big{w:PL}{n:Nat}(h:kB w n):∀ p∈w,p.1.length≤1000∧p.2.length≤1000:=fun p hp=>by
 have w1:=h.lens p hp;exact⟨aH [p.fst.length] 1237979938854941945818296352833 tt w1.1,aH [p.snd.length] 1237979938854941945818296352833 tt w1.2⟩
theorem kB.str{w:PL}{n:Nat}(h:kB w n)(hn:n≤4):(c7 w).length≤1000:=by
 have:=CH w h.lens;have:=h.1;lia
theorem kB.len{w:PL}{n:Nat}(h:kB w n)(hn:n≤4):0≤dC w∧dC w≤200*w.length:=by
 have hl:=h.lens;clear h
 induction w with
 | nil=>simp[dC]
 | cons p w ih=>
  have h1:=ih fun q hq=>hl q (.tail _ hq);have h2:=hl p (.head _);have e:dC (p::w)=((p.1.length+p.2.length:Nat):Int)+dC w:=by rfl
  rw[e];simp only[aT]
  lia
theorem kB.drop{w:PL}{n:Nat}(h:kB w n):kB w.dropLast n:=⟨by rw[List.length_dropLast];have:=h.1;exact aH [ae w,n,ae w-1] 98532471886726840512938049 tt this (fL (ae w) 1),fun p hp=>h.2 p (List.dropLast_subset _ hp)⟩
theorem kB.up{top:Str}{w o:PL}{n:Nat}(h:kB w n):∀ k,kB (iO top (w,o) k).1 n
 | 0=>h
 | k+1=>by
  have ih:=kB.up (top:=top) (o:=o) h k;show kB (oz top (iO top (w,o) k)).1 n;unfold oz
  split
  ·exact ih.drop
  ·exact ih
theorem nk(top:Str)(st:PL×PL):∀ k,(iO top st k).2.length≤st.2.length+k
 | 0=>bo _
 | k+1=>by
  have ih:=nk top st k;show (oz top (iO top st k)).2.length≤_;unfold oz
  split
  ·simp;exact cf ih
  ·exact cQ ih
section
variable{c:Cx}{vals:List V}{H:Hp}{EX:dK}{Q:V→List V→Hp→Prop}
theorem G0(ok:c.Ok)(hh:c.A.handled=none)(hlv:c.lvl+2≤20){p1 p2 p3 p4 pos:Pos}{k:Nat}{w d:Addr}{l:PL}{n:Nat}(hw:At c.names vals "walker" (.ref w))(hg:At c.gn c.gv "str" (.type "str"))(hm:iK H w (.acc d (l.map aB)))(hl:kB l n)(hn:n≤4)(q:Q (.str (I3 (c7 l))) vals H):
  Ev c vals H (.BoolOp .Or [.Call (.Name "str" p1) [.Name "walker" p2] [] p3, .Constant (.str "/") k p4] pos) Q EX:=by
 have hs:=hl.str hn;have h1:=hl.1;refine Nc (uo ff tt (l4 ok hg ⟨_,rfl, .inr (.inl ⟨_,rfl⟩),dL ok hw (nu ff) (yq ok hh hlv hm hl.big (by exact aH [n,ae l] 1237980241086470314407500972097 tt hn h1) (xR (by exact jy hs rfl) ?_))⟩));unfold I3 at q;by_cases h0:(c7 l).length≠0
 ·rw[if_pos h0]at q;rw[if_pos (aP h0)];exact q
 ·rw[if_neg h0]at q;rw[if_neg (by simpa using h0)];exact ft q
theorem GY(ok:c.Ok)(hh:c.A.handled=none)(hlv:c.lvl+2≤20){p1 p2 p3 p4 p5 p6 p7 p9 p10:Pos}{w d a:Addr}{l o:PL}{n:Nat}{H':Hp}{Q:Fl→List V→Hp→Prop}(hw:At c.names vals "walker" (.ref w))(hp:At c.names vals "passed" (.ref a))(hg:At c.gn c.gv "str" (.type "str"))(hg':At c.gn c.gv "split" (.ref 227))
  (hline:(p2.endLine == p9.line)=true)(hm:iK H w (.acc d (l.map aB)))(hl:kB l n)(hn:n≤4)(hol:o.length≤1000)(pt:du H a (.list (o.map aB)) (.list ((o++ [ke (c7 l)]).map aB)) H')(q:Q .next vals H'):
  S1 c vals H (.Expr (.Call (.Attribute (.Name "passed" p1) "append" p2) [.Call (.Name "split" p3) [.Call (.Name "str" p4) [.Name "walker" p5] [] p6] [] p7] [] p9) p10) Q EX:=by
 have h1:=hl.1;refine gd ok rfl (dp rfl rfl (by exact am tt) hline gV gU (dL ok hp (nu ff) ⟨⟨a,_, .inl ⟨rfl,pt.inH⟩⟩,?_⟩));refine uo ff tt (l4 ok hg' ⟨_,rfl,dR (i:=22) (k:=226) rfl,?_⟩);refine uo ff tt (l4 ok hg ⟨_,rfl, .inr (.inl ⟨_,rfl⟩),dL ok hw (nu ff) (yq ok hh hlv hm hl.big (by exact aH [n,ae l] 1237980241086470314407500972097 tt hn h1) ?_)⟩);refine gY kR xw Ab 1 ok hh hlv rfl (vk _ (hl.str hn)) fun b e=>?_;subst e;exact iU ok pt hol q
end
noncomputable def wx:Fd:=⟨29,259,258,3,["paths","chains","pairing","passed","first","second","walker","head","tail","top","turn"],["_Accumulator","commonpath","range","str","split","len"],[.ref 122, .ref 232, .type "range", .type "str", .ref 227, .builtin "len"],[]⟩
theorem DJ:wx.chk=true:=by decide +kernel
theorem GI(pm:Value)(vs:List Value)(h:vs.length=wx.np):c8 (wx.fd pm) ⟨vs,[]⟩=pure ((wx.names.take wx.np).zip vs):=by
 refine nn fun hG=>?_;obtain⟨u,v,w,hE1⟩:=Gh h;refine hG ?_;clear hG;subst hE1
 kernel_rfl
structure sV where
 path:Str
 ch:PL
structure ru(p:sV):Prop where
 pa:jG p.path
 len:p.ch.length≤3
 tl:∀ q∈p.ch,q.2.length≤100
noncomputable def zH(p q:sV):PL:=lV p.path q.path p.ch q.ch
noncomputable def og(a:Addr×sV):V:=.acc a.1 (a.2.ch.map aB)
noncomputable def nT(L:List (Addr×sV))(m:Int×Int):PL:=((L[m.1.toNat]?).map (·.2)).elim [] fun p=>((L[m.2.toNat]?).map (·.2)).elim [] fun q=>zH p q
noncomputable def eE(L:List (Addr×sV))(M:List (Int×Int)):PL:=M.flatMap (nT L)
theorem Ca{L:List (Addr×sV)}{M:List (Int×Int)}{i:Nat}{i1 i2:Int}{X1 X2:Addr×sV}(hm:M[i]?=some (i1,i2))(g1:L[i1.toNat]?=some X1)(g2:L[i2.toNat]?=some X2):eE L (M.take (i+1))=eE L (M.take i)++zH X1.2 X2.2:=by
 have e:nT L (i1,i2)=zH X1.2 X2.2:=by
  unfold nT;rw[g1,g2];rfl
 have h:(M.take (i+1)).flatMap (nT L)=(M.take i).flatMap (nT L)++nT L (i1,i2):=by
  rw[bT,hm,lH,rg];simp only[a0,uu,cW]
 exact h.trans (by rw[e];exact(rfl:eE L (M.take i)++_=_))
theorem AB(p1 p2:Str)(c1 c2:PL)(h2:c2.length≤3):(lV p1 p2 c1 c2).length≤10:=by
 have h1:(tP p1 p2 c1).2.length≤3:=by
  exact nk (l0 p1 p2) (qr c1,[]) 3
 have fold:∀ (l:PL) (st:PL×PL),(l.foldl eG st).2.length=st.2.length+l.length:=fun l=>by
  induction l with
  | nil=>intro st;rfl
  | cons p l ih=>intro st;rw[gP,ih];simp[eG];exact aq (aH [ae st.snd,l.length] 156207100898028791271680 tt) (aH [ae st.snd,l.length] 26051414463575513633024 tt)
 have h3:(mC p1 p2 c1 c2).2.length≤6:=by
  unfold mC;rw[fold,eW];omega
 unfold lV;rw[aR]
 split<;>simp<;>omega
theorem Iq(L:List (Addr×sV))(hL:∀ x∈L,ru x.2)(m:Int×Int):(nT L m).length≤10:=by
 unfold nT
 cases L[m.1.toNat]? with
 | none=>exact bi _
 | some p=>
  cases hq:L[m.2.toNat]? with
  | none=>exact bi _
  | some q=>exact AB _ _ _ _ (hL q (aE hq)).len
theorem w9(L:List (Addr×sV))(hL:∀ x∈L,ru x.2):∀ (M:List (Int×Int)),(eE L M).length≤10*M.length
 | []=>by simp[eE]
 | m::M=>by
  have ih:=w9 L hL M;have h1:=Iq L hL m;have e:eE L (m::M)=nT L m++eE L M:=rfl;rw[e,aR,aT];exact aH [ae (eE L M),M.length,ae (nT L m)] 737666850584523413031458478825580426702094401 tt ih h1
theorem JR(st:PL×PL)(l:PL)(i:Nat)(p:Str×Str)(h:l[i]?=some p):(l.take (i+1)).foldl eG st=eG ((l.take i).foldl eG st) p:=by
 rw[bT,h];simp
theorem LR(l:PL):∀ (st:PL×PL),(l.foldl eG st).1=st.1++qr l:=by
 induction l with
 | nil=>intro st;simp[qr]
 | cons p l ih=>intro st;rw[gP,ih];simp[eG,qr]
theorem LP(l:PL):∀ (st:PL×PL),(l.foldl eG st).2.length=st.2.length+l.length:=by
 induction l with
 | nil=>intro st;rfl
 | cons p l ih=>intro st;rw[gP,ih];simp[eG];exact aq (aH [ae st.snd,l.length] 156207100898028791271680 tt) (aH [ae st.snd,l.length] 26051414463575513633024 tt)
noncomputable def Jt:List Stmt:=DG ((gy 29).getD 1 (.Pass nW))
noncomputable def Bf(Dp Dc:Addr)(L:List (Addr×sV))(vm pa fi se wa he ta to tu:V):List V:=[.lst Dp (L.map fun x=>.str x.2.path), .lst Dc (L.map og),vm,pa,fi,se,wa,he,ta,to,tu]
noncomputable def rh(G:Hp)(a:Addr)(out:PL):Hp:=G++ [(a, .list (out.map aB))]
theorem mG(G:Hp)(a:Addr)(o o':PL):du (rh G a o) a (.list (o.map aB)) (.list (o'.map aB)) (rh G a o'):=du.right G .head
theorem Hw{α:Type}(l:List α):l= []∨∃ l' e,l=l'++ [e]:=(List.eq_nil_or_concat l).imp id fun⟨a,b,h⟩=>⟨a,b,h.trans List.concat_eq_append⟩
section
variable{fx:Fx}{y:Addr}
theorem HU(ok:((frame wx fx).addY y).Ok)(hh:fx.A.handled=none)(hlv:fx.lvl+3≤20){Dp Dc a a1 a2:Addr}{L:List (Addr×sV)}{vm wa he ta to tu:V}{i1 i2:Int}{q1 q2:sV}{G:Hp}{out:PL}(m1:0≤i1)(m2:0≤i2)
  (g1:L[i1.toNat]?=some (a1,q1))(g2:L[i2.toNat]?=some (a2,q2))(o1:ru q1)(o2:ru q2)(nL:L.length≤100)(no:out.length≤500):
  Ss ((frame wx fx).addY y) (Bf Dp Dc L vm (.ref a) (.int i1) (.int i2) wa he ta to tu) (rh G a out) Jt (fun fl vals' H'=>fl= .next∧∃ wa he ta to tu G',vals'=Bf Dp Dc L vm (.ref a) (.int i1) (.int i2) wa he ta to tu∧H'=rh G' a (out++zH q1 q2)) kx:=by
 refine T0.abs fun Q hQ=>?_;have lv2:fx.lvl+2≤20:=by exact bJ hlv
 have szP:(L.map fun x=>V.str x.2.path).length≤av:=by exact d4 nL rfl
 have szC:(L.map og).length≤av:=by exact d4 nL rfl
 obtain⟨p1,c1⟩:=q1;obtain⟨p2,c2⟩:=q2;have n1:c1.length≤3:=o1.len;have n2:c2.length≤3:=o2.len;have t1:∀ q∈c1,q.2.length≤100:=o1.tl;have t2:∀ q∈c2,q.2.length≤100:=o2.tl;have P1:jG p1:=o1.pa;have P2:jG p2:=o2.pa;refine az (bB ok rfl (BI ok .head fun wk d=>⟨_, .tail (.tail (.tail (.tail (.tail (.tail .head))))),?_⟩));refine az (gd ok rfl (jj vU (pl:=_) rfl rfl (En ok 6 rfl rfl ff ⟨wk,d,[],rfl, .head,?_⟩)));refine iM ok ⟨_,["head","tail"],[],[],[]⟩ (by decide +kernel) je rfl ?_;refine dQ rfl (En ok 1 rfl rfl ff (En ok 4 rfl rfl ff ⟨cG,fq (a:=og (a1,⟨p1,c1⟩)) m1 (by exact m9 g1) szC ?_⟩));refine⟨_,[],lW ok hh (.acc _ _),by exact d4 n1 rfl,rt rfl,fun env own Y B ok'=>?_⟩;refine CompI.map (fun x=>match x with | .tup [_, .str t]=>some (aB (bG,t)) | _=>none) (fun x hx=>?_) fun E1=>?_
 ·refine nn fun hG=>?_;obtain⟨q,hq,hE1⟩:=ap.mp hx;refine hG ?_;clear hG;subst hE1;refine Asg_tuple hh rfl rfl (dS ok' ⟨_, .head,dS ok' ⟨_, .tail .head,?_⟩⟩);exact gq rfl (ft (En ok' 1 rfl rfl ff ⟨by exact am tt,rfl⟩))
 have hw0:(c1.map aB).filterMap (fun x=>match x with | .tup [_, .str t]=>some (aB (bG,t)) | _=>none)=(qr c1).map aB:=by
  rw[de];have:((fun x=>match x with | V.tup [_, .str t]=>some (aB (bG,t)) | _=>none)∘aB)=fun q:Str×Str=>some (aB (bG,q.2)):=by funext q;rfl
  rw[this];simp[qr,c6]
 refine hw0.symm▸?_;refine vf (H₁:=(wk, .acc d ((qr c1).map aB))::rh G a out) uT xx 0 ok hh (by exact bL (cy _ _) hlv) (fun H=>tC) rfl .head (vn wk d E1 [] _ (by simp only[dZ,an,av,qr];exact aH [ae c1] 79228162667026441627463843905 tt n1)) (fun b mo' hq=>⟨hq.2,?_⟩);refine az (bB ok rfl (i3 ok 1 rfl rfl tt (dR (i:=23) (k:=231) rfl) ?_));refine fH rfl ?_;refine dQ rfl (En ok 0 rfl rfl ff (En ok 4 rfl rfl ff ⟨cG,fq (a:=.str p1) m1 (by exact m9 g1) szP ?_⟩));refine dQ rfl (En ok 0 rfl rfl ff (En ok 5 rfl rfl ff ⟨cG,fq (a:=.str p2) m2 (by exact m9 g2) szP ?_⟩));refine⟨by exact am tt,fun E2=>gY Bm JX LF 2 ok hh (by trivial) rfl (Hv p1 p2 E2 P1 P2) fun b e=>?_⟩;subst e;refine⟨_, .tail (.tail (.tail (.tail (.tail (.tail (.tail (.tail (.tail .head)))))))),?_⟩;have k0:kB (qr c1) 3:=⟨by exact d4 n1 rfl,fun q hq=>by
  refine nn fun hG=>?_;obtain⟨r,hr,hE1⟩:=ap.mp hq;refine hG ?_;clear hG;subst hE1;exact⟨rfl,t1 r hr⟩⟩
 generalize htop:l0 p1 p2=top;refine az (qb ok rfl (i3 ok 2 rfl rfl tt pt (bS (kK ⟨_,oE hh (by decide) 3 (by decide),?_⟩))));refine⟨fun i vals H=>∃ tu,vals=Bf Dp Dc L vm (.ref a) (.int i1) (.int i2) (.ref wk) he ta (.str top) tu∧H=(wk, .acc d ((iO top (qr c1,[]) i).1.map aB))::rh G a (out++(iO top (qr c1,[]) i).2),⟨_,rfl,by simp[iO]⟩,?_,?_⟩
 ·intro i x y' vals H hx hI N hN;refine nn fun hG=>?_;obtain⟨tu,hE1,hE2⟩:=hI;refine hG ?_;clear hG;subst hE1;subst hE2;have ok2:=ok.addY y';have hi:i<3:=by
   have:=(aX.mp hx).1;simpa using this
  have ki:kB (iO top (qr c1,[]) i).1 3:=k0.up i;have li:=nk top (qr c1,[]) i;have hs:iO top (qr c1,[]) (i+1)=oz top (iO top (qr c1,[]) i):=rfl;generalize iO top (qr c1,[]) i=st at *;obtain⟨l,o⟩:=st;have li':o.length≤i:=by simpa using li
  have kil:l.length≤3:=ki.1;refine cL ok2 ⟨_, .tail (.tail (.tail (.tail (.tail (.tail (.tail (.tail (.tail (.tail .head))))))))),?_⟩;refine az (j9 (bv rfl (G0 ok2 hh lv2 (.tail (.tail (.tail (.tail (.tail (.tail .head)))))) (.tail (.tail (.tail .head))) .head ki (by exact bm _ _) (En ok2 9 rfl rfl ff (r9 ⟨_,rfl,?_⟩)))));have hst:oz top (l,o)=if I3 (c7 l)≠top then (l.dropLast,o++ [ke (c7 l)])else (l,o):=rfl
  by_cases hne:I3 (c7 l)=top
  ·first | refine DY (bc not (aP hne)) ?_ | refine sn (bc not (aP hne)) ?_
   refine bz (bz (hN ⟨x,rfl,?_⟩));rw[hs,hst,if_neg (by simpa using hne)]
  ·first | refine Mm (bc not (bg hne)) ?_ | refine sy (bc not (bg hne)) ?_
   have hfin:oz top (l,o)=(l.dropLast,o++ [ke (c7 l)]):=by rw[hst,if_pos hne]
   refine az (GY (l:=l) (o:=out++o) (H':=(wk, .acc d (l.map aB))::rh G a ((out++o)++ [ke (c7 l)])) ok2 hh lv2 (.tail (.tail (.tail (.tail (.tail (.tail .head)))))) (.tail (.tail (.tail .head))) (.tail (.tail (.tail .head))) (.tail (.tail (.tail (.tail .head)))) rfl .head ki (by exact bm _ _) (by rw[aR];exact aH [ae out,i,ae o] 5846197889723199971592079298466147602448987955658817 tt no hi li') (.tail (mG G a _ _)) ?_);refine az (gd ok2 rfl (jj vh (pl:=_) rfl rfl (En ok2 6 rfl rfl ff ⟨wk,d,_,rfl, .head,?_⟩)));refine yr ok2 (by exact bL (cy _ _) hlv) .head (by exact d4 kil rfl) ?_;rcases Hw l with rfl | ⟨l',e,rfl⟩
   ·refine .inl ⟨rfl,bz (bz (hN ⟨x,rfl,?_⟩))⟩;refine hs.symm▸?_;refine hfin.symm▸?_;simp
   ·refine .inr ⟨l'.map aB,aB e,_,by simp, .head,bz (bz (hN ⟨x,rfl,?_⟩))⟩;refine hs.symm▸?_;refine hfin.symm▸?_;simp
 ·intro vals H hI;refine nn fun hG=>?_;obtain⟨tu,hE1,hE2⟩:=hI;refine hG ?_;clear hG;subst hE1;subst hE2;have hup:tP p1 p2 c1=iO top (qr c1,[]) 3:=by unfold tP;rw[htop]
  have hin:((aG 3).map fun(i:Nat)=>V.int (0+(i:Int))).length=3:=by rfl
  refine hin.symm▸?_;refine hup▸?_;have kU:kB (tP p1 p2 c1).1 3:=by rw[hup];exact k0.up 3
  have lU:(tP p1 p2 c1).2.length≤3:=by rw[hup];have:=nk top (qr c1,[]) 3;simpa using this
  have hend:mC p1 p2 c1 c2=(c2.drop (tP p1 p2 c1).1.length).foldl eG (tP p1 p2 c1):=rfl;have hone:zH ⟨p1,c1⟩ ⟨p2,c2⟩=(mC p1 p2 c1 c2).2++if I3 (c7 (mC p1 p2 c1 c2).1)≠p2∨dC (mC p1 p2 c1 c2).1≠(c7 (mC p1 p2 c1 c2).1).length then [((d3,d3):Str×Str)]else []:=rfl
  rw[hend]at hone;clear hend;generalize tP p1 p2 c1=st at *;obtain⟨wU,oU⟩:=st;have lU':oU.length≤3:=lU;have kU1:wU.length≤3:=kU.1;have hrow:(c2.map aB).length≤av:=by simp only[an,av];exact aH [ae c2] 19342813150993437233774657 tt n2
  refine az (qb ok rfl (fe (dQ rfl (En ok 1 rfl rfl ff (En ok 5 rfl rfl ff ⟨cG,fq (a:=og (a2,⟨p2,c2⟩)) m2 (by simp[g2]) szC ?_⟩)))));refine jj l7 (pl:=_) rfl rfl (En ok 6 rfl rfl ff ⟨wk,d,_,rfl, .head,sG ok .head (by simp only[an,av];exact aH [ae wU] 19342813150993437233774657 tt kU1) ⟨_,rfl,k6 (.acc _ _),mh (.acc _ _) nofun hrow fun E3=>⟨_,iQ hh,?_⟩⟩⟩);have hpk:gJ (c2.map aB) (some ((wU.map aB).length:Int)) none none=(c2.drop wU.length).map aB:=by rw[B8,an,kr]
  refine hpk.symm▸?_;have hdl:wU.length+(c2.drop wU.length).length≤3:=by rw[eW];exact(dY (ae c2) (ae wU)).elim (fun q0=>aH [ae wU,ae c2-ae wU] 2779252764466226309664429047873 tt kU1 (c9 (aH [ae c2,ae wU] 91202565463605313 tt q0:(ae c2)≤(ae wU)))) (fun q0=>aH [ae c2,ae c2-ae wU,ae wU] 11383977779576626700420924088254529 tt n2 (ag (aH [ae wU,ae c2] 91202565463605313 tt q0:(ae wU)≤(ae c2))))
  have hdt:∀ q∈c2.drop wU.length,q.2.length≤100:=fun q hq=>t2 q (qq hq);generalize c2.drop wU.length=ds at *;have kk:∀ i,kB ((ds.take i).foldl eG (wU,oU)).1 3:=fun i=>by
   rw[LR];refine⟨?_,fun q hq=>?_⟩
   ·simp only[aR,qr,an,bM];exact aH [ae wU,ds.length,min i ds.length] 11388889925652584786544237215744065 tt hdl (cw i ds.length)
   ·rcases aw.mp hq with hq | hq
    ·exact kU.2 q hq
    ·refine nn fun hG=>?_;obtain⟨r,hr,hE1⟩:=ap.mp hq;refine hG ?_;clear hG;subst hE1;exact⟨rfl,hdt r (dO hr)⟩
  have ll:∀ i,((ds.take i).foldl eG (wU,oU)).2.length≤6:=fun i=>by
   rw[LP,bM];simp only
   exact aH [ae oU,ae wU,ds.length,min i ds.length] 13279519391157369220296115433124786254905409 tt lU' hdl (cw i ds.length)
  refine⟨fun i vals H=>∃ he ta,vals=Bf Dp Dc L vm (.ref a) (.int i1) (.int i2) (.ref wk) he ta (.str top) tu∧H=(wk, .acc d (((ds.take i).foldl eG (wU,oU)).1.map aB))::rh G a (out++((ds.take i).foldl eG (wU,oU)).2),⟨_,_,rfl,rfl⟩,?_,?_⟩
  ·intro i x y' vals H hx hI N hN;refine nn fun hG=>?_;obtain⟨he,ta,hE1,hE2⟩:=hI;refine hG ?_;clear hG;subst hE1;subst hE2;have ok2:=ok.addY y';rw[aM,bQ]at hx;refine nn fun hG=>?_;obtain⟨p,hp,hE1⟩:=hx;refine hG ?_;clear hG;subst hE1;have ki:=kk i;have ki1:=kk (i+1);have li:=ll i;have hn:=JR (wU,oU) ds i p hp;rw[hn]at ki1;generalize (ds.take i).foldl eG (wU,oU)=st at *;obtain⟨l,o⟩:=st;have ki1':kB (l++ [(bG,p.2)]) 3:=ki1;have li':o.length≤6:=li;have kil:l.length≤3:=ki.1;refine Asg_tuple hh rfl rfl (dS ok2 ⟨_, .tail (.tail (.tail (.tail (.tail (.tail (.tail .head)))))),dS ok2 ⟨_, .tail (.tail (.tail (.tail (.tail (.tail (.tail (.tail .head))))))),?_⟩⟩);refine az (gd ok2 rfl (jj FO (pl:=_) rfl rfl (En ok2 6 rfl rfl ff ⟨wk,d,_,rfl, .head,?_⟩)));refine ft (En ok2 8 rfl rfl ff ?_);refine vf (mo₁:=.acc d ((l++ [(bG,p.2)]).map aB)) (H₁:=(wk, .acc d ((l++ [(bG,p.2)]).map aB))::rh G a (out++o)) pZ Ah 0 ok2 hh (by show fx.lvl+1≤20;exact aH [fx.lvl] 15872168915973966393245761 tt hlv) (fun H=>jZ pZ rfl DE) rfl .head (wZ wk d (l.map aB) (.str bG) (.str p.2) (by simp only[an,av];exact aH [ae l] 19342813150993505953251393 tt kil) nofun nofun) (fun b mo' hq=>⟨hq.2.trans (by simp[aB]),?_⟩);refine az (GY (l:=l++ [(bG,p.2)]) (o:=out++o) (H':=(wk, .acc d ((l++ [(bG,p.2)]).map aB))::rh G a ((out++o)++ [ke (c7 (l++ [(bG,p.2)]))])) ok2 hh lv2 (.tail (.tail (.tail (.tail (.tail (.tail .head)))))) (.tail (.tail (.tail .head))) (.tail (.tail (.tail .head))) (.tail (.tail (.tail (.tail .head)))) rfl .head ki1' (by exact aH [] 613159168 tt) (by rw[aR];exact aH [ae out,ae o] 5444694741140592797371432496802771965575233 tt no li') (.tail (mG G a _ _)) ?_);exact bz (hN ⟨_,_,rfl,by rw[hn];simp[eG,fE]⟩)
  ·intro vals H hI;refine nn fun hG=>?_;obtain⟨he,ta,hE1,hE2⟩:=hI;refine hG ?_;clear hG;subst hE1;subst hE2;rw[an];have kE:=kk ds.length;have lE:=ll ds.length;rw[cY]at kE lE ⊢;generalize ds.foldl eG (wU,oU)=st at *;obtain⟨l,o⟩:=st;have kE':kB l 3:=kE;have lE':o.length≤6:=lE;have kl:=kE'.1;have hal:=kE'.len (by exact aH [] 613159168 tt);have hsl:=kE'.str (by exact aH [] 613159168 tt);generalize hpx:(if I3 (c7 l)≠p2∨dC l≠(c7 l).length then [((d3,d3):Str×Str)]else [])=px at hone;have fin:∃ wa' he' ta' to' tu' G',Bf Dp Dc L vm (.ref a) (.int i1) (.int i2) (.ref wk) he ta (.str top) tu=Bf Dp Dc L vm (.ref a) (.int i1) (.int i2) wa' he' ta' to' tu'∧(wk,bW.acc d (l.map aB))::rh G a ((out++o)++px)=rh G' a (out++(o++px)):=
    ⟨_,_,_,_,_,(wk, .acc d (l.map aB))::G,rfl,by rw[fE];rfl⟩
   have hno:(out++o).length≤1000:=by rw[aR];exact aH [ae out,ae o] 5444694741140592797371432496802771965575233 tt no lE'
   refine az (j9 (gf (gN (bv rfl (G0 ok hh lv2 (.tail (.tail (.tail (.tail (.tail (.tail .head)))))) (.tail (.tail (.tail .head))) .head kE' (by exact aH [] 613159168 tt) (dQ rfl (En ok 0 rfl rfl ff (En ok 5 rfl rfl ff ⟨cG,fq (a:=.str p2) m2 (by simp[g2]) szP (r9 ⟨_,rfl,?_⟩)⟩))))))));by_cases h1:I3 (c7 l)=p2
   ·first | refine DY (bc not (aP h1)) ?_ | refine sn (bc not (aP h1)) ?_
    refine gN (bv rfl (i3 ok 5 rfl rfl tt pb (En ok 6 rfl rfl ff (J1 ok hh lv2 .head kE'.big (by exact aH [ae l] 1152958663977285451841 tt kl) ⟨hal.1,Int.lt_of_le_of_lt hal.2 (by omega)⟩ ?_))));refine i3 ok 5 rfl rfl tt pb ?_;refine i3 ok 3 rfl rfl tt pt (En ok 6 rfl rfl ff (yq ok hh lv2 .head kE'.big (by exact aH [ae l] 1152958663977285451841 tt kl) (vO (by simp only[av];exact aH [(c7 l).length] 20769187474038880075793870856650817 tt hsl) (zG ⟨_,rfl,?_⟩))));by_cases h2:dC l=(c7 l).length
    ·have e:(dC l != ((c7 l).length:Int))=false:=by simpa using h2
     first | refine DY e ?_ | refine sn e ?_
     have hp0:px= []:=by rw[← hpx,if_neg (by simp[h1,h2])]
     subst hp0;refine bz (bz (hQ ⟨rfl,?_⟩));refine hone.symm▸?_;simpa using fin
    ·have e:(dC l != ((c7 l).length:Int))=true:=by simpa using h2
     first | refine Mm e ?_ | refine sy e ?_
     have hp1:px= [((d3,d3):Str×Str)]:=by rw[← hpx,if_pos (.inr h2)]
     subst hp1;refine az (gd ok rfl (dp rfl rfl (by decide) rfl gV gU (En ok 3 rfl rfl ff ⟨⟨a,_, .inl ⟨rfl, .tail (mG G a _ (out++o)).inH⟩⟩,gq rfl (ft (ft ⟨by simp[av],?_⟩))⟩)));exact iU ok (e:=(d3,d3)) (.tail (mG G a _ _)) hno (bz (bz (hQ ⟨rfl,hone▸fin⟩)))
   ·first | refine Mm (bc not (bg h1)) ?_ | refine sy (bc not (bg h1)) ?_
    have hp1:px= [((d3,d3):Str×Str)]:=by rw[← hpx,if_pos (.inl h1)]
    subst hp1;refine az (gd ok rfl (dp rfl rfl (by decide) rfl gV gU (En ok 3 rfl rfl ff ⟨⟨a,_, .inl ⟨rfl, .tail (mG G a _ (out++o)).inH⟩⟩,gq rfl (ft (ft ⟨by simp[av],?_⟩))⟩)));exact iU ok (e:=(d3,d3)) (.tail (mG G a _ _)) hno (bz (bz (hQ ⟨rfl,hone▸fin⟩)))
end
theorem zV(Dp Dc Dm:Addr)(L:List (Addr×sV))(M:List (Int×Int))(hL:∀ x∈L,ru x.2)(nL:L.length≤100)(hM:∀ m∈M,0≤m.1∧m.1.toNat<L.length∧0≤m.2∧m.2.toNat<L.length)(nM:M.length≤3):
  eO wx 3 [.lst Dp (L.map fun x=>.str x.2.path), .lst Dc (L.map og), .lst Dm (M.map Be)] [] (fun b H'=>∃ D,b= .lst D ((eE L M).map aB)):=by
 intro fx ok hh hfr hlv;refine T0.abs fun Q hQ=>?_;refine az (bB ok rfl (jk rfl ⟨by simp[av],fun a=>⟨_, .tail (.tail (.tail .head)),?_⟩⟩));refine az (qb ok rfl (En ok 2 rfl rfl ff ⟨_,iQ hh,?_⟩));refine⟨fun i vals H=>∃ fi se wa he ta to tu G,vals=Bf Dp Dc L (.lst Dm (M.map Be)) (.ref a) fi se wa he ta to tu∧H=rh G a (eE L (M.take i)),⟨_,_,_,_,_,_,_,[],rfl,rfl⟩,?_,?_⟩
 ·intro i x y vals H hx hI N hN;refine nn fun hG=>?_;obtain⟨fi,se,wa,he,ta,to,tu,G,hE1,hE2⟩:=hI;refine hG ?_;clear hG;subst hE1;subst hE2;have ok':=ok.addY y;rw[aM,bQ]at hx;refine nn fun hG=>?_;obtain⟨m,hm,hE1⟩:=hx;refine hG ?_;clear hG;subst hE1;have hmm:=aE hm;refine nn fun hG=>?_;obtain⟨m1,h1,m2,h2⟩:=hM m hmm;refine hG ?_;clear hG;obtain⟨i1,i2⟩:=m;have g1:L[i1.toNat]?=some L[i1.toNat]:=aD h1;have g2:L[i2.toNat]?=some L[i2.toNat]:=aD h2;have hnext:=Ca hm g1 g2;have hout:(eE L (M.take i)).length≤500:=by
   have:=w9 L hL (M.take i);have h3:(M.take i).length≤3:=by rw[bM];exact aH [M.length,min i M.length] 678514633846563712604831809 tt nM (cw i M.length)
   exact aH [ae (eE L (fw i M)),(fw i M).length] 162269736262142189967086273002733633 tt this h3
  refine Asg_tuple hh rfl rfl (dS ok' ⟨_, .tail (.tail (.tail (.tail .head))),dS ok' ⟨_, .tail (.tail (.tail (.tail (.tail .head)))),?_⟩⟩);refine T0.mono (HU ok' hh hlv m1 m2 g1 g2 (hL _ (ix h1)) (hL _ (ix h2)) nL hout) fun fl vals' H' hq=>?_;refine nn fun hG=>?_;obtain⟨hE1,wa,he,ta,to,tu,G',hE2,hE3⟩:=hq;refine hG ?_;clear hG;subst hE1;subst hE2;subst hE3;exact hN ⟨_,_,_,_,_,_,_,G',rfl,by rw[hnext];exact rfl⟩
 ·intro vals H hI;refine nn fun hG=>?_;obtain⟨fi,se,wa,he,ta,to,tu,G,hE1,hE2⟩:=hI;refine hG ?_;clear hG;subst hE1;subst hE2;rw[an,cY];have dl:∀ (G:Hp),lK (rh G a (eE L M)) a (.list ((eE L M).map aB)) G:=fun G=>by
   induction G with
   | nil=>exact .head
   | cons g G ih=>exact .tail ih
  refine T0.freeze ok (x:="passed") (dl G) (.list a _) (.tail (.tail (.tail .head))) (.tail (.tail (.tail .head))) ?_;refine az (ee (En ok 3 rfl rfl ff ?_));exact hQ ⟨_,G,[],rfl,by simp,rfl,a,rfl⟩
end
section
section
variable{α:Type}{x:Str}{a:α}{y0 y1 y2 y3 y4 y5 y6 y7:Str}{b0 b1 b2 b3 b4 b5 b6 b7:α}{ns:List Str}{vs vs':List α}
theorem At.t4(h:At ns vs x a):At (y0::y1::y2::y3::ns) (b0::b1::b2::b3::vs) x a:=.tail (.tail (.tail (.tail h)))
theorem At.t8(h:At ns vs x a):At (y0::y1::y2::y3::y4::y5::y6::y7::ns) (b0::b1::b2::b3::b4::b5::b6::b7::vs) x a:=.t4 (.t4 h)
theorem pW.t4(h:pW ns vs x a vs'):pW (y0::y1::y2::y3::ns) (b0::b1::b2::b3::vs) x a (b0::b1::b2::b3::vs'):=.tail (.tail (.tail (.tail h)))
theorem pW.t8(h:pW ns vs x a vs'):pW (y0::y1::y2::y3::y4::y5::y6::y7::ns) (b0::b1::b2::b3::b4::b5::b6::b7::vs) x a (b0::b1::b2::b3::b4::b5::b6::b7::vs'):=.t4 (.t4 h)
end
noncomputable def ew:Fd:=⟨30,264,263,1,["script","rows","k","paths","chains","marks","odd","path","chain","gone","new","orders","above","aside","order","mark","whole","missing","left","back","ranks","signs","line","every","sizes","close","wide"],
 ["range","_law_names","sum","_Accumulator","_law_pairs","sorted_list_difference","sorted","unorderable_list_difference","_law_pairings","_law_passed","min","len","max"],
 [.type "range", .ref 237, .builtin "sum", .ref 122, .ref 244, .ref 28, .builtin "sorted", .ref 35, .ref 254, .ref 259, .builtin "min", .builtin "len", .builtin "max"],["rows","k","marks","odd","orders","ranks","line"]⟩
noncomputable def kC(n:Nat):List Stmt:=(gy 30).drop n
noncomputable def fo(x:Addr×List Str):V:=.lst x.1 (x.2.map .str)
noncomputable def KR(i:Nat):Int:=([6,9,11,27]:List Int)[i]?.getD 0
noncomputable def sf(ns:List Int)(i:Nat):Int:=(gJ ns (some (i:Int)) none (some 4)).sum+KR i
noncomputable def m8(ns:List Int)(i:Nat):List Str:=namesOf (sf ns i)
noncomputable def C1:List (List Str):=[["a","a"],["a","b"]]
noncomputable def ry(ns:List Int):List (List Str):=C1++(aG 4).map (m8 ns)
theorem HR{α β:Type}(f:α→β)(l:List α)(lo hi st:Option Int):gJ (l.map f) lo hi st=(gJ l lo hi st).map f:=by
 unfold gJ;rw[an,List.map_filterMap];have e:((l.map f)[·]?)=fun(i:Nat)=>(l[i]?).map f:=by funext i;rw[aM]
 rw[e]
noncomputable def lv(sc ro k pa ch ma od p h:V)(r:List V):List V:=sc::ro::k::pa::ch::ma::od::p::h::r
theorem Nz(i:Nat)(hi:i<4):([.int 6, .int 9, .int 11, .int 27]:List V)[i]?=some (.int (KR i)):=by
 cases i with
 | zero=>rfl
 | succ i=>
  cases i with
  | zero=>rfl
  | succ i=>
   cases i with
   | zero=>rfl
   | succ i=>
    cases i with
    | zero=>rfl
    | succ i=>exact(jc i (Nat.lt_of_add_lt_add_right (n:=4) (k:=i) (m:=0) hi)).elim
theorem Iu(pm:Value)(vs:List Value)(h:vs.length=qC.np):c8 (qC.fd pm) ⟨vs,[]⟩=pure ((qC.names.take qC.np).zip vs):=by
 obtain⟨v,rfl⟩:=ri h
 kernel_rfl
section
variable{fx:Fx}{EX:dK}{Q:Fl→List V→Hp→Prop}
theorem Ii(ok:(frame ew fx).Ok)(hh:fx.A.handled=none)(hlv:fx.lvl+1≤20){ns:List Int}(hn:ns.length≤63){S:Addr}{ro k pa ch ma od p h:V}{r:List V}{H:Hp}
  (q:∀ (D:Addr) (L:List (Addr×List Str)) (k:V),L.map (·.2)=ry ns→Ss (frame ew fx) (lv (.lst S (aY ns)) (.lst D (L.map fo)) k pa ch ma od p h r) H (kC 2) Q EX):
  Ss (frame ew fx) (lv (.lst S (aY ns)) ro k pa ch ma od p h r) H (kC 0) Q EX:=by
 have szS:(aY ns).length≤av:=by exact d4 hn rfl
 refine az (bB ok rfl (jk rfl (fH rfl (ft (ft ⟨by exact am tt,fun a1=>fH rfl (ft (ft ⟨by exact am tt,fun a2=>⟨by exact am tt,fun D=>⟨_, .tail .head,?_⟩⟩⟩))⟩)))));refine az (qb ok rfl (i3 ok 0 rfl rfl tt pt (bS (kK ⟨_,oE hh (by decide) 4 (by decide),?_⟩))));refine⟨fun i vals H'=>∃ (L:List (Addr×List Str)) (k:V),vals=lv (.lst S (aY ns)) (.ref D) k pa ch ma od p h r∧H'=(D, .list (L.map fo))::H∧L.map (·.2)=C1++(aG i).map (m8 ns),⟨[(a1,(["a","a"]:List Str)),(a2,(["a","b"]:List Str))],_,rfl,rfl,rfl⟩,?_,?_⟩
 ·intro i x y vals H' hx hI N hN;refine nn fun hG=>?_;obtain⟨L,k,hE1,hE2,hL⟩:=hI;refine hG ?_;clear hG;subst hE1;subst hE2;have ok':=ok.addY y;rw[aM,bQ]at hx;refine nn fun hG=>?_;obtain⟨i',hi',hE1⟩:=hx;refine hG ?_;clear hG;subst hE1;obtain⟨hi,rfl⟩:i<4∧i=i':=by
   rw[aX]at hi';obtain⟨h1,h2⟩:=hi';simp at h1 h2;exact⟨h1,h2⟩
  have hLl:L.length=2+i:=by
   have:=bc ae hL;simp[C1]at this;exact aq (aH [L.length,i] 6847374810171287590746980419 tt this) (aH [L.length,i] 5058750170585512248188342275 tt this)
  refine cL ok' ⟨_, .tail (.tail .head),?_⟩;refine az (gd ok' rfl (dp rfl rfl (by decide) rfl iJ iI (En ok' 1 rfl rfl ff ⟨⟨D,_, .inl ⟨rfl, .head⟩⟩,?_⟩)));refine i3 ok' 1 rfl rfl tt (dR (i:=25) (k:=236) rfl) ?_;refine cK (i3 ok' 2 rfl rfl tt pb ?_);refine fe (En ok' 0 rfl rfl ff (En ok' 2 rfl rfl ff ⟨_,rfl,bS ⟨_,rfl,cG,mh (.lst _ _) nofun szS fun E1=>?_⟩⟩));rw[show aY ns=ns.map V.int from rfl,HR];refine GO hh ?_;refine dQ rfl (fH rfl (bS (bS (bS (bS ⟨by exact am tt,fun E2=>En ok' 2 rfl rfl ff ⟨cG,fq (a:=.int (KR i)) (by exact bI _) (by rw[Gj];exact Nz i hi) (by exact am tt) (oC ?_)⟩⟩)))));refine gY qC Fv Iu 0 ok' hh (by trivial) rfl (BY _) fun b hb=>?_;obtain⟨a3,rfl⟩:=hb;refine cl_append ok' (mo:=.list (L.map fo)) .head (.list _) (by simp only[an,av];exact aH [i,L.length] 85070591894901495395536224556204163138 tt hi hLl) (bz (hN ⟨L++ [(a3,m8 ns i)],_,rfl,?_,?_⟩))
  ·simp[bW.set,fo,m8,sf]
  ·rw[cC,hL,po,cC];simp
 ·intro vals H' hI;refine nn fun hG=>?_;obtain⟨L,k,hE1,hE2,hL⟩:=hI;refine hG ?_;clear hG;subst hE1;subst hE2;rw[an,dX]at hL;refine T0.freeze ok (x:="rows") .head (.list D _) (.tail .head) (.tail .head) ?_;exact q D L k hL
end
end
section
section
variable{fx:Fx}{EX:dK}{Q:Fl→List V→Hp→Prop}
theorem w4{r:List Str}(h:uC r=true):r.length≤3∧∀ x∈r,x.length≤12∧bH x=true:=by
 simp only[uC,qx,bk,bd,ay]at h;exact⟨h.1.1.1.1.1,h.1.1.1.1.2⟩
noncomputable def Mk(v:V):Str:=v.onS (fun s=>s) bG
theorem x9(l:List Str):(l.map V.str).map Mk=l:=by
 rw[a9];exact ze (fun _=>rfl) l
noncomputable def Nh(v:V):Option V:=v.onL (fun _ l=>some (.str (kz bG (l.map Mk)))) none
theorem EZ(ok:(frame ew fx).Ok)(hh:fx.A.handled=none)(hlv:fx.lvl+2≤20){rs:List (List Str)}(h6:rs.length=6)(hok:∀ r∈rs,uC r=true∧(r.all fun x=>decide (x.length≤2))=true){D:Addr}{L:List (Addr×List Str)}(hL:L.map (·.2)=rs){sc k pa ch ma od p h:V}{r:List V}{H:Hp}
  (q:∀ P C M O,Ss (frame ew fx) (lv sc (.lst D (L.map fo)) k (.lst P (rs.map fun r=>V.str (iP r))) (.ref C) (.lst M []) (.lst O []) p h r) ((C, .list [])::H) (kC 6) Q EX):
  Ss (frame ew fx) (lv sc (.lst D (L.map fo)) k pa ch ma od p h r) H (kC 2) Q EX:=by
 have hLl:L.length=6:=by rw[← h6,← hL,an]
 refine az (eJ ok ⟨_,["row"],[],["join"],[.ref 220]⟩ (by decide +kernel) je rfl ?_);refine En ok 1 rfl rfl ff ⟨L.map fo,[],(iQ hh).c ok,by exact pC hLl rfl,rt rfl,fun env own Y B ok'=>?_⟩;refine CompI.map Nh (fun x hx=>?_) fun P=>?_
 ·refine nn fun hG=>?_;obtain⟨y,hy,hE1⟩:=ap.mp hx;refine hG ?_;clear hG;subst hE1;have hr:=hok y.2 (hL▸ap.mpr ⟨y,hy,rfl⟩);have hr1:=w4 hr.1;refine cL ok' ⟨_, .head,?_⟩;refine IU (i:=21) (k:=219) rfl rfl ok' .head (ft (En ok' 0 rfl rfl ff ⟨_, .lst _ _,by simp only[an,av];exact aH [y.snd.length] 19342813150993437233774657 tt hr1.1,?_⟩));refine II ok' hh (by trivial) (by decide) (fun p hp=>by have:=(hr1.2 p hp).1;have:=ay.mp hr.2 p hp;simp only[bd]at this;exact aH [p.length] 757735310800977985 tt this) hr1.1 ?_;show some (V.str (kz bG ((y.2.map V.str).map Mk)))=some _;rw[x9];rfl
 have e:(L.map fo).filterMap Nh=rs.map fun r=>V.str (iP r):=by
  rw[← hL,de,a9,← c6];have:Nh∘fo=some∘((fun r=>V.str (iP r))∘fun(x:Addr×List Str)=>x.2):=by
   funext y;show some (V.str (kz bG ((y.2.map V.str).map Mk)))=some _;rw[x9];rfl
  rw[this]
 refine e.symm▸?_;refine⟨_, .tail (.tail (.tail .head)),?_⟩;refine az (bB ok rfl (jk rfl ⟨by simp[av],fun C=>⟨_, .t4 .head,?_⟩⟩));refine az (bB ok rfl (fH rfl ⟨by simp[av],fun M=>⟨_, .t4 (.tail .head),?_⟩⟩));refine az (bB ok rfl (fH rfl ⟨by simp[av],fun O=>⟨_, .t4 (.tail (.tail .head)),?_⟩⟩));exact q P C M O
end
end
section
noncomputable def r6(ps:PL):PL:=(t7 ps).choose
theorem t9(ps:PL):m0 (ps.map vp)=(r6 ps).map vp:=(t7 ps).choose_spec.1
theorem mP(ps:PL):(r6 ps).Perm ps:=(t7 ps).choose_spec.2.1
theorem zS(ps:PL):(r6 ps).Pairwise fun a b=> ¬ gb b<gb a:=(t7 ps).choose_spec.2.2
noncomputable def jN(o c:PL):PL:=r6 (gR o c++gR c o)
noncomputable def ct(cs:List PL):PL:=cs.foldl jN []
noncomputable def i5(m c:PL):PL:=m++gR c m
noncomputable def bZ(cs:List PL):PL:=cs.foldl i5 []
theorem jW{x:Str×Str}{X Y:PL}:x∈gR X Y↔x∈X∧x∉Y:=by simp[gR]
theorem wN.nodup{X:PL}(h:wN X):X.Nodup:=ik.mpr (h.imp fun q e=>by subst e;exact jH _ q)
theorem Hm{X:PL}(h:X.Nodup):wN (r6 X):=by
 have hn:=ik.mp ((mP X).nodup_iff.mpr h);refine((zS X).and hn).imp fun{a b} q=>?_;obtain⟨q1,q2⟩:=q;refine eY fun q3=>q2 (rE (mH q3 q1))
theorem EB{o c:PL}(ho:o.Nodup)(hc:c.Nodup):(gR o c++gR c o).Nodup:=by
 rw[aJ];refine⟨ho.filter _,hc.filter _,fun a ha b hb e=>?_⟩;subst e;exact(jW.mp ha).2 (jW.mp hb).1
theorem AC{o c:PL}(ho:wN o)(hc:wN c):wN (jN o c):=Hm (EB ho.nodup hc.nodup)
theorem te{o c:PL}{x:Str×Str}:x∈jN o c↔(x∈o∧x∉c)∨(x∈c∧x∉o):=by
 unfold jN;rw[(mP _).mem_iff,aw,jW,jW]
theorem AD(o c:PL):(jN o c).length≤o.length+c.length:=by
 unfold jN;rw[(mP _).length_eq,aR];have h1:=bN (fun p=>!decide (p∈c)) o;have h2:=bN (fun p=>!decide (p∈o)) c;exact ir h1 h2
theorem wD(o c:PL):(i5 o c).length≤o.length+c.length:=by
 unfold i5;rw[aR];have h2:=bN (fun p=>!decide (p∈o)) c;exact ir (bo _) h2
structure kW(cs:List PL):Prop where
 srt:wN (ct cs)
 len:(ct cs).length≤3*cs.length
 mem:∀ x∈ct cs,∃ c∈cs,x∈c
 mlen:(bZ cs).length≤3*cs.length
 mmem:∀ x,x∈bZ cs↔∃ c∈cs,x∈c
 mnd:(bZ cs).Nodup
theorem l5(cs:List PL)(c:PL):ct (cs++ [c])=jN (ct cs) c:=by simp[ct]
theorem jP(cs:List PL)(c:PL):bZ (cs++ [c])=i5 (bZ cs) c:=by simp[bZ]
theorem kW.nil:kW []:=⟨.nil,by simp[ct],by trivial,by simp[bZ],by simp[bZ],by simp[bZ]⟩
theorem kW.snoc{cs:List PL}{c:PL}(h:kW cs)(hc:wN c)(hl:c.length≤3):kW (cs++ [c]):=by
 refine⟨?_,?_,?_,?_,?_,?_⟩
 ·rw[l5];exact AC h.srt hc
 ·rw[l5,aR];have w1:=AD (ct cs) c;have:=h.len;simp only[aT,dZ];exact aH [ae c,ae (jN (ct cs) c),ae (ct cs),cs.length] 3285673058631705601152306129951188610157943931436509691969 tt hl w1 this
 ·rw[l5];intro x hx;rcases te.mp hx with q | q
  ·refine nn fun hG=>?_;obtain⟨d,hd,hx⟩:=h.mem x q.1;refine hG ?_;clear hG;exact⟨d,aj _ hd,hx⟩
  ·exact⟨c,ak _ ah,q.1⟩
 ·rw[jP,aR];have w1:=wD (bZ cs) c;have:=h.mlen;simp only[aT,dZ];exact aH [ae c,ae (i5 (bZ cs) c),ae (bZ cs),cs.length] 3285673058631705601152306129951188610157943931436509691969 tt hl w1 this
 ·intro x;rw[jP,i5,aw,jW,h.mmem]
  constructor
  ·rintro (⟨d,hd,hx⟩ | ⟨hx,_⟩)
   ·exact⟨d,aj _ hd,hx⟩
   ·exact⟨c,ak _ ah,hx⟩
  ·intro hI;refine nn fun hG=>?_;obtain⟨d,hd,hx⟩:=hI;refine hG ?_;clear hG;rcases aw.mp hd with q | q
   ·exact .inl ⟨d,q,hx⟩
   ·rw[ao.mp q]at hx;by_cases q:∃ e∈cs,x∈e
    ·exact .inl q
    ·exact .inr ⟨hx,q⟩
 ·rw[jP,i5,aJ];refine⟨h.mnd,hc.nodup.filter _,fun a ha b hb e=>?_⟩;subst e;exact(jW.mp hb).2 ha
end
section
theorem i7{n:Nat}{l:PL}(h:∀ x∈l,j4 x):V.datas (n+1) (l.map aB)=true:=by
 rw[V.datas_all,ay];intro v hv;refine nn fun hG=>?_;obtain⟨x,hx,hE1⟩:=ap.mp hv;refine hG ?_;clear hG;subst hE1;exact gL (h x hx) n
noncomputable def C5(p:Str×Str→Bool)(v:V):Option V:=if p (Ga v)then some v else none
theorem oK(p:Str×Str→Bool)(x:Str×Str):C5 p (aB x)=if p x then some (aB x)else none:=rfl
theorem Ae(p:Str×Str→Bool)(xs:PL):(xs.map aB).filterMap (C5 p)=(xs.filter p).map aB:=by
 induction xs with
 | nil=>rfl
 | cons x xs ih=>
  rw[aV,eK,ih,nQ,oK];by_cases h:p x=true
  ·simp[h]
  ·simp[h]
section
variable{c:Cx}{vals:List V}{H:Hp}{EX:dK}
theorem J4{Q:V→List V→Hp→Prop}{as:List V}(d:Fd)(hd:d.chk=true)(hb:∀ pm (vs:List Value),vs.length=d.np→c8 (d.fd pm) ⟨vs,[]⟩=pure ((d.names.take d.np).zip vs))(n:Nat)(ok:c.Ok)(hh:c.A.handled=none)(FR:tO c [])(hl:c.lvl+(n+1)≤20)(ha:as.length=d.np)
  {Qf:V→Hp→Prop}(spec:rB d n as [] Qf)(q:∀ b,Qf b []→Q b vals H):Tn c vals H as (fun vs=>call (.ref d.a) vs) VR Q EX:=
 call_fnX (H₀:=[]) (H₁:=H) d hd (jZ d ha hb) n ok hh FR hl ha spec fun b H' e qf=>by
  cases qI e;exact q b qf
section
variable{sc:Scope}{fn gn:List Str}{gv:List Value}{fr:List (Str×V)}{env:Env}{own Y:List Addr}{B:Heap}{p1 p2 p3 p4 p5:Pos}{nm:Str}{R:Addr}{rs xs:PL}{Q:List V→Prop}
theorem Cv(ok:(gc c ⟨sc,["pair"],fn,gn,gv⟩ fr env own Y B).Ok)(hf:(nm, .lst R (rs.map aB))∈fr)(ox:∀ x∈xs,j4 x)(or:∀ x∈rs,j4 x)(q:Q ((gR xs rs).map aB)):
  CompI (gc c ⟨sc,["pair"],fn,gn,gv⟩ fr env own Y B) (.Name "pair" p1) [.Compare (.Name "pair" p2) [.NotIn] [.Name nm p3] p4] (.Name "pair" p5) (xs.map aB) Q:=by
 refine CompI.map (C5 fun x=>!decide (x∈rs)) (fun x hx=>?_) (by rw[Ae];exact q);refine nn fun hG=>?_;obtain⟨e,he,hE1⟩:=ap.mp hx;refine hG ?_;clear hG;subst hE1;refine cL ok ⟨_, .head,?_⟩;refine bv rfl (En ok 0 rfl rfl ff (et ok hf (nu ff) (Ez ok (gL (ox e he) 7) (i7 or) ⟨_,rfl,?_⟩)));refine(show ((V.pys (rs.map aB)).any fun y=>bw y (aB e).py)=decide (e∈rs) from x4 e rs).symm▸?_;by_cases h:e∈rs
 ·simp[h,oK]
 ·simp only[h,qV,Bool.not_false,dG]
  exact En ok 0 rfl rfl ff (by simp[oK,h])
theorem JY(ok:(gc c ⟨sc,["pair"],fn,gn,gv⟩ fr env own Y B).Ok)(hf:(nm, .lst R (rs.map aB))∈fr)(ox:∀ x∈xs,j4 x)(or:∀ x∈rs,j4 x)(q:Q ((xs.filter fun x=>decide (x∈rs)).map aB)):
  CompI (gc c ⟨sc,["pair"],fn,gn,gv⟩ fr env own Y B) (.Name "pair" p1) [.Compare (.Name "pair" p2) [.In] [.Name nm p3] p4] (.Name "pair" p5) (xs.map aB) Q:=by
 refine CompI.map (C5 fun x=>decide (x∈rs)) (fun x hx=>?_) (by rw[Ae];exact q);refine nn fun hG=>?_;obtain⟨e,he,hE1⟩:=ap.mp hx;refine hG ?_;clear hG;subst hE1;refine cL ok ⟨_, .head,?_⟩;refine bv rfl (En ok 0 rfl rfl ff (et ok hf (nu ff) (GE ok (gL (ox e he) 7) (i7 or) ⟨_,rfl,?_⟩)));refine(show ((V.pys (rs.map aB)).any fun y=>bw y (aB e).py)=decide (e∈rs) from x4 e rs).symm▸?_;by_cases h:e∈rs
 ·simp only[h,n4,dG]
  exact En ok 0 rfl rfl ff (by simp[oK,h])
 ·simp[h,oK]
theorem oM(ok:(gc c ⟨sc,["pair"],fn,gn,gv⟩ fr env own Y B).Ok)(q:Q (xs.map aB)):
  CompI (gc c ⟨sc,["pair"],fn,gn,gv⟩ fr env own Y B) (.Name "pair" p1) [] (.Name "pair" p5) (xs.map aB) Q:=by
 refine CompI.map some (fun x hx=>?_) (by rw[List.filterMap_some];exact q);refine nn fun hG=>?_;obtain⟨e,he,hE1⟩:=ap.mp hx;refine hG ?_;clear hG;subst hE1;exact cL ok ⟨_, .head,En ok 0 rfl rfl ff rfl⟩
end
theorem Ap(ok:c.Ok)(hh:c.A.handled=none){sc:Scope}{nx nm:Str}{p1 p2 p3 p4 p5 p6 pos:Pos}{a:V}{R:Addr}{xs rs:PL}{Q:V→List V→Hp→Prop}(hp:(⟨sc,["pair"],[nm],[],[]⟩:Cp).chk=true)(hf:nm∈c.cn)(hx:At c.names vals nx a)(ha:a≠ .unb)(hr:lS H a (xs.map aB))(hn:At c.names vals nm (.lst R (rs.map aB)))
  (ox:∀ x∈xs,j4 x)(or:∀ x∈rs,j4 x)(nx':xs.length≤1000)(q:∀ D,Q (.lst D ((gR xs rs).map aB)) vals H):
  Ev c vals H (.ListComp (.Name "pair" p5) [⟨.Name "pair" p1, .Name nx p6,[.Compare (.Name "pair" p2) [.NotIn] [.Name nm p3] p4],0⟩] sc pos) Q EX:=by
 refine iM ok ⟨sc,["pair"],[nm],[],[]⟩ hp (fun _ h=>by rw[ao.mp h];exact hf) rfl ?_;refine dL ok hx ha ⟨_,[(nm, .lst R (rs.map aB))],lW ok hh hr,by exact d4 nx' rfl,⟨fun _ h=>by rw[ao.mp h];exact hf,all1 ⟨ah,nu ff, .inl hn⟩⟩,fun env own Y B ok'=>?_⟩;exact Cv ok' ah ox or q
theorem Nd(ok:c.Ok)(hh:c.A.handled=none){sc:Scope}{nx nm:Str}{p1 p2 p3 p4 p5 p6 pos:Pos}{a:V}{R:Addr}{xs rs:PL}{Q:V→List V→Hp→Prop}(hp:(⟨sc,["pair"],[nm],[],[]⟩:Cp).chk=true)(hf:nm∈c.cn)(hx:At c.names vals nx a)(ha:a≠ .unb)(hr:lS H a (xs.map aB))(hn:At c.names vals nm (.lst R (rs.map aB)))
  (ox:∀ x∈xs,j4 x)(or:∀ x∈rs,j4 x)(nx':xs.length≤1000)(q:∀ D,Q (.lst D ((xs.filter fun x=>decide (x∈rs)).map aB)) vals H):
  Ev c vals H (.ListComp (.Name "pair" p5) [⟨.Name "pair" p1, .Name nx p6,[.Compare (.Name "pair" p2) [.In] [.Name nm p3] p4],0⟩] sc pos) Q EX:=by
 refine iM ok ⟨sc,["pair"],[nm],[],[]⟩ hp (fun _ h=>by rw[ao.mp h];exact hf) rfl ?_;refine dL ok hx ha ⟨_,[(nm, .lst R (rs.map aB))],lW ok hh hr,by exact d4 nx' rfl,⟨fun _ h=>by rw[ao.mp h];exact hf,all1 ⟨ah,nu ff, .inl hn⟩⟩,fun env own Y B ok'=>?_⟩;exact JY ok' ah ox or q
end
end
section
theorem It(pm:Value)(vs:List Value)(h:vs.length=qB.np):c8 (qB.fd pm) ⟨vs,[]⟩=pure ((qB.names.take qB.np).zip vs):=by
 obtain⟨v,rfl⟩:=ri h
 kernel_rfl
noncomputable def JH:List Stmt:=DG ((kC 6).getD 0 (.Pass nW))
theorem Hx(X Y:PL):gR (gR X Y) X= []:=by
 unfold gR;rw[List.filter_filter,List.filter_eq_nil_iff];intro a ha;simp[ha]
theorem JL(X Y:PL):(gR Y X).filter (fun x=>decide (x∈X))= []:=by
 unfold gR;rw[List.filter_filter,List.filter_eq_nil_iff];intro a ha;simp
structure oR(p:Str):Prop where
 it:∀ n,(jd p n).1.length≤1000
 srt:wN (pairsOf p)
 len:(pairsOf p).length≤3
 ok:∀ x∈pairsOf p,j4 x
theorem EC{cs:List PL}(h:kW cs)(o:∀ c∈cs,∀ x∈c,j4 x):(∀ x∈ct cs,j4 x)∧∀ x∈bZ cs,j4 x:=
 ⟨fun x hx=>let ⟨c,hc,q⟩:=h.mem x hx;o c hc x q,fun x hx=>let ⟨c,hc,q⟩:=(h.mmem x).mp hx;o c hc x q⟩
section
variable{fx:Fx}{y:Addr}
theorem Ig(ok:((frame ew fx).addY y).Ok)(hh:fx.A.handled=none)(FR:tO (frame ew fx) [])(hlv:fx.lvl+3≤20){cs:List PL}{Ls:List (Addr×sV)}(inv:kW cs)(hcs:cs.length≤5)(oc:∀ c∈cs,∀ x∈c,j4 x)(nL:Ls.length≤100){p:Str}(g:oR p)
  {sc ro k pa h go ne:V}{C M O:Addr}{r:List V}{G:Hp}:
  Ss ((frame ew fx).addY y) (lv sc ro k pa (.ref C) (.lst M ((bZ cs).map aB)) (.lst O ((ct cs).map aB)) (.str p) h (go::ne::r)) ((C, .list (Ls.map og))::G) JH
   (fun fl vals' H'=>fl= .next∧∃ a M O h go ne,vals'=lv sc ro k pa (.ref C) (.lst M ((bZ (cs++ [pairsOf p])).map aB)) (.lst O ((ct (cs++ [pairsOf p])).map aB)) (.str p) h (go::ne::r)∧H'=(C, .list ((Ls++ [(a,(⟨p,pairsOf p⟩:sV))]).map og))::G) kx:=by
 obtain⟨oo,om⟩:=EC inv oc;have inv':=inv.snoc g.srt g.len;have lo:=inv.len;have lm:=inv.mlen;have hgl:=g.len;have ri:(gR (ct cs) (pairsOf p)).length≤15:=by
  have:=bN (fun x=>!decide (x∈pairsOf p)) (ct cs);unfold gR;exact aH [cs.length,ae (ct cs),(bX (fun p_1=>!decide (p_1∈pairsOf p)) (ct cs)).length] 256404175805501054336355413905894521438401 tt hcs lo this
 have ww:(gR (pairsOf p) (ct cs)).length≤3:=by
  have:=bN (fun x=>!decide (x∈ct cs)) (pairsOf p);unfold gR;exact aH [(pairsOf p).length,(bX (fun p=>!decide (p∈ct cs)) (pairsOf p)).length] 678514633846563712604831809 tt hgl this
 have Gh:(gR (pairsOf p) (bZ cs)).length≤3:=by
  have:=bN (fun x=>!decide (x∈bZ cs)) (pairsOf p);unfold gR;exact aH [(pairsOf p).length,(bX (fun p=>!decide (p∈bZ cs)) (pairsOf p)).length] 678514633846563712604831809 tt hgl this
 have o1:∀ x∈gR (ct cs) (pairsOf p),j4 x:=fun x hx=>oo x (jW.mp hx).1;have o2:∀ x∈gR (pairsOf p) (ct cs),j4 x:=fun x hx=>g.ok x (jW.mp hx).1;refine az (bB ok rfl (BI ok (.tail (.tail (.tail .head))) fun a d=>⟨_, .t8 .head,?_⟩));refine az (j9 (bv rfl (jj vU (pl:=_) rfl rfl (En ok 8 rfl rfl ff ⟨a,d,[],rfl, .head,?_⟩))));refine i3 ok 4 rfl rfl tt (dR (i:=26) (k:=243) rfl) (En ok 7 rfl rfl ff ?_);refine gY qB Fu It 2 ok hh (by show fx.lvl+3≤20;exact aH [fx.lvl] 15881613648939705683673153 tt hlv) rfl (BX p g.it) fun b hb=>?_;obtain⟨D,rfl⟩:=hb;refine vf (mo₁:=.acc d ((pairsOf p).map aB)) (H₁:=(a, .acc d ((pairsOf p).map aB))::(C, .list (Ls.map og))::G) uT xx 0 ok hh (by show fx.lvl+1≤20;exact aH [fx.lvl] 15872168915973966393245761 tt hlv) (fun H=>tC) rfl .head (vn a d D [] _ (by simp only[dZ,an,av];exact aH [(pairsOf p).length] 79228162667026441627463843905 tt hgl)) (fun b mo' hq=>⟨hq.2,?_⟩);obtain rfl:=hq.1;refine DV (yH ⟨_,rfl,?_⟩);refine bz ?_;refine T0.freeze ok (x:="chain") .head (.acc a d _) (.t8 .head) (.t8 .head) ?_;refine az (xH ok rfl rfl (i3 ok 5 rfl rfl tt (dR (i:=2) (k:=27) rfl) (En ok 6 rfl rfl ff (En ok 8 rfl rfl ff ?_))));refine J4 r8 JV LC 0 ok hh ⟨FR.fr,FR.own⟩ (by show fx.lvl+1≤20;exact aH [fx.lvl] 15872168915973966393245761 tt hlv) rfl (Hq _ _ (ct cs) (pairsOf p) (fun H=>.lst _ _) (fun H=>.acc _ _) nofun nofun inv.srt g.srt oo g.ok (by exact aH [cs.length,ae (ct cs)] 129817960124315272554996727865671873 tt hcs lo) (by exact aH [(pairsOf p).length] 461205761213177266241 tt hgl)) fun b hb=>?_;refine nn fun hG=>?_;obtain⟨m,u,hE1⟩:=hb;refine hG ?_;clear hG;subst hE1;refine Asg_tuple hh rfl rfl (dS ok ⟨_, .t8 (.tail .head),dS ok ⟨_, .t8 (.tail (.tail .head)),?_⟩⟩);refine az (j9 (bv rfl (cK (Ap (rs:=ct cs) ok hh (by decide +kernel) (.tail _ (.tail _ (.tail _ (.head _)))) (.t8 (.tail .head)) (nu ff) (.lst _ _) (.t4 (.tail (.tail .head))) o1 oo (by exact aH [ae (gR (ct cs) (pairsOf p))] 1152958663977486778433 tt ri) fun E1=>?_))));refine Nd (rs:=ct cs) ok hh (by decide +kernel) (.tail _ (.tail _ (.tail _ (.head _)))) (.t8 (.tail (.tail .head))) (nu ff) (.lst _ _) (.t4 (.tail (.tail .head))) o2 oo (by exact aH [ae (gR (pairsOf p) (ct cs))] 1152958663977285451841 tt ww) fun E2=>?_;rw[Hx,JL];refine ng (by simp[av]) fun E3=>fH rfl ⟨by simp[av],fun E4=>uQ ok rfl rfl ⟨_,rfl,?_⟩⟩;have e0:(!bw (V.lst E3 (([]:PL).map aB++([]:PL).map aB)).py (V.lst E4 []).py)=false:=by rfl
 first | refine DY e0 ?_ | refine sn e0 ?_
 refine bz ?_;refine az (bB ok rfl (i3 ok 6 rfl rfl tt pb (cK (En ok 9 rfl rfl ff (En ok 10 rfl rfl ff (ng (by simp only[an,av];exact aH [ae (gR (ct cs) (pairsOf p)),ae (gR (pairsOf p) (ct cs))] 85070591894958017361400864129003028545 tt ri ww) fun E5=>?_))))));rw[← cC];refine pH ok (.inr (.inl fun v hv=>by obtain⟨x,_,rfl⟩:=ap.mp hv;exact⟨_,_,rfl⟩)) (yf _) (by rw[an,aR];exact aH [ae (gR (ct cs) (pairsOf p)),ae (gR (pairsOf p) (ct cs))] 324683277059996070971721919758401 tt ri ww) fun E6=>⟨_, .t4 (.tail (.tail .head)),?_⟩
 have e1:m0 ((gR (ct cs) (pairsOf p)++gR (pairsOf p) (ct cs)).map aB)=(ct (cs++ [pairsOf p])).map aB:=by rw[l5];exact t9 _
 refine e1.symm▸?_;refine az (bB ok rfl (cK (En ok 5 rfl rfl ff (Ap (rs:=bZ cs) ok hh (by decide +kernel) (.tail _ (.tail _ (.head _))) (.t8 .head) (nu ff) (.acc _ _) (.t4 (.tail .head)) g.ok om (by exact aH [(pairsOf p).length] 1152958663977285451841 tt hgl) fun E7=>ng (by simp only[an,av];exact aH [cs.length,ae (bZ cs),ae (gR (pairsOf p) (bZ cs))] 23945242872748922673109031573035151271380508702933185 tt hcs lm Gh) fun E8=>⟨_, .t4 (.tail .head),?_⟩))));have e2:(bZ cs).map aB++(gR (pairsOf p) (bZ cs)).map aB=(bZ (cs++ [pairsOf p])).map aB:=by rw[jP,i5,cC]
 refine e2.symm▸?_;refine az (gd ok rfl (dp rfl rfl (by decide) rfl iJ iI (En ok 4 rfl rfl ff ⟨⟨C,_, .inl ⟨rfl, .head⟩⟩,En ok 8 rfl rfl ff ?_⟩)));refine cl_append ok (mo:=.list (Ls.map og)) .head (.list _) (by simp only[an,av];exact aH [Ls.length] 20769187474038953862769199327215681 tt nL) (bz ⟨rfl,a,_,_,_,_,_,rfl,?_⟩);simp[bW.set,og]
end
end
section
noncomputable def sZ(p:Str):sV:=⟨p,pairsOf p⟩
noncomputable def jV(x:Addr×PL):V:=.lst x.1 (x.2.map aB)
section
variable{fx:Fx}{EX:dK}{Q:Fl→List V→Hp→Prop}
theorem oW{ps:List Str}(g:∀ p∈ps,oR p):∀ i,i≤ps.length→kW ((ps.take i).map pairsOf)
 | 0,_=>by rw[List.take_zero];exact .nil
 | i+1,h=>by
  have ih:=oW g i (by exact bJ h);have hx:ps[i]?=some ps[i]:=aD (by trivial);rw[bT,hx,lH,cC];have gp:=g ps[i] (ix _);exact ih.snoc gp.srt gp.len
theorem Ik(ok:(frame ew fx).Ok)(hh:fx.A.handled=none)(FR:tO (frame ew fx) [])(hlv:fx.lvl+3≤20){ps:List Str}(h6:ps.length=6)(g:∀ p∈ps,oR p)
  {sc ro k p h go ne:V}{P C M O:Addr}{r:List V}{G:Hp}
  (q:∀ (Ls:List (Addr×sV)) M O p h go ne,Ls.map (·.2)=ps.map sZ→Ss (frame ew fx) (lv sc ro k (.lst P (ps.map .str)) (.lst C (Ls.map og)) (.lst M ((bZ (ps.map pairsOf)).map aB)) (.lst O ((ct (ps.map pairsOf)).map aB)) p h (go::ne::r)) G (kC 7) Q EX):
  Ss (frame ew fx) (lv sc ro k (.lst P (ps.map .str)) (.ref C) (.lst M []) (.lst O []) p h (go::ne::r)) ((C, .list [])::G) (kC 6) Q EX:=by
 refine az (qb ok rfl (En ok 3 rfl rfl ff ⟨ps.map .str,iQ hh,?_⟩));refine⟨fun i vals H'=>∃ (Ls:List (Addr×sV)) (M O:Addr) (p h go ne:V),vals=lv sc ro k (.lst P (ps.map .str)) (.ref C) (.lst M ((bZ ((ps.take i).map pairsOf)).map aB)) (.lst O ((ct ((ps.take i).map pairsOf)).map aB)) p h (go::ne::r)∧H'=(C, .list (Ls.map og))::G∧Ls.map (·.2)=(ps.take i).map sZ,⟨[],M,O,p,h,go,ne,rfl,rfl,rfl⟩,?_,?_⟩
 ·intro i x y vals H' hx hI N hN;refine nn fun hG=>?_;obtain⟨Ls,M,O,p0,h,go,ne,hE1,hE2,hL⟩:=hI;refine hG ?_;clear hG;subst hE1;subst hE2;have ok':=ok.addY y;rw[aM,bQ]at hx;refine nn fun hG=>?_;obtain⟨p,hp,hE1⟩:=hx;refine hG ?_;clear hG;subst hE1;have hi:i<ps.length:=(aX.mp hp).1;have hpm:p∈ps:=aE hp;have inv:=oW g i (by exact bJ hi);have ht:ps.take (i+1)=ps.take i++ [p]:=by rw[bT,hp];rfl
  have hLl:Ls.length=i:=by
   have:=bc ae hL;simp only[an,bM]at this;exact aq (aH [Ls.length,min i ps.length,i] 117270822126500914763137091 tt this (bC i ps.length)) (aH [Ls.length,min i ps.length,i] 79189658808644427234414595 tt this (dJ (aH [i,ps.length] 91202565463605314 tt hi:i≤ps.length)))
  refine cL ok' ⟨_, .t4 (.tail (.tail (.tail .head))),?_⟩;refine T0.mono (Ig ok' hh FR hlv (Ls:=Ls) inv (by simp only[an,bM];exact aH [ps.length,i,min i ps.length] 770412433998683548670123871447285827 tt h6 hi (bC i ps.length)) (fun c hc x hx=>?_) (by exact aH [ps.length,i,Ls.length] 132966290452295394973362403422604623939 tt h6 hi hLl) (g p hpm)) fun fl vals' H' hq=>?_
  ·refine nn fun hG=>?_;obtain⟨p',hp',hE1⟩:=ap.mp hc;refine hG ?_;clear hG;subst hE1;exact(g p' (dO hp')).ok x hx
  ·refine nn fun hG=>?_;obtain⟨hE1,a,M',O',h',go',ne',hE2,hE3⟩:=hq;refine hG ?_;clear hG;subst hE1;subst hE2;subst hE3;refine hN ⟨Ls++ [(a,sZ p)],M',O', .str p,h',go',ne',?_,rfl,?_⟩
   ·rw[ht,cC];rfl
   ·rw[ht,cC,cC,hL];rfl
 ·intro vals H' hI;refine nn fun hG=>?_;obtain⟨Ls,M,O,p,h,go,ne,hE1,hE2,hL⟩:=hI;refine hG ?_;clear hG;subst hE1;subst hE2;rw[an,cY]at hL ⊢;refine T0.freeze ok (x:="chains") .head (.list C _) (.t4 .head) (.t4 .head) ?_;exact q Ls M O p h go ne hL
theorem Cq(ok:(frame ew fx).Ok)(hh:fx.A.handled=none){Ls:List (Addr×sV)}(nL:Ls.length≤6)(l3:∀ x∈Ls,x.2.ch.length≤3)
  {sc ro k pa ma od p h go ne ors:V}{C:Addr}{r:List V}{G:Hp}
  (q:∀ (E:Addr) (Os:List (Addr×PL)),Os.map (·.2)=Ls.map (fun x=>x.2.ch)→Ss (frame ew fx) (lv sc ro k pa (.lst C (Ls.map og)) ma od p h (go::ne:: .lst E (Os.map jV)::r)) G (kC 8) Q EX):
  Ss (frame ew fx) (lv sc ro k pa (.lst C (Ls.map og)) ma od p h (go::ne::ors::r)) G (kC 7) Q EX:=by
 refine az (eJ ok ⟨_,["chain"],[],[],[]⟩ (by decide +kernel) je rfl ?_);refine En ok 4 rfl rfl ff ⟨Ls.map og,[],(iQ hh).c ok,by exact d4 nL rfl,rt rfl,fun env own Y B ok'=>?_⟩;refine⟨fun i out=>∃ Os:List (Addr×PL),out=Os.map jV∧Os.map (·.2)=(Ls.take i).map (fun x=>x.2.ch),⟨[],rfl,rfl⟩,fun i x out hx hJ=>?_,fun out hJ=>?_⟩
 ·refine nn fun hG=>?_;obtain⟨Os,hE1,hO⟩:=hJ;refine hG ?_;clear hG;subst hE1;rw[aM,bQ]at hx;refine nn fun hG=>?_;obtain⟨X,hX,hE1⟩:=hx;refine hG ?_;clear hG;subst hE1;have h3:=l3 X (aE hX);refine cL ok' ⟨_, .head,?_⟩;refine iM ok' ⟨_,["pair"],[],[],[]⟩ (by decide +kernel) je rfl ?_;refine En ok' 0 rfl rfl ff ⟨X.2.ch.map aB,[],lW ok' hh (.acc _ _),by exact d4 h3 rfl,rt rfl,fun env own Y B ok2=>?_⟩;refine oM ok2 fun E=>⟨Os++ [(E,X.2.ch)],?_,?_⟩
  ·simp[jV]
  ·rw[bT,hX,cC,hO];simp
 ·refine nn fun hG=>?_;obtain⟨Os,hE1,hO⟩:=hJ;refine hG ?_;clear hG;subst hE1;rw[an,cY]at hO;exact fun D=>⟨_, .t8 (.tail (.tail (.tail .head))),q D Os hO⟩
end
end
section
noncomputable def kA(ms c:PL):PL:=ms.filter fun m=>decide (m∈c)
noncomputable def jx(ms c:PL):PL:=ms.filter fun m=>!decide (m∈c)
noncomputable def kS(ms:PL)(cs:List PL):PL:=cs.flatMap (kA ms)
noncomputable def kf(ms:PL)(cs:List PL):PL:=cs.flatMap (jx ms)
theorem CI(ms:PL)(cs:List PL):(kS ms cs).length≤cs.length*ms.length:=by
 unfold kS
 induction cs with
 | nil=>simp
 | cons c cs ih=>
  rw[a0,aR,aT,Nat.succ_mul];have:=bN (fun m=>decide (m∈c)) ms;unfold kA at ih ⊢;exact aH [(n5 (fun c=>bX (fun m=>decide (m∈c)) ms) cs).length,cs.length*ae ms,(bX (fun m=>decide (m∈c)) ms).length,ae ms] 2296987955435605142215284879261761 tt ih this
theorem CF(ms:PL)(cs:List PL):(kf ms cs).length≤cs.length*ms.length:=by
 unfold kf
 induction cs with
 | nil=>simp
 | cons c cs ih=>
  rw[a0,aR,aT,Nat.succ_mul];have:=bN (fun m=>!decide (m∈c)) ms;unfold jx at ih ⊢;exact aH [(n5 (fun c=>bX (fun m=>!decide (m∈c)) ms) cs).length,cs.length*ae ms,(bX (fun m=>!decide (m∈c)) ms).length,ae ms] 2296987955435605142215284879261761 tt ih this
theorem AW(ms:PL)(cs:List PL)(c:PL):kS ms (cs++ [c])=kS ms cs++kA ms c:=by simp[kS]
theorem AS(ms:PL)(cs:List PL)(c:PL):kf ms (cs++ [c])=kf ms cs++jx ms c:=by simp[kf]
noncomputable def Gd(ab d as:Addr)(l m:PL)(G:Hp):Hp:=(as, .list (m.map aB))::(ab, .acc d (l.map aB))::G
section
variable{fx:Fx}{EX:dK}{Q:Fl→List V→Hp→Prop}
theorem Ih(ok:(frame ew fx).Ok)(hh:fx.A.handled=none)(hlv:fx.lvl+1≤20){ms:PL}{Os:List (Addr×PL)}(nm:ms.length≤18)(nO:Os.length=6)(om:∀ x∈ms,j4 x)(oO:∀ o∈Os,∀ x∈o.2,j4 x)
  {sc ro k pa ch od p h go ne ab as orr mk:V}{M E:Addr}{r:List V}{G:Hp}
  (q:∀ (ab d as:Addr) (orr mk:V),Ss (frame ew fx) (lv sc ro k pa ch (.lst M (ms.map aB)) od p h (go::ne:: .lst E (Os.map jV):: .ref ab:: .ref as::orr::mk::r)) (Gd ab d as (kS ms (Os.map (·.2))) (kf ms (Os.map (·.2))) G) (kC 11) Q EX):
  Ss (frame ew fx) (lv sc ro k pa ch (.lst M (ms.map aB)) od p h (go::ne:: .lst E (Os.map jV)::ab::as::orr::mk::r)) G (kC 8) Q EX:=by
 refine az (bB ok rfl (BI ok (.tail (.tail (.tail .head))) fun ab d=>⟨_, .t8 (.t4 .head),?_⟩));refine az (bB ok rfl (jk rfl ⟨by simp[av],fun as=>⟨_, .t8 (.t4 (.tail .head)),?_⟩⟩));refine az (qb ok rfl (En ok 11 rfl rfl ff ⟨Os.map jV,iQ hh,?_⟩));refine⟨fun i vals H'=>∃ (orr mk:V),vals=lv sc ro k pa ch (.lst M (ms.map aB)) od p h (go::ne:: .lst E (Os.map jV):: .ref ab:: .ref as::orr::mk::r)∧H'=Gd ab d as (kS ms ((Os.take i).map (·.2))) (kf ms ((Os.take i).map (·.2))) G,⟨orr,mk,rfl,rfl⟩,?_,?_⟩
 ·intro i x y vals H' hx hI N hN;refine nn fun hG=>?_;obtain⟨orr,mk,hE1,hE2⟩:=hI;refine hG ?_;clear hG;subst hE1;subst hE2;have ok':=ok.addY y;rw[aM,bQ]at hx;refine nn fun hG=>?_;obtain⟨o,ho,hE1⟩:=hx;refine hG ?_;clear hG;subst hE1;have hi:i<Os.length:=(aX.mp ho).1;have hom:=oO o (aE ho);have ht:(Os.take (i+1)).map (·.2)=(Os.take i).map (·.2)++ [o.2]:=by rw[bT,ho];simp
  have lc:((Os.take i).map (·.2)).length≤5:=by simp only[an,bM];exact aH [Os.length,i,min i Os.length] 770412433998683548670123871447285827 tt nO hi (bC i Os.length)
  generalize (Os.take i).map (·.2)=cs at ht lc;have la:=CI ms cs;have ls:=CF ms cs;have hmul:cs.length*ms.length≤5*18:=Nat.mul_le_mul lc nm;refine cL ok' ⟨_, .t8 (.t4 (.tail (.tail .head))),?_⟩;refine az (qb ok' rfl (En ok' 5 rfl rfl ff ⟨ms.map aB,iQ hh,?_⟩));refine⟨fun j vals H'=>∃ (mk:V),vals=lv sc ro k pa ch (.lst M (ms.map aB)) od p h (go::ne:: .lst E (Os.map jV):: .ref ab:: .ref as::jV o::mk::r)∧H'=Gd ab d as (kS ms cs++kA (ms.take j) o.2) (kf ms cs++jx (ms.take j) o.2) G,⟨mk,rfl,by simp[kA,jx]⟩,?_,?_⟩
  ·intro j x y2 vals H' hx hI N2 hN2;refine nn fun hG=>?_;obtain⟨mk,hE1,hE2⟩:=hI;refine hG ?_;clear hG;subst hE1;subst hE2;have ok2:=ok'.addY y2;rw[aM,bQ]at hx;refine nn fun hG=>?_;obtain⟨m,hm,hE1⟩:=hx;refine hG ?_;clear hG;subst hE1;have om':=om m (aE hm);have htj:ms.take (j+1)=ms.take j++ [m]:=by rw[bT,hm];rfl
   have la2:(kA (ms.take j) o.2).length≤18:=by
    have h1:=bN (fun m=>decide (m∈o.2)) (ms.take j);have h2:=List.length_take_le j ms;have h3:(ms.take j).length≤ms.length:=by rw[bM];exact aH [min j (ae ms),ae ms] 91202565463605313 tt (cw j (ae ms))
    unfold kA;exact aH [ae ms,(bX (fun m=>decide (m∈o.snd)) (fw j ms)).length,(fw j ms).length] 1040087352069493345549121253897404481 tt nm h1 h3
   have ls2:(jx (ms.take j) o.2).length≤18:=by
    have h1:=bN (fun m=>!decide (m∈o.2)) (ms.take j);have h3:(ms.take j).length≤ms.length:=by rw[bM];exact aH [min j (ae ms),ae ms] 91202565463605313 tt (cw j (ae ms))
    unfold jx;exact aH [ae ms,(bX (fun m=>!decide (m∈o.snd)) (fw j ms)).length,(fw j ms).length] 1040087352069493345549121253897404481 tt nm h1 h3
   refine cL ok2 ⟨_, .t8 (.t4 (.tail (.tail (.tail .head)))),?_⟩;refine az (j9 (bv rfl (En ok2 15 rfl rfl ff (En ok2 14 rfl rfl ff (GE ok2 (gL om' 7) (i7 hom) ⟨_,rfl,?_⟩)))));refine(show ((V.pys (o.2.map aB)).any fun y=>bw y (aB m).py)=decide (m∈o.2) from x4 m o.2).symm▸?_;by_cases hmo:m∈o.2
   ·first | refine Mm (aP hmo) ?_ | refine sy (aP hmo) ?_
    have e1:kA (ms.take (j+1)) o.2=kA (ms.take j) o.2++ [m]:=by rw[htj];simp[kA,hmo]
    have e2:jx (ms.take (j+1)) o.2=jx (ms.take j) o.2:=by rw[htj];simp[jx,hmo]
    refine az (gd ok2 rfl (AY ok2 hh (by trivial) rfl (En ok2 12 rfl rfl ff ⟨ab,d,_,rfl, .tail .head,by simp only[an,aR,av];exact aH [ae (kS ms cs),cs.length*ae ms,ae (kA (fw j ms) o.snd)] 23945242872743478176083543027989972719928400277405761 tt la hmul la2,En ok2 15 rfl rfl ff ⟨.str m.1, .str m.2,_, .tup _,nofun,nofun, .tail .head,bz (bz (hN2 ⟨aB m,rfl,?_⟩))⟩⟩)));rw[e1,e2,← fE];simp[Gd,aB]
   ·first | refine DY (bg hmo) ?_ | refine sn (bg hmo) ?_
    have e1:kA (ms.take (j+1)) o.2=kA (ms.take j) o.2:=by rw[htj];simp[kA,hmo]
    have e2:jx (ms.take (j+1)) o.2=jx (ms.take j) o.2++ [m]:=by rw[htj];simp[jx,hmo]
    refine az (gd ok2 rfl (dp rfl rfl (by decide) rfl iJ iI (En ok2 13 rfl rfl ff ⟨⟨as,_, .inl ⟨rfl, .head⟩⟩,En ok2 15 rfl rfl ff ?_⟩)));refine iU ok2 (Mi:=kf ms cs++jx (ms.take j) o.2) .head (by rw[aR];exact aH [ae (kf ms cs),cs.length*ae ms,ae (jx (fw j ms) o.snd)] 1427294406670703346241580596530706899998923030593 tt ls hmul ls2) (bz (bz (hN2 ⟨aB m,rfl,?_⟩)));rw[e1,e2,← fE]
    rfl
  ·intro vals H' hI;refine nn fun hG=>?_;obtain⟨mk,hE1,hE2⟩:=hI;refine hG ?_;clear hG;subst hE1;subst hE2;rw[an,cY];refine bz (hN ⟨jV o,mk,rfl,?_⟩);rw[ht,AW,AS]
 ·intro vals H' hI;refine nn fun hG=>?_;obtain⟨orr,mk,hE1,hE2⟩:=hI;refine hG ?_;clear hG;subst hE1;subst hE2;rw[an,cY];exact q ab d as orr mk
end
end
section
theorem iS{l m:PL}(p:l.Perm m):r6 l=r6 m:=by
 have h:=Ei p;rw[t9,t9]at h;have:=bc (cA Ga) h;have e:Ga∘vp=id:=rfl;simpa[a9,e]using this
section
variable{c:Cx}{vals:List V}{H H':Hp}{EX:dK}{Q:V→List V→Hp→Prop}
theorem ji(ok:c.Ok){ad:Addr}{l:PL}(h64:l.length<64)(q:∀ D,Q (.lst D ((r6 l).map aB)) vals H):Tn c vals H [.lst ad (l.map aB)] (fun vs=>call (.builtin "sorted") vs) VR Q EX:=
 pH ok (.inr (.inl fun v hv=>by obtain⟨x,_,rfl⟩:=ap.mp hv;exact⟨_,_,rfl⟩)) (yf _) (by rw[an];exact h64) fun D=>by
  have e:m0 (l.map aB)=(r6 l).map aB:=t9 l;rw[e];exact q D
theorem jf{l:PL}(h:∀ x∈l,j4 x):∀ x∈r6 l,j4 x:=fun x hx=>h x ((mP l).mem_iff.mp hx)
theorem xT(ok:c.Ok){a b:Addr}{l m:PL}(hl:∀ x∈l,j4 x)(hm:∀ x∈m,j4 x)(q:Q (.bool (!decide (l=m))) vals H):T2 c vals H (.lst a (l.map aB)) (.lst b (m.map aB)) (ez .NotEq) VR Q EX:=
 uQ ok (i7 hl) (i7 hm) (by
  have e:bw (V.lst a (l.map aB)).py (V.lst b (m.map aB)).py=decide (l=m):=by
   show d9 (V.pys _) (V.pys _)=_;exact qJ l m
  rw[e];exact q)
theorem Lp(ok:c.Ok){a b:Addr}{l m:PL}(hl:∀ x∈l,j4 x)(hm:∀ x∈m,j4 x)(q:Q (.bool (decide (l=m))) vals H):T2 c vals H (.lst a (l.map aB)) (.lst b (m.map aB)) (ez .Eq) VR Q EX:=
 uR ok (i7 hl) (i7 hm) (by
  have e:bw (V.lst a (l.map aB)).py (V.lst b (m.map aB)).py=decide (l=m):=by
   show d9 (V.pys _) (V.pys _)=_;exact qJ l m
  rw[e];exact q)
theorem T0.perm{α β:Type}{f:Sem α}{R:Heap→List Addr→β→α→Prop}{Q:β→List V→Hp→Prop}(p:H.Perm H')(h:T0 c vals H' f R Q EX):T0 c vals H f R Q EX:=fun s r=>
 let ⟨r',S⟩:=r.perm p
 dg S (h s r')
theorem Tn.perm{f:List Value→Sem Value}{as:List V}(p:H.Perm H')(h:Tn c vals H' as f VR Q EX):Tn c vals H as f VR Q EX:=fun s vs r z=>
 let ⟨r',S⟩:=r.perm p
 dg S (h s vs r' (z.go S))
theorem Tn.freezeT(ok:c.Ok){f:List Value→Sem Value}{as:List V}(h:Tn c vals H as f VR (fun b vals' H'=>∃ m xs y ys H₁,b= .tup [.lst m xs, .ref y]∧lK H' y (.list ys) H₁∧Q (.tup [.lst m xs, .lst y ys]) vals' H₁) EX):Tn c vals H as f VR Q EX:=fun s vs r z=>by
 refine aK (h s vs r z) (fun v s₁ p=>?_) fun _ _ p=>p;refine nn fun hG=>?_;obtain⟨b,vals₁,H₁,r₁,S₁,z₁,m,xs,y,ys,H₂,hE1,hd,q⟩:=p;refine hG ?_;clear hG;subst hE1;obtain⟨zb,S₂⟩:=r₁.frozen ok hd (.list y ys);obtain⟨r₂,_⟩:=r₁.drop hd.sub (hd.nodup (aJ.mp r₁.nodup).2.1).1 (vals':=vals₁) fun x a hx=>.inr (.inl hx);refine a8.intro r₂ (S₁.trans S₂) ?_ q
 cases z₁.iTup with
 | mk e ne zs=>
  replace zs:=zs.iCons;cases zs with
  | mk z1 zs=>
   replace zs:=zs.iCons;cases zs with
   | mk z2 zs=>
    cases zs.iNil;cases z2.iRef;exact .tup e (fun hx=>ne (by
     have sub:∀ x,x∈haddrs H₂→x∈haddrs H₁:=fun x h=>by obtain⟨p,hp,hx⟩:=bP.mp h;exact bP.mpr ⟨p,hd.sub p hp,hx⟩
     simp only[Cx.X,Cx.Z,aw]at hx ⊢;rcases hx with h | h | h | h
     ·simp[h]
     ·simp[h]
     ·simp[h]
     ·simp[sub _ h])) (.cons (z1.go S₂) (.cons zb .nil))
end
section
variable{c:Cx}{vals:List V}{H G:Hp}{EX:dK}{Q:V→List V→Hp→Prop}
theorem GN(ok:c.Ok)(hh:c.A.handled=none)(FR:tO c [])(hl:c.lvl+3≤20){x y:Addr}{mk:PL→bW}(pr:x5 x mk){l a:PL}(ol:∀ p∈l,A8 p)(oa:∀ p∈a,A8 p)(nl:l.length≤400)(na:a.length≤400)
  (q:∀ m,Q (.tup [.lst m ((lI l a).1.map aB), .ref y]) vals ((x,mk [])::(y, .list ((lI l a).2.map aB))::G)):Tn c vals ((x,mk l)::(y, .list (a.map aB))::G) [.ref x, .ref y] (fun vs=>call (.ref 35) vs) VR Q EX:=
 call_fnX (H₀:=[(x,mk l),(y, .list (a.map aB))]) (H₁:=G) zw JT (jZ zw rfl LA) 2 ok hh FR hl rfl (Hn x y mk pr l a ol oa nl na) fun b H' _ qf=>by
  refine nn fun hG=>?_;obtain⟨m,hE1,hE2⟩:=qf;refine hG ?_;clear hG;subst hE1;subst hE2;exact q m
end
end
section
section
variable{fx:Fx}{EX:dK}{Q:Fl→List V→Hp→Prop}
theorem JF(ok:(frame ew fx).Ok)(hh:fx.A.handled=none)(FR:tO (frame ew fx) [])(hlv:fx.lvl+3≤20){l m:PL}(nl:l.length≤200)(nm:m.length≤200)(ol:∀ x∈l,A8 x)(om:∀ x∈m,A8 x)
  (o1:∀ x∈(lI l m).1,j4 x)(o2:∀ x∈(lI l m).2,j4 x)(n1:(lI l m).1.length<64)(n2:(lI l m).2.length<64)(h1:(lI m l).1.Perm (lI l m).2)(h2:(lI m l).2.Perm (lI l m).1)
  {sc ro k pa ch ma od p h go ne ors orr mk wh mi le ba:V}{ab d as:Addr}{r:List V}{G:Hp}
  (q:∀ (Wh W1 W2 mA:Addr) (ba:V) (G':Hp),Ss (frame ew fx) (lv sc ro k pa ch ma od p h (go::ne::ors:: .ref ab:: .ref as::orr::mk:: .lst Wh [.lst W1 (l.map aB), .lst W2 (m.map aB)]:: .lst mA ((lI l m).1.map aB):: .lst as ((lI l m).2.map aB)::ba::r)) G' (kC 16) Q EX):
  Ss (frame ew fx) (lv sc ro k pa ch ma od p h (go::ne::ors:: .ref ab:: .ref as::orr::mk::wh::mi::le::ba::r)) (Gd ab d as l m G) (kC 11) Q EX:=by
 have szl:(l.map aB).length≤av:=by exact d4 nl rfl
 have szm:(m.map aB).length≤av:=by exact d4 nm rfl
 refine az (bB ok rfl (fH rfl ?_));refine iM ok ⟨_,["pair"],[],[],[]⟩ (by decide +kernel) je rfl ?_;refine En ok 12 rfl rfl ff ⟨l.map aB,[],lW ok hh (.ref (.tail .head) (.acc d _)),szl,rt rfl,fun env own Y B ok'=>oM ok' fun W1=>?_⟩;refine iM ok ⟨_,["pair"],[],[],[]⟩ (by decide +kernel) je rfl ?_;refine En ok 13 rfl rfl ff ⟨m.map aB,[],lW ok hh (.ref .head (.list _)),szm,rt rfl,fun env own Y B ok'=>oM ok' fun W2=>?_⟩;refine⟨by exact am tt,fun Wh=>⟨_, .t8 (.t8 .head),?_⟩⟩;refine T0.perm (AZ.swap _ _ _) ?_;refine az (xH ok rfl rfl (i3 ok 7 rfl rfl tt (dR (i:=3) (k:=34) rfl) (En ok 12 rfl rfl ff (En ok 13 rfl rfl ff ?_))));refine GN ok hh FR hlv (B7 ab d) ol om (by exact jy nl rfl) (by exact jy nm rfl) fun mA=>?_;refine Asg_tuple hh rfl rfl (dS ok ⟨_, .t8 (.t8 (.tail .head)),dS ok ⟨_, .t8 (.t8 (.tail (.tail .head))),?_⟩⟩);refine az (j9 (gf (gN (bv rfl (En ok 18 rfl rfl ff (En ok 13 rfl rfl ff (AA ⟨_,rfl,?_⟩)))))));refine pn au ?_;refine gN (bv rfl (jj l7 (pl:=_) rfl rfl (En ok 12 rfl rfl ff ⟨ab,d,_,rfl, .head,sG ok .head (by exact am tt) (bS (zG ⟨_,rfl,?_⟩))⟩)));refine pn au ?_;refine gN (bv rfl (jj vh (pl:=_) rfl rfl (En ok 12 rfl rfl ff ⟨ab,d,_,rfl, .head,yr ok (by exact bL (cy _ _) hlv) .head (by simp[av]) (.inl ⟨rfl,?_⟩)⟩)));refine gq rfl (ft (ft ⟨by exact am tt,uQ ok (by decide +kernel) (by decide +kernel) ⟨_,rfl,?_⟩⟩));have e0:(!bw (V.tup [.str "", .str ""]).py (V.tup [.str "", .str ""]).py)=false:=by decide +kernel
 first | refine DY e0 ?_ | refine sn e0 ?_
 refine bz ?_;refine T0.freeze ok (x:="left") (.tail .head) (.list as _) (.t8 (.t8 (.tail (.tail .head)))) (.t8 (.t8 (.tail (.tail .head)))) ?_;refine az (bB ok rfl (i3 ok 7 rfl rfl tt (dR (i:=3) (k:=34) rfl) ?_));refine Aq ok ⟨_,["pair"],[],[],[]⟩ (by decide +kernel) je rfl ?_;refine dQ rfl (En ok 16 rfl rfl ff (bS ⟨cG,fq (a:=.lst W2 (m.map aB)) (by decide) rfl (by exact am tt) ?_⟩));refine⟨m.map aB,[],lW ok hh (.lst _ _),szm,rt rfl,fun env own Y B ok'=>oM ok' fun D1=>?_⟩;refine Aq ok ⟨_,["pair"],[],[],[]⟩ (by decide +kernel) je rfl ?_;refine dQ rfl (En ok 16 rfl rfl ff (bS ⟨cG,fq (a:=.lst W1 (l.map aB)) (by decide) rfl (by exact am tt) ?_⟩));refine⟨l.map aB,[],lW ok hh (.lst _ _),szl,rt rfl,fun env own Y B ok'=>oM ok' fun D2=>?_⟩;refine Tn.perm (AZ.swap _ _ _) (Tn.freezeT ok ?_);refine GN ok hh FR hlv (Aw D1) om ol (by exact aH [ae m] 495215915283713780986196000833 tt nm) (by exact aH [ae l] 495215915283713780986196000833 tt nl) fun mB=>⟨mB,_,D2,_,_,rfl, .tail .head,⟨_, .t8 (.t8 (.tail (.tail (.tail .head)))),?_⟩⟩
 have o3:∀ x∈(lI m l).1,j4 x:=fun x hx=>o2 x (h1.mem_iff.mp hx);have o4:∀ x∈(lI m l).2,j4 x:=fun x hx=>o1 x (h2.mem_iff.mp hx);refine az (j9 (gf (gN (bv rfl (i3 ok 6 rfl rfl tt pb (dQ rfl (En ok 19 rfl rfl ff (bS ⟨rL,uc (a:=.lst mB ((lI m l).1.map aB)) (by decide) rfl (by exact am tt) ?_⟩))))))));refine ji ok (by rw[h1.length_eq];exact n2) fun S1=>?_;refine i3 ok 6 rfl rfl tt pb (En ok 18 rfl rfl ff (ji ok n2 fun S2=>xT ok (jf o3) (jf o2) ⟨_,rfl,?_⟩))
 first | refine DY (bc not (aP (iS h1))) ?_ | refine sn (bc not (aP (iS h1))) ?_
 refine gN (bv rfl (i3 ok 6 rfl rfl tt pb (dQ rfl (En ok 19 rfl rfl ff (bS ⟨rL,uc (a:=.lst D2 ((lI m l).2.map aB)) (by decide) rfl (by exact am tt) ?_⟩)))));refine ji ok (by rw[h2.length_eq];exact n1) fun S1=>?_;refine i3 ok 6 rfl rfl tt pb (En ok 17 rfl rfl ff (ji ok n1 fun S2=>xT ok (jf o4) (jf o1) ⟨_,rfl,?_⟩))
 first | refine DY (bc not (aP (iS h2))) ?_ | refine sn (bc not (aP (iS h2))) ?_
 refine bz ?_;exact q Wh W1 W2 mA _ _
end
end
section
noncomputable def zq(l m:List V):Int:=b2i (wu l m)-b2i (n8 l m)
noncomputable def Ml(c d:PL):Int:=zq (c.map aB) (d.map aB)
noncomputable def signs(cs:List PL)(i:Nat):List Int:=match cs[i]? with
 | some c=>cs.map (Ml c)
 | none=>[]
noncomputable def uD(cs:List PL)(i:Nat):Int:=((signs cs i).count 1:Nat)+(((signs cs i).take i).count 0:Nat)
noncomputable def KO(l:List V)(v:V):Option V:=v.onL (fun _ m=>some (.int (zq l m))) none
theorem Em(l m:List V):zq l m=1∨zq l m=0∨zq l m= -1:=by
 unfold zq;cases wu l m<;>cases n8 l m<;>decide
theorem tw:∀ (l:List Int),(∀ x∈l,x=1∨x=0∨x= -1)→l.count 1+l.count 0+l.count (-1)=l.length
 | [],_=>rfl
 | x::l,h=>by
  have ih:=tw l fun y hy=>h y (ai _ hy);rcases h x ah with rfl | rfl | rfl<;>simp[jb]<;>omega
theorem signs_at{cs:List PL}{i:Nat}{c:PL}(h:cs[i]?=some c):signs cs i=cs.map (Ml c):=by
 unfold signs;rw[h]
section
variable{c:Cx}{vals:List V}{H:Hp}{EX:dK}
theorem Mj{e:Expr}{pos:Pos}{Q:V→List V→Hp→Prop}(h:Ev c vals H e (fun a vals' H'=>∃ i,a= .int i∧Q (.int (-i)) vals' H') EX):Ev c vals H (.UnaryOp .USub e pos) Q EX:=fun s r=>
 wpAny_UnaryOp (bO (h s r) fun v s₁ a vals₁ H₁ r₁ S₁ z₁ ⟨i,e,q⟩=>by
  subst e;cases z₁.iInt;exact dg S₁ (neg_int (a8.intro (r₁.toks _) (aN.refl _ _) (.int _ _) q)))
theorem G7(x y:Addr×PL):xM 4 (jV x) (jV y):=by
 refine .lst fun a ha b hb _=>?_;refine nn fun hG=>?_;obtain⟨p,_,hE1⟩:=ap.mp ha;refine hG ?_;clear hG;subst hE1;refine nn fun hG=>?_;obtain⟨q,_,hE1⟩:=ap.mp hb;refine hG ?_;clear hG;subst hE1;exact Br p q 2
theorem Ag{x:Addr×PL}(h:∀ p∈x.2,j4 p):V.data 8 (jV x)=true:=i7 h
end
theorem JN(pm:Value)(vs:List Value)(h:vs.length=uI.np):c8 (uI.fd pm) ⟨vs,[]⟩=pure ((uI.names.take uI.np).zip vs):=by
 refine nn fun hG=>?_;obtain⟨v,u,hE1⟩:=ww h;refine hG ?_;clear hG;subst hE1
 kernel_rfl
section
variable{fx:Fx}{EX:dK}{Q:Fl→List V→Hp→Prop}
theorem EY(ok:(frame ew fx).Ok)(hh:fx.A.handled=none)(hlv:fx.lvl+1≤20){Os:List (Addr×PL)}(nO:Os.length=6)(oO:∀ o∈Os,∀ x∈o.2,j4 x)
  {sc ro k pa ch ma od p h go ne ab as orr mk wh mi le ba ra si:V}{E:Addr}{r:List V}{G:Hp}
  (q:∀ (R:Addr) (k si:V),Ss (frame ew fx) (lv sc ro k pa ch ma od p h (go::ne:: .lst E (Os.map jV)::ab::as::orr::mk::wh::mi::le::ba:: .lst R (aY ((aG 6).map (uD (Os.map (·.2)))))::si::r)) G (kC 18) Q EX):
  Ss (frame ew fx) (lv sc ro k pa ch ma od p h (go::ne:: .lst E (Os.map jV)::ab::as::orr::mk::wh::mi::le::ba::ra::si::r)) G (kC 16) Q EX:=by
 have szO:(Os.map jV).length≤av:=by exact pC nO rfl
 refine az (bB ok rfl (jk rfl ⟨by simp[av],fun R=>⟨_, .t8 (.t8 (.t4 .head)),?_⟩⟩));refine az (qb ok rfl (i3 ok 0 rfl rfl tt pt (bS (kK ⟨_,oE hh (by decide) 6 (by decide),?_⟩))));refine⟨fun i vals H'=>∃ (k si:V),vals=lv sc ro k pa ch ma od p h (go::ne:: .lst E (Os.map jV)::ab::as::orr::mk::wh::mi::le::ba:: .ref R::si::r)∧H'=(R, .list (aY ((aG i).map (uD (Os.map (·.2))))))::G,⟨k,si,rfl,rfl⟩,?_,?_⟩
 ·intro i x y vals H' hx hI N hN;refine nn fun hG=>?_;obtain⟨k,si,hE1,hE2⟩:=hI;refine hG ?_;clear hG;subst hE1;subst hE2;have ok':=ok.addY y;rw[aM,bQ]at hx;refine nn fun hG=>?_;obtain⟨i',hi',hE1⟩:=hx;refine hG ?_;clear hG;subst hE1;obtain⟨hi,rfl⟩:i<6∧i=i':=by
   rw[aX]at hi';obtain⟨h1,h2⟩:=hi';simp at h1 h2;exact⟨h1,h2⟩
  have ho:Os[i]?=some Os[i]:=aD (by exact aH [Os.length,i] 78887501717173487235239939 tt nO hi);generalize Os[i]=o at ho;have hom:=oO o (aE ho);have hsg:signs (Os.map (·.2)) i=(Os.map (·.2)).map (Ml o.2):=signs_at (by rw[aM,ho];rfl);have h3:=tw (signs (Os.map (·.2)) i) (by
   rw[hsg];intro x hx;refine nn fun hG=>?_;obtain⟨y,_,hE1⟩:=ap.mp hx;refine hG ?_;clear hG;subst hE1;exact Em _ _)
  have hsl:(signs (Os.map (·.2)) i).length=6:=by rw[hsg];simp[nO]
  have hfm:(Os.map jV).filterMap (KO (o.2.map aB))=aY (signs (Os.map (·.2)) i):=by
   rw[hsg,de,a9,aY,a9];have:(KO (o.2.map aB)∘jV)=some∘(V.int∘(Ml o.2∘fun(x:Addr×PL)=>x.2)):=rfl;rw[this,c6]
  refine cL ok' ⟨_, .tail (.tail .head),?_⟩;refine az (eJ ok' ⟨_,["order"],["k","orders"],["three_way_cmp"],[.ref 42]⟩ (by decide +kernel) (fun x hx=>?_) rfl ?_)
  ·rcases aF.mp hx with rfl | hx
   ·exact .tail _ (.head _)
   ·rw[ao.mp hx];exact .tail _ (.tail _ (.tail _ (.tail _ (.head _))))
  have m1:(("k" :Str),V.int (0+(i:Int)))∈ [(("k" :Str),V.int (0+(i:Int))),(("orders" :Str),V.lst E (Os.map jV))]:=ah;have m2:(("orders" :Str),V.lst E (Os.map jV))∈ [(("k" :Str),V.int (0+(i:Int))),(("orders" :Str),V.lst E (Os.map jV))]:=ai _ ah;refine En ok' 11 rfl rfl ff ⟨Os.map jV,[(("k" :Str),V.int (0+(i:Int))),(("orders" :Str),V.lst E (Os.map jV))],(iQ hh).c ok',szO,⟨fun x hx=>?_,fun q hq=>?_⟩,fun env own Y B ok2=>?_⟩
  ·rcases aF.mp hx with rfl | hx
   ·exact .tail _ (.head _)
   ·rw[ao.mp hx];exact .tail _ (.tail _ (.tail _ (.tail _ (.head _))))
  ·rcases aF.mp hq with rfl | hq
   ·exact⟨.head _,nu ff, .inl (.tail (.tail .head))⟩
   ·rw[ao.mp hq];exact⟨.tail _ (.head _),nu ff, .inl (.t8 (.tail (.tail (.tail .head))))⟩
  refine CompI.map (KO (o.2.map aB)) (fun x hx=>?_) (by
   refine hfm.symm▸?_;refine fun D=>⟨_, .t8 (.t8 (.t4 (.tail .head))),?_⟩
   refine az (j9 (bv rfl (cK (cK (dp rfl rfl (by decide) rfl fN fM (En ok' 21 rfl rfl ff ⟨⟨D,_, .inr rfl⟩,bS (oN ok' ?_)⟩))))));refine dp rfl rfl (by decide) rfl fN fM (En ok' 21 rfl rfl ff ⟨⟨D,_, .inr rfl⟩,bS (oN ok' (oC ?_))⟩);refine dp rfl rfl (by decide) rfl fN fM (En ok' 21 rfl rfl ff ⟨⟨D,_, .inr rfl⟩,Mj (bS ⟨1,rfl,oN ok' (oC (bS (zG ⟨_,rfl,?_⟩)))⟩)⟩);have e6:((((signs (Os.map (·.2)) i).count 1:Nat):Int)+((signs (Os.map (·.2)) i).count 0:Nat)+((signs (Os.map (·.2)) i).count (-1):Nat) != 6)=false:=by
    have:(((signs (Os.map (·.2)) i).count 1:Nat):Int)+((signs (Os.map (·.2)) i).count 0:Nat)+((signs (Os.map (·.2)) i).count (-1):Nat)=6:=by lia
    simpa using this
   first | refine DY e6 ?_ | refine sn e6 ?_
   refine bz ?_;refine az (gd ok' rfl (dp rfl rfl (by decide) rfl iJ iI (En ok' 20 rfl rfl ff ⟨⟨R,_, .inl ⟨rfl, .head⟩⟩,?_⟩)));refine cK (dp rfl rfl (by decide) rfl fN fM (En ok' 21 rfl rfl ff ⟨⟨D,_, .inr rfl⟩,bS (oN ok' ?_)⟩));refine dp rfl rfl (by decide) rfl fN fM (fe (En ok' 21 rfl rfl ff (En ok' 2 rfl rfl ff ⟨_,rfl,cG,mh (.lst _ _) nofun (by exact pC hsl rfl) fun D2=>?_⟩)));have e7:gJ (aY (signs (Os.map (·.2)) i)) none (some (0+(i:Int))) none=aY ((signs (Os.map (·.2)) i).take i):=by
    rw[tY,aY,Dk _ (by rw[an];omega),aY,i8]
   refine e7.symm▸?_;refine⟨⟨D2,_, .inr rfl⟩,bS (oN ok' (oC ?_))⟩;refine cl_append ok' (mo:=.list (aY ((aG i).map (uD (Os.map (·.2)))))) .head (.list _) (by simp only[aY,an,dX,av];exact aH [i] 19342813150993506003583042 tt hi) (bz (hN ⟨_,_,rfl,?_⟩));rw[po];simp[bW.set,aY,uD])
  refine nn fun hG=>?_;obtain⟨o2,ho2,hE1⟩:=ap.mp hx;refine hG ?_;clear hG;subst hE1;have hom2:=oO o2 ho2;refine cL ok2 ⟨_, .head,?_⟩;refine i3 ok2 0 rfl rfl tt (dR (i:=4) (k:=41) rfl) ?_;refine dQ rfl (et ok2 m2 (nu ff) (et ok2 m1 (nu ff) ⟨cG,fq (a:=jV o) (by exact bI _) (by rw[show ((0:Int)+(i:Int)).toNat=i by exact Gj,aM,ho];rfl) szO (En ok2 0 rfl rfl ff ?_)⟩));refine gY uI Iz JN 0 ok2 hh (by trivial) rfl (El _ _ (Ag hom) (Ag hom2) (G7 o o2) nofun nofun) fun b hb=>?_;subst hb;show some (V.int (zq (o.2.map aB) (o2.2.map aB)))=_;simp only[jV,zq,Da,x8]
 ·intro vals H' hI;refine nn fun hG=>?_;obtain⟨k,si,hE1,hE2⟩:=hI;refine hG ?_;clear hG;subst hE1;subst hE2;rw[an,dX];refine T0.freeze ok (x:="ranks") .head (.list R _) (.t8 (.t8 (.t4 .head))) (.t8 (.t8 (.t4 .head))) ?_;exact q R k si
end
end
section
noncomputable def I6:List Int:=[0,1,2,3,4,5]
theorem Df{k:Nat}(h:k<6):(k:Int)∈I6:=(by decide:∀ k:Nat,k<6→(k:Int)∈I6) k h
noncomputable def s3(rk:List Int):List Int:=(aG 6).map fun(k:Nat)=>((rk.idxOf (k:Int):Nat):Int)
theorem Jj{rk:List Int}(p:rk.Perm I6):m0 (aY rk)=aY I6:=by
 have hi:∀ a∈aY rk,∃ i,a= .int i:=fun a ha=>by obtain⟨i,_,rfl⟩:=ap.mp ha;exact⟨i,rfl⟩
 have P:=Dj hi;have sp:=mO P;refine jm (sp.trans (p.map _)) (oJ P) (by trivial) fun a ha b hb h1 h2=>?_;obtain⟨i,rfl⟩:=hi a (sp.mem_iff.mp ha);obtain⟨j,rfl⟩:=hi b (sp.mem_iff.mp hb);simp only[lT,dk]at h1 h2;have:i=j:=by lia
 rw[this]
theorem sD:∀ (l:List Int) (k:Int) (m:Nat),m<l.idxOf k→l[m]?≠some k
 | [],k,m,h=>by simp at h
 | x::l,k,m,h=>by
  rw[List.idxOf_cons]at h;by_cases e:x=k
  ·simp[e]at h
  ·have e':(x == k)=false:=by simpa using e
   rw[e']at h;simp only[cond_false]at h
   match m with
   | 0=>simpa using e
   | m+1=>
    rw[List.getElem?_cons_succ];exact sD l k m (by exact cR h)
noncomputable def Gb(x:Addr×List (Int×Int)):V:=.lst x.1 (x.2.map Be)
theorem Eu{out:List V}{Ms:List (List (Int×Int))}(h:Paired x6 out Ms):∃ Ps:List (Addr×List (Int×Int)),out=Ps.map Gb∧Ps.map (·.2)=Ms:=by
 induction h with
 | nil=>exact⟨[],rfl,rfl⟩
 | cons h _ ih=>
  refine nn fun hG=>?_;obtain⟨Ps,hE1,hE2⟩:=ih;refine hG ?_;clear hG;subst hE1;subst hE2;obtain⟨D,rfl⟩:=h;exact⟨(D,_)::Ps,rfl,rfl⟩
noncomputable def KT(rk:List Int)(v:V):Option V:=v.onI (fun k=>some (.int (rk.idxOf k:Nat))) none
section
variable{fx:Fx}{EX:dK}{Q:Fl→List V→Hp→Prop}
theorem Il(ok:(frame ew fx).Ok)(hh:fx.A.handled=none)(hlv:fx.lvl+4≤20){rk:List Int}(hp:rk.Perm I6)
  {sc ro k pa ch ma od p h go ne ors ab as orr mk wh mi le ba si li ev:V}{R:Addr}{r:List V}{G:Hp}
  (q:∀ (Ln Ev:Addr) (Ps:List (Addr×List (Int×Int))),Ps.map (·.2)=eF 3 (s3 rk)→Ss (frame ew fx) (lv sc ro k pa ch ma od p h (go::ne::ors::ab::as::orr::mk::wh::mi::le::ba:: .lst R (aY rk)::si:: .lst Ln (aY (s3 rk)):: .lst Ev (Ps.map Gb)::r)) G (kC 21) Q EX):
  Ss (frame ew fx) (lv sc ro k pa ch ma od p h (go::ne::ors::ab::as::orr::mk::wh::mi::le::ba:: .lst R (aY rk)::si::li::ev::r)) G (kC 18) Q EX:=by
 have hl:rk.length=6:=hp.length_eq;refine az (j9 (bv rfl (i3 ok 6 rfl rfl tt pb (En ok 20 rfl rfl ff ?_))));refine pH ok (.inl fun v hv=>by obtain⟨i,_,rfl⟩:=ap.mp hv;exact⟨i,rfl⟩) (Dj fun v hv=>by obtain⟨i,_,rfl⟩:=ap.mp hv;exact⟨i,rfl⟩) (by simp only[aY,an];exact aH [rk.length] 73824135734046490691 tt hl) fun D=>?_;refine(Jj hp).symm▸?_;refine fH rfl (bS (bS (bS (bS (bS (bS ⟨by exact am tt,fun D2=>uQ ok rfl rfl ⟨_,rfl,?_⟩⟩))))));have e0:(!bw (V.lst D (aY I6)).py (V.lst D2 [.int 0, .int 1, .int 2, .int 3, .int 4, .int 5]).py)=false:=by rfl
 first | refine DY e0 ?_ | refine sn e0 ?_
 refine bz ?_;have hsub:∀ x∈ [("ranks" :Str)],x∈ew.cn:=fun x hx=>by rw[ao.mp hx];exact .tail _ (.tail _ (.tail _ (.tail _ (.tail _ (.head _)))))
 refine az (eJ ok ⟨_,["k"],["ranks"],[],[]⟩ (by decide +kernel) hsub rfl ?_);refine i3 ok 0 rfl rfl tt pt (bS (kK ?_));have m1:(("ranks" :Str),V.lst R (aY rk))∈ [(("ranks" :Str),V.lst R (aY rk))]:=ah;refine⟨_,[(("ranks" :Str),V.lst R (aY rk))],(oE hh (by decide) 6 (by decide)).c ok,by exact am tt,⟨hsub,all1 ⟨.head _,nu ff, .inl (.t8 (.t8 (.t4 .head)))⟩⟩,fun env own Y B ok2=>?_⟩;have hfm:((aG 6).map fun(i:Nat)=>V.int (0+(i:Int))).filterMap (KT rk)=aY (s3 rk):=by
  rw[de,s3,aY,a9];have:(KT rk∘fun(i:Nat)=>V.int (0+(i:Int)))=some∘(V.int∘fun(k:Nat)=>((rk.idxOf (k:Int):Nat):Int)):=by
   funext i;exact bc (fun k:Int=>some (V.int (rk.idxOf k:Nat))) (tY _)
  rw[this,c6]
 refine CompI.map (KT rk) (fun x hx=>?_) (by
  refine hfm.symm▸?_;refine fun Ln=>⟨_, .t8 (.t8 (.t4 (.tail (.tail .head)))),?_⟩
  refine az (bB ok rfl (i3 ok 8 rfl rfl tt (dR (i:=28) (k:=253) rfl) (En ok 22 rfl rfl ff ?_)));refine gY zB DK GJ 3 ok hh (by trivial) rfl (Hs 3 (s3 rk) Ln (by exact bo _) (by rfl)) fun b hb=>?_;refine nn fun hG=>?_;obtain⟨Ev,out,hE1,hP⟩:=hb;refine hG ?_;clear hG;subst hE1;refine nn fun hG=>?_;obtain⟨Ps,hE1,hPs⟩:=Eu hP;refine hG ?_;clear hG;subst hE1;exact⟨_, .t8 (.t8 (.t4 (.tail (.tail (.tail .head))))),q Ln Ev Ps hPs⟩)
 refine nn fun hG=>?_;obtain⟨i,hi,hE1⟩:=ap.mp hx;refine hG ?_;clear hG;subst hE1;have hi6:i<6:=aQ.mp hi;have hmem:(0+(i:Int))∈rk:=hp.mem_iff.mpr (by rw[tY];exact Df (by assumption));have hlt:=eM hmem;refine cL ok2 ⟨_, .head,?_⟩;refine dp rfl rfl (by decide) rfl PySem.F.slot_list_index PySem.F.type_list_index (et ok2 m1 (nu ff) ⟨⟨R,_, .inr rfl⟩,En ok2 0 rfl rfl ff ?_⟩);exact Ai ok2 (j:=rk.idxOf (0+(i:Int))) (by rw[aD hlt,l9]) (sD rk _) (by omega) rfl
end
end
section
theorem Ir(pm:Value)(vs:List Value)(h:vs.length=qA.np):c8 (qA.fd pm) ⟨vs,[]⟩=pure ((qA.names.take qA.np).zip vs):=by
 refine nn fun hG=>?_;obtain⟨v,u,hE1⟩:=ww h;refine hG ?_;clear hG;subst hE1
 kernel_rfl
noncomputable def rowAt(rs:List (List Str))(i:Int):List Str:=rs[i.toNat]?.getD []
noncomputable def nK(rs:List (List Str))(M:List (Int×Int)):Int:=(M.map fun m=>kD (rowAt rs m.1) (rowAt rs m.2)).sum
noncomputable def D0(v:V):Int×Int:=v.onT (fun l=>(((l[0]?).getD V.none).onI (fun i=>i) 0,((l[1]?).getD V.none).onI (fun i=>i) 0)) (0,0)
noncomputable def CY(rs:List (List Str))(v:V):Option V:=some (.int (kD (rowAt rs (D0 v).1) (rowAt rs (D0 v).2)))
theorem zO(M:List (Int×Int)):(M.map Be).map D0=M:=by
 rw[a9];exact ze (fun _=>rfl) M
noncomputable def CZ(rs:List (List Str))(v:V):Option V:=v.onL (fun _ l=>some (.int (nK rs (l.map D0)))) none
noncomputable def sh(n:Nat)(M:List (Int×Int)):Prop:=∀ m∈M,0≤m.1∧m.1.toNat<n∧0≤m.2∧m.2.toNat<n
section
variable{fx:Fx}{EX:dK}{Q:Fl→List V→Hp→Prop}
theorem EW(ok:(frame ew fx).Ok)(hh:fx.A.handled=none)(hlv:fx.lvl+1≤20){L:List (Addr×List Str)}(nL:L.length≤100)(oL:∀ x∈L,(∀ s∈x.2,bH s=true)∧x.2.length≤1000){Ps:List (Addr×List (Int×Int))}(nP:Ps.length≤100)(oP:∀ P∈Ps,sh L.length P.2∧P.2.length≤100)
  {sc k pa ch ma od p h go ne ors ab as orr mk wh mi le ba ra si li sz:V}{D Ev:Addr}{r:List V}{G:Hp}
  (q:∀ (S:Addr),Ss (frame ew fx) (lv sc (.lst D (L.map fo)) k pa ch ma od p h (go::ne::ors::ab::as::orr::mk::wh::mi::le::ba::ra::si::li:: .lst Ev (Ps.map Gb):: .lst S (aY ((Ps.map (·.2)).map (nK (L.map (·.2)))))::r)) G (kC 22) Q EX):
  Ss (frame ew fx) (lv sc (.lst D (L.map fo)) k pa ch ma od p h (go::ne::ors::ab::as::orr::mk::wh::mi::le::ba::ra::si::li:: .lst Ev (Ps.map Gb)::sz::r)) G (kC 21) Q EX:=by
 have szL:(L.map fo).length≤av:=by exact d4 nL rfl
 have hsub:∀ x∈ [("rows" :Str)],x∈ew.cn:=fun x hx=>by rw[ao.mp hx];exact .head _
 refine az (eJ ok ⟨_,["pairing"],["rows"],["sum"],[.builtin "sum"]⟩ (by decide +kernel) hsub rfl ?_);have m1:(("rows" :Str),V.lst D (L.map fo))∈ [(("rows" :Str),V.lst D (L.map fo))]:=ah;refine En ok 23 rfl rfl ff ⟨Ps.map Gb,[(("rows" :Str),V.lst D (L.map fo))],(iQ hh).c ok,by exact d4 nP rfl,⟨hsub,all1 ⟨.head _,nu ff, .inl (.tail .head)⟩⟩,fun env own Y B ok2=>?_⟩;have hfm:(Ps.map Gb).filterMap (CZ (L.map (·.2)))=aY ((Ps.map (·.2)).map (nK (L.map (·.2)))):=by
  rw[de,aY,a9,a9];have:(CZ (L.map (·.2))∘Gb)=some∘((V.int∘nK (L.map (·.2)))∘fun(x:Addr×List (Int×Int))=>x.2):=by
   funext P;show some (V.int (nK _ ((P.2.map Be).map D0)))=_;rw[zO];rfl
  rw[this,c6]
 refine CompI.map (CZ (L.map (·.2))) (fun x hx=>?_) (by
  refine hfm.symm▸?_;exact fun S=>⟨_, .t8 (.t8 (.t8 .head)),q S⟩)
 refine nn fun hG=>?_;obtain⟨P,hP,hE1⟩:=ap.mp hx;refine hG ?_;clear hG;subst hE1;obtain⟨hin,hPl⟩:=oP P hP;refine cL ok2 ⟨_, .head,?_⟩;refine i3 ok2 0 rfl rfl tt pb ?_;refine iM ok2 ⟨_,["first","second"],["rows"],["_law_steps"],[.ref 249]⟩ (by decide +kernel) (fun _ h=>h) rfl ?_;refine En ok2 0 rfl rfl ff ⟨P.2.map Be,[(("rows" :Str),V.lst D (L.map fo))],(iQ hh).c ok2,by exact d4 hPl rfl,⟨fun _ h=>h,all1 ⟨.head _,nu ff, .inr m1⟩⟩,fun env own Y B ok3=>?_⟩;have hfm2:(P.2.map Be).filterMap (CY (L.map (·.2)))=aY (P.2.map fun m=>kD (rowAt (L.map (·.2)) m.1) (rowAt (L.map (·.2)) m.2)):=by
  rw[de,aY,a9];have:(CY (L.map (·.2))∘Be)=some∘(V.int∘fun m=>kD (rowAt (L.map (·.2)) m.1) (rowAt (L.map (·.2)) m.2)):=rfl;rw[this,c6]
 refine CompI.map (CY (L.map (·.2))) (fun x hx=>?_) (by
  refine hfm2.symm▸?_;refine fun T=>GO hh ?_;show CZ _ (Gb P)=_;show some (V.int (nK _ ((P.2.map Be).map D0)))=_;rw[zO];rfl)
 refine nn fun hG=>?_;obtain⟨m,hm,hE1⟩:=ap.mp hx;refine hG ?_;clear hG;subst hE1;refine nn fun hG=>?_;obtain⟨a1,a2,b1,b2⟩:=hin m hm;refine hG ?_;clear hG;have g1:L[m.1.toNat]?=some L[m.1.toNat]:=aD a2;have g2:L[m.2.toNat]?=some L[m.2.toNat]:=aD b2;have o1:=oL _ (aE g1);have o2:=oL _ (aE g2);have r1:rowAt (L.map (·.2)) m.1=L[m.1.toNat].2:=by unfold rowAt;rw[aM,g1];rfl
 have r2:rowAt (L.map (·.2)) m.2=L[m.2.toNat].2:=by unfold rowAt;rw[aM,g2];rfl
 refine Asg_tuple hh rfl rfl (dS ok3 ⟨_, .head,dS ok3 ⟨_, .tail .head,?_⟩⟩);refine i3 ok3 0 rfl rfl tt (dR (i:=27) (k:=248) rfl) ?_;refine dQ rfl (et ok3 m1 (nu ff) (En ok3 0 rfl rfl ff ⟨cG,fq (a:=fo L[m.1.toNat]) a1 (by rw[aM,g1];rfl) szL ?_⟩));refine dQ rfl (et ok3 m1 (nu ff) (En ok3 1 rfl rfl ff ⟨cG,fq (a:=fo L[m.2.toNat]) b1 (by rw[aM,g2];rfl) szL ?_⟩));refine gY qA Ft Ir 0 ok3 hh (by trivial) rfl (BW _ _ _ _ o1.1 o2.1 o1.2 o2.2) fun b hb=>?_;subst hb;show CY _ (Be m)=_;show some (V.int (kD (rowAt _ m.1) (rowAt _ m.2)))=_;rw[r1,r2]
end
end
section
noncomputable def Ku(v:V):Int:=v.onI (fun i=>i) 0
noncomputable def kN(ns:List Int):Int:=Ku (Bg (aY ns))
noncomputable def wv(ns:List Int):Int:=Ku (Bi (aY ns))
theorem jI{ns:List Int}{k:Nat}(h:k<ns.length):(aY ns).getD k .none= .int (ns.getD k 0):=by
 simp[aY,j5,aD h]
theorem Am(ns:List Int):∀ k,k<ns.length→bK (fU (aY ns) kL) k≤k∧∀ j,j≤k→ns.getD (bK (fU (aY ns) kL) k) 0≤ns.getD j 0
 | 0,h=>⟨bo _,fun j hj=>by
  obtain rfl:j=0:=by exact aq (aH [j] 577591325672603713 tt hj) (aH [j] 75501824 tt)
  exact wo _⟩
 | k+1,h=>by
  obtain⟨h1,h2⟩:=Am ns k (by exact bJ h);have e:fU (aY ns) kL (k+1) (bK (fU (aY ns) kL) k)=decide (ns.getD (k+1) 0<ns.getD (bK (fU (aY ns) kL) k) 0):=by
   show kL ((aY ns).getD (k+1) .none) ((aY ns).getD (bK (fU (aY ns) kL) k) .none)=_;rw[jI h,jI (by exact aH [k,ns.length,bK (fU (aY ns) kL) k] 403589307079488042429493280834 tt h h1),lT]
  unfold bK;rw[e];by_cases q:ns.getD (k+1) 0<ns.getD (bK (fU (aY ns) kL) k) 0
  ·refine(aP q).symm▸?_
   try simp only[dG]
   refine⟨bo _,fun j hj=>?_⟩;by_cases ej:j=k+1
   ·rw[ej];exact wo _
   ·have:=h2 j (by exact(ci ej).elim (fun q0=>aH [j,k] 373565710064147234882 tt q0) (fun q0=>aH [j,k] 1642880131021075294584172790677569 tt hj q0));lia
  ·refine(bg q).symm▸?_
   try simp only[aW,cj]
   refine⟨by exact cQ h1,fun j hj=>?_⟩;by_cases ej:j=k+1
   ·rw[ej];lia
   ·exact h2 j (by exact(ci ej).elim (fun q0=>aH [j,k] 373565710064147234882 tt q0) (fun q0=>aH [j,k] 1642880131021075294584172790677569 tt hj q0))
theorem An(ns:List Int):∀ k,k<ns.length→bK (fU (aY ns) pO) k≤k∧∀ j,j≤k→ns.getD j 0≤ns.getD (bK (fU (aY ns) pO) k) 0
 | 0,h=>⟨bo _,fun j hj=>by
  obtain rfl:j=0:=by exact aq (aH [j] 577591325672603713 tt hj) (aH [j] 75501824 tt)
  exact wo _⟩
 | k+1,h=>by
  obtain⟨h1,h2⟩:=An ns k (by exact bJ h);have e:fU (aY ns) pO (k+1) (bK (fU (aY ns) pO) k)=decide (ns.getD (k+1) 0>ns.getD (bK (fU (aY ns) pO) k) 0):=by
   show pO ((aY ns).getD (k+1) .none) ((aY ns).getD (bK (fU (aY ns) pO) k) .none)=_;rw[jI h,jI (by exact aH [k,ns.length,bK (fU (aY ns) pO) k] 403589307079488042429493280834 tt h h1)];rfl
  unfold bK;rw[e];by_cases q:ns.getD (k+1) 0>ns.getD (bK (fU (aY ns) pO) k) 0
  ·refine(aP q).symm▸?_
   try simp only[dG]
   refine⟨bo _,fun j hj=>?_⟩;by_cases ej:j=k+1
   ·rw[ej];exact wo _
   ·have:=h2 j (by exact(ci ej).elim (fun q0=>aH [j,k] 373565710064147234882 tt q0) (fun q0=>aH [j,k] 1642880131021075294584172790677569 tt hj q0));lia
  ·refine(bg q).symm▸?_
   try simp only[aW,cj]
   refine⟨by exact cQ h1,fun j hj=>?_⟩;by_cases ej:j=k+1
   ·rw[ej];omega
   ·exact h2 j (by exact(ci ej).elim (fun q0=>aH [j,k] 373565710064147234882 tt q0) (fun q0=>aH [j,k] 1642880131021075294584172790677569 tt hj q0))
theorem getD_mem{ns:List Int}{k:Nat}(h:k<ns.length):ns.getD k 0∈ns:=by
 simp[j5,aD h]
theorem mem_getD{ns:List Int}{x:Int}(h:x∈ns):∃ j,j<ns.length∧ns.getD j 0=x:=by
 refine nn fun hG=>?_;obtain⟨j,hj,e⟩:=List.mem_iff_getElem.mp h;refine hG ?_;clear hG;exact⟨j,hj,by simp[j5,aD hj,e]⟩
theorem rF{ns:List Int}(h:0<ns.length):Bg (aY ns)= .int (kN ns)∧kN ns∈ns∧∀ x∈ns,kN ns≤x:=by
 have e:(aY ns).length=ns.length:=by simp[aY]
 obtain⟨h1,h2⟩:=Am ns (ns.length-1) (by exact aH [ns.length-1,ns.length] 373565989645109428291 tt (ag (aH [ns.length] 81350941269295170 tt h:1≤ns.length)));have hm:Bg (aY ns)= .int (ns.getD (bK (fU (aY ns) kL) (ns.length-1)) 0):=by
  unfold Bg;rw[e,jI (by exact aH [bK (fU (aY ns) kL) (ns.length-1),ns.length-1,ns.length] 480341589693974238499752116289 tt h1 (ag (aH [ns.length] 81350941269295170 tt h:1≤ns.length)))]
 have hi:kN ns=ns.getD (bK (fU (aY ns) kL) (ns.length-1)) 0:=by unfold kN;rw[hm];rfl
 refine⟨by rw[hi];exact hm,by rw[hi];exact getD_mem (by exact aH [bK (fU (aY ns) kL) (ns.length-1),ns.length-1,ns.length] 480341589693974238499752116289 tt h1 (ag (aH [ns.length] 81350941269295170 tt h:1≤ns.length))),fun x hx=>?_⟩;refine nn fun hG=>?_;obtain⟨j,hj,hE1⟩:=mem_getD hx;refine hG ?_;clear hG;subst hE1;rw[hi];exact h2 j (by exact iu hj)
theorem z5{ns:List Int}(h:0<ns.length):Bi (aY ns)= .int (wv ns)∧wv ns∈ns∧∀ x∈ns,x≤wv ns:=by
 have e:(aY ns).length=ns.length:=by simp[aY]
 obtain⟨h1,h2⟩:=An ns (ns.length-1) (by exact aH [ns.length-1,ns.length] 373565989645109428291 tt (ag (aH [ns.length] 81350941269295170 tt h:1≤ns.length)));have hm:Bi (aY ns)= .int (ns.getD (bK (fU (aY ns) pO) (ns.length-1)) 0):=by
  unfold Bi;rw[e,jI (by exact aH [bK (fU (aY ns) pO) (ns.length-1),ns.length-1,ns.length] 480341589693974238499752116289 tt h1 (ag (aH [ns.length] 81350941269295170 tt h:1≤ns.length)))]
 have hi:wv ns=ns.getD (bK (fU (aY ns) pO) (ns.length-1)) 0:=by unfold wv;rw[hm];rfl
 refine⟨by rw[hi];exact hm,by rw[hi];exact getD_mem (by exact aH [bK (fU (aY ns) pO) (ns.length-1),ns.length-1,ns.length] 480341589693974238499752116289 tt h1 (ag (aH [ns.length] 81350941269295170 tt h:1≤ns.length))),fun x hx=>?_⟩;refine nn fun hG=>?_;obtain⟨j,hj,hE1⟩:=mem_getD hx;refine hG ?_;clear hG;subst hE1;rw[hi];exact h2 j (by exact iu hj)
theorem vJ(n:Nat)(ns:List Int):V.datas n (aY ns)=true:=by
 rw[V.datas_all,ay];intro v hv;refine nn fun hG=>?_;obtain⟨k,_,hE1⟩:=ap.mp hv;refine hG ?_;clear hG;subst hE1;cases n<;>rfl
section
variable{c:Cx}{vals:List V}{H:Hp}{EX:dK}{Q:V→List V→Hp→Prop}
theorem zN{ns:List Int}:∀ a∈aY ns,∀ b∈aY ns,xM 3 a b:=fun a ha b hb=>by
 refine nn fun hG=>?_;obtain⟨i,_,hE1⟩:=ap.mp ha;refine hG ?_;clear hG;subst hE1;refine nn fun hG=>?_;obtain⟨j,_,hE1⟩:=ap.mp hb;refine hG ?_;clear hG;subst hE1;exact .int
theorem DL(ok:c.Ok)(hh:c.A.handled=none){ad:Addr}{ns:List Int}(h:0<ns.length)(q:Q (.int (kN ns)) vals H):Tn c vals H [.lst ad (aY ns)] (fun vs=>call (.builtin "min") vs) VR Q EX:=
 GP ok hh (by simpa[aY]using h) (vJ 7 ns) zN (by rw[(rF h).1];exact q)
theorem J0(ok:c.Ok)(hh:c.A.handled=none){ad:Addr}{ns:List Int}(h:0<ns.length)(q:Q (.int (wv ns)) vals H):Tn c vals H [.lst ad (aY ns)] (fun vs=>call (.builtin "max") vs) VR Q EX:=
 GQ ok hh (by simpa[aY]using h) (vJ 7 ns) zN (by rw[(z5 h).1];exact q)
end
noncomputable def rm(ln:List Int):List (Int×Int):=(aG 3).map fun(k:Nat)=>(ln.getD (k+3) 0,ln.getD k 0)
noncomputable def zC(ln:List Int):V→Option V
 | .int k=>some (Be (ln.getD (k.toNat+3) 0,ln.getD k.toNat 0))
 | _=>none
end
section
section
variable{fx:Fx}{EX:dK}{Q:Fl→List V→Hp→Prop}
theorem Fb(ok:(frame ew fx).Ok)(hh:fx.A.handled=none)(hlv:fx.lvl+4≤20){L:List (Addr×sV)}(oL:∀ x∈L,ru x.2)(nL:L.length=6){Ps:List (Addr×List (Int×Int))}(oP:∀ P∈Ps,sh 6 P.2∧P.2.length≤3){ns:List Int}(hns:ns.length=Ps.length)(h0:0<ns.length)(h9:ns.length≤100)
  {P:Addr×List (Int×Int)}(hP:Ps[ns.idxOf (kN ns)]?=some P)
  {sc ro k ma od p h go ne ors ab as orr mk wh mi le ba ra si li cl wi:V}{Pa C Ev S Ln:Addr}{ln:List Int}(hln:ln.length=6)(hw:sh 6 (rm ln)){G:Hp}
  (q:∀ (E F:Addr),Ss (frame ew fx) (lv sc ro k (.lst Pa (L.map fun x=>.str x.2.path)) (.lst C (L.map og)) ma od p h [go,ne,ors,ab,as,orr,mk,wh,mi,le,ba,ra,si, .lst Ln (aY ln), .lst Ev (Ps.map Gb), .lst S (aY ns), .lst E ((eE L P.2).map aB), .lst F ((eE L (rm ln)).map aB)]) G (kC 24) Q EX):
  Ss (frame ew fx) (lv sc ro k (.lst Pa (L.map fun x=>.str x.2.path)) (.lst C (L.map og)) ma od p h [go,ne,ors,ab,as,orr,mk,wh,mi,le,ba,ra,si, .lst Ln (aY ln), .lst Ev (Ps.map Gb), .lst S (aY ns),cl,wi]) G (kC 22) Q EX:=by
 have hmin:=rF h0;have hmem:=hmin.2.1;have hlt:=eM hmem;refine az (bB ok rfl (i3 ok 9 rfl rfl tt (dR (i:=29) (k:=258) rfl) (En ok 3 rfl rfl ff (En ok 4 rfl rfl ff ?_))));refine dQ rfl (En ok 23 rfl rfl ff ?_);refine dp rfl rfl (by decide) rfl PySem.F.slot_list_index PySem.F.type_list_index (En ok 24 rfl rfl ff ⟨⟨S,_, .inr rfl⟩,?_⟩);refine i3 ok 10 rfl rfl tt pb (En ok 24 rfl rfl ff (DL ok hh h0 ?_));refine Ai ok (j:=ns.idxOf (kN ns)) (by rw[aD hlt,l9]) (sD ns _) (by exact aH [ns.length,List.idxOf (kN ns) ns] 1329271162219374539628531187950724055105 tt h9 hlt) ?_;refine⟨cG,fq (a:=Gb P) (by exact bI _) (by rw[hV,aM,hP];rfl) (by simp only[an,av];exact aH [ns.length,Ps.length] 22300745241696978293157558239069700719906819 tt hns h9) ?_⟩;have hPm:=oP P (aE hP);refine gY wx DJ GI 3 ok hh (by trivial) rfl (zV Pa C P.1 L P.2 oL (by exact x0 nL rfl) (by rw[nL];exact hPm.1) hPm.2) fun b hb=>?_;obtain⟨E,rfl⟩:=hb;refine⟨_, .t8 (.t8 (.t8 (.tail .head))),?_⟩;have hsub:∀ x∈ [("line" :Str)],x∈ew.cn:=fun x hx=>by rw[ao.mp hx];exact .tail _ (.tail _ (.tail _ (.tail _ (.tail _ (.tail _ (.head _))))))
 have m1:(("line" :Str),V.lst Ln (aY ln))∈ [(("line" :Str),V.lst Ln (aY ln))]:=ah;refine az (bB ok rfl (i3 ok 9 rfl rfl tt (dR (i:=29) (k:=258) rfl) (En ok 3 rfl rfl ff (En ok 4 rfl rfl ff ?_))));refine iM ok ⟨_,["k"],["line"],[],[]⟩ (by decide +kernel) hsub rfl ?_;refine i3 ok 0 rfl rfl tt pt (bS (kK ?_));refine⟨_,[(("line" :Str),V.lst Ln (aY ln))],(oE hh (by decide) 3 (by decide)).c ok,by exact am tt,⟨hsub,all1 ⟨.head _,nu ff, .inl (.t8 (.t8 (.t4 (.tail (.tail .head)))))⟩⟩,fun env own Y B ok2=>?_⟩;have hfm:((aG 3).map fun(i:Nat)=>V.int (0+(i:Int))).filterMap (zC ln)=(rm ln).map Be:=by
  rw[de,rm,a9];have:(zC ln∘fun(i:Nat)=>V.int (0+(i:Int)))=some∘(Be∘fun(k:Nat)=>(ln.getD (k+3) 0,ln.getD k 0)):=by
   funext i;have e:((0:Int)+(i:Int)).toNat=i:=by exact Gj
   simp only[Function.comp_apply,zC,e]
  rw[this,c6]
 refine CompI.map (zC ln) (fun x hx=>?_) (by
  refine hfm.symm▸?_;refine fun F0=>gY wx DJ GI 3 ok hh (by trivial) rfl (zV Pa C F0 L (rm ln) oL (by exact aH [L.length] 115329309831173505091 tt nL) (by rw[nL];exact hw) (by exact bo _)) fun b hb=>?_;obtain⟨F,rfl⟩:=hb;exact⟨_, .t8 (.t8 (.t8 (.tail (.tail .head)))),q E F⟩)
 refine nn fun hG=>?_;obtain⟨i,hi,hE1⟩:=ap.mp hx;refine hG ?_;clear hG;subst hE1;have hi3:i<3:=aQ.mp hi;have hg:∀ n,n<6→(aY ln)[n]?=some (.int (ln.getD n 0)):=fun n hn=>by
  have h1:ln[n]?=some ln[n]:=aD (by exact aH [ln.length,n] 78887501717173487235239939 tt hln hn);simp[aY,j5,h1]
 have szl:(aY ln).length≤av:=by exact pC hln rfl
 refine cL ok2 ⟨_, .head,?_⟩;refine gq rfl (dQ rfl (et ok2 m1 (nu ff) (cK (En ok2 0 rfl rfl ff (bS (oC ⟨cG,fq (a:=.int (ln.getD (i+3) 0)) (by exact bI _) (by rw[show ((0:Int)+(i:Int)+3).toNat=i+3 by omega];exact hg _ (by exact aH [i] 2844329414201361563714 tt hi3)) szl ?_⟩))))));refine dQ rfl (et ok2 m1 (nu ff) (En ok2 0 rfl rfl ff ⟨cG,fq (a:=.int (ln.getD i 0)) (by exact bI _) (by rw[Gj];exact hg _ (by exact aH [i] 685677785499304002 tt hi3)) szl ⟨by exact am tt,?_⟩⟩));have e:((0:Int)+(i:Int)).toNat=i:=by exact Gj
 simp only[zC,e,Be]
end
end
section
noncomputable def m5(r:List Str):LL:=r.map cps
noncomputable def sW(v:V):Addr×List Str:=v.onL (fun a l=>(a,l.map Mk)) (0,[])
theorem pE(x:Addr×List Str):sW (fo x)=x:=by
 show (x.1,(x.2.map V.str).map Mk)=x;rw[x9]
theorem AP{r t:List Str}(h:r.map cps=t.map cps):r=t:=by
 induction r generalizing t with
 | nil=>
  cases t with
  | nil=>rfl
  | cons _ _=>cases h
 | cons x r ih=>
  cases t with
  | nil=>cases h
  | cons y t=>
   simp only[aV,sU]at h;rw[uj.mp h.1,ih h.2]
theorem HD{r t:List Str}(h:m5 r=m5 t):r=t:=AP h
theorem ym{L:List (Addr×List Str)}:∀ a∈L.map fo,∀ b∈L.map fo,kL a b=decide (m5 (sW a).2<m5 (sW b).2):=by
 intro a ha b hb;refine nn fun hG=>?_;obtain⟨x,_,hE1⟩:=ap.mp ha;refine hG ?_;clear hG;subst hE1;refine nn fun hG=>?_;obtain⟨y,_,hE1⟩:=ap.mp hb;refine hG ?_;clear hG;subst hE1;rw[pE,pE];show kL (.lst _ _) (.lst _ _)=_;rw[x8];exact pD _ _
theorem Hk(L:List (Addr×List Str)):∃ Xs:List (Addr×List Str),m0 (L.map fo)=Xs.map fo∧(Xs.map (·.2)).Perm (L.map (·.2))∧(Xs.map (·.2)).Pairwise fun a b=> ¬ m5 b<m5 a:=by
 have P:t5 (my (L.map fo)):=uP (fun a=>m5 (sW a).2) ym;have p:=mO P;have e:(L.map fo).map sW=L:=by
  rw[a9];exact ze pE L
 refine⟨(m0 (L.map fo)).map sW,?_,?_,?_⟩
 ·rw[a9]
  symm
  refine(bV fun a ha=>?_).trans (List.map_id _);refine nn fun hG=>?_;obtain⟨x,_,hE1⟩:=ap.mp (p.mem_iff.mp ha);refine hG ?_;clear hG;subst hE1;show fo (sW (fo x))=_;rw[pE];rfl
 ·have:=(p.map sW).map (fun(x:Addr×List Str)=>x.2)
  rwa [e]at this
 ·rw[a9,g8];refine(oJ P).imp_of_mem fun{a b} ha hb h=>?_;have ha:=p.mem_iff.mp ha;have hb:=p.mem_iff.mp hb;rw[ym _ hb _ ha]at h;exact eC h
theorem tm:∀ (l:List Str),d9 (V.pys (l.map .str)) (V.pys (l.map .str))=true
 | []=>rfl
 | x::l=>by
  simp only[aV,V.pys_cons,d9,V.py_str,mL]
  rw[tm l];simp
theorem tn:∀ (X Y:List (Addr×List Str)),X.map (·.2)=Y.map (·.2)→d9 (V.pys (X.map fo)) (V.pys (Y.map fo))=true
 | [],[],_=>rfl
 | [],_::_,h=>by cases h
 | _::_,[],h=>by cases h
 | x::X,y::Y,h=>by
  simp only[aV,sU]at h;simp only[aV,V.pys_cons,d9]
  rw[tn X Y h.2,Bool.and_true];show bw (V.lst x.1 (x.2.map .str)).py (V.lst y.1 (y.2.map .str)).py=true;rw[h.1];show d9 (V.pys _) (V.pys _)=_;exact tm y.2
theorem xt{n:Nat}{L:List (Addr×List Str)}(h:∀ x∈L,∀ s∈x.2,bH s=true):V.datas (n+1) (L.map fo)=true:=by
 rw[V.datas_all,ay];intro v hv;refine nn fun hG=>?_;obtain⟨x,hx,hE1⟩:=ap.mp hv;refine hG ?_;clear hG;subst hE1;exact lh (h x hx)
noncomputable def Bu(L:List (Addr×List Str))(v:V):Option V:=v.onI (fun k=>some (fo (L.getD k.toNat (0,[])))) none
section
variable{fx:Fx}{EX:dK}{Q:Fl→List V→Hp→Prop}
theorem E9(ok:(frame ew fx).Ok)(hh:fx.A.handled=none){L:List (Addr×List Str)}(nL:L.length=6)(oL:∀ x∈L,∀ s∈x.2,bH s=true){ln:List Int}(hln:ln.length=6)(h6:∀ k∈ln,0≤k∧k<6)
  (hs1:(ln.map (rowAt (L.map (·.2)))).Perm (L.map (·.2)))(hs2:(ln.map (rowAt (L.map (·.2)))).Pairwise fun a b=> ¬ m5 b<m5 a){ns:List Int}(h0:0<ns.length){cl wd:PL}(hc:(cl.length:Int)=kN ns)(hw:(wd.length:Int)=wv ns)(nc:cl.length≤1000)(nw:wd.length≤1000)
  {sc k pa ch ma od p h go ne ors ab as orr mk wh mi le ba ra si ev:V}{D Ln S E F:Addr}{G:Hp}
  (q:Ss (frame ew fx) (lv sc (.lst D (L.map fo)) k pa ch ma od p h [go,ne,ors,ab,as,orr,mk,wh,mi,le,ba,ra,si, .lst Ln (aY ln),ev, .lst S (aY ns), .lst E (cl.map aB), .lst F (wd.map aB)]) G (kC 25) Q EX):
  Ss (frame ew fx) (lv sc (.lst D (L.map fo)) k pa ch ma od p h [go,ne,ors,ab,as,orr,mk,wh,mi,le,ba,ra,si, .lst Ln (aY ln),ev, .lst S (aY ns), .lst E (cl.map aB), .lst F (wd.map aB)]) G (kC 24) Q EX:=by
 have szL:(L.map fo).length≤av:=by exact pC nL rfl
 have hsub:∀ x∈ [("rows" :Str)],x∈ew.cn:=fun x hx=>by rw[ao.mp hx];exact .head _
 have m1:(("rows" :Str),V.lst D (L.map fo))∈ [(("rows" :Str),V.lst D (L.map fo))]:=ah;have hg:∀ n,n<6→L[n]?=some (L.getD n (0,[])):=fun n hn=>by
  have h1:L[n]?=some L[n]:=aD (by exact aH [L.length,n] 78887501717173487235239939 tt nL hn);simp[j5,h1]
 refine nn fun hG=>?_;obtain⟨Xs,e1,e2,e3⟩:=Hk L;refine hG ?_;clear hG;let Ys:List (Addr×List Str):=ln.map fun k=>L.getD k.toNat (0,[]);have hY:Ys.map (·.2)=ln.map (rowAt (L.map (·.2))):=by
  rw[a9];refine bV fun k hk=>?_;have:=h6 k hk;show (L.getD k.toNat (0,[])).2=rowAt (L.map (·.2)) k;unfold rowAt;rw[aM,hg _ (by lia)];rfl
 have hXY:Ys.map (·.2)=Xs.map (·.2):=by
  rw[hY];exact jm (hs1.trans e2.symm) hs2 e3 fun a _ b _ h1 h2=>HD (mH h2 h1)
 have oY:∀ x∈Ys,∀ s∈x.2,bH s=true:=fun x hx s hs=>by
  refine nn fun hG=>?_;obtain⟨k,hk,hE1⟩:=ap.mp hx;refine hG ?_;clear hG;subst hE1;have:=h6 k hk;exact oL _ (aE (hg _ (by omega))) s hs
 have oX:∀ x∈Xs,∀ s∈x.2,bH s=true:=fun x hx s hs=>by
  have:x.2∈L.map (·.2):=e2.mem_iff.mp (ap.mpr ⟨x,hx,rfl⟩);refine nn fun hG=>?_;obtain⟨y,hy,e⟩:=ap.mp this;refine hG ?_;clear hG;exact oL y hy s (e▸hs)
 refine az (j9 (gf (gN (bv rfl (iM ok ⟨_,["k"],["rows"],[],[]⟩ (by decide +kernel) hsub rfl ?_)))));refine En ok 22 rfl rfl ff ⟨aY ln,[(("rows" :Str),V.lst D (L.map fo))],(iQ hh).c ok,by exact pC hln rfl,⟨hsub,all1 ⟨.head _,nu ff, .inl (.tail .head)⟩⟩,fun env own Y B ok2=>?_⟩;have hfm:(aY ln).filterMap (Bu L)=Ys.map fo:=by
  rw[aY,de,a9];have:(Bu L∘V.int)=some∘(fo∘fun(k:Int)=>L.getD k.toNat (0,[])):=rfl;rw[this,c6]
 refine CompI.map (Bu L) (fun x hx=>?_) (by
  refine hfm.symm▸?_;refine fun Y0=>i3 ok 6 rfl rfl tt pb (En ok 1 rfl rfl ff ?_);refine pH ok (.inr (.inr fun v hv=>by
   refine nn fun hG=>?_;obtain⟨x,hx,hE1⟩:=ap.mp hv;refine hG ?_;clear hG;subst hE1;exact⟨x.1,x.2,rfl,ay.mpr (oL x hx)⟩)) (uP _ ym) (by rw[an];exact aH [L.length] 73824135734046490691 tt nL) fun X0=>?_
  refine e1.symm▸?_;refine uQ ok (xt oY) (xt oX) ⟨_,rfl,?_⟩;have e0:(!bw (V.lst Y0 (Ys.map fo)).py (V.lst X0 (Xs.map fo)).py)=false:=by
   show (!d9 (V.pys _) (V.pys _))=false;rw[tn _ _ hXY];rfl
  first | refine DY e0 ?_ | refine sn e0 ?_
  refine gN (bv rfl (i3 ok 11 rfl rfl tt pb (En ok 25 rfl rfl ff (iT (by exact d4 nc rfl) ?_))));refine i3 ok 10 rfl rfl tt pb (En ok 24 rfl rfl ff (DL ok hh h0 (zG ⟨_,rfl,?_⟩)));rw[an,hc];simp only[fZ,aW,cj]
  refine gN (bv rfl (i3 ok 11 rfl rfl tt pb (En ok 26 rfl rfl ff (iT (by exact d4 nw rfl) ?_))));refine i3 ok 12 rfl rfl tt pb (En ok 24 rfl rfl ff (J0 ok hh h0 (zG ⟨_,rfl,?_⟩)));rw[an,hw];simp only[fZ,aW,cj]
  exact bz q)
 refine nn fun hG=>?_;obtain⟨k,hk,hE1⟩:=ap.mp hx;refine hG ?_;clear hG;subst hE1;have h6k:=h6 k hk;refine cL ok2 ⟨_, .head,?_⟩;exact dQ rfl (et ok2 m1 (nu ff) (En ok2 0 rfl rfl ff ⟨cG,fq (a:=fo (L.getD k.toNat (0,[]))) h6k.1 (by rw[aM,hg _ (by omega)];rfl) szL rfl⟩))
end
end
section
section
variable{fx:Fx}{EX:dK}{Q:Fl→List V→Hp→Prop}
theorem E0(ok:(frame ew fx).Ok){cl wd oa lA lB ms lf:PL}(ocl:∀ x∈cl,j4 x)(owd:∀ x∈wd,j4 x)(ooa:∀ x∈oa,j4 x)(oA:∀ x∈lA,j4 x)(oB:∀ x∈lB,j4 x)(oms:∀ x∈ms,j4 x)(olf:∀ x∈lf,j4 x)
  (ncl:cl.length<64)(nA:lA.length<64)(nB:lB.length<64)(h1:r6 cl=oa)(h2:(wd++ms).Perm lA)(h3:(wd++lf).Perm lB)
  {sc ro k pa ch ma p h go ne ors ab as orr mk ba ra si li ev sz:V}{O Wh W1 W2 mA aS E F:Addr}{G:Hp}
  (q:∀ vals H,Q (.ret (.bool true)) vals H):
  Ss (frame ew fx) (lv sc ro k pa ch ma (.lst O (oa.map aB)) p h [go,ne,ors,ab,as,orr,mk, .lst Wh [.lst W1 (lA.map aB), .lst W2 (lB.map aB)], .lst mA (ms.map aB), .lst aS (lf.map aB),ba,ra,si,li,ev,sz, .lst E (cl.map aB), .lst F (wd.map aB)]) G (kC 25) Q EX:=by
 have n2:(wd++ms).length<64:=by rw[h2.length_eq];exact nA
 have n3:(wd++lf).length<64:=by rw[h3.length_eq];exact nB
 have o2:∀ x∈wd++ms,j4 x:=fun x hx=>oA x (h2.mem_iff.mp hx);have o3:∀ x∈wd++lf,j4 x:=fun x hx=>oB x (h3.mem_iff.mp hx);have l2:=aR (as:=wd) (bs:=ms);have l3:=aR (as:=wd) (bs:=lf);refine az (j9 (gf (gN (bv rfl (i3 ok 6 rfl rfl tt pb (En ok 25 rfl rfl ff (ji ok ncl fun S1=>?_)))))));refine En ok 6 rfl rfl ff (xT ok (jf ocl) ooa ⟨_,rfl,?_⟩)
 first | refine DY (bc not (aP h1)) ?_ | refine sn (bc not (aP h1)) ?_
 refine gN (bv rfl (i3 ok 6 rfl rfl tt pb ?_));refine cK (En ok 26 rfl rfl ff (En ok 17 rfl rfl ff (ng (by simp only[an,av];exact aH [ae (wd++ms),ae wd,ae ms] 374144419886701916765029764582123908668546039676994 tt n2 l2) fun S2=>?_)));rw[← cC];refine ji ok n2 fun S3=>?_;refine i3 ok 6 rfl rfl tt pb (dQ rfl (En ok 16 rfl rfl ff (bS ⟨cG,fq (a:=.lst W1 (lA.map aB)) (by decide) rfl (by exact am tt) ?_⟩)));refine ji ok nA fun S4=>xT ok (jf o2) (jf oA) ⟨_,rfl,?_⟩
 first | refine DY (bc not (aP (iS h2))) ?_ | refine sn (bc not (aP (iS h2))) ?_
 refine bz ?_;refine az (ee (qN rfl (i3 ok 6 rfl rfl tt pb ?_)));refine cK (En ok 26 rfl rfl ff (En ok 18 rfl rfl ff (ng (by simp only[an,av];exact aH [ae (wd++lf),ae wd,ae lf] 374144419886701916765029764582123908668546039676994 tt n3 l3) fun S5=>?_)));rw[← cC];refine ji ok n3 fun S6=>?_;refine i3 ok 6 rfl rfl tt pb (dQ rfl (En ok 16 rfl rfl ff (bS ⟨cG,fq (a:=.lst W2 (lB.map aB)) (by decide) rfl (by exact am tt) ?_⟩)));refine ji ok nB fun S7=>Lp ok (jf o3) (jf oB) ?_;refine(iS h3).symm▸?_;simp only[n4]
 exact q _ _
end
end
section
noncomputable abbrev RL:=List (List Str)
noncomputable def zn(rs:RL):List Str:=rs.map iP
noncomputable def zp(rs:RL):List PL:=(zn rs).map pairsOf
noncomputable def Ks(rs:RL):PL:=bZ (zp rs)
noncomputable def lA(rs:RL):PL:=kS (Ks rs) (zp rs)
noncomputable def lB(rs:RL):PL:=kf (Ks rs) (zp rs)
noncomputable def Nf(rs:RL):List Int:=(aG 6).map (uD (zp rs))
noncomputable def Ba(rs:RL):List Int:=s3 (Nf rs)
noncomputable def A9(rs:RL):List (List (Int×Int)):=eF 3 (Ba rs)
noncomputable def pP(rs:RL):List Int:=(A9 rs).map (nK rs)
noncomputable def F5(rs:RL):List (Addr×sV):=(zn rs).map fun p=>(0,sZ p)
noncomputable def F6(rs:RL):PL:=eE (F5 rs) ((A9 rs)[(pP rs).idxOf (kN (pP rs))]?.getD [])
noncomputable def yW(rs:RL):PL:=eE (F5 rs) (rm (Ba rs))
structure yv(rs:RL):Prop where
 n6:rs.length=6
 rok:∀ r∈rs,uC r=true∧(r.all fun x=>decide (x.length≤2))=true
 good:∀ p∈zn rs,oR p
 plc:∀ p∈zn rs,ru (sZ p)
 okq:∀ c∈zp rs,∀ x∈c,A8 x
 nA:(lA rs).length<64
 nB:(lB rs).length<64
 n1:(lI (lA rs) (lB rs)).1.length<64
 n2:(lI (lA rs) (lB rs)).2.length<64
 o1:∀ x∈(lI (lA rs) (lB rs)).1,j4 x
 o2:∀ x∈(lI (lA rs) (lB rs)).2,j4 x
 u1:(lI (lB rs) (lA rs)).1.Perm (lI (lA rs) (lB rs)).2
 u2:(lI (lB rs) (lA rs)).2.Perm (lI (lA rs) (lB rs)).1
 rk:(Nf rs).Perm I6
 pg:∀ M∈A9 rs,sh 6 M∧M.length≤3
 pg0:0<(A9 rs).length
 pg1:(A9 rs).length≤100
 wid:sh 6 (rm (Ba rs))
 ln6:∀ k∈Ba rs,0≤k∧k<6
 s1:((Ba rs).map (rowAt rs)).Perm rs
 s2:((Ba rs).map (rowAt rs)).Pairwise fun a b=> ¬ m5 b<m5 a
 hc:((F6 rs).length:Int)=kN (pP rs)
 hw:((yW rs).length:Int)=wv (pP rs)
 ncl:(F6 rs).length<64
 nwd:(yW rs).length≤1000
 ocl:∀ x∈F6 rs,j4 x
 owd:∀ x∈yW rs,j4 x
 e1:r6 (F6 rs)=ct (zp rs)
 e2:(yW rs++(lI (lA rs) (lB rs)).1).Perm (lA rs)
 e3:(yW rs++(lI (lA rs) (lB rs)).2).Perm (lB rs)
theorem Fj{L L':List (Addr×sV)}(h:L.map (·.2)=L'.map (·.2))(m:Int×Int):nT L m=nT L' m:=by
 have g:∀ i:Nat,(L[i]?).map (·.2)=(L'[i]?).map (·.2):=fun i=>by rw[← aM,← aM,h]
 unfold nT;rw[g,g]
theorem vE{L L':List (Addr×sV)}(h:L.map (·.2)=L'.map (·.2))(M:List (Int×Int)):eE L M=eE L' M:=by
 induction M with
 | nil=>rfl
 | cons m M ih=>
  have e1:eE L (m::M)=nT L m++eE L M:=rfl;have e2:eE L' (m::M)=nT L' m++eE L' M:=rfl;rw[e1,e2,ih,Fj h]
section
variable{fx:Fx}{EX:dK}{Q:Fl→List V→Hp→Prop}
theorem Ie(ok:(frame ew fx).Ok)(hh:fx.A.handled=none)(FR:tO (frame ew fx) [])(hlv:fx.lvl+4≤20){ns:List Int}(hn:ns.length≤63)(F:yv (ry ns)){S:Addr}{H:Hp}
  (q:∀ vals H,Q (.ret (.bool true)) vals H):Ss (frame ew fx) (.lst S (aY ns)::gX 26) H (gy 30) Q EX:=by
 refine Ii (ro:=.unb) (k:=.unb) (pa:=.unb) (ch:=.unb) (ma:=.unb) (od:=.unb) (p:=.unb) (h:=.unb) (r:=gX 18) ok hh (by exact bL (cy _ _) hlv) hn fun D L k hL=>?_;generalize ry ns=rs at F hL;have hLl:L.length=6:=by rw[← F.n6,← hL,an]
 refine EZ ok hh (by exact L6 hlv rfl) F.n6 F.rok hL fun P C M O=>?_;have ePs:(rs.map fun r=>V.str (iP r))=(zn rs).map .str:=by rw[zn,a9];rfl
 refine ePs.symm▸?_;have hps:(zn rs).length=6:=by rw[zn,an,F.n6]
 refine Ik (go:=.unb) (ne:=.unb) (r:=gX 16) ok hh FR (by exact bJ hlv) hps F.good fun Ls M O p h go ne hLs=>?_;have hLsl:Ls.length=6:=by
  have:=bc ae hLs;simpa[hps]using this
 have ePl:∀ x∈Ls,∃ p∈zn rs,x.2=sZ p:=fun x hx=>by
  have:x.2∈Ls.map (·.2):=ap.mpr ⟨x,hx,rfl⟩;rw[hLs]at this;refine nn fun hG=>?_;obtain⟨p,hp,e⟩:=ap.mp this;refine hG ?_;clear hG;exact⟨p,hp,e.symm⟩
 have oPl:∀ x∈Ls,ru x.2:=fun x hx=>by
  refine nn fun hG=>?_;obtain⟨p,hp,e⟩:=ePl x hx;refine hG ?_;clear hG;rw[e];exact F.plc p hp
 refine Cq (ors:=.unb) (r:=gX 15) ok hh (by exact x0 hLsl rfl) (fun x hx=>(oPl x hx).len) fun E Os hOs=>?_;have eCs:Os.map (·.2)=zp rs:=by
  rw[hOs,show (Ls.map fun x=>x.2.ch)=(Ls.map (·.2)).map sV.ch by rw[a9];rfl,hLs,a9,zp];rfl
 have hOl:Os.length=6:=by
  have:=bc ae eCs;simpa[zp,hps]using this
 have oOs:∀ o∈Os,∀ x∈o.2,A8 x:=fun o ho x hx=>F.okq o.2 (eCs▸ap.mpr ⟨o,ho,rfl⟩) x hx;have inv:=oW F.good 6 (by exact aH [(zn rs).length] 82758316715937795 tt hps);rw[gx (by exact x0 hps rfl)]at inv;have eMs:bZ ((zn rs).map pairsOf)=Ks rs:=rfl;have nMs:(Ks rs).length≤18:=by
  have h1:=inv.mlen;rw[eMs,an]at h1;exact aH [(zn rs).length,ae (Ks rs)] 253927576188401886821686667378883 tt hps h1
 have oMs:∀ x∈Ks rs,A8 x:=fun x hx=>by
  refine nn fun hG=>?_;obtain⟨c,hc,hx⟩:=(inv.mmem x).mp hx;refine hG ?_;clear hG;exact F.okq c hc x hx
 refine Ih (ab:=.unb) (as:=.unb) (orr:=.unb) (mk:=.unb) (r:=gX 11) ok hh (by exact bL (cy _ _) hlv) nMs hOl (fun x hx=>(oMs x hx).1) (fun o ho x hx=>(oOs o ho x hx).1) fun ab d as orr mk=>?_;refine eCs.symm▸?_;have oA:∀ x∈lA rs,A8 x:=fun x hx=>by
  refine nn fun hG=>?_;obtain⟨c,_,hx⟩:=cZ.mp hx;refine hG ?_;clear hG;exact oMs x (fz.mp hx).1
 have oB:∀ x∈lB rs,A8 x:=fun x hx=>by
  refine nn fun hG=>?_;obtain⟨c,_,hx⟩:=cZ.mp hx;refine hG ?_;clear hG;exact oMs x (fz.mp hx).1
 have nA:=F.nA;have nB:=F.nB;refine JF (wh:=.unb) (mi:=.unb) (le:=.unb) (ba:=.unb) (r:=gX 7) ok hh FR (by exact bJ hlv) (by exact uW nA rfl) (by exact uW nB rfl) oA oB F.o1 F.o2 F.n1 F.n2 F.u1 F.u2 fun Wh W1 W2 mA ba G'=>?_;refine EY (ra:=.unb) (si:=.unb) (r:=gX 5) ok hh (by exact bL (cy _ _) hlv) hOl (fun o ho x hx=>(oOs o ho x hx).1) fun R k si=>?_;refine eCs.symm▸?_;refine Il (li:=.unb) (ev:=.unb) (r:=gX 3) ok hh hlv F.rk fun Ln Ev Ps hPs=>?_;have hPs:Ps.map (·.2)=A9 rs:=hPs;have hPl:Ps.length=(A9 rs).length:=by rw[← hPs,an]
 have mPs:∀ P∈Ps,P.2∈A9 rs:=fun P hP=>hPs▸ap.mpr ⟨P,hP,rfl⟩;have pg1:=F.pg1;have pg0:=F.pg0;have oL:∀ x∈L,(∀ s∈x.2,bH s=true)∧x.2.length≤1000:=fun x hx=>by
  have h:=w4 (F.rok x.2 (hL▸ap.mpr ⟨x,hx,rfl⟩)).1;exact⟨fun s hs=>(h.2 s hs).2,by exact aH [x.snd.length] 1152958663977285451841 tt h.1⟩
 refine EW (sz:=.unb) (r:=gX 2) ok hh (by exact aH [fx.lvl] 15872168915973967466987585 tt hlv) (by exact aH [L.length] 115329309831173505091 tt hLl) oL (by exact aH [Ps.length,(A9 rs).length] 132965641415089550703620625686204514371 tt hPl pg1) (fun P hP=>⟨by rw[hLl];exact(F.pg _ (mPs P hP)).1,by have:=(F.pg _ (mPs P hP)).2;exact aH [P.snd.length] 115329309831123173441 tt this⟩) fun S'=>?_;refine hL.symm▸?_;refine hPs.symm▸?_;have hNl:(pP rs).length=(A9 rs).length:=by rw[pP,an]
 have hln:(Ba rs).length=6:=by simp[Ba,s3]
 have hmin:=rF (ns:=pP rs) (by exact aH [(A9 rs).length,(pP rs).length] 106390563500921081475104834 tt pg0 hNl);have hlt:=eM hmin.2.1;have hP:Ps[(pP rs).idxOf (kN (pP rs))]?=some (Ps[(pP rs).idxOf (kN (pP rs))]'(by omega)):=aD (by omega);generalize (Ps[(pP rs).idxOf (kN (pP rs))]'(by omega))=P0 at hP;have ePa:(zn rs).map V.str=Ls.map fun x=>.str x.2.path:=by
  rw[show (Ls.map fun x=>V.str x.2.path)=((Ls.map (·.2)).map sV.path).map V.str by rw[a9,a9];rfl,hLs,a9,a9];rfl
 refine ePa.symm▸?_;refine Fb (li:=.unb) (cl:=.unb) (wi:=.unb) ok hh hlv oPl hLsl (fun P hP=>F.pg _ (mPs P hP)) (by omega) (by exact aH [(A9 rs).length,(pP rs).length] 106390563500921081475104834 tt pg0 hNl) (by omega) hP hln F.wid fun E1 F1=>?_;have hLs2:Ls.map (·.2)=(F5 rs).map (·.2):=by rw[hLs,F5,a9];rfl
 have eCl:eE Ls P0.2=F6 rs:=by
  rw[vE hLs2,F6];have:(A9 rs)[(pP rs).idxOf (kN (pP rs))]?=some P0.2:=by rw[← hPs,aM,hP];rfl
  rw[this];rfl
 have eWd:eE Ls (rm (Ba rs))=yW rs:=by rw[vE hLs2,yW]
 refine eCl.symm▸?_;refine eWd.symm▸?_;have ncl:=F.ncl;refine E9 ok hh hLl (fun x hx=>(oL x hx).1) hln F.ln6 (by rw[hL];exact F.s1) (by rw[hL];exact F.s2) (by omega) F.hc F.hw (by omega) F.nwd ?_;have oOd:∀ x∈ct (zp rs),j4 x:=fun x hx=>by
  refine nn fun hG=>?_;obtain⟨c,hc,hx⟩:=inv.mem x hx;refine hG ?_;clear hG;exact(F.okq c hc x hx).1
 exact E0 ok F.ocl F.owd oOd (fun x hx=>(oA x hx).1) (fun x hx=>(oB x hx).1) F.o1 F.o2 ncl nA nB F.e1 F.e2 F.e3 q
end
end
section
noncomputable abbrev Code:=List Nat
noncomputable def C0:List Code:=[[1],[2],[3]]
noncomputable def jC:List Code:=[]::(C0++(C0.flatMap fun q=>([1,2,3]:Code).map fun k=>q++ [k])++(C0.flatMap fun q=>([1,2,3]:Code).flatMap fun k=>([1,2,3]:Code).map fun m=>q++ [k,m]))
noncomputable def NW:Nat→Str
 | 1=>"a"
 | 2=>"ab"
 | _=>"b"
noncomputable def bA(q:Code):List Str:=q.map NW
noncomputable def Mt(r:List Str):Code:=r.map fun(s:Str)=>if s= "a" then 1 else if s= "ab" then 2 else 3
noncomputable def I1(q:Code):List Code:=(aG q.length).map fun i=>q.take (i+1)
noncomputable def pr(u:Code):Str×Str:=ke (iP (bA u))
noncomputable def dW(q:Code):PL:=pairsOf (iP (bA q))
theorem EL:((aG 64).all fun(k:Nat)=>jC.contains (Mt (namesOf (k:Int))) && decide (bA (Mt (namesOf (k:Int)))=namesOf (k:Int)))=true:=by decide +kernel
theorem nt(n:Int):∃ q∈jC,namesOf n=bA q:=by
 refine nn fun hG=>?_;obtain⟨k,hk,e⟩:=Lk n;refine hG ?_;clear hG;have h:=ay.mp EL k (aQ.mpr hk);simp only[bk,bd,pN]at h;exact⟨_,h.1,by rw[e,h.2]⟩
structure r3(qs:List Code):Prop where
 n6:qs.length=6
 mem:∀ q∈qs,q∈jC
 two:∃ r,qs= [1,1]:: [1,3]::r
theorem Eo(ns:List Int):∃ qs,r3 qs∧ry ns=qs.map bA:=by
 refine nn fun hG=>?_;obtain⟨q0,h0,e0⟩:=nt (sf ns 0);refine hG ?_;clear hG;refine nn fun hG=>?_;obtain⟨q1,h1,e1⟩:=nt (sf ns 1);refine hG ?_;clear hG;refine nn fun hG=>?_;obtain⟨q2,h2,e2⟩:=nt (sf ns 2);refine hG ?_;clear hG;refine nn fun hG=>?_;obtain⟨q3,h3,e3⟩:=nt (sf ns 3);refine hG ?_;clear hG;refine⟨[[1,1],[1,3],q0,q1,q2,q3],⟨rfl,fun q hq=>?_,_,rfl⟩,?_⟩
 ·have b1:([1,1]:Code)∈jC:=by decide
  have b2:([1,3]:Code)∈jC:=by decide
  simp only[aF,aZ,gz]at hq;rcases hq with rfl | rfl | rfl | rfl | rfl | rfl<;>assumption
 ·show C1++ [m8 ns 0,m8 ns 1,m8 ns 2,m8 ns 3]=_;unfold m8;refine e0.symm▸?_;refine e1.symm▸?_;refine e2.symm▸?_;refine e3.symm▸?_
  rfl
noncomputable def I8(p:Str×Str):Code:=Mt (eS (p.1++bG++p.2))
noncomputable def ub:PL→Bool
 | []=>true
 | [_]=>true
 | a::b::l=>decide (gb a<gb b) && ub (b::l)
theorem s7:∀ {l:PL},ub l=true→wN l
 | [],_=>List.Pairwise.nil
 | [a],_=>jq _ _
 | a::b::l,h=>by
  simp only[ub,bk,bd]at h;have ih:=s7 h.2;refine e8.mpr ⟨fun c hc=>?_,ih⟩;rcases aF.mp hc with e | hc
  ·rw[e];exact h.1
  ·exact ti h.1 ((e8.mp ih).1 c hc)
noncomputable def D3(p:Str×Str):Bool:=bH p.1 && bH p.2 && decide (p.1.length≤100) && decide (p.2.length≤100) && decide (0<p.1.length)
noncomputable def GM(q:Code):Bool:=decide (dW q=(I1 q).map pr) && uC (bA q) && (bA q).all (fun x=>decide (x.length≤2)) && ub (dW q) && (dW q).all D3 && xS (iP (bA q)) && decide (eS (iP (bA q))=bA q) && decide ((jd (iP (bA q)) 3).1=bG) && decide (Mt (bA q)=q) && (q.isEmpty || decide (I8 (pr q)=q))
theorem IE:jC.all GM=true:=by decide +kernel
end
section
noncomputable def f9(q:Code):Str:=iP (bA q)
noncomputable def GA(q t:Code):Bool:=decide (iy (r7 (bA q) (bA t)) (uz (bA q) (bA t))=bA (iy q t))
theorem HV:(jC.all fun q=>jC.all fun t=>GA q t)=true:=by decide +kernel
theorem JI:(jC.all fun u=>decide (bG++kF bG (bA u)=f9 u))=true:=by decide +kernel
noncomputable def My(q:Code)(n:Nat):Bool:=decide (iO (f9 (q.take n)) (qr (dW q),[]) 3=(qr (dW (q.take n)),((dW q).drop n).reverse))
theorem Lf:(jC.all fun q=>(aG (q.length+1)).all fun n=>My q n)=true:=by decide +kernel
noncomputable def MC(t:Code)(n:Nat):Bool:=decide (((dW t).drop n).foldl eG (qr (dW (t.take n)),[])=(qr (dW t),(dW t).drop n))
theorem LO:(jC.all fun t=>(aG (t.length+1)).all fun n=>MC t n)=true:=by decide +kernel
noncomputable def KB(t:Code):Bool:=decide (I3 (c7 (qr (dW t)))=f9 t) && decide (dC (qr (dW t))=(c7 (qr (dW t))).length)
theorem JP:jC.all KB=true:=by decide +kernel
end
section
theorem Hc:(jC.all fun q=>(aG (q.length+1)).all fun n=>jC.contains (q.take n))=true:=by decide +kernel
theorem vg{q:Code}(h:q∈jC)(n:Nat):q.take n∈jC:=by
 by_cases hn:n<q.length+1
 ·have:=ay.mp (ay.mp Hc q h) n (aQ.mpr hn);simpa using this
 ·rw[gx (by exact aH [n,ae q] 300931655273915875397 tt hn)];exact h
theorem k5{q:Code}(h:q∈jC):q.length≤3:=by
 have all:(jC.all fun q=>decide (q.length≤3))=true:=by decide +kernel
 simpa using ay.mp all q h
theorem kZ(q:Code):∀ t:Code,q.take (iy q t).length=iy q t:=by
 induction q with
 | nil=>exact fun _=>zc
 | cons x q ih=>
  intro t
  cases t with
  | nil=>rfl
  | cons y t=>
   by_cases h:x=y
   ·rw[uF h,aT,ly,ih]
   ·rw[zJ h];rfl
theorem z9(q:Code):∀ t:Code,iy q t=iy t q:=by
 induction q with
 | nil=>intro t;cases t<;>rfl
 | cons x q ih=>
  intro t
  cases t with
  | nil=>rfl
  | cons y t=>
   by_cases h:x=y
   ·rw[uF h,uF h.symm,ih,h]
   ·rw[zJ h,zJ fun e=>h e.symm]
theorem mQ(q t:Code):t.take (iy q t).length=iy q t:=by rw[z9];exact kZ t q
theorem uh(q t:Code):(iy q t).length≤q.length∧(iy q t).length≤t.length:=by
 have h1:=bc ae (kZ q t);have h2:=bc ae (mQ q t);rw[bM]at h1 h2;exact⟨aH [min (ae (iy q t)) (ae q),ae (iy q t),ae q] 117573053581123097080107011 tt h1 (cw (ae (iy q t)) (ae q)),aH [min (ae (iy q t)) (ae t),ae (iy q t),ae t] 117573053581123097080107011 tt h2 (cw (ae (iy q t)) (ae t))⟩
theorem DA(q:Code):∀ (t:Code) (n:Nat),n≤q.length→n≤t.length→q.take n=t.take n→n≤(iy q t).length:=by
 induction q with
 | nil=>exact fun _ _ h _ _=>aU h (bi _)
 | cons x q ih=>
  intro t n h1 h2 e
  cases n with
  | zero=>exact bi _
  | succ n=>
   cases t with
   | nil=>exact(fG _ h2).elim
   | cons y t=>
    rw[uF (dN e).1];exact wj (ih t n (gH h1) (gH h2) (dN e).2)
structure FT(q:Code):Prop where
 ch:dW q=(I1 q).map pr
 row:uC (bA q)=true
 two:((bA q).all fun x=>decide (x.length≤2))=true
 srt:wN (dW q)
 okq:∀ x∈dW q,D3 x=true
 path:xS (f9 q)=true
 parts:eS (f9 q)=bA q
 it:(jd (f9 q) 3).1=bG
 inv:Mt (bA q)=q
 prinv:q≠ []→I8 (pr q)=q
theorem dw{q:Code}(h:q∈jC):FT q:=by
 have:=ay.mp IE q h;simp only[GM,bk,bd,gQ,ay,List.isEmpty_iff]at this;refine nn fun hG=>?_;obtain⟨⟨⟨⟨⟨⟨⟨⟨⟨a,b⟩,c⟩,d⟩,e⟩,f⟩,g⟩,i⟩,j⟩,k⟩:=this;refine hG ?_;clear hG;exact⟨a,b,by simpa using c,s7 d,e,f,g,i,j,fun n=>k.resolve_left n⟩
theorem qD{q:Code}(h:q∈jC):(dW q).length=q.length:=by
 rw[(dw h).ch,an,I1,an,dX]
theorem LQ(l:PL):∀ (w o:PL),l.foldl eG (w,o)=((l.foldl eG (w,[])).1,o++(l.foldl eG (w,[])).2):=by
 induction l with
 | nil=>intro w o;simp
 | cons p l ih=>
  intro w o;rw[gP,gP];generalize hx:ke (c7 (w++ [(bG,p.2)]))=x;have e1:eG (w,o) p=(w++ [(bG,p.2)],o++ [x]):=by rw[← hx];rfl
  have e2:eG (w,[]) p=(w++ [(bG,p.2)],[x]):=by rw[← hx];rfl
  rw[e1,e2,ih,ih (w++ [(bG,p.2)]) [x]];simp[fE]
theorem zY{q t:Code}(hq:q∈jC)(ht:t∈jC):lV (f9 q) (f9 t) (dW q) (dW t)=((dW q).drop (iy q t).length).reverse++(dW t).drop (iy q t).length:=by
 obtain⟨l1,l2⟩:=uh q t;have hl:iy q t∈jC:=by rw[← kZ q t];exact vg hq _
 have hp:=ay.mp (ay.mp HV q hq) t ht;simp only[GA,bd]at hp;have hj:=ay.mp JI _ hl;simp only[bd]at hj;have hcom:l0 (f9 q) (f9 t)=f9 (iy q t):=by
  unfold l0;rw[(dw hq).parts,(dw ht).parts,hp,hj]
 have hu:=ay.mp (ay.mp Lf q hq) (iy q t).length (aQ.mpr (by exact cf l1));simp only[My,bd]at hu;rw[kZ]at hu;have hd:=ay.mp (ay.mp LO t ht) (iy q t).length (aQ.mpr (by exact aH [ae (iy q t),ae t] 2440735955894330720321 tt l2));simp only[MC,bd]at hd;rw[mQ]at hd;have he:=ay.mp JP t ht;simp only[KB,bk,bd]at he;have hup:tP (f9 q) (f9 t) (dW q)=(qr (dW (iy q t)),((dW q).drop (iy q t).length).reverse):=by
  unfold tP;rw[hcom];exact hu
 have hwl:(qr (dW (iy q t))).length=(iy q t).length:=by rw[qr,an,qD hl]
 have hend:mC (f9 q) (f9 t) (dW q) (dW t)=(qr (dW t),((dW q).drop (iy q t).length).reverse++(dW t).drop (iy q t).length):=by
  unfold mC;rw[hup];simp only[hwl]
  rw[LQ,hd]
 unfold lV;refine hend.symm▸?_;simp only[he.1,he.2,ne_eq,not_true_eq_false,or_self,cj,cW]
end
section
noncomputable def tR(u q:Code):Prop:=u≠ []∧u.length≤q.length∧q.take u.length=u
theorem yl{u q:Code}:u∈I1 q↔tR u q:=by
 unfold I1;rw[ap]
 constructor
 ·intro hI;refine nn fun hG=>?_;obtain⟨i,hi,hE1⟩:=hI;refine hG ?_;clear hG;subst hE1;have hi:=aQ.mp hi;have hl:(q.take (i+1)).length=i+1:=by rw[bM];exact aq (aH [min (i+1) (ae q),i] 9997254475063628873596993 tt (bC (i+1) (ae q))) (aH [min (i+1) (ae q),i] 1365132867573373186609155 tt (dJ (aH [i,ae q] 407053353393264263234 tt hi:(i+1)≤(ae q))))
  refine⟨fun e=>?_,by exact hl.symm▸hi,by rw[hl]⟩;rw[e]at hl;simp at hl
 ·intro hI;refine nn fun hG=>?_;obtain⟨h1,h2,h3⟩:=hI;refine hG ?_;clear hG;have:0<u.length:=re.mpr h1;refine⟨u.length-1,aQ.mpr (by exact aH [ae u,ae q,ae u-1] 403589307110724723264839483457 tt h2 (ag (aH [ae u] 81350941269295170 tt this:1≤(ae u)))),?_⟩;rw[show u.length-1+1=u.length by exact aq (aH [ae u-1,ae u] 1667290535498841627557955 tt (ag (aH [ae u] 81350941269295170 tt this:1≤(ae u)))) (aH [ae u,ae u-1] 9997254475063628873596993 tt (su (ae u) 1)),h3]
theorem pB{u q:Code}(hq:q∈jC)(h:tR u q):u∈jC:=by rw[← h.2.2];exact vg hq _
theorem xU{q:Code}(hq:q∈jC){x:Str×Str}:x∈dW q↔∃ u,tR u q∧x=pr u:=by
 rw[(dw hq).ch,ap]
 constructor
 ·rintro ⟨u,hu,rfl⟩;exact⟨u,yl.mp hu,rfl⟩
 ·rintro ⟨u,hu,rfl⟩;exact⟨u,yl.mpr hu,rfl⟩
theorem Gy{u v:Code}(hu:u∈jC)(hv:v∈jC)(nu:u≠ [])(nv:v≠ [])(h:pr u=pr v):u=v:=by
 rw[← (dw hu).prinv nu,← (dw hv).prinv nv,h]
theorem EP{q u:Code}(hq:q∈jC)(hu:u∈jC)(nu:u≠ []):pr u∈dW q↔tR u q:=by
 rw[xU hq]
 constructor
 ·intro hI;refine nn fun hG=>?_;obtain⟨v,hv,e⟩:=hI;refine hG ?_;clear hG;rw[Gy hu (pB hq hv) nu hv.1 e];exact hv
 ·exact fun h=>⟨u,h,rfl⟩
theorem HS(q:Code)(n:Nat):(I1 q).take n=I1 (q.take n):=by
 unfold I1;rw[← i8,List.take_range,bM];refine bV fun i hi=>?_;have hi:=aQ.mp hi;rw[xK,dJ (by exact aH [i,min n (ae q),n] 516298372652082792784932634690 tt hi (bC n (ae q)))]
theorem DN{q:Code}(hq:q∈jC)(n:Nat):(dW q).take n=dW (q.take n):=by
 rw[(dw hq).ch,(dw (vg hq n)).ch,← i8,HS]
theorem rI{q:Code}(hq:q∈jC):(dW q).Nodup:=(dw hq).srt.nodup
theorem tg{q:Code}(hq:q∈jC){n:Nat}{x:Str×Str}(h:x∈(dW q).drop n):∃ u,tR u q∧n<u.length∧x=pr u:=by
 rw[(dw hq).ch,← kr,ap]at h;refine nn fun hG=>?_;obtain⟨u,hu,hE1⟩:=h;refine hG ?_;clear hG;subst hE1;refine⟨u,yl.mp (qq hu),?_,rfl⟩;unfold I1 at hu;rw[← kr,ap]at hu;refine nn fun hG=>?_;obtain⟨i,hi,hE1⟩:=hu;refine hG ?_;clear hG;subst hE1;refine nn fun hG=>?_;obtain⟨j,hj,e⟩:=List.mem_iff_getElem.mp hi;refine hG ?_;clear hG;rw[List.getElem_drop,List.getElem_range]at e;rw[eW,dX]at hj;rw[bM];exact(dY (i+1) (ae q)).elim (fun q0=>aH [n,j,i,min (i+1) (ae q)] 2291997713077329748341458647121987 tt e (dJ (aH [i,ae q] 1667290535498841627557953 tt q0:(i+1)≤(ae q)))) (fun q0=>(dY (ae q) n).elim (fun q1=>aH [j,ae q-n,n,min (i+1) (ae q)] 137213450039010084732796994 tt hj (c9 (aH [ae q,n] 91202565463605313 tt q1:(ae q)≤n))) (fun q1=>aH [j,ae q-n,min (i+1) (ae q),ae q,n] 521079766692486825679516515932730032194 tt hj (wl (aH [ae q,i] 9997254475063628873596993 tt q0:(ae q)≤(i+1))) (ag (aH [n,ae q] 91202565463605313 tt q1:n≤(ae q)))))
theorem z4{q t:Code}(hq:q∈jC)(ht:t∈jC){x:Str×Str}:x∈(dW q).drop (iy q t).length↔x∈dW q∧x∉dW t:=by
 have e:(dW q).take (iy q t).length=(dW t).take (iy q t).length:=by rw[DN hq,DN ht,kZ,mQ]
 constructor
 ·intro h;refine⟨qq h,fun ht'=>?_⟩;have nd:=rI hq;rw[← d7 (iy q t).length (dW q),aJ]at nd;rw[← d7 (iy q t).length (dW t),aw]at ht';rcases ht' with h' | h'
  ·rw[← e]at h';exact nd.2.2 x h' x h rfl
  ·refine nn fun hG=>?_;obtain⟨u,hu,lu,e1⟩:=tg hq h;refine hG ?_;clear hG;refine nn fun hG=>?_;obtain⟨v,hv,lv,e2⟩:=tg ht h';refine hG ?_;clear hG;have:u=v:=Gy (pB hq hu) (pB ht hv) hu.1 hv.1 (e1.symm.trans e2);subst this;have:=DA q t u.length hu.2.1 hv.2.1 (hu.2.2.trans hv.2.2.symm);exact absurd lu (ip.mpr this)
 ·rintro ⟨h1,h2⟩
  rw[← d7 (iy q t).length (dW q),aw]at h1;rcases h1 with h | h
  ·rw[e]at h;exact(h2 (dO h)).elim
  ·exact h
noncomputable def yX(b:Bool):Nat:=if b then 1 else 0
theorem jY{l:PL}(h:l.Nodup)(x:Str×Str):l.count x=yX (decide (x∈l)):=by
 unfold yX;by_cases hx:x∈l
 ·simp[hx,h.count]
 ·simp[hx,List.count_eq_zero.mpr hx]
theorem Cu{q t:Code}(hq:q∈jC)(ht:t∈jC)(x:Str×Str):(lV (f9 q) (f9 t) (dW q) (dW t)).count x=yX (decide (x∈dW q) != decide (x∈dW t)):=by
 have e:=z9 q t;rw[zY hq ht,fB,List.count_reverse,jY ((rI hq).sublist (tM _ _)),jY ((rI ht).sublist (tM _ _))];have h1:=z4 hq ht (x:=x);have h2:=z4 ht hq (x:=x);rw[← e]at h2;simp only[h1,h2]
 by_cases a:x∈dW q<;>by_cases b:x∈dW t<;>simp[a,b,yX]
theorem Ib{q t:Code}(hq:q∈jC)(ht:t∈jC):(lV (f9 q) (f9 t) (dW q) (dW t)).length=(q.length-(iy q t).length)+(t.length-(iy q t).length):=by
 rw[zY hq ht,aR,List.length_reverse,eW,eW,qD hq,qD ht]
end
section
noncomputable def r0:Code→Code→Bool
 | [],[]=>false
 | [],_::_=>true
 | _::_,[]=>false
 | x::q,y::t=>if x=y then r0 q t else decide (x<y)
noncomputable def xP(q t:Code):Int:=if r0 q t then -1 else if r0 t q then 1 else 0
noncomputable def Nl(q:Code):PL:=(I1 q).map fun u=>(bG++kF bG (bA u.dropLast),NW (u.getLastD 0))
noncomputable def Ky(q t:Code):Bool:=decide (Ml (Nl q) (Nl t)=xP q t) && (decide (m5 (bA q)<m5 (bA t)) == r0 q t) && decide (kD (bA q) (bA t)=(((q.length-(iy q t).length)+(t.length-(iy q t).length):Nat):Int))
theorem Dr:(jC.all fun q=>decide (dW q=Nl q) && jC.all fun t=>Ky q t)=true:=by decide +kernel
end
section
theorem lg:∀ q:Code,r0 q q=false
 | []=>rfl
 | x::q=>by rw[r0,if_pos rfl];exact lg q
theorem xg(q:Code):∀ s t:Code,r0 q s=true→r0 s t=true→r0 q t=true:=by
 induction q with
 | nil=>
  intro s t h h2
  cases s with
  | nil=>exact absurd h au
  | cons y s=>
   cases t with
   | nil=>exact absurd h2 au
   | cons z t=>rfl
 | cons x q ih=>
  intro s t h1 h2
  cases s with
  | nil=>exact absurd h1 au
  | cons y s=>
  cases t with
  | nil=>exact absurd h2 au
  | cons z t=>
  unfold r0 at h1 h2 ⊢;by_cases a:x=y
  ·subst a;rw[if_pos rfl]at h1;by_cases b:x=z
   ·subst b;rw[if_pos rfl]at h2 ⊢;exact ih s t h1 h2
   ·rw[if_neg b]at h2 ⊢;exact h2
  ·rw[if_neg a]at h1;have h1:=cp h1;by_cases b:y=z
   ·subst b;rw[if_neg a];exact aP h1
   ·rw[if_neg b]at h2;have h2:=cp h2;have:x≠z:=by exact fun q0=>aH [x,y,z] 674999067095773207732350334366908482 tt h1 h2 q0
    rw[if_neg this];exact aP (by exact iD h1 h2)
theorem sA:∀ q s:Code,q≠s→r0 q s=true∨r0 s q=true
 | [],[],h=>(h rfl).elim
 | [],_::_,_=>.inl rfl
 | _::_,[],_=>.inr rfl
 | x::q,y::s,h=>by
  unfold r0;by_cases a:x=y
  ·subst a;rw[if_pos rfl,if_pos rfl];exact sA q s fun e=>h (by rw[e])
  ·rw[if_neg a,if_neg (fun e=>a e.symm)];rcases ci a with q | q
   ·exact .inl (aP q)
   ·exact .inr (aP q)
theorem xh{q s:Code}(h:r0 q s=true):r0 s q=false:=by
 cases e:r0 s q with
 | false=>rfl
 | true=>
  have:=xg q s q h e;rw[lg]at this;cases this
theorem H9(n:Nat):∀ q s t:Code,n≤q.length→n≤t.length→q.take n=t.take n→r0 s q=false→r0 t s=false→n≤s.length∧s.take n=q.take n:=by
 induction n with
 | zero=>exact fun _ _ _ _ _ _ _ _=>⟨bi _,rfl⟩
 | succ n ih=>
  intro q s t h1 h2 e h3 h4
  cases q with
  | nil=>exact absurd h1 (fG _)
  | cons x q=>
  cases t with
  | nil=>exact absurd h2 (fG _)
  | cons z t=>
  cases s with
  | nil=>exact absurd h3.symm au
  | cons y s=>
  have e':=(dN e).1;subst e';replace e:=(dN e).2;unfold r0 at h3 h4;by_cases a:y=x
  ·subst a;rw[if_pos rfl]at h3 h4;have:=ih q s t (by exact cR h1) (by exact cR h2) e h3 h4;exact⟨by simpa using this.1,by rw[ly,ly,this.2]⟩
  ·rw[if_neg a]at h3;rw[if_neg (fun e=>a e.symm)]at h4;have h3:=eC h3;have h4:=eC h4;lia
theorem HL{u q s t:Code}(hq:tR u q)(ht:tR u t)(h1:r0 s q=false)(h2:r0 t s=false):tR u s:=by
 have:=H9 u.length q s t hq.2.1 ht.2.1 (hq.2.2.trans ht.2.2.symm) h1 h2;exact⟨hq.1,this.1,this.2.trans hq.2.2⟩
theorem sv{q t:Code}(hq:q∈jC)(ht:t∈jC):Ml (dW q) (dW t)=xP q t∧(m5 (bA q)<m5 (bA t)↔r0 q t=true)∧kD (bA q) (bA t)=(((q.length-(iy q t).length)+(t.length-(iy q t).length):Nat):Int):=by
 have hq:=aO.mp (ay.mp Dr q hq);have h:=ay.mp hq.2 t ht;rw[cp hq.1,cp (aO.mp (ay.mp Dr t ht)).1];simp only[Ky,bk,bd,eP]at h;refine⟨h.1.1,?_,h.2⟩;rw[← h.1.2,bd]
theorem xA{α:Type}{p r:α→Bool}{l:List α}(h:∀ x∈l,p x=true→r x=true)(hx:∃ x∈l,r x=true∧p x=false):l.countP p<l.countP r:=by
 induction l with
 | nil=>obtain⟨_,h,_⟩:=hx;cases h
 | cons a l ih=>
  obtain⟨x,hx,hr,hp⟩:=hx;have mono:l.countP p≤l.countP r:=List.countP_mono_left fun y hy=>h y (ai _ hy);rw[cc,cc];rcases aF.mp hx with e | hx
  ·subst e;rw[hr,hp];simp;exact cf mono
  ·have ih:=ih (fun y hy=>h y (ai _ hy)) ⟨x,hx,hr,hp⟩;have ha:=h a ah;by_cases q:p a=true
   ·rw[if_pos q,if_pos (ha q)];exact cf ih
   ·rw[if_neg q];exact aH [bF p l,bF r l,if r a=true then 1 else 0] 1837037527386775173988418 tt ih
theorem oV{α:Type}[y9 α]:∀ {l m:List α},l.Nodup→(∀ x∈l,x∈m)→m.length≤l.length→l.Perm m
 | [],m,_,_,h=>by
  have:m= []:=nS.mp (by simpa using h);rw[this]
 | a::l,m,nd,sub,h=>by
  have ha:=sub a ah;have nd:=cg.mp nd;have hp:=List.perm_cons_erase ha;refine AZ.trans (.cons a (oV nd.2 (fun x hx=>?_) ?_)) hp.symm
  ·have hxa:x≠a:=fun e=>nd.1 (e▸hx);exact(List.mem_erase_of_ne hxa).mpr (sub x (ai _ hx))
  ·rw[List.length_erase_of_mem ha];simp only[aT]at h;exact Nat.sub_le_of_le_add h
end
section
noncomputable def fP(qs:List Code)(j:Nat):Code:=qs.getD j []
noncomputable def bf(qs:List Code)(j i:Nat):Bool:=r0 (fP qs j) (fP qs i) || (decide (j<i) && decide (fP qs j=fP qs i))
noncomputable def lR(qs:List Code)(i:Nat):Nat:=(aG 6).countP fun j=>bf qs j i
theorem o6:∀ (l:List Code) (p:Code→Bool) (i:Nat),(l.take i).countP p=(aG l.length).countP fun j=>decide (j<i) && p (fP l j)
 | [],p,i=>by simp
 | a::l,p,0=>by
  simp
 | a::l,p,i+1=>by
  rw[ly,cc,o6 l p i,aT,List.range_succ_eq_map,cc,pq];have e:((fun j=>decide (j<i+1) && p (fP (a::l) j))∘FV)=fun j=>decide (j<i) && p (fP l j):=by
   funext j;simp[fP]
  refine e.symm▸?_;simp[fP]
theorem vL(l:List Code)(p:Code→Bool):l.countP p=(aG l.length).countP fun j=>p (fP l j):=by
 have h:=o6 l p l.length;rw[cY]at h;rw[h];refine mU fun j hj=>?_;have:=aQ.mp hj;simp[this]
theorem xz{α:Type}(p r:α→Bool):∀ (l:List α),(∀ x∈l,p x=true→r x=false)→l.countP p+l.countP r=l.countP fun x=>p x || r x
 | [],_=>rfl
 | a::l,h=>by
  have ih:=xz p r l fun x hx=>h x (ai _ hx);have ha:=h a ah;rw[cc,cc,cc,← ih]
  cases hp:p a with
  | true=>rw[ha hp];simp;exact aq (aH [bF p l,bF r l] 156211640526453180731648 tt) (aH [bF p l,bF r l] 26051414463579741491456 tt)
  | false=>cases hr:r a<;>simp<;>exact aq (aH [bF p l,bF r l] 156211640647670109835520 tt) (aH [bF p l,bF r l] 156207101019249948233984 tt)
theorem jE{qs:List Code}(s:r3 qs){i:Nat}(hi:i<6):qs[i]?=some (fP qs i)∧fP qs i∈jC:=by
 have hl:i<qs.length:=by rw[s.n6];exact hi
 have h:qs[i]?=some qs[i]:=aD hl;have e:fP qs i=qs[i]:=by simp[fP,j5,h]
 rw[e];exact⟨h,s.mem _ (ix _)⟩
theorem Jq{qs:List Code}(s:r3 qs){i:Nat}(hi:i<6):uD (qs.map dW) i=(lR qs i:Int):=by
 obtain⟨h1,h2⟩:=jE s hi;have hs:signs (qs.map dW) i=qs.map (xP (fP qs i)):=by
  rw[signs_at (c:=dW (fP qs i)) (by rw[aM,h1];rfl),a9];exact bV fun t ht=>(sv h2 (s.mem t ht)).1
 unfold uD;rw[hs,← i8,List.count_eq_countP,List.count_eq_countP,pq,pq];have e1:((fun x:Int=>x == 1)∘xP (fP qs i))=fun t=>r0 t (fP qs i):=by
  funext t;show (xP (fP qs i) t == 1)=_;unfold xP
  cases h:r0 (fP qs i) t with
  | true=>rw[xh h];decide
  | false=>cases h':r0 t (fP qs i)<;>decide
 have e0:((fun x:Int=>x == 0)∘xP (fP qs i))=fun t=>decide (t=fP qs i):=by
  funext t;show (xP (fP qs i) t == 0)=_;unfold xP;by_cases ht:t=fP qs i
  ·rw[ht,lg];simp
  ·refine(bg ht).symm▸?_;rcases sA _ _ ht with q | q
   ·rw[q,xh q];decide
   ·rw[q];rfl
 rw[e1,e0,vL,o6,s.n6];rw[← Int.natCast_add,xz]
 ·rfl
 ·intro j hj h;by_cases q:fP qs j=fP qs i
  ·rw[q,lg]at h;cases h
  ·simp[q]
theorem xF(qs:List Code)(i:Nat):bf qs i i=false:=by simp[bf,lg]
theorem IQ{qs:List Code}{i j k:Nat}(h1:bf qs i j=true)(h2:bf qs j k=true):bf qs i k=true:=by
 simp only[bf,gQ,bk,bd]at h1 h2 ⊢;rcases h1 with a | ⟨a,a'⟩<;>rcases h2 with b | ⟨b,b'⟩
 ·exact .inl (xg _ _ _ a b)
 ·rw[← b'];exact .inl a
 ·rw[a'];exact .inl b
 ·exact .inr ⟨by exact iD a b,a'.trans b'⟩
theorem IR{qs:List Code}{i j:Nat}(h:i≠j):bf qs i j=true∨bf qs j i=true:=by
 simp only[bf,gQ,bk,bd]
 by_cases e:fP qs i=fP qs j
 ·rcases ci h with q | q
  ·exact .inl (.inr ⟨q,e⟩)
  ·exact .inr (.inr ⟨q,e.symm⟩)
 ·rcases sA _ _ e with q | q
  ·exact .inl (.inl q)
  ·exact .inr (.inl q)
theorem ye{qs:List Code}{i j:Nat}(hi:i<6)(h:bf qs i j=true):lR qs i<lR qs j:=
 xA (fun k _ hk=>IQ hk h) ⟨i,aQ.mpr hi,h,xF qs i⟩
theorem HE{qs:List Code}{i:Nat}(hi:i<6):lR qs i<6:=by
 have h:lR qs i<(aG 6).countP fun _=>true:=xA (fun _ _ _=>rfl) ⟨i,aQ.mpr hi,rfl,xF qs i⟩;have e:((aG 6).countP fun _=>true)=6:=by decide
 trivial
theorem HF{qs:List Code}{i j:Nat}(hi:i<6)(hj:j<6)(h:lR qs i=lR qs j):i=j:=by
 refine eY fun ne=>?_;rcases IR (qs:=qs) ne with q | q
 ·have:=ye hi q;exact aH [lR qs i,lR qs j] 628641869012662903282601987 tt h this
 ·have:=ye hj q;exact aH [lR qs i,lR qs j] 628641868994929979749826627 tt h this
end
section
theorem uJ(qs:List Code):zp (qs.map bA)=qs.map dW:=by
 unfold zp zn;rw[a9,a9];rfl
noncomputable def F4(qs:List Code):List Int:=(aG 6).map fun i=>(lR qs i:Int)
theorem Kw{qs:List Code}(s:r3 qs):Nf (qs.map bA)=F4 qs:=by
 unfold Nf F4;rw[uJ];exact bV fun i hi=>Jq s (aQ.mp hi)
theorem pF{α β:Type}{f:α→β}:∀ {l:List α},l.Nodup→(∀ x∈l,∀ y∈l,f x=f y→x=y)→(l.map f).Nodup
 | [],_,_=>l8
 | a::l,nd,h=>by
  have nd:=cg.mp nd;rw[aV];refine cg.mpr ⟨fun hm=>?_,pF nd.2 fun x hx y hy=>h x (ai _ hx) y (ai _ hy)⟩;refine nn fun hG=>?_;obtain⟨x,hx,e⟩:=ap.mp hm;refine hG ?_;clear hG;have:=h x (ai _ hx) a ah e;exact nd.1 (this▸hx)
theorem Ep(qs:List Code):(F4 qs).Nodup:=pF List.nodup_range fun i hi j hj e=>HF (qs:=qs) (aQ.mp hi) (aQ.mp hj) (Int.ofNat.inj e)
theorem Dh(qs:List Code):(F4 qs).Perm I6:=by
 refine oV (Ep qs) (fun x hx=>?_) (by exact bo _);refine nn fun hG=>?_;obtain⟨i,hi,hE1⟩:=ap.mp hx;refine hG ?_;clear hG;subst hE1;have:=HE (qs:=qs) (aQ.mp hi);simp only[I6,aF,aZ,gz]
 lia
noncomputable def iN(qs:List Code)(k:Nat):Nat:=(F4 qs).idxOf (k:Int)
theorem jv{qs:List Code}{k:Nat}(hk:k<6):iN qs k<6∧lR qs (iN qs k)=k:=by
 have hm:(k:Int)∈F4 qs:=(Dh qs).mem_iff.mpr (Df hk);have hl:=eM hm;have h6:(F4 qs).length=6:=by rfl
 have h2:(F4 qs)[(F4 qs).idxOf (k:Int)]=(k:Int):=l9 hl;have h3:iN qs k<6:=by trivial
 refine⟨h3,?_⟩;have h4:∀ j,j<6→(F4 qs)[j]?=some (lR qs j:Int):=fun j hj=>by simp[F4,hj]
 have h5:(F4 qs)[iN qs k]?=some (k:Int):=by
  unfold iN;rw[aD hl,h2]
 have h7:=(h4 _ h3).symm.trans h5;have:=eV h7;lia
theorem C3{qs:List Code}(s:r3 qs):Ba (qs.map bA)=(aG 6).map fun k=>(iN qs k:Int):=by
 unfold Ba s3;rw[Kw s];rfl
theorem Ly{qs:List Code}{k l:Nat}(hk:k<6)(hl:l<6)(e:iN qs k=iN qs l):k=l:=by
 rw[← (jv (qs:=qs) hk).2,← (jv (qs:=qs) hl).2,e]
theorem Ia{qs:List Code}(s:r3 qs):∀ k∈Ba (qs.map bA),0≤k∧k<6:=by
 intro k hk;rw[C3 s]at hk;refine nn fun hG=>?_;obtain⟨i,hi,hE1⟩:=ap.mp hk;refine hG ?_;clear hG;subst hE1;have:=(jv (qs:=qs) (aQ.mp hi)).1;omega
theorem z6(qs:List Code):((aG 6).map (iN qs)).Perm (aG 6):=by
 refine oV (pF List.nodup_range fun i hi j hj e=>Ly (aQ.mp hi) (aQ.mp hj) e) (fun x hx=>?_) (by exact bo _);refine nn fun hG=>?_;obtain⟨i,hi,hE1⟩:=ap.mp hx;refine hG ?_;clear hG;subst hE1;exact aQ.mpr (jv (aQ.mp hi)).1
theorem HG{qs:List Code}(s:r3 qs):(aG 6).map (fP qs)=qs:=by
 refine List.ext_getElem (by simp[s.n6]) fun i h1 h2=>?_;have:=(jE s (i:=i) (by trivial)).1;rw[aD h2]at this;simpa using (eV this).symm
theorem qE{qs:List Code}(s:r3 qs){i:Nat}(hi:i<6):rowAt (qs.map bA) (i:Int)=bA (fP qs i):=by
 unfold rowAt;rw[hV,aM,(jE s hi).1];rfl
theorem Dz{qs:List Code}(s:r3 qs):(Ba (qs.map bA)).map (rowAt (qs.map bA))=((aG 6).map (iN qs)).map fun i=>bA (fP qs i):=by
 rw[C3 s,a9,a9];refine bV fun k hk=>?_;exact qE s (jv (aQ.mp hk)).1
theorem Nu{qs:List Code}(s:r3 qs):((Ba (qs.map bA)).map (rowAt (qs.map bA))).Perm (qs.map bA):=by
 rw[Dz s];have h:=(z6 qs).map fun i=>bA (fP qs i);have e:((aG 6).map fun i=>bA (fP qs i))=qs.map bA:=by
  rw[← bc (cA bA) (HG s),a9];rfl
 rwa [e]at h
theorem sB{qs:List Code}{k l:Nat}(hl:l<6)(h:k<l):r0 (fP qs (iN qs l)) (fP qs (iN qs k))=false:=by
 have h1:=jv (qs:=qs) (k:=k) (by exact iD h hl);have h2:=jv (qs:=qs) hl
 cases e:r0 (fP qs (iN qs l)) (fP qs (iN qs k))with
 | false=>rfl
 | true=>
  have:=ye (qs:=qs) (i:=iN qs l) (j:=iN qs k) h2.1 (by simp[bf,e]);omega
theorem Nt{qs:List Code}(s:r3 qs):((Ba (qs.map bA)).map (rowAt (qs.map bA))).Pairwise fun a b=> ¬ m5 b<m5 a:=by
 rw[Dz s,a9,g8];refine List.pairwise_lt_range.imp_of_mem fun{k l} hk hl h=>?_;have hk:=aQ.mp hk;have hl:=aQ.mp hl;have m1:=(jE s (jv (qs:=qs) hk).1).2;have m2:=(jE s (jv (qs:=qs) hl).1).2;show ¬ m5 (bA (fP qs (iN qs l)))<m5 (bA (fP qs (iN qs k)));rw[(sv m2 m1).2.1,sB hl h];decide
end
section
noncomputable def mz{α β:Type}(g:α→β)(m:α×α):β×β:=(g m.1,g m.2)
theorem yG{α β:Type}(g:α→β)(f:Nat):∀ l:List α,eF f (l.map g)=(eF f l).map (cA (mz g)):=by
 induction f with
 | zero=>exact fun _=>rfl
 | succ f ih=>
  intro l
  cases l with
  | nil=>rfl
  | cons a l=>
   show (aG (l.map g).length).flatMap (fun k=>(l.map g)[k]?.elim [] fun b=>(eF f ((l.map g).take k++(l.map g).drop (k+1))).map fun more=>(g a,b)::more)=((aG l.length).flatMap fun k=>l[k]?.elim [] fun b=>(eF f (l.take k++l.drop (k+1))).map fun more=>(a,b)::more).map (cA (mz g));rw[List.map_flatMap,an];congr 1;funext k;rw[aM]
   cases h:l[k]? with
   | none=>rfl
   | some b=>
    show ((eF f ((l.map g).take k++(l.map g).drop (k+1))).map fun more=>(g a,g b)::more)=((eF f (l.take k++l.drop (k+1))).map fun more=>(a,b)::more).map (cA (mz g));rw[← i8,← kr,← cC,ih,a9,a9]
    rfl
noncomputable def uy(qs:List Code)(k:Nat):Int:=(iN qs k:Int)
theorem zF{qs:List Code}(s:r3 qs):A9 (qs.map bA)=qv.map (cA (mz (uy qs))):=by
 unfold A9;rw[C3 s];exact yG (uy qs) 3 (aG 6)
theorem t6{qs:List Code}(s:r3 qs):rm (Ba (qs.map bA))=oh.map (mz (uy qs)):=by
 rw[C3 s]
 rfl
theorem JM:(qv.all fun M=>decide (M.length=3) && M.all fun m=>decide (m.1<6) && decide (m.2<6))=true:=by decide +kernel
theorem ni{M:List (Nat×Nat)}(h:M∈qv):M.length=3∧∀ m∈M,m.1<6∧m.2<6:=by
 have:=ay.mp JM M h;simpa only[bk,bd,ay]using this
theorem DB{qs:List Code}{M:List (Nat×Nat)}(h:∀ m∈M,m.1<6∧m.2<6):sh 6 (M.map (mz (uy qs))):=by
 intro m hm;refine nn fun hG=>?_;obtain⟨m',hm',hE1⟩:=ap.mp hm;refine hG ?_;clear hG;subst hE1;have h':=h m' hm';have h1:=(jv (qs:=qs) h'.1).1;have h2:=(jv (qs:=qs) h'.2).1;show 0≤uy qs m'.1∧(uy qs m'.1).toNat<6∧0≤uy qs m'.2∧(uy qs m'.2).toNat<6;unfold uy;lia
noncomputable def jD(qs:List Code)(x:Str×Str)(k:Nat):Bool:=decide (x∈dW (fP qs (iN qs k)))
theorem Kx{qs:List Code}(s:r3 qs){i:Nat}(hi:i<6):(F5 (qs.map bA))[i]?=some ((0:Addr),sZ (f9 (fP qs i))):=by
 unfold F5 zn;rw[aM,aM,aM,(jE s hi).1];rfl
theorem DD{qs:List Code}(s:r3 qs){m:Nat×Nat}(h1:m.1<6)(h2:m.2<6):nT (F5 (qs.map bA)) (mz (uy qs) m)=lV (f9 (fP qs (iN qs m.1))) (f9 (fP qs (iN qs m.2))) (dW (fP qs (iN qs m.1))) (dW (fP qs (iN qs m.2))):=by
 have g1:=Kx s (jv (qs:=qs) h1).1;have g2:=Kx s (jv (qs:=qs) h2).1;have e1:(mz (uy qs) m).1.toNat=iN qs m.1:=hV _;have e2:(mz (uy qs) m).2.toNat=iN qs m.2:=hV _;unfold nT;refine e1.symm▸?_;refine e2.symm▸?_;refine g1.symm▸?_;refine g2.symm▸?_
 rfl
theorem vD(L:List (Addr×sV))(m:Int×Int)(M:List (Int×Int)):eE L (m::M)=nT L m++eE L M:=rfl
theorem lj{qs:List Code}(s:r3 qs)(x:Str×Str):∀ {M:List (Nat×Nat)},(∀ m∈M,m.1<6∧m.2<6)→(eE (F5 (qs.map bA)) (M.map (mz (uy qs)))).count x=i4 M (jD qs x)
 | [],_=>rfl
 | m::M,h=>by
  have ih:=lj s x (M:=M) fun y hy=>h y (ai _ hy);have hm:=h m ah;rw[aV,vD,fB,ih,DD s hm.1 hm.2];rw[Cu (jE s (jv (qs:=qs) hm.1).1).2 (jE s (jv (qs:=qs) hm.2).1).2];unfold i4;rw[cc,gB]
  rfl
theorem z8{qs:List Code}(s:r3 qs):∀ {M:List (Nat×Nat)},(∀ m∈M,m.1<6∧m.2<6)→((eE (F5 (qs.map bA)) (M.map (mz (uy qs)))).length:Int)=nK (qs.map bA) (M.map (mz (uy qs)))
 | [],_=>rfl
 | m::M,h=>by
  have ih:=z8 s (M:=M) fun y hy=>h y (ai _ hy);have hm:=h m ah;have i1:=(jv (qs:=qs) hm.1).1;have i2:=(jv (qs:=qs) hm.2).1;rw[aV,vD,aR,DD s hm.1 hm.2,Ib (jE s i1).2 (jE s i2).2];have e:nK (qs.map bA) (mz (uy qs) m::M.map (mz (uy qs)))=kD (rowAt (qs.map bA) (iN qs m.1:Int)) (rowAt (qs.map bA) (iN qs m.2:Int))+nK (qs.map bA) (M.map (mz (uy qs))):=by
   unfold nK;rw[aV,cH];rfl
  rw[e,← ih,qE s i1,qE s i2,(sv (jE s i1).2 (jE s i2).2).2.2,← Int.natCast_add]
end
section
noncomputable def kM(qs:List Code)(x:Str×Str):Nat:=qs.countP fun q=>decide (x∈dW q)
theorem mF{qs:List Code}(s:r3 qs)(x:Str×Str):kO (jD qs x)=kM qs x:=by
 have h1:kM qs x=(aG 6).countP fun j=>decide (x∈dW (fP qs j)):=by
  unfold kM;rw[vL,s.n6]
 have h2:kO (jD qs x)=((aG 6).map (iN qs)).countP fun j=>decide (x∈dW (fP qs j)):=by
  rw[pq];rfl
 rw[h1,h2];exact(z6 qs).countP_eq _
theorem By{qs:List Code}(s:r3 qs)(x:Str×Str):kM qs x≤6:=by
 have:=pM (p:=fun q=>decide (x∈dW q)) (l:=qs);rw[s.n6]at this;exact this
theorem fh{qs:List Code}(h:∀ q∈qs,q∈jC):kW (qs.map dW):=by
 have key:∀ (l:List Code) (cs:List PL),kW cs→(∀ q∈l,q∈jC)→kW (cs++l.map dW):=fun l=>by
  induction l with
  | nil=>intro cs hc _;simpa using hc
  | cons q l ih=>
   intro cs hc hl;have hq:=hl q ah;have:=ih (cs++ [dW q]) (hc.snoc (dw hq).srt (by rw[qD hq];exact k5 hq)) fun t ht=>hl t (ai _ ht);simpa using this
 simpa using key qs [] .nil h
theorem kJ{qs:List Code}(s:r3 qs){x:Str×Str}:x∈bZ (qs.map dW)↔0<kM qs x:=by
 rw[(fh s.mem).mmem];unfold kM;rw[List.countP_pos_iff]
 constructor
 ·intro hI;refine nn fun hG=>?_;obtain⟨c,hc,hx⟩:=hI;refine hG ?_;clear hG;refine nn fun hG=>?_;obtain⟨q,hq,hE1⟩:=ap.mp hc;refine hG ?_;clear hG;subst hE1;exact⟨q,hq,aP hx⟩
 ·intro hI;refine nn fun hG=>?_;obtain⟨q,hq,hx⟩:=hI;refine hG ?_;clear hG;exact⟨_,ap.mpr ⟨q,hq,rfl⟩,cp hx⟩
theorem Dv(x:Str×Str):∀ (l:List Code) (o:PL),x∈(l.map dW).foldl jN o↔(yX (decide (x∈o))+l.countP (fun q=>decide (x∈dW q)))%2=1
 | [],o=>by
  by_cases h:x∈o<;>simp[h,yX]
 | q::l,o=>by
  rw[aV,gP,Dv x l,cc];have h:=te (o:=o) (c:=dW q) (x:=x);have e:yX (decide (x∈jN o (dW q)))=(yX (decide (x∈o))+yX (decide (x∈dW q)))%2:=by
   by_cases a:x∈o<;>by_cases b:x∈dW q<;>simp[h,a,b,yX]
  refine e.symm▸?_;have e2:(if decide (x∈dW q)=true then 1 else 0)=yX (decide (x∈dW q)):=rfl;rw[e2,Nat.mod_add_mod,r4,gB (yX (decide (x∈dW q)))]
theorem Ck(qs:List Code)(x:Str×Str):x∈ct (qs.map dW)↔kM qs x%2=1:=by
 unfold ct;rw[Dv];simp[yX,kM]
theorem qh{l:PL}(h:l.Nodup)(p:Str×Str→Bool)(x:Str×Str):(l.filter p).count x=yX (decide (x∈l) && p x):=by
 rw[jY (h.filter _)];congr 1;simp[fz]
theorem qK(x:Str×Str)(f:PL→PL):∀ (cs:List PL),(cs.flatMap f).count x=(cs.map fun c=>(f c).count x).sum
 | []=>rfl
 | c::cs=>by rw[a0,fB,qK x f cs,aV,cH]
theorem yb(p:Code→Bool):∀ (l:List Code),(l.map fun q=>yX (p q)).sum=l.countP p
 | []=>rfl
 | q::l=>by
  rw[aV,cH,yb p l,cc,gB];rfl
theorem rz{qs:List Code}(s:r3 qs)(x:Str×Str):(lA (qs.map bA)).count x=kM qs x:=by
 unfold lA kS Ks;rw[uJ,qK,a9];unfold kM;rw[← yb];refine bc DX (bV fun q hq=>?_);show (kA _ (dW q)).count x=_;unfold kA;rw[qh (fh s.mem).mnd];congr 1;by_cases h:x∈dW q
 ·have:x∈bZ (qs.map dW):=((fh s.mem).mmem x).mpr ⟨_,ap.mpr ⟨q,hq,rfl⟩,h⟩;simp[h,this]
 ·simp[h]
theorem uk{qs:List Code}(s:r3 qs)(x:Str×Str):(lB (qs.map bA)).count x=if 0<kM qs x then 6-kM qs x else 0:=by
 unfold lB kf Ks;rw[uJ,qK,a9];have e:(qs.map ((fun c=>(jx (bZ (qs.map dW)) c).count x)∘dW))=qs.map fun q=>yX (decide (x∈bZ (qs.map dW)) && !decide (x∈dW q)):=by
  refine bV fun q hq=>?_;show (jx _ (dW q)).count x=_;unfold jx;rw[qh (fh s.mem).mnd]
 rw[e,yb];have hm:=kJ s (x:=x);by_cases h:0<kM qs x
 ·rw[if_pos h];simp only[hm.mpr h,n4,zg]
  have:=List.length_eq_countP_add_countP (p:=fun q=>decide (x∈dW q)) (l:=qs);rw[s.n6]at this;unfold kM;have e2:(qs.countP fun a=>!decide (x∈dW a))=qs.countP fun a=>decide ¬(decide (x∈dW a))=true:=by
   refine mU fun a _=>?_;simp
  exact aq (aH [bF (fun q=>decide (x∈dW q)) qs,bF (fun a=>decide ¬decide (x∈dW a)=true) qs,bF (fun q=>!decide (x∈dW q)) qs,6-bF (fun q=>decide (x∈dW q)) qs] 2471901502151025846346230456181487079788547 tt this e2 (su 6 (bF (fun q=>decide (x∈dW q)) qs))) (aH [bF (fun q=>decide (x∈dW q)) qs,bF (fun a=>decide ¬decide (x∈dW a)=true) qs,bF (fun q=>!decide (x∈dW q)) qs,6-bF (fun q=>decide (x∈dW q)) qs] 2128896887313646447784470566310980447895619 tt this e2 (ag (aH [bF (fun q=>decide (x∈dW q)) qs,bF (fun a=>decide ¬decide (x∈dW a)=true) qs] 2808535925868597874691 tt this:(bF (fun q=>decide (x∈dW q)) qs)≤6)))
 ·rw[if_neg h];have:x∉bZ (qs.map dW):=fun q=>h (hm.mp q);simp[this]
theorem oT(x:Str×Str):∀ (l mi ac:PL),(on l mi ac).1.count x=mi.count x+(l.count x-ac.count x)∧(on l mi ac).2.count x=ac.count x-l.count x
 | [],mi,ac=>by simp[on]
 | e::r,mi,ac=>by
  unfold on;by_cases h:e∈ac
  ·rw[if_pos h];obtain⟨h1,h2⟩:=oT x r mi (ac.erase e);rw[h1,h2,jb,List.count_erase];by_cases q:e=x
   ·subst q;have hp:=me.mpr h;obtain⟨k,hk⟩:∃ k,ac.count e=k+1:=⟨_,(Nat.succ_pred_eq_of_pos hp).symm⟩
    rw[hk,lx,if_pos rfl];exact⟨bc (_ + ·) (Nat.add_sub_add_right _ 1 _).symm,(Nat.add_sub_add_right _ 1 _).symm⟩
   ·simp[q]
  ·rw[if_neg h];obtain⟨h1,h2⟩:=oT x r (mi++ [e]) ac;rw[h1,h2,jb,fB];by_cases q:e=x
   ·subst q;have h0:=List.count_eq_zero.mpr h;rw[h0,lx,if_pos rfl,Nat.zero_sub,Nat.zero_sub,Nat.sub_zero,Nat.sub_zero,List.count_singleton_self,r4,gB 1];exact⟨rfl,rfl⟩
   ·simp[q]
theorem kH(l ac:PL)(x:Str×Str):(lI l ac).1.count x=l.count x-ac.count x∧(lI l ac).2.count x=ac.count x-l.count x:=by
 have:=oT x l.reverse [] ac;rw[List.count_reverse]at this;simpa[lI]using this
end
section
noncomputable def Gq(l:List Bool):Bool:=(aG 6).all fun i=>(aG 6).all fun j=>(aG 6).all fun k=>!(decide (i<j) && decide (j<k) && l.getD i false && l.getD k false) || l.getD j false
theorem IB:∀ b0 b1 b2 b3 b4 b5:Bool,Gq [b0,b1,b2,b3,b4,b5]=true→((aG 7).any fun a=>(aG 7).any fun b=>[b0,b1,b2,b3,b4,b5] == (aG 6).map (I7 a b))=true:=by decide +kernel
theorem IN:∀ b0 b1 b2 b3 b4 b5:Bool,((aG 64).any fun n=>[b0,b1,b2,b3,b4,b5] == (aG 6).map (wO n))=true:=by decide +kernel
theorem Mz{S T:Nat→Bool}(h:[S 0,S 1,S 2,S 3,S 4,S 5]=(aG 6).map T):∀ i,i<6→S i=T i:=fun i hi=>List.map_inj_left.mp (show (aG 6).map S=(aG 6).map T from h) i (aQ.mpr hi)
theorem o5{S T:Nat→Bool}(h:∀ i,i<6→S i=T i){M:List (Nat×Nat)}(hM:∀ m∈M,m.1<6∧m.2<6):i4 M S=i4 M T:=by
 unfold i4;refine mU fun m hm=>?_;rw[h _ (hM m hm).1,h _ (hM m hm).2]
theorem nr{S T:Nat→Bool}(h:∀ i,i<6→S i=T i):kO S=kO T:=by
 unfold kO;refine mU fun i hi=>?_;rw[h i ((by decide:∀ i∈ [0,1,2,3,4,5],i<6) i hi)]
theorem uU(S:Nat→Bool){M:List (Nat×Nat)}(hM:M∈qv):kO S%2≤i4 M S∧i4 M S≤min (kO S) (6-kO S):=by
 refine nn fun hG=>?_;obtain⟨n,hn,e⟩:=ux.mp (IN (S 0) (S 1) (S 2) (S 3) (S 4) (S 5));refine hG ?_;clear hG;have e:=Mz (eq_of_beq e);have:=ay.mp (ay.mp yP M hM) n hn;simp only[bk,bd]at this;rw[o5 e (ni hM).2,nr e];exact this
theorem IC{S:Nat→Bool}(h:∀ i j k,i<j→j<k→k<6→S i=true→S k=true→S j=true):∃ a b,a≤6∧b≤6∧∀ i,i<6→S i=I7 a b i:=by
 have hg:∀ i,i<6→([S 0,S 1,S 2,S 3,S 4,S 5]:List Bool).getD i false=S i:=fun i hi=>by
  show ((aG 6).map S).getD i false=S i;rw[cP,aM,rf hi];rfl
 have hc:Gq [S 0,S 1,S 2,S 3,S 4,S 5]=true:=by
  unfold Gq;simp only[ay,aQ]
  intro i hi j hj k hk;refine(hg i hi).symm▸?_;refine(hg j hj).symm▸?_;refine(hg k hk).symm▸?_;by_cases q:i<j∧j<k∧S i=true∧S k=true
  ·rw[h i j k q.1 q.2.1 hk q.2.2.1 q.2.2.2];simp
  ·by_cases a:i<j<;>by_cases b:j<k<;>cases c:S i<;>cases d:S k<;>simp[a,b]<;>exact(q ⟨a,b,c,d⟩).elim
 refine nn fun hG=>?_;obtain⟨a,ha,h2⟩:=ux.mp (IB _ _ _ _ _ _ hc);refine hG ?_;clear hG;refine nn fun hG=>?_;obtain⟨b,hb,e⟩:=ux.mp h2;refine hG ?_;clear hG;have ha:=aQ.mp ha;have hb:=aQ.mp hb;exact⟨a,b,by exact cR ha,by exact cR hb,Mz (eq_of_beq e)⟩
theorem oG:∀ m∈oh,m.1<6∧m.2<6:=by decide
section
variable{qs:List Code}(s:r3 qs)
include s
theorem sg{k:Nat}(hk:k<6):fP qs (iN qs k)∈jC:=(jE s (jv hk).1).2
theorem uS{u:Code}(hu:u∈jC)(nu:u≠ []){k:Nat}(hk:k<6):jD qs (pr u) k=true↔tR u (fP qs (iN qs k)):=by
 unfold jD;rw[bd];exact EP (sg s hk) hu nu
theorem DC(x:Str×Str):∀ i j k,i<j→j<k→k<6→jD qs x i=true→jD qs x k=true→jD qs x j=true:=by
 intro i j k hij hjk hk h1 h2;have h1':=cp (show decide (x∈dW (fP qs (iN qs i)))=true from h1);refine nn fun hG=>?_;obtain⟨u,hu,hE1⟩:=(xU (sg s (by exact aH [i,j,k] 790532664191981353940491643583987778 tt hij hjk hk))).mp h1';refine hG ?_;clear hG;subst hE1;have cu:=pB (sg s (by exact aH [i,j,k] 790532664191981353940491643583987778 tt hij hjk hk)) hu;have p2:=(uS s cu hu.1 hk).mp h2;exact(uS s cu hu.1 (by exact iD hjk hk)).mpr (HL hu p2 (sB (by exact iD hjk hk) hij) (sB hk hjk))
theorem oS(x:Str×Str):i4 oh (jD qs x)=min (kM qs x) (6-kM qs x):=by
 refine nn fun hG=>?_;obtain⟨a,b,ha,hb,e⟩:=IC (DC s x);refine hG ?_;clear hG;have:=ay.mp (ay.mp BM a (aQ.mpr (by exact cf ha))) b (aQ.mpr (by exact cf hb));simp only[bd]at this;rw[o5 e oG,← mF s,nr e,this]
end
end
section
theorem Hz:((aG 7).all fun a=>(aG 7).all fun b=>decide (a≤b→kO (I7 a b)=b-a))=true:=by decide +kernel
theorem Af{S:Nat→Bool}{ls:List Nat}{d:Nat}(link:∀ k,k<5→S k=true→(S (k+1)=true↔d≤ls.getD k 0)):∀ (f a:Nat),a+f=5→S a=true→a<pY ls d f a∧pY ls d f a≤6∧(∀ i,a≤i→i<pY ls d f a→S i=true)∧(pY ls d f a=6∨S (pY ls d f a)=false)
 | 0,a,h,hs=>by
  unfold pY;refine⟨by exact c5 _,by exact L5 h rfl,fun i h1 h2=>?_, .inl (by exact aq (aH [a] 11640928547321730268397635 tt h) (aH [a] 9992571307912219796180995 tt h))⟩;have:i=a:=by exact aq (aH [i,a] 373565710064147234882 tt h2) (aH [a,i] 91202565463605313 tt h1)
  rw[this];exact hs
 | f+1,a,h,hs=>by
  have hl:=link a (by exact aH [a,f] 11201532859510669656981571 tt h) hs;unfold pY;by_cases q:d≤ls.getD a 0
  ·rw[if_pos q];refine nn fun hG=>?_;obtain⟨h1,h2,h3,h4⟩:=Af link f (a+1) (by exact aq (aH [a,f] 188049359038976555217185249689667 tt h) (aH [a,f] 27972493302498421780164087123971 tt h)) (hl.mpr q);refine hG ?_;clear hG;refine⟨by exact bJ h1,h2,fun i h5 h6=>?_,h4⟩;by_cases e:i=a
   ·rw[e];exact hs
   ·exact h3 i (by exact(ci e).elim (fun q0=>aH [a,i] 437070205415415943525798248513 tt h5 q0) (fun q0=>aH [a,i] 407053353393264263234 tt q0)) h6
  ·rw[if_neg q];refine⟨by exact c5 _,by exact aH [a,f] 47681243329829811646189535299 tt h,fun i h1 h2=>?_, .inr ?_⟩
   ·have:i=a:=by exact aq (aH [i,a] 373565710064147234882 tt h2) (aH [a,i] 91202565463605313 tt h1)
    rw[this];exact hs
   ·cases e:S (a+1)with
    | false=>rfl
    | true=>exact(q (hl.mp e)).elim
theorem Ad{S:Nat→Bool}:∀ n,(∃ i,i<n∧S i=true)→∃ a,a<n∧S a=true∧∀ i,i<a→S i=false
 | 0,⟨_,h,_⟩=>(jc _ h).elim
 | n+1,⟨i,hi,hs⟩=>by
  by_cases q:∃ j,j<n∧S j=true
  ·refine nn fun hG=>?_;obtain⟨a,h1,h2⟩:=Ad n q;refine hG ?_;clear hG;exact⟨a,by exact cQ h1,h2⟩
  ·refine⟨i,hi,hs,fun j hj=>?_⟩
   cases e:S j with
   | false=>rfl
   | true=>exact(q ⟨j,by exact aH [i,n,j] 403589307079488048721554309186 tt hi hj,e⟩).elim
noncomputable def zt(qs:List Code):List Nat:=(aG 5).map fun k=>(iy (fP qs (iN qs k)) (fP qs (iN qs (k+1)))).length
section
variable{qs:List Code}(s:r3 qs)
include s
theorem ET:∃ M∈qv,u6 (zt qs) M=true:=by
 have h:∀ k,k<5→(iy (fP qs (iN qs k)) (fP qs (iN qs (k+1)))).length∈aG 4:=fun k hk=>aQ.mpr (by
  have h1:=(uh (fP qs (iN qs k)) (fP qs (iN qs (k+1)))).1;have h2:=k5 (sg s (k:=k) (by exact jM hk));exact aH [ae (iy (fP qs (iN qs k)) (fP qs (iN qs (k+1)))),ae (fP qs (iN qs k))] 697555289850916770235285569 tt h1 h2)
 have q:=ay.mp (ay.mp (ay.mp (ay.mp (ay.mp Ci _ (h 0 (by exact cN _))) _ (h 1 (by exact bm _ _))) _ (h 2 (by exact bm _ _))) _ (h 3 (by exact bm _ _))) _ (h 4 (by exact c5 _));obtain⟨M,hM,hn⟩:=(Option.any_eq_true _ _).mp q;exact⟨M,aE hM,hn⟩
theorem Lv:∃ M∈qv,∀ x,i4 M (jD qs x)=kM qs x%2:=by
 refine nn fun hG=>?_;obtain⟨M,hM,hn⟩:=ET s;refine hG ?_;clear hG;refine⟨M,hM,fun x=>?_⟩;rw[← mF s];by_cases hex:∃ i,i<6∧jD qs x i=true
 ·refine nn fun hG=>?_;obtain⟨a,ha,hsa,hmin⟩:=Ad 6 hex;refine hG ?_;clear hG;have hx:=cp (show decide (x∈dW (fP qs (iN qs a)))=true from hsa);refine nn fun hG=>?_;obtain⟨u,hu,hE1⟩:=(xU (sg s ha)).mp hx;refine hG ?_;clear hG;subst hE1;have cu:=pB (sg s ha) hu;have hd1:0<u.length:=re.mpr hu.1;have hd3:=k5 cu;have hls:∀ k,k<5→(zt qs).getD k 0=(iy (fP qs (iN qs k)) (fP qs (iN qs (k+1)))).length:=fun k hk=>by
   simp[zt,j5,hk]
  have link:∀ k,k<5→jD qs (pr u) k=true→(jD qs (pr u) (k+1)=true↔u.length≤(zt qs).getD k 0):=fun k hk h=>by
   rw[hls k hk,uS s cu hu.1 (by exact cf hk)];have hp:=(uS s cu hu.1 (by exact jM hk)).mp h
   constructor
   ·exact fun hp2=>DA _ _ _ hp.2.1 hp2.2.1 (hp.2.2.trans hp2.2.2.symm)
   ·intro hl;have h2:=uh (fP qs (iN qs k)) (fP qs (iN qs (k+1)));refine⟨hu.1,by exact aH [ae u,ae (iy (fP qs (iN qs k)) (fP qs (iN qs (k+1)))),ae (fP qs (iN qs (k+1)))] 117270822126500914763137089 tt hl h2.2,?_⟩;have e1:=bc (fw u.length) (kZ (fP qs (iN qs k)) (fP qs (iN qs (k+1))));have e2:=bc (fw u.length) (mQ (fP qs (iN qs k)) (fP qs (iN qs (k+1))));rw[xK,dJ hl]at e1 e2;rw[e2,← e1,hp.2.2]
  refine nn fun hG=>?_;obtain⟨g1,g2,g3,g4⟩:=Af link (5-a) a (by exact aq (aH [5-a,a] 11201822251391119110701123 tt (ag (aH [a] 667663318320676930 tt ha:a≤5))) (aH [5-a,a] 1232580329265294172487745 tt (su 5 a))) hsa;refine hG ?_;clear hG;have hst:u0 (zt qs) u.length a=true:=by
   unfold u0;by_cases h0:a=0
   ·simp[h0]
   ·have hf:=hmin (a-1) (by exact(ci h0).elim (fun q0=>aH [a,a-1] 73465313056784450 tt q0) (fun q0=>aH [a-1,a] 373565989645109428291 tt (ag (aH [a] 81350941269295170 tt q0:1≤a))));have: ¬ u.length≤(zt qs).getD (a-1) 0:=fun hl=>by
     rw[hls (a-1) (by exact(dY a 1).elim (fun q0=>aH [a,a-1] 717200333861208141000081473 tt q0 (fL a 1)) (fun q0=>aH [a,a-1] 2937652567527880131585390936130 tt ha (ag (aH [a] 81350941269557313 tt q0:1≤a)))),ag (Nat.pos_of_ne_zero h0)]at hl;have h2:=uh (fP qs (iN qs (a-1))) (fP qs (iN qs a));have e1:=bc (fw u.length) (kZ (fP qs (iN qs (a-1))) (fP qs (iN qs a)));have e2:=bc (fw u.length) (mQ (fP qs (iN qs (a-1))) (fP qs (iN qs a)));rw[xK,dJ hl]at e1 e2;have hp:tR u (fP qs (iN qs (a-1))):=⟨hu.1,by exact aH [ae u,ae (iy (fP qs (iN qs (a-1))) (fP qs (iN qs a))),ae (fP qs (iN qs (a-1)))] 117270822126500914763137089 tt hl h2.1,by rw[e1,← e2,hu.2.2]⟩
     have:=(uS s cu hu.1 (k:=a-1) (by exact Nat.sub_lt_of_lt ha)).mpr hp;rw[hf]at this;cases this
    have h3:decide ((zt qs).getD (a-1) 0<u.length)=true:=aP (by exact wm this);rw[h3,Bool.or_true]
  generalize hE:pY (zt qs) u.length (5-a) a=E at g1 g2 g3 g4;have hS:∀ i,i<6→jD qs (pr u) i=I7 a E i:=fun i hi=>by
   unfold I7;by_cases h1:a≤i
   ·by_cases h2:i<E
    ·rw[g3 i h1 h2];simp[h1,h2]
    ·have:jD qs (pr u) i=false:=by
      cases e:jD qs (pr u) i with
      | false=>rfl
      | true=>
       rcases g4 with q | q
       ·exact absurd (q.symm▸hi) h2
       ·by_cases hiE:i=E
        ·rw[hiE,q]at e;cases e
        ·have:=DC s (pr u) a E i (by exact aH [a,E] 91202634183082050 tt g1) (by exact(ci hiE).elim (fun q0=>aH [i,E] 78882778755933991246757957 tt h2 q0) (fun q0=>aH [E,i] 91202634183082050 tt q0)) hi hsa e;rw[q]at this;cases this
     rw[this];simp[h2]
   ·rw[hmin i (by exact wm h1)];simp[h1]
  rw[o5 hS (ni hM).2,nr hS];have hz:=ay.mp (ay.mp Hz a (aQ.mpr (by exact jM ha))) E (aQ.mpr (by exact cf g2));rw[cp hz (by exact bJ g1)];unfold u6 at hn;have hmem:u.length∈([1,2,3]:List Nat):=(by decide:∀ k,k<4→0<k→k∈ [1,2,3]) _ (cf hd3) hd1;have:=ay.mp (ay.mp hn u.length hmem) a (aQ.mpr ha);rw[hst,Lm,hE]at this;simpa using this
 ·have h0:∀ i,i<6→jD qs x i=false:=fun i hi=>by
   cases e:jD qs x i with
   | false=>rfl
   | true=>exact(hex ⟨i,hi,e⟩).elim
  have e1:kO (jD qs x)=0:=by
   rw[nr (T:=fun _=>false) h0];rfl
  have:=(uU (jD qs x) hM).2;rw[e1]at this ⊢;exact Nat.eq_zero_of_le_zero (aU this (bC _ _))
end
end
section
theorem yc{α:Type}(f g:α→Nat):∀ l:List α,(l.map fun x=>f x+g x).sum=(l.map f).sum+(l.map g).sum
 | []=>rfl
 | a::l=>by
  rw[aV,aV,aV,cH,cH,cH,yc f g l];exact aq (aH [f a,g a,(cA f l).sum,(cA g l).sum] 560788670074600407938965180672 tt) (aH [f a,(cA f l).sum,g a,(cA g l).sum] 560788670074600407938965180672 tt)
theorem Bt{α:Type}{f g:α→Nat}:∀ {l:List α},(∀ x∈l,f x≤g x)→(l.map f).sum≤(l.map g).sum
 | [],_=>bo _
 | a::l,h=>by
  rw[aV,aV,cH,cH];have w1:=Bt (f:=f) (g:=g) (l:=l) fun x hx=>h x (ai _ hx);have:=h a ah;exact aH [(cA f l).sum,(cA g l).sum,f a,g a] 1658092052920577523860946463752257 tt w1 this
theorem Gw{α:Type}{f g:α→Nat}:∀ {l:List α},(∀ x∈l,f x≤g x)→(l.map g).sum≤(l.map f).sum→∀ x∈l,f x=g x
 | [],_,_=>fun x hx=>nomatch hx
 | a::l,h,hs=>by
  rw[aV,aV,cH,cH]at hs;have h1:=Bt (f:=f) (g:=g) (l:=l) fun x hx=>h x (ai _ hx);have h2:=h a ah;have ih:=Gw (f:=f) (g:=g) (l:=l) (fun x hx=>h x (ai _ hx)) (by exact aH [g a,(cA g l).sum,f a,(cA f l).sum] 2297067068773484272815188062765121 tt hs h2);intro x hx;rcases aF.mp hx with e | hx
  ·rw[e];exact aq (aH [f a,g a] 91202565463605313 tt h2) (aH [g a,(cA g l).sum,f a,(cA f l).sum] 1967477913021098449812572168257601 tt hs h1)
  ·exact ih x hx
theorem Dd(a:Str×Str):∀ ms:PL,(ms.map fun x=>if a=x then 1 else 0).sum=ms.count a
 | []=>rfl
 | b::ms=>by
  rw[aV,cH,Dd a ms,jb];by_cases h:a=b
  ·subst h;simp;exact KD
  ·simp[h];exact fun e=>h e.symm
theorem ug{ms:PL}(nd:ms.Nodup):∀ {l:PL},(∀ x∈l,x∈ms)→l.length=(ms.map fun x=>l.count x).sum
 | [],_=>by
  have:∀ ms:PL,(ms.map fun x=>([]:PL).count x).sum=0:=fun ms=>by
   induction ms with
   | nil=>rfl
   | cons a ms ih=>rw[aV,cH,ih];rfl
  rw[this];rfl
 | a::l,h=>by
  have ih:=ug nd (l:=l) fun x hx=>h x (ai _ hx);have e:(ms.map fun x=>(a::l).count x)=ms.map fun x=>l.count x+if a=x then 1 else 0:=by
   refine bV fun x _=>?_;rw[jb];by_cases q:a=x<;>simp[q]
  rw[e,yc,← ih,Dd,nd.count,if_pos (h a ah),aT]
noncomputable def zl(qs:List Code):PL:=bZ (qs.map dW)
noncomputable def zk(qs:List Code)(M:List (Nat×Nat)):Nat:=((zl qs).map fun x=>i4 M (jD qs x)).sum
noncomputable def uM:List (Nat×Nat):=[(0,3),(1,4),(2,5)]
theorem D8:uM∈qv:=by decide +kernel
theorem As(S:Nat→Bool):i4 uM S=i4 oh S:=by
 have sw:∀ i j:Nat,(S i != S j)=(S j != S i):=fun i j=>by cases S i<;>cases S j<;>rfl
 simp only[i4,oh,uM,cc,List.countP_nil]
 rw[sw 0 3,sw 1 4,sw 2 5]
section
variable{qs:List Code}(s:r3 qs)
include s
theorem u4{M:List (Nat×Nat)}(h:M∈qv∨M=oh):∀ x∈eE (F5 (qs.map bA)) (M.map (mz (uy qs))),x∈zl qs:=by
 intro x hx;have hM:∀ m∈M,m.1<6∧m.2<6:=by
  rcases h with h | h
  ·exact(ni h).2
  ·rw[h];exact oG
 have h1:=me.mpr hx;rw[lj s x hM]at h1;refine(kJ s).mpr ?_;rcases h with h | h
 ·have:=(uU (jD qs x) h).2;rw[mF s]at this;exact aH [i4 M (jD qs x),min (kM qs x) (6-kM qs x),kM qs x] 135005185182687113569705308100493378 tt h1 this (bC (kM qs x) (6-kM qs x))
 ·rw[h,oS s]at h1;exact aH [min (kM qs x) (6-kM qs x),kM qs x] 106390563518649673533358146 tt h1 (bC (kM qs x) (6-kM qs x))
theorem yn{M:List (Nat×Nat)}(h:M∈qv∨M=oh):(eE (F5 (qs.map bA)) (M.map (mz (uy qs)))).length=zk qs M:=by
 have hM:∀ m∈M,m.1<6∧m.2<6:=by
  rcases h with h | h
  ·exact(ni h).2
  ·rw[h];exact oG
 rw[ug (fh s.mem).mnd (u4 s h)];unfold zk zl;refine bc DX (bV fun x _=>?_);exact lj s x hM
theorem Hy{M:List (Nat×Nat)}(h:M∈qv):nK (qs.map bA) (M.map (mz (uy qs)))=(zk qs M:Int):=by
 rw[← yn s (.inl h),z8 s (ni h).2]
theorem wP:pP (qs.map bA)=qv.map fun M=>(zk qs M:Int):=by
 unfold pP;rw[zF s,a9];exact bV fun M hM=>Hy s hM
theorem Dy:0<(pP (qs.map bA)).length:=by
 rw[wP s,an,u8];decide
theorem G3:(zk qs oh:Int)=wv (pP (qs.map bA)):=by
 refine nn fun hG=>?_;obtain⟨_,h2,h3⟩:=z5 (Dy s);refine hG ?_;clear hG;have e:zk qs uM=zk qs oh:=by
  unfold zk;exact bc DX (bV fun x _=>As _)
 have h4:=h3 (zk qs uM:Int) (by rw[wP s];exact ap.mpr ⟨_,D8,rfl⟩);rw[wP s]at h2;refine nn fun hG=>?_;obtain⟨M,hM,e2⟩:=ap.mp h2;refine hG ?_;clear hG;have h5:zk qs M≤zk qs oh:=Bt fun x _=>by
  rw[oS s,← mF s];exact(uU _ hM).2
 rw[wP s]at h4 ⊢;omega
theorem EK:∃ M∈qv,(A9 (qs.map bA))[(pP (qs.map bA)).idxOf (kN (pP (qs.map bA)))]?=some (M.map (mz (uy qs)))∧(zk qs M:Int)=kN (pP (qs.map bA))∧∀ x,i4 M (jD qs x)=kM qs x%2:=by
 refine nn fun hG=>?_;obtain⟨_,h2,h3⟩:=rF (Dy s);refine hG ?_;clear hG;have hlt:=eM h2;have hge:=l9 hlt;have hge2:(pP (qs.map bA))[(pP (qs.map bA)).idxOf (kN (pP (qs.map bA)))]?=some (kN (pP (qs.map bA))):=by rw[aD hlt,hge]
 generalize hj:(pP (qs.map bA)).idxOf (kN (pP (qs.map bA)))=j at *;generalize hm:kN (pP (qs.map bA))=mn at *;rw[wP s,aM]at hge2;refine nn fun hG=>?_;obtain⟨M,hM,e⟩:=bQ.mp hge2;refine hG ?_;clear hG;have hMm:=aE hM;refine⟨M,hMm,by rw[zF s,aM,hM];rfl,e,fun x=>?_⟩;refine nn fun hG=>?_;obtain⟨N,hN,hc⟩:=Lv s;refine hG ?_;clear hG;have hle:=h3 (zk qs N:Int) (by rw[wP s];exact ap.mpr ⟨_,hN,rfl⟩);have hs:zk qs M≤zk qs N:=CU.mp (Int.le_trans (Int.le_of_eq e) hle);by_cases hx:x∈zl qs
 ·have:=Gw (f:=fun x=>kM qs x%2) (g:=fun x=>i4 M (jD qs x)) (l:=zl qs) (fun x _=>by
   have:=(uU (jD qs x) hMm).1;rw[mF s]at this;exact this) (by
   have e2:zk qs N=((zl qs).map fun x=>kM qs x%2).sum:=by
    unfold zk;exact bc DX (bV fun x _=>hc x)
   rw[← e2];exact hs) x hx
  exact this.symm
 ·have h0:kM qs x=0:=by
   have:=kJ s (x:=x);by_cases q:0<kM qs x
   ·exact(hx (this.mpr q)).elim
   ·exact aq (aH [kM qs x] 577591325210181701 tt q) (aH [kM qs x] 75501824 tt)
  have:=(uU (jD qs x) hMm).2;rw[mF s,h0]at this;rw[h0];exact Nat.eq_zero_of_le_zero (aU this (bC _ _))
end
end
section
section
variable{qs:List Code}(s:r3 qs)
include s
theorem Nr:(lI (lB (qs.map bA)) (lA (qs.map bA))).1.Perm (lI (lA (qs.map bA)) (lB (qs.map bA))).2:=by
 rw[f8];intro x;rw[(kH _ _ x).1,(kH _ _ x).2]
theorem Nq:(lI (lB (qs.map bA)) (lA (qs.map bA))).2.Perm (lI (lA (qs.map bA)) (lB (qs.map bA))).1:=by
 rw[f8];intro x;rw[(kH _ _ x).1,(kH _ _ x).2]
theorem zL(x:Str×Str):(yW (qs.map bA)).count x=min (kM qs x) (6-kM qs x):=by
 unfold yW;rw[t6 s,lj s x oG,oS s]
theorem KW:(yW (qs.map bA)++(lI (lA (qs.map bA)) (lB (qs.map bA))).1).Perm (lA (qs.map bA)):=by
 rw[f8];intro x;rw[fB,zL s,(kH _ _ x).1,rz s,uk s];have:=cf (By s x)
 revert this
 generalize kM qs x=k
 revert k
 decide
theorem KV:(yW (qs.map bA)++(lI (lA (qs.map bA)) (lB (qs.map bA))).2).Perm (lB (qs.map bA)):=by
 rw[f8];intro x;rw[fB,zL s,(kH _ _ x).2,rz s,uk s];have:=cf (By s x)
 revert this
 generalize kM qs x=k
 revert k
 decide
theorem Aj:((F6 (qs.map bA)).length:Int)=kN (pP (qs.map bA))∧(F6 (qs.map bA)).Perm (ct (zp (qs.map bA)))∧∀ x∈F6 (qs.map bA),x∈zl qs:=by
 refine nn fun hG=>?_;obtain⟨M,hM,h1,h2,h3⟩:=EK s;refine hG ?_;clear hG;have e:F6 (qs.map bA)=eE (F5 (qs.map bA)) (M.map (mz (uy qs))):=by
  unfold F6;rw[h1];rfl
 refine⟨by rw[e,yn s (.inl hM)];exact h2,?_,by rw[e];exact u4 s (.inl hM)⟩;rw[f8];intro x;rw[e,lj s x (ni hM).2,h3,uJ,jY (fh s.mem).srt.nodup];have:=Ck qs x;by_cases q:kM qs x%2=1
 ·simp[this.mpr q,yX,q]
 ·have q':x∉ct (qs.map dW):=fun h=>q (this.mp h);simp[q',yX];exact(Nat.mod_two_eq_zero_or_one _).resolve_right q
theorem Ny:r6 (F6 (qs.map bA))=ct (zp (qs.map bA)):=by
 have h:=(Aj s).2.1;have hs:wN (ct (zp (qs.map bA))):=by rw[uJ];exact(fh s.mem).srt
 refine jm ((mP _).trans h) (zS _) (hs.imp fun q=>mJ _ _ q) fun a _ b _ h1 h2=>rE (mH h2 h1)
theorem Nx:((yW (qs.map bA)).length:Int)=wv (pP (qs.map bA)):=by
 unfold yW;rw[t6 s,yn s (.inr rfl)];exact G3 s
theorem Jz:∀ x∈zl qs,A8 x:=by
 intro x hx;refine nn fun hG=>?_;obtain⟨c,hc,hx⟩:=((fh s.mem).mmem x).mp hx;refine hG ?_;clear hG;refine nn fun hG=>?_;obtain⟨q,hq,hE1⟩:=ap.mp hc;refine hG ?_;clear hG;subst hE1;have:=(dw (s.mem q hq)).okq x hx;simp only[D3,bk,bd]at this;exact⟨⟨this.1.1.1.1,this.1.1.1.2⟩,by exact aH [x.fst.length] 1237979938854941945818296352833 tt this.1.1.2,by exact aH [x.snd.length] 1237979938854941945818296352833 tt this.1.2,this.2⟩
theorem KL:∀ x∈lA (qs.map bA),x∈zl qs:=fun x hx=>by
 have:=me.mpr hx;rw[rz s]at this;exact(kJ s).mpr this
theorem KJ:∀ x∈lB (qs.map bA),x∈zl qs:=fun x hx=>by
 have:=me.mpr hx;rw[uk s]at this;refine(kJ s).mpr ?_;by_cases q:0<kM qs x
 ·exact q
 ·rw[if_neg q]at this;exact(dh _ this).elim
theorem G2:(lA (qs.map bA)).Perm (qs.flatMap dW):=by
 rw[f8];intro x;rw[rz s];have key:∀ l:List Code,(∀ q∈l,q∈jC)→(l.flatMap dW).count x=l.countP fun q=>decide (x∈dW q):=fun l=>by
  induction l with
  | nil=>intro _;rfl
  | cons q l ih=>
   intro h;rw[a0,fB,ih fun t ht=>h t (ai _ ht),jY (rI (h q ah)),cc,gB];rfl
 exact(key qs s.mem).symm
theorem Nw:(lA (qs.map bA)).length<64:=by
 rw[(G2 s).length_eq];have key:∀ l:List Code,(∀ q∈l,q∈jC)→(l.flatMap dW).length≤3*l.length:=fun l=>by
  induction l with
  | nil=>intro _;simp
  | cons q l ih=>
   intro h;have:=ih fun t ht=>h t (ai _ ht);have hq:=h q ah;have h3:=k5 hq;rw[a0,aR,qD hq,aT];exact aH [(n5 dW l).length,l.length,ae q] 737666841279927442537014311933550909706993729 tt this h3
 have:=key qs s.mem;rw[s.n6]at this;exact MX this rfl
end
end
section
set_option linter.unusedSectionVars false
theorem Az(p:Str)(h:(jd p 3).1=bG):∀ n,3≤n→jd p n=jd p 3:=by
 intro n hn
 induction n with
 | zero=>trivial
 | succ n ih=>
  by_cases q:n=2
  ·rw[q]
  ·have:=ih (by exact(ci q).elim (fun q0=>aH [n] 360241762871234447210862870593 tt hn q0) (fun q0=>aH [n] 81913891223240770 tt q0));show pX (jd p n)=_;rw[this];unfold pX;rw[if_pos h]
theorem w8{q:Code}(hq:q∈jC):oR (f9 q)∧ru (sZ (f9 q)):=by
 have F:=dw hq;have hr:=F.row;simp only[uC,qx,bk,bd,ay]at hr;have ok:∀ x∈dW q,D3 x=true:=F.okq;have hl:=qD hq;have h3:=k5 hq;refine⟨⟨fun n=>?_,F.srt,by exact hl▸h3,fun x hx=>?_⟩,⟨B9 F.path,by show (dW q).length≤3;exact aH [ae (dW q),ae q] 678212402950106408601780291 tt hl h3,fun x hx=>?_⟩⟩
 ·by_cases hn:n<4
  ·have:=(hr.1.1.2 n (aQ.mpr hn)).1;exact aU this (by exact aH [] 1073786917120 tt)
  ·have e:(jd (f9 q) n).1=bG:=by rw[Az _ F.it n (by exact aH [n] 81913891752247365 tt hn)];exact F.it
   rw[e,w3];exact aH [] 1073784033536 tt
 ·have:=ok x hx;simp only[D3,bk,bd]at this;exact⟨this.1.1.1.1,this.1.1.1.2⟩
 ·have:=ok x hx;simp only[D3,bk,bd]at this;exact this.1.2
theorem Ij{qs:List Code}(s:r3 qs)(nB:(lB (qs.map bA)).length<64):yv (qs.map bA):=by
 have mok:=Jz s;have hps:∀ p∈zn (qs.map bA),∃ q∈qs,p=f9 q:=fun p hp=>by
  unfold zn at hp;rw[a9]at hp;refine nn fun hG=>?_;obtain⟨q,hq,hE1⟩:=ap.mp hp;refine hG ?_;clear hG;subst hE1;exact⟨q,hq,rfl⟩
 have u1:∀ x∈(lI (lA (qs.map bA)) (lB (qs.map bA))).1,x∈lA (qs.map bA):=fun x hx=>(KW s).mem_iff.mp (ak _ hx);have u2:∀ x∈(lI (lA (qs.map bA)) (lB (qs.map bA))).2,x∈lB (qs.map bA):=fun x hx=>(KV s).mem_iff.mp (ak _ hx);have l2:=(KW s).length_eq;have l3:=(KV s).length_eq;rw[aR]at l2 l3;have nA:=Nw s;refine nn fun hG=>?_;obtain⟨c1,c2,c3⟩:=Aj s;refine hG ?_;clear hG;have hwd:∀ x∈yW (qs.map bA),x∈zl qs:=fun x hx=>by
  unfold yW at hx;rw[t6 s]at hx;exact u4 s (.inr rfl) x hx
 have hodd:(ct (zp (qs.map bA))).length≤18:=by
  have:=(fh s.mem).len;rw[uJ];rw[an,s.n6]at this;exact aH [ae (ct (cA dW qs))] 236414697194889264758849 tt this
 refine⟨by rw[an,s.n6],fun r hr=>?_,fun p hp=>?_,fun p hp=>?_,fun c hc x hx=>?_,nA,nB,by exact aH [ae (yW (cA bA qs)),ae (lI (lA (cA bA qs)) (lB (cA bA qs))).fst,ae (lA (cA bA qs))] 348625953442260583131421899062876787703875 tt l2 nA,by exact aH [ae (lB (cA bA qs)),ae (yW (cA bA qs)),ae (lI (lA (cA bA qs)) (lB (cA bA qs))).snd] 348627282670580804749344440737208594333762 tt nB l3,fun x hx=>(mok x (KL s x (u1 x hx))).1,fun x hx=>(mok x (KJ s x (u2 x hx))).1,Nr s,Nq s,?_,fun M hM=>?_,?_,?_,?_,Ia s,Nu s,Nt s,c1,Nx s,by rw[c2.length_eq];exact aH [ae (ct (zp (cA bA qs)))] 73824135734247817281 tt hodd,by exact aH [ae (yW (cA bA qs)),ae (lI (lA (cA bA qs)) (lB (cA bA qs))).fst,ae (lA (cA bA qs))] 5444693350897720673384620389370821221548099 tt l2 nA,fun x hx=>(mok x (c3 x hx)).1,fun x hx=>(mok x (hwd x hx)).1,Ny s,KW s,KV s⟩
 ·refine nn fun hG=>?_;obtain⟨q,hq,hE1⟩:=ap.mp hr;refine hG ?_;clear hG;subst hE1;exact⟨(dw (s.mem q hq)).row,(dw (s.mem q hq)).two⟩
 ·refine nn fun hG=>?_;obtain⟨q,hq,hE1⟩:=hps p hp;refine hG ?_;clear hG;subst hE1;exact(w8 (s.mem q hq)).1
 ·refine nn fun hG=>?_;obtain⟨q,hq,hE1⟩:=hps p hp;refine hG ?_;clear hG;subst hE1;exact(w8 (s.mem q hq)).2
 ·rw[uJ]at hc;exact mok x (((fh s.mem).mmem x).mpr ⟨c,hc,hx⟩)
 ·rw[Kw s];exact Dh qs
 ·rw[zF s]at hM;refine nn fun hG=>?_;obtain⟨M',hM',hE1⟩:=ap.mp hM;refine hG ?_;clear hG;subst hE1;have:=ni hM';exact⟨DB this.2,by rw[an];exact aH [M'.length] 631634521251381315 tt this.1⟩
 ·rw[zF s,an,u8];decide
 ·rw[zF s,an,u8];decide
 ·rw[t6 s];exact DB oG
end
section
set_option linter.unusedSectionVars false
theorem len_sub{α:Type}[y9 α]:∀ {l m:List α},l.Nodup→(∀ x∈l,x∈m)→l.length≤m.length
 | [],m,_,_=>bi _
 | a::l,m,nd,sub=>by
  have ha:=sub a ah;have nd:=cg.mp nd;have:=len_sub (l:=l) (m:=m.erase a) nd.2 fun x hx=>(List.mem_erase_of_ne (by rintro rfl;exact nd.1 hx)).mpr (sub x (ai _ hx));rw[List.length_erase_of_mem ha]at this;have hp:0<m.length:=List.length_pos_of_mem ha;rw[aT];exact aH [l.length,m.length-1,m.length] 2114758134382963490835056720609345 tt this (ag (aH [m.length] 81350941269295170 tt hp:1≤m.length))
noncomputable def lens(d:Nat)(q:Code):Bool:=decide (d≤q.length)
theorem zQ:∀ l:List Code,(∀ q∈l,q∈jC)→(l.flatMap dW).length=l.countP (lens 1)+l.countP (lens 2)+l.countP (lens 3)
 | [],_=>rfl
 | q::l,h=>by
  have hq:=h q ah;have h3:=k5 hq;rw[a0,aR,qD hq,zQ l fun t ht=>h t (ai _ ht),cc,cc,cc];have e:∀ d,(if lens d q=true then 1 else 0)=if d≤q.length then 1 else 0:=fun d=>by simp[lens]
  rw[e,e,e];have hk:q.length=(if 1≤q.length then 1 else 0)+(if 2≤q.length then 1 else 0)+(if 3≤q.length then 1 else 0):=(by decide:∀ k,k<4→k=(if 1≤k then 1 else 0)+(if 2≤k then 1 else 0)+(if 3≤k then 1 else 0)) _ (cf h3);generalize (if 1≤q.length then 1 else 0)=x1,(if 2≤q.length then 1 else 0)=x2,(if 3≤q.length then 1 else 0)=x3 at hk ⊢;exact aq (aH [ae q,x1,x2,x3,bF (lens 1) l,bF (lens 2) l,bF (lens 3) l] 171358704883902740660671435013662136941269485819527235 tt hk) (aH [ae q,x1,x2,x3,bF (lens 1) l,bF (lens 2) l,bF (lens 3) l] 242866496174342066588086668413765144188658482724999171 tt hk)
theorem vK:∀ us:List Code,(∀ u∈us,1≤u.length∧u.length≤3)→us.length=(us.filter fun u=>decide (u.length=1)).length+(us.filter fun u=>decide (u.length=2)).length+(us.filter fun u=>decide (u.length=3)).length
 | [],_=>rfl
 | u::us,h=>by
  have hu:=h u ah;have ih:=vK us fun v hv=>h v (ai _ hv);rw[aT,ih,nQ,nQ,nQ];by_cases a:u.length=1
  ·simp[a];exact aq (aH [(bX (fun u=>decide (ae u=1)) us).length,(bX (fun u=>decide (ae u=2)) us).length,(bX (fun u=>decide (ae u=3)) us).length] 482198197041185252034962526464 tt) (aH [(bX (fun u=>decide (ae u=1)) us).length,(bX (fun u=>decide (ae u=2)) us).length,(bX (fun u=>decide (ae u=3)) us).length] 2622054926197933846375849529600 tt)
  ·by_cases b:u.length=2
   ·simp[b];exact aq (aH [(bX (fun u=>decide (ae u=1)) us).length,(bX (fun u=>decide (ae u=2)) us).length,(bX (fun u=>decide (ae u=3)) us).length] 516317729337634862711275786496 tt) (aH [(bX (fun u=>decide (ae u=1)) us).length,(bX (fun u=>decide (ae u=2)) us).length,(bX (fun u=>decide (ae u=3)) us).length] 2622054926197941604259312177408 tt)
   ·have c:u.length=3:=by omega
    simp[c];rfl
theorem LV:(jC.all fun q=>decide (q.length=1→q∈C0))=true:=by decide +kernel
theorem Nv{qs:List Code}(s:r3 qs):(lB (qs.map bA)).length<64:=by
 let us:=(zl qs).map I8;have hx:∀ x∈zl qs,∃ q∈qs,∃ u,tR u q∧x=pr u∧I8 x=u∧u∈jC:=fun x hx=>by
  refine nn fun hG=>?_;obtain⟨c,hc,hx⟩:=((fh s.mem).mmem x).mp hx;refine hG ?_;clear hG;refine nn fun hG=>?_;obtain⟨q,hq,hE1⟩:=ap.mp hc;refine hG ?_;clear hG;subst hE1;refine nn fun hG=>?_;obtain⟨u,hu,hE1⟩:=(xU (s.mem q hq)).mp hx;refine hG ?_;clear hG;subst hE1;have cu:=pB (s.mem q hq) hu;exact⟨q,hq,u,hu,rfl,(dw cu).prinv hu.1,cu⟩
 have nd:us.Nodup:=pF (fh s.mem).mnd fun x h1 y h2 e=>by
  refine nn fun hG=>?_;obtain⟨_,_,u,_,e1,e2,_⟩:=hx x h1;refine hG ?_;clear hG;refine nn fun hG=>?_;obtain⟨_,_,v,_,e3,e4,_⟩:=hx y h2;refine hG ?_;clear hG;rw[e1,e3,← e2,← e4,e]
 have hu:∀ u∈us,u∈jC∧∃ q∈qs,tR u q:=fun u hu=>by
  refine nn fun hG=>?_;obtain⟨x,h1,hE1⟩:=ap.mp hu;refine hG ?_;clear hG;subst hE1;refine nn fun hG=>?_;obtain⟨q,hq,u,hp,_,e2,cu⟩:=hx x h1;refine hG ?_;clear hG;rw[e2];exact⟨cu,q,hq,hp⟩
 have hl:=vK us fun u h=>by
  refine nn fun hG=>?_;obtain⟨cu,q,hq,hp⟩:=hu u h;refine hG ?_;clear hG;exact⟨re.mpr hp.1,k5 cu⟩
 have lev:∀ d,(us.filter fun u=>decide (u.length=d)).length≤qs.countP (lens d):=fun d=>by
  have:=len_sub (l:=us.filter fun u=>decide (u.length=d)) (m:=(qs.filter (lens d)).map (fw d)) (nd.filter _) fun u h=>by
   obtain⟨h1,h2⟩:=fz.mp h;have h2:=cp h2;refine nn fun hG=>?_;obtain⟨_,q,hq,hp⟩:=hu u h1;refine hG ?_;clear hG;subst h2;exact ap.mpr ⟨q,fz.mpr ⟨hq,aP hp.2.1⟩,hp.2.2⟩
  rw[an]at this;rw[List.countP_eq_length_filter];exact this
 have l1:(us.filter fun u=>decide (u.length=1)).length≤3:=by
  have:=len_sub (l:=us.filter fun u=>decide (u.length=1)) (m:=C0) (nd.filter _) fun u h=>by
   obtain⟨h1,h2⟩:=fz.mp h;exact cp (ay.mp LV u (hu u h1).1) (cp h2)
  exact this
 have l2:=lev 2;have l3:=lev 3;have m12:qs.countP (lens 2)≤qs.countP (lens 1):=List.countP_mono_left fun q _ h=>by
  have:=cp (show decide (2≤q.length)=true from h);exact aP (by exact bJ this)
 have n6:qs.countP (lens 1)≤6:=by
  have:=pM (p:=lens 1) (l:=qs);rw[s.n6]at this;exact this
 have n3:qs.countP (lens 3)≤4:=by
  obtain⟨r,e⟩:=s.two;have h6:=s.n6;rw[e]at h6 ⊢;have:([1,1]:: [1,3]::r:List Code).countP (lens 3)=r.countP (lens 3):=by rfl
  rw[this];have:=pM (p:=lens 3) (l:=r);simp only[aT]at h6;exact aH [r.length,bF (lens 3) r] 11708105124863136991890581149974595 tt h6 this
 have hA:=(G2 s).length_eq;rw[zQ qs s.mem]at hA;have tA:=ug (fh s.mem).mnd (KL s);have tB:=ug (fh s.mem).mnd (KJ s);have tot:(lA (qs.map bA)).length+(lB (qs.map bA)).length=6*(zl qs).length:=by
  rw[tA,tB,← yc];have key:∀ ms:PL,(∀ x∈ms,x∈zl qs)→(ms.map fun x=>(lA (qs.map bA)).count x+(lB (qs.map bA)).count x).sum=6*ms.length:=fun ms=>by
   induction ms with
   | nil=>intro _;rfl
   | cons a ms ih=>
    intro h;have ha:=(kJ s).mp (h a ah);have:=By s a;rw[aV,cH,ih fun x hx=>h x (ai _ hx),rz s,uk s,if_pos ha,aT];exact aq (aH [6-kM qs a,kM qs a,ms.length] 11531488975186836870962192511086358731685955 tt (ag (aH [kM qs a] 685677716830158913 tt this:(kM qs a)≤6))) (aH [6-kM qs a,kM qs a,ms.length] 2091206699840006585058036238656105591865409 tt (su 6 (kM qs a)))
  exact key _ fun _ h=>h
 have hul:us.length=(zl qs).length:=an ..;exact aH [us.length,(bX (fun u=>decide (ae u=1)) us).length,(bX (fun u=>decide (ae u=2)) us).length,(bX (fun u=>decide (ae u=3)) us).length,bF (lens 2) qs,bF (lens 3) qs,bF (lens 1) qs,ae (lA (cA bA qs)),ae (lB (cA bA qs)),ae (zl qs)] 42330179407873268849741966322896188479129084911403511710567083472856355954942669143316786647266674701234288632196633170280835 tt hl l1 l2 l3 m12 n6 n3 hA tot hul
theorem Fa(ns:List Int):yv (ry ns):=by
 refine nn fun hG=>?_;obtain⟨qs,s,e⟩:=Eo ns;refine hG ?_;clear hG;rw[e];exact Ij s (Nv s)
end
section
open PySem.W (Frag)
noncomputable def KG(P:Params):Frag:=[
 (27,⟨.type "code",none, .fields #[.str "sorted_list_difference" 196, .str "sorted_list_difference" 197, .str "/claim/cut.py" 198, .int 5 0, .int 2 0, .int 0 0, .int 0 0, .int 3 0, .ref 22, .bool true, .int 181 0, .ref 23, .none, .ref 24, .ref 25, .ref 26, .int 207 0, .int 5 0, .str "/claim/cut.py" 208],#[]⟩),
 (34,⟨.type "code",none, .fields #[.str "unorderable_list_difference" 210, .str "unorderable_list_difference" 211, .str "/claim/cut.py" 212, .int 37 0, .int 2 0, .int 0 0, .int 0 0, .int 3 0, .ref 29, .bool true, .int 181 0, .ref 30, .none, .ref 31, .ref 32, .ref 33, .int 217 0, .int 37 0, .str "/claim/cut.py" 218],#[]⟩),
 (41,⟨.type "code",none, .fields #[.str "three_way_cmp" 220, .str "three_way_cmp" 221, .str "/claim/cut.py" 222, .int 46 0, .int 2 0, .int 0 0, .int 0 0, .int 3 0, .ref 36, .bool true, .int 181 0, .ref 37, .none, .ref 38, .ref 39, .ref 40, .int 225 0, .int 46 0, .str "/claim/cut.py" 226],#[]⟩),
 (198,⟨.type "code",none, .fields #[.str "fspath" 416, .str "fspath" 417, .str "/claim/cut.py" 418, .int 115 0, .int 1 0, .int 0 0, .int 0 0, .int 3 0, .ref 193, .bool true, .int 181 0, .ref 194, .none, .ref 195, .ref 196, .ref 197, .int 423 0, .int 115 0, .str "/claim/cut.py" 424],#[]⟩),
 (212,⟨.type "code",none, .fields #[.str "_get_sep" 441, .str "_get_sep" 442, .str "/claim/cut.py" 443, .int 144 0, .int 1 0, .int 0 0, .int 0 0, .int 3 0, .ref 207, .bool true, .int 181 0, .ref 208, .none, .ref 209, .ref 210, .ref 211, .int 445 0, .int 144 0, .str "/claim/cut.py" 446],#[]⟩),
 (219,⟨.type "code",none, .fields #[.str "join" 448, .str "join" 449, .str "/claim/cut.py" 450, .int 149 0, .int 1 0, .int 0 0, .int 0 0, .int 7 0, .ref 214, .bool true, .int 181 0, .ref 215, .none, .ref 216, .ref 217, .ref 218, .int 456 0, .int 149 0, .str "/claim/cut.py" 457],#[]⟩),
 (226,⟨.type "code",none, .fields #[.str "split" 459, .str "split" 460, .str "/claim/cut.py" 461, .int 166 0, .int 1 0, .int 0 0, .int 0 0, .int 3 0, .ref 221, .bool true, .int 181 0, .ref 222, .none, .ref 223, .ref 224, .ref 225, .int 467 0, .int 166 0, .str "/claim/cut.py" 468],#[]⟩),
 (231,⟨.type "code",none, .fields #[.str "commonpath" 470, .str "commonpath" 471, .str "/claim/cut.py" 472, .int 174 0, .int 1 0, .int 0 0, .int 0 0, .int 3 0, .ref 228, .bool true, .int 181 0, .ref 229, .none, .none, .none, .ref 230, .int 473 0, .int 174 0, .str "/claim/cut.py" 474],#[]⟩),
 (236,⟨.type "code",none, .fields #[.str "_law_names" 478, .str "_law_names" 479, .str "/claim/cut.py" 480, .int 204 0, .int 1 0, .int 0 0, .int 0 0, .int 3 0, .ref 233, .bool true, .int 181 0, .ref 234, .none, .none, .none, .ref 235, .int 481 0, .int 204 0, .str "/claim/cut.py" 482],#[]⟩),
 (243,⟨.type "code",none, .fields #[.str "_law_pairs" 484, .str "_law_pairs" 485, .str "/claim/cut.py" 486, .int 207 0, .int 1 0, .int 0 0, .int 0 0, .int 3 0, .ref 238, .bool true, .int 181 0, .ref 239, .none, .ref 240, .ref 241, .ref 242, .int 490 0, .int 207 0, .str "/claim/cut.py" 491],#[]⟩),
 (248,⟨.type "code",none, .fields #[.str "_law_steps" 493, .str "_law_steps" 494, .str "/claim/cut.py" 495, .int 214 0, .int 2 0, .int 0 0, .int 0 0, .int 3 0, .ref 245, .bool true, .int 181 0, .ref 246, .none, .none, .none, .ref 247, .int 496 0, .int 214 0, .str "/claim/cut.py" 497],#[]⟩),
 (253,⟨.type "code",none, .fields #[.str "_law_pairings" 499, .str "_law_pairings" 500, .str "/claim/cut.py" 501, .int 217 0, .int 1 0, .int 0 0, .int 0 0, .int 3 0, .ref 250, .bool true, .int 181 0, .ref 251, .none, .none, .none, .ref 252, .int 502 0, .int 217 0, .str "/claim/cut.py" 503],#[]⟩),
 (258,⟨.type "code",none, .fields #[.str "_law_passed" 505, .str "_law_passed" 506, .str "/claim/cut.py" 507, .int 221 0, .int 3 0, .int 0 0, .int 0 0, .int 3 0, .ref 255, .bool true, .int 181 0, .ref 256, .none, .none, .none, .ref 257, .int 508 0, .int 221 0, .str "/claim/cut.py" 509],#[]⟩),
 (3,⟨.type "dict",none, .dict #[⟨aL P "__name__", .str "__name__" 165, .str "law_qw0049_01" 476⟩,⟨aL P "__doc__", .str "__doc__" 166, .none⟩,⟨aL P "__package__", .str "__package__" 167, .none⟩,⟨aL P "__loader__", .str "__loader__" 168, .builtin "__main__.__loader__#opaque"⟩,⟨aL P "__spec__", .str "__spec__" 169, .none⟩,⟨aL P "__annotations__", .str "__annotations__" 170, .ref 6⟩,⟨aL P "__builtins__", .str "__builtins__" 171, .ref 4⟩,⟨aL P "__file__", .str "__file__" 173, .str "/claim/cut.py" 172⟩,⟨aL P "__cached__", .str "__cached__" 174, .none⟩,⟨aL P "_wall", .str "_wall" 193, .ref 21⟩,⟨aL P "sorted_list_difference", .str "sorted_list_difference" 209, .ref 28⟩,⟨aL P "unorderable_list_difference", .str "unorderable_list_difference" 219, .ref 35⟩,⟨aL P "three_way_cmp", .str "three_way_cmp" 227, .ref 42⟩,⟨aL P "EMPTYSTRING", .str "EMPTYSTRING" 231, .str "" 230⟩,⟨aL P "_Accumulator", .str "_Accumulator" 326, .ref 122⟩,⟨aL P "_plain_name", .str "_plain_name" 337, .ref 133⟩,⟨aL P "ABCMeta", .str "ABCMeta" 363, .ref 150⟩,⟨aL P "_ABCLike", .str "_ABCLike" 406, .ref 183⟩,⟨aL P "_abc_plain_meta", .str "_abc_plain_meta" 413, .ref 192⟩,⟨aL P "fspath", .str "fspath" 425, .ref 199⟩,⟨aL P "_check_arg_types", .str "_check_arg_types" 438, .ref 206⟩,⟨aL P "_get_sep", .str "_get_sep" 447, .ref 213⟩,⟨aL P "join", .str "join" 458, .ref 220⟩,⟨aL P "split", .str "split" 469, .ref 227⟩,⟨aL P "commonpath", .str "commonpath" 475, .ref 232⟩,⟨aL P "_law_names", .str "_law_names" 483, .ref 237⟩,⟨aL P "_law_pairs", .str "_law_pairs" 492, .ref 244⟩,⟨aL P "_law_steps", .str "_law_steps" 498, .ref 249⟩,⟨aL P "_law_pairings", .str "_law_pairings" 504, .ref 254⟩,⟨aL P "_law_passed", .str "_law_passed" 510, .ref 259⟩,⟨aL P "law", .str "law" 516, .ref 264⟩] 31,#[]⟩),
 (2,⟨.none,none, .dict #[] 0,#[]⟩),
 (4,⟨.type "module",some 0, .plain,#[]⟩),
 (84,⟨.none,none, .fields #[],#[]⟩),
 (91,⟨.none,none, .fields #[],#[]⟩),
 (28,xN 2 27 (.str "cpy313.unittest.util" 194)),
 (35,xN 3 34 (.str "cpy313.unittest.util" 194)),
 (42,xN 4 41 (.str "cpy313.unittest.util" 194)),
 (199,xN 16 198 (.str "os" 414)),
 (213,xN 20 212 (.str "cpy313.posixpath" 439)),
 (220,xN 21 219 (.str "cpy313.posixpath" 439)),
 (227,xN 22 226 (.str "cpy313.posixpath" 439)),
 (232,xN 23 231 (.str "cpy313.posixpath" 439)),
 (237,xN 25 236 (.str "law_qw0049_01" 476)),
 (244,xN 26 243 (.str "law_qw0049_01" 476)),
 (249,xN 27 248 (.str "law_qw0049_01" 476)),
 (254,xN 28 253 (.str "law_qw0049_01" 476)),
 (259,xN 29 258 (.str "law_qw0049_01" 476)),
 (264,xN 30 263 (.str "law_qw0049_01" 476)),
 (263,⟨.type "code",none, .fields #[.str "law" 511, .str "law" 512, .str "/claim/cut.py" 513, .int 237 0, .int 1 0, .int 0 0, .int 0 0, .int 3 0, .ref 260, .bool true, .int 181 0, .ref 261, .none, .none, .none, .ref 262, .int 514 0, .int 237 0, .str "/claim/cut.py" 515],#[]⟩)]
noncomputable def KH(P:Params):Frag:=KF P++KG P
noncomputable abbrev N0:List Addr:=[43,46,51,52,58,65,75,81,88,95,97,103,112,118,121,122,59,66,82,89,96,104,119,27,34,41,198,212,219,226,231,236,243,248,253,258,3,2,4,84,91,28,35,42,199,213,220,227,232,237,244,249,254,259,264,263]
theorem Cn{α:Type}{l m:List (Nat×α)}{a:Nat}{o:α}(h:l.lookup a=some o):(l++m).lookup a=some o:=by
 rw[List.lookup_append,h];rfl
theorem M3{P:Params}{h:Heap}(X:(KH P).In h):(KF P).In h:=fun a o e=>X a o (Cn e)
set_option tactic.hygienic true in
theorem zI{K:Frag}{h:Heap}{N:Addr}{mg:Str→Option Value}{n:Str}{r:Option Value}(X:K.In h)(G:h.Ns N mg)(e:rV K N n=some r):mg n=r:=by
 refine nn fun hG=>?_;obtain⟨o,es,ep,ho,hd,_,hf⟩:=G;refine hG ?_;clear hG;unfold rV at e
 split at e
 ·rename_i c d es' n' sl q
  have:=X _ _ q;rw[ho]at this;cases this;cases hd;rw[← hf];unfold nsFind findBy;rw[← rZ];have q:(fun d:tJ=>Value.isStrOf n d.key)=fun d=>d.key.isStr n:=funext fun d=>(PySem.W.isStr_of n d.key).symm
  split at e
  ·rename_i e' he
   rw[← eV e]
   first | (rw[he];rfl) | (rw[q,he];rfl)
  ·rename_i he
   split at e
   ·cases e
   ·rw[← eV e]
    first | (rw[he];rfl) | (rw[q,he];rfl)
 ·cases e
set_option tactic.hygienic true in
theorem qG{α:Type}{l:List (Str×α)}{P:Str→α→Prop}(h:∀ p∈l,P p.1 p.2):∀ x v,l.lookup x=some v→P x v:=by
 intro x v e
 induction l with
 | nil=>cases e
 | cons p l ih=>
  rw[c0]at e
  split at e
  ·rename_i hx
   cases e;rw[eq_of_beq hx];exact h p ah
  ·exact ih (fun q hq=>h q (ai _ hq)) e
theorem MN(P:Params):∀ p∈uG,rV (KH P) 3 p.1=some (some p.2):=by
 intro p hp;simp only[uG,aF,aZ,gz]at hp;rcases hp with rfl | rfl | rfl | rfl | rfl | rfl | rfl | rfl | rfl | rfl | rfl | rfl | rfl | rfl | rfl<;>kernel_rfl
theorem MV(P:Params):∀ p∈p8,rV (KH P) 3 p.1=some none:=by
 intro p hp;simp only[p8,aF,aZ,gz]at hp;rcases hp with rfl | rfl | rfl | rfl | rfl | rfl | rfl | rfl | rfl | rfl | rfl | rfl | rfl | rfl | rfl | rfl | rfl | rfl | rfl<;>kernel_rfl
theorem DO:∀ p∈p8,p.1≠ "__name__" ∧bootBuiltins p.1=some p.2:=by
 intro p hp;simp only[p8,aF,aZ,gz]at hp;rcases hp with rfl | rfl | rfl | rfl | rfl | rfl | rfl | rfl | rfl | rfl | rfl | rfl | rfl | rfl | rfl | rfl | rfl | rfl | rfl<;>exact⟨by decide,by kernel_rfl⟩
noncomputable def Gg(i:Nat):Value:=if i<5 then .str "cpy313.unittest.util" 194 else if i<20 then .str "os" 414 else if i<24 then .str "cpy313.posixpath" 439 else if i<100 then .str "law_qw0049_01" 476 else .str "cpy313.email.header" 228
theorem MO(P:Params):∀ p∈ou,(KH P).lookup p.2.1=some (xN p.1 p.2.2 (Gg p.1))∧PySem.W.codeIn (KH P) (.ref p.2.2) (BE p.1)=true:=by
 intro p hp;simp only[ou,yh,uw,List.nil_append,aF,aZ,gz]at hp;rcases hp with rfl | rfl | rfl | rfl | rfl | rfl | rfl | rfl | rfl | rfl | rfl | rfl | rfl | rfl | rfl | rfl | rfl | rfl | rfl | rfl<;>exact⟨by kernel_rfl,by kernel_rfl⟩
theorem J7{P:Params}{h:Heap}{mg mb:Str→Option Value}(X:(KH P).In h)(g:h.Ns mainGlobals mg)(b:h.Ns wc mb)(lim:h.NoLimit)(hb:∀ x:Str,x≠ "__name__" →mb x=bootBuiltins x):ey h where
 lim:=lim
 top:=⟨_,X 264 (xN 30 263 (Gg 30)) (by kernel_rfl)⟩
 fns:=fun i a c hm=>by
  have e:=MO P (i,a,c) hm;exact⟨_,X _ _ e.1,PySem.W.codeRec_of X e.2⟩
 glob:=⟨mg,g,qG fun p hp=>zI X g (MN P p hp),qG fun p hp=>zI X g (MV P p hp),zI X g (by kernel_rfl),zI X g (by kernel_rfl)⟩
 blt:=⟨mb,b,qG fun p hp=>(hb _ (DO p hp).1).trans (DO p hp).2⟩
 frag:=⟨P,M3 X⟩
 bmod:=⟨_,X 4 ⟨.type "module",some 0, .plain,#[]⟩ (by kernel_rfl),rfl,rfl,rfl⟩
 stat:=⟨_,X 2 ⟨.none,none, .dict #[] 0,#[]⟩ (by kernel_rfl),rfl⟩
theorem Jg{P:Params}{h:Heap}(X:(KH P).In h):iz h:=⟨⟨#[],X 84 ⟨.none,none, .fields #[],#[]⟩ (by kernel_rfl),trivial⟩,⟨#[],X 91 ⟨.none,none, .fields #[],#[]⟩ (by kernel_rfl),trivial⟩⟩
end
section
open PySem PySem.W PyProof.Rows
noncomputable def vw:dt:=view pw [0,2,3,4,6,7,9,11,13,14,16,18,20,21,22,23,25,26,27,28,29,30]
noncomputable abbrev lo:List Str:=[cE "_Accumulator"]
noncomputable abbrev NX:List (Str×WData):=[]
theorem Nn:cz.wellSaid=true:=by decide +kernel
noncomputable abbrev HK:Hook:=kHook KH N0 (fun _=>by kernel_rfl)
noncomputable abbrev Nm:(Str→Option Value)→Heap→Prop:=XL vw NX
set_option maxHeartbeats 8000000 in
theorem hd(hc:∀ d kwd,defOf vw "law" =some (d,kwd)→WalkO vw lo Nm (Hook.says HK) cz.row.toRowW d kwd fun f vs=>FZ f vs):cz.Holds:=by
 w_on
 refine holds_law Nn fun _=>?_;refine holds_open (q:=vw) (loose:=lo) (Xt:=fun s=>xlAt vw NX s && recOk (RowW.records cz.row.toRowW) s) (XP:=Nm) (Yf:=Hook.obs HK) (Ya:=Hook.val HK) (YP:=Hook.says HK) (N:=3416)
  (fun w=>by kernel_rfl) (Hook.of HK) (Hook.keeps HK) (fun s e=>xl_of s (aO.mp e).1) XL.keeps (by rfl) (by rfl) (by rfl) (fun s e=>recFacts_of (aO.mp e).2) (by rfl) (by decide +kernel) (by decide +kernel) ⟨rfl,rfl,rfl,rfl,rfl,by decide +kernel⟩ ?hw ?hc
 case hw=>w_witness2
 case hc=>exact hc _ _ rfl
end
section
noncomputable def Fd.chkT(d:Fd):Bool:=
 kQ d.names && d.names.all (fun x=>((bD d.i).names.lookup x == some .local || (bD d.i).names.lookup x == some .cell) && !(x == ("__debug__" :Str)) && !(x == ("__classdict__" :Str))) &&
 xO (bD d.i) d.gn d.gv && (bD d.i).kind == .function && decide (d.np≤d.names.length) && kQ ((bD d.i).names.map (·.1)) && d.cn.all fun x=>(bD d.i).names.lookup x == some .cell
theorem Jf(d:Fd)(hd:d.chkT=true){w:World}{s:Shared}(hB:ey s.heap)(hT:iz s.heap)(hg:eL s.gens){as:List V}{vs:List Value}(ha:as.length=d.np)
  (z:dP s.heap TB as vs){fd:FuncData}{a:Addr}(e1:fd.scope=bD d.i)(e2:fd.closure= [])(e3:fd.globals=3)(e4:fd.builtins=0){Qf:Fl→List V→Hp→Prop}{R:Result→Shared→Prop}(E:Value→Shared→Prop)
  (spec:∀ env own,(frame d ⟨w,wI.deeper env,env,own,TB,s.heap,[],s.os,0⟩).Ok→tO (frame d ⟨w,wI.deeper env,env,own,TB,s.heap,[],s.os,0⟩) []→
   Ss (frame d ⟨w,wI.deeper env,env,own,TB,s.heap,[],s.os,0⟩) (as++gX (d.names.length-d.np)) [] (gy d.i) Qf kx)
  (fin:∀ fl vals H v X h,Qf fl vals H→∀ s',s'.heap=h→(∀ b o,b∉TB→s.heap.get? b=some o→s'.heap.get? b=some o)→iz s'.heap→eL s'.gens→s'.os=s.os→(∃ b,KP fl=some b∧(VR h X b v→R (.ok (.ret v)) s'))):
  wpAny (model pw w) wI.in1 (iW fd.scope fd.globals fd.closure ((d.names.take d.np).zip vs) (fd.qualname++ ".<locals>.") (some a) fd.code none fd.builtins)
   (fun env s₂=>s₂.heap.NoLimit∧cb (model pw w) wI (.func (gy d.i) env) R s₂) E s:=by
 have hlen:vs.length=d.np:=by rw[← z.length];exact ha
 simp only[Fd.chkT,bk,g9,ay,gQ,eP,bd]at hd;refine nn fun hG=>?_;obtain⟨⟨⟨⟨⟨⟨hnd,hkd⟩,hgl⟩,hfk⟩,hnp⟩,hsn⟩,hcn⟩:=hd;refine hG ?_;clear hG;have hnod:=kY hnd;have hzip:((d.names.take d.np).zip vs).map (·.1)=d.names.take d.np:=by
  rw[List.map_fst_zip];simp[hlen,bC]
 have hbk:∀ x∈(d.names.take d.np).zip vs,x.1∈d.names:=fun x hx=>dO (hzip▸rc hx);let L:=s.heap.objs.size;let env:Env:=newEnv (bD d.i) L 3 (jS (L+1) (bD d.i).names []) (fd.qualname++ ".<locals>.") (some a) fd.code none 0;have hcells:∀ x,env.kindOf x=some .cell→∃ k,env.cells.lookup x=some k:=by
  intro x hx;have q:=rJ (bD d.i).names (L+1) [] x (.inl (mem_of_lookup (show (bD d.i).names.lookup x=some .cell from hx)));exact cX.mp q
 have hkind:∀ x∈(d.names.take d.np).zip vs,(bD d.i).names.lookup x.1=some .local∨((bD d.i).names.lookup x.1=some .cell∧((jS (L+1) (bD d.i).names []).lookup x.1).isSome=true):=by
  intro x hx;rcases(hkd _ (hbk x hx)).1.1 with h | h
  ·exact .inl h
  ·obtain⟨k,hk⟩:=hcells x.1 h;exact .inr ⟨h,by rw[show (jS (L+1) (bD d.i).names []).lookup x.1=some k from hk];rfl⟩
 refine e1.symm▸?_;refine e2.symm▸?_;refine e3.symm▸?_;refine e4.symm▸?_;refine wpAny_newFunctionEnv_cells hfk hkind fun env₀ he s₁ x=>?_;obtain rfl:env₀=env:=he;refine⟨hB.lim.keeps x.toInCall.keep,codeAny_func ?_⟩;let own:=L::env.cells.map (·.2);let c':=frame d ⟨w,wI.deeper env,env,own,TB,s.heap,[],s.os,0⟩;have hnone:∀ y,L≤y→∀ o,s.heap.get? y≠some o:=fun y hy o e=>absurd (bu e) (ip.mpr hy);have hownL:∀ y∈own,L≤y:=by
  intro y hy;rcases aF.mp hy with e | hy
  ·rw[e];exact bo _
  ·refine nn fun hG=>?_;obtain⟨p,hp,hE1⟩:=ap.mp hy;refine hG ?_;clear hG;subst hE1;exact bJ (x.above p.1 p.2 hp)
 have hsz:265≤L:=by
  obtain⟨o,e⟩:=hB.top;exact bu e
 have hTB:∀ y∈TB,∃ o,s.heap.get? y=some o:=by
  refine nn fun hG=>?_;obtain⟨⟨p1,q1,_⟩,p2,q2,_⟩:=hT;refine hG ?_;clear hG;exact all2 ⟨_,q1⟩ ⟨_,q2⟩
 have ok':c'.Ok:=by
  refine⟨hfk,rfl,rfl,ah,?_,?_,?_,fun y hy=>hy,hnod,?_,?_,?_,?_,?_,?_,⟨_,rfl⟩,?_,?_,?_⟩
  ·intro y _ k hk hl';exact⟨ai _ (ap.mpr ⟨_,mem_of_lookup hl',rfl⟩),gA (x.above y k (mem_of_lookup hl'))⟩
  ·intro y k hl';exact .inl ⟨ai _ (ap.mpr ⟨_,mem_of_lookup hl',rfl⟩),gA (x.above y k (mem_of_lookup hl'))⟩
  ·intro y y' k h1 h2;exact name_of_addr x.apart (mem_of_lookup h1) (mem_of_lookup h2)
  ·exact fun y hy=>(hkd y hy).1.2
  ·exact fun y hy=>(hkd y hy).2
  ·intro y hy;rcases(hkd y hy).1.1 with h | h
   ·exact .inl h
   ·obtain⟨k,hk⟩:=hcells y h;exact .inr ⟨h,by rw[hk];rfl⟩
  ·exact fun p hp=>nomatch hp
  ·exact fun y v hy=>yo hy hgl
  ·intro y hy;obtain⟨k,hk⟩:=hcells y (hcn y hy);exact⟨.inl (hcn y hy),by rw[hk];rfl⟩
  ·exact(by decide:1+claimMargin+1≤400+2*0)
  ·exact(by decide:4+3≤100+50*0)
  ·exact bi _
 refine nn fun hG=>?_;obtain⟨h₁,tk,hs₁⟩:=x.toInCall.same;refine hG ?_;clear hG;have k₁:=x.toInCall.keep;have hX':∀ y,y∈c'.X []→y∈TB∨y∈own:=by
  intro y hy;have e:c'.X []=TB++(TB++(own++ [])):=rfl;rw[e]at hy;simp only[aw,aZ,gz]at hy;rcases hy with h | h | h<;>simp[h]
 have S₁:aN s.heap TB s₁.heap (c'.X []):=fun b o e n=>⟨k₁ b o e,fun z=>(hX' b z).elim n fun w=>hnone b (hownL b w) o e⟩
 have R':Rel c' (as++gX (d.names.length-d.np)) [] s₁:=by
  refine⟨?_,⟨_,x.toInCall.ns⟩,fun y k hk=>⟨_,x.cell y k hk⟩,(fun a o hm=>nomatch hm),?_,?_,?_,?_,fun b o e h1 h2=>k₁ b o e,hB.of fun y o _ _ e=>k₁ y o e,hT.of fun y o _ e=>k₁ y o e,?_,?_,?_⟩
  ·intro y a hy;rcases hy with hy | hy
   ·have hsp:d.names=d.names.take d.np++d.names.drop d.np:=(d7 _ _).symm;have hy':At (d.names.take d.np++d.names.drop d.np) (as++gX (d.names.length-d.np)) y a:=by rw[← hsp];exact hy
    rcases xG (by rw[bM,ha];exact dJ hnp) hy' with h | h
    ·refine nn fun hG=>?_;obtain⟨v,zv,hv⟩:=GT z h;refine hG ?_;clear hG;refine .inr ⟨v,?_,zv.stay S₁⟩;have hb':=DQ (kd:=env.kindOf) ((d.names.take d.np).zip vs) (fun _=>none) (fun _=>none) (by rw[hzip];exact hnod.sublist (List.take_sublist _ _)) y v (GS hv);rcases(hkd y (dO h.mem)).1.1 with hk | hk
     ·exact .inl ⟨hk,_,x.toInCall.ns,hb'.1 hk⟩
     ·obtain⟨k,hkc⟩:=hcells y hk;have hne:env.kindOf y≠some .local:=by rw[show env.kindOf y=some .cell from hk];decide
      exact .inr ⟨.inl hk,k,hkc,by rw[← hb'.2 hne];exact x.cell y k hkc⟩
    ·exact .inl (ul h)
   ·exact nomatch hy
  ·show (own++ []).Nodup;rw[cW];refine cg.mpr ⟨fun hm=>?_,?_⟩
   ·refine nn fun hG=>?_;obtain⟨p,hp,hpe⟩:=ap.mp hm;refine hG ?_;clear hG;exact gA (x.above p.1 p.2 hp) hpe
   ·rw[ik,g8];exact x.apart
  ·intro y hy hY;have hy:y∈own++ []:=hy;rw[cW]at hy;obtain⟨o,e⟩:=hTB y hY;exact hnone y (hownL y hy) o e
  ·intro y hy;rcases hX' y hy with h | h
   ·obtain⟨o,e⟩:=hTB y h;exact⟨o,k₁ _ _ e⟩
   ·rcases aF.mp h with e | h
    ·rw[e];refine nn fun hG=>?_;obtain⟨o,_,_,e',_⟩:=x.toInCall.ns;refine hG ?_;clear hG;exact⟨o,e'⟩
    ·refine nn fun hG=>?_;obtain⟨p,hp,hE1⟩:=ap.mp h;refine hG ?_;clear hG;subst hE1;have nc:(env.cells.map (·.1)).Nodup:=pI (bD d.i).names (L+1) [] (by rw[jz,cW];exact kY hsn);refine nn fun hG=>?_;obtain⟨o,e,_⟩:=x.cell p.1 p.2 (fu nc hp);refine hG ?_;clear hG;exact⟨o,e⟩
  ·intro y hy;have hy:y∈own++ []:=hy;rw[cW]at hy
   left
   cases e:s.heap.get? y with
   | none=>rfl
   | some o=>exact(hnone y (hownL y hy) o e).elim
  ·rw[hs₁];exact hg
  ·rw[hs₁]
  ·intro y hy;have hy:y∈own++ []:=hy;rw[cW]at hy;exact aU hsz (hownL y hy)
 have FR:tO c' []:=⟨rfl,rfl⟩
 refine aK (spec env own ok' FR s₁ R') (fun f s' p=>?_) fun e s' p=>(fI p).elim;refine nn fun hG=>?_;obtain⟨fl,vals',H',R'',S,zf,qf⟩:=p;refine hG ?_;clear hG;have kk:∀ b o,b∉TB→s.heap.get? b=some o→s'.heap.get? b=some o:=fun b o h2 e=>R''.keep b o e (fun h=>nomatch h) h2
 cases zf with
 | next=>
  refine nn fun hG=>?_;obtain⟨b,hb,h⟩:=fin _ _ _ .none (c'.X H') _ qf s' rfl kk R''.tabs R''.gens R''.os;refine hG ?_;clear hG;cases hb;exact h .none
 | brk=>obtain⟨b,hb,h⟩:=fin _ _ _ .none (c'.X H') _ qf s' rfl kk R''.tabs R''.gens R''.os;cases hb
 | cont=>obtain⟨b,hb,h⟩:=fin _ _ _ .none (c'.X H') _ qf s' rfl kk R''.tabs R''.gens R''.os;cases hb
 | ret zz=>obtain⟨b,hb,h⟩:=fin _ _ _ _ (c'.X H') _ qf s' rfl kk R''.tabs R''.gens R''.os;cases hb;exact h zz
end
section
open PySem.W
theorem FG{R:WRecords}{xs:List WData}:WShape.hasItems R xs .int=true→∃ ns:List Int,xs=ns.map WData.int:=by
 induction xs with
 | nil=>exact fun _=>⟨[],rfl⟩
 | cons x xs ih=>
  intro h;have h:=aO.mp (show (WShape.has R x .int && WShape.hasItems R xs .int)=true from h);obtain⟨ns,e⟩:=ih h.2;have h1:=h.1
  cases x with
  | int i=>exact⟨i::ns,bc _ e⟩
  | _=>exact cO (show false=true from h1)
theorem G4{P:Params}{h:Heap}{v:Value}{n:Int}(w:Well P h v (.int n)):∃ t,v= .int n t:=by
 cases w;exact⟨_,rfl⟩
theorem G5{P:Params}{h:Heap}{X:List Addr}{ns:List Int}:∀ {vs:List Value},WellAll P h vs (ns.map WData.int)→dP h X (aY ns) vs:=by
 induction ns with
 | nil=>intro vs w;cases w;exact .nil
 | cons n ns ih=>
  intro vs w;refine nn fun hG=>?_;obtain⟨v,vs',hE1,w1,w2⟩:=wellAll_cons_inv w;refine hG ?_;clear hG;subst hE1;obtain⟨t,rfl⟩:=G4 w1;exact .cons (.int n t) (ih w2)
theorem HI{x:WData}(h:WShape.has [] x (.list .int)=true):∃ ns:List Int,x= .list (ns.map WData.int):=by
 cases x with
 | list xs=>
  obtain⟨ns,e⟩:=FG (R:=[]) (xs:=xs) ((zh _).symm.trans (show (WShape.hasItems [] xs .int || false)=true from h));exact⟨ns,bc _ e⟩
 | _=>exact cO (show false=true from h)
theorem Js{args:List WData}(h:WShape.hasAll [] args [.list .int]=true):∃ ns:List Int,args= [.list (ns.map WData.int)]:=by
 cases args with
 | nil=>exact cO (show false=true from h)
 | cons x r=>
  have h:=aO.mp (show (WShape.has [] x (.list .int) && WShape.hasAll [] r [])=true from h);obtain⟨ns,e⟩:=HI h.1
  cases r with
  | nil=>exact⟨ns,by rw[e]⟩
  | cons y r=>exact cO (show false=true from h.2)
theorem HJ{args:List WData}(h:cz.row.toRowW.claim.pre args=true):∃ ns:List Int,args= [.list (ns.map WData.int)]∧ns.length≤63:=by
 have h:=aO.mp (show (WShape.hasAll [] args [.list .int] && cz.pre.holds [] { args:=args })=true from h);obtain⟨ns,e⟩:=Js h.1;have h2:=h.2;subst e;have:=condW_of h2 (w_and (w_not (w_lt (x:=63) (y:=((ns.map WData.int).length:Nat)) rfl (w_len_list rfl))) (k:=_) (l:=true) rfl);have:((ns.length:Nat):Int)≤63:=by simpa using this
 exact⟨ns,rfl,CU.mp this⟩
theorem MK{P:Params}{h h':Heap}(X:(KH P).In h)(kk:∀ b o,b∉TB→h.get? b=some o→h'.get? b=some o)(T:iz h'):OldK h h':=by
 refine nn fun hG=>?_;obtain⟨⟨p1,q1,_⟩,p2,q2,_⟩:=T;refine hG ?_;clear hG;have x84:=X 84 ⟨.none,none, .fields #[],#[]⟩ (by kernel_rfl);have x91:=X 91 ⟨.none,none, .fields #[],#[]⟩ (by kernel_rfl);refine⟨fun b o e=>?_,fun b o e=>?_⟩
 ·by_cases hb:b∈TB
  ·simp only[TB,aF,aZ,gz]at hb;rcases hb with rfl | rfl
   ·rw[x84]at e;cases e;have x88:=X 88 ⟨.type "code",none, .fields #[.str "__len__" 280, .str "_Accumulator.__len__" 281, .str "/claim/cut.py" 282, .int 67 0, .int 1 0, .int 0 0, .int 0 0, .int 3 0, .ref 83, .bool true, .int 181 0, .ref 84, .none, .ref 85, .ref 86, .ref 87, .int 284 0, .int 67 0, .str "/claim/cut.py" 285],#[]⟩ (by kernel_rfl);exact .inr (.inl ⟨⟨88,_,_,x88,rfl,rfl,rfl⟩,rfl,#[],p1,rfl,by rw[Array.empty_append];exact q1⟩)
   ·rw[x91]at e;cases e;have x95:=X 95 ⟨.type "code",none, .fields #[.str "__str__" 287, .str "_Accumulator.__str__" 288, .str "/claim/cut.py" 289, .int 70 0, .int 1 0, .int 0 0, .int 0 0, .int 3 0, .ref 90, .bool true, .int 181 0, .ref 91, .none, .ref 92, .ref 93, .ref 94, .int 291 0, .int 70 0, .str "/claim/cut.py" 292],#[]⟩ (by kernel_rfl);exact .inr (.inl ⟨⟨95,_,_,x95,rfl,rfl,rfl⟩,rfl,#[],p2,rfl,by rw[Array.empty_append];exact q2⟩)
  ·exact .inl (kk b o hb e)
 ·by_cases hb:b∈TB
  ·simp only[TB,aF,aZ,gz]at hb;rcases hb with rfl | rfl
   ·exact⟨_,q1⟩
   ·exact⟨_,q2⟩
  ·exact⟨_,kk b o hb e⟩
theorem HM(args:List WData):cz.row.toRowW.claim.post args (.bool true) args=true:=by
 show (WShape.has [] (.bool true) .bool && (WTm.eq .res (.lit (.bool true))).holds [] { args:=args,res:=some (.bool true),after:=args })=true;refine aO.mpr ⟨rfl,?_⟩;exact holdsW_of_value (w_eq_bool (k:=true) (l:=true) (by simp[WTm.value]) (by simp[WTm.value]))
theorem IP(v:Value):c8 (iR 30 263 (Gg 30)) ⟨[v],[]⟩=pure ((ew.names.take ew.np).zip [v]):=by kernel_rfl
theorem JG:ew.chkT=true:=by kernel_rfl
set_option tactic.hygienic true in
theorem NT(d:DefRec)(kwd:List (Str×Expr))(hdef:defOf vw "law" =some (d,kwd)):WalkO vw lo Nm (Hook.says HK) cz.row.toRowW d kwd fun f vs=>FZ f vs:=by
 intro w s₀ s₁ mg mb G Y a o pm cd doc dV kV ho hdat hcr hdf hmg hgens args vals as hpre hlay hrd hwl hlo;have X:(KH w.params).In s₁.heap:=kIn_of Y;refine nn fun hG=>?_;obtain⟨ns,hE1,hn⟩:=HJ hpre;refine hG ?_;clear hG;subst hE1;rw[defOf_name hdef]at hmg;have hmg':mg "law" =some (.ref 264):=zI X G.T.g (by kernel_rfl);rw[hmg']at hmg;obtain rfl:a=264:=by cases hmg;rfl
 have hB:ey s₁.heap:=J7 X G.T.g G.T.b G.T.nolimit G.T.builtins;have hT:iz s₁.heap:=Jg X;have hg:eL s₁.gens:=.of_eq hgens;have x264:=X 264 (xN 30 263 (Gg 30)) (by kernel_rfl);have hcode:s₁.heap.CodeRec (.ref 263) "law" :=codeRec_of X (by kernel_rfl)
 cases hwl with
 | cons hw1 hw2=>
 cases hw2
 cases hw1 with
 | list hS hvs=>
 rename_i S vs
 have hSt:S∉TB:=by
  intro h;refine nn fun hG=>?_;obtain⟨⟨p1,q1,_⟩,p2,q2,_⟩:=hT;refine hG ?_;clear hG;simp only[TB,aF,aZ,gz]at h;rcases h with rfl | rfl
  ·rw[q1]at hS;cases hS
  ·rw[q2]at hS;cases hS
 have z:dP s₁.heap TB [.lst S (aY ns)] [.ref S]:=.cons (.lst hS hSt (G5 hvs)) .nil;show wpAny (model pw w) wI (FZ (.ref 264) [.ref S]) _ _ s₁;refine g6 (rY (fd:=iR 30 263 (Gg 30)) (body:=gy 30) (by decide) x264 rfl (by kernel_rfl) (by kernel_rfl) rfl hcode ?_);rw[IP];refine af ?_;refine Jf ew JG hB hT hg rfl z rfl rfl rfl rfl _ (fun env own ok FR=>?_) (Qf:=fun fl _ _=>fl= .ret (.bool true)) ?_
 ·exact Ie ok rfl FR (am rfl) hn (Fa ns) fun _ _=>rfl
 ·rintro fl vals H v Xx h rfl s' rfl kk T' g' os'
  refine⟨_,rfl,fun zv=>?_⟩;cases zv.iBool;exact⟨.inl ⟨.bool true, .bool true,[],rfl,fun _=>rfl, .bool true,HM _,fun _=>⟨l8,fun _ h=>nomatch h⟩⟩,MK X kk T',os',g'⟩
end
end Mine
theorem PySem.Challenge.cw_qw0049_01_holds : PySem.Challenge.rw_qw0049_01.Holds :=
  Mine.hd Mine.NT
