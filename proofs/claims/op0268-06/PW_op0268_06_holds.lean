import PyProof.Rows.All
import Wide.All
import OpenK.AllK
import Wide.FinOn
import KE.KStar
import KE.KBoundM
import KE.KSortTup
import PyProof.Rows.SetFrom
import KE.KDictList
import PySem.Challenge.RW_op0268_06
open Array renaming length_toList→aA,getD_eq_getD_getElem?→aT,getElem?_eq_getElem→aY,getElem?_toList→ba,toList_inj→cC,toList_reverse→dz,toList_push→dT,toList_zip→d5,toList_map→d6
open Bool renaming and_eq_true→aq,eq_iff_iff→bq,false_eq_true→bS,or_eq_true→cB,or_false→dY,and_false→eJ
open Classical renaming byContradiction→cs
open Exists renaming elim→am
open Int renaming toNat_natCast→ay,natCast_nonneg→aG,ofNat_lt→aX,lt_of_lt_of_le→dR
open Int.ofNat renaming inj→cW
open List renaming mem_singleton→ac,length_map→ae,mem_cons_of_mem→af,mem_cons_self→aj,getElem?_eq_getElem→an,getElem?_eq_some_iff→ap,mem_cons→au,getD_eq_getElem?_getD→av,mem_range→ax,length_append→az,length_range→aC,mem_append→aD,map_append→aE,mem_map→aH,getElem?_set_self→aJ,getElem?_map→aK,map_cons→aN,length_singleton→aO,map_congr_left→aS,getElem?_append_left→bd,map_map→be,append_assoc→bf,mem_filter→bh,append_nil→bi,length_cons→bp,any_eq_true→bu,foldl_append→bw,mem_map_of_mem→bA,getElem?_eq_none→bB,pairwise_map→bC,flatMap_cons→bD,mem_iff_getElem→bI,mem_filterMap→bJ,mem_append_left→bK,set_set→bL,lookup_cons→bM,nodup_nil→bR,pairwise_append→bU,not_mem_nil→bV,getElem?_set_ne→bW,idxOf_lt_length_of_mem→bX,size_toArray→b4,nodup_append→b5,getElem?_range→b8,length_filter_le→b9,getElem_mem→cc,foldl_cons→cg,all_eq_true→cp,pairwise_cons→cu,count_pos_iff→cv,mem_append_right→cx,nodup_range→cD,mem_flatMap→cE,find?_eq_none→cI,range_succ→cM,length_set→cN,ext_getElem?→cQ,mem_of_getElem?→cU,getElem_idxOf→c6,pairwise_lt_range→dc,map_reverse→dq,countP_cons→du,reverse_cons→dU,all_cons→dX,forIn_cons→eB,foldr_cons→eC,count_cons→eE,any_cons→fg,map_set→fy,map_nil→fz
open List.Nodup renaming length_le_of_subset→bH
open List.Pairwise renaming imp_of_mem→cr
open List.cons renaming injEq→bY
open Nat renaming lt_of_lt_of_le→ag,lt_of_le_of_lt→ak,le_refl→aB,le_trans→aI,ne_of_lt→aL,lt_succ_self→aQ,zero_le→aU,not_lt_zero→aW,lt_trans→a9,lt_succ_of_lt→bg,le_of_eq→bj,not_lt→bl,lt_irrefl→bo,ne_of_gt→bE,le_of_lt_succ→bF,le_of_lt→bG,le_add_right→bN,lt_succ_of_le→b7,lt_of_le_of_ne→ce,lt_trichotomy→cf,le_of_not_lt→cq,le_succ→cV,le_of_not_le→cZ,testBit_lt_two_pow→df,lt_of_succ_lt_succ→dg,le_succ_of_le→dh,le_of_succ_le_succ→di,not_succ_le_self→dB,le_sub_one_of_lt→dC,eq_of_testBit_eq→dD,add_le_add_right→dE,min_eq_left→dJ,pos_of_ne_zero→dQ,le_of_succ_le→dW,succ_ne_self→ec,sub_self→eu,add_comm→ew,pow_pos→eQ,pow_succ→fD,lt_asymm→fE,sub_lt→fU
open Ne renaming symm→cG
open Option renaming map_eq_some_iff→aP,bind_eq_some_iff→aZ,isSome_iff_exists→bz,getD_some→cT,map_some→d9
open Option.some renaming inj→br
open Or renaming elim→cF
open PyProof.Rows renaming get?_update_seq→c9,listUpdate_at→dL,seqEpoch_at→eg,listItems_at→fM
open PySem renaming wpAny_bind→aa,wpAny_pure→ai,wpAny_holding→aV,wpAny_mono→bm,builtinLookup_eq_fast→bv,wpAny_call_entry→bx,wpAny_standAt→bO,wpAny_loadPart'→bQ,sizeLine_eq→bZ,typeLookup_type→ca,codeAny_builtin→cb,wpAny_of_eq→ch,wpAny_newObj_type→cn,wpAny_askSetting→cy,wpAny_setField→cJ,wpAny_callSpecial?_slot→cK,isSubtype_type→cL,wpAny_rule→cP,plainId_quiet→cS,wpAny_setState_of→cX,wpAny_setEntries_of→c7,fits_of_scanBound→dy,wpAny_call→dH,wpAny_newList→dK,wpAny_seqItems→dZ,wpAny_newTuple→d3,wpAny_fieldsOf→d4,wpAny_pyIter_list→ee,getMethod_builtin→eh,call_meets→eO,wpAny_ite_split→eW,codeAny_of_tree→eZ,wpAny_field→fk,wpAny_attempt→fG,arm_eval_Call→fH,call_type_of→fN,numAt_eq→iM
open PySem.Around renaming under_plainId→bT
open PySem.Calls renaming call_function_entry→cY
open PySem.Heap renaming get?_push_of_some→al,get?_push_size→aF,lt_size→aR,get?_update_self→bc,size_push→cw,get?_update_other→de
open PySem.Heap.SameBut renaming update→aM
open PySem.MeetsSeq3 renaming plain_eq_loop→cz
open PySem.Obj renaming isFreed_of_fields→dl,data_mapDictKeys→dA,data_mapFields→dP
open PySem.Value renaming isStrOf_shape→dF,isInt_shape→dS
open PySem.W renaming codeRec_of→bn,plainGet_of→fm,looks_field→gc
open PySem.W.KasT renaming kasWp_bind→dG
open PySem.W.Looks renaming of_pure→dp,ld→fu
set_option maxRecDepth 100000
set_option linter.all false
section
set_option Elab.async false
set_option linter.all false
namespace Mine.Internal
theorem la10 {a b:Nat}(h0:a<b):a≤b-1:=dC h0
theorem la14 {a b:Nat}(h0:0<b)(h1:a≤b-1):a<b:=Nat.lt_of_le_pred h0 h1
theorem la2 {a b c:Nat}(h0:a+(c+1)≤b):a-1<b:=ak (Nat.sub_le _ _) (ag (Nat.lt_add_of_pos_right (Nat.succ_pos c)) h0)
theorem ik {a b:Nat}(h0:a<b+1)(h1:¬a=b):a<b:=ce (bF h0) h1
theorem la4 {a b c:Nat}(h0:c<a)(h1:a<b+1):a-1<b:=ag (fU (ak (aU c) h0) (by decide)) (bF h1)
theorem hJ {a:Nat}(h0:a≤9):a<1000:=ak h0 (by decide)
theorem la5 {a b c:Nat}(h0:c<b+1)(h1:¬c<a)(h2:¬c=a):a<b:=ag (ce (bl.mp h1) (cG h2)) (bF h0)
theorem la37 {a b c:Nat}(h0:(c+1)/2≤b+1)(h1:a<(c+1)/2*2-1):(a+1)/2≤b:=bF (Nat.div_lt_of_lt_mul (ag (Nat.add_lt_of_lt_sub h1) (aI (Nat.mul_le_mul_right 2 h0) (bj (Nat.mul_comm _ _)))))
theorem z2o {a:Nat}(h0:a<9):(a+1)/2≤4:=aI (Nat.div_le_div_right (c:=2) h0) (by decide)
theorem la25 {a b:Nat}(h0:b<9)(h1:a<(b+1)/2*2-1):(a+1)/2≤3:=la37 (z2o h0) h1
theorem la8 {a b:Nat}(h0:¬a<b)(h1:¬a=b):a-b=a-b-1+1:=(Nat.sub_add_cancel (Nat.sub_pos_of_lt (ce (bl.mp h0) (cG h1)))).symm
theorem la6 {a b:Nat}(h0:1≤b)(h1:a<b+1):a-1<b:=ak (Nat.sub_le_sub_right (bF h1) 1) (fU h0 (by decide))
theorem la16 {a b:Nat}(h0:b+1≤a):a=a-1+1:=(Nat.sub_add_cancel (aI (Nat.le_add_left 1 b) h0)).symm
theorem la39 {a b:Nat}(h0:b<a):a-1<a:=Nat.sub_one_lt_of_lt h0
theorem la15 {a b c:Nat}(h0:a+(c+1)≤b):a<b:=Nat.lt_of_add_right_lt h0
theorem la19 {a b c:Nat}(h0:c<b)(h1:b<a):a-1-b<a-1-c:=Nat.sub_lt_sub_left (ag h0 (dC h1)) h0
theorem la27 {a b:Nat}(h0:a<b)(h1:¬a=b-1):a<b-1:=ce (dC h0) h1
theorem la71 {a b:Nat}(h0:¬b<a):a≤b:=cq h0
theorem la24 {a b c:Nat}(h0:c<2^20)(h1:b=c)(h2:a<b):a<b∧(↑a:Int)<4611686018427387904:=⟨h2,dR (aX.mpr (a9 (ag h2 (bj h1)) h0)) (by decide)⟩
theorem la22 {a b c:Nat}(h0:c<2^20)(h1:a<b)(h2:b=c):a<b∧(↑a:Int)<4611686018427387904:=la24 h0 h2 h1
theorem la31 {a b c:Nat}(h0:a<c)(h1:c=b):a<b:=Nat.lt_of_lt_of_eq h0 h1
theorem la26 {a b:Nat}(h0:¬b≤9)(h1:a<10):a<b:=ag h1 (Nat.not_le.mp h0)
theorem la34 {a:Nat}(h0:a≤9):a<10:=b7 h0
theorem la7 {a b:Nat}(h0:¬b<a)(h1:¬b=a):a+(b-a-1)=b-1:=(Nat.add_sub_assoc (Nat.sub_pos_of_lt (ce (bl.mp h0) (cG h1))) a).symm.trans (congrArg (λx=>x-1) (Nat.add_sub_cancel' (bl.mp h0)))
theorem jc {a:Nat}(h0:a<64):a≤16777216:=aI (bG h0) (by decide)
theorem la92 {a b:Nat}(h0:a<b):(a+b)/2<b:=by lia
theorem la79 {a b:Nat}(h0:b<a):¬a<b+1:=bl.mpr h0
theorem z2p {a b:Nat}:a-b≤a:=Nat.sub_le a b
theorem z2m {a b c:Nat}(h0:b≤c+1+a):a+b<2*(c+a+1):=by lia
theorem la21 {a b c:Nat}(h0:b-a≤c+1):(a+b)/2-a≤c:=Nat.sub_le_of_le_add (bF (Nat.div_lt_of_lt_mul (z2m (Nat.sub_le_iff_le_add.mp h0))))
theorem la88 {a:Nat}(h0:a+1≤64):a≤64:=dW h0
theorem la28 {a b c:Nat}(h0:a+64+(c+1)<b):a<b:=ak (aI (bN a 64) (bN _ _)) h0
theorem la23 {a b c:Nat}(h0:a+32*c+96<b):a+1+64<b:=by lia
theorem la57 {a b c:Nat}(h0:c+a≤b):a+0≤b:=Nat.le_of_add_left_le h0
theorem la82 {a b c:Int}(h0:a<c)(h1:c<b):a<b:=Int.lt_trans h0 h1
theorem la59 {a b c:Int}(h0:¬b<c)(h1:a<c):a<b:=dR h1 (Int.not_lt.mp h0)
theorem la35 {a b c d:Nat}(h0:c<d)(h1:d=a)(h2:c<b):a-b<a-c:=Nat.sub_lt_sub_left (ag h0 (bj h1)) h2
theorem la66 {a:Int}(h0:a<(↑9:Int)):a.toNat<9:=(Int.toNat_lt_toNat (by decide)).mpr h0
theorem la61 {a b:Nat}(h0:a≤b):a≤(a+b)/2:=by lia
theorem la48 {a b c d:Nat}(h0:min b c-a=d+1):a<b:=ag (Nat.lt_of_sub_eq_succ h0) (Nat.min_le_left _ _)
theorem z2n {a b:Nat}(h0:a≤b):(a+b)/2≤b:=Nat.div_le_of_le_mul (aI (dE h0 b) (bj (Nat.two_mul b).symm))
theorem la30 {a b c d:Nat}(h0:d<c)(h1:b≤d)(h2:a≤b):(a+b)/2<c:=ak (z2n h2) (ak h1 h0)
theorem la12 {a:Int}{b:Nat}(h0:a<(↑(b+1):Int))(h1:¬a=(↑b:Int)):a<(↑b:Int):=by lia
theorem la64 {a b:Nat}(h0:0<b):min a (b-1)<b:=ak (Nat.min_le_right _ _) (fU h0 (by decide))
theorem la36 {a b c d:Nat}(h0:a<b)(h1:c<a∧a≤d):a-1<b-1:=Nat.sub_lt_sub_right (ak (aU c) h1.1) h0
theorem z08 {a b:Nat}(h0:a<b):a<b:=by omega
theorem la63 {a b c:Nat}(h0:b<a)(h1:a-b=c):a-(b+1)<c:=h1▸Nat.sub_lt_sub_left h0 (aQ b)
theorem la56 {a b c d:Nat}(h0:min c b-a=d+1):a<b:=ag (Nat.lt_of_sub_eq_succ h0) (Nat.min_le_right _ _)
theorem la72 {a:Int}(h0:0≤a∧a<(↑9:Int)):(↑a.toNat:Int)=a:=Int.toNat_of_nonneg h0.1
theorem z2q {a b c:Nat}(h0:a≤b+(c+1)):a≤(b+a)/2+1+c:=by lia
theorem la18 {a b c:Nat}(h0:a-b≤c+1):a-((b+a)/2+1)≤c:=Nat.sub_le_of_le_add (aI (z2q (aI (Nat.sub_le_iff_le_add.mp h0) (bj (ew _ _)))) (bj (ew _ _)))
theorem la41 {a b c:Nat}(h0:a+(c+1)=b):a<b:=by lia
theorem la42 {a b c:Nat}(h0:a<(b+c)/2+1)(h1:¬a=(b+c)/2):a<(b+c)/2:=ce (bF h0) h1
theorem z09 {a b:Nat}(h0:b<64)(h1:b=a):a<64:=by subst h1;exact h0
theorem la67 {a b:Nat}(h0:¬b<a)(h1:¬b=a):a≤b-1:=dC (ce (bl.mp h0) (cG h1))
theorem la65 {a b:Nat}(h0:a<(b+1)/2*2-1):a<b:=ag h0 (Nat.sub_le_sub_right (Nat.div_mul_le_self (b+1) 2) 1)
theorem la47 {a:Nat}(h0:a<64):a≤16777216+1:=aI (bG h0) (by decide)
end Mine.Internal
end
section
open PySem PySem.W PyProof.Rows
set_option maxRecDepth 1000000
namespace Mine.Internal
noncomputable abbrev S (x:String):Str:=Str.ofString x
noncomputable def E (P:Params)(x:String)(t:Nat)(v:Value):DictEntry:=⟨PyData.keyHash P (Str.ofString x),.str (Str.ofString x) t,v⟩
noncomputable def fnAt (p:Program)(i:Nat):Stmt:=(p.main.body[i]?).getD (.Pass ⟨0,0,0,0⟩)
noncomputable def c5 (s:Stmt)(j:Nat):Stmt:=match s with
 |.ClassDef _ _ _ b _ _ _ _ _ _ _=>(b[j]?).getD (.Pass ⟨0,0,0,0⟩)
 |s=>s
noncomputable def z2v:Stmt→Arguments
 |.FunctionDef _ a _ _ _ _ _ _ _ _=>a
 |_=>⟨[],[],none,[],[],none,[]⟩
noncomputable def dw:Stmt→List Stmt
 |.FunctionDef _ _ b _ _ _ _ _ _ _=>b
 |_=>[]
noncomputable def dk:Stmt→Scope
 |.FunctionDef _ _ _ _ _ _ sc _ _ _=>sc
 |_=>default
noncomputable def c4 (s:Stmt)(name qual:Str)(dV kV doc pm cd ct:Value):FuncData :=
 { name:=name,qualname:=qual,params:=z2v s,body:=.stmts (dw s),scope:=dk s,globals:=mainGlobals,closure:=[],defaults:=dV,kwdefaults:=kV,doc:=doc,pyModule:=pm,annotations:=none,code:=cd,closureTuple:=ct,builtins:=builtinsNs }
noncomputable def iP (p:Program)(P:Params):Frag:=[
 (3,⟨(.type "dict"),none,(.dict #[E P "__name__" 165 (.str (S "law_op0268_06") 734),E P "__doc__" 166 .none,E P "__package__" 167 .none,E P "__loader__" 168 (.builtin "__main__.__loader__#opaque"),E P "__spec__" 169 .none,E P "__annotations__" 170 (.ref 6),E P "__builtins__" 171 (.ref 4),E P "__file__" 173 (.str (S "/claim/cut.py") 172),E P "__cached__" 174 .none,E P "_sre" 275 (.ref 12),E P "_wall" 288 (.ref 38),E P "_name_disallowed_re" 316 (.ref 43),E P "_value_disallowed_re" 350 (.ref 48),E P "Headers" 507 (.ref 171),E P "_NODE_OUT" 512 (.int (-1) 511),E P "_NODE_DONE" 515 (.int (-2) 514),E P "_NodeInfo" 552 (.ref 194),E P "CycleError" 570 (.ref 209),E P "TopologicalSorter" 689 (.ref 291),E P "heappush" 699 (.ref 302),E P "heappop" 708 (.ref 309),E P "_siftdown" 720 (.ref 316),E P "_siftup" 733 (.ref 323),E P "_law_within" 741 (.ref 328),E P "_law_numbers" 747 (.ref 333),E P "_law_order" 753 (.ref 338),E P "_law_depth" 762 (.ref 345),E P "law" 768 (.ref 350)] 28),#[]⟩),
 (37,⟨(.type "code"),none,(.fields #[(.str (S "_wall") 282),(.str (S "_wall") 283),(.str (S "/claim/cut.py") 284),(.int 2 0),(.int 1 0),(.int 0 0),(.int 0 0),(.int 3 0),(.ref 32),(.bool true),(.int 276 0),(.ref 33),.none,(.ref 34),(.ref 35),(.ref 36),(.int 286 0),(.int 2 0),(.str (S "/claim/cut.py") 287)]),#[]⟩),
 (38,⟨(.type "function"),none,(.func (c4 (fnAt p 1) (S "_wall") (S "_wall") .none .none .none (.str (S "__main__") 164) (.ref 37) .none)),#[]⟩),
 (42,⟨(.type "tuple"),none,(.seq #[(.int 14 0),(.int 10 0),(.int 4 0),(.int 1 0),(.int 1 0),(.int 22 0),(.int 0 0),(.int 31 0),(.int 16 0),(.int 127 0),(.int 0 0),(.int 13 0),(.int 7 0),(.int 22 0),(.int 0 0),(.int 31 0),(.int 16 0),(.int 127 0),(.int 0 0),(.int 1 0)] 0),#[]⟩),
 (43,⟨(.type "re.Pattern"),none,(.fields #[(.str (S "[\\x00-\\x1F\\x7F]") 292),(.int 32 315),(.int 0 0),.none,.none,(.ref 42),(.int 0 0)]),#[]⟩),
 (47,⟨(.type "tuple"),none,(.seq #[(.int 14 0),(.int 14 0),(.int 4 0),(.int 1 0),(.int 1 0),(.int 9 0),(.int 4294966783 0),(.int 0 0),(.int 0 0),(.int 2147483648 0),(.int 0 0),(.int 0 0),(.int 0 0),(.int 0 0),(.int 0 0),(.int 13 0),(.int 11 0),(.int 9 0),(.int 4294966783 0),(.int 0 0),(.int 0 0),(.int 2147483648 0),(.int 0 0),(.int 0 0),(.int 0 0),(.int 0 0),(.int 0 0),(.int 1 0)] 0),#[]⟩),
 (48,⟨(.type "re.Pattern"),none,(.fields #[(.str (S "[\\x00-\\x08\\x0A-\\x1F\\x7F]") 318),(.int 32 349),(.int 0 0),.none,.none,(.ref 47),(.int 0 0)]),#[]⟩),
 (56,⟨(.type "tuple"),none,(.seq #[.none] 0),#[]⟩),
 (62,⟨(.type "code"),none,(.fields #[(.str (S "__init__") 363),(.str (S "Headers.__init__") 364),(.str (S "/claim/cut.py") 365),(.int 10 0),(.int 2 0),(.int 0 0),(.int 0 0),(.int 3 0),(.ref 57),(.bool true),(.int 276 0),(.ref 58),.none,(.ref 59),(.ref 60),(.ref 61),(.int 370 0),(.int 10 0),(.str (S "/claim/cut.py") 371)]),#[]⟩),
 (63,⟨(.type "function"),none,(.func (c4 (c5 (fnAt p 5) 0) (S "__init__") (S "Headers.__init__") (.ref 56) .none .none (.str (S "cpy313.wsgiref.headers") 289) (.ref 62) .none)),#[]⟩),
 (69,⟨(.type "code"),none,(.fields #[(.str (S "_convert_string_type") 373),(.str (S "Headers._convert_string_type") 374),(.str (S "/claim/cut.py") 375),(.int 20 0),(.int 2 0),(.int 0 0),(.int 1 0),(.int 3 0),(.ref 64),(.bool true),(.int 276 0),(.ref 65),.none,(.ref 66),(.ref 67),(.ref 68),(.int 380 0),(.int 20 0),(.str (S "/claim/cut.py") 381)]),#[]⟩),
 (70,⟨(.type "function"),none,(.func (c4 (c5 (fnAt p 5) 1) (S "_convert_string_type") (S "Headers._convert_string_type") .none .none .none (.str (S "cpy313.wsgiref.headers") 289) (.ref 69) .none)),#[]⟩),
 (76,⟨(.type "code"),none,(.fields #[(.str (S "__len__") 383),(.str (S "Headers.__len__") 384),(.str (S "/claim/cut.py") 385),(.int 28 0),(.int 1 0),(.int 0 0),(.int 0 0),(.int 3 0),(.ref 71),(.bool true),(.int 276 0),(.ref 72),.none,(.ref 73),(.ref 74),(.ref 75),(.int 387 0),(.int 28 0),(.str (S "/claim/cut.py") 388)]),#[]⟩),
 (77,⟨(.type "function"),none,(.func (c4 (c5 (fnAt p 5) 2) (S "__len__") (S "Headers.__len__") .none .none .none (.str (S "cpy313.wsgiref.headers") 289) (.ref 76) .none)),#[]⟩),
 (83,⟨(.type "code"),none,(.fields #[(.str (S "__setitem__") 390),(.str (S "Headers.__setitem__") 391),(.str (S "/claim/cut.py") 392),(.int 31 0),(.int 3 0),(.int 0 0),(.int 0 0),(.int 3 0),(.ref 78),(.bool true),(.int 276 0),(.ref 79),.none,(.ref 80),(.ref 81),(.ref 82),(.int 396 0),(.int 31 0),(.str (S "/claim/cut.py") 397)]),#[]⟩),
 (84,⟨(.type "function"),none,(.func (c4 (c5 (fnAt p 5) 3) (S "__setitem__") (S "Headers.__setitem__") .none .none .none (.str (S "cpy313.wsgiref.headers") 289) (.ref 83) .none)),#[]⟩),
 (88,⟨(.type "code"),none,(.fields #[(.str (S "__delitem__") 399),(.str (S "Headers.__delitem__") 400),(.str (S "/claim/cut.py") 401),(.int 35 0),(.int 2 0),(.int 0 0),(.int 0 0),(.int 3 0),(.ref 85),(.bool true),(.int 276 0),(.ref 86),.none,.none,.none,(.ref 87),(.int 402 0),(.int 35 0),(.str (S "/claim/cut.py") 403)]),#[]⟩),
 (89,⟨(.type "function"),none,(.func (c4 (c5 (fnAt p 5) 4) (S "__delitem__") (S "Headers.__delitem__") .none .none .none (.str (S "cpy313.wsgiref.headers") 289) (.ref 88) .none)),#[]⟩),
 (95,⟨(.type "code"),none,(.fields #[(.str (S "__getitem__") 405),(.str (S "Headers.__getitem__") 406),(.str (S "/claim/cut.py") 407),(.int 39 0),(.int 2 0),(.int 0 0),(.int 0 0),(.int 3 0),(.ref 90),(.bool true),(.int 276 0),(.ref 91),.none,(.ref 92),(.ref 93),(.ref 94),(.int 410 0),(.int 39 0),(.str (S "/claim/cut.py") 411)]),#[]⟩),
 (96,⟨(.type "function"),none,(.func (c4 (c5 (fnAt p 5) 5) (S "__getitem__") (S "Headers.__getitem__") .none .none .none (.str (S "cpy313.wsgiref.headers") 289) (.ref 95) .none)),#[]⟩),
 (102,⟨(.type "code"),none,(.fields #[(.str (S "__contains__") 413),(.str (S "Headers.__contains__") 414),(.str (S "/claim/cut.py") 415),(.int 42 0),(.int 2 0),(.int 0 0),(.int 0 0),(.int 3 0),(.ref 97),(.bool true),(.int 276 0),(.ref 98),.none,(.ref 99),(.ref 100),(.ref 101),(.int 418 0),(.int 42 0),(.str (S "/claim/cut.py") 419)]),#[]⟩),
 (103,⟨(.type "function"),none,(.func (c4 (c5 (fnAt p 5) 6) (S "__contains__") (S "Headers.__contains__") .none .none .none (.str (S "cpy313.wsgiref.headers") 289) (.ref 102) .none)),#[]⟩),
 (109,⟨(.type "code"),none,(.fields #[(.str (S "get_all") 421),(.str (S "Headers.get_all") 422),(.str (S "/claim/cut.py") 423),(.int 45 0),(.int 2 0),(.int 0 0),(.int 0 0),(.int 3 0),(.ref 104),(.bool true),(.int 276 0),(.ref 105),.none,(.ref 106),(.ref 107),(.ref 108),(.int 426 0),(.int 45 0),(.str (S "/claim/cut.py") 427)]),#[]⟩),
 (110,⟨(.type "function"),none,(.func (c4 (c5 (fnAt p 5) 7) (S "get_all") (S "Headers.get_all") .none .none .none (.str (S "cpy313.wsgiref.headers") 289) (.ref 109) .none)),#[]⟩),
 (111,⟨(.type "tuple"),none,(.seq #[.none] 0),#[]⟩),
 (117,⟨(.type "code"),none,(.fields #[(.str (S "get") 429),(.str (S "Headers.get") 430),(.str (S "/claim/cut.py") 431),(.int 48 0),(.int 3 0),(.int 0 0),(.int 0 0),(.int 3 0),(.ref 112),(.bool true),(.int 276 0),(.ref 113),.none,(.ref 114),(.ref 115),(.ref 116),(.int 437 0),(.int 48 0),(.str (S "/claim/cut.py") 438)]),#[]⟩),
 (118,⟨(.type "function"),none,(.func (c4 (c5 (fnAt p 5) 8) (S "get") (S "Headers.get") (.ref 111) .none .none (.str (S "cpy313.wsgiref.headers") 289) (.ref 117) .none)),#[]⟩),
 (122,⟨(.type "code"),none,(.fields #[(.str (S "keys") 440),(.str (S "Headers.keys") 441),(.str (S "/claim/cut.py") 442),(.int 55 0),(.int 1 0),(.int 0 0),(.int 0 0),(.int 3 0),(.ref 119),(.bool true),(.int 276 0),(.ref 120),.none,.none,.none,(.ref 121),(.int 443 0),(.int 55 0),(.str (S "/claim/cut.py") 444)]),#[]⟩),
 (123,⟨(.type "function"),none,(.func (c4 (c5 (fnAt p 5) 9) (S "keys") (S "Headers.keys") .none .none .none (.str (S "cpy313.wsgiref.headers") 289) (.ref 122) .none)),#[]⟩),
 (127,⟨(.type "code"),none,(.fields #[(.str (S "values") 446),(.str (S "Headers.values") 447),(.str (S "/claim/cut.py") 448),(.int 58 0),(.int 1 0),(.int 0 0),(.int 0 0),(.int 3 0),(.ref 124),(.bool true),(.int 276 0),(.ref 125),.none,.none,.none,(.ref 126),(.int 449 0),(.int 58 0),(.str (S "/claim/cut.py") 450)]),#[]⟩),
 (128,⟨(.type "function"),none,(.func (c4 (c5 (fnAt p 5) 10) (S "values") (S "Headers.values") .none .none .none (.str (S "cpy313.wsgiref.headers") 289) (.ref 127) .none)),#[]⟩),
 (134,⟨(.type "code"),none,(.fields #[(.str (S "items") 452),(.str (S "Headers.items") 453),(.str (S "/claim/cut.py") 454),(.int 61 0),(.int 1 0),(.int 0 0),(.int 0 0),(.int 3 0),(.ref 129),(.bool true),(.int 276 0),(.ref 130),.none,(.ref 131),(.ref 132),(.ref 133),(.int 456 0),(.int 61 0),(.str (S "/claim/cut.py") 457)]),#[]⟩),
 (135,⟨(.type "function"),none,(.func (c4 (c5 (fnAt p 5) 11) (S "items") (S "Headers.items") .none .none .none (.str (S "cpy313.wsgiref.headers") 289) (.ref 134) .none)),#[]⟩),
 (141,⟨(.type "code"),none,(.fields #[(.str (S "__repr__") 459),(.str (S "Headers.__repr__") 460),(.str (S "/claim/cut.py") 461),(.int 64 0),(.int 1 0),(.int 0 0),(.int 0 0),(.int 3 0),(.ref 136),(.bool true),(.int 276 0),(.ref 137),.none,(.ref 138),(.ref 139),(.ref 140),(.int 463 0),(.int 64 0),(.str (S "/claim/cut.py") 464)]),#[]⟩),
 (142,⟨(.type "function"),none,(.func (c4 (c5 (fnAt p 5) 12) (S "__repr__") (S "Headers.__repr__") .none .none .none (.str (S "cpy313.wsgiref.headers") 289) (.ref 141) .none)),#[]⟩),
 (146,⟨(.type "code"),none,(.fields #[(.str (S "__str__") 466),(.str (S "Headers.__str__") 467),(.str (S "/claim/cut.py") 468),(.int 67 0),(.int 1 0),(.int 0 0),(.int 0 0),(.int 3 0),(.ref 143),(.bool true),(.int 276 0),(.ref 144),.none,.none,.none,(.ref 145),(.int 469 0),(.int 67 0),(.str (S "/claim/cut.py") 470)]),#[]⟩),
 (147,⟨(.type "function"),none,(.func (c4 (c5 (fnAt p 5) 13) (S "__str__") (S "Headers.__str__") .none .none .none (.str (S "cpy313.wsgiref.headers") 289) (.ref 146) .none)),#[]⟩),
 (153,⟨(.type "code"),none,(.fields #[(.str (S "__bytes__") 472),(.str (S "Headers.__bytes__") 473),(.str (S "/claim/cut.py") 474),(.int 70 0),(.int 1 0),(.int 0 0),(.int 0 0),(.int 3 0),(.ref 148),(.bool true),(.int 276 0),(.ref 149),.none,(.ref 150),(.ref 151),(.ref 152),(.int 476 0),(.int 70 0),(.str (S "/claim/cut.py") 477)]),#[]⟩),
 (154,⟨(.type "function"),none,(.func (c4 (c5 (fnAt p 5) 14) (S "__bytes__") (S "Headers.__bytes__") .none .none .none (.str (S "cpy313.wsgiref.headers") 289) (.ref 153) .none)),#[]⟩),
 (160,⟨(.type "code"),none,(.fields #[(.str (S "setdefault") 479),(.str (S "Headers.setdefault") 480),(.str (S "/claim/cut.py") 481),(.int 73 0),(.int 3 0),(.int 0 0),(.int 0 0),(.int 3 0),(.ref 155),(.bool true),(.int 276 0),(.ref 156),.none,(.ref 157),(.ref 158),(.ref 159),(.int 486 0),(.int 73 0),(.str (S "/claim/cut.py") 487)]),#[]⟩),
 (161,⟨(.type "function"),none,(.func (c4 (c5 (fnAt p 5) 15) (S "setdefault") (S "Headers.setdefault") .none .none .none (.str (S "cpy313.wsgiref.headers") 289) (.ref 160) .none)),#[]⟩),
 (167,⟨(.type "code"),none,(.fields #[(.str (S "add_header") 489),(.str (S "Headers.add_header") 490),(.str (S "/claim/cut.py") 491),(.int 81 0),(.int 3 0),(.int 0 0),(.int 0 0),(.int 11 0),(.ref 162),(.bool true),(.int 276 0),(.ref 163),.none,(.ref 164),(.ref 165),(.ref 166),(.int 496 0),(.int 81 0),(.str (S "/claim/cut.py") 497)]),#[]⟩),
 (168,⟨(.type "function"),none,(.func (c4 (c5 (fnAt p 5) 16) (S "add_header") (S "Headers.add_header") .none .none .none (.str (S "cpy313.wsgiref.headers") 289) (.ref 167) .none)),#[]⟩),
 (170,⟨(.type "dict"),none,(.dict #[E P "__module__" 358 (.str (S "cpy313.wsgiref.headers") 289),E P "__firstlineno__" 362 (.int 8 361),E P "__init__" 372 (.ref 63),E P "_convert_string_type" 382 (.ref 70),E P "__len__" 389 (.ref 77),E P "__setitem__" 398 (.ref 84),E P "__delitem__" 404 (.ref 89),E P "__getitem__" 412 (.ref 96),E P "__contains__" 420 (.ref 103),E P "get_all" 428 (.ref 110),E P "get" 439 (.ref 118),E P "keys" 445 (.ref 123),E P "values" 451 (.ref 128),E P "items" 458 (.ref 135),E P "__repr__" 465 (.ref 142),E P "__str__" 471 (.ref 147),E P "__bytes__" 478 (.ref 154),E P "setdefault" 488 (.ref 161),E P "add_header" 498 (.ref 168),E P "__static_attributes__" 500 (.ref 169),E P "__dict__" 502 (.ref 172),E P "__weakref__" 504 (.ref 173),E P "__doc__" 505 .none] 4),#[]⟩),
 (171,⟨(.type "type"),none,(.cls ⟨(S "Headers"),[(.type "object")],[(.ref 171),(.type "object")],170,(S "Headers"),true,[],[],false,none,false⟩),#[none,none,(some (.str (S "Headers") 351)),(some (.str (S "Headers") 359)),(some (.builtin "object.__new__")),(some (.bool true))]⟩),
 (172,⟨(.type "getset_descriptor"),none,(.fields #[(.str (S "__dict__") 501),(.ref 171),(.builtin "function.__dict__"),(.builtin "function.__dict__#set")]),#[]⟩),
 (173,⟨(.type "getset_descriptor"),none,(.fields #[(.str (S "__weakref__") 503),(.ref 171),(.builtin "ExceptionGroup.__weakref__"),.none]),#[]⟩),
 (189,⟨(.type "code"),none,(.fields #[(.str (S "__init__") 532),(.str (S "_NodeInfo.__init__") 533),(.str (S "/claim/cut.py") 534),(.int 89 0),(.int 2 0),(.int 0 0),(.int 0 0),(.int 3 0),(.ref 184),(.bool true),(.int 276 0),(.ref 185),.none,(.ref 186),(.ref 187),(.ref 188),(.int 537 0),(.int 89 0),(.str (S "/claim/cut.py") 538)]),#[]⟩),
 (190,⟨(.type "function"),none,(.func (c4 (c5 (fnAt p 9) 1) (S "__init__") (S "_NodeInfo.__init__") .none .none .none (.str (S "cpy313.graphlib") 508) (.ref 189) .none)),#[]⟩),
 (193,⟨(.type "dict"),none,(.dict #[E P "__module__" 523 (.str (S "cpy313.graphlib") 508),E P "__firstlineno__" 527 (.int 86 526),E P "__slots__" 531 (.ref 183),E P "__init__" 539 (.ref 190),E P "__static_attributes__" 543 (.ref 191),E P "node" 545 (.ref 195),E P "npredecessors" 547 (.ref 196),E P "successors" 549 (.ref 197),E P "__doc__" 550 .none] 5),#[]⟩),
 (194,⟨(.type "type"),none,(.cls ⟨(S "_NodeInfo"),[(.type "object")],[(.ref 194),(.type "object")],193,(S "_NodeInfo"),false,[(S "node"),(S "npredecessors"),(S "successors")],[],false,none,false⟩),#[none,none,(some (.str (S "_NodeInfo") 516)),(some (.str (S "_NodeInfo") 524)),(some (.builtin "object.__new__")),(some (.bool false))]⟩),
 (195,⟨(.type "member_descriptor"),none,(.fields #[(.str (S "node") 544),(.ref 194),(.builtin "proto.slot"),(.builtin "proto.slot#set"),(.int 2 0)]),#[]⟩),
 (196,⟨(.type "member_descriptor"),none,(.fields #[(.str (S "npredecessors") 546),(.ref 194),(.builtin "proto.slot"),(.builtin "proto.slot#set"),(.int 1 0)]),#[]⟩),
 (197,⟨(.type "member_descriptor"),none,(.fields #[(.str (S "successors") 548),(.ref 194),(.builtin "proto.slot"),(.builtin "proto.slot#set"),(.int 0 0)]),#[]⟩),
 (208,⟨(.type "dict"),none,(.dict #[E P "__module__" 560 (.str (S "cpy313.graphlib") 508),E P "__firstlineno__" 564 (.int 93 563),E P "__static_attributes__" 565 (.ref 207),E P "__weakref__" 567 (.ref 210),E P "__doc__" 568 .none] 3),#[]⟩),
 (209,⟨(.type "type"),none,(.cls ⟨(S "CycleError"),[(.type "ValueError")],[(.ref 209),(.type "ValueError"),(.type "Exception"),(.type "BaseException"),(.type "object")],208,(S "CycleError"),true,[],[],false,none,false⟩),#[(some (.ref 200)),none,(some (.str (S "CycleError") 553)),(some (.str (S "CycleError") 561)),(some (.builtin "ValueError.__new__")),(some (.bool true))]⟩),
 (210,⟨(.type "getset_descriptor"),none,(.fields #[(.str (S "__weakref__") 566),(.ref 209),(.builtin "ExceptionGroup.__weakref__"),.none]),#[]⟩),
 (220,⟨(.type "tuple"),none,(.seq #[.none] 0),#[]⟩),
 (226,⟨(.type "code"),none,(.fields #[(.str (S "__init__") 583),(.str (S "TopologicalSorter.__init__") 584),(.str (S "/claim/cut.py") 585),(.int 97 0),(.int 2 0),(.int 0 0),(.int 0 0),(.int 3 0),(.ref 221),(.bool true),(.int 276 0),(.ref 222),.none,(.ref 223),(.ref 224),(.ref 225),(.int 590 0),(.int 97 0),(.str (S "/claim/cut.py") 591)]),#[]⟩),
 (227,⟨(.type "function"),none,(.func (c4 (c5 (fnAt p 11) 0) (S "__init__") (S "TopologicalSorter.__init__") (.ref 220) .none .none (.str (S "cpy313.graphlib") 508) (.ref 226) .none)),#[]⟩),
 (233,⟨(.type "code"),none,(.fields #[(.str (S "_get_nodeinfo") 593),(.str (S "TopologicalSorter._get_nodeinfo") 594),(.str (S "/claim/cut.py") 595),(.int 106 0),(.int 2 0),(.int 0 0),(.int 0 0),(.int 3 0),(.ref 228),(.bool true),(.int 276 0),(.ref 229),.none,(.ref 230),(.ref 231),(.ref 232),(.int 599 0),(.int 106 0),(.str (S "/claim/cut.py") 600)]),#[]⟩),
 (234,⟨(.type "function"),none,(.func (c4 (c5 (fnAt p 11) 1) (S "_get_nodeinfo") (S "TopologicalSorter._get_nodeinfo") .none .none .none (.str (S "cpy313.graphlib") 508) (.ref 233) .none)),#[]⟩),
 (240,⟨(.type "code"),none,(.fields #[(.str (S "add") 602),(.str (S "TopologicalSorter.add") 603),(.str (S "/claim/cut.py") 604),(.int 111 0),(.int 2 0),(.int 0 0),(.int 0 0),(.int 7 0),(.ref 235),(.bool true),(.int 276 0),(.ref 236),.none,(.ref 237),(.ref 238),(.ref 239),(.int 611 0),(.int 111 0),(.str (S "/claim/cut.py") 612)]),#[]⟩),
 (241,⟨(.type "function"),none,(.func (c4 (c5 (fnAt p 11) 2) (S "add") (S "TopologicalSorter.add") .none .none .none (.str (S "cpy313.graphlib") 508) (.ref 240) .none)),#[]⟩),
 (245,⟨(.type "code"),none,(.fields #[(.str (S "prepare") 614),(.str (S "TopologicalSorter.prepare") 615),(.str (S "/claim/cut.py") 616),(.int 120 0),(.int 1 0),(.int 0 0),(.int 0 0),(.int 3 0),(.ref 242),(.bool true),(.int 276 0),(.ref 243),.none,.none,.none,(.ref 244),(.int 617 0),(.int 120 0),(.str (S "/claim/cut.py") 618)]),#[]⟩),
 (246,⟨(.type "function"),none,(.func (c4 (c5 (fnAt p 11) 3) (S "prepare") (S "TopologicalSorter.prepare") .none .none .none (.str (S "cpy313.graphlib") 508) (.ref 245) .none)),#[]⟩),
 (252,⟨(.type "code"),none,(.fields #[(.str (S "get_ready") 620),(.str (S "TopologicalSorter.get_ready") 621),(.str (S "/claim/cut.py") 622),(.int 128 0),(.int 1 0),(.int 0 0),(.int 0 0),(.int 3 0),(.ref 247),(.bool true),(.int 276 0),(.ref 248),.none,(.ref 249),(.ref 250),(.ref 251),(.int 627 0),(.int 128 0),(.str (S "/claim/cut.py") 628)]),#[]⟩),
 (253,⟨(.type "function"),none,(.func (c4 (c5 (fnAt p 11) 4) (S "get_ready") (S "TopologicalSorter.get_ready") .none .none .none (.str (S "cpy313.graphlib") 508) (.ref 252) .none)),#[]⟩),
 (259,⟨(.type "code"),none,(.fields #[(.str (S "is_active") 630),(.str (S "TopologicalSorter.is_active") 631),(.str (S "/claim/cut.py") 632),(.int 139 0),(.int 1 0),(.int 0 0),(.int 0 0),(.int 3 0),(.ref 254),(.bool true),(.int 276 0),(.ref 255),.none,(.ref 256),(.ref 257),(.ref 258),(.int 634 0),(.int 139 0),(.str (S "/claim/cut.py") 635)]),#[]⟩),
 (260,⟨(.type "function"),none,(.func (c4 (c5 (fnAt p 11) 5) (S "is_active") (S "TopologicalSorter.is_active") .none .none .none (.str (S "cpy313.graphlib") 508) (.ref 259) .none)),#[]⟩),
 (266,⟨(.type "code"),none,(.fields #[(.str (S "__bool__") 637),(.str (S "TopologicalSorter.__bool__") 638),(.str (S "/claim/cut.py") 639),(.int 144 0),(.int 1 0),(.int 0 0),(.int 0 0),(.int 3 0),(.ref 261),(.bool true),(.int 276 0),(.ref 262),.none,(.ref 263),(.ref 264),(.ref 265),(.int 641 0),(.int 144 0),(.str (S "/claim/cut.py") 642)]),#[]⟩),
 (267,⟨(.type "function"),none,(.func (c4 (c5 (fnAt p 11) 6) (S "__bool__") (S "TopologicalSorter.__bool__") .none .none .none (.str (S "cpy313.graphlib") 508) (.ref 266) .none)),#[]⟩),
 (273,⟨(.type "code"),none,(.fields #[(.str (S "done") 644),(.str (S "TopologicalSorter.done") 645),(.str (S "/claim/cut.py") 646),(.int 147 0),(.int 1 0),(.int 0 0),(.int 0 0),(.int 7 0),(.ref 268),(.bool true),(.int 276 0),(.ref 269),.none,(.ref 270),(.ref 271),(.ref 272),(.int 655 0),(.int 147 0),(.str (S "/claim/cut.py") 656)]),#[]⟩),
 (274,⟨(.type "function"),none,(.func (c4 (c5 (fnAt p 11) 7) (S "done") (S "TopologicalSorter.done") .none .none .none (.str (S "cpy313.graphlib") 508) (.ref 273) .none)),#[]⟩),
 (280,⟨(.type "code"),none,(.fields #[(.str (S "_find_cycle") 658),(.str (S "TopologicalSorter._find_cycle") 659),(.str (S "/claim/cut.py") 660),(.int 170 0),(.int 1 0),(.int 0 0),(.int 0 0),(.int 3 0),(.ref 275),(.bool true),(.int 276 0),(.ref 276),.none,(.ref 277),(.ref 278),(.ref 279),(.int 668 0),(.int 170 0),(.str (S "/claim/cut.py") 669)]),#[]⟩),
 (281,⟨(.type "function"),none,(.func (c4 (c5 (fnAt p 11) 8) (S "_find_cycle") (S "TopologicalSorter._find_cycle") .none .none .none (.str (S "cpy313.graphlib") 508) (.ref 280) .none)),#[]⟩),
 (287,⟨(.type "code"),none,(.fields #[(.str (S "static_order") 671),(.str (S "TopologicalSorter.static_order") 672),(.str (S "/claim/cut.py") 673),(.int 199 0),(.int 1 0),(.int 0 0),(.int 0 0),(.int 3 0),(.ref 282),(.bool true),(.int 276 0),(.ref 283),.none,(.ref 284),(.ref 285),(.ref 286),(.int 675 0),(.int 199 0),(.str (S "/claim/cut.py") 676)]),#[]⟩),
 (288,⟨(.type "function"),none,(.func (c4 (c5 (fnAt p 11) 9) (S "static_order") (S "TopologicalSorter.static_order") .none .none .none (.str (S "cpy313.graphlib") 508) (.ref 287) .none)),#[]⟩),
 (290,⟨(.type "dict"),none,(.dict #[E P "__module__" 578 (.str (S "cpy313.graphlib") 508),E P "__firstlineno__" 582 (.int 95 581),E P "__init__" 592 (.ref 227),E P "_get_nodeinfo" 601 (.ref 234),E P "add" 613 (.ref 241),E P "prepare" 619 (.ref 246),E P "get_ready" 629 (.ref 253),E P "is_active" 636 (.ref 260),E P "__bool__" 643 (.ref 267),E P "done" 657 (.ref 274),E P "_find_cycle" 670 (.ref 281),E P "static_order" 677 (.ref 288),E P "__static_attributes__" 682 (.ref 289),E P "__dict__" 684 (.ref 292),E P "__weakref__" 686 (.ref 293),E P "__doc__" 687 .none] 4),#[]⟩),
 (291,⟨(.type "type"),none,(.cls ⟨(S "TopologicalSorter"),[(.type "object")],[(.ref 291),(.type "object")],290,(S "TopologicalSorter"),true,[],[],false,none,false⟩),#[none,none,(some (.str (S "TopologicalSorter") 571)),(some (.str (S "TopologicalSorter") 579)),(some (.builtin "object.__new__")),(some (.bool true))]⟩),
 (292,⟨(.type "getset_descriptor"),none,(.fields #[(.str (S "__dict__") 683),(.ref 291),(.builtin "function.__dict__"),(.builtin "function.__dict__#set")]),#[]⟩),
 (293,⟨(.type "getset_descriptor"),none,(.fields #[(.str (S "__weakref__") 685),(.ref 291),(.builtin "ExceptionGroup.__weakref__"),.none]),#[]⟩),
 (301,⟨(.type "code"),none,(.fields #[(.str (S "heappush") 692),(.str (S "heappush") 693),(.str (S "/claim/cut.py") 694),(.int 202 0),(.int 2 0),(.int 0 0),(.int 0 0),(.int 3 0),(.ref 296),(.bool true),(.int 276 0),(.ref 297),.none,(.ref 298),(.ref 299),(.ref 300),(.int 697 0),(.int 202 0),(.str (S "/claim/cut.py") 698)]),#[]⟩),
 (302,⟨(.type "function"),none,(.func (c4 (fnAt p 13) (S "heappush") (S "heappush") .none .none .none (.str (S "cpy313.heapq") 690) (.ref 301) .none)),#[]⟩),
 (308,⟨(.type "code"),none,(.fields #[(.str (S "heappop") 700),(.str (S "heappop") 701),(.str (S "/claim/cut.py") 702),(.int 205 0),(.int 1 0),(.int 0 0),(.int 0 0),(.int 3 0),(.ref 303),(.bool true),(.int 276 0),(.ref 304),.none,(.ref 305),(.ref 306),(.ref 307),(.int 706 0),(.int 205 0),(.str (S "/claim/cut.py") 707)]),#[]⟩),
 (309,⟨(.type "function"),none,(.func (c4 (fnAt p 14) (S "heappop") (S "heappop") .none .none .none (.str (S "cpy313.heapq") 690) (.ref 308) .none)),#[]⟩),
 (315,⟨(.type "code"),none,(.fields #[(.str (S "_siftdown") 709),(.str (S "_siftdown") 710),(.str (S "/claim/cut.py") 711),(.int 213 0),(.int 3 0),(.int 0 0),(.int 0 0),(.int 3 0),(.ref 310),(.bool true),(.int 276 0),(.ref 311),.none,(.ref 312),(.ref 313),(.ref 314),(.int 718 0),(.int 213 0),(.str (S "/claim/cut.py") 719)]),#[]⟩),
 (316,⟨(.type "function"),none,(.func (c4 (fnAt p 15) (S "_siftdown") (S "_siftdown") .none .none .none (.str (S "cpy313.heapq") 690) (.ref 315) .none)),#[]⟩),
 (322,⟨(.type "code"),none,(.fields #[(.str (S "_siftup") 721),(.str (S "_siftup") 722),(.str (S "/claim/cut.py") 723),(.int 224 0),(.int 2 0),(.int 0 0),(.int 0 0),(.int 3 0),(.ref 317),(.bool true),(.int 276 0),(.ref 318),.none,(.ref 319),(.ref 320),(.ref 321),(.int 731 0),(.int 224 0),(.str (S "/claim/cut.py") 732)]),#[]⟩),
 (323,⟨(.type "function"),none,(.func (c4 (fnAt p 16) (S "_siftup") (S "_siftup") .none .none .none (.str (S "cpy313.heapq") 690) (.ref 322) .none)),#[]⟩),
 (327,⟨(.type "code"),none,(.fields #[(.str (S "_law_within") 736),(.str (S "_law_within") 737),(.str (S "/claim/cut.py") 738),(.int 239 0),(.int 1 0),(.int 0 0),(.int 0 0),(.int 3 0),(.ref 324),(.bool true),(.int 276 0),(.ref 325),.none,.none,.none,(.ref 326),(.int 739 0),(.int 239 0),(.str (S "/claim/cut.py") 740)]),#[]⟩),
 (328,⟨(.type "function"),none,(.func (c4 (fnAt p 18) (S "_law_within") (S "_law_within") .none .none .none (.str (S "law_op0268_06") 734) (.ref 327) .none)),#[]⟩),
 (332,⟨(.type "code"),none,(.fields #[(.str (S "_law_numbers") 742),(.str (S "_law_numbers") 743),(.str (S "/claim/cut.py") 744),(.int 244 0),(.int 2 0),(.int 0 0),(.int 0 0),(.int 3 0),(.ref 329),(.bool true),(.int 276 0),(.ref 330),.none,.none,.none,(.ref 331),(.int 745 0),(.int 244 0),(.str (S "/claim/cut.py") 746)]),#[]⟩),
 (333,⟨(.type "function"),none,(.func (c4 (fnAt p 19) (S "_law_numbers") (S "_law_numbers") .none .none .none (.str (S "law_op0268_06") 734) (.ref 332) .none)),#[]⟩),
 (337,⟨(.type "code"),none,(.fields #[(.str (S "_law_order") 748),(.str (S "_law_order") 749),(.str (S "/claim/cut.py") 750),(.int 265 0),(.int 1 0),(.int 0 0),(.int 0 0),(.int 3 0),(.ref 334),(.bool true),(.int 276 0),(.ref 335),.none,.none,.none,(.ref 336),(.int 751 0),(.int 265 0),(.str (S "/claim/cut.py") 752)]),#[]⟩),
 (338,⟨(.type "function"),none,(.func (c4 (fnAt p 20) (S "_law_order") (S "_law_order") .none .none .none (.str (S "law_op0268_06") 734) (.ref 337) .none)),#[]⟩),
 (344,⟨(.type "code"),none,(.fields #[(.str (S "_law_depth") 754),(.str (S "_law_depth") 755),(.str (S "/claim/cut.py") 756),(.int 275 0),(.int 1 0),(.int 0 0),(.int 0 0),(.int 3 0),(.ref 339),(.bool true),(.int 276 0),(.ref 340),.none,(.ref 341),(.ref 342),(.ref 343),(.int 760 0),(.int 275 0),(.str (S "/claim/cut.py") 761)]),#[]⟩),
 (345,⟨(.type "function"),none,(.func (c4 (fnAt p 21) (S "_law_depth") (S "_law_depth") .none .none .none (.str (S "law_op0268_06") 734) (.ref 344) .none)),#[]⟩),
 (349,⟨(.type "code"),none,(.fields #[(.str (S "law") 763),(.str (S "law") 764),(.str (S "/claim/cut.py") 765),(.int 284 0),(.int 1 0),(.int 0 0),(.int 0 0),(.int 3 0),(.ref 346),(.bool true),(.int 276 0),(.ref 347),.none,.none,.none,(.ref 348),(.int 766 0),(.int 284 0),(.str (S "/claim/cut.py") 767)]),#[]⟩),
 (350,⟨(.type "function"),none,(.func (c4 (fnAt p 22) (S "law") (S "law") .none .none .none (.str (S "law_op0268_06") 734) (.ref 349) .none)),#[]⟩)]
noncomputable def kAddrs:List Addr:=[3,37,38,42,43,47,48,56,62,63,69,70,76,77,83,84,88,89,95,96,102,103,109,110,111,117,118,122,123,127,128,134,135,141,142,146,147,153,154,160,161,167,168,170,171,172,173,189,190,193,194,195,196,197,208,209,210,220,226,227,233,234,240,241,245,246,252,253,259,260,266,267,273,274,280,281,287,288,290,291,292,293,301,302,308,309,315,316,322,323,327,328,332,333,337,338,344,345,349,350]
noncomputable def qv:Program:=view PySem.Challenge.pw_op0268_06 [0,22]
noncomputable def zw3:List Str:=[S "_wall", S "_name_disallowed_re", S "_value_disallowed_re", S "Headers", S "_NODE_OUT", S "_NODE_DONE", S "_NodeInfo", S "CycleError", S "TopologicalSorter", S "heappush", S "heappop", S "_siftdown", S "_siftup", S "_law_within", S "_law_numbers", S "_law_order", S "_law_depth"]
noncomputable def xtK:Shared→Bool:=λs=>xlAt qv [] s&&recOk [] s
noncomputable def obsK:Shared→List (Option Obj):=λs=>kAddrs.map s.heap.get?
noncomputable def valK:World→List (Option Obj):=λw=>(iP PySem.Challenge.pw_op0268_06 w.params).map λp=>some p.2
set_option maxHeartbeats 0 in
theorem z2l:LeftO PySem.Challenge.pw_op0268_06 qv zw3 xtK obsK valK 6000:=by
 intro w
 unfold openEnds fencedOpening topFrom
 rw[PySem.W.Fast.te4187177175401517315,PySem.W.Fast.te5923862056798008813,PySem.W.Fast.te10274390034422433532,PySem.W.Fast.te14364793385576792824,PySem.W.Fast.te1435165496053646825,PySem.W.Fast.te14289696077712309145,PySem.W.Fast.te14082659384304107361,PySem.W.Fast.te8920871248978507458]
 kernel_rfl
theorem z2r (P:Params):kAddrs=(iP PySem.Challenge.pw_op0268_06 P).map (λx=>x.1):=by kernel_rfl
theorem ofK (w:World)(s:Shared)(h:obsK s=valK w):(iP PySem.Challenge.pw_op0268_06 w.params).In s.heap:=Frag.in_of (z2r _) h
end Mine.Internal
end
section
namespace Mine.Internal
theorem ns {α:Type _}{x:α}{P:Prop}(e:none=some x):P:=nomatch e
theorem sn {α:Type _}{x:α}{P:Prop}(e:some x=none):P:=nomatch e
theorem sj {α:Type _}{x y:α}(e:some x=some y):x=y:=br e
theorem sp {α β:Type _}{x y:α}{u v:β}(e:some (x,u)=some (y,v)):x=y∧u=v:=Prod.mk.inj (br e)
theorem pj {α β:Type _}{x y:α}{u v:β}(e:(x,u)=(y,v)):x=y∧u=v:=Prod.mk.inj e
theorem tf {P:Prop}(e:true=false):P:=nomatch e
theorem ft {P:Prop}(e:false=true):P:=nomatch e
theorem zhq {α β:Type}[BEq α][LawfulBEq α]{k x:α}{v y:β}{r:List (α×β)}{P:Prop}(h:((k,v)::r).lookup x=some y)(h1:x=k→v=y→P)(h2:r.lookup x=some y→P):P:=by
 rw[bM]at h
 cases hb:x==k with
 |true=>rw[hb]at h;exact h1 (beq_iff_eq.mp hb) (sj h)
 |false=>rw[hb]at h;exact h2 h
theorem mem3 {α β γ:Type}{x z:α}{k kz:β}{j i:γ}{l:List (α×β×γ)}{P:Prop}(h:(x,k,j)∈(z,kz,i)::l)(h1:x=z→k=kz→j=i→P)(h2:(x,k,j)∈l→P):P :=
 (au.mp h).elim (λe=>h1 (congrArg (λx=>x.1) e) (congrArg (λx=>x.2.1) e) (congrArg (λx=>x.2.2) e)) h2
@[elab_as_elim] theorem aw {α:Sort _} {a b:α} {P:α→Prop} (h:a=b) (k:P b):P a:=h▸k
@[elab_as_elim] theorem dI {α:Sort _} {a b:α} {P:α→Prop} (h:b=a) (k:P b):P a:=h▸k
theorem x0a2 {P0 P1:Prop}{G:Prop}(h:P0∧P1)(k:P0→P1→G):G:=k h.1 h.2
theorem x0a3 {P0 P1 P2:Prop}{G:Prop}(h:P0∧P1∧P2)(k:P0→P1→P2→G):G:=k h.1 h.2.1 h.2.2
theorem x0a4 {P0 P1 P2 P3:Prop}{G:Prop}(h:P0∧P1∧P2∧P3)(k:P0→P1→P2→P3→G):G:=k h.1 h.2.1 h.2.2.1 h.2.2.2
theorem x1a1 {A0:Sort _}{P0:A0→Prop}{G:Prop}(h:∃a0,P0 a0)(k:∀a0,P0 a0→G):G:=h.elim λa0 h0=>k a0 h0
theorem x1a2 {A0:Sort _}{P0 P1:A0→Prop}{G:Prop}(h:∃a0,P0 a0∧P1 a0)(k:∀a0,P0 a0→P1 a0→G):G:=h.elim λa0 h0=>k a0 h0.1 h0.2
theorem x1a3 {A0:Sort _}{P0 P1 P2:A0→Prop}{G:Prop}(h:∃a0,P0 a0∧P1 a0∧P2 a0)(k:∀a0,P0 a0→P1 a0→P2 a0→G):G:=h.elim λa0 h0=>k a0 h0.1 h0.2.1 h0.2.2
theorem x2a1 {A0 A1:Sort _}{P0:A0→A1→Prop}{G:Prop}(h:∃a0 a1,P0 a0 a1)(k:∀a0 a1,P0 a0 a1→G):G:=h.elim λa0 h0=>h0.elim λa1 h1=>k a0 a1 h1
theorem x2a2 {A0 A1:Sort _}{P0 P1:A0→A1→Prop}{G:Prop}(h:∃a0 a1,P0 a0 a1∧P1 a0 a1)(k:∀a0 a1,P0 a0 a1→P1 a0 a1→G):G:=h.elim λa0 h0=>h0.elim λa1 h1=>k a0 a1 h1.1 h1.2
theorem x2a3 {A0 A1:Sort _}{P0 P1 P2:A0→A1→Prop}{G:Prop}(h:∃a0 a1,P0 a0 a1∧P1 a0 a1∧P2 a0 a1)(k:∀a0 a1,P0 a0 a1→P1 a0 a1→P2 a0 a1→G):G:=h.elim λa0 h0=>h0.elim λa1 h1=>k a0 a1 h1.1 h1.2.1 h1.2.2
theorem x2a4 {A0 A1:Sort _}{P0 P1 P2 P3:A0→A1→Prop}{G:Prop}(h:∃a0 a1,P0 a0 a1∧P1 a0 a1∧P2 a0 a1∧P3 a0 a1)(k:∀a0 a1,P0 a0 a1→P1 a0 a1→P2 a0 a1→P3 a0 a1→G):G:=h.elim λa0 h0=>h0.elim λa1 h1=>k a0 a1 h1.1 h1.2.1 h1.2.2.1 h1.2.2.2
theorem x2a6 {A0 A1:Sort _}{P0 P1 P2 P3 P4 P5:A0→A1→Prop}{G:Prop}(h:∃a0 a1,P0 a0 a1∧P1 a0 a1∧P2 a0 a1∧P3 a0 a1∧P4 a0 a1∧P5 a0 a1)(k:∀a0 a1,P0 a0 a1→P1 a0 a1→P2 a0 a1→P3 a0 a1→P4 a0 a1→P5 a0 a1→G):G:=h.elim λa0 h0=>h0.elim λa1 h1=>k a0 a1 h1.1 h1.2.1 h1.2.2.1 h1.2.2.2.1 h1.2.2.2.2.1 h1.2.2.2.2.2
theorem x3a2 {A0 A1 A2:Sort _}{P0 P1:A0→A1→A2→Prop}{G:Prop}(h:∃a0 a1 a2,P0 a0 a1 a2∧P1 a0 a1 a2)(k:∀a0 a1 a2,P0 a0 a1 a2→P1 a0 a1 a2→G):G:=h.elim λa0 h0=>h0.elim λa1 h1=>h1.elim λa2 h2=>k a0 a1 a2 h2.1 h2.2
theorem x3a3 {A0 A1 A2:Sort _}{P0 P1 P2:A0→A1→A2→Prop}{G:Prop}(h:∃a0 a1 a2,P0 a0 a1 a2∧P1 a0 a1 a2∧P2 a0 a1 a2)(k:∀a0 a1 a2,P0 a0 a1 a2→P1 a0 a1 a2→P2 a0 a1 a2→G):G:=h.elim λa0 h0=>h0.elim λa1 h1=>h1.elim λa2 h2=>k a0 a1 a2 h2.1 h2.2.1 h2.2.2
theorem x3a4 {A0 A1 A2:Sort _}{P0 P1 P2 P3:A0→A1→A2→Prop}{G:Prop}(h:∃a0 a1 a2,P0 a0 a1 a2∧P1 a0 a1 a2∧P2 a0 a1 a2∧P3 a0 a1 a2)(k:∀a0 a1 a2,P0 a0 a1 a2→P1 a0 a1 a2→P2 a0 a1 a2→P3 a0 a1 a2→G):G:=h.elim λa0 h0=>h0.elim λa1 h1=>h1.elim λa2 h2=>k a0 a1 a2 h2.1 h2.2.1 h2.2.2.1 h2.2.2.2
theorem x3a5 {A0 A1 A2:Sort _}{P0 P1 P2 P3 P4:A0→A1→A2→Prop}{G:Prop}(h:∃a0 a1 a2,P0 a0 a1 a2∧P1 a0 a1 a2∧P2 a0 a1 a2∧P3 a0 a1 a2∧P4 a0 a1 a2)(k:∀a0 a1 a2,P0 a0 a1 a2→P1 a0 a1 a2→P2 a0 a1 a2→P3 a0 a1 a2→P4 a0 a1 a2→G):G:=h.elim λa0 h0=>h0.elim λa1 h1=>h1.elim λa2 h2=>k a0 a1 a2 h2.1 h2.2.1 h2.2.2.1 h2.2.2.2.1 h2.2.2.2.2
theorem x4a5 {A0 A1 A2 A3:Sort _}{P0 P1 P2 P3 P4:A0→A1→A2→A3→Prop}{G:Prop}(h:∃a0 a1 a2 a3,P0 a0 a1 a2 a3∧P1 a0 a1 a2 a3∧P2 a0 a1 a2 a3∧P3 a0 a1 a2 a3∧P4 a0 a1 a2 a3)(k:∀a0 a1 a2 a3,P0 a0 a1 a2 a3→P1 a0 a1 a2 a3→P2 a0 a1 a2 a3→P3 a0 a1 a2 a3→P4 a0 a1 a2 a3→G):G:=h.elim λa0 h0=>h0.elim λa1 h1=>h1.elim λa2 h2=>h2.elim λa3 h3=>k a0 a1 a2 a3 h3.1 h3.2.1 h3.2.2.1 h3.2.2.2.1 h3.2.2.2.2
end Mine.Internal
end
section
namespace Mine.Internal
open PySem
inductive AV where
 |none
 |bool (b:Bool)
 |int (i:Int)
 |str (s:Str)
 |tup (vs:List AV)
 |lst (vs:List AV)
 |obj (i:Nat)
 |val (v:Value)
 |rng (a c:Int) (n:Nat)
 |nxt (i:Nat)
 deriving Inhabited
structure Wd where
 φ:List Addr
 ι:List (Addr×Obj)
mutual
inductive VR (W:Wd):AV→Value→Prop
 |none:VR W .none .none
 |bool (b:Bool):VR W (.bool b) (.bool b)
 |int (i:Int) (t:Tok):VR W (.int i) (.int i t)
 |str (x:Str) (t:Tok):VR W (.str x) (.str x t)
 |tup {a:Addr} {items:Array Value} {n:Nat} {as:List AV}:(a,({ cls:=.type "tuple", data:=.seq items n }:Obj))∈W.ι→VRs W as items.toList→VR W (.tup as) (.ref a)
 |lst {a:Addr} {items:Array Value} {n:Nat} {as:List AV}:(a,({ cls:=.type "list", data:=.seq items n }:Obj))∈W.ι→VRs W as items.toList→VR W (.lst as) (.ref a)
 |obj {i:Nat} {a:Addr}:W.φ[i]?=some a→VR W (.obj i) (.ref a)
 |val (v:Value):VR W (.val v) v
 |rng {r:Addr} {a b c:Int} {t u v:Tok} {n:Nat}:(r,({ cls:=.type "range", data:=.fields #[.int a t,.int b u,.int c v] }:Obj))∈W.ι→Builtin.Range.small a b c=true→Builtin.Range.rangeSize a b c=n→VR W (.rng a c n) (.ref r)
 |nxt {i:Nat} {a m:Addr}:W.φ[i]?=some a→(m,({ cls:=.type "method-wrapper", data:=.fields #[.builtin "list_iterator.__next__", .ref a] }:Obj))∈W.ι→VR W (.nxt i) (.ref m)
inductive VRs (W:Wd):List AV→List Value→Prop
 |nil:VRs W [] []
 |cons {a:AV} {v:Value} {as:List AV} {vs:List Value}:VR W a v→VRs W as vs→VRs W (a::as) (v::vs)
end
structure Wd.Le (W W':Wd):Prop where
 φ:∃t,W'.φ=W.φ++t
 ι:∀p∈W.ι,p∈W'.ι
theorem Wd.Le.refl (W:Wd):W.Le W:=⟨⟨[],by simp⟩,λu1 h=>h⟩
theorem Wd.Le.app {W:Wd}(l:List Addr):W.Le ⟨W.φ++l,W.ι⟩:=⟨⟨l,rfl⟩,λu1 h=>h⟩
theorem Wd.Le.trans {W W' W'':Wd}(x:W.Le W')(y:W'.Le W''):W.Le W'':=by
 (refine x1a1 x.φ λt ht=>?_)
 obtain⟨u,hu⟩:=y.φ
 exact⟨⟨t++u,by simp only[hu,ht,bf]⟩,λp hp=>y.ι p (x.ι p hp)⟩
theorem Wd.Le.at {W W':Wd}(x:W.Le W'){i:Nat}{a:Addr}(h:W.φ[i]?=some a):W'.φ[i]?=some a:=by
 (refine x1a1 x.φ λt ht=>?_)
 rw[ht,bd]
 ·exact h
 ·exact(ap.mp h).1
theorem VR.mono {W W':Wd}(x:W.Le W'){a:AV}{v:Value}(h:VR W a v):VR W' a v :=
 VR.rec (motive_1:=λa v u1=>VR W' a v) (motive_2:=λas vs u1=>VRs W' as vs) .none .bool .int .str (λh1 u1 ih=>.tup (x.ι _ h1) ih) (λh1 u1 ih=>.lst (x.ι _ h1) ih) (λh=>.obj (x.at h)) .val (λh1 h2 h3=>.rng (x.ι _ h1) h2 h3) (λh1 h2=>.nxt (x.at h1) (x.ι _ h2)) .nil (λu1 u2 h r=>.cons h r) h
theorem VRs.mono {W W':Wd}(x:W.Le W'){as:List AV}{vs:List Value}(h:VRs W as vs):VRs W' as vs :=
 VRs.rec (motive_1:=λa v u1=>VR W' a v) (motive_2:=λas vs u1=>VRs W' as vs) .none .bool .int .str (λh1 u1 ih=>.tup (x.ι _ h1) ih) (λh1 u1 ih=>.lst (x.ι _ h1) ih) (λh=>.obj (x.at h)) .val (λh1 h2 h3=>.rng (x.ι _ h1) h2 h3) (λh1 h2=>.nxt (x.at h1) (x.ι _ h2)) .nil (λu1 u2 h r=>.cons h r) h
section
variable {W:Wd}{a b:AV}{v w:Value}{as bs:List AV}{vs ws:List Value}
theorem VRs.length (h:VRs W as vs):as.length=vs.length:=by
 induction vs generalizing as with
 |nil=>cases h;rfl
 |cons v vs ih=>cases h with|cons _ r=>simp[ih r]
theorem VRs.append (h:VRs W as vs)(k:VRs W bs ws):VRs W (as++bs) (vs++ws):=by
 induction vs generalizing as with
 |nil=>cases h;exact k
 |cons v vs ih=>cases h with|cons h r=>exact .cons h (ih r)
theorem VRs.get (h:VRs W as vs){k:Nat}{a:AV}(e:as[k]?=some a):∃v,vs[k]?=some v∧VR W a v:=by
 induction vs generalizing as k with
 |nil=>cases h;exact ns e
 |cons v vs ih =>
  cases h with
  |cons h r =>
   cases k with
   |zero=>have e:=sj e;subst e;exact⟨v,rfl,h⟩
   |succ k=>simp at e;exact ih r e
theorem VRs.set (h:VRs W as vs)(k:Nat)(x:VR W a v):VRs W (as.set k a) (vs.set k v):=by
 induction vs generalizing as k with
 |nil=>cases h;simp;exact .nil
 |cons u vs ih =>
  cases h with
  |cons h r =>
   cases k with
   |zero=>exact .cons x r
   |succ k=>exact .cons h (ih r k)
theorem VRs.eraseIdx (h:VRs W as vs)(k:Nat):VRs W (as.eraseIdx k) (vs.eraseIdx k):=by
 induction vs generalizing as k with
 |nil=>cases h;simp;exact .nil
 |cons u vs ih =>
  cases h with
  |cons h r =>
   cases k with
   |zero=>exact r
   |succ k=>exact .cons h (ih r k)
theorem VRs.one (h:VR W a v):VRs W [a] [v]:=.cons h .nil
end
inductive AO where
 |list (vs:List AV)
 |dict (es:List (Int×AV)) (ep:Nat)
 |inst (C:Addr) (d:Nat)
 |attrs (fs:List (Str×AV))
 |slots (C:Addr) (vs:List (Option AV))
 |set (S:Int→Bool) (n:Nat)
 |liter (l k:Nat)
 |dead
 deriving Inhabited
noncomputable def AttrR (W:Wd)(f:Str×AV)(e:DictEntry):Prop:=(∃t,e.key=.str f.1 t)∧VR W f.2 e.val
inductive AttrsR (W:Wd):List (Str×AV)→List DictEntry→Prop
 |nil:AttrsR W [] []
 |cons {f e fs es}:AttrR W f e→AttrsR W fs es→AttrsR W (f::fs) (e::es)
theorem AttrR.mono {W W':Wd}(x:W.Le W'){f e}(h:AttrR W f e):AttrR W' f e:=⟨h.1,h.2.mono x⟩
theorem AttrsR.mono {W W':Wd}(x:W.Le W'){fs es}(h:AttrsR W fs es):AttrsR W' fs es:=by
 induction h with
 |nil=>exact .nil
 |cons h _ ih=>exact .cons (h.mono x) ih
noncomputable def SlotR (W:Wd):Option AV→Option Value→Prop
 |none,none=>True
 |some a,some v=>VR W a v
 |_,_=>False
inductive SlotsR (W:Wd):List (Option AV)→List (Option Value)→Prop
 |nil:SlotsR W [] []
 |cons {a v as vs}:SlotR W a v→SlotsR W as vs→SlotsR W (a::as) (v::vs)
theorem SlotR.mono {W W':Wd}(x:W.Le W'):∀{a v},SlotR W a v→SlotR W' a v
 |none,none,_=>trivial
 |some _,some _,h=>VR.mono x h
theorem SlotsR.mono {W W':Wd}(x:W.Le W'){as vs}(h:SlotsR W as vs):SlotsR W' as vs:=by
 induction h with
 |nil=>exact .nil
 |cons h _ ih=>exact .cons (h.mono x) ih
noncomputable def z22 (W:Wd)(p:Int×AV)(e:DictEntry):Prop:=(∃t,e.key=.int p.1 t)∧e.hash=hashInt p.1∧VR W p.2 e.val
inductive PairsR (W:Wd):List (Int×AV)→List DictEntry→Prop
 |nil:PairsR W [] []
 |cons {f e fs es}:z22 W f e→PairsR W fs es→PairsR W (f::fs) (e::es)
theorem PairsR.mono {W W':Wd}(x:W.Le W'){fs es}(h:PairsR W fs es):PairsR W' fs es:=by
 induction h with
 |nil=>exact .nil
 |cons h _ ih=>exact .cons ⟨h.1,h.2.1,h.2.2.mono x⟩ ih
noncomputable def OR (W:Wd)(h:Heap):AO→Addr→Prop
 |.list vs,a=>∃(items:Array Value) (n:Nat),h.get? a=some { cls:=.type "list", data:=.seq items n }∧VRs W vs items.toList
 |.dict es ep,a=>∃(entries:Array DictEntry),h.get? a=some { cls:=.type "dict", data:=.dict entries ep }∧PairsR W es entries.toList∧(es.map (λx=>x.1)).Nodup
 |.inst C d,a=>∃ad,W.φ[d]?=some ad∧h.get? a=some ⟨.ref C,some ad,.plain,#[]⟩
 |.attrs fs,a=>∃(entries:List DictEntry) (n:Nat),h.get? a=some { cls:=.type "dict", data:=.dict entries.toArray n }∧AttrsR W fs entries
 |.slots C vs,a=>∃(sl:Array (Option Value)) (ad:Addr),h.get? a=some ⟨.ref C,some ad,.plain,sl⟩∧SlotsR W vs sl.toList∧(ad,({ cls:=.type "dict", data:=.dict #[] }:Obj))∈W.ι
 |.set S n,a=>∃o:Obj,h.get? a=some o∧o.IntSetOf S n∧n<scanBound
 |.liter l k,a=>∃la,W.φ[l]?=some la∧h.get? a=some { cls:=.type "list_iterator", data:=.fields #[.ref la,.int k 0] }
 |.dead,a=>∃o,h.get? a=some o
theorem OR.mono {W W':Wd}(x:W.Le W'){h:Heap}{o:AO}{a:Addr}(r:OR W h o a):OR W' h o a:=by
 cases o with
 |list vs=>(refine x2a2 r λitems n h1 h2=>?_);exact⟨items,n,h1,h2.mono x⟩
 |dict es ep=>(refine x1a3 r λen h1 h2 h3=>?_);exact⟨en,h1,h2.mono x,h3⟩
 |inst C d=>(refine x1a2 r λad h1 h2=>?_);exact⟨ad,x.at h1,h2⟩
 |attrs fs=>(refine x2a2 r λen n h1 h2=>?_);exact⟨en,n,h1,h2.mono x⟩
 |slots C vs=>(refine x2a3 r λsl ad h1 h2 h3=>?_);exact⟨sl,ad,h1,h2.mono x,x.ι _ h3⟩
 |set S n=>exact r
 |liter l k=>(refine x1a2 r λla h1 h2=>?_);exact⟨la,x.at h1,h2⟩
 |dead=>exact r
theorem OR.same {W:Wd}{h h':Heap}{o:AO}{a:Addr}(e:∀x,h.get? a=some x→h'.get? a=some x)(r:OR W h o a):OR W h' o a:=by
 cases o with
 |list vs=>(refine x2a2 r λitems n h1 h2=>?_);exact⟨items,n,e _ h1,h2⟩
 |dict es ep=>(refine x1a2 r λen h1 h2=>?_);exact⟨en,e _ h1,h2⟩
 |inst C d=>(refine x1a2 r λad h1 h2=>?_);exact⟨ad,h1,e _ h2⟩
 |attrs fs=>(refine x2a2 r λen n h1 h2=>?_);exact⟨en,n,e _ h1,h2⟩
 |slots C vs=>(refine x2a3 r λsl ad h1 h2 h3=>?_);exact⟨sl,ad,e _ h1,h2,h3⟩
 |set S n=>(refine x1a2 r λo h1 h2=>?_);exact⟨o,e _ h1,h2⟩
 |liter l k=>(refine x1a2 r λla h1 h2=>?_);exact⟨la,h1,e _ h2⟩
 |dead=>obtain⟨o,h1⟩:=r;exact⟨o,e _ h1⟩
theorem OR.there {W:Wd}{h:Heap}{o:AO}{a:Addr}(r:OR W h o a):∃x,h.get? a=some x:=by
 cases o with
 |list vs=>(refine x2a2 r λitems n h1 h2=>?_);exact⟨_,h1⟩
 |dict es ep=>(refine x1a2 r λen h1 h2=>?_);exact⟨_,h1⟩
 |inst C d=>(refine x1a2 r λad h1 h2=>?_);exact⟨_,h2⟩
 |attrs fs=>(refine x2a2 r λen n h1 h2=>?_);exact⟨_,h1⟩
 |slots C vs=>(refine x2a3 r λsl ad h1 h2 h3=>?_);exact⟨_,h1⟩
 |set S n=>(refine x1a2 r λo h1 h2=>?_);exact⟨_,h1⟩
 |liter l k=>(refine x1a2 r λla h1 h2=>?_);exact⟨_,h2⟩
 |dead=>obtain⟨o,h1⟩:=r;exact⟨_,h1⟩
structure Bx where
 prog:Program
 w:World
 h₀:Heap
 mg:Str→Option Value
 mb:Str→Option Value
 K:W.Frag
structure Cx extends Bx where
 fr:List Env
 calm:Bool:=true
noncomputable def Cx.push (C:Cx)(env:Env):Cx:=⟨C.toBx,env::C.fr,C.calm⟩
structure Cx.Ok (C:Bx):Prop where
 g:C.h₀.Ns mainGlobals C.mg
 b:C.h₀.Ns builtinsNs C.mb
 lim:C.h₀.NoLimit
 k:C.K.In C.h₀
 bb:∀x:Str,x ≠ "__name__" → C.mb x=bootBuiltins x
inductive FrOk (h₀:Heap)(W:Wd)(h:Heap)(env:Env):Prop
 |mk (k:env.scope.kind≠.module) (L:Addr) (e:env.frame=some L) (h1:L∉W.φ) (h2:h₀.get? L=none) (h3:∀q∈W.ι,q.1≠L) (o:Obj) (es:_) (ep:_) (h4:h.get? L=some o) (h5:o.data=.dict es ep):FrOk h₀ W h env
structure Rel (C:Cx)(W:Wd)(σ:List AO)(h:Heap):Prop where
 ok:Cx.Ok C.toBx
 old:∀b o,C.h₀.get? b=some o→h.get? b=some o
 imm:∀p∈W.ι,h.get? p.1=some p.2
 len:W.φ.length=σ.length
 nodup:W.φ.Nodup
 apart:∀p∈W.ι,p.1∉W.φ
 new:∀a∈W.φ,C.h₀.get? a=none
 big:∀a∈W.φ,mainGlobals<a
 objs:∀(i:Nat) (o:AO) (a:Addr),σ[i]?=some o→W.φ[i]?=some a→OR W h o a
 frs:∀env∈C.fr,FrOk C.h₀ W h env
structure Keep (W W':Wd)(π:List Addr)(h h':Heap):Prop where
 le:W.Le W'
 keep:∀b o,h.get? b=some o→b∉W.φ→b∉π→∃sl,h'.get? b=some { o with slots:=sl }∧((∃es ep,o.data=.dict es ep)∨sl=o.slots)
 stay:∀b o,h.get? b=some o→∃o',h'.get? b=some o'
 new:∀a∈W'.φ,a∉W.φ→h.get? a=none
 imm:∀p∈W'.ι,p∈W.ι∨h.get? p.1=none
theorem Keep.of {W W':Wd}{π:List Addr}{h h':Heap}(le:W.Le W')(keep:∀b o,h.get? b=some o→b∉W.φ→b∉π→h'.get? b=some o)(stay:∀b o,h.get? b=some o→∃o',h'.get? b=some o')
  (new:∀a∈W'.φ,a∉W.φ→h.get? a=none) (imm:∀p∈W'.ι,p∈W.ι∨h.get? p.1=none):Keep W W' π h h' :=
 ⟨le,λb o e n1 n2=>⟨o.slots,keep b o e n1 n2,.inr rfl⟩,stay,new,imm⟩
theorem Keep.exact {W W':Wd}{π:List Addr}{h h':Heap}(x:Keep W W' π h h'){b:Addr}{o:Obj}(e:h.get? b=some o)(n1:b∉W.φ)(n2:b∉π)(nd:∀es ep,o.data≠.dict es ep):h'.get? b=some o:=by
 (refine x1a2 (x.keep b o e n1 n2) λsl h1 h2=>?_)
 rcases h2 with⟨es,ep,h2⟩|rfl
 ·exact absurd h2 (nd es ep)
 ·exact h1
theorem Keep.refl (W:Wd)(π:List Addr)(h:Heap):Keep W W π h h:=.of (.refl W) (λu1 u2 e u3 u4=>e) (λu1 o e=>⟨o,e⟩) (λu1 h1 h2=>absurd h1 h2) (λu1 h=>.inl h)
theorem Keep.back {W W':Wd}{π:List Addr}{h h':Heap}(x:Keep W W' π h h'){a:Addr}(e:h'.get? a=none):h.get? a=none:=by
 cases q:h.get? a with
 |none=>rfl
 |some o=>(refine x1a1 (x.stay a o q) λo' e'=>?_);rw[e]at e';exact ns e'
theorem Keep.trans {W W' W'':Wd}{π:List Addr}{h h' h'':Heap}(x:Keep W W' π h h')(y:Keep W' W'' π h' h''):Keep W W'' π h h'':=by
 refine⟨x.le.trans y.le,λb o e n1 n2=>?_,λb o e=>?_,λa h1 h2=>?_,λp hp=>?_⟩
 ·(refine x1a2 (x.keep b o e n1 n2) fun sl h1 h2=>?_)
  have n3:b∉W'.φ:=λq=>by have:=x.new b q n1;rw[e]at this;exact sn this
  (refine x1a2 (y.keep b _ h1 n3 n2) λsl' h3 h4=>?_)
  refine⟨sl',h3,?_⟩
  refine cF h2 (λh2=>?_) λh2=>?_
  ·exact .inl h2
  ·refine cF h4 (λh4=>?_) λh4=>?_
   ·exact .inl h4
   ·exact .inr (h4.trans h2)
 ·obtain⟨o',e'⟩:=x.stay b o e;exact y.stay b o' e'
 ·by_cases q:a∈W'.φ
  ·exact x.new a q h2
  ·exact x.back (y.new a h1 q)
 ·rcases y.imm p hp with q|q
  ·exact x.imm p q
  ·exact .inr (x.back q)
theorem Keep.wide {W W':Wd}{π:List Addr}{h h':Heap}(x:Keep W W' [] h h'):Keep W W' π h h' :=
 ⟨x.le,λb o e n1 u1=>x.keep b o e n1 (by simp),x.stay,x.new,x.imm⟩
theorem Keep.ext {W W':Wd}{π:List Addr}{h h' h'':Heap}{I:Addr}(x:Keep W W' π h h')(hI:h.get? I=none)(e:∀b o,b≠I→h'.get? b=some o→h''.get? b=some o):Keep W W' π h h'':=by
 have hne:∀b o,h.get? b=some o→b≠I:=λb o e q=>by rw[q,hI]at e;exact ns e
 exact⟨x.le,λb o q n1 n2=>x1a2 (x.keep b o q n1 n2) λsl h1 h2=>⟨sl,e b _ (hne b o q) h1,h2⟩,λb o q=>x1a1 (x.stay b o q) λo' q'=>⟨o',e b o' (hne b o q) q'⟩,x.new,x.imm⟩
theorem get?_size (h:Heap):h.get? h.objs.size=none:=by
 cases e:h.get? h.objs.size with
 |none=>rfl
 |some o=>exact absurd (aR e) (bo _)
section
variable {C:Cx}{W:Wd}{σ:List AO}{h h':Heap}
theorem Rel.lim (R:Rel C W σ h):h.NoLimit:=R.ok.lim.keeps R.old
theorem Rel.kin (R:Rel C W σ h):C.K.In h:=R.ok.k.keeps R.old
theorem Rel.oldNe (R:Rel C W σ h){a b:Addr}{o:Obj}(ha:a∈W.φ)(hb:C.h₀.get? b=some o):b≠a:=by
 rintro rfl;have:=R.new _ ha;rw[hb]at this;exact sn this
theorem ij {l:List Addr}{i:Nat}{a:Addr}(h:l[i]?=some a):a∈l:=cU h
theorem Rel.upd (R:Rel C W σ h){i:Nat}{a:Addr}{o:AO}(ha:W.φ[i]?=some a)(hs:Heap.SameBut a h h')(ho:OR W h' o a) :
  Rel C W (σ.set i o) h'∧Keep W W [] h h':=by
 have hm:=ij ha
 refine⟨⟨R.ok,λb x e=>(hs.2 b (R.oldNe hm e)).trans (R.old b x e),λp hp=>(hs.2 p.1 λq=>R.apart p hp (q▸hm)).trans (R.imm p hp),?_,R.nodup,R.apart,R.new,R.big,λj x b e eb=>?_,λenv he=>?_⟩,
  .of (.refl W) (λb x e n u1=>(hs.2 b λq=>n (q▸hm)).trans e) (λb x e=>by
   by_cases q:b=a
   ·exact aw q ho.there
   ·exact⟨x,(hs.2 b q).trans e⟩) (λu1 h1 h2=>absurd h1 h2) (λu1 h=>.inl h)⟩
 ·exact aw cN R.len
 ·by_cases hj:i=j
  ·subst hj
   rw[ha]at eb;obtain rfl:=sj eb
   have hi:=(ap.mp ha).1
   rw[R.len]at hi
   rw[aJ hi]at e;obtain rfl:=sj e
   exact ho
  ·rw[bW hj]at e
   refine(R.objs j x b e eb).same λy hy=>(hs.2 b λq=>hj ?_).trans hy
   subst q
   exact(List.getElem?_inj (ap.mp ha).1 R.nodup).mp (ha.trans eb.symm)
 ·obtain⟨h0,L,h1,h2,h3,h4,o,es,ep,h5,h6⟩:=R.frs env he
  exact⟨h0,L,h1,h2,h3,h4,o,es,ep,(hs.2 L λq=>h2 (q▸hm)).trans h5,h6⟩
theorem Rel.ext (R:Rel C W σ h){π:List Addr}(k:∀b o,h.get? b=some o→b∉π→h'.get? b=some o)(hp:∀p∈π,p∉W.φ∧C.h₀.get? p=none∧∀q∈W.ι,q.1≠p)
  (hd:∀p∈π,∀o es ep,h.get? p=some o→o.data=.dict es ep→∃o' es' ep',h'.get? p=some o'∧o'.data=.dict es' ep'):Rel C W σ h':=by
 refine⟨R.ok,λb x e=>k b x (R.old b x e) (λq=>?_),λp hq=>k _ _ (R.imm p hq) (λq=>(hp _ q).2.2 p hq rfl),R.len,R.nodup,R.apart,R.new,R.big,λi o a e ea=>(R.objs i o a e ea).same λx hx=>k a x hx λq=>(hp _ q).1 (ij ea),λenv he=>?_⟩
 ·have:=(hp _ q).2.1;rw[e]at this;exact sn this
 ·obtain⟨h0,L,h1,h2,h3,h4,o,es,ep,h5,h6⟩:=R.frs env he
  by_cases hL:L∈π
  ·(refine x3a2 (hd L hL o es ep h5 h6) λo' es' ep' q5 q6=>?_)
   exact⟨h0,L,h1,h2,h3,h4,o',es',ep',q5,q6⟩
  ·exact⟨h0,L,h1,h2,h3,h4,o,es,ep,k L o h5 hL,h6⟩
theorem Rel.lt (R:Rel C W σ h){a:Addr}(ha:a∈W.φ):a<h.objs.size:=by
 obtain⟨i,hi,rfl⟩:=bI.mp ha
 have hi':i<σ.length:=R.len▸hi
 (refine x1a1 ((R.objs i _ _ (an hi') (an hi)).there) λx hx=>?_)
 exact aR hx
theorem Rel.fresh (R:Rel C W σ h):h.objs.size∉W.φ:=λq=>bo _ (R.lt q)
theorem Rel.freshOld (R:Rel C W σ h):C.h₀.get? h.objs.size=none:=by
 cases e:C.h₀.get? h.objs.size with
 |none=>rfl
 |some o=>exact absurd (aR (R.old _ _ e)) (bo _)
theorem Rel.pushImm (R:Rel C W σ h)(o:Obj)(hf:o.isFreed=false):Rel C ⟨W.φ,(h.objs.size,o)::W.ι⟩ σ (h.push o)∧Keep W ⟨W.φ,(h.objs.size,o)::W.ι⟩ [] h (h.push o):=by
 have le:W.Le ⟨W.φ,(h.objs.size,o)::W.ι⟩:=⟨⟨[],by simp⟩,λp hp=>af _ hp⟩
 refine⟨⟨R.ok,λb x e=>al _ (R.old b x e),λp hp=>?_,R.len,R.nodup,λp hp=>?_,R.new,R.big,λi x a e ea=>((R.objs i x a e ea).mono le).same λy hy=>al _ hy,λenv he=>?_⟩,
  .of le (λb x e u1 u2=>al _ e) (λb x e=>⟨x,al _ e⟩) (λu1 h1 h2=>absurd h1 h2) (λp hp=>by rcases au.mp hp with rfl|hp;exact .inr (get?_size h);exact .inl hp)⟩
 ·rcases au.mp hp with rfl|hp
  ·exact aF _ hf
  ·exact al _ (R.imm p hp)
 ·rcases au.mp hp with rfl|hp
  ·exact R.fresh
  ·exact R.apart p hp
 ·obtain⟨h0,L,h1,h2,h3,h4,o',es,ep,h5,h6⟩:=R.frs env he
  refine⟨h0,L,h1,h2,h3,λq hq=>?_,o',es,ep,al _ h5,h6⟩
  rcases au.mp hq with rfl|hq
  ·exact bE (aR h5)
  ·exact h4 q hq
theorem Rel.pushObj (R:Rel C W σ h)(o:Obj)(ao:AO)(ho:OR ⟨W.φ++[h.objs.size],W.ι⟩ (h.push o) ao h.objs.size) :
  Rel C ⟨W.φ++[h.objs.size],W.ι⟩ (σ++[ao]) (h.push o)∧Keep W ⟨W.φ++[h.objs.size],W.ι⟩ [] h (h.push o):=by
 have le:W.Le ⟨W.φ++[h.objs.size],W.ι⟩:=⟨⟨_,rfl⟩,λu1 hp=>hp⟩
 refine⟨⟨R.ok,λb x e=>al _ (R.old b x e),λp hp=>al _ (R.imm p hp),by simp[R.len],?_,λp hp q=>?_,λa ha=>?_,λa ha=>?_,λi x a e ea=>?_,λenv he=>?_⟩,
  .of le (λb x e u1 u2=>al _ e) (λb x e=>⟨x,al _ e⟩) (λa h1 h2=>?_) (λu1 h=>.inl h)⟩
 ·rw[b5]
  refine⟨R.nodup,by simp,λa ha b hb=>?_⟩
  exact aw (ac.mp hb) (aL (R.lt ha))
 ·rcases aD.mp q with q|q
  ·exact R.apart p hp q
  ·exact absurd (aR (R.imm p hp)) (by exact aw (ac.mp q) (bo _))
 ·rcases aD.mp ha with q|q
  ·exact R.new a q
  ·exact aw (ac.mp q) R.freshOld
 ·rcases aD.mp ha with q|q
  ·exact R.big a q
  ·refine aw (ac.mp q) ?_
   (refine x3a2 R.ok.g λo u1 u2 ho u3=>?_)
   exact aR (R.old _ _ ho)
 ·by_cases hi:i<σ.length
  ·rw[bd hi]at e
   rw[bd (by refine aw R.len ?_;exact hi)]at ea
   exact((R.objs i x a e ea).mono le).same λy hy=>al _ hy
  ·have hi':i=σ.length:=by
    have:=(ap.mp e).1
    simp at this;lia
   subst hi'
   simp at e;subst e
   rw[←R.len]at ea
   simp at ea;subst ea
   exact ho
 ·obtain⟨h0,L,h1,h2,h3,h4,o',es,ep,h5,h6⟩:=R.frs env he
  refine⟨h0,L,h1,λq=>?_,h3,h4,o',es,ep,al _ h5,h6⟩
  rcases aD.mp q with q|q
  ·exact h2 q
  ·exact aL (aR h5) (ac.mp q)
 ·rcases aD.mp h1 with q|q
  ·exact absurd q h2
  ·exact aw (ac.mp q) (get?_size h)
end
end Mine.Internal
end
section
namespace Mine.Internal
open PySem
structure cA where
 tab:List (Str×NameKind×Nat)
 own:List Str:=[]
 comp:Bool:=false
structure St where
 θ:Nat→Option AV
 σ:List AO
noncomputable def upd (θ:Nat→Option AV)(i:Nat)(a:AV):Nat→Option AV:=λj=>if j=i then some a else θ j
@[simp] theorem zn7 (θ:Nat→Option AV) (i:Nat) (a:AV):upd θ i a i=some a:=by simp [upd]
theorem zn8 (θ:Nat→Option AV){i j:Nat}(a:AV)(h:j≠i):upd θ i a j=θ j:=by simp[upd,h]
noncomputable def priv (Γ:cA)(env:Env):List Addr:=env.locals::Γ.own.filterMap λx=>env.cells.lookup x
structure LR (C:Cx)(Γ:cA)(env:Env)(W:Wd)(θ:Nat→Option AV)(h:Heap):Prop where
 kind:env.scope.kind=.function
 glob:env.globals=mainGlobals
 blt:env.builtins=builtinsNs
 names:∀x,env.kindOf x=(Γ.tab.lookup x).map (λx=>x.1)
 inj:∀x y k k' i,Γ.tab.lookup x=some (k,i)→Γ.tab.lookup y=some (k',i)→x=y
 loc:∃m,h.Ns env.locals m∧∀x i a,Γ.tab.lookup x=some (.local,i)→θ i=some a→∃v,m x=some v∧VR W a v
 cel:∀x k i,Γ.tab.lookup x=some (k,i)→k=.cell∨k=.free→∃c ov,env.cells.lookup x=some c∧c≠env.locals∧h.IsCell c ov∧∀a,θ i=some a→∃v,ov=some v∧VR W a v
 cinj:∀x y c,env.cells.lookup x=some c→env.cells.lookup y=some c→x=y
 out:∀p,(p=env.locals∨∃x,env.cells.lookup x=some p)→p∉W.φ∧C.h₀.get? p=none∧(∀q∈W.ι,q.1≠p)∧∃o,h.get? p=some o
 top:Γ.comp=false→∃r,C.fr=env::r
structure Inv (C:Cx)(Γ:cA)(env:Env)(W:Wd)(st:St)(h:Heap):Prop where
 rel:Rel C W st.σ h
 loc:LR C Γ env W st.θ h
structure AOk (C:Cx)(n:Nat)(A:Around):Prop where
 handled:C.calm=true→A.handled=none
 frames:A.frames=some C.fr
 depth:A.depth+n<recursionLimit
 units:A.units+32*n+96<cLine
theorem AOk.less {C:Cx}{n m:Nat}{A:Around}(x:AOk C n A)(h:m≤n):AOk C m A:=⟨x.handled,x.frames,by have:=x.depth;lia,by have:=x.units;lia⟩
theorem AOk.in1 {C:Cx}{n:Nat}{A:Around}(x:AOk C (n+1) A):AOk C n A.in1:=⟨x.handled,x.frames,by have:=x.depth;simp;lia,by have:=x.units;simp;lia⟩
theorem AOk.deeper {C:Cx}{n:Nat}{A:Around}(x:AOk C (n+1) A)(env:Env):AOk (C.push env) n (A.deeper env) :=
 ⟨x.handled,Around.frames_deeper x.frames,by have:=x.depth;show A.depth+1+n<_;lia,by have:=x.units;simp;lia⟩
theorem f7 {α β:Type}[BEq α][LawfulBEq α]{l:List (α×β)}{x:α}{y:β}(h:l.lookup x=some y):(x,y)∈l:=by
 induction l with
 |nil=>exact ns h
 |cons p r ih=>exact zhq h (λh1 h2=>h1▸h2▸aj) λh=>af _ (ih h)
theorem zvj {C:Cx}{Γ:cA}{env:Env}{W:Wd}{θ:Nat→Option AV}{h:Heap}(L:LR C Γ env W θ h):∀p∈priv Γ env,p∉W.φ∧C.h₀.get? p=none∧(∀q∈W.ι,q.1≠p)∧∃o,h.get? p=some o:=by
 intro p hp
 refine L.out p ?_
 rcases au.mp hp with rfl|hp
 ·exact .inl rfl
 ·(refine x1a2 (bJ.mp hp) λx u1 hx=>?_)
  exact .inr ⟨x,hx⟩
theorem LR.keep' {C:Cx}{Γ:cA}{env:Env}{W W':Wd}{π:List Addr}{θ:Nat→Option AV}{h h':Heap}(L:LR C Γ env W θ h)(k:Keep W W' π h h')(hπ:∀p,(p=env.locals∨∃x,env.cells.lookup x=some p)→p∉π):LR C Γ env W' θ h':=by
 have hk:∀p,(p=env.locals∨∃x,env.cells.lookup x=some p)→∀o,h.get? p=some o→∃sl,h'.get? p=some { o with slots:=sl }:=λp hp o e=>x1a2 (k.keep p o e (L.out p hp).1 (hπ p hp)) λsl h1 u1=>⟨sl,h1⟩
 refine⟨L.kind,L.glob,L.blt,L.names,L.inj,?_,?_,L.cinj,?_,L.top⟩
 ·(refine x1a2 L.loc λm z1 hm=>?_;obtain⟨o,es,ep,ho,r⟩:=z1)
  obtain⟨sl,ho'⟩:=hk _ (.inl rfl) _ ho
  refine⟨m,⟨_,es,ep,ho',r⟩,λx i a h1 h2=>?_⟩
  (refine x1a2 (hm x i a h1 h2) λv hv hr=>?_)
  exact⟨v,hv,hr.mono k.le⟩
 ·intro x kd i h1 h2
  (refine x2a4 (L.cel x kd i h1 h2) λc ov hc hne z4 hv=>?_;obtain⟨o,ho,r⟩:=z4)
  obtain⟨sl,ho'⟩:=hk _ (.inr ⟨x,hc⟩) _ ho
  refine⟨c,ov,hc,hne,⟨_,ho',r⟩,λa ha=>?_⟩
  (refine x1a2 (hv a ha) λv e hr=>?_)
  exact⟨v,e,hr.mono k.le⟩
 ·intro p hp
  (refine x0a4 (L.out p hp) λh1 h2 h3 h4=>?_)
  obtain⟨o4,h4⟩:=h4
  refine⟨λq=>?_,h2,λq hq e=>?_,k.stay p o4 h4⟩
  ·have:=k.new p q h1;rw[h4]at this;exact sn this
  ·rcases k.imm q hq with z|z
   ·exact h3 q z e
   ·rw[e,h4]at z;exact sn z
theorem LR.keep {C:Cx}{Γ:cA}{env:Env}{W W':Wd}{θ:Nat→Option AV}{h h':Heap}(L:LR C Γ env W θ h)(k:Keep W W' [] h h'):LR C Γ env W' θ h':=L.keep' k (by simp)
theorem Inv.keep {C:Cx}{Γ:cA}{env:Env}{W W':Wd}{st:St}{σ':List AO}{h h':Heap}(I:Inv C Γ env W st h)(R:Rel C W' σ' h')(k:Keep W W' [] h h'):Inv C Γ env W' ⟨st.θ,σ'⟩ h':=⟨R,I.loc.keep k⟩
section
variable {α β γ:Type}{C:Cx}{Γ:cA}{env:Env}{W:Wd}{A:Around}{s:Shared}
noncomputable abbrev mv (s:Shared)(h:Heap)(k:Nat×Drawn):Shared:={ s with heap:=h,toks:=k.1,drawn:=k.2 }
noncomputable def Post (C:Cx)(Γ:cA)(env:Env)(W:Wd)(s:Shared)(R:Wd→β→α→Prop)(b:β)(st':St)(Q:α→Shared→Prop):Prop :=
 ∀a W' h' tk,Inv C Γ env W' st' h'→Keep W W' (priv Γ env) s.heap h'→R W' b a→Q a (mv s h' tk)
theorem Post.at {R:Wd→β→α→Prop}{b:β}{Q:α→Shared→Prop}{a:α}(hq:Post C Γ env W s R b st Q)(I:Inv C Γ env W st s.heap)(tk:Nat)(hr:R W b a):Q a { s with toks:=tk }:=hq a W s.heap (tk,s.drawn) I (.refl ..) hr
theorem Post.here {R:Wd→β→α→Prop}{b:β}{Q:α→Shared→Prop}{a:α}(hq:Post C Γ env W s R b st Q)(I:Inv C Γ env W st s.heap)(hr:R W b a):Q a s:=hq a W s.heap (s.toks,s.drawn) I (.refl ..) hr
noncomputable def Run (C:Cx)(Γ:cA)(env:Env)(W:Wd)(A:Around)(s:Shared)(t:Sem α)(out:Option (β×St))(R:Wd→β→α→Prop):Prop :=
 ∀b st',out=some (b,st')→∀(Q:α→Shared→Prop) (E:Value→Shared→Prop),Post C Γ env W s R b st' Q→wpAny (model C.prog C.w) A t Q E s
noncomputable abbrev K (α:Type):=St→Option (α×St)
noncomputable def K.bind (f:K α)(g:α→K β):K β:=λst=>match f st with
 |none=>none
 |some (a,st')=>g a st'
noncomputable def K.ret (a:α):K α:=λst=>some (a,st)
noncomputable def K.fail:K α:=λu1=>.none
@[simp] theorem K.bind_some {f:K α} {g:α→K β} {st st':St} {a:α} (h:f st=some (a,st')):K.bind f g st=g a st':=by simp [K.bind,h]
theorem K.bindE {f:K α}{g:α→K β}{st st':St}{b:β}{P:Prop}(e:K.bind f g st=some (b,st'))(k:∀a st₁,f st=some (a,st₁)→g a st₁=some (b,st')→P):P:=by
 unfold K.bind at e
 cases h:f st with
 |none=>rw[h]at e;exact ns e
 |some p=>rw[h]at e;exact k p.1 p.2 h e
theorem Run.mk1 {t:Sem α}{R:Wd→β→α→Prop}{b:β}{st':St}(h:∀Q E,Post C Γ env W s R b st' Q→wpAny (model C.prog C.w) A t Q E s):Run C Γ env W A s t (some (b,st')) R:=by
 intro b' st'' e Q E hq
 obtain⟨rfl,rfl⟩:=sp e
 exact h Q E hq
theorem Run.stuck {t:Sem α}{R:Wd→β→α→Prop}:Run C Γ env W A s t (none:Option (β×St)) R:=λu1 u2 e=>ns e
theorem Run.now {t:Sem α}{R:Wd→β→α→Prop}{b:β}{st:St}(I:Inv C Γ env W st s.heap){a:α}(tk:Nat)(hr:R W b a)(h:∀Q E,Q a { s with toks:=tk }→wpAny (model C.prog C.w) A t Q E s):Run C Γ env W A s t (some (b,st)) R :=
 .mk1 λQ E hq=>h Q E (hq a W s.heap (tk,s.drawn) I (.refl ..) hr)
theorem Run.omap {t:Sem α}{R:Wd→β→α→Prop}{x:Option γ}{f:γ→β×St}(h:∀y,x=some y→Run C Γ env W A s t (some (f y)) R):Run C Γ env W A s t (x.map f) R:=by
 cases x with
 |none=>exact .stuck
 |some y=>exact h y rfl
theorem Run.obind {t:Sem α}{R:Wd→β→α→Prop}{x:Option γ}{f:γ→Option (β×St)}(h:∀y,x=some y→Run C Γ env W A s t (f y) R):Run C Γ env W A s t (x.bind f) R:=by
 cases x with
 |none=>exact .stuck
 |some y=>exact h y rfl
theorem Run.ite {t:Sem α}{R:Wd→β→α→Prop}{p:Prop}[Decidable p]{o:Option (β×St)}(h:p→Run C Γ env W A s t o R):Run C Γ env W A s t (if p then o else none) R:=by
 by_cases hp:p
 ·exact aw (if_pos hp) (h hp)
 ·exact aw (if_neg hp) (.stuck)
theorem Run.step {δ:Type}{t:Sem α}{t':Sem γ}{k:α→Sem γ}{f:K β}{g:β→K δ}{st:St}{R:Wd→β→α→Prop}{R':Wd→δ→γ→Prop}
  (hw:∀Q E,wpAny (model C.prog C.w) A t (λa s₁=>wpAny (model C.prog C.w) A (k a) Q E s₁) E s→wpAny (model C.prog C.w) A t' Q E s) (h:Run C Γ env W A s t (f st) R)
  (hk:∀b st' a W' h' tk,Inv C Γ env W' st' h'→Keep W W' (priv Γ env) s.heap h'→R W' b a→Run C Γ env W' A (mv s h' tk) (k a) (g b st') R'):Run C Γ env W A s t' (K.bind f g st) R':=by
 intro d st'' e Q E hq
 refine K.bindE e λb st' e1 e2=>hw Q E (h b st' e1 _ E λa W' h' tk I' k' r=>?_)
 exact hk b st' a W' h' tk I' k' r d st'' e2 Q E λc W'' h'' tk' I'' k'' r'=>hq c W'' h'' tk' I'' (k'.trans k'') r'
theorem Run.stepE {δ:Type}{t:Sem α}{t':Sem γ}{S:α→(γ→Shared→Prop)→(Value→Shared→Prop)→Shared→Prop}{f:K β}{g:β→K δ}{st:St}{R:Wd→β→α→Prop}{R':Wd→δ→γ→Prop}
  (hw:∀Q E,wpAny (model C.prog C.w) A t (λa s₁=>S a Q E s₁) E s→wpAny (model C.prog C.w) A t' Q E s) (h:Run C Γ env W A s t (f st) R)
  (hk:∀b st' a W' h' tk,Inv C Γ env W' st' h'→R W' b a→∀d st'',g b st'=some (d,st'')→∀Q E,Post C Γ env W' (mv s h' tk) R' d st'' Q→S a Q E (mv s h' tk)):Run C Γ env W A s t' (K.bind f g st) R':=by
 intro d st'' e Q E hq
 refine K.bindE e λb st' e1 e2=>hw Q E (h b st' e1 _ E λa W' h' tk I' k' r=>?_)
 exact hk b st' a W' h' tk I' r d st'' e2 Q E λc W'' h'' tk' I'' k'' r'=>hq c W'' h'' tk' I'' (k'.trans k'') r'
theorem Run.step2 {δ:Type}{t:Sem α}{k:α→Sem γ}{f:K β}{g:β→K δ}{st:St}{R:Wd→β→α→Prop}{R':Wd→δ→γ→Prop}(h:Run C Γ env W A s t (f st) R)
  (hk:∀b st' a W' h' tk,Inv C Γ env W' st' h'→Keep W W' (priv Γ env) s.heap h'→R W' b a→Run C Γ env W' A (mv s h' tk) (k a) (g b st') R') :
  ∀d st'',K.bind f g st=some (d,st'')→∀Q E,Post C Γ env W s R' d st'' Q→wpAny (model C.prog C.w) A t (λa s₁=>wpAny (model C.prog C.w) A (k a) Q E s₁) E s:=by
 intro d st'' e Q E hq
 refine K.bindE e λb st' e1 e2=>h b st' e1 _ E λa W' h' tk I' k' r=>?_
 exact hk b st' a W' h' tk I' k' r d st'' e2 Q E λc W'' h'' tk' I'' k'' r'=>hq c W'' h'' tk' I'' (k'.trans k'') r'
theorem Run.finE {δ:Type}{t:Sem α}{k:α→γ}{f:K β}{d:β→δ}{st:St}{R:Wd→β→α→Prop}{R':Wd→δ→γ→Prop}
  (h:Run C Γ env W A s t (f st) R) (hr:∀W b a,R W b a→R' W (d b) (k a)):∀d' st'',K.bind f (λb=>K.ret (d b)) st=some (d',st'')→∀Q E,Post C Γ env W s R' d' st'' Q→wpAny (model C.prog C.w) A t (λa s₁=>Q (k a) s₁) E s:=by
 intro d' st'' e Q E hq
 refine K.bindE e λb st' e1 e2=>?_
 obtain⟨rfl,rfl⟩:=sp e2
 exact h b _ e1 _ E λa W' h' tk I' k' r=>hq _ W' h' tk I' k' (hr _ _ _ r)
theorem Run.fin {δ:Type}{t:Sem α}{t':Sem γ}{k:α→γ}{f:K β}{d:β→δ}{st:St}{R:Wd→β→α→Prop}{R':Wd→δ→γ→Prop}
  (hw:∀Q E,wpAny (model C.prog C.w) A t (λa s₁=>Q (k a) s₁) E s→wpAny (model C.prog C.w) A t' Q E s) (h:Run C Γ env W A s t (f st) R) (hr:∀W b a,R W b a→R' W (d b) (k a)):Run C Γ env W A s t' (K.bind f (λb=>K.ret (d b)) st) R' :=
 λd' st'' e Q E hq=>hw Q E (h.finE hr d' st'' e Q E hq)
inductive At (C:Cx)(Γ:cA)(env:Env)(W:Wd)(s:Shared)(P:Wd→St→Heap→Prop):Shared→Prop
 |mk {W₁:Wd} {st₁:St} {h₁:Heap} {tk₁:Nat×Drawn}:Inv C Γ env W₁ st₁ h₁→Keep W W₁ (priv Γ env) s.heap h₁→P W₁ st₁ h₁→At C Γ env W s P (mv s h₁ tk₁)
theorem At.here {P:Wd→St→Heap→Prop}{st:St}(I:Inv C Γ env W st s.heap)(h:P W st s.heap):At C Γ env W s P s:=.mk (tk₁:=(s.toks,s.drawn)) I (.refl ..) h
end
structure Ev (C:Cx)(n:Nat)(Γ:cA)(e:Expr)(f:K AV):Prop where
 run:∀A env W st s,AOk C n A→Inv C Γ env W st s.heap→Run C Γ env W A s (eval e env) (f st) VR
structure Te (C:Cx)(n:Nat)(Γ:cA)(e:Expr)(f:K Bool):Prop where
 run:∀A env W st s,AOk C n A→Inv C Γ env W st s.heap→Run C Γ env W A s (isTrue e env (eval e env)) (f st) λu1 a b=>a=b
inductive Fl where
 |next|brk|cont
 |ret (v:AV)
inductive FR (W:Wd):Fl→Flow→Prop
 |next:FR W .next .next
 |brk:FR W .brk .brk
 |cont:FR W .cont .cont
 |ret {a v}:VR W a v→FR W (.ret a) (.ret v)
structure Ex (C:Cx)(n:Nat)(Γ:cA)(e:Stmt)(f:K Fl):Prop where
 run:∀A env W st s,AOk C n A→Inv C Γ env W st s.heap→Run C Γ env W A s (exec e env) (f st) FR
structure Exs (C:Cx)(n:Nat)(Γ:cA)(e:List Stmt)(f:K Fl):Prop where
 run:∀A env W st s,AOk C n A→Inv C Γ env W st s.heap→Run C Γ env W A s (execs e env) (f st) FR
end Mine.Internal
end
section
namespace Mine.Internal
open PySem PyProof.Rows
theorem K.bind_iff {α β:Type}{f:K α}{g:α→K β}{st st':St}{b:β}:K.bind f g st=some (b,st')↔∃a st₁,f st=some (a,st₁)∧g a st₁=some (b,st') :=
 ⟨λe=>K.bindE e λa st₁ h1 h2=>⟨a,st₁,h1,h2⟩,λzz=>x2a2 zz λa st₁ h1 h2=>by refine aw (K.bind_some h1) ?_;exact h2⟩
noncomputable def AV.int?:AV→Option Int
 |.int x=>some x
 |_=>Option.none
noncomputable def AV.str?:AV→Option Str
 |.str x=>some x
 |_=>Option.none
noncomputable def AV.oid:AV→Option Nat
 |.obj i=>some i
 |_=>Option.none
noncomputable def AV.tup?:AV→Option (List AV)
 |.tup vs=>some vs
 |_=>Option.none
noncomputable def AV.isN:AV→Bool
 |.none=>true
 |_=>false
section
variable {C:Cx}{n:Nat}{Γ:cA}{env:Env}{W:Wd}{A:Around}{s:Shared}{st:St}
theorem Ev.int {i k pos}:Ev C n Γ (.Constant (.int i) k pos) (K.ret (.int i)):=⟨λA env W st s ok I=>.now I _ (.int i _) λQ E h=>wpAny_Constant_int h⟩
theorem Ev.str {x k pos}:Ev C n Γ (.Constant (.str x) k pos) (K.ret (.str x)):=⟨λA env W st s ok I=>.now I _ (.str x _) λQ E h=>wpAny_Constant_str h⟩
theorem Ev.noneC {k pos}:Ev C n Γ (.Constant .none k pos) (K.ret .none):=⟨λA env W st s ok I=>.now I _ .none λQ E h=>wpAny_Constant_none h⟩
theorem Ev.boolC {b k pos}:Ev C n Γ (.Constant (.bool b) k pos) (K.ret (.bool b)):=⟨λA env W st s ok I=>.now I _ (.bool b) λQ E h=>wpAny_Constant_bool h⟩
noncomputable def getv (i:Nat):K AV:=λst=>(st.θ i).map λa=>(a,st)
theorem getv_iff {i:Nat}{st st':St}{a:AV}:getv i st=some (a,st')↔st.θ i=some a∧st'=st:=by
 simp only[getv]
 cases st.θ i<;>simp[eq_comm]
theorem Ev.loc {x pos i}(h:Γ.tab.lookup x=some (.local,i))(hd:(x==("__debug__" : Str))=false):Ev C n Γ (.Name x pos) (getv i) :=
 ⟨λA env W st s ok I=>.omap λr e=>by
  (refine x1a2 I.loc.loc λm hm hv=>?_)
  (refine x1a2 (hv x i r h e) λv hv hr=>?_)
  exact .now I s.toks hr λQ E hq=>wpAny_Name (wpAny_loadName_local I.loc.kind (by rw[I.loc.names,h];rfl) hm hv hq) hd⟩
theorem Ev.cell {x pos i}(h:Γ.tab.lookup x=some (.cell,i))(hd:(x==("__debug__" : Str))=false):Ev C n Γ (.Name x pos) (getv i) :=
 ⟨λA env W st s ok I=>.omap λr e=>by
  (refine x2a4 (I.loc.cel x _ i h (.inl rfl)) λc ov hc u1 hcell hv=>?_)
  (refine x1a2 (hv r e) λv z1 hr=>?_;subst z1)
  exact .now I s.toks hr λQ E hq=>wpAny_Name (wpAny_loadName_cell I.loc.kind (by rw[I.loc.names,h];rfl) hc hcell hq) hd⟩
theorem Rel.globals {σ:List AO}{h:Heap}(R:Rel C W σ h):h.Ns mainGlobals C.mg:=R.ok.g.keeps R.old
theorem Rel.builtins {σ:List AO}{h:Heap}(R:Rel C W σ h):h.Ns builtinsNs C.mb:=R.ok.b.keeps R.old
theorem Ev.glob {x pos i}{v:Value}{a:AV}(hv:C.mg x=some v)(h:Γ.tab.lookup x=some (.globalImplicit,i))(hr:∀W,VR W a v)(hd:(x==("__debug__" : Str))=false):Ev C n Γ (.Name x pos) (K.ret a) :=
 ⟨λA env W st s ok I=>.now I s.toks (hr W) λQ E hq=>Calls.Name_function_global I.loc.kind (by rw[I.loc.names,h];rfl) (Calls.loadGlobal_global (by refine aw I.loc.glob ?_;exact I.rel.globals) hv hq) hd⟩
theorem Ev.blt {x pos i}{v:Value}(hm:C.mg x=none)(hv:C.mb x=some v)(h:Γ.tab.lookup x=some (.globalImplicit,i))(hd:(x==("__debug__" : Str))=false):Ev C n Γ (.Name x pos) (K.ret (.val v)) :=
 ⟨λA env W st s ok I=>.now I s.toks (.val v) λQ E hq=>Calls.Name_function_global I.loc.kind (by rw[I.loc.names,h];rfl) (Calls.loadGlobal_builtin (by refine aw I.loc.glob ?_;exact I.rel.globals) hm (by refine aw I.loc.blt ?_;exact I.rel.builtins) hv hq) hd⟩
theorem Ev.gk {x pos i}{v:Value}{a:AV}(e:PySem.W.nsIn C.K mainGlobals x=some (some v))(h:Γ.tab.lookup x=some (.globalImplicit,i))(hr:∀W,VR W a v)(hd:(x==("__debug__" : Str))=false):Ev C n Γ (.Name x pos) (K.ret a) :=
 ⟨λA env W st s ok I=>(Ev.glob (PySem.W.mg_of I.rel.ok.k I.rel.ok.g e) h hr hd).run A env W st s ok I⟩
theorem Ev.bk {x pos i}{v:Value}(e:PySem.W.nsIn C.K mainGlobals x=some none)(hv:bootBuiltins x=some v)(h:Γ.tab.lookup x=some (.globalImplicit,i))(hd:(x==("__debug__" : Str))=false) (hn:(x==("__name__" : Str))=false):Ev C n Γ (.Name x pos) (K.ret (.val v)) :=
 ⟨λA env W st s ok I=>(Ev.blt (PySem.W.mg_none_of I.rel.ok.k I.rel.ok.g e) ((I.rel.ok.bb x (by intro q;rw[q]at hn;exact tf hn)).trans hv) h hd).run A env W st s ok I⟩
noncomputable def VRx (W:Wd):AV→(Value→Prop)→Prop
 |.none,P=>P .none
 |.bool b,P=>P (.bool b)
 |.int i,P=>∀t,P (.int i t)
 |.str x,P=>∀t,P (.str x t)
 |.tup vs,P=>∀l items n,(l,({ cls:=.type "tuple", data:=.seq items n }:Obj))∈W.ι→VRs W vs items.toList→P (.ref l)
 |.lst vs,P=>∀l items n,(l,({ cls:=.type "list", data:=.seq items n }:Obj))∈W.ι→VRs W vs items.toList→P (.ref l)
 |.obj i,P=>∀l,W.φ[i]?=some l→P (.ref l)
 |.val v,P=>P v
 |.rng x c n,P=>∀r b t u v,(r,({ cls:=.type "range", data:=.fields #[.int x t,.int b u,.int c v] }:Obj))∈W.ι→Builtin.Range.small x b c=true→Builtin.Range.rangeSize x b c=n→P (.ref r)
 |.nxt i,P=>∀x m,W.φ[i]?=some x→(m,({ cls:=.type "method-wrapper", data:=.fields #[.builtin "list_iterator.__next__", .ref x] }:Obj))∈W.ι→P (.ref m)
theorem VR.inv {a:AV}{v:Value}(h:VR W a v){P:Value→Prop}(k:VRx W a P):P v :=
 VR.casesOn (motive_1:=λa v u1=>VRx W a P→P v) h id (λu1=>id) (λu1 t k=>k t) (λu1 t k=>k t) (λh1 h2 k=>k _ _ _ h1 h2) (λh1 h2 k=>k _ _ _ h1 h2) (λh1 k=>k _ h1) (λu1=>id) (λh1 h2 h3 k=>k _ _ _ _ _ h1 h2 h3) (λh1 h2 k=>k _ _ h1 h2) k
theorem AV.int_of {a:AV}{x:Int}(e:a.int?=some x):a=.int x:=by cases a<;>first|exact ns e|exact congrArg _ (sj e)
theorem AV.str_of {a:AV}{x:Str}(e:a.str?=some x):a=.str x:=by cases a<;>first|exact ns e|exact congrArg _ (sj e)
theorem AV.obj_of {a:AV}{x:Nat}(e:a.oid=some x):a=.obj x:=by cases a<;>first|exact ns e|exact congrArg _ (sj e)
theorem AV.tup_of {a:AV}{x:List AV}(e:a.tup?=some x):a=.tup x:=by cases a<;>first|exact ns e|exact congrArg _ (sj e)
theorem AV.none_of {a:AV}(e:a.isN=true):a=.none:=by cases a<;>first|rfl|exact ft e
noncomputable def AV.val?:AV→Option Value
 |.val v=>some v
 |_=>Option.none
theorem AV.val_of {a:AV}{x:Value}(e:a.val?=some x):a=.val x:=by cases a<;>first|exact ns e|exact congrArg _ (sj e)
theorem VR.valE {a:AV}{v w:Value}(h:VR W a v)(e:a.val?=some w):v=w:=h.inv (P:=λv=>v=w) (AV.val_of e▸rfl)
@[elab_as_elim] theorem VR.intE {a:AV} {v:Value} {x:Int} {P:Value→Prop} (h:VR W a v) (e:a.int?=some x) (k:∀t,P (.int x t)):P v:=h.inv (AV.int_of e▸k)
@[elab_as_elim] theorem VR.strE {a:AV} {v:Value} {x:Str} {P:Value→Prop} (h:VR W a v) (e:a.str?=some x) (k:∀t,P (.str x t)):P v:=h.inv (AV.str_of e▸k)
@[elab_as_elim] theorem VR.objE {a:AV} {v:Value} {i:Nat} {P:Value→Prop} (h:VR W a v) (e:a.oid=some i) (k:∀l,W.φ[i]?=some l→P (.ref l)):P v:=h.inv (AV.obj_of e▸k)
@[elab_as_elim] theorem VR.tupE {a:AV} {v:Value} {vs:List AV} {P:Value→Prop} (h:VR W a v) (e:a.tup?=some vs) (k:∀l items n,(l,({ cls:=.type "tuple", data:=.seq items n }:Obj))∈W.ι→VRs W vs items.toList→P (.ref l)):P v:=h.inv (AV.tup_of e▸k)
@[elab_as_elim] theorem VR.lstE {a:AV} {v:Value} {vs:List AV} {P:Value→Prop} (h:VR W a v) (e:a=.lst vs) (k:∀l items n,(l,({ cls:=.type "list", data:=.seq items n }:Obj))∈W.ι→VRs W vs items.toList→P (.ref l)):P v:=h.inv (e▸k)
@[elab_as_elim] theorem VR.rngE {a:AV} {v:Value} {x c:Int} {n:Nat} {P:Value→Prop} (h:VR W a v) (e:a=.rng x c n) (k:∀r b t u v,(r,({ cls:=.type "range", data:=.fields #[.int x t,.int b u,.int c v] }:Obj))∈W.ι→Builtin.Range.small x b c=true→Builtin.Range.rangeSize x b c=n→P (.ref r)):P v:=h.inv (e▸k)
@[elab_as_elim] theorem VRs.nilE {vs:List Value} {P:List Value→Prop} (h:VRs W [] vs) (k:P []):P vs:=by cases h; exact k
@[elab_as_elim] theorem VRs.consE {a:AV} {as:List AV} {vs:List Value} {P:List Value→Prop} (h:VRs W (a::as) vs) (k:∀v vs,VR W a v→VRs W as vs→P (v::vs)):P vs:=by
 cases h with|cons h r=>exact k _ _ h r
@[elab_as_elim] theorem VRs.oneE {a:AV} {vs:List Value} {P:List Value→Prop} (h:VRs W [a] vs) (k:∀v,VR W a v→P [v]):P vs:=h.consE fun v vs h r=>r.nilE (P:=fun vs=>P (v::vs)) (k v h)
@[elab_as_elim] theorem VRs.twoE {a b:AV} {vs:List Value} {P:List Value→Prop} (h:VRs W [a,b] vs) (k:∀v w,VR W a v→VR W b w→P [v,w]):P vs:=h.consE fun v vs h r=>r.oneE (P:=fun vs=>P (v::vs)) fun w h2=>k v w h h2
noncomputable def d7 (σ:List AO)(i:Nat):Option (List AV):=match σ[i]? with
 |some (.list vs)=>some vs
 |_=>none
theorem eR {σ:List AO}{i:Nat}{vs:List AV}(h:σ[i]?=some (.list vs)):d7 σ i=some vs:=by unfold d7;exact aw h rfl
theorem zta {σ:List AO}{i:Nat}{vs:List AV}(e:d7 σ i=some vs):σ[i]?=some (.list vs):=by
 unfold d7 at e
 cases h:σ[i]? with
 |none=>rw[h]at e;exact ns e
 |some o =>
  rw[h]at e
  cases o<;>cases e
  rfl
noncomputable def fA (a:AV)(st:St):Option (List AV):=match a with
 |.lst vs=>some vs
 |.obj i=>d7 st.σ i
 |_=>none
theorem lstE {σ:List AO}{h:Heap}(R:Rel C W σ h){i:Nat}{l:Addr}(hi:W.φ[i]?=some l){vs:List AV}(e:d7 σ i=some vs){P:Prop}
  (k:∀items n,h.get? l=some { cls:=.type "list", data:=.seq items n }→VRs W vs items.toList→vs.length=items.size→P):P:=by
 (refine x2a2 (R.objs _ _ _ (zta e) hi) λitems n h1 h2=>?_)
 exact k items n h1 h2 h2.length
@[elab_as_elim] theorem fX {a:AV} {v:Value} {vs:List AV} {h:Heap} (R:Rel C W st.σ h) (hv:VR W a v) (e:fA a st=some vs) {P:Value→Prop}
  (k:∀l items n,h.get? l=some { cls:=.type "list", data:=.seq items n }→VRs W vs items.toList→vs.length=items.size→P (.ref l)):P v:=by
 cases hv with
 |lst h1 h4=>obtain rfl:=sj e;exact k _ _ _ (R.imm _ h1) h4 h4.length
 |obj hi=>exact lstE R hi e λitems n=>k _ items n
 |_=>exact ns e
theorem fF {h:Heap}{l:Addr}{items:Array Value}{n:Nat}(e:h.get? l=some { cls:=.type "list", data:=.seq items n }):h.IsList l items:=⟨_,e,rfl,n,rfl⟩
@[elab_as_elim] theorem tupE {a:AV} {v:Value} {vs:List AV} {σ:List AO} {h:Heap} (R:Rel C W σ h) (hv:VR W a v) (e:a.tup?=some vs) {P:Value→Prop}
  (k:∀l items n,h.get? l=some { cls:=.type "tuple", data:=.seq items n }→VRs W vs items.toList→vs.length=items.size→P (.ref l)):P v :=
 hv.tupE e λl items n h1 h2=>k l items n (R.imm _ h1) h2 h2.length
theorem iH {h:Heap}{l:Addr}{items:Array Value}{n:Nat}(e:h.get? l=some { cls:=.type "tuple", data:=.seq items n }):IsTup h l items:=⟨_,e,rfl,n,rfl⟩
noncomputable def binI (op:Operator)(x y:Int):Option Int:=match op with
 |.Add=>some (x+y)
 |.Sub=>some (x-y)
 |.Mult=>if Builtin.Int.intBits x≤64 then some (x*y)else none
 |.Mod=>if y≠0 then some (x.fmod y)else none
 |.FloorDiv=>if y≠0∧y.natAbs<2^64 then some (x.fdiv y)else none
 |.RShift=>if 0≤y then some (x.fdiv (2^y.toNat))else none
 |_=>none
noncomputable def binK (op:Operator)(a b:AV):K AV:=λst=>a.int?.bind λx=>b.int?.bind λy=>(binI op x y).map λz=>(.int z,st)
theorem zjv {x y:Int}(h:y.natAbs<2^64):Builtin.divisionGoesByPylong x y=false:=by
 unfold Builtin.divisionGoesByPylong
 simp only[Bool.and_eq_false_iff]
 left
 simp only[decide_eq_false_iff_not,bl]
 split
 ·lia
 ·rename_i hy
  have:y.natAbs.log2<64:=by
   rw[Nat.log2_lt (by simpa using hy)];exact h
  lia
@[elab_as_elim] theorem gN {α:Type} {p:Prop} [Decidable p] {x y:α} {P:α→Prop} (e:(if p then some x else none)=some y) (k:p→P x):P y:=by
 by_cases h:p
 ·rw[if_pos h]at e;obtain rfl:=sj e;exact k h
 ·rw[if_neg h]at e;exact ns e
@[elab_as_elim] theorem mapE {α β:Type} {x:Option α} {f:α→β} {b:β} {P:β→Prop} (e:x.map f=some b) (k:∀a,x=some a→P (f a)):P b:=by
 cases x with
 |none=>exact ns e
 |some a=>obtain rfl:=sj e;exact k a rfl
@[elab_as_elim] theorem bindE {α β:Type} {x:Option α} {f:α→Option β} {b:β} {P:β→Prop} (e:x.bind f=some b) (k:∀a,x=some a→f a=some b→P b):P b:=by
 cases x with
 |none=>exact ns e
 |some a=>exact k a rfl e
theorem im {α:Type}{p:Prop}[Decidable p]{x:Option α}{y:α}{P:Prop}(e:(if p then x else none)=some y)(k:p→x=some y→P):P:=by
 by_cases h:p
 ·rw[if_pos h]at e;exact k h e
 ·rw[if_neg h]at e;exact ns e
@[elab_as_elim] theorem eH {α:Type} {x y:α} {P:α→Prop} (e:some x=some y) (k:P x):P y:=br e▸k
theorem zq5 {op:Operator}{x y z:Int}{t u:Tok}{s:Shared}{Q E:Value→Shared→Prop}(e:binI op x y=some z)(hq:∀tk w,Q (.int z w) { s with toks:=tk }):wpAny (model C.prog C.w) A (binaryOp op (.int x t) (.int y u)) Q E s:=by
 revert hq
 cases op with
 |Add=>exact eH e λhq=>add_int (hq _ _)
 |Sub=>exact eH e λhq=>sub_int (hq _ _)
 |Mult=>exact gN e λh hq=>mul_int (hq _ _) (.of_left h)
 |Mod=>exact gN e λh hq=>mod_int h (hq _ _)
 |FloorDiv=>exact gN e λh hq=>floordiv_int h.1 (hq _ _) (.inl (zjv h.2))
 |RShift=>exact gN e λh hq=>rshift_int h (hq _ _)
 |_=>exact ns e
theorem zq4 {op:Operator}{a b:AV}{va vb:Value}(I:Inv C Γ env W st s.heap)(ha:VR W a va)(hb:VR W b vb):Run C Γ env W A s (binaryOp op va vb) (binK op a b st) VR :=
 .obind λx hx=>.obind λy hy=>.omap λz hz=>ha.intE (P:=λva=>Run C Γ env W A s (binaryOp op va vb) _ VR) hx λt=>hb.intE (P:=λvb=>Run C Γ env W A s (binaryOp op _ vb) _ VR) hy λu =>
  .mk1 λQ E hq=>zq5 hz λtk w=>hq.at I tk (.int z w)
noncomputable def isNone:AV→Option Bool
 |.none=>some true
 |.bool _ | .int _ | .str _ | .tup _ | .lst _ | .obj _ | .rng _ _ _ | .nxt _=>some false
 |.val _=>none
noncomputable def cmpI (op:CmpOp)(x y:Int):Option Bool:=match op with
 |.Lt=>some (decide (x<y))
 |.Gt=>some (decide (y<x))
 |.Eq=>some (x==y)
 |.NotEq=>some (x != y)
 |.LtE=>some (decide (x≤y))
 |.GtE=>some (decide (y≤x))
 |_=>none
noncomputable def cmpK (op:CmpOp)(a b:AV):K AV:=λst=>match op with
 |.Is=>if b.isN=true then(isNone a).map λc=>(.bool c,st)else none
 |.IsNot=>if b.isN=true then(isNone a).map λc=>(.bool (!c),st)else none
 |op=>a.int?.bind λx=>b.int?.bind λy=>(cmpI op x y).map λc=>(.bool c,st)
theorem zgk {a:AV}{v:Value}{b:Bool}(hv:VR W a v)(e:isNone a=some b):plainIs v .none=true∧(v==.none)=b :=
 hv.inv (P:=λv=>plainIs v .none=true∧(v==.none)=b) (by
  cases a<;>first|exact ns e|exact⟨rfl,sj e⟩|exact λu1=>⟨rfl,sj e⟩|exact λu1 u2=>⟨rfl,sj e⟩|exact λu1 u2 u3 u4 u5=>⟨rfl,sj e⟩|exact λu1 u2 u3 u4=>⟨rfl,sj e⟩|exact λu1 u2 u3 u4 u5 u6 u7 u8=>⟨rfl,sj e⟩)
@[elab_as_elim] theorem VR.noneE {a:AV} {v:Value} {P:Value→Prop} (h:VR W a v) (e:a.isN=true) (k:P .none):P v:=h.inv (AV.none_of e▸k)
theorem zqx {op:CmpOp}{x y:Int}{c:Bool}{t u:Tok}{s:Shared}{Q E:Value→Shared→Prop}(e:cmpI op x y=some c)(hq:Q (.bool c) s):wpAny (model C.prog C.w) A (compareOp op (.int x t) (.int y u)) Q E s:=by
 revert hq
 cases op with
 |Lt=>exact eH e lt_int
 |Gt=>exact eH e gt_int
 |Eq=>exact eH e eq_int
 |NotEq=>exact eH e ne_int
 |LtE=>exact eH e le_int
 |GtE=>exact eH e ge_int
 |_=>exact ns e
theorem zqw {op:CmpOp}{a b:AV}{va vb:Value}(I:Inv C Γ env W st s.heap)(ha:VR W a va)(hb:VR W b vb):Run C Γ env W A s (compareOp op va vb) (cmpK op a b st) VR:=by
 have gen:∀op,Run C Γ env W A s (compareOp op va vb) (a.int?.bind λx=>b.int?.bind λy=>(cmpI op x y).map λc=>(.bool c,st)) VR:=λop =>
  .obind λx hx=>.obind λy hy=>.omap λc hc=>ha.intE (P:=λva=>Run C Γ env W A s (compareOp op va vb) _ VR) hx λt=>hb.intE (P:=λvb=>Run C Γ env W A s (compareOp op _ vb) _ VR) hy λu =>
   .mk1 λQ E hq=>zqx hc (hq.here I (.bool c))
 cases op with
 |Is=>exact .ite λhb'=>.omap λc hc=>hb.noneE (P:=λvb=>Run C Γ env W A s (compareOp .Is va vb) _ VR) hb' (.mk1 λQ E hq=>let ⟨h1,h2⟩:=zgk ha hc;wpAny_is_plain h1 (h2▸hq.here I (.bool _)))
 |IsNot=>exact .ite λhb'=>.omap λc hc=>hb.noneE (P:=λvb=>Run C Γ env W A s (compareOp .IsNot va vb) _ VR) hb' (.mk1 λQ E hq=>let ⟨h1,h2⟩:=zgk ha hc;wpAny_isNot_plain h1 (h2▸hq.here I (.bool _)))
 |_=>exact gen _
noncomputable def iW (a:AV):K Bool:=λst=>match a with
 |.bool b=>some (b,st)
 |.none=>some (false,st)
 |.int i=>some (i != 0,st)
 |a=>(fA a st).bind λvs=>if vs.length<2^62 then some (!vs.isEmpty,st)else none
end
end Mine.Internal
end
section
namespace Mine.Internal
open PySem PyProof.Rows
noncomputable def SayN (W:Wd)(Γ:cA)(k:NameKind)(θ:Nat→Option AV)(m:Str→Option Value):Prop:=∀y j a,Γ.tab.lookup y=some (k,j)→θ j=some a→∃v,m y=some v∧VR W a v
theorem SayN.other {W:Wd}{Γ:cA}{k k':NameKind}{θ:Nat→Option AV}{m:Str→Option Value}{x:Str}{i:Nat}{a:AV}(hinj:∀x y k k' i,Γ.tab.lookup x=some (k,i)→Γ.tab.lookup y=some (k',i)→x=y)
  (h:SayN W Γ k θ m) (hx:Γ.tab.lookup x=some (k',i)) (hk:k'≠k):SayN W Γ k (upd θ i a) m:=λy j b hy hb=>h y j b hy ((zn8 θ a (λq=>by
 have:=hinj _ _ _ _ _ (q▸hy) hx
 rw[this,hx]at hy
 exact hk (Prod.mk.inj (br hy)).1)).symm.trans hb)
theorem SayN.same {W:Wd}{Γ:cA}{k:NameKind}{θ:Nat→Option AV}{m m':Str→Option Value}{x:Str}{i:Nat}{a:AV}{v:Value}(hinj:∀x y k k' i,Γ.tab.lookup x=some (k,i)→Γ.tab.lookup y=some (k',i)→x=y)
  (h:SayN W Γ k θ m) (hx:Γ.tab.lookup x=some (k,i)) (hv:VR W a v) (h1:m' x=some v) (h2:∀y,y≠x→m' y=m y):SayN W Γ k (upd θ i a) m':=λy j b hy hb=>by
 by_cases hxy:y=x
 ·rw[hxy,hx]at hy
  cases hy
  rw[zn7]at hb
  obtain rfl:=sj hb
  exact⟨v,hxy▸h1,hv⟩
 ·refine aw (h2 y hxy) ?_
  exact h y j b hy ((zn8 θ a (λq=>hxy (hinj _ _ _ _ _ (q▸hy) hx))).symm.trans hb)
theorem SayN.new {W:Wd}{Γ:cA}{k:NameKind}{θ:Nat→Option AV}{m m':Str→Option Value}{x:Str}(h:SayN W Γ k θ m)(hx:Γ.tab.lookup x=none)(h2:∀y,y≠x→m' y=m y):SayN W Γ k θ m':=λy j b hy hb=>by
 rw[h2 y (λq=>by rw[q,hx]at hy;exact ns hy)]
 exact h y j b hy hb
section
variable {C:Cx}{n:Nat}{Γ:cA}{env:Env}{W:Wd}{A:Around}{s:Shared}{st:St}
theorem zc1 {a:AV}{v:Value}(I:Inv C Γ env W st s.heap)(ha:VR W a v):Run C Γ env W A s (truthy v) (iW a st) λu1 a b=>a=b:=by
 have key:Run C Γ env W A s (truthy v) ((fA a st).bind λvs=>if vs.length<2^62 then some (!vs.isEmpty,st)else none) λu1 a b=>a=b :=
  .obind λvs e=>.ite λhlt=>fX I.rel ha e λl items n hl u1 hlen=>.mk1 λQ E hq =>
   wpAny_truthy_list (fF hl) (by lia) (by
    have e:(!items.isEmpty)=!vs.isEmpty:=by simp only[Array.isEmpty,←hlen];cases vs<;>rfl
    refine aw e ?_
    exact hq.at I _ rfl)
 cases a with
 |none=>exact ha.noneE rfl (.now I s.toks rfl λQ E h=>truthy_none h)
 |bool b=>cases ha;exact .now I s.toks rfl λQ E h=>wpAny_truthy_bool h
 |int i=>exact ha.intE rfl λt=>.now I s.toks rfl λQ E h=>truthy_int h
 |_=>exact key
theorem Te.val {e:Expr}{f:K AV}(he:Ev C n Γ e f)(hs:∀env whole,isTrue e env whole=(do let v ←whole;standAt e.pos;holding [v] (truthy v))):Te C n Γ e (K.bind f iW) :=
 ⟨λA env W st s ok I=>.step (λQ E h=>wpAny_isTrue_value h (hs _ _)) (he.run A env W st s ok I) λa st₁ va W1 h1 tk1 I1 k1 v1=>zc1 I1 v1⟩
theorem Te.not {x:Expr}{pos:Pos}{f:K Bool}(h:Te C n Γ x f):Te C n Γ (.UnaryOp .Not x pos) (K.bind f λb=>K.ret (!b)) :=
 ⟨λA env W st s ok I=>.fin (λQ E h=>wpAny_isTrue_Not h) (h.run A env W st s ok I) λu1 u2 u3 h=>congrArg _ h⟩
structure Tes (C:Cx)(n:Nat)(Γ:cA)(op:BoolOp)(es:List Expr)(f:K Bool):Prop where
 run:∀A env W st s,AOk C n A→Inv C Γ env W st s.heap→Run C Γ env W A s (allTrue op es env) (f st) λu1 a b=>a=b
theorem Tes.and0:Tes C n Γ .And [] (K.ret true):=⟨λA env W st s ok I=>.now I s.toks rfl λQ E h=>wpAny_allTrue_And_nil h⟩
theorem Tes.or0:Tes C n Γ .Or [] (K.ret false):=⟨λA env W st s ok I=>.now I s.toks rfl λQ E h=>wpAny_allTrue_Or_nil h⟩
theorem Post.now {α β:Type}{R:Wd→β→α→Prop}{b b':β}{st st':St}{Q:α→Shared→Prop}{a:α}{h':Heap}{tk:Nat×Drawn}(I:Inv C Γ env W st h')(e:some (b,st)=some (b',st'))(hr:R W b a)(hq:Post C Γ env W (mv s h' tk) R b' st' Q):Q a (mv s h' tk):=by
 obtain⟨rfl,rfl⟩:=sp e
 exact hq a W h' tk I (.refl ..) hr
theorem Tes.and {x:Expr}{r:List Expr}{f g:K Bool}(h:Te C n Γ x f)(hr:Tes C n Γ .And r g):Tes C n Γ .And (x::r) (K.bind f λb=>if b then g else K.ret false) :=
 ⟨λA env W st s ok I=>.stepE (λQ E h=>wpAny_allTrue_And_cons h) (h.run A env W st s ok I) λa st₁ b W1 h1 tk1 I1 v1=>by
  subst v1
  cases a with
  |true=>exact hr.run A env W1 st₁ _ ok I1
  |false=>exact λd st2 e Q E hq=>hq.now I1 e rfl⟩
theorem Tes.or {x:Expr}{r:List Expr}{f g:K Bool}(h:Te C n Γ x f)(hr:Tes C n Γ .Or r g):Tes C n Γ .Or (x::r) (K.bind f λb=>if b then K.ret true else g) :=
 ⟨λA env W st s ok I=>.stepE (λQ E h=>wpAny_allTrue_Or_cons h) (h.run A env W st s ok I) λa st₁ b W1 h1 tk1 I1 v1=>by
  subst v1
  cases a with
  |false=>exact hr.run A env W1 st₁ _ ok I1
  |true=>exact λd st2 e Q E hq=>hq.now I1 e rfl⟩
theorem Te.all {op:BoolOp}{es:List Expr}{pos:Pos}{f:K Bool}(h:Tes C n Γ op es f):Te C n Γ (.BoolOp op es pos) f :=
 ⟨λA env W st s ok I v st' e Q E hq=>wpAny_isTrue_BoolOp (h.run A env W st s ok I v st' e Q E hq)⟩
theorem Ev.ifx {t b o:Expr}{pos:Pos}{f:K Bool}{g k:K AV}(ht:Te C n Γ t f)(hb:Ev C n Γ b g)(ho:Ev C n Γ o k):Ev C n Γ (.IfExp t b o pos) (K.bind f λc=>if c then g else k) :=
 ⟨λA env W st s ok I=>.stepE (λQ E h=>wpAny_IfExp h) (ht.run A env W st s ok I) λa st₁ b W1 h1 tk1 I1 v1=>by
  subst v1
  cases a with
  |true=>exact hb.run A env W1 st₁ _ ok I1
  |false=>exact ho.run A env W1 st₁ _ ok I1⟩
noncomputable def negK (a:AV):K AV:=λst=>a.int?.map λi=>(.int (-i),st)
theorem Ev.neg {x:Expr}{pos:Pos}{f:K AV}(h:Ev C n Γ x f):Ev C n Γ (.UnaryOp .USub x pos) (K.bind f negK) :=
 ⟨λA env W st s ok I=>.step (λQ E h=>wpAny_UnaryOp h) (h.run A env W st s ok I) λa st₁ va W1 h1 tk1 I1 k1 v1=>.omap λi hi=>v1.intE hi λt=>.mk1 λQ E hq=>neg_int (Post.at (s:=mv s h1 tk1) hq I1 _ (.int ..))⟩
noncomputable def setv (i:Nat)(a:AV):K Unit:=λst=>some ((),⟨upd st.θ i a,st.σ⟩)
theorem Ns.lt' {h:Heap}{a:Addr}{m:Str→Option Value}(x:h.Ns a m):∃o,h.get? a=some o:=x3a2 x λo u1 u2 ho u3=>⟨o,ho⟩
theorem Inv.privKeep {p:Addr}{h h':Heap}(I:Inv C Γ env W st h)(hp:p∈priv Γ env)(hs:Heap.SameBut p h h')(ht:∃o,h'.get? p=some o)
  (hd:∀o es ep,h.get? p=some o→o.data=.dict es ep→∃o' es' ep',h'.get? p=some o'∧o'.data=.dict es' ep'):Rel C W st.σ h'∧Keep W W (priv Γ env) h h':=by
 have k:Keep W W (priv Γ env) h h':=.of (.refl W) (λb o e u1 n2=>(hs.2 b λq=>n2 (q▸hp)).trans e) (λb o e=>by
  by_cases q:b=p
  ·exact aw q ht
  ·exact⟨o,(hs.2 b q).trans e⟩) (λu1 h1 h2=>absurd h1 h2) (λu1 h=>.inl h)
 refine⟨I.rel.ext (π:=[p]) (λb o e n=>(hs.2 b λq=>n (by simp[q])).trans e) (λq hq=>?_) (λq hq=>?_),k⟩
 ·refine aw (ac.mp hq) ?_
  (refine x0a4 (zvj I.loc p hp) λh1 h2 h3 u1=>?_)
  exact⟨h1,h2,h3⟩
 ·exact aw (ac.mp hq) hd
theorem Ns.dict {h:Heap}{a:Addr}{m:Str→Option Value}(x:h.Ns a m):∃o es ep,h.get? a=some o∧o.data=.dict es ep:=x3a3 x λo es ep ho hd u1=>⟨o,es,ep,ho,hd⟩
theorem zfg {x:Str}{i:Nat}{a:AV}{v:Value}(hx:Γ.tab.lookup x=some (.local,i))(I:Inv C Γ env W st s.heap)(hv:VR W a v) :
  Run C Γ env W A s (storeName env x v) (setv i a st) λu1 u2 u3=>True:=.mk1 λQ E hq=>by
 have L:=I.loc
 refine am L.loc λm hm=>wpAny_storeName_local (by rw[L.names,hx];rfl) hm.1 (λh' hn' hs'=>?_) (by refine aw L.kind ?_;rfl)
 have X:=I.privKeep (h':=h') (p:=env.locals) aj hs' (Ns.lt' hn') (λu1 u2 u3 u4 u5=>Ns.dict hn')
 refine hq () W h' (_,s.drawn) ⟨X.1,⟨L.kind,L.glob,L.blt,L.names,L.inj,⟨_,hn',SayN.same L.inj hm.2 hx hv (if_pos rfl) λy hy=>if_neg hy⟩,λy k j hy hk=>?_,L.cinj,λp hp=>?_,L.top⟩⟩ X.2 trivial
 ·(refine x2a4 (L.cel y k j hy hk) λc ov h1 h2 h3 h4=>?_)
  refine⟨c,ov,h1,h2,h3.sameBut hs' h2,λb hb=>h4 b ((zn8 st.θ a λq=>?_).symm.trans hb)⟩
  subst q
  have:=L.inj _ _ _ _ _ hy hx;subst this
  rw[hx]at hy
  exact hk.elim (λq=>by rw[q]at hy;cases hy) λq=>by rw[q]at hy;cases hy
 ·have h:=L.out p hp
  exact⟨h.1,h.2.1,h.2.2.1,am h.2.2.2 λo e=>X.2.stay p o e⟩
theorem zpz {x:Str}{i:Nat}{a:AV}{v:Value}(hx:Γ.tab.lookup x=some (.cell,i))(ho:x∈Γ.own)(I:Inv C Γ env W st s.heap)(hv:VR W a v) :
  Run C Γ env W A s (storeName env x v) (setv i a st) λu1 u2 u3=>True:=.mk1 λQ E hq=>by
 have L:=I.loc
 (refine x2a4 (L.cel x _ i hx (.inl rfl)) λc ov hc hne hcell hov=>?_)
 refine wpAny_storeName_cell L.kind (by rw[L.names,hx];rfl) hc hcell (λh' hc' hs'=>?_)
 have X:=I.privKeep (h':=h') (p:=c) (af _ (bJ.mpr ⟨x,ho,hc⟩)) hs' (x1a2 hc' λo h1 u1=>⟨o,h1⟩) (λo es ep e1 e2=>by(refine x1a2 hcell λo' h1 h2=>?_);rw[h1]at e1;obtain rfl:=sj e1;rw[h2]at e2;cases e2)
 refine hq () W h' (s.toks,s.drawn) ⟨X.1,⟨L.kind,L.glob,L.blt,L.names,L.inj,am L.loc λm hm=>⟨m,hm.1.sameBut hs' (cG hne),SayN.other L.inj hm.2 hx (λq=>nomatch q)⟩,λy k j hy hk=>?_,L.cinj,λp hp=>?_,L.top⟩⟩ X.2 trivial
 ·by_cases hxy:y=x
  ·subst hxy
   rw[hx]at hy;obtain⟨rfl,rfl⟩:=sp hy
   exact⟨c,some v,hc,hne,hc',λb hb=>⟨v,rfl,br ((zn7 st.θ i a).symm.trans hb)▸hv⟩⟩
  ·(refine x2a4 (L.cel y k j hy hk) λd ov' h1 h2 h3 h4=>?_)
   exact⟨d,ov',h1,h2,h3.sameBut hs' (λq=>hxy (L.cinj _ _ _ h1 (q▸hc))),λb hb=>h4 b ((zn8 st.θ a (λq=>hxy (L.inj _ _ _ _ _ (q▸hy) hx))).symm.trans hb)⟩
 ·have h:=L.out p hp
  exact⟨h.1,h.2.1,h.2.2.1,am h.2.2.2 λo e=>X.2.stay p o e⟩
structure Sto (C:Cx)(Γ:cA)(x:Str)(i:Nat):Prop where
 run:∀A env W st s a v,Inv C Γ env W st s.heap→VR W a v→Run C Γ env W A s (storeName env x v) (setv i a st) λu1 u2 u3=>True
theorem Sto.loc {x:Str}{i:Nat}(hx:Γ.tab.lookup x=some (.local,i)):Sto C Γ x i:=⟨λu1 u2 u3 u4 u5 u6 u7 I hv=>zfg hx I hv⟩
theorem Sto.cell {x:Str}{i:Nat}(hx:Γ.tab.lookup x=some (.cell,i))(ho:x∈Γ.own):Sto C Γ x i:=⟨λu1 u2 u3 u4 u5 u6 u7 I hv=>zpz hx ho I hv⟩
structure As (C:Cx)(n:Nat)(Γ:cA)(t:Expr)(f:AV→K Unit):Prop where
 run:∀A env W st s a v,AOk C n A→Inv C Γ env W st s.heap→VR W a v→Run C Γ env W A s (assign t env v) (f a st) λu1 u2 u3=>True
theorem As.name {x:Str}{i:Nat}{pos:Pos}(h:Sto C Γ x i):As C n Γ (.Name x pos) (setv i) :=
 ⟨λA env W st s a v u1 I hv r st' e Q E hq=>wpAny_assign_Name (h.run A env W st s a v I hv r st' e Q E hq)⟩
theorem Ex.assign {x:Str}{pos' pos:Pos}{value:Expr}{i:Nat}{f:K AV}(h:Ev C n Γ value f)(hx:Sto C Γ x i)(hs:∀env,swapsWith value (some (.Name x pos')) pos.line env=pure false) :
  Ex C n Γ (.Assign [.Name x pos'] value pos) (K.bind f λa=>K.bind (setv i a) λu1=>K.ret .next) :=
 ⟨λA env W st s ok I=>.stepE (λQ E h=>wpAny_Assign_Name h (hs env)) (h.run A env W st s ok I) λa st₁ va W1 h1 tk1 I1 v1 =>
  Run.finE (k:=λu1=>Flow.next) (R':=FR) (hx.run A env W1 st₁ _ a va I1 v1) λu1 u2 u3 u4=>.next⟩
theorem Ex.expr {e:Expr}{pos:Pos}{f:K AV}(h:Ev C n Γ e f)(hs:∀env,swapsWith e none pos.line env=pure false):Ex C n Γ (.Expr e pos) (K.bind f λu1=>K.ret .next) :=
 ⟨λA env W st s ok I=>.fin (k:=λu1=>Flow.next) (λQ E h=>wpAny_Expr_any h (by unfold interactive;refine aw I.loc.kind ?_;rfl) (hs env)) (h.run A env W st s ok I) λu1 u2 u3 u4=>.next⟩
theorem Ex.brk {pos:Pos}:Ex C n Γ (.Break pos) (K.ret .brk):=⟨λA env W st s ok I=>.now I s.toks .brk λQ E h=>wpAny_Break h⟩
theorem Ex.cont {pos:Pos}:Ex C n Γ (.Continue pos) (K.ret .cont):=⟨λA env W st s ok I=>.now I s.toks .cont λQ E h=>wpAny_Continue h⟩
theorem Ex.ret {e:Expr}{pos:Pos}{f:K AV}(h:Ev C n Γ e f):Ex C n Γ (.Return (some e) pos) (K.bind f λa=>K.ret (.ret a)) :=
 ⟨λA env W st s ok I=>.fin (λQ E h=>wpAny_Return_some h) (h.run A env W st s ok I) λu1 u2 u3 h=>.ret h⟩
theorem Ex.ite {t:Expr}{b o:List Stmt}{pos:Pos}{f:K Bool}{g k:K Fl}(ht:Te C n Γ t f)(hb:Exs C n Γ b g)(ho:Exs C n Γ o k):Ex C n Γ (.If t b o pos) (K.bind f λc=>if c then g else k) :=
 ⟨λA env W st s ok I=>.stepE (λQ E h=>wpAny_If h) (ht.run A env W st s ok I) λa st₁ b W1 h1 tk1 I1 v1=>by
  subst v1
  cases a with
  |true=>exact hb.run A env W1 st₁ _ ok I1
  |false=>exact ho.run A env W1 st₁ _ ok I1⟩
theorem Exs.nil:Exs C n Γ [] (K.ret .next):=⟨λA env W st s ok I=>.now I s.toks .next λQ E h=>wpAny_execs_nil h⟩
noncomputable def zx8 (f:K Fl)(g:K Fl):K Fl:=K.bind f λfl=>match fl with
 |.next=>g
 |fl=>K.ret fl
theorem Exs.cons {x:Stmt}{r:List Stmt}{f g:K Fl}(h:Ex C n Γ x f)(hr:Exs C n Γ r g):Exs C n Γ (x::r) (zx8 f g) :=
 ⟨λA env W st s ok I=>.stepE (λQ E h=>wpAny_execs_cons h) (h.run A env W st s ok I) λa st₁ b W1 h1 tk1 I1 v1=>by
  cases v1 with
  |next=>exact hr.run A env W1 st₁ _ ok I1
  |brk=>exact λd st2 e Q E hq=>hq.now I1 e .brk
  |cont=>exact λd st2 e Q E hq=>hq.now I1 e .cont
  |ret hv=>exact λd st2 e Q E hq=>hq.now I1 e (.ret hv)⟩
noncomputable def gI (t:K Bool)(b o:K Fl):Nat→K Fl
 |0=>K.fail
 |N+1=>K.bind t λc=>if c then K.bind b λfl=>(match fl with
   |.next | .cont=>gI t b o N
   |.brk=>K.ret .next
   |.ret v=>K.ret (.ret v))else o
theorem zhb {t:K Bool}{b o:K Fl}{r:Fl×St}:∀{N M:Nat} {st:St},gI t b o N st=some r→N≤M→gI t b o M st=some r:=by
 intro N
 induction N with
 |zero=>exact ns
 |succ N ih =>
  intro M st h hl
  cases M with
  |zero=>exact absurd hl (Nat.not_succ_le_zero _)
  |succ M =>
   refine K.bindE (b:=r.1) (st':=r.2) h λc st₁ e1 e=>(K.bind_some e1).trans ?_
   cases c with
   |false=>exact e
   |true =>
    refine K.bindE (b:=r.1) (st':=r.2) e λfl st₂ e2 e=>(K.bind_some e2).trans ?_
    cases fl with
    |next=>exact ih e (di hl)
    |cont=>exact ih e (di hl)
    |brk=>exact e
    |ret v=>exact e
open Classical in
noncomputable def zn4 (t:K Bool)(b o:K Fl):K Fl:=λst=>if h:∃N r,gI t b o N st=some r then some h.choose_spec.choose else none
theorem whileW_iff {t:K Bool}{b o:K Fl}{st:St}{r:Fl×St}:zn4 t b o st=some r↔∃N,gI t b o N st=some r:=by
 unfold zn4
 constructor
 ·intro e
  split at e
  ·rename_i h
   obtain rfl:=sj e
   exact⟨_,h.choose_spec.choose_spec⟩
  ·exact ns e
 ·rintro⟨N,e⟩
  have h:∃N r,gI t b o N st=some r:=⟨N,r,e⟩
  refine aw (dif_pos h) ?_
  have h2:=h.choose_spec.choose_spec
  have a1:=zhb e (Nat.le_max_left N h.choose)
  have a2:=zhb h2 (Nat.le_max_right N h.choose)
  rw[a1]at a2
  exact a2.symm
theorem Ex.while {t:Expr}{b o:List Stmt}{pos:Pos}{f:K Bool}{g k:K Fl}(ht:Te C n Γ t f)(hb:Exs C n Γ b g)(ho:Exs C n Γ o k):Ex C n Γ (.While t b o pos) (zn4 f g k):=by
 refine⟨λA env W st s ok I v st' e Q E hq=>?_⟩
 refine am (whileW_iff.mp e) λN e=>?_
 refine wpAny_While (codeAny_whileLoop (λm s₁=>At C Γ env W s (λu1 st₁ u2=>gI f g k m st₁=some (v,st')) s₁) ?_ N (.here I e))
 clear e I
 intro m s₁ a
 cases a with
 |mk I₁ k₁ e =>
  cases m with
  |zero=>exact ns e
  |succ m =>
   refine K.bindE e λc st₂ e1 e=>ht.run A env _ _ _ ok I₁ c st₂ e1 _ _ λc' W2 h2 tk2 I2 k2 v2=>?_
   subst v2
   replace k₁:=k₁.trans k2
   clear I₁ e1 k2
   cases c with
   |false=>exact ho.run A env W2 st₂ _ ok I2 _ _ e _ _ λfl W3 h3 tk3 I3 k3 v3=>hq fl W3 h3 tk3 I3 (k₁.trans k3) v3
   |true =>
    refine K.bindE e λfl st₃ e2 e=>hb.run A env W2 st₂ _ ok I2 fl st₃ e2 _ _ λfl' W3 h3 tk3 I3 k3 v3=>?_
    replace k₁:=k₁.trans k3
    clear I2 e2 k3
    cases v3 with
    |next=>exact⟨m,aQ m,I3,k₁,e⟩
    |cont=>exact⟨m,aQ m,I3,k₁,e⟩
    |brk=>obtain⟨rfl,rfl⟩:=sp e;exact hq _ W3 h3 tk3 I3 k₁ .next
    |ret hv=>obtain⟨rfl,rfl⟩:=sp e;exact hq _ W3 h3 tk3 I3 k₁ (.ret hv)
end
end Mine.Internal
end
section
namespace Mine.Internal
open PySem PyProof.Rows PySem.W
noncomputable def Fn (C:Cx)(n:Nat)(f:Value)(F:List AV→List AO→Option (AV×List AO)):Prop :=
 ∀A Wd σ (s:Shared) args vs,AOk C n A→Rel C Wd σ s.heap→VRs Wd args vs→∀r σ',F args σ=some (r,σ')→∀(Q:Value→Shared→Prop) (E:Value→Shared→Prop),
  (∀v W' h' tk,Rel C W' σ' h'→Keep Wd W' [] s.heap h'→VR W' r v→Q v (mv s h' tk))→wpAny (model C.prog C.w) A (call f vs) Q E s
noncomputable def Cal (C:Cx)(n:Nat)(Γ:cA)(f:Value)(F:List AV→K AV):Prop :=
 ∀A env Wd st (s:Shared) args vs,AOk C n A→Inv C Γ env Wd st s.heap→VRs Wd args vs→Run C Γ env Wd A s (call f vs) (F args st) VR
noncomputable def zng (F:List AV→List AO→Option (AV×List AO))(args:List AV):K AV:=λst=>(F args st.σ).map λp=>(p.1,⟨st.θ,p.2⟩)
section
variable {C:Cx}{n:Nat}{Γ:cA}{env:Env}{Wd:Wd}{A:Around}{s:Shared}{st:St}
theorem Cal.fn {f:Value}{F}(h:Fn C n f F):Cal C n Γ f (zng F):=λA env W st s args vs ok I hv=>.omap λp e1=>.mk1 λQ E hq =>
 h A W st.σ s args vs ok I.rel hv p.1 p.2 e1 Q E λv W' h' tk R k hr=>hq v W' h' tk (I.keep R k) k.wide hr
noncomputable def Callee (C:Cx)(f:Value):Prop:=∀M h,(∀b o,C.h₀.get? b=some o→h.get? b=some o)→∃k,Looks M h (keeperOf f) k
theorem Callee.builtin {id:String}:Callee C (.builtin id):=λu1 u2 u3=>⟨.machine,dp rfl⟩
theorem Callee.type {T:String}:Callee C (.type T):=λu1 u2 u3=>⟨.machine,dp rfl⟩
theorem Callee.k {a:Addr}(x:C.K.In C.h₀)(h:keepIn C.K (.ref a)=true):Callee C (.ref a):=λM h' hk=>by
 (refine x1a2 (keeps_K (M:=M) h h' (x.keeps hk)) λk u1 hl=>?_)
 exact⟨k,hl⟩
theorem zbz {M:Model}{f:Value}{first:List Value}{pos:Pos}{E:Value→Shared→Prop}{Q:Value→Shared→Prop}{P:Heap→Prop}{args:List (Bool×Sem Value)}{keywords:List (Option Str×Sem Value)}
  (hk:∀h,P h→∃k,Looks M h (keeperOf f) k)
  (h:wpAny M A (evalArgs f true args keywords) (λa s₁=>P s₁.heap∧wpAny M A (call f (first++a.pos) a.kw) Q E s₁) E s):wpAny M A (callWith pos f first args keywords) Q E s:=by
 unfold callWith
 refine aa (aV (bm h (λa s₁ h₁=>aa (bO ?_)) λu1 u2 x=>x))
 (refine x1a1 (hk _ h₁.1) λk L=>?_)
 refine aa (L.here ?_)
 have tail:∀{t:Sem Value},wpAny M A t Q E s₁→wpAny M A (t >>= λr=>holding [r] point >>= λu1=>pure r) Q E s₁ :=
  λht=>aa (bm ht (λr s₂ hr=>aa (aV (wpAny_point (ai hr)))) λu1 u2 x=>x)
 have marked (mk:Value):wpAny M A (callMarked mk f (first++a.pos) a.kw) Q E s₁:=by unfold callMarked;exact Calls.wpAny_keep h₁.2
 cases hs:(args.any (λx=>x.1)||keywords.any (λx=>x.1.isNone))<;>cases k<;>dsimp only <;>
  first|exact tail h₁.2|exact tail (marked _)|exact tail (wpAny_operating h₁.2)|(split<;>first|exact tail h₁.2|exact tail (marked _))
structure Eas (C:Cx)(n:Nat)(Γ:cA)(args:List Expr)(f:K (List AV)):Prop where
 run:∀pos A env Wd st s,AOk C n A→Inv C Γ env Wd st s.heap→Run C Γ env Wd A s (spliced (backTo pos (starEach args env))) (f st) VRs
theorem Eas.nil:Eas C n Γ [] (K.ret []):=⟨λpos A env W st s ok I=>.now I s.toks .nil λQ E h=>Calls.spliced_nil h⟩
theorem Eas.cons {e:Expr}{r:List Expr}{f:K AV}{g:K (List AV)}(h:Ev C n Γ e f)(hr:Eas C n Γ r g)(he:∀env,starEach (e::r) env=(false,eval e env)::starEach r env) :
  Eas C n Γ (e::r) (K.bind f λa=>K.bind g λas=>K.ret (a::as)) :=
 ⟨λpos A env W st s ok I v st' e Q E hq=>K.bindE e λa st₁ e1 e=>K.bindE e λas st₂ e2 e=>by
  obtain⟨rfl,rfl⟩:=sp e
  exact wpAny_items_cons (h.run A env W st s ok I _ _ e1 _ _ λva W1 h1 tk1 I1 k1 v1=>hr.run pos A env W1 st₁ _ ok I1 _ _ e2 _ _ λvs W2 h2 tk2 I2 k2 v2=>hq _ W2 h2 tk2 I2 (k1.trans k2) (.cons (v1.mono k2.le) v2)) (he env)⟩
structure Ear (C:Cx)(n:Nat)(Γ:cA)(args:List Expr)(kws:List Keyword)(f:K (List AV×List (Str×AV))):Prop where
 run:∀pos fv A env Wd st s,AOk C n A→Inv C Γ env Wd st s.heap→Run C Γ env Wd A s (evalArgs fv true (backTo pos (starEach args env)) (backToKw pos (keywordEach kws env))) (f st)
  λW p a=>VRs W p.1 a.pos∧a.kw.map (λx=>x.1)=p.2.map (λx=>x.1)∧VRs W (p.2.map (λx=>x.2)) (a.kw.map (λx=>x.2))
noncomputable def fj:Expr→Bool
 |.Starred ..=>true
 |_=>false
noncomputable def lone:List Expr→Bool
 | [e]=>fj e
 |_=>false
theorem zdq (e:Expr)(r:List Expr)(env:Env):∃t,starEach (e::r) env=(fj e,t)::starEach r env∧(fj e=false→t=eval e env):=by
 cases e with
 |Starred=>exact⟨_,rfl,tf⟩
 |_=>exact⟨_,rfl,λu1=>rfl⟩
theorem ze1 {e:Expr}{r:List Expr}{env:Env}(h:fj e=false):starEach (e::r) env=(false,eval e env)::starEach r env :=
 am (zdq e r env) λt q=>by exact aw q.1 (aw h (aw (q.2 h) rfl))
noncomputable def z06:List (Bool×Sem Value)→Bool
 | [(b,_)]=>b
 |_=>false
theorem zfr {args:List Expr}{env:Env}{pos:Pos}(h:lone args=false):z06 (backTo pos (starEach args env))=false:=by
 cases args with
 |nil=>rfl
 |cons e r =>
  refine am (zdq e r env) λt q=>?_
  refine aw q.1 ?_
  cases r with
  |nil=>exact h
  |cons e' r=>exact am (zdq e' r env) λt' q'=>by refine aw q'.1 ?_;rfl
theorem zbg {M:Model}{fv:Value}{Q:Args→Shared→Prop}{E:Value→Shared→Prop}{l:List (Bool×Sem Value)}{kws:List (Option Str×Sem Value)}(hl:z06 l=false)(hk:kws.all (λx=>x.1.isSome)=true)
  (h:wpAny M A (spliced l) (λps s₁=>wpAny M A (evalAll (kws.map (λx=>x.2))) (λks s₂=>Q ⟨ps,(kws.filterMap (λx=>x.1)).zip ks⟩ s₂) E s₁) E s):wpAny M A (evalArgs fv true l kws) Q E s:=by
 have fin:wpAny M A (spliced l >>= λps=>holding (ps++(none:Option Value).toList) (do
   if (kws.all (λx=>x.1.isSome))then
    let kw:=(kws.filterMap (λx=>x.1)).zip (←evalAll (kws.map (λx=>x.2)))
    return ⟨←(pure ps:Sem (List Value)),kw⟩
   let d ←mergedKeywords fv kws
   let ps ←(pure ps:Sem (List Value))
   return ⟨ps,←holding (.ref d::ps) (keywordsIn fv d)⟩)) Q E s:=by
  refine aa (bm h (λvs s' h'=>aV ?_) λu1 u2 x=>x)
  refine aw hk ?_
  exact aa (bm h' (λks s'' hh=>aa (ai (ai hh))) λu1 u2 x=>x)
 clear h
 cases l with
 |nil=>exact fin
 |cons p r =>
  obtain⟨b,x⟩:=p
  cases r with
  |nil=>subst hl;exact fin
  |cons q r=>cases b<;>exact fin
theorem Ear.plain {args:List Expr}{f:K (List AV)}(h:Eas C n Γ args f)(hl:lone args=false):Ear C n Γ args [] (K.bind f λas=>K.ret (as,[])) :=
 ⟨λpos fv A env W st s ok I=>.fin (k:=λvs=>⟨vs,[]⟩) (λQ E h=>zbg (zfr hl) rfl (bm h (λu1 u2 h=>ai h) λu1 u2 x=>x)) (h.run pos A env W st s ok I) λu1 u2 u3 h=>⟨h,rfl,.nil⟩⟩
theorem Ev.call {x:Str}{np pos:Pos}{args:List Expr}{f:Value}{g:K (List AV)}{F:List AV→K AV}(hf:Ev C n Γ (.Name x np) (K.ret (.val f)))(hc:Callee C f)(ha:Eas C n Γ args g)(hl:lone args=false)(hF:Cal C n Γ f F) :
  Ev C n Γ (.Call (.Name x np) args [] pos) (K.bind g F):=by
 refine⟨λA env W st s ok I v st' e Q E hq=>?_⟩
 refine wpAny_Call_ofName (hf.run A env W st s ok I _ _ rfl _ _ λfv W0 h0 tk0 I0 k0 v0=>?_)
 cases v0
 refine zbz (P:=λh=>∀b o,C.h₀.get? b=some o→h.get? b=some o) (hc _) (zbg (zfr hl) rfl ?_)
 refine K.bindE e λas st₁ e1 e=>ha.run pos A env W0 st (mv s h0 tk0) ok I0 as st₁ e1 _ _ λvs W1 h1 tk1 I1 k1 hp=>ai ⟨I1.rel.old,?_⟩
 exact hF A env W1 st₁ (mv s h1 tk1) as vs ok I1 hp v st' e _ _ λr W2 h2 tk2 I2 k2 v2=>hq r W2 h2 tk2 I2 (k0.trans (k1.trans k2)) v2
end
end Mine.Internal
end
section
namespace Mine.Internal
open PySem PyProof.Rows PySem.W
noncomputable def numb:Nat→List (Str×NameKind)→List (Str×NameKind×Nat)
 |_,[]=>[]
 |i,(x,k)::r=>(x,k,i)::numb (i+1) r
noncomputable def d8 (sc:Scope):cA:={ tab:=numb 0 sc.names,own:=(sc.names.filter (·.2==.cell)).map (λx=>x.1) }
theorem zew (x:Str):∀(l:List (Str×NameKind)) (i:Nat),((numb i l).lookup x).map (λx=>x.1)=l.lookup x
 | [],_=>rfl
 |(y,k)::r,i=>by
  simp only[numb,bM]
  cases x==y with
  |true=>rfl
  |false=>exact zew x r (i+1)
theorem zyx {x:Str}{k:NameKind}{j:Nat}{l:List (Str×NameKind)}{i:Nat}(h:(numb i l).lookup x=some (k,j)):i≤j:=by
 induction l generalizing i with
 |nil=>exact ns h
 |cons p r ih=>exact zhq (k:=p.1) (v:=(p.2,i)) (r:=numb (i+1) r) h (λu1 e=>bj (pj e).2) λh=>dW (ih h)
theorem zjt {x y:Str}{k k':NameKind}{j:Nat}{l:List (Str×NameKind)}{i:Nat}(h:(numb i l).lookup x=some (k,j))(h':(numb i l).lookup y=some (k',j)):x=y:=by
 induction l generalizing i with
 |nil=>exact ns h
 |cons p r ih =>
  have no:∀{x:Str} {k k':NameKind},(p.2,i)=(k,j)→(numb (i+1) r).lookup x=some (k',j)→False:=λe h=>dB _ ((pj e).2▸zyx h)
  exact zhq (k:=p.1) (v:=(p.2,i)) (r:=numb (i+1) r) h (λe1 e2=>zhq (k:=p.1) (v:=(p.2,i)) (r:=numb (i+1) r) h' (λe3 u1=>e1.trans e3.symm) λh'=>(no (x:=y) e2 h').elim)
   λh=>zhq (k:=p.1) (v:=(p.2,i)) (r:=numb (i+1) r) h' (λu1 e2=>(no (x:=x) e2 h).elim) λh'=>ih h h'
theorem zfb {x:Str}(l:List (Str×NameKind)):∀(n:Nat) (acc:List (Str×Addr)),(acc.lookup x).isSome=true∨(x,NameKind.cell)∈l→((cellsFrom n l acc).lookup x).isSome=true:=by
 induction l with
 |nil =>
  intro _ _ h
  exact h.elim id λq=>nomatch q
 |cons zp r ih =>
  obtain⟨y,k⟩:=zp
  intro n acc h
  unfold cellsFrom
  split
  ·refine ih _ _ ?_
   rcases h with h|h
   ·left
    simp only[bM]
    cases x==y
    ·exact h
    ·rfl
   ·rcases au.mp h with e|h
    ·left
     cases e
     simp[bM]
    ·exact .inr h
  ·rename_i hk
   refine ih _ _ ?_
   rcases h with h|h
   ·exact .inl h
   ·rcases au.mp h with e|h
    ·cases e;exact absurd rfl hk
    ·exact .inr h
noncomputable def θbind (Γ:cA):List (Str×AV)→(Nat→Option AV)→Nat→Option AV
 | [],θ=>θ
 |(x,a)::r,θ=>θbind Γ r (match Γ.tab.lookup x with|some (_,i)=>upd θ i a|none=>θ)
inductive BindsR (W:Wd):List (Str×AV)→List (Str×Value)→Prop
 |nil:BindsR W [] []
 |cons {x a v r r'}:VR W a v→BindsR W r r'→BindsR W ((x,a)::r) ((x,v)::r')
theorem BindsR.mono {W W':Wd}(x:W.Le W'){a b}(h:BindsR W a b):BindsR W' a b:=by
 induction h with
 |nil=>exact .nil
 |cons h _ ih=>exact .cons (h.mono x) ih
theorem BindsR.names {W:Wd}{a b}(h:BindsR W a b):b.map (λx=>x.1)=a.map (λx=>x.1):=by
 induction h with
 |nil=>rfl
 |cons _ _ ih=>simp[ih]
theorem θbind_ok {W:Wd}{Γ:cA}{kindOf:Str→Option NameKind}(hk:∀x,kindOf x=(Γ.tab.lookup x).map (λx=>x.1))(hinj:∀x y k k' i,Γ.tab.lookup x=some (k,i)→Γ.tab.lookup y=some (k',i)→x=y){ab vb}(h:BindsR W ab vb) :
  ∀(θ:Nat→Option AV) (m cm:Str→Option Value),SayN W Γ .local θ m→SayN W Γ .cell θ cm→SayN W Γ .local (θbind Γ ab θ) (bindL kindOf vb m)∧SayN W Γ .cell (θbind Γ ab θ) (bindC kindOf vb cm):=by
 induction h with
 |nil=>exact λu1 u2 u3 h1 h2=>⟨h1,h2⟩
 | @cons x a v r r' hv _ ih =>
  intro θ m cm h1 h2
  unfold θbind bindL bindC
  have kx:=hk x
  cases hx:Γ.tab.lookup x with
  |none =>
   rw[hx]at kx
   refine aw kx ?_
   exact ih _ _ _ h1 (h2.new hx λy hy=>if_neg hy)
  |some p =>
   obtain⟨k,i⟩:=p
   rw[hx]at kx
   simp only[kx]
   by_cases hkl:k=.local
   ·subst hkl
    exact ih _ _ _ (h1.same hinj hx hv (if_pos rfl) λy hy=>if_neg hy) (h2.other hinj hx (λq=>nomatch q))
   ·have e:∀{α:Type} (f g:α),(if (Option.map (λx=>x.1) (some (k,i))=some NameKind.local)then f else g)=g:=λf g=>if_neg (λq=>hkl (br q))
    simp only[e,e]
    refine ih _ _ _ (h1.other hinj hx hkl) ?_
    by_cases hkc:k=.cell
    ·subst hkc
     exact h2.same hinj hx hv (if_pos rfl) λy hy=>if_neg hy
    ·exact λy j b hy hb=>by
      have hne:y≠x:=λq=>by rw[q,hx]at hy;obtain⟨rfl,rfl⟩:=sp hy;exact hkc rfl
      exact am (h2.other hinj hx hkc y j b hy hb) λv' q=>⟨v',(if_neg hne).trans q.1,q.2⟩
noncomputable def FnK (C:Cx)(n:Nat)(f:Value)(F:List AV→List (Str×AV)→List AO→Option (AV×List AO)):Prop :=
 ∀A Wd σ (s:Shared) args kws vs kvs,AOk C n A→Rel C Wd σ s.heap→VRs Wd args vs→BindsR Wd kws kvs→∀r σ',F args kws σ=some (r,σ')→∀(R:Result→Shared→Prop),
  (∀v W' h' tk,Rel C W' σ' h'→Keep Wd W' [] s.heap h'→VR W' r v→R (.ok (.ret v)) (mv s h' tk))→codeAny (model C.prog C.w) A (.call f ⟨vs,kvs⟩) R s
theorem FnK.fn {C:Cx}{n:Nat}{f:Value}{F}(h:FnK C n f F):Fn C n f λargs σ=>F args [] σ :=
 λA Wd σ s args vs ok R hv r σ' e Q E hq=>dH (h A Wd σ s args [] vs [] ok R hv .nil r σ' e _ hq)
theorem FnK.less {C:Cx}{n m:Nat}{f:Value}{F}(h:FnK C n f F)(hl:n≤m):FnK C m f F:=λA Wd σ s args kws vs kvs ok=>h A Wd σ s args kws vs kvs (ok.less hl)
noncomputable def PostB (C:Cx)(W:Wd)(s:Shared)(Q:List (Str×Value)→Shared→Prop)(p:List (Str×AV)×List AO):Prop:=∀vb W' h' tk,Rel C W' p.2 h'→Keep W W' [] s.heap h'→BindsR W' p.1 vb→Q vb (mv s h' tk)
theorem PostB.now {C:Cx}{W:Wd}{s:Shared}{ab:List (Str×AV)}{σ:List AO}{vb:List (Str×Value)}{Q:List (Str×Value)→Shared→Prop}(hq:PostB C W s Q (ab,σ))(R:Rel C W σ s.heap)(h:BindsR W ab vb):Q vb s:=hq _ W s.heap (s.toks,s.drawn) R (.refl ..) h
theorem zg3 {α:Type}{M:Model}{A:Around}{s:Shared}{t t':Sem α}{Q:α→Shared→Prop}{E:Value→Shared→Prop}(e:t=t')(h:wpAny M A t' Q E s):wpAny M A t Q E s:=e▸h
noncomputable def Binds (C:Cx)(fd:FuncData)(B:List AV→List (Str×AV)→List AO→Option (List (Str×AV)×List AO)):Prop :=
 ∀A Wd σ (s:Shared) args kws vs kvs,Rel C Wd σ s.heap→VRs Wd args vs→BindsR Wd kws kvs→∀p,B args kws σ=some p→∀(Q:List (Str×Value)→Shared→Prop) (E:Value→Shared→Prop),PostB C Wd s Q p→wpAny (model C.prog C.w) A (bindArgs fd ⟨vs,kvs⟩) Q E s
noncomputable def retOf:Fl→AV
 |.ret v=>v
 |_=>.none
structure FdOk (C:Cx)(a:Addr)(fd:FuncData)(body:List Stmt):Prop where
 o:∃o,C.h₀.get? a=some o∧o.data=.func fd
 body:fd.body=.stmts body
 code:C.h₀.CodeRec fd.code fd.qualname
 clo:fd.closure=[]
 glob:fd.globals=mainGlobals
 blt:fd.builtins=builtinsNs
 co:fd.scope.isCoroutine=false
 gen:fd.scope.isGenerator=false
 kind:fd.scope.kind=.function
 nofree:fd.scope.names.all (λx=>x.2 != .free)=true
theorem zq2 {names:List (Str×NameKind)}{ab:List (Str×AV)}(h:(ab.all λx=>(names.lookup x.1==some .local)||(names.lookup x.1==some .cell))=true){W:Wd}{vb:List (Str×Value)}(hb:BindsR W ab vb)(n:Nat) :
  ∀x∈vb,names.lookup x.1=some .local∨(names.lookup x.1=some .cell∧((cellsFrom n names []).lookup x.1).isSome=true):=by
 intro x hx
 have hm:x.1∈ab.map (λx=>x.1):=by exact dI hb.names (bA hx)
 (refine x1a2 (aH.mp hm) λy hy e=>?_)
 have:=cp.mp h y hy
 rw[e]at this
 rcases Bool.or_eq_true_iff.mp this with q|q
 ·exact .inl (beq_iff_eq.mp q)
 ·exact .inr ⟨beq_iff_eq.mp q,zfb _ _ _ (.inr (f7 (beq_iff_eq.mp q)))⟩
theorem Rel.above {C:Cx}{W:Wd}{σ:List AO}{h:Heap}(R:Rel C W σ h){p:Addr}(hp:h.objs.size≤p):p∉W.φ∧C.h₀.get? p=none∧(∀q∈W.ι,q.1≠p):=by
 refine⟨λq=>absurd (R.lt q) (bl.mpr hp),?_,λq hq e=>absurd (aR (R.imm q hq)) (e▸bl.mpr hp)⟩
 cases e:C.h₀.get? p with
 |none=>rfl
 |some o=>exact absurd (aR (R.old _ _ e)) (bl.mpr hp)
theorem Rel.frame {C:Cx}{W:Wd}{σ:List AO}{h:Heap}(R:Rel C W σ h){env:Env}(hk:env.scope.kind≠.module){L:Addr}(hL:env.frame=some L)(hp:L∉W.φ∧C.h₀.get? L=none∧(∀q∈W.ι,q.1≠L))(hd:∃o es ep,h.get? L=some o∧o.data=.dict es ep):Rel (C.push env) W σ h :=
 ⟨R.ok,R.old,R.imm,R.len,R.nodup,R.apart,R.new,R.big,R.objs,λe hin=>(au.mp hin).elim (λq=>by refine aw q ?_;(refine x3a2 hd λo' es' ep' q5 q6=>?_);exact⟨hk,L,hL,hp.1,hp.2.1,hp.2.2,o',es',ep',q5,q6⟩) (R.frs e)⟩
theorem Rel.pop {C:Cx}{W:Wd}{σ:List AO}{h:Heap}{env:Env}(J:Rel (C.push env) W σ h):Rel C W σ h:=⟨J.ok,J.old,J.imm,J.len,J.nodup,J.apart,J.new,J.big,J.objs,λe he=>J.frs e (af _ he)⟩
theorem Keep.own {W W':Wd}{π:List Addr}{h h':Heap}(k:Keep W W' π h h')(hπ:∀p∈π,h.objs.size≤p):Keep W W' [] h h' :=
 ⟨k.le,λb o e n1 u1=>k.keep b o e n1 λq=>bo _ (ag (aR e) (hπ b q)),k.stay,k.new,k.imm⟩
theorem FR.retOf {W:Wd}{fl:Fl}{fv:Flow}(h:FR W fl fv):VR W (retOf fl) (match (generalizing:=false) fv with | .ret v=>v|_=>.none):=by
 cases h with
 |ret h=>exact h
 |_=>exact .none
theorem FnK.of_body {C:Cx}{n:Nat}{a:Addr}{fd:FuncData}{body:List Stmt}{F:List AV→List (Str×AV)→List AO→Option (AV×List AO)}{B:List AV→List (Str×AV)→List AO→Option (List (Str×AV)×List AO)}{f:K Fl}
  (h:FdOk C a fd body) (hB:Binds C fd B) (hf:∀env,Exs (C.push env) n (d8 fd.scope) body f)
  (hF:∀args kws σ r σ',F args kws σ=some (r,σ')→∀P:Prop,(∀ab σ₁ fl θ',B args kws σ=some (ab,σ₁)→(ab.all λx=>(fd.scope.names.lookup x.1==some .local)||(fd.scope.names.lookup x.1==some .cell))=true →
   f ⟨θbind (d8 fd.scope) ab λu1=>none,σ₁⟩=some (fl,⟨θ',σ'⟩)→retOf fl=r→P)→P):FnK C (n+1) (.ref a) F:=by
 intro A W σ s args kws vs kvs ok R hv hkv r σ' e RR hq
 refine hF _ _ _ _ _ e _ λab σ₁ fl θ' hab hkinds ef er=>?_
 refine am h.o λo ho=>?_
 refine codeAny_call_function (o:=o) (fd:=fd) (body:=body) (by have:=ok.depth;lia) (R.old _ _ ho.1) ho.2 h.co h.gen h.body (h.code.keeps R.old) ?_
 refine hB A.in1 W σ s args kws vs kvs R hv hkv (ab,σ₁) hab _ _ λvb W1 h1 tk1 R1 k1 b1=>?_
 clear hv hkv hab hF ho e
 refine aw h.clo ?_
 refine wpAny_newFunctionEnv_cells h.kind (zq2 hkinds b1 _) λenv he s' x=>?_
 clear hkinds
 refine⟨R1.lim.keeps x.toInCall.keep,codeAny_func ?_⟩
 (refine x2a1 x.toInCall.same λh' tk' z2=>?_;subst z2)
 have hk:env.scope.kind=.function:=(congrArg (λe=>e.scope.kind) he).trans h.kind
 have hg:env.globals=mainGlobals:=(congrArg (λe=>e.globals) he).trans h.glob
 have hb:env.builtins=builtinsNs:=(congrArg (λe=>e.builtins) he).trans h.blt
 have hL:env.locals=h1.objs.size:=congrArg (λe=>e.locals) he
 have hfr:env.frame=some env.locals:=(congrArg (λe=>e.frame) he).trans (congrArg (λe=>some e.locals) he).symm
 have hnames:∀y,env.kindOf y=((d8 fd.scope).tab.lookup y).map (λx=>x.1):=λy=>(congrArg (λe=>e.kindOf y) he).trans (zew y fd.scope.names 0).symm
 have hcl:∀y,((cellsFrom (h1.objs.size+1) fd.scope.names []).lookup y).isSome=true→∃c,env.cells.lookup y=some c:=λy hy=>am (bz.mp hy) λc hc=>⟨c,(congrArg (λe=>e.cells.lookup y) he).trans hc⟩
 clear he
 have k2:Keep W1 W1 [] h1 h':=.of (.refl _) (λb o e u1 u2=>x.toInCall.keep b o e) (λb o e=>⟨o,x.toInCall.keep b o e⟩) (λu1 h1 h2=>absurd h1 h2) (λu1 h=>.inl h)
 have hsz:∀p,(p=env.locals∨∃x,env.cells.lookup x=some p)→h1.objs.size≤p∧∃o,h'.get? p=some o:=λp hp=>by
  rcases hp with rfl|⟨y,hy⟩
  ·exact⟨bj hL.symm,Ns.lt' x.toInCall.ns⟩
  ·exact⟨hL▸bG (x.above y p (f7 hy)),x1a2 (x.cell y p hy) λo h1 u1=>⟨o,h1⟩⟩
 have R2:Rel (C.push env) W1 σ₁ h':=Rel.frame (R1.ext (π:=[]) (λa o e u1=>x.toInCall.keep a o e) (λu1 q=>nomatch q) (λu1 q=>nomatch q)) (λq=>by rw[hk]at q;cases q) hfr (R1.above (bj hL.symm)) (Ns.dict x.toInCall.ns)
 have t12:=θbind_ok (W:=W1) hnames (λu1 u2 u3 u4 u5 a b=>zjt a b) b1 (λu1=>none) (λu1=>none) (λu1=>none) (λu1 u2 u3 u4 e=>nomatch e) (λu1 u2 u3 u4 e=>nomatch e)
 have hlr:LR (C.push env) (d8 fd.scope) env W1 (θbind (d8 fd.scope) ab λu1=>none) h':=by
  refine⟨hk,hg,hb,hnames,λu1 u2 u3 u4 u5 a b=>zjt a b,⟨_,x.toInCall.ns,t12.1⟩,λy k i hy hk=>?_,λy z c hy hz=>name_of_addr x.apart (f7 hy) (f7 hz),λp hp=>?_,λu1=>⟨_,rfl⟩⟩
  ·have hl:fd.scope.names.lookup y=some k:=(zew y fd.scope.names 0).symm.trans (congrArg (Option.map (λx=>x.1)) hy)
   rcases hk with rfl|rfl
   ·refine am (hcl y (zfb fd.scope.names (h1.objs.size+1) [] (.inr (f7 hl)))) λc hc=>?_
    exact⟨c,_,hc,bE (x.above y c (f7 hc)),x.cell y c hc,λa ha=>t12.2 y i a hy ha⟩
   ·exact nomatch cp.mp h.nofree _ (f7 hl)
  ·have a:=R1.above (hsz p hp).1
   exact⟨a.1,a.2.1,a.2.2,(hsz p hp).2⟩
 refine(hf env).run (A.deeper env) env W1 ⟨_,σ₁⟩ (mv s h' (tk',tk1.2)) (ok.deeper env) ⟨R2,hlr⟩ fl ⟨θ',σ'⟩ ef _ _ λfv W3 h3 tk3 I3 k3 v3=>?_
 have k4:Keep W1 W3 [] h1 h3:=((k2.wide (π:=priv (d8 fd.scope) env)).trans k3).own λp q=>(hsz p ((au.mp q).elim .inl λq=>.inr (x1a2 (bJ.mp q) λy u1 hy=>⟨y,hy⟩))).1
 exact hq _ W3 h3 tk3 I3.rel.pop (k1.trans k4) (er▸v3.retOf)
end Mine.Internal
namespace Mine.Internal
open PySem PyProof.Rows PySem.W
noncomputable abbrev iy:=List AV→List (Str×AV)→List AO→Option (List (Str×AV)×List AO)
noncomputable def zipN:List Str→List AV→Option (List (Str×AV))
 | [],[]=>some []
 |x::xs,a::as=>(zipN xs as).map ((x,a)::·)
 |_,_=>none
noncomputable def noK {α:Type}:List (Str×AV)→Option α→Option α
 | [],o=>o
 |_,_=>none
noncomputable def bP (xs:List Str):iy:=λargs kws σ=>noK kws ((zipN xs args).map λb=>(b,σ))
noncomputable def gG (x:Str):iy:=bP [x]
noncomputable def bP2 (x y:Str):iy:=bP [x,y]
noncomputable def bP3 (x y z:Str):iy:=bP [x,y,z]
theorem zxb {W:Wd}:∀{xs:List Str} {as:List AV} {ab:List (Str×AV)} {vs:List Value},zipN xs as=some ab→VRs W as vs→vs.length=xs.length∧BindsR W ab (xs.zip vs):=by
 intro xs
 induction xs with
 |nil =>
  intro as ab vs e h
  cases as with
  |nil=>obtain rfl:=sj e;exact h.nilE ⟨rfl,.nil⟩
  |cons _ _=>exact ns e
 |cons x xs ih =>
  intro as ab vs e h
  cases as with
  |nil=>exact ns e
  |cons a as =>
   refine h.consE λv vs hv hr=>?_
   refine am (aP.mp e) λb q=>?_
   have r:=ih q.1 hr
   exact⟨congrArg Nat.succ r.1,q.2▸.cons hv r.2⟩
section
variable {C:Cx}{fd:FuncData}
theorem ziv {α:Type}{kws:List (Str×AV)}{kvs:List (Str×Value)}{o:Option α}{x:α}{W:Wd}{P:List (Str×Value)→Prop}(e:noK kws o=some x)(h:BindsR W kws kvs)(k:o=some x→P []):P kvs:=by
 cases h with
 |nil=>exact k e
 |cons _ _=>exact ns e
theorem Binds.p {xs:List Str}(h:∀vs,vs.length=xs.length→bindArgs fd ⟨vs,[]⟩=pure (xs.zip vs)):Binds C fd (bP xs):=by
 intro A W σ s args kws vs kvs R hv hkv p e Q E
 refine ziv (P:=λkvs=>PostB C W s Q p→wpAny _ A (bindArgs fd ⟨vs,kvs⟩) Q E s) e hkv λe=>mapE e λb hb hq=>?_
 have r:=zxb hb hv
 exact zg3 (h _ r.1) (ai (hq.now R r.2))
@[elab_as_elim] theorem zga {α:Type} {n:Nat} {vs:List α} {P:List α→Prop} (h:vs.length=n+1) (k:∀v r,r.length=n→P (v::r)):P vs:=by
 cases vs with
 |nil=>exact absurd h (Nat.succ_ne_zero n).symm
 |cons v r=>exact k v r (Nat.succ.inj h)
@[elab_as_elim] theorem zth {α:Type} {vs:List α} {P:List α→Prop} (h:vs.length=0) (k:P []):P vs:=by
 cases vs with
 |nil=>exact k
 |cons v r=>exact absurd h (Nat.succ_ne_zero _)
theorem Binds.p1 {x:Str}(h:∀v,bindArgs fd ⟨[v],[]⟩=pure [(x,v)]):Binds C fd (gG x):=Binds.p (xs:=[x]) λvs hl=>zga (vs:=vs) (n:=0) hl λv r hl=>zth (vs:=r) hl (h v)
theorem Binds.p2 {x y:Str}(h:∀v w,bindArgs fd ⟨[v,w],[]⟩=pure [(x,v),(y,w)]):Binds C fd (bP2 x y):=Binds.p (xs:=[x,y]) λvs hl=>zga (vs:=vs) (n:=1) hl λv r hl=>zga (vs:=r) (n:=0) hl λw r hl=>zth (vs:=r) hl (h v w)
theorem Binds.p3 {x y z:Str}(h:∀v w u,bindArgs fd ⟨[v,w,u],[]⟩=pure [(x,v),(y,w),(z,u)]):Binds C fd (bP3 x y z):=Binds.p (xs:=[x,y,z]) λvs hl=>zga (vs:=vs) (n:=2) hl λv r hl=>zga (vs:=r) (n:=1) hl λw r hl=>zga (vs:=r) (n:=0) hl λu r hl=>zth (vs:=r) hl (h v w u)
end
end Mine.Internal
end
section
namespace Mine.Internal
open PySem PyProof.Rows PySem.W
section
variable {α β:Type}{C:Cx}{n:Nat}{Γ:cA}{env:Env}{W:Wd}{A:Around}{s:Shared}{st:St}
theorem Post.upd {R:Wd→β→α→Prop}{b:β}{Q:α→Shared→Prop}{a:α}{o:Nat}{l:Addr}{ob:AO}{h':Heap}(hq:Post C Γ env W s R b ⟨st.θ,st.σ.set o ob⟩ Q)(I:Inv C Γ env W st s.heap)(ho:W.φ[o]?=some l)(hs:Heap.SameBut l s.heap h')(hor:OR W h' ob l)(tk:Nat)(hr:R W b a):Q a { s with heap:=h',toks:=tk } :=
 have x:=I.rel.upd ho hs hor
 hq a W h' (tk,s.drawn) (I.keep x.1 x.2) x.2.wide hr
theorem Post.new {Q:Value→Shared→Prop}{ob:AO}(hq:Post C Γ env W s VR (.obj st.σ.length) ⟨st.θ,st.σ++[ob]⟩ Q)(I:Inv C Γ env W st s.heap)(o:Obj)(ho:OR ⟨W.φ++[s.heap.objs.size],W.ι⟩ (s.heap.push o) ob s.heap.objs.size)(tk:Nat):Q (.ref s.heap.objs.size) { s with heap:=(s.heap.push o),toks:=tk } :=
 have x:=I.rel.pushObj o ob ho
 hq _ _ _ (tk,s.drawn) (I.keep x.1 x.2) x.2.wide (.obj (by exact dI I.rel.len (List.getElem?_concat_length)))
theorem Post.imm {b:AV}{Q:Value→Shared→Prop}(hq:Post C Γ env W s VR b st Q)(I:Inv C Γ env W st s.heap)(o:Obj)(hf:o.isFreed=false)(hr:∀W':Wd,W.Le W'→(s.heap.objs.size,o)∈W'.ι→VR W' b (.ref s.heap.objs.size))(tk:Nat):Q (.ref s.heap.objs.size) { s with heap:=(s.heap.push o),toks:=tk } :=
 have x:=I.rel.pushImm o hf
 hq _ _ _ (tk,s.drawn) (I.keep x.1 x.2) x.2.wide (hr _ x.2.le aj)
noncomputable def one?:List AV→Option AV
 | [a]=>some a
 |_=>none
noncomputable def two?:List AV→Option (AV×AV)
 | [a,b]=>some (a,b)
 |_=>none
@[elab_as_elim] theorem VRs.one?E {args:List AV} {a:AV} {vs:List Value} {P:List Value→Prop} (h:VRs W args vs) (e:one? args=some a) (k:∀v,VR W a v→P [v]):P vs:=by
 cases args with
 |nil=>exact ns e
 |cons a r=>cases r with
  |nil=>obtain rfl:=sj e;exact h.oneE k
  |cons _ _=>exact ns e
@[elab_as_elim] theorem VRs.two?E {args:List AV} {p:AV×AV} {vs:List Value} {P:List Value→Prop} (h:VRs W args vs) (e:two? args=some p) (k:∀v w,VR W p.1 v→VR W p.2 w→P [v,w]):P vs:=by
 cases args with
 |nil=>exact ns e
 |cons a r=>cases r with
  |nil=>exact ns e
  |cons b r=>cases r with
   |nil=>obtain rfl:=sj e;exact h.twoE k
   |cons _ _=>exact ns e
theorem Cal.one {f:Value}{F:AV→K AV}(h:∀A env W st (s:Shared) a v,AOk C n A→Inv C Γ env W st s.heap→VR W a v→Run C Γ env W A s (call f [v]) (F a st) VR):Cal C n Γ f λargs st=>(one? args).bind λa=>F a st :=
 λA env W st s args vs ok I hv=>.obind λa e=>VRs.one?E (vs:=vs) hv e λv hv=>h A env W st s a v ok I hv
theorem Cal.two {f:Value}{F:AV→AV→K AV}(h:∀A env W st (s:Shared) a b v w,AOk C n A→Inv C Γ env W st s.heap→VR W a v→VR W b w→Run C Γ env W A s (call f [v,w]) (F a b st) VR):Cal C n Γ f λargs st=>(two? args).bind λp=>F p.1 p.2 st :=
 λA env W st s args vs ok I hv=>.obind λp e=>VRs.two?E (vs:=vs) hv e λv w hv hw=>h A env W st s p.1 p.2 v w ok I hv hw
noncomputable def gh (vs:List AV)(k:Int):Option AV:=if -(2^62)≤k∧k<2^62 then(seqIndex? k vs.length).bind λj=>vs[j]? else none
noncomputable def zu8 (x:Str)(k:Int):Option Str:=if -(2^62)≤k∧k<2^62 then((seqIndex? k x.length).bind λj=>x.cps[j]?).map λc=>⟨#[c]⟩else none
theorem zto {vs:List AV}{items:Array Value}{k:Int}{a:AV}{P:Prop}(hv:VRs W vs items.toList)(e:gh vs k=some a)
  (h:-(2^62)≤k→k<2^62→∀j v,seqIndex? k items.size=some j→items[j]?=some v→VR W a v→P):P:=by
 unfold gh at e
 by_cases hk:-(2^62)≤k∧k<2^62
 ·rw[if_pos hk]at e
  refine am (aZ.mp e) λj q=>am (hv.get q.2) λv r=>?_
  have hl:vs.length=items.size:=hv.length
  exact h hk.1 hk.2 j v (hl▸q.1) (ba▸r.1) r.2
 ·rw[if_neg hk]at e;exact ns e
theorem zsk {k:Int}{m j:Nat}{P:Prop}(e:seqIndex? k m=some j)(h1:k<0→0≤k+m→(k+m).toNat=j→P)(h2:0≤k→k<m→k.toNat=j→P):P:=by
 unfold seqIndex? at e
 by_cases hk:k<0
 ·rw[if_pos hk]at e
  by_cases hb:(decide (0≤k+(m:Int))&&decide (k+(m:Int)<m))=true
  ·have e:=(if_pos hb).symm.trans e
   rw[aq,decide_eq_true_eq]at hb
   exact h1 hk hb.1 (br e)
  ·exact nomatch (if_neg hb).symm.trans e
 ·rw[if_neg hk]at e
  by_cases hb:(decide (0≤k)&&decide (k<(m:Int)))=true
  ·have e:=(if_pos hb).symm.trans e
   rw[aq,decide_eq_true_eq,decide_eq_true_eq]at hb
   exact h2 hb.1 hb.2 (br e)
  ·exact nomatch (if_neg hb).symm.trans e
theorem zgu {l:Addr}{items:Array Value}{m:Nat}{k:Int}{t:Tok}{j:Nat}{x:Value}{Q:Value→Shared→Prop}{E:Value→Shared→Prop}(hl:s.heap.get? l=some { cls:=.type "list", data:=.seq items m })
  (hlo:-(2^62)≤k) (hhi:k<2^62) (hj:seqIndex? k items.size=some j) (hx:items[j]?=some x) (h:Q x s):wpAny (model C.prog C.w) A (getItem (.ref l) (.int k t)) Q E s :=
 zsk hj (λh1 h2 h3=>wpAny_getItem_list_neg (fF hl) h1 (by lia) (by lia) (h3▸hx) h) λh1 h2 h3=>wpAny_getItem_list (fF hl) h1 (by lia) (h3▸hx) h
noncomputable def zev:Expr→Bool
 |.Slice ..=>false
 |_=>true
theorem zf4 {slice:Expr}{va vi:Value}(h:zev slice=true):subscripted slice false va vi=operate [va,vi] (getItem va vi):=by
 cases slice<;>first|rfl|exact ft h
theorem zc4 {T id:String}{value slice:Expr}{va vi:Value}{Q:Value→Shared→Prop}{E:Value→Shared→Prop}(hs:zev slice=true)(hT:s.TypeIs va T)(hl:typeLookup (.type T) "__getitem__" = pure (some (.builtin id))) (hw:wpAny (model C.prog C.w) A (getItem va vi) Q E s):wpAny (model C.prog C.w) A (subscriptTail value slice va vi) Q E s :=
 tail_any (ops:=[va,vi]) hT hl hw (zf4 hs)
noncomputable def zy6 (st:St):AV→Option Nat
 |.tup vs=>some vs.length
 |.str x=>some x.length
 |a=>(fA a st).map List.length
noncomputable def len1 (a:AV):K AV:=λst=>(zy6 st a).bind λn=>if n<2^62 then some (.int n,st)else none
noncomputable def lenK:List AV→K AV:=λargs st=>(one? args).bind λa=>len1 a st
theorem Cal.len:Cal C n Γ (.builtin "len") lenK:=.one λA env W st s a v ok I hv=>.obind λm e=>.ite λhlt=>.mk1 λQ E hq=>by
 have hq':=λtk t=>hq.at I tk (.int m t)
 clear hq
 have key:(fA a st).map List.length=some m→wpAny (model C.prog C.w) A (call (.builtin "len") [v]) Q E s:=λe =>
  am (aP.mp e) λvs q=>fX I.rel hv q.1 λl items m' hl u1 hlen=>len_list (fF hl) (by lia) (by refine dI hlen (aw q.2 ?_);exact hq' _ _)
 revert hv
 cases a with
 |tup vs=>exact λhv=>tupE I.rel hv rfl λl items m' hl u1 hlen=>len_tuple (iH hl) (by cases e;lia) (by cases e;exact dI hlen (hq' _ _))
 |str x=>exact λhv=>hv.strE rfl λt=>by obtain rfl:=sj e;exact len_str (by lia) (hq' _ _)
 |_=>exact λhv=>key e
open Classical in
noncomputable def fw (P:St→Prop):K Unit:=λst=>if P st then some ((),st)else none
theorem zi2 {P:St→Prop}{st:St}(h:P st):fw P st=some ((),st):=by unfold fw;exact aw (if_pos h) rfl
theorem zlw {β:Type}{P:St→Prop}{g:K β}{st st':St}{b:β}{G:Prop}(e:K.bind (fw P) (λu1=>g) st=some (b,st'))(k:P st→g st=some (b,st')→G):G:=by
 by_cases h:P st
 ·rw[K.bind_some (zi2 h)]at e
  exact k h e
 ·unfold K.bind fw at e
  rw[if_neg h]at e
  exact ns e
noncomputable def Res (C:Cx)(name:Str)(fv:Value)(P:AV→St→Prop):Prop :=
 ∀A (W:Wd) (st:St) (s:Shared) a v,Rel C W st.σ s.heap→VR W a v→P a st→∀(Q:Value×List Value→Shared→Prop) (E:Value→Shared→Prop) pl,Q (fv,[v]) s→wpAny (model C.prog C.w) A (getMethod v name pl) Q E s
noncomputable def fL:Expr→Bool
 |.Call (.Name _ _) [] [] _=>true
 |_=>false
theorem zav {o:Expr}{x:Str}{env:Env}{t:Sem Value}(h:fL o=false):attributeBase o x env t=t:=by
 cases o with
 |Call f as ks p =>
  cases f with
  |Name y q =>
   cases as with
   |cons _ _=>rfl
   |nil=>cases ks with
    |cons _ _=>rfl
    |nil=>exact tf h
  |_=>rfl
 |_=>rfl
theorem zus {args:List Expr}{env:Env}{pos:Pos}(h:args.all (λe=>!fj e)=true):(backTo pos (starEach args env)).all (λx=>!x.1)=true:=by
 induction args with
 |nil=>rfl
 |cons e r ih =>
  rw[dX,aq]at h
  refine aw (ze1 (Bool.not_eq_true' _▸h.1)) ?_
  exact ih h.2
noncomputable def zqg (a:AV)(st:St):Prop:=∃vs,fA a st=some vs
theorem Res.list {name:Str}{id:String}(slot:Slot "list" name id) (hty:typeOf (.builtin id)=pure (.type "method_descriptor")):Res C name (.builtin id) zqg:=λA W st s a v R hv hP Q E pl =>
 am hP λvs e=>fX R hv e λl items m hl u1 u2 hq=>eh ⟨_,hl,rfl⟩ PySem.F.plainAttrs_list slot hty (λa e=>by cases e;exact⟨_,hl,rfl⟩) hq
noncomputable def zn0:List AV→K AV:=λargs st=>(two? args).bind λp=>p.1.oid.bind λo=>(d7 st.σ o).bind λvs=>if vs.length<2^20 then some (.none,⟨st.θ,st.σ.set o (.list (vs++[p.2]))⟩)else none
theorem Cal.append:Cal C n Γ (.builtin "list.append") zn0:=.two (F:=λa x st=>a.oid.bind λo=>(d7 st.σ o).bind λvs=>if vs.length<2^20 then some (.none,⟨st.θ,st.σ.set o (.list (vs++[x]))⟩)else none) λA env W st s a x v w ok I hv hw =>
 .obind λo ho=>.obind λvs hvs=>.ite λhlt=>VR.objE (v:=v) hv ho λl hl=>lstE I.rel hl hvs λitems m hg hr hlen=>.mk1 λQ E hq =>
  append_at hg (λh' hs ho'=>hq.upd I hl hs ⟨_,_,ho',by refine aw dT ?_;exact hr.append (.one hw)⟩ _ .none) (by unfold sizeLine;lia)
noncomputable def pop1 (o:Nat)(vs:List AV):K AV:=λst=>(vs.getLast?).map λv=>(v,⟨st.θ,st.σ.set o (.list vs.dropLast)⟩)
noncomputable def pop2 (o:Nat)(vs:List AV)(i:AV):K AV:=λst=>i.int?.bind λk=>if 0≤k∧k<2^62 then(vs[k.toNat]?).map λv=>(v,⟨st.θ,st.σ.set o (.list (vs.eraseIdx k.toNat))⟩)else none
noncomputable def popL (o:Nat)(vs:List AV):List AV→K AV
 | []=>pop1 o vs
 | [i]=>pop2 o vs i
 |_=>K.fail
noncomputable def popK:List AV→K AV
 |a::r=>λst=>a.oid.bind λo=>(d7 st.σ o).bind λvs=>if vs.length<2^20 then popL o vs r st else none
 | []=>K.fail
theorem zig {α:Type}(l:List α):l.dropLast=l.eraseIdx (l.length-1):=by
 rw[List.eraseIdx_eq_take_drop_succ,List.dropLast_eq_take,List.drop_eq_nil_of_le (by lia),bi]
theorem zwa (items:Array Value)(j:Nat):(items.eraseIdxIfInBounds j).toList=items.toList.eraseIdx j:=by
 by_cases h:j<items.size
 ·simp[Array.eraseIdxIfInBounds,h]
 ·rw[Array.eraseIdxIfInBounds,dif_neg h,List.eraseIdx_of_length_le (bl.mp h)]
theorem zv9 {k:Int}(h:0≤k∧k<2^62):Builtin.List.listFitsIndex k=true:=by unfold Builtin.List.listFitsIndex;simp;lia
theorem zzd {k:Int}{m:Nat}(h:0≤k)(hk:k.toNat<m):seqIndex? k m=some k.toNat:=by
 unfold seqIndex?
 refine aw (if_neg (Int.not_lt.mpr h)) ?_
 exact if_pos (aq _ _▸⟨decide_eq_true h,decide_eq_true (by lia)⟩)
theorem gK {m k:Nat}(h:m<2^20)(e:m=k):k≤sizeLine:=by unfold sizeLine;lia
theorem Cal.pop:Cal C n Γ (.builtin "list.pop") popK:=by
 intro A env W st s args vs ok I hv
 cases args with
 |nil=>exact .stuck
 |cons a r =>
  refine hv.consE λv ws hv hr=>.obind λo ho=>.obind λxs hx=>.ite λhlt=>VR.objE (v:=v) hv ho λl hl=>lstE I.rel hl hx λitems m hg hvs hlen=>?_
  have fin:∀{y:AV} {j:Nat} {v':Value} {Q:Value→Shared→Prop},VR W y v'→Post C Γ env W s VR y ⟨st.θ,st.σ.set o (.list (xs.eraseIdx j))⟩ Q→Q v' { s with heap:=s.heap.update l (Obj.mapSeq λys=>ys.eraseIdxIfInBounds j) }:=λ{y j v' Q} hy hq =>
   hq.upd I hl (aM s.heap _ (Obj.mapSeq λys=>ys.eraseIdxIfInBounds j)) ⟨_,_,bc (Obj.mapSeq λys=>ys.eraseIdxIfInBounds j) hg rfl,(zwa items j).symm▸hvs.eraseIdx j⟩ _ hy
  cases r with
  |nil =>
   refine hr.nilE (.omap λy hy=>.mk1 λQ E hq=>?_)
   rw[zig]at hq
   rw[List.getLast?_eq_getElem?,hlen]at hy
   refine am (hvs.get hy) λv' q=>?_
   rw[hlen]at hq
   exact eO PySem.F.slot_list_pop ⟨_,hg,rfl⟩ PySem.F.entry_list_pop (PySem.F.args_list_pop_1 _) (PySem.MeetsSeq.list_pop_last _ items m v' (ba▸q.1) (gK hlt hlen)) ⟨hg,fin q.2 hq⟩
  |cons i r =>
   cases r with
   |nil =>
    refine hr.oneE λw hw=>.obind λk hk=>.ite λhb=>.omap λy hy=>hw.intE hk λt=>.mk1 λQ E hq=>?_
    refine am (hvs.get hy) λv' q=>?_
    have hin:=(ap.mp hy).1
    exact eO PySem.F.slot_list_pop ⟨_,hg,rfl⟩ PySem.F.entry_list_pop (PySem.F.args_list_pop_2 _ _) (PySem.MeetsSeq.list_pop_at _ items m k t k.toNat v' (zv9 hb) (zzd hb.1 (hlen▸hin)) (ba▸q.1) (gK hlt hlen)) ⟨hg,fin q.2 hq⟩
   |cons _ _=>exact .stuck
end
end Mine.Internal
end
section
namespace Mine.Internal
open PySem PyProof.Rows PySem.W
noncomputable def io (a c:Int)(n:Nat):List AV:=(List.range n).map λi:Nat=>.int (a+c*(i:Int))
noncomputable def gM (x:Str):List AV:=x.cps.toList.map λc=>.str ⟨#[c]⟩
inductive ItAt (W:Wd)(h:Heap)(I:Addr):List AV→Option (Nat×AO)→Nat→Prop
 |lst {l:Addr} {items:Array Value} {n:Nat} {vs:List AV} {i:Nat}:(l,({ cls:=.type "list", data:=.seq items n }:Obj))∈W.ι→VRs W vs items.toList→h.IsListIter I l i→ItAt W h I vs none i
 |obj {o:Nat} {l:Addr} {vs:List AV} {i:Nat}:W.φ[o]?=some l→h.IsListIter I l i→ItAt W h I vs (some (o,.list vs)) i
 |tup {l:Addr} {items:Array Value} {n:Nat} {vs:List AV} {i:Nat}:(l,({ cls:=.type "tuple", data:=.seq items n }:Obj))∈W.ι→VRs W vs items.toList→h.IsTupleIter I l i→ItAt W h I vs none i
 |rng {a c:Int} {n i:Nat}:IsRangeIter h I (a+c*i) (n-i) c→ItAt W h I (io a c n) none i
 |ascii {x:Str} {t:Tok} {i:Nat}:h.IsStrIter I "str_ascii_iterator" x t i→ItAt W h I (gM x) none i
 |wide {x:Str} {t:Tok} {i:Nat}:h.IsStrIter I "str_iterator" x t i→ItAt W h I (gM x) none i
 |key {o:Nat} {d:Addr} {es:List (Int×AV)} {ep i:Nat}:W.φ[o]?=some d→h.IsKeyIter I d i es.length ep→ItAt W h I (es.map λp=>.int p.1) (some (o,.dict es ep)) i
 |vals {o:Nat} {d:Addr} {es:List (Int×AV)} {ep i:Nat}:W.φ[o]?=some d→h.IsValIter I d i es.length ep→ItAt W h I (es.map λp=>p.2) (some (o,.dict es ep)) i
theorem ItAt.mono {W W':Wd}{h h':Heap}{I:Addr}{vs:List AV}{g:Option (Nat×AO)}{i:Nat}(x:ItAt W h I vs g i)(le:W.Le W')(e:∀o,h.get? I=some o→h'.get? I=some o):ItAt W' h' I vs g i:=by
 cases x with
 |lst h1 h2 h3=>exact .lst (le.ι _ h1) (h2.mono le) (let ⟨o,ho,r⟩:=h3;⟨o,e _ ho,r⟩)
 |obj h1 h3=>exact .obj (le.at h1) (let ⟨o,ho,r⟩:=h3;⟨o,e _ ho,r⟩)
 |tup h1 h2 h3=>exact .tup (le.ι _ h1) (h2.mono le) (x1a2 h3 λo ho r=>⟨o,e _ ho,r⟩)
 |rng h=>exact .rng (e _ h)
 |ascii h3=>exact .ascii (x1a2 h3 λo ho r=>⟨o,e _ ho,r⟩)
 |wide h3=>exact .wide (x1a2 h3 λo ho r=>⟨o,e _ ho,r⟩)
 |key h1 h3=>exact .key (le.at h1) (x1a2 h3 λo ho r=>⟨o,e _ ho,r⟩)
 |vals h1 h3=>exact .vals (le.at h1) (x1a2 h3 λo ho r=>⟨o,e _ ho,r⟩)
noncomputable def gp (g:Option (Nat×AO))(σ:List AO):Prop:=∀p,g=some p→σ[p.1]?=some p.2
theorem zlc {C:Cx}{W:Wd}{σ:List AO}{h:Heap}(R:Rel C W σ h){d:Addr}(hd:d∈W.φ):(d==sysModules)=false:=by
 have:=R.big d hd
 refine beq_eq_false_iff_ne.mpr λq=>?_
 rw[q]at this
 exact absurd this (by decide)
theorem PairsR.isInt {W:Wd}{es:List (Int×AV)}{en:List DictEntry}(h:PairsR W es en):∀e∈en,∃k,Value.isInt k e.key=true∧e.hash=hashInt k:=by
 induction h with
 |nil=>simp
 |cons h _ ih =>
  intro e he
  rcases au.mp he with rfl|he
  ·(refine x0a3 h λz0 hh u1=>?_;obtain⟨t,ht⟩:=z0)
   exact⟨_,by refine aw ht ?_;simp[Value.isInt],hh⟩
  ·exact ih e he
theorem PairsR.pairs {prog:Program}{w:World}{W:Wd}{es:List (Int×AV)}{en:List DictEntry}(h:PairsR W es en):∃kvs:List (Int×Value),Pairs (intKind prog w) en kvs∧kvs.map (λx=>x.1)=es.map (λx=>x.1)∧VRs W (es.map (λx=>x.2)) (kvs.map (λx=>x.2)):=by
 induction h with
 |nil=>exact⟨[],.nil,rfl,.nil⟩
 |cons h _ ih =>
  (refine x1a3 ih λkvs h1 h2 h3=>?_)
  rename_i f e fs es' _
  (refine x0a3 h λz0 hh hv=>?_;obtain⟨t,ht⟩:=z0)
  exact⟨(f.1,e.val)::kvs,.cons (by refine aw ht ?_;simp[intKind,Value.isInt]) rfl h1,by simp[h2],.cons hv h3⟩
theorem zdg {C:Cx}{W:Wd}{σ:List AO}{h:Heap}(R:Rel C W σ h){o:Nat}{d:Addr}{es:List (Int×AV)}{ep:Nat}(hd:W.φ[o]?=some d)(e:σ[o]?=some (.dict es ep)) :
  ∃kvs,h.DictAt (intKind C.prog C.w) d kvs ep∧(kvs.map (λx=>x.1)=es.map (λx=>x.1)∧VRs W (es.map (λx=>x.2)) (kvs.map (λx=>x.2)))∧kvs.length=es.length:=by
 (refine x1a3 (R.objs _ _ _ e hd) λen h1 h2 h3=>?_)
 (refine x1a3 (h2.pairs (prog:=C.prog) (w:=C.w)) λkvs p1 p2 p3=>?_)
 exact⟨kvs,⟨_,en,h1,⟨rfl,rfl,rfl⟩,rfl,λx hx=>h2.isInt x (Array.mem_toList_iff.mpr hx),p1,by refine aw p2 ?_;exact h3⟩,⟨p2,p3⟩,by simp only[←ae (f:=(λx=>x.1)) (as:=kvs),p2,ae]⟩
theorem zqd {α:Type}{l:List α}{i:Nat}(h:l[i]?=none):l.length≤i:=by simpa using h
section
variable {C:Cx}{W:Wd}{A:Around}{s:Shared}{σ:List AO}{I:Addr}{vs:List AV}{g:Option (Nat×AO)}{i:Nat}
theorem ItAt.next {Q:Option Value→Shared→Prop}{E:Value→Shared→Prop}{a:AV}(x:ItAt W s.heap I vs g i)(R:Rel C W σ s.heap)(hg:gp g σ)(hx:vs[i]?=some a)
  (hq:∀v h' tk,VR W a v→ItAt W h' I vs g (i+1)→Heap.SameBut I s.heap h'→Q (some v) (mv s h' tk)):wpAny (model C.prog C.w) A (pyNext (.ref I)) Q E s:=by
 cases x with
 |lst h1 h2 h3 =>
  obtain⟨v,hv1,hv2⟩:=h2.get hx
  exact wpAny_pyNext_list_item h3 (fF (R.imm _ h1)) (by simpa using hv1) λh' hi hs=>hq v h' (s.toks,s.drawn) hv2 (.lst h1 h2 hi) hs
 |obj h1 h3 =>
  (refine x2a2 (R.objs _ _ _ (hg _ rfl) h1) λitems m hl h2=>?_)
  (refine x1a2 (h2.get hx) λv hv1 hv2=>?_)
  exact wpAny_pyNext_list_item h3 (fF hl) (by simpa using hv1) λh' hi hs=>hq v h' (s.toks,s.drawn) hv2 (.obj h1 hi) hs
 |tup h1 h2 h3 =>
  obtain⟨v,hv1,hv2⟩:=h2.get hx
  exact wpAny_pyNext_tuple_item h3 (iH (R.imm _ h1)) (by simpa using hv1) λh' hi hs=>hq v h' (s.toks,s.drawn) hv2 (.tup h1 h2 hi) hs
 | @rng a' c n _ h =>
  obtain⟨hi,rfl⟩:i<n∧AV.int (a'+c*(i:Int))=a:=by
   have hlt:i<n:=by simpa[io]using(ap.mp hx).1
   refine⟨hlt,?_⟩
   simp only[io,aK,b8 hlt,d9,Option.some.injEq]at hx
   exact hx
  refine wpAny_pyNext_range_item h (by lia) λh' hi' hs=>hq _ h' (_,s.drawn) (.int _ _) (.rng ?_) hs
  have e1:a'+c*(i:Int)+c=a'+c*((i+1:Nat):Int):=by simp only[Int.natCast_add,Int.mul_add];simp;lia
  have e2:(n:Int)-i-1=n-((i+1:Nat):Int):=by lia
  rw[e1,e2]at hi'
  exact hi'
 | @ascii x t _ h =>
  obtain⟨c,hc,rfl⟩:∃c,x.cps[i]?=some c∧AV.str ⟨#[c]⟩=a:=by
   simp only[gM,aK,aP]at hx
   obtain⟨c,h1,h2⟩:=hx
   exact⟨c,by simpa using h1,h2⟩
  exact wpAny_pyNext_ascii_item h hc λh' hi hs=>hq _ h' (_,s.drawn) (.str _ _) (.ascii hi) hs
 | @wide x t _ h =>
  obtain⟨c,hc,rfl⟩:∃c,x.cps[i]?=some c∧AV.str ⟨#[c]⟩=a:=by
   simp only[gM,aK,aP]at hx
   obtain⟨c,h1,h2⟩:=hx
   exact⟨c,by simpa using h1,h2⟩
  exact wpAny_pyNext_wide_item h hc λh' hi hs=>hq _ h' (_,s.drawn) (.str _ _) (.wide hi) hs
 | @key o d es ep _ h1 h3 =>
  (refine x1a3 (zdg R h1 (hg _ rfl)) λkvs hd z2 hlen=>?_;obtain⟨hk1,hk2⟩:=z2)
  simp only[aK,aP]at hx
  obtain⟨p,hp,rfl⟩:=hx
  have:(kvs.map (λx=>x.1))[i]?=some p.1:=by refine aw hk1 (aw (aK) (aw hp ?_));rfl
  simp only[aK,aP]at this
  (refine x1a2 this λkv hkv hkv1=>?_)
  refine wpAny_pyNext_dict_item (knd:=intKind C.prog C.w) (k:=kv.1) (v:=kv.2) (by refine aw hlen ?_;exact h3) hd hkv λkey h' hkey hi hs=>?_
  obtain⟨t,rfl⟩:=dS hkey
  refine hq _ h' (s.toks,s.drawn) (by refine aw hkv1 ?_;exact .int _ _) (.key h1 (by refine dI hlen ?_;exact hi)) hs
 | @vals o d es ep _ h1 h3 =>
  obtain⟨kvs,hd,⟨hk1,hk2⟩,hlen⟩:=zdg R h1 (hg _ rfl)
  (refine x1a2 (hk2.get hx) λv hv1 hv2=>?_)
  simp only[aK,aP]at hv1
  (refine x1a2 hv1 λkv hkv hkv1=>?_)
  exact wpAny_pyNext_values_item (knd:=intKind C.prog C.w) (k:=kv.1) (v:=kv.2) (by refine aw hlen ?_;exact h3) hd hkv λh' hi hs=>hq _ h' (s.toks,s.drawn) (by refine aw hkv1 ?_;exact hv2) (.vals h1 (by refine dI hlen ?_;exact hi)) hs
theorem ItAt.done {Q:Option Value→Shared→Prop}{E:Value→Shared→Prop}(x:ItAt W s.heap I vs g i)(R:Rel C W σ s.heap)(hg:gp g σ)(hh:A.handled=none)(hx:vs[i]?=none)
  (hq:∀h' tk,Heap.ExtBut I s.heap h'→Q none (mv s h' tk)):wpAny (model C.prog C.w) A (pyNext (.ref I)) Q E s:=by
 have hx:=zqd hx
 cases x with
 |lst h1 h2 h3 =>
  have:=h2.length
  exact wpAny_pyNext_list_end hh h3 (fF (R.imm _ h1)) (by simp at this ⊢;lia) λh' hs=>hq h' (s.toks,s.drawn) hs
 |obj h1 h3 =>
  (refine x2a2 (R.objs _ _ _ (hg _ rfl) h1) λitems m hl h2=>?_)
  have:=h2.length
  exact wpAny_pyNext_list_end hh h3 (fF hl) (by simp at this ⊢;lia) λh' hs=>hq h' (s.toks,s.drawn) hs
 |tup h1 h2 h3 =>
  have:=h2.length
  exact wpAny_pyNext_tuple_end hh h3 (iH (R.imm _ h1)) (by simp at this ⊢;lia) λh' hs=>hq h' (s.toks,s.drawn) hs
 |rng h =>
  simp[io]at hx
  exact wpAny_pyNext_range_end hh h (by lia) λh' hs=>hq h' (s.toks,s.drawn) hs
 |ascii h =>
  simp[gM]at hx
  exact wpAny_pyNext_ascii_end hh h (by simpa using hx) λh' hs=>hq h' (s.toks,s.drawn) hs
 |wide h =>
  simp[gM]at hx
  exact wpAny_pyNext_wide_end hh h (by simpa using hx) λh' hs=>hq h' (s.toks,s.drawn) hs
 | @key o d es ep _ h1 h3 =>
  obtain⟨kvs,hd,⟨hk1,hk2⟩,hlen⟩:=zdg R h1 (hg _ rfl)
  exact wpAny_pyNext_dict_end (knd:=intKind C.prog C.w) hh (by refine aw hlen ?_;exact h3) hd (by simp at hx ⊢;lia) λh' hs=>hq h' (s.toks,s.drawn) hs
 | @vals o d es ep _ h1 h3 =>
  obtain⟨kvs,hd,⟨hk1,hk2⟩,hlen⟩:=zdg R h1 (hg _ rfl)
  exact wpAny_pyNext_values_end (knd:=intKind C.prog C.w) hh (by refine aw hlen ?_;exact h3) hd (by simp at hx ⊢;lia) λh' hs=>hq h' (s.toks,s.drawn) hs
noncomputable def srcO (o:Nat):AO→Option (List AV×Option (Nat×AO))
 |.list vs=>some (vs,some (o,.list vs))
 |.dict es ep=>some (es.map λp=>.int p.1,some (o,.dict es ep))
 |_=>none
noncomputable def zsa (a:AV)(σ:List AO):Option (List AV×Option (Nat×AO)):=match a with
 |.tup vs=>some (vs,none)
 |.lst vs=>some (vs,none)
 |.rng a c n=>some (io a c n,none)
 |.str x=>some (gM x,none)
 |.obj o=>(σ[o]?).bind (srcO o)
 |_=>none
noncomputable def zzt (W:Wd)(s:Shared)(Q:Value→Shared→Prop)(p:List AV×Option (Nat×AO)):Prop:=∀o:Obj,o.isFreed=false→ItAt W (s.heap.push o) s.heap.objs.size p.1 p.2 0→Q (.ref s.heap.objs.size) { s with heap:=s.heap.push o }
theorem ItAt.start {Q:Value→Shared→Prop}{E:Value→Shared→Prop}{a:AV}{v:Value}(R:Rel C W σ s.heap)(hv:VR W a v){p:List AV×Option (Nat×AO)}(e:zsa a σ=some p)(hq:zzt W s Q p):wpAny (model C.prog C.w) A (pyIter v) Q E s:=by
 have new:∀{o:Obj},o.isFreed=false→(s.heap.push o).get? s.heap.objs.size=some o:=λh=>aF _ h
 revert hq
 cases a with
 |tup ws=>exact eH e λhq=>hv.tupE rfl λl items n h1 h2=>wpAny_pyIter_tuple (iH (R.imm _ h1)) (hq _ rfl (.tup h1 h2 ⟨_,new rfl,rfl,rfl⟩))
 |lst ws=>exact eH e λhq=>hv.lstE rfl λl items n h1 h2=>ee (fF (R.imm _ h1)) (hq _ rfl (.lst h1 h2 ⟨_,new rfl,rfl,rfl⟩))
 |rng a c n=>exact eH e λhq=>hv.rngE rfl λr b t u v h1 h2 h3=>wpAny_pyIter_range (R.imm _ h1) h2 (hq _ rfl (.rng (by
   rw[h3,Int.natCast_zero,Int.mul_zero,Int.add_zero,Int.sub_zero]
   exact new rfl)))
 |str x =>
   refine eH e λhq=>hv.strE rfl λt=>?_
   cases ha:x.cps.all (·<128)
   ·exact wpAny_pyIter_wide ha (hq _ rfl (.wide ⟨_,new rfl,rfl,rfl⟩))
   ·exact wpAny_pyIter_ascii ha (hq _ rfl (.ascii ⟨_,new rfl,rfl,rfl⟩))
 |obj o =>
  refine hv.objE rfl λd hi=>bindE e λob q e=>?_
  cases ob with
  |list ws=>exact eH e λhq=>lstE R hi (eR q) λitems m h1 u1 u2=>ee (fF h1) (hq _ rfl (.obj hi ⟨_,new rfl,rfl,rfl⟩))
  |dict es ep=>exact eH e λhq=>am (zdg R hi q) λkvs r=>wpAny_pyIter_dict (knd:=intKind C.prog C.w) (zlc R (ij hi)) r.1 (hq _ rfl (.key hi ⟨_,new rfl,rfl,by rw[r.2.2];rfl⟩))
  |_=>exact ns e
 |_=>exact ns e
theorem zu9 {a:AV}{p:List AV×Option (Nat×AO)}(e:zsa a σ=some p):gp p.2 σ:=by
 cases a with
 |obj o =>
  refine bindE e λob q e=>?_
  cases ob with
  |list ws=>exact eH e λp hp=>br hp▸q
  |dict es ep=>exact eH e λp hp=>br hp▸q
  |_=>exact ns e
 |tup ws=>exact eH e nofun
 |lst ws=>exact eH e nofun
 |rng a c n=>exact eH e nofun
 |str x=>exact eH e nofun
 |_=>exact ns e
end
end Mine.Internal
end
section
namespace Mine.Internal
open PySem PyProof.Rows PySem.W
inductive ItObj (h:Heap)(I:Addr):Prop
 |mk {o:Obj} {T:String} {fs:Array Value}:h.get? I=some o→o.cls=.type T→o.data=.fields fs→(["enumerate", "zip", "dict_itemiterator", "dict_reverseitemiterator", "odict_iterator", "itertools.zip_longest", "itertools.pairwise"].contains T)=false→ItObj h I
theorem ItObj.of {h:Heap}{I:Addr}{T:String}{fs:Array Value}(hx:∃o,h.get? I=some o∧o.cls=.type T∧o.data=.fields fs)(ht:(["enumerate", "zip", "dict_itemiterator", "dict_reverseitemiterator", "odict_iterator", "itertools.zip_longest", "itertools.pairwise"].contains T)=false):ItObj h I :=
 am hx λo q=>⟨q.1,q.2.1,q.2.2,ht⟩
theorem ItAt.obj' {W:Wd}{h:Heap}{I:Addr}{vs:List AV}{g:Option (Nat×AO)}{i:Nat}(x:ItAt W h I vs g i):ItObj h I:=by
 cases x with
 |lst _ _ h=>exact .of h (by decide)
 |obj _ h=>exact .of h (by decide)
 |tup _ _ h=>exact .of h (by decide)
 |rng h=>exact⟨h,rfl,rfl,by decide⟩
 |ascii h=>exact .of h (by decide)
 |wide h=>exact .of h (by decide)
 |key _ h=>exact .of h (by decide)
 |vals _ h=>exact .of h (by decide)
theorem ItAt.letGo {M:Model}{A:Around}{E:Value→Shared→Prop}{s:Shared}{W:Wd}{I:Addr}{vs:List AV}{g:Option (Nat×AO)}{i:Nat}(x:ItAt W s.heap I vs g i){t:Expr}{v:Value}{Q:Unit→Shared→Prop}(hQ:Q () s):wpAny M A (letOwnedTupleGo t (.ref I) v) Q E s:=by
 cases x.obj' with
 |mk h1 h2 h3 h4 =>
  have no:wpAny M A (pure ()) Q E s:=ai hQ
  have key:wpAny M A (letOwnedTupleGo (.List [] ⟨0,0,0,0⟩) (.ref I) v) Q E s:=by
   cases v with
   |ref a =>
    refine aa (wpAny_load h1 ?_)
    refine aw h2 (aw h3 ?_)
    dsimp only
    rw[h4,Bool.false_and]
    exact no
   |_=>exact no
  cases t with
  |Tuple=>exact key
  |List=>exact key
  |_=>exact no
structure ItOk (C:Cx)(env:Env)(W:Wd)(h:Heap)(I:Addr):Prop where
 none:h.get? I=none
 φ:I∉W.φ
 old:C.h₀.get? I=Option.none
 ι:∀q∈W.ι,q.1≠I
 priv:∀p,(p=env.locals∨∃x,env.cells.lookup x=some p)→p≠I
 frm:∀e∈C.fr,e.frame≠some I
section
variable {C:Cx}{n:Nat}{Γ:cA}{env:Env}{W W':Wd}{A:Around}{s:Shared}{st:St}{h h':Heap}{I:Addr}
theorem ItOk.notPriv (x:ItOk C env W h I):I∉Mine.Internal.priv Γ env:=by
 intro q
 rcases au.mp q with q|q
 ·exact x.priv _ (.inl rfl) q.symm
 ·(refine x1a2 (bJ.mp q) λy u1 hy=>?_)
  exact x.priv _ (.inr ⟨y,hy⟩) rfl
theorem LR.but {θ:Nat→Option AV}(L:LR C Γ env W θ h)(hp:∀p,(p=env.locals∨∃x,env.cells.lookup x=some p)→p≠I)(hk:∀b o,b≠I→h.get? b=some o→h'.get? b=some o):LR C Γ env W θ h':=by
 have hk:∀p,(p=env.locals∨∃x,env.cells.lookup x=some p)→∀o,h.get? p=some o→h'.get? p=some o:=λp q o e=>hk p o (hp p q) e
 refine⟨L.kind,L.glob,L.blt,L.names,L.inj,?_,?_,L.cinj,?_,L.top⟩
 ·(refine x1a2 L.loc λm z1 hm=>?_;obtain⟨o,es,ep,ho,r⟩:=z1)
  exact⟨m,⟨o,es,ep,hk _ (.inl rfl) _ ho,r⟩,hm⟩
 ·intro x kd i h1 h2
  (refine x2a4 (L.cel x kd i h1 h2) λc ov hc hne z4 hv=>?_;obtain⟨o,ho,r⟩:=z4)
  exact⟨c,ov,hc,hne,⟨o,hk _ (.inr ⟨x,hc⟩) _ ho,r⟩,hv⟩
 ·intro p hp
  obtain⟨h1,h2,h3,o4,h4⟩:=L.out p hp
  exact⟨h1,h2,h3,o4,hk p hp o4 h4⟩
theorem Rel.but {σ:List AO}(R:Rel C W σ h)(h1:I∉W.φ)(h2:C.h₀.get? I=none)(h3:∀q∈W.ι,q.1≠I)(h4:∀e∈C.fr,e.frame≠some I)(hk:∀b o,b≠I→h.get? b=some o→h'.get? b=some o):Rel C W σ h' :=
 ⟨R.ok,λb x e=>hk b x (λq=>by rw[q,h2]at e;exact ns e) (R.old b x e),λp hq=>hk _ _ (h3 p hq) (R.imm p hq),R.len,R.nodup,R.apart,R.new,R.big,
  λi o a e ea=>(R.objs i o a e ea).same λx hx=>hk a x (λq=>h1 (q▸ij ea)) hx,
  λe he=>by
   obtain⟨g0,L,g1,g2,g3,g4,o,es,ep,g5,g6⟩:=R.frs e he
   exact⟨g0,L,g1,g2,g3,g4,o,es,ep,hk L o (λq=>h4 e he (q▸g1)) g5,g6⟩⟩
theorem Inv.but {h0:Heap}(J:Inv C Γ env W st h)(x:ItOk C env W h0 I)(hk:∀b o,b≠I→h.get? b=some o→h'.get? b=some o):Inv C Γ env W st h' :=
 ⟨J.rel.but x.φ x.old x.ι x.frm hk,J.loc.but x.priv hk⟩
theorem ItOk.keep {π:List Addr}{h0:Heap}(x:ItOk C env W h0 I)(k:Keep W W' π h h')(hI:∃o,h.get? I=some o):ItOk C env W' h0 I:=by
 (refine x1a1 hI λo hI=>?_)
 refine⟨x.none,λq=>?_,x.old,λq hq e=>?_,x.priv,x.frm⟩
 ·have:=k.new I q x.φ;rw[hI]at this;exact sn this
 ·refine cF (k.imm q hq) (λz=>?_) λz=>?_
  ·exact x.ι q z e
  ·rw[e,hI]at z;exact sn z
theorem ItOk.new {st:St}(J:Inv C Γ env W st h):ItOk C env W h h.objs.size :=
 ⟨get?_size h,J.rel.fresh,J.rel.freshOld,λq hq e=>absurd (aR (J.rel.imm q hq)) (by refine aw e ?_;exact bo _),λp hp e=>by
  obtain⟨_,_,_,o,ho⟩:=J.loc.out p hp
  exact absurd (aR ho) (by refine aw e ?_;exact bo _),λe he q=>by
  obtain⟨_,L,g1,_,_,_,o,_,_,g5,_⟩:=J.rel.frs e he
  rw[g1]at q;obtain rfl:=sj q
  exact absurd (aR g5) (bo _)⟩
theorem ItOk.back {π:List Addr}{h0:Heap}(x:ItOk C env W' h I)(k:Keep W W' π h0 h):ItOk C env W' h0 I:=⟨k.back x.none,x.φ,x.old,x.ι,x.priv,x.frm⟩
noncomputable def Made (C:Cx)(Γ:cA)(env:Env)(W:Wd)(s:Shared)(vs:List AV)(g:Option (Nat×AO))(st':St)(Q:Value→Shared→Prop):Prop :=
 ∀I W' h' tk,Inv C Γ env W' st' h'→Keep W W' (priv Γ env) s.heap h'→ItOk C env W' s.heap I→ItAt W' h' I vs g 0→gp g st'.σ→Q (.ref I) (mv s h' tk)
structure Itb (C:Cx)(n:Nat)(Γ:cA)(e:Expr)(f:K (List AV×Option (Nat×AO))):Prop where
 run:∀A env W st (s:Shared),AOk C n A→Inv C Γ env W st s.heap→∀vs g st',f st=some ((vs,g),st')→∀(Q:Value→Shared→Prop) (E:Value→Shared→Prop),Made C Γ env W s vs g st' Q →
  wpAny (model C.prog C.w) A (eval e env) (λx s₁=>wpAny (model C.prog C.w) A (pyIter x) Q E s₁) E s
noncomputable def srcK (a:AV):K (List AV×Option (Nat×AO)):=λst=>(zsa a st.σ).map λp=>(p,st)
theorem Keep.pushed {h:Heap}{π:List Addr}(o:Obj):Keep W W π h (h.push o):=.of (.refl W) (λu1 u2 e u3 u4=>al _ e) (λu1 x e=>⟨x,al _ e⟩) (λu1 h1 h2=>absurd h1 h2) (λu1 h=>.inl h)
theorem Inv.pushed (J:Inv C Γ env W st h)(o:Obj):Inv C Γ env W st (h.push o):=J.but (ItOk.new J) λu1 u2 u3 e=>al _ e
theorem Itb.val {e:Expr}{f:K AV}(he:Ev C n Γ e f):Itb C n Γ e (K.bind f srcK) :=
 ⟨λA env W st s ok J vs g st' e Q E hq=>K.bindE e λa st₁ e1 e=>am (aP.mp e) λp q=>by
  obtain⟨rfl,rfl⟩:=pj q.2
  exact he.run A env W st s ok J _ _ e1 _ _ λva W1 h1 tk1 J1 k1 v1=>ItAt.start (s:=(mv s h1 tk1)) J1.rel v1 q.1 λo u1 hit=>hq _ W1 _ tk1 (J1.pushed o) (k1.trans (.pushed o)) ((ItOk.new J1).back k1) hit (zu9 q.1)⟩
open Classical in
noncomputable def forL (g:Option (Nat×AO))(asg:AV→K Unit)(b o:K Fl):List AV→K Fl
 | []=>K.bind (fw λst=>gp g st.σ) λu1=>o
 |a::r=>K.bind (fw λst=>gp g st.σ) λu1=>K.bind (asg a) λu1=>K.bind b λfl=>match fl with
  |.next | .cont=>forL g asg b o r
  |.brk=>K.ret .next
  |.ret v=>K.ret (.ret v)
theorem ItAt.keep {vs:List AV}{g:Option (Nat×AO)}{k:Nat}{h0:Heap}(i:ItAt W h I vs g k)(x:ItOk C env W h0 I)(K:Keep W W' (Mine.Internal.priv Γ env) h h'):ItAt W' h' I vs g k∧ItOk C env W' h0 I:=by
 cases i.obj' with
 |mk h1 _ h3 _=>exact⟨i.mono K.le λo e=>K.exact e x.φ x.notPriv λes ep q=>(by rw[h1]at e;obtain rfl:=sj e;rw[h3]at q;cases q),x.keep K ⟨_,h1⟩⟩
noncomputable def z2d (r:K Fl):Fl→K Fl
 |.next=>r
 |.cont=>r
 |.brk=>K.ret .next
 |.ret v=>K.ret (.ret v)
theorem zt0 {hb:Heap}{vs:List AV}{gd:Option (Nat×AO)}{j:Nat}{asg:AV→K Unit}{b o:K Fl}{r:Fl×St}{S:Option Value→Shared→Prop}{E:Value→Shared→Prop}(hh:A.handled=none)(J:Inv C Γ env W st s.heap)(x:ItOk C env W hb I)(i:ItAt W s.heap I vs gd j)
  (e:forL gd asg b o (vs.drop j) st=some r)
  (hnil:∀h2 tk2,Inv C Γ env W st h2→(∀b o,b≠I→s.heap.get? b=some o→h2.get? b=some o)→o st=some r→S none (mv s h2 tk2))
  (hcons:∀a v st₁ fl st₂ h2 tk2,j<vs.length→Inv C Γ env W st h2→(∀b o,b≠I→s.heap.get? b=some o→h2.get? b=some o)→VR W a v→ItAt W h2 I vs gd (j+1)→asg a st=some ((),st₁)→b st₁=some (fl,st₂)→z2d (forL gd asg b o (vs.drop (j+1))) fl st₂=some r→S (some v) (mv s h2 tk2)) :
  wpAny (model C.prog C.w) A (pyNext (.ref I)) S E s:=by
 obtain⟨v,st'⟩:=r
 cases hd:vs.drop j with
 |nil =>
  rw[hd]at e
  exact zlw e λhg e=>i.done J.rel hg hh (List.getElem?_eq_none_iff.mpr (List.drop_eq_nil_iff.mp hd)) λh2 tk2 hx=>hnil h2 tk2 (J.but x λb o nb e=>hx b o nb e) (λb o nb e=>hx b o nb e) e
 |cons a r =>
  rw[hd]at e
  have hj:vs[j]?=some a:=by refine dI (List.head?_drop) (aw hd ?_);rfl
  have hr:r=vs.drop (j+1):=by refine dI List.tail_drop (aw hd ?_);rfl
  subst hr
  refine zlw e λhg e=>K.bindE e λu st₁ e1 e=>K.bindE e λfl st₂ e2 e=>i.next J.rel hg hj λw h2 tk2 hw i2 hx=>?_
  have bt:∀b o,b≠I→s.heap.get? b=some o→h2.get? b=some o:=λb o nb e=>(hx.2 b nb).trans e
  exact hcons a w st₁ fl st₂ h2 tk2 (ap.mp hj).1 (J.but x bt) bt hw i2 e1 e2 (by cases fl<;>exact e)
theorem zr1 {j k m:Nat}(h:j<k)(e:k-j=m):k-(j+1)<m:=by exact la63 h e
inductive zzw (C:Cx)(Γ:cA)(env:Env)(W:Wd)(s:Shared)(I:Addr)(vs:List AV)(gd:Option (Nat×AO))(F:List AV→K Fl)(r:Fl×St):Nat→Shared→Prop
 |mk {W₁:Wd} {st₁:St} {h₁:Heap} {tk₁:Nat×Drawn} {j m:Nat}:Inv C Γ env W₁ st₁ h₁→Keep W W₁ (Mine.Internal.priv Γ env) s.heap h₁→ItOk C env W₁ s.heap I→ItAt W₁ h₁ I vs gd j→F (vs.drop j) st₁=some r→vs.length-j=m→zzw C Γ env W s I vs gd F r m (mv s h₁ tk₁)
theorem Ex.for {t it:Expr}{b o:List Stmt}{pos:Pos}{f:K (List AV×Option (Nat×AO))}{asg:AV→K Unit}{g k:K Fl}(hi:Itb C n Γ it f)(ht:As C n Γ t asg)(hb:Exs C n Γ b g)(ho:Exs C n Γ o k)
  (hs:∀env x,foldedSetIterable it env x=pure x) (hcalm:C.calm=true):Ex C n Γ (.For t it b o pos) (K.bind f λp=>forL p.2 asg g k p.1):=by
 refine⟨λA env W st s ok J v st' e Q E hq=>K.bindE e λp st₁ e1 e=>?_⟩
 refine wpAny_For (hi.run A env W st s ok J p.1 p.2 st₁ e1 _ E λI W1 h1 tk1 J1 k1 x1 i1 u1=>?_) (hs env)
 refine codeAny_forLoop_any (zzw C Γ env W s I p.1 p.2 (forL p.2 asg g k) (v,st')) ?_ p.1.length ⟨J1,k1,x1,i1,e,rfl⟩
 clear e e1 J1 i1 k1 x1
 intro m s₁ a
 cases a with
 |mk J₁ k₁ x₁ i₁ e hm =>
  refine zt0 (s:=mv s _ _) (ok.handled hcalm) J₁ x₁ i₁ e (λh2 tk2 J2 bt e=>?_) λa x st₂ fl st₃ h2 tk2 hlt J2 bt vx i2 e3 e4 e=>?_
  ·exact ho.run A env _ _ (mv s h2 tk2) ok J2 _ _ e _ _ λfl W3 h3 tk3 J3 k3 v3=>hq fl W3 h3 tk3 J3 ((k₁.ext x₁.none bt).trans k3) v3
  ·replace k₁:=k₁.ext x₁.none bt
   refine i2.letGo (s:=(mv s h2 tk2)) (ht.run A env _ _ (mv s h2 tk2) a x ok J2 vx _ _ e3 _ _ λu W3 h3 tk3 J3 k3 u1=>?_)
   have y3:=i2.keep x₁ k3
   replace k₁:=k₁.trans k3
   clear i2 x₁ i₁ J₁ J2 vx e3 bt k3
   refine hb.run A env W3 st₂ (mv s h3 tk3) ok J3 _ _ e4 _ _ λfl' W4 h4 tk4 J4 k4 v4=>?_
   have y4:=y3.1.keep y3.2 k4
   replace k₁:=k₁.trans k4
   clear y3 J3 e4 k4
   have again:forL p.2 asg g k (p.1.drop (_+1)) st₃=some (v,st')→∃m',m'<m∧zzw C Γ env W s I p.1 p.2 (forL p.2 asg g k) (v,st') m' (mv s h4 tk4):=λe=>⟨_,zr1 hlt hm,J4,k₁,y4.2,y4.1,e,rfl⟩
   cases v4 with
   |next=>exact again e
   |cont=>exact again e
   |brk=>obtain⟨rfl,rfl⟩:=sp e;exact hq _ W4 h4 tk4 J4 k₁ .next
   |ret hv=>obtain⟨rfl,rfl⟩:=sp e;exact hq _ W4 h4 tk4 J4 k₁ (.ret hv)
end
end Mine.Internal
end
section
namespace Mine.Internal
open PySem PyProof.Rows PySem.W
noncomputable abbrev iE (ifs:List Expr)(env:Env):Sem Bool:=forIn ifs true λc r=>if r=true then do let ok ←isTrue c env (eval c env);pure (ForInStep.yield ok)else pure (ForInStep.yield r)
theorem zkc {elt target iter:Expr}{ifs:List Expr}{gens:List Comprehension}{scope:Scope}{pos:Pos}{it acc:Value}{env:Env}{depth:Nat}(hg:gens[depth]?=some ⟨target,iter,ifs,0⟩)(hn:gens[depth+1]?=none) :
  compTurn (.ListComp elt gens scope pos) depth it acc env=(do
   standAt iter.pos
   match ←pyNext it with
   |none=>pure (.done .next)
   |some v =>
    letOwnedTupleGo target it v
    assign target env v
    let ok ←iE ifs env
    if ok then
     (do let _ ←call (.builtin "list.append") [acc,←eval elt env])
    again (.compLoop (.ListComp elt gens scope pos) depth it acc env)):=by
 unfold compTurn
 dsimp only
 refine aw hg ?_
 refine aw hn ?_
 rfl
theorem zkb {elt target iter t' i':Expr}{ifs ifs':List Expr}{gens:List Comprehension}{scope:Scope}{pos:Pos}{it acc:Value}{env:Env}{depth:Nat}(hg:gens[depth]?=some ⟨target,iter,ifs,0⟩)(hn:gens[depth+1]?=some ⟨t',i',ifs',0⟩) :
  compTurn (.ListComp elt gens scope pos) depth it acc env=(do
   standAt iter.pos
   match ←pyNext it with
   |none=>pure (.done .next)
   |some v =>
    letOwnedTupleGo target it v
    assign target env v
    let ok ←iE ifs env
    if ok then do
      let x ←eval i' env
      standAt i'.pos
      let x ←foldedSetIterable i' env x
      let y ←holding [x] (pyIter x)
      let _ ←runOwn (.compStart (.ListComp elt gens scope pos) (depth+1) y acc env) env
      again (.compLoop (.ListComp elt gens scope pos) depth it acc env)
     else again (.compLoop (.ListComp elt gens scope pos) depth it acc env)):=by
 unfold compTurn
 dsimp only
 refine aw hg ?_
 refine aw hn ?_
 rfl
section
variable {prog:Program}{w:World}{A:Around}{R:Result→Shared→Prop}{s:Shared}
noncomputable def iw (prog:Program)(w:World)(A:Around)(elt:Expr)(gens:List Comprehension)(scope:Scope)(pos:Pos)(depth:Nat)(acc:Value)(env:Env)(Q:Shared→Prop)(E:Value→Shared→Prop)(s:Shared):Prop :=
 match gens[depth+1]? with
 |none=>wpAny (model prog w) A (eval elt env) (λx s₁=>wpAny (model prog w) A (call (.builtin "list.append") [acc,x]) (λu1 s₂=>Q s₂) E s₁) E s
 |some g=>(∀x,foldedSetIterable g.iter env x=pure x)∧wpAny (model prog w) A (eval g.iter env) (λx s₁=>wpAny (model prog w) A (pyIter x) (λit s₂ =>
   codeAny (model prog w) A (.compStart (.ListComp elt gens scope pos) (depth+1) it acc env) (λr s'=>match r with | .ok _=>Q s' | .error e=>cameBackBy (model prog w) A env E e s') s₂) E s₁) E s
noncomputable def z2y (prog:Program)(w:World)(A:Around)(elt:Expr)(gens:List Comprehension)(scope:Scope)(pos:Pos)(depth:Nat)(it acc:Value)(env:Env)(target:Expr)(ifs:List Expr)(R:Result→Shared→Prop)(Q:Shared→Prop)(E:Value→Shared→Prop):Option Value→Shared→Prop
 |none,s₁=>R (.ok .next) s₁
 |some v,s₁=>wpAny (model prog w) A (letOwnedTupleGo target it v) (λu1 s₁'=>wpAny (model prog w) A (assign target env v) (λu1 s₂=>wpAny (model prog w) A (iE ifs env) (λok s₃ =>
      if ok=true then iw prog w A elt gens scope pos depth acc env Q E s₃ else Q s₃) E s₂) E s₁') E s₁
theorem zn9 {target:Expr}{ifs:List Expr}{gens:List Comprehension}{elt:Expr}{scope:Scope}{pos:Pos}{it acc:Value}{env:Env}{depth:Nat}{Q:Shared→Prop}{E:Value→Shared→Prop}{γ:Type}{k:Bool→Sem γ}{S:γ→Shared→Prop}{v:Value}
  (h:wpAny (model prog w) A (letOwnedTupleGo target it v) (λu1 s₁'=>wpAny (model prog w) A (assign target env v) (λu1 s₂=>wpAny (model prog w) A (iE ifs env) (λok s₃ =>
      if ok=true then iw prog w A elt gens scope pos depth acc env Q E s₃ else Q s₃) E s₂) E s₁') E s)
  (hk:∀s,iw prog w A elt gens scope pos depth acc env Q E s→wpAny (model prog w) A (k true) S E s) (hf:∀s,Q s→wpAny (model prog w) A (k false) S E s) :
  wpAny (model prog w) A (do letOwnedTupleGo target it v;assign target env v;let ok ←iE ifs env;k ok) S E s :=
 aa (bm h (λu1 s₂ h₂=>aa (bm h₂ (λu1 s₃ h₃=>aa (bm h₃ (λok s₄ h₄=>by
  cases ok with
  |false=>exact hf _ h₄
  |true=>exact hk _ h₄) λu1 u2 h'=>h')) λu1 u2 h'=>h')) λu1 u2 h'=>h')
theorem ze0 {elt target iter:Expr}{ifs:List Expr}{gens:List Comprehension}{scope:Scope}{pos:Pos}{it acc:Value}{env:Env}{depth:Nat}(hg:gens[depth]?=some ⟨target,iter,ifs,0⟩)(ha:∀g,gens[depth+1]?=some g→g.is_async=0)(I:Nat→Shared→Prop)
  (turn:∀n s,I n s→∀E,wpAny (model prog w) A (pyNext it) (z2y prog w A elt gens scope pos depth it acc env target ifs R (λs₄=>∃m,m<n∧I m s₄) E) E s)
  (n:Nat) (h:I n s):codeAny (model prog w) A (.compLoop (.ListComp elt gens scope pos) depth it acc env) R s:=by
 refine codeAny_loop rfl I (λn s hI=>?_) n h
 show wpAny _ A ((compTurn (.ListComp elt gens scope pos) depth it acc env).onRaise (λx=>do noteFrame x env;theTreesLotGoes x)) _ _ s
 refine wpAny_noted ?_
 have turn:=turn n s hI
 clear hI h
 cases hn:gens[depth+1]? with
 |none =>
  refine aw (zkc hg hn) ?_
  refine aa (bO (aa (bm (turn _) (λr s₁ h₁=>?_) λu1 u2 h'=>h')))
  cases r with
  |none=>exact ai h₁
  |some v =>
   refine zn9 h₁ (λs₃ h₃=>?_) λs₃ h₃=>ai ⟨rfl,h₃⟩
   unfold iw at h₃
   rw[hn]at h₃
   exact aa (aa (bm h₃ (λx s₄ h₄=>aa (bm h₄ (λu1 s₅ h₅=>ai (ai ⟨rfl,h₅⟩)) λu1 u2 h'=>h')) λu1 u2 h'=>h'))
 |some g =>
  obtain⟨t',i',ifs',ia⟩:=g
  obtain rfl:ia=0:=ha _ hn
  refine aw (zkb hg hn) ?_
  refine aa (bO (aa (bm (turn _) (λr s₁ h₁=>?_) λu1 u2 h'=>h')))
  cases r with
  |none=>exact ai h₁
  |some v =>
   refine zn9 h₁ (λs₃ h₃=>?_) λs₃ h₃=>ai ⟨rfl,h₃⟩
   unfold iw at h₃
   rw[hn]at h₃
   refine aa (bm h₃.2 (λx s₅ h₅=>aa (bO (aa (ch (h₃.1 x) (aa (aV (bm h₅ (λy s₆ h₆=>?_) λu1 u2 h'=>h'))))))) λu1 u2 h'=>h')
   refine aa (wpAny_runOwn (codeAny_mono h₆ λr s' hr=>?_))
   cases r with
   |ok f=>exact ai ⟨rfl,hr⟩
   |error e=>exact hr
theorem zek {elt target iter ifs gens scope pos it acc env}{depth:Nat}(hg:gens[depth]?=some ⟨target,iter,ifs,0⟩)
  (h0:codeAny (model prog w) A (.compLoop (.ListComp elt gens scope pos) depth it acc env) R s)
  (h:∀E,wpAny (model prog w) A (pyIter it) (λit' s'=>codeAny (model prog w) A (.compLoop (.ListComp elt gens scope pos) depth it' acc env) R s') E s) :
  codeAny (model prog w) A (.compStart (.ListComp elt gens scope pos) depth it acc env) R s:=by
 refine eZ ?_
 refine wpAny_notedAt ?_
 unfold compStart
 have e:(clausesOf (.ListComp elt gens scope pos))[depth]?=some ⟨target,iter,ifs,0⟩:=hg
 refine aw e ?_
 refine aa (cy (wpAny_ite ?_))
 split
 ·first
   |exact aa (ai (ai (And.intro rfl h0)))
   |exact ai (And.intro rfl h0)
 ·first
   |exact aa (cP (aa (bO (aa (bm (h _) (λit' s' h'=>ai (And.intro rfl h')) λu1 u2 x=>x)))))
   |(refine aa (cP ?_);show wpAny _ _ (standAt iter.pos >>= _) _ _ s;exact aa (bO (aa (bm (h _) (λit' s' h'=>ai (And.intro rfl h')) λu1 u2 x=>x))))
end
theorem ItAt.self {prog:Program}{w:World}{A:Around}{E:Value→Shared→Prop}{s:Shared}{W:Wd}{I:Addr}{vs:List AV}{g:Option (Nat×AO)}{i:Nat}{Q:Value→Shared→Prop}(x:ItAt W s.heap I vs g i)(h:Q (.ref I) s):wpAny (model prog w) A (pyIter (.ref I)) Q E s:=by
 cases x with
 |lst _ _ h3=>exact wpAny_pyIter_listiter h3 h
 |obj _ h3=>exact wpAny_pyIter_listiter h3 h
 |tup _ _ h3=>exact wpAny_pyIter_tupleiter h3 h
 |rng h3=>exact wpAny_pyIter_rangeiter h3 h
 |ascii h3=>exact wpAny_pyIter_striter_ascii h3 h
 |wide h3=>exact wpAny_pyIter_striter_wide h3 h
 |key _ h3=>exact wpAny_pyIter_keyiter h3 h
 |vals _ h3=>exact wpAny_pyIter_valiter h3 h
section
variable {C:Cx}{n:Nat}{Γ:cA}{env:Env}{W W':Wd}{A:Around}{s:Shared}{st:St}{h h':Heap}{I:Addr}
structure Ifs (C:Cx)(n:Nat)(Γ:cA)(ifs:List Expr)(f:K Bool):Prop where
 run:∀A env W st s,AOk C n A→Inv C Γ env W st s.heap→Run C Γ env W A s (iE ifs env) (f st) λu1 a b=>a=b
theorem Ifs.nil:Ifs C n Γ [] (K.ret true):=⟨λA env W st s ok J=>.now J s.toks rfl λQ E h=>ai h⟩
theorem zht {env:Env}:∀(ifs:List Expr),(forIn ifs false λc r=>if r=true then do let ok ←isTrue c env (eval c env);pure (ForInStep.yield ok)else pure (ForInStep.yield r):Sem Bool)=pure false
 | []=>rfl
 |c::r=>by
  rw[eB]
  simp only[bS,if_false]
  exact zht r
theorem Ifs.cons {c:Expr}{r:List Expr}{f g:K Bool}(h:Te C n Γ c f)(hr:Ifs C n Γ r g):Ifs C n Γ (c::r) (K.bind f λb=>if b then g else K.ret false) :=
 ⟨λA env W st s ok J=>.step (k:=λb=>forIn r b λc r=>if r=true then do let ok ←isTrue c env (eval c env);pure (ForInStep.yield ok)else pure (ForInStep.yield r))
  (λQ E h=>by
   unfold iE
   rw[eB,if_pos rfl]
   exact aa (aa (bm h (λb s₁ h₁=>ai h₁) λu1 u2 h=>h)))
  (h.run A env W st s ok J) λb st₁ b' W1 h1 tk1 J1 k1 v1=>by
   subst v1
   cases b with
   |true=>exact hr.run A env W1 st₁ _ ok J1
   |false =>
    rw[zht]
    exact .now J1 tk1.1 rfl λQ E h=>ai h⟩
noncomputable def appD (d:Nat)(x:AV):K Fl:=λst=>(d7 st.σ d).bind λvs=>if vs.length<2^20 then some (.next,⟨st.θ,st.σ.set d (.list (vs++[x]))⟩)else none
structure Lp (C:Cx)(n:Nat)(Γ:cA)(elt:Expr)(gens:List Comprehension)(scope:Scope)(pos:Pos)(depth:Nat)(F:Nat→List AV×Option (Nat×AO)→K Fl):Prop where
 run:∀A env (B:Wd→Heap→Prop) hb W st (s:Shared) d D I vs g,(∀W h W' h',B W h→Keep W W' (priv Γ env) h h'→B W' h')→(∀W h h',B W h→(∀b o,b≠I→h.get? b=some o→h'.get? b=some o)→B W h') →
  AOk C n A→Inv C Γ env W st s.heap→B W s.heap→ItOk C env W hb I→ItAt W s.heap I vs g 0→W.φ[d]?=some D →
  ∀st',F d (vs,g) st=some (.next,st')→∀R:Result→Shared→Prop,(∀W' h' tk,Inv C Γ env W' st' h'→B W' h'→W.Le W'→R (.ok .next) (mv s h' tk)) →
  codeAny (model C.prog C.w) A (.compStart (.ListComp elt gens scope pos) depth (.ref I) (.ref D) env) R s
noncomputable def zwk (C:Cx)(Γ:cA)(env:Env)(W:Wd)(s:Shared)(st':St)(Q:Shared→Prop):Prop:=∀W' h' tk,Inv C Γ env W' st' h'→Keep W W' (priv Γ env) s.heap h'→Q (mv s h' tk)
inductive LpAt (C:Cx)(Γ:cA)(env:Env)(B:Wd→Heap→Prop)(hb:Heap)(W:Wd)(s:Shared)(I:Addr)(vs:List AV)(gd:Option (Nat×AO))(d:Nat)(D:Addr)(F:List AV→K Fl)(r:Fl×St):Nat→Shared→Prop
 |mk {W₁:Wd} {st₁:St} {h₁:Heap} {tk₁:Nat×Drawn} {j m:Nat}:Inv C Γ env W₁ st₁ h₁→B W₁ h₁→W.Le W₁→ItOk C env W₁ hb I→ItAt W₁ h₁ I vs gd j→W₁.φ[d]?=some D→F (vs.drop j) st₁=some r→vs.length-j=m→LpAt C Γ env B hb W s I vs gd d D F r m (mv s h₁ tk₁)
theorem Lp.loop {elt:Expr}{gens:List Comprehension}{scope:Scope}{pos:Pos}{depth:Nat}{target iter:Expr}{ifs:List Expr}{asg:AV→K Unit}{b:Nat→K Fl}
  (hcalm:C.calm=true) (hg:gens[depth]?=some ⟨target,iter,ifs,0⟩) (ha:∀g,gens[depth+1]?=some g→g.is_async=0) (ht:As C n Γ target asg)
  (hb:∀A env W st (s:Shared) d D,AOk C n A→Inv C Γ env W st s.heap→W.φ[d]?=some D→∀fl st',b d st=some (fl,st')→fl=.next∧∀(Q:Shared→Prop) E,zwk C Γ env W s st' Q →
   wpAny (model C.prog C.w) A (iE ifs env) (λok s₃=>if ok=true then iw C.prog C.w A elt gens scope pos depth (.ref D) env Q E s₃ else Q s₃) E s) :
  Lp C n Γ elt gens scope pos depth λd p=>forL p.2 asg (b d) (K.ret .next) p.1:=by
 refine⟨λA env B hb' W st s d D I vs gd c1 c2 ok J k x i hd st' e R hq=>?_⟩
 have main:codeAny (model C.prog C.w) A (.compLoop (.ListComp elt gens scope pos) depth (.ref I) (.ref D) env) R s:=by
  refine ze0 hg ha (LpAt C Γ env B hb' W s I vs gd d D (forL gd asg (b d) (K.ret .next)) (.next,st')) ?_ vs.length (.mk (s:=s) (tk₁:=(s.toks,s.drawn)) J k (.refl _) x i hd e rfl)
  clear e J k x i hd hg ha
  intro m s₁ a E
  cases a with
  |mk J₁ k₁ le₁ x₁ i₁ hd₁ e hm =>
   refine zt0 (s:=mv s _ _) (ok.handled hcalm) J₁ x₁ i₁ e (λh2 tk2 J2 bt e=>?_) λa v st₂ fl st₃ h2 tk2 hlt J2 bt vx i2 e3 e4 e=>?_
   ·cases e
    exact hq _ h2 tk2 J2 (c2 _ _ _ k₁ bt) le₁
   ·refine i2.letGo (s:=(mv s h2 tk2)) (ht.run A env _ _ (mv s h2 tk2) a v ok J2 vx _ _ e3 _ _ λu W3 h3 tk3 J3 k3 u1=>?_)
    have y3:=i2.keep x₁ k3
    replace k₁:=c1 _ _ _ _ (c2 _ _ _ k₁ bt) k3
    replace le₁:=le₁.trans k3.le
    replace hd₁:=k3.le.at hd₁
    clear i2 x₁ i₁ J₁ J2 vx e3 bt k3
    have q:=hb A env W3 st₂ (mv s h3 tk3) d D ok J3 hd₁ fl st₃ e4
    obtain⟨rfl,hb⟩:=q
    refine hb _ _ λW4 h4 tk4 J4 k4=>?_
    have y4:=y3.1.keep y3.2 k4
    exact⟨_,zr1 hlt hm,J4,c1 _ _ _ _ k₁ k4,le₁.trans k4.le,y4.2,y4.1,k4.le.at hd₁,e,rfl⟩
 exact zek hg main λE=>i.self main
theorem Lp.tests {elt:Expr}{gens:List Comprehension}{scope:Scope}{pos:Pos}{depth:Nat}{ifs:List Expr}{t:K Bool}{b:K Fl}(hi:Ifs C n Γ ifs t){D:Addr}{fl:Fl}{st':St}(ok:AOk C n A)(J:Inv C Γ env W st s.heap)(e:K.bind t (λok=>if ok then b else K.ret .next) st=some (fl,st'))
  (hb:∀st₁,b st₁=some (fl,st')→fl=.next∧∀(W1:Wd) (s₁:Shared),W.Le W1→Inv C Γ env W1 st₁ s₁.heap→∀(Q:Shared→Prop) E,zwk C Γ env W1 s₁ st' Q→iw C.prog C.w A elt gens scope pos depth (.ref D) env Q E s₁) :
  fl=.next∧∀(Q:Shared→Prop) E,zwk C Γ env W s st' Q→wpAny (model C.prog C.w) A (iE ifs env) (λok s₃=>if ok=true then iw C.prog C.w A elt gens scope pos depth (.ref D) env Q E s₃ else Q s₃) E s :=
 K.bindE e λc st₁ e1 e2=>by
  cases c with
  |false =>
   obtain⟨rfl,rfl⟩:=sp e2
   refine⟨rfl,λQ E hq=>hi.run A env W st s ok J _ _ e1 _ _ λb W1 h1 tk1 J1 k1 v1=>?_⟩
   subst v1
   exact hq W1 h1 tk1 J1 k1
  |true =>
   have x:=hb st₁ e2
   refine⟨x.1,λQ E hq=>hi.run A env W st s ok J _ _ e1 _ _ λb W1 h1 tk1 J1 k1 v1=>?_⟩
   subst v1
   exact x.2 W1 (mv s h1 tk1) k1.le J1 Q E λW' h' tk J' k'=>hq W' h' tk J' (k1.trans k')
theorem Lp.last {elt:Expr}{gens:List Comprehension}{scope:Scope}{pos:Pos}{depth:Nat}{target iter:Expr}{ifs:List Expr}{asg:AV→K Unit}{t:K Bool}{f:K AV}
  (hcalm:C.calm=true) (hg:gens[depth]?=some ⟨target,iter,ifs,0⟩) (hn:gens[depth+1]?=none) (ht:As C n Γ target asg) (hi:Ifs C n Γ ifs t) (he:Ev C n Γ elt f) :
  Lp C n Γ elt gens scope pos depth λd p=>forL p.2 asg (K.bind t λok=>if ok then K.bind f λv=>appD d v else K.ret .next) (K.ret .next) p.1:=by
 refine Lp.loop hcalm hg (λg e=>nomatch hn.symm.trans e) ht (b:=λd=>K.bind t λok=>if ok then K.bind f λv=>appD d v else K.ret .next) λA env W st s d D ok J hd fl st' e=>Lp.tests hi ok J e λst₁ e=>?_
 refine K.bindE e λx st₂ e3 e4=>bindE (P:=λr=>r.1=Fl.next∧∀(W1:Wd) (s₁:Shared),W.Le W1→Inv C Γ env W1 st₁ s₁.heap→∀(Q:Shared→Prop) E,zwk C Γ env W1 s₁ r.2 Q→iw C.prog C.w A elt gens scope pos depth (.ref D) env Q E s₁) e4 λxs hx e5=>gN e5 λhlt=>⟨rfl,λW1 s₁ le J1 Q E hq=>?_⟩
 unfold iw
 refine aw hn ?_
 exact he.run A env W1 st₁ s₁ ok J1 _ _ e3 _ _ λvx W2 h2 tk2 J2 k2 v2=>lstE J2.rel (k2.le.at (le.at hd)) hx λitems m hgt hr hlen =>
  append_at (s:=(mv s₁ h2 tk2)) hgt (λh' hs ho'=>by
   have y:=J2.rel.upd (o:=.list (xs++[x])) (k2.le.at (le.at hd)) hs ⟨_,_,ho',by refine aw dT ?_;exact hr.append (.one v2)⟩
   exact hq _ _ _ (J2.keep y.1 y.2) (k2.trans y.2.wide)) (by unfold sizeLine;lia)
end
end Mine.Internal
end
section
namespace Mine.Internal
open PySem PyProof.Rows PySem.W
noncomputable def relK (Γ:cA)(n:Str)(k:NameKind):NameKind:=if (k==.free&&(Γ.tab.lookup n).map (λx=>x.1)==some .cell)=true then .cell else k
noncomputable def relN (Γ:cA)(l:List (Str×NameKind)):List (Str×NameKind):=l.map λx=>(x.1,relK Γ x.1 x.2)
noncomputable def scxC (Γ:cA)(sc:Scope):cA:={ tab:=numb 0 (relN Γ sc.names),own:=(sc.names.filter (·.2==.cell)).map (λx=>x.1),comp:=true }
noncomputable def zum (Γ:cA)(sc:Scope):List (Nat×Nat):=(numb 0 sc.names).filterMap λx=>if x.2.1=.free then(Γ.tab.lookup x.1).map λp=>(x.2.2,p.2)else none
noncomputable def θcap (cap:List (Nat×Nat))(θ:Nat→Option AV):Nat→Option AV:=λj=>(cap.lookup j).bind θ
theorem zvl {x:Str}{k:NameKind}{j:Nat}{l:List (Str×NameKind)}{i:Nat}(h:(x,k,j)∈numb i l):i≤j:=by
 induction l generalizing i with
 |nil=>exact nomatch h
 |cons p r ih=>exact mem3 (z:=p.1) (kz:=p.2) (i:=i) (l:=numb (i+1) r) h (λu1 u2 e=>bj e.symm) λh=>dW (ih h)
theorem zhl {x y:Str}{k k':NameKind}{j:Nat}{l:List (Str×NameKind)}{i:Nat}(h:(x,k,j)∈numb i l)(h':(y,k',j)∈numb i l):x=y∧k=k':=by
 induction l generalizing i with
 |nil=>exact nomatch h
 |cons p r ih =>
  have no:∀{x:Str} {k:NameKind},j=i→(x,k,j)∈numb (i+1) r→False:=λe h=>dB _ (e▸zvl h)
  exact mem3 (z:=p.1) (kz:=p.2) (i:=i) (l:=numb (i+1) r) h (λa b c=>mem3 (z:=p.1) (kz:=p.2) (i:=i) (l:=numb (i+1) r) h' (λa' b' u1=>⟨a.trans a'.symm,b.trans b'.symm⟩) λh'=>(no c h').elim)
   λh=>mem3 (z:=p.1) (kz:=p.2) (i:=i) (l:=numb (i+1) r) h' (λu1 u2 c=>(no c h).elim) λh'=>ih h h'
theorem zoo {Γ:cA}{x:Str}{k:NameKind}{j:Nat}{l:List (Str×NameKind)}{i:Nat}(h:(x,k,j)∈numb i (relN Γ l)):∃k0,(x,k0,j)∈numb i l∧k=relK Γ x k0:=by
 induction l generalizing i with
 |nil=>exact nomatch h
 |cons p r ih=>exact mem3 (z:=p.1) (kz:=relK Γ p.1 p.2) (i:=i) (l:=numb (i+1) (relN Γ r)) h (λa b c=>⟨p.2,a▸c▸aj,a▸b⟩) λh=>(ih h).elim λk0 q=>⟨k0,af _ q.1,q.2⟩
theorem zvk {x:Str}{k:NameKind}{j:Nat}{l:List (Str×NameKind)}{i:Nat}(h:(x,k,j)∈numb i l):(x,k)∈l:=by
 induction l generalizing i with
 |nil=>exact nomatch h
 |cons p r ih=>exact mem3 (z:=p.1) (kz:=p.2) (i:=i) (l:=numb (i+1) r) h (λa b u1=>a▸b▸aj) λh=>af _ (ih h)
theorem znw {Γ:cA}{sc:Scope}{j i:Nat}(h:(zum Γ sc).lookup j=some i):∃y k',(y,NameKind.free,j)∈numb 0 sc.names∧Γ.tab.lookup y=some (k',i):=by
 have:=f7 h
 (refine x1a2 (bJ.mp this) λz0 h1 h2=>?_;obtain⟨y,k,j'⟩:=z0)
 dsimp only at h2
 split at h2
 ·rename_i hk
  (refine x1a2 (aP.mp h2) λz0 h3 h4=>?_;obtain⟨k',i'⟩:=z0)
  obtain⟨rfl,rfl⟩:=pj h4
  subst hk
  exact⟨y,k',h1,h3⟩
 ·exact ns h2
noncomputable def clOf (cells:List (Str×Addr)):List (Str×NameKind)→List (Str×Addr)→List (Str×Addr)
 | [],acc=>acc
 |(n,k)::r,acc=>if k=.free then clOf cells r ((n,(cells.lookup n).getD 0)::acc)else clOf cells r acc
theorem zh3 {env:Env}(l:List (Str×NameKind)):∀(acc:List (Str×Addr)),(∀x∈l,x.2=.free→(env.cells.lookup x.1).isSome=true) →
  (forIn l acc λx r=>(match x with|(name,kind)=>if (kind==.free)=true then do let a ←cellOf env name;pure (ForInStep.yield ((name,a)::r))else pure (ForInStep.yield r)):Sem (List (Str×Addr)))=pure (clOf env.cells l acc):=by
 induction l with
 |nil =>
  intro acc _
  exact rfl
 |cons zp r ih =>
  obtain⟨n,k⟩:=zp
  intro acc h
  rw[eB]
  dsimp only
  unfold clOf
  by_cases hk:k=.free
  ·subst hk
   obtain⟨c,hc⟩:=bz.mp (h _ aj rfl)
   have e:cellOf env n=pure c:=by unfold cellOf;exact aw hc rfl
   refine aw (if_pos (show(NameKind.free==NameKind.free)=true from rfl)) (aw (if_pos rfl) (aw e (aw hc ?_)))
   exact ih _ λx hx=>h x (af _ hx)
  ·refine aw (if_neg hk) (aw (if_neg (by simpa using hk)) ?_)
   exact ih _ λx hx=>h x (af _ hx)
theorem zpb {cells:List (Str×Addr)}{y:Str}{c:Addr}{l:List (Str×NameKind)}:∀{acc:List (Str×Addr)},(∀x∈l,x.2=.free→(cells.lookup x.1).isSome=true)→(y,c)∈clOf cells l acc→(y,c)∈acc∨cells.lookup y=some c:=by
 induction l with
 |nil =>
  intro acc _ h
  exact .inl h
 |cons zp r ih =>
  obtain⟨n,k⟩:=zp
  intro acc hs h
  unfold clOf at h
  split at h
  ·rename_i hk
   rcases ih (λx hx=>hs x (af _ hx)) h with h|h
   ·rcases au.mp h with e|h
    ·(refine x1a1 (bz.mp (hs _ aj hk)) λd hd=>?_)
     rw[hd]at e
     obtain⟨rfl,rfl⟩:=pj e
     exact .inr hd
    ·exact .inl h
   ·exact .inr h
  ·exact ih (λx hx=>hs x (af _ hx)) h
theorem zqz {cells:List (Str×Addr)}{y:Str}{l:List (Str×NameKind)}:∀{acc:List (Str×Addr)},(y,NameKind.free)∈l∨(acc.lookup y).isSome=true→((clOf cells l acc).lookup y).isSome=true:=by
 induction l with
 |nil =>
  intro acc h
  exact h.elim (λq=>nomatch q) id
 |cons zp r ih =>
  obtain⟨n,k⟩:=zp
  intro acc h
  unfold clOf
  split
  ·rename_i hk
   refine ih ?_
   rcases h with h|h
   ·rcases au.mp h with e|h
    ·cases e;right;simp[bM]
    ·exact .inl h
   ·right
    simp only[bM]
    cases y==n
    ·exact h
    ·rfl
  ·rename_i hk
   refine ih ?_
   rcases h with h|h
   ·rcases au.mp h with e|h
    ·cases e;exact absurd rfl hk
    ·exact .inl h
   ·exact .inr h
theorem za1:∀(l:List (Str×NameKind)) (n:Nat) (acc:List (Str×Addr)),cellsFrom n l acc=cellsFrom n l []++acc
 | [],_,_=>rfl
 |(x,k)::r,n,acc=>by
  unfold cellsFrom
  split
  ·simp only[za1 r (n+1) ((x,n)::acc),za1 r (n+1) [(x,n)],bf];rfl
  ·exact za1 r n acc
theorem zfy {y:Str}{c:Addr}{l:List (Str×NameKind)}:∀{n:Nat},(y,c)∈cellsFrom n l []→(y,NameKind.cell)∈l:=by
 induction l with
 |nil=>intro n h;cases h
 |cons zp r ih =>
  obtain⟨x,k⟩:=zp
  intro n h
  unfold cellsFrom at h
  split at h
  ·rename_i hk
   rw[za1]at h
   rcases aD.mp h with h|h
   ·exact af _ (ih h)
   ·rw[ac]at h;obtain⟨rfl,rfl⟩:=pj h
    have:k=.cell:=by simpa using hk
    exact aw this aj
  ·exact af _ (ih h)
theorem zdw {α:Type}{y:Str}(l m:List (Str×α)):(l++m).lookup y=(l.lookup y).or (m.lookup y):=by
 induction l with
 |nil=>rfl
 |cons p r ih =>
  rw[List.cons_append,bM,bM]
  cases y==p.1
  ·exact ih
  ·rfl
noncomputable def scOk (Γ:cA)(sc:Scope):Bool :=
 (sc.kind==.function)&&(sc.names.all λx=>(x.2 != .free)||(match Γ.tab.lookup x.1 with|some (.cell,_)=>true|some (.free,_)=>true|_=>false))&&decide ((sc.names.map (λx=>x.1)).Nodup)
theorem ziu {l:List (Str×NameKind)}(h:(l.map (λx=>x.1)).Nodup){x:Str}{k k':NameKind}(h1:(x,k)∈l)(h2:(x,k')∈l):k=k':=by
 induction l with
 |nil=>cases h1
 |cons a r ih =>
  rw[aN,List.nodup_cons]at h
  rcases au.mp h1 with e|h1<;>rcases au.mp h2 with e'|h2
  ·rw[←e']at e;cases e;rfl
  ·subst e;exact absurd (bA (f:=(λx=>x.1)) (show(x,k')∈r from by assumption)) h.1
  ·subst e';exact absurd (bA (f:=(λx=>x.1)) (show(x,k)∈r from by assumption)) h.1
  ·exact ih h.2 h1 h2
theorem zld {l:List (Str×NameKind)}(h:(l.map (λx=>x.1)).Nodup){x:Str}{k:NameKind}(h1:(x,k)∈l):l.lookup x=some k:=by
 induction l with
 |nil=>cases h1
 |cons a r ih =>
  rw[aN,List.nodup_cons]at h
  obtain⟨y,ky⟩:=a
  simp only[bM]
  rcases au.mp h1 with e|h1
  ·obtain⟨rfl,rfl⟩:=pj e;simp
  ·cases hb:x==y with
   |true=>rw[beq_iff_eq.mp hb]at h1;exact absurd (bA h1) h.1
   |false=>exact ih h.2 h1
end Mine.Internal
end
section
namespace Mine.Internal
open PySem PyProof.Rows PySem.W
theorem zkd {env:Env}{sc:Scope}(h:∀x∈sc.names,x.2=.free→(env.cells.lookup x.1).isSome=true):closureFor sc env=pure (clOf env.cells sc.names []):=by
 unfold closureFor
 have:=zh3 (env:=env) sc.names [] h
 refine Eq.trans (congrArg (· >>= λr=>pure r) this) ?_
 rfl
noncomputable def iC (sc:Scope)(env:Env)(L:Addr):Env :=
 { scope:=relabel sc env,locals:=L,globals:=env.globals,cells:=cellsFrom (L+1) sc.names (clOf env.cells sc.names []),qual:=env.qual,func:=none,code:=env.code,frame:=env.frame,builtins:=env.builtins }
noncomputable def ig (sc:Scope)(h:Heap):Heap:=pushCells (h.push { cls:=.type "dict", data:=.dict #[] }) sc.names
theorem zpm {M:Model}{A:Around}{E:Value→Shared→Prop}{s:Shared}{sc:Scope}{env:Env}{cl:List (Str×Addr)}{Q:Env→Shared→Prop}
  (hQ:Q (newEnv sc s.heap.objs.size env.globals (cellsFrom (s.heap.objs.size+1) sc.names cl) env.qual none .none (some env) builtinsNs) { s with heap:=ig sc s.heap }) :
  wpAny M A (newFunctionEnv sc env.globals cl [] env.qual none .none (some env)) Q E s:=by
 simp only[newFunctionEnv,Option.isSome_some,if_true]
 refine aa (wpAny_alloc ?_)
 refine aa (wpAny_layCells _ (λname kind cells=>by cases hkc:kind==NameKind.cell<;>simp[hkc]) _ _ _ _ ?_)
 refine aw (show({ s with heap:=s.heap.push { cls:=.type "dict", data:=.dict #[] } }:Shared).heap.objs.size=s.heap.objs.size+1 from cw ..) ?_
 exact aa (ai (ai hQ))
section
variable {C:Cx}{n:Nat}{Γ:cA}{env:Env}{W W':Wd}{A:Around}{s:Shared}{st:St}{h h':Heap}{sc:Scope}
theorem zk4 (ok:scOk Γ sc=true):sc.kind=.function:=by
 simp only[scOk,aq]at ok
 exact beq_iff_eq.mp ok.1.1
theorem zf7 (ok:scOk Γ sc=true):(sc.names.map (λx=>x.1)).Nodup:=by
 simp only[scOk,aq]at ok
 exact of_decide_eq_true ok.2
theorem zk5 (ok:scOk Γ sc=true){x:Str}(hx:(x,NameKind.free)∈sc.names):∃k i,Γ.tab.lookup x=some (k,i)∧(k=.cell∨k=.free):=by
 simp only[scOk,aq]at ok
 have:=cp.mp ok.1.2 _ hx
 dsimp only at this
 split at this
 ·rename_i e;exact⟨_,_,e,.inl rfl⟩
 ·rename_i e;exact⟨_,_,e,.inr rfl⟩
 ·exact ft this
theorem zp6 (L:LR C Γ env W st.θ h):relabel sc env={ sc with names:=relN Γ sc.names }:=by
 unfold relabel relN
 congr 1
 refine aS λx u1=>?_
 obtain⟨m,k⟩:=x
 dsimp only
 unfold relK
 rw[L.kind,L.names]
 have e:(k==NameKind.free&&ScopeKind.function==ScopeKind.function&&((Γ.tab.lookup m).map (λx=>x.1))==some NameKind.cell)=(k==NameKind.free&&((Γ.tab.lookup m).map (λx=>x.1))==some NameKind.cell):=by
  rw[show(ScopeKind.function==ScopeKind.function)=true from rfl,Bool.and_true]
 refine aw e ?_
 split<;>rfl
theorem zbq {b:Addr}{o:Obj}(e:h.get? b=some o):(ig sc h).get? b=some o:=pushCells_keeps _ _ b o (al _ e)
theorem zh2 (ok:scOk Γ sc=true)(L:LR C Γ env W st.θ h):∀x∈sc.names,x.2=.free→(env.cells.lookup x.1).isSome=true:=by
 rintro⟨x,k⟩ hx rfl
 (refine x2a2 (zk5 ok hx) λk i h1 h2=>?_)
 (refine x2a2 (L.cel x k i h1 h2) λc u1 hc u2=>?_)
 refine aw hc ?_;rfl
theorem zdi (ok : scOk Γ sc = true) (L : LR C Γ env W st.θ h) {y : Str} {c : Addr} (hy : (iC sc env h.objs.size).cells.lookup y = some c) :
   ((y,c)∈cellsFrom (h.objs.size+1) sc.names [])∨((y,NameKind.free)∈sc.names∧env.cells.lookup y=some c):=by
 unfold iC at hy
 dsimp only at hy
 rw[za1,zdw]at hy
 cases e:(cellsFrom (h.objs.size+1) sc.names []).lookup y with
 |some d=>rw[e]at hy;obtain rfl:=sj hy;exact .inl (f7 e)
 |none =>
   rw[e]at hy
   have hy:=f7 (show(clOf env.cells sc.names []).lookup y=some c from hy)
   rcases zpb (zh2 ok L) hy with q|q
   · cases q
   · refine .inr ⟨?_,q⟩
     have:∀{l:List (Str×NameKind)} {acc:List (Str×Addr)},(y,c)∈clOf env.cells l acc→(y,NameKind.free)∈l∨(y,c)∈acc:=by
       intro l
       induction l with
       |nil=>intro acc h;exact .inr h
       |cons a r ih =>
         intro acc h
         obtain⟨z,k⟩:=a
         unfold clOf at h
         split at h
         · rename_i hk
           rcases ih h with q|q
           · exact .inl (af _ q)
           · refine cF (au.mp q) (fun e=>?_) fun q=>?_
             · obtain⟨rfl,rfl⟩:=pj e;subst hk;exact .inl aj
             · exact .inr q
         · rcases ih h with q | q
           · exact .inl (af _ q)
           · exact .inr q
     refine cF (this hy) (λq=>?_) λq=>?_
     · exact q
     · cases q
theorem zqv (ok:scOk Γ sc=true)(J:Inv C Γ env W st h) :
  Inv C (scxC Γ sc) (iC sc env h.objs.size) W ⟨θcap (zum Γ sc) st.θ,st.σ⟩ (ig sc h)∧∀p∈priv (scxC Γ sc) (iC sc env h.objs.size),h.get? p=none:=by
 have L:=J.loc
 have hsz:(h.push { cls:=.type "dict", data:=.dict #[] }).objs.size=h.objs.size+1:=cw ..
 have cok:=cellsFrom_ok sc.names (h.push { cls:=.type "dict", data:=.dict #[] }) (h.objs.size+1) [] ⟨λu1 u2 hm=>(nomatch hm),List.Pairwise.nil⟩ (by rw[hsz];exact aB _)
 rw[hsz]at cok
 have fresh:∀p,h.objs.size≤p→h.get? p=none:=λp hp=>by
  cases e:h.get? p with
  |none=>rfl
  |some o=>exact absurd (aR e) (bl.mpr hp)
 have hfresh:∀p,h.objs.size≤p→p∉W.φ∧C.h₀.get? p=none∧(∀q∈W.ι,q.1≠p):=λp hp=>J.rel.above hp
 have ownge:∀{y c},(y,c)∈cellsFrom (h.objs.size+1) sc.names []→h.objs.size<c∧(ig sc h).IsCell c none:=λhm=>⟨(cok.empty _ _ hm).2,(cok.empty _ _ hm).1⟩
 have cellObj:∀{c},(ig sc h).IsCell c none→∃o,(ig sc h).get? c=some o:=λx=>x1a2 x λo h1 u1=>⟨o,h1⟩
 have hns:(ig sc h).Ns h.objs.size (λu1=>none):=(Heap.Ns.new h (.type "dict")).keeps (pushCells_keeps _ _)
 have notOwn:∀{y:Str} {c},(y,NameKind.free)∈sc.names→(y,c)∉cellsFrom (h.objs.size+1) sc.names []:=λh1 h2=>by
  have:=ziu (zf7 ok) h1 (zfy h2);cases this
 refine⟨⟨?_,⟨?_,L.glob,L.blt,?_,λx y k k' i h1 h2=>zjt h1 h2,⟨_,hns,?_⟩,?_,?_,?_,tf⟩⟩,?_⟩
 ·exact J.rel.ext (π:=[]) (λu1 u2 e u3=>zbq e) (by simp) (by simp)
 ·exact(show sc.kind=.function from zk4 ok)
 ·intro x
  show(relabel sc env).names.lookup x=_
  refine aw (zp6 L) ?_
  exact(zew x (relN Γ sc.names) 0).symm
 ·intro x i a hx ha
  exfalso
  (refine x1a2 (zoo (f7 hx)) λk0 hm hk=>?_)
  unfold θcap at ha
  obtain⟨j,hj,_⟩:=aZ.mp ha
  (refine x2a2 (znw hj) λy k' hy u1=>?_)
  obtain⟨rfl,rfl⟩:=zhl hm hy
  unfold relK at hk
  split at hk<;>cases hk
 ·intro x k i hx hk
  (refine x1a2 (zoo (f7 hx)) λk0 hm hkk=>?_)
  have hin:=zvk hm
  have:k0=.cell∨k0=.free:=by
   rcases hk with rfl|rfl
   ·unfold relK at hkk
    split at hkk
    ·rename_i q
     simp only[aq,beq_iff_eq]at q
     exact .inr q.1
    ·exact .inl hkk.symm
   ·unfold relK at hkk
    split at hkk
    ·cases hkk
    ·exact .inr hkk.symm
  rcases this with rfl|rfl
  ·have:=zfb sc.names (h.objs.size+1) [] (.inr hin)
   (refine x1a1 (bz.mp this) λc hc=>?_)
   have hm':=f7 hc
   refine⟨c,none,?_,bE (ownge hm').1,(ownge hm').2,λa ha=>?_⟩
   ·show(cellsFrom _ _ _).lookup x=_
    rw[za1,zdw,hc];rfl
   ·exfalso
    unfold θcap at ha
    obtain⟨j,hj,_⟩:=aZ.mp ha
    (refine x2a2 (znw hj) λy k' hy u1=>?_)
    obtain⟨_,e⟩:=zhl hm hy
    cases e
  ·(refine x2a2 (zk5 ok hin) fun k1 i1 hg hk1=>?_)
   (refine x2a4 (L.cel x k1 i1 hg hk1) λc ov hc hne hcell hv=>?_)
   have hlt:c<h.objs.size:=by(refine x1a2 hcell λo ho u1=>?_);exact aR ho
   refine⟨c,ov,?_,aL hlt,?_,λa ha=>hv a ?_⟩
   ·show(cellsFrom _ _ _).lookup x=_
    rw[za1,zdw]
    have e1:(cellsFrom (h.objs.size+1) sc.names []).lookup x=none:=by
     cases e:(cellsFrom (h.objs.size+1) sc.names []).lookup x with
     |none=>rfl
     |some d=>exact absurd (f7 e) (notOwn hin)
    refine aw e1 ?_
    obtain⟨d,hd⟩:=bz.mp (zqz (cells:=env.cells) (l:=sc.names) (acc:=[]) (y:=x) (.inl hin))
    rcases zpb (zh2 ok L) (f7 hd)with q|q
    ·cases q
    ·rw[q]at hc;obtain rfl:=sj hc
     exact hd
   ·(refine x1a2 hcell λo ho r=>?_);exact⟨o,zbq ho,r⟩
   ·unfold θcap at ha
    (refine x1a2 (aZ.mp ha) λj hj hj2=>?_)
    (refine x2a2 (znw hj) λy k' hy hy2=>?_)
    obtain⟨rfl,_⟩:=zhl hm hy
    rw[hg]at hy2;obtain⟨rfl,rfl⟩:=sp hy2
    exact hj2
 ·intro x y c hx hy
  rcases zdi ok L hx with q|⟨_,q⟩<;>rcases zdi ok L hy with q'|⟨_,q'⟩
  ·exact name_of_addr cok.apart q q'
  ·exfalso
   obtain⟨_,_,_,o,ho⟩:=L.out c (.inr ⟨y,q'⟩)
   exact absurd (aR ho) (bl.mpr (bG (ownge q).1))
  ·exfalso
   obtain⟨_,_,_,o,ho⟩:=L.out c (.inr ⟨x,q⟩)
   exact absurd (aR ho) (bl.mpr (bG (ownge q').1))
  ·exact L.cinj _ _ _ q q'
 ·intro p hp
  rcases hp with rfl|⟨y,hy⟩
  ·(refine x0a3 (hfresh h.objs.size (aB _)) λa1 a2 a3=>?_)
   exact⟨a1,a2,a3,Ns.lt' hns⟩
  ·rcases zdi ok L hy with q|⟨_,q⟩
   ·(refine x0a3 (hfresh p (bG (ownge q).1)) λa1 a2 a3=>?_)
    exact⟨a1,a2,a3,cellObj (ownge q).2⟩
   ·obtain⟨a1,a2,a3,o,ho⟩:=L.out p (.inr ⟨y,q⟩)
    exact⟨a1,a2,a3,o,zbq ho⟩
 ·intro p hp
  rcases au.mp hp with rfl|hp
  ·exact fresh _ (aB _)
  ·(refine x1a2 (bJ.mp hp) fun y hy hc=>?_)
   rcases zdi ok L hc with q|⟨q,_⟩
   ·exact fresh _ (bG (ownge q).1)
   ·exfalso
    obtain⟨⟨z,k⟩,hz,rfl⟩:=aH.mp hy
    obtain⟨hz1,hz2⟩:=bh.mp hz
    have e:k=.cell:=by simpa using hz2
    have:=ziu (zf7 ok) q hz1
    rw[e]at this;cases this
end
end Mine.Internal
end
section
namespace Mine.Internal
open PySem PyProof.Rows PySem.W
theorem Keep.sub {W W':Wd}{π π':List Addr}{h h':Heap}(x:Keep W W' π h h')(hs:∀p∈π,p∈π'):Keep W W' π' h h' :=
 ⟨x.le,λb o e n1 n2=>x.keep b o e n1 λq=>n2 (hs b q),x.stay,x.new,x.imm⟩
section
variable {C:Cx}{n:Nat}{Γ:cA}{env:Env}{W W':Wd}{A:Around}{s:Shared}{st:St}{h h':Heap}{sc:Scope}
noncomputable def zuk (Γ:cA)(sc:Scope)(f:K (List AV×Option (Nat×AO)))(F:Nat→List AV×Option (Nat×AO)→K Fl):K Nat:=K.bind f λp st =>
 (F st.σ.length p ⟨θcap (zum Γ sc) st.θ,st.σ++[.list []]⟩).bind λr=>match r.1 with
 |.next=>some (st.σ.length,⟨st.θ,r.2.σ⟩)
 |_=>none
noncomputable def z21 (C:Cx)(Γ:cA)(env:Env)(W:Wd)(s:Shared)(d:Nat)(st':St)(Q:Addr→Addr→Shared→Prop):Prop :=
 ∀W' h' tk D L,Inv C Γ env W' st' h'→Keep W W' (priv Γ env) s.heap h'→W'.φ[d]?=some D→ItOk C env W' s.heap L→(∃m,h'.Ns L m)→Q D L (mv s h' tk)
theorem zl7 {elt target iter:Expr}{ifs:List Expr}{rest:List Comprehension}{pos:Pos}{f:K (List AV×Option (Nat×AO))}{F:Nat→List AV×Option (Nat×AO)→K Fl}
  (hit:Itb C n Γ iter f) (hF:Lp C n (scxC Γ sc) elt (⟨target,iter,ifs,0⟩::rest) sc pos 0 F) (hok:scOk Γ sc=true) (hs:∀env x,foldedSetIterable iter env x=pure x) (ok:AOk C n A) (J:Inv C Γ env W st s.heap) {d:Nat} {st':St} (e:zuk Γ sc f F st=some (d,st'))
  {ps:Pos} {use:Option (Value→Sem Unit)} {Q:Value→Shared→Prop} {E:Value→Shared→Prop}
  (hq:z21 C Γ env W s d st' λD L s'=>compPost (model C.prog C.w) A E use Q (.ref D) L (.ok .next) s') :
  wpAny (model C.prog C.w) A (comprehension (.ListComp elt (⟨target,iter,ifs,0⟩::rest) sc pos) sc env ps (newList []) false (eval iter env) use) Q E s:=by
 refine K.bindE e λp st₁ e1 e2=>am (aZ.mp e2) λr q=>?_
 clear e e2
 obtain⟨fl,st₂⟩:=r
 cases fl with
 |brk=>exact ns q.2
 |cont=>exact ns q.2
 |ret v=>exact ns q.2
 |next =>
 have e3:=q.1
 obtain⟨rfl,rfl⟩:=sp q.2
 clear q
 refine wpAny_comprehension_free rfl (hs env) (zkd (zh2 hok J.loc)) (zk4 hok) (λx hx hl=>zld (zf7 hok) (by refine dI hl ?_;exact hx)) ?_
 refine hit.run A env W st s ok J p.1 p.2 st₁ e1 _ _ λI W1 h1 tk1 J1 k1 x1 i1 u1=>?_
 have hor:OR ⟨W1.φ++[h1.objs.size],W1.ι⟩ (h1.push { cls:=.type "list", data:=.seq ([]:List Value).toArray }) (.list []) h1.objs.size:=⟨_,_,aF _ rfl,.nil⟩
 obtain⟨R2,k2⟩:=J1.rel.pushObj { cls:=.type "list", data:=.seq ([]:List Value).toArray } (.list []) hor
 have J2:=J1.keep R2 k2
 refine dK ?_
 dsimp only
 (refine x0a2 (zqv (sc:=sc) hok J2) λJ3 hfr=>?_)
 refine zpm ?_
 generalize hh2:h1.push { cls:=.type "list", data:=.seq ([]:List Value).toArray }=h2 at *
 cases i1.obj' with
 | @mk oI _ _ hI _ _ _ =>
 have hI2:h2.get? I=some oI:=by rw[←hh2];exact al _ hI
 have x2:=x1.keep k2 ⟨oI,hI⟩
 have ILt:I<h2.objs.size:=aR hI2
 have x3:ItOk C (iC sc env h2.objs.size) ⟨W1.φ++[h1.objs.size],W1.ι⟩ s.heap I:=by
  refine⟨x2.none,x2.φ,x2.old,x2.ι,λp hp=>?_,x2.frm⟩
  rcases hp with rfl|⟨y,hy⟩
  ·exact bE ILt
  ·rcases zdi hok J2.loc hy with q|⟨_,q⟩
   ·have:h2.get? p=none:=hfr p (af _ (bJ.mpr ⟨y,?_,hy⟩))
    ·intro e;rw[e,hI2]at this;exact sn this
    ·have:=zfy q
     exact aH.mpr ⟨(y,.cell),bh.mpr ⟨this,rfl⟩,rfl⟩
   ·exact x2.priv p (.inr ⟨y,q⟩)
 have i3:ItAt ⟨W1.φ++[h1.objs.size],W1.ι⟩ (ig sc h2) I p.1 p.2 0:=i1.mono k2.le λo e=>zbq (by exact dI hh2 (al _ e))
 have hdD:(W1.φ++[h1.objs.size])[st₁.σ.length]?=some h1.objs.size:=by refine dI J1.rel.len ?_;simp
 have hout:∀p,(p=env.locals∨∃x,env.cells.lookup x=some p)→p∉priv (scxC Γ sc) (iC sc env h2.objs.size):=λp hp q=>by
  obtain⟨_,_,_,o,ho⟩:=J2.loc.out p hp
  rw[hfr p q]at ho;exact ns ho
 have hback:∀p,h2.get? p=none→s.heap.get? p=none:=λp q=>k1.back (k2.back q)
 let B:Wd→Heap→Prop:=λW' h'=>Keep W W' (priv Γ env++priv (scxC Γ sc) (iC sc env h2.objs.size)) s.heap h'∧LR C Γ env W' st₁.θ h'
 have hB:B ⟨W1.φ++[h1.objs.size],W1.ι⟩ (ig sc h2):=by
  have kk:Keep W ⟨W1.φ++[h1.objs.size],W1.ι⟩ (priv Γ env++priv (scxC Γ sc) (iC sc env h2.objs.size)) s.heap h2:=(k1.trans k2.wide).sub λp hp=>bK _ hp
  have k3:Keep (⟨W1.φ++[h1.objs.size],W1.ι⟩:Wd) ⟨W1.φ++[h1.objs.size],W1.ι⟩ [] h2 (ig sc h2):=.of (.refl _) (λu1 u2 e u3 u4=>zbq e) (λu1 o e=>⟨o,zbq e⟩) (λu1 h1 h2=>absurd h1 h2) (λu1 h=>.inl h)
  exact⟨kk.trans k3.wide,J2.loc.keep k3⟩
 refine hF.run A (iC sc env h2.objs.size) B s.heap ⟨W1.φ++[h1.objs.size],W1.ι⟩ ⟨θcap (zum Γ sc) st₁.θ,st₁.σ++[.list []]⟩ (mv s (ig sc h2) tk1) st₁.σ.length h1.objs.size I p.1 p.2 ?_ ?_ ok J3 hB x3 i3 hdD st₂ e3 _ λW' h' tk J' b' le'=>?_
 ·exact λW h W' h' b k=>⟨b.1.trans (k.sub λp hp=>cx _ hp),b.2.keep' k hout⟩
 ·exact λW h h' b k=>⟨b.1.ext x1.none k,b.2.but x1.priv k⟩
 ·refine hq W' h' tk h1.objs.size h2.objs.size ⟨J'.rel,b'.2⟩ ?_ (le'.at hdD) ?_ (x1a2 J'.loc.loc λm hm u1=>⟨m,hm⟩)
  ·refine⟨b'.1.le,λb o e n1 n2=>b'.1.keep b o e n1 λq=>?_,b'.1.stay,b'.1.new,b'.1.imm⟩
   rcases aD.mp q with q|q
   ·exact n2 q
   ·rw[hback b (hfr b q)]at e;exact ns e
  ·have hL:=J'.loc.out h2.objs.size (.inl rfl)
   refine⟨hback _ (get?_size h2),hL.1,hL.2.1,hL.2.2.1,λp hp e=>?_,(ItOk.new J2).frm⟩
   obtain⟨_,_,_,o,ho⟩:=J2.loc.out p hp
   rw[e,get?_size]at ho;exact ns ho
theorem Ev.comp {elt target iter:Expr}{ifs:List Expr}{rest:List Comprehension}{pos:Pos}{f:K (List AV×Option (Nat×AO))}{F:Nat→List AV×Option (Nat×AO)→K Fl}
  (hit:Itb C n Γ iter f) (hF:Lp C n (scxC Γ sc) elt (⟨target,iter,ifs,0⟩::rest) sc pos 0 F) (hok:scOk Γ sc=true) (hs:∀env x,foldedSetIterable iter env x=pure x) :
  Ev C n Γ (.ListComp elt (⟨target,iter,ifs,0⟩::rest) sc pos) (K.bind (zuk Γ sc f F) λd=>K.ret (.obj d)):=by
 refine⟨λA env W st s ok J v st' e Q E hq=>K.bindE e λd st₁ e1 e2=>?_⟩
 obtain⟨rfl,rfl⟩:=sp e2
 simp only[eval_ListComp]
 refine zl7 hit hF hok hs ok J e1 (use:=none) λW' h' tk D L J' k' hd x' hn=>am hn λm hm=>⟨m,hm,λh'' hs''=>?_⟩
 have hk:∀b o,b≠L→h'.get? b=some o→h''.get? b=some o:=λb o nb e=>(hs''.2 b nb).trans e
 exact hq _ W' h'' tk (J'.but x' hk) (k'.ext x'.none hk) (.obj hd)
theorem Ex.assignComp {elt target iter:Expr}{ifs:List Expr}{rest:List Comprehension}{pos spos px:Pos}{x:Str}{i:Nat}{f:K (List AV×Option (Nat×AO))}{F:Nat→List AV×Option (Nat×AO)→K Fl}
  (hit:Itb C n Γ iter f) (hF:Lp C n (scxC Γ sc) elt (⟨target,iter,ifs,0⟩::rest) sc pos 0 F) (hok:scOk Γ sc=true) (hs:∀env x,foldedSetIterable iter env x=pure x)
  (hx:Γ.tab.lookup x=some (.local,i)) (hline:(px.line==(Expr.ListComp elt (⟨target,iter,ifs,0⟩::rest) sc pos).pos.line)=true) (hno:(sc.names.any λy=>y.1==x&&(y.2==.local||y.2==.cell))=false) :
  Ex C n Γ (.Assign [.Name x px] (.ListComp elt (⟨target,iter,ifs,0⟩::rest) sc pos) spos) (K.bind (zuk Γ sc f F) λd=>K.bind (setv i (.obj d)) λu1=>K.ret .next):=by
 refine⟨λA env W st s ok J v st' e Q E hq=>K.bindE e λd st₁ e1 e2=>K.bindE e2 λu1 st₂ e3 e4=>?_⟩
 obtain⟨rfl,rfl⟩:=sp e4
 clear e e2
 have hsw:swapsWith (.ListComp elt (⟨target,iter,ifs,0⟩::rest) sc pos) (some (.Name x px)) spos.line env=pure true:=by
  unfold swapsWith Env.blockKind
  refine aw J.loc.kind ?_
  show(pure _:Sem Bool)=pure true
  simp only[J.loc.names,hx,hline,hno]
  rfl
 refine aw (exec_Assign_Name_used _ _ _ _ hsw) ?_
 refine aa (bO (aa ?_))
 refine aa (bm (zl7 hit hF hok hs ok J e1 (use:=some (PySem.assign (.Name x px) env)) (Q:=λu1 s'=>Q .next s') (E:=E) λW' h' tk D L J' k' hd x' hn=>am hn λm hm=>?_) (λu1 s' hq=>ai (ai hq)) λu1 u2 e=>e)
 refine wpAny_assign_Name (zfg (s:=(mv s h' tk)) hx J' (.obj hd) _ _ e3 _ _ λu1 W2 h2 tk2 J2 k2 u2=>?_)
 have hm2:∃o,h'.get? L=some o∧h2.Ns L m:=by
  (refine x3a2 (id hm) λo es ep ho r=>?_)
  (refine x1a2 (k2.keep L o ho x'.φ x'.notPriv) λsl ho' u1=>?_)
  exact⟨o,ho,_,es,ep,ho',r⟩
 refine am hm2 λoL hm2=>⟨m,hm2.2,λh'' hs''=>?_⟩
 have hk:∀b o,b≠L→h2.get? b=some o→h''.get? b=some o:=λb o nb e=>(hs''.2 b nb).trans e
 have x2:=x'.keep k2 ⟨oL,hm2.1⟩
 exact hq _ W2 h'' tk2 (J2.but x2 hk) ((k'.trans k2).ext x2.none hk) .next
end
end Mine.Internal
end
section
namespace Mine.Internal
open PySem PyProof.Rows PySem.W PySem.SeqAt
noncomputable def iG (f:AV→Option PyData):List AV→Option (List PyData)
 | []=>some []
 |a::r=>(f a).bind λd=>(iG f r).map λds=>d::ds
noncomputable def znv (σ:List AO)(f:AV→Option PyData):AV→Option PyData
 |.none=>some .none
 |.bool b=>some (.bool b)
 |.int i=>some (.int i)
 |.str x=>some (.str x)
 |.tup vs=>(iG f vs).map .tuple
 |.lst vs=>(iG f vs).map .list
 |.obj i=>(d7 σ i).bind λvs=>(iG f vs).map .list
 |_=>none
noncomputable def gr (σ:List AO):Nat→AV→Option PyData
 |0=>znv σ λu1=>none
 |k+1=>znv σ (gr σ k)
noncomputable def ff (σ:List AO)(a:AV):Option PyData:=(gr σ 8 a).bind λd=>if shaped d=true then some d else none
noncomputable def zo8 (σ:List AO)(l:List AV):Option (List PyData):=iG (ff σ) l
noncomputable def Dat (h:Heap)(v:Value)(d:PyData):Prop:=∃as,Reads h v d as
theorem zdz {W:Wd}{h:Heap}{f:AV→Option PyData}(hf:∀a v d,f a=some d→VR W a v→Dat h v d){l:List AV}:∀{vs:List Value} {ds:List PyData},iG f l=some ds→VRs W l vs→∃as,ReadsAll h vs ds as:=by
 induction l with
 |nil=>exact λ{vs ds} e hv=>hv.nilE (eH e ⟨_,.nil⟩)
 |cons a r ih=>exact λ{vs ds} e hv=>hv.consE λv vs h hr=>bindE e λd e1 e=>mapE e λds e2=>am (hf a v d e1 h) λas h1=>am (ih e2 hr) λbs h2=>⟨_,.cons h1 h2⟩
theorem zfv {C:Cx}{W:Wd}{σ:List AO}{h:Heap}(R:Rel C W σ h){f:AV→Option PyData}(hf:∀a v d,f a=some d→VR W a v→Dat h v d){a:AV}{v:Value}{d:PyData}(e:znv σ f a=some d)(hv:VR W a v):Dat h v d:=by
 cases a with
 |none=>exact eH e (hv.noneE rfl ⟨_,.none⟩)
 |bool b=>cases hv;exact eH e ⟨_,.bool b⟩
 |int i=>exact eH e (hv.intE rfl λt=>⟨_,.int i t⟩)
 |str x=>exact eH e (hv.strE rfl λt=>⟨_,.str x t⟩)
 |tup vs=>exact hv.tupE rfl λl items n h1 h2=>mapE e λds e1=>am (zdz hf e1 h2) λas h3=>⟨_,.tuple (R.imm _ h1) rfl rfl h3⟩
 |lst vs=>exact hv.lstE rfl λl items n h1 h2=>mapE e λds e1=>am (zdz hf e1 h2) λas h3=>⟨_,.list (R.imm _ h1) rfl rfl h3⟩
 |obj i=>exact hv.objE rfl λl hl=>bindE e λvs e0 e=>lstE R hl e0 λitems n h1 h2 u1=>mapE e λds e1=>am (zdz hf e1 h2) λas h3=>⟨_,.list h1 rfl rfl h3⟩
 |_=>exact ns e
theorem znu {C:Cx}{W:Wd}{σ:List AO}{h:Heap}(R:Rel C W σ h)(k:Nat):∀(a:AV) (v:Value) (d:PyData),gr σ k a=some d→VR W a v→Dat h v d:=by
 induction k with
 |zero=>exact λa v d e hv=>zfv R (λa v d (e:none=some d)=>ns e) e hv
 |succ k ih=>exact λa v d e hv=>zfv R ih e hv
noncomputable def DatS (h:Heap)(v:Value)(d:PyData):Prop:=∃as,Reads h v d as∧shaped d=true
theorem zdh {C:Cx}{W:Wd}{σ:List AO}{h:Heap}(R:Rel C W σ h){a:AV}{v:Value}{d:PyData}(e:ff σ a=some d)(hv:VR W a v):DatS h v d :=
 bindE e λd' e1 e=>gN e λhs=>am (znu R 8 a v _ e1 hv) λas r=>⟨as,r,hs⟩
section
variable {C:Cx}{n:Nat}{Γ:cA}{env:Env}{W:Wd}{A:Around}{s:Shared}{st:St}
theorem zua {v u:Value}{d e:PyData}(h1:DatS s.heap v d)(h2:DatS s.heap u e)(hu:A.units+64<cLine):EqAt A s v u (PyData.eqv d e) :=
 am h1 λas p=>am h2 λbs q=>eqAt_reads d e A s v u as bs p.1 q.1 (canLay_of_shaped p.2) (canLay_of_shaped q.2) (room_of_shaped p.2 hu)
open Classical in
noncomputable def isEq (h:Heap)(dx:PyData)(y:Value):Bool:=decide (∃d as,Reads h y d as∧shaped d=true∧PyData.eqv d dx=true)
open Classical in
theorem ztp {h:Heap}{dx d:PyData}{y:Value}(r:DatS h y d):isEq h dx y=PyData.eqv d dx:=by
 (refine x1a2 r λas r s1=>?_)
 unfold isEq
 cases e:PyData.eqv d dx with
 |true=>exact decide_eq_true ⟨d,as,r,s1,e⟩
 |false =>
  refine decide_eq_false ?_
  (intro zz;refine x2a3 zz λd' as' r' u1 e'=>?_)
  have:=Reads.unique d d' y as as' (canLay_of_shaped s1) r r'
  subst this
  rw[e]at e';exact ft e'
inductive DatsS (h:Heap):List Value→List PyData→Prop
 |nil:DatsS h [] []
 |cons {v d vs ds}:DatS h v d→DatsS h vs ds→DatsS h (v::vs) (d::ds)
theorem zw7 {σ:List AO}{h:Heap}(R:Rel C W σ h){l:List AV}:∀{vs:List Value} {ds:List PyData},zo8 σ l=some ds→VRs W l vs→DatsS h vs ds:=by
 induction l with
 |nil=>exact λ{vs ds} e hv=>hv.nilE (eH e .nil)
 |cons a r ih=>exact λ{vs ds} e hv=>hv.consE λv vs h hr=>bindE e λd e1 e=>mapE e λds e2=>.cons (zdh R e1 h) (ih e2 hr)
theorem DatsS.any {h:Heap}{dx:PyData}{vs:List Value}{ds:List PyData}(x:DatsS h vs ds):vs.any (isEq h dx)=ds.any (PyData.eqv · dx):=by
 induction x with
 |nil=>rfl
 |cons p _ ih=>simp only[fg,fg,ih,ztp p]
theorem DatsS.eqAt {dx:PyData}{va:Value}{vs:List Value}{ds:List PyData}(x:DatsS s.heap vs ds)(hd:DatS s.heap va dx)(hu:A.units+64<cLine):∀y∈vs,EqAt A s y va (isEq s.heap dx y):=by
 induction x with
 |nil=>exact λu1 h=>nomatch h
 |cons p _ ih=>exact λy hy=>(au.mp hy).elim (λe=>by refine aw e (aw (ztp p) ?_);exact zua p hd hu) (ih y)
end
end Mine.Internal
end
section
namespace Mine.Internal
open PySem PyProof.Rows PySem.W PySem.SeqAt
noncomputable def LtAt (A:Around)(s:Shared)(y x:Value)(b:Bool):Prop :=
 ∀(prog:Program) (w:World) (E:Value→Shared→Prop) (Q:Value→Shared→Prop),Q (.bool b) s→wpAny (model prog w) A (richCompare .Lt y x) Q E s
inductive iz (A:Around)(s:Shared)(fin k:Bool):List (Value×Value)→Prop
 |nil:k=fin→iz A s fin k []
 |eq {x y r}:EqAt A s x y true→iz A s fin k r→iz A s fin k ((x,y)::r)
 |lt {x y r}:EqAt A s x y false→LtAt A s x y k→iz A s fin k ((x,y)::r)
theorem zpp (l b:Addr)(items items2:Array Value)(n n2:Nat)(dd dd2:Option Addr)(sl sl2:Array (Option Value))(k:Bool) :
  Meets (Builtin.«tuple.__lt__» ⟨[.ref l,.ref b],[]⟩)
   (λA R s=>s.heap.get? l=some { cls:=.type "tuple", dict:=dd,data:=.seq items n,slots:=sl }∧s.heap.get? b=some { cls:=.type "tuple", dict:=dd2,data:=.seq items2 n2,slots:=sl2 } ∧
    iz A.in1 s (decide (items.size<items2.size)) k (items.toList.zip items2.toList) ∧
    R (.ok (.ret (.bool k))) s) :=
 .of_wp λprog w A R s h=>by
  obtain⟨hp,g,d,tk,os⟩:=s;obtain⟨hl,hb,he,h⟩:=h
  have f2:=AutoSeq1.sub_tuple_tuple
  wp_walk using bQ hl,bQ hb,wpAny_forIn_list _ (λrest b s'=>b.1=none∧s'=⟨hp,g,d,tk,os⟩∧iz A.in1 ⟨hp,g,d,tk,os⟩ (decide (items.size<items2.size)) k rest∧R (.ok (.ret (.bool k))) ⟨hp,g,d,tk,os⟩) _
  case turn =>
   rintro⟨y,x⟩ rest b s' ⟨hb',rfl,hz,hR⟩
   cases hz with
   |eq h1 h2 =>
    refine aa (h1 prog w _ _ ?_)
    wp_walk
    exact⟨rfl,rfl,h2,hR⟩
   |lt h1 h2 =>
    refine aa (h1 prog w _ _ ?_)
    simp only[Bool.not_false,if_true]
    refine aa (cP (aa (h2 prog w _ _ ?_)))
    wp_walk
    exact⟨_,rfl,hR⟩
  case fin =>
   rintro⟨b1,b2⟩ s' ⟨hb',rfl,hz,hR⟩
   simp only at hb'
   subst hb'
   cases hz with
   |nil hz =>
    subst hz
    wp_walk
    exact⟨_,rfl,by simpa[Builtin.Tuple.tupleCompareSizes]using hR⟩
  case h =>
   exact⟨rfl,rfl,he,h⟩
theorem zs8 (l b:Addr)(items items2:Array Value)(n n2:Nat)(dd dd2:Option Addr)(sl sl2:Array (Option Value))(r:Bool)(k:Nat) :
  ∀i:Nat,min items.size items2.size-i=k→Meets (Builtin.«list.__eq__.loop» ⟨[.ref l,.ref b,rawInt i,rawInt 0],[]⟩)
   (λA R s=>s.heap.get? l=some { cls:=.type "list", dict:=dd,data:=.seq items n,slots:=sl }∧s.heap.get? b=some { cls:=.type "list", dict:=dd2,data:=.seq items2 n2,slots:=sl2 } ∧
    iz A.in1 s (decide (items.size<items2.size)) r ((items.toList.zip items2.toList).drop i) ∧
    R (.ok (.ret (.bool r))) s):=by
 have hZ:(items.toList.zip items2.toList).length=min items.size items2.size:=by simp
 induction k with
 |zero =>
  intro i hk prog w A R s h
  obtain⟨hp,g,d,tk,os⟩:=s;obtain⟨hl,hb,he,h⟩:=h
  rw[List.drop_of_length_le (by omega)]at he
  cases he with
  |nil hz =>
   subst hz
   wp_walk using bQ hl,bQ hb
   by_cases h1:i<items.size
   ·have hi1:items[((i:Nat):Int).toNat]?=some items[i]:=by simp[h1]
    have hi2:items2[((i:Nat):Int).toNat]?=none:=by simp;omega
    rw[hi1,hi2]
    wp_walk using bQ hl,bQ hb
    exact h
   ·have hi1:items[((i:Nat):Int).toNat]?=none:=by simp;exact la71 h1
    rw[hi1]
    wp_walk using bQ hl,bQ hb
    exact h
 |succ k ih =>
  intro i hk prog w A R s h
  obtain⟨hp,g,d,tk,os⟩:=s;obtain⟨hl,hb,he,h⟩:=h
  have hlt:i<items.size:=by exact la48 hk
  have hlt2:i<items2.size:=by exact la56 hk
  have hi1:items[((i:Nat):Int).toNat]?=some items[i]:=by simp[hlt]
  have hi2:items2[((i:Nat):Int).toNat]?=some items2[i]:=by simp[hlt2]
  have hd:(items.toList.zip items2.toList).drop i=(items[i],items2[i])::(items.toList.zip items2.toList).drop (i+1):=by
   rw[List.drop_eq_getElem_cons (by omega)];simp
  have hc:((i:Int)+1)=((i+1:Nat):Int):=by push_cast;rfl
  rw[hd]at he
  wp_walk using bQ hl,bQ hb
  rw[hi1,hi2]
  cases he with
  |eq h1 h2 =>
   refine aa (h1 prog w _ _ ?_)
   wp_walk
   rw[hc]
   exact⟨cS cz _,cb PySem.MeetsSeq3.entry_eq_loop (by
    rw[bT cz _]
    exact ih (i+1) (by exact congrArg Nat.pred hk) prog w A R _ ⟨hl,hb,h2,h⟩)⟩
  |lt h1 h2 =>
   refine aa (h1 prog w _ _ ?_)
   simp only[bS,if_false]
   refine aa (fM hl rfl (aa (fM hb rfl ?_)))
   rw[hi1,hi2]
   simp only[]
   refine aa (h2 prog w _ _ ?_)
   wp_walk
   exact h
theorem zlj (l b:Addr)(items items2:Array Value)(n n2:Nat)(dd dd2:Option Addr)(sl sl2:Array (Option Value))(r:Bool) :
  Meets (Builtin.«list.__lt__» ⟨[.ref l,.ref b],[]⟩)
   (λA R s=>s.heap.get? l=some { cls:=.type "list", dict:=dd,data:=.seq items n,slots:=sl }∧s.heap.get? b=some { cls:=.type "list", dict:=dd2,data:=.seq items2 n2,slots:=sl2 } ∧
    iz A.in1 s (decide (items.size<items2.size)) r (items.toList.zip items2.toList) ∧
    R (.ok (.ret (.bool r))) s):=by
 intro prog w A R s h
 obtain⟨hp,g,d,tk,os⟩:=s;obtain⟨hl,hb,he,h⟩:=h
 have f3:=AutoSeq1.sub_list_list
 wp_walk using bQ hl,bQ hb
 exact⟨cS cz _,cb PySem.MeetsSeq3.entry_eq_loop (by
  rw[bT cz _]
  exact zs8 l b items items2 n n2 dd dd2 sl sl2 r _ 0 rfl prog w A R _ ⟨hl,hb,he,h⟩)⟩
noncomputable def dInt?:PyData→Option Int
 |.int x=>some x
 |_=>none
noncomputable def dTup?:PyData→Option (List PyData)
 |.tuple xs=>some xs
 |_=>none
noncomputable def dLst?:PyData→Option (List PyData)
 |.list xs=>some xs
 |_=>none
noncomputable def gY (f:PyData→PyData→Option Bool):List PyData→List PyData→Option Bool
 | [],ys=>some (!ys.isEmpty)
 |_::_,[]=>some false
 |x::xs,y::ys=>if PyData.eqv x y=true then gY f xs ys else f x y
noncomputable def ltI (a b:PyData):Option Bool:=(dInt? a).bind λx=>(dInt? b).map λy=>decide (x<y)
noncomputable def ltT (f:PyData→PyData→Option Bool)(a b:PyData):Option Bool:=(dTup? a).bind λxs=>(dTup? b).bind λys=>gY f xs ys
noncomputable def ltL (f:PyData→PyData→Option Bool)(a b:PyData):Option Bool:=(dLst? a).bind λxs=>(dLst? b).bind λys=>gY f xs ys
noncomputable def iu {α:Type}(x y:Option α):Option α:=match x with
 |some a=>some a
 |none=>y
theorem zfo {α:Type}{x y:Option α}{a:α}{P:Prop}(e:iu x y=some a)(h1:x=some a→P)(h2:y=some a→P):P:=by
 cases x with
 |none=>exact h2 e
 |some b=>exact h1 e
noncomputable def f9:Nat→PyData→PyData→Option Bool
 |0,a,b=>ltI a b
 |k+1,a,b=>iu (ltI a b) (iu (ltT (f9 k) a b) (ltL (f9 k) a b))
theorem DatS.int {h:Heap}{v:Value}{d:PyData}{x:Int}(r:DatS h v d)(e:dInt? d=some x):∃t,v=.int x t:=by
 obtain⟨as,r,_⟩:=r
 cases r<;>cases e
 exact⟨_,rfl⟩
theorem zk3 {xs:List PyData}(h1:PyData.canLayAll0 xs=true)(h2:PyData.depthAll xs≤64):∀x∈xs,shaped x=true:=by
 induction xs with
 |nil=>exact λu1 h=>nomatch h
 |cons x r ih =>
  rw[PyData.canLayAll0,aq]at h1
  rw[PyData.depthAll]at h2
  intro y hy
  rcases au.mp hy with rfl|hy
  ·unfold shaped;rw[h1.1,Bool.true_and];exact decide_eq_true (by omega)
  ·exact ih h1.2 (by omega) y hy
theorem ReadsAll.dats {h:Heap}{xs:List PyData}:∀{vs:List Value} {as:List Addr},ReadsAll h vs xs as→(∀x∈xs,shaped x=true)→DatsS h vs xs:=by
 induction xs with
 |nil=>intro vs as r _;cases r;exact .nil
 |cons x xs ih=>intro vs as r hs;cases r with|cons r1 r2=>exact .cons ⟨_,r1,hs _ aj⟩ (ih r2 λy hy=>hs y (af _ hy))
theorem DatS.tup {h:Heap}{v:Value}{d:PyData}{xs:List PyData}(r:DatS h v d)(e:dTup? d=some xs):∃l o items n,v=.ref l∧h.get? l=some o∧o.cls=.type "tuple" ∧ o.data=.seq items n∧DatsS h items.toList xs:=by
 obtain⟨as,r,hs⟩:=r
 cases r<;>cases e
 rename_i h1 h2 h3 h4
 unfold shaped at hs
 rw[aq,decide_eq_true_eq]at hs
 exact⟨_,_,_,_,rfl,h1,h2,h3,ReadsAll.dats h4 (zk3 (by simpa[PyData.canLay0]using hs.1) (by have:=hs.2;simp only[PyData.depth]at this;exact la88 this))⟩
theorem DatS.lst {h:Heap}{v:Value}{d:PyData}{xs:List PyData}(r:DatS h v d)(e:dLst? d=some xs):∃l o items n,v=.ref l∧h.get? l=some o∧o.cls=.type "list" ∧ o.data=.seq items n∧DatsS h items.toList xs:=by
 obtain⟨as,r,hs⟩:=r
 cases r<;>cases e
 rename_i h1 h2 h3 h4
 unfold shaped at hs
 rw[aq,decide_eq_true_eq]at hs
 exact⟨_,_,_,_,rfl,h1,h2,h3,ReadsAll.dats h4 (zk3 (by simpa[PyData.canLay0]using hs.1) (by have:=hs.2;simp only[PyData.depth]at this;exact la88 this))⟩
theorem DatsS.length {h:Heap}{vs:List Value}{ds:List PyData}(x:DatsS h vs ds):vs.length=ds.length:=by
 induction x with
 |nil=>rfl
 |cons _ _ ih=>rw[bp,bp,ih]
theorem zhp {A:Around}{s:Shared}{f:PyData→PyData→Option Bool}(hu:A.units+64<cLine)(hf:∀v u d e b,DatS s.heap v d→DatS s.heap u e→f d e=some b→LtAt A s v u b){b:Bool}{xs:List PyData} :
  ∀{ys:List PyData} {vs us:List Value},DatsS s.heap vs xs→DatsS s.heap us ys→gY f xs ys=some b→iz A s (decide (vs.length<us.length)) b (vs.zip us):=by
 induction xs with
 |nil =>
  intro ys vs us h1 h2 e
  cases h1
  unfold gY at e
  cases e
  refine .nil ?_
  rw[h2.length]
  cases ys<;>rfl
 |cons x xs ih =>
  intro ys vs us h1 h2 e
  cases ys with
  |nil=>cases h2;cases e;rw[List.zip_nil_right];exact .nil (by simp)
  |cons y ys =>
   cases h1 with|cons p1 r1=>cases h2 with|cons p2 r2 =>
   unfold gY at e
   have q:=zua p1 p2 hu
   rw[List.zip_cons_cons,bp,bp,decide_eq_decide.mpr Nat.succ_lt_succ_iff]
   by_cases hb:PyData.eqv x y=true
   ·rw[if_pos hb]at e
    exact .eq (hb▸q) (ih r1 r2 e)
   ·rw[if_neg hb]at e
    exact .lt (Bool.eq_false_iff.mpr hb▸q) (hf _ _ _ _ _ p1 p2 e)
theorem zli {s:Shared}(k:Nat):∀(A:Around) (v u:Value) (d e:PyData) (b:Bool),A.units+64+k<cLine→DatS s.heap v d→DatS s.heap u e→f9 k d e=some b→LtAt A s v u b:=by
 have base:∀(A:Around) (v u:Value) (d e:PyData) (b:Bool),DatS s.heap v d→DatS s.heap u e→ltI d e=some b→LtAt A s v u b:=by
  intro A v u d e b h1 h2 h3
  refine bindE h3 λx hx h3=>mapE h3 λy hy=>?_
  obtain⟨t,rfl⟩:=h1.int hx
  obtain⟨t',rfl⟩:=h2.int hy
  exact λprog w E Q hq=>lt_int hq
 induction k with
 |zero=>exact λA v u d e b hu=>base A v u d e b
 |succ k ih =>
  intro A v u d e b hu h1 h2 h3
  have hin:A.in1.units=A.units+1:=by simp
  refine zfo h3 (base A v u d e b h1 h2) λh3=>zfo h3 (λh3=>?_) λh3=>?_
  ·refine bindE h3 λxs hx h3=>bindE h3 λys hy h3=>?_
   obtain⟨l,⟨c,dd,da,sl⟩,items,n,rfl,ho,hc,hd,hx⟩:=h1.tup hx
   obtain⟨l2,⟨c2,dd2,da2,sl2⟩,items2,n2,rfl,ho2,hc2,hd2,hy⟩:=h2.tup hy
   simp only at hc hd hc2 hd2
   subst hc hd hc2 hd2
   have X:=zhp (A:=A.in1) (by omega) (λv u d e b=>ih A.in1 v u d e b (by omega)) hx hy h3
   exact λprog w E Q hq=>richCompare_meets_room (op:=.Lt) ⟨_,ho,rfl⟩ ⟨_,ho2,rfl⟩ F.slot_tuple_lt F.entry_tuple_lt (F.args_tuple_lt_2 _ _) (zpp l l2 items items2 n n2 dd dd2 sl sl2 b)
    ⟨ho,ho2,X,show Value.bool b≠Value.notImplemented∧Q (.bool b) s from⟨(λx=>nomatch x),hq⟩⟩ (by exact la28 hu)
  ·refine bindE h3 λxs hx h3=>bindE h3 λys hy h3=>?_
   obtain⟨l,⟨c,dd,da,sl⟩,items,n,rfl,ho,hc,hd,hx⟩:=h1.lst hx
   obtain⟨l2,⟨c2,dd2,da2,sl2⟩,items2,n2,rfl,ho2,hc2,hd2,hy⟩:=h2.lst hy
   simp only at hc hd hc2 hd2
   subst hc hd hc2 hd2
   have X:=zhp (A:=A.in1) (by omega) (λv u d e b=>ih A.in1 v u d e b (by omega)) hx hy h3
   exact λprog w E Q hq=>richCompare_meets_room (op:=.Lt) ⟨_,ho,rfl⟩ ⟨_,ho2,rfl⟩ F.slot_list_lt F.entry_list_lt (F.args_list_lt_2 _ _) (zlj l l2 items items2 n n2 dd dd2 sl sl2 b)
    ⟨ho,ho2,X,show Value.bool b≠Value.notImplemented∧Q (.bool b) s from⟨(λx=>nomatch x),hq⟩⟩ (by exact la28 hu)
end Mine.Internal
end
section
namespace Mine.Internal
open PySem PyProof.Rows PySem.W PySem.SeqAt
section
variable {C:Cx}{n:Nat}{Γ:cA}{env:Env}{W:Wd}{A:Around}{s:Shared}{st:St}
noncomputable def eqD (σ:List AO)(a b:AV):Option Bool:=(ff σ a).bind λda=>(ff σ b).map λdb=>PyData.eqv da db
noncomputable def zm8 (st:St):AV→Option (List AV)
 |.tup vs=>some vs
 |b=>fA b st
noncomputable def inD (st:St)(a b:AV):Option Bool:=(ff st.σ a).bind λda=>(zm8 st b).bind λvs=>(zo8 st.σ vs).map λds=>ds.any (PyData.eqv · da)
noncomputable def ltV (σ:List AO)(a b:AV):Option Bool:=(ff σ a).bind λda=>(ff σ b).bind λdb=>f9 8 da db
noncomputable def cmpD (op:CmpOp)(a b:AV):K AV:=λst=>match op with
 |.Eq=>(eqD st.σ a b).map λc=>(.bool c,st)
 |.NotEq=>(eqD st.σ a b).map λc=>(.bool (!c),st)
 |.In=>(inD st a b).map λc=>(.bool c,st)
 |.NotIn=>(inD st a b).map λc=>(.bool (!c),st)
 |.Lt=>(ltV st.σ a b).map λc=>(.bool c,st)
 |_=>none
theorem zl3 {a b:AV}{va vb:Value}(hu:A.units+64<cLine)(I:Inv C Γ env W st s.heap)(ha:VR W a va)(hb:VR W b vb){c:Bool}(e:eqD st.σ a b=some c){Q E:Value→Shared→Prop} :
  (Q (.bool c) s→wpAny (model C.prog C.w) A (compareOp .Eq va vb) Q E s)∧(Q (.bool (!c)) s→wpAny (model C.prog C.w) A (compareOp .NotEq va vb) Q E s) :=
 bindE e λda e1 e=>mapE e λdb e2=>am (zdh I.rel e1 ha) λas p=>am (zdh I.rel e2 hb) λbs q =>
  ⟨λh=>compareEq_shaped p.1 q.1 p.2 q.2 hu h,λh=>compareNe_shaped p.1 q.1 p.2 q.2 hu h⟩
theorem zlq {a b:AV}{va vb:Value}(hu:A.in1.units+64<cLine)(I:Inv C Γ env W st s.heap)(ha:VR W a va)(hb:VR W b vb){c:Bool}(e:inD st a b=some c){Q E:Value→Shared→Prop} :
  (Q (.bool c) s→wpAny (model C.prog C.w) A (compareOp .In va vb) Q E s)∧(Q (.bool (!c)) s→wpAny (model C.prog C.w) A (compareOp .NotIn va vb) Q E s):=by
 refine bindE e λda e1 e=>bindE e λvs e2 e=>mapE e λds e3=>?_
 have hd:=zdh I.rel e1 ha
 have key:∀items:Array Value,VRs W vs items.toList→(items.any (isEq s.heap da)=ds.any (PyData.eqv · da))∧∀y,y∈items→EqAt A.in1 s y va (isEq s.heap da y):=λitems h =>
  have x:=zw7 I.rel e3 h
  ⟨Array.any_toList.symm.trans x.any,λy hy=>x.eqAt hd hu y (Array.mem_toList_iff.mpr hy)⟩
 have lst:fA b st=some vs→(Q (.bool (ds.any (PyData.eqv · da))) s→wpAny (model C.prog C.w) A (compareOp .In va vb) Q E s)∧(Q (.bool (!ds.any (PyData.eqv · da))) s→wpAny (model C.prog C.w) A (compareOp .NotIn va vb) Q E s):=λe =>
  fX I.rel hb e λl items m hl hv u1=>have k:=key items hv;⟨λh=>in_listAt _ (fF hl) k.2 (k.1▸h),λh=>notIn_listAt _ (fF hl) k.2 (k.1▸h)⟩
 clear e
 revert hb lst
 cases b with
 |tup ws =>
   intro hb _
   obtain rfl:=sj e2
   exact tupE I.rel hb rfl λl items m hl hv u1=>have k:=key items hv;⟨λh=>in_tupleAt _ (iH hl) k.2 (k.1▸h),λh=>notIn_tupleAt _ (iH hl) k.2 (k.1▸h)⟩
 |_=>exact λu1 lst=>lst e2
theorem zqy {op:CmpOp}{a b:AV}{va vb:Value}(hu:A.units+72<cLine)(hu1:A.in1.units+64<cLine)(I:Inv C Γ env W st s.heap)(ha:VR W a va)(hb:VR W b vb):Run C Γ env W A s (compareOp op va vb) (cmpD op a b st) VR:=by
 cases op with
 |Eq=>exact .omap λc e=>.mk1 λQ E hq=>(zl3 (ak (Nat.add_le_add_left (by decide) _) hu) I ha hb e).1 (hq.at I s.toks (.bool _))
 |NotEq=>exact .omap λc e=>.mk1 λQ E hq=>(zl3 (ak (Nat.add_le_add_left (by decide) _) hu) I ha hb e).2 (hq.at I s.toks (.bool _))
 |In=>exact .omap λc e=>.mk1 λQ E hq=>(zlq hu1 I ha hb e).1 (hq.at I s.toks (.bool _))
 |NotIn=>exact .omap λc e=>.mk1 λQ E hq=>(zlq hu1 I ha hb e).2 (hq.at I s.toks (.bool _))
 |Lt=>exact .omap λc e=>bindE e λda e1 e=>bindE e λdb e2 e=>.mk1 λQ E hq=>zli 8 A va vb da db c hu (zdh I.rel e1 ha) (zdh I.rel e2 hb) e C.prog C.w E Q (hq.at I s.toks (.bool _))
 |_=>exact .stuck
end
end Mine.Internal
end
section
namespace Mine.Internal
open PySem PyProof.Rows PySem.W PySem.SeqAt
section
variable {C:Cx}{n:Nat}{Γ:cA}{env:Env}{W:Wd}{A:Around}{s:Shared}{st:St}
noncomputable def newO (o:AO):K AV:=λst=>some (.obj st.σ.length,⟨st.θ,st.σ++[o]⟩)
noncomputable def newL (vs:List AV):K AV:=λst=>if vs.length<2^20 then newO (.list vs) st else none
theorem zvo {vs:List AV}{items:Array Value}{tk:Nat}{Q:Value→Shared→Prop}{r:AV}{st':St}(I:Inv C Γ env W st s.heap)(e:newL vs st=some (r,st'))(hq:Post C Γ env W s VR r st' Q)(hv:VRs W vs items.toList) :
  items.size≤sizeLine∧Q (.ref s.heap.objs.size) { s with heap:=s.heap.push { cls:=.type "list", data:=.seq items },toks:=tk }:=by
 by_cases hlt:vs.length<2^20
 ·unfold newL at e
  rw[if_pos hlt]at e
  obtain⟨rfl,rfl⟩:=sp e
  exact⟨gK hlt hv.length,hq.new I { cls:=.type "list", data:=.seq items } ⟨_,_,aF _ rfl,hv.mono (.app _)⟩ tk⟩
 ·unfold newL at e
  rw[if_neg hlt]at e
  exact ns e
theorem Ev.list {elts:List Expr}{pos:Pos}{g:K (List AV)}(h:Eas C n Γ elts g):Ev C n Γ (.List elts pos) (K.bind g newL) :=
 ⟨λA env W st s ok I v st' e Q E hq=>K.bindE e λvs st₁ e1 e2=>wpAny_List (h.run pos A env W st s ok I _ _ e1 _ _ λxs W1 h1 tk1 I1 k1 v1 =>
  zvo (s:=(mv s h1 tk1)) (items:=xs.toArray) I1 e2 (λa W2 h2 tk2 I2 k2 v2=>hq a W2 h2 tk2 I2 (k1.trans k2) v2) v1)⟩
noncomputable def tupL (vs:List AV):K AV:=λst=>if vs.length<2^20 then some (.tup vs,st)else none
theorem z2f {vs:List AV}{items:Array Value}{tk:Nat}{Q:Value→Shared→Prop}{r:AV}{st':St}(I:Inv C Γ env W st s.heap)(e:tupL vs st=some (r,st'))(hq:Post C Γ env W s VR r st' Q)(hv:VRs W vs items.toList) :
  items.size≤sizeLine∧Q (.ref s.heap.objs.size) { s with heap:=s.heap.push { cls:=.type "tuple", data:=.seq items },toks:=tk }:=by
 by_cases hlt:vs.length<2^20
 ·unfold tupL at e
  rw[if_pos hlt]at e
  obtain⟨rfl,rfl⟩:=sp e
  exact⟨gK hlt hv.length,hq.imm I { cls:=.type "tuple", data:=.seq items } rfl (λW' le hm=>.tup hm (hv.mono le)) tk⟩
 ·unfold tupL at e
  rw[if_neg hlt]at e
  exact ns e
theorem Ev.tuple {elts:List Expr}{k:Nat}{pos:Pos}{g:K (List AV)}(h:Eas C n Γ elts g):Ev C n Γ (.Tuple elts k pos) (K.bind g tupL) :=
 ⟨λA env W st s ok I v st' e Q E hq=>K.bindE e λvs st₁ e1 e2=>wpAny_Tuple (h.run pos A env W st s ok I _ _ e1 _ _ λxs W1 h1 tk1 I1 k1 v1 =>
  z2f (s:=(mv s h1 tk1)) (items:=xs.toArray) I1 e2 (λa W2 h2 tk2 I2 k2 v2=>hq a W2 h2 tk2 I2 (k1.trans k2) v2) v1)⟩
noncomputable def orK {α:Type}(f g:K α):K α:=λst=>match f st with
 |some r=>some r
 |none=>g st
theorem Run.orK {α β:Type}{f g:K β}{t:Sem α}{R:Wd→β→α→Prop}(h1:Run C Γ env W A s t (f st) R)(h2:Run C Γ env W A s t (g st) R):Run C Γ env W A s t (orK f g st) R:=by
 unfold Mine.Internal.orK
 revert h1
 cases f st with
 |none=>exact λu1=>h2
 |some x=>exact id
noncomputable def cmpA (op:CmpOp)(a b:AV):K AV:=orK (cmpK op a b) (cmpD op a b)
theorem AOk.room {n:Nat}{A:Around}(ok:AOk C n A):A.units+72<cLine∧A.in1.units+64<cLine:=by
 have:=ok.units
 refine⟨by lia,?_⟩
 simp;exact la23 this
theorem zdj {op:CmpOp}{a b:AV}{va vb:Value}(ok:AOk C n A)(I:Inv C Γ env W st s.heap)(ha:VR W a va)(hb:VR W b vb):Run C Γ env W A s (compareOp op va vb) (cmpA op a b st) VR :=
 .orK (zqw I ha hb) (zqy ok.room.1 ok.room.2 I ha hb)
noncomputable def addL (a b:AV):K AV:=λst=>(fA a st).bind λxs=>(fA b st).bind λys=>newL (xs++ys) st
noncomputable def mulL (a b:AV):K AV:=λst=>b.int?.bind λk=>(fA a st).bind λxs=>if -(2^62)≤k∧k<2^62 then newL (List.replicate k.toNat xs).flatten st else none
noncomputable def binL (op:Operator)(a b:AV):K AV:=λst=>match op with
 |.Add=>addL a b st
 |.Mult=>mulL a b st
 |_=>none
theorem VRs.rep {vs:List AV}{ws:List Value}(h:VRs W vs ws)(k:Nat):VRs W (List.replicate k vs).flatten (List.replicate k ws).flatten:=by
 induction k with
 |zero=>exact .nil
 |succ k ih=>exact h.append ih
theorem zt3 (items:Array Value)(k:Nat):∀acc:Array Value,(List.foldl (λx1 x2=>x1++x2) acc (List.replicate k items)).toList=acc.toList++(List.replicate k items.toList).flatten:=by
 induction k with
 |zero=>exact λacc=>(bi _).symm
 |succ k ih=>exact λacc=>by simp only[List.replicate_succ,cg,ih,List.replicate_succ,List.flatten_cons,Array.toList_append,bf]
theorem zk7 {vs:List AV}{items:Array Value}(hv:VRs W vs items.toList)(k:Nat):VRs W (List.replicate k vs).flatten (List.foldl (λx1 x2=>x1++x2) #[] (List.replicate (if items.isEmpty=true then 0 else k) items)).toList:=by
 simp only[zt3]
 by_cases hem:items.isEmpty=true
 ·have hi:items.toList=[]:=by simpa using hem
  have hx:=hv.rep k
  refine aw (if_pos hem) ?_
  rw[hi]at hx
  have:(List.replicate k ([]:List Value)).flatten=[]:=by simp
  rw[this]at hx
  exact hx
 ·refine aw (if_neg hem) ?_
  exact hv.rep k
theorem zys {α:Type}(l:List α)(k:Nat):(List.replicate k l).flatten.length=l.length*k:=by
 induction k with
 |zero=>rfl
 |succ k ih=>simp only[List.replicate_succ,List.flatten_cons,az,ih,Nat.mul_succ,ew]
theorem zoj {vs:List AV}{items:Array Value}(hv:VRs W vs items.toList)(k:Nat)(hs:(List.foldl (λx1 x2=>x1++x2) #[] (List.replicate (if items.isEmpty=true then 0 else k) items)).size≤sizeLine):items.size*k≤sizeLine :=
 aI (bj ((congrArg (·*k) hv.length).symm.trans ((zys vs k).symm.trans (zk7 hv k).length))) hs
theorem zvr {k:Int}(h:-(2^62)≤k∧k<2^62):¬(!Builtin.List.listFitsIndex k)=true:=by simp[Builtin.List.listFitsIndex];lia
theorem zvp {m:Nat}(h:m≤sizeLine):¬m > (2^63-1)/8:=by unfold sizeLine at h;lia
theorem zvq {m:Nat}(h:m≤sizeLine):¬Builtin.List.listTooLong m=true:=by unfold sizeLine at h;simp[Builtin.List.listTooLong,sizeLine];lia
theorem zq3 {op:Operator}{a b:AV}{va vb:Value}(I:Inv C Γ env W st s.heap)(ha:VR W a va)(hb:VR W b vb):Run C Γ env W A s (binaryOp op va vb) (binL op a b st) VR:=by
 cases op with
 |Add =>
  exact .obind λxs e1=>.obind λys e2=>fX (P:=λva=>Run C Γ env W A s (binaryOp .Add va vb) (newL (xs++ys) st) VR) I.rel ha e1 λl items m hl hv u1=>fX (P:=λvb=>Run C Γ env W A s (binaryOp .Add (.ref l) vb) (newL (xs++ys) st) VR) I.rel hb e2 λl2 items2 m2 hl2 hv2 u1 r st' e Q E hq =>
   have x:=zvo (tk:=s.toks) (items:=items++items2) I e hq (by exact aw Array.toList_append (hv.append hv2))
   P.add_list hl hl2 x.2 (by exact dI Array.size_append (x.1))
 |Mult =>
  exact .obind λk hk=>.obind λxs e1=>.ite λhb'=>fX (P:=λva=>Run C Γ env W A s (binaryOp .Mult va vb) (newL (List.replicate k.toNat xs).flatten st) VR) I.rel ha e1 λl items m hl hv u1=>hb.intE (P:=λvb=>Run C Γ env W A s (binaryOp .Mult (.ref l) vb) (newL (List.replicate k.toNat xs).flatten st) VR) hk λu r st' e Q E hq =>
   have x:=zvo (tk:=s.toks) I e hq (zk7 hv k.toNat)
   wpAny_binaryOp_repeat_ref (T := "list") (U := "int") (by decide) ⟨_,hl,rfl⟩ (λs'=>typeIs_int s' k u) noFill_list_mul F.fills_int_mul F.slot_int_rmul repeat_list F.slot_int_index.lookup
     (eO F.slot_int_rmul (typeIs_int s k u) F.entry_int_rmul (F.args_int_rmul_2 _ _) (int___rmul___int_list k u l items m)
      ⟨hl,rfl,⟨_,hl,rfl⟩,eO F.slot_list_mul ⟨_,hl,rfl⟩ F.entry_list_mul (F.args_list_mul_2 _ _)
       (AutoListH.list___mul___list_int_3 l items m k u (zvr hb') (zvp (zoj hv _ x.1)) (zvq (zoj hv _ x.1)))
       ⟨hl,x.2⟩⟩)
 |_=>exact .stuck
noncomputable def binA (op:Operator)(a b:AV):K AV:=orK (binK op a b) (binL op a b)
theorem zq6 {op:Operator}{a b:AV}{va vb:Value}(I:Inv C Γ env W st s.heap)(ha:VR W a va)(hb:VR W b vb):Run C Γ env W A s (binaryOp op va vb) (binA op a b st) VR :=
 .orK (zq4 I ha hb) (zq3 I ha hb)
theorem Ev.bina {l r:Expr}{op:Operator}{pos:Pos}{f g:K AV}(hl:Ev C n Γ l f)(hr:Ev C n Γ r g):Ev C n Γ (.BinOp l op r pos) (K.bind f λa=>K.bind g λb=>binA op a b) :=
 ⟨λA env W st s ok I=>.stepE (S:=λva Q E s₁=>wpAny (model C.prog C.w) A (eval r env) (λvb s₂=>wpAny (model C.prog C.w) A (binaryOp op va vb) Q E s₂) E s₁) (λQ E h=>wpAny_BinOp h) (hl.run A env W st s ok I) λa st₁ va W1 h1 tk1 I1 v1 =>
  Run.step2 (hr.run A env W1 st₁ _ ok I1) λb st₂ vb W2 h2 tk2 I2 k2 v2=>zq6 I2 (v1.mono k2.le) v2⟩
end
end Mine.Internal
end
section
namespace Mine.Internal
open PySem PyProof.Rows PySem.W PySem.SeqAt
section
variable {C:Cx}{n:Nat}{Γ:cA}{env:Env}{W:Wd}{A:Around}{s:Shared}{st:St}
structure Pt (C:Cx)(n:Nat)(Γ:cA)(x:Option Expr)(f:K (Option Int)):Prop where
 run:∀A env W st s,AOk C n A→Inv C Γ env W st s.heap→Run C Γ env W A s (evalPart x env) (f st) λu1 p v=>IsPart v p
theorem Pt.none:Pt C n Γ none (K.ret none):=⟨λA env W st s ok J=>.now J s.toks .none λQ E h=>ai h⟩
noncomputable def z0x (a:AV):K (Option Int):=λst=>match a with
 |.int i=>some (some i,st)
 |.none=>some (Option.none,st)
 |_=>Option.none
theorem Pt.some {e:Expr}{f:K AV}(h:Ev C n Γ e f):Pt C n Γ (some e) (K.bind f z0x) :=
 ⟨λA env W st s ok J v st' e Q E hq=>K.bindE e λa st₁ e1 e2=>h.run A env W st s ok J _ _ e1 _ _ λva W1 h1 tk1 J1 k1 v1=>by
  clear e e1
  cases a with
  |int i=>cases e2;exact v1.intE rfl λt=>hq _ W1 h1 tk1 J1 k1 (.int i t)
  |none=>cases e2;exact v1.noneE rfl (hq _ W1 h1 tk1 J1 k1 .none)
  |_=>exact nomatch e2⟩
noncomputable def gS {α:Type}(vs:List α)(lo hi stp:Option Int):List α :=
 (sliceRange (sliceBounds lo hi stp vs.length).1 (sliceBounds lo hi stp vs.length).2.1 (sliceBounds lo hi stp vs.length).2.2).filterMap (vs[·]?)
noncomputable def z0w (x:Str)(lo hi stp:Option Int):Str:=⟨((Builtin.Str.strSliceIndices lo hi (stp.getD 1) x.length).filterMap (x.cps[·]?)).toArray⟩
noncomputable def zof (x:Str)(lo hi stp:Option Int):Str:=if (stp.getD 1==1&&(Builtin.Str.strSliceIndices lo hi (stp.getD 1) x.length).length==x.length)=true then x else z0w x lo hi stp
noncomputable def zwx (a:AV)(lo hi stp:Option Int):K AV:=λst=>match a with
 |.str x=>if (z0w x lo hi stp).length<2^20 then some (.str (zof x lo hi stp),st)else none
 |a=>(fA a st).bind λvs=>if vs.length<2^20 then newL (gS vs lo hi stp) st else none
noncomputable def zog (a:AV)(lo hi stp:Option Int):K AV:=λst=>if stp=some 0 then none else zwx a lo hi stp st
theorem VRs.pick {vs:List AV}{ws:List Value}(h:VRs W vs ws)(l:List Nat):VRs W (l.filterMap (vs[·]?)) (l.filterMap (ws[·]?)):=by
 induction l with
 |nil=>exact .nil
 |cons i l ih =>
  simp only[List.filterMap_cons,List.filterMap_cons]
  cases e:vs[i]? with
  |none =>
   have:ws[i]?=none:=List.getElem?_eq_none_iff.mpr (h.length▸List.getElem?_eq_none_iff.mp e)
   refine aw this ?_
   exact ih
  |some a=>exact am (h.get e) λv q=>by exact aw q.1 (.cons q.2 ih)
theorem IsPart.val {v:Value}{q:Option Int}(h:IsPart v q):∃r:Option (Int×Tok),v=partValue r∧r.map (λx=>x.1)=q:=by
 cases h with
 |none=>exact⟨none,rfl,rfl⟩
 |int i t=>exact⟨some (i,t),rfl,rfl⟩
theorem zdb {lower upper step:Option Expr}{p:Pos}{va vi:Value}:∃ops,subscripted (.Slice lower upper step p) false va vi=operate ops (getItem va vi):=by
 cases step with
 |none=>exact⟨_,rfl⟩
 |some _=>exact⟨_,rfl⟩
theorem zxc {stp:Option Int}(h:¬stp=some 0):(stp.getD 1==0)=false:=by
 cases stp with
 |none=>rfl
 |some i=>exact beq_eq_false_iff_ne.mpr λe=>h (congrArg some e)
theorem zk2 {value:Expr}{lower upper step:Option Expr}{p:Pos}{a:AV}{lo hi stp:Option Int}{va vl vu vs:Value}{h:Heap}(J:Inv C Γ env W st h)(ha:VR W a va)(hl:IsPart vl lo)(hu:IsPart vu hi)(hs:IsPart vs stp)(h0:¬stp=some 0){tk:Nat×Drawn} :
  Run C Γ env W A (mv s (h.push { cls:=.type "slice", data:=.fields #[vl,vu,vs] }) tk) (subscriptTail value (.Slice lower upper step p) va (.ref h.objs.size)) (zwx a lo hi stp st) VR:=by
 have J:=J.pushed { cls:=.type "slice", data:=.fields #[vl,vu,vs] }
 have key:Run C Γ env W A (mv s (h.push { cls:=.type "slice", data:=.fields #[vl,vu,vs] }) tk) (subscriptTail value (.Slice lower upper step p) va (.ref h.objs.size)) ((fA a st).bind λvs=>if vs.length<2^20 then newL (gS vs lo hi stp) st else none) VR :=
  .obind λxs e=>.ite λhlt=>fX (P:=λva=>Run C Γ env W A (mv s (h.push { cls:=.type "slice", data:=.fields #[vl,vu,vs] }) tk) (subscriptTail value (.Slice lower upper step p) va (.ref h.objs.size)) (newL (gS xs lo hi stp) st) VR) J.rel ha e λl items m hg hv hlen r st' e Q E hq=>by
   have hp:VRs W (gS xs lo hi stp) (slicePick items lo hi stp).toList:=by
    unfold gS slicePick
    refine aw hlen ?_
    simpa using hv.pick _
   exact am zdb λops hsub=>tail_any (T := "list") (ops:=ops) ⟨_,hg,rfl⟩ slot_list_getitem.lookup (wpAny_getItem_list_slice (fF hg) (Heap.IsSliceOf.new ..) hl hu hs h0 (zvo J e hq hp).2 (gK hlt hlen)) hsub
 revert ha key
 cases a with
 |str x =>
  exact λha u1=>.ite λhlt=>ha.strE (P:=λva=>Run C Γ env W A (mv s (h.push { cls:=.type "slice", data:=.fields #[vl,vu,vs] }) tk) (subscriptTail value (.Slice lower upper step p) va (.ref h.objs.size)) (some (.str (zof x lo hi stp),st)) VR) rfl λt=>.mk1 λQ E hq =>
   am (zdb (lower:=lower) (upper:=upper) (step:=step) (p:=p) (va:=.str x t) (vi:=.ref h.objs.size)) λops hsub=>am (IsPart.val hl) λr1 p1=>am (IsPart.val hu) λr2 p2=>am (IsPart.val hs) λr3 p3=>by
    obtain⟨rfl,rfl⟩:=p1
    obtain⟨rfl,rfl⟩:=p2
    obtain⟨rfl,rfl⟩:=p3
    refine tail_any (T := "str") (ops:=ops) rfl slot_str_getitem.lookup (wpAny_getItem_str_slice (l:=r1) (u:=r2) (st:=r3) ⟨_,aF _ rfl,rfl,rfl⟩ (zxc h0) ?_) hsub
    unfold sliceMade slicePicked
    split
    ·rename_i hc
     exact hq _ W _ tk J (.refl ..) (by unfold zof;exact aw (if_pos hc) (.str _ _))
    ·rename_i hc
     exact⟨gK hlt rfl,hq _ W _ (tk.1+1,tk.2) J (.refl ..) (by unfold zof;refine aw (if_neg hc) ?_;exact .str _ _)⟩
 |_=>exact λu1 key=>key
theorem Ev.slice {value:Expr}{lower upper step:Option Expr}{p pos:Pos}{f:K AV}{g k m:K (Option Int)}(hv:Ev C n Γ value f)(hl:Pt C n Γ lower g)(hu:Pt C n Γ upper k)(hm:Pt C n Γ step m) :
  Ev C n Γ (.Subscript value (.Slice lower upper step p) pos) (K.bind f λa=>K.bind g λlo=>K.bind k λhi=>K.bind m λstp=>zog a lo hi stp):=by
 refine⟨λA env W st s ok J v st' e Q E hq=>?_⟩
 refine K.bindE e λa st₁ e1 e=>Subscript_ (hv.run A env W st s ok J _ _ e1 _ _ λva W1 h1 tk1 J1 k1 v1=>?_)
 refine K.bindE e λlo st₂ e2 e=>wpAny_Slice (hl.run A env W1 st₁ (mv s h1 tk1) ok J1 _ _ e2 _ _ λvl W2 h2 tk2 J2 k2 v2=>?_)
 refine K.bindE e λhi st₃ e3 e=>hu.run A env W2 st₂ (mv s h2 tk2) ok J2 _ _ e3 _ _ λvu W3 h3 tk3 J3 k3 v3=>?_
 refine K.bindE e λstp st₄ e4 e=>hm.run A env W3 st₃ (mv s h3 tk3) ok J3 _ _ e4 _ _ λvs W4 h4 tk4 J4 k4 v4=>?_
 have kk:=k1.trans (k2.trans (k3.trans (k4.trans (.pushed { cls:=.type "slice", data:=.fields #[vl,vu,vs] }))))
 have v1:=v1.mono (k2.le.trans (k3.le.trans k4.le))
 clear k1 k2 k3 k4 J J1 J2 J3 e1 e2 e3 e4
 unfold zog at e
 by_cases h0:stp=some 0
 ·rw[if_pos h0]at e;exact ns e
 ·rw[if_neg h0]at e
  exact zk2 (s:=s) J4 v1 v2 v3 v4 h0 v st' e Q E λx W5 h5 tk5 J5 k5 v5=>hq x W5 h5 tk5 J5 (kk.trans k5) v5
end
end Mine.Internal
end
section
namespace Mine.Internal
open PySem PyProof.Rows PySem.W PySem.SeqAt
section
variable {C:Cx}{n:Nat}{Γ:cA}{env:Env}{W:Wd}{A:Around}{s:Shared}{st:St}
noncomputable def zf8 (a b c:Int):K AV:=λst=>if Builtin.Range.small a b c=true∧0≤Builtin.Range.rangeSize a b c then some (.rng a c (Builtin.Range.rangeSize a b c).toNat,st)else none
noncomputable def z0u (a b c:Int):K AV:=λst=>if c≠0∧c.natAbs<2^64 then zf8 a b c st else none
noncomputable def zsq:List AV→K AV
 | []=>K.fail
 |x::r=>λst=>x.int?.bind λa=>match r with
  | []=>zf8 0 a 1 st
  |y::r=>y.int?.bind λb=>match r with
   | []=>zf8 a b 1 st
   |z::r=>z.int?.bind λc=>match r with
    | []=>z0u a b c st
    |_::_=>none
theorem zjo {a b c:Int}{t u v:Tok}{tk:Nat}{r:AV}{st':St}{Q:Value→Shared→Prop}(I:Inv C Γ env W st s.heap)(e:zf8 a b c st=some (r,st'))(hq:Post C Γ env W s VR r st' Q) :
  Q (.ref s.heap.objs.size) { s with heap:=s.heap.push { cls:=.type "range", data:=.fields #[.int a t,.int b u,.int c v] },toks:=tk }:=by
 by_cases h:Builtin.Range.small a b c=true∧0≤Builtin.Range.rangeSize a b c
 ·unfold zf8 at e
  rw[if_pos h]at e
  obtain⟨rfl,rfl⟩:=sp e
  exact hq.imm I { cls:=.type "range", data:=.fields #[.int a t,.int b u,.int c v] } rfl (λW' le hm=>.rng hm h.1 (Int.toNat_of_nonneg h.2).symm) tk
 ·unfold zf8 at e
  rw[if_neg h]at e
  exact ns e
theorem Cal.range:Cal C n Γ (.type "range") zsq:=by
 intro A env W st s args vs ok I hv
 cases args with
 |nil=>exact .stuck
 |cons x r =>
  refine hv.consE λv vs h hr=>.obind λa ha=>h.intE ha λt=>?_
  cases r with
  |nil=>exact hr.nilE λr st' e Q E hq=>call_range_1 (zjo I e hq)
  |cons y r =>
   refine hr.consE λv vs h hr=>.obind λb hb=>h.intE hb λu=>?_
   cases r with
   |nil=>exact hr.nilE λr st' e Q E hq=>call_range_2 (zjo I e hq)
   |cons z r =>
    refine hr.consE λv vs h hr=>.obind λc hc=>h.intE hc λw=>?_
    cases r with
    |nil=>exact hr.nilE (.ite λhc=>λr st' e Q E hq=>call_range_3 hc.1 (zjo I e hq) (.inl (zjv hc.2)))
    |cons _ _=>exact .stuck
theorem Inv.kept {h':Heap}(I:Inv C Γ env W st s.heap)(hk:∀b o,s.heap.get? b=some o→h'.get? b=some o):Inv C Γ env W st h'∧Keep W W [] s.heap h' :=
 have k:Keep W W [] s.heap h':=.of (.refl W) (λb o e u1 u2=>hk b o e) (λb o e=>⟨o,hk b o e⟩) (λu1 h1 h2=>absurd h1 h2) (λu1 h=>.inl h)
 ⟨I.keep (I.rel.ext (π:=[]) (λa o e u1=>hk a o e) (λu1 h=>nomatch h) (λu1 h=>nomatch h)) k,k⟩
noncomputable def z0i (a:AV):K AV:=λst=>match a with
 |.tup vs=>some (.tup vs,st)
 |a=>(fA a st).bind λvs=>if vs.length<2^20 then some (.tup vs,st)else none
noncomputable def zwt:List AV→K AV:=λargs st=>(one? args).bind λa=>z0i a st
theorem Cal.tuple:Cal C n Γ (.type "tuple") zwt:=.one λA env W st s a v ok I h=>by
 have key:Run C Γ env W A s (call (.type "tuple") [v]) ((fA a st).bind λvs=>if vs.length<2^20 then some (.tup vs,st)else none) VR :=
  .obind λxs e=>.ite λhlt=>fX I.rel h e λl items m hl hv hlen=>.mk1 λQ E hq=>call_tuple_list (fF hl) (λh' hk =>
   have x:=I.kept hk
   Post.imm (s:={ s with heap:=h' }) (λa W2 h2 tk2 I2 k2 v2=>hq a W2 h2 tk2 I2 (x.2.wide.trans k2) v2) x.1 { cls:=.type "tuple", data:=.seq items } rfl (λW' le hm=>.tup hm (hv.mono le)) _) (gK hlt hlen)
 revert h key
 cases a with
 |tup vs=>exact λh u1=>.mk1 λQ E hq=>tupE (P:=λv=>Q v { s with toks:=s.toks }→wpAny (model C.prog C.w) A (call (.type "tuple") [v]) Q E s) I.rel h rfl (λl items m hl u1 u2 hq=>call_tuple_tup (iH hl) hq) (hq.at I s.toks h)
 |_=>exact λu1 key=>key
noncomputable def str1 (a:AV):K AV:=λst=>match a with
 |.int i=>if i.natAbs.log2<1920 then some (.str (Str.ofString (toString i)),st)else none
 |.str x=>some (.str x,st)
 |_=>none
noncomputable def strK:List AV→K AV:=λargs st=>(one? args).bind λa=>str1 a st
theorem Cal.str:Cal C n Γ (.type "str") strK:=.one λA env W st s a v ok I h=>by
 cases a with
 |int i=>exact h.intE rfl λt=>.ite λhi=>.mk1 λQ E hq=>P.str_of_int hi (hq.at I _ (.str _ _))
 |str x=>exact h.strE rfl λt=>.mk1 λQ E hq=>P.str_of_str (hq.at I _ (.str _ _))
 |_=>exact .stuck
noncomputable def int1 (a:AV):K AV:=λst=>a.str?.bind λx=>if x.length≤640 then(PySem.intText? x).map λi=>(.int i,st)else none
noncomputable def intK:List AV→K AV:=λargs st=>(one? args).bind λa=>int1 a st
theorem Cal.int:Cal C n Γ (.type "int") intK:=.one λA env W st s a v ok I h=>.obind λx hx=>.ite λhl=>.omap λi hi=>h.strE hx λt=>.mk1 λQ E hq=>KIN.call_text hi hl (hq.at I _ (.int _ _))
noncomputable def z2c (a:AV):K AV:=λst=>match a with
 |.str _=>some (.val (.type "str"),st)
 |.int _=>some (.val (.type "int"),st)
 |.tup _=>some (.val (.type "tuple"),st)
 |a=>(fA a st).map λu1=>(.val (.type "list"),st)
noncomputable def z2b:List AV→K AV:=λargs st=>(one? args).bind λa=>z2c a st
theorem Cal.typ:Cal C n Γ (.type "type") z2b:=.one λA env W st s a v ok I h=>by
 have key:Run C Γ env W A s (call (.type "type") [v]) ((fA a st).map λu1=>(.val (.type "list"),st)) VR :=
  .omap λxs e=>fX I.rel h e λl items m hl u1 u2=>.mk1 λQ E hq=>fN (Tx := "list") ⟨_,hl,rfl⟩ (by decide) (hq.at I _ (.val _))
 revert h key
 cases a with
 |str x=>exact λh u1=>h.strE rfl λt=>.mk1 λQ E hq=>fN (typeIs_str _ _ _) (by decide) (hq.at I _ (.val _))
 |int x=>exact λh u1=>h.intE rfl λt=>.mk1 λQ E hq=>fN (typeIs_int _ _ _) (by decide) (hq.at I _ (.val _))
 |tup vs=>exact λh u1=>tupE I.rel h rfl λl items m hl u1 u2=>.mk1 λQ E hq=>fN (Tx := "tuple") ⟨_,hl,rfl⟩ (by decide) (hq.at I _ (.val _))
 |_=>exact λu1 key=>key
noncomputable def zi0 (a:AV)(_:St):Prop:=∃x,a.str?=some x
theorem Res.str {name:Str}{id:String}(slot:Slot "str" name id) (hty:typeOf (.builtin id)=pure (.type "method_descriptor")):Res C name (.builtin id) zi0:=λA W st s a v R hv hP Q E pl =>
 am hP λx e=>hv.strE e λt hq=>eh (typeIs_str _ _ _) F.plainAttrs_str slot hty (λa e=>nomatch e) hq
noncomputable def z0h (a:AV):K AV:=λst=>a.str?.bind λx=>if x.length≤2^20 then some (.str (Txt.upper x),st)else none
noncomputable def zrz:List AV→K AV:=λargs st=>(one? args).bind λa=>z0h a st
theorem Cal.upper:Cal C n Γ (.builtin "str.upper") zrz:=.one λA env W st s a v ok I h=>.obind λx hx=>.ite λhl=>h.strE hx λt=>.mk1 λQ E hq=>SC.upper (fit_upper (by lia)) (hq.at I _ (.str _ _))
noncomputable def z05 (a:AV):K AV:=λst=>a.str?.bind λx=>if x.length≤2^20 then some (.str (Txt.lower x),st)else none
noncomputable def ztb:List AV→K AV:=λargs st=>(one? args).bind λa=>z05 a st
theorem Cal.lower:Cal C n Γ (.builtin "str.lower") ztb:=.one λA env W st s a v ok I h=>.obind λx hx=>.ite λhl=>h.strE hx λt=>.mk1 λQ E hq=>SC.lower (fit_lower (by lia)) (hq.at I _ (.str _ _))
noncomputable def zin:List AV→Option (List Str)
 | []=>some []
 |a::r=>a.str?.bind λx=>(zin r).map λl=>x::l
theorem zgh {l:List AV}:∀{vs:List Value} {xs:List Str},zin l=some xs→VRs W l vs→∃ps:List (Str×Tok),vs=strValues ps∧ps.map (λx=>x.1)=xs:=by
 induction l with
 |nil=>exact λ{vs xs} e hv=>hv.nilE (eH e ⟨[],rfl,rfl⟩)
 |cons a r ih=>exact λ{vs xs} e hv=>hv.consE λv vs h hr=>bindE e λx hx e=>mapE e λl e1=>am (ih e1 hr) λps p=>h.strE hx λt=>⟨(x,t)::ps,by refine aw p.1 ?_;rfl,by refine dI p.2 ?_;rfl⟩
noncomputable def z1c (a b:AV):K AV:=λst=>a.str?.bind λx=>(fA b st).bind λvs=>(zin vs).bind λxs=>if JoinOk x xs=true then some (.str (Txt.join x xs),st)else none
noncomputable def zy8:List AV→K AV:=λargs st=>(two? args).bind λp=>z1c p.1 p.2 st
theorem Cal.join:Cal C n Γ (.builtin "str.join") zy8:=.two (F:=z1c) λA env W st s a b v w ok I hv hw =>
 .obind λx hx=>.obind λys e1=>.obind λxs e2=>.ite λhj=>hv.strE hx λt=>fX I.rel hw e1 λl items m hl hr u1=>.mk1 λQ E hq=>am (zgh e2 hr) λps p=>by
  have hitems:items=(strValues ps).toArray:=by exact dI p.1 rfl
  subst hitems
  exact SC.join (fF hl) p.2 hj λt' k=>hq.at I k (.str _ _)
end
end Mine.Internal
end
section
namespace Mine.Internal
open PySem PyProof.Rows PySem.W PySem.SeqAt
noncomputable def zo1 (K:Frag)(Cl:Addr)(name:Str):Bool:=plainGet K Cl name&&hasDictIn K Cl&&(match findIn K (.ref Cl) name with|some attr=>noGet K attr|none=>false)
noncomputable def zjj (K:Frag)(Cl:Addr)(name:Str):Option Nat :=
 if plainGet K Cl name&&isClsIn K Cl then(match findIn K (.ref Cl) name with
  |some (some (.ref p))=>if specialIn K (.ref p) "__get__" == some (some (.builtin "member_descriptor.__get__"))&&takesIn K (.ref p)==some true then slotIn K p Cl else none
  |_=>none)else none
theorem zln {e:DictEntry}{x name:Str}{t:Tok}(h:e.key=.str x t):e.key.isStr name=(x==name):=by refine aw h ?_;rfl
theorem AttrsR.get {W:Wd}{fs:List (Str×AV)}{es:List DictEntry}(h:AttrsR W fs es){name:Str}{a:AV}(e:fs.lookup name=some a):∃v,getL name es=some (some v)∧VR W a v:=by
 have:∃en,es.find? (·.key.isStr name)=some en∧VR W a en.val:=by
  induction h with
  |nil=>exact ns e
  | @cons f en fs' es' h _ ih =>
   obtain⟨y,b⟩:=f
   obtain⟨⟨t,ht⟩,hv⟩:=h
   have hs:=zln (name:=name) ht
   rw[bM]at e
   refine aw (List.find?_cons) (aw hs ?_)
   by_cases hb:y=name
   ·rw[beq_iff_eq.mpr hb.symm]at e
    refine aw (beq_iff_eq.mpr hb) ?_
    obtain rfl:=sj e
    exact⟨en,rfl,hv⟩
   ·rw[beq_eq_false_iff_ne.mpr (cG hb)]at e
    refine aw (beq_eq_false_iff_ne.mpr hb) ?_
    exact ih e
 exact am this λen q=>⟨en.val,by unfold getL;rw[q.1],q.2⟩
theorem zlv {W:Wd}{a:AV}{v:Value}(h:VR W a v)(hn:∀x,a≠.val x):handedIn v=true:=by
 cases h<;>first|rfl|exact absurd rfl (hn _)
noncomputable def zs5:AV→Bool
 |.val _=>false
 |_=>true
theorem zoq {a:AV}(h:zs5 a=true):∀x,a≠.val x:=by rintro x rfl;exact ft h
theorem SlotsR.get {W:Wd}{as:List (Option AV)}{vs:List (Option Value)}(h:SlotsR W as vs){a:AV}:∀{j:Nat},as[j]?=some (some a)→∃v,vs[j]?=some (some v)∧VR W a v:=by
 induction h with
 |nil=>exact ns
 | @cons x y xs ys h _ ih =>
  intro j e
  cases j with
  |zero =>
   obtain rfl:=sj e
   cases y with
   |none=>exact h.elim
   |some v=>exact⟨v,rfl,h⟩
  |succ j=>exact ih e
end Mine.Internal
end
section
namespace Mine.Internal
open PySem PyProof.Rows PySem.W PySem.SeqAt
open PySem.Calls Builtin Builtin.ObjectAttr Builtin.Getset_descriptor
section
variable {prog:Program}{w:World}{A:Around}{E:Value→Shared→Prop}{s:Shared}{K:Frag}{x C dx:Addr}{name:Str}{v:Value}{es:List DictEntry}{n:Nat}
theorem zvg (name:Str)(hsh:Int)(key v:Value)(es:List DictEntry):(putL name hsh key v es).length≤es.length+1:=by
 induction es with
 |nil =>
  simp[putL]
 |cons e r ih =>
  unfold putL
  have:=ih
  split<;>simp<;>lia
theorem zm5 {Q:Unit→Shared→Prop}(X:K.In s.heap)(I:InstAt s.heap x ⟨.ref C,some dx,.plain,#[]⟩ C (some (dictOf es n)))
  (hs:findIn K (.ref C) "__setattr__" = some (some (.builtin "object.__setattr__"))) (hp:plainOver K C=true) (ht:takerIn K C name=some none) (hh:hasDictIn K C=true) (hl:(getL name es).isSome=true) (hz:es.length<900)
  (h:∀h',h'.get? dx=some (dictOf (putL name (PyData.keyHash w.params name) (.str name (s.toks+1)) v es) (putN name es n))→Heap.SameBut dx s.heap h'→Q () { s with heap:=h',toks:=s.toks+2 }) :
  wpAny (model prog w) A (setAttr (.ref x) name v) Q E s:=by
 refine set_plain X I hs (osa_open (s:={ s with toks:=s.toks+1 }) X I hp ht λb=>?_)
 (refine x1a2 (any_some hh) λcd hc hd'=>?_)
 have D:s.heap.get? dx=some (dictOf es n):=I.dict
 have hx:=I.at_
 have e:=putName_dict name (PyData.keyHash w.params name) (.str name (s.toks+1)) v es n
 have D':(s.heap.update dx (Obj.putName name (PyData.keyHash w.params name) (.str name (s.toks+1)) v)).get? dx=some (dictOf (putL name (PyData.keyHash w.params name) (.str name (s.toks+1)) v es) (putN name es n)):=by
  have:=bc (Obj.putName name (PyData.keyHash w.params name) (.str name (s.toks+1)) v) D (by refine aw e ?_;rfl)
  rw[e]at this;exact this
 refine aa (ai (aa (aa (wpAny_loadPart hx (aa (looks_clsIn X hc _ _ _ _ (λu1 u2 e=>e) ?_))))))
 refine aw hd' ?_
 refine ai (a:=some dx) (aa (ai (aa ?_)))
 unfold nsSet
 refine aa (aa (cy (ai (aa (wpAny_mkText (aa (wpAny_loadPart D ?_)))))))
 dsimp only[dictOf]
 have c:(!es.toArray.any (·.key.isStr name)&&es.toArray.any (λx=>x.refKey))=false:=by
  unfold getL at hl
  refine dI Array.any_toList (dI Array.any_toList ?_)
  split at hl
  ·rename_i en he
   refine aw (bu.mpr ⟨en,List.mem_of_find?_eq_some he,List.find?_some he⟩) ?_;rfl
  ·split at hl
   ·exact ft hl
   ·rename_i z;rw[Bool.not_eq_true]at z;simp at z;simp;intro _ ;exact z
 rw[aRefKeyMayBeTheName_at,c]
 refine wpAny_updatePart D ?_
 have hlen:(putL name (PyData.keyHash w.params name) (.str name (s.toks+1)) v es).length≤es.length+1:=zvg ..
 refine aa (wpAny_lookBehind D' (pastItsLine_dict (by refine aw b4 (aw bZ ?_);lia)) ?_)
 exact ai (h _ D' (aM ..))
theorem zm4 {Q:Unit→Shared→Prop}{sl:Array (Option Value)}{p:Addr}{i:Nat}{od:Obj}(X:K.In s.heap)(I:InstAt s.heap x ⟨.ref C,some dx,.plain,sl⟩ C (some od))
  (hs:findIn K (.ref C) "__setattr__" = some (some (.builtin "object.__setattr__"))) (hp:plainOver K C=true) (ht:takerIn K C name=some (some (.ref p))) (hT:typeIn K (.ref p)=some (.type "member_descriptor")) (hi:slotIn K p C=some i) (hz:i<900)
  (h:∀h',h'.get? x=some ⟨.ref C,some dx,.plain,(sl++Array.replicate (i+1-sl.size) none).setIfInBounds i (some v)⟩→Heap.SameBut x s.heap h'→Q () { s with heap:=h',toks:=s.toks+1 }) :
  wpAny (model prog w) A (setAttr (.ref x) name v) Q E s:=by
 refine set_plain X I hs (osa_descr (s:={ s with toks:=s.toks+1 }) KF.slot_mset X I hp ht hT ?_)
 obtain⟨n,tn,owner,behind,tb,d,sl',cd,ho,hc,hm,hb,rfl⟩:=slot_of X hi
 have hx:=I.at_
 have D':=bc (λo=>{ o with slots:=(o.slots++Array.replicate (cd.slotNames.length-1-behind.toNat+1-o.slots.size) none).setIfInBounds (cd.slotNames.length-1-behind.toNat) (some v) }) hx rfl
 have h:=h _ D' (aM ..)
 obtain⟨hh,g,dr,t,os⟩:=s
 have L0:=I.type (M:=model prog w)
 have L1:=looks_mroIn (M:=model prog w) X hm
 have L2:Looks (model prog w) hh (Slots.slotNamesOf (.ref C)) cd.slotNames:=(looks_clsIn X hc).andThen .now
 dsimp only at ho hx L0 L1 h
 have f0:=gc (M:=model prog w) ho 0 (v:=.str n tn) rfl
 have f1:=gc (M:=model prog w) ho 1 (v:=owner) rfl
 have f3:=gc (M:=model prog w) ho 3 (v:=.builtin "proto.slot#set") rfl
 have f4:=gc (M:=model prog w) ho 4 (v:=.int behind tb) rfl
 refine codeAny_call_builtin KF.slot_mset.plain KF.entry_mset (KF.slot_mset.check _ _ _ _ _ _ _ _ ⟨_,ho,rfl⟩ (KF.args_mset _ _ _) ?_)
 unfold Builtin.«member_descriptor.__set__» descrSet descrStoreThrough descrCheckInstance descrNameAndClass isInstance
 have f5:Looks (model prog w) hh (descrItself (.ref p)) [.ref p]:=((fu (part:=none) ho).andThen .now).andThen (dp (by kernel_rfl))
 repeat lk
 refine⟨Code.quiet_builtin _ (by decide +kernel),cb KF.entry_slotset ?_⟩
 unfold Builtin.«proto.slot#set» Slots.target
 repeat lk
 refine aw (if_neg hb) ?_
 refine ai (aa ?_)
 unfold setSlotAt
 dsimp only
 refine aw (if_neg (by rw[bZ];lia)) ?_
 exact wpAny_updatePart hx (ai h)
end
noncomputable def zl6 (K:Frag)(Cl:Addr)(name:Str):Bool:=findIn K (.ref Cl) "__setattr__" == some (some (.builtin "object.__setattr__"))&&plainOver K Cl&&takerIn K Cl name==some none&&hasDictIn K Cl
noncomputable def zhj (K:Frag)(Cl:Addr)(name:Str):Option Nat :=
 if findIn K (.ref Cl) "__setattr__" == some (some (.builtin "object.__setattr__"))&&plainOver K Cl then(match takerIn K Cl name with
  |some (some (.ref p))=>if typeIn K (.ref p)==some (.type "member_descriptor")then slotIn K p Cl else none
  |_=>none)else none
noncomputable def putA (name:Str)(v:AV):List (Str×AV)→List (Str×AV)
 | []=>[(name,v)]
 |(x,a)::r=>if x==name then(x,v)::r else(x,a)::putA name v r
noncomputable def putS (i:Nat)(v:AV)(vs:List (Option AV)):List (Option AV):=(vs++List.replicate (i+1-vs.length) none).set i (some v)
theorem AttrsR.length {W:Wd}{fs:List (Str×AV)}{es:List DictEntry}(h:AttrsR W fs es):fs.length=es.length:=by
 induction h with
 |nil=>rfl
 |cons _ _ ih=>simp[ih]
theorem AttrsR.noRef {W:Wd}{fs:List (Str×AV)}{es:List DictEntry}(h:AttrsR W fs es):es.any (λx=>x.refKey)=false:=by
 induction h with
 |nil=>rfl
 |cons h _ ih =>
  (refine x0a2 h λz0 u1=>?_;obtain⟨t,ht⟩:=z0)
  simp only[fg,ih,dY]
  unfold DictEntry.refKey
  exact aw ht rfl
theorem AttrsR.put {W:Wd}{fs:List (Str×AV)}{es:List DictEntry}(h:AttrsR W fs es){name:Str}{hsh:Int}{t:Tok}{a:AV}{v:Value}(hv:VR W a v):AttrsR W (putA name a fs) (putL name hsh (.str name t) v es):=by
 induction h with
 |nil=>exact .cons ⟨⟨t,rfl⟩,hv⟩ .nil
 |cons h hr ih =>
  rename_i f en fs' es'
  obtain⟨y,b⟩:=f
  (refine x0a2 h λz0 hb=>?_;obtain⟨u,hu⟩:=z0)
  unfold putA putL
  have e:en.key.isStr name=(y==name):=by refine aw hu ?_;rfl
  refine aw e ?_
  cases y==name with
  |true=>exact .cons ⟨⟨u,hu⟩,hv⟩ hr
  |false=>exact .cons ⟨⟨u,hu⟩,hb⟩ ih
theorem SlotsR.length {W:Wd}{as:List (Option AV)}{vs:List (Option Value)}(h:SlotsR W as vs):as.length=vs.length:=by
 induction h with
 |nil=>rfl
 |cons _ _ ih=>simp[ih]
theorem SlotsR.grow {W:Wd}{as:List (Option AV)}{vs:List (Option Value)}(h:SlotsR W as vs)(k:Nat):SlotsR W (as++List.replicate k none) (vs++List.replicate k none):=by
 induction h with
 |nil =>
  induction k with
  |zero=>exact .nil
  |succ k ih=>exact .cons trivial ih
 |cons h _ ih=>exact .cons h ih
theorem SlotsR.set {W:Wd}{as:List (Option AV)}{vs:List (Option Value)}(h:SlotsR W as vs)(i:Nat){a:AV}{v:Value}(hv:VR W a v):SlotsR W (as.set i (some a)) (vs.set i (some v)):=by
 induction h generalizing i with
 |nil=>exact .nil
 |cons h hr ih =>
  cases i with
  |zero=>exact .cons hv hr
  |succ i=>exact .cons h (ih i)
end Mine.Internal
end
section
namespace Mine.Internal
open PySem PyProof.Rows PySem.W PySem.SeqAt
section
variable {C:Cx}{n:Nat}{Γ:cA}{env:Env}{W:Wd}{A:Around}{s:Shared}{st:St}
noncomputable abbrev gQ:=List ((Addr×Str)×Option Nat)
noncomputable def zub (K:Frag)(Cl:Addr)(name:Str):Option Nat→Bool
 |none=>zo1 K Cl name&&zl6 K Cl name
 |some j=>zjj K Cl name==some j&&zhj K Cl name==some j
noncomputable def zmy (K:Frag)(T:gQ):Bool:=T.all λe=>zub K e.1.1 e.1.2 e.2
theorem zoa {K:Frag}{T:gQ}(h:zmy K T=true){Cl:Addr}{name:Str}{o:Option Nat}(e:T.lookup (Cl,name)=some o):zub K Cl name o=true:=cp.mp h _ (f7 e)
noncomputable def zfd (σ:List AO)(d:Nat):Option (List (Str×AV)):=match σ[d]? with
 |some (.attrs fs)=>some fs
 |_=>none
theorem zge {σ:List AO}{d:Nat}{fs:List (Str×AV)}(h:σ[d]?=some (.attrs fs)):zfd σ d=some fs:=by unfold zfd;exact aw h rfl
theorem zfc {σ:List AO}{d:Nat}{fs:List (Str×AV)}(e:zfd σ d=some fs):σ[d]?=some (.attrs fs):=by
 unfold zfd at e
 cases h:σ[d]? with
 |none=>rw[h]at e;exact ns e
 |some o =>
  rw[h]at e
  cases o<;>cases e
  rfl
noncomputable def zs0 (σ:List AO)(T:gQ)(name:Str):AO→Option AV
 |.inst Cl d=>if T.lookup (Cl,name)=some none then(zfd σ d).bind λfs=>fs.lookup name else none
 |.slots Cl vs=>(T.lookup (Cl,name)).join.bind λj=>(vs[j]?).join
 |_=>none
noncomputable def zq9 (T:gQ)(name:Str)(a:AV):K AV:=λst=>a.oid.bind λi=>(st.σ[i]?).bind λo=>(zs0 st.σ T name o).bind λv=>if zs5 v=true then some (v,st)else none
theorem zhr {α:Type}{x:Option (Option α)}{a:α}(h:x.join=some a):x=some (some a):=by
 cases x with
 |none=>exact ns h
 |some x=>exact congrArg some h
theorem zsh {KK:Frag}{Cl:Addr}{name:Str}{j:Nat}{G:Prop}(e:zjj KK Cl name=some j)(k:∀p,plainGet KK Cl name=true→isClsIn KK Cl=true→findIn KK (.ref Cl) name=some (some (.ref p))→specialIn KK (.ref p) "__get__" = some (some (.builtin "member_descriptor.__get__"))→takesIn KK (.ref p)=some true→slotIn KK p Cl=some j→G):G:=by
 unfold zjj at e
 split at e
 ·rename_i hg
  rw[aq]at hg
  split at e
  ·rename_i p hp
   split at e
   ·rename_i hs
    rw[aq,beq_iff_eq,beq_iff_eq]at hs
    exact k p hg.1 hg.2 hp hs.1 hs.2 e
   ·exact ns e
  ·exact ns e
 ·exact ns e
theorem zh5 {T:gQ}{name:Str}{a:AV}{v:Value}{expr:Bool}(hT:zmy C.K T=true)(I:Inv C Γ env W st s.heap)(ha:VR W a v):Run C Γ env W A s (getAttr v name expr) (zq9 T name a st) VR :=
 .obind λi hi=>.obind λo ho=>.obind λu hu=>.ite λhn=>VR.objE (P:=λv=>Run C Γ env W A s (getAttr v name expr) (some (u,st)) VR) ha hi λx hx=>by
  have hob:=I.rel.objs _ _ _ ho hx
  clear ho
  cases o with
  |inst Cl d =>
   refine im hu λhl hu=>bindE hu λfs hfs hu=>?_
   have h0:=zoa hT hl
   (refine x1a2 hob λad hd hx=>?_)
   (refine x2a2 (I.rel.objs _ _ _ (zfc hfs) hd) λes m hdx hr=>?_)
   have h0:=(aq _ _▸h0).1
   unfold zo1 at h0
   rw[aq,aq]at h0
   refine am (hr.get hu) λw hw=>?_
   have h3:=h0.2
   split at h3
   ·rename_i attr hat
    have J:InstAt s.heap x ⟨.ref Cl,some ad,.plain,#[]⟩ Cl (some (dictOf es m)):=⟨hx,rfl,rfl,hdx⟩
    exact .mk1 λQ E hq=>get_value I.rel.kin J (fm h0.1.1).1 (findObj_own h0.1.2 hat h3 hw.1) (zlv hw.2 (zoq hn)) (hq.at I _ hw.2)
   ·exact ft h3
  |slots Cl vs =>
   refine bindE hu λj hj hu=>?_
   have h0:=zoa hT (zhr hj)
   (refine x2a3 hob λsl ad hx hsl had=>?_)
   refine am (hsl.get (zhr hu)) λw hw=>zsh (beq_iff_eq.mp (aq _ _▸h0).1) λp h1 h2 h3 h4 h5 h6=>.mk1 λQ E hq=>?_
   have J:InstAt s.heap x ⟨.ref Cl,some ad,.plain,sl⟩ Cl (some emptyDict):=⟨hx,rfl,rfl,I.rel.imm _ had⟩
   have hf:findObj C.K Cl (some emptyDict) name=some (.bind (.builtin "member_descriptor.__get__") (.ref p)):=by
    refine am (bz.mp (show(clsIn C.K Cl).isSome=true from h2)) λcd hc=>?_
    unfold findObj
    simp only[hc,Option.bind_some,h3,Option.bind_some]
    simp[h4,h5]
   refine get_bind I.rel.kin J (fm h1).1 hf (fm h1).2 (dH (slot_get (s:={ s with toks:=s.toks+1 }) I.rel.kin J h6 (v:=w) ?_ (handed_on (zlv hw.2 (zoq hn)) (hq.at I _ hw.2))))
   have:sl[j]?=some (some w):=ba▸hw.1
   refine aw this ?_;rfl
  |_=>exact ns hu
noncomputable def zon (σ:List AO)(T:gQ)(name:Str)(v:AV)(i:Nat):AO→Option (Nat×AO)
 |.inst Cl d=>if T.lookup (Cl,name)=some none then(zfd σ d).bind λfs=>if fs.length<900 then some (d,.attrs (putA name v fs))else none else none
 |.slots Cl vs=>(T.lookup (Cl,name)).join.bind λj=>if j<900 then some (i,.slots Cl (putS j v vs))else none
 |_=>none
noncomputable def zeu (T:gQ)(name:Str)(a v:AV):K Unit:=λst=>a.oid.bind λi=>(st.σ[i]?).bind λo=>(zon st.σ T name v i o).map λp=>((),⟨st.θ,st.σ.set p.1 p.2⟩)
theorem zp1 {KK:Frag}{Cl:Addr}{name:Str}{j:Nat}{G:Prop}(e:zhj KK Cl name=some j)(k:∀p,findIn KK (.ref Cl) "__setattr__" = some (some (.builtin "object.__setattr__"))→plainOver KK Cl=true→takerIn KK Cl name=some (some (.ref p))→typeIn KK (.ref p)=some (.type "member_descriptor")→slotIn KK p Cl=some j→G):G:=by
 unfold zhj at e
 split at e
 ·rename_i hg
  rw[aq,beq_iff_eq]at hg
  split at e
  ·rename_i p hp
   split at e
   ·rename_i hT
    exact k p hg.1 hg.2 hp (beq_iff_eq.mp hT) e
   ·exact ns e
  ·exact ns e
 ·exact ns e
theorem ze3 {T:gQ}{name:Str}{a b:AV}{v u:Value}(hT:zmy C.K T=true)(I:Inv C Γ env W st s.heap)(ha:VR W a v)(hb:VR W b u):Run C Γ env W A s (setAttr v name u) (zeu T name a b st) λu1 u2 u3=>True :=
 .obind λi hi=>.obind λo ho=>.omap λq hq0=>VR.objE (P:=λv=>Run C Γ env W A s (setAttr v name u) (some ((),⟨st.θ,st.σ.set q.1 q.2⟩)) λu1 u2 u3=>True) ha hi λx hx=>by
  have hob:=I.rel.objs _ _ _ ho hx
  clear ho
  cases o with
  |inst Cl d =>
   refine im hq0 λhl hq0=>bindE hq0 λfs hfs hq0=>gN hq0 λhlen=>?_
   have h0:=(aq _ _▸zoa hT hl).2
   unfold zl6 at h0
   rw[aq,aq,aq,beq_iff_eq,beq_iff_eq]at h0
   obtain⟨ad,hd,hx⟩:=hob
   (refine x2a2 (I.rel.objs _ _ _ (zfc hfs) hd) λes m hdx hr=>?_)
   have J:InstAt s.heap x ⟨.ref Cl,some ad,.plain,#[]⟩ Cl (some (dictOf es m)):=⟨hx,rfl,rfl,hdx⟩
   have hg:(getL name es).isSome=true:=by
    unfold getL
    split
    ·rfl
    ·rw[hr.noRef];rfl
   exact .mk1 λQ E hq=>zm5 I.rel.kin J h0.1.1.1 h0.1.1.2 h0.1.2 h0.2 hg (hr.length▸hlen) λh' hd' hs'=>hq.upd I hd hs' ⟨_,_,hd',hr.put hb⟩ _ trivial
  |slots Cl vs =>
   refine bindE hq0 λj hj hq0=>gN hq0 λhlt=>?_
   have h0:=zoa hT (zhr hj)
   (refine x2a3 hob λsl ad hx' hsl had=>?_)
   refine zp1 (beq_iff_eq.mp (aq _ _▸h0).2) λp h1 h2 h3 h4 h5=>.mk1 λQ E hq=>?_
   have J:InstAt s.heap x ⟨.ref Cl,some ad,.plain,sl⟩ Cl (some emptyDict):=⟨hx',rfl,rfl,I.rel.imm _ had⟩
   refine zm4 I.rel.kin J h1 h2 h3 h4 h5 hlt λh' hx' hs'=>hq.upd I hx hs' ⟨_,ad,hx',?_,had⟩ _ trivial
   unfold putS
   refine aw Array.toList_setIfInBounds (aw Array.toList_append (aw Array.toList_replicate (aw hsl.length ?_)))
   exact(hsl.grow _).set j hb
  |_=>exact ns hq0
theorem Ev.attr {T:gQ}{o:Expr}{name:Str}{pos:Pos}{f:K AV}(hT:zmy C.K T=true)(h:Ev C n Γ o f)(hsup:fL o=false):Ev C n Γ (.Attribute o name pos) (K.bind f λa=>zq9 T name a) :=
 ⟨λA env W st s ok I=>.stepE (S:=λva Q E s₁=>wpAny (model C.prog C.w) A (getAttr va name true) Q E s₁) (λQ E h=>Attribute_any_ h (by simp only[arm_eval_Attribute,zav hsup])) (h.run A env W st s ok I) λa st₁ va W1 h1 tk1 I1 v1=>zh5 hT I1 v1⟩
theorem As.attr {T:gQ}{o:Expr}{name:Str}{pos:Pos}{f:K AV}(hT:zmy C.K T=true)(h:Ev C n Γ o f):As C n Γ (.Attribute o name pos) (λx=>K.bind f λa=>zeu T name a x):=by
 refine⟨λA env W st s x vx ok I hx r st' e Q E hq=>K.bindE e λa st₁ e1 e2=>?_⟩
 simp only[arm_assign_Attribute]
 refine aa (aV (h.run A env W st s ok I _ _ e1 _ _ λva W1 h1 tk1 I1 k1 v1=>?_))
 refine aa (bO (aa (aV ?_)))
 exact ze3 (s:=(mv s h1 tk1)) hT I1 v1 (hx.mono k1.le) _ _ e2 _ _ λu W3 h3 tk3 I3 k3 u1=>wpAny_release (hq () W3 h3 tk3 I3 (k1.trans k3) trivial)
theorem Ex.assign1 {t value:Expr}{pos:Pos}{f:K AV}{g:AV→K Unit}(h:Ev C n Γ value f)(ht:As C n Γ t g)(hs:∀env,swapsWithSole [t] value pos.line env=pure false)(hw:∀env,swappedStores [t] value env=pure none)(he:∀env,(assignEach [t] env).map (λx=>x.2)=[PySem.assign t env]) :
  Ex C n Γ (.Assign [t] value pos) (K.bind f λx=>K.bind (g x) λu1=>K.ret .next) :=
 ⟨λA env W st s ok I=>.stepE (S:=λvx Q E s₁=>wpAny (model C.prog C.w) A (PySem.assign t env vx) (λu1 s₂=>Q .next s₂) E s₁) (λQ E h=>wpAny_Assign_stores (by refine aw (he env) ?_;exact h) (hs env) (hw env)) (h.run A env W st s ok I) λx st₁ vx W1 h1 tk1 I1 v1 =>
  Run.finE (k:=λu1=>Flow.next) (R':=FR) (ht.run A env W1 st₁ _ x vx ok I1 v1) λu1 u2 u3 u4=>.next⟩
theorem Ex.assign2 {t t' value:Expr}{pos:Pos}{f:K AV}{g k:AV→K Unit}(h:Ev C n Γ value f)(ht:As C n Γ t g)(ht':As C n Γ t' k)(hw:∀env,swappedStores [t,t'] value env=pure none)(he:∀env,(assignEach [t,t'] env).map (λx=>x.2)=[PySem.assign t env,PySem.assign t' env]) :
  Ex C n Γ (.Assign [t,t'] value pos) (K.bind f λx=>K.bind (g x) λu1=>K.bind (k x) λu1=>K.ret .next):=by
 refine⟨λA env W st s ok I v st' e Q E hq=>K.bindE e λx st₁ e1 e=>K.bindE e λu1 st₂ e2 e=>?_⟩
 refine wpAny_Assign_two (h.run A env W st s ok I _ _ e1 _ _ λvx W1 h1 tk1 I1 k1 v1=>?_) (he env) (hw env)
 refine ht.run A env W1 st₁ (mv s h1 tk1) x vx ok I1 v1 _ _ e2 _ _ λu W2 h2 tk2 I2 k2 u1=>?_
 exact Run.finE (k:=λu1=>Flow.next) (R':=FR) (s:=(mv s h2 tk2)) (ht'.run A env W2 st₂ (mv s h2 tk2) x vx ok I2 (v1.mono k2.le)) (λu1 u2 u3 u4=>.next) _ _ e Q E λc W3 h3 tk3 I3 k3 r=>hq c W3 h3 tk3 I3 (k1.trans (k2.trans k3)) r
theorem Ev.walrus {t value:Expr}{pos:Pos}{f:K AV}{g:AV→K Unit}(h:Ev C n Γ value f)(ht:As C n Γ t g):Ev C n Γ (.NamedExpr t value pos) (K.bind f λx=>K.bind (g x) λu1=>K.ret x):=by
 refine⟨λA env W st s ok I v st' e Q E hq=>K.bindE e λx st₁ e1 e=>K.bindE e λu1 st₂ e2 e=>?_⟩
 obtain⟨rfl,rfl⟩:=sp e
 refine wpAny_NamedExpr (h.run A env W st s ok I _ _ e1 _ _ λvx W1 h1 tk1 I1 k1 v1=>?_)
 exact ht.run A env W1 st₁ (mv s h1 tk1) _ vx ok I1 v1 _ _ e2 _ _ λu W2 h2 tk2 I2 k2 u1=>hq _ W2 h2 tk2 I2 (k1.trans k2) (v1.mono k2.le)
end
end Mine.Internal
end
section
namespace Mine.Internal
open PySem PyProof.Rows PySem.W PySem.SeqAt
section
variable {C:Cx}{n:Nat}{Γ:cA}{env:Env}{W:Wd}{A:Around}{s:Shared}{st:St}
noncomputable def augI (op:Operator)(x y:Int):Option Int:=match op with
 |.Add=>some (x+y)
 |.Sub=>some (x-y)
 |.FloorDiv=>if y≠0∧y.natAbs<2^64 then some (x.fdiv y)else none
 |_=>none
noncomputable def augK (op:Operator)(a b:AV):K AV:=λst=>a.int?.bind λx=>b.int?.bind λy=>(augI op x y).map λz=>(.int z,st)
theorem zq8 {op:Operator}{x y z:Int}{t u:Tok}{s:Shared}{Q E:Value→Shared→Prop}(e:augI op x y=some z)(hq:∀tk w,Q (.int z w) { s with toks:=tk }):wpAny (model C.prog C.w) A (inplaceOp op (.int x t) (.int y u)) Q E s:=by
 revert hq
 cases op with
 |Add=>exact eH e λhq=>P.iadd_int (hq _ _)
 |Sub=>exact eH e λhq=>P.isub_int (hq _ _)
 |FloorDiv=>exact gN e λh hq=>ifloordiv_int h.1 (hq _ _) (.inl (zjv h.2))
 |_=>exact ns e
theorem zi7 {op:Operator}{a b:AV}{va vb:Value}(I:Inv C Γ env W st s.heap)(ha:VR W a va)(hb:VR W b vb):Run C Γ env W A s (inplaceOp op va vb) (augK op a b st) VR :=
 .obind λx hx=>.obind λy hy=>.omap λz hz=>ha.intE (P:=λva=>Run C Γ env W A s (inplaceOp op va vb) _ VR) hx λt=>hb.intE (P:=λvb=>Run C Γ env W A s (inplaceOp op _ vb) _ VR) hy λu =>
  .mk1 λQ E hq=>zq8 hz λtk w=>hq.at I tk (.int z w)
theorem Ex.augName {x:Str}{i:Nat}{pos' pos:Pos}{op:Operator}{value:Expr}{f:K AV}(h:Ev C n Γ value f)(hx:Γ.tab.lookup x=some (.local,i)) :
  Ex C n Γ (.AugAssign (.Name x pos') op value pos) (K.bind (getv i) λa=>K.bind f λb=>K.bind (augK op a b) λr=>K.bind (setv i r) λu1=>K.ret .next):=by
 refine⟨λA env W st s ok I v st' e Q E hq=>K.bindE e λa st₁ e1 f1=>K.bindE f1 λb st₂ e2 f2=>K.bindE f2 λr st₃ e3 f3=>?_⟩
 clear e f1 f2
 (refine x0a2 (getv_iff.mp e1) λe1 z1=>?_;subst z1)
 refine am I.loc.loc λm hm=>am (hm.2 x i a hx e1) λw hw=>?_
 refine wpAny_AugAssign_Name (wpAny_loadName_local I.loc.kind (by rw[I.loc.names,hx];rfl) hm.1 hw.1 ?_)
 refine h.run A env W st₁ s ok I _ _ e2 _ _ λvb W1 h1 tk1 I1 k1 v1=>?_
 refine zi7 (s:=(mv s h1 tk1)) I1 (hw.2.mono k1.le) v1 _ _ e3 _ _ λvr W2 h2 tk2 I2 k2 v2=>?_
 exact Run.finE (k:=λu1=>Flow.next) (R':=FR) (s:=(mv s h2 tk2)) (zfg (s:=(mv s h2 tk2)) hx I2 v2) (λu1 u2 u3 u4=>.next) _ _ f3 Q E λc W3 h3 tk3 I3 k3 r=>hq c W3 h3 tk3 I3 (k1.trans (k2.trans k3)) r
theorem Ex.augAttr {T:gQ}{o:Expr}{name:Str}{pos' pos:Pos}{op:Operator}{value:Expr}{f g:K AV}(hT:zmy C.K T=true)(ho:Ev C n Γ o f)(h:Ev C n Γ value g) :
  Ex C n Γ (.AugAssign (.Attribute o name pos') op value pos) (K.bind f λa=>K.bind (zq9 T name a) λold=>K.bind g λb=>K.bind (augK op old b) λr=>K.bind (zeu T name a r) λu1=>K.ret .next):=by
 refine⟨λA env W st s ok I v st' e Q E hq=>K.bindE e λa st₁ e1 e=>K.bindE e λold st₂ e2 e=>K.bindE e λb st₃ e3 e=>K.bindE e λr st₄ e4 e=>?_⟩
 refine wpAny_AugAssign_AttributeAny (ho.run A env W st s ok I _ _ e1 _ _ λva W1 h1 tk1 I1 k1 v1=>?_)
 refine zh5 (s:=(mv s h1 tk1)) hT I1 v1 _ _ e2 _ _ λvo W2 h2 tk2 I2 k2 v2=>?_
 refine h.run A env W2 st₂ (mv s h2 tk2) ok I2 _ _ e3 _ _ λvb W3 h3 tk3 I3 k3 v3=>?_
 refine zi7 (s:=(mv s h3 tk3)) I3 (v2.mono k3.le) v3 _ _ e4 _ _ λvr W4 h4 tk4 I4 k4 v4=>?_
 have va:=v1.mono (k2.le.trans (k3.le.trans k4.le))
 have kk:=k1.trans (k2.trans (k3.trans k4))
 clear k1 k2 k3 k4 v1 v2 v3 I1 I2 I3 e1 e2 e3 e4
 exact Run.finE (k:=λu1=>Flow.next) (R':=FR) (s:=(mv s h4 tk4)) (ze3 (s:=(mv s h4 tk4)) hT I4 va v4) (λu1 u2 u3 u4=>.next) _ _ e Q E λc W3 h3 tk3 I3 k3 r=>hq c W3 h3 tk3 I3 (kk.trans k3) r
structure Ass (C:Cx)(n:Nat)(Γ:cA)(ts:List Expr)(f:List AV→K Unit):Prop where
 len:∀env,(assignEach ts env).length=ts.length∧(assignEach ts env).findIdx? (λx=>x.1)=none
 fits:∀vs st r,f vs st=some r→vs.length=ts.length
 run:∀A env W st s as vs,AOk C n A→Inv C Γ env W st s.heap→VRs W as vs→Run C Γ env W A s (assignInOrder ((assignEach ts env).map (λx=>x.2)) vs) (f as st) λu1 u2 u3=>True
noncomputable def ass0:List AV→K Unit
 | []=>K.ret ()
 |_::_=>K.fail
noncomputable def ass1 (f:AV→K Unit)(g:List AV→K Unit):List AV→K Unit
 |v::r=>K.bind (f v) λu1=>g r
 | []=>K.fail
theorem Ass.nil:Ass C n Γ [] ass0:=by
 refine⟨λenv=>⟨rfl,rfl⟩,λvs st r e=>?_,λA env W st s as vs ok I hv=>?_⟩
 ·cases vs with
  |nil=>rfl
  |cons _ _=>exact ns e
 ·cases as with
  |nil=>exact hv.nilE (.now I s.toks trivial λQ E h=>ai h)
  |cons _ _=>exact .stuck
theorem Ass.cons {t:Expr}{ts:List Expr}{f:AV→K Unit}{g:List AV→K Unit}(h:As C n Γ t f)(hr:Ass C n Γ ts g)(he:∀env,assignEach (t::ts) env=(false,PySem.assign t env)::assignEach ts env) :
  Ass C n Γ (t::ts) (ass1 f g):=by
 refine⟨λenv=>?_,λvs st r e=>?_,λA env W st s as vs ok I hv=>?_⟩
 ·refine aw (he env) (aw bp (aw ((hr.len env).1) (aw (List.findIdx?_cons) (aw ((hr.len env).2) ?_))))
  exact⟨rfl,rfl⟩
 ·cases vs with
  |nil=>exact ns e
  |cons v vs=>exact K.bindE (b:=r.1) (st':=r.2) e λu1 st₁ u2 e2=>congrArg Nat.succ (hr.fits _ _ _ e2)
 ·refine aw (he env) ?_
  cases as with
  |nil=>exact .stuck
  |cons a as=>exact hv.consE λv vs h1 h2 r st' e Q E hq=>K.bindE e λu1 st₁ e1 e2=>wpAny_assignInOrder_more (h.run A env W st s _ _ ok I h1 _ _ e1 _ _ λu1 W1 h1' tk1 I1 k1 u2 =>
    hr.run A env W1 st₁ (mv s h1' tk1) _ _ ok I1 (h2.mono k1.le) _ _ e2 _ _ λu1 W2 h2' tk2 I2 k2 u2=>hq r W2 h2' tk2 I2 (k1.trans k2) trivial)
noncomputable def zws (f:List AV→K Unit)(a:AV):K Unit:=λst=>a.tup?.bind λvs=>f vs st
theorem As.tuple {ts:List Expr}{k:Nat}{pos:Pos}{f:List AV→K Unit}(h:Ass C n Γ ts f)(hcalm:C.calm=true):As C n Γ (.Tuple ts k pos) (zws f):=by
 refine⟨λA env W st s a v ok I hv=>.obind λvs hvs=>tupE I.rel hv hvs λl items m hl hr hlen r st' e Q E hq=>?_⟩
 refine wpAny_assign_Tuple (ok.handled hcalm) (iH hl) (((h.len env).1.trans (h.fits _ _ _ e).symm).trans hlen) (h.len env).2 λh' hx=>?_
 have x:=ItOk.new I
 have hk:∀b o,b≠s.heap.objs.size→s.heap.get? b=some o→h'.get? b=some o:=λb o nb e=>hx b o nb e
 exact h.run A env W st { s with heap:=h' } _ _ ok (I.but x hk) hr _ _ e _ _ λu1 W2 h2 tk2 I2 k2 u2=>hq () W2 h2 tk2 I2 (((Keep.refl W (priv Γ env) s.heap).ext x.none hk).trans k2) trivial
theorem Ex.fail {x:Stmt}:Ex C n Γ x K.fail:=⟨λu1 u2 u3 u4 u5 u6 u7 u8 u9 e=>ns e⟩
end
end Mine.Internal
end
section
namespace Mine.Internal
open PySem PyProof.Rows PySem.W PySem.SeqAt
section
variable {C:Cx}{n:Nat}
theorem AOk.under {A:Around}(ok:AOk C (n+1) A)(Cl:Addr)(vals:List Value)(kw:List (Str×Value)):AOk C n (A.under (.builtin "type.__call__" ⟨.ref Cl::vals,kw⟩)) :=
 ⟨ok.handled,ok.frames,by have:=ok.depth;show A.depth+1+n<_;lia,by have:=ok.units;show A.units+1+32*n+96<_;lia⟩
noncomputable def znf (Cl:Addr)(F:List AV→List (Str×AV)→List AO→Option (AV×List AO))(args:List AV)(kws:List (Str×AV))(σ:List AO):Option (AV×List AO) :=
 match F (.obj (σ.length+1)::args) kws (σ++[.attrs [],.inst Cl σ.length])with
 |some (.none,σ')=>some (.obj (σ.length+1),σ')
 |_=>none
theorem FnK.cls {Cl fI:Addr}{F}(hm:makesIn C.K Cl=true)(hi:findIn C.K (.ref Cl) "__init__" = some (some (.ref fI))) (hf:typeIn C.K (.ref fI)=some (.type "function")) (hF:FnK C n (.ref fI) F):FnK C (n+1) (.ref Cl) (znf Cl F):=by
 intro A W σ s args kws vs kvs ok R hv hkv r σ' e RR hq
 unfold znf at e
 split at e
 ·rename_i σ'' e1
  obtain⟨rfl,rfl⟩:=sp e
  obtain⟨hh,g,d,t,os⟩:=s
  have X:=R.kin
  refine make_core (makes_of X hm) (looks_findIn X hi) (λself=>bind_fn X self hf) (.inl rfl) ?_
  (refine x0a2 (R.pushObj emptyDict (.attrs []) ⟨[],0,aF _ rfl,.nil⟩) λR1 k1=>?_)
  dsimp only at R1 k1
  obtain⟨R2,k2⟩:=R1.pushObj (instObj Cl hh.objs.size) (.inst Cl σ.length) ⟨hh.objs.size,by
   refine dI R.len ?_;simp,aF _ rfl⟩
  rw[cw]at R2 k2
  dsimp only at R2 k2
  have hx:(W.φ++[hh.objs.size]++[hh.objs.size+1])[σ.length+1]?=some (hh.objs.size+1):=by refine dI R.len ?_;simp
  refine hF _ _ _ ⟨_,g,d,t,os⟩ (.obj (σ.length+1)::args) kws _ kvs (ok.under Cl vs kvs) R2 (.cons (.obj hx) (hv.mono (k1.le.trans k2.le))) (hkv.mono (k1.le.trans k2.le)) .none _ (by simpa using e1) _ λv W' h' tk R' k' v'=>?_
  cases v'
  exact⟨rfl,hq _ W' h' tk R' (k1.trans (k2.trans k')) (.obj (k'.le.at hx))⟩
 ·exact ns e
noncomputable def zqc (Cl:Addr)(F:List AV→List (Str×AV)→List AO→Option (AV×List AO))(args:List AV)(kws:List (Str×AV))(σ:List AO):Option (AV×List AO) :=
 match F (.obj σ.length::args) kws (σ++[.slots Cl []])with
 |some (.none,σ')=>some (.obj σ.length,σ')
 |_=>none
theorem FnK.clsS {Cl fI:Addr}{F}(hm:makesIn C.K Cl=true)(hi:findIn C.K (.ref Cl) "__init__" = some (some (.ref fI))) (hf:typeIn C.K (.ref fI)=some (.type "function")) (hF:FnK C n (.ref fI) F):FnK C (n+1) (.ref Cl) (zqc Cl F):=by
 intro A W σ s args kws vs kvs ok R hv hkv r σ' e RR hq
 unfold zqc at e
 split at e
 ·rename_i σ'' e1
  obtain⟨rfl,rfl⟩:=sp e
  obtain⟨hh,g,d,t,os⟩:=s
  have X:=R.kin
  refine make_core (makes_of X hm) (looks_findIn X hi) (λself=>bind_fn X self hf) (.inl rfl) ?_
  (refine x0a2 (R.pushImm emptyDict rfl) λR1 k1=>?_)
  dsimp only at R1 k1
  (refine x0a2 (R1.pushObj (instObj Cl hh.objs.size) (.slots Cl []) ⟨#[],hh.objs.size,aF _ rfl,.nil,aj⟩) λR2 k2=>?_)
  rw[cw]at R2 k2
  dsimp only at R2 k2
  have hx:(W.φ++[hh.objs.size+1])[σ.length]?=some (hh.objs.size+1):=by refine dI R.len ?_;simp
  refine hF _ _ _ ⟨_,g,d,t,os⟩ (.obj σ.length::args) kws _ kvs (ok.under Cl vs kvs) R2 (.cons (.obj hx) (hv.mono (k1.le.trans k2.le))) (hkv.mono (k1.le.trans k2.le)) .none _ e1 _ λv W' h' tk R' k' v'=>?_
  cases v'
  exact⟨rfl,hq _ W' h' tk R' (k1.trans (k2.trans k')) (.obj (k'.le.at hx))⟩
 ·exact ns e
end
end Mine.Internal
end
section
namespace Mine.Internal
open PySem PyProof.Rows PySem.W PySem.SeqAt
section
variable {C:Cx}{n:Nat}{Γ:cA}{env:Env}{W:Wd}{A:Around}{s:Shared}{st:St}
theorem AttrsR.getNone {W:Wd}{fs:List (Str×AV)}{es:List DictEntry}(h:AttrsR W fs es){name:Str}(e:fs.lookup name=none):getL name es=some none:=by
 have:es.find? (·.key.isStr name)=none:=by
  induction h with
  |nil=>rfl
  | @cons f e' fs es h _ ih =>
   obtain⟨x,a⟩:=f
   (refine x0a2 h λz0 u1=>?_;obtain⟨t,hk⟩:=z0)
   rw[bM]at e
   simp only[List.find?_cons,zln (name:=name) hk]
   by_cases hb:x=name
   ·rw[beq_iff_eq.mpr hb.symm]at e;exact sn e
   ·rw[beq_eq_false_iff_ne.mpr (cG hb)]at e
    refine aw (beq_eq_false_iff_ne.mpr hb) ?_
    exact ih e
 unfold getL
 refine aw this ?_;dsimp only
 refine aw h.noRef ?_;rfl
noncomputable def iU (Cl:Addr)(name:Str)(a:AV)(st:St):Prop:=∃i d fs,a=.obj i∧st.σ[i]?=some (.inst Cl d)∧st.σ[d]?=some (.attrs fs)∧fs.lookup name=none
noncomputable def zix (K:Frag)(Cl:Addr)(name:Str):Option Addr :=
 if findIn K (.ref Cl) "__getattribute__" == some (some (.builtin "object.__getattribute__"))&&findIn K (.ref Cl) "__getattr__" == some none then(match findIn K (.ref Cl) name with
  |some (some (.ref f))=>if typeIn K (.ref f)==some (.type "function")then some f else none
  |_=>none)else none
theorem zy1 {K:Frag}{Cl f:Addr}{name:Str}{G:Prop}(h:zix K Cl name=some f)(k:findIn K (.ref Cl) "__getattribute__" = some (some (.builtin "object.__getattribute__"))→findIn K (.ref Cl) "__getattr__" = some none→findIn K (.ref Cl) name=some (some (.ref f))→typeIn K (.ref f)=some (.type "function")→G):G:=by
 unfold zix at h
 split at h
 ·rename_i hg
  rw[aq,beq_iff_eq,beq_iff_eq]at hg
  split at h
  ·rename_i f' hf
   split at h
   ·rename_i ht
    obtain rfl:=sj h
    exact k hg.1 hg.2 hf (beq_iff_eq.mp ht)
   ·exact ns h
  ·exact ns h
 ·exact ns h
theorem Res.inst {Cl f:Addr}{name:Str}(h:zix C.K Cl name=some f):Res C name (.ref f) (iU Cl name):=by
 intro A W st s a v R hv ⟨i,d,fs,ha,e1,e2,e3⟩ Q E pl hq
 subst ha
 revert hq
 refine zy1 h λh1 h2 h3 h4=>hv.objE rfl λx hi hq=>?_
 (refine x1a2 (R.objs _ _ _ e1 hi) λad hd hx=>?_)
 (refine x2a2 (R.objs _ _ _ e2 hd) λes m hdx hfs=>?_)
 exact method_fn (od:=some (dictOf es m)) R.kin ⟨hx,rfl,rfl,hdx⟩ h1 h2 h3 h4 (by unfold shadowIn;dsimp only;simp only[lookIn_dict,hfs.getNone e3];rfl) hq
structure Kws (C:Cx)(n:Nat)(Γ:cA)(kws:List Keyword)(f:K (List (Str×AV))):Prop where
 all:∀pos env,(backToKw pos (keywordEach kws env)).all (λx=>x.1.isSome)=true
 names:∀pos env,∃l,(backToKw pos (keywordEach kws env)).filterMap (λx=>x.1)=l∧∀st ps st',f st=some (ps,st')→ps.map (λx=>x.1)=l
 run:∀pos A env W st s,AOk C n A→Inv C Γ env W st s.heap→Run C Γ env W A s (evalAll ((backToKw pos (keywordEach kws env)).map (λx=>x.2))) (f st) λW ps vs=>VRs W (ps.map (λx=>x.2)) vs
theorem Kws.nil:Kws C n Γ [] (K.ret []) :=
 ⟨λu1 u2=>rfl,λu1 u2=>⟨[],rfl,λst ps st' e=>by obtain⟨rfl,rfl⟩:=sp e;rfl⟩,λpos A env W st s ok I=>.now I s.toks .nil λQ E h=>ai h⟩
theorem Kws.cons {x:Str}{e:Expr}{p:Pos}{r:List Keyword}{f:K AV}{g:K (List (Str×AV))}(h:Ev C n Γ e f)(hr:Kws C n Γ r g):Kws C n Γ (⟨some x,e,p⟩::r) (K.bind f λa=>K.bind g λps=>K.ret ((x,a)::ps)):=by
 refine⟨λpos env=>hr.all pos env,λpos env=>am (hr.names pos env) λl q=>⟨x::l,congrArg (x::·) q.1,λst ps st' e=>K.bindE e λa st₁ e1 e=>K.bindE e λas st₂ e2 e=>?_⟩,λpos A env W st s ok I v st' e Q E hq=>K.bindE e λa st₁ e1 e=>K.bindE e λas st₂ e2 e=>?_⟩
 ·obtain⟨rfl,rfl⟩:=sp e
  exact congrArg (x::·) (q.2 _ _ _ e2)
 ·obtain⟨rfl,rfl⟩:=sp e
  show wpAny _ _ (do let v ←(do let v ←eval _ env;standAt pos;pure v);return v::(←holding [v] (evalAll ((backToKw pos (keywordEach r env)).map (λx=>x.2))))) Q E s
  refine aa (aa (h.run A env W st s ok I _ _ e1 _ _ λva W1 h1 tk1 I1 k1 v1=>aa (bO (ai ?_))))
  exact aa (aV (hr.run pos A env W1 st₁ _ ok I1 _ _ e2 _ _ λvs W2 h2 tk2 I2 k2 v2=>ai (hq _ W2 h2 tk2 I2 (k1.trans k2) (.cons (v1.mono k2.le) v2))))
theorem Ear.kw {args:List Expr}{kws:List Keyword}{f:K (List AV)}{g:K (List (Str×AV))}(h:Eas C n Γ args f)(hk:Kws C n Γ kws g)(hl:lone args=false):Ear C n Γ args kws (K.bind f λas=>K.bind g λps=>K.ret (as,ps)):=by
 refine⟨λpos fv A env W st s ok I v st' e Q E hq=>K.bindE e λas st₁ e1 e=>K.bindE e λps st₂ e2 e=>?_⟩
 obtain⟨rfl,rfl⟩:=sp e
 refine am (hk.names pos env) λl q=>zbg (zfr hl) (hk.all pos env) (h.run pos A env W st s ok I _ _ e1 _ _ λvs W1 h1 tk1 I1 k1 v1=>hk.run pos A env W1 st₁ (mv s h1 tk1) ok I1 _ _ e2 _ _ λks W2 h2 tk2 I2 k2 v2=>?_)
 have hn:=q.2 _ _ _ e2
 have hlen:l.length=ks.length:=by simp only[←hn,ae,←v2.length,ae]
 refine aw q.1 ?_
 exact hq ⟨vs,l.zip ks⟩ W2 h2 tk2 I2 (k1.trans k2) ⟨v1.mono k2.le,(List.map_fst_zip (bj hlen)).trans hn.symm,(List.map_snd_zip (bj hlen.symm)).symm▸v2⟩
noncomputable def CalK (C:Cx)(n:Nat)(Γ:cA)(f:Value)(F:List AV→List (Str×AV)→K AV):Prop :=
 ∀A env Wd st (s:Shared) args kws vs kvs,AOk C n A→Inv C Γ env Wd st s.heap→VRs Wd args vs→BindsR Wd kws kvs→Run C Γ env Wd A s (call f vs kvs) (F args kws st) VR
noncomputable def zvu (F:List AV→List (Str×AV)→List AO→Option (AV×List AO))(args:List AV)(kws:List (Str×AV)):K AV:=λst=>(F args kws st.σ).map λp=>(p.1,⟨st.θ,p.2⟩)
theorem CalK.fn {f:Value}{F}(h:FnK C n f F):CalK C n Γ f (zvu F):=λA env W st s args kws vs kvs ok I hv hk=>.omap λp e=>.mk1 λQ E hq =>
 dH (h A W st.σ s args kws vs kvs ok I.rel hv hk p.1 p.2 e _ λv W' h' tk R k hr=>hq v W' h' tk (I.keep R k) k.wide hr)
theorem zma {W:Wd}{ps:List (Str×AV)}:∀{kvs:List (Str×Value)},kvs.map (λx=>x.1)=ps.map (λx=>x.1)→VRs W (ps.map (λx=>x.2)) (kvs.map (λx=>x.2))→BindsR W ps kvs:=by
 induction ps with
 |nil =>
  intro kvs h _
  cases kvs with
  |nil=>exact .nil
  |cons _ _=>cases h
 |cons p ps ih =>
  intro kvs h h2
  cases kvs with
  |nil=>cases h
  |cons q kvs =>
   have h:=List.cons.inj h
   cases h2 with
   |cons hv hr =>
    have r:=ih h.2 hr
    obtain⟨x,a⟩:=p
    obtain⟨y,v⟩:=q
    cases(show y=x from h.1)
    exact .cons hv r
theorem zv1 {env:Env}{pos:Pos}{l:List Keyword}(hl:l.all (λk=>k.arg.isSome)=true):(backToKw pos (keywordEach l env)).all (λx=>x.1.isSome)=true:=by
 induction l with
 |nil=>rfl
 |cons k r ih =>
  rw[dX,aq]at hl
  obtain⟨nm,vl,p⟩:=k
  exact aq _ _▸⟨hl.1,ih hl.2⟩
theorem zzg {args:List Expr}{kws:List Keyword}{env:Env}{pos:Pos}(hst:args.all (λe=>!fj e)=true)(hkw:kws.all (λk=>k.arg.isSome)=true)(hlen:decide (args.length+kws.length<29)=true):methodCallForm (args.length+kws.length) (backTo pos (starEach args env)) (backToKw pos (keywordEach kws env))=true:=by
 unfold methodCallForm
 refine aw (zus hst) (aw (zv1 hkw) ?_)
 have:args.length+kws.length<29:=of_decide_eq_true hlen
 simp only[Bool.true_and,decide_eq_true_eq]
 split<;>lia
theorem Ev.methK {o:Expr}{name:Str}{apos pos:Pos}{args:List Expr}{kws:List Keyword}{fv:Value}{P:AV→St→Prop}{f:K AV}{g:K (List AV×List (Str×AV))}{F:List AV→List (Str×AV)→K AV}(ho:Ev C n Γ o f)(hr:Res C name fv P)(hc:Callee C fv)(ha:Ear C n Γ args kws g)(hF:CalK C n Γ fv F)
  (hst:args.all (λe=>!fj e)=true) (hkw:kws.all (λk=>k.arg.isSome)=true) (hlen:decide (args.length+kws.length<29)=true) (hsup:fL o=false) (hline:(apos.endLine==pos.line)=true) :
  Ev C n Γ (.Call (.Attribute o name apos) args kws pos) (K.bind f λa=>K.bind (fw (P a)) λu1=>K.bind g λp=>F (a::p.1) p.2):=by
 refine⟨λA env W st s ok I v st' e Q E hq=>K.bindE e λa st₁ e1 e=>zlw e λhP e=>K.bindE e λas st₂ e2 e=>?_⟩
 simp only[fH,zav hsup]
 refine aa (ho.run A env W st s ok I _ _ e1 _ _ λva W1 h1 tk1 I1 k1 v1=>aa (bO ?_))
 have hpos:methodCallPos true o env apos pos=pure pos:=by unfold methodCallPos;refine aw hline ?_;rfl
 unfold methodCall
 refine aw (zzg hst hkw hlen) ?_
 refine aa (aV (hr A W1 st₁ (mv s h1 tk1) a va I1.rel v1 hP _ _ _ (aa (ch hpos ?_))))
 refine zbz (P:=λh=>∀b o,C.h₀.get? b=some o→h.get? b=some o) (hc _) (ha.run pos fv A env W1 st₁ (mv s h1 tk1) ok I1 as st₂ e2 _ _ λar W2 h2 tk2 I2 k2 v2=>⟨I2.rel.old,?_⟩)
 exact hF A env W2 st₂ (mv s h2 tk2) (a::as.1) as.2 (va::ar.pos) ar.kw ok I2 (.cons (v1.mono k2.le) v2.1) (zma v2.2.1 v2.2.2) v st' e _ _ λr W3 h3 tk3 I3 k3 v3=>hq r W3 h3 tk3 I3 (k1.trans (k2.trans k3)) v3
noncomputable def noKw (F:List AV→K AV)(args:List AV)(kws:List (Str×AV)):K AV:=λst=>noK kws (F args st)
theorem CalK.of {f:Value}{F:List AV→K AV}(h:Cal C n Γ f F):CalK C n Γ f (noKw F):=λA env W st s args kws vs kvs ok I hv hk r st' e Q E hq =>
 ziv (P:=λkvs=>wpAny (model C.prog C.w) A (call f vs kvs) Q E s) e hk λe=>h A env W st s args vs ok I hv r st' e Q E hq
theorem zy3 {args:List Expr}(h:args.all (λe=>!fj e)=true):lone args=false:=by
 cases args with
 |nil=>rfl
 |cons e r=>cases r with
  |nil=>rw[dX,aq]at h;exact(Bool.not_eq_true' _).mp h.1
  |cons _ _=>rfl
theorem Ev.meth {o:Expr}{name:Str}{apos pos:Pos}{args:List Expr}{fv:Value}{P:AV→St→Prop}{f:K AV}{g:K (List AV)}{F:List AV→K AV}(ho:Ev C n Γ o f)(hr:Res C name fv P)(hc:Callee C fv)(ha:Eas C n Γ args g)(hF:Cal C n Γ fv F)
  (hst:args.all (λe=>!fj e)=true) (hlen:decide (args.length<29)=true) (hsup:fL o=false) (hline:(apos.endLine==pos.line)=true) :
  Ev C n Γ (.Call (.Attribute o name apos) args [] pos) (K.bind f λa=>K.bind (fw (P a)) λu1=>K.bind g λas=>F (a::as)):=by
 have e:=Ev.methK (kws:=[]) ho hr hc (Ear.plain ha (zy3 hst)) (.of hF) hst rfl hlen hsup hline
 have:(K.bind f λa=>K.bind (fw (P a)) λu1=>K.bind (K.bind g λas=>K.ret (as,[])) λp=>noKw F (a::p.1) p.2)=K.bind f λa=>K.bind (fw (P a)) λu1=>K.bind g λas=>F (a::as) :=
  congrArg (K.bind f) (funext λa=>congrArg (K.bind _) (funext λu1=>funext λst=>by unfold K.bind;cases g st<;>rfl))
 exact this▸e
end
end Mine.Internal
end
section
namespace Mine.Internal
open PySem PyProof.Rows PySem.W PySem.SeqAt
noncomputable def uncons?:List AV→Option (AV×List AV)
 |a::r=>some (a,r)
 | []=>none
noncomputable def z0y (z:Str):List (Str×AV)→Option AV
 | [(z',c)]=>if z'=z then some c else none
 |_=>none
noncomputable def z11 (x y z:Str):iy:=λargs kws σ=>(z0y z kws).bind λc=>(two? args).map λp=>([(x,p.1),(y,p.2),(z,c)],σ)
noncomputable def bD1 (x y:Str):iy:=λargs kws σ=>noK kws ((one? args).map λa=>([(x,a),(y,.none)],σ))
noncomputable def bD2 (x y z:Str):iy:=λargs kws σ=>noK kws ((two? args).map λp=>([(x,p.1),(y,p.2),(z,.none)],σ))
noncomputable def bV1 (x z:Str):iy:=λargs kws σ=>noK kws ((uncons? args).bind λp=>if p.2.length<2^20 then some ([(x,p.1),(z,.tup p.2)],σ)else none)
noncomputable def bV2 (x y z:Str):iy:=λargs kws σ=>noK kws ((uncons? args).bind λp=>(uncons? p.2).bind λq=>if q.2.length<2^20 then some ([(x,p.1),(y,q.1),(z,.tup q.2)],σ)else none)
section
variable {C:Cx}{fd:FuncData}{W:Wd}{A:Around}{s:Shared}{σ:List AO}
@[elab_as_elim] theorem VRs.unE {args:List AV} {p:AV×List AV} {vs:List Value} {P:List Value→Prop} (h:VRs W args vs) (e:uncons? args=some p) (k:∀v ws,VR W p.1 v→VRs W p.2 ws→P (v::ws)):P vs:=by
 cases args with
 |nil=>exact ns e
 |cons a r=>obtain rfl:=sj e;exact h.consE k
@[elab_as_elim] theorem BindsR.oneE {z:Str} {kws:List (Str×AV)} {kvs:List (Str×Value)} {c:AV} {P:List (Str×Value)→Prop} (h:BindsR W kws kvs) (e:z0y z kws=some c) (k:∀u,VR W c u→P [(z,u)]):P kvs:=by
 cases h with
 |nil=>exact ns e
 | @cons x a v r r' hv hr =>
  cases hr with
  |cons _ _=>exact ns e
  |nil=>exact im e λhz e=>by exact aw hz (k _ (br e▸hv))
theorem Binds.p2k1 {x y z:Str}(h:∀v w u,bindArgs fd ⟨[v,w],[(z,u)]⟩=pure [(x,v),(y,w),(z,u)]):Binds C fd (z11 x y z):=λA W σ s args kws vs kvs R hv hkv p e Q E =>
 bindE e λc hc e=>mapE e λp hp hq=>hkv.oneE hc λu hu=>VRs.two?E (vs:=vs) hv hp λv w hv hw=>zg3 (h v w u) (ai (hq.now R (.cons hv (.cons hw (.cons hu .nil)))))
theorem Binds.d1 {x y:Str}{T:Addr}{o:Obj}{m:Nat}{k:Value→Option (Array Value)→Sem (List (Str×Value))}(hd:fd.defaults=.ref T)(ho:C.K.lookup T=some o)(hs:o.data=.seq #[.none] m)
  (h₁:∀v,bindArgs fd ⟨[v],[]⟩=seqItems? fd.defaults >>= k v) (h₂:∀v,k v (some #[.none])=pure [(x,v),(y,.none)]) :
  Binds C fd (bD1 x y):=λA W σ s args kws vs kvs R hv hkv p e Q E =>
 ziv (P:=λkvs=>PostB C W s Q p→wpAny _ A (bindArgs fd ⟨vs,kvs⟩) Q E s) e hkv λe=>mapE e λa ha hq=>VRs.one?E (vs:=vs) hv ha λv hv=>BindsTo.of_defaults hd (R.kin _ _ ho) hs (h₁ _) (h₂ _) _ _ _ _ (hq.now R (.cons hv (.cons .none .nil)))
theorem Binds.d2 {x y z:Str}{T:Addr}{o:Obj}{m:Nat}{k:Value→Value→Option (Array Value)→Sem (List (Str×Value))}(hd:fd.defaults=.ref T)(ho:C.K.lookup T=some o)(hs:o.data=.seq #[.none] m)
  (h₁:∀v w,bindArgs fd ⟨[v,w],[]⟩=seqItems? fd.defaults >>= k v w) (h₂:∀v w,k v w (some #[.none])=pure [(x,v),(y,w),(z,.none)]) :
  Binds C fd (bD2 x y z):=λA W σ s args kws vs kvs R hv hkv p e Q E =>
 ziv (P:=λkvs=>PostB C W s Q p→wpAny _ A (bindArgs fd ⟨vs,kvs⟩) Q E s) e hkv λe=>mapE e λa ha hq=>VRs.two?E (vs:=vs) hv ha λv w hv hw=>BindsTo.of_defaults hd (R.kin _ _ ho) hs (h₁ _ _) (h₂ _ _) _ _ _ _ (hq.now R (.cons hv (.cons hw (.cons .none .nil))))
theorem PostB.tup {ab:List (Str×AV)}{as:List AV}{rest:List Value}{Q:List (Str×Value)→Shared→Prop}{f:Value→List (Str×Value)}(hq:PostB C W s Q (ab,σ))(R:Rel C W σ s.heap)(hv:VRs W as rest)(hf:∀W' t,W.Le W'→VR W' (.tup as) t→BindsR W' ab (f t)):Q (f (.ref s.heap.objs.size)) { s with heap:=s.heap.push { cls:=.type "tuple", data:=.seq rest.toArray } } :=
 have X:=R.pushImm { cls:=.type "tuple", data:=.seq rest.toArray } rfl
 hq _ _ _ (s.toks,s.drawn) X.1 X.2 (hf _ _ X.2.le (.tup aj (hv.mono X.2.le)))
theorem Binds.v1 {x z:Str}(h:∀v rest,bindArgs fd ⟨v::rest,[]⟩=newTuple rest >>= λt=>pure [(x,v),(z,t)]) :
  Binds C fd (bV1 x z):=λA W σ s args kws vs kvs R hv hkv p e Q E =>
 ziv (P:=λkvs=>PostB C W s Q p→wpAny _ A (bindArgs fd ⟨vs,kvs⟩) Q E s) e hkv λe=>bindE e λp hp' e=>gN e λhlt hq=>VRs.unE (vs:=vs) hv hp' λv ws hv hr =>
  zg3 (h v ws) (aa (d3 (ai (hq.tup (f:=λt=>[(x,v),(z,t)]) R hr λW' t le ht=>.cons (hv.mono le) (.cons ht .nil))) (gK hlt hr.length)))
theorem Binds.v2 {x y z:Str}(h:∀v w rest,bindArgs fd ⟨v::w::rest,[]⟩=newTuple rest >>= λt=>pure [(x,v),(y,w),(z,t)]) :
  Binds C fd (bV2 x y z):=λA W σ s args kws vs kvs R hv hkv p e Q E =>
 ziv (P:=λkvs=>PostB C W s Q p→wpAny _ A (bindArgs fd ⟨vs,kvs⟩) Q E s) e hkv λe=>bindE e λp hp' e=>bindE e λq hq' e=>gN e λhlt hq=>VRs.unE (vs:=vs) hv hp' λv ws hv hr=>VRs.unE (vs:=ws) hr hq' λw ws hw hr =>
  zg3 (h v w ws) (aa (d3 (ai (hq.tup (f:=λt=>[(x,v),(y,w),(z,t)]) R hr λW' t le ht=>.cons (hv.mono le) (.cons (hw.mono le) (.cons ht .nil)))) (gK hlt hr.length)))
end
end Mine.Internal
end
section
namespace Mine.Internal
open PySem PyProof.Rows PySem.W PySem.SeqAt
section
variable {prog:Program}{w:World}{A:Around}{E:Value→Shared→Prop}{s:Shared}{knd:KeyKind prog w Int}
theorem zqs {d:Addr}{kvs:List (Int×Value)}{ep:Nat}{k:Int}{key v:Value}{Q:Unit→Shared→Prop}(hkey:knd.is k key=true)(hm:s.heap.DictAt knd d kvs ep)
  (hQ:∀h',h'.DictAt knd d (stored kvs k v) (if kvs.any (λkv=>kv.1=k)then ep else ep+1)→Heap.SameBut d s.heap h'→Q () { s with heap:=h',toks:=s.toks+1 })
  (hsz:kvs.length≤sizeLine):wpAny (model prog w) A (dictSet d key v) Q E s:=by
 (refine x2a6 hm λo es ho hc hd hk hp hn=>?_)
 have hes:es.size≤sizeLine:=by
  have e1:=hp.length
  have e2:es.toList.length=es.size:=by trivial
  lia
 have hidx:(es.findIdx? λe=>knd.is k e.key)=kvs.findIdx? λkv=>decide (kv.1=k):=by
  refine dI (hp.findIdx k) ?_;obtain⟨l⟩:=es;simp
 unfold dictSet
 refine aV (aa (knd.pyHash hkey ?_))
 unfold dictSetHashed
 refine aV (aa (wpAny_dictFind_of (s:={ s with toks:=s.toks+1 }) hkey ho hd hk ?_))
 cases hi:es.findIdx? λe=>knd.is k e.key with
 |some i =>
  have hany:=any_of_findIdx_some (hidx▸hi)
  refine aa (cP (aa (wpAny_updateDict (s:={ s with toks:=s.toks+1 }) ho hd (wpAny_point (hQ _ ?_ (aM ..))))))
  refine aw (if_pos hany) ?_
  refine⟨_,_,bc _ ho (Obj.isFreed_of_dict (Obj.data_mapDict hd _)),hc.mapDict _,Obj.data_mapDict hd _,hk.modify _ _,?_,?_⟩
  ·rw[stored,if_pos hany]
   have hl:(es.toList.findIdx? λe=>knd.is k e.key)=some i:=by simp only[←hi];obtain⟨l⟩:=es;simp
   have:=hp.modify hn hl v
   obtain⟨l⟩:=es
   simpa using this
  ·rw[stored,if_pos hany,keys_map_store];exact hn
 |none =>
  have hnot:k∉kvs.map (λx=>x.1):=not_mem_of_findIdx_none (hidx▸hi)
  have hany:¬(kvs.any λkv=>decide (kv.1=k))=true:=by
   rw[bu];(intro zz;refine x1a2 zz λkv hkv he=>?_)
   exact hnot (aH.mpr ⟨kv,hkv,of_decide_eq_true he⟩)
  refine aa (cP (wpAny_updateDictKeys (hz:=hes) (s:={ s with toks:=s.toks+1 }) ho hd (hQ _ ?_ (aM ..))))
  refine aw (if_neg hany) ?_
  refine⟨_,_,bc _ ho (Obj.isFreed_of_dict (dA hd _)),hc.mapDictKeys _,dA hd _,hk.push hkey _,?_,?_⟩
  ·rw[stored,if_neg hany]
   have:=hp.append hkey (knd.hash k) v
   obtain⟨l⟩:=es
   simpa using this
  ·rw[stored,if_neg hany,aE,b5]
   refine⟨hn,by simp,?_⟩
   intro a ha b hb
   simp only[aN,fz,ac]at hb
   subst hb
   exact λe=>hnot (e▸ha)
theorem zp4 {d:Addr}{kvs:List (Int×Value)}{ep:Nat}{k:Int}{key v:Value}{Q:Unit→Shared→Prop}(hkey:knd.is k key=true)(hm:s.heap.DictAt knd d kvs ep)
  (hQ:∀h',h'.DictAt knd d (stored kvs k v) (if kvs.any (λkv=>kv.1=k)then ep else ep+1)→Heap.SameBut d s.heap h'→Q () { s with heap:=h',toks:=s.toks+1 })
  (hsz:kvs.length≤sizeLine):wpAny (model prog w) A (setItem (.ref d) key v) Q E s:=by
 have hT:=hm.dictOf.typeIs
 unfold setItem
 refine aV (aa (wpAny_sequenceKey hT (by decide) ?_))
 refine aa (cK (name:=Str.ofString "__setitem__") hT slot_dict_setitem (bx slot_dict_setitem hT entry_dict_setitem ?_ (args_dict_setitem _ _ _)))
 refine aa (wpAny_notOrdered_dict hT ?_)
 show wpAny _ _ (dictSet d key v >>= _) _ _ s
 exact aa (zqs hkey hm (λh' hm' hs'=>ai ⟨.none,rfl,ai (hQ h' hm' hs')⟩) hsz)
theorem zpv {d:Addr}{kvs:List (Int×Value)}{ep:Nat}{k:Int}{key:Value}{Q:Option DictEntry→Shared→Prop}(hkey:knd.is k key=true)(hm:s.heap.DictAt knd d kvs ep)(hthere:(valueAt kvs k).isSome=true)
  (hsome:∀e h',h'.DictAt knd d (without kvs k) (ep+1)→Heap.SameBut d s.heap h'→Q (some e) { s with heap:=h',toks:=s.toks+1 })
  (hsz:kvs.length≤sizeLine):wpAny (model prog w) A (Builtin.Dict.takeOut d key) Q E s:=by
 (refine x2a6 hm λo es ho hc hd hk hp hn=>?_)
 have hes:es.size≤sizeLine:=by
  have e1:=hp.length
  have e2:es.toList.length=es.size:=by trivial
  lia
 unfold Builtin.Dict.takeOut
 refine aV (aa (knd.pyHash hkey (aa (wpAny_dictFind_of (s:={ s with toks:=s.toks+1 }) hkey ho hd hk ?_))))
 cases hi:es.findIdx? λe=>knd.is k e.key with
 |none =>
  exfalso
  rw[←hp.find k]at hthere
  have:(es.toList.find? λe=>knd.is k e.key)=none:=by
   rw[cI]
   intro e he
   have:=Array.findIdx?_eq_none_iff.mp hi e (Array.mem_toList_iff.mp he)
   simpa using this
  rw[this]at hthere
  exact ft hthere
 |some i =>
  have hl:(es.toList.findIdx? λe=>knd.is k e.key)=some i:=by refine dI hi ?_;obtain⟨l⟩:=es;simp
  (refine x1a3 (hp.at hl) λe he hek hev=>?_)
  refine aa (wpAny_dictEntries (s:={ s with toks:=s.toks+1 }) ho hd ?_)
  have he':es[i]?=some e:=by refine dI he ?_;obtain⟨l⟩:=es;simp
  refine aw he' ?_
  refine aa (wpAny_updateDictKeys (hz:=hes) (s:={ s with toks:=s.toks+1 }) ho hd (ai (hsome e _ ⟨_,_,bc _ ho (Obj.isFreed_of_dict (dA hd _)),
   hc.mapDictKeys _,dA hd _,hk.erase _,?_,nodup_without hn k⟩ (aM ..))))
  have:=hp.erase hn hl
  obtain⟨l⟩:=es
  simpa using this
theorem zqu {d:Addr}{kvs:List (Int×Value)}{ep:Nat}{k:Int}{key:Value}{Q:Unit→Shared→Prop}(hkey:knd.is k key=true)(hm:s.heap.DictAt knd d kvs ep)(hthere:(valueAt kvs k).isSome=true)
  (hQ:∀h',h'.DictAt knd d (without kvs k) (ep+1)→Heap.SameBut d s.heap h'→Q () { s with heap:=h',toks:=s.toks+1 })
  (hsz:kvs.length≤sizeLine):wpAny (model prog w) A (delItem (.ref d) key) Q E s:=by
 have hT:=hm.dictOf.typeIs
 refine wpAny_delItem_slot hT (by decide) F.slot_dict_delitem (bx F.slot_dict_delitem hT F.entry_dict_delitem ?_ (F.args_dict_delitem_2 _ _))
 unfold Builtin.«dict.__delitem__»
 refine aa ?_
 unfold Builtin.Dict.dictSlotArgs
 refine aa (wpAny_notOrdered_dict hT ?_)
 refine ai ?_
 show wpAny _ _ (Builtin.Dict.takeOut d key >>= _) _ _ s
 refine aa (zpv hkey hm hthere (λe h' hm' hs'=>?_) hsz)
 exact aa (wpAny_letGo (ai ⟨.none,rfl,hQ h' hm' hs'⟩))
end
noncomputable def getD (es:List (Int×AV))(k:Int):Option AV:=(es.find? λp=>p.1=k).map (λx=>x.2)
noncomputable def putD (es:List (Int×AV))(k:Int)(v:AV):List (Int×AV):=if es.any (λp=>p.1=k)then es.map (λp=>if p.1=k then(p.1,v)else p)else es++[(k,v)]
noncomputable def delD (es:List (Int×AV))(k:Int):List (Int×AV):=es.filter λp=>decide (p.1≠k)
inductive KvR (W:Wd):List (Int×AV)→List (Int×Value)→Prop
 |nil:KvR W [] []
 |cons {k a v es kvs}:VR W a v→KvR W es kvs→KvR W ((k,a)::es) ((k,v)::kvs)
section
variable {W:Wd}{es:List (Int×AV)}{kvs:List (Int×Value)}
theorem KvR.of {es:List (Int×AV)}:∀{kvs:List (Int×Value)},kvs.map (λx=>x.1)=es.map (λx=>x.1)→VRs W (es.map (λx=>x.2)) (kvs.map (λx=>x.2))→KvR W es kvs:=by
 induction es with
 |nil =>
  intro kvs h _
  cases kvs with
  |nil=>exact .nil
  |cons _ _=>cases h
 |cons p ps ih =>
  intro kvs h h2
  cases kvs with
  |nil=>cases h
  |cons q kvs =>
   have h:=List.cons.inj h
   cases h2 with
   |cons hv hr =>
    have r:=ih h.2 hr
    obtain⟨x,a⟩:=p
    obtain⟨y,v⟩:=q
    cases(show y=x from h.1)
    exact .cons hv r
theorem KvR.keys (h:KvR W es kvs):kvs.map (λx=>x.1)=es.map (λx=>x.1):=by
 induction h with
 |nil=>rfl
 |cons _ _ ih=>simp[ih]
theorem KvR.len (h:KvR W es kvs):es.length=kvs.length:=by
 induction h with
 |nil=>rfl
 |cons _ _ ih=>simp[ih]
theorem KvR.any (h:KvR W es kvs)(k:Int):kvs.any (λp=>p.1=k)=es.any (λp=>p.1=k):=by
 induction h with
 |nil=>rfl
 |cons _ _ ih=>simp only[fg,ih]
theorem KvR.get (h:KvR W es kvs)(k:Int):(getD es k=none∧valueAt kvs k=none)∨∃a v,getD es k=some a∧valueAt kvs k=some v∧VR W a v:=by
 induction h with
 |nil=>exact .inl ⟨rfl,rfl⟩
 | @cons x a v es kvs h1 _ ih =>
  by_cases e:x=k
  ·right;exact⟨a,v,by simp[getD,e],by simp[valueAt,e],h1⟩
  ·simpa[getD,valueAt,e]using ih
theorem KvR.repl (h:KvR W es kvs)(k:Int){a:AV}{v:Value}(hv:VR W a v):KvR W (es.map (λp=>if p.1=k then(p.1,a)else p)) (kvs.map (λp=>if p.1=k then(p.1,v)else p)):=by
 induction h with
 |nil=>exact .nil
 | @cons x b u es kvs h1 _ ih =>
  simp only[aN]
  by_cases e:x=k
  ·refine aw (if_pos e) (aw (if_pos e) ?_);exact .cons hv ih
  ·refine aw (if_neg e) (aw (if_neg e) ?_);exact .cons h1 ih
theorem KvR.app (h:KvR W es kvs)(k:Int){a:AV}{v:Value}(hv:VR W a v):KvR W (es++[(k,a)]) (kvs++[(k,v)]):=by
 induction h with
 |nil=>exact .cons hv .nil
 |cons h1 _ ih=>exact .cons h1 ih
theorem KvR.put (h:KvR W es kvs)(k:Int){a:AV}{v:Value}(hv:VR W a v):KvR W (putD es k a) (stored kvs k v):=by
 unfold putD stored
 refine aw (h.any k) ?_
 split
 ·exact h.repl k hv
 ·exact h.app k hv
theorem KvR.del (h:KvR W es kvs)(k:Int):KvR W (delD es k) (without kvs k):=by
 induction h with
 |nil=>exact .nil
 | @cons x b u es kvs h1 _ ih =>
  unfold delD without at ih ⊢
  simp only[List.filter_cons]
  by_cases e:x=k
  ·simpa[e]using ih
  ·simp only[ne_eq,e,not_false_eq_true,decide_true,if_true]
   exact .cons h1 (by exact ih)
end
section
variable {C:Cx}{n:Nat}{Γ:cA}{env:Env}{W:Wd}{A:Around}{s:Shared}{st:St}
theorem i5 {σ:List AO}{h:Heap}(R:Rel C W σ h){o:Nat}{d:Addr}{es:List (Int×AV)}{ep:Nat}(hd:W.φ[o]?=some d)(e:σ[o]?=some (.dict es ep)):∃kvs,h.DictAt (intKind C.prog C.w) d kvs ep∧KvR W es kvs:=by
 exact am (zdg R hd e) λkvs r=>⟨kvs,r.1,.of r.2.1.1 r.2.1.2⟩
theorem KvR.pairsR {prog:Program}{w:World}{es:List (Int×AV)}{kvs:List (Int×Value)}{en:List DictEntry}(hp:Pairs (intKind prog w) en kvs)(hk:∀e∈en,∃k,(intKind prog w).is k e.key=true∧e.hash=(intKind prog w).hash k)(h:KvR W es kvs):PairsR W es en:=by
 induction hp generalizing es with
 |nil=>cases h;exact .nil
 | @cons e kv en kvs h1 h2 _ ih =>
  cases h with
  |cons hv hr =>
   refine .cons ⟨dS h1,?_,by refine aw h2 ?_;exact hv⟩ (ih (λe he=>hk e (af _ he)) hr)
   (refine x1a2 (hk e aj) λk e1 e2=>?_)
   refine aw e2 (aw ((intKind prog w).inj _ _ _ e1 h1) ?_);rfl
theorem zl5 {h:Heap}{d:Addr}{es:List (Int×AV)}{kvs:List (Int×Value)}{ep:Nat}(hd:h.DictAt (intKind C.prog C.w) d kvs ep)(hv:KvR W es kvs):OR W h (.dict es ep) d:=by
 (refine x2a6 hd λz0 en ho z3 hdat hk hp hn=>?_;obtain⟨c,dd,dt,sl⟩:=z0;obtain⟨hc1,hc2,hc3⟩:=z3)
 dsimp only at hc1 hc2 hc3 hdat
 subst hc1 hc2 hc3 hdat
 exact⟨en,ho,hv.pairsR hp (λe he=>hk e (Array.mem_toList_iff.mp he)),by refine dI hv.keys ?_;exact hn⟩
noncomputable def newD:K AV:=newO (.dict [] 0)
noncomputable def zsz (k:Int):AO→Option AV
 |.dict es _=>getD es k
 |.list vs=>gh vs k
 |_=>none
noncomputable def subV (σ:List AO)(k:Int):AV→Option AV
 |.obj o=>(σ[o]?).bind (zsz k)
 |.tup vs=>gh vs k
 |.lst vs=>gh vs k
 |.str x=>(zu8 x k).map .str
 |_=>none
noncomputable def subA (a i:AV):K AV:=λst=>i.int?.bind λk=>(subV st.σ k a).map λv=>(v,st)
noncomputable def zw0 (k:Int)(x:AV):AO→Option AO
 |.dict es ep=>if es.length<2^20 then some (.dict (putD es k x) (if es.any (λp=>p.1=k)then ep else ep+1))else none
 |.list vs=>if 0≤k∧k<vs.length∧k<2^62 then some (.list (vs.set k.toNat x))else none
 |_=>none
noncomputable def zdu (a i x:AV):K Unit:=λst=>a.oid.bind λo=>i.int?.bind λk=>(st.σ[o]?).bind λob=>(zw0 k x ob).map λob'=>((),⟨st.θ,st.σ.set o ob'⟩)
theorem iI (k:Int)(t:Tok):(intKind C.prog C.w).is k (.int k t)=true:=by simp[intKind,Value.isInt]
theorem ze2 {a i x:AV}{va vi vx:Value}(I:Inv C Γ env W st s.heap)(ha:VR W a va)(hi:VR W i vi)(hx:VR W x vx):Run C Γ env W A s (setItem va vi vx) (zdu a i x st) λu1 u2 u3=>True :=
 .obind λo ho=>.obind λk hk=>.obind λob hob=>.omap λob' hob'=>VR.objE (P:=λva=>Run C Γ env W A s (setItem va vi vx) _ λu1 u2 u3=>True) ha ho λl hl=>hi.intE (P:=λvi=>Run C Γ env W A s (setItem (.ref l) vi vx) _ λu1 u2 u3=>True) hk λt=>.mk1 λQ E hq=>by
  revert hq
  cases ob with
  |dict es ep =>
   refine gN hob' λhlt hq=>am (i5 I.rel hl hob) λkvs r=>zp4 (knd:=intKind C.prog C.w) (k:=k) (iI k t) r.1 (λh' hd' hs=>?_) (gK hlt r.2.len)
   rw[r.2.any]at hd'
   exact hq.upd I hl hs (zl5 hd' (r.2.put k hx)) _ trivial
  |list vs =>
   refine gN hob' λhb hq=>lstE I.rel hl (eR hob) λitems m hg hv hlen=>ki_setAt hg hb.1 (Int.lt_trans hb.2.2 (by decide)) (hlen▸hb.2.1) ?_
   exact hq.upd I hl (aM s.heap _ (Obj.mapSeq (·.setIfInBounds k.toNat vx))) ⟨_,_,bc (Obj.mapSeq (·.setIfInBounds k.toNat vx)) hg rfl,by rw[Array.toList_setIfInBounds];exact hv.set _ hx⟩ s.toks trivial
  |_=>exact ns hob'
theorem As.suba {o i:Expr}{pos:Pos}{f g:K AV}(ho:Ev C n Γ o f)(hi:Ev C n Γ i g):As C n Γ (.Subscript o i pos) (λx=>K.bind f λa=>K.bind g λi=>zdu a i x):=by
 refine⟨λA env W st s x vx ok I hx r st' e Q E hq=>K.bindE e λa st₁ e1 e=>K.bindE e λb st₂ e2 e=>?_⟩
 rw[assign_Subscript]
 refine aa (aV (ho.run A env W st s ok I _ _ e1 _ _ λva W1 h1 tk1 I1 k1 v1=>?_))
 refine aa (aV (hi.run A env W1 st₁ _ ok I1 _ _ e2 _ _ λvi W2 h2 tk2 I2 k2 v2=>?_))
 refine aa (bO (aa (aV ?_)))
 exact ze2 (s:=(mv s h2 tk2)) I2 (v1.mono k2.le) v2 (hx.mono (k1.le.trans k2.le)) _ _ e _ _ λu W3 h3 tk3 I3 k3 u1=>wpAny_release (hq r W3 h3 tk3 I3 (k1.trans (k2.trans k3)) trivial)
theorem Ex.assignSuba {o i:Expr}{pos' pos:Pos}{value:Expr}{f g k:K AV}(h:Ev C n Γ value f)(ho:Ev C n Γ o g)(hi:Ev C n Γ i k)(hs:∀env,swapsWith value (some (.Subscript o i pos')) pos.line env=pure false) :
  Ex C n Γ (.Assign [.Subscript o i pos'] value pos) (K.bind f λx=>K.bind g λa=>K.bind k λi=>K.bind (zdu a i x) λu1=>K.ret .next):=by
 refine⟨λA env W st s ok I v st' e Q E hq=>K.bindE e λx st₁ e1 e=>K.bindE e λa st₂ e2 e=>K.bindE e λb st₃ e3 e=>?_⟩
 refine wpAny_Assign_Subscript (h.run A env W st s ok I _ _ e1 _ _ λvx W1 h1 tk1 I1 k1 v1=>?_) (hs env)
 refine ho.run A env W1 st₁ _ ok I1 _ _ e2 _ _ λva W2 h2 tk2 I2 k2 v2=>?_
 refine hi.run A env W2 st₂ _ ok I2 _ _ e3 _ _ λvi W3 h3 tk3 I3 k3 v3=>?_
 exact Run.finE (k:=λu1=>Flow.next) (R':=FR) (s:=(mv s h3 tk3)) (ze2 (s:=(mv s h3 tk3)) I3 (v2.mono k3.le) v3 (v1.mono (k2.le.trans k3.le))) (λu1 u2 u3 u4=>.next) _ _ e Q E λc W4 h4 tk4 I4 k4 r=>hq c W4 h4 tk4 I4 (k1.trans (k2.trans (k3.trans k4))) r
theorem zpx {a i:AV}{va vi:Value}{value slice:Expr}(hs:zev slice=true)(I:Inv C Γ env W st s.heap)(ha:VR W a va)(hi:VR W i vi):Run C Γ env W A s (subscriptTail value slice va vi) (subA a i st) VR :=
 .obind λk hk=>.omap λu hu=>hi.intE (P:=λvi=>Run C Γ env W A s (subscriptTail value slice va vi) _ VR) hk λt=>by
  have lst:∀l items m,s.heap.get? l=some { cls:=.type "list", data:=.seq items m }→∀vs,VRs W vs items.toList→gh vs k=some u→Run C Γ env W A s (subscriptTail value slice (.ref l) (.int k t)) (some (u,st)) VR:=λl items m hl vs hv e =>
   zto hv e λk1 k2 j x hj hx hr=>.mk1 λQ E hq=>zc4 hs (T := "list") ⟨_,hl,rfl⟩ slot_list_getitem.lookup (zgu hl k1 k2 hj hx (hq.at I s.toks hr))
  cases a with
  |obj o =>
   refine ha.objE rfl λl hl=>bindE hu λob hob hu=>?_
   cases ob with
   |dict es ep =>
    refine am (i5 I.rel hl hob) λkvs r=>(r.2.get k).elim (λh=>nomatch h.1.symm.trans hu) λh=>am h λa' h=>am h λv' h=>.mk1 λQ E hq=>?_
    exact zc4 hs r.1.dictOf.typeIs slot_dict_getitem.lookup (wpAny_getItem_of (knd:=intKind C.prog C.w) (k:=k) (iI k t) r.1.dictOf.mapOf h.2.1 (hq.at I _ (br (h.1.symm.trans hu)▸h.2.2)))
   |list vs=>exact lstE I.rel hl (eR hob) λitems m hg hv u1=>lst l items m hg vs hv hu
   |_=>exact ns hu
  |tup vs=>exact tupE I.rel ha rfl λl items m hl hv u1=>zto hv hu λk1 k2 j x hj hx hr=>.mk1 λQ E hq=>zc4 hs (T := "tuple") ⟨_,hl,rfl⟩ slot_tuple_getitem.lookup (getItem_tuple (iH hl) (by lia) (by lia) hj hx (hq.at I s.toks hr))
  |lst vs=>exact ha.lstE rfl λl items m hl hv=>lst l items m (I.rel.imm _ hl) vs hv hu
  |str x =>
   refine ha.strE rfl λt'=>mapE hu λy hy=>im hy λhb hy=>mapE hy λc hc=>.mk1 λQ E hq=>zc4 hs (T := "str") rfl slot_str_getitem.lookup (PyProof.Rows.getItem_str ?_ hc (hq.at I _ (.str ..)))
   rw[Bool.or_eq_false_iff]
   exact⟨decide_eq_false (by lia),decide_eq_false (by lia)⟩
  |_=>exact ns hu
theorem Ev.suba {value slice:Expr}{pos:Pos}{f g:K AV}(hv:Ev C n Γ value f)(hi:Ev C n Γ slice g)(hs:zev slice=true):Ev C n Γ (.Subscript value slice pos) (K.bind f λa=>K.bind g λi=>subA a i) :=
 ⟨λA env W st s ok I=>.stepE (S:=λva Q E s₁=>wpAny (model C.prog C.w) A (eval slice env) (λvi s₂=>wpAny (model C.prog C.w) A (subscriptTail value slice va vi) Q E s₂) E s₁) (λQ E h=>Subscript_ h) (hv.run A env W st s ok I) λa st₁ va W1 h1 tk1 I1 v1 =>
  Run.step2 (hi.run A env W1 st₁ _ ok I1) λb st₂ vb W2 h2 tk2 I2 k2 v2=>zpx hs I2 (v1.mono k2.le) v2⟩
end
end Mine.Internal
end
section
namespace Mine.Internal
open PySem PyProof.Rows PySem.W PySem.SeqAt
section
variable {C:Cx}{n:Nat}{Γ:cA}{env:Env}{W:Wd}{A:Around}{s:Shared}{st:St}
theorem Ev.dict0 {pos:Pos}:Ev C n Γ (.Dict [] [] pos) newD :=
 ⟨λA env W st s ok I=>.mk1 λQ E hq=>wpAny_Dict_empty (hq.new I emptyDict ⟨#[],aF _ rfl,.nil,bR⟩ s.toks)⟩
noncomputable def hasO (k:Int):AO→Option Bool
 |.dict es _=>some (getD es k).isSome
 |.set S _=>some (S k)
 |_=>none
noncomputable def inB (a b:AV):K Bool:=λst=>a.int?.bind λk=>b.oid.bind λo=>(st.σ[o]?).bind λob=>(hasO k ob).map λc=>(c,st)
noncomputable def vtyp:Value→Option String
 |.type x=>some x
 |_=>none
noncomputable def AV.typ? (a:AV):Option String:=a.val?.bind vtyp
theorem zx0 {v:Value}{x:String}(e:vtyp v=some x):v=.type x:=by cases v<;>first|exact ns e|exact congrArg _ (sj e)
noncomputable def isB (a b:AV):K Bool:=λst=>a.typ?.bind λx=>b.typ?.map λy=>(x==y,st)
noncomputable def zzq (f:K Bool):K AV:=K.bind f λc=>K.ret (.bool c)
noncomputable def notK (f:K Bool):K AV:=K.bind f λc=>K.ret (.bool (!c))
noncomputable def cmpB (op:CmpOp)(a b:AV):K AV:=match op with
 |.In=>orK (zzq (inB a b)) (cmpA .In a b)
 |.NotIn=>orK (notK (inB a b)) (cmpA .NotIn a b)
 |.Is=>orK (zzq (isB a b)) (cmpA .Is a b)
 |.IsNot=>orK (notK (isB a b)) (cmpA .IsNot a b)
 |op=>cmpA op a b
theorem KvR.isSome {W:Wd}{es:List (Int×AV)}{kvs:List (Int×Value)}(h:KvR W es kvs)(k:Int):(valueAt kvs k).isSome=(getD es k).isSome :=
 (h.get k).elim (λq=>by refine aw q.1 (aw q.2 ?_);rfl) λq=>am q λa q=>am q λv q=>by refine aw q.1 (aw q.2.1 ?_);rfl
theorem zpd (x y:String):((Value.type x==Value.type y):Bool)=(x==y):=by
 by_cases h:x=y
 ·subst h;simp
 ·have:¬(Value.type x=Value.type y):=λe=>h (by cases e;rfl)
  simp only[beq_eq_false_iff_ne.mpr this,beq_eq_false_iff_ne.mpr h]
noncomputable def Both (C:Cx)(Γ:cA)(env:Env)(W:Wd)(A:Around)(s:Shared)(op op':CmpOp)(va vb:Value)(out:Option (Bool×St)):Prop :=
 ∀c st',out=some (c,st')→∀Q E,(Post C Γ env W s VR (.bool c) st' Q→wpAny (model C.prog C.w) A (compareOp op va vb) Q E s)∧(Post C Γ env W s VR (.bool (!c)) st' Q→wpAny (model C.prog C.w) A (compareOp op' va vb) Q E s)
theorem Both.yes {op op':CmpOp}{va vb:Value}{f:K Bool}(h:Both C Γ env W A s op op' va vb (f st)):Run C Γ env W A s (compareOp op va vb) (zzq f st) VR:=λb st' e Q E hq=>K.bindE e λc st₁ e1 e2=>by
 obtain⟨rfl,rfl⟩:=sp e2
 exact(h c _ e1 Q E).1 hq
theorem Both.no {op op':CmpOp}{va vb:Value}{f:K Bool}(h:Both C Γ env W A s op op' va vb (f st)):Run C Γ env W A s (compareOp op' va vb) (notK f st) VR:=λb st' e Q E hq=>K.bindE e λc st₁ e1 e2=>by
 obtain⟨rfl,rfl⟩:=sp e2
 exact(h c _ e1 Q E).2 hq
theorem zlr {a b:AV}{va vb:Value}(I:Inv C Γ env W st s.heap)(ha:VR W a va)(hb:VR W b vb):Both C Γ env W A s .In .NotIn va vb (inB a b st):=by
 intro c st' e Q E
 refine am (aZ.mp e) λk p=>am (aZ.mp p.2) λo q=>am (aZ.mp q.2) λob r=>am (aP.mp r.2) λc' h=>?_
 obtain⟨rfl,rfl⟩:=pj h.2
 refine ha.intE p.1 λt=>hb.objE q.1 λl hl=>?_
 have h:=h.1
 have r:=r.1
 clear e p q
 cases ob with
 |dict es ep =>
  refine am (i5 I.rel hl r) λkvs x=>?_
  cases h
  refine dI (x.2.isSome k) ?_
  exact⟨λhq=>wpAny_in_of (iI k t) (zlc I.rel (ij hl)) x.1.dictOf.mapOf (hq.at I _ (.bool _)),λhq=>wpAny_notIn_of (iI k t) (zlc I.rel (ij hl)) x.1.dictOf.mapOf (hq.at I _ (.bool _))⟩
 |set S m =>
  refine am (I.rel.objs _ _ _ r hl) λo x=>?_
  cases h
  exact⟨λhq=>wpAny_inSet_of (iI k t) rfl ((x.2.1.kind C.prog C.w).setOf x.1 x.2.2) (hq.at I _ (.bool _)),λhq=>wpAny_notInSet_of (iI k t) rfl ((x.2.1.kind C.prog C.w).setOf x.1 x.2.2) (hq.at I _ (.bool _))⟩
 |_=>exact ns h
theorem VR.typE {a:AV}{v:Value}{x:String}(h:VR W a v)(e:a.typ?=some x):v=.type x:=(aZ.mp e).elim λw q=>(h.valE q.1).trans (zx0 q.2)
theorem zlo {a b:AV}{va vb:Value}(I:Inv C Γ env W st s.heap)(ha:VR W a va)(hb:VR W b vb):Both C Γ env W A s .Is .IsNot va vb (isB a b st):=by
 intro c st' e Q E
 refine am (aZ.mp e) λx p=>am (aP.mp p.2) λy q=>?_
 obtain⟨rfl,rfl⟩:=pj q.2
 refine aw (ha.typE p.1) (aw (hb.typE q.1) ?_)
 exact⟨λhq=>wpAny_is_plain rfl (zpd x y▸hq.at I _ (.bool _)),λhq=>wpAny_isNot_plain rfl (zpd x y▸hq.at I _ (.bool _))⟩
theorem zi6 {op:CmpOp}{a b:AV}{va vb:Value}(ok:AOk C n A)(I:Inv C Γ env W st s.heap)(ha:VR W a va)(hb:VR W b vb):Run C Γ env W A s (compareOp op va vb) (cmpB op a b st) VR:=by
 cases op with
 |In=>exact .orK (zlr I ha hb).yes (zdj ok I ha hb)
 |NotIn=>exact .orK (zlr I ha hb).no (zdj ok I ha hb)
 |Is=>exact .orK (zlo I ha hb).yes (zdj ok I ha hb)
 |IsNot=>exact .orK (zlo I ha hb).no (zdj ok I ha hb)
 |_=>exact zdj ok I ha hb
theorem Ev.cmpb {l r:Expr}{op:CmpOp}{pos:Pos}{f g:K AV}(hl:Ev C n Γ l f)(hr:Ev C n Γ r g)(hm:behindInMarks op r=false):Ev C n Γ (.Compare l [op] [r] pos) (K.bind f λa=>K.bind g λb=>cmpB op a b) :=
 ⟨λA env W st s ok I=>.stepE (S:=λva Q E s₁=>wpAny (model C.prog C.w) A (eval r env) (λvb s₂=>wpAny (model C.prog C.w) A (compareOp op va vb) Q E s₂) E s₁) (λQ E h=>wpAny_Compare1 h hm) (hl.run A env W st s ok I) λa st₁ va W1 h1 tk1 I1 v1 =>
  Run.step2 (hr.run A env W1 st₁ _ ok I1) λb st₂ vb W2 h2 tk2 I2 k2 v2=>zi6 ok I2 (v1.mono k2.le) v2⟩
theorem Te.cmpb {l r:Expr}{op:CmpOp}{pos:Pos}{f g:K AV}(hl:Ev C n Γ l f)(hr:Ev C n Γ r g)(hm:behindInMarks op r=false):Te C n Γ (.Compare l [op] [r] pos) (K.bind f λa=>K.bind g λb=>K.bind (cmpB op a b) iW) :=
 ⟨λA env W st s ok I v st' e Q E hq=>wpAny_isTrue_Compare1 (K.bindE e λa st₁ e1 e=>hl.run A env W st s ok I _ _ e1 _ _ λva W1 h1 tk1 I1 k1 v1=>K.bindE e λb st₂ e2 e=>hr.run A env W1 st₁ _ ok I1 _ _ e2 _ _ λvb W2 h2 tk2 I2 k2 v2 =>
  Run.step2 (R:=VR) (R':=λu1 a b=>a=b) (s:=(mv s h2 tk2)) (zi6 ok I2 (v1.mono k2.le) v2) (λc st₃ vc W3 h3 tk3 I3 k3 v3=>zc1 I3 v3) v st' e Q E λd W4 h4 tk4 I4 k4 v4=>hq d W4 h4 tk4 I4 (k1.trans (k2.trans k4)) v4) hm⟩
noncomputable def zza (a:AV)(st:St):Prop:=∃o es ep,a=.obj o∧st.σ[o]?=some (.dict es ep)
theorem Res.dict {name:Str}{id:String}(slot:Slot "dict" name id) (hty:typeOf (.builtin id)=pure (.type "method_descriptor")):Res C name (.builtin id) zza:=by
 intro A W st s a v R hv ⟨o,es,ep,ha,e⟩ Q E pl hq
 subst ha
 revert hq
 exact hv.objE rfl λl hl hq=>am (i5 R hl e) λkvs x=>eh x.1.dictOf.typeIs F.plainAttrs_dict slot hty x.1.dictOf.mapOf.noDict hq
noncomputable def dictAt (σ:List AO)(o:Nat):Option (List (Int×AV)×Nat):=match σ[o]? with
 |some (.dict es ep)=>some (es,ep)
 |_=>none
theorem zgd {σ:List AO}{d:Nat}{p:List (Int×AV)×Nat}(e:dictAt σ d=some p):σ[d]?=some (.dict p.1 p.2):=by
 unfold dictAt at e
 cases h:σ[d]? with
 |none=>rw[h]at e;exact ns e
 |some o =>
  rw[h]at e
  cases o<;>cases e
  rfl
theorem zhz {σ:List AO}{o:Nat}{es:List (Int×AV)}{ep:Nat}(h:σ[o]?=some (.dict es ep)):Mine.Internal.dictAt σ o=some (es,ep):=by unfold Mine.Internal.dictAt;exact aw h rfl
noncomputable def z1q (a i:AV):K AV:=λst=>a.oid.bind λo=>i.int?.bind λk=>(Mine.Internal.dictAt st.σ o).map λp=>((getD p.1 k).getD .none,st)
noncomputable def zzn:List AV→K AV:=λargs st=>(two? args).bind λp=>z1q p.1 p.2 st
theorem Cal.dget:Cal C n Γ (.builtin "dict.get") zzn:=.two (F:=z1q) λA env W st s a i v w ok I hv hw =>
 .obind λo ho=>.obind λk hk=>.omap λp hp=>VR.objE (v:=v) hv ho λl hl=>hw.intE hk λt=>.mk1 λQ E hq=>am (i5 I.rel hl (zgd hp)) λkvs x =>
  call_meetsIn F.slot_dict_get x.1.dictOf.typeIs F.entry_dict_get (F.args_dict_get_2 _ _) (meets_dict_get (intKind C.prog C.w) _ (iI k t) (zlc I.rel (ij hl))) ⟨_,x.1.dictOf.mapOf,by
   show Q _ _
   rcases x.2.get k with⟨h1,h2⟩|⟨a',v',h1,h2,h3⟩
   ·refine aw h2 ?_;rw[h1]at hq;exact hq.at I _ .none
   ·refine aw h2 ?_;rw[h1]at hq;exact hq.at I _ h3⟩
noncomputable def zka (a i:AV):K Unit:=λst=>a.oid.bind λo=>i.int?.bind λk=>(Mine.Internal.dictAt st.σ o).bind λp=>if p.1.length<2^20∧(getD p.1 k).isSome=true then some ((),⟨st.θ,st.σ.set o (.dict (delD p.1 k) (p.2+1))⟩)else none
theorem zii {a i:AV}{va vi:Value}(I:Inv C Γ env W st s.heap)(ha:VR W a va)(hi:VR W i vi):Run C Γ env W A s (delItem va vi) (zka a i st) λu1 u2 u3=>True :=
 .obind λo ho=>.obind λk hk=>.obind λp hp=>.ite λhlt=>VR.objE (P:=λva=>Run C Γ env W A s (delItem va vi) _ λu1 u2 u3=>True) ha ho λl hl=>hi.intE (P:=λvi=>Run C Γ env W A s (delItem (.ref l) vi) _ λu1 u2 u3=>True) hk λt=>.mk1 λQ E hq=>am (i5 I.rel hl (zgd hp)) λkvs x =>
  zqu (iI k t) x.1 (x.2.isSome k▸hlt.2) (λh' hd' hs=>hq.upd I hl hs (zl5 hd' (x.2.del k)) _ trivial) (gK hlt.1 x.2.len)
theorem Ex.delSub {o i:Expr}{pos' pos:Pos}{f g:K AV}(ho:Ev C n Γ o f)(hi:Ev C n Γ i g):Ex C n Γ (.Delete [.Subscript o i pos'] pos) (K.bind f λa=>K.bind g λi=>K.bind (zka a i) λu1=>K.ret .next):=by
 refine⟨λA env W st s ok I v st' e Q E hq=>K.bindE e λa st₁ e1 e=>K.bindE e λb st₂ e2 e=>K.bindE e λu st₃ e3 e=>?_⟩
 obtain⟨rfl,rfl⟩:=sp e
 refine wpAny_Delete (wpAny_deleteEach_cons (wpAny_delete_Subscript (ho.run A env W st s ok I _ _ e1 _ _ λva W1 h1 tk1 I1 k1 v1=>?_)))
 refine hi.run A env W1 st₁ _ ok I1 _ _ e2 _ _ λvb W2 h2 tk2 I2 k2 v2=>?_
 exact zii (s:=(mv s h2 tk2)) I2 (v1.mono k2.le) v2 _ _ e3 _ _ λu W3 h3 tk3 I3 k3 u1=>wpAny_deleteEach_nil (hq .next W3 h3 tk3 I3 (k1.trans (k2.trans k3)) .next)
noncomputable def setK:List AV→K AV
 | []=>newO (.set (λu1=>false) 0)
 |_=>λu1=>none
theorem Cal.set:Cal C n Γ (.type "set") setK:=by
 intro A env W st s args vs ok I hv
 cases args with
 |nil=>exact hv.nilE (.mk1 λQ E hq=>call_set_0 λled=>hq.new I { cls:=.type "set", dict:=none,data:=.set #[] 0 (.fresh 0 0 led) } ⟨_,aF _ rfl,intSetOf_fresh led,by decide⟩ s.toks)
 |cons _ _=>exact .stuck
noncomputable def zp5 (σ:List AO)(o:Nat):Option ((Int→Bool)×Nat):=match σ[o]? with
 |some (.set S m)=>some (S,m)
 |_=>none
theorem zsj {σ:List AO}{d:Nat}{p:(Int→Bool)×Nat}(e:zp5 σ d=some p):σ[d]?=some (.set p.1 p.2):=by
 unfold zp5 at e
 cases h:σ[d]? with
 |none=>rw[h]at e;exact ns e
 |some o =>
  rw[h]at e
  cases o<;>cases e
  rfl
theorem zvf {σ:List AO}{o:Nat}{S:Int→Bool}{m:Nat}(h:σ[o]?=some (.set S m)):zp5 σ o=some (S,m):=by unfold zp5;exact aw h rfl
noncomputable def isSt (a:AV)(st:St):Prop:=∃o S m,a=.obj o∧st.σ[o]?=some (.set S m)
theorem Res.setAdd:Res C "add" (.builtin "set.add") isSt:=by
 intro A W st s a v R hv ⟨o,S,m,ha,e⟩ Q E pl hq
 subst ha
 revert hq
 exact hv.objE rfl λl hl hq=>am (R.objs _ _ _ e hl) λo' x=>getMethod_set_add ((x.2.1.kind C.prog C.w).setOf x.1 x.2.2) hq
noncomputable def z0s (a i:AV):K AV:=λst=>a.oid.bind λo=>i.int?.bind λk=>(zp5 st.σ o).bind λp=>if p.2<4000 then some (.none,⟨st.θ,st.σ.set o (.set (λx=>p.1 x||decide (x=k)) (if p.1 k then p.2 else p.2+1))⟩)else none
noncomputable def zyl:List AV→K AV:=λargs st=>(two? args).bind λp=>z0s p.1 p.2 st
theorem Cal.sadd:Cal C n Γ (.builtin "set.add") zyl:=.two (F:=z0s) λA env W st s a i v w ok I hv hw =>
 .obind λo ho=>.obind λk hk=>.obind λp hp=>.ite λhlt=>VR.objE (v:=v) hv ho λl hl=>hw.intE hk λt=>.mk1 λQ E hq=>am (I.rel.objs _ _ _ (zsj hp) hl) λo' x =>
  call_set_add (iI k t) rfl ((x.2.1.kind C.prog C.w).setOf x.1 x.2.2) (by unfold scanBound;lia) λh' hs hS=>am hS.objOf λo2 y=>hq.upd I hl hs ⟨o2,y.1,y.2.intSetOf,by unfold scanBound;split<;>lia⟩ _ .none
noncomputable def zxa (a:AV):K AV:=λst=>a.oid.bind λo=>(d7 st.σ o).bind λvs=>if vs.length<2^20 then some (.none,⟨st.θ,st.σ.set o (.list [])⟩)else none
noncomputable def zul:List AV→K AV:=λargs st=>(one? args).bind λa=>zxa a st
theorem Cal.clear:Cal C n Γ (.builtin "list.clear") zul:=.one (F:=zxa) λA env W st s a v ok I hv =>
 .obind λo ho=>.obind λvs hvs=>.ite λhlt=>VR.objE (v:=v) hv ho λl hl=>lstE I.rel hl hvs λitems m hg hr hlen=>.mk1 λQ E hq =>
  eO F.slot_list_clear ⟨_,hg,rfl⟩ F.entry_list_clear (F.args_list_clear_1 _) (AutoSeq1.list_clear_list_0 _ items m (gK hlt hlen)) ⟨hg,hq.upd I hl (aM s.heap _ (Obj.mapSeq λu1=>#[])) ⟨_,_,bc (Obj.mapSeq λu1=>#[]) hg rfl,.nil⟩ _ .none⟩
end
end Mine.Internal
end
section
namespace Mine.Internal
open PySem PyProof.Rows PySem.W PySem.SeqAt
noncomputable abbrev NX:Value:=.builtin "list_iterator.__next__"
theorem zy4:typeLookup (.type "list_iterator") "__next__" = pure (some NX):=slot_listiter_next.lookup
theorem zrx:typeOf NX=pure (.type "wrapper_descriptor"):=by show builtinType _=_;refine aw builtinType_eq_fast ?_;kernel_rfl
theorem zwq:typeLookup (.type "wrapper_descriptor") "__get__" = pure (some (.builtin "wrapper_descriptor.__get__")):=by rw[ca,bv];kernel_rfl
theorem z0b:typeLookup (.type "wrapper_descriptor") "__set__" = pure none:=by rw[ca,bv];kernel_rfl
theorem z0c:typeLookup (.type "wrapper_descriptor") "__delete__" = pure none:=by rw[ca,bv];kernel_rfl
theorem z2k:typeLookup (.type "list_iterator") "__getattribute__" = pure (some (.builtin "object.__getattribute__")):=by rw[ca,bv];kernel_rfl
theorem zvv:typeLookup (.type "list_iterator") "__getattr__" = pure none:=by rw[ca,bv];kernel_rfl
theorem zxy:Slot "wrapper_descriptor" "__get__" "wrapper_descriptor.__get__" :=
 .of (owner := "wrapper_descriptor") (n := "__get__") zwq (by decide +kernel) (by decide +kernel) (by decide +kernel) (by first|exact .inl (by decide +kernel)|exact .inr (by decide +kernel)) (by rw[cL];kernel_rfl)
theorem zu3:entryFor table "wrapper_descriptor.__get__" = some Builtin.«wrapper_descriptor.__get__»:=entryFor_of_tree (by kernel_rfl)
theorem zxz (a b c:Value):argsOk "wrapper_descriptor.__get__" ⟨[a,b,c],[]⟩:=by unfold argsOk;kernel_rfl
theorem z0n:isSubtype (.type "list_iterator") (.type "list_iterator")=pure true:=by rw[cL];kernel_rfl
theorem li_slot:Slot "list_iterator" "__getattribute__" "object.__getattribute__" :=
 .of (owner := "object") (n := "__getattribute__") z2k (by decide +kernel) (by decide +kernel) (by decide +kernel) (by first|exact .inl (by decide +kernel)|exact .inr (by decide +kernel)) (by rw[cL];kernel_rfl)
theorem z1x : ".".intercalate ("list_iterator.__next__".cutAt '.').dropLast = "list_iterator" := by decide +kernel
theorem zuv {prog:Program}{w:World}{A:Around}{E:Value→Shared→Prop}{s:Shared}{I:Addr}{Q:Value→Shared→Prop}(hT:s.TypeIs (.ref I) "list_iterator")
  (h:Q (.ref s.heap.objs.size) { s with heap:=s.heap.push { cls:=.type "method-wrapper", data:=.fields #[NX,.ref I] } }) :
  wpAny (model prog w) A (call (.builtin "wrapper_descriptor.__get__") [NX,.ref I,.type "list_iterator"]) Q E s:=by
 refine bx zxy (show s.TypeIs NX "wrapper_descriptor" from zrx) zu3 ?_ (zxz _ _ _)
 obtain⟨hp,g,d,tk,os⟩:=s
 have f1:isSubtype (.type "list_iterator") (.type (".".intercalate ("list_iterator.__next__".cutAt '.').dropLast))=pure true:=by exact aw z1x z0n
 unfold Builtin.«wrapper_descriptor.__get__»
 repeat (any_goals (first|assumption|wp_step))
 exact⟨_,rfl,h⟩
theorem zde {prog:Program}{w:World}{A:Around}{E:Value→Shared→Prop}{s:Shared}{I:Addr}{u:Tok}{vs:Array Value}{Q:Value→Shared→Prop}(hI:s.heap.get? I=some { cls:=.type "list_iterator", data:=.fields vs })
  (h:Q (.ref s.heap.objs.size) { s with heap:=s.heap.push { cls:=.type "method-wrapper", data:=.fields #[NX,.ref I] } }) :
  wpAny (model prog w) A (call (.builtin "object.__getattribute__") [.ref I,.str "__next__" u]) Q E s:=by
 have hT:s.TypeIs (.ref I) "list_iterator" := ⟨_,hI,rfl⟩
 refine bx li_slot hT F.entry_object_getattribute ?_ (F.args_object_getattribute_2 _ _)
 obtain⟨hp,g,d,tk,os⟩:=s
 have f1:=zy4
 have f2:(⟨hp,g,d,tk,os⟩:Shared).TypeIs NX "wrapper_descriptor" := zrx
 have f3:=zwq
 have f4:=z0b
 have f5:=z0c
 unfold Builtin.«object.__getattribute__»
 repeat (any_goals (first|assumption|((with_reducible show wpAny _ _ (call (Value.builtin "wrapper_descriptor.__get__") _ _) _ _ _);refine zuv hT ?_)|wp_step))
 exact⟨_,rfl,h⟩
theorem zly {prog:Program}{w:World}{A:Around}{E:Value→Shared→Prop}{s:Shared}{I:Addr}{vs:Array Value}{expr:Bool}{Q:Value→Shared→Prop}(hI:s.heap.get? I=some { cls:=.type "list_iterator", data:=.fields vs })
  (h:∀tk,Q (.ref s.heap.objs.size) { s with heap:=s.heap.push { cls:=.type "method-wrapper", data:=.fields #[NX,.ref I] },toks:=tk }) :
  wpAny (model prog w) A (getAttr (.ref I) "__next__" expr) Q E s:=by
 obtain⟨hp,g,d,tk,os⟩:=s
 have hT:∀tk',(⟨hp,g,d,tk',os⟩:Shared).TypeIs (.ref I) "list_iterator" := λu1=>⟨_,hI,rfl⟩
 have f3:=li_slot.lookup
 have f4:=li_slot.bind (.ref I)
 have f5:=zvv
 unfold getAttr getAttrBy
 repeat (any_goals (first|assumption|exact hT _|((with_reducible show wpAny _ _ (call (Value.builtin "object.__getattribute__") _ _) _ _ _);refine zde hI ?_)|wp_step))
 refine aw (if_neg (show ¬((expr&&onTheHeap (Value.builtin "object.__getattribute__"))=true)from by cases expr<;>decide)) ?_
 repeat (any_goals (first|assumption|exact hT _|((with_reducible show wpAny _ _ (call (Value.builtin "object.__getattribute__") _ _) _ _ _);refine zde hI ?_)|wp_step))
 exact h _
theorem zwf (I:Addr):checkBoundCall "list_iterator.__next__" ⟨[.ref I],[]⟩=pure ():=by kernel_rfl
theorem zp7 (args:Args):(Code.builtin "list_iterator.__next__" args).quiet=true:=cS (by decide +kernel) args
section
variable {prog:Program}{w:World}{A:Around}{E:Value→Shared→Prop}{s:Shared}
theorem zl8 {m I:Addr}{Q:Value→Shared→Prop}(hm:s.heap.get? m=some { cls:=.type "method-wrapper", data:=.fields #[NX,.ref I] })
  (h:wpAny (model prog w) A.in1 (Builtin.«list_iterator.__next__» ⟨[.ref I],[]⟩) (λfin s'=>∃v,fin=.done (.ret v)∧Q v s') E s):wpAny (model prog w) A (call (.ref m) []) Q E s:=by
 refine dH (eZ ?_)
 simp only[callAny]
 refine aa (wpAny_load hm ?_)
 show wpAny _ _ (checkBoundCall "list_iterator.__next__" ⟨[.ref I],[]⟩ >>= _) _ _ s
 rw[zwf]
 refine aa (ai (aa (ai (ai ⟨zp7 _,cb entry_listiter_next ?_⟩))))
 rw[bT (by decide +kernel)]
 refine bm h (λfin s' h'=>?_) λu1 u2 x=>x
 (refine x1a2 h' λv z1 hv=>?_;subst z1)
 exact hv
noncomputable abbrev zqf (l:Addr)(i:Nat):Obj:={ cls:=.type "list_iterator", data:=.fields #[.ref l,.int i 0] }
theorem zrb {m I l:Addr}{i:Nat}{items:Array Value}{x:Value}{Q:Value→Shared→Prop}(hm:s.heap.get? m=some { cls:=.type "method-wrapper", data:=.fields #[NX,.ref I] }) (ho:s.heap.get? I=some (zqf l i))
  (hl:s.heap.IsList l items) (hx:items[i]?=some x) (hQ:∀h',h'.get? I=some (zqf l (i+1))→Heap.SameBut I s.heap h'→Q x { s with heap:=h' }):wpAny (model prog w) A (call (.ref m) []) Q E s:=by
 have hd:(zqf l i).data=.fields #[.ref l,.int i 0]:=rfl
 obtain⟨ol,hol,_,nl,hdl⟩:=hl
 refine zl8 hm ?_
 show wpAny _ _ (field (.ref I) 0 >>= _) _ _ s
 refine aa (fk ho hd (x:=.ref l) rfl ?_)
 refine aw (if_neg (show ¬((Value.ref l==Value.none)=true)from Bool.false_ne_true)) ?_
 refine aa (fk ho hd (x:=.int i 0) rfl ?_)
 refine aa (dZ hol hdl ?_)
 simp only[ay,hx]
 refine aa (cJ ho hd (by simp) (ai ⟨x,rfl,hQ _ ?_ (aM ..)⟩))
 refine(bc _ ho (dl (dP hd _))).trans ?_
 simp[Obj.mapFields,rawInt]
theorem zuw {m I l:Addr}{i:Nat}{items:Array Value}{Q:Value→Shared→Prop}(hh:A.handled=none)(hm:s.heap.get? m=some { cls:=.type "method-wrapper", data:=.fields #[NX,.ref I] }) (ho:s.heap.get? I=some (zqf l i))
  (hl:s.heap.IsList l items) (hx:items[i]?=none)
  (hE:∀h' e,Heap.ExtBut I s.heap h'→(∃o,h'.get? I=some o)→s.heap.get? e=none→(∃o fs a0,h'.get? e=some o∧o.cls=.type "StopIteration" ∧ o.data=.fields fs∧fs[0]?=some a0∧fs[1]?=some .none)→E (.ref e) { s with heap:=h' }):wpAny (model prog w) A (call (.ref m) []) Q E s:=by
 have hd:(zqf l i).data=.fields #[.ref l,.int i 0]:=rfl
 obtain⟨ol,hol,_,nl,hdl⟩:=hl
 refine zl8 hm ?_
 show wpAny _ _ (field (.ref I) 0 >>= _) _ _ s
 refine aa (fk ho hd (x:=.ref l) rfl ?_)
 refine aw (if_neg (show ¬((Value.ref l==Value.none)=true)from Bool.false_ne_true)) ?_
 show wpAny _ _ (field (.ref I) 1 >>= _) _ _ s
 refine aa (fk ho hd (x:=.int i 0) rfl ?_)
 refine aa (dZ hol hdl ?_)
 simp only[ay,hx]
 refine aa (cP (aa (cJ ho hd (by simp) ?_)))
 refine aa ?_
 simp only[newExc,newTuple]
 refine aa (cn ?_ (by size_fits))
 refine aa (m:=firstArgMember _ _) (ch (a:=Value.none) (by first|rfl|(simp only[firstArgMember];rfl)) ?_)
 refine cn ?_ (by size_fits)
 simp only[raiseNew]
 refine aa (wpAny_handled ?_)
 first|rw[show A.in1.handled=none from hh] | rw[hh]
 refine aa (ai (wpAny_throw ?_))
 refine hE _ _ (((aM ..).extBut.push _).push _) ?_ ?_ ⟨_,_,_,aF _ rfl,rfl,rfl,rfl,rfl⟩
 ·exact⟨_,al _ (al _ (bc _ ho (dl (dP hd _))))⟩
 ·exact Heap.get?_none_of_le (by simp)
end
end Mine.Internal
end
section
namespace Mine.Internal
open PySem PyProof.Rows PySem.W PySem.SeqAt
section
variable {C:Cx}{n:Nat}{Γ:cA}{env:Env}{W:Wd}{A:Around}{s:Shared}{st:St}
noncomputable def z1e (a:AV):K AV:=λst=>a.oid.bind λl=>(d7 st.σ l).bind λu1=>newO (.liter l 0) st
noncomputable def z1d:List AV→K AV:=λargs st=>(one? args).bind λa=>z1e a st
theorem Cal.iter:Cal C n Γ (.builtin "iter") z1d:=.one (F:=z1e) λA env W st s a v ok I hv =>
 .obind λl hl=>.obind λxs hx=>VR.objE (v:=v) hv hl λla hla=>lstE I.rel hla hx λitems m hg hr hlen=>.mk1 λQ E hq=>by
  refine cY (by decide +kernel) (by decide +kernel) kdk_entry_iter (kdk_args_iter _) ?_
  unfold Builtin.«iter»
  refine aa (m:=someArgs "iter" 1 2 _) (ch (a:=[Value.ref la]) (by first|rfl|kernel_rfl!) ?_)
  exact aa (ee (fF hg) (ai ⟨_,rfl,hq.new I (zqf la 0) ⟨la,(bd (ap.mp hla).1).trans hla,aF _ rfl⟩ s.toks⟩))
noncomputable def liAt (σ:List AO)(i:Nat):Option (Nat×Nat):=match σ[i]? with
 |some (.liter l k)=>some (l,k)
 |_=>none
theorem zos {σ:List AO}{d:Nat}{p:Nat×Nat}(e:liAt σ d=some p):σ[d]?=some (.liter p.1 p.2):=by
 unfold liAt at e
 cases h:σ[d]? with
 |none=>rw[h]at e;exact ns e
 |some o =>
  rw[h]at e
  cases o<;>cases e
  rfl
theorem ztd {σ:List AO}{i l k:Nat}(h:σ[i]?=some (.liter l k)):liAt σ i=some (l,k):=by unfold liAt;exact aw h rfl
noncomputable def zlf (a:AV):K AV:=λst=>a.oid.bind λi=>(liAt st.σ i).map λu1=>(.nxt i,st)
theorem Ev.nextAttr {o:Expr}{pos:Pos}{f:K AV}(h:Ev C n Γ o f)(hsup:fL o=false):Ev C n Γ (.Attribute o "__next__" pos) (K.bind f zlf) :=
 ⟨λA env W st s ok I=>.stepE (S:=λva Q E s₁=>wpAny (model C.prog C.w) A (getAttr va "__next__" true) Q E s₁) (λQ E h=>Attribute_any_ h (by simp only[arm_eval_Attribute,zav hsup])) (h.run A env W st s ok I) λa st₁ va W1 h1 tk1 I1 v1 =>
  Run.obind (t:=getAttr va "__next__" true) (R:=VR) (s:=(mv s h1 tk1)) λi hi=>.omap λp hp=>VR.objE (P:=λva=>Run C Γ env W1 A (mv s h1 tk1) (getAttr va "__next__" true) (some (.nxt i,st₁)) VR) v1 hi λx hx=>.mk1 λQ E hq=>am (I1.rel.objs _ _ _ (zos hp) hx) λla q =>
   zly (s:=(mv s h1 tk1)) q.2 λtk=>Post.imm (s:=(mv s h1 tk1)) hq I1 { cls:=.type "method-wrapper", data:=.fields #[NX,.ref x] } rfl (λW' le hm=>.nxt (le.at hx) hm) tk⟩
theorem ItOk.fresh {h:Heap}{x:Addr}(J:Inv C Γ env W st h)(hx:h.get? x=Option.none):ItOk C env W h x:=by
 refine⟨hx,λq=>?_,?_,λq hq e=>?_,λp hp e=>?_,λe he q=>?_⟩
 ·obtain⟨i,hi,rfl⟩:=bI.mp q
  obtain⟨o,ho⟩:=(J.rel.objs i _ _ (an (J.rel.len▸hi)) (an hi)).there
  rw[hx]at ho;exact ns ho
 ·cases e:C.h₀.get? x with
  |none=>rfl
  |some o=>have h':=J.rel.old _ _ e;rw[hx]at h';exact ns h'
 ·have h':=J.rel.imm q hq
  rw[e,hx]at h';exact ns h'
 ·obtain⟨_,_,_,o,ho⟩:=J.loc.out p hp
  rw[e,hx]at ho;exact ns ho
 ·obtain⟨_,L,g1,_,_,_,o,_,_,g5,_⟩:=J.rel.frs e he
  rw[g1]at q;obtain rfl:=sj q
  rw[hx]at g5;exact ns g5
theorem Rel.updX {σ:List AO}{h h':Heap}(R:Rel C W σ h){i:Nat}{a:Addr}{o:AO}(ha:W.φ[i]?=some a)(hs:Heap.ExtBut a h h')(ho:OR W h' o a) :
  Rel C W (σ.set i o) h'∧Keep W W [] h h':=by
 have hm:=ij ha
 refine⟨⟨R.ok,λb x e=>hs b x (R.oldNe hm e) (R.old b x e),λp hp=>hs p.1 _ (λq=>R.apart p hp (q▸hm)) (R.imm p hp),?_,R.nodup,R.apart,R.new,R.big,λj x b e eb=>?_,λenv he=>?_⟩,
  .of (.refl W) (λb x e n u1=>hs b x (λq=>n (q▸hm)) e) (λb x e=>by
   by_cases q:b=a
   ·exact aw q ho.there
   ·exact⟨x,hs b x q e⟩) (λu1 h1 h2=>absurd h1 h2) (λu1 h=>.inl h)⟩
 ·exact aw cN R.len
 ·by_cases hj:i=j
  ·subst hj
   rw[ha]at eb;obtain rfl:=sj eb
   have hi:=(ap.mp ha).1
   rw[R.len]at hi
   rw[aJ hi]at e;obtain rfl:=sj e
   exact ho
  ·rw[bW hj]at e
   refine(R.objs j x b e eb).same λy hy=>hs b y (λq=>hj ?_) hy
   subst q
   exact(List.getElem?_inj (ap.mp ha).1 R.nodup).mp (ha.trans eb.symm)
 ·obtain⟨h0,L,h1,h2,h3,h4,o,es,ep,h5,h6⟩:=R.frs env he
  exact⟨h0,L,h1,h2,h3,h4,o,es,ep,hs L _ (λq=>h2 (q▸hm)) h5,h6⟩
noncomputable def z15 (h:Heap)(x:Addr):Prop:=∃(o:Obj) (fs:Array Value) (a0:Value),h.get? x=some o∧o.cls=.type "StopIteration" ∧ o.data=.fields fs∧fs[0]?=some a0∧fs[1]?=some .none
noncomputable def z20 (C:Cx)(Γ:cA)(env:Env)(W:Wd)(s:Shared)(st':St)(E:Value→Shared→Prop):Prop :=
 ∀W' h' tk x,Inv C Γ env W' st' h'→Keep W W' (priv Γ env) s.heap h'→ItOk C env W' s.heap x→z15 h' x→E (.ref x) (mv s h' tk)
structure Nx (C:Cx)(n:Nat)(Γ:cA)(e:Expr)(f:K (Option AV)):Prop where
 run:∀A env W st (s:Shared),AOk C n A→C.calm=true→Inv C Γ env W st s.heap→∀r st',f st=some (r,st')→∀(Q:Value→Shared→Prop) (E:Value→Shared→Prop),
  (∀a,r=some a→Post C Γ env W s VR a st' Q)→(r=none→z20 C Γ env W s st' E)→wpAny (model C.prog C.w) A (eval e env) Q E s
noncomputable def AV.nx?:AV→Option Nat
 |.nxt i=>some i
 |_=>Option.none
theorem AV.nx_of {a:AV}{x:Nat}(e:a.nx?=some x):a=.nxt x:=by cases a<;>first|exact ns e|exact congrArg _ (sj e)
noncomputable def z0o (i l k:Nat)(st:St):Option AV→Option AV×St
 |some v=>(some v,⟨st.θ,st.σ.set i (.liter l (k+1))⟩)
 |none=>(none,⟨st.θ,st.σ.set i .dead⟩)
noncomputable def zvn (a:AV):K (Option AV):=λst=>a.nx?.bind λi=>(liAt st.σ i).bind λp=>(d7 st.σ p.1).map λvs=>z0o i p.1 p.2 st vs[p.2]?
@[elab_as_elim] theorem VR.nxE {a:AV} {v:Value} {i:Nat} {P:Value→Prop} (h:VR W a v) (e:a.nx?=some i) (k:∀x m,W.φ[i]?=some x→(m,({ cls:=.type "method-wrapper", data:=.fields #[.builtin "list_iterator.__next__", .ref x] }:Obj))∈W.ι→P (.ref m)):P v:=h.inv (AV.nx_of e▸k)
theorem zor {M:Model}{fv:Value}{pos:Pos}{Q:Args→Shared→Prop}{E:Value→Shared→Prop}(h:Q ⟨[],[]⟩ s):wpAny M A (evalArgs fv true (backTo pos (starEach [] env)) (backToKw pos (keywordEach [] env))) Q E s :=
 zbg rfl rfl (ai (ai h))
theorem zvm {vs:List AV}{items:Array Value}{k:Nat}(h:vs[k]?=none)(e:vs.length=items.size):items[k]?=none:=Array.getElem?_eq_none_iff.mpr (e▸List.getElem?_eq_none_iff.mp h)
theorem Nx.call {o i:Expr}{ps pos:Pos}{f:K AV}(h:Ev C n Γ (.Subscript o i ps) f):Nx C n Γ (.Call (.Subscript o i ps) [] [] pos) (K.bind f zvn):=by
 refine⟨λA env W st s ok hcalm I r st' e Q E hq hE=>K.bindE e λa st₁ e1 e2=>?_⟩
 refine aa (h.run A env W st s ok I _ _ e1 _ _ λfv W0 h0 tk0 I0 k0 v0=>?_)
 refine am (aZ.mp e2) λit p=>am (aZ.mp p.2) λlk q=>am (aP.mp q.2) λvs r=>?_
 clear e e1 e2
 refine v0.nxE p.1 λI' m hi hm=>?_
 refine zbz (P:=λhh=>hh.get? m=some { cls:=.type "method-wrapper", data:=.fields #[NX,.ref I'] }) (λhh hm=>⟨.machine,by unfold keeperOf;exact(fu (part:=none) hm).andThen .now⟩) (zor ⟨I0.rel.imm _ hm,?_⟩)
 refine am (I0.rel.objs _ _ _ (zos q.1) hi) λla y=>lstE I0.rel y.1 r.1 λitems m' hl hv hlen=>?_
 have r2:=r.2
 clear p q r v0
 cases ev:vs[lk.2]? with
 |some v =>
  rw[ev]at r2
  obtain⟨rfl,rfl⟩:=pj r2
  refine am (hv.get ev) λx hx=>zrb (s:=(mv s h0 tk0)) (I0.rel.imm _ hm) y.2 (fF hl) (ba▸hx.1) λh2 hI2 hs2=>?_
  have z:=I0.rel.upd (o:=.liter lk.1 (lk.2+1)) hi hs2 ⟨la,y.1,hI2⟩
  exact hq v rfl x W0 h2 tk0 (I0.keep z.1 z.2) (k0.trans z.2.wide) hx.2
 |none =>
  rw[ev]at r2
  obtain⟨rfl,rfl⟩:=pj r2
  refine zuw (s:=(mv s h0 tk0)) (ok.handled hcalm) (I0.rel.imm _ hm) y.2 (fF hl) (zvm ev hlen) λh2 x hs2 hI2 hx0 hx=>?_
  have z:=I0.rel.updX (o:=.dead) hi hs2 hI2
  exact hE rfl W0 h2 tk0 x (I0.keep z.1 z.2) (k0.trans z.2.wide) ((ItOk.fresh I0 hx0).back k0) hx
end
noncomputable def Cx.hot (C:Cx):Cx:=⟨C.toBx,C.fr,false⟩
section
variable {C:Cx}{n:Nat}{Γ:cA}{env:Env}{W W':Wd}{A:Around}{s:Shared}{st:St}
theorem Rel.hot {σ:List AO}{h:Heap}(R:Rel C W σ h):Rel C.hot W σ h:=⟨R.ok,R.old,R.imm,R.len,R.nodup,R.apart,R.new,R.big,R.objs,R.frs⟩
theorem Rel.cool {σ:List AO}{h:Heap}(R:Rel C.hot W σ h):Rel C W σ h:=⟨R.ok,R.old,R.imm,R.len,R.nodup,R.apart,R.new,R.big,R.objs,R.frs⟩
theorem Inv.hot {h:Heap}(J:Inv C Γ env W st h):Inv C.hot Γ env W st h:=⟨J.rel.hot,⟨J.loc.kind,J.loc.glob,J.loc.blt,J.loc.names,J.loc.inj,J.loc.loc,J.loc.cel,J.loc.cinj,J.loc.out,J.loc.top⟩⟩
theorem Inv.cool {h:Heap}(J:Inv C.hot Γ env W st h):Inv C Γ env W st h:=⟨J.rel.cool,⟨J.loc.kind,J.loc.glob,J.loc.blt,J.loc.names,J.loc.inj,J.loc.loc,J.loc.cel,J.loc.cinj,J.loc.out,J.loc.top⟩⟩
structure zzv (C:Cx)(x:Addr)(h h':Heap):Prop where
 exact:∀b o,b≠x→h.get? b=some o→(∀e∈C.fr,e.frame≠some b)→h'.get? b=some o
 slots:∀b o,b≠x→h.get? b=some o→(∀vs,o.data≠.fields vs)→∃sl,h'.get? b=some { o with slots:=sl }
theorem Inv.noted {h h0 h':Heap}{x:Addr}(J:Inv C Γ env W st h)(X:ItOk C env W h0 x)(k:zzv C x h h'):Inv C Γ env W st h':=by
 have R:=J.rel
 have L:=J.loc
 have apart:∀e∈C.fr,∀b,e.frame=some b→b∉W.φ∧C.h₀.get? b=none∧∀q∈W.ι,q.1≠b:=λe he b eb=>by
  obtain⟨_,M,g1,g2,g3,g4,_⟩:=R.frs e he
  rw[g1]at eb;obtain rfl:=sj eb
  exact⟨g2,g3,g4⟩
 refine⟨⟨R.ok,λb o e=>k.exact b o (λq=>by rw[q,X.old]at e;exact ns e) (R.old b o e) (λg hg q=>by rw[(apart g hg b q).2.1]at e;exact ns e),
  λp hp=>k.exact _ _ (X.ι p hp) (R.imm p hp) (λg hg q=>(apart g hg _ q).2.2 p hp rfl),R.len,R.nodup,R.apart,R.new,R.big,
  λi o a e ea=>(R.objs i o a e ea).same λy hy=>k.exact a y (λq=>X.φ (q▸ij ea)) hy (λg hg q=>(apart g hg _ q).1 (ij ea)),
  λe he=>?_⟩,⟨L.kind,L.glob,L.blt,L.names,L.inj,?_,?_,L.cinj,?_,L.top⟩⟩
 ·obtain⟨g0,M,g1,g2,g3,g4,o,es,ep,g5,g6⟩:=R.frs e he
  obtain⟨sl,hs⟩:=k.slots M o (λq=>X.frm e he (q▸g1)) g5 (λvs q=>by rw[g6]at q;cases q)
  exact⟨g0,M,g1,g2,g3,g4,_,es,ep,hs,g6⟩
 ·(refine x1a2 L.loc λm z1 hm=>?_;obtain⟨o,es,ep,ho,hd,r⟩:=z1)
  obtain⟨sl,hs⟩:=k.slots _ o (X.priv _ (.inl rfl)) ho (λvs q=>by rw[hd]at q;cases q)
  exact⟨m,⟨_,es,ep,hs,hd,r⟩,hm⟩
 ·intro y kd i h1 h2
  (refine x2a4 (L.cel y kd i h1 h2) λc ov hc hne z4 hv=>?_;obtain⟨o,ho,hd⟩:=z4)
  obtain⟨sl,hs⟩:=k.slots _ o (X.priv _ (.inr ⟨y,hc⟩)) ho (λvs q=>by rw[hd]at q;cases q)
  exact⟨c,ov,hc,hne,⟨_,hs,hd⟩,hv⟩
 ·intro p hp
  obtain⟨h1,h2,h3,o,ho⟩:=L.out p hp
  by_cases hf:∃e∈C.fr,e.frame=some p
  ·(refine x1a2 hf λe he ef=>?_)
   obtain⟨_,M,g1,_,_,_,o',es,ep,g5,g6⟩:=R.frs e he
   rw[g1]at ef;obtain rfl:=sj ef
   obtain⟨sl,hs⟩:=k.slots _ o' (X.priv _ hp) g5 (λvs q=>by rw[g6]at q;cases q)
   exact⟨h1,h2,h3,_,hs⟩
  ·exact⟨h1,h2,h3,o,k.exact p o (X.priv p hp) ho λe he q=>hf ⟨e,he,q⟩⟩
theorem Keep.noted {h h0 h':Heap}{x:Addr}{π:List Addr}{W0:Wd}(J:Inv C Γ env W st h)(X:ItOk C env W h0 x)(k:Keep W0 W π h0 h)(y:zzv C x h h'):Keep W0 W π h0 h':=by
 have hne:∀b o,h0.get? b=some o→b≠x:=λb o e q=>by rw[q,X.none]at e;exact ns e
 have step:∀b o,b≠x→h.get? b=some o→∃sl,h'.get? b=some { o with slots:=sl }∧((∃es ep,o.data=.dict es ep)∨sl=o.slots):=λb o nb e=>by
  by_cases hf:∃e∈C.fr,e.frame=some b
  ·(refine x1a2 hf λg hg ef=>?_)
   obtain⟨_,M,g1,_,_,_,o',es,ep,g5,g6⟩:=J.rel.frs g hg
   rw[g1]at ef;obtain rfl:=sj ef
   rw[e]at g5;obtain rfl:=sj g5
   obtain⟨sl,hs⟩:=y.slots _ o nb e (λvs q=>by rw[g6]at q;cases q)
   exact⟨sl,hs,.inl ⟨es,ep,g6⟩⟩
  ·exact⟨o.slots,y.exact b o nb e λg hg q=>hf ⟨g,hg,q⟩,.inr rfl⟩
 refine⟨k.le,λb o e n1 n2=>?_,λb o e=>?_,k.new,k.imm⟩
 ·(refine x1a2 (k.keep b o e n1 n2) fun sl h1 h2=>?_)
  (refine x1a2 (step b _ (hne b o e) h1) λsl' h3 h4=>?_)
  refine⟨sl',h3,?_⟩
  refine cF h2 (λh2=>?_) λh2=>?_
  ·exact .inl h2
  ·refine cF h4 (λh4=>?_) λh4=>?_
   ·exact .inl h4
   ·exact .inr (h4.trans h2)
 ·obtain⟨o',e'⟩:=k.stay b o e
  (refine x1a2 (step b _ (hne b o e) e') λsl' h3 u1=>?_)
  exact⟨_,h3⟩
theorem ztz {x:Addr}{h:Heap}{S:List Addr}(l:List Env):(∀e∈l,e.scope.kind≠.module∧∃L,e.frame=some L∧L∈S∧∃o es ep,h.get? L=some o∧o.data=.dict es ep)→h.FunFrames (TI.gone h (x::S)) l:=by
 induction l with
 |nil =>
  intro _
  exact trivial
 |cons e r ih =>
  intro hl
  obtain⟨h1,L,h2,h3,o,es,ep,h4,h5⟩:=hl e aj
  exact⟨h1,⟨L,o,h2,TI.gone_none (af _ h3),h4,λvs q=>by rw[h5]at q;cases q⟩,ih λe he=>hl e (af _ he)⟩
theorem Ex.tryNext {e₀:Expr}{x:Str}{px pa pb pn ph pos:Pos}{i j:Nat}{f:K (Option AV)}{g:K Fl}{b₀:Stmt}{suite:List Stmt}(hcalm:C.calm=true)(hcomp:Γ.comp=false)
  (hn:Nx C n Γ e₀ f) (hx:Γ.tab.lookup x=some (.local,i)) (hs:∀env,swapsWith e₀ (some (.Name x px)) pa.line env=pure false) (hg:Exs C.hot n Γ (b₀::suite) g)
  (hS:PySem.W.nsIn C.K mainGlobals (Str.ofString "StopIteration")=some none) (hS2:Γ.tab.lookup (Str.ofString "StopIteration")=some (.globalImplicit,j)) :
  Ex C n Γ (.Try [.Assign [.Name x px] e₀ pa,.Break pb] [.ExceptHandler (some (.Name (Str.ofString "StopIteration") pn)) none (b₀::suite) ph] [] [] pos)
   (K.bind f λr=>match r with|some a=>K.bind (setv i a) λu1=>K.ret .brk|none=>g):=by
 refine⟨λA env W st s ok I v st' e Q E hq=>K.bindE e λr st₁ e1 e2=>?_⟩
 clear e
 refine wpAny_Try_except (wpAny_execs_cons (wpAny_Assign_Name (hn.run A env W st s ok hcalm I r st₁ e1 _ _ (λa hr va W1 h1 tk1 I1 k1 v1=>?_) λhr W1 h1 tk1 y I1 k1 X hy=>?_) (hs env)))
 ·subst hr
  refine K.bindE e2 λu1 st₂ e3 e4=>?_
  obtain⟨rfl,rfl⟩:=sp e4
  exact zfg (s:=(mv s h1 tk1)) hx I1 v1 _ _ e3 _ _ λu1 W2 h2 tk2 I2 k2 u2=>wpAny_execs_cons (wpAny_Break (hq .brk W2 h2 tk2 I2 (k1.trans k2) .brk))
 ·subst hr
  dsimp only at e2
  (refine x3a5 hy λo fs a0 ho hc hd f0 f1=>?_)
  obtain⟨outer,hfr⟩:=I1.loc.top hcomp
  have hframes:A.frames=some (env::outer):=ok.frames.trans (congrArg some hfr)
  obtain⟨_,L,hL,_,_,_,_⟩:=I1.rel.frs env (by exact aw hfr (aj))
  let S:=C.fr.filterMap (λx=>x.frame)
  have hS':∀b,b∉S→∀e∈C.fr,e.frame≠some b:=λb hb e he q=>hb (bJ.mpr ⟨e,he,q⟩)
  have hFF:h1.FunFrames (TI.gone h1 (y::S)) (env::outer):=by
   refine ztz _ λe he=>?_
   rw[←hfr]at he
   obtain⟨g0,M,g1,_,_,_,o',es,ep,g5,g6⟩:=I1.rel.frs e he
   exact⟨g0,M,g1,bJ.mpr ⟨e,he,g1⟩,o',es,ep,g5,g6⟩
  have noted:∀h',(TI.gone h1 (y::S)).StaysIn h'→(∀b o,h1.get? b=some o→(∀vs,o.data≠.fields vs)→∃sl,h'.get? b=some { o with slots:=sl })→zzv C y h1 h':=λh' k1 k2=>by
   refine⟨λb o nb e nf=>k1 b o ((TI.gone_get λq=>?_).trans e),λb o nb e nf=>k2 b o e nf⟩
   rcases au.mp q with q|q
   ·exact nb q
   ·(refine x1a2 (bJ.mp q) λe' he' q=>?_)
    exact nf e' he' q
  unfold noteFrame
  simp only[hL]
  refine aa (fk (s:=(mv s h1 tk1)) ho hd f1 ?_)
  refine aw (if_neg (by decide)) ?_
  refine wpAny_entryW (s:=(mv s h1 tk1)) (base:=TI.gone h1 (y::S)) hframes hFF hL ho (λb o hb=>(TI.gone_some hb).2) (TI.gone_none aj) hd (Array.getElem?_eq_some_iff.mp f1).1 f0 λh2 hN=>?_
  (refine x0a4 hN λn1 n2 n3 n4=>?_)
  refine wpAny_setFlight_noneW (s:=(mv s h2 tk1)) n1 n2 n3 λh3 m1 m2 m3 m4=>?_
  have up3:∀b o,h1.get? b=some o→(∀vs,o.data≠.fields vs)→∃sl,h3.get? b=some { o with slots:=sl }:=λb o e nf=>let ⟨sl,q⟩:=n4 b o e nf;⟨sl,m4 b _ q nf⟩
  have I3:=I1.noted X (noted h3 m1 up3)
  rw[hc]at m3
  (refine x1a2 m3.at.there λo3 ho3 hc3=>?_)
  refine wpAny_handleBy_builtin (s:=(mv s h3 tk1)) (X := "StopIteration") (T := "StopIteration") (b:=true) (isSubtype_of_subB (by decide +kernel)) (isSubtype_of_subB (by decide +kernel)) (isSubtype_of_subB (by decide +kernel)) ?_
  refine Calls.Name_function_global I3.loc.kind (by rw[I3.loc.names,hS2];rfl) (Calls.loadGlobal_builtin (by refine aw I3.loc.glob ?_;exact I3.rel.globals) (PySem.W.mg_none_of I3.rel.ok.k I3.rel.ok.g hS) (by refine aw I3.loc.blt ?_;exact I3.rel.builtins) ((I3.rel.ok.bb (Str.ofString "StopIteration") (by decide))|>.trans (show _=some (.type "StopIteration") by kernel_rfl)) ?_) (by decide)
  refine⟨rfl,⟨o3,ho3,hc3⟩,?_⟩
  refine aw (if_pos rfl) ?_
  refine wpAny_setFlight_noneW (s:=(mv s h3 tk1)) m1 m2 m3.at λh4 p1 p2 p3 p4=>?_
  have nt4:=noted h4 p1 λb o e nf=>let ⟨sl,q⟩:=up3 b o e nf;⟨sl,p4 b _ q nf⟩
  have I4:=I1.noted X nt4
  have k4:=k1.noted I1 X nt4
  exact hg.run (A.mark (some (.ref y))) env W1 st₁ (mv s h4 tk1) ⟨λq=>(ft q),ok.frames,ok.depth,ok.units⟩ I4.hot _ _ e2 _ _ λfl W5 h5 tk5 I5 k5 v5=>hq fl W5 h5 tk5 I5.cool (k4.trans k5) v5
end
end Mine.Internal
end
section
namespace Mine.Internal
open PySem PyProof.Rows PySem.W PySem.SeqAt
theorem zhi:Slot "re.Pattern" "search" "re.Pattern.search" :=
 .of (owner := "re.Pattern") (n := "search") (by rw[ca,bv];kernel_rfl) (by decide +kernel) (by decide +kernel) (by decide +kernel)
  (by first|exact .inl (by decide +kernel)|exact .inr (by decide +kernel)) (by rw[cL];kernel_rfl)
theorem zmu:typeOf (.builtin "re.Pattern.search")=pure (.type "method_descriptor"):=by show builtinType _=_;refine aw builtinType_eq_fast ?_;kernel_rfl
theorem zl4:entryFor table "re.Pattern.search" = some Builtin.«re.Pattern.search»:=entryFor_of_tree (by kernel_rfl)
theorem znz (a b:Value):argsOk "re.Pattern.search" ⟨[a,b],[]⟩:=by unfold argsOk;kernel_rfl
theorem zjq:PlainAttrs "re.Pattern" :=
 ⟨⟨"object.__getattribute__", by rw[ca,bv];kernel_rfl,by decide +kernel⟩,by rw[ca,bv];kernel_rfl⟩
open PySem.Sre PySem.Builtin.Re in
theorem zkh {m:Sre.M}(hc:∀k,k<m.lim→∀seen,∃seen',inSet m.code (m.text.getD k 0) m.code.size 5 true seen=.ok (false,seen'))(fuel:Nat):∀(k:Nat) (seen:Sre.Seen),∃seen',Sre.M.admitted m fuel k seen=.ok (none,seen'):=by
 induction fuel with
 |zero=>exact λu1 seen=>⟨seen,rfl⟩
 |succ fuel ih =>
  intro k seen
  unfold Sre.M.admitted
  split
  ·exact⟨seen,rfl⟩
  ·refine(hc k (Nat.not_le.mp (by assumption)) seen).elim λseen' h=>?_
   refine aw h ?_
   exact ih (k+1) seen'
section
open PySem.Sre PySem.Builtin.Re
variable {M:Model}{A:Around}{E:Value→Shared→Prop}{s:Shared}
theorem zmp {p:Nat→Bool}{nm:Nat→String}{Q:PUnit→Shared→Prop}(h:Q ⟨⟩ s)(l:List Nat):wpAny M A (forIn l PUnit.unit λi u1=>if p i=true then do rule (nm i);pure (ForInStep.yield PUnit.unit)else pure (ForInStep.yield PUnit.unit):Sem PUnit) Q E s:=by
 induction l with
 |nil =>
  exact ai h
 |cons i r ih =>
  rw[eB]
  refine aa ?_
  split
  ·exact aa (cP (ai (ih)))
  ·exact ai (ih)
theorem zh9 {m:Sre.M}{Q:Option Sre.M→Shared→Prop}(ha:m.answer=some false)(hf:m.frames=[])(ho:m.outcome=none)(h:Q none s):wpAny M A (reRunToEnd m) Q E s:=by
 have hrun:m.runFor reTurnSteps={ m with outcome:=some .failed }:=by
  unfold reTurnSteps
  unfold Sre.M.runFor
  rw[ho]
  simp only[Option.isSome_none,bS,if_false]
  unfold Sre.M.runFor
  have hs:m.step={ m with outcome:=some .failed }:=by
   unfold Sre.M.step
   refine aw ho (aw ha (aw hf ?_))
   rfl
  refine aw hs ?_
  rfl
 unfold reRunToEnd
 refine aa ?_
 refine aw (show(2:Nat)^64=(2^64-1)+1 from rfl) ?_
 unfold reDrive
 refine aw hrun ?_
 refine ai ?_
 refine aa (zmp (p:=λi=>m.seen.has i) (nm:=λi=>Sre.names.getD i "") ?_ _)
 exact ai h
end
section
open PySem.Sre PySem.Builtin.Re
noncomputable def zut (code:Array Nat)(x:Str):Prop:=∀k,k<x.cps.size→∀seen,∃seen',inSet code (x.cps.getD k 0) code.size 5 true seen=.ok (false,seen')
theorem zgz {m:Sre.M}(hf:m.hasFirstSet=true)(hc:∀k,k<m.lim→∀seen,∃seen',inSet m.code (m.text.getD k 0) m.code.size 5 true seen=.ok (false,seen'))(k:Nat)(b:Bool) :
  (m.attemptFrom k b).answer=some false∧(m.attemptFrom k b).frames=m.frames∧(m.attemptFrom k b).outcome=m.outcome:=by
 unfold Sre.M.attemptFrom
 refine aw hf ?_
 simp only[Bool.not_true,bS,if_false]
 (refine x1a1 (zkh hc (m.lim+1-k) k m.seen) λseen' e'=>?_)
 refine aw e' ?_
 exact⟨rfl,rfl,rfl⟩
theorem zic {code:Array Nat}{x:Str}(hc:zut code x)(h0:ops[code.getD 0 0]?=some Op.INFO)(h2:code.getD 2 0=4)(groups:Nat)(b:Bool) :
  (forSearch code x.cps groups 0 x.cps.size b).answer=some false∧(forSearch code x.cps groups 0 x.cps.size b).frames=[]∧(forSearch code x.cps groups 0 x.cps.size b).outcome=none:=by
 unfold forSearch
 dsimp only
 split
 ·exact⟨rfl,rfl,rfl⟩
 ·have hf:∀m:Sre.M,m.code=code→m.hasFirstSet=true:=λm e=>by
   unfold Sre.M.hasFirstSet
   refine aw e (aw h2 (aw h0 ?_))
   rfl
  apply zgz
  ·exact hf _ rfl
  ·exact hc
end
section
open PySem.Sre PySem.Builtin.Re
variable {prog:Program}{w:World}{A:Around}{E:Value→Shared→Prop}{s:Shared}
theorem zhk {p t:Addr}{op ot:Obj}{fs items:Array Value}{m:Nat}{x:Str}{u u2 u6:Tok}{Q:Value→Shared→Prop}(hp:s.heap.get? p=some op)(hcls:op.cls=.type "re.Pattern") (hpd:op.data=.fields fs)
  (h2:fs.getD 2 .none=.int 0 u2) (h5:fs.getD 5 .none=.ref t) (h6:fs.getD 6 .none=.int 0 u6)
  (ht:s.heap.get? t=some ot) (htd:ot.data=.seq items m) (hsz:x.cps.size<2^62)
  (hc:zut ((items.map reRawOf).map (λx=>x.toNat)) x) (c0:ops[((items.map reRawOf).map (λx=>x.toNat)).getD 0 0]?=some Op.INFO) (c2:((items.map reRawOf).map (λx=>x.toNat)).getD 2 0=4)
  (h:Q .none s):wpAny (model prog w) A (call (.builtin "re.Pattern.search") [.ref p,.str x u]) Q E s:=by
 refine bx zhi ⟨_,hp,hcls⟩ zl4 ?_ (znz _ _)
 unfold Builtin.«re.Pattern.search» reTarget
 refine aa ?_
 refine aa (ch (a:=[some (.str x u),none,none]) (by kernel_rfl) ?_)
 dsimp only
 refine aa (ai ?_)
 refine aa (ai ?_)
 refine aa (d4 hp hpd ?_)
 refine aa (ch (a:=(x.cps,0)) (by unfold reTextOf;rfl) ?_)
 dsimp only
 refine aw h6 (aw h5 (aw h2 ?_))
 refine wpAny_ite ?_
 rw[if_neg (by show ¬(false=true);decide)]
 refine wpAny_ite ?_
 rw[if_neg (by show ¬(false=true);decide)]
 refine aa (ch (a:=()) (by unfold reNoCollectionInside;rfl) ?_)
 refine aa (aa (dZ ht htd (ai ?_)))
 refine ai ?_
 have hmin:min ((2^63-1:Int)).toNat x.cps.size=x.cps.size:=by lia
 have hmin0:min (Int.toNat 0) x.cps.size=0:=by simp
 refine aw hmin (aw hmin0 ?_)
 (refine x0a3 (zic hc c0 c2 (reRawNat (.int 0 u2)) false) λf1 f2 f3=>?_)
 unfold reAnswer
 refine aa (zh9 f1 f2 f3 ?_)
 exact ai ⟨_,rfl,h⟩
end
noncomputable def gO (x:Str):Bool:=x.cps.all λc=>decide (32≤c)&&decide (c<127)
open PySem.Sre in
theorem zpa {code:Array Nat}(h:∀c,32≤c→c<127→∀seen,∃seen',inSet code c code.size 5 true seen=.ok (false,seen')){x:Str}(hp:gO x=true):zut code x:=by
 intro k hk seen
 have:=Array.all_eq_true.mp hp k hk
 simp only[aq,decide_eq_true_eq]at this
 refine h _ ?_ ?_ seen
 ·simpa[Array.getD,hk]using this.1
 ·simpa[Array.getD,hk]using this.2
noncomputable def zjw:Array Nat:=#[14,10,4,1,1,22,0,31,16,127,0,13,7,22,0,31,16,127,0,1]
noncomputable def zhc:Array Nat:=#[14,14,4,1,1,9,4294966783,0,0,2147483648,0,0,0,0,0,13,11,9,4294966783,0,0,2147483648,0,0,0,0,0,1]
open PySem.Sre in
theorem zqb {x:Str}(hp:gO x=true):zut zjw x:=by
 refine zpa (λc h1 h2 seen=>?_) hp
 apply Exists.intro
 unfold zjw
 show(if (0≤c&&c≤31)=true then _ else _)=_
 refine aw (if_neg (by simp;lia)) ?_
 show(if (c==127)=true then _ else _)=_
 refine aw (if_neg (by simp;lia)) ?_
 rfl
open PySem.Sre in
theorem zmt {x:Str}(hp:gO x=true):zut zhc x:=by
 refine zpa (λc h1 h2 seen=>?_) hp
 apply Exists.intro
 unfold zhc
 have hb:∀c:Nat,32≤c→c<127→((#[14,14,4,1,1,9,4294966783,0,0,2147483648,0,0,0,0,0,13,11,9,4294966783,0,0,2147483648,0,0,0,0,0,1]:Array Nat).getD (5+(1+c/32)) 0).testBit (c % 32)=false:=by
  intro c h1 h2
  have:∀d:Fin 127,32≤d.val→((#[14,14,4,1,1,9,4294966783,0,0,2147483648,0,0,0,0,0,13,11,9,4294966783,0,0,2147483648,0,0,0,0,0,1]:Array Nat).getD (5+(1+d.val/32)) 0).testBit (d.val % 32)=false:=by decide +kernel
  exact this ⟨c,h2⟩ h1
 show(if (decide (c<256)&&Nat.testBit _ (c % 32))=true then _ else _)=_
 rw[hb c h1 h2,eJ,if_neg (by decide)]
 rfl
end Mine.Internal
end
section
namespace Mine.Internal
open PySem PyProof.Rows PySem.W PySem.SeqAt
section
open PySem.Sre PySem.Builtin.Re
end
section
variable {C:Cx}{n:Nat}{Γ:cA}{env:Env}{W:Wd}{A:Around}{s:Shared}{st:St}
open PySem.Builtin.Re in
structure z13 (K:Frag)(p:Addr)(fs:Array Value)(sl:Array (Option Value))(t:Addr)(u2 u6:Tok)(c:Value)(d:Option Addr)(items:Array Value)(m:Nat)(sl':Array (Option Value)):Prop where
 at_:K.lookup p=some ⟨.type "re.Pattern", none,.fields fs,sl⟩
 f2:fs.getD 2 .none=.int 0 u2
 f6:fs.getD 6 .none=.int 0 u6
 f5:fs.getD 5 .none=.ref t
 code:K.lookup t=some ⟨c,d,.seq items m,sl'⟩
 is:(items.map reRawOf).map (λx=>x.toNat)=zjw∨(items.map reRawOf).map (λx=>x.toNat)=zhc
inductive PatOk (K:Frag)(p:Addr):Prop
 |mk (fs:Array Value) (sl:Array (Option Value)) (t:Addr) (u2 u6:Tok) (c:Value) (d:Option Addr) (items:Array Value) (m:Nat) (sl':Array (Option Value)) (h:z13 K p fs sl t u2 u6 c d items m sl'):PatOk K p
theorem zwz {K:Frag}{p:Addr}{G:Prop}(hp:PatOk K p)(k:∀{fs sl t u2 u6 c d items m sl'},z13 K p fs sl t u2 u6 c d items m sl'→G):G:=PatOk.rec (λu1 u2 u3 u4 u5 u6 u7 u8 u9 u10 h=>k h) hp
noncomputable def z1f (L:List Addr)(a:AV)(_:St):Prop:=∃p,a=.val (.ref p)∧L.contains p=true
theorem Res.pat {L:List Addr}(hL:∀p,L.contains p=true→PatOk C.K p):Res C "search" (.builtin "re.Pattern.search") (z1f L):=by
 intro A W st s a v R hv ⟨p,ha,hp⟩ Q E pl hq
 subst ha
 cases hv
 refine zwz (hL _ hp) λe=>?_
 have ho:=R.kin _ _ e.at_
 exact eh ⟨_,ho,rfl⟩ zjq zhi zmu (λa e=>by cases e;exact⟨_,ho,rfl⟩) hq
noncomputable def vref:Value→Option Addr
 |.ref p=>some p
 |_=>none
noncomputable def AV.ref? (a:AV):Option Addr:=a.val?.bind vref
theorem zx1 {v:Value}{p:Addr}(e:vref v=some p):v=.ref p:=by cases v<;>first|exact ns e|exact congrArg _ (sj e)
theorem VR.refE {a:AV}{v:Value}{p:Addr}(h:VR W a v)(e:a.ref?=some p):v=.ref p:=(aZ.mp e).elim λw q=>(h.valE q.1).trans (zx1 q.2)
noncomputable def zsl (L:List Addr)(a b:AV):K AV:=λst=>a.ref?.bind λp=>b.str?.bind λx=>if L.contains p=true∧gO x=true∧x.cps.size<2^62 then some (.none,st)else none
noncomputable def zm9 (L:List Addr):List AV→K AV:=λargs st=>(two? args).bind λq=>zsl L q.1 q.2 st
theorem Cal.search {L:List Addr}(hL:∀p,L.contains p=true→PatOk C.K p):Cal C n Γ (.builtin "re.Pattern.search") (zm9 L):=.two (F:=zsl L) λA env W st s a b v w ok I hv hw =>
 .obind λp hp=>.obind λx hx=>.ite λhh=>hw.strE hx λu=>.mk1 λQ E hq=>by
  refine aw (hv.refE hp) ?_
  refine zwz (hL _ hh.1) λe=>?_
  have key:=hq.at I s.toks .none
  refine cF e.is (λq=>?_) λq=>?_
  ·exact zhk (I.rel.kin _ _ e.at_) rfl rfl e.f2 e.f5 e.f6 (I.rel.kin _ _ e.code) rfl hh.2.2 (by rw[q];exact zqb hh.2.1) (by rw[q];rfl) (by rw[q];rfl) key
  ·exact zhk (I.rel.kin _ _ e.at_) rfl rfl e.f2 e.f5 e.f6 (I.rel.kin _ _ e.code) rfl hh.2.2 (by refine aw q ?_;exact zmt hh.2.1) (by refine aw q ?_;rfl) (by refine aw q ?_;rfl) key
theorem z2j {o:Expr}{name:Str}{apos pos:Pos}{fv:Value}{f:K AV}{a:AV}{st₁:St}{Q:Value→Shared→Prop}{E:Value→Shared→Prop}(ho:Ev C n Γ o f)(hc:Callee C fv)(hsup:fL o=false)(hline:(apos.endLine==pos.line)=true)
  (ok:AOk C n A) (I:Inv C Γ env W st s.heap) (e1:f st=some (a,st₁))
  (hr:∀W1 h1 tk1 va,Rel C W1 st₁.σ h1→VR W1 a va→∀(Q:Value×List Value→Shared→Prop) (E:Value→Shared→Prop) pl,Q (fv,[va]) (mv s h1 tk1)→wpAny (model C.prog C.w) A (getMethod va name pl) Q E (mv s h1 tk1))
  (hq:∀W1 h1 tk1 va,Inv C Γ env W1 st₁ h1→Keep W W1 (priv Γ env) s.heap h1→VR W1 a va→wpAny (model C.prog C.w) A (call fv [va]) Q E (mv s h1 tk1)) :
  wpAny (model C.prog C.w) A (eval (.Call (.Attribute o name apos) [] [] pos) env) Q E s:=by
 simp only[fH,zav hsup]
 refine aa (ho.run A env W st s ok I _ _ e1 _ _ λva W1 h1 tk1 I1 k1 v1=>aa (bO ?_))
 have hpos:methodCallPos true o env apos pos=pure pos:=by unfold methodCallPos;refine aw hline ?_;rfl
 unfold methodCall
 refine aw (show methodCallForm (([]:List Expr).length+([]:List Keyword).length) (backTo pos (starEach [] env)) (backToKw pos (keywordEach [] env))=true from rfl) ?_
 refine aa (aV (hr W1 h1 tk1 va I1.rel v1 _ _ _ (aa (ch hpos ?_))))
 exact zbz (P:=λh=>∀b o,C.h₀.get? b=some o→h.get? b=some o) (hc _) (zor ⟨I1.rel.old,hq W1 h1 tk1 va I1 k1 v1⟩)
noncomputable def z0e (a:AV):K (List AV×Option (Nat×AO)):=λst=>a.oid.bind λo=>(Mine.Internal.dictAt st.σ o).map λp=>((p.1.map (λx=>x.2),some (o,.dict p.1 p.2)),st)
theorem Itb.values {o:Expr}{apos pos:Pos}{f:K AV}(ho:Ev C n Γ o f)(hsup:fL o=false)(hline:(apos.endLine==pos.line)=true):Itb C n Γ (.Call (.Attribute o "values" apos) [] [] pos) (K.bind f z0e):=by
 refine⟨λA env W st s ok J vs g st' e Q E hq=>K.bindE e λa st₁ e1 e2=>am (aZ.mp e2) λd p=>am (aP.mp p.2) λx q=>?_⟩
 cases q.2
 have e':=zgd q.1
 have ha:a=.obj d:=by have h:=p.1;cases a<;>cases h;rfl
 subst ha
 clear p q e e2
 refine z2j ho (Callee.builtin (id := "dict.values")) hsup hline ok J e1 (λW1 h1 tk1 va R v1 Q E pl hq=>Res.dict F.slot_dict_values F.type_dict_values A W1 _ (mv s h1 tk1) _ va R v1 ⟨d,_,_,rfl,e'⟩ Q E pl hq) λW1 h1 tk1 va I1 k1 v1=>v1.objE rfl λad hd=>?_
 refine am (i5 I1.rel hd e') λkvs x1=>?_
 refine call_meetsIn F.slot_dict_values x1.1.dictOf.typeIs F.entry_dict_values (F.args_dict_values_1 _) (meets_dict_values (intKind C.prog C.w) _ (zlc I1.rel (ij hd))) ⟨⟨_,x1.1.dictOf⟩,?_⟩
 have J2:=I1.pushed { cls:=.type "dict_values", data:=.fields #[.ref ad] }
 have k2:=k1.trans (.pushed { cls:=.type "dict_values", data:=.fields #[.ref ad] })
 refine am (i5 J2.rel hd e') λkvs2 x2=>?_
 refine wpAny_pyIter_values (s:={ s with heap:=h1.push { cls:=.type "dict_values", data:=.fields #[.ref ad] },toks:=tk1.1,drawn:=tk1.2 }) ⟨_,aF _ rfl,rfl,rfl⟩ x2.1 ?_
 refine dI x2.2.len ?_
 exact hq _ W1 _ tk1 (J2.pushed _) (k2.trans (.pushed _)) ((ItOk.new J2).back k2) (.vals hd ⟨_,aF _ rfl,rfl,rfl⟩) (λp hp=>br hp▸e')
noncomputable def zy7 (K:Frag)(Cl f:Addr):Bool:=findIn K (.ref Cl) "__len__" == some (some (.ref f))&&isFn K (.ref f)
noncomputable def hV (σ:List AO)(Cl:Addr)(i:Nat):Option (List (Str×AV)):=match σ[i]? with
 |some (.inst C' d)=>if C'=Cl then zfd σ d else none
 |_=>none
noncomputable def lenJ (i:Nat)(F:List AV→List AO→Option (AV×List AO)):K AV:=λst=>(F [.obj i] st.σ).bind λr=>r.1.int?.bind λj=>if 0≤j∧j<2^63 then some (.int j,⟨st.θ,r.2⟩)else none
noncomputable def lenI (Cl:Addr)(F:List AV→List AO→Option (AV×List AO))(k:List AV→K AV)(args:List AV):K AV:=λst=>match args with
 | [.obj i]=>(match hV st.σ Cl i with
  |some _=>lenJ i F st
  |none=>k args st)
 |_=>k args st
theorem zzc {σ:List AO}{h:Heap}(R:Rel C W σ h){Cl:Addr}{i:Nat}{x:Addr}(hi:W.φ[i]?=some x){fs:List (Str×AV)}(e:hV σ Cl i=some fs){G:Prop}(k:∀ad od,InstAt h x ⟨.ref Cl,some ad,.plain,#[]⟩ Cl (some od)→G):G:=by
 unfold hV at e
 cases ho:σ[i]? with
 |none=>rw[ho]at e;exact ns e
 |some o =>
  rw[ho]at e
  cases o with
  |inst C' d =>
   refine im e λhc e'=>?_
   subst hc
   (refine x1a2 (R.objs _ _ _ ho hi) λad hd hx=>?_)
   (refine x2a2 (R.objs _ _ _ (zfc e') hd) λes m hdx u1=>?_)
   exact k ad _ ⟨hx,rfl,rfl,hdx⟩
  |_=>exact ns e
theorem Cal.lenI {Cl f:Addr}{F}{k:List AV→K AV}(hl:zy7 C.K Cl f=true)(hk:Cal C n Γ (.builtin "len") k) (hF:Fn C n (.ref f) F):Cal C (n+1) Γ (.builtin "len") (lenI Cl F k):=by
 intro A env W st s args vs ok I hv
 have old:=hk A env W st s args vs (ok.less (cV n)) I hv
 cases args with
 |nil=>exact old
 |cons a r =>
  cases r with
  |cons _ _=>cases a<;>exact old
  |nil =>
   cases a with
   |obj i =>
    show Run _ _ _ _ _ _ _ (match hV st.σ Cl i with|some _=>lenJ i F st|none=>k [.obj i] st) _
    cases hi:hV st.σ Cl i with
    |none=>exact old
    |some fs =>
     clear old
     unfold zy7 at hl
     rw[aq,beq_iff_eq]at hl
     refine hv.oneE λv hv=>VR.objE (v:=v) hv rfl λx hx=>zzc I.rel hx hi λad od IA=>.obind λr e1=>.obind λj hj=>.ite λhb=>.mk1 λQ E hq=>?_
     refine cY kind_len plain_len entry_len (args_len1 _) ?_
     unfold Builtin.«len»
     refine aa (m:=oneArg "len" _) (ai ?_)
     refine aa (m:=callSpecial? _ (Str.ofString "__len__")) (special_fn I.rel.kin IA hl.1 (beq_iff_eq.mp hl.2) (hF A.in1 W st.σ s [.obj i] _ ok.in1 I.rel (.one (.obj hx)) _ _ e1 _ _ λv W' h' tk R' k' v'=>v'.intE hj λt=>?_))
     refine aa (aV (ai ?_))
     refine aa (wpAny_letGo ?_)
     show wpAny _ _ (if j<0 then _ else _) _ _ _
     rw[if_neg (Int.not_lt.mpr hb.1)]
     show wpAny _ _ (if j≥2^63 then _ else _) _ _ _
     rw[if_neg (Int.not_le.mpr hb.2)]
     exact aa (wpAny_mkInt (ai ⟨_,rfl,hq _ W' h' (_,tk.2) (I.keep R' k') k'.wide (.int _ _)⟩))
   |_=>exact old
end
end Mine.Internal
end
section
namespace Mine.Internal
open PySem PyProof.Rows PySem.W PySem.SeqAt
section
variable {C:Cx}{n:Nat}{Γ:cA}{KK:Frag}
theorem Ev.gkW {x pos i}{v:Value}{a:AV}(hK:C.K=KK)(e:PySem.W.nsIn KK mainGlobals x=some (some v))(h:Γ.tab.lookup x=some (.globalImplicit,i))(hr:∀W,VR W a v)(hd:(x==("__debug__" : Str))=false):Ev C n Γ (.Name x pos) (K.ret a):=Ev.gk (hK▸e) h hr hd
theorem Ev.bkW {x pos i}{v:Value}(hK:C.K=KK)(e:PySem.W.nsIn KK mainGlobals x=some none)(hv:bootBuiltins x=some v)(h:Γ.tab.lookup x=some (.globalImplicit,i))(hd:(x==("__debug__" : Str))=false) (hn:(x==("__name__" : Str))=false):Ev C n Γ (.Name x pos) (K.ret (.val v)):=Ev.bk (hK▸e) hv h hd hn
theorem Callee.kW {a:Addr}(hK:C.K=KK)(ok:Cx.Ok C.toBx)(h:keepIn KK (.ref a)=true):Callee C (.ref a):=Callee.k ok.k (hK▸h)
theorem Res.instW {Cl f:Addr}{name:Str}(hK:C.K=KK)(h:zix KK Cl name=some f):Res C name (.ref f) (iU Cl name):=Res.inst (hK▸h)
noncomputable def fb (B:List AV→List (Str×AV)→List AO→Option (List (Str×AV)×List AO))(sc:Scope)(f:K Fl)(args:List AV)(kws:List (Str×AV))(σ:List AO):Option (AV×List AO) :=
 match B args kws σ with
 |none=>none
 |some (ab,σ₁)=>if (ab.all λx=>(sc.names.lookup x.1==some .local)||(sc.names.lookup x.1==some .cell))=true then
   (match f ⟨θbind (d8 sc) ab λu1=>none,σ₁⟩with
   |some (fl,st')=>some (retOf fl,st'.σ)
   |none=>none)else none
theorem FnK.ofB {a:Addr}{fd:FuncData}{body:List Stmt}{B}{f:K Fl}(h:FdOk C a fd body)(hB:Binds C fd B)(hf:∀env,Exs (C.push env) n (d8 fd.scope) body f):FnK C (n+1) (.ref a) (fb B fd.scope f):=by
 refine FnK.of_body h hB hf λargs kws σ r σ' e P k=>?_
 unfold fb at e
 cases e1:B args kws σ with
 |none=>rw[e1]at e;exact ns e
 |some p =>
  rw[e1]at e
  refine im e λhall e=>?_
  cases e2:f ⟨θbind (d8 fd.scope) p.1 λu1=>none,p.2⟩with
  |none=>rw[e2]at e;exact ns e
  |some q =>
   rw[e2]at e
   obtain⟨rfl,rfl⟩:=sp e
   exact k p.1 p.2 q.1 q.2.θ e1 hall e2 rfl
section
variable {o:Expr}{apos pos:Pos}{args:List Expr}{f:K AV}{g:K (List AV)}
theorem Ev.mAppend (ho:Ev C n Γ o f)(ha:Eas C n Γ args g)(hst:args.all (λe=>!fj e)=true)(hlen:decide (args.length<29)=true)(hsup:fL o=false)(hline:(apos.endLine==pos.line)=true) :
  Ev C n Γ (.Call (.Attribute o "append" apos) args [] pos) (K.bind f λa=>K.bind (fw (zqg a)) λu1=>K.bind g λas=>zn0 (a::as)) :=
 Ev.meth ho (Res.list F.slot_list_append F.type_list_append) Callee.builtin ha Cal.append hst hlen hsup hline
theorem Ev.mPop (ho:Ev C n Γ o f)(ha:Eas C n Γ args g)(hst:args.all (λe=>!fj e)=true)(hlen:decide (args.length<29)=true)(hsup:fL o=false)(hline:(apos.endLine==pos.line)=true) :
  Ev C n Γ (.Call (.Attribute o "pop" apos) args [] pos) (K.bind f λa=>K.bind (fw (zqg a)) λu1=>K.bind g λas=>popK (a::as)) :=
 Ev.meth ho (Res.list F.slot_list_pop F.type_list_pop) Callee.builtin ha Cal.pop hst hlen hsup hline
theorem Ev.mClear (ho:Ev C n Γ o f)(ha:Eas C n Γ args g)(hst:args.all (λe=>!fj e)=true)(hlen:decide (args.length<29)=true)(hsup:fL o=false)(hline:(apos.endLine==pos.line)=true) :
  Ev C n Γ (.Call (.Attribute o "clear" apos) args [] pos) (K.bind f λa=>K.bind (fw (zqg a)) λu1=>K.bind g λas=>zul (a::as)) :=
 Ev.meth ho (Res.list F.slot_list_clear F.type_list_clear) Callee.builtin ha Cal.clear hst hlen hsup hline
theorem Ev.mDget (ho:Ev C n Γ o f)(ha:Eas C n Γ args g)(hst:args.all (λe=>!fj e)=true)(hlen:decide (args.length<29)=true)(hsup:fL o=false)(hline:(apos.endLine==pos.line)=true) :
  Ev C n Γ (.Call (.Attribute o "get" apos) args [] pos) (K.bind f λa=>K.bind (fw (zza a)) λu1=>K.bind g λas=>zzn (a::as)) :=
 Ev.meth ho (Res.dict F.slot_dict_get F.type_dict_get) Callee.builtin ha Cal.dget hst hlen hsup hline
theorem Ev.mSadd (ho:Ev C n Γ o f)(ha:Eas C n Γ args g)(hst:args.all (λe=>!fj e)=true)(hlen:decide (args.length<29)=true)(hsup:fL o=false)(hline:(apos.endLine==pos.line)=true) :
  Ev C n Γ (.Call (.Attribute o "add" apos) args [] pos) (K.bind f λa=>K.bind (fw (isSt a)) λu1=>K.bind g λas=>zyl (a::as)) :=
 Ev.meth ho Res.setAdd Callee.builtin ha Cal.sadd hst hlen hsup hline
theorem Ev.mUpper (ho:Ev C n Γ o f)(ha:Eas C n Γ args g)(hst:args.all (λe=>!fj e)=true)(hlen:decide (args.length<29)=true)(hsup:fL o=false)(hline:(apos.endLine==pos.line)=true) :
  Ev C n Γ (.Call (.Attribute o "upper" apos) args [] pos) (K.bind f λa=>K.bind (fw (zi0 a)) λu1=>K.bind g λas=>zrz (a::as)) :=
 Ev.meth ho (Res.str F.slot_str_upper F.type_str_upper) Callee.builtin ha Cal.upper hst hlen hsup hline
theorem Ev.mLower (ho:Ev C n Γ o f)(ha:Eas C n Γ args g)(hst:args.all (λe=>!fj e)=true)(hlen:decide (args.length<29)=true)(hsup:fL o=false)(hline:(apos.endLine==pos.line)=true) :
  Ev C n Γ (.Call (.Attribute o "lower" apos) args [] pos) (K.bind f λa=>K.bind (fw (zi0 a)) λu1=>K.bind g λas=>ztb (a::as)) :=
 Ev.meth ho (Res.str F.slot_str_lower F.type_str_lower) Callee.builtin ha Cal.lower hst hlen hsup hline
theorem Ev.mJoin (ho:Ev C n Γ o f)(ha:Eas C n Γ args g)(hst:args.all (λe=>!fj e)=true)(hlen:decide (args.length<29)=true)(hsup:fL o=false)(hline:(apos.endLine==pos.line)=true) :
  Ev C n Γ (.Call (.Attribute o "join" apos) args [] pos) (K.bind f λa=>K.bind (fw (zi0 a)) λu1=>K.bind g λas=>zy8 (a::as)) :=
 Ev.meth ho (Res.str F.slot_str_join F.type_str_join) Callee.builtin ha Cal.join hst hlen hsup hline
theorem Ev.mSearch {L:List Addr}(hL:∀p,L.contains p=true→PatOk C.K p)(ho:Ev C n Γ o f)(ha:Eas C n Γ args g)(hst:args.all (λe=>!fj e)=true)(hlen:decide (args.length<29)=true)(hsup:fL o=false)(hline:(apos.endLine==pos.line)=true) :
  Ev C n Γ (.Call (.Attribute o "search" apos) args [] pos) (K.bind f λa=>K.bind (fw (z1f L a)) λu1=>K.bind g λas=>zm9 L (a::as)) :=
 Ev.meth ho (Res.pat hL) Callee.builtin ha (Cal.search hL) hst hlen hsup hline
theorem Ev.mOwn {name:Str}{Cl fa:Addr}{F}(hK:C.K=KK)(ok:Cx.Ok C.toBx)(h:zix KK Cl name=some fa)(hkp:keepIn KK (.ref fa)=true)(hF:FnK C n (.ref fa) F)(ho:Ev C n Γ o f)(ha:Eas C n Γ args g)(hst:args.all (λe=>!fj e)=true)(hlen:decide (args.length<29)=true)(hsup:fL o=false)(hline:(apos.endLine==pos.line)=true) :
  Ev C n Γ (.Call (.Attribute o name apos) args [] pos) (K.bind f λa=>K.bind (fw (iU Cl name a)) λu1=>K.bind g λas=>zng (λas σ=>F as [] σ) (a::as)) :=
 Ev.meth ho (Res.instW hK h) (Callee.kW hK ok hkp) ha (Cal.fn hF.fn) hst hlen hsup hline
theorem Ev.mOwnK {name:Str}{Cl fa:Addr}{F}{kws:List Keyword}{g:K (List AV×List (Str×AV))}(hK:C.K=KK)(ok:Cx.Ok C.toBx)(h:zix KK Cl name=some fa)(hkp:keepIn KK (.ref fa)=true)(hF:FnK C n (.ref fa) F)(ho:Ev C n Γ o f)(ha:Ear C n Γ args kws g)(hst:args.all (λe=>!fj e)=true)(hkw:kws.all (λk=>k.arg.isSome)=true)(hlen:decide (args.length+kws.length<29)=true)(hsup:fL o=false)(hline:(apos.endLine==pos.line)=true) :
  Ev C n Γ (.Call (.Attribute o name apos) args kws pos) (K.bind f λa=>K.bind (fw (iU Cl name a)) λu1=>K.bind g λp=>zvu F (a::p.1) p.2) :=
 Ev.methK ho (Res.instW hK h) (Callee.kW hK ok hkp) ha (CalK.fn hF) hst hkw hlen hsup hline
theorem Ev.fnCall {x:Str}{np:Pos}{fa:Addr}{F}(hK:C.K=KK)(ok:Cx.Ok C.toBx)(hkp:keepIn KK (.ref fa)=true)(hF:FnK C n (.ref fa) F)(hf:Ev C n Γ (.Name x np) (K.ret (.val (.ref fa))))(ha:Eas C n Γ args g)(hl:lone args=false) :
  Ev C n Γ (.Call (.Name x np) args [] pos) (K.bind g (zng λas σ=>F as [] σ)) :=
 Ev.call hf (Callee.kW hK ok hkp) ha hl (Cal.fn hF.fn)
end
theorem Ex.failRaise {a b:Option Expr}{p:Pos}:Ex C n Γ (.Raise a b p) K.fail:=Ex.fail
theorem Ex.failAssert {a:Expr}{b:Option Expr}{p:Pos}:Ex C n Γ (.Assert a b p) K.fail:=Ex.fail
theorem Ex.failFor {t i:Expr}{a b:List Stmt}{p:Pos}:Ex C n Γ (.For t i a b p) K.fail:=Ex.fail
theorem Ex.tryNextW {e₀:Expr}{x:Str}{px pa pb pn ph pos:Pos}{i j:Nat}{f:K (Option AV)}{g:K Fl}{b₀:Stmt}{suite:List Stmt}(hcalm:C.calm=true)(hK:C.K=KK)(hcomp:Γ.comp=false)
  (hn:Nx C n Γ e₀ f) (hx:Γ.tab.lookup x=some (.local,i)) (hs:∀env,swapsWith e₀ (some (.Name x px)) pa.line env=pure false) (hg:Exs C.hot n Γ (b₀::suite) g)
  (hS:PySem.W.nsIn KK mainGlobals (Str.ofString "StopIteration")=some none) (hS2:Γ.tab.lookup (Str.ofString "StopIteration")=some (.globalImplicit,j)) :
  Ex C n Γ (.Try [.Assign [.Name x px] e₀ pa,.Break pb] [.ExceptHandler (some (.Name (Str.ofString "StopIteration") pn)) none (b₀::suite) ph] [] [] pos)
   (K.bind f λr=>match r with|some a=>K.bind (setv i a) λu1=>K.ret .brk|none=>g):=Ex.tryNext hcalm hcomp hn hx hs hg (hK▸hS) hS2
theorem FnK.clsW {Cl fI:Addr}{F}(hK:C.K=KK)(hm:makesIn KK Cl=true)(hi:findIn KK (.ref Cl) "__init__" = some (some (.ref fI))) (hf:typeIn KK (.ref fI)=some (.type "function")) (hF:FnK C n (.ref fI) F):FnK C (n+1) (.ref Cl) (znf Cl F):=FnK.cls (hK▸hm) (hK▸hi) (hK▸hf) hF
theorem FnK.clsSW {Cl fI:Addr}{F}(hK:C.K=KK)(hm:makesIn KK Cl=true)(hi:findIn KK (.ref Cl) "__init__" = some (some (.ref fI))) (hf:typeIn KK (.ref fI)=some (.type "function")) (hF:FnK C n (.ref fI) F):FnK C (n+1) (.ref Cl) (zqc Cl F):=FnK.clsS (hK▸hm) (hK▸hi) (hK▸hf) hF
theorem Binds.d1W {fd:FuncData}{x y:Str}{T:Addr}{o:Obj}{m:Nat}{k:Value→Option (Array Value)→Sem (List (Str×Value))}(hK:C.K=KK)(hd:fd.defaults=.ref T)(ho:KK.lookup T=some o)(hs:o.data=.seq #[.none] m)
  (h₁:∀v,bindArgs fd ⟨[v],[]⟩=seqItems? fd.defaults >>= k v) (h₂:∀v,k v (some #[.none])=pure [(x,v),(y,.none)]) :
  Binds C fd (bD1 x y):=Binds.d1 hd (hK▸ho) hs h₁ h₂
end
end Mine.Internal
end
section
namespace Mine.Internal
open PySem PyProof.Rows PySem.W PySem.SeqAt
section
variable {C:Cx}{n:Nat}{Γ:cA}{env:Env}{W:Wd}{A:Around}{s:Shared}{st:St}
noncomputable def hX:List AV→Option (List Int)
 | []=>some []
 |a::r=>a.int?.bind λx=>(hX r).map λl=>x::l
theorem zbx {l:List AV}:∀{vs:List Value} {ns:List Int},hX l=some ns→VRs W l vs→IntsAre vs ns:=by
 induction l with
 |nil=>exact λ{vs ns} e hv=>hv.nilE (eH e .nil)
 |cons a r ih=>exact λ{vs ns} e hv=>hv.consE λv vs h hr=>bindE e λx hx e=>mapE e λl e1=>h.intE hx λt=>.cons x t (ih e1 hr)
theorem zey (l:List Int):hX (l.map .int)=some l:=by
 induction l with
 |nil=>rfl
 |cons x l ih=>show(hX (l.map .int)).map _=_;refine aw ih ?_;rfl
noncomputable def z2w (mx:Bool)(a b:AV):K AV:=λst=>a.int?.bind λx=>b.int?.map λy=>(.int (if mx=true then max x y else min x y),st)
noncomputable def z2x (mx:Bool)(a:AV):K AV:=λst=>(fA a st).bind λvs=>(hX vs).bind λns=>(if mx=true then ns.max? else ns.min?).map λm=>(.int m,st)
noncomputable def zzs (mx:Bool):List AV→K AV
 | [a]=>z2x mx a
 | [a,b]=>z2w mx a b
 |_=>K.fail
noncomputable def zq7 (mx:Bool):String:=if mx=true then "max" else "min"
theorem zup {mx:Bool}{l:Addr}{vs:List Value}{ns:List Int}{m:Int}{Q E:Value→Shared→Prop}(hh:A.handled=none)(hl:s.heap.IsList l vs.toArray)(hi:IntsAre vs ns)(hm:(if mx=true then ns.max? else ns.min?)=some m)
  (h:∀h' (t:Tok) tk,(∀b o,s.heap.get? b=some o→h'.get? b=some o)→Q (.int m t) { s with heap:=h',toks:=tk }):wpAny (model C.prog C.w) A (call (.builtin (zq7 mx)) [.ref l]) Q E s:=by
 (refine x1a1 hi.allInts.items λxs e=>?_)
 have hns:ns=xs.toList.map (λx=>x.1):=by
  rw[←hi.numsOf,←nums_intItems,←e]
 have hne:ns≠[]:=by rintro rfl;cases mx<;>exact ns hm
 have hsz:0<xs.size:=by
  have h3:=List.length_pos_iff.mpr hne;rw[hns,ae,aA]at h3;exact h3
 rw[e]at hl
 cases mx with
 |true =>
  obtain⟨h1,h2⟩:=List.max?_eq_some_iff.mp hm
  refine max_intList hh hl hsz λv h' tk hv hk=>?_
  obtain⟨t,rfl⟩:=intItems_at hv
  (refine x0a2 (argBest_gt (numAt xs) (xs.size-1)) λg1 g2=>?_)
  have a1:numAt xs (argBest (λi j=>decide (numAt xs i > numAt xs j)) (xs.size-1))≤m:=h2 _ (by rw[hns,iM];exact getD_mem (by simp only[ae,aA];exact la14 hsz g1))
  have a2:m≤numAt xs (argBest (λi j=>decide (numAt xs i > numAt xs j)) (xs.size-1)):=by
   rw[hns]at h1
   obtain⟨j,hj,rfl⟩:=mem_getD h1
   rw[ae,aA]at hj
   rw[←iM];exact g2 j (by exact la10 hj)
  refine aw (Int.le_antisymm a1 a2) ?_
  exact h h' t tk hk
 |false =>
  obtain⟨h1,h2⟩:=List.min?_eq_some_iff.mp hm
  refine min_intList hh hl hsz λv h' tk hv hk=>?_
  obtain⟨t,rfl⟩:=intItems_at hv
  (refine x0a2 (argBest_lt (numAt xs) (xs.size-1)) λg1 g2=>?_)
  have a1:m≤numAt xs (argBest (λi j=>decide (numAt xs i<numAt xs j)) (xs.size-1)):=h2 _ (by rw[hns,iM];exact getD_mem (by simp only[ae,aA];exact la14 hsz g1))
  have a2:numAt xs (argBest (λi j=>decide (numAt xs i<numAt xs j)) (xs.size-1))≤m:=by
   rw[hns]at h1
   obtain⟨j,hj,rfl⟩:=mem_getD h1
   rw[ae,aA]at hj
   rw[←iM];exact g2 j (by exact la10 hj)
  refine aw (Int.le_antisymm a2 a1) ?_
  exact h h' t tk hk
theorem Post.kept {R:Wd→AV→Value→Prop}{b:AV}{Q:Value→Shared→Prop}{v:Value}{h':Heap}(hq:Post C Γ env W s R b st Q)(I:Inv C Γ env W st s.heap)(hk:∀b o,s.heap.get? b=some o→h'.get? b=some o)(tk:Nat)(hr:R W b v):Q v { s with heap:=h',toks:=tk } :=
 have x:=I.kept hk
 hq v W h' (tk,s.drawn) x.1 x.2.wide hr
theorem zwg {mx:Bool}{x y:Int}{t u:Tok}{Q E:Value→Shared→Prop}(hh:A.handled=none)(h:∀h' (t:Tok) tk,(∀b o,s.heap.get? b=some o→h'.get? b=some o)→Q (.int (if mx=true then max x y else min x y) t) { s with heap:=h',toks:=tk }) :
  wpAny (model C.prog C.w) A (call (.builtin (zq7 mx)) [.int x t,.int y u]) Q E s:=by
 cases mx with
 |true =>
  refine max_two_ints hh λh' tk hk=>?_
  by_cases c:y > x
  ·refine aw (if_pos c) ?_;have:=h h' u tk hk;rwa[if_pos rfl,Int.max_eq_right (by lia)]at this
  ·refine aw (if_neg c) ?_;have:=h h' t tk hk;rwa[if_pos rfl,Int.max_eq_left (by lia)]at this
 |false =>
  refine min_two_ints hh λh' tk hk=>?_
  by_cases c:y<x
  ·rw[if_pos c];have:=h h' u tk hk;rwa[if_neg (by decide),Int.min_eq_right (by lia)]at this
  ·refine aw (if_neg c) ?_;have:=h h' t tk hk;rwa[if_neg (by decide),Int.min_eq_left (by lia)]at this
theorem Cal.best (mx:Bool)(hc:C.calm=true):Cal C n Γ (.builtin (zq7 mx)) (zzs mx):=by
 intro A env W st s args vs ok I hv
 have hh:=ok.handled hc
 cases args with
 |nil=>exact .stuck
 |cons a r=>cases r with
  |nil =>
   exact hv.oneE λv h=>.obind λxs e=>.obind λns e2=>.omap λm e3=>fX (P:=λv=>Run C Γ env W A s (call (.builtin (zq7 mx)) [v]) _ VR) I.rel h e λl items k hl hr u1 =>
    .mk1 λQ E hq=>zup (vs:=items.toList) hh (fF hl) (zbx e2 hr) e3 λh' t tk hk=>hq.kept I hk tk (.int _ _)
  |cons b r=>cases r with
   |nil =>
    exact hv.twoE λv w h1 h2=>.obind λx hx=>.omap λy hy=>h1.intE (P:=λv=>Run C Γ env W A s (call (.builtin (zq7 mx)) [v,w]) _ VR) hx λt=>h2.intE (P:=λw=>Run C Γ env W A s (call (.builtin (zq7 mx)) [.int x t,w]) _ VR) hy λu =>
     .mk1 λQ E hq=>zwg hh λh' t tk hk=>hq.kept I hk tk (.int _ _)
   |cons _ _=>exact .stuck
theorem Cal.max (hc:C.calm=true):Cal C n Γ (.builtin "max") (zzs true):=Cal.best true hc
noncomputable def powK (a b:AV):K AV:=λst=>a.int?.bind λx=>b.int?.bind λy=>if 0≤y∧y≤1000000∧x.natAbs<2^64 then some (.int (x^y.toNat),st)else none
theorem Ev.pow {l r:Expr}{pos:Pos}{f g:K AV}(hl:Ev C n Γ l f)(hr:Ev C n Γ r g):Ev C n Γ (.BinOp l .Pow r pos) (K.bind f λa=>K.bind g λb=>powK a b) :=
 ⟨λA env W st s ok I=>.stepE (S:=λva Q E s₁=>wpAny (model C.prog C.w) A (eval r env) (λvb s₂=>wpAny (model C.prog C.w) A (binaryOp .Pow va vb) Q E s₂) E s₁) (λQ E h=>wpAny_BinOp h) (hl.run A env W st s ok I) λa st₁ va W1 h1 tk1 I1 v1 =>
  Run.step2 (hr.run A env W1 st₁ _ ok I1) λb st₂ vb W2 h2 tk2 I2 k2 v2=>.obind λx hx=>.obind λy hy=>.ite λhb=>(v1.mono k2.le).intE (P:=λva=>Run C Γ env W2 A (mv s h2 tk2) (binaryOp .Pow va vb) _ VR) hx λt=>v2.intE (P:=λvb=>Run C Γ env W2 A (mv s h2 tk2) (binaryOp .Pow _ vb) _ VR) hy λu =>
   .mk1 λQ E hq=>pow_int_small hb.1 hb.2.1 hb.2.2 (hq.at (s:=(mv s h2 tk2)) I2 _ (.int _ _))⟩
theorem seqE {a:AV}{v:Value}{vs:List AV}{h:Heap}(R:Rel C W st.σ h)(hv:VR W a v)(e:zm8 st a=some vs){P:Value→Prop}
  (k:∀l T items n,T = "list" ∨ T = "tuple" → h.get? l=some { cls:=.type T,data:=.seq items n }→VRs W vs items.toList→vs.length=items.size→P (.ref l)):P v:=by
 have key:fA a st=some vs→P v:=λe=>fX R hv e λl items n=>k l _ items n (.inl rfl)
 revert hv key
 cases a with
 |tup ws=>intro hv _;obtain rfl:=sj e;exact tupE R hv rfl λl items n=>k l _ items n (.inr rfl)
 |_=>exact λu1 key=>key e
theorem Rel.newAt {σ:List AO}{h h':Heap}(R:Rel C W σ h){a:Addr}(hk:∀b x,h.get? b=some x→h'.get? b=some x)(ha:h.get? a=none)(hb:mainGlobals<a)(ao:AO)(ho:OR ⟨W.φ++[a],W.ι⟩ h' ao a) :
  Rel C ⟨W.φ++[a],W.ι⟩ (σ++[ao]) h'∧Keep W ⟨W.φ++[a],W.ι⟩ [] h h':=by
 have le:W.Le ⟨W.φ++[a],W.ι⟩:=⟨⟨_,rfl⟩,λu1 hp=>hp⟩
 have ne:∀b o,h.get? b=some o→b≠a:=λb o e q=>by rw[q,ha]at e;exact ns e
 have nφ:∀b∈W.φ,b≠a:=λb hb=>by
  obtain⟨i,hi,rfl⟩:=bI.mp hb
  have hi':i<σ.length:=R.len▸hi
  (refine x1a1 ((R.objs i _ _ (an hi') (an hi)).there) λx hx=>?_)
  exact ne _ _ hx
 refine⟨⟨R.ok,λb x e=>hk _ _ (R.old b x e),λp hp=>hk _ _ (R.imm p hp),by simp[R.len],?_,λp hp q=>?_,λb hb=>?_,λb hb=>?_,λi x b e ea=>?_,λenv he=>?_⟩,
  .of le (λb x e u1 u2=>hk _ _ e) (λb x e=>⟨x,hk _ _ e⟩) (λb h1 h2=>?_) (λu1 h=>.inl h)⟩
 ·rw[b5]
  refine⟨R.nodup,by simp,λx hx b hb=>?_⟩
  exact aw (ac.mp hb) (nφ x hx)
 ·rcases aD.mp q with q|q
  ·exact R.apart p hp q
  ·exact ne _ _ (R.imm p hp) (ac.mp q)
 ·rcases aD.mp hb with q|q
  ·exact R.new b q
  ·rw[ac.mp q]
   cases e:C.h₀.get? a with
   |none=>rfl
   |some o=>exact absurd rfl (ne _ _ (R.old _ _ e))
 ·rcases aD.mp hb with q|q
  ·exact R.big b q
  ·refine aw (ac.mp q) ?_;assumption
 ·by_cases hi:i<σ.length
  ·rw[bd hi]at e
   rw[bd (by refine aw R.len ?_;exact hi)]at ea
   exact((R.objs i x b e ea).mono le).same λy hy=>hk _ _ hy
  ·have hi':i=σ.length:=by
    have:=(ap.mp e).1
    simp at this;lia
   subst hi'
   simp at e;subst e
   rw[←R.len]at ea
   simp at ea;subst ea
   exact ho
 ·obtain⟨h0,L,h1,h2,h3,h4,o',es,ep,h5,h6⟩:=R.frs env he
  refine⟨h0,L,h1,λq=>?_,h3,h4,o',es,ep,hk _ _ h5,h6⟩
  rcases aD.mp q with q|q
  ·exact h2 q
  ·exact ne _ _ h5 (ac.mp q)
 ·rcases aD.mp h1 with q|q
  ·exact absurd q h2
  ·exact aw (ac.mp q) ha
theorem Post.newAt {Q:Value→Shared→Prop}{ob:AO}{h':Heap}{a:Addr}(hq:Post C Γ env W s VR (.obj st.σ.length) ⟨st.θ,st.σ++[ob]⟩ Q)(I:Inv C Γ env W st s.heap)(hk:∀b x,s.heap.get? b=some x→h'.get? b=some x)(ha:s.heap.get? a=none)(hb:mainGlobals<a)(ho:OR ⟨W.φ++[a],W.ι⟩ h' ob a)(tk:Nat):Q (.ref a) { s with heap:=h',toks:=tk } :=
 have x:=I.rel.newAt hk ha hb ob ho
 hq _ _ _ (tk,s.drawn) (I.keep x.1 x.2) x.2.wide (.obj (by exact dI I.rel.len (List.getElem?_concat_length)))
theorem Ex.assignCell {x:Str}{pos' pos:Pos}{value:Expr}{i:Nat}{f:K AV}(h:Ev C n Γ value f)(hx:Sto C Γ x i)(hc:Γ.tab.lookup x=some (.cell,i))(hs:∀env:Env,env.kindOf x=some .cell→swapsWith value (some (.Name x pos')) pos.line env=pure false) :
  Ex C n Γ (.Assign [.Name x pos'] value pos) (K.bind f λa=>K.bind (setv i a) λu1=>K.ret .next) :=
 ⟨λA env W st s ok I=>.stepE (λQ E h=>wpAny_Assign_Name h (hs env (by rw[I.loc.names,hc];rfl))) (h.run A env W st s ok I) λa st₁ va W1 h1 tk1 I1 v1 =>
  Run.finE (k:=λu1=>Flow.next) (R':=FR) (hx.run A env W1 st₁ _ a va I1 v1) λu1 u2 u3 u4=>.next⟩
theorem zim {elt:Expr}{gens:List Comprehension}{sc:Scope}{pos px:Pos}{x:Str}{l:Nat}{env:Env}(h:env.kindOf x=some .cell):swapsWith (.ListComp elt gens sc pos) (some (.Name x px)) l env=pure false:=by
 unfold swapsWith
 dsimp only
 refine aw h ?_
 have:(some NameKind.cell==some NameKind.local)=false:=rfl
 simp only[this,eJ,Bool.false_and,Bool.false_and]
theorem Binds.d2W {KK:Frag}{fd:FuncData}{x y z:Str}{T:Addr}{o:Obj}{m:Nat}{k:Value→Value→Option (Array Value)→Sem (List (Str×Value))}(hK:C.K=KK)(hd:fd.defaults=.ref T)(ho:KK.lookup T=some o)(hs:o.data=.seq #[.none] m)
  (h₁:∀v w,bindArgs fd ⟨[v,w],[]⟩=seqItems? fd.defaults >>= k v w) (h₂:∀v w,k v w (some #[.none])=pure [(x,v),(y,w),(z,.none)]) :
  Binds C fd (bD2 x y z):=Binds.d2 hd (hK▸ho) hs h₁ h₂
end
end Mine.Internal
end
section
namespace Mine.Internal
open PySem PyProof.Rows PySem.W PySem.SeqAt
section
variable {C:Cx}{n:Nat}{Γ:cA}{env:Env}{W:Wd}{A:Around}{s:Shared}{st:St}{KK:Frag}
theorem zho (l:Addr)(items:Array Value)(m:Nat):Meets (Builtin.«bool.__new__» ⟨[.type "bool", .ref l],[]⟩)
  (λA R s=>s.heap.get? l=some { cls:=.type "list", data:=.seq items m }∧(items.size:Int)<2^63∧R (.ok (.ret (.bool (!items.isEmpty)))) { s with toks:=s.toks+1+1 }) :=
 Meets.of_wp λprog w A R s hs=>by
  (refine x0a3 hs λhl hz hs=>?_)
  obtain⟨hp,g,d,tk,os⟩:=s
  have f1:=F.conv_sub_bool
  repeat (any_goals (first|assumption|(with_reducible refine wpAny_truthy_list (fF hl) hz ?_)|wp_step))
  all_goals first|exact⟨_,rfl,hs⟩|skip
noncomputable def z10 (a:AV):K AV:=λst=>(fA a st).bind λvs=>if vs.length<2^62 then some (.bool (!vs.isEmpty),st)else none
noncomputable def z1z:List AV→K AV:=λargs st=>(one? args).bind λa=>z10 a st
theorem Cal.boolT:Cal C n Γ (.type "bool") z1z:=.one (F:=z10) λA env W st s a v ok I hv=>.obind λvs e=>.ite λhlt=>fX (P:=λv=>Run C Γ env W A s (call (.type "bool") [v]) _ VR) I.rel hv e λl items m hl u1 hlen=>.mk1 λQ E hq=>by
 have e:(!items.isEmpty)=!vs.isEmpty:=by simp only[Array.isEmpty,←hlen];cases vs<;>rfl
 exact call_bool_1 (zho l items m) ⟨hl,by omega,⟨rfl,e▸hq.at I _ (.bool _)⟩⟩
theorem Ev.or2 {x y:Expr}{pos:Pos}{f g:K AV}(h:Ev C n Γ x f)(h2:Ev C n Γ y g) :
  Ev C n Γ (.BoolOp .Or [x,y] pos) (K.bind f λa=>K.bind (iW a) λc=>if c then K.ret a else g) :=
 ⟨λA env W st s ok I v st' e Q E hq=>K.bindE e λa st₁ e1 e=>K.bindE e λc st₂ e2 e=>BoolOp_or (h.run A env W st s ok I _ _ e1 _ _ λva W1 h1 tk1 I1 k1 v1 =>
  zc1 (s:=(mv s h1 tk1)) I1 v1 _ _ e2 _ _ λc' W2 h2' tk2 I2 k2 hc=>by
   subst hc
   revert e
   cases c with
   |true=>intro e;obtain⟨rfl,rfl⟩:=sp e;exact hq va W2 h2' tk2 I2 (k1.trans k2) (v1.mono k2.le)
   |false=>exact λe=>BoolOp_one (h2.run A env W2 st₂ (mv s h2' tk2) ok I2 v st' e Q E λu W3 h3 tk3 I3 k3 v3=>hq u W3 h3 tk3 I3 (k1.trans (k2.trans k3)) v3))⟩
end
end Mine.Internal
end
section
namespace Mine.Internal
open PySem PyProof.Rows PySem.W PySem.SeqAt
section
variable {C:Cx}{n:Nat}{Γ:cA}{env:Env}{W:Wd}{A:Around}{s:Shared}{st:St}{KK:Frag}
end
end Mine.Internal
end
section
namespace Mine.Internal
open PySem PyProof.Rows PySem.W PySem.SeqAt
section
variable {C:Cx}{n:Nat}{Γ:cA}{env:Env}{W:Wd}{A:Around}{s:Shared}{st:St}{KK:Frag}
noncomputable def zkf (K:Frag)(Cl:Addr)(name:Str)(f:Addr):Bool :=
 plainGet K Cl name&&(hasDictIn K Cl&&(findIn K (.ref Cl) name==some (some (.ref f))&&(isFn K (.ref f)&&(specialIn K (.ref f) "__get__" == some (some (.builtin "function.__get__"))&&(takesIn K (.ref f)==some false&&!copiedNames.contains name)))))
theorem zl9 {Cl f:Addr}{name:Str}{a:AV}{v:Value}{expr:Bool}{Q E:Value→Shared→Prop}(hb:zkf C.K Cl name f=true)(I:Inv C Γ env W st s.heap)(hv:VR W a v)(hP:iU Cl name a st)
  (h:Q (.ref s.heap.objs.size) { s with heap:=s.heap.push (methodObj (.ref f) v),toks:=s.toks+1 }):wpAny (model C.prog C.w) A (getAttr v name expr) Q E s:=by
 unfold zkf at hb
 rw[aq,aq,aq,aq,aq,aq,beq_iff_eq,beq_iff_eq,beq_iff_eq,Bool.not_eq_true']at hb
 (refine x3a4 hP λi d fs z3 e1 e2 e3=>?_;subst z3)
 revert h
 refine hv.objE rfl λx hi h=>?_
 (refine x1a2 (I.rel.objs _ _ _ e1 hi) λad hd hx=>?_)
 (refine x2a2 (I.rel.objs _ _ _ e2 hd) λes m hdx hfs=>?_)
 have J:InstAt s.heap x ⟨.ref Cl,some ad,.plain,#[]⟩ Cl (some (dictOf es m)):=⟨hx,rfl,rfl,hdx⟩
 exact get_bind I.rel.kin J (fm hb.1).1 (findObj_fn hb.2.1 hb.2.2.1 hb.2.2.2.2.1 hb.2.2.2.2.2.1 hb.2.2.2.2.2.2 (by show lookIn name (dictOf es m)=_;simp only[lookIn_dict,hfs.getNone e3])) (fm hb.1).2
  (dH (fn_get (s:={ s with toks:=s.toks+1 }) I.rel.kin (beq_iff_eq.mp hb.2.2.2.1) (handed_on rfl h)))
noncomputable def zv5 (K:Frag)(f:Addr):Bool:=match K.lookup f with
 |some o=>(match o.data with | .func _=>true|_=>false)
 |none=>false
theorem zw5 {K:Frag}{f:Addr}(h:zv5 K f=true){G:Prop}(k:∀o fd,K.lookup f=some o→o.data=.func fd→G):G:=by
 unfold zv5 at h
 split at h
 ·rename_i o ho
  split at h
  ·rename_i fd hd
   exact k o fd ho hd
  ·exact ft h
 ·exact ft h
noncomputable def zhd (F:List AV→List AO→Option (AV×List AO))(a b:AV):K AV:=λst=>(zm8 st b).bind λvs=>if vs.length<2^20 then zng F (a::vs) st else none
theorem zr9 {a:AV}{v:Value}{vs:List AV}{E:Value→Shared→Prop}{Q:List Value→Shared→Prop}(I:Inv C Γ env W st s.heap)(hv:VR W a v)(e:zm8 st a=some vs)(hlt:vs.length<2^20)
  (h:∀ws h',VRs W vs ws→(∀b o',s.heap.get? b=some o'→h'.get? b=some o')→Q ws { s with heap:=h' }):StarOf (model C.prog C.w) A E v Q s :=
 seqE (P:=λv=>StarOf (model C.prog C.w) A E v Q s) I.rel hv e λl T items k hT hl hr hlen=>by
  have z:wpAny (model C.prog C.w) A (collect (.ref l)) Q E s:=wpAny_collect_seq l hT hl rfl rfl (λh' hk=>h _ h' hr hk) (gK hlt hlen)
  have hT':s.TypeIs (.ref l) T:=⟨_,hl,rfl⟩
  unfold StarOf notIterableAtAll
  rcases hT with rfl|rfl
  ·exact aa (wpAny_specialOf hT' PySem.F.slot_list_iter.lookup (ai ⟨rfl,z⟩))
  ·exact aa (wpAny_specialOf hT' PySem.F.slot_tuple_iter.lookup (ai ⟨rfl,z⟩))
theorem Ev.mOwnStar {o x:Expr}{p apos pos:Pos}{name:Str}{Cl fa:Addr}{F}{f g:K AV}(hK:C.K=KK)(okC:Cx.Ok C.toBx)(hb:zkf KK Cl name fa=true)(hfu:zv5 KK fa=true)(hF:FnK C n (.ref fa) F)(ho:Ev C n Γ o f)(hx:Ev C n Γ x g)(hsup:fL o=false) :
  Ev C n Γ (.Call (.Attribute o name apos) [.Starred x p] [] pos) (K.bind f λa=>K.bind (fw (iU Cl name a)) λu1=>K.bind g λb=>zhd (λas σ=>F as [] σ) a b):=by
 subst hK
 refine⟨λA env W st s ok I v st' e Q E hq=>K.bindE e λa st₁ e1 e=>zlw e λhP e=>K.bindE e λb st₂ e2 e=>?_⟩
 simp only[fH,zav hsup]
 refine aa (ho.run A env W st s ok I _ _ e1 _ _ λva W1 h1 tk1 I1 k1 v1=>aa (bO ?_))
 have hform:methodCallForm ([Expr.Starred x p].length+([]:List Keyword).length) (backTo pos (starEach [.Starred x p] env)) (backToKw pos (keywordEach [] env))=false:=rfl
 unfold methodCall
 refine aw hform ?_
 have hpos:methodCallPos false o env apos pos=pure pos:=rfl
 refine zw5 hfu λof fd hof hfd=>?_
 have hof:=okC.k _ _ hof
 refine aa (aV (aa (zl9 (s:=(mv s h1 tk1)) hb I1 v1 hP (ai (aa (ch hpos ?_))))))
 have X:=I1.rel.pushImm (methodObj (.ref fa) va) rfl
 have I2:=I1.keep X.1 X.2
 have kk:=k1.trans X.2.wide
 have v1:=v1.mono X.2.le
 refine ks_call (P:=λh=>h.get? h1.objs.size=some (methodObj (.ref fa) va)∧h.get? fa=some of) rfl (λh hh=>⟨.boundFrame,.inr (.inr rfl),?_⟩) (ks_lone (hx.run A env _ st₁ { s with heap:=h1.push (methodObj (.ref fa) va),toks:=tk1.1+1,drawn:=tk1.2 } ok I2 _ _ e2 _ _ λvb W3 h3 tk3 I3 k3 v3=>?_))
 ·unfold keeperOf
  refine(fu (part:=none) hh.1).andThen ?_
  show Looks _ h (do
   let .ref g:=(Value.ref fa)|return .machine
   return match (←load g).data with | .func _=>Keeper.boundFrame|_=>.caller) .boundFrame
  refine(fu (part:=none) hh.2).andThen ?_
  refine aw hfd ?_
  exact .now
 ·unfold zhd at e
  refine bindE e λvs hvs e=>im e λhlt e=>am (aP.mp e) λr hr=>?_
  obtain⟨hr,er⟩:=hr
  obtain⟨rfl,rfl⟩:=pj er
  refine zr9 I3 v3 hvs hlt λws h' hws hk=>?_
  have hmo:=hk _ _ (I3.rel.imm _ (k3.le.ι _ aj))
  refine⟨⟨hmo,hk _ _ (I3.rel.old _ _ hof)⟩,?_⟩
  have I4:=Inv.kept (s:=(mv s h3 tk3)) I3 hk
  refine dH (method_call hmo (hF A W3 st₂.σ (mv s h' tk3) (a::vs) [] (va::ws) [] ok I4.1.rel (.cons (v1.mono k3.le) hws) .nil r.1 r.2 hr _ λu W5 h5 tk5 R5 k5 v5=>?_))
  exact hq u W5 h5 tk5 (I4.1.keep R5 k5) (kk.trans (k3.trans (I4.2.wide.trans k5.wide))) v5
end
end Mine.Internal
end
section
namespace Mine.Internal
open PySem PyProof.Rows PySem.W
section
variable {n:Nat}{c:Nat→Int}{cmp:Nat→Nat→(Bool→Shared→Prop)→Shared→Prop}{s:Shared}
noncomputable def Arr (n:Nat)(p:Array Nat):Prop:=p.toList.Perm (List.range n)
noncomputable def ky (c:Nat→Int)(p:Array Nat)(i:Nat):Int:=c (p.getD i 0)
noncomputable def fO (c:Nat→Int)(p:Array Nat)(m:Nat):Prop:=∀i j,i<j→j<m→ky c p i<ky c p j
noncomputable def Dsc (c:Nat→Int)(p:Array Nat)(m:Nat):Prop:=∀i j,i<j→j<m→ky c p j<ky c p i
structure Asks (n:Nat)(c:Nat→Int)(cmp:Nat→Nat→(Bool→Shared→Prop)→Shared→Prop)(s:Shared):Prop where
 inj:∀i j,i<n→j<n→c i=c j→i=j
 ask:∀i j C,i<n→j<n→C (decide (c i<c j)) s→cmp i j C s
theorem Arr.size {p:Array Nat}(h:Arr n p):p.size=n:=by have:=h.length_eq;simpa using this
theorem Arr.lt {p:Array Nat}(h:Arr n p){i:Nat}(hi:i<n):p.getD i 0<n:=by
 have hs:=h.size
 have e:p.getD i 0=p[i]'(by lia):=by simp[Array.getD,hs,hi]
 refine aw e ?_
 exact ax.mp (h.mem_iff.mp (by simp))
theorem Arr.inj {p:Array Nat}(h:Arr n p){i j:Nat}(hi:i<n)(hj:j<n)(e:p.getD i 0=p.getD j 0):i=j:=by
 have hs:=h.size
 have nd:p.toList.Nodup:=h.nodup_iff.mpr cD
 have e1:p.getD i 0=p.toList[i]'(by simpa[hs]using hi):=by simp[Array.getD,hs,hi]
 have e2:p.getD j 0=p.toList[j]'(by simpa[hs]using hj):=by simp[Array.getD,hs,hj]
 exact(List.getElem_inj nd).mp (e1.symm.trans (e.trans e2))
theorem Asks.ne (K:Asks n c cmp s){p:Array Nat}(h:Arr n p){i j:Nat}(hi:i<n)(hj:j<n)(hij:i≠j):ky c p i≠ky c p j:=λe=>hij (h.inj hi hj (K.inj _ _ (h.lt hi) (h.lt hj) e))
theorem zv0 {p q:Array Nat}{i j:Nat}(e:p[i]?=q[j]?):ky c p i=ky c q j:=by
 unfold ky
 exact aw (aT) (aw (aT) (aw e rfl))
theorem zur (K:Asks n c cmp s){p:Array Nat}(hp:Arr n p){Q:Nat→Shared→Prop}:∀(f m:Nat),1≤m→m+f≤n→fO c p m→(∀m',m≤m'→m'≤m+f→fO c p m'→(m'=m+f∨ky c p m'<ky c p (m'-1))→Q m' s)→(kas_asc p f m).kasWp cmp Q s:=by
 intro f
 induction f with
 |zero=>exact λm h1 h2 ha k=>k m (aB _) (aB _) ha (.inl rfl)
 |succ f ih =>
  intro m h1 h2 ha k
  refine K.ask _ _ _ (hp.lt (by exact la15 h2)) (hp.lt (by exact la2 h2)) ?_
  by_cases hb:ky c p m<ky c p (m-1)
  ·refine aw (show decide (c (p.getD m 0)<c (p.getD (m-1) 0))=true from decide_eq_true hb) ?_
   exact k m (aB _) (by lia) ha (.inr hb)
  ·refine aw (show decide (c (p.getD m 0)<c (p.getD (m-1) 0))=false from decide_eq_false hb) ?_
   refine ih (m+1) (by lia) (by lia) (λi j hij hj=>?_) λm' h3 h4 h5 h6=>k m' (by lia) (by lia) h5 (by lia)
   by_cases hjm:j=m
   ·subst hjm
    have hne:=K.ne hp (i:=j) (j:=j-1) (by exact la15 h2) (by exact la2 h2) (by lia)
    by_cases hi:i=j-1
    ·subst hi;lia
    ·have:=ha i (j-1) (by exact la27 hij hi) (by exact la39 hij);exact la59 hb this
   ·exact ha i j hij (by exact ik hj hjm)
theorem zzl (K:Asks n c cmp s){p:Array Nat}(hp:Arr n p){Q:Array Nat×Nat×Nat→Shared→Prop}:∀(f m:Nat),1≤m→m+f≤n→Dsc c p m→(∀m',m≤m'→m'≤m+f→Dsc c p m'→Q (p,m',0) s)→(kas_desc f p m 0).kasWp cmp Q s:=by
 intro f
 induction f with
 |zero=>exact λm h1 h2 ha k=>k m (aB _) (aB _) ha
 |succ f ih =>
  intro m h1 h2 ha k
  refine K.ask _ _ _ (hp.lt (by exact la15 h2)) (hp.lt (by exact la2 h2)) ?_
  have hne:=K.ne hp (i:=m) (j:=m-1) (by exact la15 h2) (by exact la2 h2) (by lia)
  by_cases hb:ky c p m<ky c p (m-1)
  ·rw[show decide (c (p.getD m 0)<c (p.getD (m-1) 0))=true from decide_eq_true hb]
   refine ih (m+1) (by lia) (by lia) (λi j hij hj=>?_) λm' h3 h4 h5=>k m' (by lia) (by lia) h5
   by_cases hjm:j=m
   ·subst hjm
    by_cases hi:i=j-1
    ·subst hi;exact hb
    ·have:=ha i (j-1) (by exact la27 hij hi) (by exact la39 hij);exact la82 hb this
   ·exact ha i j hij (by exact ik hj hjm)
  ·refine aw (show decide (c (p.getD m 0)<c (p.getD (m-1) 0))=false from decide_eq_false hb) ?_
   refine K.ask _ _ _ (hp.lt (by exact la2 h2)) (hp.lt (by exact la15 h2)) ?_
   refine aw (show decide (c (p.getD (m-1) 0)<c (p.getD m 0))=true from decide_eq_true (show ky c p (m-1)<ky c p m by lia)) ?_
   exact k m (aB _) (by lia) ha
theorem z0t {p:Array Nat}(hp:Arr n p){m:Nat}(hm:m≤n)(hd:Dsc c p m):Arr n (kas_rev p 0 m)∧fO c (kas_rev p 0 m) m:=by
 have e:∀k,k<m→ky c (kas_rev p 0 m) k=ky c p (m-1-k):=λk hk=>zv0 (by
  have:=getElem?_mirror_all (i:=0) (xs:=p) (j:=m) (by refine aw hp.size ?_;exact hm) k
  rw[if_pos ⟨aU _,hk⟩]at this
  unfold kas_rev
  rw[this,Nat.zero_add])
 refine⟨(Array.perm_iff_toList_perm.mp (mirror_perm p 0 m _)).trans hp,λi j hij hj=>?_⟩
 simp only[e i (by lia),e j hj]
 exact hd _ _ (by exact la19 hij hj) (by lia)
theorem zu7 (K:Asks n c cmp s){p:Array Nat}(hp:Arr n p){Q:Nat×Array Nat→Shared→Prop}{m:Nat}(h1:1≤m)(hm:m≤n)(hd:Dsc c p m)(k:∀m' p',1≤m'→m'≤n→Arr n p'→fO c p' m'→Q (m',p') s):(kas_tail3 m n p).kasWp cmp Q s:=by
 unfold kas_tail3
 simp only[dG]
 have r:=z0t hp hm hd
 exact zur K r.1 (n-m) m h1 (by lia) r.2 λm' h2 h3 h4 u1=>k m' _ (by lia) (by lia) r.1 h4
theorem zuj (K:Asks n c cmp s){p:Array Nat}(hp:Arr n p){Q:Nat×Array Nat→Shared→Prop}(hn:1≤n)(k:∀m' p',1≤m'→m'≤n→Arr n p'→fO c p' m'→Q (m',p') s):(kas_count n p).kasWp cmp Q s:=by
 unfold kas_count
 simp only[dG]
 refine zur K hp (n-1) 1 (aB _) (by lia) (λi j hij hj=>by lia) λm h2 h3 h4 h5=>?_
 by_cases hmn:m=n
 ·refine aw (if_pos (by simpa using hmn)) ?_
  exact k m p h2 (by lia) hp h4
 ·refine aw (if_neg (by simpa using hmn)) ?_
  by_cases h1:m > 1
  ·rw[if_pos h1]
   refine K.ask _ _ _ (hp.lt (by lia)) (hp.lt (by lia)) ?_
   refine aw (show decide (c (p.getD 0 0)<c (p.getD (m-1) 0))=true from decide_eq_true (h4 0 (m-1) (by exact Nat.zero_lt_sub_of_lt h1) (by exact Nat.sub_one_lt_of_lt h2))) ?_
   exact k m p h2 (by lia) hp h4
  ·refine aw (if_neg h1) ?_
   have hm1:m=1:=by lia
   subst hm1
   unfold kas_descPart
   simp only[dG]
   have hb:ky c p 1<ky c p 0:=by rcases h5 with h5|h5;exact absurd h5 (by lia);exact h5
   refine zzl K hp (n-(1+1)) (1+1) (by lia) (by lia) (λi j hij hj=>?_) λm' h6 h7 h8=>?_
   ·have:i=0:=by lia
    have:j=1:=by lia
    subst_vars;exact hb
   ·refine aw (if_neg (by simp)) ?_
    show(kas_tail3 m' n p).kasWp cmp Q s
    have hn2:2≤n:=by lia
    have h7:m'≤1+1+(n-2):=h7
    exact zu7 K hp (by lia) (by lia) h8 k
theorem zsr (K:Asks n c cmp s){p:Array Nat}(hp:Arr n p){x:Nat}(hx:x<n){Q:Nat→Shared→Prop}:∀(f l r:Nat),r≤l+f→r≤x→l≤r→(∀i,i<l→ky c p i<ky c p x)→(∀i,r≤i→i<x→ky c p x<ky c p i) →
  (fO c p x)→(∀l',l'≤x→(∀i,i<l'→ky c p i<ky c p x)→(∀i,l'≤i→i<x→ky c p x<ky c p i)→Q l' s)→(kas_place p x f l r).kasWp cmp Q s:=by
 intro f
 induction f with
 |zero =>
  intro l r h1 h2 h3 h4 h5 ha k
  have:l=r:=by lia
  subst this
  exact k l h2 h4 h5
 |succ f ih =>
  intro l r h1 h2 h3 h4 h5 ha k
  unfold kas_place
  by_cases hlr:l≥r
  ·refine aw (if_pos hlr) ?_
   have:l=r:=by lia
   subst this
   exact k l h2 h4 h5
  ·refine aw (if_neg hlr) ?_
   refine K.ask _ _ _ (hp.lt hx) (hp.lt (by exact la30 hx h2 h3)) ?_
   by_cases hb:ky c p x<ky c p ((l+r)/2)
   ·rw[show decide (c (p.getD x 0)<c (p.getD ((l+r)/2) 0))=true from decide_eq_true hb]
    refine ih l _ (by lia) (by lia) (by exact la61 h3) h4 (λi hi hix=>?_) ha k
    by_cases hi2:i=(l+r)/2
    ·exact aw hi2 hb
    ·have:=ha ((l+r)/2) i (by lia) hix;exact la82 hb this
   ·refine aw (show decide (c (p.getD x 0)<c (p.getD ((l+r)/2) 0))=false from decide_eq_false hb) ?_
    have hne:=K.ne hp (i:=x) (j:=(l+r)/2) hx (by exact la30 hx h2 h3) (by lia)
    refine ih _ r (by lia) h2 (by lia) (λi hi=>?_) h5 ha k
    by_cases hi2:i=(l+r)/2
    ·refine aw hi2 ?_;lia
    ·have:=ha i ((l+r)/2) (by exact la42 hi hi2) (by lia);exact la59 hb this
theorem zzr (K:Asks n c cmp s){Q:Array Nat→Shared→Prop}:∀(f x:Nat) (p:Array Nat),Arr n p→1≤x→x+f=n→fO c p x→(∀p',Arr n p'→fO c p' n→Q p' s)→(kas_bin f p x).kasWp cmp Q s:=by
 intro f
 induction f with
 | zero => exact fun x p hp h1 h2 ha k => by have : x = n := by lia
                                             subst this;exact k p hp ha
 |succ f ih =>
   intro x p hp h1 h2 ha k
   show((kas_place p x x 0 x).bind λl=>kas_bin f (bubble p x (x-l)) (x+1)).kasWp cmp Q s
   simp only[dG]
   refine zsr K hp (x:=x) (by exact la41 h2) x 0 x (by lia) (aB _) (aU _) (λi hi=>absurd hi (aW _)) (λi hi hix=>absurd hix (by lia)) ha λl hl h3 h4=>?_
   have e:∀i,ky c (bubble p x (x-l)) i=if i=l then ky c p x else if l<i∧i≤x then ky c p (i-1)else ky c p i:=λi=>by
     have:=getElem?_bubble (xs:=p) (src:=x) (by refine aw hp.size ?_;exact la41 h2) (x-l) (by exact z2p) i
     have hxl:x-(x-l)=l:=by exact Nat.sub_sub_self hl
     rw[hxl]at this
     by_cases c1:i=l
     · rw[if_pos c1]at this ⊢;exact zv0 this
     · rw [if_neg c1] at this ⊢
       by_cases c2:l<i∧i≤x
       · rw[if_pos c2]at this ⊢;exact zv0 this
       · rw[if_neg c2]at this ⊢;exact zv0 this
   refine ih (x+1) _ ((Array.perm_iff_toList_perm.mp (bubble_perm p x _)).trans hp) (by lia) (by lia) (λi j hij hj=>?_) k
   refine aw (e i) (aw (e j) ?_)
   by_cases ci:i=l
   · refine aw (if_pos ci) (aw (if_neg (by lia)) (aw (if_pos (by lia)) ?_))
     exact h4 _ (by lia) (by exact la6 h1 hj)
   · refine aw (if_neg ci) ?_
     by_cases cj:j=l
     · refine aw (if_pos cj) (aw (if_neg (by lia)) ?_)
       exact h3 _ (by exact la31 hij cj)
     · refine aw (if_neg cj) ?_
       by_cases c2:l<i∧i≤x
       · refine aw (if_pos c2) (aw (if_pos (by lia)) ?_)
         exact ha _ _ (by exact la36 hij c2) (by exact la6 h1 hj)
       · refine aw (if_neg c2) ?_
         by_cases c3:l<j∧j≤x
         · rw [if_pos c3]
           exact ha _ _ (by lia) (by exact la6 h1 hj)
         · refine aw (if_neg c3) ?_
           exact ha _ _ (by exact z08 hij) (by lia)
theorem zoe (K:Asks n c cmp s)(hn:1≤n){Q:Array Nat→Shared→Prop}(k:∀p',Arr n p'→fO c p' n→Q p' s):(kas_sort n).kasWp cmp Q s:=by
 unfold kas_sort
 simp only[dG]
 refine zuj K (p:=List.toArray (List.range n)) (by unfold Arr;simp) hn λm p h1 h2 hp ha=>?_
 by_cases hmn:m<n
 ·rw[if_pos hmn]
  refine aw (Nat.max_eq_left h1) ?_
  exact zzr K (n-m) m p hp h1 (by lia) ha k
 ·refine aw (if_neg hmn) ?_
  have:m=n:=by lia
  subst this
  exact k p hp ha
end
end Mine.Internal
end
section
namespace Mine.Internal
open PySem PyProof.Rows PySem.W PySem.SeqAt
section
variable {C:Cx}{n:Nat}{Γ:cA}{env:Env}{W:Wd}{A:Around}{s:Shared}{st:St}{KK:Frag}
noncomputable def zzu (prog:Program)(w:World)(A:Around)(h:Heap)(a:Addr)(vs:List Value)(c:Nat→Int):Prop :=
 ∀(s':Shared) (Q:SortKind→Shared→Prop),(∀b o,b≠a→h.get? b=some o→s'.heap.get? b=some o)→(∀κ,Asks vs.length c (kas_ask prog w A κ vs) s'→Q κ s')→wpAny (model prog w) A (keyKind' vs.toArray) Q (λu1 u2=>False) s'
theorem zsg {prog:Program}{w:World}{E:Value→Shared→Prop}{a:Addr}{vs:List Value}{m:Nat}{c:Nat→Int}{P:PySem.Fin→Shared→Prop}(ho:s.heap.get? a=some (seqObj "list" vs.toArray m)) (h64:vs.length<64) (hs:2≤vs.length→zzu prog w A s.heap a vs c)
  (h:∀(p:Array Nat) h' k,Arr vs.length p→fO c p vs.length→(∀b o,b≠a→s.heap.get? b=some o→h'.get? b=some o)→h'.get? a=some (seqObj "list" (List.toArray (p.toList.map λi=>vs.getD i .none)) k)→P (.done (.ret .none)) { s with heap:=h' }) :
  wpAny (model prog w) A (Builtin.«list.sort» ⟨[.ref a],[]⟩) P E s:=by
 have ha:a<s.heap.objs.size:=aR ho
 have s1:=aM s.heap a (Obj.mapSeq λu1=>(#[]:Array Value))
 obtain⟨e1,ho1⟩:∃e1,(s.heap.update a (Obj.mapSeq λu1=>(#[]:Array Value))).get? a=some (seqObj "list" #[] e1):=⟨_,c9 ho λu1=>#[]⟩
 have keep:∀b o,b≠a→s.heap.get? b=some o→(((s.heap.update a (Obj.mapSeq λu1=>(#[]:Array Value))).push (seqObj "tuple" vs.toArray 0)).push (seqObj "list" #[] 0)).get? b=some o:=λb o hb e =>
  al _ (al _ ((s1.2 b hb).trans e))
 have ho6:=al (o:=seqObj "list" #[] 0) (al (o:=seqObj "tuple" vs.toArray 0) ho1)
 have fin:∀(out:List Value) (p:Array Nat),Arr vs.length p→fO c p vs.length→out=p.toList.map (λi=>vs.getD i .none)→∀k,((((s.heap.update a (Obj.mapSeq λu1=>(#[]:Array Value))).push (seqObj "tuple" vs.toArray 0)).push (seqObj "list" #[] 0)).update a (Obj.mapSeq λu1=>out.toArray)).get? a=some (seqObj "list" out.toArray k) →
   P (.done (.ret .none)) { s with heap:=((((s.heap.update a (Obj.mapSeq λu1=>(#[]:Array Value))).push (seqObj "tuple" vs.toArray 0)).push (seqObj "list" #[] 0)).update a (Obj.mapSeq λu1=>out.toArray)) }:=λout p h1 h2 e k hk=>by
  subst e
  exact h p _ k h1 h2 (λb o hb e=>((aM _ a (Obj.mapSeq λu1=>_)).2 b hb).trans (keep b o hb e)) hk
 rw[list_sort_plain]
 refine aa (fM ho rfl ?_)
 refine aa (dL ho rfl ?_ (by rw[b4,bZ];exact jc h64) (aU _))
 refine aa (eg ho1 rfl ?_)
 refine aa (d3 ?_ (by show vs.length≤_;rw[bZ];exact jc h64))
 refine aa (dK ?_ (aU _))
 refine aV ?_
 show wpAny (model prog w) A _ P E { s with heap:=((s.heap.update a (Obj.mapSeq λu1=>(#[]:Array Value))).push (seqObj "tuple" vs.toArray 0)).push (seqObj "list" #[] 0) }
 dsimp only
 by_cases hn2:vs.toArray.size<2
 ·have hl:vs.length<2:=by simpa using hn2
  rw[if_pos hn2,if_pos hn2]
  refine aa (ai ?_)
  rw[StateT.run_pure]
  refine aa (ai ?_)
  dsimp only
  have hout:(arrOf (SortSt.mk' general' (vs.toArray.zip vs.toArray) #[] 7 none)).map (λx=>x.2)=vs.toArray:=by
   show(vs.toArray.zip vs.toArray).map (λx=>x.2)=vs.toArray
   apply cC.mp
   rw[d6,d5]
   exact List.map_snd_zip (aB _)
  rw[hout]
  refine aa (eg ho6 rfl ?_)
  refine aa (dL ho6 rfl ?_ (aU _) (by rw[b4,bZ];exact la47 h64))
  simp only[bne_self_eq_false,bS,if_false]
  have hp:vs=(List.toArray (List.range vs.length)).toList.map (λi=>vs.getD i .none):=by
   apply cQ
   intro i
   simp
   by_cases hi:i<vs.length
   ·simp[hi]
   ·simp[hi,cq hi]
  exact ai (fin vs (List.toArray (List.range vs.length)) (by unfold Arr;simp) (λi j hij hj=>by lia) hp _ (c9 ho6 λu1=>vs.toArray))
 ·have h2:2≤vs.length:=by simp at hn2;lia
  rw[if_neg hn2,if_neg hn2]
  refine aa (bm (hs h2 { s with heap:=((s.heap.update a (Obj.mapSeq λu1=>(#[]:Array Value))).push (seqObj "tuple" vs.toArray 0)).push (seqObj "list" #[] 0) } (λκ s'=>s'={ s with heap:=((s.heap.update a (Obj.mapSeq λu1=>(#[]:Array Value))).push (seqObj "tuple" vs.toArray 0)).push (seqObj "list" #[] 0) }∧Asks vs.length c (kas_ask prog w A κ vs) s') keep λκ hκ=>⟨rfl,hκ⟩) (λκ s' hκ=>?_) λu1 u2 x=>x.elim)
  obtain⟨rfl,hκ⟩:=hκ
  have est:SortSt.mk' κ (vs.toArray.zip vs.toArray) #[] 7 none=kas_st κ (pairsOf vs) (List.toArray (List.range vs.length)):=by
   have e:=kas_range (pairsOf vs)
   rw[pairsOf_size]at e
   show SortSt.mk' κ (pairsOf vs) #[] 7 none=SortSt.mk' κ ((List.toArray (List.range vs.length)).map (kas_item (pairsOf vs))) #[] 7 none
   rw[e]
  rw[kas_ask_eq]at hκ
  have run:=kas_runs (E:=E) (Q:=λu1 st' s'=>∃p:Array Nat,Arr vs.length p∧fO c p vs.length∧arrOf st'=p.map (kas_item (pairsOf vs))∧failedOf st'=none∧s'={ s with heap:=((s.heap.update a (Obj.mapSeq λu1=>(#[]:Array Value))).push (seqObj "tuple" vs.toArray 0)).push (seqObj "list" #[] 0) })
   (G:=λp s'=>(Arr vs.length p∧fO c p vs.length)∧s'={ s with heap:=((s.heap.update a (Obj.mapSeq λu1=>(#[]:Array Value))).push (seqObj "tuple" vs.toArray 0)).push (seqObj "list" #[] 0) }) h2 h64 (λp' st' s' a1 a2 a3 a4=>⟨p',a4.1.1,a4.1.2,a2,a3,a4.2⟩) (zoe hκ (by lia) λp h1 h2=>⟨⟨h1,h2⟩,rfl⟩)
  rw[←est]at run
  refine aa (bm run ?_ λu1 u2 e=>e)
  rintro⟨⟨⟩,st'⟩ s' ⟨p,hp,hasc,har,hf,rfl⟩
  dsimp only
  have hout:(arrOf st').map (λx=>x.2)=List.toArray (p.toList.map λi=>vs.getD i Value.none):=by
   apply cC.mp
   rw[har,Array.map_map,d6]
   exact aS λi u1=>by show(kas_item (pairsOf vs) i).2=_;rw[kas_item_eq]
  rw[hout]
  refine aa (eg ho6 rfl ?_)
  refine aa (dL ho6 rfl ?_ (aU _) (by rw[b4,ae,aA,hp.size,bZ];exact la47 h64))
  rw[hf]
  simp only[bne_self_eq_false,bS,if_false]
  exact ai (fin _ p hp hasc rfl _ (c9 ho6 λu1=>_))
end
end Mine.Internal
end
section
namespace Mine.Internal
open PySem PyProof.Rows PySem.W PySem.SeqAt
noncomputable def ltIs:List Int→List Int→Bool
 | [],ys=>!ys.isEmpty
 |_::_,[]=>false
 |x::xs,y::ys=>if x=y then ltIs xs ys else decide (x<y)
theorem zex:∀(a b:List Int),ltIs a b=true→ltIs b a=false
 | [],[],h=>by exact ft h
 | [],_::_,_=>rfl
 |_::_,[],h=>by exact ft h
 |x::xs,y::ys,h=>by
  unfold ltIs at h ⊢
  by_cases e:x=y
  ·rw[if_pos e]at h;rw[if_pos e.symm];exact zex xs ys h
  ·rw[if_neg e,decide_eq_true_eq]at h;rw[if_neg (cG e),decide_eq_false_iff_not];lia
theorem zhg {κ:Type}{lt:κ→κ→Bool}(hs:∀a b,lt a b=true→lt b a=false){l m:List κ}(h1:l.Pairwise λa b=>lt a b=true)(h2:m.Pairwise λa b=>lt a b=true)(hp:l.Perm m):l=m :=
 hp.eq_of_pairwise (λa b u1 u2 h h'=>absurd h' (by refine aw (hs a b h) ?_;decide)) h1 h2
section
variable {κ:Type}[DecidableEq κ][Inhabited κ]{lt:κ→κ→Bool}{ks ys:List κ}
noncomputable def f8 (ys ks:List κ)(i:Nat):Int:=(ys.idxOf (ks.getD i default):Nat)
theorem zk6 (hs:∀a b,lt a b=true→lt b a=false)(hy:ys.Pairwise λa b=>lt a b=true){a b:κ}(ha:a∈ys)(hb:b∈ys):decide (((ys.idxOf a:Nat):Int)<((ys.idxOf b:Nat):Int))=lt a b:=by
 have la:=bX ha
 have lb:=bX hb
 have ea:=c6 la
 have eb:=c6 lb
 rw[List.pairwise_iff_getElem]at hy
 rcases cf (ys.idxOf a) (ys.idxOf b)with h|h|h
 ·have:=hy _ _ la lb h
  rw[ea,eb]at this
  exact aw this (decide_eq_true (by lia))
 ·have e:a=b:=by refine dI ea (dI eb ?_);congr
  subst e
  refine aw (decide_eq_false (by lia)) ?_
  cases hl:lt a a with
  |false=>rfl
  |true=>rw[hs a a hl]at hl;exact ft hl
 ·have:=hy _ _ lb la h
  rw[ea,eb]at this
  simp only[hs _ _ this];exact decide_eq_false (by lia)
theorem zna (hs:∀a b,lt a b=true→lt b a=false)(hy:ys.Pairwise λa b=>lt a b=true)(hp:ys.Perm ks){p:Array Nat}(h1:Arr ks.length p)(h2:fO (f8 ys ks) p ks.length):p.toList.map (λi=>ks.getD i default)=ys:=by
 refine zhg hs ?_ hy ?_
 ·rw[List.pairwise_iff_getElem]
  intro i j hi hj hij
  simp only[ae,aA,h1.size]at hi hj
  have:=h2 i j hij hj
  have g:∀k,k<ks.length→p.getD k 0<ks.length:=λk hk=>h1.lt hk
  have m:∀k,k<ks.length→ks.getD k default∈ys:=λk hk=>hp.mem_iff.mpr (by refine aw (av) (aw (an hk) ?_);exact cc hk)
  unfold ky f8 at this
  have r:=zk6 hs hy (m _ (g i hi)) (m _ (g j hj))
  rw[decide_eq_true this]at r
  simp only[List.getElem_map,Array.getElem_toList]
  have e:∀k (hk:k<p.size),p.getD k 0=p[k]:=λk hk=>by simp[Array.getD,hk]
  refine dI (e i (by rw[h1.size];exact hi)) (dI (e j (by rw[h1.size];exact hj)) ?_)
  exact r.symm
 ·have:ks=(List.range ks.length).map λi=>ks.getD i default:=by
   apply cQ
   intro i
   by_cases hi:i<ks.length
   ·simp[hi]
   ·simp[hi,cq hi]
  refine((List.Perm.map _ h1).trans ?_).trans hp.symm
  rw[←this]
end
section
variable {C:Cx}{n:Nat}{Γ:cA}{env:Env}{W:Wd}{A:Around}{s:Shared}{st:St}
noncomputable def iS (prog:Program)(w:World)(A:Around)(h:Heap)(vs:List Value)(c:Nat→Int):Prop :=
 ∀(s':Shared) (Q:SortKind→Shared→Prop),(∀b o,h.get? b=some o→s'.heap.get? b=some o)→(∀κ,Asks vs.length c (kas_ask prog w A κ vs) s'→Q κ s')→wpAny (model prog w) A (keyKind' vs.toArray) Q (λu1 u2=>False) s'
theorem zsd {prog:Program}{w:World}{E:Value→Shared→Prop}{l:Addr}{T:String}{items:Array Value}{m:Nat}{c:Nat→Int}{Q:Value→Shared→Prop}(hT:T = "list" ∨ T = "tuple") (ho:s.heap.get? l=some { cls:=.type T,data:=.seq items m }) (h64:items.size<64)
  (hs:2≤items.size→iS prog w A.in1.in1 s.heap items.toList c)
  (h:∀(p:Array Nat) h' a k,Arr items.size p→fO c p items.size→s.heap.get? a=none→(∀g x,s.heap.get? g=some x→g<a)→(∀b o,s.heap.get? b=some o→h'.get? b=some o)→h'.get? a=some { cls:=.type "list", data:=.seq (List.toArray (p.toList.map λi=>items.toList.getD i .none)) k }→Q (.ref a) { s with heap:=h' }) :
  wpAny (model prog w) A (call (.builtin "sorted") [.ref l]) Q E s:=by
 refine cY kind_sorted plain_sorted entry_sorted (args_sorted1 _) ?_
 unfold Builtin.«sorted»
 refine aa (m:=checkCount "sorted" 1 1 _) (ai ?_)
 refine aa (wpAny_collect_seq l hT ho rfl rfl (λh1 hk1=>?_) (by refine aw bZ ?_;exact jc h64))
 refine aa (dK ?_ (by simp only[aA,bZ];exact jc h64))
 have hoL:(h1.push (seqObj "list" items.toList.toArray 0)).get? h1.objs.size=some (seqObj "list" items.toList.toArray 0):=aF _ rfl
 have hne:∀b o,s.heap.get? b=some o→b≠h1.objs.size:=λb o e=>aL (aR (hk1 b o e))
 refine aa (aV (bx slot_list_sort ⟨_,hoL,rfl⟩ entry_list_sort (zsg (s:={ s with heap:=h1.push (seqObj "list" items.toList.toArray 0) }) (c:=c) hoL (by simp only[aA];exact h64) (λh2 s' Q' hk hq=>?_) (λp h' k a1 a2 a3 a4=>?_)) (args_list_sort _)))
 ·rw[aA]at h2
  exact hs h2 s' Q' (λb o e=>hk b o (hne b o e) (al _ (hk1 b o e))) hq
 ·rw[aA]at a1 a2
  exact⟨_,rfl,ai ⟨_,rfl,h p h' _ k a1 a2 (by cases e:s.heap.get? h1.objs.size with|none=>rfl|some o=>exact absurd rfl (hne _ _ e)) (λg x e=>aR (hk1 g x e)) (λb o e=>a3 b o (hne b o e) (al _ (hk1 b o e))) a4⟩⟩
open Classical in
noncomputable def hY {κ:Type}(em:κ→AV)(lt:κ→κ→Bool)(ks:List κ):Option (List AV) :=
 if h:∃ys:List κ,ys.Perm ks∧ys.Pairwise (λa b=>lt a b=true)then some (h.choose.map em)else none
theorem zm0 {κ:Type}{em:κ→AV}{lt:κ→κ→Bool}{ks:List κ}{out:List AV}{G:Prop}(e:hY em lt ks=some out)(k:∀ys:List κ,ys.Perm ks→ys.Pairwise (λa b=>lt a b=true)→out=ys.map em→G):G:=by
 unfold hY at e
 split at e
 ·rename_i h
  obtain rfl:=sj e
  exact k _ h.choose_spec.1 h.choose_spec.2 rfl
 ·exact ns e
theorem zhh {κ:Type}{em:κ→AV}{lt:κ→κ→Bool}{ks ys:List κ}(hs:∀a b,lt a b=true→lt b a=false)(hp:ys.Perm ks)(hy:ys.Pairwise (λa b=>lt a b=true)):hY em lt ks=some (ys.map em):=by
 unfold hY
 have h:∃ys:List κ,ys.Perm ks∧ys.Pairwise (λa b=>lt a b=true):=⟨ys,hp,hy⟩
 exact aw (dif_pos h) (aw (zhg hs h.choose_spec.2 hy (h.choose_spec.1.trans hp.symm)) rfl)
theorem zjn {κ:Type}[DecidableEq κ][Inhabited κ]{lt:κ→κ→Bool}{ks ys:List κ}(hs:∀a b,lt a b=true→lt b a=false)(hy:ys.Pairwise λa b=>lt a b=true)(hp:ys.Perm ks){i j:Nat}(hi:i<ks.length)(hj:j<ks.length)(e:f8 ys ks i=f8 ys ks j):i=j:=by
 have nd:ks.Nodup:=hp.nodup_iff.mp (hy.imp λ{a b} h q=>by subst q;rw[hs a a h]at h;exact ft h)
 have m:∀k (hk:k<ks.length),ks.getD k default=ks[k]:=λk hk=>by refine aw (av) (aw (an hk) ?_);rfl
 unfold f8 at e
 rw[m i hi,m j hj]at e
 have e:ys.idxOf ks[i]=ys.idxOf ks[j]:=by lia
 have a:=c6 (bX (hp.mem_iff.mpr (cc hi)))
 have b:=c6 (bX (hp.mem_iff.mpr (cc hj)))
 refine(List.getElem_inj nd).mp (a.symm.trans (Eq.trans ?_ b))
 congr
theorem VRs.take {vs:List AV}{ws:List Value}(h:VRs W vs ws):∀(l:List Nat),(∀i∈l,i<vs.length)→VRs W (l.map λi=>vs.getD i .none) (l.map λi=>ws.getD i .none):=by
 intro l
 induction l with
 |nil=>exact λu1=>.nil
 |cons i l ih =>
  intro hl
  have hi:=hl i aj
  refine am (h.get (an hi)) λv q=>?_
  refine .cons ?_ (ih λj hj=>hl j (af _ hj))
  show VR W (vs.getD i .none) (ws.getD i .none)
  refine aw (av) (aw (av) (aw (an hi) (aw q.1 ?_)))
  exact q.2
theorem zio {κ:Type}[DecidableEq κ][Inhabited κ]{em:κ→AV}{lt:κ→κ→Bool}{ks:List κ}{out:List AV}{l:Addr}{T:String}{items:Array Value}{m:Nat}(hs:∀a b,lt a b=true→lt b a=false)(I:Inv C Γ env W st s.heap)(hT:T = "list" ∨ T = "tuple")
  (ho:s.heap.get? l=some { cls:=.type T,data:=.seq items m }) (hv:VRs W (ks.map em) items.toList) (h64:ks.length<64) (e:hY em lt ks=some out)
  (hask:∀ys:List κ,ys.Perm ks→ys.Pairwise (λa b=>lt a b=true)→2≤items.size→iS C.prog C.w A.in1.in1 s.heap items.toList (f8 ys ks)):Run C Γ env W A s (call (.builtin "sorted") [.ref l]) (some (.obj st.σ.length,⟨st.θ,st.σ++[.list out]⟩)) VR:=by
 have hlen:ks.length=items.size:=by have:=hv.length;simpa using this
 refine zm0 e λys hp hy ho'=>.mk1 λQ E hq=>zsd hT ho (by exact z09 h64 hlen) (hask ys hp hy) λp h' a k a1 a2 a3 a4 a5 a6=>hq.newAt I a5 a3 ?_ ⟨_,_,a6,?_⟩ s.toks
 ·(refine x3a2 I.rel.ok.g λo u1 u2 ho u3=>?_)
  exact a4 _ _ (I.rel.old _ _ ho)
 ·subst ho'
  rw[←hlen]at a1 a2
  have ey:=zna hs hy hp a1 a2
  have:=(hv.take p.toList λi hi=>by simp only[ae];exact ax.mp (a1.mem_iff.mp hi)).mono (.app (W:=W) [a])
  have e2:p.toList.map (λi=>(ks.map em).getD i .none)=ys.map em:=by
   refine dI ey (aw be ?_)
   refine aS λi hi=>?_
   have hi':i<ks.length:=ax.mp (a1.mem_iff.mp hi)
   simp[hi',List.getD]
  rw[e2]at this
  exact this
theorem ztq {vs:List Value}{ns:List Int}(h:IntsAre vs ns){i:Nat}(hi:i<ns.length):∃t,vs.getD i .none=.int (ns.getD i default) t:=by
 induction h generalizing i with
 |nil=>exact absurd hi (aW _)
 |cons x t h ih =>
  cases i with
  |zero=>exact⟨t,rfl⟩
  |succ i=>exact ih (dg hi)
theorem zdx {vs:List Value}{ns:List Int}(h:IntsAre vs ns):vs.length=ns.length:=by
 induction h with
 |nil=>rfl
 |cons x t h ih=>simp[ih]
theorem i6 {κ:Type}[Inhabited κ]{ks ys:List κ}(hp:ys.Perm ks){i:Nat}(hi:i<ks.length):ks.getD i default∈ys:=hp.mem_iff.mpr (by refine aw (av) (aw (an hi) ?_);exact cc hi)
noncomputable def ja (a b:Int):Bool:=decide (a<b)
theorem zdc (a b:Int)(h:ja a b=true):ja b a=false:=by unfold ja at *;rw[decide_eq_true_eq]at h;rw[decide_eq_false_iff_not];lia
theorem zlp {prog:Program}{w:World}{A:Around}{h:Heap}{vs:List Value}{ns ys:List Int}(hI:IntsAre vs ns)(h2:2≤vs.length)(hp:ys.Perm ns)(hy:ys.Pairwise λa b=>ja a b=true):iS prog w A h vs (f8 ys ns):=λs' Q hk hq =>
 kas_kind h2 (T:=.type "int") (λv hv=>by(refine x2a1 (hI.all v hv) λx t z2=>?_;subst z2);exact dp rfl) rfl rfl (hq _ ⟨λi j hi hj e=>zjn zdc hy hp ((zdx hI)▸hi) ((zdx hI)▸hj) e,λi j C hi hj hC=>by
  obtain⟨t,e1⟩:=ztq hI ((zdx hI)▸hi)
  obtain⟨u,e2⟩:=ztq hI ((zdx hI)▸hj)
  unfold kas_ask
  refine aw e1 (aw e2 ?_)
  refine kat_lt_int ?_
  have:=zk6 zdc hy (i6 hp ((zdx hI)▸hi)) (i6 hp ((zdx hI)▸hj))
  unfold f8 at hC
  rw[this]at hC
  exact hC⟩)
noncomputable def zr3:List AV→Option (List (List Int))
 | []=>some []
 |a::r=>(a.tup?.bind hX).bind λx=>(zr3 r).map λl=>x::l
noncomputable def tupI (l:List Int):AV:=.tup (l.map .int)
inductive TupsAre (h:Heap):List Value→List (List Int)→Prop
 |nil:TupsAre h [] []
 |cons {a:Addr} {items:Array Value} {m:Nat} {x:List Int} {vs:List Value} {l:List (List Int)}:h.get? a=some { cls:=.type "tuple", data:=.seq items m }→IntsAre items.toList x→TupsAre h vs l→TupsAre h (.ref a::vs) (x::l)
theorem TupsAre.keeps {h h':Heap}(hk:∀b o,h.get? b=some o→h'.get? b=some o){vs:List Value}{ls:List (List Int)}(t:TupsAre h vs ls):TupsAre h' vs ls:=by
 induction t with
 |nil=>exact .nil
 |cons a b _ ih=>exact .cons (hk _ _ a) b ih
theorem TupsAre.len {h:Heap}{vs:List Value}{ls:List (List Int)}(t:TupsAre h vs ls):vs.length=ls.length:=by
 induction t with
 |nil=>rfl
 |cons a b _ ih=>simp[ih]
theorem zi1:∀(l:List AV) (ns:List Int),hX l=some ns→l=ns.map .int:=λl=>by
 induction l with
 |nil=>intro ns e;obtain rfl:=sj e;rfl
 |cons a r ih =>
  intro ns e
  refine bindE e λx hx e=>mapE e λl e1=>?_
  cases a<;>cases hx
  exact aw aN (dI (ih l e1) rfl)
theorem zkx {σ:List AO}{h:Heap}(R:Rel C W σ h){l:List AV}:∀{vs:List Value} {ls:List (List Int)},zr3 l=some ls→VRs W l vs→TupsAre h vs ls∧l=ls.map tupI:=by
 induction l with
 |nil=>exact λ{vs ls} e hv=>hv.nilE (eH e ⟨.nil,rfl⟩)
 |cons a r ih =>
  intro vs ls e hv
  refine hv.consE λv vs h hr=>bindE e λx hx e=>mapE e λl e1=>bindE hx λws hw hx=>?_
  have q:=ih e1 hr
  have e:a=tupI x:=by cases a<;>cases hw;simp only[tupI,←zi1 _ _ hx]
  refine⟨tupE (P:=λv=>TupsAre _ (v::vs) (x::l)) R h hw λl items m hl hvs u1=>.cons hl (zbx hx hvs) q.1,?_⟩
  exact aw aN (dI q.2 (aw e rfl))
theorem zsy {prog:Program}{w:World}{A:Around}{E:Value→Shared→Prop}{c:Bool}{x y:Int}{t u:Tok}{Q:Bool→Shared→Prop}(h:Q (decide (x<y)) s):wpAny (model prog w) A (oneLt' c (.int x t) (.int y u)) Q E s:=by
 cases c with
 |true=>exact oneLt_int h
 |false=>exact kat_one _ _ (lt_int h)
theorem zvw {prog:Program}{w:World}{A:Around}{b fin:Bool}{Q:Bool→Shared→Prop}{xs:List Value}{ns:List Int}(h1:IntsAre xs ns):∀{ys:List Value} {ms:List Int} (i:Nat),IntsAre ys ms→fin=decide (xs.length<ys.length)→Q (ltIs ns ms) s→KatLex prog w A b fin Q (xs.zip ys) i s:=by
 induction h1 with
 |nil =>
  intro ys ms i h2 hf hq
  simp only[List.zip_nil_left]
  refine kat_nil ?_
  subst hf
  cases h2 with
  |nil=>exact hq
  |cons _ _ _=>exact hq
 |cons x t h1 ih =>
  intro ys ms i h2 hf hq
  cases h2 with
  |nil =>
   refine aw List.zip_nil_right ?_
   subst hf
   exact kat_nil (by exact hq)
  |cons y u h2 =>
   simp only[List.zip_cons_cons]
   refine kat_cons (EqAt.int_int x t y u prog w _ _ ?_)
   unfold ltIs at hq
   by_cases e:x=y
   ·rw[if_pos e]at hq
    refine aw (beq_iff_eq.mpr e) ?_
    exact kat_yes (ih _ h2 (by simpa using hf) hq)
   ·rw[if_neg e]at hq
    refine aw (beq_eq_false_iff_ne.mpr e) ?_
    exact kat_no (zsy hq)
theorem TupsAre.at {h:Heap}{vs:List Value}{ls:List (List Int)}(t:TupsAre h vs ls){i:Nat}(hi:i<ls.length):∃a items m,vs.getD i .none=.ref a∧h.get? a=some { cls:=.type "tuple", data:=.seq items m }∧IntsAre items.toList (ls.getD i default):=by
 induction t generalizing i with
 |nil=>exact absurd hi (aW _)
 |cons a b _ ih =>
  cases i with
  |zero=>exact⟨_,_,_,rfl,a,b⟩
  |succ i=>exact ih (dg hi)
theorem TupsAre.firsts {h:Heap}{vs:List Value}{ls:List (List Int)}(t:TupsAre h vs ls)(hne:ls.all (λl=>!l.isEmpty)=true):∃fs,KatTups h vs fs∧fs.length=ls.length∧∀f∈fs,∃x u,f=.int x u:=by
 induction t with
 |nil=>exact⟨[],.nil,rfl,λu1 h=>nomatch h⟩
 | @cons a items m x vs l ha hx _ ih =>
  rw[dX,aq]at hne
  (refine x1a3 (ih hne.2) λfs h1 h2 h3=>?_)
  cases hi:items.toList with
  |nil=>rw[hi]at hx;cases hx;exact ft hne.1
  |cons v r =>
   rw[hi]at hx
   cases hx with
   |cons n t hx =>
    refine⟨.int n t::fs,.cons ha rfl rfl ?_ h1,by simp[h2],λf hf=>?_⟩
    ·refine dI (ba) (aw hi ?_);rfl
    ·rcases au.mp hf with rfl|hf
     ·exact⟨_,_,rfl⟩
     ·exact h3 f hf
theorem zr2 {prog:Program}{w:World}{A:Around}{h:Heap}{vs:List Value}{ls ys:List (List Int)}(hI:TupsAre h vs ls)(hne:ls.all (λl=>!l.isEmpty)=true)(h2:2≤vs.length)(hp:ys.Perm ls)(hy:ys.Pairwise λa b=>ltIs a b=true):iS prog w A h vs (f8 ys ls):=λs' Q hk hq=>by
 have hI':=hI.keeps hk
 (refine x1a3 (hI'.firsts hne) λfs g1 g2 g3=>?_)
 have hl:=hI.len
 refine kat_kind (T:=.type "int") g1 (by lia) (λv hv=>by(refine x2a1 (g3 v hv) λx t z2=>?_;subst z2);exact dp rfl) rfl (hq _ ⟨λi j hi hj e=>zjn zex hy hp (hl▸hi) (hl▸hj) e,λi j C hi hj hC=>?_⟩)
 (refine x3a3 (hI'.at (hl▸hi)) λa items m e1 o1 i1=>?_)
 (refine x3a3 (hI'.at (hl▸hj)) λa2 items2 m2 e2 o2 i2=>?_)
 unfold kas_ask
 refine aw e1 (aw e2 ?_)
 refine kat_lt o1 rfl o2 rfl (zvw i1 0 i2 (rfl) ?_)
 have:=zk6 zex hy (i6 hp (hl▸hi)) (i6 hp (hl▸hj))
 unfold f8 at hC
 rw[this]at hC
 exact hC
noncomputable def z1g (vs:List AV):Option (List AV):=(hX vs).bind λns=>hY .int ja ns
noncomputable def z2e (vs:List AV):Option (List AV):=(zr3 vs).bind λls=>if ls.all (λl=>!l.isEmpty)=true then hY tupI ltIs ls else none
noncomputable def zsf (a:AV):K AV:=λst=>(zm8 st a).bind λvs=>if vs.length<64 then(iu (z1g vs) (z2e vs)).bind λout=>some (.obj st.σ.length,⟨st.θ,st.σ++[.list out]⟩)else none
noncomputable def zse:List AV→K AV:=λargs st=>(one? args).bind λa=>zsf a st
theorem Cal.sorted:Cal C n Γ (.builtin "sorted") zse:=.one (F:=zsf) λA env W st s a v ok I hv=>.obind λvs e=>seqE (P:=λv=>Run C Γ env W A s (call (.builtin "sorted") [v]) _ VR) I.rel hv e λl T items m hT ho hr hlen=>by
 by_cases h64:vs.length<64
 ·refine aw (if_pos h64) ?_
  refine .obind λout eo=>zfo eo (λeo=>?_) λeo=>?_
  ·refine bindE eo λns en eo2=>?_
   have hI:=zbx en hr
   have em:=zi1 _ _ en
   subst em
   exact zio zdc I hT ho hr (by simpa using h64) eo2 λys hp hy h2=>zlp hI (by exact h2) hp hy
  ·refine bindE eo λls el eo2=>im eo2 λhne eo3=>?_
   have X:=zkx I.rel el hr
   have em:=X.2
   subst em
   exact zio zex I hT ho hr (by simpa using h64) eo3 λys hp hy h2=>zr2 X.1 hne (by exact h2) hp hy
 ·refine aw (if_neg h64) ?_
  exact .stuck
end
end Mine.Internal
end
section
namespace Mine.Internal
open PySem PyProof.Rows PySem.W PySem.SeqAt
theorem zkm {α:Type}(l:List α):l.zip l=l.map λx=>(x,x):=by
 induction l with
 |nil=>rfl
 |cons a l ih=>exact aw List.zip_cons_cons (aw ih rfl)
theorem zsv (vs:List Value):(vs.toArray.zip vs.toArray).reverse=pairsOf vs.reverse:=by
 apply cC.mp
 show(vs.toArray.zip vs.toArray).reverse.toList=(vs.reverse.toArray.zip vs.reverse.toArray).toList
 refine aw dz (aw d5 (aw d5 ?_))
 show(vs.zip vs).reverse=vs.reverse.zip vs.reverse
 rw[zkm,zkm,dq]
section
variable {C:Cx}{n:Nat}{Γ:cA}{env:Env}{W:Wd}{A:Around}{s:Shared}{st:St}{KK:Frag}
noncomputable def z2z (prog:Program)(w:World)(A:Around)(h:Heap)(a:Addr)(vs:List Value)(c:Nat→Int):Prop :=
 ∀(s':Shared) (Q:SortKind→Shared→Prop),(∀b o,b≠a→h.get? b=some o→s'.heap.get? b=some o)→(∀κ,Asks vs.length c (kas_ask prog w A κ vs.reverse) s'→Q κ s')→wpAny (model prog w) A (keyKind' vs.toArray) Q (λu1 u2=>False) s'
theorem zmz {prog:Program}{w:World}{E:Value→Shared→Prop}{a:Addr}{vs:List Value}{m:Nat}{c:Nat→Int}{P:PySem.Fin→Shared→Prop}(ho:s.heap.get? a=some (seqObj "list" vs.toArray m)) (h64:vs.length<64) (hs:2≤vs.length→z2z prog w A s.heap a vs c)
  (h:∀(p:Array Nat) h' k,Arr vs.length p→fO c p vs.length→(∀b o,b≠a→s.heap.get? b=some o→h'.get? b=some o)→h'.get? a=some (seqObj "list" (List.toArray (p.toList.map λi=>vs.reverse.getD i .none).reverse) k)→P (.done (.ret .none)) { s with heap:=h' }) :
  wpAny (model prog w) A (Builtin.«list.sort» ⟨[.ref a],[(Str.ofString "reverse", .bool true)]⟩) P E s:=by
 have ha:a<s.heap.objs.size:=aR ho
 have s1:=aM s.heap a (Obj.mapSeq λu1=>(#[]:Array Value))
 obtain⟨e1,ho1⟩:∃e1,(s.heap.update a (Obj.mapSeq λu1=>(#[]:Array Value))).get? a=some (seqObj "list" #[] e1):=⟨_,c9 ho λu1=>#[]⟩
 have keep:∀b o,b≠a→s.heap.get? b=some o→(((s.heap.update a (Obj.mapSeq λu1=>(#[]:Array Value))).push (seqObj "tuple" vs.toArray 0)).push (seqObj "list" #[] 0)).get? b=some o:=λb o hb e =>
  al _ (al _ ((s1.2 b hb).trans e))
 have ho6:=al (o:=seqObj "list" #[] 0) (al (o:=seqObj "tuple" vs.toArray 0) ho1)
 have fin:∀(out:List Value) (p:Array Nat),Arr vs.length p→fO c p vs.length→out=(p.toList.map (λi=>vs.reverse.getD i .none)).reverse→∀k,((((s.heap.update a (Obj.mapSeq λu1=>(#[]:Array Value))).push (seqObj "tuple" vs.toArray 0)).push (seqObj "list" #[] 0)).update a (Obj.mapSeq λu1=>out.toArray)).get? a=some (seqObj "list" out.toArray k) →
   P (.done (.ret .none)) { s with heap:=((((s.heap.update a (Obj.mapSeq λu1=>(#[]:Array Value))).push (seqObj "tuple" vs.toArray 0)).push (seqObj "list" #[] 0)).update a (Obj.mapSeq λu1=>out.toArray)) }:=λout p h1 h2 e k hk=>by
  subst e
  exact h p _ k h1 h2 (λb o hb e=>((aM _ a (Obj.mapSeq λu1=>_)).2 b hb).trans (keep b o hb e)) hk
 rw[list_sort_rev]
 refine aa (fM ho rfl ?_)
 refine aa (dL ho rfl ?_ (by rw[b4,bZ];exact jc h64) (aU _))
 refine aa (eg ho1 rfl ?_)
 refine aa (d3 ?_ (by show vs.length≤_;rw[bZ];exact jc h64))
 refine aa (dK ?_ (aU _))
 refine aV ?_
 show wpAny (model prog w) A _ P E { s with heap:=((s.heap.update a (Obj.mapSeq λu1=>(#[]:Array Value))).push (seqObj "tuple" vs.toArray 0)).push (seqObj "list" #[] 0) }
 dsimp only
 simp only[if_true]
 refine aa (cP ?_)
 by_cases hn2:vs.toArray.size<2
 ·have hl:vs.length<2:=by exact hn2
  rw[if_pos hn2,if_pos hn2]
  refine aa (ai ?_)
  rw[StateT.run_pure]
  refine aa (ai ?_)
  dsimp only
  have hout:((arrOf (SortSt.mk' general' (vs.toArray.zip vs.toArray).reverse #[] 7 none)).map (λx=>x.2)).reverse=vs.toArray:=by
   show((vs.toArray.zip vs.toArray).reverse.map (λx=>x.2)).reverse=vs.toArray
   apply cC.mp
   rw[dz,d6,dz,d5,dq,List.reverse_reverse]
   exact List.map_snd_zip (aB _)
  rw[hout]
  refine aa (eg ho6 rfl ?_)
  refine aa (dL ho6 rfl ?_ (aU _) (by rw[b4,bZ];exact la47 h64))
  simp only[bne_self_eq_false,bS,if_false]
  have hp:vs=((List.toArray (List.range vs.length)).toList.map (λi=>vs.reverse.getD i .none)).reverse:=by
   refine(List.reverse_reverse vs).symm.trans (congrArg List.reverse ?_)
   apply cQ
   intro i
   by_cases hi:i<vs.length
   ·simp[hi,List.getD]
   ·simp[hi,cq hi]
  exact ai (fin vs (List.toArray (List.range vs.length)) (by unfold Arr;simp) (λi j hij hj=>by lia) hp _ (c9 ho6 λu1=>vs.toArray))
 ·have h2:2≤vs.length:=by simp at hn2;lia
  rw[if_neg hn2,if_neg hn2]
  refine aa (bm (hs h2 { s with heap:=((s.heap.update a (Obj.mapSeq λu1=>(#[]:Array Value))).push (seqObj "tuple" vs.toArray 0)).push (seqObj "list" #[] 0) } (λκ s'=>s'={ s with heap:=((s.heap.update a (Obj.mapSeq λu1=>(#[]:Array Value))).push (seqObj "tuple" vs.toArray 0)).push (seqObj "list" #[] 0) }∧Asks vs.length c (kas_ask prog w A κ vs.reverse) s') keep λκ hκ=>⟨rfl,hκ⟩) (λκ s' hκ=>?_) λu1 u2 x=>x.elim)
  obtain⟨rfl,hκ⟩:=hκ
  have hL:vs.reverse.length=vs.length:=List.length_reverse
  have est:SortSt.mk' κ (vs.toArray.zip vs.toArray).reverse #[] 7 none=kas_st κ (pairsOf vs.reverse) (List.toArray (List.range vs.reverse.length)):=by
   have e:=kas_range (pairsOf vs.reverse)
   rw[pairsOf_size]at e
   show SortSt.mk' κ (vs.toArray.zip vs.toArray).reverse #[] 7 none=SortSt.mk' κ ((List.toArray (List.range vs.reverse.length)).map (kas_item (pairsOf vs.reverse))) #[] 7 none
   rw[e,zsv]
  rw[kas_ask_eq]at hκ
  have run:=kas_runs (E:=E) (Q:=λu1 st' s'=>∃p:Array Nat,Arr vs.reverse.length p∧fO c p vs.reverse.length∧arrOf st'=p.map (kas_item (pairsOf vs.reverse))∧failedOf st'=none∧s'={ s with heap:=((s.heap.update a (Obj.mapSeq λu1=>(#[]:Array Value))).push (seqObj "tuple" vs.toArray 0)).push (seqObj "list" #[] 0) })
   (G:=λp s'=>(Arr vs.reverse.length p∧fO c p vs.reverse.length)∧s'={ s with heap:=((s.heap.update a (Obj.mapSeq λu1=>(#[]:Array Value))).push (seqObj "tuple" vs.toArray 0)).push (seqObj "list" #[] 0) }) (hL.symm▸h2) (hL.symm▸h64) (λp' st' s' a1 a2 a3 a4=>⟨p',a4.1.1,a4.1.2,a2,a3,a4.2⟩) (zoe (hL.symm▸hκ) (by lia) λp h1 h2=>⟨⟨h1,h2⟩,rfl⟩)
  rw[←est]at run
  refine aa (bm run ?_ λu1 u2 e=>e)
  rintro⟨⟨⟩,st'⟩ s' ⟨p,hp,hasc,har,hf,rfl⟩
  rw[hL]at hp hasc
  dsimp only
  have hout:((arrOf st').map (λx=>x.2)).reverse=List.toArray (p.toList.map λi=>vs.reverse.getD i Value.none).reverse:=by
   apply cC.mp
   rw[har,Array.map_map,dz,d6]
   exact congrArg List.reverse (aS λi u1=>by show(kas_item (pairsOf vs.reverse) i).2=_;rw[kas_item_eq])
  rw[hout]
  refine aa (eg ho6 rfl ?_)
  refine aa (dL ho6 rfl ?_ (aU _) (by rw[b4,List.length_reverse,ae,aA,hp.size,bZ];exact la47 h64))
  rw[hf]
  simp only[bne_self_eq_false,bS,if_false]
  exact ai (fin _ p hp hasc rfl _ (c9 ho6 λu1=>_))
noncomputable def RevW (prog:Program)(w:World)(A:Around)(h:Heap)(vs:List Value)(c:Nat→Int):Prop :=
 ∀(s':Shared) (Q:SortKind→Shared→Prop),(∀b o,h.get? b=some o→s'.heap.get? b=some o)→(∀κ,Asks vs.length c (kas_ask prog w A κ vs.reverse) s'→Q κ s')→wpAny (model prog w) A (keyKind' vs.toArray) Q (λu1 u2=>False) s'
theorem zji {prog:Program}{w:World}{E:Value→Shared→Prop}{l:Addr}{T:String}{items:Array Value}{m:Nat}{c:Nat→Int}{Q:Value→Shared→Prop}(hT:T = "list" ∨ T = "tuple") (ho:s.heap.get? l=some { cls:=.type T,data:=.seq items m }) (h64:items.size<64)
  (hs:2≤items.size→RevW prog w A.in1.in1 s.heap items.toList c)
  (h:∀(p:Array Nat) h' a k,Arr items.size p→fO c p items.size→s.heap.get? a=none→(∀g x,s.heap.get? g=some x→g<a)→(∀b o,s.heap.get? b=some o→h'.get? b=some o)→h'.get? a=some { cls:=.type "list", data:=.seq (List.toArray (p.toList.map λi=>items.toList.reverse.getD i .none).reverse) k }→Q (.ref a) { s with heap:=h' }) :
  wpAny (model prog w) A (call (.builtin "sorted") [.ref l] [(Str.ofString "reverse", .bool true)]) Q E s:=by
 refine call_function_entry_kw kind_sorted plain_sorted entry_sorted (args_sorted_rev _ _) ?_
 unfold Builtin.«sorted»
 refine aa (m:=checkCount "sorted" 1 1 _) (ai ?_)
 refine aa (wpAny_collect_seq l hT ho rfl rfl (λh1 hk1=>?_) (by refine aw bZ ?_;exact jc h64))
 refine aa (dK ?_ (by simp only[aA,bZ];exact jc h64))
 have hoL:(h1.push (seqObj "list" items.toList.toArray 0)).get? h1.objs.size=some (seqObj "list" items.toList.toArray 0):=aF _ rfl
 have hne:∀b o,s.heap.get? b=some o→b≠h1.objs.size:=λb o e=>aL (aR (hk1 b o e))
 refine aa (aV (wpAny_call_entry_kw slot_list_sort ⟨_,hoL,rfl⟩ entry_list_sort (zmz (s:={ s with heap:=h1.push (seqObj "list" items.toList.toArray 0) }) (c:=c) hoL (by simp only[aA];exact h64) (λh2 s' Q' hk hq=>?_) (λp h' k a1 a2 a3 a4=>?_)) (args_list_sort_rev _ _)))
 ·rw[aA]at h2
  exact hs h2 s' Q' (λb o e=>hk b o (hne b o e) (al _ (hk1 b o e))) hq
 ·rw[aA]at a1 a2
  exact⟨_,rfl,ai ⟨_,rfl,h p h' _ k a1 a2 (by cases e:s.heap.get? h1.objs.size with|none=>rfl|some o=>exact absurd rfl (hne _ _ e)) (λg x e=>aR (hk1 g x e)) (λb o e=>a3 b o (hne b o e) (al _ (hk1 b o e))) a4⟩⟩
theorem VRs.rev {vs:List AV}:∀{ws:List Value},VRs W vs ws→VRs W vs.reverse ws.reverse:=by
 induction vs with
 |nil=>exact λh=>h.nilE .nil
 |cons a r ih=>exact λh=>h.consE λv vs p q=>aw dU (aw dU ((ih q).append (.cons p .nil)))
theorem zyr {κ:Type}[DecidableEq κ][Inhabited κ]{em:κ→AV}{lt:κ→κ→Bool}{ks:List κ}{out:List AV}{l:Addr}{T:String}{items:Array Value}{m:Nat}(hs:∀a b,lt a b=true→lt b a=false)(I:Inv C Γ env W st s.heap)(hT:T = "list" ∨ T = "tuple")
  (ho:s.heap.get? l=some { cls:=.type T,data:=.seq items m }) (hv:VRs W (ks.map em) items.toList.reverse) (h64:ks.length<64) (e:hY em lt ks=some out)
  (hask:∀ys:List κ,ys.Perm ks→ys.Pairwise (λa b=>lt a b=true)→2≤items.size→RevW C.prog C.w A.in1.in1 s.heap items.toList (f8 ys ks)):Run C Γ env W A s (call (.builtin "sorted") [.ref l] [(Str.ofString "reverse", .bool true)]) (some (.obj st.σ.length,⟨st.θ,st.σ++[.list out.reverse]⟩)) VR:=by
 have hlen:ks.length=items.size:=by have:=hv.length;simpa using this
 refine zm0 e λys hp hy ho'=>.mk1 λQ E hq=>zji hT ho (by exact z09 h64 hlen) (hask ys hp hy) λp h' a k a1 a2 a3 a4 a5 a6=>hq.newAt I a5 a3 ?_ ⟨_,_,a6,?_⟩ s.toks
 ·(refine x3a2 I.rel.ok.g λo u1 u2 ho u3=>?_)
  exact a4 _ _ (I.rel.old _ _ ho)
 ·subst ho'
  rw[←hlen]at a1 a2
  have ey:=zna hs hy hp a1 a2
  have:=(hv.take p.toList λi hi=>by simp only[ae];exact ax.mp (a1.mem_iff.mp hi)).mono (.app (W:=W) [a])
  have e2:p.toList.map (λi=>(ks.map em).getD i .none)=ys.map em:=by
   refine dI ey (aw be ?_)
   refine aS λi hi=>?_
   have hi':i<ks.length:=ax.mp (a1.mem_iff.mp hi)
   simp[hi',List.getD]
  rw[e2]at this
  exact this.rev
noncomputable def iv (a b:AV×PyData):Bool:=(f9 8 a.2 b.2==some true)&&(f9 8 b.2 a.2==some false)
theorem zfq (a b:AV×PyData)(h:iv a b=true):iv b a=false:=by
 unfold iv at *
 rw[aq,beq_iff_eq,beq_iff_eq]at h
 refine aw h.2 ?_
 rfl
noncomputable def fitP (a:AV×PyData):Bool:=(dLst? a.2).isSome&&(f9 8 a.2 a.2==some false)
theorem zy2 {k:Nat}{d e:PyData}{xs:List PyData}{b:Bool}{P:Prop}(h:dLst? d=some xs)(x:f9 (k+1) d e=some b)(q:∀ys,dLst? e=some ys→gY (f9 k) xs ys=some b→P):P:=by
 cases d<;>cases h
 exact zfo x (λx=>ns x) λx=>zfo x (λx=>ns x) λx=>bindE x λzs hz x=>bindE x λys hy x=>q ys hy (by obtain rfl:=sj hz;exact x)
theorem zsx {prog:Program}{w:World}{E:Value→Shared→Prop}{Q:Bool→Shared→Prop}{v u:Value}{d e:PyData}{b:Bool}(hu:A.units+73<cLine)(h1:DatS s.heap v d)(h2:DatS s.heap u e)(hd:(dLst? d).isSome=true)(x:f9 8 d e=some b)(hq:Q b s) :
  wpAny (model prog w) A (oneLt' true v u) Q E s:=by
 (refine x1a1 (bz.mp hd) λxs hd=>?_)
 refine zy2 hd x λys hy hl=>?_
 (refine x4a5 (h1.lst hd) λl z1 items n z4 ho hc hda hx=>?_;subst z4;obtain⟨c,dd,da,sl⟩:=z1)
 (refine x4a5 (h2.lst hy) λl2 z1 items2 n2 z4 ho2 hc2 hd2 hy=>?_;subst z4;obtain⟨c2,dd2,da2,sl2⟩:=z1)
 simp only at hc hda hc2 hd2
 subst hc hda hc2 hd2
 have hin:A.in1.units=A.units+1:=by exact rfl
 have X:=zhp (A:=A.in1) (by lia) (λv u d e b=>zli 7 A.in1 v u d e b (by lia)) hx hy hl
 rw[oneLt'_eq]
 simp only[if_true]
 refine aa (wpAny_cRoomFor_or (.inr (by lia)) ?_)
 refine aa (wpAny_callSpecialIfBound?_slot ⟨_,ho,rfl⟩ F.slot_list_lt (eO F.slot_list_lt ⟨_,ho,rfl⟩ F.entry_list_lt (F.args_list_lt_2 _ _) (zlj l l2 items items2 n n2 dd dd2 sl sl2 b) ⟨ho,ho2,X,?_⟩))
 exact wpAny_truthy_bool hq
theorem DatS.keeps {h h':Heap}{v:Value}{d:PyData}(x:DatS h v d)(hk:∀b o,h.get? b=some o→h'.get? b=some o):DatS h' v d:=am x λas q=>⟨as,Reads.keeps hk q.1,q.2⟩
inductive PrsOf (h:Heap):List (AV×PyData)→List Value→Prop
 |nil:PrsOf h [] []
 |cons {a d v ps vs}:DatS h v d→PrsOf h ps vs→PrsOf h ((a,d)::ps) (v::vs)
theorem DatsS.prs {h:Heap}{vs:List Value}{ds:List PyData}(x:DatsS h vs ds):∀{as:List AV},as.length=vs.length→PrsOf h (as.zip ds) vs:=by
 induction x with
 |nil=>intro as _;cases as<;>exact .nil
 |cons p _ ih =>
  intro as hl
  cases as with
  |nil=>exact absurd hl (Nat.succ_ne_zero _).symm
  |cons a as=>exact .cons p (ih (Nat.succ.inj hl))
theorem PrsOf.append {h:Heap}{ps qs:List (AV×PyData)}{vs us:List Value}(x:PrsOf h ps vs)(y:PrsOf h qs us):PrsOf h (ps++qs) (vs++us):=by
 induction x with
 |nil=>exact y
 |cons p _ ih=>exact .cons p ih
theorem PrsOf.rev {h:Heap}{ps:List (AV×PyData)}{vs:List Value}(x:PrsOf h ps vs):PrsOf h ps.reverse vs.reverse:=by
 induction x with
 |nil=>exact .nil
 |cons p _ ih=>exact aw dU (aw dU (ih.append (.cons p .nil)))
theorem PrsOf.keeps {h h':Heap}{ps:List (AV×PyData)}{vs:List Value}(x:PrsOf h ps vs)(hk:∀b o,h.get? b=some o→h'.get? b=some o):PrsOf h' ps vs:=by
 induction x with
 |nil=>exact .nil
 |cons p _ ih=>exact .cons (p.keeps hk) ih
theorem PrsOf.len {h:Heap}{ps:List (AV×PyData)}{vs:List Value}(x:PrsOf h ps vs):vs.length=ps.length:=by
 induction x with
 |nil=>rfl
 |cons p _ ih=>exact congrArg Nat.succ ih
instance:Inhabited (AV×PyData):=⟨(.none,.none)⟩
theorem PrsOf.at {h:Heap}{ps:List (AV×PyData)}{vs:List Value}(x:PrsOf h ps vs){i:Nat}(hi:i<ps.length):DatS h (vs.getD i .none) (ps.getD i default).2:=by
 induction x generalizing i with
 |nil=>exact absurd hi (aW _)
 |cons p _ ih =>
  cases i with
  |zero=>exact p
  |succ i=>exact ih (dg hi)
theorem PrsOf.lists {prog:Program}{w:World}{h:Heap}{ps:List (AV×PyData)}{vs:List Value}(x:PrsOf h ps vs)(hf:ps.all fitP=true):∀v∈vs,Looks (model prog w) h (typeOf v) (.type "list"):=by
 induction x with
 |nil=>exact λu1 h=>nomatch h
 |cons p _ ih =>
  rw[dX,aq]at hf
  intro v hv
  refine(au.mp hv).elim (λe=>?_) (ih hf.2 v)
  subst e
  have:=hf.1
  unfold fitP at this
  rw[aq]at this
  (refine x1a1 (bz.mp this.1) λxs hd=>?_)
  (refine x4a5 (p.lst hd) λl z1 items n z4 ho hc hda hx=>?_;subst z4;obtain⟨c,dd,da,sl⟩:=z1)
  dsimp only at hc
  subst hc
  exact λA Q E s k q=>wpAny_typeOf ⟨_,k _ _ ho,rfl⟩ q
open Classical in
theorem zqe {prog:Program}{w:World}{A:Around}{h:Heap}{vs:List Value}{ks ys:List (AV×PyData)}(hu:A.units+73<cLine)(hI:PrsOf h ks vs.reverse)(hf:ks.all fitP=true)(h2:2≤vs.length)(hp:ys.Perm ks)(hy:ys.Pairwise λa b=>iv a b=true):RevW prog w A h vs (f8 ys ks):=λs' Q hk hq=>by
 have hI':=hI.keeps hk
 have hl:vs.length=ks.length:=by have:=hI.len;rwa[List.length_reverse]at this
 refine kas_kind h2 (T:=.type "list") (λv hv=>hI'.lists hf v (List.mem_reverse.mpr hv)) rfl rfl (hq _ ⟨λi j hi hj e=>zjn zfq hy hp (hl▸hi) (hl▸hj) e,λi j C hi hj hC=>?_⟩)
 have hi:=hl▸hi
 have hj:=hl▸hj
 have mi:=i6 hp hi
 have mj:=i6 hp hj
 have r:=zk6 zfq hy mi mj
 unfold f8 at hC
 rw[r]at hC
 have fi:=cp.mp hf _ (hp.mem_iff.mp mi)
 unfold fitP at fi
 rw[aq,beq_iff_eq]at fi
 unfold kas_ask
 refine aw (keyLt'_oneType _ _) (zsx hu (hI'.at hi) (hI'.at hj) fi.1 ?_ hC)
 by_cases ht:iv (ks.getD i default) (ks.getD j default)=true
 ·unfold iv at ht ⊢
  refine aw ht ?_
  rw[aq,beq_iff_eq]at ht
  exact ht.1
 ·rw[Bool.not_eq_true]at ht
  refine aw ht ?_
  by_cases e:ks.getD i default=ks.getD j default
  ·exact e▸fi.2
  ·have tr:iv (ks.getD j default) (ks.getD i default)=true:=by
    obtain⟨a,ha,ea⟩:=bI.mp mi
    obtain⟨b,hb,eb⟩:=bI.mp mj
    rw[List.pairwise_iff_getElem]at hy
    rcases cf a b with q|q|q
    ·have:=hy a b ha hb q
     rw[ea,eb,ht]at this
     exact ft this
    ·subst q
     exact absurd (ea.symm.trans eb) e
    ·have:=hy b a hb ha q
     rwa[ea,eb]at this
   unfold iv at tr
   rw[aq,beq_iff_eq,beq_iff_eq]at tr
   exact tr.2
open Classical in
noncomputable def revS (σ:List AO)(vs:List AV):Option (List AV):=(zo8 σ vs).bind λds=>if (vs.zip ds).reverse.all fitP=true then(hY Prod.fst iv (vs.zip ds).reverse).map List.reverse else none
noncomputable def sortedRev (a:AV):K AV:=λst=>(zm8 st a).bind λvs=>if vs.length<64 then(revS st.σ vs).bind λout=>some (.obj st.σ.length,⟨st.θ,st.σ++[.list out]⟩)else none
open Classical in
theorem zhf {a:AV}{v:Value}(ok:AOk C n A)(I:Inv C Γ env W st s.heap)(hv:VR W a v):Run C Γ env W A s (call (.builtin "sorted") [v] [(Str.ofString "reverse", .bool true)]) (sortedRev a st) VR:=by
 refine .obind λvs e=>seqE (P:=λv=>Run C Γ env W A s (call (.builtin "sorted") [v] [(Str.ofString "reverse", .bool true)]) _ VR) I.rel hv e λl T items m hT ho hr hlen=>?_
 by_cases h64:vs.length<64
 ·refine aw (if_pos h64) ?_
  refine .obind λout eo=>bindE eo λds ed eo=>im eo λhf eo=>mapE eo λout' eo=>?_
  have hd:=zw7 I.rel ed hr
  have hl2:vs.length=ds.length:=by have:=hd.length;have:=hr.length;lia
  have P:=(hd.prs (as:=vs) hr.length).rev
  have em:(vs.zip ds).reverse.map Prod.fst=vs.reverse:=by exact aw dq (aw (List.map_fst_zip (bj hl2)) rfl)
  refine zyr zfq I hT ho (by refine aw em ?_;exact hr.rev) (by simp;lia) eo λys hp hy h2=>zqe ?_ P hf (by exact h2) hp hy
  have:=ok.units
  simp
  lia
 ·refine aw (if_neg h64) ?_
  exact .stuck
open Classical in
noncomputable def ziq (args:List AV)(kws:List (Str×AV)):K AV:=λst=>(one? args).bind λa=>if kws=[(Str.ofString "reverse", .bool true)]then sortedRev a st else none
open Classical in
theorem CalK.sortedRev:CalK C n Γ (.builtin "sorted") ziq:=λA env W st s args kws vs kvs ok I hv hk=>by
 refine .obind λa e=>?_
 by_cases h:kws=[(Str.ofString "reverse", .bool true)]
 ·refine aw (if_pos h) ?_
  subst h
  cases hk with|cons h1 h2=>cases h2;cases h1;exact VRs.one?E (vs:=vs) hv e λv hv=>zhf ok I hv
 ·refine aw (if_neg h) ?_
  exact .stuck
theorem Ev.callKw {x:Str}{np pos:Pos}{args:List Expr}{kws:List Keyword}{f:Value}{g:K (List AV×List (Str×AV))}{F:List AV→List (Str×AV)→K AV}(hf:Ev C n Γ (.Name x np) (K.ret (.val f)))(hc:Callee C f)(ha:Ear C n Γ args kws g)(hF:CalK C n Γ f F) :
  Ev C n Γ (.Call (.Name x np) args kws pos) (K.bind g λp=>F p.1 p.2):=by
 refine⟨λA env W st s ok I v st' e Q E hq=>?_⟩
 refine wpAny_Call_ofName (hf.run A env W st s ok I _ _ rfl _ _ λfv W0 h0 tk0 I0 k0 v0=>?_)
 cases v0
 refine zbz (P:=λh=>∀b o,C.h₀.get? b=some o→h.get? b=some o) (hc _) ?_
 refine K.bindE e λp st₁ e1 e2=>ha.run _ _ A env W0 st (mv s h0 tk0) ok I0 p st₁ e1 _ _ λa W1 h1 tk1 I1 k1 hp=>⟨I1.rel.old,?_⟩
 exact hF A env W1 st₁ (mv s h1 tk1) p.1 p.2 a.pos a.kw ok I1 hp.1 (zma hp.2.1 hp.2.2) v st' e2 _ _ λr W2 h2 tk2 I2 k2 v2=>hq r W2 h2 tk2 I2 (k0.trans (k1.trans k2)) v2
end
end Mine.Internal
end
section
namespace Mine.Internal
open PySem PyProof.Rows PySem.W PySem.SeqAt
section
variable {C:Cx}{n:Nat}{Γ:cA}{env:Env}{W:Wd}{A:Around}{s:Shared}{st:St}{KK:Frag}
noncomputable def bitI (op:Operator)(x y:Int):Option Int:=match op with
 |.BitAnd=>some (Builtin.bitAnd x y)
 |.BitOr=>some (Builtin.bitOr x y)
 |_=>none
noncomputable def bitK (op:Operator)(a b:AV):K AV:=λst=>a.int?.bind λx=>b.int?.bind λy=>(bitI op x y).map λz=>(.int z,st)
theorem zq0 {op:Operator}{x y z:Int}{t u:Tok}{s:Shared}{Q E:Value→Shared→Prop}(e:bitI op x y=some z)(hq:∀tk w,Q (.int z w) { s with toks:=tk }):wpAny (model C.prog C.w) A (binaryOp op (.int x t) (.int y u)) Q E s:=by
 revert hq
 cases op with
 |BitAnd=>exact eH e λhq=>and_int (hq _ _)
 |BitOr=>exact eH e λhq=>or_int (hq _ _)
 |_=>exact ns e
theorem Ev.binG {l r:Expr}{op:Operator}{pos:Pos}{f g:K AV}{k:AV→AV→K AV}(hl:Ev C n Γ l f)(hr:Ev C n Γ r g)
  (hk:∀{A env W st s a b va vb},AOk C n A→Inv C Γ env W st s.heap→VR W a va→VR W b vb→Run C Γ env W A s (binaryOp op va vb) (k a b st) VR):Ev C n Γ (.BinOp l op r pos) (K.bind f λa=>K.bind g λb=>k a b) :=
 ⟨λA env W st s ok I=>.stepE (S:=λva Q E s₁=>wpAny (model C.prog C.w) A (eval r env) (λvb s₂=>wpAny (model C.prog C.w) A (binaryOp op va vb) Q E s₂) E s₁) (λQ E h=>wpAny_BinOp h) (hl.run A env W st s ok I) λa st₁ va W1 h1 tk1 I1 v1 =>
  Run.step2 (hr.run A env W1 st₁ _ ok I1) λb st₂ vb W2 h2 tk2 I2 k2 v2=>hk (s:=(mv s h2 tk2)) ok I2 (v1.mono k2.le) v2⟩
theorem Ev.bit {l r:Expr}{op:Operator}{pos:Pos}{f g:K AV}(hl:Ev C n Γ l f)(hr:Ev C n Γ r g):Ev C n Γ (.BinOp l op r pos) (K.bind f λa=>K.bind g λb=>bitK op a b) :=
 .binG hl hr λ{A env W st s a b va vb} ok I ha hb=>.obind λx hx=>.obind λy hy=>.omap λz hz=>ha.intE (P:=λva=>Run C Γ env W A s (binaryOp op va vb) _ VR) hx λt=>hb.intE (P:=λvb=>Run C Γ env W A s (binaryOp op _ vb) _ VR) hy λu =>
  .mk1 λQ E hq=>zq0 hz λtk w=>hq.at I tk (.int z w)
noncomputable def addS (a b:AV):K AV:=λst=>a.str?.bind λx=>b.str?.bind λy=>if x.length+y.length<2^20 then some (.str (x++y),st)else none
theorem len0 {x:Str}(h:(x.length==0)=true)(y:Str):x++y=y∧y++x=y:=by
 have:x.cps=#[]:=Array.eq_empty_of_size_eq_zero (beq_iff_eq.mp h)
 have e:x=⟨#[]⟩:=by cases x;exact congrArg Str.mk this
 subst e
 exact⟨congrArg Str.mk (Array.empty_append),congrArg Str.mk (Array.append_empty)⟩
theorem Ev.addS {l r:Expr}{pos:Pos}{f g:K AV}(hl:Ev C n Γ l f)(hr:Ev C n Γ r g):Ev C n Γ (.BinOp l .Add r pos) (K.bind f λa=>K.bind g λb=>Mine.Internal.addS a b) :=
 .binG hl hr λ{A env W st s a b va vb} ok I ha hb=>.obind λx hx=>.obind λy hy=>.ite λhz=>ha.strE (P:=λva=>Run C Γ env W A s (binaryOp .Add va vb) _ VR) hx λt=>hb.strE (P:=λvb=>Run C Γ env W A s (binaryOp .Add _ vb) _ VR) hy λu =>
  .mk1 λQ E hq=>P.add_str (by
   by_cases h1:(x.length==0)=true
   ·refine aw (if_pos h1) ?_
    rw[(len0 h1 y).1]at hq
    exact hq.at I s.toks (.str _ _)
   ·refine aw (if_neg h1) ?_
    by_cases h2:(y.length==0)=true
    ·refine aw (if_pos h2) ?_
     rw[(len0 h2 x).2]at hq
     exact hq.at I s.toks (.str _ _)
    ·refine aw (if_neg h2) ?_
     have e:(x++y).length=x.length+y.length:=Array.size_append
     exact⟨by refine aw bZ (aw e ?_);exact bG (ag hz (by decide)),hq.at I _ (.str _ _)⟩)
noncomputable def inS (neg:Bool)(a b:AV):K AV:=λst=>a.str?.bind λy=>b.str?.bind λx=>some (.bool (neg != !(Builtin.Str.occurrences x y 0 x.length 1).isEmpty),st)
noncomputable def inOp (neg:Bool):CmpOp:=if neg=true then .NotIn else .In
theorem ztt {neg:Bool}{a b:AV}{va vb:Value}(I:Inv C Γ env W st s.heap)(ha:VR W a va)(hb:VR W b vb):Run C Γ env W A s (compareOp (inOp neg) va vb) (inS neg a b st) VR :=
 .obind λy hy=>.obind λx hx=>ha.strE (P:=λva=>Run C Γ env W A s (compareOp (inOp neg) va vb) _ VR) hy λt=>hb.strE (P:=λvb=>Run C Γ env W A s (compareOp (inOp neg) _ vb) _ VR) hx λu =>
  .mk1 λQ E hq=>by
   have:=hq.at I s.toks (.bool _)
   cases neg with
   |true=>exact P.notIn_str (by rwa[Bool.true_bne]at this)
   |false=>exact P.in_str (by rwa[Bool.false_bne]at this)
theorem Te.inS {l r:Expr}{neg:Bool}{pos:Pos}{f g:K AV}(hl:Ev C n Γ l f)(hr:Ev C n Γ r g)(hm:behindInMarks (inOp neg) r=false):Te C n Γ (.Compare l [inOp neg] [r] pos) (K.bind f λa=>K.bind g λb=>K.bind (Mine.Internal.inS neg a b) iW) :=
 ⟨λA env W st s ok I v st' e Q E hq=>wpAny_isTrue_Compare1 (K.bindE e λa st₁ e1 e=>hl.run A env W st s ok I _ _ e1 _ _ λva W1 h1 tk1 I1 k1 v1=>K.bindE e λb st₂ e2 e=>hr.run A env W1 st₁ _ ok I1 _ _ e2 _ _ λvb W2 h2 tk2 I2 k2 v2 =>
  Run.step2 (R:=VR) (R':=λu1 a b=>a=b) (s:=(mv s h2 tk2)) (ztt I2 (v1.mono k2.le) v2) (λc st₃ vc W3 h3 tk3 I3 k3 v3=>zc1 I3 v3) v st' e Q E λd W4 h4 tk4 I4 k4 v4=>hq d W4 h4 tk4 I4 (k1.trans (k2.trans k4)) v4) hm⟩
theorem Te.notInS {l r:Expr}{pos:Pos}{f g:K AV}(hl:Ev C n Γ l f)(hr:Ev C n Γ r g)(hm:behindInMarks .NotIn r=false):Te C n Γ (.Compare l [.NotIn] [r] pos) (K.bind f λa=>K.bind g λb=>K.bind (Mine.Internal.inS true a b) iW):=Te.inS (neg:=true) hl hr hm
noncomputable def ztr (a b:AV):K AV:=λst=>a.str?.bind λx=>b.str?.bind λy=>(Builtin.Str.occurrences x y 0 x.length 1).head?.map λi=>(.int (i:Nat),st)
noncomputable def zni:List AV→K AV:=λargs st=>(two? args).bind λp=>ztr p.1 p.2 st
theorem Cal.indexS:Cal C n Γ (.builtin "str.index") zni:=.two (F:=ztr) λA env W st s a x v w ok I hv hw =>
 .obind λx hx=>.obind λy hy=>.omap λi hi=>hv.strE (P:=λv=>Run C Γ env W A s (call (.builtin "str.index") [v,w]) _ VR) hx λt=>hw.strE (P:=λw=>Run C Γ env W A s (call (.builtin "str.index") [_,w]) _ VR) hy λu =>
  .mk1 λQ E hq=>(List.head?_eq_some_iff.mp hi).elim λr e=>SC.index e (hq.at I _ (.int _ _))
noncomputable def zts (a b:AV):K AV:=λst=>(fA a st).bind λvs=>(hX vs).bind λns=>b.int?.bind λk=>if PyData.layable0 (.list (ns.map .int))=true∧k∈ns then some (.int (ns.idxOf k:Nat),st)else none
noncomputable def znj:List AV→K AV:=λargs st=>(two? args).bind λp=>zts p.1 p.2 st
theorem Cal.indexL:Cal C n Γ (.builtin "list.index") znj:=.two (F:=zts) λA env W st s a x v w ok I hv hw =>
 .obind λvs e1=>.obind λns e2=>.obind λk hk=>.ite λhc=>fX (P:=λv=>Run C Γ env W A s (call (.builtin "list.index") [v,w]) _ VR) I.rel hv e1 λl items m hl hr hlen=>hw.intE (P:=λw=>Run C Γ env W A s (call (.builtin "list.index") [_,w]) _ VR) hk λu =>
  .mk1 λQ E hq=>index_list_ints (vs:=items.toList) (fF hl) (zbx e2 hr) hc.1 hc.2 (hq.at I _ (.int _ _))
section
variable {o:Expr}{apos pos:Pos}{args:List Expr}{f:K AV}{g:K (List AV)}
theorem Ev.mIndexS (ho:Ev C n Γ o f)(ha:Eas C n Γ args g)(hst:args.all (λe=>!fj e)=true)(hlen:decide (args.length<29)=true)(hsup:fL o=false)(hline:(apos.endLine==pos.line)=true) :
  Ev C n Γ (.Call (.Attribute o "index" apos) args [] pos) (K.bind f λa=>K.bind (fw (zi0 a)) λu1=>K.bind g λas=>zni (a::as)) :=
 Ev.meth ho (Res.str F.slot_str_index F.type_str_index) Callee.builtin ha Cal.indexS hst hlen hsup hline
theorem Ev.mIndexL (ho:Ev C n Γ o f)(ha:Eas C n Γ args g)(hst:args.all (λe=>!fj e)=true)(hlen:decide (args.length<29)=true)(hsup:fL o=false)(hline:(apos.endLine==pos.line)=true) :
  Ev C n Γ (.Call (.Attribute o "index" apos) args [] pos) (K.bind f λa=>K.bind (fw (zqg a)) λu1=>K.bind g λas=>znj (a::as)) :=
 Ev.meth ho (Res.list F.slot_list_index F.type_list_index) Callee.builtin ha Cal.indexL hst hlen hsup hline
end
noncomputable def sum1 (a:AV):K AV:=λst=>(fA a st).bind λvs=>(hX vs).map λns=>(.int ns.sum,st)
noncomputable def sumK:List AV→K AV:=λargs st=>(one? args).bind λa=>sum1 a st
theorem Cal.sum (hc:C.calm=true):Cal C n Γ (.builtin "sum") sumK:=.one (F:=sum1) λA env W st s a v ok I hv =>
 .obind λvs e1=>.omap λns e2=>fX (P:=λv=>Run C Γ env W A s (call (.builtin "sum") [v]) _ VR) I.rel hv e1 λl items m hl hr hlen=>.mk1 λQ E hq=>by
  have hi:=zbx e2 hr
  refine hi.allInts.items.elim λxs e=>?_
  have e':items=intItems xs:=e
  have hns:ns.sum=preSum (numAt xs) xs.size:=by
   rw[←hi.numsOf,e',nums_intItems,preSum_eq,List.take_of_length_le (by simp)]
  rw[hns]at hq
  have hl':=fF hl
  rw[e']at hl'
  exact sum_intListG (ok.handled hc) hl' λh' tk t' hk=>hq.kept I hk tk (.int _ _)
noncomputable def z0p (b:AV):K (List AV):=λst=>(zm8 st b).bind λvs=>if vs.length<2^20 then some (vs,st)else none
theorem Eas.star {x:Expr}{p:Pos}{g:K AV}(hx:Ev C n Γ x g):Eas C n Γ [.Starred x p] (K.bind g z0p) :=
 ⟨λpos A env W st s ok I v st' e Q E hq=>K.bindE e λb st₁ e1 e=>bindE e λvs hvs e=>im e λhlt e=>by
  (refine x0a2 (sp e) λz0 z1=>?_;subst z0;subst z1)
  refine ks_spliced (hx.run A env W st s ok I _ _ e1 _ _ λvb W1 h1 tk1 I1 k1 v1=>zr9 (s:=(mv s h1 tk1)) I1 v1 hvs hlt λws h' hws hk=>?_)
  have x:=Inv.kept (s:=(mv s h1 tk1)) I1 hk
  refine Calls.spliced_nil ?_
  rw[bi]
  exact hq ws W1 h' _ x.1 (k1.trans x.2.wide) hws⟩
theorem Ev.mOwnS {o:Expr}{apos pos:Pos}{args:List Expr}{name:Str}{Cl fa:Addr}{F}{f:K AV}{g:K (List AV)}(hK:C.K=KK)(okC:Cx.Ok C.toBx)(hb:zkf KK Cl name fa=true)(hfu:zv5 KK fa=true)(hF:FnK C n (.ref fa) F)(ho:Ev C n Γ o f)(ha:Eas C n Γ args g)
  (hst:∀env pos,(backTo pos (starEach args env)).any (λx=>x.1)=true) (hl:lone args=false) (hform:∀env pos,methodCallForm args.length (backTo pos (starEach args env)) []=false) (hsup:fL o=false) :
  Ev C n Γ (.Call (.Attribute o name apos) args [] pos) (K.bind f λa=>K.bind (fw (iU Cl name a)) λu1=>K.bind g λas=>zng (λas σ=>F as [] σ) (a::as)):=by
 subst hK
 refine⟨λA env W st s ok I v st' e Q E hq=>K.bindE e λa st₁ e1 e=>zlw e λhP e=>K.bindE e λas st₂ e2 e=>?_⟩
 simp only[fH,zav hsup]
 refine aa (ho.run A env W st s ok I _ _ e1 _ _ λva W1 h1 tk1 I1 k1 v1=>aa (bO ?_))
 unfold methodCall
 refine aw (hform env pos) ?_
 have hpos:methodCallPos false o env apos pos=pure pos:=rfl
 refine zw5 hfu λof fd hof hfd=>?_
 have hof:=okC.k _ _ hof
 refine aa (aV (aa (zl9 (s:=(mv s h1 tk1)) hb I1 v1 hP (ai (aa (ch hpos ?_))))))
 have X:=I1.rel.pushImm (methodObj (.ref fa) va) rfl
 have I2:=I1.keep X.1 X.2
 have kk:=k1.trans X.2.wide
 have v1:=v1.mono X.2.le
 refine ks_call (P:=λh=>h.get? h1.objs.size=some (methodObj (.ref fa) va)∧h.get? fa=some of) (hst env pos) (λh hh=>⟨.boundFrame,.inr (.inr rfl),?_⟩) (zbg (zfr hl) rfl (ha.run pos A env _ st₁ { s with heap:=h1.push (methodObj (.ref fa) va),toks:=tk1.1+1,drawn:=tk1.2 } ok I2 _ _ e2 _ _ λvs W3 h3 tk3 I3 k3 v3=>ai ?_))
 ·unfold keeperOf
  refine(fu (part:=none) hh.1).andThen ?_
  show Looks _ h (do
   let .ref g:=(Value.ref fa)|return .machine
   return match (←load g).data with | .func _=>Keeper.boundFrame|_=>.caller) .boundFrame
  refine(fu (part:=none) hh.2).andThen ?_
  refine aw hfd ?_
  exact .now
 ·refine(aP.mp e).elim λr hr=>?_
  (refine x0a2 (pj hr.2) λz0 z1=>?_;subst z0;subst z1)
  have hmo:=I3.rel.imm _ (k3.le.ι _ aj)
  refine⟨⟨hmo,I3.rel.old _ _ hof⟩,dH (method_call hmo (hF A W3 st₂.σ (mv s h3 tk3) (a::as) [] (va::vs) [] ok I3.rel (.cons (v1.mono k3.le) v3) .nil r.1 r.2 hr.1 _ λu W5 h5 tk5 R5 k5 v5=>?_))⟩
  exact hq u W5 h5 tk5 (I3.keep R5 k5) (kk.trans (k3.trans k5.wide)) v5
end
end Mine.Internal
end
section
namespace Mine.Internal
open PySem PyProof.Rows PySem.W PySem.SeqAt
noncomputable def Inc (xs:Array Nat):Prop:=∀i j,i<j→j<xs.size→xs.getD i 0<xs.getD j 0
theorem zwh {xs:Array Nat}{j:Nat}(hx:Inc xs):∀(fuel lo hi:Nat),hi-lo≤fuel→hi≤xs.size→(∀i,i<lo→xs.getD i 0<j)→(∀i,hi≤i→i<xs.size→j≤xs.getD i 0) →
  (∀i,i<SetTable.below.go xs j fuel lo hi→xs.getD i 0<j)∧(∀i,SetTable.below.go xs j fuel lo hi≤i→i<xs.size→j≤xs.getD i 0):=by
 intro fuel
 induction fuel with
 |zero =>
  intro lo hi h1 h2 h3 h4
  exact⟨h3,λi a b=>h4 i (aI (Nat.sub_eq_zero_iff_le.mp (Nat.le_zero.mp h1)) a) b⟩
 |succ fuel ih =>
  intro lo hi h1 h2 h3 h4
  unfold SetTable.below.go
  by_cases c:lo<hi
  ·rw[if_pos c]
   dsimp only
   have m1:lo≤(lo+hi)/2:=by omega
   have m2:(lo+hi)/2<hi:=by exact la92 c
   have e:xs.getD ((lo+hi)/2) j=xs.getD ((lo+hi)/2) 0:=by
    rw[aT,aT,aY (ag m2 h2)];rfl
   rw[e]
   by_cases q:xs.getD ((lo+hi)/2) 0<j
   ·rw[if_pos q]
    exact ih _ _ (by exact la18 h1) h2 (λi hi'=>by
     by_cases p:i=(lo+hi)/2
     ·rw[p];exact q
     ·exact a9 (hx i _ (by exact la42 hi' p) (ag m2 h2)) q) h4
   ·rw[if_neg q]
    exact ih _ _ (by exact la21 h1) (by omega) h3 λi a b=>by
     by_cases p:i=(lo+hi)/2
     ·rw[p];exact bl.mp q
     ·exact aI (bl.mp q) (bG (hx _ i (by omega) b))
  ·rw[if_neg c]
   exact⟨h3,λi a b=>h4 i (aI (bl.mp c) a) b⟩
theorem zpf {xs:Array Nat}{j:Nat}:∀(fuel lo hi:Nat),lo≤hi→SetTable.below.go xs j fuel lo hi≤hi:=by
 intro fuel
 induction fuel with
 |zero=>exact λlo hi h=>h
 |succ fuel ih =>
  intro lo hi h
  unfold SetTable.below.go
  by_cases c:lo<hi
  ·refine aw (if_pos c) ?_
   dsimp only
   split
   ·exact ih _ _ (by lia)
   ·exact aI (ih _ _ (by exact la61 h)) (by lia)
  ·exact aw (if_neg c) h
theorem zpe {xs:Array Nat}{j:Nat}(hx:Inc xs):(∀i,i<SetTable.below xs j→xs.getD i 0<j)∧(∀i,SetTable.below xs j≤i→i<xs.size→j≤xs.getD i 0) :=
 zwh hx xs.size 0 xs.size (aB _) (aB _) (λu1 h=>absurd h (aW _)) λi a b=>absurd b (bl.mpr a)
theorem zwi {xs:Array Nat}{j k:Nat}(hx:Inc xs)(hk:k≤xs.size)(h1:∀i,i<k→xs.getD i 0<j)(h2:k<xs.size→j≤xs.getD k 0):SetTable.below xs j=k:=by
 have b:=zpe (j:=j) hx
 have g:SetTable.below xs j≤xs.size:=zpf _ _ _ (aU _)
 rcases cf (SetTable.below xs j) k with c|c|c
 ·exact absurd (b.2 _ (aB _) (ag c hk)) (Nat.not_le.mpr (h1 _ c))
 ·exact c
 ·exact absurd (b.1 k c) (bl.mpr (h2 (ag c g)))
theorem zoy {xs:Array Nat}{i:Nat}(h:i<xs.size):xs[i]?=some (xs.getD i 0):=by
 refine aw (aT) (aw (aY h) ?_);rfl
theorem Inc.insert {xs:Array Nat}{j:Nat}(hx:Inc xs)(hj:xs[SetTable.below xs j]?≠some j):Inc (SetTable.insertAt xs (SetTable.below xs j) j):=by
 have b:=zpe (j:=j) hx
 have g:SetTable.below xs j≤xs.size:=zpf _ _ _ (aU _)
 generalize SetTable.below xs j=p at b g hj
 have hl:(SetTable.insertAt xs p j).toList=xs.toList.take p++j::xs.toList.drop p:=SetTable.toList_insertAt xs p j
 have hsz:(SetTable.insertAt xs p j).size=xs.size+1:=by
  rw[←aA,hl];simp;omega
 have hat:∀i,(SetTable.insertAt xs p j).getD i 0=if i<p then xs.getD i 0 else if i=p then j else xs.getD (i-1) 0:=λi=>by
  have e:(SetTable.insertAt xs p j).getD i 0=((xs.toList.take p++j::xs.toList.drop p)[i]?).getD 0:=by
   rw[aT,←ba,hl]
  have q:∀k,xs.getD k 0=(xs.toList[k]?).getD 0:=λk=>by rw[aT,ba]
  have tl:(xs.toList.take p).length=p:=by simp;exact dJ g
  rw[e,q,q]
  by_cases c:i<p
  ·rw[if_pos c,bd (by rw[tl];exact c),List.getElem?_take_of_lt c]
  ·rw[if_neg c,List.getElem?_append_right (by rw[tl];exact la71 c),tl]
   by_cases c2:i=p
   ·rw[if_pos c2,c2,eu];rfl
   ·rw[if_neg c2]
    have:i-p=(i-p-1)+1:=by exact la8 c c2
    rw[this,List.getElem?_cons_succ,List.getElem?_drop]
    congr 2;exact la7 c c2
 intro a c hac hc
 rw[hsz]at hc
 rw[hat,hat]
 by_cases c1:c<p
 ·rw[if_pos (a9 hac c1),if_pos c1];exact hx a c hac (ag c1 g)
 ·rw[if_neg c1]
  by_cases c2:c=p
  ·rw[if_pos c2,if_pos (by exact la31 hac c2)];exact b.1 a (by exact la31 hac c2)
  ·rw[if_neg c2]
   by_cases a1:a<p
   ·rw[if_pos a1]
    exact ag (b.1 a a1) (b.2 (c-1) (by exact la67 c1 c2) (by exact la4 hac hc))
   ·rw[if_neg a1]
    by_cases a2:a=p
    ·rw[if_pos a2]
     by_cases e:c-1=p
     ·have:=b.2 p (aB _) (by exact la5 hc c1 c2)
      rw[e]
      rcases Nat.lt_or_eq_of_le this with q|q
      ·exact q
      ·exact absurd (by rw[zoy (by exact la5 hc c1 c2),←q]) hj
     ·exact ak (b.2 p (aB _) (by exact la5 hc c1 c2)) (hx p (c-1) (by omega) (by exact la4 hac hc))
    ·rw[if_neg a2];exact hx (a-1) (c-1) (by omega) (by exact la4 hac hc)
theorem Inc.range (n:Nat):Inc (Array.range n):=λi j h hj=>by
 rw[Array.size_range]at hj
 rw[aT,aT,Array.getElem?_range,Array.getElem?_range]
 simp[hj,a9 h hj,h]
theorem Inc.of_list {l:List Nat}(h:l.Pairwise (·<·)):Inc l.toArray:=λi j hij hj=>by
 have hj:j<l.length:=by exact hj
 have:=List.pairwise_iff_getElem.mp h i j (a9 hij hj) hj hij
 refine aw (aT) (aw (aT) ?_)
 simpa[hj,a9 hij hj]using this
structure Rise (led:Bool)(t:SetTable):Prop where
 led:t.led=led
 inc:Inc t.place
 dum:t.dummies=#[]
theorem Inc.nil:Inc #[]:=λi j u1 h=>absurd h (aW _)
theorem Rise.fresh (led:Bool):Rise led (.fresh 0 0 led):=⟨rfl,.nil,rfl⟩
theorem Rise.standIn {led:Bool}{t:SetTable}(h:Rise led t)(n:Nat):Rise led (t.standIn n):=⟨h.led,.range n,rfl⟩
theorem Rise.or {led:Bool}{t:SetTable}(h:Rise led t)(n:Nat):Rise led (t.orStandIn n):=by
 unfold SetTable.orStandIn
 split
 ·exact h
 ·exact h.standIn n
theorem ztx (j:Nat):SetTable.has #[] j=false:=by
 unfold SetTable.has
 simp
theorem slot_of {led:Bool}{t:SetTable}(h:Rise led t)(j:Nat):t.slot j≠.dummy∧(t.slot j=.empty→t.place[SetTable.below t.place j]?≠some j):=by
 unfold SetTable.slot
 dsimp only
 rw[h.dum,ztx]
 by_cases c:(t.place[SetTable.below t.place j]?==some j)=true
 ·rw[if_pos c];exact⟨nofun,nofun⟩
 ·rw[if_neg c,if_neg (by decide)];exact⟨nofun,λu1 q=>c (by rw[q];exact beq_self_eq_true _)⟩
theorem zkg (t:SetTable)(p:SetTable.Probe):(t.advance p).dummy=p.dummy:=by
 unfold SetTable.advance
 split<;>rfl
theorem zp8 {led:Bool}{t:SetTable}(h:Rise led t){f:Nat→Int}{hs:Int}:∀(fuel:Nat) (p:SetTable.Probe) (j:Nat) (d:Option Nat),p.dummy=none→SetTable.probe.go t f hs fuel p=some (.empty j d)→d=none∧t.place[SetTable.below t.place j]?≠some j:=by
 intro fuel
 induction fuel with
 |zero=>exact λp j d u1 e=>ns e
 |succ fuel ih =>
  intro p j d hp e
  unfold SetTable.probe.go at e
  have sl:=slot_of h p.j
  cases q:t.slot p.j with
  |empty =>
   rw[q]at e sl
   have e:=SetTable.Met.empty.inj (sj e)
   exact⟨e.2▸hp,e.1▸sl.2 rfl⟩
  |dummy=>rw[q]at sl;exact absurd rfl sl.1
  |live i =>
   rw[q]at e
   dsimp only at e
   split at e
   ·exact nomatch sj e
   ·exact ih _ _ _ ((zkg t p).trans hp) e
theorem Rise.layNew {led:Bool}{t:SetTable}(h:Rise led t)(es:Array (Int×Value))(hs:Int)(x:Value):Rise led (layNew t es hs x).2.1:=by
 unfold PySem.layNew
 cases q:t.freeSlot hs with
 |none=>exact h.standIn _
 |some p =>
  obtain⟨slot,wd⟩:=p
  dsimp only
  refine Rise.or ?_ _
  unfold SetTable.freeSlot SetTable.probe at q
  have key:t.place[SetTable.below t.place slot]?≠some slot:=by
   split at q
   ·rename_i j d e
    have:=zp8 h _ _ _ _ rfl e
    obtain⟨rfl,hj⟩:=this
    have:=sj q
    exact(pj this).1▸hj
   ·exact ns q
  unfold SetTable.put
  refine⟨h.led,h.inc.insert key,?_⟩
  dsimp only
  rw[h.dum,ztx];rfl
theorem Rise.plainOff {led:Bool}{t:SetTable}(h:Rise led t):Rise led { t with plain:=false }:=⟨h.led,h.inc,h.dum⟩
theorem zk8 {α:Type}{f:Nat→Option α}(n:Nat):(((List.range n).filterMap λj=>(f j).map (j,·)).map (λx=>x.1)).Pairwise (·<·):=by
 refine aw List.map_filterMap ?_
 have:(List.range n).Pairwise (·<·):=dc
 refine List.Pairwise.filterMap _ (λa b hab c hc d hd=>?_) this
 cases ha:f a with
 |none=>rw[ha]at hc;exact ns hc
 |some x =>
  cases hb:f b with
  |none=>rw[hb]at hd;exact ns hd
  |some y =>
   rw[ha]at hc;rw[hb]at hd
   obtain rfl:=sj hc
   obtain rfl:=sj hd
   exact hab
theorem Rise.relayAll {led:Bool}{t:SetTable}(h:Rise led t)(es:Array (Int×Value))(n:Nat):Rise led (relayAll t es n).2.1:=by
 unfold PySem.relayAll
 cases q:t.relaid (es.map (λx=>x.1)) n with
 |none=>exact h.standIn _
 |some p =>
  obtain⟨t',order⟩:=p
  dsimp only
  split
  ·unfold SetTable.relaid SetTable.laid at q
   cases c:SetTable.layClean (SetTable.sizeAbove n-1) (es.map (λx=>x.1))with
   |none=>rw[c]at q;exact ns q
   |some owner =>
    rw[c]at q
    have:=pj (sj q)
    rw[←this.1]
    exact⟨h.led,.of_list (zk8 _),rfl⟩
  ·exact h.standIn _
end Mine.Internal
end
section
namespace Mine.Internal
open PySem PyProof.Rows PySem.W PySem.SeqAt
section
variable {prog:Program}{w:World}{K:Type}[DecidableEq K]{knd:KeyKind prog w K}{A:Around}{E:Value→Shared→Prop}{s:Shared}{led:Bool}{a:Addr}{o:Obj}{ks:List K}{k:K}{x:Value}
inductive KsOf (knd:KeyKind prog w K):List K→List (Int×Value)→Prop
 |nil:KsOf knd [] []
 |cons {k:K} {v:Value} {ks:List K} {es:List (Int×Value)}:knd.is k v=true→v.scannable=true→KsOf knd ks es→KsOf knd (k::ks) ((knd.hash k,v)::es)
theorem KsOf.elems {es:List (Int×Value)}(h:KsOf knd ks es):ElemsOf knd es:=by
 induction h with
 |nil=>exact λe he=>nomatch he
 |cons h1 h2 _ ih=>exact λe he=>(au.mp he).elim (λq=>q▸⟨⟨_,h1,rfl⟩,h2⟩) (ih e)
theorem KsOf.mem {es:List (Int×Value)}(h:KsOf knd ks es)(k:K):k∈ks↔∃e∈es,knd.is k e.2=true:=by
 induction h with
 |nil=>exact⟨λh=>(nomatch h),λh=>h.elim λe p=>nomatch p.1⟩
 | @cons k' v ks es h1 h2 _ ih =>
  constructor
  ·exact λh=>(au.mp h).elim (λq=>⟨_,aj,q▸h1⟩) λq=>(ih.mp q).elim λe p=>⟨e,af _ p.1,p.2⟩
  ·exact λh=>h.elim λe p=>(au.mp p.1).elim (λq=>au.mpr (.inl (knd.inj v k k' (by have:=p.2;rw[q]at this;exact this) h1))) λq=>af _ (ih.mpr ⟨e,q,p.2⟩)
theorem KsOf.len {es:List (Int×Value)}(h:KsOf knd ks es):ks.length=es.length:=by
 induction h with
 |nil=>rfl
 |cons _ _ _ ih=>exact aw bp (aw bp (aw ih rfl))
theorem KsOf.append {es es':List (Int×Value)}{ks':List K}(h:KsOf knd ks es)(h':KsOf knd ks' es'):KsOf knd (ks++ks') (es++es'):=by
 induction h with
 |nil=>exact h'
 |cons h1 h2 _ ih=>exact .cons h1 h2 ih
theorem KsOf.perm {es es':List (Int×Value)}(p:es.Perm es'):∀{ks:List K},KsOf knd ks es→∃ks',KsOf knd ks' es'∧ks'.Perm ks:=by
 induction p with
 |nil=>exact λh=>⟨_,h,.refl _⟩
 |cons x _ ih =>
  intro ks h
  cases h with
  |cons h1 h2 h3=>exact(ih h3).elim λks' q=>⟨_::ks',.cons h1 h2 q.1,q.2.cons _⟩
 |swap x y l =>
  intro ks h
  cases h with
  |cons h1 h2 h3 =>
   cases h3 with
   |cons h4 h5 h6=>exact⟨_,.cons h4 h5 (.cons h1 h2 h6),.swap ..⟩
 |trans _ _ ih1 ih2=>exact λh=>(ih1 h).elim λks1 q1=>(ih2 q1.1).elim λks2 q2=>⟨ks2,q2.1,q2.2.trans q1.2⟩
inductive SetObj (knd:KeyKind prog w K)(led:Bool)(ks:List K)(o:Obj):Prop
 |mk (es:Array (Int×Value)) (ep:Nat) (t:SetTable) (e:o={ cls:=.type "set", dict:=none,data:=.set es ep t,slots:=#[] }) (hk:KsOf knd ks es.toList) (nd:ks.Nodup) (hb:es.size<scanBound) (hf:t.fits es.size=true) (hr:Rise led t):SetObj knd led ks o
theorem SetObj.new (knd:KeyKind prog w K)(led:Bool):SetObj knd led [] { cls:=.type "set", dict:=none,data:=.set #[] 0 (.fresh 0 0 led) } :=
 ⟨#[],0,_,rfl,.nil,bR,by decide,by rfl,.fresh led⟩
theorem gave (b:Bool){Q:Unit→Shared→Prop}(h:Q () s):wpAny (model prog w) A (match b with|true=>rule "set.scan.the-table-gave-way" | false=>pure ()) Q E s:=by
 cases b
 ·exact ai h
 ·exact cP h
theorem stored {es es':Array (Int×Value)}{ep:Nat}{t t':SetTable}(ho:s.heap.get? a=some { cls:=.type "set", dict:=none,data:=.set es ep t,slots:=#[] }) :
  (s.heap.update a (Obj.putSet es' t')).get? a=some { cls:=.type "set", dict:=none,data:=.set es' (ep+1) t',slots:=#[] }:=by
 have:=bc (Obj.putSet es' t') ho (by refine aw (putSet_of es' t' rfl) ?_;rfl)
 rw[putSet_of es' t' rfl]at this
 exact this
theorem zyh (hkey:knd.is k x=true)(hsc:x.scannable=true)(ho:s.heap.get? a=some o)(hS:SetObj knd led ks o)(hroom:ks.length+1<scanBound){Q:Bool→Shared→Prop}
   (h:∀h' o' ks' b,Heap.SameBut a s.heap h'→h'.get? a=some o'→SetObj knd led ks' o'→ks'.Perm (if k∈ks then ks else ks++[k])→Q b { s with heap:=h' }):wpAny (model prog w) A (setAddHashed a x (knd.hash k)) Q E s:=by
 obtain⟨es,ep,t,rfl,hk,nd,hb,hf,hr⟩:=hS
 have hel:=hk.elems
 have hlen:ks.length=es.size:=hk.len
 unfold setAddHashed setAddHashedIn
 refine aV (aa (cX ho rfl hf ?_))
 dsimp only
 rw[byScan_of hsc hb hel]
 simp only[↓reduceIte]
 unfold setAddByScan
 refine aa (aa (cP (aa (wpAny_setScan_of hkey ho rfl hf hel ?_))))
 cases hq:List.findIdx? (λe=>knd.is k e.2) es.toList with
 |some j =>
   dsimp only
   (refine x1a2 (List.findIdx?_eq_some_iff_getElem.mp hq) λhj hpj u1=>?_)
   have hin:k∈ks:=(hk.mem k).mpr ⟨_,cc hj,hpj⟩
   refine ai (ai ?_)
   exact h s.heap _ ks _ (.refl a s.heap) ho ⟨es,ep,t,rfl,hk,nd,hb,hf,hr⟩ (by rw[if_pos hin])
 |none =>
   dsimp only
   have hin:k∉ks:=λq=>((hk.mem k).mp q).elim λe p=>by
     have:=List.findIdx?_eq_none_iff.mp hq e p.1
     rw[p.2]at this;exact tf this
   have hperm:=layNew_perm t es (knd.hash k) x
   have hfits:=layNew_fits t es (knd.hash k) x
   have hrise:=hr.layNew es (knd.hash k) x
   generalize layNew t es (knd.hash k) x=L at hperm hfits hrise ⊢
   obtain⟨es1,t1,wasDummy,gv⟩:=L
   dsimp only at hperm hfits hrise ⊢
   rw[dT]at hperm
   (refine x1a2 ((hk.append (.cons hkey hsc .nil)).perm hperm.symm) λks1 hk1 p1=>?_)
   have hsz:es1.size=es.size+1:=by rw[←aA,hperm.length_eq,az,aA];rfl
   have hb1:es1.size<scanBound:=by rw[hsz,←hlen];exact hroom
   have nd1:ks1.Nodup:=p1.nodup_iff.mpr (b5.mpr ⟨nd,List.nodup_cons.mpr ⟨bV,bR⟩,λy hy z hz e=>hin (by rw[ac.mp hz]at e;exact e▸hy)⟩)
   have fin:∀(h':Heap) (es2:Array (Int×Value)) (ep2:Nat) (t2:SetTable),Heap.SameBut a s.heap h'→h'.get? a=some { cls:=.type "set", dict:=none,data:=.set es2 ep2 t2,slots:=#[] }→es2.toList.Perm es1.toList→t2.fits es2.size=true→Rise led t2→Q true { s with heap:=h' }:=λh' es2 ep2 t2 hs hg pp hf2 hr2=>by
     (refine x1a2 (hk1.perm pp.symm) λks2 hk2 p2=>?_)
     have e2:es2.size=es1.size:=by rw[←aA,pp.length_eq,aA]
     exact h h' _ ks2 _ hs hg ⟨es2,ep2,t2,rfl,hk2,p2.nodup_iff.mpr nd1,by rw[e2];exact hb1,hf2,hr2⟩ (by rw[if_neg hin];exact p2.trans p1)
   have tail:∀t2:SetTable,t2.fits es1.size=true→Rise led t2→wpAny (model prog w) A (do
       storeSet a es1 t2
       if (!wasDummy && t2.tooFull) = true then do
           (match (relayAll t2 es1 (SetTable.grown es1.size)).2.2 with|true=>rule "set.scan.the-table-gave-way" | false=>pure ())
           storeSet a (relayAll t2 es1 (SetTable.grown es1.size)).1 (relayAll t2 es1 (SetTable.grown es1.size)).2.1
           pure (some true)
         else pure (some true)) (λr s'=>r=some true∧Q true s') E s:=λt2 hf2 hr2=>by
     refine aa (wpAny_storeSet_of ho rfl ?_ (dy hb1))
     have ho1:=stored (es':=es1) (t':=t2) ho
     have hs1:=aM s.heap a (Obj.putSet es1 t2)
     split
     · have hp:=relayAll_perm t2 es1 (SetTable.grown es1.size)
       have hfr:=relayAll_fits t2 es1 (SetTable.grown es1.size)
       have hrr:=hr2.relayAll es1 (SetTable.grown es1.size)
       generalize relayAll t2 es1 (SetTable.grown es1.size)=Rl at hp hfr hrr ⊢
       obtain⟨es2,t3,g2⟩:=Rl
       dsimp only at hp hfr hrr ⊢
       have e2:es2.size=es1.size:=by rw[←aA,hp.length_eq,aA]
       refine aa (gave _ ?_)
       refine aa (wpAny_storeSet_of (s:={ s with heap:=_ }) ho1 rfl ?_ (dy (by rw[e2];exact hb1)))
       exact ai ⟨rfl,fin _ es2 _ t3 (hs1.trans (aM _ a _)) (stored (s:={ s with heap:=_ }) ho1) hp hfr hrr⟩
     · exact ai ⟨rfl,fin _ es1 _ t2 hs1 ho1 (.refl _) hf2 hr2⟩
   refine aa (gave _ ?_)
   split
   · refine aa ?_
     rw[hashByValue_scannable 8 hsc]
     refine ai ?_
     refine bm (tail _ ?_ ?_) (λr s' q=>by obtain⟨rfl,q⟩:=q;exact ai q) λu1 u2 q=>q
     · split
       · exact hfits
       · exact SetTable.fits_plain_off hfits
     · split
       · exact hrise
       · exact hrise.plainOff
   · refine aa (ai ?_)
     simp only[↓reduceIte]
     exact bm (tail _ hfits hrise) (λr s' q=>by obtain⟨rfl,q⟩:=q;exact ai q) λu1 u2 q=>q
end
end Mine.Internal
end
section
namespace Mine.Internal
open PySem PyProof.Rows PySem.W PySem.SeqAt PySem.Spec
section
variable {prog:Program}{w:World}{K:Type}[DecidableEq K]{knd:KeyKind prog w K}{A:Around}{E:Value→Shared→Prop}{s:Shared}{led:Bool}{R:Result→Shared→Prop}{I:Addr}{fp wr:List Addr}{n:Nat}{P:Nat→Value→Prop}{St:Nat→Heap→Prop}
noncomputable def Met (key:Nat→K)(i:Nat)(ks:List K):Prop:=∀x,x∈ks↔∃j,j<i∧key j=x
theorem zvb (W:Walks prog w A.in1 I fp wr n P St)(S:Addr)(hSf:S∉fp)(key:Nat→K)(hval:∀i v,P i v→knd.is (key i) v=true∧v.scannable=true)(hb:n+1<scanBound) :
  ∀(k i:Nat) (s:Shared) (ks:List K) (o:Obj),n-i=k→i≤n→St i s.heap→s.heap.get? S=some o→SetObj knd led ks o→ks.length≤i→Met key i ks →
   (∀h' tk ks' o',(∀b x,b∉S::wr→s.heap.get? b=some x→h'.get? b=some x)→h'.get? S=some o'→SetObj knd led ks' o'→Met key n ks'→R (.ok (.ret .none)) { s with heap:=h',toks:=tk }) →
   codeAny (model prog w) A (.builtin "set.update.loop" ⟨[.ref S,.ref I],[]⟩) R s:=by
 have hSw:S∉wr:=λh=>hSf (W.sub _ h)
 intro k
 induction k with
 |zero =>
  intro i s ks o hk hi hst hS hso hl hm hR
  have hin:i=n:=Nat.le_antisymm hi (Nat.sub_eq_zero_iff_le.mp hk)
  subst hin
  refine cb F.entry_set_update_loop ?_
  rw[bT F.plain_set_update_loop _]
  show wpAny _ A.in1 (pyNext (.ref I) >>= _) _ _ s
  refine aa (W.done s _ _ hst λh' tk hx=>?_)
  show wpAny _ A.in1 (ret Value.none) _ _ _
  exact ai (hR h' tk ks o (λb x hb e=>hx b x (λq=>hb (af _ q)) e) (hx S o hSw hS) hso hm)
 |succ k ih =>
  intro i s ks o hk hi hst hS hso hl hm hR
  have hlt:i<n:=by exact Nat.lt_of_sub_eq_succ hk
  refine cb F.entry_set_update_loop ?_
  rw[bT F.plain_set_update_loop _]
  show wpAny _ A.in1 (pyNext (.ref I) >>= _) _ _ s
  refine aa (W.item i s _ _ hlt hst λv h1 tk hP hst1 hx=>?_)
  have hv:=hval i v hP
  have hS1:=hx S o hSw hS
  show wpAny _ A.in1 (holding [v] (setAdd S v) >>= _) _ _ _
  refine aa (aV ?_)
  unfold setAdd
  refine aV ?_
  refine aa (knd.pyHash hv.1 ?_)
  refine zyh (s:={ s with heap:=h1,toks:=tk+1 }) hv.1 hv.2 hS1 hso (by omega) λh2 o2 ks2 b2 hsb hg hso2 hp=>?_
  have hsb:Heap.SameBut S h1 h2:=hsb
  refine ai ⟨cS F.plain_set_update_loop _,ih (i+1) { s with heap:=h2,toks:=tk+1 } ks2 o2 (by exact congrArg Nat.pred hk) hlt (W.frame _ h1 h2 hst1 λb hb x e=>?_) hg hso2 ?_ ?_ λh3 tk3 ks3 o3 hx3 hg3 hso3 hm3=>?_⟩
  ·exact(hsb.2 b (λq=>hSf (q▸hb))).trans e
  ·have:=hp.length_eq
   split at this
   ·omega
   ·rw[az,aO]at this;omega
  ·intro x
   rw[hp.mem_iff]
   constructor
   ·intro q
    split at q
    ·exact((hm x).mp q).elim λj p=>⟨j,bg p.1,p.2⟩
    ·exact(aD.mp q).elim (λq=>((hm x).mp q).elim λj p=>⟨j,bg p.1,p.2⟩) λq=>⟨i,aQ i,(ac.mp q).symm⟩
   ·rintro⟨j,hj,e⟩
    by_cases c:j=i
    ·subst c
     split
     ·exact e▸(by assumption)
     ·exact cx _ (ac.mpr e.symm)
    ·have:=(hm x).mpr ⟨j,by exact ik hj c,e⟩
     split
     ·exact this
     ·exact bK _ this
  ·exact hR h3 tk3 ks3 o3 (λb x hb e=>hx3 b x hb ((hsb.2 b (λq=>hb (q▸aj))).trans (hx b x (λq=>hb (af _ q)) e))) hg3 hso3 hm3
noncomputable def fW (w:World):Bool:=!w.params.followText "set-order"
theorem zyf (a:Value){Q₁:Value→Shared→Prop}
  (h:Q₁ (.ref s.heap.objs.size) { s with heap:=s.heap.push { cls:=.type "set", dict:=none,data:=.set #[] 0 (.fresh 0 0 (fW w)) } }) :
  codeAny (model prog w) A (.call (.builtin "set.__new__") ⟨[.type "set", a],[]⟩) (wants Q₁ E) s:=by
 refine eZ ?_
 show wpAny _ A.in1 (do checkBuiltinCall "set.__new__" ⟨[.type "set", a],[]⟩;again (.builtin "set.__new__" ⟨[.type "set", a],[]⟩)) _ _ s
 refine aa (ch (F.newCall_set_1 a) (ai ⟨cS F.plain_set_new _,cb F.entry_set_new ?_⟩))
 rw[bT F.plain_set_new _]
 unfold Builtin.«set.__new__» Builtin.Frozenset.newClass
 have hsub:=sub_set_self
 obtain⟨hp,g,d,tk,os⟩:=s
 dsimp only
 wp_walk
 refine cy (ai ?_)
 dsimp only
 simp only[newObj]
 refine aa (wpAny_alloc (ai ?_))
 exact ai h
structure SetSrc (prog:Program)(w:World)(h₀:Heap)(src:Value)(T:String)(n:Nat)(P:Nat→Value→Prop):Prop where
 type:∀s:Shared,(∀b o,h₀.get? b=some o→s.heap.get? b=some o)→s.TypeIs src T
 s1:isSubtype (.type T) (.type "set")=pure false
 s2:isSubtype (.type T) (.type "frozenset")=pure false
 nd:(Value.type T==Value.type "dict")=false
 iter:∀(A:Around) (s:Shared),(∀b o,h₀.get? b=some o→s.heap.get? b=some o)→∀(Q:Value→Shared→Prop) (E:Value→Shared→Prop),
  (∀(oI:Obj) (fp:List Addr) (St:Nat→Heap→Prop),(∀b∈fp,b=s.heap.objs.size∨b<h₀.objs.size)→(∀A':Around,A'.handled=none→Walks prog w A' s.heap.objs.size fp [s.heap.objs.size] n P St)→St 0 (s.heap.push oI)→Q (.ref s.heap.objs.size) { s with heap:=s.heap.push oI }) →
  wpAny (model prog w) A (pyIter src) Q E s
set_option maxHeartbeats 3200000 in
theorem znx {src:Value}{T:String}{Q:Value→Shared→Prop}(hh:A.handled=none)(X:SetSrc prog w s.heap src T n P)(key:Nat→K)(hval:∀i v,P i v→knd.is (key i) v=true∧v.scannable=true)(hb:n+1<scanBound)
  (h:∀(h':Heap) (tk:Nat) ks o,h'.get? s.heap.objs.size=some o→SetObj knd (fW w) ks o→Met key n ks→(∀b o,s.heap.get? b=some o→h'.get? b=some o)→Q (.ref s.heap.objs.size) { s with heap:=h',toks:=tk }) :
  wpAny (model prog w) A (call (.type "set") [src]) Q E s:=by
 obtain⟨c,tl,hmro⟩:=F.called_set.mro
 have hmade:=F.called_set.made
 have hsub:=F.called_set.sub
 refine dH (eZ ?_)
 show wpAny _ _ (callAny (.type "set") _) _ _ _
 refine ai ⟨Code.quiet_builtin _ (by decide +kernel),cb F.entry_type_call ?_⟩
 rw[Around.under_plain (weight_type_call_type "set" [src] []) rfl]
 have h1:=F.called_set.notType
 have h2:=F.called_set.canCreate
 have hct:=F.typeCall_set_1 src
 repeat (any_goals (first|assumption|wp_step))
 refine codeAny_mono (zyf src (E:=E) (Q₁:=λobj s₁=>obj=.ref s.heap.objs.size∧s₁={ s with heap:=s.heap.push { cls:=.type "set", dict:=none,data:=.set #[] 0 (.fresh 0 0 (fW w)) } }) ⟨rfl,rfl⟩) λr s₁ hr=>?_
 cases r with
 |error e=>exact hr
 |ok fl =>
  cases fl with
  |ret obj =>
   obtain⟨rfl,rfl⟩:=hr
   have hS:(s.heap.push { cls:=.type "set", dict:=none,data:=.set #[] 0 (.fresh 0 0 (fW w)) }).get? s.heap.objs.size=some { cls:=.type "set", dict:=none,data:=.set #[] 0 (.fresh 0 0 (fW w)) }:=aF _ rfl
   have hT:Shared.TypeIs { s with heap:=s.heap.push { cls:=.type "set", dict:=none,data:=.set #[] 0 (.fresh 0 0 (fW w)) } } (.ref s.heap.objs.size) "set" := ⟨_,hS,rfl⟩
   have hli:=F.called_set.init.lookup
   have hbi:=F.called_set.init.bind (.ref s.heap.objs.size)
   repeat (any_goals (first|assumption|wp_step))
   refine codeAny_mono (codeAny_call_builtin (R:=wants (λr s₂=>r=.none∧∃h' tk ks o,s₂={ s with heap:=h',toks:=tk }∧h'.get? s.heap.objs.size=some o∧SetObj knd (fW w) ks o∧Met key n ks ∧
     (∀b o,s.heap.get? b=some o→h'.get? b=some o)) E) F.called_set.init.plain F.entry_set_init (check_set_init_1 hT ?_)) λr₂ s₂ hr₂=>?_
   ·have hk0:∀b o,s.heap.get? b=some o→(s.heap.push { cls:=.type "set", dict:=none,data:=.set #[] 0 (.fresh 0 0 (fW w)) }).get? b=some o:=λb o e=>al _ e
    have hTs:=X.type { s with heap:=s.heap.push { cls:=.type "set", dict:=none,data:=.set #[] 0 (.fresh 0 0 (fW w)) } } hk0
    have hs1:=X.s1
    have hs2:=X.s2
    have hne:=X.nd
    unfold Builtin.«set.__init__» noKeywords Builtin.Frozenset.updateFrom
    generalize hPI:pyIter=PI
    wp_walk
    subst hPI
    refine X.iter _ _ hk0 _ _ λoI fp St hfp W st0=>aa (wpAny_runValue ?_)
    have hsz:(s.heap.push { cls:=.type "set", dict:=none,data:=.set #[] 0 (.fresh 0 0 (fW w)) }).objs.size=s.heap.objs.size+1:=cw ..
    have hSf:s.heap.objs.size∉fp:=λq=>(hfp _ q).elim (λe=>by dsimp only at e;rw[hsz]at e;exact absurd e (aL (aQ _))) λe=>absurd e (bo _)
    refine zvb (W _ (by simp[hh])) s.heap.objs.size hSf key hval hb n 0 _ [] _ (Nat.sub_zero n) (aU _) st0 (al _ hS) (SetObj.new knd (fW w)) (aB 0) (λx=>⟨λq=>(nomatch q),λq=>q.elim λj p=>absurd p.1 (aW _)⟩) λh' tk ks o hx hg hso hm=>?_
    show wpAny _ _ _ _ _ _
    refine ai ?_
    show wpAny _ _ (ret Value.none) _ _ _
    refine ai ⟨rfl,h',tk,ks,o,rfl,hg,hso,hm,λb x e=>?_⟩
    have hlt:=aR e
    refine hx b x ?_ (al _ (hk0 b x e))
    intro q
    rcases au.mp q with q|q
    ·exact absurd q (aL hlt)
    ·have q:=ac.mp q
     dsimp only at q
     rw[hsz]at q
     exact absurd q (aL (bg hlt))
   ·cases r₂ with
    |error e=>exact hr₂
    |ok fl₂ =>
     cases fl₂ with
     |ret r =>
      obtain⟨rfl,h',tk,ks,o,rfl,ho,hso,hm,hk'⟩:=hr₂
      repeat (any_goals (first|assumption|wp_step))
      exact h h' tk ks o ho hso hm hk'
     |_=>exact hr₂.elim
  |_=>exact hr.elim
theorem SetSrc.list {l:Addr}{items:Array Value}(hl:s.heap.IsList l items):SetSrc prog w s.heap (.ref l) "list" items.size (λi v=>items[i]?=some v) where
 type:=λs' hk=>let ⟨o,ho,hc,_⟩:=hl;⟨o,hk _ _ ho,hc⟩
 s1:=F.sub_list_set
 s2:=F.sub_list_frozenset
 nd:=by decide
 iter:=λA s' hk Q E hq=>by
  have hl':s'.heap.IsList l items:=let ⟨o,ho,r⟩:=hl;⟨o,hk _ _ ho,r⟩
  have hlt:l<s.heap.objs.size:=let ⟨o,ho,_⟩:=hl;aR ho
  have hlt':l<s'.heap.objs.size:=let ⟨o,ho,_⟩:=hl';aR ho
  refine ee hl' ?_
  exact hq _ [s'.heap.objs.size,l] _ (λb hb=>(au.mp hb).elim .inl λq=>.inr (ac.mp q▸hlt)) (λA' hA=>Walks.list hA _ l (aL hlt') items) ⟨⟨_,aF _ rfl,rfl,rfl⟩,hl'.push _⟩
theorem SetSrc.str (x:Str)(t:Tok):SetSrc prog w s.heap (.str x t) "str" x.cps.size (SignAt x) where
 type:=λs' u1=>typeIs_str _ _ _
 s1:=F.sub_str_set
 s2:=by rw[cL];kernel_rfl
 nd:=by decide
 iter:=λA s' hk Q E hq=>wpAny_pyIter_str λo St W st=>hq o [s'.heap.objs.size] St (λb hb=>.inl (ac.mp hb)) W st
end
end Mine.Internal
end
section
namespace Mine.Internal
open PySem PyProof.Rows PySem.W PySem.SeqAt PySem.Spec
namespace SF
theorem slot_next:Slot "set_iterator" "__next__" "set_iterator.__next__" :=
 .of (owner := "set_iterator") (n := "__next__") (by rw[ca,bv];kernel_rfl) (by decide +kernel) (by decide +kernel) (by decide +kernel)
  (by first|exact .inl (by decide +kernel)|exact .inr (by decide +kernel)) (by rw[cL];kernel_rfl)
theorem entry_next:entryFor table "set_iterator.__next__" = some Builtin.«set_iterator.__next__»:=entryFor_of_tree (by kernel_rfl)
theorem zit:Manifest.owners.lookup (String.ofList ['r','o','t','a','r','e','t','i','_','t','e','s'].reverse)=some Manifest.sig_set_iterator:=by kernel_rfl
theorem args_next (a:Value):argsOk "set_iterator.__next__" ⟨[a],[]⟩:=by
 unfold argsOk;rw[signature?_of (id := "set_iterator.__next__") (n:=['_','_','t','x','e','n','_','_']) (o:=['r','o','t','a','r','e','t','i','_','t','e','s']) (by kernel_rfl) zit];kernel_rfl
theorem entry_iter:entryFor table "set.__iter__" = some Builtin.«frozenset.__iter__»:=entryFor_alias (id' := "frozenset.__iter__") (by kernel_rfl) rfl (by decide +kernel) (by kernel_rfl)
theorem zsw:Manifest.owners.lookup (String.ofList ['t','e','s'].reverse)=some Manifest.sig_set:=by kernel_rfl
theorem args_iter (a:Value):argsOk "set.__iter__" ⟨[a],[]⟩:=by
 unfold argsOk;rw[signature?_of (id := "set.__iter__") (n:=['_','_','r','e','t','i','_','_']) (o:=['t','e','s']) (by kernel_rfl) zsw];kernel_rfl
theorem slot_iter_iter:Slot "set_iterator" "__iter__" "set_iterator.__iter__" :=
 .of (owner := "set_iterator") (n := "__iter__") (by rw[ca,bv];kernel_rfl) (by decide +kernel) (by decide +kernel) (by decide +kernel)
  (by first|exact .inl (by decide +kernel)|exact .inr (by decide +kernel)) (by rw[cL];kernel_rfl)
theorem entry_iter_iter:entryFor table "set_iterator.__iter__" = some Builtin.«dict_keyiterator.__iter__»:=entryFor_alias (id' := "dict_keyiterator.__iter__") (by kernel_rfl) rfl (by decide +kernel) (by kernel_rfl)
theorem args_iter_iter (a:Value):argsOk "set_iterator.__iter__" ⟨[a],[]⟩:=by
 unfold argsOk;rw[signature?_of (id := "set_iterator.__iter__") (n:=['_','_','r','e','t','i','_','_']) (o:=['r','o','t','a','r','e','t','i','_','t','e','s']) (by kernel_rfl) zit];kernel_rfl
end SF
section
variable {prog:Program}{w:World}{A:Around}{E:Value→Shared→Prop}{s:Shared}{I a:Addr}{es:Array (Int×Value)}{ep:Nat}{t:SetTable}
noncomputable def gy (first:Value)(i:Nat)(a:Addr)(n ep:Nat):Obj:={ cls:=.type "set_iterator", data:=.fields #[first,.int i 0,.ref a,.int n 0,.int ep 0] }
noncomputable def setO (es:Array (Int×Value))(ep:Nat)(t:SetTable):Obj:={ cls:=.type "set", dict:=none,data:=.set es ep t,slots:=#[] }
theorem zm1 {first:Value}{i n:Nat}{h:Heap}(hI:h.get? I=some (gy first i a n ep))(k:Nat)(x:Value):(h.update I (Obj.mapFields (·.setIfInBounds k x))).get? I=some { cls:=.type "set_iterator", data:=.fields (#[first,.int i 0,.ref a,.int n 0,.int ep 0].setIfInBounds k x) } :=
 bc (Obj.mapFields (·.setIfInBounds k x)) hI (dl (dP rfl _))
theorem zfn {v:Value}{slot i:Nat}{nxt:Nat}{u:Tok}(hI:s.heap.get? I=some (gy (.int slot u) i a es.size ep))(ho:s.heap.get? a=some (setO es ep t))(hf:t.fits es.size=true)
  (hN:∀(A:Around) (E:Value→Shared→Prop) (Q:Option (Value×Nat)→Shared→Prop),Q (some (v,nxt)) s→wpAny (model prog w) A (setNext a slot i ep) Q E s) {Q:Option Value→Shared→Prop}
  (hQ:∀h',h'.get? I=some (gy (.int nxt 0) (i+1) a es.size ep)→Heap.SameBut I s.heap h'→Q (some v) { s with heap:=h' }):wpAny (model prog w) A (pyNext (.ref I)) Q E s:=by
 have hT:s.TypeIs (.ref I) "set_iterator" := ⟨_,hI,rfl⟩
 unfold pyNext
 refine aa (fG (cK (name:=Str.ofString "__next__") hT SF.slot_next (bx SF.slot_next hT SF.entry_next ?_ (SF.args_next _))))
 unfold Builtin.«set_iterator.__next__»
 refine aa (ai ?_)
 refine aa (d4 hI rfl ?_)
 show wpAny _ _ (setEntries a >>= _) _ _ s
 refine aa (c7 ho rfl hf ?_)
 refine aw (if_neg (by simp)) ?_
 show wpAny _ _ (setNext a (slot:Int).toNat (i:Int).toNat (ep:Int).toNat >>= _) _ _ s
 rw[ay,ay,ay]
 refine aa (hN _ _ _ ?_)
 show wpAny _ _ (setField (.ref I) 0 (rawInt nxt) >>= _) _ _ s
 refine aa (cJ hI rfl (by simp) ?_)
 have h1:=zm1 hI 0 (rawInt nxt)
 refine aa (cJ (s:={ s with heap:=_ }) h1 rfl (by simp) ?_)
 have h2:=bc (Obj.mapFields (·.setIfInBounds 1 (rawInt ((i:Int)+1)))) h1 (dl (dP rfl _))
 exact ai ⟨_,rfl,ai (hQ _ h2 ((aM ..).trans (aM ..)))⟩
theorem zgi {slot i:Nat}{u:Tok}(hh:A.handled=none)(hI:s.heap.get? I=some (gy (.int slot u) i a es.size ep))(ho:s.heap.get? a=some (setO es ep t))(hf:t.fits es.size=true)
  (hN:∀(A:Around) (E:Value→Shared→Prop) (Q:Option (Value×Nat)→Shared→Prop),Q none s→wpAny (model prog w) A (setNext a slot i ep) Q E s) {Q:Option Value→Shared→Prop}
  (hQ:∀h',Heap.ExtBut I s.heap h'→Q none { s with heap:=h' }):wpAny (model prog w) A (pyNext (.ref I)) Q E s:=by
 have hT:s.TypeIs (.ref I) "set_iterator" := ⟨_,hI,rfl⟩
 unfold pyNext
 refine aa (fG (cK (name:=Str.ofString "__next__") hT SF.slot_next (bx SF.slot_next hT SF.entry_next ?_ (SF.args_next _))))
 unfold Builtin.«set_iterator.__next__»
 refine aa (ai ?_)
 refine aa (d4 hI rfl ?_)
 show wpAny _ _ (setEntries a >>= _) _ _ s
 refine aa (c7 ho rfl hf ?_)
 refine aw (if_neg (by simp)) ?_
 show wpAny _ _ (setNext a (slot:Int).toNat (i:Int).toNat (ep:Int).toNat >>= _) _ _ s
 rw[ay,ay,ay]
 refine aa (hN _ _ _ ?_)
 show wpAny _ _ (setField (.ref I) 2 .none >>= _) _ _ s
 refine aa (cJ hI rfl (by simp) ?_)
 show wpAny _ _ (newExc (.type "StopIteration") [] >>= _) _ _ _
 refine aa ?_
 simp only[newExc,newTuple]
 refine aa (cn ?_ (by size_fits))
 refine aa (m:=firstArgMember _ _) (ch (a:=Value.none) (by first|rfl|(simp only[firstArgMember];rfl)) ?_)
 refine cn ?_ (by size_fits)
 simp only[raiseNew]
 refine aa (wpAny_handled ?_)
 refine aw (show A.in1.handled=none from hh) ?_
 refine aa (ai (wpAny_throw ?_))
 refine aa (wpAny_isInstance (T := "StopIteration") (b:=true) ⟨_,aF _ rfl,rfl⟩ isSubtype_stop ?_)
 exact ai (hQ _ (((aM ..).extBut.push _).push _))
end
end Mine.Internal
end
section
namespace Mine.Internal
open PySem PyProof.Rows PySem.W PySem.SeqAt PySem.Spec
section
variable {prog:Program}{w:World}{A:Around}{E:Value→Shared→Prop}{s:Shared}{I a tp:Addr}{es:Array (Int×Value)}{ep:Nat}{t:SetTable}
noncomputable def zjr (ps:List Nat):Obj:={ cls:=.type "tuple", data:=.seq (ps.map λi=>rawInt (i:Nat)).toArray }
theorem zih {ps:List Nat}{v:Value}{i p:Nat}{hs:Int}(hI:s.heap.get? I=some (gy (.ref tp) i a es.size ep))(ho:s.heap.get? a=some (setO es ep t))(ht:s.heap.get? tp=some (zjr ps))(hf:t.fits es.size=true)
  (hp:ps[i]?=some p) (hv:es[p]?=some (hs,v)) {Q:Option Value→Shared→Prop}
  (hQ:∀h',h'.get? I=some (gy (.ref tp) (i+1) a es.size ep)→Heap.SameBut I s.heap h'→Q (some v) { s with heap:=h' }):wpAny (model prog w) A (pyNext (.ref I)) Q E s:=by
 have hT:s.TypeIs (.ref I) "set_iterator" := ⟨_,hI,rfl⟩
 unfold pyNext
 refine aa (fG (cK (name:=Str.ofString "__next__") hT SF.slot_next (bx SF.slot_next hT SF.entry_next ?_ (SF.args_next _))))
 unfold Builtin.«set_iterator.__next__»
 refine aa (ai ?_)
 refine aa (d4 hI rfl ?_)
 show wpAny _ _ (setEntries a >>= _) _ _ s
 refine aa (c7 ho rfl hf ?_)
 refine aw (if_neg (by simp)) ?_
 show wpAny _ _ (seqItems? (.ref tp) >>= _) _ _ s
 refine aa (dZ ht rfl ?_)
 have e1:(ps.map λi=>rawInt (i:Nat)).toArray[(i:Int).toNat]?=some (.int (p:Nat) 0):=by
  rw[ay,List.getElem?_toArray,aK,hp];rfl
 show wpAny _ _ (match (ps.map λi=>rawInt (i:Nat)).toArray[(i:Int).toNat]? with|some (.int place u)=>_|some _=>_|none=>_) _ _ s
 refine aw e1 ?_
 show wpAny _ _ (setNextDrawn a (p:Int).toNat (ep:Int).toNat >>= _) _ _ s
 rw[ay,ay]
 refine aa ?_
 unfold setNextDrawn
 refine aa (cX ho rfl hf ?_)
 dsimp only
 refine aw (if_neg (by simp)) (aw hv ?_)
 refine ai ?_
 show wpAny _ _ (setField (.ref I) 1 (rawInt ((i:Int)+1)) >>= _) _ _ s
 refine aa (cJ hI rfl (by simp) ?_)
 have h2:=zm1 hI 1 (rawInt ((i:Int)+1))
 exact ai ⟨_,rfl,ai (hQ _ h2 (aM ..))⟩
theorem zj8 {ps:List Nat}{i:Nat}(hh:A.handled=none)(hI:s.heap.get? I=some (gy (.ref tp) i a es.size ep))(ho:s.heap.get? a=some (setO es ep t))(ht:s.heap.get? tp=some (zjr ps))(hf:t.fits es.size=true)
  (hp:ps[i]?=none) {Q:Option Value→Shared→Prop}
  (hQ:∀h',Heap.ExtBut I s.heap h'→Q none { s with heap:=h' }):wpAny (model prog w) A (pyNext (.ref I)) Q E s:=by
 have hT:s.TypeIs (.ref I) "set_iterator" := ⟨_,hI,rfl⟩
 unfold pyNext
 refine aa (fG (cK (name:=Str.ofString "__next__") hT SF.slot_next (bx SF.slot_next hT SF.entry_next ?_ (SF.args_next _))))
 unfold Builtin.«set_iterator.__next__»
 refine aa (ai ?_)
 refine aa (d4 hI rfl ?_)
 show wpAny _ _ (setEntries a >>= _) _ _ s
 refine aa (c7 ho rfl hf ?_)
 refine aw (if_neg (by simp)) ?_
 show wpAny _ _ (seqItems? (.ref tp) >>= _) _ _ s
 refine aa (dZ ht rfl ?_)
 have e1:(ps.map λi=>rawInt (i:Nat)).toArray[(i:Int).toNat]?=none:=by
  rw[ay,List.getElem?_toArray,aK,hp];rfl
 show wpAny _ _ (match (ps.map λi=>rawInt (i:Nat)).toArray[(i:Int).toNat]? with|some (.int place u)=>_|some _=>_|none=>_) _ _ s
 refine aw e1 ?_
 show wpAny _ _ (setField (.ref I) 0 (rawInt 0) >>= _) _ _ s
 refine aa (cJ hI rfl (by simp) ?_)
 have h1:=zm1 hI 0 (rawInt 0)
 refine aa (cJ (s:={ s with heap:=_ }) h1 rfl (by simp) ?_)
 show wpAny _ _ (newExc (.type "StopIteration") [] >>= _) _ _ _
 refine aa ?_
 simp only[newExc,newTuple]
 refine aa (cn ?_ (by size_fits))
 refine aa (m:=firstArgMember _ _) (ch (a:=Value.none) (by first|rfl|(simp only[firstArgMember];rfl)) ?_)
 refine cn ?_ (by size_fits)
 simp only[raiseNew]
 refine aa (wpAny_handled ?_)
 refine aw (show A.in1.handled=none from hh) ?_
 refine aa (ai (wpAny_throw ?_))
 refine aa (wpAny_isInstance (T := "StopIteration") (b:=true) ⟨_,aF _ rfl,rfl⟩ isSubtype_stop ?_)
 exact ai (hQ _ ((((aM ..).trans (aM ..)).extBut.push _).push _))
noncomputable def zh4 (w:World):Bool:=w.params.followText "set-order"
theorem zi4 {α:Type}{l:List α}{i:Nat}(h:i<l.length):([l[i]]++l.eraseIdx i).Perm l:=by
 rw[List.eraseIdx_eq_take_drop_succ]
 have e:l.take i++l[i]::l.drop (i+1)=l:=by rw[List.getElem_cons_drop,List.take_append_drop]
 exact(List.perm_middle (l₁:=l.take i)).symm.trans (.of_eq e)
theorem zst {α:Type}(next:Nat→Nat):∀(fuel k:Nat) (l:List α) (out:Array α),l.length=fuel→(pickOrder.go next fuel k l out).toList.Perm (out.toList++l):=by
 intro fuel
 induction fuel with
 |zero=>intro k l out h;unfold pickOrder.go;rw[List.length_eq_zero_iff.mp h,bi]
 |succ fuel ih =>
  intro k l out h
  unfold pickOrder.go
  have hlt:next k % l.length<l.length:=Nat.mod_lt _ (by lia)
  rw[an hlt]
  dsimp only
  refine(ih _ _ _ (by rw[List.length_eraseIdx_of_lt hlt];lia)).trans ?_
  rw[dT,bf]
  exact List.Perm.append_left _ (zi4 hlt)
theorem zc7 {α:Type}(next:Nat→Nat)(es:Array α):(pickOrder next es).toList.Perm es.toList:=by
 have:=zst next es.size 0 es.toList #[] (by exact rfl)
 exact this
theorem zle (hb:zh4 w=true)(ho:s.heap.get? a=some (setO es ep t))(hf:t.fits es.size=true){slot i:Nat}(A:Around)(E:Value→Shared→Prop)(Q:Option (Value×Nat)→Shared→Prop)
  (hQ:Q ((pickOrder (w.params.setOrder a ep) es)[i]?.map λe=>(e.2,slot)) s):wpAny (model prog w) A (setNext a slot i ep) Q E s:=by
 unfold setNext
 refine aa (cX ho rfl hf ?_)
 dsimp only
 unfold setsByText
 refine aa (aa (cy (ai ?_)))
 rw[show(model prog w).w.params.followText "set-order" = true from hb,if_pos rfl,if_neg (by simp)]
 refine aa ?_
 unfold setWalk
 refine aa (cX ho rfl hf ?_)
 dsimp only
 unfold setsByText
 refine aa (aa (cy (ai ?_)))
 rw[show(model prog w).w.params.followText "set-order" = true from hb,if_pos rfl]
 exact aa (cy (ai (ai hQ)))
theorem ziw (hb:zh4 w=false)(hr:Rise (fW w) t)(hd:(!t.plain&&decide (es.size > 1))=false)(ho:s.heap.get? a=some (setO es ep t))(hf:t.fits es.size=true){slot i:Nat}(h1:∀k,k<i→t.place.getD k 0<slot)(h2:i<es.size→slot≤t.place.getD i 0)(hi:i≤es.size)(A:Around)(E:Value→Shared→Prop)(Q:Option (Value×Nat)→Shared→Prop)
  (hQ:Q (es[i]?.map λe=>(e.2,t.place.getD i 0+1)) s):wpAny (model prog w) A (setNext a slot i ep) Q E s:=by
 have hsz:t.place.size=es.size:=by
  unfold SetTable.fits at hf
  rw[aq,beq_iff_eq]at hf
  exact hf.1
 have hbe:SetTable.below t.place slot=i:=zwi hr.inc (by refine aw hsz ?_;exact hi) h1 (λq=>h2 (by exact dI hsz (q)))
 unfold setNext
 refine aa (cX ho rfl hf ?_)
 dsimp only
 unfold setsByText
 refine aa (aa (cy (ai ?_)))
 rw[show(model prog w).w.params.followText "set-order" = false from hb,if_neg (by decide)]
 have hl:t.led=true:=by rw[hr.led];unfold fW;rw[show w.params.followText "set-order" = false from hb];rfl
 refine eW (λhab=>absurd (show(!t.plain&&decide (es.size > 1))=true from hab) (by rw[hd];decide)) λu1=>?_
 refine aa ?_
 show wpAny _ _ (if (!t.led&&!es.isEmpty)=true then unsupported "set:maker-not-led" else pure ()) _ _ s
 rw[hl,if_neg (by simp)]
 refine ai (ai ?_)
 rw[hbe]
 by_cases c:i<es.size
 ·rw[aY c]at hQ ⊢
  rw[zoy (by rw[hsz];exact c)]
  exact hQ
 ·rw[Array.getElem?_eq_none (bl.mp c)]at hQ ⊢
  exact hQ
end
end Mine.Internal
end
section
namespace Mine.Internal
open PySem PyProof.Rows PySem.W PySem.SeqAt PySem.Spec
section
variable {prog:Program}{w:World}{A:Around}{E:Value→Shared→Prop}{s:Shared}{I a tp:Addr}{es:Array (Int×Value)}{ep:Nat}{t:SetTable}
theorem zjf {M:Model}{src:Source}{n:Nat}{Q:Nat→Shared→Prop}(hn:n≠0)(h:∀i d,i<n→Q i { s with drawn:=d }):wpAny M A (choose src n) Q E s:=λΓ p hΓ=>by
 unfold choose
 rw[Sem.wp_choose]
 exact⟨hn,h _ _ (Nat.mod_lt _ (dQ hn))⟩
theorem zks {M:Model}{α:Type}:∀(n:Nat) (xs:List α) (s:Shared) (Q:List α→Shared→Prop),xs.length=n→(∀ys d,ys.Perm xs→Q ys { s with drawn:=d })→wpAny M A (drawOrder n xs) Q E s:=by
 intro n
 induction n with
 |zero =>
  intro xs s Q hl h
  have:xs=[]:=List.length_eq_zero_iff.mp hl
  subst this
  unfold drawOrder
  exact ai (h [] s.drawn (.refl _))
 |succ n ih =>
  intro xs s Q hl h
  cases xs with
  |nil=>exact absurd hl (by simp)
  |cons x r =>
   unfold drawOrder
   refine aa (zjf (by simp) λi d hi=>?_)
   refine aw (an hi) ?_
   dsimp only
   refine aa (ih _ _ _ (by refine aw (List.length_eraseIdx_of_lt hi) (aw hl ?_);rfl) λys d' hp=>?_)
   exact ai (h _ d' ((hp.cons _).trans (zi4 hi)))
theorem zjm {first:Value}{i n:Nat}{Q:Value→Shared→Prop}(hI:s.heap.get? I=some (gy first i a n ep))(h:Q (.ref I) s):wpAny (model prog w) A (pyIter (.ref I)) Q E s:=by
 have hT:s.TypeIs (.ref I) "set_iterator" := ⟨_,hI,rfl⟩
 refine wpAny_pyIter_slot hT SF.slot_iter_iter (bx SF.slot_iter_iter hT SF.entry_iter_iter ?_ (SF.args_iter_iter _))
 show wpAny _ _ (ret (.ref I)) _ _ s
 exact ai ⟨_,rfl, "set_iterator", _,hT,SF.slot_next.lookup,h⟩
inductive PlSt (I a:Addr)(es:Array (Int×Value))(ep:Nat)(t:SetTable)(i:Nat)(h:Heap):Prop
 |mk (slot:Nat) (u:Tok) (hI:h.get? I=some (gy (.int slot u) i a es.size ep)) (h1:∀k,k<i→t.place.getD k 0<slot) (h2:i<es.size→slot≤t.place.getD i 0) (ho:h.get? a=some (setO es ep t)):PlSt I a es ep t i h
theorem Walks.setPlace (hb:zh4 w=false)(hr:Rise (fW w) t)(hd:(!t.plain&&decide (es.size > 1))=false)(hf:t.fits es.size=true)(hne:a≠I)(hh:A.handled=none) :
  Walks prog w A I [I,a] [I] es.size (λi v=>∃hs,es.toList[i]?=some (hs,v)) (PlSt I a es ep t) where
 sub:=λb hb=>ac.mp hb▸aj
 frame:=λi h h' st hk=>by
  obtain⟨slot,u,hI,h1,h2,ho⟩:=st
  exact⟨slot,u,hk I aj _ hI,h1,h2,hk a (af _ aj) _ ho⟩
 item:=λi s Q E hi st hQ=>by
  obtain⟨slot,u,hI,h1,h2,ho⟩:=st
  refine zfn (v:=es[i].2) (nxt:=t.place.getD i 0+1) hI ho hf (λA E Q hq=>ziw hb hr hd ho hf h1 h2 (bG hi) A E Q (by rw[aY hi];exact hq)) λh' hI' hs=>?_
  refine hQ _ h' s.toks ⟨es[i].1,by rw[ba,aY hi]⟩ ⟨_,_,hI',λk hk=>?_,λhk=>?_,(hs.2 a hne).trans ho⟩ λb o hb e=>(hs.2 b λq=>hb (ac.mpr q)).trans e
  ·rcases Nat.lt_succ_iff_lt_or_eq.mp hk with q|q
   ·exact bg (hr.inc k i q (by unfold SetTable.fits at hf;rw[aq,beq_iff_eq]at hf;rw[hf.1];exact hi))
   ·rw[q];exact aQ _
  ·exact hr.inc i (i+1) (aQ i) (by unfold SetTable.fits at hf;rw[aq,beq_iff_eq]at hf;rw[hf.1];exact hk)
 done:=λs Q E st hQ=>by
  obtain⟨slot,u,hI,h1,h2,ho⟩:=st
  exact zgi hh hI ho hf (λA E Q hq=>ziw hb hr hd ho hf h1 h2 (aB _) A E Q (by rw[Array.getElem?_eq_none (aB _)];exact hq)) λh' hs=>hQ h' s.toks λb o hb e=>hs b o (λq=>hb (ac.mpr q)) e
 self:=λi s Q E st hQ=>by
  obtain⟨slot,u,hI,_⟩:=st
  exact zjm hI hQ
inductive TxSt (I a:Addr)(es:Array (Int×Value))(ep:Nat)(t:SetTable)(i:Nat)(h:Heap):Prop
 |mk (slot:Nat) (u:Tok) (hI:h.get? I=some (gy (.int slot u) i a es.size ep)) (ho:h.get? a=some (setO es ep t)):TxSt I a es ep t i h
theorem Walks.setText (hb:zh4 w=true)(hf:t.fits es.size=true)(hne:a≠I)(hh:A.handled=none) :
  Walks prog w A I [I,a] [I] es.size (λi v=>∃hs,(pickOrder (w.params.setOrder a ep) es).toList[i]?=some (hs,v)) (TxSt I a es ep t) where
 sub:=λb hb=>ac.mp hb▸aj
 frame:=λi h h' st hk=>by
  obtain⟨slot,u,hI,ho⟩:=st
  exact⟨slot,u,hk I aj _ hI,hk a (af _ aj) _ ho⟩
 item:=λi s Q E hi st hQ=>by
  obtain⟨slot,u,hI,ho⟩:=st
  have hsz:(pickOrder (w.params.setOrder a ep) es).size=es.size:=by have:=(zc7 (w.params.setOrder a ep) es).length_eq;exact this
  have hi':i<(pickOrder (w.params.setOrder a ep) es).size:=by exact aw hsz hi
  refine zfn (v:=(pickOrder (w.params.setOrder a ep) es)[i].2) (nxt:=slot) hI ho hf (λA E Q hq=>zle hb ho hf A E Q (by rw[aY hi'];exact hq)) λh' hI' hs=>?_
  exact hQ _ h' s.toks ⟨_,by rw[ba,aY hi']⟩ ⟨_,_,hI',(hs.2 a hne).trans ho⟩ λb o hb e=>(hs.2 b λq=>hb (ac.mpr q)).trans e
 done:=λs Q E st hQ=>by
  obtain⟨slot,u,hI,ho⟩:=st
  have hsz:(pickOrder (w.params.setOrder a ep) es).size=es.size:=by have:=(zc7 (w.params.setOrder a ep) es).length_eq;simpa using this
  exact zgi hh hI ho hf (λA E Q hq=>zle hb ho hf A E Q (by rw[Array.getElem?_eq_none (by rw[hsz];exact aB _)];exact hq)) λh' hs=>hQ h' s.toks λb o hb e=>hs b o (λq=>hb (ac.mpr q)) e
 self:=λi s Q E st hQ=>by
  obtain⟨slot,u,hI,_⟩:=st
  exact zjm hI hQ
inductive DrSt (I a tp:Addr)(ps:List Nat)(es:Array (Int×Value))(ep:Nat)(t:SetTable)(i:Nat)(h:Heap):Prop
 |mk (hI:h.get? I=some (gy (.ref tp) i a es.size ep)) (ho:h.get? a=some (setO es ep t)) (ht:h.get? tp=some (zjr ps)):DrSt I a tp ps es ep t i h
theorem Walks.setDrawn {ps:List Nat}(hp:ps.Perm (List.range es.size))(hf:t.fits es.size=true)(hne:a≠I)(hnt:tp≠I)(hh:A.handled=none) :
  Walks prog w A I [I,a,tp] [I] es.size (λi v=>∃hs,(ps.filterMap λj=>es[j]?)[i]?=some (hs,v)) (DrSt I a tp ps es ep t) where
 sub:=λb hb=>ac.mp hb▸aj
 frame:=λi h h' st hk=>by
  obtain⟨hI,ho,ht⟩:=st
  exact⟨hk I aj _ hI,hk a (af _ aj) _ ho,hk tp (af _ (af _ aj)) _ ht⟩
 item:=λi s Q E hi st hQ=>by
  obtain⟨hI,ho,ht⟩:=st
  have hlen:ps.length=es.size:=by exact aw hp.length_eq (aw aC rfl)
  have hi':i<ps.length:=by exact aw hlen hi
  have hj:ps[i]<es.size:=ax.mp (hp.mem_iff.mp (cc hi'))
  have all:∀l:List Nat,(∀j∈l,j<es.size)→(l.filterMap λj=>es[j]?)=l.map λj=>es.getD j (0,.none):=λl=>by
   induction l with
   |nil=>exact λu1=>rfl
   |cons j l ih =>
    intro hl
    have h0:=hl j aj
    refine aw (List.filterMap_cons_some (aY h0)) (aw aN (aw (ih λk hk=>hl k (af _ hk)) ?_))
    refine aw (aT) (aw (aY h0) ?_);rfl
  refine zih (v:=es[ps[i]].2) (hs:=es[ps[i]].1) hI ho ht hf (an hi') (aY hj) λh' hI' hs=>?_
  refine hQ _ h' s.toks ⟨es[ps[i]].1,?_⟩ ⟨hI',(hs.2 a hne).trans ho,(hs.2 tp hnt).trans ht⟩ λb o hb e=>(hs.2 b λq=>hb (ac.mpr q)).trans e
  refine aw (all ps λj hj=>ax.mp (hp.mem_iff.mp hj)) (aw (aK) (aw (an hi') ?_))
  show some (es.getD ps[i] (0,.none))=_
  refine aw (aT) (aw (aY hj) ?_);rfl
 done:=λs Q E st hQ=>by
  obtain⟨hI,ho,ht⟩:=st
  have hlen:ps.length=es.size:=by exact aw hp.length_eq (aw aC rfl)
  exact zj8 hh hI ho ht hf (bB (by rw[hlen];exact aB _)) λh' hs=>hQ h' s.toks λb o hb e=>hs b o (λq=>hb (ac.mpr q)) e
 self:=λi s Q E st hQ=>zjm (by obtain⟨hI,_,_⟩:=st;exact hI) hQ
end
end Mine.Internal
end
section
namespace Mine.Internal
open PySem PyProof.Rows PySem.W PySem.SeqAt PySem.Spec
section
variable {prog:Program}{w:World}{A:Around}{E:Value→Shared→Prop}{s:Shared}{a:Addr}{es:Array (Int×Value)}{ep:Nat}{t:SetTable}
theorem zm3 (ho:s.heap.get? a=some (setO es ep t))(hf:t.fits es.size=true){Q:Bool→Shared→Prop}(h:Q (!zh4 w&&(!t.plain&&decide (es.size > 1))) s):wpAny (model prog w) A (setDrawn a) Q E s:=by
 unfold setDrawn
 refine aa (cX ho rfl hf ?_)
 dsimp only
 unfold setsByText
 refine aa (aa (cy (ai ?_)))
 exact ai h
noncomputable def z12 (prog:Program)(w:World)(h h':Heap)(I a:Addr)(es:Array (Int×Value)):Prop :=
 ∃(es':List (Int×Value)) (fp:List Addr) (St:Nat→Heap→Prop),es'.Perm es.toList∧(∀b∈fp,b=a∨h.objs.size≤b)∧(∀A':Around,A'.handled=none→Walks prog w A' I fp [I] es.size (λi v=>∃hs,es'[i]?=some (hs,v)) St)∧St 0 h'
theorem zvc (hr:Rise (fW w) t)(ho:s.heap.get? a=some (setO es ep t))(hf:t.fits es.size=true)(hb:es.size<scanBound){Q:Value→Shared→Prop}
  (hQ:∀I h' d,s.heap.objs.size≤I→(∀b o,s.heap.get? b=some o→h'.get? b=some o)→z12 prog w s.heap h' I a es→Q (.ref I) { s with heap:=h',drawn:=d }):wpAny (model prog w) A (pyIter (.ref a)) Q E s:=by
 have hT:s.TypeIs (.ref a) "set" := ⟨_,ho,rfl⟩
 have hlt:a<s.heap.objs.size:=aR ho
 refine wpAny_pyIter_slot hT F.slot_set_iter (bx F.slot_set_iter hT SF.entry_iter ?_ (SF.args_iter _))
 unfold Builtin.«frozenset.__iter__»
 refine aa ?_
 show wpAny _ _ (pure a) _ _ s
 refine ai ?_
 refine aa ?_
 unfold Builtin.Frozenset.sizeOf
 refine aa (c7 ho rfl hf (ai ?_))
 refine aa (zm3 ho hf ?_)
 have plain:∀(x:Value) (s₁:Shared),s₁.heap.get? a=some (setO es ep t)→(∀I h',I=s₁.heap.objs.size→h'=s₁.heap.push (gy x 0 a es.size ep)→Q (.ref I) { s₁ with heap:=h' }) →
   wpAny (model prog w) A.in1 (do ret (←newFields "set_iterator" [x,rawInt 0,.ref a,rawInt es.size,rawInt (←setEpoch a)])) (λfin s'=>∃r,fin=.done (.ret r)∧∃T' q,s'.TypeIs r T'∧typeLookup (.type T') "__next__" = pure (some q)∧Q r s') E s₁:=λx s₁ ho₁ hq=>by
  refine aa (wpAny_setEpoch_of ho₁ rfl hf ?_)
  refine aa (cn ?_)
  exact ai ⟨_,rfl, "set_iterator", _,⟨_,aF _ rfl,rfl⟩,SF.slot_next.lookup,hq _ _ rfl rfl⟩
 by_cases hdr:(!zh4 w&&(!t.plain&&decide (es.size > 1)))=true
 ·refine aw (if_pos hdr) ?_
  refine aa (zks es.size (List.range es.size) _ _ aC λps d hp=>?_)
  refine aa (d3 ?_ (by rw[ae,hp.length_eq,aC];exact dy hb))
  refine plain _ _ (al _ ho) λI h' hI hh=>?_
  subst hh
  dsimp only at hI
  have hI:I=s.heap.objs.size+1:=hI.trans (cw ..)
  refine hQ I _ d (by refine aw hI ?_;exact cV _) (λb o e=>al _ (al _ e)) ⟨_,[I,a,s.heap.objs.size],DrSt I a s.heap.objs.size ps es ep t,?_,λb hb=>?_,λA' hA=>Walks.setDrawn hp hf (by refine aw hI ?_;exact aL (bg hlt)) (by rw[hI];exact aL (aQ _)) hA,?_⟩
  ·exact(hp.filterMap _).trans (by rw[filterMap_getElem?_range])
  ·rcases au.mp hb with q|q
   ·exact .inr (by rw[q,hI];exact cV _)
   ·rcases au.mp q with q|q
    ·exact .inl q
    ·exact .inr (bj (ac.mp q).symm)
  ·refine⟨?_,al _ (al _ ho),al _ (aF _ rfl)⟩
   have:=aF (o:=gy (.ref s.heap.objs.size) 0 a es.size ep) (s.heap.push (zjr ps)) rfl
   rw[cw]at this
   rw[hI];exact this
 ·rw[if_neg hdr]
  refine aa (ai ?_)
  refine plain _ _ ho λI h' hI hh=>?_
  subst hh
  subst hI
  have hne:a≠s.heap.objs.size:=aL hlt
  have hI0:(s.heap.push (gy (rawInt 0) 0 a es.size ep)).get? s.heap.objs.size=some (gy (.int (0:Nat) 0) 0 a es.size ep):=aF _ rfl
  have fp:∀b∈[s.heap.objs.size,a],b=a∨s.heap.objs.size≤b:=λb hb=>by
   rcases au.mp hb with q|q
   ·exact .inr (bj q.symm)
   ·exact .inl (ac.mp q)
  refine hQ _ _ s.drawn (aB _) (λb o e=>al _ e) ?_
  cases hbt:zh4 w with
  |true=>exact⟨_,[s.heap.objs.size,a],TxSt s.heap.objs.size a es ep t,zc7 _ es,fp,λA' hA=>Walks.setText hbt hf hne hA,⟨0,0,hI0,al _ ho⟩⟩
  |false =>
   have hd:(!t.plain&&decide (es.size > 1))=false:=by
    rw[hbt]at hdr
    simpa using hdr
   exact⟨_,[s.heap.objs.size,a],PlSt s.heap.objs.size a es ep t,.refl _,fp,λA' hA=>Walks.setPlace hbt hr hd hf hne hA,⟨0,0,hI0,λk h=>absurd h (aW _),λu1=>aU _,al _ ho⟩⟩
theorem zvd {r:Addr}{Q:Bool→Shared→Prop}(hT:s.TypeIs (.ref r) "set") (h:Q false s):wpAny (model prog w) A (Builtin.List.listLengthHint (.ref r)) Q E s:=by
 unfold Builtin.List.listLengthHint
 refine aa (wpAny_specialOf hT PySem.F.slot_set_len.lookup ?_)
 generalize hid:("set.__len__" : String)=id0
 wp_delta
 refine aw (show splitId id0=some ("set", "__len__")from by subst hid;decide +kernel) ?_
 subst hid
 refine aa (wpAny_isInstance (T := "set") (b:=true) hT (by rw[cL];kernel_rfl) ?_)
 refine eW (λhab=>absurd hab (by decide)) (λu1=>?_)
 refine eW (λu1=>?_) (λhab=>absurd (by decide +kernel) hab)
 refine aa (wpAny_typeOf hT ?_)
 exact ai h
theorem zm6 (hh:A.handled=none)(hr:Rise (fW w) t)(ho:s.heap.get? a=some (setO es ep t))(hf:t.fits es.size=true)(hb:es.size<scanBound){Q:List Value→Shared→Prop}
  (hQ:∀vs h' tk d,vs.Perm (es.toList.map (λx=>x.2))→(∀b o,s.heap.get? b=some o→h'.get? b=some o)→Q vs { s with heap:=h',toks:=tk,drawn:=d }):wpAny (model prog w) A (collect (.ref a)) Q E s:=by
 have hlt:a<s.heap.objs.size:=aR ho
 unfold collect
 refine aa (wpAny_runValue (cb F.entry_proto_collect ?_))
 rw[bT F.plain_proto_collect _]
 show wpAny _ A.in1 (newList [] >>= λl=>again (.builtin "list.__iadd__" ⟨[l,.ref a],[]⟩)) _ _ s
 refine aa (cn ?_)
 refine ai ⟨cS F.plain_list_iadd _,cb F.entry_list_iadd ?_⟩
 rw[bT F.plain_list_iadd _]
 show wpAny _ A.in1 (Builtin.List.listExtendWith (.ref s.heap.objs.size) (.ref a) (.ref s.heap.objs.size)) _ _ _
 have hS0:(s.heap.push { cls:=.type "list", data:=.seq ([]:List Value).toArray }).get? s.heap.objs.size=some { cls:=.type "list", data:=.seq #[] 0 }:=aF _ rfl
 have ho0:=al { cls:=.type "list", data:=.seq ([]:List Value).toArray } ho
 have hT0:Shared.TypeIs { s with heap:=s.heap.push { cls:=.type "list", data:=.seq ([]:List Value).toArray } } (.ref a) "set" := ⟨_,ho0,rfl⟩
 unfold Builtin.List.listExtendWith
 refine aa (wpAny_typeOf hT0 ?_)
 have e1:Builtin.List.listSameRef (.ref s.heap.objs.size) (.ref a)=false:=by simp[Builtin.List.listSameRef,bE hlt]
 have e2:(Value.type "set" == Value.type "list")=false:=by decide
 have e3:(Value.type "set" == Value.type "tuple")=false:=by decide
 simp only[e1,e2,e3,dY,bS,if_false]
 refine aa (zvc hr ho0 hf hb λI h1 d hI hk1 hw=>?_)
 dsimp only at hI
 rw[cw]at hI
 have ho1:=hk1 _ _ ho0
 have hS1:=hk1 _ _ hS0
 refine aa (aV (zvd ⟨_,ho1,rfl⟩ ?_))
 (refine x3a4 hw λes' fp St hp hfp W st0=>?_)
 have hSf:s.heap.objs.size∉fp:=λq=>(hfp _ q).elim (λe=>bE hlt e) λe=>by
  dsimp only at e
  rw[cw]at e
  exact dB _ e
 have hIS:s.heap.objs.size≠I:=λe=>by rw[←e]at hI;exact dB _ hI
 have key:∀(R:Result→Shared→Prop) (h2:Heap) (c₁:Nat),St 0 h2→(∀b o,b≠s.heap.objs.size→h1.get? b=some o→h2.get? b=some o)→h2.get? s.heap.objs.size=some { cls:=.type "list", data:=.seq #[] c₁ } →
   (∀s' acc' c',s'.heap.get? s.heap.objs.size=some { cls:=.type "list", dict:=none,data:=.seq acc' c',slots:=#[] }→Q acc'.toList s'→R (.ok (.ret (.ref s.heap.objs.size))) s') →
   codeAny (model prog w) A (.builtin "list.extend.loop" ⟨[.ref s.heap.objs.size,.ref I,.ref s.heap.objs.size],[]⟩) R { s with heap:=h2,drawn:=d }:=λR h2 c₁ st hk hS2 hR=>by
  refine codeAny_extend_loopS (W A.in1 (by simp[hh])).toS (dy hb) s.heap.objs.size hSf _ es.size 0 _ #[] c₁ rfl (aU _) st hS2 (ItemsOf.nil _) λs' acc' c' hm hS' hacc=>hR s' acc' c' hS' ?_
  have es'':s'={ s with heap:=s'.heap,toks:=s'.toks,drawn:=d }:=Moved.eq_with hm
  have hvs:acc'.toList=es'.map (λx=>x.2):=by
   refine cQ λi=>?_
   by_cases c:i<es.size
   ·have hi:i<acc'.size:=by rw[hacc.1];exact c
    (refine x1a1 (hacc.2 i _ (aY hi)) λhs q=>?_)
    rw[ba,aY hi,aK,q];rfl
   ·rw[bB (by rw[aA,hacc.1];exact bl.mp c),bB (by rw[ae,hp.length_eq,aA];exact bl.mp c)]
  rw[hvs,es'']
  refine hQ _ _ _ _ (hp.map _) λb o e=>?_
  have hb':=aR e
  refine hm.heap b o ?_ (hk b o (aL hb') (hk1 b o (al _ e)))
  intro q
  refine cF (au.mp q) (λq=>?_) λq=>?_
  ·exact aL hb' q
  ·exact aL (ag hb' (dW hI)) (ac.mp q)
 have last:∀(s':Shared) (acc':Array Value) (c':Nat),s'.heap.get? s.heap.objs.size=some { cls:=.type "list", dict:=none,data:=.seq acc' c',slots:=#[] }→Q acc'.toList s' →
   wpAny (model prog w) A (load s.heap.objs.size >>= λo=>match o.data with | .seq xs _=>pure xs.toList|_=>unsupported "internal:collect") Q E s':=λs' acc' c' hS' hq =>
  aa (wpAny_load hS' (ai hq))
 refine eW (λu1=>?_) (λu1=>ai ⟨cS PySem.F.plain_extend_loop _,key _ _ _ st0 (λb o u1 e=>e) hS1 λs' acc' c' hS' hq=>last s' acc' c' hS' hq⟩)
 refine aa (cP ?_)
 refine aa ?_
 show wpAny _ _ (updateSeq s.heap.objs.size (·.push .none) >>= λu1=>updateSeq s.heap.objs.size (λx=>x.pop)) _ _ _
 refine aa (wpAny_updateSeq hS1 rfl ?_)
 have hS₂:=bc (Obj.mapSeq (·.push Value.none)) hS1 rfl
 refine wpAny_updateSeq (hz:=by seq_fits) hS₂ rfl ?_
 have hS₃:=bc (Obj.mapSeq (λx=>x.pop)) hS₂ rfl
 refine ai ⟨cS PySem.F.plain_extend_loop _,key _ _ _ ?_ (λb o hb e=>?_) hS₃ λs' acc' c' hS' hq=>last s' acc' c' hS' hq⟩
 ·refine(W A.in1 (by simp[hh])).frame 0 _ _ st0 λb hb o e=>?_
  have hbS:b≠s.heap.objs.size:=λh=>hSf (h▸hb)
  exact(de _ _ (cG hbS)).trans ((de _ _ (cG hbS)).trans e)
 ·exact(de _ _ (cG hb)).trans ((de _ _ (cG hb)).trans e)
end
end Mine.Internal
end
section
namespace Mine.Internal
open PySem PyProof.Rows PySem.W PySem.SeqAt PySem.Spec
section
variable {prog:Program}{w:World}{K:Type}[DecidableEq K]{knd:KeyKind prog w K}{A:Around}{E:Value→Shared→Prop}{s:Shared}
inductive KvOf (knd:KeyKind prog w K):List K→List Value→Prop
 |nil:KvOf knd [] []
 |cons {k:K} {v:Value} {ks:List K} {vs:List Value}:knd.is k v=true→KvOf knd ks vs→KvOf knd (k::ks) (v::vs)
theorem KsOf.kv {ks:List K}{es:List (Int×Value)}(h:KsOf knd ks es):KvOf knd ks (es.map (λx=>x.2)):=by
 induction h with
 |nil=>exact .nil
 |cons h1 _ _ ih=>exact .cons h1 ih
theorem KvOf.perm {vs vs':List Value}(p:vs.Perm vs'):∀{ks:List K},KvOf knd ks vs→∃ks',KvOf knd ks' vs'∧ks'.Perm ks:=by
 induction p with
 |nil=>exact λh=>⟨_,h,.refl _⟩
 |cons x _ ih =>
  intro ks h
  cases h with
  |cons h1 h3=>exact(ih h3).elim λks' q=>⟨_::ks',.cons h1 q.1,q.2.cons _⟩
 |swap x y l =>
  intro ks h
  cases h with
  |cons h1 h3 =>
   cases h3 with
   |cons h4 h6=>exact⟨_,.cons h4 (.cons h1 h6),.swap ..⟩
 |trans _ _ ih1 ih2=>exact λh=>(ih1 h).elim λks1 q1=>(ih2 q1.1).elim λks2 q2=>⟨ks2,q2.1,q2.2.trans q1.2⟩
theorem KvOf.len {ks:List K}{vs:List Value}(h:KvOf knd ks vs):vs.length=ks.length:=by
 induction h with
 |nil=>rfl
 |cons _ _ ih=>exact aw bp (aw bp (aw ih rfl))
theorem KvOf.at [Inhabited K]{ks:List K}{vs:List Value}(h:KvOf knd ks vs){i:Nat}(hi:i<ks.length):knd.is (ks.getD i default) (vs.getD i .none)=true:=by
 induction h generalizing i with
 |nil=>exact absurd hi (aW _)
 |cons h1 _ ih =>
  cases i with
  |zero=>exact h1
  |succ i=>exact ih (dg hi)
theorem KvOf.mem {ks:List K}{vs:List Value}(h:KvOf knd ks vs){v:Value}(hv:v∈vs):∃k,knd.is k v=true:=by
 induction h with
 |nil=>exact nomatch hv
 |cons h1 _ ih=>exact(au.mp hv).elim (λe=>⟨_,e▸h1⟩) ih
end
section
variable {prog:Program}{w:World}{A:Around}{E:Value→Shared→Prop}{s:Shared}{h:Heap}
noncomputable def jb (a b:Str):Bool:=decide (a.cps.toList<b.cps.toList)
theorem zdd (a b:Str)(h:jb a b=true):jb b a=false:=by
 unfold jb at *
 rw[decide_eq_true_eq]at h
 rw[decide_eq_false_iff_not]
 exact λq=>List.lt_irrefl _ (List.lt_trans h q)
theorem z1a {ks:List Int}{vs:List Value}(h:KvOf (intKind prog w) ks vs):IntsAre vs ks:=by
 induction h with
 |nil=>exact .nil
 | @cons k v ks vs h1 _ ih =>
  (refine x1a1 (dS h1) λt z1=>?_;subst z1)
  exact .cons k t ih
theorem zyd {x y:Str}{t u:Tok}{Q:Bool→Shared→Prop}(h:Q (decide (x.cps.toList<y.cps.toList)) s):wpAny (model prog w) A (keyLt' oneType' (.str x t) (.str y u)) Q E s:=oneLt_str h
theorem zk1 {vs:List Value}{ns ys:List Str}(hI:KvOf (strKind prog w) ns vs)(h2:2≤vs.length)(hp:ys.Perm ns)(hy:ys.Pairwise λa b=>jb a b=true):iS prog w A h vs (f8 ys ns):=λs' Q hk hq =>
 kas_kind h2 (T:=.type "str") (λv hv=>(hI.mem hv).elim λk q=>by(refine x1a1 (dF q) λt z1=>?_;subst z1);exact dp rfl) rfl rfl (hq _ ⟨λi j hi hj e=>zjn zdd hy hp (hI.len▸hi) (hI.len▸hj) e,λi j C hi hj hC=>by
  (refine x1a1 (dF (hI.at (hI.len▸hi))) λt e1=>?_)
  (refine x1a1 (dF (hI.at (hI.len▸hj))) λu e2=>?_)
  unfold kas_ask
  refine aw e1 (aw e2 ?_)
  refine zyd ?_
  have:=zk6 zdd hy (i6 hp (hI.len▸hi)) (i6 hp (hI.len▸hj))
  unfold f8 at hC
  rw[this]at hC
  exact hC⟩)
theorem zp0 {a:Addr}{es:Array (Int×Value)}{ep:Nat}{t:SetTable}{Q:Value→Shared→Prop}(hh:A.handled=none)(hr:Rise (fW w) t)(ho:s.heap.get? a=some (setO es ep t))(hf:t.fits es.size=true)(hb:es.size<64)
  (h:∀(vs:List Value),vs.Perm (es.toList.map (λx=>x.2))→∃c:Nat→Int,(2≤vs.length→iS prog w A.in1.in1 s.heap vs c) ∧
   ∀(p:Array Nat) h' b k tk d,Arr vs.length p→fO c p vs.length→s.heap.get? b=none→(∀g x,s.heap.get? g=some x→g<b)→(∀g x,s.heap.get? g=some x→h'.get? g=some x)→h'.get? b=some { cls:=.type "list", data:=.seq (List.toArray (p.toList.map λi=>vs.getD i .none)) k }→Q (.ref b) { s with heap:=h',toks:=tk,drawn:=d }) :
  wpAny (model prog w) A (call (.builtin "sorted") [.ref a]) Q E s:=by
 refine cY kind_sorted plain_sorted entry_sorted (args_sorted1 _) ?_
 unfold Builtin.«sorted»
 refine aa (m:=checkCount "sorted" 1 1 _) (ai ?_)
 have h64:es.size<scanBound:=ag hb (by decide)
 refine aa (zm6 (A:=A.in1) (by simp[hh]) hr ho hf h64 λvs h1 tk d hp hk1=>?_)
 have hl:vs.length=es.size:=by rw[hp.length_eq,ae,aA]
 (refine x1a2 (h vs hp) λc hs h=>?_)
 refine aa (dK ?_ (by rw[hl];exact dy h64))
 have hoL:(h1.push (seqObj "list" vs.toArray 0)).get? h1.objs.size=some (seqObj "list" vs.toArray 0):=aF _ rfl
 have hne:∀b o,s.heap.get? b=some o→b≠h1.objs.size:=λb o e=>aL (aR (hk1 b o e))
 refine aa (aV (bx slot_list_sort ⟨_,hoL,rfl⟩ entry_list_sort (zsg (s:={ s with heap:=h1.push (seqObj "list" vs.toArray 0),toks:=tk,drawn:=d }) (c:=c) hoL (by rw[hl];exact hb) (λh2 s' Q' hk hq=>?_) (λp h' k a1 a2 a3 a4=>?_)) (args_list_sort _)))
 ·exact hs h2 s' Q' (λb o e=>hk b o (hne b o e) (al _ (hk1 b o e))) hq
 ·exact⟨_,rfl,ai ⟨_,rfl,h p h' _ k tk d a1 a2 (by cases e:s.heap.get? h1.objs.size with|none=>rfl|some o=>exact absurd rfl (hne _ _ e)) (λg x e=>aR (hk1 g x e)) (λb o e=>a3 b o (hne b o e) (al _ (hk1 b o e))) a4⟩⟩
end
end Mine.Internal
end
section
namespace Mine.Internal
open PySem PyProof.Rows PySem.W PySem.SeqAt PySem.Spec
noncomputable def gf {κ:Type}[DecidableEq κ]:List κ→List κ
 | []=>[]
 |a::l=>if a∈l then gf l else a::gf l
theorem ddp_mem {κ:Type}[DecidableEq κ]{l:List κ}{x:κ}:x∈gf l↔x∈l:=by
 induction l with
 |nil=>exact Iff.rfl
 |cons a l ih =>
  unfold gf
  split
  ·rename_i h
   rw[ih,au]
   exact⟨.inr,λq=>q.elim (λe=>e▸h) id⟩
  ·rw[au,au,ih]
theorem zh0 {κ:Type}[DecidableEq κ](l:List κ):(gf l).Nodup:=by
 induction l with
 |nil=>exact bR
 |cons a l ih =>
  unfold gf
  split
  ·exact ih
  ·rename_i h
   exact List.nodup_cons.mpr ⟨λq=>h (ddp_mem.mp q),ih⟩
theorem znb {κ:Type}[DecidableEq κ]{l m:List κ}(h1:l.Nodup)(h2:m.Nodup)(h:∀x,x∈l↔x∈m):l.Perm m:=(List.perm_ext_iff_of_nodup h1 h2).mpr h
section
variable {C:Cx}{n:Nat}{Γ:cA}{env:Env}{W:Wd}{A:Around}{s:Shared}{st:St}{β γ:Type}
structure EvR (C:Cx)(n:Nat)(Γ:cA)(e:Expr)(f:K β)(R:Wd→β→Value→Prop):Prop where
 run:∀A env W st s,AOk C n A→Inv C Γ env W st s.heap→Run C Γ env W A s (eval e env) (f st) R
theorem Ev.toR {e:Expr}{f:K AV}(h:Ev C n Γ e f):EvR C n Γ e f VR:=⟨h.run⟩
theorem EvR.toEv {e:Expr}{f:K AV}(h:EvR C n Γ e f VR):Ev C n Γ e f:=⟨h.run⟩
theorem EvR.call1 {x:Str}{np pos:Pos}{e:Expr}{f:Value}{g:K β}{F:β→K γ}{R:Wd→β→Value→Prop}{R':Wd→γ→Value→Prop}(hf:Ev C n Γ (.Name x np) (K.ret (.val f)))(hc:Callee C f)(he:EvR C n Γ e g R)(hst:fj e=false)
  (hF:∀{A env W st s b v},AOk C n A→Inv C Γ env W st s.heap→R W b v→Run C Γ env W A s (call f [v]) (F b st) R'):EvR C n Γ (.Call (.Name x np) [e] [] pos) (K.bind g F) R':=by
 refine⟨λA env W st s ok I v st' e' Q E hq=>?_⟩
 refine wpAny_Call_ofName (hf.run A env W st s ok I _ _ rfl _ _ λfv W0 h0 tk0 I0 k0 v0=>?_)
 cases v0
 have hl:lone [e]=false:=by unfold lone;exact hst
 refine zbz (P:=λh=>∀b o,C.h₀.get? b=some o→h.get? b=some o) (hc _) (zbg (zfr hl) rfl ?_)
 refine K.bindE e' λb st₁ e1 e2=>wpAny_items_cons (he.run A env W0 st (mv s h0 tk0) ok I0 b st₁ e1 _ _ λva W1 h1 tk1 I1 k1 hp=>Calls.spliced_nil (ai ⟨I1.rel.old,?_⟩)) (ze1 hst)
 exact hF (s:=mv s h1 tk1) ok I1 hp v st' e2 _ _ λr W2 h2 tk2 I2 k2 v2=>hq r W2 h2 tk2 I2 (k0.trans (k1.trans k2)) v2
theorem Inv.immAt {h':Heap}{a:Addr}{o:Obj}(I:Inv C Γ env W st s.heap)(hk:∀b x,s.heap.get? b=some x→h'.get? b=some x)(ha:s.heap.get? a=none)(ho:h'.get? a=some o) :
  Inv C Γ env ⟨W.φ,(a,o)::W.ι⟩ st h'∧Keep W ⟨W.φ,(a,o)::W.ι⟩ [] s.heap h':=by
 have x:=I.kept hk
 have le:W.Le ⟨W.φ,(a,o)::W.ι⟩:=⟨⟨[],(bi _).symm⟩,λp hp=>af _ hp⟩
 have ne:∀b y,s.heap.get? b=some y→b≠a:=λb y e q=>by rw[q,ha]at e;exact ns e
 have R:=x.1.rel
 have nφ:a∉W.φ:=λq=>by
  obtain⟨i,hi,e⟩:=bI.mp q
  have hi':i<st.σ.length:=I.rel.len▸hi
  exact(I.rel.objs i _ _ (an hi') (an hi)).there.elim λy hy=>ne _ _ hy e
 have k:Keep W ⟨W.φ,(a,o)::W.ι⟩ [] s.heap h':=.of le (λb y e u1 u2=>hk _ _ e) (λb y e=>⟨y,hk _ _ e⟩) (λu1 h1 h2=>absurd h1 h2) (λp hp=>(au.mp hp).elim (λq=>.inr (by rw[q];exact ha)) .inl)
 refine⟨I.keep ⟨R.ok,R.old,λp hp=>?_,R.len,R.nodup,λp hp=>?_,R.new,R.big,λi y b e eb=>(R.objs i y b e eb).mono le,λenv he=>?_⟩ k,k⟩
 ·exact(au.mp hp).elim (λq=>by rw[q];exact ho) (R.imm p)
 ·exact(au.mp hp).elim (λq=>by rw[q];exact nφ) (R.apart p)
 ·obtain⟨h0,L,h1,h2,h3,h4,o',es,ep,h5,h6⟩:=I.rel.frs env he
  exact⟨h0,L,h1,h2,h3,λq hq=>(au.mp hq).elim (λz=>by rw[z];exact(ne _ _ h5).symm) (h4 q),o',es,ep,hk _ _ h5,h6⟩
structure Kind (κ:Type)[DecidableEq κ] where
 knd:∀C:Cx,KeyKind C.prog C.w κ
 em:κ→AV
 vr:∀{C W k v},(knd C).is k v=true→VR W (em k) v
 isv:∀{C W k v},VR W (em k) v→(knd C).is k v=true∧v.scannable=true
noncomputable def intsK:Kind Int where
 knd:=λC=>intKind C.prog C.w
 em:=.int
 vr:=λ{C W k v} h=>by obtain⟨t,rfl⟩:=dS h;exact .int _ _
 isv:=λ{C W k v} h=>h.intE (P:=λv=>(intKind C.prog C.w).is k v=true∧v.scannable=true) rfl λt=>⟨intKind_is _ _ _ _,rfl⟩
theorem zf6 (prog:Program)(w:World)(x:Str)(t:Tok):(strKind prog w).is x (.str x t)=true:=by
 show(x==x)=true
 exact beq_self_eq_true _
noncomputable def strsK:Kind Str where
 knd:=λC=>strKind C.prog C.w
 em:=.str
 vr:=λ{C W k v} h=>by obtain⟨t,rfl⟩:=dF h;exact .str _ _
 isv:=λ{C W k v} h=>h.strE (P:=λv=>(strKind C.prog C.w).is k v=true∧v.scannable=true) rfl λt=>⟨zf6 _ _ _ _,rfl⟩
noncomputable def SetR {κ:Type}[DecidableEq κ](D:Kind κ)(C:Cx)(W:Wd)(ks:List κ)(v:Value):Prop:=∃a o ks',v=.ref a∧(a,o)∈W.ι∧SetObj (D.knd C) (fW C.w) ks' o∧ks'.Perm (gf ks)
theorem zjl {κ:Type}[DecidableEq κ]{D:Kind κ}{ks:List κ}{src:Value}{T:String}{m:Nat}{P:Nat→Value→Prop}(hc:C.calm=true)(ok:AOk C n A)(I:Inv C Γ env W st s.heap)(X:SetSrc C.prog C.w s.heap src T m P)(key:Nat→κ)(hval:∀i v,P i v→(D.knd C).is (key i) v=true∧v.scannable=true)(hb:m<4000)(hks:∀x,x∈ks↔∃j,j<m∧key j=x) :
  Run C Γ env W A s (call (.type "set") [src]) (some (ks,st)) (SetR D C):=.mk1 λQ E hq =>
 znx (knd:=D.knd C) (ok.handled hc) X key hval (by unfold scanBound;lia) λh' tk ks' o ho hso hm hk=>by
  have ha:s.heap.get? s.heap.objs.size=none:=get?_size _
  have x:=I.immAt hk ha ho
  refine hq _ _ h' (tk,s.drawn) x.1 x.2.wide ⟨_,o,ks',rfl,aj,hso,?_⟩
  obtain⟨_,_,_,_,_,nd,_,_,_⟩:=hso
  exact znb nd (zh0 ks) λy=>(hm y).trans ((hks y).symm.trans ddp_mem.symm)
end
end Mine.Internal
end
section
namespace Mine.Internal
open PySem PyProof.Rows PySem.W PySem.SeqAt PySem.Spec
section
variable {C:Cx}{n:Nat}{Γ:cA}{env:Env}{W:Wd}{A:Around}{s:Shared}{st:St}{κ:Type}[DecidableEq κ][Inhabited κ]{D:Kind κ}{lt:κ→κ→Bool}
theorem Post.newAtD {Q:Value→Shared→Prop}{ob:AO}{h':Heap}{a:Addr}(hq:Post C Γ env W s VR (.obj st.σ.length) ⟨st.θ,st.σ++[ob]⟩ Q)(I:Inv C Γ env W st s.heap)(hk:∀b x,s.heap.get? b=some x→h'.get? b=some x)(ha:s.heap.get? a=none)(hb:mainGlobals<a)(ho:OR ⟨W.φ++[a],W.ι⟩ h' ob a)(tk:Nat×Drawn):Q (.ref a) (mv s h' tk) :=
 have x:=I.rel.newAt hk ha hb ob ho
 hq _ _ _ tk (I.keep x.1 x.2) x.2.wide (.obj (by exact dI I.rel.len (List.getElem?_concat_length)))
theorem KvOf.vrs {ks:List κ}{vs:List Value}(h:KvOf (D.knd C) ks vs)(W:Wd):VRs W (ks.map D.em) vs:=by
 induction h with
 |nil=>exact .nil
 |cons h1 _ ih=>exact .cons (D.vr h1) ih
noncomputable def zcu (D:Kind κ)(lt:κ→κ→Bool)(ks:List κ):K AV:=λst=>if (gf ks).length<64 then(hY D.em lt (gf ks)).bind λout=>some (.obj st.σ.length,⟨st.θ,st.σ++[.list out]⟩)else none
theorem zd8 (hs:∀a b,lt a b=true→lt b a=false)(hsort:∀{A h ks vs ys},KvOf (D.knd C) ks vs→2≤vs.length→ys.Perm ks→(ys.Pairwise λa b=>lt a b=true)→iS C.prog C.w A h vs (f8 ys ks))(hc:C.calm=true)
  {ks:List κ} {v:Value} (ok:AOk C n A) (I:Inv C Γ env W st s.heap) (hv:SetR D C W ks v):Run C Γ env W A s (call (.builtin "sorted") [v]) (zcu D lt ks st) VR:=by
 unfold zcu
 refine .ite λh64=>.obind λout e=>zm0 e λys hp hy ho'=>.mk1 λQ E hq=>?_
 (refine x3a4 hv λa o ks' z3 hm z5 hp'=>?_;subst z3;obtain⟨es,ep,t,rfl,hk,nd,hb,hf,hr⟩:=z5)
 have hl:es.size<64:=by rw[←aA,←hk.len,hp'.length_eq];exact h64
 refine zp0 (ok.handled hc) hr (I.rel.imm _ hm) hf hl λvs hpv=>?_
 (refine x1a2 (hk.kv.perm hpv.symm) λks1 hk1 p1=>?_)
 have hpy:ys.Perm ks1:=hp.trans (hp'.symm.trans p1.symm)
 have hlen:ks1.length=vs.length:=hk1.len.symm
 refine⟨f8 ys ks1,λh2=>hsort hk1 h2 hpy hy,λp h' b k tk d a1 a2 a3 a4 a5 a6=>hq.newAtD I a5 a3 ?_ ⟨_,_,a6,?_⟩ (tk,d)⟩
 ·(refine x3a2 I.rel.ok.g λo u1 u2 ho u3=>?_)
  exact a4 _ _ (I.rel.old _ _ ho)
 ·subst ho'
  rw[←hlen]at a1 a2
  have ey:=zna hs hy hpy a1 a2
  have:=((hk1.vrs W).take p.toList λi hi=>by simp only[ae];exact ax.mp (a1.mem_iff.mp hi)).mono (.app (W:=W) [b])
  have e2:p.toList.map (λi=>(ks1.map D.em).getD i .none)=ys.map D.em:=by
   refine dI ey (aw be ?_)
   refine aS λi hi=>?_
   have hi':i<ks1.length:=ax.mp (a1.mem_iff.mp hi)
   simp[hi',List.getD]
  rw[e2]at this
  exact this
theorem zte {ks:List κ}{v:Value}(I:Inv C Γ env W st s.heap)(hv:SetR D C W ks v):Run C Γ env W A s (call (.builtin "len") [v]) (some (.int ((gf ks).length:Nat),st)) VR:=.mk1 λQ E hq=>by
 (refine x3a4 hv λa o ks' z3 hm z5 hp'=>?_;subst z3;obtain⟨es,ep,t,rfl,hk,nd,hb,hf,hr⟩:=z5)
 have hl:es.size=(gf ks).length:=by exact dI aA (dI hk.len (aw hp'.length_eq rfl))
 rw[←hl]at hq
 have h1:(es.size:Int)<4096:=by unfold scanBound at hb;lia
 exact call_len_set (I.rel.imm _ hm) ⟨rfl,rfl,rfl⟩ rfl hf (dR h1 (by decide)) (hq.at I _ (.int _ _))
noncomputable def zve (a:AV):K (List Int):=λst=>(fA a st).bind λvs=>(hX vs).bind λns=>if vs.length<4000 then some (ns,st)else none
theorem zir (hc:C.calm=true){a:AV}{v:Value}(ok:AOk C n A)(I:Inv C Γ env W st s.heap)(hv:VR W a v):Run C Γ env W A s (call (.type "set") [v]) (zve a st) (SetR intsK C) :=
 .obind λvs e1=>.obind λns e2=>.ite λhl=>fX (P:=λv=>Run C Γ env W A s (call (.type "set") [v]) _ (SetR intsK C)) I.rel hv e1 λl items m ho hr hlen=>by
  have hi:=zbx e2 hr
  have hn:ns.length=items.size:=by exact dI (zdx hi) (aw aA rfl)
  refine zjl hc ok I (SetSrc.list (fF ho)) (λi=>ns.getD i 0) (λi v hv=>?_) (by rw[←hlen];exact hl) λx=>?_
  ·obtain⟨t,rfl⟩:=hi.int_at i v (by rw[ba];exact hv)
   exact⟨intKind_is _ _ _ _,rfl⟩
  ·rw[←hn]
   constructor
   ·intro q
    obtain⟨i,hi',e⟩:=bI.mp q
    exact⟨i,hi',by rw[av,an hi',cT];exact e⟩
   ·rintro⟨i,hi',e⟩
    rw[av,an hi',cT]at e
    exact e▸cc hi'
noncomputable def zyk (a:AV):K (List Str):=λst=>(fA a st).bind λvs=>(zin vs).bind λxs=>if vs.length<4000 then some (xs,st)else none
theorem zyc {ps:List (Str×Tok)}{i:Nat}{v:Value}(h:(strValues ps)[i]?=some v):∃t,v=.str ((ps.map (λx=>x.1)).getD i default) t:=by
 unfold strValues at h
 rw[aK]at h
 (refine x1a2 (aP.mp h) λp hp e=>?_)
 refine⟨p.2,?_⟩
 refine aw (av) (aw (aK) (aw hp ?_))
 exact e.symm
theorem zp3 (hc:C.calm=true){a:AV}{v:Value}(ok:AOk C n A)(I:Inv C Γ env W st s.heap)(hv:VR W a v):Run C Γ env W A s (call (.type "set") [v]) (zyk a st) (SetR strsK C) :=
 .obind λvs e1=>.obind λxs e2=>.ite λhl=>fX (P:=λv=>Run C Γ env W A s (call (.type "set") [v]) _ (SetR strsK C)) I.rel hv e1 λl items m ho hr hlen=>by
  (refine x1a2 (zgh e2 hr) λps hps hxs=>?_)
  have hn:xs.length=items.size:=by
   have:=congrArg List.length hps
   unfold strValues at this
   rw[←hxs,ae]
   rw[aA,ae]at this
   exact this.symm
  refine zjl hc ok I (SetSrc.list (fF ho)) (λi=>xs.getD i default) (λi v hv=>?_) (by rw[←hlen];exact hl) λx=>?_
  ·obtain⟨t,rfl⟩:=zyc (ps:=ps) (i:=i) (v:=v) (by rw[←hps,ba];exact hv)
   rw[hxs]
   exact⟨zf6 _ _ _ _,rfl⟩
  ·rw[←hn]
   constructor
   ·intro q
    obtain⟨i,hi',e⟩:=bI.mp q
    exact⟨i,hi',by rw[av,an hi',cT];exact e⟩
   ·rintro⟨i,hi',e⟩
    rw[av,an hi',cT]at e
    exact e▸cc hi'
noncomputable def iB (x:Str):List Str:=x.cps.toList.map λc=>⟨#[c]⟩
noncomputable def zyj (a:AV):K (List Str):=λst=>a.str?.bind λx=>if x.cps.size<4000 then some (iB x,st)else none
theorem zp2 (hc:C.calm=true){a:AV}{v:Value}(ok:AOk C n A)(I:Inv C Γ env W st s.heap)(hv:VR W a v):Run C Γ env W A s (call (.type "set") [v]) (zyj a st) (SetR strsK C) :=
 .obind λx hx=>.ite λhl=>hv.strE (P:=λv=>Run C Γ env W A s (call (.type "set") [v]) _ (SetR strsK C)) hx λt=>by
  refine zjl hc ok I (SetSrc.str x t) (λi=>(iB x).getD i default) (λi v hv=>?_) hl λy=>?_
  ·(refine x2a2 hv fun c u hc' z3=>?_; subst z3)
   have:(iB x).getD i default=⟨#[c]⟩:=by
    unfold iB
    rw[av,aK,ba,hc'];rfl
   rw[this]
   exact⟨zf6 _ _ _ _,rfl⟩
  ·have hn:(iB x).length=x.cps.size:=by unfold iB;rw[ae,aA]
   rw[←hn]
   constructor
   ·intro q
    obtain⟨i,hi',e⟩:=bI.mp q
    exact⟨i,hi',by rw[av,an hi',cT];exact e⟩
   ·(intro zz;refine x1a2 zz λi hi' e=>?_)
    rw[av,an hi',cT]at e
    exact e▸cc hi'
theorem zll {A:Around}{h:Heap}{ks ys:List Int}{vs:List Value}(hI:KvOf (intsK.knd C) ks vs)(h2:2≤vs.length)(hp:ys.Perm ks)(hy:ys.Pairwise λa b=>ja a b=true):iS C.prog C.w A h vs (f8 ys ks):=zlp (z1a hI) h2 hp hy
section
variable {e:Expr}{np np2 pos pos2:Pos}{f:K AV}
theorem Ev.sortedI (hc:C.calm=true)(hs:Ev C n Γ (.Name (Str.ofString "sorted") np) (K.ret (.val (.builtin "sorted")))) (ht:Ev C n Γ (.Name (Str.ofString "set") np2) (K.ret (.val (.type "set")))) (he:Ev C n Γ e f) (hst:fj e=false) :
  Ev C n Γ (.Call (.Name (Str.ofString "sorted") np) [.Call (.Name (Str.ofString "set") np2) [e] [] pos2] [] pos) (K.bind (K.bind f zve) (zcu intsK ja)) :=
 (EvR.call1 hs Callee.builtin (EvR.call1 ht Callee.type he.toR hst λok I hv=>zir hc ok I hv) rfl λok I hv=>zd8 zdc (λh1 h2 h3 h4=>zll h1 h2 h3 h4) hc ok I hv).toEv
theorem Ev.sortedS (hc:C.calm=true)(hs:Ev C n Γ (.Name (Str.ofString "sorted") np) (K.ret (.val (.builtin "sorted")))) (ht:Ev C n Γ (.Name (Str.ofString "set") np2) (K.ret (.val (.type "set")))) (he:Ev C n Γ e f) (hst:fj e=false) :
  Ev C n Γ (.Call (.Name (Str.ofString "sorted") np) [.Call (.Name (Str.ofString "set") np2) [e] [] pos2] [] pos) (K.bind (K.bind f zyk) (zcu strsK jb)) :=
 (EvR.call1 hs Callee.builtin (EvR.call1 ht Callee.type he.toR hst λok I hv=>zp3 hc ok I hv) rfl λok I hv=>zd8 zdd (λh1 h2 h3 h4=>zk1 h1 h2 h3 h4) hc ok I hv).toEv
theorem Ev.sortedT (hc:C.calm=true)(hs:Ev C n Γ (.Name (Str.ofString "sorted") np) (K.ret (.val (.builtin "sorted")))) (ht:Ev C n Γ (.Name (Str.ofString "set") np2) (K.ret (.val (.type "set")))) (he:Ev C n Γ e f) (hst:fj e=false) :
  Ev C n Γ (.Call (.Name (Str.ofString "sorted") np) [.Call (.Name (Str.ofString "set") np2) [e] [] pos2] [] pos) (K.bind (K.bind f zyj) (zcu strsK jb)) :=
 (EvR.call1 hs Callee.builtin (EvR.call1 ht Callee.type he.toR hst λok I hv=>zp2 hc ok I hv) rfl λok I hv=>zd8 zdd (λh1 h2 h3 h4=>zk1 h1 h2 h3 h4) hc ok I hv).toEv
noncomputable def ztf (ks:List Int):K AV:=λst=>some (.int ((gf ks).length:Nat),st)
theorem Ev.lenSetI (hc:C.calm=true)(hs:Ev C n Γ (.Name (Str.ofString "len") np) (K.ret (.val (.builtin "len")))) (ht:Ev C n Γ (.Name (Str.ofString "set") np2) (K.ret (.val (.type "set")))) (he:Ev C n Γ e f) (hst:fj e=false) :
  Ev C n Γ (.Call (.Name (Str.ofString "len") np) [.Call (.Name (Str.ofString "set") np2) [e] [] pos2] [] pos) (K.bind (K.bind f zve) ztf) :=
 (EvR.call1 hs Callee.builtin (EvR.call1 ht Callee.type he.toR hst λok I hv=>zir hc ok I hv) rfl λu1 I hv=>zte I hv).toEv
end
end
end Mine.Internal
end
section
open PySem PySem.W PyProof.Rows
namespace Mine.Internal
noncomputable abbrev PP:Program:=PySem.Challenge.pw_op0268_06
structure Good (P:Params)(C:Cx):Prop where
 K:C.K=iP PP P
 ok:Cx.Ok C.toBx
 calm:C.calm=true
theorem Good.push {P:Params}{C:Cx}(g:Good P C)(env:Env):Good P (C.push env):=⟨g.K,g.ok,g.calm⟩
theorem Good.kin {P:Params}{C:Cx}(g:Good P C):(iP PP P).In C.h₀:=g.K▸g.ok.k
noncomputable def attrT:gQ:=[((194,S "node"),some 0),((194,S "npredecessors"),some 1),((194,S "successors"),some 2),((291,S "_node2info"),none),((291,S "_ready_nodes"),none),((291,S "_npassedout"),none),((291,S "_nfinished"),none),((171,S "_headers"),none)]
theorem dN {P:Params}{C:Cx}(g:Good P C):zmy C.K attrT=true:=by rw[g.K];kernel_rfl
noncomputable def patL:List Addr:=[43,48]
theorem zyw {P:Params}{C:Cx}(g:Good P C):∀p,patL.contains p=true→PatOk C.K p:=by
 rw[g.K]
 intro p hp
 refine(au.mp (List.contains_iff_mem.mp hp)).elim (λe=>?_) λe=>?_
 ·exact e▸⟨_,_,_,_,_,_,_,_,_,_,by rfl,by rfl,by rfl,by rfl,by rfl,by decide +kernel⟩
 ·exact ac.mp e▸⟨_,_,_,_,_,_,_,_,_,_,by rfl,by rfl,by rfl,by rfl,by rfl,by decide +kernel⟩
theorem iV {P:Params}{C:Cx}(g:Good P C):zy7 C.K 171 77=true:=by rw[g.K];kernel_rfl
noncomputable abbrev zet:Stmt:=(c5 (fnAt PP 5) 0)
theorem zqq {P:Params}{C:Cx}(g:Good P C):FdOk C 63 (c4 (c5 (fnAt PP 5) 0) (S "__init__") (S "Headers.__init__") (.ref 56) .none .none (.str (S "cpy313.wsgiref.headers") 289) (.ref 62) .none) (dw zet) :=
 ⟨⟨_,g.kin _ _ (by rfl),by rfl⟩,by rfl,bn g.kin (by rfl),by rfl,by rfl,by rfl,by rfl,by rfl,by rfl,by rfl⟩
noncomputable abbrev zaw:Stmt:=(c5 (fnAt PP 5) 1)
theorem zc8 {P:Params}{C:Cx}(g:Good P C):FdOk C 70 (c4 (c5 (fnAt PP 5) 1) (S "_convert_string_type") (S "Headers._convert_string_type") .none .none .none (.str (S "cpy313.wsgiref.headers") 289) (.ref 69) .none) (dw zaw) :=
 ⟨⟨_,g.kin _ _ (by rfl),by rfl⟩,by rfl,bn g.kin (by rfl),by rfl,by rfl,by rfl,by rfl,by rfl,by rfl,by rfl⟩
noncomputable abbrev zfj:Stmt:=(c5 (fnAt PP 5) 2)
theorem zt7 {P:Params}{C:Cx}(g:Good P C):FdOk C 77 (c4 (c5 (fnAt PP 5) 2) (S "__len__") (S "Headers.__len__") .none .none .none (.str (S "cpy313.wsgiref.headers") 289) (.ref 76) .none) (dw zfj) :=
 ⟨⟨_,g.kin _ _ (by rfl),by rfl⟩,by rfl,bn g.kin (by rfl),by rfl,by rfl,by rfl,by rfl,by rfl,by rfl,by rfl⟩
noncomputable abbrev zfk:Stmt:=(c5 (fnAt PP 5) 8)
theorem zt8 {P:Params}{C:Cx}(g:Good P C):FdOk C 118 (c4 (c5 (fnAt PP 5) 8) (S "get") (S "Headers.get") (.ref 111) .none .none (.str (S "cpy313.wsgiref.headers") 289) (.ref 117) .none) (dw zfk) :=
 ⟨⟨_,g.kin _ _ (by rfl),by rfl⟩,by rfl,bn g.kin (by rfl),by rfl,by rfl,by rfl,by rfl,by rfl,by rfl,by rfl⟩
noncomputable abbrev zes:Stmt:=(c5 (fnAt PP 5) 9)
theorem zqp {P:Params}{C:Cx}(g:Good P C):FdOk C 123 (c4 (c5 (fnAt PP 5) 9) (S "keys") (S "Headers.keys") .none .none .none (.str (S "cpy313.wsgiref.headers") 289) (.ref 122) .none) (dw zes) :=
 ⟨⟨_,g.kin _ _ (by rfl),by rfl⟩,by rfl,bn g.kin (by rfl),by rfl,by rfl,by rfl,by rfl,by rfl,by rfl,by rfl⟩
noncomputable abbrev zdt:Stmt:=(c5 (fnAt PP 5) 11)
theorem zns {P:Params}{C:Cx}(g:Good P C):FdOk C 135 (c4 (c5 (fnAt PP 5) 11) (S "items") (S "Headers.items") .none .none .none (.str (S "cpy313.wsgiref.headers") 289) (.ref 134) .none) (dw zdt) :=
 ⟨⟨_,g.kin _ _ (by rfl),by rfl⟩,by rfl,bn g.kin (by rfl),by rfl,by rfl,by rfl,by rfl,by rfl,by rfl,by rfl⟩
noncomputable abbrev zbu:Stmt:=(c5 (fnAt PP 5) 15)
theorem zgy {P:Params}{C:Cx}(g:Good P C):FdOk C 161 (c4 (c5 (fnAt PP 5) 15) (S "setdefault") (S "Headers.setdefault") .none .none .none (.str (S "cpy313.wsgiref.headers") 289) (.ref 160) .none) (dw zbu) :=
 ⟨⟨_,g.kin _ _ (by rfl),by rfl⟩,by rfl,bn g.kin (by rfl),by rfl,by rfl,by rfl,by rfl,by rfl,by rfl,by rfl⟩
noncomputable abbrev zer:Stmt:=(c5 (fnAt PP 9) 1)
theorem zqo {P:Params}{C:Cx}(g:Good P C):FdOk C 190 (c4 (c5 (fnAt PP 9) 1) (S "__init__") (S "_NodeInfo.__init__") .none .none .none (.str (S "cpy313.graphlib") 508) (.ref 189) .none) (dw zer) :=
 ⟨⟨_,g.kin _ _ (by rfl),by rfl⟩,by rfl,bn g.kin (by rfl),by rfl,by rfl,by rfl,by rfl,by rfl,by rfl,by rfl⟩
noncomputable abbrev zep:Stmt:=(c5 (fnAt PP 11) 0)
theorem zqm {P:Params}{C:Cx}(g:Good P C):FdOk C 227 (c4 (c5 (fnAt PP 11) 0) (S "__init__") (S "TopologicalSorter.__init__") (.ref 220) .none .none (.str (S "cpy313.graphlib") 508) (.ref 226) .none) (dw zep) :=
 ⟨⟨_,g.kin _ _ (by rfl),by rfl⟩,by rfl,bn g.kin (by rfl),by rfl,by rfl,by rfl,by rfl,by rfl,by rfl,by rfl⟩
noncomputable abbrev zbj:Stmt:=(c5 (fnAt PP 11) 1)
theorem zft {P:Params}{C:Cx}(g:Good P C):FdOk C 234 (c4 (c5 (fnAt PP 11) 1) (S "_get_nodeinfo") (S "TopologicalSorter._get_nodeinfo") .none .none .none (.str (S "cpy313.graphlib") 508) (.ref 233) .none) (dw zbj) :=
 ⟨⟨_,g.kin _ _ (by rfl),by rfl⟩,by rfl,bn g.kin (by rfl),by rfl,by rfl,by rfl,by rfl,by rfl,by rfl,by rfl⟩
noncomputable abbrev zfi:Stmt:=(c5 (fnAt PP 11) 2)
theorem zt6 {P:Params}{C:Cx}(g:Good P C):FdOk C 241 (c4 (c5 (fnAt PP 11) 2) (S "add") (S "TopologicalSorter.add") .none .none .none (.str (S "cpy313.graphlib") 508) (.ref 240) .none) (dw zfi) :=
 ⟨⟨_,g.kin _ _ (by rfl),by rfl⟩,by rfl,bn g.kin (by rfl),by rfl,by rfl,by rfl,by rfl,by rfl,by rfl,by rfl⟩
noncomputable abbrev zcr:Stmt:=(c5 (fnAt PP 11) 3)
theorem zj7 {P:Params}{C:Cx}(g:Good P C):FdOk C 246 (c4 (c5 (fnAt PP 11) 3) (S "prepare") (S "TopologicalSorter.prepare") .none .none .none (.str (S "cpy313.graphlib") 508) (.ref 245) .none) (dw zcr) :=
 ⟨⟨_,g.kin _ _ (by rfl),by rfl⟩,by rfl,bn g.kin (by rfl),by rfl,by rfl,by rfl,by rfl,by rfl,by rfl,by rfl⟩
noncomputable abbrev zb5:Stmt:=(c5 (fnAt PP 11) 4)
theorem zhx {P:Params}{C:Cx}(g:Good P C):FdOk C 253 (c4 (c5 (fnAt PP 11) 4) (S "get_ready") (S "TopologicalSorter.get_ready") .none .none .none (.str (S "cpy313.graphlib") 508) (.ref 252) .none) (dw zb5) :=
 ⟨⟨_,g.kin _ _ (by rfl),by rfl⟩,by rfl,bn g.kin (by rfl),by rfl,by rfl,by rfl,by rfl,by rfl,by rfl,by rfl⟩
noncomputable abbrev zb4:Stmt:=(c5 (fnAt PP 11) 5)
theorem zhw {P:Params}{C:Cx}(g:Good P C):FdOk C 260 (c4 (c5 (fnAt PP 11) 5) (S "is_active") (S "TopologicalSorter.is_active") .none .none .none (.str (S "cpy313.graphlib") 508) (.ref 259) .none) (dw zb4) :=
 ⟨⟨_,g.kin _ _ (by rfl),by rfl⟩,by rfl,bn g.kin (by rfl),by rfl,by rfl,by rfl,by rfl,by rfl,by rfl,by rfl⟩
noncomputable abbrev zeq:Stmt:=(c5 (fnAt PP 11) 7)
theorem zqn {P:Params}{C:Cx}(g:Good P C):FdOk C 274 (c4 (c5 (fnAt PP 11) 7) (S "done") (S "TopologicalSorter.done") .none .none .none (.str (S "cpy313.graphlib") 508) (.ref 273) .none) (dw zeq) :=
 ⟨⟨_,g.kin _ _ (by rfl),by rfl⟩,by rfl,bn g.kin (by rfl),by rfl,by rfl,by rfl,by rfl,by rfl,by rfl,by rfl⟩
noncomputable abbrev zbt:Stmt:=(c5 (fnAt PP 11) 8)
theorem zgx {P:Params}{C:Cx}(g:Good P C):FdOk C 281 (c4 (c5 (fnAt PP 11) 8) (S "_find_cycle") (S "TopologicalSorter._find_cycle") .none .none .none (.str (S "cpy313.graphlib") 508) (.ref 280) .none) (dw zbt) :=
 ⟨⟨_,g.kin _ _ (by rfl),by rfl⟩,by rfl,bn g.kin (by rfl),by rfl,by rfl,by rfl,by rfl,by rfl,by rfl,by rfl⟩
noncomputable abbrev zds:Stmt:=(fnAt PP 13)
theorem znr {P:Params}{C:Cx}(g:Good P C):FdOk C 302 (c4 (fnAt PP 13) (S "heappush") (S "heappush") .none .none .none (.str (S "cpy313.heapq") 690) (.ref 301) .none) (dw zds) :=
 ⟨⟨_,g.kin _ _ (by rfl),by rfl⟩,by rfl,bn g.kin (by rfl),by rfl,by rfl,by rfl,by rfl,by rfl,by rfl,by rfl⟩
noncomputable abbrev zeo:Stmt:=(fnAt PP 14)
theorem zql {P:Params}{C:Cx}(g:Good P C):FdOk C 309 (c4 (fnAt PP 14) (S "heappop") (S "heappop") .none .none .none (.str (S "cpy313.heapq") 690) (.ref 308) .none) (dw zeo) :=
 ⟨⟨_,g.kin _ _ (by rfl),by rfl⟩,by rfl,bn g.kin (by rfl),by rfl,by rfl,by rfl,by rfl,by rfl,by rfl,by rfl⟩
noncomputable abbrev zdr:Stmt:=(fnAt PP 15)
theorem znq {P:Params}{C:Cx}(g:Good P C):FdOk C 316 (c4 (fnAt PP 15) (S "_siftdown") (S "_siftdown") .none .none .none (.str (S "cpy313.heapq") 690) (.ref 315) .none) (dw zdr) :=
 ⟨⟨_,g.kin _ _ (by rfl),by rfl⟩,by rfl,bn g.kin (by rfl),by rfl,by rfl,by rfl,by rfl,by rfl,by rfl,by rfl⟩
noncomputable abbrev zfh:Stmt:=(fnAt PP 16)
theorem zt5 {P:Params}{C:Cx}(g:Good P C):FdOk C 323 (c4 (fnAt PP 16) (S "_siftup") (S "_siftup") .none .none .none (.str (S "cpy313.heapq") 690) (.ref 322) .none) (dw zfh) :=
 ⟨⟨_,g.kin _ _ (by rfl),by rfl⟩,by rfl,bn g.kin (by rfl),by rfl,by rfl,by rfl,by rfl,by rfl,by rfl,by rfl⟩
noncomputable abbrev zcq:Stmt:=(fnAt PP 18)
theorem zj6 {P:Params}{C:Cx}(g:Good P C):FdOk C 328 (c4 (fnAt PP 18) (S "_law_within") (S "_law_within") .none .none .none (.str (S "law_op0268_06") 734) (.ref 327) .none) (dw zcq) :=
 ⟨⟨_,g.kin _ _ (by rfl),by rfl⟩,by rfl,bn g.kin (by rfl),by rfl,by rfl,by rfl,by rfl,by rfl,by rfl,by rfl⟩
noncomputable abbrev zcg:Stmt:=(fnAt PP 19)
theorem zif {P:Params}{C:Cx}(g:Good P C):FdOk C 333 (c4 (fnAt PP 19) (S "_law_numbers") (S "_law_numbers") .none .none .none (.str (S "law_op0268_06") 734) (.ref 332) .none) (dw zcg) :=
 ⟨⟨_,g.kin _ _ (by rfl),by rfl⟩,by rfl,bn g.kin (by rfl),by rfl,by rfl,by rfl,by rfl,by rfl,by rfl,by rfl⟩
noncomputable abbrev zc2:Stmt:=(fnAt PP 20)
theorem zl1 {P:Params}{C:Cx}(g:Good P C):FdOk C 338 (c4 (fnAt PP 20) (S "_law_order") (S "_law_order") .none .none .none (.str (S "law_op0268_06") 734) (.ref 337) .none) (dw zc2) :=
 ⟨⟨_,g.kin _ _ (by rfl),by rfl⟩,by rfl,bn g.kin (by rfl),by rfl,by rfl,by rfl,by rfl,by rfl,by rfl,by rfl⟩
noncomputable abbrev zcj:Stmt:=(fnAt PP 21)
theorem zl2 {P:Params}{C:Cx}(g:Good P C):FdOk C 345 (c4 (fnAt PP 21) (S "_law_depth") (S "_law_depth") .none .none .none (.str (S "law_op0268_06") 734) (.ref 344) .none) (dw zcj) :=
 ⟨⟨_,g.kin _ _ (by rfl),by rfl⟩,by rfl,bn g.kin (by rfl),by rfl,by rfl,by rfl,by rfl,by rfl,by rfl,by rfl⟩
noncomputable abbrev zod:Stmt:=(fnAt PP 22)
theorem z1n {P:Params}{C:Cx}(g:Good P C):FdOk C 350 (c4 (fnAt PP 22) (S "law") (S "law") .none .none .none (.str (S "law_op0268_06") 734) (.ref 349) .none) (dw zod) :=
 ⟨⟨_,g.kin _ _ (by rfl),by rfl⟩,by rfl,bn g.kin (by rfl),by rfl,by rfl,by rfl,by rfl,by rfl,by rfl,by rfl⟩
noncomputable def D_siftdown:{ f:K Fl // ∀P C,Good P C→Exs C 0 (d8 (dk zdr)) (dw zdr) f }:=by
 apply Subtype.mk
 intro P C g
 exact(Exs.cons (Ex.assign (Ev.suba (Ev.loc (by rfl) (by rfl)) (Ev.loc (by rfl) (by rfl)) (by rfl)) (Sto.loc (by rfl)) (λu1=>rfl)) (Exs.cons (Ex.while (Te.cmpb (Ev.loc (by rfl) (by rfl)) (Ev.loc (by rfl) (by rfl)) (by rfl)) (Exs.cons (Ex.assign (Ev.bina (Ev.bina (Ev.loc (by rfl) (by rfl)) Ev.int) Ev.int) (Sto.loc (by rfl)) (λu1=>rfl)) (Exs.cons (Ex.assign (Ev.suba (Ev.loc (by rfl) (by rfl)) (Ev.loc (by rfl) (by rfl)) (by rfl)) (Sto.loc (by rfl)) (λu1=>rfl)) (Exs.cons (Ex.ite (Te.cmpb (Ev.loc (by rfl) (by rfl)) (Ev.loc (by rfl) (by rfl)) (by rfl)) (Exs.cons (Ex.assignSuba (Ev.loc (by rfl) (by rfl)) (Ev.loc (by rfl) (by rfl)) (Ev.loc (by rfl) (by rfl)) (λu1=>rfl)) (Exs.cons (Ex.assign (Ev.loc (by rfl) (by rfl)) (Sto.loc (by rfl)) (λu1=>rfl)) (Exs.cons Ex.cont Exs.nil))) Exs.nil) (Exs.cons Ex.brk Exs.nil)))) Exs.nil) (Exs.cons (Ex.assignSuba (Ev.loc (by rfl) (by rfl)) (Ev.loc (by rfl) (by rfl)) (Ev.loc (by rfl) (by rfl)) (λu1=>rfl)) Exs.nil)))
noncomputable def zi8:=fb (bP3 (S "heap") (S "startpos") (S "pos")) (dk zdr) D_siftdown.1
theorem zgn {P:Params}{C:Cx}(g:Good P C):FnK C 1 (.ref 316) zi8 :=
 FnK.ofB (znq g) (Binds.p3 (λu1 u2 u3=>rfl)) (λenv=>D_siftdown.2 P _ (g.push env))
noncomputable def D_siftup:{ f:K Fl // ∀P C,Good P C→Exs C 1 (d8 (dk zfh)) (dw zfh) f }:=by
 apply Subtype.mk
 intro P C g
 exact(Exs.cons (Ex.assign (Ev.call (f:=.builtin "len") (Ev.bkW g.K (by rfl) (by rfl) (by rfl) (by rfl) (by rfl)) Callee.builtin (Eas.cons (Ev.loc (by rfl) (by rfl)) Eas.nil (λu1=>rfl)) (by rfl) Cal.len) (Sto.loc (by rfl)) (λu1=>rfl)) (Exs.cons (Ex.assign (Ev.loc (by rfl) (by rfl)) (Sto.loc (by rfl)) (λu1=>rfl)) (Exs.cons (Ex.assign (Ev.suba (Ev.loc (by rfl) (by rfl)) (Ev.loc (by rfl) (by rfl)) (by rfl)) (Sto.loc (by rfl)) (λu1=>rfl)) (Exs.cons (Ex.assign (Ev.bina (Ev.bina Ev.int (Ev.loc (by rfl) (by rfl))) Ev.int) (Sto.loc (by rfl)) (λu1=>rfl)) (Exs.cons (Ex.while (Te.cmpb (Ev.loc (by rfl) (by rfl)) (Ev.loc (by rfl) (by rfl)) (by rfl)) (Exs.cons (Ex.assign (Ev.bina (Ev.loc (by rfl) (by rfl)) Ev.int) (Sto.loc (by rfl)) (λu1=>rfl)) (Exs.cons (Ex.ite (Te.all (Tes.and (Te.cmpb (Ev.loc (by rfl) (by rfl)) (Ev.loc (by rfl) (by rfl)) (by rfl)) (Tes.and (Te.not (Te.cmpb (Ev.suba (Ev.loc (by rfl) (by rfl)) (Ev.loc (by rfl) (by rfl)) (by rfl)) (Ev.suba (Ev.loc (by rfl) (by rfl)) (Ev.loc (by rfl) (by rfl)) (by rfl)) (by rfl))) Tes.and0))) (Exs.cons (Ex.assign (Ev.loc (by rfl) (by rfl)) (Sto.loc (by rfl)) (λu1=>rfl)) Exs.nil) Exs.nil) (Exs.cons (Ex.assignSuba (Ev.suba (Ev.loc (by rfl) (by rfl)) (Ev.loc (by rfl) (by rfl)) (by rfl)) (Ev.loc (by rfl) (by rfl)) (Ev.loc (by rfl) (by rfl)) (λu1=>rfl)) (Exs.cons (Ex.assign (Ev.loc (by rfl) (by rfl)) (Sto.loc (by rfl)) (λu1=>rfl)) (Exs.cons (Ex.assign (Ev.bina (Ev.bina Ev.int (Ev.loc (by rfl) (by rfl))) Ev.int) (Sto.loc (by rfl)) (λu1=>rfl)) Exs.nil))))) Exs.nil) (Exs.cons (Ex.assignSuba (Ev.loc (by rfl) (by rfl)) (Ev.loc (by rfl) (by rfl)) (Ev.loc (by rfl) (by rfl)) (λu1=>rfl)) (Exs.cons (Ex.expr (Ev.fnCall g.K g.ok (by rfl) ((zgn g).less (by decide)) (Ev.gkW g.K (by rfl) (by rfl) (λu1=>VR.val _) (by rfl)) (Eas.cons (Ev.loc (by rfl) (by rfl)) (Eas.cons (Ev.loc (by rfl) (by rfl)) (Eas.cons (Ev.loc (by rfl) (by rfl)) Eas.nil (λu1=>rfl)) (λu1=>rfl)) (λu1=>rfl)) (by rfl)) (λu1=>rfl)) Exs.nil)))))))
noncomputable def zph:=fb (bP2 (S "heap") (S "pos")) (dk zfh) D_siftup.1
theorem zqi {P:Params}{C:Cx}(g:Good P C):FnK C 2 (.ref 323) zph :=
 FnK.ofB (zt5 g) (Binds.p2 (λu1 u2=>rfl)) (λenv=>D_siftup.2 P _ (g.push env))
noncomputable def D_heappush:{ f:K Fl // ∀P C,Good P C→Exs C 1 (d8 (dk zds)) (dw zds) f }:=by
 apply Subtype.mk
 intro P C g
 exact(Exs.cons (Ex.expr (Ev.mAppend (Ev.loc (by rfl) (by rfl)) (Eas.cons (Ev.loc (by rfl) (by rfl)) Eas.nil (λu1=>rfl)) (by rfl) (by rfl) (by rfl) (by rfl)) (λu1=>rfl)) (Exs.cons (Ex.expr (Ev.fnCall g.K g.ok (by rfl) ((zgn g).less (by decide)) (Ev.gkW g.K (by rfl) (by rfl) (λu1=>VR.val _) (by rfl)) (Eas.cons (Ev.loc (by rfl) (by rfl)) (Eas.cons Ev.int (Eas.cons (Ev.bina (Ev.call (f:=.builtin "len") (Ev.bkW g.K (by rfl) (by rfl) (by rfl) (by rfl) (by rfl)) Callee.builtin (Eas.cons (Ev.loc (by rfl) (by rfl)) Eas.nil (λu1=>rfl)) (by rfl) Cal.len) Ev.int) Eas.nil (λu1=>rfl)) (λu1=>rfl)) (λu1=>rfl)) (by rfl)) (λu1=>rfl)) Exs.nil))
noncomputable def zgf:=fb (bP2 (S "heap") (S "item")) (dk zds) D_heappush.1
theorem zl0 {P:Params}{C:Cx}(g:Good P C):FnK C 2 (.ref 302) zgf :=
 FnK.ofB (znr g) (Binds.p2 (λu1 u2=>rfl)) (λenv=>D_heappush.2 P _ (g.push env))
noncomputable def D_heappop:{ f:K Fl // ∀P C,Good P C→Exs C 2 (d8 (dk zeo)) (dw zeo) f }:=by
 apply Subtype.mk
 intro P C g
 exact(Exs.cons (Ex.assign (Ev.mPop (Ev.loc (by rfl) (by rfl)) Eas.nil (by rfl) (by rfl) (by rfl) (by rfl)) (Sto.loc (by rfl)) (λu1=>rfl)) (Exs.cons (Ex.ite (Te.val (Ev.loc (by rfl) (by rfl)) (λu1 u2=>rfl)) (Exs.cons (Ex.assign (Ev.suba (Ev.loc (by rfl) (by rfl)) Ev.int (by rfl)) (Sto.loc (by rfl)) (λu1=>rfl)) (Exs.cons (Ex.assignSuba (Ev.loc (by rfl) (by rfl)) (Ev.loc (by rfl) (by rfl)) Ev.int (λu1=>rfl)) (Exs.cons (Ex.expr (Ev.fnCall g.K g.ok (by rfl) ((zqi g).less (by decide)) (Ev.gkW g.K (by rfl) (by rfl) (λu1=>VR.val _) (by rfl)) (Eas.cons (Ev.loc (by rfl) (by rfl)) (Eas.cons Ev.int Eas.nil (λu1=>rfl)) (λu1=>rfl)) (by rfl)) (λu1=>rfl)) (Exs.cons (Ex.ret (Ev.loc (by rfl) (by rfl))) Exs.nil)))) Exs.nil) (Exs.cons (Ex.ret (Ev.loc (by rfl) (by rfl))) Exs.nil)))
noncomputable def zh7:=fb (gG (S "heap")) (dk zeo) D_heappop.1
theorem znk {P:Params}{C:Cx}(g:Good P C):FnK C 3 (.ref 309) zh7 :=
 FnK.ofB (zql g) (Binds.p1 (λu1=>rfl)) (λenv=>D_heappop.2 P _ (g.push env))
noncomputable def D_Ni_init:{ f:K Fl // ∀P C,Good P C→Exs C 0 (d8 (dk zer)) (dw zer) f }:=by
 apply Subtype.mk
 intro P C g
 exact(Exs.cons (Ex.assign1 (Ev.loc (by rfl) (by rfl)) (As.attr (dN g) (Ev.loc (by rfl) (by rfl))) (λu1=>rfl) (λu1=>rfl) (λu1=>rfl)) (Exs.cons (Ex.assign1 Ev.int (As.attr (dN g) (Ev.loc (by rfl) (by rfl))) (λu1=>rfl) (λu1=>rfl) (λu1=>rfl)) (Exs.cons (Ex.assign1 (Ev.list Eas.nil) (As.attr (dN g) (Ev.loc (by rfl) (by rfl))) (λu1=>rfl) (λu1=>rfl) (λu1=>rfl)) Exs.nil)))
noncomputable def zme:=fb (bP2 (S "self") (S "node")) (dk zer) D_Ni_init.1
theorem znn {P:Params}{C:Cx}(g:Good P C):FnK C 1 (.ref 190) zme :=
 FnK.ofB (zqo g) (Binds.p2 (λu1 u2=>rfl)) (λenv=>D_Ni_init.2 P _ (g.push env))
noncomputable def F_Ni:=zqc 194 zme
theorem z1l {P:Params}{C:Cx}(g:Good P C):FnK C 2 (.ref 194) F_Ni:=FnK.clsSW g.K (by rfl) (by rfl) (by rfl) (znn g)
noncomputable def D_Ts_init:{ f:K Fl // ∀P C,Good P C→Exs C 0 (d8 (dk zep)) (dw zep) f }:=by
 apply Subtype.mk
 intro P C g
 exact(Exs.cons (Ex.assign1 Ev.dict0 (As.attr (dN g) (Ev.loc (by rfl) (by rfl))) (λu1=>rfl) (λu1=>rfl) (λu1=>rfl)) (Exs.cons (Ex.assign1 Ev.noneC (As.attr (dN g) (Ev.loc (by rfl) (by rfl))) (λu1=>rfl) (λu1=>rfl) (λu1=>rfl)) (Exs.cons (Ex.assign1 Ev.int (As.attr (dN g) (Ev.loc (by rfl) (by rfl))) (λu1=>rfl) (λu1=>rfl) (λu1=>rfl)) (Exs.cons (Ex.assign1 Ev.int (As.attr (dN g) (Ev.loc (by rfl) (by rfl))) (λu1=>rfl) (λu1=>rfl) (λu1=>rfl)) (Exs.cons (Ex.ite (Te.cmpb (Ev.loc (by rfl) (by rfl)) Ev.noneC (by rfl)) (Exs.cons Ex.failFor Exs.nil) Exs.nil) Exs.nil)))))
noncomputable def zmc:=fb (bD1 (S "self") (S "graph")) (dk zep) D_Ts_init.1
theorem znl {P:Params}{C:Cx}(g:Good P C):FnK C 1 (.ref 227) zmc :=
 FnK.ofB (zqm g) (Binds.d1W g.K (by rfl) (by rfl) (by rfl) (λu1=>rfl) (λu1=>rfl)) (λenv=>D_Ts_init.2 P _ (g.push env))
noncomputable def F_Ts:=znf 291 zmc
theorem z1k {P:Params}{C:Cx}(g:Good P C):FnK C 2 (.ref 291) F_Ts:=FnK.clsW g.K (by rfl) (by rfl) (by rfl) (znl g)
noncomputable def D_Ts_get_nodeinfo:{ f:K Fl // ∀P C,Good P C→Exs C 2 (d8 (dk zbj)) (dw zbj) f }:=by
 apply Subtype.mk
 intro P C g
 exact(Exs.cons (Ex.ite (Te.cmpb (Ev.walrus (Ev.mDget (Ev.attr (dN g) (Ev.loc (by rfl) (by rfl)) (by rfl)) (Eas.cons (Ev.loc (by rfl) (by rfl)) Eas.nil (λu1=>rfl)) (by rfl) (by rfl) (by rfl) (by rfl)) (As.name (Sto.loc (by rfl)))) Ev.noneC (by rfl)) (Exs.cons (Ex.assign2 (Ev.fnCall g.K g.ok (by rfl) ((z1l g).less (by decide)) (Ev.gkW g.K (by rfl) (by rfl) (λu1=>VR.val _) (by rfl)) (Eas.cons (Ev.loc (by rfl) (by rfl)) Eas.nil (λu1=>rfl)) (by rfl)) (As.suba (Ev.attr (dN g) (Ev.loc (by rfl) (by rfl)) (by rfl)) (Ev.loc (by rfl) (by rfl))) (As.name (Sto.loc (by rfl))) (λu1=>rfl) (λu1=>rfl)) Exs.nil) Exs.nil) (Exs.cons (Ex.ret (Ev.loc (by rfl) (by rfl))) Exs.nil))
noncomputable def zbr:=fb (bP2 (S "self") (S "node")) (dk zbj) D_Ts_get_nodeinfo.1
theorem zcx {P:Params}{C:Cx}(g:Good P C):FnK C 3 (.ref 234) zbr :=
 FnK.ofB (zft g) (Binds.p2 (λu1 u2=>rfl)) (λenv=>D_Ts_get_nodeinfo.2 P _ (g.push env))
noncomputable def D_Ts_add:{ f:K Fl // ∀P C,Good P C→Exs C 3 (d8 (dk zfi)) (dw zfi) f }:=by
 apply Subtype.mk
 intro P C g
 exact(Exs.cons (Ex.ite (Te.cmpb (Ev.attr (dN g) (Ev.loc (by rfl) (by rfl)) (by rfl)) Ev.noneC (by rfl)) (Exs.cons Ex.failRaise Exs.nil) Exs.nil) (Exs.cons (Ex.assign (Ev.mOwn (Cl:=291) g.K g.ok (by rfl) (by rfl) ((zcx g).less (by decide)) (Ev.loc (by rfl) (by rfl)) (Eas.cons (Ev.loc (by rfl) (by rfl)) Eas.nil (λu1=>rfl)) (by rfl) (by rfl) (by rfl) (by rfl)) (Sto.loc (by rfl)) (λu1=>rfl)) (Exs.cons (Ex.augAttr (dN g) (Ev.loc (by rfl) (by rfl)) (Ev.call (f:=.builtin "len") (Ev.bkW g.K (by rfl) (by rfl) (by rfl) (by rfl) (by rfl)) Callee.builtin (Eas.cons (Ev.loc (by rfl) (by rfl)) Eas.nil (λu1=>rfl)) (by rfl) Cal.len)) (Exs.cons (Ex.for (Itb.val (Ev.loc (by rfl) (by rfl))) (As.name (Sto.loc (by rfl))) (Exs.cons (Ex.assign (Ev.mOwn (Cl:=291) g.K g.ok (by rfl) (by rfl) ((zcx g).less (by decide)) (Ev.loc (by rfl) (by rfl)) (Eas.cons (Ev.loc (by rfl) (by rfl)) Eas.nil (λu1=>rfl)) (by rfl) (by rfl) (by rfl) (by rfl)) (Sto.loc (by rfl)) (λu1=>rfl)) (Exs.cons (Ex.expr (Ev.mAppend (Ev.attr (dN g) (Ev.loc (by rfl) (by rfl)) (by rfl)) (Eas.cons (Ev.loc (by rfl) (by rfl)) Eas.nil (λu1=>rfl)) (by rfl) (by rfl) (by rfl) (by rfl)) (λu1=>rfl)) Exs.nil)) Exs.nil (λu1 u2=>rfl) g.calm) Exs.nil))))
noncomputable def zpi:=fb (bV2 (S "self") (S "node") (S "predecessors")) (dk zfi) D_Ts_add.1
theorem zqj {P:Params}{C:Cx}(g:Good P C):FnK C 4 (.ref 241) zpi :=
 FnK.ofB (zt6 g) (Binds.v2 (λu1 u2 r=>by cases r<;>rfl)) (λenv=>D_Ts_add.2 P _ (g.push env))
noncomputable def D_Ts_find_cycle:{ f:K Fl // ∀P C,Good P C→Exs C 0 (d8 (dk zbt)) (dw zbt) f }:=by
 apply Subtype.mk
 intro P C g
 exact(Exs.cons (Ex.assign (Ev.attr (dN g) (Ev.loc (by rfl) (by rfl)) (by rfl)) (Sto.loc (by rfl)) (λu1=>rfl)) (Exs.cons (Ex.assign (Ev.list Eas.nil) (Sto.loc (by rfl)) (λu1=>rfl)) (Exs.cons (Ex.assign (Ev.list Eas.nil) (Sto.loc (by rfl)) (λu1=>rfl)) (Exs.cons (Ex.assign (Ev.call (f:=.type "set") (Ev.bkW g.K (by rfl) (by rfl) (by rfl) (by rfl) (by rfl)) Callee.type Eas.nil (by rfl) Cal.set) (Sto.loc (by rfl)) (λu1=>rfl)) (Exs.cons (Ex.assign Ev.dict0 (Sto.loc (by rfl)) (λu1=>rfl)) (Exs.cons (Ex.for (Itb.val (Ev.loc (by rfl) (by rfl))) (As.name (Sto.loc (by rfl))) (Exs.cons (Ex.ite (Te.cmpb (Ev.loc (by rfl) (by rfl)) (Ev.loc (by rfl) (by rfl)) (by rfl)) (Exs.cons Ex.cont Exs.nil) Exs.nil) (Exs.cons (Ex.while (Te.val Ev.boolC (λu1 u2=>rfl)) (Exs.cons (Ex.ite (Te.cmpb (Ev.loc (by rfl) (by rfl)) (Ev.loc (by rfl) (by rfl)) (by rfl)) (Exs.cons (Ex.ite (Te.cmpb (Ev.loc (by rfl) (by rfl)) (Ev.loc (by rfl) (by rfl)) (by rfl)) (Exs.cons (Ex.ret (Ev.bina (Ev.slice (Ev.loc (by rfl) (by rfl)) (Pt.some (Ev.suba (Ev.loc (by rfl) (by rfl)) (Ev.loc (by rfl) (by rfl)) (by rfl))) Pt.none Pt.none) (Ev.list (Eas.cons (Ev.loc (by rfl) (by rfl)) Eas.nil (λu1=>rfl))))) Exs.nil) Exs.nil) Exs.nil) (Exs.cons (Ex.expr (Ev.mSadd (Ev.loc (by rfl) (by rfl)) (Eas.cons (Ev.loc (by rfl) (by rfl)) Eas.nil (λu1=>rfl)) (by rfl) (by rfl) (by rfl) (by rfl)) (λu1=>rfl)) (Exs.cons (Ex.expr (Ev.mAppend (Ev.loc (by rfl) (by rfl)) (Eas.cons (Ev.nextAttr (Ev.call (f:=.builtin "iter") (Ev.bkW g.K (by rfl) (by rfl) (by rfl) (by rfl) (by rfl)) Callee.builtin (Eas.cons (Ev.attr (dN g) (Ev.suba (Ev.loc (by rfl) (by rfl)) (Ev.loc (by rfl) (by rfl)) (by rfl)) (by rfl)) Eas.nil (λu1=>rfl)) (by rfl) Cal.iter) (by rfl)) Eas.nil (λu1=>rfl)) (by rfl) (by rfl) (by rfl) (by rfl)) (λu1=>rfl)) (Exs.cons (Ex.assignSuba (Ev.call (f:=.builtin "len") (Ev.bkW g.K (by rfl) (by rfl) (by rfl) (by rfl) (by rfl)) Callee.builtin (Eas.cons (Ev.loc (by rfl) (by rfl)) Eas.nil (λu1=>rfl)) (by rfl) Cal.len) (Ev.loc (by rfl) (by rfl)) (Ev.loc (by rfl) (by rfl)) (λu1=>rfl)) (Exs.cons (Ex.expr (Ev.mAppend (Ev.loc (by rfl) (by rfl)) (Eas.cons (Ev.loc (by rfl) (by rfl)) Eas.nil (λu1=>rfl)) (by rfl) (by rfl) (by rfl) (by rfl)) (λu1=>rfl)) Exs.nil))))) (Exs.cons (Ex.while (Te.val (Ev.loc (by rfl) (by rfl)) (λu1 u2=>rfl)) (Exs.cons (Ex.tryNextW g.calm g.K (by rfl) (Nx.call (Ev.suba (Ev.loc (by rfl) (by rfl)) (Ev.neg Ev.int) (by rfl))) (by rfl) (λu1=>rfl) (Exs.cons (Ex.delSub (Ev.loc (by rfl) (by rfl)) (Ev.mPop (Ev.loc (by rfl) (by rfl)) Eas.nil (by rfl) (by rfl) (by rfl) (by rfl))) (Exs.cons (Ex.expr (Ev.mPop (Ev.loc (by rfl) (by rfl)) Eas.nil (by rfl) (by rfl) (by rfl) (by rfl)) (λu1=>rfl)) Exs.nil)) (by rfl) (by rfl)) Exs.nil) (Exs.cons Ex.brk Exs.nil)) Exs.nil)) Exs.nil) Exs.nil)) Exs.nil (λu1 u2=>rfl) g.calm) (Exs.cons (Ex.ret Ev.noneC) Exs.nil)))))))
noncomputable def zel:=fb (gG (S "self")) (dk zbt) D_Ts_find_cycle.1
theorem zgb {P:Params}{C:Cx}(g:Good P C):FnK C 1 (.ref 281) zel :=
 FnK.ofB (zgx g) (Binds.p1 (λu1=>rfl)) (λenv=>D_Ts_find_cycle.2 P _ (g.push env))
noncomputable def D_Ts_prepare:{ f:K Fl // ∀P C,Good P C→Exs C 1 (d8 (dk zcr)) (dw zcr) f }:=by
 apply Subtype.mk
 intro P C g
 exact(Exs.cons (Ex.ite (Te.cmpb (Ev.attr (dN g) (Ev.loc (by rfl) (by rfl)) (by rfl)) Ev.noneC (by rfl)) (Exs.cons Ex.failRaise Exs.nil) Exs.nil) (Exs.cons (Ex.assign1 (Ev.comp (Itb.values (Ev.attr (dN g) (Ev.loc (by rfl) (by rfl)) (by rfl)) (by rfl) (by rfl)) (Lp.last g.calm (by rfl) (by rfl) (As.name (Sto.loc (by rfl))) (Ifs.cons (Te.cmpb (Ev.attr (dN g) (Ev.loc (by rfl) (by rfl)) (by rfl)) Ev.int (by rfl)) Ifs.nil) (Ev.attr (dN g) (Ev.loc (by rfl) (by rfl)) (by rfl))) (by rfl) (λu1 u2=>rfl)) (As.attr (dN g) (Ev.loc (by rfl) (by rfl))) (λu1=>rfl) (λu1=>rfl) (λu1=>rfl)) (Exs.cons (Ex.assign (Ev.mOwn (Cl:=291) g.K g.ok (by rfl) (by rfl) ((zgb g).less (by decide)) (Ev.loc (by rfl) (by rfl)) Eas.nil (by rfl) (by rfl) (by rfl) (by rfl)) (Sto.loc (by rfl)) (λu1=>rfl)) (Exs.cons (Ex.ite (Te.val (Ev.loc (by rfl) (by rfl)) (λu1 u2=>rfl)) (Exs.cons Ex.failRaise Exs.nil) Exs.nil) Exs.nil))))
noncomputable def zgs:=fb (gG (S "self")) (dk zcr) D_Ts_prepare.1
theorem zie {P:Params}{C:Cx}(g:Good P C):FnK C 2 (.ref 246) zgs :=
 FnK.ofB (zj7 g) (Binds.p1 (λu1=>rfl)) (λenv=>D_Ts_prepare.2 P _ (g.push env))
noncomputable def D_Ts_get_ready:{ f:K Fl // ∀P C,Good P C→Exs C 0 (d8 (dk zb5)) (dw zb5) f }:=by
 apply Subtype.mk
 intro P C g
 exact(Exs.cons (Ex.ite (Te.cmpb (Ev.attr (dN g) (Ev.loc (by rfl) (by rfl)) (by rfl)) Ev.noneC (by rfl)) (Exs.cons Ex.failRaise Exs.nil) Exs.nil) (Exs.cons (Ex.assign (Ev.call (f:=.type "tuple") (Ev.bkW g.K (by rfl) (by rfl) (by rfl) (by rfl) (by rfl)) Callee.type (Eas.cons (Ev.attr (dN g) (Ev.loc (by rfl) (by rfl)) (by rfl)) Eas.nil (λu1=>rfl)) (by rfl) Cal.tuple) (Sto.loc (by rfl)) (λu1=>rfl)) (Exs.cons (Ex.assign (Ev.attr (dN g) (Ev.loc (by rfl) (by rfl)) (by rfl)) (Sto.loc (by rfl)) (λu1=>rfl)) (Exs.cons (Ex.for (Itb.val (Ev.loc (by rfl) (by rfl))) (As.name (Sto.loc (by rfl))) (Exs.cons (Ex.assign1 (Ev.gkW g.K (by rfl) (by rfl) (λu1=>VR.int _ _) (by rfl)) (As.attr (dN g) (Ev.suba (Ev.loc (by rfl) (by rfl)) (Ev.loc (by rfl) (by rfl)) (by rfl))) (λu1=>rfl) (λu1=>rfl) (λu1=>rfl)) Exs.nil) Exs.nil (λu1 u2=>rfl) g.calm) (Exs.cons (Ex.expr (Ev.mClear (Ev.attr (dN g) (Ev.loc (by rfl) (by rfl)) (by rfl)) Eas.nil (by rfl) (by rfl) (by rfl) (by rfl)) (λu1=>rfl)) (Exs.cons (Ex.augAttr (dN g) (Ev.loc (by rfl) (by rfl)) (Ev.call (f:=.builtin "len") (Ev.bkW g.K (by rfl) (by rfl) (by rfl) (by rfl) (by rfl)) Callee.builtin (Eas.cons (Ev.loc (by rfl) (by rfl)) Eas.nil (λu1=>rfl)) (by rfl) Cal.len)) (Exs.cons (Ex.ret (Ev.loc (by rfl) (by rfl))) Exs.nil)))))))
noncomputable def ze5:=fb (gG (S "self")) (dk zb5) D_Ts_get_ready.1
theorem zgw {P:Params}{C:Cx}(g:Good P C):FnK C 1 (.ref 253) ze5 :=
 FnK.ofB (zhx g) (Binds.p1 (λu1=>rfl)) (λenv=>D_Ts_get_ready.2 P _ (g.push env))
noncomputable def D_Ts_is_active:{ f:K Fl // ∀P C,Good P C→Exs C 0 (d8 (dk zb4)) (dw zb4) f }:=by
 apply Subtype.mk
 intro P C g
 exact(Exs.cons (Ex.ite (Te.cmpb (Ev.attr (dN g) (Ev.loc (by rfl) (by rfl)) (by rfl)) Ev.noneC (by rfl)) (Exs.cons Ex.failRaise Exs.nil) Exs.nil) (Exs.cons (Ex.ret (Ev.or2 (Ev.cmpb (Ev.attr (dN g) (Ev.loc (by rfl) (by rfl)) (by rfl)) (Ev.attr (dN g) (Ev.loc (by rfl) (by rfl)) (by rfl)) (by rfl)) (Ev.call (f:=.type "bool") (Ev.bkW g.K (by rfl) (by rfl) (by rfl) (by rfl) (by rfl)) Callee.type (Eas.cons (Ev.attr (dN g) (Ev.loc (by rfl) (by rfl)) (by rfl)) Eas.nil (λu1=>rfl)) (by rfl) Cal.boolT))) Exs.nil))
noncomputable def ze4:=fb (gG (S "self")) (dk zb4) D_Ts_is_active.1
theorem zgv {P:Params}{C:Cx}(g:Good P C):FnK C 1 (.ref 260) ze4 :=
 FnK.ofB (zhw g) (Binds.p1 (λu1=>rfl)) (λenv=>D_Ts_is_active.2 P _ (g.push env))
noncomputable def D_Ts_done:{ f:K Fl // ∀P C,Good P C→Exs C 0 (d8 (dk zeq)) (dw zeq) f }:=by
 apply Subtype.mk
 intro P C g
 exact(Exs.cons (Ex.ite (Te.cmpb (Ev.attr (dN g) (Ev.loc (by rfl) (by rfl)) (by rfl)) Ev.noneC (by rfl)) (Exs.cons Ex.failRaise Exs.nil) Exs.nil) (Exs.cons (Ex.assign (Ev.attr (dN g) (Ev.loc (by rfl) (by rfl)) (by rfl)) (Sto.loc (by rfl)) (λu1=>rfl)) (Exs.cons (Ex.for (Itb.val (Ev.loc (by rfl) (by rfl))) (As.name (Sto.loc (by rfl))) (Exs.cons (Ex.ite (Te.cmpb (Ev.walrus (Ev.mDget (Ev.loc (by rfl) (by rfl)) (Eas.cons (Ev.loc (by rfl) (by rfl)) Eas.nil (λu1=>rfl)) (by rfl) (by rfl) (by rfl) (by rfl)) (As.name (Sto.loc (by rfl)))) Ev.noneC (by rfl)) (Exs.cons Ex.failRaise Exs.nil) Exs.nil) (Exs.cons (Ex.assign (Ev.attr (dN g) (Ev.loc (by rfl) (by rfl)) (by rfl)) (Sto.loc (by rfl)) (λu1=>rfl)) (Exs.cons (Ex.ite (Te.cmpb (Ev.loc (by rfl) (by rfl)) (Ev.gkW g.K (by rfl) (by rfl) (λu1=>VR.int _ _) (by rfl)) (by rfl)) (Exs.cons (Ex.ite (Te.cmpb (Ev.loc (by rfl) (by rfl)) Ev.int (by rfl)) (Exs.cons Ex.failRaise Exs.nil) (Exs.cons (Ex.ite (Te.cmpb (Ev.loc (by rfl) (by rfl)) (Ev.gkW g.K (by rfl) (by rfl) (λu1=>VR.int _ _) (by rfl)) (by rfl)) (Exs.cons Ex.failRaise Exs.nil) (Exs.cons Ex.failAssert Exs.nil)) Exs.nil)) Exs.nil) Exs.nil) (Exs.cons (Ex.assign1 (Ev.gkW g.K (by rfl) (by rfl) (λu1=>VR.int _ _) (by rfl)) (As.attr (dN g) (Ev.loc (by rfl) (by rfl))) (λu1=>rfl) (λu1=>rfl) (λu1=>rfl)) (Exs.cons (Ex.for (Itb.val (Ev.attr (dN g) (Ev.loc (by rfl) (by rfl)) (by rfl))) (As.name (Sto.loc (by rfl))) (Exs.cons (Ex.assign (Ev.suba (Ev.loc (by rfl) (by rfl)) (Ev.loc (by rfl) (by rfl)) (by rfl)) (Sto.loc (by rfl)) (λu1=>rfl)) (Exs.cons (Ex.augAttr (dN g) (Ev.loc (by rfl) (by rfl)) Ev.int) (Exs.cons (Ex.ite (Te.cmpb (Ev.attr (dN g) (Ev.loc (by rfl) (by rfl)) (by rfl)) Ev.int (by rfl)) (Exs.cons (Ex.expr (Ev.mAppend (Ev.attr (dN g) (Ev.loc (by rfl) (by rfl)) (by rfl)) (Eas.cons (Ev.loc (by rfl) (by rfl)) Eas.nil (λu1=>rfl)) (by rfl) (by rfl) (by rfl) (by rfl)) (λu1=>rfl)) Exs.nil) Exs.nil) Exs.nil))) Exs.nil (λu1 u2=>rfl) g.calm) (Exs.cons (Ex.augAttr (dN g) (Ev.loc (by rfl) (by rfl)) Ev.int) Exs.nil)))))) Exs.nil (λu1 u2=>rfl) g.calm) Exs.nil)))
noncomputable def zmd:=fb (bV1 (S "self") (S "nodes")) (dk zeq) D_Ts_done.1
theorem znm {P:Params}{C:Cx}(g:Good P C):FnK C 1 (.ref 274) zmd :=
 FnK.ofB (zqn g) (Binds.v1 (λu1 r=>by cases r<;>rfl)) (λenv=>D_Ts_done.2 P _ (g.push env))
noncomputable def D_Hd_convert_string_type:{ f:K Fl // ∀P C,Good P C→Exs C 0 (d8 (dk zaw)) (dw zaw) f }:=by
 apply Subtype.mk
 intro P C g
 exact(Exs.cons (Ex.ite (Te.cmpb (Ev.call (f:=.type "type") (Ev.bkW g.K (by rfl) (by rfl) (by rfl) (by rfl) (by rfl)) Callee.type (Eas.cons (Ev.loc (by rfl) (by rfl)) Eas.nil (λu1=>rfl)) (by rfl) Cal.typ) (Ev.bkW g.K (by rfl) (by rfl) (by rfl) (by rfl) (by rfl)) (by rfl)) (Exs.cons (Ex.assign (Ev.ifx (Te.val (Ev.loc (by rfl) (by rfl)) (λu1 u2=>rfl)) (Ev.gkW g.K (by rfl) (by rfl) (λu1=>VR.val _) (by rfl)) (Ev.gkW g.K (by rfl) (by rfl) (λu1=>VR.val _) (by rfl))) (Sto.loc (by rfl)) (λu1=>rfl)) (Exs.cons (Ex.ite (Te.val (Ev.mSearch (zyw g) (Ev.loc (by rfl) (by rfl)) (Eas.cons (Ev.loc (by rfl) (by rfl)) Eas.nil (λu1=>rfl)) (by rfl) (by rfl) (by rfl) (by rfl)) (λu1 u2=>rfl)) (Exs.cons Ex.failRaise Exs.nil) Exs.nil) (Exs.cons (Ex.ret (Ev.loc (by rfl) (by rfl))) Exs.nil))) Exs.nil) (Exs.cons Ex.failRaise Exs.nil))
noncomputable def zb0:=fb (z11 (S "self") (S "value") (S "name")) (dk zaw) D_Hd_convert_string_type.1
theorem zao {P:Params}{C:Cx}(g:Good P C):FnK C 1 (.ref 70) zb0 :=
 FnK.ofB (zc8 g) (Binds.p2k1 (λu1 u2 u3=>rfl)) (λenv=>D_Hd_convert_string_type.2 P _ (g.push env))
noncomputable def D_Hd_init:{ f:K Fl // ∀P C,Good P C→Exs C 1 (d8 (dk zet)) (dw zet) f }:=by
 apply Subtype.mk
 intro P C g
 exact(Exs.cons (Ex.assign (Ev.ifx (Te.cmpb (Ev.loc (by rfl) (by rfl)) Ev.noneC (by rfl)) (Ev.loc (by rfl) (by rfl)) (Ev.list Eas.nil)) (Sto.loc (by rfl)) (λu1=>rfl)) (Exs.cons (Ex.ite (Te.cmpb (Ev.call (f:=.type "type") (Ev.bkW g.K (by rfl) (by rfl) (by rfl) (by rfl) (by rfl)) Callee.type (Eas.cons (Ev.loc (by rfl) (by rfl)) Eas.nil (λu1=>rfl)) (by rfl) Cal.typ) (Ev.bkW g.K (by rfl) (by rfl) (by rfl) (by rfl) (by rfl)) (by rfl)) (Exs.cons Ex.failRaise Exs.nil) Exs.nil) (Exs.cons (Ex.assign1 (Ev.loc (by rfl) (by rfl)) (As.attr (dN g) (Ev.loc (by rfl) (by rfl))) (λu1=>rfl) (λu1=>rfl) (λu1=>rfl)) (Exs.cons (Ex.ite (Te.val Ev.boolC (λu1 u2=>rfl)) (Exs.cons (Ex.for (Itb.val (Ev.loc (by rfl) (by rfl))) (As.tuple (Ass.cons (As.name (Sto.loc (by rfl))) (Ass.cons (As.name (Sto.loc (by rfl))) Ass.nil (λu1=>rfl)) (λu1=>rfl)) g.calm) (Exs.cons (Ex.expr (Ev.mOwnK (Cl:=171) g.K g.ok (by rfl) (by rfl) ((zao g).less (by decide)) (Ev.loc (by rfl) (by rfl)) (Ear.kw (Eas.cons (Ev.loc (by rfl) (by rfl)) Eas.nil (λu1=>rfl)) (Kws.cons Ev.boolC Kws.nil) (by rfl)) (by rfl) (by rfl) (by rfl) (by rfl) (by rfl)) (λu1=>rfl)) (Exs.cons (Ex.expr (Ev.mOwnK (Cl:=171) g.K g.ok (by rfl) (by rfl) ((zao g).less (by decide)) (Ev.loc (by rfl) (by rfl)) (Ear.kw (Eas.cons (Ev.loc (by rfl) (by rfl)) Eas.nil (λu1=>rfl)) (Kws.cons Ev.boolC Kws.nil) (by rfl)) (by rfl) (by rfl) (by rfl) (by rfl) (by rfl)) (λu1=>rfl)) Exs.nil)) Exs.nil (λu1 u2=>rfl) g.calm) Exs.nil) Exs.nil) Exs.nil))))
noncomputable def zmg:=fb (bD1 (S "self") (S "headers")) (dk zet) D_Hd_init.1
theorem znp {P:Params}{C:Cx}(g:Good P C):FnK C 2 (.ref 63) zmg :=
 FnK.ofB (zqq g) (Binds.d1W g.K (by rfl) (by rfl) (by rfl) (λu1=>rfl) (λu1=>rfl)) (λenv=>D_Hd_init.2 P _ (g.push env))
noncomputable def F_Hd:=znf 171 zmg
theorem z1m {P:Params}{C:Cx}(g:Good P C):FnK C 3 (.ref 171) F_Hd:=FnK.clsW g.K (by rfl) (by rfl) (by rfl) (znp g)
noncomputable def D_Hd_len:{ f:K Fl // ∀P C,Good P C→Exs C 0 (d8 (dk zfj)) (dw zfj) f }:=by
 apply Subtype.mk
 intro P C g
 exact(Exs.cons (Ex.ret (Ev.call (f:=.builtin "len") (Ev.bkW g.K (by rfl) (by rfl) (by rfl) (by rfl) (by rfl)) Callee.builtin (Eas.cons (Ev.attr (dN g) (Ev.loc (by rfl) (by rfl)) (by rfl)) Eas.nil (λu1=>rfl)) (by rfl) Cal.len)) Exs.nil)
noncomputable def zkk:=fb (gG (S "self")) (dk zfj) D_Hd_len.1
theorem i7 {P:Params}{C:Cx}(g:Good P C):FnK C 1 (.ref 77) zkk :=
 FnK.ofB (zt7 g) (Binds.p1 (λu1=>rfl)) (λenv=>D_Hd_len.2 P _ (g.push env))
noncomputable def D_Hd_get:{ f:K Fl // ∀P C,Good P C→Exs C 1 (d8 (dk zfk)) (dw zfk) f }:=by
 apply Subtype.mk
 intro P C g
 exact(Exs.cons (Ex.assign (Ev.mOwnK (Cl:=171) g.K g.ok (by rfl) (by rfl) ((zao g).less (by decide)) (Ev.loc (by rfl) (by rfl)) (Ear.kw (Eas.cons (Ev.mLower (Ev.loc (by rfl) (by rfl)) Eas.nil (by rfl) (by rfl) (by rfl) (by rfl)) Eas.nil (λu1=>rfl)) (Kws.cons Ev.boolC Kws.nil) (by rfl)) (by rfl) (by rfl) (by rfl) (by rfl) (by rfl)) (Sto.loc (by rfl)) (λu1=>rfl)) (Exs.cons (Ex.for (Itb.val (Ev.attr (dN g) (Ev.loc (by rfl) (by rfl)) (by rfl))) (As.tuple (Ass.cons (As.name (Sto.loc (by rfl))) (Ass.cons (As.name (Sto.loc (by rfl))) Ass.nil (λu1=>rfl)) (λu1=>rfl)) g.calm) (Exs.cons (Ex.ite (Te.cmpb (Ev.mLower (Ev.loc (by rfl) (by rfl)) Eas.nil (by rfl) (by rfl) (by rfl) (by rfl)) (Ev.loc (by rfl) (by rfl)) (by rfl)) (Exs.cons (Ex.ret (Ev.loc (by rfl) (by rfl))) Exs.nil) Exs.nil) Exs.nil) Exs.nil (λu1 u2=>rfl) g.calm) (Exs.cons (Ex.ret (Ev.loc (by rfl) (by rfl))) Exs.nil)))
noncomputable def zpj:=fb (bD2 (S "self") (S "name") (S "default")) (dk zfk) D_Hd_get.1
theorem zi3 {P:Params}{C:Cx}(g:Good P C):FnK C 2 (.ref 118) zpj :=
 FnK.ofB (zt8 g) (Binds.d2W g.K (by rfl) (by rfl) (by rfl) (λu1 u2=>rfl) (λu1 u2=>rfl)) (λenv=>D_Hd_get.2 P _ (g.push env))
noncomputable def D_Hd_keys:{ f:K Fl // ∀P C,Good P C→Exs C 0 (d8 (dk zes)) (dw zes) f }:=by
 apply Subtype.mk
 intro P C g
 exact(Exs.cons (Ex.ret (Ev.comp (Itb.val (Ev.attr (dN g) (Ev.loc (by rfl) (by rfl)) (by rfl))) (Lp.last g.calm (by rfl) (by rfl) (As.tuple (Ass.cons (As.name (Sto.loc (by rfl))) (Ass.cons (As.name (Sto.loc (by rfl))) Ass.nil (λu1=>rfl)) (λu1=>rfl)) g.calm) Ifs.nil (Ev.loc (by rfl) (by rfl))) (by rfl) (λu1 u2=>rfl))) Exs.nil)
noncomputable def zmf:=fb (gG (S "self")) (dk zes) D_Hd_keys.1
theorem zno {P:Params}{C:Cx}(g:Good P C):FnK C 1 (.ref 123) zmf :=
 FnK.ofB (zqp g) (Binds.p1 (λu1=>rfl)) (λenv=>D_Hd_keys.2 P _ (g.push env))
noncomputable def D_Hd_items:{ f:K Fl // ∀P C,Good P C→Exs C 0 (d8 (dk zdt)) (dw zdt) f }:=by
 apply Subtype.mk
 intro P C g
 exact(Exs.cons (Ex.ret (Ev.slice (Ev.attr (dN g) (Ev.loc (by rfl) (by rfl)) (by rfl)) Pt.none Pt.none Pt.none)) Exs.nil)
noncomputable def zi9:=fb (gG (S "self")) (dk zdt) D_Hd_items.1
theorem zgo {P:Params}{C:Cx}(g:Good P C):FnK C 1 (.ref 135) zi9 :=
 FnK.ofB (zns g) (Binds.p1 (λu1=>rfl)) (λenv=>D_Hd_items.2 P _ (g.push env))
noncomputable def D_Hd_setdefault:{ f:K Fl // ∀P C,Good P C→Exs C 2 (d8 (dk zbu)) (dw zbu) f }:=by
 apply Subtype.mk
 intro P C g
 exact(Exs.cons (Ex.assign (Ev.mOwn (Cl:=171) g.K g.ok (by rfl) (by rfl) ((zi3 g).less (by decide)) (Ev.loc (by rfl) (by rfl)) (Eas.cons (Ev.loc (by rfl) (by rfl)) Eas.nil (λu1=>rfl)) (by rfl) (by rfl) (by rfl) (by rfl)) (Sto.loc (by rfl)) (λu1=>rfl)) (Exs.cons (Ex.ite (Te.cmpb (Ev.loc (by rfl) (by rfl)) Ev.noneC (by rfl)) (Exs.cons (Ex.expr (Ev.mAppend (Ev.attr (dN g) (Ev.loc (by rfl) (by rfl)) (by rfl)) (Eas.cons (Ev.tuple (Eas.cons (Ev.mOwnK (Cl:=171) g.K g.ok (by rfl) (by rfl) ((zao g).less (by decide)) (Ev.loc (by rfl) (by rfl)) (Ear.kw (Eas.cons (Ev.loc (by rfl) (by rfl)) Eas.nil (λu1=>rfl)) (Kws.cons Ev.boolC Kws.nil) (by rfl)) (by rfl) (by rfl) (by rfl) (by rfl) (by rfl)) (Eas.cons (Ev.mOwnK (Cl:=171) g.K g.ok (by rfl) (by rfl) ((zao g).less (by decide)) (Ev.loc (by rfl) (by rfl)) (Ear.kw (Eas.cons (Ev.loc (by rfl) (by rfl)) Eas.nil (λu1=>rfl)) (Kws.cons Ev.boolC Kws.nil) (by rfl)) (by rfl) (by rfl) (by rfl) (by rfl) (by rfl)) Eas.nil (λu1=>rfl)) (λu1=>rfl))) Eas.nil (λu1=>rfl)) (by rfl) (by rfl) (by rfl) (by rfl)) (λu1=>rfl)) (Exs.cons (Ex.ret (Ev.loc (by rfl) (by rfl))) Exs.nil)) (Exs.cons (Ex.ret (Ev.loc (by rfl) (by rfl))) Exs.nil)) Exs.nil))
noncomputable def zcz:=fb (bP3 (S "self") (S "name") (S "value")) (dk zbu) D_Hd_setdefault.1
theorem zgc {P:Params}{C:Cx}(g:Good P C):FnK C 3 (.ref 161) zcz :=
 FnK.ofB (zgy g) (Binds.p3 (λu1 u2 u3=>rfl)) (λenv=>D_Hd_setdefault.2 P _ (g.push env))
noncomputable def D_law_within:{ f:K Fl // ∀P C,Good P C→Exs C 0 (d8 (dk zcq)) (dw zcq) f }:=by
 apply Subtype.mk
 intro P C g
 exact(Exs.cons (Ex.assign (Ev.list (Eas.cons (Ev.list Eas.nil) Eas.nil (λu1=>rfl))) (Sto.loc (by rfl)) (λu1=>rfl)) (Exs.cons (Ex.for (Itb.val (Ev.call (f:=.type "range") (Ev.bkW g.K (by rfl) (by rfl) (by rfl) (by rfl) (by rfl)) Callee.type (Eas.cons Ev.int (Eas.cons Ev.int Eas.nil (λu1=>rfl)) (λu1=>rfl)) (by rfl) Cal.range)) (As.name (Sto.cell (by rfl) (by decide))) (Exs.cons (Ex.expr (Ev.mAppend (Ev.loc (by rfl) (by rfl)) (Eas.cons (Ev.comp (Itb.val (Ev.call (f:=.type "range") (Ev.bkW g.K (by rfl) (by rfl) (by rfl) (by rfl) (by rfl)) Callee.type (Eas.cons (Ev.bina (Ev.bina (Ev.bina (Ev.bina (Ev.cell (by rfl) (by rfl)) Ev.int) Ev.int) Ev.int) Ev.int) Eas.nil (λu1=>rfl)) (by rfl) Cal.range)) (Lp.last g.calm (by rfl) (by rfl) (As.name (Sto.loc (by rfl))) (Ifs.cons (Te.cmpb (Ev.bina (Ev.bina (Ev.suba (Ev.cell (by rfl) (by rfl)) (Ev.bina (Ev.cell (by rfl) (by rfl)) Ev.int) (by rfl)) (Ev.pow Ev.int (Ev.loc (by rfl) (by rfl)))) Ev.int) Ev.int (by rfl)) Ifs.nil) (Ev.loc (by rfl) (by rfl))) (by rfl) (λu1 u2=>rfl)) Eas.nil (λu1=>rfl)) (by rfl) (by rfl) (by rfl) (by rfl)) (λu1=>rfl)) Exs.nil) Exs.nil (λu1 u2=>rfl) g.calm) (Exs.cons (Ex.ret (Ev.loc (by rfl) (by rfl))) Exs.nil)))
noncomputable def zgr:=fb (gG (S "draws")) (dk zcq) D_law_within.1
theorem zid {P:Params}{C:Cx}(g:Good P C):FnK C 1 (.ref 328) zgr :=
 FnK.ofB (zj6 g) (Binds.p1 (λu1=>rfl)) (λenv=>D_law_within.2 P _ (g.push env))
noncomputable def D_law_numbers:{ f:K Fl // ∀P C,Good P C→Exs C 4 (d8 (dk zcg)) (dw zcg) f }:=by
 apply Subtype.mk
 intro P C g
 exact(Exs.cons (Ex.assign (Ev.fnCall g.K g.ok (by rfl) ((z1k g).less (by decide)) (Ev.gkW g.K (by rfl) (by rfl) (λu1=>VR.val _) (by rfl)) Eas.nil (by rfl)) (Sto.loc (by rfl)) (λu1=>rfl)) (Exs.cons (Ex.for (Itb.val (Ev.call (f:=.type "range") (Ev.bkW g.K (by rfl) (by rfl) (by rfl) (by rfl) (by rfl)) Callee.type (Eas.cons Ev.int (Eas.cons (Ev.neg Ev.int) (Eas.cons (Ev.neg Ev.int) Eas.nil (λu1=>rfl)) (λu1=>rfl)) (λu1=>rfl)) (by rfl) Cal.range)) (As.name (Sto.loc (by rfl))) (Exs.cons (Ex.expr (Ev.mOwnS (Cl:=291) g.K g.ok (by rfl) (by rfl) ((zqj g).less (by decide)) (Ev.loc (by rfl) (by rfl)) (Eas.cons (Ev.loc (by rfl) (by rfl)) (Eas.star (Ev.suba (Ev.loc (by rfl) (by rfl)) (Ev.loc (by rfl) (by rfl)) (by rfl))) (λu1=>rfl)) (λu1 u2=>rfl) (by rfl) (λu1 u2=>rfl) (by rfl)) (λu1=>rfl)) Exs.nil) Exs.nil (λu1 u2=>rfl) g.calm) (Exs.cons (Ex.expr (Ev.mOwn (Cl:=291) g.K g.ok (by rfl) (by rfl) ((zie g).less (by decide)) (Ev.loc (by rfl) (by rfl)) Eas.nil (by rfl) (by rfl) (by rfl) (by rfl)) (λu1=>rfl)) (Exs.cons (Ex.assign (Ev.bina (Ev.list (Eas.cons (Ev.neg Ev.int) Eas.nil (λu1=>rfl))) Ev.int) (Sto.cell (by rfl) (by decide)) (λu1=>rfl)) (Exs.cons (Ex.assign (Ev.bina (Ev.list (Eas.cons (Ev.neg Ev.int) Eas.nil (λu1=>rfl))) Ev.int) (Sto.loc (by rfl)) (λu1=>rfl)) (Exs.cons (Ex.assign (Ev.list Eas.nil) (Sto.loc (by rfl)) (λu1=>rfl)) (Exs.cons (Ex.assign Ev.int (Sto.loc (by rfl)) (λu1=>rfl)) (Exs.cons (Ex.while (Te.val (Ev.mOwn (Cl:=291) g.K g.ok (by rfl) (by rfl) ((zgv g).less (by decide)) (Ev.loc (by rfl) (by rfl)) Eas.nil (by rfl) (by rfl) (by rfl) (by rfl)) (λu1 u2=>rfl)) (Exs.cons (Ex.assign (Ev.mOwn (Cl:=291) g.K g.ok (by rfl) (by rfl) ((zgw g).less (by decide)) (Ev.loc (by rfl) (by rfl)) Eas.nil (by rfl) (by rfl) (by rfl) (by rfl)) (Sto.loc (by rfl)) (λu1=>rfl)) (Exs.cons (Ex.for (Itb.val (Ev.loc (by rfl) (by rfl))) (As.name (Sto.loc (by rfl))) (Exs.cons (Ex.assign (Ev.mJoin Ev.str (Eas.cons (Ev.sortedS g.calm (Ev.bkW g.K (by rfl) (by rfl) (by rfl) (by rfl) (by rfl)) (Ev.bkW g.K (by rfl) (by rfl) (by rfl) (by rfl) (by rfl)) (Ev.comp (Itb.val (Ev.suba (Ev.loc (by rfl) (by rfl)) (Ev.loc (by rfl) (by rfl)) (by rfl))) (Lp.last g.calm (by rfl) (by rfl) (As.name (Sto.loc (by rfl))) Ifs.nil (Ev.suba Ev.str (Ev.suba (Ev.cell (by rfl) (by rfl)) (Ev.loc (by rfl) (by rfl)) (by rfl)) (by rfl))) (by rfl) (λu1 u2=>rfl)) (by rfl)) Eas.nil (λu1=>rfl)) (by rfl) (by rfl) (by rfl) (by rfl)) (Sto.loc (by rfl)) (λu1=>rfl)) (Exs.cons (Ex.assign (Ev.call (f:=.builtin "len") (Ev.bkW g.K (by rfl) (by rfl) (by rfl) (by rfl) (by rfl)) Callee.builtin (Eas.cons (Ev.loc (by rfl) (by rfl)) Eas.nil (λu1=>rfl)) (by rfl) (Cal.lenI (iV g) Cal.len ((i7 g).less (by decide)).fn)) (Sto.loc (by rfl)) (λu1=>rfl)) (Exs.cons (Ex.assignSuba (Ev.call (f:=.type "int") (Ev.bkW g.K (by rfl) (by rfl) (by rfl) (by rfl) (by rfl)) Callee.type (Eas.cons (Ev.mOwn (Cl:=171) g.K g.ok (by rfl) (by rfl) ((zgc g).less (by decide)) (Ev.loc (by rfl) (by rfl)) (Eas.cons (Ev.suba (Ev.tuple (Eas.cons (Ev.loc (by rfl) (by rfl)) (Eas.cons (Ev.mUpper (Ev.loc (by rfl) (by rfl)) Eas.nil (by rfl) (by rfl) (by rfl) (by rfl)) Eas.nil (λu1=>rfl)) (λu1=>rfl))) (Ev.bina (Ev.loc (by rfl) (by rfl)) Ev.int) (by rfl)) (Eas.cons (Ev.call (f:=.type "str") (Ev.bkW g.K (by rfl) (by rfl) (by rfl) (by rfl) (by rfl)) Callee.type (Eas.cons (Ev.loc (by rfl) (by rfl)) Eas.nil (λu1=>rfl)) (by rfl) Cal.str) Eas.nil (λu1=>rfl)) (λu1=>rfl)) (by rfl) (by rfl) (by rfl) (by rfl)) Eas.nil (λu1=>rfl)) (by rfl) Cal.int) (Ev.cell (by rfl) (by rfl)) (Ev.loc (by rfl) (by rfl)) (λu1=>rfl)) (Exs.cons (Ex.assignSuba (Ev.loc (by rfl) (by rfl)) (Ev.loc (by rfl) (by rfl)) (Ev.loc (by rfl) (by rfl)) (λu1=>rfl)) (Exs.cons (Ex.ite (Te.cmpb (Ev.suba (Ev.cell (by rfl) (by rfl)) (Ev.loc (by rfl) (by rfl)) (by rfl)) (Ev.loc (by rfl) (by rfl)) (by rfl)) (Exs.cons (Ex.expr (Ev.mAppend (Ev.loc (by rfl) (by rfl)) (Eas.cons (Ev.tuple (Eas.cons (Ev.suba (Ev.tuple (Eas.cons (Ev.loc (by rfl) (by rfl)) (Eas.cons (Ev.mUpper (Ev.loc (by rfl) (by rfl)) Eas.nil (by rfl) (by rfl) (by rfl) (by rfl)) Eas.nil (λu1=>rfl)) (λu1=>rfl))) (Ev.bina (Ev.loc (by rfl) (by rfl)) Ev.int) (by rfl)) (Eas.cons (Ev.call (f:=.type "str") (Ev.bkW g.K (by rfl) (by rfl) (by rfl) (by rfl) (by rfl)) Callee.type (Eas.cons (Ev.loc (by rfl) (by rfl)) Eas.nil (λu1=>rfl)) (by rfl) Cal.str) Eas.nil (λu1=>rfl)) (λu1=>rfl))) Eas.nil (λu1=>rfl)) (by rfl) (by rfl) (by rfl) (by rfl)) (λu1=>rfl)) Exs.nil) Exs.nil) Exs.nil))))) Exs.nil (λu1 u2=>rfl) g.calm) (Exs.cons (Ex.expr (Ev.mOwnStar (Cl:=291) g.K g.ok (by rfl) (by rfl) ((znm g).less (by decide)) (Ev.loc (by rfl) (by rfl)) (Ev.loc (by rfl) (by rfl)) (by rfl)) (λu1=>rfl)) (Exs.cons (Ex.augName Ev.int (by rfl)) Exs.nil)))) Exs.nil) (Exs.cons (Ex.ret (Ev.tuple (Eas.cons (Ev.cell (by rfl) (by rfl)) (Eas.cons (Ev.loc (by rfl) (by rfl)) (Eas.cons (Ev.loc (by rfl) (by rfl)) Eas.nil (λu1=>rfl)) (λu1=>rfl)) (λu1=>rfl)))) Exs.nil)))))))))
noncomputable def zf0:=fb (bP2 (S "within") (S "table")) (dk zcg) D_law_numbers.1
theorem zhu {P:Params}{C:Cx}(g:Good P C):FnK C 5 (.ref 333) zf0 :=
 FnK.ofB (zif g) (Binds.p2 (λu1 u2=>rfl)) (λenv=>D_law_numbers.2 P _ (g.push env))
noncomputable def D_law_order:{ f:K Fl // ∀P C,Good P C→Exs C 3 (d8 (dk zc2)) (dw zc2) f }:=by
 apply Subtype.mk
 intro P C g
 exact(Exs.cons (Ex.assign (Ev.list Eas.nil) (Sto.loc (by rfl)) (λu1=>rfl)) (Exs.cons (Ex.assign (Ev.list Eas.nil) (Sto.cell (by rfl) (by decide)) (λu1=>rfl)) (Exs.cons (Ex.for (Itb.val (Ev.mOwn (Cl:=171) g.K g.ok (by rfl) (by rfl) ((zgo g).less (by decide)) (Ev.loc (by rfl) (by rfl)) Eas.nil (by rfl) (by rfl) (by rfl) (by rfl))) (As.tuple (Ass.cons (As.name (Sto.loc (by rfl))) (Ass.cons (As.name (Sto.loc (by rfl))) Ass.nil (λu1=>rfl)) (λu1=>rfl)) g.calm) (Exs.cons (Ex.expr (Ev.mAppend (Ev.cell (by rfl) (by rfl)) (Eas.cons (Ev.callKw (Ev.bkW g.K (by rfl) (by rfl) (by rfl) (by rfl) (by rfl)) Callee.builtin (Ear.kw (Eas.cons (Ev.comp (Itb.val (Ev.mLower (Ev.loc (by rfl) (by rfl)) Eas.nil (by rfl) (by rfl) (by rfl) (by rfl))) (Lp.last g.calm (by rfl) (by rfl) (As.name (Sto.loc (by rfl))) Ifs.nil (Ev.suba (Ev.cell (by rfl) (by rfl)) (Ev.mIndexS Ev.str (Eas.cons (Ev.loc (by rfl) (by rfl)) Eas.nil (λu1=>rfl)) (by rfl) (by rfl) (by rfl) (by rfl)) (by rfl))) (by rfl) (λu1 u2=>rfl)) Eas.nil (λu1=>rfl)) (Kws.cons Ev.boolC Kws.nil) (by rfl)) CalK.sortedRev) Eas.nil (λu1=>rfl)) (by rfl) (by rfl) (by rfl) (by rfl)) (λu1=>rfl)) (Exs.cons (Ex.expr (Ev.fnCall g.K g.ok (by rfl) ((zl0 g).less (by decide)) (Ev.gkW g.K (by rfl) (by rfl) (λu1=>VR.val _) (by rfl)) (Eas.cons (Ev.loc (by rfl) (by rfl)) (Eas.cons (Ev.tuple (Eas.cons (Ev.suba (Ev.cell (by rfl) (by rfl)) (Ev.neg Ev.int) (by rfl)) (Eas.cons (Ev.call (f:=.type "int") (Ev.bkW g.K (by rfl) (by rfl) (by rfl) (by rfl) (by rfl)) Callee.type (Eas.cons (Ev.loc (by rfl) (by rfl)) Eas.nil (λu1=>rfl)) (by rfl) Cal.int) Eas.nil (λu1=>rfl)) (λu1=>rfl))) Eas.nil (λu1=>rfl)) (λu1=>rfl)) (by rfl)) (λu1=>rfl)) Exs.nil)) Exs.nil (λu1 u2=>rfl) g.calm) (Exs.cons (Ex.assign (Ev.list Eas.nil) (Sto.loc (by rfl)) (λu1=>rfl)) (Exs.cons (Ex.while (Te.cmpb (Ev.loc (by rfl) (by rfl)) (Ev.list Eas.nil) (by rfl)) (Exs.cons (Ex.expr (Ev.mAppend (Ev.loc (by rfl) (by rfl)) (Eas.cons (Ev.suba (Ev.fnCall g.K g.ok (by rfl) ((znk g).less (by decide)) (Ev.gkW g.K (by rfl) (by rfl) (λu1=>VR.val _) (by rfl)) (Eas.cons (Ev.loc (by rfl) (by rfl)) Eas.nil (λu1=>rfl)) (by rfl)) Ev.int (by rfl)) Eas.nil (λu1=>rfl)) (by rfl) (by rfl) (by rfl) (by rfl)) (λu1=>rfl)) Exs.nil) Exs.nil) (Exs.cons (Ex.ret (Ev.loc (by rfl) (by rfl))) Exs.nil))))))
noncomputable def zh6:=fb (gG (S "table")) (dk zc2) D_law_order.1
theorem zj3 {P:Params}{C:Cx}(g:Good P C):FnK C 4 (.ref 338) zh6 :=
 FnK.ofB (zl1 g) (Binds.p1 (λu1=>rfl)) (λenv=>D_law_order.2 P _ (g.push env))
noncomputable def zd3 (G:List AV→List (Str×AV)→List AO→Option (AV×List AO)):{ f:K Fl // ∀P C m,Good P C→FnK C m (.ref 345) G→Exs C m (d8 (dk zcj)) (dw zcj) f }:=by
 apply Subtype.mk
 intro P C m g hG
 exact(Exs.cons (Ex.assign Ev.int (Sto.loc (by rfl)) (λu1=>rfl)) (Exs.cons (Ex.assign Ev.int (Sto.loc (by rfl)) (λu1=>rfl)) (Exs.cons (Ex.while (Te.cmpb (Ev.loc (by rfl) (by rfl)) Ev.int (by rfl)) (Exs.cons (Ex.ite (Te.cmpb (Ev.bina (Ev.loc (by rfl) (by rfl)) Ev.int) Ev.int (by rfl)) (Exs.cons (Ex.assign (Ev.call (f:=.builtin "max") (Ev.bkW g.K (by rfl) (by rfl) (by rfl) (by rfl) (by rfl)) Callee.builtin (Eas.cons (Ev.loc (by rfl) (by rfl)) (Eas.cons (Ev.bina Ev.int (Ev.fnCall g.K g.ok (by rfl) hG (Ev.gkW g.K (by rfl) (by rfl) (λu1=>VR.val _) (by rfl)) (Eas.cons (Ev.loc (by rfl) (by rfl)) Eas.nil (λu1=>rfl)) (by rfl))) Eas.nil (λu1=>rfl)) (λu1=>rfl)) (by rfl) (Cal.max g.calm)) (Sto.loc (by rfl)) (λu1=>rfl)) Exs.nil) Exs.nil) (Exs.cons (Ex.augName Ev.int (by rfl)) (Exs.cons (Ex.augName Ev.int (by rfl)) Exs.nil))) Exs.nil) (Exs.cons (Ex.ret (Ev.loc (by rfl) (by rfl))) Exs.nil))))
noncomputable def zd2:Nat→List AV→List (Str×AV)→List AO→Option (AV×List AO)
 |0=>λu1 u2 u3=>none
 |k+1=>fb (gG (S "whole")) (dk zcj) (zd3 (zd2 k)).1
theorem zj4 {P:Params}(k:Nat):∀{C:Cx},Good P C→FnK C k (.ref 345) (zd2 k):=by
 induction k with
 |zero=>exact λu1=>λA Wd σ s args kws vs kvs u1 u2 u3 u4 r σ' e=>ns e
 |succ k ih=>exact λg=>FnK.ofB (zl2 g) (Binds.p1 (λu1=>rfl)) (λenv=>(zd3 (zd2 k)).2 P _ k (g.push env) (ih (g.push env)))
set_option maxHeartbeats 4000000 in
noncomputable def D_law:{ f:K Fl // ∀P C,Good P C→Exs C 5 (d8 (dk zod)) (dw zod) f }:=by
 apply Subtype.mk
 intro P C g
 exact(Exs.cons (Ex.assign (Ev.bina (Ev.slice (Ev.loc (by rfl) (by rfl)) Pt.none (Pt.some Ev.int) Pt.none) (Ev.slice (Ev.list (Eas.cons Ev.int (Eas.cons Ev.int (Eas.cons Ev.int (Eas.cons Ev.int (Eas.cons Ev.int (Eas.cons Ev.int (Eas.cons Ev.int (Eas.cons Ev.int Eas.nil (λu1=>rfl)) (λu1=>rfl)) (λu1=>rfl)) (λu1=>rfl)) (λu1=>rfl)) (λu1=>rfl)) (λu1=>rfl)) (λu1=>rfl))) (Pt.some (Ev.call (f:=.builtin "len") (Ev.bkW g.K (by rfl) (by rfl) (by rfl) (by rfl) (by rfl)) Callee.builtin (Eas.cons (Ev.loc (by rfl) (by rfl)) Eas.nil (λu1=>rfl)) (by rfl) (Cal.lenI (iV g) Cal.len ((i7 g).less (by decide)).fn))) Pt.none Pt.none)) (Sto.loc (by rfl)) (λu1=>rfl)) (Exs.cons (Ex.assign (Ev.fnCall g.K g.ok (by rfl) ((zid g).less (by decide)) (Ev.gkW g.K (by rfl) (by rfl) (λu1=>VR.val _) (by rfl)) (Eas.cons (Ev.loc (by rfl) (by rfl)) Eas.nil (λu1=>rfl)) (by rfl)) (Sto.loc (by rfl)) (λu1=>rfl)) (Exs.cons (Ex.assign (Ev.list Eas.nil) (Sto.cell (by rfl) (by decide)) (λu1=>rfl)) (Exs.cons (Ex.for (Itb.val (Ev.call (f:=.type "range") (Ev.bkW g.K (by rfl) (by rfl) (by rfl) (by rfl) (by rfl)) Callee.type (Eas.cons Ev.int Eas.nil (λu1=>rfl)) (by rfl) Cal.range)) (As.name (Sto.loc (by rfl))) (Exs.cons (Ex.expr (Ev.mAppend (Ev.cell (by rfl) (by rfl)) (Eas.cons (Ev.call (f:=.builtin "sum") (Ev.bkW g.K (by rfl) (by rfl) (by rfl) (by rfl) (by rfl)) Callee.builtin (Eas.cons (Ev.comp (Itb.val (Ev.sortedI g.calm (Ev.bkW g.K (by rfl) (by rfl) (by rfl) (by rfl) (by rfl)) (Ev.bkW g.K (by rfl) (by rfl) (by rfl) (by rfl) (by rfl)) (Ev.comp (Itb.val (Ev.suba (Ev.loc (by rfl) (by rfl)) (Ev.loc (by rfl) (by rfl)) (by rfl))) (Lp.last g.calm (by rfl) (by rfl) (As.name (Sto.loc (by rfl))) Ifs.nil (Ev.suba (Ev.cell (by rfl) (by rfl)) (Ev.loc (by rfl) (by rfl)) (by rfl))) (by rfl) (λu1 u2=>rfl)) (by rfl))) (Lp.last g.calm (by rfl) (by rfl) (As.name (Sto.loc (by rfl))) Ifs.nil (Ev.pow Ev.int (Ev.loc (by rfl) (by rfl)))) (by rfl) (λu1 u2=>rfl)) Eas.nil (λu1=>rfl)) (by rfl) (Cal.sum g.calm)) Eas.nil (λu1=>rfl)) (by rfl) (by rfl) (by rfl) (by rfl)) (λu1=>rfl)) Exs.nil) Exs.nil (λu1 u2=>rfl) g.calm) (Exs.cons (Ex.assign (Ev.fnCall g.K g.ok (by rfl) ((z1m g).less (by decide)) (Ev.gkW g.K (by rfl) (by rfl) (λu1=>VR.val _) (by rfl)) Eas.nil (by rfl)) (Sto.loc (by rfl)) (λu1=>rfl)) (Exs.cons (Ex.assign1 (Ev.fnCall g.K g.ok (by rfl) ((zhu g).less (by decide)) (Ev.gkW g.K (by rfl) (by rfl) (λu1=>VR.val _) (by rfl)) (Eas.cons (Ev.loc (by rfl) (by rfl)) (Eas.cons (Ev.loc (by rfl) (by rfl)) Eas.nil (λu1=>rfl)) (λu1=>rfl)) (by rfl)) (As.tuple (Ass.cons (As.name (Sto.cell (by rfl) (by decide))) (Ass.cons (As.name (Sto.loc (by rfl))) (Ass.cons (As.name (Sto.loc (by rfl))) Ass.nil (λu1=>rfl)) (λu1=>rfl)) (λu1=>rfl)) g.calm) (λu1=>rfl) (λu1=>rfl) (λu1=>rfl)) (Exs.cons (Ex.ite (Te.cmpb (Ev.mOwn (Cl:=171) g.K g.ok (by rfl) (by rfl) ((zgo g).less (by decide)) (Ev.loc (by rfl) (by rfl)) Eas.nil (by rfl) (by rfl) (by rfl) (by rfl)) (Ev.loc (by rfl) (by rfl)) (by rfl)) (Exs.cons (Ex.ret Ev.boolC) Exs.nil) Exs.nil) (Exs.cons (Ex.assignCell (Ev.comp (Itb.val (Ev.call (f:=.type "range") (Ev.bkW g.K (by rfl) (by rfl) (by rfl) (by rfl) (by rfl)) Callee.type (Eas.cons (Ev.call (f:=.builtin "len") (Ev.bkW g.K (by rfl) (by rfl) (by rfl) (by rfl) (by rfl)) Callee.builtin (Eas.cons (Ev.loc (by rfl) (by rfl)) Eas.nil (λu1=>rfl)) (by rfl) (Cal.lenI (iV g) Cal.len ((i7 g).less (by decide)).fn)) Eas.nil (λu1=>rfl)) (by rfl) Cal.range)) (Lp.last g.calm (by rfl) (by rfl) (As.name (Sto.loc (by rfl))) Ifs.nil (Ev.suba (Ev.cell (by rfl) (by rfl)) (Ev.mIndexL (Ev.cell (by rfl) (by rfl)) (Eas.cons (Ev.loc (by rfl) (by rfl)) Eas.nil (λu1=>rfl)) (by rfl) (by rfl) (by rfl) (by rfl)) (by rfl))) (by rfl) (λu1 u2=>rfl)) (Sto.cell (by rfl) (by decide)) (by rfl) (λu1 h=>zim h)) (Exs.cons (Ex.ite (Te.all (Tes.or (Te.cmpb (Ev.comp (Itb.val (Ev.cell (by rfl) (by rfl))) (Lp.last g.calm (by rfl) (by rfl) (As.name (Sto.loc (by rfl))) Ifs.nil (Ev.suba (Ev.cell (by rfl) (by rfl)) (Ev.loc (by rfl) (by rfl)) (by rfl))) (by rfl) (λu1 u2=>rfl)) (Ev.cell (by rfl) (by rfl)) (by rfl)) (Tes.or (Te.cmpb (Ev.lenSetI g.calm (Ev.bkW g.K (by rfl) (by rfl) (by rfl) (by rfl) (by rfl)) (Ev.bkW g.K (by rfl) (by rfl) (by rfl) (by rfl) (by rfl)) (Ev.cell (by rfl) (by rfl)) (by rfl)) (Ev.call (f:=.builtin "len") (Ev.bkW g.K (by rfl) (by rfl) (by rfl) (by rfl) (by rfl)) Callee.builtin (Eas.cons (Ev.loc (by rfl) (by rfl)) Eas.nil (λu1=>rfl)) (by rfl) (Cal.lenI (iV g) Cal.len ((i7 g).less (by decide)).fn)) (by rfl)) Tes.or0))) (Exs.cons (Ex.ret Ev.boolC) Exs.nil) Exs.nil) (Exs.cons (Ex.ite (Te.cmpb (Ev.loc (by rfl) (by rfl)) (Ev.comp (Itb.val (Ev.cell (by rfl) (by rfl))) (Lp.last g.calm (by rfl) (by rfl) (As.name (Sto.loc (by rfl))) Ifs.nil (Ev.fnCall g.K g.ok (by rfl) ((zj4 5 g).less (by decide)) (Ev.gkW g.K (by rfl) (by rfl) (λu1=>VR.val _) (by rfl)) (Eas.cons (Ev.loc (by rfl) (by rfl)) Eas.nil (λu1=>rfl)) (by rfl))) (by rfl) (λu1 u2=>rfl)) (by rfl)) (Exs.cons (Ex.ret Ev.boolC) Exs.nil) Exs.nil) (Exs.cons (Ex.ite (Te.cmpb (Ev.comp (Itb.val (Ev.fnCall g.K g.ok (by rfl) ((zj3 g).less (by decide)) (Ev.gkW g.K (by rfl) (by rfl) (λu1=>VR.val _) (by rfl)) (Eas.cons (Ev.loc (by rfl) (by rfl)) Eas.nil (λu1=>rfl)) (by rfl))) (Lp.last g.calm (by rfl) (by rfl) (As.name (Sto.loc (by rfl))) Ifs.nil (Ev.suba (Ev.cell (by rfl) (by rfl)) (Ev.loc (by rfl) (by rfl)) (by rfl))) (by rfl) (λu1 u2=>rfl)) (Ev.call (f:=.builtin "sorted") (Ev.bkW g.K (by rfl) (by rfl) (by rfl) (by rfl) (by rfl)) Callee.builtin (Eas.cons (Ev.cell (by rfl) (by rfl)) Eas.nil (λu1=>rfl)) (by rfl) Cal.sorted) (by rfl)) (Exs.cons (Ex.ret Ev.boolC) Exs.nil) Exs.nil) (Exs.cons (Ex.assignCell (Ev.comp (Itb.val (Ev.mOwn (Cl:=171) g.K g.ok (by rfl) (by rfl) ((zno g).less (by decide)) (Ev.loc (by rfl) (by rfl)) Eas.nil (by rfl) (by rfl) (by rfl) (by rfl))) (Lp.last g.calm (by rfl) (by rfl) (As.name (Sto.loc (by rfl))) Ifs.nil (Ev.mLower (Ev.loc (by rfl) (by rfl)) Eas.nil (by rfl) (by rfl) (by rfl) (by rfl))) (by rfl) (λu1 u2=>rfl)) (Sto.cell (by rfl) (by decide)) (by rfl) (λu1 h=>zim h)) (Exs.cons (Ex.for (Itb.val (Ev.call (f:=.type "range") (Ev.bkW g.K (by rfl) (by rfl) (by rfl) (by rfl) (by rfl)) Callee.type (Eas.cons (Ev.call (f:=.builtin "len") (Ev.bkW g.K (by rfl) (by rfl) (by rfl) (by rfl) (by rfl)) Callee.builtin (Eas.cons (Ev.cell (by rfl) (by rfl)) Eas.nil (λu1=>rfl)) (by rfl) (Cal.lenI (iV g) Cal.len ((i7 g).less (by decide)).fn)) Eas.nil (λu1=>rfl)) (by rfl) Cal.range)) (As.name (Sto.cell (by rfl) (by decide))) (Exs.cons (Ex.for (Itb.val (Ev.call (f:=.type "range") (Ev.bkW g.K (by rfl) (by rfl) (by rfl) (by rfl) (by rfl)) Callee.type (Eas.cons (Ev.call (f:=.builtin "len") (Ev.bkW g.K (by rfl) (by rfl) (by rfl) (by rfl) (by rfl)) Callee.builtin (Eas.cons (Ev.cell (by rfl) (by rfl)) Eas.nil (λu1=>rfl)) (by rfl) (Cal.lenI (iV g) Cal.len ((i7 g).less (by decide)).fn)) Eas.nil (λu1=>rfl)) (by rfl) Cal.range)) (As.name (Sto.cell (by rfl) (by decide))) (Exs.cons (Ex.assignComp (Itb.val (Ev.suba (Ev.cell (by rfl) (by rfl)) (Ev.cell (by rfl) (by rfl)) (by rfl))) (Lp.last g.calm (by rfl) (by rfl) (As.name (Sto.loc (by rfl))) (Ifs.cons (Te.notInS (Ev.loc (by rfl) (by rfl)) (Ev.suba (Ev.cell (by rfl) (by rfl)) (Ev.cell (by rfl) (by rfl)) (by rfl)) (by rfl)) Ifs.nil) (Ev.loc (by rfl) (by rfl))) (by rfl) (λu1 u2=>rfl) (by rfl) (by rfl) (by rfl)) (Exs.cons (Ex.ite (Te.cmpb (Ev.cmpb (Ev.loc (by rfl) (by rfl)) (Ev.list Eas.nil) (by rfl)) (Ev.cmpb (Ev.bit (Ev.suba (Ev.cell (by rfl) (by rfl)) (Ev.cell (by rfl) (by rfl)) (by rfl)) (Ev.suba (Ev.cell (by rfl) (by rfl)) (Ev.cell (by rfl) (by rfl)) (by rfl))) (Ev.suba (Ev.cell (by rfl) (by rfl)) (Ev.cell (by rfl) (by rfl)) (by rfl)) (by rfl)) (by rfl)) (Exs.cons (Ex.ret Ev.boolC) Exs.nil) Exs.nil) Exs.nil)) Exs.nil (λu1 u2=>rfl) g.calm) (Exs.cons (Ex.assign (Ev.bina (Ev.bina (Ev.cell (by rfl) (by rfl)) Ev.int) (Ev.call (f:=.builtin "len") (Ev.bkW g.K (by rfl) (by rfl) (by rfl) (by rfl) (by rfl)) Callee.builtin (Eas.cons (Ev.cell (by rfl) (by rfl)) Eas.nil (λu1=>rfl)) (by rfl) (Cal.lenI (iV g) Cal.len ((i7 g).less (by decide)).fn))) (Sto.cell (by rfl) (by decide)) (λu1=>rfl)) (Exs.cons (Ex.assign (Ev.mOwn (Cl:=171) g.K g.ok (by rfl) (by rfl) ((zi3 g).less (by decide)) (Ev.loc (by rfl) (by rfl)) (Eas.cons (Ev.mUpper (Ev.mJoin Ev.str (Eas.cons (Ev.sortedT g.calm (Ev.bkW g.K (by rfl) (by rfl) (by rfl) (by rfl) (by rfl)) (Ev.bkW g.K (by rfl) (by rfl) (by rfl) (by rfl) (by rfl)) (Ev.addS (Ev.suba (Ev.cell (by rfl) (by rfl)) (Ev.cell (by rfl) (by rfl)) (by rfl)) (Ev.suba (Ev.cell (by rfl) (by rfl)) (Ev.cell (by rfl) (by rfl)) (by rfl))) (by rfl)) Eas.nil (λu1=>rfl)) (by rfl) (by rfl) (by rfl) (by rfl)) Eas.nil (by rfl) (by rfl) (by rfl) (by rfl)) Eas.nil (λu1=>rfl)) (by rfl) (by rfl) (by rfl) (by rfl)) (Sto.loc (by rfl)) (λu1=>rfl)) (Exs.cons (Ex.ite (Te.cmpb (Ev.loc (by rfl) (by rfl)) (Ev.suba (Ev.bina (Ev.comp (Itb.val (Ev.call (f:=.type "range") (Ev.bkW g.K (by rfl) (by rfl) (by rfl) (by rfl) (by rfl)) Callee.type (Eas.cons (Ev.call (f:=.builtin "len") (Ev.bkW g.K (by rfl) (by rfl) (by rfl) (by rfl) (by rfl)) Callee.builtin (Eas.cons (Ev.cell (by rfl) (by rfl)) Eas.nil (λu1=>rfl)) (by rfl) (Cal.lenI (iV g) Cal.len ((i7 g).less (by decide)).fn)) Eas.nil (λu1=>rfl)) (by rfl) Cal.range)) (Lp.last g.calm (by rfl) (by rfl) (As.name (Sto.loc (by rfl))) (Ifs.cons (Te.cmpb (Ev.suba (Ev.cell (by rfl) (by rfl)) (Ev.loc (by rfl) (by rfl)) (by rfl)) (Ev.bit (Ev.suba (Ev.cell (by rfl) (by rfl)) (Ev.cell (by rfl) (by rfl)) (by rfl)) (Ev.suba (Ev.cell (by rfl) (by rfl)) (Ev.cell (by rfl) (by rfl)) (by rfl))) (by rfl)) Ifs.nil) (Ev.call (f:=.type "str") (Ev.bkW g.K (by rfl) (by rfl) (by rfl) (by rfl) (by rfl)) Callee.type (Eas.cons (Ev.loc (by rfl) (by rfl)) Eas.nil (λu1=>rfl)) (by rfl) Cal.str)) (by rfl) (λu1 u2=>rfl)) (Ev.list (Eas.cons Ev.noneC Eas.nil (λu1=>rfl)))) Ev.int (by rfl)) (by rfl)) (Exs.cons (Ex.ret Ev.boolC) Exs.nil) Exs.nil) Exs.nil)))) Exs.nil (λu1 u2=>rfl) g.calm) (Exs.cons (Ex.ret Ev.boolC) Exs.nil))))))))))))))
noncomputable def zzx:=fb (gG (S "script")) (dk zod) D_law.1
theorem zzh {P:Params}{C:Cx}(g:Good P C):FnK C 6 (.ref 350) zzx :=
 FnK.ofB (z1n g) (Binds.p1 (λu1=>rfl)) (λenv=>D_law.2 P _ (g.push env))
end Mine.Internal
end
section
namespace Mine.Internal
noncomputable def tabF {α:Type}[Inhabited α](g:Nat→(Nat→α)→α):Nat→List α
 |0=>[]
 |n+1=>tabF g n++[g n λj=>(tabF g n).getD j default]
noncomputable def fixF {α:Type}[Inhabited α](g:Nat→(Nat→α)→α)(k:Nat):α:=g k λj=>(tabF g k).getD j default
section
variable {α:Type}[Inhabited α]{g:Nat→(Nat→α)→α}
theorem zyb (n:Nat):tabF g n=(List.range n).map (fixF g):=by
 induction n with
 |zero=>rfl
 |succ n ih =>
  show tabF g n++[fixF g n]=_
  rw[cM,aE,←ih]
  rfl
theorem zt4 {k:Nat}(hg:∀f f':Nat→α,(∀j,j<k→f j=f' j)→g k f=g k f'):fixF g k=g k (fixF g):=by
 refine hg _ _ λj hj=>?_
 rw[zyb,av,aK,b8 hj]
 rfl
end
noncomputable def bsum (l:List Nat):Nat:=(l.map (2^·)).sum
theorem zke:bsum []=0:=rfl
theorem ic (a:Nat)(l:List Nat):bsum (a::l)=2^a+bsum l:=rfl
theorem zwe (l m:List Nat):bsum (l++m)=bsum l+bsum m:=by unfold bsum;exact aw aE (aw List.sum_append rfl)
noncomputable def fsum (n:Nat)(p:Nat→Bool):Nat:=bsum ((List.range n).filter p)
theorem zlz (n:Nat)(p:Nat→Bool):fsum (n+1) p=fsum n p+if p n=true then 2^n else 0:=by
 unfold fsum
 rw[cM,List.filter_append,zwe]
 by_cases h:p n=true
 ·rw[List.filter_cons_of_pos h,if_pos h];rfl
 ·rw[List.filter_cons_of_neg h,if_neg h];rfl
theorem zty (n:Nat)(p:Nat→Bool):fsum n p<2^n:=by
 induction n with
 |zero=>exact Nat.one_pos
 |succ n ih =>
  rw[zlz,fD]
  split<;>lia
theorem zj2 (n:Nat)(p:Nat→Bool)(i:Nat):(fsum n p).testBit i=(decide (i<n)&&p i):=by
 induction n with
 |zero=>exact Nat.zero_testBit i
 |succ n ih =>
  rw[zlz]
  have hl:=zty n p
  by_cases h:p n=true
  ·rw[if_pos h,ew]
   rcases cf i n with q|q|q
   ·rw[Nat.testBit_two_pow_add_gt q,ih,decide_eq_true q,decide_eq_true (bg q)]
   ·subst q
    rw[Nat.testBit_two_pow_add_eq,df hl,decide_eq_true (aQ i),h]
    rfl
   ·have:2^n+fsum n p<2^i:=ag (by have:=fD 2 n;omega:2^n+fsum n p<2^(n+1)) (Nat.pow_le_pow_right (by decide) q)
    rw[df this,decide_eq_false (by exact la79 q)]
    rfl
  ·rw[if_neg h,Nat.add_zero,ih]
   rcases cf i n with q|q|q
   ·rw[decide_eq_true q,decide_eq_true (bg q)]
   ·subst q
    rw[Bool.not_eq_true]at h
    rw[h,eJ,eJ]
   ·rw[decide_eq_false (by omega),decide_eq_false (by exact la79 q)]
noncomputable abbrev iO (l:List Nat):Prop:=l.Pairwise λa b=>b<a
theorem zny {l:List Nat}:∀{h:Nat},iO l→(∀a∈l,a<h)→bsum l<2^h:=by
 induction l with
 |nil=>exact λu1 u2=>eQ (by decide)
 |cons a l ih =>
  intro h hl hb
  have hl:=cu.mp hl
  have h1:=ih (h:=a) hl.2 hl.1
  have h2:2^(a+1)≤2^h:=Nat.pow_le_pow_right (by decide) (hb a aj)
  rw[fD]at h2
  rw[ic]
  lia
theorem zg7 {a b:Nat}{l m:List Nat}(hl:iO (a::l))(h:a<b):bsum (a::l)<bsum (b::m):=by
 rw[ic b]
 exact ag (zny hl λx hx=>(au.mp hx).elim (λe=>e▸h) λq=>a9 ((cu.mp hl).1 x q) h) (bN _ _)
theorem zwc {l:List Nat}:∀{m:List Nat},iO l→iO m→bsum l=bsum m→l=m:=by
 induction l with
 |nil =>
  intro m _ _ h
  cases m with
  |nil=>rfl
  |cons b m=>rw[zke,ic]at h;have:=eQ (a:=2) (n:=b) (by decide);lia
 |cons a l ih =>
  intro m hl hm h
  cases m with
  |nil=>rw[zke,ic]at h;have:=eQ (a:=2) (n:=a) (by decide);lia
  |cons b m =>
   rcases cf a b with q|q|q
   ·exact absurd h (aL (zg7 hl q))
   ·subst q
    rw[ic,ic]at h
    exact congrArg _ (ih (cu.mp hl).2 (cu.mp hm).2 (Nat.add_left_cancel h))
   ·exact absurd h (bE (zg7 hm q))
noncomputable def lexN:List Nat→List Nat→Bool
 | [],m=>!m.isEmpty
 |_::_,[]=>false
 |a::l,b::m=>if a=b then lexN l m else decide (a<b)
theorem zy5 {l:List Nat}:∀{m:List Nat},iO l→iO m→lexN l m=decide (bsum l<bsum m):=by
 induction l with
 |nil =>
  intro m _ _
  cases m with
  |nil=>rfl
  |cons b m=>exact(decide_eq_true (by rw[zke,ic];have:=eQ (a:=2) (n:=b) (by decide);omega)).symm
 |cons a l ih =>
  intro m hl hm
  cases m with
  |nil=>exact(decide_eq_false (aW _)).symm
  |cons b m =>
   rcases cf a b with q|q|q
   ·rw[decide_eq_true (zg7 hl q)]
    exact(if_neg (aL q)).trans (decide_eq_true q)
   ·subst q
    refine(if_pos rfl).trans ((ih (cu.mp hl).2 (cu.mp hm).2).trans ?_)
    rw[ic,ic]
    exact decide_eq_decide.mpr (by lia)
   ·rw[decide_eq_false (fE (zg7 hm q))]
    exact(if_neg (bE q)).trans (decide_eq_false (by lia))
noncomputable def gV (W:Nat→List Nat)(k:Nat)(f:Nat→Nat):Nat:=fsum 16 λv=>(W k).any λj=>f j==v
noncomputable def gR (W:Nat→List Nat)(k:Nat)(f:Nat→Nat):Nat:=(W k).foldr (λj m=>max (1+f j) m) 0
noncomputable def vV (W:Nat→List Nat):Nat→Nat:=fixF (gV W)
noncomputable def vR (W:Nat→List Nat):Nat→Nat:=fixF (gR W)
noncomputable def zuu (W:Nat→List Nat):Prop:=∀k j,j∈W k→j<k
section
variable {W:Nat→List Nat}(hW:zuu W)
include hW
theorem zry (k:Nat):vV W k=fsum 16 λv=>(W k).any λj=>vV W j==v:=by
 refine zt4 λf f' h=>?_
 unfold gV
 congr 1
 funext v
 rw[bq,bu,bu]
 exact exists_congr λj=>and_congr_right λhj=>by rw[h j (hW k j hj)]
theorem zpo (k:Nat):vR W k=(W k).foldr (λj m=>max (1+vR W j) m) 0:=by
 refine zt4 λf f' h=>?_
 unfold gR
 have:∀l:List Nat,(∀j∈l,j<k)→l.foldr (λj m=>max (1+f j) m) 0=l.foldr (λj m=>max (1+f' j) m) 0:=by
  intro l hl
  induction l with
  |nil=>rfl
  |cons a l ih=>rw[eC,eC,h a (hl a aj),ih λj hj=>hl j (af _ hj)]
 exact this _ (hW k)
end
theorem zoz {f:Nat→Nat}{l:List Nat}{j:Nat}(h:j∈l):1+f j≤l.foldr (λj m=>max (1+f j) m) 0:=by
 induction l with
 |nil=>cases h
 |cons a l ih =>
  refine aw eC ?_
  refine cF (au.mp h) (λe=>?_) λe=>?_
  ·exact aw e (Nat.le_max_left _ _)
  ·exact aI (ih e) (Nat.le_max_right _ _)
theorem zg6 {f:Nat→Nat}{l:List Nat}:l.foldr (λj m=>max (1+f j) m) 0=0∧l=[]∨∃j∈l,l.foldr (λj m=>max (1+f j) m) 0=1+f j:=by
 induction l with
 |nil=>exact .inl ⟨rfl,rfl⟩
 |cons a l ih =>
  refine .inr ?_
  refine aw eC ?_
  by_cases h:l.foldr (λj m=>max (1+f j) m) 0≤1+f a
  ·exact⟨a,aj,Nat.max_eq_left h⟩
  ·rcases ih with⟨e,_⟩|⟨j,hj,e⟩
   ·rw[e]at h;lia
   ·refine⟨j,af _ hj,?_⟩
    rw[e]at h ⊢
    exact Nat.max_eq_right (cZ h)
noncomputable def nset (num:Nat→Nat)(S:List Nat):List Nat:=(List.range 9).filter λn=>S.any λj=>num j==n
theorem zju {num:Nat→Nat}{S:List Nat}(h:∀j∈S,num j<9)(n:Nat):n∈nset num S↔∃j∈S,num j=n:=by
 unfold nset
 rw[bh,ax,bu]
 constructor
 ·rintro⟨-,j,hj,e⟩;exact⟨j,hj,beq_iff_eq.mp e⟩
 ·(intro zz;refine x1a2 zz λj hj z2=>?_;subst z2);exact⟨h j hj,j,hj,beq_iff_eq.mpr rfl⟩
theorem zqa {num num':Nat→Nat}{S:List Nat}(h:∀j∈S,num j=num' j):nset num S=nset num' S:=by
 unfold nset
 congr 1
 funext n
 rw[bq,bu,bu]
 exact exists_congr λj=>and_congr_right λhj=>by rw[h j hj]
theorem zyy {num:Nat→Nat}{S T:List Nat}(h:∀n,(∃j∈S,num j=n)↔∃j∈T,num j=n):nset num S=nset num T:=by
 unfold nset
 congr 1
 funext n
 rw[bq,bu,bu]
 have:=h n
 simpa only[beq_iff_eq]using this
structure Numd (W:Nat→List Nat)(num:Nat→Nat)(ks:List Nat):Prop where
 lt:∀k,k<9→num k<ks.length
 at_:∀(n k:Nat),ks[n]?=some k→k<9∧num k=n
 same:∀k,k<9→∀k',ks[num k]?=some k'→nset num (W k')=nset num (W k)
 inj:∀a b k k':Nat,ks[a]?=some k→ks[b]?=some k'→nset num (W k)=nset num (W k')→a=b
 low:∀(n k:Nat),ks[n]?=some k→∀j∈W k,num j<n
end Mine.Internal
end
section
namespace Mine.Internal
theorem zwd {l:List Nat}(hl:iO l)(i:Nat):(bsum l).testBit i=decide (i∈l):=by
 induction l with
 |nil=>exact(Nat.zero_testBit i).trans (decide_eq_false bV).symm
 |cons a l ih =>
  have hl':=cu.mp hl
  have hb:bsum l<2^a:=zny hl'.2 hl'.1
  rw[ic]
  rcases cf i a with q|q|q
  ·rw[Nat.testBit_two_pow_add_gt q,ih hl'.2]
   exact decide_eq_decide.mpr ⟨af _,λh=>(au.mp h).resolve_left (aL q)⟩
  ·subst q
   rw[Nat.testBit_two_pow_add_eq,df hb,decide_eq_true aj]
   rfl
  ·have:bsum (a::l)<2^i:=zny hl λx hx=>(au.mp hx).elim (λe=>e▸q) λh=>a9 (hl'.1 x h) q
   rw[←ic,df this,decide_eq_false]
   exact λh=>(au.mp h).elim (λe=>bE q e) λh=>fE q (hl'.1 i h)
structure Told (cnt:Nat)(S:Nat→List Nat)(told:Nat→Nat):Prop where
 nine:cnt≤9
 low:∀n,n<cnt→∀m,m∈S n→m<n
 bit:∀n,n<cnt→∀v,(told n).testBit v=true↔∃m∈S n,told m=v
 inj:∀n,n<cnt→∀m,m<cnt→told n=told m→n=m
 lt:∀n,n<cnt→told n<2^16
 nd:∀n,(S n).Nodup
section
variable {W:Nat→List Nat}{num:Nat→Nat}{ks:List Nat}
noncomputable def cO (W:Nat→List Nat)(ks:List Nat)(n:Nat):Nat:=vV W (ks.getD n 0)
noncomputable def setN (W:Nat→List Nat)(num:Nat→Nat)(ks:List Nat)(n:Nat):List Nat:=nset num (W (ks.getD n 0))
theorem zw4 (N:Numd W num ks):ks.length≤9:=by
 refine cs λh=>?_
 have h9:9<ks.length:=Nat.lt_of_not_le h
 have inj:∀a,a<10→∀b,b<10→ks.getD a 0=ks.getD b 0→a=b:=λa ha b hb e=>by
  have ga:ks[a]?=some (ks.getD a 0):=by refine aw (av) (aw (an (by exact la26 h ha)) ?_);rfl
  have gb:ks[b]?=some (ks.getD b 0):=by refine aw (av) (aw (an (by exact la26 h hb)) ?_);rfl
  have:=(N.at_ _ _ ga).2
  rw[e,(N.at_ _ _ gb).2]at this
  exact this.symm
 have hnd:((List.range 10).map λa=>ks.getD a 0).Nodup:=bC.mpr (cr (λ{a b} ha hb hne e=>hne (inj a (ax.mp ha) b (ax.mp hb) e)) cD)
 have hsub:((List.range 10).map λa=>ks.getD a 0)⊆List.range 9:=λx hx=>by
  (refine x1a2 (aH.mp hx) λa ha z2=>?_;subst z2)
  have ha:=ax.mp ha
  have ga:ks[a]?=some (ks.getD a 0):=by refine aw (av) (aw (an (by exact la26 h ha)) ?_);rfl
  exact ax.mpr (N.at_ _ _ ga).1
 have:=bH hnd hsub
 rw[ae,aC,aC]at this
 lia
variable (hW:zuu W)(hv:∀k,k<9→∀j∈W k,vV W j<16)(N:Numd W num ks)
include hW hv N
theorem zkw {k:Nat}(hk:k<9)(v:Nat):(vV W k).testBit v=true↔∃j∈W k,vV W j=v:=by
 rw[zry hW,zj2,aq,decide_eq_true_eq,bu]
 constructor
 ·rintro⟨_,j,hj,e⟩;exact⟨j,hj,beq_iff_eq.mp e⟩
 ·rintro⟨j,hj,rfl⟩;exact⟨hv k hk j hj,j,hj,beq_iff_eq.mpr rfl⟩
theorem zx2 {k k':Nat}(hk:k<9)(hk':k'<9):vV W k=vV W k'↔∀v,(∃j∈W k,vV W j=v)↔∃j∈W k',vV W j=v:=by
 constructor
 ·intro h v
  rw[←zkw hW hv N hk,←zkw hW hv N hk',h]
 ·intro h
  refine dD λv=>?_
  rw[bq,zkw hW hv N hk,zkw hW hv N hk']
  exact h v
theorem z00 {k:Nat}(hk:k<9):num k<9:=ag (N.lt k hk) (zw4 N)
theorem W_lt {k j:Nat}(hk:k<9)(hj:j∈W k):j<9:=a9 (hW k j hj) hk
theorem zec {k:Nat}(hk:k<9)(n:Nat):n∈nset num (W k)↔∃j∈W k,num j=n :=
 zju (λj hj=>z00 hW hv N (W_lt hW hv N hk hj)) n
theorem ztj {n:Nat}(hn:n<ks.length):ks[n]?=some (ks.getD n 0):=by refine aw (av) (aw (an hn) ?_);rfl
theorem zs2:∀n k k',k<n→k'<n→k<9→k'<9→(num k=num k'↔vV W k=vV W k'):=by
 intro n
 induction n with
 |zero=>exact λu1 u2 h=>absurd h (aW _)
 |succ n ih =>
  intro k k' h h' hk hk'
  have ih':∀j∈W k,∀j'∈W k',(num j=num j'↔vV W j=vV W j'):=λj hj j' hj'=>ih j j' (ag (hW k j hj) (bF h)) (ag (hW k' j' hj') (bF h')) (W_lt hW hv N hk hj) (W_lt hW hv N hk' hj')
  have gk:=ztj hW hv N (N.lt k hk)
  have gk':=ztj hW hv N (N.lt k' hk')
  have s:=N.same k hk _ gk
  have s':=N.same k' hk' _ gk'
  have e1:num k=num k'↔nset num (W k)=nset num (W k'):=by
   constructor
   ·intro e
    rw[←s,←s',e]
   ·intro e
    exact N.inj _ _ _ _ gk gk' (s.trans (e.trans s'.symm))
  rw[e1,zx2 hW hv N hk hk']
  constructor
  ·intro e
   have m:∀n,(∃j∈W k,num j=n)↔∃j∈W k',num j=n:=λn=>by rw[←zec hW hv N hk,←zec hW hv N hk',e]
   intro v
   constructor
   ·rintro⟨j,hj,rfl⟩
    obtain⟨j',hj',e'⟩:=(m (num j)).mp ⟨j,hj,rfl⟩
    exact⟨j',hj',((ih' j hj j' hj').mp e'.symm).symm⟩
   ·rintro⟨j',hj',rfl⟩
    obtain⟨j,hj,e'⟩:=(m (num j')).mpr ⟨j',hj',rfl⟩
    exact⟨j,hj,(ih' j hj j' hj').mp e'⟩
  ·intro m
   refine zyy λn=>?_
   constructor
   ·rintro⟨j,hj,rfl⟩
    obtain⟨j',hj',e'⟩:=(m (vV W j)).mp ⟨j,hj,rfl⟩
    exact⟨j',hj',((ih' j hj j' hj').mpr e'.symm).symm⟩
   ·rintro⟨j',hj',rfl⟩
    obtain⟨j,hj,e'⟩:=(m (vV W j')).mpr ⟨j',hj',rfl⟩
    exact⟨j,hj,(ih' j hj j' hj').mpr e'⟩
theorem zff {k:Nat}(hk:k<9):cO W ks (num k)=vV W k:=by
 have g:=ztj hW hv N (N.lt k hk)
 have h:=N.at_ _ _ g
 exact(zs2 hW hv N 9 _ _ h.1 hk h.1 hk).mp h.2
theorem zx7:Told ks.length (setN W num ks) (cO W ks):=by
 have hat:∀{n},n<ks.length→ks.getD n 0<9∧num (ks.getD n 0)=n:=λ{n} hn=>N.at_ _ _ (ztj hW hv N hn)
 refine⟨zw4 N,λn hn m hm=>?_,λn hn v=>?_,λn hn m hm e=>?_,λn hn=>?_,λn=>List.Nodup.sublist List.filter_sublist cD⟩
 ·obtain⟨j,hj,rfl⟩:=(zec hW hv N (hat hn).1 m).mp hm
  exact N.low _ _ (ztj hW hv N hn) j hj
 ·show(vV W _).testBit v=true↔_
  rw[zkw hW hv N (hat hn).1]
  constructor
  ·rintro⟨j,hj,rfl⟩
   exact⟨num j,(zec hW hv N (hat hn).1 _).mpr ⟨j,hj,rfl⟩,zff hW hv N (W_lt hW hv N (hat hn).1 hj)⟩
  ·rintro⟨m,hm,rfl⟩
   obtain⟨j,hj,rfl⟩:=(zec hW hv N (hat hn).1 m).mp hm
   exact⟨j,hj,(zff hW hv N (W_lt hW hv N (hat hn).1 hj)).symm⟩
 ·have:=(zs2 hW hv N 9 _ _ (hat hn).1 (hat hm).1 (hat hn).1 (hat hm).1).mpr e
  rwa[(hat hn).2,(hat hm).2]at this
 ·show vV W _<_
  rw[zry hW]
  exact zty _ _
end
section
variable {cnt:Nat}{S:Nat→List Nat}{told:Nat→Nat}
noncomputable def fq (S:Nat→List Nat)(told:Nat→Nat)(n:Nat):List Nat:=(S n).mergeSort λa b=>decide (told b≤told a)
theorem zfu (n:Nat):(fq S told n).Perm (S n):=List.mergeSort_perm _ _
variable (T:Told cnt S told)
include T
theorem zdf {n:Nat}(hn:n<cnt):iO ((fq S told n).map told):=by
 have h1:(fq S told n).Pairwise λa b=>decide (told b≤told a)=true:=List.pairwise_mergeSort (le:=λa b=>decide (told b≤told a)) (λa b c h1 h2=>decide_eq_true (aI (of_decide_eq_true h2) (of_decide_eq_true h1))) (λa b=>by rw[cB,decide_eq_true_eq,decide_eq_true_eq];exact Nat.le_total _ _) _
 have h2:(fq S told n).Nodup:=(zfu n).nodup_iff.mpr (T.nd n)
 have hm:∀{a},a∈fq S told n→a<cnt:=λh=>a9 (T.low n hn _ ((zfu n).mem_iff.mp h)) hn
 refine bC.mpr (cr (λ{a b} ha hb hab=>?_) (h1.and h2))
 exact ce (of_decide_eq_true hab.1) λe=>hab.2 (T.inj _ (hm ha) _ (hm hb) e.symm)
theorem zem {n:Nat}(hn:n<cnt):told n=bsum ((fq S told n).map told):=by
 refine dD λv=>?_
 rw[zwd (zdf T hn),bq,T.bit n hn,decide_eq_true_eq,aH]
 exact exists_congr λm=>and_congr_left λu1=>(zfu n).mem_iff.symm
theorem zu6 {a b:Nat}(ha:a<cnt)(hb:b<cnt):told a &&& told b=told a↔∀m∈S a,m∈S b:=by
 constructor
 ·intro h m hm
  have h1:(told a).testBit (told m)=true:=(T.bit a ha _).mpr ⟨m,hm,rfl⟩
  rw[←h,Nat.testBit_and,aq]at h1
  obtain⟨m',hm',e⟩:=(T.bit b hb _).mp h1.2
  have:=T.inj _ (a9 (T.low b hb _ hm') hb) _ (a9 (T.low a ha _ hm) ha) e
  exact this▸hm'
 ·intro h
  refine dD λv=>?_
  rw[Nat.testBit_and,bq,aq,and_iff_left_iff_imp]
  intro q
  obtain⟨m,hm,e⟩:=(T.bit a ha v).mp q
  exact(T.bit b hb v).mpr ⟨m,h m hm,e⟩
theorem zps {a b c:Nat}(ha:a<cnt)(hb:b<cnt)(hc:c<cnt):told c=told a ||| told b↔∀m,m∈S c↔m∈S a∨m∈S b:=by
 have key:∀{x},x<cnt→∀{m},m<cnt→((told x).testBit (told m)=true↔m∈S x):=λ{x} hx {m} hm=>by
  rw[T.bit x hx]
  exact⟨λ⟨m',h,e⟩=>T.inj _ (a9 (T.low x hx _ h) hx) _ hm e▸h,λh=>⟨m,h,rfl⟩⟩
 have low:∀{x},x<cnt→∀{m},m∈S x→m<cnt:=λ{x} hx {m} h=>a9 (T.low x hx m h) hx
 constructor
 ·intro h m
  by_cases hm:m<cnt
  ·rw[←key hc hm,h,Nat.testBit_or,cB,key ha hm,key hb hm]
  ·exact⟨λq=>absurd (low hc q) hm,λq=>q.elim (λq=>absurd (low ha q) hm) λq=>absurd (low hb q) hm⟩
 ·intro h
  refine dD λv=>?_
  rw[Nat.testBit_or,bq,cB,T.bit a ha,T.bit b hb,T.bit c hc]
  constructor
  ·rintro⟨m,hm,e⟩
   exact((h m).mp hm).imp (λq=>⟨m,q,e⟩) λq=>⟨m,q,e⟩
  ·rintro(⟨m,hm,e⟩|⟨m,hm,e⟩)
   ·exact⟨m,(h m).mpr (.inl hm),e⟩
   ·exact⟨m,(h m).mpr (.inr hm),e⟩
end
end Mine.Internal
end
section
open PySem PySem.W PySem.W.X PyProof.Rows
set_option maxRecDepth 1000000
set_option maxHeartbeats 0
namespace Mine.Internal
theorem z1h (walk:∀(w:World) (s₁:Shared) (mg mb:Str→Option Value) (ns:List Int) (vs:List Value) (a:Addr),
  s₁.heap.Ns mainGlobals mg→s₁.heap.Ns builtinsNs mb→s₁.heap.NoLimit→(∀x:Str,x ≠ "__name__" → mb x=bootBuiltins x)→(iP PySem.Challenge.pw_op0268_06 w.params).In s₁.heap →
  s₁.heap.get? a=some { cls:=.type "list", data:=.seq vs.toArray }→IntsAre vs ns→ns.length<2^20→s₁.gens=#[] →
  ∀(Q E:Value→Shared→Prop),(∀h' (tk:Nat×Drawn),(∀b o,s₁.heap.get? b=some o→h'.get? b=some o)→Q (.bool true) (mv s₁ h' tk)) →
   wpAny (model PySem.Challenge.pw_op0268_06 w) callerA (call (.ref 350) [.ref a]) Q E s₁):PySem.Challenge.rw_op0268_06.Holds:=by
 w_on
 refine holds_law (by kernel_rfl) λsaid=>?_
 refine holds_openX (q:=qv) (loose:=zw3) (Xt:=xtK) (XP:=XL qv []) (Yf:=obsK) (Ya:=valK) (N:=6000) z2l (λs e=>xl_of s (Bool.and_eq_true_iff.mp e).1) XL.keeps (by rfl) (by rfl) (by rfl) (λs e=>recFacts_of (Bool.and_eq_true_iff.mp e).2) (by rfl) (by assumption) (by decide +kernel) ⟨rfl,rfl,rfl,rfl,rfl,by decide +kernel⟩ ?hw ?hc
 case hw=>w_witness2
 case hc =>
  intro w s₀ s₁ mg mb G y fa o pm cd doc dV kV ho hd hcd hD hmg hg args vals as L hpre hlay hrd hwl hlo
  have ZI:=ofK w s₀ y
  have KX:=Frag.In.keeps ZI (Laid.keeps L)
  refine Ground.open G ?_
  intro T B D TE TW
  wrow_args hpre hlay hrd hwl hlo
  x_fa T KX hmg
  all_lens
  refine walk w s₁ mg mb _ _ _ T.g T.b T.nolimit T.builtins KX (script_obj L (by assumption)) (by assumption) (by omega) hg _ _ λh' tk keep=>?_
  refine GoodW.toG ⟨.inl ⟨_,.bool true,[],rfl,λcls=>rfl,.bool true,?_,unshared_nil⟩,keep,rfl,hg⟩
  wrow_post
end Mine.Internal
end
section
namespace Mine.Internal
structure Order {α:Type}(lt:α→α→Bool):Prop where
 asymm:∀{a b},lt a b=true→lt b a=false
 trans:∀{a b c},lt b a=false→lt c b=false→lt c a=false
theorem Order.mix {α:Type}{lt:α→α→Bool}(o:Order lt){a b c:α}(h:lt a b=true)(h2:lt c b=false):lt c a=false:=o.trans (o.asymm h) h2
section
variable {α:Type}(lt:α→α→Bool)
noncomputable def Edge (a:Nat→Option α)(i j:Nat):Prop:=∀x y,a i=some x→a j=some y→lt y x=false
noncomputable def Par (i j:Nat):Prop:=j=2*i+1∨j=2*i+2
theorem Par.up {n:Nat}(h:0<n):Par ((n-1)/2) n:=by unfold Par;lia
noncomputable def Heaped (a:Nat→Option α):Prop:=∀i j,Par i j→Edge lt a i j
structure Down (a:Nat→Option α)(p:Nat):Prop where
 edge:∀i j,Par i j→j≠p→Edge lt a i j
 over:∀q c,Par q p→Par p c→Edge lt a q c
structure Up (a:Nat→Option α)(p:Nat):Prop where
 edge:∀i j,Par i j→i≠p→j≠p→Edge lt a i j
 over:∀q c,Par q p→Par p c→Edge lt a q c
noncomputable def sw (a:Nat→Option α)(p q:Nat):Nat→Option α:=λi=>if i=p then a q else if i=q then a p else a i
variable {lt}
theorem sw_p {a:Nat→Option α}{p q:Nat}:sw a p q p=a q:=by simp[sw]
theorem sw_q {a:Nat→Option α}{p q:Nat}:sw a p q q=a p:=by
 unfold sw
 split
 ·rename_i e;exact aw e rfl
 ·simp
theorem iR {a:Nat→Option α}{p q i:Nat}(h:i≠p)(h':i≠q):sw a p q i=a i:=by simp[sw,h,h']
theorem Par.less {i j:Nat}(h:Par i j):i<j:=by rcases h with h|h<;>lia
theorem Par.inj {i k j:Nat}(h:Par i j)(h':Par k j):i=k:=by rcases h with h|h<;>rcases h' with h'|h'<;>lia
theorem Down.heap {a:Nat→Option α}{p:Nat}(d:Down lt a p)(h:∀q,Par q p→Edge lt a q p):Heaped lt a:=λi j hp=>by
 by_cases q:j=p
 ·subst q;exact h i hp
 ·exact d.edge i j hp q
theorem Down.step (o:Order lt){a:Nat→Option α}{p q:Nat}{x y:α}(d:Down lt a p)(hq:Par q p)(hx:a p=some x)(hy:a q=some y)(hl:lt x y=true):Down lt (sw a p q) q:=by
 have hne:=aL hq.less
 refine⟨λi j hp hj u v hu hv=>?_,λr c hr hc u v hu hv=>?_⟩
 ·by_cases hjp:j=p
  ·subst hjp
   have:=hp.inj hq
   subst this
   rw[sw_q,hx]at hu;obtain rfl:=sj hu
   rw[sw_p,hy]at hv;obtain rfl:=sj hv
   exact o.asymm hl
  ·rw[iR hjp hj]at hv
   by_cases hip:i=p
   ·subst hip
    rw[sw_p,hy]at hu;obtain rfl:=sj hu
    exact d.over q j hq hp _ _ hy hv
   ·by_cases hiq:i=q
    ·subst hiq
     rw[sw_q,hx]at hu;obtain rfl:=sj hu
     exact o.mix hl (d.edge i j hp hjp _ _ hy hv)
    ·rw[iR hip hiq]at hu
     exact d.edge i j hp hjp _ _ hu hv
 ·have h1:=hr.less
  have h2:=hq.less
  rw[iR (by lia) (by lia)]at hu
  by_cases hcp:c=p
  ·subst hcp
   rw[sw_p,hy]at hv;obtain rfl:=sj hv
   exact d.edge r q hr hne _ _ hu hy
  ·have h3:=hc.less
   rw[iR hcp (by lia)]at hv
   exact o.trans (d.edge r q hr hne _ _ hu hy) (d.edge q c hc hcp _ _ hy hv)
theorem Up.step (o:Order lt){a:Nat→Option α}{p c:Nat}{y:α}(d:Up lt a p)(hc:Par p c)(hy:a c=some y)(hm:∀s z,Par p s→a s=some z→lt z y=false):Up lt (sw a p c) c:=by
 have hne:=aL hc.less
 refine⟨λi j hp hi hj u v hu hv=>?_,λr e hr he u v hu hv=>?_⟩
 ·by_cases hjp:j=p
  ·subst hjp
   have:=hp.less
   rw[iR (aL this) hi]at hu
   rw[sw_p,hy]at hv;obtain rfl:=sj hv
   exact d.over i c hp hc _ _ hu hy
  ·rw[iR hjp hj]at hv
   by_cases hip:i=p
   ·subst hip
    rw[sw_p,hy]at hu;obtain rfl:=sj hu
    exact hm j v hp hv
   ·rw[iR hip hi]at hu
    exact d.edge i j hp hip hjp _ _ hu hv
 ·have:=hr.inj hc
  subst this
  have h1:=hr.less
  have h2:=he.less
  rw[sw_p,hy]at hu;obtain rfl:=sj hu
  rw[iR (by lia) (by lia)]at hv
  exact d.edge c e he (bE h1) (by lia) _ _ hy hv
theorem Up.down {a:Nat→Option α}{p:Nat}(d:Up lt a p)(h:∀c,Par p c→a c=none):Down lt a p :=
 ⟨λi j hp hj=>by
  by_cases q:i=p
  ·subst q;intro u v _ hv;rw[h j hp]at hv;exact ns hv
  ·exact d.edge i j hp q hj,d.over⟩
theorem Heaped.root (o:Order lt){l:List α}(h:Heaped lt λi=>l[i]?){r:α}(hr:l[0]?=some r):∀(n i:Nat) (x:α),i<n→l[i]?=some x→lt x r=false
 |0,_,_,h,_=>absurd h (aW _)
 |n+1,i,x,hi,hx=>by
  have rfl':lt r r=false:=by
   cases e:lt r r with
   |false=>rfl
   |true=>exact absurd (o.asymm e) (by rw[e];decide)
  by_cases h0:i=0
  ·subst h0;rw[hr]at hx;obtain rfl:=sj hx;exact rfl'
  ·have hp:Par ((i-1)/2) i:=.up (dQ h0)
   have hlt:=(ap.mp hx).1
   have:=hp.less
   exact o.trans (Heaped.root o h hr n ((i-1)/2) _ (by lia) (an (by lia))) (h _ i hp _ _ (an (by lia)) hx)
theorem zj1 {l:List α}{p:Nat}{x:α}(hp:p<l.length)(i:Nat):(l.set p x)[i]?=if i=p then some x else l[i]?:=by
 split
 ·rename_i e;subst e;exact aJ hp
 ·rename_i e;exact bW λq=>e q.symm
theorem zs7 {l:List α}{p q:Nat}{x y:α}(hp:p<l.length)(hpq:q≠p)(hy:l[q]?=some y):(λi=>((l.set p y).set q x)[i]?)=sw (λi=>(l.set p x)[i]?) p q:=by
 have hq:=(ap.mp hy).1
 funext i
 unfold sw
 dsimp only
 rw[zj1 (by simpa using hq),zj1 hp]
 by_cases h1:i=q
 ·subst h1
  simp[hpq,hp]
 ·by_cases h2:i=p
  ·subst h2
   rw[if_neg h1,if_pos rfl,if_pos rfl,zj1 hp,if_neg hpq,hy]
  ·rw[if_neg h1,if_neg h2,if_neg h2,if_neg h1,zj1 hp,if_neg h2]
theorem zlg {l:List α}{p q:Nat}{x y:α}(hp:p<l.length)(hpq:q≠p)(hy:l[q]?=some y):((l.set p y).set q x).Perm (l.set p x):=by
 (refine x1a1 (ap.mp hy) λhq z1=>?_;subst z1)
 have:=List.set_set_perm (as:=l.set p x) (i:=p) (j:=q) (by simpa using hp) (by simpa using hq)
 simp only[List.getElem_set_self,List.getElem_set_ne (cG hpq),bL]at this
 exact this
end
end Mine.Internal
end
section
namespace Mine.Internal
open PySem PyProof.Rows PySem.W PySem.SeqAt
noncomputable def wp {α:Type}(f:K α)(st:St)(Q:α→St→Prop):Prop:=∃a st',f st=some (a,st')∧Q a st'
noncomputable def dO (F:Option (AV×List AO))(Q:AV→List AO→Prop):Prop:=∃r σ',F=some (r,σ')∧Q r σ'
noncomputable def th (l:List (Option AV)):Nat→Option AV:=λi=>(l[i]?).join
noncomputable def zmx (g:K Fl)(Q:Fl→St→Prop):Fl→St→Prop:=λfl st=>match fl with
 |.next=>wp g st Q
 |fl=>Q fl st
noncomputable def zn5 (I:Nat→St→Prop)(n:Nat)(Q:Fl→St→Prop):Fl→St→Prop:=λfl st=>match fl with
 |.next | .cont=>∃m,m<n∧I m st
 |.brk=>Q .next st
 |.ret v=>Q (.ret v) st
noncomputable def forQ (I:List AV→List AV→St→Prop)(d r:List AV)(Q:Fl→St→Prop):Fl→St→Prop:=λfl st=>match fl with
 |.next | .cont=>I d r st
 |.brk=>Q .next st
 |.ret v=>Q (.ret v) st
section
variable {st:St}{g:K Fl}{Q:Fl→St→Prop}{I:Nat→St→Prop}{J:List AV→List AV→St→Prop}{n:Nat}{d r:List AV}{v:AV}
theorem zpt (h:wp g st Q):zmx g Q .next st:=h
theorem zr7 (h:Q .brk st):zmx g Q .brk st:=h
theorem zpu (h:Q .cont st):zmx g Q .cont st:=h
theorem zr6 (h:Q (.ret v) st):zmx g Q (.ret v) st:=h
theorem zmr (h:∃m,m<n∧I m st):zn5 I n Q .next st:=h
theorem zms (h:∃m,m<n∧I m st):zn5 I n Q .cont st:=h
theorem zpn (h:Q .next st):zn5 I n Q .brk st:=h
theorem zt1 (h:J d r st):forQ J d r Q .next st:=h
theorem zt2 (h:J d r st):forQ J d r Q .cont st:=h
theorem zv6 (h:Q (.ret v) st):forQ J d r Q (.ret v) st:=h
end
section
variable {α β:Type}{st:St}{σ:List AO}{l:List (Option AV)}
theorem cH {f:K α}{a:α}{st':St}{Q:α→St→Prop}(e:f st=some (a,st'))(h:Q a st'):wp f st Q:=⟨a,st',e,h⟩
theorem zjc {f:K α}{Q Q':α→St→Prop}(h:wp f st Q)(hq:∀a st',Q a st'→Q' a st'):wp f st Q':=x2a2 h λa st' e h=>⟨a,st',e,hq a st' h⟩
theorem fP {F:Option (AV×List AO)}{Q Q':AV→List AO→Prop}(h:dO F Q)(hq:∀a σ',Q a σ'→Q' a σ'):dO F Q':=x2a2 h λa st' e h=>⟨a,st',e,hq a st' h⟩
theorem gU {F:Option (AV×List AO)}{P:AV→List AO→Prop}(h:∀Q:AV→List AO→Prop,(∀v σ',P v σ'→Q v σ')→dO F Q):dO F P:=h P λu1 u2 q=>q
theorem fY {f:K α}{g:α→K β}{Q:β→St→Prop}(h:wp f st λa st'=>wp (g a) st' Q):wp (K.bind f g) st Q:=by
 obtain⟨a,st₁,e,b,st₂,e2,hq⟩:=h
 exact⟨b,st₂,K.bind_iff.mpr ⟨a,st₁,e,e2⟩,hq⟩
theorem iX {a:α}{Q:α→St→Prop}(h:Q a st):wp (K.ret a) st Q:=⟨a,st,rfl,h⟩
theorem gu {f g:K Fl}{Q:Fl→St→Prop}(h:wp f st (zmx g Q)):wp (zx8 f g) st Q:=by
 refine fY (zjc h λfl st' h'=>?_)
 cases fl with
 |next=>exact h'
 |brk=>exact iX h'
 |cont=>exact iX h'
 |ret v=>exact iX h'
theorem zwl {f g:K Fl}{Q:Fl→St→Prop}(M:St→Prop)(h:wp f st λfl st'=>fl=.next∧M st')(k:∀st',M st'→wp g st' Q):wp (zx8 f g) st Q :=
 gu (zjc h λfl st' h'=>by obtain⟨rfl,h'⟩:=h';exact k st' h')
theorem zrt {i:Nat}{a:AV}{Q:AV→St→Prop}(h:th l i=some a)(hq:Q a ⟨th l,σ⟩):wp (getv i) ⟨th l,σ⟩ Q:=⟨a,_,by show(th l i).map _=_;refine aw h ?_;rfl,hq⟩
theorem zwr {i:Nat}{a:AV}(h:Nat.blt i l.length=true):upd (th l) i a=th (l.set i (some a)):=by
 have h:=Nat.blt_eq.mp h
 funext j
 unfold upd th
 split
 ·rename_i e;subst e;refine aw (aJ h) ?_;rfl
 ·rename_i e;exact aw (bW (λq=>e q.symm)) rfl
theorem zrd {i:Nat}{a:AV}{Q:Unit→St→Prop}(h:Nat.blt i l.length=true)(hq:Q () ⟨th (l.set i (some a)),σ⟩):wp (setv i a) ⟨th l,σ⟩ Q :=
 ⟨(),_,rfl,by refine aw (zwr h) ?_;exact hq⟩
theorem zxq {α:Type}{i:Nat}{a:AV}{f:AV→K α}{Q:α→St→Prop}(h:th l i=some a)(hq:wp (f a) ⟨th l,σ⟩ Q):wp (K.bind (getv i) f) ⟨th l,σ⟩ Q:=fY (zrt h hq)
theorem zxm {α β:Type}{a:α}{f:α→K β}{Q:β→St→Prop}(h:wp (f a) st Q):wp (K.bind (K.ret a) f) st Q:=fY (iX h)
theorem zxi {α:Type}{i:Nat}{a:AV}{f:Unit→K α}{Q:α→St→Prop}(h:Nat.blt i l.length=true)(hq:wp (f ()) ⟨th (l.set i (some a)),σ⟩ Q):wp (K.bind (setv i a) f) ⟨th l,σ⟩ Q:=fY (zrd h hq)
theorem zuy {g:K Fl}{Q:Fl→St→Prop}(h:wp g st Q):wp (K.ret .next) st (zmx g Q):=iX h
theorem zz6 {α:Type}{f g:K α}{Q:α→St→Prop}(h:wp f st Q):wp (if true=true then f else g) st Q:=h
theorem zrs {α:Type}{f g:K α}{Q:α→St→Prop}(h:wp g st Q):wp (if false=true then f else g) st Q:=h
theorem zvi {A B:Prop}(h:A):if true=true then A else B:=h
theorem zjp {A B:Prop}(h:B):if false=true then A else B:=h
theorem dv {P:St→Prop}{Q:Unit→St→Prop}(hp:P st)(hq:Q () st):wp (fw P) st Q:=⟨(),st,zi2 hp,hq⟩
theorem fh {F:List AV→List AO→Option (AV×List AO)}{args:List AV}{Q:AV→St→Prop}{θ:Nat→Option AV}(h:dO (F args σ) λr σ'=>Q r ⟨θ,σ'⟩):wp (zng F args) ⟨θ,σ⟩ Q:=by
 (refine x2a2 h λr σ' e hq=>?_)
 exact⟨r,_,by unfold zng;refine aw e ?_;rfl,hq⟩
theorem zjd {F:List AV→List (Str×AV)→List AO→Option (AV×List AO)}{args:List AV}{kws:List (Str×AV)}{Q:AV→St→Prop}{θ:Nat→Option AV}(h:dO (F args kws σ) λr σ'=>Q r ⟨θ,σ'⟩):wp (zvu F args kws) ⟨θ,σ⟩ Q:=by
 (refine x2a2 h λr σ' e hq=>?_)
 exact⟨r,_,by unfold zvu;refine aw e ?_;rfl,hq⟩
theorem ze8 {c:Bool}{f g:K α}{Q:α→St→Prop}(ht:c=true→wp f st Q)(hf:c=false→wp g st Q):wp (if c=true then f else g) st Q:=by
 cases c with
 |true=>exact ht rfl
 |false=>exact hf rfl
theorem zdl {t:K Bool}{b o:K Fl}{Q:Fl→St→Prop}(I:Nat→St→Prop)(n:Nat)(h:I n st)
  (step:∀n st,I n st→wp t st λc st'=>if c=true then wp b st' (zn5 I n Q)else wp o st' Q):wp (zn4 t b o) st Q:=by
 have key:∀n st,I n st→∃N fl st',gI t b o N st=some (fl,st')∧Q fl st':=by
  intro n
  induction n using Nat.strongRecOn with
  |_ n ih =>
   intro st h
   (refine x2a2 (step n st h) λc st₁ e1 h1=>?_)
   cases c with
   |false =>
    (refine x2a2 h1 λfl st₂ e2 h2=>?_)
    exact⟨1,fl,st₂,by unfold gI;refine aw (K.bind_some e1) ?_;exact e2,h2⟩
   |true =>
    (refine x2a2 h1 λfl st₂ e2 h2=>?_)
    cases fl with
    |next =>
     obtain⟨m,hm,hI⟩:=h2
     obtain⟨N,fl,st',e3,h3⟩:=ih m hm st₂ hI
     exact⟨N+1,fl,st',by unfold gI;rw[K.bind_some e1,if_pos rfl,K.bind_some e2];exact e3,h3⟩
    |cont =>
     obtain⟨m,hm,hI⟩:=h2
     obtain⟨N,fl,st',e3,h3⟩:=ih m hm st₂ hI
     exact⟨N+1,fl,st',by unfold gI;rw[K.bind_some e1,if_pos rfl,K.bind_some e2];exact e3,h3⟩
    |brk=>exact⟨1,.next,st₂,by unfold gI;refine aw (K.bind_some e1) (aw (if_pos rfl) (aw (K.bind_some e2) ?_));rfl,h2⟩
    |ret v=>exact⟨1,.ret v,st₂,by unfold gI;refine aw (K.bind_some e1) (aw (if_pos rfl) (aw (K.bind_some e2) ?_));rfl,h2⟩
 (refine x3a2 (key n st h) λN fl st' e hq=>?_)
 exact⟨fl,st',whileW_iff.mpr ⟨N,e⟩,hq⟩
theorem ib {g:Option (Nat×AO)}{asg:AV→K Unit}{b o:K Fl}{vs:List AV}{Q:Fl→St→Prop}(I:List AV→List AV→St→Prop)(h:I [] vs st)
  (step:∀d a r st,d++a::r=vs→I d (a::r) st→gp g st.σ∧wp (asg a) st λu1 st'=>wp b st' (forQ I (d++[a]) r Q))
  (done:∀st,I vs [] st→gp g st.σ∧wp o st Q):wp (forL g asg b o vs) st Q:=by
 have key:∀r d st,d++r=vs→I d r st→wp (forL g asg b o r) st Q:=by
  intro r
  induction r with
  |nil =>
   intro d st hd hI
   rw[bi]at hd
   (refine x0a2 (done st (hd▸hI)) λh1 h2=>?_)
   exact fY (dv h1 h2)
  |cons a r ih =>
   intro d st hd h
   (refine x0a2 (step d a r st hd h) λh1 h2=>?_)
   refine fY (dv h1 (fY (zjc h2 λu1 st' h3=>fY (zjc h3 λfl st'' h4=>?_))))
   cases fl with
   |next=>exact ih (d++[a]) st'' (by rw[bf];exact hd) h4
   |cont=>exact ih (d++[a]) st'' (by rw[bf];exact hd) h4
   |brk=>exact iX h4
   |ret v=>exact iX h4
 exact key vs [] st rfl h
theorem zg9 {a:AV}{vs:List AV}{g:Option (Nat×AO)}{Q:List AV×Option (Nat×AO)→St→Prop}{θ:Nat→Option AV}(e:zsa a σ=some (vs,g))(hq:Q (vs,g) ⟨θ,σ⟩):wp (srcK a) ⟨θ,σ⟩ Q:=⟨_,_,by unfold srcK;refine aw e ?_;rfl,hq⟩
theorem gE {Γ:cA}{sc:Scope}{f:K (List AV×Option (Nat×AO))}{F:Nat→List AV×Option (Nat×AO)→K Fl}{Q:Nat→St→Prop}
  (h:wp f st λp st'=>wp (F st'.σ.length p) ⟨θcap (zum Γ sc) st'.θ,st'.σ++[.list []]⟩ λfl st''=>fl=.next∧Q st'.σ.length ⟨st'.θ,st''.σ⟩):wp (zuk Γ sc f F) st Q:=by
 obtain⟨p,st₁,e1,fl,st₂,e2,rfl,hq⟩:=h
 refine⟨_,_,?_,hq⟩
 unfold zuk
 refine aw (K.bind_some e1) (aw e2 ?_)
 rfl
theorem z1y {cap:List (Nat×Nat)}{m:List (Option AV)}(n:Nat)(hn:cap.all (λp=>Nat.blt p.1 n)=true)(e:(List.range n).map (λj=>(cap.lookup j).bind (th l))=m):θcap cap (th l)=th m:=by
 subst e
 funext j
 unfold θcap
 show _=((((List.range n).map λj=>(cap.lookup j).bind (th l))[j]?).join)
 refine aw (aK) ?_
 by_cases h:j<n
 ·refine aw (b8 h) ?_;rfl
 ·refine aw (bB (by simpa using h)) ?_
  cases hl:cap.lookup j with
  |none=>rfl
  |some i=>exact absurd (Nat.blt_eq.mp (cp.mp hn _ (f7 hl))) h
theorem gB {α:Type}{f:K α}{cap:List (Nat×Nat)}{m:List (Option AV)}{Q:α→St→Prop}(n:Nat)(hn:cap.all (λp=>Nat.blt p.1 n)=true)(e:(List.range n).map (λj=>(cap.lookup j).bind (th l))=m)(h:wp f ⟨th m,σ⟩ Q):wp f ⟨θcap cap (th l),σ⟩ Q:=by
 exact aw (z1y n hn e) h
end
noncomputable def zvy (Γ:cA):List (Str×AV)→List (Option AV)→List (Option AV)
 | [],l=>l
 |(x,a)::r,l=>zvy Γ r (match Γ.tab.lookup x with|some (_,i)=>l.set i (some a)|none=>l)
theorem zs1 {x:Str}{k:NameKind}{i j:Nat}:∀{l:List (Str×NameKind)} {n:Nat},(x,k,j)∈numb n l→j<n+l.length
 |(z,kz)::r,n,h=>by
  rcases au.mp h with e|h
  ·cases e;simp
  ·have:=zs1 (i:=i) h;simp;lia
theorem θbind_th {sc:Scope}:∀(ab:List (Str×AV)) (l:List (Option AV)),sc.names.length≤l.length→θbind (d8 sc) ab (th l)=th (zvy (d8 sc) ab l)
 | [],_,_=>rfl
 |(x,a)::r,l,h=>by
  unfold θbind zvy
  cases hx:(d8 sc).tab.lookup x with
  |none=>exact θbind_th r l h
  |some p =>
   obtain⟨k,i⟩:=p
   dsimp only
   have hi:i<sc.names.length:=by simpa using zs1 (i:=0) (f7 hx)
   refine aw (zwr (Nat.blt_eq.mpr (ag hi h))) ?_
   exact θbind_th r _ (by simpa using h)
theorem fx {B:List AV→List (Str×AV)→List AO→Option (List (Str×AV)×List AO)}{sc:Scope}{f:K Fl}{args:List AV}{kws:List (Str×AV)}{σ σ₁:List AO}{ab:List (Str×AV)}{l:List (Option AV)}{Q:AV→List AO→Prop}(m:Nat)
  (hB:B args kws σ=some (ab,σ₁)) (hab:(ab.all λx=>(sc.names.lookup x.1==some .local)||(sc.names.lookup x.1==some .cell))=true) (hm:Nat.ble sc.names.length m=true) (hl:zvy (d8 sc) ab (List.replicate m none)=l)
  (h:wp f ⟨th l,σ₁⟩ λfl st'=>Q (retOf fl) st'.σ):dO (fb B sc f args kws σ) Q:=by
 (refine x2a2 h λfl st' e hq=>?_)
 refine⟨retOf fl,st'.σ,?_,hq⟩
 have h0:(λu1=>none:Nat→Option AV)=th (List.replicate m none):=by
  funext j
  unfold th
  refine aw (List.getElem?_replicate) ?_
  split<;>rfl
 unfold fb
 refine aw hB ?_
 dsimp only
 exact aw (if_pos hab) (aw h0 (aw (θbind_th ab _ (by simpa using Nat.ble_eq.mp hm)) (aw hl (aw e rfl))))
section
variable {θ:Nat→Option AV}{σ:List AO}{Q:AV→St→Prop}
theorem zob {a:AV}{k:Int}{v:AV}(h:subV σ k a=some v):subA a (.int k) ⟨θ,σ⟩=some (v,⟨θ,σ⟩):=by show(subV σ k a).map _=_;refine aw h ?_;rfl
theorem eM {o:Nat}{vs:List AV}{k:Int}{v:AV}(h:σ[o]?=some (.list vs))(hi:gh vs k=some v)(hq:Q v ⟨θ,σ⟩):wp (subA (.obj o) (.int k)) ⟨θ,σ⟩ Q :=
 ⟨v,⟨θ,σ⟩,zob (by show(σ[o]?).bind (zsz k)=_;refine aw h ?_;exact hi),hq⟩
theorem zf1 {vs:List AV}{k:Int}{v:AV}(hi:gh vs k=some v)(hq:Q v ⟨θ,σ⟩):wp (subA (.tup vs) (.int k)) ⟨θ,σ⟩ Q :=
 ⟨v,⟨θ,σ⟩,zob hi,hq⟩
theorem zpk {x v:Str}{k:Int}(hi:zu8 x k=some v)(hq:Q (.str v) ⟨θ,σ⟩):wp (subA (.str x) (.int k)) ⟨θ,σ⟩ Q :=
 ⟨_,⟨θ,σ⟩,zob (by show(zu8 x k).map _=_;refine aw hi ?_;rfl),hq⟩
theorem ze6 {o:Nat}{es:List (Int×AV)}{ep:Nat}{k:Int}{v:AV}(h:σ[o]?=some (.dict es ep))(hi:getD es k=some v)(hq:Q v ⟨θ,σ⟩):wp (subA (.obj o) (.int k)) ⟨θ,σ⟩ Q :=
 ⟨v,⟨θ,σ⟩,zob (by show(σ[o]?).bind (zsz k)=_;refine aw h ?_;exact hi),hq⟩
theorem zpc {op:Operator}{x y z:Int}(h:binI op x y=some z):binK op (.int x) (.int y) ⟨θ,σ⟩=some (.int z,⟨θ,σ⟩):=by show(binI op x y).map _=_;refine aw h ?_;rfl
theorem zil {op:Operator}{a b r:AV}(e:binK op a b ⟨θ,σ⟩=some (r,⟨θ,σ⟩))(hq:Q r ⟨θ,σ⟩):wp (binA op a b) ⟨θ,σ⟩ Q:=⟨r,⟨θ,σ⟩,by unfold binA orK;rw[e],hq⟩
theorem zn3 {x y:Int}(hq:Q (.int (x+y)) ⟨θ,σ⟩):wp (binA .Add (.int x) (.int y)) ⟨θ,σ⟩ Q:=zil rfl hq
theorem zmh {x y:Int}(hq:Q (.int (x-y)) ⟨θ,σ⟩):wp (binA .Sub (.int x) (.int y)) ⟨θ,σ⟩ Q:=zil rfl hq
theorem zrm {x y:Int}(hx:Builtin.Int.intBits x≤64)(hq:Q (.int (x*y)) ⟨θ,σ⟩):wp (binA .Mult (.int x) (.int y)) ⟨θ,σ⟩ Q:=zil (zpc (if_pos hx)) hq
theorem zwn {x y:Int}(hy:y≠0)(hq:Q (.int (x.fmod y)) ⟨θ,σ⟩):wp (binA .Mod (.int x) (.int y)) ⟨θ,σ⟩ Q:=zil (zpc (if_pos hy)) hq
theorem zwp {x y:Int}(hy:y≠0∧y.natAbs<2^64)(hq:Q (.int (x.fdiv y)) ⟨θ,σ⟩):wp (binA .FloorDiv (.int x) (.int y)) ⟨θ,σ⟩ Q:=zil (zpc (if_pos hy)) hq
theorem zz0 {x y:Int}(hy:0≤y)(hq:Q (.int (x.fdiv (2^y.toNat))) ⟨θ,σ⟩):wp (binA .RShift (.int x) (.int y)) ⟨θ,σ⟩ Q:=zil (zpc (if_pos hy)) hq
theorem zu0 {x y:Int}(hq:Q (.bool (decide (x<y))) ⟨θ,σ⟩):wp (cmpB .Lt (.int x) (.int y)) ⟨θ,σ⟩ Q:=⟨_,⟨θ,σ⟩,rfl,hq⟩
theorem zz7 {x y:Int}(hq:Q (.bool (decide (y<x))) ⟨θ,σ⟩):wp (cmpB .Gt (.int x) (.int y)) ⟨θ,σ⟩ Q:=⟨_,⟨θ,σ⟩,rfl,hq⟩
theorem zxs {x y:Int}(hq:Q (.bool (x==y)) ⟨θ,σ⟩):wp (cmpB .Eq (.int x) (.int y)) ⟨θ,σ⟩ Q:=⟨_,⟨θ,σ⟩,rfl,hq⟩
theorem zz4 {x y:Int}(hq:Q (.bool (x != y)) ⟨θ,σ⟩):wp (cmpB .NotEq (.int x) (.int y)) ⟨θ,σ⟩ Q:=⟨_,⟨θ,σ⟩,rfl,hq⟩
theorem z2s {a:AV}{b:Bool}(h:isNone a=some b):cmpK .Is a .none ⟨θ,σ⟩=some (.bool b,⟨θ,σ⟩):=by show(isNone a).map _=_;refine aw h ?_;rfl
theorem zv2 {a:AV}{b:Bool}(h:isNone a=some b):cmpK .IsNot a .none ⟨θ,σ⟩=some (.bool (!b),⟨θ,σ⟩):=by show(isNone a).map _=_;refine aw h ?_;rfl
theorem i0 {α:Type}{f g:K α}{st:St}{r:Option (α×St)}(h:f st=none)(e:g st=r):orK f g st=r:=by unfold orK;exact aw h e
theorem znc {α:Type}{f g:K α}{st:St}{r:α×St}(h:f st=some r):orK f g st=some r:=by unfold orK;exact aw h rfl
theorem zov {f:Bool→Bool}(a:AV){st:St}:K.bind (isB a .none) (λc=>K.ret (AV.bool (f c))) st=none:=by
 unfold K.bind isB
 cases a.typ?<;>rfl
theorem iQ {a:AV}{b:Bool}(h:isNone a=some b)(hq:Q (.bool b) ⟨θ,σ⟩):wp (cmpB .Is a .none) ⟨θ,σ⟩ Q :=
 ⟨_,⟨θ,σ⟩,i0 (zov (f:=id) a) (znc (z2s h)),hq⟩
theorem zg2 {a:AV}{b:Bool}(h:isNone a=some b)(hq:Q (.bool (!b)) ⟨θ,σ⟩):wp (cmpB .IsNot a .none) ⟨θ,σ⟩ Q :=
 ⟨_,⟨θ,σ⟩,i0 (zov (f:=not) a) (znc (zv2 h)),hq⟩
theorem c8 {α β:Type}{x:Option α}{f:α→Option β}{a:α}{b:Option β}(h:x=some a)(e:f a=b):x.bind f=b:=by exact aw h e
theorem fJ {α β:Type}{x:Option α}{f:α→β}{a:α}(h:x=some a):x.map f=some (f a):=by refine aw h ?_;rfl
theorem eK {b:Bool}{Q:Bool→St→Prop}(hq:Q b ⟨θ,σ⟩):wp (iW (.bool b)) ⟨θ,σ⟩ Q:=⟨b,⟨θ,σ⟩,rfl,hq⟩
theorem zkn {o:Nat}{vs:List AV}{Q:Bool→St→Prop}(h:σ[o]?=some (.list vs))(hl:vs.length<2^62)(hq:Q (!vs.isEmpty) ⟨θ,σ⟩):wp (iW (.obj o)) ⟨θ,σ⟩ Q :=
 ⟨_,⟨θ,σ⟩,by show(d7 σ o).bind _=_;exact c8 (eR h) (if_pos hl),hq⟩
theorem ztg {o:Nat}{vs:List AV}(h:σ[o]?=some (.list vs)):zy6 ⟨θ,σ⟩ (.obj o)=some vs.length:=by show(d7 σ o).map _=_;refine aw (eR h) ?_;rfl
theorem zkq {o:Nat}{vs:List AV}(h:σ[o]?=some (.list vs))(hl:vs.length<2^62)(hq:Q (.int vs.length) ⟨θ,σ⟩):wp (lenK [.obj o]) ⟨θ,σ⟩ Q :=
 ⟨_,⟨θ,σ⟩,by show(zy6 ⟨θ,σ⟩ (.obj o)).bind _=_;exact c8 (ztg h) (if_pos hl),hq⟩
theorem zwy {o:Nat}{ob ob':AO}{k:Int}{x:AV}(h:σ[o]?=some ob)(e:zw0 k x ob=some ob'):zdu (.obj o) (.int k) x ⟨θ,σ⟩=some ((),⟨θ,σ.set o ob'⟩):=by
 show(σ[o]?).bind _=_
 exact c8 h (fJ e)
theorem zcb {o:Nat}{vs:List AV}{k:Int}{x:AV}{Q:Unit→St→Prop}(h:σ[o]?=some (.list vs))(hk:0≤k∧k<vs.length∧k<2^62)(hq:Q () ⟨θ,σ.set o (.list (vs.set k.toNat x))⟩):wp (zdu (.obj o) (.int k) x) ⟨θ,σ⟩ Q :=
 ⟨(),_,zwy h (if_pos hk),hq⟩
theorem zik {o:Nat}{es:List (Int×AV)}{ep:Nat}{k:Int}{x:AV}{Q:Unit→St→Prop}(h:σ[o]?=some (.dict es ep))(hl:es.length<2^20)
  (hq:Q () ⟨θ,σ.set o (.dict (putD es k x) (if es.any (λp=>p.1=k)then ep else ep+1))⟩):wp (zdu (.obj o) (.int k) x) ⟨θ,σ⟩ Q :=
 ⟨(),_,zwy h (if_pos hl),hq⟩
theorem ie {o:Nat}{vs:List AV}{x:AV}(h:σ[o]?=some (.list vs))(hl:vs.length<2^20)(hq:Q .none ⟨θ,σ.set o (.list (vs++[x]))⟩):wp (zn0 [.obj o,x]) ⟨θ,σ⟩ Q :=
 ⟨_,_,by show(d7 σ o).bind _=_;exact c8 (eR h) (if_pos hl),hq⟩
theorem zrg {o:Nat}{vs:List AV}{x:AV}(h:σ[o]?=some (.list vs))(hl:vs.length<2^20)(hx:vs.getLast?=some x)(hq:Q x ⟨θ,σ.set o (.list vs.dropLast)⟩):wp (popK [.obj o]) ⟨θ,σ⟩ Q :=
 ⟨_,_,by show(d7 σ o).bind _=_;exact c8 (eR h) ((if_pos hl).trans (fJ hx)),hq⟩
theorem gw {o:Nat}{vs:List AV}(h:σ[o]?=some (.list vs)):zqg (.obj o) ⟨θ,σ⟩:=⟨vs,eR h⟩
theorem ii {vs:List AV}{k:Nat}{v:AV}(h:vs[k]?=some v)(hk:(k:Int)<2^62):gh vs (k:Int)=some v:=by
 unfold gh seqIndex?
 have:=(ap.mp h).1
 refine aw (if_pos ⟨by lia,hk⟩) ?_
 have h1:¬((k:Int)<0):=by lia
 have h2:((k:Int)<(vs.length:Int)):=by lia
 simp[h1,h2,h]
end
end Mine.Internal
end
section
namespace Mine.Internal
open PySem PyProof.Rows PySem.W PySem.SeqAt
section
variable {θ:Nat→Option AV}{σ:List AO}{Q:AV→St→Prop}{T:gQ}{name:Str}
theorem zuq {i:Nat}{o:AO}{v:AV}(hi:σ[i]?=some o)(h:zs0 σ T name o=some v)(hv:zs5 v=true):zq9 T name (.obj i) ⟨θ,σ⟩=some (v,⟨θ,σ⟩):=by
 show(σ[i]?).bind _=_
 exact c8 hi (c8 h (if_pos hv))
theorem zoc {i d:Nat}{o o':AO}{v:AV}(hi:σ[i]?=some o)(h:zon σ T name v i o=some (d,o')):zeu T name (.obj i) v ⟨θ,σ⟩=some ((),⟨θ,σ.set d o'⟩):=by
 show(σ[i]?).bind _=_
 exact c8 hi (fJ h)
theorem fB {i d:Nat}{Cl:Addr}{fs:List (Str×AV)}{v:AV}(hi:σ[i]?=some (.inst Cl d))(hd:σ[d]?=some (.attrs fs))(hT:T.lookup (Cl,name)=some none)(hl:fs.lookup name=some v)(hv:zs5 v=true)(hq:Q v ⟨θ,σ⟩):wp (zq9 T name (.obj i)) ⟨θ,σ⟩ Q :=
 cH (zuq hi ((if_pos hT).trans (c8 (zge hd) hl)) hv) hq
theorem i8 {i d:Nat}{Cl:Addr}{fs:List (Str×AV)}{v:AV}{Q:Unit→St→Prop}(hi:σ[i]?=some (.inst Cl d))(hd:σ[d]?=some (.attrs fs))(hT:T.lookup (Cl,name)=some none)(hl:fs.length<900)(hq:Q () ⟨θ,σ.set d (.attrs (putA name v fs))⟩):wp (zeu T name (.obj i) v) ⟨θ,σ⟩ Q :=
 cH (zoc hi ((if_pos hT).trans (c8 (zge hd) (if_pos hl)))) hq
theorem iF {i j:Nat}{Cl:Addr}{vs:List (Option AV)}{v:AV}(hi:σ[i]?=some (.slots Cl vs))(hT:T.lookup (Cl,name)=some (some j))(hl:vs[j]?=some (some v))(hv:zs5 v=true)(hq:Q v ⟨θ,σ⟩):wp (zq9 T name (.obj i)) ⟨θ,σ⟩ Q :=
 cH (zuq hi (c8 (a:=j) (by refine aw hT ?_;rfl) (by refine aw hl ?_;rfl)) hv) hq
theorem zca {i j:Nat}{Cl:Addr}{vs:List (Option AV)}{v:AV}{Q:Unit→St→Prop}(hi:σ[i]?=some (.slots Cl vs))(hT:T.lookup (Cl,name)=some (some j))(hj:j<900)(hq:Q () ⟨θ,σ.set i (.slots Cl (putS j v vs))⟩):wp (zeu T name (.obj i) v) ⟨θ,σ⟩ Q :=
 cH (zoc hi (c8 (a:=j) (by refine aw hT ?_;rfl) (if_pos hj))) hq
theorem zhm {vs:List AV}(hl:vs.length<2^20):newL vs ⟨θ,σ⟩=some (.obj σ.length,⟨θ,σ++[.list vs]⟩):=if_pos hl
theorem gj {vs:List AV}(hl:vs.length<2^20)(hq:Q (.obj σ.length) ⟨θ,σ++[.list vs]⟩):wp (newL vs) ⟨θ,σ⟩ Q:=cH (zhm hl) hq
theorem zrj (hq:Q (.obj σ.length) ⟨θ,σ++[.dict [] 0]⟩):wp newD ⟨θ,σ⟩ Q:=cH rfl hq
theorem zxn (hq:Q (.obj σ.length) ⟨θ,σ++[.set (λu1=>false) 0]⟩):wp (setK []) ⟨θ,σ⟩ Q:=cH rfl hq
theorem zij {vs:List AV}(hl:vs.length<2^20)(hq:Q (.tup vs) ⟨θ,σ⟩):wp (tupL vs) ⟨θ,σ⟩ Q:=cH (if_pos hl) hq
theorem zmm {o:Nat}{k:Int}{es:List (Int×AV)}{ep:Nat}(h:σ[o]?=some (.dict es ep))(hq:Q ((getD es k).getD .none) ⟨θ,σ⟩):wp (zzn [.obj o,.int k]) ⟨θ,σ⟩ Q :=
 cH (by show(Mine.Internal.dictAt σ o).map _=_;exact fJ (zhz h)) hq
theorem zc9 {x y:Int}(hq:Q (.int (x+y)) ⟨θ,σ⟩):wp (augK .Add (.int x) (.int y)) ⟨θ,σ⟩ Q:=cH rfl hq
theorem zru {x y:Int}(hq:Q (.int (x-y)) ⟨θ,σ⟩):wp (augK .Sub (.int x) (.int y)) ⟨θ,σ⟩ Q:=cH rfl hq
theorem zkp {vs:List AV}(hl:vs.length<2^62)(hq:Q (.int vs.length) ⟨θ,σ⟩):wp (lenK [.tup vs]) ⟨θ,σ⟩ Q:=cH (if_pos hl) hq
theorem zrc {o:Nat}{vs:List AV}(h:σ[o]?=some (.list vs))(hl:vs.length<2^20)(hq:Q (.tup vs) ⟨θ,σ⟩):wp (zwt [.obj o]) ⟨θ,σ⟩ Q :=
 cH (by show(d7 σ o).bind _=_;exact c8 (eR h) (if_pos hl)) hq
theorem zu2 {o:Nat}{vs:List AV}(h:σ[o]?=some (.list vs))(hl:vs.length<2^20)(hq:Q .none ⟨θ,σ.set o (.list [])⟩):wp (zul [.obj o]) ⟨θ,σ⟩ Q :=
 cH (by show(d7 σ o).bind _=_;exact c8 (eR h) (if_pos hl)) hq
theorem gC {d:Nat}{vs:List AV}{x:AV}{Q:Fl→St→Prop}(h:σ[d]?=some (.list vs))(hl:vs.length<2^20)(hq:Q .next ⟨θ,σ.set d (.list (vs++[x]))⟩):wp (appD d x) ⟨θ,σ⟩ Q :=
 cH (by show(d7 σ d).bind _=_;exact c8 (eR h) (if_pos hl)) hq
theorem zxf {o:Nat}{es:List (Int×AV)}{ep:Nat}{Q:List AV×Option (Nat×AO)→St→Prop}(h:σ[o]?=some (.dict es ep))(hq:Q (es.map (λx=>x.2),some (o,.dict es ep)) ⟨θ,σ⟩):wp (z0e (.obj o)) ⟨θ,σ⟩ Q :=
 cH (by show(Mine.Internal.dictAt σ o).map _=_;exact fJ (zhz h)) hq
theorem gW {o:Nat}{vs:List AV}{Q:List AV×Option (Nat×AO)→St→Prop}(h:σ[o]?=some (.list vs))(hq:Q (vs,some (o,.list vs)) ⟨θ,σ⟩):wp (srcK (.obj o)) ⟨θ,σ⟩ Q :=
 zg9 (by show(σ[o]?).bind _=_;exact c8 h rfl) hq
theorem zxh {o:Nat}{es:List (Int×AV)}{ep:Nat}{Q:List AV×Option (Nat×AO)→St→Prop}(h:σ[o]?=some (.dict es ep))(hq:Q (es.map (λp=>.int p.1),some (o,.dict es ep)) ⟨θ,σ⟩):wp (srcK (.obj o)) ⟨θ,σ⟩ Q :=
 zg9 (by show(σ[o]?).bind _=_;exact c8 h rfl) hq
theorem zjb {vs:List AV}{Q:List AV×Option (Nat×AO)→St→Prop}(hq:Q (vs,none) ⟨θ,σ⟩):wp (srcK (.tup vs)) ⟨θ,σ⟩ Q:=zg9 rfl hq
theorem in_of {o:Nat}{k:Int}{ob:AO}{c:Bool}(h:σ[o]?=some ob)(e:hasO k ob=some c):cmpB .In (.int k) (.obj o) ⟨θ,σ⟩=some (.bool c,⟨θ,σ⟩) :=
 znc (K.bind_some (show(σ[o]?).bind _=_ from c8 h (fJ e)))
theorem zz5 {o:Nat}{k:Int}{es:List (Int×AV)}{ep:Nat}(h:σ[o]?=some (.dict es ep))(hq:Q (.bool (getD es k).isSome) ⟨θ,σ⟩):wp (cmpB .In (.int k) (.obj o)) ⟨θ,σ⟩ Q :=
 cH (in_of h rfl) hq
theorem zwo {o:Nat}{k:Int}{S:Int→Bool}{m:Nat}(h:σ[o]?=some (.set S m))(hq:Q (.bool (S k)) ⟨θ,σ⟩):wp (cmpB .In (.int k) (.obj o)) ⟨θ,σ⟩ Q :=
 cH (in_of h rfl) hq
theorem zxl {o:Nat}{k:Int}{S:Int→Bool}{m:Nat}(h:σ[o]?=some (.set S m))(hm:m<4000)(hq:Q .none ⟨θ,σ.set o (.set (λx=>S x||decide (x=k)) (if S k then m else m+1))⟩):wp (zyl [.obj o,.int k]) ⟨θ,σ⟩ Q :=
 cH (by show(zp5 σ o).bind _=_;exact c8 (zvf h) (if_pos hm)) hq
theorem zxt {o:Nat}{k:Int}{es:List (Int×AV)}{ep:Nat}{Q:Unit→St→Prop}(h:σ[o]?=some (.dict es ep))(hc:es.length<2^20∧(getD es k).isSome=true)(hq:Q () ⟨θ,σ.set o (.dict (delD es k) (ep+1))⟩):wp (zka (.obj o) (.int k)) ⟨θ,σ⟩ Q :=
 cH (by show(Mine.Internal.dictAt σ o).bind _=_;exact c8 (zhz h) (if_pos hc)) hq
theorem zxp {l:Nat}{vs:List AV}(h:σ[l]?=some (.list vs))(hq:Q (.obj σ.length) ⟨θ,σ++[.liter l 0]⟩):wp (z1d [.obj l]) ⟨θ,σ⟩ Q :=
 cH (by show(d7 σ l).bind _=_;exact c8 (eR h) rfl) hq
theorem zml {i l k:Nat}(h:σ[i]?=some (.liter l k))(hq:Q (.nxt i) ⟨θ,σ⟩):wp (zlf (.obj i)) ⟨θ,σ⟩ Q :=
 cH (by show(liAt σ i).map _=_;exact fJ (ztd h)) hq
theorem zs6 {i l k:Nat}{vs:List AV}{o:Option AV}(h:σ[i]?=some (.liter l k))(hl:σ[l]?=some (.list vs))(hv:vs[k]?=o):zvn (.nxt i) ⟨θ,σ⟩=some (z0o i l k ⟨θ,σ⟩ o):=by
 show(liAt σ i).bind _=_
 exact c8 (ztd h) (hv▸fJ (eR hl))
theorem zmj {i l k:Nat}{vs:List AV}{v:AV}{Q:Option AV→St→Prop}(h:σ[i]?=some (.liter l k))(hl:σ[l]?=some (.list vs))(hv:vs[k]?=some v)(hq:Q (some v) ⟨θ,σ.set i (.liter l (k+1))⟩):wp (zvn (.nxt i)) ⟨θ,σ⟩ Q :=
 cH (zs6 h hl hv) hq
theorem zmk {i l k:Nat}{vs:List AV}{Q:Option AV→St→Prop}(h:σ[i]?=some (.liter l k))(hl:σ[l]?=some (.list vs))(hv:vs[k]?=none)(hq:Q none ⟨θ,σ.set i .dead⟩):wp (zvn (.nxt i)) ⟨θ,σ⟩ Q :=
 cH (zs6 h hl hv) hq
theorem zjz {o:Nat}{es:List (Int×AV)}{ep:Nat}(h:σ[o]?=some (.dict es ep)):zza (.obj o) ⟨θ,σ⟩:=⟨o,es,ep,rfl,h⟩
theorem zy9 {o:Nat}{S:Int→Bool}{m:Nat}(h:σ[o]?=some (.set S m)):isSt (.obj o) ⟨θ,σ⟩:=⟨o,S,m,rfl,h⟩
theorem gm {i d:Nat}{Cl:Addr}{fs:List (Str×AV)}(hi:σ[i]?=some (.inst Cl d))(hd:σ[d]?=some (.attrs fs))(hl:fs.lookup name=none):iU Cl name (.obj i) ⟨θ,σ⟩:=⟨i,d,fs,rfl,hi,hd,hl⟩
theorem fS {o:Nat}{x:AO}(h:σ[o]?=some x):gp (some (o,x)) σ:=λp e=>by obtain rfl:=sj e;exact h
theorem fK:gp none σ:=λp e=>ns e
end
section
variable {σ:List AO}{i j:Nat}{o x:AO}
theorem cR:(σ++[o])[σ.length]?=some o:=by simp
theorem b6 (h:σ[i]?=some x):(σ++[o])[i]?=some x:=by
 exact aw (bd (ap.mp h).1) h
theorem ck (h:σ[i]?=some x)(hne:j≠i):(σ.set j o)[i]?=some x:=by exact aw (bW hne) h
theorem ek (h:σ[i]?=some x):i<σ.length:=(ap.mp h).1
theorem fT {y:AO}(h:σ[i]?=some x)(h':σ[j]?=some y)(hne:x≠y):i≠j:=λe=>hne (by subst e;rw[h]at h';exact br h')
end
end Mine.Internal
end
section
namespace Mine.Internal
open PySem PyProof.Rows PySem.W PySem.SeqAt
section
variable {α:Type}{σ:List AO}{Q:Fl→St→Prop}
inductive AccI (σ:List AO)(ei:α→AV)(out:α→List AV)(xs:List α)(I:(Nat→Option AV)→Prop)(d r:List AV)(st:St):Prop
 |mk (p1 p2:List α) (θ:Nat→Option AV) (e1:p1++p2=xs) (e2:r=p2.map ei) (e3:I θ) (e4:st=⟨θ,σ++[.list (p1.flatMap out)]⟩):AccI σ ei out xs I d r st
theorem iK {g:Option (Nat×AO)}{asg:AV→K Unit}{b o:K Fl}{xs:List α}{ei:α→AV}{out:α→List AV}{θ:Nat→Option AV}(I:(Nat→Option AV)→Prop)(h:I θ)(hg:∀l,gp g (σ++[.list l]))
  (step:∀x∈xs,∀θ l,I θ→l.length<2^18→∀K:Fl→St→Prop,(∀θ',I θ'→K .next ⟨θ',σ++[.list (l++out x)]⟩)→wp (asg (ei x)) ⟨θ,σ++[.list l]⟩ λu1 st'=>wp b st' K)
  (hl:(xs.flatMap out).length<2^18)
  (done:∀θ,I θ→wp o ⟨θ,σ++[.list (xs.flatMap out)]⟩ Q):wp (forL g asg b o (xs.map ei)) ⟨θ,σ++[.list []]⟩ Q:=by
 refine ib (AccI σ ei out xs I) ⟨[],xs,θ,rfl,rfl,h,rfl⟩ ?_ ?_
 ·rintro d a r _-⟨p1,p2,θ',e1,e2,e3,rfl⟩
  cases p2 with
  |nil=>cases e2
  |cons x p2 =>
   rw[aN,bY]at e2
   obtain⟨rfl,rfl⟩:=e2
   refine⟨hg _,?_⟩
   have hlen:(p1.flatMap out).length<2^18:=by
    rw[←e1,List.flatMap_append,az]at hl;lia
   exact step x (by refine dI e1 ?_;simp) θ' _ e3 hlen _ λθ2 hI=>⟨p1++[x],p2,θ2,by rw[bf];exact e1,rfl,hI,by simp⟩
 ·rintro _ ⟨p1,p2,θ',e1,e2,e3,rfl⟩
  have:p2=[]:=by cases p2 with|nil=>rfl|cons _ _=>cases e2
  subst this
  rw[bi]at e1
  subst e1
  exact⟨hg _,done θ' e3⟩
end
section
variable {σ:List AO}{θ:Nat→Option AV}
theorem zxu {f:AV→K Unit}{g:List AV→K Unit}{a:AV}{r:List AV}{st:St}{Q:Unit→St→Prop}(h:wp (f a) st λu1 st'=>wp (g r) st' Q):wp (ass1 f g (a::r)) st Q:=fY h
theorem zxv {st:St}{Q:Unit→St→Prop}(h:Q () st):wp (ass0 []) st Q:=iX h
theorem zxo {x y:Int}{Q:AV→St→Prop}(hq:Q (.int (max x y)) ⟨θ,σ⟩):wp (zzs true [.int x,.int y]) ⟨θ,σ⟩ Q:=cH rfl hq
theorem zz1 {x:Int}{Q:AV→St→Prop}(hq:Q (.int (-x)) ⟨θ,σ⟩):wp (negK (.int x)) ⟨θ,σ⟩ Q:=cH rfl hq
theorem zg0 {f:List AV→K Unit}{vs:List AV}{Q:Unit→St→Prop}(hq:wp (f vs) ⟨θ,σ⟩ Q):wp (zws f (.tup vs)) ⟨θ,σ⟩ Q:=hq
end
end Mine.Internal
end
namespace Mine.Internal
open PySem PyProof.Rows PySem.W PySem.SeqAt
local macro_rules | `(tactic| walk_at $k:str)=>do
 let N (k:String) (a:Array Lean.Syntax):Lean.Syntax:=.node .none (.str `Lean.Parser.Tactic k) a
 let S (a:Array Lean.Syntax):=N "tacticSeq" #[N "tacticSeq1Indented" #[.node .none `null a]]
 let A (s:String) (r:Array Lean.Syntax):List Lean.Syntax:=(s.splitOn " ").map fun x=>.node .none `group #[.atom .none "|", S (#[N "withReducible" #[.atom .none "with_reducible", S #[N "apply" #[.atom .none "apply", Lean.mkIdent (.mkSimple x)]]]]++r)]
 let k:=k.getString
 let x ←if k == "f" then pure (A "zrs zjp" #[]) else if k == "t" then pure (A "zz6 zvi" #[]) else if k == "w1" || k == "w" || k == "v" then pure (A "zxq zrt zxi zrd" #[.atom .none ";", N "tacticRfl" #[.atom .none "rfl"]]++A ("zxm zuy fY iX zpt zr7 zpu zr6 zmr zms zpn whileQ_ret zt1 zt2 forQ_brk zv6" ++ if k == "w1" then "" else if k == "w" then " gu" else " gu zn3 zmh zxs zz4 zu0 eK zg0 zxu zxv zxo wp_min2 zz1") #[]++A (if k == "v" then "zwn zwp" else "gu") #[.atom .none ";", N "decide" #[.atom .none "decide", N "optConfig" #[.node .none `null #[]]]]) else Lean.Macro.throwUnsupported
 return N "first" #[.atom .none "first", .node .none `null x.toArray]
noncomputable abbrev gq:Nat:=291
noncomputable abbrev gH:Nat:=194
noncomputable abbrev gP:Nat:=171
noncomputable abbrev pNM:Nat:=43
noncomputable abbrev pVL:Nat:=48
section
theorem zyo:attrT.lookup (gH,(S "node"))=some (some 0):=by kernel_rfl
theorem zsn:attrT.lookup (gH,(S "npredecessors"))=some (some 1):=by kernel_rfl
theorem zyn:attrT.lookup (gH,(S "successors"))=some (some 2):=by kernel_rfl
theorem zym:attrT.lookup (gH,(S "node"))=some (some 0):=by kernel_rfl
theorem zsm:attrT.lookup (gH,(S "npredecessors"))=some (some 1):=by kernel_rfl
theorem z2g:attrT.lookup (gH,(S "successors"))=some (some 2):=by kernel_rfl
theorem zh1:attrT.lookup (gq,(S "_node2info"))=some none:=by kernel_rfl
theorem iD:attrT.lookup (gq,(S "_ready_nodes"))=some none:=by kernel_rfl
theorem z1v:attrT.lookup (gq,(S "_npassedout"))=some none:=by kernel_rfl
theorem z1w:attrT.lookup (gq,(S "_nfinished"))=some none:=by kernel_rfl
theorem z1u:attrT.lookup (gq,(S "_node2info"))=some none:=by kernel_rfl
theorem zw9:attrT.lookup (gq,(S "_ready_nodes"))=some none:=by kernel_rfl
theorem z1s:attrT.lookup (gq,(S "_npassedout"))=some none:=by kernel_rfl
theorem z1t:attrT.lookup (gq,(S "_nfinished"))=some none:=by kernel_rfl
theorem zui:attrT.lookup (gP,(S "_headers"))=some none:=by kernel_rfl
theorem z2u:attrT.lookup (gP,(S "_headers"))=some none:=by kernel_rfl
end
noncomputable def fC (m:AV)(r:AV)(po nf:Int):List (Str×AV):=[(S "_node2info", m),(S "_ready_nodes", r),(S "_npassedout", .int po),(S "_nfinished", .int nf)]
section
variable {m r v:AV}{po nf x:Int}
theorem zmv:(fC m r po nf).lookup (S "_node2info")=some m:=by rfl
theorem zx4:(fC m r po nf).lookup (S "_ready_nodes")=some r:=by rfl
theorem zwu:(fC m r po nf).lookup (S "_npassedout")=some (.int po):=by rfl
theorem zwv:(fC m r po nf).lookup (S "_nfinished")=some (.int nf):=by rfl
theorem zr5:(fC m r po nf).lookup (S "_get_nodeinfo")=none:=by rfl
theorem z0l:(fC m r po nf).lookup (S "_find_cycle")=none:=by rfl
theorem zx5:(fC m r po nf).lookup (S "add")=none:=by rfl
theorem zu4:(fC m r po nf).lookup (S "prepare")=none:=by rfl
theorem z0k:(fC m r po nf).lookup (S "get_ready")=none:=by rfl
theorem zu5:(fC m r po nf).lookup (S "done")=none:=by rfl
theorem zmw:(fC m r po nf).length<900:=by show 4<900;decide
theorem zr4:putA (S "_ready_nodes") v (fC m r po nf)=fC m v po nf:=by rfl
theorem zpq:putA (S "_npassedout") (.int x) (fC m r po nf)=fC m r x nf:=by rfl
theorem zpr:putA (S "_nfinished") (.int x) (fC m r po nf)=fC m r po x:=by rfl
end
theorem eU {σ:List AO}{h:Nat}{o o':AO}(e:σ[h]?=some o):(σ.set h o')[h]?=some o':=aJ (ap.mp e).1
noncomputable def fo (k v:Int)(l:Nat):AO:=.slots gH [some (.int k),some (.int v),some (.obj l)]
structure TsD where
 s:Nat
 d:Nat
 m:Nat
 ep:Nat
 L:List (Int×Nat×Nat)
 np:Int→Int
 su:Int→List Int
 r:AV
 po:Int
 nf:Int
 cnt:Nat
noncomputable def TsD.np' (T:TsD)(f:Int→Int):TsD:={ T with np:=f }
noncomputable def TsD.su' (T:TsD)(f:Int→List Int):TsD:={ T with su:=f,cnt:=T.cnt+1 }
noncomputable def TsD.at' (T:TsD)(r:AV)(po nf:Int):TsD:={ T with r:=r,po:=po,nf:=nf }
noncomputable def TsD.ks (T:TsD):List Int:=T.L.map (λx=>x.1)
noncomputable def TsD.es (T:TsD):List (Int×AV):=T.L.map λx=>(x.1,.obj x.2.1)
structure TsR (σ:List AO)(T:TsD):Prop where
 hs:σ[T.s]?=some (.inst gq T.d)
 hd:σ[T.d]?=some (.attrs (fC (.obj T.m) T.r T.po T.nf))
 hm:σ[T.m]?=some (.dict T.es T.ep)
 hi:∀x∈T.L,σ[x.2.1]?=some (fo x.1 (T.np x.1) x.2.2)
 hl:∀x∈T.L,σ[x.2.2]?=some (.list ((T.su x.1).map .int))
 nd:T.ks.Nodup
 ls:∀x∈T.L,∀y∈T.L,x.2.2=y.2.2→x.1=y.1
 out:∀k,k∉T.ks→T.np k=0∧T.su k=[]
 sz:∀k,(T.su k).length≤T.cnt
 len:T.L.length≤T.cnt
noncomputable def TsD.foot (T:TsD):List Nat:=T.s::T.d::T.m::T.L.flatMap λx=>[x.2.1,x.2.2]
structure Frm (σ σ':List AO)(S:List Nat):Prop where
 len:σ.length≤σ'.length
 same:∀(i:Nat) (o:AO),i∉S→σ[i]?=some o→σ'[i]?=some o
section
variable {σ σ':List AO}{T:TsD}{k:Int}{x:Int×Nat×Nat}
theorem Frm.keep0 (F:Frm σ σ' []){i:Nat}{o:AO}(e:σ[i]?=some o):σ'[i]?=some o:=F.same i o bV e
theorem Frm.refl (σ:List AO)(S:List Nat):Frm σ σ S:=⟨aB _,λu1 u2 u3 e=>e⟩
theorem Frm.trans {σ'':List AO}{S S':List Nat}(x:Frm σ σ' S)(y:Frm σ' σ'' S')(h:∀i∈S',i∈S∨σ.length≤i):Frm σ σ'' S :=
 ⟨aI x.len y.len,λi o n e=>y.same i o (λq=>(h i q).elim n λq'=>bl.mpr q' (ek e)) (x.same i o n e)⟩
theorem Frm.push (o:AO)(S:List Nat):Frm σ (σ++[o]) S:=⟨by simp,λu1 u2 u3 e=>b6 e⟩
theorem Frm.set {i:Nat}(o:AO){S:List Nat}(h:i∈S):Frm σ (σ.set i o) S:=⟨by simp,λj u1 n e=>ck e λq=>n (q▸h)⟩
theorem zdv (hx:x∈T.L):x.2.1∈T.foot∧x.2.2∈T.foot:=by
 have:∀y,y∈[x.2.1,x.2.2]→y∈T.foot:=λy hy=>af _ (af _ (af _ (cE.mpr ⟨x,hx,hy⟩)))
 exact⟨this _ (by simp),this _ (by simp)⟩
theorem foot_iff {i:Nat}:i∈T.foot↔i=T.s∨i=T.d∨i=T.m∨∃x∈T.L,i=x.2.1∨i=x.2.2:=by
 unfold TsD.foot
 simp only[au,cE,bV,or_false]
theorem TsR.foot_lt (h:TsR σ T){i:Nat}(hi:i∈T.foot):i<σ.length:=by
 rcases foot_iff.mp hi with rfl|rfl|rfl|⟨x,hx,rfl|rfl⟩
 ·exact ek h.hs
 ·exact ek h.hd
 ·exact ek h.hm
 ·exact ek (h.hi x hx)
 ·exact ek (h.hl x hx)
theorem TsR.keep (h:TsR σ T)(hk:∀i o,i∈T.foot→σ[i]?=some o→σ'[i]?=some o):TsR σ' T :=
 ⟨hk _ _ (foot_iff.mpr (.inl rfl)) h.hs,hk _ _ (foot_iff.mpr (.inr (.inl rfl))) h.hd,hk _ _ (foot_iff.mpr (.inr (.inr (.inl rfl)))) h.hm,λx hx=>hk _ _ (zdv hx).1 (h.hi x hx),λx hx=>hk _ _ (zdv hx).2 (h.hl x hx),h.nd,h.ls,h.out,h.sz,h.len⟩
theorem TsR.push (h:TsR σ T)(o:AO):TsR (σ++[o]) T:=h.keep λu1 u2 u3 e=>b6 e
theorem TsR.put (h:TsR σ T){i:Nat}(o:AO)(hi:i∉T.foot):TsR (σ.set i o) T:=h.keep λu1 u2 hj e=>ck e λq=>hi (q▸hj)
theorem zdy {f:Int×Nat×Nat→AV}{L:List (Int×Nat×Nat)}:(L.map (λx=>x.1)).Nodup→x∈L→getD (L.map λy=>(y.1,f y)) x.1=some (f x):=by
 induction L with
 |nil=>exact λu1 h=>nomatch h
 |cons y r ih =>
  intro hn hx
  unfold getD
  refine aw aN (aw (List.find?_cons) ?_)
  rw[aN,List.nodup_cons]at hn
  rcases au.mp hx with rfl|hx
  ·simp
  ·have:y.1≠x.1:=λe=>hn.1 (e▸bA hx)
   simp only[this,decide_false]
   exact ih hn.2 hx
theorem zlx {es:List (Int×AV)}(h:k∉es.map (λx=>x.1)):getD es k=none:=by
 unfold getD
 rw[cI.mpr λp hp=>by
  have:p.1≠k:=λe=>h (e▸bA hp)
  simpa using this]
 rfl
theorem zol {es:List (Int×AV)}{v:AV}(h:k∉es.map (λx=>x.1)):putD es k v=es++[(k,v)]∧es.any (λp=>p.1=k)=false:=by
 have:es.any (λp=>p.1=k)=false:=by
  rw[List.any_eq_false]
  intro p hp
  have:p.1≠k:=λe=>h (e▸bA hp)
  simpa using this
 refine⟨?_,this⟩
 unfold putD
 refine aw this ?_
 rfl
theorem znt:T.es.map (λx=>x.1)=T.ks:=by unfold TsD.es TsD.ks;refine aw be ?_;rfl
theorem zlh (h:k∈T.ks):∃x∈T.L,x.1=k:=aH.mp h
theorem zrw {Cl:Addr}{F}{args:List AV}{kws:List (Str×AV)}{Q:AV→List AO→Prop}(h:dO (F (.obj σ.length::args) kws (σ++[.slots Cl []])) λr σ'=>r=.none∧Q (.obj σ.length) σ'):dO (zqc Cl F args kws σ) Q:=by
 (refine x2a3 h λr σ' e z3 hq=>?_;subst z3)
 exact⟨_,_,by unfold zqc;rw[e],hq⟩
theorem zku {Cl:Addr}{F}{args:List AV}{kws:List (Str×AV)}{Q:AV→List AO→Prop}(h:dO (F (.obj (σ.length+1)::args) kws (σ++[.attrs [],.inst Cl σ.length])) λr σ'=>r=.none∧Q (.obj (σ.length+1)) σ'):dO (znf Cl F args kws σ) Q:=by
 (refine x2a3 h λr σ' e z3 hq=>?_;subst z3)
 exact⟨_,_,by unfold znf;rw[e],hq⟩
noncomputable def z1j (T:TsD)(k:Int)(n:Nat):TsD:={ T with L:=T.L++[(k,n,n+1)],ep:=T.ep+1,cnt:=T.cnt+1 }
theorem zs4 {Q:AV→List AO→Prop}(hq:Q (.obj σ.length) (σ++[fo k 0 (σ.length+1)]++[.list []])):dO (F_Ni [.int k] [] σ) Q:=by
 refine zrw (fx (l:=[some (.obj σ.length),some (.int k)]) 2 (by rfl) (by rfl) (by rfl) (by rfl) (gu ?_))
 have h0:(σ++[AO.slots gH []])[σ.length]?=some (.slots gH []):=cR
 repeat walk_at "w"
 refine zca h0 zym (by decide) ?_
 repeat walk_at "w"
 refine zca (aJ (by simp)) zsm (by decide) ?_
 repeat walk_at "w"
 refine gj (by decide) ?_
 repeat walk_at "w"
 refine zca (b6 (aJ (by simp))) z2g (by decide) ?_
 repeat walk_at "w"
 refine⟨rfl,?_⟩
 dsimp only[retOf]
 rw[bL,List.set_append_left _ _ (by simp),bL,cN,az,aO]
 have:(σ++[AO.slots gH []]).set σ.length (.slots gH (putS 2 (.obj (σ.length+1)) (putS 1 (.int 0) (putS 0 (.int k) []))))=σ++[fo k 0 (σ.length+1)]:=by
  rw[List.set_append_right _ _ (aB _),eu];rfl
 rw[this]
 exact hq
theorem zze {Q:AV→List AO→Prop}(h:TsR σ T)(hx:x∈T.L)(hq:Q (.obj x.2.1) σ):dO (zbr [.obj T.s,.int x.1] [] σ) Q:=by
 refine fx (l:=[some (.obj T.s),some (.int x.1),none,none]) 4 (by rfl) (by rfl) (by rfl) (by rfl) (gu ?_)
 repeat walk_at "w"
 refine fB h.hs h.hd zh1 zmv rfl ?_
 refine fY (dv (zjz h.hm) ?_)
 repeat walk_at "w"
 refine zmm h.hm ?_
 refine aw (show getD T.es x.1=some (.obj x.2.1)from zdy h.nd hx) ?_
 repeat walk_at "w"
 refine iQ (b:=false) rfl (eK ?_)
 walk_at "f"
 repeat walk_at "w"
 exact hq
theorem zzf {Q:AV→List AO→Prop}(h:TsR σ T)(hk:k∉T.ks)(hc:T.cnt<2^19)(hq:∀σ',TsR σ' (z1j T k σ.length)→Frm σ σ' T.foot→Q (.obj σ.length) σ'):dO (zbr [.obj T.s,.int k] [] σ) Q:=by
 refine fx (l:=[some (.obj T.s),some (.int k),none,none]) 4 (by rfl) (by rfl) (by rfl) (by rfl) (gu ?_)
 repeat walk_at "w"
 refine fB h.hs h.hd zh1 zmv rfl ?_
 refine fY (dv (zjz h.hm) ?_)
 repeat walk_at "w"
 refine zmm h.hm ?_
 rw[zlx (znt▸hk)]
 repeat walk_at "w"
 refine iQ (b:=true) rfl (eK ?_)
 walk_at "t"
 repeat walk_at "w"
 refine fh (zs4 ?_)
 have h1:=(h.push (fo k 0 (σ.length+1))).push (.list [])
 repeat walk_at "w"
 refine fB h1.hs h1.hd zh1 zmv rfl ?_
 repeat walk_at "w"
 (refine x0a2 (zol (v:=.obj σ.length) (znt▸hk)) λe1 e2=>?_)
 refine zik h1.hm (by unfold TsD.es;rw[ae];have:=h.len;lia) ?_
 rw[e1,e2,if_neg (by decide)]
 repeat walk_at "w"
 refine hq _ ?_ ?_
 ·have hm:=h1.hm
  have ne {i:Nat} {o:AO} (e:(σ++[fo k 0 (σ.length+1)]++[.list []])[i]?=some o) (hn:(.dict T.es T.ep)≠o):T.m≠i:=fT hm e hn
  have gi:(σ++[fo k 0 (σ.length+1)]++[.list []])[σ.length]?=some (fo k 0 (σ.length+1)):=b6 cR
  have gl:(σ++[fo k 0 (σ.length+1)]++[.list []])[σ.length+1]?=some (.list []):=by
   have:=cR (σ:=σ++[fo k 0 (σ.length+1)]) (o:=.list [])
   rwa[az,aO]at this
  obtain⟨o1,o2⟩:=h.out k hk
  refine⟨ck h1.hs (ne h1.hs (by nofun)),ck h1.hd (ne h1.hd (by nofun)),?_,λy hy=>?_,λy hy=>?_,?_,λy hy z hz e=>?_,λj hj=>?_,λj=>dh (h.sz j),?_⟩
  ·refine(aJ (ek hm)).trans ?_
   show _=some (AO.dict (List.map _ (T.L++[(k,σ.length,σ.length+1)])) _)
   rw[aE];rfl
  ·rcases aD.mp hy with hy|hy
   ·exact ck (h1.hi y hy) (ne (h1.hi y hy) (by nofun))
   ·rw[ac.mp hy]
    show _=some (fo k (T.np k) (σ.length+1))
    rw[o1]
    exact ck gi (ne gi (by nofun))
  ·rcases aD.mp hy with hy|hy
   ·exact ck (h1.hl y hy) (ne (h1.hl y hy) (by nofun))
   ·rw[ac.mp hy]
    show _=some (AO.list ((T.su k).map AV.int))
    rw[o2]
    exact ck gl (ne gl (by nofun))
  ·show((T.L++[(k,σ.length,σ.length+1)]).map (λx=>x.1)).Nodup
   rw[aE,b5]
   refine⟨h.nd,by simp,λa ha b hb=>?_⟩
   rw[ac.mp hb]
   intro(e:a=k)
   exact hk (e▸ha)
  ·have lt:∀w∈T.L,w.2.2<σ.length:=λw hw=>ek (h.hl w hw)
   rcases aD.mp hy with hy|hy<;>rcases aD.mp hz with hz|hz
   ·exact h.ls y hy z hz e
   ·rw[ac.mp hz]at e
    have:=lt y hy
    dsimp only at e
    lia
   ·rw[ac.mp hy]at e
    have:=lt z hz
    dsimp only at e
    lia
   ·rw[ac.mp hy,ac.mp hz]
  ·exact h.out j λq=>hj (by show j∈(T.L++[(k,σ.length,σ.length+1)]).map (λx=>x.1);rw[aE];exact bK _ q)
  ·show(T.L++[(k,σ.length,σ.length+1)]).length≤T.cnt+1
   have:=h.len
   rw[az];exact dE this 1
 ·exact⟨by simp<;>lia,λi o n e=>ck (b6 (b6 e)) λq=>n (foot_iff.mpr (.inr (.inr (.inl q.symm))))⟩
end
noncomputable def gT (ks:List Int)(k:Int):List Int:=if k∈ks then ks else ks++[k]
noncomputable def setF (np:Int→Int)(k v:Int):Int→Int:=λj=>if j=k then v else np j
noncomputable def gA (k:Int)(su:Int→List Int)(p:Int):Int→List Int:=λj=>if j=p then su j++[k]else su j
structure Grows (σ:List AO)(T T':TsD):Prop where
 s:T'.s=T.s
 d:T'.d=T.d
 m:T'.m=T.m
 r:T'.r=T.r
 po:T'.po=T.po
 nf:T'.nf=T.nf
 foot:∀i∈T'.foot,i∈T.foot∨σ.length≤i
section
variable {σ σ':List AO}{T T':TsD}{k:Int}{x:Int×Nat×Nat}
theorem Grows.refl:Grows σ T T:=⟨rfl,rfl,rfl,rfl,rfl,rfl,λu1 h=>.inl h⟩
theorem Grows.trans {T'':TsD}(x:Grows σ T T')(f:Frm σ σ' T.foot)(y:Grows σ' T' T''):Grows σ T T'' :=
 ⟨y.s.trans x.s,y.d.trans x.d,y.m.trans x.m,y.r.trans x.r,y.po.trans x.po,y.nf.trans x.nf,λi hi=>(y.foot i hi).elim (x.foot i) λq=>.inr (aI f.len q)⟩
theorem Frm.go {σ'':List AO}(f:Frm σ σ' T.foot)(x:Grows σ T T')(f':Frm σ' σ'' T'.foot):Frm σ σ'' T.foot:=f.trans f' x.foot
theorem zy0 {a b a' b':Int}{c c':Nat}(h:fo a b c=fo a' b' c'):a=a':=by unfold fo at h;cases h;rfl
theorem TsR.uniq (h:TsR σ T){y:Int×Nat×Nat}(hx:x∈T.L)(hy:y∈T.L)(e:x.1=y.1):x=y:=by
 obtain⟨a,b,c⟩:=x
 obtain⟨a',b',c'⟩:=y
 obtain rfl:a=a':=e
 have h1:=zdy (f:=λz=>AV.tup [.obj z.2.1,.obj z.2.2]) h.nd hx
 have h2:=zdy (f:=λz=>AV.tup [.obj z.2.1,.obj z.2.2]) h.nd hy
 dsimp only at h1 h2
 rw[h1]at h2
 cases h2
 rfl
theorem znh (hx:x∈T.L):x.1∈T.ks:=bA hx
theorem TsR.setNp (h:TsR σ T)(hx:x∈T.L)(v:Int):TsR (σ.set x.2.1 (fo x.1 v x.2.2)) (T.np' (setF T.np x.1 v)):=by
 have hi:=h.hi x hx
 have ne {i:Nat} {o:AO} (e:σ[i]?=some o) (hn:fo x.1 (T.np x.1) x.2.2≠o):x.2.1≠i:=fT hi e hn
 refine⟨ck h.hs (ne h.hs (by nofun)),ck h.hd (ne h.hd (by nofun)),ck h.hm (ne h.hm (by nofun)),λy hy=>?_,λy hy=>ck (h.hl y hy) (ne (h.hl y hy) (by nofun)),h.nd,h.ls,λj hj=>?_,h.sz,h.len⟩
 ·by_cases e:y.1=x.1
  ·have:=h.uniq hy hx e
   subst this
   refine(aJ (ek hi)).trans ?_
   show _=some (fo y.1 (setF T.np y.1 v y.1) y.2.2)
   unfold setF;exact aw (if_pos rfl) rfl
  ·refine(ck (h.hi y hy) (ne (h.hi y hy) λq=>e (zy0 q).symm)).trans ?_
   show _=some (fo y.1 (setF T.np x.1 v y.1) y.2.2)
   unfold setF;exact aw (if_neg e) rfl
 ·refine⟨?_,(h.out j hj).2⟩
  show setF T.np x.1 v j=0
  unfold setF
  refine aw (if_neg (λ(e:j=x.1)=>hj (e.symm▸znh hx))) ?_
  exact(h.out j hj).1
theorem TsR.app (h:TsR σ T)(hx:x∈T.L)(k:Int):TsR (σ.set x.2.2 (.list ((T.su x.1).map .int++[.int k]))) (T.su' (gA k T.su x.1)):=by
 have hl:=h.hl x hx
 have ne {i:Nat} {o:AO} (e:σ[i]?=some o) (hn:AO.list ((T.su x.1).map .int)≠o):x.2.2≠i:=fT hl e hn
 refine⟨ck h.hs (ne h.hs (by nofun)),ck h.hd (ne h.hd (by nofun)),ck h.hm (ne h.hm (by nofun)),λy hy=>ck (h.hi y hy) (ne (h.hi y hy) (by nofun)),λy hy=>?_,h.nd,h.ls,λj hj=>⟨(h.out j hj).1,?_⟩,λj=>?_,dh h.len⟩
 ·by_cases e:y.1=x.1
  ·have:=h.uniq hy hx e
   subst this
   refine(aJ (ek hl)).trans ?_
   show _=some (AO.list ((gA k T.su y.1 y.1).map .int))
   unfold gA;refine aw (if_pos rfl) (aw aE ?_);rfl
  ·refine(ck (h.hl y hy) λq=>e (h.ls x hx y hy q).symm).trans ?_
   show _=some (AO.list ((gA k T.su x.1 y.1).map .int))
   unfold gA;exact aw (if_neg e) rfl
 ·show gA k T.su x.1 j=[]
  unfold gA
  refine aw (if_neg (λ(e:j=x.1)=>hj (e.symm▸znh hx))) ?_
  exact(h.out j hj).2
 ·show(gA k T.su x.1 j).length≤T.cnt+1
  have:=h.sz j
  unfold gA
  split
  ·exact aw az (dE this 1)
  ·exact dh this
structure z14 (σ σ':List AO)(T T':TsD)(k:Int)(x:Int×Nat×Nat):Prop where
 mem:x∈T'.L
 key:x.1=k
 rep:TsR σ' T'
 frm:Frm σ σ' T.foot
 grw:Grows σ T T'
 ks:T'.ks=gT T.ks k
 np:T'.np=T.np
 su:T'.su=T.su
 cnt:T'.cnt≤T.cnt+1
inductive GniP (σ:List AO)(T:TsD)(k:Int)(r:AV)(σ':List AO):Prop
 |mk (T':TsD) (x:Int×Nat×Nat) (e:r=.obj x.2.1) (h:z14 σ σ' T T' k x):GniP σ T k r σ'
theorem zow (h:TsR σ T)(hc:T.cnt<2^19):dO (zbr [.obj T.s,.int k] [] σ) (GniP σ T k):=by
 by_cases hk:k∈T.ks
 ·(refine x1a2 (zlh hk) λx hx z2=>?_;subst z2)
  exact zze h hx ⟨T,x,rfl,hx,rfl,h,.refl _ _,.refl,by unfold gT;rw[if_pos hk],rfl,rfl,cV _⟩
 ·refine zzf h hk hc λσ' h' f=>⟨_,(k,σ.length,σ.length+1),rfl,?_,rfl,h',f,⟨rfl,rfl,rfl,rfl,rfl,rfl,λi hi=>?_⟩,?_,rfl,rfl,aB _⟩
  ·exact cx _ (ac.mpr rfl)
  ·rcases foot_iff.mp hi with e|e|e|⟨y,hy,e⟩
   ·exact .inl (foot_iff.mpr (.inl e))
   ·exact .inl (foot_iff.mpr (.inr (.inl e)))
   ·exact .inl (foot_iff.mpr (.inr (.inr (.inl e))))
   ·refine cF (aD.mp hy) (λhy=>?_) λhy=>?_
    ·exact .inl (foot_iff.mpr (.inr (.inr (.inr ⟨y,hy,e⟩))))
    ·rw[ac.mp hy]at e
     refine cF e (λe=>?_) λe=>?_
     ·exact .inr (bj e.symm)
     ·exact .inr (aI (cV _) (bj e.symm))
  ·unfold gT;refine aw (if_neg hk) ?_;unfold TsD.ks z1j;refine aw aE ?_;rfl
inductive z17 (σ:List AO)(T:TsD)(k:Int)(ps:List Int)(xo:Nat)(d r:List AV)(st:St):Prop
 |mk (p1 p2:List Int) (T2:TsD) (σ2:List AO) (l4 l5:Option AV) (e1:d=p1.map .int) (e2:r=p2.map .int) (e3:p1++p2=ps) (e4:st=⟨th [some (.obj T.s),some (.int k),some (.tup (ps.map .int)),some (.obj xo),l4,l5,none,none],σ2⟩) (e5:TsR σ2 T2) (e6:Frm σ σ2 T.foot) (e7:Grows σ T T2) (e8:T2.ks=p1.foldl gT (gT T.ks k)) (e9:T2.np=setF T.np k (T.np k+ps.length)) (e10:T2.su=p1.foldl (gA k) T.su) (e11:T2.cnt≤T.cnt+2*p1.length+1):z17 σ T k ps xo d r st
inductive AddP (σ:List AO)(T:TsD)(k:Int)(ps:List Int)(r:AV)(σ':List AO):Prop
 |mk (e:r=.none) (T':TsD) (h1:TsR σ' T') (h2:Frm σ σ' T.foot) (h3:Grows σ T T') (h4:T'.ks=ps.foldl gT (gT T.ks k)) (h5:T'.np=setF T.np k (T.np k+ps.length)) (h6:T'.su=ps.foldl (gA k) T.su) (h7:T'.cnt≤T.cnt+2*ps.length+1):AddP σ T k ps r σ'
theorem zwj {ps:List Int}(h:TsR σ T)(hr:T.r=.none)(hc:T.cnt+2*ps.length+2<2^19):dO (zpi (.obj T.s::.int k::ps.map .int) [] σ) (AddP σ T k ps):=by
 refine gU λQ hQ=>?_
 refine fx (l:=[some (.obj T.s),some (.int k),some (.tup (ps.map .int)),none,none,none,none,none]) 8 (by show(if _ then _ else _)=_;rw[if_pos (by simp;lia)]) (by rfl) (by rfl) (by rfl) (gu ?_)
 repeat walk_at "w"
 refine fB h.hs h.hd iD zx4 (by rw[hr];rfl) ?_
 rw[hr]
 repeat walk_at "w"
 refine zg2 (b:=true) rfl (eK ?_)
 rw[if_neg (by decide)]
 repeat walk_at "w"
 refine dv (gm h.hs h.hd zr5) ?_
 repeat walk_at "w"
 refine fh (fP (zow h (by lia)) ?_)
 rintro _ σ1 ⟨T1,x,rfl,N⟩
 have h1:=N.rep
 have hx:=N.mem
 repeat walk_at "w"
 refine iF (h1.hi x hx) zsn rfl rfl ?_
 repeat walk_at "w"
 refine zkp (by simp;lia) ?_
 refine fY (zc9 ?_)
 repeat walk_at "w"
 refine zca (h1.hi x hx) zsm (by decide) ?_
 have h2:=h1.setNp hx (T1.np x.1+ps.length)
 rw[ae]
 have e2:AO.slots gH (putS 1 (.int (T1.np x.1+ps.length)) [some (.int x.1),some (.int (T1.np x.1)),some (.obj x.2.2)])=fo x.1 (T1.np x.1+ps.length) x.2.2:=rfl
 rw[e2]
 repeat walk_at "w"
 refine zjb ?_
 have f2:Frm σ (σ1.set x.2.1 (fo x.1 (T1.np x.1+ps.length) x.2.2)) T.foot:=N.frm.go N.grw (.set _ (zdv hx).1)
 refine ib (z17 σ T k ps x.2.1)
  ⟨[],ps,_,_,none,none,rfl,rfl,rfl,rfl,h2,f2,⟨N.grw.s,N.grw.d,N.grw.m,N.grw.r,N.grw.po,N.grw.nf,N.grw.foot⟩,N.ks,by show setF T1.np x.1 _=_;rw[N.np,N.key],N.su,N.cnt⟩ ?_ ?_
 ·rintro d a r _ hd ⟨p1,p2,T2,σ2,l4,l5,rfl,hr2,hp,rfl,R2,F2,G2,k2,n2,s2,c2⟩
  cases p2 with
  |nil=>cases hr2
  |cons p p2 =>
   rw[aN,bY]at hr2
   obtain⟨rfl,rfl⟩:=hr2
   have hlen:ps.length=p1.length+(p2.length+1):=by rw[←hp];simp
   refine⟨fK,?_⟩
   repeat walk_at "w"
   rw[←G2.s]
   refine dv (gm R2.hs R2.hd zr5) ?_
   repeat walk_at "w"
   refine fh (fP (zow R2 (by lia)) ?_)
   rintro _ σ3 ⟨T3,y,rfl,M⟩
   have h3:=M.rep
   repeat walk_at "w"
   refine iF (h3.hi y M.mem) zyn rfl rfl ?_
   refine fY (dv (gw (h3.hl y M.mem)) ?_)
   repeat walk_at "w"
   refine ie (h3.hl y M.mem) (by rw[ae];have:=h3.sz y.1;have:=M.cnt;lia) ?_
   repeat walk_at "w"
   refine⟨p1++[p],p2,_,_,some (.int p),some (.obj y.2.1),by rw[aE];rfl,rfl,by rw[←hp,bf];rfl,by rw[G2.s];rfl,h3.app M.mem k,(F2.go G2 M.frm).trans (.set _ (zdv M.mem).2) λi hi=>?_,?_,?_,?_,?_,?_⟩
   ·exact(G2.trans F2 M.grw).foot i hi
   ·have G3:=G2.trans F2 M.grw
    exact⟨G3.s,G3.d,G3.m,G3.r,G3.po,G3.nf,G3.foot⟩
   ·rw[bw,←k2];exact M.ks
   ·exact M.np.trans n2
   ·rw[bw,←s2,←M.su,←M.key];rfl
   ·have:=M.cnt
    show T3.cnt+1≤_
    rw[az,aO];lia
 ·rintro _ ⟨p1,p2,T2,σ2,l4,l5,hd,hr2,hp,rfl,R2,F2,G2,k2,n2,s2,c2⟩
  have:p2=[]:=by cases p2 with|nil=>rfl|cons _ _=>cases hr2
  subst this
  rw[bi]at hp
  subst hp
  refine⟨fK,?_⟩
  repeat walk_at "w"
  exact hQ _ _ ⟨rfl,T2,R2,F2,G2,k2,n2,s2,c2⟩
end
structure RdyR (σ:List AO)(T:TsD)(r:Nat)(rs:List Int):Prop where
 at_:T.r=.obj r
 list:σ[r]?=some (.list (rs.map .int))
 ne:∀x∈T.L,x.2.2≠r
noncomputable def fZ (st:(Int→Int)×List Int)(s:Int):(Int→Int)×List Int:=(setF st.1 s (st.1 s-1),if st.1 s-1=0 then st.2++[s]else st.2)
noncomputable def gg (su:Int→List Int)(st:(Int→Int)×List Int)(k:Int):(Int→Int)×List Int:=(su k).foldl fZ (setF st.1 k (-2),st.2)
section
variable {σ σ':List AO}{T T':TsD}{k:Int}{x:Int×Nat×Nat}{r:Nat}{rs:List Int}
theorem RdyR.look (hr:RdyR σ T r rs){m:AV}{po nf:Int}:(fC m T.r po nf).lookup (S "_ready_nodes")=some (.obj r):=by exact aw hr.at_ zx4
theorem Frm.mono {S S':List Nat}(f:Frm σ σ' S)(h:∀i∈S,i∈S'):Frm σ σ' S':=⟨f.len,λi o n e=>f.same i o (λq=>n (h i q)) e⟩
theorem RdyR.notFoot (h:TsR σ T)(hr:RdyR σ T r rs):r∉T.foot:=λq=>by
 rcases foot_iff.mp q with e|e|e|⟨x,hx,e|e⟩
 ·exact absurd (e▸hr.list) (by refine aw h.hs ?_;nofun)
 ·exact absurd (e▸hr.list) (by refine aw h.hd ?_;nofun)
 ·exact absurd (e▸hr.list) (by refine aw h.hm ?_;nofun)
 ·exact absurd (e▸hr.list) (by refine aw (h.hi x hx) ?_;nofun)
 ·exact hr.ne x hx e.symm
theorem RdyR.put (hr:RdyR σ T r rs){i:Nat}{o o':AO}(e:σ[i]?=some o)(hn:o≠.list (rs.map .int)):RdyR (σ.set i o') T r rs:=⟨hr.at_,ck hr.list (fT e hr.list hn),hr.ne⟩
theorem RdyR.same (hr:RdyR σ T r rs)(e:T'.r=T.r)(eL:T'.L=T.L):RdyR σ T' r rs:=⟨e.trans hr.at_,hr.list,eL▸hr.ne⟩
theorem TsR.setA (h:TsR σ T)(r:AV)(po nf:Int):TsR (σ.set T.d (.attrs (fC (.obj T.m) r po nf))) (T.at' r po nf):=by
 have hd:=h.hd
 have ne {i:Nat} {o:AO} (e:σ[i]?=some o) (hn:AO.attrs (fC (.obj T.m) T.r T.po T.nf)≠o):T.d≠i:=fT hd e hn
 exact⟨ck h.hs (ne h.hs (by nofun)),aJ (ek hd),ck h.hm (ne h.hm (by nofun)),λy hy=>ck (h.hi y hy) (ne (h.hi y hy) (by nofun)),λy hy=>ck (h.hl y hy) (ne (h.hl y hy) (by nofun)),h.nd,h.ls,h.out,h.sz,h.len⟩
inductive GrI (σ:List AO)(T:TsD)(r:Nat)(rs:List Int)(d q:List AV)(st:St):Prop
 |mk (p1 p2:List Int) (σ2:List AO) (l3:Option AV) (e1:d=p1.map .int) (e2:q=p2.map .int) (e3:p1++p2=rs) (e4:st=⟨th [some (.obj T.s),some (.tup (rs.map .int)),some (.obj T.m),l3,none,none,none,none],σ2⟩) (e5:TsR σ2 (T.np' (p1.foldl (λnp k=>setF np k (-1)) T.np))) (e6:RdyR σ2 T r rs) (e7:Frm σ σ2 T.foot):GrI σ T r rs d q st
inductive GetP (σ:List AO)(T:TsD)(r:Nat)(rs:List Int)(v:AV)(σ':List AO):Prop
 |mk (e:v=.tup (rs.map .int)) (h:TsR σ' ((T.np' (rs.foldl (λnp k=>setF np k (-1)) T.np)).at' T.r (T.po+rs.length) T.nf)) (hr:RdyR σ' ((T.np' (rs.foldl (λnp k=>setF np k (-1)) T.np)).at' T.r (T.po+rs.length) T.nf) r []) (F:Frm σ σ' (r::T.foot)):GetP σ T r rs v σ'
theorem zib (h:TsR σ T)(hr:RdyR σ T r rs)(hk:∀k∈rs,k∈T.ks)(hl:rs.length<2^20):dO (ze5 [.obj T.s] [] σ) (GetP σ T r rs):=by
 refine gU λQ hQ=>?_
 refine fx (l:=[some (.obj T.s),none,none,none,none,none,none,none]) 8 (by rfl) (by rfl) (by rfl) (by rfl) (gu ?_)
 repeat walk_at "w"
 refine fB h.hs h.hd iD hr.look rfl ?_
 repeat walk_at "w"
 refine iQ (b:=false) rfl (eK ?_)
 walk_at "f"
 repeat walk_at "w"
 refine fB h.hs h.hd iD hr.look rfl ?_
 repeat walk_at "w"
 refine zrc hr.list (by rw[ae];exact hl) ?_
 repeat walk_at "w"
 refine fB h.hs h.hd zh1 zmv rfl ?_
 repeat walk_at "w"
 refine zjb ?_
 refine ib (GrI σ T r rs) ⟨[],rs,σ,none,rfl,rfl,rfl,rfl,h,hr,.refl _ _⟩ ?_ ?_
 ·rintro d a q _ hd ⟨p1,p2,σ2,l3,rfl,hr2,hp,rfl,R2,Y2,F2⟩
  cases p2 with
  |nil=>cases hr2
  |cons p p2 =>
   rw[aN,bY]at hr2
   obtain⟨rfl,rfl⟩:=hr2
   obtain⟨x,hx,hxp⟩:=zlh (hk p (by rw[←hp];simp))
   refine⟨fK,?_⟩
   repeat walk_at "w"
   refine ze6 R2.hm (hxp▸zdy R2.nd hx) ?_
   refine zca (R2.hi x hx) zsm (by decide) ?_
   repeat walk_at "w"
   refine⟨p1++[p],p2,_,some (.int p),by rw[aE];rfl,rfl,by rw[←hp,bf];rfl,rfl,?_,Y2.put (R2.hi x hx) (by nofun),F2.trans (.set _ (zdv hx).1) λi hi=>.inl hi⟩
   have:=R2.setNp hx (-1)
   rw[bw]
   show TsR _ (T.np' (setF _ p (-1)))
   rw[←hxp]
   exact this
 ·rintro _ ⟨p1,p2,σ2,l3,hd,hr2,hp,rfl,R2,Y2,F2⟩
  have:p2=[]:=by cases p2 with|nil=>rfl|cons _ _=>cases hr2
  subst this
  rw[bi]at hp
  subst hp
  refine⟨fK,?_⟩
  repeat walk_at "w"
  refine fB R2.hs R2.hd iD hr.look rfl ?_
  refine fY (dv (gw Y2.list) ?_)
  repeat walk_at "w"
  refine zu2 Y2.list (by rw[ae];exact hl) ?_
  have hnf:=Y2.same (T':=(T.np' (p1.foldl (λnp k=>setF np k (-1)) T.np))) rfl rfl |>.notFoot R2
  have R3:=R2.put (.list []) hnf
  repeat walk_at "w"
  refine fB R3.hs R3.hd z1v zwu rfl ?_
  repeat walk_at "w"
  refine zkp (by rw[ae];lia) ?_
  refine fY (zc9 ?_)
  repeat walk_at "w"
  refine i8 R3.hs R3.hd z1s zmw ?_
  rw[zpq,ae]
  repeat walk_at "w"
  refine hQ _ _ ⟨rfl,R3.setA T.r (T.po+p1.length) T.nf,⟨hr.at_,?_,hr.ne⟩,?_⟩
  ·have h1:(σ2.set r (.list []))[r]?=some (.list []):=eU Y2.list
   exact ck h1 (fT R3.hd h1 (by nofun))
  ·refine((F2.mono λi hi=>af _ hi).trans (.set _ (aj (l:=T.foot))) λi hi=>.inl hi).trans (.set _ (af r (foot_iff.mpr (.inr (.inl rfl))))) λi hi=>.inl hi
noncomputable def TsD.run (T:TsD)(f:Int→Int)(nf:Int):TsD:=(T.np' f).at' T.r T.po nf
inductive z16 (σ:List AO)(T:TsD)(r:Nat)(rs ns:List Int)(d q:List AV)(st:St):Prop
 |mk (p1 p2:List Int) (σ2:List AO) (l3 l4 l5 l6 l7:Option AV) (e1:d=p1.map .int) (e2:q=p2.map .int) (e3:p1++p2=ns) (e4:st=⟨th [some (.obj T.s),some (.tup (ns.map .int)),some (.obj T.m),l3,l4,l5,l6,l7,none,none,none],σ2⟩)
  (h1:TsR σ2 (T.run (p1.foldl (gg T.su) (T.np,rs)).1 (T.nf+p1.length))) (h2:RdyR σ2 T r (p1.foldl (gg T.su) (T.np,rs)).2) (h3:Frm σ σ2 (r::T.foot)) (h4:(p1.foldl (gg T.su) (T.np,rs)).2.length≤rs.length+p1.length*T.cnt):z16 σ T r rs ns d q st
inductive RelI (σ:List AO)(T:TsD)(r:Nat)(ns:List Int)(p:Int)(xo:Nat)(f0:Int→Int)(l0:List Int)(nf:Int)(d q:List AV)(st:St):Prop
 |mk (q1 q2:List Int) (σ4:List AO) (l6 l7:Option AV) (e1:d=q1.map .int) (e2:q=q2.map .int) (e3:q1++q2=T.su p) (e4:st=⟨th [some (.obj T.s),some (.tup (ns.map .int)),some (.obj T.m),some (.int p),some (.obj xo),some (.int (-1)),l6,l7,none,none,none],σ4⟩)
  (h1:TsR σ4 (T.run (q1.foldl fZ (f0,l0)).1 nf)) (h2:RdyR σ4 T r (q1.foldl fZ (f0,l0)).2) (h3:Frm σ σ4 (r::T.foot)) (h4:(q1.foldl fZ (f0,l0)).2.length≤l0.length+q1.length):RelI σ T r ns p xo f0 l0 nf d q st
inductive DonP (σ:List AO)(T:TsD)(r:Nat)(rs ns:List Int)(v:AV)(σ':List AO):Prop
 |mk (e:v=.none) (h:TsR σ' (T.run (ns.foldl (gg T.su) (T.np,rs)).1 (T.nf+ns.length))) (hr:RdyR σ' T r (ns.foldl (gg T.su) (T.np,rs)).2) (F:Frm σ σ' (r::T.foot)):DonP σ T r rs ns v σ'
theorem zuc {ns:List Int}(h:TsR σ T)(hr:RdyR σ T r rs)(hk:∀k∈ns,k∈T.ks)(hs:∀k∈ns,∀s∈T.su k,s∈T.ks)(hnp:∀p1 k p2,p1++k::p2=ns→(p1.foldl (gg T.su) (T.np,rs)).1 k=-1)(hl:rs.length+ns.length*T.cnt<2^19)(hn:ns.length<2^20) :
  dO (zmd (.obj T.s::ns.map .int) [] σ) (DonP σ T r rs ns):=by
 refine gU λQ hQ=>?_
 refine fx (l:=[some (.obj T.s),some (.tup (ns.map .int)),none,none,none,none,none,none,none,none,none]) 11 (by show(if _ then _ else _)=_;rw[if_pos (by rw[ae];exact hn)]) (by rfl) (by rfl) (by rfl) (gu ?_)
 repeat walk_at "w"
 refine fB h.hs h.hd iD hr.look rfl ?_
 repeat walk_at "w"
 refine iQ (b:=false) rfl (eK ?_)
 walk_at "f"
 repeat walk_at "w"
 refine fB h.hs h.hd zh1 zmv rfl ?_
 repeat walk_at "w"
 refine zjb ?_
 refine ib (z16 σ T r rs ns)
  ⟨[],ns,σ,none,none,none,none,none,rfl,rfl,rfl,rfl,?_,hr,.refl _ _,by simp⟩ ?_ ?_
 ·show TsR σ (T.run T.np (T.nf+0))
  rw[Int.add_zero]
  exact h
 ·rintro d a q _ hd ⟨p1,p2,σ2,l3,l4,l5,l6,l7,rfl,hr2,hp,rfl,R2,Y2,F2,B2⟩
  cases p2 with
  |nil=>cases hr2
  |cons p p2 =>
   rw[aN,bY]at hr2
   (refine x0a2 hr2 λz0 z1=>?_;subst z0;subst z1)
   have hpn:p∈ns:=by rw[←hp];simp
   (refine x1a2 (zlh (hk p hpn)) λx hx hxp=>?_)
   have hnp2:=hnp p1 p p2 hp
   generalize hst:p1.foldl (gg T.su) (T.np,rs)=s2 at *
   have hlen:ns.length=p1.length+(p2.length+1):=by rw[←hp];simp
   have hcnt:p1.length*T.cnt+T.cnt≤ns.length*T.cnt:=by rw[hlen,←Nat.succ_mul];exact Nat.mul_le_mul_right _ (by lia)
   refine⟨fK,?_⟩
   repeat walk_at "w"
   refine dv (zjz R2.hm) ?_
   repeat walk_at "w"
   refine zmm R2.hm ?_
   rw[show getD (T.run s2.1 (T.nf+p1.length)).es p=some (.obj x.2.1)from hxp▸zdy R2.nd hx]
   repeat walk_at "w"
   refine iQ (b:=false) rfl (eK ?_)
   walk_at "f"
   repeat walk_at "w"
   refine iF (R2.hi x hx) zsn rfl rfl ?_
   repeat walk_at "w"
   refine zz4 ?_
   rw[show(T.run s2.1 (T.nf+p1.length)).np x.1=-1 from hxp▸hnp2]
   refine eK ?_
   rw[if_neg (by decide)]
   repeat walk_at "w"
   refine zca (R2.hi x hx) zsm (by decide) ?_
   have R3:TsR (σ2.set x.2.1 (fo x.1 (-2) x.2.2)) (T.run (setF s2.1 p (-2)) (T.nf+p1.length)):=hxp▸R2.setNp hx (-2)
   have Y3:=Y2.put (o':=fo x.1 (-2) x.2.2) (R2.hi x hx) (by nofun)
   have F3:Frm σ (σ2.set x.2.1 (fo x.1 (-2) x.2.2)) (r::T.foot):=F2.trans (.set _ (af r (zdv hx).1)) λi hi=>.inl hi
   rw[show AO.slots gH (putS 1 (.int (-2)) [some (.int x.1),some (.int ((T.run s2.1 (T.nf+p1.length)).np x.1)),some (.obj x.2.2)])=fo x.1 (-2) x.2.2 from rfl]
   repeat walk_at "w"
   refine iF (R3.hi x hx) zyn rfl rfl ?_
   refine gW (R3.hl x hx) ?_
   refine ib (RelI σ T r ns p x.2.1 (setF s2.1 p (-2)) s2.2 (T.nf+p1.length))
    ⟨[],T.su p,_,l6,l7,rfl,hxp▸(rfl:(T.su x.1).map AV.int=_),rfl,rfl,R3,Y3,F3,aB _⟩ ?_ ?_
   ·rintro d a q _ hd ⟨q1,q2,σ4,l6,l7,rfl,hq2,hq,rfl,R4,Y4,F4,B4⟩
    cases q2 with
    |nil=>cases hq2
    |cons z q2 =>
     rw[aN,bY]at hq2
     (refine x0a2 hq2 λz0 z1=>?_;subst z0;subst z1)
     have hz:z∈T.su p:=by rw[←hq];simp
     have hsz:(T.su p).length≤T.cnt:=h.sz p
     have hql:(T.su p).length=q1.length+(q2.length+1):=by rw[←hq];simp
     (refine x1a2 (zlh (hs p hpn z hz)) λy hy hyz=>?_)
     generalize hst4:q1.foldl fZ (setF s2.1 p (-2),s2.2)=s4 at *
     refine⟨fS (R4.hl x hx),?_⟩
     repeat walk_at "w"
     refine ze6 R4.hm (hyz▸zdy R4.nd hy) ?_
     repeat walk_at "w"
     refine iF (R4.hi y hy) zsn rfl rfl ?_
     repeat walk_at "w"
     refine zru ?_
     repeat walk_at "w"
     refine zca (R4.hi y hy) zsm (by decide) ?_
     rw[show AO.slots gH (putS 1 (.int ((T.run s4.1 (T.nf+p1.length)).np y.1-1)) [some (.int y.1),some (.int ((T.run s4.1 (T.nf+p1.length)).np y.1)),some (.obj y.2.2)])=fo y.1 (s4.1 z-1) y.2.2 from by rw[←hyz];rfl]
     have R5:TsR (σ4.set y.2.1 (fo y.1 (s4.1 z-1) y.2.2)) (T.run (setF s4.1 z (s4.1 z-1)) (T.nf+p1.length)):=hyz▸R4.setNp hy (s4.1 y.1-1)
     have Y5:=Y4.put (o':=fo y.1 (s4.1 z-1) y.2.2) (R4.hi y hy) (by nofun)
     have F5:Frm σ (σ4.set y.2.1 (fo y.1 (s4.1 z-1) y.2.2)) (r::T.foot):=F4.trans (.set _ (af r (zdv hy).1)) λi hi=>.inl hi
     repeat walk_at "w"
     refine iF (R5.hi y hy) zsn rfl rfl ?_
     repeat walk_at "w"
     refine zxs (eK ?_)
     rw[show(T.run (setF s4.1 z (s4.1 z-1)) (T.nf+p1.length)).np y.1=s4.1 z-1 from by rw[hyz];show setF s4.1 z _ z=_;unfold setF;rw[if_pos rfl]]
     by_cases h0:s4.1 z-1=0
     ·rw[if_pos (by rw[h0];rfl)]
      repeat walk_at "w"
      refine fB R5.hs R5.hd iD hr.look rfl ?_
      refine fY (dv (gw Y5.list) ?_)
      repeat walk_at "w"
      refine ie Y5.list (by rw[ae];lia) ?_
      repeat walk_at "w"
      have hnf:r∉(T.run (setF s4.1 z (s4.1 z-1)) (T.nf+p1.length)).foot:=show r∉T.foot from hr.notFoot h
      refine⟨q1++[z],q2,_,some (.int z),some (.obj y.2.1),by rw[aE];rfl,rfl,by rw[←hq,bf];rfl,rfl,?_,⟨hr.at_,?_,hr.ne⟩,F5.trans (.set _ (aj (l:=T.foot))) λi hi=>.inl hi,?_⟩
      ·rw[bw,hst4]
       exact R5.put _ hnf
      ·rw[bw,hst4]
       show _=some (AO.list ((fZ s4 z).2.map .int))
       unfold fZ
       rw[if_pos h0,aE]
       exact eU Y5.list
      ·rw[bw,hst4]
       show(fZ s4 z).2.length≤_
       unfold fZ
       rw[if_pos h0,az,az,aO]
       lia
     ·rw[if_neg (by simpa using h0)]
      repeat walk_at "w"
      refine⟨q1++[z],q2,_,some (.int z),some (.obj y.2.1),by rw[aE];rfl,rfl,by rw[←hq,bf];rfl,rfl,?_,?_,F5,?_⟩
      ·rw[bw,hst4];exact R5
      ·rw[bw,hst4]
       show RdyR _ T r (fZ s4 z).2
       unfold fZ
       rw[if_neg h0]
       exact Y5
      ·rw[bw,hst4]
       show(fZ s4 z).2.length≤_
       unfold fZ
       rw[if_neg h0,az,aO]
       show s4.2.length≤_
       lia
   ·rintro _ ⟨q1,q2,σ4,l6,l7,hd4,hq2,hq,rfl,R4,Y4,F4,B4⟩
    have:q2=[]:=by cases q2 with|nil=>rfl|cons _ _=>cases hq2
    subst this
    rw[bi]at hq
    subst hq
    refine⟨fS (R4.hl x hx),?_⟩
    repeat walk_at "w"
    refine fB R4.hs R4.hd z1w zwv rfl ?_
    repeat walk_at "w"
    refine zc9 ?_
    repeat walk_at "w"
    refine i8 R4.hs R4.hd z1t zmw ?_
    rw[zpr]
    repeat walk_at "w"
    have hsz:(T.su p).length≤T.cnt:=h.sz p
    refine⟨p1++[p],p2,_,some (.int p),some (.obj x.2.1),some (.int (-1)),l6,l7,by rw[aE];rfl,rfl,by rw[←hp,bf];rfl,rfl,?_,?_,F4.trans (.set _ (af r (foot_iff.mpr (.inr (.inl rfl))))) λi hi=>.inl hi,?_⟩
    ·rw[bw,hst]
     show TsR _ (T.run (gg T.su s2 p).1 _)
     rw[show(T.nf+((p1++[p]).length:Int))=T.nf+p1.length+1 from by simp;lia]
     exact R4.setA T.r T.po (T.nf+p1.length+1)
    ·rw[bw,hst]
     exact Y4.put R4.hd (by nofun)
    ·rw[bw,hst]
     show(gg T.su s2 p).2.length≤_
     have:(gg T.su s2 p).2.length≤s2.2.length+(T.su p).length:=B4
     rw[az,aO,Nat.succ_mul]
     lia
 ·rintro _ ⟨p1,p2,σ2,l3,l4,l5,l6,l7,hd,hr2,hp,rfl,R2,Y2,F2,B2⟩
  have:p2=[]:=by cases p2 with|nil=>rfl|cons _ _=>cases hr2
  subst this
  rw[bi]at hp
  subst hp
  refine⟨fK,?_⟩
  repeat walk_at "w"
  exact hQ _ _ ⟨rfl,R2,Y2,F2⟩
end
structure fV where
 t:Nat
 d:Nat
 l:Nat
 ps:List (Str×Str)
noncomputable def hdA (l:Nat):List (Str×AV):=[(S "_headers", .obj l)]
noncomputable def fQ (p:Str×Str):AV:=.tup [.str p.1,.str p.2]
structure HdR (σ:List AO)(H:fV):Prop where
 ht:σ[H.t]?=some (.inst gP H.d)
 hd:σ[H.d]?=some (.attrs (hdA H.l))
 hl:σ[H.l]?=some (.list (H.ps.map fQ))
theorem ztu {l:Nat}:(hdA l).lookup (S "_headers")=some (.obj l):=by rfl
theorem ztw {l:Nat}:(hdA l).lookup (S "_convert_string_type")=none:=by rfl
theorem zlu {l:Nat}:(hdA l).lookup (S "items")=none:=by rfl
theorem zom:patL.contains pNM=true:=by rfl
theorem zla:patL.contains pVL=true:=by rfl
section
variable {θ:Nat→Option AV}{σ σ':List AO}{Q:AV→St→Prop}{H:fV}{x y:Str}
theorem zdm {x:Str}(hl:x.length≤2^20)(hq:Q (.str (Txt.lower x)) ⟨θ,σ⟩):wp (ztb [.str x]) ⟨θ,σ⟩ Q:=cH (if_pos hl) hq
theorem ze7 {x:Str}(hl:x.length≤2^20)(hq:Q (.str (Txt.upper x)) ⟨θ,σ⟩):wp (zrz [.str x]) ⟨θ,σ⟩ Q:=cH (if_pos hl) hq
theorem zug {k:Nat}(hx:PyData.strOk x=true):(gr σ k (.str x)).bind (λd=>if shaped d=true then some d else none)=some (.str x):=by
 have:gr σ k (.str x)=some (.str x):=by cases k<;>rfl
 refine aw this ?_
 show(if shaped (.str x)=true then some _ else none)=_
 rw[if_pos]
 unfold shaped PyData.canLay0 PyData.depth
 refine aw hx ?_
 rfl
theorem zz8 (hx:PyData.strOk x=true)(hy:PyData.strOk y=true)(hq:Q (.bool (x==y)) ⟨θ,σ⟩):wp (cmpB .Eq (.str x) (.str y)) ⟨θ,σ⟩ Q :=
 cH (a:=.bool (PyData.eqv (.str x) (.str y))) (by
  show orK (cmpK .Eq (.str x) (.str y)) (cmpD .Eq (.str x) (.str y)) ⟨θ,σ⟩=_
  refine i0 rfl ?_
  show((ff σ (.str x)).bind _).map _=_
  exact fJ (c8 (zug hx) (fJ (zug hy)))) hq
theorem iq:zi0 (.str x) ⟨θ,σ⟩:=⟨x,rfl⟩
theorem HdR.keep (h:HdR σ H)(hk:∀i o,(i=H.t∨i=H.d∨i=H.l)→σ[i]?=some o→σ'[i]?=some o):HdR σ' H :=
 ⟨hk _ _ (.inl rfl) h.ht,hk _ _ (.inr (.inl rfl)) h.hd,hk _ _ (.inr (.inr rfl)) h.hl⟩
theorem HdR.push (h:HdR σ H)(o:AO):HdR (σ++[o]) H:=h.keep λu1 u2 u3 e=>b6 e
theorem zej {a:AV}{b:Bool}{Q:AV→List AO→Prop}(hp:gO x=true)(hs:x.cps.size<2^62)(hq:Q (.str x) σ):dO (zb0 [a,.str x] [(S "name", .bool b)] σ) Q:=by
 refine fx (l:=[some a,some (.str x),some (.bool b),none,none,none,none,none,none,none,none]) 11 (by rfl) (by rfl) (by rfl) (by rfl) (gu ?_)
 repeat walk_at "w"
 refine cH (a:=.val (.type "str")) rfl ?_
 repeat walk_at "w"
 refine cH (a:=.bool true) rfl (eK ?_)
 walk_at "t"
 repeat walk_at "w"
 refine eK ?_
 have go:∀(p:Nat),patL.contains p=true→∀Q':AV→St→Prop,Q' .none ⟨th [some a,some (.str x),some (.bool b),some (.val (.ref p)),none,none,none,none,none,none,none],σ⟩ →
   wp (zm9 patL [.val (.ref p),.str x]) ⟨th [some a,some (.str x),some (.bool b),some (.val (.ref p)),none,none,none,none,none,none,none],σ⟩ Q':=λp hpp Q' hq'=>cH (if_pos ⟨hpp,hp,hs⟩) hq'
 cases b with
 |true =>
  walk_at "t"
  repeat walk_at "w"
  refine dv ⟨pNM,rfl,zom⟩ ?_
  repeat walk_at "w"
  refine go pNM zom _ ?_
  refine cH (a:=false) rfl ?_
  walk_at "f"
  repeat walk_at "w"
  exact hq
 |false =>
  walk_at "f"
  repeat walk_at "w"
  refine dv ⟨pVL,rfl,zla⟩ ?_
  repeat walk_at "w"
  refine go pVL zla _ ?_
  refine cH (a:=false) rfl ?_
  walk_at "f"
  repeat walk_at "w"
  exact hq
inductive HdP (σ:List AO)(t d l:Nat)(ps:List (Str×Str))(x:AV)(S:List Nat)(v:AV)(σ':List AO):Prop
 |mk (e:v=x) (h:HdR σ' ⟨t,d,l,ps⟩) (F:Frm σ σ' S):HdP σ t d l ps x S v σ'
theorem z1i:dO (F_Hd [] [] σ) (HdP σ (σ.length+1) σ.length (σ.length+2) [] (.obj (σ.length+1)) []):=by
 have e0:σ++[AO.attrs [],.inst gP σ.length]=σ++[.attrs []]++[.inst gP σ.length]:=by simp
 have e1:(σ++[AO.attrs []]).length=σ.length+1:=by simp
 have e2:(σ++[AO.attrs []]++[AO.inst gP σ.length]).length=σ.length+2:=by simp
 have g0:(σ++[AO.attrs []])[σ.length]?=some (.attrs []):=cR
 have g1:(σ++[AO.attrs []]++[AO.inst gP σ.length])[σ.length+1]?=some (.inst gP σ.length):=e1▸cR
 have g2:(σ++[AO.attrs []]++[AO.inst gP σ.length]++[AO.list []])[σ.length+2]?=some (.list []):=e2▸cR
 refine zku (fx (l:=[some (.obj (σ.length+1)),some .none,none,none,none,none,none,none]) 8 (by rfl) (by rfl) (by rfl) (by rfl) (gu ?_))
 refine aw e0 ?_
 repeat walk_at "w"
 refine zg2 (b:=true) rfl (eK ?_)
 first|with_reducible refine zrs ?_|with_reducible refine zjp ?_|refine aw (if_neg (by decide)) ?_
 repeat walk_at "w"
 refine gj (by decide) ?_
 refine aw e2 ?_
 repeat walk_at "w"
 refine cH (a:=.val (.type "list")) (by show(d7 _ _).map _=_;exact fJ (eR g2)) ?_
 repeat walk_at "w"
 refine cH (a:=.bool false) rfl (eK ?_)
 walk_at "f"
 repeat walk_at "w"
 refine i8 (b6 g1) (b6 (b6 g0)) z2u (by decide) ?_
 have R:HdR ((σ++[AO.attrs []]++[AO.inst gP σ.length]++[AO.list []]).set σ.length (.attrs (putA (S "_headers") (.obj (σ.length+2)) []))) ⟨σ.length+1,σ.length,σ.length+2,[]⟩ :=
  ⟨show _[σ.length+1]?=_ from ck (b6 g1) (by exact aL (aQ _)),eU (b6 (b6 g0)),show _[σ.length+2]?=_ from ck g2 (by lia)⟩
 repeat walk_at "w"
 refine eK ?_
 walk_at "t"
 repeat walk_at "w"
 refine gW R.hl ?_
 refine ib (λu1 r st=>r=[]∧st.σ=(σ++[AO.attrs []]++[AO.inst gP σ.length]++[AO.list []]).set σ.length (.attrs (putA (S "_headers") (.obj (σ.length+2)) []))) ⟨rfl,rfl⟩ (λd a r st u1 h=>nomatch h.1) ?_
 rintro⟨θ,σ1⟩ ⟨-,rfl⟩
 refine⟨fS R.hl,?_⟩
 repeat walk_at "w"
 exact⟨rfl,rfl,R,⟨by simp<;>lia,λi o u1 e=>ck (b6 (b6 (b6 e))) λq=>by have:=ek e;lia⟩⟩
end
section
variable {θ:Nat→Option AV}{σ σ':List AO}{Q:AV→St→Prop}{H:fV}{x y:Str}
theorem zjs {α:Type}(l:List α){lo hi:Option Int}{a b:Nat}(e:sliceBounds lo hi none l.length=((a:Int),(b:Int),1)):gS l lo hi none=(l.drop a).take (b-a):=by
 unfold gS
 refine aw e ?_
 dsimp only
 rw[sliceRange_one]
 have:=pick_run l.toArray a (b-a)
 simpa using this
theorem zn1 {o:Nat}{vs ws:List AV}{lo hi:Option Int}(h:σ[o]?=some (.list vs))(hl:vs.length<2^20)(e:gS vs lo hi none=ws)(hw:ws.length<2^20)(hq:Q (.obj σ.length) ⟨θ,σ++[.list ws]⟩):wp (zog (.obj o) lo hi none) ⟨θ,σ⟩ Q :=
 cH ((if_neg (by nofun)).trans (by show(d7 σ o).bind _=_;exact c8 (eR h) ((if_pos hl).trans (by rw[e];exact zhm hw)))) hq
theorem zmi {vs ws:List AV}{lo hi:Option Int}(hl:vs.length<2^20)(e:gS vs lo hi none=ws)(hw:ws.length<2^20)(hq:Q (.obj σ.length) ⟨θ,σ++[.list ws]⟩):wp (zog (.lst vs) lo hi none) ⟨θ,σ⟩ Q :=
 cH ((if_neg (by nofun)).trans ((if_pos hl).trans (by rw[e];exact zhm hw))) hq
theorem ziz {Q:AV→List AO→Prop}(h:HdR σ H)(hn:H.ps.length<2^20)(hq:Q (.obj σ.length) (σ++[.list (H.ps.map fQ)])):dO (zi9 [.obj H.t] [] σ) Q:=by
 refine fx (l:=[some (.obj H.t)]) 1 (by rfl) (by rfl) (by rfl) (by rfl) ?_
 unfold D_Hd_items
 repeat walk_at "w"
 refine fB h.ht h.hd zui ztu rfl ?_
 repeat walk_at "w"
 have e:gS (H.ps.map fQ) none none none=H.ps.map fQ:=by
  rw[zjs (a:=0) (b:=(H.ps.map fQ).length) _ (by simp[sliceBounds])]
  rw[List.drop_zero,Nat.sub_zero,List.take_length]
 refine zn1 h.hl (by rw[ae];exact hn) e (by rw[ae];exact hn) ?_
 repeat walk_at "w"
 exact hq
noncomputable def ts0 (n:Nat):TsD:={ s:=n+1,d:=n,m:=n+2,ep:=0,L:=[],np:=λu1=>0,su:=λu1=>[],r:=.none,po:=0,nf:=0,cnt:=0 }
inductive TsP (σ:List AO)(v:AV)(σ':List AO):Prop
 |mk (e:v=.obj (σ.length+1)) (h:TsR σ' (ts0 σ.length)) (F:Frm σ σ' []):TsP σ v σ'
theorem z0j:dO (F_Ts [] [] σ) (TsP σ):=by
 have e0:σ++[AO.attrs [],.inst gq σ.length]=σ++[.attrs []]++[.inst gq σ.length]:=by simp
 have e1:(σ++[AO.attrs []]).length=σ.length+1:=by simp
 have e2:(σ++[AO.attrs []]++[AO.inst gq σ.length]).length=σ.length+2:=by simp
 have g0:(σ++[AO.attrs []])[σ.length]?=some (.attrs []):=cR
 have g1:(σ++[AO.attrs []]++[AO.inst gq σ.length])[σ.length+1]?=some (.inst gq σ.length):=e1▸cR
 have g2:(σ++[AO.attrs []]++[AO.inst gq σ.length]++[AO.dict [] 0])[σ.length+2]?=some (.dict [] 0):=e2▸cR
 refine zku (fx (l:=[some (.obj (σ.length+1)),some .none,none,none]) 4 (by rfl) (by rfl) (by rfl) (by rfl) ?_)
 unfold D_Ts_init
 refine aw e0 ?_
 have put {fs fs':List (Str×AV)} {τ:List AO} (h0:τ[σ.length]?=some (.attrs fs)) (h1:τ[σ.length+1]?=some (.inst gq σ.length)):(τ.set σ.length (.attrs fs'))[σ.length]?=some (.attrs fs')∧(τ.set σ.length (.attrs fs'))[σ.length+1]?=some (.inst gq σ.length):=⟨eU h0,ck h1 (by exact aL (aQ _))⟩
 repeat walk_at "w"
 refine zrj ?_
 refine aw e2 ?_
 repeat walk_at "w"
 refine i8 (b6 g1) (b6 (b6 g0)) z1u (by decide) ?_
 (refine x0a2 (put (fs':=putA (S "_node2info") (.obj (σ.length+2)) []) (b6 (o:=AO.dict [] 0) (b6 g0)) (b6 g1)) λa0 a1=>?_)
 repeat walk_at "w"
 refine i8 a1 a0 zw9 (show 1<900 by decide) ?_
 (refine x0a2 (put (fs':=putA (S "_ready_nodes") .none (putA (S "_node2info") (.obj (σ.length+2)) [])) a0 a1) λa2 a3=>?_)
 repeat walk_at "w"
 refine i8 a3 a2 z1s (show 2<900 by decide) ?_
 (refine x0a2 (put (fs':=putA (S "_npassedout") (.int 0) (putA (S "_ready_nodes") .none (putA (S "_node2info") (.obj (σ.length+2)) []))) a2 a3) λa4 a5=>?_)
 repeat walk_at "w"
 refine i8 a5 a4 z1t (show 3<900 by decide) ?_
 rw[bL,bL,bL]
 have ef:putA (S "_nfinished") (.int 0) (putA (S "_npassedout") (.int 0) (putA (S "_ready_nodes") .none (putA (S "_node2info") (.obj (σ.length+2)) [])))=fC (.obj (σ.length+2)) .none 0 0:=by rfl
 refine aw ef ?_
 repeat walk_at "w"
 refine zg2 (b:=true) rfl (eK ?_)
 first|with_reducible refine zrs ?_|with_reducible refine zjp ?_|refine aw (if_neg (by decide)) ?_
 repeat walk_at "w"
 (refine x0a2 (put (fs':=fC (.obj (σ.length+2)) .none 0 0) (b6 (o:=AO.dict [] 0) (b6 g0)) (b6 g1)) λb0 b1=>?_)
 refine⟨rfl,rfl,⟨b1,b0,show _[σ.length+2]?=_ from ck g2 (by lia),by nofun,by nofun,bR,by nofun,λu1 u2=>⟨rfl,rfl⟩,λu1=>aB _,aB _⟩,⟨by simp<;>lia,λi o u1 e=>ck (b6 (b6 (b6 e))) λq=>by have:=ek e;lia⟩⟩
end
section
variable {θ:Nat→Option AV}{σ σ':List AO}{Q:AV→St→Prop}{H:fV}{x y:Str}
structure HdOk (H:fV):Prop where
 len:H.ps.length<2^18
 key:∀p∈H.ps,p.1.length≤2^20∧PyData.strOk (Txt.lower p.1)=true
structure NmOk (x:Str):Prop where
 len:x.length≤2^20
 low:gO (Txt.lower x)=true
 size:(Txt.lower x).cps.size<2^62
 ok:PyData.strOk (Txt.lower x)=true
inductive GeI (σ:List AO)(H:fV)(x:Str)(d0 r:List AV)(st:St):Prop
 |mk (p1 p2:List (Str×Str)) (l1 l2:Option AV) (e1:p1++p2=H.ps) (e2:r=p2.map fQ) (e3:∀p∈p1,(Txt.lower p.1==Txt.lower x)=false) (e4:st=⟨th [some (.obj H.t),some (.str (Txt.lower x)),some .none,l1,l2],σ⟩):GeI σ H x d0 r st
noncomputable def getH (ps:List (Str×Str))(x:Str):Option Str:=(ps.find? λp=>Txt.lower p.1==Txt.lower x).map (λx=>x.2)
noncomputable def strN (o:Option Str):AV:=match o with|some v=>.str v|none=>.none
theorem zox {Q:AV→List AO→Prop}(h:HdR σ H)(hk:HdOk H)(hx:NmOk x)(hq:Q (strN (getH H.ps x)) σ):dO (zpj [.obj H.t,.str x] [] σ) Q:=by
 refine fx (l:=[some (.obj H.t),some (.str x),some .none,none,none]) 5 (by rfl) (by rfl) (by rfl) (by rfl) ?_
 unfold D_Hd_get
 repeat walk_at "w"
 refine dv (gm h.ht h.hd ztw) ?_
 repeat walk_at "w"
 refine dv iq ?_
 repeat walk_at "w"
 refine zdm hx.len ?_
 repeat walk_at "w"
 refine zjd (zej hx.low hx.size ?_)
 repeat walk_at "w"
 refine fB h.ht h.hd zui ztu rfl ?_
 refine gW h.hl ?_
 dsimp only
 refine ib (GeI σ H x) ⟨[],H.ps,none,none,rfl,rfl,(λu1 h=>nomatch h),rfl⟩ ?_ ?_
 ·rintro d a r _-⟨p1,p2,l1,l2,hpp,hr,hn,rfl⟩
  cases p2 with
  |nil=>cases hr
  |cons p p2 =>
   rw[aN,bY]at hr
   obtain⟨rfl,rfl⟩:=hr
   obtain⟨h1,h2⟩:=hk.key p (by rw[←hpp];simp)
   refine⟨fS h.hl,?_⟩
   refine zg0 ?_
   dsimp only[ass1,ass0]
   repeat walk_at "w"
   refine dv iq ?_
   repeat walk_at "w"
   refine zdm h1 ?_
   repeat walk_at "w"
   refine zz8 h2 hx.ok (eK ?_)
   cases he:Txt.lower p.1==Txt.lower x with
   |true =>
    walk_at "t"
    repeat walk_at "w"
    have:getH H.ps x=some p.2:=by
     unfold getH
     rw[←hpp,List.find?_append,cI.mpr (λq hq=>by rw[hn q hq];decide),Option.none_or,List.find?_cons_of_pos (by simpa using he)]
     rfl
    rw[this]at hq
    exact hq
   |false =>
    walk_at "f"
    repeat walk_at "w"
    refine⟨p1++[p],p2,some (.str p.1),some (.str p.2),by rw[bf];exact hpp,rfl,λq hq=>?_,rfl⟩
    rcases aD.mp hq with hq|hq
    ·exact hn q hq
    ·rw[ac.mp hq];exact he
 ·rintro _ ⟨p1,p2,l1,l2,hpp,hr,hn,rfl⟩
  have:p2=[]:=by cases p2 with|nil=>rfl|cons _ _=>cases hr
  subst this
  rw[bi]at hpp
  subst hpp
  refine⟨fS h.hl,?_⟩
  repeat walk_at "w"
  have:getH H.ps x=none:=by
   unfold getH
   rw[cI.mpr (λq hq=>by rw[hn q hq];decide)]
   rfl
  rw[this]at hq
  exact hq
end
theorem zoh {σ:List AO}{h:Nat}{o:AO}(e:σ[h]?=some o):σ.set h o=σ:=by
 (refine x1a1 (ap.mp e) λhl z1=>?_;subst z1)
 exact List.set_getElem_self hl
theorem zye (p:Nat)(hp:0<p):((p:Int)-1).fdiv (2^(1:Int).toNat)=((p-1)/2:Nat):=by
 refine aw (Int.fdiv_eq_ediv_of_nonneg _ (by decide)) ?_
 show((p:Int)-1)/2=_
 lia
inductive HpP {α:Type}(em:α→AV)(lt:α→α→Bool)(σ:List AO)(h:Nat)(xs:List α)(r:AV)(σ':List AO):Prop
 |mk (e:r=.none) (ys:List α) (e2:σ'=σ.set h (.list (ys.map em))) (hp:ys.Perm xs) (hh:Heaped lt λi=>ys[i]?):HpP em lt σ h xs r σ'
inductive HqP {α:Type}(em:α→AV)(lt:α→α→Bool)(σ:List AO)(h:Nat)(xs:List α)(r:AV)(σ':List AO):Prop
 |mk (m:α) (ys:List α) (e:r=em m) (e2:σ'=σ.set h (.list (ys.map em))) (hp:(m::ys).Perm xs) (hm:∀y∈ys,lt y m=false) (hh:Heaped lt λi=>ys[i]?):HqP em lt σ h xs r σ'
structure HOrd {α:Type}(em:α→AV)(lt:α→α→Bool)(σ:List AO)(h:Nat):Prop where
 ord:Order lt
 cmp:∀a b θ ys (Q:AV→St→Prop),Q (.bool (lt a b)) ⟨θ,σ.set h (.list ys)⟩→wp (cmpB .Lt (em a) (em b)) ⟨θ,σ.set h (.list ys)⟩ Q
theorem HOrd.set {α:Type}{em:α→AV}{lt:α→α→Bool}{σ:List AO}{h:Nat}(ho:HOrd em lt σ h)(x:AO):HOrd em lt (σ.set h x) h :=
 ⟨ho.ord,λa b θ ys Q hq=>by rw[bL]at hq ⊢;exact ho.cmp a b θ ys Q hq⟩
inductive SdI {α:Type}(em:α→AV)(lt:α→α→Bool)(h:Nat)(σ:List AO)(xs:List α)(x:α)(n:Nat)(st:St):Prop
 |mk (ys:List α) (p:Nat) (l4 l5:Option AV) (e1:n=p) (e2:st=⟨th [some (.obj h),some (.int 0),some (.int p),some (em x),l4,l5],σ.set h (.list (ys.map em))⟩)
  (h1:p<ys.length) (h2:ys.length=xs.length) (h3:(ys.set p x).Perm xs) (h4:Down lt (λi=>(ys.set p x)[i]?) p):SdI em lt h σ xs x n st
inductive SuI {α:Type}(em:α→AV)(lt:α→α→Bool)(h:Nat)(σ:List AO)(xs:List α)(x:α)(n:Nat)(st:St):Prop
 |mk (ys:List α) (p:Nat) (l6:Option AV) (e1:n=xs.length-p) (e2:st=⟨th [some (.obj h),some (.int p),some (.int xs.length),some (.int 0),some (em x),some (.int (2*p+1)),l6,none,none],σ.set h (.list (ys.map em))⟩)
  (h1:p<ys.length) (h2:ys.length=xs.length) (h3:(ys.set p x).Perm xs) (h4:Up lt (λi=>(ys.set p x)[i]?) p):SuI em lt h σ xs x n st
inductive ScI {α:Type}(em:α→AV)(lt:α→α→Bool)(h:Nat)(σ:List AO)(xs:List α)(x:α)(ys:List α)(p:Nat)(st:St):Prop
 |mk (c:Nat) (y:α) (l6:Option AV) (e:st=⟨th [some (.obj h),some (.int p),some (.int xs.length),some (.int 0),some (em x),some (.int c),l6,none,none],σ.set h (.list (ys.map em))⟩)
  (h1:Par p c) (h2:ys[c]?=some y) (h3:∀s z,Par p s→ys[s]?=some z→lt z y=false):ScI em lt h σ xs x ys p st
section
variable {α:Type}{em:α→AV}{lt:α→α→Bool}{h:Nat}{σ:List AO}{xs:List α}{x:α}
theorem ziy {p:Nat}(e:xs[p]?=some x):(xs.map em)[p]?=some (em x):=by refine aw (aK) (aw e ?_);rfl
theorem zfm (ho:HOrd em lt σ h){p:Nat}(hσ:σ[h]?=some (.list (xs.map em)))(hx:xs[p]?=some x)(hlen:xs.length<2^20)(hd:Down lt (λi=>xs[i]?) p) :
  dO (zi8 [.obj h,.int 0,.int p] [] σ) (HpP em lt σ h xs):=by
 have hp:=(ap.mp hx).1
 have hself:xs.set p x=xs:=by
  (refine x1a1 (ap.mp hx) λh1 z1=>?_;subst z1)
  exact List.set_getElem_self h1
 refine gU λQ hQ=>?_
 refine fx (l:=[some (.obj h),some (.int 0),some (.int p),none,none,none]) 6 (by rfl) (by rfl) (by rfl) (by rfl) (gu ?_)
 repeat walk_at "w"
 refine eM hσ (ii (ziy hx) (by lia)) ?_
 repeat walk_at "w"
 refine zdl (SdI em lt h σ xs x) p ⟨xs,p,none,none,rfl,by rw[zoh hσ];rfl,hp,rfl,?_,?_⟩ ?_
 ·rw[hself]
 ·rw[hself];exact hd
 rintro n _ ⟨ys,p,l4,l5,rfl,rfl,hp,hys,hperm,hdn⟩
 have fin:(∀q,Par q n→Edge lt (λi=>(ys.set n x)[i]?) q n)→∀l4 l5,wp (zdu (.obj h) (.int n) (em x)) ⟨th [some (.obj h),some (.int 0),some (.int n),some (em x),l4,l5],σ.set h (.list (ys.map em))⟩ λu1 st'=>wp (K.ret .next) st' (zmx (K.ret .next)
   λfl st'=>Q (retOf fl) st'.σ):=λhq l4 l5=>by
  refine zcb (eU hσ) (by simp<;>lia) ?_
  repeat walk_at "w"
  refine hQ _ _ ⟨rfl,ys.set n x,?_,hperm,hdn.heap hq⟩
  dsimp only
  rw[bL,ay,fy]
 repeat walk_at "w"
 refine zz7 (eK ?_)
 by_cases h0:(0:Int)<(n:Int)
 ·rw[decide_eq_true h0,if_pos rfl]
  have hn:0<n:=by exact aX.mp (by assumption)
  have hq:Par ((n-1)/2) n:=.up hn
  have hql:=hq.less
  have hy:=an (show(n-1)/2<ys.length by exact a9 (by assumption) (by assumption))
  repeat walk_at "w"
  refine zmh ?_
  repeat walk_at "w"
  refine zz0 (by decide) ?_
  rw[zye n hn]
  repeat walk_at "w"
  refine eM (eU hσ) (ii (ziy hy) (by lia)) ?_
  repeat walk_at "w"
  refine ho.cmp _ _ _ _ _ (eK ?_)
  generalize hyy:ys[(n-1)/2]=y at *
  have hxn:(λi=>(ys.set n x)[i]?) n=some x:=aJ hp
  have hyn:(λi=>(ys.set n x)[i]?) ((n-1)/2)=some y:=(bW (by exact bE (by assumption))).trans hy
  refine ze8 (λhl=>?_) λhl=>?_
  ·repeat walk_at "w"
   refine zcb (eU hσ) (by simp<;>lia) ?_
   repeat walk_at "w"
   refine⟨(n-1)/2,hql,ys.set n y,(n-1)/2,some (.int ((n-1)/2:Nat)),some (em y),rfl,?_,by simp<;>exact a9 (by assumption) (by assumption),by simpa using hys,(zlg hp (aL hql) hy).trans hperm,?_⟩
   ·rw[bL,ay,fy];rfl
   ·rw[zs7 hp (aL hql) hy]
    exact hdn.step ho.ord hq hxn hyn hl
  ·repeat walk_at "w"
   refine fin (λq hq'=>?_) _ _
   rw[hq'.inj hq]
   intro u v hu hv
   rw[hyn]at hu;rw[hxn]at hv;obtain rfl:=sj hu;obtain rfl:=sj hv
   exact hl
 ·rw[decide_eq_false h0,if_neg (by decide)]
  repeat walk_at "w"
  exact fin (λq hq=>by have:=hq.less;lia) _ _
theorem zm2 (ho:HOrd em lt σ h)(hσ:σ[h]?=some (.list (xs.map em)))(hx:xs[0]?=some x)(hlen:xs.length<2^20)(hd:Up lt (λi=>xs[i]?) 0) :
  dO (zph [.obj h,.int 0] [] σ) (HpP em lt σ h xs):=by
 have hp:=(ap.mp hx).1
 have hself:xs.set 0 x=xs:=by
  (refine x1a1 (ap.mp hx) λh1 z1=>?_;subst z1)
  exact List.set_getElem_self h1
 refine gU λQ hQ=>?_
 refine fx (l:=[some (.obj h),some (.int 0),none,none,none,none,none,none,none]) 9 (by rfl) (by rfl) (by rfl) (by rfl) (gu ?_)
 repeat walk_at "w"
 refine zkq hσ (by simp<;>lia) ?_
 repeat walk_at "w"
 refine eM hσ (ii (k:=0) (ziy hx) (by lia)) ?_
 repeat walk_at "w"
 refine zrm (by decide) ?_
 repeat walk_at "w"
 refine zn3 ?_
 repeat walk_at "w"
 rw[ae]
 refine zdl (SuI em lt h σ xs x) xs.length ⟨xs,0,none,rfl,by rw[zoh hσ];rfl,hp,rfl,?_,?_⟩ ?_
 ·rw[hself]
 ·rw[hself];exact hd
 rintro n _ ⟨ys,p,l6,rfl,rfl,hp,hys,hperm,hup⟩
 repeat walk_at "w"
 refine zu0 (eK ?_)
 by_cases h0:(2*(p:Int)+1)<(xs.length:Int)
 ·rw[decide_eq_true h0,if_pos rfl]
  repeat walk_at "w"
  refine zn3 ?_
  repeat walk_at "w1"
  have hc:=an (show 2*p+1<ys.length by lia)
  generalize hy1:ys[2*p+1]=y1 at hc
  refine zwl (ScI em lt h σ xs x ys p) ?_ ?_
  ·have irr:∀y,lt y y=false:=λy=>by
    cases e:lt y y with
    |false=>rfl
    |true=>exact absurd (ho.ord.asymm e) (by rw[e];decide)
   repeat walk_at "w"
   refine zu0 (eK ?_)
   by_cases h1:(2*(p:Int)+1+1)<(xs.length:Int)
   ·rw[decide_eq_true h1,if_pos rfl]
    have hd':=an (show 2*p+2<ys.length by lia)
    generalize hy2:ys[2*p+2]=y2 at hd'
    repeat walk_at "w"
    refine eM (eU hσ) (ii (k:=2*p+1) (ziy hc) (by lia)) ?_
    repeat walk_at "w"
    refine eM (eU hσ) (ii (k:=2*p+2) (ziy hd') (by lia)) ?_
    repeat walk_at "w"
    refine ho.cmp _ _ _ _ _ (eK ?_)
    repeat walk_at "w"
    cases hl:lt y1 y2 with
    |true =>
     rw[if_neg (by decide)]
     repeat walk_at "w"
     walk_at "f"
     repeat walk_at "w"
     refine⟨rfl,2*p+1,y1,_,rfl,.inl rfl,hc,λs z hs hz=>?_⟩
     rcases hs with rfl|rfl
     ·rw[hc]at hz;obtain rfl:=sj hz;exact irr _
     ·rw[hd']at hz;obtain rfl:=sj hz;exact ho.ord.asymm hl
    |false =>
     rw[if_pos (by decide)]
     repeat walk_at "w"
     rw[if_pos (by decide)]
     repeat walk_at "w"
     refine⟨rfl,2*p+2,y2,_,rfl,.inr rfl,hd',λs z hs hz=>?_⟩
     rcases hs with rfl|rfl
     ·rw[hc]at hz;obtain rfl:=sj hz;exact hl
     ·rw[hd']at hz;obtain rfl:=sj hz;exact irr _
   ·rw[decide_eq_false h1,if_neg (by decide)]
    repeat walk_at "w"
    walk_at "f"
    repeat walk_at "w"
    refine⟨rfl,2*p+1,y1,_,rfl,.inl rfl,hc,λs z hs hz=>?_⟩
    rcases hs with rfl|rfl
    ·rw[hc]at hz;obtain rfl:=sj hz;exact irr _
    ·rw[bB (by lia)]at hz;exact ns hz
  ·rintro _ ⟨c,y,l6,rfl,hpc,hy,hm⟩
   have hcl:=(ap.mp hy).1
   have hlt:=hpc.less
   have hyn:(λi=>(ys.set p x)[i]?) c=some y:=(bW (by lia)).trans hy
   repeat walk_at "w"
   refine eM (eU hσ) (ii (ziy hy) (by lia)) ?_
   repeat walk_at "w"
   refine zcb (eU hσ) (by simp<;>exact la22 hlen hp hys) ?_
   repeat walk_at "w"
   refine zrm (by decide) ?_
   repeat walk_at "w"
   refine zn3 ?_
   repeat walk_at "w"
   refine⟨xs.length-c,by exact la35 hp hys hlt,ys.set p y,c,l6,rfl,?_,by simp<;>exact z08 hcl,by simpa using hys,(zlg hp (bE hlt) hy).trans hperm,?_⟩
   ·rw[bL,ay,fy];rfl
   ·rw[zs7 hp (bE hlt) hy]
    refine hup.step ho.ord hpc hyn λs z hs hz=>hm s z hs ?_
    have:=hs.less
    exact(bW (by lia)).symm.trans hz
 ·rw[decide_eq_false h0,if_neg (by decide)]
  repeat walk_at "w"
  refine zcb (eU hσ) (by simp<;>exact la22 hlen hp hys) ?_
  repeat walk_at "w"
  refine fh ?_
  rw[bL,ay,←fy]
  have hdn:=hup.down λc hc=>by
   have:2*p+1≤c:=by rcases hc with h|h<;>lia
   exact bB (by simp<;>lia)
  refine fP (zfm (ho.set _) (eU hσ) (aJ hp) (by simp<;>lia) hdn) λr σ' hh=>?_
  obtain⟨rfl,zs,rfl,hz1,hz2⟩:=hh
  repeat walk_at "w"
  exact hQ _ _ ⟨rfl,zs,by dsimp only;rw[bL],hz1.trans hperm,hz2⟩
theorem zj0 (ho:HOrd em lt σ h)(hσ:σ[h]?=some (.list (xs.map em)))(hlen:xs.length<2^18)(hh:Heaped lt λi=>xs[i]?) :
  dO (zgf [.obj h,em x] [] σ) (HpP em lt σ h (x::xs)):=by
 refine gU λQ hQ=>?_
 refine fx (l:=[some (.obj h),some (em x),none,none]) 4 (by rfl) (by rfl) (by rfl) (by rfl) (gu ?_)
 repeat walk_at "w"
 refine dv (gw hσ) ?_
 repeat walk_at "w"
 refine ie hσ (by simp<;>exact ag (by assumption) (by decide)) ?_
 repeat walk_at "w"
 refine zkq (eU hσ) (by simp<;>exact ak (by assumption) (by decide)) ?_
 repeat walk_at "w"
 refine zmh ?_
 repeat walk_at "w"
 refine fh ?_
 have e:(((xs.map em++[em x]).length:Nat):Int)-1=(xs.length:Nat):=by simp<;>lia
 have e2:xs.map em++[em x]=(xs++[x]).map em:=by simp
 refine aw e (aw e2 ?_)
 have hd:Down lt (λi=>(xs++[x])[i]?) xs.length:=by
  refine⟨λi j hp hj u v hu hv=>?_,λq c hq hc u v hu hv=>?_⟩
  ·have hjl:=(ap.mp hv).1
   have:=hp.less
   simp at hjl
   rw[bd (by lia)]at hu hv
   exact hh i j hp _ _ hu hv
  ·have hcl:=(ap.mp hv).1
   have:=hc.less
   simp at hcl
   exact absurd (by assumption) (bl.mpr (by assumption))
 refine fP (zfm (ho.set _) (eU hσ) (x:=x) (by simp) (by simp<;>exact ak (by assumption) (by decide)) hd) λr σ' hh=>?_
 obtain⟨rfl,zs,rfl,hz1,hz2⟩:=hh
 repeat walk_at "w"
 exact hQ _ _ ⟨rfl,zs,by dsimp only;rw[bL],hz1.trans (List.perm_append_singleton x xs),hz2⟩
theorem zls (ho:HOrd em lt σ h)(hσ:σ[h]?=some (.list (xs.map em)))(hlen:xs.length<2^18)(hne:xs≠[])(hh:Heaped lt λi=>xs[i]?) :
  dO (zh7 [.obj h] [] σ) (HqP em lt σ h xs):=by
 (refine x2a1 (⟨xs.dropLast,xs.getLast hne,(List.dropLast_concat_getLast hne).symm⟩:∃zs z,xs=zs++[z]) λzs z z2=>?_;subst z2)
 have hzl:zs.length<2^18:=by simp at hlen;exact bG (by assumption)
 have hz:Heaped lt λi=>zs[i]?:=λi j hp u v hu hv=>by
  have h1:=(ap.mp hu).1
  have h2:=(ap.mp hv).1
  exact hh i j hp u v ((bd h1).trans hu) ((bd h2).trans hv)
 refine gU λQ hQ=>?_
 refine fx (l:=[some (.obj h),none,none,none]) 4 (by rfl) (by rfl) (by rfl) (by rfl) (gu ?_)
 repeat walk_at "w"
 refine dv (gw hσ) ?_
 repeat walk_at "w"
 refine zrg (x:=em z) hσ (by simp<;>exact ak (by assumption) (by decide)) (by simp) ?_
 repeat walk_at "w"
 have e:((zs++[z]).map em).dropLast=zs.map em:=by simp
 refine aw e ?_
 refine zkn (eU hσ) (by simp<;>exact ag (by assumption) (by decide)) ?_
 cases zs with
 |nil =>
  refine aw (if_neg (by simp)) ?_
  repeat walk_at "w"
  exact hQ _ _ ⟨z,[],rfl,rfl,.refl _,by simp,λi j u1 u v hu=>by exact ns hu⟩
 |cons r zs =>
  refine aw (if_pos (by simp)) ?_
  repeat walk_at "w"
  refine eM (eU hσ) (ii (k:=0) (v:=em r) rfl (by exact aG _)) ?_
  repeat walk_at "w"
  refine zcb (eU hσ) (by simp<;>lia) ?_
  repeat walk_at "w"
  refine fh ?_
  have e3:((r::zs).map em).set (0:Int).toNat (em z)=(z::zs).map em:=rfl
  rw[bL,e3]
  have hu:Up lt (λi=>(z::zs)[i]?) 0:=by
   refine⟨λi j hp hi hj u v hu hv=>?_,λq c hq=>absurd hq.less (aW _)⟩
   cases i with
   |zero=>exact absurd rfl hi
   |succ i =>
    cases j with
    |zero=>exact absurd rfl hj
    |succ j=>exact hz _ _ hp u v hu hv
  have hl':(z::zs).length<2^20:=by simp at hzl ⊢;exact ag (by assumption) (by decide)
  refine fP (zm2 (ho.set _) (eU hσ) (x:=z) rfl hl' hu) λu1 σ' hh=>?_
  obtain⟨rfl,ws,rfl,hw1,hw2⟩:=hh
  repeat walk_at "w"
  refine hQ _ _ ⟨r,ws,rfl,by dsimp only;rw[bL],?_,λy hy=>?_,hw2⟩
  ·exact(List.Perm.cons r (hw1.trans (List.perm_append_singleton z zs).symm)).trans (.refl _)
  ·have:y∈r::zs++[z]:=by
    rcases au.mp (hw1.mem_iff.mp hy)with rfl|h'
    ·simp
    ·simp[h']
   (refine x1a1 (List.mem_iff_getElem?.mp this) λi hi=>?_)
   exact hh.root ho.ord (r:=r) rfl (i+1) i y (aQ i) hi
end
noncomputable abbrev DF:=Int×Nat×Nat
structure Dfs (σ σ':List AO)(T:TsD)(rk:Int→Nat)(fs:List DF)(S:Int→Bool)(cnt:Nat)(es:List (Int×AV))(ep:Nat):Prop where
 frm:Frm σ σ' []
 stk:σ'[σ.length]?=some (.list (fs.map λf=>AV.int f.1))
 its:σ'[σ.length+1]?=some (.list (fs.map λf=>AV.nxt f.2.1))
 seen:σ'[σ.length+2]?=some (.set S cnt)
 n2s:σ'[σ.length+3]?=some (.dict es ep)
 keys:es.map (λx=>x.1)=fs.map (λx=>x.1)
 it:∀f∈fs,∃x∈T.L,x.1=f.1∧σ'[f.2.1]?=some (.liter x.2.2 f.2.2)
 nd:∀f∈fs,∀g∈fs,f.2.1=g.2.1→f.1=g.1
 ge:∀f∈fs,σ.length≤f.2.1
 srt:fs.Pairwise λf g=>rk f.1<rk g.1
 sn:∀f∈fs,S f.1=true
noncomputable def gn (su:Int→List Int)(S:Int→Bool):List Int→Nat
 | []=>0
 |v::r=>(if S v=true then 0 else(su v).length+2)+gn su S r
noncomputable def i9 (su:Int→List Int):List DF→Nat
 | []=>0
 |f::r=>((su f.1).length-f.2.2+1)+i9 su r
noncomputable def zyt (n:Nat)(σ':List AO)(S1:Int→Bool)(c l:Nat)(its:List AV)(es1:List (Int×AV))(ep:Nat)(stk:List AV):List AO :=
 ((((σ'.set (n+2) (AO.set S1 c))++[AO.liter l 0]).set (n+1) (AO.list its)).set (n+3) (AO.dict es1 ep)).set n (AO.list stk)
noncomputable def popH (n:Nat)(σ':List AO)(i:Nat)(stk:List AV)(es1:List (Int×AV))(ep:Nat)(its:List AV):List AO :=
 (((σ'.set i .dead).set n (AO.list stk)).set (n+3) (AO.dict es1 ep)).set (n+1) (AO.list its)
noncomputable def nodS (S:Int→Bool)(v:Int):Int→Bool:=λx=>S x||decide (x=v)
section
variable {σ σ' σ'':List AO}{T:TsD}{rk:Int→Nat}{fs:List DF}{S:Int→Bool}{cnt ep:Nat}{es:List (Int×AV)}{v:Int}{x:Int×Nat×Nat}
theorem zzy {su:Int→List Int}(l:List Int):gn su (nodS S v) l≤gn su S l:=by
 induction l with
 |nil =>
  exact aB _
 |cons u r ih =>
  have:=ih
  unfold gn
  refine aw (show nodS S v u=(S u||decide (u=v))from rfl) ?_
  cases S u
  ·simp only[Bool.false_or,decide_eq_true_eq]
   split<;>simp<;>lia
  ·simpa using this
theorem zxe {su:Int→List Int}(hv:S v=false){l:List Int}:v∈l→gn su (nodS S v) l+((su v).length+2)≤gn su S l:=by
 induction l with
 |nil=>exact λh=>nomatch h
 |cons u r ih =>
  intro h
  by_cases e:u=v
  ·subst e
   have:=zzy (su:=su) (S:=S) (v:=u) r
   unfold gn
   rw[if_pos (by simp[nodS]),if_neg (by rw[hv];decide)]
   lia
  ·have:=ih ((au.mp h).resolve_left λq=>e q.symm)
   unfold gn
   have h1:nodS S v u=S u:=by unfold nodS;rw[decide_eq_false e,dY]
   rw[h1]
   lia
theorem zja (su:Int→List Int)(g:DF)(l:List DF):i9 su (l++[g])=i9 su l+((su g.1).length-g.2.2+1):=by
 induction l with
 |nil =>
  simp[i9]
 |cons f r ih =>
  refine aw List.cons_append ?_
  unfold i9
  refine aw ih ?_
  lia
theorem Frm.setN (f:Frm σ σ' []){i:Nat}(h:σ.length≤i)(o:AO):Frm σ (σ'.set i o) [] :=
 ⟨by refine aw cN ?_;exact f.len,λj p n e=>ck (f.same j p n e) λq=>by have:=ek e;lia⟩
theorem Frm.pushN (f:Frm σ σ' [])(o:AO):Frm σ (σ'++[o]) [] :=
 ⟨aI f.len (by simp),λj p n e=>b6 (f.same j p n e)⟩
theorem Frm.ts (f:Frm σ σ' [])(h:TsR σ T):TsR σ' T:=h.keep λi o u1 e=>f.same i o (by simp) e
theorem zuf {v:Int}{a:AV}(h:v∉es.map (λx=>x.1)):delD (es++[(v,a)]) v=es:=by
 unfold delD
 rw[List.filter_append]
 have:es.filter (λp=>decide (p.1≠v))=es:=List.filter_eq_self.mpr λp hp=>by
  have:p.1≠v:=λe=>h (e▸bA hp)
  simpa using this
 refine aw this ?_
 simp
theorem Dfs.push (D:Dfs σ σ' T rk fs S cnt es ep)(hx:x∈T.L)(hn:∀f∈fs,rk f.1<rk x.1)(a:AV)(c:Nat) :
  Dfs σ (zyt σ.length σ' (nodS S x.1) c x.2.2 ((fs.map λf=>AV.nxt f.2.1)++[AV.nxt σ'.length]) (es++[(x.1,a)]) (ep+1) ((fs.map λf=>AV.int f.1)++[AV.int x.1])) T rk (fs++[(x.1,σ'.length,0)]) (nodS S x.1) c (es++[(x.1,a)]) (ep+1):=by
 have h0:=ek D.stk
 have h1:=ek D.its
 have h2:=ek D.seen
 have h3:=ek D.n2s
 have old:∀(i:Nat) (o:AO),σ'[i]?=some o→i≠σ.length→i≠σ.length+1→i≠σ.length+2→i≠σ.length+3→(zyt σ.length σ' (nodS S x.1) c x.2.2 ((fs.map λf=>AV.nxt f.2.1)++[AV.nxt σ'.length]) (es++[(x.1,a)]) (ep+1) ((fs.map λf=>AV.int f.1)++[AV.int x.1]))[i]?=some o:=λi o e n0 n1 n2 n3 =>
  ck (ck (ck (b6 (ck e n2.symm)) n1.symm) n3.symm) n0.symm
 refine⟨(((D.frm.setN (by exact bN _ _) _).pushN _ |>.setN (by exact cV _) _).setN (by exact bN _ _) _).setN (by exact aB _) _,?_,?_,?_,?_,?_,λf hf=>?_,λf hf g hg e=>?_,λf hf=>?_,?_,λf hf=>?_⟩
 ·rw[aE]
  exact aJ (by simp;exact dh (by assumption))
 ·rw[aE]
  exact ck (ck (aJ (by simp;assumption)) (by lia)) (by exact aL (aQ _))
 ·exact ck (ck (ck (b6 (aJ (by assumption))) (by exact aL (aQ _))) (by exact ec _)) (by lia)
 ·exact ck (aJ (by simp;exact dh (by assumption))) (by lia)
 ·rw[aE,aE,D.keys];rfl
 ·refine cF (aD.mp hf) (λhf=>?_) λhf=>?_
  ·(refine x1a3 (D.it f hf) λy hy e1 e2=>?_)
   exact⟨y,hy,e1,old _ _ e2 (fT e2 D.stk (by nofun)) (fT e2 D.its (by nofun)) (fT e2 D.seen (by nofun)) (fT e2 D.n2s (by nofun))⟩
  ·rw[ac.mp hf]
   refine⟨x,hx,rfl,?_⟩
   show _[σ'.length]?=_
   refine ck (ck (ck ?_ (by exact aL (by assumption))) (by exact aL (by assumption))) (by exact aL (by assumption))
   have:=cR (σ:=σ'.set (σ.length+2) (AO.set (nodS S x.1) c)) (o:=AO.liter x.2.2 0)
   rwa[cN]at this
 ·have lt:∀f∈fs,f.2.1<σ'.length:=λf hf=>let ⟨y,hy,e1,e2⟩:=D.it f hf;ek e2
  rcases aD.mp hf with hf|hf<;>refine cF (aD.mp hg) (λhg=>?_) λhg=>?_
  ·exact D.nd f hf g hg e
  ·rw[ac.mp hg]at e
   have:=lt f hf
   dsimp only at e
   lia
  ·rw[ac.mp hf]at e
   have:=lt g hg
   dsimp only at e
   lia
  ·rw[ac.mp hf,ac.mp hg]
 ·refine cF (aD.mp hf) (λhf=>?_) λhf=>?_
  ·exact D.ge f hf
  ·rw[ac.mp hf];exact D.frm.len
 ·rw[bU]
  exact⟨D.srt,List.pairwise_singleton _ _,λf hf g hg=>by rw[ac.mp hg];exact hn f hf⟩
 ·unfold nodS
  rcases aD.mp hf with hf|hf
  ·rw[D.sn f hf];rfl
  ·rw[ac.mp hf];simp
theorem Dfs.step {f:DF}(D:Dfs σ σ' T rk (fs++[f]) S cnt es ep){l k:Nat}(e:σ'[f.2.1]?=some (.liter l k))(hk:k=f.2.2):Dfs σ (σ'.set f.2.1 (.liter l (k+1))) T rk (fs++[(f.1,f.2.1,f.2.2+1)]) S cnt es ep:=by
 subst hk
 have put:∀{i:Nat} {o:AO},σ'[i]?=some o→(∀l k,AO.liter l k≠o)→(σ'.set f.2.1 (.liter l (f.2.2+1)))[i]?=some o:=λq hn=>ck q (fT e q (hn _ _))
 have mem:∀g∈fs++[(f.1,f.2.1,f.2.2+1)],∃g'∈fs++[f],g'.1=g.1∧g'.2.1=g.2.1:=λg hg=>by
  refine cF (aD.mp hg) (λhg=>?_) λhg=>?_
  ·exact⟨g,bK _ hg,rfl,rfl⟩
  ·exact aw (ac.mp hg) (⟨f,by simp,rfl,rfl⟩)
 refine⟨D.frm.setN (D.ge f (by simp)) _,?_,?_,put D.seen (by nofun),put D.n2s (by nofun),?_,λg hg=>?_,λg hg g2 hg2 q=>?_,λg hg=>?_,?_,λg hg=>?_⟩
 ·have:=put D.stk (by nofun)
  rw[aE]at this ⊢
  exact this
 ·have:=put D.its (by nofun)
  rw[aE]at this ⊢
  exact this
 ·have:=D.keys
  rw[aE]at this ⊢
  exact this
 ·refine cF (aD.mp hg) (λhg=>?_) λhg=>?_
  ·(refine x1a3 (D.it g (bK _ hg)) λy hy e1 e2=>?_)
   refine⟨y,hy,e1,ck e2 λq=>?_⟩
   have h1:=D.nd f (by simp) g (bK _ hg) q
   have h2:=(bU.mp D.srt).2.2 g hg f (by simp)
   rw[h1]at h2
   exact bo _ h2
  ·refine aw (ac.mp hg) ?_
   (refine x1a3 (D.it f (by simp)) λy hy e1 e2=>?_)
   rw[e]at e2
   cases e2
   exact⟨y,hy,e1,aJ (ek e)⟩
 ·(refine x1a3 (mem g hg) λg' h1 h2 h3=>?_)
  (refine x1a3 (mem g2 hg2) λg2' h4 h5 h6=>?_)
  refine dI h2 (dI h5 ?_)
  exact D.nd g' h1 g2' h4 (by refine aw h3 (aw h6 ?_);exact q)
 ·(refine x1a3 (mem g hg) λg' h1 h2 h3=>?_)
  exact dI h3 (D.ge g' h1)
 ·have:=D.srt
  rw[bU]at this ⊢
  exact⟨this.1,List.pairwise_singleton _ _,λa ha b hb=>by rw[ac.mp hb];exact this.2.2 a ha f (by simp)⟩
 ·obtain⟨g',h1,h2,h3⟩:=mem g hg
  rw[←h2];exact D.sn g' h1
theorem Dfs.pop {f:DF}(D:Dfs σ σ' T rk (fs++[f]) S cnt es ep){l k:Nat}(e:σ'[f.2.1]?=some (.liter l k)){es':List (Int×AV)}{a:AV}(hes:es=es'++[(f.1,a)]) :
  Dfs σ (popH σ.length σ' f.2.1 (fs.map λf=>AV.int f.1) es' (ep+1) (fs.map λf=>AV.nxt f.2.1)) T rk fs S cnt es' (ep+1):=by
 have put:∀{i:Nat} {o:AO},σ'[i]?=some o→(∀l k,AO.liter l k≠o)→(σ'.set f.2.1 .dead)[i]?=some o:=λq hn=>ck q (fT e q (hn _ _))
 have hm:∀g∈fs,g∈fs++[f]:=λg hg=>bK _ hg
 have b0:=put D.stk (by nofun)
 have b1:=put D.its (by nofun)
 have b2:=put D.seen (by nofun)
 have b3:=put D.n2s (by nofun)
 have c3:=ek b3
 refine⟨(((D.frm.setN (D.ge f (by simp)) _).setN (aB _) _).setN (by exact bN _ _) _).setN (by exact cV _) _,?_,?_,?_,?_,?_,λg hg=>?_,λg hg g2 hg2=>D.nd g (hm g hg) g2 (hm g2 hg2),λg hg=>D.ge g (hm g hg),(bU.mp D.srt).1,λg hg=>D.sn g (hm g hg)⟩
 ·exact ck (ck (eU b0) (by lia)) (by exact ec _)
 ·exact aJ (by simp at c3 ⊢;lia)
 ·exact ck (ck (ck b2 (by lia)) (by exact ec _)) (by exact aL (aQ _))
 ·exact ck (aJ (by simp at c3 ⊢;assumption)) (by lia)
 ·have:=D.keys
  rw[hes,aE,aE]at this
  exact(List.append_inj' this rfl).1
 ·(refine x1a3 (D.it g (hm g hg)) fun y hy e1 e2=>?_)
  have ne:f.2.1≠g.2.1:=λq=>by
   have h1:=D.nd f (by simp) g (hm g hg) q
   have h2:=(bU.mp D.srt).2.2 g hg f (by simp)
   rw[h1]at h2
   exact bo _ h2
  exact⟨y,hy,e1,ck (ck (ck (ck e2 ne) (fT D.stk e2 (by nofun))) (fT D.n2s e2 (by nofun))) (fT D.its e2 (by nofun))⟩
end
noncomputable def fcθ (T:TsD)(n:Nat)(l6:Option AV):List (Option AV):=[some (.obj T.s),some (.obj T.m),some (.obj n),some (.obj (n+1)),some (.obj (n+2)),some (.obj (n+3)),l6,none,none,none,none]
inductive FcI (σ:List AO)(T:TsD)(rk:Int→Nat)(W n:Nat)(v:Option AV)(fs:List DF)(st:St):Prop
 |mk (σ':List AO) (S:Int→Bool) (cnt:Nat) (es:List (Int×AV)) (ep:Nat) (e:st=⟨th (fcθ T σ.length v),σ'⟩) (D:Dfs σ σ' T rk fs S cnt es ep) (h1:fs.length≤cnt) (h2:cnt+gn T.su S T.ks≤W) (h3:gn T.su S T.ks+i9 T.su fs≤n):FcI σ T rk W n v fs st
inductive FcA (σ:List AO)(T:TsD)(rk:Int→Nat)(W n:Nat)(st:St):Prop
 |mk (v:Int) (fs:List DF) (h1:v∈T.ks) (h2:∀f∈fs,rk f.1<rk v) (h3:FcI σ T rk W n (some (.int v)) fs st):FcA σ T rk W n st
inductive FcB (σ:List AO)(T:TsD)(rk:Int→Nat)(W n m:Nat)(st:St):Prop
 |mk (v:Option AV) (fs:List DF) (h1:m=fs.length) (h3:FcI σ T rk W n v fs st):FcB σ T rk W n m st
inductive FcC (σ:List AO)(T:TsD)(rk:Int→Nat)(W n:Nat)(st:St):Prop
 |mk (v:Option AV) (fs:List DF) (h3:FcI σ T rk W n v fs st):FcC σ T rk W n st
inductive FcE (σ:List AO)(T:TsD)(rk:Int→Nat)(W:Nat)(d r:List AV)(st:St):Prop
 |mk (v:Option AV) (h3:FcI σ T rk W W v [] st):FcE σ T rk W d r st
section
variable {σ:List AO}{T:TsD}{rk:Int→Nat}
theorem zhs {l:List AV}{x:AV}(h:l.length<2^20):gh (l++[x]) (-1)=some x:=by
 unfold gh seqIndex?
 refine aw (if_pos (by decide)) ?_
 have h2:-1+((l.length:Int)+1)=l.length:=by lia
 have h3:(l.length:Int)<l.length+1:=by exact Int.le_refl _
 simp[h2,h3]
theorem ztl {es:List (Int×AV)}{fs:List DF}{f:DF}(h:es.map (λx=>x.1)=(fs++[f]).map (λx=>x.1)):∃es' a,es=es'++[(f.1,a)]∧es'.map (λx=>x.1)=fs.map (λx=>x.1):=by
 rw[aE]at h
 obtain⟨l1,l2,rfl,h1,h2⟩:=List.map_eq_append_iff.mp h
 cases l2 with
 |nil=>cases h2
 |cons y r =>
  simp only[aN,bY,fz,List.map_eq_nil_iff]at h2
  obtain⟨h2,rfl⟩:=h2
  exact⟨l1,y.2,by rw[←h2],h1⟩
theorem zhv (h:TsR σ T)(hrk:∀k∈T.ks,∀s∈T.su k,s∈T.ks∧rk k<rk s)(hw:gn T.su (λu1=>false) T.ks<4000):dO (zel [.obj T.s] [] σ) λv σ'=>v=.none∧Frm σ σ' []:=by
 refine gU λQ hQ=>?_
 refine fx (l:=[some (.obj T.s),none,none,none,none,none,none,none,none,none,none]) 11 (by rfl) (by rfl) (by rfl) (by rfl) (gu ?_)
 repeat walk_at "w"
 refine fB h.hs h.hd zh1 zmv rfl ?_
 repeat walk_at "w"
 refine gj (by decide) ?_
 repeat walk_at "w"
 refine gj (by decide) ?_
 repeat walk_at "w"
 refine zxn ?_
 repeat walk_at "w"
 refine zrj ?_
 repeat walk_at "w"
 have e1:(σ++[AO.list []]).length=σ.length+1:=by simp
 have e2:(σ++[AO.list []]++[AO.list []]).length=σ.length+2:=by simp
 have e3:(σ++[AO.list []]++[AO.list []]++[AO.set (λu1=>false) 0]).length=σ.length+3:=by simp
 have g0:(σ++[AO.list []])[σ.length]?=some (.list []):=cR
 have g1:(σ++[AO.list []]++[AO.list []])[σ.length+1]?=some (.list []):=e1▸cR
 have g2:(σ++[AO.list []]++[AO.list []]++[AO.set (λu1=>false) 0])[σ.length+2]?=some (.set (λu1=>false) 0):=e2▸cR
 have g3:(σ++[AO.list []]++[AO.list []]++[AO.set (λu1=>false) 0]++[AO.dict [] 0])[σ.length+3]?=some (.dict [] 0):=e3▸cR
 have D0:Dfs σ (σ++[AO.list []]++[AO.list []]++[AO.set (λu1=>false) 0]++[AO.dict [] 0]) T rk [] (λu1=>false) 0 [] 0 :=
  ⟨((((Frm.refl σ []).pushN _).pushN _).pushN _).pushN _,b6 (b6 (b6 g0)),b6 (b6 g1),b6 g2,g3,rfl,by nofun,by nofun,by nofun,.nil,by nofun⟩
 rw[e1,e2,e3]
 refine zxh ((D0.frm.ts h).hm) ?_
 dsimp only
 generalize hW:gn T.su (λu1=>false) T.ks=W at hw
 refine ib (FcE σ T rk W) ⟨none,_,_,_,_,_,rfl,D0,aB _,by lia,by rw[hW];exact aB _⟩ ?_ ?_
 ·rintro d a r _ hd ⟨l6,σ2,S,cnt,es,ep,rfl,D,-,hc,-⟩
  have R:=D.frm.ts h
  obtain⟨v,rfl,hv⟩:∃v,a=.int v∧v∈T.ks:=by
   have:a∈T.es.map λp=>AV.int p.1:=hd▸(by simp)
   obtain⟨p,hp,e⟩:=aH.mp this
   exact⟨p.1,e.symm,znt (T:=T)▸bA hp⟩
  refine⟨fS R.hm,?_⟩
  repeat walk_at "w"
  refine zwo D.seen (eK ?_)
  refine ze8 (λhs=>?_) λhs=>?_
  ·repeat walk_at "w"
   exact⟨some (.int v),σ2,S,cnt,es,ep,rfl,D,aU _,hc,by show _+0≤W;exact la57 hc⟩
  ·repeat walk_at "w"
   refine zdl (FcA σ T rk W) W ⟨v,[],hv,by nofun,σ2,S,cnt,es,ep,rfl,D,aU _,hc,by show _+0≤W;exact la57 hc⟩ ?_
   clear hs D R hc hv σ2 S cnt es ep l6
   rintro n _ ⟨v,fs,hv,hfs,σ2,S,cnt,es,ep,rfl,D,hfc,hc,hn⟩
   have R:=D.frm.ts h
   repeat walk_at "w"
   refine eK ?_
   walk_at "t"
   have hvk:v∉es.map (λx=>x.1):=λq=>by
    rw[D.keys]at q
    obtain⟨f,hf,e⟩:=aH.mp q
    have:=hfs f hf
    rw[e]at this
    exact bo _ this
   refine zwl (FcC σ T rk W n) ?_ ?_
   ·repeat walk_at "w"
    refine zwo D.seen (eK ?_)
    refine ze8 (λhs=>?_) λhs=>?_
    ·repeat walk_at "w"
     refine zz5 D.n2s (eK ?_)
     rw[zlx hvk]
     rw[if_neg (by decide)]
     repeat walk_at "w"
     exact⟨rfl,some (.int v),fs,σ2,S,cnt,es,ep,rfl,D,hfc,hc,hn⟩
    ·obtain⟨x,hx,hxv⟩:=zlh hv
     repeat walk_at "w"
     refine dv (zy9 D.seen) ?_
     repeat walk_at "w"
     refine zxl D.seen (by lia) ?_
     rw[if_neg (by rw[hs];decide)]
     have R1:=(D.frm.setN (i:=σ.length+2) (by lia) (.set (λy=>S y||decide (y=v)) (cnt+1))).ts h
     have i1:(σ2.set (σ.length+2) (.set (λy=>S y||decide (y=v)) (cnt+1)))[σ.length+1]?=_:=ck D.its (by lia)
     repeat walk_at "w"
     refine dv (gw i1) ?_
     repeat walk_at "w"
     refine ze6 R1.hm (hxv▸zdy R1.nd hx) ?_
     refine iF (R1.hi x hx) zyn rfl rfl ?_
     repeat walk_at "w"
     refine zxp (R1.hl x hx) ?_
     refine zml cR ?_
     repeat walk_at "w"
     have hfl:fs.length<2^12:=by lia
     refine ie (b6 i1) (by rw[ae];lia) ?_
     have s1:((σ2.set (σ.length+2) (.set (λy=>S y||decide (y=v)) (cnt+1))++[AO.liter x.2.2 0]).set (σ.length+1) (.list (fs.map (λf=>AV.nxt f.2.1)++[AV.nxt (σ2.set (σ.length+2) (.set (λy=>S y||decide (y=v)) (cnt+1))).length])))[σ.length]?=_:=ck (b6 (ck D.stk (by lia))) (by lia)
     have n1:((σ2.set (σ.length+2) (.set (λy=>S y||decide (y=v)) (cnt+1))++[AO.liter x.2.2 0]).set (σ.length+1) (.list (fs.map (λf=>AV.nxt f.2.1)++[AV.nxt (σ2.set (σ.length+2) (.set (λy=>S y||decide (y=v)) (cnt+1))).length])))[σ.length+3]?=_:=ck (b6 (ck D.n2s (by lia))) (by lia)
     repeat walk_at "w"
     refine zkq s1 (by rw[ae];lia) ?_
     repeat walk_at "w"
     obtain⟨p1,p2⟩:=zol (v:=.int ((fs.map λf=>AV.int f.1).length:Nat)) hvk
     have hel:es.length=fs.length:=by have:=congrArg List.length D.keys;simpa using this
     refine zik n1 (by lia) ?_
     rw[p1,p2,if_neg (by decide)]
     repeat walk_at "w"
     refine dv (gw (ck s1 (by lia))) ?_
     repeat walk_at "w"
     refine ie (ck s1 (by lia)) (by rw[ae];lia) ?_
     repeat walk_at "w"
     have D':=D.push hx (λf hf=>hxv▸hfs f hf) (.int ((fs.map λf=>AV.int f.1).length:Nat)) (cnt+1)
     have hwt:=zxe (su:=T.su) hs hv
     rw[hxv]at D'
     refine⟨rfl,some (.int v),_,_,_,_,_,_,?_,D',?_,?_,?_⟩
     ·unfold zyt
      rw[cN]
      rfl
     ·rw[az,aO];lia
     ·lia
     ·rw[zja]
      show _+(i9 T.su fs+((T.su v).length-0+1))≤n
      lia
   ·rintro _ ⟨v',fs',σ3,S',cnt',es',ep',rfl,D',hf',hc',hn'⟩
    clear hvk R hn hc hfc D hfs hv
    repeat walk_at "w"
    refine zdl (FcB σ T rk W n) fs'.length ⟨v',fs',rfl,σ3,S',cnt',es',ep',rfl,D',hf',hc',hn'⟩ ?_
    clear D' hf' hc' hn' σ3 S' cnt' es' ep' fs' v'
    rintro m _ ⟨l6,fs,rfl,σ3,S,cnt,es,ep,rfl,D,hfc,hc,hn⟩
    have R:=D.frm.ts h
    repeat walk_at "w"
    refine zkn D.stk (by rw[ae];lia) ?_
    rcases List.eq_nil_or_concat fs with rfl|⟨fs0,f,rfl⟩
    ·rw[if_neg (by simp)]
     repeat walk_at "w"
     exact⟨l6,σ3,S,cnt,es,ep,rfl,D,aU _,hc,by show _+0≤W;exact la57 hc⟩
    ·rw[List.concat_eq_append]at *
     rw[if_pos (by simp)]
     obtain⟨x,hx,hxf,hit⟩:=D.it f (by simp)
     have hl:=R.hl x hx
     have hfl:fs0.length<2^12:=by rw[az]at hfc;lia
     have his:=D.its
     have hsk:=D.stk
     rw[aE]at his hsk
     repeat walk_at "w"
     refine cH (a:=.int (-1)) rfl ?_
     refine eM his (zhs (by rw[ae];lia)) ?_
     have hxk:f.1∈T.ks:=hxf▸znh hx
     cases hk:(T.su f.1)[f.2.2]? with
     |some v' =>
      refine zmj hit hl (v:=.int v') (by rw[hxf,aK,hk];rfl) ?_
      dsimp only
      repeat walk_at "w"
      obtain⟨q1,q2⟩:=hrk f.1 hxk v' (cU hk)
      have hlt:=(ap.mp hk).1
      rw[zja]at hn
      refine⟨gn T.su S T.ks+i9 T.su (fs0++[(f.1,f.2.1,f.2.2+1)]),?_,v',fs0++[(f.1,f.2.1,f.2.2+1)],q1,λg hg=>?_,_,S,cnt,es,ep,rfl,D.step hit rfl,by rw[az]at hfc ⊢;exact hfc,hc,aB _⟩
      ·rw[zja]
       dsimp only
       lia
      ·rcases aD.mp hg with hg|hg
       ·exact a9 ((bU.mp D.srt).2.2 g hg f (by simp)) q2
       ·rw[ac.mp hg];exact q2
     |none =>
      refine zmk hit hl (by rw[hxf,aK,hk];rfl) ?_
      dsimp only
      have put:∀{i:Nat} {o:AO},σ3[i]?=some o→(∀l k,AO.liter l k≠o)→(σ3.set f.2.1 .dead)[i]?=some o:=λq hn=>ck q (fT hit q (hn _ _))
      have b0:=put hsk (by nofun)
      have b1:=put his (by nofun)
      have b3:=put D.n2s (by nofun)
      repeat walk_at "w"
      refine dv (gw b0) ?_
      repeat walk_at "w"
      refine zrg b0 (x:=.int f.1) (by rw[az,ae,ae,aO];lia) (by simp) ?_
      obtain⟨es',a,rfl,hk'⟩:=ztl D.keys
      have hno:f.1∉es'.map (λx=>x.1):=λq=>by
       rw[hk']at q
       obtain⟨g,hg,e⟩:=aH.mp q
       have:=(bU.mp D.srt).2.2 g hg f (by simp)
       rw[e]at this
       exact bo _ this
      have hgd:(getD (es'++[(f.1,a)]) f.1).isSome=true:=by
       unfold getD
       rw[Option.isSome_map,List.find?_isSome]
       exact⟨(f.1,a),by simp,by simp⟩
      have hel:es'.length=fs0.length:=by have:=congrArg List.length hk';simpa using this
      refine fY ?_
      refine zxt (ck (j:=σ.length) (o:=.list ((fs0.map (λf=>AV.int f.1)++[AV.int f.1]).dropLast)) b3 (by lia)) ⟨by rw[az,aO];lia,hgd⟩ ?_
      rw[zuf hno]
      repeat walk_at "w"
      have c1:=ck (j:=σ.length+3) (o:=.dict es' (ep+1)) (ck (j:=σ.length) (o:=.list ((fs0.map (λf=>AV.int f.1)++[AV.int f.1]).dropLast)) b1 (by lia)) (by lia)
      refine dv (gw c1) ?_
      repeat walk_at "w"
      refine zrg c1 (x:=.nxt f.2.1) (by rw[az,ae,ae,aO];lia) (by simp) ?_
      repeat walk_at "w"
      rw[zja]at hn
      refine⟨fs0.length,by rw[az,aO];lia,l6,fs0,rfl,_,S,cnt,es',ep+1,?_,D.pop hit rfl,by rw[az,aO]at hfc;lia,hc,by lia⟩
      unfold popH
      rw[aN,aN,fz,fz,List.dropLast_concat,List.dropLast_concat]
 ·rintro _ ⟨l6,σ2,S,cnt,es,ep,rfl,D,-⟩
  refine⟨fS (D.frm.ts h).hm,?_⟩
  repeat walk_at "w"
  exact hQ _ _ ⟨rfl,D.frm⟩
end
section
variable {σ:List AO}{T:TsD}{rk:Int→Nat}
noncomputable def il (np:Int→Int)(L:List (Int×Nat×Nat)):List Int:=(L.map (λx=>x.1)).filter λk=>np k==0
inductive PrI (σ:List AO)(T:TsD)(d q:List AV)(st:St):Prop
 |mk (p1 p2:List (Int×Nat×Nat)) (σ1:List AO) (l1:Option AV) (e1:p1++p2=T.L) (e2:q=p2.map (λx=>AV.obj x.2.1)) (e3:st=⟨th [none,l1],σ1⟩) (e4:TsR σ1 T) (e5:Frm σ σ1 T.foot) (e6:σ1[σ.length]?=some (.list ((il T.np p1).map .int))):PrI σ T d q st
inductive PreP (σ:List AO)(T:TsD)(v:AV)(σ':List AO):Prop
 |mk (e:v=.none) (h:TsR σ' (T.at' (.obj σ.length) T.po T.nf)) (hr:RdyR σ' (T.at' (.obj σ.length) T.po T.nf) σ.length (il T.np T.L)) (F:Frm σ σ' T.foot):PreP σ T v σ'
theorem zk9 (h:TsR σ T)(hr:T.r=.none)(hrk:∀k∈T.ks,∀s∈T.su k,s∈T.ks∧rk k<rk s)(hw:gn T.su (λu1=>false) T.ks<4000)(hL:T.L.length<2^18) :
  dO (zgs [.obj T.s] [] σ) (PreP σ T):=by
 refine gU λQ hQ=>?_
 refine fx (l:=[some (.obj T.s),none,none,none]) 4 (by rfl) (by rfl) (by rfl) (by rfl) (gu ?_)
 repeat walk_at "w"
 refine fB h.hs h.hd iD zx4 (by rw[hr];rfl) ?_
 rw[hr]
 repeat walk_at "w"
 refine zg2 (b:=true) rfl (eK ?_)
 rw[if_neg (by decide)]
 repeat walk_at "w"
 refine gE ?_
 repeat walk_at "w"
 refine fB h.hs h.hd zh1 zmv rfl ?_
 refine zxf h.hm ?_
 dsimp only
 refine gB (m:=[none,none]) 2 (by rfl) (by rfl) ?_
 have h1:=h.push (.list [])
 refine ib (PrI σ T)
  ⟨[],T.L,_,none,rfl,by unfold TsD.es;rw[be];rfl,rfl,h1,.push _ _,cR⟩ ?_ ?_
 ·rintro d a q _-⟨p1,p2,σ1,l1,hp,hq,rfl,R,F,hd⟩
  cases p2 with
  |nil=>cases hq
  |cons x p2 =>
   rw[aN,bY]at hq
   obtain⟨rfl,rfl⟩:=hq
   have hx:x∈T.L:=by rw[←hp];simp
   have hz:il T.np (p1++[x])=il T.np p1++(if T.np x.1=0 then[x.1]else[]):=by
    unfold il
    rw[aE,List.filter_append]
    congr 1
    by_cases h0:T.np x.1=0<;>simp[h0]
   refine⟨fS R.hm,?_⟩
   repeat walk_at "w"
   refine iF (R.hi x hx) zsn rfl rfl ?_
   repeat walk_at "w"
   refine zxs (eK ?_)
   by_cases h0:T.np x.1=0
   ·rw[if_pos h0]at hz
    rw[show(T.np x.1==0)=true from by rw[h0];rfl,if_pos rfl]
    repeat walk_at "w"
    walk_at "t"
    repeat walk_at "w"
    refine iF (R.hi x hx) zyo rfl rfl ?_
    have hzl:(il T.np p1).length≤T.L.length:=by
     unfold il
     refine aI (b9 _ _) ?_
     rw[ae,←hp,az];exact bN _ _
    refine gC hd (by rw[ae];lia) ?_
    repeat walk_at "w"
    have hn:σ.length∉T.foot:=λq=>bo _ (h.foot_lt q)
    refine⟨p1++[x],p2,_,some (.obj x.2.1),by rw[bf];exact hp,rfl,rfl,R.put _ hn,⟨by rw[cN];exact F.len,λi o n e=>ck (F.same i o n e) λq=>?_⟩,?_⟩
    ·have:=ek e;lia
    ·rw[hz,aE];exact eU hd
   ·rw[if_neg h0,bi]at hz
    rw[show(T.np x.1==0)=false from by simpa using h0,if_neg (by decide)]
    repeat walk_at "w"
    walk_at "f"
    repeat walk_at "w"
    exact⟨p1++[x],p2,σ1,some (.obj x.2.1),by rw[bf];exact hp,rfl,rfl,R,F,by rw[hz];exact hd⟩
 ·rintro _ ⟨p1,p2,σ1,l1,hp,hq,rfl,R,F,hd⟩
  have:p2=[]:=by cases p2 with|nil=>rfl|cons _ _=>cases hq
  subst this
  rw[bi]at hp
  subst hp
  refine⟨fS R.hm,?_⟩
  repeat walk_at "w"
  refine⟨rfl,?_⟩
  repeat walk_at "w"
  refine i8 R.hs R.hd zw9 zmw ?_
  rw[zr4]
  have R2:=R.setA (.obj σ.length) T.po T.nf
  have hd2:(σ1.set T.d (.attrs (fC (.obj T.m) (.obj σ.length) T.po T.nf)))[σ.length]?=_:=ck hd (fT R.hd hd (by nofun))
  have hds:T.d∈T.foot:=foot_iff.mpr (.inr (.inl rfl))
  repeat walk_at "w"
  refine dv (gm R2.hs R2.hd z0l) ?_
  repeat walk_at "w"
  refine fh (fP (zhv (T:=T.at' (.obj σ.length) T.po T.nf) (rk:=rk) R2 hrk hw) ?_)
  rintro _ σ3 ⟨rfl,F3⟩
  repeat walk_at "w"
  refine cH (a:=false) rfl ?_
  walk_at "f"
  repeat walk_at "w"
  refine hQ _ _ ⟨rfl,F3.ts R2,⟨rfl,F3.keep0 hd2,λx hx e=>?_⟩,(F.trans (.set _ hds) λi hi=>.inl hi).trans F3 (by simp)⟩
  have:=ek (h.hl x hx)
  lia
end
theorem zd0 {α:Type}{f:AV→Option PyData}{em:α→AV}{g:α→PyData}:∀{l:List α},(∀a∈l,f (em a)=some (g a))→iG f (l.map em)=some (l.map g)
 | [],_=>rfl
 |a::l,h=>by
  show(f (em a)).bind _=_
  refine aw (h a (aj ..)) ?_
  show(iG f (l.map em)).map _=_
  refine aw (zd0 λb hb=>h b (af _ hb)) ?_
  rfl
theorem zun:∀{xs:List PyData},(∀d∈xs,PyData.canLay0 d=true)→PyData.canLayAll0 xs=true
 | [],_=>by simp only[PyData.canLayAll0]
 |d::xs,h=>by
  simp only[PyData.canLayAll0,h d (aj ..),zun λb hb=>h b (af _ hb),Bool.and_self]
theorem zue {n:Nat}:∀{xs:List PyData},(∀d∈xs,PyData.depth d≤n)→PyData.depthAll xs≤n
 | [],_=>by simp only[PyData.depthAll];exact aU _
 |d::xs,h=>by
  simp only[PyData.depthAll]
  exact Nat.max_le.mpr ⟨h d (aj ..),zue λb hb=>h b (af _ hb)⟩
noncomputable def Lays (n:Nat)(d:PyData):Prop:=PyData.canLay0 d=true∧PyData.depth d≤n
theorem zjx (x:Int):Lays 0 (.int x):=⟨by exact rfl,by simp only[PyData.depth];exact aB _⟩
theorem zyg {α:Type}(l:List α)(a b:α):(l++[a]).set l.length b=l++[b]:=by
 rw[List.set_append_right _ _ (aB _),eu];rfl
theorem iJ {n:Nat}{xs:List PyData}(h:∀d∈xs,Lays n d):Lays (n+1) (.list xs):=by
 refine⟨by simp only[PyData.canLay0];exact zun λd hd=>(h d hd).1,?_⟩
 simp only[PyData.depth]
 have:=zue λd hd=>(h d hd).2
 exact b7 (by assumption)
theorem zot {n:Nat}{xs:List PyData}(h:∀d∈xs,Lays n d):Lays (n+1) (.tuple xs):=by
 refine⟨by simp only[PyData.canLay0];exact zun λd hd=>(h d hd).1,?_⟩
 simp only[PyData.depth]
 have:=zue λd hd=>(h d hd).2
 exact b7 (by assumption)
theorem Lays.mono {n m:Nat}{d:PyData}(h:Lays n d)(e:n≤m):Lays m d:=⟨h.1,aI h.2 e⟩
theorem Lays.ok {n:Nat}{d:PyData}(h:Lays n d)(e:n≤62):shaped d=true:=by
 unfold shaped
 rw[aq,decide_eq_true_eq]
 exact⟨h.1,by have:=h.2;lia⟩
section
variable {σ:List AO}{θ:Nat→Option AV}{Q:AV→St→Prop}{o i j:Nat}
theorem zo6 (k:Nat)(x:Int):gr σ k (.int x)=some (.int x):=by cases k<;>rfl
theorem hO {a:AV}{d:PyData}{n:Nat}(h:gr σ 8 a=some d)(l:Lays n d)(e:n≤62):ff σ a=some d:=by
 unfold ff
 refine aw h ?_
 show(if shaped _=true then some _ else none)=_
 exact aw (if_pos (l.ok e)) rfl
theorem zcy {k:Nat}{α:Type}{em:α→AV}{g:α→PyData}{l:List α}(h:σ[o]?=some (.list (l.map em)))(hf:∀a∈l,gr σ k (em a)=some (g a)):gr σ (k+1) (.obj o)=some (.list (l.map g)):=by
 show(d7 σ o).bind _=_
 exact c8 (eR h) (fJ (zd0 hf))
theorem zwb {k:Nat}{α:Type}{em:α→AV}{g:α→PyData}{l:List α}(hf:∀a∈l,gr σ k (em a)=some (g a)):gr σ (k+1) (.tup (l.map em))=some (.tuple (l.map g)):=fJ (zd0 hf)
theorem zz9 {a b:AV}{x y:PyData}(hk:cmpK .Eq a b ⟨θ,σ⟩=none)(ha:ff σ a=some x)(hb:ff σ b=some y)(hq:Q (.bool (PyData.eqv x y)) ⟨θ,σ⟩):wp (cmpB .Eq a b) ⟨θ,σ⟩ Q :=
 cH (a:=.bool (PyData.eqv x y)) (by
  show orK (cmpK .Eq a b) (cmpD .Eq a b) ⟨θ,σ⟩=_
  refine i0 hk ?_
  show((ff σ a).bind _).map _=_
  exact fJ (c8 ha (fJ hb))) hq
theorem zko {a b:AV}{x y:PyData}(hk:cmpK .NotEq a b ⟨θ,σ⟩=none)(ha:ff σ a=some x)(hb:ff σ b=some y)(hq:Q (.bool (!PyData.eqv x y)) ⟨θ,σ⟩):wp (cmpB .NotEq a b) ⟨θ,σ⟩ Q :=
 cH (a:=.bool (!PyData.eqv x y)) (by
  show orK (cmpK .NotEq a b) (cmpD .NotEq a b) ⟨θ,σ⟩=_
  refine i0 hk ?_
  show((ff σ a).bind _).map _=_
  exact fJ (c8 ha (fJ hb))) hq
theorem zj5 {α β:Type}{p:α→Bool}{f:α→β}(l:List α):(l.flatMap λy=>if p y=true then[f y]else[])=(l.filter p).map f:=by
 induction l with
 |nil=>rfl
 |cons a l ih =>
  refine aw bD (aw ih ?_)
  by_cases h:p a=true
  ·refine aw (if_pos h) (aw (List.filter_cons_of_pos h) ?_);rfl
  ·refine aw (if_neg h) (aw (List.filter_cons_of_neg h) ?_);rfl
end
noncomputable def tab (n:Nat)(g:Int→AV):List AV:=(List.range n).map λi:Nat=>g (i:Int)
theorem gz {n:Nat}{g:Int→AV}:(tab n g).length=n:=by unfold tab;rw[ae,aC]
theorem zg4 {n:Nat}{g:Int→AV}:tab (n+1) g=tab n g++[g n]:=by unfold tab;refine aw cM (aw aE ?_);rfl
theorem zd7 {n:Nat}{g g':Int→AV}(h:∀i:Int,0≤i→i<n→g i=g' i):tab n g=tab n g' :=
 aS λi hi=>h i (aG i) (by have:=ax.mp hi;exact aX.mpr (by assumption))
theorem fR {n:Nat}{g:Int→AV}{k:Int}(h:0≤k∧k<n∧n<1000):gh (tab n g) k=some (g k):=by
 have:k=(k.toNat:Nat):=by lia
 refine aw this ?_
 refine ii ?_ (by lia)
 unfold tab
 refine aw (aK) (aw (b8 (by lia)) ?_)
 rfl
section
variable {σ:List AO}{θ:Nat→Option AV}{Q:AV→St→Prop}{o i j n:Nat}
theorem zwm {lo:Int}{Q:List AV×Option (Nat×AO)→St→Prop}(hq:Q (tab n λi=>.int (lo+i),none) ⟨θ,σ⟩):wp (srcK (.rng lo 1 n)) ⟨θ,σ⟩ Q :=
 zg9 (vs:=tab n λi=>.int (lo+i)) (g:=none) (by
  show some (io lo 1 n,none)=_
  have:io lo 1 n=tab n λi=>.int (lo+i):=by unfold io tab;simp only[Int.one_mul]
  exact aw this rfl) hq
theorem zf2 {Q:List AV×Option (Nat×AO)→St→Prop}(hq:Q (tab n λi=>.int i,none) ⟨θ,σ⟩):wp (srcK (.rng 0 1 n)) ⟨θ,σ⟩ Q :=
 zwm (by simp only[Int.zero_add];exact hq)
theorem zf3 {g:Option (Nat×AO)}{asg:AV→K Unit}{b o:K Fl}{e:Int→AV}{st:St}{Q:Fl→St→Prop}(I:Nat→St→Prop)(h:I 0 st)
  (step:∀i:Nat,i<n→∀st,I i st→gp g st.σ∧∀K:Fl→St→Prop,(∀st'',I (i+1) st''→K .next st'')→wp (asg (e i)) st λu1 st'=>wp b st' K)
  (done:∀st,I n st→gp g st.σ∧wp o st Q):wp (forL g asg b o (tab n e)) st Q:=by
 refine ib (λd r st=>d.length≤n∧I d.length st) ⟨aU _,h⟩ ?_ ?_
 ·intro d a r st he ⟨_,hI⟩
  have hl:d.length<n:=by have:=congrArg List.length he;rw[gz,az,bp]at this;exact la41 this
  have ha:a=e (d.length:Nat):=by
   have:=congrArg (λl:List AV=>l[d.length]?) he
   simp only[tab,List.getElem?_append_right (aB _),eu,List.getElem?_cons_zero,aK,b8 hl,d9,Option.some.injEq]at this
   exact this
  subst ha
  (refine x0a2 (step _ hl st hI) λh1 h2=>?_)
  exact⟨h1,h2 _ λst'' hI'=>⟨by refine aw az ?_;exact hl,by rw[az];exact hI'⟩⟩
 ·intro st ⟨_,hI⟩
  rw[gz]at hI
  exact done st hI
theorem zmo {g:Option (Nat×AO)}{asg:AV→K Unit}{b o:K Fl}{e:Int→AV}{out:Int→List AV}{Q:Fl→St→Prop}(I:(Nat→Option AV)→Prop)(h:I θ)(hg:∀l,gp g (σ++[.list l]))(hn:n<100)
  (hlen:∀i,(out i).length≤1)
  (step:∀x:Nat,x<n→∀θ l,I θ→l.length<2^18→∀K:Fl→St→Prop,(∀θ',I θ'→K .next ⟨θ',σ++[.list (l++out x)]⟩)→wp (asg (e x)) ⟨θ,σ++[.list l]⟩ λu1 st'=>wp b st' K)
  (done:∀θ,I θ→wp o ⟨θ,σ++[.list ((List.range n).flatMap λi:Nat=>out i)]⟩ Q):wp (forL g asg b o (tab n e)) ⟨θ,σ++[.list []]⟩ Q:=by
 refine iK (xs:=List.range n) (ei:=λi:Nat=>e i) (out:=λi:Nat=>out i) I h hg (λx hx=>step x (ax.mp hx)) ?_ done
 have:∀xs:List Nat,(xs.flatMap λi:Nat=>out i).length≤xs.length:=by
  intro xs
  induction xs with
  |nil=>exact aB _
  |cons a l ih=>rw[bD,az,bp];have:=hlen a;lia
 have:=this (List.range n)
 rw[aC]at this
 have:(100:Nat)<2^18:=by decide
 lia
theorem gJ {I:(Nat→Option AV)→Prop}{K:Fl→St→Prop}{x l:List AV}(hK:∀θ',I θ'→K .next ⟨θ',σ++[AO.list (l++x)]⟩)(hI:I θ):K .next ⟨θ,(σ++[AO.list l]).set σ.length (AO.list (l++x))⟩:=by rw[zyg];exact hK _ hI
theorem zki {I:(Nat→Option AV)→Prop}{K:Fl→St→Prop}{l:List AV}(hK:∀θ',I θ'→K .next ⟨θ',σ++[AO.list (l++[])]⟩)(hI:I θ):K .next ⟨θ,σ++[AO.list l]⟩:=by
 have:=hK _ hI
 rwa[bi]at this
theorem zv7 {out:Int→AV}:((List.range n).flatMap λi:Nat=>[out i])=tab n out:=by
 unfold tab
 induction List.range n with
 |nil=>rfl
 |cons a l ih=>rw[bD,aN,ih];rfl
theorem zmn {g:Option (Nat×AO)}{asg:AV→K Unit}{b o:K Fl}{e f:Int→AV}{Q:Fl→St→Prop}(I:(Nat→Option AV)→Prop)(h:I θ)(hg:∀l,gp g (σ++[.list l]))(hn:n<100)
  (step:∀x:Nat,x<n→∀θ l,I θ→l.length<2^18→∀K:Fl→St→Prop,(∀θ',I θ'→K .next ⟨θ',σ++[.list (l++[f x])]⟩)→wp (asg (e x)) ⟨θ,σ++[.list l]⟩ λu1 st'=>wp b st' K)
  (done:∀θ,I θ→wp o ⟨θ,σ++[.list (tab n f)]⟩ Q):wp (forL g asg b o (tab n e)) ⟨θ,σ++[.list []]⟩ Q :=
 zmo (out:=λi=>[f i]) I h hg hn (λu1=>aB _) step λθ hI=>zv7▸done θ hI
end
section
variable {σ:List AO}{θ:Nat→Option AV}{o:Nat}
end
theorem Frm.next {σ σ1 σ2:List AO}(f:Frm σ σ1 [])(g:Frm σ1 σ2 []):Frm σ σ2 []:=f.trans g λi hi=>by simp at hi
theorem Frm.nextS {σ σ1 σ2:List AO}{S:List Nat}(f:Frm σ σ1 [])(g:Frm σ1 σ2 S)(h:∀i∈S,σ.length≤i):Frm σ σ2 []:=f.trans g λi hi=>.inr (h i hi)
structure MatR (σ:List AO)(o:Nat)(n:Nat)(rf:Int→Nat)(L:Int→List AV):Prop where
 top:σ[o]?=some (.list (tab n λh=>.obj (rf h)))
 row:∀h:Int,0≤h→h<n→σ[rf h]?=some (.list (L h))
 ne:∀h:Int,0≤h→h<n→rf h≠o
inductive MatP (σ:List AO)(n:Nat)(L:Int→List AV)(v:AV)(σ':List AO):Prop
 |mk (o:Nat) (rf:Int→Nat) (e:v=.obj o) (hle:σ.length≤o) (F:Frm σ σ' []) (M:MatR σ' o n rf L):MatP σ n L v σ'
noncomputable def updR (rf:Int→Nat)(n:Int)(j:Nat):Int→Nat:=λh=>if h=n then j else rf h
section
variable {σ σ':List AO}{o n j:Nat}{rf:Int→Nat}{L:Int→List AV}{S:List Nat}
theorem MatR.keep (M:MatR σ o n rf L)(hk:∀i x,(i=o∨∃h:Int,0≤h∧h<n∧i=rf h)→σ[i]?=some x→σ'[i]?=some x):MatR σ' o n rf L :=
 ⟨hk _ _ (.inl rfl) M.top,λh h0 h1=>hk _ _ (.inr ⟨h,h0,h1,rfl⟩) (M.row h h0 h1),M.ne⟩
theorem MatR.push (M:MatR σ o n rf L)(x:AO):MatR (σ++[x]) o n rf L:=M.keep λu1 u2 u3 e=>b6 e
theorem MatR.frm (M:MatR σ o n rf L)(F:Frm σ σ' []):MatR σ' o n rf L:=M.keep λi x u1 e=>F.same i x (by simp) e
theorem MatR.more (M:MatR σ o n rf L)(hj:σ[j]?=some (.list (L n)))(hne:j≠o):MatR (σ.set o (.list ((tab n λh=>.obj (rf h))++[.obj j]))) o (n+1) (updR rf n j) L:=by
 have ho:o<σ.length:=ek M.top
 have e1:∀h:Int,h<n→updR rf n j h=rf h:=λh hh=>if_neg (by solve_by_elim (maxDepth:=3) [dR,Int.lt_of_le_of_lt,Int.le_trans,Int.lt_trans,Int.le_of_lt,Int.ne_of_lt,Int.ne_of_gt,Int.le_of_eq,And.left,And.right])
 have e2:updR rf n j n=j:=if_pos rfl
 refine⟨?_,λh h0 h1=>?_,λh h0 h1=>?_⟩
 ·refine aw (aJ ho) (aw zg4 ?_)
  have:(tab n λh=>AV.obj (updR rf (↑n) j h))=tab n λh=>AV.obj (rf h):=zd7 λi u1 hi=>by exact aw (e1 i hi) rfl
  exact aw this (aw e2 rfl)
 ·by_cases e:h=n
  ·refine aw e (aw e2 ?_);exact ck hj (cG hne)
  ·exact aw (e1 h (by exact la12 h1 e)) (ck (M.row h h0 (by exact la12 h1 e)) (cG (M.ne h h0 (by exact la12 h1 e))))
 ·by_cases e:h=n
  ·refine aw e (aw e2 ?_);exact hne
  ·exact aw (e1 h (by exact la12 h1 e)) (M.ne h h0 (by exact la12 h1 e))
end
section
variable {θ:Nat→Option AV}{σ σ':List AO}{T:TsD}{r:Nat}{rs:List Int}
theorem zia {Q:AV→List AO→Prop}(h:TsR σ T)(hr:RdyR σ T r rs)(hl:rs.length<2^20)(hq:Q (.bool (decide (T.nf<T.po)||!rs.isEmpty)) σ):dO (ze4 [.obj T.s] [] σ) Q:=by
 refine fx (l:=[some (.obj T.s),none,none]) 3 (by rfl) (by rfl) (by rfl) (by rfl) ?_
 unfold D_Ts_is_active
 repeat walk_at "w"
 refine fB h.hs h.hd iD hr.look rfl ?_
 repeat walk_at "w"
 refine iQ (b:=false) rfl (eK ?_)
 walk_at "f"
 repeat walk_at "w"
 refine fB h.hs h.hd z1w zwv rfl ?_
 repeat walk_at "w"
 refine fB h.hs h.hd z1v zwu rfl ?_
 refine zu0 ?_
 repeat walk_at "w"
 refine eK ?_
 by_cases hb:T.nf<T.po
 ·rw[decide_eq_true hb]at hq ⊢
  walk_at "t"
  repeat walk_at "w"
  exact hq
 ·rw[decide_eq_false hb]at hq ⊢
  walk_at "f"
  repeat walk_at "w"
  refine fB h.hs h.hd iD hr.look rfl ?_
  repeat walk_at "w"
  have e:(!rs.isEmpty)=!(rs.map AV.int).isEmpty:=by cases rs<;>rfl
  rw[Bool.false_or,e]at hq
  refine cH (by show(d7 σ r).bind _=_;exact c8 (eR hr.list) (if_pos (by rw[ae];exact ag (by assumption) (by decide)))) ?_
  repeat walk_at "w"
  exact hq
end
section
variable {θ:Nat→Option AV}{σ σ':List AO}{Q:AV→St→Prop}{H:fV}{x y:Str}
theorem ztv {l:Nat}:(hdA l).lookup (S "get")=none:=by rfl
theorem zv4 {l:Nat}:(hdA l).lookup (S "keys")=none:=by rfl
theorem zv3 {l:Nat}:(hdA l).lookup (S "setdefault")=none:=by rfl
theorem zvx {Q:AV→List AO→Prop}(h:HdR σ H)(hn:H.ps.length<2^20)(hq:Q (.int H.ps.length) σ):dO (zkk [.obj H.t] [] σ) Q:=by
 refine fx (l:=[some (.obj H.t),none]) 2 (by rfl) (by rfl) (by rfl) (by rfl) ?_
 unfold D_Hd_len
 repeat walk_at "w"
 refine fB h.ht h.hd zui ztu rfl ?_
 repeat walk_at "w"
 refine zkq h.hl (by rw[ae];exact ag (by assumption) (by decide)) ?_
 rw[ae]
 repeat walk_at "w"
 exact hq
theorem zea {Q:AV→List AO→Prop}(h:HdR σ H)(hk:HdOk H)(hx:NmOk x)(px:gO x=true)(sx:x.cps.size<2^62)(py:gO y=true)(sy:y.cps.size<2^62)
  (h1:∀v,getH H.ps x=some v→Q (.str v) σ) (h2:getH H.ps x=none→∀v σ',HdP σ H.t H.d H.l (H.ps++[(x,y)]) (.str y) [H.l] v σ'→Q v σ') :
  dO (zcz [.obj H.t,.str x,.str y] [] σ) Q:=by
 refine fx (l:=[some (.obj H.t),some (.str x),some (.str y),none]) 4 (by rfl) (by rfl) (by rfl) (by rfl) ?_
 unfold D_Hd_setdefault
 repeat walk_at "w"
 refine dv (gm h.ht h.hd ztv) ?_
 repeat walk_at "w"
 refine fh (zox h hk hx ?_)
 cases e:getH H.ps x with
 |some v =>
  repeat walk_at "w"
  refine iQ (b:=false) rfl (eK ?_)
  walk_at "f"
  repeat walk_at "w"
  exact h1 v e
 |none =>
  repeat walk_at "w"
  refine iQ (b:=true) rfl (eK ?_)
  walk_at "t"
  repeat walk_at "w"
  refine fB h.ht h.hd zui ztu rfl ?_
  refine fY (dv (gw h.hl) ?_)
  repeat walk_at "w"
  refine dv (gm h.ht h.hd ztw) ?_
  repeat walk_at "w"
  refine zjd (zej px sx ?_)
  repeat walk_at "w"
  refine dv (gm h.ht h.hd ztw) ?_
  repeat walk_at "w"
  refine zjd (zej py sy ?_)
  repeat walk_at "w"
  refine zij (show 2<2^20 by decide) ?_
  repeat walk_at "w"
  refine ie h.hl (by rw[ae];exact ag hk.len (by decide)) ?_
  repeat walk_at "w"
  refine h2 e _ _ ⟨rfl,⟨ck h.ht (fT h.hl h.ht (by nofun)),ck h.hd (fT h.hl h.hd (by nofun)),?_⟩,⟨by simp,λi o n e=>ck e λq=>n (by refine aw q ?_;simp)⟩⟩
  show _=some (AO.list ((H.ps++[(x,y)]).map fQ))
  refine aw aE ?_
  exact eU h.hl
theorem gF {α β:Type}{f:α→β}(l:List α):(l.flatMap λp=>[f p])=l.map f:=by
 induction l with
 |nil=>rfl
 |cons a l ih=>exact aw bD (aw ih rfl)
theorem ztk {Q:AV→List AO→Prop}(h:HdR σ H)(hn:H.ps.length<2^18)(hq:Q (.obj σ.length) (σ++[.list (H.ps.map λp=>.str p.1)])):dO (zmf [.obj H.t] [] σ) Q:=by
 refine fx (l:=[some (.obj H.t)]) 1 (by rfl) (by rfl) (by rfl) (by rfl) ?_
 unfold D_Hd_keys
 repeat walk_at "w"
 refine gE ?_
 repeat walk_at "w"
 refine fB h.ht h.hd zui ztu rfl ?_
 refine gW h.hl ?_
 dsimp only
 refine gB (m:=[none,none,none]) 3 (by rfl) (by rfl) ?_
 refine iK (out:=λp:Str×Str=>[AV.str p.1]) (λθ=>∃a b,θ=th [none,a,b]) ⟨_,_,rfl⟩ (λl=>fS (b6 h.hl)) ?_ ?_ ?_
 ·rintro p hp _ l ⟨a,b,rfl⟩ hl K hK
  refine zg0 ?_
  dsimp only[ass1,ass0]
  repeat walk_at "w"
  walk_at "t"
  repeat walk_at "w"
  refine gC cR (by exact ag (by assumption) (by decide)) ?_
  exact gJ hK ⟨_,_,rfl⟩
 ·refine aw (gF _) ?_
  rw[ae]
  exact hn
 ·rintro _ ⟨a,b,rfl⟩
  repeat walk_at "w"
  refine⟨rfl,?_⟩
  repeat walk_at "w"
  rw[gF]
  exact hq
end
noncomputable def dm (f:Nat→Nat)(w:Nat):Nat→Nat
 |0=>0
 |p+1=>if w/2^p % 2=1 then max (dm f w p) (1+f p)else dm f w p
noncomputable def depN:Nat→Nat→Nat
 |0,_=>0
 |k+1,w=>dm (depN k) w w
noncomputable def lv:Nat→Nat
 |0=>0
 |k+1=>2^lv k
theorem zud {f:Nat→Nat}{w p:Nat}(h:w/2^p=0)(n:Nat):dm f w (p+n)=dm f w p:=by
 induction n with
 |zero=>rfl
 |succ n ih =>
  have e:w/2^(p+n)=0:=Nat.eq_zero_of_le_zero (h▸Nat.div_le_div_left (Nat.pow_le_pow_right (by decide) (bN _ _)) (eQ (by decide)))
  show(if w/2^(p+n) % 2=1 then _ else _)=_
  refine aw e (aw (if_neg (by decide)) ?_)
  exact ih
theorem z1p {f:Nat→Nat}{w p:Nat}(h:w/2^p=0):dm f w p=dm f w w :=
 (zud h w).symm.trans (ew p w▸zud (Nat.div_eq_of_lt Nat.lt_two_pow_self) p)
section
variable {θ:Nat→Option AV}{σ σ':List AO}{H:fV}{x y:Str}
theorem zkt {x y:Int}{Q:AV→St→Prop}(hy:y≠0∧y.natAbs<2^64)(hq:Q (.int (x.fdiv y)) ⟨θ,σ⟩):wp (augK .FloorDiv (.int x) (.int y)) ⟨θ,σ⟩ Q:=by
 refine cH ?_ hq
 show(augI .FloorDiv x y).map _=_
 unfold augI
 simp only[if_pos hy]
 rfl
inductive DpI (f:Nat→Nat)(σ:List AO)(w n:Nat)(st:St):Prop
 |mk (p:Nat) (e:st=⟨th [some (.int (n:Int)),some (.int (dm f w p:Nat)),some (.int (p:Int)),none,none],σ⟩) (h:n=w/2^p):DpI f σ w n st
theorem zi5 {G:List AV→List (Str×AV)→List AO→Option (AV×List AO)}{f:Nat→Nat}{n w:Nat}{Q:AV→List AO→Prop}(hG:∀p,p<n→∀Q:AV→List AO→Prop,Q (.int (f p:Nat)) σ→dO (G [.int p] [] σ) Q)(hw:w<2^n)
  (hq:Q (.int (dm f w w:Nat)) σ):dO (fb (gG (S "whole")) (dk zcj) (zd3 G).1 [.int w] [] σ) Q:=by
 refine fx (l:=[some (.int w),none,none,none,none]) 5 (by rfl) (by rfl) (by rfl) (by rfl) ?_
 unfold zd3
 repeat walk_at "v"
 refine zdl (DpI f σ w) w ⟨0,rfl,by simp⟩ ?_
 rintro m _ ⟨p,rfl,hm⟩
 repeat walk_at "v"
 refine zz7 ?_
 repeat walk_at "v"
 by_cases h0:(0:Int)<(m:Int)
 ·rw[decide_eq_true h0]
  repeat walk_at "v"
  walk_at "t"
  have hm0:0<w/2^p:=hm▸aX.mp h0
  have hp:p<n:=(Nat.pow_lt_pow_iff_right (by decide)).mp (ak ((Nat.div_pos_iff.mp hm0).2) hw)
  have fin:∀dd:Nat,dd=dm f w (p+1)→∃m',m'<m∧DpI f σ w m' ⟨th [some (.int ((m:Int).fdiv 2)),some (.int (dd:Int)),some (.int ((p:Int)+1)),none,none],σ⟩:=λdd e =>
   ⟨m/2,Nat.div_lt_self (aX.mp h0) (by decide),p+1,by rw[←e,Int.fdiv_eq_ediv_of_nonneg _ (by decide)];rfl,by rw[hm,Nat.div_div_eq_div_mul,fD]⟩
  repeat walk_at "v"
  have ev:(m:Int).fmod 2=((w/2^p % 2:Nat):Int):=by rw[Int.fmod_eq_emod_of_nonneg _ (by decide),hm];rfl
  have ed:dm f w (p+1)=if w/2^p % 2=1 then max (dm f w p) (1+f p)else dm f w p:=rfl
  refine ze8 (λhc=>?_) λhc=>?_
  ·rw[ev,beq_iff_eq]at hc
   rw[if_pos (by exact cW hc)]at ed
   repeat walk_at "v"
   refine fh (hG p hp _ ?_)
   repeat walk_at "v"
   refine zkt (by decide) ?_
   repeat walk_at "v"
   refine zc9 ?_
   repeat walk_at "v"
   have e2:max ((dm f w p:Nat):Int) (1+((f p:Nat):Int))=((dm f w (p+1):Nat):Int):=by rw[ed];lia
   rw[e2]
   exact fin _ rfl
  ·rw[ev,beq_eq_false_iff_ne]at hc
   rw[if_neg (by intro q;exact hc (by rw[q];rfl))]at ed
   repeat walk_at "v"
   refine zkt (by decide) ?_
   repeat walk_at "v"
   refine zc9 ?_
   repeat walk_at "v"
   exact fin _ ed.symm
 ·rw[decide_eq_false h0]
  repeat walk_at "v"
  walk_at "f"
  repeat walk_at "v"
  have:w/2^p=0:=by lia
  rw[z1p this]
  exact hq
theorem zqt {Q:AV→List AO→Prop}(k:Nat):∀{w:Nat} {Q:AV→List AO→Prop},w<lv (k+1)→Q (.int (depN (k+1) w:Nat)) σ→dO (zd2 (k+1) [.int w] [] σ) Q:=by
 induction k with
 |zero=>exact λhw hq=>zi5 (n:=0) (λp hp=>absurd hp (aW _)) hw hq
 |succ k ih=>exact λhw hq=>zi5 (n:=lv (k+1)) (λp hp Q hq=>ih hp hq) hw hq
end
noncomputable def fig (x:Int)(j:Nat):Bool:=(x.fdiv (2^j)).fmod 2==1
noncomputable def ir (k:Nat):Nat:=(k+1)/2*2-1
noncomputable def gx (D:List Int)(k:Nat):List Nat:=if k=0 then[]else(List.range (ir k)).filter λj=>fig (D.getD (k-1) 0) j
noncomputable def wrow (W:Nat→List Nat)(k:Int):List AV:=(W k.toNat).map λj:Nat=>.int j
section
variable {θ:Nat→Option AV}{σ σ':List AO}{o:Nat}
theorem le8 {i:Nat}(h:i<8):i=0∨i=1∨i=2∨i=3∨i=4∨i=5∨i=6∨i=7:=by lia
theorem zyp {i:Nat}(h:i<8)(st:St):Builtin.Int.intBits ((1+(i:Int)+1).fdiv 2)≤64∧zsq [.int ((1+(i:Int)+1).fdiv 2*2-1)] st=some (.rng 0 1 (ir (i+1)),st)∧ir (i+1)<50:=by
 rcases le8 h with e|e|e|e|e|e|e|e<;>subst e<;>exact⟨by decide,rfl,by decide⟩
theorem zrf {x:Int}{j:Nat}{Q:AV→St→Prop}(h:j≤1000000∧x.natAbs<2^64)(hq:Q (.int (x^j)) ⟨θ,σ⟩):wp (powK (.int x) (.int (j:Int))) ⟨θ,σ⟩ Q:=by
 refine cH ?_ hq
 show(if 0≤(j:Int)∧(j:Int)≤1000000∧x.natAbs<2^64 then _ else _)=_
 refine aw (if_pos ⟨aG _,by lia,h.2⟩) ?_
 rfl
inductive WiI (σ:List AO)(o:Nat)(W:Nat→List Nat)(n:Nat)(st:St):Prop
 |mk (rf:Int→Nat) (wo:Nat) (a:Option AV) (e1:st.θ=th [some (.obj o),some (.obj wo),a,none]) (e2:σ.length≤wo) (e3:Frm σ st.σ []) (e4:MatR st.σ wo (n+1) rf (wrow W)):WiI σ o W n st
set_option maxHeartbeats 4000000 in
theorem zmq {D:List Int}(hd:σ[o]?=some (.list (D.map .int)))(hlen:D.length=8):dO (zgr [.obj o] [] σ) (MatP σ 9 (wrow (gx D))):=by
 refine gU λQ hQ=>?_
 refine fx (l:=[some (.obj o),none,none,none]) 4 (by rfl) (by rfl) (by rfl) (by rfl) ?_
 unfold D_law_within
 repeat walk_at "v"
 refine gj (by decide) ?_
 repeat walk_at "v"
 refine gj (show 1<2^20 by decide) ?_
 repeat walk_at "v"
 refine cH (a:=.rng 1 1 8) rfl ?_
 refine zwm ?_
 dsimp only
 refine zf3 (WiI σ o (gx D)) ?_ ?_ ?_
 ·refine⟨λu1=>σ.length,_,none,rfl,?_,?_,?_⟩
  ·simp
  ·exact((Frm.refl σ []).pushN _).pushN _
  ·refine⟨cR,λh h0 h1=>?_,λh h0 h1=>?_⟩
   ·have:h=0:=by lia
    subst this
    exact b6 cR
   ·simp
 ·rintro i hi ⟨_,σ1⟩ ⟨rf,wo,a,(rfl:_=th _),hle,F,M⟩
  have F:Frm σ σ1 []:=F
  have M:MatR σ1 wo (i+1) rf (wrow (gx D)):=M
  have hd1:=F.keep0 hd
  have hwo:=ek M.top
  refine⟨fK,λK hK=>?_⟩
  repeat walk_at "v"
  refine dv (gw M.top) ?_
  repeat walk_at "v"
  refine gE ?_
  repeat walk_at "v"
  refine zrm (zyp hi ⟨th [],σ⟩).1 ?_
  repeat walk_at "v"
  refine cH (zyp hi _).2.1 ?_
  refine zf2 ?_
  dsimp only
  have hw:=(zyp hi ⟨th [],σ⟩).2.2
  refine gB (m:=[none,none,some (.obj o),some (.int (1+i))]) 4 (by rfl) (by rfl) ?_
  refine zmo (out:=λj:Int=>if fig (D.getD i 0) j.toNat=true then[.int j]else[]) (λθ=>∃a,θ=th [none,a,some (.obj o),some (.int (1+i))]) ⟨_,rfl⟩ (λl=>fK) (a9 hw (by decide)) (λj=>by split<;>simp) ?_ ?_
  ·rintro j hj _ l ⟨a,rfl⟩ hl K hK
   have e2:1+(i:Int)-1=i:=by lia
   have hp:((2:Int)^j).natAbs<2^64:=by rw[Int.natAbs_pow];exact Nat.pow_lt_pow_right (by decide) (by lia)
   have hi:i<D.length:=hlen▸hi
   have hg:(D.map AV.int)[i]?=some (.int (D.getD i 0)):=by rw[aK,av,an hi];rfl
   repeat walk_at "v"
   refine aw e2 ?_
   refine eM (b6 hd1) (ii hg (by lia)) ?_
   repeat walk_at "v"
   refine zrf ⟨by lia,by decide⟩ ?_
   repeat walk_at "v"
   refine zwp ⟨Int.ne_of_gt (Int.pow_pos (by decide)),hp⟩ ?_
   repeat walk_at "v"
   refine ze8 (λhc=>?_) (λhc=>?_)
   ·rw[if_pos (by exact hc)]at hK
    repeat walk_at "v"
    walk_at "t"
    repeat walk_at "v"
    refine gC cR (by exact ag (by assumption) (by decide)) ?_
    exact gJ hK ⟨_,rfl⟩
   ·rw[if_neg (by exact λq=>Bool.noConfusion (hc.symm.trans q))]at hK
    repeat walk_at "v"
    walk_at "f"
    repeat walk_at "v"
    exact zki hK ⟨_,rfl⟩
  rintro _ ⟨a2,rfl⟩
  repeat walk_at "v"
  refine⟨rfl,?_⟩
  dsimp only
  have e1:((List.range (ir (i+1))).flatMap λj:Nat=>if fig (D.getD i 0) ((j:Int)).toNat=true then[AV.int (j:Int)]else[])=wrow (gx D) ((i+1:Nat):Int):=by
   show _=(gx D (i+1)).map λj:Nat=>AV.int j
   exact zj5 (p:=λj=>fig (D.getD i 0) j) (f:=λj:Nat=>AV.int j) _
  rw[e1]
  have M:=M.push (.list (wrow (gx D) ((i+1:Nat):Int)))
  have F:=F.pushN (.list (wrow (gx D) ((i+1:Nat):Int)))
  have t1:(σ1++[AO.list (wrow (gx D) ((i+1:Nat):Int))])[σ1.length]?=some (.list (wrow (gx D) ((i+1:Nat):Int))):=cR
  have hne:σ1.length≠wo:=bE hwo
  repeat walk_at "v"
  refine ie M.top (by refine aw gz ?_;exact ak (by assumption) (by decide)) ?_
  repeat walk_at "v"
  exact hK _ ⟨_,wo,_,rfl,hle,F.setN hle _,M.more t1 hne⟩
 ·rintro⟨_,σ1⟩ ⟨rf,wo,a,(rfl:_=th _),hle,F,M⟩
  have F:Frm σ σ1 []:=F
  have M:MatR σ1 wo (8+1) rf (wrow (gx D)):=M
  refine⟨fK,?_⟩
  repeat walk_at "v"
  exact hQ _ _ ⟨wo,rf,rfl,hle,F,M⟩
end
theorem ip (f:Int→Int)(k v s:Int):setF f k v s=if s=k then v else f s:=rfl
theorem zci (a s:Int)(l:List Int):((a::l).count s:Int)=l.count s+if s=a then 1 else 0:=by
 refine aw eE ?_
 by_cases h:s=a
 ·refine aw (if_pos h) (aw (if_pos (by simp[h])) ?_);exact rfl
 ·refine aw (if_neg h) (aw (if_neg (by simpa using λe=>h e.symm)) ?_);exact rfl
structure RelD (f:Int→Int)(l0 L:List Int)(q:(Int→Int)×List Int):Prop where
 np:∀s,q.1 s=f s-(L.count s:Int)
 nd:q.2.Nodup
 mem:∀s,s∈q.2↔s∈l0∨s∈L∧f s=(L.count s:Int)
theorem zis:∀(L:List Int) (f:Int→Int) (l0:List Int),(∀s∈L,(L.count s:Int)≤f s)→(∀s∈l0,s∉L)→l0.Nodup→RelD f l0 L (L.foldl fZ (f,l0))
 | [],f,l0,_,_,hn=>⟨λs=>by simp,hn,λs=>by simp⟩
 |a::L,f,l0,hge,h0,hn=>by
  have ha:=hge a (aj ..)
  rw[zci,if_pos rfl]at ha
  have hc:∀{s},s∈L→0<(L.count s:Int):=λh=>by have:=cv.mpr h;exact aX.mpr (by assumption)
  have hc0:∀{s},s∉L→(L.count s:Int)=0:=λh=>by have:=List.count_eq_zero.mpr h;solve_by_elim (maxDepth:=3) [ag,ak,aI,a9,bG,aL,bE,bg,b7,bj,And.left,And.right]
  have key:=zis L (setF f a (f a-1)) (if f a-1=0 then l0++[a]else l0) (λs hs=>by
    rw[ip]
    have:=hge s (af _ hs)
    rw[zci]at this
    split
    ·rename_i e;subst e;lia
    ·rename_i e;rw[if_neg e]at this;assumption) (λs hs hL=>by
    have hl:s∈l0→False:=λh=>h0 s h (af _ hL)
    split at hs
    ·rename_i e
     refine cF (aD.mp hs) (λh=>?_) λh=>?_
     ·exact hl h
     ·rw[ac.mp h]at hL
      have:=hc hL
      lia
    ·exact hl hs) (by
    split
    ·refine b5.mpr ⟨hn,List.nodup_cons.mpr ⟨bV,bR⟩,λx hx y hy e=>?_⟩
     rw[ac.mp hy]at e
     exact h0 x hx (e▸aj ..)
    ·exact hn)
  refine⟨λs=>?_,key.nd,λs=>?_⟩
  ·rw[cg]
   show(L.foldl fZ (setF f a (f a-1),if f a-1=0 then l0++[a]else l0)).1 s=_
   rw[key.np s,ip,zci]
   split
   ·rename_i e;subst e;lia
   ·lia
  ·rw[cg]
   show s∈(L.foldl fZ (setF f a (f a-1),if f a-1=0 then l0++[a]else l0)).2↔_
   rw[key.mem s,ip,zci]
   by_cases e:s=a
   ·subst e
    rw[if_pos rfl,if_pos rfl]
    have hs0:s∉l0:=λh=>h0 s h (aj ..)
    constructor
    ·rintro(h|⟨h,h2⟩)
     ·split at h
      ·rename_i e2
       have:s∉L:=λq=>by have:=hc q;lia
       have:=hc0 this
       exact .inr ⟨aj ..,by lia⟩
      ·exact absurd h hs0
     ·exact .inr ⟨aj ..,by lia⟩
    ·rintro(h|⟨-,h2⟩)
     ·exact absurd h hs0
     ·by_cases q:s∈L
      ·exact .inr ⟨q,by lia⟩
      ·have:=hc0 q
       rw[if_pos (by lia)]
       exact .inl (cx _ (ac.mpr rfl))
   ·rw[if_neg e,if_neg e,Int.add_zero,au]
    have:(s∈(if f a-1=0 then l0++[a]else l0))↔s∈l0:=by
     split
     ·rw[aD,ac];exact⟨λh=>h.resolve_right e,.inl⟩
     ·exact Iff.rfl
    rw[this]
    exact⟨λh=>h.imp_right λh=>⟨.inr h.1,h.2⟩,λh=>h.imp_right λh=>⟨h.1.resolve_left e,h.2⟩⟩
structure z23 (su:Int→List Int)(f:Int→Int)(l0 gs:List Int)(q:(Int→Int)×List Int):Prop where
 np:∀s,q.1 s=if s∈gs then -2 else f s-((gs.flatMap su).count s:Int)
 nd:q.2.Nodup
 mem:∀s,s∈q.2↔s∈l0∨s∈gs.flatMap su∧f s=((gs.flatMap su).count s:Int)
theorem zct (s:Int)(l m:List Int):((l++m).count s:Int)=l.count s+m.count s:=by refine aw List.count_append ?_;exact rfl
theorem zhy {su:Int→List Int}:∀(gs:List Int) (f:Int→Int) (l0:List Int),(∀g∈gs,∀h∈gs,h∉su g)→(∀s∈gs.flatMap su,((gs.flatMap su).count s:Int)≤f s)→(∀s∈l0,s∉gs.flatMap su)→l0.Nodup→z23 su f l0 gs (gs.foldl (gg su) (f,l0))
 | [],f,l0,_,_,_,hn=>⟨λs=>by simp,hn,λs=>by simp⟩
 |g::gs,f,l0,hd,hge,h0,hn=>by
  have hgg:g∉su g:=hd g (aj ..) g (aj ..)
  have hgr:g∉gs.flatMap su:=λh=>let ⟨x,hx,h⟩:=cE.mp h;hd x (af _ hx) g (aj ..) h
  have hc0:∀{s} {L:List Int},s∉L→(L.count s:Int)=0:=λh=>by have:=List.count_eq_zero.mpr h;solve_by_elim (maxDepth:=3) [ag,ak,aI,a9,bG,aL,bE,bg,b7,bj,And.left,And.right]
  have hge':∀s,s∈su g∨s∈gs.flatMap su→((su g).count s:Int)+((gs.flatMap su).count s:Int)≤f s:=λs hs=>by
   have:=hge s (by exact aw bD (aD.mpr hs))
   rw[bD,zct]at this
   exact this
  have k1:=zis (su g) (setF f g (-2)) l0 (λs hs=>by
   rw[ip,if_neg (λ(e:s=g)=>hgg (e▸hs))]
   have:=hge' s (.inl hs)
   lia) (λs hs h=>h0 s hs (by rw[bD];exact bK _ h)) hn
  generalize hq:(su g).foldl fZ (setF f g (-2),l0)=q at k1
  have k2:=zhy gs q.1 q.2 (λx hx y hy=>hd x (af _ hx) y (af _ hy)) (λs hs=>by
   rw[k1.np,ip,if_neg (λ(e:s=g)=>hgr (e▸hs))]
   have:=hge' s (.inr hs)
   lia) (λs hs h=>by
   rcases(k1.mem s).mp hs with h1|⟨h1,h2⟩
   ·exact h0 s h1 (by rw[bD];exact cx _ h)
   ·rw[ip,if_neg (λ(e:s=g)=>hgg (e▸h1))]at h2
    have:=hge' s (.inr h)
    have:=cv.mpr h
    lia) k1.nd
  have e:(g::gs).foldl (gg su) (f,l0)=gs.foldl (gg su) (q.1,q.2):=by
   rw[cg]
   show gs.foldl (gg su) ((su g).foldl fZ (setF f g (-2),l0))=_
   rw[hq]
  rw[e]
  refine⟨λs=>?_,k2.nd,λs=>?_⟩
  ·rw[k2.np,k1.np,ip,bD,zct]
   by_cases e1:s=g
   ·subst e1
    rw[if_pos (aj ..),if_pos rfl]
    split
    ·rfl
    ·rw[hc0 hgg,hc0 hgr];rfl
   ·rw[if_neg e1]
    by_cases e2:s∈gs
    ·rw[if_pos e2,if_pos (af _ e2)]
    ·rw[if_neg e2,if_neg (λh=>(au.mp h).elim e1 e2)];lia
  ·rw[k2.mem,k1.mem,k1.np,ip,bD,zct,aD]
   by_cases e1:s=g
   ·subst e1
    exact⟨λh=>h.elim (λh=>h.elim .inl λh=>absurd h.1 hgg) λh=>absurd h.1 hgr,λh=>h.elim (λh=>.inl (.inl h)) λh=>h.1.elim (λh=>absurd h hgg) λh=>absurd h hgr⟩
   ·rw[if_neg e1]
    constructor
    ·rintro((h|⟨h1,h2⟩)|⟨h1,h2⟩)
     ·exact .inl h
     ·refine .inr ⟨.inl h1,?_⟩
      have:=hge' s (.inl h1)
      lia
     ·exact .inr ⟨.inr h1,by lia⟩
    ·rintro(h|⟨h1,h2⟩)
     ·exact .inl (.inl h)
     ·by_cases h3:s∈gs.flatMap su
      ·exact .inr ⟨h3,by lia⟩
      ·rw[hc0 h3]at h2
       exact .inl (.inr ⟨h1.resolve_right h3,by lia⟩)
theorem zok (np:Int→Int):∀(rs:List Int) (s:Int),rs.foldl (λnp k=>setF np k (-1)) np s=if s∈rs then -1 else np s:=by
 intro rs
 induction rs generalizing np with
 |nil=>intro s;rfl
 |cons a l ih =>
  intro s
  rw[cg,ih,ip]
  by_cases h1:s∈l
  ·rw[if_pos h1,if_pos (af _ h1)]
  ·rw[if_neg h1]
   by_cases h2:s=a
   ·rw[if_pos h2,if_pos (by rw[h2];exact aj ..)]
   ·rw[if_neg h2,if_neg (λh=>(au.mp h).elim h2 h1)]
structure Gr (n:Nat)(ps:Int→List Int)(rk:Int→Int):Prop where
 nd:∀k:Int,(ps k).Nodup
 out:∀k:Int,¬(0≤k∧k<n)→ps k=[]
 mem:∀k:Int,∀j∈ps k,(0≤j∧j<n)∧rk j<rk k
 nn:∀k:Int,0≤k→k<n→0≤rk k
 tight:∀k:Int,0≤k→k<n→rk k=0∧ps k=[]∨∃j∈ps k,rk k=rk j+1
noncomputable def iN (rk:Int→Int)(r:Int)(l:List Int):Nat:=l.countP λj=>decide (r≤rk j)
theorem zfs (rk:Int→Int)(r:Int)(l:List Int):iN rk r l=(l.countP λj=>decide (rk j=r))+iN rk (r+1) l:=by
 unfold iN
 induction l with
 |nil=>rfl
 |cons a l ih =>
  rw[du,du,du,ih]
  simp only[decide_eq_true_eq]
  rcases Int.lt_trichotomy (rk a) r with q|q|q
  ·rw[if_neg (by lia),if_neg (by lia),if_neg (by lia)];lia
  ·rw[if_pos (by lia),if_pos q,if_neg (by lia)];lia
  ·rw[if_pos (by lia),if_neg (by lia),if_pos (by lia)];lia
structure Rnd (n:Nat)(ps:Int→List Int)(rk:Int→Int)(r:Int)(np:Int→Int)(rs:List Int):Prop where
 nd:rs.Nodup
 mem:∀k:Int,k∈rs↔(0≤k∧k<n)∧rk k=r
 np:∀k:Int,0≤k→k<n→r≤rk k→np k=(iN rk r (ps k):Int)
section
variable {n:Nat}{ps:Int→List Int}{rk:Int→Int}{su:Int→List Int}{r:Int}{np:Int→Int}{rs gs:List Int}
theorem zv8 {s:Int}(hsu:∀p,(su p).count s=(ps s).count p):∀{gs:List Int},gs.Nodup→(gs.flatMap su).count s=(ps s).countP λp=>decide (p∈gs):=by
 intro gs
 induction gs with
 |nil=>exact λu1=>(List.countP_eq_zero.mpr λp u1=>by simp).symm
 |cons g gs ih =>
  intro h
  have h:=List.nodup_cons.mp h
  refine aw bD (aw List.count_append (aw (ih h.2) (aw (hsu g) ?_)))
  generalize ps s=l
  induction l with
  |nil=>rfl
  |cons a l ih2 =>
   refine aw du (aw du (aw eE (dI ih2 ?_)))
   simp only[decide_eq_true_eq,au,beq_iff_eq]
   by_cases e:a=g
   ·refine aw (if_pos e) (aw (if_neg (e▸h.1)) (aw (if_pos (.inl e)) ?_));lia
   ·refine aw (if_neg e) ?_
    by_cases e2:a∈gs
    ·refine aw (if_pos e2) (aw (if_pos (.inr e2)) ?_);lia
    ·refine aw (if_neg e2) (aw (if_neg λq=>q.elim e e2) ?_);lia
structure RndD (n:Nat)(ps:Int→List Int)(rk:Int→Int)(su:Int→List Int)(r:Int)(np:Int→Int)(rs:List Int):Prop where
 one:∀p1 k p2,p1++k::p2=rs→(p1.foldl (gg su) (np,[])).1 k=-1
 nx:Rnd n ps rk (r+1) (rs.foldl (gg su) (np,[])).1 (rs.foldl (gg su) (np,[])).2
theorem Rnd.step (G:Gr n ps rk)(h0:0≤r)(R:Rnd n ps rk r np rs)(hsu:∀p s,(su p).count s=(ps s).count p):RndD n ps rk su r (rs.foldl (λnp k=>setF np k (-1)) np) rs:=by
 have hmem:∀{p s},s∈su p→p∈ps s:=λ{p s} h=>by
  have h1:=cv.mpr h
  rw[hsu p s]at h1
  exact cv.mp h1
 have hrk:∀{p s},s∈su p→rk p<rk s:=λ{p s} h=>(G.mem s p (hmem h)).2
 have hrg:∀{p s},p∈ps s→0≤s∧s<n:=λ{p s} h=>cs λq=>by rw[G.out s q]at h;cases h
 have hdis:∀g∈rs,∀h∈rs,h∉su g:=λg hg h hh q=>by
  have:=hrk q
  rw[((R.mem g).mp hg).2,((R.mem h).mp hh).2]at this
  exact absurd this (Int.lt_irrefl _)
 have hin:∀{s},s∈rs.flatMap su→(0≤s∧s<n)∧r<rk s:=λ{s} h=>by
  obtain⟨g,hg,h⟩:=cE.mp h
  have:=hrk h
  rw[((R.mem g).mp hg).2]at this
  exact⟨hrg (hmem h),this⟩
 have hcnt:∀s:Int,(rs.flatMap su).count s=(ps s).countP λj=>decide (rk j=r):=λs=>by
  rw[zv8 (λp=>hsu p s) R.nd]
  refine List.countP_congr λj hj=>?_
  rw[decide_eq_true_eq,decide_eq_true_eq,R.mem]
  exact and_iff_right (G.mem s j hj).1
 have hnp1:∀s:Int,0≤s∧s<n→r<rk s→rs.foldl (λnp k=>setF np k (-1)) np s=(iN rk r (ps s):Int):=λs hs h=>by
  rw[zok,if_neg λq=>by have:=((R.mem s).mp q).2;lia,R.np s hs.1 hs.2 (Int.le_of_lt h)]
 have hnpr:∀s∈rs,rs.foldl (λnp k=>setF np k (-1)) np s=-1:=λs hs=>by rw[zok,if_pos hs]
 generalize rs.foldl (λnp k=>setF np k (-1)) np=np1 at hnp1 hnpr
 have hle:∀s∈rs.flatMap su,((rs.flatMap su).count s:Int)≤np1 s:=λs hs=>by
  obtain⟨h1,h2⟩:=hin hs
  rw[hcnt s,hnp1 s h1 h2,zfs]
  exact Int.ofNat_le.mpr (bN _ _)
 have D:=zhy rs np1 [] hdis hle (by nofun) bR
 refine⟨λp1 k p2 e=>?_,⟨D.nd,λk=>?_,λk h1 h2 h3=>?_⟩⟩
 ·have hsub:∀x∈p1,x∈rs:=λx hx=>e▸bK _ hx
  have hk:k∈rs:=by rw[←e];simp
  have D1:=zhy (su:=su) p1 np1 [] (λx hx y hy=>hdis x (hsub x hx) y (hsub y hy)) (λs hs=>by
   have h2:s∈rs.flatMap su:=let ⟨x,hx,h⟩:=cE.mp hs;cE.mpr ⟨x,hsub x hx,h⟩
   have h1:=hle s h2
   rw[←e,List.flatMap_append,zct]at h1
   lia) (by nofun) bR
  have hn:=R.nd
  rw[←e,b5]at hn
  rw[D1.np,if_neg (λh=>hn.2.2 k h k aj rfl),hnpr k hk]
  have:k∉p1.flatMap su:=λh=>by
   obtain⟨x,hx,h⟩:=cE.mp h
   exact hdis x (hsub x hx) k hk h
  rw[List.count_eq_zero.mpr this]
  rfl
 ·rw[D.mem]
  constructor
  ·rintro(h|⟨h,h2⟩)
   ·cases h
   ·obtain⟨h3,h4⟩:=hin h
    rw[hcnt k,hnp1 k h3 h4,zfs]at h2
    have z:iN rk (r+1) (ps k)=0:=by lia
    refine⟨h3,?_⟩
    rcases G.tight k h3.1 h3.2 with⟨e,-⟩|⟨j,hj,e⟩
    ·lia
    ·unfold iN at z
     have:=List.countP_eq_zero.mp z j hj
     rw[decide_eq_true_eq]at this
     lia
  ·rintro⟨h1,h2⟩
   obtain⟨j,hj,e⟩:=(G.tight k h1.1 h1.2).resolve_left λq=>by have:=q.1;lia
   have hj2:0<(ps k).countP λj=>decide (rk j=r):=List.countP_pos_iff.mpr ⟨j,hj,decide_eq_true (by lia)⟩
   refine .inr ⟨cv.mp (by rw[hcnt k];exact hj2),?_⟩
   have z:iN rk (r+1) (ps k)=0:=List.countP_eq_zero.mpr λi hi=>by
    have:=(G.mem k i hi).2
    rw[decide_eq_true_eq]
    lia
   rw[hcnt k,hnp1 k h1 (by lia),zfs,z]
   rfl
 ·rw[D.np,if_neg (λh=>by have:=((R.mem k).mp h).2;lia),hnp1 k ⟨h1,h2⟩ (by lia),hcnt k,zfs]
  lia
end
section
variable {σ σ':List AO}{n0 n:Nat}{ps:Int→List Int}{rk:Int→Int}{T T':TsD}{D:Int→Bool}{m:Nat}{c:Int}
theorem zhn {ks:List Int}{k x:Int}:x∈gT ks k↔x∈ks∨x=k:=by
 unfold gT
 split
 ·rename_i h
  exact⟨.inl,λq=>q.elim id λe=>e▸h⟩
 ·rw[aD,ac]
theorem zgm {x:Int}:∀{l ks:List Int},x∈l.foldl gT ks↔x∈ks∨x∈l
 | [],ks=>by simp
 |a::l,ks=>by rw[cg,zgm,zhn,au,or_assoc]
theorem zqh {p s c:Int}{l:List Int}:∀{su:Int→List Int},((l.foldl (gA c) su) p).count s=(su p).count s+if s=c then l.count p else 0:=by
 induction l with
 |nil =>
  intro su
  simp
 |cons a l ih =>
  intro su
  refine aw cg (aw ih ?_)
  unfold gA
  refine aw eE ?_
  by_cases h:p=a
  ·refine aw (if_pos h) (aw List.count_append (aw eE (aw List.count_nil ?_)))
   by_cases e:s=c
   ·simp[h,e];lia
   ·have:¬c=s:=λq=>e q.symm
    simp[e,this]
  ·refine aw (if_neg h) ?_
   have:¬a=p:=λq=>h q.symm
   simp[this]
structure AddQ (n0 n:Nat)(ps:Int→List Int)(D:Int→Bool)(m:Nat)(σ:List AO)(T:TsD):Prop where
 ts:TsR σ T
 r:T.r=.none
 s:T.s=n0+1
 cnt:T.cnt≤m
 ft:∀i∈T.foot,n0≤i
 np:∀i,T.np i=if D i=true then((ps i).length:Int)else 0
 su:∀p s,(T.su p).count s=if D s=true then(ps s).count p else 0
 kr:∀k:Int,k∈T.ks→0≤k∧k<n
 kd:∀k,D k=true→k∈T.ks
 pn:T.po=0∧T.nf=0
theorem AddQ.step (I:AddQ n0 n ps D m σ T)(G0:Gr n ps rk)(hn:n0≤σ.length)(hc:D c=false)(h7:0≤c∧c<n)(R:TsR σ' T')(G:Grows σ T T')
  (hk:T'.ks=(ps c).foldl gT (gT T.ks c)) (hnp:T'.np=setF T.np c (T.np c+(ps c).length)) (hsu:T'.su=(ps c).foldl (gA c) T.su) (hcn:T'.cnt≤T.cnt+2*(ps c).length+1):AddQ n0 n ps (λx=>D x||decide (x=c)) (m+(2*(ps c).length+1)) σ' T':=by
 have mk:∀x,x∈T'.ks↔(x∈T.ks∨x=c)∨x∈ps c:=λx=>by rw[hk,zgm,zhn]
 refine⟨R,G.r.trans I.r,G.s.trans I.s,by have:=I.cnt;lia,λi hi=>?_,λi=>?_,λp s=>?_,λk hk'=>?_,λk hk'=>?_,⟨G.po.trans I.pn.1,G.nf.trans I.pn.2⟩⟩
 ·rcases G.foot i hi with q|q
  ·exact I.ft i q
  ·lia
 ·rw[hnp,ip,I.np c,I.np i,hc]
  by_cases e:i=c
  ·subst e;simp
  ·rw[if_neg e,decide_eq_false e,dY]
 ·rw[hsu,zqh,I.su p s]
  by_cases e:s=c
  ·subst e;rw[hc];simp
  ·rw[if_neg e,decide_eq_false e,dY];rfl
 ·rcases(mk k).mp hk' with(q|q)|q
  ·exact I.kr k q
  ·rw[q];exact h7
  ·exact(G0.mem c k q).1
 ·rw[cB]at hk'
  rcases hk' with q|q
  ·exact(mk k).mpr (.inl (.inl (I.kd k q)))
  ·exact(mk k).mpr (.inl (.inr (of_decide_eq_true q)))
theorem AddQ.same {m':Nat}{D':Int→Bool}(I:AddQ n0 n ps D m σ T)(h:∀k,D k=D' k)(hm:m≤m'):AddQ n0 n ps D' m' σ T:=by
 have:D=D':=funext h
 subst this;exact⟨I.ts,I.r,I.s,aI I.cnt hm,I.ft,I.np,I.su,I.kr,I.kd,I.pn⟩
structure AddZ (n0 n:Nat)(ps:Int→List Int)(rk:Int→Int)(m:Nat)(σ:List AO)(T:TsD):Prop where
 su:∀p s,(T.su p).count s=(ps s).count p
 kn:∀k:Int,k∈T.ks↔0≤k∧k<n
 cnt:T.cnt≤m
 ord:∀k∈T.ks,∀s∈T.su k,s∈T.ks∧(rk k).toNat<(rk s).toNat
 wt:gn T.su (λu1=>false) T.ks≤n*(m+2)
 len:T.ks.length≤n
 zs:Rnd n ps rk 0 T.np (il T.np T.L)
theorem zxd {su:Int→List Int}{S:Int→Bool}{b:Nat}(h:∀k,(su k).length≤b)(l:List Int):gn su S l≤l.length*(b+2):=by
 induction l with
 |nil =>
  exact aU _
 |cons v l ih =>
  have:=ih
  have:=h v
  unfold gn
  rw[bp,Nat.succ_mul]
  split<;>lia
theorem AddQ.end_ (I:AddQ n0 n ps D m σ T)(G:Gr n ps rk)(hD:∀k:Int,D k=true↔0≤k∧k<n):AddZ n0 n ps rk m σ T:=by
 have hsu:∀p s,(T.su p).count s=(ps s).count p:=λp s=>by
  refine aw (I.su p s) ?_
  split
  ·rfl
  ·rename_i h
   rw[hD]at h
   refine aw (G.out s h) ?_;rfl
 have kn:∀k:Int,k∈T.ks↔0≤k∧k<n:=λk=>⟨I.kr k,λh=>I.kd k ((hD k).mpr h)⟩
 have hlen:T.ks.length≤n:=by
  have:=bH (l₂:=(List.range n).map λi:Nat=>(i:Int)) I.ts.nd λk hk=>by
   have:=(kn k).mp hk
   exact aH.mpr ⟨k.toNat,ax.mpr (by lia),by lia⟩
  rwa[ae,aC]at this
 refine⟨hsu,kn,I.cnt,λk hk s hs=>?_,?_,hlen,?_,λk=>?_,λk h0 h7 u1=>?_⟩
 ·have h1:=cv.mpr hs
  rw[hsu k s]at h1
  have h2:=cv.mp h1
  have h3:=G.mem s k h2
  have h4:0≤s∧s<n:=cs λq=>by rw[G.out s q]at h2;cases h2
  have h5:=G.nn k h3.1.1 h3.1.2
  exact⟨(kn s).mpr h4,by have:=h3.2;lia⟩
 ·exact aI (zxd (λk=>aI (I.ts.sz k) I.cnt) T.ks) (Nat.mul_le_mul_right _ hlen)
 ·exact I.ts.nd.sublist List.filter_sublist
 ·unfold il
  rw[bh]
  show k∈T.ks∧_↔_
  rw[kn,I.np k]
  refine and_congr_right λh=>?_
  refine aw (if_pos ((hD k).mpr h)) ?_
  rw[beq_iff_eq]
  rcases G.tight k h.1 h.2 with⟨e,e2⟩|⟨j,hj,e⟩
  ·exact aw e2 (⟨λu1=>e,λu1=>rfl⟩)
  ·have h1:=List.length_pos_of_mem hj
   have h2:=G.mem k j hj
   have h3:=G.nn j h2.1.1 h2.1.2
   exact⟨λq=>by lia,λq=>by lia⟩
 ·refine aw (I.np k) (aw (if_pos ((hD k).mpr ⟨h0,h7⟩)) ?_)
  unfold iN
  exact aw (List.countP_eq_length.mpr λj hj=>decide_eq_true (G.nn j (G.mem k j hj).1.1 (G.mem k j hj).1.2)) rfl
end
theorem zf9 {x:Str}{f:Nat→Nat→List Nat}{g:Nat→Nat}(h:∀i c,x.cps[i]?=some c→f i c=[g c]):placed x f=(x.cps.toList.map g).toArray:=by
 apply cC.mp
 unfold placed
 rw[Array.toList_flatten,Array.toList_mapIdx]
 have e:x.cps.toList.mapIdx (λi c=>(f i c).toArray)=x.cps.toList.map λc=>#[g c]:=by
  refine cQ λi=>?_
  rw[List.getElem?_mapIdx,aK,ba]
  cases hc:x.cps[i]? with
  |none=>rfl
  |some c=>rw[d9,d9,h i c hc]
 rw[e,be]
 show(x.cps.toList.map λc=>[g c]).flatten=_
 generalize x.cps.toList=l
 induction l with
 |nil=>rfl
 |cons a l ih=>rw[aN,List.flatten_cons,ih];rfl
noncomputable def nm (l:List Nat):Str:=⟨(l.map (97+·)).toArray⟩
noncomputable def um (l:List Nat):Str:=⟨(l.map (65+·)).toArray⟩
theorem lt9 {n:Nat}(h:n<9):n=0∨n=1∨n=2∨n=3∨n=4∨n=5∨n=6∨n=7∨n=8:=by lia
theorem zzp {n:Nat}(h:n<9):Unicode.lowerOf (97+n)=[97+n]∧Unicode.lowerOf (65+n)=[97+n]∧Unicode.upperOf (97+n)=[65+n]:=by
 rcases lt9 h with e|e|e|e|e|e|e|e|e<;>subst e<;>exact⟨by rfl,by rfl,by rfl⟩
section
variable {l:List Nat}(h:∀n∈l,n<9)
include h
theorem zyz {b:Nat}{i c:Nat}(hc:(l.map (b+·)).toArray[i]?=some c):∃n,n<9∧c=b+n:=by
 rw[List.getElem?_toArray,aK]at hc
 obtain⟨n,hn,e⟩:=aP.mp hc
 exact⟨n,h n (cU hn),e.symm⟩
theorem zw2 {x:Str}{i c:Nat}(hc:x.cps[i]?=some c)(h:c<200):Unicode.lowerAt x.cps i=Unicode.lowerOf c:=by
 unfold Unicode.lowerAt
 refine aw hc ?_
 dsimp only
 have:(c==0x3A3)=false:=by rw[beq_eq_false_iff_ne];lia
 refine aw this ?_
 rfl
theorem zvt:Txt.lower (nm l)=nm l:=by
 unfold Txt.lower
 rw[zf9 (g:=id) λi c hc=>by
  obtain⟨n,hn,rfl⟩:=zyz h hc
  rw[zw2 h hc (by lia),(zzp hn).1]
  rfl]
 rw[List.map_id]
theorem zvs:Txt.lower (um l)=nm l:=by
 unfold Txt.lower
 rw[zf9 (g:=λc=>32+c) λi c hc=>by
  obtain⟨n,hn,rfl⟩:=zyz h hc
  rw[zw2 h hc (by lia),(zzp hn).2.1]
  congr 1
  lia]
 unfold um nm
 rw[be]
 congr 2
 refine aS λn u1=>?_
 show 32+(65+n)=_
 lia
theorem zjg:Txt.upper (nm l)=um l:=by
 unfold Txt.upper
 rw[zf9 (g:=λc=>c-32) λi c hc=>by
  obtain⟨n,hn,rfl⟩:=zyz h hc
  rw[(zzp hn).2.2]
  congr 1
  lia]
 unfold um nm
 rw[be]
 congr 2
 refine aS λn u1=>?_
 show 97+n-32=_
 lia
theorem zpg {b:Nat}{p:Nat→Bool}(hp:∀n,n<9→p (b+n)=true):((l.map (b+·)).toArray).all p=true:=by
 rw[List.all_toArray,cp]
 intro c hc
 obtain⟨n,hn,rfl⟩:=aH.mp hc
 exact hp n (h n hn)
theorem z0v:gO (nm l)=true:=zpg h λn hn=>by rw[aq,decide_eq_true_eq,decide_eq_true_eq];lia
theorem z2h:gO (um l)=true:=zpg h λn hn=>by rw[aq,decide_eq_true_eq,decide_eq_true_eq];lia
theorem z0z:PyData.strOk (nm l)=true:=zpg h λn hn=>by rw[decide_eq_true_eq];lia
theorem z2i:PyData.strOk (um l)=true:=zpg h λn hn=>by rw[decide_eq_true_eq];lia
end
theorem zne {b:Nat}{l:List Nat}:∀{m:List Nat},l.map (b+·)=m.map (b+·)→l=m:=by
 induction l with
 |nil=>intro m e;cases m with|nil=>rfl|cons _ _=>cases e
 |cons a l ih =>
  intro m e
  cases m with
  |nil=>cases e
  |cons c m =>
   rw[aN,aN,bY]at e
   exact aw (Nat.add_left_cancel e.1) (aw (ih e.2) rfl)
theorem z01 {l m:List Nat}(e:nm l=nm m):l=m:=zne (b:=97) (by have:=congrArg (λs=>s.cps.toList) e;exact this)
theorem iZ {l:List Nat}:(nm l).cps.size=l.length:=by unfold nm;rw[b4,ae]
theorem zx3 {l:List Nat}:(um l).cps.size=l.length:=by unfold um;rw[b4,ae]
noncomputable def dM (n:Nat):Str:=⟨#[97+n]⟩
theorem z04 {n:Nat}(h:n<9):zu8 (S "abcdefghi") n=some (dM n):=by
 rcases lt9 h with e|e|e|e|e|e|e|e|e<;>subst e<;>rfl
theorem z03 {n:Nat}(h:n<9):(Builtin.Str.occurrences (S "abcdefghi") (dM n) 0 (S "abcdefghi").length 1).head?=some n:=by
 rcases lt9 h with e|e|e|e|e|e|e|e|e<;>subst e<;>decide +kernel
theorem ltX_lt1 {a b:Nat}:jb (dM a) (dM b)=decide (a<b):=by
 unfold jb dM
 refine decide_eq_decide.mpr ?_
 show[97+a]<[97+b]↔a<b
 rw[List.cons_lt_cons_iff]
 constructor
 ·rintro(h|⟨_,h⟩)
  ·lia
  ·exact absurd h (List.lt_irrefl _)
 ·exact λh=>.inl (by lia)
theorem zva {l:List Nat}:iB (nm l)=l.map dM:=by
 unfold iB nm
 refine aw be ?_
 rfl
theorem z2t {l:List Nat}{n:Nat}:(!(Builtin.Str.occurrences (nm l) (dM n) 0 (nm l).length 1).isEmpty)=decide (n∈l):=by
 refine(StrLaws.found_one _ _).trans (decide_eq_decide.mpr ?_)
 show 97+n∈l.map (97+·)↔_
 rw[aH]
 exact⟨λ⟨m,hm,e⟩=>by rwa[←Nat.add_left_cancel e],λh=>⟨n,h,rfl⟩⟩
theorem ztn (l:List Nat):Txt.join (S "") (l.map dM)=nm l:=by
 have key:∀(l:List Nat) (a:Array Nat),(l.map dM).foldl (λacc (p:Str)=>acc++(S "").cps++p.cps) a=a++(l.map (97+·)).toArray:=by
  intro l
  induction l with
  |nil=>intro a;exact(Array.append_empty).symm
  |cons n l ih =>
   intro a
   rw[aN,cg,ih]
   apply cC.mp
   show(a++#[]++#[97+n]++_).toList=(a++_).toList
   simp
 cases l with
 |nil=>rfl
 |cons n l =>
  refine congrArg Str.mk ?_
  show(l.map dM).foldl _ #[97+n]=_
  rw[key]
  simp[nm]
theorem zlm {l:List Nat}(h:l.length<1000):JoinOk (S "") (l.map dM)=true:=by
 have key:∀(l:List Nat) (a:Nat),(l.map dM).foldl (λb (x:Str)=>b+x.length+(S "").length) a=a+l.length:=by
  intro l
  induction l with
  |nil=>exact λu1=>rfl
  |cons n l ih =>
   intro a
   rw[aN,cg,ih,bp]
   show a+1+0+_=_
   lia
 unfold JoinOk
 have e:(l.map dM).toArray.foldl (λb (x:Str)=>b+x.length+(S "").length) 0=l.length:=by
  rw[←Array.foldl_toList]
  exact(key l 0).trans (Nat.zero_add _)
 rw[e]
 unfold Builtin.Str.tooLong sizeLine
 simp
 lia
noncomputable def fc (k:Nat)(l:List Nat):Str:=if k % 2=0 then nm l else um l
section
variable {l m:List Nat}{k k':Nat}
theorem zhe (h:∀n∈l,n<9):Txt.lower (fc k l)=nm l:=by unfold fc;split<;>first|exact zvt h|exact zvs h
theorem z0q (h:∀n∈l,n<9):gO (fc k l)=true:=by unfold fc;split<;>first|exact z0v h|exact z2h h
theorem z0r (h:∀n∈l,n<9):PyData.strOk (fc k l)=true:=by unfold fc;split<;>first|exact z0z h|exact z2i h
theorem zfl:(fc k l).cps.size=l.length:=by unfold fc;split<;>first|exact iZ|exact zx3
theorem zsb (h:∀n∈l,n<9)(hl:l.length<1000):NmOk (fc k l):=by
 have e:=zhe (k:=k) h
 refine⟨?_,?_,?_,?_⟩
 ·show(fc k l).cps.size≤_
  refine aw zfl ?_
  exact bG (ag hl (by decide))
 ·exact aw e (z0v h)
 ·refine aw e (aw iZ ?_)
  exact ag hl (by decide)
 ·exact aw e (z0z h)
theorem zsc (h:∀n∈l,n<9)(h':∀n∈m,n<9):(Txt.lower (fc k l)==Txt.lower (fc k' m))=decide (l=m):=by
 rw[zhe h,zhe h',bq,beq_iff_eq,decide_eq_true_eq]
 exact⟨z01,λe=>by rw[e]⟩
end
noncomputable def numT (c:Int):Str:=Str.ofString (toString c)
structure NumD (v:Nat):Prop where
 p:gO (numT v)=true
 z:(numT v).cps.size<8
 n:(numT v).length<8
 o:PyData.strOk (numT v)=true
 t:PySem.intText? (numT v)=some v
theorem lt10 {n:Nat}(h:n<10):n=0∨n=1∨n=2∨n=3∨n=4∨n=5∨n=6∨n=7∨n=8∨n=9:=by lia
theorem num9 {v:Nat}(h:v<10):NumD v:=by
 rcases lt10 h with e|e|e|e|e|e|e|e|e|e<;>subst e<;>exact⟨by decide +kernel,by decide +kernel,by decide +kernel,by decide +kernel,by decide +kernel⟩
section
variable {θ:Nat→Option AV}{σ σ':List AO}{o i j:Nat}
theorem zf5:∀xs:List Str,zin (xs.map .str)=some xs
 | []=>rfl
 |x::xs=>by
  show(zin (xs.map .str)).map _=_
  exact fJ (zf5 xs)
theorem zxk {xs:List Str}{Q:List Str→St→Prop}(h:σ[o]?=some (.list (xs.map .str)))(hl:xs.length<4000)(hq:Q xs ⟨θ,σ⟩):wp (zyk (.obj o)) ⟨θ,σ⟩ Q :=
 cH (by
  show(d7 σ o).bind _=_
  exact c8 (eR h) (c8 (zf5 xs) (if_pos (by rw[ae];exact hl)))) hq
theorem zre {xs:List Int}{Q:List Int→St→Prop}(h:σ[o]?=some (.list (xs.map .int)))(hl:xs.length<4000)(hq:Q xs ⟨θ,σ⟩):wp (zve (.obj o)) ⟨θ,σ⟩ Q :=
 cH (by
  show(d7 σ o).bind _=_
  exact c8 (eR h) (c8 (zey xs) (if_pos (by rw[ae];exact hl)))) hq
theorem zxj {x:Str}{Q:List Str→St→Prop}(hl:x.cps.size<4000)(hq:Q (iB x) ⟨θ,σ⟩):wp (zyj (.str x)) ⟨θ,σ⟩ Q:=cH (if_pos hl) hq
theorem zd5 {κ:Type}[DecidableEq κ][Inhabited κ]{D:Kind κ}{lt:κ→κ→Bool}{ks ys:List κ}{Q:AV→St→Prop}(hs:∀a b,lt a b=true→lt b a=false)(hy:ys.Pairwise λa b=>lt a b=true)(hm:∀x,x∈ys↔x∈ks)(hl:ys.length<64)
  (hq:Q (.obj σ.length) ⟨θ,σ++[.list (ys.map D.em)]⟩):wp (zcu D lt ks) ⟨θ,σ⟩ Q:=by
 have nd:ys.Nodup:=hy.imp λ{a b} h e=>by
  subst e
  have:=hs _ _ h
  rw[h]at this
  exact tf this
 have hp:ys.Perm (gf ks):=znb nd (zh0 ks) λx=>(hm x).trans ddp_mem.symm
 refine cH ?_ hq
 show(if (gf ks).length<64 then(hY D.em lt (gf ks)).bind _ else none)=_
 refine aw (if_pos (by rw[←hp.length_eq];exact hl)) ?_
 exact c8 (zhh hs hp hy) rfl
theorem zro {xs:List Str}{x:Str}{Q:AV→St→Prop}(h:σ[o]?=some (.list (xs.map .str)))(hj:JoinOk x xs=true)(hq:Q (.str (Txt.join x xs)) ⟨θ,σ⟩):wp (zy8 [.str x,.obj o]) ⟨θ,σ⟩ Q :=
 cH (by
  show(d7 σ o).bind _=_
  exact c8 (eR h) (c8 (zf5 xs) (if_pos hj))) hq
theorem zrl {vs ws:List AV}{k:Int}{Q:AV→St→Prop}(h:σ[o]?=some (.list vs))(hk:-(2^62)≤k∧k<2^62)(e:(List.replicate k.toNat vs).flatten=ws)(hl:ws.length<2^20)(hq:Q (.obj σ.length) ⟨θ,σ++[.list ws]⟩):wp (binA .Mult (.obj o) (.int k)) ⟨θ,σ⟩ Q :=
 cH (i0 (f:=binK .Mult (.obj o) (.int k)) (g:=binL .Mult (.obj o) (.int k)) rfl (by show(d7 σ o).bind _=_;exact c8 (eR h) ((if_pos hk).trans (by rw[e];exact zhm hl)))) hq
theorem zrv {a b:Nat}{xs ys:List AV}{Q:AV→St→Prop}(ha:σ[a]?=some (.list xs))(hb:σ[b]?=some (.list ys))(hl:(xs++ys).length<2^20)(hq:Q (.obj σ.length) ⟨θ,σ++[.list (xs++ys)]⟩):wp (binA .Add (.obj a) (.obj b)) ⟨θ,σ⟩ Q :=
 cH (i0 (f:=binK .Add (.obj a) (.obj b)) (g:=binL .Add (.obj a) (.obj b)) rfl (by show(d7 σ a).bind _=_;exact c8 (eR ha) (c8 (eR hb) (zhm hl)))) hq
theorem zzb {i d:Nat}{Cl:Addr}{fs:List (Str×AV)}(h:σ[i]?=some (.inst Cl d))(hd:σ[d]?=some (.attrs fs)):hV σ Cl i=some fs:=by
 unfold hV
 refine aw h ?_
 exact(if_pos rfl).trans (zge hd)
theorem zje {H:fV}{Q:AV→St→Prop}(R:HdR σ H)(hn:H.ps.length<2^20)(hq:Q (.int H.ps.length) ⟨θ,σ⟩):wp (lenI gP (λargs σ=>zkk args [] σ) lenK [.obj H.t]) ⟨θ,σ⟩ Q:=by
 (refine x2a3 (zvx (Q:=λr σ'=>r=.int H.ps.length∧σ'=σ) R hn ⟨rfl,rfl⟩) λr σ' e z3 z4=>?_;subst z3;subst z4)
 refine cH ?_ hq
 show(match hV σ' gP H.t with|some _=>lenJ H.t _ _|none=>_)=_
 refine aw (zzb R.ht R.hd) ?_
 exact c8 e (c8 rfl (if_pos ⟨by lia,by lia⟩))
theorem zg1 {Cl:Addr}{F:List AV→List AO→Option (AV×List AO)}{o:Nat}{vs:List AV}{Q:AV→St→Prop}(h:σ[o]?=some (.list vs))(hl:vs.length<2^62)(hq:Q (.int vs.length) ⟨θ,σ⟩):wp (lenI Cl F lenK [.obj o]) ⟨θ,σ⟩ Q:=by
 (refine x2a2 (zkq (θ:=θ) h hl hq) λa st e hq'=>?_)
 refine cH (a:=a) (st':=st) ?_ hq'
 show(match hV σ Cl o with|some _=>lenJ o _ _|none=>_)=_
 have:hV σ Cl o=none:=by unfold hV;exact aw h rfl
 refine aw this ?_
 exact e
theorem zrq {x y:Str}{k:Nat}{Q:AV→St→Prop}(h:(Builtin.Str.occurrences x y 0 x.length 1).head?=some k)(hq:Q (.int k) ⟨θ,σ⟩):wp (zni [.str x,.str y]) ⟨θ,σ⟩ Q :=
 cH (by show(Option.map _ _)=_;exact fJ h) hq
theorem zrr {xs:List Int}{k:Int}{Q:AV→St→Prop}(h:σ[o]?=some (.list (xs.map .int)))(hl:PyData.layable0 (.list (xs.map .int))=true)(hk:k∈xs)(hq:Q (.int (xs.idxOf k:Nat)) ⟨θ,σ⟩):wp (znj [.obj o,.int k]) ⟨θ,σ⟩ Q :=
 cH (by
  show(d7 σ o).bind _=_
  exact c8 (eR h) (c8 (zey xs) (if_pos ⟨hl,hk⟩))) hq
theorem zzz {xs:List Int}{Q:AV→St→Prop}(h:σ[o]?=some (.list (xs.map .int)))(hq:Q (.int xs.sum) ⟨θ,σ⟩):wp (sumK [.obj o]) ⟨θ,σ⟩ Q :=
 cH (by
  show(d7 σ o).bind _=_
  exact c8 (eR h) (fJ (zey xs))) hq
theorem z0a {x y:Int}{Q:AV→St→Prop}(hq:Q (.int (Builtin.bitAnd x y)) ⟨θ,σ⟩):wp (bitK .BitAnd (.int x) (.int y)) ⟨θ,σ⟩ Q:=cH rfl hq
theorem z18 {x y:Int}{Q:AV→St→Prop}(hq:Q (.int (Builtin.bitOr x y)) ⟨θ,σ⟩):wp (bitK .BitOr (.int x) (.int y)) ⟨θ,σ⟩ Q:=cH rfl hq
theorem zxw {x y:Str}{Q:AV→St→Prop}(hl:x.length+y.length<2^20)(hq:Q (.str (x++y)) ⟨θ,σ⟩):wp (addS (.str x) (.str y)) ⟨θ,σ⟩ Q:=cH (if_pos hl) hq
theorem zri {x y:Str}{b:Bool}{Q:AV→St→Prop}(h:(!(Builtin.Str.occurrences x y 0 x.length 1).isEmpty)=b)(hq:Q (.bool (!b)) ⟨θ,σ⟩):wp (inS true (.str y) (.str x)) ⟨θ,σ⟩ Q :=
 cH (a:=.bool (!b)) (by show some (AV.bool (true != !_),_)=_;rw[h,Bool.true_bne]) hq
theorem zrn {ks:List Int}{n:Nat}{Q:AV→St→Prop}(h:(gf ks).length=n)(hq:Q (.int n) ⟨θ,σ⟩):wp (ztf ks) ⟨θ,σ⟩ Q:=cH (by show some (AV.int ((gf ks).length:Nat),_)=_;exact aw h rfl) hq
theorem zg8 {i:Int}{Q:AV→St→Prop}(hi:i.natAbs.log2<1920)(hq:Q (.str (numT i)) ⟨θ,σ⟩):wp (strK [.int i]) ⟨θ,σ⟩ Q:=cH (if_pos hi) hq
theorem zrp {v:Nat}{Q:AV→St→Prop}(B:NumD v)(hq:Q (.int v) ⟨θ,σ⟩):wp (intK [.str (numT v)]) ⟨θ,σ⟩ Q :=
 cH (by show(if (numT v).length≤640 then(PySem.intText? (numT v)).map λi=>(AV.int i,(⟨θ,σ⟩:St))else none)=_;refine aw (if_pos (by have:=B.n;lia)) (aw B.t ?_);rfl) hq
end
theorem zn2 {c:Bool}{f g:K Fl}{st:St}{Q R:Fl→St→Prop}(ht:c=true→wp f st Q)(hf:c=false→wp g st R):if c=true then wp f st Q else wp g st R:=by
 cases c with
 |true=>exact ht rfl
 |false=>exact hf rfl
theorem zxr {α:Type}{xs:List α}{e:α→AV}{g:Option (Nat×AO)}{asg:AV→K Unit}{b o:K Fl}{st:St}{Q:Fl→St→Prop}(I:List α→St→Prop)(h:I [] st)
  (step:∀p x q,p++x::q=xs→∀st,I p st→gp g st.σ∧∀K:Fl→St→Prop,(∀st'',I (p++[x]) st''→K .next st'')→wp (asg (e x)) st λu1 st'=>wp b st' K)
  (done:∀st,I xs st→gp g st.σ∧wp o st Q):wp (forL g asg b o (xs.map e)) st Q:=by
 refine ib (λd r st=>∃p q,p++q=xs∧r=q.map e∧I p st) ⟨[],xs,rfl,rfl,h⟩ ?_ ?_
 ·rintro d a r st-⟨p,q,h1,h2,h3⟩
  cases q with
  |nil=>cases h2
  |cons x q =>
   rw[aN,bY]at h2
   obtain⟨rfl,rfl⟩:=h2
   obtain⟨g1,g2⟩:=step p x q h1 st h3
   exact⟨g1,g2 _ λst'' h5=>⟨p++[x],q,by rw[bf];exact h1,rfl,h5⟩⟩
 ·rintro st ⟨p,q,h1,h2,h3⟩
  have:q=[]:=by cases q with|nil=>rfl|cons _ _=>cases h2
  subst this
  rw[bi]at h1
  subst h1
  exact done st h3
structure Wok (W:Nat→List Nat):Prop where
 ah:zuu W
 nd:∀k,(W k).Nodup
 out:∀k,9≤k→W k=[]
 len:∀k,(W k).length≤7
noncomputable def gX (W:Nat→List Nat)(k:Int):List Int:=if 0≤k then(W k.toNat).map λj:Nat=>(j:Int)else[]
noncomputable def rkW (W:Nat→List Nat)(k:Int):Int:=(vR W k.toNat:Nat)
theorem znd {l:List Nat}(h:l.Nodup):(l.map λj:Nat=>(j:Int)).Nodup:=bC.mpr (h.imp λh e=>h (cW e))
section
variable {W:Nat→List Nat}(O:Wok W)
include O
theorem z0g {k j:Nat}(h:j∈W k):vR W j<vR W k:=by
 have:=zoz (f:=vR W) h
 rw[←zpo O.ah]at this
 lia
theorem grW:Gr 9 (gX W) (rkW W):=by
 refine⟨λk=>?_,λk h=>?_,λk j h=>?_,λk u1 u2=>aG _,λk h0 h9=>?_⟩
 ·unfold gX
  split
  ·exact znd (O.nd _)
  ·exact bR
 ·unfold gX
  split
  ·rw[O.out k.toNat (by lia)];rfl
  ·rfl
 ·unfold gX at h
  split at h
  ·rename_i h0
   obtain⟨m,hm,rfl⟩:=aH.mp h
   have h1:=O.ah _ _ hm
   have h2:=z0g O hm
   have h3:k.toNat<9:=cs λq=>by rw[O.out _ (cq q)]at hm;cases hm
   refine⟨by lia,?_⟩
   unfold rkW
   rw[ay]
   exact aX.mpr h2
  ·cases h
 ·unfold rkW gX
  rw[if_pos h0,zpo O.ah]
  rcases zg6 (f:=vR W) (l:=W k.toNat)with⟨e,e2⟩|⟨j,hj,e⟩
  ·exact .inl ⟨by rw[e];rfl,by rw[e2];rfl⟩
  ·refine .inr ⟨j,aH.mpr ⟨j,hj,rfl⟩,?_⟩
   rw[e,ay]
   lia
theorem zyu (k:Int):(gX W k).length≤7:=by
 unfold gX
 split
 ·rw[ae];exact O.len _
 ·exact aU _
theorem z2a:∀k,vR W k≤k:=by
 intro k
 induction k using Nat.strongRecOn with
 |ind k ih =>
  rw[zpo O.ah]
  rcases zg6 (f:=vR W) (l:=W k)with⟨e,_⟩|⟨j,hj,e⟩
  ·rw[e];exact aU _
  ·rw[e]
   have:=ih j (O.ah k j hj)
   have:=O.ah k j hj
   lia
theorem zso (k:Nat):k<9→∀r,r≤vR W k→∃j,j<9∧vR W j=r:=by
 induction k using Nat.strongRecOn with
 |ind k ih =>
  intro hk r hr
  by_cases e:r=vR W k
  ·exact⟨k,hk,e.symm⟩
  ·rcases zg6 (f:=vR W) (l:=W k)with⟨e2,_⟩|⟨j,hj,e2⟩
   ·rw[←zpo O.ah]at e2;lia
   ·rw[←zpo O.ah]at e2
    have h1:=O.ah k j hj
    exact ih j h1 (by lia) r (by lia)
end
structure NumI (W:Nat→List Nat)(dn:Nat→Bool)(num:Nat→Nat)(ks:List Nat):Prop where
 lt:∀k,dn k=true→num k<ks.length
 at_:∀(n k:Nat),ks[n]?=some k→dn k=true∧num k=n
 same:∀k,dn k=true→∀k',ks[num k]?=some k'→nset num (W k')=nset num (W k)
 inj:∀a b k k':Nat,ks[a]?=some k→ks[b]?=some k'→nset num (W k)=nset num (W k')→a=b
 low:∀(n k:Nat),ks[n]?=some k→∀j∈W k,num j<n
 cl:∀k,dn k=true→∀j∈W k,dn j=true
 nine:∀k,dn k=true→k<9
noncomputable def updN (f:Nat→Nat)(k v:Nat)(i:Nat):Nat:=if i=k then v else f i
section
variable {W:Nat→List Nat}{dn:Nat→Bool}{num:Nat→Nat}{ks:List Nat}{k:Nat}
theorem NumI.nil:NumI W (λu1=>false) num [] :=
 ⟨by nofun,λn k h=>by rw[List.getElem?_nil]at h;exact ns h,by nofun,λa b k k' h=>by rw[List.getElem?_nil]at h;exact ns h,λn k h=>by rw[List.getElem?_nil]at h;exact ns h,by nofun,by nofun⟩
theorem NumI.len (N:NumI W dn num ks):ks.length≤9:=by
 have inj:∀a,a<ks.length→∀b,b<ks.length→ks.getD a 0=ks.getD b 0→a=b:=λa ha b hb e=>by
  have ga:ks[a]?=some (ks.getD a 0):=by refine aw (av) (aw (an ha) ?_);rfl
  have gb:ks[b]?=some (ks.getD b 0):=by refine aw (av) (aw (an hb) ?_);rfl
  have:=(N.at_ _ _ ga).2
  rw[e,(N.at_ _ _ gb).2]at this
  exact this.symm
 have hnd:((List.range ks.length).map λa=>ks.getD a 0).Nodup:=bC.mpr (cr (λ{a b} ha hb hne e=>hne (inj a (ax.mp ha) b (ax.mp hb) e)) cD)
 have:=bH (l₂:=List.range 9) hnd λx hx=>by
  (refine x1a2 (aH.mp hx) λa ha z2=>?_;subst z2)
  have ga:ks[a]?=some (ks.getD a 0):=by refine aw (av) (aw (an (ax.mp ha)) ?_);rfl
  exact ax.mpr (N.nine _ (N.at_ _ _ ga).1)
 rwa[ae,aC,aC]at this
theorem NumI.num9 (N:NumI W dn num ks){j:Nat}(h:dn j=true):num j<9:=ag (N.lt j h) N.len
theorem NumI.keep (N:NumI W dn num ks)(hk:dn k=false)(v:Nat){S:List Nat}(h:∀j∈S,dn j=true):nset (updN num k v) S=nset num S :=
 zqa λj hj=>if_neg λe=>by rw[←e,h j hj]at hk;exact tf hk
theorem ze9 {n:Nat}(h:n<ks.length):ks[n]?=some (ks.getD n 0):=by refine aw (av) (aw (an h) ?_);rfl
theorem NumI.old (N:NumI W dn num ks)(hk:dn k=false)(h9:k<9)(hc:∀j∈W k,dn j=true){n k':Nat}(hn:ks[n]?=some k')(e:nset num (W k')=nset num (W k)):NumI W (λi=>dn i||decide (i=k)) (updN num k n) ks:=by
 have ne:∀{i},dn i=true→i≠k:=λh e=>by rw[←e,h]at hk;exact tf hk
 have up:∀{i},dn i=true→updN num k n i=num i:=λh=>if_neg (ne h)
 have kp:∀{i},dn i=true→nset (updN num k n) (W i)=nset num (W i):=λh=>N.keep hk n (N.cl _ h)
 have kk:nset (updN num k n) (W k)=nset num (W k):=N.keep hk n hc
 have dj:∀{i},(dn i||decide (i=k))=true→dn i=true∨i=k:=λh=>by rw[cB,decide_eq_true_eq]at h;exact h
 have self:updN num k n k=n:=if_pos rfl
 have hd:=(N.at_ _ _ hn).1
 refine⟨λi hi=>?_,λm i hi=>?_,λi hi i' hi'=>?_,λa b i i' h1 h2 h3=>?_,λm i hi j hj=>?_,λi hi j hj=>?_,λi hi=>?_⟩
 ·rcases dj hi with q|q
  ·exact aw (up q) (N.lt i q)
  ·refine aw q (aw self ?_);exact(ap.mp hn).1
 ·have:=N.at_ _ _ hi
  refine aw (up this.1) ?_
  exact⟨by refine aw this.1 ?_;rfl,this.2⟩
 ·rcases dj hi with q|q
  ·rw[up q]at hi'
   refine aw (kp q) (aw (kp (N.at_ _ _ hi').1) ?_)
   exact N.same i q i' hi'
  ·rw[q,self]at hi'
   rw[hn]at hi'
   obtain rfl:=sj hi'
   exact aw q (aw kk (aw (kp hd) (aw e rfl)))
 ·rw[kp (N.at_ _ _ h1).1,kp (N.at_ _ _ h2).1]at h3
  exact N.inj a b i i' h1 h2 h3
 ·refine aw (up (N.cl i (N.at_ _ _ hi).1 j hj)) ?_
  exact N.low m i hi j hj
 ·rcases dj hi with q|q
  ·refine aw (N.cl i q j hj) ?_;rfl
  ·refine aw (hc j (q▸hj)) ?_;rfl
 ·rcases dj hi with q|q
  ·exact N.nine i q
  ·exact aw q h9
theorem NumI.fresh (N:NumI W dn num ks)(hk:dn k=false)(h9:k<9)(hc:∀j∈W k,dn j=true)(hn:∀n k':Nat,ks[n]?=some k'→nset num (W k')≠nset num (W k)):NumI W (λi=>dn i||decide (i=k)) (updN num k ks.length) (ks++[k]):=by
 have ne:∀{i},dn i=true→i≠k:=λh e=>by rw[←e,h]at hk;exact tf hk
 have up:∀{i},dn i=true→updN num k ks.length i=num i:=λh=>if_neg (ne h)
 have kp:∀{i},dn i=true→nset (updN num k ks.length) (W i)=nset num (W i):=λh=>N.keep hk _ (N.cl _ h)
 have kk:nset (updN num k ks.length) (W k)=nset num (W k):=N.keep hk _ hc
 have dj:∀{i},(dn i||decide (i=k))=true→dn i=true∨i=k:=λh=>by rw[cB,decide_eq_true_eq]at h;exact h
 have self:updN num k ks.length k=ks.length:=if_pos rfl
 have gt:∀{n i:Nat},(ks++[k])[n]?=some i→ks[n]?=some i∨n=ks.length∧i=k:=λ{n i} h=>by
  rw[List.getElem?_append]at h
  split at h
  ·exact .inl h
  ·rename_i q
   by_cases q2:n-ks.length=0
   ·rw[q2]at h
    exact .inr ⟨by lia,(sj h).symm⟩
   ·rw[bB (by rw[aO];exact dQ (by assumption))]at h
    exact ns h
 refine⟨λi hi=>?_,λm i hi=>?_,λi hi i' hi'=>?_,λa b i i' h1 h2 h3=>?_,λm i hi j hj=>?_,λi hi j hj=>?_,λi hi=>?_⟩
 ·rw[az,aO]
  rcases dj hi with q|q
  ·rw[up q];exact bg (N.lt i q)
  ·rw[q,self];exact aQ _
 ·rcases gt hi with q|⟨q1,q2⟩
  ·have:=N.at_ _ _ q
   rw[up this.1]
   exact⟨by rw[this.1];rfl,this.2⟩
  ·rw[q2,self,q1]
   exact⟨by rw[decide_eq_true rfl,Bool.or_true],rfl⟩
 ·rcases dj hi with q|q
  ·rw[up q]at hi'
   have hl:=N.lt i q
   rcases gt hi' with q2|⟨q1,-⟩
   ·rw[kp q,kp (N.at_ _ _ q2).1]
    exact N.same i q i' q2
   ·lia
  ·rw[q,self]at hi'
   rcases gt hi' with q2|⟨-,q3⟩
   ·have:=(ap.mp q2).1
    exact absurd (by assumption) (bo _)
   ·rw[q3,q]
 ·rcases gt h1 with q1|⟨q1,q1'⟩
  ·rcases gt h2 with q2|⟨q2,q2'⟩
   ·rw[kp (N.at_ _ _ q1).1,kp (N.at_ _ _ q2).1]at h3
    exact N.inj a b i i' q1 q2 h3
   ·rw[q2',kp (N.at_ _ _ q1).1,kk]at h3
    exact absurd h3 (hn _ _ q1)
  ·rcases gt h2 with q2|⟨q2,q2'⟩
   ·rw[q1',kp (N.at_ _ _ q2).1,kk]at h3
    exact absurd h3.symm (hn _ _ q2)
   ·rw[q1,q2]
 ·rcases gt hi with q|⟨q1,q2⟩
  ·rw[up (N.cl i (N.at_ _ _ q).1 j hj)]
   exact N.low m i q j hj
  ·rw[q2]at hj
   rw[up (hc j hj),q1]
   exact N.lt j (hc j hj)
 ·rcases dj hi with q|q
  ·rw[N.cl i q j hj];rfl
  ·rw[hc j (q▸hj)];rfl
 ·rcases dj hi with q|q
  ·exact N.nine i q
  ·rw[q];exact h9
theorem NumI.all (N:NumI W dn num ks)(h:∀k,k<9→dn k=true):Numd W num ks :=
 ⟨λk hk=>N.lt k (h k hk),λn k e=>⟨N.nine k (N.at_ n k e).1,(N.at_ n k e).2⟩,λk hk=>N.same k (h k hk),N.inj,N.low⟩
theorem NumI.same' {dn':Nat→Bool}(N:NumI W dn num ks)(h:∀k,dn k=dn' k):NumI W dn' num ks:=by
 have:dn=dn':=funext h
 exact this▸N
noncomputable def tabP (W:Nat→List Nat)(num:Nat→Nat)(ks:List Nat):List (Str×Str):=(List.range ks.length).map λn=>(fc (ks.getD n 0) (nset num (W (ks.getD n 0))),numT n)
theorem zen:(tabP W num ks).length=ks.length:=by unfold tabP;rw[ae,aC]
theorem gL {S:List Nat}:∀n∈nset num S,n<9:=λn h=>ax.mp (bh.mp h).1
theorem zfp {S:List Nat}:(nset num S).length≤9:=by
 have:=b9 (λn=>S.any λj=>num j==n) (List.range 9)
 rwa[aC]at this
theorem zqk {α:Type}{f:Nat→α}{p:α→Bool}{n m:Nat}(hn:n<m)(h1:p (f n)=true)(h2:∀i,i<m→p (f i)=true→i=n):((List.range m).map f).find? p=some (f n):=by
 induction m with
 |zero=>exact absurd hn (aW _)
 |succ m ih =>
  refine aw cM (aw aE (aw (List.find?_append) ?_))
  by_cases q:n<m
  ·refine aw (ih q λi hi=>h2 i (bg hi)) ?_;rfl
  ·have:n=m:=by lia
   subst this
   rw[cI.mpr λx hx hp=>by
    obtain⟨i,hi,rfl⟩:=aH.mp hx
    have hi:=ax.mp hi
    have:=h2 i (bg hi) hp
    lia]
   rw[Option.none_or,List.map_singleton,List.find?_cons_of_pos h1]
theorem zky {l:List Nat}(hl:∀n∈l,n<9){j n:Nat}(N:∀a b k k':Nat,ks[a]?=some k→ks[b]?=some k'→nset num (W k)=nset num (W k')→a=b){k':Nat}(hn:ks[n]?=some k')(e:nset num (W k')=l):getH (tabP W num ks) (fc j l)=some (numT n):=by
 have hlt:=(ap.mp hn).1
 have hg:ks.getD n 0=k':=by refine aw (av) (aw hn ?_);rfl
 unfold getH tabP
 rw[zqk hlt]
 ·rfl
 ·refine aw (zsc gL hl) (aw decide_eq_true_eq (aw hg ?_));exact e
 ·intro i hi hp
  rw[zsc gL hl,decide_eq_true_eq]at hp
  exact N i n _ _ (ze9 hi) hn (hp.trans e.symm)
theorem zkz {l:List Nat}(hl:∀n∈l,n<9){j:Nat}(h:∀n k':Nat,ks[n]?=some k'→nset num (W k')≠l):getH (tabP W num ks) (fc j l)=none:=by
 unfold getH tabP
 rw[cI.mpr λx hx hp=>by
  obtain⟨i,hi,rfl⟩:=aH.mp hx
  rw[zsc gL hl,decide_eq_true_eq]at hp
  exact h i _ (ze9 (ax.mp hi)) hp]
 rfl
theorem zpw {num':Nat→Nat}(h:∀n k:Nat,ks[n]?=some k→nset num' (W k)=nset num (W k)):tabP W num' ks=tabP W num ks :=
 aS λn hn=>by exact aw (h n _ (ze9 (ax.mp hn))) rfl
theorem zr8 {num':Nat→Nat}(h:∀n k:Nat,ks[n]?=some k→nset num' (W k)=nset num (W k)):tabP W num' (ks++[k])=tabP W num ks++[(fc k (nset num' (W k)),numT (ks.length:Nat))]:=by
 unfold tabP
 rw[az,aO,cM,aE]
 congr 1
 ·refine aS λn hn=>?_
  have hn:=ax.mp hn
  have:(ks++[k]).getD n 0=ks.getD n 0:=by rw[av,av,bd hn]
  rw[this,h n _ (ze9 hn)]
 ·rw[List.map_singleton]
  have:(ks++[k]).getD ks.length 0=k:=by rw[av,List.getElem?_append_right (aB _),eu];rfl
  rw[this]
theorem zya:HdOk ⟨0,0,0,tabP W num ks⟩↔ks.length<2^18:=by
 constructor
 ·intro h;have:=h.len;rwa[zen]at this
 ·intro h
  refine⟨by rw[zen];exact h,λp hp=>?_⟩
  obtain⟨i,hi,rfl⟩:=aH.mp hp
  have:=zsb (k:=ks.getD i 0) (gL (num:=num) (S:=W (ks.getD i 0))) (ak zfp (by decide))
  exact⟨this.len,this.ok⟩
end
theorem zx6 {m r:AV}{po nf:Int}:(fC m r po nf).lookup (S "is_active")=none:=by rfl
theorem zxg {θ:Nat→Option AV}{σ:List AO}{F:List AV→List AO→Option (AV×List AO)}{a:AV}{vs:List AV}{Q:AV→St→Prop}(hl:vs.length<2^20)(hF:dO (F (a::vs) σ) λr σ'=>Q r ⟨θ,σ'⟩):wp (zhd F a (.tup vs)) ⟨θ,σ⟩ Q:=by
 (refine x2a2 (fh (θ:=θ) hF) λr st' e hq=>?_)
 exact⟨r,st',c8 (a:=vs) rfl ((if_pos hl).trans e),hq⟩
theorem zsp {σ:List AO}:zsa (.rng 8 (-1) 9) σ=some (tab 9 λi=>.int (8-i),none):=by
 show some (io 8 (-1) 9,none)=_
 have:io 8 (-1) 9=tab 9 λi=>.int (8-i):=aS λi u1=>by congr 1;lia
 exact aw this rfl
theorem zx9 {n:Nat}{g:Int→AV}{k:Nat}{v:AV}:(tab n g).set k v=tab n λi=>if i=k then v else g i:=by
 refine cQ λi=>?_
 unfold tab
 rw[List.getElem?_set,aK,aK,ae,aC]
 by_cases h:k=i
 ·subst h
  rw[if_pos rfl]
  by_cases q:k<n
  ·rw[if_pos q,b8 q];exact congrArg some (if_pos rfl).symm
  ·rw[if_neg q,bB (by rw[aC];exact cq q)];rfl
 ·rw[if_neg h]
  by_cases q:i<n
  ·rw[b8 q];exact congrArg some (if_neg (λe=>h (cW e).symm)).symm
  ·rw[bB (by rw[aC];exact cq q)];rfl
noncomputable def numL (dn:Nat→Bool)(f:Nat→Nat):List AV:=tab 9 λi=>.int (if dn i.toNat=true then(f i.toNat:Int)else -1)
theorem zop {dn:Nat→Bool}{f:Nat→Nat}{k v:Nat}:(numL dn f).set k (.int v)=numL (λi=>dn i||decide (i=k)) (updN f k v):=by
 unfold numL
 rw[zx9]
 refine zd7 λi h0 u1=>?_
 by_cases e:i=k
 ·subst e
  rw[if_pos rfl,ay]
  unfold updN
  simp
 ·have e2:¬i.toNat=k:=λq=>e (by lia)
  unfold updN
  rw[if_neg e]
  simp[e2]
theorem zs3 {dn:Nat→Bool}{f:Nat→Nat}{k:Int}(h0:0≤k)(h9:k<9)(h:dn k.toNat=true):gh (numL dn f) k=some (.int (f k.toNat:Nat)):=by
 unfold numL
 refine(fR ⟨h0,h9,by decide⟩).trans ?_
 exact aw (if_pos h) rfl
theorem zg5 {dn:Nat→Bool}{f:Nat→Nat}:(numL dn f).length=9:=gz
theorem zr0 {f:Nat→Nat}{k:Nat}:updN f k (f k)=f:=funext λi=>by
 unfold updN
 split
 ·rename_i e;exact aw e rfl
 ·rfl
theorem rep9:(List.replicate (9:Int).toNat [AV.int (-1)]).flatten=numL (λu1=>false) λu1=>0:=by rfl
structure NuS (σ:List AO)(n0:Nat)(H:fV)(W:Nat→List Nat)(dn:Nat→Bool)(num:Nat→Nat)(ks:List Nat):Prop where
 nu:σ[n0+1]?=some (.list (numL dn num))
 ro:σ[n0+3]?=some (.list (numL dn (vR W)))
 pa:σ[n0+4]?=some (.list ((tabP W num ks).map fQ))
 hd:HdR σ ⟨H.t,H.d,H.l,tabP W num ks⟩
theorem NuS.keep {σ σ':List AO}{n0:Nat}{H:fV}{W:Nat→List Nat}{dn:Nat→Bool}{num:Nat→Nat}{ks:List Nat}(X:NuS σ n0 H W dn num ks)(hk:∀i o,n0<i∨i=H.t∨i=H.d∨i=H.l→σ[i]?=some o→σ'[i]?=some o):NuS σ' n0 H W dn num ks :=
 ⟨hk _ _ (.inl (aQ _)) X.nu,hk _ _ (.inl (by simp)) X.ro,hk _ _ (.inl (by simp)) X.pa,X.hd.keep λi o hi e=>hk i o (.inr hi) e⟩
theorem NuS.push {σ:List AO}{n0:Nat}{H:fV}{W:Nat→List Nat}{dn:Nat→Bool}{num:Nat→Nat}{ks:List Nat}(X:NuS σ n0 H W dn num ks)(o:AO):NuS (σ++[o]) n0 H W dn num ks:=X.keep λu1 u2 u3 e=>b6 e
noncomputable def ej (W:Nat→List Nat)(r:Nat)(p:List Int)(k:Nat):Bool:=decide (k<9∧(vR W k<r∨(k:Int)∈p))
inductive NuA (σ:List AO)(wo:Nat)(H:fV)(W:Nat→List Nat)(i:Nat)(st:St):Prop
 |mk (T:TsD) (x3:Option AV) (e1:st.θ=th [some (.obj wo),some (.obj H.t),some (.obj (σ.length+1)),x3,none,none,none,none,none,none,none,none,none,none,none,none,none,none]) (e2:Frm σ st.σ [])
  (I:AddQ σ.length 9 (gX W) (λk=>decide (9-(i:Int)≤k∧k<9)) (15*i) st.σ T):NuA σ wo H W i st
inductive NuC (σ:List AO)(wo:Nat)(H:fV)(W:Nat→List Nat)(T:TsD)(rr n0:Nat)(m:Nat)(st:St):Prop
 |mk (r:Nat) (np:Int→Int) (rs:List Int) (num:Nat→Nat) (ks:List Nat) (po:Int) (x3 x8 x9 x10:Option AV) (hm:m=9-r) (hr:r≤9)
  (e1:st.θ=th [some (.obj wo),some (.obj H.t),some (.obj T.s),x3,some (.obj (n0+1)),some (.obj (n0+3)),some (.obj (n0+4)),some (.int r),x8,x9,x10,none,none,none,none,none,none,none])
  (e2:Frm σ st.σ [H.l]) (ts:TsR st.σ ((T.np' np).at' (.obj rr) po po)) (rd:st.σ[rr]?=some (.list (rs.map .int))) (R:Rnd 9 (gX W) (rkW W) r np rs) (N:NumI W (ej W r []) num ks) (X:NuS st.σ n0 H W (ej W r []) num ks):NuC σ wo H W T rr n0 m st
inductive NuD (σ σ2:List AO)(wo:Nat)(H:fV)(W:Nat→List Nat)(T:TsD)(n0 r:Nat)(gs:AV)(p:List Int)(st:St):Prop
 |mk (num:Nat→Nat) (ks:List Nat) (x3 x9 x10:Option AV)
  (e1:st.θ=th [some (.obj wo),some (.obj H.t),some (.obj T.s),x3,some (.obj (n0+1)),some (.obj (n0+3)),some (.obj (n0+4)),some (.int r),some gs,x9,x10,none,none,none,none,none,none,none])
  (e2:Frm σ st.σ [H.l]) (e3:∀i o,σ.length≤i→i<n0→σ2[i]?=some o→st.σ[i]?=some o) (N:NumI W (ej W r p) num ks) (X:NuS st.σ n0 H W (ej W r p) num ks):NuD σ σ2 wo H W T n0 r gs p st
inductive NuP (σ:List AO)(H:fV)(W:Nat→List Nat)(v:AV)(σ':List AO):Prop
 |mk (a b c:Nat) (num:Nat→Nat) (ks:List Nat) (e:v=.tup [.obj a,.obj b,.obj c]) (F:Frm σ σ' [H.l]) (N:Numd W num ks) (nu:σ'[a]?=some (.list (tab 9 λi=>.int (num i.toNat:Nat)))) (ro:σ'[b]?=some (.list (tab 9 λi=>.int (vR W i.toNat:Nat))))
  (pa:σ'[c]?=some (.list ((tabP W num ks).map fQ))) (hd:HdR σ' ⟨H.t,H.d,H.l,tabP W num ks⟩):NuP σ H W v σ'
section
variable {θ:Nat→Option AV}{σ σ':List AO}{wo:Nat}{W:Nat→List Nat}{H:fV}
theorem zra {k:Int}(h:0≤k):wrow W k=(gX W k).map .int:=by
 unfold wrow gX
 refine aw (if_pos h) (aw be ?_)
 rfl
theorem zux {o:Nat}{vs:List AV}{Q:List AV→St→Prop}(h:σ[o]?=some (.list vs))(hl:vs.length<2^20)(hq:Q vs ⟨θ,σ⟩):wp (z0p (.obj o)) ⟨θ,σ⟩ Q :=
 cH (by
  show(d7 σ o).bind _=_
  exact c8 (eR h) (if_pos hl)) hq
theorem zj9 {r:Nat}{p:List Int}{k:Int}(h:0≤k∧k<9):(λi=>ej W r p i||decide (i=k.toNat))=ej W r (p++[k]):=by
 funext i
 unfold ej
 rw[bq,cB,decide_eq_true_eq,decide_eq_true_eq,decide_eq_true_eq,aD,ac]
 constructor
 ·rintro(⟨h1,h2⟩|h1)
  ·exact⟨h1,h2.imp_right .inl⟩
  ·exact⟨by lia,.inr (.inr (by lia))⟩
 ·rintro⟨h1,h2|h2|h2⟩
  ·exact .inl ⟨h1,.inl h2⟩
  ·exact .inl ⟨h1,.inr h2⟩
  ·exact .inr (by lia)
theorem zww {k:Int}(h:0≤k)(l:List Nat):gh [.str (nm l),.str (um l)] (k.fmod 2)=some (.str (fc k.toNat l)):=by
 unfold fc
 refine aw (Int.fmod_eq_emod_of_nonneg _ (by decide)) ?_
 by_cases e:k.toNat % 2=0
 ·have:k % 2=0:=by lia
  refine aw (if_pos e) (aw this ?_);rfl
 ·have:k % 2=1:=by lia
  refine aw (if_neg e) (aw this ?_);rfl
theorem ztc {n:Nat}(h:n≤9):(n:Int).natAbs.log2<1920:=by
 rw[Int.natAbs_natCast]
 exact ak (Nat.log2_le_self n) (ak h (by decide))
theorem zjh {num:Nat→Nat}{ks:List Nat}{a b c:Nat}(h:ks.length≤9):HdOk ⟨a,b,c,tabP W num ks⟩ :=
 have h:=(zya (W:=W) (num:=num)).mpr (ak h (by decide):ks.length<2^18)
 ⟨h.len,h.key⟩
inductive SdP (σ:List AO)(H:fV)(W:Nat→List Nat)(dn:Nat→Bool)(k:Nat)(num:Nat→Nat)(ks:List Nat)(v:AV)(σ':List AO):Prop
 |mk (n:Nat) (ks':List Nat) (e:v=.str (numT n)) (h9:n<9) (F:Frm σ σ' [H.l]) (N:NumI W (λi=>dn i||decide (i=k)) (updN num k n) ks') (hd:HdR σ' ⟨H.t,H.d,H.l,tabP W (updN num k n) ks'⟩)
  (pa:n=ks.length∧tabP W (updN num k n) ks'=tabP W num ks++[(fc k (nset num (W k)),numT (ks.length:Nat))]∨n≠ks.length∧tabP W (updN num k n) ks'=tabP W num ks):SdP σ H W dn k num ks v σ'
theorem zsi {dn:Nat→Bool}{num:Nat→Nat}{ks:List Nat}{k:Nat}(N:NumI W dn num ks)(hk:dn k=false)(h9:k<9)(hc:∀j∈W k,dn j=true)(X:HdR σ ⟨H.t,H.d,H.l,tabP W num ks⟩) :
  dO (zcz [.obj H.t,.str (fc k (nset num (W k))),.str (numT (ks.length:Nat))] [] σ) (SdP σ H W dn k num ks):=by
 have hlen:=N.len
 have px:gO (fc k (nset num (W k)))=true:=z0q gL
 have hl9:(nset num (W k)).length≤9:=zfp
 have hx:=zsb (k:=k) (l:=nset num (W k)) gL (ak hl9 (by decide))
 by_cases c:∃n k':Nat,ks[n]?=some k'∧nset num (W k')=nset num (W k)
 ·(refine x2a2 c fun n k' hn e=>?_)
  have hs:getH (tabP W num ks) (fc k (nset num (W k)))=some (numT n):=zky gL N.inj hn e
  have hn9:n<ks.length:=(ap.mp hn).1
  have N':=N.old hk h9 hc hn e
  have et:tabP W (updN num k n) ks=tabP W num ks:=zpw λi j hj=>N.keep hk n (N.cl _ (N.at_ _ _ hj).1)
  have hks:ks.length≤9:=hlen
  refine zea (H:=⟨H.t,H.d,H.l,tabP W num ks⟩) X (zjh hks) hx px (by rw[zfl];exact ak hl9 (by decide)) (y:=numT (ks.length:Nat)) (num9 (by exact la34 hlen)).p (a9 (num9 (by exact la34 hlen)).z (by decide)) (λv hv=>?_) (λq=>?_)
  ·rw[hs]at hv
   obtain rfl:=sj hv
   exact⟨n,ks,rfl,by lia,.refl _ _,N',by rw[et];exact X,.inr ⟨aL hn9,et⟩⟩
  ·rw[hs]at q
   exact sn q
 ·have hn:∀n k':Nat,ks[n]?=some k'→nset num (W k')≠nset num (W k):=λn k' h e=>c ⟨n,k',h,e⟩
  have hs:getH (tabP W num ks) (fc k (nset num (W k)))=none:=zkz gL hn
  have N':=N.fresh hk h9 hc hn
  have hl':=N'.len
  rw[az,aO]at hl'
  have et:tabP W (updN num k ks.length) (ks++[k])=tabP W num ks++[(fc k (nset num (W k)),numT (ks.length:Nat))]:=by
   rw[zr8 (num:=num) (num':=updN num k ks.length) λi j hj=>N.keep hk _ (N.cl _ (N.at_ _ _ hj).1),N.keep hk _ hc]
  refine zea (H:=⟨H.t,H.d,H.l,tabP W num ks⟩) X (zjh hlen) hx px (by rw[zfl];exact ak hl9 (by decide)) (y:=numT (ks.length:Nat)) (num9 (by exact la34 hlen)).p (a9 (num9 (by exact la34 hlen)).z (by decide)) (λv hv=>?_) (λu1 v σ' hP=>?_)
  ·rw[hs]at hv
   exact ns hv
  ·obtain⟨rfl,R,F⟩:=hP
   exact⟨ks.length,ks++[k],rfl,by lia,F,N',by rw[et];exact R,.inl ⟨rfl,et⟩⟩
set_option maxHeartbeats 4000000 in
theorem zlb (O:Wok W){rf:Int→Nat}(M:MatR σ wo 9 rf (wrow W))(h:HdR σ H)(hps:H.ps=[])(ht:H.t<σ.length)(hd:H.d<σ.length)(hl:H.l<σ.length)(hne:∀i,i=wo∨(∃h:Int,0≤h∧h<9∧i=rf h)→i≠H.l):dO (zf0 [.obj wo,.obj H.t] [] σ) (NuP σ H W):=by
 refine gU λQ hQ=>?_
 refine fx (l:=[some (.obj wo),some (.obj H.t),none,none,none,none,none,none,none,none,none,none,none,none,none,none,none,none]) 18 (by rfl) (by rfl) (by rfl) (by rfl) ?_
 unfold D_law_numbers
 repeat walk_at "v"
 refine fh (fP z0j ?_)
 rintro _ σ1 ⟨rfl,R1,F1⟩
 repeat walk_at "v"
 have G:=grW O
 have hM:∀{σ1:List AO},Frm σ σ1 [H.l]→MatR σ1 wo 9 rf (wrow W):=λF=>M.keep λi x hi e=>F.same i x (λq=>hne i (by exact hi) (ac.mp q)) e
 refine cH (a:=.rng 8 (-1) 9) rfl ?_
 refine zg9 (vs:=tab 9 λi=>.int (8-i)) (g:=none) zsp ?_
 dsimp only
 refine zf3 (NuA σ wo H W) ?_ ?_ ?_
 ·refine⟨_,_,rfl,F1,⟨R1,rfl,rfl,by show 0≤0;decide,λi hi=>?_,λi=>?_,λp s=>?_,by nofun,λk hk=>?_,rfl,rfl⟩⟩
  ·rcases foot_iff.mp hi with rfl|rfl|rfl|⟨x,hx,-⟩
   ·exact cV _
   ·exact aB _
   ·exact bN _ _
   ·cases hx
  ·rw[if_neg (by simp<;>lia)];rfl
  ·rw[if_neg (by simp<;>lia)];rfl
  ·simp at hk;lia
 ·rintro i hi ⟨_,σ2⟩ ⟨T,x3,(rfl:_=th _),(F:Frm σ σ2 []),(I:AddQ _ _ _ _ _ σ2 T)⟩
  refine⟨fK,λK hK=>?_⟩
  repeat walk_at "v"
  have h7:0≤8-(i:Int)∧8-(i:Int)<9:=by lia
  rw[←I.s]
  refine dv (gm I.ts.hs I.ts.hd zx5) ?_
  repeat walk_at "v"
  have M2:=hM (F.mono (by nofun))
  refine eM M2.top (fR ⟨h7.1,h7.2,by decide⟩) ?_
  repeat walk_at "v"
  have hp7:=zyu O (8-(i:Int))
  refine zux (M2.row _ h7.1 h7.2) (by rw[zra h7.1,ae];exact ak hp7 (by decide)) ?_
  repeat walk_at "v"
  rw[zra h7.1]
  refine fh (fP (zwj (ps:=gX W (8-i)) I.ts I.r (by have:=I.cnt;lia)) ?_)
  rintro _ σ3 ⟨rfl,T',R',F',G',k1,k2,k3,k4⟩
  repeat walk_at "v"
  have I':=I.step G F.len (decide_eq_false (by lia)) h7 R' G' k1 k2 k3 k4
  exact hK _ ⟨T',some (.int (8-i)),by rw[I.s];rfl,F.nextS F' I.ft,I'.same (λk=>by rw[bq,cB,decide_eq_true_eq,decide_eq_true_eq,decide_eq_true_eq];lia) (by lia)⟩
 rintro⟨_,σ2⟩ ⟨T,x3,(rfl:_=th _),(F:Frm σ σ2 []),(I:AddQ _ _ _ _ _ σ2 T)⟩
 have Z:=(I.same (D':=λk=>decide (0≤k∧k<9)) (λk=>by rw[bq,decide_eq_true_eq,decide_eq_true_eq];lia) (aB _)).end_ G (λk=>decide_eq_true_iff)
 refine⟨fK,?_⟩
 repeat walk_at "v"
 rw[←I.s]
 refine dv (gm I.ts.hs I.ts.hd zu4) ?_
 repeat walk_at "v"
 have tcnt:T.L.length≤T.cnt:=I.ts.len
 refine fh (fP (zk9 (rk:=λk=>(rkW W k).toNat) I.ts I.r Z.ord (ak Z.wt (by decide)) (by have:=Z.cnt;lia)) ?_)
 rintro _ σ3 ⟨rfl,R3,Y3,F3⟩
 have F3:=F.nextS F3 I.ft
 have hsep:∀i∈σ2.length::T.foot,σ.length≤i∧i<σ3.length:=λi hi=>by
  rcases au.mp hi with e|e
  ·rw[e];exact⟨F.len,ek Y3.list⟩
  ·exact⟨I.ft i e,R3.foot_lt (i:=i) e⟩
 have hT:=I.pn
 rw[hT.1,hT.2]at R3
 have hrr:=Y3.list
 have hne3:=Y3.ne
 have ZR:=Z.zs
 generalize il T.np T.L=rs at *
 generalize σ2.length=rr at *
 clear I F Y3
 have h3:HdR σ3 H:=h.keep λi o hi e=>F3.same i o (by nofun) e
 have hle3:=F3.len
 repeat walk_at "v"
 refine gj (show 1<2^20 by decide) ?_
 repeat walk_at "v"
 refine zrl cR (by decide) rep9 (by rw[zg5];decide) ?_
 repeat walk_at "v"
 refine gj (show 1<2^20 by decide) ?_
 repeat walk_at "v"
 refine zrl cR (by decide) rep9 (by rw[zg5];decide) ?_
 repeat walk_at "v"
 refine gj (show 0<2^20 by decide) ?_
 repeat walk_at "v"
 have F4:Frm σ (σ3++[AO.list [.int (-1)]]++[AO.list (numL (λu1=>false) λu1=>0)]++[AO.list [.int (-1)]]++[AO.list (numL (λu1=>false) λu1=>0)]++[AO.list []]) [H.l]:=(((((F3.pushN _).pushN _).pushN _).pushN _).pushN _).mono (by nofun)
 have R4:=((((R3.push (AO.list [.int (-1)])).push (AO.list (numL (λu1=>false) λu1=>0))).push (AO.list [.int (-1)])).push (AO.list (numL (λu1=>false) λu1=>0))).push (AO.list [])
 have rd4:=b6 (o:=AO.list []) (b6 (o:=(AO.list (numL (λu1=>false) λu1=>0))) (b6 (o:=AO.list [.int (-1)]) (b6 (o:=(AO.list (numL (λu1=>false) λu1=>0))) (b6 (o:=AO.list [.int (-1)]) hrr))))
 have H4:=((((h3.push (AO.list [.int (-1)])).push (AO.list (numL (λu1=>false) λu1=>0))).push (AO.list [.int (-1)])).push (AO.list (numL (λu1=>false) λu1=>0))).push (AO.list [])
 have a1:(σ3++[AO.list [AV.int (-1)]]).length=σ3.length+1:=by simp
 have a2:(σ3++[AO.list [AV.int (-1)]]++[AO.list (numL (λu1=>false) λu1=>0)]++[AO.list [.int (-1)]]).length=σ3.length+3:=by simp
 have a3:(σ3++[AO.list [AV.int (-1)]]++[AO.list (numL (λu1=>false) λu1=>0)]++[AO.list [.int (-1)]]++[AO.list (numL (λu1=>false) λu1=>0)]).length=σ3.length+4:=by simp
 have g1:(σ3++[AO.list [AV.int (-1)]]++[AO.list (numL (λu1=>false) λu1=>0)]++[AO.list [.int (-1)]]++[AO.list (numL (λu1=>false) λu1=>0)]++[AO.list []])[σ3.length+1]?=some (.list (numL (λu1=>false) λu1=>0)):=a1▸b6 (b6 (b6 cR))
 have g3:(σ3++[AO.list [AV.int (-1)]]++[AO.list (numL (λu1=>false) λu1=>0)]++[AO.list [.int (-1)]]++[AO.list (numL (λu1=>false) λu1=>0)]++[AO.list []])[σ3.length+3]?=some (.list (numL (λu1=>false) λu1=>0)):=a2▸b6 cR
 have g4:(σ3++[AO.list [AV.int (-1)]]++[AO.list (numL (λu1=>false) λu1=>0)]++[AO.list [.int (-1)]]++[AO.list (numL (λu1=>false) λu1=>0)]++[AO.list []])[σ3.length+4]?=some (.list []):=a3▸cR
 rw[a1,a2,a3]
 generalize (σ3++[AO.list [AV.int (-1)]]++[AO.list (numL (λu1=>false) λu1=>0)]++[AO.list [.int (-1)]]++[AO.list (numL (λu1=>false) λu1=>0)]++[AO.list []])=σ4 at *
 generalize hn0:σ3.length=n0 at *
 have hl0:∀p,numL (ej W 0 []) p=numL (λu1=>false) λu1=>0:=λp=>zd7 λi u1 u2=>by
  have:ej W 0 [] i.toNat=false:=decide_eq_false λq=>q.2.elim (aW _) (by nofun)
  rw[this];rfl
 refine zdl (NuC σ wo H W T rr n0) 9 ?_ ?_
 ·refine⟨0,T.np,rs,λu1=>0,[],0,_,_,_,_,rfl,aU _,rfl,F4,R4,rd4,ZR,NumI.nil.same' λk=>(decide_eq_false λq=>q.2.elim (aW _) (by nofun)).symm,⟨by rw[hl0];exact g1,by rw[hl0];exact g3,g4,?_⟩⟩
  have:H=⟨H.t,H.d,H.l,tabP W (λu1=>0) []⟩:=by cases H;cases hps;rfl
  rw[←this]
  exact H4
 ·rintro m ⟨_,σ5⟩ ⟨r,np,rs,num,ks,po,x3,x8,x9,x10,hm,hrt,(rfl:_=th _),(F5:Frm σ σ5 [H.l]),(R5:TsR σ5 _),(rd:σ5[rr]?=_),RN,N,X⟩
  have X:NuS σ5 n0 H W (ej W r []) num ks:=X
  have Y5:RdyR σ5 ((T.np' np).at' (.obj rr) po po) rr rs:=⟨rfl,rd,hne3⟩
  have hrl:rs.length≤9:=by
   have:=bH (l₂:=(List.range 9).map λi:Nat=>(i:Int)) RN.nd λk hk=>by
    have:=((RN.mem k).mp hk).1
    exact aH.mpr ⟨k.toNat,ax.mpr (by lia),by exact la72 this⟩
   rwa[ae,aC]at this
  repeat walk_at "v"
  refine dv (gm R5.hs R5.hd zx6) ?_
  repeat walk_at "v"
  refine fh (zia (T:=(T.np' np).at' (.obj rr) po po) R5 Y5 (ak hrl (by decide)) ?_)
  repeat walk_at "v"
  have ha:(decide (((T.np' np).at' (.obj rr) po po).nf<((T.np' np).at' (.obj rr) po po).po)||!rs.isEmpty)=!rs.isEmpty:=by
   rw[show decide (((T.np' np).at' (.obj rr) po po).nf<((T.np' np).at' (.obj rr) po po).po)=false from decide_eq_false (Int.lt_irrefl po),Bool.false_or]
  rw[ha]
  refine zn2 (λhc=>?_) (λhc=>?_)
  ·have hne0:rs≠[]:=by rintro rfl;cases hc
   have hrt':r<9:=by
    obtain⟨k,hk⟩:=List.exists_mem_of_ne_nil rs hne0
    have h1:=(RN.mem k).mp hk
    have h2:=z2a O k.toNat
    have h3:((vR W k.toNat:Nat):Int)=r:=h1.2
    lia
   repeat walk_at "v"
   refine dv (gm R5.hs R5.hd z0k) ?_
   repeat walk_at "v"
   refine fh (fP (zib (T:=(T.np' np).at' (.obj rr) po po) R5 Y5 (λk hk=>(Z.kn k).mpr ((RN.mem k).mp hk).1) (ak hrl (by decide))) ?_)
   rintro _ σ6 ⟨rfl,R6,Y6,F6⟩
   have hfar:∀i,n0<i∨i=H.t∨i=H.d∨i=H.l→i∉rr::T.foot:=λi hi q=>by
    have:=hsep i q
    rcases hi with q2|q2|q2|q2
    ·lia
    ·lia
    ·lia
    ·lia
   have X6:=X.keep λi o hi e=>F6.same i o (hfar i hi) e
   have F06:Frm σ σ6 [H.l]:=F5.trans F6 λi hi=>.inr (hsep i hi).1
   have D:=RN.step G (aG r) Z.su
   change TsR σ6 ((T.np' (rs.foldl (λnp k=>setF np k (-1)) np)).at' (.obj rr) (po+rs.length) po)at R6
   change RdyR σ6 ((T.np' (rs.foldl (λnp k=>setF np k (-1)) np)).at' (.obj rr) (po+rs.length) po) rr []at Y6
   generalize rs.foldl (λnp k=>setF np k (-1)) np=np6 at *
   clear F6 Y5 R5 rd X
   repeat walk_at "v"
   refine zjb ?_
   dsimp only
   refine zxr (NuD σ σ6 wo H W T n0 r (.tup (rs.map .int))) ?_ ?_ ?_
   ·exact⟨num,ks,_,_,_,rfl,F06,λu1 u2 u3 u4 e=>e,N,X6⟩
   ·rintro p k q hpq ⟨_,σ7⟩ ⟨num,ks,x3,x9,x10,(rfl:_=th _),F7,K7,N,X7⟩
    have X7:NuS σ7 n0 H W (ej W r p) num ks:=X7
    have F7:Frm σ σ7 [H.l]:=F7
    refine⟨fK,λK hK=>?_⟩
    have hk:k∈rs:=by rw[←hpq];simp
    obtain⟨hk9,hkr⟩:=(RN.mem k).mp hk
    repeat walk_at "v"
    have hk0:0≤k∧k<9:=hk9
    have hrk:vR W k.toNat=r:=cW hkr
    have hM7:=hM F7
    have hdn:ej W r p k.toNat=false:=decide_eq_false λq=>q.2.elim (λq=>by lia) λq=>by
     have hn:=RN.nd
     rw[←hpq,b5]at hn
     exact hn.2.2 _ q k aj (by exact la72 hk9)
    have hcl:∀j∈W k.toNat,ej W r p j=true:=λj hj=>decide_eq_true ⟨by have:=O.ah _ _ hj;lia,.inl (by have:=z0g O hj;lia)⟩
    have hn9:∀j∈W k.toNat,num j<9:=λj hj=>N.num9 (hcl j hj)
    have hW7:=O.len k.toNat
    have hr9:(wrow W k)=(W k.toNat).map λj:Nat=>AV.int j:=rfl
    refine dv iq ?_
    repeat walk_at "v"
    refine gE ?_
    repeat walk_at "v"
    refine eM hM7.top (fR ⟨hk0.1,hk0.2,by decide⟩) ?_
    refine gW (hM7.row k hk0.1 hk0.2) ?_
    dsimp only
    refine gB (m:=[none,none,some (.obj (n0+1))]) 3 (by rfl) (by rfl) ?_
    refine iK (xs:=W k.toNat) (ei:=λj:Nat=>.int j) (out:=λj:Nat=>[AV.str (dM (num j))]) (λθ=>∃a,θ=th [none,a,some (.obj (n0+1))]) ⟨_,rfl⟩ (λl=>fS (b6 (hM7.row k hk0.1 hk0.2))) ?_ ?_ ?_
    ·rintro j hj _ l ⟨a,rfl⟩ hl K hK
     repeat walk_at "v"
     walk_at "t"
     repeat walk_at "v"
     have hj9:(j:Int)<9:=by have:=O.ah _ _ hj;lia
     refine eM (b6 X7.nu) (zs3 (aG j) hj9 (hcl j hj)) ?_
     refine zpk (z04 (hn9 j hj)) ?_
     refine gC cR (by exact ag (by assumption) (by decide)) ?_
     exact gJ hK ⟨_,rfl⟩
    ·rw[gF,ae]
     exact ak hW7 (by decide)
    rintro _ ⟨a2,rfl⟩
    repeat walk_at "v"
    refine⟨rfl,?_⟩
    dsimp only
    rw[gF]
    have eS:((W k.toNat).map λj=>AV.str (dM (num j)))=((W k.toNat).map λj=>dM (num j)).map .str:=by rw[be];rfl
    rw[eS]
    repeat walk_at "v"
    refine zxk cR (by rw[ae];exact ak hW7 (by decide)) ?_
    repeat walk_at "v"
    have hS9:(nset num (W k.toNat)).length≤9:=zfp
    refine zd5 (D:=strsK) (ys:=(nset num (W k.toNat)).map dM) zdd ?_ ?_ (by rw[ae];exact ak hS9 (by decide)) ?_
    ·refine bC.mpr (List.Pairwise.imp (λ{a b} h=>ltX_lt1.trans (decide_eq_true h)) ?_)
     exact List.Pairwise.filter _ dc
    ·intro x
     rw[aH,aH]
     constructor
     ·rintro⟨m,hm,rfl⟩
      obtain⟨j,hj,rfl⟩:=(zju hn9 m).mp hm
      exact⟨j,hj,rfl⟩
     ·rintro⟨j,hj,rfl⟩
      exact⟨num j,(zju hn9 _).mpr ⟨j,hj,rfl⟩,rfl⟩
    repeat walk_at "v"
    refine zro (xs:=(nset num (W k.toNat)).map dM) cR (zlm (ak hS9 (by decide))) ?_
    have X8:=(X7.push (AO.list (((W k.toNat).map λj=>dM (num j)).map AV.str))).push (AO.list (((nset num (W k.toNat)).map dM).map strsK.em))
    have F8:=(F7.trans (Frm.push (AO.list (((W k.toNat).map λj=>dM (num j)).map AV.str)) []) (by nofun)).trans (Frm.push (AO.list (((nset num (W k.toNat)).map dM).map strsK.em)) []) (by nofun)
    have K8:∀i o,σ.length≤i→i<n0→σ6[i]?=some o→(σ7++[AO.list (((W k.toNat).map λj=>dM (num j)).map AV.str)]++[AO.list (((nset num (W k.toNat)).map dM).map strsK.em)])[i]?=some o:=λi o h1 h2 e=>b6 (b6 (K7 i o h1 h2 e))
    rw[ztn]
    generalize σ7++[AO.list (((W k.toNat).map λj=>dM (num j)).map AV.str)]++[AO.list (((nset num (W k.toNat)).map dM).map strsK.em)]=σ8 at *
    clear X7 F7 K7
    have hks:=N.len
    repeat walk_at "v"
    refine zje (H:=⟨H.t,H.d,H.l,tabP W num ks⟩) X8.hd (by dsimp only;rw[zen];exact ak hks (by decide)) ?_
    dsimp only
    rw[zen]
    repeat walk_at "v"
    refine dv (gm X8.hd.ht X8.hd.hd zv3) ?_
    repeat walk_at "v"
    refine dv iq ?_
    repeat walk_at "v"
    refine ze7 (by show(nm _).cps.size≤_;rw[iZ];exact aI hS9 (by decide)) ?_
    rw[zjg gL]
    repeat walk_at "v"
    refine zij (show 2<2^20 by decide) ?_
    repeat walk_at "v"
    refine zf1 (zww hk0.1 _) ?_
    repeat walk_at "v"
    refine zg8 (ztc hks) ?_
    repeat walk_at "v"
    refine fh (fP (zsi N hdn (by lia) hcl X8.hd) ?_)
    rintro _ σ9 ⟨n,ks',rfl,h9,F9,N9,hd9,pa9⟩
    repeat walk_at "v"
    refine zrp (num9 (bg h9)) ?_
    repeat walk_at "v"
    have c1:∀i,n0<i→i∉[H.l]:=λi hi q=>by have:=ac.mp q;lia
    have nu9:=F9.same _ _ (c1 _ (aQ n0)) X8.nu
    have ro9:=F9.same _ _ (c1 (n0+3) (by lia)) X8.ro
    have pa9':=F9.same _ _ (c1 (n0+4) (by lia)) X8.pa
    refine zcb nu9 ⟨hk0.1,by rw[zg5];exact hk0.2,by lia⟩ ?_
    rw[zop]
    rw[zj9 hk0]at N9 ⊢
    have nu10:=eU (o':=AO.list (numL (ej W r (p++[k])) (updN num k.toNat n))) nu9
    have ro10:=ck (o:=AO.list (numL (ej W r (p++[k])) (updN num k.toNat n))) ro9 (show n0+1≠n0+3 by lia)
    have pa10:=ck (o:=AO.list (numL (ej W r (p++[k])) (updN num k.toNat n))) pa9' (show n0+1≠n0+4 by lia)
    have lo:∀i,(i=H.t∨i=H.d∨i=H.l)→i<n0:=λi hi=>by
     rcases hi with rfl|rfl|rfl
     ·exact ag ht hle3
     ·exact ag hd hle3
     ·exact ag hl hle3
    have hd10:=hd9.keep λi o hi e=>ck (o:=AO.list (numL (ej W r (p++[k])) (updN num k.toNat n))) e (show n0+1≠i from λq=>by have:=lo i hi;lia)
    have F10:=(F8.trans F9 λi hi=>.inl hi).trans (Frm.set (S:=[n0+1]) (AO.list (numL (ej W r (p++[k])) (updN num k.toNat n))) (ac.mpr rfl)) λi hi=>.inr (by rw[ac.mp hi];lia)
    have K10:∀i o,σ.length≤i→i<n0→σ6[i]?=some o→(σ9.set (n0+1) (AO.list (numL (ej W r (p++[k])) (updN num k.toNat n))))[i]?=some o:=λi o h1 h2 e=>ck (F9.same i o (λq=>by have:=ac.mp q;lia) (K8 i o h1 h2 e)) (by lia)
    generalize σ9.set (n0+1) (AO.list (numL (ej W r (p++[k])) (updN num k.toNat n)))=σ10 at *
    clear X8 F8 K8 F9 hd9 nu9 ro9 pa9'
    repeat walk_at "v"
    refine zcb ro10 ⟨hk0.1,by rw[zg5];exact hk0.2,by lia⟩ ?_
    have e2:(numL (ej W r p) (vR W)).set k.toNat (.int (r:Int))=numL (ej W r (p++[k])) (vR W):=by
     rw[←hrk,zop,zr0,hrk,zj9 hk0]
    rw[e2]
    have nu11:=ck (o:=AO.list (numL (ej W r (p++[k])) (vR W))) nu10 (show n0+3≠n0+1 by lia)
    have ro11:=eU (o':=AO.list (numL (ej W r (p++[k])) (vR W))) ro10
    have pa11:=ck (o:=AO.list (numL (ej W r (p++[k])) (vR W))) pa10 (show n0+3≠n0+4 by lia)
    have hd11:=hd10.keep λi o hi e=>ck (o:=AO.list (numL (ej W r (p++[k])) (vR W))) e (show n0+3≠i from λq=>by have:=lo i hi;lia)
    have F11:=F10.trans (Frm.set (S:=[n0+3]) (AO.list (numL (ej W r (p++[k])) (vR W))) (ac.mpr rfl)) λi hi=>.inr (by rw[ac.mp hi];lia)
    have K11:∀i o,σ.length≤i→i<n0→σ6[i]?=some o→(σ10.set (n0+3) (AO.list (numL (ej W r (p++[k])) (vR W))))[i]?=some o:=λi o h1 h2 e=>ck (K10 i o h1 h2 e) (by lia)
    generalize σ10.set (n0+3) (AO.list (numL (ej W r (p++[k])) (vR W)))=σ11 at *
    clear nu10 ro10 pa10 hd10 F10 K10
    repeat walk_at "v"
    have hdk:ej W r (p++[k]) k.toNat=true:=by rw[←zj9 hk0];simp
    refine eM nu11 (zs3 hk0.1 hk0.2 hdk) ?_
    have hup:updN num k.toNat n k.toNat=n:=if_pos rfl
    rw[hup]
    repeat walk_at "v"
    rcases pa9 with⟨en,et⟩|⟨en,et⟩
    ·subst en
     rw[show(((ks.length:Nat):Int)==((ks.length:Nat):Int))=true from beq_self_eq_true _]
     walk_at "t"
     repeat walk_at "v"
     refine dv (gw pa11) ?_
     repeat walk_at "v"
     refine dv iq ?_
     repeat walk_at "v"
     refine ze7 (by show(nm _).cps.size≤_;rw[iZ];exact aI hS9 (by decide)) ?_
     rw[zjg gL]
     repeat walk_at "v"
     refine zij (show 2<2^20 by decide) ?_
     repeat walk_at "v"
     refine zf1 (zww hk0.1 _) ?_
     repeat walk_at "v"
     refine zg8 (ztc hks) ?_
     repeat walk_at "v"
     refine zij (show 2<2^20 by decide) ?_
     repeat walk_at "v"
     refine ie pa11 (by rw[ae,zen];exact ak hks (by decide)) ?_
     repeat walk_at "v"
     have e3:(tabP W num ks).map fQ++[.tup [.str (fc k.toNat (nset num (W k.toNat))),.str (numT (ks.length:Nat))]]=(tabP W (updN num k.toNat ks.length) ks').map fQ:=by rw[et,aE];rfl
     rw[e3]
     refine hK _ ⟨updN num k.toNat ks.length,ks',_,_,_,rfl,F11.trans (Frm.set (S:=[n0+4]) _ (ac.mpr rfl)) λi hi=>.inr (by rw[ac.mp hi];lia),λi o h1 h2 e=>ck (K11 i o h1 h2 e) (by lia),N9,⟨ck nu11 (by lia),ck ro11 (by lia),eU pa11,hd11.keep λi o hi e=>ck e (λq=>by have:=lo i hi;lia)⟩⟩
    ·rw[show(((n:Nat):Int)==((ks.length:Nat):Int))=false from beq_eq_false_iff_ne.mpr λq=>en (cW q)]
     walk_at "f"
     repeat walk_at "v"
     rw[←et]at pa11
     exact hK _ ⟨updN num k.toNat n,ks',_,_,_,rfl,F11,K11,N9,⟨nu11,ro11,pa11,hd11⟩⟩
   ·rintro⟨_,σ7⟩ ⟨num,ks,x3,x9,x10,(rfl:_=th _),F7,K7,N,X7⟩
    have X7:NuS σ7 n0 H W (ej W r rs) num ks:=X7
    have F7:Frm σ σ7 [H.l]:=F7
    refine⟨fK,?_⟩
    have R7:=R6.keep λi o hi e=>K7 i o (hsep i (af _ hi)).1 (hsep i (af _ hi)).2 e
    have Y7:RdyR σ7 _ rr []:=⟨Y6.at_,K7 _ _ (hsep rr aj).1 (hsep rr aj).2 Y6.list,Y6.ne⟩
    repeat walk_at "v"
    refine dv (gm R7.hs R7.hd zu5) ?_
    repeat walk_at "v"
    refine zxg (by rw[ae];exact ak hrl (by decide)) ?_
    refine fP (zuc (T:=(T.np' np6).at' (.obj rr) (po+rs.length) po) R7 Y7 (λk hk=>(Z.kn k).mpr ((RN.mem k).mp hk).1) (λk hk s hs=>(Z.ord k ((Z.kn k).mpr ((RN.mem k).mp hk).1) s hs).1) D.one (by
     have h1:=Z.cnt
     have h2:rs.length*T.cnt≤9*135:=Nat.mul_le_mul hrl h1
     show 0+rs.length*T.cnt<_
     lia) (ak hrl (by decide))) ?_
    rintro _ σ8 ⟨rfl,R8,Y8,F8⟩
    repeat walk_at "v"
    refine zc9 ?_
    repeat walk_at "v"
    have e1:ej W r rs=ej W (r+1) []:=by
     funext k
     unfold ej
     refine decide_eq_decide.mpr (and_congr_right λhk=>?_)
     constructor
     ·rintro(q|q)
      ·exact .inl (bg q)
      ·have:((vR W k:Nat):Int)=r:=((RN.mem k).mp q).2
       exact .inl (by lia)
     ·rintro(q|q)
      ·by_cases e:vR W k=r
       ·exact .inr ((RN.mem k).mpr ⟨⟨aG k,aX.mpr hk⟩,by unfold rkW;rw[ay,e]⟩)
       ·exact .inl (by exact ik q e)
      ·cases q
    rw[e1]at N X7
    exact⟨m-1,by exact fU (hm▸Nat.sub_pos_of_lt hrt') (by decide),r+1,_,_,num,ks,po+rs.length,_,_,_,_,by exact hm▸rfl,hrt',rfl,F7.trans F8 λi hi=>.inr (hsep i hi).1,R8,Y8.list,D.nx,N,X7.keep λi o hi e=>F8.same i o (hfar i hi) e⟩
  ·have hrs:rs=[]:=by cases rs with|nil=>rfl|cons _ _=>cases hc
   have hall:∀k,k<9→ej W r [] k=true:=λk hk=>decide_eq_true ⟨hk,.inl (by
    refine cs λq=>?_
    obtain⟨j,hj,e⟩:=zso O k hk r (cq q)
    have:(j:Int)∈rs:=(RN.mem j).mpr ⟨⟨aG j,aX.mpr hj⟩,by unfold rkW;rw[ay,e]⟩
    rw[hrs]at this
    cases this)⟩
   have hL:∀f:Nat→Nat,numL (ej W r []) f=tab 9 λi=>.int (f i.toNat:Nat):=λf=>zd7 λi h0 h9=>by rw[if_pos (hall i.toNat (by exact la66 h9))]
   repeat walk_at "v"
   refine zij (show 3<2^20 by decide) ?_
   repeat walk_at "v"
   exact hQ _ _ ⟨n0+1,n0+3,n0+4,num,ks,rfl,F5,N.all hall,by rw[←hL];exact X.nu,by rw[←hL];exact X.ro,X.pa,X.hd⟩
end
section
variable {cnt:Nat}{S:Nat→List Nat}{told:Nat→Nat}
noncomputable def kdT (S:Nat→List Nat)(told:Nat→Nat):Nat→List PyData
 |0=>[]
 |n+1=>kdT S told n++[.list ((fq S told n).map λj=>(kdT S told n).getD j .none)]
noncomputable def kd (S:Nat→List Nat)(told:Nat→Nat)(n:Nat):PyData:=.list ((fq S told n).map λj=>(kdT S told n).getD j .none)
theorem z1b (n:Nat):kdT S told n=(List.range n).map (kd S told):=by
 induction n with
 |zero=>rfl
 |succ n ih =>
  show kdT S told n++[kd S told n]=_
  rw[cM,aE,←ih]
  rfl
theorem dsc_mem {n m:Nat}:m∈fq S told n↔m∈S n:=(zfu n).mem_iff
variable (T:Told cnt S told)
include T
theorem iA {n:Nat}(hn:n<cnt):kd S told n=.list ((fq S told n).map (kd S told)):=by
 unfold kd
 congr 1
 refine aS λj hj=>?_
 have:=T.low n hn j (dsc_mem.mp hj)
 rw[z1b,av,aK,b8 this]
 rfl
theorem iY {n m:Nat}(hn:n<cnt)(h:m∈S n):m<cnt:=a9 (T.low n hn m h) hn
theorem zdo {n m k:Nat}(hn:n<cnt)(h:m∈S n)(hk:told n<lv (k+1)):told m<lv k:=by
 have:(told n).testBit (told m)=true:=(T.bit n hn _).mpr ⟨m,h,rfl⟩
 have h2:=Nat.ge_two_pow_of_testBit this
 exact(Nat.pow_lt_pow_iff_right (by decide)).mp (ak h2 hk)
theorem zt9 {l:List Nat}(h:∀a∈l,a<cnt)(ih:∀a∈l,∀b,b<cnt→PyData.eqv (kd S told a) (kd S told b)=decide (told a=told b)):∀{m:List Nat},(∀b∈m,b<cnt)→PyData.eqvAll (l.map (kd S told)) (m.map (kd S told))=decide (l.map told=m.map told):=by
 induction l with
 |nil =>
  intro m hm
  cases m with
  |nil=>simp[PyData.eqvAll]
  |cons b m=>simp[PyData.eqvAll]
 |cons a l ih2 =>
  intro m hm
  cases m with
  |nil=>simp[PyData.eqvAll]
  |cons b m =>
   rw[aN,aN,PyData.eqvAll,ih a aj b (hm b aj),ih2 (λa ha=>h a (af _ ha)) (λa ha=>ih a (af _ ha)) λb hb=>hm b (af _ hb),aN,aN,bq]
   simp
theorem zw6 (n:Nat):∀a b,a<n→a<cnt→b<cnt→PyData.eqv (kd S told a) (kd S told b)=decide (told a=told b):=by
 induction n with
 |zero=>exact λa b h=>absurd h (aW _)
 |succ n ih =>
  intro a b h ha hb
  rw[iA T ha,iA T hb,PyData.eqv,zt9 T (λx hx=>iY T ha (dsc_mem.mp hx)) (λx hx y hy=>ih x y (ag (T.low a ha x (dsc_mem.mp hx)) (bF h)) (iY T ha (dsc_mem.mp hx)) hy) λx hx=>iY T hb (dsc_mem.mp hx)]
  refine decide_eq_decide.mpr ⟨λe=>?_,λe=>?_⟩
  ·rw[zem T ha,zem T hb,e]
  ·rw[zem T ha,zem T hb]at e
   exact zwc (zdf T ha) (zdf T hb) e
theorem z02 {f:PyData→PyData→Option Bool}{l:List Nat}(h:∀a∈l,a<cnt):∀{m:List Nat},(∀b∈m,b<cnt)→(∀a∈l,∀b∈m,f (kd S told a) (kd S told b)=some (decide (told a<told b)))→gY f (l.map (kd S told)) (m.map (kd S told))=some (lexN (l.map told) (m.map told)):=by
 induction l with
 |nil=>intro m _ _;cases m<;>rfl
 |cons a l ih =>
  intro m hm hf
  cases m with
  |nil=>rfl
  |cons b m =>
   have ha:=h a aj
   have hb:=hm b aj
   show(if PyData.eqv (kd S told a) (kd S told b)=true then gY f _ _ else f _ _)=some (if told a=told b then lexN (l.map told) (m.map told)else decide (told a<told b))
   rw[zw6 T (a+1) a b (aQ _) ha hb]
   by_cases e:told a=told b
   ·rw[if_pos (decide_eq_true e),if_pos e]
    exact ih (λx hx=>h x (af _ hx)) (λx hx=>hm x (af _ hx)) λx hx y hy=>hf x (af _ hx) y (af _ hy)
   ·rw[if_neg (by rw[decide_eq_true_eq];exact e),if_neg e]
    exact hf a aj b aj
theorem zw1 (k:Nat):∀f a b,k≤f→a<cnt→b<cnt→told a<lv (k+1)→told b<lv (k+1)→f9 (f+1) (kd S told a) (kd S told b)=some (decide (told a<told b)):=by
 induction k with
 |zero =>
  intro f a b _ ha hb h1 h2
  have e1:told a=0:=Nat.lt_one_iff.mp h1
  have e2:told b=0:=Nat.lt_one_iff.mp h2
  have:=T.inj a ha b hb (e1.trans e2.symm)
  subst this
  have hS:fq S told a=[]:=by
   refine List.eq_nil_iff_forall_not_mem.mpr λm hm=>?_
   have:=zdo T (k:=0) ha (dsc_mem.mp hm) h1
   exact absurd this (aW _)
  rw[iA T ha,hS,decide_eq_false (bo _)]
  show iu none (iu none (some _))=_
  rfl
 |succ k ih =>
  intro f a b hf ha hb h1 h2
  obtain⟨f,rfl⟩:∃g,f=g+1:=⟨f-1,by exact la16 hf⟩
  rw[iA T ha,iA T hb]
  show iu none (iu none (gY (f9 (f+1)) _ _))=_
  rw[z02 T (λx hx=>iY T ha (dsc_mem.mp hx)) (λx hx=>iY T hb (dsc_mem.mp hx)) λx hx y hy=>ih f x y (di hf) (iY T ha (dsc_mem.mp hx)) (iY T hb (dsc_mem.mp hy)) (zdo T ha (dsc_mem.mp hx) h1) (zdo T hb (dsc_mem.mp hy) h2)]
  rw[zy5 (zdf T ha) (zdf T hb),←zem T ha,←zem T hb]
  rfl
theorem zti (k:Nat):∀a,a<cnt→told a<lv (k+1)→Lays (k+1) (kd S told a):=by
 induction k with
 |zero =>
  intro a ha h
  rw[iA T ha]
  refine iJ λd hd=>?_
  obtain⟨m,hm,rfl⟩:=aH.mp hd
  have:=zdo T (k:=0) ha (dsc_mem.mp hm) h
  exact absurd this (aW _)
 |succ k ih =>
  intro a ha h
  rw[iA T ha]
  refine iJ λd hd=>?_
  obtain⟨m,hm,rfl⟩:=aH.mp hd
  exact ih m (iY T ha (dsc_mem.mp hm)) (zdo T ha (dsc_mem.mp hm) h)
theorem i4 {a:Nat}(ha:a<cnt):told a<lv (4+1):=T.lt a ha
end
structure Keys (σ:List AO)(S:Nat→List Nat)(told:Nat→Nat)(h:Nat)(j:Nat)(rf:Nat→Nat):Prop where
 row:∀m,m<j→σ[rf m]?=some (.list ((fq S told m).map λx=>.obj (rf x)))
 ne:∀m,m<j→rf m≠h
section
variable {cnt:Nat}{S:Nat→List Nat}{told:Nat→Nat}{σ σ':List AO}{h j:Nat}{rf:Nat→Nat}(T:Told cnt S told)
theorem Keys.keep (K:Keys σ S told h j rf)(hk:∀m x,m<j→σ[rf m]?=some x→σ'[rf m]?=some x):Keys σ' S told h j rf:=⟨λm hm=>hk m _ hm (K.row m hm),K.ne⟩
theorem Keys.setH (K:Keys σ S told h j rf)(o:AO):Keys (σ.set h o) S told h j rf:=K.keep λm x hm e=>ck e (cG (K.ne m hm))
include T
theorem zo5 (K:Keys σ S told h j rf)(hj:j≤cnt)(k:Nat):∀f a,k≤f→a<j→told a<lv (k+1)→gr σ f (.obj (rf a))=some (kd S told a):=by
 induction k with
 |zero =>
  intro f a _ ha h1
  have hac:=ag ha hj
  have hS:fq S told a=[]:=by
   refine List.eq_nil_iff_forall_not_mem.mpr λm hm=>?_
   have:=zdo T (k:=0) hac (dsc_mem.mp hm) h1
   exact absurd this (aW _)
  have hr:=K.row a ha
  rw[iA T hac]
  rw[hS]at hr ⊢
  cases f with
  |zero=>show(d7 σ (rf a)).bind _=_;exact c8 (eR hr) rfl
  |succ f=>show(d7 σ (rf a)).bind _=_;exact c8 (eR hr) rfl
 |succ k ih =>
  intro f a hf ha h1
  obtain⟨f,rfl⟩:∃g,f=g+1:=⟨f-1,by exact la16 hf⟩
  have hac:=ag ha hj
  rw[iA T hac]
  exact zcy (K.row a ha) λx hx=>ih f x (di hf) (a9 (T.low a hac x (dsc_mem.mp hx)) ha) (zdo T hac (dsc_mem.mp hx) h1)
theorem zzo (K:Keys σ S told h j rf)(hj:j≤cnt){a:Nat}(ha:a<j):ff σ (.obj (rf a))=some (kd S told a) :=
 have hac:=ag ha hj
 hO (zo5 T K hj 4 8 a (by decide) ha (i4 T hac)) (zti T 4 a hac (i4 T hac)) (by decide)
open Classical in
theorem zyq {θ:Nat→Option AV}{o:Nat}{Q:AV→St→Prop}(K:Keys σ S told h j rf)(hjc:j<cnt)(ho:σ[o]?=some (.list ((S j).map λx=>.obj (rf x))))(hq:Q (.obj σ.length) ⟨θ,σ++[.list ((fq S told j).map λx=>.obj (rf x))]⟩) :
  wp (ziq [.obj o] [(Str.ofString "reverse", .bool true)]) ⟨θ,σ⟩ Q:=by
 have hlow:∀x∈S j,x<j:=T.low j hjc
 have hlen:(S j).length≤9:=by
  have:=bH (l₂:=List.range 9) (T.nd j) λx hx=>ax.mpr (by have:=hlow x hx;have:=T.nine;lia)
  rwa[aC]at this
 have hd:zo8 σ ((S j).map λx=>.obj (rf x))=some ((S j).map (kd S told)):=zd0 λx hx=>zzo T K (bG hjc) (hlow x hx)
 have hz:(((S j).map λx=>AV.obj (rf x)).zip ((S j).map (kd S told))).reverse=(S j).reverse.map λx=>(AV.obj (rf x),kd S told x):=by
  rw[List.zip_map',dq]
 have hl:∀{x y},x<cnt→y<cnt→f9 8 (kd S told x) (kd S told y)=some (decide (told x<told y)):=λhx hy=>zw1 T 4 7 _ _ (by decide) hx hy (i4 T hx) (i4 T hy)
 have hf:(((S j).map λx=>AV.obj (rf x)).zip ((S j).map (kd S told))).reverse.all fitP=true:=by
  rw[hz,List.all_map,cp]
  intro x hx
  have hxc:=a9 (hlow x (List.mem_reverse.mp hx)) hjc
  show((dLst? (kd S told x)).isSome&&(f9 8 (kd S told x) (kd S told x)==some false))=true
  rw[hl hxc hxc,decide_eq_false (bo _)]
  rfl
 have hs:=zhh (em:=Prod.fst) (ks:=(S j).reverse.map λx=>(AV.obj (rf x),kd S told x)) (ys:=(fq S told j).reverse.map λx=>(AV.obj (rf x),kd S told x)) zfq
  (((List.reverse_perm _).trans ((zfu j).trans (List.reverse_perm _).symm)).map _) (by
   refine bC.mpr (List.pairwise_reverse.mpr (cr (λ{a b} ha hb hab=>?_) (bC.mp (zdf T hjc))))
   have hac:=a9 (hlow a (dsc_mem.mp ha)) hjc
   have hbc:=a9 (hlow b (dsc_mem.mp hb)) hjc
   unfold iv
   rw[hl hbc hac,hl hac hbc,decide_eq_true hab,decide_eq_false (fE hab)]
   rfl)
 have hr:revS σ ((S j).map λx=>.obj (rf x))=some ((fq S told j).map λx=>.obj (rf x)):=by
  unfold revS
  refine c8 hd ((if_pos hf).trans ?_)
  rw[hz,hs]
  show some (List.reverse _)=_
  rw[be,dq,List.reverse_reverse]
  rfl
 refine cH ?_ hq
 show(if _ then sortedRev (.obj o) ⟨θ,σ⟩else none)=_
 refine(if_pos rfl).trans ?_
 show(d7 σ o).bind _=_
 exact c8 (eR ho) ((if_pos (by rw[ae];lia)).trans (c8 hr rfl))
end
noncomputable def fe (rf:Nat→Nat)(m:Nat):AV:=.tup [.obj (rf m),.int m]
noncomputable def gZ (told:Nat→Nat)(a b:Nat):Bool:=decide (told a<told b)
theorem zs9 (f:Nat→Nat)(told:Nat→Nat):Order (λa b=>gZ told (f a) (f b)) :=
 ⟨λ{a b} h=>decide_eq_false (fE (of_decide_eq_true h)),λ{a b c} h1 h2=>decide_eq_false (by have:=of_decide_eq_false h1;have:=of_decide_eq_false h2;lia)⟩
theorem zc3 {α:Type}{lt lt':α→α→Bool}{xs:List α}(h:∀u∈xs,∀v∈xs,lt v u=lt' v u)(hh:Heaped lt λi=>xs[i]?):Heaped lt' λi=>xs[i]?:=λi j hp u v hu hv =>
 (h u (cU hu) v (cU hv))▸hh i j hp u v hu hv
section
variable {cnt:Nat}{S:Nat→List Nat}{told:Nat→Nat}{σ σ':List AO}{h j:Nat}{rf:Nat→Nat}(T:Told cnt S told)
include T
theorem zou {a:Nat}(hac:a<cnt):Lays 6 (.tuple [kd S told a,.int a]):=zot λd hd=>by
 rcases au.mp hd with e|e
 ·rw[e];exact zti T 4 a hac (i4 T hac)
 ·rw[ac.mp e];exact(zjx _).mono (by decide)
theorem zo7 (K:Keys σ S told h j rf)(hj:j≤cnt){a:Nat}(ha:a<j){f:Nat}(hf:4≤f):gr σ (f+1) (fe rf a)=some (.tuple [kd S told a,.int a]):=by
 have hac:=ag ha hj
 show(iG (gr σ f) [.obj (rf a),.int a]).map _=_
 refine fJ ?_
 show(gr σ f (.obj (rf a))).bind _=_
 refine c8 (zo5 T K hj 4 f a hf ha (i4 T hac)) ?_
 show Option.map _ ((gr σ f (.int a)).bind _)=_
 exact fJ (c8 (zo6 f a) rfl)
theorem zuh (K:Keys σ S told h j rf)(hj:j≤cnt){a:Nat}(ha:a<j):ff σ (fe rf a)=some (.tuple [kd S told a,.int a]) :=
 hO (zo7 T K hj ha (by decide)) (zou T (ag ha hj)) (by decide)
theorem ztm (K:Keys σ S told h j rf)(hj:j≤cnt)(h0:0<j):HOrd (λm=>fe rf (min m (j-1))) (λa b=>gZ told (min a (j-1)) (min b (j-1))) σ h:=by
 refine⟨zs9 (λm=>min m (j-1)) told,λa b θ ys Q hq=>?_⟩
 have hc:∀m,min m (j-1)<j:=λm=>by exact la64 h0
 have ha:=hc a
 have hb:=hc b
 generalize min a (j-1)=a' at *
 generalize min b (j-1)=b' at *
 have K':=K.setH (AO.list ys)
 have hac:=ag ha hj
 have hbc:=ag hb hj
 refine cH ?_ hq
 show orK (cmpK .Lt (fe rf a') (fe rf b')) (cmpD .Lt (fe rf a') (fe rf b')) ⟨θ,σ.set h (AO.list ys)⟩=_
 refine i0 rfl ?_
 show((ff _ (fe rf a')).bind _).map _=_
 refine fJ (c8 (zuh T K' hj ha) (c8 (zuh T K' hj hb) ?_))
 have key:gY (f9 7) [kd S told a',.int a'] [kd S told b',.int b']=some (decide (told a'<told b')):=by
  show(if PyData.eqv (kd S told a') (kd S told b')=true then(if PyData.eqv (.int a') (.int b')=true then some false else f9 7 (.int a') (.int b'))else f9 7 (kd S told a') (kd S told b'))=_
  rw[zw6 T (a'+1) a' b' (aQ _) hac hbc]
  by_cases e:told a'=told b'
  ·have:=T.inj a' hac b' hbc e
   subst this
   rw[if_pos (decide_eq_true rfl),if_pos (by simp[PyData.eqv]),decide_eq_false (bo _)]
  ·rw[if_neg (by rw[decide_eq_true_eq];exact e)]
   exact zw1 T 4 6 a' b' (by decide) hac hbc (i4 T hac) (i4 T hbc)
 show iu none (iu (gY (f9 7) [kd S told a',.int a'] [kd S told b',.int b']) _)=_
 rw[key]
 rfl
theorem zvh {xs:List Nat}(K:Keys σ S told h (j+1) rf)(hj:j+1≤cnt)(hσ:σ[h]?=some (.list (xs.map (fe rf))))(hx:∀x∈xs,x<j)(hlen:xs.length<2^18)(hh:Heaped (gZ told) λi=>xs[i]?):dO (zgf [.obj h,fe rf j] [] σ) (HpP (fe rf) (gZ told) σ h (j::xs)):=by
 have ho:=ztm T K hj (Nat.succ_pos j)
 have mi:∀{y},y≤j→min y (j+1-1)=y:=λh=>dJ (by lia)
 have em_eq:∀{ys:List Nat},(∀y∈ys,y≤j)→ys.map (λm=>fe rf (min m (j+1-1)))=ys.map (fe rf):=λh=>aS λy hy=>by rw[mi (h y hy)]
 have lt_eq:∀{ys:List Nat},(∀y∈ys,y≤j)→∀u∈ys,∀v∈ys,gZ told v u=gZ told (min v (j+1-1)) (min u (j+1-1)):=λh u hu v hv=>by
  rw[mi (h u hu),mi (h v hv)]
 have hx':∀x∈xs,x≤j:=λx q=>bG (hx x q)
 have sp:=zj0 (x:=j) ho (by rw[em_eq hx'];exact hσ) hlen (zc3 (lt_eq hx') hh)
 rw[show fe rf (min j (j+1-1))=fe rf j from by rw[mi (aB j)]]at sp
 refine fP sp ?_
 rintro _ σ' ⟨rfl,ys,rfl,hp,hh'⟩
 have hy:∀y∈ys,y≤j:=λy q=>(au.mp (hp.mem_iff.mp q)).elim (λe=>bj e) (hx' y)
 exact⟨rfl,ys,by rw[em_eq hy],hp,zc3 (λu hu v hv=>(lt_eq hy u hu v hv).symm) hh'⟩
theorem zyv {xs:List Nat}(K:Keys σ S told h j rf)(hj:j≤cnt)(hσ:σ[h]?=some (.list (xs.map (fe rf))))(hx:∀x∈xs,x<j)(hlen:xs.length<2^18)(hne:xs≠[])(hh:Heaped (gZ told) λi=>xs[i]?):dO (zh7 [.obj h] [] σ) (HqP (fe rf) (gZ told) σ h xs):=by
 have h0:0<j:=by
  obtain⟨x,q⟩:=List.exists_mem_of_ne_nil xs hne
  exact ak (aU _) (hx x q)
 have ho:=ztm T K hj h0
 have mi:∀{y},y<j→min y (j-1)=y:=λh=>dJ (by exact la10 h)
 have em_eq:∀{ys:List Nat},(∀y∈ys,y<j)→ys.map (λm=>fe rf (min m (j-1)))=ys.map (fe rf):=λh=>aS λy hy=>by rw[mi (h y hy)]
 have lt_eq:∀{ys:List Nat},(∀y∈ys,y<j)→∀u∈ys,∀v∈ys,gZ told v u=gZ told (min v (j-1)) (min u (j-1)):=λh u hu v hv=>by
  rw[mi (h u hu),mi (h v hv)]
 have sp:=zls ho (by rw[em_eq hx];exact hσ) hlen hne (zc3 (lt_eq hx) hh)
 refine fP sp ?_
 rintro _ σ' ⟨m,ys,rfl,rfl,hp,hm,hh'⟩
 have hy:∀y∈m::ys,y<j:=λy q=>hx y (hp.mem_iff.mp q)
 have hy':∀y∈ys,y<j:=λy q=>hy y (af _ q)
 exact⟨m,ys,by rw[mi (hy m aj)],by rw[em_eq hy'],hp,λy q=>by rw[lt_eq hy m aj y (af _ q)];exact hm y q,zc3 (λu hu v hv=>(lt_eq hy' u hu v hv).symm) hh'⟩
theorem zuz {θ:Nat→Option AV}{xs:List Nat}{o:Nat}{Q:AV→St→Prop}(K:Keys σ S told h j rf)(hj:j≤cnt)(hσ:σ[h]?=some (.list (xs.map (fe rf))))(hx:∀x∈xs,x<j)(h0:σ[o]?=some (.list []))(hq:Q (.bool (!xs.isEmpty)) ⟨θ,σ⟩):wp (cmpB .NotEq (.obj h) (.obj o)) ⟨θ,σ⟩ Q:=by
 have d1:ff σ (.obj h)=some (.list (xs.map λa=>.tuple [kd S told a,.int a])) :=
  hO (zcy hσ λa ha=>zo7 T K hj (hx a ha) (by decide)) (iJ λd hd=>by
   obtain⟨a,ha,rfl⟩:=aH.mp hd
   exact zou T (ag (hx a ha) hj)) (by decide)
 have d2:ff σ (.obj o)=some (.list []):=hO (n:=1) (zcy (l:=([]:List Nat)) (em:=λu1=>.none) (g:=λu1=>.none) h0 (by nofun)) (iJ (by nofun)) (by decide)
 refine zko rfl d1 d2 ?_
 have:PyData.eqv (.list (xs.map λa=>.tuple [kd S told a,.int a])) (.list [])=xs.isEmpty:=by
  cases xs<;>simp[PyData.eqv,PyData.eqvAll]
 rw[this]
 exact hq
end
noncomputable def iL (S:Nat→List Nat)(kk:Nat→Nat)(n:Nat):Str×Str:=(fc (kk n) (S n),numT (n:Nat))
inductive OrI (σ:List AO)(tb:Nat)(S:Nat→List Nat)(told kk:Nat→Nat)(cnt:Nat)(i:Nat)(st:St):Prop
 |mk (rf:Nat→Nat) (xs:List Nat) (x3 x4:Option AV) (e1:st.θ=th [some (.obj tb),some (.obj σ.length),some (.obj (σ.length+1)),x3,x4,none,none,none,none,none]) (F:Frm σ st.σ []) (hp:xs.Perm (List.range i)) (hh:Heaped (gZ told) λi=>xs[i]?)
  (g0:st.σ[σ.length]?=some (.list (xs.map (fe rf)))) (g1:st.σ[σ.length+1]?=some (.list (tab i λh=>.obj (rf h.toNat)))) (g2:st.σ[σ.length+2]?=some (.list (tab cnt λn=>fQ (iL S kk n.toNat)))) (K:Keys st.σ S told σ.length i rf) (hr:∀m,m<i→σ.length+2<rf m):OrI σ tb S told kk cnt i st
inductive OrJ (σ:List AO)(tb:Nat)(S:Nat→List Nat)(told:Nat→Nat)(cnt oo:Nat)(m:Nat)(st:St):Prop
 |mk (rf:Nat→Nat) (xs ys:List Nat) (x3 x4:Option AV) (hm:m=xs.length) (e1:st.θ=th [some (.obj tb),some (.obj σ.length),some (.obj (σ.length+1)),x3,x4,some (.obj oo),none,none,none,none]) (F:Frm σ st.σ []) (hp:(ys++xs).Perm (List.range cnt)) (hh:Heaped (gZ told) λi=>xs[i]?)
  (g0:st.σ[σ.length]?=some (.list (xs.map (fe rf)))) (go:st.σ[oo]?=some (.list (ys.map λn:Nat=>.int n))) (K:Keys st.σ S told σ.length cnt rf) (hr:∀m,m<cnt→rf m≠oo) (hy:ys.Pairwise λa b=>told a<told b) (hxy:∀y∈ys,∀x∈xs,told y<told x):OrJ σ tb S told cnt oo m st
inductive OrP (σ:List AO)(told:Nat→Nat)(cnt:Nat)(v:AV)(σ':List AO):Prop
 |mk (o:Nat) (ys:List Nat) (e:v=.obj o) (F:Frm σ σ' []) (g:σ'[o]?=some (.list (ys.map λn:Nat=>.int n))) (hp:ys.Perm (List.range cnt)) (hy:ys.Pairwise λa b=>told a<told b):OrP σ told cnt v σ'
section
variable {θ:Nat→Option AV}{σ σ':List AO}{cnt:Nat}{S:Nat→List Nat}{told kk:Nat→Nat}{H:fV}
theorem z0m:((List.range cnt).map (iL S kk)).map fQ=tab cnt λn=>fQ (iL S kk n.toNat):=by
 unfold tab
 refine aw be ?_
 rfl
set_option maxHeartbeats 4000000 in
theorem zp9 (T:Told cnt S told)(R:HdR σ H)(hH:H.ps=(List.range cnt).map (iL S kk)):dO (zh6 [.obj H.t] [] σ) (OrP σ told cnt):=by
 have hcnt:=T.nine
 have hS9:∀n,n<cnt→∀m∈S n,m<9:=λn hn m hm=>by have:=T.low n hn m hm;lia
 have hS9l:∀n,n<cnt→(S n).length≤9:=λn hn=>by
  have:=bH (l₂:=List.range 9) (T.nd n) λx hx=>ax.mpr (hS9 n hn x hx)
  rwa[aC]at this
 refine gU λQ hQ=>?_
 refine fx (l:=[some (.obj H.t),none,none,none,none,none,none,none,none,none]) 10 (by rfl) (by rfl) (by rfl) (by rfl) ?_
 unfold D_law_order
 repeat walk_at "v"
 refine gj (show 0<2^20 by decide) ?_
 repeat walk_at "v"
 refine gj (show 0<2^20 by decide) ?_
 repeat walk_at "v"
 have R2:=(R.push (AO.list [])).push (AO.list [])
 refine dv (gm R2.ht R2.hd zlu) ?_
 repeat walk_at "v"
 refine fh (ziz R2 (by rw[hH,ae,aC];exact ak hcnt (by decide)) ?_)
 rw[hH,z0m]
 have a1:(σ++[AO.list []]).length=σ.length+1:=by simp
 have a2:(σ++[AO.list []]++[AO.list []]).length=σ.length+2:=by simp
 rw[a1,a2]
 have g2:(σ++[AO.list []]++[AO.list []]++[AO.list (tab cnt λn=>fQ (iL S kk n.toNat))])[σ.length+2]?=some (.list (tab cnt λn=>fQ (iL S kk n.toNat))):=a2▸cR
 refine gW g2 ?_
 dsimp only
 refine zf3 (OrI σ H.t S told kk cnt) ?_ ?_ ?_
 ·refine⟨λu1=>0,[],none,none,rfl,(((Frm.refl σ []).pushN _).pushN _).pushN _,.refl _,λi j u1 u v hu=>by exact ns hu,b6 (b6 cR),b6 (a1▸cR),g2,⟨by nofun,by nofun⟩,by nofun⟩
 ·rintro i hi ⟨_,σ3⟩ ⟨rf,xs,x3,x4,(rfl:_=th _),F,hp,hh,g0,g1,g2',K,hr⟩
  refine⟨fS g2',λKq hK=>?_⟩
  have g0:σ3[σ.length]?=some (.list (xs.map (fe rf))):=g0
  have g1:σ3[σ.length+1]?=some (.list (tab i λh=>.obj (rf h.toNat))):=g1
  have K:Keys σ3 S told σ.length i rf:=K
  have F:Frm σ σ3 []:=F
  have g2':σ3[σ.length+2]?=_:=g2'
  refine zg0 ?_
  dsimp only[ass1,ass0]
  repeat walk_at "v"
  refine dv (gw g1) ?_
  repeat walk_at "v"
  have el:Txt.lower (iL S kk ((i:Nat):Int).toNat).fst=nm (S i):=zhe (hS9 i hi)
  have ez:(iL S kk ((i:Nat):Int).toNat).fst.length≤2^20:=by
   show(fc (kk i) (S i)).cps.size≤_
   rw[zfl]
   exact aI (hS9l i hi) (by decide)
  have en:(iL S kk ((i:Nat):Int).toNat).snd=numT (i:Nat):=rfl
  refine gE ?_
  repeat walk_at "v"
  refine dv iq ?_
  repeat walk_at "v"
  refine zdm ez ?_
  rw[el]
  have ev:gM (nm (S i))=(S i).map λn=>AV.str (dM n):=by
   unfold gM nm
   rw[be]
   rfl
  refine zg9 (vs:=(S i).map λn=>AV.str (dM n)) (g:=none) (by show some (gM (nm (S i)),none)=_;rw[ev]) ?_
  dsimp only
  refine gB (m:=[none,none,some (.obj (σ.length+1))]) 3 (by rfl) (by rfl) ?_
  refine iK (xs:=S i) (ei:=λn:Nat=>AV.str (dM n)) (out:=λn:Nat=>[AV.obj (rf n)]) (λθ=>∃a,θ=th [none,a,some (.obj (σ.length+1))]) ⟨_,rfl⟩ (λl=>fK) ?_ ?_ ?_
  ·rintro n hn _ l ⟨a,rfl⟩ hl K2 hK2
   have hni:=T.low i hi n hn
   repeat walk_at "v"
   walk_at "t"
   repeat walk_at "v"
   refine dv iq ?_
   repeat walk_at "v"
   refine zrq (z03 (hS9 i hi n hn)) ?_
   refine eM (b6 g1) (fR ⟨aG n,aX.mpr hni,by lia⟩) ?_
   refine gC cR (by exact ag (by assumption) (by decide)) ?_
   exact gJ hK2 ⟨_,rfl⟩
  ·rw[gF,ae]
   exact ak (hS9l i hi) (by decide)
  rintro _ ⟨a2',rfl⟩
  repeat walk_at "v"
  refine⟨rfl,?_⟩
  dsimp only
  rw[gF]
  repeat walk_at "v"
  have K4:Keys (σ3++[AO.list ((S i).map λx=>AV.obj (rf x))]) S told σ.length i rf:=K.keep λu1 u2 u3 e=>b6 e
  refine zyq T K4 hi cR ?_
  have F5:=(F.pushN (AO.list ((S i).map λx=>AV.obj (rf x)))).pushN (AO.list ((fq S told i).map λx=>AV.obj (rf x)))
  have K5:=K4.keep (σ':=σ3++[AO.list ((S i).map λx=>AV.obj (rf x))]++[AO.list ((fq S told i).map λx=>AV.obj (rf x))]) λu1 u2 u3 e=>b6 e
  have g05:=b6 (o:=AO.list ((fq S told i).map λx=>AV.obj (rf x))) (b6 (o:=AO.list ((S i).map λx=>AV.obj (rf x))) g0)
  have g15:=b6 (o:=AO.list ((fq S told i).map λx=>AV.obj (rf x))) (b6 (o:=AO.list ((S i).map λx=>AV.obj (rf x))) g1)
  have g25:=b6 (o:=AO.list ((fq S told i).map λx=>AV.obj (rf x))) (b6 (o:=AO.list ((S i).map λx=>AV.obj (rf x))) g2')
  have gn5:(σ3++[AO.list ((S i).map λx=>AV.obj (rf x))]++[AO.list ((fq S told i).map λx=>AV.obj (rf x))])[(σ3++[AO.list ((S i).map λx=>AV.obj (rf x))]).length]?=some (AO.list ((fq S told i).map λx=>AV.obj (rf x))):=cR
  have hnew:σ.length+2<(σ3++[AO.list ((S i).map λx=>AV.obj (rf x))]).length:=by
   have:=ek g2'
   rw[az]
   exact Nat.lt_add_right _ this
  change wp _ ⟨_,σ3++[AO.list ((S i).map λx=>AV.obj (rf x))]++[AO.list ((fq S told i).map λx=>AV.obj (rf x))]⟩ _
  generalize (σ3++[AO.list ((S i).map λx=>AV.obj (rf x))]).length=nw at *
  generalize σ3++[AO.list ((S i).map λx=>AV.obj (rf x))]++[AO.list ((fq S told i).map λx=>AV.obj (rf x))]=σ5 at *
  clear K K4 F g0 g1 g2'
  repeat walk_at "v"
  refine ie g15 (by rw[gz];exact ag hi (aI hcnt (by decide))) ?_
  have rfe:∀m,m<i→updN rf i nw m=rf m:=λm hm=>if_neg (aL hm)
  have rfi:updN rf i nw i=nw:=if_pos rfl
  have et:(tab i λh=>AV.obj (rf h.toNat))++[AV.obj nw]=tab (i+1) λh=>AV.obj (updN rf i nw h.toNat):=by
   rw[zg4,ay,rfi]
   congr 1
   exact zd7 λh h0 h1=>by rw[rfe h.toNat (by lia)]
  rw[et]
  have F6:=F5.setN (cV σ.length) (AO.list (tab (i+1) λh=>AV.obj (updN rf i nw h.toNat)))
  have K6:Keys (σ5.set (σ.length+1) (AO.list (tab (i+1) λh=>AV.obj (updN rf i nw h.toNat)))) S told σ.length (i+1) (updN rf i nw):=by
   have hrow:∀m,m≤i→(fq S told m).map (λx=>AV.obj (updN rf i nw x))=(fq S told m).map λx=>AV.obj (rf x):=λm hm=>aS λx hx=>by
    rw[rfe x (ag (T.low m (ak hm hi) x (dsc_mem.mp hx)) hm)]
   refine⟨λm hm=>?_,λm hm=>?_⟩
   ·rw[hrow m (bF hm)]
    by_cases e:m=i
    ·rw[e,rfi];exact ck gn5 (by lia)
    ·have hm':m<i:=by exact ik hm e
     rw[rfe m hm'];exact ck (K5.row m hm') (by have:=hr m hm';lia)
   ·by_cases e:m=i
    ·rw[e,rfi];lia
    ·rw[rfe m (by exact ik hm e)];exact K5.ne m (by exact ik hm e)
  have hx6:∀x∈xs,x<i:=λx hx=>ax.mp (hp.mem_iff.mp hx)
  have ex:xs.map (fe rf)=xs.map (fe (updN rf i nw)):=aS λx hx=>by unfold fe;rw[rfe x (hx6 x hx)]
  have g06:=ck (o:=AO.list (tab (i+1) λh=>AV.obj (updN rf i nw h.toNat))) g05 (ec _)
  have g16:=eU (o':=AO.list (tab (i+1) λh=>AV.obj (updN rf i nw h.toNat))) g15
  have g26:=ck (o:=AO.list (tab (i+1) λh=>AV.obj (updN rf i nw h.toNat))) g25 (aL (aQ _))
  rw[ex]at g06
  generalize σ5.set (σ.length+1) (AO.list (tab (i+1) λh=>AV.obj (updN rf i nw h.toNat)))=σ6 at *
  clear K5 F5 g05 g15 g25 gn5 ex
  have hr6:∀m,m<i+1→σ.length+2<updN rf i nw m:=λm hm=>by
   by_cases e:m=i
   ·rw[e,rfi];exact hnew
   ·rw[rfe m (by exact ik hm e)];exact hr m (by exact ik hm e)
  have e6:updN rf i nw i=nw:=rfi
  generalize updN rf i nw=rf6 at *
  repeat walk_at "v"
  have eL:gh (tab (i+1) λh=>AV.obj (rf6 h.toNat)) (-1)=some (.obj (rf6 i)):=by
   rw[zg4]
   exact zhs (by rw[gz];exact ag hi (aI hcnt (by decide)))
  refine eM g16 eL ?_
  repeat walk_at "v"
  rw[en]
  refine zrp (num9 (by lia)) ?_
  repeat walk_at "v"
  refine zij (show 2<2^20 by decide) ?_
  repeat walk_at "v"
  have hxl:xs.length=i:=by rw[hp.length_eq,aC]
  refine fh (fP (zvh T (j:=i) K6 hi g06 hx6 (by rw[hxl];exact ag hi (aI hcnt (by decide))) hh) ?_)
  rintro _ σ7 ⟨rfl,ys,rfl,hpy,hhy⟩
  repeat walk_at "v"
  refine hK _ ⟨rf6,ys,_,_,rfl,F6.setN (aB _) _,hpy.trans ?_,hhy,eU g06,ck g16 (aL (aQ _)),ck g26 (by lia),K6.setH _,hr6⟩
  rw[cM]
  exact(hp.cons i).trans (List.perm_append_singleton i (List.range i)).symm
 ·rintro⟨_,σ3⟩ ⟨rf,xs,x3,x4,(rfl:_=th _),F,hp,hh,g0,g1,g2',K,hr⟩
  refine⟨fS g2',?_⟩
  have g0:σ3[σ.length]?=some (.list (xs.map (fe rf))):=g0
  have K:Keys σ3 S told σ.length cnt rf:=K
  have F:Frm σ σ3 []:=F
  have hl3:=ek (show σ3[σ.length+2]?=_ from g2')
  repeat walk_at "v"
  refine gj (show 0<2^20 by decide) ?_
  repeat walk_at "v"
  have hr':∀m,m<cnt→rf m≠σ3.length:=λm hm=>aL (ek (K.row m hm))
  refine zdl (OrJ σ H.t S told cnt σ3.length) xs.length ⟨rf,xs,[],_,_,rfl,rfl,F.pushN _,hp,hh,b6 g0,cR,K.keep λu1 u2 u3 e=>b6 e,hr',List.Pairwise.nil,by nofun⟩ ?_
  have hle3:=F.len
  generalize hoo3:σ3.length=oo at *
  clear K F hh hp g0 g1 g2'
  rintro m ⟨_,σ4⟩ ⟨rf,xs,ys,x3,x4,rfl,(rfl:_=th _),F,hp,hh,g0,go,K,hr,hy,hxy⟩
  have g0:σ4[σ.length]?=some (.list (xs.map (fe rf))):=g0
  have go:σ4[oo]?=some (.list (ys.map λn:Nat=>.int n)):=go
  have K:Keys σ4 S told σ.length cnt rf:=K
  have F:Frm σ σ4 []:=F
  have hx:∀x∈xs,x<cnt:=λx hx=>ax.mp (hp.mem_iff.mp (cx _ hx))
  have hlen:ys.length+xs.length=cnt:=by have:=hp.length_eq;rwa[az,aC]at this
  repeat walk_at "v"
  refine gj (show 0<2^20 by decide) ?_
  repeat walk_at "v"
  refine zuz T (K.keep λu1 u2 u3 e=>b6 e) (aB _) (b6 g0) hx cR ?_
  repeat walk_at "v"
  have F5:=F.pushN (AO.list [])
  have g05:=b6 (o:=AO.list []) g0
  have go5:=b6 (o:=AO.list []) go
  have K5:=K.keep (σ':=σ4++[AO.list []]) λu1 u2 u3 e=>b6 e
  generalize σ4++[AO.list []]=σ5 at *
  clear F g0 go K
  refine zn2 (λhc=>?_) (λhc=>?_)
  ·have hne:xs≠[]:=by rintro rfl;cases hc
   repeat walk_at "v"
   refine dv (gw go5) ?_
   repeat walk_at "v"
   refine fh (fP (zyv T K5 (aB _) g05 hx (ak (show xs.length≤9 by lia) (by decide)) hne hh) ?_)
   rintro _ σ6 ⟨z,zs,rfl,rfl,hpz,hmz,hhz⟩
   have hoo:σ.length≠oo:=λq=>by lia
   have go6:=ck (o:=AO.list (zs.map (fe rf))) go5 hoo
   repeat walk_at "v"
   refine zf1 (v:=.int (z:Nat)) rfl ?_
   repeat walk_at "v"
   refine ie go6 (by rw[ae];exact ak (show ys.length≤9 by lia) (by decide)) ?_
   repeat walk_at "v"
   have ez:(ys.map λn:Nat=>AV.int n)++[.int (z:Nat)]=(ys++[z]).map λn:Nat=>AV.int n:=by rw[aE];rfl
   rw[ez]
   have hzx:z∈xs:=hpz.mem_iff.mp aj
   have hnd:(ys++xs).Nodup:=hp.nodup_iff.mpr cD
   have hnz:=hpz.nodup_iff.mpr (b5.mp hnd).2.1
   refine⟨zs.length,by rw[←hpz.length_eq];exact aQ _,rf,zs,ys++[z],_,_,rfl,rfl,(F5.setN (aB _) _).setN hle3 _,?_,hhz,ck (eU g05) (cG hoo),eU go6,(K5.setH _).keep λm x hm e=>ck e (cG (hr m hm)),hr,?_,?_⟩
   ·rw[bf]
    exact(hpz.append_left ys).trans hp
   ·refine bU.mpr ⟨hy,List.pairwise_singleton _ _,λa ha b hb=>?_⟩
    rw[ac.mp hb]
    exact hxy a ha z hzx
   ·intro a ha b hb
    have hbx:b∈xs:=hpz.mem_iff.mp (af _ hb)
    rcases aD.mp ha with q|q
    ·exact hxy a q b hbx
    ·rw[ac.mp q]
     have h1:=of_decide_eq_false (hmz b hb)
     have h2:z≠b:=λe=>(List.nodup_cons.mp hnz).1 (e▸hb)
     have h3:told z≠told b:=λe=>h2 (T.inj z (hx z hzx) b (hx b hbx) e)
     lia
  ·have hxs:xs=[]:=by cases xs with|nil=>rfl|cons _ _=>cases hc
   subst hxs
   rw[bi]at hp
   repeat walk_at "v"
   exact hQ _ _ ⟨oo,ys,rfl,F5,go5,hp,hy⟩
end
section
variable {D:List Int}
theorem zxx {k j:Nat}(h:j∈gx D k):j<ir k:=by
 unfold gx at h
 split at h
 ·cases h
 ·exact ax.mp (bh.mp h).1
noncomputable def setW (D:List Int)(k:Nat):List Nat:=if k<9 then gx D k else[]
theorem zyi {k:Nat}(h:k<9):setW D k=gx D k:=if_pos h
theorem zm7 {k j:Nat}(h:j∈setW D k):j<ir k:=by
 unfold setW at h
 split at h
 ·exact zxx h
 ·cases h
theorem wokD:Wok (setW D):=by
 refine⟨λk j h=>?_,λk=>?_,λk h=>if_neg (bl.mpr h),λk=>?_⟩
 ·have h1:=zm7 h
  unfold ir at h1
  exact la65 h1
 ·unfold setW gx
  split
  ·split
   ·exact bR
   ·exact List.Nodup.sublist List.filter_sublist cD
  ·exact bR
 ·unfold setW gx
  split
  ·split
   ·exact aU _
   ·refine aI (b9 _ _) ?_
    refine aw aC ?_
    unfold ir
    omega
  ·exact aU _
theorem zn6 {W:Nat→List Nat}(hW:zuu W){k n:Nat}(h:∀j∈W k,vV W j<n):vV W k<2^n:=by
 refine Nat.lt_pow_two_of_testBit _ λi hi=>?_
 rw[zry hW,zj2,Bool.and_eq_false_iff]
 refine .inr ?_
 rw[List.any_eq_false]
 intro j hj q
 have:=h j hj
 rw[beq_iff_eq.mp q]at this
 lia
theorem z0f (m:Nat):∀k,(k+1)/2≤m→vV (setW D) k<lv (m+1):=by
 induction m with
 |zero =>
  intro k hk
  have:k=0:=by omega
  subst this
  exact zn6 wokD.ah (n:=0) (by nofun)
 |succ m ih =>
  intro k hk
  refine zn6 wokD.ah (n:=lv (m+1)) λj hj=>ih j ?_
  have:=zm7 hj
  unfold ir at this
  omega
theorem z19:∀k,k<9→∀j∈setW D k,vV (setW D) j<16:=λk hk j hj=>z0f (D:=D) 3 j (by
 have:=zm7 hj
 unfold ir at this
 exact la25 hk this)
end
theorem z1o {g:Nat→Nat}{w p':Nat}:∀{p:Nat},p'<p→w/2^p' % 2=1→1+g p'≤dm g w p
 |p+1,h,hb=>by
  show _≤if w/2^p % 2=1 then max (dm g w p) (1+g p)else dm g w p
  by_cases e:p'=p
  ·subst e
   refine aw (if_pos hb) ?_
   exact Nat.le_max_right _ _
  ·have:=z1o (g:=g) (w:=w) (p':=p') (p:=p) (by exact ik h e) hb
   split
   ·exact aI this (Nat.le_max_left _ _)
   ·exact this
theorem zzm {g:Nat→Nat}{w:Nat}:∀p:Nat,(dm g w p=0∧∀q,q<p→w/2^q % 2≠1)∨∃q,q<p∧w/2^q % 2=1∧dm g w p=1+g q
 |0=>.inl ⟨rfl,λq h=>absurd h (aW _)⟩
 |p+1=>by
  have e:dm g w (p+1)=if w/2^p % 2=1 then max (dm g w p) (1+g p)else dm g w p:=rfl
  by_cases h:w/2^p % 2=1
  ·rw[if_pos h]at e
   refine .inr ?_
   by_cases h2:dm g w p≤1+g p
   ·exact⟨p,aQ _,h,e.trans (Nat.max_eq_right h2)⟩
   ·rcases zzm (g:=g) (w:=w) p with⟨q,_⟩|⟨q,h3,h4,h5⟩
    ·lia
    ·exact⟨q,bg h3,h4,e.trans ((Nat.max_eq_left (cZ h2)).trans h5)⟩
  ·rw[if_neg h]at e
   rcases zzm (g:=g) (w:=w) p with⟨q,q2⟩|⟨q,h3,h4,h5⟩
   ·refine .inl ⟨e.trans q,λx hx=>?_⟩
    by_cases e2:x=p
    ·exact e2▸h
    ·exact q2 x (by exact ik hx e2)
   ·exact .inr ⟨q,bg h3,h4,e.trans h5⟩
theorem z1r {W:Nat→List Nat}(hW:zuu W)(hv:∀k,k<9→∀j∈W k,vV W j<16)(f:Nat):∀k,k<9→vV W k<lv f→depN f (vV W k)=vR W k:=by
 induction f with
 |zero=>exact λk u1 h=>absurd h (aW _)
 |succ f ih =>
  intro k hk h
  have bit:∀p,vV W k/2^p % 2=1↔∃j∈W k,vV W j=p:=λp=>by
   have e:(vV W k).testBit p=decide (vV W k/2^p % 2=1):=Nat.testBit_eq_decide_div_mod_eq
   rw[←decide_eq_true_iff (p:=vV W k/2^p % 2=1),←e,zry hW,zj2,aq,decide_eq_true_eq,bu]
   constructor
   ·rintro⟨_,j,hj,e⟩;exact⟨j,hj,beq_iff_eq.mp e⟩
   ·(intro zz;refine x1a2 zz λj hj z2=>?_;subst z2);exact⟨hv k hk j hj,j,hj,beq_iff_eq.mpr rfl⟩
  have less:∀j∈W k,vV W j<vV W k∧vV W j<lv f:=λj hj=>by
   have hb:=(bit (vV W j)).mpr ⟨j,hj,rfl⟩
   have h1:2^vV W j≤vV W k:=by
    have:0<vV W k/2^vV W j:=dQ λe=>by rw[e]at hb;cases hb
    exact(Nat.div_pos_iff.mp this).2
   exact⟨ag Nat.lt_two_pow_self h1,(Nat.pow_lt_pow_iff_right (by decide)).mp (ak h1 h)⟩
  have dj:∀j∈W k,depN f (vV W j)=vR W j:=λj hj=>ih j (a9 (hW k j hj) hk) (less j hj).2
  show dm (depN f) (vV W k) (vV W k)=_
  rw[zpo hW]
  refine Nat.le_antisymm ?_ ?_
  ·rcases zzm (g:=depN f) (w:=vV W k) (vV W k)with⟨q,_⟩|⟨p,h3,h4,h5⟩
   ·exact aw q (aU _)
   ·(refine x1a2 ((bit p).mp h4) λj hj z2=>?_;subst z2)
    refine aw h5 (aw (dj j hj) ?_)
    exact zoz hj
  ·rcases zg6 (f:=vR W) (l:=W k)with⟨q,_⟩|⟨j,hj,q⟩
   ·exact aw q (aU _)
   ·refine aw q (dI (dj j hj) ?_)
    exact z1o (less j hj).1 ((bit _).mpr ⟨j,hj,rfl⟩)
theorem zo9 (b n:Nat):(max 0 (min (if (b:Int)<0 then(b:Int)+n else b) n):Int)=((min b n:Nat):Int):=by
 refine aw (if_neg (by simp)) ?_
 lia
theorem zss {α:Type}(l:List α)(b:Nat):gS l none (some (b:Int)) none=l.take b:=by
 have e:sliceBounds none (some (b:Int)) none l.length=(((0:Nat):Int),((min b l.length:Nat):Int),1):=congrArg (λx:Int=>((0:Int),x,(1:Int))) (zo9 b l.length)
 rw[zjs l e,List.drop_zero,Nat.sub_zero]
 by_cases h:b≤l.length
 ·rw[dJ h]
 ·rw[Nat.min_eq_right (cZ h),List.take_length,List.take_of_length_le (cZ h)]
theorem zsu {α:Type}(l:List α)(a:Nat):gS l (some (a:Int)) none none=l.drop a:=by
 have e:sliceBounds (some (a:Int)) none none l.length=(((min a l.length:Nat):Int),((l.length:Nat):Int),1):=congrArg (λx:Int=>(x,(l.length:Int),(1:Int))) (zo9 a l.length)
 refine aw (zjs l e) ?_
 by_cases h:a≤l.length
 ·exact aw (dJ h) (aw (List.take_of_length_le (by rw[List.length_drop];exact aB _)) rfl)
 ·exact aw (Nat.min_eq_right (cZ h)) (aw (List.drop_eq_nil_of_le (aB _)) (aw (List.drop_eq_nil_of_le (cZ h)) (aw List.take_nil rfl)))
noncomputable def fill6:List Int:=[1,1,6,3,24,13,96,85]
noncomputable def iT (L:List Int):List Int:=L.take 8++fill6.drop L.length
theorem zqr (L:List Int):(iT L).length=8:=by
 unfold iT
 refine aw az (aw List.length_take (aw List.length_drop ?_))
 have:fill6.length=8:=rfl
 lia
inductive LwI (σ:List AO)(wo:Nat)(W:Nat→List Nat)(a b:AV)(i:Nat)(st:St):Prop
 |mk (x4:Option AV) (e1:st.θ=th [some a,some b,some (.obj wo),some (.obj σ.length),x4,none,none,none,none,none,none,none,none,none,none,none,none,none,none,none,none,none,none,none]) (F:Frm σ st.σ []) (g:st.σ[σ.length]?=some (.list (tab i λj=>.int (vV W j.toNat:Nat)))):LwI σ wo W a b i st
inductive LnI (σ:List AO)(a b c:AV)(vo:Nat)(x4:Option AV)(ht na ro pa to no:Nat)(y:Option AV)(st:St):Prop
 |mk (x12 x13 x14:Option AV) (e1:st.θ=th [some a,some b,some c,some (.obj vo),x4,some (.obj ht),some (.obj na),some (.obj ro),some (.obj pa),some (.obj to),some (.obj no),y,x12,x13,x14,none,none,none,none,none,none,none,none,none]) (F:Frm σ st.σ []):LnI σ a b c vo x4 ht na ro pa to no y st
theorem zpy {l:List Nat}:gM (nm l)=l.map λn=>AV.str (dM n):=by
 unfold gM nm
 refine aw be ?_
 rfl
section
variable {θ:Nat→Option AV}{σ σ':List AO}{o n:Nat}
theorem zfa {α:Type}{g:α→PyData}(h:∀a,PyData.eqv (g a) (g a)=true):∀l:List α,PyData.eqvAll (l.map g) (l.map g)=true
 | []=>by exact rfl
 |a::l=>by simp only[aN,PyData.eqvAll,h a,zfa h l,Bool.and_self]
theorem zzk (x:Int):PyData.eqv (.int x) (.int x)=true:=by simp[PyData.eqv]
theorem zzj (x:Str):PyData.eqv (.str x) (.str x)=true:=by simp[PyData.eqv]
theorem zo0 {α:Type}{g:α→PyData}(h:∀a,PyData.eqv (g a) (g a)=true)(l:List α):PyData.eqv (.list (l.map g)) (.list (l.map g))=true:=by
 simp only[PyData.eqv];exact zfa h l
theorem zzi {α:Type}{g:α→PyData}(h:∀a,PyData.eqv (g a) (g a)=true)(l:List α):PyData.eqv (.tuple (l.map g)) (.tuple (l.map g))=true:=by
 simp only[PyData.eqv];exact zfa h l
theorem zw8 {ps:List (Str×Str)}(h:σ[o]?=some (.list (ps.map fQ)))(hs:∀p∈ps,PyData.strOk p.1=true∧PyData.strOk p.2=true):ff σ (.obj o)=some (.list (ps.map λp=>.tuple ([p.1,p.2].map .str))) :=
 hO (n:=2) (zcy h λp u1=>zwb (em:=AV.str) (l:=[p.1,p.2]) λa u1=>rfl)
  (iJ λd hd=>by
   (refine x1a2 (aH.mp hd) λp hp z2=>?_;subst z2)
   have:=hs p hp
   exact zot λe he=>by
    (refine x1a2 (aH.mp he) λy hy z2=>?_;subst z2)
    refine⟨?_,by simp only[PyData.depth];exact aU _⟩
    simp only[au,bV,or_false]at hy
    rcases hy with rfl|rfl<;>simp only[PyData.canLay0,this]) (by decide)
theorem zrh {i:Int}{Q:Option Int→St→Prop}(hq:Q (some i) ⟨θ,σ⟩):wp (z0x (.int i)) ⟨θ,σ⟩ Q:=cH rfl hq
theorem zo3 {xs:List Int}(h:σ[o]?=some (.list (xs.map .int))):ff σ (.obj o)=some (.list (xs.map .int)) :=
 hO (n:=1) (zcy h λa u1=>zo6 7 a) (iJ λd hd=>by
  (refine x1a2 (aH.mp hd) λy u1 z2=>?_;subst z2)
  exact zjx y) (by decide)
theorem zrk {a b:Nat}{d:PyData}{Q:AV→St→Prop}(ha:ff σ (.obj a)=some d)(hb:ff σ (.obj b)=some d)(he:PyData.eqv d d=true)(hq:Q (.bool false) ⟨θ,σ⟩):wp (cmpB .NotEq (.obj a) (.obj b)) ⟨θ,σ⟩ Q :=
 zko rfl ha hb (by exact aw he (hq))
theorem zha {a b:Nat}{xs:List Int}{Q:AV→St→Prop}(ha:σ[a]?=some (.list (xs.map .int)))(hb:σ[b]?=some (.list (xs.map .int)))(hq:Q (.bool false) ⟨θ,σ⟩):wp (cmpB .NotEq (.obj a) (.obj b)) ⟨θ,σ⟩ Q :=
 zko rfl (zo3 ha) (zo3 hb) (by rw[zo0 (g:=PyData.int) zzk];exact hq)
theorem zu1 {a b:Nat}{xs:List Str}{Q:AV→St→Prop}(ha:σ[a]?=some (.list (xs.map .str)))(hs:∀x∈xs,PyData.strOk x=true)(hb:σ[b]?=some (.list []))(hq:Q (.bool xs.isEmpty) ⟨θ,σ⟩):wp (cmpB .Eq (.obj a) (.obj b)) ⟨θ,σ⟩ Q:=by
 have d1:ff σ (.obj a)=some (.list (xs.map .str)):=hO (n:=1) (zcy ha λx u1=>rfl) (iJ λd hd=>by
  (refine x1a2 (aH.mp hd) λy hy z2=>?_;subst z2)
  exact⟨by simp only[PyData.canLay0,hs y hy],by simp only[PyData.depth];exact aB _⟩) (by decide)
 have d2:ff σ (.obj b)=some (.list []):=hO (n:=1) (zcy (l:=([]:List Nat)) (em:=λu1=>.none) (g:=λu1=>.none) hb (by nofun)) (iJ (by nofun)) (by decide)
 refine zz9 rfl d1 d2 ?_
 have:PyData.eqv (.list (xs.map .str)) (.list [])=xs.isEmpty:=by cases xs<;>simp[PyData.eqv,PyData.eqvAll]
 refine aw this ?_
 exact hq
theorem zo4 (b:Bool):ff σ (.bool b)=some (.bool b):=hO (n:=0) rfl ⟨by exact rfl,by simp only[PyData.depth];exact aB _⟩ (by decide)
theorem zz3 {a b:Bool}{Q:AV→St→Prop}(hq:Q (.bool (!(a==b))) ⟨θ,σ⟩):wp (cmpB .NotEq (.bool a) (.bool b)) ⟨θ,σ⟩ Q :=
 zko rfl (zo4 a) (zo4 b) (by
  have:PyData.eqv (.bool a) (.bool b)=(a==b):=by exact rfl
  exact aw this (hq))
theorem zo2 {a:Option Str}(h:∀x,a=some x→PyData.strOk x=true):ff σ (strN a)=some (match a with|some x=>.str x|none=>.none):=by
 cases a with
 |none=>exact hO (n:=0) rfl ⟨by simp only[PyData.canLay0],by simp only[PyData.depth];exact aB _⟩ (by decide)
 |some x=>exact hO (n:=0) rfl ⟨by simp only[PyData.canLay0,h x rfl],by simp only[PyData.depth];exact aB _⟩ (by decide)
theorem zz2 {a:Option Str}{Q:AV→St→Prop}(h:∀x,a=some x→PyData.strOk x=true)(hq:Q (.bool false) ⟨θ,σ⟩):wp (cmpB .NotEq (strN a) (strN a)) ⟨θ,σ⟩ Q :=
 zko (by cases a<;>rfl) (zo2 h) (zo2 h) (by
  have:PyData.eqv (match a with|some x=>PyData.str x|none=>PyData.none) (match a with|some x=>PyData.str x|none=>PyData.none)=true:=by cases a<;>simp[PyData.eqv]
  rw[this];exact hq)
theorem zpl {xs ys:List Int}{Q:AV→St→Prop}(h:σ[o]?=some (.list (xs.map .int)))(hp:ys.Perm xs)(hy:ys.Pairwise λa b=>ja a b=true)(hl:xs.length<64)(hq:Q (.obj σ.length) ⟨θ,σ++[.list (ys.map .int)]⟩):wp (zse [.obj o]) ⟨θ,σ⟩ Q :=
 cH (by
  show(d7 σ o).bind _=_
  refine c8 (eR h) ((if_pos (by rw[ae];exact hl)).trans ?_)
  have:z1g (xs.map .int)=some (ys.map .int):=c8 (zey xs) (zhh zdc hp hy)
  rw[this]
  rfl) hq
theorem zq1 (a b:Nat):Builtin.bitAnd (a:Int) b=((a &&& b:Nat):Int):=by
 rfl
theorem zdk (a:Nat):decide ((0:Int)≤Builtin.bitNot (a:Int))=false∧(Builtin.bitNot (Builtin.bitNot (a:Int))).toNat=a∧Builtin.bitNot (Builtin.bitNot (a:Int))=a:=by
 unfold Builtin.bitNot
 exact⟨decide_eq_false (by lia),by lia,by lia⟩
theorem zuo (a b:Nat):Builtin.bitOr (a:Int) b=((a ||| b:Nat):Int):=by
 unfold Builtin.bitOr Builtin.bitAnd
 refine aw ((zdk a).1) (aw ((zdk b).1) (aw ((zdk a).2.1) (aw ((zdk b).2.1) ?_)))
 exact(zdk _).2.2
theorem zkv:∀{xs:List PyData},(∀d∈xs,PyData.weight d≤4)→PyData.weightAll xs≤5*xs.length
 | [],_=>by simp[PyData.weightAll]
 |d::xs,h=>by
  have h1:=h d aj
  have h2:=zkv λe he=>h e (af _ he)
  rw[PyData.weightAll,bp]
  lia
theorem zlk {xs:List Int}(hl:xs.length≤9)(h:∀x∈xs,0≤x∧x<16):PyData.layable0 (.list (xs.map .int))=true:=by
 have l:Lays 1 (.list (xs.map .int)):=iJ λd hd=>by
  (refine x1a2 (aH.mp hd) λy u1 z2=>?_;subst z2)
  exact zjx y
 have w:PyData.weight (.list (xs.map .int))≤2^20:=by
  rw[PyData.weight]
  refine aI (zkv λd hd=>?_) (by rw[ae];exact aI (Nat.mul_le_mul_left 5 hl) (by decide))
  obtain⟨y,hy,rfl⟩:=aH.mp hd
  have:=h y hy
  rw[PyData.weight]
  split
  ·exact aU _
  ·rename_i q
   have hne:y.natAbs≠0:=λe=>q (by rw[beq_iff_eq];lia)
   exact(Nat.log2_lt hne).mpr (by lia:y.natAbs<2^4)
 unfold PyData.layable0
 rw[l.1,decide_eq_true (aI l.2 (by decide)),decide_eq_true w]
 rfl
theorem zoi {n:Nat}(h:n<10){st:St}:zsq [.int (n:Int)] st=some (.rng 0 1 n,st):=by
 rcases lt10 h with e|e|e|e|e|e|e|e|e|e<;>subst e<;>rfl
set_option maxHeartbeats 8000000 in
theorem zvz {L:List Int}(hL:L.length<2^20):dO (zzx [.lst (L.map .int)] [] σ) λv u1=>v=.bool true:=by
 refine fx (l:=[some (.lst (L.map .int)),none,none,none,none,none,none,none,none,none,none,none,none,none,none,none,none,none,none,none,none,none,none,none]) 24 (by rfl) (by rfl) (by rfl) (by rfl) ?_
 unfold D_law
 repeat walk_at "v"
 refine zrh ?_
 repeat walk_at "v"
 refine zmi (ws:=(L.take 8).map .int) (by rw[ae];exact hL) (by rw[List.map_take];exact zss _ 8) (by rw[ae,List.length_take];lia) ?_
 have a1:(σ++[AO.list ((L.take 8).map .int)])[σ.length]?=some (.list ((L.take 8).map .int)):=cR
 generalize σ++[AO.list ((L.take 8).map .int)]=σ1 at *
 repeat walk_at "v"
 refine gj (vs:=fill6.map .int) (show 8<2^20 by decide) ?_
 have a2:=b6 (o:=AO.list (fill6.map .int)) a1
 have b2:(σ1++[AO.list (fill6.map .int)])[σ1.length]?=some (.list (fill6.map .int)):=cR
 generalize hn1:σ1.length=n1 at *
 generalize σ1++[AO.list (fill6.map .int)]=σ2 at *
 repeat walk_at "v"
 refine cH (a:=.int L.length) (st':=⟨_,σ2⟩) (by show(if (L.map AV.int).length<2^62 then some (AV.int ((L.map AV.int).length:Int),_)else none)=_;rw[if_pos (by rw[ae];lia),ae]) ?_
 repeat walk_at "v"
 refine zrh ?_
 repeat walk_at "v"
 refine zn1 (ws:=(fill6.drop L.length).map .int) b2 (show 8<2^20 by decide) (by rw[List.map_drop];exact zsu _ _) (by rw[ae,List.length_drop];have:fill6.length=8:=rfl;lia) ?_
 have a3:=b6 (o:=AO.list ((fill6.drop L.length).map .int)) a2
 have b3:(σ2++[AO.list ((fill6.drop L.length).map .int)])[σ2.length]?=some (.list ((fill6.drop L.length).map .int)):=cR
 generalize hn2:σ2.length=n2 at *
 generalize σ2++[AO.list ((fill6.drop L.length).map .int)]=σ3 at *
 repeat walk_at "v"
 have hD:=zqr L
 have eD:(L.take 8).map AV.int++(fill6.drop L.length).map .int=(iT L).map .int:=by unfold iT;rw[aE]
 refine zrv a3 b3 (by rw[eD,ae];lia) ?_
 rw[eD]
 have gD:(σ3++[AO.list ((iT L).map .int)])[σ3.length]?=some (.list ((iT L).map .int)):=cR
 generalize hn3:σ3.length=nd at *
 generalize σ3++[AO.list ((iT L).map .int)]=σ4 at *
 generalize iT L=D at *
 clear a1 a2 a3 b2 b3 eD hn1 hn2 hn3
 repeat walk_at "v"
 refine fh (fP (zmq gD hD) ?_)
 rintro _ σ5 ⟨wo,rf,rfl,hle5,F5,M5⟩
 have M5:MatR σ5 wo 9 rf (wrow (setW D)):=⟨M5.top,λh h0 h1=>by
  refine(M5.row h h0 h1).trans ?_
  unfold wrow
  rw[zyi (by exact la66 h1)],M5.ne⟩
 have O:=wokD (D:=D)
 have hv:=z19 (D:=D)
 have hlv:∀k,k<9→vV (setW D) k<lv 5:=λk hk=>z0f 4 k (by lia)
 generalize setW D=W at *
 clear gD hD F5 hle5
 repeat walk_at "v"
 refine gj (show 0<2^20 by decide) ?_
 repeat walk_at "v"
 refine cH (a:=.rng 0 1 9) rfl ?_
 refine zf2 ?_
 dsimp only
 refine zf3 (LwI σ5 wo W (.lst (L.map .int)) (.obj nd)) ?_ ?_ ?_
 ·exact⟨none,rfl,(Frm.refl _ _).pushN _,cR⟩
 ·rintro i hi ⟨_,σ6⟩ ⟨x4,(rfl:_=th _),F,g⟩
  refine⟨fK,λK hK=>?_⟩
  have F:Frm σ5 σ6 []:=F
  have g:σ6[σ5.length]?=some (.list (tab i λj=>.int (vV W j.toNat:Nat))):=g
  have M6:=M5.frm F
  repeat walk_at "v"
  refine dv (gw g) ?_
  repeat walk_at "v"
  refine gE ?_
  repeat walk_at "v"
  refine gE ?_
  repeat walk_at "v"
  refine eM M6.top (fR ⟨aG i,aX.mpr hi,by decide⟩) ?_
  refine gW (M6.row i (aG i) (aX.mpr hi)) ?_
  dsimp only
  refine gB (m:=[none,none,some (.obj σ5.length)]) 3 (by rfl) (by rfl) ?_
  have hlow:∀j∈W i,j<i:=λj hj=>O.ah i j hj
  have hWl:=O.len i
  refine iK (xs:=W i) (ei:=λj:Nat=>.int j) (out:=λj:Nat=>[AV.int (vV W j:Nat)]) (λθ=>∃a,θ=th [none,a,some (.obj σ5.length)]) ⟨_,rfl⟩ (λl=>fS (b6 (M6.row i (aG i) (aX.mpr hi)))) ?_ ?_ ?_
  ·rintro j hj _ l ⟨a,rfl⟩ hl K hK
   repeat walk_at "v"
   walk_at "t"
   repeat walk_at "v"
   refine eM (b6 g) (fR ⟨aG j,aX.mpr (hlow j hj),by lia⟩) ?_
   refine gC cR (by exact ag (by assumption) (by decide)) ?_
   exact gJ hK ⟨_,rfl⟩
  ·rw[gF,ae]
   exact ak hWl (by decide)
  rintro _ ⟨a2',rfl⟩
  repeat walk_at "v"
  refine⟨rfl,?_⟩
  dsimp only
  rw[gF]
  have eI:((W i).map λj=>AV.int (vV W j:Nat))=((W i).map λj=>((vV W j:Nat):Int)).map .int:=by rw[be];rfl
  rw[eI]
  repeat walk_at "v"
  refine zre cR (by rw[ae];exact ak hWl (by decide)) ?_
  repeat walk_at "v"
  have hfl:((List.range 16).filter λv=>(W i).any λj=>vV W j==v).length≤16:=by
   have:=b9 (λv=>(W i).any λj=>vV W j==v) (List.range 16)
   rwa[aC]at this
  refine zd5 (D:=intsK) (ys:=((List.range 16).filter λv=>(W i).any λj=>vV W j==v).map λv:Nat=>(v:Int)) zdc ?_ ?_ (by rw[ae];exact ak hfl (by decide)) ?_
  ·refine bC.mpr (List.Pairwise.imp (λ{a b} h=>decide_eq_true (aX.mpr h)) ?_)
   exact List.Pairwise.filter _ dc
  ·intro x
   rw[aH,aH]
   constructor
   ·rintro⟨v,hv',rfl⟩
    obtain⟨j,hj,e⟩:=bu.mp (bh.mp hv').2
    exact⟨j,hj,by rw[beq_iff_eq.mp e]⟩
   ·rintro⟨j,hj,rfl⟩
    exact⟨vV W j,bh.mpr ⟨ax.mpr (hv i hi j hj),bu.mpr ⟨j,hj,beq_self_eq_true _⟩⟩,rfl⟩
  refine gW cR ?_
  dsimp only
  have F8:=(F.pushN (AO.list (((W i).map λj=>((vV W j:Nat):Int)).map .int))).pushN (AO.list ((((List.range 16).filter λv=>(W i).any λj=>vV W j==v).map λv:Nat=>(v:Int)).map intsK.em))
  have g8:=b6 (o:=AO.list ((((List.range 16).filter λv=>(W i).any λj=>vV W j==v).map λv:Nat=>(v:Int)).map intsK.em)) (b6 (o:=AO.list (((W i).map λj=>((vV W j:Nat):Int)).map .int)) g)
  have h8:(σ6++[AO.list (((W i).map λj=>((vV W j:Nat):Int)).map .int)]++[AO.list ((((List.range 16).filter λv=>(W i).any λj=>vV W j==v).map λv:Nat=>(v:Int)).map intsK.em)])[(σ6++[AO.list (((W i).map λj=>((vV W j:Nat):Int)).map .int)]).length]?=some (AO.list ((((List.range 16).filter λv=>(W i).any λj=>vV W j==v).map λv:Nat=>(v:Int)).map intsK.em)):=cR
  generalize (σ6++[AO.list (((W i).map λj=>((vV W j:Nat):Int)).map .int)]).length=o8 at *
  generalize σ6++[AO.list (((W i).map λj=>((vV W j:Nat):Int)).map .int)]++[AO.list ((((List.range 16).filter λv=>(W i).any λj=>vV W j==v).map λv:Nat=>(v:Int)).map intsK.em)]=σ8 at *
  clear F g M6
  have hf16:∀v∈(List.range 16).filter λv=>(W i).any λj=>vV W j==v,v<16:=λv hv'=>ax.mp (bh.mp hv').1
  have eV:vV W i=bsum ((List.range 16).filter λv=>(W i).any λj=>vV W j==v):=zry O.ah i
  generalize ((List.range 16).filter λv=>(W i).any λj=>vV W j==v)=fl at *
  have eF:(fl.map λv:Nat=>(v:Int)).map intsK.em=fl.map λv:Nat=>AV.int v:=by rw[be];rfl
  rw[eF]at h8 ⊢
  refine gB (m:=[none,none]) 2 (by rfl) (by rfl) ?_
  refine iK (xs:=fl) (ei:=λv:Nat=>.int v) (out:=λv:Nat=>[AV.int ((2:Int)^v)]) (λθ=>∃a,θ=th [none,a]) ⟨_,rfl⟩ (λl=>fS (b6 h8)) ?_ ?_ ?_
  ·rintro v hv' _ l ⟨a,rfl⟩ hl K hK
   have h16:=hf16 v hv'
   repeat walk_at "v"
   walk_at "t"
   repeat walk_at "v"
   refine zrf ⟨by lia,by decide⟩ ?_
   refine gC cR (by exact ag (by assumption) (by decide)) ?_
   exact gJ hK ⟨_,rfl⟩
  ·rw[gF,ae]
   exact ak hfl (by decide)
  rintro _ ⟨a2'',rfl⟩
  repeat walk_at "v"
  refine⟨rfl,?_⟩
  dsimp only
  rw[gF]
  have eP:(fl.map λv=>AV.int ((2:Int)^v))=(fl.map λv=>((2^v:Nat):Int)).map .int:=by
   rw[be]
   exact aS λv u1=>by rw[Function.comp_apply,Int.natCast_pow];rfl
  rw[eP]
  repeat walk_at "v"
  refine zzz cR ?_
  have eS:(fl.map λv=>((2^v:Nat):Int)).sum=(vV W i:Nat):=by
   rw[eV]
   unfold bsum
   generalize fl=l
   induction l with
   |nil=>rfl
   |cons a l ih=>rw[aN,aN,List.sum_cons,List.sum_cons,ih];exact(Int.natCast_add _ _).symm
  rw[eS]
  repeat walk_at "v"
  refine ie (b6 g8) (by rw[gz];exact ag hi (by decide)) ?_
  repeat walk_at "v"
  have eT:(tab i λj=>AV.int (vV W j.toNat:Nat))++[.int (vV W i:Nat)]=tab (i+1) λj=>.int (vV W j.toNat:Nat):=by rw[zg4,ay]
  rw[eT]
  exact hK _ ⟨_,rfl,(F8.pushN _).setN (aB _) _,eU (b6 g8)⟩
 rintro⟨_,σ6⟩ ⟨x4,(rfl:_=th _),F,g⟩
 have F:Frm σ5 σ6 []:=F
 have g:σ6[σ5.length]?=some (.list (tab 9 λj=>.int (vV W j.toNat:Nat))):=g
 have M6:=M5.frm F
 refine⟨fK,?_⟩
 generalize σ5.length=vo at *
 clear M5 F
 repeat walk_at "v"
 refine fh (fP z1i ?_)
 rintro _ σ7 ⟨rfl,R7,F7⟩
 repeat walk_at "v"
 have M7:=M6.frm F7
 have g7:=F7.keep0 g
 have hlen6:=F7.len
 have hlow:∀i,i=wo∨(∃h:Int,0≤h∧h<9∧i=rf h)→i<σ6.length:=λi hi=>by
  rcases hi with rfl|⟨h,h0,h1,rfl⟩
  ·exact ek M6.top
  ·exact ek (M6.row h h0 h1)
 refine fh (fP (zlb O M7 R7 rfl (ek R7.ht) (ek R7.hd) (ek R7.hl) (λi hi=>aL (ag (hlow i hi) (bN _ _)))) ?_)
 rintro _ σ8 ⟨na,ro,pa,num,ks,rfl,F8,N,nu8,ro8,pa8,R8⟩
 have g8:=F8.same _ _ (λq=>by have:=ac.mp q;have:=ek g;lia) g7
 have T:=zx7 O.ah hv N
 have hks:=T.nine
 generalize hcnt:ks.length=cnt at *
 generalize (σ6.length+1)=ht at *
 generalize (σ6.length+2)=hl at *
 generalize (σ6.length)=hd at *
 have R8:HdR σ8 ⟨ht,hd,hl,tabP W num ks⟩:=R8
 clear M7 M6 F7 F8 g g7 hlow hlen6 R7
 repeat walk_at "v"
 have hps:(tabP W num ks).length=cnt:=by rw[zen,hcnt]
 have hs:∀p∈tabP W num ks,PyData.strOk p.1=true∧PyData.strOk p.2=true:=λp hp=>by
  obtain⟨n,hn,rfl⟩:=aH.mp hp
  have hn:=ax.mp hn
  exact⟨z0r gL,(num9 (by lia)).o⟩
 refine dv (gm R8.ht R8.hd zlu) ?_
 repeat walk_at "v"
 refine fh (ziz (H:=⟨ht,hd,hl,tabP W num ks⟩) R8 (by show(tabP W num ks).length<_;rw[hps];exact ak hks (by decide)) ?_)
 repeat walk_at "v"
 refine zrk (zw8 cR hs) (zw8 (b6 pa8) hs) (zo0 (g:=λp:Str×Str=>PyData.tuple ([p.1,p.2].map PyData.str)) (λp=>zzi zzj _) _) ?_
 repeat walk_at "v"
 walk_at "f"
 repeat walk_at "v"
 have F9:=(Frm.refl σ8 []).pushN (AO.list ((tabP W num ks).map fQ))
 change wp _ ⟨_,σ8++[AO.list ((tabP W num ks).map fQ)]⟩ _
 generalize σ8++[AO.list ((tabP W num ks).map fQ)]=σ9 at *
 have Hk:∀{σx},Frm σ8 σx []→HdR σx ⟨ht,hd,hl,tabP W num ks⟩:=λF=>R8.keep λi o u1 e=>F.keep0 e
 have xn:(tab 9 λi=>AV.int (num i.toNat:Nat))=((List.range 9).map λi=>((num i:Nat):Int)).map .int:=by
  unfold tab
  rw[be]
  rfl
 refine gE ?_
 repeat walk_at "v"
 refine zje (H:=⟨ht,hd,hl,tabP W num ks⟩) (Hk F9) (by show(tabP W num ks).length<_;rw[hps];exact ak hks (by decide)) ?_
 dsimp only
 rw[hps]
 repeat walk_at "v"
 refine cH (zoi (b7 hks)) ?_
 refine zf2 ?_
 dsimp only
 refine gB (m:=[none,none,some (.obj na),some (.obj vo)]) 4 (by rfl) (by rfl) ?_
 refine zmn (f:=λn=>.int (cO W ks n.toNat:Nat)) (λθ=>∃a,θ=th [none,a,some (.obj na),some (.obj vo)]) ⟨_,rfl⟩ (λl=>fK) (by lia) ?_ ?_
 ·rintro n hn _ l ⟨a,rfl⟩ hl K hK
  have nu9:=F9.keep0 nu8
  have g9:=F9.keep0 g8
  rw[xn]at nu9
  have hk:=N.at_ n _ (ze9 (hcnt▸hn))
  have hin:(n:Int)∈(List.range 9).map λi=>((num i:Nat):Int):=aH.mpr ⟨ks.getD n 0,ax.mpr hk.1,by rw[hk.2]⟩
  have hix:((List.range 9).map λi=>((num i:Nat):Int)).idxOf (n:Int)<9:=by
   have:=bX hin
   rwa[ae,aC]at this
  have hit:num (((List.range 9).map λi=>((num i:Nat):Int)).idxOf (n:Int))=n:=by
   have h1:=c6 (bX hin)
   rw[List.getElem_map,List.getElem_range]at h1
   exact cW h1
  have hi9:∀x∈(List.range 9).map λi=>((num i:Nat):Int),0≤x∧x<16:=λx hx=>by
   obtain⟨i,hi,rfl⟩:=aH.mp hx
   have:=N.lt i (ax.mp hi)
   lia
  repeat walk_at "v"
  walk_at "t"
  repeat walk_at "v"
  refine dv (gw (b6 nu9)) ?_
  repeat walk_at "v"
  refine zrr (b6 nu9) (zlk (by rw[ae,aC];exact aB _) hi9) hin ?_
  generalize ((List.range 9).map λi=>((num i:Nat):Int)).idxOf (n:Int)=ix at *
  refine eM (b6 g9) (fR ⟨aG ix,aX.mpr hix,by decide⟩) ?_
  have et:(vV W ((ix:Nat):Int).toNat)=cO W ks ((n:Nat):Int).toNat:=by
   rw[ay,ay,←zff O.ah hv N hix,hit]
  rw[et]
  refine gC cR (by exact ag (by assumption) (by decide)) ?_
  exact gJ hK ⟨_,rfl⟩
 rintro _ ⟨a2,rfl⟩
 repeat walk_at "v"
 refine⟨rfl,?_⟩
 dsimp only
 have F10:=F9.pushN (AO.list (tab cnt λn=>AV.int (cO W ks n.toNat:Nat)))
 have gt:(σ9++[AO.list (tab cnt λn=>AV.int (cO W ks n.toNat:Nat))])[σ9.length]?=some (.list (tab cnt λn=>.int (cO W ks n.toNat:Nat))):=cR
 generalize σ9++[AO.list (tab cnt λn=>AV.int (cO W ks n.toNat:Nat))]=σ10 at *
 generalize σ9.length=to at *
 have xV:(tab 9 λi=>AV.int (vV W i.toNat:Nat))=((List.range 9).map λi=>((vV W i:Nat):Int)).map .int:=by
  unfold tab
  rw[be]
  rfl
 repeat walk_at "v"
 refine gE ?_
 repeat walk_at "v"
 refine gW (F10.keep0 nu8) ?_
 dsimp only
 refine gB (m:=[none,none,some (.obj to)]) 3 (by rfl) (by rfl) ?_
 refine zmn (f:=λi=>.int (vV W i.toNat:Nat)) (λθ=>∃a,θ=th [none,a,some (.obj to)]) ⟨_,rfl⟩ (λl=>fS (b6 (F10.keep0 nu8))) (by decide) ?_ ?_
 ·rintro i hi _ l ⟨a,rfl⟩ hl K hK
  repeat walk_at "v"
  walk_at "t"
  repeat walk_at "v"
  have hni:num ((i:Nat):Int).toNat<cnt:=hcnt▸N.lt i hi
  refine eM (b6 gt) (fR ⟨aG _,aX.mpr hni,by exact hJ hks⟩) ?_
  have et:cO W ks ((num ((i:Nat):Int).toNat:Nat):Int).toNat=vV W ((i:Nat):Int).toNat:=by
   rw[ay,ay]
   exact zff O.ah hv N hi
  rw[et]
  refine gC cR (by exact ag (by assumption) (by decide)) ?_
  exact gJ hK ⟨_,rfl⟩
 rintro _ ⟨a3,rfl⟩
 repeat walk_at "v"
 refine⟨rfl,?_⟩
 dsimp only
 have g10:=F10.keep0 g8
 rw[xV]at g10 ⊢
 repeat walk_at "v"
 refine zha cR (b6 g10) ?_
 repeat walk_at "v"
 walk_at "f"
 have F11:=F10.pushN (AO.list (((List.range 9).map λi=>((vV W i:Nat):Int)).map .int))
 have gt11:=b6 (o:=AO.list (((List.range 9).map λi=>((vV W i:Nat):Int)).map .int)) gt
 have g11:=b6 (o:=AO.list (((List.range 9).map λi=>((vV W i:Nat):Int)).map .int)) g10
 generalize σ10++[AO.list (((List.range 9).map λi=>((vV W i:Nat):Int)).map .int)]=σ11 at *
 clear gt g10 F10 F9
 repeat walk_at "v"
 refine zre g11 (by rw[ae,aC];decide) ?_
 repeat walk_at "v"
 refine zrn (n:=cnt) ?_ ?_
 ·have hp:(gf ((List.range 9).map λi=>((vV W i:Nat):Int))).Perm ((List.range cnt).map λn=>((cO W ks n:Nat):Int)):=by
   refine znb (zh0 _) (bC.mpr (cr (λ{a b} ha hb hne e=>hne (T.inj a (ax.mp ha) b (ax.mp hb) (cW e))) cD)) λx=>?_
   rw[ddp_mem,aH,aH]
   constructor
   ·rintro⟨i,hi,rfl⟩
    exact⟨num i,ax.mpr (hcnt▸N.lt i (ax.mp hi)),by rw[zff O.ah hv N (ax.mp hi)]⟩
   ·rintro⟨n,hn,rfl⟩
    exact⟨ks.getD n 0,ax.mpr (N.at_ n _ (ze9 (hcnt▸ax.mp hn))).1,rfl⟩
  rw[hp.length_eq,ae,aC]
 repeat walk_at "v"
 refine zje (H:=⟨ht,hd,hl,tabP W num ks⟩) (Hk F11) (by show(tabP W num ks).length<_;rw[hps];exact ak hks (by decide)) ?_
 dsimp only
 rw[hps]
 repeat walk_at "v"
 rw[show(((cnt:Nat):Int) != ((cnt:Nat):Int))=false from bne_self_eq_false _]
 walk_at "f"
 repeat walk_at "v"
 walk_at "f"
 repeat walk_at "v"
 refine gE ?_
 repeat walk_at "v"
 refine gW g11 ?_
 dsimp only
 refine gB (m:=[none,none]) 2 (by rfl) (by rfl) ?_
 rw[←xV]at g11 ⊢
 refine zmn (f:=λi=>.int (vR W i.toNat:Nat)) (λθ=>∃a,θ=th [none,a]) ⟨_,rfl⟩ (λl=>fS (b6 g11)) (by decide) ?_ ?_
 ·rintro i hi _ l ⟨a,rfl⟩ hl K hK
  repeat walk_at "v"
  walk_at "t"
  repeat walk_at "v"
  refine fh (zqt (Q:=λu1 u2=>True) 4 (w:=vV W ((i:Nat):Int).toNat) (hlv i hi) ?_)
  have ed:depN (4+1) (vV W ((i:Nat):Int).toNat)=vR W ((i:Nat):Int).toNat:=z1r O.ah hv 5 i hi (hlv i hi)
  rw[ed]
  repeat walk_at "v"
  refine gC cR (by exact ag (by assumption) (by decide)) ?_
  exact gJ hK ⟨_,rfl⟩
 rintro _ ⟨a4,rfl⟩
 repeat walk_at "v"
 refine⟨rfl,?_⟩
 dsimp only
 have xR:(tab 9 λi=>AV.int (vR W i.toNat:Nat))=((List.range 9).map λi=>((vR W i:Nat):Int)).map .int:=by
  unfold tab
  rw[be]
  rfl
 have ro11:=F11.keep0 ro8
 rw[xR]at ro11 ⊢
 repeat walk_at "v"
 refine zha (b6 ro11) cR ?_
 repeat walk_at "v"
 walk_at "f"
 have F12:=F11.pushN (AO.list (((List.range 9).map λi=>((vR W i:Nat):Int)).map .int))
 have gt12:=b6 (o:=AO.list (((List.range 9).map λi=>((vR W i:Nat):Int)).map .int)) gt11
 generalize σ11++[AO.list (((List.range 9).map λi=>((vR W i:Nat):Int)).map .int)]=σ12 at *
 clear gt11 g11 F11 ro11
 repeat walk_at "v"
 refine gE ?_
 repeat walk_at "v"
 refine fh (fP (zp9 (kk:=λn=>ks.getD n 0) T (Hk F12) (by show tabP W num ks=_;unfold tabP;rw[hcnt];rfl)) ?_)
 rintro _ σ13 ⟨oo,ys,rfl,F13,go,hp,hy⟩
 refine gW go ?_
 dsimp only
 have F14:=F12.next F13
 have gt13:=F13.keep0 gt12
 clear F12 F13 gt12
 refine gB (m:=[none,none,some (.obj to)]) 3 (by rfl) (by rfl) ?_
 have hyl:ys.length=cnt:=by rw[hp.length_eq,aC]
 refine iK (xs:=ys) (ei:=λn:Nat=>.int n) (out:=λn:Nat=>[AV.int (cO W ks n:Nat)]) (λθ=>∃a,θ=th [none,a,some (.obj to)]) ⟨_,rfl⟩ (λl=>fS (b6 go)) ?_ ?_ ?_
 ·rintro n hn _ l ⟨a,rfl⟩ hl K hK
  have hn:=ax.mp (hp.mem_iff.mp hn)
  repeat walk_at "v"
  walk_at "t"
  repeat walk_at "v"
  refine eM (b6 gt13) (fR ⟨aG n,aX.mpr hn,by exact hJ hks⟩) ?_
  refine gC cR (by exact ag (by assumption) (by decide)) ?_
  exact gJ hK ⟨_,rfl⟩
 ·rw[gF,ae,hyl]
  exact ak hks (by decide)
 rintro _ ⟨a5,rfl⟩
 repeat walk_at "v"
 refine⟨rfl,?_⟩
 dsimp only
 rw[gF]
 have eY:(ys.map λn=>AV.int (cO W ks n:Nat))=(ys.map λn=>((cO W ks n:Nat):Int)).map .int:=by rw[be];rfl
 have eT:(tab cnt λn=>AV.int (cO W ks n.toNat:Nat))=((List.range cnt).map λn=>((cO W ks n:Nat):Int)).map .int:=by
  unfold tab
  rw[be]
  rfl
 rw[eY]
 have gt14:=gt13
 rw[eT]at gt14
 repeat walk_at "v"
 refine zpl (ys:=ys.map λn=>((cO W ks n:Nat):Int)) (b6 gt14) (hp.map _) (bC.mpr (hy.imp λh=>decide_eq_true (aX.mpr h))) (by rw[ae,aC];lia) ?_
 repeat walk_at "v"
 refine zha (b6 cR) cR ?_
 repeat walk_at "v"
 walk_at "f"
 have F15:=(F14.pushN (AO.list ((ys.map λn=>((cO W ks n:Nat):Int)).map .int))).pushN (AO.list ((ys.map λn=>((cO W ks n:Nat):Int)).map .int))
 have gt15:=b6 (o:=AO.list ((ys.map λn=>((cO W ks n:Nat):Int)).map .int)) (b6 (o:=AO.list ((ys.map λn=>((cO W ks n:Nat):Int)).map .int)) gt13)
 change wp _ ⟨_,σ13++[AO.list ((ys.map λn=>((cO W ks n:Nat):Int)).map .int)]++[AO.list ((ys.map λn=>((cO W ks n:Nat):Int)).map .int)]⟩ _
 generalize σ13++[AO.list ((ys.map λn=>((cO W ks n:Nat):Int)).map .int)]++[AO.list ((ys.map λn=>((cO W ks n:Nat):Int)).map .int)]=σ15 at *
 clear gt14 gt13 F14 go hp hy
 repeat walk_at "v"
 refine gE ?_
 repeat walk_at "v"
 have R15:=Hk F15
 refine dv (gm R15.ht R15.hd zv4) ?_
 repeat walk_at "v"
 refine fh (ztk (H:=⟨ht,hd,hl,tabP W num ks⟩) R15 (by show(tabP W num ks).length<_;rw[hps];exact ak hks (by decide)) ?_)
 refine gW cR ?_
 dsimp only
 refine gB (m:=[none,none]) 2 (by rfl) (by rfl) ?_
 refine iK (xs:=tabP W num ks) (ei:=λp:Str×Str=>.str p.1) (out:=λp:Str×Str=>[AV.str (Txt.lower p.1)]) (λθ=>∃a,θ=th [none,a]) ⟨_,rfl⟩ (λl=>fS (b6 cR)) ?_ ?_ ?_
 ·rintro p hp _ l ⟨a,rfl⟩ hl K hK
  repeat walk_at "v"
  walk_at "t"
  repeat walk_at "v"
  refine dv iq ?_
  repeat walk_at "v"
  refine zdm ?_ ?_
  ·obtain⟨n,hn,rfl⟩:=aH.mp hp
   show(fc _ _).cps.size≤_
   rw[zfl]
   exact aI zfp (by decide)
  repeat walk_at "v"
  refine gC cR (by exact ag (by assumption) (by decide)) ?_
  exact gJ hK ⟨_,rfl⟩
 ·rw[gF,ae,hps]
  exact ak hks (by decide)
 rintro _ ⟨a6,rfl⟩
 repeat walk_at "v"
 refine⟨rfl,?_⟩
 dsimp only
 rw[gF]
 have eN:((tabP W num ks).map λp=>AV.str (Txt.lower p.1))=tab cnt λn=>.str (nm (setN W num ks n.toNat)):=by
  unfold tab tabP
  rw[be,hcnt]
  exact aS λn u1=>congrArg AV.str (zhe gL)
 rw[eN]
 have gt17:=b6 (o:=AO.list (tab cnt λn=>AV.str (nm (setN W num ks n.toNat)))) (b6 (o:=AO.list ((tabP W num ks).map λp=>AV.str p.1)) gt15)
 have F17:=(F15.pushN (AO.list ((tabP W num ks).map λp=>AV.str p.1))).pushN (AO.list (tab cnt λn=>AV.str (nm (setN W num ks n.toNat))))
 have gn17:(σ15++[AO.list ((tabP W num ks).map λp=>AV.str p.1)]++[AO.list (tab cnt λn=>AV.str (nm (setN W num ks n.toNat)))])[(σ15++[AO.list ((tabP W num ks).map λp=>AV.str p.1)]).length]?=some (AO.list (tab cnt λn=>AV.str (nm (setN W num ks n.toNat)))):=cR
 generalize (σ15++[AO.list ((tabP W num ks).map λp=>AV.str p.1)]).length=no at *
 change wp _ ⟨_,σ15++[AO.list ((tabP W num ks).map λp=>AV.str p.1)]++[AO.list (tab cnt λn=>AV.str (nm (setN W num ks n.toNat)))]⟩ _
 generalize σ15++[AO.list ((tabP W num ks).map λp=>AV.str p.1)]++[AO.list (tab cnt λn=>AV.str (nm (setN W num ks n.toNat)))]=σ17 at *
 have R17:=Hk F17
 clear R15 gt15 F15 Hk R8 F17 g8 pa8 ro8 nu8 g F
 have hS9:∀n,n<cnt→∀m∈setN W num ks n,m<9:=λn hn m hm=>gL m hm
 have hS9l:∀n,(setN W num ks n).length≤9:=λn=>zfp
 repeat walk_at "v"
 refine zg1 gn17 (by rw[gz];exact ak hks (by decide)) ?_
 rw[gz]
 repeat walk_at "v"
 refine cH (zoi (b7 hks)) ?_
 refine zf2 ?_
 dsimp only
 refine zf3 (λu1 st=>∃y,LnI σ17 (.lst (L.map .int)) (.obj nd) (.obj wo) vo x4 ht na ro pa to no y st) ⟨_,_,_,_,rfl,.refl _ _⟩ ?_ ?_
 ·rintro i hi ⟨_,σ18⟩ ⟨y,x12,x13,x14,(rfl:_=th _),F18⟩
  have F18:Frm σ17 σ18 []:=F18
  refine⟨fK,λK hK=>?_⟩
  have gn18:=F18.keep0 gn17
  repeat walk_at "v"
  refine zg1 gn18 (by rw[gz];exact ak hks (by decide)) ?_
  rw[gz]
  repeat walk_at "v"
  refine cH (zoi (b7 hks)) ?_
  refine zf2 ?_
  dsimp only
  refine zf3 (λu1 st=>LnI σ17 (.lst (L.map .int)) (.obj nd) (.obj wo) vo x4 ht na ro pa to no (some (.int i)) st) ⟨_,_,_,rfl,F18⟩ ?_ ?_
  ·clear F18 gn18
   rintro j hj ⟨_,σ19⟩ ⟨x12,x13,x14,(rfl:_=th _),F19⟩
   have F19:Frm σ17 σ19 []:=F19
   refine⟨fK,λK2 hK2=>?_⟩
   have gn19:=F19.keep0 gn17
   have gt19:=F19.keep0 gt17
   repeat walk_at "v"
   refine gE ?_
   repeat walk_at "v"
   refine eM gn19 (fR ⟨aG i,aX.mpr hi,by exact hJ hks⟩) ?_
   rw[ay]
   refine zg9 (vs:=(setN W num ks i).map λn=>AV.str (dM n)) (g:=none) (by show some (gM (nm (setN W num ks i)),none)=_;rw[zpy]) ?_
   dsimp only
   refine gB (m:=[none,none,some (.obj no),some (.int j)]) 4 (by rfl) (by rfl) ?_
   refine iK (xs:=setN W num ks i) (ei:=λn:Nat=>AV.str (dM n)) (out:=λn:Nat=>if (!decide (n∈setN W num ks j))=true then[AV.str (dM n)]else[]) (λθ=>∃a,θ=th [none,a,some (.obj no),some (.int j)]) ⟨_,rfl⟩ (λl=>fK) ?_ ?_ ?_
   ·rintro n hn _ l ⟨a,rfl⟩ hl K hK
    repeat walk_at "v"
    refine eM (b6 gn19) (fR ⟨aG j,aX.mpr hj,by exact hJ hks⟩) ?_
    rw[ay]
    repeat walk_at "v"
    refine zri z2t ?_
    repeat walk_at "v"
    refine ze8 (λhc=>?_) (λhc=>?_)
    ·rw[if_pos (by exact hc)]at hK
     repeat walk_at "v"
     walk_at "t"
     repeat walk_at "v"
     refine gC cR (by exact ag (by assumption) (by decide)) ?_
     exact gJ hK ⟨_,rfl⟩
    ·rw[if_neg (by exact λq=>Bool.noConfusion (hc.symm.trans q))]at hK
     repeat walk_at "v"
     walk_at "f"
     repeat walk_at "v"
     exact zki hK ⟨_,rfl⟩
   ·rw[zj5,ae]
    exact ak (aI (b9 _ _) (hS9l i)) (by decide)
   rintro _ ⟨a7,rfl⟩
   repeat walk_at "v"
   refine⟨rfl,?_⟩
   dsimp only
   rw[zj5]
   have eX:(((setN W num ks i).filter λn=>!decide (n∈setN W num ks j)).map λn=>AV.str (dM n))=(((setN W num ks i).filter λn=>!decide (n∈setN W num ks j)).map dM).map .str:=by rw[be];rfl
   rw[eX]
   repeat walk_at "v"
   refine gj (show 0<2^20 by decide) ?_
   repeat walk_at "v"
   refine zu1 (b6 cR) (λx hx=>?_) cR ?_
   ·obtain⟨n,hn,rfl⟩:=aH.mp hx
    have:=hS9 i hi n (bh.mp hn).1
    show((#[97+n]:Array Nat).all (·<0x110000))=true
    simp
    lia
   have F21:=(F19.pushN (AO.list ((((setN W num ks i).filter λn=>!decide (n∈setN W num ks j)).map dM).map .str))).pushN (AO.list [])
   have gt21:=b6 (o:=AO.list []) (b6 (o:=AO.list ((((setN W num ks i).filter λn=>!decide (n∈setN W num ks j)).map dM).map .str)) gt19)
   change wp _ ⟨_,σ19++[AO.list ((((setN W num ks i).filter λn=>!decide (n∈setN W num ks j)).map dM).map .str)]++[AO.list []]⟩ _
   generalize σ19++[AO.list ((((setN W num ks i).filter λn=>!decide (n∈setN W num ks j)).map dM).map .str)]++[AO.list []]=σ21 at *
   clear gn19 gt19 F19
   repeat walk_at "v"
   refine eM gt21 (fR ⟨aG i,aX.mpr hi,by exact hJ hks⟩) ?_
   repeat walk_at "v"
   refine eM gt21 (fR ⟨aG j,aX.mpr hj,by exact hJ hks⟩) ?_
   rw[ay,ay]
   refine z0a ?_
   rw[zq1]
   repeat walk_at "v"
   refine eM gt21 (fR ⟨aG i,aX.mpr hi,by exact hJ hks⟩) ?_
   rw[ay]
   repeat walk_at "v"
   refine zz3 ?_
   have key:(((setN W num ks i).filter λn=>!decide (n∈setN W num ks j)).map dM).isEmpty=(((cO W ks i &&& cO W ks j:Nat):Int)==((cO W ks i:Nat):Int)):=by
    rw[bq,List.isEmpty_iff,List.map_eq_nil_iff,List.filter_eq_nil_iff,beq_iff_eq,Int.natCast_inj,zu6 T hi hj]
    simp
   rw[key,beq_self_eq_true]
   repeat walk_at "v"
   rw[if_neg (by decide)]
   repeat walk_at "v"
   exact hK2 _ ⟨_,_,_,rfl,F21⟩
  ·clear F18 gn18
   rintro⟨_,σ19⟩ ⟨x12,x13,x14,(rfl:_=th _),F19⟩
   have F19:Frm σ17 σ19 []:=F19
   refine⟨fK,?_⟩
   have gn19:=F19.keep0 gn17
   have gt19:=F19.keep0 gt17
   repeat walk_at "v"
   refine zg1 gn19 (by rw[gz];exact ak hks (by decide)) ?_
   rw[gz]
   have hc0:0<cnt:=ak (aU i) hi
   refine zwn (by lia) ?_
   have eo:((i:Int)+1).fmod (cnt:Int)=(((i+1) % cnt:Nat):Int):=by
    rw[Int.fmod_eq_emod_of_nonneg _ (aG _)]
    rfl
   rw[eo]
   have ho:(i+1) % cnt<cnt:=Nat.mod_lt _ hc0
   generalize (i+1) % cnt=o1 at *
   repeat walk_at "v"
   have R19:HdR σ19 ⟨ht,hd,hl,tabP W num ks⟩:=R17.keep λi o u1 e=>F19.keep0 e
   refine dv (gm R19.ht R19.hd ztv) ?_
   repeat walk_at "v"
   refine dv iq ?_
   repeat walk_at "v"
   refine eM gn19 (fR ⟨aG i,aX.mpr hi,by exact hJ hks⟩) ?_
   repeat walk_at "v"
   refine eM gn19 (fR ⟨aG o1,aX.mpr ho,by exact hJ hks⟩) ?_
   rw[ay,ay]
   have hla:=hS9l i
   have hlb:=hS9l o1
   refine zxw (by show(nm _).cps.size+(nm _).cps.size<_;rw[iZ,iZ];exact ak (Nat.add_le_add hla hlb) (by decide)) ?_
   have eA:nm (setN W num ks i)++nm (setN W num ks o1)=nm (setN W num ks i++setN W num ks o1):=by
    show Str.mk (_++_)=_
    unfold nm
    rw[aE]
    simp
   rw[eA]
   refine zxj (by rw[iZ,az];exact ak (Nat.add_le_add hla hlb) (by decide)) ?_
   rw[zva]
   have hU9:((List.range 9).filter λm=>decide (m∈setN W num ks i++setN W num ks o1)).length≤9:=by
    have:=b9 (λm=>decide (m∈setN W num ks i++setN W num ks o1)) (List.range 9)
    rwa[aC]at this
   have hUm:∀m,m∈(List.range 9).filter (λm=>decide (m∈setN W num ks i++setN W num ks o1))↔m∈setN W num ks i∨m∈setN W num ks o1:=λm=>by
    rw[bh,ax,decide_eq_true_eq,aD]
    exact and_iff_right_of_imp λq=>q.elim (hS9 i hi m) (hS9 o1 ho m)
   refine zd5 (D:=strsK) (ys:=((List.range 9).filter λm=>decide (m∈setN W num ks i++setN W num ks o1)).map dM) zdd ?_ ?_ (by rw[ae];exact ak hU9 (by decide)) ?_
   ·refine bC.mpr (List.Pairwise.imp (λ{a b} h=>ltX_lt1.trans (decide_eq_true h)) ?_)
    exact List.Pairwise.filter _ dc
   ·intro x
    rw[aH,aH]
    exact exists_congr λm=>and_congr_left λu1=>(hUm m).trans aD.symm
   have hU:∀n∈(List.range 9).filter (λm=>decide (m∈setN W num ks i++setN W num ks o1)),n<9:=λn hn=>ax.mp (bh.mp hn).1
   have hUs:∀c,c<cnt→(setN W num ks c=(List.range 9).filter (λm=>decide (m∈setN W num ks i++setN W num ks o1))↔cO W ks c=cO W ks i ||| cO W ks o1):=λc hc=>by
    rw[zps T hi ho hc]
    constructor
    ·intro e m
     rw[e]
     exact hUm m
    ·intro e
     unfold setN nset
     refine List.filter_congr λm hm=>?_
     have h1:=(e m).trans (hUm m).symm
     rw[bh]at h1
     unfold setN nset at h1
     rw[bh]at h1
     rw[bq]
     exact⟨λq=>(h1.mp ⟨hm,q⟩).2,λq=>(h1.mpr ⟨hm,q⟩).2⟩
   generalize (List.range 9).filter (λm=>decide (m∈setN W num ks i++setN W num ks o1))=U at *
   repeat walk_at "v"
   refine zro (xs:=U.map dM) cR (zlm (ak hU9 (by decide))) ?_
   rw[ztn]
   have F20:=F19.pushN (AO.list ((U.map dM).map strsK.em))
   change wp _ ⟨_,σ19++[AO.list ((U.map dM).map strsK.em)]⟩ _
   generalize σ19++[AO.list ((U.map dM).map strsK.em)]=σ20 at *
   clear gn19 gt19 R19
   have gt20:=F20.keep0 gt17
   have R20:HdR σ20 ⟨ht,hd,hl,tabP W num ks⟩:=R17.keep λi o u1 e=>F20.keep0 e
   repeat walk_at "v"
   refine dv iq ?_
   repeat walk_at "v"
   refine ze7 (by show(nm _).cps.size≤_;rw[iZ];exact aI hU9 (by decide)) ?_
   rw[zjg hU]
   repeat walk_at "v"
   refine fh (zox (H:=⟨ht,hd,hl,tabP W num ks⟩) (x:=um U) R20 (zjh (hcnt▸hks)) (zsb (k:=1) hU (ak hU9 (by decide))) ?_)
   have eG:getH (tabP W num ks) (um U)=(((List.range cnt).filter λn=>decide (cO W ks n=cO W ks i ||| cO W ks o1)).head?.map λn:Nat=>numT n):=by
    show getH (tabP W num ks) (fc 1 U)=_
    cases e:(List.range cnt).filter λn=>decide (cO W ks n=cO W ks i ||| cO W ks o1)with
    |nil =>
     refine zkz hU λn k' hn q=>?_
     have hlt:n<cnt:=hcnt▸(ap.mp hn).1
     have hk:ks.getD n 0=k':=by rw[av,hn];rfl
     have:n∈(List.range cnt).filter λn=>decide (cO W ks n=cO W ks i ||| cO W ks o1):=bh.mpr ⟨ax.mpr hlt,decide_eq_true ((hUs n hlt).mp (by unfold setN;rw[hk];exact q))⟩
     rw[e]at this
     cases this
    |cons c r =>
     have:c∈(List.range cnt).filter λn=>decide (cO W ks n=cO W ks i ||| cO W ks o1):=by rw[e];exact aj
     have h1:=bh.mp this
     have hlt:=ax.mp h1.1
     exact zky hU N.inj (ze9 (hcnt▸hlt)) ((hUs c hlt).mpr (of_decide_eq_true h1.2))
   dsimp only
   rw[eG]
   repeat walk_at "v"
   refine gE ?_
   repeat walk_at "v"
   refine zg1 gt20 (by rw[gz];exact ak hks (by decide)) ?_
   rw[gz]
   repeat walk_at "v"
   refine cH (zoi (b7 hks)) ?_
   refine zf2 ?_
   dsimp only
   refine gB (m:=[none,none,none,some (.int i),some (.int o1),some (.obj to)]) 6 (by rfl) (by rfl) ?_
   refine zmo (out:=λn:Int=>if decide (cO W ks n.toNat=cO W ks i ||| cO W ks o1)=true then[.str (numT n)]else[]) (λθ=>∃a,θ=th [none,a,none,some (.int i),some (.int o1),some (.obj to)]) ⟨_,rfl⟩ (λl=>fK) (by lia) (λj=>by split<;>simp) ?_ ?_
   ·rintro n hn _ l ⟨a,rfl⟩ hl K hK
    repeat walk_at "v"
    refine eM (b6 gt20) (fR ⟨aG n,aX.mpr hn,by exact hJ hks⟩) ?_
    repeat walk_at "v"
    refine eM (b6 gt20) (fR ⟨aG i,aX.mpr hi,by exact hJ hks⟩) ?_
    repeat walk_at "v"
    refine eM (b6 gt20) (fR ⟨aG o1,aX.mpr ho,by exact hJ hks⟩) ?_
    rw[ay,ay]at *
    refine z18 ?_
    rw[zuo]
    repeat walk_at "v"
    have eb:(((cO W ks n:Nat):Int)==((cO W ks i ||| cO W ks o1:Nat):Int))=decide (cO W ks n=cO W ks i ||| cO W ks o1):=by
     rw[bq,beq_iff_eq,decide_eq_true_eq,Int.natCast_inj]
    rw[ay,eb]
    refine ze8 (λhc=>?_) (λhc=>?_)
    ·rw[if_pos (by exact hc)]at hK
     repeat walk_at "v"
     walk_at "t"
     repeat walk_at "v"
     refine zg8 (ztc (by lia)) ?_
     repeat walk_at "v"
     refine gC cR (by exact ag (by assumption) (by decide)) ?_
     exact gJ hK ⟨_,rfl⟩
    ·rw[if_neg (by exact λq=>Bool.noConfusion (hc.symm.trans q))]at hK
     repeat walk_at "v"
     walk_at "f"
     repeat walk_at "v"
     exact zki hK ⟨_,rfl⟩
   rintro _ ⟨a8,rfl⟩
   repeat walk_at "v"
   refine⟨rfl,?_⟩
   dsimp only
   have eF:((List.range cnt).flatMap λn:Nat=>if decide (cO W ks ((n:Nat):Int).toNat=cO W ks i ||| cO W ks o1)=true then[AV.str (numT n)]else[])=((List.range cnt).filter λn=>decide (cO W ks n=cO W ks i ||| cO W ks o1)).map λn:Nat=>AV.str (numT n) :=
    zj5 (p:=λn=>decide (cO W ks n=cO W ks i ||| cO W ks o1)) (f:=λn:Nat=>AV.str (numT n)) _
   rw[eF]
   have hfl:((List.range cnt).filter λn=>decide (cO W ks n=cO W ks i ||| cO W ks o1)).length≤9:=by
    have:=b9 (λn=>decide (cO W ks n=cO W ks i ||| cO W ks o1)) (List.range cnt)
    rw[aC]at this
    exact aI this hks
   have hf9:∀n∈(List.range cnt).filter (λn=>decide (cO W ks n=cO W ks i ||| cO W ks o1)),n<9:=λn hn=>ag (ax.mp (bh.mp hn).1) hks
   generalize (List.range cnt).filter (λn=>decide (cO W ks n=cO W ks i ||| cO W ks o1))=fl at *
   repeat walk_at "v"
   refine gj (show 1<2^20 by decide) ?_
   repeat walk_at "v"
   refine zrv (b6 cR) cR (by rw[az,ae,aO];exact ak (dE hfl 1) (by decide)) ?_
   repeat walk_at "v"
   have eI:gh ((fl.map λn:Nat=>AV.str (numT n))++[AV.none]) 0=some (strN (fl.head?.map λn:Nat=>numT n)):=by
    cases fl with
    |nil=>exact ii (k:=0) rfl (by decide)
    |cons c r=>exact ii (k:=0) rfl (by simp at hfl ⊢)
   refine eM cR eI ?_
   repeat walk_at "v"
   refine zz2 (λx hx=>?_) ?_
   ·cases fl with
    |nil=>exact sn hx.symm
    |cons c r =>
     obtain rfl:=sj hx
     exact(num9 (bg (hf9 c aj))).o
   repeat walk_at "v"
   walk_at "f"
   repeat walk_at "v"
   exact hK _ ⟨_,_,_,_,rfl,((F20.pushN _).pushN _).pushN _⟩
 ·rintro⟨_,σ18⟩ ⟨y,x12,x13,x14,(rfl:_=th _),F18⟩
  refine⟨fK,?_⟩
  repeat walk_at "v"
  rfl
end
theorem VRs.ints {W:Wd}{vs:List Value}{ns:List Int}(h:IntsAre vs ns):VRs W (ns.map .int) vs:=by
 induction h with
 |nil=>exact .nil
 |cons _ _ _ ih=>exact .cons (.int _ _) ih
theorem z07 {ns:List Int}(h:ns.length<2^20):∃σ',zzx [.lst (ns.map .int)] [] []=some (.bool true,σ') :=
 am (zvz (σ:=[]) h) λr h=>am h λσ' h=>⟨σ',h.2▸h.1⟩
theorem z0d (w:World)(s₁:Shared)(mg mb:Str→Option Value)(ns:List Int)(vs:List Value)(a:Addr)
  (h1:s₁.heap.Ns mainGlobals mg) (h2:s₁.heap.Ns builtinsNs mb) (h3:s₁.heap.NoLimit) (h4:∀x:Str,x ≠ "__name__" → mb x=bootBuiltins x) (h5:(iP PySem.Challenge.pw_op0268_06 w.params).In s₁.heap)
  (h6:s₁.heap.get? a=some { cls:=.type "list", data:=.seq vs.toArray }) (h7:IntsAre vs ns) (h8:ns.length<2^20) (_h9:s₁.gens=#[])
  (Q E:Value→Shared→Prop) (hq:∀h' (tk:Nat×Drawn),(∀b o,s₁.heap.get? b=some o→h'.get? b=some o)→Q (.bool true) (mv s₁ h' tk)) :
  wpAny (model PySem.Challenge.pw_op0268_06 w) callerA (call (.ref 350) [.ref a]) Q E s₁:=by
 let C:Cx:=⟨⟨PP,w,s₁.heap,mg,mb,iP PP w.params⟩,[],true⟩
 have ok:Cx.Ok C.toBx:=⟨h1,h2,h3,h5,h4⟩
 have g:Good w.params C:=⟨rfl,ok,rfl⟩
 have R:Rel C ⟨[],[(a,{ cls:=.type "list", data:=.seq vs.toArray })]⟩ [] s₁.heap :=
  ⟨ok,λu1 u2 h=>h,λp hp=>by rw[ac.mp hp];exact h6,rfl,bR,λp u1=>bV,λu1 h=>absurd h bV,λu1 h=>absurd h bV,λi o b h=>absurd h (λq=>nomatch q),λu1 h=>absurd h bV⟩
 have ho:AOk C 6 callerA:=⟨λu1=>rfl,rfl,by decide +kernel,by decide +kernel⟩
 refine am (z07 h8) λσ' e=>?_
 refine(zzh g).fn callerA ⟨[],[(a,{ cls:=.type "list", data:=.seq vs.toArray })]⟩ [] s₁ [.lst (ns.map .int)] [.ref a] ho R (.cons (.lst (ac.mpr rfl) (VRs.ints h7)) .nil) (.bool true) σ' e Q E λv W' h' tk R' u1 hv=>?_
 cases hv
 exact hq h' tk R'.old
theorem all06:PySem.Challenge.rw_op0268_06.Holds:=z1h z0d
end Mine.Internal
theorem PySem.Challenge.cw_op0268_06_holds : PySem.Challenge.rw_op0268_06.Holds :=
  Mine.Internal.all06
