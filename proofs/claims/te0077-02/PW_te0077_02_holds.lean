import PyProof.Rows.All
import Wide.All
import OpenK.AllK
import Wide.FinOn
import KE.KTryDeep
import KE.KTryDeepN
import KE.KTab
import PyProof.Cells
import KE.KPop
import KE.KAnyBase
import PyProof.SliceMore
import PyProof.StrLoop
import PyProof.StrWalks
import PyProof.DictWalks
import KE.KPairComp
import PyProof.CompMap
import PyProof.PlainList
import PyProof.CompFree
import PyProof.TupleIter
import PyProof.Rows.EqDataRows
import PyProof.P3Eq
import PyProof.IsiHeapPairs
import PyProof.DictUpdate
import PyProof.ConsumeWalk
import PyProof.AttrMissSeq
import PyProof.ToksMono
import KE.KDictOf
import OpenK.KMake
import PyProof.StrLawsLast
import PyProof.StrLawsTight
import PyProof.StrLawsIn
import PyProof.RangeFor
import PyProof.WalksMore
import PyProof.Rows.FactsExc_KeyError
import KE.KIntText
import KE.KTabLook
import Lean
import PySem.Challenge.RW_te0077_02
set_option Elab.async false
set_option linter.all false
set_option tactic.hygienic false
set_option genCtorIdx false
set_option bootstrap.genMatcherCode false
set_option backward.match.sparseCases false
set_option maxRecDepth 1000000
set_option maxHeartbeats 4000000
open Array renaming all_eq_true'→Mf,getElem?_toList→z5,length_toList→LZ,size_push→My,toList_append→LY
open Bool renaming and_eq_true_iff→qk,and_eq_true→cD,and_false→ME,eq_false_iff→z7,eq_iff_iff→lX,false_and→MD,false_eq_true→Me,false_ne_true→Mc,false→aj,or_eq_false_iff→LU,or_eq_true→lW,rec→az,true_and→MG,true→ai
open Int renaming add_comm→Fg,add_sub_cancel→Mb,eq_ofNat_of_zero_le→ahD,fmod_lt_of_pos→Ma,fmod_nonneg_of_pos→LL,le_add_of_sub_right_le→aht,le_of_eq→wF,le_of_lt→lY,le_trans→dD,lt_of_le_of_lt→E0,lt_of_lt_of_le→sO,natCast_add→Fb,natCast_nonneg→dZ,neg_add_cancel_left→ahC,neg_le_neg→MB,neg_nonpos_of_nonneg→z0,not_lt→nD,ofNat_le→eO,ofNat_lt→oA,sub_nonpos_of_le→LS,sub_right_le_of_le_add→ahs,toNat_le→wD,toNat_lt→Ai,toNat→aZ
open Int.ofNat renaming inj→sW
open List renaming all_append→E9,all_cons→jQ,all_eq_true→bZ,any_cons→Fc,any_eq_true→E7,append_assoc→bY,append_nil→cO,cons_append→Mr,count_cons_of_ne→ahJ,dropWhile_cons_of_neg→ahr,dropWhile_cons_of_pos→ahq,dropWhile_cons→LX,dropWhile_sublist→EP,dropWhile_suffix→ahI,drop_drop→jv,drop_eq_getElem_cons→kK,drop_eq_nil_of_le→sN,drop_of_length_le→v8,drop_sublist→Mh,drop_subset→sV,drop_suffix→Aa,drop_zero→qt,eq_nil_of_length_eq_zero→sL,filterMap_cons→LW,filter_cons→Mq,find?_cons→Ad,flatMap_append→oq,flatMap_cons→E5,foldl_cons→E8,forIn_cons→Mw,getD_eq_getElem?_getD→sM,getElem?_append_left→zY,getElem?_append_right→dY,getElem?_drop→L5,getElem?_eq_getElem→ig,getElem?_eq_none_iff→qi,getElem?_eq_none→LP,getElem?_eq_some_iff→dh,getElem?_map→sQ,getElem?_of_mem→EW,getElem?_take_of_lt→zZ,getElem?_toArray→oh,head?_drop→wo,length_append→bK,length_cons→kM,length_drop→iu,length_eq_one_iff→ahE,length_eq_zero_iff→ahB,length_map→i8,length_nil→Ac,length_take_le→ql,length_take→nq,lookup_cons_self→ES,lookup_cons→Mp,lookup→oB,map_append→dH,map_congr_left→wh,map_cons→gq,map_id→Fj,map_inj_left→sP,map_map→Ag,map_take→Af,mem_append_left→wg,mem_append_right→bV,mem_append→jP,mem_cons→b7,mem_flatMap→Mn,mem_map_of_mem→EY,mem_map→fK,mem_of_getElem?→lV,mem_of_mem_drop→LQ,mem_singleton→d8,nil_append→ow,nodup_append→E4,nodup_cons→ef,nodup_nil→wu,of_mem_zip→Mv,pairwise_flatMap→ahH,pairwise_iff_getElem→LF,perm_append_comm_assoc→vY,perm_append_comm→LO,perm_append_left_iff→LD,perm_middle→jO,prefix_append→dB,prefix_rfl→Mu,range'→Fi,range→oF,rec→bE,size_toArray→qo,sublist_append_left→ahw,suffix_cons→Mm,suffix_iff_eq_drop→ahA,suffix_refl→sU,takeWhile_cons_of_neg→LC,takeWhile_cons_of_pos→v5,takeWhile_sublist→qj,take_add_one→wj,take_append_drop→iM,take_left→oz,take_length→z9,take_of_length_le→iL,take_succ_cons→EX,take_succ_eq_append_getElem→LB,take_take→MA
open List.Perm renaming append_left→z3,append_right→ER,trans→Mx
open List.Sublist renaming refl→fY
open List.cons renaming inj→wC
open Nat renaming add_assoc→nB,add_comm→iw,add_le_add_left→fy,add_le_add_right→ir,add_le_add→fZ,add_right_comm→ou,add_sub_cancel'→nk,add_sub_cancel_left→jN,add_zero→Ff,beq_refl→sX,beq→aQ,ble_eq_true_of_le→we,ble→aD,blt→dW,eq_of_beq_eq_true→bJ,le_add_left_of_le→ahG,le_add_left→i6,le_add_right_of_le→LK,le_add_right→bL,le_antisymm→ny,le_iff_lt_or_eq→LV,le_mul_of_pos_left→LI,le_of_ble_eq_true→aB,le_of_eq→aK,le_of_lt_succ→E3,le_of_lt→jR,le_of_not_le→z8,le_of_not_lt→kL,le_of_sub_eq_zero→LN,le_of_succ_le_succ→lT,le_refl→aH,le_succ_of_le→Mg,le_succ→eg,le_total→MI,le_trans→aq,lt_add_of_pos_right→ahz,lt_irrefl→Ae,lt_of_le_of_lt→fP,lt_of_lt_of_eq→gn,lt_of_lt_of_le→qn,lt_of_not_le→wm,lt_of_succ_lt_succ→LH,lt_succ_of_le→z6,lt_succ_self→gp,min_eq_left→i0,min_eq_right→E6,min_le_left→Ms,min_le_right→Ml,mul_le_mul_left→iN,ne_of_gt→Fe,ne_of_lt→fQ,not_le→wH,not_lt_zero→Ab,not_lt→nC,pos_of_ne_zero→L4,rec→eT,sub_add_cancel→qm,sub_eq_zero_of_le→wc,sub_le_sub_right→EU,sub_le→jy,sub_lt_sub_left→om,sub_pos_of_lt→wi,sub_self→iP,sub_sub_self→Mj,sub_zero→MH,succ_le_succ→d9,succ_ne_self→Mi,succ_pos→qu,zero_add→i9,zero_le→bP
open Option renaming isSome_iff_exists→ahv,none→ah,none→ao,rec→aY,some→aa
open Option.some renaming inj→ju
open Prod renaming fst→aS
open Prod.mk renaming inj→jw
open PyProof.Rows.KTD.Dat renaming flat→Ah
open PySem renaming Scope→b3,call→jS,strKind→wz
open PySem.BindsTo renaming of_eq→cu
open PySem.Builtin renaming divisionGoesByPylong→zX
open PySem.Builtin.Dict renaming pairItems→ahF,selfAndRest→ahy,updateFrom→EO
open PySem.Builtin.Str renaming glued→wk
open PySem.Calls renaming Name_function_global→ahu,getMethod_list_append→ahp,loadGlobal_builtin→ahx
open PySem.Code renaming builtin→qv
open PySem.F renaming slot_list_getattribute→LG
open PySem.Heap renaming ExtBut→Fo,dictOf_iff→qp,get?_push_of_some→lU,get?_push_size→EZ,lt_size→dN
open PySem.NameKind renaming free→wA
open PySem.NumText renaming step→Fd
open PySem.Pv renaming callWith_type1→E2
open PySem.PyData renaming int→qw,keyHash→kN,str→sZ
open PySem.Str renaming append→wG,cps_append→Mz,join→s6,length→iQ,ofString→af
open PySem.StrLaws renaming At→sY,glued_eq_join→v9
open PySem.Txt renaming item→eS,join→kP,replace→gu,slice→dc,startswith→nA
open PySem.Value renaming bool→kO,none→jx,ref→cy,str→Fp
open PySem.W.Fast renaming lEq_iff→ET,lEq→sS
open PySem.W.InstAt renaming of_news→MC
open PySem.W.KtsDicts renaming turn→LM
open PySem.W.KtsTurn renaming refl→MK
open PySem.W.WData renaming bool→oE,int→Aj
open PySem PySem.W PyProof.Rows PySem.Calls
namespace Hd
noncomputable abbrev P1:Program:=PySem.Challenge.pw_te0077_02
noncomputable abbrev r (a:Nat):Value:=.ref a
noncomputable abbrev S (s:String) (t:Nat):Value:=.str (af s) t
noncomputable abbrev I (i:Int) (t:Nat):Value:=.int i t
noncomputable abbrev N:Value:=.none
noncomputable abbrev E (P:Params) (s:String) (t:Nat) (v:Value):DictEntry:=⟨kN P (af s),.str (af s) t,v⟩
noncomputable abbrev tup (l:List Value):Obj:={cls:=.type "tuple",data:=.seq l.toArray 0}
noncomputable abbrev lst (l:List Value) (n:Nat):Obj:={cls:=.type "list",data:=.seq l.toArray n}
noncomputable abbrev dct (l:List DictEntry) (n:Nat):Obj:={cls:=.type "dict",data:=.dict l.toArray n}
noncomputable abbrev MN (l:List Value):Obj:={cls:=.type "code",data:=.fields l.toArray}
noncomputable def st (i:Nat):Stmt:=(P1.main.body[i]?).getD (.Pass default)
noncomputable def cs (i j:Nat):Stmt:=match st i with
 |.ClassDef _ _ _ b _ _ _ _ _ _ _=>(b[j]?).getD (.Pass default)
 |_=>.Pass default
noncomputable def Fq (x:Stmt) (q:Str) (dV y doc z:Value) (u:Option Nat) (v ct:Value) (d:Option Nat) (A:Array (Option Value)):Obj:=match x with
 |.FunctionDef n a b _ _ _ U _ _ _=>⟨.type "function",d,.func {name:=n,qualname:=q,params:=a,body:=.stmts b,scope:=U,globals:=mainGlobals,closure:=[],defaults:=dV,kwdefaults:=y,doc:=doc,pyModule:=z,annotations:=u,code:=v,closureTuple:=ct,builtins:=builtinsNs},A⟩
 |_=>default
noncomputable def Ft (x:Stmt) (q:Str):FuncData:=match x with
 |.FunctionDef n a b _ _ _ U _ _ _=>{name:=n,qualname:=q,params:=a,body:=.stmts b,scope:=U,globals:=0,closure:=[],defaults:=.none,kwdefaults:=.none}
 |_=>default
noncomputable def s7:Nat->List Str->List Value
 |_,[]=>[]
 |t,s::l=>.str s t::s7 (t+1) l
noncomputable def wJ (t:Nat) (s:String):List Value:=s7 t ((af s).cps.toList.map λc=>⟨#[c]⟩)
noncomputable def hob (c:String) (l:List Value):Obj:=⟨.type c,ah,.fields l.toArray,#[]⟩
noncomputable def hfl (l:List Value):Obj:=⟨N,ah,.fields l.toArray,#[]⟩
noncomputable def Ak (t:Nat):Value:=S "/claim/cut.py" t
noncomputable def wK (n q:Str) (t k:Nat) (Y m y:Int) (f:Bool) (b:Nat) (z:List Value):Obj:=MN ([.str n t,.str q (t+1),Ak (t+2),I Y 0,I m 0,I 0 0,I 0 0,I y 0,r b,.bool f,I 181 0,r (b+1)]++z++[I k 0,I Y 0,Ak (k+1)])
noncomputable def hfo (m d:Value) (p:Str) (b t:Nat):Stmt->List Obj×Nat
 |.FunctionDef n a y e f g U h i D=>
  let x:=.FunctionDef n a y e f g U h i D
  let k:=bif U.isGenerator then 35 else 3
  match localNames a U (.stmts y) with
  |some (v,_)=>([tup [],hfl [],tup (s7 (t+3) v),tup [],⟨N,ah,.func (Ft x (p++n)),#[]⟩,wK n (p++n) t (t+3+v.length) D.line a.args.length k ai b [N,r (b+2),r (b+3),r (b+4)],Fq x (p++n) d N N m ah (r (b+5)) N ah #[]],t+5+v.length)
  |none=>([tup [],hfl [],⟨N,ah,.func (Ft x (p++n)),#[]⟩,wK n (p++n) t (t+3) D.line a.args.length k ai b [N,N,N,r (b+2)],Fq x (p++n) d N N m ah (r (b+3)) N ah #[]],t+5)
 |_=>([],t)
noncomputable def MP:Expr->Value
 |.Constant (.bool b) _ _=>.bool b
 |_=>N
noncomputable def hfs (P:Params) (m:Value) (p:Str):List Stmt->Nat->Nat->List Obj×List DictEntry×List Value×Nat
 |[],_,t=>([],[],[],t)
 |x::l,b,t=>match x with
  |.FunctionDef n a _ _ _ _ _ _ _ z=>match a.defaults with
   |[]=>match hfo m N p b t x with
    |(o,k)=>match hfs P m p l (b+o.length) (k+1) with
     |(A,B,C,D)=>(o++A,⟨kN P n,.str n k,r (b+o.length-1)⟩::B,I z.line 0::I 4 0::r (b+o.length-2)::C,D)
   |d=>match hfo m (r b) p (b+1) t x with
    |(o,k)=>match hfs P m p l (b+1+o.length) (k+1) with
     |(A,B,C,D)=>(tup (d.map MP)::o++A,⟨kN P n,.str n k,r (b+o.length)⟩::B,I z.line 0::I 4 0::r (b+o.length-1)::C,D)
  |_=>hfs P m p l b t
noncomputable def hfr (c g:Nat) (m:Value):Obj:=⟨.type "frame",ah,.plain,#[aa (r c),aa (r 3),aa (r g),ah,aa m,ah,aa (r 0)]⟩
noncomputable def hcl (P:Params) (b t f:Nat) (m:Value) (ex:List DictEntry):Stmt->List Obj
 |.ClassDef n _ _ y _ _ _ _ _ z D=>match hfs P m (n++af ".") y (b+7) f with
  |(A,B,C,k)=>
   let e:=b+7+A.length
   let k:=k+z.length
   let q:=af
   [tup [.type "object"],hob "builtin_function_or_method" [.builtin "type.__prepare__",.type "type"],
    dct (E P "__module__" (t+7) m::E P "__qualname__" (t+9) (.str n (t+8))::E P "__firstlineno__" (t+11) (I D.line (t+10))::ex++B++[E P "__static_attributes__" k (r e)]) (4+ex.length+B.length),
    tup [],hfl C,wK n n (t+2) (t+5) D.line 0 0 aj (b+3) [N,N,N,N],hfr (b+5) (b+2) m]++A++
   [tup (s7 (k-z.length) z),
    dct (E P "__module__" (t+7) m::E P "__firstlineno__" (t+11) (I D.line (t+10))::ex++B++[E P "__static_attributes__" k (r e),E P "__dict__" (k+2) (r (e+3)),E P "__weakref__" (k+4) (r (e+4)),E P "__doc__" (k+5) N]) 4,
    ⟨.type "type",ah,.cls {name:=n,bases:=[.type "object"],mro:=[r (e+2),.type "object"],ns:=e+1,qualname:=n,hasDict:=ai,slotNames:=[],subclasses:=[],abstract:=aj,collection:=ah,hasDel:=aj},#[aa (r b),ah,aa (.str n t),aa (.str n (t+8)),aa (.builtin "object.__new__"),aa (.bool ai)]⟩,
    hob "getset_descriptor" [S "__dict__" (k+1),r (e+2),.builtin "function.__dict__",.builtin "function.__dict__#set"],
    hob "getset_descriptor" [S "__weakref__" (k+3),r (e+2),.builtin "ExceptionGroup.__weakref__",N],
    hob "super" [r (e+2),r (e+2),r (e+2)],hob "builtin_function_or_method" [.builtin "object.__init_subclass__",r (e+2)]]
 |_=>[]
noncomputable def hit (a n:Nat) (X:List Value):List Obj:=[lst X n,hob "str_ascii_iterator" [N,I n 0],tup [],hob "StopIteration" [r (a+2),N,N,N,.bool aj,N],tup X]
noncomputable def Al:Expr->Nat->Value
 |.Constant (.str s) _ _,t=>.str s t
 |.Constant (.int i) _ _,t=>.int i t
 |_,_=>N
noncomputable def MQ (P:Params):Value->Int
 |.str s _=>kN P s
 |.int i _=>i
 |_=>0
noncomputable def hen (P:Params) (g:Nat):Nat->List (Option Expr)->List Expr->List DictEntry
 |t,aa a::l,b::k=>⟨MQ P (Al a t),Al a t,Al b (t+1)⟩::hen P g (t+g) l k
 |_,_,_=>[]
noncomputable def hent (P:Params) (g u h v:Nat):Stmt->Nat->List DictEntry
 |.Assign _ (.Dict z q _) _,t=>hen P g t (z.take u) (q.take u)++hen P h v (z.drop u) (q.drop u)
 |_,_=>[]
noncomputable def hm1:Value:=S "html5lib.constants" 194
noncomputable def hm2:Value:=S "html5lib._inputstream" 564
noncomputable def Fv:Value:=S "html5lib._trie.py" 736
noncomputable def oG:Value:=S "html5lib._tokenizer" 825
noncomputable def s8:Value:=S "law_te0077_02" 1442
noncomputable def qx (P:Params):List DictEntry:=hent P 3 34 2 401 (st 8) 299
noncomputable def Fw (P:Params):List DictEntry:=hent P 3 34 3 0 (st 9) 429
noncomputable def MR (P:Params):List DictEntry:=[E P "__doc__" 166 N,E P "__package__" 167 N,E P "__loader__" 168 (.builtin "__main__.__loader__#opaque"),E P "__spec__" 169 N,E P "__annotations__" 170 (r 6),E P "__builtins__" 171 (r 4),E P "__file__" 173 (Ak 172),E P "__cached__" 174 N]++
 [("_wall",193,21),("EOF",196,0),("spaceCharacters",202,22),("asciiLetters",256,27),("digits",268,32),("hexDigits",292,37),("asciiLower",298,42),("entities",428,43),("replacementCharacters",531,46),("tokenTypes",556,48),("tagTokenTypes",563,49),("Text",604,73),("_is_invalid",611,84),("HTMLUnicodeInputStream",735,166),("bisect_left",749,178),("Trie",824,230),("entitiesTrie",841,236),("HTMLTokenizer",1441,762),("_law_PIECES",1476,767),("_law_ENDS",1482,774),("_law_MARKS",1488,781),("_law_OPEN",1494,788),("_law_begin",1503,795),("_law_call",1511,802),("_law_told",1517,807),("_law_reference",1523,812),("_law_cut",1539,819),("law",1545,824)].map λx:String×Nat×Nat=>bif x.2.2==0 then E P x.1 x.2.1 N else E P x.1 x.2.1 (r x.2.2)
noncomputable def MS:List Value:=[(1,20),(10,41),(17,55),(27,83),(29,90),(133,177),(143,184),(181,252),(1186,773),(1188,780),(1190,787),(1192,794),(1197,801),(1206,806),(1219,811),(1224,818),(1249,823)].flatMap λx:Nat×Nat=>[I x.1 0,I 0 0,r x.2]
noncomputable def gl (P:Params) (nm:Value) (k:Nat):Obj:=dct (E P "__name__" 165 nm::(MR P).take k) (k+1)
noncomputable def MT (k:Nat):Obj:=hfl (MS.take (3*k))
noncomputable def obs (P:Params):List Obj:=[wK (af "<module>") (af "<module>") 182 185 1 0 0 aj 11 [N,N,N,N],hfr 13 3 (S "__main__" 164)]++
 (hfo (S "__main__" 164) N default 15 187 (st 0)).1++tup (wJ 197 "\t\n\x0c \x0d")::hit 23 52 (wJ 204 "abcdefghijklmnopqrstuvwxyzABCDEFGHIJKLMNOPQRSTUVWXYZ")++hit 28 10 (wJ 258 "0123456789")++hit 33 22 (wJ 270 "0123456789abcdefABCDEF")++
 (hfo hm1 N default 38 293 (st 7)).1++[dct (qx P) 43,dct ((qx P).drop 17|>.take 17) 17,dct ((qx P).drop 34) 9,dct (Fw P) 34,dct ((Fw P).drop 17) 17,dct (hent P 2 8 2 0 (st 10) 532) 8,tup [I 3 539,I 4 541,I 5 543]]++
 hcl P 50 566 578 hm2 [] (st 13)++(hfo hm2 N default 78 605 (st 14)).1++hcl P 85 612 626 hm2 [E P "_defaultChunkSize" 625 (I 10240 624)] (st 15)++
 tup [I 0 738,N]::(hfo Fv (r 171) default 172 739 (st 17)).1++hcl P 179 750 762 Fv [] (st 18)++
 [dct [E P "_data" 830 (r 43),E P "_keys" 832 (r 243),E P "_cachestr" 835 (S "" 833),E P "_cachepoints" 840 (r 246)] 4,⟨r 230,aa 235,.plain,#[]⟩,⟨.type "frame",ah,.dict #[E P "self" 827 (r 236),E P "data" 828 (r 43)] 2,#[]⟩,hob "dict_keys" [r 43],
  lst ((qx P).map (·.key)) 45,hob "dict_keyiterator" [N,I 43 0,I 43 0,I 43 0],tup [],hob "StopIteration" [r 241,N,N,N,.bool aj,N],lst ((qx P).map (·.key)) 2,tup ((qx P).map (·.key)),lst [] 0,tup [I 0 836,I 43 838]]++
 hcl P 247 842 854 oG [] (st 21)++lst (s7 1444 ([" ",">","/","=","\"","'","<","`","\x00","&","a","&not","\t","\x0d","&#","\x0c","é","&#x41;","amp;","?","\x0d\n","x80","it;","𝒳","&lt","1","&gt;","&acE;","&ang","\n","&&","=\""].map af)) 0::
 (hfs P s8 default ((P1.main.body.drop 24).take 9) 768 1477).1
noncomputable def all (P:Params) (nm:Value) (k j:Nat):List Obj:=boot_o_0 P::boot_o_1 P::boot_o_2 P::gl P nm k::boot_o_4 P::boot_o_5 P::boot_o_6 P::boot_o_7 P::boot_o_8 P::boot_o_9 P::boot_o_10 P::tup []::MT j::obs P
noncomputable def Am:List Obj->List Obj
 |[]=>[]
 |[a]=>[a]
 |a::_::l=>a::Am l
noncomputable def bt:Nat->List Obj->BT
 |0,_=>.nil
 |_+1,[]=>.nil
 |n+1,v::l=>.node v (bt n (Am l)) (bt n (Am l.tail))
noncomputable def tr (P:Params) (n:Nat) (nm:Value) (k j:Nat):BT:=bt 11 ((all P nm k j).take n)
noncomputable def env:Env:={scope:=P1.main.scope,locals:=mainNs,globals:=mainNs,cells:=[],code:=r 13,frame:=aa 14}
noncomputable def bd:List Stmt:=behindTheImports P1
noncomputable def cE:Code:=.body bd env
noncomputable abbrev q0:Pos:=⟨0,0,0,0⟩
noncomputable abbrev TB:=treeTable
noncomputable abbrev seg:=@PySem.W.Fast.tw10110043849684766642
noncomputable abbrev tT:=PySem.W.Fast.tw14364793385576792824
noncomputable abbrev Z (w:World) (n:Nat) (m:Value) (k j t:Nat) (os:OsState):SharedT:={tree:=tr w.params n m k j,n:=n,life:={},gens:=⟨[]⟩,drawn:={},toks:=t,os:=os}
noncomputable abbrev J (w:World) (n:Nat) (X:SharedT) (b:List Stmt) (p:Pos) (Y:SharedT) (c:Pos):Prop:=seg tT P1 w 11 (aa (r 6)) 1 n X (piecesOf b env cE p [topFrame q0])=aa (.next,Y,cE,c)
noncomputable abbrev Js (w:World) (n:Nat) (X:SharedT) (b:List Stmt) (p:Pos) (Y:SharedT) (c:Pos):Prop:=segRun treeTable P1 w 11 (aa (r 6)) 1 n X.abs (piecesOf b env cE p [topFrame q0])=aa (.next,Y.abs,cE,c)
theorem sg{w n X b p Y c}(h:J w n X b p Y c):Js w n X b p Y c:=
 segRun_of ((congrFun (congrFun (congrFun (congrFun (congrFun (congrFun (congrFun (congrFun (congrFun PySem.W.Fast.te10110043849684766642 _) _) _) _) _) _) _) _) _).trans ((congrArg (λx=>seg x P1 w 11 (aa (r 6)) 1 n _ _) PySem.W.Fast.te14364793385576792824).trans h))
noncomputable abbrev JT:=World->Nat->SharedT->List Stmt->Pos->SharedT->Pos->Prop
noncomputable def r0:List Stmt:=bd
noncomputable abbrev j0 (j:JT) (w:World) (os:OsState):Prop:=j w 1429 (Z w 15 (S "__main__" 164) 8 0 187 os) (r0.take 8) ⟨0,0,0,0⟩ (Z w 43 hm1 15 2 299 os) ⟨10,0,11,78⟩
theorem s0(w:World)(os:OsState):j0 Js w os:=sg (byRow2 "special-get-raises" (P:=(j0 J · os)) (λw=>by kernel_rfl) (λw=>by kernel_rfl) w)
noncomputable def r1:List Stmt:=(r0.drop 8)
noncomputable abbrev j1 (j:JT) (w:World) (os:OsState):Prop:=j w 1618 (Z w 43 hm1 15 2 299 os) (r1.take 5) ⟨10,0,11,78⟩ (Z w 50 hm2 19 2 566 os) ⟨16,0,16,8⟩
theorem s1(w:World)(os:OsState):j1 Js w os:=sg (byRow2 "special-get-raises" (P:=(j1 J · os)) (λw=>by kernel_rfl) (λw=>by kernel_rfl) w)
noncomputable def r2:List Stmt:=(r1.drop 5)
noncomputable abbrev j2 (j:JT) (w:World) (os:OsState):Prop:=j w 1282 (Z w 50 hm2 19 2 566 os) (r2.take 7) ⟨16,0,16,8⟩ (Z w 235 oG 24 7 827 os) ⟨179,0,179,8⟩
theorem s2(w:World)(os:OsState):j2 Js w os:=sg (by kernel_rfl)
noncomputable def r3:List Stmt:=(r2.drop 7)
noncomputable abbrev j3 (j:JT) (w:World) (os:OsState):Prop:=j w 1239 (Z w 235 oG 24 7 827 os) (r3.take 1) ⟨179,0,179,8⟩ (Z w 247 oG 25 7 842 os) ⟨180,0,180,12⟩
theorem s3(w:World)(os:OsState):j3 Js w os:=sg (byRow2 "special-get-raises" (P:=(j3 J · os)) (λw=>by kernel_rfl) (λw=>by kernel_rfl) w)
noncomputable def r4:List Stmt:=(r3.drop 1)
noncomputable abbrev j4 (j:JT) (w:World) (os:OsState):Prop:=j w 2504 (Z w 247 oG 25 7 842 os) (r4.take 1) ⟨180,0,180,12⟩ (Z w 767 oG 26 8 1442 os) ⟨181,0,1183,19⟩
theorem s4(w:World)(os:OsState):j4 Js w os:=sg (by kernel_rfl)
noncomputable def r5:List Stmt:=(r4.drop 1)
noncomputable abbrev j5 (j:JT) (w:World) (os:OsState):Prop:=j w 313 (Z w 767 oG 26 8 1442 os) (r5.take 11) ⟨181,0,1183,19⟩ (Z w 825 s8 36 17 1546 os) ⟨1249,0,1280,61⟩
theorem s5(w:World)(os:OsState):j5 Js w os:=sg (by kernel_rfl)
section
open PySem.W.Fast
noncomputable abbrev R1:OpenLaw:=PySem.Challenge.rw_te0077_02
noncomputable abbrev MU:=@tw13343964577679436407
noncomputable abbrev MW:=@tw17119622794617984870
noncomputable abbrev MX:=@tw8326940854005059898
theorem An(n:Str)(h:MU P1 P1.main.body n=aj):readsOut P1 P1.main.body n=false:=
 (congrFun (congrFun (congrFun te13343964577679436407 _) _) _).trans h
theorem meets{p:Program}{b:List Stmt}{ok:Scope->Str->Bool}(h:MW p b ok=ai):namesMeet p b ok=true:=
 (congrFun (congrFun (congrFun te17119622794617984870 _) _) _).trans h
theorem road{lk:Look}{b:List Stmt}(h:MX lk b=ai):noRoadLSs lk b=true:=
 (congrFun (congrFun te8326940854005059898 _) _).trans h
theorem k1:readsOut P1 P1.main.body (af "vars")=false:=An _ (by kernel_rfl)
theorem k2:readsOut P1 P1.main.body (af "dir")=false:=An _ (by kernel_rfl)
theorem k3:readsOut P1 P1.main.body (af "locals")=false:=An _ (by kernel_rfl)
theorem k4:List.filter (readsOut P1 P1.main.body) [af "vars",af "dir",af "locals"]=[]:=by
 rw[Mq,k1,Mq,k2,Mq,k3];rfl
theorem k5:noRoadLSs {strict:=!(importedModules P1.main.body).all cThrough.contains,foot:=ah,bare:=List.filter (readsOut P1 P1.main.body) [af "vars",af "dir",af "locals"]} P1.main.body=true:=by
 rw[k4];exact road (by kernel_rfl)
theorem k6:namesResolve P1=true:=(congrFun te8377067652309620493 _).trans (by kernel_rfl)
theorem k7:(P1.boundNames.all λn=>!worldNames.contains n)=true:=by kernel_rfl
theorem k8:namesMeet P1 P1.main.body (λz n=>attrL n)=true:=meets (by kernel_rfl)
theorem k9:(sreFenced P1.main&&((moduleNames P1.main.body).isEmpty||lookedIntoSs (moduleNames P1.main.body) P1.main.body))=true:=by kernel_rfl
theorem MY:looksOpen P1=true:=look_both (look_both (look_both (look_both k9 k6) k7) k5) k8
theorem Fx:R1.row.wellSaid=true:=by
 have h:R1.row.partSaid=true:=by
  unfold OpenRow.partSaid
  rw[show looksOpen R1.row.toRowW.prog=ai from MY]
  kernel_rfl
 unfold OpenRow.wellSaid
 rw[h]
 kernel_rfl
theorem l2:(decide (R1.foot<=(behindTheImports R1.prog).length)&&R1.footing.all footLine)=true:=look_both (by kernel_rfl) ((congrArg (λf=>R1.footing.all f) te10501279942588096481).trans (by kernel_rfl))
theorem l4:noClassBlock R1.prog R1.footing=true:=(congrFun (congrFun te8179353310426384613 _) _).trans (by kernel_rfl)
theorem l7:noRoadLSs {strict:=ai,foot:=aa R1.bound',writes:=R1.writes,may:=R1.may} R1.footing=true:=road (by kernel_rfl)
theorem l8:defStands R1.about R1.above=true:=(congrFun (congrFun te9558739934217749035 _) _).trans (by kernel_rfl)
theorem l9:R1.namesIt=true:=(congrFun te16286561074155671207 _).trans (by kernel_rfl)
theorem b4:(R1.bound'.all (λn=>!builtinNamed n||R1.about==[n]||!R1.reads n))=true:=by kernel_rfl
theorem MZ:(namesMeet R1.prog R1.footing λU n=>(!(["type","isinstance","issubclass","getattr","hasattr"]:List Str).contains n||U.names.lookup n==some .globalImplicit)&&
 (R1.may !=aa n||U.kind==.module||U.names.lookup n==some .globalImplicit))=true:=meets (by kernel_rfl)
theorem M0:(R1.own.all (λn=>!builtinNamed n))=true:=by kernel_rfl
theorem M1:namesMeet R1.prog R1.above (λz n=>!R1.own.contains n)=true:=meets (by kernel_rfl)
theorem M3:(namesMeet R1.prog R1.footing λU n=>U.kind==.module||U.names.lookup n !=some .globalExplicit)=true:=meets (by kernel_rfl)
theorem said:R1.wellSaid=true:=by
 unfold OpenLaw.wellSaid
 rw[Fx,l4,l7,l8,l9,b4,MZ,M0,M1,M3]
 have e:=qk.mp l2
 rw[e.1,e.2]
 kernel_rfl
end
noncomputable def H1 (P:Params):Heap:=⟨(all P s8 36 17).toArray,{}⟩
noncomputable def Sa (w:World) (os:OsState):Shared:=⟨⟨((all w.params (S "__main__" 164) 8 0).take 15).toArray,{}⟩,⟨[]⟩,{},187,os⟩
theorem pre(w:World)(os:OsState):topGo treeTable P1 w 11 (aa (r 6)) 12 ⟨boot_heap w.params,⟨[]⟩,boot_drawn,boot_toks,os⟩ (topStub P1)=
 aa (Sa w os,⟨denote treeTable cE,cE,q0,[topFrame q0]⟩):=by kernel_rfl
theorem di(w:World)(os:OsState):segRun treeTable P1 w 11 (aa (r 6)) 1 1 (Sa w os) (blockOf bd env cE q0 [topFrame q0])=
 aa (.next,SharedT.abs (Z w 15 (S "__main__" 164) 8 0 187 os),cE,q0):=by kernel_rfl
theorem fin(w:World)(os:OsState):topRun treeTable P1 w 11 (aa (r 6)) 2 (SharedT.abs (Z w 825 s8 36 17 1546 os)) (restOf (r5.drop 11) env cE ⟨1249,0,1280,61⟩ [topFrame q0])=
 aa ⟨H1 w.params,⟨[]⟩,{},1546,os⟩:=by kernel_rfl
noncomputable def Mt:Nat:=12+(1+(1429+(1618+(1282+(1239+(2504+(313+(2))))))))
theorem run(w:World)(os:OsState):topRun treeTable P1 w 11 (aa (r 6)) Mt ⟨boot_heap w.params,⟨[]⟩,boot_drawn,boot_toks,os⟩ (topStub P1)=aa ⟨H1 w.params,⟨[]⟩,{},1546,os⟩:=by
 have h:=fin w os
 replace h:=piece_app (l:=r5.take 11) (rest:=r5.drop 11) (s5 w os) h
 rw[iM 11 r5] at h
 change topRun _ _ _ _ _ _ _ (restOf (r4.drop 1) _ _ _ _)=_ at h
 replace h:=piece_app (l:=r4.take 1) (rest:=r4.drop 1) (s4 w os) h
 rw[iM 1 r4] at h
 change topRun _ _ _ _ _ _ _ (restOf (r3.drop 1) _ _ _ _)=_ at h
 replace h:=piece_app (l:=r3.take 1) (rest:=r3.drop 1) (s3 w os) h
 rw[iM 1 r3] at h
 change topRun _ _ _ _ _ _ _ (restOf (r2.drop 7) _ _ _ _)=_ at h
 replace h:=piece_app (l:=r2.take 7) (rest:=r2.drop 7) (s2 w os) h
 rw[iM 7 r2] at h
 change topRun _ _ _ _ _ _ _ (restOf (r1.drop 5) _ _ _ _)=_ at h
 replace h:=piece_app (l:=r1.take 5) (rest:=r1.drop 5) (s1 w os) h
 rw[iM 5 r1] at h
 change topRun _ _ _ _ _ _ _ (restOf (r0.drop 8) _ _ _ _)=_ at h
 replace h:=piece_app (l:=r0.take 8) (rest:=r0.drop 8) (s0 w os) h
 rw[iM 8 r0] at h
 exact go_top (pre w os) (piece_block (di w os) h)
noncomputable def wL:DefRec:=match st 32 with
 |.FunctionDef n a b _ _ _ U _ _ p=>⟨n,a,b,U,p⟩
 |_=>⟨default,default,default,default,default⟩
noncomputable def Q:Program:={P1 with main:={P1.main with body:=[st 32]}}
noncomputable def lo:List Str:=[af "_wall",af "EOF",af "spaceCharacters",af "asciiLetters",af "digits",af "hexDigits",af "asciiLower",af "entities",af "replacementCharacters",af "tokenTypes",af "tagTokenTypes",af "Text",af "_is_invalid",af "HTMLUnicodeInputStream",af "bisect_left",af "Trie",af "entitiesTrie",af "HTMLTokenizer",af "_law_PIECES",af "_law_ENDS",af "_law_MARKS",af "_law_OPEN",af "_law_begin",af "_law_call",af "_law_told",af "_law_reference",af "_law_cut"]
noncomputable def wM:List Nat:=[2,3,22,27,32,37,41,42,43,46,48,49,62,63,69,70,72,73,83,84,97,98,104,105,111,112,118,119,125,126,132,133,134,140,141,147,148,149,155,156,162,163,165,166,171,177,178,198,199,205,206,212,213,219,220,226,227,229,230,235,236,243,246,254,260,261,274,275,276,282,283,289,290,296,297,303,304,310,311,352,353,534,535,541,542,548,549,555,556,562,563,569,570,576,577,583,584,590,591,761,762,767,773,774,780,781,787,788,794,795,801,802,806,807,811,812,818,819,823,824]
noncomputable def ob (P:Params) (a:Nat):Obj:=((all P s8 36 17)[a]?).getD default
noncomputable def K (P:Params):Frag:=wM.map λa=>(a,ob P a)
theorem M4(P:Params):wM=(K P).map (·.1):=by
 unfold K
 rw[Ag]
 exact(Fj wM).symm
noncomputable def Ao (s:Shared):List (Option Obj):=wM.map s.heap.get?
noncomputable def Aq (w:World):List (Option Obj):=(K w.params).map λp=>aa p.2
noncomputable def YP (w:World) (h:Heap):Prop:=(K w.params).In h
theorem size(w:World):((boot_heap w.params).isNs mainGlobals&&(⟨[]⟩:Array GenState).size==0,(boot_heap w.params).objs.size,(boot_heap w.params).nsMap mainGlobals "__annotations__")=(ai,11,aa (r 6)):=by kernel_rfl
theorem M5(w:World)(os:OsState):(staticsOk (importedModules P1.main.body) (boot_heap w.params) (H1 w.params)&&namesBound P1 (H1 w.params)&&gensDone ⟨H1 w.params,⟨[]⟩,{},1546,os⟩&&laidKept (boot_heap w.params) (H1 w.params))=true:=by kernel_rfl
theorem M6(w:World)(os:OsState):openSeen Q lo (importedModules P1.main.body) (λz=>ai) ai ⟨H1 w.params,⟨[]⟩,{},1546,os⟩=openGood Q lo:=
 (congrFun (congrFun (congrFun (congrFun (congrFun (congrFun PySem.W.Fast.te4187177175401517315 _) _) _) _) _) _).trans (by kernel_rfl)
theorem M7(w:World)(os:OsState):Ao ⟨H1 w.params,⟨[]⟩,{},1546,os⟩=Aq w:=by kernel_rfl
theorem left:LeftO P1 Q lo (λz=>ai) Ao Aq 20000 true:=
 LeftO.of_pieces (boot_open (by kernel_rfl) (by decide) (λz=>by kernel_rfl)) size run (by kernel_rfl)
  (λw=>funext λos=>Prod.ext (M5 w os) (Prod.ext (M6 w os) (M7 w os)))
theorem head(walk:WalkO Q lo (λz z=>True) YP R1.row.toRowW wL [] λf y=>jS f y):R1.Holds:=
 holds_law said λz=>holds_open (r:=R1.row) (q:=Q) (loose:=lo) (Xt:=λz=>ai) (XP:=λz z=>True) (Yf:=Ao) (Ya:=Aq) (YP:=YP) (d:=wL) (kwd:=[]) (N:=20000)
  left (λw s e=>Frag.in_of (M4 w.params) e) (λz z z x k=>Frag.In.keeps x k) (λz z=>trivial) (λz z z z z=>trivial)
  (by kernel_rfl) (by kernel_rfl) (by kernel_rfl) (λz z=>recFacts_nil rfl) rfl Fx (by kernel_rfl) ⟨rfl,rfl,rfl,rfl,rfl,by decide+kernel⟩
  ⟨[.list []],by decide+kernel,by decide+kernel⟩ walk
end Hd
namespace Om
theorem l3{P:Nat->Prop}{s:Nat}(h:s<3)(a:P 0)(b:P 1)(c:P 2):P s:=
 Nat.casesOn (motive:=λs=>s<3->P s) s (λz=>a) (λs=>Nat.casesOn (motive:=λs=>s+1<3->P (s+1)) s (λz=>b) λs=>Nat.casesOn (motive:=λs=>s+1+1<3->P (s+1+1)) s (λz=>c) λs h=>absurd h (nC.mpr (i6 3 s))) h
theorem o3{s:Nat}(h:s<3):s=0\/s=1\/s=2:=l3 (P:=λs=>s=0\/s=1\/s=2) h (.inl rfl) (.inr (.inl rfl)) (.inr (.inr rfl))
theorem M8(x:Int)(n:Nat):aZ (max 0 (min x n))<=n:=wD.mpr (Int.max_le.mpr ⟨dZ n,Int.min_le_right x n⟩)
theorem wN{a b:Nat}:aZ (max 0 (min (a:Int) b))=min a b:=by
 rw[Int.max_eq_right (Int.le_min.mpr ⟨dZ a,dZ b⟩)]
 rcases MI a b with h|h
 ·rw[Int.min_eq_left (eO.mpr h),i0 h];rfl
 ·rw[Int.min_eq_right (eO.mpr h),E6 h];rfl
theorem q1{b x e f:Nat}(y:b+x+e<=10000)(z:f=e+x):f<=10000:=aq (aK (z.trans (iw e x))) (aq (ir (i6 x b) e) y)
theorem q2{a:Nat}(h:a<=10000):a+(a+1)*1<=16777216:=aq (fZ h (Nat.mul_le_mul_right 1 (d9 h))) (aB rfl)
theorem m2(a:Int):a*2=a+a:=(Int.mul_comm a 2).trans (Int.two_mul a)
theorem e8(d b:Nat){k:Nat}(h:k<=8):d+k+8*b<=d+8*(b+1):=aq (aK (nB d k _)) (fy (aq (aK (iw k _)) (fy h (8*b))) d)
theorem o5:∀n:Nat,n<5->((n:Int)=0\/(n:Int)=1\/(n:Int)=2\/(n:Int)=3\/(n:Int)=4):=by decide
theorem nm.{u} {H:Type u} {x:H} {P:Prop} (h:x∈([]:List H)):P:=nomatch h
theorem nb{P:Prop}(h:aj=ai):P:=nomatch h
theorem ns.{u} {H:Type u} {x:H} {P:Prop} (h:ah=aa x):P:=nomatch h
theorem L0{a:Nat}(z:(a<=(16777216:Nat))):(¬(((2:Int)^(63:Nat))<=((a:Nat):Int))):=λh=>absurd (dD h (eO.mpr z)) (by decide)
theorem L1{a b:Nat}(z:(b<=(1000:Nat)))(x:(b=a)):(((a:Nat):Int)<(9223372036854775808:Int)):=E0 (eO.mpr (aq (aK x.symm) z)) (by decide)
theorem L2{a:Int}(z:((0:Int)<=a))(x:(a<=(1000:Int))):(a<((2:Int)^(63:Nat))):=E0 x (by decide)
theorem L6{a:Nat}(z:(a<=(1000:Nat))):((-((2:Int)^(63:Nat)))<=((a:Nat):Int)):=dD (by decide) (dZ a)
theorem L7{a:Nat}(z:(a<=(1000:Nat))):(((a:Nat):Int)<((2:Int)^(63:Nat))):=E0 (eO.mpr z) (by decide)
theorem L8{a:Nat}(z:(a<=(1000:Nat))):(¬(((a:Nat):Int)<(0:Int))):=nD.mpr (dZ a)
theorem L9{a:Nat}(z:(a<=(1000:Nat))):(((a:Nat):Int)<=(1000:Int)):=eO.mpr z
theorem M9{a b:Nat}(z:(b<=(1000:Nat)))(x:(b=a)):(a<=(16777216:Nat)):=aq (aK x.symm) (aq z (aB rfl))
theorem Fy{a b c d:Nat}(z:(c=(d+(1:Nat))))(x:((a+c)<b)):(a<b):=fP (bL a c) x
theorem Fz{a b c d:Nat}(z:(d=(b+(1:Nat))))(x:((a+d)<c)):(((a+(1:Nat))+b)<c):=fP (aK ((ou a 1 b).trans (congrArg (a+·) z.symm))) x
theorem FA{a b c d:Nat}(z:(d=(b+(1:Nat))))(x:(((a+((8:Nat)*d))+(40:Nat))<c)):((((a+(3:Nat))+((8:Nat)*b))+(40:Nat))<c):=by subst z;exact fP (ir (e8 a b (aB rfl)) 40) x
theorem wO{a b c:Nat}(z:((a+(c+(1:Nat)))<=b)):(a<b):=qn (fP (bL a c) (gp _)) z
theorem wQ{a b c:Nat}(z:((a+(b+(1:Nat)))<=c)):(((a+(1:Nat))+b)<=c):=aq (aK (ou a 1 b)) z
theorem FD{a b:Nat}:((a+(b+(1:Nat)))=((a+(1:Nat))+b)):=(ou a 1 b).symm
theorem Na{a:Nat}:(((0:Nat)+a)<=a):=aK (i9 a)
theorem Nb{a b c:Nat}(z:(((a+((8:Nat)*c))+(40:Nat))<b))(x:((3:Nat)<=c)):((a+(64:Nat))<b):=fP (ir (fy (iN 8 x) a) 40) z
theorem Nc{a b:Nat}(z:((a+b)<=(100000:Nat))):(a<=(16777216:Nat)):=aq (bL _ _) (aq z (aB rfl))
theorem Nd{a b:Nat}(z:(((a+b)+(1:Nat))<=(100000:Nat))):(((a+(1:Nat))+b)<=(100000:Nat)):=aq (aK (ou a 1 b)) z
theorem Nf{a b:Nat}(z:(¬(a<b)))(x:((a-b)=(0:Nat))):(a=b):=ny (LN x) (kL z)
theorem Ng{a b c d:Nat}(z:((d+(b+(1:Nat)))<c))(x:(a<=(d+(1:Nat)))):((a+b)<c):=fP (aq (ir x b) (aK (ou d 1 b))) z
theorem Nh{a b c d:Nat}(z:(((d+((8:Nat)*(b+(1:Nat))))+(40:Nat))<c))(x:(a<=(d+(2:Nat)))):(((a+((8:Nat)*b))+(40:Nat))<c):=fP (ir (aq (ir x (8*b)) (e8 d b (aB rfl))) 40) z
theorem Ni:((0:Int)<(1:Int)):=by decide
theorem Nj:((0:Int)<=(0:Int)):=Int.le_refl 0
theorem Nk{a:Int}{b:Nat}:((0:Int)<=(max (0:Int) (min (if(a<(0:Int)) then(a+((b:Nat):Int)) else a) ((b:Nat):Int)))):=Int.le_max_left 0 _
theorem Nl{a b:Int}(z:((0:Int)<=b))(x:(b<a)):((aZ (((a-b)+(1:Int))-(1:Int)))=((aZ a)-(aZ b))):=by
 obtain⟨m,rfl⟩:=ahD z
 obtain⟨n,rfl⟩:=ahD (dD z (lY x))
 rw[Mb]
 exact Int.toNat_sub n m
theorem Nm{a b:Int}(z:((0:Int)<=b))(x:(¬(b<a))):((aZ (0:Int))=((aZ a)-(aZ b))):=(wc (Int.toNat_le_toNat (nD.mp x))).symm
theorem Nn{a:Int}{b:Nat}(y:((0:Int)<=a)):((aZ (a+((1:Int)*((b:Nat):Int))))=((aZ a)+b)):=(congrArg (λz=>aZ (a+z)) (Int.one_mul _)).trans (Int.toNat_add_nat y b)
theorem Np{a:Nat}:((aZ (0:Int))<=a):=bP a
theorem FF{a:Int}{b:Nat}:((aZ (max (0:Int) (min (if(a<(0:Int)) then(a+((b:Nat):Int)) else a) ((b:Nat):Int))))<=b):=M8 _ _
theorem Nq{a:Nat}:((aZ ((a:Nat):Int))<=a):=aH a
theorem Nr{a b:Int}{c:Nat}(z:((aZ b)<=c))(x:((aZ a)<=(aZ b))):(((aZ a)+((aZ b)-(aZ a)))<=c):=aq (aK (nk x)) z
theorem Nt{a b:Int}(z:(¬((aZ b)<=(aZ a)))):(((aZ a)-(aZ b))=(0:Nat)):=wc (z8 z)
theorem Nv{a:Int}{b:Nat}{c:Int}(z:((aZ a)<=b))(x:((aZ c)<=b))(u:(True/\(((aZ c)-(aZ a))=b))):((aZ a)=(0:Nat)):=Nat.le_zero.mp (Nat.le_of_add_le_add_left (a:=b) (aq (aK ((congrArg (· +_) u.2.symm).trans (qm (aq z (aq (aK u.2.symm) (jy _ _)))))) x))
theorem Ny{a:Nat}{b c:Int}(z:(True/\(((aZ b)-(aZ c))=a)))(x:((aZ c)=(0:Nat))):(a<=((aZ b)-(0:Nat))):=by rw[<-z.2,x];exact aH _
theorem wR{a b:Nat}(z:(((a:Nat):Int)<(0:Int))):((aZ (max (0:Int) (min (((a:Nat):Int)+((b:Nat):Int)) ((b:Nat):Int))))=a):=(nD.mpr (dZ a) z).elim
theorem wU{a b:Nat}(z:(a<=b)):((aZ (max (0:Int) (min ((a:Nat):Int) ((b:Nat):Int))))=a):=wN.trans (i0 z)
theorem wV{a b:Nat}(z:(((a:Nat):Int)<(0:Int))):((aZ (max (0:Int) (min (((a:Nat):Int)+((b:Nat):Int)) ((b:Nat):Int))))=b):=(nD.mpr (dZ a) z).elim
theorem Nz{a b c:Nat}(z:(c<=b))(x:((aZ (max (0:Int) (min (if(((c:Nat):Int)<(0:Int)) then(((c:Nat):Int)+((b:Nat):Int)) else((c:Nat):Int)) ((b:Nat):Int))))=c))(u:(¬(a<=b))):((aZ (max (0:Int) (min ((a:Nat):Int) ((b:Nat):Int))))=b):=wN.trans (E6 (z8 u))
theorem ND{a b:Nat}:((a-b)<=(a-b)):=aH _
theorem NF{a b c:Nat}(z:(b<=a))(x:((aZ (max (0:Int) (min (if(((b:Nat):Int)<(0:Int)) then(((b:Nat):Int)+((a:Nat):Int)) else((b:Nat):Int)) ((a:Nat):Int))))=b))(u:(¬(c<=a)))(O:((aZ (max (0:Int) (min (if(((c:Nat):Int)<(0:Int)) then(((c:Nat):Int)+((a:Nat):Int)) else((c:Nat):Int)) ((a:Nat):Int))))=a)):((a-b)<=(c-b)):=EU (z8 u) b
theorem Ar{a b:Nat}(z:(¬(a<=b))):((aZ (max (0:Int) (min ((a:Nat):Int) ((b:Nat):Int))))=b):=wN.trans (E6 (z8 z))
theorem As{a b:Nat}(z:(¬(b<=a)))(x:((aZ (max (0:Int) (min (if(((b:Nat):Int)<(0:Int)) then(((b:Nat):Int)+((a:Nat):Int)) else((b:Nat):Int)) ((a:Nat):Int))))=a)):(a<=b):=z8 z
theorem NG{a b:Nat}(z:(b<=a))(x:((aZ (max (0:Int) (min (if(((b:Nat):Int)<(0:Int)) then(((b:Nat):Int)+((a:Nat):Int)) else((b:Nat):Int)) ((a:Nat):Int))))=b)):((a-b)<=((aZ ((a:Nat):Int))-b)):=aH _
theorem NH{a:Nat}(z:((1:Nat)<=a)):((-((a:Nat):Int))<(0:Int)):=Int.neg_neg_of_pos (oA.mpr z)
theorem NJ{a b:Nat}(z:((1:Nat)<=a)):((aZ (max (0:Int) (min ((-((a:Nat):Int))+((b:Nat):Int)) ((b:Nat):Int))))=(b-a)):=by
 rcases MI a b with h|h
 ·obtain⟨k,rfl⟩:=Nat.exists_eq_add_of_le h
  rw[Fb,ahC,<-Fb,jN]
  exact wN.trans (i0 (i6 k a))
 ·rw[wc h,Int.max_eq_left (dD (Int.min_le_left _ _) (Fg _ _▸LS (eO.mpr h)))]
  rfl
theorem FH{a:Nat}:(¬(((a:Nat):Int)<(0:Int))):=nD.mpr (dZ a)
theorem NL{a b c d:Nat}(z:((b+((b+(1:Nat))*d))<=(16777216:Nat)))(x:((c*d)<=((b+(1:Nat))*d)))(u:(a=(16777216:Nat))):(¬(a<(b+(c*d)))):=nC.mpr (aq (fy x b) (aq z (aK u.symm)))
theorem NO{a b:Nat}(z:((a+((a+(1:Nat))*b))<=(16777216:Nat))):(a<=(16777216:Nat)):=aq (bL _ _) z
theorem NW{a:Nat}(z:((0:Nat)<a)):(a≠(0:Nat)):=Nat.pos_iff_ne_zero.mp z
theorem NY{a:Nat}(z:((0:Nat)<a)):((a+(1:Nat))≠(0:Nat)):=Nat.succ_ne_zero a
theorem NZ{a:Nat}:(a≠(a+(1:Nat))):=fQ (gp a)
theorem N1{a b:Nat}(z:(a<=b))(x:(b=(16777216:Nat))):(¬(((2:Int)^(63:Nat))<=((a:Nat):Int))):=L0 (aq z (aK x))
theorem N4{a:Int}{b c:Nat}(z:((-((b:Nat):Int))<=a))(x:(b<=c))(u:(c=(16777216:Nat))):(¬(a<(-((2:Int)^(63:Nat))))):=nD.mpr (dD (dD (by decide) (MB (eO.mpr (aq x (aK u))))) z)
theorem N5{a:Int}{b c:Nat}(z:(a<((b:Nat):Int)))(x:(b<=c))(u:(c=(16777216:Nat))):(¬(((2:Int)^(63:Nat))<=a)):=λh=>L0 (aq x (aK u)) (dD h (lY z))
theorem N6{a b:Nat}(z:(a<=(1000:Nat)))(x:(b=a)):(((a:Nat):Int)<((2:Int)^(63:Nat))):=L7 z
theorem N7{a:Int}{b:Nat}(z:((0:Int)<=a))(x:(a<((b:Nat):Int)))(u:(b<=(1000:Nat))):((aZ a)<b):=(Ai z).mpr x
theorem N8{a:Int}{b:Nat}(z:(a<((b:Nat):Int)))(x:(b<=(1000:Nat))):(a<((2:Int)^(63:Nat))):=Int.lt_trans z (L7 x)
theorem N9{a:Nat}(z:(a<=(1000:Nat))):((a+(1:Nat))<=(16777216:Nat)):=aq (d9 z) (aB rfl)
theorem FI{a:Nat}:((1:Nat)<=(a+(1:Nat))):=i6 _ _
theorem Oa{a:Nat}(z:((1:Nat)<=a)):((-((a:Nat):Int))<=(-1:Int)):=MB (eO.mpr z)
theorem Ob{a:Nat}(z:((1:Nat)<=a)):((-1:Int)<((a:Nat):Int)):=sO (by decide) (dZ a)
theorem Oc:(¬((-1:Int)<(-((2:Int)^(63:Nat))))):=by decide
theorem Od:(¬(((2:Int)^(63:Nat))<=(-1:Int))):=by decide
theorem Oe{a b c:Nat}(z:((1:Nat)<=b))(x:((min b (c-a))=b)):((a+b)<=c):=iw a b▸Nat.add_le_of_le_sub (jR (Nat.lt_of_sub_pos (qn z (x▸Ml b (c-a))))) (x▸Ml b (c-a))
theorem Og{a b:Nat}:(a<(a+(b+(1:Nat)))):=ahz (qu b)
theorem Oh{a b:Nat}(z:((a+(1:Nat))<=b)):(a<=b):=aq (bL _ _) z
theorem Oi{a b c:Nat}(z:(a<((b+(1:Nat))+c))):(a<(b+(c+(1:Nat)))):=qn z (aK (ou b 1 c))
theorem FJ{a b:Nat}:(((a+(1:Nat))+b)=(a+(b+(1:Nat)))):=ou a 1 b
theorem Oj{a b:Nat}(z:(a<=b)):((a+(b-a))<=b):=aK (nk z)
theorem FL{a b:Nat}(z:(a<=b)):((a+(b-a))=b):=nk z
theorem Ol{a b c d:Nat}(z:((1:Nat)<=d))(x:(a<=b))(u:((b+d)<=c)):((a+(b-a))<=c):=aq (aK (nk x)) (aq (bL b d) u)
theorem Oo{a b c:Nat}(z:(c<=b))(x:(a<(c+(b-c)))):(a<b):=gn x (nk z)
theorem Oq{a:Prop}{b:Nat}(z:((1:Nat)<=b))(x:(b=(0:Nat))):a:=absurd x (Nat.pos_iff_ne_zero.mp z)
theorem Ot{a b c:Nat}(z:(c<=b))(x:((a+(1:Nat))<=c)):((a+(1:Nat))<=b):=aq (x) z
theorem Ou{a b:Nat}(z:((a+(1:Nat))<=b)):(a<b):=z
theorem Ov{a b c:Nat}(z:(a<(min b c))):(a<b):=qn z (Ms b c)
theorem FN{a b:Nat}(z:(a<=b)):(a<=(b+(1:Nat))):=LK (z)
theorem Ow{a b:Nat}:(((a+(1:Nat))+b)=(a+(((0:Nat)+(1:Nat))+b))):=nB a 1 b
theorem Ox{a b c:Nat}(z:((a+(b+(1:Nat)))<=c)):((a+b)<=c):=aq (fZ (aH _) (bL _ _)) z
theorem Oz{a:Nat}:((aZ (max (0:Int) ((a:Nat):Int)))=a):=congrArg aZ (Int.max_eq_right (dZ a))
theorem OA{a b:Nat}:((min a b)<=((a+(1:Nat))-(0:Nat))):=aq (Ms a b) (eg a)
theorem OB{a b c:Nat}(z:((a+c)<=b)):(a<(b+(1:Nat))):=z6 (aq (bL a c) z)
theorem OC{a b c:Nat}(z:(a<c)):(a<((a+(1:Nat))+b)):=bL _ _
theorem OD{a:Nat}:(¬(((a:Nat):Int)=(-1:Int))):=λh=>absurd (dZ a) (by rw[h];decide)
theorem OE{a b c:Nat}(z:((b+(c+(1:Nat)))=a)):((((a:Nat):Int)-(((b:Nat):Int)+(1:Int)))=((((0:Nat)+c):Nat):Int)):=by subst z;rw[i9];exact Int.sub_eq_iff_eq_add.mpr (congrArg Int.ofNat (Nat.add_left_comm b c 1))
theorem OF:((-1:Int)<(0:Int)):=by decide
theorem OG{a b:Nat}(z:(a=(b+(1:Nat)))):(((0:Int)<=((-1:Int)+((a:Nat):Int)))/\(((-1:Int)+((a:Nat):Int))<((a:Nat):Int))):=by subst z;exact⟨Int.le_neg_add_of_add_le (eO.mpr (d9 (bP b))),Int.neg_add_lt_left_of_lt_add (sO (Int.lt_succ _) (wF (Fg _ 1)))⟩
theorem OH{a b:Nat}(z:(a=(b+(1:Nat)))):((aZ ((-1:Int)+((a:Nat):Int)))=b):=by subst z;rw[iw b 1,Fb];exact congrArg aZ (ahC 1 ↑b)
theorem OI{a b:Nat}(z:(a<=b)):((a+(1:Nat))<=((b+(1:Nat))+(1:Nat))):=fZ (LK (z)) (aH _)
theorem OJ{a b:Nat}(z:(a<=(b+(1:Nat)))):((a+(1:Nat))<=((b+(1:Nat))+(1:Nat))):=fZ (z) (aH _)
theorem OM{a b c:Nat}(z:(c=b))(x:(b=(a+(1:Nat)))):(a<b):=aK x.symm
theorem ON{a b c d:Nat}(z:(c=a))(x:(a=(b+(1:Nat))))(u:(b<d)):((((a:Nat):Int)-(1:Int))=((b:Nat):Int)):=by subst x;exact Mb b 1
theorem OO{a b c d:Nat}(z:(c=b))(x:(b=(a+(1:Nat))))(u:(a<d)):(a<=b):=aq (bL _ _) (aK x.symm)
theorem OQ{a b c d:Nat}(z:(b=a))(x:(a=(c+(1:Nat))))(u:(c<d)):(¬(((a:Nat):Int)=(0:Int))):=λh=>Nat.succ_ne_zero c (x.symm.trans (sW h))
theorem OS{a b c:Nat}(z:(a<=(20000:Nat)))(x:(b<c))(u:(a=c)):((-((a:Nat):Int))<=((b:Nat):Int)):=dD (z0 (dZ a)) (dZ b)
theorem OT{a b c d e:Nat}(y:(c<=b))(x:(d=c))(u:(c=(a+(1:Nat))))(O:(a<e))(z:(b=e)):(((a:Nat):Int)<((b:Nat):Int)):=oA.mpr (gn O z.symm)
theorem OU{a b c:Nat}(z:(a<=(20000:Nat)))(x:(b<c))(u:(a=c)):(a<=(16777216:Nat)):=aq z (aB rfl)
theorem OV{a b c d e:Nat}(y:(c<=b))(x:(d=c))(u:(c=(a+(1:Nat))))(O:(a<e))(z:(b=e)):(a<=b):=aq (jR O) (aK z.symm)
theorem OW{a b c d:Nat}(z:((c+d)=b))(x:(a<=d))(u:(b<=d)):(a<=b):=aq (ahG (x)) (aK z)
theorem OX{a b c d e f:Nat}(y:((c+d)<=(10000:Nat)))(x:(b<=e))(u:(e<f))(O:(a<=c))(z:(d=f)):((a+b)<=(16777216:Nat)):=aq (fZ O (aq x (aq (jR u) (aK z.symm)))) (aq y (aB rfl))
theorem FO{a b c:Nat}(z:((a+b)=c))(x:(b<c)):((a-(1:Nat))<a):=Nat.sub_lt (L4 λe=>by subst e;exact Ae b (gn x (z.symm.trans (i9 b)))) Nat.one_pos
theorem FP{a b c:Nat}(z:((a+b)=c))(x:(b<c)):(((a-(1:Nat))+(b+(1:Nat)))=c):=by
 have h:0<a:=L4 λe=>by subst e;exact Ae b (gn x (z.symm.trans (i9 b)))
 rw[iw b 1,<-nB,qm h];exact z
theorem FQ{a b c d e:Nat}(z:(((a+(c-d))+e)<=(10000:Nat)))(x:(b=(e+(c-d)))):((a+b)<=(10000:Nat)):=aq (aK ((congrArg (a+·) (x.trans (iw _ _))).trans (nB a _ e).symm)) z
theorem OY{a b c d e:Nat}(z:(((b+(c-d))+e)<=(10000:Nat)))(x:(a=(e+(c-d)))):((a+((a+(1:Nat))*(1:Nat)))<=(16777216:Nat)):=q2 (q1 z x)
theorem OZ{a b c d e f:Nat}(z:(((b+(c-d))+e)<=(10000:Nat)))(x:(f=(e+(c-d))))(u:(a<=f)):((a+((a+(1:Nat))*(1:Nat)))<=(16777216:Nat)):=q2 (aq u (q1 z x))
theorem O0{a b c d e f g:Nat}(z:(((c+(d-e))+f)<=(10000:Nat)))(x:(g=(f+(d-e))))(u:(b=(16777216:Nat)))(O:(a<=g)):(a<=b):=aq (aq O (q1 z x)) (aq (aB rfl) (aK u.symm))
theorem O2{a b c d e f:Nat}(z:(((b+(c-d))+e)<=(10000:Nat)))(x:(f=(e+(c-d))))(u:(a<=f)):(a<=(20000:Nat)):=aq u (aq (q1 z x) (aB rfl))
theorem O3{a b c d e f:Nat}(z:(c<=(d+e)))(x:(((a+(c-d))+f)<=(10000:Nat)))(u:(b=(f+(c-d)))):((((a+b)+(c-(d+e)))+(0:Nat))<=(10000:Nat)):=by rw[wc z,u,iw f,<-nB];exact x
theorem wW{a b c d e f:Nat}(z:(((c+(d-e))+f)<=(10000:Nat)))(x:(a=(f+(d-e))))(u:(b=(16777216:Nat))):(a<=b):=aq (q1 z x) (aq (aB rfl) (aK u.symm))
theorem O4{a:Nat}(z:((1:Int)<((a:Nat):Int))):((1:Nat)<a):=(oA (n:=1)).mp z
theorem O5{a b c:Nat}(z:((1:Nat)<a))(x:(a=(b+(1:Nat))))(u:(c=b)):((-((a:Nat):Int))<=(-1:Int)):=MB (eO.mpr (jR z))
theorem O6{a b c:Nat}(z:((1:Nat)<a))(x:(a=(b+(1:Nat))))(u:(c=b)):((-1:Int)<((a:Nat):Int)):=sO (by decide) (dZ a)
theorem O7{a:Nat}(z:(((a:Nat):Int)=(13:Int))):(a=(13:Nat)):=sW z
theorem O8{a b c d e f g:Nat}(z:(((a+(c-d))+e)<=(10000:Nat)))(x:(f=(e+(c-d))))(u:(f=(g+(1:Nat))))(O:(b=g)):((a+b)<=(10000:Nat)):=aq (fy (aq (aK O) (aq (eg g) (aK u.symm))) a) (FQ z x)
theorem O9{a b c d e f g h:Nat}(y:(((b+(c-d))+e)<=(10000:Nat)))(x:(f=(e+(c-d))))(u:((1:Nat)<f))(O:(f=(g+(1:Nat))))(z:(h=g))(G:(a<=h)):((a+((a+(1:Nat))*(1:Nat)))<=(16777216:Nat)):=q2 (aq G (aq (aK z) (aq (eg g) (aq (aK O.symm) (q1 y x)))))
theorem Pa{a b c d e f g h i:Nat}(v:(((c+(d-e))+f)<=(10000:Nat)))(x:(g=(f+(d-e))))(u:(b=(16777216:Nat)))(O:((1:Nat)<g))(y:(g=(h+(1:Nat))))(G:(i=h))(z:(a<=h)):(a<=b):=aq z (aq (aq (eg h) (aK y.symm)) (wW v x u))
theorem Pb{a:Nat}(z:((1:Nat)<a))(x:(a=(1:Nat))):False:=Fe z x
theorem Pc{a b c d e f g h:Nat}(z:(((b+(c-d))+e)<=(10000:Nat)))(x:(f=(e+(c-d))))(u:((1:Nat)<f))(O:(f=(g+(1:Nat))))(y:(h=g))(G:(a<=g)):(a<=(20000:Nat)):=aq G (aq (aq (eg g) (aK O.symm)) (aq (q1 z x) (aB rfl)))
theorem Pd{a b c d e f g h:Nat}(y:(c<=(d+e)))(x:(((a+(c-d))+f)<=(10000:Nat)))(u:(g=(f+(c-d))))(O:(g=(h+(1:Nat))))(z:(b=h)):((((a+b)+(c-(d+e)))+(1:Nat))<=(10000:Nat)):=by subst z;rw[wc y];exact aq (aK (((congrArg (a+·) (O.symm.trans (u.trans (iw f _))))).trans (nB a _ f).symm)) x
theorem Pe{a:Nat}(z:((55296:Int)<=((a:Nat):Int)))(x:(((a:Nat):Int)<=(56319:Int)))(u:(a=(13:Nat))):False:=by subst u;exact absurd z (by decide)
theorem Pf{a:Nat}(z:((55296:Int)<=((a:Nat):Int)))(x:(((a:Nat):Int)<=(56319:Int)))(u:((a<(55296:Nat))\/((57343:Nat)<a))):False:=u.elim (λh=>wH.mpr h ((eO (m:=55296)).mp z)) (λh=>absurd ((eO (n:=56319)).mp x) (wH.mpr (Nat.lt_trans (aB rfl) h)))
theorem Pg{a b c d:Nat}(z:(((c+(a-b))+d)<=(10000:Nat))):((a-b)<=((b+(10240:Nat))-b)):=aq (aq (aq (i6 _ c) (bL _ d)) z) (aq (aB rfl) (aK (jN (n:=b) (m:=10240)).symm))
theorem FT{a b:Nat}(z:(a<=(10000:Nat)))(x:(b=(16777216:Nat))):(a<=b):=aq z (aq (aB rfl) (aK x.symm))
theorem Au{a b c d e f:Nat}(z:(b=(16777216:Nat)))(x:(a=(c-d)))(u:(((e+(c-d))+f)<=(10000:Nat))):(a<=b):=aq (aq (LK (ahG (aK x))) (aq u (aB rfl))) (aK z.symm)
theorem FU{a b c:Nat}(z:(c=(a-b))):(a<=(b+c)):=Nat.sub_le_iff_le_add'.mp (aK z.symm)
theorem Ph{a b c:Nat}(z:(c=(a-b)))(x:(c=(0:Nat))):(a<=(b+c)):=aq (LN (z.symm.trans x)) (bL b c)
theorem Pj:((0:Nat)<=(20000:Nat)):=aB rfl
theorem Pk{a b c d:Nat}(z:(d=(b-c)))(x:(d=(0:Nat)))(u:(((a+(b-c))+(0:Nat))<=(10000:Nat))):(((a+(b-(c+d)))+(0:Nat))<=(10000:Nat)):=by subst x;exact u
theorem Pn{a b:Nat}(z:(b=(16777216:Nat)))(x:(a=(1:Nat))):(a<=b):=aq (aq (aK x) (aB rfl)) (aK z.symm)
theorem Po{a b c d e f g:Nat}(z:(c=(16777216:Nat)))(x:(b=(d-e)))(u:(((f+(d-e))+g)<=(10000:Nat)))(O:(a=(1:Nat))):((a+b)<=c):=aq (fZ (aK O) (aq (aK x) (aq (aq (i6 _ f) (bL _ g)) u))) (aq (aB rfl) (aK z.symm))
theorem Pp{a b:Nat}(z:(a<b)):((a+(1:Nat))<=b):=z
theorem Pq{a b:Nat}(z:(((a:Nat):Int)<=((b:Nat):Int))):(a<=b):=eO.mp z
theorem Pr{a:Nat}(z:((0:Nat)<a))(x:(a<=(20000:Nat))):((-((a:Nat):Int))<=(0:Int)):=z0 (dZ a)
theorem Pu{a:Nat}(z:((0:Nat)<a))(x:(a<=(20000:Nat))):((0:Int)<((a:Nat):Int)):=oA.mpr z
theorem Pw{a b:Nat}(z:(b=(16777216:Nat)))(x:((0:Nat)<a))(u:(a<=(20000:Nat))):(a<=b):=aq (aq u (aB rfl)) (aK z.symm)
theorem Px{a b:Nat}(z:(¬(((b:Nat):Int)<=((a:Nat):Int)))):(a<b):=wm λh=>z (eO.mpr h)
theorem Py{a b c:Nat}(z:(b<c))(x:(a=c)):((-((a:Nat):Int))<=((b:Nat):Int)):=dD (z0 (dZ a)) (dZ b)
theorem PS{a b c:Nat}(z:(a<c))(x:(b=c)):(((a:Nat):Int)<((b:Nat):Int)):=oA.mpr (gn z x.symm)
theorem PY{a b c:Nat}(z:(b=(16777216:Nat)))(x:(a<=(20000:Nat)))(u:(a=c)):(a<=b):=aq (aq x (aB rfl)) (aK z.symm)
theorem PZ{a b c d e f:Nat}(z:(c<=(d+(e-f))))(x:(a<=(20000:Nat)))(u:(e<=(10000:Nat)))(O:(d<=(1:Nat))):(((a-b)+c)<=(30001:Nat)):=aq (fZ (aq (jy a b) x) (aq z (fZ O (aq (jy e f) u)))) (aH 30001)
theorem P0{a b c d e:Nat}(z:(b=(((2:Nat)*c)+d)))(x:((e+b)<=(90000:Nat)))(u:(a<=e)):((a+(0:Nat))<=(16777216:Nat)):=aq (fZ (u) (bP _)) (aq x (aB rfl))
theorem FW{a b:Nat}(z:(b=(16777216:Nat)))(x:(a<=(20000:Nat))):(a<=b):=aq (aq x (aB rfl)) (aK z.symm)
theorem P4{a b c d e f g:Nat}(z:((a+c)<=(90000:Nat)))(x:((d+(0:Nat))=(e-f)))(u:(g=(d+b)))(O:(c=(((2:Nat)*g)+(1:Nat)))):(((a+(1:Nat))+((2:Nat)*b))<=(90000:Nat)):=by subst u O;exact aq (aK (nB a 1 (2*b))) (aq (fy (aq (aK (iw 1 (2*b))) (d9 (iN 2 (i6 b d)))) a) z)
theorem P5{a b c d e f g:Nat}(y:((a+c)<=(90000:Nat)))(x:((d+(0:Nat))=(e-f)))(u:(g=(d+b)))(O:(f<e))(z:(c=(((2:Nat)*g)+(0:Nat)))):(((a+(1:Nat))+((2:Nat)*b))<=(90000:Nat)):=by subst u z;exact aq (aK (nB a 1 (2*b))) (aq (fy (aq (aK (iw 1 (2*b))) (aq (eg _) (iN 2 (aq (fy (gn (wi O) x.symm) b) (aK (iw b d)))))) a) y)
theorem P6{a b c d e f g:Nat}(z:((c+d)=(e-f)))(x:(g=(c+a)))(u:(b=(((2:Nat)*g)+(1:Nat)))):(((2:Nat)*a)<b):=fP (iN 2 (aq (i6 a c) (aK x.symm))) (gn (gp _) u.symm)
theorem P7{a b c d e f:Nat}(z:((c+(0:Nat))=(d-e)))(x:(f=(c+a)))(u:(e<d))(O:(b=(((2:Nat)*f)+(0:Nat)))):(((2:Nat)*a)<b):=gn ((Nat.mul_lt_mul_left Nat.two_pos).mpr (gn (Nat.lt_add_of_pos_left (gn (wi u) z.symm)) x.symm)) O.symm
theorem P8{a b c d e f g h:Nat}(y:((b=(1:Nat))\/((b=(0:Nat))/\(c<d))))(x:(e=(((2:Nat)*f)+b)))(u:((a+e)<=(90000:Nat)))(O:(c<=d))(z:((g+h)=(d-c)))(G:(f=(g+h))):((a+(1:Nat))<=(90000:Nat)):=aq (fy (y.elim (λh=>aq (aK h.symm) (aq (i6 b (2*f)) (aK x.symm))) (λh=>aq (gn (wi h.2) (z.symm.trans G.symm)) (aq (aq (LI f Nat.two_pos) (bL _ b)) (aK x.symm)))) a) u
theorem FY{a b c d:Nat}(z:((a+b)=(c-d)))(x:((((d+a):Nat):Int)=((d:Nat):Int))):(a=(0:Nat)):=Nat.add_left_cancel (k:=0) (sW x)
theorem P9{a:Prop}{b c d:Nat}(z:(b<=c))(x:(d=(0:Nat)))(u:(b≠c))(O:((d+(0:Nat))=(c-b))):a:=absurd (ny z (LN (O.symm.trans x))) u
theorem Qa{a b c d:Nat}(z:(b=(((2:Nat)*c)+d)))(x:((a+b)<=(90000:Nat))):(a<=(90000:Nat)):=aq (bL _ _) x
theorem Qc{a b:Nat}(z:(((a:Nat):Int)=((b:Nat):Int))):(a=b):=sW z
theorem Qd{a b c d:Nat}(z:((b+a)=(c-d)))(x:(b=(0:Nat)))(u:(d=c)):(a=(0:Nat)):=by subst x u;exact(i9 a).symm.trans (z.trans (iP _))
theorem Qe{a b c d:Nat}(z:(a<=c))(x:((b+d)=(c-a))):((a+b)<=c):=aq (fy (bL b d) a) (aK ((congrArg (a+·) x).trans (nk z)))
theorem Qf{a:Prop}{b c d:Nat}(z:(b<=c))(x:((b+d)≠c))(u:((d+(0:Nat))=(c-b))):a:=(x ((congrArg (b+·) u).trans (nk z))).elim
theorem Qg{a b c d e f g h i:Nat}(q:(b=(((2:Nat)*c)+d)))(v:((a+b)<=(90000:Nat)))(u:((e+f)=(g-h)))(O:(c=(e+i)))(y:(¬((((h+e):Nat):Int)=((h:Nat):Int)))):((a+(1:Nat))<=(90000:Nat)):=aq (fy (aq (L4 λz=>y (congrArg (λx=>((h+x:Nat):Int)) z)) (aq (aq (bL e i) (aK O.symm)) (aq (LI c Nat.two_pos) (aq (bL _ d) (aK q.symm))))) a) v
theorem Qh{a b c d:Nat}(z:((b+d)=(c-a)))(x:((((a+b):Nat):Int)=((c:Nat):Int))):((a+b)=c):=sW x
theorem Qi{a b c d:Nat}(z:((b+a)=(c-d)))(x:((d+b)=c)):(a=(0:Nat)):=by subst x;exact Nat.add_left_cancel (k:=0) (z.trans (jN _ _))
theorem Qj{a b c d:Nat}(z:(d=c))(x:((a+b)<=d))(u:((a+b)≠d)):((a+b)<c):=gn (Nat.lt_of_le_of_ne x u) z
theorem Qk{a b c d:Nat}(z:(a=d))(x:((b+c)<d)):((-((a:Nat):Int))<=(((b+c):Nat):Int)):=dD (z0 (dZ a)) (dZ _)
theorem Ql{a b c d:Nat}(z:(c=d))(x:((a+b)<d)):((((a+b):Nat):Int)<((c:Nat):Int)):=oA.mpr (gn x z.symm)
theorem Qm{a b c:Nat}(z:(a<=(20000:Nat)))(x:(b=(16777216:Nat)))(u:(a=c)):(a<=b):=aq z (aq (aB rfl) (aK x.symm))
theorem Qn{a b c d:Nat}(z:(a=d))(x:((b+c)<d)):((a-(b+(c+(1:Nat))))<(a-(b+c))):=om (z▸x) (gp _)
theorem Qo{a b c d:Nat}(z:(c=d))(x:((a+b)<d)):((a+(b+(1:Nat)))<=c):=gn x z.symm
theorem FZ{a b c d e:Nat}(y:(c<=d))(x:(d=e))(u:(b=(d-c)))(O:((c+a)≠d))(z:((c+a)<e)):(a<b):=by subst x u;exact Nat.lt_sub_of_add_lt (iw c a▸z)
theorem Qp{a b c d e:Nat}(y:(c<=d))(x:(d=e))(u:(b=(d-c)))(O:((c+a)≠d))(z:((c+a)<e)):((min a b)=a):=i0 (jR (FZ y x u O z))
theorem Qq{a b c d:Nat}(z:(c=d))(x:((((a+b):Nat):Int)=((c:Nat):Int))):((a+b)=c):=sW x
theorem Qs{a b c d e:Nat}(z:(c=d))(x:(a=(c-e)))(u:((e+b)=c)):(a<=b):=aK (x.trans ((congrArg (· -e) u.symm).trans (jN _ _)))
theorem Qt{a b c d:Nat}(z:(a=d))(x:((b+c)=a)):((a-b)=c):=(congrArg (· -b) x.symm).trans (jN _ _)
theorem Qu{a b c:Nat}(z:(a<=(100000:Nat)))(x:(c=a)):((a+(b*(0:Nat)))<=(16777216:Nat)):=aq z (aB rfl)
theorem Qv{a b:Nat}(z:(b=((5:Nat)+a))):(((5:Nat)+a)=b):=ny (aK z.symm) (aK z)
theorem Qw{a:Nat}(z:(a<=(90000:Nat))):(a<=(100000:Nat)):=aq z (aB rfl)
theorem Qx{a b c:Nat}(z:(a=((5:Nat)+b)))(x:(c=a)):((5:Nat)<=a):=aq (bL _ _) (aK z.symm)
theorem Qy{a b c:Nat}(z:(b=((5:Nat)+a)))(x:(c=b)):(a<=(b-(5:Nat))):=aK ((congrArg (· -5) z).trans (jN _ _)).symm
theorem Qz{a b:Nat}(z:(a=((5:Nat)+b))):(((a-(5:Nat))-b)=(0:Nat)):=by subst z;rw[jN,iP]
theorem QA{a b:Nat}(z:(b<=(30001:Nat)))(x:(a<=b)):(a<=(100000:Nat)):=aq (x) (aq z (aB rfl))
theorem QB{a:Nat}(z:(a<=(30001:Nat))):(((0:Nat)+(((2:Nat)*a)+(0:Nat)))<=(90000:Nat)):=aq (aK (i9 _)) (aq (iN 2 z) (aB rfl))
theorem QC{a:Nat}(z:(a<=(30001:Nat))):(((0:Nat)+(((2:Nat)*a)+(1:Nat)))<=(90000:Nat)):=aq (aK (i9 _)) (aq (d9 (iN 2 z)) (aB rfl))
theorem QD{a:Nat}(z:(a=(5:Nat))):(a<=(5:Nat)):=aK z
theorem QE{a b:Nat}(z:(a=b))(x:(a<=(10000:Nat))):((((0:Nat)+(a-(0:Nat)))+(0:Nat))<=(10000:Nat)):=aq (aK (i9 a)) x
theorem QF{a:Nat}(z:(((65:Nat)<=a)/\(a<=(90:Nat)))):(¬(a<(65:Nat))):=nC.mpr z.1
theorem QG{a:Nat}(z:(((65:Nat)<=a)/\(a<=(90:Nat)))):(¬((90:Nat)<a)):=nC.mpr z.2
theorem QH{a:Nat}(z:(((65:Nat)<=a)/\(a<=(90:Nat)))):((aZ (((a:Nat):Int)+(32:Int)))=(a+(32:Nat))):=rfl
theorem QI{a:Nat}(z:(((65:Nat)<=a)/\(a<=(90:Nat))))(x:((aZ (((a:Nat):Int)+(32:Int)))=(a+(32:Nat)))):((0:Int)<=(((a:Nat):Int)+(32:Int))):=dZ (a+32)
theorem QJ{a:Nat}(z:(((65:Nat)<=a)/\(a<=(90:Nat))))(x:((aZ (((a:Nat):Int)+(32:Int)))=(a+(32:Nat)))):((((a:Nat):Int)+(32:Int))<=(1114111:Int)):=dD (eO.mpr (ir z.2 32)) (by decide)
theorem QK{a:Nat}(z:(¬(((65:Nat)<=a)/\(a<=(90:Nat)))))(x:(¬(a<(65:Nat)))):((90:Nat)<a):=wm λh=>z ⟨kL x,h⟩
theorem QM{a b:Nat}(z:(b<=(100000:Nat)))(x:(a<=b))(u:(b<=a)):(a<=(100000:Nat)):=aq (x) z
theorem QN{a b:Nat}(z:(a<=(100000:Nat)))(x:(b=(a-(0:Nat))))(u:((0:Nat)<a)):((a-((0:Nat)+(1:Nat)))<b):=gn (Nat.sub_lt u Nat.one_pos) x.symm
theorem QO{a b c:Nat}(z:(c=(a-b)))(x:(b<a)):((a-(b+(1:Nat)))<c):=gn (om x (gp b)) z.symm
theorem QR{a b c:Nat}(z:(b<=(100000:Nat)))(x:(c<b))(u:(a<=c)):((a+(0:Nat))<=(16777216:Nat)):=aq (aq u (jR x)) (aq z (aB rfl))
theorem QS{a:Nat}(z:(a<=(100000:Nat))):(a<=(16777216:Nat)):=aq z (aB rfl)
theorem QT{a b:Int}(z:(a<b)):((a<=((a+b)/(2:Int)))/\(((a+b)/(2:Int))<b)):=⟨Int.le_ediv_of_mul_le (by decide) (dD (wF (m2 a)) (Int.add_le_add_left (lY z) a)),Int.ediv_lt_of_lt_mul (by decide) (sO (Int.add_lt_add_right z b) (wF (m2 b).symm))⟩
theorem F0{a b:Int}(z:((0:Int)<=b))(x:(b<=a)):((0:Int)<=(a+(1:Int))):=dD (dD z x) (lY (Int.lt_succ a))
theorem QU{a b:Int}(z:(a<b)):((a+(1:Int))<=b):=z
theorem QV{a b c d:Int}(z:(a<=d))(x:(((d+(1:Int))<=b)/\(b<=c))):((a<=b)/\(b<=c)):=⟨dD z (dD (lY (Int.lt_succ d)) x.1),x.2⟩
theorem QW{a b c d:Int}(z:(d<c))(x:((a<=b)/\(b<=d))):((a<=b)/\(b<=c)):=⟨x.1,dD x.2 (lY z)⟩
theorem QX{a:Int}(z:((0:Int)<=a))(x:(a<=(1000:Int))):((Int.natAbs a)<((2:Nat)^((9:Nat)+(1:Nat)))):=fP ((eO (n:=1000)).mp (dD (wF (Int.natAbs_of_nonneg z)) x)) (aB rfl)
theorem QY:(¬(((0:Nat)+(150:Nat))<(0:Nat))):=Ab _
theorem QZ{a:Nat}:(¬((((a/(30:Nat))+(1:Nat))+(150:Nat))<(0:Nat))):=Ab _
theorem Q0{a:Nat}(z:(a<=(9:Nat))):(¬(((0:Nat)+(150:Nat))<((a/(30:Nat))+(1:Nat)))):=nC.mpr (aq (d9 (aq (Nat.div_le_self a 30) z)) (aB rfl))
theorem Q2{a b:Nat}(z:(b<=(9:Nat))):(¬((((a/(30:Nat))+(1:Nat))+(150:Nat))<((b/(30:Nat))+(1:Nat)))):=nC.mpr (aq (d9 (aq (Nat.div_le_self b 30) z)) (aq (aB rfl) (i6 150 _)))
theorem Q3{a:Prop}{b c:Int}(z:(b<c))(x:((aZ (c-b))<=(0:Nat))):a:=absurd (wD.mp x) (Int.not_le.mpr (Int.sub_pos_of_lt z))
theorem Q4{a b:Int}(z:((0:Int)<=a))(x:(a<b)):((0:Int)<=(a+b)):=Int.add_nonneg z (dD z (lY x))
theorem Q5{a b:Int}(z:(b<=(43:Int)))(x:(a<b)):((a+b)<=(1000:Int)):=dD (Int.add_le_add (dD (lY x) z) z) (by decide)
theorem Q6{a b:Int}(z:((0:Int)<=b))(x:(b<=a)):((0:Int)<=a):=dD z x
theorem Q7{a b c:Int}(z:((0:Int)<=b))(x:(c<=(43:Int)))(u:(b<c))(O:(a<c)):(a<(43:Int)):=sO O x
theorem Q8{a b:Int}{c:Nat}{d:Int}(z:(d<a))(x:(d<=b))(u:((aZ (a-d))<=(c+(1:Nat)))):((aZ (a-(b+(1:Int))))<=c):=wD.mpr (ahs (dD (aht (wD.mp u)) (dD (Int.add_le_add_left x _) (wF ((Int.add_assoc c 1 b).trans (congrArg ((c:Int)+·) (Fg 1 b)))))))
theorem Q9{a b c:Int}(z:((0:Int)<=b))(x:(c<=(43:Int)))(u:(b<c))(O:(a<c)):(a<=(43:Int)):=dD (lY O) x
theorem Ra{a b:Int}{c:Nat}{d:Int}(z:(b<d))(x:(a<d))(u:((aZ (d-b))<=(c+(1:Nat)))):((aZ (a-b))<=c):=wD.mpr (ahs (Int.le_of_lt_add_one (sO x (dD (aht (wD.mp u)) (wF (Int.add_right_comm c 1 b))))))
theorem Rb{a:Int}(z:(((0:Int)<=a)/\(a<=(43:Int))))(x:(¬(a=(43:Int)))):(a<(43:Int)):=Int.lt_iff_le_and_ne.mpr ⟨z.2,x⟩
theorem Rc{a b:Nat}{c:Prop}(z:((a<=b)/\c)):(a<=b):=z.1
theorem Rd{a b:Nat}(z:(b<=a)):(¬((a+(1:Nat))<=b)):=wH.mpr (z6 z)
theorem Rf{a b:Nat}(z:(b<a)):((0:Int)<(((a:Nat):Int)-((b:Nat):Int))):=Int.sub_pos_of_lt (oA.mpr z)
theorem Rg{a:Int}{b:Nat}:(((a+((b:Nat):Int))+(1:Int))=(a+(((b+(1:Nat)):Nat):Int))):=Int.add_assoc a b 1
theorem Rh{a b:Nat}:(((((a:Nat):Int)-((b:Nat):Int))-(1:Int))=(((a:Nat):Int)-(((b+(1:Nat)):Nat):Int))):=Int.sub_sub a b 1
theorem Ri{a b:Nat}(z:(¬(b<a))):((((a:Nat):Int)-((b:Nat):Int))<=(0:Int)):=LS (eO.mpr (kL z))
theorem F4{a:Int}(z:((-1000000000:Int)<=a))(x:(a<=(1000000000:Int))):((-((2:Int)^(62:Nat)))<=a):=dD (by decide) z
theorem F5{a:Int}(z:((-1000000000:Int)<=a))(x:(a<=(1000000000:Int))):(a<((2:Int)^(62:Nat))):=E0 x (by decide)
theorem Rj{a b:Int}(z:(b<a)):((a-b)=(((aZ (a-b)):Nat):Int)):=(Int.toNat_of_nonneg (Int.sub_nonneg_of_le (lY z))).symm
theorem Rk{a b:Int}(z:(¬(b<a))):((0:Int)=(((aZ (a-b)):Nat):Int)):=(congrArg Int.ofNat (Int.toNat_eq_zero.mpr (LS (nD.mp z)))).symm
theorem Rl{a:Int}:((a+(((0:Nat):Nat):Int))=a):=Int.add_zero a
theorem Rm{a b:Int}:(((((aZ (a-b)):Nat):Int)-(((0:Nat):Nat):Int))=(((aZ (a-b)):Nat):Int)):=Int.sub_zero _
theorem Rn{a:Nat}:(((1:Int)+((a:Nat):Int))=(((a+(1:Nat)):Nat):Int)):=Fg 1 a
theorem Ro{a b c:Nat}(z:((c+b)=a))(x:(b<a)):((a-b)=((a-(b+(1:Nat)))+(1:Nat))):=(qm (wi x)).symm
theorem Rq{a b c d:Nat}(z:((d+b)=a))(x:(b<a))(u:((a-b)=(c+(1:Nat)))):((a-(b+(1:Nat)))=c):=(Nat.sub_add_eq a b 1).trans (congrArg (· -1) u)
theorem Rr{a b c:Nat}(z:((c+b)=a))(x:(¬(b<a))):((a-b)=(0:Nat)):=wc (kL x)
theorem Rt:((-1000000000:Int)<=(1:Int)):=by decide
theorem Ru:((1:Int)<=(1000000000:Int)):=by decide
theorem Rv{a:Nat}(z:(a<=(100000:Nat))):((-1000000000:Int)<=(((a:Nat):Int)+(1:Int))):=dD (by decide) (dZ (a+1))
theorem Rw{a:Nat}(z:(a<=(100000:Nat))):((((a:Nat):Int)+(1:Int))<=(1000000000:Int)):=dD (Int.add_le_add_right (eO.mpr z) 1) (by decide)
theorem Rx{a:Nat}(z:(a<=(100000:Nat))):((aZ ((((a:Nat):Int)+(1:Int))-(1:Int)))=a):=congrArg aZ (Mb a 1)
theorem Ry{a:Nat}:((a+(0:Nat))=a):=rfl
theorem Rz{a:Nat}(z:((4:Nat)<=a)):(a=((a-(1:Nat))+(1:Nat))):=(qm (aq (aB rfl) z)).symm
theorem RU{a:Nat}(z:((4:Nat)<=(a+(1:Nat)))):((3:Nat)<=a):=lT z
theorem RV{a:Prop}{b:Nat}(z:(b<(2:Nat)))(x:((2:Nat)<=b)):a:=absurd x (wH.mpr z)
theorem RW{a:Prop}{b:Nat}(z:((9:Nat)<b))(x:(b<=(9:Nat))):a:=absurd x (wH.mpr z)
theorem RX{a b c:Nat}(z:(a<=(100:Nat)))(x:(b=a))(u:(c=a)):(a<=(100000:Nat)):=aq z (aB rfl)
theorem RY{a:Nat}(z:(((2:Nat)<=a)/\(a<=(9:Nat)))):(a<=(16777216:Nat)):=aq (z.2) (aB rfl)
theorem RZ{a b:Nat}(z:(a<=(100000:Nat)))(x:(b<=(100000:Nat))):((a+b)<=(16777216:Nat)):=aq (fZ z x) (aB rfl)
theorem R8{a:Nat}(z:((7:Nat)<=a)):(a=((a-(2:Nat))+(2:Nat))):=(qm (aq (aB rfl) z)).symm
theorem R9{a:Nat}(z:((7:Nat)<=(a+(2:Nat)))):((5:Nat)<=a):=lT (lT z)
theorem Sb{a b:Nat}(z:(a<=(1000:Nat)))(x:(a=b)):(a<=(16777216:Nat)):=aq z (aB rfl)
theorem w1{a b c:Nat}(h:a+c=b):a+1<=20*((b-c)+1):=by
 subst h
 rw[Nat.add_sub_cancel]
 exact LI _ (by decide)
theorem w2{a b c:Nat}(z:b<=a)(x:c<=b):20*((a-b)+1)+20*(b-c)<=20*((a+1)-c):=aK ((Nat.mul_add 20 _ _).symm.trans (congrArg (20*·) ((ou _ _ _).trans ((congrArg (· +1) (Nat.sub_add_sub_cancel z x)).trans (Nat.sub_add_comm (aq x z)).symm))))
theorem w4{a b c d:Nat}(z:a<=d-c)(x:d<=b)(u:c<=d):a+1<=b+1-c:=aq (d9 z) (aq (aK (Nat.sub_add_comm (m:=1) u).symm) (EU (d9 x) c))
theorem w3{a b c d e:Nat}(z:a<=2)(x:b<=2*(e-d))(u:e<=c)(O:d<=e):a+b<=2*((c+1)-d):=aq (fZ z x) (aq (aK (iw 2 _)) (iN 2 (w4 (aH _) u O)))
theorem w5{m p:Nat}(h:m<=600):m-(p+1)<=599:=aq (EU h _) (Nat.sub_le_sub_left (i6 1 p) 600)
theorem w6{a b t r:Nat}(z:a<=50000)(x:b<=20*((t-r)+1))(u:t<=599):a+b<=100000:=fZ (b:=50000) (d:=50000) z (aq x (aq (iN 20 (d9 (aq (jy t r) u))) (aB rfl)))
theorem w7{m r N p t:Nat}(z:m-p=N)(x:p<m)(u:t=m-(p+1))(O:r<=t):m-(m-r)<N:=by
 subst z u
 rw[Mj (aq O (jy _ _))]
 exact fP O (om x (gp p))
theorem w8{a b:Nat}(z:a<=50000)(x:b<=2):a+b<=16777216:=aq (fZ z x) (aB rfl)
theorem w9{p t r m:Nat}(z:p<m)(x:t=m-(p+1))(u:r<=t):(((p+1:Nat):Int)+((t:Int)-(r:Int)))=((m-r:Nat):Int):=by
 rw[<-Int.ofNat_sub u,<-Fb,<-Nat.add_sub_assoc u,x,nk z]
theorem Sd{m t p:Nat}(z:p<m)(x:t=m-(p+1)):m-t=p+1:=by
 subst x
 exact Mj z
theorem F6{a:Nat}(h:a<=50000):a+0+1<=16777216:=aq (d9 h) (aB rfl)
theorem F7{a:Nat}(h:a<=5000):5000+a+0<=16777216:=aq (fy h 5000) (aB rfl)
theorem Av{a b:Nat}(z:a<=100000)(x:200000<=b):a+1<=b:=aq (d9 z) (aq (aB rfl) x)
theorem F8{a b:Nat}(z:200000<=b)(x:a<=599):1+a<=b:=aq (fy x 1) (aq (aB rfl) z)
theorem F9{a b c:Nat}(z:a<=100000)(x:200000<=c)(u:b<=599):a+(b+1)<=c:=aq (fZ z (d9 u)) (aq (aB rfl) x)
theorem Se{a b c:Nat}(h:a+c=b):a<b+1:=z6 (h▸bL a c)
theorem Aw{a b:Nat}(h:b+0=a):0<a+1-b:=wi (z6 (aK h))
theorem Ax{a b:Nat}(h:b+0=a):0=a+1-(b+1):=by
 subst h
 exact(iP _).symm
theorem Sf{a b c:Nat}(z:b<=5000)(x:a+c=b):a<=5000:=aq (x▸bL a c) z
theorem Sg{a b c d e:Nat}(z:b+c<=100000)(x:a=b+d)(u:d+e=c):a<=100000:=by
 subst x u
 exact aq (fy (bL d e) b) z
theorem Sh{a b c:Nat}(h:b+(c+1)=a):a+1-(b+1)<a+1-b:=om (z6 (h▸bL b _)) (gp b)
theorem Si{n:Nat}:(-1000000000:Int)<=(n:Int)+1:=dD (by decide) (dZ (n+1))
theorem Sj{n:Nat}(h:n<=100000):(n:Int)+1<=1000000000:=dD (Int.add_le_add_right (eO.mpr h) 1) (by decide)
theorem Sk{a m r:Nat}(h:a<=20*(m-r))(x:m<=600):a<=50000:=aq h (aq (iN 20 (aq (jy m r) x)) (aB rfl))
theorem Sl{a m r:Nat}(h:a<=2*(m-r))(x:m<=600):a<=50000:=aq h (aq (iN 2 (aq (jy m r) x)) (aB rfl))
theorem Ga{a b c d:Nat}(z:b<=10000)(x:c<b)(u:a=d)(O:d<=c):a+0<=16777216:=aq (aK u) (aq O (aq (jR x) (aq z (aB rfl))))
theorem Sm{P:Prop}{a b:Nat}(h:a<b)(e:a=b+1):P:=absurd (fP (aK e.symm) h) (nC.mpr (eg b))
theorem Sn{a b:Nat}(x:b<=a)(h:a-b<1):a=b:=ny (Nat.sub_eq_zero_iff_le.mp (Nat.lt_one_iff.mp h)) x
theorem So{a b:Nat}(z:b<=10000)(x:a=b):a+0<=16777216:=aq (aK x) (aq z (aB rfl))
theorem Gb{a:Nat}(h:a<=5000):a<=10000:=aq h (aB rfl)
theorem Sp{a b:Nat}(h:b<=5000)(e:a=b+1):a<=10000:=aq (aK e) (aq (d9 h) (aB rfl))
theorem Gd{a:Nat}(h:a<=5000):a+0+1<=16777216:=aq (d9 h) (aB rfl)
theorem Ge{a c:Nat}(h:a<=1000)(x:200000<=c):a<=c:=aq h (aq (aB rfl) x)
theorem Sq{a b:Nat}(h:a<=48):2+20*(a-b)<=1000:=aq (fy (iN 20 (aq (jy a b) h)) 2) (aB rfl)
theorem Ss{a b c:Nat}(h:b<=48)(x:a<=2*(b-c)):a<=5000:=aq x (aq (iN 2 (aq (jy b c) h)) (aB rfl))
theorem Su{a b c:Nat}(h:b<=48)(x:a<=b-c):a<=100000:=aq x (aq (jy b c) (aq h (aB rfl)))
theorem Sv{a b:Nat}(h:a=b)(u:b<=9):a-1<=8:=EU (aq (aK h) u) 1
theorem Sw{i:Int}{n:Nat}(z:n<=1000)(x:i<n):i<=1000:=lY (sO x (eO.mpr z))
theorem Gf{a b c:Nat}(h:b<=48)(e:c=b)(u:a<=c):a+(a+1)*1<=16777216:=q2 (aq u (aq (aK e) (aq h (aB rfl))))
theorem Sx{a b c:Nat}(h:a<=6)(p:b<=6*c):a+b<=6*(c+1):=aq (fZ h p) (aK (iw 6 _))
theorem Sy{a b c:Nat}(e:c=b)(h:a<c):a≠b:=λq=>Ae a (gn h (e.trans q.symm))
theorem Sz{a b c:Nat}(h:b<=8)(x:c<b)(u:a<=c):a+0<=16777216:=aq u (aq (jR x) (aq h (aB rfl)))
theorem SA{a b c:Nat}(Y:b<=60)(x:a=300)(u:c=1000):1+a+1+b<c:=by
 subst x u
 exact fP (fy Y _) (aB rfl)
theorem SD{a b:Nat}(Y:a<=60)(h:b=9900):4+3+8*a+40<b:=by
 subst h
 exact fP (ir (fy (iN 8 Y) 7) 40) (aB rfl)
end Om
namespace Ex
section
noncomputable def eK (e:Expr):List Expr:=match e with
 |.IfExp t b o _=>[t,b,o]
 |.Subscript o i _=>[o,i]
 |.BinOp l _ r _=>[l,r]
 |.Compare l _ y _=>l::y
 |.Call f as _ _=>f::as
 |.Tuple z _ _=>z
 |.List z _=>z
 |.BoolOp _ z _=>z
 |.Attribute o _ _=>[o]
 |.Slice a b _ _=>a.toList++b.toList
 |.ListComp e x _ _=>e::x.flatMap λg=>[g.target,g.iter]
 |_=>[]
noncomputable def eU (e:Expr) (i:Nat):Expr:=(eK e).getD i e
noncomputable def SE:Expr:=.Constant .none 0 ⟨0,0,0,0⟩
noncomputable def sK (s:Stmt):List Expr:=match s with
 |.Assign L e _=>e::L
 |.Return o _=>o.toList
 |.If t _ _ _=>[t]
 |.Expr e _=>[e]
 |.While t _ _ _=>[t]
 |.Raise o _ _=>o.toList
 |.For t i _ _ _=>[t,i]
 |_=>[]
noncomputable def jT (s:Stmt) (i:Nat):Expr:=(sK s).getD i SE
noncomputable def sB (s:Stmt):List (List Stmt):=match s with
 |.If _ b o _=>[b,o]
 |.While _ b _ _=>[b]
 |.For _ _ b _ _=>[b]
 |.Try b _ _ _ _=>[b]
 |_=>[]
noncomputable def jU (s:Stmt) (i:Nat):List Stmt:=(sB s).getD i []
set_option genSizeOf false
set_option genInjectivity false
set_option genCtorIdx true in
inductive Tm where
 |e
 |n (k:Nat) (l:List Nat) (a b:Tm)
set_option genCtorIdx true in
inductive SV where
 |none
 |bool (b:Bool)
 |int (i:Int)
 |str (s:Str)
 |obj (i:Nat)
 |val (v:Value)
 |sb (b:Bool)
 |si (i:Int)
 |ss (s:Str)
 |tm (t:Tm)
 |im (k:Nat) (t:Tm)
 |bm (k:Nat) (l:List Nat) (a b:Tm)
structure Ev where
 v:Nat->List Nat
 c:Nat->Nat
 f:Nat->List Nat->List Nat
 i:Nat->List Nat->Int
 p:Nat->List Nat->Bool
 q:Nat->List Str
structure f5 (η:Ev):Prop where
 v:∀i,(η.v i).length<=1000
 f:∀k l,(η.f k l).length<=l.length+1000
 pv:∀i,∀c∈η.v i,c<0x110000
 il:∀l,η.i 2 l=l.length
 pc:∀i,η.c i<0x110000
 qz:∀k,(η.q k).length<=5000
 pf:∀k l,(∀c∈l,c<0x110000)->∀c∈η.f k l,c<0x110000
noncomputable def aL (x:Nat):List Nat->Bool:=bE aj λk z p=>@az (λz=>Bool) p ai (aQ x k)
noncomputable abbrev lit (l:List Nat):Tm:=.n 0 l .e .e
noncomputable abbrev tv (i:Nat):Tm:=.n 1 [i] .e .e
noncomputable abbrev s9 (t:Tm):Tm:=.n 3 [] t .e
noncomputable abbrev tg (t:Tm):Tm:=.n 4 [] t .e
noncomputable abbrev cat (a b:Tm):Tm:=.n 5 [] a b
noncomputable abbrev SG (S:List Nat) (t:Tm):Tm:=.n 6 S t .e
noncomputable abbrev SH (S:List Nat) (t:Tm):Tm:=.n 7 S t .e
noncomputable abbrev Gg (S:List Nat) (t:Tm):Tm:=.n 8 S t .e
noncomputable abbrev SI (S:List Nat) (t:Tm):Tm:=.n 9 S t .e
noncomputable def qy (z:Ev) (k:Nat) (l a b:List Nat):List Nat:=match k with
 |0=>l
 |1=>z.v (l.headD 0)
 |2=>[z.c (l.headD 0)]
 |3=>a.take 1
 |4=>a.drop 1
 |5=>a++b
 |6=>a.takeWhile (aL · l)
 |7=>a.takeWhile (!aL · l)
 |8=>a.dropWhile (aL · l)
 |9=>a.dropWhile (!aL · l)
 |k=>z.f k a
noncomputable def Tm.ev (z:Ev):Tm->List Nat
 |.e=>[]
 |.n k l a b=>qy z k l (a.ev z) (b.ev z)
noncomputable def Tm.bd:Tm->Nat:=Tm.rec 0 λk l z z a b=>match k with
 |0=>l.length
 |1=>1000
 |2=>1
 |3=>1
 |5=>a+b
 |4=>a
 |6=>a
 |7=>a
 |8=>a
 |9=>a
 |_=>a+1000
theorem Tm.oH{y:Ev}(h:f5 y):∀t:Tm,(t.ev y).length<=t.bd:=λt=>by
 induction t with
 |e=>exact aH _
 |n k l a b x z=>
  have v:∀(p:Nat->Bool) (l:List Nat),(l.takeWhile p).length<=l.length:=λp l=>(qj p).length_le
  have u:∀(p:Nat->Bool) (l:List Nat),(l.dropWhile p).length<=l.length:=λp l=>(EP p).length_le
  match k with
  |0=>exact aH _
  |1=>exact h.v _
  |2=>exact aH _
  |3=>exact ql _ _
  |4=>exact aq (Mh 1 _).length_le x
  |5=>exact aq (aK bK) (fZ x z)
  |6=>exact aq (v _ _) x
  |7=>exact aq (v _ _) x
  |8=>exact aq (u _ _) x
  |9=>exact aq (u _ _) x
  |_+10=>exact aq (h.f _ _) (ir x _)
noncomputable def cF (z:Ev) (k:Nat) (l a b:List Nat):Bool:=match k with
 |0=>!a.isEmpty
 |1=>match a with
  |[c]=>aL c l
  |_=>aj
 |2=>decide (a=b)
 |k=>z.p k a
structure bQ where
 d:Option Tm
 r:Tm
 un:Option Tm
set_option genCtorIdx true in
inductive fR where
 |strm (s:bQ)
 |other (n:Nat)
set_option genCtorIdx true in
inductive eW where
 |gv (n:Nat)
 |txt (s:List Nat) (k:Nat)
 |vals (us:List Value)
 |ints (ns:List Int)
 |dO (cs:List Nat)
 |strs (H:List Str)
set_option genCtorIdx true in
inductive SO where
 |inst (C:Addr) (fs:List (Str×SV))
 |dict (fs:List (Str×SV))
 |bz (fs:List (Tm×SV))
 |list (p:Option eW) (U:List SV)
 |tup (U:List SV)
 |aI (f:Addr) (self:SV)
 |blob (b:fR)
 |cell (x:Option SV)
 |eu (fs:List (Tm×SV))
 |aJ (n k:Nat) (ms:List Str) (U:List SV)
 |cz (f:Str)
 |gone
noncomputable def seq (a b:Str):Bool:=PySem.W.Fast.sEq a b
theorem b9{a b:Str}:seq a b=ai↔a=b:=PySem.W.Fast.sEq_iff
theorem kQ(a b:Str):(a==b)=seq a b:=by rw[lX,beq_iff_eq,b9]
theorem tn{a b:Str}(h:a≠b):seq a b=false:=z7.mpr λe=>h (b9.mp e)
variable{V:Type}
noncomputable def lk (n:Str):List (Str×V)->Option V:=bE ah λp z y=>@Prod.rec Str V (λz=>Option V) (λk v=>@az (λz=>Option V) y (aa v) (seq n k)) p
theorem bW(x k:Str)(w:V)(r:List (Str×V)):lk x ((k,w)::r)=if x=k then aa w else lk x r:=by
 show@az (λz=>Option V) (lk x r) (aa w) (seq x k)=_
 by_cases e:x=k
 ·rw[if_pos e,b9.mpr e]
 ·rw[if_neg e,tn e]
theorem Gi(n:Str):∀l:List (Str×V),lk n l=l.lookup n:=bE rfl λp r y=>by
 rw[Mp,kQ]
 show@az (λz=>Option V) (lk n r) (aa p.2) (seq n p.1)=_
 cases seq n p.1
 ·exact y
 ·rfl
theorem fz{a:Str}{v:V}:∀{l:List (Str×V)},lk a l=aa v->(a,v)∈l:=@λl=>bE (λh=>by cases h) (λp r z h=>by
 obtain⟨k,u⟩:=p
 rw[bW] at h
 by_cases e:a=k
 ·rw[if_pos e] at h;cases h;rw[e];exact .head _
 ·rw[if_neg e] at h;exact .tail _ (z h)) l
noncomputable def aU (a:Nat):List (Nat×V)->Option V:=bE ah λp z y=>@Prod.rec Nat V (λz=>Option V) (λk v=>@az (λz=>Option V) y (aa v) (aQ a k)) p
theorem gw{a:Nat}{v:V}:∀{l:List (Nat×V)},aU a l=aa v->(a,v)∈l:=@λl=>bE (λh=>by cases h) (λp r y h=>by
 obtain⟨k,u⟩:=p
 have h':@az (λz=>Option V) (aU a r) (aa u) (aQ a k)=aa v:=h
 cases e:aQ a k with
 |true=>rw[e] at h';cases h';rw[bJ e];exact .head _
 |false=>rw[e] at h';exact .tail _ (y h')) l
noncomputable def has (n:Str):List Str->Bool:=bE aj λk z p=>@az (λz=>Bool) p ai (seq n k)
theorem oJ{a:Str}:∀{l:List Str},has a l=ai↔a∈l:=@λl=>bE ⟨λh=>(by cases h),λh=>(by cases h)⟩ (λk r p=>by
 show@az (λz=>Bool) (has a r) ai (seq a k)=ai↔_
 rw[b7,<-b9,<-p]
 cases seq a k<;>simp) l
noncomputable def at? (l:List V):Nat->Option V:=bE (λz=>ah) (λa z p i=>@eT (λz=>Option V) (aa a) (λj z=>p j) i) l
theorem qA:∀(l:List V) (i:Nat),at? l i=l[i]? :=λl=>bE (λz=>rfl) (λa r p i=>by cases i with|zero=>rfl|succ i=>exact p i) l
noncomputable def aX (l:List V) (i:Nat) (x:V):List V:=@bE V (λz=>Nat->List V) (λz=>[]) (λa r p i=>@eT (λz=>List V) (x::r) (λj z=>a::p j) i) l i
noncomputable def snoc (l:List V) (x:V):List V:=bE [x] (λa z p=>a::p) l
theorem iy(l:List V)(x:V):snoc l x=l++[x]:=bE rfl (λa r p=>congrArg (a::·) p) l
noncomputable def put (n:Str) (v:SV):List (Str×SV)->List (Str×SV):=bE [(n,v)] λp r y=>@Prod.rec Str SV (λz=>List (Str×SV)) (λk u=>@az (λz=>List (Str×SV)) ((k,u)::y) ((k,v)::r) (seq n k)) p
theorem Ay(n k:Str)(x y:SV)(v:List (Str×SV)):put n x ((k,y)::v)=if n=k then(k,x)::v else(k,y)::put n x v:=by
 show@az (λz=>List (Str×SV)) ((k,y)::put n x v) ((k,x)::v) (seq n k)=_
 by_cases e:n=k
 ·rw[if_pos e,b9.mpr e]
 ·rw[if_neg e,tn e]
structure Wd where
 prog:Program
 w:World
 K:Frag
 p:Program
 loose:List Str
 mean:ExcName->Option Value
 mg:Str->Option Value
 mb:Str->Option Value
 Az:importsNone p=ai
 bl:fR->Addr->List (Addr×Obj)->Prop
 os:OsState
 gens:Array GenState
 η:Ev
 kR:f5 η
noncomputable abbrev Wd.M (W:Wd):Model:=model W.prog W.w
noncomputable abbrev Wd.P (W:Wd):Params:=W.w.params
noncomputable def ak (l:List Nat):Str:=⟨l.toArray⟩
noncomputable def VR (W:Wd) (Y:List Addr) (x:SV) (v:Value):Prop:=match x with
 |.none=>v=.none
 |.bool b=>v=.bool b
 |.int i=>∃t,v=.int i t
 |.str x=>∃t,v=.str x t
 |.obj i=>∃a,Y[i]? =aa a/\v=.ref a
 |.val u=>v=u
 |.sb b=>v=.bool b
 |.si i=>∃t,v=.int i t
 |.ss x=>∃t,v=.str x t
 |.tm x=>∃t,v=.str (ak (x.ev W.η)) t
 |.im k x=>∃t,v=.int (W.η.i k (x.ev W.η)) t
 |.bm k l a b=>v=.bool (cF W.η k l (a.ev W.η) (b.ev W.η))
inductive Each {V G:Type} (R:V->G->Prop):List V->List G->Prop
 |nil:Each R [] []
 |cons {x y U H} (h:R x y) (t:Each R U H):Each R (x::U) (y::H)
theorem Each.ec{V G:Type}{R:V->G->Prop}{x:V}{U:List V}{motive:(H:List G)->Each R (x::U) H->Prop}(cons:∀{y H} (h:R x y) (t:Each R U H),motive (y::H) (.cons h t)){H}(h:Each R (x::U) H):motive H h:=by
 cases h with
 |cons h t=>exact cons h t
theorem Each.er{V G:Type}{R:V->G->Prop}{y:G}{H:List G}{motive:(U:List V)->Each R U (y::H)->Prop}(cons:∀{x U} (h:R x y) (t:Each R U H),motive (x::U) (.cons h t)){U}(h:Each R U (y::H)):motive U h:=by
 cases h with
 |cons h t=>exact cons h t
theorem Each.eb{V G:Type}{R:V->G->Prop}{x:V}{U:List V}{y:G}{H:List G}(h:Each R (x::U) (y::H)):R x y/\Each R U H:=by
 cases h with
 |cons h t=>exact⟨h,t⟩
theorem Each.en{V G:Type}{R:V->G->Prop}{motive:(H:List G)->Each R [] H->Prop}(nil:motive [] .nil){H}(h:Each R [] H):motive H h:=by
 cases h with
 |nil=>exact nil
noncomputable abbrev aM (W:Wd) (Y:List Addr):List SV->List Value->Prop:=Each (VR W Y)
structure KE (W:Wd) (Y:List Addr) (p:Str×SV) (q:Str×Value):Prop where
 k:q.1=p.1
 v:VR W Y p.2 q.2
noncomputable abbrev eX (W:Wd) (Y:List Addr):List (Str×SV)->List (Str×Value)->Prop:=Each (KE W Y)
structure TE (W:Wd) (Y:List Addr) (p:Tm×SV) (q:Str×Value):Prop where
 k:q.1=ak (p.1.ev W.η)
 v:VR W Y p.2 q.2
noncomputable abbrev gM (W:Wd) (Y:List Addr):List (Tm×SV)->List (Str×Value)->Prop:=Each (TE W Y)
structure FE (W:Wd) (Y:List Addr) (p:Str×SV) (e:DictEntry):Prop where
 key:∃t,e.key=.str p.1 t
 hash:e.hash=kN W.P p.1
 val:VR W Y p.2 e.val
noncomputable abbrev FR (W:Wd) (Y:List Addr):List (Str×SV)->List DictEntry->Prop:=Each (FE W Y)
noncomputable def qC (i:Int) (v:Value):Prop:=∃t,v=.int i t
noncomputable def lZ (p:eW) (z:List Value):Prop:=match p with
 |.gv n=>z.length<=n
 |.txt s k=>∃H:List Str,StrsAre z H/\H.flatMap (λy=>y.cps.toList)=s/\z.length<=k
 |.vals x=>z=x
 |.ints ns=>Each qC ns z
 |.dO cs=>StrsAre z (cs.map λc=>⟨#[c]⟩)
 |.strs H=>StrsAre z H
noncomputable def mh (p:Option eW) (z:List Value):Prop:=match p with
 |ah=>z=[]
 |some p=>lZ p z
noncomputable def mi (q:Array Value) (n:Nat):Obj:={cls:=.type "tuple",data:=.seq q n}
inductive wX (W:Wd) (Y:List Addr) (a C:Addr) (fs:List (Str×SV)) (l:List (Addr×Obj)):Prop
 |mk (dx:Addr) (es:List DictEntry) (n:Nat) (e:l=[(a,instObj C dx),(dx,dictOf es n)]) (f:FR W Y fs es)
inductive oK (I:Obj->List (Str×Value)->Prop) (R:List (Str×Value)->Prop) (a:Addr) (l:List (Addr×Obj)):Prop
 |mk (o:Obj) (kvs:List (Str×Value)) (e:l=[(a,o)]) (q:I o kvs) (f:R kvs)
noncomputable abbrev qD (W:Wd) (o:Obj) (z:List (Str×Value)):Prop:=o.IsDictOf (strKind W.prog W.w) z
inductive kT (W:Wd) (p:Option eW) (Y:List Addr) (a:Addr) (U:List SV) (l:List (Addr×Obj)):Prop
 |mk (us vs:List Value) (n:Nat) (e:l=[(a,listOf (us++vs:List Value).toArray n)]) (q:mh p us) (f:aM W Y U vs)
inductive wY (W:Wd) (Y:List Addr) (a:Addr) (U:List SV) (l:List (Addr×Obj)):Prop
 |mk (vs:List Value) (n:Nat) (e:l=[(a,mi (vs:List Value).toArray n)]) (f:aM W Y U vs)
inductive Gj (W:Wd) (Y:List Addr) (a f:Addr) (x:SV) (l:List (Addr×Obj)):Prop
 |mk (v:Value) (e:l=[(a,methodObj (.ref f) v)]) (q:VR W Y x v)
noncomputable def tu (W:Wd) (Y:List Addr) (x:Option SV) (v:Option Value):Prop:=match x with
 |ah=>v=ah
 |some x=>∃u,v=aa u/\VR W Y x u
inductive A3 (W:Wd) (Y:List Addr) (a:Addr) (x:Option SV) (l:List (Addr×Obj)):Prop
 |mk (o:Obj) (v:Option Value) (e:l=[(a,o)]) (d:o.data=.cell v) (q:tu W Y x v)
inductive Gk (I:Obj->List (Str×Value)->Prop) (R:List (Str×Value)->Prop) (a:Addr) (X l:List (Addr×Obj)):Prop
 |mk (o:Obj) (kvs:List (Str×Value)) (e:l=[]) (m:(a,o)∈X) (q:I o kvs) (f:R kvs)
noncomputable def Flt (W:Program) (w:World) (f:Str) (p:Addr×Obj):Prop:=∃z t x,p.2.IsDictOf (strKind W w) z/\valueAt z (af "type")=aa (.int 7 t)/\valueAt z (af "data")=aa (.str f x)
inductive SK (W:Wd) (a:Addr) (f:Str) (l:List (Addr×Obj)):Prop
 |mk (p:Addr×Obj) (e:l=[p]) (h:p.1=a) (q:Flt W.prog W.w f p)
noncomputable def qB (z:Ev) (k:Nat):List Str:=match k with
 |0=>[]
 |k+1=>z.q k
inductive SM (W:Wd) (Y:List Addr) (a:Addr) (n k:Nat) (ms:List Str) (U:List SV) (l:List (Addr×Obj)):Prop
 |mk (obs:List (Addr×Obj)) (vs:List Value) (z:Nat) (e:l=(a,listOf (obs.map (λp=>cy p.1)++vs:List Value).toArray z)::obs) (q:Each (Flt W.prog W.w) (qB W.η k++ms) obs) (hn:(qB W.η k).length<=n) (f:aM W Y U vs)
noncomputable def OR (W:Wd) (X:List (Addr×Obj)) (Y:List Addr) (a:Addr) (o:SO) (l:List (Addr×Obj)):Prop:=match o with
 |.inst C z=>wX W Y a C z l
 |.dict z=>oK (qD W) (eX W Y z) a l
 |.bz z=>oK (qD W) (gM W Y z) a l
 |.list p U=>kT W p Y a U l
 |.tup U=>wY W Y a U l
 |.aI f x=>Gj W Y a f x l
 |.blob b=>W.bl b a l
 |.cell x=>A3 W Y a x l
 |.eu z=>Gk (qD W) (gM W Y z) a X l
 |.aJ n k y U=>SM W Y a n k y U l
 |.cz f=>SK W a f l
 |.gone=>l=[]
noncomputable abbrev Cl:=Addr×List (Addr×Obj)
noncomputable abbrev LR (W:Wd) (X:List (Addr×Obj)) (Y:List Addr):List SO->List Cl->Prop:=Each λo q=>OR W X Y q.1 o q.2
noncomputable def flat (z:List Cl):List (Addr×Obj):=z.flatMap (·.2)
section
variable{V G:Type}{R R':V->G->Prop}{U:List V}{H:List G}
theorem Each.mono(f:∀x y,R x y->R' x y)(h:Each R U H):Each R' U H:=by
 induction h with
 |nil=>exact .nil
 |cons h _ p=>exact .cons (f _ _ h) p
theorem Each.len(h:Each R U H):U.length=H.length:=by
 induction h with
 |nil=>rfl
 |cons _ _ p=>exact congrArg (· +1) p
theorem Each.app{z:List V}{B:List G}(h:Each R U H)(q:Each R z B):Each R (U++z) (H++B):=by
 induction h with
 |nil=>exact q
 |cons h _ p=>exact .cons h p
theorem Each.one{x:V}{y:G}(h:R x y):Each R [x] [y]:=.cons h .nil
theorem Each.get(h:Each R U H){i:Nat}{x:V}(e:U[i]? =aa x):∃y,H[i]? =aa y/\R x y:=by
 induction h generalizing i with
 |nil=>cases e
 |cons h _ p=>cases i with
  |zero=>cases e;exact⟨_,rfl,h⟩
  |succ i=>exact p e
theorem Each.set(h:Each R U H)(i:Nat){x:V}{y:G}(q:R x y):Each R (aX U i x) (H.set i y):=by
 induction h generalizing i with
 |nil=>exact .nil
 |cons h t p=>cases i with
  |zero=>exact .cons q t
  |succ i=>exact .cons h (p i)
inductive SN (R:V->G->Prop) (U:List V) (H:List G) (i:Nat) (x:V):Prop
 |mk (A:List G) (y:G) (B:List G) (l:A.length=i) (e:H=A++y::B) (r:R x y) (s:∀x' y',R x' y'->Each R (aX U i x') (A++y'::B))
theorem Each.at(h:Each R U H){i:Nat}{x:V}(e:U[i]? =aa x):SN R U H i x:=by
 induction h generalizing i with
 |nil=>cases e
 |cons h t p=>cases i with
  |zero=>cases e;exact⟨[],_,_,rfl,rfl,h,λz z q=>.cons q t⟩
  |succ i=>
   obtain⟨A,y,B,l,e,r,s⟩:=p e
   exact⟨_::A,y,B,congrArg (· +1) l,congrArg _ e,r,λu v q=>.cons h (s u v q)⟩
end
section
variable{W:Wd}{Y M:List Addr}
theorem iz{i:Nat}{a:Addr}(h:Y<+:M)(e:Y[i]? =aa a):M[i]? =aa a:=by
 obtain⟨t,rfl⟩:=h
 rw[zY (dh.mp e).1];exact e
theorem VR.mono(h:Y<+:M){x:SV}{v:Value}(r:VR W Y x v):VR W M x v:=by
 cases x with
 |obj i=>exact r.imp λa r=>⟨iz h r.1,r.2⟩
 |_=>exact r
theorem aM.mono(h:Y<+:M){U:List SV}{y:List Value}(r:aM W Y U y):aM W M U y:=Each.mono (λz z q=>q.mono h) r
theorem FR.mono(h:Y<+:M){U:List (Str×SV)}{y:List DictEntry}(r:FR W Y U y):FR W M U y:=Each.mono (λz z q=>⟨q.key,q.hash,q.val.mono h⟩) r
theorem eX.mono(h:Y<+:M){U:List (Str×SV)}{y:List (Str×Value)}(r:eX W Y U y):eX W M U y:=Each.mono (λz z q=>⟨q.k,q.v.mono h⟩) r
theorem gM.mono(h:Y<+:M){U:List (Tm×SV)}{y:List (Str×Value)}(r:gM W Y U y):gM W M U y:=Each.mono (λz z q=>⟨q.k,q.v.mono h⟩) r
theorem tu.mono(h:Y<+:M){x:Option SV}{v:Option Value}(r:tu W Y x v):tu W M x v:=by
 cases x with
 |none=>exact r
 |some x=>exact r.imp λz r=>⟨r.1,r.2.mono h⟩
theorem OR.mono(h:Y<+:M){X:List (Addr×Obj)}{a:Addr}{o:SO}{l:List (Addr×Obj)}(r:OR W X Y a o l):OR W X M a o l:=by
 cases o with
 |inst C y=>obtain⟨a,b,c,d,f⟩:=r;exact⟨a,b,c,d,f.mono h⟩
 |dict y=>obtain⟨a,b,c,d,f⟩:=r;exact⟨a,b,c,d,f.mono h⟩
 |bz y=>obtain⟨a,b,c,d,f⟩:=r;exact⟨a,b,c,d,f.mono h⟩
 |list p U=>obtain⟨a,b,c,d,q,f⟩:=r;exact⟨a,b,c,d,q,f.mono h⟩
 |tup U=>obtain⟨a,b,d,f⟩:=r;exact⟨a,b,d,f.mono h⟩
 |aI f x=>obtain⟨a,b,f⟩:=r;exact⟨a,b,f.mono h⟩
 |cell x=>obtain⟨a,b,c,d,q⟩:=r;exact⟨a,b,c,d,q.mono h⟩
 |eu y=>obtain⟨a,b,c,d,q,f⟩:=r;exact⟨a,b,c,d,q,f.mono h⟩
 |aJ=>obtain⟨a,b,c,d,q,z,f⟩:=r;exact⟨a,b,c,d,q,z,f.mono h⟩
 |_=>exact r
theorem LR.mono(h:Y<+:M){X:List (Addr×Obj)}{os:List SO}{y:List Cl}(r:LR W X Y os y):LR W X M os y:=Each.mono (λz z q=>q.mono h) r
theorem Gl(k n:Str)(t:Tok):Value.isStr (.str k t) n=seq n k:=by
 show(k==n)=_
 rw[kQ,lX,b9,b9,eq_comm]
theorem SP{n k:Str}{t:Tok}{e:DictEntry}{z:List DictEntry}(h:e.key=.str k t):getL n (e::z)=if n=k then aa (aa e.val) else getL n z:=by
 have y:e.key.isStr n=seq n k:=by rw[h,Gl]
 have x:e.refKey=false:=by unfold DictEntry.refKey;rw[h]
 unfold getL
 rw[Ad,y,Fc,x,Bool.false_or]
 by_cases q:n=k
 ·rw[if_pos q,b9.mpr q]
 ·rw[if_neg q,tn q]
theorem FR.get{n:Str}{y:List (Str×SV)}{z:List DictEntry}(r:FR W Y y z):match lk n y with
 |some x=>∃v,getL n z=aa (aa v)/\VR W Y x v
 |ah=>getL n z=aa ah:=by
 induction r with
 |nil=>rfl
 |@cons p e _ _ q _ u=>
  obtain⟨t,k⟩:=q.key
  rw[SP k,show lk n (p::_)=_ from bW n p.1 p.2 _]
  by_cases h:n=p.1
  ·rw[if_pos h,if_pos h];exact⟨_,rfl,q.val⟩
  ·rw[if_neg h,if_neg h];exact u
theorem FR.put{n:Str}{x:SV}{v:Value}{t:Tok}(q:VR W Y x v){k:List (Str×SV)}{j:List DictEntry}(r:FR W Y k j):FR W Y (Ex.put n x k) (putL n (kN W.P n) (.str n t) v j):=by
 induction r with
 |nil=>exact .cons ⟨⟨t,rfl⟩,rfl,q⟩ .nil
 |@cons p e _ _ z r g=>
  obtain⟨u,y⟩:=z.key
  have O:e.key.isStr n=seq n p.1:=by rw[y,Gl]
  unfold putL
  rw[O,show Ex.put n x (p::_)=_ from Ay n p.1 x p.2 _]
  by_cases h:n=p.1
  ·rw[if_pos h,b9.mpr h];exact .cons ⟨⟨u,y⟩,z.hash,q⟩ r
  ·rw[if_neg h,tn h];exact .cons ⟨⟨u,y⟩,z.hash,z.val⟩ g
end
theorem qE{d:Addr}{o o':Obj}{D:List (Addr×Obj)}:∀{pre:List (Addr×Obj)},((pre++(d,o)::D).map aS).Nodup->Upd d o o' (pre++(d,o)::D) (pre++(d,o')::D):=@λpre=>by
 induction pre with
 |nil=>exactλh=>.head λp y e=>(ef.mp h).1 (fK.mpr ⟨p,y,e⟩)
 |cons p pre z=>exactλh=>.tail (λe=>(ef.mp h).1 (fK.mpr ⟨(d,o),by simp,e.symm⟩)) (z (ef.mp h).2)
structure Cx where
 A:Around
 A₀:Around
 base:Heap
 h₀:Heap
 outer:List Env
 env:Env
 cs:Scope
 L:Addr
 X:List (Addr×Obj)
 R:List (Addr×Obj)
structure qF (env:Env) (cs:Scope) (L:Addr):Prop where
 kind:env.scope.kind=.function
 names:env.scope.names=cs.names
 loc:env.locals=L
 eY:env.globals=mainGlobals
 bi:env.builtins=builtinsNs
structure Ok (W:Wd) (c:Cx) (n:Nat):Prop where
 XB:W.K.In c.base
 TB:Top W.p W.loose W.mean W.mg W.mb c.base
 hA:0<n->c.A.frames=aa (c.env::c.outer)/\c.env.frame=aa c.L
 hk:qF c.env c.cs c.L
 hh:c.A.handled=ah
 hd:c.A.depth+n<recursionLimit
 hu:c.A.units+8*n+40<cLine
structure A4 (W:Wd) (A₀:Around) (base:Heap) (outer:List Env) (h₀ g:Heap):Prop where
 B:Below A₀ base outer g
 X:W.K.In g
 T:Top W.p W.loose W.mean W.mg W.mb g
 D:KtsDicts (outer.filterMap (·.frame)) g
 t:KtsTurn (outer.filterMap (·.frame)) h₀ g
noncomputable abbrev Gr (W:Wd) (c:Cx) (g:Heap):Prop:=A4 W c.A₀ c.base c.outer c.h₀ g
theorem A4.tr{W:Wd}{y:Around}{base:Heap}{z:List Env}{L g:Heap}(k:A4 W y base z L g):TopRead W.p W.loose W.mg W.mb g:=topRead_of k.T
theorem Ok.less{W:Wd}{c:Cx}{n m:Nat}(k:Ok W c n)(h:m<=n):Ok W c m:=⟨k.XB,k.TB,λz=>k.hA (qn z h),k.hk,k.hh,fP (fy h _) k.hd,fP (ir (fy (iN 8 h) _) _) k.hu⟩
set_option genCtorIdx true in
inductive OL where
 |b (l:List SO)
 |a (l:OL) (x:SO)
 |s (l:OL) (i:Nat) (x:SO)
noncomputable def OL.list:OL->List SO:=OL.rec (λl=>l) (λz x l=>snoc l x) λz i x l=>aX l i x
noncomputable def OL.length:OL->Nat:=OL.rec (λl=>l.length) (λz z n=>Nat.succ n) λz z z n=>n
noncomputable def OL.get:OL->Nat->Option SO:=OL.rec (λl i=>at? l i) (λl x p i=>@az (λz=>Option SO) (p i) (aa x) (aQ i l.length)) λl j x p i=>@az (λz=>Option SO) (p i) (@az (λz=>Option SO) ah (aa x) (dW j l.length)) (aQ i j)
theorem SQ{V:Type}{x:V}:∀{l:List V} {i:Nat},(aX l i x).length=l.length:=@λl=>by
 induction l with
 |nil=>exact rfl
 |cons a r p=>intro i;cases i with
  |zero=>rfl
  |succ i=>exact congrArg (· +1) p
theorem oM{V:Type}{x:V}:∀{l:List V} {i j:Nat},(aX l i x)[j]? =if j=i then(if i<l.length then aa x else ah) else l[j]? :=@λl=>by
 induction l with
 |nil=>intro i j;by_cases h:j=i<;>simp[h,aX]
 |cons a r p=>
  intro i j
  cases i with
  |zero=>cases j with
   |zero=>rfl
   |succ j=>rfl
  |succ i=>cases j with
   |zero=>rfl
   |succ j=>
    show(aX r i x)[j]? =_
    rw[p]
    simp
theorem OL.len_eq:∀t:OL,t.length=t.list.length:=λt=>by
 induction t with
 |b l=>rfl
 |a l x p=>exact(congrArg Nat.succ p).trans (by show _=(snoc l.list x).length;rw[iy,bK];rfl)
 |s l i x p=>exact p.trans SQ.symm
theorem OL.get_eq:∀(t:OL) (i:Nat),t.get i=t.list[i]? :=λt=>by
 induction t with
 |b l=>exact qA l
 |a l x p=>
  intro i
  show@az (λy=>Option SO) (l.get i) (aa x) (aQ i l.length)=(snoc l.list x)[i]?
  rw[iy]
  cases h:aQ i l.length with
  |true=>
   rw[bJ h,l.len_eq,dY (aH _),iP];rfl
  |false=>
   have h':i≠l.list.length:=λe=>by rw[e,<-l.len_eq,sX] at h;cases h
   rcases Nat.lt_or_gt_of_ne h' with h'|h'
   ·rw[zY h'];exact p i
   ·have e:l.list[i]? =ah:=LP (jR h')
    rw[LP (by rw[bK];exact h')]
    exact(p i).trans e
 |s l j x p=>
  intro i
  show@az (λy=>Option SO) (l.get i) (@az (λy=>Option SO) ah (aa x) (dW j l.length)) (aQ i j)=(aX l.list j x)[i]?
  rw[oM]
  cases h:aQ i j with
  |true=>
   rw[if_pos (bJ h)]
   cases q:dW j l.length with
   |true=>rw[if_pos (l.len_eq▸aB q)]
   |false=>rw[if_neg λz=>by rw[<-l.len_eq] at z;have O:aD (j+1) l.length=false:=q;rw[we z] at O;cases O]
  |false=>
   rw[if_neg λe=>by rw[e,sX] at h;cases h]
   exact p i
structure Fact where
 k:Nat
 l:List Nat
 a:Tm
 b:Tm
 v:Bool
noncomputable def Fact.ok (k:Ev) (f:Fact):Prop:=cF k f.k f.l (f.a.ev k) (f.b.ev k)=f.v
structure SS where
 loc:List (Str×SV)
 objs:OL
 fa:List Fact
noncomputable def iA (W:Wd) (Y:List Addr) (z:List (Str×SV)) (m:Str->Option Value):Prop:=∀x y,lk x z=aa y->∃v,m x=aa v/\VR W Y y v
inductive Led (W:Wd) (c:Cx) (Y:List Addr) (os:List SO) (m:Str->Option Value) (h:Heap):Prop
 |mk (ls:List Cl) (ad:ls.map aS=Y) (l1:LR W c.R Y os ls) (l2:((flat ls++c.X).map aS).Nodup) (g:Heap) (gr:Gr W c g) (F:Fr g c.L h m) (N:News g c.L h (flat ls++c.X))
inductive Rep (W:Wd) (c:Cx) (Y:List Addr) (σ:SS) (h:Heap):Prop
 |mk (m:Str->Option Value) (l:Led W c Y σ.objs.list m h) (r:iA W Y σ.loc m)
section
variable{W:Wd}{c:Cx}{Y M:List Addr}{os:List SO}{m m':Str->Option Value}{h h':Heap}{i:Nat}{a:Addr}{o:SO}
theorem iA.mono(h:Y<+:M){z:List (Str×SV)}(r:iA W Y z m):iA W M z m:=λx y e=>let⟨v,a,b⟩:=r x y e;⟨v,a,b.mono h⟩
theorem iA.set{p:List (Str×SV)}{n:Str}{x:SV}{v:Value}(r:iA W Y p m)(q:VR W Y x v):iA W Y ((n,x)::p) (λy=>if y=n then aa v else m y):=by
 intro y z e
 rw[bW] at e
 by_cases h:y=n
 ·rw[if_pos h] at e
  cases e
  exact⟨v,if_pos h,q⟩
 ·rw[if_neg h] at e
  obtain⟨u,a,b⟩:=r y z e
  exact⟨u,(if_neg h).trans a,b⟩
theorem Led.len(l:Led W c Y os m h):Y.length=os.length:=by
 obtain⟨z,rfl,C,_⟩:=l
 rw[i8,C.len]
theorem Led.end{t:OL}(l:Led W c Y t.list m h)(q:Addr):(Y++[q])[t.length]? =aa q:=by
 rw[t.len_eq,<-l.len,dY (aH _),iP];rfl
theorem Led.re(l:Led W c Y os m h)(F:∀g,Fr g c.L h m->Fr g c.L h' m')(N:∀g l,News g c.L h l->News g c.L h' l):Led W c Y os m' h':=
 let⟨z,e,a,b,g,y,f,d⟩:=l;⟨z,e,a,b,g,y,F _ f,N _ _ d⟩
theorem Led.new{z:List Cl}{g:Heap}(ad:z.map aS=Y)(C:LR W c.R Y os z)(l2:((flat z++c.X).map aS).Nodup)(y:Gr W c g){q:Addr}{ob:Obj}{x:SO}(F:Fr g c.L h m)
 (N:News g c.L h ((q,ob)::(flat z++c.X))) (lo:∀p∈flat z++c.X,p.1<q) (k:OR W c.R (Y++[q]) q x [(q,ob)]):Led W c (Y++[q]) (snoc os x) m h:=by
 subst ad
 have u:(flat (z++[(q,[(q,ob)])])++c.X).Perm ((q,ob)::(flat z++c.X)):=by
  rw[flat,oq,bY]
  exact jO
 refine⟨z++[(q,[(q,ob)])],dH,iy os x▸(LR.mono (dB _ _) C).app (.one k),?_,g,y,F,λp v=>N p (u.subset v)⟩
 exact(u.map aS).nodup_iff.mpr (ef.mpr ⟨λj=>(let⟨p,v,e⟩:=fK.mp j;absurd e (fQ (lo p v))),l2⟩)
inductive Gm (W:Wd) (c:Cx) (Y:List Addr) (os:List SO) (m:Str->Option Value) (h:Heap) (i:Nat) (o:SO) (a:Addr):Prop
 |mk (A B l:List (Addr×Obj)) (g:Heap) (O:OR W c.R Y a o l) (gr:Gr W c g) (F:Fr g c.L h m) (N:News g c.L h (A++(l++B))) (nd:((A++(l++B)).map aS).Nodup)
  (back:∀o' l' h' m' g',OR W c.R Y a o' l'->((A++(l'++B)).map aS).Nodup->Gr W c g'->Fr g' c.L h' m'->News g' c.L h' (A++(l'++B))->Led W c Y (aX os i o') m' h')
theorem Led.eZ(l:Led W c Y os m h)(j:os[i]? =aa o)(q:Y[i]? =aa a):Gm W c Y os m h i o a:=by
 obtain⟨ls,rfl,C,b,g,L,F,N⟩:=l
 obtain⟨A,y,B,u,rfl,r,st⟩:=C.at j
 have ea:y.1=a:=by
  rw[dH,dY (by simp[u])] at q
  simpa[u] using q
 subst ea
 have e:∀l,flat (A++(y.1,l)::B)++c.X=flat A++(l++(flat B++c.X)):=λl=>by simp[flat]
 have e0:flat (A++y::B)++c.X=flat A++(y.2++(flat B++c.X)):=e y.2
 refine⟨flat A,flat B++c.X,y.2,g,r,L,F,e0▸N,e0▸b,λO x h' m' D k p z F' N'=>⟨A++(y.1,x)::B,by simp,st O (y.1,x) k,?_,D,z,F',?_⟩⟩
 ·rw[e];exact p
 ·rw[e];exact N'
end
end
section
set_option genSizeOf false
set_option genInjectivity false
structure CI where
 C:Addr
 kU:List Str
 gO:List (Str×Addr)
 vals:List (Str×Value)
structure aR where
 name:Str
 qual:Str
 params:Arguments
 body:List Stmt
 scope:Scope
 dV:Value
 kV:Value
 doc:Value
 pm:Value
 an:Option Addr
 cdv:Value
 ct:Value
 ps:List Str
 ds:List Value
noncomputable abbrev aR.fd (f:aR):FuncData:=fnOf f.name f.qual f.params f.body f.scope f.dV f.kV f.doc f.pm f.an f.cdv f.ct
noncomputable def aR.bind (f:aR) (z:List Value):List (Str×Value):=f.ps.zip (z++f.ds.drop (z.length+f.ds.length-f.ps.length))
structure Tab where
 cls:List (Addr×CI)
 eY:List (Str×Value)
 fns:List (Addr×aR)
 tups:List (Addr×List SV)
 tw:List (Addr×List (Str×Value))
 nE:fR->Addr
 nF:List (Addr×Addr×Addr×List (Str×SV))
 nG:List (Addr×List Str)
 oN:List (Addr×List (Str×Str))
 jV:List Addr
 jz:List (Addr×aR×Str×Str)
 oO:List (Addr×List (Int×Str))
structure wZ (K:Frag) (c:CI):Prop where
 plain:plainGet K c.C (af "")=ai
 dict:hasDictIn K c.C=ai
 set:findIn K (.ref c.C) "__setattr__"=aa (aa (.builtin "object.__setattr__"))
 over:plainOver K c.C=ai
 fld:∀n∈c.kU,findIn K (.ref c.C) n=aa ah/\takerIn K c.C n=aa ah
 oQ:∀x∈c.gO,findIn K (.ref c.C) x.1=aa (aa (.ref x.2))/\isFn K (.ref x.2)=ai/\specialIn K (.ref x.2) "__get__"=aa (aa (.builtin "function.__get__"))/\takesIn K (.ref x.2)=aa aj/\copiedNames.contains x.1=aj/\keepIn K (.ref x.2)=ai/\fnIn K x.2=ai
 val:∀x∈c.vals,findIn K (.ref c.C) x.1=aa (aa x.2)/\specialIn K x.2 "__get__"=aa ah/\handedIn x.2=ai/\copiedNames.contains x.1=aj
noncomputable def A5 (K:Frag) (x:Str×Value):Prop:=(x.1==("__debug__":Str))=aj/\(nsIn K mainGlobals x.1=aa (aa x.2)\/(nsIn K mainGlobals x.1=aa ah/\bootBuiltins x.1=aa x.2/\x.1≠"__name__"))
structure tC (K:Frag) (f:Addr) (i:aR):Prop where
 at_:∃oc od osl,K.lookup f=aa ⟨oc,od,.func i.fd,osl⟩
 code:codeIn K i.cdv i.qual=ai
 co:i.scope.isCoroutine=aj
 gen:i.scope.isGenerator=aj
 kind:i.scope.kind=.function
 cell:∀x∈i.scope.names,x.2≠.cell
 loc:(i.ps.all λx=>decide (i.scope.names.lookup x=some .local))=ai
 bind:∀(s:Shared) (vs:List Value),K.In s.heap->i.ps.length<=vs.length+i.ds.length->vs.length<=i.ps.length->BindsTo s i.fd ⟨vs,[]⟩ (i.bind vs)
 keep:keepIn K (.ref f)=ai
 fnIn:fnIn K f=ai
 nd:i.ps.Nodup
structure A6 (K:Frag) (f:Addr) (i:aR) (pn n0:Str):Prop where
 at_:∃oc od osl,K.lookup f=aa ⟨oc,od,.func i.fd,osl⟩
 code:codeIn K i.cdv i.qual=ai
 co:i.scope.isCoroutine=aj
 gen:i.scope.isGenerator=aj
 kind:i.scope.kind=.function
 cells:∀k,cellsFrom k i.scope.names []=[(n0,k)]
 push:∀h,pushCells h i.scope.names=h.push {cls:=.type "cell",data:=.cell ah}
 loc:i.scope.names.lookup pn=some .local
 bind:∀v,bindArgs i.fd ⟨[v],[]⟩=pure [(pn,v)]
 keep:keepIn K (.ref f)=ai
 Gn:¬∀x∈i.scope.names,x.2≠.cell
structure TabOk (W:Wd) (T:Tab):Prop where
 tup:∀x∈T.tups,∃dd n sl vs,W.K.lookup x.1=aa ⟨.type "tuple",dd,.seq (vs:List Value).toArray n,sl⟩/\aM W [] x.2 vs
 qG:∀x∈T.tw,∃es n,W.K.lookup x.1=aa {cls:=.type "dict",data:=.dict es n}/\KeysLit W.P es.toList/\∀y∈x.2,nsIn W.K x.1 y.1=aa (aa y.2)
 cls:∀c∈T.cls,wZ W.K c.2/\c.2.C=c.1
 eY:∀x∈T.eY,A5 W.K x
 fns:∀x∈T.fns,tC W.K x.1 x.2
 sin:∀x∈T.nF,W.K.lookup x.1=aa (instObj x.2.1 x.2.2.1)/\∃es n,W.K.lookup x.2.2.1=aa (dictOf es n)/\FR W [] x.2.2.2 es
 lst:∀x∈T.nG,∃vs n,W.K.lookup x.1=aa (listOf (vs:List Value).toArray n)/\StrsAre vs x.2
 jz:∀x∈T.jz,A6 W.K x.1 x.2.1 x.2.2.1 x.2.2.2
 jV:∀x,aL x T.jV=ai->makesIn W.K x=ai/\keepIn W.K (.ref x)=ai
 xe:∀x∈T.oO,∃o,W.K.lookup x.1=aa o/\∀h:Heap,h.get? x.1=aa o->IntTab W.prog W.w h x.1 (x.2.map λp=>(qw p.1,sZ p.2))
 xf:∀x∈T.oN,∃o,W.K.lookup x.1=aa o/\∀h:Heap,h.get? x.1=aa o->KTD.TextTab h x.1 (x.2.map λp=>(p.1,Ah (.str p.2)))
noncomputable def sv:Value->SV
 |.none=>.none
 |.bool b=>.bool b
 |.int i _=>.int i
 |.str x _=>.str x
 |v=>.val v
theorem qH(W:Wd)(q:List Addr)(v:Value):VR W q (sv v) v:=by
 cases v<;>first|rfl|exact⟨_,rfl⟩
noncomputable def tD:SV->Bool
 |.val v=>handedIn v
 |_=>ai
theorem VR.handed{W:Wd}{q:List Addr}{x:SV}{v:Value}(r:VR W q x v)(h:tD x=ai):handedIn v=true:=by
 cases x with
 |val u=>obtain rfl:=r;exact h
 |obj=>obtain⟨_,_,rfl⟩:=r;rfl
 |_=>first|(obtain rfl:=r;rfl)|(obtain⟨_,rfl⟩:=r;rfl)
set_option genCtorIdx true in
inductive Tr where
 |tt
 |ff
 |and (a b:Tr)
 |pr (p:Prop) (t:Tr)
 |im (b:Bool) (t f:Tr)
noncomputable def Tr.h:Tr->Prop
 |.tt=>True
 |.ff=>False
 |.and a b=>a.h/\b.h
 |.pr p t=>p/\t.h
 |.im b t f=>(b=ai->t.h)/\(b=aj->f.h)
noncomputable def Tr.c:Tr->Bool:=Tr.rec ai aj (λz z a b=>@az (λz=>Bool) aj b a) (λz z z=>aj) (λz z z z z=>aj)
theorem Tr.tE:∀{t:Tr},t.c=ai->t.h:=@λt=>by
 induction t with
 |tt=>exactλz=>trivial
 |and a b x v=>
  intro h
  have y:@az (λz=>Bool) aj b.c a.c=true:=h
  cases e:a.c with
  |false=>rw[e] at y;cases y
  |true=>rw[e] at y;exact⟨x e,v y⟩
 |_=>intro h;cases h
set_option genCtorIdx true in
inductive Fl where
 |next
 |brk
 |cont
 |ret (v:SV)
noncomputable abbrev bg:=List SV->SS->(SV->SS->Tr)->Tr
noncomputable abbrev jW:=SS->(Fl->SS->Tr)->Tr
noncomputable abbrev jX:=SS->(SV->SS->Tr)->Tr
structure Gx where
 D:Wd
 T:Tab
 n:Nat
 cs:Scope
 KX:Value->List Addr->SS->Prop
 cons:List (Addr×Nat×bg)
 sc:List (Nat×Stmt×jW)
 ec:List (Nat×Expr×jX)
 cv:List (Str×Nat)
 fr:Bool
structure Tp (W:Wd) (s:Shared):Prop where
 t:0<s.toks
 o:s.os=W.os
 g:s.gens=W.gens
theorem Tp.to{W:Wd}{s O:Shared}(h:Tp W s)(z:s.toks<=O.toks)(x:O.os=s.os:=by rfl)(u:O.gens=s.gens:=by rfl):Tp W O:=⟨qn h.1 z,x.trans h.2,u.trans h.3⟩
structure RepS (W:Wd) (c:Cx) (q:List Addr) (j:SS) (s:Shared):Prop where
 R:Rep W c q j s.heap
 tp:Tp W s
 fa:∀f∈j.fa,f.ok W.η
structure At (G:Gx) (c:Cx) (q:List Addr) (j:SS) (s:Shared):Prop extends RepS G.D c q j s where
 cs:c.cs=G.cs
 ok:Ok G.D c G.n
 tk:TabOk G.D G.T
 rx:∀p∈c.R,p∈c.X
 cv:∀x∈G.cv,∃a,c.env.cells.lookup x.1=aa a/\q[x.2]? =aa a
 hf:G.fr=ai->c.A=c.A₀.deeper c.env/\((∀x∈c.cs.names,x.2≠.cell)->∃name scope a cd,c.env=envOf name scope c.L a cd)
inductive SR (D:Wd) (c:Cx) (q:List Addr) (j:SS) (m:Str->Option Value) (e:Value) (O:Shared):Prop
 |mk (a:Addr) (g Gh:Heap) (ls:List Cl) (e:e=.ref a) (ad:ls.map aS=q) (l:LR D c.R q j.objs.list ls) (nd:((flat ls++c.X).map aS).Nodup)
  (r:RaisedSN c.base Gh (c.env::c.outer) a (.type "KeyError") (flat ls++c.X) O.heap) (u:Gh.UpToSlots O.heap) (F:Fr g c.L Gh m) (gr:Gr D c g) (tp:Tp D O) (loc:iA D q j.loc m) (fa:∀f∈j.fa,f.ok D.η)
inductive SW (D:Wd) (KX:Value->List Addr->SS->Prop) (c:Cx) (q:List Addr) (e:Value) (O:Shared):Prop
 |mk (ρ':List Addr) (U:SS) (m:Str->Option Value) (p:q<+:ρ') (f:SR D c ρ' U m e O) (k:KX e ρ' U)
noncomputable abbrev PX (G:Gx) (c:Cx) (q:List Addr):Value->Shared->Prop:=SW G.D G.KX c q
theorem PX.mono{G:Gx}{c:Cx}{q z:List Addr}(h:q<+:z){e:Value}{s:Shared}(r:PX G c z e s):PX G c q e s:=by
 obtain⟨a,b,m,p,f,k⟩:=r
 exact⟨a,b,m,h.trans p,f,k⟩
inductive Post {M L:Type} (V:List Addr->M->L->Prop) (D:Wd) (c:Cx) (q:List Addr) (K:M->SS->Prop) (v:L) (s:Shared):Prop
 |mk (ρ':List Addr) (U:SS) (x:M) (p:q<+:ρ') (R:RepS D c ρ' U s) (r:V ρ' x v) (z:K x U)
theorem Post.mono{M L:Type}{V:List Addr->M->L->Prop}{D:Wd}{c:Cx}{Y q:List Addr}{K:M->SS->Prop}(h:Y<+:q){v:L}{s:Shared}(r:Post V D c q K v s):Post V D c Y K v s:=by
 obtain⟨a,b,x,p,R,r,z⟩:=r
 exact⟨a,b,x,h.trans p,R,r,z⟩
noncomputable def BR (W:Wd) (x:SV) (b:Bool):Prop:=match x with
 |.bool c=>b=c
 |.sb c=>b=c
 |.bm k l x y=>b=cF W.η k l (x.ev W.η) (y.ev W.η)
 |_=>False
theorem BR.VR{W:Wd}{q:List Addr}{x:SV}{b:Bool}(h:BR W x b):VR W q x (.bool b):=by
 cases x with
 |bool|sb|bm=>exact congrArg kO h
 |_=>exact h.elim
noncomputable def tF (W:Wd) (q:List Addr) (x:Fl) (f:Flow):Prop:=match x with
 |.next=>f=.next
 |.brk=>f=.brk
 |.cont=>f=.cont
 |.ret x=>∃v,f=.ret v/\VR W q x v
noncomputable abbrev PE (G:Gx) (c:Cx) (q:List Addr) (K:SV->SS->Prop):Value->Shared->Prop:=Post (VR G.D) G.D c q K
noncomputable abbrev PL (G:Gx) (c:Cx) (q:List Addr) (K:List SV->SS->Prop):List Value->Shared->Prop:=Post (aM G.D) G.D c q K
noncomputable abbrev PT (G:Gx) (c:Cx) (q:List Addr) (K:SV->SS->Prop):Bool->Shared->Prop:=Post (λz=>BR G.D) G.D c q K
noncomputable abbrev PB (G:Gx) (c:Cx) (q:List Addr) (K:Fl->SS->Prop):Flow->Shared->Prop:=Post (tF G.D) G.D c q K
noncomputable abbrev PU (G:Gx) (c:Cx) (q:List Addr) (K:SS->Prop):Unit->Shared->Prop:=Post (λ_ (_:Unit) _=>True) G.D c q λz=>K
noncomputable def aC {M L H:Type} (G:Gx) (V:List Addr->M->L->Prop) (R:List Addr->H->Prop) (t:Cx->H->Sem L) (j:SS) (K:M->SS->Prop):Prop:=
 ∀c q s w,At G c q j s->R q w->wpAny G.D.M c.A (t c w) (Post V G.D c q K) (PX G c q) s
noncomputable abbrev jA {H:Type}:List Addr->H->Prop:=λz z=>True
noncomputable abbrev aA (G:Gx) (e:Expr):SS->(SV->SS->Prop)->Prop:=aC G (VR G.D) jA λc (_:Unit)=>eval e c.env
noncomputable abbrev bS (G:Gx) (e:Expr):SS->(SV->SS->Prop)->Prop:=aC G (λz=>BR G.D) jA λc (_:Unit)=>isTrue e c.env (eval e c.env)
noncomputable abbrev dI (G:Gx) (y:List Expr):SS->(List SV->SS->Prop)->Prop:=aC G (aM G.D) jA λc z=>spliced (backTo z (starEach y c.env))
noncomputable abbrev bc (G:Gx) (st:Stmt):SS->(Fl->SS->Prop)->Prop:=aC G (tF G.D) jA λc (_:Unit)=>exec st c.env
noncomputable abbrev aO (G:Gx) (b:List Stmt):SS->(Fl->SS->Prop)->Prop:=aC G (tF G.D) jA λc (_:Unit)=>execs b c.env
noncomputable abbrev jB (G:Gx) (f:Value->Sem Value) (x:SV):SS->(SV->SS->Prop)->Prop:=aC G (VR G.D) (λq v=>VR G.D q x v) λz v=>f v
noncomputable abbrev gP (G:Gx) (x:SV):SS->(SV->SS->Prop)->Prop:=aC G (λz=>BR G.D) (λq v=>VR G.D q x v) λz v=>truthy v
structure R2 (W:Wd) (x y:SV) (q:List Addr) (w:Value×Value):Prop where
 a:VR W q x w.1
 b:VR W q y w.2
noncomputable abbrev aG (G:Gx) (f:Value->Value->Sem Value) (x y:SV):SS->(SV->SS->Prop)->Prop:=aC G (VR G.D) (R2 G.D x y) λz w=>f w.1 w.2
noncomputable abbrev bB (G:Gx) (f:Value) (v:List SV):SS->(SV->SS->Prop)->Prop:=aC G (VR G.D) (λq y=>aM G.D q v y) λz y=>jS f y []
noncomputable abbrev tG (G:Gx) (x:SV) (nm:Str) (y:SV) (j:SS) (K:SS->Prop):Prop:=aC G (λ_ (_:Unit) _=>True) (R2 G.D x y) (λz w=>setAttr w.1 nm w.2) j λz=>K
structure R3 (W:Wd) (x y z:SV) (q:List Addr) (w:Value×Value×Value):Prop where
 a:VR W q x w.1
 b:VR W q y w.2.1
 c:VR W q z w.2.2
noncomputable abbrev tH (G:Gx) (x i y:SV) (j:SS) (K:SS->Prop):Prop:=aC G (λ_ (_:Unit) _=>True) (R3 G.D x i y) (λz w=>setItem w.1 w.2.1 w.2.2) j λz=>K
noncomputable abbrev fc (G:Gx) (t:Expr) (y:SV) (j:SS) (K:SS->Prop):Prop:=aC G (λ_ (_:Unit) _=>True) (λq v=>VR G.D q y v) (λc v=>assign t c.env v) j λz=>K
section
variable{M L H:Type}{G:Gx}{c:Cx}{q Y ρ₁:List Addr}{j U:SS}{s O:Shared}{V:List Addr->M->L->Prop}{R:List Addr->H->Prop}{t:Cx->H->Sem L}{K:M->SS->Prop}{w:H}
theorem At.to{y:List Addr}(a:At G c q j s)(p:q<+:y)(R:RepS G.D c y U O):At G c y U O:=⟨R,a.cs,a.ok,a.tk,a.rx,λx v=>(a.cv x v).imp λz h=>⟨h.1,iz p h.2⟩,a.hf⟩
theorem At.tk'(a:At G c q j s)(h:s.toks<=O.toks)(e:O={s with toks:=O.toks}):At G c q j O:=a.to Mu (e▸⟨a.R,a.tp.to h,a.fa⟩)
theorem At.tok(a:At G c q j s){k:Nat}(h:s.toks<=k):At G c q j {s with toks:=k}:=a.to Mu ⟨a.R,a.tp.to h,a.fa⟩
theorem At.t1(a:At G c q j s):At G c q j {s with toks:=s.toks+1}:=a.tok (eg _)
theorem At.t2(a:At G c q j s):At G c q j {s with toks:=s.toks+1+1}:=a.tok (bL _ 2)
theorem aC.go(h:aC G V R t j K)(a:At G c q j s)(p:Y<+:q)(r:R q w){Q:L->Shared->Prop}
 (k:∀y U x v O,Y<+:y->q<+:y->At G c y U O->V y x v->K x U->Q v O):wpAny G.D.M c.A (t c w) Q (PX G c Y) s:=
 wpAny_mono (h c q s w a r) (λv O ⟨y,U,x,u,R,r,z⟩=>k y U x v O (p.trans u) u (a.to u R) r z) λm m z=>PX.mono p z
theorem aC.at(h:aC G V R t j K)(a:At G c q j s)(p:Y<+:q)(r:R q w):wpAny G.D.M c.A (t c w) (Post V G.D c Y K) (PX G c Y) s:=wpAny_mono (h c q s w a r) (λy y z=>z.mono p) λy y z=>PX.mono p z
theorem aC.mp{K':M->SS->Prop}(h:aC G V R t j K)(k:∀x U,K x U->K' x U):aC G V R t j K':=λc q s w a r=>
 wpAny_mono (h c q s w a r) (λv O ⟨y,U,x,p,R,r,z⟩=>⟨y,U,x,p,R,r,k _ _ z⟩) λu u z=>z
theorem At.give(a:At G c q j s)(p:Y<+:q){x:M}{v:L}(r:V q x v)(k:K x j):Post V G.D c Y K v s:=⟨q,j,x,p,a.toRepS,r,k⟩
noncomputable abbrev pr (q:List Addr):q<+:q:=Mu
noncomputable def SS.add (j:SS) (k:Nat) (l:List Nat) (a b:Tm) (v:Bool):SS:=⟨j.loc,j.objs,⟨k,l,a,b,v⟩::j.fa⟩
theorem At.add(a:At G c q j s){k:Nat}{l:List Nat}{x y:Tm}{v:Bool}(h:v=cF G.D.η k l (x.ev G.D.η) (y.ev G.D.η)):At G c q (j.add k l x y v) s:=
 a.to (pr _) ⟨let⟨m,l,r⟩:=a.R;⟨m,l,r⟩,a.tp,λf B=>by
  cases B with
  |head=>exact h.symm
  |tail _ B=>exact a.fa f B⟩
noncomputable def Br (x:SV) (j:SS) (A B:SS->Prop):Prop:=match x with
 |.bool b=>match b with
  |true=>A j
  |false=>B j
 |.sb b=>(b=ai->A j)/\(b=aj->B j)
 |.bm k l x y=>A (j.add k l x y ai)/\B (j.add k l x y aj)
 |_=>False
inductive SX (G:Gx) (c:Cx) (q:List Addr) (s:Shared) (A B:SS->Prop) (b:Bool):Prop
 |t (e:b=ai) (j:SS) (a:At G c q j s) (h:A j)
 |f (e:b=aj) (j:SS) (a:At G c q j s) (h:B j)
theorem At.br(a:At G c q j s){x:SV}{A B:SS->Prop}{b:Bool}(h:Br x j A B)(r:BR G.D x b):SX G c q s A B b:=by
 cases x with
 |bool z=>
  cases z with
  |true=>exact .t r j a h
  |false=>exact .f r j a h
 |sb z=>
  obtain rfl:b=z:=r
  cases b with
  |true=>exact .t rfl j a (h.1 rfl)
  |false=>exact .f rfl j a (h.2 rfl)
 |bm k l x y=>
  cases b with
  |true=>exact .t rfl _ (a.add r) h.1
  |false=>exact .f rfl _ (a.add r) h.2
 |_=>exact h.elim
theorem Br.mp{x:SV}{A B v z:SS->Prop}(h:Br x j A B)(f:∀j,A j->v j)(g:∀j,B j->z j):Br x j v z:=by
 cases x with
 |bool b=>cases b;exact g _ h;exact f _ h
 |sb b=>exact⟨λe=>f _ (h.1 e),λe=>g _ (h.2 e)⟩
 |bm k l x y=>exact⟨f _ h.1,g _ h.2⟩
 |_=>exact h.elim
end
end
section
set_option genSizeOf false
set_option genInjectivity false
structure VC (S:Prop) where
 t:Tr
 ok:t.h->S
namespace VC
variable{Y:Type}{S M:Prop}
noncomputable def no:VC S:=⟨.ff,False.elim⟩
noncomputable def map (f:S->M) (v:VC S):VC M:=⟨v.t,λh=>f (v.ok h)⟩
noncomputable def opt (o:Option Y) (f:∀a,o=aa a->VC S):VC S:=@aY Y (λO=>o=O->VC S) (λz=>no) (λa h=>f a h) o rfl
noncomputable def or (o:Option Y) (n:o=ah->VC S) (f:∀a,o=aa a->VC S):VC S:=@aY Y (λO=>o=O->VC S) n (λa h=>f a h) o rfl
noncomputable def aW (b:Bool) (f:b=ai->VC S):VC S:=@az (λy=>b=y->VC S) (λz=>no) f b rfl
noncomputable def ite (b:Bool) (f:b=ai->VC S) (g:b=aj->VC S):VC S:=@az (λz=>b=z->VC S) g f b rfl
noncomputable def need (p:Prop) (v:VC (p->S)):VC S:=⟨.pr p v.t,λh=>v.ok h.2 h.1⟩
noncomputable def ob {Y:Type} (l:List Y) (i:Nat) (f:∀a,l[i]? =aa a->VC S):VC S:=opt (at? l i) λa h=>f a ((qA l i).symm.trans h)
noncomputable def dJ (l:OL) (i:Nat) (f:∀a,l.list[i]? =aa a->VC S):VC S:=opt (l.get i) λa h=>f a ((OL.get_eq l i).symm.trans h)
noncomputable def of (s:S):VC S:=⟨.tt,λz=>s⟩
end VC
noncomputable def hh {Y:Type} (K:Y->SS->Tr) (x:Y) (σ:SS):Prop:=(K x σ).h
set_option backward.match.sparseCases true in
noncomputable def av (G:Gx) (f:Value) (z:List SV) (σ:SS) (K:SV->SS->Prop):Prop:=
 ∀c j s q,At G c j σ s->aM G.D j z q->codeAny G.D.M c.A (.call f ⟨q,[]⟩) (λr s'=>match r with
  |.ok (.ret v)=>PE G c j K v s'
  |.ok _=>False
  |.error e=>PX G c j e s') s
noncomputable def xg (D:Wd) (T:Tab):Prop:=∀b a l,D.bl b a l->∃j y z q,l=z++q/\wX D j a (T.nE b) y z/\∀u,aU (T.nE b) T.cls=aa u->∀x∈u.gO,lk x.1 y=ah
structure bw (G:Gx):Prop where
 con:∀x∈G.cons,∀G':Gx,G'.D=G.D->G'.T=G.T->x.2.1<=G'.n->∀xs σ K,(x.2.2 xs σ K).h->av G' (.ref x.1) xs σ (hh K)
 bl:xg G.D G.T
 sc:∀x∈G.sc,∀σ K,(x.2.2 σ K).h->bc G x.2.1 σ (hh K)
 ec:∀x∈G.ec,∀σ K,(x.2.2 σ K).h->aA G x.2.1 σ (hh K)
 kx:∀e j os,¬G.KX e j os
noncomputable abbrev VG (G:Gx) (S:Prop):=VC (bw G->S)
noncomputable abbrev gm {G:Gx} {S M:Prop} (f:S->M) (v:VG G S):VG G M:=v.map λh g=>f (h g)
noncomputable def bind {Y u y:Type} {G:Gx} {V:List Addr->Y->u->Prop} {R:List Addr->y->Prop} {t:Cx->y->Sem u} {σ:SS} {Q:Y->SS->Prop} (a:∀K:Y->SS->Tr,VG G (aC G V R t σ (hh K))) (F:∀x m,VG G (Q x m)):VG G (aC G V R t σ Q):=
 ⟨(a λx m=>(F x m).t).t,λh g=>((a _).ok h g).mp λx m z=>(F x m).ok z g⟩
noncomputable def fin {Y:Type} {G:Gx} {S:Prop} (K:Y->SS->Tr) (x:Y) (σ:SS) (f:hh K x σ->S):VG G S:=⟨K x σ,λh z=>f h⟩
noncomputable def dj:Tm->Tm->Bool:=Tm.rec (λb=>@Tm.rec (λz=>Bool) ai (λz z z z z z=>aj) b) λk l z z x y b=>@Tm.rec (λz=>Bool) aj (λg u m q z z=>
 @az (λz=>Bool) aj (@az (λz=>Bool) aj (@az (λz=>Bool) aj (y q) (x m)) (sS l u)) (aQ k g)) b
theorem iR{a b:Bool}(h:@az (λz=>Bool) aj b a=ai):a=ai/\b=true:=by cases a with|false=>cases h|true=>exact⟨rfl,h⟩
theorem fh:∀{a b:Tm},dj a b=ai->a=b:=@λa=>by
 induction a with
 |e=>intro b h;cases b with|e=>rfl|n=>cases h
 |n k l a c x z=>
  intro b h
  cases b with
  |e=>cases h
  |n g y m C=>
   obtain⟨q,h⟩:=iR (a:=aQ k g) h
   obtain⟨u,h⟩:=iR (a:=sS l y) h
   obtain⟨O,h⟩:=iR (a:=dj a m) h
   rw[bJ q,ET.mp u,x O,z h]
noncomputable def tK:List Nat->List Nat->Bool:=λS T=>bE ai (λk z p=>@az (λz=>Bool) aj p (aL k T)) S
noncomputable def xh:List Nat->List Nat->Bool:=λS T=>bE ai (λk z p=>@az (λz=>Bool) p aj (aL k T)) S
theorem kW(x k:Nat)(l:List Nat):aL x (k::l)=(aQ x k||aL x l):=by
 show@az (λz=>Bool) (aL x l) ai (aQ x k)=_
 cases aQ x k<;>rfl
theorem Gp{S T:List Nat}{x:Nat}(h:tK S T=ai)(e:aL x S=ai):aL x T=true:=by
 induction S with
 |nil=>cases e
 |cons k S p=>
  obtain⟨z,u⟩:=iR (a:=aL k T) h
  rw[kW] at e
  cases q:aQ x k with
  |true=>rw[bJ q];exact z
  |false=>rw[q] at e;exact p u e
theorem SY{S T:List Nat}{x:Nat}(h:xh S T=ai)(e:aL x S=ai):aL x T=false:=by
 induction S with
 |nil=>cases e
 |cons k S p=>
  have y:@az (λu=>Bool) (xh S T) aj (aL k T)=true:=h
  rw[kW] at e
  cases z:aL k T with
  |true=>rw[z] at y;cases y
  |false=>
   rw[z] at y
   cases q:aQ x k with
   |true=>rw[bJ q];exact z
   |false=>rw[q] at e;exact p y e
noncomputable def ask (f:Fact) (k:Nat) (l:List Nat) (a b:Tm):Option Bool:=@az (λz=>Option Bool) ah
 (@az (λz=>Option Bool)
   (@az (λz=>Option Bool) ah
     (@az (λz=>Option Bool)
       (@az (λz=>Option Bool) ah (aa aj) (tK l f.l))
       (@az (λz=>Option Bool) (@az (λz=>Option Bool) ah (aa aj) (xh f.l l)) (aa ai) (tK f.l l)) f.v)
     (aQ k 1))
   (@az (λz=>Option Bool) ah (aa f.v) (dj f.b b)) (sS f.l l)) (@az (λz=>Bool) aj (dj f.a a) (aQ f.k k))
theorem kX{k:Ev}{l a b:List Nat}:cF k 1 l a b=ai↔∃c,a=[c]/\aL c l=true:=by
 show(match a with|[c]=>aL c l|_=>aj)=ai↔_
 cases a with
 |nil=>exact⟨λh=>(by cases h),λ⟨_,h,_⟩=>(by cases h)⟩
 |cons c t=>cases t with
  |nil=>exact⟨λh=>⟨c,rfl,h⟩,λ⟨_,h,q⟩=>by cases h;exact q⟩
  |cons=>exact⟨λh=>(by cases h),λ⟨_,h,_⟩=>(by cases h)⟩
theorem S0{u:Ev}{f:Fact}{k:Nat}{l:List Nat}{a b:Tm}{v:Bool}(h:ask f k l a b=aa v)(ok:f.ok u):cF u k l (a.ev u) (b.ev u)=v:=by
 obtain⟨fk,g,C,H,V⟩:=f
 have m:cF u fk g (C.ev u) (H.ev u)=V:=ok
 unfold ask at h
 cases e0:(@az (λqq=>Bool) aj (dj C a) (aQ fk k)) with
 |false=>rw[e0] at h;cases h
 |true=>
  rw[e0] at h
  obtain⟨A,B⟩:=iR e0
  obtain rfl:=bJ A
  obtain rfl:=fh B
  clear e0
  cases L:sS g l with
  |true=>
   rw[L] at h
   cases D:dj H b with
   |false=>rw[D] at h;cases h
   |true=>
    rw[D] at h
    cases h
    rw[<-ET.mp L,<-fh D];exact m
  |false=>
   rw[L] at h
   cases D:aQ fk 1 with
   |false=>rw[D] at h;cases h
   |true=>
    rw[D] at h
    obtain rfl:=bJ D
    have O:∀{x y:Bool},(x=ai->y=ai)->y=aj->x=false:=λ{x y} f e=>by cases x with|false=>rfl|true=>rw[f rfl] at e;cases e
    cases V with
    |false=>
     cases e5:tK l g with
     |false=>rw[e5] at h;cases h
     |true=>
      rw[e5] at h
      cases h
      exact O (λz=>kX.mpr (let⟨c,q,r⟩:=kX.mp z;⟨c,q,Gp e5 r⟩)) m
    |true=>
     obtain⟨c,q,r⟩:=kX.mp m
     cases e5:tK g l with
     |true=>rw[e5] at h;cases h;exact kX.mpr ⟨c,q,Gp e5 r⟩
     |false=>
      rw[e5] at h
      cases p:xh g l with
      |false=>rw[p] at h;cases h
      |true=>
       rw[p] at h
       cases h
       rw[q]
       exact SY p r
noncomputable def asks (k:Nat) (l:List Nat) (a b:Tm):List Fact->Option Bool:=bE ah λf z p=>@aY Bool (λz=>Option Bool) p aa (ask f k l a b)
theorem mj{x:Ev}{k:Nat}{l:List Nat}{a b:Tm}{v:Bool}:∀{y:List Fact},asks k l a b y=aa v->(∀f∈y,f.ok x)->cF x k l (a.ev x) (b.ev x)=v:=@λy=>by
 induction y with
 |nil=>intro h;cases h
 |cons f y p=>
  intro h ok
  have q:@aY Bool (λz=>Option Bool) (asks k l a b y) aa (ask f k l a b)=aa v:=h
  cases e:ask f k l a b with
  |none=>rw[e] at q;exact p q λg m=>ok g (.tail _ m)
  |some u=>rw[e] at q;cases q;exact S0 e (ok f (.head _))
noncomputable def jY (σ:SS) (k:Nat) (l:List Nat) (a b:Tm):SV:=@aY Bool (λz=>SV) (.bm k l a b) .bool (asks k l a b σ.fa)
theorem qI{W:Wd}{σ:SS}{k:Nat}{l:List Nat}{a b:Tm}(h:∀f∈σ.fa,f.ok W.η):BR W (jY σ k l a b) (cF W.η k l (a.ev W.η) (b.ev W.η)):=by
 unfold jY
 cases e:asks k l a b σ.fa with
 |none=>rfl
 |some v=>exact mj e h
section
variable{G:Gx}{c:Cx}{j U:List Addr}{σ:SS}{s s':Shared}{i:Nat}{v:Value}
inductive S2 (G:Gx) (c:Cx) (j:List Addr) (σ:SS) (h:Heap) (i:Nat) (o:SO) (v:Value):Prop
 |mk (b:Addr) (m:Str->Option Value) (e:v=.ref b) (hl:iA G.D j σ.loc m) (o:Gm G.D c j σ.objs.list m h i o b)
theorem At.eZ(a:At G c j σ s){o:SO}(z:σ.objs.list[i]? =aa o)(r:VR G.D j (.obj i) v):S2 G c j σ s.heap i o v:=by
 obtain⟨b,x,rfl⟩:=r
 obtain⟨m,l,y⟩:=a.R
 exact⟨b,m,rfl,y,l.eZ z x⟩
theorem At.X(a:At G c j σ s):G.D.K.In s.heap:=let⟨_,⟨_,_,_,_,g,y,F,_⟩,_⟩:=a.R;y.X.keeps F.keep
inductive S3 (D:Wd) (j:List Addr) (h:Heap) (p:Option eW) (xs:List SV) (v:Value):Prop
 |mk (b:Addr) (us vs:List Value) (e:v=.ref b) (q:mh p us) (f:aM D j xs vs) (l:h.IsList b (us++vs:List Value).toArray)
theorem At.list(a:At G c j σ s){p:Option eW}{z:List SV}(k:σ.objs.list[i]? =aa (.list p z))(r:VR G.D j (.obj i) v):S3 G.D j s.heap p z v:=by
 obtain⟨b,m,rfl,_,⟨A,B,l,g,O,y,F,N,_,_⟩⟩:=a.eZ k r
 obtain⟨u,x,n,rfl,q,f⟩:=O
 exact⟨b,u,x,rfl,q,f,_,(N _ (bV _ (.head _))).1,rfl,n,rfl⟩
inductive Gq (D:Wd) (j:List Addr) (h:Heap) (xs:List SV) (v:Value):Prop
 |mk (b:Addr) (vs:List Value) (e:v=.ref b) (f:aM D j xs vs) (l:h.IsTuple b vs.toArray)
theorem At.tup(a:At G c j σ s){xs:List SV}(z:σ.objs.list[i]? =aa (.tup xs))(r:VR G.D j (.obj i) v):Gq G.D j s.heap xs v:=by
 obtain⟨b,m,rfl,_,⟨A,B,l,g,O,y,F,N,_,_⟩⟩:=a.eZ z r
 obtain⟨q,n,rfl,f⟩:=O
 exact⟨b,q,rfl,f,_,(N _ (bV _ (.head _))).1,rfl,n,rfl⟩
inductive S4 (D:Wd) (j:List Addr) (h:Heap) (fs:List (Str×SV)) (v:Value):Prop
 |mk (b:Addr) (kvs:List (Str×Value)) (e:v=.ref b) (f:eX D j fs kvs) (l:h.DictOf (strKind D.prog D.w) b kvs)
theorem At.dict(a:At G c j σ s){fs:List (Str×SV)}(x:σ.objs.list[i]? =aa (.dict fs))(r:VR G.D j (.obj i) v):S4 G.D j s.heap fs v:=by
 obtain⟨b,m,rfl,_,⟨A,B,l,g,O,y,F,N,_,_⟩⟩:=a.eZ x r
 obtain⟨ob,z,rfl,q,f⟩:=O
 exact⟨b,z,rfl,f,qp.mpr ⟨ob,(N _ (bV _ (.head _))).1,q⟩⟩
inductive Gs (D:Wd) (j:List Addr) (h:Heap) (fs:List (Tm×SV)) (v:Value):Prop
 |mk (b:Addr) (kvs:List (Str×Value)) (e:v=.ref b) (f:gM D j fs kvs) (l:h.DictOf (strKind D.prog D.w) b kvs)
theorem At.bz(a:At G c j σ s){x:List (Tm×SV)}(u:σ.objs.list[i]? =aa (.bz x))(r:VR G.D j (.obj i) v):Gs G.D j s.heap x v:=by
 obtain⟨b,m,rfl,_,⟨A,B,l,g,O,y,F,N,_,_⟩⟩:=a.eZ u r
 obtain⟨ob,z,rfl,q,f⟩:=O
 exact⟨b,z,rfl,f,qp.mpr ⟨ob,(N _ (bV _ (.head _))).1,q⟩⟩
inductive S5 (G:Gx) (c:Cx) (j:List Addr) (C:Addr) (fs:List (Str×SV)) (h:Heap) (v:Value):Prop
 |mk (x dx:Addr) (es:List DictEntry) (k:Nat) (m:Str->Option Value) (g:Heap) (e:v=.ref x) (X:G.D.K.In g) (F:Fr g c.L h m) (f:FR G.D j fs es) (I:_root_.PySem.W.InstAt h x (instObj C dx) C (aa (dictOf es k)))
theorem At.inst(a:At G c j σ s){C:Addr}{fs:List (Str×SV)}(z:σ.objs.list[i]? =aa (.inst C fs))(r:VR G.D j (.obj i) v):S5 G c j C fs s.heap v:=by
 obtain⟨b,m,rfl,_,⟨A,B,l,g,O,y,F,N,_,_⟩⟩:=a.eZ z r
 obtain⟨u,x,k,rfl,f⟩:=O
 exact⟨b,u,x,k,m,g,rfl,y.X,F,f,MC N (bV _ (.head _)) (bV _ (.tail _ (.head _)))⟩
theorem At.made(a:At G c j σ s){z:List Cl}{g:Heap}{m:Str->Option Value}{q:Addr}{ob:Obj}{x:SO}{K:SV->SS->Prop}(ad:z.map aS=j)(C:LR G.D c.R j σ.objs.list z)(l2:((flat z++c.X).map aS).Nodup)(y:Gr G.D c g)(V:iA G.D j σ.loc m)
 (F:Fr g c.L s'.heap m) (N:News g c.L s'.heap ((q,ob)::(flat z++c.X))) (lo:∀p∈flat z++c.X,p.1<q) (u:OR G.D c.R (j++[q]) q x [(q,ob)]) (t:Tp G.D s') (p:U<+:j) (k:K (.obj σ.objs.length) ⟨σ.loc,OL.a σ.objs (x),σ.fa⟩):PE G c U K (.ref q) s':=
 ⟨j++[q],⟨σ.loc,OL.a σ.objs (x),σ.fa⟩,.obj σ.objs.length,p.trans (dB _ _),⟨⟨m,.new ad C l2 y F N lo u,V.mono (dB _ _)⟩,t,a.fa⟩,⟨q,(let⟨_,l,_⟩:=a.R;l.end q),rfl⟩,k⟩
theorem Gu{g h k:Heap}{L q:Addr}{m:Str->Option Value}{A B:List (Addr×Obj)}{ob x:Obj}(F:Fr g L h m)(N:News g L h (A++(q,ob)::B))(V:((A++(q,ob)::B).map aS).Nodup)(u:∀b o,b≠q->h.get? b=aa o->k.get? b=aa o)(D:k.get? q=aa x):Fr g L k m/\News g L k (A++(q,x)::B):=by
 have z:=N (q,ob) (bV _ (.head _))
 rw[dH,gq] at V
 have H:=E4.mp V
 have O:=ef.mp H.2.1
 refine⟨⟨F.ns.at' λo e=>u _ o (λh=>z.2.1 h.symm) e,λb o e0=>u b o (λh=>by subst h;rw[z.2.2] at e0;cases e0) (F.keep b o e0),F.above⟩,λp hp=>?_⟩
 rcases jP.mp hp with hp|hp
 ·have y:=N p (wg _ hp)
  exact⟨u _ _ (λe=>H.2.2 p.1 (EY hp) q (.head _) e) y.1,y.2⟩
 ·rcases b7.mp hp with rfl|hp
  ·exact⟨D,z.2⟩
  ·have y:=N p (bV _ (.tail _ hp))
   exact⟨u _ _ (λe=>O.1 (fK.mpr ⟨p,hp,e⟩)) y.1,y.2⟩
theorem xj{A B:List (Addr×Obj)}{q:Addr}{ob z:Obj}(y:((A++(q,ob)::B).map aS).Nodup):((A++(q,z)::B).map aS).Nodup:=by rw[dH] at y⊢;exact y
end
end
section
open PySem.SeqAt
noncomputable abbrev Is (x:SV) (P:Wd->Value->Prop):Prop:=∀{W:Wd} {j:List Addr} {v:Value},VR W j x v->P W v
noncomputable abbrev bT (x:SV) (a:Str):Prop:=Is x λu v=>∃t,v=.str a t
noncomputable abbrev bx (x:SV) (a:Int):Prop:=Is x λu v=>∃t,v=.int a t
noncomputable abbrev A7 (x:SV) (a:Bool):Prop:=Is x λu v=>v=.bool a
noncomputable abbrev IsT (x:SV) (a:Tm):Prop:=Is x λW v=>∃t,v=.str (ak (a.ev W.η)) t
noncomputable abbrev tM (x:SV):Prop:=Is x λu v=>v=.none
noncomputable def bD (x:SV):Option {a:Str//bT x a}:=match x with
 |.str a=>aa ⟨a,id⟩
 |.ss a=>aa ⟨a,id⟩
 |_=>ah
noncomputable def bF (x:SV):Option {a:Int//bx x a}:=match x with
 |.int a=>aa ⟨a,id⟩
 |.si a=>aa ⟨a,id⟩
 |_=>ah
noncomputable def xm (x:SV):Option {a:Bool//A7 x a}:=match x with
 |.bool a=>aa ⟨a,id⟩
 |.sb a=>aa ⟨a,id⟩
 |_=>ah
noncomputable def fC (x:SV):Option {a:Tm//IsT x a}:=match x with
 |.str a=>aa ⟨lit a.cps.toList,id⟩
 |.ss a=>aa ⟨lit a.cps.toList,id⟩
 |.tm a=>aa ⟨a,id⟩
 |_=>ah
noncomputable def qJ (x:SV):Option (PLift (tM x)):=match x with
 |.none=>aa ⟨id⟩
 |_=>ah
noncomputable def iB (x:SV):Option {i:Nat//x=.obj i}:=match x with
 |.obj i=>aa ⟨i,rfl⟩
 |_=>ah
noncomputable def A8 (x:SV):Option {t:Addr//x=.val (.ref t)}:=match x with
 |.val v=>match v with
  |.ref t=>aa ⟨t,rfl⟩
  |_=>ah
 |_=>ah
noncomputable def tN (o:SO):Option {u:List SV//o=.tup u}:=match o with
 |.tup u=>aa ⟨u,rfl⟩
 |_=>ah
noncomputable def gy (o:SO):Option {z:Option eW×List SV//o=.list z.1 z.2}:=match o with
 |.list p u=>aa ⟨(p,u),rfl⟩
 |_=>ah
noncomputable def Gv (o:SO):Option {u:List (Tm×SV)//o=.bz u}:=match o with
 |.bz u=>aa ⟨u,rfl⟩
 |_=>ah
noncomputable def A9 (o:SO):Option {z:Addr×List (Str×SV)//o=.inst z.1 z.2}:=match o with
 |.inst C u=>aa ⟨(C,u),rfl⟩
 |_=>ah
noncomputable def gg (p:Option eW):Option (PLift (p=ah)):=match p with
 |ah=>aa ⟨rfl⟩
 |some _=>ah
noncomputable def dQ:SV->SV->Bool
 |.str _,.str _=>ai
 |.int _,.int _=>ai
 |.bool _,.bool _=>ai
 |_,_=>aj
noncomputable def bo (st b:Bool):SV:=@az (λu=>SV) (.sb b) (.bool b) st
noncomputable def stI (x y:SV) (i:Int):SV:=@az (λu=>SV) (.si i) (.int i) (dQ x y)
noncomputable def qK (x y:SV) (i:Str):SV:=@az (λu=>SV) (.ss i) (.str i) (dQ x y)
section
variable{W:Wd}{j:List Addr}{x y:SV}{v:Value}
theorem jZ{st b:Bool}:BR W (bo st b) b:=by cases st<;>rfl
theorem nH{i:Int}{t:Tok}:VR W j (stI x y i) (.int i t):=by unfold stI;cases dQ x y<;>exact⟨_,rfl⟩
theorem Gw{i:Str}{t:Tok}:VR W j (qK x y i) (.str i t):=by unfold qK;cases dQ x y<;>exact⟨_,rfl⟩
end
namespace VC
noncomputable def two {H u:Type} {S:Prop} (o:Option H) (p:Option u) (f:H->u->VC S) (n:VC S):VC S:=@aY H (λq=>VC S) n (λa=>@aY u (λq=>VC S) n (f a) p) o
noncomputable def one {H:Type} {S:Prop} (o:Option H) (f:H->VC S) (n:VC S:=no):VC S:=@aY H (λu=>VC S) n f o
end VC
noncomputable def Ba (t:Tm):Option {c:Nat//∀u,t.ev u=[c]}:=match t with
 |.n k l a b=>match k with
  |0=>match l with
   |[c]=>aa ⟨c,λq=>rfl⟩
   |_=>ah
  |_=>ah
 |.e=>ah
noncomputable def Gy (t:Tm):Option (PLift (∀u,t.ev u=[])):=match t with
 |.n k l a b=>match k with
  |0=>match l with
   |[]=>aa ⟨λq=>rfl⟩
   |_=>ah
  |_=>ah
 |.e=>aa ⟨λq=>rfl⟩
noncomputable def S6 (t:Tm):Option (PLift (∀u,∃c,t.ev u=[c])):=match t with
 |.n k l a b=>match k with
  |2=>aa ⟨λq=>⟨_,rfl⟩⟩
  |_=>ah
 |.e=>ah
theorem Bb{η:Ev}{c:Nat}{l b:List Nat}:cF η 1 [c] l b=decide (l=[c]):=by
 rw[lX,kX,decide_eq_true_iff]
 constructor
 ·rintro⟨d,rfl,h⟩
  rw[kW] at h
  cases e:aQ d c with
  |true=>rw[bJ e]
  |false=>rw[e] at h;cases h
 ·rintro rfl
  exact⟨c,rfl,by rw[kW,sX];rfl⟩
noncomputable def Gz (t:Tm):Option {l:List Nat//∀u,t.ev u=l}:=match t with
 |.n k l a b=>match k with
  |0=>aa ⟨l,λq=>rfl⟩
  |_=>ah
 |.e=>aa ⟨[],λq=>rfl⟩
theorem S7{a b:List Nat}:sS a b=decide (a=b):=by rw[lX,ET,decide_eq_true_iff]
noncomputable def eq2 (m:SS) (a b:Tm):{z:SV//∀{W:Wd},(∀f∈m.fa,f.ok W.η)->BR W z (decide (a.ev W.η=b.ev W.η))}:=
 @aY Bool (λo=>asks 2 [] b a m.fa=o->{z:SV//∀{W:Wd},(∀f∈m.fa,f.ok W.η)->BR W z (decide (a.ev W.η=b.ev W.η))}) (λu=>⟨jY m 2 [] a b,λh=>qI h⟩) (λv e=>⟨.bool v,λh=>(decide_eq_decide.mpr eq_comm).trans (mj e h)⟩) (asks 2 [] b a m.fa) rfl
noncomputable def eqT (m:SS) (a b:Tm):{z:SV//∀{W:Wd},(∀f∈m.fa,f.ok W.η)->BR W z (decide (a.ev W.η=b.ev W.η))}:=
 @az (λv=>dj a b=v->_) (λp=>match Gz a,Gz b with
  |some ⟨l,e⟩,aa ⟨q,u⟩=>⟨.bool (sS l q),λ{W} h=>by rw[e,u];exact S7.symm⟩
  |_,_=>match Ba a,Ba b with
  |some ⟨c,e⟩,_=>⟨jY m 1 [c] b .e,λ{W} h=>by have:=qI (k:=1) (l:=[c]) (a:=b) (b:=.e) h;rw[Bb] at this;rw[e,show decide ([c]=b.ev W.η)=decide (b.ev W.η=[c]) from decide_eq_decide.mpr eq_comm];exact this⟩
  |_,aa ⟨c,e⟩=>⟨jY m 1 [c] a .e,λh=>by have:=qI (k:=1) (l:=[c]) (a:=a) (b:=.e) h;rw[Bb] at this;rw[e];exact this⟩
  |_,_=>match S6 a,Gy b with
   |some ⟨e⟩,aa ⟨u⟩=>⟨.bool aj,λ{W} h=>by obtain⟨c,e⟩:=e W.η;rw[e,u];rfl⟩
   |_,_=>eq2 m a b) (λe=>⟨.bool ai,λh=>decide_eq_true (congrArg _ (fh e))⟩) (dj a b) rfl
theorem xo{a b:List Nat}:(ak a==ak b)=decide (a=b):=by
 rw[lX,beq_iff_eq,decide_eq_true_iff]
 exact⟨λh=>congrArg (λs:Str=>s.cps.toList) h,λh=>h▸rfl⟩
section
variable{G:Gx}{m:SS}{x y z:SV}
theorem aG.mk{f:Value->Value->Sem Value}{K:SV->SS->Prop}(h:∀c j s v u,At G c j m s->VR G.D j x v->VR G.D j y u->wpAny G.D.M c.A (f v u) (PE G c j K) (PX G c j) s):aG G f x y m K:=λc j s w a r=>h c j s w.1 w.2 a r.1 r.2
theorem At.truth{c:Cx}{j:List Addr}{s:Shared}{K:SV->SS->Prop}(a:At G c j m s){b:Bool}(r:BR G.D z b)(k:K z m):PE G c j K (.bool b) s:=a.give (pr _) r.VR k
section
variable{K:SV->SS->Prop}
theorem S8{a b:Str}(g:bT x a)(p:bT y b)(k:K (bo (dQ x y) (seq a b)) m):aG G (compareOp .Eq) x y m K:=.mk λc j s v u at_ r q=>by
 obtain⟨t,rfl⟩:=g r
 obtain⟨Y,rfl⟩:=p q
 exact PyProof.Rows.eq_str (by rw[kQ];exact at_.truth jZ k)
theorem S9{a b:Int}(g:bx x a)(p:bx y b)(k:K (bo (dQ x y) (decide (a=b))) m):aG G (compareOp .Eq) x y m K:=.mk λc j s v u at_ r q=>by
 obtain⟨t,rfl⟩:=g r
 obtain⟨Y,rfl⟩:=p q
 exact PyProof.Rows.eq_int (at_.truth jZ k)
theorem Tc{a b:Tm}(g:IsT x a)(p:IsT y b)(k:K (eqT m a b).1 m):aG G (compareOp .Eq) x y m K:=.mk λc j s v u at_ r q=>by
 obtain⟨t,rfl⟩:=g r
 obtain⟨Y,rfl⟩:=p q
 exact PyProof.Rows.eq_str (by rw[xo];exact at_.truth ((eqT m a b).2 at_.fa) k)
theorem Td{b:Tm}(g:tM x)(p:IsT y b)(k:K (.bool aj) m):aG G (compareOp .Eq) x y m K:=.mk λc j s v u a r q=>by
 obtain rfl:=g r
 obtain⟨_,rfl⟩:=p q
 exact EqNone.eq_none_str (a.truth (z:=.bool aj) rfl k)
theorem Te{b:Tm}(g:IsT x b)(p:tM y)(k:K (.bool aj) m):aG G (compareOp .Eq) x y m K:=.mk λc j s v u a r q=>by
 obtain⟨_,rfl⟩:=g r
 obtain rfl:=p q
 exact EqNone.eq_str_none (a.truth (z:=.bool aj) rfl k)
theorem Tf{a b:Str}(g:bT x a)(p:bT y b)(k:K (bo (dQ x y) (!seq a b)) m):aG G (compareOp .NotEq) x y m K:=.mk λc j s v u at_ r q=>by
 obtain⟨t,rfl⟩:=g r
 obtain⟨Y,rfl⟩:=p q
 refine PyProof.Rows.ne_str ?_
 rw[bne,kQ];exact at_.truth jZ k
theorem Tg{a b:Int}(g:bx x a)(p:bx y b)(k:K (bo (dQ x y) (!decide (a=b))) m):aG G (compareOp .NotEq) x y m K:=.mk λc j s v u at_ r q=>by
 obtain⟨t,rfl⟩:=g r
 obtain⟨Y,rfl⟩:=p q
 exact P.ne_int (at_.truth jZ k)
theorem Th{a b:Bool}(g:A7 x a)(p:A7 y b)(k:K (bo (dQ x y) (a !=b)) m):aG G (compareOp .NotEq) x y m K:=.mk λc j s v u at_ r q=>by
 obtain rfl:=g r
 obtain rfl:=p q
 exact PyProof.Rows.ne_bool (at_.truth jZ k)
theorem Ti{b:Tm}(g:tM x)(p:IsT y b)(k:K (.bool ai) m):aG G (compareOp .NotEq) x y m K:=.mk λc j s v u at_ r q=>by
 obtain rfl:=g r
 obtain⟨Y,rfl⟩:=p q
 exact EqNone.ne_none_str (at_.truth (z:=.bool ai) rfl k)
theorem Tj{a b:Str}(g:bT x a)(p:bT y b)(k:K (bo (dQ x y) (decide (a.cps.toList<b.cps.toList))) m):aG G (compareOp .Lt) x y m K:=.mk λc j s v u at_ r q=>by
 obtain⟨t,rfl⟩:=g r
 obtain⟨Y,rfl⟩:=p q
 exact PyProof.Rows.lt_str (at_.truth jZ k)
theorem Tn{a b:Str}(g:bT x a)(p:bT y b)(k:K (bo (dQ x y) (!decide (b.cps.toList<a.cps.toList))) m):aG G (compareOp .LtE) x y m K:=.mk λc j s v u at_ r q=>by
 obtain⟨t,rfl⟩:=g r
 obtain⟨Y,rfl⟩:=p q
 exact P.le_str (at_.truth jZ k)
theorem To{a b:Int}(g:bx x a)(p:bx y b)(k:K (bo (dQ x y) (decide (a<b))) m):aG G (compareOp .Lt) x y m K:=.mk λc j s v u at_ r q=>by
 obtain⟨t,rfl⟩:=g r
 obtain⟨Y,rfl⟩:=p q
 exact PyProof.Rows.lt_int (at_.truth jZ k)
theorem Tq{a b:Int}(g:bx x a)(p:bx y b)(k:K (bo (dQ x y) (decide (a<=b))) m):aG G (compareOp .LtE) x y m K:=.mk λc j s v u at_ r q=>by
 obtain⟨t,rfl⟩:=g r
 obtain⟨Y,rfl⟩:=p q
 exact PyProof.Rows.le_int (at_.truth jZ k)
theorem Tt{a b:Int}(g:bx x a)(p:bx y b)(k:K (bo (dQ x y) (decide (b<a))) m):aG G (compareOp .Gt) x y m K:=.mk λc j s v u at_ r q=>by
 obtain⟨t,rfl⟩:=g r
 obtain⟨Y,rfl⟩:=p q
 exact PyProof.Rows.gt_int (at_.truth jZ k)
theorem Tu{a b:Int}(g:bx x a)(p:bx y b)(k:K (bo (dQ x y) (decide (b<=a))) m):aG G (compareOp .GtE) x y m K:=.mk λc j s v u at_ r q=>by
 obtain⟨t,rfl⟩:=g r
 obtain⟨Y,rfl⟩:=p q
 exact PyProof.Rows.ge_int (at_.truth jZ k)
end
variable(G m x y)(K:SV->SS->Tr)
noncomputable def Tv:VG G (aG G (compareOp .Eq) x y m (hh K)):=
 .two (bD x) (bD y) (λa b=>fin K (bo (dQ x y) (seq a.1 b.1)) m (S8 a.2 b.2))<|
 .two (bF x) (bF y) (λa b=>fin K (bo (dQ x y) (decide (a.1=b.1))) m (S9 a.2 b.2))<|
 .two (fC x) (fC y) (λa b=>fin K (eqT m a.1 b.1).1 m (Tc a.2 b.2))<|
 .two (qJ x) (fC y) (λa b=>fin K (.bool aj) m (Td a.1 b.2))<|
 .two (fC x) (qJ y) (λa b=>fin K (.bool aj) m (Te a.2 b.1)) .no
noncomputable def GA:VG G (aG G (compareOp .NotEq) x y m (hh K)):=
 .two (bD x) (bD y) (λa b=>fin K (bo (dQ x y) (!seq a.1 b.1)) m (Tf a.2 b.2))<|
 .two (bF x) (bF y) (λa b=>fin K (bo (dQ x y) (!decide (a.1=b.1))) m (Tg a.2 b.2))<|
 .two (xm x) (xm y) (λa b=>fin K (bo (dQ x y) (a.1 !=b.1)) m (Th a.2 b.2))<|
 .two (qJ x) (fC y) (λa b=>fin K (.bool ai) m (Ti a.1 b.2)) .no
noncomputable def Tw:VG G (aG G (compareOp .Lt) x y m (hh K)):=
 .two (bD x) (bD y) (λa b=>fin K (bo (dQ x y) (decide (a.1.cps.toList<b.1.cps.toList))) m (Tj a.2 b.2))<|
 .two (bF x) (bF y) (λa b=>fin K (bo (dQ x y) (decide (a.1<b.1))) m (To a.2 b.2)) .no
noncomputable def Tz:VG G (aG G (compareOp .LtE) x y m (hh K)):=
 .two (bD x) (bD y) (λa b=>fin K (bo (dQ x y) (!decide (b.1.cps.toList<a.1.cps.toList))) m (Tn a.2 b.2))<|
 .two (bF x) (bF y) (λa b=>fin K (bo (dQ x y) (decide (a.1<=b.1))) m (Tq a.2 b.2)) .no
noncomputable def TA:VG G (aG G (compareOp .Gt) x y m (hh K)):=
 .two (bF x) (bF y) (λa b=>fin K (bo (dQ x y) (decide (b.1<a.1))) m (Tt a.2 b.2)) .no
noncomputable def TF:VG G (aG G (compareOp .GtE) x y m (hh K)):=
 .two (bF x) (bF y) (λa b=>fin K (bo (dQ x y) (decide (b.1<=a.1))) m (Tu a.2 b.2)) .no
end
end
section
open PySem.SeqAt
theorem nn{v u:Value}{b:Bool}(e:v=u)(h:(u==jx)=b):(v==jx)=b:=e▸h
noncomputable def isNone (x:SV):Option {b:Bool//Is x λu v=>(v==jx)=b}:=match x with
 |.none=>aa ⟨ai,λr=>nn r rfl⟩
 |.bool _=>aa ⟨aj,λr=>nn r rfl⟩
 |.int _=>aa ⟨aj,λ⟨_,r⟩=>nn r rfl⟩
 |.str _=>aa ⟨aj,λ⟨_,r⟩=>nn r rfl⟩
 |.ss _=>aa ⟨aj,λ⟨_,r⟩=>nn r rfl⟩
 |.tm _=>aa ⟨aj,λ⟨_,r⟩=>nn r rfl⟩
 |.obj _=>aa ⟨aj,λ⟨_,_,r⟩=>nn r rfl⟩
 |_=>ah
noncomputable def isBool (b:Bool) (x:SV):Option {z:SV×SV//Is x λW v=>plainIs v (.bool b)=ai/\BR W z.1 (v==kO b)/\BR W z.2 (!(v==kO b))}:=match x with
 |.bool c=>aa ⟨(.bool (c==b),.bool (!(c==b))),λr=>by obtain rfl:=r;cases b<;>cases c<;>exact⟨rfl,rfl,rfl⟩⟩
 |.sb c=>aa ⟨(.sb (c==b),.sb (!(c==b))),λr=>by obtain rfl:=r;cases b<;>cases c<;>exact⟨rfl,rfl,rfl⟩⟩
 |.none=>aa ⟨(.bool aj,.bool ai),λr=>by obtain rfl:=r;exact⟨rfl,rfl,rfl⟩⟩
 |_=>ah
noncomputable def eV:Value->Value->Bool
 |.none,.none=>ai
 |.int a _,.int b _=>a==b
 |.str a _,.str b _=>a==b
 |_,_=>aj
noncomputable def qL (v:Value):Prop:=v=.none\/(∃a t,v=.int a t)\/∃a t,v=.str a t
theorem TG{A:Around}{s:Shared}{y x:Value}(u:qL y)(v:qL x):EqAt A s y x (eV y x):=by
 rcases u with rfl|⟨_,_,rfl⟩|⟨_,_,rfl⟩
 ·rcases v with rfl|⟨_,_,rfl⟩|⟨_,_,rfl⟩
  ·exact EqAt.same _
  ·exact EqAt.none_int _ _
  ·exact EqAt.none_str _ _
 ·rcases v with rfl|⟨_,_,rfl⟩|⟨_,_,rfl⟩
  ·exact EqAt.int_none _ _
  ·exact EqAt.int_int _ _ _ _
  ·exact EqAt.int_str _ _ _ _
 ·rcases v with rfl|⟨_,_,rfl⟩|⟨_,_,rfl⟩
  ·exact EqAt.str_none _ _
  ·exact EqAt.str_int _ _ _ _
  ·exact EqAt.str_str _ _ _ _
structure eE where
 n:Bool
 i:List Int
 s:List Str
noncomputable def gh (a:Int) (l:List Int):Bool:=bE aj (λk v p=>@az (λv=>Bool) p ai (decide (a=k))) l
structure eE.Of (f:eE) (j:List Value):Prop where
 a:∀v∈j,qL v
 n:j.any (eV · .none)=f.n
 i:∀a t,j.any (eV · (.int a t))=gh a f.i
 s:∀a t,j.any (eV · (.str a t))=has a f.s
section
variable{f:eE}{j:List Value}(h:f.Of j)
include h
theorem eE.Of.all{v:Value}(q:qL v):∀u∈v::j,qL u:=λu p=>(b7.mp p).elim (λe=>e▸q) (h.a u)
theorem eE.Of.cn:eE.Of ⟨ai,f.i,f.s⟩ (.none::j):=⟨h.all (.inl rfl),rfl,h.i,h.s⟩
theorem eE.Of.ci{a:Int}{t:Tok}:eE.Of ⟨f.n,a::f.i,f.s⟩ (.int a t::j):=⟨h.all (.inr (.inl ⟨_,_,rfl⟩)),h.n,λb u=>by
 show(decide (a=b)||_)=@az (λv=>Bool) (gh b f.i) ai (decide (b=a))
 rw[h.i,show decide (a=b)=decide (b=a) from decide_eq_decide.mpr eq_comm]
 cases decide (b=a)<;>rfl,h.s⟩
theorem eE.Of.cs{a:Str}{t:Tok}:eE.Of ⟨f.n,f.i,a::f.s⟩ (.str a t::j):=⟨h.all (.inr (.inr ⟨_,_,rfl⟩)),h.n,h.i,λb u=>by
 show((a==b)||_)=@az (λv=>Bool) (has b f.s) ai (seq b a)
 rw[h.s,show(a==b)=seq b a by rw[kQ,lX,b9,b9,eq_comm]]
 cases seq b a<;>rfl⟩
end
noncomputable def xq (v:List SV):Option {f:eE//∀{W:Wd} {k:List Addr} {j:List Value},aM W k v j->f.Of j}:=
 @bE SV (λv=>Option {f:eE//∀{W:Wd} {k:List Addr} {j:List Value},aM W k v j->f.Of j})
  (aa ⟨⟨aj,[],[]⟩,λr=>by cases r;exact⟨λu h=>(by cases h),rfl,λu u=>rfl,λu u=>rfl⟩⟩)
  (λx v Y=>match Y with
    |some ⟨f,B⟩=>match bF x with
     |some ⟨a,p⟩=>aa ⟨⟨f.n,a::f.i,f.s⟩,λr=>by cases r using Each.ec with|cons q r=>obtain⟨t,rfl⟩:=p q;exact(B r).ci⟩
     |ah=>match bD x with
      |some ⟨a,p⟩=>aa ⟨⟨f.n,f.i,a::f.s⟩,λr=>by cases r using Each.ec with|cons q r=>obtain⟨t,rfl⟩:=p q;exact(B r).cs⟩
      |ah=>match qJ x with
       |some ⟨p⟩=>aa ⟨⟨ai,f.i,f.s⟩,λr=>by cases r using Each.ec with|cons q r=>obtain rfl:=p q;exact(B r).cn⟩
       |ah=>ah
    |ah=>ah) v
noncomputable def ones (v:List Str):Option {S:List Nat//∀(k:Ev) (l:List Nat),has (ak l) v=cF k 1 S l []}:=
 @bE Str (λv=>Option {S:List Nat//∀(k:Ev) (l:List Nat),has (ak l) v=cF k 1 S l []})
  (aa ⟨[],λk l=>(by cases e:cF k 1 [] l [] with|false=>rfl|true=>obtain⟨c,_,h⟩:=kX.mp e;cases h)⟩)
  (λa v p=>match p,Ba (lit a.cps.toList) with
    |some ⟨S,q⟩,aa ⟨c,u⟩=>aa ⟨c::S,λk l=>by
      have ea:a.cps.toList=[c]:=u k
      have M:cF k 1 (c::S) l []=(decide (l=[c])||cF k 1 S l []):=by
       rw[<-Bb (η:=k) (b:=[]),lX,lW,kX,kX,kX]
       simp only[kW,lW]
       exact⟨λ⟨d,e,h⟩=>h.imp (λh=>⟨d,e,.inl h⟩) λh=>⟨d,e,h⟩,λh=>h.elim (λ⟨d,e,h⟩=>⟨d,e,.inl (h.resolve_right λh=>(by cases h))⟩) λ⟨d,e,h⟩=>⟨d,e,.inr h⟩⟩
      have Y:seq (ak l) a=decide (l=[c]):=by rw[<-kQ,show a=ak a.cps.toList from rfl,xo,ea]
      show@az (λV=>Bool) (has (ak l) v) ai (seq (ak l) a)=_
      rw[q k l,M,Y]
      cases decide (l=[c])<;>rfl⟩
    |_,_=>ah) v
noncomputable abbrev tP (m:SS) (x:SV) (f:eE) (z:SV):Prop:=∀{W:Wd} {u:List Addr} {v:Value} {j:List Value},(∀f∈m.fa,f.ok W.η)->VR W u x v->f.Of j->qL v/\BR W z (j.any (eV · v))
noncomputable def GB (m:SS) (x:SV) (f:eE):Option {z:SV//tP m x f z}:=match x with
 |.none=>aa ⟨.bool f.n,λv r h=>by obtain rfl:=r;exact⟨.inl rfl,h.n⟩⟩
 |.str a=>aa ⟨.bool (has a f.s),λv r h=>by obtain⟨_,rfl⟩:=r;exact⟨.inr (.inr ⟨_,_,rfl⟩),h.s _ _⟩⟩
 |.ss a=>aa ⟨.sb (has a f.s),λv r h=>by obtain⟨_,rfl⟩:=r;exact⟨.inr (.inr ⟨_,_,rfl⟩),h.s _ _⟩⟩
 |.int a=>aa ⟨.bool (gh a f.i),λv r h=>by obtain⟨_,rfl⟩:=r;exact⟨.inr (.inl ⟨_,_,rfl⟩),h.i _ _⟩⟩
 |.si a=>aa ⟨.sb (gh a f.i),λv r h=>by obtain⟨_,rfl⟩:=r;exact⟨.inr (.inl ⟨_,_,rfl⟩),h.i _ _⟩⟩
 |.tm t=>match ones f.s with
  |some ⟨S,u⟩=>aa ⟨jY m 1 S t .e,λq r h=>by obtain⟨_,rfl⟩:=r;exact⟨.inr (.inr ⟨_,_,rfl⟩),by rw[h.s,u];exact qI q⟩⟩
  |ah=>ah
 |_=>ah
section
variable{G:Gx}{m:SS}{x y z:SV}{i:Nat}
section
variable{K:SV->SS->Prop}
theorem TH{b:Bool}(h:Is x λY v=>(v==jx)=b)(k:K (.bool b) m):aG G (compareOp .Is) x .none m K:=.mk λc p s v u a r q=>by
 obtain rfl:=q
 exact is_none_gen (a.truth (z:=.bool b) (h r) k)
theorem TL{b:Bool}(h:Is x λY v=>(v==jx)=b)(k:K (.bool (!b)) m):aG G (compareOp .IsNot) x .none m K:=.mk λc p s v u a r q=>by
 obtain rfl:=q
 exact isnot_none_gen (a.truth (z:=.bool (!b)) (congrArg (!·) (h r)) k)
theorem TM{b:Bool}{w:SV}(h:Is x λW v=>plainIs v (.bool b)=ai/\BR W z (v==kO b)/\BR W w (!(v==kO b)))(k:K z m):aG G (compareOp .Is) x (.bool b) m K:=.mk λc Y s v u a r q=>by
 obtain rfl:=q
 obtain⟨p,M,_⟩:=h r
 exact wpAny_is_plain p (a.truth M k)
theorem TN{b:Bool}{w:SV}(h:Is x λW v=>plainIs v (.bool b)=ai/\BR W w (v==kO b)/\BR W z (!(v==kO b)))(k:K z m):aG G (compareOp .IsNot) x (.bool b) m K:=.mk λc Y s v u a r q=>by
 obtain rfl:=q
 obtain⟨p,_,M⟩:=h r
 exact wpAny_isNot_plain p (a.truth M k)
theorem TQ{b:Bool}{k:Nat}{l:List Nat}{p q:Tm}(V:K (.bool b) (m.add k l p q ai))(Y:K (.bool !b) (m.add k l p q aj)):aG G (compareOp .Is) (.bm k l p q) (.bool b) m K:=.mk λc U s v u a r w=>by
 obtain rfl:=w
 obtain rfl:=r
 cases e:cF G.D.η k l (p.ev G.D.η) (q.ev G.D.η) with
 |true=>exact wpAny_is_plain rfl ((a.add e.symm).truth (z:=.bool b) (by cases b<;>rfl) V)
 |false=>exact wpAny_is_plain rfl ((a.add e.symm).truth (z:=.bool !b) (by cases b<;>rfl) Y)
theorem GC{b:Addr}{f:eE}{j:List Value}{c:Cx}{p:List Addr}{s:Shared}{v:Value}(a:At G c p m s)(r:VR G.D p x v)(q:f.Of j)(V:s.heap.IsTuple b j.toArray)(h:tP m x f z)(k:K z m):wpAny G.D.M c.A (compareOp .In v (.ref b)) (PE G c p K) (PX G c p) s:=by
 obtain⟨U,u⟩:=h a.fa r q
 refine in_tupleAt (λy=>eV y v) V (λy Y=>TG (q.a y (by simpa using Y)) U) ?_
 rw[show(j.toArray.any λy=>eV y v)=j.any (eV · v) by simp]
 exact a.truth u k
theorem GD{t:Addr}{Y:List SV}{f:eE}(V:aU t G.T.tups=aa Y)(B:∀{W:Wd} {p:List Addr} {j:List Value},aM W p Y j->f.Of j)(h:tP m x f z)(k:K z m):aG G (compareOp .In) x (.val (.ref t)) m K:=.mk λc p s v u a r q=>by
 obtain rfl:=q
 obtain⟨M,n,A,j,O,U⟩:=a.tk.tup _ (gw V)
 exact GC a r (B U) ⟨_,a.X _ _ O,rfl,n,rfl⟩ h k
theorem GF{xs:List SV}{f:eE}(Y:m.objs.list[i]? =aa (.tup xs))(B:∀{W:Wd} {p:List Addr} {j:List Value},aM W p xs j->f.Of j)(h:tP m x f z)(k:K z m):aG G (compareOp .In) x (.obj i) m K:=.mk λc p s v u a r q=>by
 obtain⟨b,j,rfl,f,l⟩:=a.tup Y q
 exact GC a r (B f) l h k
end
variable(G m x y)(K:SV->SS->Tr)
noncomputable def TR (y:SV):VG G (aG G (compareOp .Is) x y m (hh K)):=match y with
 |.none=>.one (isNone x) λb=>fin K (.bool b.1) m (TH b.2)
 |.bool b=>match x with
  |.bm k l p q=>⟨.and (K (.bool b) (m.add k l p q ai)) (K (.bool !b) (m.add k l p q aj)),λh v=>TQ h.1 h.2⟩
  |x=>.one (isBool b x) λz=>fin K z.1.1 m (TM z.2)
 |_=>.no
noncomputable def TS (y:SV):VG G (aG G (compareOp .IsNot) x y m (hh K)):=match y with
 |.none=>.one (isNone x) λb=>fin K (.bool !b.1) m (TL b.2)
 |.bool b=>.one (isBool b x) λz=>fin K z.1.2 m (TN z.2)
 |_=>.no
noncomputable def GG (y:SV):VG G (aG G (compareOp .In) x y m (hh K)):=match y with
 |.val v=>match v with
  |.ref t=>.opt (aU t G.T.tups) λu q=>.one (xq u) λf=>.one (GB m x f.1) λz=>fin K z.1 m (GD q f.2 z.2)
  |_=>.no
 |.obj i=>.dJ m.objs (i) λo p=>.one (tN o) λu=>.one (xq u.1) λf=>.one (GB m x f.1) λz=>fin K z.1 m (GF (u.2▸p) f.2 z.2)
 |_=>.no
end
end
set_option tactic.hygienic true in
theorem xr{x y:Str}{t u:Tok}{Q:Value->Shared->Prop}{s:Shared}(v:x.length+y.length<=sizeLine)(h:∀m k,s.toks<=k->Q (.str (x++y) m) {s with toks:=k}):
 (if x.length==0 then Made.val (.str y u) else if y.length==0 then Made.val (.str x t) else Made.str (x++y)).post Q s:=by
 have p:∀z:Str,(z.length==0)=ai->z=⟨#[]⟩:=λz v=>by
  cases z with
  |mk c=>congr 1;exact Array.eq_empty_of_size_eq_zero (by simpa[iQ] using v)
 split
 ·rename_i e
  have q:x++y=y:=by rw[p x e];show wG _ y=y;cases y;simp[wG]
  have:=h u s.toks (aH _)
  rw[q] at this;exact this
 ·split
  ·rename_i e
   have q:x++y=x:=by rw[p y e];show wG x _=x;cases x;simp[wG]
   have:=h t s.toks (aH _)
   rw[q] at this;exact this
  ·exact⟨by rw[strLen_append];exact v,h _ _ (eg _)⟩
theorem GH{a b:List Nat}:ak a++ak b=ak (a++b):=by show wG _ _=_;simp[wG,ak]
theorem cP{a:List Nat}:(ak a).length=a.length:=by simp[ak,iQ]
section
variable{G:Gx}{j:SS}{x y z:SV}
section
variable{K:SV->SS->Prop}{a b:Int}
theorem TU(m:bx x a)(p:bx y b)(k:K (stI x y (a+b)) j):aG G (binaryOp .Add) x y j K:=.mk λc g s v u at_ r q=>by
 obtain⟨t,rfl⟩:=m r
 obtain⟨Y,rfl⟩:=p q
 exact P.add_int (at_.t1.give (pr _) nH k)
theorem TX(m:bx x a)(p:bx y b)(k:K (stI x y (a+b)) j):aG G (inplaceOp .Add) x y j K:=.mk λc g s v u at_ r q=>by
 obtain⟨t,rfl⟩:=m r
 obtain⟨Y,rfl⟩:=p q
 exact P.iadd_int (at_.t1.give (pr _) nH k)
theorem TY(m:bx x a)(p:bx y b)(k:K (stI x y (a-b)) j):aG G (binaryOp .Sub) x y j K:=.mk λc g s v u at_ r q=>by
 obtain⟨t,rfl⟩:=m r
 obtain⟨Y,rfl⟩:=p q
 exact P.sub_int (at_.t1.give (pr _) nH k)
theorem TZ(m:bx x a)(p:bx y b)(k:K (stI x y (a-b)) j):aG G (inplaceOp .Sub) x y j K:=.mk λc g s v u at_ r q=>by
 obtain⟨t,rfl⟩:=m r
 obtain⟨Y,rfl⟩:=p q
 exact P.isub_int (at_.t1.give (pr _) nH k)
theorem Bc(g:bx x a)(m:bx y b)(p:decide (b=0)=aj)(k:K (stI x y (a.fmod b)) j):aG G (binaryOp .Mod) x y j K:=.mk λc Y s v u at_ r q=>by
 obtain⟨t,rfl⟩:=g r
 obtain⟨V,rfl⟩:=m q
 exact mod_int' (of_decide_eq_false p) (at_.t1.give (pr _) nH k)
theorem T3(g:bx x a)(m:bx y b)(p:IntMulOk a b)(k:K (stI x y (a*b)) j):aG G (binaryOp .Mult) x y j K:=.mk λc Y s v u at_ r q=>by
 obtain⟨t,rfl⟩:=g r
 obtain⟨V,rfl⟩:=m q
 exact mul_int (at_.t1.give (pr _) nH k) p
theorem GI(Y:bx x a)(g:bx y b)(m:decide (b=0)=aj)(p:zX a b=aj)(k:K (stI x y (a.fdiv b)) j):aG G (binaryOp .FloorDiv) x y j K:=.mk λc V s v u at_ r q=>by
 obtain⟨t,rfl⟩:=Y r
 obtain⟨U,rfl⟩:=g q
 exact floordiv_int (of_decide_eq_false m) (at_.t1.give (pr _) nH k) (.inl p)
theorem T4(u:bx x a)(k:K (stI x x (-a)) j):jB G (unaryOp .USub) x j K:=λc q s v at_ r=>by
 obtain⟨t,rfl⟩:=u r
 exact P.neg_int (at_.t1.give (pr _) nH k)
end
section
variable{K:SV->SS->Prop}
theorem T5{a b:Str}(Y:bT x a)(m:bT y b)(p:a.length+b.length<=sizeLine)(k:K (qK x y (a++b)) j):aG G (binaryOp .Add) x y j K:=.mk λc U s v u at_ r q=>by
 obtain⟨t,rfl⟩:=Y r
 obtain⟨O,rfl⟩:=m q
 exact PySem.P.add_str (xr p λt g V=>(at_.tok V).give (pr _) Gw k)
theorem T6{a b:Str}(Y:bT x a)(m:bT y b)(p:a.length+b.length<=sizeLine)(k:K (qK x y (a++b)) j):aG G (inplaceOp .Add) x y j K:=.mk λc U s v u at_ r q=>by
 obtain⟨t,rfl⟩:=Y r
 obtain⟨O,rfl⟩:=m q
 exact PySem.P.iadd_str (xr p λt g V=>(at_.tok V).give (pr _) Gw k)
theorem GJ{W:Wd}{a b:Tm}(h:aD (a.bd+b.bd) 1000000=ai):(ak (a.ev W.η)).length+(ak (b.ev W.η)).length<=sizeLine:=by
 rw[cP,cP,sizeLine_eq]
 exact aq (fZ (a.oH W.kR) (b.oH W.kR)) (aq (aB h) (by decide))
theorem T7{a b:Tm}(Y:IsT x a)(m:IsT y b)(p:aD (a.bd+b.bd) 1000000=ai)(k:K (.tm (cat a b)) j):aG G (binaryOp .Add) x y j K:=.mk λc O s v u at_ r q=>by
 obtain⟨t,rfl⟩:=Y r
 obtain⟨M,rfl⟩:=m q
 exact PySem.P.add_str (xr (GJ p) λt g U=>(at_.tok U).give (V:=VR G.D) (x:=.tm (cat a b)) (pr _) ⟨_,by rw[GH];rfl⟩ k)
theorem T8{a b:Tm}(Y:IsT x a)(m:IsT y b)(p:aD (a.bd+b.bd) 1000000=ai)(k:K (.tm (cat a b)) j):aG G (inplaceOp .Add) x y j K:=.mk λc O s v u at_ r q=>by
 obtain⟨t,rfl⟩:=Y r
 obtain⟨M,rfl⟩:=m q
 exact PySem.P.iadd_str (xr (GJ p) λt g U=>(at_.tok U).give (V:=VR G.D) (x:=.tm (cat a b)) (pr _) ⟨_,by rw[GH];rfl⟩ k)
end
theorem At.tell{c:Cx}{v:List Addr}{s:Shared}{K:SV->SS->Prop}(a:At G c v j s){b:Bool}(r:BR G.D z b)(k:K z j):PT G c v K b s:=a.give (V:=λu=>BR G.D) (pr _) r k
noncomputable def st1 (x:SV) (b:Bool):SV:=match x with
 |.str _=>.bool b
 |.int _=>.bool b
 |_=>.sb b
theorem GK{W:Wd}{x:SV}{b:Bool}:BR W (st1 x b) b:=by cases x<;>rfl
section
variable{K:SV->SS->Prop}
theorem T9(h:tM x)(k:K (.bool aj) j):gP G x j K:=λc u s v a r=>by
 obtain rfl:=h r
 exact truthy_none (a.tell (z:=.bool aj) rfl k)
theorem mq(h:∀{W:Wd} {u:List Addr} {v:Value},VR W u x v->∃b,v=.bool b/\BR W x b)(k:K x j):gP G x j K:=λc u s v a r=>by
 obtain⟨b,rfl,q⟩:=h r
 exact wpAny_truthy_bool (a.tell q k)
theorem Ua{k:Nat}{l:List Nat}{p q:Tm}(h:K (jY j k l p q) j):gP G (.bm k l p q) j K:=λc u s v a r=>by
 obtain rfl:=r
 exact wpAny_truthy_bool (a.tell (qI a.fa) h)
theorem GL{i:Int}(h:bx x i)(k:K (st1 x (!decide (i=0))) j):gP G x j K:=λc u s v a r=>by
 obtain⟨t,rfl⟩:=h r
 exact P.truthy_int (a.tell GK k)
theorem GN{i:Str}(h:bT x i)(u:i.length<=sizeLine)(k:K (st1 x (!aQ i.length 0)) j):gP G x j K:=λc q s v a r=>by
 obtain⟨t,rfl⟩:=h r
 refine P.truthy_str (by rw[sizeLine_eq] at u;exact Om.L0 u) (a.t2.tell ?_ k)
 have e:((i.length:Int) !=0)=!aQ i.length 0:=by
  rw[lX]
  simp
  exact⟨λh=>z7.mpr λe=>h (bJ e),λh e=>by rw[e] at h;cases h⟩
 rw[e];exact GK
theorem Ub{i:Nat}{p:List SV}(g:j.objs.list[i]? =aa (.list ah p))(m:aD p.length 1000=ai)(k:K (.bool (!aQ p.length 0)) j):gP G (.obj i) j K:=λc V s v a r=>by
 obtain⟨b,U,q,rfl,rfl,f,Y⟩:=a.list g r
 have u:=aB m
 refine wpAny_truthy_list Y (by have:=f.len;simp;exact Om.L1 u this) (a.t2.tell (z:=.bool _) ?_ k)
 rw[f.len]
 cases q<;>rfl
theorem Uc:typeLookup (.type "method") "__bool__"=pure none:=by rw[typeLookup_type,builtinLookup_eq_fast];kernel_rfl
theorem Ud:typeLookup (.type "method") "__len__"=pure none:=by rw[typeLookup_type,builtinLookup_eq_fast];kernel_rfl
theorem Ue{i:Nat}{f:Addr}{w:SV}(p:j.objs.list[i]? =aa (.aI f w))(k:K (.bool ai) j):gP G (.obj i) j K:=λc Y s v a r=>by
 obtain⟨b,m,rfl,_,⟨A,B,l,g,O,V,F,N,_,_⟩⟩:=a.eZ p r
 obtain⟨u,rfl,_⟩:=O
 have q:s.TypeIs (.ref b) "method":=⟨_,(N _ (bV _ (.head _))).1,rfl⟩
 unfold truthy
 refine wpAny_bind (wpAny_callSpecial?_none (name:=af "__bool__") q Uc ?_)
 refine wpAny_bind (wpAny_specialOf (name:=af "__len__") q Ud ?_)
 exact wpAny_pure (a.tell (z:=.bool ai) rfl k)
end
variable(G j x y)(K:SV->SS->Tr)
noncomputable def Ug:VG G (aG G (binaryOp .Add) x y j (hh K)):=
 .two (bF x) (bF y) (λa b=>fin K (stI x y (a.1+b.1)) j (TU a.2 b.2))<|
 .two (bD x) (bD y) (λa b=>.need (a.1.length+b.1.length<=sizeLine) ⟨K (qK x y (a.1++b.1)) j,λh p v=>T5 (K:=hh K) a.2 b.2 p h⟩)<|
 .two (fC x) (fC y) (λa b=>.aW (aD (a.1.bd+b.1.bd) 1000000) λh=>fin K (.tm (cat a.1 b.1)) j (T7 a.2 b.2 h)) .no
noncomputable def Uh:VG G (aG G (inplaceOp .Add) x y j (hh K)):=
 .two (bF x) (bF y) (λa b=>fin K (stI x y (a.1+b.1)) j (TX a.2 b.2))<|
 .two (bD x) (bD y) (λa b=>.need (a.1.length+b.1.length<=sizeLine) ⟨K (qK x y (a.1++b.1)) j,λh p v=>T6 (K:=hh K) a.2 b.2 p h⟩)<|
 .two (fC x) (fC y) (λa b=>.aW (aD (a.1.bd+b.1.bd) 1000000) λh=>fin K (.tm (cat a.1 b.1)) j (T8 a.2 b.2 h)) .no
noncomputable def Bd (A:Operator):VG G (aG G (inplaceOp A) x y j (hh K)):=match A with
 |.Add=>Uh G j x y K
 |.Sub=>.two (bF x) (bF y) (λa b=>fin K (stI x y (a.1-b.1)) j (TZ a.2 b.2)) .no
 |_=>.no
noncomputable def Ui (A:UnaryOp):VG G (jB G (unaryOp A) x j (hh K)):=match A with
 |.USub=>.one (bF x) λa=>fin K (stI x x (-a.1)) j (T4 a.2)
 |_=>.no
noncomputable def oR:VG G (gP G x j (hh K)):=match x with
 |.none=>fin K (.bool aj) j (T9 id)
 |.bool b=>fin K (.bool b) j (mq λr=>⟨b,r,rfl⟩)
 |.sb b=>fin K (.sb b) j (mq λr=>⟨b,r,rfl⟩)
 |.bm k l p q=>fin K (jY j k l p q) j Ua
 |.int i=>fin K (.bool (!decide (i=0))) j (GL (x:=.int i) id)
 |.si i=>fin K (.sb (!decide (i=0))) j (GL (x:=.si i) id)
 |.str a=>.aW (aD a.length 1000000) λh=>fin K (.bool (!aQ a.length 0)) j (GN (x:=.str a) id (aq (aB h) (by rw[sizeLine_eq];decide)))
 |.ss a=>.need (a.length<=sizeLine) ⟨K (.sb (!aQ a.length 0)) j,λh p m=>GN (x:=.ss a) (K:=hh K) id p h⟩
 |.obj i=>.dJ j.objs (i) λo u=>match o,u with
  |.list p v,u=>match p,u with
   |ah,u=>.aW (aD v.length 1000) λh=>fin K (.bool (!aQ v.length 0)) j (Ub u h)
   |some _,_=>.no
  |.aI _ _,u=>fin K (.bool ai) j (Ue u)
  |_,_=>.no
 |_=>.no
end
section
variable{G:Gx}{Y:SS}{x y z:SV}{i:Nat}{C:Addr}{V:List (Str×SV)}{U:CI}{nm:Str}
section
variable{K:SV->SS->Prop}
theorem At.jC{c:Cx}{v:List Addr}{s:Shared}(a:At G c v Y s)(g:aU C G.T.cls=aa U):wZ G.D.K U/\U.C=C:=a.tk.cls _ (gw g)
theorem FR.Be{W:Wd}{u:List Addr}{q:List DictEntry}(r:FR W u V q)(h:lk nm V=aa x):∃v,getL nm q=aa (aa v)/\VR W u x v:=by have:=r.get (n:=nm);rw[h] at this;exact this
theorem FR.qM{W:Wd}{u:List Addr}{v:List DictEntry}(r:FR W u V v)(h:lk nm V=ah):getL nm v=aa ah:=by have:=r.get (n:=nm);rw[h] at this;exact this
theorem Uj(j:Y.objs.list[i]? =aa (.inst C V))(M:aU C G.T.cls=aa U)(B:has nm U.kU=ai)(O:lk nm V=aa x)(p:tD x=ai)(k:K x Y):jB G (getAttr · nm ai) (.obj i) Y K:=λc H s v a r=>by
 obtain⟨b,dx,h,D,m,g,rfl,X,F,fr,I⟩:=a.inst j r
 obtain⟨q,rfl⟩:=a.jC M
 obtain⟨u,L,A⟩:=fr.Be O
 exact get_own F X I q.plain q.dict (q.fld nm (oJ.mp B)).1 rfl L (A.handed p) (a.t1.give (pr _) A k)
theorem Uk{x:Value}(q:Y.objs.list[i]? =aa (.inst C V))(j:aU C G.T.cls=aa U)(B:lk nm U.vals=aa x)(p:lk nm V=ah)(k:K (sv x) Y):jB G (getAttr · nm ai) (.obj i) Y K:=λc D s v a r=>by
 obtain⟨b,dx,h,A,m,g,rfl,X,F,fr,I⟩:=a.inst q r
 obtain⟨u,rfl⟩:=a.jC j
 obtain⟨H,L,M,O⟩:=u.val _ (fz B)
 exact get_cls F X I u.plain u.dict H L M O (fr.qM p) (a.t1.give (pr _) (qH _ _ _) k)
theorem Ul{f:Addr}(M:Y.objs.list[i]? =aa (.inst C V))(H:aU C G.T.cls=aa U)(B:lk nm U.gO=aa f)(L:lk nm V=ah)(k:K (.obj Y.objs.length) ⟨Y.loc,OL.a Y.objs (.aI f (.obj i)),Y.fa⟩):jB G (getAttr · nm ai) (.obj i) Y K:=λc ρ s v a r=>by
 obtain⟨b,dx,es,k',m,g,rfl,X,F,fr,I⟩:=a.inst M r
 obtain⟨p,rfl⟩:=a.jC H
 obtain⟨a1,a2,a3,h,A,a6,a7⟩:=p.oQ _ (fz B)
 obtain⟨m',⟨ls,ad,O,l2,g,j,F',N⟩,u⟩:=a.R
 exact kbm_bound F' j.X N I p.plain p.dict a1 a2 a3 h A (fr.qM L) λq D F2 N2 lo=>a.made (s':={s with heap:=D,toks:=s.toks+1}) ad O l2 j u F2 N2 lo (x:=.aI f (.obj i)) (Gj.mk _ rfl (r.mono (dB _ _))) (a.tp.to (eg _)) (pr _) k
theorem Um{d:Addr}{o O:Obj}{p:Addr×Obj}{pre D:List (Addr×Obj)}(h:((pre++p::(d,o)::D).map aS).Nodup):Upd d o O (pre++p::(d,o)::D) (pre++p::(d,O)::D):=by
 have e:∀o:Obj,pre++p::(d,o)::D=(pre++[p])++(d,o)::D:=λo=>by simp
 rw[e] at h
 rw[e,e]
 exact qE h
theorem Un{K:SS->Prop}(ho:Y.objs.list[i]? =aa (.inst C V))(hc:aU C G.T.cls=aa U)(hf:has nm U.kU=ai)(hz:aD (put nm y V).length 1000=ai)(k:K ⟨Y.loc,OL.s Y.objs i (.inst C (put nm y V)),Y.fa⟩):tG G (.obj i) nm y Y K:=λc ρ s w a r=>by
 obtain⟨v,u⟩:=w
 obtain⟨r,q⟩:=r
 obtain⟨j,rfl⟩:=a.jC hc
 obtain⟨b,m,e,hl,⟨A,B,l,g,O,H,F,N,M,D⟩⟩:=a.eZ ho r
 obtain rfl:v=.ref b:=e
 obtain⟨dx,h,L,rfl,fr⟩:=O
 have I:_root_.PySem.W.InstAt s.heap b (instObj U.C dx) U.C (aa (dictOf h L)):=MC N (bV _ (.head _)) (bV _ (.tail _ (.head _)))
 have p:=fr.put (n:=nm) (t:=s.toks+1) q
 refine set_dict F H.X N I rfl j.set j.over (j.fld nm (oJ.mp hf)).2 j.dict ?_ rfl (Um M) (by rw[<-p.len];exact aB hz) λh' F' N'=>⟨ρ,⟨Y.loc,OL.s Y.objs i (.inst U.C (put nm y V)),Y.fa⟩,(),pr _,⟨⟨m,D (.inst U.C (put nm y V)) _ h' m g (wX.mk dx _ (putN nm h L) rfl p) (by rw[dH] at M⊢;exact M) H F' N',hl⟩,a.tp.to (bL _ 2),a.fa⟩,trivial,k⟩
 have:=fr.get (n:=nm)
 cases q:lk nm V with
 |none=>rw[q] at this;rw[this];rfl
 |some z=>rw[q] at this;obtain⟨w,g,_⟩:=this;rw[g];rfl
end
variable(G Y)(K:SV->SS->Tr)
noncomputable def GO (x:SV) (nm:Str):VG G (jB G (getAttr · nm ai) x Y (hh K)):=match x with
 |.obj i=>.dJ Y.objs (i) λo v=>match o,v with
  |.inst C V,v=>.opt (aU C G.T.cls) λU g=>.or (lk nm V)
   (λu=>.or (lk nm U.gO)
     (λm=>.opt (lk nm U.vals) λw q=>fin K (sv w) Y (Uk v g q u))
     λf B=>fin K (.obj Y.objs.length) ⟨Y.loc,OL.a Y.objs (.aI f (.obj i)),Y.fa⟩ (Ul v g B u))
   λy u=>.aW (has nm U.kU) λB=>.aW (tD y) λp=>fin K y Y (Uj v g B u p)
  |_,_=>.no
 |_=>.no
noncomputable def Bf (x:SV) (nm:Str) (y:SV) (K:SS->Tr):VG G (tG G x nm y Y λY=>(K Y).h):=match x with
 |.obj i=>.dJ Y.objs (i) λo v=>match o,v with
  |.inst C V,v=>.opt (aU C G.T.cls) λU g=>.aW (has nm U.kU) λB=>.aW (aD (put nm y V).length 1000) λu=>⟨K ⟨Y.loc,OL.s Y.objs i (.inst C (put nm y V)),Y.fa⟩,λh q=>Un (K:=λY=>(K Y).h) v g B u h⟩
  |_,_=>.no
 |_=>.no
end
structure dK (e:Expr):Prop where
 star:∀r env,starEach (e::r) env=(aj,eval e env)::starEach r env
 marks:∀op,behindInMarks op e=aj
 qN:∀t l env,swapsWith e t l env=pure aj
 sub:∀o i,subscripted e aj o i=operate [o,i] (getItem o i)
 aug:∀ov iv new,augStore e ov iv new=(do holding [new,ov,iv] (setItem ov iv new);release [new,ov,iv] [];pure .next)
 each:∀ts env,assignEach (e::ts) env=(aj,assign e env)::assignEach ts env
noncomputable def mr (e:Expr):Option (PLift (dK e)):=match e with
 |.Name ..=>aa ⟨⟨λv v=>rfl,λv=>rfl,λv v v=>rfl,λv v=>rfl,λv v v=>rfl,λv v=>rfl⟩⟩
 |.Constant ..=>aa ⟨⟨λv v=>rfl,λv=>rfl,λv v v=>rfl,λv v=>rfl,λv v v=>rfl,λv v=>rfl⟩⟩
 |.Attribute ..=>aa ⟨⟨λv v=>rfl,λv=>rfl,λv v v=>rfl,λv v=>rfl,λv v v=>rfl,λv v=>rfl⟩⟩
 |.Subscript ..=>aa ⟨⟨λv v=>rfl,λv=>rfl,λv v v=>rfl,λv v=>rfl,λv v v=>rfl,λv v=>rfl⟩⟩
 |.BinOp ..=>aa ⟨⟨λv v=>rfl,λv=>rfl,λv v v=>rfl,λv v=>rfl,λv v v=>rfl,λv v=>rfl⟩⟩
 |.UnaryOp ..=>aa ⟨⟨λv v=>rfl,λv=>rfl,λv v v=>rfl,λv v=>rfl,λv v v=>rfl,λv v=>rfl⟩⟩
 |.Call ..=>aa ⟨⟨λv v=>rfl,λv=>rfl,λv v v=>rfl,λv v=>rfl,λv v v=>rfl,λv v=>rfl⟩⟩
 |.List ..=>aa ⟨⟨λv v=>rfl,λv=>rfl,λv v v=>rfl,λv v=>rfl,λv v v=>rfl,λv v=>rfl⟩⟩
 |.Tuple ..=>aa ⟨⟨λv v=>rfl,λv=>rfl,λv v v=>rfl,λv v=>rfl,λv v v=>rfl,λv v=>rfl⟩⟩
 |.Dict ..=>aa ⟨⟨λv v=>rfl,λv=>rfl,λv v v=>rfl,λv v=>rfl,λv v v=>rfl,λv v=>rfl⟩⟩
 |.Compare ..=>aa ⟨⟨λv v=>rfl,λv=>rfl,λv v v=>rfl,λv v=>rfl,λv v v=>rfl,λv v=>rfl⟩⟩
 |.BoolOp ..=>aa ⟨⟨λv v=>rfl,λv=>rfl,λv v v=>rfl,λv v=>rfl,λv v v=>rfl,λv v=>rfl⟩⟩
 |.IfExp ..=>aa ⟨⟨λv v=>rfl,λv=>rfl,λv v v=>rfl,λv v=>rfl,λv v v=>rfl,λv v=>rfl⟩⟩
 |_=>ah
theorem eX.get{W:Wd}{u:List Addr}{n:Str}{x:SV}{V:List (Str×SV)}{j:List (Str×Value)}(r:eX W u V j)(h:lk n V=aa x):∃v,valueAt j n=aa v/\VR W u x v:=by
 induction r with
 |nil=>cases h
 |@cons p e _ _ q _ m=>
  obtain⟨k,v⟩:=e
  obtain⟨rfl,q⟩:=q
  rw[show lk n (p::_)=_ from bW n p.1 p.2 _] at h
  unfold valueAt at m⊢
  rw[Ad]
  by_cases e:n=p.1
  ·rw[if_pos e] at h;cases h;rw[decide_eq_true e.symm];exact⟨v,rfl,q⟩
  ·rw[if_neg e] at h;rw[decide_eq_false λz=>e z.symm];exact m h
section
variable{G:Gx}{Y:SS}{x y z:SV}{i:Nat}
section
variable{K:SV->SS->Prop}
theorem Uo{v:List SV}{k:Int}{c:Cx}{u:List Addr}{s:Shared}{q:List Value}{b:Addr}(a:At G c u Y s)(f:aM G.D u v q)(O:s.heap.IsList b (q:List Value).toArray){t:Tok}(p:0<=k)(M:k<=1000)(j:v[k.toNat]? =aa x)(m:K x Y):wpAny G.D.M c.A (getItem (.ref b) (.int k t)) (PE G c u K) (PX G c u) s:=by
 obtain⟨w,B,g⟩:=Each.get f j
 exact wpAny_getItem_list O p (by exact Om.L2 p M) (by rw[oh];exact B) (a.give (pr _) g m)
theorem GP{p:List SV}{k:Int}(M:bx y k)(g:Y.objs.list[i]? =aa (.list ah p))(H:0<=k)(L:k<=1000)(j:p[k.toNat]? =aa x)(m:K x Y):aG G getItem (.obj i) y Y K:=.mk λc D s v u a r q=>by
 obtain⟨t,rfl⟩:=M q
 obtain⟨b,A,B,rfl,rfl,f,O⟩:=a.list g r
 exact Uo a f O H L j m
theorem Up{p:Option eW}{k:List SV}{m:Nat}{j:Nat}(hk:bx y (.negSucc m))(A:Y.objs.list[i]? =aa (.list p k))(h1:j+(m+1)=k.length)(h2:m<=1000)(H:k[j]? =aa x)(L:K x Y):aG G getItem (.obj i) y Y K:=.mk λc ρ s v u a r q=>by
 obtain⟨t,rfl⟩:=hk q
 obtain⟨b,g,M,rfl,hp,f,h⟩:=a.list A r
 obtain⟨w,B,D⟩:=Each.get f H
 have O:=f.len
 refine wpAny_getItem_list_neg h (Int.negSucc_lt_zero m) ?_ (by omega) ?_ (a.give (pr _) D L)
 ·simp;omega
 ·have e:(Int.negSucc m+((g++M:List Value).toArray.size:Nat)).toNat=g.length+j:=by simp;omega
  rw[e,oh,dY (bL _ _),jN]
  exact B
theorem Uq{g:List SV}{k:Nat}(A:bx y k)(H:Y.objs.list[i]? =aa (.tup g))(m:k<=1000)(M:g[k]? =aa x)(O:K x Y):aG G getItem (.obj i) y Y K:=.mk λc h s v u a r q=>by
 obtain⟨t,rfl⟩:=A q
 obtain⟨b,vs,rfl,f,D⟩:=a.tup H r
 obtain⟨w,B,L⟩:=Each.get f M
 have p:=(dh.mp B).1
 refine PyProof.Rows.getItem_tuple (k:=(k:Int)) D (by exact Om.L6 m) (by exact Om.L7 m) (j:=k) ?_ (by rw[oh];exact B) (a.give (pr _) L O)
 have e0:¬((k:Int)<0):=by exact Om.L8 m
 unfold seqIndex?
 simp[p,e0]
theorem xu{B:Program}{w:World}(n:Str)(t:Tok):(wz B w).is n (.str n t)=true:=by
 show(n==n)=ai
 exact beq_self_eq_true n
theorem Ur{V:List (Str×SV)}{n:Str}(M:bT y n)(O:Y.objs.list[i]? =aa (.dict V))(j:lk n V=aa x)(m:K x Y):aG G getItem (.obj i) y Y K:=.mk λc H s v u a r q=>by
 obtain⟨t,rfl⟩:=M q
 obtain⟨b,p,rfl,f,L⟩:=a.dict O r
 obtain⟨w,B,g⟩:=eX.get f j
 exact wpAny_getItem_of (knd:=wz G.D.prog G.D.w) (k:=n) (xu n t) L.mapOf B (a.t1.give (pr _) g m)
theorem Bg{g m:Expr}{p:Option eW}{j:List SV}(O:dK m)(M:Y.objs.list[i]? =aa (.list p j))(h:aG G getItem (.obj i) y Y K):aG G (subscriptTail g m) (.obj i) y Y K:=.mk λc k s v u a r q=>by
 obtain⟨b,D,H,rfl,B,f,L⟩:=a.list M r
 exact tail_any L.typeIs slot_list_getitem.lookup (h c k s (.ref b,u) a ⟨r,q⟩) (O.sub _ _)
theorem Us{j p:Expr}{k:List SV}(g:dK p)(O:Y.objs.list[i]? =aa (.tup k))(h:aG G getItem (.obj i) y Y K):aG G (subscriptTail j p) (.obj i) y Y K:=.mk λc m s v u a r q=>by
 obtain⟨b,L,rfl,f,M⟩:=a.tup O r
 exact tail_any (PyProof.Rows.IsTup.typeIs M) F.slot_tuple_getitem.lookup (h c m s (.ref b,u) a ⟨r,q⟩) (g.sub _ _)
theorem Ut{k p:Expr}{V:List (Str×SV)}(g:dK p)(O:Y.objs.list[i]? =aa (.dict V))(h:aG G getItem (.obj i) y Y K):aG G (subscriptTail k p) (.obj i) y Y K:=.mk λc m s v u a r q=>by
 obtain⟨b,j,rfl,f,M⟩:=a.dict O r
 exact tail_any M.typeIs slot_dict_getitem.lookup (h c m s (.ref b,u) a ⟨r,q⟩) (g.sub _ _)
end
variable(G Y)(K:SV->SS->Tr)
noncomputable def GQ (x y:SV):VG G (aG G getItem x y Y (hh K)/\∀L M,dK M->aG G (subscriptTail L M) x y Y (hh K)):=match x with
 |.obj i=>.dJ Y.objs (i) λo u=>match o,u with
  |.list p v,u=>.one (bF y) λk=>match k with
   |⟨.ofNat m,H⟩=>match p,u with
    |ah,u=>.aW (aD m 1000) λh=>.ob v (m) λz j=>fin K z Y λq=>
     have g:=GP H u (dZ m) (by have:=aB h;show(m:Int)<=1000;exact Om.L9 this) j q
     ⟨g,λL M O=>Bg O u g⟩
    |some _,_=>.no
   |⟨.negSucc m,H⟩=>.aW (aD (m+1) v.length) λD=>.aW (aD m 1000) λh=>.ob v (v.length-(m+1)) λz j=>fin K z Y λq=>
    have g:=Up H u (qm (aB D)) (aB h) j q
    ⟨g,λL M O=>Bg O u g⟩
  |.tup v,u=>.one (bF y) λk=>match k with
   |⟨.ofNat m,H⟩=>.aW (aD m 1000) λh=>.ob v (m) λz j=>fin K z Y λq=>
      have g:=Uq H u (aB h) j q
      ⟨g,λL M O=>Us O u g⟩
   |⟨.negSucc _,_⟩=>.no
  |.dict V,u=>.one (bD y) λn=>.opt (lk n.1 V) λz j=>fin K z Y λq=>
    have g:=Ur n.2 u j q
    ⟨g,λL M O=>Ut O u g⟩
  |_,_=>.no
 |_=>.no
end
section
variable{G:Gx}{Y:SS}{x y z:SV}{i j:Nat}{c:Cx}{V U:List Addr}{s:Shared}
inductive Uu (G:Gx) (c:Cx) (V:List Addr) (Y:SS) (h:Heap) (i:Nat) (p:Option eW) (xs:List SV) (v:Value):Prop
 |mk (b:Addr) (us vs:List Value) (n:Nat) (m:Str->Option Value) (g:Heap) (A B:List (Addr×Obj)) (e:v=.ref b) (q:mh p us) (f:aM G.D V xs vs) (F:Fr g c.L h m) (N:News g c.L h (A++(b,listOf (us++vs:List Value).toArray n)::B))
  (nd:((A++(b,listOf (us++vs:List Value).toArray n)::B).map aS).Nodup)
  (back:∀p' xs' us' vs' n' h',mh p' us'->aM G.D V xs' vs'->Fr g c.L h' m->News g c.L h' (A++(b,listOf (us'++vs':List Value).toArray n')::B)->Rep G.D c V ⟨Y.loc,OL.s Y.objs i (.list p' xs'),Y.fa⟩ h')
theorem At.tQ(a:At G c V Y s){p:Option eW}{L:List SV}{v:Value}(ho:Y.objs.list[i]? =aa (.list p L))(r:VR G.D V (.obj i) v):Uu G c V Y s.heap i p L v:=by
 obtain⟨b,m,rfl,hl,⟨A,B,l,g,O,gr,F,N,H,D⟩⟩:=a.eZ ho r
 obtain⟨h,C,n,rfl,q,f⟩:=O
 exact⟨b,h,C,n,m,g,A,B,rfl,q,f,F,N,H,λp' u M k n' h' q' f' F' N'=>⟨m,D (.list p' u) [(b,_)] h' m g (kT.mk M k n' rfl q' f') (xj H) gr F' N',hl⟩⟩
theorem Uv{v:Value}:∀{l:List Value} {j:Nat},j<l.length->ki_setL l j v=aa (l.set j v):=by
 intro l
 induction l with
 |nil=>intro j h;exact absurd h (Ab _)
 |cons a r p=>
  intro j h
  cases j with
  |zero=>rfl
  |succ j=>
   have:=p (j:=j) (LH h)
   simp[ki_setL,this]
theorem Uw{K:SS->Prop}{p:Option eW}{O:List SV}{k:Int}{j:Nat}(hk:bx x k)(C:Y.objs.list[i]? =aa (.list ah O))(h0:k=j)(h1:dW j O.length=ai)(h2:aD j 1000=ai)(H:K ⟨Y.loc,OL.s Y.objs i (.list ah (aX O j y)),Y.fa⟩):tH G (.obj i) x y Y K:=λc V s w a r=>by
 obtain⟨v,u,w⟩:=w
 obtain⟨r,q,z⟩:=r
 obtain⟨t,e⟩:=hk q
 obtain rfl:u=_:=e
 obtain⟨b,us,M,n,m,g,A,B,e,rfl,f,F,N,L,D⟩:=a.tQ C r
 obtain rfl:v=.ref b:=e
 subst h0
 have h:j<M.length:=by rw[<-Each.len f];exact aB h1
 refine ki_set (its:=M.toArray) (q:=M.set j w) F N (dZ j) (by have:=aB h2;exact Om.L7 this) (Uv h) (qE L) λh' F' N'=>⟨V,⟨Y.loc,OL.s Y.objs i (.list ah (aX O j y)),Y.fa⟩,(),pr _,⟨D ah (aX O j y) [] (M.set j w) n h' rfl (Each.set f j z) F' N',a.tp.to (aH _),a.fa⟩,trivial,H⟩
set_option tactic.hygienic true in
theorem eX.put{W:Wd}{n:Str}{v:Value}(q:VR W V x v){m:List (Str×SV)}{u:List (Str×Value)}(r:eX W V m u)(L:(u.map (·.1)).Nodup):eX W V (Ex.put n x m) (stored u n v):=by
 have O:∀{m u},eX W V m u->n∉u.map (·.1)->eX W V (Ex.put n x m) (u++[(n,v)]):=λ{m u} r=>by
  induction r with
  |nil=>exactλD=>.one ⟨rfl,q⟩
  |@cons p e _ _ z r H=>
   intro h
   rw[gq,b7,not_or] at h
   rw[show Ex.put n x (p::_)=_ from Ay n p.1 x p.2 _,if_neg (z.k▸h.1)]
   exact .cons z (H h.2)
 have hit:∀{m u},eX W V m u->(u.map (·.1)).Nodup->n∈u.map (·.1)->eX W V (Ex.put n x m) (u.map λk=>if k.1=n then(k.1,v) else k):=λ{m u} r=>by
  induction r with
  |nil=>exactλD h=>(by cases h)
  |@cons p e _ u z r H=>
   intro L h
   rw[gq,ef] at L
   rw[gq,show Ex.put n x (p::_)=_ from Ay n p.1 x p.2 _]
   by_cases g:n=p.1
   ·rw[if_pos g,if_pos (z.k.trans g.symm)]
    refine .cons ⟨z.k,q⟩ ?_
    have:u.map (λk=>if k.1=n then(k.1,v) else k)=u:=by
     conv=>rhs;rw[<-Fj u]
     exact wh λp M=>if_neg λe=>L.1 (fK.mpr ⟨p,M,e.trans (g.trans z.k.symm)⟩)
    rw[this];exact r
   ·rw[if_neg g,if_neg λe=>g (e.symm.trans z.k)]
    exact .cons z (H L.2 ((b7.mp h).resolve_left λe=>g (e.trans z.k)))
 unfold stored
 split
 ·rename_i h
  obtain⟨p,M,e⟩:=E7.mp h
  exact hit r L (fK.mpr ⟨p,M,of_decide_eq_true e⟩)
 ·rename_i h
  exact O r λC=>by
   obtain⟨p,M,e⟩:=fK.mp C
   exact h (E7.mpr ⟨p,M,decide_eq_true e⟩)
inductive Ux (G:Gx) (c:Cx) (V:List Addr) (Y:SS) (h:Heap) (i:Nat) (R:List (Str×Value)->Prop) (v:Value):Prop
 |mk (b:Addr) (kvs:List (Str×Value)) (e:v=.ref b) (f:R kvs) (hD:h.DictOf (strKind G.D.prog G.D.w) b kvs)
  (back:∀(o':SO) (R':List Addr->List (Str×Value)->Prop) (kvs':List (Str×Value)) (h':Heap),(∀V a l,OR G.D c.R V a o' l=oK (qD G.D) (R' V) a l)->R' V kvs'->h'.DictOf (strKind G.D.prog G.D.w) b kvs'->(∀a o,a≠b->h.get? a=aa o->h'.get? a=aa o)->Rep G.D c V ⟨Y.loc,OL.s Y.objs i o',Y.fa⟩ h')
theorem At.Bh(a:At G c V Y s){o:SO}{R:List Addr->List (Str×Value)->Prop}{v:Value}(ho:Y.objs.list[i]? =aa o)(hR:∀V a l,OR G.D c.R V a o l=oK (qD G.D) (R V) a l)(r:VR G.D V (.obj i) v):Ux G c V Y s.heap i (R V) v:=by
 obtain⟨b,m,rfl,hl,⟨A,B,l,g,O,gr,F,N,L,D⟩⟩:=a.eZ ho r
 rw[hR] at O
 obtain⟨ob,p,rfl,q,f⟩:=O
 refine⟨b,p,rfl,f,qp.mpr ⟨ob,(N _ (bV _ (.head _))).1,q⟩,λC R' M h' k f' hD h=>?_⟩
 obtain⟨u,hg,H⟩:=qp.mp hD
 obtain⟨F',N'⟩:=Gu F N L h hg
 exact⟨m,D C [(b,u)] h' m g (by rw[k];exact⟨u,M,rfl,H,f'⟩) (xj L) gr F' N',hl⟩
theorem Uy{K:SS->Prop}{p:List (Str×SV)}{n:Str}(hk:bT x n)(B:Y.objs.list[i]? =aa (.dict p))(H:aD p.length 1000=ai)(L:K ⟨Y.loc,OL.s Y.objs i (.dict (put n y p)),Y.fa⟩):tH G (.obj i) x y Y K:=λc V s w a r=>by
 obtain⟨v,u,w⟩:=w
 obtain⟨r,q,z⟩:=r
 obtain⟨t,e⟩:=hk q
 obtain rfl:u=_:=e
 obtain⟨b,g,e,f,M,D⟩:=a.Bh (R:=λV=>eX G.D V p) B (λm m m=>rfl) r
 obtain rfl:v=.ref b:=e
 have O:(g.map (·.1)).Nodup:=let⟨_,_,_,_,_,_,_,_,h⟩:=M;h
 exact wpAny_setItem_pairs (knd:=wz G.D.prog G.D.w) (k:=n) (xu n t) M (λh' A C=>⟨V,⟨Y.loc,OL.s Y.objs i (.dict (put n y p)),Y.fa⟩,(),pr _,⟨D (.dict (put n y p)) (λV=>eX G.D V (put n y p)) _ h' (λm m m=>rfl) (eX.put z f O) A (λb o hb e=>C.extBut b o hb e),a.tp.to (eg _),a.fa⟩,trivial,L⟩) (by have:=aB H;have:=Each.len f;rw[sizeLine_eq];exact Om.M9 ‹_› this)
variable(G Y)
noncomputable def GR (x y z:SV) (K:SS->Tr):VG G (tH G x y z Y λY=>(K Y).h):=match x with
 |.obj i=>.dJ Y.objs (i) λo q=>match o,q with
  |.list p v,q=>.one (gg p) λL=>.one (bF y) λk=>match k with
   |⟨.ofNat m,H⟩=>.aW (dW m v.length) λD=>.aW (aD m 1000) λu=>⟨K ⟨Y.loc,OL.s Y.objs i (.list ah (aX v m z)),Y.fa⟩,λh O=>Uw (p:=p) (K:=λY=>(K Y).h) H (L.1▸q) rfl D u h⟩
   |_=>.no
  |.dict g,q=>.one (bD y) λn=>.aW (aD g.length 1000) λM=>⟨K ⟨Y.loc,OL.s Y.objs i (.dict (put n.1 z g)),Y.fa⟩,λh O=>Uy (K:=λY=>(K Y).h) n.2 q M h⟩
  |_,_=>.no
 |_=>.no
end
section
variable{G:Gx}{j:SS}{Y:Pos}
section
variable{K:SV->SS->Prop}
noncomputable def Uz (u:Const):Option {x:SV//∀{G:Gx} {k:Nat} {Y:Pos} {j:SS} {K:SV->SS->Prop},K x j->aA G (.Constant u k Y) j K}:=match u with
 |.none=>aa ⟨.none,λk c v s z a z=>Constant_none (a.give (V:=VR _) (x:=.none) (pr _) rfl k)⟩
 |.bool b=>aa ⟨.bool b,λk c v s z a z=>Constant_bool (a.give (V:=VR _) (x:=.bool b) (pr _) rfl k)⟩
 |.int i=>aa ⟨.int i,λk c v s z a z=>wpAny_Constant_int (a.t1.give (V:=VR _) (x:=.int i) (pr _) ⟨_,rfl⟩ k)⟩
 |.str x=>aa ⟨.str x,λk c v s z a z=>wpAny_Constant_str (a.t1.give (V:=VR _) (x:=.str x) (pr _) ⟨_,rfl⟩ k)⟩
 |_=>ah
theorem Bj{c:Cx}(e:qF c.env c.cs c.L){x:Str}{k:NameKind}(h:lk x c.cs.names=aa k):c.env.kindOf x=aa k:=by
 show c.env.scope.names.lookup x=aa k
 rw[e.names];exact(Gi x _).symm.trans h
theorem At.kind{c:Cx}{z:List Addr}{s:Shared}(a:At G c z j s){x:Str}{k:NameKind}(h:lk x G.cs.names=aa k):c.env.kindOf x=aa k:=Bj a.ok.hk (a.cs▸h)
theorem fS{n:Str}{x:SV}(q:seq n "__debug__"=aj)(k:lk n G.cs.names=some .local)(p:lk n j.loc=aa x)(U:K x j):aA G (.Name n Y) j K:=λc M s z a z=>by
 obtain⟨m,⟨L,ad,C,l2,g,H,F,N⟩,V⟩:=a.R
 obtain⟨v,O,u⟩:=V n x p
 exact wpAny_Name (wpAny_loadName_local a.ok.hk.kind (a.kind k) (by rw[a.ok.hk.loc];exact F.ns) O (a.give (pr _) u U)) (by rw[kQ];exact q)
theorem UA{n:Str}{i:Nat}{x:SV}(L:seq n "__debug__"=aj)(U:lk n G.cs.names=some .cell)(V:lk n G.cv=aa i)(k:j.objs.list[i]? =aa (.cell (aa x)))(M:K x j):aA G (.Name n Y) j K:=λc h s z a z=>by
 obtain⟨ad,C,H⟩:=a.cv _ (fz V)
 obtain⟨b,m,e,hl,⟨A,B,l,g,O,gr,F,N,nd,D⟩⟩:=a.eZ (v:=.ref ad) k ⟨ad,H,rfl⟩
 cases e
 obtain⟨ob,v,rfl,p,u,rfl,q⟩:=O
 exact wpAny_Name (wpAny_loadName_cell a.ok.hk.kind (a.kind U) C ⟨ob,(N _ (bV _ (.head _))).1,p⟩ (a.give (pr _) q M)) (by rw[kQ];exact L)
theorem kY{n:Str}{v:Value}(k:lk n G.cs.names=some .globalImplicit)(U:lk n G.T.eY=aa v)(V:K (sv v) j):aA G (.Name n Y) j K:=λc M s z a z=>by
 obtain⟨m,⟨L,ad,C,l2,g,p,F,N⟩,H⟩:=a.R
 obtain⟨q,h⟩:=a.tk.eY _ (fz U)
 have Tr:=p.tr
 rcases h with h|⟨x,u,O⟩
 ·exact nameG_K F p.X Tr h (a.give (pr _) (qH _ _ _) V) a.ok.hk.eY a.ok.hk.kind (a.kind k) q
 ·exact ahu a.ok.hk.kind (a.kind k) (ahx (by rw[a.ok.hk.eY];exact Tr.g.keeps F.keep) (mg_none_of p.X Tr.g x) (by rw[a.ok.hk.bi];exact Tr.b.keeps F.keep) ((Tr.builtins _ O).trans u) (a.give (pr _) (qH _ _ _) V)) q
noncomputable abbrev Based (o:Expr):Prop:=∀nm env w,attributeBase o nm env w=w
noncomputable def GS (o:Expr):Option (PLift (Based o)):=match o with
 |.Name ..=>aa ⟨λz z z=>rfl⟩
 |.Constant ..=>aa ⟨λz z z=>rfl⟩
 |.Attribute ..=>aa ⟨λz z z=>rfl⟩
 |.Subscript ..=>aa ⟨λz z z=>rfl⟩
 |.Call f _ _ _=>match f with
  |.Attribute ..=>aa ⟨λz z z=>rfl⟩
  |_=>ah
 |_=>ah
theorem UB{o:Expr}{nm:Str}(u:Based o)(h:aA G o j λx v=>jB G (getAttr · nm ai) x v K):aA G (.Attribute o nm Y) j K:=λc g s z a z=>
 Attribute_any_ (h.go a (pr _) trivial (w:=()) λz z z z z p z m q k=>k.at m p q) (by
  show(do
   let O<-attributeBase o nm c.env (eval o c.env)
   standAt Y.atName
   let r<-holding [O] (getAttr O nm ai)
   letTemporaryGo o O r
   pure r)=_
  rw[u])
theorem qO{o i:Expr}(h:aA G o j λx m=>aA G i m λy u=>aG G (subscriptTail o i) x y u K):aA G (.Subscript o i Y) j K:=λc L s z a z=>
 Subscript_ (h.go a (pr _) trivial (w:=()) λz z z z z p z V q k=>k.go V p trivial (w:=()) λz z z z z v g M U O=>O.at (w:=(_,_)) M v ⟨q.mono g,U⟩)
theorem xw{l r:Expr}{A:Operator}(h:aA G l j λx m=>aA G r m λy u=>aG G (binaryOp A) x y u K):aA G (.BinOp l A r Y) j K:=λc L s z a z=>
 wpAny_BinOp (h.go a (pr _) trivial (w:=()) λz z z z z p z V q k=>k.go V p trivial (w:=()) λz z z z z v g M U O=>O.at (w:=(_,_)) M v ⟨q.mono g,U⟩)
theorem GU{l r:Expr}{A:CmpOp}(L:∀A,behindInMarks A r=aj)(h:aA G l j λx m=>aA G r m λy u=>aG G (compareOp A) x y u K):aA G (.Compare l [A] [r] Y) j K:=λc H s z a z=>
 wpAny_Compare1 (h.go a (pr _) trivial (w:=()) λz z z z z p z V q k=>k.go V p trivial (w:=()) λz z z z z v g M U O=>O.at (w:=(_,_)) M v ⟨q.mono g,U⟩) (L A)
theorem UC{e:Expr}{A:UnaryOp}(h:aA G e j λx m=>jB G (unaryOp A) x m K):aA G (.UnaryOp A e Y) j K:=λc v s z a z=>
 UnaryOp_ (h.go a (pr _) trivial (w:=()) λz z z z z p z V q k=>k.at V p q)
theorem GV{t b o:Expr}(h:bS G t j λx m=>Br x m (aA G b · K) (aA G o · K)):aA G (.IfExp t b o Y) j K:=λc g s z a z=>
 IfExp_ (h.go a (pr _) trivial (w:=()) λz z z v z p z u q k=>by
  cases u.br k q with
  |t e j a h=>subst e;exact h.at a p trivial (w:=())
  |f e j a h=>subst e;exact h.at a p trivial (w:=()))
theorem UD{g O:Expr}{r:List Expr}(h:aA G g j λx m=>gP G x m λb V=>Br b V (aA G (.BoolOp .And (O::r) Y) · K) (K x)):aA G (.BoolOp .And (g::O::r) Y) j K:=λc C s z a z=>
 BoolOp_and (h.go a (pr _) trivial (w:=()) λz z z z z p z D q k=>k.go D p q λz z z v z u U M L H=>by
  cases M.br H L with
  |t e j a h=>subst e;exact h.at a u trivial (w:=())
  |f e j a h=>subst e;exact a.give u (q.mono U) h)
theorem UE{g O:Expr}{r:List Expr}(h:aA G g j λx m=>gP G x m λb V=>Br b V (K x) (aA G (.BoolOp .Or (O::r) Y) · K)):aA G (.BoolOp .Or (g::O::r) Y) j K:=λc C s z a z=>
 BoolOp_or (h.go a (pr _) trivial (w:=()) λz z z z z p z D q k=>k.go D p q λz z z v z u U M L H=>by
  cases M.br H L with
  |t e j a h=>subst e;exact a.give u (q.mono U) h
  |f e j a h=>subst e;exact h.at a u trivial (w:=()))
theorem UG{A:BoolOp}{e:Expr}(h:aA G e j K):aA G (.BoolOp A [e] Y) j K:=λc x s z a z=>BoolOp_one (h c x s () a trivial)
noncomputable abbrev GW (e:Expr):Prop:=∀env (M:Model) (A:Around) (E:Value->Shared->Prop) (s:Shared) (Q:Bool->Shared->Prop),wpAny M A (eval e env) (λv s=>wpAny M A (truthy v) Q E s) E s->wpAny M A (isTrue e env (eval e env)) Q E s
noncomputable def GX (e:Expr):Option (PLift (GW e)):=match e with
 |.Name ..=>aa ⟨λz z z z z z h=>isTrue_plain h rfl⟩
 |.Constant ..=>aa ⟨λz z z z z z h=>isTrue_plain h rfl⟩
 |.Attribute ..=>aa ⟨λz z z z z z h=>isTrue_plain h rfl⟩
 |.Subscript ..=>aa ⟨λz z z z z z h=>isTrue_plain h rfl⟩
 |.Call ..=>aa ⟨λz z z z z z h=>isTrue_plain h rfl⟩
 |_=>ah
theorem GY{e:Expr}(v:GW e)(h:aA G e j λx m=>gP G x m K):bS G e j K:=λc g s z a z=>
 v _ _ _ _ _ _ (h.go a (pr _) trivial (w:=()) λz z z z z p z u q k=>k.at u p q)
theorem At.oS{c:Cx}{u z:List Addr}{s:Shared}(a:At G c u j s)(p:z<+:u){x:SV}{v:Bool}(r:BR G.D x v)(k:K x j):PT G c z K v s:=⟨u,j,x,p,a.toRepS,r,k⟩
theorem UH{e:Expr}(h:bS G e j λx m=>Br x m (K (.bool aj)) (K (.bool ai))):bS G (.UnaryOp .Not e Y) j K:=λc g s z a z=>
 isTrue_not (h.go a (pr _) trivial (w:=()) λz z z v z p z u q k=>by
  cases u.br k q with
  |t e j a h=>subst e;exact a.oS p (x:=.bool aj) rfl h
  |f e j a h=>subst e;exact a.oS p (x:=.bool ai) rfl h)
theorem GZ(h:K (.bool ai) j):bS G (.BoolOp .And [] Y) j K:=λc v s z a z=>isTrue_and_nil (a.oS (pr _) (x:=.bool ai) rfl h)
theorem UI(h:K (.bool aj) j):bS G (.BoolOp .Or [] Y) j K:=λc v s z a z=>isTrue_or_nil (a.oS (pr _) (x:=.bool aj) rfl h)
theorem Bl{e:Expr}{r:List Expr}(h:bS G e j λb m=>Br b m (bS G (.BoolOp .And r Y) · K) (K (.bool aj))):bS G (.BoolOp .And (e::r) Y) j K:=λc g s z a z=>
 isTrue_and (h.go a (pr _) trivial (w:=()) λz z z v z p z u q k=>by
  cases u.br k q with
  |t e j a h=>subst e;exact h.at a p trivial (w:=())
  |f e j a h=>subst e;exact a.oS p (x:=.bool aj) rfl h)
theorem UJ{e:Expr}{r:List Expr}(h:bS G e j λb m=>Br b m (K (.bool ai)) (bS G (.BoolOp .Or r Y) · K)):bS G (.BoolOp .Or (e::r) Y) j K:=λc g s z a z=>
 isTrue_or (h.go a (pr _) trivial (w:=()) λz z z v z p z u q k=>by
  cases u.br k q with
  |t e j a h=>subst e;exact a.oS p (x:=.bool ai) rfl h
  |f e j a h=>subst e;exact h.at a p trivial (w:=()))
theorem UK{t b o:Expr}(h:bS G t j λx m=>Br x m (bS G b · K) (bS G o · K)):bS G (.IfExp t b o Y) j K:=λc g s z a z=>
 isTrue_IfExp (h.go a (pr _) trivial (w:=()) λz z z v z p z u q k=>by
  cases u.br k q with
  |t e j a h=>subst e;exact h.at a p trivial (w:=())
  |f e j a h=>subst e;exact h.at a p trivial (w:=()))
theorem cmp_T{l r:Expr}{A:CmpOp}(hr:∀A,behindInMarks A r=aj)(h:aA G l j λx m=>aA G r m λy V=>aG G (compareOp A) x y V λz g=>gP G z g K):bS G (.Compare l [A] [r] Y) j K:=λc ρ s u a u=>
 wpAny_isTrue_Compare1 (h.go a (pr _) trivial (w:=()) λu u u u u p u e1 q k=>k.go e1 p trivial (w:=()) λu u u u u v U M L D=>D.go (w:=(_,_)) M v ⟨q.mono U,L⟩ λu u u u u C u B O H=>H.at B C O) (hr A)
theorem UL{l r r':Expr}{op e1:CmpOp}(hr:∀op,behindInMarks op r'=aj)(h:aA G l j λx m=>aA G r m λy H=>aG G (compareOp op) x y H λz L=>gP G z L λb g=>
 Br b g (λg=>aA G r' g λw M=>aG G (compareOp e1) y w M λz' O=>gP G z' O K) (K (.bool aj))):bS G (.Compare l [op,e1] [r,r'] Y) j K:=λc ρ s u a u=>
 isTrue_chain (h.go a (pr _) trivial (w:=()) λu u u u u p u W1 q k=>test_link (k.go W1 p trivial (w:=()) λu u u u u f1 A Q1 V x1=>x1.go (w:=(_,_)) Q1 f1 ⟨q.mono A,V⟩ λu u u u u d1 B m1 o1 z1=>
  z1.go m1 d1 o1 λu u u v u U C n1 i1 l1=>by
   cases n1.br l1 i1 with
   |f e j a h=>subst e;exact a.oS U (x:=.bool aj) rfl h
   |t e j a h=>subst e;exact test_last (h.go a U trivial (w:=()) λu u u u u a1 D b1 u1 h1=>h1.go (w:=(_,_)) b1 a1 ⟨V.mono (B.trans (C.trans D)),u1⟩ λu u u u u p1 u c1 y1 g1=>g1.at c1 p1 y1))) (hr e1)
theorem UM{l r r':Expr}{op e1:CmpOp}(hr:∀op,behindInMarks op r'=aj)(h:aA G l j λx m=>aA G r m λy D=>aG G (compareOp op) x y D λz H=>gP G z H λb g=>
 Br b g (λg=>aA G r' g λw L=>aG G (compareOp e1) y w L K) (K z)):aA G (.Compare l [op,e1] [r,r'] Y) j K:=λc ρ s u a u=>
 Compare_chain (h.go a (pr _) trivial (w:=()) λu u u u u p u c1 q k=>chain_link (k.go c1 p trivial (w:=()) λu u u u u p1 A x1 M g1=>g1.go (w:=(_,_)) x1 p1 ⟨q.mono A,M⟩ λu u u u u o1 B z1 O f1=>
  f1.go z1 o1 O λu u u v u U V l1 u1 d1=>by
   cases l1.br d1 u1 with
   |f e j a h=>subst e;exact a.give U (O.mono V) h
   |t e j a h=>subst e;exact chain_last (h.go a U trivial (w:=()) λu u u u u i1 C h1 y1 a1=>a1.at (w:=(_,_)) h1 i1 ⟨M.mono (B.trans (V.trans C)),y1⟩))) (hr e1)
end
theorem kZ{K:List SV->SS->Prop}(h:K [] j):dI G [] j K:=λc x s Y a z=>spliced_none ⟨x,j,[],pr _,a.toRepS,.nil,h⟩
theorem lg{e:Expr}{r:List Expr}{K:List SV->SS->Prop}(C:∀r env,starEach (e::r) env=(aj,eval e env)::starEach r env)(h:aA G e j λx m=>dI G r m λD u=>K (x::D) u):dI G (e::r) j K:=λc B s Y a z=>
 args_cons (h.go a (pr _) trivial (w:=()) λz z z z z p z V q k=>k.go (w:=Y) V p trivial λH L D z z v g M U O=>⟨H,L,_::D,v,M.toRepS,.cons (q.mono g) U,O⟩) (C r _)
section
variable{K:Fl->SS->Prop}
theorem At.fD{c:Cx}{u z:List Addr}{s:Shared}(a:At G c u j s)(p:z<+:u){x:Fl}{v:Flow}(r:tF G.D u x v)(k:K x j):PB G c z K v s:=⟨u,j,x,p,a.toRepS,r,k⟩
theorem f6(k:K .next j):aO G [] j K:=λz z z z a z=>wpAny_execs_nil (a.fD (pr _) (x:=.next) rfl k)
noncomputable def Bm (G:Gx) (r:List Stmt) (K:Fl->SS->Prop) (f:Fl) (j:SS):Prop:=match f with
 |.next=>aO G r j K
 |f=>K f j
theorem cZ{st:Stmt}{r:List Stmt}(h:bc G st j (Bm G r K)):aO G (st::r) j K:=λc V s z a z=>by
 refine wpAny_execs_cons (h.go a (pr _) trivial (w:=()) λg u x f U p z m q k=>?_)
 cases x with
 |next=>obtain rfl:=q;exact aC.at (w:=()) k m p trivial
 |brk=>obtain rfl:=q;exact m.fD p (x:=.brk) rfl k
 |cont=>obtain rfl:=q;exact m.fD p (x:=.cont) rfl k
 |ret x=>obtain⟨v,rfl,q⟩:=q;exact m.fD p (x:=.ret x) ⟨v,rfl,q⟩ k
theorem pass_S(k:K .next j):bc G (.Pass Y) j K:=λz z z z a z=>wpAny_Pass (a.fD (pr _) (x:=.next) rfl k)
theorem UN(k:K .brk j):bc G (.Break Y) j K:=λz z z z a z=>wpAny_Break (a.fD (pr _) (x:=.brk) rfl k)
theorem UO(k:K .cont j):bc G (.Continue Y) j K:=λz z z z a z=>wpAny_Continue (a.fD (pr _) (x:=.cont) rfl k)
theorem Bo{e:Expr}(h:aA G e j λx v=>K (.ret x) v):bc G (.Return (aa e) Y) j K:=λz z z z a z=>
 wpAny_Return_some (h.go a (pr _) trivial (w:=()) λz z y z z p z m q k=>m.fD p (x:=.ret y) ⟨_,rfl,q⟩ k)
theorem UP(k:K (.ret .none) j):bc G (.Return ah Y) j K:=λz z z z a z=>wpAny_Return_none (a.fD (pr _) (x:=.ret .none) ⟨_,rfl,rfl⟩ k)
theorem iS{t:Expr}{b o:List Stmt}(h:bS G t j λx u=>Br x u (aO G b · K) (aO G o · K)):bc G (.If t b o Y) j K:=λz z z z a z=>
 wpAny_If (h.go a (pr _) trivial (w:=()) λz z z v z p z m q k=>by
  cases m.br k q with
  |t e j a h=>subst e;exact h.at a p trivial (w:=())
  |f e j a h=>subst e;exact h.at a p trivial (w:=()))
theorem UQ{t:Expr}(h:bS G t j λb m=>Br b m (K .next) λz=>False):bc G (.Assert t ah Y) j K:=λc g s z a z=>
 wpAny_Assert_new a.ok.hh (h.go a (pr _) trivial (w:=()) λz z z v z p z u q k=>by
  cases u.br k q with
  |t e j a h=>subst e;exact a.fD p (x:=.next) rfl h
  |f e j a h=>exact h.elim)
noncomputable def UR (x:SV):Option (PLift (Is x λz v=>∀a,v≠.ref a)):=match x with
 |.none=>aa ⟨λr a e=>(by cases r.symm.trans e)⟩
 |.bool _=>aa ⟨λr a e=>(by cases r.symm.trans e)⟩
 |.str _=>aa ⟨λ⟨_,r⟩ a e=>(by cases r.symm.trans e)⟩
 |.ss _=>aa ⟨λ⟨_,r⟩ a e=>(by cases r.symm.trans e)⟩
 |.tm _=>aa ⟨λ⟨_,r⟩ a e=>(by cases r.symm.trans e)⟩
 |.int _=>aa ⟨λ⟨_,r⟩ a e=>(by cases r.symm.trans e)⟩
 |_=>ah
theorem US{c:Cx}(h:qF c.env c.cs c.L):interactive c.env=false:=by
 show(c.env.scope.kind==.module&&_)=aj
 rw[h.kind];rfl
theorem G0{e:Expr}(g:dK e)(h:aA G e j λx u=>(Is x λz v=>∀a,v≠.ref a)/\K .next u):bc G (.Expr e Y) j K:=λc V s z a z=>by
 refine wpAny_Expr (h.go a (pr _) trivial (w:=()) λz z x v z p z m q k=>?_) (US a.ok.hk) (g.qN _ _ _)
 have k2:=m.fD (K:=K) p (x:=.next) rfl k.2
 have k1:=k.1 q
 cases v with
 |ref b=>exact absurd rfl (k1 b)
 |_=>exact k2
theorem G2{M:Model}{A:Around}{E:Value->Shared->Prop}{s:Shared}{L:Heap}{c:Cx}{m:Str->Option Value}{z:List (Addr×Obj)}{x:Str}{v:Value}{Q:Unit->Shared->Prop}(e:qF c.env c.cs c.L)(F:Fr L c.L s.heap m)(N:News L c.L s.heap z)
 (h:∀u,Fr L c.L u (λy=>if y=x then aa v else m y)->News L c.L u z->Q () {s with heap:=u,toks:=s.toks+1}) (k:c.env.kindOf x=some .local):wpAny M A (storeName c.env x v) Q E s:=
 wpAny_storeName_local k (by rw[e.loc];exact F.ns) (λu p q=>by
  rw[e.loc] at p q
  exact h u (F.set p q) (N.set q)) (by rw[e.kind];rfl)
theorem xx{c:Cx}{z:List Addr}{s:Shared}(a:At G c z j s){x:Str}(V:lk x G.cs.names=some .local){y:SV}{v:Value}(q:VR G.D z y v){Q:Unit->Shared->Prop}{E:Value->Shared->Prop}
 (k:∀u,At G c z ⟨(x,y)::j.loc,j.objs,j.fa⟩ u->Q () u):wpAny G.D.M c.A (storeName c.env x v) Q E s:=by
 obtain⟨m,⟨p,ad,C,l2,g,O,F,N⟩,U⟩:=a.R
 exact G2 a.ok.hk F N (λH L M=>k _ (a.to (pr _) ⟨⟨_,⟨p,ad,C,l2,g,O,L,M⟩,U.set q⟩,a.tp.to (eg _),a.fa⟩)) (a.kind V)
theorem G3{c:Cx}{p:List Addr}{s:Shared}(a:At G c p j s){x:Str}(H:lk x G.cs.names=some .cell){i:Nat}{w:Option SV}(hi:lk x G.cv=aa i)(C:j.objs.list[i]? =aa (.cell w)){y:SV}{v:Value}(q:VR G.D p y v){Q:Unit->Shared->Prop}{E:Value->Shared->Prop}
 (k:∀M,At G c p ⟨j.loc,OL.s j.objs i (.cell (aa y)),j.fa⟩ M->Q () M):wpAny G.D.M c.A (storeName c.env x v) Q E s:=by
 obtain⟨ad,h1,h2⟩:=a.cv _ (fz hi)
 obtain⟨b,m,e,hl,⟨A,B,l,g,O,gr,F,N,L,D⟩⟩:=a.eZ (v:=.ref ad) C ⟨ad,h2,rfl⟩
 cases e
 obtain⟨ob,u,rfl,U,q'⟩:=O
 refine wpAny_storeName_cell a.ok.hk.kind (a.kind H) h1 ⟨ob,(N _ (bV _ (.head _))).1,U⟩ λh' ⟨z,hg,V⟩ h=>?_
 obtain⟨F',N'⟩:=Gu F N L (λb o hb e=>h.extBut b o hb e) hg
 exact k _ (a.to (pr _) ⟨⟨m,D (.cell (aa y)) [(ad,z)] h' m g (A3.mk z (aa v) rfl V ⟨v,rfl,q⟩) (xj L) gr F' N',hl⟩,a.tp.to (aH _),a.fa⟩)
end
section
variable{K:SS->Prop}{y:SV}
theorem At.tR{c:Cx}{x z:List Addr}{s:Shared}(a:At G c x j s)(p:z<+:x)(k:K j):PU G c z K () s:=⟨x,j,(),p,a.toRepS,trivial,k⟩
theorem qP{x:Str}{p:Pos}(z:lk x G.cs.names=some .local)(k:K ⟨(x,y)::j.loc,j.objs,j.fa⟩):fc G (.Name x p) y j K:=λc u s v a r=>
 assign_Name (xx a z r λq m=>m.tR (pr _) k)
theorem UT{o:Expr}{nm:Str}{p:Pos}(h:aA G o j λx m=>tG G x nm y m K):fc G (.Attribute o nm p) y j K:=λc B s v a r=>by
 show wpAny G.D.M c.A (do let L<-holding [v] (eval o c.env);standAt p.atName;holding [v,L] (setAttr L nm v);release [v,L] []) _ _ s
 refine wpAny_bind (wpAny_holding (h.go a (pr _) trivial (w:=()) λH m x L C O u V q k=>wpAny_bind (wpAny_standAt (wpAny_bind (wpAny_holding (k.go (w:=(L,v)) V O ⟨q,r.mono u⟩ λg g g g D U g M g z=>?_))))))
 exact wpAny_releaseD (M.tR U z)
end
end
section
variable{G:Gx}{j:SS}{Y:Pos}
section
variable{K:Fl->SS->Prop}
theorem jD{x:Str}{p U:Pos}{e:Expr}(g:dK e)(O:lk x G.cs.names=some .local)(h:aA G e j λy u=>K .next ⟨(x,y)::u.loc,u.objs,u.fa⟩):bc G (.Assign [.Name x p] e U) j K:=λc M s z a z=>
 wpAny_Assign_Name (h.go a (pr _) trivial (w:=()) λz z y v z p z m q k=>xx m O q λz V=>V.fD p (x:=.next) rfl k) (g.qN _ _ _)
theorem UU{x:Str}{p O:Pos}{e:Expr}(g:dK e)(M:lk x G.cs.names=some .cell){i:Nat}(V:lk x G.cv=aa i)(h:aA G e j λy u=>(∃w,u.objs.list[i]? =aa (.cell w))/\K .next ⟨u.loc,OL.s u.objs i (.cell (aa y)),u.fa⟩):bc G (.Assign [.Name x p] e O) j K:=λc H s z a z=>
 wpAny_Assign_Name (h.go a (pr _) trivial (w:=()) λz z y v z p z m q k=>let⟨w,L⟩:=k.1;G3 m M V L q λz U=>U.fD p (x:=.next) rfl k.2) (g.qN _ _ _)
theorem UW{o e:Expr}{nm:Str}{p p':Pos}(hc:dK e)(h:aA G e j λy m=>aA G o m λx U=>tG G x nm y U λg=>K .next g):bc G (.Assign [.Attribute o nm p] e p') j K:=λc ρ s z a z=>
 plainObj_wpAny_Assign_Attribute (h.go a (pr _) trivial (w:=()) λz z y u z p z V q k=>k.go V p trivial (w:=()) λz z x v z H O M L B=>
  B.go (w:=(v,u)) M H ⟨L,q.mono O⟩ λz z z z z C z A z D=>A.fD C (x:=.next) rfl D) (hc.qN _ _ _)
theorem UX{o i e:Expr}{p p':Pos}(hc:dK e)(h:aA G e j λy m=>aA G o m λx M=>aA G i M λz V=>tH G x z y V λV=>K .next V):bc G (.Assign [.Subscript o i p] e p') j K:=λc ρ s g a g=>
 wpAny_Assign_Subscript (h.go a (pr _) trivial (w:=()) λg g y u g p g p1 q k=>k.go p1 p trivial (w:=()) λg g x v g B L o1 D y1=>y1.go o1 B trivial (w:=()) λg g z w g C O i1 H e1=>
  e1.go (w:=(v,w,u)) i1 C ⟨D.mono O,H,q.mono (L.trans O)⟩ λg g g g g U g u1 g A=>u1.fD U (x:=.next) rfl A) (hc.qN _ _ _)
theorem UY{x:Str}{p':Pos}{op:Operator}{e:Expr}{O:SV}(hx:lk x G.cs.names=some .local)(hl:lk x j.loc=aa O)
 (h:aA G e j λy V=>aG G (inplaceOp op) O y V λz p=>K .next ⟨(x,z)::p.loc,p.objs,p.fa⟩):bc G (.AugAssign (.Name x p') op e Y) j K:=λc ρ s qq a qq=>by
 obtain⟨m,⟨ls,ad,l1,l2,g,gr,F,N⟩,B⟩:=a.R
 obtain⟨v,h1,h2⟩:=B x O hl
 exact wpAny_AugAssign_Name (wpAny_loadName_local a.ok.hk.kind (a.kind hx) (by rw[a.ok.hk.loc];exact F.ns) h1 (h.go a (pr _) trivial (w:=()) λu1 V y u p1 D U e1 q k=>k.go (w:=(v,u)) e1 D ⟨h2.mono U,q⟩ λy1 p z w o1 H i1 M L C=>
  xx M hx L λs' A=>A.fD H (x:=.next) rfl C))
theorem UZ{o e:Expr}{nm:Str}{p':Pos}{op:Operator}
 (h:aA G o j λx m=>jB G (getAttr · nm ai) x m λi1 g=>aA G e g λy k=>aG G (inplaceOp op) i1 y k λz q=>tG G x nm z q λp=>K .next p):bc G (.AugAssign (.Attribute o nm p') op e Y) j K:=λc ρ s L a L=>
 wpAny_AugAssign_AttributeAny (h.go a (pr _) trivial (w:=()) λm1 m x v Y1 u1 Q1 x1 O f1=>f1.go x1 u1 O λn1 g i1 ov T1 y1 D z1 B d1=>d1.go z1 y1 trivial (w:=()) λb1 k y u E1 e1 V l1 C a1=>
  a1.go (w:=(ov,u)) l1 e1 ⟨B.mono V,C⟩ λc1 q z w W1 U H h1 M p1=>p1.go (w:=(v,w)) h1 U ⟨O.mono (D.trans (V.trans H)),M⟩ λL L L L L A L g1 L o1=>g1.fD A (x:=.next) rfl o1)
theorem U0{o i e:Expr}{p':Pos}{op:Operator}(hi:dK i)
 (h:aA G o j λx m=>aA G i m λy V=>aG G getItem x y V λd1 g=>aA G e g λz k=>aG G (inplaceOp op) d1 z k λw p=>tH G x y w p λB=>K .next B):bc G (.AugAssign (.Subscript o i p') op e Y) j K:=λc ρ s C a C=>
 wpAny_AugAssign_SubscriptAny (h.go a (pr _) trivial (w:=()) λI1 m x v G1 a1 O1 W1 O x1=>x1.go W1 a1 trivial (w:=()) λU1 V y u F1 p1 H Q1 D z1=>z1.go (w:=(v,u)) Q1 p1 ⟨O.mono H,D⟩ λY1 g d1 ov D1 o1 L m1 e1 l1=>
  l1.go m1 o1 trivial (w:=()) λT1 k z w S1 i1 q n1 M h1=>h1.go (w:=(ov,w)) n1 i1 ⟨e1.mono q,M⟩ λE1 p n nv A1 u1 U b1 A g1=>
   g1.go (w:=(v,u,nv)) b1 u1 ⟨O.mono (H.trans (L.trans (q.trans U))),D.mono (L.trans (q.trans U)),A⟩ λC C C C C y1 C c1 C f1=>c1.fD y1 (x:=.next) rfl f1) hi.aug
end
noncomputable def j6 (G:Gx) (L:List Expr) (z:List SV) (j:SS) (K:SS->Prop):Prop:=match L,z with
 |[],[]=>K j
 |t::L,y::z=>fc G t y j λm=>j6 G L z m K
 |_,_=>False
noncomputable abbrev mu (L:List Expr):Prop:=∀t∈L,dK t
noncomputable def G4 (L:List Expr):Option (PLift (mu L)):=@bE Expr (λL=>Option (PLift (mu L))) (aa ⟨λz h=>by cases h⟩) (λt L p=>match mr t,p with
 |some ⟨a⟩,aa ⟨b⟩=>aa ⟨λu y=>(b7.mp y).elim (λe=>e▸a) (b u)⟩
 |_,_=>ah) L
theorem Bp{env:Env}{L:List Expr}(h:mu L):(assignEach L env).length=L.length/\(assignEach L env).findIdx? (·.1)=none:=by
 induction L with
 |nil=>exact⟨rfl,rfl⟩
 |cons t L p=>
  obtain⟨a,b⟩:=p λu z=>h u (.tail _ z)
  rw[(h t (.head _)).each]
  exact⟨by rw[kM,kM,a],by rw[List.findIdx?_cons];simp[b]⟩
theorem j6.go{c:Cx}{y:List Addr}{K:SS->Prop}{Q:Unit->Shared->Prop}{L:List Expr}:∀{H:List SV} {j:SS} {v:List Addr} {s:Shared} {D:List Value},mu L->j6 G L H j K->At G c v j s->y<+:v->aM G.D v H D->
 (∀U g A,y<+:U->At G c U g A->K g->Q () A)->wpAny G.D.M c.A (assignInOrder ((assignEach L c.env).map (·.2)) D) Q (PX G c y) s:=by
 induction L with
 |nil=>
  intro H j v s D _ h a p r k
  cases r with
  |nil=>exact assignInOrder_nil (k v j s p a h)
  |cons=>exact h.elim
 |cons t L ih=>
  intro H j v s D hp h a p r k
  cases r with
  |nil=>exact h.elim
  |cons q r=>
   rw[(hp t (.head _)).each]
   exact assignInOrder_cons (aC.go (w:=_) (show fc G t _ j _ from h) a p q λC m z z B O x V z M=>ih (λu hu=>hp u (.tail _ hu)) M V O (aM.mono x r) k)
noncomputable abbrev Bq (e:Expr):Prop:=∀L k p env,swappedStores [.Tuple L k p] e env=pure ah
noncomputable abbrev xy (e:Expr):Prop:=∀env v,foldedSetIterable e env v=pure v
structure U3 (e:Expr):Prop where
 nt:Bq e
 it:xy e
noncomputable def G5 (e:Expr):Option (PLift (U3 e)):=match e with
 |.Name ..=>aa ⟨⟨λz z z z=>rfl,λz z=>rfl⟩⟩
 |.Attribute ..=>aa ⟨⟨λz z z z=>rfl,λz z=>rfl⟩⟩
 |.Subscript ..=>aa ⟨⟨λz z z z=>rfl,λz z=>rfl⟩⟩
 |.Call ..=>aa ⟨⟨λz z z z=>rfl,λz z=>rfl⟩⟩
 |.IfExp ..=>aa ⟨⟨λz z z z=>rfl,λz z=>rfl⟩⟩
 |_=>ah
noncomputable def U4 (e:Expr):Option (PLift (Bq e)):=(G5 e).map λh=>⟨h.1.nt⟩
inductive oU (G:Gx) (x:SV) (j:SS) (xs:List SV):Prop
 |o (i:Nat) (e:x=.obj i) (ho:j.objs.list[i]? =aa (.tup xs))
 |t (t:Addr) (e:x=.val (.ref t)) (ht:aU t G.T.tups=aa xs)
theorem oU.at{c:Cx}{z:List Addr}{s:Shared}{x:SV}{y:List SV}{v:Value}(h:oU G x j y)(a:At G c z j s)(r:VR G.D z x v):Gq G.D z s.heap y v:=by
 cases h with
 |o i e m=>subst e;exact a.tup m r
 |t t e p=>
  subst e
  obtain⟨g,n,A,q,k,u⟩:=a.tk.tup _ (gw p)
  exact⟨t,q,r,aM.mono List.nil_prefix u,_,a.X _ _ k,rfl,n,rfl⟩
noncomputable def xA (G:Gx) (x:SV) (j:SS):Option {z:List SV//oU G x j z}:=match x with
 |.obj i=>match h:j.objs.list[i]? with
  |some (.tup z)=>aa ⟨z,.o i rfl h⟩
  |_=>ah
 |.val v=>match v with
  |.ref t=>match h:aU t G.T.tups with
   |some z=>aa ⟨z,.t t rfl h⟩
   |ah=>ah
  |_=>ah
 |_=>ah
theorem RepS.ext{D:Wd}{c:Cx}{x:List Addr}{s:Shared}(R:RepS D c x j s){u:Heap}(v:Fo s.heap.objs.size s.heap u):RepS D c x j {s with heap:=u}:=by
 obtain⟨⟨m,⟨k,ad,a,b,g,y,F,N⟩,V⟩,q,U⟩:=R
 exact⟨⟨m,⟨k,ad,a,b,g,y,F.extBut v (aH _),λp z=>⟨v _ _ (fQ (dN (N p z).1)) (N p z).1,(N p z).2⟩⟩,V⟩,q.to (aH _),U⟩
theorem U5{L:List Expr}{k:Nat}{p:Pos}{K:SS->Prop}{x:SV}{y:List SV}(u:mu L)(O:oU G x j y)(D:aQ L.length y.length=ai)(h:j6 G L y j K):fc G (.Tuple L k p) x j K:=λc A s v a r=>by
 obtain⟨b,q,rfl,f,H⟩:=O.at a r
 obtain⟨B,M⟩:=Bp (env:=c.env) u
 refine wpAny_assign_Tuple a.ok.hh H (by rw[B,bJ D,Each.len f];simp) M λh' C=>?_
 exact j6.go u h (a.to (pr _) (a.toRepS.ext C)) (pr _) (by simpa using f) λV g s' U m z=>m.tR U z
theorem U6{L:List Expr}{k:Nat}{u:Pos}{e:Expr}{K:Fl->SS->Prop}(hc:dK e)(B:Bq e)(hp:mu L)
 (h:aA G e j λx y=>∃H,oU G x y H/\aQ L.length H.length=ai/\j6 G L H y λp=>K .next p):bc G (.Assign [.Tuple L k u] e Y) j K:=λc ρ s qq a qq=>
 Assign_Tuple (h.go a (pr _) trivial (w:=()) λD y x v A U C V q ⟨H,hx,hl,O⟩=>by
  obtain⟨b,vs,rfl,f,B⟩:=hx.at V q
  obtain⟨m,⟨ls,ad,l1,l2,g,gr,F,N⟩,M⟩:=V.R
  obtain⟨e1,e2⟩:=Bp (env:=c.env) hp
  exact unpackN_ F N B a.ok.hh (by rw[e1,bJ hl,Each.len f];simp) e2 λh' F' N'=>j6.go hp O (V.to (pr _) ⟨⟨m,⟨ls,ad,l1,l2,g,gr,F',N'⟩,M⟩,V.tp.to (aH _),V.fa⟩) U f λu1 y1 s' p' a' z=>a'.fD p' (x:=.next) rfl z) (show swapsWithSole [.Tuple L k u] e Y.line c.env=pure aj from hc.qN (aa (.Tuple L k u)) Y.line c.env) (B _ _ _ _)
end
set_option backward.match.sparseCases true in
noncomputable abbrev nI (G:Gx) (c:Cx) (Y:List Addr) (K:SV->SS->Prop) (r:Result) (z:Shared):Prop:=match r with
 |.ok (.ret v)=>PE G c Y K v z
 |.ok _=>False
 |.error e=>PX G c Y e z
theorem nI.mono{G:Gx}{c:Cx}{j Y:List Addr}{K K':SV->SS->Prop}(p:j<+:Y)(k:∀x V,K x V->K' x V){r:Result}{y:Shared}(z:nI G c Y K r y):nI G c j K' r y:=by
 cases r with
 |error e=>exact PX.mono p z
 |ok f=>cases f with
  |ret v=>obtain⟨a,b,x,q,R,r,z⟩:=z;exact⟨a,b,x,p.trans q,R,r,k _ _ z⟩
  |_=>exact z
section
variable{G:Gx}{V:SS}{K K':SV->SS->Prop}{f:Value}{xs:List SV}{c:Cx}{Y j:List Addr}{s:Shared}{vs:List Value}
theorem av.mp(h:av G f xs V K)(k:∀x y,K x y->K' x y):av G f xs V K':=λc Y s vs a r=>codeAny_mono (h c Y s vs a r) λv v z=>nI.mono (pr _) k z
theorem av.code(h:av G f xs V K)(a:At G c Y V s)(p:j<+:Y)(r:aM G.D Y xs vs):codeAny G.D.M c.A (.call f ⟨vs,[]⟩) (nI G c j K) s:=codeAny_mono (h c Y s vs a r) λy y z=>nI.mono p (λy y=>id) z
theorem av.call(h:av G f xs V K)(a:At G c Y V s)(p:j<+:Y)(r:aM G.D Y xs vs):wpAny G.D.M c.A (jS f vs []) (PE G c j K) (PX G c j) s:=wpAny_call (codeAny_mono (h.code a p r) λr y z=>by
 cases r with
 |error e=>exact z
 |ok f=>cases f with
  |ret v=>exact z
  |_=>exact z.elim)
end
noncomputable def j7 (i:aR) (xs:List SV):List (Str×SV):=i.ps.zip (xs++(i.ds.drop (xs.length+i.ds.length-i.ps.length)).map sv)
noncomputable def oV (z:List (Str×SV)) (K:SV->SS->Prop) (y:Fl) (V:SS):Prop:=match y with
 |.ret x=>K x ⟨z,V.objs,V.fa⟩
 |.next=>K .none ⟨z,V.objs,V.fa⟩
 |_=>False
theorem aM.G6(W:Wd)(Y:List Addr)(l:List Value):aM W Y (l.map sv) l:=by
 induction l with
 |nil=>exact .nil
 |cons v r p=>exact .cons (qH W Y v) p
theorem G7{W:Wd}{Y:List Addr}{x:Str}{y:SV}{ps:List Str}:∀{xs:List SV} {vs:List Value},ps.Nodup->aM W Y xs vs->lk x (ps.zip xs)=aa y->∃v,(ps.zip vs).reverse.lookup x=aa v/\VR W Y y v:=by
 induction ps with
 |nil=>intro xs vs _ _ h;cases h
 |cons p ps m=>
  intro xs vs z r h
  cases r with
  |nil=>cases h
  |@cons B v xs vs q r=>
   rw[ef] at z
   rw[List.zip_cons_cons,bW] at h
   rw[List.zip_cons_cons,List.reverse_cons,List.lookup_append]
   by_cases e:x=p
   ·rw[if_pos e] at h
    cases h
    have L:(ps.zip vs).reverse.lookup x=ah:=by
     rw[List.lookup_eq_none_iff]
     intro q k
     rw[bne_iff_ne]
     exactλD=>z.1 (e▸D▸(Mv (List.mem_reverse.mp k)).1)
    rw[L]
    exact⟨v,by subst e;simp[oB],q⟩
   ·rw[if_neg e] at h
    obtain⟨u,H,g⟩:=m z.2 r h
    exact⟨u,by rw[H];rfl,g⟩
noncomputable def Gx.in (G:Gx) (n:Nat) (i:aR):Gx:=⟨G.D,G.T,n,i.scope,λz z z=>False,G.cons,[],[],[],ai⟩
theorem G8{env:Env}{z:List Env}{L:Addr}(B:env.frame=aa L):(env::z).filterMap (·.frame)=L::z.filterMap (·.frame):=by simp[B]
theorem G9{H:Around}{base v g g':Heap}{x:List Env}{env:Env}{L:Addr}{m:Str->Option Value}{h:Heap}(B:Below H base x v)(hf:env.frame=aa L)(FG:Fr v L g m)(st:v.StaysIn g)
 (T:KtsTurn ((env::x).filterMap (·.frame)) g g') (keep:∀b o,g'.get? b=aa o->h.get? b=aa o):
 ∃p,KtsTurn (x.filterMap (·.frame)) v p/\Fr p L h m/\Below H base x p/\(g'.get? L≠ah)/\∀b,g'.get? b=ah->p.get? b=ah:=by
 rw[G8 hf] at T
 obtain⟨oL,es,ep,hL,u1,e1,y1⟩:=FG.ns
 have nL:v.get? L=ah:=kts_self FG
 obtain⟨sl,hs⟩:=T.up hL
 obtain⟨u,D⟩:=kts_turn_at (h:=h) (fs:=x.filterMap (·.frame)) (g:=v)
  (λb A=>let⟨_,o,ho,_⟩:=B.frames.mem A;⟨o,ho⟩)
  (λb o e nm=>keep b o (T.other b o (st b o e) λq=>(b7.mp q).elim (λz=>by rw[z,nL] at e;cases e) nm))
  (λb o e qq=>let⟨y,k⟩:=T.up (st b o e);⟨y,keep _ _ k⟩)
 refine⟨_,u,⟨⟨_,es,ep,keep _ _ hs,u1,e1,y1⟩,D,by rw[u.size];exact FG.above⟩,⟨B.stack,λb o e=>u.other b o (B.stays b o e) (λhm=>by rw[(B.frames.mem hm).1] at e;cases e),B.frames.of_keeps λb o e qq=>(let⟨y,k⟩:=u.up e;⟨_,k,rfl⟩)⟩,by rw[hs];exactλe=>(by cases e),λb A=>?_⟩
 refine u.none_ _ ?_
 cases q:v.get? b with
 |none=>rfl
 |some o=>
  obtain⟨y,k⟩:=T.up (st _ _ q)
  rw[k] at A;cases A
theorem turn_leave{u:Around}{base x g H:Heap}{y:List Env}{env:Env}{L A:Addr}{m m':Str->Option Value}{v:List (Addr×Obj)}{h:Heap}(B:Below u base y x)(hf:env.frame=aa L)(FG:Fr x L g m)(st:x.StaysIn g)
 (T:KtsTurn ((env::y).filterMap (·.frame)) g H) (F':Fr H A h m') (D:News H A h v):
 ∃z,KtsTurn (y.filterMap (·.frame)) x z/\Fr z L h m/\News z L h v/\Below u base y z:=by
 obtain⟨z,a,b,d,nl,e⟩:=G9 B hf FG st T F'.keep
 exact⟨z,a,b,λp k=>⟨(D p k).1,λq=>nl (q▸(D p k).2.2),e _ (D p k).2.2⟩,d⟩
theorem Hf{z:List Env}{env:Env}{L:Addr}{y g:Heap}{m:Str->Option Value}(D:KtsDicts (z.filterMap (·.frame)) y)(B:env.frame=aa L)(A:Fr y L g m)(st:y.StaysIn g):KtsDicts ((env::z).filterMap (·.frame)) g:=by
 rw[G8 B]
 intro b hb
 rcases b7.mp hb with rfl|hb
 ·obtain⟨p,q,H,k,v,_⟩:=A.ns
  exact⟨p,q,H,k,v⟩
 ·obtain⟨o,q,n,x,u⟩:=D b hb
  exact⟨o,q,n,st b o x,u⟩
noncomputable def tU (G:Gx) (f:Value) (xs:List SV) (ns:List Str) (y:List SV) (V:SS) (K:SV->SS->Prop):Prop:=
 ∀c Y s vs z,At G c Y V s->aM G.D Y xs vs->aM G.D Y y z->codeAny G.D.M c.A (.call f ⟨vs,ns.zip z⟩) (nI G c Y K) s
theorem tU.call{G:Gx}{f:Value}{xs y:List SV}{ns:List Str}{V:SS}{K:SV->SS->Prop}{c:Cx}{Y j:List Addr}{s:Shared}{vs us:List Value}(h:tU G f xs ns y V K)(a:At G c Y V s)(p:j<+:Y)(r:aM G.D Y xs vs)(q:aM G.D Y y us):wpAny G.D.M c.A (jS f vs (ns.zip us)) (PE G c j K) (PX G c j) s:=wpAny_call (codeAny_mono (h c Y s vs us a r q) λr u z=>by
 have z:=nI.mono p (λx x=>id) z
 cases r with
 |error e=>exact z
 |ok f=>cases f with
  |ret v=>exact z
  |_=>exact z.elim)
inductive xB (D:Wd) (KR:OL->List Fact->Prop) (c:Cx) (Y:List Addr) (e:Value) (s':Shared):Prop
 |mk (h:Heap) (ρ':List Addr) (os':OL) (fa':List Fact) (m':Str->Option Value) (a:Addr) (p:Y<+:ρ') (L:Led D c ρ' (OL.list os') m' h) (e:e=.ref a) (n:Heap.NewExc h s'.heap a "KeyError") (t:Tp D s') (f:∀f∈fa',f.ok D.η) (k:KR os' fa')
theorem Hg{G:Gx}{V:SS}{K:SV->SS->Prop}{f:Addr}{i:aR}{n:Nat}{xs ys:List SV}{ns:List Str}(hi:aU f G.T.fns=aa i)(hn:G.n=n+1)(f1:List (Str×SV))(B:List Value->List Value->List (Str×Value))
 (z1:∀(s:Shared) vs L,G.D.K.In s.heap->vs.length=xs.length->L.length=ys.length->BindsTo s i.fd ⟨vs,ns.zip L⟩ (B vs L)) (O1:∀vs L,vs.length=xs.length->L.length=ys.length->∀y∈B vs L,i.scope.names.lookup y.1=some .local)
 (Q1:∀Y vs L,aM G.D Y xs vs->aM G.D Y ys L->iA G.D Y f1 λy=>(B vs L).reverse.lookup y) (KR:OL->List Fact->Prop)
 (hb:∀c Y s,At (G.in n i) c Y ⟨f1,V.objs,V.fa⟩ s->wpAny G.D.M c.A (execs i.body c.env) (PB (G.in n i) c Y (oV V.loc K)) (xB G.D KR c Y) s)
 (hx:∀o1 a1 e H,KR o1 a1->G.KX e H ⟨V.loc,o1,a1⟩):tU G (.ref f) xs ns ys V K:=by
 intro c Y s vs L a r q
 have F:=a.tk.fns _ (gw hi)
 obtain⟨oc,od,F1,ho⟩:=F.at_
 obtain⟨m,⟨ls,ad,hL,A1,g0,u,i1,N⟩,Y1⟩:=a.R
 have X:=u.X
 have A:=a.ok
 have E1:=(Each.len r).symm
 have W1:=(Each.len q).symm
 have hfr:=A.hA (by rw[hn];exact qu _)
 obtain⟨FG,BG,st,lv⟩:=groundX (R:=λqq qq=>True) u.B i1 N hfr.1 hfr.2 A.hk.kind
 refine codeAny_call_def (fd:=i.fd) (body:=i.body) (binds:=B vs L) (by have:=A.hd;exact Om.Fy hn this) ((X.keeps i1.keep) _ _ ho) rfl (u.T.nolimit.keeps i1.keep) (codeRec_of (X.keeps i1.keep) F.code) rfl (z1 s vs L (X.keeps i1.keep) E1 W1) F.cell (O1 vs L E1 W1) (λe1 I1 u1=>?_) F.co F.gen F.kind
 let g:=hideAll s.heap ((flat ls++c.X).map (·.1))
 let L':=s.heap.objs.size
 let c':Cx:=⟨c.A.deeper (envOf i.qual i.scope L' f i.cdv),c.A,c.base,g,c.env::c.outer,envOf i.qual i.scope L' f i.cdv,i.scope,L',c.X,c.R⟩
 have U1:Ok G.D c' n:=⟨A.XB,A.TB,λqq=>⟨Around.frames_deeper hfr.1,rfl⟩,⟨F.kind,rfl,rfl,rfl,rfl⟩,A.hh,by
  have:=A.hd
  show c.A.depth+1+n<_
  exact Om.Fz hn this,by
  have:=A.hu
  show c.A.units+3+8*n+40<_
  exact Om.FA hn this⟩
 have S1:Gr G.D c' g:=⟨BG,X.keeps st,u.T.keeps st,Hf u.D hfr.2 FG st,MK⟩
 have Fl:Fr g L' e1 (λy=>(B vs L).reverse.lookup y):=⟨I1,λb o e=>u1 b o (of_hideAll _ e),aK (hideAll_size _ _)⟩
 have N':News g L' e1 (flat ls++c.X):=λp hp=>⟨u1 _ _ (N p hp).1,fQ (dN (N p hp).1),hideAll_none _ (EY hp)⟩
 have a':At (G.in n i) c' Y ⟨f1,V.objs,V.fa⟩ {s with heap:=e1,toks:=s.toks+(B vs L).length}:=⟨⟨⟨_,⟨ls,ad,hL,A1,g,S1,Fl,N'⟩,Q1 Y vs L r q⟩,a.tp.to (bL _ _),a.fa⟩,rfl,U1,a.tk,a.rx,λx hx=>Om.nm hx,λqq=>⟨rfl,λqq=>⟨_,_,_,_,rfl⟩⟩⟩
 refine wpAny_mono (hb c' Y _ a') (λfl s' z=>?_) λe s' z=>?_
 ·obtain⟨H,n1,x,p,⟨⟨m',⟨d1,c1,x1,y1,g1,p1,F',b1⟩,_⟩,h1,l1⟩,fr,k⟩:=z
  obtain⟨D,T1,F2,N2,B2⟩:=turn_leave u.B hfr.2 FG st p1.t F' b1
  have R2:RepS G.D c H ⟨V.loc,n1.objs,n1.fa⟩ s':=⟨⟨m,⟨d1,c1,x1,y1,D,⟨B2,A.XB.keeps B2.stays,A.TB.keeps B2.stays,LM u.D T1,u.t.trans T1⟩,F2,N2⟩,Y1.mono p⟩,h1,l1⟩
  cases x with
  |ret x=>obtain⟨v,rfl,q⟩:=fr;exact⟨H,_,x,p,R2,q,k⟩
  |next=>obtain rfl:=fr;exact⟨H,_,.none,p,R2,rfl,k⟩
  |_=>exact k.elim
 ·obtain⟨h,H,o1,a1,m',D1,p,⟨d1,c1,x1,y1,g1,p1,F',b1⟩,rfl,m1,h1,l1,kr⟩:=z
  obtain⟨D,T1,F2,B2,_,_⟩:=G9 u.B hfr.2 FG st p1.t (h:=g1) λqq qq e=>e
  exact leave_newS p1.B m1 F' b1 (λh' R' qq hu=>⟨H,⟨V.loc,o1,a1⟩,m,p,⟨D1,D,g1,d1,rfl,c1,x1,y1,R',hu,F2,⟨B2,A.XB.keeps B2.stays,A.TB.keeps B2.stays,LM u.D T1,u.t.trans T1⟩,h1.to (aH _),Y1.mono p,l1⟩,hx _ _ _ _ kr⟩) F.kind
theorem Hh{G:Gx}{n:Nat}{i:aR}{y:List (Str×SV)}{os:OL}{x:List Fact}{K:Fl->SS->Prop}{q:OL->List Fact->Prop}(u:aO (G.in n i) i.body ⟨y,os,x⟩ K):∀c Y s,At (G.in n i) c Y ⟨y,os,x⟩ s->wpAny G.D.M c.A (execs i.body c.env) (PB (G.in n i) c Y K) (xB G.D q c Y) s:=λc Y s a=>
 wpAny_mono (u c Y s () a trivial) (λv v z=>z) λ_ _ ⟨_,_,_,_,_,z⟩=>z.elim
theorem U7{G:Gx}{V:SS}{K:SV->SS->Prop}{f:Addr}{i:aR}{n:Nat}{xs k:List SV}{ns:List Str}(H:aU f G.T.fns=aa i)(L:G.n=n+1)(u:List (Str×SV))(v:List Value->List Value->List (Str×Value))
 (q:∀(s:Shared) vs x,G.D.K.In s.heap->vs.length=xs.length->x.length=k.length->BindsTo s i.fd ⟨vs,ns.zip x⟩ (v vs x)) (g:∀vs x,vs.length=xs.length->x.length=k.length->∀y∈v vs x,i.scope.names.lookup y.1=some .local)
 (m:∀Y vs x,aM G.D Y xs vs->aM G.D Y k x->iA G.D Y u λy=>(v vs x).reverse.lookup y)
 (D:aO (G.in n i) i.body ⟨u,V.objs,V.fa⟩ (oV V.loc K)):tU G (.ref f) xs ns k V K:=
 Hg H L u v q g m (λp p=>False) (Hh D) λp p p p z=>z.elim
theorem Hi{G:Gx}{V:SS}{K:SV->SS->Prop}{f:Addr}{i:aR}{n:Nat}{xs:List SV}(k:aU f G.T.fns=aa i)(H:G.n=n+1)(B:aD i.ps.length (xs.length+i.ds.length)=ai)(u:aD xs.length i.ps.length=ai)(m:OL->List Fact->Prop)
 (D:∀c Y s,At (G.in n i) c Y ⟨j7 i xs,V.objs,V.fa⟩ s->wpAny G.D.M c.A (execs i.body c.env) (PB (G.in n i) c Y (oV V.loc K)) (xB G.D m c Y) s)
 (L:∀v q e p,m v q->G.KX e p ⟨V.loc,v,q⟩):av G (.ref f) xs V K:=λc Y s vs a r=>
 have F:=a.tk.fns _ (gw k)
 Hg (ys:=[]) (ns:=[]) k H (j7 i xs) (λvs z=>i.bind vs) (λs vs z h e z=>F.bind s vs h (e▸aB B) (e▸aB u)) (λz z z z y g=>of_decide_eq_true (bZ.mp F.loc y.1 (Mv g).1))
  (λY vs A r z x y e=>by
    unfold aR.bind
    rw[<-Each.len r]
    exact G7 F.nd (Each.app r (aM.G6 G.D Y _)) e) m D L c Y s vs [] a r .nil
theorem j8{G:Gx}{V:SS}{K:SV->SS->Prop}{f:Addr}{i:aR}{n:Nat}{xs:List SV}(q:aU f G.T.fns=aa i)(v:G.n=n+1)(x:aD i.ps.length (xs.length+i.ds.length)=ai)(u:aD xs.length i.ps.length=ai)
 (p:aO (G.in n i) i.body ⟨j7 i xs,V.objs,V.fa⟩ (oV V.loc K)):av G (.ref f) xs V K:=
 Hi q v x u (λy y=>False) (Hh p) λy y y y z=>z.elim
theorem bw.in{G:Gx}(h:bw G)(n:Nat)(i:aR):bw (G.in n i):=⟨h.con,h.bl,λx y=>Om.nm y,λx y=>Om.nm y,λz z z h=>h⟩
section
variable{G:Gx}{V:SS}{K:SV->SS->Prop}{i:Nat}{C:Addr}{fs:List (Str×SV)}{M:CI}{nm:Str}{O:List Expr}{U:Pos}
noncomputable abbrev dR (L:List Expr):Prop:=∀t∈L,∀r env,starEach (t::r) env=(aj,eval t env)::starEach r env
theorem mu.s{L:List Expr}(h:mu L):dR L:=λt z=>(h t z).star
theorem plain_any{U:Pos}{env:Env}{l:List Expr}(h:dR l):(backTo U (starEach l env)).any (·.1)=false:=by
 induction l with
 |nil=>rfl
 |cons e r p=>
  rw[h e (.head _)]
  show(aj||(backTo U (starEach r env)).any (·.1))=aj
  rw[p λt z=>h t (.tail _ z)];rfl
theorem plain_all{U:Pos}{env:Env}{l:List Expr}(h:dR l):(backTo U (starEach l env)).all (!·.1)=true:=by
 induction l with
 |nil=>rfl
 |cons e r p=>
  rw[h e (.head _)]
  show(ai&&(backTo U (starEach r env)).all (!·.1))=ai
  rw[p λt z=>h t (.tail _ z)];rfl
structure Way (G:Gx) (c:Cx) (Y:List Addr) (f:Value) (H:Shared->Prop):Prop where
 w0:∀{U:Pos} {first:List Value} {Q:Value->Shared->Prop} {E:Value->Shared->Prop} {s:Shared},H s->wpAny G.D.M c.A (jS f (first++[]) []) Q E s->wpAny G.D.M c.A (callWith U f first [] []) Q E s
 w1:∀{U:Pos} {first:List Value} {Q:Value->Shared->Prop} {E:Value->Shared->Prop} {s:Shared} {e:Expr} {r:List Expr},H s->dR (e::r)->wpAny G.D.M c.A (spliced (backTo U (starEach (e::r) c.env))) (λvs s'=>H s'/\wpAny G.D.M c.A (jS f (first++vs) []) Q E s') E s->wpAny G.D.M c.A (callWith U f first (backTo U (starEach (e::r) c.env)) []) Q E s
theorem Bs{c:Cx}{Y j:List Addr}{s:Shared}{f:Value}{first:List Value}{xs:List SV}{H:Shared->Prop}(W:Way G c Y f H)(hp:dR O)(a:At G c Y V s)(hH:H s)(p:j<+:Y)(r:aM G.D Y xs first)
 {L:List SV->SS->Prop} (h:dI G O V L) (k:∀y x g vs u,At G c y x u->j<+:y->Y<+:y->aM G.D y (xs++g) vs->L g x->H u/\wpAny G.D.M c.A (jS f vs []) (PE G c j K) (PX G c j) u):wpAny G.D.M c.A (callWith U f first (backTo U (starEach O c.env)) []) (PE G c j K) (PX G c j) s:=by
 cases O with
 |nil=>
  refine W.w0 hH ?_
  exact wpAny_bind (f:=λvs=>jS f (first++vs)) (m:=spliced (backTo U (starEach [] c.env))) (h.go (w:=U) a p trivial λy x g vs u D v B q z=>(k y x g _ u B D v (Each.app (aM.mono v r) q) z).2)
 |cons e A=>exact W.w1 hH hp (h.go (w:=U) a p trivial λy x g vs u D v B q z=>k y x g _ u B D v (Each.app (aM.mono v r) q) z)
theorem U8{c:Cx}{Y:List Addr}{f:Addr}(y:keepIn G.D.K (.ref f)=ai):Way G c Y (.ref f) λs=>G.D.K.In s.heap where
 w0:=λX h=>callWith_K0 (env:=c.env) X y h
 w1:=λX z h=>callWith_K X y h (z _ (.head _) _ _) (plain_any λt x=>z t (.tail _ x))
theorem xC{c:Cx}{Y j:List Addr}{s:Shared}{f:Addr}{first:List Value}{xs:List SV}(L:keepIn G.D.K (.ref f)=ai)(g:dR O)(a:At G c Y V s)(p:j<+:Y)(r:aM G.D Y xs first)
 (h:dI G O V λy m=>av G (.ref f) (xs++y) m K):wpAny G.D.M c.A (callWith U (.ref f) first (backTo U (starEach O c.env)) []) (PE G c j K) (PX G c j) s:=
 Bs (U8 L) g a a.X p r h λu v y vs H x k D q z=>⟨x.X,z.call x k q⟩
end
noncomputable def fL (k:Nat) (x:SV):Bool:=match x with
 |.obj i=>dW i k
 |_=>ai
noncomputable def oW (k:Nat) (o:SO):Bool:=match o with
 |.inst _ z=>z.all λp=>fL k p.2
 |.dict z=>z.all λp=>fL k p.2
 |.bz z=>z.all λp=>fL k p.2
 |.list _ v=>v.all (fL k)
 |.tup v=>v.all (fL k)
 |.aI _ x=>fL k x
 |.aJ _ _ _ v=>v.all (fL k)
 |.cz _=>ai
 |.gone=>ai
 |_=>aj
noncomputable abbrev Wd.no (W:Wd):Wd:={W with bl:=λz z z=>False}
section
variable{W:Wd}{V:List Addr}{k:Nat}
theorem VR.take{x:SV}{v:Value}(h:fL k x=ai)(r:VR W V x v):VR W.no (V.take k) x v:=by
 cases x with
 |obj i=>exact r.imp λa r=>⟨by rw[zZ (aB h)];exact r.1,r.2⟩
 |_=>exact r
theorem Each.dS{H z:Type}{R u:H->z->Prop}{p:H->Bool}{v:List H}{ys:List z}(h:v.all p=ai)(f:∀x y,p x=ai->R x y->u x y)(r:Each R v ys):Each u v ys:=by
 induction r with
 |nil=>exact .nil
 |cons a _ q=>
  rw[jQ,cD] at h
  exact .cons (f _ _ h.1 a) (q h.2)
theorem OR.take{X:List (Addr×Obj)}{a:Addr}{o:SO}{l:List (Addr×Obj)}(h:oW k o=ai)(r:OR W X V a o l):OR W.no [] (V.take k) a o l:=by
 cases o with
 |inst C u=>obtain⟨a,b,c,d,f⟩:=r;exact⟨a,b,c,d,Each.dS h (λy y p q=>⟨q.key,q.hash,q.val.take p⟩) f⟩
 |dict u=>obtain⟨a,b,c,d,f⟩:=r;exact⟨a,b,c,d,Each.dS h (λy y p q=>⟨q.k,q.v.take p⟩) f⟩
 |bz u=>obtain⟨a,b,c,d,f⟩:=r;exact⟨a,b,c,d,Each.dS h (λy y p q=>⟨q.k,q.v.take p⟩) f⟩
 |list p v=>obtain⟨a,b,c,d,q,f⟩:=r;exact⟨a,b,c,d,q,Each.dS h (λy y p q=>q.take p) f⟩
 |tup v=>obtain⟨a,b,d,f⟩:=r;exact⟨a,b,d,Each.dS h (λy y p q=>q.take p) f⟩
 |aI f x=>obtain⟨a,b,f⟩:=r;exact⟨a,b,f.take h⟩
 |aJ=>obtain⟨a,b,c,d,q,z,f⟩:=r;exact⟨a,b,c,d,q,z,Each.dS h (λy y p q=>q.take p) f⟩
 |cz=>obtain⟨a,b,c,d⟩:=r;exact⟨a,b,c,d⟩
 |gone=>exact r
 |_=>cases h
theorem VR.wd{x:SV}{v:Value}(r:VR W.no V x v):VR W V x v:=by cases x<;>exact r
theorem OR.wd{X:List (Addr×Obj)}{a:Addr}{o:SO}{l:List (Addr×Obj)}(r:OR W.no [] V a o l):OR W X V a o l:=by
 cases o with
 |blob=>exact r.elim
 |eu u=>obtain⟨_,_,_,m,_⟩:=r;cases m
 |aJ=>obtain⟨a,b,c,d,q,z,f⟩:=r;exact⟨a,b,c,d,q,z,Each.mono (λy y q=>q.wd) f⟩
 |cz=>obtain⟨a,b,c,d⟩:=r;exact⟨a,b,c,d⟩
 |inst C u=>obtain⟨a,b,c,d,f⟩:=r;exact⟨a,b,c,d,Each.mono (λy y q=>⟨q.key,q.hash,q.val.wd⟩) f⟩
 |dict u=>obtain⟨a,b,c,d,f⟩:=r;exact⟨a,b,c,d,Each.mono (λy y q=>⟨q.k,q.v.wd⟩) f⟩
 |bz u=>obtain⟨a,b,c,d,f⟩:=r;exact⟨a,b,c,d,Each.mono (λy y q=>⟨q.k,q.v.wd⟩) f⟩
 |list p v=>obtain⟨a,b,c,d,q,f⟩:=r;exact⟨a,b,c,d,q,Each.mono (λy y q=>q.wd) f⟩
 |tup v=>obtain⟨a,b,d,f⟩:=r;exact⟨a,b,d,Each.mono (λy y q=>q.wd) f⟩
 |aI f x=>obtain⟨a,b,f⟩:=r;exact⟨a,b,f.wd⟩
 |cell x=>obtain⟨a,b,c,d,q⟩:=r;cases x with
  |none=>exact⟨a,b,c,d,q⟩
  |some x=>exact⟨a,b,c,d,q.imp λy h=>⟨h.1,h.2.wd⟩⟩
 |gone=>exact r
end
theorem Each.tV{H z:Type}{R:H->z->Prop}{v:List H}{ys:List z}(r:Each R v ys)(k:Nat):Each R (v.take k) (ys.take k):=by
 induction r generalizing k with
 |nil=>rw[List.take_nil,List.take_nil];exact .nil
 |cons a _ p=>cases k with
  |zero=>exact .nil
  |succ k=>exact .cons a (p k)
inductive qQ (MM:fR->List SO->Prop) (W:Wd) (b:fR) (a:Addr) (l:List (Addr×Obj)):Prop
 |mk (osi:List SO) (lsi:List Cl) (L:LR W.no [] (lsi.map aS) osi lsi) (e:flat lsi=l) (h0:(lsi.map aS)[0]? =aa a) (m:MM b osi)
theorem xD(z:List Cl)(k:Nat):(flat (z.take k)).Sublist (flat z):=by
 conv=>rhs;rw[<-iM k z]
 rw[flat,flat,oq]
 exact ahw _ _
section
variable{MM:fR->List SO->Prop}{G:Gx}{j:SS}{K:SV->SS->Prop}{f:Value}{i:Nat}{b:fR}{ys:List SV}
noncomputable def Gx.bb (G:Gx):Gx:=⟨G.D,G.T,G.n,G.cs,λz z z=>False,G.cons,[],[],[],aj⟩
theorem bw.bb{G:Gx}(h:bw G):bw G.bb:=⟨h.con,h.bl,λx y=>Om.nm y,λx y=>Om.nm y,λz z z h=>h⟩
noncomputable def fE (x:SV):Bool:=match x with
 |.obj _=>aj
 |_=>ai
theorem VR.any{W:Wd}{V z:List Addr}{x:SV}{v:Value}(h:fE x=ai)(r:VR W V x v):VR W z x v:=by
 cases x with
 |obj=>cases h
 |_=>exact r
inductive tW (MM:fR->List SO->Prop) (G:Gx) (j:SS) (i:Nat) (K:SV->SS->Prop) (loc:List (Str×SV)) (x:SV) (σ':SS):Prop
 |mk (b':fR) (k:Nat) (y:SV) (e:σ'.loc=loc) (m:MM b' (σ'.objs.list.take k)) (h:(σ'.objs.list.take k).all (oW k)=ai) (h0:0<k) (r:(∀f∈σ'.fa,f.ok G.D.η)->∀V ρ' v,VR G.D V x v->VR G.D ρ' y v) (z:(∀f∈σ'.fa,f.ok G.D.η)->K y ⟨j.loc,OL.s j.objs i (.blob b'),σ'.fa⟩)
noncomputable def iC (m:Str->Option Value) (z:List (Str×SV)):List (Str×SV):=z.map λp=>(p.1,.val ((m p.1).getD .none))
theorem j9{m:Str->Option Value}{x:Str}{y:SV}:∀{z:List (Str×SV)},lk x z=aa y->lk x (iC m z)=aa (.val ((m x).getD .none)):=@λz=>by
 induction z with
 |nil=>exactλh=>by cases h
 |cons p r v=>
  intro h
  obtain⟨n,w⟩:=p
  rw[bW] at h
  show lk x ((n,_)::iC m r)=_
  rw[bW]
  by_cases e:x=n
  ·rw[if_pos e,e]
  ·rw[if_neg e] at h⊢;exact v h
theorem tX{m:Str->Option Value}{x:Str}{y:SV}:∀{v:List (Str×SV)},lk x (iC m v)=aa y->∃z,lk x v=aa z:=@λv=>by
 induction v with
 |nil=>exactλh=>by cases h
 |cons p r q=>
  intro h
  obtain⟨n,w⟩:=p
  rw[bW]
  have u:lk x ((n,.val ((m n).getD .none))::iC m r)=aa y:=h
  rw[bW] at u
  by_cases e:x=n
  ·rw[if_pos e];exact⟨_,rfl⟩
  ·rw[if_neg e] at u⊢;exact q u
noncomputable abbrev Cx.X0 (c:Cx) (X:List (Addr×Obj)):Cx:={c with X:=X}
theorem RepS.perm{D:Wd}{c:Cx}{V:List Addr}{j:SS}{s:Shared}{X X':List (Addr×Obj)}(v:X.Perm X')(R:RepS D (c.X0 X) V j s):RepS D (c.X0 X') V j s:=by
 obtain⟨⟨m,⟨z,ad,C,l2,g,y,F,N⟩,Y⟩,x,U⟩:=R
 have q:=z3 (flat z) v
 exact⟨⟨m,⟨z,ad,C,(q.map aS).nodup_iff.mp l2,g,y,F,λp u=>N p (q.symm.subset u)⟩,Y⟩,x,U⟩
theorem tY{A B:List Cl}{b:Addr}{l:List (Addr×Obj)}:flat (A++(b,l)::B)=flat A++(l++flat B):=by simp[flat]
theorem RepS.out{D:Wd}{c:Cx}{V:List Addr}{j:SS}{s:Shared}{t:Nat}{x:List SV}{a:Addr}(R:RepS D c V j s)(L:j.objs.list[t]? =aa (.tup x))(u:V[t]? =aa a):
 ∃q n,aM D V x q/\RepS D (c.X0 ((a,mi (q:List Value).toArray n)::c.X)) V ⟨j.loc,OL.s j.objs t .gone,j.fa⟩ s:=by
 obtain⟨⟨m,⟨ls,ad,C,l2,g,y,F,N⟩,H⟩,O,h⟩:=R
 obtain⟨A,⟨z,U⟩,B,Y,rfl,r,st⟩:=Each.at C L
 obtain rfl:z=a:=by
  rw[<-ad,dH,dY (by simp[Y])] at u
  simpa[Y] using u
 obtain⟨q,n,e,f⟩:=r
 have e':U=[(z,mi (q:List Value).toArray n)]:=e
 subst e'
 have v:(flat (A++(z,[(z,mi (q:List Value).toArray n)])::B)++c.X).Perm (flat (A++(z,[])::B)++((z,mi (q:List Value).toArray n)::c.X)):=by
  rw[tY,tY,ow,bY,bY,bY]
  exact z3 _ (jO (a:=(z,mi (q:List Value).toArray n)) (l₁:=flat B) (l₂:=c.X)).symm
 exact⟨q,n,f,⟨m,⟨A++(z,[])::B,by rw[<-ad];simp,st .gone (z,[]) rfl,(v.map aS).nodup_iff.mp l2,g,y,F,λp M=>N p (v.symm.subset M)⟩,H⟩,O,h⟩
theorem RepS.into{D:Wd}{c:Cx}{V:List Addr}{j:SS}{s:Shared}{x:SO}{a:Addr}{o:Obj}(R:RepS D (c.X0 ((a,o)::c.X)) V j s)(q:OR D c.R (V++[a]) a x [(a,o)]):RepS D c (V++[a]) ⟨j.loc,OL.a j.objs x,j.fa⟩ s:=by
 obtain⟨⟨m,⟨z,ad,C,l2,g,y,F,N⟩,U⟩,u,O⟩:=R
 have v:(flat z++((a,o)::c.X)).Perm (flat (z++[(a,[(a,o)])])++c.X):=by
  rw[flat,flat,oq,bY];exact List.Perm.refl _
 exact⟨⟨m,⟨z++[(a,[(a,o)])],by rw[<-ad];simp,(show LR D c.R _ (snoc j.objs.list x) _ from iy j.objs.list x▸(LR.mono (dB _ _) C).app (.one q)),(v.map aS).nodup_iff.mp l2,g,y,F,λp Y=>N p (v.symm.subset Y)⟩,U.mono (dB _ _)⟩,u,O⟩
inductive U9 (MM:fR->List SO->Prop) (G:Gx) (c:Cx) (V:List Addr) (j:SS) (s:Shared) (i:Nat) (b:fR):Prop
 |mk (osi:List SO) (ρi:List Addr) (F:List (Addr×Obj)) (loc:List (Str×SV)) (m:MM b osi) (at_:At G.bb (c.X0 (F++c.X)) ρi ⟨loc,.b osi,j.fa⟩ s) (h0:ρi[0]? =V[i]?)
  (cl:∀X ρ' σ' s' k b',RepS G.D (c.X0 (F++X)) ρ' σ' s'->ρi<+:ρ'->σ'.loc=loc->MM b' (σ'.objs.list.take k)->(σ'.objs.list.take k).all (oW k)=ai->0<k->RepS G.D (c.X0 X) V ⟨j.loc,OL.s j.objs i (.blob b'),σ'.fa⟩ s')
theorem At.Hj{c:Cx}{V:List Addr}{s:Shared}(hb:∀b a l,G.D.bl b a l↔qQ MM G.D b a l)(hi:j.objs.list[i]? =aa (.blob b))(a:At G c V j s):U9 MM G c V j s i b:=by
 obtain⟨⟨m,⟨ls,ad,l1,l2,g,gr,F,N⟩,hl⟩,tp,fa⟩:=a.toRepS
 obtain⟨A,y,B,hA,rfl,r,st⟩:=Each.at l1 hi
 obtain⟨U,y2⟩:=y
 have d1:V[i]? =aa U:=by
  rw[<-ad,dH,dY (by simp[hA])]
  simp[hA]
 obtain⟨e1,Y,L,e,h0,hm⟩:=(hb _ _ _).mp r
 obtain rfl:flat Y=y2:=e
 have H:∀l X:List (Addr×Obj),(flat (A++(U,l)::B)++X).Perm (l++((flat A++flat B)++X)):=λl X=>by
  rw[tY,<-bY l]
  exact ER _ (vY _ _ _)
 refine⟨e1,Y.map aS,flat A++flat B,iC m j.loc,hm,⟨⟨⟨m,⟨Y,rfl,Each.mono (λqq qq r=>r.wd) L,((H _ _).map aS).nodup_iff.mp l2,g,gr,F,λp O=>N p ((H _ _).symm.subset O)⟩,λx z q=>?_⟩,tp,fa⟩,a.cs,⟨a.ok.XB,a.ok.TB,a.ok.hA,a.ok.hk,a.ok.hh,a.ok.hd,a.ok.hu⟩,a.tk,λp O=>bV _ (a.rx p O),λx hx=>Om.nm hx,λh=>Om.nb h⟩,h0.trans d1.symm,λX c1 D s' k b' R p e i1 a1 p1=>?_⟩
 ·obtain⟨w,hw⟩:=tX q
  obtain⟨u,M,h2⟩:=hl x w hw
  rw[j9 hw,M] at q
  cases q
  exact⟨u,M,rfl⟩
 ·obtain⟨⟨m2,⟨v,x1,l3,u1,g2,g1,F2,N2⟩,o1⟩,C,z1⟩:=R
  subst x1
  have f1:((v.take k).map aS)[0]? =aa U:=by
   rw[Af,zZ p1];exact iz p h0
  have hO:OR G.D c.R V U (.blob b') (flat (v.take k)):=(hb _ _ _).mpr ⟨D.objs.list.take k,v.take k,by
   rw[Af]
   exact Each.dS a1 (λqq qq q r=>OR.take q r) (Each.tV l3 k),rfl,f1,i1⟩
  have sl:(flat (v.take k)++((flat A++flat B)++X)).Sublist (flat v++((flat A++flat B)++X)):=(xD v k).append (fY _)
  refine⟨⟨m2,⟨A++(U,flat (v.take k))::B,by rw[<-ad];simp,st (.blob b') (U,_) hO,((H _ _).map aS).nodup_iff.mpr ((sl.map aS).nodup u1),g2,g1,F2,λp O=>N2 p (sl.subset ((H _ _).subset O))⟩,λx z q=>?_⟩,C,z1⟩
  obtain⟨u,M,h2⟩:=hl x z q
  have q2:=j9 (m:=m) q
  rw[<-e] at q2
  obtain⟨u',h3,h4⟩:=o1 x _ q2
  rw[M] at h4
  obtain rfl:u'=u:=h4
  exact⟨u',h3,h2⟩
set_option backward.match.sparseCases true in
theorem jE{M:Model}{A:Around}{f:Value}{q:List Value}{s:Shared}{Q u:Value->Shared->Prop}{E p:Value->Shared->Prop}(h:codeAny M A (.call f ⟨q,[]⟩) (λr y=>match r with
 |.ok (.ret v)=>Q v y
 |.ok _=>False
 |.error e=>E e y) s) (k:∀v y,Q v y->u v y) (x:∀e y,E e y->p e y):codeAny M A (.call f ⟨q,[]⟩) (λr y=>match r with
 |.ok (.ret v)=>u v y
 |.ok _=>False
 |.error e=>p e y) s:=codeAny_mono h λm y z=>by
 rcases m with e|(_|_|_|v)
 ·exact x _ _ z
 ·exact z
 ·exact z
 ·exact z
 ·exact k _ _ z
theorem tZ{G:Gx}{c C:Cx}{V z:List Addr}{e:Value}{s:Shared}(h:PX G.bb c V e s):PX G C z e s:=let⟨_,_,_,_,_,k⟩:=h;k.elim
theorem Hl(hb:∀b a l,G.D.bl b a l↔qQ MM G.D b a l)(hi:j.objs.list[i]? =aa (.blob b))(M:ys.all fE=ai)
 (h:∀m u,MM b u->av G.bb f (.obj 0::ys) ⟨m,.b u,j.fa⟩ (tW MM G j i K m)):av G f (.obj i::ys) j K:=by
 intro c V s C a r
 cases r using Each.ec with
 |@cons v0 C r rs=>
 obtain⟨a0,D,rfl⟩:=r
 obtain⟨u,U,F,m,hm,a',h0,cl⟩:=a.Hj hb hi
 refine jE (h m u hm (c.X0 (F++c.X)) U s (.ref a0::C) a' (.cons ⟨a0,h0.trans D,rfl⟩ (Each.dS M (λqq qq p q=>q.any p) rs))) (λv B z=>?_) λe B z=>tZ z
 obtain⟨O,g,x,p,R,hv,⟨A,k,y,e,L,H,Y,hr,hz⟩⟩:=z
 exact⟨V,⟨j.loc,OL.s j.objs i (.blob A),g.fa⟩,y,pr _,cl c.X O g B k A R p e L H Y,hr R.fa _ _ _ hv,hz R.fa⟩
theorem Va{t:Nat}{M:List SV}(hb:∀b a l,G.D.bl b a l↔qQ MM G.D b a l)(hi:j.objs.list[i]? =aa (.blob b))(ht:j.objs.list[t]? =aa (.tup M))(C:M.all fE=ai)(B:ys.all fE=ai)
 (h:∀m u,MM b u->av G.bb f (.obj 0::.obj u.length::ys) ⟨m,.a (.b u) (.tup M),j.fa⟩ (tW MM G ⟨j.loc,OL.s j.objs t .gone,j.fa⟩ i K m)):av G f (.obj i::.obj t::ys) j K:=by
 intro c V s vs a r
 cases r using Each.ec with
 |cons r H=>
 cases H using Each.ec with
 |cons r' H=>
 obtain⟨a0,o1,rfl⟩:=r
 obtain⟨g,i1,rfl⟩:=r'
 obtain⟨U,n,A,R1⟩:=a.toRepS.out ht i1
 have hit:i≠t:=λe=>by rw[e,ht] at hi;cases hi
 have p1:At G (c.X0 ((g,mi (U:List Value).toArray n)::c.X)) V ⟨j.loc,OL.s j.objs t .gone,j.fa⟩ s:=⟨R1,a.cs,⟨a.ok.XB,a.ok.TB,a.ok.hA,a.ok.hk,a.ok.hh,a.ok.hd,a.ok.hu⟩,a.tk,λp hp=>.tail _ (a.rx p hp),a.cv,a.hf⟩
 obtain⟨u,Y,F,m,hm,a',h0,cl⟩:=p1.Hj (MM:=MM) (i:=i) (b:=b) hb (by show(aX j.objs.list t .gone)[i]? =_;rw[oM,if_neg hit];exact hi)
 have R2:=(RepS.perm (c:=c) (X:=F++((g,mi (U:List Value).toArray n)::c.X)) (X':=(g,mi (U:List Value).toArray n)::(F++c.X)) jO a'.toRepS)
 have R3:=RepS.into (c:=c.X0 (F++c.X)) (x:=.tup M) R2 (wY.mk U n rfl (Each.dS C (λD D p q=>q.any p) A))
 have a2:At G.bb (c.X0 (F++c.X)) (Y++[g]) ⟨m,.a (.b u) (.tup M),j.fa⟩ s:=⟨R3,a.cs,⟨a.ok.XB,a.ok.TB,a.ok.hA,a.ok.hk,a.ok.hh,a.ok.hd,a.ok.hu⟩,a.tk,λp hp=>bV _ (a.rx p hp),λx hx=>Om.nm hx,λh=>Om.nb h⟩
 have hl:(Y++[g])[u.length]? =aa g:=(let⟨_,l,_⟩:=a'.R;Led.end (t:=.b u) l g)
 refine jE (h m u hm (c.X0 (F++c.X)) (Y++[g]) s (.ref a0::.ref g::_) a2 (.cons ⟨a0,iz (dB _ _) (h0.trans o1),rfl⟩ (.cons ⟨g,hl,rfl⟩ (Each.dS B (λD D p q=>q.any p) H)))) (λv s' z=>?_) λe s' z=>tZ z
 obtain⟨L,O,x,p,R,hv,⟨b',k,y,e,e1,u1,y1,hr,hz⟩⟩:=z
 exact⟨V,⟨j.loc,OL.s (OL.s j.objs t .gone) i (.blob b'),O.fa⟩,y,pr _,cl c.X L O s' k b' R ((dB _ _).trans p) e e1 u1 y1,hr R.fa _ _ _ hv,hz R.fa⟩
theorem Each.split{H v:Type}{R:H->v->Prop}{xs ys:List H}{z:List v}(h:Each R (xs++ys) z):∃A B,z=A++B/\Each R xs A/\Each R ys B:=by
 induction xs generalizing z with
 |nil=>exact⟨[],z,rfl,.nil,h⟩
 |cons x xs p=>
  cases h using Each.ec with
  |@cons y z h t=>
   obtain⟨A,B,e,a,b⟩:=p t
   exact⟨y::A,B,congrArg _ e,.cons h a,b⟩
theorem VR.dS{W:Wd}{V:List Addr}{k:Nat}{x:SV}{v:Value}(h:fL k x=ai)(r:VR W V x v):VR W (V.take k) x v:=(VR.take h r).wd
noncomputable def mw (x:SV):Bool:=match x with
 |.tm _=>aj
 |.im _ _=>aj
 |.bm _ _ _ _=>aj
 |_=>ai
theorem Ho{m:Str->Option Value}:∀l:List (Str×SV),((iC m l).all λp=>mw p.2)=true:=λl=>by
 induction l with
 |nil=>rfl
 |cons a l z=>show(mw (.val _)&&(iC m l).all _)=ai;rw[z];rfl
noncomputable def f7 (k:Nat) (o:SO):Bool:=match o with
 |.blob _=>ai
 |o=>oW k o
theorem OR.xE{W:Wd}{X:List (Addr×Obj)}{V:List Addr}{k:Nat}{a:Addr}{o:SO}{l:List (Addr×Obj)}(h:f7 k o=ai)(r:OR W X V a o l):OR W X (V.take k) a o l:=by
 cases o with
 |blob b=>exact r
 |_=>exact OR.wd (OR.take h r)
theorem Bt{os X:List SO}(f1:j.objs.list=os++X)(hb:os.all (f7 os.length)=ai)(d1:ys.all (fL os.length)=ai)
 (h:∀H,(H.all λp=>mw p.2)=ai->av G.bb f ys ⟨H,.b os,j.fa⟩ λx M=>M.loc=H/\fE x=ai/\∃U,U.length=os.length/\M.objs.list.take os.length=U/\U.all (f7 os.length)=ai/\((∀f∈M.fa,f.ok G.D.η)->K x ⟨j.loc,.b (U++X),M.fa⟩)):av G f ys j K:=by
 intro c V s vs a r
 obtain⟨⟨m,⟨ls,ad,l1,l2,g,gr,F,N⟩,hl⟩,tp,fa⟩:=a.toRepS
 rw[f1] at l1
 obtain⟨A,B,rfl,lA,lB⟩:=Each.split l1
 have L:A.length=os.length:=(Each.len lA).symm
 have O:V.take os.length=A.map aS:=by rw[<-ad,dH,<-L,<-i8 (f:=aS),oz]
 have i1:∀Y:List (Addr×Obj),flat (A++B)++Y=flat A++(flat B++Y):=λY=>by simp[flat]
 have a':At G.bb (c.X0 (flat B++c.X)) (V.take os.length) ⟨iC m j.loc,.b os,j.fa⟩ s:=⟨⟨⟨m,⟨A,O.symm,Each.dS hb (λD D p q=>OR.xE p q) lA,i1 _▸l2,g,gr,F,i1 _▸N⟩,λx z q=>by
  obtain⟨w,hw⟩:=tX q
  obtain⟨u,h1,h2⟩:=hl x w hw
  rw[j9 hw,h1] at q
  cases q
  exact⟨u,h1,rfl⟩⟩,tp,fa⟩,a.cs,⟨a.ok.XB,a.ok.TB,a.ok.hA,a.ok.hk,a.ok.hh,a.ok.hd,a.ok.hu⟩,a.tk,λp hp=>bV _ (a.rx p hp),λx hx=>Om.nm hx,λh=>Om.nb h⟩
 refine jE (h (iC m j.loc) (Ho _) (c.X0 (flat B++c.X)) (V.take os.length) s vs a' (Each.dS d1 (λD D p q=>q.dS p) r)) (λv s' z=>?_) λe s' z=>tZ z
 obtain⟨o1,M,x,p,⟨⟨m2,⟨y,b1,l3,a1,g2,x1,F2,N2⟩,g1⟩,p1,u1⟩,hv,e,hx,U,n1,y1,z1,hk⟩:=z
 have C:os.length<=V.length:=by rw[<-ad,i8,bK,L];exact bL _ _
 have e1:o1.take os.length=V.take os.length:=by
  obtain⟨t,rfl⟩:=p
  rw[List.take_append_of_le_length (by rw[nq,i0 C];exact aH _),MA,Nat.min_self]
 have l4:=Each.tV l3 os.length
 rw[y1] at l4
 have l5:LR G.D c.R V U (y.take os.length):=Each.dS z1 (λD D p q=>(OR.xE p q).mono (e1▸List.take_prefix _ _)) l4
 have c1:(y.take os.length++B).map aS=V:=by
  rw[dH,Af,b1,e1,O,<-dH,ad]
 have sl:(flat (y.take os.length++B)++c.X).Sublist (flat y++(flat B++c.X)):=by
  have e:flat (y.take os.length++B)++c.X=flat (y.take os.length)++(flat B++c.X):=by simp[flat]
  rw[e];exact(xD y os.length).append (fY _)
 refine⟨V,⟨j.loc,.b (U++X),M.fa⟩,x,pr _,⟨⟨m2,⟨y.take os.length++B,c1,Each.app l5 lB,(sl.map aS).nodup a1,g2,x1,F2,λp hp=>N2 p (sl.subset hp)⟩,λx z q=>?_⟩,p1,u1⟩,hv.any hx,hk u1⟩
 obtain⟨u,h1,h2⟩:=hl x z q
 have q2:=j9 (m:=m) q
 rw[<-e] at q2
 obtain⟨u',h3,h4⟩:=g1 x _ q2
 rw[h1] at h4
 obtain rfl:u'=u:=h4
 exact⟨u',h3,h2⟩
theorem Hp(C:ys.all fE=ai)(h:∀Y,av G.bb f ys ⟨Y,.b [],j.fa⟩ λx y=>y.loc=Y/\fE x=ai/\((∀f∈y.fa,f.ok G.D.η)->K x ⟨j.loc,j.objs,y.fa⟩)):av G f ys j K:=by
 intro c V s vs a r
 obtain⟨⟨m,⟨O,ad,l1,l2,g,gr,F,N⟩,hl⟩,tp,fa⟩:=a.toRepS
 let c':Cx:={c with X:=flat O++c.X}
 have a':At G.bb c' [] ⟨iC m j.loc,.b [],j.fa⟩ s:=⟨⟨⟨m,⟨[],rfl,.nil,l2,g,gr,F,N⟩,λx z q=>by
  obtain⟨w,hw⟩:=tX q
  obtain⟨u,M,h2⟩:=hl x w hw
  rw[j9 hw,M] at q
  cases q
  exact⟨u,M,rfl⟩⟩,tp,fa⟩,a.cs,⟨a.ok.XB,a.ok.TB,a.ok.hA,a.ok.hk,a.ok.hh,a.ok.hd,a.ok.hu⟩,a.tk,λp A=>bV _ (a.rx p A),λx B=>Om.nm B,λh=>Om.nb h⟩
 refine codeAny_mono (h (iC m j.loc) c' _ s vs a' (Each.dS C (λqq qq p q=>q.any p) r)) λr' s' z=>?_
 rcases r' with e|(_|_|_|v)
 ·obtain⟨_,_,_,_,_,k⟩:=z;exact k.elim
 ·exact z.elim
 ·exact z.elim
 ·exact z.elim
 ·obtain⟨u1,y,x,p,⟨⟨m2,⟨D,i1,l3,H,g2,y1,F2,N2⟩,e1⟩,L,U⟩,hv,e,B,hk⟩:=z
  have sl:(flat O++c.X).Sublist (flat D++(flat O++c.X)):=List.sublist_append_right _ _
  refine⟨V,⟨j.loc,j.objs,y.fa⟩,x,pr _,⟨⟨m2,⟨O,ad,l1,(sl.map aS).nodup H,g2,y1,F2,λp A=>N2 p (sl.subset A)⟩,λx z q=>?_⟩,L,U⟩,hv.any B,hk U⟩
  obtain⟨u,M,h2⟩:=hl x z q
  have q2:=j9 (m:=m) q
  rw[<-e] at q2
  obtain⟨u',h3,h4⟩:=e1 x _ q2
  rw[M] at h4
  obtain rfl:u'=u:=h4
  exact⟨u',h3,h2⟩
theorem Vb{MM:fR->List SO->Prop}(hb:∀b a l,G.D.bl b a l↔qQ MM G.D b a l)(y1:ys.all fE=ai)(h:∀H,av G.bb f ys ⟨H,.b [],j.fa⟩ λx y=>y.loc=H/\x=.obj 0/\∃M,MM M y.objs.list/\y.objs.list.all (oW y.objs.list.length)=ai/\((∀f∈y.fa,f.ok G.D.η)->K (.obj j.objs.length) ⟨j.loc,OL.a j.objs (.blob M),y.fa⟩)):av G f ys j K:=by
 intro c V s vs a r
 obtain⟨⟨m,⟨O,ad,l1,l2,g,gr,F,N⟩,hl⟩,tp,fa⟩:=a.toRepS
 have a':At G.bb (c.X0 (flat O++c.X)) [] ⟨iC m j.loc,.b [],j.fa⟩ s:=⟨⟨⟨m,⟨[],rfl,.nil,l2,g,gr,F,N⟩,λx z q=>by
  obtain⟨w,hw⟩:=tX q
  obtain⟨u,B,h2⟩:=hl x w hw
  rw[j9 hw,B] at q
  cases q
  exact⟨u,B,rfl⟩⟩,tp,fa⟩,a.cs,⟨a.ok.XB,a.ok.TB,a.ok.hA,a.ok.hk,a.ok.hh,a.ok.hd,a.ok.hu⟩,a.tk,λp hp=>bV _ (a.rx p hp),λx hx=>Om.nm hx,λh=>Om.nb h⟩
 refine jE (h (iC m j.loc) (c.X0 (flat O++c.X)) [] s vs a' (Each.dS y1 (λqq qq p q=>q.any p) r)) (λv s' z=>?_) λe s' z=>tZ z
 obtain⟨a1,y,x,p,⟨⟨m2,⟨Y,L,l3,e1,g2,p1,F2,N2⟩,u1⟩,A,C⟩,hv,e,hx,M,hm,i1,hk⟩:=z
 subst hx
 obtain⟨U,o1,rfl⟩:=hv
 have D:Y.length=y.objs.list.length:=(Each.len l3).symm
 have pm:(flat (O++[(U,flat Y)])++c.X).Perm (flat Y++(flat O++c.X)):=by
  have e:flat (O++[(U,flat Y)])=flat O++flat Y:=by simp[flat]
  rw[e,<-bY]
  exact ER _ LO
 have hO:OR G.D c.R (V++[U]) U (.blob M) (flat Y):=(hb _ _ _).mpr ⟨y.objs.list,Y,Each.dS i1 (λo q p r=>by
  have:=OR.take (k:=y.objs.list.length) p r
  rw[<-L,<-D,<-i8 (f:=aS),z9] at this
  exact this) l3,rfl,by rw[L];exact o1,hm⟩
 refine⟨V++[U],⟨j.loc,OL.a j.objs (.blob M),y.fa⟩,.obj j.objs.length,dB _ _,⟨⟨m2,⟨O++[(U,flat Y)],by rw[<-ad];simp,(show LR G.D c.R _ (snoc j.objs.list (.blob M)) _ from iy j.objs.list (.blob M)▸(LR.mono (dB _ _) l1).app (.one hO)),(pm.map aS).nodup_iff.mpr e1,g2,p1,F2,λp hp=>N2 p (pm.subset hp)⟩,λx z q=>?_⟩,A,C⟩,⟨U,(let⟨_,l,_⟩:=a.R;l.end U),rfl⟩,hk C⟩
 obtain⟨u,B,h2⟩:=hl x z q
 have q2:=j9 (m:=m) q
 rw[<-e] at q2
 obtain⟨u',h3,h4⟩:=u1 x _ q2
 rw[B] at h4
 obtain rfl:u'=u:=h4
 exact⟨u',h3,h2.mono (dB _ _)⟩
end
section
variable{G:Gx}{U:SS}{K:SV->SS->Prop}{i j:Nat}{C:Addr}{fs:List (Str×SV)}{ci:CI}{nm:Str}{Y:List Expr}{V:Pos}{x y z:SV}
noncomputable def ja (G:Gx) (nm:Str) (Y:List Expr) (x:SV) (U:SS) (K:SV->SS->Prop):Prop:=∀c u s v V m,At G c u U s->VR G.D u x v->
 wpAny G.D.M c.A (getMethod v nm m) (λq p=>wpAny G.D.M c.A (callWith V q.1 q.2 (backTo V (starEach Y c.env)) []) (PE G c u K) (PX G c u) p) (PX G c u) s
theorem xF{n:Str}{k:Pos}{f:Addr}(A:lk n G.cs.names=some .globalImplicit)(hg:lk n G.T.eY=aa (.ref f))(hf:∀W,TabOk W G.T->keepIn W.K (.ref f)=ai)(B:dR Y)
 (h:dI G Y U λM m=>av G (.ref f) M m K):aA G (.Call (.Name n k) Y [] V) U K:=λc ρ s L a L=>
 Call_ (aC.go (w:=()) (show aA G (.Name n k) U λx u=>x=.val (.ref f)/\u=U from kY A hg ⟨rfl,rfl⟩) a (pr _) trivial λO u x v s' p _ g q ⟨H,D⟩=>by
  subst H D
  obtain rfl:=q
  exact xC (xs:=[]) (hf _ g.tk) B g p .nil h)
theorem t6{o:Expr}{u:Pos}(ho:Based o)(hl:aQ u.endLine V.line=ai)(hp:dR Y)(A:dW Y.length 30=ai)(h:aA G o U λx m=>ja G nm Y x m K):aA G (.Call (.Attribute o nm u) Y [] V) U K:=λc ρ s O a O=>by
 have hm:methodCallForm (Y.length+0) (backTo V (starEach Y c.env)) []=true:=by
  unfold methodCallForm
  rw[plain_all hp]
  show decide (Y.length+0+0<30)=ai
  exact decide_eq_true (aB A)
 refine methodCall_KW (kws:=[]) (pl:=(do return(<-importBound o c.env).getD ai)) (h.go a (pr _) trivial (w:=()) λL D x v B p O a' q k=>?_) ?_
 ·exact wpAny_mono (k c L B v V _ a' q) (λfx H z=>wpAny_mono z (λO O z=>z.mono p) λO O z=>PX.mono p z) λO O z=>PX.mono p z
 ·show(do
   let M<-attributeBase o nm c.env (eval o c.env)
   standAt u.atName
   methodCall o nm u V c.env M (Y.length+0) (backTo V (starEach Y c.env)) [])=_
  rw[ho]
  congr 1
  funext M
  congr 1
  funext _
  unfold methodCall
  rw[hm]
  show(do
   let(f,first)<-holding [M] (calleeOf ai o c.env M nm)
   let g<-methodCallPos ai o c.env u V
   callWith g f first (backTo V (starEach Y c.env)) [])=_
  have e:methodCallPos ai o c.env u V=pure V:=by
   unfold methodCallPos
   rw[bJ hl,beq_self_eq_true];rfl
  rw[e]
  rfl
theorem Vc{f:Addr}(M:U.objs.list[i]? =aa (.inst C fs))(D:aU C G.T.cls=aa ci)(L:lk nm ci.gO=aa f)(H:lk nm fs=ah)(k:dR Y)
 (h:dI G Y U λp u=>av G (.ref f) (.obj i::p) u K):ja G nm Y (.obj i) U K:=λc ρ s v V pl a r=>by
 obtain⟨b,dx,es,k',m,g,rfl,X,F,fr,I⟩:=a.inst M r
 obtain⟨q,rfl⟩:=a.jC D
 obtain⟨A,B,a3,a4,a5,O,a7⟩:=q.oQ _ (fz L)
 exact method_inst F X I q.plain A B (fr.qM H) (xC (xs:=[.obj i]) O k a (pr _) (.one r) h)
theorem Vd{f:Addr}{b:fR}(hb:xg G.D G.T)(ho:U.objs.list[i]? =aa (.blob b))(M:aU (G.T.nE b) G.T.cls=aa ci)(k:lk nm ci.gO=aa f)(hp:dR Y)
 (h:dI G Y U λys u=>av G (.ref f) (.obj i::ys) u K):ja G nm Y (.obj i) U K:=λc ρ s v V p a r=>by
 obtain⟨b',m,rfl,_,⟨A,B,l,g,O,gr,F,N,_,_⟩⟩:=a.eZ ho r
 obtain⟨e1,fs,l0,q,rfl,⟨dx,es,k',rfl,fr⟩,L⟩:=hb _ _ _ O
 obtain⟨H,hC⟩:=a.jC M
 obtain⟨D,a2,a3,a4,a5,a6,a7⟩:=H.oQ _ (fz k)
 have p:=H.plain
 rw[hC] at D p
 have I:_root_.PySem.W.InstAt s.heap b' (instObj (G.T.nE b) dx) (G.T.nE b) (aa (dictOf es k')):=MC N (bV _ (.head _)) (bV _ (.tail _ (.head _)))
 exact method_inst F gr.X I p D a2 (fr.qM (L _ M _ (fz k))) (xC (xs:=[.obj i]) a6 hp a (pr _) (.one r) h)
theorem Hq{t dx:Addr}{f:Addr}(L:aU t G.T.nF=aa (C,dx,fs))(A:aU C G.T.cls=aa ci)(D:lk nm ci.gO=aa f)(B:lk nm fs=ah)(H:dR Y)
 (h:dI G Y U λM q=>av G (.ref f) (.val (.ref t)::M) q K):ja G nm Y (.val (.ref t)) U K:=λc ρ s v V pl a r=>by
 obtain rfl:=r
 obtain⟨m,⟨ls,ad,l1,l2,g,k,F,N⟩,p⟩:=a.R
 obtain⟨h1,es,k',u,fr⟩:=a.tk.sin _ (gw L)
 obtain⟨O,rfl⟩:=a.jC A
 obtain⟨a1,a2,a3,a4,a5,a6,a7⟩:=O.oQ _ (fz D)
 have st:∀a o,G.D.K.lookup a=aa o->s.heap.get? a=aa o:=λa o e=>F.keep _ _ (k.X a o e)
 exact method_inst F k.X ⟨st _ _ h1,rfl,rfl,st _ _ u⟩ O.plain a1 a2 (fr.qM B) (xC (xs:=[.val (.ref t)]) a6 H a (pr _) (.one rfl) h)
theorem Ve{c:Cx}{u:List Addr}{q f:Addr}{w:Value}(B:fnIn G.D.K f=ai):Way G c u (.ref q) λs=>MethP G.D.K q f w s.heap where
 w0:=λX h=>callWith_M0 (env:=c.env) X B h
 w1:=@λV first Q E s e r X v h=>by
  rw[v _ (.head _)] at h⊢
  exact callWith_of (by show((aj||(backTo V (starEach r c.env)).any (·.1))||aj)=aj;rw[plain_any λt p=>v t (.tail _ p)];rfl) (keeps_M B) (evalArgs_plain h)
theorem Hr{f:Addr}{o1:aR}{z:Nat}(ho:U.objs.list[i]? =aa (.inst C fs))(hc:aU C G.T.cls=aa ci)(hm:has nm ci.kU=ai)(hl:lk nm fs=aa (.obj j))(hj:U.objs.list[j]? =aa (.aI f (.obj z)))(hf:aU f G.T.fns=aa o1)(hp:dR Y)
 (h:dI G Y U λys k=>k.objs.list[j]? =aa (.aI f (.obj z))/\av G (.ref f) (.obj z::ys) k K):ja G nm Y (.obj i) U K:=λc ρ s v V pl a r=>by
 obtain⟨b,dx,es,k',m,g,rfl,X,F,fr,I⟩:=a.inst ho r
 obtain⟨co,rfl⟩:=a.jC hc
 obtain⟨u,g1,g2⟩:=fr.Be hl
 refine kmu_own F X I co.plain (co.fld nm (oJ.mp hm)).1 (get_own F X I co.plain co.dict (co.fld nm (oJ.mp hm)).1 rfl g1 (g2.handed rfl) ?_)
 obtain⟨q,hq,rfl⟩:=g2
 have u1:∀{M:List Addr} {H:SS} {s':Shared},ρ<+:M->At G c M H s'->H.objs.list[j]? =aa (.aI f (.obj z))->∃w,VR G.D M (.obj z) w/\s'.heap.get? q=aa (methodObj (.ref f) w):=λp a' D=>by
  obtain⟨q',m',e,_,⟨A,B,l,g,O,gr,F,N,_,_⟩⟩:=a'.eZ (v:=.ref q) D ⟨q,iz p hq,rfl⟩
  cases e
  obtain⟨w,rfl,hw⟩:=O
  exact⟨w,hw,(N _ (bV _ (.head _))).1⟩
 obtain⟨w,hw,hg⟩:=u1 (pr ρ) a.t1 hj
 refine Bs (xs:=[]) (L:=λys k=>k.objs.list[j]? =aa (.aI f (.obj z))/\av G (.ref f) (.obj z::ys) k K) (Ve (w:=w) (a.tk.fns _ (gw hf)).fnIn) hp a.t1 ⟨hg,a.X⟩ (pr _) .nil h λM H ys vs s' a' p' y1 q' ⟨D,hk⟩=>?_
 obtain⟨w',p1,i1⟩:=u1 y1 a' D
 obtain⟨b1,e1,rfl⟩:=hw
 obtain⟨b2,e2,rfl⟩:=p1
 cases(iz y1 e1).symm.trans e2
 exact⟨⟨i1,a'.X⟩,wpAny_call (method_call i1 (hk.code a' p' (.cons ⟨b1,e2,rfl⟩ q')))⟩
theorem Vf{c:Cx}{q:List Addr}{id:String}:Way G c q (.builtin id) λv=>True where
 w0:=λv h=>callWith_method0 (env:=c.env) (by rw[cO] at h;exact h)
 w1:=λv u h=>callWith_method1 (wpAny_mono h (λv v z=>z.2) λv v z=>z) (u _ (.head _) _ _) (plain_any λt p=>u t (.tail _ p))
theorem mz{c:Cx}{u v:List Addr}{s:Shared}{id:String}{first:List Value}{xs:List SV}(H:dR Y)(a:At G c u U s)(p:v<+:u)(r:aM G.D u xs first)
 (h:dI G Y U λg m=>bB G (.builtin id) (xs++g) m K):wpAny G.D.M c.A (callWith V (.builtin id) first (backTo V (starEach Y c.env)) []) (PE G c v K) (PX G c v) s:=
 Bs Vf H a trivial p r h λM O g L B D k A q z=>⟨trivial,aC.at (w:=L) z D k q⟩
theorem Hs{n:Str}{k:Pos}{id:String}(B:lk n G.cs.names=some .globalImplicit)(A:lk n G.T.eY=aa (.builtin id))(D:dR Y)
 (h:dI G Y U λO m=>bB G (.builtin id) O m K):aA G (.Call (.Name n k) Y [] V) U K:=λc ρ s M a M=>
 Call_ (aC.go (w:=()) (show aA G (.Name n k) U λx u=>x=.val (.builtin id)/\u=U from kY B A ⟨rfl,rfl⟩) a (pr _) trivial λg u x v s' p _ a' q ⟨L,H⟩=>by
  subst L H
  obtain rfl:=q
  exact mz (xs:=[]) D a' p .nil h)
theorem bB.one{f:Value}(h:jB G (λv=>jS f [v] []) x U K):bB G f [x] U K:=λc u s p a r=>by
 cases r using Each.ec with
 |cons q r=>cases r with
  |nil=>exact h c u s _ a q
theorem bB.two{f:Value}(h:aG G (λv u=>jS f [v,u] []) x y U K):bB G f [x,y] U K:=λc p s m a r=>by
 cases r using Each.ec with
 |cons q r=>cases r using Each.ec with
  |cons q2 r=>cases r with
   |nil=>exact h c p s (_,_) a ⟨q,q2⟩
theorem Vg{p:Option eW}{M:List SV}(H:U.objs.list[i]? =aa (.list p M))(L:dR Y)(h:dI G Y U λk u=>bB G (.builtin "list.append") (.obj i::k) u K):ja G "append" Y (.obj i) U K:=λc D s v V pl a r=>by
 obtain⟨b,m,rfl,_,⟨A,B,l,g,O,gr,F,N,_,_⟩⟩:=a.eZ H r
 obtain⟨us,vs,n,rfl,q,f⟩:=O
 exact ahp (N _ (bV _ (.head _))).1 rfl rfl (mz (xs:=[.obj i]) L a (pr _) (.one r) h)
theorem Ht{p:Option eW}{M:List SV}(ho:U.objs.list[i]? =aa (.list p M))(hz:∀O,mh p O->O.length+M.length<=16777216)(k:K .none ⟨U.loc,OL.s U.objs i (.list p (M++[y])),U.fa⟩):bB G (.builtin "list.append") [.obj i,y] U K:=.two<|.mk λc h s v u a r q=>by
 obtain⟨b,O,L,n,m,g,A,B,rfl,H,f,F,N,nd,D⟩:=a.tQ ho r
 have e2:(O++(L++[u]):List Value).toArray=(O++L:List Value).toArray.push u:=by simp
 have hU:=qE (o':=listOf ((O++L:List Value).toArray.push u) (n+1)) nd
 exact append_K F N hU (λh' F' N'=>⟨h,⟨U.loc,OL.s U.objs i (.list p (M++[y])),U.fa⟩,.none,pr _,⟨D p (M++[y]) O (L++[u]) (n+1) h' H (Each.app f (.one q)) F' (e2▸N'),a.tp.to (aH _),a.fa⟩,rfl,k⟩) (by
  have:=hz O H
  rw[qo,bK,<-Each.len f,sizeLine_eq];exact this)
end
section
variable{G:Gx}{Y:SS}{K:SV->SS->Prop}{i j:Nat}{x y z:SV}{V:Pos}
theorem t8{W:Wd}{u:List Addr}{v:List SV}{q:List Value}(f:aM W u v q)(h:aD v.length 1000=ai):q.length<=sizeLine:=by
 rw[<-Each.len f,sizeLine_eq];exact aq (aB h) (by decide)
theorem Bu{M:List Expr}(h:dI G M Y λv u=>aD v.length 1000=ai/\K (.obj u.objs.length) ⟨u.loc,OL.a u.objs (.list ah v),u.fa⟩):aA G (.List M V) Y K:=λc ρ s O a O=>
 List_ (h.go a (pr _) trivial λH L v D s' p O U q k=>by
  obtain⟨m,⟨ls,ad,C,l2,g,gr,F,N⟩,B⟩:=U.R
  exact newList_K F N (λl A F' N' lo=>U.made (s':={s' with heap:=A}) ad C l2 gr B F' N' lo (x:=.list ah v) (kT.mk [] D 0 rfl rfl (aM.mono (dB _ _) q)) (U.tp.to (aH _)) p k.2) (t8 q k.1))
theorem Vh{M:List Expr}{k:Nat}(h:dI G M Y λv u=>aD v.length 1000=ai/\K (.obj u.objs.length) ⟨u.loc,OL.a u.objs (.tup v),u.fa⟩):aA G (.Tuple M k V) Y K:=λc ρ s O a O=>
 Tuple_ (h.go a (pr _) trivial λH L v D s' p O U q k=>by
  obtain⟨m,⟨ls,ad,C,l2,g,gr,F,N⟩,A⟩:=U.R
  exact newTuple_N F N (λh' F' N'=>U.made (s':={s' with heap:=h'}) ad C l2 gr A F' N' (λp B=>dN (N p B).1) (x:=.tup v) (wY.mk D _ rfl (aM.mono (dB _ _) q)) (U.tp.to (aH _)) p k.2) (t8 q k.1))
noncomputable def Bv (e:Expr):Option {s:Str//∃k p,e=.Constant (.str s) k p}:=match e with
 |.Constant c k p=>match c with
  |.str s=>aa ⟨s,k,p,rfl⟩
  |_=>ah
 |_=>ah
noncomputable def Vi (k:Option Expr):Option {s:Str//∃g p,k=aa (.Constant (.str s) g p)}:=match k with
 |some e=>match Bv e with
  |some ⟨s,h⟩=>aa ⟨s,let⟨k,p,h⟩:=h;⟨k,p,congrArg aa h⟩⟩
  |ah=>ah
 |ah=>ah
structure Vj (W:Wd) (ρ:List Addr) (p:Str×SV) (q:Value×Value):Prop where
 k:∃t,q.1=.str p.1 t
 v:VR W ρ p.2 q.2
noncomputable abbrev xG (W:Wd) (v:List Addr):List (Str×SV)->List (Value×Value)->Prop:=Each (Vj W v)
theorem xG.keys{W:Wd}{g:List Addr}{m:List (Str×SV)}{u:List (Value×Value)}(r:xG W g m u):allStrKeys u=ai/\eX W g m (strPairs u)/\(strPairs u).map (·.1)=m.map (·.1):=by
 induction r with
 |nil=>exact⟨rfl,.nil,rfl⟩
 |@cons p e m u h _ U=>
  obtain⟨k,v⟩:=e
  obtain⟨⟨t,e⟩,q⟩:=h
  obtain rfl:k=_:=e
  obtain⟨a,b,c⟩:=U
  exact⟨a,.cons ⟨rfl,q⟩ b,congrArg (p.1::·) c⟩
noncomputable abbrev qR (G:Gx) (v:List (Option Expr)) (q:List Expr):SS->(List (Str×SV)->SS->Prop)->Prop:=aC G (xG G.D) jA λc V=>evalPairs (pairTrees v q c.env V)
theorem Vk{K:List (Str×SV)->SS->Prop}(h:K [] Y):qR G [] [] Y K:=λc v s V a u=>evalPairs_nil ⟨v,Y,[],pr _,a.toRepS,.nil,h⟩
theorem Vl{k:Option Expr}{ks:List (Option Expr)}{v:Expr}{vs:List Expr}{n:Str}{K:List (Str×SV)->SS->Prop}(hk:∃k' p,k=aa (.Constant (.str n) k' p))(h:aA G v Y λx m=>qR G ks vs m λfs U=>K ((n,x)::fs) U):qR G (k::ks) (v::vs) Y K:=λc ρ s V a qq=>by
 obtain⟨k',p',rfl⟩:=hk
 refine evalPairs_cons (wpAny_Constant_str (wpAny_bind (h.go (w:=()) a.t1 (pr _) trivial λe1 m x u i1 q y1 A O B=>wpAny_bind (wpAny_standAt (wpAny_pure ?_)))))
 exact B.go (w:=V) A q trivial λg U fs es u1 D L M H C=>⟨g,U,(n,x)::fs,D,M.toRepS,.cons ⟨⟨_,rfl⟩,O.mono L⟩ H,C⟩
noncomputable def dist (l:List Str):Bool:=bE ai (λk r p=>@az (λv=>Bool) p aj (has k r)) l
theorem Hu{l:List Str}(h:dist l=ai):l.Nodup:=by
 induction l with
 |nil=>exact .nil
 |cons k r p=>
  have v:@az (λq=>Bool) (dist r) aj (has k r)=true:=h
  cases e:has k r with
  |true=>rw[e] at v;cases v
  |false=>rw[e] at v;exact ef.mpr ⟨λu=>(by rw[oJ.mpr u] at e;cases e),p v⟩
theorem Vm{L:List (Option Expr)}{vs:List Expr}(h1:L.all (·.isSome)=ai)(h2:aQ L.length vs.length=ai)(h0:dW 0 L.length=ai)(h3:aD L.length 15=ai)
 (h:qR G L vs ⟨Y.loc,OL.a Y.objs (.dict []),Y.fa⟩ λB u=>dist (B.map (·.1))=ai/\u.objs.list[Y.objs.length]? =aa (.dict [])/\K (.obj Y.objs.length) ⟨u.loc,OL.s u.objs Y.objs.length (.dict B),u.fa⟩):aA G (.Dict L vs V) Y K:=λc O s k a k=>by
 obtain⟨m,⟨ls,ad,l1,l2,g,gr,F,N⟩,hl⟩:=a.R
 have C:=(let⟨_,l,_⟩:=a.R;l.end:∀q,(O++[q])[Y.objs.length]? =aa q)
 refine kdn_eval (knd:=wz G.D.prog G.D.w) F N gr.T.nolimit h1 (bJ h2) (by intro e;subst e;cases h0) (aB h3) λd h' o F' N' lo k hd=>?_
 have a1:At G c (O++[d]) ⟨Y.loc,OL.a Y.objs (.dict []),Y.fa⟩ {s with heap:=h'}:=a.to (dB _ _) ⟨⟨m,.new ad l1 l2 gr F' N' lo (oK.mk o [] rfl hd .nil),hl.mono (dB _ _)⟩,a.tp.to (aH _),a.fa⟩
 refine h.go (w:=V) a1 (dB _ _) trivial λp A B es u1 v U M H ⟨k1,k2,k3⟩=>?_
 obtain⟨e1,e2,e3⟩:=xG.keys H
 have hv:VR G.D p (.obj Y.objs.length) (.ref d):=⟨d,iz U (C d),rfl⟩
 obtain⟨b,i1,e,f,hD,D⟩:=M.Bh (R:=λO=>eX G.D O []) k2 (λk k k=>rfl) hv
 cases e
 cases f
 exact display_done_str e1 (by rw[e3];exact Hu k1) hD λy1 hm hs=>⟨p,_,.obj Y.objs.length,v,⟨D (.dict B) (λO=>eX G.D O B) _ y1 (λk k k=>rfl) e2 hm (λb o hb e=>hs.extBut b o hb e),M.tp.to (bL _ _),M.fa⟩,hv,k3⟩
noncomputable def nJ {H:Type} (v:List H) (lo u st:Option Int):List H:=
 (sliceRange (sliceBounds lo u st v.length).1 (sliceBounds lo u st v.length).2.1 (sliceBounds lo u st v.length).2.2).filterMap (v[·]?)
theorem Each.pick{H m:Type}{R:H->m->Prop}{v:List H}{q:List m}(h:Each R v q)(u:List Nat):Each R (u.filterMap (v[·]?)) (u.filterMap (q[·]?)):=by
 induction u with
 |nil=>exact .nil
 |cons i u p=>
  rw[LW,LW]
  cases e:v[i]? with
  |none=>
   have:q[i]? =none:=by rw[qi] at e⊢;rw[<-h.len];exact e
   rw[this];exact p
  |some x=>
   obtain⟨y,k,r⟩:=h.get e
   rw[k];exact .cons r p
noncomputable def mD (W:Wd) (u:List Addr) (x:Option SV) (v:Value):Prop:=match x with
 |ah=>v=.none
 |some x=>VR W u x v
noncomputable abbrev qS (G:Gx) (e:Option Expr):SS->(Option SV->SS->Prop)->Prop:=aC G (mD G.D) jA λc (_:Unit)=>evalPart e c.env
theorem Vn{K:Option SV->SS->Prop}(h:K ah Y):qS G ah Y K:=λc v s u a u=>wpAny_pure ⟨v,Y,ah,pr _,a.toRepS,rfl,h⟩
theorem Vo{e:Expr}{K:Option SV->SS->Prop}(h:aA G e Y λx m=>K (aa x) m):qS G (aa e) Y K:=λc O s g a g=>
 h.go (w:=()) a (pr _) trivial λk u x v M p g U q z=>⟨k,u,aa x,p,U.toRepS,q,z⟩
inductive PI:Option SV->Option Int->Prop
 |n:PI ah ah
 |i {x:SV} {k:Int} (h:bx x k):PI (aa x) (aa k)
theorem PI.part{W:Wd}{u:List Addr}{x:Option SV}{v:Value}{k:Option Int}(h:PI x k)(r:mD W u x v):IsPart v k:=by
 cases h with
 |n=>obtain rfl:=r;exact .none
 |i h=>obtain⟨t,rfl⟩:=h r;exact .int _ t
noncomputable def t9 (x:Option SV):Option {k:Option Int//PI x k}:=match x with
 |ah=>aa ⟨ah,.n⟩
 |some x=>match bF x with
  |some ⟨k,h⟩=>aa ⟨aa k,.i h⟩
  |ah=>ah
theorem IsPart.as{v:Value}{k:Option Int}(h:IsPart v k):∃l:Option (Int×Tok),l.map (·.1)=k/\v=(match l with|some (i,t)=>.int i t|ah=>.none):=by
 cases h with
 |none=>exact⟨ah,rfl,rfl⟩
 |int k t=>exact⟨aa (k,t),rfl,rfl⟩
noncomputable abbrev Bw (x:SV) (l u:Option SV) (z:SV):Prop:=∀{W:Wd} {q:List Addr} {v p H:Value},VR W q x v->mD W q l p->mD W q u H->∃a t i j,v=.str a t/\IsPart p i/\IsPart H j/\a.length<=sizeLine/\∀m,VR W q z (.str (dc a i j) m)
inductive Hv (x:SV) (l u t:Option SV) (K:SV->SS->Prop) (Y:SS):Prop
 |l (i:Nat) (xs:List SV) (l' u' t':Option Int) (e:x=.obj i) (ho:Y.objs.list[i]? =aa (.list ah xs)) (h1:PI l l') (h2:PI u u') (h3:PI t t') (h0:t'≠aa 0) (hz:aD xs.length 1000=ai) (k:K (.obj Y.objs.length) ⟨Y.loc,OL.a Y.objs (.list ah (nJ xs l' u' t')),Y.fa⟩)
 |t (z:SV) (e:t=ah) (h:Bw x l u z) (k:K z Y)
theorem mD.mono{W:Wd}{q u:List Addr}(p:q<+:u){x:Option SV}{v:Value}(r:mD W q x v):mD W u x v:=by
 cases x with
 |none=>exact r
 |some x=>exact VR.mono p r
theorem Hw{s:Shared}{c:Prop}[Decidable c]{y z:Str}{t:Tok}{Q:Value->Shared->Prop}(h:(if c then y else z).length<=sizeLine/\∀q k,s.toks<=k->Q (.str (if c then y else z) q) {s with toks:=k}):
 (if c then Made.val (.str y t) else Made.str z).post Q s:=by
 by_cases g:c
 ·rw[if_pos g];have v:=h.2 t s.toks (aH _);rw[if_pos g] at v;exact v
 ·rw[if_neg g];have v:=h.2 s.toks (s.toks+1) (eg _);have u:=h.1;rw[if_neg g] at v u;exact⟨u,v⟩
theorem At.push{c:Cx}{v:List Addr}{s:Shared}(a:At G c v Y s)(o:Obj):At G c v Y {s with heap:=s.heap.push o}:=a.to (pr _)<|by
 obtain⟨m,⟨u,ad,C,l2,g,p,F,N⟩,q⟩:=a.R
 exact⟨⟨m,⟨u,ad,C,l2,g,p,F.push _,N.pushKeep _⟩,q⟩,a.tp.to (aH _),a.fa⟩
theorem Vp{ob:Expr}{lo hi st:Option Expr}{p1 p2:Pos}(h:aA G ob Y λx C=>qS G lo C λl D=>qS G hi D λu H=>qS G st H λt U=>Hv x l u t K U):aA G (.Subscript ob (.Slice lo hi st p1) p2) Y K:=λc ρ s qq a qq=>by
 refine Subscript_ (h.go (w:=()) a (pr _) trivial λY1 C x v S1 f1 qq W1 q k=>wpAny_Slice (k.go (w:=()) W1 f1 trivial λT1 D l vl A1 d1 o1 Q1 u1 c1=>c1.go (w:=()) Q1 d1 trivial λE1 H u vu O1 a1 A m1 y1 x1=>x1.go (w:=()) m1 a1 trivial λB U t vt M i1 O n1 e1 z1=>?_))
 have a5:=n1.push {cls:=.type "slice",data:=.fields #[vl,vu,vt]}
 refine kba_turn (value':=PySem.Expr.Name (PySem.Str.ofString "_") ⟨0,0,0,0⟩) (λqq=>rfl) ?_
 have L:∃g1,subscripted (.Slice lo hi st p1) aj v (.ref M.heap.objs.size)=operate g1 (getItem v (.ref M.heap.objs.size)):=by cases st<;>exact⟨_,rfl⟩
 obtain⟨g1,L⟩:=L
 have q':=q.mono (o1.trans (A.trans O))
 cases z1 with
 |l i xs l' u' t' e ho h1 h2 h3 U1 hz hk=>
  subst e
  obtain⟨b,us,vs,rfl,rfl,f,hl⟩:=a5.list ho q'
  refine subscriptTail_ops (Heap.IsList.typeIs (s:={M with heap:=M.heap.push {cls:=.type "slice",data:=.fields #[vl,vu,vt]}}) hl) list_getitem_lookup
   (wpAny_getItem_list_slice hl (Heap.IsSliceOf.new ..) (h1.part u1) (h2.part y1) (h3.part e1) U1 ?_ (by rw[qo];exact t8 f hz)) L (λqq=>rfl)
  obtain⟨m,⟨ls,ad,l1,l2,g,gr,F,N⟩,b1⟩:=a5.R
  have hs:slicePick ([]++vs).toArray l' u' t'=(nJ vs l' u' t').toArray:=by
   unfold slicePick nJ
   simp
  have hp:aM G.D B (nJ xs l' u' t') (nJ vs l' u' t'):=by
   unfold nJ
   rw[<-Each.len f]
   exact Each.pick f _
  rw[hs]
  exact a5.made ad l1 l2 gr b1 (F.push _) (N.push F _) (λp hp=>dN (N p hp).1) (x:=.list ah (nJ xs l' u' t')) (kT.mk [] _ 0 rfl rfl (aM.mono (dB _ _) hp)) (a5.tp.to (aH _)) i1 hk
 |t z e h k=>
  subst e
  obtain rfl:=e1
  obtain⟨a,t,i,j,rfl,h1,h2,hz,hr⟩:=h q' (mD.mono (A.trans O) u1) (mD.mono O y1)
  obtain⟨li,rfl,rfl⟩:=IsPart.as h1
  obtain⟨lj,rfl,rfl⟩:=IsPart.as h2
  refine subscriptTail_ops (typeIs_str _ _ _) F.slot_str_getitem.lookup (wpAny_getItem_str_slice (l:=li) (u:=lj) (st:=ah) ⟨_,EZ _ rfl,rfl,?_⟩ rfl (Hw ⟨aq (Txt.slice_le a _ _) hz,λt' k' I1=>?_⟩)) L (λqq=>rfl)
  ·cases li<;>cases lj<;>rfl
  ·exact⟨B,U,z,i1,⟨a5.R,Tp.to a5.tp I1,a5.fa⟩,hr t',k⟩
theorem Vq{L M:List SV}(ho:Y.objs.list[i]? =aa (.list ah L))(H:Y.objs.list[j]? =aa (.list ah M))(hz:aD (L++M).length 1000=ai)(k:K (.obj Y.objs.length) ⟨Y.loc,OL.a Y.objs (.list ah (L++M)),Y.fa⟩):aG G (binaryOp .Add) (.obj i) (.obj j) Y K:=.mk λc B s v u a r w=>by
 obtain⟨b,us,vs,rfl,rfl,f,hl⟩:=a.list ho r
 obtain⟨b2,h,ws,rfl,rfl,A,D⟩:=a.list H w
 obtain⟨m,⟨ls,ad,C,l2,g,gr,F,N⟩,O⟩:=a.R
 have U:∀q:Addr,B<+:B++[q]:=λq=>dB _ _
 exact add_lists F N hl D (λh' F' N'=>a.made (s':={s with heap:=h'}) ad C l2 gr O F' N' (λp hp=>dN (N p hp).1) (x:=.list ah (L++M)) (kT.mk [] _ 0 rfl rfl (Each.app (aM.mono (U _) f) (aM.mono (U _) A))) (a.tp.to (aH _)) (pr _) k) (by have:=t8 (Each.app f A) hz;rw[bK] at this;exact this)
theorem Vr{M O:List SV}(hx:oU G x Y M)(hy:oU G y Y O)(h1:M.isEmpty=aj)(h2:O.isEmpty=aj)(h:aD (M++O).length 1000=ai)(k:K (.obj Y.objs.length) ⟨Y.loc,OL.a Y.objs (.tup (M++O)),Y.fa⟩):aG G (binaryOp .Add) x y Y K:=.mk λc B s v u a r w=>by
 obtain⟨b,vs,rfl,f,hl⟩:=hx.at a r
 obtain⟨b2,ws,rfl,D,H⟩:=hy.at a w
 obtain⟨m,⟨ls,ad,C,l2,g,gr,F,N⟩,L⟩:=a.R
 have U:∀q:Addr,B<+:B++[q]:=λq=>dB _ _
 exact add_tuples F N hl H (λe=>by subst e;cases f;cases h1) (λA e=>by subst e;cases D;cases h2) (λA A h' F' N'=>a.made (s':={s with heap:=h'}) ad C l2 gr L F' N' (λp hp=>dN (N p hp).1) (x:=.tup (M++O)) (wY.mk _ _ rfl (Each.app (aM.mono (U _) f) (aM.mono (U _) D))) (a.tp.to (aH _)) (pr _) k) (by have:=t8 (Each.app f D) h;rw[bK] at this;exact this)
end
section
set_option genSizeOf false
set_option genInjectivity false
noncomputable abbrev Cx.plus (c:Cx) (l:List (Addr×Obj)) (r:List (Addr×Obj):=[]):Cx:=⟨c.A,c.A₀,c.base,c.h₀,c.outer,c.env,c.cs,c.L,l++c.X,r++c.R⟩
section
variable{G:Gx}{c:Cx}{u L:List Addr}{Y U:SS}{s O:Shared}{i:Nat}{I:Addr}{o H:Obj}{own rr:List (Addr×Obj)}{m:Str->Option Value}{h M:Heap}{D:Wd}
theorem Ok.plus{n:Nat}(k:Ok D c n){l r:List (Addr×Obj)}:Ok D (c.plus l r) n:=⟨k.XB,k.TB,k.hA,k.hk,k.hh,k.hd,k.hu⟩
theorem At.plus{l:List (Addr×Obj)}{y:List Addr}(a:At G c u Y s)(p:u<+:y)(R:RepS G.D (c.plus l) y U O):At G (c.plus l) y U O:=⟨R,a.cs,a.ok.plus,a.tk,λp q=>bV _ (a.rx p q),λx v=>(a.cv x v).imp λz h=>⟨h.1,iz p h.2⟩,a.hf⟩
theorem At.owned(a:At G c u Y s)(o:Obj)(B:o.isFreed=aj):At G (c.plus [(s.heap.objs.size,o)]) u Y {s with heap:=s.heap.push o}:=a.plus (pr _)<|by
 obtain⟨m,⟨z,ad,C,l2,g,y,F,N⟩,k⟩:=a.R
 have v:(flat z++((s.heap.objs.size,o)::c.X)).Perm ((s.heap.objs.size,o)::(flat z++c.X)):=jO
 refine⟨⟨m,⟨z,ad,C,(v.map aS).nodup_iff.mpr (ef.mpr ⟨λq=>?_,l2⟩),g,y,F.push _,λp x=>N.push F o B p (v.subset x)⟩,k⟩,a.tp.to (aH _),a.fa⟩
 obtain⟨p,x,e⟩:=fK.mp q
 exact absurd e (fQ (dN (N p x).1))
theorem At.turn(a:At G (c.plus ((I,o)::own) rr) u Y s)(hR:∀p∈rr++c.R,p∈own++c.X)(A:M.get? I=aa H)(k:∀b o,b≠I->s.heap.get? b=aa o->M.get? b=aa o){tk:Nat}(B:s.toks<=tk):At G (c.plus ((I,H)::own) rr) u Y {s with heap:=M,toks:=tk}:=by
 obtain⟨m,⟨j,ad,C,l2,g,gr,F,N⟩,hl⟩:=a.R
 have V:=N (I,o) (bV _ (.head _))
 have y:((flat j++(I,o)::(own++c.X)).map aS).Nodup:=l2
 have v:∀p∈flat j++(own++c.X),p.1≠I:=λp x e=>by
  rw[dH,gq] at y
  have:=jO.nodup_iff.mp y
  rw[ef,<-dH] at this
  exact this.1 (fK.mpr ⟨p,x,e⟩)
 refine⟨⟨⟨m,⟨j,ad,C,xj y,g,gr,⟨F.ns.at' λo e=>k _ o (λh=>V.2.1 h.symm) e,λb o e0=>k b o (λh=>by subst h;rw[V.2.2] at e0;cases e0) (F.keep b o e0),F.above⟩,λp x=>?_⟩,hl⟩,a.tp.to B,a.fa⟩,a.cs,⟨a.ok.XB,a.ok.TB,a.ok.hA,a.ok.hk,a.ok.hh,a.ok.hd,a.ok.hu⟩,a.tk,λp x=>.tail _ (hR p x),a.cv,a.hf⟩
 ·rcases jP.mp x with q|q
  ·have z:=N p (wg _ q)
   exact⟨k _ _ (v p (wg _ q)) z.1,z.2⟩
  ·rcases b7.mp q with rfl|q
   ·exact⟨A,V.2⟩
   ·have z:=N p (bV _ (.tail _ q))
    exact⟨k _ _ (v p (bV _ q)) z.1,z.2⟩
theorem At.drop(a:At G (c.plus ((I,o)::own) rr) u Y s)(q:∀b o,b≠I->s.heap.get? b=aa o->M.get? b=aa o){tk:Nat}(B:s.toks<=tk):RepS G.D (c.plus own rr) u Y {s with heap:=M,toks:=tk}:=by
 obtain⟨m,⟨v,ad,C,l2,g,y,F,N⟩,A⟩:=a.R
 have V:=N (I,o) (bV _ (.head _))
 have k:(flat v++(own++c.X)).Sublist (flat v++(I,o)::(own++c.X)):=(fY _).append (List.sublist_cons_self _ _)
 have x:((flat v++(I,o)::(own++c.X)).map aS).Nodup:=l2
 refine⟨⟨m,⟨v,ad,C,(k.map aS).nodup l2,g,y,⟨F.ns.at' λo e=>q _ o (λh=>V.2.1 h.symm) e,λb o e0=>q b o (λh=>by subst h;rw[V.2.2] at e0;cases e0) (F.keep b o e0),F.above⟩,λp j=>?_⟩,A⟩,a.tp.to B,a.fa⟩
 have z:=N p (k.subset j)
 refine⟨q _ _ (λe=>?_) z.1,z.2⟩
 rw[dH,gq] at x
 have:=jO.nodup_iff.mp x
 rw[ef,<-dH] at this
 exact this.1 (fK.mpr ⟨p,j,e⟩)
theorem At.same(a:At G (c.plus ((I,o)::own) rr) u Y s):RepS G.D (c.plus own rr) u Y s:=a.drop (λz z z e=>e) (aH _)
structure Src where
 it:SS->Nat->Option (Option SV)
 bk:SS->Option SS
 ob:Wd->Addr->List Addr->Nat->List (Addr×Obj)->List (Addr×Obj)->Prop
 mono:∀{W:Wd} {I:Addr} {u ρ':List Addr} {i:Nat} {l rr:List (Addr×Obj)},ob W I u i l rr->u<+:ρ'->ob W I ρ' i l rr
 next:∀{G:Gx} {c:Cx} {u:List Addr} {Y:SS} {s:Shared} {I:Addr} {i:Nat} {l rr:List (Addr×Obj)} {r:Option SV} {Q:Option Value->Shared->Prop} {E:Value->Shared->Prop},(∀p∈c.R,p∈c.X)->At G (c.plus l rr) u Y s->ob G.D I u i l rr->it Y i=aa r->
  (match r with
    |some z=>∀v l' O,At G (c.plus l' rr) u Y O->VR G.D u z v->ob G.D I u (i+1) l' rr->Q (aa v) O
    |ah=>∀O,(∀U,bk Y=aa U->RepS G.D c u U O)->Q ah O)->wpAny G.D.M c.A (pyNext (.ref I)) Q E s
 go:∀{G:Gx} {c:Cx} {u:List Addr} {Y:SS} {s:Shared} {I:Addr} {i:Nat} {l rr:List (Addr×Obj)} {v:Value} {tgt:Expr} {Q:Unit->Shared->Prop} {E:Value->Shared->Prop},At G (c.plus l rr) u Y s->ob G.D I u i l rr->Q () s->wpAny G.D.M c.A (letOwnedTupleGo tgt (.ref I) v) Q E s
 self:∀{G:Gx} {c:Cx} {u:List Addr} {Y:SS} {s:Shared} {I:Addr} {i:Nat} {l rr:List (Addr×Obj)} {Q:Value->Shared->Prop} {E:Value->Shared->Prop},At G (c.plus l rr) u Y s->ob G.D I u i l rr->Q (.ref I) s->wpAny G.D.M c.A (pyIter (.ref I)) Q E s
 back:∀{G:Gx} {c:Cx} {u:List Addr} {Y:SS} {s:Shared} {I:Addr} {i:Nat} {l rr:List (Addr×Obj)} {U:SS},(∀p∈c.R,p∈c.X)->At G (c.plus l rr) u Y s->ob G.D I u i l rr->bk Y=aa U->RepS G.D c u U s
inductive Hx (G:Gx) (c:Cx) (u:List Addr) (R:Src->SS->Prop) (it:Value) (s₂:Shared):Prop
 |mk (I:Addr) (l rr:List (Addr×Obj)) (S:Src) (ρ':List Addr) (U:SS) (e:it=.ref I) (p:u<+:ρ') (a:At G (c.plus l rr) ρ' U s₂) (o:Src.ob S G.D I ρ' 0 l rr) (r:R S U)
noncomputable def jb (G:Gx) (iter:Expr) (Y:SS) (R:Src->SS->Prop):Prop:=∀c u s,At G c u Y s->wpAny G.D.M c.A (eval iter c.env) (λy z=>wpAny G.D.M c.A (pyIter y) (Hx G c u R) (PX G c u) z) (PX G c u) s
theorem jb.mp{iter:Expr}{R v:Src->SS->Prop}(h:jb G iter Y R)(k:∀S Y,R S Y->v S Y):jb G iter Y v:=λc u s a=>wpAny_mono (h c u s a) (λy y z=>wpAny_mono z (λ_ _ ⟨I,l,rr,S,x,U,e,p,a,o,r⟩=>⟨I,l,rr,S,x,U,e,p,a,o,k _ _ r⟩) λy y z=>z) λy y z=>z
theorem xH{α β:Type}{t:Expr}{x:SV}{v:Value}{V:List Addr->α->β->Prop}{f:Cx->Unit->Sem β}{B:SS->Prop}{KB:α->SS->Prop}(hB:∀Y,B Y->aC G V jA f Y KB)(no:∀{u e s},PX G c u e s->False)(h:fc G t x Y B)(a:At G c u Y s)(r:VR G.D u x v){Q:β->Shared->Prop}{E:Value->Shared->Prop}
 (k:∀A U y w O,u<+:A->At G c A U O->V A y w->KB y U->Q w O):wpAny G.D.M c.A (assign t c.env v) (λqq e1=>wpAny G.D.M c.A (f c ()) Q E e1) E s:=
 wpAny_mono (h c u s v a r) (λ_ _ ⟨g,p1,_,C,j,_,u1⟩=>wpAny_mono (hB _ u1 c g _ () (a.to C j) trivial) (λ_ _ ⟨a1,o1,y,p,i1,q,y1⟩=>k _ _ y _ _ (C.trans p) ((a.to C j).to p i1) q y1) λqq qq z=>(no z).elim) λqq qq z=>(no z).elim
noncomputable def Bk (S:Src) (P:SS->Prop) (Y:SS):Prop:=∃U,S.bk Y=aa U/\P U
noncomputable def Hy (S:Src) (K:Fl->SS->Prop) (J:SS->Prop) (z:Fl) (Y:SS):Prop:=match z with
 |.next=>J Y
 |.cont=>J Y
 |.brk=>Bk S (K .next) Y
 |.ret v=>Bk S (K (.ret v)) Y
inductive Vs (G:Gx) (c:Cx) (rr:List (Addr×Obj)) (u:List Addr) (S:Src) (I:Addr) (J:Src->Nat->Nat->SS->Prop) (n:Nat) (O:Shared):Prop
 |mk (ρ':List Addr) (U:SS) (l:List (Addr×Obj)) (i:Nat) (p:u<+:ρ') (a:At G (c.plus l rr) ρ' U O) (o:S.ob G.D I ρ' i l rr) (j:J S n i U)
theorem xJ{l1:Expr}{c1:Pos}{iter:Expr}{a1:List Stmt}{K:Fl->SS->Prop}(hK:∀e u os,¬G.KX e u os)(hs:∀env v,foldedSetIterable iter env v=pure v)(J:Src->Nat->Nat->SS->Prop)
 (h1:∀S n i Y,J S n i Y->∃r,S.it Y i=aa r/\match r with
   |some z=>fc G l1 z Y λY=>aO G a1 Y (Hy S K λY=>∃n',n'<n/\J S n' (i+1) Y)
   |ah=>Bk S (K .next) Y) (n:Nat) (h:jb G iter Y λS Y=>J S n 0 Y):bc G (.For l1 iter a1 [] c1) Y K:=λc u s qq a qq=>by
 refine wpAny_For (wpAny_mono (h c u s a) (λxv b1 z=>wpAny_mono z (λit o1 z=>?_) λqq qq z=>z) λqq qq z=>z) (hs _)
 obtain⟨I,l,rr,S,g1,f1,rfl,z1,x1,hob,hJ⟩:=z
 have no:∀{c' u e s},PX G c' u e s->False:=λ⟨_,_,_,_,_,z⟩=>hK _ _ _ z
 refine codeAny_forLoop_any (Vs G c rr u S I J) ?_ n ⟨g1,f1,l,0,z1,x1,hob,hJ⟩
 rintro n O ⟨n1,U,l,i,p,a',hob,hJ⟩
 obtain⟨r,hr,hk⟩:=h1 S n i U hJ
 have rx:=a.rx
 have p1:∀{g V i1 l' x f j},u<+:g->At G (c.plus l' rr) g V i1->S.ob G.D I g j l' rr->tF G.D g x f->Bk S (K x) V->PB G c u K f i1:=λp a ho q ⟨e1,e,k⟩=>⟨_,e1,_,p,S.back rx a ho e,q,k⟩
 refine S.next a.rx a' hob hr ?_
 cases r with
 |none=>exactλo1 hb=>wpAny_execs_nil (let⟨e1,e,k⟩:=hk;⟨_,e1,.next,p,hb _ e,rfl,k⟩)
 |some z=>
  intro v' l' o1 d1 hz ho
  refine S.go d1 ho ?_
  refine xH (λqq h=>h) no hk d1 hz λg V fl f i1 A u1 C y1=>?_
  have B:=S.mono ho A
  cases fl with
  |next=>obtain rfl:=C;obtain⟨n',hn,hj⟩:=y1;exact⟨n',hn,g,V,l',i+1,p.trans A,u1,B,hj⟩
  |cont=>obtain rfl:=C;obtain⟨n',hn,hj⟩:=y1;exact⟨n',hn,g,V,l',i+1,p.trans A,u1,B,hj⟩
  |brk=>obtain rfl:=C;exact p1 (x:=.next) (p.trans A) u1 B rfl y1
  |ret y=>obtain⟨v,rfl,C⟩:=C;exact p1 (x:=.ret y) (p.trans A) u1 B ⟨v,rfl,C⟩ y1
end
end
set_option backward.match.sparseCases true in
theorem letGo{M:Model}{A:Around}{E:Value->Shared->Prop}{s:Shared}{L:Expr}{v:Value}{I:Addr}{o:Obj}{n:String}{Q:Unit->Shared->Prop}(z:s.heap.get? I=aa o)(g:o.cls=.type n)
 (Y:(["enumerate","zip","dict_itemiterator","dict_reverseitemiterator","odict_iterator","itertools.zip_longest","itertools.pairwise"]:List String).contains n=aj) (h:Q () s):wpAny M A (letOwnedTupleGo L (.ref I) v) Q E s:=by
 have two:wpAny M A (do
  let(.ref r,.ref a):=(cy I,v)|return
  let o<-load r
  match o.cls,o.data with
  |.type n,.fields q=>
   if["enumerate","zip","dict_itemiterator","dict_reverseitemiterator","odict_iterator","itertools.zip_longest","itertools.pairwise"].contains n&&q[0]? ==aa (rawInt a) then
    rule "for.unpacks-the-owned-tuple"
    updateField r 0 .none
  |_,_=>pure ():Sem Unit) Q E s:=by
  cases v with
  |ref=>
   refine wpAny_bind (wpAny_load z ?_)
   rw[g]
   cases o.data with
   |fields=>
    dsimp only
    rw[Y,MD,if_neg Mc]
    exact wpAny_pure h
   |_=>exact wpAny_pure h
  |_=>exact wpAny_pure h
 cases L with
 |Tuple=>exact two
 |List=>exact two
 |_=>exact wpAny_pure h
structure Bx (o:Obj) (b i:Nat):Prop where
 c:o.cls=.type "list_iterator"
 d:o.data=.fields #[.ref b,.int i 0]
section
variable{G:Gx}{c:Cx}{x:List Addr}{y:SS}{s:Shared}{i:Nat}
theorem At.heap(a:At G c x y s){p:Addr×Obj}(h:p∈c.X):s.heap.get? p.1=aa p.2:=let⟨_,⟨_,_,_,_,_,_,_,N⟩,_⟩:=a.R;(N p (bV _ h)).1
noncomputable def ua (i:Nat) (y:SS) (j:Nat):Option (Option SV):=match OL.get y.objs i with
 |some (.list p v)=>match p with
  |ah=>aa (at? v j)
  |some _=>ah
 |_=>ah
set_option tactic.hygienic true in
theorem Vt{j:Nat}{r:Option SV}(h:ua i y j=aa r):∃v,y.objs.list[i]? =aa (.list ah v)/\v[j]? =r:=by
 unfold ua at h
 split at h
 ·rename_i p v e
  cases p with
  |none=>cases h;exact⟨v,(OL.get_eq _ _).symm.trans e,(qA _ _).symm⟩
  |some=>cases h
 ·cases h
noncomputable def xK (i:Nat):Src where
 it:=ua i
 bk:=aa
 ob W I x j l O:=∃o b,l=[(I,o)]/\O=[]/\Bx o b j/\x[i]? =aa b
 mono:=λ⟨o,b,e,M,h,q⟩ p=>⟨o,b,e,M,h,iz p q⟩
 next:=λ{G c x y s I j l O r Q E} hR a ⟨o,b,e,M,h,q⟩ hit m=>by
  subst e M
  obtain⟨xs,ho,V⟩:=Vt hit
  obtain⟨b',us,A,e,hp,f,C⟩:=a.list (v:=.ref b) ho ⟨b,q,rfl⟩
  cases e;obtain rfl:=hp
  have B:s.heap.IsListIter I b j:=⟨o,a.heap (p:=(I,o)) (.head _),h.c,h.d⟩
  cases r with
  |none=>
   have u:A[j]? =none:=by rw[qi] at V⊢;rw[<-Each.len f];exact V
   exact wpAny_pyNext_list_end a.ok.hh B C (by rw[oh];exact u) λh' H=>m _ λY e=>by
    cases e
    exact a.drop (own:=[]) (λb o g e=>H b o g e) (aH _)
  |some z=>
   obtain⟨v,u,hz⟩:=Each.get f V
   refine wpAny_pyNext_list_item B C (x:=v) (by rw[oh];exact u) λh' k U=>?_
   obtain⟨D,L,c',d'⟩:=id k
   exact m v [(I,D)] _ (a.turn (own:=[]) hR L (λb o g e=>U.extBut b o g e) (aH _)) hz ⟨D,b,rfl,rfl,⟨c',d'⟩,q⟩
 go:=λ{G c x y s I j l O v e1 Q E} a ⟨o,b,e,M,h,q⟩ m=>by
  subst e M
  exact letGo (a.heap (p:=(I,o)) (.head _)) h.c (by decide) m
 self:=λ{G c x y s I j l O Q E} a ⟨o,b,e,M,h,q⟩ m=>by
  subst e M
  exact wpAny_pyIter_listiter ⟨o,a.heap (p:=(I,o)) (.head _),h.c,h.d⟩ m
 back:=λ{G c x y s I j l O Y} hR a ⟨o,b,e,M,h,q⟩ g=>by
  subst e M
  cases g
  exact At.same (own:=[]) a
end
section
set_option genSizeOf false
noncomputable def lq (z cs:Scope):Scope:={z with names:=z.names.map λ(n,k)=>if(k==.free&&cs.names.lookup n==some .cell) then(n,.cell) else(n,k)}
noncomputable def Gx.comp (G:Gx) (y:Scope) (x:List (Str×Nat)):Gx:=⟨G.D,G.T,0,lq y G.cs,λz z z=>False,[],[],[],x,aj⟩
theorem Vu{c:Cx}(v:qF c.env c.cs c.L)(y:Scope):relabel y c.env=lq y c.cs:=by
 unfold relabel lq Env.kindOf
 rw[v.kind,v.names]
 congr 1
 refine wh λx z=>?_
 obtain⟨n,k⟩:=x
 simp
theorem Vv{env:Env}:∀(l:List (Str×NameKind)) (M:List (Str×Addr)),(∀y∈l,y.2=.free->∃a,env.cells.lookup y.1=aa a)->
 ∃v,(forIn l M (λx cs=>(match x with|(q,m)=>if(m==wA)=ai then do
  let a<-cellOf env q
  pure (ForInStep.yield ((q,a)::cs)) else pure (ForInStep.yield cs)):(Str×NameKind)->List (Str×Addr)->Sem (ForInStep (List (Str×Addr)))))=pure v/\
  (∀n a,((n,wA)∈l\/M.lookup n=aa a)->(∀b,M.lookup n=aa b->b=a)->env.cells.lookup n=aa a->v.lookup n=aa a):=λl=>by
 induction l with
 |nil=>exactλM B=>⟨M,rfl,λn a h B B=>h.elim (λh=>by cases h) id⟩
 |cons y l A=>
  intro M h
  obtain⟨nm,k⟩:=y
  rw[Mw]
  dsimp only
  by_cases g:(k==wA)=ai
  ·obtain⟨a,p⟩:=h _ (.head _) (by simpa using g)
   obtain⟨v,e,hcl⟩:=A ((nm,a)::M) λy H=>h y (.tail _ H)
   refine⟨v,?_,λn b u D j=>?_⟩
   ·rw[if_pos g]
    unfold cellOf
    rw[p]
    simp only[pure_bind]
    exact e
   ·by_cases z:n=nm
    ·subst z
     rw[p] at j
     cases j
     exact hcl n a (.inr ES) (λb C=>by rw[ES] at C;cases C;rfl) p
    ·have hl:oB n ((nm,a)::M)=M.lookup n:=by rw[Mp,beq_false_of_ne z]
     refine hcl n b (u.imp (λu=>?_) (λu=>by rw[hl];exact u)) (λb' h'=>by rw[hl] at h';exact D b' h') j
     rcases b7.mp u with h'|h'
     ·cases h';exact absurd rfl z
     ·exact h'
  ·obtain⟨v,e,hcl⟩:=A M λy H=>h y (.tail _ H)
   refine⟨v,?_,λn b u D j=>hcl n b (u.imp (λu=>?_) id) D j⟩
   ·rw[if_neg g]
    simp only[pure_bind]
    exact e
   ·rcases b7.mp u with h'|h'
    ·cases h';exact absurd rfl g
    ·exact h'
theorem Vw{env:Env}{scope:Scope}(h:∀y∈scope.names,y.2=.free->∃a,env.cells.lookup y.1=aa a):∃v,closureFor scope env=pure v/\∀n a,(n,wA)∈scope.names->env.cells.lookup n=aa a->v.lookup n=aa a:=by
 obtain⟨v,e,hcl⟩:=Vv scope.names [] h
 refine⟨v,?_,λn a z p=>hcl n a (.inl z) (λb x=>by cases x) p⟩
 unfold closureFor
 refine Eq.trans ?_ e
 refine(bind_pure _).trans ?_
 congr 1
structure uc (G:Gx) (scope:Scope) (cvk:List (Str×Nat)):Prop where
 kind:scope.kind=.function
 cell:∀y∈scope.names,y.2≠.cell
 loc:∀y∈scope.names,y.2=.local->scope.names.lookup y.1=some .local
 sub:∀x∈cvk,x∈G.cv
 free:∀y∈scope.names,y.2=.free->∃k,(y.1,k)∈G.cv
 back:∀x∈cvk,(x.1,wA)∈scope.names
section
variable{G:Gx}{c:Cx}{V L:List Addr}{Y U:SS}{s O:Shared}
noncomputable abbrev Cx.ud (c:Cx) (env:Env) (cs:Scope) (C:Addr) (M:Obj):Cx:=⟨c.A,c.A₀,c.base,c.h₀,c.outer,env,cs,C,(c.L,M)::c.X,c.R⟩
theorem By{g:Heap}{a:Addr}(p:g.objs.size<=a):g.get? a=none:=by
 cases e:g.get? a with
 |none=>rfl
 |some z=>exact absurd (dN e) (nC.mpr p)
theorem At.enter{l A:List (Addr×Obj)}{env:Env}{cs:Scope}{q:List (Str×Nat)}{u:Scope}{M:Obj}(a:At G (c.plus l A) V Y s)(hL:s.heap.get? c.L=aa M)(hk:qF env cs s.heap.objs.size)(D:cs=lq u G.cs)(H:∀x∈q,∃a,env.cells.lookup x.1=aa a/\V[x.2]? =aa a)
 {B:Heap} (j:∃m,B.Ns s.heap.objs.size m) (v:∀b o,s.heap.get? b=aa o->B.get? b=aa o) {tk:Nat} (ht:s.toks<=tk):At (G.comp u q) ((c.ud env cs s.heap.objs.size M).plus l A) V ⟨[],Y.objs,Y.fa⟩ {s with heap:=B,toks:=tk}:=by
 obtain⟨m,⟨k,ad,l1,l2,g,gr,F,N⟩,hl⟩:=a.R
 obtain⟨m',j⟩:=j
 have z:=dN hL
 have hN:∀p∈flat k++(l++c.X),p.1≠c.L:=λp hp=>(N p hp).2.1
 have pm:(flat k++(l++(c.L,M)::c.X)).Perm ((c.L,M)::(flat k++(l++c.X))):=by
  rw[<-bY,<-bY];exact jO
 refine⟨⟨⟨m',⟨k,ad,l1,(pm.map aS).nodup_iff.mpr (ef.mpr ⟨λhq=>?_,l2⟩),g,gr,⟨j,λb o e=>v _ _ (F.keep _ _ e),?_⟩,λp hp=>?_⟩,λx y e=>(by cases e)⟩,a.tp.to ht,a.fa⟩,D,⟨a.ok.XB,a.ok.TB,λC=>absurd C (Ae _),hk,a.ok.hh,fP (fy (bP _) _) a.ok.hd,fP (ir (fy (iN 8 (bP _)) _) _) a.ok.hu⟩,a.tk,λp hp=>(jP.mp (a.rx p hp)).elim (wg _) λh=>bV _ (.tail _ h),H,λC=>(by cases C)⟩
 ·obtain⟨p,hp,e⟩:=fK.mp hq
  exact hN p hp e
 ·exact aq F.above (jR z)
 ·rcases b7.mp (pm.subset hp) with rfl|hp
  ·exact⟨v _ _ hL,fQ z,By F.above⟩
  ·exact⟨v _ _ (N p hp).1,fQ (dN (N p hp).1),(N p hp).2.2⟩
theorem At.leave{env:Env}{cs:Scope}{C:Addr}{M:Obj}{m:Str->Option Value}{v:Heap}{z:List Addr}{k:List (Str×SV)}(a:RepS G.D (c.ud env cs C M) V Y s)(hL:v.get? c.L=aa M)(h:v.Ns c.L m)(e1:c.h₀.objs.size<=c.L)(hC:c.L<C)(hl:iA G.D z k m)(p:z<+:V):
 ∃x B,s.heap.Ns C B/\s.heap.get? C=aa x/\RepS G.D (c.plus [(C,x)]) V ⟨k,Y.objs,Y.fa⟩ s:=by
 obtain⟨⟨B,⟨u,ad,l1,l2,g,gr,F,N⟩,_⟩,tp,fa⟩:=a
 obtain⟨x,j⟩:∃x,s.heap.get? C=aa x:=let⟨o,es,ep,ho,_⟩:=F.ns;⟨o,ho⟩
 have H:(flat u++((c.L,M)::c.X)).Perm ((c.L,M)::(flat u++c.X)):=jO
 have D:(flat u++((C,x)::c.X)).Perm ((C,x)::(flat u++c.X)):=jO
 have hz:=N (c.L,M) (H.symm.subset (.head _))
 have A:=(H.map aS).nodup_iff.mp l2
 rw[gq,ef] at A
 have N':∀q∈flat u++c.X,_:=λq y=>N q (H.symm.subset (.tail _ y))
 refine⟨x,B,F.ns,j,⟨m,⟨u,ad,l1,(D.map aS).nodup_iff.mpr (ef.mpr ⟨λy=>?_,A.2⟩),g,gr,⟨h.at' λo e=>?_,F.keep,by rw[gr.t.size];exact e1⟩,λq y=>?_⟩,hl.mono p⟩,tp,fa⟩
 ·obtain⟨q,y,e⟩:=fK.mp y
  exact(N' q y).2.1 e
 ·rw[hL] at e;cases e;exact hz.1
 ·rcases b7.mp (D.subset y) with rfl|y
  ·exact⟨j,Fe hC,By F.above⟩
  ·exact⟨(N' q y).1,λe=>A.1 (fK.mpr ⟨q,y,e⟩),(N' q y).2.2⟩
inductive Vx (W:Wd) (p':Option eW) (ys':List SV) (V:List Addr) (l:List Value):Prop
 |mk (us' vs':List Value) (e:l=us'++vs') (h:mh p' us') (f:aM W V ys' vs')
inductive BF (W:Wd) (j:Nat) (J:Nat->Nat->SS->Prop) (n i:Nat) (y:SV) (Y:SS):Prop
 |mk (p:Option eW) (ys:List SV) (ho:Y.objs.list[j]? =aa (.list p ys)) (hz:∀us,mh p us->us.length+ys.length<=16777216) (p':Option eW) (ys':List SV) (hq:∀us V vs v,mh p us->aM W V ys vs->VR W V y v->Vx W p' ys' V (us++(vs++[v]))) (n':Nat) (hn:n'<n) (hj:J n' (i+1) ⟨[],OL.s Y.objs j (.list p' ys'),Y.fa⟩)
structure Mk (G:Gx) (scope:Scope) (cvk:List (Str×Nat)) (tgt elt:Expr) (j:Nat) (S:Src) (J:Nat->Nat->SS->Prop) (P:SS->Prop):Prop where
 turn:∀n i Y,J n i Y->∃r,S.it Y i=aa r/\match r with
  |some z=>fc (G.comp scope cvk) tgt z ⟨[],Y.objs,Y.fa⟩ λY=>aA (G.comp scope cvk) elt Y (BF G.D j J n i)
  |ah=>Bk S P Y
theorem Vy{G':Gx}{j D:Nat}{J:Nat->Nat->SS->Prop}{n i:Nat}{y:SV}{u:Value}{Q:Value->Shared->Prop}{E:Value->Shared->Prop}(a:At G' c V Y s)(hD:VR G'.D V (.obj j) (.ref D))(q:VR G'.D V y u)(k:BF G'.D j J n i y Y)
 (hQ:∀(v:Value) (n':Nat) (h:SS) (z:Shared),n'<n->J n' (i+1) ⟨[],h.objs,h.fa⟩->At G' c V ⟨[],h.objs,h.fa⟩ z->Q v z):wpAny G'.D.M c.A (call (.builtin "list.append") [.ref D,u]) Q E s:=by
 obtain⟨p,ys,ho,hz,q',x,hq,n',hn,hj⟩:=k
 obtain⟨b,us,vs,k,m,g,A,B,e,hp,f,F,N,nd,C⟩:=a.tQ ho hD
 cases e
 obtain⟨H,M,e,h1,h2⟩:=hq us V vs u hp f q
 have e2:(H++M:List Value).toArray=(us++vs:List Value).toArray.push u:=by rw[<-e];simp
 exact append_K F N (qE (o':=listOf ((us++vs:List Value).toArray.push u) (k+1)) nd) (λh' F' N'=>hQ _ n' ⟨[],OL.s Y.objs j (.list q' x),Y.fa⟩ _ hn hj (a.to (pr _) ⟨let⟨m,l,_⟩:=C q' x H M (k+1) h' h1 h2 F' (e2▸N');⟨m,l,λqq qq e=>by cases e⟩,a.tp.to (aH _),a.fa⟩)) (by
  have:=hz us hp
  rw[qo,bK,<-Each.len f,sizeLine_eq];exact this)
inductive Vz (G:Gx) (ci:Cx) (S:Src) (J:Nat->Nat->SS->Prop) (I:Addr) (ρ₂:List Addr) (rr:List (Addr×Obj)) (n:Nat) (s:Shared):Prop
 |mk (i:Nat) (ρ':List Addr) (U:SS) (l':List (Addr×Obj)) (p:ρ₂<+:ρ') (a:At G (ci.plus l' rr) ρ' U s) (o:S.ob G.D I ρ' i l' rr) (h:J n i U)
theorem VA{l1 iter a1:Expr}{c1:Pos}{x:Scope}{C:List (Str×Nat)}{ci:Cx}{S:Src}{J:Nat->Nat->SS->Prop}{Pz:SS->Prop}{g:List Addr}{I D j:Nat}{os:OL}{fa:List Fact}{l rr:List (Addr×Obj)}{R:Result->Shared->Prop}{n:Nat}(M:Mk G x C a1 l1 j S J Pz)(rx:∀p∈ci.R,p∈ci.X)(hD:VR G.D g (.obj j) (.ref D)){s3:Shared}
 (x1:At (G.comp x C) (ci.plus l rr) g ⟨[],os,fa⟩ s3) (hob:S.ob G.D I g 0 l rr) (hJ:J n 0 ⟨[],os,fa⟩)
 (fin:∀H y1 q,Pz H->g<+:y1->RepS G.D ci y1 H q->R (.ok .next) q):codeAny G.D.M ci.A (.compLoop (.ListComp l1 [⟨a1,iter,[],0⟩] x c1) 0 (.ref I) (.ref D) ci.env) R s3:=by
 have no:∀{c' V e s},PX (G.comp x C) c' V e s->False:=λ⟨_,_,_,_,_,z⟩=>z
 refine kcp_loop (Vz (G.comp x C) ci S J I g rr) ?_ n ⟨0,_,_,l,pr _,x1,hob,hJ⟩
 rintro n O ⟨i,y1,U,l',p,a',h1,hJ⟩
 obtain⟨r,hr,hk⟩:=M.turn n i U hJ
 refine S.next (G:=G.comp x C) (c:=ci) rx a' h1 hr ?_
 cases r with
 |none=>
  intro q hb
  obtain⟨H,e,k⟩:=hk
  exact fin H y1 q k p (hb _ e)
 |some z=>
  intro v i1 d1 A hz B
  refine S.go (G:=G.comp x C) (c:=ci) A B ?_
  have p1:At (G.comp x C) (ci.plus i1 rr) y1 ⟨[],U.objs,U.fa⟩ d1:=A.to (pr _) ⟨let⟨m,l,_⟩:=A.R;⟨m,l,λqq qq e=>by cases e⟩,A.tp,A.fa⟩
  refine xH (λqq h=>h) no hk p1 hz λo1 H y u q u1 z1 f1 g1=>?_
  exact Vy (G':=G.comp x C) (c:=ci.plus i1 rr) z1 (hD.mono (p.trans u1)) f1 g1 λqq n' e1 b1 hn hj b=>⟨n',hn,i+1,o1,⟨[],e1.objs,e1.fa⟩,i1,p.trans u1,b,S.mono B u1,hj⟩
theorem Hz{b1 iter a1:Expr}{z1:Pos}{u:Scope}{d1:List (Str×Nat)}(sc:uc G u d1)(hs:∀env v,foldedSetIterable iter env v=pure v)(a:At G c V Y s){use:Option (Value->Sem Unit)}{Q:Value->Shared->Prop}{P:SS->Nat->Prop}
 (h:jb G iter Y λS q=>∃J n,Mk G u d1 a1 b1 q.objs.length S J (λY=>P ⟨q.loc,Y.objs,Y.fa⟩ q.objs.length)/\J n 0 ⟨[],OL.a q.objs (.list ah []),q.fa⟩)
 (fin:∀e1 j p1 O C oC D,P e1 j->V<+:p1->RepS G.D (c.plus [(C,oC)]) p1 e1 O->VR G.D p1 (.obj j) (.ref D)->(∃m,O.heap.Ns C m)->O.heap.get? C=aa oC->compPost G.D.M c.A (PX G c V) use Q (.ref D) C (.ok .next) O):
 wpAny G.D.M c.A (comprehension (.ListComp b1 [⟨a1,iter,[],0⟩] u z1) u c.env (firstIterPos [⟨a1,iter,[],0⟩] z1) (newList []) aj (eval iter c.env) use) Q (PX G c V) s:=by
 obtain⟨cl,c1,hcl⟩:=Vw (env:=c.env) (scope:=u) λy hy e=>by
  obtain⟨k,hx⟩:=sc.free y hy e
  obtain⟨ad,h1,_⟩:=a.cv _ hx
  exact⟨ad,h1⟩
 refine wpAny_comprehension_free (g:=⟨a1,iter,[],0⟩) (gs:=[]) rfl (hs _) c1 sc.kind sc.loc (wpAny_mono (h c V s a) (λxv Y1 z=>wpAny_mono z (λit B z=>?_) λqq qq z=>z) λqq qq z=>z)
 obtain⟨I,l,rr,S,H,q,rfl,m1,A,hob,J,n,M,hJ⟩:=z
 obtain⟨m,⟨ls,ad,l1,l2,g,gr,F,N⟩,f1⟩:=A.R
 let D:=B.heap.objs.size
 have g1:At G (c.plus l rr) (H++[D]) ⟨q.loc,OL.a q.objs (.list ah []),q.fa⟩ {B with heap:=B.heap.push (listOf ([]:List Value).toArray 0)}:=A.to (dB _ _) ⟨⟨m,.new ad l1 l2 gr (F.push _) (N.push F _) (λp hp=>dN (N p hp).1) (kT.mk [] [] 0 rfl rfl .nil),f1.mono (dB _ _)⟩,A.tp.to (aH _),A.fa⟩
 have hD:VR G.D (H++[D]) (.obj q.objs.length) (.ref D):=⟨D,(let⟨_,l,_⟩:=A.R;l.end D),rfl⟩
 have px:H<+:H++[D]:=dB _ _
 obtain⟨oL,x1⟩:∃oL,B.heap.get? c.L=aa oL:=let⟨o,es,ep,ho,_⟩:=F.ns;⟨o,ho⟩
 refine wpAny_newObj_type (hd:=by size_fits) (wpAny_newFunctionEnv sc.cell (by intro y hy;simp at hy) (λW1 i1 y1=>?_) sc.kind)
 dsimp only at i1 y1⊢
 have hC:=Heap.size_push B.heap (listOf ([]:List Value).toArray 0)
 let C:=(B.heap.push (listOf ([]:List Value).toArray 0)).objs.size
 have T1:c.L<C:=qn (dN x1) (aq (eg _) (aK hC.symm))
 have o1:At (G.comp u d1) ((c.ud (compEnvC u cl C c.env) (lq u c.cs) C oL).plus l rr) (H++[D]) ⟨[],OL.a q.objs (.list ah []),q.fa⟩ {B with heap:=W1,toks:=B.toks+([]:List (Str×Value)).length}:=
  At.enter (env:=compEnvC u cl C c.env) (cs:=lq u c.cs) g1 (lU _ x1) ⟨sc.kind,congrArg Scope.names (Vu a.ok.hk u),rfl,a.ok.hk.eY,a.ok.hk.bi⟩ (congrArg (lq u) a.cs) (λx hx=>by
   obtain⟨ad,h1,h2⟩:=g1.cv x (sc.sub x hx)
   exact⟨ad,hcl _ _ (sc.back x hx) h1,h2⟩) ⟨_,i1⟩ (λb o e=>y1.extBut b o (fQ (dN e)) (lU _ e)) (bL _ _)
 have u1:=S.mono hob px
 have Q1:∀ci:Cx,ci=c.ud (compEnvC u cl C c.env) (lq u c.cs) C oL->∀s3,At (G.comp u d1) (ci.plus l rr) (H++[D]) ⟨[],OL.a q.objs (.list ah []),q.fa⟩ s3->codeAny G.D.M ci.A (.compLoop (.ListComp b1 [⟨a1,iter,[],0⟩] u z1) 0 (.ref I) (.ref D) ci.env) (compPost G.D.M c.A (PX G c V) use Q (.ref D) C) s3:=λci E1 s3 o1=>
  VA M (by subst E1;exactλp hp=>.tail _ (a.rx p hp)) hD o1 u1 hJ λe1 p1 n1 k p b=>by
   subst E1
   obtain⟨oC,mC,hn,hg,R⟩:=At.leave b x1 F.ns (by rw[<-gr.t.size];exact F.above) T1 f1 (px.trans p)
   exact fin _ _ p1 n1 C oC D k (m1.trans (px.trans p)) R (hD.mono p) ⟨_,hn⟩ hg
 have lp:=Q1 _ rfl _ o1
 exact codeAny_compStart_list lp (S.self (G:=G.comp u d1) (c:=c.ud (compEnvC u cl C c.env) (lq u c.cs) C oL) o1 u1 lp)
end
end
section
variable{u:Program}{w:World}{A:Around}{E:Value->Shared->Prop}{s:Shared}
theorem HA{p t:Addr}{y:Array Value}(k:t≠p):∀(n i:Nat) (s:Shared) (Q:List Value->Shared->Prop),s.heap.IsListIter p t i->s.heap.IsList t y->i+n<=y.size->
 (∀g,g.IsListIter p t (i+n)->Heap.SameBut p s.heap g->Q ((y.toList.drop i).take n) {s with heap:=g})->wpAny (model u w) A (draw (.ref p) n) Q E s
 |0,i,s,Q,hit,_,_,j=>by
  show wpAny _ _ (pure []) Q E s
  exact wpAny_pure (by simpa using j s.heap hit (Heap.SameBut.refl ..))
 |n+1,i,s,Q,hit,U,M,j=>by
  have z:i<y.size:=by exact Om.wO M
  show wpAny _ _ (pyNext (.ref p)>>=_) Q E s
  refine wpAny_bind (wpAny_pyNext_list_item hit U (x:=y[i]) (by simp[z]) λV B v=>?_)
  refine wpAny_bind (wpAny_holding (HA k n (i+1) _ _ B (U.extBut v.extBut k) (by exact Om.wQ M) λm H q=>wpAny_pure ?_))
  have O:y.toList.drop i=y[i]::y.toList.drop (i+1):=by simp[kK,z]
  have:=j m (by rw[show i+(n+1)=i+1+n by exact Om.FD];exact H) (v.trans q)
  rw[O,EX] at this
  exact this
theorem VB{t:Addr}{y:Array Value}{Q:List Value->Shared->Prop}(hh:A.handled=ah)(k:s.heap.IsList t y)
 (O:∀V,Fo s.heap.objs.size s.heap V->Q y.toList {s with heap:=V}):wpAny (model u w) A (unpackItems (.ref t) y.size ah) Q E s:=by
 have z:t≠s.heap.objs.size:=by obtain⟨o,U,_⟩:=k;exact fQ (dN U)
 unfold unpackItems
 refine wpAny_bind ?_
 ·unfold notIterableAtAll
  refine wpAny_bind (wpAny_specialOf k.typeIs slot_list_iter.lookup ?_)
  refine wpAny_pure ?_
  simp only[Me,if_false]
  refine wpAny_bind (wpAny_holding (wpAny_pyIter_list k ?_))
  refine wpAny_bind (wpAny_holding (HA z y.size 0 _ _ ⟨_,EZ _ rfl,rfl,rfl⟩ (k.push _) (by exact Om.Na) λm B x=>?_))
  have j:List.take y.size (List.drop 0 y.toList)=y.toList:=by
   rw[qt];exact iL (by simp)
  rw[j]
  rw[if_neg (by simp)]
  have v:m.IsList t y:=(k.push _).extBut x.extBut z
  refine wpAny_bind (wpAny_holding (wpAny_pyNext_list_end hh B v (by simp) λp q=>?_))
  simp only[Option.isSome_none,Me,if_false]
  refine wpAny_pure (O p λb o g e=>q b o g (x.extBut b o g (lU _ e)))
theorem VD{env:Env}{y:List Expr}{D}{v:Pos}{t:Addr}{z:Array Value}{Q:Unit->Shared->Prop}(hh:A.handled=ah)(p:s.heap.IsList t z)
 (m:(assignEach y env).length=z.size) (x:(assignEach y env).findIdx? (·.1)=ah)
 (h:∀q,Fo s.heap.objs.size s.heap q->wpAny (model u w) A (assignInOrder ((assignEach y env).map (·.2)) z.toList) Q E {s with heap:=q}):
 wpAny (model u w) A (assign (.Tuple y D v) env (.ref t)) Q E s:=by
 rw[arm_assign_Tuple]
 refine wpAny_bind (wpAny_standAt ?_)
 unfold unpack
 rw[m,x]
 exact wpAny_bind (wpAny_holding (VB hh p h))
end
noncomputable abbrev VE (e:Expr):Prop:=∀z,behindInMarks z e=aj
noncomputable def xM (e:Expr):Option (PLift (VE e)):=match mr e with
 |some ⟨h⟩=>aa ⟨h.marks⟩
 |ah=>match e with
  |.ListComp ..=>aa ⟨λz=>rfl⟩
  |_=>ah
noncomputable def BH (e:Expr):Option (PLift (xy e)):=(G5 e).map λh=>⟨h.1.it⟩
noncomputable def VF (g:Comprehension):Option (PLift (g=⟨g.1,g.2,[],0⟩)):=match g with
 |⟨t,i,[],k⟩=>if h:k=0 then aa ⟨h▸rfl⟩ else ah
 |_=>ah
noncomputable def HB (z:List Comprehension):Option {p:Comprehension//z=[⟨p.1,p.2,[],0⟩]}:=match z with
 |[g]=>(VF g).map λh=>⟨g,congrArg (λx=>[x]) h.1⟩
 |_=>ah
noncomputable def isFree (k:NameKind):Bool:=match k with
 |.free=>ai
 |_=>aj
noncomputable def xN (o:Option NameKind) (f:NameKind->Bool):Bool:=@aY NameKind (λz=>Bool) aj f o
noncomputable def kc (y:Scope):List (Str×Nat)->List (Str×Nat):=bE [] λp z x=>@az (λz=>List (Str×Nat)) x (p::x) (xN (lk p.1 y.names) isFree)
noncomputable def xO (G:Gx) (z:Scope) (y:Str×NameKind):Bool:=match y.2 with
 |.cell=>aj
 |.free=>(lk y.1 G.cv).isSome
 |.local=>xN (lk y.1 z.names) λk=>match k with
  |.local=>ai
  |_=>aj
 |_=>ai
noncomputable def ue (G:Gx) (z:Scope):Bool:=match z.kind with
 |.function=>z.names.all (xO G z)
 |_=>aj
theorem HC{y:Scope}{x:Str×Nat}:∀{l:List (Str×Nat)},x∈kc y l->x∈l/\(x.1,wA)∈y.names:=@λl=>by
 induction l with
 |nil=>intro h;cases h
 |cons p l m=>
  intro h
  have v:x∈@az (λz=>List (Str×Nat)) (kc y l) (p::kc y l) (xN (lk p.1 y.names) isFree):=h
  cases e:xN (lk p.1 y.names) isFree with
  |false=>rw[e] at v;exact⟨.tail _ (m v).1,(m v).2⟩
  |true=>
   rw[e] at v
   rcases b7.mp v with rfl|v
   ·cases q:lk x.1 y.names with
    |none=>rw[q] at e;cases e
    |some k=>rw[q] at e;cases k with
     |free=>exact⟨.head _,fz q⟩
     |_=>cases e
   ·exact⟨.tail _ (m v).1,(m v).2⟩
theorem xP{G:Gx}{v:Scope}(h:ue G v=ai):uc G v (kc v G.cv):=by
 unfold ue at h
 cases e:v.kind with
 |function=>
  rw[e] at h
  have all:=bZ.mp h
  refine⟨e,λy p q=>?_,λy p q=>?_,λx m=>(HC m).1,λy p q=>?_,λx m=>(HC m).2⟩
  ·have:=all y p;unfold xO at this;rw[q] at this;cases this
  ·have:=all y p
   unfold xO at this
   rw[q] at this
   rw[<-Gi]
   cases z:lk y.1 v.names with
   |none=>rw[z] at this;cases this
   |some k=>rw[z] at this;cases k with
    |«local»=>rfl
    |_=>cases this
  ·have:=all y p
   unfold xO at this
   rw[q] at this
   obtain⟨k,j⟩:=ahv.mp this
   exact⟨k,fz j⟩
 |_=>rw[e] at h;cases h
section
variable{G:Gx}{Y:SS}
theorem VH{L:List Expr}{k:Nat}{p:Pos}{K:SS->Prop}{x:SV}{y:List SV}{i:Nat}(q:mu L)(U:x=.obj i)(H:Y.objs.list[i]? =aa (.list ah y))(D:aQ L.length y.length=ai)(h:j6 G L y Y K):fc G (.Tuple L k p) x Y K:=λc ρ s v a r=>by
 subst U
 obtain⟨b,us,vs,rfl,rfl,f,O⟩:=a.list H r
 obtain⟨B,M⟩:=Bp (env:=c.env) q
 refine VD a.ok.hh O (by rw[B,bJ D,Each.len f];simp) M λh' C=>?_
 exact j6.go q h (a.to (pr _) (a.toRepS.ext C)) (pr _) (by simpa using f) λg j s' V m z=>m.tR V z
theorem BI{k iter L:Expr}{g:Pos}{x:Scope}{V:List (Str×Nat)}{K:SV->SS->Prop}(U:uc G x V)(B:xy iter)
 (h:jb G iter Y λS y=>∃J n,Mk G x V L k y.objs.length S J (λY=>K (.obj y.objs.length) ⟨y.loc,Y.objs,Y.fa⟩)/\J n 0 ⟨[],OL.a y.objs (.list ah []),y.fa⟩):
 aA G (.ListComp k [⟨L,iter,[],0⟩] x g) Y K:=λc ρ s z a z=>by
 show wpAny _ _ (eval (.ListComp k [⟨L,iter,[],0⟩] x g) c.env) _ _ s
 rw[eval_ListComp]
 refine Hz U B a (use:=ah) (P:=λv j=>K (.obj j) v) h λv j O s' C oC D hP p R q H hC=>?_
 obtain⟨m,H⟩:=H
 exact⟨m,H,λh' M=>⟨O,v,.obj j,p,At.drop (own:=[]) (rr:=[]) (a.plus p R) (λb o hb e=>M.extBut b o hb e) (aH _),q,hP⟩⟩
end
noncomputable def BJ:List Nat->Bool:=bE ai λc z p=>@az (λz=>Bool) aj p (dW c 0x110000)
theorem allLt_of:∀{l:List Nat},BJ l=ai->∀c∈l,c<0x110000:=@λl=>by
 induction l with
 |nil=>exactλz c h=>by cases h
 |cons a l p=>
  intro h c g
  obtain⟨v,u⟩:=iR (a:=dW a 0x110000) h
  rcases b7.mp g with rfl|g
  ·exact aB v
  ·exact p u c g
noncomputable def Tm.cp:Tm->Bool:=Tm.rec ai λz l z z a b=>@az (λz=>Bool) aj (@az (λz=>Bool) aj b a) (BJ l)
theorem Tm.VI{j:Ev}(h:f5 j):∀{t:Tm},t.cp=ai->∀c∈t.ev j,c<0x110000:=@λt=>by
 induction t with
 |e=>exactλz c h=>by cases h
 |n k l a b v m=>
  intro q c g
  obtain⟨M,q⟩:=iR (a:=BJ l) q
  obtain⟨u,O⟩:=iR (a:=Tm.cp a) q
  have V:∀(p:Nat->Bool) (l:List Nat),c∈l.takeWhile p->c∈l:=λp l h=>(qj p).subset h
  have U:∀(p:Nat->Bool) (l:List Nat),c∈l.dropWhile p->c∈l:=λp l h=>(EP p).subset h
  match k with
  |0=>exact allLt_of M c g
  |1=>exact h.pv _ c g
  |2=>obtain rfl:=d8.mp g;exact h.pc _
  |3=>exact v u c (List.mem_of_mem_take g)
  |4=>exact v u c (LQ g)
  |5=>exact(jP.mp g).elim (v u c) (m O c)
  |6=>exact v u c (V _ _ g)
  |7=>exact v u c (V _ _ g)
  |8=>exact v u c (U _ _ g)
  |9=>exact v u c (U _ _ g)
  |_+10=>exact h.pf _ _ (v u) c g
inductive VJ (n:Nat) (h:Heap) (v w:Value):Prop
 |mk (d:PyData) (as bs:List Addr) (a:Reads h v d as) (b:Reads h w d bs) (c:d.canLay0=ai) (k:d.depth<=n)
inductive BK (n:Nat) (h:Heap) (v w:List Value):Prop
 |mk (d:List PyData) (as bs:List Addr) (a:ReadsAll h v d as) (b:ReadsAll h w d bs) (c:PyData.canLayAll0 d=ai) (k:PyData.depthAll d<=n)
noncomputable abbrev bu (G:Gx) (Y:SS) (n:Nat) (x y:SV):Prop:=∀c z s v w,At G c z Y s->VR G.D z x v->VR G.D z y w->VJ n s.heap v w
noncomputable abbrev lu (G:Gx) (Y:SS) (n:Nat) (x y:List SV):Prop:=∀c z s v w,At G c z Y s->aM G.D z x v->aM G.D z y w->BK n s.heap v w
noncomputable def aV (b:Bool):Option (PLift (b=ai)):=@az (λb=>Option (PLift (b=ai))) ah (aa ⟨rfl⟩) b
noncomputable abbrev VK (x:SV) (z:Nat×Tm):Prop:=Is x λW v=>∃t,v=.int (W.η.i z.1 (z.2.ev W.η)) t
noncomputable def BL (x:SV):Option {z:Nat×Tm//VK x z}:=match x with
 |.im k t=>aa ⟨(k,t),id⟩
 |_=>ah
noncomputable def fT (l:OL) (i:Nat):Option {o:SO//l.list[i]? =aa o}:=@aY SO (λO=>O=l.get i->Option {o:SO//l.list[i]? =aa o}) (λz=>ah) (λo h=>aa ⟨o,(OL.get_eq l i).symm.trans h.symm⟩) (l.get i) rfl
noncomputable def iT {H u v:Type} (a:Option H) (b:Option u) (f:H->u->Option v):Option v:=@aY H (λz=>Option v) ah (λa=>@aY u (λz=>Option v) ah (f a) b) a
noncomputable def gQ {v:Type} (a b:Option v):Option v:=@aY v (λz=>Option v) b aa a
section
variable{G:Gx}{Y:SS}{x y:SV}{n:Nat}
noncomputable def VL (G:Gx) (Y:SS) (x y:SV):Option (PLift (bu G Y 0 x y)):=iT (fC x) (fC y) λa b=>iT (aV (dj a.1 b.1)) (aV a.1.cp) λh q=>aa ⟨λc p s v w at_ r z=>by
 obtain⟨t,rfl⟩:=a.2 r
 obtain⟨u,rfl⟩:=b.2 z
 rw[<-fh h.1]
 exact⟨_,_,_,.str _ _,.str _ _,by
  show(Array.all _ _=ai)
  rw[Mf]
  intro c g
  exact decide_eq_true (Tm.VI G.D.kR q.1 c (by simpa[ak] using g)),aH _⟩⟩
noncomputable def VM (G:Gx) (Y:SS) (x y:SV):Option (PLift (bu G Y 0 x y)):=iT (bF x) (bF y) λa b=>(aV (decide (a.1=b.1))).map λh=>⟨λc q s v w at_ r z=>by
 obtain⟨t,rfl⟩:=a.2 r
 obtain⟨u,rfl⟩:=b.2 z
 rw[<-of_decide_eq_true h.1]
 exact⟨_,_,_,.int _ _,.int _ _,rfl,aH _⟩⟩
noncomputable def VN (G:Gx) (Y:SS) (x y:SV):Option (PLift (bu G Y 0 x y)):=iT (BL x) (BL y) λa b=>iT (aV (aQ a.1.1 b.1.1)) (aV (dj a.1.2 b.1.2)) λh q=>aa ⟨λc p s v w at_ r z=>by
 obtain⟨t,rfl⟩:=a.2 r
 obtain⟨u,rfl⟩:=b.2 z
 rw[<-fh q.1,<-bJ h.1]
 exact⟨_,_,_,.int _ _,.int _ _,rfl,aH _⟩⟩
noncomputable def VO (G:Gx) (Y:SS) (x y:SV):Option (PLift (bu G Y 0 x y)):=iT (xm x) (xm y) λa b=>(aV (decide (a.1=b.1))).map λh=>⟨λc u s v w at_ r z=>by
 obtain rfl:=a.2 r
 obtain rfl:=b.2 z
 rw[<-of_decide_eq_true h.1]
 exact⟨_,_,_,.bool _,.bool _,rfl,aH _⟩⟩
noncomputable def VP (G:Gx) (Y:SS) (x y:SV):Option (PLift (bu G Y 0 x y)):=iT (qJ x) (qJ y) λa b=>aa ⟨λc u s v w at_ r z=>by
 obtain rfl:=a.1 r
 obtain rfl:=b.1 z
 exact⟨_,_,_,.none,.none,rfl,aH _⟩⟩
theorem bu.up{m:Nat}(h:n<=m)(q:bu G Y n x y):bu G Y m x y:=λc z s v w a r p=>let⟨d,as,g,j,u,O,k⟩:=q c z s v w a r p;⟨d,as,g,j,u,O,aq k h⟩
noncomputable def HD (G:Gx) (Y:SS) (n:Nat) (x y:SV):Option (PLift (bu G Y n x y)):=(gQ (VL G Y x y) (gQ (VM G Y x y) (gQ (VN G Y x y) (gQ (VO G Y x y) (VP G Y x y))))).map λh=>⟨h.1.up (bP _)⟩
noncomputable def sameAll (f:∀x y,Option (PLift (bu G Y n x y))):∀m j,Option (PLift (lu G Y n m j)):=@bE SV (λm=>∀j,Option (PLift (lu G Y n m j)))
 (λj=>match j with
   |[]=>aa ⟨λc k s v w a r z=>by cases r;cases z;exact⟨_,_,_,.nil,.nil,rfl,bP _⟩⟩
   |_::_=>ah)
 λx m p j=>match j with
  |[]=>ah
  |y::j=>iT (f x y) (p j) λh q=>aa ⟨λc k s v w a r z=>by
    cases r using Each.ec with
    |cons r g=>cases z using Each.ec with
     |cons z V=>
      obtain⟨d,as,bs,B,u,O,C⟩:=h.1 c k s _ _ a r z
      obtain⟨A,e1,L,D,H,M,U⟩:=q.1 c k s _ _ a g V
      exact⟨d::A,_,_,.cons B D,.cons u H,qk.mpr ⟨O,M⟩,Nat.max_le.mpr ⟨C,U⟩⟩⟩
noncomputable def VQ (f:∀x y,Option (PLift (bu G Y n x y))) (i j:Nat) (o p:SO) (M:Y.objs.list[i]? =aa o) (O:Y.objs.list[j]? =aa p):Option (PLift (bu G Y (n+1) (.obj i) (.obj j))):=iT (tN o) (tN p) λg k=>(sameAll f g.1 k.1).map λh=>⟨λc V s v w a r U=>by
 obtain⟨b,vs,rfl,f1,C⟩:=a.tup (g.2▸M) r
 obtain⟨b',ws,rfl,f2,l2⟩:=a.tup (k.2▸O) U
 obtain⟨ds,y1,e1,B,D,H,L⟩:=h.1 c V s _ _ a f1 f2
 obtain⟨o,g1,g2,m,A⟩:=C
 obtain⟨o',q,u,m',z⟩:=l2
 exact⟨_,_,_,reads_tuple_at g1 g2 A (by simpa using B),reads_tuple_at q u z (by simpa using D),H,d9 L⟩⟩
noncomputable def VS (f:∀x y,Option (PLift (bu G Y n x y))) (i j:Nat) (o p:SO) (L:Y.objs.list[i]? =aa o) (M:Y.objs.list[j]? =aa p):Option (PLift (bu G Y (n+1) (.obj i) (.obj j))):=iT (gy o) (gy p) λu z=>iT (gg u.1.1) (gg z.1.1) λe e'=>(sameAll f u.1.2 z.1.2).map λh=>⟨λc V s v w a r O=>by
 obtain⟨b,us,vs,rfl,q1,f1,C⟩:=a.list (u.2▸L) r
 obtain⟨b',U,ws,rfl,q2,f2,l2⟩:=a.list (z.2▸M) O
 rw[e.1] at q1
 rw[e'.1] at q2
 obtain rfl:=q1
 obtain rfl:=q2
 obtain⟨ds,y1,e1,A,B,D,H⟩:=h.1 c V s _ _ a f1 f2
 obtain⟨o,g1,g2,m,g3⟩:=C
 obtain⟨o',g,k,m',q⟩:=l2
 exact⟨_,_,_,reads_list_at g1 g2 g3 (by simpa using A),reads_list_at g k q (by simpa using B),D,d9 H⟩⟩
noncomputable def VT (G:Gx) (Y:SS) (n:Nat):∀x y,Option (PLift (bu G Y n x y)):=@eT (λn=>∀x y,Option (PLift (bu G Y n x y))) (λx y=>HD G Y 0 x y) (λn z x y=>gQ (HD G Y (n+1) x y) (iT (iB x) (iB y) λi j=>iT (fT Y.objs i.1) (fT Y.objs j.1) λo p=>(gQ (VQ z i.1 j.1 o.1 p.1 o.2 p.2) (VS z i.1 j.1 o.1 p.1 o.2 p.2)).map λh=>⟨by rw[i.2,j.2];exact h.1⟩)) n
theorem xQ{K:SV->SS->Prop}(m:aD 3 G.n=ai)(h:bu G Y 8 x y)(k:K (.bool aj) Y):aG G (compareOp .NotEq) x y Y K:=.mk λc q s v w a r p=>by
 obtain⟨d,as,U,g,u,O,j⟩:=h c q s v w a r p
 have z:SeqAt.shaped d=true:=qk.mpr ⟨O,decide_eq_true (aq j (by decide))⟩
 refine ne_dataH g u z z (by have:=a.ok.hu;have:=aB m;exact Om.Nb ‹_› this) ?_
 rw[SeqAt.eqv_refl d O]
 exact a.give (V:=VR G.D) (x:=.bool aj) (pr _) rfl k
variable{K:SV->SS->Prop}{i:Nat}
theorem VU{p:Option eW}{m:List SV}(z:Y.objs.list[i]? =aa (.list p m))(k:K (.bool aj) Y):bB G (.builtin "isinstance") [.obj i,.val (.type "dict")] Y K:=.two<|.mk λc j s v u a r w=>by
 obtain rfl:=w
 obtain⟨b,U,q,rfl,_,_,o,z,g,_⟩:=a.list z r
 exact IsiPair.list_dict z g (a.t1.give (V:=VR G.D) (x:=.bool aj) (pr _) rfl k)
theorem VV{p:List (Str×SV)}(z:Y.objs.list[i]? =aa (.dict p))(k:K (.bool ai) Y):bB G (.builtin "isinstance") [.obj i,.val (.type "dict")] Y K:=.two<|.mk λc m s v u a r w=>by
 obtain rfl:=w
 obtain⟨b,q,rfl,_,o,j,U,z,g,_⟩:=a.dict z r
 exact IsiPair.dict_dict z g.1 (a.give (V:=VR G.D) (x:=.bool ai) (pr _) rfl k)
theorem VW{p:List (Tm×SV)}(z:Y.objs.list[i]? =aa (.bz p))(k:K (.bool ai) Y):bB G (.builtin "isinstance") [.obj i,.val (.type "dict")] Y K:=.two<|.mk λc m s v u a r w=>by
 obtain rfl:=w
 obtain⟨b,q,rfl,_,o,j,U,z,g,_⟩:=a.bz z r
 exact IsiPair.dict_dict z g.1 (a.give (V:=VR G.D) (x:=.bool ai) (pr _) rfl k)
theorem HE{W:Wd}{c:Cx}{g:Heap}(k:Gr W c g){d:Addr}(h:g.get? d=ah):(d==sysModules)=false:=by
 obtain⟨v,⟨o,_,_,z,_⟩,_⟩:=(k.T.seer W.Az).mods
 refine beq_eq_false_iff_ne.mpr λe=>?_
 rw[e,z] at h;cases h
theorem HF{n:Nat}(h:aD n 1000=ai):(n:Int)<2^63:=by have:=aB h;exact Om.L7 this
theorem VX{z:List SV}(p:Y.objs.list[i]? =aa (.list ah z))(u:aD z.length 1000=ai)(k:K (.int z.length) Y):bB G (.builtin "len") [.obj i] Y K:=.one λc m s v a r=>by
 obtain⟨b,U,q,rfl,rfl,f,l⟩:=a.list p r
 have e:([]++q:List Value).toArray.size=z.length:=by rw[qo];exact f.len.symm
 exact call_len_list l (by rw[e];exact HF u) (a.t2.give (V:=VR G.D) (x:=.int z.length) (pr _) ⟨s.toks+1,by rw[e]⟩ k)
theorem At.free{o:SO}{c:Cx}{z:List Addr}{s:Shared}{b:Addr}(a:At G c z Y s)(v:Y.objs.list[i]? =aa o)(r:VR G.D z (.obj i) (.ref b))(u:∀l,OR G.D c.R z b o l->∃ob t,l=(b,ob)::t):(b==sysModules)=false:=by
 obtain⟨p,m,e,_,⟨A,B,l,g,O,q,F,N,_,_⟩⟩:=a.eZ v r
 cases e
 obtain⟨ob,t,rfl⟩:=u _ O
 exact HE q (N (b,ob) (bV _ (.head _))).2.2
theorem VY{z:List (Tm×SV)}(u:Y.objs.list[i]? =aa (.bz z))(p:aD z.length 1000=ai)(k:K (.int z.length) Y):bB G (.builtin "len") [.obj i] Y K:=.one λc j s v a r=>by
 obtain⟨b,q,rfl,f,m⟩:=a.bz u r
 exact call_len_dict (a.free u r λl ⟨ob,_,e,_,_⟩=>⟨ob,[],e⟩) m (by rw[<-f.len];exact HF p) (a.t2.give (V:=VR G.D) (x:=.int z.length) (pr _) ⟨s.toks+1,by rw[f.len]⟩ k)
end
section
open PySem.F
open PySem.Sem (wp)
theorem VZ:typeLookup (.type "list") "keys"=pure none:=by rw[typeLookup_type,builtinLookup_eq_fast];kernel_rfl
set_option maxHeartbeats 4000000 in
theorem V0{z:Program}{w:World}{A:Around}{E:Value->Shared->Prop}{s:Shared}{a:Addr}{v:Array Value}{k:Nat}{Q:Option Value->Shared->Prop}
 (Y:s.heap.get? a=aa {cls:=.type "list",data:=.seq v k}) (O:A.handled=ah)
 (h:∀p tk,(∀b o,s.heap.get? b=aa o->p.get? b=aa o)->Q ah {s with heap:=p,toks:=tk}):
 wpAny (model z w) A (getAttr? (.ref a) "keys") Q E s:=by
 have B:=VZ
 obtain⟨U,g,d,tk,os⟩:=s
 have V:∀u,(⟨U,g,d,u,os⟩:Shared).TypeIs (.ref a) "list":=λH=>⟨_,Y,rfl⟩
 have f1:=sub_AttributeError
 have f3:=LG.lookup
 have j:=LG.bind (.ref a)
 have D:=am_list_getattr_none
 have C:(["__module__","__name__","__qualname__","__doc__","__annotations__"]:List Str).contains "keys"=false:=by decide+kernel
 unfold getAttr? getAttrBy? getAttrBy
 repeat(any_goals(first|assumption|exact V _|((with_reducible show wpAny _ _ (call (Value.builtin "list.__getattribute__") _ _) _ _ _);refine call_meets LG (V _) am_entry_list_getattribute (F.args_list_getattribute_2 _ _) (meets_getattribute_miss_list a v k #[] "keys" _ B C) ⟨Y,O,λp u e q=>?_⟩)|wp_step))
 obtain⟨L,M,G⟩:=q.there
 show wpAny _ _ (getattributeRaised _ _ _ _ _ _ _) _ _ _
 unfold getattributeRaised
 repeat(any_goals(first|assumption|wp_step))
 exact h _ _ q.keeps
theorem HG:entryFor table "dict.update.loop"=aa Builtin.«dict.update.loop»:=entryFor_of_tree (by kernel_rfl)
theorem xR:plainId "dict.update.loop"=true:=by decide+kernel
inductive HH (h:Heap) (p:Str×Value) (u:Value):Prop
 |mk (q:Addr) (t:Tok) (n:Nat) (e:u=.ref q) (g:h.get? q=aa (listOf #[.str p.1 t,p.2] n))
noncomputable abbrev gS (h:Heap):List (Str×Value)->List Value->Prop:=Each (HH h)
theorem gS.keep{h u:Heap}{m:List (Str×Value)}{x:List Value}(r:gS h m x)(v:∀q o,cy q∈x->h.get? q=aa o->u.get? q=aa o):gS u m x:=by
 induction r with
 |nil=>exact .nil
 |cons h _ p=>obtain⟨q,t,n,rfl,g⟩:=h;exact .cons ⟨q,t,n,rfl,v _ _ (.head _) g⟩ (p λq o j=>v q o (.tail _ j))
theorem gS.get{h:Heap}{m:List (Str×Value)}{x:List Value}(r:gS h m x){q:Addr}(u:cy q∈x):∃v n,h.get? q=aa (listOf v n):=by
 induction r with
 |nil=>cases u
 |cons h _ p=>obtain⟨O,t,n,rfl,g⟩:=h;cases u with
  |head=>exact⟨_,_,g⟩
  |tail _ u=>exact p u
noncomputable def uf (y:List (Str×Value)) (m:List (Str×Value)):List (Str×Value):=bE (λy=>y) (λp u v y=>v (stored y p.1 p.2)) m y
theorem V4{y:List (Str×Value)}{k:Str}{v:Value}:(stored y k v).length<=y.length+1:=by
 unfold stored
 split
 ·rw[i8];exact eg _
 ·rw[bK];exact aH _
section
variable{z:Program}{w:World}{A:Around}{E:Value->Shared->Prop}{s:Shared}{d l I:Addr}{x:List Value}{m y:List (Str×Value)}{k:Nat}
theorem V5{items:Array Value}{U:Value}{R:Result->Shared->Prop}(hh:A.in1.handled=ah)(L:d≠I)(p1:d≠l)(a1:l≠I):∀(m:List (Str×Value)) (i:Nat) (x:List Value) (y:List (Str×Value)) (s:Shared),items.toList.drop i=x->s.heap.IsListIter I l i->s.heap.IsList l items->
 gS s.heap m x->(∀q,cy q∈x->q≠d/\q≠I)->s.heap.DictOf (strKind z w) d y->y.length+m.length<=100000->
 (∀D tk,s.toks<=tk->D.DictOf (strKind z w) d (uf y m)->(∀b o,b≠d->b≠I->s.heap.get? b=aa o->D.get? b=aa o)->R (.ok (.ret U)) {s with heap:=D,toks:=tk})->
 codeAny (model z w) A (.builtin "dict.update.loop" ⟨[.ref d,.ref I,rawInt i,U],[]⟩) R s:=by
 intro m
 induction m with
 |nil=>
  intro i x y s hd hit hl hP Y hD hz hR
  cases hP
  refine codeAny_builtin HG ?_
  rw[Around.under_plainId xR _]
  show wpAny _ A.in1 (pyNext (.ref I)>>=_) _ _ s
  have M:items[i]? =none:=by
   rw[<-z5,qi]
   exact List.drop_eq_nil_iff.mp hd
  refine wpAny_bind (wpAny_pyNext_list_end hh hit hl M λD y1=>?_)
  show wpAny _ A.in1 (Builtin.Dict.addKeywords d []>>=λqq=>ret U) _ _ _
  refine wpAny_bind (wpAny_of_eq (a:=()) (by rfl) (wpAny_pure ?_))
  exact hR D s.toks (aH _) (hD.at λo e=>y1 d o L e) λb o hb V e=>y1 b o V e
 |cons p m ih=>
  intro i x y s hd hit hl hP Y hD hz hR
  cases hP using Each.ec with
  |@cons _ x hp hP=>
   obtain⟨q,t,n,rfl,hq⟩:=hp
   have e1:items[i]? =aa (.ref q):=by
    rw[<-z5]
    have:(items.toList.drop i)[0]? =aa (.ref q):=by rw[hd];rfl
    rw[L5,Ff] at this
    exact this
   refine codeAny_builtin HG ?_
   rw[Around.under_plainId xR _]
   show wpAny _ A.in1 (pyNext (.ref I)>>=_) _ _ s
   refine wpAny_bind (wpAny_pyNext_list_item hit hl e1 λu B v=>?_)
   have g:u.get? q=aa (listOf #[.str p.1 t,p.2] n):=v.extBut _ _ (Y _ (.head _)).2 hq
   have ht:Shared.TypeIs {s with heap:=u} (.ref q) "list":=⟨_,g,rfl⟩
   have O:∀(Q:List Value->Shared->Prop) (E:Value->Shared->Prop),Q [.str p.1 t,p.2] {s with heap:=u}->wpAny (model z w) A.in1 (ahF (.ref q)) Q E {s with heap:=u}:=λQ E h=>by
    unfold ahF
    refine wpAny_bind (wpAny_typeOf ht ?_)
    simp only[beq_self_eq_true,Bool.true_or,if_true]
    exact wpAny_bind (wpAny_seqItems g rfl (wpAny_pure h))
   have o1:(strKind z w).is p.1 (.str p.1 t)=true:=by
    show Value.isStrOf p.1 (.str p.1 t)=ai
    simp[Value.isStrOf]
   refine wpAny_bind (wpAny_holding (wpAny_bind (wpAny_tryCatch (O _ _ ?_))))
   dsimp only
   refine wpAny_holding ?_
   have G:u.DictOf (strKind z w) d y:=hD.at λo e=>v.extBut _ _ L e
   have u1:y.length+m.length+1<=100000:=hz
   refine wpAny_dictSet_pairs (s:={s with heap:=u}) o1 G (λC H j=>?_) (by rw[sizeLine_eq];exact Om.Nc hz)
   refine wpAny_pure ⟨plainId_quiet xR _,?_⟩
   refine ih (i+1) x (stored y p.1 p.2) {s with heap:=C,toks:=s.toks+1} (by rw[<-jv,hd];rfl) (B.extBut j.extBut (Ne.symm L)) ((hl.extBut v.extBut a1).extBut j.extBut (Ne.symm p1)) ?_ (λq hq=>Y q (.tail _ hq)) H ?_ ?_
   ·exact gS.keep hP λq' o hv ho=>j.extBut _ _ (Y q' (.tail _ hv)).1 (v.extBut _ _ (Y q' (.tail _ hv)).2 ho)
   ·exact aq (ir V4 _) (by exact Om.Nd u1)
   ·exactλD tk i1 d1 hk=>hR D tk (aq (eg _) i1) d1 λb o hb V e=>hk b o hb V (j.extBut _ _ hb (v.extBut _ _ V e))
theorem HJ{id:String}{R:Result->Shared->Prop}(hA:A.handled=ah)(D:d≠l)(O:s.heap.get? l=aa (listOf x.toArray k))(hD:s.heap.DictOf (strKind z w) d y)
 (hP:gS s.heap m x) (G:∀q,cy q∈x->q≠d) (hz:y.length+m.length<=100000)
 (h:∀V tk,V.DictOf (strKind z w) d (uf y m)->(∀b o,b≠d->s.heap.get? b=aa o->V.get? b=aa o)->R (.ok (.ret .none)) {s with heap:=V,toks:=tk}):
 wpAny (model z w) A.in1 (EO id d (.ref l) [] .none) (λfin B=>match fin with|.done f=>R (.ok f) B|.again c'=>c'.quiet=ai/\codeAny (model z w) A c' R B) E s:=by
 unfold EO
 refine wpAny_bind (wpAny_typeOf (T:="list") ⟨_,O,rfl⟩ ?_)
 rw[if_pos (by decide)]
 refine wpAny_bind (V0 O (by exact hA) λv M H=>?_)
 simp only[Option.isNone_none,if_true]
 have p:v.IsList l x.toArray:=⟨_,H _ _ O,rfl,k,rfl⟩
 have j:v.DictOf (strKind z w) d y:=hD.at λo e=>H _ _ e
 have g:d<v.objs.size:=by obtain⟨_,_,_,e,_⟩:=j;exact dN e
 refine wpAny_bind (wpAny_rule (wpAny_bind (wpAny_pyIter_list p (wpAny_pure ⟨plainId_quiet xR _,?_⟩))))
 refine V5 (d:=d) (I:=v.objs.size) (l:=l) (items:=x.toArray) (by exact hA) (fQ g) D (fQ (dN (H _ _ O))) m 0 x y _ (by rfl) ⟨_,EZ _ rfl,rfl,rfl⟩ (p.push _) (gS.keep hP λq o u L=>lU _ (H _ _ L)) ?_ (j.push _) hz ?_
 ·intro q u
  obtain⟨o,_,L⟩:=gS.get hP u
  exact⟨G q u,fQ (dN (H _ _ L))⟩
 ·exactλV tk qq C U=>h V tk C λb o hb Y=>U b o hb (fQ (dN (H _ _ Y))) (lU _ (H _ _ Y))
theorem V6{Q:Value->Shared->Prop}(H:A.handled=ah)(O:s.heap.get? l=aa (listOf x.toArray k))(M:gS s.heap m x)(L:m.length<=1000)
 (h:∀g tk,g.DictOf (strKind z w) s.heap.objs.size (uf [] m)->(∀b o,s.heap.get? b=aa o->g.get? b=aa o)->Q (.ref s.heap.objs.size) {s with heap:=g,toks:=tk}):
 wpAny (model z w) A (call (.type "dict") [.ref l]) Q E s:=by
 refine callType_codes (Q₁:=λobj p=>obj=.ref s.heap.objs.size/\p={s with heap:=s.heap.push {cls:=.type "dict",data:=.dict #[]}}) F.kt_called_dict (F.kt_typeCall_dict_1 _) F.entry_dict_init (kt_code_dict_new _ ⟨rfl,rfl⟩) ?_
 rintro obj p ⟨rfl,rfl⟩
 have v:(s.heap.push {cls:=.type "dict",data:=.dict #[]}).DictOf (strKind z w) s.heap.objs.size []:=Heap.DictOf.new s.heap
 refine⟨v.typeIs,F.args_dict_init_2 _ _,?_⟩
 unfold Builtin.«dict.__init__»
 refine wpAny_bind ?_
 unfold ahy
 refine wpAny_bind (wpAny_notOrdered_dict v.typeIs ?_)
 show wpAny _ _ (pure (s.heap.objs.size,[cy l])) _ _ _
 refine wpAny_pure ?_
 show wpAny _ _ (EO "dict.__init__" s.heap.objs.size (.ref l) [] .none) _ _ _
 refine HJ (A:=A.in1) (by exact H) (Ne.symm (fQ (dN O))) (lU _ O) v (gS.keep M λq o u Y=>lU _ Y) ?_ (by rw[Ac,i9];exact aq L (by decide)) ?_
 ·intro q u
  obtain⟨o,_,Y⟩:=gS.get M u
  exact fQ (dN Y)
 ·exactλg tk V U=>⟨rfl,h g tk V λb o j=>U b o (fQ (dN j)) (lU _ j)⟩
theorem V7{Q:Value->Shared->Prop}(U:A.handled=ah)(p:d≠l)(Y:s.heap.get? l=aa (listOf x.toArray k))(v:s.heap.DictOf (strKind z w) d y)
 (V:gS s.heap m x) (u:∀q,cy q∈x->q≠d) (g:y.length+m.length<=100000)
 (h:∀j tk,j.DictOf (strKind z w) d (uf y m)->(∀b o,b≠d->s.heap.get? b=aa o->j.get? b=aa o)->Q .none {s with heap:=j,toks:=tk}):
 wpAny (model z w) A (call (.builtin "dict.update") [.ref d,.ref l]) Q E s:=by
 refine wpAny_call (codeAny_call_builtin F.slot_dict_update.plain F.entry_dict_update (F.slot_dict_update.check _ _ _ _ _ _ _ _ v.typeIs (F.args_dict_update_2 _ _) ?_))
 unfold Builtin.«dict.update»
 refine wpAny_bind ?_
 unfold ahy
 refine wpAny_bind (wpAny_notOrdered_dict v.typeIs ?_)
 show wpAny _ _ (pure (d,[cy l])) _ _ _
 refine wpAny_pure ?_
 show wpAny _ _ (EO "dict.update" d (.ref l) [] .none) _ _ _
 exact HJ (R:=wants Q E) U p Y v V u g h
end
end
noncomputable abbrev aT (k:Ev) (z:List Fact):Prop:=∀f∈z,f.ok k
noncomputable def ug (y:List Fact) (a b:Tm) (t f:List Fact->Tr):Tr:=match(eqT ⟨[],.b [],y⟩ a b).1 with
 |.bool v=>@az (λz=>Tr) (f y) (t y) v
 |.bm k l p q=>.and (t (⟨k,l,p,q,ai⟩::y)) (f (⟨k,l,p,q,aj⟩::y))
 |_=>.ff
inductive V8 (η:Ev) (a b:Tm) (t f:List Fact->Tr):Prop
 |t (fa:List Fact) (ok:aT η fa) (e:a.ev η=b.ev η) (h:(t fa).h)
 |f (fa:List Fact) (ok:aT η fa) (e:a.ev η≠b.ev η) (h:(f fa).h)
theorem aT.cons{k:Ev}{z:List Fact}{f:Fact}(h:f.ok k)(ok:aT k z):aT k (f::z):=λg y=>(b7.mp y).elim (λe=>e▸h) (ok g)
theorem BN{W:Wd}{y:List Fact}{a b:Tm}{t f:List Fact->Tr}(h:(ug y a b t f).h)(ok:aT W.η y):V8 W.η a b t f:=by
 have e:=(eqT ⟨[],.b [],y⟩ a b).2 (W:=W) ok
 unfold ug at h
 generalize(eqT ⟨[],.b [],y⟩ a b).1=z at h e
 cases z with
 |bool v=>
  obtain rfl:decide (a.ev W.η=b.ev W.η)=v:=e
  by_cases q:a.ev W.η=b.ev W.η
  ·rw[decide_eq_true q] at h;exact .t y ok q h
  ·rw[decide_eq_false q] at h;exact .f y ok q h
 |bm k l p r=>
  have x:decide (a.ev W.η=b.ev W.η)=cF W.η k l (p.ev W.η) (r.ev W.η):=e
  by_cases q:a.ev W.η=b.ev W.η
  ·rw[decide_eq_true q] at x;exact .t _ (aT.cons (f:=⟨k,l,p,r,ai⟩) x.symm ok) q h.1
  ·rw[decide_eq_false q] at x;exact .f _ (aT.cons (f:=⟨k,l,p,r,aj⟩) x.symm ok) q h.2
 |_=>exact h.elim
noncomputable def BO (k:Tm) (v:SV):List (Tm×SV)->List Fact->(List (Tm×SV)->List Fact->Tr)->Tr:=bE (λz K=>K [(k,v)] z) λp r x z K=>ug z k p.1 (λz=>K ((p.1,v)::r) z) λz=>x z λy z=>K (p::y) z
inductive HK (W:Wd) (fs:List (Tm×SV)) (P:List (Tm×SV)->List (Str×Value)->List (Str×Value)->List Addr->Prop) (K:List (Tm×SV)->List Fact->Tr):Prop
 |mk (fs':List (Tm×SV)) (fa:List Fact) (ok:aT W.η fa) (h:(K fs' fa).h) (p:∀ρ kvs,gM W ρ fs kvs->(kvs.map (·.1)).Nodup->∀qs,P fs' kvs qs ρ)
theorem HL{n k:Str}{v w:Value}{z:List (Str×Value)}(h:k≠n):stored ((n,w)::z) k v=(n,w)::stored z k v:=by
 unfold stored
 rw[Fc,show decide ((n,w).1=k)=aj from decide_eq_false λe=>h e.symm,Bool.false_or]
 split
 ·rw[gq,if_neg λe=>h e.symm]
 ·rfl
theorem HM{k:Str}{v w:Value}{z:List (Str×Value)}(h:k∉z.map (·.1)):stored ((k,w)::z) k v=(k,v)::z:=by
 unfold stored
 rw[Fc,decide_eq_true rfl,Bool.true_or,if_pos rfl,gq,if_pos rfl]
 congr 1
 refine(wh λp y=>?_).trans (Fj _)
 exact if_neg λe=>h (fK.mpr ⟨p,y,e⟩)
theorem HN{a b:List Nat}(h:ak a=ak b):a=b:=congrArg (λs:Str=>s.cps.toList) h
theorem V9{W:Wd}{k:Tm}{v:SV}:∀{U:List (Tm×SV)} {m:List Fact} {K:List (Tm×SV)->List Fact->Tr},(BO k v U m K).h->aT W.η m->HK W U (λV y B g=>∀w,VR W g v w->gM W g V (stored y (ak (k.ev W.η)) w)) K:=@λU=>by
 induction U with
 |nil=>exactλh ok=>⟨_,_,ok,h,λg y r Y B w q=>by cases r;exact .one ⟨rfl,q⟩⟩
 |cons p r ih=>
  intro m K h ok
  cases BN (W:=W) (t:=λm=>K ((p.1,v)::r) m) (f:=λm=>BO k v r m λr' m=>K (p::r') m) h ok with
  |t D j e G=>
   refine⟨_,_,j,G,λg y O Y B w q=>?_⟩
   cases O using Each.ec with
   |@cons z A x H=>
    obtain⟨n,u⟩:=z
    obtain⟨C,M⟩:=x
    obtain rfl:n=ak (p.1.ev W.η):=C
    rw[e,HM (ef.mp Y).1]
    exact .cons ⟨rfl,q⟩ H
  |f D j e G=>
   obtain⟨V,y1,L,H,P⟩:=ih G j
   refine⟨_,_,L,H,λg y O Y qs w q=>?_⟩
   cases O using Each.ec with
   |@cons z A x h3=>
    obtain⟨n,u⟩:=z
    obtain⟨C,M⟩:=x
    obtain rfl:n=ak (p.1.ev W.η):=C
    rw[HL λz=>e (HN z)]
    exact .cons ⟨rfl,M⟩ (P g _ h3 (ef.mp Y).2 qs w q)
noncomputable def qT:List (Tm×SV)->List (Tm×SV)->List Fact->(List (Tm×SV)->List Fact->Tr)->Tr:=bE (λy x K=>K y x) λp z u y x K=>BO p.1 p.2 y x λv Y=>u v Y K
theorem Wa{k n:Str}{v:Value}:∀{z:List (Str×Value)},n∈(stored z k v).map (·.1)->n=k\/n∈z.map (·.1):=@λz h=>by
 unfold stored at h
 split at h
 ·rw[Ag] at h
  obtain⟨p,x,e⟩:=fK.mp h
  refine .inr (fK.mpr ⟨p,x,?_⟩)
  have y:(if p.1=k then(p.1,v) else p).1=n:=e
  split at y<;>exact y
 ·rw[dH] at h
  exact(jP.mp h).elim .inr λh=>.inl (d8.mp h)
theorem Wb{k:Str}{v:Value}:∀{y:List (Str×Value)},(y.map (·.1)).Nodup->((stored y k v).map (·.1)).Nodup:=@λy=>by
 induction y with
 |nil=>exactλj=>ef.mpr ⟨λh=>(by cases h),.nil⟩
 |cons p y q=>
  intro h
  obtain⟨n,w⟩:=p
  obtain⟨x,u⟩:=ef.mp h
  by_cases e:k=n
  ·subst e;rw[HM x];exact h
  ·rw[HL e]
   exact ef.mpr ⟨λm=>(Wa m).elim (λz=>e z.symm) x,q u⟩
theorem HO{W:Wd}:∀{D O:List (Tm×SV)} {L:List Fact} {K:List (Tm×SV)->List Fact->Tr},(qT D O L K).h->aT W.η L->HK W O (λv m V k=>gM W k D V->gM W k v (uf m V)) K:=@λD=>by
 induction D with
 |nil=>exactλh ok=>⟨_,_,ok,h,λk m r Y V q=>by cases q;exact r⟩
 |cons p D G=>
  intro O L K h ok
  obtain⟨C,A,U,x,P1⟩:=V9 (W:=W) (K:=λv M=>qT D v M K) h ok
  obtain⟨g,B,j,u,y⟩:=G x U
  refine⟨_,_,j,u,λk m r Y V q=>?_⟩
  cases q using Each.ec with
  |@cons z H q1 q2=>
   have e:=q1.k
   have:=P1 k m r Y [] z.2 q1.v
   rw[<-e] at this
   exact y k _ this (Wb Y) H q2
noncomputable def xS (k:Tm):List (Tm×SV)->List Fact->(SV->List Fact->Tr)->Tr:=bE (λz z=>.ff) λp r x y K=>ug y k p.1 (K p.2) λy=>x y K
inductive Wc (W:Wd) (k:Tm) (fs:List (Tm×SV)) (K:SV->List Fact->Tr):Prop
 |mk (x:SV) (fa:List Fact) (ok:aT W.η fa) (h:(K x fa).h) (p:∀ρ kvs,gM W ρ fs kvs->∃w,valueAt kvs (ak (k.ev W.η))=aa w/\VR W ρ x w)
theorem We{W:Wd}{k:Tm}:∀{g:List (Tm×SV)} {v:List Fact} {K:SV->List Fact->Tr},(xS k g v K).h->aT W.η v->Wc W k g K:=@λg=>by
 induction g with
 |nil=>exactλh=>h.elim
 |cons p r G=>
  intro v K h ok
  have q:∀{z:Str×Value} {V:List (Str×Value)},valueAt (z::V) (ak (k.ev W.η))=if z.1=ak (k.ev W.η) then aa z.2 else valueAt V (ak (k.ev W.η)):=λ{z V}=>by
   unfold valueAt
   rw[Ad]
   by_cases e:z.1=ak (k.ev W.η)
   ·rw[decide_eq_true e,if_pos e];rfl
   ·rw[decide_eq_false e,if_neg e]
  cases BN (W:=W) (t:=K p.2) (f:=λv=>xS k r v K) h ok with
  |t Y y e L=>
   refine⟨_,_,y,L,λH M O=>?_⟩
   cases O using Each.ec with
   |cons m u=>exact⟨_,by rw[q,if_pos (m.k.trans (congrArg ak e.symm))],m.v⟩
  |f Y y e L=>
   obtain⟨x,B,U,u,P⟩:=G L y
   refine⟨_,_,U,u,λH M O=>?_⟩
   cases O using Each.ec with
   |cons m C=>
    obtain⟨w,j,D⟩:=P H _ C
    exact⟨w,by rw[q,if_neg λz=>e (HN (m.k.symm.trans z)).symm];exact j,D⟩
noncomputable def xT (k:Tm) (t f:List Fact->Tr):List Tm->List Fact->Tr:=bE f λp r z y=>ug y k p t z
theorem Wf{W:Wd}{k:Tm}{t f:List Fact->Tr}:∀{L:List Tm} {x:List Fact},(xT k t f L x).h->aT W.η x->∃Y,aT W.η Y/\(@az (λq=>Tr) (f Y) (t Y) ((L.map λt=>ak (t.ev W.η)).any (· ==ak (k.ev W.η)))).h:=@λL=>by
 induction L with
 |nil=>exactλh ok=>⟨_,ok,h⟩
 |cons p r u=>
  intro x h ok
  rw[gq,Fc,xo]
  cases BN (W:=W) (t:=t) (f:=λx=>xT k t f r x) h ok with
  |t Y y e v=>exact⟨_,y,by rw[decide_eq_true e.symm];exact v⟩
  |f Y y e v=>rw[decide_eq_false λz=>e z.symm];exact u v y
section
variable{G:Gx}{Y:SS}{i j:Nat}{x y:SV}{c:Cx}{V:List Addr}{s:Shared}
theorem At.fact(a:At G c V Y s){z:List Fact}(h:aT G.D.η z):At G c V ⟨Y.loc,Y.objs,z⟩ s:=a.to (pr _) ⟨let⟨m,l,r⟩:=a.R;⟨m,l,r⟩,a.tp,h⟩
theorem At.gy(a:At G c V Y s){z:List SV}{v:Value}(u:Y.objs.list[i]? =aa (.list ah z))(r:VR G.D V (.obj i) v):∃b q n,v=.ref b/\aM G.D V z q/\s.heap.get? b=aa (listOf (q:List Value).toArray n):=by
 obtain⟨b,U,q,n,m,g,A,B,e,rfl,f,F,N,p,D⟩:=a.tQ u r
 exact⟨b,q,n,e,f,(N _ (bV _ (.head _))).1⟩
noncomputable abbrev xU (G:Gx) (Y:SS) (v:List SV) (D:List (Tm×SV)):Prop:=∀c V s q,At G c V Y s->aM G.D V v q->∃z,gM G.D V D z/\gS s.heap z q
noncomputable abbrev HP (G:Gx) (Y:SS) (x:SV) (p:Tm×SV):Prop:=∀c V s v,At G c V Y s->VR G.D V x v->∃q,TE G.D V p q/\HH s.heap q v
noncomputable def Wg (o:SO):Option {z:SV×SV//o=.list ah [z.1,z.2]}:=match o with
 |.list p v=>match p with
  |ah=>match v with
   |[a,b]=>aa ⟨(a,b),rfl⟩
   |_=>ah
  |some _=>ah
 |_=>ah
theorem Wh{o:SO}{z:SV×SV}{k:Tm}(p:x=.obj i)(m:Y.objs.list[i]? =aa o)(u:o=.list ah [z.1,z.2])(U:IsT z.1 k):HP G Y x (k,z.2):=λc V s v a r=>by
 subst p
 obtain⟨b,q,n,e,f,g⟩:=a.gy (u▸m) r
 cases f using Each.ec with
 |cons M f=>cases f using Each.ec with
  |@cons w _ O f=>cases f with
   |nil=>
    obtain⟨t,rfl⟩:=U M
    exact⟨(ak (k.ev G.D.η),w),⟨rfl,O⟩,b,t,n,e,g⟩
noncomputable def au {H v:Type} (o:Option H) (f:H->Option v):Option v:=@aY H (λz=>Option v) ah f o
noncomputable def Wi (G:Gx) (Y:SS) (x:SV):Option {p:Tm×SV//HP G Y x p}:=au (iB x) λi=>au (fT Y.objs i.1) λo=>au (Wg o.1) λz=>au (fC z.1.1) λk=>aa ⟨(k.1,z.1.2),Wh i.2 o.2 z.2 k.2⟩
noncomputable def HQ (G:Gx) (Y:SS):∀v,Option {D:List (Tm×SV)//xU G Y v D}:=@bE SV (λv=>Option {D:List (Tm×SV)//xU G Y v D}) (aa ⟨[],λc V s z a r=>by cases r;exact⟨[],.nil,.nil⟩⟩)
 λx v g=>au (Wi G Y x) λp=>au g λD=>aa ⟨p.1::D.1,λc V s z a r=>by
  cases r using Each.ec with
  |cons r m=>
   obtain⟨q,M,u⟩:=p.2 c V s _ a r
   obtain⟨k,O,U⟩:=D.2 c V s _ a m
   exact⟨q::k,.cons M O,.cons u U⟩⟩
theorem Wj{K:SV->SS->Tr}{O:List SV}{D:List (Tm×SV)}(ho:Y.objs.list[i]? =aa (.list ah O))(hp:xU G Y O D)(hz:aD D.length 1000=ai)(h:(qT D [] Y.fa λU H=>K (.obj Y.objs.length) ⟨Y.loc,OL.a Y.objs (.bz U),H⟩).h):bB G (.type "dict") [.obj i] Y (hh K):=.one λc V s v a r=>by
 obtain⟨U,H,ok,hk,P⟩:=HO (W:=G.D) h a.fa
 obtain⟨b,q,n,rfl,f,g⟩:=a.gy ho r
 obtain⟨B,M,h2⟩:=hp c V s q a f
 obtain⟨m,⟨ls,ad,C,l2,g0,gr,F,N⟩,hl⟩:=(a.fact ok).R
 refine wpAny_with_toks (n:=1) a.tp.1 (wpAny_mono (Q:=λv u=>1<=u.toks->PE G c V (hh K) v u) (V6 a.ok.hh g h2 (by rw[<-M.len];exact aB hz) λh' tk hD L k=>?_) (λA A z=>z) λe u (z:False)=>z.elim)
 obtain⟨ob,hob,hd⟩:=qp.mp hD
 refine At.made (a.fact ok) (s':={s with heap:=h',toks:=tk}) ad C l2 gr hl (F.after L) (λp hp=>?_) (λp hp=>dN (N p hp).1) (x:=.bz U) (oK.mk ob _ rfl hd (gM.mono (dB _ _) (P V [] .nil .nil B M))) ⟨k,a.tp.2,a.tp.3⟩ (pr _) hk
 rcases b7.mp hp with rfl|hp
 ·exact⟨hob,Fe F.ns.lt,by
   cases e:g0.get? s.heap.objs.size with
   |none=>rfl
   |some o=>exact absurd (dN (F.keep _ _ e)) (Ae _)⟩
 ·exact⟨L _ _ (N p hp).1,(N p hp).2⟩
theorem Wk{K:SV->SS->Tr}{U:List SV}{k C:List (Tm×SV)}(ho:Y.objs.list[i]? =aa (.bz k))(hj:Y.objs.list[j]? =aa (.list ah U))(hp:xU G Y U C)(hz:aD (k.length+C.length) 1000=ai)(h:(qT C k Y.fa λk fa=>K .none ⟨Y.loc,OL.s Y.objs i (.bz k),fa⟩).h):bB G (.builtin "dict.update") [.obj i,.obj j] Y (hh K):=.two<|.mk λc V s v u a r q=>by
 obtain⟨m,fa,ok,hk,P⟩:=HO (W:=G.D) h a.fa
 obtain⟨b,vs,n,rfl,f,g⟩:=a.gy hj q
 obtain⟨qs,h1,h2⟩:=hp c V s vs a f
 obtain⟨d,O,rfl,f2,hD,D⟩:=(a.fact ok).Bh (R:=λV=>gM G.D V k) ho (λp p p=>rfl) r
 have A:(O.map (·.1)).Nodup:=let⟨_,_,_,_,_,_,_,_,h⟩:=hD;h
 obtain⟨od,_,_,u1,e1,_⟩:=id hD
 have M:∀q,(∃U n,s.heap.get? q=aa (listOf U n))->q≠d:=λq ⟨U,n,e⟩ z=>by
  subst z
  rw[u1] at e
  obtain rfl:=ju e
  exact absurd (show Value.type "list"=.type "dict" from e1.1) (by decide)
 refine wpAny_with_toks (n:=1) a.tp.1 (wpAny_mono (Q:=λv H=>1<=H.toks->PE G c V (hh K) v H) (V7 a.ok.hh (M b ⟨_,_,g⟩).symm g hD h2 (λq hq=>M q (gS.get h2 hq)) (by rw[<-h1.len,<-f2.len];exact aq (aB hz) (by decide)) λh' tk y1 L B=>?_) (λp p z=>z) λe H (z:False)=>z.elim)
 exact⟨V,⟨Y.loc,OL.s Y.objs i (.bz m),fa⟩,.none,pr _,⟨D (.bz m) (λV=>gM G.D V m) _ h' (λp p p=>rfl) (P V O f2 A qs h1) y1 L,⟨B,a.tp.2,a.tp.3⟩,ok⟩,rfl,hk⟩
inductive xV (Y:SS) (i:Nat) (fs:List (Tm×SV)):Prop
 |own (h:Y.objs.list[i]? =aa (.bz fs))
 |lent (h:Y.objs.list[i]? =aa (.eu fs))
theorem At.td(a:At G c V Y s){u:List (Tm×SV)}{v:Value}(h:xV Y i u)(r:VR G.D V (.obj i) v):Gs G.D V s.heap u v:=by
 cases h with
 |own h=>exact a.bz h r
 |lent h=>
  obtain⟨b,m,rfl,_,⟨A,B,l,g,O,U,F,N,_,_⟩⟩:=a.eZ h r
  obtain⟨o,z,rfl,k,q,f⟩:=O
  exact⟨b,z,rfl,f,qp.mpr ⟨o,a.heap (p:=(b,o)) (a.rx _ k),q⟩⟩
noncomputable def Wl (o:SO):Option {v:List (Tm×SV)//∀(Y:SS) (i:Nat),Y.objs.list[i]? =aa o->xV Y i v}:=match o with
 |.bz v=>aa ⟨v,λz z h=>.own h⟩
 |.eu v=>aa ⟨v,λz z h=>.lent h⟩
 |_=>ah
theorem Wm{K:SV->SS->Tr}{k:Tm}{p:List (Tm×SV)}(O:xV Y i p)(M:IsT y k)(h:(xS k p Y.fa λx m=>K x ⟨Y.loc,Y.objs,m⟩).h):aG G getItem (.obj i) y Y (hh K):=.mk λc V s v u a r q=>by
 obtain⟨x,m,ok,g,P⟩:=We (W:=G.D) h a.fa
 obtain⟨t,rfl⟩:=M q
 obtain⟨b,z,rfl,f,L⟩:=a.td O r
 obtain⟨w,e,U⟩:=P V z f
 exact wpAny_getItem_of (knd:=wz G.D.prog G.D.w) (k:=ak (k.ev G.D.η)) (xu _ t) L.mapOf e ((a.fact ok).t1.give (V:=VR G.D) (x:=x) (pr _) U g)
theorem Wn{K:SV->SS->Prop}{p z:Expr}{O:List (Tm×SV)}(k:dK z)(g:xV Y i O)(h:aG G getItem (.obj i) y Y K):aG G (subscriptTail p z) (.obj i) y Y K:=.mk λc V s v u a r q=>by
 obtain⟨b,m,rfl,f,U⟩:=a.td g r
 exact tail_any U.typeIs slot_dict_getitem.lookup (h c V s (.ref b,u) a ⟨r,q⟩) (k.sub _ _)
noncomputable def HR:∀v:List SV,Option {L:List Tm//∀{W:Wd} {V:List Addr} {q:List Value},aM W V v q->StrsAre q (L.map λt=>ak (t.ev W.η))}:=@bE SV (λv=>Option {L:List Tm//∀{W:Wd} {V:List Addr} {q:List Value},aM W V v q->StrsAre q (L.map λt=>ak (t.ev W.η))}) (aa ⟨[],λr=>by cases r;exact .nil⟩)
 λx v p=>au (fC x) λt=>au p λL=>aa ⟨t.1::L.1,λr=>by
  cases r using Each.ec with
  |cons r z=>obtain⟨u,rfl⟩:=t.2 r;exact .cons _ _ (L.2 z)⟩
theorem Wo{K:SV->SS->Tr}{k:Tm}{O:List SV}{L:List Tm}(D:IsT x k)(H:Y.objs.list[j]? =aa (.list ah O))(M:∀{W:Wd} {V:List Addr} {m:List Value},aM W V O m->StrsAre m (L.map λt=>ak (t.ev W.η)))
 (h:(xT k (λp=>K (.bool aj) ⟨Y.loc,Y.objs,p⟩) (λp=>K (.bool ai) ⟨Y.loc,Y.objs,p⟩) L Y.fa).h):aG G (compareOp .NotIn) x (.obj j) Y (hh K):=.mk λc V s v u a r q=>by
 obtain⟨p,ok,U⟩:=Wf (W:=G.D) h a.fa
 obtain⟨t,rfl⟩:=D r
 obtain⟨b,m,n,rfl,f,g⟩:=a.gy H q
 refine notin_list_strs ⟨_,g,rfl,n,rfl⟩ (M f) ?_
 generalize(L.map λt=>ak (t.ev G.D.η)).any (· ==ak (k.ev G.D.η))=z at U
 cases z with
 |false=>exact(a.fact ok).give (V:=VR G.D) (x:=.bool ai) (pr _) rfl U
 |true=>exact(a.fact ok).give (V:=VR G.D) (x:=.bool aj) (pr _) rfl U
end
noncomputable def jF (o:SO):Bool:=match o with
 |.eu _=>ai
 |_=>aj
noncomputable def mE:OL->List Nat->Bool:=OL.rec (λl y=>List.all l λo=>!jF o) (λl x p y=>@az (λz=>Bool) (p y) (@az (λz=>Bool) aj (p y) (aL l.length y)) (jF x)) λl i x p y=>@az (λz=>Bool) (p (i::y)) (@az (λz=>Bool) aj (p y) (aL i y)) (jF x)
theorem qU{x:Nat}{l:List Nat}(h:aL x l=ai):x∈l:=by
 induction l with
 |nil=>cases h
 |cons k l p=>
  rw[kW,lW] at h
  exact h.elim (λh=>bJ h▸.head _) λh=>.tail _ (p h)
theorem Wq:∀{t:OL} {y:List Nat},mE t y=ai->∀k o,k∉y->t.list[k]? =aa o->jF o=false:=@λt=>by
 induction t with
 |b l=>
  intro y h k o _ e
  have:=bZ.mp h o (lV e)
  simpa using this
 |a l x p=>
  intro y h k o O e
  have g:@az (λL=>Bool) (mE l y) (@az (λL=>Bool) aj (mE l y) (aL l.length y)) (jF x)=true:=h
  have v:(l.list++[x])[k]? =aa o:=(iy l.list x)▸e
  have D:mE l y=true:=by
   cases q:jF x with
   |false=>rw[q] at g;exact g
   |true=>rw[q] at g;exact(iR (a:=aL l.length y) g).2
  rw[List.getElem?_append] at v
  by_cases z:k<l.list.length
  ·rw[if_pos z] at v;exact p D k o O v
  ·rw[if_neg z] at v
   cases q:jF x with
   |false=>
    obtain⟨H,M⟩:=dh.mp v
    obtain rfl:x=o:=by simpa using M
    exact q
   |true=>
    rw[q] at g
    have H:=qU (iR (a:=aL l.length y) g).1
    have M:=(dh.mp v).1
    have:k=l.length:=by rw[l.len_eq];simp at M;exact Om.Nf z M
    exact absurd (this▸H) O
 |s l i x p=>
  intro y h k o O e
  have g:@az (λL=>Bool) (mE l (i::y)) (@az (λL=>Bool) aj (mE l y) (aL i y)) (jF x)=true:=h
  have v:(aX l.list i x)[k]? =aa o:=e
  rw[oM] at v
  by_cases z:k=i
  ·rw[if_pos z] at v
   split at v
   ·cases v
    cases q:jF x with
    |false=>rfl
    |true=>rw[q] at g;exact absurd (z▸qU (iR (a:=aL i y) g).1) O
   ·cases v
  ·rw[if_neg z] at v
   cases q:jF x with
   |false=>rw[q] at g;exact p g k o (λm=>(b7.mp m).elim z O) v
   |true=>rw[q] at g;exact p (iR (a:=aL i y) g).2 k o O v
theorem OR.jA{W:Wd}{X H:List (Addr×Obj)}{U:List Addr}{a:Addr}{o:SO}{l:List (Addr×Obj)}(h:jF o=aj)(r:OR W X U a o l):OR W H U a o l:=by
 cases o with
 |eu=>cases h
 |_=>exact r
theorem LR.jA{W:Wd}{X H:List (Addr×Obj)}{U:List Addr}{os:List SO}{z:List Cl}(h:∀(k:Nat) o,os[k]? =aa o->jF o=aj)(r:LR W X U os z):LR W H U os z:=by
 induction r with
 |nil=>exact .nil
 |cons a r p=>exact .cons (OR.jA (h 0 _ rfl) a) (p λk o e=>h (k+1) o e)
theorem OR.more{W:Wd}{X X':List (Addr×Obj)}{U:List Addr}{a:Addr}{o:SO}{l:List (Addr×Obj)}(h:∀p∈X,p∈X')(r:OR W X U a o l):OR W X' U a o l:=by
 cases o with
 |eu V=>obtain⟨o,z,e,m,q,f⟩:=r;exact⟨o,z,e,h _ m,q,f⟩
 |_=>exact r
structure BP (o:Obj) (b i n ep:Nat):Prop where
 c:o.cls=.type "dict_keyiterator"
 d:o.data=.fields #[.ref b,.int i 0,.int n 0,.int ep 0]
inductive xW (j:Nat) (W:Wd) (I:Addr) (U:List Addr) (i:Nat) (l rr:List (Addr×Obj)):Prop
 |mk (o Y:Obj) (b:Addr) (es:Array DictEntry) (ep:Nat) (e:l=[(I,o),(b,Y)]) (e':rr=[(b,Y)]) (k:BP o b i es.size ep) (d:Y.data=.dict es ep) (q:U[j]? =aa b)
noncomputable def HS (o:SO):Option {V:List (Tm×SV)//o=.eu V}:=match o with
 |.eu V=>aa ⟨V,rfl⟩
 |_=>ah
noncomputable def HT (j:Nat) (u:SS) (i:Nat):Option (Option SV):=au (OL.get u.objs j) λo=>au (HS o) λV=>aa ((at? V.1 i).map λp=>.tm p.1)
noncomputable def HU (j:Nat) (u:SS):Option SS:=au (OL.get u.objs j) λo=>au (HS o) λV=>au (aV (mE (OL.s u.objs j (.bz V.1)) [])) λz=>aa ⟨u.loc,OL.s u.objs j (.bz V.1),u.fa⟩
section
variable{G:Gx}{c:Cx}{U:List Addr}{u:SS}{s:Shared}{i j:Nat}{b:Addr}{Y:Obj}{V:List (Tm×SV)}
theorem uh{H z:Type}{o:Option H}{f:H->Option z}{x:z}(h:au o f=aa x):∃a,o=aa a/\f a=aa x:=by
 cases o with
 |none=>cases h
 |some a=>exact⟨a,rfl,h⟩
theorem Wr{r:Option SV}(h:HT j u i=aa r):∃V,u.objs.list[j]? =aa (.eu V)/\r=(V[i]?).map λp=>.tm p.1:=by
 obtain⟨o,x,h⟩:=uh h
 obtain⟨⟨V,e⟩,z,h⟩:=uh h
 cases h
 exact⟨V,(OL.get_eq _ _).symm.trans (e▸x),by rw[qA]⟩
theorem HV{z:SS}(h:HU j u=aa z):∃V,u.objs.list[j]? =aa (.eu V)/\mE (OL.s u.objs j (.bz V)) []=ai/\z=⟨u.loc,OL.s u.objs j (.bz V),u.fa⟩:=by
 obtain⟨o,x,h⟩:=uh h
 obtain⟨⟨V,e⟩,v,h⟩:=uh h
 obtain⟨⟨O⟩,y,h⟩:=uh h
 cases h
 exact⟨V,(OL.get_eq _ _).symm.trans (e▸x),O,rfl⟩
theorem qV{A B:List Cl}{b:Addr}{l:List (Addr×Obj)}:flat (A++(b,l)::B)=flat A++(l++flat B):=by simp[flat]
theorem At.lend(a:At G c U u s)(D:u.objs.list[j]? =aa (.bz V))(L:U[j]? =aa b):∃Y x,s.heap.get? b=aa Y/\qD G.D Y x/\(b==sysModules)=aj/\At G (c.plus [(b,Y)] [(b,Y)]) U ⟨u.loc,OL.s u.objs j (.eu V),u.fa⟩ s:=by
 obtain⟨b',x,e,f,hD⟩:=a.bz D ⟨b,L,rfl⟩
 cases e
 obtain⟨Y,O,hd⟩:=qp.mp hD
 obtain⟨⟨m,⟨ls,ad,l1,l2,g,gr,F,N⟩,hl⟩,tp,fa⟩:=a.toRepS
 obtain⟨A,y,B,C,rfl,r,st⟩:=Each.at (Each.mono (λo q r=>OR.more (X':=[(b,Y)]++c.R) (λp v=>bV _ v) r) l1) D
 have ey:y.1=b:=by
  rw[<-ad,dH,dY (by simp[C])] at L
  simpa[C] using L
 obtain⟨z,y2⟩:=y
 obtain rfl:z=b:=ey
 obtain⟨k,M,e,q,f'⟩:=r
 obtain rfl:y2=[(z,k)]:=e
 rw[qV,bY] at l2 N
 have hN:=N (z,k) (bV _ (.head _))
 obtain rfl:k=Y:=ju (hN.1.symm.trans O)
 have H:(flat A++([]++flat B)++([(z,k)]++c.X)).Perm (flat A++([(z,k)]++flat B++c.X)):=by
  rw[ow,bY,bY]
  exact z3 _ jO
 refine⟨k,x,O,hd,HE gr hN.2.2,⟨⟨m,⟨A++(z,[])::B,by rw[<-ad];simp,st (.eu V) (z,[]) (Gk.mk k M rfl (.head _) q f'),?_,g,gr,F,?_⟩,hl⟩,tp,fa⟩,a.cs,⟨a.ok.XB,a.ok.TB,a.ok.hA,a.ok.hk,a.ok.hh,a.ok.hd,a.ok.hu⟩,a.tk,λp v=>?_,a.cv,a.hf⟩
 ·rw[qV];exact(H.map aS).nodup_iff.mpr l2
 ·rw[qV];exactλp v=>N p (H.subset v)
 ·exact(jP.mp v).elim (wg _) λh=>bV _ (a.rx p h)
theorem RepS.give{D:Wd}(a:RepS D (c.plus [(b,Y)] [(b,Y)]) U u s)(ho:u.objs.list[j]? =aa (.eu V))(H:U[j]? =aa b)(hn:mE (OL.s u.objs j (.bz V)) []=ai)(hR:∀p∈c.R,p∈c.X):RepS D c U ⟨u.loc,OL.s u.objs j (.bz V),u.fa⟩ s:=by
 obtain⟨⟨m,⟨ls,ad,l1,l2,g,gr,F,N⟩,hl⟩,tp,fa⟩:=a
 obtain⟨A,y,B,C,rfl,r,st⟩:=Each.at l1 ho
 have ey:y.1=b:=by
  rw[<-ad,dH,dY (by simp[C])] at H
  simpa[C] using H
 obtain⟨v,y2⟩:=y
 obtain rfl:v=b:=ey
 obtain⟨z,M,e,hm,q,f'⟩:=r
 obtain rfl:y2=[]:=e
 rw[qV] at l2 N
 have L:(flat A++([]++flat B)++([(v,Y)]++c.X)).Perm (flat A++([(v,Y)]++flat B)++c.X):=by
  rw[ow,bY,bY]
  exact z3 _ jO
 have O:s.heap.get? v=aa Y:=(N (v,Y) (bV _ (.head _))).1
 obtain rfl:z=Y:=(b7.mp hm).elim (λe=>congrArg Prod.snd e) λh=>ju ((N (v,z) (bV _ (.tail _ (hR _ h)))).1.symm.trans O)
 refine⟨⟨m,⟨A++(v,[(v,z)])::B,by rw[<-ad];simp,LR.jA (λk o=>Wq hn k o (by simp)) (st (.bz V) (v,[(v,z)]) (oK.mk z M rfl q f')),?_,g,gr,F,?_⟩,hl⟩,tp,fa⟩
 ·rw[qV];exact(L.map aS).nodup_iff.mp l2
 ·rw[qV];exactλp hp=>N p (L.symm.subset hp)
theorem BP.is{o:Obj}{I b i n z:Nat}{h:Heap}(k:BP o b i n z)(g:h.get? I=aa o):h.IsKeyIter I b i n z:=⟨o,g,k.c,k.d⟩
theorem xW.at{I:Addr}{o:Obj}{y:Array DictEntry}{H:Nat}(a:At G (c.plus [(I,o),(b,Y)] [(b,Y)]) U u s)(x:Y.data=.dict y H)(D:U[j]? =aa b)(C:u.objs.list[j]? =aa (.eu V)):∃z,gM G.D U V z/\s.heap.DictAt (strKind G.D.prog G.D.w) b z H/\y.size=z.length:=by
 obtain⟨b',m,e,_,⟨A,B,l,g,O,gr,F,N,_,_⟩⟩:=a.eZ C ⟨b,D,rfl⟩
 cases e
 obtain⟨k,z,rfl,h,q,f⟩:=O
 have L:=a.heap (p:=(b,Y)) (.tail _ (.head _))
 have g2:=a.heap (p:=(b,k)) (a.rx _ h)
 obtain rfl:k=Y:=ju (g2.symm.trans L)
 obtain⟨e1,y1,h1,M,h3,v,h5⟩:=q
 rw[M] at x
 cases x
 exact⟨z,f,⟨k,y,L,h1,M,h3,v,h5⟩,by rw[<-v.length];simp⟩
noncomputable def BQ (j:Nat):Src where
 it:=HT j
 bk:=HU j
 ob:=xW j
 mono:=λ⟨o,Y,b,x,m,e,z,k,d,q⟩ p=>⟨o,Y,b,x,m,e,z,k,d,iz p q⟩
 next:=λ{G c U u s I i l O r Q E} hR a ⟨o,Y,b,x,m,e,z,k,d,q⟩ hit y=>by
  subst e z
  obtain⟨V,ho,rfl⟩:=Wr hit
  obtain⟨D,f,hD,hz⟩:=xW.at a d q ho
  have hI:=k.is (a.heap (p:=(I,o)) (.head _))
  rw[hz] at hI
  cases e:V[i]? with
  |none=>
   rw[e] at y
   have B:D[i]? =none:=by rw[qi] at e⊢;rw[<-f.len];exact e
   refine wpAny_pyNext_dict_end a.ok.hh hI hD B λh' u1=>y _ λL e=>?_
   obtain⟨i1,h1,h2,rfl⟩:=HV e
   exact RepS.give (a.drop (own:=[(b,Y)]) (rr:=[(b,Y)]) (λb o M e=>u1 b o M e) (aH _)) h1 q h2 hR
  |some p=>
   rw[e] at y
   obtain⟨⟨n,w⟩,B,⟨e1,e2⟩⟩:=Each.get f e
   refine wpAny_pyNext_dict_item hI hD B λC h' H g A=>?_
   obtain⟨o',y1,c',d'⟩:=id g
   obtain⟨t,rfl⟩:∃t,C=.str n t:=Value.isStrOf_shape H
   obtain rfl:n=ak (p.1.ev G.D.η):=e1
   exact y _ [(I,o'),(b,Y)] _ (a.turn (own:=[(b,Y)]) (λp hp=>(b7.mp hp).elim (λe=>e▸.head _) λh=>.tail _ (hR p h)) y1 (λb o M e=>A.extBut b o M e) (aH _)) ⟨t,rfl⟩ ⟨o',Y,b,x,m,rfl,rfl,⟨c',by rw[hz];exact d'⟩,d,q⟩
 go:=λ{G c U u s I i l O v o1 Q E} a ⟨o,Y,b,x,m,e,z,k,d,q⟩ y=>by
  subst e z
  exact letGo (a.heap (p:=(I,o)) (.head _)) k.c (by decide) y
 self:=λ{G c U u s I i l O Q E} a ⟨o,Y,b,x,m,e,z,k,d,q⟩ y=>by
  subst e z
  exact wpAny_pyIter_keyiter (k.is (a.heap (p:=(I,o)) (.head _))) y
 back:=λ{G c U u s I i l O L} hR a ⟨o,Y,b,x,m,e,z,k,d,q⟩ M=>by
  subst e z
  obtain⟨i1,h1,h2,rfl⟩:=HV M
  exact RepS.give (At.same (own:=[(b,Y)]) (rr:=[(b,Y)]) a) h1 q h2 hR
inductive Ws (R:Src->SS->Prop) (x:SV) (u:SS):Prop
 |l (i:Nat) (p:Option eW) (xs:List SV) (e:x=.obj i) (ho:u.objs.list[i]? =aa (.list p xs)) (k:R (xK i) u)
 |d (i:Nat) (V:List (Tm×SV)) (e:x=.obj i) (ho:u.objs.list[i]? =aa (.bz V)) (k:R (BQ i) ⟨u.loc,OL.s u.objs i (.eu V),u.fa⟩)
theorem HW{e:Expr}{R:Src->SS->Prop}(h:aA G e u (Ws R)):jb G e u R:=λc U s a=>
 aC.go (w:=()) h a (pr _) trivial λz m x v D p qq y r k=>by
  cases k with
  |l i q xs e L k=>
   subst e
   obtain⟨b,us,vs,e,_,_,hl⟩:=y.list L r
   subst e
   obtain⟨b',g,e⟩:=r
   cases e
   exact wpAny_pyIter_list hl ⟨_,[(_,_)],[],xK i,z,m,rfl,p,y.owned _ rfl,⟨_,b,rfl,rfl,⟨rfl,rfl⟩,g⟩,k⟩
  |d i V e L k=>
   subst e
   obtain⟨b,g,rfl⟩:=r
   obtain⟨Y,e1,O,hd,hm,M⟩:=y.lend L g
   have H:=hd
   obtain⟨A,ep,h1,B,h3,C,h5⟩:=H
   exact wpAny_pyIter_dict (knd:=strKind G.D.prog G.D.w) hm ⟨Y,A,O,h1,B,h3,C,h5⟩ ⟨_,[(_,_),(b,Y)],[(b,Y)],BQ i,z,_,rfl,p,M.owned _ rfl,xW.mk _ Y b A ep rfl rfl ⟨rfl,by rw[<-C.length];simp⟩ B g,k⟩
end
theorem Wt(A:Around)(z:Args):(A.under (.builtin "type.__call__" z)).frames=A.frames:=by
 show pushEnvs (qv "type.__call__" z).envs A.frames=_
 have:(qv "type.__call__" z).envs=[]:=by rfl
 rw[this]
 cases A.frames<;>rfl
theorem Wu(A:Around)(z:Args):(A.under (.builtin "type.__call__" z)).units<=A.units+2:=
 fy (aB (show aD (qv "type.__call__" z).cUnits 2=ai by kernel_rfl)) _
theorem Wv(A:Around)(z:Args):(A.under (.builtin "type.__call__" z)).depth<=A.depth+1:=by
 refine fy (?_:(qv "type.__call__" z).weight<=1) _
 have x:(qv "type.__call__" z).frames=0:=by kernel_rfl
 have y:(qv "type.__call__" z).isGuard=false:=by kernel_rfl
 have O:(qv "type.__call__" z).isCaller=false:=by kernel_rfl
 unfold Code.weight
 rw[x,y,O]
 cases(qv "type.__call__" z).isCreation with
 |false=>exact bP _
 |true=>exact aH _
noncomputable def Gx.un (G:Gx) (n:Nat):Gx:=⟨G.D,G.T,n,G.cs,λz z z=>False,G.cons,[],[],G.cv,aj⟩
theorem bw.un{G:Gx}(h:bw G)(n:Nat):bw (G.un n):=⟨h.con,h.bl,λx y=>Om.nm y,λx y=>Om.nm y,λz z z h=>h⟩
section
variable{G:Gx}{u:SS}{K:SV->SS->Prop}{j:Pos}{i:Nat}
theorem Ww{C fI:Addr}{Y:CI}{n:Nat}{xs:List SV}(hn:G.n=n+1)(hm:aL C G.T.jV=ai)(p1:aU C G.T.cls=aa Y)(hf:lk (af "__init__") Y.gO=aa fI)
 (h:av (G.un n) (.ref fI) (.obj u.objs.length::xs) ⟨u.loc,OL.a u.objs (.inst C []),u.fa⟩ λy V=>y=.none/\K (.obj u.objs.length) V):av G (.ref C) xs u K:=by
 intro c ρ s vs a r
 obtain⟨co,rfl⟩:=a.jC p1
 obtain⟨a1,a2,a3,a4,a5,a6,a7⟩:=co.oQ _ (fz hf)
 obtain⟨m,⟨O,rfl,l1,l2,g0,u1,i1,N⟩,e1⟩:=a.R
 have q:=a.ok
 refine make_K i1 N (u1.X.keeps i1.keep) (a.tk.jV _ hm).1 a1 (by simpa only[isFn,beq_iff_eq] using a2) λx M h' F' N' B y1=>?_
 let c':Cx:={c with A:=c.A.under (.builtin "type.__call__" ⟨.ref Y.C::vs,[]⟩)}
 have o1:Ok G.D c' n:=⟨q.XB,q.TB,λh0=>⟨by show(c.A.under _).frames=_;rw[Wt];exact(q.hA (by rw[hn];exact qu _)).1,(q.hA (by rw[hn];exact qu _)).2⟩,q.hk,q.hh,by
  have h1:=q.hd
  have h2:=Wv c.A ⟨.ref Y.C::vs,[]⟩
  rw[hn] at h1
  show(c.A.under _).depth+n<_
  exact Om.Ng h1 h2,by
  have h1:=q.hu
  have h2:=Wu c.A ⟨.ref Y.C::vs,[]⟩
  rw[hn] at h1
  show(c.A.under _).units+8*n+40<_
  exact Om.Nh h1 h2⟩
 have pm:(flat (O++[(x,[(x,instObj Y.C M),(M,emptyDict)])])++c.X).Perm ((x,instObj Y.C M)::(M,emptyDict)::(flat O++c.X)):=by
  rw[flat,oq,bY]
  exact vY _ _ _
 have U:O.map aS<+:O.map aS++[x]:=dB _ _
 have H:(O.map aS++[x])[u.objs.length]? =aa x:=(let⟨_,l,_⟩:=a.R;l.end x)
 have a':At (G.un n) c' (O.map aS++[x]) ⟨u.loc,OL.a u.objs (.inst Y.C []),u.fa⟩ {s with heap:=h'}:=by
  refine⟨⟨⟨m,⟨O++[(x,[(x,instObj Y.C M),(M,emptyDict)])],dH,(show LR (G.un n).D c'.R _ (snoc u.objs.list (.inst Y.C [])) _ from iy u.objs.list (.inst Y.C [])▸(LR.mono U l1).app (.one (wX.mk M [] _ rfl .nil))),?_,g0,u1,F',λp D=>N' p (pm.subset D)⟩,e1.mono U⟩,a.tp.to (aH _),a.fa⟩,a.cs,o1,a.tk,a.rx,λz hz=>(a.cv z hz).imp λqq h=>⟨h.1,iz U h.2⟩,λh0=>(by cases h0)⟩
  refine(pm.map aS).nodup_iff.mpr (ef.mpr ⟨λhq=>?_,ef.mpr ⟨λhq=>?_,l2⟩⟩)
  ·rw[gq,b7] at hq
   rcases hq with e|hq
   ·exact absurd e (Fe y1)
   ·obtain⟨p,D,e⟩:=fK.mp hq
    exact absurd e (fQ (Nat.lt_trans (B p D) y1))
  ·obtain⟨p,D,e⟩:=fK.mp hq
   exact absurd e (fQ (B p D))
 refine codeAny_mono (h c' _ {s with heap:=h'} (.ref x::vs) a' (.cons ⟨x,H,rfl⟩ (aM.mono U r))) λr' s' z=>?_
 rcases r' with e|(_|_|_|v)
 ·obtain⟨L,V,m',p,f,k⟩:=z
  exact k.elim
 ·exact z.elim
 ·exact z.elim
 ·exact z.elim
 ·obtain⟨L,V,y,p,R,hv,rfl,hk⟩:=z
  obtain rfl:=hv
  exact⟨rfl,L,V,_,U.trans p,⟨let⟨m,l,r⟩:=R.R;⟨m,let⟨O,ad,a,b,g,gr,F,N⟩:=l;⟨O,ad,a,b,g,gr,F,N⟩,r⟩,R.tp,R.fa⟩,VR.mono p (x:=.obj u.objs.length) ⟨x,H,rfl⟩,hk⟩
theorem Wy{n:Str}{g:Pos}{T:String}{arg:Expr}(Y:lk n G.cs.names=some .globalImplicit)(A:lk n G.T.eY=aa (.type T))(B:dR [arg])
 (h:dI G [arg] u λO m=>bB G (.type T) O m K):aA G (.Call (.Name n g) [arg] [] j) u K:=λc ρ s z a z=>
 Call_ (aC.go (w:=()) (show aA G (.Name n g) u λx y=>x=.val (.type T)/\y=u from kY Y A ⟨rfl,rfl⟩) a (pr _) trivial λV y x v L p _ U q ⟨D,C⟩=>by
  subst D C
  obtain rfl:=q
  exact E2 (h.go U p trivial λV y O M L g H U q k=>aC.at (w:=M) k U g q) (B _ (.head _) _ _) rfl)
theorem Wz{nm:Str}{Y:List (Tm×SV)}{y:List Expr}(z:seq nm (af "update")=ai)(g:u.objs.list[i]? =aa (.bz Y))(k:dR y)(h:dI G y u λq m=>bB G (.builtin "dict.update") (.obj i::q) m K):ja G nm y (.obj i) u K:=λc V s v j U a r=>by
 obtain rfl:=b9.mp z
 obtain⟨b,p,rfl,f,x⟩:=a.bz g r
 exact getMethod_builtin x.typeIs PySem.F.plainAttrs_dict PySem.F.slot_dict_update PySem.F.type_dict_update x.mapOf.noDict (mz (xs:=[.obj i]) k a (pr _) (.one r) h)
end
theorem WA{M:Model}{A:Around}{E:Value->Shared->Prop}{s:Shared}{z:Scope}{globals:Addr}{j L:Str}{v:Value}{U:Str}{q:Option Addr}{code:Value}{V:Addr}{Q:Env->Shared->Prop}
 (hk:z.kind=.function) (p:∀k,cellsFrom k z.names []=[(L,k)]) (u:∀h,pushCells h z.names=h.push {cls:=.type "cell",data:=.cell ah}) (hl:z.names.lookup j=some .local)
 (hQ:∀g,g.Ns s.heap.objs.size (λy=>if y=j then aa v else ah)->g.get? (s.heap.objs.size+1)=aa {cls:=.type "cell",data:=.cell ah}->(∀b o,s.heap.get? b=aa o->g.get? b=aa o)->
   Q (newEnv z s.heap.objs.size globals [(L,s.heap.objs.size+1)] U q code ah V) {s with heap:=g,toks:=s.toks+1}):
 wpAny M A (newFunctionEnv z globals [] [(j,v)] U q code ah V) Q E s:=by
 simp only[newFunctionEnv,Option.isSome_none,Me,if_false]
 refine wpAny_bind (wpAny_alloc ?_)
 refine wpAny_bind (wpAny_layCells _ (λC O D=>by cases O==NameKind.cell<;>simp) _ _ _ _ ?_)
 rw[p,u]
 have x:(s.heap.push {cls:=.type "frame",data:=.dict #[]}).objs.size=s.heap.objs.size+1:=Heap.size_push ..
 have H:((s.heap.push {cls:=.type "frame",data:=.dict #[]}).push {cls:=.type "cell",data:=.cell ah}).Ns s.heap.objs.size (λqq=>ah):=
  (Heap.Ns.new s.heap (.type "frame")).keeps λb o e=>lU _ e
 have m:((s.heap.push {cls:=.type "frame",data:=.dict #[]}).push {cls:=.type "cell",data:=.cell ah}).get? (s.heap.objs.size+1)=aa {cls:=.type "cell",data:=.cell ah}:=by
  rw[<-x];exact EZ _ rfl
 rw[Mw]
 refine wpAny_bind (wpAny_bind ?_)
 dsimp only
 rw[x]
 refine wpAny_bind (wpAny_storeName_local (env:=newEnv z s.heap.objs.size globals [(L,s.heap.objs.size+1)] U q code ah V) hl H (λg Y B=>?_) (by rw[show(newEnv z s.heap.objs.size globals [(L,s.heap.objs.size+1)] U q code ah V).scope.kind=.function from hk];rfl))
 refine wpAny_pure (wpAny_pure (wpAny_pure ?_))
 have G:g.Ns s.heap.objs.size (λy=>if y=j then aa v else ah):=Y
 exact hQ g G (B.extBut _ _ (Mi _) m) λb o e=>B.extBut b o (fQ (dN e)) (lU _ (lU _ e))
noncomputable def Gx.mG (G:Gx) (n:Nat) (i:aR) (j:Str) (k:Nat):Gx:=⟨G.D,G.T,n,i.scope,λz z z=>False,G.cons,[],[],[(j,k)],ai⟩
theorem bw.mG{G:Gx}(h:bw G)(n:Nat)(i:aR)(j:Str)(k:Nat):bw (G.mG n i j k):=⟨h.con,h.bl,λx y=>Om.nm y,λx y=>Om.nm y,λz z z h=>h⟩
theorem BS{G:Gx}{U:SS}{K:SV->SS->Prop}{f:Addr}{i:aR}{n:Nat}{x0:SV}{pn n0:Str}(hi:aU f G.T.jz=aa (i,pn,n0))(hn:G.n=n+1)
 (hb:aO (G.mG n i n0 U.objs.length) i.body ⟨[(pn,x0)],OL.a U.objs (.cell ah),U.fa⟩ (oV U.loc K)):av G (.ref f) [x0] U K:=by
 intro c ρ s vs a r
 have F:=a.tk.jz _ (gw hi)
 obtain⟨oc,od,c1,ho⟩:=F.at_
 obtain⟨m,⟨ls,ad,hL,o1,g0,u,O,N⟩,B⟩:=a.R
 have X:=u.X
 have A:=a.ok
 cases r using Each.ec with
 |@cons v0 _ r r'=>cases r' with
  |nil=>
 have hfr:=A.hA (by rw[hn];exact qu _)
 obtain⟨FG,BG,st,lv⟩:=groundX (R:=λqq qq=>True) u.B O N hfr.1 hfr.2 A.hk.kind
 refine codeAny_call_function (by have:=A.hd;exact Om.Fy hn this) ((X.keeps O.keep) _ _ ho) rfl F.co F.gen rfl (codeRec_of (X.keeps O.keep) F.code) ?_
 rw[F.bind v0]
 refine wpAny_pure (WA F.kind F.cells F.push F.loc λY i1 a1 j=>?_)
 refine⟨(u.T.nolimit.keeps O.keep).keeps j,codeAny_func ?_⟩
 let g:=hideAll s.heap ((flat ls++c.X).map (·.1))
 let V:=s.heap.objs.size
 let env:=newEnv i.scope V mainGlobals [(n0,V+1)] (i.qual++".<locals>.") (aa f) i.cdv ah builtinsNs
 let D:Obj:={cls:=.type "cell",data:=.cell ah}
 let c':Cx:=⟨c.A.deeper env,c.A,c.base,g,c.env::c.outer,env,i.scope,V,c.X,c.R⟩
 have e1:Ok G.D c' n:=⟨A.XB,A.TB,λqq=>⟨Around.frames_deeper hfr.1,rfl⟩,⟨F.kind,rfl,rfl,rfl,rfl⟩,A.hh,by
  have:=A.hd
  show c.A.depth+1+n<_
  exact Om.Fz hn this,by
  have:=A.hu
  show c.A.units+3+8*n+40<_
  exact Om.FA hn this⟩
 have l1:Gr G.D c' g:=⟨BG,X.keeps st,u.T.keeps st,Hf u.D hfr.2 FG st,MK⟩
 have Fl:Fr g V Y (λy=>if y=pn then aa v0 else ah):=⟨i1,λb o e=>j b o (of_hideAll _ e),aK (hideAll_size _ _)⟩
 have N':News g V Y (flat ls++c.X):=λp hp=>⟨j _ _ (N p hp).1,fQ (dN (N p hp).1),hideAll_none _ (EY hp)⟩
 have N2:News g V Y ((V+1,D)::(flat ls++c.X)):=λp hp=>by
  rcases b7.mp hp with rfl|hp
  ·exact⟨a1,Mi _,By (by rw[hideAll_size];exact eg _)⟩
  ·exact N' p hp
 have px:ρ<+:ρ++[V+1]:=dB _ _
 have d1:iA G.D (ρ++[V+1]) [(pn,x0)] (λy=>if y=pn then aa v0 else ah):=λx y e=>by
  rw[bW] at e
  by_cases h:x=pn
  ·rw[if_pos h] at e;cases e;exact⟨v0,if_pos h,VR.mono px r⟩
  ·rw[if_neg h] at e;cases e
 have a':At (G.mG n i n0 U.objs.length) c' (ρ++[V+1]) ⟨[(pn,x0)],OL.a U.objs (.cell ah),U.fa⟩ {s with heap:=Y,toks:=s.toks+1}:=⟨⟨⟨_,Led.new (c:=c') (g:=g) ad hL o1 l1 Fl N2 (λp hp=>Nat.lt_succ_of_lt (dN (N p hp).1)) (A3.mk D ah rfl rfl (show tu G.D _ ah ah from rfl)),d1⟩,a.tp.to (eg _),a.fa⟩,rfl,e1,a.tk,a.rx,λx hx=>(by
  obtain rfl:=d8.mp hx
  exact⟨V+1,ES,(let⟨_,l,_⟩:=a.R;l.end _)⟩),λqq=>⟨rfl,λh=>absurd h F.Gn⟩⟩
 refine wpAny_mono (hb c' _ _ () a' trivial) (λfl s' z=>?_) λe s' ⟨_,_,_,_,_,z⟩=>z.elim
 obtain⟨M,H,x,p,⟨⟨m',⟨y1,z1,f1,C,g1,h1,F',x1⟩,_⟩,u1,p1⟩,fr,k⟩:=z
 obtain⟨L,T1,F2,N2,B2⟩:=turn_leave u.B hfr.2 FG st h1.t F' x1
 have R2:RepS G.D c M ⟨U.loc,H.objs,H.fa⟩ s':=⟨⟨m,⟨y1,z1,f1,C,L,⟨B2,A.XB.keeps B2.stays,A.TB.keeps B2.stays,LM u.D T1,u.t.trans T1⟩,F2,N2⟩,B.mono (px.trans p)⟩,u1,p1⟩
 cases x with
 |ret x=>obtain⟨v,rfl,q⟩:=fr;exact⟨M,_,x,px.trans p,R2,q,k⟩
 |next=>obtain rfl:=fr;exact⟨M,_,.none,px.trans p,R2,rfl,k⟩
 |_=>exact k.elim
end Ex
namespace St
open PySem.Builtin PySem.Builtin.Str Ex
noncomputable def clip (n:Nat) (v:Option Int) (d:Int):Int:=match v with
 |none=>d
 |some i=>max 0 (min (if i<0 then i+n else i) n)
theorem HX(l:List Nat):∀(k a:Nat),a+k<=l.length->((oF k).map λi=>a+i).filterMap (λi=>l[i]?)=(l.drop a).take k
 |0,a,_=>by simp
 |k+1,a,h=>by
  rw[List.range_succ_eq_map,gq,LW]
  have p:a<l.length:=by exact Om.wO h
  rw[Ff,ig p,kK p,EX]
  have:=HX l k (a+1) (by exact Om.wQ h)
  rw[<-this,Ag]
  simp only
  congr 2
  apply wh
  intro i _
  show a+(i+1)=a+1+i
  exact Om.FD
set_option tactic.hygienic true in
theorem xX(x:Str)(l u:Option Int):(dc x l u).cps.toList=(x.cps.toList.drop (clip x.length l 0).toNat).take ((clip x.length u x.length).toNat-(clip x.length l 0).toNat):=by
 have v:strSliceIndices l u 1 x.length=(oF ((clip x.length u x.length).toNat-(clip x.length l 0).toNat)).map λi=>(clip x.length l 0).toNat+i:=by
  unfold strSliceIndices sliceRange
  have p:(1:Int)>0:=by exact Om.Ni
  simp only[if_pos p]
  show(oF (if clip x.length l 0<clip x.length u x.length then(clip x.length u x.length-clip x.length l 0+1-1)/1 else 0).toNat).map (λ(k:Nat)=>(clip x.length l 0+1*(k:Int)).toNat)=_
  have z:0<=clip x.length l 0:=by unfold clip;split<;>(first|exact Om.Nj|exact Om.Nk)
  generalize clip x.length l 0=a at*
  generalize clip x.length u x.length=b at*
  have m:(if a<b then(b-a+1-1)/1 else 0).toNat=b.toNat-a.toNat:=by
   split
   ·rw[Int.ediv_one];exact Om.Nl z ‹_›
   ·exact Om.Nm z ‹_›
  rw[m]
  apply wh
  intro i _
  exact Om.Nn z
 have q:(clip x.length l 0).toNat<=x.length:=by unfold clip;split<;>(first|exact Om.Np|exact Om.FF)
 have y:(clip x.length u x.length).toNat<=x.length:=by unfold clip;split<;>(first|exact Om.Nq|exact Om.FF)
 have M:((strSliceIndices l u 1 x.length).filterMap (x.cps[·]?))=(x.cps.toList.drop (clip x.length l 0).toNat).take ((clip x.length u x.length).toNat-(clip x.length l 0).toNat):=by
  rw[v]
  by_cases hh:(clip x.length l 0).toNat<=(clip x.length u x.length).toNat
  ·rw[<-HX x.cps.toList _ _ (by show _<=x.cps.toList.length;rw[LZ];show _<=x.length;exact Om.Nr y hh)]
   simp only[z5]
  ·have:(clip x.length u x.length).toNat-(clip x.length l 0).toNat=0:=by exact Om.Nt hh
   rw[this];simp
 unfold dc
 split
 ·rename_i h
  simp only[cD,beq_iff_eq,v,i8,List.length_range] at h
  have e0:(clip x.length l 0).toNat=0:=by exact Om.Nv q y h
  rw[e0,qt,iL]
  show x.cps.toList.length<=_
  rw[LZ]
  show x.length<=_
  exact Om.Ny h e0
 ·rw[M]
theorem len_list(x:Str):x.length=x.cps.toList.length:=by simp[iQ]
theorem BU(x:Str)(a b:Nat):(dc x (aa (a:Int)) (aa (b:Int))).cps.toList=(x.cps.toList.drop a).take (b-a):=by
 rw[xX]
 unfold clip
 simp only[len_list]
 generalize x.cps.toList=L
 by_cases p:a<=L.length
 ·have z:(max 0 (min (if(a:Int)<0 then(a:Int)+L.length else a) L.length)).toNat=a:=by split<;>(first|exact Om.wR ‹_›|exact Om.wU p)
  rw[z]
  by_cases y:b<=L.length
  ·have M:(max 0 (min (if(b:Int)<0 then(b:Int)+L.length else b) L.length)).toNat=b:=by split<;>(first|exact Om.wR ‹_›|exact Om.wU y)
   rw[M]
  ·have M:(max 0 (min (if(b:Int)<0 then(b:Int)+L.length else b) L.length)).toNat=L.length:=by split<;>(first|exact Om.wV ‹_›|exact Om.Nz p z y)
   rw[M,iL (by rw[iu];exact Om.ND),iL (by rw[iu];exact Om.NF p z y M)]
 ·have z:(max 0 (min (if(a:Int)<0 then(a:Int)+L.length else a) L.length)).toNat=L.length:=by split<;>(first|exact Om.wV ‹_›|exact Om.Ar p)
  rw[z,sN (aH _),sN (by exact Om.As p z)]
  simp
theorem HY(x:Str)(a:Nat):(dc x (aa (a:Int)) ah).cps.toList=x.cps.toList.drop a:=by
 rw[xX]
 unfold clip
 simp only[len_list]
 generalize x.cps.toList=L
 by_cases p:a<=L.length
 ·have z:(max 0 (min (if(a:Int)<0 then(a:Int)+L.length else a) L.length)).toNat=a:=by split<;>(first|exact Om.wR ‹_›|exact Om.wU p)
  rw[z,iL (by rw[iu];exact Om.NG p z)]
 ·have z:(max 0 (min (if(a:Int)<0 then(a:Int)+L.length else a) L.length)).toNat=L.length:=by split<;>(first|exact Om.wV ‹_›|exact Om.Ar p)
  rw[z,sN (aH _),sN (by exact Om.As p z)]
  simp
theorem WB(x:Str)(b:Nat):(dc x ah (aa (b:Int))).cps.toList=x.cps.toList.take b:=by
 rw[xX]
 unfold clip
 simp only[len_list]
 generalize x.cps.toList=L
 rw[Int.toNat_zero,qt,MH]
 by_cases z:b<=L.length
 ·have M:(max 0 (min (if(b:Int)<0 then(b:Int)+L.length else b) L.length)).toNat=b:=by split<;>(first|exact Om.wR ‹_›|exact Om.wU z)
  rw[M]
 ·have M:(max 0 (min (if(b:Int)<0 then(b:Int)+L.length else b) L.length)).toNat=L.length:=by split<;>(first|exact Om.wV ‹_›|exact Om.Ar z)
  rw[M,iL (aH _),iL (by exact Om.As z M)]
theorem HZ(x:Str)(k:Nat)(z:1<=k):(dc x ah (aa (-(k:Int)))).cps.toList=x.cps.toList.take (x.length-k):=by
 rw[xX]
 unfold clip
 simp only[len_list]
 generalize x.cps.toList=L
 rw[Int.toNat_zero,qt,MH]
 congr 1
 rw[if_pos (by exact Om.NH z)]
 exact Om.NJ z
theorem um(x:Str)(i:Nat){c:Nat}(h:x.cps.toList[i]? =aa c):eS x (i:Int)=⟨#[c]⟩:=by
 unfold eS Txt.charAt seqIndex?
 have z:=(dh.mp h).1
 rw[<-len_list] at z
 have y:¬(i:Int)<0:=by exact Om.FH
 simp only[if_neg y]
 rw[if_pos (by simp;omega)]
 simp only[Int.toNat_natCast,Option.bind_some]
 rw[<-z5,h];rfl
end St
namespace Ex
noncomputable def hdS (t:Tm):Option {z:Tm×Tm//∀v,∃c,z.1.ev v=[c]/\t.ev v=c::z.2.ev v}:=match t with
 |.n k _ a b=>match k with
  |5=>match a with
   |.n k l x y=>match k with
    |2=>aa ⟨(.n 2 l x y,b),λu=>⟨_,rfl,rfl⟩⟩
    |_=>ah
   |.e=>ah
  |_=>ah
 |.e=>ah
noncomputable def H6 (t:Tm):{z:Tm//∀k,z.ev k=(t.ev k).drop 1}:=@aY _ (λy=>{z:Tm//∀k,z.ev k=(t.ev k).drop 1}) ⟨tg t,λy=>rfl⟩ (λz=>⟨z.1.2,λk=>by obtain⟨c,_,e⟩:=z.2 k;rw[e];rfl⟩) (hdS t)
noncomputable def H7 (t:Tm) (m:Nat):{z:Tm//∀k,z.ev k=(t.ev k).drop m}:=@eT (λm=>{z:Tm//∀k,z.ev k=(t.ev k).drop m}) ⟨t,λy=>rfl⟩ (λm p=>⟨(H6 p.1).1,λk=>by rw[(H6 p.1).2,p.2,jv]⟩) m
theorem WC(p:Nat->Bool)(l:List Nat):l.dropWhile p=l.drop (l.takeWhile p).length:=by
 induction l with
 |nil=>rfl
 |cons a l z=>
  by_cases h:p a=ai
  ·rw[ahq h,v5 h];exact z
  ·rw[ahr h,LC h];rfl
noncomputable def WD (t p:Tm):Option {z:Tm//∀x,z.ev x=(t.ev x).drop (p.ev x).length}:=au (hdS t) λa=>au (hdS p) λb=>match h:b.1.2 with
 |.n k S r y=>match k,h with
  |6,h=>(aV (dj r a.1.2)).map λq=>⟨Gg S a.1.2,λx=>by
   obtain⟨c,_,e⟩:=a.2 x
   obtain⟨d,_,v⟩:=b.2 x
   rw[e,v,h,kM,List.drop_succ_cons]
   show(a.1.2.ev x).dropWhile (aL · S)=(a.1.2.ev x).drop ((r.ev x).takeWhile (aL · S)).length
   rw[fh q.1]
   exact WC _ _⟩
  |_,_=>ah
 |.e=>ah
theorem gj{a b:Str}(h:a.cps.toList=b.cps.toList):a=b:=by cases a;cases b;congr 1;exact Array.toList_inj.mp h
theorem xY(l:List Nat)(k:Nat):dc (ak l) (aa (k:Int)) ah=ak (l.drop k):=gj (St.HY (ak l) k)
theorem WE(l:List Nat)(k:Nat):dc (ak l) ah (aa (k:Int))=ak (l.take k):=gj (St.WB (ak l) k)
noncomputable def H8 (x:SV):Option {m:Nat//bx x m}:=match bF x with
 |some ⟨.ofNat m,h⟩=>aa ⟨m,h⟩
 |_=>ah
theorem xZ{W:Wd}{a:Tm}(h:aD a.bd 1000000=ai):(ak (a.ev W.η)).length<=sizeLine:=by
 rw[cP,sizeLine_eq]
 exact aq (Tm.oH W.kR a) (aq (aB h) (by decide))
noncomputable def BV (x:SV):Option {a:Tm//IsT x a}:=match x with
 |.tm a=>aa ⟨a,id⟩
 |_=>ah
noncomputable def WG (x:SV) (l u:Option SV):Option {z:SV//Bw x l u z}:=au (BV x) λa=>au (aV (aD a.1.bd 1000000)) λq=>match l,u with
 |some y,ah=>gQ (au (H8 y) λm=>aa ⟨.tm (H7 a.1 m.1).1,λ{W} _ _ _ _ r r1 r2=>by
   obtain⟨t,rfl⟩:=a.2 r
   obtain⟨v,e⟩:=m.2 r1
   exact⟨_,t,aa (m.1:Int),ah,rfl,e▸.int _ _,r2▸.none,xZ q.1,λv=>⟨v,by rw[xY,(H7 a.1 m.1).2]⟩⟩⟩)
  (au (BL y) λm=>au (WD a.1 m.1.2) λz=>(aV (aQ m.1.1 2)).map λp=>⟨.tm z.1,λ{W} _ _ _ _ r r1 r2=>by
    obtain⟨t,rfl⟩:=a.2 r
    obtain⟨v,e⟩:=m.2 r1
    rw[bJ p.1,W.kR.il] at e
    exact⟨_,t,aa ((m.1.2.ev W.η).length:Int),ah,rfl,e▸.int _ _,r2▸.none,xZ q.1,λv=>⟨v,by rw[xY,z.2]⟩⟩⟩)
 |ah,aa y=>au (hdS a.1) λh=>au (H8 y) λm=>(aV (aQ m.1 1)).map λk=>⟨.tm h.1.1,λ{W} _ _ _ _ r r1 r2=>by
   obtain⟨t,rfl⟩:=a.2 r
   obtain⟨v,e⟩:=m.2 r2
   rw[bJ k.1] at e
   obtain⟨c,p,O⟩:=h.2 W.η
   exact⟨_,t,ah,aa ((1:Nat):Int),rfl,r1▸.none,e▸.int _ _,xZ q.1,λv=>⟨v,by rw[WE,O,p];rfl⟩⟩⟩
 |_,_=>ah
end Ex
namespace Ex
section
open PySem.Builtin PySem.Builtin.Str
noncomputable def qW (x y:Str) (i j:Int):Int:=(occurrences x y (fromIndex x.length i) (min (fromIndex x.length j) x.length) (x.length+1)).length
noncomputable def kg (x y:Str) (i j:Int):Int:=match lastOccurrence x y (fromIndex x.length i) (min (fromIndex x.length j) x.length) with
 |some k=>(k:Int)
 |none=>-1
theorem WH(x y:Str)(i j:Int)(t u v w:Tok):Gives («str.count» ⟨[.str x t,.str y u,.int i v,.int j w],[]⟩) (.int (qW x y i j)):=by
 show Gives (retInt (occurrences x y (fromIndex x.length i) (min (fromIndex x.length j) x.length) (x.length+1)).length) _
 exact .of_eq rfl
theorem WI(x y:Str)(i j:Int)(t u v w:Tok):Gives («str.rfind» ⟨[.str x t,.str y u,.int i v,.int j w],[]⟩) (.int (kg x y i j)):=by
 show Gives (match lastOccurrence x y (fromIndex x.length i) (min (fromIndex x.length j) x.length) with|some k=>retInt k|none=>(do rule "str.rfind.not-found";retInt (-1))) _
 unfold kg
 cases lastOccurrence x y (fromIndex x.length i) (min (fromIndex x.length j) x.length) with
 |none=>exact .rule (.of_eq rfl)
 |some k=>exact .of_eq rfl
section
variable{Y:Program}{w:World}{A:Around}{E:Value->Shared->Prop}{s:Shared}{x y z:Str}{t u v V:Tok}{i j:Int}{Q:Value->Shared->Prop}
theorem WJ{s:Shared}{q:Str}{Q:Value->Shared->Prop}(l:List (Str×Tok))(U:(kP q (l.map (·.1))).length<=sizeLine)(h:∀O k,s.toks<=k->Q (.str (kP q (l.map (·.1))) O) {s with toks:=k}):(joinMade q l).post Q s:=by
 match l,U,h with
 |[],U,h=>exact⟨U,h _ _ (eg _)⟩
 |[p],U,h=>exact h p.2 s.toks (aH _)
 |_::_::_,U,h=>exact⟨U,h _ _ (eg _)⟩
theorem join_le{D:Addr}{vs:List Value}{p:List Str}(L:s.heap.IsList D vs.toArray)(H:StrsAre vs p)
 (O:(p.map (·.length)).sum+p.length*x.length<=16777216) (h:∀U k,s.toks<=k->Q (.str (kP x p) U) {s with toks:=k}):wpAny (model Y w) A (call (.builtin "str.join") [.str x t,.ref D]) Q E s:=by
 obtain⟨l,M,rfl⟩:=strsAre_values H
 have q:=joinOk_of O
 unfold JoinOk at q
 rw[Bool.not_eq_true'] at q
 refine call_meets F.slot_str_join (typeIs_str _ _ _) F.entry_str_join (F.args_str_join_2 _ _) (meets_str_join_list x t D l q) ⟨?_,WJ l (joinFit_length q) h⟩
 have e:vs.toArray=(strValues l).toArray:=by rw[<-M]
 exact e▸L
theorem WK(B:u≠0)(C:v≠0)(q:u≠v)(M:(y==z)=aj)(L:x.length+(x.length+1)*z.length<=16777216)
 (h:∀D k,s.toks<=k->Q (.str (gu x y z) D) {s with toks:=k}):wpAny (model Y w) A (call (.builtin "str.replace") [.str x t,.str y u,.str z v]) Q E s:=by
 have p:=StrLaws.occ_length_le x y 0 x.length (x.length+1)
 have U:(occurrences x y 0 x.length (x.length+1)).length*z.length<=(x.length+1)*z.length:=Nat.mul_le_mul_right _ p
 have O:tooLong (x.length+(occurrences x y 0 x.length (x.length+1)).length*z.length)=false:=by
  unfold tooLong
  have:=sizeLine_eq
  exact decide_eq_false (by exact Om.NL L U this)
 refine call_gives F.slot_str_replace (typeIs_str _ _ _) F.entry_str_replace (F.args_str_replace_3 _ _ _) (gives_str_replace x y z t u v λqq=>⟨by simp[B,C],by simp[q],M,O⟩) (Hw ⟨?_,h⟩)
 show(gu x y z).length<=sizeLine
 by_cases H:((occurrences x y 0 x.length (x.length+1)).isEmpty||(y.length==0&&z.length==0))=ai
 ·unfold gu;rw[if_pos H,sizeLine_eq];exact Om.NO L
 ·unfold gu;rw[if_neg H];exact fits_replaced y L
end
section
variable{G:Gx}{m:SS}{K:SV->SS->Prop}{g:List Expr}{x y z w:SV}{a b:Str}{i j:Int}{nm:Str}
inductive uo:Str->String->Prop
 |count:uo "count" "str.count"
 |rfind:uo "rfind" "str.rfind"
 |startswith:uo "startswith" "str.startswith"
 |join:uo "join" "str.join"
theorem oX{id:String}(M:uo nm id)(O:bT x a)(p:dR g)(h:dI G g m λk q=>bB G (.builtin id) (x::k) q K):ja G nm g x m K:=λc L s v U H at_ r=>by
 obtain⟨t,rfl⟩:=O r
 cases M with
 |count=>exact GM.count (mz (xs:=[x]) p at_ (pr _) (.one r) h)
 |rfind=>exact GM.rfind (mz (xs:=[x]) p at_ (pr _) (.one r) h)
 |startswith=>exact GM.startswith (mz (xs:=[x]) p at_ (pr _) (.one r) h)
 |join=>exact GM.join (mz (xs:=[x]) p at_ (pr _) (.one r) h)
theorem bB.four{f:Value}(h:∀c p s v1 U k v4,At G c p m s->VR G.D p x v1->VR G.D p y U->VR G.D p z k->VR G.D p w v4->wpAny G.D.M c.A (jS f [v1,U,k,v4] []) (PE G c p K) (PX G c p) s):bB G f [x,y,z,w] m K:=λc p s q at_ r=>by
 cases r using Each.ec with
 |cons r1 r=>cases r using Each.ec with
  |cons r2 r=>cases r using Each.ec with
   |cons r3 r=>cases r using Each.ec with
    |cons r4 r=>cases r with
     |nil=>exact h c p s _ _ _ _ at_ r1 r2 r3 r4
theorem WL(U:bT x a)(p:bT y b)(O:bx z i)(q:bx w j)(k:K (.si (qW a b i j)) m):bB G (.builtin "str.count") [x,y,z,w] m K:=.four λc M s v1 H L v4 at_ r1 r2 r3 r4=>by
 obtain⟨_,rfl⟩:=U r1
 obtain⟨_,rfl⟩:=p r2
 obtain⟨_,rfl⟩:=O r3
 obtain⟨_,rfl⟩:=q r4
 exact call_gives F.slot_str_count (typeIs_str _ _ _) F.entry_str_count (F.args_str_count_4 _ _ _ _) (WH _ _ _ _ _ _ _ _) (at_.t1.give (V:=VR G.D) (x:=.si _) (pr _) ⟨_,rfl⟩ k)
theorem WM(U:bT x a)(p:bT y b)(O:bx z i)(q:bx w j)(k:K (.si (kg a b i j)) m):bB G (.builtin "str.rfind") [x,y,z,w] m K:=.four λc M s v1 H L v4 at_ r1 r2 r3 r4=>by
 obtain⟨_,rfl⟩:=U r1
 obtain⟨_,rfl⟩:=p r2
 obtain⟨_,rfl⟩:=O r3
 obtain⟨_,rfl⟩:=q r4
 exact call_gives F.slot_str_rfind (typeIs_str _ _ _) F.entry_str_rfind (F.args_str_rfind_4 _ _ _ _) (WI _ _ _ _ _ _ _ _) (at_.t1.give (V:=VR G.D) (x:=.si _) (pr _) ⟨_,rfl⟩ k)
theorem WN(U:bT x a)(p:bT y b)(k:K (.sb (nA a b)) m):bB G (.builtin "str.startswith") [x,y] m K:=.two<|.mk λc O s v u at_ r q=>by
 obtain⟨_,rfl⟩:=U r
 obtain⟨_,rfl⟩:=p q
 exact SC.startswith (at_.give (V:=VR G.D) (x:=.sb _) (pr _) rfl k)
theorem BW{i:Nat}{xs:List SV}{ys:List Str}(D:bT x a)(L:m.objs.list[i]? =aa (.list ah xs))(h:∀{W:Wd} {O:List Addr} {p:List Value},aM W O xs p->StrsAre p ys)(M:(ys.map (·.length)).sum+ys.length*a.length<=16777216)(k:K (.ss (kP a ys)) m):bB G (.builtin "str.join") [x,.obj i] m K:=.two<|.mk λc O s v u at_ r q=>by
 obtain⟨_,rfl⟩:=D r
 obtain⟨b,U,p,rfl,rfl,f,l⟩:=at_.list L q
 exact join_le (vs:=p) l (h f) M λC B H=>(at_.tok H).give (V:=VR G.D) (x:=.ss _) (pr _) ⟨_,rfl⟩ k
theorem WO{a y z:Str}{k1 k2:Nat}{L M:Pos}(U:seq nm (af "replace")=ai)(D:bT x a)(p:seq y z=aj)(B:a.length+(a.length+1)*z.length<=16777216)(k:K (.ss (gu a y z)) m):
 ja G nm [.Constant (.str y) k1 L,.Constant (.str z) k2 M] x m K:=λc h s v O pl at_ r=>by
 obtain rfl:=b9.mp U
 obtain⟨t,rfl⟩:=D r
 have q:=at_.tp.1
 refine GM.replace (callWith_method1 (first:=[.str a t]) (args_cons (wpAny_Constant_str (args_cons (wpAny_Constant_str (args_nil ?_)) rfl)) rfl) rfl rfl)
 refine WK (by show s.toks≠0;exact Om.NW q) (by show s.toks+1≠0;exact Om.NY q) (by show s.toks≠s.toks+1;exact Om.NZ) (by rw[kQ];exact p) B λt' H C=>?_
 exact(at_.tok (k:=H) (aq (bL _ 2) C)).give (V:=VR G.D) (x:=.ss _) (pr _) ⟨_,rfl⟩ k
theorem H9(h:bT x a)(q:a.length<=sizeLine)(k:K (.si a.length) m):bB G (.builtin "len") [x] m K:=.one λc p s v at_ r=>by
 obtain⟨t,rfl⟩:=h r
 exact PyProof.Rows.len_str (by have:=sizeLine_eq;exact Om.N1 q this) (at_.t2.give (V:=VR G.D) (x:=.si a.length) (pr _) ⟨_,rfl⟩ k)
theorem WQ(h:bT x a)(q:a.length=1)(k:K (.si (a.cps.getD 0 0:Nat)) m):bB G (.builtin "ord") [x] m K:=.one λc p s v at_ r=>by
 obtain⟨t,rfl⟩:=h r
 exact ord_of_one q (at_.t1.give (V:=VR G.D) (x:=.si _) (pr _) ⟨_,rfl⟩ k)
theorem WR(h:bx x i)(p:0<=i)(q:i<=1114111)(k:K (.ss ⟨#[i.toNat]⟩) m):bB G (.builtin "chr") [x] m K:=.one λc U s v at_ r=>by
 obtain⟨t,rfl⟩:=h r
 exact chr_of_range p q (at_.t1.give (V:=VR G.D) (x:=.ss _) (pr _) ⟨_,rfl⟩ k)
theorem Ia(q:Expr)(x:Str)(t:Tok)(r:Value):letTemporaryGo q (.str x t) r=pure ():=by
 unfold letTemporaryGo;cases q<;>rfl
theorem WT{M p:Expr}(h:dK p)(D:bT x a)(H:bx y i)(O:-(a.length:Int)<=i)(U:i<a.length)(k:a.length<=sizeLine)(L:K (.ss (eS a i)) m):aG G (subscriptTail M p) x y m K:=.mk λc C s v u at_ r q=>by
 obtain⟨t,rfl⟩:=D r
 obtain⟨B,rfl⟩:=H q
 refine item_str ?_ O U (λqq=>at_.t1.give (V:=VR G.D) (x:=.ss _) (pr _) ⟨_,rfl⟩ L) (h.sub _ _) (Ia _ _ _)
 unfold fitsSsize
 have:=sizeLine_eq
 rw[decide_eq_false (by exact Om.N4 O k this:¬i< -(2^63:Int)),decide_eq_false (by exact Om.N5 U k this:¬i>=2^63)]
 rfl
theorem WU{l u:Option SV}{p q:Option Int}(O:bT x a)(L:PI l p)(M:PI u q)(U:a.length<=sizeLine):Bw x l u (.ss (dc a p q)):=λr r1 r2=>by
 obtain⟨t,rfl⟩:=O r
 exact⟨a,t,p,q,rfl,L.part r1,M.part r2,U,λk=>⟨k,rfl⟩⟩
end
end
end Ex
namespace Ex
open PySem.Builtin PySem.Builtin.Str PySem.StrLaws
section
variable{x y z:Str}{R:List Nat->List Nat}
theorem drop_cons{l:List Nat}{a:Nat}(h:a<l.length):l.drop a=l[a]::l.drop (a+1):=kK h
theorem Ib(B:1<=y.length)(i:Nat):sY x y x.length i↔(x.cps.toList.drop i).take y.length=y.cps.toList:=by
 unfold sY
 rw[subAt_eq,beq_iff_eq]
 refine⟨λh=>h.2,λh=>⟨?_,h⟩⟩
 have:=congrArg List.length h
 simp[iQ] at this B⊢
 exact Om.Oe B this
theorem gap(B:1<=y.length)(O:∀c r,(c::r).take y.length≠y.cps.toList->R (c::r)=c::R r):∀(n a:Nat),a+n<=x.length->(∀k,a<=k->k<a+n->¬sY x y x.length k)->
 R (x.cps.toList.drop a)=(x.cps.toList.drop a).take n++R (x.cps.toList.drop (a+n))
 |0,a,_,_=>by simp
 |n+1,a,q,Y=>by
  have v:a<x.cps.toList.length:=by simp[iQ] at q⊢;exact Om.wO q
  have p:=Y a (aH _) (by exact Om.Og)
  rw[Ib B,drop_cons v] at p
  rw[drop_cons v,O _ _ p,EX,Mr]
  have:=gap B O n (a+1) (by exact Om.wQ q) λk m u=>Y k (by exact Om.Oh m) (by exact Om.Oi u)
  rw[this]
  have e:a+1+n=a+(n+1):=by exact Om.FJ
  rw[e]
theorem BX(z:Str)(p:Str)(D:List Str)(h:D≠[]):(s6 z (p::D)).cps.toList=p.cps.toList++z.cps.toList++(s6 z D).cps.toList:=by
 cases D with
 |nil=>exact absurd rfl h
 |cons q r=>
  show(p++z++s6 z (q::r)).cps.toList=_
  simp only[Mz,LY]
theorem WV(x:Str)(w a:Nat)(l:List Nat):partsFrom x w a l≠[]:=by cases l<;>exact List.cons_ne_nil _ _
theorem Ic(B:1<=y.length)(q:R []=[])(u:∀l,l.take y.length=y.cps.toList->R l=z.cps.toList++R (l.drop y.length))(O:∀c r,(c::r).take y.length≠y.cps.toList->R (c::r)=c::R r):
 ∀(v:List Nat) (a f:Nat),a<=x.length->ChainG x y x.length a v f->(∀k,f<=k->¬sY x y x.length k)->(s6 z (partsFrom x y.length a v)).cps.toList=R (x.cps.toList.drop a)
 |[],a,f,m,h,Y=>by
  obtain rfl:f=a:=h
  have g:=gap (x:=x) B O (x.length-f) f (by exact Om.Oj m) λk q M=>Y k q
  have e:f+(x.length-f)=x.length:=by exact Om.FL m
  rw[g,e]
  show(strSub x f x.length).cps.toList=_
  rw[strSub_toList]
  have:x.cps.toList.drop x.length=[]:=by simp[iQ]
  rw[this,q,cO]
 |c::r,a,f,m,h,Y=>by
  obtain⟨p,V,L,h⟩:=h
  have j:c+y.length<=x.length:=V.1
  have U:=Ic B q u O r (c+y.length) f j h Y
  show(s6 z (strSub x a c::partsFrom x y.length (c+y.length) r)).cps.toList=_
  rw[BX _ _ _ (WV _ _ _ _),U,strSub_toList]
  have g:=gap (x:=x) B O (c-a) a (by exact Om.Ol B p j) λk q u=>L k q (by exact Om.Oo p u)
  have e:a+(c-a)=c:=by exact Om.FL p
  rw[e] at g
  rw[g,u (x.cps.toList.drop c) ((Ib B c).mp V),jv,bY]
set_option tactic.hygienic true in
theorem Ie(B:1<=y.length)(m:R []=[])(u:∀l,l.take y.length=y.cps.toList->R l=z.cps.toList++R (l.drop y.length))(O:∀c r,(c::r).take y.length≠y.cps.toList->R (c::r)=c::R r):
 (gu x y z).cps.toList=R x.cps.toList:=by
 obtain⟨f,g,Y⟩:=occ_tight x y B
 have v:=Ic (z:=z) B m u O _ 0 f (bP _) g Y
 rw[qt] at v
 have p:(y.length==0)=false:=by
  cases e:y.length==0 with
  |false=>rfl
  |true=>have:=eq_of_beq e;exact Om.Oq B this
 unfold gu
 rw[p,MD,Bool.or_false]
 split
 ·rename_i q
  have:occurrences x y 0 x.length (x.length+1)=[]:=List.isEmpty_iff.mp q
  rw[this] at v
  rw[<-v]
  show _=(strSub x 0 x.length).cps.toList
  rw[strSub_toList,qt,MH,iL (by simp[iQ])]
 ·rw[glued_eq_join,partsBetween_eq];exact v
end
noncomputable def crlf:List Nat->List Nat
 |13::10::r=>10::crlf r
 |c::r=>c::crlf r
 |[]=>[]
noncomputable def bG (l:List Nat):List Nat:=(crlf l).map λc=>if c=13 then 10 else c
theorem Ig(x:Str):(gu x ⟨#[13,10]⟩ ⟨#[10]⟩).cps.toList=crlf x.cps.toList:=by
 refine Ie (by decide) (by simp[crlf]) (λl h=>?_) λc r h=>?_
 ·match l,h with
  |a::b::r,h=>
   have v:a=13/\b=10:=by simpa[iQ] using h
   obtain⟨rfl,rfl⟩:=v
   simp[crlf,iQ]
  |[a],h=>simp[iQ] at h
  |[],h=>simp[iQ] at h
 ·refine crlf.eq_2 c r λr1 u M=>h ?_
  subst u M
  simp[iQ]
theorem WW(x:Str):(gu x ⟨#[13]⟩ ⟨#[10]⟩).cps.toList=x.cps.toList.map λc=>if c=13 then 10 else c:=by
 refine Ie (R:=λl=>l.map λc=>if c=13 then 10 else c) (by decide) rfl (λl h=>?_) λc r h=>?_
 ·match l,h with
  |a::r,h=>
   have v:a=13:=by simpa[iQ] using h
   subst v
   simp[iQ]
  |[],h=>simp[iQ] at h
 ·have v:¬c=13:=λe=>h (by subst e;simp[iQ])
  simp[v]
theorem WX(x:Str):(gu (gu x ⟨#[13,10]⟩ ⟨#[10]⟩) ⟨#[13]⟩ ⟨#[10]⟩).cps.toList=bG x.cps.toList:=by
 rw[WW,Ig];rfl
end Ex
namespace Ex
noncomputable def goes:Nat×Nat->List Nat->Nat×Nat
 |p,[]=>p
 |p,c::r=>if c=10 then goes (p.1+1,0) r else goes (p.1,p.2+1) r
noncomputable def f9:Option Nat->List Nat
 |none=>[]
 |some c=>[c]
structure dM (d:Option (List Nat)) (r:List Nat) (un:Option (List Nat)) (ch tx:Str) (off pl pc place en:Nat) (bf:Option Nat):Prop where
 hoff:off<=ch.length
 hr:r=ch.cps.toList.drop off++bG (f9 bf++tx.cps.toList.drop place)
 hd:∀g,d=aa g->∃D,g=D++ch.cps.toList.take off/\goes (0,0) D=(pl,pc)
 hp:place=0\/tx.length<=place
 hz:tx.length<=10000
 hch:ch.length<=20000
 hen:en+(tx.length-place)+(f9 bf).length<=10000
 jc:bf=ah\/bf=aa 13
 hun:∀l,un=aa l->∃c a,l=[c]/\ch.cps.toList.take off=a++[c]
 hno:∀c∈tx.cps.toList,c<55296\/57343<c
noncomputable def nK:Option Nat->SV
 |none=>.none
 |some c=>.ss ⟨#[c]⟩
noncomputable def bq (u q:Str) (v p j g D:Nat) (m:Option Nat):List SO:=
 [.inst 166 [(af "reportCharacterErrors",.obj 1),(af "newLines",.obj 2),(af "dataStream",.obj 3),(af "chunk",.ss u),(af "chunkSize",.si u.length),(af "chunkOffset",.si v),(af "errors",.obj 4),(af "prevNumLines",.si p),(af "prevNumCols",.si j),(af "_bufferedCharacter",nK m)],
  .aI 148 (.obj 0),.list ah [.si 0],.inst 73 [(af "text",.ss q),(af "place",.si g)],.list (aa (.gv D)) []]
noncomputable def x6 (q:Str) (u v:Int):Int:=u+qW q (af "\n") 0 v
noncomputable def x8 (u:Str) (j v:Int):Int:=if kg u (af "\n") 0 v=-1 then j+v else v-(kg u (af "\n") 0 v+1)
end Ex
namespace St
open PySem.Builtin PySem.Builtin.Str PySem.StrLaws Ex
theorem uq:∀(a b:List Nat) (p:Nat×Nat),goes p (a++b)=goes (goes p a) b
 |[],b,p=>rfl
 |x::a,b,p=>by
  rw[Mr,goes.eq_2,goes.eq_2]
  split
  ·exact uq a b _
  ·exact uq a b _
set_option tactic.hygienic true in
theorem BY:∀(a:List Nat) (p:Nat×Nat),(goes p a).1=p.1+a.count 10
 |[],p=>rfl
 |x::a,p=>by
  unfold goes
  split
  ·rename_i h;subst h
   rw[BY a,List.count_cons_self];omega
  ·rename_i h
   rw[BY a,ahJ (λe=>h e)]
theorem BZ:∀(a:List Nat) (p:Nat×Nat),10∉a->(goes p a).2=p.2+a.length
 |[],p,_=>rfl
 |x::a,p,h=>by
  unfold goes
  rw[if_neg (λe=>h (by rw[e];exact .head _)),BZ a _ (λm=>h (.tail _ m))]
  simp only[kM];exact Om.FJ
theorem ur{x:Str}{c V k:Nat}(hh:V<=x.length):sY x ⟨#[c]⟩ V k↔(x.cps.toList.take V)[k]? =aa c:=by
 have e:=subAt_one x c k
 unfold sY
 constructor
 ·intro h
  have v:k+1<=V:=h.1
  have:=e.mp ⟨by show k+1<=_;exact Om.Ot hh v,h.2⟩
  rw[zZ (by exact Om.Ou v)];exact this
 ·intro h
  have v:k<V:=by
   have:=(dh.mp h).1
   rw[nq] at this;exact Om.Ov this
  rw[zZ v] at h
  exact⟨v,(e.mpr h).2⟩
set_option tactic.hygienic true in
theorem B0{x:Str}{c V limit:Nat}(hh:V<=x.length):∀(m v:Nat) (st:Array Nat×Nat),st.snd<=v->st.fst.size+m<=limit->
 (forIn (Fi v m) st (occBody x ⟨#[c]⟩ V limit)).run.fst.size=st.fst.size+(((x.cps.toList.take V).drop v).take m).count c
 |0,v,st,_,_=>by simp
 |m+1,v,st,B,p=>by
  rw[List.range'_succ,Mw]
  unfold occBody
  have U:((x.cps.toList.take V).drop v).take (m+1)=(match(x.cps.toList.take V)[v]? with|some y=>[y]|none=>[])++((x.cps.toList.take V).drop (v+1)).take m:=by
   cases q:(x.cps.toList.take V)[v]? with
   |some y=>
    obtain⟨O,u⟩:=dh.mp q
    rw[kK O,EX,u];rfl
   |none=>
    have:=qi.mp q
    rw[sN this,sN (by exact Om.FN this)];simp
  rw[U,List.count_append]
  split
  ·rename_i g
   have k:=(ur (x:=x) (c:=c) hh).mp ⟨g.1.2,g.2⟩
   rw[k]
   have:=B0 (x:=x) (c:=c) (limit:=limit) hh m (v+1) (st.fst.push v,v+(⟨#[c]⟩:Str).length) (aH _) (by rw[My];exact Om.wQ p)
   refine Eq.trans this ?_
   rw[My]
   simp only[List.count_cons_self,List.count_nil]
   exact Om.Ow
  ·rename_i g
   have k:¬(x.cps.toList.take V)[v]? =aa c:=λh=>by
    have j:=(ur (x:=x) (c:=c) hh).mpr h
    exact g ⟨⟨⟨by exact Om.wO p,B⟩,j.1⟩,j.2⟩
   have:=B0 (x:=x) (c:=c) (limit:=limit) hh m (v+1) st (by exact Om.FN B) (by exact Om.Ox p)
   refine Eq.trans this ?_
   cases q:(x.cps.toList.take V)[v]? with
   |none=>simp
   |some y=>
    have Y:y≠c:=λe=>k (by rw[q,e])
    simp[ahJ Y]
theorem x9(n:Nat)(o:Nat):fromIndex n (o:Int)=o:=by
 unfold fromIndex
 rw[if_neg (by exact Om.FH)]
 exact Om.Oz
theorem WY{x:Str}{c o:Nat}(v:o<=x.length):qW x ⟨#[c]⟩ 0 o=((x.cps.toList.take o).count c:Nat):=by
 unfold qW
 have e0:fromIndex x.length 0=0:=x9 _ 0
 rw[e0,x9,i0 v,occ_eq,LZ]
 have:=B0 (x:=x) (c:=c) (limit:=x.length+1) v (o+1-0) 0 ((#[]:Array Nat),0) (aH _) (by simp;omega)
 rw[this,qt,iL (by rw[nq];exact Om.OA)]
 simp
theorem WZ{x:Str}{c o:Nat}(p:o<=x.length):(kg x ⟨#[c]⟩ 0 o=-1/\c∉x.cps.toList.take o)\/∃a b,x.cps.toList.take o=a++c::b/\c∉b/\kg x ⟨#[c]⟩ 0 o=(a.length:Nat):=by
 unfold kg
 have e0:fromIndex x.length 0=0:=x9 _ 0
 rw[e0,x9,i0 p,last_eq]
 have v:=last_run x ⟨#[c]⟩ o (Fi 0 (o+1-0)) [] ah (λM h=>nomatch h) (λM h=>nomatch h) (by simpa using List.pairwise_lt_range' (s:=0) (n:=o+1-0))
 have q:∀i,sY x ⟨#[c]⟩ o i->i∈[]++Fi 0 (o+1-0):=λi V=>by have:=V.1;simp[List.mem_range']<;>exact Om.OB this
 cases Y:(forIn (Fi 0 (o+1-0)) ah (lastBody x ⟨#[c]⟩ o)).run with
 |none=>
  rw[Y] at v
  refine .inl ⟨rfl,λk=>?_⟩
  obtain⟨i,V⟩:=EW k
  have m:=(ur (x:=x) p).mpr V
  exact v i (q i m) m
 |some a=>
  rw[Y] at v
  have m:=(ur (x:=x) p).mp v.1
  obtain⟨g,u⟩:=dh.mp m
  refine .inr ⟨(x.cps.toList.take o).take a,(x.cps.toList.take o).drop (a+1),?_,λk=>?_,?_⟩
  ·conv=>lhs;rw[<-iM a (x.cps.toList.take o)]
   rw[kK g,u]
  ·obtain⟨j,U⟩:=EW k
   rw[L5] at U
   have O:=(ur (x:=x) p).mpr U
   exact v.2 _ (q _ O) (by exact Om.OC g) O
  ·rw[nq,i0 (jR g)]
theorem B3:af "\n"=⟨#[10]⟩:=by kernel_rfl
theorem W2{ch:Str}{pl pc o:Nat}(p:o<=ch.length):x6 ch pl o=((goes (pl,pc) (ch.cps.toList.take o)).1:Nat)/\x8 ch pc o=((goes (pl,pc) (ch.cps.toList.take o)).2:Nat):=by
 unfold x6 x8
 rw[B3]
 refine⟨by rw[WY p,BY];simp,?_⟩
 have v:(ch.cps.toList.take o).length=o:=by rw[nq];exact i0 p
 rcases WZ (c:=10) p with⟨q,u⟩|⟨a,b,q,u,O⟩
 ·rw[if_pos q,BZ _ _ u,v];simp
 ·rw[if_neg (by rw[O];exact Om.OD),O,q,uq]
  show _=(((goes (goes (pl,pc) a) (10::b)).2:Nat):Int)
  unfold goes
  rw[if_pos rfl,BZ _ _ u]
  rw[q] at v
  simp only[bK,kM] at v
  simp only
  exact Om.OE v
end St
namespace St
open PySem.Builtin PySem.Builtin.Str Ex
theorem item_last(x:Str){a:List Nat}{c:Nat}(h:x.cps.toList=a++[c]):eS x (-1)=⟨#[c]⟩:=by
 unfold eS Txt.charAt seqIndex?
 have v:x.length=a.length+1:=by rw[len_list,h];simp
 simp only[show(-1:Int)<0 by exact Om.OF,if_true]
 rw[if_pos (by simp;exact Om.OG v)]
 have e:(-1+(x.length:Int)).toNat=a.length:=by exact Om.OH v
 simp only[Option.bind_some,e]
 rw[<-z5,h]
 simp
set_option tactic.hygienic true in
theorem ya:∀l:List Nat,(crlf l).length<=l.length
 |[]=>aH _
 |[c]=>by unfold crlf;split<;>simp_all [crlf]
 |a::b::r=>by
  unfold crlf
  split
  ·rename_i h
   have:=ya r
   cases h
   simp only[kM];exact Om.OI this
  ·rename_i c v _ h
   have:=ya (b::r)
   cases h
   simp only[kM] at this⊢;exact Om.OJ this
  ·simp
theorem B4:∀l:List Nat,crlf (l++[13])=crlf l++[13]
 |[]=>rfl
 |[c]=>by
  show crlf [c,13]=_
  have e:crlf [c]=[c]:=crlf.eq_2 c [] (λr v u=>by cases u)
  rw[e]
  exact crlf.eq_2 c [13] (λr v u=>by cases u)
 |a::b::r=>by
  by_cases h:a=13/\b=10
  ·obtain⟨rfl,rfl⟩:=h
   show crlf (13::10::(r++[13]))=crlf (13::10::r)++[13]
   rw[crlf.eq_1,crlf.eq_1,B4 r];rfl
  ·have p:crlf (a::b::r)=a::crlf (b::r):=crlf.eq_2 a (b::r) λq v u=>h ⟨v,by cases u;rfl⟩
   have M:crlf (a::(b::r++[13]))=a::crlf (b::r++[13]):=crlf.eq_2 a _ λq v u=>h ⟨v,by cases u;rfl⟩
   show crlf (a::(b::r++[13]))=_
   rw[p,M,B4 (b::r)];rfl
theorem W3(l:List Nat):bG (l++[13])=bG l++[10]:=by
 unfold bG
 rw[B4,dH];rfl
theorem uu(l:List Nat):(bG l).length<=l.length:=by
 unfold bG
 rw[i8];exact ya l
theorem W4:bG []=[]:=rfl
set_option tactic.hygienic true in
theorem Ih{l:List Nat}(h:l≠[]):bG l≠[]:=by
 cases l with
 |nil=>exact absurd rfl h
 |cons a r=>
  unfold bG
  intro e
  rw[List.map_eq_nil_iff] at e
  unfold crlf at e
  split at e
  ·cases e
  ·cases e
  ·rename_i h;cases h
theorem Ii:af "\x0d\n"=⟨#[13,10]⟩:=by kernel_rfl
theorem W5:af "\x0d"=⟨#[13]⟩:=by kernel_rfl
theorem Ij(x:Str):(gu (gu x (af "\x0d\n") (af "\n")) (af "\x0d") (af "\n")).cps.toList=bG x.cps.toList:=by
 rw[Ii,W5,B3];exact WX x
theorem B5(x:Str):(gu x (af "\x0d\n") (af "\n")).length<=x.length:=by
 rw[Ii,B3,len_list,Ig,len_list];exact ya _
end St
namespace Ex
structure nM (ch tx:Str) (pl pc place en:Nat) (bf:Option Nat) (b:Bool) (ch':Str) (pl' pc' place' en':Nat) (bf':Option Nat):Prop where
 pos:goes (pl,pc) ch.cps.toList=(pl',pc')
 no:b=aj->ch'=⟨#[]⟩
 yes:b=ai->ch'.cps.toList≠[]
 all:bG (f9 bf++tx.cps.toList.drop place)=ch'.cps.toList++bG (f9 bf'++tx.cps.toList.drop place')
 fin:b=aj->bG (f9 bf'++tx.cps.toList.drop place')=[]
 hp:place'=0\/tx.length<=place'
 hch:ch'.length<=20000
 hen:en'+(tx.length-place')+(f9 bf').length<=10000
 jc:bf'=ah\/bf'=aa 13
structure oY (tx:Str) (place en:Nat) (bf:Option Nat):Prop where
 hp:place=0\/tx.length<=place
 hz:tx.length<=10000
 hen:en+(tx.length-place)+(f9 bf).length<=10000
 jc:bf=ah\/bf=aa 13
 hno:∀c∈tx.cps.toList,c<55296\/57343<c
end Ex
namespace Ex
noncomputable def cU (n:Str):List (Str×Str)->Bool:=bE aj λp z v=>@az (λz=>Bool) v ai (seq n p.1)
noncomputable def kh (n:Str):List (Str×Str)->Str:=bE ⟨#[]⟩ λp z v=>@az (λz=>Str) v p.2 (seq n p.1)
noncomputable abbrev yb (D:List (Str×Str)):List (Str×KTD.Dat):=D.map λp=>(p.1,Ah (.str p.2))
theorem Ik(n:Str)(p:Str×Str)(r:List (Str×Str)):cU n (p::r)=(seq n p.1||cU n r):=by
 show@az (λz=>Bool) (cU n r) ai (seq n p.1)=_
 cases seq n p.1<;>rfl
theorem Il(n:Str)(D:List (Str×Str)):KTD.inKeys n (yb D)=cU n D:=by
 induction D with
 |nil=>rfl
 |cons p r z=>
  show(decide (n=p.1)||KTD.inKeys n (yb r))=_
  rw[Ik,z]
  congr 1
  cases h:seq n p.1 with
  |true=>exact decide_eq_true (b9.mp h)
  |false=>exact decide_eq_false λe=>by rw[b9.mpr e] at h;cases h
theorem W6{h:Heap}{n:Str}{P:Value->Prop}(D:List (Str×Str))(q:∀t,P (.str (kh n D) t)):KTD.EachL h n P (yb D):=by
 induction D with
 |nil=>trivial
 |cons p r u=>
  have v:∀t,P (.str (@az (λz=>Str) (kh n r) p.2 (seq n p.1)) t):=q
  by_cases e:n=p.1
  ·refine KTD.eachL_hit e λt=>?_
   have:=v t
   rw[b9.mpr e] at this
   exact this
  ·refine KTD.eachL_miss e (u λt=>?_)
   have:=v t
   rw[tn e] at this
   exact this
theorem nN{q:List Value}{ss:List Str}(h:StrsAre q ss):q.length=ss.length:=by
 induction h with
 |nil=>rfl
 |cons _ _ _ p=>rw[kM,kM,p]
theorem W7{q:List Value}{ss:List Str}(h:StrsAre q ss){i:Nat}(V:i<ss.length):∃t,q[i]? =aa (.str (ss.getD i ⟨#[]⟩) t):=by
 induction h generalizing i with
 |nil=>exact absurd V (Ab _)
 |cons _ _ _ p=>cases i with
  |zero=>exact⟨_,rfl⟩
  |succ i=>exact p (LH V)
section
variable{G:Gx}{Y:SS}{K:SV->SS->Prop}{x y:SV}{t:Addr}
theorem At.here{c:Cx}{z:List Addr}{s:Shared}(a:At G c z Y s){D:List (Str×Str)}(v:aU t G.T.oN=aa D):∃L,KTD.Here L s.heap t (yb D):=by
 obtain⟨o,q,u⟩:=a.tk.xf _ (gw v)
 obtain⟨_,⟨_,_,_,_,g,p,F,_⟩,_⟩:=a.R
 exact⟨g,u _ (p.X _ _ q),F.keep⟩
theorem W8{D:List (Str×Str)}{n:Str}(p:aU t G.T.oN=aa D)(z:bT x n)(k:K (.sb (cU n D)) Y):aG G (compareOp .In) x (.val (.ref t)) Y K:=.mk λc m s v u a r q=>by
 obtain rfl:=q
 obtain⟨tk,rfl⟩:=z r
 obtain⟨_,hh⟩:=a.here p
 exact KTD.in_text hh (a.t1.give (V:=VR G.D) (x:=.sb _) (pr _) (by rw[Il];rfl) k)
theorem W9{D:List (Str×Str)}{n:Str}{g m:Expr}(h:dK m)(M:aU t G.T.oN=aa D)(O:∀{p:List Addr} {v:Value},VR G.D p y v->∃t,v=.str n t)(L:cU n D=ai){z:SV}(U:∀p t,VR G.D p z (.str (kh n D) t))(k:K z Y):aG G (subscriptTail g m) (.val (.ref t)) y Y K:=.mk λc p s v u a r q=>by
 obtain rfl:=r
 obtain⟨tk,rfl⟩:=O q
 obtain⟨_,hh⟩:=a.here M
 refine KTD.item_textA hh ?_ (by rw[Il];exact L) (W6 D λt=>a.t1.give (V:=VR G.D) (x:=z) (pr _) (U _ _) k) (h.sub _ _)
 rw[List.all_map]
 exact bZ.mpr λj j=>rfl
theorem Xa{C dx:Addr}{fs:List (Str×SV)}{j:CI}{nm:Str}(V:aU t G.T.nF=aa (C,dx,fs))(M:aU C G.T.cls=aa j)(B:has nm j.kU=ai)(O:lk nm fs=aa x)(U:tD x=ai)(k:K x Y):jB G (getAttr · nm ai) (.val (.ref t)) Y K:=λc h s v a r=>by
 obtain rfl:=r
 obtain⟨m,⟨ls,ad,l1,l2,g,p,F,N⟩,q⟩:=a.R
 obtain⟨H,es,k',L,fr⟩:=a.tk.sin _ (gw V)
 obtain⟨z,rfl⟩:=a.jC M
 obtain⟨u,D,A⟩:=fr.Be O
 have st:∀a o,G.D.K.lookup a=aa o->s.heap.get? a=aa o:=λa o e=>F.keep _ _ (p.X a o e)
 exact get_own F p.X ⟨st _ _ H,rfl,rfl,st _ _ L⟩ z.plain z.dict (z.fld nm (oJ.mp B)).1 rfl D (A.handed U) (a.t1.give (pr _) (A.mono List.nil_prefix) k)
theorem At.lst{c:Cx}{z:List Addr}{s:Shared}(a:At G c z Y s){ss:List Str}(v:aU t G.T.nG=aa ss):∃q,s.heap.IsList t (q:List Value).toArray/\StrsAre q ss:=by
 obtain⟨q,n,p,u⟩:=a.tk.lst _ (gw v)
 exact⟨q,⟨_,a.X _ _ p,rfl,n,rfl⟩,u⟩
theorem Xb{ss:List Str}(p:aU t G.T.nG=aa ss)(z:aD ss.length 1000=ai)(k:K (.int ss.length) Y):bB G (.builtin "len") [.val (.ref t)] Y K:=.one λc j s v a r=>by
 obtain rfl:=r
 obtain⟨q,m,u⟩:=a.lst p
 have z:=aB z
 have e:q.toArray.size=ss.length:=by rw[qo];exact nN u
 exact call_len_list m (by rw[e];exact Om.N6 z e) (a.t2.give (V:=VR G.D) (x:=.int ss.length) (pr _) ⟨s.toks+1,by rw[e]⟩ k)
theorem Im{ss:List Str}{j:Int}{M p:Expr}(h:dK p)(D:aU t G.T.nG=aa ss)(z:aD ss.length 1000=ai)(L:bx y j)(U:0<=j)(g:j<ss.length)(k:K (.ss (ss.getD j.toNat ⟨#[]⟩)) Y):aG G (subscriptTail M p) (.val (.ref t)) y Y K:=.mk λc B s v u a r q=>by
 obtain rfl:=r
 obtain⟨tk,rfl⟩:=L q
 obtain⟨A,m,C⟩:=a.lst D
 have z:=aB z
 obtain⟨O,H⟩:=W7 (i:=j.toNat) C (by exact Om.N7 U g z)
 refine tail_any m.typeIs slot_list_getitem.lookup (wpAny_getItem_list m U (by exact Om.N8 g z) (by rw[oh];exact H) (a.give (V:=VR G.D) (x:=.ss _) (pr _) ⟨_,rfl⟩ k)) (h.sub _ _)
end
theorem Xc(U:List Value)(v:Value):kl_last (U++[v])=aa (U,v):=by
 induction U with
 |nil=>rfl
 |cons x U p=>
  show kl_last (x::(U++[v]))=_
  unfold kl_last
  rw[p]
theorem Each.last{H k:Type}{R:H->k->Prop}{m:List H}{z:H}{q:List k}(h:Each R (m++[z]) q):∃U v,q=U++[v]/\Each R m U/\R z v:=by
 induction m generalizing q with
 |nil=>cases h using Each.ec with|cons h t=>cases t;exact⟨[],_,rfl,.nil,h⟩
 |cons x m p=>cases h using Each.ec with
  |cons h t=>
   obtain⟨U,v,rfl,j,u⟩:=p t
   exact⟨_::U,v,rfl,.cons h j,u⟩
noncomputable def Xd (v:List SV):Option {z:List SV×SV//v=z.1++[z.2]}:=@bE SV (λv=>Option {z:List SV×SV//v=z.1++[z.2]}) ah (λx v p=>match v,p with
 |[],_=>aa ⟨([],x),rfl⟩
 |y::r,aa z=>aa ⟨(x::z.1.1,z.1.2),congrArg (x::·) z.2⟩
 |y::r,ah=>ah) v
section
variable{G:Gx}{Y:SS}{K:SV->SS->Prop}{i:Nat}
theorem Xe{nm:Str}{u:List SV}{z:SV}(M:seq nm (af "pop")=ai)(H:Y.objs.list[i]? =aa (.list ah (u++[z])))(hz:aD u.length 1000=ai)(k:K z ⟨Y.loc,OL.s Y.objs i (.list ah u),Y.fa⟩):ja G nm [] (.obj i) Y K:=λc L s v e1 pl a r=>by
 obtain rfl:=b9.mp M
 have V:bB G (.builtin "list.pop") [.obj i] Y K:=.one λc L s v a r=>by
  obtain⟨b,U,vs,n,m,g,A,B,rfl,hp,f,F,N,nd,D⟩:=a.tQ H r
  obtain rfl:U=[]:=hp
  obtain⟨j,w,rfl,C,f2⟩:=f.last
  have hU:=qE (o':=listOf (j:List Value).toArray (n+1)) nd
  refine kl_pop (p:=j) (y:=w) F N (Xc _ _) hU (by
   have:=aB hz
   show(j++[w]).length<=_
   rw[bK,<-C.len,sizeLine_eq]
   show u.length+1<=_
   exact Om.N9 this) λh' F' N'=>⟨L,⟨Y.loc,OL.s Y.objs i (.list ah u),Y.fa⟩,z,pr _,⟨D ah u [] j (n+1) h' rfl C F' N',a.tp.to (aH _),a.fa⟩,f2,k⟩
 obtain⟨b,m,rfl,_,⟨A,B,l,g,O,gr,F,N,_,_⟩⟩:=a.eZ H r
 obtain⟨U,vs,n,rfl,q,f⟩:=O
 exact kl_method N (bV _ (.head _)) PySem.F.slot_list_pop PySem.F.type_list_pop (mz (xs:=[.obj i]) (λqq h=>by cases h) a (pr _) (.one r) (kZ V))
end
theorem Io(j:List Str):kP ⟨#[]⟩ j=⟨(j.flatMap λy=>y.cps.toList).toArray⟩:=by
 refine gj ?_
 show _=(j.flatMap λy=>y.cps.toList)
 induction j with
 |nil=>rfl
 |cons y r p=>cases r with
  |nil=>
   show(wk ⟨#[]⟩ [y]).cps.toList=_
   rw[v9]
   simp[s6]
  |cons z r=>
   have e:(kP ⟨#[]⟩ (y::z::r))=wk ⟨#[]⟩ (y::z::r):=rfl
   have v:(kP ⟨#[]⟩ (z::r))=wk ⟨#[]⟩ (z::r):=rfl
   rw[e,v9,BX _ _ _ (by simp),<-v9,<-v,p]
   simp
noncomputable def uv (L:List Tm):Tm:=match L with
 |[]=>lit []
 |t::r=>r.foldl cat t
theorem Xf(k:Ev):∀(r:List Tm) (t:Tm),(r.foldl cat t).ev k=t.ev k++r.flatMap (·.ev k):=λr=>by
 induction r with
 |nil=>exactλt=>(cO _).symm
 |cons a r p=>
  intro t
  rw[E8,p,E5]
  exact bY _ _ _
theorem Xg(k:Ev)(L:List Tm):(uv L).ev k=L.flatMap (·.ev k):=by
 cases L with
 |nil=>rfl
 |cons t r=>rw[E5];exact Xf k r t
noncomputable def B6 (L:List Tm):Nat:=bE 0 (λt z p=>t.bd+p) L
theorem Xh(W:Wd)(L:List Tm):((L.map λt=>ak (t.ev W.η)).map (·.length)).sum<=B6 L:=by
 induction L with
 |nil=>exact aH _
 |cons t r p=>
  rw[gq,gq,List.sum_cons,cP]
  exact fZ (Tm.oH W.kR t) p
section
variable{G:Gx}{Y:SS}{K:SV->SS->Prop}{x y:SV}
theorem Xi{i:Nat}{m:List SV}{L:List Tm}(D:bT x ⟨#[]⟩)(M:Y.objs.list[i]? =aa (.list ah m))(h:∀{W:Wd} {p:List Addr} {z:List Value},aM W p m z->StrsAre z (L.map λt=>ak (t.ev W.η)))(O:aD (B6 L) 1000000=ai)(k:K (.tm (uv L)) Y):bB G (.builtin "str.join") [x,.obj i] Y K:=.two<|.mk λc p s v u at_ r q=>by
 obtain⟨_,rfl⟩:=D r
 obtain⟨b,U,z,rfl,rfl,f,l⟩:=at_.list M q
 refine join_le (vs:=z) l (h f) (aq (fZ (Xh G.D L) (aK (Nat.mul_zero _))) (aq (aB O) (by decide))) λj g H=>(at_.tok H).give (V:=VR G.D) (x:=.tm (uv L)) (pr _) ⟨j,?_⟩ k
 rw[Io,Xg]
 congr 2
 rw[List.flatMap_map]
 rfl
theorem Xj{t a h:Tm}{g m:Expr}(D:dK m)(L:IsT x t)(O:bx y (-1))(H:t=cat a h)(ok:aT G.D.η Y.fa->(h.ev G.D.η).length=1)(U:aD t.bd 1000000=ai)(k:K (.tm h) Y):aG G (subscriptTail g m) x y Y K:=.mk λc C s v u at_ r q=>by
 obtain⟨tk,rfl⟩:=L r
 obtain⟨A,rfl⟩:=O q
 have hl:=xZ (W:=G.D) U
 have p:=ok at_.fa
 have e:t.ev G.D.η=a.ev G.D.η++h.ev G.D.η:=by rw[H];rfl
 have j:1<=(ak (t.ev G.D.η)).length:=by rw[cP,e,bK,p];exact Om.FI
 obtain⟨w,B⟩:∃w,h.ev G.D.η=[w]:=by
  cases M:h.ev G.D.η with
  |nil=>rw[M] at p;cases p
  |cons w r=>cases r with
   |nil=>exact⟨w,rfl⟩
   |cons=>rw[M] at p;cases p
 refine item_str ?_ (by exact Om.Oa j) (by exact Om.Ob j) (λz=>at_.t1.give (V:=VR G.D) (x:=.tm h) (pr _) ⟨s.toks,?_⟩ k) (D.sub _ _) (Ia _ _ _)
 ·unfold fitsSsize
  rw[decide_eq_false (by exact Om.Oc:¬(-1:Int)< -(2^63:Int)),decide_eq_false (by exact Om.Od:¬(-1:Int)>=2^63)]
  rfl
 ·rw[St.item_last (ak (t.ev G.D.η)) (a:=a.ev G.D.η) (c:=w) (by rw[e,B];rfl),B];rfl
end
noncomputable def jd (K:Fl->SS->Prop) (J:SS->Prop) (z:Fl) (Y:SS):Prop:=match z with
 |.next=>J Y
 |.cont=>J Y
 |.brk=>K .next Y
 |.ret v=>K (.ret v) Y
theorem uw{v z:List Addr}{N:Nat}(u:v.length=N)(p:v<+:z):z.take N=v:=by
 obtain⟨t,rfl⟩:=p
 rw[<-u,oz]
inductive Xk (D:Wd) (k n:Nat) (J:Nat->SS->Prop) (c:Cx) (ρ:List Addr) (s:Shared):Prop
 |mk (n':Nat) (ρ':List Addr) (σ₃:SS) (hn:n'<n) (p:ρ.take k<+:ρ') (R:RepS D c ρ' σ₃ s) (j:J n' σ₃)
noncomputable abbrev B7 (D:Wd) (k n:Nat) (J:Nat->SS->Prop) (z:SS):Prop:=∀c v s,RepS D c v z s->Xk D k n J c v s
inductive Ip (G:Gx) (c:Cx) (ρ:List Addr) (J:Nat->SS->Prop) (n:Nat) (s':Shared):Prop
 |mk (ρ':List Addr) (σ':SS) (p:ρ<+:ρ') (a:At G c ρ' σ' s') (j:J n σ')
theorem aC.run{H U g:Type}{G:Gx}{c:Cx}{m u:List Addr}{Y:SS}{s:Shared}{V:List Addr->H->U->Prop}{R:List Addr->g->Prop}{t:Cx->g->Sem U}{K:H->SS->Prop}{w:g}(h:aC G V R t Y K)(no:∀{m e s},PX G c m e s->False)(a:At G c m Y s)(p:u<+:m)(r:R m w){Q:U->Shared->Prop}{E:Value->Shared->Prop}
 (k:∀q j x v O,u<+:q->At G c q j O->V q x v->K x j->Q v O):wpAny G.D.M c.A (t c w) Q E s:=
 wpAny_mono (h c m s w a r) (λ_ _ ⟨_,_,_,M,R,r,z⟩=>k _ _ _ _ _ (p.trans M) (a.to M R) r z) λL L z=>(no z).elim
theorem Iq{G:Gx}{Y:SS}{K:Fl->SS->Prop}{y1:Expr}{o1:List Stmt}{m1:Pos}(hK:∀e B os,¬G.KX e B os)(J:Nat->SS->Prop)
 (h1:∀n D,J n D->bS G y1 D λx L=>Br x L (λL=>aO G o1 L (jd K (B7 G.D Y.objs.list.length n J))) (K .next)) (n:Nat)
 (h:∀c B s,RepS G.D c B Y s->∃g1 D,B<+:g1/\RepS G.D c g1 D s/\J n D):bc G (.While y1 o1 [] m1) Y K:=λc B s qq a qq=>by
 have no:∀{B e s},PX G c B e s->False:=λ⟨_,_,_,_,_,z⟩=>hK _ _ _ z
 have z1:B.length=Y.objs.list.length:=let⟨_,l,_⟩:=a.R;l.len
 obtain⟨f1,a1,i1,b1,l1⟩:=h c B s a.toRepS
 refine wpAny_While (codeAny_whileLoop (Ip G c B J) (λn s' ⟨g1,D,p,a',hI⟩=>?_) n ⟨f1,a1,i1,a.to i1 b1,l1⟩)
 refine aC.run (w:=()) (h1 n D hI) no a' p trivial λn1 L x b Q1 u1 x1 q k=>?_
 have p1:∀{u:SS} {g:List Addr} {H:Shared},B<+:g->At G c g u H->B7 G.D Y.objs.list.length n J u->∃m,m<n/\Ip G c B J m H:=λ{u g H} C M O=>
  let⟨m,d1,A,hm,U,c1,hi⟩:=O c g H M.toRepS
  have U:=uw z1 C▸U
  ⟨m,hm,d1,A,U,a.to U c1,hi⟩
 cases x1.br k q with
 |f e u e1 j=>
  subst e
  exact wpAny_execs_nil (e1.fD (x:=.next) u1 rfl j)
 |t e u e1 j=>
  subst e
  refine aC.run (w:=()) j no e1 u1 trivial λg A fl f H C M V O=>?_
  cases fl with
  |next=>cases V;exact p1 C M O
  |cont=>cases V;exact p1 C M O
  |brk=>cases V;exact M.fD (x:=.next) C rfl O
  |ret x=>obtain⟨v,rfl,V⟩:=V;exact M.fD (x:=.ret x) C ⟨v,rfl,V⟩ O
theorem jd.mp{K:Fl->SS->Prop}{J q:SS->Prop}(h:∀Y,J Y->q Y){z:Fl}{Y:SS}(k:jd K J z Y):jd K q z Y:=by
 cases z with
 |next=>exact h _ k
 |cont=>exact h _ k
 |brk=>exact k
 |ret v=>exact k
theorem qX{G:Gx}{Y:SS}{K:Fl->SS->Prop}{v:Expr}{u:List Stmt}{U:Pos}(M:∀e k os,¬G.KX e k os)(J:Nat->SS->Prop)
 (D:∀n Y,J n Y->bS G v Y λx m=>Br x m (λm=>aO G u m (jd K λq=>∃g,g<n/\J g q)) (K .next)) (n:Nat) (h:J n Y):bc G (.While v u [] U) Y K:=
 Iq M J (λn V C=>(D n V C).mp λp p z=>z.mp (λp z=>z.mp λp p z=>jd.mp (λ_ ⟨g,O,j⟩ _ k _ R=>⟨g,k,_,O,List.take_prefix _ _,R,j⟩) z) λp z=>z) n λp k p R=>⟨k,Y,pr _,R,h⟩
noncomputable def qY (n:Int) (D:List (Int×Str)):Str:=((D.find? λp=>decide (n=p.1)).map (·.2)).getD ⟨#[]⟩
noncomputable abbrev B8 (D:List (Int×Str)):List (PyData×PyData):=D.map λp=>(qw p.1,sZ p.2)
theorem B9(n:Int):∀D:List (Int×Str),PySem.Spec.lookup (.int n) (B8 D)=(D.find? λp=>decide (n=p.1)).map λp=>sZ p.2:=λD=>by
 induction D with
 |nil=>rfl
 |cons p D v=>
  show(if PySem.Spec.same (qw p.1) (qw n)=ai then aa (sZ p.2) else PySem.Spec.lookup (.int n) (B8 D))=_
  rw[show PySem.Spec.same (qw p.1) (qw n)=(p.1==n) from rfl,v,Ad]
  by_cases h:n=p.1
  ·rw[if_pos (by rw[h];simp),decide_eq_true h];rfl
  ·rw[if_neg (by simpa usingλe=>h e.symm),decide_eq_false h]
theorem Ir(n:Int):∀D:List (Int×Str),gh n (D.map (·.1))=(D.find? λp=>decide (n=p.1)).isSome:=λD=>by
 induction D with
 |nil=>rfl
 |cons p D v=>
  show@az (λu=>Bool) (gh n (D.map (·.1))) ai (decide (n=p.1))=_
  rw[Ad,v]
  cases decide (n=p.1)<;>rfl
section
variable{G:Gx}{z:SS}{K:SV->SS->Prop}{x y:SV}{t:Addr}
theorem At.Iu{c:Cx}{v:List Addr}{s:Shared}(a:At G c v z s){D:List (Int×Str)}(q:aU t G.T.oO=aa D):IntTab G.D.prog G.D.w s.heap t (B8 D):=by
 obtain⟨o,p,u⟩:=a.tk.xe _ (gw q)
 exact u _ (a.X _ _ p)
theorem Xl{D:List (Int×Str)}{n:Int}(m:aU t G.T.oO=aa D)(p:bx x n)(k:K (.sb (gh n (D.map (·.1)))) z):aG G (compareOp .In) x (.val (.ref t)) z K:=.mk λc j s v u a r q=>by
 obtain rfl:=q
 obtain⟨tk,rfl⟩:=p r
 refine in_intTab (a.Iu m) (a.t1.give (V:=VR G.D) (x:=.sb _) (pr _) ?_ k)
 rw[Ir,B9,Option.isSome_map];rfl
theorem Xm{D:List (Int×Str)}{n:Int}{j g:Expr}(h:dK g)(M:∀r,letTemporaryGo j (.ref t) r=pure ())(O:aU t G.T.oO=aa D)(U:bx y n)(Y:gh n (D.map (·.1))=ai)(k:K (.ss (qY n D)) z):aG G (subscriptTail j g) (.val (.ref t)) y z K:=.mk λc L s v u a r q=>by
 obtain rfl:=r
 obtain⟨tk,rfl⟩:=U q
 rw[Ir] at Y
 refine item_intTab_isSome (a.Iu O) (by rw[B9,Option.isSome_map];exact Y) (λv m=>?_) (h.sub _ _) M
 rw[B9] at m
 cases e:D.find? λp=>decide (n=p.1) with
 |none=>rw[e] at Y;cases Y
 |some p=>
  rw[e] at m
  obtain⟨H,rfl⟩:=PyProof.V.Flat.str_inv (x:=p.2) m
  exact a.t1.give (V:=VR G.D) (x:=.ss _) (pr _) ⟨_,by unfold qY;rw[e];rfl⟩ k
end
theorem Xn:∀cs:List Nat,(cs.map λc=>(⟨#[c]⟩:Str)).flatMap (λy=>y.cps.toList)=cs:=λcs=>by
 induction cs with
 |nil=>rfl
 |cons c cs p=>exact congrArg (c::·) p
theorem Xo:∀cs:List Nat,((cs.map λc=>(⟨#[c]⟩:Str)).map (·.length)).sum=cs.length:=λcs=>by
 induction cs with
 |nil=>rfl
 |cons c cs p=>
  show 1+((cs.map λc=>(⟨#[c]⟩:Str)).map (·.length)).sum=cs.length+1
  rw[p,iw]
section
variable{G:Gx}{z:SS}{K:SV->SS->Prop}{x:SV}{i:Nat}
theorem Xp{cs:List Nat}(O:bT x ⟨#[]⟩)(j:z.objs.list[i]? =aa (.list (aa (.dO cs)) []))(p:cs.length<=100000)(k:K (.ss (ak cs)) z):bB G (.builtin "str.join") [x,.obj i] z K:=.two<|.mk λc M s v u at_ r q=>by
 obtain⟨_,rfl⟩:=O r
 obtain⟨b,U,L,rfl,m,f,l⟩:=at_.list j q
 cases f
 rw[cO] at l
 have e:kP ⟨#[]⟩ (cs.map λc=>(⟨#[c]⟩:Str))=ak cs:=by
  rw[Io,Xn];rfl
 refine join_le (vs:=U) l m ?_ λH g Y=>(at_.tok Y).give (V:=VR G.D) (x:=.ss (ak cs)) (pr _) ⟨_,by rw[e]⟩ k
 rw[Xo,show(⟨#[]⟩:Str).length=0 from rfl,Nat.mul_zero]
 exact aq p (by decide)
end
section
variable{G:Gx}{σ:SS}{K:SV->SS->Prop}{x y:SV}{i j:Nat}
theorem Xq{n V:Nat}{Y:List Str}{U:List SV}{z:List Expr}(H:σ.objs.list[i]? =aa (.aJ n V Y U))(L:dR z)(h:dI G z σ λp u=>bB G (.builtin "list.append") (.obj i::p) u K):ja G "append" z (.obj i) σ K:=λc D s v M pl a r=>by
 obtain⟨b,m,rfl,_,⟨A,B,l,g,O,gr,F,N,_,_⟩⟩:=a.eZ H r
 obtain⟨obs,C,k,rfl,q,hn,f⟩:=O
 exact ahp (N _ (bV _ (.head _))).1 rfl rfl (mz (xs:=[.obj i]) L a (pr _) (.one r) h)
theorem Iv{n V:Nat}{Y:List Str}{z:List SV}(ho:σ.objs.list[i]? =aa (.aJ n V Y z))(hz:n+Y.length+z.length<=16777216)(k:K .none ⟨σ.loc,OL.s σ.objs i (.aJ n V Y (z++[y])),σ.fa⟩):bB G (.builtin "list.append") [.obj i,y] σ K:=.two<|.mk λc h s v u a r q=>by
 obtain⟨b,m,rfl,hl,⟨A,B,l,g,O,gr,F,N,H,D⟩⟩:=a.eZ ho r
 obtain⟨obs,U,M,rfl,L,C,f⟩:=O
 have e2:(obs.map (λp=>cy p.1)++(U++[u]):List Value).toArray=(obs.map (λp=>cy p.1)++U:List Value).toArray.push u:=by simp
 have hU:=qE (o':=listOf ((obs.map (λp=>cy p.1)++U:List Value).toArray.push u) (M+1)) H
 refine append_K F N hU (λh' F' N'=>⟨h,⟨σ.loc,OL.s σ.objs i (.aJ n V Y (z++[y])),σ.fa⟩,.none,pr _,⟨⟨m,?_,hl⟩,a.tp.to (aH _),a.fa⟩,rfl,k⟩) ?_
 ·exact D (.aJ n V Y (z++[y])) ((b,listOf ((obs.map (λp=>cy p.1)++U:List Value).toArray.push u) (M+1))::obs) h' m g ⟨obs,U++[u],M+1,by rw[e2],L,C,Each.app f (.one q)⟩ (by simpa using H) gr F' (by simpa using N')
 ·have h1:obs.length=(qB G.D.η V).length+Y.length:=by rw[<-Each.len L,bK]
  rw[qo,bK,i8,h1,<-Each.len f,sizeLine_eq]
  exact aq (ir (ir C _) _) hz
end
theorem Ca{z:List Cl}{i:Nat}{p q:Cl}(h:z[i]? =aa p):(p.2++flat (z.set i q)).Perm (q.2++flat z):=by
 induction z generalizing i with
 |nil=>cases h
 |cons a z v=>
  cases i with
  |zero=>
   cases h
   show(p.2++(q.2++flat z)).Perm (q.2++(p.2++flat z))
   exact vY _ _ _
  |succ i=>
   show(p.2++(a.2++flat (z.set i q))).Perm (q.2++(a.2++flat z))
   exact(vY _ _ _).trans (((v h).append_left _).trans (vY _ _ _))
theorem Cb{z:List Cl}{i:Nat}{p q:Cl}(h:z[i]? =aa p)(e:q.1=p.1):(z.set i q).map aS=z.map aS:=by
 induction z generalizing i with
 |nil=>rfl
 |cons a z v=>
  cases i with
  |zero=>cases h;exact congrArg (· ::_) e
  |succ i=>exact congrArg (a.1::·) (v h)
theorem RepS.fold{D:Wd}{c:Cx}{ρ:List Addr}{σ:SS}{s:Shared}{i j n V:Nat}{Y:List Str}{m:Str}{A:List (Str×SV)}{x7 xd:SV}(hi:σ.objs.list[i]? =aa (.aJ n V Y [.obj j]))(hj:σ.objs.list[j]? =aa (.dict A))
 (h7:lk (af "type") A=aa x7) (i7:bx x7 7) (hd:lk (af "data") A=aa xd) (sd:bT xd m) (R:RepS D c ρ σ s):RepS D c ρ ⟨σ.loc,OL.s (OL.s σ.objs i (.aJ n V (Y++[m]) [])) j .gone,σ.fa⟩ s:=by
 obtain⟨⟨mm,⟨U,rfl,C,l2,g,gr,F,N⟩,hl⟩,tp,fa⟩:=R
 obtain⟨⟨L,li⟩,e1,oi⟩:=Each.get C hi
 obtain⟨⟨yj,lj⟩,O,oj⟩:=Each.get C hj
 obtain⟨obs,vs,k,ei,qf,hn,f⟩:=oi
 obtain rfl:li=(L,listOf (obs.map (λp=>cy p.1)++vs:List Value).toArray k)::obs:=ei
 obtain⟨ob,B,ej,h,kv⟩:=oj
 obtain rfl:lj=[(yj,ob)]:=ej
 have H:i≠j:=λe=>by rw[e,hj] at hi;cases hi
 obtain⟨v7,e7,r7⟩:=eX.get kv h7
 obtain⟨vd,ed,rd⟩:=eX.get kv hd
 obtain⟨t7,rfl⟩:=i7 r7
 obtain⟨td,rfl⟩:=sd rd
 cases f using Each.ec with
 |@cons v _ q f=>
  cases f
  obtain⟨a,ha,rfl⟩:=q
  obtain rfl:a=yj:=by
   rw[sQ,O] at ha
   exact(ju ha).symm
  let u:Cl:=(a,[])
  let M:Cl:=(L,((L,listOf (obs.map (λp=>cy p.1)++[cy a]:List Value).toArray k)::obs)++[(a,ob)])
  have g1:(U.set j u)[i]? =aa (L,(L,listOf (obs.map (λp=>cy p.1)++[cy a]:List Value).toArray k)::obs):=by rw[List.getElem?_set_ne H.symm];exact e1
  have p1:([(a,ob)]++flat (U.set j u)).Perm (flat U):=Ca O
  have p2:(flat ((U.set j u).set i M)).Perm (flat U):=by
   have:=Ca (q:=M) g1
   have h2:(((L,listOf (obs.map (λp=>cy p.1)++[cy a]:List Value).toArray k)::obs)++flat ((U.set j u).set i M)).Perm (((L,listOf (obs.map (λp=>cy p.1)++[cy a]:List Value).toArray k)::obs)++([(a,ob)]++flat (U.set j u))):=by
    rw[<-bY];exact this
   exact((LD _).mp h2).trans p1
  have pX:=p2.append_right c.X
  have z:(U.set j u).set i M=(U.set i M).set j u:=List.set_comm _ _ H.symm
  refine⟨⟨mm,⟨(U.set i M).set j u,?_,?_,?_,g,gr,F,λp hp=>N p (pX.subset (z▸hp))⟩,hl⟩,tp,fa⟩
  ·rw[<-z,Cb (q:=M) g1 rfl,Cb (q:=u) O rfl]
  ·refine Each.set (Each.set C i (x:=.aJ n V (Y++[m]) []) ?_) j (x:=.gone) rfl
   exact⟨obs++[(a,ob)],[],k,by simp[M],by rw[<-bY];exact Each.app qf (.one ⟨B,t7,td,h,e7,ed⟩),hn,.nil⟩
  ·rw[<-z];exact(pX.map aS).nodup_iff.mpr l2
theorem Xr{H:Type}{a b:H}:∀{l:List H} {i:Nat},aX (aX l i a) i b=aX l i b:=@λl=>by
 induction l with
 |nil=>exact rfl
 |cons x l p=>intro i;cases i with
  |zero=>rfl
  |succ i=>exact congrArg (x::·) p
noncomputable def Cc (n:Str) (v:List (Str×SV)):Option {x:SV//lk n v=aa x}:=@aY _ (λo=>lk n v=o->Option {x:SV//lk n v=aa x}) (λz=>ah) (λx h=>aa ⟨x,h⟩) (lk n v) rfl
structure Iw (y:SV) (xs:List SV) (objs:OL) (z:Nat×Str):Prop where
 e:xs=[]
 y:y=.obj z.1
 o:∃kf x7 xd,objs.list[z.1]? =aa (.dict kf)/\lk (af "type") kf=aa x7/\bx x7 7/\lk (af "data") kf=aa xd/\bT xd z.2
section
variable{G:Gx}{σ:SS}{K:SV->SS->Prop}{i n V:Nat}{Y:List Str}
theorem Xs{H:List SV}{y:SV}{z:Nat×Str}(h:Iw y H σ.objs z)(g:σ.objs.list[i]? =aa (.aJ n V Y H))(hz:n+Y.length<=16777216)(k:K .none ⟨σ.loc,OL.s (OL.s σ.objs i (.aJ n V (Y++[z.2]) [])) z.1 .gone,σ.fa⟩):bB G (.builtin "list.append") [.obj i,y] σ K:=λc C s B a r=>by
 obtain⟨rfl,rfl,kf,x7,xd,D,h7,i7,hd,A⟩:=h
 refine wpAny_mono (Iv (K:=λx u=>x=.none/\u=⟨σ.loc,OL.s σ.objs i (.aJ n V Y [.obj z.1]),σ.fa⟩) g hz ⟨rfl,rfl⟩ c C s B a r) (λv s' ⟨U,u,x,p,R,q,hx,hs⟩=>?_) λqq qq z=>z
 subst hx hs
 have L:i≠z.1:=λe=>by rw[e,D] at g;cases g
 have M:i<σ.objs.list.length:=(dh.mp g).1
 have e1:(OL.s σ.objs i (.aJ n V Y [.obj z.1])).list[i]? =aa (.aJ n V Y [.obj z.1]):=by
  show(aX σ.objs.list i _)[i]? =_
  rw[oM,if_pos rfl,if_pos M]
 have e2:(OL.s σ.objs i (.aJ n V Y [.obj z.1])).list[z.1]? =aa (.dict kf):=by
  show(aX σ.objs.list i _)[z.1]? =_
  rw[oM,if_neg L.symm];exact D
 have R2:=RepS.fold (σ:=⟨σ.loc,OL.s σ.objs i (.aJ n V Y [.obj z.1]),σ.fa⟩) e1 e2 h7 i7 hd A R
 have e3:(OL.s (OL.s (OL.s σ.objs i (.aJ n V Y [.obj z.1])) i (.aJ n V (Y++[z.2]) [])) z.1 .gone).list=(OL.s (OL.s σ.objs i (.aJ n V (Y++[z.2]) [])) z.1 .gone).list:=congrArg (λl=>aX l z.1 SO.gone) (Xr (l:=σ.objs.list) (i:=i))
 exact⟨U,⟨σ.loc,OL.s (OL.s σ.objs i (.aJ n V (Y++[z.2]) [])) z.1 .gone,σ.fa⟩,.none,p,⟨let⟨m,l,r⟩:=R2.R;⟨m,by have O:=l;dsimp only at O⊢;rw[e3] at O;exact O,r⟩,R2.tp,R2.fa⟩,q,k⟩
end
theorem Xu{G:Gx}{σ:SS}{K:Fl->SS->Prop}{g:List Stmt}{C:ExceptHandler}{H:List ExceptHandler}{O:Pos}(D:∀e U os,¬G.KX e U os)(h:aO G g σ K):bc G (.Try g (C::H) [] [] O) σ K:=λc U s L a L=>by
 refine wpAny_Try_except (wpAny_mono (h c U s () a trivial) (λB M q=>?_) λe M q=>?_)
 ·obtain⟨m,u,y,p,R,fr,k⟩:=q
  cases y with
  |next=>obtain rfl:=fr;exact wpAny_execs_nil ⟨m,u,.next,p,R,rfl,k⟩
  |brk=>obtain rfl:=fr;exact⟨m,u,.brk,p,R,rfl,k⟩
  |cont=>obtain rfl:=fr;exact⟨m,u,.cont,p,R,rfl,k⟩
  |ret y=>obtain⟨v,rfl,fr⟩:=fr;exact⟨m,u,.ret y,p,R,⟨v,rfl,fr⟩,k⟩
 ·obtain⟨_,_,_,_,_,z⟩:=q
  exact(D _ _ _ z).elim
noncomputable def jG (t a:Str):Bool:=!(Builtin.Str.occurrences t a 0 t.length 1).isEmpty
theorem Iz(t:Str)(c:Nat):jG t ⟨#[c]⟩=decide (c∈t.cps.toList):=PySem.StrLaws.found_one t c
section
variable{G:Gx}{Y:SS}{x y:SV}{i j:Nat}
theorem Xv{n:Str}{p:Pos}{w:Option SV}{K:SS->Prop}(z:lk n G.cs.names=some .cell)(V:lk n G.cv=aa i)(u:Y.objs.list[i]? =aa (.cell w))(k:K ⟨Y.loc,OL.s Y.objs i (.cell (aa y)),Y.fa⟩):fc G (.Name n p) y Y K:=λc q s v a r=>
 assign_Name (G3 a z V u r λg m=>m.tR (pr _) k)
variable{K:SV->SS->Prop}
noncomputable def yc (f n:Str):Option SV:=@az (λz=>Option SV) (@az (λz=>Option SV) ah (aa (.ss f)) (seq n (af "data"))) (aa (.int 7)) (seq n (af "type"))
theorem Xw{D:Wd}{ρ:List Addr}{f n:Str}{z:SV}{p:Addr×Obj}(h:yc f n=aa z)(q:Flt D.prog D.w f p):∃v w,p.2.IsDictOf (strKind D.prog D.w) v/\valueAt v n=aa w/\VR D ρ z w:=by
 obtain⟨v,t,k,m,u,O⟩:=q
 unfold yc at h
 cases e:seq n (af "type") with
 |true=>rw[e] at h;cases h;exact⟨v,_,m,by rw[b9.mp e];exact u,⟨t,rfl⟩⟩
 |false=>
  rw[e] at h
  cases M:seq n (af "data") with
  |true=>rw[M] at h;cases h;exact⟨v,_,m,by rw[b9.mp M];exact O,⟨k,rfl⟩⟩
  |false=>rw[M] at h;cases h
theorem Xx{f n:Str}{z:SV}{D M:Expr}(hs:dK M)(hk:bT y n)(ho:Y.objs.list[i]? =aa (.cz f))(h:yc f n=aa z)(C:K z Y):aG G (subscriptTail D M) (.obj i) y Y K:=.mk λc H s v u a r q=>by
 obtain⟨t,rfl⟩:=hk q
 obtain⟨b,m,rfl,_,⟨A,B,l,g,O,gr,F,N,_,_⟩⟩:=a.eZ ho r
 obtain⟨p,rfl,rfl,hf⟩:=O
 obtain⟨U,w,h1,h2,h3⟩:=Xw (ρ:=H) h hf
 have L:s.heap.DictOf (strKind G.D.prog G.D.w) p.1 U:=qp.mpr ⟨p.2,(N p (bV _ (.head _))).1,h1⟩
 exact tail_any L.typeIs slot_dict_getitem.lookup (wpAny_getItem_of (knd:=wz G.D.prog G.D.w) (k:=n) (xu n t) L.mapOf h2 (a.t1.give (V:=VR G.D) (pr _) h3 C)) (hs.sub _ _)
theorem Xy{a b:Str}(p:bT x a)(q:bT y b)(k:K (.sb (!jG b a)) Y):aG G (compareOp .NotIn) x y Y K:=.mk λc m s v u at_ r w=>by
 obtain⟨t,rfl⟩:=p r
 obtain⟨g,rfl⟩:=q w
 exact PyProof.Rows.notIn_str (at_.truth (z:=.sb _) rfl k)
theorem Xz{a b:Str}(p:bT x a)(q:bT y b)(k:K (.sb (jG b a)) Y):aG G (compareOp .In) x y Y K:=.mk λc m s v u at_ r w=>by
 obtain⟨t,rfl⟩:=p r
 obtain⟨g,rfl⟩:=q w
 exact PyProof.Rows.in_str (at_.truth (z:=.sb _) rfl k)
theorem XA{p:Option eW}{O V:List SV}(ho:Y.objs.list[i]? =aa (.list p O))(L:Y.objs.list[j]? =aa (.list ah V))(hz:∀U,mh p U->U.length+O.length+V.length<=16777216)(k:K (.obj Y.objs.length) ⟨Y.loc,OL.a Y.objs (.list p (O++V)),Y.fa⟩):aG G (binaryOp .Add) (.obj i) (.obj j) Y K:=.mk λc D s v u a r w=>by
 obtain⟨b,U,h,rfl,M,f,hl⟩:=a.list ho r
 obtain⟨b2,e1,A,rfl,rfl,B,H⟩:=a.list L w
 obtain⟨m,⟨ls,ad,l1,l2,g,gr,F,N⟩,z⟩:=a.R
 have C:∀q:Addr,D<+:D++[q]:=λq=>dB _ _
 have hb:=hz U M
 refine add_lists F N hl H (λh' F' N'=>a.made (s':={s with heap:=h'}) ad l1 l2 gr z F' N' (λp M=>dN (N p M).1) (x:=.list p (O++V)) (kT.mk U (h++A) 0 (by simp) M (Each.app (aM.mono (C _) f) (aM.mono (C _) B))) (a.tp.to (aH _)) (pr _) k) ?_
 rw[bK,<-Each.len f,ow,<-Each.len B,sizeLine_eq];exact hb
theorem XC{O V:List Str}(ho:Y.objs.list[i]? =aa (.list (aa (.strs O)) []))(B:Y.objs.list[j]? =aa (.list (aa (.strs V)) []))(hz:O.length+V.length<=16777216)(k:K (.obj Y.objs.length) ⟨Y.loc,OL.a Y.objs (.list (aa (.strs (O++V))) []),Y.fa⟩):aG G (binaryOp .Add) (.obj i) (.obj j) Y K:=.mk λc ρ s v u a r w=>by
 obtain⟨b,U,D,rfl,M,f,hl⟩:=a.list ho r
 obtain⟨b2,L,ws,rfl,z,f2,A⟩:=a.list B w
 cases f
 cases f2
 obtain⟨m,⟨ls,ad,C,l2,g,gr,F,N⟩,H⟩:=a.R
 have M:StrsAre U O:=M
 have z:StrsAre L V:=z
 have ap:∀{U D:List Value} {O V:List Str},StrsAre U O->StrsAre D V->StrsAre (U++D) (O++V):=λh q=>by
  induction h with
  |nil=>exact q
  |cons _ _ _ ih=>exact .cons _ _ ih
 refine add_lists F N hl A (λh' F' N'=>a.made (s':={s with heap:=h'}) ad C l2 gr H F' N' (λp M=>dN (N p M).1) (x:=.list (aa (.strs (O++V))) []) (kT.mk (U++L) [] 0 (by simp) (ap M z) .nil) (a.tp.to (aH _)) (pr _) k) ?_
 rw[cO,cO,nN M,nN z,sizeLine_eq];exact hz
end
section
variable{G:Gx}{Y:SS}
theorem XD{U iter L:Expr}{y:Str}{O g V:Pos}{v:b3}{B:List (Str×Nat)}{K:Fl->SS->Prop}(M:(O.line==g.line)=ai)(o1:(v.names.any λx=>x.1==y&&(x.2==.local||x.2==.cell))=aj)(hy:lk y G.cs.names=some .local)(sc:uc G v B)(hs:xy iter)
 (h:jb G iter Y λS k=>∃J n,Mk G v B L U k.objs.length S J (λY=>K .next ⟨(y,.obj k.objs.length)::k.loc,Y.objs,Y.fa⟩)/\J n 0 ⟨[],OL.a k.objs (.list ah []),k.fa⟩):
 bc G (.Assign [.Name y O] (.ListComp U [⟨L,iter,[],0⟩] v g) V) Y K:=λc ρ s H a H=>by
 have u1:swapsWith (.ListComp U [⟨L,iter,[],0⟩] v g) (aa (.Name y O)) V.line c.env=pure true:=by
  show pure (c.env.blockKind==.function&&c.env.kindOf y==some .local&&O.line==g.line&&!(v.names.any λx=>x.1==y&&(x.2==.local||x.2==.cell)))=_
  have h1:(c.env.blockKind==.function)=true:=by
   unfold Env.blockKind
   rw[a.ok.hk.kind];rfl
  have h2:(c.env.kindOf y==some .local)=true:=by rw[a.kind hy];rfl
  rw[h1,h2,M,o1];rfl
 show wpAny _ _ (exec (.Assign [.Name y O] (.ListComp U [⟨L,iter,[],0⟩] v g) V) c.env) _ _ s
 rw[exec_Assign_Name_used _ _ _ _ u1]
 refine wpAny_bind (wpAny_standAt (wpAny_bind ?_))
 show wpAny _ _ (do let _<-comprehension (.ListComp U [⟨L,iter,[],0⟩] v g) v c.env (firstIterPos [⟨L,iter,[],0⟩] g) (newList []) aj (eval iter c.env) (aa (assign (.Name y O) c.env))) _ _ s
 refine wpAny_bind (wpAny_mono (Hz sc hs a (use:=aa (assign (.Name y O) c.env)) (Q:=λH s'=>PB G c ρ K .next s') (P:=λu j=>K .next ⟨(y,.obj j)::u.loc,u.objs,u.fa⟩) h λu j e1 s' C oC D hP p R q hn hC=>?_) (λH s' hq=>wpAny_pure (wpAny_pure hq)) λH H z=>z)
 show wpAny _ _ (assign (.Name y O) c.env (.ref D)) _ _ _
 obtain⟨m,hn⟩:=hn
 have aP:=a.plus p R
 refine assign_Name (xx aP hy q λy1 A=>?_)
 have p1:y1.heap.get? C=aa oC:=A.heap (p:=(C,oC)) (.head _)
 exact⟨m,hn.at' λo e=>by rw[hC] at e;cases e;exact p1,λh' i1=>⟨e1,⟨(y,.obj j)::u.loc,u.objs,u.fa⟩,.next,p,At.drop (own:=[]) (rr:=[]) A (λb o hb e=>i1.extBut b o hb e) (aH _),rfl,hP⟩⟩
end
structure Ops (G:Gx) where
 E:∀(e:Expr) (Y:SS) (K:SV->SS->Tr),VG G (aA G e Y (hh K))
 T:∀(e:Expr) (Y:SS) (K:SV->SS->Tr),VG G (bS G e Y (hh K))
 S:∀(st:Stmt) (Y:SS) (K:Fl->SS->Tr),VG G (bc G st Y (hh K))
noncomputable def VC.succ {S:Prop} (k:Nat) (f:∀n,k=n+1->VC S):VC S:=@eT (λg=>k=g->VC S) (λz=>.no) (λn z=>f n) k rfl
noncomputable abbrev XE (e:Expr):Prop:=∀r env,starEach (e::r) env=(aj,eval e env)::starEach r env
noncomputable def IA (e:Expr):Option (PLift (XE e)):=match mr e with
 |some ⟨h⟩=>aa ⟨h.star⟩
 |ah=>match e with
  |.ListComp ..=>aa ⟨λz z=>rfl⟩
  |_=>ah
noncomputable def iD (L:List Expr):Option (PLift (dR L)):=@bE Expr (λL=>Option (PLift (dR L))) (aa ⟨λz h=>by cases h⟩) (λt L p=>match IA t,p with
 |some ⟨a⟩,aa ⟨b⟩=>aa ⟨λu y=>(b7.mp y).elim (λe=>e▸a) (b u)⟩
 |_,_=>ah) L
set_option genCtorIdx true in
inductive EV:Expr->Type
 |con (co:Const) (k:Nat) (p:Pos):EV (.Constant co k p)
 |XF (n:Str) (p:Pos):EV (.Name n p)
 |XG (ob:Expr) (nm:Str) (p:Pos):EV (.Attribute ob nm p)
 |XH (ob:Expr) (lo hi st:Option Expr) (p V:Pos):EV (.Subscript ob (.Slice lo hi st p) V)
 |sub (ob ie:Expr) (V:Pos):EV (.Subscript ob ie V)
 |bin (l:Expr) (op:Operator) (r:Expr) (V:Pos):EV (.BinOp l op r V)
 |un (op:UnaryOp) (e:Expr) (V:Pos):EV (.UnaryOp op e V)
 |cmp (l:Expr) (ops:List CmpOp) (rs:List Expr) (V:Pos):EV (.Compare l ops rs V)
 |XI (t b e:Expr) (V:Pos):EV (.IfExp t b e V)
 |XJ (op:BoolOp) (es:List Expr) (V:Pos):EV (.BoolOp op es V)
 |lst (es:List Expr) (V:Pos):EV (.List es V)
 |tup (es:List Expr) (k:Nat) (V:Pos):EV (.Tuple es k V)
 |qG (ks:List (Option Expr)) (vs:List Expr) (V:Pos):EV (.Dict ks vs V)
 |XK (n:Str) (p:Pos) (args:List Expr) (V:Pos):EV (.Call (.Name n p) args [] V)
 |XM (ob:Expr) (nm:Str) (ap:Pos) (args:List Expr) (V:Pos):EV (.Call (.Attribute ob nm ap) args [] V)
 |XN (elt:Expr) (gs:List Comprehension) (sc:Scope) (V:Pos):EV (.ListComp elt gs sc V)
 |ki (e:Expr):EV e
noncomputable def nO (e:Expr):EV e:=match e with
 |.Constant z k p=>.con z k p
 |.Name n p=>.XF n p
 |.Attribute ob nm p=>.XG ob nm p
 |.Subscript ob g V=>match g with
  |.Slice lo D st p=>.XH ob lo D st p V
  |g=>.sub ob g V
 |.BinOp l A r V=>.bin l A r V
 |.UnaryOp A e V=>.un A e V
 |.Compare l m L V=>.cmp l m L V
 |.IfExp t b e V=>.XI t b e V
 |.BoolOp A u V=>.XJ A u V
 |.List u V=>.lst u V
 |.Tuple u k V=>.tup u k V
 |.Dict M q V=>.qG M q V
 |.Call f x j V=>match j with
  |[]=>match f with
   |.Name n H=>.XK n H x V
   |.Attribute ob nm y=>.XM ob nm y x V
   |f=>.ki _
  |k::M=>.ki _
 |.ListComp O C v V=>.XN O C v V
 |e=>.ki e
set_option genCtorIdx true in
inductive TV:Stmt->Type
 |XO (V:Pos):TV (.Pass V)
 |ret (e:Expr) (V:Pos):TV (.Return (aa e) V)
 |XQ (V:Pos):TV (.Return ah V)
 |iff (t:Expr) (b e:List Stmt) (V:Pos):TV (.If t b e V)
 |exp (e:Expr) (V:Pos):TV (.Expr e V)
 |asg (t e:Expr) (V:Pos):TV (.Assign [t] e V)
 |aug (t:Expr) (op:Operator) (e:Expr) (V:Pos):TV (.AugAssign t op e V)
 |ast (t:Expr) (V:Pos):TV (.Assert t ah V)
 |fr (t it:Expr) (b els:List Stmt) (V:Pos):TV (.For t it b els V)
 |brk (V:Pos):TV (.Break V)
 |cont (V:Pos):TV (.Continue V)
 |XR (t:Expr) (b:List Stmt) (V:Pos):TV (.While t b [] V)
 |tr (b:List Stmt) (h0:ExceptHandler) (hs:List ExceptHandler) (V:Pos):TV (.Try b (h0::hs) [] [] V)
 |ki (st:Stmt):TV st
noncomputable def XS (st:Stmt):TV st:=match st with
 |.Pass V=>.XO V
 |.Return e V=>match e with
  |some e=>.ret e V
  |ah=>.XQ V
 |.If t b e V=>.iff t b e V
 |.Expr e V=>.exp e V
 |.Assign y e k=>match y with
  |[t]=>.asg t e k
  |y=>.ki _
 |.AugAssign t A e V=>.aug t A e V
 |.Assert t m V=>match m with
  |ah=>.ast t V
  |some m=>.ki _
 |.For L q b z V=>.fr L q b z V
 |.Break V=>.brk V
 |.Continue V=>.cont V
 |.While t b z V=>match z with
  |[]=>.XR t b V
  |e::x=>.ki _
 |.Try b h z fin V=>match h with
  |h0::h=>match z with
   |[]=>match fin with
    |[]=>.tr b h0 h V
    |_::_=>.ki _
   |_::_=>.ki _
  |[]=>.ki _
 |st=>.ki st
section
variable{G:Gx}(o:Ops G)
noncomputable def kj (x:SV) (Y:SS) {A B:SS->Prop} (a:∀Y,VG G (A Y)) (b:∀Y,VG G (B Y)):VG G (Br x Y A B):=match x with
 |.bool c=>match c with
  |true=>a Y
  |false=>b Y
 |.sb c=>⟨.im c (a Y).t (b Y).t,λh g=>⟨λe=>(a Y).ok (h.1 e) g,λe=>(b Y).ok (h.2 e) g⟩⟩
 |.bm k l p q=>⟨.and (a (Y.add k l p q ai)).t (b (Y.add k l p q aj)).t,λh g=>⟨(a _).ok h.1 g,(b _).ok h.2 g⟩⟩
 |_=>.no
noncomputable def nextT (f:Fl) (a b:Tr):Tr:=@Fl.rec (λz=>Tr) a b b (λz=>b) f
noncomputable def di:∀(b:List Stmt) (Y:SS) (K:Fl->SS->Tr),VG G (aO G b Y (hh K)):=@bE Stmt (λb=>∀(Y:SS) (K:Fl->SS->Tr),VG G (aO G b Y (hh K))) (λY K=>fin K .next Y f6)
 λst r p Y K=>⟨(o.S st Y λf y=>nextT f (p y K).t (K f y)).t,λh g=>cZ (((o.S st Y _).ok h g).mp λf y z=>by
  cases f with
  |next=>exact(p y K).ok z g
  |_=>exact z)⟩
noncomputable def eG:∀(y:List Expr) (Y:SS) (K:List SV->SS->Tr),VG G (dI G y Y (hh K)):=@bE Expr (λy=>∀(Y:SS) (K:List SV->SS->Tr),VG G (dI G y Y (hh K))) (λY K=>fin K [] Y kZ)
 λe r p Y K=>.one (IA e) λf=>gm (lg f.1) (bind (o.E e Y) λx m=>p m λv z=>K (x::v) z)
noncomputable def XT:∀(y:List (Option Expr)) (q:List Expr) (Y:SS) (K:List (Str×SV)->SS->Tr),VG G (qR G y q Y (hh K)):=@bE (Option Expr) (λy=>∀(q:List Expr) (Y:SS) (K:List (Str×SV)->SS->Tr),VG G (qR G y q Y (hh K)))
 (λq Y K=>match q with
   |[]=>fin K [] Y Vk
   |_::_=>.no)
 λk y p q Y K=>match q with
  |[]=>.no
  |v::q=>.one (Vi k) λn=>gm (Vl n.2) (bind (o.E v Y) λx m=>p q m λu z=>K ((n.1,x)::u) z)
end
section
variable(U:∀G,Ops G)(G:Gx)
noncomputable def oZ (y:List (Str×SV)) (K:SV->SS->Tr) (f:Fl) (Y:SS):Tr:=@Fl.rec (λz=>Tr) (K .none ⟨y,Y.objs,Y.fa⟩) .ff .ff (λx=>K x ⟨y,Y.objs,Y.fa⟩) f
noncomputable def XU (f:Addr) (i:aR) (p:aU f G.T.fns=aa i) (v:List SV) (Y:SS) (K:SV->SS->Tr):VG G (av G (.ref f) v Y (hh K)):=.succ G.n λn q=>.aW (aD i.ps.length (v.length+i.ds.length)) λx=>.aW (aD v.length i.ps.length) λu=>
 ⟨(di (U (G.in n i)) i.body ⟨j7 i v,Y.objs,Y.fa⟩ (oZ Y.loc K)).t,λh g=>j8 p q x u (((di (U (G.in n i)) i.body ⟨j7 i v,Y.objs,Y.fa⟩ (oZ Y.loc K)).ok h (g.in n i)).mp λf y z=>by cases f<;>exact z)⟩
noncomputable def XW (f:Addr) (v:List SV) (Y:SS) (K:SV->SS->Tr):VG G (av G (.ref f) v Y (hh K)):=match v with
 |[y]=>.opt (aU f G.T.jz) λz u=>.succ G.n λn q=>
  ⟨(di (U (G.mG n z.1 z.2.2 Y.objs.length)) z.1.body ⟨[(z.2.1,y)],OL.a Y.objs (.cell ah),Y.fa⟩ (oZ Y.loc K)).t,λh g=>BS u q (((di (U (G.mG n z.1 z.2.2 Y.objs.length)) z.1.body ⟨[(z.2.1,y)],OL.a Y.objs (.cell ah),Y.fa⟩ (oZ Y.loc K)).ok h (g.mG n z.1 z.2.2 Y.objs.length)).mp λf x z=>by cases f<;>exact z)⟩
 |_=>.no
noncomputable def mH (f:Addr) (v:List SV) (Y:SS) (K:SV->SS->Tr):VG G (av G (.ref f) v Y (hh K)):=.or (aU f G.cons)
 (λy=>.or (aU f G.T.fns) (λy=>XW U G f v Y K) λi u=>XU U G f i u v Y K)
 λ(p:Nat×bg) x=>.aW (aD p.1 G.n) λh=>⟨p.2 v Y K,λz g=>g.con (f,p) (gw x) G rfl rfl (aB h) v Y K z⟩
noncomputable def yd (x:SV):Option (PLift (x=.none)):=match x with
 |.none=>aa ⟨rfl⟩
 |_=>ah
noncomputable def ye (j:Nat) (K:SV->SS->Tr) (y:SV) (Y:SS):Tr:=@aY (PLift (y=.none)) (λz=>Tr) .ff (λz=>K (.obj j) Y) (yd y)
theorem XX{j:Nat}{K:SV->SS->Tr}{y:SV}{Y:SS}(h:(ye j K y Y).h):y=.none/\(K (.obj j) Y).h:=by
 unfold ye at h
 cases e:yd y with
 |none=>rw[e] at h;exact h.elim
 |some q=>rw[e] at h;exact⟨q.1,h⟩
noncomputable def newX (C:Addr) (v:List SV) (Y:SS) (K:SV->SS->Tr):VG G (av G (.ref C) v Y (hh K)):=.succ G.n λn x=>.opt (aU C G.T.cls) λm p=>.opt (lk (af "__init__") m.gO) λf u=>.aW (aL C G.T.jV) λq=>
 ⟨(mH U (G.un n) f (.obj Y.objs.length::v) ⟨Y.loc,OL.a Y.objs (.inst C []),Y.fa⟩ (ye Y.objs.length K)).t,λh g=>Ww x q p u (((mH U (G.un n) f (.obj Y.objs.length::v) ⟨Y.loc,OL.a Y.objs (.inst C []),Y.fa⟩ (ye Y.objs.length K)).ok h (g.un n)).mp λy y z=>XX z)⟩
noncomputable def mJ (f:Addr) (v:List SV) (Y:SS) (K:SV->SS->Tr):VG G (av G (.ref f) v Y (hh K)):=.or (aU f G.T.cls) (λz=>mH U G f v Y K) λz z=>.or (aU f G.cons) (λz=>newX U G f v Y K) λz z=>mH U G f v Y K
noncomputable def IB {H y:Type} (o:Option H) (n:Option y) (f:∀a,o=aa a->y):Option y:=@aY H (λO=>o=O->Option y) (λz=>n) (λa h=>aa (f a h)) o rfl
noncomputable def IC (T:Tab) (f:Addr):Option (PLift (∀W,TabOk W T->keepIn W.K (.ref f)=ai)):=IB (aU f T.fns) (IB (aU f T.jz) ((aV (aL f T.jV)).map λh=>⟨λW t=>(t.jV _ h.1).2⟩) λi h=>⟨λW t=>(t.jz _ (gw h)).keep⟩) λi h=>⟨λW t=>(t.fns _ (gw h)).keep⟩
noncomputable def XY (x:SV) (Y:SS) (K:SV->SS->Tr):VG G (bB G (.builtin "len") [x] Y (hh K)):=match x with
 |.obj i=>.dJ Y.objs i λo u=>match o,u with
  |.list p q,u=>.one (gg p) λj=>.aW (aD q.length 1000) λy=>fin K (.int q.length) Y (VX (j.1▸u) y)
  |.bz m,u=>.aW (aD m.length 1000) λy=>fin K (.int m.length) Y (VY u y)
  |_,_=>.no
 |.val v=>match v with
  |.ref t=>.opt (aU t G.T.nG) λss k=>.aW (aD ss.length 1000) λy=>fin K (.int ss.length) Y (Xb k y)
  |_=>.no
 |x=>.one (bD x) λa=>.need (a.1.length<=sizeLine) ⟨K (.si a.1.length) Y,λh p z=>H9 (K:=hh K) a.2 p h⟩
noncomputable def XZ (x:SV) (Y:SS) (K:SV->SS->Tr):VG G (bB G (.builtin "ord") [x] Y (hh K)):=.one (bD x) λa=>.need (a.1.length=1) ⟨K (.si (a.1.cps.getD 0 0:Nat)) Y,λh p z=>WQ (K:=hh K) a.2 p h⟩
noncomputable def X3 (x:SV) (Y:SS) (K:SV->SS->Tr):VG G (bB G (.builtin "chr") [x] Y (hh K)):=.one (bF x) λi=>.need (0<=i.1/\i.1<=1114111) ⟨K (.ss ⟨#[i.1.toNat]⟩) Y,λh p z=>WR (K:=hh K) i.2 p.1 p.2 h⟩
noncomputable def X4:∀v:List SV,Option {j:List Str//∀{W:Wd} {z:List Addr} {q:List Value},aM W z v q->StrsAre q j}:=@bE SV (λv=>Option {j:List Str//∀{W:Wd} {z:List Addr} {q:List Value},aM W z v q->StrsAre q j}) (aa ⟨[],λr=>by cases r;exact .nil⟩)
 λx v p=>au (bD x) λt=>au p λL=>aa ⟨t.1::L.1,λr=>by
  cases r using Each.ec with
  |cons r y=>obtain⟨u,rfl⟩:=t.2 r;exact .cons _ _ (L.2 y)⟩
noncomputable def X5 (x:SV) (j:List SV) (Y:SS) (K:SV->SS->Tr):VG G (bB G (.builtin "str.startswith") (x::j) Y (hh K)):=match j with
 |[y]=>.two (bD x) (bD y) (λa b=>fin K (.sb (nA a.1 b.1)) Y (WN a.2 b.2)) .no
 |_=>.no
noncomputable def X6 (a:Str) (v:List SV):Option {L:List Tm//a=⟨#[]⟩/\∀{W:Wd} {z:List Addr} {q:List Value},aM W z v q->StrsAre q (L.map λt=>ak (t.ev W.η))}:=match v with
 |[]=>(aV (seq a ⟨#[]⟩)).map λh=>⟨[],b9.mp h.1,λr=>by cases r;exact .nil⟩
 |.tm t::r=>au (aV (seq a ⟨#[]⟩)) λh=>(HR (.tm t::r)).map λL=>⟨L.1,b9.mp h.1,L.2⟩
 |_=>ah
noncomputable def X7 (x:SV) (j:List SV) (Y:SS) (K:SV->SS->Tr):VG G (bB G (.builtin "str.join") (x::j) Y (hh K)):=match j with
 |[y]=>.one (bD x) λa=>.one (iB y) λi=>.dJ Y.objs i.1 λo u=>.one (gy o) λz=>.one (gg z.1.1) λq=>.or (X6 a.1 z.1.2) (λv=>.one (X4 z.1.2) λl=>.need ((l.1.map (·.length)).sum+l.1.length*a.1.length<=16777216) ⟨K (.ss (kP a.1 l.1)) Y,λh p v=>by rw[i.2];exact BW (K:=hh K) a.2 (q.1▸z.2▸u) l.2 p h⟩) λL v=>.aW (aD (B6 L.1) 1000000) λm=>fin K (.tm (uv L.1)) Y (by rw[i.2];exact Xi (L.2.1▸a.2) (q.1▸z.2▸u) L.2.2 m)
 |_=>.no
noncomputable def X8 (o:SO):Option {cs:List Nat//o=.list (aa (.dO cs)) []}:=match o with
 |.list p v=>match p with
  |some q=>match q with
   |.dO cs=>match v with
    |[]=>aa ⟨cs,rfl⟩
    |_=>ah
   |_=>ah
  |_=>ah
 |_=>ah
noncomputable def Yb (x:SV) (j:List SV) (Y:SS) (K:SV->SS->Tr):VG G (bB G (.builtin "str.join") (x::j) Y (hh K)):=match j with
 |[y]=>.one (bD x) λa=>.one (iB y) λi=>.dJ Y.objs i.1 λo v=>.or (X8 o) (λz=>X7 G x [y] Y K) λcs z=>.aW (seq a.1 ⟨#[]⟩) λu=>.need (cs.1.length<=100000) ⟨K (.ss (ak cs.1)) Y,λh p z=>by rw[i.2];exact Xp (K:=hh K) (b9.mp u▸a.2) (cs.2▸v) p h⟩
 |_=>.no
noncomputable def Yc (x:SV) (v:List SV) (Y:SS) (K:SV->SS->Tr):VG G (bB G (.builtin "str.count") (x::v) Y (hh K)):=match v with
 |[y,z,w]=>.two (bD x) (bD y) (λa b=>.two (bF z) (bF w) (λi j=>fin K (.si (qW a.1 b.1 i.1 j.1)) Y (WL a.2 b.2 i.2 j.2)) .no) .no
 |_=>.no
noncomputable def Yd (x:SV) (v:List SV) (Y:SS) (K:SV->SS->Tr):VG G (bB G (.builtin "str.rfind") (x::v) Y (hh K)):=match v with
 |[y,z,w]=>.two (bD x) (bD y) (λa b=>.two (bF z) (bF w) (λi j=>fin K (.si (kg a.1 b.1 i.1 j.1)) Y (WM a.2 b.2 i.2 j.2)) .no) .no
 |_=>.no
noncomputable def Ye (v:SV):Option (PLift (v=.val (.type "dict"))):=match v with
 |.val v=>match v with
  |.type t=>(aV (decide (t="dict"))).map λh=>⟨congrArg (λt=>SV.val (.type t)) (of_decide_eq_true h.1)⟩
  |_=>ah
 |_=>ah
noncomputable def Yg (x y:SV) (Y:SS) (K:SV->SS->Tr):VG G (bB G (.builtin "isinstance") [x,y] Y (hh K)):=.one (Ye y) λu=>match x with
 |.obj i=>.dJ Y.objs i λo z=>match o,z with
  |.list p v,z=>fin K (.bool aj) Y λk=>by rw[u.1];exact VU z k
  |.dict q,z=>fin K (.bool ai) Y λk=>by rw[u.1];exact VV z k
  |.bz q,z=>fin K (.bool ai) Y λk=>by rw[u.1];exact VW z k
  |_,_=>.no
 |_=>.no
noncomputable def Yh (id:String) (j:List SV) (Y:SS) (K:SV->SS->Tr):VG G (bB G (.builtin id) j Y (hh K)):=match j with
 |[x]=>.ite (decide (id="len")) (λh=>gm (λk=>by rw[of_decide_eq_true h];exact k) (XY G x Y K)) λz=>.ite (decide (id="ord")) (λh=>gm (λk=>by rw[of_decide_eq_true h];exact k) (XZ G x Y K)) λz=>.aW (decide (id="chr")) λh=>gm (λk=>by rw[of_decide_eq_true h];exact k) (X3 G x Y K)
 |[x,y]=>.aW (decide (id="isinstance")) λh=>gm (λk=>by rw[of_decide_eq_true h];exact k) (Yg G x y Y K)
 |_=>.no
noncomputable def Yi (T:String) (j:List SV) (Y:SS) (K:SV->SS->Tr):VG G (bB G (.type T) j Y (hh K)):=match j with
 |[x]=>.aW (decide (T="dict")) λh=>.one (iB x) λi=>.dJ Y.objs i.1 λo u=>.one (gy o) λv=>.one (gg v.1.1) λq=>.one (HQ G Y v.1.2) λD=>.aW (aD D.1.length 1000) λy=>
  ⟨qT D.1 [] Y.fa λp m=>K (.obj Y.objs.length) ⟨Y.loc,OL.a Y.objs (.bz p),m⟩,λk z=>by rw[of_decide_eq_true h,i.2];exact Wj (q.1▸v.2▸u) D.2 y k⟩
 |_=>.no
noncomputable def Yj (i:Nat) (u:List SV) (Y:SS) (K:SV->SS->Tr):VG G (bB G (.builtin "dict.update") (.obj i::u) Y (hh K)):=match u with
 |[x]=>.one (iB x) λj=>.dJ Y.objs i λO g=>.one (Gv O) λy=>.dJ Y.objs j.1 λo p=>.one (gy o) λv=>.one (gg v.1.1) λm=>.one (HQ G Y v.1.2) λD=>.aW (aD (y.1.length+D.1.length) 1000) λq=>
  ⟨qT D.1 y.1 Y.fa λy M=>K .none ⟨Y.loc,OL.s Y.objs i (.bz y),M⟩,λk z=>by rw[j.2];exact Wk (y.2▸g) (m.1▸v.2▸p) D.2 q k⟩
 |_=>.no
noncomputable def Yk (n:Str) (q:Pos) (z:List Expr) (V:Pos) (Y:SS) (K:SV->SS->Tr):VG G (aA G (.Call (.Name n q) z [] V) Y (hh K)):=
 .opt (lk n G.cs.names) λk x=>match k,x with
  |.globalImplicit,x=>.opt (lk n G.T.eY) λv u=>match v,u with
   |.ref f,u=>.one (IC G.T f) λB=>.one (iD z) λy=>gm (xF x u B.1 y.1) (bind (eG (U G) z Y) λj m=>mJ U G f j m K)
   |.type T,u=>match z with
    |[arg]=>.one (iD [arg]) λy=>gm (Wy x u y.1) (bind (eG (U G) [arg] Y) λj m=>Yi G T j m K)
    |_=>.no
   |.builtin id,u=>.one (iD z) λy=>gm (Hs x u y.1) (bind (eG (U G) z Y) λj m=>Yh G id j m K)
   |_,_=>.no
  |_,_=>.no
noncomputable def Yl {S:Prop} (k z:Nat) (f:z<=16777216->VC S):VC S:=@eT (λy=>VC S) ⟨.pr (∃h:z<=16777216,(f h).t.h) .tt,λh=>h.1.elim λh q=>(f h).ok q⟩ (λy y=>.aW (aD z 16777216) λh=>f (aB h)) k
noncomputable def Ym (y:SV) (v:List SV) (x:OL):Option {z:Nat×Str//Iw y v x z}:=match v with
 |[]=>match y with
  |.obj j=>au (fT x j) λo=>match o with
   |⟨.dict A,u⟩=>au (Cc (af "type") A) λL=>au (bF L.1) λp=>au (aV (decide (p.1=7))) λq=>au (Cc (af "data") A) λM=>(bD M.1).map λm=>⟨(j,m.1),rfl,rfl,A,L.1,M.1,u,L.2,of_decide_eq_true q.1▸p.2,M.2,m.2⟩
   |_=>ah
  |_=>ah
 |_=>ah
noncomputable def ID (i:Nat) (j:List SV) (Y:SS) (K:SV->SS->Tr):VG G (bB G (.builtin "list.append") (.obj i::j) Y (hh K)):=match j with
 |[y]=>.dJ Y.objs (i) λo x=>match o,x with
  |.list p v,x=>match p,x with
   |ah,x=>.aW (aD v.length 1000) λh=>fin K .none ⟨Y.loc,OL.s Y.objs i (.list ah (v++[y])),Y.fa⟩ (Ht x λu e=>by
     obtain rfl:=e
     exact aq (aK (i9 _)) (aq (aB h) (by decide)))
   |some p,x=>.need (∀u,lZ p u->u.length+v.length<=16777216) ⟨K .none ⟨Y.loc,OL.s Y.objs i (.list (aa p) (v++[y])),Y.fa⟩,λh q g=>Ht (K:=hh K) x q h⟩
  |.aJ n k m v,x=>Yl k (n+m.length+v.length) λO=>.or (Ym y v Y.objs) (λg=>fin K .none ⟨Y.loc,OL.s Y.objs i (.aJ n k m (v++[y])),Y.fa⟩ (Iv x O)) λz g=>fin K .none ⟨Y.loc,OL.s (OL.s Y.objs i (.aJ n k (m++[z.1.2]) [])) z.1.1 .gone,Y.fa⟩ (Xs z.2 x (aq (bL _ _) O))
  |_,_=>.no
 |_=>.no
noncomputable def Yn (o:SO) (f:Addr) (z:Nat):Option (PLift (o=.aI f (.obj z))):=match o with
 |.aI g x=>match x with
  |.obj w=>iT (aV (aQ g f)) (aV (aQ w z)) λh q=>aa ⟨by rw[bJ h.1,bJ q.1]⟩
  |_=>ah
 |_=>ah
noncomputable def Yo (q:List Expr):Option {z:Str×Str//∃k1 u k2 v,q=[.Constant (.str z.1) k1 u,.Constant (.str z.2) k2 v]}:=match q with
 |[a,b]=>au (Bv a) λy=>au (Bv b) λz=>aa ⟨(y.1,z.1),let⟨k1,u,p⟩:=y.2;let⟨k2,v,M⟩:=z.2;⟨k1,u,k2,v,congr (congrArg List.cons p) (congrArg (λx=>[x]) M)⟩⟩
 |_=>ah
noncomputable def Yp (nm:Str) (y:List Expr) (x:SV) (Y:SS) (K:SV->SS->Tr) (q:dR y):VG G (ja G nm y x Y (hh K)):=.one (bD x) λa=>
 .ite (seq nm (af "count")) (λe=>gm (oX (b9.mp e▸.count) a.2 q) (bind (eG (U G) y Y) λj m=>Yc G x j m K)) λu=>
 .ite (seq nm (af "rfind")) (λe=>gm (oX (b9.mp e▸.rfind) a.2 q) (bind (eG (U G) y Y) λj m=>Yd G x j m K)) λu=>
 .ite (seq nm (af "startswith")) (λe=>gm (oX (b9.mp e▸.startswith) a.2 q) (bind (eG (U G) y Y) λj m=>X5 G x j m K)) λu=>
 .ite (seq nm (af "join")) (λe=>gm (oX (b9.mp e▸.join) a.2 q) (bind (eG (U G) y Y) λj m=>Yb G x j m K)) λu=>
 .aW (seq nm (af "replace")) λe=>.one (Yo y) λz=>.aW (!seq z.1.1 z.1.2) λk=>.need (a.1.length+(a.1.length+1)*z.1.2.length<=16777216) ⟨K (.ss (gu a.1 z.1.1 z.1.2)) Y,λh p u=>by
  obtain⟨k1,g,k2,v,M⟩:=z.2
  rw[M]
  exact WO (K:=hh K) e a.2 (by simpa using k) p h⟩
noncomputable def Yq (nm:Str) (u:List Expr) (x:SV) (Y:SS) (K:SV->SS->Tr):VG G (ja G nm u x Y (hh K)):=.one (iD u) λM=>match x with
 |.obj i=>.dJ Y.objs (i) λo O=>match o,O with
  |.inst C fs,O=>.opt (aU C G.T.cls) λB D=>.or (lk nm fs)
   (λL=>.opt (lk nm B.gO) λf A=>gm (Vc O D A L M.1) (bind (eG (U G) u Y) λk m=>mJ U G f (.obj i::k) m K))
   λy L=>match y,L with
    |.obj j,L=>.aW (has nm B.kU) λhf=>.dJ Y.objs (j) λo2 H=>match o2,H with
     |.aI f w,H=>match w,H with
      |.obj z,H=>.opt (aU f G.T.fns) λe1 hi=>match u,M with
       |[],M=>gm (λh=>Hr O D hf L H hi M.1 (kZ ⟨H,h⟩)) (mJ U G f [.obj z] Y K)
       |e::es,M=>gm (Hr O D hf L H hi M.1) (bind (eG (U G) (e::es) Y) λk m=>.dJ m.objs j λo3 h3=>.one (Yn o3 f z) λq=>gm (λh=>⟨q.1▸h3,h⟩) (mJ U G f (.obj z::k) m K))
      |_,_=>.no
     |_,_=>.no
    |_,_=>.no
  |.bz fs,O=>.aW (seq nm (af "update")) λe=>gm (Wz e O M.1) (bind (eG (U G) u Y) λk m=>Yj G i k m K)
  |.blob b,O=>.opt (aU (G.T.nE b) G.T.cls) λB D=>.opt (lk nm B.gO) λf A=>⟨(bind (eG (U G) u Y) λk m=>mJ U G f (.obj i::k) m K).t,λh g=>Vd g.bl O D A M.1 ((bind (eG (U G) u Y) λk m=>mJ U G f (.obj i::k) m K).ok h g)⟩
  |.aJ n fs ms xs,O=>.aW (seq nm (af "append")) λe=>gm (λh=>by obtain rfl:=b9.mp e;exact Xq O M.1 h) (bind (eG (U G) u Y) λk m=>ID G i k m K)
  |.list p xs,O=>.ite (seq nm (af "append")) (λe=>gm (λh=>by obtain rfl:=b9.mp e;exact Vg O M.1 h) (bind (eG (U G) u Y) λk m=>ID G i k m K)) λqq=>.aW (seq nm (af "pop")) λe=>match u with
   |[]=>.one (gg p) λhn=>.one (Xd xs) λz=>.aW (aD z.1.1.length 1000) λhz=>fin K z.1.2 ⟨Y.loc,OL.s Y.objs i (.list ah z.1.1),Y.fa⟩ (Xe e (z.2▸hn.1▸O) hz)
   |_::_=>.no
  |_,_=>.no
 |.val v=>match v with
  |.ref t=>.opt (aU t G.T.nF) λz ht=>.opt (aU z.1 G.T.cls) λB D=>.or (lk nm z.2.2) (λL=>.opt (lk nm B.gO) λf A=>gm (Hq (C:=z.1) (dx:=z.2.1) (fs:=z.2.2) ht D A L M.1) (bind (eG (U G) u Y) λk m=>mJ U G f (.val (.ref t)::k) m K)) λqq qq=>.no
  |_=>.no
 |x=>Yp U G nm u x Y K M.1
noncomputable def Yr (ob:Expr) (nm:Str) (y:Pos) (z:List Expr) (V:Pos) (Y:SS) (K:SV->SS->Tr):VG G (aA G (.Call (.Attribute ob nm y) z [] V) Y (hh K)):=
 .one (GS ob) λq=>.aW (aQ y.endLine V.line) λp=>.one (iD z) λv=>.aW (dW z.length 30) λu=>gm (t6 q.1 p v.1 u) (bind ((U G).E ob Y) λx m=>Yq U G nm z x m K)
noncomputable def neT (z:SV) (Y:SS) (K:SV->SS->Tr):Tr:=match z with
 |.bool v=>K (.bool !v) Y
 |.bm k l p q=>.and (K (.bool aj) (Y.add k l p q ai)) (K (.bool ai) (Y.add k l p q aj))
 |_=>.ff
theorem Ys{a b:Tm}{x y:SV}{Y:SS}{K:SV->SS->Tr}(j:IsT x a)(m:IsT y b)(h:(neT (eqT Y a b).1 Y K).h):aG G (compareOp .NotEq) x y Y (hh K):=.mk λc g s v u at_ r q=>by
 obtain⟨t,rfl⟩:=j r
 obtain⟨O,rfl⟩:=m q
 have e:=(eqT Y a b).2 (W:=G.D) at_.fa
 refine PyProof.Rows.ne_str ?_
 rw[bne,xo]
 generalize(eqT Y a b).1=z at e h
 cases z with
 |bool v=>
  obtain e:decide _=v:=e
  rw[e]
  exact at_.truth (z:=.bool !v) rfl h
 |bm k l p q=>
  obtain e:decide _=cF G.D.η k l (p.ev G.D.η) (q.ev G.D.η):=e
  rw[e]
  cases M:cF G.D.η k l (p.ev G.D.η) (q.ev G.D.η) with
  |true=>exact(at_.add M.symm).truth (z:=.bool aj) rfl h.1
  |false=>exact(at_.add M.symm).truth (z:=.bool ai) rfl h.2
 |_=>exact h.elim
noncomputable def Yt (y:SV):Option {b:Tm//IsT y b}:=match y with
 |.tm t=>aa ⟨t,λr=>r⟩
 |.str s=>fC (.str s)
 |_=>ah
noncomputable def Yu (x y:SV) (Y:SS) (K:SV->SS->Tr):VG G (aG G (compareOp .In) x y Y (hh K)):=match y with
 |.val v=>match v with
  |.ref t=>.or (aU t G.T.oN) (λz=>.or (aU t G.T.oO) (λz=>GG G Y x K (.val (.ref t))) λD u=>.one (bF x) λn=>fin K (.sb (gh n.1 (D.map (·.1)))) Y (Xl u n.2)) λD u=>.one (bD x) λn=>fin K (.sb (cU n.1 D)) Y (W8 u n.2)
  |_=>.no
 |y=>GG G Y x K y
noncomputable def qZ (A:CmpOp) (x y:SV) (Y:SS) (K:SV->SS->Tr):VG G (aG G (compareOp A) x y Y (hh K)):=match A with
 |.Is=>TR G Y x K y
 |.IsNot=>TS G Y x K y
 |.Eq=>Tv G Y x y K
 |.NotEq=>match x with
  |.obj i=>.aW (aD 3 G.n) λu=>.one (VT G Y 8 (.obj i) y) λh=>fin K (.bool aj) Y (xQ u h.1)
  |.tm t=>.or (Yt y) (λz=>GA G Y (.tm t) y K) λb z=>⟨neT (eqT Y t b.1).1 Y K,λh z=>Ys G (λr=>r) b.2 h⟩
  |x=>GA G Y x y K
 |.NotIn=>.two (bD x) (bD y) (λa b=>fin K (.sb (!jG b.1 a.1)) Y (Xy a.2 b.2))<|.one (fC x) λk=>.one (iB y) λj=>.dJ Y.objs j.1 λo p=>.one (gy o) λv=>.one (gg v.1.1) λu=>.one (HR v.1.2) λL=>⟨xT k.1 (λq=>K (.bool aj) ⟨Y.loc,Y.objs,q⟩) (λq=>K (.bool ai) ⟨Y.loc,Y.objs,q⟩) L.1 Y.fa,λh z=>by rw[j.2];exact Wo k.2 (u.1▸v.2▸p) L.2 h⟩
 |.In=>.two (bD x) (bD y) (λa b=>fin K (.sb (jG b.1 a.1)) Y (Xz a.2 b.2)) (Yu G x y Y K)
 |.Lt=>Tw G Y x y K
 |.LtE=>Tz G Y x y K
 |.Gt=>TA G Y x y K
 |.GtE=>TF G Y x y K
noncomputable def IE (p:Option eW):Option {j:List Str//p=aa (.strs j)}:=match p with
 |some q=>match q with
  |.strs j=>aa ⟨j,rfl⟩
  |_=>ah
 |ah=>ah
noncomputable def IF (v:List SV):Option (PLift (v=[])):=match v with
 |[]=>aa ⟨rfl⟩
 |_::_=>ah
noncomputable def Yv (Y:SS) (K:SV->SS->Tr) (i j:Nat) {p q:Option eW} {v x:List SV} (y:{x:List Str//p=aa (.strs x)}) (O:Y.objs.list[i]? =aa (.list p v)) (m:Y.objs.list[j]? =aa (.list q x)):VG G (aG G (binaryOp .Add) (.obj i) (.obj j) Y (hh K)):=.or (IE q)
 (λz=>.one (gg q) λu=>.need (y.1.length+v.length+x.length<=16777216) ⟨K (.obj Y.objs.length) ⟨Y.loc,OL.a Y.objs (.list p (v++x)),Y.fa⟩,λh b z=>XA (K:=hh K) O (u.1▸m) (λL g=>by
   rw[y.2] at g
   rw[nN (show StrsAre L y.1 from g)];exact b) h⟩)
 λk z=>.one (IF v) λH=>.one (IF x) λM=>.need (y.1.length+k.1.length<=16777216) ⟨K (.obj Y.objs.length) ⟨Y.loc,OL.a Y.objs (.list (aa (.strs (y.1++k.1))) []),Y.fa⟩,λh b z=>XC (K:=hh K) (by obtain⟨y,rfl⟩:=y;obtain rfl:=H.1;exact O) (by obtain⟨k,rfl⟩:=k;obtain rfl:=M.1;exact m) b h⟩
noncomputable def Yw (A:Operator) (x y:SV) (Y:SS) (K:SV->SS->Tr):VG G (aG G (binaryOp A) x y Y (hh K)):=match A with
 |.Add=>match x,y with
  |.obj i,.obj j=>.dJ Y.objs (i) λo M=>.dJ Y.objs (j) λD m=>match o,D,M,m with
   |.list p g,.list q k,M,m=>.or (IE p) (λz=>.one (gg p) λO=>.one (gg q) λu=>.aW (aD (g++k).length 1000) λL=>fin K (.obj Y.objs.length) ⟨Y.loc,OL.a Y.objs (.list ah (g++k)),Y.fa⟩ (Vq (O.1▸M) (u.1▸m) L)) λH z=>Yv G Y K i j H M m
   |_,_,_,_=>.no
  |.obj i,.val v=>.one (xA G (.obj i) Y) λg=>.one (xA G (.val v) Y) λk=>.aW (!g.1.isEmpty) λO=>.aW (!k.1.isEmpty) λu=>.aW (aD (g.1++k.1).length 1000) λL=>fin K (.obj Y.objs.length) ⟨Y.loc,OL.a Y.objs (.tup (g.1++k.1)),Y.fa⟩ (Vr g.2 k.2 (by simpa using O) (by simpa using u) L)
  |x,y=>Ug G Y x y K
 |.Sub=>.two (bF x) (bF y) (λa b=>fin K (stI x y (a.1-b.1)) Y (TY a.2 b.2)) .no
 |.Mod=>.two (bF x) (bF y) (λa b=>.aW (!decide (b.1=0)) λh=>fin K (stI x y (a.1.fmod b.1)) Y (Bc a.2 b.2 (by simpa using h))) .no
 |.Mult=>.two (bF x) (bF y) (λa b=>.need (IntMulOk a.1 b.1) ⟨K (stI x y (a.1*b.1)) Y,λh p z=>T3 (K:=hh K) a.2 b.2 p h⟩) .no
 |.FloorDiv=>.two (bF x) (bF y) (λa b=>.aW (!decide (b.1=0)) λO=>.need (zX a.1 b.1=aj) ⟨K (stI x y (a.1.fdiv b.1)) Y,λh p z=>GI (K:=hh K) a.2 b.2 (by simpa using O) p h⟩) .no
 |_=>.no
noncomputable def Cd (e:Option Expr) (Y:SS) (K:Option SV->SS->Tr):VG G (qS G e Y (hh K)):=match e with
 |ah=>fin K ah Y Vn
 |some e=>gm Vo (bind ((U G).E e Y) λx m=>fin K (aa x) m id)
noncomputable def IG (t:Option Int):Bool:=match t with
 |ah=>ai
 |some k=>match k with
  |.ofNat m=>!aQ m 0
  |_=>ai
theorem Yx{t:Option Int}(h:IG t=ai):t≠aa 0:=λe=>by subst e;cases h
noncomputable def Yy {H:Type} (t:Option H):Option (PLift (t=ah)):=match t with
 |ah=>aa ⟨rfl⟩
 |some _=>ah
noncomputable def Yz (x:SV) (l u t:Option SV) (Y:SS) (K:SV->SS->Tr):VG G (Hv x l u t (hh K) Y):=.one (iB x) (λi=>.dJ Y.objs i.1 λo g=>.one (gy o) λz=>.one (gg z.1.1) λk=>.one (t9 l) λq=>.one (t9 u) λv=>.one (t9 t) λy=>.aW (IG y.1) λO=>.aW (aD z.1.2.length 1000) λm=>fin K (.obj Y.objs.length) ⟨Y.loc,OL.a Y.objs (.list ah (nJ z.1.2 q.1 v.1 y.1)),Y.fa⟩ λh=>.l i.1 _ _ _ _ i.2 (k.1▸z.2▸g) q.2 v.2 y.2 (Yx O) m h)
 (.one (Yy t) λe=>.one (WG x l u) (λz=>fin K z.1 Y λh=>.t z.1 e.1 z.2 h) (.one (bD x) λa=>.two (t9 l) (t9 u) (λi j=>.need (a.1.length<=sizeLine) ⟨K (.ss (dc a.1 i.1 j.1)) Y,λh p M=>.t _ e.1 (WU a.2 i.2 j.2 p) h⟩) .no))
noncomputable def YA (ob:Expr) (lo v st:Option Expr) (p V:Pos) (Y:SS) (K:SV->SS->Tr):VG G (aA G (.Subscript ob (.Slice lo v st p) V) Y (hh K)):=
 gm Vp (bind ((U G).E ob Y) λx m=>bind (Cd U G lo m) λl y=>bind (Cd U G v y) λu z=>bind (Cd U G st z) λt h=>Yz G x l u t h K)
theorem YB{Y:SS}{K:SV->SS->Prop}{t:Addr}{j z:Expr}{p:List (Str×Value)}{n:Str}{v:Value}{y:SV}(h:dK z)(H:bT y n)(M:aU t G.T.tw=aa p)(L:lk n p=aa v)(k:K (sv v) Y):aG G (subscriptTail j z) (.val (.ref t)) y Y K:=.mk λc B s w u a r q=>by
 obtain rfl:=r
 obtain⟨tk,rfl⟩:=H q
 obtain⟨A,m,x,D,O⟩:=a.tk.qG _ (gw M)
 obtain⟨_,⟨_,_,_,_,g,C,F,_⟩,_⟩:=a.R
 exact topItem_K F C.X x D (O _ (fz L)) (a.t1.give (pr _) (qH _ _ _) k) (h.sub _ _)
noncomputable def ly (h:Tm) (x:List Fact):Option (PLift (∀y,aT y x->(h.ev y).length=1)):=match h with
 |.n k l a b=>match k with
  |2=>aa ⟨λy z=>rfl⟩
  |3=>match e:asks 0 [] a .e x with
   |some ai=>aa ⟨λy ok=>by
    have h:(!(a.ev y).isEmpty)=true:=mj e ok
    show((a.ev y).take 1).length=1
    cases q:a.ev y with
    |nil=>rw[q] at h;cases h
    |cons=>rfl⟩
   |_=>ah
  |_=>ah
 |.e=>ah
noncomputable def YC (t:Tm) (x:List Fact):Option {z:Tm×Tm//t=cat z.1 z.2/\∀y,aT y x->(z.2.ev y).length=1}:=match t with
 |.n k l a b=>match k with
  |5=>match l with
   |[]=>(ly b x).map λh=>⟨(a,b),rfl,h.1⟩
   |_::_=>ah
  |_=>ah
 |.e=>ah
noncomputable def YD (y:SV):Option (PLift (bx y (-1))):=match y with
 |.int i=>(aV (decide (i=-1))).map λh=>⟨by rw[of_decide_eq_true h.1];exactλr=>r⟩
 |_=>ah
noncomputable def YE (o:SO):Option {f:Str//o=.cz f}:=match o with
 |.cz f=>aa ⟨f,rfl⟩
 |_=>ah
noncomputable def YF (ob g:Expr) (x y:SV) (Y:SS) (K:SV->SS->Tr) (f:dK g):VG G (aG G (subscriptTail ob g) x y Y (hh K)):=match x with
 |.val v=>match v with
  |.ref t=>.or (aU t G.T.tw) (λq=>.opt (aU t G.T.nG) λss M=>.aW (aD ss.length 1000) λO=>.one (bF y) λj=>.need (0<=j.1/\j.1<ss.length) ⟨K (.ss (ss.getD j.1.toNat ⟨#[]⟩)) Y,λh p q=>Im (K:=hh K) f M O j.2 p.1 p.2 h⟩) λm M=>.one (bD y) λn=>.opt (lk n.1 m) λv u=>fin K (sv v) Y (YB G f n.2 M u)
  |_=>.no
 |.obj i=>.dJ Y.objs i λo L=>.one (Wl o) (λm=>.one (fC y) λk=>⟨xS k.1 m.1 Y.fa λx D=>K x ⟨Y.loc,Y.objs,D⟩,λh q=>Wn f (m.2 Y i L) (Wm (m.2 Y i L) k.2 h)⟩) (.or (YE o) (λq=>gm (λh=>h.2 ob g f) (GQ G Y K (.obj i) y)) λz q=>.one (bD y) λn=>.opt (yc z.1 n.1) λw B=>fin K w Y (Xx f n.2 (z.2▸L) B))
 |.tm t=>.one (YC t Y.fa) λz=>.one (YD y) λH=>.aW (aD t.bd 1000000) λO=>fin K (.tm z.1.2) Y (Xj f (λr=>r) H.1 z.2.1 (z.2.2 G.D.η) O)
 |x=>.two (bD x) (bF y) (λa k=>.need (-(a.1.length:Int)<=k.1/\k.1<a.1.length/\a.1.length<=sizeLine) ⟨K (.ss (eS a.1 k.1)) Y,λh p q=>WT (K:=hh K) f a.2 k.2 p.1 p.2.1 p.2.2 h⟩) .no
variable(Y:SS)(K:SV->SS->Tr)(V:Pos)
noncomputable def YG (n:Str) (p:Pos) (y:lk n G.cs.names=some .local):VG G (aA G (.Name n p) Y (hh K)):=.aW (!seq n "__debug__") λq=>.opt (lk n Y.loc) λx z=>fin K x Y (fS (by simpa using q) y z)
noncomputable def YH (n:Str) (p:Pos) (y:lk n G.cs.names=some .cell):VG G (aA G (.Name n p) Y (hh K)):=.aW (!seq n "__debug__") λq=>.opt (lk n G.cv) λi v=>.dJ Y.objs (i) λo z=>match o,z with
 |.cell x,z=>match x,z with
  |some x,z=>fin K x Y (UA (by simpa using q) y v z)
  |ah,_=>.no
 |_,_=>.no
noncomputable def YI (n:Str) (p:Pos):VG G (aA G (.Name n p) Y (hh K)):=.opt (lk n G.cs.names) λk z=>match k,z with
 |.local,z=>YG G Y K n p z
 |.globalImplicit,z=>.opt (lk n G.T.eY) λv u=>fin K (sv v) Y (kY z u)
 |.cell,z=>YH G Y K n p z
 |_,_=>.no
noncomputable def attrS (x:SV) (nm:Str):VG G (jB G (getAttr · nm ai) x Y (hh K)):=match x with
 |.val v=>match v with
  |.ref t=>.opt (aU t G.T.nF) λz u=>.opt (aU z.1 G.T.cls) λm g=>.aW (has nm m.kU) λB=>.opt (lk nm z.2.2) λy p=>.aW (tD y) λq=>fin K y Y (Xa (C:=z.1) (dx:=z.2.1) (fs:=z.2.2) u g B p q)
  |_=>.no
 |x=>GO G Y K x nm
noncomputable def YJ (ob:Expr) (nm:Str) (p:Pos):VG G (aA G (.Attribute ob nm p) Y (hh K)):=.one (GS ob) λz=>gm (UB z.1) (bind ((U G).E ob Y) λx m=>attrS G m K x nm)
noncomputable def YK (ob v:Expr):VG G (aA G (.Subscript ob v V) Y (hh K)):=.one (mr v) λf=>gm qO (bind ((U G).E ob Y) λx m=>bind ((U G).E v m) λy z=>YF G ob v x y z K f.1)
noncomputable def YL (l r:Expr) (A:CmpOp):VG G (aA G (.Compare l [A] [r] V) Y (hh K)):=.one (xM r) λf=>gm (GU f.1) (bind ((U G).E l Y) λx m=>bind ((U G).E r m) λy z=>qZ G A x y z K)
noncomputable def YM (l r k:Expr) (A q:CmpOp):VG G (aA G (.Compare l [A,q] [r,k] V) Y (hh K)):=.one (xM k) λf=>gm (UM f.1) (bind ((U G).E l Y) λx m=>bind ((U G).E r m) λy u=>bind (qZ G A x y u) λz v=>bind (oR G v z) λb h=>kj b h (λh=>bind ((U G).E k h) λw p=>qZ G q y w p K) λh=>fin K z h id)
noncomputable def YN (l:Expr) (z:List CmpOp) (y:List Expr):VG G (aA G (.Compare l z y V) Y (hh K)):=match z,y with
 |[A],[r]=>YL U G Y K V l r A
 |[A,q],[r,x]=>YM U G Y K V l r x A q
 |_,_=>.no
noncomputable def YO (z O:Expr) (v:List Expr):VG G (aA G (.BoolOp .And (z::O::v) V) Y (hh K)):=gm UD (bind ((U G).E z Y) λx m=>bind (oR G m x) λb y=>kj b y (λY=>(U G).E (.BoolOp .And (O::v) V) Y K) λY=>fin K x Y id)
noncomputable def YQ (z O:Expr) (v:List Expr):VG G (aA G (.BoolOp .Or (z::O::v) V) Y (hh K)):=gm UE (bind ((U G).E z Y) λx m=>bind (oR G m x) λb y=>kj b y (λY=>fin K x Y id) λY=>(U G).E (.BoolOp .Or (O::v) V) Y K)
noncomputable def YR (A:BoolOp) (x:List Expr):VG G (aA G (.BoolOp A x V) Y (hh K)):=match x with
 |[]=>.no
 |z::r=>match r with
  |[]=>gm UG ((U G).E z Y K)
  |O::y=>match A with
   |.And=>YO U G Y K V z O y
   |.Or=>YQ U G Y K V z O y
noncomputable def YS (t b e:Expr):VG G (aA G (.IfExp t b e V) Y (hh K)):=gm GV (bind ((U G).T t Y) λx m=>kj x m (λY=>(U G).E b Y K) λY=>(U G).E e Y K)
noncomputable def listE (z:List Expr):VG G (aA G (.List z V) Y (hh K)):=gm Bu (bind (eG (U G) z Y) λv m=>.aW (aD v.length 1000) λh=>fin K (.obj m.objs.length) ⟨m.loc,OL.a m.objs (.list ah v),m.fa⟩ λk=>⟨h,k⟩)
noncomputable def YT (z:List Expr) (k:Nat):VG G (aA G (.Tuple z k V) Y (hh K)):=gm Vh (bind (eG (U G) z Y) λv m=>.aW (aD v.length 1000) λh=>fin K (.obj m.objs.length) ⟨m.loc,OL.a m.objs (.tup v),m.fa⟩ λk=>⟨h,k⟩)
noncomputable def YU (z:List (Option Expr)) (q:List Expr):VG G (aA G (.Dict z q V) Y (hh K)):=.aW (z.all (·.isSome)) λx=>.aW (aQ z.length q.length) λu=>.aW (dW 0 z.length) λj=>.aW (aD z.length 15) λO=>gm (Vm x u j O) (bind (XT (U G) z q ⟨Y.loc,OL.a Y.objs (.dict []),Y.fa⟩) λv m=>.aW (dist (v.map (·.1))) λp=>.dJ m.objs (Y.objs.length) λo y=>match o,y with
 |.dict g,y=>match g,y with
  |[],y=>fin K (.obj Y.objs.length) ⟨m.loc,OL.s m.objs Y.objs.length (.dict v),m.fa⟩ λk=>⟨p,y,k⟩
  |_::_,_=>.no
 |_,_=>.no)
noncomputable def YV (l:Expr) (A:Operator) (r:Expr):VG G (aA G (.BinOp l A r V) Y (hh K)):=gm xw (bind ((U G).E l Y) λx m=>bind ((U G).E r m) λy z=>Yw G A x y z K)
noncomputable def YW (A:UnaryOp) (e:Expr):VG G (aA G (.UnaryOp A e V) Y (hh K)):=gm UC (bind ((U G).E e Y) λx m=>Ui G m x K A)
noncomputable def YX (z:Const) (k:Nat) (p:Pos):VG G (aA G (.Constant z k p) Y (hh K)):=.one (Uz z) λx=>fin K x.1 Y x.2
noncomputable def II (x:Str) (p:Pos) (y:SV) (Y:SS) (K:SS->Tr):VG G (fc G (.Name x p) y Y λY=>(K Y).h):=.opt (lk x G.cs.names) λk v=>match k,v with
 |.local,v=>⟨K ⟨(x,y)::Y.loc,Y.objs,Y.fa⟩,λh z=>qP (K:=λY=>(K Y).h) v h⟩
 |.cell,v=>.opt (lk x G.cv) λi q=>.dJ Y.objs i λo u=>match o,u with
  |.cell w,u=>⟨K ⟨Y.loc,OL.s Y.objs i (.cell (aa y)),Y.fa⟩,λh z=>Xv (K:=λY=>(K Y).h) v q u h⟩
  |_,_=>.no
 |_,_=>.no
noncomputable def IJ (ob:Expr) (nm:Str) (p:Pos) (y:SV) (Y:SS) (K:SS->Tr):VG G (fc G (.Attribute ob nm p) y Y λY=>(K Y).h):=gm UT (bind ((U G).E ob Y) λx m=>Bf G m x nm y K)
noncomputable def YY (t:Expr) (y:SV) (Y:SS) (K:SS->Tr):VG G (fc G t y Y λY=>(K Y).h):=@EV.rec (λt z=>VG G (fc G t y Y λY=>(K Y).h)) (λz z z=>.no) (λx p=>II G x p y Y K) (λob nm p=>IJ U G ob nm p y Y K) (λz z z z z z=>.no) (λz z z=>.no) (λz z z z=>.no) (λz z z=>.no) (λz z z z=>.no) (λz z z z=>.no) (λz z z=>.no) (λz z=>.no) (λz z z=>.no) (λz z z=>.no) (λz z z z=>.no) (λz z z z z=>.no) (λz z z z=>.no) (λz=>.no) t (nO t)
noncomputable def YZ {G:Gx} {y:Type} {R:List Addr->y->Prop} {t:Cx->y->Sem Unit} {Y:SS} {Q:SS->Prop} (a:∀K:SS->Tr,VG G (aC G (λ_ (_:Unit) _=>True) R t Y λx Y=>(K Y).h)) (F:∀m,VG G (Q m)):VG G (aC G (λ_ (_:Unit) _=>True) R t Y λx=>Q):=
 ⟨(a λm=>(F m).t).t,λh g=>((a _).ok h g).mp λx m z=>(F m).ok z g⟩
noncomputable def Ce:∀(L:List Expr) (j:List SV) (Y:SS) (K:SS->Tr),VG G (j6 G L j Y λY=>(K Y).h):=@bE Expr (λL=>∀(j:List SV) (Y:SS) (K:SS->Tr),VG G (j6 G L j Y λY=>(K Y).h))
 (λj Y K=>match j with
   |[]=>⟨K Y,λh z=>h⟩
   |_::_=>.no)
 λt L p j Y K=>match j with
  |[]=>.no
  |y::j=>YZ (YY U G t y Y) λm=>p j m K
noncomputable def Y0 (L:List Expr) (k:Nat) (p:Pos) (y:SV) (Y:SS) (K:SS->Tr):VG G (fc G (.Tuple L k p) y Y λY=>(K Y).h):=.one (G4 L) λu=>.one (xA G y Y) (λv=>.aW (aQ L.length v.1.length) λx=>gm (U5 u.1 v.2 x) (Ce U G L v.1 Y K)) (.one (iB y) λi=>.dJ Y.objs i.1 λo q=>.one (gy o) λz=>.one (gg z.1.1) λm=>.aW (aQ L.length z.1.2.length) λx=>gm (VH u.1 i.2 (m.1▸z.2▸q) x) (Ce U G L z.1.2 Y K))
noncomputable def q4 (t:Expr) (y:SV) (Y:SS) (K:SS->Tr):VG G (fc G t y Y λY=>(K Y).h):=@EV.rec (λt z=>VG G (fc G t y Y λY=>(K Y).h)) (λz z z=>.no) (λx p=>II G x p y Y K) (λob nm p=>IJ U G ob nm p y Y K) (λz z z z z z=>.no) (λz z z=>.no) (λz z z z=>.no) (λz z z=>.no) (λz z z z=>.no) (λz z z z=>.no) (λz z z=>.no) (λz z=>.no) (λL k p=>Y0 U G L k p y Y K) (λz z z=>.no) (λz z z z=>.no) (λz z z z z=>.no) (λz z z z=>.no) (λz=>.no) t (nO t)
noncomputable def Cf (e:Expr) (Y:SS) (K:Src->SS->Tr):VG G (jb G e Y λS Y=>(K S Y).h):=gm HW (bind ((U G).E e Y) λx m=>.one (iB x) λi=>.dJ m.objs i.1 λo y=>.one (gy o) (λz=>⟨K (xK i.1) m,λh u=>.l i.1 _ _ i.2 (z.2▸y) h⟩) (.one (Gv o) λv=>⟨K (BQ i.1) ⟨m.loc,OL.s m.objs i.1 (.eu v.1),m.fa⟩,λh u=>.d i.1 _ i.2 (v.2▸y) h⟩))
noncomputable def Cg (x:Scope) (v:List (Str×Nat)) (L m:Expr) (j:Nat) (S:Src) (P:SS->Tr):Nat->Nat->SS->Tr:=eT (λq q=>.ff) λq p i Y=>match S.it Y i with
 |ah=>.ff
 |some r=>match r with
  |ah=>match S.bk Y with
   |ah=>.ff
   |some u=>P u
  |some z=>(q4 U (G.comp x v) L z ⟨[],Y.objs,Y.fa⟩ λY=>((U (G.comp x v)).E m Y λy Y=>match OL.get Y.objs j with
   |some (.list ah k)=>@az (λq=>Tr) .ff (p (i+1) ⟨[],OL.s Y.objs j (.list ah (k++[y])),Y.fa⟩) (aD k.length 1000)
   |_=>.ff).t).t
theorem bw.comp{G:Gx}(h:bw G)(y:Scope)(u:List (Str×Nat)):bw (G.comp y u):=⟨λx v=>Om.nm v,h.bl,λx v=>Om.nm v,λx v=>Om.nm v,λz z z h=>h⟩
set_option tactic.hygienic true in
theorem IK{x:Scope}{p:List (Str×Nat)}{L M:Expr}{j:Nat}{S:Src}{P:SS->Tr}(g:bw G):Mk G x p L M j S (λn i Y=>(Cg U G x p L M j S P n i Y).h) λY=>(P Y).h:=⟨λn i Y C=>by
 cases n with
 |zero=>exact C.elim
 |succ n=>
  have u:(match S.it Y i with
   |ah=>Tr.ff
   |some r=>match r with
    |ah=>match S.bk Y with
     |ah=>Tr.ff
     |some O=>P O
    |some z=>_:Tr).h:=C
  cases e:S.it Y i with
  |none=>rw[e] at u;exact u.elim
  |some r=>
   rw[e] at u
   refine⟨r,rfl,?_⟩
   cases r with
   |none=>
    dsimp only at u⊢
    cases q:S.bk Y with
    |none=>rw[q] at u;exact u.elim
    |some O=>rw[q] at u;exact⟨O,q,u⟩
   |some z=>
    refine((q4 U (G.comp x p) L z ⟨[],Y.objs,Y.fa⟩ _).ok u (g.comp x p)).mp λqq m h=>(((U (G.comp x p)).E M m _).ok h (g.comp x p)).mp λy k h=>?_
    have H:(match OL.get k.objs j with
     |some (.list ah D)=>@az (λqq=>Tr) .ff _ (aD D.length 1000)
     |_=>Tr.ff:Tr).h:=h
    split at H
    ·rename_i D e2
     cases B:aD D.length 1000 with
     |false=>rw[B] at H;exact H.elim
     |true=>
      rw[B] at H
      refine⟨ah,D,(OL.get_eq _ _).symm.trans e2,λus q=>?_,ah,D++[y],λus ρ A v q f r=>?_,n,gp n,H⟩
      ·obtain rfl:=q
       exact aq (aK (i9 _)) (aq (aB B) (by decide))
      ·obtain rfl:=q
       exact⟨[],A++[v],rfl,rfl,f.app (.one r)⟩
    ·exact H.elim⟩
noncomputable def Y3 (y:Expr) (x:List Comprehension) (z:Scope):VG G (aA G (.ListComp y x z V) Y (hh K)):=.one (HB x) λp=>.one (BH p.1.2) λq=>.aW (ue G z) λk=>
 let v:=λP=>Cf U G p.1.2 Y P
 ⟨(v λS m=>Cg U G z (kc z G.cv) p.1.1 y m.objs.length S (λY=>K (.obj m.objs.length) ⟨m.loc,Y.objs,Y.fa⟩) 30 0 ⟨[],OL.a m.objs (.list ah []),m.fa⟩).t,
   λh g=>p.2▸BI (xP k) q.1 (jb.mp ((v _).ok h g) λS u j=>⟨_,30,IK U G g,j⟩)⟩
noncomputable def Y4 (e:Expr) (Y:SS) (K:SV->SS->Tr):VG G (aA G e Y (hh K)):=@EV.rec (λe z=>VG G (aA G e Y (hh K))) (λH k p=>YX G Y K H k p) (λn p=>YI G Y K n p) (λob nm p=>YJ U G Y K ob nm p) (λob lo M st p V=>YA U G ob lo M st p V Y K) (λob O V=>YK U G Y K V ob O) (λl A r V=>YV U G Y K V l A r)
 (λA e V=>YW U G Y K V A e) (λl u y V=>YN U G Y K V l u y) (λt b e V=>YS U G Y K V t b e) (λA v V=>YR U G Y K V A v) (λv V=>listE U G Y K V v) (λv k V=>YT U G Y K V v k) (λg q V=>YU U G Y K V g q) (λn p x V=>Yk U G n p x V Y K)
 (λob nm D x V=>Yr U G ob nm D x V Y K) (λm L j V=>Y3 U G Y K V m L j) (λz=>.no) e (nO e)
noncomputable def Y5 (e:Expr):VG G (bS G (.UnaryOp .Not e V) Y (hh K)):=gm UH (bind ((U G).T e Y) λx m=>kj x m (λY=>fin K (.bool aj) Y id) λY=>fin K (.bool ai) Y id)
noncomputable def Y6 (z:List Expr):VG G (bS G (.BoolOp .And z V) Y (hh K)):=match z with
 |[]=>fin K (.bool ai) Y GZ
 |e::r=>gm Bl (bind ((U G).T e Y) λb m=>kj b m (λY=>(U G).T (.BoolOp .And r V) Y K) λY=>fin K (.bool aj) Y id)
noncomputable def Y7 (z:List Expr):VG G (bS G (.BoolOp .Or z V) Y (hh K)):=match z with
 |[]=>fin K (.bool aj) Y UI
 |e::r=>gm UJ (bind ((U G).T e Y) λb m=>kj b m (λY=>fin K (.bool ai) Y id) λY=>(U G).T (.BoolOp .Or r V) Y K)
noncomputable def Y8 (t b e:Expr):VG G (bS G (.IfExp t b e V) Y (hh K)):=gm UK (bind ((U G).T t Y) λx m=>kj x m (λY=>(U G).T b Y K) λY=>(U G).T e Y K)
noncomputable def Y9 (l r:Expr) (A:CmpOp):VG G (bS G (.Compare l [A] [r] V) Y (hh K)):=.one (xM r) λf=>gm (cmp_T f.1) (bind ((U G).E l Y) λx m=>bind ((U G).E r m) λy u=>bind (qZ G A x y u) λz v=>oR G v z K)
noncomputable def Za (l r j:Expr) (A q:CmpOp):VG G (bS G (.Compare l [A,q] [r,j] V) Y (hh K)):=.one (xM j) λf=>gm (UL f.1) (bind ((U G).E l Y) λx m=>bind ((U G).E r m) λy k=>bind (qZ G A x y k) λz u=>bind (oR G u z) λb h=>kj b h (λh=>bind ((U G).E j h) λw p=>bind (qZ G q y w p) λg v=>oR G v g K) λh=>fin K (.bool aj) h id)
noncomputable def Zb (l:Expr) (z:List CmpOp) (y:List Expr):VG G (bS G (.Compare l z y V) Y (hh K)):=match z,y with
 |[A],[r]=>Y9 U G Y K V l r A
 |[A,q],[r,x]=>Za U G Y K V l r x A q
 |_,_=>.no
noncomputable def plainT (e:Expr):VG G (bS G e Y (hh K)):=.one (GX e) λh=>gm (GY h.1) (bind ((U G).E e Y) λx m=>oR G m x K)
noncomputable def Zc (A:UnaryOp) (e:Expr):VG G (bS G (.UnaryOp A e V) Y (hh K)):=match A with
 |.Not=>Y5 U G Y K V e
 |_=>.no
noncomputable def Zd (A:BoolOp) (z:List Expr):VG G (bS G (.BoolOp A z V) Y (hh K)):=match A with
 |.And=>Y6 U G Y K V z
 |.Or=>Y7 U G Y K V z
noncomputable def stepT (e:Expr) (Y:SS) (K:SV->SS->Tr):VG G (bS G e Y (hh K)):=@EV.rec (λe z=>VG G (bS G e Y (hh K))) (λm k p=>plainT U G Y K _) (λn p=>plainT U G Y K _) (λob nm p=>plainT U G Y K _) (λz z z z z z=>.no) (λob q V=>plainT U G Y K _) (λl A r V=>plainT U G Y K _)
 (λA e V=>Zc U G Y K V A e) (λl v y V=>Zb U G Y K V l v y) (λt b e V=>Y8 U G Y K V t b e) (λA u V=>Zd U G Y K V A u) (λz z=>.no) (λz z z=>.no) (λz z z=>.no) (λn p x V=>plainT U G Y K _) (λob nm j x V=>plainT U G Y K _) (λz z z z=>.no) (λz=>.no) e (nO e)
variable(K:Fl->SS->Tr)
noncomputable def q6 (S:Src) (K:Fl->SS->Tr) (y:Fl) (Y:SS):Tr:=match S.bk Y with
 |ah=>.ff
 |some z=>K y z
noncomputable def Ze (S:Src) (K:Fl->SS->Tr) (J:SS->Tr) (z:Fl) (Y:SS):Tr:=match z with
 |.next=>J Y
 |.cont=>J Y
 |.brk=>q6 S K .next Y
 |.ret v=>q6 S K (.ret v) Y
theorem Ci{S:Src}{K:Fl->SS->Tr}{y:Fl}{Y:SS}(h:(q6 S K y Y).h):Bk S (hh K y) Y:=by
 unfold q6 at h
 cases q:S.bk Y with
 |none=>rw[q] at h;exact h.elim
 |some z=>rw[q] at h;exact⟨z,q,h⟩
noncomputable def yf (L:Expr) (y:List Stmt) (S:Src) (K:Fl->SS->Tr):Nat->Nat->SS->Tr:=eT (λx x=>.ff) λx p i Y=>match S.it Y i with
 |ah=>.ff
 |some r=>match r with
  |ah=>q6 S K .next Y
  |some z=>(q4 U G L z Y λY=>(di (U G) y Y (Ze S K (p (i+1)))).t).t
theorem Zf{L:Expr}{y:List Stmt}{K:Fl->SS->Tr}(g:bw G)(S:Src)(n i:Nat)(Y:SS)(C:(yf U G L y S K n i Y).h):∃r,S.it Y i=aa r/\match r with
 |some z=>fc G L z Y λY=>aO G y Y (Hy S (hh K) λY=>∃q,q<n/\(yf U G L y S K q (i+1) Y).h)
 |ah=>Bk S (hh K .next) Y:=by
 cases n with
 |zero=>exact C.elim
 |succ n=>
  have x:(match S.it Y i with
   |ah=>Tr.ff
   |some r=>match r with
    |ah=>q6 S K .next Y
    |some z=>_:Tr).h:=C
  cases e:S.it Y i with
  |none=>rw[e] at x;exact x.elim
  |some r=>
   rw[e] at x
   refine⟨r,rfl,?_⟩
   cases r with
   |none=>exact Ci x
   |some z=>
    refine((q4 U G L z Y _).ok x g).mp λk m h=>((di (U G) y m _).ok h g).mp λp u h=>?_
    cases p with
    |next=>exact⟨n,gp n,h⟩
    |cont=>exact⟨n,gp n,h⟩
    |brk=>exact Ci h
    |ret v=>exact Ci h
noncomputable def Zg (L iter:Expr) (z y:List Stmt):VG G (bc G (.For L iter z y V) Y (hh K)):=match y with
 |[]=>.one (BH iter) λx=>
  let v:=λP=>Cf U G iter Y P
  ⟨(v λS m=>yf U G L z S K 30 0 m).t,λh g=>xJ g.kx x.1 (λS n i Y=>(yf U G L z S K n i Y).h) (λS n i Y C=>Zf U G g S n i Y C) 30 ((v _).ok h g)⟩
 |_::_=>.no
noncomputable def Cj (x:SV) (Y:SS) (A B:SS->Tr):Tr:=match x with
 |.bool c=>@az (λz=>Tr) (B Y) (A Y) c
 |.sb c=>.im c (A Y) (B Y)
 |.bm k l p q=>.and (A (Y.add k l p q ai)) (B (Y.add k l p q aj))
 |_=>.ff
theorem IL{x:SV}{Y:SS}{A B:SS->Tr}(h:(Cj x Y A B).h):Br x Y (λY=>(A Y).h) λY=>(B Y).h:=by
 cases x with
 |bool c=>cases c<;>exact h
 |sb c=>exact h
 |bm k l p q=>exact h
 |_=>exact h.elim
noncomputable def turnT (K:Fl->SS->Tr) (J:SS->Tr) (z:Fl) (Y:SS):Tr:=match z with
 |.next=>J Y
 |.cont=>J Y
 |.brk=>K .next Y
 |.ret v=>K (.ret v) Y
noncomputable def IM (t:Expr) (b:List Stmt) (K:Fl->SS->Tr):Nat->SS->Tr:=eT (λz=>.ff) λz p Y=>((U G).T t Y λx m=>Cj x m (λY=>(di (U G) b Y (turnT K p)).t) (K .next)).t
noncomputable def Zh (t:Expr) (b:List Stmt):VG G (bc G (.While t b [] V) Y (hh K)):=⟨IM U G t b K 14 Y,λh g=>qX g.kx (λn Y=>(IM U G t b K n Y).h) (λn Y C=>by
 cases n with
 |zero=>exact C.elim
 |succ n=>exact(((U G).T t Y _).ok C g).mp λx m z=>(IL z).mp (λY h=>((di (U G) b Y _).ok h g).mp λu y z=>by
   cases u with
   |next=>exact⟨n,gp n,z⟩
   |cont=>exact⟨n,gp n,z⟩
   |brk=>exact z
   |ret v=>exact z) λq h=>h) 14 h⟩
noncomputable def Zi (x:Str) (p:Pos) (e:Expr) (g:dK e):VG G (bc G (.Assign [.Name x p] e V) Y (hh K)):=.opt (lk x G.cs.names) λk z=>match k,z with
 |.local,z=>gm (jD g z) (bind ((U G).E e Y) λy m=>fin K .next ⟨(x,y)::m.loc,m.objs,m.fa⟩ id)
 |.cell,z=>.opt (lk x G.cv) λi u=>gm (UU g z u) (bind ((U G).E e Y) λy m=>.dJ m.objs i λo v=>match o,v with
  |.cell w,v=>fin K .next ⟨m.loc,OL.s m.objs i (.cell (aa y)),m.fa⟩ λh=>⟨⟨w,v⟩,h⟩
  |_,_=>.no)
 |_,_=>.no
noncomputable def Zj (ob:Expr) (nm:Str) (p:Pos) (e:Expr) (g:dK e):VG G (bc G (.Assign [.Attribute ob nm p] e V) Y (hh K)):=gm (UW g) (bind ((U G).E e Y) λy m=>bind ((U G).E ob m) λx z=>Bf G z x nm y (K .next))
noncomputable def Zk (ob i:Expr) (p:Pos) (e:Expr) (g:dK e):VG G (bc G (.Assign [.Subscript ob i p] e V) Y (hh K)):=gm (UX g) (bind ((U G).E e Y) λy m=>bind ((U G).E ob m) λx u=>bind ((U G).E i u) λz v=>GR G v x z y (K .next))
noncomputable def Zl (L:List Expr) (k:Nat) (p:Pos) (e:Expr) (g:dK e):VG G (bc G (.Assign [.Tuple L k p] e V) Y (hh K)):=.one (U4 e) λy=>.one (G4 L) λz=>gm (U6 g y.1 z.1) (bind ((U G).E e Y) λx m=>.one (xA G x m) λv=>.aW (aQ L.length v.1.length) λu=>gm (λh=>⟨v.1,v.2,u,h⟩) (Ce U G L v.1 m (K .next)))
noncomputable def gU (t e:Expr):VG G (bc G (.Assign [t] e V) Y (hh K)):=.one (mr e) λg=>@EV.rec (λt z=>VG G (bc G (.Assign [t] e V) Y (hh K))) (λz z z=>.no) (λx p=>Zi U G Y V K x p e g.1) (λob nm p=>Zj U G Y V K ob nm p e g.1) (λz z z z z z=>.no) (λob i p=>Zk U G Y V K ob i p e g.1) (λz z z z=>.no) (λz z z=>.no) (λz z z z=>.no) (λz z z z=>.no) (λz z z=>.no) (λz z=>.no) (λL k p=>Zl U G Y V K L k p e g.1) (λz z z=>.no) (λz z z z=>.no) (λz z z z z=>.no) (λz z z z=>.no) (λz=>.no) t (nO t)
noncomputable def Zm (x:Str) (p:Pos) (j:Expr) (M:List Comprehension) (z:Scope) (u:Pos):VG G (bc G (.Assign [.Name x p] (.ListComp j M z u) V) Y (hh K)):=.opt (lk x G.cs.names) λk O=>match k,O with
 |.local,O=>.one (HB M) λq=>.one (BH q.1.2) λC=>.aW (ue G z) λB=>.aW (p.line==u.line) λD=>.aW (!(z.names.any λy=>y.1==x&&(y.2==.local||y.2==.cell))) λH=>
  let v:=λP=>Cf U G q.1.2 Y P
  ⟨(v λS m=>Cg U G z (kc z G.cv) q.1.1 j m.objs.length S (λY=>K .next ⟨(x,.obj m.objs.length)::m.loc,Y.objs,Y.fa⟩) 30 0 ⟨[],OL.a m.objs (.list ah []),m.fa⟩).t,
    λh g=>q.2▸XD D (by simpa using H) O (xP B) C.1 (jb.mp ((v _).ok h g) λS L A=>⟨_,30,IK U G g,A⟩)⟩
 |_,_=>.no
noncomputable def Zn (t v:Expr) (q:List Comprehension) (u:Scope) (y:Pos):VG G (bc G (.Assign [t] (.ListComp v q u y) V) Y (hh K)):=@EV.rec (λt z=>VG G (bc G (.Assign [t] (.ListComp v q u y) V) Y (hh K))) (λz z z=>.no) (λx p=>Zm U G Y V K x p v q u y) (λz z z=>.no) (λz z z z z z=>.no) (λz z z=>.no) (λz z z z=>.no) (λz z z=>.no) (λz z z z=>.no) (λz z z z=>.no) (λz z z=>.no) (λz z=>.no) (λz z z=>.no) (λz z z=>.no) (λz z z z=>.no) (λz z z z z=>.no) (λz z z z=>.no) (λz=>.no) t (nO t)
noncomputable def Zo (t e:Expr):VG G (bc G (.Assign [t] e V) Y (hh K)):=@EV.rec (λe z=>VG G (bc G (.Assign [t] e V) Y (hh K))) (λz z z=>gU U G Y V K t _) (λz z=>gU U G Y V K t _) (λz z z=>gU U G Y V K t _) (λz z z z z z=>gU U G Y V K t _) (λz z z=>gU U G Y V K t _) (λz z z z=>gU U G Y V K t _) (λz z z=>gU U G Y V K t _) (λz z z z=>gU U G Y V K t _) (λz z z z=>gU U G Y V K t _) (λz z z=>gU U G Y V K t _) (λz z=>gU U G Y V K t _) (λz z z=>gU U G Y V K t _) (λz z z=>gU U G Y V K t _) (λz z z z=>gU U G Y V K t _) (λz z z z z=>gU U G Y V K t _) (λx u v y=>Zn U G Y V K t x u v y) (λz=>gU U G Y V K t _) e (nO e)
noncomputable def Zp (x:Str) (p:Pos) (A:Operator) (e:Expr):VG G (bc G (.AugAssign (.Name x p) A e V) Y (hh K)):=.opt (lk x G.cs.names) λk q=>match k,q with
 |.local,q=>.opt (lk x Y.loc) λu j=>gm (UY q j) (bind ((U G).E e Y) λy m=>bind (Bd G m u y · A) λz v=>fin K .next ⟨(x,z)::v.loc,v.objs,v.fa⟩ id)
 |_,_=>.no
noncomputable def Zq (ob:Expr) (nm:Str) (p:Pos) (A:Operator) (e:Expr):VG G (bc G (.AugAssign (.Attribute ob nm p) A e V) Y (hh K)):=gm UZ (bind ((U G).E ob Y) λx m=>bind (GO G m · x nm) λq u=>bind ((U G).E e u) λy v=>bind (Bd G v q y · A) λz h=>Bf G h x nm z (K .next))
noncomputable def Zr (ob i:Expr) (p:Pos) (A:Operator) (e:Expr):VG G (bc G (.AugAssign (.Subscript ob i p) A e V) Y (hh K)):=.one (mr i) λj=>gm (U0 j.1) (bind ((U G).E ob Y) λx m=>bind ((U G).E i m) λy q=>bind (λK=>gm And.left (GQ G q K x y)) λk u=>bind ((U G).E e u) λz h=>bind (Bd G h k z · A) λw v=>GR G v x y w (K .next))
noncomputable def Zs (t:Expr) (A:Operator) (e:Expr):VG G (bc G (.AugAssign t A e V) Y (hh K)):=@EV.rec (λt z=>VG G (bc G (.AugAssign t A e V) Y (hh K))) (λz z z=>.no) (λx p=>Zp U G Y V K x p A e) (λob nm p=>Zq U G Y V K ob nm p A e) (λz z z z z z=>.no) (λob i p=>Zr U G Y V K ob i p A e) (λz z z z=>.no) (λz z z=>.no) (λz z z z=>.no) (λz z z z=>.no) (λz z z=>.no) (λz z=>.no) (λz z z=>.no) (λz z z=>.no) (λz z z z=>.no) (λz z z z z=>.no) (λz z z z=>.no) (λz=>.no) t (nO t)
noncomputable def Zt (e:Expr):VG G (bc G (.Return (aa e) V) Y (hh K)):=gm Bo (bind ((U G).E e Y) λx m=>fin K (.ret x) m id)
noncomputable def Zu (t:Expr) (b e:List Stmt):VG G (bc G (.If t b e V) Y (hh K)):=gm iS (bind ((U G).T t Y) λx m=>kj x m (λY=>di (U G) b Y K) λY=>di (U G) e Y K)
noncomputable def Zv (e:Expr):VG G (bc G (.Expr e V) Y (hh K)):=.one (mr e) λg=>gm (G0 g.1) (bind ((U G).E e Y) λx m=>.one (UR x) λh=>fin K .next m λk=>⟨h.1,k⟩)
noncomputable def Zw (t:Expr):VG G (bc G (.Assert t ah V) Y (hh K)):=gm UQ (bind ((U G).T t Y) λb m=>kj b m (λY=>fin K .next Y id) λz=>.no)
noncomputable def Zx (st:Stmt) (Y:SS) (K:Fl->SS->Tr):VG G (bc G st Y (hh K)):=@TV.rec (λst z=>VG G (bc G st Y (hh K))) (λV=>fin K .next Y pass_S) (λe V=>Zt U G Y V K e) (λV=>fin K (.ret .none) Y UP) (λt b e V=>Zu U G Y V K t b e) (λe V=>Zv U G Y V K e) (λt e k=>Zo U G Y k K t e) (λt A e V=>Zs U G Y V K t A e) (λt V=>Zw U G Y V K t) (λL q b y V=>Zg U G Y V K L q b y) (λV=>fin K .brk Y UN) (λV=>fin K .cont Y UO) (λt b V=>Zh U G Y V K t b) (λb v x V=>⟨(di (U G) b Y K).t,λh g=>Xu g.kx ((di (U G) b Y K).ok h g)⟩) (λz=>.no) st (XS st)
noncomputable def step:Ops G:=⟨Y4 U G,stepT U G,Zx U G⟩
end
noncomputable def ex (n:Nat):∀G,Ops G:=@eT (λz=>∀G,Ops G) (λz=>⟨λz z z=>.no,λz z z=>.no,λz z z=>.no⟩) (λz U G=>step U G) n
end Ex
namespace Tb
section
open Hd Ex
noncomputable def fn (x:Stmt) (q:String) (dV y m z:Value) (p:Option Nat) (u ct:Value) (D:List Str) (v:List Value):aR:=match x with
 |.FunctionDef n a b _ _ _ U _ _ _=>⟨n,af q,a,b,U,dV,y,m,z,p,u,ct,D,v⟩
 |_=>⟨default,default,default,[],default,.none,.none,.none,.none,ah,.none,.none,[],[]⟩
noncomputable def mK:aR:=fn (st 7) "asciiLower" N N N (S "html5lib.constants" 194) ah (r 41) N [af "text"] []
noncomputable def Zy:aR:=fn (cs 13 0) "Text.__init__" N N N (S "html5lib._inputstream" 564) ah (r 62) N [af "self",af "text"] []
noncomputable def Zz:aR:=fn (cs 13 1) "Text.read" N N N (S "html5lib._inputstream" 564) ah (r 69) N [af "self",af "size"] []
noncomputable def ZA:aR:=fn (st 14) "_is_invalid" N N N (S "html5lib._inputstream" 564) ah (r 83) N [af "codepoint"] []
noncomputable def ZC:aR:=fn (cs 15 1) "HTMLUnicodeInputStream.__init__" N N N (S "html5lib._inputstream" 564) ah (r 97) N [af "self",af "source"] []
noncomputable def ZD:aR:=fn (cs 15 2) "HTMLUnicodeInputStream.reset" N N N (S "html5lib._inputstream" 564) ah (r 104) N [af "self"] []
noncomputable def ZE:aR:=fn (cs 15 3) "HTMLUnicodeInputStream.openStream" N N N (S "html5lib._inputstream" 564) ah (r 111) N [af "self",af "source"] []
noncomputable def ZF:aR:=fn (cs 15 4) "HTMLUnicodeInputStream._position" N N N (S "html5lib._inputstream" 564) ah (r 118) N [af "self",af "offset"] []
noncomputable def ZG:aR:=fn (cs 15 5) "HTMLUnicodeInputStream.position" N N N (S "html5lib._inputstream" 564) ah (r 125) N [af "self"] []
noncomputable def ZH:aR:=fn (cs 15 6) "HTMLUnicodeInputStream.char" N N N (S "html5lib._inputstream" 564) ah (r 132) N [af "self"] []
noncomputable def ZI:aR:=fn (cs 15 7) "HTMLUnicodeInputStream.readChunk" (r 134) N N (S "html5lib._inputstream" 564) ah (r 140) N [af "self",af "chunkSize"] [N]
noncomputable def q8:aR:=fn (cs 15 8) "HTMLUnicodeInputStream.characterErrorsUCS4" N N N (S "html5lib._inputstream" 564) ah (r 147) N [af "self",af "data"] []
noncomputable def gV:aR:=fn (cs 15 9) "HTMLUnicodeInputStream.charsUntil" (r 149) N N (S "html5lib._inputstream" 564) ah (r 155) N [af "self",af "characters",af "opposite"] [(.bool aj)]
noncomputable def ZJ:aR:=fn (cs 15 10) "HTMLUnicodeInputStream.unget" N N N (S "html5lib._inputstream" 564) ah (r 162) N [af "self",af "char"] []
noncomputable def ux:aR:=fn (st 17) "bisect_left" (r 171) N N (S "html5lib._trie.py" 736) ah (r 177) N [af "rows",af "key",af "low",af "high"] [(I 0 738),N]
noncomputable def ZK:aR:=fn (cs 18 1) "Trie.__contains__" N N N (S "html5lib._trie.py" 736) ah (r 198) N [af "self",af "key"] []
noncomputable def ZL:aR:=fn (cs 18 2) "Trie.__len__" N N N (S "html5lib._trie.py" 736) ah (r 205) N [af "self"] []
noncomputable def ZM:aR:=fn (cs 18 3) "Trie.__getitem__" N N N (S "html5lib._trie.py" 736) ah (r 212) N [af "self",af "key"] []
noncomputable def ZN:aR:=fn (cs 18 4) "Trie.has_keys_with_prefix" N N N (S "html5lib._trie.py" 736) ah (r 219) N [af "self",af "prefix"] []
noncomputable def o6:aR:=fn (cs 18 5) "Trie.longest_prefix" N N N (S "html5lib._trie.py" 736) ah (r 226) N [af "self",af "prefix"] []
noncomputable def ZO:aR:=fn (cs 21 0) "HTMLTokenizer.__init__" (r 254) N N (S "html5lib._tokenizer" 825) ah (r 260) N [af "self",af "stream",af "parser"] [N]
noncomputable def q9:aR:=fn (cs 21 2) "HTMLTokenizer.consumeNumberEntity" N N N (S "html5lib._tokenizer" 825) ah (r 274) N [af "self",af "isHex"] []
noncomputable def ko:aR:=fn (cs 21 3) "HTMLTokenizer.consumeEntity" (r 276) N N (S "html5lib._tokenizer" 825) ah (r 282) N [af "self",af "allowedChar",af "fromAttribute"] [N,(.bool aj)]
noncomputable def yg:aR:=fn (cs 21 4) "HTMLTokenizer.processEntityInAttribute" N N N (S "html5lib._tokenizer" 825) ah (r 289) N [af "self",af "allowedChar"] []
noncomputable def ZP:aR:=fn (cs 21 5) "HTMLTokenizer.emitCurrentToken" N N N (S "html5lib._tokenizer" 825) ah (r 296) N [af "self"] []
noncomputable def ZQ:aR:=fn (cs 21 6) "HTMLTokenizer.dataState" N N N (S "html5lib._tokenizer" 825) ah (r 303) N [af "self"] []
noncomputable def ZR:aR:=fn (cs 21 7) "HTMLTokenizer.entityDataState" N N N (S "html5lib._tokenizer" 825) ah (r 310) N [af "self"] []
noncomputable def ZS:aR:=fn (cs 21 13) "HTMLTokenizer.tagOpenState" N N N (S "html5lib._tokenizer" 825) ah (r 352) N [af "self"] []
noncomputable def ZT:aR:=fn (cs 21 39) "HTMLTokenizer.beforeAttributeNameState" N N N (S "html5lib._tokenizer" 825) ah (r 534) N [af "self"] []
noncomputable def ZU:aR:=fn (cs 21 40) "HTMLTokenizer.attributeNameState" N N N (S "html5lib._tokenizer" 825) ah (r 541) N [af "self"] []
noncomputable def ZV:aR:=fn (cs 21 41) "HTMLTokenizer.afterAttributeNameState" N N N (S "html5lib._tokenizer" 825) ah (r 548) N [af "self"] []
noncomputable def ZW:aR:=fn (cs 21 42) "HTMLTokenizer.beforeAttributeValueState" N N N (S "html5lib._tokenizer" 825) ah (r 555) N [af "self"] []
noncomputable def ZX:aR:=fn (cs 21 43) "HTMLTokenizer.attributeValueDoubleQuotedState" N N N (S "html5lib._tokenizer" 825) ah (r 562) N [af "self"] []
noncomputable def ZY:aR:=fn (cs 21 44) "HTMLTokenizer.attributeValueSingleQuotedState" N N N (S "html5lib._tokenizer" 825) ah (r 569) N [af "self"] []
noncomputable def ZZ:aR:=fn (cs 21 45) "HTMLTokenizer.attributeValueUnQuotedState" N N N (S "html5lib._tokenizer" 825) ah (r 576) N [af "self"] []
noncomputable def Z0:aR:=fn (cs 21 46) "HTMLTokenizer.afterAttributeValueState" N N N (S "html5lib._tokenizer" 825) ah (r 583) N [af "self"] []
noncomputable def Z1:aR:=fn (cs 21 47) "HTMLTokenizer.selfClosingStartTagState" N N N (S "html5lib._tokenizer" 825) ah (r 590) N [af "self"] []
noncomputable def Z2:aR:=fn (st 24) "_law_ENDS" N N N (S "law_te0077_02" 1442) ah (r 773) N [] []
noncomputable def Z3:aR:=fn (st 25) "_law_MARKS" N N N (S "law_te0077_02" 1442) ah (r 780) N [] []
noncomputable def Z4:aR:=fn (st 26) "_law_OPEN" N N N (S "law_te0077_02" 1442) ah (r 787) N [] []
noncomputable def uy:aR:=fn (st 27) "_law_begin" N N N (S "law_te0077_02" 1442) ah (r 794) N [af "text",af "value"] []
noncomputable def Z5:aR:=fn (st 28) "_law_call" N N N (S "law_te0077_02" 1442) ah (r 801) N [af "t",af "state"] []
noncomputable def mL:aR:=fn (st 29) "_law_told" N N N (S "law_te0077_02" 1442) ah (r 806) N [af "t"] []
noncomputable def uz:aR:=fn (st 30) "_law_reference" N N N (S "law_te0077_02" 1442) ah (r 811) N [af "rest",af "state"] []
noncomputable def uA:aR:=fn (st 31) "_law_cut" N N N (S "law_te0077_02" 1442) ah (r 818) N [af "mended",af "state"] []
noncomputable def fU:aR:=fn (st 32) "law" N N N (S "law_te0077_02" 1442) ah (r 823) N [af "script"] []
noncomputable def Z6:CI:=⟨73,[af "text",af "place"],[(af "__init__",63),(af "read",70)],[]⟩
noncomputable abbrev Z7:Nat:=166
noncomputable def Ck:CI:=⟨166,[af "reportCharacterErrors",af "newLines",af "dataStream",af "chunk",af "chunkSize",af "chunkOffset",af "errors",af "prevNumLines",af "prevNumCols",af "_bufferedCharacter"],[(af "__init__",98),(af "reset",105),(af "openStream",112),(af "_position",119),(af "position",126),(af "char",133),(af "readChunk",141),(af "characterErrorsUCS4",148),(af "charsUntil",156),(af "unget",163)],[(af "_defaultChunkSize",(I 10240 624))]⟩
noncomputable def Cm:CI:=⟨230,[af "_data",af "_keys",af "_cachestr",af "_cachepoints"],[(af "__contains__",199),(af "__len__",206),(af "__getitem__",213),(af "has_keys_with_prefix",220),(af "longest_prefix",227)],[]⟩
noncomputable def IP:CI:=⟨762,[af "stream",af "parser",af "escapeFlag",af "lastFourChars",af "state",af "escape",af "currentToken",af "tokenQueue"],[(af "__init__",261),(af "consumeNumberEntity",275),(af "consumeEntity",283),(af "processEntityInAttribute",290),(af "emitCurrentToken",297),(af "dataState",304),(af "entityDataState",311),(af "tagOpenState",353),(af "beforeAttributeNameState",535),(af "attributeNameState",542),(af "afterAttributeNameState",549),(af "beforeAttributeValueState",556),(af "attributeValueDoubleQuotedState",563),(af "attributeValueSingleQuotedState",570),(af "attributeValueUnQuotedState",577),(af "afterAttributeValueState",584),(af "selfClosingStartTagState",591)],[]⟩
noncomputable def Z8:List SV:=[.str (af "\t"),.str (af "\n"),.str (af "\x0c"),.str (af " "),.str (af "\x0d")]
noncomputable def Z9:List SV:=[.str (af "a"),.str (af "b"),.str (af "c"),.str (af "d"),.str (af "e"),.str (af "f"),.str (af "g"),.str (af "h"),.str (af "i"),.str (af "j"),.str (af "k"),.str (af "l"),.str (af "m"),.str (af "n"),.str (af "o"),.str (af "p"),.str (af "q"),.str (af "r"),.str (af "s"),.str (af "t"),.str (af "u"),.str (af "v"),.str (af "w"),.str (af "x"),.str (af "y"),.str (af "z"),.str (af "A"),.str (af "B"),.str (af "C"),.str (af "D"),.str (af "E"),.str (af "F"),.str (af "G"),.str (af "H"),.str (af "I"),.str (af "J"),.str (af "K"),.str (af "L"),.str (af "M"),.str (af "N"),.str (af "O"),.str (af "P"),.str (af "Q"),.str (af "R"),.str (af "S"),.str (af "T"),.str (af "U"),.str (af "V"),.str (af "W"),.str (af "X"),.str (af "Y"),.str (af "Z")]
noncomputable def IQ:List SV:=[.str (af "0"),.str (af "1"),.str (af "2"),.str (af "3"),.str (af "4"),.str (af "5"),.str (af "6"),.str (af "7"),.str (af "8"),.str (af "9")]
noncomputable def IS:List SV:=[.str (af "0"),.str (af "1"),.str (af "2"),.str (af "3"),.str (af "4"),.str (af "5"),.str (af "6"),.str (af "7"),.str (af "8"),.str (af "9"),.str (af "a"),.str (af "b"),.str (af "c"),.str (af "d"),.str (af "e"),.str (af "f"),.str (af "A"),.str (af "B"),.str (af "C"),.str (af "D"),.str (af "E"),.str (af "F")]
noncomputable def Cn:List (Str×Value):=[(af "Doctype",(I 0 533)),(af "Characters",(I 1 535)),(af "SpaceCharacters",(I 2 537)),(af "StartTag",(I 3 539)),(af "EndTag",(I 4 541)),(af "EmptyTag",(I 5 543)),(af "Comment",(I 6 545)),(af "ParseError",(I 7 547))]
noncomputable def aaa:List SV:=[.int 3,.int 4,.int 5]
noncomputable def eY:List (Str×Value):=[(af "EOF",N),(af "spaceCharacters",(r 22)),(af "asciiLetters",(r 27)),(af "digits",(r 32)),(af "hexDigits",(r 37)),(af "asciiLower",(r 42)),(af "entities",(r 43)),(af "replacementCharacters",(r 46)),(af "tokenTypes",(r 48)),(af "tagTokenTypes",(r 49)),(af "Text",(r 73)),(af "_is_invalid",(r 84)),(af "HTMLUnicodeInputStream",(r 166)),(af "bisect_left",(r 178)),(af "Trie",(r 230)),(af "entitiesTrie",(r 236)),(af "HTMLTokenizer",(r 762)),(af "_law_PIECES",(r 767)),(af "_law_ENDS",(r 774)),(af "_law_MARKS",(r 781)),(af "_law_OPEN",(r 788)),(af "_law_begin",(r 795)),(af "_law_call",(r 802)),(af "_law_told",(r 807)),(af "_law_reference",(r 812)),(af "_law_cut",(r 819))]
noncomputable def je:List Str:=[af "AMP",af "AMP;",af "Eacute",af "Eacute;",af "Mopf;",af "ac;",af "acE;",af "acute",af "acute;",af "amp",af "amp;",af "ang;",af "angle;",af "bne;",af "copy",af "copy;",af "eacute",af "eacute;",af "frac12",af "frac12;",af "gt",af "gt;",af "lt",af "lt;",af "nbsp",af "nbsp;",af "not",af "not;",af "notin;",af "notni;",af "para",af "para;",af "parallel;",af "quot",af "quot;",af "sup1",af "sup1;",af "sup2",af "sup2;",af "sup;",af "times",af "times;",af "timesb;"]
noncomputable def o7:List Str:=[af " ",af ">",af "/",af "=",af "\"",af "'",af "<",af "`",af "\x00",af "&",af "a",af "&not",af "\t",af "\x0d",af "&#",af "\x0c",af "é",af "&#x41;",af "amp;",af "?",af "\x0d\n",af "x80",af "it;",af "𝒳",af "&lt",af "1",af "&gt;",af "&acE;",af "&ang",af "\n",af "&&",af "=\""]
noncomputable def cG:List (Str×Str):=[(af "AMP",af "&"),(af "AMP;",af "&"),(af "Eacute",af "É"),(af "Eacute;",af "É"),(af "Mopf;",af "𝕄"),(af "ac;",af "∾"),(af "acE;",af "∾̳"),(af "acute",af "´"),(af "acute;",af "´"),(af "amp",af "&"),(af "amp;",af "&"),(af "ang;",af "∠"),(af "angle;",af "∠"),(af "bne;",af "=⃥"),(af "copy",af "©"),(af "copy;",af "©"),(af "eacute",af "é"),(af "eacute;",af "é"),(af "frac12",af "½"),(af "frac12;",af "½"),(af "gt",af ">"),(af "gt;",af ">"),(af "lt",af "<"),(af "lt;",af "<"),(af "nbsp",af " "),(af "nbsp;",af " "),(af "not",af "¬"),(af "not;",af "¬"),(af "notin;",af "∉"),(af "notni;",af "∌"),(af "para",af "¶"),(af "para;",af "¶"),(af "parallel;",af "∥"),(af "quot",af "\""),(af "quot;",af "\""),(af "sup1",af "¹"),(af "sup1;",af "¹"),(af "sup2",af "²"),(af "sup2;",af "²"),(af "sup;",af "⊃"),(af "times",af "×"),(af "times;",af "×"),(af "timesb;",af "⊠")]
noncomputable def o8:List (Str×SV):=[(af "_data",.val (r 43)),(af "_keys",.val (r 243)),(af "_cachestr",.str (af "")),(af "_cachepoints",.val (r 246))]
noncomputable def aab:List SV:=[.int 0,.int 43]
noncomputable def o9:List (Int×Str):=[(0,af "�"),(13,af "\x0d"),(128,af "€"),(129,af "\x81"),(130,af "‚"),(131,af "ƒ"),(132,af "„"),(133,af "…"),(134,af "†"),(135,af "‡"),(136,af "ˆ"),(137,af "‰"),(138,af "Š"),(139,af "‹"),(140,af "Œ"),(141,af "\x8d"),(142,af "Ž"),(143,af "\x8f"),(144,af "\x90"),(145,af "‘"),(146,af "’"),(147,af "“"),(148,af "”"),(149,af "•"),(150,af "–"),(151,af "—"),(152,af "˜"),(153,af "™"),(154,af "š"),(155,af "›"),(156,af "œ"),(157,af "\x9d"),(158,af "ž"),(159,af "Ÿ")]
noncomputable def T:Tab where
 cls:=[(73,Z6),(166,Ck),(230,Cm),(762,IP)]
 eY:=eY++[(af "len",.builtin "len"),(af "ord",.builtin "ord"),(af "chr",.builtin "chr"),(af "isinstance",.builtin "isinstance"),(af "int",.type "int"),(af "dict",.type "dict"),(af "str",.type "str"),(af "sum",.builtin "sum"),(af "range",.type "range")]
 fns:=[(42,mK),(63,Zy),(70,Zz),(84,ZA),(98,ZC),(105,ZD),(112,ZE),(119,ZF),(126,ZG),(133,ZH),(141,ZI),(148,q8),(156,gV),(163,ZJ),(178,ux),(199,ZK),(206,ZL),(213,ZM),(220,ZN),(227,o6),(261,ZO),(275,q9),(283,ko),(290,yg),(297,ZP),(304,ZQ),(311,ZR),(353,ZS),(535,ZT),(542,ZU),(549,ZV),(556,ZW),(563,ZX),(570,ZY),(577,ZZ),(584,Z0),(591,Z1),(774,Z2),(781,Z3),(788,Z4),(795,uy),(802,Z5),(812,uz),(819,uA)]
 tups:=[(22,Z8),(27,Z9),(32,IQ),(37,IS),(49,aaa),(246,aab)]
 tw:=[(48,Cn)]
 nF:=[(236,230,235,o8)]
 nG:=[(243,je),(767,o7)]
 oN:=[(43,cG)]
 oO:=[(46,o9)]
 jV:=[73,166,762]
 jz:=[(807,mL,af "t",af "token")]
 nE:=λ|.strm _=>Z7|.other _=>0
end
end Tb
namespace Ex
noncomputable def Gx.sm (G:Gx) (n:Nat) (cons:List (Addr×Nat×bg)):Gx:=⟨G.D,G.T,n,G.cs,λz z z=>False,cons,[],[],[],aj⟩
theorem av.sw{G:Gx}{n:Nat}{cons:List (Addr×Nat×bg)}{f:Value}{m:List SV}{p:SS}{K:SV->SS->Prop}(A:n<=G.n)(h:av (G.sm n cons) f m p K):av G f m p K:=λc g s q a r=>
 codeAny_mono (h c g s q ⟨a.toRepS,a.cs,a.ok.less A,a.tk,a.rx,λx C=>Om.nm C,λh=>Om.nb h⟩ r) λL s' z=>by
  rcases L with e|(_|_|_|v)
  ·obtain⟨_,_,_,_,_,k⟩:=z;exact k.elim
  ·exact z
  ·exact z
  ·exact z
  ·exact z
noncomputable abbrev dm (D:Wd) (x:Addr×Nat×bg):Prop:=∀z:Gx,z.D=D->z.T=Tb.T->x.2.1<=z.n->∀v q K,(x.2.2 v q K).h->av z (.ref x.1) v q (hh K)
inductive MMs (η:Ev) (st:bQ) (os:List SO):Prop
 |mk (j V u M H y U O) (e:os=bq j V u M H y U O) (i:dM (st.d.map (·.ev η)) (st.r.ev η) (st.un.map (·.ev η)) j V u M H y U O)
noncomputable def mP (k:Ev):fR->List SO->Prop
 |.strm st,os=>MMs k st os
 |.other _,_=>False
noncomputable abbrev WS (W:Wd):Wd:={W with bl:=λb a l=>qQ (mP W.η) W b a l}
theorem yh(W:Wd)(b:fR)(a:Addr)(l:List (Addr×Obj)):(WS W).bl b a l↔qQ (mP (WS W).η) (WS W) b a l:=
 ⟨λ⟨o,z,L,e,h,m⟩=>⟨o,z,L,e,h,m⟩,λ⟨o,z,L,e,h,m⟩=>⟨o,z,L,e,h,m⟩⟩
noncomputable def dX (z:SS):SS:=⟨z.loc,.b z.objs.list,z.fa⟩
theorem RepS.nf{W:Wd}{c:Cx}{x:List Addr}{z:SS}{s:Shared}(R:RepS W c x z s):RepS W c x (dX z) s:=⟨let⟨m,l,r⟩:=R.R;⟨m,l,r⟩,R.tp,R.fa⟩
theorem av.nf{G:Gx}{f:Value}{L:List SV}{g:SS}{K:SV->SS->Prop}(h:av G f L g λx m=>K x (dX m)):av G f L g K:=λc C s A a r=>
 codeAny_mono (h c C s A a r) λr' s' z=>by
  rcases r' with e|(_|_|_|v)
  ·exact z
  ·exact z
  ·exact z
  ·exact z
  ·obtain⟨k,m,x,p,R,q,z⟩:=z
   exact⟨k,dX m,x,p,R.nf,q,z⟩
theorem aad{G:Gx}{f:Addr}{v:List SV}{p:SS}{K:SV->SS->Prop}{n:Nat}{cons:List (Addr×Nat×bg)}(k:n<=G.n)(g:bw (G.sm n cons))
 (h:(mH (ex 60) (G.sm n cons) f v p λx q=>.pr (K x (dX q)) .tt).t.h):av G (.ref f) v p K:=
 av.nf (av.sw k (((mH (ex 60) (G.sm n cons) f v p λx q=>.pr (K x (dX q)) .tt).ok h g).mp λm m z=>z.1))
noncomputable abbrev gx (D:Wd) (cs:b3) (n:Nat) (cons:List (Addr×Nat×bg)):Gx:=⟨D,Tb.T,n,cs,λz z z=>False,cons,[],[],[],aj⟩
noncomputable def kq (D:Wd) (cs:b3) (n:Nat) (cons:List (Addr×Nat×bg)) (f:Addr) (v:List SV) (Y:List (Str×SV)) (os:List SO) (B:List Fact) (K:SV->SS->Prop):Prop:=(mH (ex 60) (gx D cs n cons) f v ⟨Y,.b os,B⟩ λx z=>.pr (K x (dX z)) .tt).t.h
noncomputable abbrev ri (j n f L C O:SV) (V:Str) (p:Int) (U:Nat) (X:List SO):List SO:=.inst 166 [(af "reportCharacterErrors",.obj 1),(af "newLines",.obj 2),(af "dataStream",.obj 3),(af "chunk",j),(af "chunkSize",n),(af "chunkOffset",f),(af "errors",.obj 4),(af "prevNumLines",L),(af "prevNumCols",C),(af "_bufferedCharacter",O)]::.aI 148 (.obj 0)::.list ah [.si 0]::.inst 73 [(af "text",.ss V),(af "place",.si p)]::.list (aa (.gv U)) []::X
section
variable(D:Wd)(cs:b3)(K:SV->SS->Prop)(j V c:Str)(u M H y U:Nat)(O:Option Nat)(Y:List (Str×SV))(B:List Fact)
theorem vU:kq D cs 1 [] 163 [.obj 0,.ss c] Y (bq j V u M H y U O) B K=
 ((decide ((u:Int)=0)=ai->c.length+j.length<=sizeLine/\K .none ⟨Y,.b (ri (.ss (c++j)) (.si (j.length+1)) (.si u) (.si M) (.si H) (nK O) V y U []),B⟩/\True)/\
  (decide ((u:Int)=0)=aj->(-(j.length:Int)<=u-1/\(u:Int)-1<j.length/\j.length<=sizeLine)/\(seq (eS j (u-1)) c=ai->K .none ⟨Y,.b (ri (.ss j) (.si j.length) (.si (u-1)) (.si M) (.si H) (nK O) V y U []),B⟩/\True)/\(seq (eS j (u-1)) c=aj->False))):=by kernel_rfl
theorem vU0:kq D cs 1 [] 163 [.obj 0,.none] Y (bq j V u M H y U O) B K=(K .none ⟨Y,.b (bq j V u M H y U O),B⟩/\True):=by kernel_rfl
end
noncomputable def rj (o:SO):Option {st:bQ//o=.blob (.strm st)}:=match o with
 |.blob b=>match b with
  |.strm st=>aa ⟨st,rfl⟩
  |.other _=>ah
 |_=>ah
noncomputable def rm (y:SS) (i:Nat) (st:bQ):SS:=⟨y.loc,OL.s y.objs i (.blob (.strm st)),y.fa⟩
theorem Co{v y:Str}{off x j g D:Nat}{z:Option Nat}:((bq v y off x j g D z).take 5).all (oW 5)=true:=by cases z<;>rfl
theorem pe(W:Wd):xg (WS W) Tb.T:=λb a l ⟨k,V,L,e,O,m⟩=>by
 cases b with
 |other=>exact m.elim
 |strm st=>
  obtain⟨u,H,v,p,j,g,D,M,rfl,I⟩:=m
  subst e
  cases L using Each.ec with
  |@cons q Y r y=>
   cases O
   refine⟨_,_,q.2,flat Y,rfl,OR.wd (W:=WS W) (X:=[]) r,λG z x U=>?_⟩
   have e:aU (Tb.T.nE (.strm st)) Tb.T.cls=aa Tb.Ck:=by kernel_rfl
   rw[e] at z
   cases z
   have:(Tb.Ck.gO.all λx=>(lk x.1 [(af "reportCharacterErrors",SV.obj 1),(af "newLines",.obj 2),(af "dataStream",.obj 3),(af "chunk",.ss u),(af "chunkSize",.si u.length),(af "chunkOffset",.si v),(af "errors",.obj 4),(af "prevNumLines",.si p),(af "prevNumCols",.si j),(af "_bufferedCharacter",nK M)]).isNone)=true:=by kernel_rfl
   have:=bZ.mp this x U
   exact Option.isNone_iff_eq_none.mp this
theorem Cp{W:Wd}{cs:b3}{n:Nat}{cons:List (Addr×Nat×bg)}(h:∀x∈cons,dm (WS W) x):bw (gx (WS W) cs n cons):=⟨λx u k m p Y v y K z=>h x u k m p Y v y K z,pe W,λx u=>Om.nm u,λx u=>Om.nm u,λq q q h=>h⟩
theorem Cq{W:Wd}{m n:Nat}{cs:b3}{q:Value->List Addr->SS->Prop}{con:List (Addr×Nat×bg)}{U:List (Nat×Stmt×jW)}{u:List (Nat×Expr×jX)}{H:List (Str×Nat)}{fr:Bool}{cons:List (Addr×Nat×bg)}{f:Addr}{v:List SV}{z:List (Str×SV)}{os:List SO}{y:List Fact}{K:SV->SS->Prop}
 (Y:n<=m) (g:∀x∈cons,dm (WS W) x) (h:kq (WS W) cs n cons f v z os y K):av (⟨WS W,Tb.T,m,cs,q,con,U,u,H,fr⟩:Gx) (.ref f) v ⟨z,.b os,y⟩ K:=aad (n:=n) (cons:=cons) Y (Cp g) h
theorem av.conv{G:Gx}{f:Value}{v xs':List SV}{y:SS}{K:SV->SS->Prop}(g:∀z q,aM G.D z v q->aM G.D z xs' q)(h:av G f xs' y K):av G f v y K:=λc z s q a r=>h c z s q a (g z q r)
theorem Cr{W:Wd}{G:Gx}(hD:G.D=WS W)(hT:G.T=Tb.T){y:SS}{K:SV->SS->Prop}{f:Addr}{i n:Nat}{st:bQ}{L:List SV}(hn:n<=G.n)(ho:y.objs.list[i]? =aa (.blob (.strm st)))(z:L.all fE=ai)
 (h:∀p U k v Y j g V O,dM (st.d.map (·.ev W.η)) (st.r.ev W.η) (st.un.map (·.ev W.η)) U k v Y j g V O->∃cons B,(∀x∈cons,dm (WS W) x)/\(∀M q,aM (WS W) M L q->aM (WS W) M B q)/\kq (WS W) G.cs n cons f (.obj 0::B) p (bq U k v Y j g V O) y.fa (tW (mP W.η) G y i K p)):av G (.ref f) (.obj i::L) y K:=by
 obtain⟨D,T,m,cs,KX,con,sc,ec,cv,fr⟩:=G
 obtain rfl:D=WS W:=hD
 obtain rfl:T=Tb.T:=hT
 refine Hl (MM:=mP W.η) (yh W) ho z λp C ⟨U,k,v,Y,j,g,V,O,e,I⟩=>?_
 subst e
 obtain⟨cons,B,hc,u,A⟩:=h p U k v Y j g V O I
 exact av.conv (xs':=.obj 0::B) (λM q r=>by cases r using Each.ec with|cons r H=>exact .cons r (u _ _ H)) (Cq (n:=n) (cons:=cons) hn hc A)
noncomputable def unS (d h:Tm):Option {z:Tm//∀y,d.ev y=z.ev y++h.ev y}:=gQ ((aV (dj d h)).map λq=>⟨lit [],λy=>by rw[fh q.1];rfl⟩) (match d with
 |.n k _ a b=>match k with
  |5=>(aV (dj b h)).map λq=>⟨a,λy=>by rw[<-fh q.1];rfl⟩
  |_=>ah
 |.e=>ah)
noncomputable abbrev IT (h:Tm) (d z:Option Tm):Prop:=∀k g,z.map (·.ev k)=aa g->d.map (·.ev k)=aa (g++h.ev k)
noncomputable def unD (d:Option Tm) (h:Tm):Option {z:Option Tm//IT h d z}:=match d with
 |ah=>aa ⟨ah,λk g e=>(by cases e)⟩
 |some d=>(unS d h).map λz=>⟨aa z.1,λk g e=>by cases e;exact congrArg aa (z.2 k)⟩
inductive IU (xs:List SV) (σ σ':SS):Prop
 |no (i:Nat) (st:bQ) (c:SV) (e:xs=[.obj i,c]) (hc:c=.none) (ho:σ.objs.list[i]? =aa (.blob (.strm st))) (r:σ'=rm σ i st)
 |un (i:Nat) (st:bQ) (c:SV) (h:Tm) (d:Option Tm) (e:xs=[.obj i,c]) (hf:fE c=ai) (hc:IsT c h) (ho:σ.objs.list[i]? =aa (.blob (.strm st))) (hu:st.un=aa h) (hd:IT h st.d d) (r:σ'=rm σ i ⟨d,cat h st.r,ah⟩)
noncomputable def Cs (v:List SV) (y:SS):Option {z:SS//IU v y z}:=match v with
 |[x,c]=>au (iB x) λi=>au (fT y.objs i.1) λo=>au (rj o.1) λst=>gQ ((yd c).map λg=>⟨rm y i.1 st.1,.no i.1 st.1 c (congrArg (λx=>[x,c]) i.2) g.1 (st.2▸o.2) rfl⟩)
  (au (aV (fE c)) λB=>au (fC c) λh=>au (unV st.1 h.1) λu=>(unD st.1.d h.1).map λd=>⟨rm y i.1 ⟨d.1,cat h.1 st.1.r,ah⟩,.un i.1 st.1 c h.1 d.1 (congrArg (λx=>[x,c]) i.2) B.1 h.2 (st.2▸o.2) u.1 d.2 rfl⟩)
 |_=>ah
where unV (st:bQ) (h:Tm):Option (PLift (st.un=aa h)):=match e:st.un with
 |some u=>(aV (dj u h)).map λq=>⟨by rw[fh q.1]⟩
 |ah=>ah
noncomputable def Ct:bg:=λv y K=>@aY _ (λx=>Tr) .ff (λz=>K .none z.1) (Cs v y)
theorem Cu(W:Wd){G:Gx}(hD:G.D=WS W)(hT:G.T=Tb.T)(hn:1<=G.n){xs:List SV}{σ H:SS}{K:SV->SS->Tr}(hz:IU xs σ H)(hk:(K .none H).h):av G (.ref 163) xs σ (hh K):=by
 cases hz with
 |no i st c e hc ho r=>
  subst e hc r
  refine Cr (n:=1) hD hT hn ho rfl λh V B v A j m en bf I=>⟨[],_,(λx hx=>Om.nm hx),λY Y r=>r,?_⟩
  rw[vU0]
  exact⟨.mk (.strm st) 5 .none rfl ⟨V,B,v,A,j,m,en,bf,rfl,I⟩ Co (by decide) (λY Y Y Y q=>q) λY=>hk,trivial⟩
 |un i st c t d e hf hc ho hu hd r=>
  subst e r
  refine Cr (n:=1) hD hT hn ho (by rw[jQ,hf];rfl) λh V B v A j m en bf I=>?_
  obtain⟨p,hr,o1,hp,hz,L,hen,p1,y1,u1⟩:=I
  obtain⟨x,U,e1,M⟩:=y1 (t.ev W.η) (by rw[hu];rfl)
  refine⟨[],[.ss ⟨#[x]⟩],(λx hx=>Om.nm hx),λρ vs r=>?_,?_⟩
  ·cases r using Each.ec with
   |cons r rs=>
    obtain⟨u,rfl⟩:=hc r
    refine .cons ⟨u,?_⟩ rs
    rw[show(WS W).η=W.η from rfl,e1];rfl
  ·have y:(V.cps.toList.take v).length=v:=by rw[nq];exact i0 (St.len_list V▸p)
   have k:v=U.length+1:=by rw[<-y,M,bK];rfl
   have O:V.cps.toList[U.length]? =aa x:=by
    have:(V.cps.toList.take v)[U.length]? =aa x:=by rw[M,dY (aH _),iP];rfl
    rwa[zZ (by exact Om.OM y k)] at this
   have hit:=St.um V U.length O
   obtain⟨z,i1⟩:=dh.mp O
   have C:=St.len_list V
   have eo:((v:Int)-1)=(U.length:Int):=by exact Om.ON y k z
   have ha:V.cps.toList.take U.length=U:=by
    have:(V.cps.toList.take v).take U.length=U:=by rw[M,oz]
    rw[MA,i0 (by exact Om.OO y k z)] at this;exact this
   rw[vU,eo,hit]
   refine⟨λe=>absurd (of_decide_eq_true e) (by exact Om.OQ y k z),λY=>⟨⟨by exact Om.OS L z C,by exact Om.OT p y k z C,by rw[sizeLine_eq];exact Om.OU L z C⟩,λY=>⟨.mk (.strm ⟨d,cat t st.r,ah⟩) 5 .none rfl ⟨V,B,U.length,A,j,m,en,bf,rfl,by exact Om.OV p y k z C,?_,λg hg=>?_,hp,hz,L,hen,p1,λl e=>Om.ns e,u1⟩ (Co (off:=U.length)) (by decide) (λY Y Y Y q=>q) λY=>hk,trivial⟩,λe=>?_⟩⟩
   ·show t.ev W.η++st.r.ev W.η=_
    rw[e1,hr,k,kK z,i1];rfl
   ·obtain⟨D,h1,h2⟩:=o1 _ (hd W.η g hg)
    rw[e1,M,<-bY] at h1
    exact⟨D,by rw[ha];exact(List.append_inj' h1 rfl).1,h2⟩
   ·rw[show seq (⟨#[x]⟩:Str) ⟨#[x]⟩=ai from b9.mpr rfl] at e
    cases e
theorem IV(W:Wd):dm (WS W) (163,1,Ct):=λG p u Y v y K h=>by
 have x:(@aY _ (λm=>Tr) .ff (λz=>K .none z.1) (Cs v y)).h:=h
 cases q:Cs v y with
 |none=>rw[q] at x;exact x.elim
 |some z=>rw[q] at x;exact Cu W p u Y z.2 x
noncomputable abbrev fk (c:Bool) (A B:Prop):Prop:=(c=ai->A)/\(c=aj->B)
section
variable(D:Wd)(cs:b3)(K:SV->SS->Prop)(y:List (Str×SV))(v:List Fact)
noncomputable abbrev lf (x:SV) (os:List SO):Prop:=K x ⟨y,.b os,v⟩/\True
noncomputable abbrev rg (a i b:Int) (B:Prop):Prop:=fk (decide (a<=i)) (fk (decide (i<=b)) (lf K y v (.sb (decide (i<=b))) []) B) (fk (decide (a<=i)) (lf K y v (.sb (decide (a<=i))) []) B)
theorem vI(i:Int):kq D cs 1 [] 84 [.si i] y [] v K=rg K y v 1 i 8 (fk (decide (i=11)) (lf K y v (.sb (decide (i=11))) []) (rg K y v 14 i 31 (rg K y v 127 i 159 (rg K y v 64976 i 65007 (fk (gh (Int.fmod i 65536) [65534,65535]) (lf K y v (.sb (gh (Int.fmod i 65536) [65534,65535])) [.tup [.int 65534,.int 65535]]) (fk (decide (55296<=i)) (lf K y v (.sb (decide (i<=57343))) [.tup [.int 65534,.int 65535]]) (lf K y v (.sb (decide (55296<=i))) [.tup [.int 65534,.int 65535]]))))))):=by kernel_rfl
variable{K y v} in
theorem yi{a i b:Int}{B:Prop}(k:∀b os,lf K y v (.sb b) os)(h:B):rg K y v a i b B:=⟨λz=>⟨λz=>k _ _,λz=>h⟩,λz=>⟨λz=>k _ _,λz=>h⟩⟩
end
noncomputable def uB:bg:=λq u K=>match q with
 |[x]=>@aY _ (λz=>Tr) .ff (λz=>.pr (∀b,(K (.sb b) u).h) .tt) (bF x)
 |_=>.ff
set_option tactic.hygienic true in
theorem aai(W:Wd):dm (WS W) (84,1,uB):=λG C H Y V j K h=>by
 obtain⟨D,T,m,cs,KX,con,U,ec,cv,fr⟩:=G
 obtain rfl:D=WS W:=C
 obtain rfl:T=Tb.T:=H
 have p:(uB V j K).h:=h
 unfold uB at p
 split at p
 ·rename_i x
  cases q:bF x with
  |none=>rw[q] at p;exact p.elim
  |some z=>
   rw[q] at p
   have L:∀b,(K (.sb b) j).h:=p.1
   refine av.conv (xs':=[.si z.1]) (λB A r=>by
    cases r using Each.ec with
    |cons r O=>obtain⟨t,rfl⟩:=z.2 r;exact .cons ⟨t,rfl⟩ O) (Hp rfl λy=>Cq (n:=1) (cons:=[]) Y (λx M=>Om.nm M) ?_)
   let P:SV->SS->Prop:=λx u=>u.loc=y/\fE x=ai/\((∀f∈u.fa,f.ok (WS W).η)->hh K x ⟨j.loc,j.objs,u.fa⟩)
   show kq (WS W) cs 1 [] 84 [.si z.1] y [] j.fa P
   rw[vI]
   have k:∀b os,lf P y j.fa (.sb b) os:=λb os=>⟨⟨rfl,rfl,λg=>L b⟩,trivial⟩
   exact yi k ⟨λg=>k _ _,λg=>yi k (yi k (yi k ⟨λg=>k _ _,λg=>⟨λg=>k _ _,λg=>k _ _⟩⟩))⟩
 ·exact p.elim
inductive uC:String->Prop
 |a:uC "str_ascii_iterator"
 |w:uC "str_iterator"
inductive Cv (x:Str) (I:Addr) (i:Nat) (l rr:List (Addr×Obj)):Prop
 |mk (o:Obj) (u:String) (t:Tok) (e:l=[(I,o)]) (e':rr=[]) (hty:uC u) (c:o.cls=.type u) (d:o.data=.fields #[.str x t,.int i 0])
noncomputable def aaj (c:Nat):SV:=.ss ⟨#[c]⟩
section
variable{m:Program}{w:World}{A:Around}{E:Value->Shared->Prop}{s:Shared}{x:Str}{t:Tok}{I:Addr}{i:Nat}{u:String}{Q:Option Value->Shared->Prop}
theorem next_item{c:Nat}(z:uC u)(hit:s.heap.IsStrIter I u x t i)(g:x.cps[i]? =aa c)(v:∀y,y.IsStrIter I u x t (i+1)->Heap.SameBut I s.heap y->Q (aa (.str ⟨#[c]⟩ s.toks)) {s with heap:=y,toks:=s.toks+1}):wpAny (model m w) A (pyNext (.ref I)) Q E s:=by
 cases z with
 |a=>exact wpAny_pyNext_ascii_item hit g v
 |w=>exact wpAny_pyNext_wide_item hit g v
theorem next_end(z:uC u)(hh:A.handled=ah)(hit:s.heap.IsStrIter I u x t i)(g:x.cps[i]? =ah)(y:∀v,Fo I s.heap v->Q ah {s with heap:=v}):wpAny (model m w) A (pyNext (.ref I)) Q E s:=by
 cases z with
 |a=>exact wpAny_pyNext_ascii_end hh hit g y
 |w=>exact wpAny_pyNext_wide_end hh hit g y
end
noncomputable def yk (x:Str):Src where
 it:=λqq i=>aa ((x.cps[i]?).map aaj)
 bk:=aa
 ob _ I _ i l O:=Cv x I i l O
 mono:=λh qq=>h
 next:=λ{G c D y s I i l O r Q E} hR a ⟨o,u,t,e,Y,k,g,U⟩ hit j=>by
  subst e Y
  obtain rfl:=ju hit
  have L:s.heap.IsStrIter I u x t i:=⟨o,a.heap (p:=(I,o)) (.head _),g,U⟩
  cases e:x.cps[i]? with
  |none=>
   rw[e] at j
   exact next_end k a.ok.hh L e λh' e1=>j _ λH q=>by cases q;exact a.drop (own:=[]) (λb o M e=>e1 b o M e) (aH _)
  |some z=>
   rw[e] at j
   refine next_item k L e λh' V C=>?_
   obtain⟨o',B,c',d'⟩:=id V
   exact j _ [(I,o')] _ (a.turn (own:=[]) hR B (λb o M e=>C.extBut b o M e) (eg _)) ⟨_,rfl⟩ ⟨o',u,t,rfl,rfl,k,c',d'⟩
 go:=λ{G c D y s I i l O v y1 Q E} a ⟨o,u,t,e,Y,k,g,U⟩ j=>by
  subst e Y
  cases k with
  |a=>exact letGo (a.heap (p:=(I,o)) (.head _)) g (by decide) j
  |w=>exact letGo (a.heap (p:=(I,o)) (.head _)) g (by decide) j
 self:=λ{G c D y s I i l O Q E} a ⟨o,u,t,e,Y,k,g,U⟩ j=>by
  subst e Y
  have L:s.heap.IsStrIter I u x t i:=⟨o,a.heap (p:=(I,o)) (.head _),g,U⟩
  cases k with
  |a=>exact wpAny_pyIter_striter_ascii L j
  |w=>exact wpAny_pyIter_striter_wide L j
 back:=λ{G c D y s I i l O H} hR a ⟨o,u,t,e,Y,k,g,U⟩ M=>by
  subst e Y
  cases M
  exact At.same (own:=[]) a
theorem IW{G:Gx}{j:SS}{e:Expr}{R:Src->SS->Prop}(h:aA G e j λy z=>∃x,bT y x/\R (yk x) z):jb G e j R:=λc O s a=>
 aC.go (w:=()) h a (pr _) trivial λq z y v g p _ V r ⟨x,U,k⟩=>by
  obtain⟨t,rfl⟩:=U r
  cases Y:x.cps.all (· <128)
  ·exact wpAny_pyIter_wide Y ⟨_,[(_,_)],[],yk x,q,z,rfl,p,V.owned _ rfl,Cv.mk _ _ t rfl rfl .w rfl rfl,k⟩
  ·exact wpAny_pyIter_ascii Y ⟨_,[(_,_)],[],yk x,q,z,rfl,p,V.owned _ rfl,Cv.mk _ _ t rfl rfl .a rfl rfl,k⟩
noncomputable abbrev ay (D:Wd) (y z:SS):Prop:=∀c x s,RepS D c x y s->RepS D c x z s
theorem ay.of{D:Wd}{σ σ':SS}(v:∀x y,lk x σ'.loc=aa y->lk x σ.loc=aa y)(z:σ'.objs.list=σ.objs.list)(B:σ'.fa=σ.fa):ay D σ σ':=λc u s R=>⟨let⟨m,l,r⟩:=R.R;⟨m,z▸l,λx y e=>r x y (v x y e)⟩,R.tp,B▸R.fa⟩
theorem av.ent{G:Gx}{f:Value}{k:List SV}{σ:SS}{K:SV->SS->Prop}(h:av G f k σ λx u=>∃y,ay G.D u y/\K x y):av G f k σ K:=λc j s g a r=>
 jE (h c j s g a r) (λv V ⟨m,u,x,p,R,q,y,l,z⟩=>⟨m,y,x,p,l _ _ _ R,q,z⟩) λY Y z=>z
theorem av.pre{G:Gx}{f:Value}{v:List SV}{y σ':SS}{K:SV->SS->Prop}(l:ay G.D y σ')(h:av G f v σ' K):av G f v y K:=λc z s q a r=>h c z s q (a.to (pr _) (l _ _ _ a.toRepS)) r
theorem aC.ent{H j m:Type}{G:Gx}{V:List Addr->H->j->Prop}{R:List Addr->m->Prop}{t:Cx->m->Sem j}{σ:SS}{K g:H->SS->Prop}(h:aC G V R t σ K)(k:∀x u,K x u->∃y,ay G.D u y/\g x y):aC G V R t σ g:=λc Y s w a r=>
 wpAny_mono (h c Y s w a r) (λv O ⟨q,u,x,p,R,r,z⟩=>let⟨y,l,z⟩:=k _ _ z;⟨q,y,x,p,l _ _ _ R,r,z⟩) λU U z=>z
theorem ay.gv{D:Wd}{y:SS}{i en n:Nat}{ys:List SV}(p:y.objs.list[i]? =aa (.list (aa (.gv en)) ys))(h:ys.length<=n):ay D y ⟨y.loc,OL.s y.objs i (.list (aa (.gv (en+n))) []),y.fa⟩:=λc M s R=>by
 obtain⟨⟨m,⟨L,ad,C,l2,g,Y,F,N⟩,j⟩,u,V⟩:=R
 obtain⟨A,⟨x,z⟩,B,H,rfl,r,st⟩:=Each.at C p
 obtain⟨U,v,k,e,q,f⟩:=r
 refine⟨⟨m,⟨A++(x,z)::B,ad,st _ (x,z) (kT.mk (U++v) [] k (by rw[cO];exact e) ?_ .nil),l2,g,Y,F,N⟩,j⟩,u,V⟩
 have O:U.length<=en:=q
 show(U++v).length<=en+n
 rw[bK,<-f.len]
 exact fZ O h
noncomputable abbrev gi (D:Wd) (cs:b3) (n:Nat) (cons:List (Addr×Nat×bg)):Gx:=⟨D,Tb.T,n,cs,λz z z=>False,cons,[],[],[],ai⟩
noncomputable abbrev yl (D:Wd) (cs:b3) (n:Nat) (cons:List (Addr×Nat×bg)) (b:List Stmt) (y:List (Str×SV)) (os:List SO) (v:List Fact) (K:Fl->SS->Prop):Prop:=(di (ex 60 (gi D cs n cons)) b ⟨y,.b os,v⟩ λx z=>.pr (K x (dX z)) .tt).t.h
theorem Cw{W:Wd}{cs:b3}{n:Nat}{cons:List (Addr×Nat×bg)}{b:List Stmt}{q:List (Str×SV)}{os:List SO}{k:List Fact}{K:Fl->SS->Prop}(g:∀x∈cons,dm (WS W) x)(h:yl (WS W) cs n cons b q os k K):aO (gi (WS W) cs n cons) b ⟨q,.b os,k⟩ K:=
 aC.ent ((di (ex 60 (gi (WS W) cs n cons)) b ⟨q,.b os,k⟩ λx u=>.pr (K x (dX u)) .tt).ok h ⟨λx m U V j Y v y K z=>g x m U V j Y v y K z,pe W,λx m=>Om.nm m,λx m=>Om.nm m,λp p p h=>h⟩) λx u z=>⟨dX u,λp p p R=>R.nf,z.1⟩
noncomputable abbrev Cy (l:List Stmt):List Stmt:=jU (l.headD (.Pass ⟨0,0,0,0⟩)) 0
theorem aak:Tb.q8.body=[.For (.Name (af "c") ⟨101,12,101,13⟩) (.Name (af "data") ⟨101,17,101,21⟩) (Cy Tb.q8.body) [] ⟨101,8,103,55⟩]:=by kernel_rfl
noncomputable abbrev stH (a:Nat->SV) (o:Nat->SO) (D:Nat) (j:List SV) (X:List SO):List SO:=.inst 166 [(af "reportCharacterErrors",a 1),(af "newLines",a 2),(af "dataStream",a 3),(af "chunk",a 4),(af "chunkSize",a 5),(af "chunkOffset",a 6),(af "errors",.obj 4),(af "prevNumLines",a 8),(af "prevNumCols",a 9),(af "_bufferedCharacter",a 10)]::o 1::o 2::o 3::.list (aa (.gv D)) j::X
theorem vE(D:Wd)(K:Fl->SS->Prop)(c x:Str)(a:Nat->SV)(o:Nat->SO)(z:Nat)(j:List SV)(X:List SO)(y:List Fact):
 yl D Tb.q8.scope 1 [(84,1,uB)] (Cy Tb.q8.body) [(af "c",.ss c),(af "self",.obj 0),(af "data",.ss x)] (stH a o z j X) y K=
 (c.length=1/\(∀b,fk b ((∀U,lZ (.gv z) U->U.length+j.length<=16777216)/\K .next ⟨[(af "c",.ss c),(af "self",.obj 0),(af "data",.ss x)],.b (stH a o z (j++[.str (af "invalid-codepoint")]) X),y⟩/\True)
   (K .next ⟨[(af "c",.ss c),(af "self",.obj 0),(af "data",.ss x)],.b (stH a o z j X),y⟩/\True))/\True):=by kernel_rfl
inductive rq (l:List SO) (en:Nat):Prop
 |mk (a:Nat->SV) (o:Nat->SO) (X:List SO) (e:l=stH a o en [] X)
theorem rq.of{z m p q u O x j k:SV}{v y o3:SO}{D:Nat}{X:List SO}:rq (.inst 166 [(af "reportCharacterErrors",z),(af "newLines",m),(af "dataStream",p),(af "chunk",q),(af "chunkSize",u),(af "chunkOffset",O),(af "errors",.obj 4),(af "prevNumLines",x),(af "prevNumCols",j),(af "_bufferedCharacter",k)]::v::y::o3::.list (aa (.gv D)) []::X) D:=⟨λi=>[z,z,m,p,q,u,O,O,x,j,k].getD i z,λi=>[v,v,y,o3].getD i v,X,rfl⟩
noncomputable def pg (D:Nat):bg:=λv y K=>match v with
 |[o,x]=>@aY _ (λz=>Tr) .ff (λa=>.pr (o=.obj 0/\D+a.1.length<=10000/\rq y.objs.list D) (K .none ⟨y.loc,OL.s y.objs 4 (.list (aa (.gv (D+a.1.length))) []),y.fa⟩)) (bD x)
 |_=>.ff
theorem uD{D:Wd}{x:Addr×Nat×bg}(h:dm D x):∀y∈[x],dm D y:=λy z=>by rw[d8] at z;exact z▸h
noncomputable abbrev uE (a:Str):List (Str×SV):=[(af "self",SV.obj 0),(af "data",.ss a)]
inductive UcJ (a:Str) (A:Nat->SV) (O:Nat->SO) (en:Nat) (X:List SO) (fa:List Fact) (S:Src) (n i:Nat) (σ':SS):Prop
 |mk (e:S=yk a) (h:n+i=a.cps.size) (ys:List SV) (hy:ys.length<=i) (es:σ'=⟨uE a,.b (stH A O en ys X),fa⟩)
inductive UcP (a:Str) (A:Nat->SV) (O:Nat->SO) (en:Nat) (X:List SO) (fa:List Fact) (i z:Nat) (fl:Fl) (σ':SS):Prop
 |mk (e:fl=.next) (ys':List SV) (hy:ys'.length<=i+1) (es:σ'=⟨(af "c",.ss ⟨#[z]⟩)::uE a,.b (stH A O en ys' X),fa⟩)
set_option tactic.hygienic true in
theorem aan(W:Wd)(u:Nat):dm (WS W) (148,2,pg u):=λG hD hT hn xs v K h=>by
 obtain⟨D,T,m,cs,KX,con,sc,ec,cv,fr⟩:=G
 obtain rfl:D=WS W:=hD
 obtain rfl:T=Tb.T:=hT
 have Y:(pg u xs v K).h:=h
 unfold pg at Y
 split at Y
 ·rename_i o x
  cases q:bD x with
  |none=>rw[q] at Y;exact Y.elim
  |some z=>
   rw[q] at Y
   obtain⟨a,ha⟩:=z
   obtain⟨⟨e0,y1,A,O,X,C⟩,hk⟩:=Y
   subst e0
   have u1:(K .none ⟨v.loc,OL.s v.objs 4 (.list (aa (.gv (u+a.length))) []),v.fa⟩).h:=hk
   have U:u+a.length<=10000:=y1
   let os:=stH A O u [] X
   refine av.conv (xs':=[.obj 0,.ss a]) (λL vs r=>by
    cases r using Each.ec with
    |cons r H=>cases H using Each.ec with|cons r' H=>exact .cons r (.cons (let⟨t,e⟩:=ha r';⟨t,e⟩) H)) (av.pre (σ':=⟨v.loc,.b os,v.fa⟩) (.of (λp p e=>e) C.symm rfl) (av.sw (n:=2) (cons:=[(84,1,uB)]) hn ?_))
   refine av.ent (K:=hh K) (σ:=⟨v.loc,.b os,v.fa⟩) ?_
   refine j8 (i:=Tb.q8) (n:=1) rfl rfl rfl rfl ?_
   rw[aak]
   let J:=UcJ a A O u X v.fa
   refine cZ (xJ (λp p p h=>h) (λp p=>rfl) J (λS n i M hJ=>?_) a.cps.size (IW (fS (x:=.ss a) (by kernel_rfl) (by kernel_rfl) (by kernel_rfl) ⟨a,id,rfl,Ff _,[],aH _,rfl⟩)))
   obtain⟨rfl,g,j,k,rfl⟩:=hJ
   refine⟨_,rfl,?_⟩
   cases e:a.cps[i]? with
   |none=>
    have V:a.cps.size<=i:=Array.getElem?_eq_none_iff.mp e
    refine⟨_,rfl,f6 ?_⟩
    refine⟨⟨v.loc,OL.s v.objs 4 (.list (aa (.gv (u+a.length))) []),v.fa⟩,λc L s R=>?_,u1⟩
    have R2:=ay.gv (i:=4) (en:=u) (n:=a.length) (ys:=j) (D:=WS W) rfl (by show _<=a.cps.size;exact Om.OW g k V) c L s R
    exact(show ay (WS W) ⟨v.loc,OL.s (.b (stH A O u j X)) 4 (.list (aa (.gv (u+a.length))) []),v.fa⟩ ⟨v.loc,OL.s v.objs 4 (.list (aa (.gv (u+a.length))) []),v.fa⟩ from .of (λp p e=>e) (congrArg (λl=>aX l 4 (SO.list (aa (.gv (u+a.length))) [])) C) rfl) c L s R2
   |some z=>
    have V:i<a.cps.size:=(Array.getElem?_eq_some_iff.mp e).1
    let P:=UcP a A O u X v.fa i z
    refine qP (by kernel_rfl) (aC.ent (Cw (W:=W) (os:=stH A O u j X) (uD (aai W)) (K:=P) ?_) ?_)
    ·refine(vE (WS W) P ⟨#[z]⟩ a A O u j X v.fa).mpr ⟨rfl,λb=>⟨λp=>⟨λus hu=>?_,⟨rfl,_,by rw[bK];exact ir k 1,rfl⟩,trivial⟩,λp=>⟨⟨rfl,j,Mg k,rfl⟩,trivial⟩⟩,trivial⟩
     have e1:us.length<=u:=hu
     have:a.length=a.cps.size:=rfl
     exact Om.OX U k V e1 this
    ·rintro fl M ⟨rfl,B,h1,rfl⟩
     refine⟨⟨uE a,.b (stH A O u B X),v.fa⟩,.of (λx y hx=>?_) rfl rfl,⟨n-1,by exact Om.FO g V,rfl,by exact Om.FP g V,B,h1,rfl⟩⟩
     show lk x (_::uE a)=_
     rw[bW]
     by_cases hc:x=af "c"
     ·have:lk x (uE a)=ah:=by rw[hc];kernel_rfl
      rw[this] at hx;cases hx
     ·rw[if_neg hc];exact hx
 ·exact Y.elim
section
variable(D:Wd)(cs:b3)(K:SV->SS->Prop)(u y:Str)(g k pc z m:Nat)(v:List (Str×SV))(j:List Fact)(C:Int)
noncomputable abbrev sR (p:Int) (c n b:SV) (e:Nat):List SO:=ri c n (.int 0) (.si (x6 u k u.length)) (.si C) b y p e [.tup [.si (x6 u k u.length),.si C]]
noncomputable abbrev exE (os:List SO) (m:Nat):Prop:=rq os m
noncomputable abbrev rep1 (x:Str):Str:=gu x (af "\x0d\n") (af "\n")
noncomputable abbrev rep2 (x:Str):Str:=gu (rep1 x) (af "\x0d") (af "\n")
noncomputable abbrev rt (x:SV) (os:List SO):Prop:=K x ⟨v,.b os,j⟩/\True
noncomputable abbrev tT (p:Int) (b:SV) (X:Str):Prop:=(SV.obj 0=SV.obj 0/\m+X.length<=10000/\exE (sR u y k C p (.str (af "")) (.int 0) b m) m)/\X.length+(X.length+1)*1<=16777216/\(rep1 X).length+((rep1 X).length+1)*1<=16777216/\(rep2 X).length<=sizeLine/\rt K v j (.bool ai) (sR u y k C p (.ss (rep2 X)) (.si (rep2 X).length) b (m+X.length))
noncomputable abbrev Cz (X:Str):Prop:=-(X.length:Int)<=-1/\-1<(X.length:Int)/\X.length<=sizeLine
noncomputable abbrev IX (p:Int) (X:Str):Prop:=Cz X/\X.length<=sizeLine/\tT K u y k m v j C p (.ss (eS X (-1))) (dc X ah (aa (-1)))
noncomputable abbrev bR (p:Int) (b:SV) (X:Str):Prop:=X.length<=sizeLine/\fk (decide ((1:Int)<X.length)) (Cz X/\(eS X (-1)).length=1/\fk (decide ((((eS X (-1)).cps.getD 0 0:Nat):Int)=13)) (IX K u y k m v j C p X) (fk (decide (55296<=(((eS X (-1)).cps.getD 0 0:Nat):Int))) (fk (decide ((((eS X (-1)).cps.getD 0 0:Nat):Int)<=56319)) (IX K u y k m v j C p X) (tT K u y k m v j C p b X)) (tT K u y k m v j C p b X))) (tT K u y k m v j C p b X)
noncomputable abbrev d0:Str:=dc y (aa (z:Int)) (aa ((z:Int)+10240))
noncomputable abbrev hR:Prop:=y.length<=sizeLine/\(d0 y z).length<=sizeLine/\(d0 y z).length<=sizeLine/\fk (!aQ (d0 y z).length 0) (bR K u y k m v j C (z+(d0 y z).length) .none (d0 y z)) (rt K v j (.bool aj) (sR u y k C (z+(d0 y z).length) (.str (af "")) (.int 0) .none m))
noncomputable abbrev CT (n:Int) (B:Int->Prop):Prop:=fk (decide (kg u (af "\n") 0 n=-1)) (B (pc+n)) (B (n-(kg u (af "\n") 0 n+1)))
theorem vRN:kq D cs 3 [(148,2,pg m)] 141 [.obj 0] v (bq u y g k pc z m ah) j K=CT u pc u.length (hR K u y k z m v j):=by kernel_rfl
noncomputable abbrev nP:Str:=⟨#[13]⟩
theorem vRS:kq D cs 3 [(148,2,pg m)] 141 [.obj 0] v (bq u y g k pc z m (aa 13)) j K=CT u pc u.length (λC=>y.length<=sizeLine/\(d0 y z).length<=sizeLine/\nP.length<=sizeLine/\fk (!aQ nP.length 0) (nP.length+(d0 y z).length<=sizeLine/\bR K u y k m v j C (z+(d0 y z).length) .none (nP++d0 y z))
 ((d0 y z).length<=sizeLine/\fk (!aQ (d0 y z).length 0) (bR K u y k m v j C (z+(d0 y z).length) (.ss nP) (d0 y z)) (rt K v j (.bool aj) (sR u y k C (z+(d0 y z).length) (.str (af "")) (.int 0) (.ss nP) m)))):=by kernel_rfl
theorem IY{n:Int}{B:Int->Prop}(h:B (x8 u pc n)):CT u pc n B:=by
 unfold x8 at h
 exact⟨λe=>by rwa[if_pos (of_decide_eq_true e)] at h,λe=>by rwa[if_neg (of_decide_eq_false e)] at h⟩
end
theorem ym(x:Str):(rep2 x).cps.toList=bG x.cps.toList:=St.Ij x
section
open St
variable{K:SV->SS->Prop}{u y:Str}{k pc z m:Nat}{Y:Option Nat}{v:List (Str×SV)}{j:List Fact}{C:Int}
theorem IZ(hp:oY y z m Y)(b:SV)(D:Str)(hD:D.cps.toList=f9 Y++y.cps.toList.drop z)(B:D.cps.toList≠[])(q:y.length<=z+(d0 y z).length)(hb:b=.none)
 (h:∀X e y1,nM u y k pc z m Y ai X (goes (k,pc) u.cps.toList).1 (goes (k,pc) u.cps.toList).2 (z+(d0 y z).length) e y1->K (.bool ai) ⟨v,.b (sR u y k C (z+(d0 y z).length) (.ss X) (.si X.length) (nK y1) e),j⟩):bR K u y k m v j C (z+(d0 y z).length) b D:=by
 subst hb
 obtain⟨hp,hz,hen,A,u1⟩:=hp
 have M:y.cps.toList.drop (z+(d0 y z).length)=[]:=sN (by rw[<-St.len_list];exact q)
 have p:D.length=(f9 Y).length+(y.length-z):=by rw[St.len_list,hD,bK,iu,<-St.len_list]
 have ho:(f9 Y).length<=1:=by rcases A with rfl|rfl<;>simp[f9]
 have x:=sizeLine_eq
 have hT:tT K u y k m v j C (z+(d0 y z).length) .none D:=by
  have h2:(rep1 D).length<=D.length:=B5 D
  have h3:(rep2 D).length<=D.length:=by rw[St.len_list,ym,St.len_list D];exact uu _
  refine⟨⟨rfl,by exact Om.FQ hen p,rq.of⟩,by exact Om.OY hen p,by exact Om.OZ hen p h2,by exact Om.O0 hen p x h3,h _ _ ah ⟨rfl,λe=>(by cases e),λqq=>(by rw[ym];exact Ih B),?_,λe=>(by cases e),.inr q,(by show(rep2 _).length<=_;exact Om.O2 hen p h3),?_,.inl rfl⟩,trivial⟩
  ·rw[ym,<-hD,M];simp[f9,W4]
  ·show _+_+0<=_
   exact Om.O3 q hen p
 refine⟨by exact Om.wW hen p x,λh1=>?_,λqq=>hT⟩
 obtain⟨a,c,L⟩:∃a c,D.cps.toList=a++[c]:=by
  rcases List.eq_nil_or_concat D.cps.toList with e|⟨a,c,e⟩
  ·exact absurd e B
  ·exact⟨a,c,by rw[e,List.concat_eq_append]⟩
 have O:1<D.length:=by have:=of_decide_eq_true h1;exact Om.O4 this
 have hit:=item_last D L
 have V:D.length=a.length+1:=by rw[St.len_list,L];simp
 have G:(dc D ah (aa (-1))).cps.toList=a:=by
  refine Eq.trans (HZ D 1 (aH _)) ?_
  rw[V,L,Nat.add_sub_cancel];simp
 have U:(dc D ah (aa (-1))).length=a.length:=by rw[St.len_list,G]
 have i1:(rep1 (dc D ah (aa (-1)))).length<=(dc D ah (aa (-1))).length:=B5 (dc D ah (aa (-1)))
 have H:(rep2 (dc D ah (aa (-1)))).cps.toList=bG a:=by rw[ym,G]
 have e1:(rep2 (dc D ah (aa (-1)))).length<=a.length:=by rw[St.len_list,H];exact uu a
 have hi:Cz D:=⟨by exact Om.O5 O V U,by exact Om.O6 O V U,by exact Om.wW hen p x⟩
 rw[hit]
 refine⟨hi,rfl,λh2=>?_,λh2=>⟨λh3=>⟨λh4=>?_,λh4=>hT⟩,λh3=>hT⟩⟩
 ·have hc:c=13:=by have o1:(c:Int)=13:=of_decide_eq_true h2;exact Om.O7 o1
  subst hc
  refine⟨hi,by exact Om.wW hen p x,⟨rfl,by exact Om.O8 hen p V U,rq.of⟩,by exact Om.q2 (aq (aK U) (aq (eg _) (aq (aK V.symm) (aq (i6 _ _) hT.1.2.1)))),by exact Om.O9 hen p O V U i1,by exact Om.Pa hen p x O V U e1,?_,trivial⟩
  rw[hit]
  refine h _ _ (aa 13) ⟨rfl,λe=>(by cases e),λqq=>(by rw[H];exact Ih λe=>(by rw[e] at V;simp at V;exact Om.Pb O V)),?_,λe=>(by cases e),.inr q,(by show(rep2 _).length<=_;exact Om.Pc hen p O V U e1),?_,.inr rfl⟩
  ·rw[H,<-hD,L,M,W3];rfl
  ·show _+_+1<=_
   exact Om.Pd q hen p V U
 ·exfalso
  have a3:(55296:Int)<=(c:Int):=of_decide_eq_true h3
  have a4:(c:Int)<=56319:=of_decide_eq_true h4
  have hm:c∈D.cps.toList:=by rw[L];simp
  rw[hD] at hm
  rcases jP.mp hm with hm|hm
  ·rcases A with rfl|rfl<;>simp[f9] at hm;exact Om.Pe a3 a4 hm
  ·have:=u1 c (LQ hm);exact Om.Pf a3 a4 this
theorem aar(D:Wd)(cs:b3){g:Nat}(hp:oY y z m Y)(h:∀b X U O H e V,nM u y k pc z m Y b X U O H e V->K (.bool b) ⟨v,.b (ri (.ss X) (.si X.length) (.si 0) (.si U) (.si O) (nK V) y H e [.tup [.si U,.si O]]),j⟩/\K (.bool b) ⟨v,.b (ri (.ss X) (.si X.length) (.int 0) (.si U) (.si O) (nK V) y H e [.tup [.si U,.si O]]),j⟩/\(b=aj->K (.bool b) ⟨v,.b (ri (.str (af "")) (.int 0) (.int 0) (.si U) (.si O) (nK V) y H e [.tup [.si U,.si O]]),j⟩)):
 kq D cs 3 [(148,2,pg m)] 141 [.obj 0] v (bq u y g k pc z m Y) j K:=by
 obtain⟨u1,hz,hen,y1,i1⟩:=id hp
 have x:=sizeLine_eq
 have M:(d0 y z).cps.toList=y.cps.toList.drop z:=by
  rw[show d0 y z=dc y (aa ((z:Nat):Int)) (aa ((z+10240:Nat):Int)) from rfl,BU,iL]
  rw[iu,<-St.len_list];exact Om.Pg hen
 have p:(d0 y z).length=y.length-z:=by rw[St.len_list,M,iu,<-St.len_list]
 have G:=W2 (ch:=u) (pl:=k) (pc:=pc) (o:=u.length) (aH _)
 rw[St.len_list,iL (aH _),<-St.len_list] at G
 rcases y1 with rfl|rfl
 ·rw[vRN]
  refine IY _ _ ?_
  rw[G.2]
  refine⟨by exact Om.FT hz x,by exact Om.Au x p hen,by exact Om.Au x p hen,λh0=>?_,λh0=>⟨?_,trivial⟩⟩
  ·refine IZ (pc:=pc) hp _ _ (by rw[M];rfl) (λe=>?_) (by exact Om.FU p) rfl λX e V h'=>?_
   ·have:(d0 y z).length=0:=by rw[St.len_list,e];rfl
    rw[this] at h0
    cases h0
   ·have:=(h ai X _ _ _ e V h').2.1
    unfold sR
    rw[G.1]
    exact this
  ·have L:(d0 y z).length=0:=by
    cases q:aQ (d0 y z).length 0 with
    |true=>exact bJ q
    |false=>rw[q] at h0;cases h0
   have B:y.cps.toList.drop z=[]:=by rw[<-M];exact sL (by rw[<-St.len_list];exact L)
   have A:y.cps.toList.drop (z+(d0 y z).length)=[]:=by rw[L];exact B
   unfold sR
   rw[G.1]
   refine(h aj ⟨#[]⟩ _ _ (z+(d0 y z).length) m ah ⟨rfl,λqq=>rfl,λe=>(by cases e),?_,λqq=>?_,.inr (by exact Om.Ph p L),(by show 0<=20000;exact Om.Pj),?_,.inl rfl⟩).2.2 rfl
   ·rw[B,A];rfl
   ·rw[A];rfl
   ·show m+(y.length-_)+0<=10000
    have:m+(y.length-z)+0<=10000:=hen
    exact Om.Pk p L this
 ·rw[vRS]
  refine IY _ _ ?_
  have e1:nP.length=1:=rfl
  refine⟨by exact Om.FT hz x,by exact Om.Au x p hen,by exact Om.Pn x e1,λqq=>⟨by exact Om.Po x p hen e1,IZ (pc:=pc) hp _ _ ?_ (λe=>?_) (by exact Om.FU p) rfl λX e V h'=>?_⟩,λe=>?_⟩
  ·show(nP++d0 y z).cps.toList=_
   rw[Mz,LY,M];rfl
  ·have:=congrArg List.length e
   rw[Mz,LY] at this
   simp at this
  ·have:=(h ai X _ _ _ e V h').2.1
   unfold sR
   rw[G.1,G.2]
   exact this
  ·cases e
end
noncomputable def mQ (x:SV):SV:=match x with
 |.bool b=>.sb b
 |.int i=>.si i
 |.str s=>.ss s
 |x=>x
theorem VR.er{W:Wd}{z:List Addr}{x:SV}{v:Value}(r:VR W z x v):VR W z (mQ x) v:=by cases x<;>exact r
noncomputable def yo (o:SO):SO:=match o with
 |.inst C z=>.inst C (z.map λp=>(p.1,mQ p.2))
 |.list p v=>.list p (v.map mQ)
 |.tup v=>.tup (v.map mQ)
 |o=>o
theorem Each.map{H z u:Type}{R:H->z->Prop}{q:u->z->Prop}{f:H->u}{v:List H}{j:List z}(k:∀x y,R x y->q (f x) y)(h:Each R v j):Each q (v.map f) j:=by
 induction h with
 |nil=>exact .nil
 |cons a _ p=>exact .cons (k _ _ a) p
theorem OR.er{W:Wd}{X:List (Addr×Obj)}{y:List Addr}{a:Addr}{o:SO}{l:List (Addr×Obj)}(r:OR W X y a o l):OR W X y a (yo o) l:=by
 cases o with
 |inst C x=>obtain⟨a,b,c,d,f⟩:=r;exact⟨a,b,c,d,Each.map (λz z q=>⟨q.key,q.hash,q.val.er⟩) f⟩
 |list p v=>obtain⟨a,b,c,d,q,f⟩:=r;exact⟨a,b,c,d,q,Each.map (λz z q=>q.er) f⟩
 |tup v=>obtain⟨a,b,d,f⟩:=r;exact⟨a,b,d,Each.map (λz z q=>q.er) f⟩
 |_=>exact r
theorem ay.er{D:Wd}{v:List (Str×SV)}{os x:List SO}{u:List Fact}(h:os.map yo=x):ay D ⟨v,.b os,u⟩ ⟨v,.b x,u⟩:=λc Y s R=>by
 obtain⟨⟨m,⟨k,ad,C,l2,g,y,F,N⟩,j⟩,p,u⟩:=R
 exact⟨⟨m,⟨k,ad,h▸Each.map (λz z q=>q.er) C,l2,g,y,F,N⟩,j⟩,p,u⟩
noncomputable abbrev gz (D:Wd) (x y:SV):Prop:=∀z v,VR D z x v->VR D z y v
theorem av.ph{G:Gx}{f:Value}{g:List SV}{y:SS}{K:SV->SS->Prop}(h:av G f g y λx k=>∃u m,gz G.D x u/\ay G.D k m/\K u m):av G f g y K:=λc Y s V a r=>
 jE (h c Y s V a r) (λv O ⟨j,k,x,p,R,q,u,m,C,l,z⟩=>⟨j,m,u,p,l _ _ _ R,C _ _ q,z⟩) λU U z=>z
noncomputable def uF (U p:Str) (m V j g D:Nat) (Y:Option Nat):bg:=λv y K=>.pr (v=[.obj 0]/\y.objs.list.take 5=bq U p m V j g D Y/\oY p g D Y/\∀b q z x H u k,nM U p V j g D Y b q z x H u k->(K (.sb b) ⟨y.loc,.b (bq q p 0 z x H u k++y.objs.list.drop 5),y.fa⟩).h) .tt
theorem I0(W:Wd)(ch Y:Str)(p M j g V:Nat)(O:Option Nat):dm (WS W) (141,3,uF ch Y p M j g V O):=λG hD hT hn xs y K h=>by
 obtain⟨D,T,m,cs,KX,con,sc,ec,cv,fr⟩:=G
 obtain rfl:D=WS W:=hD
 obtain rfl:T=Tb.T:=hT
 obtain⟨⟨rfl,e1,C,hk⟩,_⟩:(xs=[.obj 0]/\y.objs.list.take 5=bq ch Y p M j g V O/\oY Y g V O/\∀b A x v H B k,nM ch Y M j g V O b A x v H B k->(K (.sb b) ⟨y.loc,.b (bq A Y 0 x v H B k++y.objs.list.drop 5),y.fa⟩).h)/\True:=h
 have e5:y.objs.list=bq ch Y p M j g V O++y.objs.list.drop 5:=by rw[<-e1,iM]
 refine Bt (os:=bq ch Y p M j g V O) e5 (by cases O<;>rfl) rfl λL qq=>av.ph (Cq (n:=3) (cons:=[(148,2,pg V)]) hn (uD (aan W V)) ?_)
 refine aar (WS W) cs C λb X x v H e k P=>?_
 have U:∀os:List SO,os.map yo=bq X Y 0 x v H e k++[.tup [.si x,.si v]]->∃x' z,gz (WS W) (.bool b) x'/\ay (WS W) ⟨L,.b os,y.fa⟩ z/\(z.loc=L/\fE x'=ai/\∃u,u.length=5/\z.objs.list.take 5=u/\u.all (f7 5)=ai/\((∀f∈z.fa,f.ok (WS W).η)->(K x' ⟨y.loc,.b (u++y.objs.list.drop 5),z.fa⟩).h)):=
  λos h=>⟨.sb b,_,λqq qq q=>q,ay.er h,rfl,rfl,_,rfl,rfl,by cases k<;>rfl,λqq=>hk b X x v H e k P⟩
 refine⟨U _ (by rcases P.jc with rfl|rfl<;>rfl),U _ (by rcases P.jc with rfl|rfl<;>rfl),λhb=>U _ ?_⟩
 subst hb
 obtain rfl:=P.no rfl
 rcases P.jc with rfl|rfl<;>kernel_rfl
section
variable(D:Wd)(cs:b3)(K:SV->SS->Prop)(v u:Str)(y m k z p:Nat)(q:Option Nat)(j:List (Str×SV))(Y:List Fact)
noncomputable abbrev CU (x:Str) (i:Int):Prop:=-(x.length:Int)<=i/\i<x.length/\x.length<=sizeLine
theorem vC:kq D cs 4 [(141,3,uF v u y m k z p q)] 133 [.obj 0] j (bq v u y m k z p q) Y K=fk (decide ((v.length:Int)<=y))
 (([SV.obj 0]=[SV.obj 0]/\(bq v u y m k z p q).take 5=bq v u y m k z p q/\oY u z p q/\∀b x g V H U O,nM v u m k z p q b x g V H U O->
   fk b (CU x 0/\rt K j Y (.ss (eS x 0)) (bq x u 1 g V H U O)) (rt K j Y .none (bq x u 0 g V H U O)))/\True)
 (CU v y/\rt K j Y (.ss (eS v y)) (bq v u (y+1) m k z p q)):=by kernel_rfl
end
section
open St
variable{W:Wd}{cs:b3}{K:SV->SS->Prop}{v u:Str}{y m k z p:Nat}{q:Option Nat}{j:List (Str×SV)}{Y:List Fact}{d:Option (List Nat)}{r:List Nat}{un:Option (List Nat)}
inductive ru (d:Option (List Nat)) (r:List Nat) (un:Option (List Nat)) (P:List SO->Prop):Prop
 |mk (h:∀v u y m k z p q,dM d r un v u y m k z p q->P (bq v u y m k z p q))
theorem dM.pre(I:dM d r un v u y m k z p q):oY u z p q:=⟨I.hp,I.hz,I.hen,I.jc,I.hno⟩
theorem dM.read(I:dM d r un v u y m k z p q)(h:v.length<=y){b:Bool}{O:Str}{x V H U:Nat}{M:Option Nat}(P:nM v u m k z p q b O x V H U M):dM d r ah O u 0 x V H U M:=by
 obtain rfl:y=v.length:=ny I.hoff h
 refine⟨bP _,?_,λg L=>?_,P.hp,I.hz,P.hch,P.hen,P.jc,λl e=>Om.ns e,I.hno⟩
 ·have:=I.hr
  rw[St.len_list,List.drop_length,ow] at this
  rw[qt,this];exact P.all
 ·obtain⟨D,e,G⟩:=I.hd g L
  rw[St.len_list,iL (aH _)] at e
  refine⟨D++v.cps.toList,by rw[List.take_zero,cO];exact e,?_⟩
  rw[uq,G];exact P.pos
theorem dM.take(I:dM d r un v u y m k z p q){c:Nat}(h:v.cps.toList[y]? =aa c):∃U,r=c::U/\dM (d.map (· ++[c])) U (aa [c]) v u (y+1) m k z p q:=by
 obtain⟨x,V⟩:=dh.mp h
 refine⟨v.cps.toList.drop (y+1)++bG (f9 q++u.cps.toList.drop z),?_,by rw[St.len_list];exact Om.Pp x,rfl,λg O=>?_,I.hp,I.hz,I.hch,I.hen,I.jc,λl e=>?_,I.hno⟩
 ·rw[I.hr,kK x,V];rfl
 ·cases d with
  |none=>cases O
  |some d0=>
   cases O
   obtain⟨D,e,M⟩:=I.hd d0 rfl
   exact⟨D,by show d0++[c]=_;rw[e,bY,LB x,V],M⟩
 ·cases e
  exact⟨c,v.cps.toList.take y,rfl,by rw[LB x,V]⟩
theorem aas(I:dM d r un v u y m k z p q)(hE:r=[]->ru d [] ah λos=>K .none ⟨j,.b os,Y⟩)(hC:∀c M,r=c::M->ru (d.map (· ++[c])) M (aa [c]) λos=>K (.ss ⟨#[c]⟩) ⟨j,.b os,Y⟩):
 kq (WS W) cs 4 [(141,3,uF v u y m k z p q)] 133 [.obj 0] j (bq v u y m k z p q) Y K:=by
 have C:=sizeLine_eq
 have y1:=I.hch
 rw[vC]
 refine⟨λh1=>⟨⟨rfl,rfl,I.pre,λb V u1 i1 A o1 p1 P=>?_⟩,trivial⟩,λh1=>?_⟩
 ·have I':=I.read (by have:=of_decide_eq_true h1;exact Om.Pq this) P
  refine⟨λhb=>?_,λhb=>⟨?_,trivial⟩⟩
  ·subst hb
   obtain⟨x,r0,L⟩:=List.exists_cons_of_ne_nil (P.yes rfl)
   have g:0<V.length:=by rw[St.len_list,L];simp
   have H:=P.hch
   refine⟨⟨by exact Om.Pr g H,by exact Om.Pu g H,by exact Om.Pw C g H⟩,?_,trivial⟩
   have B:V.cps.toList[0]? =aa x:=by rw[L];rfl
   obtain⟨M,G,I2⟩:=I'.take B
   rw[show eS V 0=⟨#[x]⟩ from um V 0 B]
   exact(hC x M G).1 _ _ _ _ _ _ _ _ I2
  ·subst hb
   have e1:=P.no rfl
   have e2:=P.fin rfl
   have O:r=[]:=by rw[I'.hr,e1,e2];rfl
   exact(hE O).1 _ _ _ _ _ _ _ _ (O▸I')
 ·have U:y<v.cps.toList.length:=by have:=of_decide_eq_false h1;rw[<-St.len_list];exact Om.Px this
  have h:=St.len_list v
  refine⟨⟨by exact Om.Py U h,by exact Om.PS U h,by exact Om.PY C y1 h⟩,?_,trivial⟩
  have B:v.cps.toList[y]? =aa v.cps.toList[y]:=ig U
  obtain⟨M,G,I2⟩:=I.take B
  rw[um v y B]
  exact(hC _ M G).1 _ _ _ _ _ _ _ _ I2
end
noncomputable def nQ (a b:Tm):{z:Tm//∀k,z.ev k=a.ev k++b.ev k}:=@aY _ (λy=>{z:Tm//∀k,z.ev k=a.ev k++b.ev k}) ⟨cat a b,λy=>rfl⟩ (λh=>⟨b,λk=>by rw[h.1 k];rfl⟩) (Gy a)
noncomputable def ku (k:Nat) (l:List Nat) (a b:Tm) (y no:List Fact->Tr) (x:List Fact):Tr:=@aY Bool (λz=>Tr) (.and (y (⟨k,l,a,b,ai⟩::x)) (no (⟨k,l,a,b,aj⟩::x))) (λv=>@az (λz=>Tr) (no x) (y x) v) (asks k l a b x)
inductive aat (η:Ev) (k:Nat) (l:List Nat) (a b:Tm) (yes no:List Fact->Tr):Prop
 |t (fa:List Fact) (ok:aT η fa) (e:cF η k l (a.ev η) (b.ev η)=ai) (h:(yes fa).h)
 |f (fa:List Fact) (ok:aT η fa) (e:cF η k l (a.ev η) (b.ev η)=aj) (h:(no fa).h)
theorem uG{η:Ev}{k:Nat}{l:List Nat}{a b:Tm}{z no:List Fact->Tr}{y:List Fact}(h:(ku k l a b z no y).h)(ok:aT η y):aat η k l a b z no:=by
 unfold ku at h
 cases e:asks k l a b y with
 |none=>
  rw[e] at h
  cases q:cF η k l (a.ev η) (b.ev η) with
  |true=>exact .t _ (aT.cons (f:=⟨k,l,a,b,ai⟩) q ok) q h.1
  |false=>exact .f _ (aT.cons (f:=⟨k,l,a,b,aj⟩) q ok) q h.2
 |some v=>
  rw[e] at h
  have q:=mj e ok
  cases v with
  |true=>exact .t _ ok q h
  |false=>exact .f _ ok q h
theorem av.facts{G:Gx}{f:Value}{v:List SV}{σ:SS}{K:SV->SS->Prop}(h:aT G.D.η σ.fa->∃y,aT G.D.η y/\av G f v ⟨σ.loc,σ.objs,y⟩ K):av G f v σ K:=λc x s q a r=>
 let⟨y,ok,z⟩:=h a.fa;z c x s q (a.to (pr _) ⟨let⟨m,l,r⟩:=a.R;⟨m,l,r⟩,a.tp,ok⟩) r
noncomputable def nR (x:SV) (σ:SS):Option {z:Nat×bQ//x=.obj z.1/\σ.objs.list[z.1]? =aa (.blob (.strm z.2))}:=au (iB x) λi=>au (fT σ.objs i.1) λo=>(rj o.1).map λst=>⟨(i.1,st.1),i.2,st.2▸o.2⟩
noncomputable def pq (σ:SS) (i:Nat) (st:bQ) (z:List Fact):SS:=⟨σ.loc,OL.s σ.objs i (.blob (.strm st)),z⟩
noncomputable def uH:bg:=λv σ K=>match v with
 |[x]=>@aY _ (λq=>Tr) .ff (λz=>@aY _ (λq=>Tr)
   (ku 0 [] z.1.2.r .e (λy=>K (.tm (s9 z.1.2.r)) (pq σ z.1.1 ⟨z.1.2.d.map λd=>(nQ d (s9 z.1.2.r)).1,tg z.1.2.r,aa (s9 z.1.2.r)⟩ y)) (λy=>K .none (pq σ z.1.1 ⟨z.1.2.d,lit [],ah⟩ y)) σ.fa)
   (λw=>K (.tm w.1.1) (pq σ z.1.1 ⟨z.1.2.d.map λd=>(nQ d w.1.1).1,w.1.2,aa w.1.1⟩ σ.fa)) (hdS z.1.2.r)) (nR x σ)
 |_=>.ff
section
variable{W:Wd}{G:Gx}{σ:SS}{K:SV->SS->Tr}{i:Nat}{u:List (Str×SV)}
theorem ru.closed{d:Option (List Nat)}{r:List Nat}{un:Option (List Nat)}{st:bQ}{K:SV->SS->Prop}{x y:SV}{k:List Fact}(q:st.d.map (·.ev W.η)=d)(H:st.r.ev W.η=r)(L:st.un.map (·.ev W.η)=un)(M:∀Y p v,VR G.D Y x v->VR G.D p y v)(z:K y ⟨σ.loc,OL.s σ.objs i (.blob (.strm st)),k⟩):
 ru d r un λos=>tW (mP W.η) G σ i K u x ⟨u,.b os,k⟩:=⟨λC V m O j g D B I=>.mk (.strm st) 5 y rfl ⟨C,V,m,O,j,g,D,B,rfl,q▸H▸L▸I⟩ Co (by decide) (λU=>M) λU=>z⟩
theorem yp(V:G.D=WS W)(C:G.T=Tb.T)(Y:4<=G.n){st:bQ}(D:σ.objs.list[i]? =aa (.blob (.strm st)))(U:st.r.ev W.η=[]->hh K .none (pq σ i ⟨st.d,lit [],ah⟩ σ.fa))
 (B:∀c p,st.r.ev W.η=c::p->∃h t,h.ev W.η=[c]/\t.ev W.η=p/\hh K (.tm h) (pq σ i ⟨st.d.map λd=>(nQ d h).1,t,aa h⟩ σ.fa)):av G (.ref 133) [.obj i] σ (hh K):=by
 refine Cr V C (n:=4) Y D rfl λu ch M k H j g en bf I=>⟨_,[],uD (I0 W ch M k H j g en bf),λm m r=>r,aas I (λe=>ru.closed (st:=⟨st.d,lit [],ah⟩) (y:=.none) rfl rfl rfl (λm m m q=>q) (U e)) λc p e=>?_⟩
 obtain⟨h,t,x,A,z⟩:=B c p e
 refine ru.closed (st:=⟨st.d.map λd=>(nQ d h).1,t,aa h⟩) ?_ A (by rw[<-x];rfl) (λρ O v q=>?_) z
 ·cases st.d with
  |none=>rfl
  |some d=>exact congrArg aa (((nQ d h).2 W.η).trans (by rw[x]))
 ·obtain⟨L,rfl⟩:=q
  refine⟨L,?_⟩
  rw[V,show(WS W).η=W.η from rfl,x];rfl
set_option tactic.hygienic true in
theorem I3(W:Wd):dm (WS W) (133,4,uH):=λG v V Y O σ K h=>by
 have p:(uH O σ K).h:=h
 unfold uH at p
 split at p
 ·rename_i x
  cases q:nR x σ with
  |none=>rw[q] at p;exact p.elim
  |some z=>
   rw[q] at p
   obtain⟨⟨i,st⟩,e,j⟩:=z
   have y:x=.obj i:=e
   subst y
   dsimp only at p
   cases q2:hdS st.r with
   |none=>
    rw[q2] at p
    refine av.facts λB=>?_
    rcases uG (η:=W.η) p (by rw[v] at B;exact B) with⟨m,ok,e,g⟩|⟨m,ok,e,g⟩
    ·refine⟨m,by rw[v];exact ok,yp (W:=W) (σ:=⟨σ.loc,σ.objs,m⟩) v V Y j (λy=>?_) λc U y=>⟨s9 st.r,tg st.r,?_,?_,g⟩⟩
     ·rw[y] at e;cases e
     ·show(st.r.ev W.η).take 1=_
      rw[y];rfl
     ·show(st.r.ev W.η).drop 1=_
      rw[y];rfl
    ·refine⟨m,by rw[v];exact ok,yp (W:=W) (σ:=⟨σ.loc,σ.objs,m⟩) v V Y j (λy=>g) λc U y=>?_⟩
     rw[y] at e;cases e
   |some w=>
    rw[q2] at p
    obtain⟨c,M,k⟩:=w.2 W.η
    refine yp (W:=W) v V Y j (λy=>by rw[y] at k;cases k) λC U y=>?_
    rw[y] at k
    cases k
    exact⟨w.1.1,w.1.2,M,rfl,p⟩
 ·exact p.elim
end
theorem aC.pre{H x z:Type}{G:Gx}{V:List Addr->H->x->Prop}{R:List Addr->z->Prop}{t:Cx->z->Sem x}{y σ':SS}{K:H->SS->Prop}(l:ay G.D y σ')(h:aC G V R t σ' K):aC G V R t y K:=λc v s w a r=>h c v s w (a.to (pr _) (l _ _ _ a.toRepS)) r
noncomputable def yq (G:Gx) (e:Expr) (y:List (Str×SV)) (os:List SO) (v:List Fact) (K:SV->SS->Prop):Prop:=((ex 60 G).E e ⟨y,.b os,v⟩ λx z=>.pr (K x (dX z)) .tt).t.h
noncomputable def I4 (G:Gx) (e:Expr) (y:List (Str×SV)) (os:List SO) (v:List Fact) (K:SV->SS->Prop):Prop:=((ex 60 G).T e ⟨y,.b os,v⟩ λx z=>.pr (K x (dX z)) .tt).t.h
theorem CV{G:Gx}(g:bw G){e:Expr}{v:List (Str×SV)}{os:List SO}{u:List Fact}{K:SV->SS->Prop}(h:yq G e v os u K):aA G e ⟨v,.b os,u⟩ K:=
 aC.ent (((ex 60 G).E e ⟨v,.b os,u⟩ λx y=>.pr (K x (dX y)) .tt).ok h g) λx y z=>⟨dX y,λq q q R=>R.nf,z.1⟩
theorem aau{G:Gx}(g:bw G){e:Expr}{v:List (Str×SV)}{os:List SO}{u:List Fact}{K:SV->SS->Prop}(h:I4 G e v os u K):bS G e ⟨v,.b os,u⟩ K:=
 aC.ent (((ex 60 G).T e ⟨v,.b os,u⟩ λx y=>.pr (K x (dX y)) .tt).ok h g) λx y z=>⟨dX y,λq q q R=>R.nf,z.1⟩
theorem pB{W:Wd}{cs:b3}{n:Nat}{cons:List (Addr×Nat×bg)}(g:∀x∈cons,dm (WS W) x):bw (gi (WS W) cs n cons):=⟨λx u k m p Y v y K z=>g x u k m p Y v y K z,pe W,λx u=>Om.nm u,λx u=>Om.nm u,λq q q h=>h⟩
noncomputable def aN:List Stmt->Nat->Stmt
 |[],_=>.Pass ⟨0,0,0,0⟩
 |s::_,0=>s
 |_::r,i+1=>aN r i
noncomputable abbrev nS (s:Stmt):Expr:=jT s 0
noncomputable abbrev lz (s:Stmt):List Stmt:=jU s 0
noncomputable abbrev aav (s:Stmt):Pos:=s.pos
theorem dM.readAll{d:Option (List Nat)}{r:List Nat}{un:Option (List Nat)}{v j:Str}{x U O z V:Nat}{Y:Option Nat}(I:dM d r un v j x U O z V Y){b:Bool}{q:Str}{G C H B:Nat}{p:Option Nat}(P:nM v j U O z V Y b q G C H B p):
 ∃A,r=v.cps.toList.drop x++A/\A=q.cps.toList++bG (f9 p++j.cps.toList.drop H)/\dM (d.map (· ++v.cps.toList.drop x)) A ah q j 0 G C H B p:=by
 refine⟨_,by rw[I.hr,P.all],rfl,bP _,rfl,λg h=>?_,P.hp,I.hz,P.hch,P.hen,P.jc,λl e=>Om.ns e,I.hno⟩
 cases d with
 |none=>cases h
 |some d0=>
  cases h
  obtain⟨D,e,h2⟩:=I.hd d0 rfl
  refine⟨D++v.cps.toList,?_,?_⟩
  ·show d0++_=_
   rw[e,bY,iM,List.take_zero,cO]
  ·rw[St.uq,h2];exact P.pos
theorem dM.skip{d:Option (List Nat)}{r:List Nat}{un:Option (List Nat)}{v j:Str}{x U O z V:Nat}{Y:Option Nat}(I:dM d r un v j x U O z V Y){n:Nat}(h:x+n<=v.length):
 ∃q,r=(v.cps.toList.drop x).take n++q/\q=v.cps.toList.drop (x+n)++bG (f9 Y++j.cps.toList.drop z)/\dM (d.map (· ++(v.cps.toList.drop x).take n)) q ah v j (x+n) U O z V Y:=by
 refine⟨_,?_,rfl,h,rfl,λg p=>?_,I.hp,I.hz,I.hch,I.hen,I.jc,λl e=>Om.ns e,I.hno⟩
 ·rw[I.hr,<-bY,<-jv,iM]
 ·cases d with
  |none=>cases p
  |some d0=>
   cases p
   obtain⟨D,e,H⟩:=I.hd d0 rfl
   refine⟨D,?_,H⟩
   show d0++_=_
   rw[e,bY]
   congr 1
   conv=>rhs;rw[<-iM x (v.cps.toList.take (x+n))]
   rw[MA,i0 (bL _ _),List.drop_take,jN]
theorem dM.len{d:Option (List Nat)}{r:List Nat}{un:Option (List Nat)}{v j:Str}{x U O z V:Nat}{Y:Option Nat}(I:dM d r un v j x U O z V Y):r.length<=30001:=by
 have q:=St.uu (f9 Y++j.cps.toList.drop z)
 have H:=I.hch
 have g:=I.hz
 have p:(f9 Y).length<=1:=by cases Y<;>simp[f9]
 rw[I.hr,bK,iu,<-St.len_list]
 rw[bK,iu,<-St.len_list] at q
 exact Om.PZ q H g p
theorem aaw{p:Nat->Bool}{l:List Nat}(h:l.all p=ai):l.takeWhile p=l:=by
 induction l with
 |nil=>rfl
 |cons a r q=>
  rw[jQ,cD] at h
  rw[v5 h.1,q h.2]
theorem ry{p:Nat->Bool}{a b:List Nat}(h:a.all p=ai)(g:∀c r,b=c::r->p c=aj):(a++b).takeWhile p=a/\(a++b).dropWhile p=b:=by
 induction a with
 |nil=>
  cases b with
  |nil=>exact⟨rfl,rfl⟩
  |cons c r=>
   have:=g c r rfl
   rw[ow,LC (by rw[this];decide),ahr (by rw[this];decide)]
   exact⟨rfl,rfl⟩
 |cons c a q=>
  rw[jQ,cD] at h
  rw[Mr,v5 h.1,ahq h.1,(q h.2).1,(q h.2).2]
  exact⟨rfl,rfl⟩
theorem aax(p:Nat->Bool)(l:List Nat):∃a b,l=a++b/\l.takeWhile p=a/\a.all p=ai/\∀c r,b=c::r->p c=false:=by
 induction l with
 |nil=>exact⟨[],[],rfl,rfl,rfl,λq q e=>by cases e⟩
 |cons c l g=>
  cases h:p c with
  |true=>
   obtain⟨a,b,e,B,G,H⟩:=g
   exact⟨c::a,b,by rw[e];rfl,by rw[v5 h,B],by rw[jQ,h,G];rfl,H⟩
  |false=>exact⟨[],c::l,rfl,by rw[LC (by rw[h];decide)],rfl,λC r e=>by cases e;exact h⟩
theorem ay.last{D:Wd}{q:List (Str×SV)}{os:List SO}{o H:SO}{M:List Fact}(h:∀X p a l,OR D X p a o l->OR D X p a H l):ay D ⟨q,.b (os++[o]),M⟩ ⟨q,.b (os++[H]),M⟩:=λc p s R=>by
 obtain⟨⟨m,⟨ls,ad,l1,l2,g,gr,F,N⟩,hl⟩,G,M⟩:=R
 obtain⟨A,B,rfl,lA,C⟩:=Each.split (xs:=os) (ys:=[o]) l1
 cases C using Each.ec with
 |cons r t=>
  cases t
  exact⟨⟨m,⟨_,ad,Each.app lA (.one (h _ _ _ _ r)),l2,g,gr,F,N⟩,hl⟩,G,M⟩
theorem OR.aay{D:Wd}{X:List (Addr×Obj)}{p:List Addr}{a:Addr}{l:List (Addr×Obj)}(r:OR D X p a (.list ah []) l):OR D X p a (.list (aa (.txt [] 0)) []) l:=by
 obtain⟨H,g,n,e,q,f⟩:=r
 obtain rfl:H=[]:=q
 exact⟨[],g,n,e,⟨[],.nil,rfl,aH _⟩,f⟩
theorem pC{C G:List Value}{H g:List Str}(h:StrsAre C H)(q:StrsAre G g):StrsAre (C++G) (H++g):=by
 induction h with
 |nil=>exact q
 |cons _ _ _ p=>exact .cons _ _ p
theorem OR.aaz{D:Wd}{X:List (Addr×Obj)}{p:List Addr}{a:Addr}{l:List (Addr×Obj)}{s:List Nat}{k:Nat}{y:Str}(r:OR D X p a (.list (aa (.txt s k)) [.ss y]) l):OR D X p a (.list (aa (.txt (s++y.cps.toList) (k+1))) []) l:=by
 obtain⟨H,A,n,e,⟨g,B,C,G⟩,f⟩:=r
 cases f using Each.ec with
 |cons q t=>
  cases t
  obtain⟨t,rfl⟩:=q
  refine⟨H++[.str y t],[],n,by rw[cO];exact e,⟨g++[y],pC B (.cons _ _ .nil),by rw[oq,C];simp,?_⟩,.nil⟩
  rw[bK];exact ir G 1
noncomputable abbrev L0 (y:SV) (u:Bool) (m:Nat):List (Str×SV):=[(af "rv",.obj m),(af "self",.obj 0),(af "characters",y),(af "opposite",.bool u)]
noncomputable abbrev Le (y:SV) (u:Bool) (m:Nat) (e:Int):List (Str×SV):=(af "end",.si e)::L0 y u m
noncomputable def dG (i:Nat):Stmt:=aN Tb.gV.body i
noncomputable def I5:List Stmt:=(lz (dG 1)).drop 2
section
variable(D:Wd)(K:Fl->SS->Prop)(e:Nat)(v j:Str)(x U O z V:Nat)(Y:Option Nat)(s:List Nat)(k:Nat)(y:SV)(u:Bool)(m:Nat)(L:List SO)(M:List Fact)
noncomputable abbrev uO (q:List SV):List SO:=bq v j x U O z V Y++(L++[.list (aa (.txt s k)) q])
noncomputable abbrev uK (q:Fl) (os:List SO):Prop:=K q ⟨Le y u m e,.b os,M⟩/\True
noncomputable abbrev uP:Prop:=∀q,lZ (.txt s k) q->q.length+([]:List SV).length<=16777216
noncomputable def CW:Prop:=v.length<=sizeLine/\uP s k/\([SV.obj 0]=[SV.obj 0]/\(uO v j x U O z V Y s k L [.ss (dc v (aa (x:Int)) ah)]).take 5=bq v j x U O z V Y/\oY j z V Y/\
 ∀b G q p H g C,nM v j U O z V Y b G q p H g C->
  fk b (uK K e y u m M .next (uO G j 0 q p H g C s k L [.ss (dc v (aa (x:Int)) ah)])) (uK K e y u m M .brk (uO G j 0 q p H g C s k L [.ss (dc v (aa (x:Int)) ah)])))/\True
noncomputable def uW:Prop:=fk (decide ((e:Int)=x)) (fk (!decide ((x:Int)=v.length)) (uK K e y u m M .brk (uO v j x U O z V Y s k L [])) (CW K e v j x U O z V Y s k y u m L M))
 (fk (!decide ((e:Int)=v.length)) (v.length<=sizeLine/\uP s k/\uK K e y u m M .brk (uO v j e U O z V Y s k L [.ss (dc v (aa (x:Int)) (aa (e:Int)))])) (CW K e v j x U O z V Y s k y u m L M))
noncomputable abbrev CX:Prop:=yl D Tb.gV.scope 4 [(141,3,uF v j x U O z V Y)] I5 (Le y u m e) (uO v j x U O z V Y s k L []) M K
theorem vW5:CX D K e v j x U O z V Y s k y u 5 [] M=uW K e v j x U O z V Y s k y u 5 [] M:=by kernel_rfl
theorem vW6(cs:List SV):CX D K e v j x U O z V Y s k y u 6 [.tup cs] M=uW K e v j x U O z V Y s k y u 6 [.tup cs] M:=by kernel_rfl
end
theorem dmap(d:Option (List Nat))(s a:List Nat):(d.map (· ++s)).map (· ++a)=d.map (· ++(s++a)):=by
 cases d with
 |none=>rfl
 |some d=>exact congrArg aa (bY d s a)
inductive CY (p:Nat->Bool) (d:Option (List Nat)) (r0:List Nat) (y:SV) (j:Bool) (m:Nat) (U:List SO) (V:List Fact) (n:Nat) (σ:SS):Prop
 |mk (g O:Str) (z M L u H:Nat) (G:Option Nat) (s:List Nat) (k:Nat) (Y:List Nat) (I:dM (d.map (· ++s)) Y ah g O z M L u H G) (sp:r0=s++Y) (all:s.all p=ai) (w:Nat) (hw:w=1\/(w=0/\z<g.length)) (hn:n=2*Y.length+w) (hk:k+n<=90000)
  (e:σ=⟨L0 y j m,.b (uO g O z M L u H G s k U []),V⟩)
noncomputable abbrev I6 (p:Nat->Bool) (d:Option (List Nat)) (r0:List Nat) (y:SV) (j:Bool) (m:Nat) (U:List SO) (V:List Fact) (Kf:Fl->SS->Prop):Prop:=∀g O z M L u H G k e,dM (d.map (· ++r0.takeWhile p)) (r0.dropWhile p) ah g O z M L u H G->k<=90000->Kf .next ⟨Le y j m e,.b (uO g O z M L u H G (r0.takeWhile p) k U []),V⟩
theorem CZ{g O:Str}{z M L u H:Nat}{G:Option Nat}{s:List Nat}{k:Nat}{U:List SO}{x:List SV}:uO g O z M L u H G s k U x=(bq g O z M L u H G++U)++[.list (aa (.txt s k)) x]:=(bY _ _ _).symm
theorem ay.cut{D:Wd}{n:Str}{v:SV}{C:List (Str×SV)}{os:OL}{V:List Fact}(h:lk n C=ah):ay D ⟨(n,v)::C,os,V⟩ ⟨C,os,V⟩:=.of (λx y e=>by
 show lk x ((n,v)::C)=aa y
 rw[bW]
 by_cases q:x=n
 ·rw[q,h] at e;cases e
 ·rw[if_neg q];exact e) rfl rfl
theorem ay.trans{D:Wd}{a b c:SS}(h:ay D a b)(q:ay D b c):ay D a c:=λx x x R=>q _ _ _ (h _ _ _ R)
theorem ay.fold{D:Wd}{v:List (Str×SV)}{g O:Str}{z M L u H:Nat}{G:Option Nat}{s a:List Nat}{k:Nat}{U:List SO}{x:Str}{V:List Fact}(h:x.cps.toList=a):
 ay D ⟨v,.b (uO g O z M L u H G s k U [.ss x]),V⟩ ⟨v,.b (uO g O z M L u H G (s++a) (k+1) U []),V⟩:=by
 rw[CZ,CZ]
 exact ay.last λX q C l r=>h▸OR.aaz r
section
variable{D:Wd}{p:Nat->Bool}{d:Option (List Nat)}{r0:List Nat}{y:SV}{j:Bool}{m:Nat}{U:List SO}{V:List Fact}{Kf:Fl->SS->Prop}{n:Nat}{g O:Str}{z M L u H:Nat}{G:Option Nat}{s:List Nat}{k:Nat}{Y:List Nat}
noncomputable def C0 (D:Wd) (p:Nat->Bool) (d:Option (List Nat)) (r0:List Nat) (y:SV) (j:Bool) (m:Nat) (U:List SO) (V:List Fact) (Kf:Fl->SS->Prop) (n:Nat) (B:Fl) (C:SS):Prop:=∃v,ay D C v/\jd Kf (λx=>∃q,q<n/\CY p d r0 y j m U V q x) B v
theorem aaC(hE:I6 p d r0 y j m U V Kf)(I:dM (d.map (· ++s)) Y ah g O z M L u H G)(sp:r0=s++Y)(all:s.all p=ai){w:Nat}(hw:w=1\/(w=0/\z<g.length))(hn:n=2*Y.length+w)(hk:k+n<=90000):
 uW (C0 D p d r0 y j m U V Kf n) (z+((g.cps.toList.drop z).takeWhile p).length) g O z M L u H G s k y j m U V:=by
 have p1:=sizeLine_eq
 have d1:=I.hch
 have C:=I.hoff
 obtain⟨a,b,x,l1,ha,hb⟩:=aax p (g.cps.toList.drop z)
 have v:a.length+b.length=g.length-z:=by rw[St.len_list,<-iu,x,bK]
 rw[l1]
 have u1:(s++a).all p=true:=by rw[E9,all,ha];rfl
 have hP:uP s k:=λus ⟨ys,_,_,h⟩=>by show _+0<=_;exact Om.P0 hn hk h
 have c1:∀{e:Int} {os:OL},ay D ⟨Le y j m e,os,V⟩ ⟨L0 y j m,os,V⟩:=ay.cut (by kernel_rfl)
 have rd:b=[]->CW (C0 D p d r0 y j m U V Kf n) (z+a.length) g O z M L u H G s k y j m U V:=by
  intro x1
  subst x1
  rw[cO] at x
  have a1:(dc g (aa (z:Int)) ah).cps.toList=a:=by rw[St.HY,x]
  refine⟨by exact Om.FW p1 d1,hP,⟨rfl,rfl,I.pre,λb Q1 b1 n1 f1 m1 W1 P=>?_⟩,trivial⟩
  obtain⟨r',h1,B,I2⟩:=I.readAll P
  rw[x,dmap] at I2
  rw[x] at h1
  have hcl:Y.length=a.length+r'.length:=by rw[h1,bK]
  have y1:r0=(s++a)++r':=by rw[sp,h1,bY]
  refine⟨λhb=>⟨⟨_,(ay.fold a1).trans c1,2*r'.length,?_,.mk _ _ _ _ _ _ _ _ _ _ _ I2 y1 u1 0 (.inr ⟨rfl,?_⟩) rfl (by rcases hw with rfl|⟨rfl,o1⟩<;>simp only[Ac] at v<;>(first|exact Om.P4 hk v hcl hn|exact Om.P5 hk v hcl o1 hn)) rfl⟩,trivial⟩,λhb=>⟨⟨_,ay.fold a1,?_⟩,trivial⟩⟩
  ·rcases hw with rfl|⟨rfl,o1⟩
   ·exact Om.P6 v hcl hn
   ·simp only[Ac] at v;exact Om.P7 v hcl o1 hn
  ·have:=P.yes hb
   rw[St.len_list]
   exact List.length_pos_iff.mpr this
  ·have e1:=P.no hb
   have e2:=P.fin hb
   have z1:r'=[]:=by rw[B,e1,e2];rfl
   subst z1
   obtain⟨A,g2⟩:=ry (p:=p) (a:=s++a) (b:=[]) u1 (λc r e=>by cases e)
   rw[<-y1] at A g2
   have:=hE _ _ _ _ _ _ _ _ (k+1) ((z+a.length:Nat):Int) (A.symm▸g2.symm▸I2) (by exact Om.P8 hw hn hk C v hcl)
   rw[A] at this
   exact this
 refine⟨λh1=>⟨λB=>⟨⟨_,λqq qq qq R=>R,?_⟩,trivial⟩,λB=>rd ?_⟩,λh1=>⟨λB=>⟨by exact Om.FW p1 d1,hP,⟨_,ay.fold (a:=a) ?_,?_⟩,trivial⟩,λB=>rd ?_⟩⟩
 ·have e0:a.length=0:=by have:=of_decide_eq_true h1;exact Om.FY v this
  have ea:a=[]:=sL e0
  have i1:z≠g.length:=λe=>by rw[e] at B;simp at B
  obtain⟨A,g2⟩:=ry (p:=p) (a:=s) (b:=Y) all λc r e=>by
   rw[I.hr,x,ea] at e
   cases b with
   |nil=>simp only[Ac] at v;exact Om.P9 C e0 i1 v
   |cons c0 b0=>cases e;exact hb c b0 rfl
  rw[<-sp] at A g2
  have:=hE _ _ _ _ _ _ _ _ k ((z+a.length:Nat):Int) (A.symm▸g2.symm▸I) (by exact Om.Qa hn hk)
  rw[A] at this
  exact this
 ·have e0:a.length=0:=by have:=of_decide_eq_true h1;exact Om.FY v this
  have:z=g.length:=by
   cases q:decide ((z:Int)=g.length) with
   |true=>have:=of_decide_eq_true q;exact Om.Qc this
   |false=>rw[q] at B;cases B
  exact sL (by exact Om.Qd v e0 this)
 ·rw[St.BU,x,jN,oz]
 ·obtain⟨r',h3,h4,I2⟩:=I.skip (n:=a.length) (by exact Om.Qe C v)
  rw[x,oz,dmap] at I2
  rw[x,oz] at h3
  have hcl:Y.length=a.length+r'.length:=by rw[h3,bK]
  have y1:r0=(s++a)++r':=by rw[sp,h3,bY]
  have i1:z+a.length≠g.length:=λe=>by rw[e] at B;simp at B
  obtain⟨A,g2⟩:=ry (p:=p) (a:=s++a) (b:=r') u1 λc r e=>by
   rw[h4,<-jv,x,List.drop_left] at e
   cases b with
   |nil=>simp only[Ac] at v;exact Om.Qf C i1 v
   |cons c0 b0=>cases e;exact hb c b0 rfl
  rw[<-y1] at A g2
  have:=hE _ _ _ _ _ _ _ _ (k+1) ((z+a.length:Nat):Int) (A.symm▸g2.symm▸I2) (by have:=of_decide_eq_false h1;exact Om.Qg hn hk v hcl this)
  rw[A] at this
  exact this
 ·have:z+a.length=g.length:=by
   cases q:decide ((((z+a.length:Nat):Int))=g.length) with
   |true=>have:=of_decide_eq_true q;exact Om.Qh v this
   |false=>rw[q] at B;cases B
  exact sL (by exact Om.Qi v this)
end
noncomputable abbrev I7 (e:Expr) (i:Nat):Expr:=eU e i
noncomputable abbrev mR (e:Expr):Expr:=eU e 0
noncomputable abbrev yr (e:Expr):Expr:=eU e 1
noncomputable abbrev cH (e:Expr):Pos:=e.pos
noncomputable abbrev cV (s:Stmt):Expr:=jT s 0
noncomputable abbrev jf (s:Stmt):Pos:=(jT s 1).pos
noncomputable abbrev iE (s:Stmt):Pos:=s.pos
noncomputable abbrev I8 (e:Expr):Expr:=eU (eU e 0) 0
noncomputable abbrev C1 (e:Expr):Pos:=(eU e 0).pos
noncomputable abbrev fi (e:Expr):List Expr:=(eK e).drop 1
noncomputable def yt:Stmt:=aN (lz (dG 1)) 0
noncomputable def mS:Stmt:=aN (lz (dG 1)) 1
noncomputable abbrev t0:Expr:=I7 (nS mS) 0
noncomputable abbrev t1:Expr:=I7 (nS mS) 1
theorem aaD:Tb.gV.body=[.Assign [.Name (af "rv") (jf (dG 0))] (.List [] (cH (cV (dG 0)))) (iE (dG 0)),.While (nS (dG 1)) (lz (dG 1)) [] (iE (dG 1)),.Assign [.Name (af "r") (jf (dG 2))] (cV (dG 2)) (iE (dG 2)),.Return (aa (.Name (af "r") (cH (cV (dG 3))))) (iE (dG 3))]:=by kernel_rfl
theorem aaE:lz (dG 1)=.Assign [.Name (af "end") (jf yt)] (cV yt) (iE yt)::mS::I5:=by kernel_rfl
theorem aaF:mS=.While (.BoolOp .And [t0,t1] (cH (nS mS))) (lz mS) [] (iE mS):=by kernel_rfl
theorem aaG:t1=.Compare (.Compare (mR (mR t1)) [.In] [.Name (af "characters") (cH (yr (mR t1)))] (cH (mR t1))) [.Eq] [.Name (af "opposite") (cH (yr t1))] (cH t1):=by kernel_rfl
theorem aaH:cV (dG 2)=.Call (.Attribute (I8 (cV (dG 2))) (af "join") (C1 (cV (dG 2)))) [.Name (af "rv") (cH ((fi (cV (dG 2))).headD default))] [] (cH (cV (dG 2))):=by kernel_rfl
noncomputable abbrev iU (W:Wd):Gx:=gi (WS W) Tb.gV.scope 4 []
section
variable{W:Wd}{V M:Str}{j L H Y C m:Nat}{B:Option Nat}{ext:List SO}{y:SV}{U:Bool}{O:List Fact}
theorem r0(i:Int)(K:SV->SS->Prop):I4 (iU W) t0 (Le y U m i) (bq V M j L H Y C B++ext) O K=(K (.sb (!decide (i=(V.length:Int)))) ⟨Le y U m i,.b (bq V M j L H Y C B++ext),O⟩/\True):=by kernel_rfl
theorem r1(i:Int)(K:SV->SS->Prop):yq (iU W) (mR (mR t1)) (Le y U m i) (bq V M j L H Y C B++ext) O K=(CU V i/\K (.ss (eS V i)) ⟨Le y U m i,.b (bq V M j L H Y C B++ext),O⟩/\True):=by kernel_rfl
theorem r2(i:Int)(K:Fl->SS->Prop):yl (WS W) Tb.gV.scope 4 [] (lz mS) (Le y U m i) (bq V M j L H Y C B++ext) O K=(K .next ⟨(af "end",.si (i+1))::Le y U m i,.b (bq V M j L H Y C B++ext),O⟩/\True):=by kernel_rfl
theorem r3(K:SV->SS->Prop):yq (iU W) (cV yt) (L0 y U m) (bq V M j L H Y C B++ext) O K=(K (.si j) ⟨L0 y U m,.b (bq V M j L H Y C B++ext),O⟩/\True):=by kernel_rfl
theorem r4(z:List (Str×SV))(os:List SO)(K:SV->SS->Prop):yq (iU W) (I8 (cV (dG 2))) z os O K=(K (.str (af "")) ⟨z,.b os,O⟩/\True):=by kernel_rfl
theorem r5(z:SS)(K:SV->SS->Tr):((ex 60 (iU W)).T (nS (dG 1)) z K).t=K (.bool ai) z:=by kernel_rfl
theorem aaI{G:Gx}{z:SS}{K:SV->SS->Prop}{a b:Bool}(k:K (.sb (a==b)) z):aG G (compareOp .Eq) (.sb a) (.bool b) z K:=.mk λc p s v u at_ r q=>by
 obtain rfl:=r
 obtain rfl:=q
 exact PyProof.Rows.eq_bool (at_.give (V:=VR G.D) (x:=.sb (a==b)) (pr _) rfl k)
theorem aaJ{S:List Nat}(d1:V.length<=20000)(G:j<=V.length)
 (p1:∀(c:Nat) (u1:List (Str×SV)) (K:SV->SS->Prop),K (.sb (aL c S)) ⟨u1,.b (bq V M j L H Y C B++ext),O⟩->aG (iU W) (compareOp .In) (.ss ⟨#[c]⟩) y ⟨u1,.b (bq V M j L H Y C B++ext),O⟩ K)
 {K:Fl->SS->Prop} (k:K .next ⟨Le y U m ((j+((V.cps.toList.drop j).takeWhile (λc=>aL c S==U)).length:Nat):Int),.b (bq V M j L H Y C B++ext),O⟩):
 bc (iU W) mS ⟨Le y U m j,.b (bq V M j L H Y C B++ext),O⟩ K:=by
 have g:bw (iU W):=pB λx hx=>by cases hx
 rw[aaF]
 have o1:=sizeLine_eq
 have D:=St.len_list V
 let p:Nat->Bool:=λc=>aL c S==U
 refine qX (λqq qq qq h=>h) (λn σ=>∃i,j+i<=V.length/\n=V.length-(j+i)/\σ=⟨Le y U m ((j+i:Nat):Int),.b (bq V M j L H Y C B++ext),O⟩/\((V.cps.toList.drop j).take i).all p=ai) ?_ (V.length-j) ⟨0,G,rfl,rfl,rfl⟩
 rintro n σ ⟨i,hi,rfl,rfl,u⟩
 refine Bl (aau g ?_)
 rw[r0]
 have A:(V.cps.toList.drop j).length=V.length-j:=by rw[iu,<-St.len_list]
 refine⟨⟨λh1=>?_,λh1=>?_⟩,trivial⟩
 ·have e1:j+i≠V.length:=λe=>by rw[e] at h1;simp at h1
  have v:j+i<V.cps.toList.length:=by exact Om.Qj D hi e1
  refine Bl ?_
  rw[aaG]
  refine cmp_T (λqq=>rfl) (GU (λqq=>rfl) (CV g ?_))
  rw[r1]
  refine⟨⟨by exact Om.Qk D v,by exact Om.Ql D v,by exact Om.Qm d1 o1 D⟩,fS (x:=y) (by kernel_rfl) (by kernel_rfl) (by kernel_rfl) ?_,trivial⟩
  rw[St.um V (j+i) (ig v)]
  refine p1 _ _ _ (fS (x:=.bool U) (by kernel_rfl) (by kernel_rfl) (by kernel_rfl) (aaI (mq (λr=>⟨_,r,rfl⟩) ⟨λh2=>GZ (aC.ent (Cw (W:=W) (K:=λfl y1=>fl=.next/\y1=⟨(af "end",.si (((j+i:Nat):Int)+1))::Le y U m ((j+i:Nat):Int),.b (bq V M j L H Y C B++ext),O⟩) (λx hx=>Om.nm hx) ?_) ?_),λh2=>?_⟩)))
  ·exact r2 _ _▸⟨⟨rfl,rfl⟩,trivial⟩
  ·rintro fl y1 ⟨rfl,rfl⟩
   refine⟨⟨Le y U m ((j+(i+1):Nat):Int),.b (bq V M j L H Y C B++ext),O⟩,.of (λx z hx=>?_) rfl rfl,V.length-(j+(i+1)),by exact Om.Qn D v,i+1,by exact Om.Qo D v,rfl,rfl,?_⟩
   ·show lk x ((af "end",_)::Le y U m _)=aa z
    have q:lk x ((af "end",SV.si ((j+(i+1):Nat):Int))::L0 y U m)=aa z:=hx
    rw[bW] at q⊢
    by_cases hc:x=af "end"
    ·rw[if_pos hc] at q⊢;exact q
    ·rw[if_neg hc] at q⊢;rw[bW,if_neg hc];exact q
   ·have a1:i<(V.cps.toList.drop j).length:=by exact Om.FZ G D A e1 v
    rw[LB a1,E9,u,MG]
    simp only[List.getElem_drop,jQ,List.all_nil,Bool.and_true]
    exact h2
  ·have hd:(V.cps.toList.drop j).drop i=V.cps.toList[j+i]::V.cps.toList.drop (j+i+1):=by rw[jv,kK v]
   have i1:V.cps.toList.drop j=(V.cps.toList.drop j).take i++V.cps.toList[j+i]::V.cps.toList.drop (j+i+1):=by rw[<-hd,iM]
   have f1:p V.cps.toList[j+i]=false:=h2
   have:((V.cps.toList.drop j).takeWhile p).length=i:=by
    rw[i1,(ry u λc r e=>by cases e;exact f1).1,nq];exact Om.Qp G D A e1 v
   rw[this] at k
   exact k
 ·have he:j+i=V.length:=by
   cases e:decide ((((j+i:Nat):Int))=(V.length:Int)) with
   |true=>have:=of_decide_eq_true e;exact Om.Qq D this
   |false=>rw[e] at h1;cases h1
  have:((V.cps.toList.drop j).takeWhile p).length=i:=by
   rw[iL (by exact Om.Qs D A he)] at u
   rw[aaw u,A];exact Om.Qt D he
  rw[this] at k
  exact k
end
theorem aO.cons{D:Wd}{cs:b3}{n:Nat}{cons z:List (Addr×Nat×bg)}{b:List Stmt}{x:SS}{K:Fl->SS->Prop}(h:aO (gi D cs n cons) b x K):aO (gi D cs n z) b x K:=λc v s w a r=>h c v s w ⟨a.toRepS,a.cs,a.ok,a.tk,a.rx,a.cv,a.hf⟩ r
structure yu (W:Wd) (S:List Nat) (U:Bool) (y:SV) (m:Nat) (x0:List SO) (O:List Fact):Prop where
 len:m=5+x0.length
 hin:∀(os os2:List SO) (c:Nat) (loc:List (Str×SV)) (K:SV->SS->Prop),os.length=5->K (.sb (aL c S)) ⟨loc,.b (os++(x0++os2)),O⟩->aG (iU W) (compareOp .In) (.ss ⟨#[c]⟩) y ⟨loc,.b (os++(x0++os2)),O⟩ K
 hv:∀(K:Fl->SS->Prop) (e:Nat) (V M:Str) (j L H Y C:Nat) (B:Option Nat) (s:List Nat) (k:Nat),CX (WS W) K e V M j L H Y C B s k y U m x0 O=uW K e V M j L H Y C B s k y U m x0 O
theorem fM{e:Expr}(h:(mr e).isSome=ai):dK e:=((mr e).get h).1
theorem yv:∀x:List Str,(kP ⟨#[]⟩ x).cps.toList=x.flatMap λy=>y.cps.toList
 |[]=>rfl
 |[y]=>by
  show(wk ⟨#[]⟩ [y]).cps.toList=_
  rw[v9]
  simp[s6]
 |y::z::r=>by
  have v:=yv (z::r)
  have e:(kP ⟨#[]⟩ (y::z::r))=wk ⟨#[]⟩ (y::z::r):=rfl
  have u:(kP ⟨#[]⟩ (z::r))=wk ⟨#[]⟩ (z::r):=rfl
  rw[e,v9,BX _ _ _ (by simp),<-v9,<-u,v]
  simp
theorem C2{G:Gx}{O:SS}{K:SV->SS->Prop}{i k:Nat}{s:List Nat}{x:SV}(B:bT x ⟨#[]⟩)(A:O.objs.list[i]? =aa (.list (aa (.txt s k)) []))(C:s.length<=100000)(L:k<=100000)(h:K (.ss ⟨s.toArray⟩) O):bB G (.builtin "str.join") [x,.obj i] O K:=.two<|.mk λc ρ st v u at_ r q=>by
 obtain⟨_,rfl⟩:=B r
 obtain⟨b,U,vs,rfl,⟨Y,z,M,hl⟩,f,l⟩:=at_.list A q
 cases f
 rw[cO] at l
 have g:(Y.map (·.length)).sum=s.length:=by
  rw[<-M]
  clear M z hl
  induction Y with
  |nil=>rfl
  |cons y Y D=>rw[gq,List.sum_cons,D,E5,bK,St.len_list]
 refine join_le (vs:=U) l z (by rw[g];show _+Y.length*0<=_;exact Om.Qu C g) λH k' L=>(at_.tok L).give (V:=VR G.D) (x:=.ss ⟨s.toArray⟩) (pr _) ⟨H,?_⟩ h
 congr 1
 exact gj ((yv Y).trans (by rw[M]))
section
variable{W:Wd}{S:List Nat}{p:Bool}{y:SV}{m:Nat}{j:List SO}{V:List Fact}
noncomputable abbrev pS (S:List Nat) (p:Bool) (c:Nat):Bool:=aL c S==p
theorem aaK(Y:yu W S p y m j V){d:Option (List Nat)}{r0:List Nat}{un:Option (List Nat)}{q U:Str}{u O M v D:Nat}{L:Option Nat}(I:dM d r0 un q U u O M v D L){K:Fl->SS->Prop}
 (hK:∀q U u O M v D L l o,dM (d.map (· ++r0.takeWhile (pS S p))) (r0.dropWhile (pS S p)) ah q U u O M v D L->K (.ret (.ss ⟨(r0.takeWhile (pS S p)).toArray⟩)) ⟨l,.b (bq q U u O M v D L++(j++[o])),V⟩):
 aO (iU W) Tb.gV.body ⟨[(af "self",.obj 0),(af "characters",y),(af "opposite",.bool p)],.b (bq q U u O M v D L++j),V⟩ K:=by
 have g:bw (iU W):=pB λx hx=>by cases hx
 have G:=Y.len
 have u1:∀{q U:Str} {u O M v D:Nat} {L:Option Nat},(bq q U u O M v D L).length=5:=rfl
 have B:=I.len
 rw[aaD]
 refine cZ (jD (fM (by kernel_rfl)) (by kernel_rfl) (Bu (kZ ⟨rfl,?_⟩)))
 have y1:(bq q U u O M v D L++j).length=m:=by rw[bK,u1];exact Om.Qv G
 show aO _ _ ⟨(af "rv",.obj (bq q U u O M v D L++j).length)::_,OL.a (.b (bq q U u O M v D L++j)) (.list ah []),V⟩ _
 rw[y1]
 refine aC.pre (σ':=⟨L0 y p m,.b (uO q U u O M v D L [] 0 j []),V⟩) ?_ (cZ ?_)
 ·have e1:ay (WS W) ⟨L0 y p m,OL.a (.b (bq q U u O M v D L++j)) (.list ah []),V⟩ ⟨L0 y p m,.b ((bq q U u O M v D L++j)++[.list ah []]),V⟩:=.of (λH H e=>e) (iy _ _).symm rfl
  rw[CZ]
  exact e1.trans (ay.last λX ρ a l r=>OR.aay r)
 ·let Kf:Fl->SS->Prop:=λfl σ=>match fl with
   |.next=>aO (iU W) [.Assign [.Name (af "r") (jf (dG 2))] (cV (dG 2)) (iE (dG 2)),.Return (aa (.Name (af "r") (cH (cV (dG 3))))) (iE (dG 3))] σ K
   |fl=>K fl σ
  have hE:I6 (pS S p) d r0 y p m j V Kf:=λq U u O M v D L k e I2 hk=>by
   show aO _ _ _ _
   refine cZ (jD (fM (by kernel_rfl)) (by kernel_rfl) ?_)
   rw[aaH]
   apply t6
   ·exactλH H H=>rfl
   ·kernel_rfl
   ·exactλt ht=>by rw[d8] at ht;subst ht;exactλH H=>rfl
   ·rfl
   apply CV g
   rw[r4]
   refine⟨oX .join (a:=⟨#[]⟩) (λ{_ _ _} r=>r) (λt ht=>by rw[d8] at ht;subst ht;exactλH H=>rfl) (lg (λH H=>rfl) (fS (x:=.obj m) (by kernel_rfl) (by kernel_rfl) (by kernel_rfl) (kZ (C2 (s:=r0.takeWhile (pS S p)) (k:=k) (λ{_ _ _} r=>r) ?_ ?_ (by exact Om.Qw hk) (cZ (Bo (fS (x:=.ss ⟨(r0.takeWhile (pS S p)).toArray⟩) (by kernel_rfl) (by kernel_rfl) rfl (hK _ _ _ _ _ _ _ _ _ _ I2)))))))),trivial⟩
   ·show(bq q U u O M v D L++(j++[_]))[m]? =_
    rw[dY (by rw[u1];exact Om.Qx G y1),u1,dY (by exact Om.Qy G y1),show m-5-j.length=0 by exact Om.Qz G];rfl
   ·have:=(qj (l:=r0) (pS S p)).length_le;exact Om.QA B this
  refine aC.mp (qX (K:=Kf) (λH H H h=>h) (CY (pS S p) d r0 y p m j V) ?_ (2*r0.length+(if u<q.length then 0 else 1)) ?_) λfl σ z=>?_
  ·rintro n σ ⟨q,U,u,O,M,v,D,L,s,k,p1,I,sp,all,w,hw,hn,hk,rfl⟩
   refine((ex 60 (iU W)).T (nS (dG 1)) _ (λx i1=>.pr (Br x i1 (λA=>aO (iU W) (lz (dG 1)) A (jd Kf λC=>∃n',n'<n/\CY (pS S p) d r0 y p m j V n' C)) (Kf .next)) .tt)).ok ?_ g|>.mp λH H z=>z.1
   rw[r5]
   refine⟨?_,trivial⟩
   show aO _ _ _ _
   rw[aaE]
   refine cZ (jD (fM (by kernel_rfl)) (by kernel_rfl) ?_)
   apply CV g
   rw[r3]
   refine⟨cZ (aaJ I.hch I.hoff (λc o1 K hk=>Y.hin _ _ c o1 K rfl hk) ?_),trivial⟩
   refine aC.ent (K:=C0 (WS W) (pS S p) d r0 y p m j V Kf n) (aO.cons (Cw (W:=W) (cons:=[(141,3,uF q U u O M v D L)]) (uD (I0 W q U u O M v D L)) ?_)) λx i1 z=>@z
   exact(Y.hv _ _ _ _ _ _ _ _ _ _ _ _).mpr (aaC @hE I sp all hw hn hk)
  ·refine⟨q,U,u,O,M,v,D,L,[],0,r0,⟨I.hoff,I.hr,λg hg=>?_,I.hp,I.hz,I.hch,I.hen,I.jc,λl e=>Om.ns e,I.hno⟩,rfl,rfl,_,?_,rfl,?_,rfl⟩
   ·cases d with
    |none=>cases hg
    |some d0=>exact I.hd g (by rw[<-hg];exact congrArg aa (cO d0).symm)
   ·by_cases h:u<q.length
    ·rw[if_pos h];exact .inr ⟨rfl,h⟩
    ·rw[if_neg h];exact .inl rfl
   ·split<;>(first|exact Om.QB B|exact Om.QC B)
  ·cases fl<;>exact@z
end
noncomputable def gA (b:Bool) (S:List Nat) (t:Tm):Tm:=@az (λz=>Tm) (SH S t) (SG S t) b
noncomputable def rz (b:Bool) (S:List Nat) (t:Tm):Tm:=@az (λz=>Tm) (SI S t) (Gg S t) b
theorem C3(S:List Nat)(b:Bool):pS S b=λc=>@az (λz=>Bool) (!aL c S) (aL c S) b:=by
 funext c
 unfold pS
 cases b<;>cases aL c S<;>rfl
theorem uI(k:Ev)(b:Bool)(S:List Nat)(t:Tm):(gA b S t).ev k=(t.ev k).takeWhile (pS S b):=by rw[C3];cases b<;>rfl
theorem C4(k:Ev)(b:Bool)(S:List Nat)(t:Tm):(rz b S t).ev k=(t.ev k).dropWhile (pS S b):=by rw[C3];cases b<;>rfl
structure uJ (f:eE) (xs:List SV) (S:List Nat):Prop where
 of:∀{W:Wd} {ρ:List Addr} {vs:List Value},aM W ρ xs vs->f.Of vs
 s:∀c,has ⟨#[c]⟩ f.s=aL c S
inductive I9 (y:SV) (σ:SS) (S:List Nat) (o:OL):Prop
 |t (t:Addr) (xs:List SV) (f:eE) (e:y=.val (.ref t)) (h:aU t Tb.T.tups=aa xs) (hf:uJ f xs S) (ho:o=σ.objs)
 |o (t:Nat) (zs:List SV) (f:eE) (e:y=.obj t) (h:σ.objs.list[t]? =aa (.tup zs)) (hz:zs.all fE=ai) (hf:uJ f zs S) (ho:o=OL.s σ.objs t .gone)
noncomputable def Ja (v:List SV):Option {z:eE×List Nat//uJ z.1 v z.2}:=au (xq v) λf=>(ones f.1.s).map λS=>⟨(f.1,S.1),f.2,λc=>S.2 ⟨λx=>[],λx=>0,λx x=>[],λx x=>0,λx x=>aj,λx=>[]⟩ [c]⟩
noncomputable def aaL (t:Addr):Option {v:List SV//aU t Tb.T.tups=aa v}:=@aY _ (λo=>o=aU t Tb.T.tups->Option {v:List SV//aU t Tb.T.tups=aa v}) (λz=>ah) (λv h=>aa ⟨v,h.symm⟩) (aU t Tb.T.tups) rfl
noncomputable def Jb (y:SV) (x:SS):Option {z:List Nat×OL//I9 y x z.1 z.2}:=gQ (au (A8 y) λt=>au (aaL t.1) λv=>(Ja v.1).map λq=>⟨(q.1.2,x.objs),.t t.1 v.1 q.1.1 t.2 v.2 q.2 rfl⟩)
 (au (iB y) λt=>au (fT x.objs t.1) λo=>au (tN o.1) λu=>au (aV (u.1.all fE)) λp=>(Ja u.1).map λq=>⟨(q.1.2,OL.s x.objs t.1 .gone),.o t.1 u.1 q.1.1 t.2 (u.2▸o.2) p.1 q.2 rfl⟩)
noncomputable def pD (b:Bool) (S:List Nat) (st:bQ):bQ:=⟨st.d.map λd=>(nQ d (gA b S st.r)).1,rz b S st.r,ah⟩
noncomputable def yw (x y:SV) (b:Bool) (v:SS) (K:SV->SS->Tr):Tr:=@aY _ (λu=>Tr) .ff (λz=>@aY _ (λu=>Tr) .ff (λq=>K (.tm (gA b q.1.1 z.1.2.r)) ⟨v.loc,OL.s q.1.2 z.1.1 (.blob (.strm (pD b q.1.1 z.1.2))),v.fa⟩) (Jb y v)) (nR x v)
noncomputable def uL:bg:=λv z K=>match v with
 |[x,y]=>yw x y aj z K
 |[x,y,w]=>match w with
  |.bool b=>yw x y b z K
  |_=>.ff
 |_=>.ff
section
variable{W:Wd}{S:List Nat}{opp:Bool}{y:SV}{fa:List Fact}
theorem Jc{x:SS}{a:Str}{f:eE}:tP x (.ss a) f (.sb (has a f.s)):=λz r h=>by obtain⟨_,rfl⟩:=r;exact⟨.inr (.inr ⟨_,_,rfl⟩),h.s _ _⟩
theorem aaM{t:Addr}{v:List SV}{f:eE}(G:aU t Tb.T.tups=aa v)(B:uJ f v S):yu W S opp (.val (.ref t)) 5 [] fa where
 len:=rfl
 hin:=λos V c x K p k=>GD G B.of Jc (by rw[B.s];exact k)
 hv:=λK e m u z q j g D Y s k=>vW5 _ _ _ _ _ _ _ _ _ _ _ _ _ _ _ _
theorem aaN{z:List SV}{f:eE}(B:uJ f z S):yu W S opp (.obj 5) 6 [.tup z] fa where
 len:=rfl
 hin:=λos V c u K x k=>GF (xs:=z) (by show(os++_)[5]? =_;rw[dY (by exact Om.QD x),x];rfl) B.of Jc (by rw[B.s];exact k)
 hv:=λK e m q v p j g D Y s k=>vW6 _ _ _ _ _ _ _ _ _ _ _ _ _ _ _ _ _
theorem Jd{m:Nat}{z:List SO}(Y:yu W S opp y m z fa){xs:List SV}(G:j7 Tb.gV xs=[(af "self",.obj 0),(af "characters",y),(af "opposite",.bool opp)])(x:aD Tb.gV.ps.length (xs.length+Tb.gV.ds.length)=ai)(u:aD xs.length Tb.gV.ps.length=ai)
 {O:Nat} {cs:b3} {KX:Value->List Addr->SS->Prop} {con:List (Addr×Nat×bg)} {sc:List (Nat×Stmt×jW)} {ec:List (Nat×Expr×jX)} {cv:List (Str×Nat)} {fr:Bool} {G':Gx} (A:G'.D=WS W) (C:5<=O) {loc:List (Str×SV)} {i:Nat} {σ:SS} {K:SV->SS->Prop} {st:bQ} {U k:Str} {q V j g D:Nat} {p:Option Nat}
 (I:dM (st.d.map (·.ev W.η)) (st.r.ev W.η) (st.un.map (·.ev W.η)) U k q V j g D p) (B:K (.tm (gA opp S st.r)) ⟨σ.loc,OL.s σ.objs i (.blob (.strm (pD opp S st))),fa⟩):
 av (⟨WS W,Tb.T,O,cs,KX,con,sc,ec,cv,fr⟩:Gx) (.ref 156) xs ⟨loc,.b (bq U k q V j g D p++z),fa⟩ (tW (mP W.η) G' σ i K loc):=by
 refine av.sw (n:=5) (cons:=[]) C (j8 (i:=Tb.gV) (n:=4) rfl rfl x u ?_)
 rw[G]
 refine aaK Y I λU k q V j g D p l o M=>?_
 rw[<-uI,<-C4] at M
 refine .mk (.strm (pD opp S st)) 5 (.tm (gA opp S st.r)) rfl ⟨U,k,q,V,j,g,D,p,rfl,?_⟩ (by cases p<;>rfl) (by decide) (λH h L v r=>?_) λH=>B
 ·have e:(pD opp S st).d.map (·.ev W.η)=(st.d.map (·.ev W.η)).map (· ++(gA opp S st.r).ev W.η):=by
   show Option.map _ (Option.map _ st.d)=_
   cases st.d with
   |none=>rfl
   |some d=>exact congrArg aa ((nQ d _).2 W.η)
  rw[e];exact M
 ·obtain⟨t,rfl⟩:=r
  rw[A]
  exact⟨t,by rw[<-uI];rfl⟩
theorem Je{G:Gx}(hD:G.D=WS W)(hT:G.T=Tb.T)(hn:5<=G.n){x y:SV}{b:Bool}{v:SS}{K:SV->SS->Tr}(h:(yw x y b v K).h){ys:List SV}(V:ys.all fE=ai)
 (hb:∀x y,j7 Tb.gV (x::y::ys)=[(af "self",x),(af "characters",y),(af "opposite",.bool b)]) (h1:aD Tb.gV.ps.length (ys.length+2+Tb.gV.ds.length)=ai) (h2:aD (ys.length+2) Tb.gV.ps.length=ai):av G (.ref 156) (x::y::ys) v (hh K):=by
 obtain⟨D,T,m,cs,KX,con,sc,ec,cv,fr⟩:=G
 obtain rfl:D=WS W:=hD
 obtain rfl:T=Tb.T:=hT
 unfold yw at h
 cases q:nR x v with
 |none=>rw[q] at h;exact h.elim
 |some z=>
  rw[q] at h
  cases q2:Jb y v with
  |none=>rw[q2] at h;exact h.elim
  |some w=>
   rw[q2] at h
   obtain⟨⟨i,st⟩,e,ho⟩:=z
   have e':x=.obj i:=e
   subst e'
   obtain⟨⟨S,o⟩,hs⟩:=w
   have A:I9 y v S o:=hs
   have hk:hh K (.tm (gA b S st.r)) ⟨v.loc,OL.s o i (.blob (.strm (pD b S st))),v.fa⟩:=h
   clear hs h q q2
   rcases A with⟨t,xs,f,e2,B,hf,Y⟩|⟨t,zs,f,e2,B,hz,hf,Y⟩
   ·subst e2 Y
    refine Hl (MM:=mP W.η) (yh W) ho (by rw[jQ,V];rfl) λp C ⟨L,U,u,O,j,g,M,H,e,I⟩=>?_
    subst e
    have:=Jd (W:=W) (aaM (W:=W) (opp:=b) (fa:=v.fa) B hf) (xs:=.obj 0::.val (.ref t)::ys) (hb _ _) h1 h2 (G':=⟨WS W,Tb.T,m,cs,KX,con,sc,ec,cv,fr⟩) rfl hn (cs:=cs) (KX:=λk k k=>False) (con:=con) (sc:=[]) (ec:=[]) (cv:=[]) (fr:=aj) (loc:=p) (i:=i) (σ:=v) (K:=hh K) I hk
    rw[cO] at this
    exact this
   ·subst e2 Y
    refine Va (MM:=mP W.η) (yh W) ho B hz V λp C ⟨L,U,u,O,j,g,M,H,e,I⟩=>?_
    subst e
    have:=Jd (W:=W) (aaN (W:=W) (opp:=b) (fa:=v.fa) hf) (xs:=.obj 0::.obj 5::ys) (hb _ _) h1 h2 (G':=⟨WS W,Tb.T,m,cs,KX,con,sc,ec,cv,fr⟩) rfl hn (cs:=cs) (KX:=λk k k=>False) (con:=con) (sc:=[]) (ec:=[]) (cv:=[]) (fr:=aj) (loc:=p) (i:=i) (σ:=⟨v.loc,OL.s v.objs t .gone,v.fa⟩) (K:=hh K) I hk
    have e5:(bq L U u O j g M H).length=5:=rfl
    rw[e5]
    exact av.pre (σ':=⟨p,.b (bq L U u O j g M H++[SO.tup zs]),v.fa⟩) (.of (λk k e=>e) (iy (bq L U u O j g M H) (.tup zs)).symm rfl) this
theorem Jf(W:Wd):dm (WS W) (156,5,uL):=λG v u Y p q K h=>by
 have z:(uL p q K).h:=h
 unfold uL at z
 split at z
 ·exact Je v u Y z (ys:=[]) rfl (λx y=>by kernel_rfl) (by kernel_rfl) (by kernel_rfl)
 ·split at z
  ·exact Je v u Y z (ys:=[.bool _]) rfl (λx y=>by kernel_rfl) (by kernel_rfl) (by kernel_rfl)
  ·exact z.elim
 ·exact z.elim
end
structure C5 (η:Ev):Prop where
 bG:∀l,η.f 10 l=bG l
 v:∀i,∀c∈η.v i,c<55296\/57343<c
 c:∀i,η.c i<55296\/57343<η.c i
noncomputable def yx (c:Nat):Bool:=@az (λz=>Bool) (dW 57343 c) ai (dW c 55296)
theorem Jg{c:Nat}(h:yx c=ai):c<55296\/57343<c:=by
 have y:@az (λz=>Bool) (dW 57343 c) ai (dW c 55296)=true:=h
 cases e:dW c 55296 with
 |true=>exact .inl (aB e)
 |false=>rw[e] at y;exact .inr (aB y)
noncomputable def pF:Tm->Bool:=Tm.rec ai λk l z z a b=>match k with
 |0=>l.all yx
 |1=>ai
 |2=>ai
 |5=>@az (λz=>Bool) aj b a
 |3=>a
 |4=>a
 |6=>a
 |7=>a
 |8=>a
 |9=>a
 |_=>aj
theorem aaO{v:Ev}(h:C5 v):∀{t:Tm},pF t=ai->∀c∈t.ev v,c<55296\/57343<c:=@λt=>by
 induction t with
 |e=>intro _ c g;cases g
 |n k l a b x y=>
  intro z c g
  match k with
  |0=>exact Jg (bZ.mp z c g)
  |1=>exact h.v _ c g
  |2=>obtain rfl:=d8.mp g;exact h.c _
  |3=>exact x z c (List.mem_of_mem_take g)
  |4=>exact x z c (LQ g)
  |5=>
   obtain⟨q,u⟩:=iR (a:=pF a) (b:=pF b) z
   exact(jP.mp g).elim (x q c) (y u c)
  |6=>exact x z c ((qj _).subset g)
  |7=>exact x z c ((qj _).subset g)
  |8=>exact x z c ((EP _).subset g)
  |9=>exact x z c ((EP _).subset g)
  |_+10=>cases z
noncomputable def aaP (x:Tm) (f:Fact):Option {r:Tm//∀q,f.ok q->q.f 10 (x.ev q)=r.ev q}:=match f with
 |⟨k,l,a,b,v⟩=>match a with
  |.n g m y z=>au (aV (aQ k 2)) λY=>au (aV v) λu=>au (aV (aQ g 10)) λO=>(aV (dj x y)).map λj=>⟨b,λq h=>by
    have p:cF q k l (qy q g m (y.ev q) (z.ev q)) (b.ev q)=v:=h
    rw[bJ Y.1,bJ O.1,u.1] at p
    rw[fh j.1]
    exact of_decide_eq_true p⟩
  |.e=>ah
noncomputable def Jh (x:Tm):(z:List Fact)->Option {r:Tm//∀k,aT k z->k.f 10 (x.ev k)=r.ev k}:=@bE Fact (λz=>Option {r:Tm//∀k,aT k z->k.f 10 (x.ev k)=r.ev k}) ah λf z p=>gQ ((aaP x f).map λr=>⟨r.1,λk h=>r.2 k (h f (.head _))⟩) (p.map λr=>⟨r.1,λk h=>r.2 k λg y=>h g (.tail _ y)⟩)
noncomputable def uM:bg:=λv y K=>match v with
 |[x]=>@aY _ (λz=>Tr) .ff (λa=>@az (λz=>Tr) .ff (@az (λz=>Tr) .ff (@aY _ (λz=>Tr) .ff (λr=>K (.obj y.objs.length) ⟨y.loc,OL.a y.objs (.blob (.strm ⟨aa (lit []),r.1,ah⟩)),y.fa⟩) (Jh a.1 y.fa)) (pF a.1)) (aD a.1.bd 10000)) (BV x)
 |_=>.ff
noncomputable abbrev Ji (z:Str):List SO:=[.inst 166 [(af "reportCharacterErrors",.obj 1),(af "newLines",.obj 2),(af "dataStream",.obj 3),(af "chunk",.str (af "")),(af "chunkSize",.int 0),(af "chunkOffset",.int 0),(af "errors",.obj 4),(af "prevNumLines",.int 0),(af "prevNumCols",.int 0),(af "_bufferedCharacter",.none)],.aI 148 (.obj 0),.list ah [.int 0],.inst 73 [(af "text",.ss z),(af "place",.int 0)],.list ah []]
noncomputable def Jj (D:Wd) (cs:b3) (n:Nat) (cons:List (Addr×Nat×bg)) (f:Addr) (v:List SV) (y:List (Str×SV)) (os:List SO) (u:List Fact) (K:SV->SS->Prop):Prop:=(mJ (ex 60) (gx D cs n cons) f v ⟨y,.b os,u⟩ λx z=>.pr (K x (dX z)) .tt).t.h
theorem aaQ{W:Wd}{m n:Nat}{cs:b3}{k:Value->List Addr->SS->Prop}{con:List (Addr×Nat×bg)}{U:List (Nat×Stmt×jW)}{p:List (Nat×Expr×jX)}{H:List (Str×Nat)}{fr:Bool}{cons:List (Addr×Nat×bg)}{f:Addr}{v:List SV}{y:List (Str×SV)}{os:List SO}{q:List Fact}{K:SV->SS->Prop}
 (Y:n<=m) (g:∀x∈cons,dm (WS W) x) (h:Jj (WS W) cs n cons f v y os q K):av (⟨WS W,Tb.T,m,cs,k,con,U,p,H,fr⟩:Gx) (.ref f) v ⟨y,.b os,q⟩ K:=
 av.nf (av.sw (G:=⟨WS W,Tb.T,m,cs,k,con,U,p,H,fr⟩) Y (((mJ (ex 60) (gx (WS W) cs n cons) f v ⟨y,.b os,q⟩ λx u=>.pr (K x (dX u)) .tt).ok h (Cp g)).mp λj j z=>z.1))
theorem vN(D:Wd)(cs:b3)(K:SV->SS->Prop)(y:Str)(z:List (Str×SV))(x:List Fact):Jj D cs 5 [] 166 [.ss y] z [] x K=(K (.obj 0) ⟨z,.b (Ji y),x⟩/\True):=by kernel_rfl
theorem aaR(z:Str):(Ji z).map yo=[.inst 166 [(af "reportCharacterErrors",.obj 1),(af "newLines",.obj 2),(af "dataStream",.obj 3),(af "chunk",.ss ⟨#[]⟩),(af "chunkSize",.si ((⟨#[]⟩:Str).length:Nat)),(af "chunkOffset",.si ((0:Nat):Int)),(af "errors",.obj 4),(af "prevNumLines",.si ((0:Nat):Int)),(af "prevNumCols",.si ((0:Nat):Int)),(af "_bufferedCharacter",.none)],.aI 148 (.obj 0),.list ah [.si 0],.inst 73 [(af "text",.ss z),(af "place",.si ((0:Nat):Int))]]++[.list ah []]:=by kernel_rfl
theorem OR.aaS{D:Wd}{X:List (Addr×Obj)}{z:List Addr}{a:Addr}{l:List (Addr×Obj)}(r:OR D X z a (.list ah []) l):OR D X z a (.list (aa (.gv 0)) []) l:=by
 obtain⟨U,y,n,e,q,f⟩:=r
 obtain rfl:U=[]:=q
 exact⟨[],y,n,e,aH _,f⟩
set_option tactic.hygienic true in
theorem aaT(W:Wd)(j:C5 W.η):dm (WS W) (166,5,uM):=λG A B Y v y K h=>by
 obtain⟨D,T,m,cs,KX,con,sc,ec,cv,fr⟩:=G
 obtain rfl:D=WS W:=A
 obtain rfl:T=Tb.T:=B
 have z:(uM v y K).h:=h
 unfold uM at z
 split at z
 ·rename_i x
  cases q:BV x with
  |none=>rw[q] at z;exact z.elim
  |some a=>
   rw[q] at z
   dsimp only at z
   cases q1:aD a.1.bd 10000 with
   |false=>rw[q1] at z;exact z.elim
   |true=>
    rw[q1] at z
    cases q2:pF a.1 with
    |false=>rw[q2] at z;exact z.elim
    |true=>
     rw[q2] at z
     cases k:Jh a.1 y.fa with
     |none=>rw[k] at z;exact z.elim
     |some r=>
      rw[k] at z
      have H:hh K (.obj y.objs.length) ⟨y.loc,OL.a y.objs (.blob (.strm ⟨aa (lit []),r.1,ah⟩)),y.fa⟩:=z
      refine av.facts λok=>⟨y.fa,ok,?_⟩
      let u:Str:=ak (a.1.ev W.η)
      have V:u.length=(a.1.ev W.η).length:=cP
      have M:u.length<=10000:=by rw[V];exact aq (Tm.oH W.kR a.1) (aB q1)
      refine av.conv (xs':=[.ss u]) (λU vs r=>?_) (Vb (MM:=mP W.η) (yh W) rfl λp=>av.ent (aaQ (n:=5) (cons:=[]) Y (λx L=>Om.nm L) ?_))
      ·cases r using Each.ec with
       |cons r O=>
        obtain⟨t,rfl⟩:=a.2 r
        exact .cons ⟨t,rfl⟩ O
      ·rw[vN]
       refine⟨⟨⟨p,.b (bq ⟨#[]⟩ u 0 0 0 0 0 ah),y.fa⟩,(ay.er (aaR u)).trans (ay.last λX U a l r=>OR.aaS r),rfl,rfl,.strm ⟨aa (lit []),r.1,ah⟩,⟨⟨#[]⟩,u,0,0,0,0,0,ah,rfl,⟨aH _,?_,λg C=>?_,.inl rfl,M,by decide,by show 0+(u.length-0)+0<=10000;exact Om.QE V M,.inl rfl,λl e=>Om.ns e,aaO j q2⟩⟩,rfl,λqq=>H⟩,trivial⟩
       ·show r.1.ev W.η=bG (a.1.ev W.η)
        rw[<-r.2 W.η ok,j.bG]
       ·cases C;exact⟨[],rfl,rfl⟩
 ·exact z.elim
noncomputable def fF (c:Nat):Nat:=if 65<=c/\c<=90 then c+32 else c
noncomputable abbrev uN (e:Expr):Expr:=eU e 0
noncomputable abbrev C6 (e:Expr):Pos:=(eU e 1).pos
noncomputable abbrev lcI (e:Expr):Pos:=(eU e 2).pos
noncomputable abbrev lcQ (e:Expr):Pos:=e.pos
noncomputable def lC:Expr->b3->b3
 |.ListComp _ _ s _,_=>s
 |_,s=>s
noncomputable abbrev clF (e:Expr):Pos:=(eU (eU e 0) 0).pos
noncomputable def gX (e:Expr):Expr:=(fi e).headD default
noncomputable abbrev Jk (e:Expr) (n:Str) (U:b3):Expr:=.Call (.Attribute (.Constant (.str (af "")) 0 (clF e)) (af "join") (C1 e)) [.ListComp (uN (gX e)) [⟨.Name (af "c") (C6 (gX e)),.Name n (lcI (gX e)),[],0⟩] (lC (gX e) U) (lcQ (gX e))] [] (cH e)
noncomputable def yy (x:Nat) (K:SV->Prop):Prop:=fk (!decide ([x]<([65]:List Nat))) (fk (!decide (([90]:List Nat)<[x])) (1=1/\(0<=((x:Nat):Int)+32/\((x:Nat):Int)+32<=1114111)/\K (.ss ⟨#[(((x:Nat):Int)+32).toNat]⟩)/\True) (K (.ss ⟨#[x]⟩)/\True)) (K (.ss ⟨#[x]⟩)/\True)
theorem Jo(a b:Nat):([a]<([b]:List Nat))↔a<b:=by simp[List.cons_lt_cons_iff]
theorem Jp(a b:Nat):decide ([a]<([b]:List Nat))=decide (a<b):=by
 by_cases h:a<b
 ·rw[decide_eq_true h,decide_eq_true ((Jo a b).mpr h)]
 ·rw[decide_eq_false h,decide_eq_false (λz=>h ((Jo a b).mp z))]
theorem aaX{x:Nat}{K:SV->Prop}(k:K (.ss ⟨#[fF x]⟩)):yy x K:=by
 unfold yy
 rw[Jp,Jp]
 unfold fF at k
 by_cases h:65<=x/\x<=90
 ·rw[if_pos h] at k
  rw[decide_eq_false (by exact Om.QF h:¬x<65),decide_eq_false (by exact Om.QG h:¬90<x)]
  have e:(((x:Nat):Int)+32).toNat=x+32:=by exact Om.QH h
  rw[e]
  exact⟨λz=>⟨λz=>⟨rfl,⟨by exact Om.QI h e,by exact Om.QJ h e⟩,k,trivial⟩,λe=>by cases e⟩,λe=>by cases e⟩
 ·rw[if_neg h] at k
  refine⟨λv=>⟨λu=>?_,λz=>⟨k,trivial⟩⟩,λz=>⟨k,trivial⟩⟩
  by_cases y:x<65
  ·rw[decide_eq_true y] at v;cases v
  ·rw[decide_eq_true (by exact Om.QK h y:90<x)] at u;cases u
theorem ay.gone{D:Wd}{z:List (Str×SV)}{os:OL}{o:SO}{x:List Fact}:ay D ⟨z,OL.a os o,x⟩ ⟨z,OL.a os .gone,x⟩:=λc u s R=>by
 obtain⟨⟨m,⟨Y,ad,C,l2,g,y,F,N⟩,M⟩,j,x⟩:=R
 have v:LR D c.R u (os.list++[o]) Y:=iy os.list o▸C
 obtain⟨A,B,rfl,O,V⟩:=Each.split v
 cases V using Each.ec with
 |@cons q _ r t=>
  cases t
  obtain⟨q1,q2⟩:=q
  have k:(flat (A++[(q1,[])])++c.X).Sublist (flat (A++[(q1,q2)])++c.X):=by
   have e:∀l:List (Addr×Obj),flat (A++[(q1,l)])=flat A++l:=λl=>by simp[flat]
   rw[e,e,cO]
   exact(ahw _ _).append (fY _)
  exact⟨⟨m,⟨A++[(q1,[])],by rw[<-ad];simp,(show LR D c.R u (snoc os.list .gone) _ from iy os.list .gone▸Each.app O (.one rfl)),(k.map aS).nodup l2,g,y,F,λp U=>N p (k.subset U)⟩,M⟩,j,x⟩
theorem OL.yz(t:OL)(x:SO):(OL.a t x).list[t.length]? =aa x:=by
 show(snoc t.list x)[t.length]? =_
 rw[iy,t.len_eq,dY (aH _),iP];rfl
theorem rC{G:Gx}{z:Str}{k:Nat}{v:Pos}{y:SS}{K:SV->SS->Prop}(h:K (.str z) y):aA G (.Constant (.str z) k v) y K:=λc q s u a u=>wpAny_Constant_str (a.t1.give (V:=VR _) (x:=.str z) (pr _) ⟨_,rfl⟩ h)
theorem ay.as{D:Wd}{n:Str}{x y:SV}{p:List (Str×SV)}{os:OL}{j:List Fact}(h:lk n p=aa x)(u:gz D x y):ay D ⟨p,os,j⟩ ⟨(n,y)::p,os,j⟩:=λc g s R=>⟨let⟨m,l,r⟩:=R.R;⟨m,l,λz w e=>by
 have k:lk z ((n,y)::p)=aa w:=e
 rw[bW] at k
 by_cases q:z=n
 ·rw[if_pos q] at k
  cases k
  obtain⟨v,a,b⟩:=r n x h
  exact⟨v,q▸a,u _ _ b⟩
 ·rw[if_neg q] at k;exact r z w k⟩,R.tp,R.fa⟩
theorem ay.un{D:Wd}{n:Str}{x y:SV}{p:List (Str×SV)}{os:OL}{k:List Fact}(h:lk n p=aa x)(u:gz D y x):ay D ⟨(n,y)::p,os,k⟩ ⟨p,os,k⟩:=λc g s R=>⟨let⟨m,l,r⟩:=R.R;⟨m,l,λz w e=>by
 by_cases q:z=n
 ·subst q
  have j:lk z p=aa w:=e
  rw[h] at j
  cases j
  obtain⟨v,a,b⟩:=r z y (by show lk z ((z,y)::p)=_;rw[bW,if_pos rfl])
  exact⟨v,a,u _ _ b⟩
 ·exact r z w (by show lk z ((n,y)::p)=_;rw[bW,if_neg q];exact e)⟩,R.tp,R.fa⟩
inductive Jq (D:Wd) (K:SV->SS->Prop) (x:SV) (σ':SS):Prop
 |mk (x':SV) (σ'':SS) (s:gz D x x') (l:ay D σ' σ'') (k:K x' σ'')
theorem aA.ph{G:Gx}{e:Expr}{y:SS}{K:SV->SS->Prop}(h:aA G e y (Jq G.D K)):aA G e y K:=λc g s w a r=>
 wpAny_mono (h c g s w a r) (λv V ⟨k,j,x,p,R,q,u,m,C,l,z⟩=>⟨k,m,u,p,l _ _ _ R,C _ _ q,z⟩) λY Y z=>z
theorem aaY{H:Type}{l:List H}{o x:H}:aX (l++[o]) l.length x=l++[x]:=by
 induction l with
 |nil=>rfl
 |cons a l p=>exact congrArg (a::·) p
inductive C7 (l:List Nat) (objs:OL) (fa:List Fact) (n' i:Nat) (σ':SS):Prop
 |mk (e:n'=l.length-i) (h:i<=l.length) (os:OL) (o:SO) (es:σ'=⟨[],os,fa⟩) (eo:os.list=objs.list++[o]) (j:(i=0/\o=.list ah [])\/o=.list (aa (.txt ((l.take i).map fF) i)) [])
theorem aaZ{G:Gx}{M:SS}{e:Expr}{n:Str}{B:b3}{x:SV}{K:SV->SS->Prop}{t:Tm}(hc:ue G (lC (gX e) B)=ai)(h1:aQ (C1 e).endLine (cH e).line=ai)(hn:lk n G.cs.names=some .local)(hd:seq n (af "__debug__")=aj)(H:lk n M.loc=aa x)(ht:IsT x t)(p1:gz G.D (.tm t) x)(hb:aD t.bd 100000=ai)(hl:∀l,G.D.η.f 11 l=l.map fF)(f1:xg G.D G.T)
 (hs:lk (af "c") (lq (lC (gX e) B) G.cs).names=some .local)
 (hv:∀(x:Nat) (p:OL) (K:SV->SS->Prop),((ex 60 (G.comp (lC (gX e) B) (kc (lC (gX e) B) G.cv))).E (uN (gX e)) ⟨[(af "c",.ss ⟨#[x]⟩)],p,M.fa⟩ λx O=>.pr (K x O) .tt).t.h=yy x λy=>K y ⟨[(af "c",.ss ⟨#[x]⟩)],p,M.fa⟩)
 (k:K (.tm (.n 11 [] t .e)) ⟨M.loc,OL.a M.objs .gone,M.fa⟩):aA G (Jk e n B) M K:=by
 obtain⟨A,p,D⟩:=M
 let l:=t.ev G.D.η
 have j:l.length<=100000:=aq (Tm.oH G.D.kR t) (aB hb)
 have a1:∀i:Nat,(ak l).cps[i]? =l[i]? :=λi=>by show l.toArray[i]? =_;rw[oh]
 have s1:gz G.D x (.ss (ak l)):=λρ v r=>let⟨C,e⟩:=ht r;⟨C,e⟩
 have s2:gz G.D (.ss (ak l)) x:=λρ v r=>p1 ρ v r
 let g:Nat->List Nat:=λi=>(l.take i).map fF
 apply aA.ph
 apply aC.pre (ay.as H s1)
 apply t6
 ·exactλm m m=>rfl
 ·exact h1
 ·exactλu hu=>by rw[d8] at hu;subst hu;exactλm m=>rfl
 ·rfl
 refine rC (oX .join (a:=⟨#[]⟩) (λ{_ _ _} r=>r) (λu hu=>by rw[d8] at hu;subst hu;exactλm m=>rfl) (lg (λm m=>rfl) (BI (xP hc) (λm m=>rfl) (IW (fS (x:=.ss (ak l)) hd hn (by rw[bW,if_pos rfl]) ⟨ak l,λ{_ _ _} r=>r,C7 l p D,l.length,⟨λn' i O hJ=>?_⟩,rfl,bP _,_,_,rfl,iy _ _,.inl ⟨rfl,rfl⟩⟩)))))
 obtain⟨i1,d1,os,o,rfl,e1,hj⟩:=hJ
 have L:os.list[p.length]? =aa o:=by rw[e1,p.len_eq,dY (aH _),iP];rfl
 have u1:∀X,(OL.s os p.length X).list=p.list++[X]:=λX=>by show aX os.list _ X=_;rw[e1,p.len_eq];exact aaY
 refine⟨_,rfl,?_⟩
 rw[a1]
 cases e0:l[i]? with
 |none=>
  have V:l.length<=i:=qi.mp e0
  have Y:∀s:Str,s.cps.toList=l.map fF->Jq G.D K (.ss s) ⟨(n,SV.ss (ak l))::A,os,D⟩:=λs hs=>⟨.tm (.n 11 [] t .e),_,λρ v ⟨C,e⟩=>⟨C,by
   rw[e]
   congr 1
   refine gj (hs.trans ?_)
   show _=G.D.η.f 11 l
   rw[hl]⟩,(ay.un H s2).trans ((ay.of (σ:=⟨A,os,D⟩) (σ':=⟨A,OL.a p o,D⟩) (λm m e=>e) (by show snoc p.list o=os.list;rw[iy,e1]) rfl).trans ay.gone),k⟩
  refine⟨_,rfl,kZ ?_⟩
  rcases hj with⟨rfl,rfl⟩|rfl
  ·refine BW (a:=⟨#[]⟩) (xs:=[]) (ys:=[]) (λ{_ _ _} r=>r) L (λ{_ _ _} r=>by cases r;exact .nil) (by decide) (Y _ ?_)
   rw[sL (Nat.le_zero.mp V)]
   exact yv []
  ·refine C2 (s:=g i) (k:=i) (λ{_ _ _} r=>r) L (by rw[i8];exact aq (List.length_take_le' _ _) j) (by exact Om.QM j d1 V) (Y _ ?_)
   show(l.take i).map fF=_
   rw[iL V]
 |some z=>
  have V:i<l.length:=(dh.mp e0).1
  have y1:g (i+1)=g i++[fF z]:=by
   show(l.take (i+1)).map fF=(l.take i).map fF++[fF z]
   rw[wj,e0,dH];rfl
  let Pz:SV->SS->Prop:=BF G.D p.length (C7 l p D) n' i
  have o1:C7 l p D (l.length-(i+1)) (i+1) ⟨[],OL.s os p.length (.list (aa (.txt (g (i+1)) (i+1))) []),D⟩:=⟨rfl,V,_,_,rfl,u1 _,.inr rfl⟩
  refine qP hs ((((ex 60 (G.comp (lC (gX e) B) (kc (lC (gX e) B) G.cv))).E (uN (gX e)) ⟨[(af "c",.ss ⟨#[z]⟩)],os,D⟩ λx O=>.pr (Pz x O) .tt).ok ((hv _ _ _).mpr (aaX ?_)) ⟨λx H=>Om.nm H,f1,λx H=>Om.nm H,λx H=>Om.nm H,λm m m h=>h⟩).mp λm m h=>h.1)
  rcases hj with⟨rfl,rfl⟩|rfl
  ·refine⟨ah,[],L,λU q=>?_,aa (.txt (g 1) 1),[],λU ρ vs v q f r=>?_,_,by exact Om.QN j i1 V,o1⟩
   ·obtain rfl:U=[]:=q
    decide
   ·obtain rfl:U=[]:=q
    cases f
    obtain⟨C,rfl⟩:=r
    exact⟨[.str ⟨#[fF z]⟩ C],[],rfl,⟨[⟨#[fF z]⟩],.cons _ _ .nil,by rw[y1];rfl,aH _⟩,.nil⟩
  ·refine⟨_,[],L,λU ⟨_,_,_,q⟩=>?_,aa (.txt (g (i+1)) (i+1)),[],λU ρ vs v q f r=>?_,_,by exact Om.QO i1 V,o1⟩
   ·show U.length+0<=_
    exact Om.QR j V q
   ·obtain⟨ys,h1,h2,h3⟩:=q
    cases f
    obtain⟨C,rfl⟩:=r
    exact⟨U++[.str ⟨#[fF z]⟩ C],[],by rw[cO];rfl,⟨ys++[⟨#[fF z]⟩],pC h1 (.cons _ _ .nil),by rw[y1,oq,h2];rfl,by rw[bK];exact d9 h3⟩,.nil⟩
noncomputable def uQ:bg:=λv y K=>match v with
 |[x]=>@aY _ (λz=>Tr) .ff (λt=>@az (λz=>Tr) .ff (K (.tm (.n 11 [] t.1 .e)) y) (aD t.1.bd 100000)) (fC x)
 |_=>.ff
noncomputable abbrev yC:Expr:=cV (aN Tb.mK.body 0)
theorem aa0:Tb.mK.body=[.Return (aa (Jk yC (af "text") Tb.mK.scope)) (iE (aN Tb.mK.body 0))]:=by kernel_rfl
noncomputable abbrev Jr (W:Wd):Gx:=gi (WS W) Tb.mK.scope 0 []
theorem aa1(W:Wd)(x:Nat)(z:OL)(u:List Fact)(K:SV->SS->Prop):((ex 60 ((Jr W).comp (lC (gX yC) Tb.mK.scope) (kc (lC (gX yC) Tb.mK.scope) (Jr W).cv))).E (uN (gX yC)) ⟨[(af "c",.ss ⟨#[x]⟩)],z,u⟩ λx v=>.pr (K x v) .tt).t.h=yy x λy=>K y ⟨[(af "c",.ss ⟨#[x]⟩)],z,u⟩:=by kernel_rfl
set_option tactic.hygienic true in
theorem Jt(W:Wd)(g:∀l,W.η.f 11 l=l.map fF):dm (WS W) (42,1,uQ):=λG M O Y v y K h=>by
 obtain⟨D,T,m,cs,A,con,U,B,H,fr⟩:=G
 obtain rfl:D=WS W:=M
 obtain rfl:T=Tb.T:=O
 have u:(uQ v y K).h:=h
 unfold uQ at u
 split at u
 ·rename_i x
  cases q:fC x with
  |none=>rw[q] at u;exact u.elim
  |some t=>
   rw[q] at u
   dsimp only at u
   cases q1:aD t.1.bd 100000 with
   |false=>rw[q1] at u;exact u.elim
   |true=>
    rw[q1] at u
    have V:hh K (.tm (.n 11 [] t.1 .e)) y:=u
    refine av.conv (xs':=[.tm t.1]) (λL C r=>by
     cases r with|cons r k=>exact .cons (t.2 r) k) (Hp rfl λj=>av.sw (n:=1) (cons:=[]) Y (j8 (i:=Tb.mK) (n:=0) rfl rfl rfl rfl ?_))
    rw[aa0]
    refine cZ (Bo (aaZ (x:=.tm t.1) (t:=t.1) (by kernel_rfl) (by kernel_rfl) (by kernel_rfl) (by kernel_rfl) (by kernel_rfl) (λ{_ _ _} r=>r) (λz z r=>r) q1 g (pe W) (by kernel_rfl) (λx p K=>aa1 W x p y.fa K) ?_))
    exact⟨rfl,rfl,λz=>V⟩
 ·exact u.elim
theorem VR.er'{W:Wd}{z:List Addr}{x:SV}{v:Value}(r:VR W z (mQ x) v):VR W z x v:=by cases x<;>exact r
theorem ay.sub{D:Wd}{L L':List (Str×SV)}{os:OL}{k:List Fact}(h:L'.map (λp=>(lk p.1 L).map mQ)=L'.map λp=>aa (mQ p.2)):ay D ⟨L,os,k⟩ ⟨L',os,k⟩:=λc g s R=>⟨let⟨m,l,r⟩:=R.R;⟨m,l,λx y e=>by
 have j:=sP.mp h (x,y) (fz e)
 have u:(lk x L).map mQ=aa (mQ y):=j
 cases q:lk x L with
 |none=>rw[q] at u;cases u
 |some z=>
  rw[q] at u
  obtain⟨v,a,b⟩:=r x z q
  exact⟨v,a,(ju u▸b.er).er'⟩⟩,R.tp,R.fa⟩
noncomputable abbrev C8 (s:Stmt):Pos:=(jT s 0).pos
noncomputable abbrev gY (s:Stmt):Expr:=jT s 1
noncomputable abbrev C9 (s:Stmt):Pos:=s.pos
noncomputable def mU (G:Gx) (b:List Stmt) (y:SS) (K:Fl->SS->Prop):Prop:=(di (ex 60 G) b y λx z=>.pr (K x z) .tt).t.h
theorem pG{G:Gx}(g:bw G){b:List Stmt}{y:SS}{K:Fl->SS->Prop}(h:mU G b y K):aO G b y K:=((di (ex 60 G) b y λx v=>.pr (K x v) .tt).ok h g).mp λu u z=>z.1
noncomputable def nT (G:Gx) (st:Stmt) (y:SS) (K:Fl->SS->Prop):Prop:=((ex 60 G).S st y λx z=>.pr (K x z) .tt).t.h
theorem rD{G:Gx}(g:bw G){st:Stmt}{y:SS}{K:Fl->SS->Prop}(h:nT G st y K):bc G st y K:=(((ex 60 G).S st y λx v=>.pr (K x v) .tt).ok h g).mp λu u z=>z.1
noncomputable def bl (k:Str):Nat->Int->Int->Int:=eT (λlo z=>lo) λz p lo V=>@az (λz=>Int) lo (@az (λz=>Int) (p lo ((lo+V).fdiv 2)) (p ((lo+V).fdiv 2+1) V) (decide ((Tb.je.getD ((lo+V).fdiv 2).toNat ⟨#[]⟩).cps.toList<k.cps.toList))) (decide (lo<V))
theorem Ju{k:Str}{n:Nat}{lo V:Int}(h:decide (lo<V)=aj):bl k n lo V=lo:=by
 cases n with
 |zero=>rfl
 |succ n=>
  show@az (λz=>Int) lo _ (decide (lo<V))=lo
  rw[h]
theorem Jv{k:Str}{n:Nat}{lo V:Int}(h:decide (lo<V)=ai)(q:decide ((Tb.je.getD ((lo+V).fdiv 2).toNat ⟨#[]⟩).cps.toList<k.cps.toList)=ai):bl k (n+1) lo V=bl k n ((lo+V).fdiv 2+1) V:=by
 show@az (λz=>Int) lo (@az (λz=>Int) _ (bl k n ((lo+V).fdiv 2+1) V) (decide ((Tb.je.getD ((lo+V).fdiv 2).toNat ⟨#[]⟩).cps.toList<k.cps.toList))) (decide (lo<V))=_
 rw[h,q]
theorem Jw{k:Str}{n:Nat}{lo V:Int}(h:decide (lo<V)=ai)(q:decide ((Tb.je.getD ((lo+V).fdiv 2).toNat ⟨#[]⟩).cps.toList<k.cps.toList)=aj):bl k (n+1) lo V=bl k n lo ((lo+V).fdiv 2):=by
 show@az (λz=>Int) lo (@az (λz=>Int) (bl k n lo ((lo+V).fdiv 2)) _ (decide ((Tb.je.getD ((lo+V).fdiv 2).toNat ⟨#[]⟩).cps.toList<k.cps.toList))) (decide (lo<V))=_
 rw[h,q]
theorem half{lo V:Int}(z:0<=lo)(h:lo<V):lo<=(lo+V).fdiv 2/\(lo+V).fdiv 2<V:=by
 rw[Int.fdiv_eq_ediv_of_nonneg _ (by decide)];exact Om.QT h
theorem aa3(k:Str):∀(n:Nat) (lo V:Int),0<=lo->lo<=V->lo<=bl k n lo V/\bl k n lo V<=V:=λn=>by
 induction n with
 |zero=>exactλlo V z h=>⟨Int.le_refl _,h⟩
 |succ n p=>
  intro lo V y h
  cases e:decide (lo<V) with
  |false=>rw[Ju e];exact⟨Int.le_refl _,h⟩
  |true=>
   obtain⟨x,u⟩:=half y (of_decide_eq_true e)
   cases q:decide ((Tb.je.getD ((lo+V).fdiv 2).toNat ⟨#[]⟩).cps.toList<k.cps.toList) with
   |true=>rw[Jv e q];have:=p ((lo+V).fdiv 2+1) V (by exact Om.F0 y x) (by exact Om.QU u);exact Om.QV x this
   |false=>rw[Jw e q];have:=p lo ((lo+V).fdiv 2) y (by omega);exact Om.QW u this
noncomputable def Jx (G:Gx) (e:Expr) (y:SS) (K:SV->SS->Prop):Prop:=((ex 60 G).T e y λx z=>.pr (K x z) .tt).t.h
theorem aa4{G:Gx}(g:bw G){e:Expr}{y:SS}{K:SV->SS->Prop}(h:Jx G e y K):bS G e y K:=(((ex 60 G).T e y λx v=>.pr (K x v) .tt).ok h g).mp λu u z=>z.1
noncomputable abbrev rF (W:Wd):Gx:=gi (WS W) Tb.ux.scope 0 []
noncomputable def lD (i:Nat):Stmt:=aN Tb.ux.body i
noncomputable abbrev Lb (k:Str) (lo V:Int):List (Str×SV):=[(af "rows",.val (.ref 243)),(af "key",.ss k),(af "low",.si lo),(af "high",.si V)]
theorem aa5:Tb.ux.body=[lD 0,.While (nS (lD 1)) (lz (lD 1)) [] (aav (lD 1)),lD 2]:=by kernel_rfl
noncomputable abbrev Dc (k:Str):List (Str×SV):=[(af "rows",.val (.ref 243)),(af "key",.ss k),(af "low",.int 0),(af "high",.int 43)]
theorem vB0(W:Wd)(k:Str)(K:Fl->SS->Prop)(o:OL)(z:List Fact):nT (rF W) (lD 0) ⟨Dc k,o,z⟩ K=(K .next ⟨Dc k,o,z⟩/\True):=by kernel_rfl
theorem vBT(W:Wd)(k:Str)(lo V:Int)(K:SV->SS->Prop)(o:OL)(z:List Fact):Jx (rF W) (nS (lD 1)) ⟨Lb k lo V,o,z⟩ K=(K (.sb (decide (lo<V))) ⟨Lb k lo V,o,z⟩/\True):=by kernel_rfl
theorem vBB(W:Wd)(k:Str)(lo V:Int)(K:Fl->SS->Prop)(o:OL)(z:List Fact):mU (rF W) (lz (lD 1)) ⟨Lb k lo V,o,z⟩ K=(zX (lo+V) 2=aj/\(0<=(lo+V).fdiv 2/\(lo+V).fdiv 2<43)/\fk (decide ((Tb.je.getD ((lo+V).fdiv 2).toNat ⟨#[]⟩).cps.toList<k.cps.toList))
 (K .next ⟨(af "low",.si ((lo+V).fdiv 2+1))::(af "middle",.si ((lo+V).fdiv 2))::Lb k lo V,o,z⟩/\True) (K .next ⟨(af "high",.si ((lo+V).fdiv 2))::(af "middle",.si ((lo+V).fdiv 2))::Lb k lo V,o,z⟩/\True)):=by kernel_rfl
theorem vB2(W:Wd)(k:Str)(lo V:Int)(K:Fl->SS->Prop)(o:OL)(z:List Fact):nT (rF W) (lD 2) ⟨Lb k lo V,o,z⟩ K=(K (.ret (.si lo)) ⟨Lb k lo V,o,z⟩/\True):=by kernel_rfl
noncomputable def Jy (v:List SV):Option {k:Str//∀z (W:Wd) q,aM W z v q->aM W z [.val (.ref 243),.ss k,.int 0,.int 43] q}:=match v with
 |[a,x,l,h]=>au (A8 a) λt=>au (aV (aQ t.1 243)) λG=>au (bD x) λk=>au (bF l) λy=>au (aV (decide (y.1=0))) λp=>au (bF h) λu=>(aV (decide (u.1=43))).map λhh=>⟨k.1,λz W q r=>by
  cases r using Each.ec with
  |cons r1 r=>cases r using Each.ec with
   |cons r2 r=>cases r using Each.ec with
    |cons r3 r=>cases r using Each.ec with
     |cons r4 r=>
      rw[t.2,bJ G.1] at r1
      refine .cons r1 (.cons (k.2 r2) (.cons ?_ (.cons ?_ r)))
      ·have:=y.2 r3;rw[of_decide_eq_true p.1] at this;exact this
      ·have:=u.2 r4;rw[of_decide_eq_true hh.1] at this;exact this⟩
 |_=>ah
noncomputable def uR:bg:=λv y K=>@aY _ (λz=>Tr) .ff (λk=>K (.si (bl k.1 43 0 43)) y) (Jy v)
theorem aba{i:Int}(z:0<=i)(h:i<=1000):zX i 2=false:=by
 have x:i.natAbs.log2<=9:=by
  by_cases e:i.natAbs=0
  ·rw[e];decide
  ·exact E3 ((Nat.log2_lt e).mpr (by exact Om.QX z h))
 unfold zX
 rw[Bool.and_eq_false_iff]
 refine .inr (decide_eq_false ?_)
 dsimp only
 split<;>split<;>(first|exact Om.QY|exact Om.QZ|exact Om.Q0 x|exact Om.Q2 x)
theorem abb(W:Wd):dm (WS W) (178,1,uR):=λG hD hT hn v y K h=>by
 obtain⟨D,T,m,cs,KX,con,sc,ec,cv,fr⟩:=G
 obtain rfl:D=WS W:=hD
 obtain rfl:T=Tb.T:=hT
 have M:(uR v y K).h:=h
 unfold uR at M
 cases q:Jy v with
 |none=>rw[q] at M;exact M.elim
 |some k=>
  rw[q] at M
  obtain⟨k,hv⟩:=k
  have A:hh K (.si (bl k 43 0 43)) y:=M
  have g:bw (rF W):=pB λx hx=>by cases hx
  refine av.conv (xs':=[.val (.ref 243),.ss k,.int 0,.int 43]) (λρ vs r=>hv ρ _ vs r) (av.sw (n:=1) (cons:=[]) hn (av.ent (K:=hh K) (j8 (i:=Tb.ux) (n:=0) rfl rfl rfl rfl ?_)))
  rw[aa5]
  refine cZ (rD g ?_)
  show nT (rF W) (lD 0) ⟨Dc k,y.objs,y.fa⟩ _
  rw[vB0]
  refine⟨aC.pre (ay.sub (L':=Lb k 0 43) (by kernel_rfl)) ?_,trivial⟩
  let J:Nat->SS->Prop:=λn j=>∃lo V,0<=lo/\V<=43/\(V-lo).toNat<=n/\bl k n lo V=bl k 43 0 43/\j=⟨Lb k lo V,y.objs,y.fa⟩
  refine cZ (qX (λU U U h=>h) J (λn j C=>?_) 43 ⟨0,43,by decide,by decide,by decide,rfl,rfl⟩)
  obtain⟨lo,V,Y,L,u,O,rfl⟩:=C
  refine aa4 g ?_
  rw[vBT]
  refine⟨⟨λe=>?_,λe=>?_⟩,trivial⟩
  ·have z:=of_decide_eq_true e
   obtain⟨B,H⟩:=half Y z
   cases n with
   |zero=>exact Om.Q3 z u
   |succ n=>
    refine aC.ent (pG g (K:=λfl j=>fl=.next/\∃p,ay (WS W) j p/\J n p) ((vBB W k lo V _ y.objs y.fa).mpr ⟨aba (by exact Om.Q4 Y z) (by exact Om.Q5 L z),⟨by exact Om.Q6 Y B,by exact Om.Q7 Y L z H⟩,⟨λq=>⟨⟨rfl,_,ay.sub (L':=Lb k ((lo+V).fdiv 2+1) V) (by kernel_rfl),(lo+V).fdiv 2+1,V,by exact Om.F0 Y B,L,by exact Om.Q8 z B u,(Jv e q).symm.trans O,rfl⟩,trivial⟩,λq=>⟨⟨rfl,_,ay.sub (L':=Lb k lo ((lo+V).fdiv 2)) (by kernel_rfl),lo,(lo+V).fdiv 2,Y,by exact Om.Q9 Y L z H,by exact Om.Ra z H u,(Jw e q).symm.trans O,rfl⟩,trivial⟩⟩⟩)) ?_
    rintro fl j ⟨rfl,p,l',C⟩
    exact⟨p,l',n,gp n,C⟩
  ·refine cZ (rD g ?_)
   rw[vB2]
   rw[Ju e] at O
   rw[<-O] at A
   exact⟨⟨_,λU U U R=>R,A⟩,trivial⟩
noncomputable def Dd (D:Wd) (cs:b3) (n:Nat) (cons:List (Addr×Nat×bg)) (f:Addr) (v:List SV) (y:SS) (K:SV->SS->Prop):Prop:=(mH (ex 60) (gx D cs n cons) f v y λx z=>.pr (K x z) .tt).t.h
theorem yD{W:Wd}{m n:Nat}{cs:b3}{k:Value->List Addr->SS->Prop}{con:List (Addr×Nat×bg)}{U:List (Nat×Stmt×jW)}{p:List (Nat×Expr×jX)}{H:List (Str×Nat)}{fr:Bool}{cons:List (Addr×Nat×bg)}{f:Addr}{v:List SV}{y:SS}{K:SV->SS->Prop}
 (Y:n<=m) (g:∀x∈cons,dm (WS W) x) (h:Dd (WS W) cs n cons f v y K):av (⟨WS W,Tb.T,m,cs,k,con,U,p,H,fr⟩:Gx) (.ref f) v y K:=
 av.sw (n:=n) (cons:=cons) Y (((mH (ex 60) (gx (WS W) cs n cons) f v y λx u=>.pr (K x u) .tt).ok h (Cp g)).mp λq q z=>z.1)
noncomputable def hkp (p:Str):Bool:=cU p Tb.cG||(!decide (bl p 43 0 43=43)&&nA (Tb.je.getD (bl p 43 0 43).toNat ⟨#[]⟩) p)
theorem vH(D:Wd)(cs:b3)(p:Str)(y:SS)(K:SV->SS->Prop):Dd D cs 2 [(178,1,uR)] 220 [.val (.ref 236),.ss p] y K=fk (cU p Tb.cG) (K (.bool ai) ⟨y.loc,y.objs,y.fa⟩/\True) (fk (nA p (af "")) (fk (decide (bl p 43 0 43=43)) (K (.bool aj) ⟨y.loc,y.objs,y.fa⟩/\True)
 ((0<=bl p 43 0 43/\bl p 43 0 43<43)/\K (.sb (nA (Tb.je.getD (bl p 43 0 43).toNat ⟨#[]⟩) p)) ⟨y.loc,y.objs,y.fa⟩/\True)) False):=by kernel_rfl
theorem Jz(p:Str):nA p (af "")=true:=by
 unfold nA
 have e:(af "").length=0:=rfl
 rw[e]
 simp only[Ff,bP,decide_true,MG]
 show Builtin.Str.subAt p ⟨#[]⟩ 0=ai
 unfold Builtin.Str.subAt
 have M:(⟨#[]⟩:Str).length=0:=rfl
 rw[M]
 simp
theorem JA{W:Wd}{m:Nat}{cs:b3}{B:Value->List Addr->SS->Prop}{con:List (Addr×Nat×bg)}{U:List (Nat×Stmt×jW)}{D:List (Nat×Expr×jX)}{H:List (Str×Nat)}{fr:Bool}{p:Str}{V:SS}{K:SV->SS->Prop}(Y:2<=m)(k:K (.sb (hkp p)) V):
 av (⟨WS W,Tb.T,m,cs,B,con,U,D,H,fr⟩:Gx) (.ref 220) [.val (.ref 236),.ss p] V K:=by
 have conv:∀{b:Bool},hkp p=b->∀x,(∀G v,VR (WS W) G x v->v=.bool b)->av (⟨WS W,Tb.T,m,cs,B,con,U,D,H,fr⟩:Gx) (.ref 220) [.val (.ref 236),.ss p] V (λy g=>y=x/\g=V)->av (⟨WS W,Tb.T,m,cs,B,con,U,D,H,fr⟩:Gx) (.ref 220) [.val (.ref 236),.ss p] V K:=λ{b} e x hx h c G s A a r=>
  jE (h c G s A a r) (λv s' ⟨L,g,y,pp,R,q,j,M⟩=>by subst j M;obtain rfl:=hx _ _ q;exact⟨L,g,.sb (hkp p),pp,R,by rw[e];rfl,k⟩) λu u z=>z
 have O:=aa3 p 43 0 43 (by decide) (by decide)
 have C:∀x∈[(178,1,uR)],dm (WS W) x:=uD (abb W)
 cases j:cU p Tb.cG with
 |true=>
  refine conv (b:=ai) (by unfold hkp;rw[j];rfl) (.bool ai) (λu u r=>r) (yD Y C ?_)
  rw[vH]
  exact⟨λu=>⟨⟨rfl,rfl⟩,trivial⟩,λe=>by rw[j] at e;cases e⟩
 |false=>cases M:decide (bl p 43 0 43=43) with
  |true=>
   refine conv (b:=aj) (by unfold hkp;rw[j,M];rfl) (.bool aj) (λu u r=>r) (yD Y C ?_)
   rw[vH]
   exact⟨λe=>(by rw[j] at e;cases e),λu=>⟨λu=>⟨λu=>⟨⟨rfl,rfl⟩,trivial⟩,λe=>(by rw[M] at e;cases e)⟩,λe=>by rw[Jz] at e;cases e⟩⟩
  |false=>
   refine conv (b:=nA (Tb.je.getD (bl p 43 0 43).toNat ⟨#[]⟩) p) (by unfold hkp;rw[j,M];rfl) (.sb _) (λu u r=>r) (yD Y C ?_)
   rw[vH]
   exact⟨λe=>(by rw[j] at e;cases e),λu=>⟨λu=>⟨λe=>(by rw[M] at e;cases e),λu=>⟨⟨O.1,by have:=of_decide_eq_false M;exact Om.Rb O this⟩,⟨rfl,rfl⟩,trivial⟩⟩,λe=>by rw[Jz] at e;cases e⟩⟩
theorem abc:(Tb.je.all λz=>aD z.length 9)=true:=by kernel_rfl
theorem abd:(Tb.cG.all λz=>aD 2 z.1.length&&(aD z.1.length 9&&(aD z.2.length 10&&z.2.cps.toList.all λc=>dW c 1114112)))=true:=by kernel_rfl
theorem abe{n:Str}{D:List (Str×Str)}(h:cU n D=ai):∃z∈D,z.1=n:=by
 induction D with
 |nil=>cases h
 |cons p r y=>
  rw[Ik,lW] at h
  rcases h with h|h
  ·exact⟨p,.head _,(b9.mp h).symm⟩
  ·obtain⟨z,x,e⟩:=y h;exact⟨z,.tail _ x,e⟩
theorem yE{n:Str}(h:cU n Tb.cG=ai):2<=n.length/\n.length<=9:=by
 obtain⟨z,y,rfl⟩:=abe h
 have:=bZ.mp abd z y
 simp only[cD] at this
 exact⟨aB this.1,aB this.2.1⟩
theorem abf{a b:Str}(h:nA a b=ai):b.length<=a.length:=by
 unfold nA at h
 simp only[i9,cD,decide_eq_true_eq] at h
 exact Om.Rc h
theorem abg{p:Str}(h:hkp p=ai):p.length<=9:=by
 unfold hkp at h
 rw[lW,cD] at h
 rcases h with h|⟨_,h⟩
 ·exact(yE h).2
 ·refine aq (abf h) ?_
  cases e:Tb.je[(bl p 43 0 43).toNat]? with
  |none=>rw[sM,e];decide
  |some z=>
   rw[sM,e]
   exact aB (bZ.mp abc z (lV e))
structure EvEn (η:Ev):Prop where
 k:∀l,η.p 22 l=hkp (ak l)
 e:∀l,η.p 23 l=cU (ak l) Tb.cG
 g:∀l,cU (ak l) Tb.cG=ai->ak (η.f 22 l)=kh (ak l) Tb.cG
noncomputable def jg (y:List Fact):Tm->Nat:=Tm.rec 0 λk l a b x z=>@aY _ (λz=>Nat) (@az (λz=>Nat) 0 (@eT (λz=>Nat) 0 (λn z=>@aY _ (λz=>Nat) 0 (λz=>n+2) (ly b y)) x) (aQ k 5)) (λz=>1) (ly (.n k l a b) y)
inductive abh (fa:List Fact) (t:Tm) (n:Nat):Prop
 |one (h:∀η,aT η fa->(t.ev η).length=1) (e:n=1)
 |more (l:List Nat) (a b:Tm) (m:Nat) (et:t=.n 5 l a b) (ha:jg fa a=m+1) (hb:∀η,aT η fa->(b.ev η).length=1) (e:n=m+2)
theorem JB{x:List Fact}{t:Tm}{n:Nat}(h:jg x t=n+1):abh x t (n+1):=by
 cases t with
 |e=>cases h
 |n k l a b=>
  have p:@aY _ (λy=>Nat) (@az (λy=>Nat) 0 (@eT (λy=>Nat) 0 (λn y=>@aY _ (λy=>Nat) 0 (λy=>n+2) (ly b x)) (jg x a)) (aQ k 5)) (λy=>1) (ly (.n k l a b) x)=n+1:=h
  cases q:ly (.n k l a b) x with
  |some z=>rw[q] at p;exact .one z.1 p.symm
  |none=>
   rw[q] at p
   have u:@az (λy=>Nat) 0 (@eT (λy=>Nat) 0 (λn y=>@aY _ (λy=>Nat) 0 (λy=>n+2) (ly b x)) (jg x a)) (aQ k 5)=n+1:=p
   cases q2:aQ k 5 with
   |false=>rw[q2] at u;cases u
   |true=>
    rw[q2] at u
    have O:@eT (λy=>Nat) 0 (λn y=>@aY _ (λy=>Nat) 0 (λy=>n+2) (ly b x)) (jg x a)=n+1:=u
    cases G:jg x a with
    |zero=>rw[G] at O;cases O
    |succ m=>
     rw[G] at O
     have v:@aY _ (λy=>Nat) 0 (λy=>m+2) (ly b x)=n+1:=O
     cases Y:ly b x with
     |none=>rw[Y] at v;cases v
     |some z=>
      rw[Y] at v
      exact .more l a b m (by rw[bJ q2]) G z.1 v.symm
theorem De{y:List Fact}{z:Ev}(ok:aT z y):∀(t:Tm) (n:Nat),jg y t=n+1->(t.ev z).length=n+1:=λt=>by
 induction t with
 |e=>intro n h;cases h
 |n k l a b x _=>
  intro n h
  cases JB h with
  |one h e=>rw[h z ok,e]
  |more q g j m u p v e=>
   cases u
   show(a.ev z++b.ev z).length=_
   rw[bK,x m p,v z ok,e]
noncomputable def uS (t:Tm) (y:List Fact):Option {n:Nat//∀k,aT k y->(t.ev k).length=n}:=@eT (λn=>jg y t=n->Option {n:Nat//∀k,aT k y->(t.ev k).length=n}) (λz=>ah) (λn z h=>aa ⟨n+1,λk ok=>De ok t n h⟩) (jg y t) rfl
noncomputable def many (o:Option Nat):Bool:=match o with
 |some n=>aD 10 n
 |ah=>aj
noncomputable def JC (v:List SV):Option {t:Tm//∀z (W:Wd) q,aM W z v q->aM W z [.val (.ref 236),.ss (ak (t.ev W.η))] q}:=match v with
 |[a,x]=>au (A8 a) λt=>au (aV (aQ t.1 236)) λG=>(fC x).map λk=>⟨k.1,λz W q r=>by
  cases r using Each.ec with
  |cons r1 r=>cases r using Each.ec with
   |cons r2 r=>
    rw[t.2,bJ G.1] at r1
    exact .cons r1 (.cons (k.2 r2) r)⟩
 |_=>ah
noncomputable def yF:bg:=λv y K=>@aY _ (λz=>Tr) .ff (λt=>@az (λz=>Tr) (K (jY y 22 [] t.1 .e) y) (K (.bool aj) y) (many ((uS t.1 y.fa).map (·.1)))) (JC v)
theorem av.fa{G:Gx}{f:Value}{v:List SV}{y:SS}{K:SV->SS->Prop}(h:aT G.D.η y.fa->av G f v y K):av G f v y K:=λc z s q a r=>h a.fa c z s q a r
theorem abi{t:Tm}{z:List Fact}{k:Ev}(h:many ((uS t z).map (·.1))=ai)(ok:aT k z):10<=(t.ev k).length:=by
 cases q:uS t z with
 |none=>rw[q] at h;cases h
 |some n=>rw[q] at h;rw[n.2 k ok];exact aB h
theorem av.res{G:Gx}{f:Value}{Y:List SV}{m:SS}{x y:SV}{K:SV->SS->Prop}(h:av G f Y m λz p=>z=x/\p=m)(u:aT G.D.η m.fa->∀j v,VR G.D j x v->VR G.D j y v)(k:K y m):av G f Y m K:=λc j s V a r=>
 jE (h c j s V a r) (λv H ⟨g,p,z,O,R,q,L,M⟩=>by subst L M;exact⟨g,_,y,O,R,u R.fa _ _ q,k⟩) λU U z=>z
theorem abj(W:Wd)(H:EvEn W.η):dm (WS W) (220,3,yF):=λG B C Y V y K h=>by
 obtain⟨D,T,m,cs,KX,con,U,A,cv,fr⟩:=G
 obtain rfl:D=WS W:=B
 obtain rfl:T=Tb.T:=C
 have k:(yF V y K).h:=h
 unfold yF at k
 cases q:JC V with
 |none=>rw[q] at k;exact k.elim
 |some t=>
  rw[q] at k
  refine av.conv (λg O r=>t.2 g _ O r) ?_
  have u:(@az (λz=>Tr) (K (jY y 22 [] t.1 .e) y) (K (.bool aj) y) (many ((uS t.1 y.fa).map (·.1)))).h:=k
  have p:2<=m:=Nat.le_of_succ_le Y
  cases e:many ((uS t.1 y.fa).map (·.1)) with
  |false=>
   rw[e] at u
   exact av.res (x:=.sb (hkp (ak (t.1.ev W.η)))) (JA p ⟨rfl,rfl⟩) (λok g v r=>by
    obtain rfl:v=.bool _:=r
    have:BR (WS W) (jY y 22 [] t.1 .e) (cF W.η 22 [] (t.1.ev W.η) []):=qI (W:=WS W) ok
    have M:cF W.η 22 [] (t.1.ev W.η) []=hkp (ak (t.1.ev W.η)):=H.k _
    rw[M] at this
    exact this.VR) u
  |true=>
   rw[e] at u
   exact av.res (x:=.sb (hkp (ak (t.1.ev W.η)))) (JA p ⟨rfl,rfl⟩) (λok g v r=>by
    obtain rfl:v=.bool _:=r
    have L:=abi e ok
    cases j:hkp (ak (t.1.ev W.η)) with
    |false=>rfl
    |true=>have:=abg j;rw[cP] at this;exact absurd (aq L this) (by decide)) u
inductive ROb (lo:Int) (n:Nat) (I:Addr) (i:Nat) (l rr:List (Addr×Obj)):Prop
 |mk (e:l=[(I,{cls:=.type "range_iterator",dict:=ah,data:=.fields #[rawInt (lo+i),rawInt ((n:Int)-i),rawInt 1],slots:=#[]})]) (e':rr=[])
noncomputable def uT (lo:Int) (n i:Nat):Option SV:=@az (λy=>Option SV) ah (aa (.si (lo+i))) (dW i n)
theorem Df{lo:Int}{n i:Nat}(h:i<n):uT lo n i=aa (.si (lo+i)):=by
 unfold uT
 rw[show dW i n=ai from we h]
theorem Dg{lo:Int}{n i:Nat}(h:n<=i):uT lo n i=ah:=by
 unfold uT
 cases e:dW i n with
 |false=>rfl
 |true=>exact absurd (aB e) (by exact Om.Rd h)
noncomputable def rG (lo:Int) (n:Nat):Src where
 it:=λH i=>aa (uT lo n i)
 bk:=aa
 ob _ I _ i l O:=ROb lo n I i l O
 mono:=λh H=>h
 next:=λ{G c g z s I i l O r Q E} hR a ⟨e,u⟩ hit x=>by
  subst e u
  obtain rfl:=ju hit
  have U:IsRangeIter s.heap I (lo+i) ((n:Int)-i) 1:=a.heap (p:=(I,_)) (.head _)
  by_cases h:i<n
  ·rw[Df h] at x
   refine wpAny_pyNext_range_item U (by exact Om.Rf h) λD y Y=>?_
   have C:lo+(i:Int)+1=lo+((i+1:Nat):Int):=by exact Om.Rg
   have M:(n:Int)-(i:Int)-1=(n:Int)-((i+1:Nat):Int):=by exact Om.Rh
   rw[C,M] at y
   exact x _ [(I,_)] _ (a.turn (own:=[]) hR y (λb o k e=>Y.extBut b o k e) (eg _)) ⟨_,rfl⟩ ⟨rfl,rfl⟩
  ·rw[Dg (kL h)] at x
   exact wpAny_pyNext_range_end a.ok.hh U (by exact Om.Ri h) λD V=>x _ λj q=>by cases q;exact a.drop (own:=[]) (λb o k e=>V b o k e) (aH _)
 go:=λ{G c g z s I i l O v L Q E} a ⟨e,u⟩ x=>by
  subst e u
  exact letGo (a.heap (p:=(I,_)) (.head _)) rfl (by decide) x
 self:=λ{G c g z s I i l O Q E} a ⟨e,u⟩ x=>by
  subst e u
  exact wpAny_pyIter_rangeiter (a.heap (p:=(I,_)) (.head _)) x
 back:=λ{G c g z s I i l O j} hR a ⟨e,u⟩ k=>by
  subst e u
  cases k
  exact At.same (own:=[]) a
section
variable{G:Gx}{z:SS}{m:Pos}
theorem JD{c:Cx}{q y:List Addr}{s:Shared}{E:Value->Shared->Prop}(a:At G c q z s)(p:y<+:q){lo V:Int}{r:Addr}{t u v:Tok}{L:Heap}{tk:Nat}(k:s.toks<=tk)(D:L=s.heap.push {cls:=.type "range",data:=.fields #[.int lo t,.int V u,.int 1 v]})(H:r=s.heap.objs.size)
 (U:-1000000000<=lo) (Y:lo<=1000000000) (O:-1000000000<=V) (g:V<=1000000000) {R:Src->SS->Prop} (hR:R (rG lo (V-lo).toNat) z):
 wpAny G.D.M c.A (pyIter (.ref r)) (Hx G c y R) E {s with heap:=L,toks:=tk}:=by
 subst D H
 refine wpAny_pyIter_range (IsRange.new ..) (small_one (by exact Om.F4 U Y) (by exact Om.F5 U Y) (by exact Om.F4 O g) (by exact Om.F5 O g)) ?_
 have x:Builtin.Range.rangeSize lo V 1=((V-lo).toNat:Int):=by rw[rangeSize_one];split<;>(first|exact Om.Rj ‹_›|exact Om.Rk ‹_›)
 have A:=(a.owned {cls:=.type "range",data:=.fields #[.int lo t,.int V u,.int 1 v]} rfl)
 have B:At G c q z {s with heap:=s.heap.push {cls:=.type "range",data:=.fields #[.int lo t,.int V u,.int 1 v]},toks:=tk}:=a.to (pr _) (At.drop (own:=[]) (rr:=[]) A (λj j j e=>e) k)
 rw[x]
 refine⟨_,[(_,_)],[],rG lo (V-lo).toNat,q,z,rfl,p,B.owned {cls:=.type "range_iterator",data:=.fields #[rawInt lo,rawInt ((V-lo).toNat:Int),rawInt 1]} rfl,?_,hR⟩
 refine⟨?_,rfl⟩
 have C:lo+((0:Nat):Int)=lo:=by exact Om.Rl
 have M:(((V-lo).toNat:Nat):Int)-((0:Nat):Int)=((V-lo).toNat:Int):=by exact Om.Rm
 rw[C,M]
inductive abl (lo hi:Int) (ys:List SV):Prop
 |one (y:SV) (e:ys=[y]) (h0:lo=0) (h:bx y hi)
 |two (x y:SV) (e:ys=[x,y]) (h1:bx x lo) (h:bx y hi)
theorem JE{n:Str}{p':Pos}{e:Expr}{u:List Expr}{R:Src->SS->Prop}(hn:lk n G.cs.names=some .globalImplicit)(hg:lk n G.T.eY=aa (.type "range"))(hp:dR (e::u))
 (h:dI G (e::u) z λj U=>∃lo V,abl lo V j/\-1000000000<=lo/\lo<=1000000000/\-1000000000<=V/\V<=1000000000/\R (rG lo (V-lo).toNat) U):jb G (.Call (.Name n p') (e::u) [] m) z R:=λc ρ s a=>
 Call_ (aC.go (w:=()) (show aA G (.Name n p') z λx L=>x=.val (.type "range")/\L=z from kY hn hg ⟨rfl,rfl⟩) a (pr _) trivial λy1 L x v s' p _ a' q ⟨A,hs⟩=>by
  subst A hs
  obtain rfl:=q
  refine E2 (h.go a' p trivial λg H j vs e1 Y C M k ⟨lo,V,hr,h1,h2,h3,h4,hR⟩=>?_) (hp _ (.head _) _ _) (plain_any λt ht=>hp t (.tail _ ht))
  cases hr with
  |one y e h0 B=>
   subst e h0
   cases k using Each.ec with
   |cons q O=>
    cases O
    obtain⟨t,rfl⟩:=B q
    exact call_range_1 (JD M Y (bL _ 2) rfl rfl h1 h2 h3 h4 hR)
  |two x y e A B=>
   subst e
   cases k using Each.ec with
   |cons q O=>
    cases O using Each.ec with
    |cons O D=>
     cases D
     obtain⟨t,rfl⟩:=A q
     obtain⟨t',rfl⟩:=B O
     exact call_range_2 (JD M Y (bL _ 1) rfl rfl h1 h2 h3 h4 hR))
end
section
variable{G:Gx}{j:SS}{K:SV->SS->Prop}{x:SV}{t:Addr}
theorem abm{C dx:Addr}{fs:List (Str×SV)}{ci:CI}{f:Addr}(ht:aU t G.T.nF=aa (C,dx,fs))(hc:aU C G.T.cls=aa ci)(hm:lk (af "__contains__") ci.gO=aa f)
 (h:av G (.ref f) [.val (.ref t),x] j λz Y=>gP G z Y K):aG G (compareOp .In) x (.val (.ref t)) j K:=.mk λc ρ s v u a r q=>by
 obtain rfl:=q
 obtain⟨m,⟨ls,ad,l1,l2,g,L,F,N⟩,M⟩:=a.R
 obtain⟨h1,es,k',h2,fr⟩:=a.tk.sin _ (gw ht)
 obtain⟨co,rfl⟩:=a.jC hc
 obtain⟨a1,O,a3,a4,a5,a6,a7⟩:=co.oQ _ (fz hm)
 have st:∀a o,G.D.K.lookup a=aa o->s.heap.get? a=aa o:=λa o e=>F.keep _ _ (L.X a o e)
 refine in_K F L.X (show _root_.PySem.W.InstAt s.heap t (instObj ci.C dx) ci.C (aa (dictOf es k')) from⟨st _ _ h1,rfl,rfl,st _ _ h2⟩) a1 O ?_
 refine wpAny_mono (h.call a (pr _) (.cons rfl (.one r))) (λr s' z=>?_) λB B z=>z
 obtain⟨D,Y,y,p,R,H,k⟩:=z
 exact aC.go (w:=r) k (a.to p R) p H λU V z b s2 p2 A O q2 k2=>⟨U,V,z,p2,O.toRepS,q2.VR,k2⟩
end
noncomputable def Gx.kx (G:Gx) (KE:SS->Prop):Gx:={G with KX:=λz z j=>KE j}
theorem abn{G:Gx}{j:SS}{K:Fl->SS->Prop}{L:List Stmt}{x:Str}{np B f1 p1 p2 p3:Pos}{z:Nat}(hK:∀e ρ os,¬G.KX e ρ os)(hg:lk (af "KeyError") G.cs.names=some .globalImplicit)(D:∀y∈G.cs.names,y.2≠.cell)(hfr:G.fr=ai)
 (u1:nsIn G.D.K mainGlobals (af "KeyError")=aa ah) (g1:lk x G.cs.names=some .local) (KE:SS->Prop) (h:aO (G.kx KE) L j K) (he:∀u,KE u->K .next ⟨(x,.none)::u.loc,u.objs,u.fa⟩):
 bc G (.Try L [.ExceptHandler (aa (.Name (af "KeyError") np)) ah [.Assign [.Name x p1] (.Constant .none z p2) p3] B] [] [] f1) j K:=λc ρ s H a H=>by
 obtain⟨hA,a1⟩:=a.hf hfr
 obtain⟨M,O,ad,cd,d1⟩:=a1 (a.cs▸D)
 refine wpAny_mono (E:=λH H=>False) ?_ (λH H z=>z) λH H z=>z.elim
 refine wpAny_Try_except (wpAny_mono (h c ρ s () ⟨a.toRepS,a.cs,a.ok,a.tk,a.rx,a.cv,a.hf⟩ trivial) (λfl s' q=>?_) λe s' q=>?_)
 ·obtain⟨Y,u,y,p,R,fr,k⟩:=q
  cases y with
  |next=>obtain rfl:=fr;exact wpAny_execs_nil ⟨Y,u,.next,p,R,rfl,k⟩
  |brk=>obtain rfl:=fr;exact⟨Y,u,.brk,p,R,rfl,k⟩
  |cont=>obtain rfl:=fr;exact⟨Y,u,.cont,p,R,rfl,k⟩
  |ret y=>obtain⟨v,rfl,fr⟩:=fr;exact⟨Y,u,.ret y,p,R,⟨v,rfl,fr⟩,k⟩
 ·obtain⟨Y,u,m,p,⟨c1,g,Gh,ls,rfl,x1,hL,e1,R,hu,F,gr,h1,y1,l1⟩,ke⟩:=q
  have A:=a.ok
  have V:c.env.scope.kind=.function:=A.hk.kind
  have o1:=Bj A.hk (a.cs▸hg)
  have i1:=Bj A.hk (a.cs▸g1)
  have C:=A.hk
  obtain⟨cA,U,cb,ch,co,ce,z1,cL,cX,cR⟩:=c
  dsimp only at hA d1 R F gr V o1 i1 C e1⊢
  subst d1
  subst hA
  refine caught_SN0 R F gr.B hu A.XB A.TB gr.D gr.t u1 (by kernel_rfl) (by decide) kr_isExc_KeyError kr_notTuple_KeyError excClass_KeyError.self (λh' g' T' F' N' B' X' TP D'=>?_) V o1 (by decide) (by passes_own)
  refine wpAny_execs_cons (wpAny_Assign_Name (Constant_none ?_) rfl)
  refine G2 (c:=⟨U.deeper (envOf M O cL ad cd),U,cb,ch,co,envOf M O cL ad cd,z1,cL,cX,cR⟩) C F' N' (λh2 F2 N2=>?_) i1
  exact wpAny_execs_nil ⟨Y,⟨(x,.none)::u.loc,u.objs,u.fa⟩,.next,p,⟨⟨_,⟨ls,x1,hL,e1,g',⟨B',X',TP,D',T'⟩,F2,N2⟩,y1.set (n:=x) (x:=.none) rfl⟩,h1.to (eg _),l1⟩,rfl,he _ ke⟩
noncomputable def tk (p:Str) (k:Nat):Str:=⟨(p.cps.toList.take k).toArray⟩
noncomputable def g8 (p:Str):Nat->Option Str:=eT ah λk y=>@az (λz=>Option Str) y (aa (tk p k)) (cU (tk p k) Tb.cG)
noncomputable def mW (p:Str):Option Str:=g8 p (p.length+1)
theorem abo(p:Str):tk p p.length=p:=gj (by show List.take p.length p.cps.toList=_;rw[St.len_list,z9])
theorem Dh{p:Str}{k:Nat}(h:cU (tk p k) Tb.cG=ai):g8 p (k+1)=aa (tk p k):=by
 show@az (λz=>Option Str) _ (aa (tk p k)) (cU (tk p k) Tb.cG)=_
 rw[h]
theorem pH{p:Str}{k:Nat}(h:cU (tk p k) Tb.cG=aj):g8 p (k+1)=g8 p k:=by
 show@az (λz=>Option Str) (g8 p k) _ (cU (tk p k) Tb.cG)=_
 rw[h]
noncomputable def dw (i:Nat):Stmt:=aN Tb.o6.body i
noncomputable abbrev bX (s:Stmt):Expr:=jT s 0
noncomputable abbrev cJ (s:Stmt):List Stmt:=jU s 0
noncomputable abbrev c5 (s:Stmt):List Stmt:=jU s 1
noncomputable abbrev gb (s:Stmt):Pos:=s.pos
noncomputable abbrev yG (s:Stmt):Expr:=jT s 0
noncomputable abbrev raP (s:Stmt):Pos:=s.pos
noncomputable abbrev uU (e:Expr):Pos:=(eU e 0).pos
noncomputable def gf (l:List Expr):Expr:=l.headD (.Constant .none 0 ⟨0,0,0,0⟩)
noncomputable def mX:Stmt:=aN (Cy [dw 1]) 0
theorem abq:Tb.o6.body=[dw 0,dw 1,dw 2]:=by kernel_rfl
theorem abr:dw 0=.If (.Compare (.Name (af "prefix") (cH (mR (bX (dw 0))))) [.In] [.Name (af "self") (cH (yr (bX (dw 0))))] (cH (bX (dw 0)))) (cJ (dw 0)) [] (gb (dw 0)):=by kernel_rfl
theorem abt:dw 1=.For (.Name (af "i") (C8 (dw 1))) (.Call (.Name (af "range") (uU (gY (dw 1)))) [gf (fi (gY (dw 1))),gf (fi (gY (dw 1))).tail] [] (cH (gY (dw 1)))) [mX] [] (C9 (dw 1)):=by kernel_rfl
theorem abu:mX=.If (.Compare (mR (bX mX)) [.In] [.Name (af "self") (cH (yr (bX mX)))] (cH (bX mX))) (cJ mX) [] (gb mX):=by kernel_rfl
theorem abv:dw 2=.Raise (aa (.Call (.Name (af "KeyError") (uU (yG (dw 2)))) [.Name (af "prefix") (cH (gf (fi (yG (dw 2)))))] [] (cH (yG (dw 2))))) ah (raP (dw 2)):=by kernel_rfl
noncomputable abbrev iV (p:Str):List (Str×SV):=[(af "self",.val (.ref 236)),(af "prefix",.ss p)]
noncomputable abbrev rH (p:Str) (i:Int):List (Str×SV):=(af "i",.si i)::iV p
noncomputable abbrev jh (W:Wd):Gx:=gi (WS W) Tb.o6.scope 3 []
noncomputable def yH (G:Gx) (v:List Expr) (y:SS) (K:List SV->SS->Prop):Prop:=(eG (ex 60 G) v y λx z=>.pr (K x z) .tt).t.h
theorem Di{G:Gx}(g:bw G){u:List Expr}{y:SS}{K:List SV->SS->Prop}(h:yH G u y K):dI G u y K:=((eG (ex 60 G) u y λx v=>.pr (K x v) .tt).ok h g).mp λq q z=>z.1
noncomputable def JF (G:Gx) (e:Expr) (y:SS) (K:SV->SS->Prop):Prop:=((ex 60 G).E e y λx z=>.pr (K x z) .tt).t.h
theorem abw{G:Gx}(g:bw G){e:Expr}{y:SS}{K:SV->SS->Prop}(h:JF G e y K):aA G e y K:=(((ex 60 G).E e y λx v=>.pr (K x v) .tt).ok h g).mp λu u z=>z.1
section
variable{W:Wd}(p:Str)(o:OL)(fa:List Fact)
theorem vCt(D:Wd)(cs:b3)(K:SV->SS->Prop)(y:SS):Dd D cs 2 [] 199 [.val (.ref 236),.ss p] y K=(K (.sb (cU p Tb.cG)) ⟨y.loc,y.objs,y.fa⟩/\True):=by kernel_rfl
theorem vLA(K:List SV->SS->Prop):yH (jh W) [gf (fi (gY (dw 1))),gf (fi (gY (dw 1))).tail] ⟨iV p,o,fa⟩ K=(p.length<=sizeLine/\K [.int 1,.si ((p.length:Int)+1)] ⟨iV p,o,fa⟩/\True):=by kernel_rfl
theorem vLE(i:Int)(K:SV->SS->Prop):JF (jh W) (mR (bX mX)) ⟨rH p i,o,fa⟩ K=(p.length<=sizeLine/\K (.ss (dc p ah (aa (-i)))) ⟨rH p i,o,fa⟩/\True):=by kernel_rfl
theorem vLR(i:Int)(K:Fl->SS->Prop):mU (jh W) (cJ mX) ⟨rH p i,o,fa⟩ K=(p.length<=sizeLine/\K (.ret (.ss (dc p ah (aa (-i))))) ⟨rH p i,o,fa⟩/\True):=by kernel_rfl
theorem vL0(K:Fl->SS->Prop):mU (jh W) (cJ (dw 0)) ⟨iV p,o,fa⟩ K=(K (.ret (.ss p)) ⟨iV p,o,fa⟩/\True):=by kernel_rfl
end
section
variable{W:Wd}{p:Str}{o:OL}{fa:List Fact}
theorem yI:bw (jh W):=pB λx z=>by cases z
theorem JG{q:Str}{y:SS}{x:SV}{K:SV->SS->Prop}(z:bT x q)(k:K (.sb (cU q Tb.cG)) y):aG (jh W) (compareOp .In) x (.val (.ref 236)) y K:=
 abm (C:=230) (dx:=235) (fs:=Tb.o8) (ci:=Tb.Cm) (f:=199) (by kernel_rfl) (by kernel_rfl) (by kernel_rfl) (av.conv (xs':=[.val (.ref 236),.ss q]) (λv u r=>by
  cases r using Each.ec with
  |cons r1 r=>cases r using Each.ec with
   |cons r2 r=>exact .cons r1 (.cons (z r2) r)) (yD (n:=2) (cons:=[]) (by decide) (λx z=>Om.nm z) ((vCt q _ _ _ y).mpr ⟨mq (λr=>⟨_,r,rfl⟩) k,trivial⟩)))
theorem abC{K:Fl->SS->Prop}(y:cU p Tb.cG=ai->K (.ret (.ss p)) ⟨iV p,o,fa⟩)(u:cU p Tb.cG=aj->K .next ⟨iV p,o,fa⟩):bc (jh W) (dw 0) ⟨iV p,o,fa⟩ K:=by
 rw[abr]
 refine iS (cmp_T (λz=>rfl) (fS (x:=.ss p) (by kernel_rfl) (by kernel_rfl) (by kernel_rfl) (fS (x:=.val (.ref 236)) (by kernel_rfl) (by kernel_rfl) (by kernel_rfl) (JG (λr=>r) (mq (λr=>⟨_,r,rfl⟩) ⟨λe=>?_,λe=>?_⟩)))))
 ·exact pG yI ((vL0 p o fa K).mpr ⟨y e,trivial⟩)
 ·exact f6 (u e)
theorem JH{i:Nat}(V:i<p.length):dc p ah (aa (-((1:Int)+(i:Nat))))=tk p (p.length-(i+1)):=gj (by
 have:=St.HZ p (i+1) (by exact Om.FI)
 have e:(1:Int)+(i:Nat)=((i+1:Nat):Int):=by exact Om.Rn
 rw[e,this];rfl)
theorem abD(g:p.length<=100000){K:Fl->SS->Prop}(H:∀nm v,g8 p p.length=aa nm->v.objs=o->v.fa=fa->K (.ret (.ss nm)) v)(u:∀v,g8 p p.length=ah->v.objs=o->v.fa=fa->lk (af "prefix") v.loc=aa (.ss p)->K .next v):bc (jh W) (dw 1) ⟨iV p,o,fa⟩ K:=by
 rw[abt]
 have j:p.length<=sizeLine:=by rw[sizeLine_eq];exact Om.QS g
 let J:Src->Nat->Nat->SS->Prop:=λS n i v=>S=rG 1 p.length/\n+i=p.length/\g8 p (p.length-i)=g8 p p.length/\∃L,(∀x y,lk x (iV p)=aa y->lk x L=aa y)/\v=⟨L,o,fa⟩
 refine xJ (λz z z h=>h) (λz z=>rfl) J (λS n i v C=>?_) p.length (JE (by kernel_rfl) (by kernel_rfl) (λt G=>by
  have:(iD [gf (fi (gY (dw 1))),gf (fi (gY (dw 1))).tail]).isSome=true:=by kernel_rfl
  exact((iD _).get this).1 t G) (Di yI ?_))
 ·obtain⟨rfl,m,Y,L,M,rfl⟩:=C
  refine⟨_,rfl,?_⟩
  by_cases V:i<p.length
  ·rw[Df V]
   refine qP (by kernel_rfl) (aC.pre (σ':=⟨rH p (1+(i:Nat)),o,fa⟩) (.of (λx y e=>?_) rfl rfl) ?_)
   ·rw[bW] at e⊢
    by_cases q:x=af "i"
    ·rw[if_pos q] at e⊢;exact e
    ·rw[if_neg q] at e⊢;exact M x y e
   rw[abu]
   obtain⟨k,O⟩:∃k,p.length-i=k+1:=⟨p.length-(i+1),by exact Om.Ro m V⟩
   have U:p.length-(i+1)=k:=by exact Om.Rq m V O
   refine cZ (iS (cmp_T (λz=>rfl) (abw yI ((vLE p o fa _ _).mpr ⟨j,fS (x:=.val (.ref 236)) (by kernel_rfl) (by kernel_rfl) (by kernel_rfl) (JG (q:=tk p k) (by rw[JH V,U];exactλr=>r) (mq (λr=>⟨_,r,rfl⟩) ⟨λe=>?_,λe=>?_⟩)),trivial⟩))))
   ·refine pG yI ((vLR p o fa _ _).mpr ⟨j,?_,trivial⟩)
    rw[JH V,U]
    exact⟨_,rfl,H _ _ (by rw[<-Y,O,Dh e]) rfl rfl⟩
   ·refine f6 (f6 ?_)
    refine⟨n-1,by exact Om.FO m V,rfl,by exact Om.FP m V,by rw[<-Y,O,pH e,U],rH p (1+(i:Nat)),λx y e=>?_,rfl⟩
    rw[bW]
    by_cases q:x=af "i"
    ·have:lk x (iV p)=ah:=by rw[q];kernel_rfl
     rw[this] at e;cases e
    ·rw[if_neg q];exact e
  ·rw[Dg (kL V)]
   have e0:p.length-i=0:=by exact Om.Rr m V
   rw[e0] at Y
   exact⟨_,rfl,u _ Y.symm rfl rfl (M _ _ (by kernel_rfl))⟩
 ·refine(vLA p o fa _).mpr ⟨j,⟨1,(p.length:Int)+1,.two _ _ rfl (λr=>r) (λr=>r),by exact Om.Rt,by exact Om.Ru,by exact Om.Rv g,by exact Om.Rw g,?_⟩,trivial⟩
  rw[show((p.length:Int)+1-1).toNat=p.length by exact Om.Rx g]
  exact⟨rfl,by exact Om.Ry,rfl,_,λz z e=>e,rfl⟩
theorem abE(H:nsIn W.K mainGlobals (af "KeyError")=aa ah){c:Cx}{O:List Addr}{s:Shared}{y:SS}(a:At (jh W) c O y s)(hl:lk (af "prefix") y.loc=aa (.ss p)){Q:Flow->Shared->Prop}:
 wpAny W.M c.A (exec (dw 2) c.env) Q (xB (WS W) (λM Y=>M=y.objs/\Y=y.fa) c O) s:=by
 rw[abv]
 obtain⟨m,⟨ls,ad,l1,l2,g,A,F,N⟩,e1⟩:=a.R
 have hn:lk (af "KeyError") Tb.o6.scope.names=some .globalImplicit:=by kernel_rfl
 have Tr:=A.tr
 refine Raise_new a.ok.hh (Call_ (ahu a.ok.hk.kind (a.kind (G:=jh W) hn) (ahx (v:=.type "KeyError") (by rw[a.ok.hk.eY];exact Tr.g.keeps F.keep) (mg_none_of A.X Tr.g H) (by rw[a.ok.hk.bi];exact Tr.b.keeps F.keep) ((Tr.builtins _ (by decide)).trans (by kernel_rfl)) ?_) (by decide)))
 refine E2 ?_ rfl rfl
 have hp:dI (jh W) [.Name (af "prefix") (cH (gf (fi (yG (dw 2)))))] y λj u=>j=[.ss p]/\u=y:=lg (λh h=>rfl) (fS (x:=.ss p) (by kernel_rfl) (by kernel_rfl) hl (kZ ⟨rfl,rfl⟩))
 refine wpAny_mono (hp c O s _ a trivial) (λvs C z=>?_) λe C ⟨_,_,_,_,_,z⟩=>z.elim
 obtain⟨U,u,xs,k,R,q,rfl,rfl⟩:=z
 obtain⟨⟨B,L',_⟩,L,D⟩:=R
 refine call_exc_raise excClass_KeyError (λh' e V=>⟨C.heap,U,_,_,B,e,k,L',rfl,V,L.to (aH _),D,rfl,rfl⟩) ?_
 rw[<-Each.len q]
 rw[sizeLine_eq];show 1<=_;decide
noncomputable def abF (p:Str) (y:SS) (x:Fl) (z:SS):Prop:=match x with
 |.ret v=>v=.ss p/\mW p=aa p/\z.objs=y.objs/\z.fa=y.fa
 |.next=>cU p Tb.cG=aj/\z=⟨iV p,y.objs,y.fa⟩
 |_=>False
noncomputable def abG (p:Str) (y:SS) (x:Fl) (z:SS):Prop:=z.objs=y.objs/\z.fa=y.fa/\match x with
 |.ret v=>∃nm,v=.ss nm/\g8 p p.length=aa nm
 |.next=>g8 p p.length=ah/\lk (af "prefix") z.loc=aa (.ss p)
 |_=>False
theorem abH{m:Nat}{cs:b3}{KX:Value->List Addr->SS->Prop}{con:List (Addr×Nat×bg)}{sc:List (Nat×Stmt×jW)}{ec:List (Nat×Expr×jX)}{cv:List (Str×Nat)}{fr:Bool}(hn:4<=m)(H:nsIn W.K mainGlobals (af "KeyError")=aa ah)(hz:p.length<=100000){y:SS}{K:SV->SS->Prop}(h1:∀nm,mW p=aa nm->K (.ss nm) ⟨y.loc,y.objs,y.fa⟩)(h2:mW p=ah->∀e g,KX e g ⟨y.loc,y.objs,y.fa⟩):
 av (⟨WS W,Tb.T,m,cs,KX,con,sc,ec,cv,fr⟩:Gx) (.ref 227) [.val (.ref 236),.ss p] y K:=by
 obtain⟨k,rfl⟩:∃k,m=k+1:=⟨m-1,by exact Om.Rz hn⟩
 have i1:3<=k:=by exact Om.RU hn
 have B:mW p=@az (λU=>Option Str) (g8 p p.length) (aa p) (cU p Tb.cG):=by
  show@az (λU=>Option Str) (g8 p p.length) (aa (tk p p.length)) (cU (tk p p.length) Tb.cG)=_
  rw[abo]
 refine Hi (i:=Tb.o6) (n:=k) (by kernel_rfl) rfl (by kernel_rfl) (by kernel_rfl) (λV Y=>V=y.objs/\Y=y.fa/\mW p=ah) (λc ρ s a=>?_) (λV Y e g ⟨O,A,G⟩=>by subst O A;exact h2 G e g)
 rw[abq]
 have eb:j7 Tb.o6 [.val (.ref 236),.ss p]=iV p:=by kernel_rfl
 rw[eb] at a
 have a':At (jh W) c ρ ⟨iV p,y.objs,y.fa⟩ s:=⟨a.toRepS,a.cs,a.ok.less i1,a.tk,a.rx,λx hx=>Om.nm hx,λU=>a.hf rfl⟩
 have no:∀{c' ρ e s},PX (jh W) c' ρ e s->False:=λ⟨_,_,_,_,_,z⟩=>z
 refine wpAny_execs_cons (wpAny_mono (abC (W:=W) (p:=p) (o:=y.objs) (fa:=y.fa) (K:=abF p y) (λe=>⟨rfl,by rw[B,e],rfl,rfl⟩) (λe=>⟨e,rfl⟩) c ρ s () a' trivial) (λf s1 z=>?_) λe s1 z=>(no z).elim)
 obtain⟨M,C,x,L,R1,q,k1⟩:=z
 cases x with
 |brk=>exact k1.elim
 |cont=>exact k1.elim
 |ret v=>
  obtain⟨u,rfl,q⟩:=q
  obtain⟨rfl,e1,e3,D⟩:=k1
  refine⟨M,C,.ret (.ss p),L,R1,⟨u,rfl,q⟩,?_⟩
  show K (.ss p) ⟨y.loc,C.objs,C.fa⟩
  rw[e3,D]
  exact h1 p e1
 |next=>
  obtain rfl:=q
  obtain⟨e1,rfl⟩:=k1
  have el:mW p=g8 p p.length:=by rw[B,e1]
  refine wpAny_execs_cons (wpAny_mono (abD (W:=W) (p:=p) (o:=y.objs) (fa:=y.fa) hz (K:=abG p y) (λnm y1 O A G=>⟨A,G,nm,rfl,O⟩) (λy1 O A G h6=>⟨A,G,O,h6⟩) c M s1 () (a'.to L R1) trivial) (λf s2 z=>?_) λe s2 z=>(no z).elim)
  obtain⟨u1,j,x,p2,R2,q,k2⟩:=z
  cases x with
  |brk=>exact k2.2.2.elim
  |cont=>exact k2.2.2.elim
  |ret v=>
   obtain⟨u,rfl,q⟩:=q
   obtain⟨e3,D,nm,rfl,e2⟩:=k2
   refine⟨u1,j,.ret (.ss nm),L.trans p2,R2,⟨u,rfl,q⟩,?_⟩
   show K (.ss nm) ⟨y.loc,j.objs,j.fa⟩
   rw[e3,D]
   exact h1 nm (by rw[el,e2])
  |next=>
   obtain rfl:=q
   obtain⟨e3,D,e2,e5⟩:=k2
   refine wpAny_execs_cons (wpAny_mono (abE (W:=W) (p:=p) H ((a'.to L R1).to p2 R2) e5 (Q:=λU U=>False)) (λU U z=>z.elim) λe s' z=>?_)
   obtain⟨h,g,V,Y,m',ad,p3,L3,e6,e7,e8,e9,rfl,rfl⟩:=z
   exact⟨h,g,j.objs,j.fa,m',ad,L.trans (p2.trans p3),L3,e6,e7,e8,e9,e3,D,by rw[el,e2]⟩
end
end Ex
namespace Nu
section
open PySem.NumText
noncomputable def dV (c:Nat):Nat:=(digit? c).getD 0
noncomputable def gk (b c:Nat):Bool:=match digit? c with
 |some d=>dW d b
 |none=>aj
noncomputable def uV (b:Nat) (l:List Nat):Nat:=l.foldl (λa c=>a*b+dV c) 0
theorem uX{b c:Nat}(h:gk b c=ai):digit? c=aa (dV c)/\dV c<b/\48<=c/\c≠95:=by
 unfold gk at h
 unfold dV
 cases e:digit? c with
 |none=>rw[e] at h;cases h
 |some d=>
  rw[e] at h
  refine⟨rfl,aB h,?_,λq=>by subst q;cases e⟩
  refine kL λq=>?_
  have:digit? c=none:=by
   unfold digit?
   rw[if_neg,if_neg,if_neg]<;>rw[cD,decide_eq_true_iff,decide_eq_true_iff]<;>intro z
   ·exact absurd (aq z.1 (jR q)) (by decide)
   ·exact absurd (aq z.1 (jR q)) (by decide)
   ·exact absurd z.1 (wH.mpr q)
  rw[this] at e;cases e
variable{b:Nat}{l:List Nat}
theorem abI{c:Nat}(h:gk b c=ai):blank c=false:=blank_of (aq (by decide) (uX h).2.2.1)
theorem JI(h:∀c∈l,gk b c=ai):l.dropWhile blank=l:=by
 cases l with
 |nil=>rfl
 |cons c l=>rw[LX,abI (h c (.head _))];rfl
theorem abJ(h:∀c∈l,gk b c=ai):sign l=(aj,l):=by
 cases l with
 |nil=>rfl
 |cons c l=>
  have:=(uX (h c (.head _))).2.2.1
  exact sign_of (λe=>absurd (e▸this) (by decide)) λe=>absurd (e▸this) (by decide)
set_option tactic.hygienic true in
theorem abK{p:Nat}(z:b=10\/b=16)(h:∀c∈l,gk b c=ai)(e:prefix? l=aa p):p≠b:=by
 rcases z with rfl|rfl
 ·exact prefix_ne_ten e
 ·unfold prefix? at e
  split at e
  ·rename_i c r
   have g:=h c (.tail _ (.head _))
   split at e
   ·rename_i q
    rw[lW,beq_iff_eq,beq_iff_eq] at q
    rcases q with rfl|rfl<;>cases g
   ·split at e
    ·cases e;decide
    ·split at e<;>cases e
     decide
  ·cases e
theorem abL(z:b=10\/b=16)(h:∀c∈l,gk b c=ai):based b l=(b,aj,l):=by
 have y:(b==0)=false:=by rcases z with rfl|rfl<;>rfl
 unfold based
 cases e:prefix? l with
 |none=>show(if(b==0)=ai then _ else _)=_;rw[y];rfl
 |some p=>
  show(if(b==0||b==p)=ai then _ else _)=_
  rw[y,beq_eq_false_iff_ne.mpr (abK z h e).symm];rfl
theorem JJ{z:Array Nat}{q:Bool}{c:Nat}(h:gk b c=ai):Fd b (z,q) c=aa (z.push (dV c),ai):=by
 obtain⟨x,u,_,y⟩:=uX h
 unfold Fd
 rw[if_neg (by rw[beq_iff_eq];exact y),x]
 exact if_pos u
theorem abM:∀(l:List Nat) (y:Array Nat),(∀c∈l,gk b c=ai)->l.foldlM (Fd b) (y,ai)=aa (l.foldl (λa c=>a.push (dV c)) y,ai):=λl=>by
 induction l with
 |nil=>exactλz z=>rfl
 |cons c l p=>
  intro y h
  rw[List.foldlM_cons,JJ (h c (.head _))]
  exact p _ λd q=>h d (.tail _ q)
theorem abN(h:∀c∈l,gk b c=ai)(Y:l≠[]):digits? b l=aa (l.foldl (λa c=>a.push (dV c)) #[]):=by
 cases l with
 |nil=>exact absurd rfl Y
 |cons c l=>
  unfold digits?
  rw[List.foldlM_cons,JJ (h c (.head _))]
  show(l.foldlM (Fd b) ((#[]:Array Nat).push (dV c),ai)).bind _=_
  rw[abM l _ λd q=>h d (.tail _ q)]
  rfl
theorem abO:∀(l:List Nat) (y:Array Nat),(l.foldl (λa c=>a.push (dV c)) y).size=y.size+l.length:=λl=>by
 induction l with
 |nil=>exactλz=>rfl
 |cons c l p=>intro y;rw[E8,p,My,kM,nB,iw 1]
theorem abP:∀(l:List Nat) (y:Array Nat),(l.foldl (λa c=>a.push (dV c)) y).foldl (λa d=>a*b+d) 0=l.foldl (λa c=>a*b+dV c) (y.foldl (λa d=>a*b+d) 0):=λl=>by
 induction l with
 |nil=>exactλz=>rfl
 |cons c l p=>intro y;rw[E8,p,E8,Array.foldl_push]
theorem abQ(v:b=10\/b=16)(h:∀c∈l,gk b c=ai)(Y:l≠[])(x:l.length<=640):(int_private% "readNumeral") 0 b l=(int_private% "Numeral.value") (uV b l:Int):=by
 have y:∀c∈l.reverse,gk b c=true:=λc g=>h c (List.mem_reverse.mp g)
 rw[readNumeral_eq,JI h,abJ h]
 show judge 0 aj (based b l).1 (based b l).2.1 (digits? (based b l).1 ((based b l).2.2.reverse.dropWhile blank).reverse)=_
 rw[abL v h]
 show judge 0 aj b aj (digits? b (l.reverse.dropWhile blank).reverse)=_
 rw[JI y,List.reverse_reverse,abN h Y]
 have z:=abO l #[]
 have M:((b==10)&&decide ((l.foldl (λa c=>a.push (dV c)) (#[]:Array Nat)).size>6000))=false:=by
  rw[z,decide_eq_false,ME]
  show¬6000<0+l.length
  rw[i9]
  exact nC.mpr (aq x (by decide))
 have u:(![2,4,8,16,32].contains b&&(0 !=0)&&decide ((l.foldl (λa c=>a.push (dV c)) (#[]:Array Nat)).size>0))=false:=by
  rw[show((0:Nat) !=0)=aj from rfl,ME,MD]
 unfold judge
 refine(if_neg (by rw[u];exact Mc)).trans ((if_neg (by rw[M];exact Mc)).trans ?_)
 rw[abP l #[]]
 rfl
theorem abR{M:Model}{A:Around}{E:Value->Shared->Prop}{s:Shared}{Q:Value->Shared->Prop}{v:Value}{u:List Nat}{n:Int}
 (z:(u.takeWhile (· !=0)).length<=640) (y:(int_private% "readNumeral") 0 b (u.takeWhile (· !=0))=(int_private% "Numeral.value") n)
 (p:((u.takeWhile (· !=0)).length==u.length)=ai) (h:Q (.int n s.toks) {s with toks:=s.toks+1}):
 wpAny M A ((int_private% "intFromText") v u b) Q E s:=by
 obtain⟨x,g,d,tk,os⟩:=s
 repeat(any_goals(first
  |assumption
  |(with_reducible refine wpAny_ite_true (decide_eq_true z) ?_)
  |(with_reducible refine wpAny_ite_true (decide_eq_true p) ?_)
  |wp_step))
 all_goals(try rw[y])
 all_goals(try dsimp only)
 repeat(any_goals(first
  |assumption
  |(with_reducible refine wpAny_ite_true (decide_eq_true z) ?_)
  |(with_reducible refine wpAny_ite_true (decide_eq_true p) ?_)
  |wp_step))
structure Hid (p:Prop):Prop where
 out:p
set_option maxHeartbeats 4000000 in
theorem abS{x:Str}{u t:Tok}{n:Int}(q:b=10\/b=16)(y:(numSeenOf x).length<=640)(v:(int_private% "readNumeral") 0 b (numSeenOf x)=(int_private% "Numeral.value") n)(p:((numSeenOf x).length==(numTextOf x).length)=ai):
 Gives (Builtin.«int.__new__» ⟨[.type "int",.str x u,.int (b:Int) t],[]⟩) (.int n):=
 .of_wp λM A E s Q h=>by
  obtain⟨m,g,d,tk,os⟩:=s
  have V:=F.conv_sub_int
  have Y:=F.madeHere_int
  have j:typeOf (.str x u)=pure (.type "str"):=rfl
  have z:=Hid.mk (And.intro y (And.intro v p))
  have k:(((b:Int) !=0&&decide ((b:Int)<2))||decide ((b:Int)>36))=false:=by rcases q with rfl|rfl<;>decide
  clear y v p
  repeat(any_goals(first
   |assumption
   |((with_reducible show wpAny _ _ ((int_private% "intFromText") _ _ _) _ _ _);refine abR z.out.1 z.out.2.1 z.out.2.2 ?_)
   |wp_step))
  all_goals first|exact⟨_,rfl,h⟩|skip
end
end Nu
namespace Ex
section
open Nu
theorem abT(a b:Value):checkTypeCall "int" ⟨[a,b],[]⟩=pure ():=by kernel_rfl
theorem abU(a b:Value):checkBuiltinCall "int.__new__" ⟨[.type "int",a,b],[]⟩=pure ():=by kernel_rfl
theorem abV{B:Program}{w:World}{A:Around}{E:Value->Shared->Prop}{s:Shared}{x y:Value}{S:PySem.Spec}{Q:Value->Shared->Prop}(g:Meets (Builtin.«int.__new__» ⟨[.type "int",x,y],[]⟩) S)(h:S A.in1 (wants (λobj z=>z.TypeIs obj "int"/\Q obj z) E) s):wpAny (model B w) A (call (.type "int") [x,y]) Q E s:=
 callType_new F.called_int F.newNe_int (abT x y) (abU x y) (λobj=>F.args_object_init_3 obj x y) F.entry_int_new g h
theorem abW{b c:Nat}(h:gk b c=ai):c<128:=by
 obtain⟨v,_,O,_⟩:=uX h
 refine wm λq=>?_
 have:NumText.digit? c=none:=by
  unfold NumText.digit?
  rw[if_neg,if_neg,if_neg]<;>rw[cD,decide_eq_true_iff,decide_eq_true_iff]<;>intro z<;>exact absurd (aq q z.2) (by decide)
 rw[this] at v;cases v
theorem abX{x:Str}{b:Nat}(h:∀c∈x.cps.toList,gk b c=ai):numTextOf x=x.cps.toList/\numSeenOf x=x.cps.toList:=by
 have z:numTextOf x=x.cps.toList:=if_pos (by
  rw[<-Array.all_toList,bZ]
  exactλc g=>decide_eq_true (abW (h c g)))
 refine⟨z,?_⟩
 show(numTextOf x).takeWhile _=_
 rw[z]
 exact NumText.takeWhile_all λc g=>bne_iff_ne.mpr λe=>by have:=(uX (h c g)).2.2.1;rw[e] at this;exact absurd this (by decide)
section
variable{G:Gx}{m:SS}{K:SV->SS->Prop}{x y:SV}{a:Str}{b:Nat}
theorem abY(U:bT x a)(g:bx y b)(j:b=10\/b=16)(p:∀c∈a.cps.toList,gk b c=ai)(Y:a.cps.toList≠[])(O:a.length<=640)(k:K (.si (uV b a.cps.toList:Nat)) m):bB G (.type "int") [x,y] m K:=.two<|.mk λc H s v u at_ r q=>by
 obtain⟨t,rfl⟩:=U r
 obtain⟨D,rfl⟩:=g q
 obtain⟨L,M⟩:=abX p
 have z:a.cps.toList.length<=640:=O
 exact abV (abS j (by rw[M];exact z) (by rw[M];exact abQ j p Y z) (by rw[L,M];exact beq_self_eq_true _)).meets (show(Made.int _).post _ s from⟨rfl,at_.t1.give (V:=VR G.D) (x:=.si _) (pr _) ⟨_,rfl⟩ k⟩)
theorem abZ{n:Str}{V O:Pos}{T:String}{arg:Expr}{u:List Expr}(hn:lk n G.cs.names=some .globalImplicit)(hg:lk n G.T.eY=aa (.type T))(L:dR (arg::u))
 (h:dI G (arg::u) m λj g=>bB G (.type T) j g K):aA G (.Call (.Name n V) (arg::u) [] O) m K:=λc ρ s z a z=>
 Call_ (aC.go (w:=()) (show aA G (.Name n V) m λx Y=>x=.val (.type T)/\Y=m from kY hn hg ⟨rfl,rfl⟩) a (pr _) trivial λU Y x v D p _ M q ⟨B,hs⟩=>by
  subst B hs
  obtain rfl:=q
  exact E2 (h.go M p trivial λU Y j H D V C M q k=>aC.at (w:=H) k M V q) (L _ (.head _) _ _) (plain_any λt A=>L t (.tail _ A)))
end
end
theorem av.mono{G:Gx}{f:Value}{j:List SV}{y:SS}{K g:SV->SS->Prop}(h:av G f j y K)(k:∀x u,K x u->g x u):av G f j y g:=λc Y s V a r=>
 jE (h c Y s V a r) (λv O ⟨m,u,x,p,R,q,z⟩=>⟨m,u,x,p,R,q,k _ _ z⟩) λU U z=>z
noncomputable def rI (k:Ev):bg:=λv y K=>match v with
 |[x]=>@aY _ (λq=>Tr) .ff (λz=>.pr ((z.1.2.r.ev k=[]->(K .none (pq y z.1.1 ⟨z.1.2.d,lit [],ah⟩ y.fa)).h)/\∀c u,z.1.2.r.ev k=c::u->(K (.ss ⟨#[c]⟩) (pq y z.1.1 ⟨z.1.2.d.map λd=>(nQ d (lit [c])).1,lit u,aa (lit [c])⟩ y.fa)).h) .tt) (nR x y)
 |_=>.ff
set_option tactic.hygienic true in
theorem JK(W:Wd):dm (WS W) (133,4,rI W.η):=λG M O Y V y K h=>by
 have k:(rI W.η V y K).h:=h
 unfold rI at k
 split at k
 ·rename_i x
  cases q:nR x y with
  |none=>rw[q] at k;exact k.elim
  |some z=>
   rw[q] at k
   obtain⟨⟨i,st⟩,e,U⟩:=z
   obtain rfl:x=.obj i:=e
   obtain⟨⟨H,L⟩,_⟩:=k
   refine av.ph (av.mono (yp (W:=W) (K:=λx j=>.pr (∃u m,gz G.D x u/\ay G.D j m/\hh K u m) .tt) M O Y U (λe=>⟨⟨_,_,λp p r=>r,λp p p R=>R,H e⟩,trivial⟩) λc g e=>⟨lit [c],lit g,rfl,rfl,⟨.ss ⟨#[c]⟩,_,λD v ⟨t,e⟩=>⟨t,e⟩,λp p p R=>R,L c g e⟩,trivial⟩) λp p z=>z.1)
 ·exact k.elim
noncomputable def uY:bg:=λv u K=>match v with
 |[x,y]=>@aY _ (λq=>Tr) .ff (λz=>match y with
  |.none=>K .none (rm u z.1.1 z.1.2)
  |.ss a=>match z.1.2.d with
   |ah=>.pr (z.1.2.un=aa (lit a.cps.toList)) (K .none (rm u z.1.1 ⟨ah,cat (lit a.cps.toList) z.1.2.r,ah⟩))
   |some _=>.ff
  |_=>.ff) (nR x u)
 |_=>.ff
set_option tactic.hygienic true in
theorem ab0(W:Wd):dm (WS W) (163,1,uY):=λG v j Y V p K h=>by
 have u:(uY V p K).h:=h
 unfold uY at u
 split at u
 ·rename_i x y
  cases q:nR x p with
  |none=>rw[q] at u;exact u.elim
  |some z=>
   rw[q] at u
   obtain⟨⟨i,st⟩,e,m⟩:=z
   obtain rfl:x=.obj i:=e
   dsimp only at u
   split at u
   ·exact Cu W v j Y (.no i st .none rfl rfl m rfl) u
   ·rename_i a
    split at u
    ·rename_i e
     obtain⟨d,r,un⟩:=st
     cases e
     exact Cu W v j Y (.un i ⟨ah,r,un⟩ (.ss a) (lit a.cps.toList) ah rfl rfl (λr=>r) m u.1 (λk g e=>by cases e) rfl) u.2
    ·exact u.elim
   ·exact u.elim
 ·exact u.elim
noncomputable def rE:Tm:=tg (tv 8)
noncomputable def rN:Nat->Tm:=eT rE λz t=>tg t
noncomputable def hN (i:Nat):Tm:=s9 (rN i)
noncomputable def ck:List (Str×SV):=[(af "stream",.obj 1),(af "parser",.none),(af "escapeFlag",.bool aj),(af "lastFourChars",.obj 4)]
noncomputable def cK:List (Str×SV):=[(af "escape",.bool aj),(af "currentToken",.obj 2),(af "tokenQueue",.obj 3)]
noncomputable def lE (v:Value):SO:=.inst 762 (ck++(af "state",.val v)::cK)
end Ex
namespace Lw
section
open Ex
noncomputable def JL (o:SO):Option {z:List (Str×SV)//o=.dict z}:=match o with
 |.dict z=>aa ⟨z,rfl⟩
 |_=>ah
end
end Lw
namespace Ex
noncomputable def Jm (js:List Nat) (y z:List Addr):Prop:=∀a b q,at? js a=aa b->y[b]? =aa q->z[a]? =aa q
noncomputable def MV (W0:Wd) (Y:List Fact) (js:List Nat) (u x:SV):Prop:=∀{y z:List Addr} {v:Value},aT W0.η Y->Jm js y z->VR (WS W0) y x v->VR (WS W0) z u v
noncomputable abbrev OP (P:Prop):=Option (PLift P)
noncomputable def ab1 (o:Option Nat) (b:Nat):OP (o=aa b):=@aY Nat (λo=>OP (o=aa b)) ah (λa=>(aV (aQ a b)).map λh=>⟨by rw[bJ h.1]⟩) o
noncomputable def JM (Y:List Fact) (a b:Tm):OP (∀k,aT k Y->a.ev k=b.ev k):=gQ ((aV (dj a b)).map λh=>⟨λk z=>by rw[fh h.1]⟩)
 (gQ (au (aV (@aY Bool (λz=>Bool) aj id (asks 2 [] a b Y))) λh=>aa ⟨λk ok=>by
   have y:=h.1
   cases e:asks 2 [] a b Y with
   |none=>rw[e] at y;cases y
   |some v=>
    rw[e] at y
    obtain rfl:v=true:=y
    exact of_decide_eq_true (mj e ok)⟩)
   (au (aV (@aY Bool (λz=>Bool) aj id (asks 2 [] b a Y))) λh=>aa ⟨λk ok=>by
     have y:=h.1
     cases e:asks 2 [] b a Y with
     |none=>rw[e] at y;cases y
     |some v=>
      rw[e] at y
      obtain rfl:v=true:=y
      exact(of_decide_eq_true (mj e ok)).symm⟩))
noncomputable def ab2 (x:SV):Option {i:Int//x=.int i}:=match x with
 |.int i=>aa ⟨i,rfl⟩
 |_=>ah
noncomputable def imE (x:SV):Option {z:Nat×Tm//x=.im z.1 z.2}:=match x with
 |.im k t=>aa ⟨(k,t),rfl⟩
 |_=>ah
noncomputable def bmE (x:SV):Option {z:(Nat×List Nat)×Tm×Tm//x=.bm z.1.1 z.1.2 z.2.1 z.2.2}:=match x with
 |.bm k l a b=>aa ⟨((k,l),a,b),rfl⟩
 |_=>ah
noncomputable def ab5 (x:SV):Option {b:Bool//x=.bool b}:=match x with
 |.bool b=>aa ⟨b,rfl⟩
 |_=>ah
noncomputable def mV (W0:Wd) (Y:List Fact) (js:List Nat) (m x:SV):OP (MV W0 Y js m x):=match m with
 |.none=>(yd x).map λh=>⟨λy y r=>by rw[h.1] at r;exact r⟩
 |.bool b=>au (ab5 x) λc=>match b,c with
  |true,⟨ai,h⟩=>aa ⟨λy y r=>by rw[h] at r;exact r⟩
  |false,⟨aj,h⟩=>aa ⟨λy y r=>by rw[h] at r;exact r⟩
  |_,_=>ah
 |.str i=>au (bD x) λj=>(aV (seq i j.1)).map λh=>⟨λy y r=>by
   obtain⟨t,e⟩:=j.2 r
   exact⟨t,e.trans (by rw[b9.mp h.1])⟩⟩
 |.int i=>au (ab2 x) λj=>(aV (decide (i=j.1))).map λh=>⟨λy y r=>by rw[j.2,<-of_decide_eq_true h.1] at r;exact r⟩
 |.obj a=>au (iB x) λb=>(ab1 (at? js a) b.1).map λh=>⟨λy J r=>by
   rw[b.2] at r
   obtain⟨q,v,e⟩:=r
   exact⟨q,J _ _ _ h.1 v,e⟩⟩
 |.tm t=>au (fC x) λg=>(JM Y t g.1).map λh=>⟨λ{_ _ _} ok _ r=>by
   obtain⟨u,e⟩:=g.2 r
   exact⟨u,by rw[h.1 W0.η ok];exact e⟩⟩
 |.im k t=>au (imE x) λz=>au (aV (aQ k z.1.1)) λv=>(aV (dj t z.1.2)).map λp=>⟨λy y r=>by rw[z.2,<-bJ v.1,<-fh p.1] at r;exact r⟩
 |.bm k l a b=>au (bmE x) λz=>au (aV (aQ k z.1.1.1)) λv=>au (aV (sS l z.1.1.2)) λp=>au (aV (dj a z.1.2.1)) λO=>(aV (dj b z.1.2.2)).map λV=>⟨λy y r=>by rw[z.2,<-bJ v.1,<-ET.mp p.1,<-fh O.1,<-fh V.1] at r;exact r⟩
 |_=>ah
noncomputable def allM {H z:Type} (R:H->z->Prop) (f:∀a b,OP (R a b)):∀(v:List H) (j:List z),OP (Each R v j):=@bE H (λv=>∀j:List z,OP (Each R v j)) (λj=>match j with
 |[]=>aa ⟨.nil⟩
 |_::_=>ah)
 λx v p j=>match j with
  |[]=>ah
  |y::j=>au (f x y) λh=>(p j).map λq=>⟨.cons h.1 q.1⟩
theorem Each.comp{H y z:Type}{R:H->y->Prop}{Q:y->z->Prop}{P:H->z->Prop}(k:∀a b c,R a b->Q b c->P a c){v:List H}{j:List y}{x:List z}(h:Each R v j)(q:Each Q j x):Each P v x:=by
 induction h generalizing x with
 |nil=>cases q;exact .nil
 |cons a _ p=>cases q using Each.ec with|cons b t=>exact .cons (k _ _ _ a b) (p t)
structure MF (W0:Wd) (Y:List Fact) (js:List Nat) (p' p:Str×SV):Prop where
 n:p'.1=p.1
 v:MV W0 Y js p'.2 p.2
noncomputable def mF (W0:Wd) (Y:List Fact) (js:List Nat) (k p:Str×SV):OP (MF W0 Y js k p):=au (aV (seq k.1 p.1)) λh=>(mV W0 Y js k.2 p.2).map λq=>⟨⟨b9.mp h.1,q.1⟩⟩
noncomputable def MO (W0:Wd) (Y:List Fact) (js:List Nat) (O o:SO):Prop:=∀{X:List (Addr×Obj)} {y z:List Addr} {a:Addr} {l:List (Addr×Obj)},aT W0.η Y->Jm js y z->OR (WS W0) X y a o l->∃x,OR (WS W0) X z a O x/\x.Sublist l
section
variable{W0:Wd}{Y:List Fact}{js:List Nat}
theorem MO.gone{o:SO}:MO W0 Y js .gone o:=λz z z=>⟨[],rfl,List.nil_sublist _⟩
theorem MO.inst{C:Addr}{fs' fs:List (Str×SV)}(h:Each (MF W0 Y js) fs' fs):MO W0 Y js (.inst C fs') (.inst C fs):=λ{X v z a l} ok J r=>by
 obtain⟨x,y,n,e,f⟩:=r
 exact⟨l,⟨x,y,n,e,Each.comp (λk p q m r=>⟨by rw[m.n];exact r.key,by rw[m.n];exact r.hash,m.v ok J r.val⟩) h f⟩,fY _⟩
theorem MO.dict{fs' fs:List (Str×SV)}(h:Each (MF W0 Y js) fs' fs):MO W0 Y js (.dict fs') (.dict fs):=λ{X x y a l} ok J r=>by
 obtain⟨o,z,e,q,f⟩:=r
 exact⟨l,⟨o,z,e,q,Each.comp (λk p q m r=>⟨by rw[m.n];exact r.k,m.v ok J r.v⟩) h f⟩,fY _⟩
theorem MO.list{z y:List SV}(h:Each (MV W0 Y js) z y):MO W0 Y js (.list ah z) (.list ah y):=λ{X j x a l} ok J r=>by
 obtain⟨U,u,n,e,q,f⟩:=r
 exact⟨l,⟨U,u,n,e,q,Each.comp (λk p q m r=>m ok J r) h f⟩,fY _⟩
theorem MO.tup{z xs:List SV}(h:Each (MV W0 Y js) z xs):MO W0 Y js (.tup z) (.tup xs):=λ{X v y a l} ok J r=>by
 obtain⟨x,n,e,f⟩:=r
 exact⟨l,⟨x,n,e,Each.comp (λk p q m r=>m ok J r) h f⟩,fY _⟩
theorem MO.aI{f:Addr}{u x:SV}(h:MV W0 Y js u x):MO W0 Y js (.aI f u) (.aI f x):=λ{X y z a l} ok J r=>by
 obtain⟨v,e,q⟩:=r
 exact⟨l,⟨v,e,h ok J q⟩,fY _⟩
theorem MO.strm{st:bQ}{r':Tm}(h:∀k,aT k Y->r'.ev k=st.r.ev k):MO W0 Y js (.blob (.strm ⟨ah,r',ah⟩)) (.blob (.strm st)):=λ{X H v a l} ok J r=>by
 obtain⟨y,V,L,e,m,O,u,x,q,j,z,D,M,U,I⟩:=r
 refine⟨l,⟨y,V,L,e,m,O,u,x,q,j,z,D,M,U,⟨I.hoff,?_,λg p=>Om.ns p,I.hp,I.hz,I.hch,I.hen,I.jc,λl e=>Om.ns e,I.hno⟩⟩,fY _⟩
 show r'.ev W0.η=_
 rw[h W0.η ok];exact I.hr
end
noncomputable def ab6 (o:SO):Option {z:Addr×SV//o=.aI z.1 z.2}:=match o with
 |.aI f x=>aa ⟨(f,x),rfl⟩
 |_=>ah
noncomputable def JN (b:fR):Option {r:Tm//b=.strm ⟨ah,r,ah⟩}:=match b with
 |.strm st=>match st with
  |⟨d,r,u⟩=>match d with
   |none=>match u with
    |none=>aa ⟨r,rfl⟩
    |some _=>ah
   |some _=>ah
 |.other _=>ah
noncomputable def mO (W0:Wd) (Y:List Fact) (js:List Nat) (O o:SO):OP (MO W0 Y js O o):=match O with
 |.gone=>aa ⟨MO.gone⟩
 |.inst C v=>au (A9 o) λz=>au (aV (aQ C z.1.1)) λh=>(allM _ (mF W0 Y js) v z.1.2).map λq=>⟨by rw[z.2,<-bJ h.1];exact MO.inst q.1⟩
 |.dict v=>au (Lw.JL o) λz=>(allM _ (mF W0 Y js) v z.1).map λq=>⟨by rw[z.2];exact MO.dict q.1⟩
 |.list p y=>au (gg p) λk=>au (gy o) λz=>au (gg z.1.1) λm=>(allM _ (mV W0 Y js) y z.1.2).map λq=>⟨by rw[z.2,k.1,m.1];exact MO.list q.1⟩
 |.tup y=>au (tN o) λz=>(allM _ (mV W0 Y js) y z.1).map λq=>⟨by rw[z.2];exact MO.tup q.1⟩
 |.aI f u=>au (ab6 o) λz=>au (aV (aQ f z.1.1)) λh=>(mV W0 Y js u z.1.2).map λq=>⟨by rw[z.2,<-bJ h.1];exact MO.aI q.1⟩
 |.blob j=>au (JN j) λx=>au (rj o) λst=>(JM Y x.1 st.1.r).map λq=>⟨by rw[x.2,st.2];exact MO.strm q.1⟩
 |_=>ah
noncomputable def MJ (W0:Wd) (Y:List Fact) (js:List Nat) (y:SS) (O:SO) (j:Nat):Prop:=∃o,y.objs.list[j]? =aa o/\MO W0 Y js O o
noncomputable def ML (W0:Wd) (Y:List Fact) (js:List Nat) (y:SS) (p:Str×SV):Prop:=∃x,lk p.1 y.loc=aa x/\MV W0 Y js p.2 x
noncomputable def yJ:List Nat->Bool:=bE ai λj js p=>@az (λz=>Bool) p aj (aL j js)
theorem ab7{js:List Nat}(h:yJ js=ai):js.Nodup:=by
 induction js with
 |nil=>exact wu
 |cons j js p=>
  have y:@az (λz=>Bool) (yJ js) aj (aL j js)=true:=h
  cases e:aL j js with
  |true=>rw[e] at y;cases y
  |false=>
   rw[e] at y
   refine ef.mpr ⟨λm=>?_,p y⟩
   clear h y p
   induction js with
   |nil=>cases m
   |cons k js p=>
    rw[kW,LU] at e
    rcases b7.mp m with rfl|m
    ·rw[sX] at e;cases e.1
    ·exact p e.2 m
theorem ab8{W0:Wd}{Y:List Fact}{js:List Nat}{y:SS}{X:List (Addr×Obj)}{j ρ':List Addr}{V:List Cl}(ok:aT W0.η Y)(J:Jm js j ρ')(C:LR (WS W0) X j y.objs.list V):∀{z:List SO} {m:List Nat},Each (MJ W0 Y js y) z m->
 ∃B,LR (WS W0) X ρ' z B/\Each (λk (v:Cl)=>∃q,V[k]? =aa q/\v.1=q.1/\v.2.Sublist q.2) m B:=@λz m h=>by
 induction h with
 |nil=>exact⟨[],.nil,.nil⟩
 |cons a _ p=>
  obtain⟨B,x,u⟩:=p
  obtain⟨o,L,H⟩:=a
  obtain⟨q,g,r⟩:=Each.get C L
  obtain⟨U,M,O⟩:=H ok J r
  exact⟨(q.1,U)::B,.cons M x,.cons ⟨q,g,rfl,O⟩ u⟩
theorem JO{js:List Nat}{ρ:List Addr}:Jm js ρ (js.map λj=>ρ.getD j 0):=λa b q x u=>by
 rw[qA] at x
 rw[sQ,x]
 show aa (ρ.getD b 0)=_
 rw[sM,u];rfl
theorem RepS.Dj{W0:Wd}{c:Cx}{L:List Addr}{G:SS}{s:Shared}{js:List Nat}{objs':List SO}{loc':List (Str×SV)}{fa':List Fact}(R:RepS (WS W0) c L G s)(h:Each (MJ W0 G.fa js G) objs' js)(hl:∀p∈loc',ML W0 G.fa js G p)(nd:js.Nodup)(d1:aT W0.η fa'):RepS (WS W0) c (js.map λj=>L.getD j 0) ⟨loc',.b objs',fa'⟩ s:=by
 obtain⟨⟨m,⟨ls,ad,l1,l2,g,gr,F,N⟩,y1⟩,tp,Y⟩:=R
 have J:=JO (js:=js) (ρ:=L)
 obtain⟨B,h1,u⟩:=ab8 (W0:=W0) (ρ':=js.map λj=>L.getD j 0) Y J l1 h
 have e1:B.map aS=js.map λj=>L.getD j 0:=by
  have:∀{ks:List Nat} {B:List Cl},Each (λk (H:Cl)=>∃z,ls[k]? =aa z/\H.1=z.1/\H.2.Sublist z.2) ks B->B.map aS=ks.map λj=>L.getD j 0:=@λks B h=>by
   induction h with
   |nil=>rfl
   |cons a _ ih=>
    obtain⟨z,hc,e,_⟩:=a
    rw[gq,gq,ih,e]
    congr 1
    rw[sM,<-ad,sQ,hc];rfl
  exact this u
 have D:∀p∈flat B,p∈flat ls:=λp M=>by
  obtain⟨H,hcl,M⟩:=Mn.mp M
  obtain⟨i,V⟩:=EW hcl
  have u1:=Each.len u
  have U:i<js.length:=by rw[u1];exact(dh.mp V).1
  obtain⟨W1,O,z,hc,_,hs⟩:=Each.get u (ig U)
  rw[V] at O
  cases O
  exact Mn.mpr ⟨z,lV hc,hs.subset M⟩
 rw[dH] at l2
 obtain⟨n1,n2,n3⟩:=E4.mp l2
 have nf:∀l:List Cl,(flat l).map aS=l.flatMap λH=>H.2.map aS:=λl=>by rw[flat,List.map_flatMap]
 rw[nf] at n1
 obtain⟨p1,p2⟩:=ahH.mp n1
 have f1:((flat B).map aS).Nodup:=by
  rw[nf]
  refine ahH.mpr ⟨λH hcl=>?_,LF.mpr λi j V hj m1 x hx y hy=>?_⟩
  ·obtain⟨i,V⟩:=EW hcl
   have U:i<js.length:=by rw[Each.len u];exact(dh.mp V).1
   obtain⟨W1,O,z,hc,_,hs⟩:=Each.get u (ig U)
   rw[V] at O
   cases O
   exact List.Pairwise.sublist (hs.map _) (p1 z (lV hc))
  ·have U:i<js.length:=by rw[Each.len u];exact V
   have i1:j<js.length:=by rw[Each.len u];exact hj
   obtain⟨ci,a1,c0,h0,_,z1⟩:=Each.get u (ig U)
   obtain⟨cj,o1,c1,Q1,_,g1⟩:=Each.get u (ig i1)
   rw[ig V] at a1
   rw[ig hj] at o1
   cases a1;cases o1
   have A:=(z1.map aS).subset hx
   have C:=(g1.map aS).subset hy
   have x1:js[i]≠js[j]:=LF.mp nd i j U i1 m1
   obtain⟨b0,e0⟩:=dh.mp h0
   obtain⟨b1,e1⟩:=dh.mp Q1
   have pw:=LF.mp p2
   rcases Nat.lt_or_gt_of_ne x1 with q|q
   ·exact pw _ _ b0 b1 q x (e0▸A) y (e1▸C)
   ·exactλe=>pw _ _ b1 b0 q y (e1▸C) x (e0▸A) e.symm
 refine⟨⟨m,⟨B,e1,h1,?_,g,gr,F,λp M=>N p ((jP.mp M).elim (λh=>wg _ (D p h)) (bV _))⟩,λx y' hx=>?_⟩,tp,d1⟩
 ·rw[dH]
  refine E4.mpr ⟨f1,n2,λa ha b hb=>n3 a ?_ b hb⟩
  obtain⟨p,M,rfl⟩:=fK.mp ha
  exact EY (D p M)
 ·obtain⟨x0,h3,h4⟩:=hl (x,y') (fz hx)
  obtain⟨v,h5,h6⟩:=y1 x x0 h3
  exact⟨v,h5,h4 Y J h6⟩
theorem RepS.pick{W0:Wd}{c:Cx}{u:List Addr}{y:SS}{s:Shared}{js:List Nat}{objs':List SO}{loc':List (Str×SV)}{z:List Fact}(R:RepS (WS W0) c u y s)(h:Each (MJ W0 y.fa js y) objs' js)(m:∀p∈loc',ML W0 y.fa js y p)(q:js.Nodup)(v:aT W0.η z):∃x,RepS (WS W0) c x ⟨loc',.b objs',z⟩ s:=⟨_,R.Dj h m q v⟩
section
open Nu
variable{U:Value}
theorem bM{H:Type}{P:H->Prop}{a:H}{l:List H}(h:P a)(q:∀p∈l,P p):∀p∈a::l,P p:=λp z=>(b7.mp z).elim (λe=>e▸h) (q p)
theorem jH{H:Type}{P:H->Prop}:∀p∈([]:List H),P p:=λp z=>Om.nm z
noncomputable def bC (i:Nat):Stmt:=aN Tb.q9.body i
noncomputable abbrev fG (W:Wd):Gx:=gi (WS W) Tb.q9.scope 4 [(133,4,rI W.η),(163,1,uY)]
theorem rJ(W:Wd):bw (fG W):=⟨λx q O g j k m y K z=>bM (P:=dm (WS W)) (JK W) (bM (ab0 W) jH) x q O g j k m y K z,pe W,λx q=>Om.nm q,λx q=>Om.nm q,λp p p h=>h⟩
noncomputable abbrev bh (U:Value) (st:bQ) (n V:Nat) (Y:List Str) (X:List SO):List SO:=lE U::.blob (.strm st)::.gone::.aJ n V Y []::.gone::.gone::.gone::.gone::X
noncomputable abbrev uZ (h:Bool):List (Str×SV):=[(af "self",.obj 0),(af "isHex",.bool h)]
noncomputable abbrev c8 (t b:Nat) (o:List (Str×SV)):List (Str×SV):=o++[(af "charStack",.obj 8),(af "radix",.int b),(af "allowed",.val (.ref t)),(af "self",.obj 0)]
section
variable(W:Wd)(L:List Nat)(u:Option Tm)(n V:Nat)(Y:List Str)(v:List Fact)
theorem ab9(K:Fl->SS->Prop):mU (fG W) [bC 0,bC 1,bC 2,bC 3] ⟨uZ ai,.b (bh U ⟨ah,lit L,u⟩ n V Y []),v⟩ K=(K .next ⟨(af "charStack",.obj 8)::(af "radix",.int 16)::(af "allowed",.val (.ref 37))::(af "radix",.int 10)::(af "allowed",.val (.ref 32))::uZ ai,.a (.b (bh U ⟨ah,lit L,u⟩ n V Y [])) (.list ah []),v⟩/\True):=by kernel_rfl
theorem acd(K:Fl->SS->Prop):mU (fG W) [bC 0,bC 1,bC 2,bC 3] ⟨uZ aj,.b (bh U ⟨ah,lit L,u⟩ n V Y []),v⟩ K=(K .next ⟨(af "charStack",.obj 8)::(af "radix",.int 10)::(af "allowed",.val (.ref 32))::uZ aj,.a (.b (bh U ⟨ah,lit L,u⟩ n V Y [])) (.list ah []),v⟩/\True):=by kernel_rfl
theorem vN4(K:Fl->SS->Prop)(t b:Nat)(o:SO):nT (fG W) (bC 4) ⟨c8 t b [],.b (bh U ⟨ah,lit L,u⟩ n V Y [o]),v⟩ K=
 (((L=[]->(K .next ⟨c8 t b [(af "c",.none)],.s (.b (bh U ⟨ah,lit L,u⟩ n V Y [o])) 1 (.blob (.strm ⟨ah,lit [],ah⟩)),v⟩/\True))/\
   ∀c z,L=c::z->(K .next ⟨c8 t b [(af "c",.ss ⟨#[c]⟩)],.s (.b (bh U ⟨ah,lit L,u⟩ n V Y [o])) 1 (.blob (.strm ⟨ah,lit z,aa (lit [c])⟩)),v⟩/\True))/\True):=by kernel_rfl
noncomputable def dgS (z:List SV):List Str:=match xq z with
 |some f=>f.1.s
 |none=>[]
noncomputable def iF (t:Nat):List Str:=dgS (bif aQ t 37 then Tb.IS else Tb.IQ)
noncomputable abbrev u0:Expr:=jT (bC 5) 0
noncomputable abbrev Dk:List Stmt:=jU (bC 5) 0
noncomputable abbrev dz (G:Gx) (e:Expr) (y:SS) (K:SV->SS->Prop):Prop:=((ex 60 G).T e y λx z=>.pr (K x z) .tt).t.h
theorem acg(K:SV->SS->Prop)(b d:Nat)(os:OL):dz (fG W) u0 ⟨c8 37 b [(af "c",.ss ⟨#[d]⟩)],os,v⟩ K=((has ⟨#[d]⟩ (iF 37)=ai->(K (.bool ai) ⟨c8 37 b [(af "c",.ss ⟨#[d]⟩)],os,v⟩/\True))/\(has ⟨#[d]⟩ (iF 37)=aj->(K (.bool aj) ⟨c8 37 b [(af "c",.ss ⟨#[d]⟩)],os,v⟩/\True))):=by kernel_rfl
theorem ach(K:SV->SS->Prop)(b d:Nat)(os:OL):dz (fG W) u0 ⟨c8 32 b [(af "c",.ss ⟨#[d]⟩)],os,v⟩ K=((has ⟨#[d]⟩ (iF 32)=ai->(K (.bool ai) ⟨c8 32 b [(af "c",.ss ⟨#[d]⟩)],os,v⟩/\True))/\(has ⟨#[d]⟩ (iF 32)=aj->(K (.bool aj) ⟨c8 32 b [(af "c",.ss ⟨#[d]⟩)],os,v⟩/\True))):=by kernel_rfl
theorem aci(K:SV->SS->Prop)(b:Nat)(os:OL):dz (fG W) u0 ⟨c8 37 b [(af "c",.none)],os,v⟩ K=(K (.bool aj) ⟨c8 37 b [(af "c",.none)],os,v⟩/\True):=by kernel_rfl
theorem acj(K:SV->SS->Prop)(b:Nat)(os:OL):dz (fG W) u0 ⟨c8 32 b [(af "c",.none)],os,v⟩ K=(K (.bool aj) ⟨c8 32 b [(af "c",.none)],os,v⟩/\True):=by kernel_rfl
theorem vNB(K:Fl->SS->Prop)(t b d:Nat)(cs:List Nat):mU (fG W) Dk ⟨c8 t b [(af "c",.ss ⟨#[d]⟩)],.b (bh U ⟨ah,lit L,u⟩ n V Y [.list (aa (.dO cs)) []]),v⟩ K=
 ((∀z,lZ (.dO cs) z->z.length+0<=16777216)/\((L=[]->(K .next ⟨(af "c",.none)::c8 t b [(af "c",.ss ⟨#[d]⟩)],.s (.s (.b (bh U ⟨ah,lit L,u⟩ n V Y [.list (aa (.dO cs)) []])) 8 (.list (aa (.dO cs)) [.ss ⟨#[d]⟩])) 1 (.blob (.strm ⟨ah,lit [],ah⟩)),v⟩/\True))/\
   ∀c y,L=c::y->(K .next ⟨(af "c",.ss ⟨#[c]⟩)::c8 t b [(af "c",.ss ⟨#[d]⟩)],.s (.s (.b (bh U ⟨ah,lit L,u⟩ n V Y [.list (aa (.dO cs)) []])) 8 (.list (aa (.dO cs)) [.ss ⟨#[d]⟩])) 1 (.blob (.strm ⟨ah,lit y,aa (lit [c])⟩)),v⟩/\True))/\True):=by kernel_rfl
end
theorem lF{G:Gx}(g:bw G){e:Expr}{y:SS}{K:SV->SS->Prop}(h:dz G e y K):bS G e y K:=(((ex 60 G).T e y _).ok h g).mp λx x z=>z.1
theorem nu5:bC 5=.While u0 Dk [] (bC 5).pos:=by kernel_rfl
noncomputable def cS (o:Option Nat):SV:=@aY Nat (λz=>SV) .none (λd=>.ss ⟨#[d]⟩) o
noncomputable abbrev mY (U:Value) (t b:Nat) (l:List Nat) (j n V:Nat) (Y:List Str) (v:List Fact):SS:=⟨c8 t b [(af "c",cS l[j]?)],.b (bh U ⟨ah,lit (l.drop (j+1)),(l[j]?).map λd=>lit [d]⟩ n V Y [.list (aa (.dO (l.take j))) []]),v⟩
theorem ay.dO{D:Wd}{z:List (Str×SV)}{os:List SO}{cs:List Nat}{d:Nat}{v:List Fact}:ay D ⟨z,.b (os++[.list (aa (.dO cs)) [.ss ⟨#[d]⟩]]),v⟩ ⟨z,.b (os++[.list (aa (.dO (cs++[d]))) []]),v⟩:=ay.last λX x a l r=>by
 obtain⟨y,p,k,e,q,f⟩:=r
 cases f using Each.ec with
 |cons h f=>
  cases f
  obtain⟨t,rfl⟩:=h
  refine⟨y++[.str ⟨#[d]⟩ t],[],k,by rw[cO];exact e,?_,.nil⟩
  show StrsAre _ ((cs++[d]).map _)
  rw[dH]
  exact pC q (.cons _ _ .nil)
inductive yK (U:Value) (t b:Nat) (l:List Nat) (n V:Nat) (Y:List Str) (v:List Fact) (m:Nat) (σ:SS):Prop
 |mk (j:Nat) (h:j<=l.length) (e:m=l.length-j) (d:∀c∈l.take j,has ⟨#[c]⟩ (iF t)=ai) (es:σ=mY U t b l j n V Y v)
inductive JP (D:Wd) (J:SS->Prop) (σ':SS):Prop
 |mk (σ'':SS) (l:ay D σ' σ'') (j:J σ'')
theorem ay.dup{D:Wd}{n:Str}{x y:SV}{q:List (Str×SV)}{os p:OL}{v:List Fact}(k:p.list=os.list:=by rfl):ay D ⟨(n,x)::(n,y)::q,os,v⟩ ⟨(n,x)::q,p,v⟩:=.of (λz w e=>by
 have m:lk z ((n,x)::q)=aa w:=e
 show lk z ((n,x)::(n,y)::q)=_
 rw[bW] at m⊢
 by_cases h:z=n
 ·rw[if_pos h] at m⊢;exact m
 ·rw[if_neg h] at m⊢;rw[bW,if_neg h];exact m) k rfl
theorem acn{W:Wd}{t b:Nat}(ht:t=37\/t=32){l:List Nat}(hl:l.length<=100000){n V:Nat}{Y:List Str}{v:List Fact}{K:Fl->SS->Prop}
 (k:∀j,j<=l.length->(∀c∈l.take j,has ⟨#[c]⟩ (iF t)=ai)->(∀d,l[j]? =aa d->has ⟨#[d]⟩ (iF t)=aj)->K .next (mY U t b l j n V Y v)):bc (fG W) (bC 5) (mY U t b l 0 n V Y v) K:=by
 rw[nu5]
 refine qX (λqq qq qq h=>h) (yK U t b l n V Y v) (λm σ hJ=>?_) l.length ⟨0,bP _,rfl,λc g=>(by cases g),rfl⟩
 obtain⟨j,hj,rfl,q,rfl⟩:=hJ
 refine lF (rJ W) ?_
 cases e:l[j]? with
 |none=>
  have C:=k j hj q λd h=>by rw[e] at h;cases h
  unfold mY at C⊢
  rw[e] at C⊢
  rcases ht with rfl|rfl
  ·show dz _ _ ⟨c8 37 b [(af "c",.none)],_,v⟩ _
   rw[aci];exact⟨C,trivial⟩
  ·show dz _ _ ⟨c8 32 b [(af "c",.none)],_,v⟩ _
   rw[acj];exact⟨C,trivial⟩
 |some d=>
  have z:j<l.length:=(dh.mp e).1
  have G:l.take (j+1)=l.take j++[d]:=by rw[wj,e];rfl
  have p:has ⟨#[d]⟩ (iF t)=ai->aO (fG W) Dk ⟨c8 t b [(af "c",.ss ⟨#[d]⟩)],.b (bh U ⟨ah,lit (l.drop (j+1)),aa (lit [d])⟩ n V Y [.list (aa (.dO (l.take j))) []]),v⟩ (jd K λO=>∃n',n'<l.length-j/\yK U t b l n V Y v n' O):=λhh=>by
   have A:∀c∈l.take (j+1),has ⟨#[c]⟩ (iF t)=true:=by
    rw[G]
    exactλc g=>(jP.mp g).elim (q c) λh=>by rw[d8.mp h];exact hh
   refine aC.ent (pG (rJ W) (K:=λfl H=>fl=.next/\JP (WS W) (yK U t b l n V Y v (l.length-(j+1))) H) ?_) ?_
   ·rw[vNB]
    have hb:∀D,lZ (.dO (l.take j)) D->D.length+0<=16777216:=λD h=>by
     have h':StrsAre D ((l.take j).map λc=>⟨#[c]⟩):=h
     rw[nN h',i8,nq]
     exact aq (Ml _ _) (aq hl (by decide))
    have fin:∀(x:SV) (r:Tm) (un:Option Tm),cS l[j+1]? =x->lit (l.drop (j+1+1))=r->((l[j+1]?).map λd=>lit [d])=un->JP (WS W) (yK U t b l n V Y v (l.length-(j+1))) ⟨(af "c",x)::c8 t b [(af "c",.ss ⟨#[d]⟩)],.s (.s (.b (bh U ⟨ah,lit (l.drop (j+1)),aa (lit [d])⟩ n V Y [.list (aa (.dO (l.take j))) []])) 8 (.list (aa (.dO (l.take j))) [.ss ⟨#[d]⟩])) 1 (.blob (.strm ⟨ah,r,un⟩)),v⟩:=λx r un e1 e2 e3=>by
     refine⟨mY U t b l (j+1) n V Y v,?_,j+1,z,rfl,A,rfl⟩
     unfold mY
     rw[e1,e2,e3,G]
     have B:ay (WS W) ⟨c8 t b [(af "c",x)],.b ((bh U ⟨ah,r,un⟩ n V Y [])++[.list (aa (.dO (l.take j))) [.ss ⟨#[d]⟩]]),v⟩ ⟨c8 t b [(af "c",x)],.b (bh U ⟨ah,r,un⟩ n V Y [.list (aa (.dO (l.take j++[d]))) []]),v⟩:=ay.dO (os:=bh U ⟨ah,r,un⟩ n V Y [])
     exact ay.trans (b:=⟨c8 t b [(af "c",x)],.b ((bh U ⟨ah,r,un⟩ n V Y [])++[.list (aa (.dO (l.take j))) [.ss ⟨#[d]⟩]]),v⟩) ay.dup B
    refine⟨hb,⟨λeL=>⟨⟨rfl,fin .none (lit []) ah ?_ ?_ ?_⟩,trivial⟩,λc r' eL=>⟨⟨rfl,fin (.ss ⟨#[c]⟩) (lit r') (aa (lit [c])) ?_ ?_ ?_⟩,trivial⟩⟩,trivial⟩
    all_goals(have e0:l[j+1]? =(l.drop (j+1)).head?:=by rw[wo])
    ·rw[e0,eL];rfl
    ·rw[<-jv,eL];rfl
    ·rw[e0,eL];rfl
    ·rw[e0,eL];rfl
    ·rw[<-jv,eL];rfl
    ·rw[e0,eL];rfl
   ·rintro fl H ⟨rfl,M,l',hJ⟩
    exact⟨M,l',_,om z (gp j),hJ⟩
  have y:has ⟨#[d]⟩ (iF t)=aj->K .next (mY U t b l j n V Y v):=λhh=>k j hj q λd' h=>by rw[e] at h;cases h;exact hh
  unfold mY at y⊢
  rw[e] at y⊢
  rcases ht with rfl|rfl
  ·show dz _ _ ⟨c8 37 b [(af "c",.ss ⟨#[d]⟩)],_,v⟩ _
   rw[acg];exact⟨λh=>⟨p h,trivial⟩,λh=>⟨y h,trivial⟩⟩
  ·show dz _ _ ⟨c8 32 b [(af "c",.ss ⟨#[d]⟩)],_,v⟩ _
   rw[ach];exact⟨λh=>⟨p h,trivial⟩,λh=>⟨y h,trivial⟩⟩
end
section
open Nu
variable{y:Value}
theorem aco{t b:Nat}(h:(t=37/\b=16)\/(t=32/\b=10)){c:Nat}(g:has ⟨#[c]⟩ (iF t)=ai):gk b c=true:=by
 have z:(iF 37).all (λx=>gk 16 (x.cps.getD 0 0))=true:=by decide+kernel
 have v:(iF 32).all (λx=>gk 10 (x.cps.getD 0 0))=true:=by decide+kernel
 have u:=oJ.mp g
 rcases h with⟨rfl,rfl⟩|⟨rfl,rfl⟩
 ·exact bZ.mp z _ u
 ·exact bZ.mp v _ u
theorem acp{l:List Expr}(h:(iD l).isSome=ai):dR l:=((iD l).get h).1
noncomputable def rK:Expr:=cV (bC 6)
theorem acq:bC 6=.Assign [.Name (af "charAsInt") (jf (bC 6))] (.Call (.Name (af "int") (uU rK)) (gf (fi rK)::(fi rK).drop 1) [] (cH rK)) (iE (bC 6)):=by kernel_rfl
noncomputable abbrev JQ (G:Gx) (u:List Expr) (v:SS) (K:List SV->SS->Prop):Prop:=(eG (ex 60 G) u v λx z=>.pr (K x z) .tt).t.h
theorem acr{G:Gx}(g:bw G){v:List Expr}{x:SS}{K:List SV->SS->Prop}(h:JQ G v x K):dI G v x K:=((eG (ex 60 G) v x _).ok h g).mp λu u z=>z.1
theorem vN6(W:Wd)(K:List SV->SS->Prop)(t b:Nat)(x:SV)(st:bQ)(n v:Nat)(z:List Str)(cs:List Nat)(u:List Fact):JQ (fG W) (gf (fi rK)::(fi rK).drop 1) ⟨c8 t b [(af "c",x)],.b (bh y st n v z [.list (aa (.dO cs)) []]),u⟩ K=
 (cs.length<=100000/\(K [.ss (ak cs),.int b] ⟨c8 t b [(af "c",x)],.b (bh y st n v z [.list (aa (.dO cs)) []]),u⟩/\True)):=by kernel_rfl
theorem acu{W:Wd}{t b:Nat}(h:(t=37/\b=16)\/(t=32/\b=10)){x:SV}{st:bQ}{n u:Nat}{z:List Str}{cs:List Nat}{p:List Fact}{K:Fl->SS->Prop}(q:∀c∈cs,has ⟨#[c]⟩ (iF t)=ai)(Y:cs≠[])(v:cs.length<=640)
 (k:K .next ⟨(af "charAsInt",.si (uV b cs:Nat))::c8 t b [(af "c",x)],.b (bh y st n u z [.list (aa (.dO cs)) []]),p⟩):bc (fG W) (bC 6) ⟨c8 t b [(af "c",x)],.b (bh y st n u z [.list (aa (.dO cs)) []]),p⟩ K:=by
 rw[acq]
 refine jD (fM (by kernel_rfl)) (by kernel_rfl) (abZ (T:="int") (by kernel_rfl) (by kernel_rfl) (acp (by kernel_rfl)) (acr (rJ W) ?_))
 rw[vN6]
 exact⟨aq v (by decide),abY (a:=ak cs) (b:=b) (λr=>r) (λr=>r) (h.symm.imp (·.2) (·.2)) (λc g=>aco h (q c g)) Y v k,trivial⟩
end
section
open Nu
variable{z:Value}
noncomputable def pI (v lo V:Int) (X Y:Tr):Tr:=.im (decide (lo<=v)) (.im (decide (v<=V)) X Y) Y
noncomputable def lG:Str:=af "illegal-codepoint-for-numeric-entity"
noncomputable abbrev rM (k:Nat) (v:Int) (o:OL):OL:=.s (.s (.s (.s (.a (.a o (.dict [])) (.dict [])) (k+1) (.dict [(af "charAsInt",.si v)])) k (.dict [(af "type",.int 7),(af "data",.str lG),(af "datavars",.obj (k+1))])) 3 (.aJ 5000 1 [lG] [])) k .gone
noncomputable def rP:List Int:=[11,65534,65535,131070,131071,196606,196607,262142,262143,327678,327679,393214,393215,458750,458751,524286,524287,589822,589823,655358,655359,720894,720895,786430,786431,851966,851967,917502,917503,983038,983039,1048574,1048575,1114110,1114111]
noncomputable abbrev lH (t b:Nat) (v:Int) (x:SV):List (Str×SV):=(af "charAsInt",.si v)::c8 t b [(af "c",x)]
theorem acv(W:Wd)(K:Fl->SS->Prop)(st:bQ)(x:SV)(v:Int)(t b:Nat)(o:SO)(y:List Fact):
 (di (ex 60 (fG W)) (c5 (bC 7)) ⟨lH t b v x,.b (bh z st 5000 1 [] [o]),y⟩ λx q=>.pr (K x q) .tt).t=
 (let L1:Tr:=.pr (K .next ⟨(af "char",.str (af "�"))::lH t b v x,rM 9 v (.b (bh z st 5000 1 [] [o])),y⟩) .tt
  let u:Tr:=.pr (0<=v/\v<=1114111) (.pr (K .next ⟨(af "char",.ss ⟨#[v.toNat]⟩)::lH t b v x,rM 9 v (.b (bh z st 5000 1 [] [o])),y⟩) .tt)
  let p:OL:=.a (.b (bh z st 5000 1 [] [o])) (.tup (rP.map .int))
  let h:Tr:=.pr (0<=v/\v<=1114111) (.pr (K .next ⟨(af "char",.ss ⟨#[v.toNat]⟩)::lH t b v x,rM 10 v p,y⟩) .tt)
  let m:Tr:=.pr (0<=v/\v<=1114111) (.pr (K .next ⟨(af "char",.ss ⟨#[v.toNat]⟩)::lH t b v x,p,y⟩) .tt)
  let E:Tr:=.im (decide (1114111<v)) L1 (pI v 1 8 u (pI v 14 31 u (pI v 127 159 u (pI v 64976 65007 u (.im (gh v rP) h m)))))
  pI v 55296 57343 L1 E):=by kernel_rfl
end
section
open Nu
variable{Y:Value}
theorem JR(env:Env)(q:List Stmt)(pre:List Stmt):execs (pre++q) env=(execs pre env>>=λf=>match f with
 |.next=>execs q env
 |f=>pure f):=by
 induction pre with
 |nil=>
  show execs q env=(pure Flow.next>>=_)
  rw[pure_bind]
 |cons st pre p=>
  show execs (st::(pre++q)) env=_
  rw[execs_cons,execs_cons,bind_assoc]
  congr 1
  funext f
  cases f with
  |next=>exact p
  |_=>rw[pure_bind]
theorem pJ{G:Gx}{y:SS}{K:Fl->SS->Prop}{pre u:List Stmt}(h:aO G pre y (Bm G u K)):aO G (pre++u) y K:=λc U s V a V=>by
 show wpAny _ _ (execs (pre++u) c.env) _ _ s
 rw[JR]
 refine wpAny_bind (wpAny_mono (h c U s () a trivial) (λf M ⟨g,m,O,p,R,q,k⟩=>?_) λV V z=>z)
 cases O with
 |next=>obtain rfl:=q;exact aC.at (w:=()) k (a.to p R) p trivial
 |ret x=>obtain⟨v,rfl,q⟩:=q;exact wpAny_pure ⟨g,m,.ret x,p,R,⟨v,rfl,q⟩,k⟩
 |brk=>obtain rfl:=q;exact wpAny_pure ⟨g,m,.brk,p,R,rfl,k⟩
 |cont=>obtain rfl:=q;exact wpAny_pure ⟨g,m,.cont,p,R,rfl,k⟩
inductive nU:List SO->Prop
 |a (o1):nU [o1]
 |b (o1 o2):nU [o1,o2]
 |c (o1 o2 o3):nU [o1,o2,o3]
 |d (o1 o2 o3 o4):nU [o1,o2,o3,o4]
noncomputable def inR (v lo V:Int):Bool:=decide (lo<=v)&&decide (v<=V)
noncomputable def yM:List Int:=Tb.o9.map (·.1)
noncomputable def ji (v:Int):Bool:=inR v 55296 57343||decide (1114111<v)
noncomputable def mZ (v:Int):Bool:=inR v 1 8||(inR v 14 31||(inR v 127 159||(inR v 64976 65007||gh v rP)))
noncomputable def kD (v:Nat):Str:=bif gh v yM then qY v Tb.o9 else bif ji v then af "�" else⟨#[v]⟩
noncomputable def nV (v:Nat):Bool:=gh v yM||(ji v||mZ v)
theorem Tr.yN{b:Bool}{x y:Tr}(h:bif b then x.h else y.h):(Tr.im b x y).h:=by cases b with
 |true=>exact⟨λz=>h,λe=>by cases e⟩
 |false=>exact⟨λe=>(by cases e),λz=>h⟩
theorem u3{v lo V:Int}{x y:Tr}(h:bif inR v lo V then x.h else y.h):(pI v lo V x y).h:=by
 unfold pI
 unfold inR at h
 refine Tr.yN ?_
 cases q:decide (lo<=v) with
 |false=>rw[q] at h;exact h
 |true=>rw[q] at h;exact Tr.yN h
noncomputable abbrev kE (z:SV) (t b:Nat) (v:Int) (x:SV):List (Str×SV):=(af "char",z)::lH t b v x
noncomputable def gF (b:Bool):List Str:=bif b then[lG] else[]
noncomputable abbrev u4:Stmt:=aN (cJ (bC 7)) 0
theorem acw:bC 7=.If (bX (bC 7)) [.Assign [.Name (af "char") (jf u4)] (.Subscript (.Name (af "replacementCharacters") (eU (cV u4) 0).pos) (.Name (af "charAsInt") (eU (cV u4) 1).pos) (cV u4).pos) (iE u4),aN (cJ (bC 7)) 1] (c5 (bC 7)) (gb (bC 7)):=by kernel_rfl
section
variable(W:Wd)(st:bQ)(x:SV)(v:Int)(t b:Nat)(o:SO)(j:List Fact)
theorem acy(K:SV->SS->Prop):dz (fG W) (bX (bC 7)) ⟨lH t b v x,.b (bh Y st 5000 1 [] [o]),j⟩ K=(K (.sb (gh v yM)) ⟨lH t b v x,.b (bh Y st 5000 1 [] [o]),j⟩/\True):=by kernel_rfl
theorem acz(K:Fl->SS->Prop)(z:SV):mU (fG W) [aN (cJ (bC 7)) 1] ⟨kE z t b v x,.b (bh Y st 5000 1 [] [o]),j⟩ K=(K .next ⟨kE z t b v x,rM 9 v (.b (bh Y st 5000 1 [] [o])),j⟩/\True):=by kernel_rfl
end
theorem ay.hd{D:Wd}{n:Str}{x y:SV}{p:List (Str×SV)}{os:OL}{j:List Fact}(h:gz D x y):ay D ⟨(n,x)::p,os,j⟩ ⟨(n,y)::p,os,j⟩:=λc U s R=>⟨let⟨m,l,r⟩:=R.R;⟨m,l,λz w e=>by
 have k:lk z ((n,y)::p)=aa w:=e
 rw[bW] at k
 by_cases q:z=n
 ·rw[if_pos q] at k
  cases k
  obtain⟨u,V,g⟩:=r z x (by show lk z ((n,x)::p)=_;rw[bW,if_pos q])
  exact⟨u,V,h _ _ g⟩
 ·rw[if_neg q] at k
  exact r z w (by show lk z ((n,x)::p)=_;rw[bW,if_neg q];exact k)⟩,R.tp,R.fa⟩
theorem nu7{W:Wd}{st:bQ}{x:SV}{v t b:Nat}{o:SO}{j:List Fact}{K:Fl->SS->Prop}
 (k:∀X:List SO,nU X->K .next ⟨kE (.ss (kD v)) t b v x,.b (bh Y st 5000 1 (gF (nV v)) X),j⟩):bc (fG W) (bC 7) ⟨lH t b v x,.b (bh Y st 5000 1 [] [o]),j⟩ K:=by
 have g:=rJ W
 have e_:∀{ch:SV} {os:OL} {H:List Str} (X:List SO),gz (WS W) ch (.ss (kD v))->os.list=bh Y st 5000 1 H X->H=gF (nV v)->nU X->∃y,ay (WS W) ⟨kE ch t b v x,os,j⟩ y/\K .next y:=λX V h2 h3 h4=>by
  subst h3
  exact⟨_,ay.trans (ay.of (σ':=⟨_,.b (bh Y st 5000 1 (gF (nV v)) X),j⟩) (λu u e=>e) h2.symm rfl) (ay.hd V),k X h4⟩
 rw[acw]
 refine iS (lF g ?_)
 rw[acy]
 refine⟨⟨λe=>cZ (jD (fM (by kernel_rfl)) (by kernel_rfl) (qO (kY (v:=.ref 46) (by kernel_rfl) (by kernel_rfl) (fS (x:=.si v) (by kernel_rfl) (by kernel_rfl) (by kernel_rfl) (Xm (fM (by kernel_rfl)) (λr=>by kernel_rfl) (by kernel_rfl) (λr=>r) e ?_))))),λe=>?_⟩,trivial⟩
 ·refine aC.ent (pG g (K:=λC p=>C=.next/\p=⟨kE (.ss (qY v Tb.o9)) t b v x,rM 9 v (.b (bh Y st 5000 1 [] [o])),j⟩) ?_) ?_
  ·rw[acz];exact⟨⟨rfl,rfl⟩,trivial⟩
  ·rintro C p ⟨rfl,rfl⟩
   exact e_ [o,.gone,.dict [(af "charAsInt",.si v)]] (by unfold kD;rw[e];exactλu u r=>r) rfl (by unfold nV;rw[e];rfl) (.c _ _ _)
 ·refine aC.ent (((di (ex 60 (fG W)) (c5 (bC 7)) ⟨lH t b v x,.b (bh Y st 5000 1 [] [o]),j⟩ λC p=>.pr (∃y,ay (WS W) p y/\K C y) .tt).ok ?_ g).mp λu u z=>z.1) (λu u z=>z)
  rw[acv]
  have e9:(rM 9 v (.b (bh Y st 5000 1 [] [o]))).list=bh Y st 5000 1 [lG] [o,.gone,.dict [(af "charAsInt",.si v)]]:=rfl
  have L:=λV:ji v=ai=>e_ (ch:=.str (af "�")) _ (by unfold kD;rw[e,V];exactλu u r=>r) e9 (by unfold nV;rw[e,V];rfl) (.c _ _ _)
  have U:ji v=aj->0<=(v:Int)/\(v:Int)<=1114111:=λh=>by
   refine⟨dZ v,?_⟩
   unfold ji at h
   rw[LU,decide_eq_false_iff_not] at h
   exact nD.mp h.2
  have cS:ji v=aj->gz (WS W) (.ss ⟨#[(v:Int).toNat]⟩) (.ss (kD v)):=λh=>by unfold kD;rw[e,h];exactλu u r=>r
  have M:∀{os:OL} {H:List Str} (X:List SO),ji v=aj->os.list=bh Y st 5000 1 H X->H=gF (mZ v)->nU X->∃y,ay (WS W) ⟨kE (.ss ⟨#[(v:Int).toNat]⟩) t b v x,os,j⟩ y/\K .next y:=λX V h2 h3 h4=>e_ X (cS V) h2 (by unfold nV;rw[e,V];exact h3) h4
  refine u3 ?_
  cases q:inR v 55296 57343 with
  |true=>exact⟨L (by unfold ji;rw[q];rfl),trivial⟩
  |false=>
   refine Tr.yN ?_
   cases q2:decide ((1114111:Int)<v) with
   |true=>exact⟨L (by unfold ji;rw[q,q2];rfl),trivial⟩
   |false=>
    have m:ji v=false:=by unfold ji;rw[q,q2];rfl
    have B:=λh:mZ v=ai=>M _ m e9 (by rw[h];rfl) (.c _ _ _)
    refine u3 ?_
    cases G:inR v 1 8 with
    |true=>exact⟨U m,B (by unfold mZ;rw[G];rfl),trivial⟩
    |false=>
     refine u3 ?_
     cases O:inR v 14 31 with
     |true=>exact⟨U m,B (by unfold mZ;rw[G,O];rfl),trivial⟩
     |false=>
      refine u3 ?_
      cases D:inR v 127 159 with
      |true=>exact⟨U m,B (by unfold mZ;rw[G,O,D];rfl),trivial⟩
      |false=>
       refine u3 ?_
       cases A:inR v 64976 65007 with
       |true=>exact⟨U m,B (by unfold mZ;rw[G,O,D,A];rfl),trivial⟩
       |false=>
        refine Tr.yN ?_
        cases q7:gh v rP with
        |true=>exact⟨U m,M [o,.tup (rP.map .int),.gone,.dict [(af "charAsInt",.si v)]] m rfl (by unfold mZ;rw[G,O,D,A,q7];rfl) (.d _ _ _ _),trivial⟩
        |false=>exact⟨U m,M [o,.tup (rP.map .int)] m rfl (by unfold mZ;rw[G,O,D,A,q7];rfl) (.b _ _),trivial⟩
end
section
open Nu
variable{z:Value}
noncomputable def jj:Str:=af "numeric-entity-without-semicolon"
noncomputable abbrev yO (z:Value) (st:bQ) (k:Nat) (q:List Str) (X:List SO):OL:=.s (.s (.s (.a (.b (bh z st 5000 1 q X)) (.dict [])) k (.dict [(af "type",.int 7),(af "data",.str jj)])) 3 (.aJ 5000 1 (q++[jj]) [])) k .gone
noncomputable abbrev lI (z:Value) (W:Wd) (y c:SV) (t b:Nat) (v:Int) (st:bQ) (q:Bool) (X:List SO) (u:List Fact) (K:Fl->SS->Prop):Prop:=mU (fG W) [bC 8,bC 9] ⟨kE y t b v c,.b (bh z st 5000 1 (gF q) X),u⟩ K
noncomputable abbrev u5 (z:Value) (y:SV) (d t b:Nat) (v:Int) (r:Tm) (un:Option Tm) (q:Bool) (X:List SO) (u:List Fact) (k:Nat) (K:Fl->SS->Prop):Prop:=
 ((!seq ⟨#[d]⟩ (af ";"))=ai->(un=aa (lit [d])/\K (.ret y) ⟨kE y t b v (.ss ⟨#[d]⟩),.s (yO z ⟨ah,r,un⟩ k (gF q) X) 1 (.blob (.strm ⟨ah,cat (lit [d]) r,ah⟩)),u⟩/\True))/\
 ((!seq ⟨#[d]⟩ (af ";"))=aj->(K (.ret y) ⟨kE y t b v (.ss ⟨#[d]⟩),.b (bh z ⟨ah,r,un⟩ 5000 1 (gF q) X),u⟩/\True))
noncomputable abbrev u6 (z:Value) (y:SV) (t b:Nat) (v:Int) (r:Tm) (un:Option Tm) (q:Bool) (X:List SO) (u:List Fact) (k:Nat) (K:Fl->SS->Prop):Prop:=
 K (.ret y) ⟨kE y t b v .none,.s (yO z ⟨ah,r,un⟩ k (gF q) X) 1 (.blob (.strm ⟨ah,r,un⟩)),u⟩/\True
section
variable(W:Wd)(y:SV)(d t b:Nat)(v:Int)(r:Tm)(un:Option Tm)(x p o3 m:SO)(u:List Fact)(K:Fl->SS->Prop)
theorem n81(c:Bool):lI z W y (.ss ⟨#[d]⟩) t b v ⟨ah,r,un⟩ c [x] u K=u5 z y d t b v r un c [x] u 9 K:=by cases c<;>kernel_rfl
theorem n82(c:Bool):lI z W y (.ss ⟨#[d]⟩) t b v ⟨ah,r,un⟩ c [x,p] u K=u5 z y d t b v r un c [x,p] u 10 K:=by cases c<;>kernel_rfl
theorem n83(c:Bool):lI z W y (.ss ⟨#[d]⟩) t b v ⟨ah,r,un⟩ c [x,p,o3] u K=u5 z y d t b v r un c [x,p,o3] u 11 K:=by cases c<;>kernel_rfl
theorem n84(c:Bool):lI z W y (.ss ⟨#[d]⟩) t b v ⟨ah,r,un⟩ c [x,p,o3,m] u K=u5 z y d t b v r un c [x,p,o3,m] u 12 K:=by cases c<;>kernel_rfl
theorem n85(c:Bool):lI z W y .none t b v ⟨ah,r,un⟩ c [x] u K=u6 z y t b v r un c [x] u 9 K:=by cases c<;>kernel_rfl
theorem n86(c:Bool):lI z W y .none t b v ⟨ah,r,un⟩ c [x,p] u K=u6 z y t b v r un c [x,p] u 10 K:=by cases c<;>kernel_rfl
theorem n87(c:Bool):lI z W y .none t b v ⟨ah,r,un⟩ c [x,p,o3] u K=u6 z y t b v r un c [x,p,o3] u 11 K:=by cases c<;>kernel_rfl
theorem n88(c:Bool):lI z W y .none t b v ⟨ah,r,un⟩ c [x,p,o3,m] u K=u6 z y t b v r un c [x,p,o3,m] u 12 K:=by cases c<;>kernel_rfl
end
structure acK (z:Value) (l:List Nat) (j:Nat) (b8:Bool) (os:OL):Prop where
 e:∃r un X ms,os.list=bh z ⟨ah,r,un⟩ 5000 1 (gF b8++ms) X/\((l[j]? =aa 59/\ms=[]/\∀η,r.ev η=l.drop (j+1))\/(l[j]? ≠aa 59/\ms=[jj]/\∀η,r.ev η=l.drop j))
theorem acL{W:Wd}{y:SV}{t b:Nat}{v:Int}{l:List Nat}{j:Nat}{c:Bool}{X:List SO}{u:List Fact}{K:Fl->SS->Prop}(H:nU X)
 (k:∀U os,acK z l j c os->K (.ret y) ⟨U,os,u⟩):aO (fG W) [bC 8,bC 9] ⟨kE y t b v (cS l[j]?),.b (bh z ⟨ah,lit (l.drop (j+1)),(l[j]?).map λd=>lit [d]⟩ 5000 1 (gF c) X),u⟩ K:=by
 refine pG (rJ W) ?_
 have V:∀d,(!seq ⟨#[d]⟩ (af ";"))=aj->d=59:=λd h=>by
  have D:seq ⟨#[d]⟩ (af ";")=true:=by simpa using h
  have:=congrArg (λs:Str=>s.cps.toList) (b9.mp D)
  have e:(af ";").cps.toList=[59]:=by kernel_rfl
  rw[e] at this
  cases this;rfl
 have g:∀d,(!seq ⟨#[d]⟩ (af ";"))=ai->d≠59:=λd h e=>by
  subst e
  have:(!seq ⟨#[59]⟩ (af ";"))=false:=by kernel_rfl
  rw[this] at h;cases h
 cases e:l[j]? with
 |none=>
  have L:l.length<=j:=qi.mp e
  have fin:∀(k8:Nat) (Y:List SO),(OL.s (yO z ⟨ah,lit (l.drop (j+1)),ah⟩ k8 (gF c) X) 1 (.blob (.strm ⟨ah,lit (l.drop (j+1)),ah⟩))).list=bh z ⟨ah,lit (l.drop (j+1)),ah⟩ 5000 1 (gF c++[jj]) Y->u6 z y t b v (lit (l.drop (j+1))) ah c X u k8 K:=λk8 Y h=>⟨k _ _ ⟨_,_,_,_,h,.inr ⟨by rw[e];exactλh=>(by cases h),rfl,λM=>by show l.drop (j+1)=_;rw[v8 L,v8 (Mg L)]⟩⟩,trivial⟩
  show lI z W y .none t b v _ c X u K
  cases H with
  |a x=>rw[n85];exact fin _ [x,.gone] rfl
  |b x p=>rw[n86];exact fin _ [x,p,.gone] rfl
  |c x p o3=>rw[n87];exact fin _ [x,p,o3,.gone] rfl
  |d x p o3 m=>rw[n88];exact fin _ [x,p,o3,m,.gone] rfl
 |some d=>
  have O:j<l.length:=(dh.mp e).1
  have G:l.drop j=d::l.drop (j+1):=by rw[kK O,(dh.mp e).2]
  have fin:∀(k8:Nat) (Y:List SO),(OL.s (yO z ⟨ah,lit (l.drop (j+1)),aa (lit [d])⟩ k8 (gF c) X) 1 (.blob (.strm ⟨ah,cat (lit [d]) (lit (l.drop (j+1))),ah⟩))).list=bh z ⟨ah,cat (lit [d]) (lit (l.drop (j+1))),ah⟩ 5000 1 (gF c++[jj]) Y->u5 z y d t b v (lit (l.drop (j+1))) (aa (lit [d])) c X u k8 K:=λk8 Y h=>
   ⟨λq=>⟨rfl,k _ _ ⟨_,_,_,_,h,.inr ⟨by rw[e];exactλh=>g d q (ju h),rfl,λM=>by rw[G];rfl⟩⟩,trivial⟩,λq=>⟨k _ _ ⟨_,_,_,[],by rw[cO];rfl,.inl ⟨by rw[e,V d q],rfl,λM=>rfl⟩⟩,trivial⟩⟩
  show lI z W y (.ss ⟨#[d]⟩) t b v _ c X u K
  cases H with
  |a x=>rw[n81];exact fin _ [x,.gone] rfl
  |b x p=>rw[n82];exact fin _ [x,p,.gone] rfl
  |c x p o3=>rw[n83];exact fin _ [x,p,o3,.gone] rfl
  |d x p o3 m=>rw[n84];exact fin _ [x,p,o3,m,.gone] rfl
end
section
open Nu
variable{z:Value}
noncomputable abbrev cC (D:Wd) (O o:SO):Prop:=∀X y a l,OR D X y a o l->OR D X y a O l
theorem ay.objs{D:Wd}{x:List (Str×SV)}{os os':List SO}{v:List Fact}(h:Each (cC D) os' os):ay D ⟨x,.b os,v⟩ ⟨x,.b os',v⟩:=λc Y s R=>by
 obtain⟨⟨m,⟨k,ad,C,l2,g,y,F,N⟩,j⟩,p,v⟩:=R
 exact⟨⟨m,⟨k,ad,Each.comp (λu u u q r=>q _ _ _ _ r) h C,l2,g,y,F,N⟩,j⟩,p,v⟩
theorem cC.refl{D:Wd}(o:SO):cC D o o:=λy y y y r=>r
theorem cC.all{D:Wd}:∀l:List SO,Each (cC D) l l:=λl=>by
 induction l with
 |nil=>exact .nil
 |cons x l p=>exact .cons (.refl x) p
theorem cC.strm{W:Wd}{st:bQ}{r:Tm}(h:r.ev W.η=st.r.ev W.η):cC (WS W) (.blob (.strm ⟨ah,r,ah⟩)) (.blob (.strm st)):=λX O a l R=>by
 obtain⟨x,V,L,e,m,Y,u,v,q,j,y,D,U,k,I⟩:=R
 exact⟨x,V,L,e,m,Y,u,v,q,j,y,D,U,k,⟨I.hoff,h.trans I.hr,λg p=>Om.ns p,I.hp,I.hz,I.hch,I.hen,I.jc,λl e=>Om.ns e,I.hno⟩⟩
noncomputable def tO (h:Bool):Nat:=bif h then 37 else 32
noncomputable def bO (h:Bool):Nat:=bif h then 16 else 10
noncomputable def dP (h:Bool) (c:Nat):Bool:=has ⟨#[c]⟩ (iF (tO h))
noncomputable def pK:List Nat->List Nat×Bool
 |59::r=>(r,aj)
 |r=>(r,ai)
noncomputable def u7 (h:Bool) (l:List Nat):Nat:=uV (bO h) (l.takeWhile (dP h))
noncomputable def lJ (h:Bool) (l:List Nat):Str:=kD (u7 h l)
noncomputable def g9 (h:Bool) (l:List Nat):List Nat:=(pK (l.dropWhile (dP h))).1
noncomputable def pL (h:Bool) (l:List Nat):Bool:=nV (u7 h l)
noncomputable def pM (h:Bool) (l:List Nat):Bool:=(pK (l.dropWhile (dP h))).2
noncomputable def kF (h:Bool) (l:List Nat):List Str:=gF (pL h l)++bif pM h l then[jj] else[]
theorem acM{l:List Nat}(h:∀r,l≠59::r):pK l=(l,ai):=by
 unfold pK
 split
 ·exact absurd rfl (h _)
 ·rfl
theorem acN:Tb.q9.body=[bC 0,bC 1,bC 2,bC 3]++(bC 4::bC 5::bC 6::bC 7::[bC 8,bC 9]):=by kernel_rfl
theorem OR.acO{D:Wd}{X:List (Addr×Obj)}{y:List Addr}{a:Addr}{l:List (Addr×Obj)}(r:OR D X y a (.list ah []) l):OR D X y a (.list (aa (.dO [])) []) l:=by
 obtain⟨U,x,n,e,q,f⟩:=r
 obtain rfl:U=[]:=q
 exact⟨[],x,n,e,.nil,f⟩
theorem acP{W:Wd}{hex:Bool}{l:List Nat}{u:Option Tm}{v:List Fact}{K:Fl->SS->Prop}(h0:∃c r,l=c::r/\dP hex c=ai)(B:l.length<=640)
 (k:∀m os X L un,os.list=bh z ⟨ah,L,un⟩ 5000 1 (kF hex l) X->(∀C,L.ev C=g9 hex l)->K (.ret (.ss (lJ hex l))) ⟨m,os,v⟩):aO (fG W) Tb.q9.body ⟨uZ hex,.b (bh z ⟨ah,lit l,u⟩ 5000 1 [] []),v⟩ K:=by
 have g:=rJ W
 have D:l.length<=100000:=aq B (by decide)
 have x:aO (fG W) (bC 4::bC 5::bC 6::bC 7::[bC 8,bC 9]) ⟨c8 (tO hex) (bO hex) [],.b (bh z ⟨ah,lit l,u⟩ 5000 1 [] [.list ah []]),v⟩ K:=by
  refine cZ (aC.ent (rD g (K:=λO y=>O=.next/\ay (WS W) y (mY z (tO hex) (bO hex) l 0 5000 1 [] v)) ?_) λO y ⟨e,h⟩=>⟨_,h,e▸?_⟩)
  ·rw[vN4]
   obtain⟨c,r,rfl,hc⟩:=h0
   refine⟨⟨λe=>(by cases e),λc' L e=>?_⟩,trivial⟩
   cases e
   refine⟨⟨rfl,?_⟩,trivial⟩
   exact ay.trans (ay.of (σ':=⟨_,.b (bh z ⟨ah,lit r,aa (lit [c])⟩ 5000 1 [] []++[.list ah []]),v⟩) (λU U e=>e) rfl rfl) (ay.last λX ρ a l r=>OR.acO r)
  ·have ht:tO hex=37\/tO hex=32:=by cases hex<;>first|exact .inl rfl|exact .inr rfl
   have hb:(tO hex=37/\bO hex=16)\/(tO hex=32/\bO hex=10):=by cases hex<;>first|exact .inl ⟨rfl,rfl⟩|exact .inr ⟨rfl,rfl⟩
   refine cZ (acn ht D λj hj A hs=>?_)
   have M:l.takeWhile (dP hex)=l.take j/\l.dropWhile (dP hex)=l.drop j:=by
    have:=ry (p:=dP hex) (a:=l.take j) (b:=l.drop j) (bZ.mpr A) λc r e=>hs c (by rw[<-wo,e];rfl)
    rwa[iM] at this
   have H:l.take j≠[]:=λe=>by
    obtain⟨c,r,rfl,hc⟩:=h0
    rw[<-M.1,v5 hc] at e
    cases e
   refine cZ (acu hb A H (aq (ql _ _) (aq hj B)) (cZ (nu7 λX hX=>acL hX λm os h=>?_)))
   obtain⟨⟨r,un,Y,ms,e1,h⟩⟩:=h
   have ev:uV (bO hex) (l.take j)=u7 hex l:=by unfold u7;rw[M.1]
   rw[ev] at e1⊢
   have V:pK (l.drop j)=((bif l[j]? ==aa 59 then l.drop (j+1) else l.drop j),!(l[j]? ==aa 59)):=by
    by_cases q:l[j]? =aa 59
    ·have G:j<l.length:=(dh.mp q).1
     rw[q,kK G,(dh.mp q).2];rfl
    ·rw[acM λr e=>q (by rw[<-wo,e];rfl),beq_false_of_ne q];rfl
   refine k m os Y r un ?_ ?_
   ·rw[e1]
    have:gF (nV (u7 hex l))++ms=kF hex l:=by
     unfold kF pM pL
     rw[M.2,V]
     rcases h with⟨q,rfl,_⟩|⟨q,rfl,_⟩
     ·rw[q];rfl
     ·rw[beq_false_of_ne q];rfl
    rw[this]
   ·intro C
    unfold g9
    rw[M.2,V]
    rcases h with⟨q,_,h⟩|⟨q,_,h⟩
    ·rw[h,q];rfl
    ·rw[h,beq_false_of_ne q];rfl
 rw[acN]
 refine pJ (aC.ent (pG g (K:=λO y=>O=.next/\ay (WS W) y ⟨c8 (tO hex) (bO hex) [],.b (bh z ⟨ah,lit l,u⟩ 5000 1 [] [.list ah []]),v⟩) ?_) λO y ⟨e,h⟩=>⟨_,h,e▸x⟩)
 cases hex with
 |true=>rw[ab9];exact⟨⟨rfl,ay.trans (ay.of (σ':=⟨_,.b (bh z ⟨ah,lit l,u⟩ 5000 1 [] [.list ah []]),v⟩) (λU U e=>e) rfl rfl) (ay.sub (by kernel_rfl))⟩,trivial⟩
 |false=>rw[acd];exact⟨⟨rfl,ay.trans (ay.of (σ':=⟨_,.b (bh z ⟨ah,lit l,u⟩ 5000 1 [] [.list ah []]),v⟩) (λU U e=>e) rfl rfl) (ay.sub (by kernel_rfl))⟩,trivial⟩
theorem acQ{W:Wd}{G:Gx}(v:G.D=WS W)(V:G.T=Tb.T)(j:5<=G.n){hex:Bool}{l:List Nat}{st:bQ}{X:List SO}{y:SS}{K:SV->SS->Prop}(C:y.objs.list=bh z st 5000 1 [] []++X)(hR:st.r.ev W.η=l)(O:∃c r,l=c::r/\dP hex c=ai)(g:l.length<=640)
 (k:aT W.η y.fa->K (.ss (lJ hex l)) ⟨y.loc,.b (bh z ⟨ah,lit (g9 hex l),ah⟩ 5000 1 (kF hex l) []++X),y.fa⟩):av G (.ref 275) [.obj 0,.bool hex] y K:=by
 obtain⟨D,T,m,cs,A,con,U,B,H,fr⟩:=G
 obtain rfl:D=WS W:=v
 obtain rfl:T=Tb.T:=V
 refine Bt (os:=bh z st 5000 1 [] []) C (by kernel_rfl) (by kernel_rfl) λx u=>?_
 refine av.pre (ay.objs (os':=bh z ⟨ah,lit l,ah⟩ 5000 1 [] []) (.cons (.refl _) (.cons (.strm (by rw[hR];rfl)) (.cons (.refl _) (.cons (.refl _) (.cons (.refl _) (.cons (.refl _) (.cons (.refl _) (.one (.refl _))))))))))
  (av.ent (av.sw (n:=5) (cons:=[(133,4,rI W.η),(163,1,uY)]) j (j8 (i:=Tb.q9) (n:=4) (by kernel_rfl) rfl (by kernel_rfl) (by kernel_rfl) ?_)))
 refine acP (hex:=hex) O g λq os Y p un L M=>?_
 refine⟨⟨x,.b (bh z ⟨ah,lit (g9 hex l),ah⟩ 5000 1 (kF hex l) Y),y.fa⟩,?_,rfl,rfl,bh z ⟨ah,lit (g9 hex l),ah⟩ 5000 1 (kF hex l) [],rfl,rfl,by kernel_rfl,k⟩
 exact ay.trans (ay.of (σ':=⟨x,.b (bh z ⟨ah,p,un⟩ 5000 1 (kF hex l) Y),y.fa⟩) (λu u e=>e) L.symm rfl) (ay.objs (.cons (.refl _) (.cons (.strm (M W.η).symm) (.cons (.refl _) (.cons (.refl _) (.cons (.refl _) (.cons (.refl _) (.cons (.refl _) (.cons (.refl _) (cC.all Y))))))))))
end
section
open Nu
noncomputable def acR (o:Option SO):Option (PLift (o=some .gone)):=match o with
 |some .gone=>aa ⟨rfl⟩
 |_=>ah
noncomputable def lK (t:OL) (i:Nat):Option (PLift (t.list[i]? =some .gone)):=(acR (OL.get t i)).map λh=>⟨by rw[<-OL.get_eq];exact h.1⟩
noncomputable def Dl (x y:SV):Option (PLift (x=y)):=match x with
 |.none=>match y with
  |.none=>aa ⟨rfl⟩
  |_=>ah
 |.bool a=>match y with
  |.bool b=>(aV (@az (λz=>Bool) (!b) b a)).map λh=>⟨by cases a<;>cases b<;>first|rfl|cases h.1⟩
  |_=>ah
 |.obj i=>match y with
  |.obj j=>(aV (aQ i j)).map λh=>⟨by rw[bJ h.1]⟩
  |_=>ah
 |.int i=>match y with
  |.int j=>(aV (decide (i=j))).map λh=>⟨by rw[of_decide_eq_true h.1]⟩
  |_=>ah
 |.str i=>match y with
  |.str j=>(aV (seq i j)).map λh=>⟨by rw[b9.mp h.1]⟩
  |_=>ah
 |_=>ah
noncomputable def u9:∀(y z:List (Str×SV)),Option {r:List (Str×SV)//z=y++r}:=@bE (Str×SV) (λy=>∀z,Option {r:List (Str×SV)//z=y++r}) (λz=>aa ⟨z,rfl⟩) (λk y p z=>match z with
 |[]=>ah
 |f::z=>au (aV (seq f.1 k.1)) λh=>au (Dl f.2 k.2) λq=>(p z).map λr=>⟨r.1,by
   obtain⟨v,x⟩:=f
   obtain⟨k1,k2⟩:=k
   obtain rfl:v=k1:=b9.mp h.1
   obtain rfl:x=k2:=q.1
   exact congrArg ((v,x)::·) r.2⟩)
noncomputable def acS (x:SV):Option {v:Value//x=.val v}:=match x with
 |.val v=>aa ⟨v,rfl⟩
 |_=>ah
noncomputable def Dm (z:List (Str×SV)):Option (PLift (z=[])):=match z with
 |[]=>aa ⟨rfl⟩
 |_::_=>ah
noncomputable def JS (y:List (Str×SV)):Option {z:(Str×SV)×List (Str×SV)//y=z.1::z.2}:=match y with
 |[]=>ah
 |f::y=>aa ⟨(f,y),rfl⟩
noncomputable def acT (y:List (Str×SV)):Option {v:Value//y=ck++(af "state",.val v)::cK}:=au (u9 ck y) λr=>au (JS r.1) λz=>au (aV (seq z.1.1.1 (af "state"))) λh=>au (acS z.1.1.2) λv=>au (u9 cK z.1.2) λr2=>(Dm r2.1).map λe=>⟨v.1,by
 obtain⟨r,u⟩:=r
 obtain⟨⟨⟨n,x⟩,t⟩,M⟩:=z
 obtain⟨v,j⟩:=v
 obtain⟨r2,D⟩:=r2
 obtain rfl:n=af "state":=b9.mp h.1
 obtain rfl:x=.val v:=j
 obtain rfl:r2=[]:=e.1
 exact u.trans (congrArg (ck++·) (M.trans (congrArg ((af "state",SV.val v)::·) (D.trans (cO _)))))⟩
noncomputable def JU (t:OL):Option {v:Value//t.list[0]? =aa (lE v)}:=au (fT t 0) λo=>au (A9 o.1) λz=>au (aV (aQ z.1.1 762)) λh=>(acT z.1.2).map λq=>⟨q.1,o.2.trans (congrArg aa (z.2.trans ((congrArg (SO.inst · z.1.2) (bJ h.1)).trans (congrArg (SO.inst 762) q.2))))⟩
noncomputable def JV (o:SO):Option {z:(Nat×Nat)×List Str×List SV//o=.aJ z.1.1 z.1.2 z.2.1 z.2.2}:=match o with
 |.aJ n k y v=>aa ⟨((n,k),y,v),rfl⟩
 |_=>ah
noncomputable def acU (z:List Str):Option (PLift (z=[])):=match z with
 |[]=>aa ⟨rfl⟩
 |_::_=>ah
noncomputable def JW (z:List SV):Option (PLift (z=[])):=match z with
 |[]=>aa ⟨rfl⟩
 |_::_=>ah
noncomputable def JX (t:OL):Option {y:List Str//t.list[3]? =aa (.aJ 5000 1 y [])}:=au (fT t 3) λo=>au (JV o.1) λz=>au (aV (aQ z.1.1.1 5000)) λh=>au (aV (aQ z.1.1.2 1)) λu=>(JW z.1.2.2).map λe=>⟨z.1.2.1,o.2.trans (congrArg aa (z.2.trans (by rw[bJ h.1,bJ u.1,e.1])))⟩
noncomputable def iO (h:Bool):Nat:=bif h then 2 else 1
noncomputable def c6 (h:Bool):Tm:=cat (hN (iO h)) (rN (iO h+1))
noncomputable def rQ (h:Bool):List Nat:=bif h then[48,49,50,51,52,53,54,55,56,57,97,98,99,100,101,102,65,66,67,68,69,70] else[48,49,50,51,52,53,54,55,56,57]
noncomputable def fj (h:Bool):Nat:=bif h then 34 else 24
structure JY (η:Ev):Prop where
 z:(η.v 8).length<=600
 o:∀h l,η.f (fj h) l=(lJ h l).cps.toList
 r:∀h l,η.f (fj h+1) l=g9 h l
 i:∀h l,η.p (fj h) l=pL h l
 n:∀h l,η.p (fj h+1) l=pM h l
noncomputable def m5 (h:Bool) (y:SS) (K:SV->SS->Tr) (v:Value) (X:List SO) (z:List Str) (x:List Fact):Tr:=K (.tm (.n (fj h) [] (c6 h) .e)) ⟨y.loc,.b (lE v::.blob (.strm ⟨ah,.n (fj h+1) [] (c6 h) .e,ah⟩)::.gone::.aJ 5000 1 z []::.gone::.gone::.gone::.gone::X),x⟩
structure NuP (h:Bool) (σ:SS) (v:Value) (X:List SO):Prop where
 e:∃st:bQ,st.r=c6 h/\σ.objs.list=lE v::.blob (.strm st)::.gone::.aJ 5000 1 [] []::.gone::.gone::.gone::.gone::X
 d:asks 1 (rQ h) (hN (iO h)) .e σ.fa=aa ai
theorem nW{H:Type}:∀{l:List H} {i:Nat} {a:H},l[i]? =aa a->l.drop i=a::l.drop (i+1):=@λl=>by
 induction l with
 |nil=>exactλh=>by cases h
 |cons b l p=>
  intro i a h
  cases i with
  |zero=>cases h;rfl
  |succ i=>exact p h
theorem Dn{l:List SO}{j k m p q v O z:SO}(U:l[0]? =aa j)(x:l[1]? =aa k)(u:l[2]? =aa m)(V:l[3]? =aa p)(Y:l[4]? =aa q)(G:l[5]? =aa v)(g:l[6]? =aa O)(y:l[7]? =aa z):l=j::k::m::p::q::v::O::z::l.drop 8:=by
 refine(nW U).trans (congrArg _ ?_)
 rw[nW x,nW u,nW V,nW Y,nW G,nW g,nW y]
noncomputable def acW (k:Nat) (l:List Nat) (a:Tm) (y:List Fact):Option (PLift (asks k l a .e y=aa ai)):=@aY Bool (λo=>asks k l a .e y=o->Option (PLift (asks k l a .e y=aa ai))) (λz=>ah) (λb e=>(aV b).map λh=>⟨by rw[e,h.1]⟩) (asks k l a .e y) rfl
noncomputable def JZ (h:Bool) (y:SS):Option {z:Value//NuP h y z (y.objs.list.drop 8)}:=au (JU y.objs) λv=>au (fT y.objs 1) λb=>au (rj b.1) λst=>au (aV (dj st.1.r (c6 h))) λu=>au (lK y.objs 2) λA=>au (JX y.objs) λq=>au (acU q.1) λm=>au (lK y.objs 4) λj=>au (lK y.objs 5) λx=>au (lK y.objs 6) λk=>au (lK y.objs 7) λg7=>(acW 1 (rQ h) (hN (iO h)) y.fa).map λp=>
 ⟨v.1,⟨⟨st.1,fh u.1,Dn v.2 (b.2.trans (congrArg aa st.2)) A.1 (by rw[<-m.1];exact q.2) j.1 x.1 k.1 g7.1⟩,p.1⟩⟩
noncomputable def yP:bg:=λv u K=>match v with
 |[x,y]=>match x,y with
  |.obj i,.bool h=>@az (λq=>Tr) .ff (@aY _ (λq=>Tr) .ff (λz=>
    ku (fj h) [] (c6 h) .e (ku (fj h+1) [] (c6 h) .e (m5 h u K z.1 (u.objs.list.drop 8) [lG,jj]) (m5 h u K z.1 (u.objs.list.drop 8) [lG]))
     (ku (fj h+1) [] (c6 h) .e (m5 h u K z.1 (u.objs.list.drop 8) [jj]) (m5 h u K z.1 (u.objs.list.drop 8) [])) u.fa) (JZ h u)) (aQ i 0)
  |_,_=>.ff
 |_=>.ff
end
noncomputable def dU (i:Nat):Stmt:=aN Tb.ko.body i
noncomputable def pO:List Stmt:=c5 (aN (c5 (dU 2)) 0)
noncomputable def jI:Stmt:=aN pO 2
noncomputable def gG:Stmt:=aN (cJ jI) 1
theorem acX:Tb.ko.body=[dU 0,dU 1,.If (bX (dU 2)) (cJ (dU 2)) [.If (bX (aN (c5 (dU 2)) 0)) (cJ (aN (c5 (dU 2)) 0)) [aN pO 0,aN pO 1,.If (bX jI) [aN (cJ jI) 0,.If (bX gG) (cJ gG) [aN (c5 gG) 0,aN (c5 gG) 1,aN (c5 gG) 2] (gb gG)] (c5 jI) (gb jI)] (gb (aN (c5 (dU 2)) 0))] (gb (dU 2)),dU 3]:=by kernel_rfl
noncomputable abbrev trB (s:Stmt):List Stmt:=jU s 0
noncomputable def Dp:Stmt->ExceptHandler
 |.Try _ (h::_) _ _ _=>h
 |_=>.ExceptHandler ah ah [] ⟨0,0,0,0⟩
noncomputable abbrev trP (s:Stmt):Pos:=s.pos
noncomputable def ac0:ExceptHandler->Expr
 |.ExceptHandler (aa t) _ _ _=>t
 |_=>.Constant .none 0 ⟨0,0,0,0⟩
noncomputable def hdB:ExceptHandler->List Stmt
 |.ExceptHandler _ _ b _=>b
noncomputable def hdP:ExceptHandler->Pos
 |.ExceptHandler _ _ _ p=>p
noncomputable def pP:Stmt:=aN pO 1
noncomputable def ct (i:Nat):Stmt:=aN (trB pP) i
noncomputable def Dq:Stmt:=aN (hdB (Dp pP)) 0
noncomputable abbrev J0 (e:Expr):Pos:=(eU e 0).pos
noncomputable abbrev J1 (e:Expr):Pos:=(eU (eU e 0) 0).pos
theorem ac3:pP=.Try [ct 0,ct 1] [.ExceptHandler (aa (.Name (af "KeyError") (cH (ac0 (Dp pP))))) ah [.Assign [.Name (af "entityName") (jf Dq)] (.Constant .none 0 (cV Dq).pos) (iE Dq)] (hdP (Dp pP))] [] [] (trP pP):=by kernel_rfl
theorem ac4:ct 0=.Assign [.Name (af "entityName") (jf (ct 0))] (.Call (.Attribute (.Name (af "entitiesTrie") (J1 (cV (ct 0)))) (af "longest_prefix") (J0 (cV (ct 0)))) [gf (fi (cV (ct 0)))] [] (cH (cV (ct 0)))) (iE (ct 0)):=by kernel_rfl
theorem ac5:ct 1=.Assign [.Name (af "entityLength") (jf (ct 1))] (.Call (.Name (af "len") (uU (cV (ct 1)))) [.Name (af "entityName") (cH (gf (fi (cV (ct 1)))))] [] (cH (cV (ct 1)))) (iE (ct 1)):=by kernel_rfl
noncomputable abbrev jJ (W:Wd):Gx:=gi (WS W) Tb.ko.scope 5 [(133,4,uH),(163,1,Ct),(220,3,yF),(275,5,yP)]
noncomputable def vc:Tm->Tm:=Tm.rec .e λz z a z z z=>a
noncomputable def pQ (K:Option (Tm×Nat)->List Fact->Tr):Nat->Tm->List Fact->Tr:=eT (λz y=>K ah y) λn p t y=>match n with
 |0=>K ah y
 |n+1=>@az (λz=>Tr) (p (vc t) y) (ku 23 [] t .e (K (aa (t,n+2))) (p (vc t)) y) (aD (n+2) 9)
noncomputable def ve (t:Tm) (y:List Fact):Option Nat:=@az (λz=>Option Nat) (@eT (λz=>Option Nat) ah (λn z=>aa (n+1)) (jg y t)) (aa 0) (dj t (lit []))
noncomputable def rR (K:Fl->SS->Tr) (m:SS) (o:Option (Tm×Nat)) (z:List Fact):Tr:=match o with
 |some (t,n)=>K .next ⟨(af "entityLength",.int n)::(af "entityName",.tm t)::m.loc,m.objs,z⟩
 |ah=>K .next ⟨(af "entityName",.none)::m.loc,m.objs,z⟩
noncomputable def Dr (G:Gx) (y:SS) (K:Fl->SS->Tr):Tr:=(eG (ex 60 G) [gf (fi (cV (ct 0)))] y λj m=>match j with
 |[.tm t]=>match ve t m.fa with
  |some n=>@az (λz=>Tr) .ff (pQ (rR K m) n t m.fa) (aD n 100)
  |ah=>.ff
 |_=>.ff).t
noncomputable def Ds (y:SS) (K:Fl->SS->Tr):Tr:=match lk (af "entityName") y.loc with
 |some (.tm t)=>match asks 23 [] t .e y.fa with
  |some ai=>K .next ⟨(af "output",.tm (.n 22 [] t .e))::y.loc,y.objs,y.fa⟩
  |_=>.ff
 |_=>.ff
noncomputable abbrev SC:=SS->(Fl->SS->Tr)->Tr
noncomputable def pR (G:Gx) (st:Stmt):SC:=λy K=>((ex 60 G).S st y K).t
noncomputable def nX (ss:List SC):SC:=bE (λy K=>K .next y) (λs z p y K=>s y λf x=>nextT f (p x K) (K f x)) ss
noncomputable def vf (G:Gx) (t:Expr) (a b:SC):SC:=λy K=>((ex 60 G).T t y λx m=>Cj x m (a · K) (b · K)).t
noncomputable def vg (G:Gx) (b:List Stmt):SC:=λy K=>(di (ex 60 G) b y K).t
noncomputable def J2 (W:Wd):SC:=
 let G:=jJ W
 nX [pR G (dU 0),pR G (dU 1),vf G (bX (dU 2)) (vg G (cJ (dU 2))) (nX [vf G (bX (aN (c5 (dU 2)) 0)) (vg G (cJ (aN (c5 (dU 2)) 0))) (nX [pR G (aN pO 0),Dr G,vf G (bX jI) (nX [pR G (aN (cJ jI) 0),vf G (bX gG) (vg G (cJ gG)) (nX [Ds,pR G (aN (c5 gG) 1),pR G (aN (c5 gG) 2)])]) (vg G (c5 jI))])])]
noncomputable def iG (v:Value) (r:Tm) (y:SO) (x:List Str) (z o5 G H:SO) (X:List SO):List SO:=lE v::.blob (.strm ⟨ah,r,ah⟩)::y::.aJ 5000 1 x []::z::o5::G::H::X
noncomputable def yR (c:Nat):List (Str×SV):=[(af "self",.obj 0),(af "allowedChar",.str ⟨#[c]⟩),(af "fromAttribute",.bool ai)]
structure nY (η:Ev):Prop extends EvEn η where
 nu:JY η
section
open Nu
theorem ay.fa{D:Wd}{y:SS}{fa:List Fact}(ok:aT D.η fa):ay D y ⟨y.loc,y.objs,fa⟩:=λc z s R=>⟨let⟨m,l,r⟩:=R.R;⟨m,l,r⟩,R.tp,ok⟩
theorem J3{k:Ev}(h:Bool)(a b:List Nat):qy k (fj h) [] a b=k.f (fj h) a/\qy k (fj h+1) [] a b=k.f (fj h+1) a:=by cases h<;>exact⟨rfl,rfl⟩
theorem ac6(z:Ev)(k:Nat):((rN k).ev z).length<=(z.v 8).length:=by
 induction k with
 |zero=>show((z.v 8).drop 1).length<=_;exact(Mh _ _).length_le
 |succ k p=>exact aq (show(((rN k).ev z).drop 1).length<=_ from(Mh _ _).length_le) p
theorem ac7(h:Bool):((rQ h).all λc=>dP h c)=true:=by cases h<;>decide+kernel
set_option tactic.hygienic true in
theorem ac8(W:Wd)(V:JY W.η):dm (WS W) (275,5,yP):=λG H hT hn xs p K z=>by
 have k:(yP xs p K).h:=z
 unfold yP at k
 split at k
 ·rename_i x y
  split at k
  ·rename_i i h
   cases q0:aQ i 0 with
   |false=>rw[q0] at k;exact k.elim
   |true=>
    obtain rfl:=bJ q0
    cases q:JZ h p with
    |none=>rw[q] at k;exact k.elim
    |some z=>
     rw[q] at k
     obtain⟨v,⟨⟨st,y1,e⟩,ha⟩⟩:=z
     have h1:(ku (fj h) [] (c6 h) .e (ku (fj h+1) [] (c6 h) .e (m5 h p K v (p.objs.list.drop 8) [lG,jj]) (m5 h p K v (p.objs.list.drop 8) [lG]))
      (ku (fj h+1) [] (c6 h) .e (m5 h p K v (p.objs.list.drop 8) [jj]) (m5 h p K v (p.objs.list.drop 8) [])) p.fa).h:=k
     refine av.fa λok=>?_
     rw[H] at ok
     have d1:cF W.η 1 (rQ h) ((hN (iO h)).ev W.η) []=true:=mj ha ok
     obtain⟨c,ec,hc⟩:=kX.mp d1
     have hR:(c6 h).ev W.η=c::(rN (iO h+1)).ev W.η:=by show(hN (iO h)).ev W.η++_=_;rw[ec];rfl
     have hd:dP h c=true:=bZ.mp (ac7 h) c (qU hc)
     have hl:((c6 h).ev W.η).length<=640:=by
      rw[hR]
      exact aq (d9 (aq (ac6 W.η _) V.z)) (by decide)
     refine av.ph (acQ (W:=W) (X:=p.objs.list.drop 8) H hT hn e (l:=(c6 h).ev W.η) (by rw[y1]) ⟨c,_,hR,hd⟩ hl λqq=>?_)
     have leaf:∀{fa:List Fact},aT W.η fa->(m5 h p K v (p.objs.list.drop 8) (kF h ((c6 h).ev W.η)) fa).h->∃x' j,gz G.D (.ss (lJ h ((c6 h).ev W.η))) x'/\ay G.D ⟨p.loc,.b (bh v ⟨ah,lit (g9 h ((c6 h).ev W.η)),ah⟩ 5000 1 (kF h ((c6 h).ev W.η)) []++p.objs.list.drop 8),p.fa⟩ j/\hh K x' j:=λ{fa} A hk=>by
      refine⟨_,_,λρ u r=>?_,?_,hk⟩
      ·obtain⟨t,rfl⟩:=r
       refine⟨t,?_⟩
       congr 1
       refine(gj ?_).symm
       rw[H]
       exact((J3 h _ _).1).trans (V.o h _)
      ·rw[H]
       refine ay.trans (ay.fa A) (ay.objs (.cons (.refl _) (.cons (.strm ?_) (cC.all _))))
       exact((J3 h _ _).2).trans (V.r h _)
     have D:∀{b:Bool},cF W.η (fj h) [] ((c6 h).ev W.η) (Tm.ev W.η .e)=b->pL h ((c6 h).ev W.η)=b:=λe=>by
      rw[<-V.i h,<-e];cases h<;>rfl
     have C:∀{b:Bool},cF W.η (fj h+1) [] ((c6 h).ev W.η) (Tm.ev W.η .e)=b->pM h ((c6 h).ev W.η)=b:=λe=>by
      rw[<-V.n h,<-e];cases h<;>rfl
     have B:∀{a b:Bool},pL h ((c6 h).ev W.η)=a->pM h ((c6 h).ev W.η)=b->kF h ((c6 h).ev W.η)=gF a++bif b then[jj] else[]:=λh1 U=>by unfold kF;rw[h1,U]
     cases uG h1 ok with
     |t u1 g L U=>cases uG U g with
      |t Y m M O=>exact leaf m (by rw[B (D L) (C M)];exact O)
      |f Y m M O=>exact leaf m (by rw[B (D L) (C M)];exact O)
     |f u1 g L U=>cases uG U g with
      |t Y m M O=>exact leaf m (by rw[B (D L) (C M)];exact O)
      |f Y m M O=>exact leaf m (by rw[B (D L) (C M)];exact O)
  ·exact k.elim
 ·exact k.elim
end
noncomputable abbrev pT (G:Gx) (st:Stmt) (s:SC):Prop:=∀y (K:Fl->SS->Tr),(s y K).h->bc G st y (hh K)
noncomputable abbrev yV (G:Gx) (b:List Stmt) (s:SC):Prop:=∀y (K:Fl->SS->Tr),(s y K).h->aO G b y (hh K)
section
variable{G:Gx}(g:bw G)
include g
theorem rS(st:Stmt):pT G st (pR G st):=λy K h=>((ex 60 G).S st y K).ok h g
theorem yW(b:List Stmt):yV G b (vg G b):=λy K h=>(di (ex 60 G) b y K).ok h g
theorem yX{t:Expr}{b e:List Stmt}{v:Pos}{s q:SC}(p:yV G b s)(u:yV G e q):pT G (.If t b e v) (vf G t s q):=λy K h=>
 iS ((((ex 60 G).T t y _).ok h g).mp λx m z=>(IL z).mp (λy h=>p y K h) λy h=>u y K h)
omit g in
theorem yY{x:List Stmt}{ss:List SC}(h:Each (pT G) x ss):yV G x (nX ss):=by
 induction h with
 |nil=>exactλy K h=>f6 h
 |cons a _ p=>exactλy K h=>cZ ((a y _ h).mp λf v z=>by
   cases f with
   |next=>exact p v K z
   |_=>exact z)
end
theorem ay.to{D:Wd}{L L':List (Str×SV)}{o:OL}{k Y:List Fact}(ok:aT D.η Y)(h:∀x y,lk x L'=aa y->∃z,lk x L=aa z/\∀q v,VR D q z v->VR D q y v):ay D ⟨L,o,k⟩ ⟨L',o,Y⟩:=λc q s R=>⟨let⟨m,l,r⟩:=R.R;⟨m,l,λx y e=>by
 obtain⟨z,p,u⟩:=h x y e
 obtain⟨v,a,b⟩:=r x z p
 exact⟨v,a,u _ _ b⟩⟩,R.tp,ok⟩
noncomputable def yZ (k:Ev) (l:List Nat):Nat->Tm->Prop:=eT (λz=>True) λn p t=>t.ev k=l.take (n+1)/\n+1<=l.length/\p (vc t)
theorem ac9{k:Ev}{t:Tm}{l s:List Nat}(h:(t.ev k).length=1)(z:l=t.ev k++s):yZ k l 1 t:=by
 refine⟨?_,?_,trivial⟩
 ·show t.ev k=l.take 1
  rw[z,<-h,oz]
 ·rw[z,bK,h];exact bL _ _
theorem ada{y:Ev}{q:List Fact}(ok:aT y q):∀(t:Tm) (n:Nat) (l s:List Nat),jg q t=n+1->l=t.ev y++s->yZ y l (n+1) t:=λt=>by
 induction t with
 |e=>intro n l s h;cases h
 |n k j a b x _=>
  intro n l s h v
  have z:=De ok _ n h
  cases JB h with
  |one Y e=>cases e;exact ac9 (Y y ok) v
  |more U L M m V p O e=>
   cases V
   cases e
   have u:l=a.ev y++(b.ev y++s):=by rw[v];exact bY _ _ _
   refine⟨?_,?_,x m l _ p u⟩
   ·show Tm.ev y (.n 5 j a b)=_
    rw[v,<-z,oz]
   ·rw[v,bK,z];exact bL _ _
theorem adb{η:Ev}{y:List Fact}(ok:aT η y){t:Tm}{n:Nat}(h:ve t y=aa n):(t.ev η).length=n/\yZ η (t.ev η) n t:=by
 unfold ve at h
 cases q:dj t (lit []) with
 |true=>rw[q] at h;cases h;rw[fh q];exact⟨rfl,trivial⟩
 |false=>
  rw[q] at h
  have u:@eT (λz=>Option Nat) ah (λn z=>aa (n+1)) (jg y t)=aa n:=h
  cases q2:jg y t with
  |zero=>rw[q2] at u;cases u
  |succ m=>
   rw[q2] at u
   cases u
   exact⟨De ok t m q2,ada ok t m _ [] q2 (cO _).symm⟩
theorem rT(l:List Nat)(k:Nat):tk (ak l) k=ak (l.take k):=rfl
theorem Dt{l:List Nat}(h:l.length<2):cU (ak l) Tb.cG=false:=by
 cases e:cU (ak l) Tb.cG with
 |false=>rfl
 |true=>have:=(yE e).1;rw[cP] at this;exact Om.RV h this
theorem ade{l:List Nat}(h:9<l.length):cU (ak l) Tb.cG=false:=by
 cases e:cU (ak l) Tb.cG with
 |false=>rfl
 |true=>have:=(yE e).2;rw[cP] at this;exact Om.RW h this
inductive Du (η:Ev) (K:Option (Tm×Nat)->List Fact->Tr) (o:Option Str):Prop
 |none (e:o=ah) (fa:List Fact) (ok:aT η fa) (h:(K ah fa).h)
 |some (t:Tm) (n:Nat) (e:o=aa (ak (t.ev η))) (hn:(t.ev η).length=n) (fa:List Fact) (ok:aT η fa) (h:(K (aa (t,n)) fa).h)
theorem adf{k:Ev}(L:EvEn k){l:List Nat}{K:Option (Tm×Nat)->List Fact->Tr}:∀(n:Nat) (t:Tm) (x:List Fact),(pQ K n t x).h->aT k x->yZ k l n t->Du k K (g8 (ak l) (n+1)):=λn=>by
 induction n with
 |zero=>
  intro t x h ok _
  refine .none ?_ x ok h
  rw[pH (by rw[rT];exact Dt (fP (ql _ _) (by decide)))]
  rfl
 |succ n p=>
  intro t x h ok O
  cases n with
  |zero=>
   refine .none ?_ x ok h
   rw[pH (by rw[rT];exact Dt (fP (ql _ _) (by decide))),pH (by rw[rT];exact Dt (fP (ql _ _) (by decide)))]
   rfl
  |succ n=>
   obtain⟨V,M,j⟩:=O
   have y:(l.take (n+2)).length=n+2:=by rw[nq];exact i0 M
   have m:(@az (λz=>Tr) (pQ K (n+1) (vc t) x) (ku 23 [] t .e (K (aa (t,n+2))) (pQ K (n+1) (vc t)) x) (aD (n+2) 9)).h:=h
   cases q:aD (n+2) 9 with
   |false=>
    rw[q] at m
    rw[pH (by rw[rT];exact ade (by rw[y];exact wm λhh=>by rw[we hh] at q;cases q))]
    exact p _ _ m ok j
   |true=>
    rw[q] at m
    have U:cF k 23 [] (t.ev k) (Tm.ev k .e)=cU (tk (ak l) (n+2)) Tb.cG:=by rw[rT,<-V];exact L.e _
    cases uG m ok with
    |t Y v e u=>
     rw[U] at e
     rw[Dh e]
     exact .some t (n+2) (by rw[rT,<-V]) (by rw[V,y]) Y v u
    |f Y v e u=>
     rw[U] at e
     rw[pH e]
     exact p _ _ u v j
theorem aC.kx{H u v:Type}{G:Gx}{KE:SS->Prop}(p:∀e x os,¬G.KX e x os){V:List Addr->H->u->Prop}{R:List Addr->v->Prop}{t:Cx->v->Sem u}{y:SS}{K:H->SS->Prop}(h:aC G V R t y K):aC (G.kx KE) V R t y K:=λc x s w a r=>
 wpAny_mono (h c x s w ⟨a.toRepS,a.cs,a.ok,a.tk,a.rx,a.cv,a.hf⟩ r) (λq q z=>z) λ_ _ ⟨_,_,_,_,_,z⟩=>(p _ _ _ z).elim
theorem adg:∀y∈Tb.ko.scope.names,y.2≠.cell:=by decide+kernel
theorem Dv{W:Wd}(y:nY W.η):bw (jJ W):=pB λx z=>by
 rcases b7.mp z with rfl|z
 ·exact I3 W
 ·rcases b7.mp z with rfl|z
  ·exact IV W
  ·rcases b7.mp z with rfl|z
   ·exact abj W y.toEvEn
   ·obtain rfl:=d8.mp z
    exact ac8 W y.nu
noncomputable def y9 (K:Fl->SS->Tr) (j:List SV) (m:SS):Tr:=match j with
 |[.tm t]=>match ve t m.fa with
  |some n=>@az (λz=>Tr) .ff (pQ (rR K m) n t m.fa) (aD n 100)
  |ah=>.ff
 |_=>.ff
theorem adh(G:Gx)(y:SS)(K:Fl->SS->Tr):Dr G y K=(eG (ex 60 G) [gf (fi (cV (ct 0)))] y (y9 K)).t:=rfl
theorem adi{p nm:Str}:∀{n:Nat},g8 p n=aa nm->cU nm Tb.cG=true:=@λn=>by
 induction n with
 |zero=>exactλh=>by cases h
 |succ n z=>
  intro h
  cases e:cU (tk p n) Tb.cG with
  |true=>rw[Dh e] at h;cases h;exact e
  |false=>rw[pH e] at h;exact z h
theorem adj{p nm:Str}(h:mW p=aa nm):cU nm Tb.cG=true:=adi h
set_option tactic.hygienic true in
theorem adk{W:Wd}(he:nY W.η)(H:nsIn W.K mainGlobals (af "KeyError")=aa ah):pT (jJ W) pP (Dr (jJ W)):=λσ K h=>by
 rw[adh] at h
 have L:dI (jJ W) [gf (fi (cV (ct 0)))] σ (hh (y9 K)):=(eG (ex 60 (jJ W)) [gf (fi (cV (ct 0)))] σ (y9 K)).ok h (Dv he)
 rw[ac3]
 let K2:Fl->SS->Prop:=λfl p=>∃j,ay (WS W) p j/\hh K fl j
 let KE:SS->Prop:=λp=>∃Y,aT W.η Y/\hh K .next ⟨(af "entityName",.none)::p.loc,p.objs,Y⟩
 refine aC.ent (K:=K2) (abn (λu u u h=>h) (by kernel_rfl) adg rfl H (by kernel_rfl) KE ?_ λp ⟨Y,ok,z⟩=>⟨_,ay.fa ok,z⟩) λu u z=>z
 rw[ac4,ac5]
 have hp:dR [gf (fi (cV (ct 0)))]:=by
  have:(iD [gf (fi (cV (ct 0)))]).isSome=true:=by kernel_rfl
  exact((iD _).get this).1
 refine cZ (jD (fM (by kernel_rfl)) (by kernel_rfl) (t6 (λu u u=>rfl) (by kernel_rfl) hp (by kernel_rfl) (kY (v:=.ref 236) (by kernel_rfl) (by kernel_rfl) (Hq (C:=230) (dx:=235) (fs:=Tb.o8) (ci:=Tb.Cm) (f:=227) (by kernel_rfl) (by kernel_rfl) (by kernel_rfl) (by kernel_rfl) hp ((aC.kx (λu u u h=>h) L).mp λys m z=>?_)))))
 unfold hh y9 at z
 split at z
 ·rename_i t
  cases q:ve t m.fa with
  |none=>rw[q] at z;exact z.elim
  |some n=>
   rw[q] at z
   have k:(@az (λu=>Tr) .ff (pQ (rR K m) n t m.fa) (aD n 100)).h:=z
   cases A:aD n 100 with
   |false=>rw[A] at k;exact k.elim
   |true=>
   rw[A] at k
   have z':(pQ (rR K m) n t m.fa).h:=k
   have hn:=aB A
   refine av.fa λok=>?_
   obtain⟨V,e1⟩:=adb (η:=W.η) ok q
   have hs:(ak (t.ev W.η)).length=n:=by rw[cP];exact V
   have R:=adf he.toEvEn n t m.fa z' ok e1
   rw[<-hs] at R
   refine av.conv (xs':=[.val (.ref 236),.ss (ak (t.ev W.η))]) (λD vs r=>by cases r with|cons a b=>cases b with|cons c d=>exact .cons a (.cons c d)) (abH (show 4<=5 by decide) H ?_ (λnm O=>?_) λy1 e u1=>?_)
   ·rw[hs];exact Om.RX hn V hs
   ·have M:Du W.η (rR K m) (mW (ak (t.ev W.η))):=R
    rw[O] at M
    cases M with
    |none e=>cases e
    |some B n' e hn Y U h2=>
     cases e
     refine cZ (jD (fM (by kernel_rfl)) (by kernel_rfl) (Hs (id:="len") (by kernel_rfl) (by kernel_rfl) ((iD _).get (by kernel_rfl)).1 (lg (λu u=>rfl) (fS (x:=.ss (ak (B.ev W.η))) (by kernel_rfl) (by kernel_rfl) (by kernel_rfl) (kZ (H9 (λr=>r) ?_ (f6 ?_)))))))
     ·have:=yE (adj O)
      rw[sizeLine_eq];exact Om.RY this
     ·refine⟨_,ay.to (L':=(af "entityLength",.int n')::(af "entityName",.tm B)::m.loc) U (λx y e=>?_),h2⟩
      rw[bW] at e⊢
      by_cases c1:x=af "entityLength"
      ·rw[if_pos c1] at e⊢
       cases e
       exact⟨_,rfl,λD v r=>by rw[cP,hn] at r;exact r⟩
      ·rw[if_neg c1] at e⊢
       rw[bW] at e⊢
       by_cases c2:x=af "entityName"
       ·rw[if_pos c2] at e⊢
        cases e
        exact⟨_,rfl,λD v r=>r⟩
       ·rw[if_neg c2] at e⊢
        exact⟨y,e,λD v r=>r⟩
   ·have M:Du W.η (rR K m) (mW (ak (t.ev W.η))):=R
    rw[y1] at M
    cases M with
    |none e Y U h2=>exact⟨Y,U,h2⟩
    |some B n' e=>cases e
 ·exact z.elim
section
set_option genSizeOf false
set_option genInjectivity false
set_option genCtorIdx true in
inductive DT where
 |leaf (o r:Tm) (m:Nat)
 |ask (k:Nat) (l:List Nat) (a:Tm) (y n:DT)
noncomputable def DT.ev (x:Ev) (d:DT):List Nat×List Nat×Nat:=@DT.rec (λz=>List Nat×List Nat×Nat) (λo r m=>(o.ev x,r.ev x,m)) (λk l a z z y n=>@az (λz=>List Nat×List Nat×Nat) n y (cF x k l (a.ev x) [])) d
noncomputable def DT.c (o r:Tm) (m:Nat) (u:List Fact) (d:DT):Bool:=@DT.rec (λz=>Bool) (λO x B=>dj o O&&(dj r x&&aQ m B)) (λk l a z z y n=>@aY Bool (λz=>Bool) aj (λv=>@az (λz=>Bool) n y v) (asks k l a .e u)) d
theorem DT.tE{x:Ev}{o r:Tm}{m:Nat}{p:List Fact}(ok:aT x p):∀d:DT,d.c o r m p=ai->d.ev x=(o.ev x,r.ev x,m):=λd=>by
 induction d with
 |leaf O Y B=>
  intro h
  have u:(dj o O&&(dj r Y&&aQ m B))=true:=h
  rw[cD,cD] at u
  rw[fh u.1,fh u.2.1,bJ u.2.2]
  rfl
 |ask k l a y n j g=>
  intro h
  have u:@aY Bool (λz=>Bool) aj (λv=>@az (λz=>Bool) (n.c o r m p) (y.c o r m p) v) (asks k l a .e p)=true:=h
  cases e:asks k l a .e p with
  |none=>rw[e] at u;cases u
  |some v=>
   rw[e] at u
   have q:cF x k l (a.ev x) []=v:=mj e ok
   show@az (λz=>List Nat×List Nat×Nat) (n.ev x) (y.ev x) (cF x k l (a.ev x) [])=_
   rw[q]
   cases v with
   |true=>exact j u
   |false=>exact g u
noncomputable def pN:Nat->Tm
 |0=>lit []
 |n+1=>match n with
  |0=>hN 0
  |n+1=>cat (pN (n+1)) (hN (n+1))
noncomputable def pU (K:Nat):Tm:=cat (lit [38]) (pN K)
noncomputable def lets:List Nat:=(oF 26).map (97+·)++(oF 26).map (65+·)
noncomputable def adl:List Nat:=(oF 10).map (48+·)
noncomputable def adm (e:Bool) (K:Nat) (q:Tm) (j:Nat):DT:=
 let B:=λm=>DT.leaf (cat (.n 22 [] (pN j) .e) (uv (((oF K).drop j).map hN))) q m
 let A:=DT.leaf (pU K) q 1
 .ask 1 [59] (hN (j-1)) (B 0) (@az (λz=>DT) (.ask 1 lets (hN j) A (.ask 1 adl (hN j) A (.ask 1 [61] (hN j) A (B 1)))) (B 1) (e&&aQ j K))
noncomputable def J4 (e:Bool) (K:Nat) (q:Tm):Nat->DT:=eT (.leaf (pU K) q 2) λj p=>@az (λz=>DT) (.leaf (pU K) q 2) (@az (λz=>DT) p (.ask 23 [] (pN (j+1)) (adm e K q (j+1)) p) (aD (j+1) 9)) (aD 2 (j+1))
noncomputable def adn (n:Nat):DT:=J4 ai n (lit []) n
noncomputable def J5 (n:Nat):DT:=J4 aj (n-1) (cat (hN (n-1)) (rN n)) (n-1)
noncomputable def mainD:Nat->Nat->DT:=eT J5 λz p n=>.ask 22 [] (pN n) (.ask 0 [] (rN n) (p (n+1)) (adn n)) (J5 n)
noncomputable def Dw:DT:=.leaf (lit [38]) (cat (hN 0) (rN 1)) 0
noncomputable def J6 (h:Bool):DT:=
 let L:=λm=>DT.leaf (.n (fj h) [] (c6 h) .e) (.n (fj h+1) [] (c6 h) .e) m
 .ask (fj h) [] (c6 h) (.ask (fj h+1) [] (c6 h) (L 6) (L 4)) (.ask (fj h+1) [] (c6 h) (L 5) (L 0))
noncomputable def ado:DT:=.ask 0 [] (rN 1) (.ask 1 [120,88] (hN 1) (.ask 0 [] (rN 2) (.ask 1 (rQ ai) (hN 2) (J6 ai) (.leaf (pU 2) (cat (hN 2) (rN 3)) 3)) (.leaf (pU 2) (lit []) 3)) (.ask 1 (rQ aj) (hN 1) (J6 aj) (.leaf (pU 1) (cat (hN 1) (rN 2)) 3))) (.leaf (pU 1) (lit []) 3)
noncomputable def m6 (c:Nat):DT:=.ask 0 [] rE (.ask 1 [9,10,12,32,13] (hN 0) Dw (.ask 1 [60,38] (hN 0) Dw (.ask 1 [c] (hN 0) Dw (.ask 1 [35] (hN 0) ado (mainD 9 1))))) (.leaf (lit [38]) (lit []) 0)
noncomputable def gH:Nat->List Str
 |0=>[]
 |1=>[af "named-entity-without-semicolon"]
 |2=>[af "expected-named-entity"]
 |3=>[af "expected-numeric-entity"]
 |4=>[lG]
 |5=>[jj]
 |_=>[lG,jj]
noncomputable def J7:List Str->List Str->Bool:=bE (λj=>match j with
 |[]=>ai
 |_::_=>aj) λx z p j=>match j with
 |[]=>aj
 |y::j=>@az (λz=>Bool) aj (p j) (seq x y)
theorem adp:∀{v j:List Str},J7 v j=ai->v=j:=@λv=>by
 induction v with
 |nil=>intro j h;cases j with|nil=>rfl|cons=>cases h
 |cons x v p=>
  intro j h
  cases j with
  |nil=>cases h
  |cons y j=>
   obtain⟨z,u⟩:=iR (a:=seq x y) h
   rw[b9.mp z,p u]
noncomputable def msV (y:List Str):Option {m:Nat//y=gH m}:=@bE Nat (λz=>Option {m:Nat//y=gH m}) ah (λk z p=>gQ ((aV (J7 y (gH k))).map λh=>⟨k,adp h.1⟩) p) [0,1,2,3,4,5,6]
noncomputable def isObj (o:Option SV) (k:Nat):Option (PLift (o=aa (.obj k))):=match o with
 |some (.obj i)=>(aV (aQ i k)).map λh=>⟨by rw[bJ h.1]⟩
 |_=>ah
noncomputable def ads (o:Option SV):Option (PLift (o=aa (.bool ai))):=match o with
 |some (.bool ai)=>aa ⟨rfl⟩
 |_=>ah
structure J8 (c:Nat) (σ:SS):Prop where
 self:lk (af "self") σ.loc=aa (.obj 0)
 at_:lk (af "fromAttribute") σ.loc=aa (.bool ai)
 out:∃x o r m,lk (af "output") σ.loc=aa x/\IsT x o/\aD o.bd 100000=ai/\σ.objs.list[1]? =aa (.blob (.strm ⟨ah,r,ah⟩))/\σ.objs.list[3]? =aa (.aJ 5000 1 (gH m) [])/\(m6 c).c o r m σ.fa=ai
 i:∃v,σ.objs.list[0]? =aa (lE v)
 g2:σ.objs.list[2]? =some .gone
 g4:σ.objs.list[4]? =some .gone
 g5:σ.objs.list[5]? =some .gone
 g6:σ.objs.list[6]? =some .gone
 g7:σ.objs.list[7]? =some .gone
noncomputable def Dy (c:Nat) (y:SS):Option (PLift (J8 c y)):=au (isObj (lk (af "self") y.loc) 0) λp=>au (ads (lk (af "fromAttribute") y.loc)) λu=>au (Cc (af "output") y.loc) λx=>au (fC x.1) λo=>au (aV (aD o.1.bd 100000)) λv=>au (fT y.objs 1) λb=>au (rj b.1) λst=>au (JN (.strm st.1)) λr=>au (JX y.objs) λq=>au (msV q.1) λm=>
 au (aV ((m6 c).c o.1 r.1 m.1 y.fa)) λz=>au (JU y.objs) λV=>au (lK y.objs 2) λA=>au (lK y.objs 4) λg=>au (lK y.objs 5) λj=>au (lK y.objs 6) λk=>(lK y.objs 7).map λg7=>
  ⟨p.1,u.1,⟨x.1,o.1,r.1,m.1,x.2,o.2,v.1,b.2.trans (congrArg aa (st.2.trans (congrArg SO.blob r.2))),by rw[<-m.2];exact q.2,z.1⟩,⟨V.1,V.2⟩,A.1,g.1,j.1,k.1,g7.1⟩
noncomputable def Dz (c:Nat) (x:Fl) (y:SS):Tr:=match x with
 |.next=>@aY _ (λz=>Tr) .ff (λz=>.tt) (Dy c y)
 |_=>.ff
theorem J9{c:Nat}{x:Fl}{y:SS}(h:(Dz c x y).h):x=.next/\J8 c y:=by
 cases x with
 |next=>
  have v:(@aY _ (λu=>Tr) .ff (λu=>.tt) (Dy c y)).h:=h
  cases q:Dy c y with
  |none=>rw[q] at v;exact v.elim
  |some z=>exact⟨rfl,z.1⟩
 |_=>exact h.elim
noncomputable def pV (W:Wd) (v:Value) (c:Nat):Tr:=J2 W ⟨yR c,.b (iG v rE .gone [] .gone .gone .gone .gone []),[]⟩ (Dz c)
end
theorem aC.fa{H x z:Type}{G:Gx}{V:List Addr->H->x->Prop}{R:List Addr->z->Prop}{t:Cx->z->Sem x}{y:SS}{K:H->SS->Prop}(h:aT G.D.η y.fa->aC G V R t y K):aC G V R t y K:=λc v s w a r=>h a.fa c v s w a r
noncomputable abbrev suP (e:Expr):Pos:=e.pos
noncomputable abbrev suL (e:Expr):Expr:=eU e 0
noncomputable abbrev suR (e:Expr):Expr:=eU e 1
noncomputable def c0:Stmt:=aN (c5 gG) 0
theorem adw:c0=.Assign [.Name (af "output") (jf c0)] (.Subscript (.Name (af "entities") (cH (suL (cV c0)))) (.Name (af "entityName") (cH (suR (cV c0)))) (suP (cV c0))) (iE c0):=by kernel_rfl
set_option tactic.hygienic true in
theorem adx{W:Wd}(p:nY W.η):pT (jJ W) c0 Ds:=λy K h=>by
 unfold Ds at h
 split at h
 ·rename_i t m
  cases q:asks 23 [] t .e y.fa with
  |none=>rw[q] at h;exact h.elim
  |some v=>
   cases v with
   |false=>rw[q] at h;exact h.elim
   |true=>
    rw[q] at h
    refine aC.fa λok=>?_
    have u:cU (ak (t.ev W.η)) Tb.cG=true:=by
     have:cF W.η 23 [] (t.ev W.η) (Tm.ev W.η .e)=true:=mj q ok
     rw[<-p.e];exact this
    rw[adw]
    refine jD (fM (by kernel_rfl)) (by kernel_rfl) (qO (kY (v:=.ref 43) (by kernel_rfl) (by kernel_rfl) (fS (x:=.tm t) (by kernel_rfl) (by kernel_rfl) m (W9 (fM (by kernel_rfl)) (by kernel_rfl) (λr=>r) u (z:=.tm (.n 22 [] t .e)) (λk tk=>⟨tk,?_⟩) h))))
    show Fp (kh (ak (t.ev W.η)) Tb.cG) tk=Fp (ak (W.η.f 22 (t.ev W.η))) tk
    rw[p.g _ u]
 ·exact h.elim
noncomputable abbrev jk (y Y z:SV):SO:=.dict [(af "type",y),(af "name",Y),(af "data",.obj 6),(af "selfClosing",z)]
noncomputable abbrev cM:SO:=.list ah [.obj 5,.obj 7]
noncomputable abbrev L3 (o:Str):List (Str×SV):=[(af "self",.obj 0),(af "fromAttribute",.bool ai),(af "output",.ss o)]
theorem vS3(W:Wd)(z:Value)(o v:Str)(r:Tm)(p Y q k:SV)(x:List Str)(y o5:SO)(X:List SO)(u:List Fact)(K:Fl->SS->Prop):nT (jJ W) (dU 3) ⟨L3 o,.b (iG z r (jk p Y q) x y o5 cM (.list ah [k,.ss v]) X),u⟩ K=
 (v.length+o.length<=sizeLine/\K .next ⟨L3 o,.s (.b (iG z r (jk p Y q) x y o5 cM (.list ah [k,.ss v]) X)) 7 (.list ah [k,.ss (v++o)]),u⟩/\True):=by kernel_rfl
theorem adz(W:Wd)(v:Value):(pV W v 34).c=true:=by kernel_rfl
theorem adA(W:Wd)(v:Value):(pV W v 39).c=true:=by kernel_rfl
theorem adB(W:Wd)(v:Value):(pV W v 62).c=true:=by kernel_rfl
theorem rV(y:Addr)(z:List (Addr×Obj))(A B:List Cl)(X:List (Addr×Obj)):(flat (A++(y,z)::B)++X).Perm (flat (A++(y,[])::B)++(z++X)):=by
 rw[tY,tY,ow,bY,bY,bY]
 exact z3 _ (vY _ _ _)
inductive adC (G:Gx) (c:Cx) (ρ:List Addr) (σ:SS) (s:Shared) (i:Nat) (o:SO):Prop
 |mk (y:Addr) (l:List (Addr×Obj)) (hy:ρ[i]? =aa y) (r:OR G.D c.R ρ y o l) (at_:At G (c.X0 (l++c.X)) ρ ⟨σ.loc,OL.s σ.objs i .gone,σ.fa⟩ s)
theorem At.lent{G:Gx}{c:Cx}{x:List Addr}{y:SS}{s:Shared}{i:Nat}{o:SO}(a:At G c x y s)(Y:y.objs.list[i]? =aa o):adC G c x y s i o:=by
 obtain⟨⟨m,⟨M,ad,C,l2,g,U,F,N⟩,V⟩,k,O⟩:=a.toRepS
 obtain⟨A,⟨z,q⟩,B,u,rfl,r,st⟩:=Each.at C Y
 have j:x[i]? =aa z:=by
  rw[<-ad,dH,dY (by simp[u])]
  simp[u]
 exact⟨z,q,j,r,⟨⟨m,⟨A++(z,[])::B,by rw[<-ad];simp,st .gone (z,[]) rfl,((rV _ _ _ _ _).map aS).nodup_iff.mp l2,g,U,F,λp v=>N p ((rV _ _ _ _ _).symm.subset v)⟩,V⟩,k,O⟩,a.cs,⟨a.ok.XB,a.ok.TB,a.ok.hA,a.ok.hk,a.ok.hh,a.ok.hd,a.ok.hu⟩,a.tk,λp v=>bV _ (a.rx p v),a.cv,a.hf⟩
theorem RepS.rW{D:Wd}{c:Cx}{k z:List Addr}{x:SS}{s:Shared}{i:Nat}{o:SO}{y:Addr}{l X:List (Addr×Obj)}(R:RepS D (c.X0 (l++X)) z x s)(p:k<+:z)(G:k[i]? =aa y)(r:OR D c.R k y o l)(h:x.objs.list[i]? =some .gone):RepS D (c.X0 X) z ⟨x.loc,OL.s x.objs i o,x.fa⟩ s:=by
 obtain⟨⟨m2,⟨M,L,l3,g,A,V,C,u⟩,m⟩,j,Y⟩:=R
 obtain⟨A2,⟨q,U⟩,B2,O,rfl,r2,v⟩:=Each.at l3 h
 obtain rfl:U=[]:=r2
 have H:z[i]? =aa q:=by
  rw[<-L,dH,dY (by simp[O])]
  simp[O]
 obtain rfl:q=y:=ju (H.symm.trans (iz p G))
 exact⟨⟨m2,⟨A2++(q,l)::B2,by rw[<-L];simp,v o (q,l) (OR.mono p r),((rV _ _ _ _ _).map aS).nodup_iff.mpr g,A,V,C,λp B=>u p ((rV _ _ _ _ _).subset B)⟩,m⟩,j,Y⟩
theorem adD{G:Gx}(M:∀e m os,¬G.KX e m os){c:Cx}{r:List Stmt}{Q:Flow->Shared->Prop}{E:Value->Shared->Prop}{K:Fl->SS->Tr}{ρ₀:List Addr}(Y:∀j u V,ρ₀<+:j->At G c j u V->(K .next u).h->wpAny G.D.M c.A (execs r c.env) Q E V)(L:∀U u,(K U u).h->U=.next){g:List Stmt}{ss:List SC}(h:Each (pT G) g ss):
 ∀{m:List Addr} {y:SS} {s:Shared},ρ₀<+:m->At G c m y s->(nX ss y K).h->wpAny G.D.M c.A (execs (g++r) c.env) Q E s:=by
 induction h with
 |nil=>exactλ{m y s} p a z=>Y m y s p a z
 |@cons st s0 g ss H _ O=>
  intro m y s p a z
  refine wpAny_execs_cons (wpAny_mono (H y _ z c m s () a trivial) (λf V ⟨j,u,x,k,R,q,z⟩=>?_) λ_ _ ⟨_,_,_,_,_,z⟩=>(M _ _ _ z).elim)
  cases x with
  |next=>obtain rfl:=q;exact O (p.trans k) (a.to k R) z
  |brk=>cases L _ _ z
  |cont=>cases L _ _ z
  |ret v=>cases L _ _ z
noncomputable abbrev adE:List Stmt:=[dU 0,dU 1,.If (bX (dU 2)) (cJ (dU 2)) [.If (bX (aN (c5 (dU 2)) 0)) (cJ (aN (c5 (dU 2)) 0)) [aN pO 0,aN pO 1,.If (bX jI) [aN (cJ jI) 0,.If (bX gG) (cJ gG) [aN (c5 gG) 0,aN (c5 gG) 1,aN (c5 gG) 2] (gb gG)] (c5 jI) (gb jI)] (gb (aN (c5 (dU 2)) 0))] (gb (dU 2))]
theorem adF{W:Wd}(z:nY W.η)(H:nsIn W.K mainGlobals (af "KeyError")=aa ah):∃ss,Each (pT (jJ W)) adE ss/\nX ss=J2 W:=
 have g:=Dv z
 ⟨_,.cons (rS g _) (.cons (rS g _) (.one (yX g (yW g _) (yY (.one (yX g (yW g _) (yY (.cons (rS g _) (.cons (adk z H) (.one (yX g (yY (.cons (rS g _) (.one (yX g (yW g _) (yY (.cons (adx z) (.cons (rS g _) (.one (rS g _))))))))) (yW g _)))))))))))),rfl⟩
theorem RepS.as{D:Wd}{c:Cx}{v:List Addr}{z σ':SS}{s:Shared}(R:RepS D c v z s)(q:∀x y,lk x σ'.loc=aa y->lk x z.loc=aa y)(u:σ'.objs.list=z.objs.list)(B:σ'.fa=z.fa):RepS D c v σ' s:=ay.of q u B c v s R
theorem Ka{W:Wd}(he:nY W.η)(G:nsIn W.K mainGlobals (af "KeyError")=aa ah){v0:Value}{c:Nat}(hc:(pV W v0 c).c=ai){j o5:SO}{O U V g:SV}{v:Str}(hv:v.length<=100000){K:Fl->SS->Prop}
 (k:∀(o r:Tm) (m:Nat) (H:Value) (X:List SO) (C:List Fact),aT W.η C->(m6 c).ev W.η=(o.ev W.η,r.ev W.η,m)->K .next ⟨L3 (ak (o.ev W.η)),.b (iG H r (jk O U V) (gH m) j o5 cM (.list ah [g,.ss (v++ak (o.ev W.η))]) X),C⟩):
 aO (jJ W) Tb.ko.body ⟨yR c,.b (iG v0 rE (jk O U V) [] j o5 cM (.list ah [g,.ss v]) []),[]⟩ K:=λq ρ s u a u=>by
 rw[acX]
 obtain⟨y2,l2,p1,r2,a2⟩:=a.lent (i:=2) (o:=jk O U V) rfl
 obtain⟨y4,l4,o1,r4,a4⟩:=a2.lent (i:=4) (o:=j) rfl
 obtain⟨y5,l5,i1,r5,a5⟩:=a4.lent (i:=5) (o:=o5) rfl
 obtain⟨y6,l6,u1,r6,a6⟩:=a5.lent (i:=6) (o:=cM) rfl
 obtain⟨y7,l7,y1,r7,a7⟩:=a6.lent (i:=7) (o:=.list ah [g,.ss v]) rfl
 have a8:=a7.to (pr _) (a7.toRepS.as (σ':=⟨yR c,.b (iG v0 rE .gone [] .gone .gone .gone .gone []),[]⟩) (λu u e=>e) rfl rfl)
 obtain⟨ss,a1,M⟩:=adF he G
 refine adD (c:=q.X0 (l7++(l6++(l5++(l4++(l2++q.X)))))) (r:=[dU 3]) (K:=Dz c) (ρ₀:=ρ) (λu u u h=>h) (λe1 σ' s' p A z=>?_) (λfl σ' h=>(J9 h).1) a1 (pr _) a8 (by rw[M];exact Tr.tE hc)
 obtain⟨_,R⟩:=J9 z
 obtain⟨x,o,r,m,ho,d1,hb,h1,h3,hd⟩:=R.out
 obtain⟨H,hi⟩:=R.i
 have e:=Dn hi h1 R.g2 h3 R.g4 R.g5 R.g6 R.g7
 have R7:=RepS.rW (c:=q) (X:=l6++(l5++(l4++(l2++q.X)))) A.toRepS p y1 r7 R.g7
 have R6:=RepS.rW (c:=q) (X:=l5++(l4++(l2++q.X))) R7 p u1 r6 (by show(aX σ'.objs.list 7 _)[6]? =_;rw[e];rfl)
 have R5:=RepS.rW (c:=q) (X:=l4++(l2++q.X)) R6 p i1 r5 (by show(aX (aX σ'.objs.list 7 _) 6 _)[5]? =_;rw[e];rfl)
 have R4:=RepS.rW (c:=q) (X:=l2++q.X) R5 p o1 r4 (by show(aX (aX (aX σ'.objs.list 7 _) 6 _) 5 _)[4]? =_;rw[e];rfl)
 have R2:=RepS.rW (c:=q) (X:=q.X) R4 p p1 r2 (by show(aX (aX (aX (aX σ'.objs.list 7 _) 6 _) 5 _) 4 _)[2]? =_;rw[e];rfl)
 have ok:aT W.η σ'.fa:=A.fa
 have R0:=ay.to (D:=WS W) (L':=L3 (ak (o.ev W.η))) ok (λn y Y=>(by
  rw[bW] at Y
  by_cases q1:n=af "self"
  ·rw[if_pos q1] at Y;cases Y;exact⟨_,q1▸R.self,λu u r=>r⟩
  ·rw[if_neg q1,bW] at Y
   by_cases q2:n=af "fromAttribute"
   ·rw[if_pos q2] at Y;cases Y;exact⟨_,q2▸R.at_,λu u r=>r⟩
   ·rw[if_neg q2,bW] at Y
    by_cases q3:n=af "output"
    ·rw[if_pos q3] at Y;cases Y;exact⟨x,q3▸ho,λρ v r=>d1 r⟩
    ·rw[if_neg q3] at Y;cases Y)) q e1 s' R2
 have R1:=R0.as (σ':=⟨L3 (ak (o.ev W.η)),.b (iG H r (jk O U V) (gH m) j o5 cM (.list ah [g,.ss v]) (σ'.objs.list.drop 8)),σ'.fa⟩) (λu u e=>e) (by show _=aX (aX (aX (aX (aX σ'.objs.list 7 _) 6 _) 5 _) 4 _) 2 _;rw[e];rfl) rfl
 have aF:=a.to p R1
 have L:v.length+(ak (o.ev W.η)).length<=sizeLine:=by
  have h2:(ak (o.ev W.η)).length<=100000:=by rw[cP];exact aq (Tm.oH W.kR o) (aB hb)
  rw[sizeLine_eq];exact Om.RZ hv h2
 have B:aO (jJ W) [dU 3] ⟨L3 (ak (o.ev W.η)),.b (iG H r (jk O U V) (gH m) j o5 cM (.list ah [g,.ss v]) (σ'.objs.list.drop 8)),σ'.fa⟩ K:=by
  refine cZ (rD (Dv he) ?_)
  rw[vS3]
  refine⟨L,aC.pre (ay.of (σ':=⟨L3 (ak (o.ev W.η)),.b (iG H r (jk O U V) (gH m) j o5 cM (.list ah [g,.ss (v++ak (o.ev W.η))]) (σ'.objs.list.drop 8)),σ'.fa⟩) (λu u e=>e) rfl rfl) (f6 (k o r m H _ _ ok (DT.tE ok _ hd))),trivial⟩
 exact aC.at (w:=()) B aF p trivial
section
variable{G:Gx}{y:SS}{K:SV->SS->Prop}{z:Pos}
theorem adG{o D M:Expr}{nm A B:Str}{u k1 k2:Pos}{i:Nat}{C:Addr}{fs:List (Str×SV)}{ci:CI}{f:Addr}(ho:Based o)(hl:aQ u.endLine z.line=ai)(hc:aU C G.T.cls=aa ci)(hm:lk nm ci.gO=aa f)(c1:lk nm fs=ah)
 (h:aA G o y λx U=>x=.obj i/\U.objs.list[i]? =aa (.inst C fs)/\aA G D U λy1 V=>aA G M V λy2 j=>tU G (.ref f) [.obj i] [A,B] [y1,y2] j K):aA G (.Call (.Attribute o nm u) [] [⟨aa A,D,k1⟩,⟨aa B,M,k2⟩] z) y K:=λc ρ s qq a qq=>by
 have x1:methodCallForm (0+2) (backTo z (starEach [] c.env)) (backToKw z (keywordEach [⟨aa A,D,k1⟩,⟨aa B,M,k2⟩] c.env))=true:=by
  unfold methodCallForm
  rfl
 refine methodCall_KW (kws:=[⟨aa A,D,k1⟩,⟨aa B,M,k2⟩]) (args:=[]) (pl:=(do return(<-importBound o c.env).getD ai)) (h.go a (pr _) trivial (w:=()) λW1 Q1 x v s' p _ a' q ⟨hx,z1,k⟩=>?_) ?_
 ·subst hx
  obtain⟨b,dx,es,k',m,g,rfl,X,F,fr,I⟩:=a'.inst z1 q
  obtain⟨co,rfl⟩:=a'.jC hc
  obtain⟨a1,a2,a3,a4,a5,a6,a7⟩:=co.oQ _ (fz hm)
  refine method_inst F X I co.plain a1 a2 (fr.qM c1) ?_
  refine callWith_KW0 a'.X a6 rfl ?_ rfl
  show wpAny _ _ (do
   let v<-(do let v<-eval D c.env;standAt z;pure v)
   return v::(<-holding [v] (do
    let v<-(do let v<-eval M c.env;standAt z;pure v)
    return v::(<-holding [v] (pure []))))) _ _ _
  refine wpAny_bind (wpAny_bind (k.go a' p trivial (w:=()) λl1 V y1 v1 m1 p1 H g1 i1 f1=>wpAny_bind (wpAny_standAt (wpAny_pure ?_))))
  refine wpAny_bind (wpAny_holding (wpAny_bind (wpAny_bind (f1.go g1 p1 trivial (w:=()) λh1 j y2 v2 b1 o1 O Y u1 d1=>wpAny_bind (wpAny_standAt (wpAny_pure ?_))))))
  refine wpAny_bind (wpAny_holding (wpAny_pure (wpAny_pure (wpAny_pure ⟨Y.X,?_⟩))))
  exact d1.call Y o1 (vs:=[.ref b]) (us:=[v1,v2]) (.one ((q.mono H).mono O)) (.cons (i1.mono O) (.one u1))
 ·show(do
   let ov<-attributeBase o nm c.env (eval o c.env)
   standAt u.atName
   methodCall o nm u z c.env ov (0+2) (backTo z (starEach [] c.env)) (backToKw z (keywordEach [⟨aa A,D,k1⟩,⟨aa B,M,k2⟩] c.env)))=_
  rw[ho]
  congr 1
  funext ov
  congr 1
  funext _
  unfold methodCall
  rw[x1]
  show(do
   let(f,first)<-holding [ov] (calleeOf ai o c.env ov nm)
   let L<-methodCallPos ai o c.env u z
   callWith L f first (backTo z (starEach [] c.env)) (backToKw z (keywordEach [⟨aa A,D,k1⟩,⟨aa B,M,k2⟩] c.env)))=_
  have e:methodCallPos ai o c.env u z=pure z:=by
   unfold methodCallPos
   rw[bJ hl,beq_self_eq_true];rfl
  rw[e]
  rfl
end
structure Kf (W:Wd):Prop where
 key:nsIn W.K mainGlobals (af "KeyError")=aa ah
 dflt:∃o n,W.K.lookup 276=aa o/\o.data=.seq #[.none,.bool aj] n
noncomputable def nZ:Stmt:=aN Tb.yg.body 0
noncomputable abbrev pW (s:Stmt):Expr:=jT s 0
noncomputable abbrev xpP (s:Stmt):Pos:=s.pos
noncomputable def Kc (e:Expr) (i:Nat):Expr:=match e with
 |.Call _ _ z _=>match(z.drop i).head? with
  |some k=>k.value
  |none=>.Constant .none 0 ⟨0,0,0,0⟩
 |_=>.Constant .none 0 ⟨0,0,0,0⟩
noncomputable def Kd (e:Expr) (i:Nat):Pos:=match e with
 |.Call _ _ z _=>match(z.drop i).head? with
  |some k=>k.pos
  |none=>⟨0,0,0,0⟩
 |_=>⟨0,0,0,0⟩
noncomputable abbrev coP (e:Expr):Pos:=e.pos
theorem adJ:Tb.yg.body=[.Expr (.Call (.Attribute (.Name (af "self") (J1 (pW nZ))) (af "consumeEntity") (J0 (pW nZ))) [] [⟨aa (af "allowedChar"),.Name (af "allowedChar") (cH (Kc (pW nZ) 0)),Kd (pW nZ) 0⟩,⟨aa (af "fromAttribute"),.Constant (.bool ai) 0 (coP (Kc (pW nZ) 1)),Kd (pW nZ) 1⟩] (cH (pW nZ))) (xpP nZ)]:=by kernel_rfl
noncomputable def za:List Str:=[af "self",af "allowedChar",af "fromAttribute"]
theorem adK:za.Nodup:=by decide+kernel
noncomputable def adL:List Str:=[af "allowedChar",af "fromAttribute"]
theorem adM{W:Wd}(A:Kf W)(s:Shared)(X:W.K.In s.heap)(v a f:Value):BindsTo s Tb.ko.fd ⟨[v],adL.zip [a,f]⟩ [(af "self",v),(af "allowedChar",a),(af "fromAttribute",f)]:=by
 obtain⟨o,n,x,u⟩:=A.dflt
 exact binds_K X rfl x u rfl rfl
theorem adN{G:Gx}{y:SS}{K:SV->SS->Prop}{z:Nat}{v:Pos}(k:K (.bool ai) y):aA G (.Constant (.bool ai) z v) y K:=λc q s u a u=>Constant_bool (a.give (V:=VR _) (x:=.bool ai) (pr _) rfl k)
theorem aO.Ke{W:Wd}{m:Nat}{cons:List (Addr×Nat×bg)}{b:List Stmt}{y:SS}{K:Fl->SS->Prop}(Y:5<=m)(h:aO (jJ W) b y K):aO (gi (WS W) Tb.ko.scope m cons) b y K:=λc v s z a z=>h c v s () ⟨a.toRepS,a.cs,a.ok.less Y,a.tk,a.rx,λx u=>Om.nm u,a.hf⟩ trivial
theorem adO{W:Wd}(he:nY W.η)(A:Kf W){M:Value}{c:Nat}(hc:(pV W M c).c=ai){L o5:SO}{b1 h B D:SV}{v:Str}(hv:v.length<=100000){j:List (Str×SV)}{K:SV->SS->Prop}
 (k:∀(o r:Tm) (m:Nat) (H:Value) (X:List SO) (Y:List Fact),aT W.η Y->(m6 c).ev W.η=(o.ev W.η,r.ev W.η,m)->K .none ⟨j,.b (iG H r (jk b1 h B) (gH m) L o5 cM (.list ah [D,.ss (v++ak (o.ev W.η))]) X),Y⟩)
 {V:Nat} {cs:b3} {KX:Value->List Addr->SS->Prop} {con:List (Addr×Nat×bg)} {sc:List (Nat×Stmt×jW)} {ec:List (Nat×Expr×jX)} {cv:List (Str×Nat)} {fr:Bool} (G:7<=V):
 av (⟨WS W,Tb.T,V,cs,KX,con,sc,ec,cv,fr⟩:Gx) (.ref 290) [.obj 0,.str ⟨#[c]⟩] ⟨j,.b (iG M rE (jk b1 h B) [] L o5 cM (.list ah [D,.ss v]) []),[]⟩ K:=by
 obtain⟨g,rfl⟩:∃g,V=g+2:=⟨V-2,by exact Om.R8 G⟩
 have O:5<=g:=by exact Om.R9 G
 refine j8 (i:=Tb.yg) (n:=g+1) (by kernel_rfl) rfl (by kernel_rfl) (by kernel_rfl) ?_
 rw[adJ]
 refine cZ (G0 (fM (by kernel_rfl)) (adG (i:=0) (C:=762) (fs:=_) (ci:=Tb.IP) (f:=283) (λz z z=>rfl) (by kernel_rfl) (by kernel_rfl) (by kernel_rfl) ?_ (fS (x:=.obj 0) (by kernel_rfl) (by kernel_rfl) (by kernel_rfl) ⟨rfl,rfl,fS (x:=.str ⟨#[c]⟩) (by kernel_rfl) (by kernel_rfl) (by kernel_rfl) ?_⟩)))
 ·kernel_rfl
 ·refine adN ?_
  refine U7 (i:=Tb.ko) (n:=g) (by kernel_rfl) rfl (yR c) (λq U=>za.zip (q++U)) ?_ ?_ ?_ ?_
  ·intro s q U X p u
   obtain⟨v,rfl⟩:=ahE.mp p
   obtain⟨x,U,rfl⟩:=List.exists_cons_of_length_eq_add_one u
   obtain⟨y,rfl⟩:=ahE.mp (Nat.succ.inj u)
   exact adM A s X v x y
  ·intro q U p u y hy
   have h3:=(Mv hy).1
   have:∀y∈za,Tb.ko.scope.names.lookup y=some .local:=by decide+kernel
   exact this _ h3
  ·intro ρ q U p u x y hx
   cases p using Each.ec with
   |cons r1 p=>
    cases p
    exact G7 (ps:=za) (xs:=[.obj 0,.str ⟨#[c]⟩,.bool ai]) adK (.cons r1 u) hx
  ·refine aO.Ke O (Ka he A.key hc hv λo r m H X Y p u=>?_)
   exact⟨λr a e=>(by cases r;cases e),f6 (k o r m H X Y p u)⟩
theorem adP{W:Wd}(G:nY W.η)(A:Kf W){q:Value}{c:Nat}(D:(pV W q c).c=ai){p o5:SO}{L M O V:SV}{v:Str}(u:v.length<=100000){z:List (Str×SV)}{K:SV->SS->Prop}
 (k:∀(o r:Tm) (m:Nat) (H:Value) (X:List SO) (Y:List Fact),aT W.η Y->(m6 c).ev W.η=(o.ev W.η,r.ev W.η,m)->K .none ⟨z,.b (iG H r (jk L M O) (gH m) p o5 cM (.list ah [V,.ss (v++ak (o.ev W.η))]) X),Y⟩)
 {y:Nat} {cs:b3} {KX:Value->List Addr->SS->Prop} {con:List (Addr×Nat×bg)} {U:List (Nat×Stmt×jW)} {B:List (Nat×Expr×jX)} {h:List (Str×Nat)} {fr:Bool} (j:7<=y):
 av (⟨WS W,Tb.T,y,cs,KX,con,U,B,h,fr⟩:Gx) (.ref 283) [.obj 0,.str ⟨#[c]⟩,.bool ai] ⟨z,.b (iG q rE (jk L M O) [] p o5 cM (.list ah [V,.ss v]) []),[]⟩ K:=by
 obtain⟨g,rfl⟩:∃g,y=g+1:=⟨y-1,(qm (aq (by decide) j)).symm⟩
 refine j8 (i:=Tb.ko) (n:=g) (by kernel_rfl) rfl (by kernel_rfl) (by kernel_rfl) (aO.Ke (aq (by decide) (lT j)) (Ka G A.key D u λo r m H X Y x C=>?_))
 exact k o r m H X Y x C
noncomputable abbrev Wd.at (W:Wd) (u:Ev) (ok:f5 u):Wd:={W with η:=u,kR:=ok}
noncomputable def dF (u:Ev) (x:SV):SV:=match x with
 |.tm t=>.ss (ak (t.ev u))
 |.im k t=>.si (u.i k (t.ev u))
 |.bm k l a b=>.sb (cF u k l (a.ev u) (b.ev u))
 |x=>x
noncomputable def DA (u:Ev) (b:fR):fR:=match b with
 |.strm st=>.strm ⟨st.d.map λt=>lit (t.ev u),lit (st.r.ev u),st.un.map λt=>lit (t.ev u)⟩
 |b=>b
noncomputable def gI (u:Ev) (o:SO):SO:=match o with
 |.inst C z=>.inst C (z.map λp=>(p.1,dF u p.2))
 |.dict z=>.dict (z.map λp=>(p.1,dF u p.2))
 |.bz z=>.bz (z.map λp=>(lit (p.1.ev u),dF u p.2))
 |.list p v=>.list p (v.map (dF u))
 |.tup v=>.tup (v.map (dF u))
 |.aI f x=>.aI f (dF u x)
 |.blob b=>.blob (DA u b)
 |.cell x=>.cell (x.map (dF u))
 |.eu z=>.eu (z.map λp=>(lit (p.1.ev u),dF u p.2))
 |.aJ n k y v=>.aJ n 0 (qB u k++y) (v.map (dF u))
 |o=>o
noncomputable def fV (o:SO):Bool:=match o with
 |.aJ n _ _ _=>aD 5000 n
 |_=>ai
section
variable{W:Wd}{u:Ev}{ok:f5 u}{ρ:List Addr}
theorem VR.fl{x:SV}{v:Value}:VR W ρ (dF u x) v↔VR (W.at u ok) ρ x v:=by cases x<;>exact Iff.rfl
theorem Each.iH{H m z:Type}{R:m->z->Prop}{Q:H->z->Prop}{f:H->m}(h:∀x y,R (f x) y↔Q x y):∀{v:List H} {j:List z},Each R (v.map f) j↔Each Q v j:=@λv=>by
 induction v with
 |nil=>exactλ{j}=>⟨λh=>by cases h;exact .nil,λh=>by cases h;exact .nil⟩
 |cons x v p=>exactλ{j}=>⟨λq=>by cases q using Each.ec with|cons a b=>exact .cons ((h _ _).mp a) (p.mp b),λq=>by cases q using Each.ec with|cons a b=>exact .cons ((h _ _).mpr a) (p.mpr b)⟩
theorem aM.fl{xs:List SV}{q:List Value}:aM W ρ (xs.map (dF u)) q↔aM (W.at u ok) ρ xs q:=Each.iH λx v=>VR.fl
theorem OR.fl{X:List (Addr×Obj)}{a:Addr}{o:SO}{l:List (Addr×Obj)}{b1 b2:fR->Addr->List (Addr×Obj)->Prop}(G:∀b,b1 (DA u b) a l↔b2 b a l):(fV o=ai->OR {W with bl:=b1} X ρ a (gI u o) l->OR {W.at u ok with bl:=b2} X ρ a o l)/\(OR {W.at u ok with bl:=b2} X ρ a o l->OR {W with bl:=b1} X ρ a (gI u o) l):=by
 have j:∀x v,VR {W with bl:=b1} ρ (dF u x) v↔VR {W.at u ok with bl:=b2} ρ x v:=λx v=>VR.fl (W:={W with bl:=b1}) (ok:=ok)
 have B:∀(p:Str×SV) (e:DictEntry),FE {W with bl:=b1} ρ (p.1,dF u p.2) e↔FE {W.at u ok with bl:=b2} ρ p e:=λp e=>⟨λh=>⟨h.key,h.hash,(j _ _).mp h.val⟩,λh=>⟨h.key,h.hash,(j _ _).mpr h.val⟩⟩
 have D:∀(p:Str×SV) (e:Str×Value),KE {W with bl:=b1} ρ (p.1,dF u p.2) e↔KE {W.at u ok with bl:=b2} ρ p e:=λp e=>⟨λh=>⟨h.k,(j _ _).mp h.v⟩,λh=>⟨h.k,(j _ _).mpr h.v⟩⟩
 have Y:∀(p:Tm×SV) (e:Str×Value),TE {W with bl:=b1} ρ (lit (p.1.ev u),dF u p.2) e↔TE {W.at u ok with bl:=b2} ρ p e:=λp e=>⟨λh=>⟨h.k,(j _ _).mp h.v⟩,λh=>⟨h.k,(j _ _).mpr h.v⟩⟩
 cases o with
 |inst C M=>exact⟨λ_ ⟨H,L,n,e,f⟩=>⟨H,L,n,e,(Each.iH B).mp f⟩,λ⟨H,L,n,e,f⟩=>⟨H,L,n,e,(Each.iH B).mpr f⟩⟩
 |dict M=>exact⟨λ_ ⟨o,y,e,q,f⟩=>⟨o,y,e,q,(Each.iH D).mp f⟩,λ⟨o,y,e,q,f⟩=>⟨o,y,e,q,(Each.iH D).mpr f⟩⟩
 |bz M=>exact⟨λ_ ⟨o,y,e,q,f⟩=>⟨o,y,e,q,(Each.iH Y).mp f⟩,λ⟨o,y,e,q,f⟩=>⟨o,y,e,q,(Each.iH Y).mpr f⟩⟩
 |eu M=>exact⟨λ_ ⟨o,y,e,m,q,f⟩=>⟨o,y,e,m,q,(Each.iH Y).mp f⟩,λ⟨o,y,e,m,q,f⟩=>⟨o,y,e,m,q,(Each.iH Y).mpr f⟩⟩
 |list p xs=>exact⟨λ_ ⟨U,g,n,e,q,f⟩=>⟨U,g,n,e,q,(Each.iH j).mp f⟩,λ⟨U,g,n,e,q,f⟩=>⟨U,g,n,e,q,(Each.iH j).mpr f⟩⟩
 |tup xs=>exact⟨λ_ ⟨g,n,e,f⟩=>⟨g,n,e,(Each.iH j).mp f⟩,λ⟨g,n,e,f⟩=>⟨g,n,e,(Each.iH j).mpr f⟩⟩
 |aI f x=>exact⟨λ_ ⟨v,e,q⟩=>⟨v,e,(j _ _).mp q⟩,λ⟨v,e,q⟩=>⟨v,e,(j _ _).mpr q⟩⟩
 |blob b=>exact⟨λV=>(G b).mp,(G b).mpr⟩
 |cell x=>
  cases x with
  |none=>exact⟨λ_ ⟨o,v,e,d,q⟩=>⟨o,v,e,d,q⟩,λ⟨o,v,e,d,q⟩=>⟨o,v,e,d,q⟩⟩
  |some x=>exact⟨λ_ ⟨o,v,e,d,q⟩=>⟨o,v,e,d,q.imp λV h=>⟨h.1,(j _ _).mp h.2⟩⟩,λ⟨o,v,e,d,q⟩=>⟨o,v,e,d,q.imp λV h=>⟨h.1,(j _ _).mpr h.2⟩⟩⟩
 |aJ n k A xs=>
  have hz:fV (.aJ n k A xs)=ai->(qB u k).length<=n:=λO=>by
   cases k with
   |zero=>exact bP _
   |succ k=>exact aq (ok.qz k) (aB O)
  exact⟨λO ⟨obs,g,z,e,q,hn,f⟩=>⟨obs,g,z,e,q,hz O,(Each.iH j).mp f⟩,λ⟨obs,g,z,e,q,hn,f⟩=>⟨obs,g,z,e,q,bP _,(Each.iH j).mpr f⟩⟩
 |cz f=>exact⟨λ_ ⟨p,e,h,q⟩=>⟨p,e,h,q⟩,λ⟨p,e,h,q⟩=>⟨p,e,h,q⟩⟩
 |gone=>exact⟨λV=>id,id⟩
theorem Kg(u:Ev)(q x:Str)(z v j g D:Nat)(y:Option Nat):(bq q x z v j g D y).map (gI u)=bq q x z v j g D y:=by cases y<;>rfl
theorem DC{b:fR}{a:Addr}{l:List (Addr×Obj)}:(WS W).bl (DA u b) a l↔(WS (W.at u ok)).bl b a l:=by
 have L:∀{y:List SO} {V:List Cl},y.map (gI u)=y->y.all fV=ai->(LR W.no [] (V.map aS) y V↔LR (W.at u ok).no [] (V.map aS) y V):=λ{y V} e Y=>by
  have h2:∀{os:List SO} {ls:List Cl} {ρ:List Addr},os.all fV=ai->(LR W.no [] ρ (os.map (gI u)) ls↔LR (W.at u ok).no [] ρ os ls):=@λos=>by
   induction os with
   |nil=>exactλ{ls ρ} _=>⟨λh=>by cases h;exact .nil,λh=>by cases h;exact .nil⟩
   |cons o os p=>
    intro ls ρ Y
    rw[jQ,cD] at Y
    have v:∀q:Cl,OR W.no [] ρ q.1 (gI u o) q.2↔OR (W.at u ok).no [] ρ q.1 o q.2:=λq=>have z:=OR.fl (W:=W) (ok:=ok) (X:=[]) (ρ:=ρ) (a:=q.1) (o:=o) (l:=q.2) (b1:=λk k k=>False) (b2:=λk k k=>False) (λk=>Iff.rfl);⟨z.1 Y.1,z.2⟩
    exact⟨λq=>by cases q using Each.ec with|cons a b=>exact .cons ((v _).mp a) ((p Y.2).mp b),λq=>by cases q using Each.ec with|cons a b=>exact .cons ((v _).mpr a) ((p Y.2).mpr b)⟩
  have:=h2 (ls:=V) (ρ:=V.map aS) Y
  rwa[e] at this
 have Y:∀H O x M j g D U,(bq H O x M j g D U).all fV=true:=λk k k k k k k U=>by cases U<;>rfl
 have A:∀o:Option Tm,((o.map λt=>lit (t.ev u)).map λt=>t.ev W.η)=o.map λt=>t.ev u:=λo=>by cases o<;>rfl
 cases b with
 |other n=>exact⟨λ⟨y,V,L,e,G,m⟩=>m.elim,λ⟨y,V,L,e,G,m⟩=>m.elim⟩
 |strm st=>
  constructor
  ·rintro⟨y,V,C,e,G,H,O,x,M,j,g,D,U,rfl,I⟩
   have B:dM ((st.d.map λt=>lit (t.ev u)).map λt=>t.ev W.η) (st.r.ev u) ((st.un.map λt=>lit (t.ev u)).map λt=>t.ev W.η) H O x M j g D U:=I
   rw[A,A] at B
   exact⟨_,V,(L (Kg u _ _ _ _ _ _ _ _) (Y _ _ _ _ _ _ _ _)).mp C,e,G,H,O,x,M,j,g,D,U,rfl,B⟩
  ·rintro⟨y,V,C,e,G,H,O,x,M,j,g,D,U,rfl,I⟩
   refine⟨_,V,(L (Kg u _ _ _ _ _ _ _ _) (Y _ _ _ _ _ _ _ _)).mpr C,e,G,H,O,x,M,j,g,D,U,rfl,?_⟩
   show dM ((st.d.map λt=>lit (t.ev u)).map λt=>t.ev W.η) (st.r.ev u) ((st.un.map λt=>lit (t.ev u)).map λt=>t.ev W.η) H O x M j g D U
   rw[A,A];exact I
theorem LR.fl{X:List (Addr×Obj)}:∀{os:List SO} {y:List Cl},(os.all fV=ai->LR (WS W) X ρ (os.map (gI u)) y->LR (WS (W.at u ok)) X ρ os y)/\(LR (WS (W.at u ok)) X ρ os y->LR (WS W) X ρ (os.map (gI u)) y):=@λos=>by
 have v:∀(o:SO) (q:Cl),(fV o=ai->OR (WS W) X ρ q.1 (gI u o) q.2->OR (WS (W.at u ok)) X ρ q.1 o q.2)/\(OR (WS (W.at u ok)) X ρ q.1 o q.2->OR (WS W) X ρ q.1 (gI u o) q.2):=λo q=>OR.fl (W:=W) (ok:=ok) (λz=>DC)
 induction os with
 |nil=>exactλ{y}=>⟨λz h=>by cases h;exact .nil,λh=>by cases h;exact .nil⟩
 |cons o os p=>
  intro y
  exact⟨λx q=>by
   rw[jQ,cD] at x
   cases q using Each.ec with|cons a b=>exact .cons ((v _ _).1 x.1 a) (p.1 x.2 b),λq=>by cases q using Each.ec with|cons a b=>exact .cons ((v _ _).2 a) (p.2 b)⟩
noncomputable def iW (u:Ev) (z:List (Str×SV)):List (Str×SV):=z.map λp=>(p.1,dF u p.2)
theorem Kh(x:Str):∀z:List (Str×SV),lk x (iW u z)=(lk x z).map (dF u):=λz=>by
 induction z with
 |nil=>rfl
 |cons p r y=>
  show lk x ((p.1,dF u p.2)::iW u r)=_
  rw[bW,show lk x (p::r)=_ from bW x p.1 p.2 r,y]
  by_cases h:x=p.1
  ·rw[if_pos h,if_pos h];rfl
  ·rw[if_neg h,if_neg h]
noncomputable def fW (u:Ev) (y:SS) (z:List Fact):SS:=⟨iW u y.loc,.b (y.objs.list.map (gI u)),z⟩
theorem RepS.fl{c:Cx}{σ:SS}{s:Shared}{fa fa':List Fact}(j:σ.objs.list.all fV=ai)(R:RepS (WS W) c ρ (fW u σ fa) s)(p:aT u σ.fa):RepS (WS (W.at u ok)) c ρ σ s:=by
 obtain⟨⟨m,⟨k,ad,C,l2,g,z,F,N⟩,Y⟩,q,_⟩:=R
 refine⟨⟨m,⟨k,ad,LR.fl.1 j C,l2,g,⟨z.B,z.X,z.T,z.D,z.t⟩,F,N⟩,λx y e=>?_⟩,⟨q.t,q.o,q.g⟩,p⟩
 obtain⟨v,U,V⟩:=Y x (dF u y) (by show lk x (iW u σ.loc)=_;rw[Kh,e];rfl)
 exact⟨v,U,(VR.fl (W:=WS W) (ok:=ok)).mp V⟩
theorem RepS.DE{c:Cx}{j:SS}{s:Shared}{fa:List Fact}(R:RepS (WS (W.at u ok)) c ρ j s)(V:aT W.η fa):RepS (WS W) c ρ (fW u j fa) s:=by
 obtain⟨⟨m,⟨U,ad,C,l2,g,p,F,N⟩,O⟩,Y,_⟩:=R
 refine⟨⟨m,⟨U,ad,LR.fl.2 C,l2,g,⟨p.B,p.X,p.T,p.D,p.t⟩,F,N⟩,λx y e=>?_⟩,⟨Y.t,Y.o,Y.g⟩,V⟩
 have k:lk x (iW u j.loc)=aa y:=e
 rw[Kh] at k
 cases q:lk x j.loc with
 |none=>rw[q] at k;cases k
 |some z=>
  rw[q] at k
  cases k
  obtain⟨v,L,M⟩:=O x z q
  exact⟨v,L,(VR.fl (W:=WS W) (ok:=ok)).mpr M⟩
theorem VR.flat{W z:Wd}{ρ:List Addr}{x:SV}{v:Value}(h:mw x=ai)(r:VR W ρ x v):VR z ρ x v:=by cases x<;>first|exact r|cases h
theorem Kl:(Tb.T.tups.all λx=>x.2.all mw)=ai/\(Tb.T.nF.all λx=>x.2.2.2.all λp=>mw p.2)=true:=⟨by kernel_rfl,by kernel_rfl⟩
theorem TabOk.at(h:TabOk (WS W) Tb.T):TabOk (WS (W.at u ok)) Tb.T where
 tup:=λx y=>by
  obtain⟨g,n,A,k,m,v⟩:=h.tup x y
  exact⟨g,n,A,k,m,Each.dS (bZ.mp Kl.1 x y) (λz z p q=>q.flat p) v⟩
 qG:=h.qG
 cls:=h.cls
 eY:=h.eY
 fns:=h.fns
 sin:=λx y=>by
  obtain⟨m,j,n,v,O⟩:=h.sin x y
  exact⟨m,j,n,v,Each.dS (p:=λp:Str×SV=>mw p.2) (bZ.mp Kl.2 x y) (λz z p q=>⟨q.key,q.hash,q.val.flat p⟩) O⟩
 lst:=h.lst
 jz:=h.jz
 jV:=h.jV
 xe:=h.xe
 xf:=h.xf
end
noncomputable abbrev gW (W:Wd) (n:Nat) (cs:b3) (cons:List (Addr×Nat×bg)) (H:List (Str×Nat)) (fr:Bool):Gx:=⟨WS W,Tb.T,n,cs,λz z z=>False,cons,[],[],H,fr⟩
theorem At.fl{W:Wd}{u:Ev}(ok:f5 u){n:Nat}{cs:b3}{cons cons':List (Addr×Nat×bg)}{cv:List (Str×Nat)}{fr:Bool}{c:Cx}{ρ:List Addr}{σ:SS}{s:Shared}{fa:List Fact}(y:σ.objs.list.all fV=ai)(a:At (gW W n cs cons cv fr) c ρ (fW u σ fa) s)(z:aT u σ.fa):At (gW (W.at u ok) n cs cons' cv fr) c ρ σ s:=
 ⟨a.toRepS.fl (fa':=[]) y z,a.cs,⟨a.ok.XB,a.ok.TB,a.ok.hA,a.ok.hk,a.ok.hh,a.ok.hd,a.ok.hu⟩,a.tk.at,a.rx,a.cv,a.hf⟩
noncomputable def Km (u:Ev) (f:Fl):Fl:=match f with
 |.ret x=>.ret (dF u x)
 |f=>f
theorem aO.fl{W:Wd}{u:Ev}(ok:f5 u){n:Nat}{cs:b3}{cons cons':List (Addr×Nat×bg)}{cv:List (Str×Nat)}{fr:Bool}{b:List Stmt}{σ:SS}{fa:List Fact}{K:Fl->SS->Prop}(V:σ.objs.list.all fV=ai)(j:aT u σ.fa)
 (h:aO (gW (W.at u ok) n cs cons' cv fr) b σ λf y=>K (Km u f) (fW u y fa)):aO (gW W n cs cons cv fr) b (fW u σ fa) K:=λc ρ s Y a Y=>by
 refine wpAny_mono (h c ρ s () (a.fl ok V j) trivial) (λf g ⟨m,y,x,p,R,q,k⟩=>⟨m,fW u y fa,Km u x,p,R.DE (fa:=fa) a.fa,?_,k⟩) λe g ⟨_,_,_,_,_,z⟩=>z.elim
 cases x with
 |ret x=>obtain⟨v,rfl,q⟩:=q;exact⟨v,rfl,(VR.fl (W:=WS W) (ok:=ok)).mpr q⟩
 |_=>exact q
theorem av.fl{W:Wd}{u:Ev}(ok:f5 u){n:Nat}{cs:b3}{cons cons':List (Addr×Nat×bg)}{cv:List (Str×Nat)}{fr:Bool}{f:Value}{xs:List SV}{σ:SS}{fa:List Fact}{K:SV->SS->Prop}(V:σ.objs.list.all fV=ai)(j:aT u σ.fa)
 (h:av (gW (W.at u ok) n cs cons' cv fr) f xs σ λx y=>K (dF u x) (fW u y fa)):av (gW W n cs cons cv fr) f (xs.map (dF u)) (fW u σ fa) K:=λc ρ s g a r=>
 jE (h c ρ s g (a.fl ok V j) ((aM.fl (W:=WS W) (ok:=ok)).mp r)) (λv Y ⟨m,y,x,p,R,q,k⟩=>⟨m,fW u y fa,dF u x,p,R.DE (fa:=fa) a.fa,(VR.fl (W:=WS W) (ok:=ok)).mpr q,k⟩) λe Y ⟨_,_,_,_,_,z⟩=>z.elim
section
variable{O M H:Type}{G:Gx}{V:List Addr->O->M->Prop}{R:List Addr->H->Prop}{t:Cx->H->Sem M}{Y:SS}{K K':O->SS->Prop}
theorem At.len{c:Cx}{U:List Addr}{s:Shared}(a:At G c U Y s):U.length=Y.objs.list.length:=let⟨_,l,_⟩:=a.R;l.len
theorem aC.re(h:aC G V R t Y K)(k:∀x L c U j s v,U.length=Y.objs.list.length->U<+:j->RepS G.D c j L s->V j x v->K x L->∃y m u,U<+:y/\RepS G.D c y m s/\V y u v/\K' u m):aC G V R t Y K':=λc U s w a r=>
 wpAny_mono (h c U s w a r) (λv D ⟨j,L,x,p,R,q,z⟩=>let⟨y,m,u,A,R',B,g⟩:=k x L c U j D v a.len p R q z;⟨y,m,u,A,R',B,g⟩) λC C z=>z
end
structure Gc (N:Nat) (Y σ':SS):Prop where
 ho:σ'.objs.list=Y.objs.list.take N
 hb:(Y.objs.list.take N).all (f7 N)=ai
 hl:∀x y,lk x σ'.loc=aa y->lk x Y.loc=aa y/\fL N y=ai
 hf:σ'.fa=Y.fa
theorem RepS.trunc{D:Wd}{c:Cx}{U:List Addr}{Y u:SS}{s:Shared}{N:Nat}(R:RepS D c U Y s)(h:Gc N Y u):RepS D c (U.take N) u s:=by
 obtain⟨⟨m,⟨k,ad,C,l2,g,gr,F,Ne⟩,B⟩,j,fa⟩:=R
 have A:(flat (k.take N)++c.X).Sublist (flat k++c.X):=(xD k N).append (fY _)
 refine⟨⟨m,⟨k.take N,by rw[Af,ad],?_,(A.map aS).nodup l2,g,gr,F,λp L=>Ne p (A.subset L)⟩,λx y e=>?_⟩,j,h.hf▸fa⟩
 ·rw[h.ho]
  exact Each.dS h.hb (λz z p q=>OR.xE p q) (Each.tV C N)
 ·obtain⟨e1,e2⟩:=h.hl x y e
  obtain⟨v,h1,h2⟩:=B x y e1
  exact⟨v,h1,VR.dS e2 h2⟩
noncomputable def adQ (N:Nat) (f:Fl):Bool:=match f with
 |.ret x=>fL N x
 |_=>ai
section
variable{G:Gx}{Y:SS}
theorem aO.gc{b:List Stmt}{K:Fl->SS->Prop}(h:aO G b Y λf y=>adQ Y.objs.list.length f=ai/\∃z,Gc Y.objs.list.length y z/\K f z):aO G b Y K:=aC.re h λx y c U u s v m p R q ⟨j,z,g,k⟩=>by
 have e:=uw m p
 refine⟨U,z,x,pr _,e▸R.trunc g,?_,k⟩
 cases x with
 |ret x=>obtain⟨v,rfl,q⟩:=q;exact⟨v,rfl,e▸VR.dS j q⟩
 |_=>exact q
theorem bS.gc{e:Expr}{K:SV->SS->Prop}(h:bS G e Y λx y=>∃z,Gc Y.objs.list.length y z/\K x z):bS G e Y K:=aC.re h λx y c U u s v m p R q ⟨z,g,k⟩=>⟨U,z,x,pr _,uw m p▸R.trunc g,q,k⟩
end
theorem aO.Kn{G:Gx}{b:List Stmt}{Y σ':SS}{K:Fl->SS->Prop}(y:∀c U s,RepS G.D c U Y s->∃z,U<+:z/\RepS G.D c z σ' s)(h:aO G b σ' K):aO G b Y K:=λc U s w a r=>by
 obtain⟨z,p,R⟩:=y c U s a.toRepS
 exact aC.at (w:=w) h (a.to p R) p trivial
theorem RepS.val{D:Wd}{c:Cx}{U:List Addr}{Y:SS}{s:Shared}{i:Nat}{C:Addr}{A B:List (Str×SV)}{n:Str}{x:SV}(R:RepS D c U Y s)(L:Y.objs.list[i]? =aa (.inst C (A++(n,x)::B))):∃v,RepS D c U ⟨Y.loc,OL.s Y.objs i (.inst C (A++(n,.val v)::B)),Y.fa⟩ s:=by
 obtain⟨⟨m,⟨ls,ad,j,l2,g,gr,F,Ne⟩,h⟩,p,fa⟩:=R
 obtain⟨P,⟨u,y⟩,Q,hP,rfl,r,st⟩:=Each.at j L
 obtain⟨dx,es,k,e,f⟩:=r
 obtain⟨eA,eB,rfl,fA,z⟩:=Each.split f
 cases z using Each.ec with
 |@cons d eB q z=>
  refine⟨d.val,⟨⟨m,⟨P++(u,y)::Q,ad,st _ (u,y) ⟨dx,_,k,e,Each.app fA (.cons ⟨q.key,q.hash,rfl⟩ z)⟩,l2,g,gr,F,Ne⟩,h⟩,p,fa⟩⟩
noncomputable def iX (L:Nat) (x:SV):SV:=match x with
 |.obj i=>.obj (L+i)
 |x=>x
noncomputable def fH (L:Nat) (o:SO):SO:=match o with
 |.inst C z=>.inst C (z.map λp=>(p.1,iX L p.2))
 |.dict z=>.dict (z.map λp=>(p.1,iX L p.2))
 |.bz z=>.bz (z.map λp=>(p.1,iX L p.2))
 |.list p v=>.list p (v.map (iX L))
 |.tup v=>.tup (v.map (iX L))
 |.aI f x=>.aI f (iX L x)
 |.cell x=>.cell (x.map (iX L))
 |.eu z=>.eu (z.map λp=>(p.1,iX L p.2))
 |.aJ n k y v=>.aJ n k y (v.map (iX L))
 |o=>o
section
variable{W:Wd}{ρ₀ U:List Addr}
theorem VR.sh{x:SV}{v:Value}(r:VR W U x v):VR W (ρ₀++U) (iX ρ₀.length x) v:=by
 cases x with
 |obj i=>exact r.imp λa r=>⟨by rw[dY (bL _ _),jN];exact r.1,r.2⟩
 |_=>exact r
theorem Each.m7{O M z:Type}{R:M->z->Prop}{Q:O->z->Prop}{f:O->M}(h:∀x y,Q x y->R (f x) y){v:List O}{j:List z}(q:Each Q v j):Each R (v.map f) j:=by
 induction q with
 |nil=>exact .nil
 |cons a _ p=>exact .cons (h _ _ a) p
theorem OR.sh{X:List (Addr×Obj)}{a:Addr}{o:SO}{l:List (Addr×Obj)}(r:OR W X U a o l):OR W X (ρ₀++U) a (fH ρ₀.length o) l:=by
 cases o with
 |inst C u=>obtain⟨a,b,c,d,f⟩:=r;exact⟨a,b,c,d,Each.m7 (λy y q=>⟨q.key,q.hash,q.val.sh⟩) f⟩
 |dict u=>obtain⟨a,b,c,d,f⟩:=r;exact⟨a,b,c,d,Each.m7 (λy y q=>⟨q.k,q.v.sh⟩) f⟩
 |bz u=>obtain⟨a,b,c,d,f⟩:=r;exact⟨a,b,c,d,Each.m7 (λy y q=>⟨q.k,q.v.sh⟩) f⟩
 |list p v=>obtain⟨a,b,c,d,q,f⟩:=r;exact⟨a,b,c,d,q,Each.m7 (λy y q=>q.sh) f⟩
 |tup v=>obtain⟨a,b,d,f⟩:=r;exact⟨a,b,d,Each.m7 (λy y q=>q.sh) f⟩
 |aI f x=>obtain⟨a,b,f⟩:=r;exact⟨a,b,f.sh⟩
 |cell x=>
  obtain⟨a,b,c,d,q⟩:=r
  cases x with
  |none=>exact⟨a,b,c,d,q⟩
  |some x=>exact⟨a,b,c,d,q.imp λy h=>⟨h.1,h.2.sh⟩⟩
 |eu u=>obtain⟨a,b,c,d,q,f⟩:=r;exact⟨a,b,c,d,q,Each.m7 (λy y q=>⟨q.k,q.v.sh⟩) f⟩
 |aJ=>obtain⟨a,b,c,d,q,z,f⟩:=r;exact⟨a,b,c,d,q,z,Each.m7 (λy y q=>q.sh) f⟩
 |_=>exact r
end
inductive zb (W:Wd) (loc:List (Str×SV)) (Y:SS) (K:SV->SS->Prop) (x:SV) (σ':SS):Prop
 |mk (l:σ'.loc=loc) (js:List Nat) (os':List SO) (x':SV) (e:Each (MJ W σ'.fa js σ') os' js) (n:js.Nodup) (m:MV W σ'.fa js x' x) (k:K (iX Y.objs.list.length x') ⟨Y.loc,.b (Y.objs.list++os'.map (fH Y.objs.list.length)),Y.fa⟩)
theorem DF{W:Wd}{G:Gx}(hD:G.D=WS W){ys:List SV}{Y:SS}{K:SV->SS->Prop}{f:Value}(a1:ys.all fE=ai)
 (h:∀y1,(y1.all λp=>mw p.2)=ai->av G.bb f ys ⟨y1,.b [],Y.fa⟩ (zb W y1 Y K)):av G f ys Y K:=by
 obtain⟨D,T,m0,cs,KX,con,sc,ec,cv,fr⟩:=G
 obtain rfl:D=WS W:=hD
 intro c U s vs a r
 have e1:=a.len
 obtain⟨⟨m,⟨A,ad,l1,l2,g,gr,F,N⟩,hl⟩,tp,fa⟩:=a.toRepS
 have a':At (Gx.bb ⟨WS W,T,m0,cs,KX,con,sc,ec,cv,fr⟩) (c.X0 (flat A++c.X)) [] ⟨iC m Y.loc,.b [],Y.fa⟩ s:=⟨⟨⟨m,⟨[],rfl,.nil,l2,g,gr,F,N⟩,λx z q=>by
  obtain⟨w,hw⟩:=tX q
  obtain⟨u,h1,h2⟩:=hl x w hw
  rw[j9 hw,h1] at q
  cases q
  exact⟨u,h1,rfl⟩⟩,tp,fa⟩,a.cs,⟨a.ok.XB,a.ok.TB,a.ok.hA,a.ok.hk,a.ok.hh,a.ok.hd,a.ok.hu⟩,a.tk,λp hp=>bV _ (a.rx p hp),λx hx=>Om.nm hx,λh=>Om.nb h⟩
 refine jE (h (iC m Y.loc) (Ho _) (c.X0 (flat A++c.X)) _ s vs a' (Each.dS a1 (λqq qq p q=>q.any p) r)) (λv s' z=>?_) λe s' z=>tZ z
 obtain⟨C,k,x,p,R,hv,e,js,u1,x',hm,nd,hx,hk⟩:=z
 have R0:RepS (WS W) (c.X0 (flat A++c.X)) C k s':=R
 have f1:∀p∈k.loc,ML W k.fa js k p:=λp hp=>by
  rw[e] at hp
  show∃x,lk p.1 k.loc=aa x/\_
  rw[e]
  obtain⟨q,hq,rfl⟩:=fK.mp hp
  obtain⟨y,hy⟩:∃y,lk q.1 Y.loc=aa y:=by
   have:∀l:List (Str×SV),q∈l->∃y,lk q.1 l=aa y:=λl=>by
    induction l with
    |nil=>exactλh=>Om.nm h
    |cons a l ih=>
     intro h
     rw[show lk q.1 (a::l)=_ from bW q.1 a.1 a.2 l]
     by_cases z:q.1=a.1
     ·rw[if_pos z];exact⟨_,rfl⟩
     ·rw[if_neg z]
      exact(b7.mp h).elim (λe=>absurd (congrArg aS e) z) ih
   exact this _ hq
  exact⟨_,j9 hy,λqq qq r=>r⟩
 have R1:=RepS.Dj (W0:=W) (loc':=k.loc) (fa':=Y.fa) R0 hm f1 nd fa
 obtain⟨⟨m2,⟨L,x1,l3,p1,g2,B,F2,N2⟩,g1⟩,o1,z1⟩:=R1
 have d1:VR (WS W) (js.map λj=>C.getD j 0) x' v:=hx R.fa JO hv
 have pm:(flat (A++L)++c.X).Perm (flat L++(flat A++c.X)):=by
  have e:flat (A++L)=flat A++flat L:=by simp[flat]
  rw[e,<-bY]
  exact ER _ LO
 have i1:LR (WS W) c.R (U++js.map λj=>C.getD j 0) (u1.map (fH Y.objs.list.length)) L:=by
  rw[<-e1]
  exact Each.m7 (f:=fH U.length) (Q:=λo (q:Cl)=>OR (WS W) c.R (js.map λj=>C.getD j 0) q.1 o q.2) (λo q r=>OR.sh (ρ₀:=U) r) l3
 refine⟨U++js.map λj=>C.getD j 0,⟨Y.loc,.b (Y.objs.list++u1.map (fH Y.objs.list.length)),Y.fa⟩,iX Y.objs.list.length x',dB _ _,⟨⟨m2,⟨A++L,by rw[dH,ad,x1],Each.app (LR.mono (dB _ _) l1) i1,(pm.map aS).nodup_iff.mpr p1,g2,⟨B.B,B.X,B.T,B.D,B.t⟩,F2,λp hp=>N2 p (pm.subset hp)⟩,λx z q=>?_⟩,o1,z1⟩,?_,hk⟩
 ·obtain⟨u,h1,h2⟩:=hl x z q
  have q2:=j9 (m:=m) q
  rw[<-e] at q2
  obtain⟨u',h3,h4⟩:=g1 x _ q2
  rw[h1] at h4
  obtain rfl:u'=u:=h4
  exact⟨u',h3,h2.mono (dB _ _)⟩
 ·rw[<-e1];exact d1.sh
section
open Nu St
noncomputable def iY (c:Nat):Bool:=dW c 1114112&&yx c
structure Good (N:Nat) (l:List Nat):Prop where
 z:l.length<=N
 c:∀c∈l,iY c=ai
theorem vh{c:Nat}(h:iY c=ai):c<1114112/\(c<55296\/57343<c):=by
 unfold iY at h
 rw[cD] at h
 exact⟨aB h.1,Jg h.2⟩
theorem Good.sub{N M:Nat}{l z:List Nat}(h:Good N l)(s:z.Sublist l)(hN:N<=M):Good M z:=⟨aq s.length_le (aq h.z hN),λc g=>h.c c (s.subset g)⟩
theorem Good.app{N M:Nat}{l z:List Nat}(h:Good N l)(q:Good M z):Good (N+M) (l++z):=⟨by rw[bK];exact fZ h.z q.z,λc g=>(jP.mp g).elim (h.c c) (q.c c)⟩
theorem Good.of{N:Nat}{l:List Nat}(h:(aD l.length N&&l.all iY)=ai):Good N l:=by
 rw[cD] at h
 exact⟨aB h.1,λc g=>bZ.mp h.2 c g⟩
theorem Good.le{N M:Nat}{l:List Nat}(h:Good N l)(q:N<=M):Good M l:=⟨aq h.z q,h.c⟩
theorem DG(n:Str):Good 10 (kh n Tb.cG).cps.toList:=by
 have all:(Tb.cG.all λz=>aD z.2.cps.toList.length 10&&z.2.cps.toList.all iY)=true:=by kernel_rfl
 have:∀D:List (Str×Str),(D.all λz=>aD z.2.cps.toList.length 10&&z.2.cps.toList.all iY)=ai->Good 10 (kh n D).cps.toList:=λD=>by
  induction D with
  |nil=>exactλy=>⟨bP _,λc g=>Om.nm g⟩
  |cons z D p=>
   intro h
   rw[jQ,cD] at h
   show Good 10 (@az (λy=>Str) (kh n D) z.2 (seq n z.1)).cps.toList
   cases seq n z.1 with
   |true=>exact .of h.1
   |false=>exact p h.2
 exact this _ all
theorem adR(v:Int):Good 1 (qY v Tb.o9).cps.toList:=by
 have all:(Tb.o9.all λz=>aD z.2.cps.toList.length 1&&z.2.cps.toList.all iY)=true:=by kernel_rfl
 unfold qY
 cases e:Tb.o9.find? λp=>decide (v=p.1) with
 |none=>exact⟨bP _,λc g=>Om.nm g⟩
 |some p=>exact .of (bZ.mp all p (List.mem_of_find?_eq_some e))
theorem rX(v:Nat):Good 1 (kD v).cps.toList:=by
 unfold kD
 cases gh v yM with
 |true=>exact adR v
 |false=>
  cases e:ji v with
  |true=>exact .of (by kernel_rfl)
  |false=>
   refine⟨aH _,λc g=>?_⟩
   obtain rfl:c=v:=d8.mp g
   unfold ji inR at e
   rw[LU,decide_eq_false_iff_not] at e
   have u:c<=1114111:=by have:=e.2;exact eO.mp (nD.mp this)
   have h1:c<55296\/57343<c:=by
    by_cases q:c<55296
    ·exact .inl q
    ·refine .inr (wm λq2=>?_)
     have z:=e.1
     rw[decide_eq_true (show(55296:Int)<=c from eO.mpr (kL q)),decide_eq_true (show(c:Int)<=57343 from eO.mpr q2)] at z
     cases z
   unfold iY yx
   rw[cD]
   refine⟨we (d9 u),?_⟩
   rcases h1 with h1|h1
   ·have:dW c 55296=true:=we h1
    rw[this]
   ·have:dW 57343 c=true:=we h1
    rw[this]
    cases dW c 55296<;>rfl
theorem adS:∀l:List Nat,(pK l).1<:+l:=λl=>by
 unfold pK
 split
 ·exact Mm _ _
 ·exact sU _
theorem rY(h:Bool)(l:List Nat):g9 h l<:+l:=(adS _).trans (ahI _)
noncomputable def bH (v:Nat->List Nat) (F:Nat->List Str):Ev where
 v:=v
 c:=λz=>120
 f:=λk l=>if k=10 then bG l else if k=11 then l.map fF else if k=22 then(kh (ak l) Tb.cG).cps.toList else if k=24 then(lJ aj l).cps.toList else if k=25 then g9 aj l else if k=34 then(lJ ai l).cps.toList else if k=35 then g9 ai l else[]
 i:=λz l=>l.length
 p:=λk l=>if k=22 then hkp (ak l) else if k=24 then pL aj l else if k=25 then pM aj l else if k=34 then pL ai l else if k=35 then pM ai l else cU (ak l) Tb.cG
 q:=F
section
variable{v:Nat->List Nat}{F:Nat->List Str}
theorem DH:∀{l:List Nat} {c:Nat},c∈crlf l->c∈l
 |[],c,h=>h
 |[a],c,h=>by
  by_cases e:a=13
  ·subst e;exact h
  ·exact(by simpa[crlf] using h)
 |a::b::r,c,h=>by
  by_cases e:a=13/\b=10
  ·obtain⟨rfl,rfl⟩:=e
   rw[crlf] at h
   rcases b7.mp h with rfl|h
   ·exact .tail _ (.head _)
   ·exact .tail _ (.tail _ (DH h))
  ·have M:crlf (a::b::r)=a::crlf (b::r):=by
    rw[crlf]
    intro z x u
    cases u
    exact e ⟨x,rfl⟩
   rw[M] at h
   rcases b7.mp h with rfl|h
   ·exact .head _
   ·exact .tail _ (DH h)
theorem Ko:∀{l:List Nat},13∉l->crlf l=l
 |[],_=>rfl
 |a::r,h=>by
  have z:a≠13:=λe=>h (e▸.head _)
  have M:crlf (a::r)=a::crlf r:=by
   rw[crlf]
   intro y x
   exact absurd x z
  rw[M,Ko λg=>h (.tail _ g)]
theorem Kp{l:List Nat}{c:Nat}(h:c∈bG l):c=10\/(c∈l/\c≠13):=by
 obtain⟨d,q,rfl⟩:=fK.mp h
 by_cases e:d=13
 ·rw[if_pos e];exact .inl rfl
 ·rw[if_neg e];exact .inr ⟨DH q,e⟩
theorem Kq{l:List Nat}(h:13∉l):bG l=l:=by
 unfold bG
 rw[Ko h]
 conv=>rhs;rw[<-Fj l]
 refine wh λc g=>?_
 have z:c≠13:=λe=>h (by rw[<-e];exact g)
 rw[if_neg z];rfl
theorem Kr{l:List Nat}{N:Nat}(h:Good N l):Good N (bG l):=⟨aq (uu l) h.z,λc g=>by
 rcases Kp g with rfl|⟨z,_⟩
 ·rfl
 ·exact h.c c z⟩
theorem adT{c:Nat}(h:c<1114112):fF c<1114112:=by
 unfold fF
 split
 ·exact fP (ir ‹65<=c/\c<=90›.2 32) (by decide)
 ·exact h
theorem zc(u:∀i,Good 1000 (v i))(B:∀k,(F k).length<=5000):f5 (bH v F) where
 v:=λi=>(u i).z
 f:=λk l=>by
  show(if k=10 then bG l else if k=11 then l.map fF else if k=22 then(kh (ak l) Tb.cG).cps.toList else if k=24 then(lJ aj l).cps.toList else if k=25 then g9 aj l else if k=34 then(lJ ai l).cps.toList else if k=35 then g9 ai l else[]:List Nat).length<=_
  split
  ·exact aq (uu l) (bL _ _)
  split
  ·rw[i8];exact bL _ _
  split
  ·exact aq (DG _).z (aq (by decide) (i6 1000 _))
  split
  ·exact aq (rX _).z (aq (by decide) (i6 1000 _))
  split
  ·exact aq (rY _ _).length_le (bL _ _)
  split
  ·exact aq (rX _).z (aq (by decide) (i6 1000 _))
  split
  ·exact aq (rY _ _).length_le (bL _ _)
  ·exact bP _
 pv:=λi c g=>(vh ((u i).c c g)).1
 il:=λl=>rfl
 pc:=λz=>(by decide:(120:Nat)<1114112)
 qz:=B
 pf:=λk l y=>by
  show∀c∈(if k=10 then bG l else if k=11 then l.map fF else if k=22 then(kh (ak l) Tb.cG).cps.toList else if k=24 then(lJ aj l).cps.toList else if k=25 then g9 aj l else if k=34 then(lJ ai l).cps.toList else if k=35 then g9 ai l else[]:List Nat),c<1114112
  split
  ·intro c g
   rcases Kp g with rfl|⟨h,_⟩
   ·decide
   ·exact y c h
  split
  ·intro c g
   obtain⟨d,q,rfl⟩:=fK.mp g
   exact adT (y d q)
  split
  ·exactλc g=>(vh ((DG _).c c g)).1
  split
  ·exactλc g=>(vh ((rX _).c c g)).1
  split
  ·exactλc g=>y c ((rY _ _).subset g)
  split
  ·exactλc g=>(vh ((rX _).c c g)).1
  split
  ·exactλc g=>y c ((rY _ _).subset g)
  ·exactλc g=>Om.nm g
structure gJ (η:Ev):Prop where
 tx:C5 η
 low:∀l,η.f 11 l=l.map fF
 ce:nY η
theorem zd(u:∀i,Good 1000 (v i))(x:(v 8).length<=600):gJ (bH v F) where
 tx:=⟨λz=>rfl,λi c y=>(vh ((u i).c c y)).2,λz=>.inl (by decide:(120:Nat)<55296)⟩
 low:=λz=>rfl
 ce:={k:=λz=>rfl,e:=λz=>rfl,g:=λl z=>gj rfl,nu:=⟨x,λh l=>by cases h<;>rfl,λh l=>by cases h<;>rfl,λh l=>by cases h<;>rfl,λh l=>by cases h<;>rfl⟩}
end
end
section
open Nu St
noncomputable def ze (a:Tm):Bool:=(oF 14).any λj=>dj a (rN j)
noncomputable def vj:Tm->Bool:=Tm.rec ai λk l a z x y=>if k=0 then l.all iY else if k=5 then x&&y else if k=3 then ze a else aL k [22,24,34]
noncomputable def vm:Tm->Nat:=Tm.rec 0 λk l z z a b=>if k=0 then l.length else if k=5 then a+b else if k=3 then 1 else 10
noncomputable def zf (r:Tm):Bool:=ze r||((oF 14).any (λi=>dj r (cat (hN i) (rN (i+1))))||(dj r (lit [])||(dj r (.n 25 [] (c6 aj) .e)||dj r (.n 35 [] (c6 ai) .e))))
noncomputable def vn:DT->Bool:=DT.rec (λo r m=>vj o&&(aD (vm o) 20&&(zf r&&aD m 6))) λz z z z z y n=>y&&n
section
variable{v:Nat->List Nat}{F:Nat->List Str}{c:Nat}{L:List Nat}
theorem zg(k:Ev)(j:Nat):(rN j).ev k=(rE.ev k).drop j:=by
 induction j with
 |zero=>rfl
 |succ j p=>show((rN j).ev k).drop 1=_;rw[p,jv]
theorem DI(k:Ev)(j:Nat):(cat (hN j) (rN (j+1))).ev k=(rE.ev k).drop j:=by
 show((rN j).ev k).take 1++(rN (j+1)).ev k=_
 rw[zg,zg,<-jv,iM]
theorem Ks{a:Tm}(h:ze a=ai):∃j,a=rN j:=by
 obtain⟨j,_,h⟩:=E7.mp h
 exact⟨j,fh h⟩
theorem adU{N:Nat}(u:Good N (rE.ev (bH v F))):∀t:Tm,vj t=ai->Good (vm t) (t.ev (bH v F)):=λt=>by
 induction t with
 |e=>exactλV=>⟨aH _,λz Y=>Om.nm Y⟩
 |n k l a b p q=>
  intro h
  have y:(if k=0 then l.all iY else if k=5 then vj a&&vj b else if k=3 then ze a else aL k [22,24,34])=true:=h
  show Good (if k=0 then l.length else if k=5 then vm a+vm b else if k=3 then 1 else 10) _
  by_cases e:k=0
  ·subst e
   rw[if_pos rfl] at y⊢
   exact⟨aH _,λc g=>bZ.mp y c g⟩
  rw[if_neg e] at y⊢
  by_cases M:k=5
  ·subst M
   rw[if_pos rfl] at y⊢
   rw[cD] at y
   exact(p y.1).app (q y.2)
  rw[if_neg M] at y⊢
  by_cases m:k=3
  ·subst m
   rw[if_pos rfl] at y⊢
   obtain⟨j,rfl⟩:=Ks y
   refine⟨ql _ _,λc g=>u.c c ?_⟩
   have g:c∈((rN j).ev (bH v F)).take 1:=g
   rw[zg] at g
   exact sV _ _ (List.take_subset _ _ g)
  rw[if_neg m] at y⊢
  have hk:=qU y
  have q1:∀x,Good 1 (kD x).cps.toList->Good 10 (kD x).cps.toList:=λx h=>h.le (by decide)
  rcases b7.mp hk with rfl|hk
  ·exact DG _
  rcases b7.mp hk with rfl|hk
  ·exact q1 _ (rX _)
  obtain rfl:=d8.mp hk
  exact q1 _ (rX _)
theorem adV{r:Tm}(h:zf r=ai):r.ev (bH v F)<:+rE.ev (bH v F):=by
 unfold zf at h
 rw[lW,lW,lW,lW] at h
 rcases h with h|h|h|h|h
 ·obtain⟨j,rfl⟩:=Ks h
  rw[zg];exact Aa _ _
 ·obtain⟨j,_,h⟩:=E7.mp h
  rw[fh h,DI];exact Aa _ _
 ·rw[fh h];exact List.nil_suffix
 ·rw[fh h]
  show g9 aj ((c6 aj).ev _)<:+_
  refine(rY _ _).trans ?_
  rw[show c6 aj=cat (hN 1) (rN 2) from rfl,DI];exact Aa _ _
 ·rw[fh h]
  show g9 ai ((c6 ai).ev _)<:+_
  refine(rY _ _).trans ?_
  rw[show c6 ai=cat (hN 2) (rN 3) from rfl,DI];exact Aa _ _
theorem DJ{x:Ev}{k:Nat}{l:List Nat}{a:Tm}{y n:DT}:(DT.ask k l a y n).ev x=@az (λz=>List Nat×List Nat×Nat) (n.ev x) (y.ev x) (cF x k l (a.ev x) []):=rfl
theorem adW{N:Nat}(u:Good N (rE.ev (bH v F))){d:DT}(h:vn d=ai):Good 20 (d.ev (bH v F)).1/\(d.ev (bH v F)).2.1<:+rE.ev (bH v F)/\(d.ev (bH v F)).2.2<=6:=by
 induction d with
 |leaf o r m=>
  have z:(vj o&&(aD (vm o) 20&&(zf r&&aD m 6)))=true:=h
  rw[cD,cD,cD] at z
  exact⟨(adU u o z.1).le (aB z.2.1),adV z.2.2.1,aB z.2.2.2⟩
 |ask k l a y n x q=>
  have z:(vn y&&vn n)=true:=h
  rw[cD] at z
  rw[DJ]
  cases cF (bH v F) k l (a.ev (bH v F)) [] with
  |true=>exact x z.1
  |false=>exact q z.2
theorem DK(y:Nat->List Str):∀t:Tm,t.ev (bH v F)=t.ev (bH v y):=λt=>by
 induction t with
 |e=>rfl
 |n k l a b x z=>
  show qy (bH v F) k l _ _=qy (bH v y) k l _ _
  rw[x,z];rfl
theorem adX(z:Nat->List Str)(d:DT):d.ev (bH v F)=d.ev (bH v z):=by
 induction d with
 |leaf o r m=>show(_,_,_)=(_,_,_);rw[DK z o,DK z r]
 |ask k l a y n x q=>rw[DJ,DJ,x,q,DK z a];rfl
end
noncomputable def fJ (L:List Nat) (i:Nat):List Nat:=if i=8 then 38::L else[]
noncomputable def zh (c:Nat) (L:List Nat):List Nat×List Nat×Nat:=(m6 c).ev (bH (fJ L) λz=>[])
noncomputable def fN (c:Nat) (L:List Nat):List Nat:=(zh c L).1
noncomputable def eH (c:Nat) (L:List Nat):List Nat:=(zh c L).2.1
noncomputable def fX (c:Nat) (L:List Nat):List Str:=gH (zh c L).2.2
theorem adY:∀c:Nat,c=34\/c=39\/c=62->vn (m6 c)=true:=λc h=>by
 have u:vn (m6 34)=true:=by kernel_rfl
 rcases h with rfl|rfl|rfl<;>exact u
theorem DL{L:List Nat}(h:Good 599 L)(i:Nat):Good 600 (fJ L i):=by
 unfold fJ
 split
 ·exact⟨d9 h.z,λc g=>(b7.mp g).elim (λe=>e▸rfl) (h.c c)⟩
 ·exact⟨bP _,λc g=>Om.nm g⟩
theorem zj{c:Nat}(g:c=34\/c=39\/c=62){L:List Nat}(h:Good 599 L):Good 20 (fN c L)/\eH c L<:+L/\(fX c L).length<=2:=by
 obtain⟨x,u,O⟩:=adW (v:=fJ L) (F:=λz=>[]) (N:=599) h (adY c g)
 refine⟨x,u,?_⟩
 have:∀m,(gH m).length<=2:=λm=>by
  unfold gH
  split<;>decide
 exact this _
end
section
open Nu St
noncomputable abbrev fm:SO:=jk (.int 3) (.str (af "P")) (.bool aj)
noncomputable abbrev d7:SO:=.list ah [.str (af "a"),.str (af "&")]
noncomputable abbrev iI (w:Str):SO:=.list ah [.str (af "b"),.ss w]
noncomputable abbrev eL (v:Value) (st:bQ) (z:List Str) (w:Str):List SO:=[lE v,.blob (.strm st),fm,.aJ 5000 0 z [],.list ah [],d7,cM,iI w]
noncomputable def DM (b:Bool):Nat:=bif b then 290 else 283
noncomputable def zk (b:Bool) (c:Nat):List SV:=bif b then[.obj 0,.str ⟨#[c]⟩] else[.obj 0,.str ⟨#[c]⟩,.bool ai]
theorem Ku{η:Ev}:∀{l:List (Str×SV)},(l.all λp=>mw p.2)=ai->iW η l=l:=@λl=>by
 induction l with
 |nil=>exactλz=>rfl
 |cons p l y=>
  intro h
  rw[jQ,cD] at h
  show(p.1,dF η p.2)::iW η l=_
  rw[y h.2]
  obtain⟨n,x⟩:=p
  cases x<;>first|rfl|cases h.1
theorem adZ{W:Wd}(kf:Kf W){b:Bool}{G:Gx}(hD:G.D=WS W)(hT:G.T=Tb.T)(hn:7<=G.n){c:Nat}(hc:c=34\/c=39\/c=62){v:Value}{st:bQ}{x:List Str}{w:Str}{X:List SO}{y:SS}{K:SV->SS->Prop}(e1:y.objs.list=eL v st x w++X){L:List Nat}(hL:st.r.ev W.η=L)(hg:Good 599 L)(hm:x.length<=5000)(hw:w.length<=100000)
 (k:∀H,K .none ⟨y.loc,.b (eL H ⟨ah,lit (eH c L),ah⟩ (x++fX c L) (w++ak (fN c L))++X),y.fa⟩):av G (.ref (DM b)) (zk b c) y K:=by
 obtain⟨D,T,m,cs,KX,con,sc,ec,cv,fr⟩:=G
 obtain rfl:D=WS W:=hD
 obtain rfl:T=Tb.T:=hT
 refine Bt (os:=eL v st x w) e1 (by kernel_rfl) (by cases b<;>kernel_rfl) λq M=>?_
 have ok:f5 (bH (fJ L) λz=>x):=zc (λi=>(DL hg i).le (by decide)) λz=>hm
 have ha:gJ (bH (fJ L) λz=>x):=zd (λi=>(DL hg i).le (by decide)) (DL hg 8).z
 let j:SS:=⟨q,.b (iG v rE fm [] (.list ah []) d7 cM (iI w) []),[]⟩
 have p:=Ku (η:=bH (fJ L) λz=>x) M
 have e0:fW (bH (fJ L) λz=>x) j y.fa=⟨q,.b [lE v,.blob (.strm ⟨ah,lit L,ah⟩),fm,.aJ 5000 0 x [],.list ah [],d7,cM,iI w],y.fa⟩:=by
  show SS.mk (iW _ q) (.b [lE v,.blob (.strm ⟨ah,lit L,ah⟩),fm,.aJ 5000 0 (x++[]) [],.list ah [],d7,cM,iI w]) y.fa=_
  rw[p,cO]
 refine av.pre (σ':=fW (bH (fJ L) λz=>x) j y.fa) ?_ ?_
 ·rw[e0]
  exact ay.objs (.cons (.refl _) (.cons (.strm hL.symm) (cC.all _)))
 ·have O:∀(o r:Tm) (B:Nat) (H:Value) (V:List SO) (Y:List Fact),aT (bH (fJ L) λz=>x) Y->(m6 c).ev (bH (fJ L) λz=>x)=(o.ev (bH (fJ L) λz=>x),r.ev (bH (fJ L) λz=>x),B)->∀u:SS,u=⟨q,.b (iG H r fm (gH B) (.list ah []) d7 cM (iI (w++ak (o.ev (bH (fJ L) λz=>x)))) V),Y⟩->
   ((fW (bH (fJ L) λz=>x) u y.fa).loc=q/\fE .none=ai/\∃g,g.length=(eL v st x w).length/\(fW (bH (fJ L) λz=>x) u y.fa).objs.list.take (eL v st x w).length=g/\g.all (f7 (eL v st x w).length)=ai/\((∀f∈(fW (bH (fJ L) λz=>x) u y.fa).fa,f.ok (WS W).η)->K .none ⟨y.loc,.b (g++X),(fW (bH (fJ L) λz=>x) u y.fa).fa⟩)):=λo r B H V Y u1 y1 u h=>by
   subst h
   have hE:zh c L=(o.ev (bH (fJ L) λz=>x),r.ev (bH (fJ L) λz=>x),B):=(adX _ _).trans y1
   have A:=k H
   unfold eH fX fN at A
   rw[hE] at A
   refine⟨p,rfl,eL H ⟨ah,lit (r.ev (bH (fJ L) λz=>x)),ah⟩ (x++gH B) (w++ak (o.ev (bH (fJ L) λz=>x))),rfl,rfl,by kernel_rfl,λz=>A⟩
  have U:Kf (W.at _ ok):=⟨kf.key,kf.dflt⟩
  have C:(pV (W.at _ ok) v c).c=true:=by
   rcases hc with rfl|rfl|rfl
   ·exact adz _ _
   ·exact adA _ _
   ·exact adB _ _
  cases b with
  |true=>exact av.fl (W:=W) ok (cons':=[]) (f:=.ref 290) (xs:=[.obj 0,.str ⟨#[c]⟩]) (σ:=j) (fa:=y.fa) rfl (λf hf=>Om.nm hf) (adO (W:=W.at _ ok) ha.ce U C hw (λo r B H V Y h1 h2=>O o r B H V Y h1 h2 _ rfl) hn)
  |false=>exact av.fl (W:=W) ok (cons':=[]) (f:=.ref 283) (xs:=[.obj 0,.str ⟨#[c]⟩,.bool ai]) (σ:=j) (fa:=y.fa) rfl (λf hf=>Om.nm hf) (adP (W:=W.at _ ok) ha.ce U C hw (λo r B H V Y h1 h2=>O o r B H V Y h1 h2 _ rfl) hn)
noncomputable abbrev pY (x:SV) (st:bQ) (z:List Str) (w:Str):List SO:=[.inst 762 (ck++(af "state",x)::cK),.blob (.strm st),fm,.aJ 5000 0 z [],.list ah [],d7,cM,iI w]
theorem av.val{G:Gx}{f:Value}{z:List SV}{y:SS}{K:SV->SS->Prop}{i:Nat}{C:Addr}{A B:List (Str×SV)}{n:Str}{x:SV}(p:y.objs.list[i]? =aa (.inst C (A++(n,x)::B)))(h:∀v,av G f z ⟨y.loc,OL.s y.objs i (.inst C (A++(n,.val v)::B)),y.fa⟩ K):av G f z y K:=λc u s q a r=>by
 obtain⟨v,R⟩:=a.toRepS.val p
 exact h v c u s q (a.to (pr _) R) r
theorem ad0{W:Wd}(q:Kf W){b:Bool}{G:Gx}(O:G.D=WS W)(V:G.T=Tb.T)(Y:7<=G.n){c:Nat}(g:c=34\/c=39\/c=62){x:SV}{st:bQ}{u:List Str}{w:Str}{X:List SO}{y:SS}{K:SV->SS->Prop}(z:y.objs.list=pY x st u w++X){L:List Nat}(U:st.r.ev W.η=L)(j:Good 599 L)(m:u.length<=5000)(p:w.length<=100000)
 (k:∀H,K .none ⟨y.loc,.b (eL H ⟨ah,lit (eH c L),ah⟩ (u++fX c L) (w++ak (fN c L))++X),y.fa⟩):av G (.ref (DM b)) (zk b c) y K:=
 av.val (i:=0) (C:=762) (A:=ck) (B:=cK) (n:=af "state") (x:=x) (by rw[z];rfl) λv=>adZ q O V Y g (v:=v) (X:=X) (by show aX y.objs.list 0 _=_;rw[z];rfl) U j m p k
end
section
open Nu St Tb
noncomputable def zl (M:Wd) (z:List Fact) (m:List Nat) (y:SS) (O:SO) (j:Nat):Prop:=∃o,y.objs.list[j]? =aa o/\fV o=ai/\MO M z m O o
noncomputable def Kv (M:Wd) (z:List Fact) (m:List Nat) (y:SS) (O:SO) (j:Nat):OP (zl M z m y O j):=au (fT y.objs j) λo=>au (aV (fV o.1)) λx=>(mO M z m O o.1).map λq=>⟨⟨o.1,o.2,x.1,q.1⟩⟩
theorem MO.fl{W:Wd}{k:Ev}{ok:f5 k}{fa y:List Fact}{m:List Nat}{O o:SO}(B:aT k fa)(q:fV o=ai)(h:MO (W.at k ok) fa m O o):MO W y m (gI k O) (gI k o):=λ{X ρ x a l} _ J r=>
 let⟨u,v,s⟩:=h B J ((OR.fl (W:=W) (ok:=ok) (λz=>DC)).1 q r)
 ⟨u,(OR.fl (W:=W) (ok:=ok) (λz=>DC)).2 v,s⟩
theorem MV.fl{W:Wd}{k:Ev}{ok:f5 k}{fa z:List Fact}{m:List Nat}{u x:SV}(B:aT k fa)(h:MV (W.at k ok) fa m u x):MV W z m (dF k u) (dF k x):=λ{ρ y v} _ J r=>
 (VR.fl (W:=WS W) (ok:=ok)).mpr (h B J ((VR.fl (W:=WS W) (ok:=ok)).mp r))
theorem aC.reC{G:Gx}{f:Value}{j:List SV}{y:SS}{K g:SV->SS->Prop}(h:av G f j y K)(k:∀x u,aT G.D.η u.fa->K x u->g x u):av G f j y g:=λc Y s V a r=>
 jE (h c Y s V a r) (λv O ⟨m,u,x,p,R,q,z⟩=>⟨m,u,x,p,R,q,k _ _ R.fa z⟩) λU U z=>z
theorem ad2{W:Wd}{η:Ev}(ok:f5 η){n:Nat}{cs:b3}{cons cons':List (Addr×Nat×bg)}{KX:Value->List Addr->SS->Prop}{U:List (Nat×Stmt×jW)}{C:List (Nat×Expr×jX)}{H:List (Str×Nat)}{fr:Bool}{f:Value}{xs:List SV}{y:SS}{fa:List Fact}{K:SV->SS->Prop}(z:(xs.map (dF η)).all fE=ai)(g:aT η fa)
 (h:∀v,av (gW (W.at η ok) n cs cons' [] aj) f xs ⟨v,.b [],fa⟩ λx q=>q.loc=v/\∃m p u,Each (zl (W.at η ok) q.fa m q) p m/\m.Nodup/\MV (W.at η ok) q.fa m u x/\K (iX y.objs.list.length (dF η u)) ⟨y.loc,.b (y.objs.list++(p.map (gI η)).map (fH y.objs.list.length)),y.fa⟩):
 av (⟨WS W,Tb.T,n,cs,KX,cons,U,C,H,fr⟩:Gx) f (xs.map (dF η)) y K:=DF (W:=W) rfl z λv k=>by
 have e:iW η v=v:=Ku k
 have e0:fW η ⟨v,.b [],fa⟩ y.fa=⟨v,.b [],y.fa⟩:=by
  show SS.mk (iW η v) _ _=_
  rw[e];rfl
 have:=av.fl (W:=W) ok (n:=n) (cs:=cs) (cons:=cons) (cons':=cons') (cv:=[]) (fr:=aj) (f:=f) (xs:=xs) (σ:=⟨v,.b [],fa⟩) (fa:=y.fa) (K:=zb W v y K) rfl g ?_
 ·rw[e0] at this;exact this
 ·refine av.fa λqq=>?_
  refine aC.reC (h v) λx q A ⟨B,m,p,u,D,L,O,M⟩=>⟨?_,m,p.map (gI η),dF η u,?_,L,MV.fl (W:=W) (ok:=ok) A O,M⟩
  ·show iW η q.loc=v
   rw[B,e]
  ·refine Each.m7 (R:=MJ W y.fa m (fW η q y.fa)) (Q:=zl (W.at η ok) q.fa m q) (λo' j ⟨o,G,V,Y⟩=>⟨gI η o,?_,MO.fl (W:=W) (ok:=ok) A V Y⟩) D
   show(q.objs.list.map (gI η))[j]? =_
   rw[sQ,G];rfl
end
section
open Nu St
noncomputable def bI (s:Nat):Nat:=[34,39,62].getD s 62
noncomputable def jl (s:Nat):List Nat:=[[34],[39],[62,32,9,10,12]].getD s []
noncomputable def dg (s:Nat):List Nat:=[[34,38,0],[39,38,0],[38,62,34,39,61,60,96,0,32,9,10,12]].getD s []
noncomputable def vo:Str:=af "unexpected-character-in-unquoted-attribute-value"
noncomputable def vp:Str:=af "invalid-codepoint"
structure Piece where
 g:List Nat
 f:List Str
 r:List Nat
noncomputable def c9 (s c:Nat) (T:List Nat):Piece:=
 if c=38 then⟨fN (bI s) T,fX (bI s) T,eH (bI s) T⟩ else if c=0 then⟨[65533],[vp],T⟩ else if aL c (dg s)=ai then⟨[c],[vo],T⟩ else⟨c::T.takeWhile (λx=>!aL x (dg s)),[],T.dropWhile λx=>!aL x (dg s)⟩
inductive Cut (s:Nat):List Nat->List Nat->List Str->Nat->List Nat->Prop
 |nil:Cut s [] [] [] 0 []
 |fin (c T) (h:aL c (jl s)=ai):Cut s (c::T) [] [] 0 (c::T)
 |more (c T) (h:aL c (jl s)=aj) {V F n R} (q:Cut s (c9 s c T).r V F n R):Cut s (c::T) ((c9 s c T).g++V) ((c9 s c T).f++F) (n+1) R
inductive Kw (s:Nat) (L V:List Nat) (F:List Str) (n:Nat) (R:List Nat):Prop
 |stop (h:∀c T,L=c::T->aL c (jl s)=ai) (v:V=[]) (f:F=[]) (e:n=0) (r:R=L)
 |more (c:Nat) (T V3:List Nat) (F3:List Str) (n3:Nat) (h:aL c (jl s)=aj) (l:L=c::T) (v:V=(c9 s c T).g++V3) (f:F=(c9 s c T).f++F3) (e:n=n3+1) (q:Cut s (c9 s c T).r V3 F3 n3 R)
theorem Cut.view{s:Nat}{L V:List Nat}{F:List Str}{n:Nat}{R:List Nat}(q:Cut s L V F n R):Kw s L V F n R:=
 Cut.casesOn (motive:=λL V F n R z=>Kw s L V F n R) q (.stop (λz z e=>(List.cons_ne_nil _ _ e.symm).elim) rfl rfl rfl rfl) (λc T h=>.stop (λz z e=>(wC e).1▸h) rfl rfl rfl rfl) λc T h {_ _ _ _} q=>.more c T _ _ _ h rfl rfl rfl rfl q
theorem zm{s:Nat}(h:s<3):bI s=34\/bI s=39\/bI s=62:=Om.l3 (P:=λs=>bI s=34\/bI s=39\/bI s=62) h (.inl rfl) (.inr (.inl rfl)) (.inr (.inr rfl))
structure ad3 (T:List Nat) (p:Piece):Prop where
 r:p.r<:+T
 g:Good (20*(T.length-p.r.length+1)) p.g
 f:p.f.length<=2
theorem zo{s c:Nat}(y:s<3){T:List Nat}(g:iY c=ai)(h:Good 599 T):ad3 T (c9 s c T):=by
 have z:∀N,20<=20*(N+1):=λN=>Nat.le_mul_of_pos_right _ (qu N)
 have v:∀N,Good 1 [c]->Good (20*(N+1)) [c]:=λN h=>h.le (aq (by decide) (z N))
 have u:Good 1 [c]:=⟨aH _,λd hd=>by rw[d8.mp hd];exact g⟩
 unfold c9
 split
 ·obtain⟨a,b,d⟩:=zj (zm y) h
  exact⟨b,a.le (z _),d⟩
 split
 ·exact⟨sU _,(Good.of (N:=1) (l:=[65533]) (by decide+kernel)).le (aq (by decide) (z _)),(by decide:(1:Nat)<=2)⟩
 split
 ·exact⟨sU _,v _ u,(by decide:(1:Nat)<=2)⟩
 ·refine⟨ahI _,⟨?_,λd hd=>?_⟩,bP _⟩
  ·have e:=congrArg List.length (List.takeWhile_append_dropWhile (p:=λx=>!aL x (dg s)) (l:=T))
   rw[bK] at e
   show(T.takeWhile _).length+1<=20*(T.length-(T.dropWhile λx=>!aL x (dg s)).length+1)
   exact Om.w1 e
  ·rcases b7.mp hd with rfl|hd
   ·exact g
   ·exact h.c d ((qj _).subset hd)
structure ad4 (L V:List Nat) (F:List Str) (n:Nat) (R:List Nat):Prop where
 v:Good (20*(L.length-R.length)) V
 f:F.length<=2*(L.length-R.length)
 n:n<=L.length-R.length
 r:R<:+L
theorem Cut.ok{s:Nat}(U:s<3){L V:List Nat}{F:List Str}{n:Nat}{R:List Nat}(h:Cut s L V F n R)(y:Good 600 L):ad4 L V F n R:=by
 induction h with
 |nil=>exact⟨⟨bP _,λc g=>Om.nm g⟩,bP _,bP _,sU _⟩
 |fin c T h=>exact⟨⟨bP _,λc g=>Om.nm g⟩,bP _,bP _,sU _⟩
 |@more c T h V F n R q p=>
  have u:Good 599 T:=⟨lT y.z,λd O=>y.c d (.tail _ O)⟩
  obtain⟨z,v,m⟩:=zo (s:=s) U (y.c c (.head _)) u
  obtain⟨j,Y,k,x⟩:=p ((u.sub z.sublist (by decide:599<=600)))
  have C:=z.length_le
  have l2:=x.length_le
  have D:(c::T).length=T.length+1:=rfl
  refine⟨(v.app j).le ?_,?_,?_,(x.trans z).trans (Mm _ _)⟩
  ·rw[D];exact Om.w2 C l2
  ·rw[bK,D];exact Om.w3 m Y C l2
  ·rw[D];exact Om.w4 k C l2
theorem ad5{s:Nat}(m:s<3):∀(k:Nat) (L:List Nat),L.length<=k->Good 600 L->∃V F n R,Cut s L V F n R:=λk=>by
 induction k with
 |zero=>exactλL h z=>by obtain rfl:=ahB.mp (Nat.le_zero.mp h);exact⟨_,_,_,_,.nil⟩
 |succ k p=>
  intro L h y
  cases L with
  |nil=>exact⟨_,_,_,_,.nil⟩
  |cons c T=>
   cases e:aL c (jl s) with
   |true=>exact⟨_,_,_,_,.fin c T e⟩
   |false=>
    have u:Good 599 T:=⟨lT y.z,λd j=>y.c d (.tail _ j)⟩
    obtain⟨x,v,g⟩:=zo (s:=s) m (y.c c (.head _)) u
    obtain⟨V,F,n,R,q⟩:=p _ (aq x.length_le (lT h)) (u.sub x.sublist (by decide))
    exact⟨_,_,_,_,.more c T e q⟩
end
section
open Nu St Tb
noncomputable def DN (n:Str) (o:Option SO):Nat:=match o with
 |some (.inst _ z)=>DO (lk n z)
 |some (.dict z)=>DO (lk n z)
 |_=>0
where DO (x:Option SV):Nat:=match x with
 |some (.obj i)=>i
 |_=>0
noncomputable def Ky (k:Nat) (o:Option SO):Nat:=match o with
 |some (.list _ v)=>DN.DO (at? v k)
 |_=>0
noncomputable def n5 (t:OL) (i:Nat):List Nat:=
 let f:=λn=>DN (af n) (OL.get t i)
 let d:=DN (af "data") (OL.get t (f "currentToken"))
 [i,f "stream",f "currentToken",f "tokenQueue",f "lastFourChars",Ky 0 (OL.get t d),d,Ky 1 (OL.get t d),f "state"]
noncomputable def DP (w:SV):List SO:=[.inst 762 (ck++(af "state",.obj 8)::cK),.blob (.strm ⟨ah,tv 8,ah⟩),fm,.list ah [],.list ah [],d7,cM,.list ah [.str (af "b"),w],.aI 304 (.obj 0)]
noncomputable def zp (M:Wd) (w:SV) (x:SV) (y:SS):Tr:=match x with
 |.obj i=>@aY _ (λz=>Tr) .ff (λz=>@aY _ (λz=>Tr) .ff (λz=>@az (λz=>Tr) .ff .tt (yJ (n5 y.objs i))) (mV M y.fa (n5 y.objs i) (.obj 0) (.obj i))) (allM _ (Kv M y.fa (n5 y.objs i) y) (DP w) (n5 y.objs i))
 |_=>.ff
set_option tactic.hygienic true in
theorem ad6{M:Wd}{w x:SV}{y:SS}(h:(zp M w x y).h):∃m,Each (zl M y.fa m y) (DP w) m/\m.Nodup/\MV M y.fa m (.obj 0) x:=by
 unfold zp at h
 split at h
 ·rename_i i
  cases q1:allM _ (Kv M y.fa (n5 y.objs i) y) (DP w) (n5 y.objs i) with
  |none=>rw[q1] at h;exact h.elim
  |some z=>
   rw[q1] at h
   cases q2:mV M y.fa (n5 y.objs i) (.obj 0) (.obj i) with
   |none=>rw[q2] at h;exact h.elim
   |some u=>
    rw[q2] at h
    cases G:yJ (n5 y.objs i) with
    |false=>rw[G] at h;exact h.elim
    |true=>exact⟨_,z.1,ab7 G,u.1⟩
 ·exact h.elim
noncomputable def Kz:List Fact:=[⟨2,[],.n 10 [] (tv 0) .e,tv 8,ai⟩]
theorem ad7{G:Gx}{f:Addr}{i:aR}{n:Nat}{v:List SV}{y:SS}{K:SV->SS->Prop}{P:SV->SS->Tr}(V:aU f G.T.fns=aa i)(Y:G.n=n+1)(m:aD i.ps.length (v.length+i.ds.length)=ai)(u:aD v.length i.ps.length=ai)(g:bw (G.in n i))
 (h:(di (ex 60 (G.in n i)) i.body ⟨j7 i v,y.objs,y.fa⟩ (oZ y.loc P)).t.h) (k:∀x o q,(P x ⟨y.loc,o,q⟩).h->K x ⟨y.loc,o,q⟩):av G (.ref f) v y K:=
 j8 V Y m u (((di (ex 60 (G.in n i)) i.body ⟨j7 i v,y.objs,y.fa⟩ (oZ y.loc P)).ok h g).mp λf p z=>by
  cases f with
  |ret x=>exact k _ _ _ z
  |next=>exact k _ _ _ z
  |_=>exact z.elim)
noncomputable abbrev gB (M:Wd):Gx:=⟨WS M,T,8,uy.scope,λz z z=>False,[(166,5,uM)],[],[],[],ai⟩
noncomputable def ad8 (M:Wd) (w:SV) (z:List (Str×SV)):Tr:=(di (ex 60 (gB M)) uy.body ⟨j7 uy [.tm (tv 0),w],.b [],Kz⟩ (oZ z (zp M w))).t
theorem ad9(M:Wd)(z:List (Str×SV)):(ad8 M (.tm (tv 1)) z).c=true:=by kernel_rfl
noncomputable def vB (l m w:List Nat) (i:Nat):List Nat:=if i=0 then l else if i=1 then w else if i=8 then m else[]
theorem aea{l m w:List Nat}(y:Good 1000 l)(z:Good 1000 m)(B:Good 1000 w)(i:Nat):Good 1000 (vB l m w i):=by
 unfold vB
 split
 ·exact y
 split
 ·exact B
 split
 ·exact z
 ·exact⟨bP _,λc g=>Om.nm g⟩
noncomputable abbrev rZ (st:bQ) (w:Str):List SO:=[.inst 762 (ck++(af "state",.obj 8)::cK),.blob (.strm st),fm,.list ah [],.list ah [],d7,cM,iI w,.aI 304 (.obj 0)]
theorem aeb{W:Wd}{n:Nat}{cs:b3}{cons:List (Addr×Nat×bg)}{KX:Value->List Addr->SS->Prop}{U:List (Nat×Stmt×jW)}{ec:List (Nat×Expr×jX)}{cv:List (Str×Nat)}{fr:Bool}(Y:n=9){l m w:List Nat}(M:bG l=m)(L:Good 600 l)(B:Good 1000 w){y:SS}{K:SV->SS->Prop}
 (k:K (.obj y.objs.list.length) ⟨y.loc,.b (y.objs.list++(rZ ⟨ah,lit m,ah⟩ (ak w)).map (fH y.objs.list.length)),y.fa⟩):
 av (⟨WS W,T,n,cs,KX,cons,U,ec,cv,fr⟩:Gx) (.ref 795) [.ss (ak l),.ss (ak w)] y K:=by
 subst Y
 have g:Good 600 m:=M▸Kr L
 have u:∀i,Good 1000 (vB l m w i):=aea (L.le (by decide)) (g.le (by decide)) B
 have ok:f5 (bH (vB l m w) λq=>[]):=zc u λq=>bP _
 have p:gJ (bH (vB l m w) λq=>[]):=zd u g.z
 apply ad2 (W:=W) (η:=bH (vB l m w) λq=>[]) ok (cons':=[(166,5,uM)]) (xs:=[.tm (tv 0),.tm (tv 1)]) (fa:=Kz)
 ·rfl
 ·refine bM ?_ jH
  show decide (bG l=m)=ai
  exact decide_eq_true M
 ·intro V
  refine ad7 (i:=uy) (n:=8) (P:=zp (W.at _ ok) (.tm (tv 1))) (by kernel_rfl) rfl (by kernel_rfl) (by kernel_rfl) ⟨λx j G' D G Y v y K z=>bM (P:=dm (WS (W.at _ ok))) (aaT _ p.tx) jH x j G' D G Y v y K z,pe _,λx j=>Om.nm j,λx j=>Om.nm j,λq q q h=>h⟩ (Tr.tE (ad9 (W.at _ ok) V)) λx o fa h=>?_
  obtain⟨H,A,C,O⟩:=ad6 h
  exact⟨rfl,H,_,_,A,C,O,k⟩
noncomputable def pZ:bg:=λv u K=>match v with
 |[x,y]=>@aY _ (λz=>Tr) .ff (λa=>@aY _ (λz=>Tr) .ff (λb=>.pr (Good 600 a.1.cps.toList/\Good 1000 b.1.cps.toList) (K (.obj u.objs.list.length) ⟨u.loc,.b (u.objs.list++(rZ ⟨ah,lit (bG a.1.cps.toList),ah⟩ b.1).map (fH u.objs.list.length)),u.fa⟩)) (bD y)) (bD x)
 |_=>.ff
set_option tactic.hygienic true in
theorem DQ(W:Wd):dm (WS W) (795,9,pZ):=λG M O Y v j K h=>by
 obtain⟨D,T,m,cs,KX,con,U,A,cv,fr⟩:=G
 obtain rfl:D=WS W:=M
 obtain rfl:T=Tb.T:=O
 have z:(pZ v j K).h:=h
 unfold pZ at z
 split at z
 ·rename_i x y
  cases q:bD x with
  |none=>rw[q] at z;exact z.elim
  |some a=>
   rw[q] at z
   cases q2:bD y with
   |none=>rw[q2] at z;exact z.elim
   |some b=>
    rw[q2] at z
    obtain⟨⟨L,u⟩,g⟩:=z
    obtain⟨⟨⟨k⟩⟩,p⟩:=a
    obtain⟨⟨⟨H⟩⟩,V⟩:=b
    refine av.conv (xs':=[.ss (ak k),.ss (ak H)]) (λC B r=>?_) (av.sw (n:=9) (cons:=[]) Y (aeb (W:=W) rfl (l:=k) (w:=H) rfl L u g))
    cases r using Each.ec with
    |cons r1 r=>cases r using Each.ec with
     |cons r2 r=>exact .cons (p r1) (.cons (V r2) r)
 ·exact z.elim
end
section
open Nu St
noncomputable def KA:∀(z v:List SV),Option (PLift (v=z)):=@bE SV (λz=>∀v,Option (PLift (v=z))) (λv=>match v with
 |[]=>aa ⟨rfl⟩
 |_::_=>ah) (λk z p v=>match v with
 |[]=>ah
 |x::v=>au (Dl x k) λh=>(p v).map λq=>⟨by rw[h.1,q.1]⟩)
noncomputable def aec (y:List (Str×SV)) (o:SO):Option (PLift (o=.dict y)):=au (Lw.JL o) λz=>au (u9 y z.1) λr=>(Dm r.1).map λe=>⟨z.2.trans (congrArg SO.dict (r.2.trans ((congrArg (y++·) e.1).trans (cO _))))⟩
noncomputable def DR (y:List SV) (o:SO):Option (PLift (o=.list ah y)):=au (gy o) λz=>au (gg z.1.1) λx=>(KA y z.1.2).map λh=>⟨z.2.trans (congr (congrArg SO.list x.1) h.1)⟩
noncomputable def ssV (x:SV):Option {w:Str//x=.ss w}:=match x with
 |.ss w=>aa ⟨w,rfl⟩
 |_=>ah
noncomputable def aee (o:SO):Option {w:Str//o=iI w}:=au (gy o) λz=>au (gg z.1.1) λu=>match h:z.1.2 with
 |[x,y]=>au (Dl x (.str (af "b"))) λv=>(ssV y).map λw=>⟨w.1,z.2.trans (by obtain⟨w,rfl⟩:=w;rw[u.1,h,v.1])⟩
 |_=>ah
noncomputable def aef (o:SO):Option {y:List Str//o=.aJ 5000 0 y []}:=au (JV o) λz=>au (aV (aQ z.1.1.1 5000)) λh=>au (aV (aQ z.1.1.2 0)) λu=>(JW z.1.2.2).map λe=>⟨z.1.2.1,z.2.trans (by rw[bJ h.1,bJ u.1,e.1])⟩
noncomputable def aeg (y:List (Str×SV)):Option {x:SV//y=ck++(af "state",x)::cK}:=au (u9 ck y) λr=>au (JS r.1) λz=>au (aV (seq z.1.1.1 (af "state"))) λh=>au (u9 cK z.1.2) λr2=>(Dm r2.1).map λe=>⟨z.1.1.2,by
 obtain⟨r,v⟩:=r
 obtain⟨⟨⟨n,x⟩,t⟩,M⟩:=z
 obtain⟨r2,D⟩:=r2
 obtain rfl:n=af "state":=b9.mp h.1
 obtain rfl:r2=[]:=e.1
 exact v.trans (congrArg (ck++·) (M.trans (congrArg ((af "state",x)::·) (D.trans (cO _)))))⟩
noncomputable def aeh (t:OL):Option {x:SV//t.list[0]? =aa (.inst 762 (ck++(af "state",x)::cK))}:=au (fT t 0) λo=>au (A9 o.1) λz=>au (aV (aQ z.1.1 762)) λh=>(aeg z.1.2).map λq=>⟨q.1,o.2.trans (congrArg aa (z.2.trans ((congrArg (SO.inst · z.1.2) (bJ h.1)).trans (congrArg (SO.inst 762) q.2))))⟩
structure EIn (σ:SS) (v:SV) (st:bQ) (ms:List Str) (w:Str):Prop where
 e:σ.objs.list=pY v st ms w++σ.objs.list.drop 8
noncomputable def aej:List (Str×SV):=[(af "type",.int 3),(af "name",.str (af "P")),(af "data",.obj 6),(af "selfClosing",.bool aj)]
noncomputable def aek:List SV:=[.str (af "a"),.str (af "&")]
noncomputable def KC (y:SS):Option {z:(SV×bQ)×List Str×Str//EIn y z.1.1 z.1.2 z.2.1 z.2.2}:=au (aeh y.objs) λv=>au (fT y.objs 1) λp=>au (rj p.1) λst=>au (fT y.objs 2) λq=>au (aec aej q.1) λu=>au (fT y.objs 3) λo3=>au (aef o3.1) λm=>au (fT y.objs 4) λx=>au (DR [] x.1) λg=>au (fT y.objs 5) λo5=>au (DR aek o5.1) λj=>au (fT y.objs 6) λG=>au (DR [.obj 5,.obj 7] G.1) λk=>au (fT y.objs 7) λH=>(aee H.1).map λw=>
 ⟨((v.1,st.1),m.1,w.1),⟨Dn v.2 (p.2.trans (congrArg aa st.2)) (q.2.trans (congrArg aa u.1)) (o3.2.trans (congrArg aa m.2)) (x.2.trans (congrArg aa g.1)) (o5.2.trans (congrArg aa j.1)) (G.2.trans (congrArg aa k.1)) (H.2.trans (congrArg aa w.2))⟩⟩
noncomputable def c3V (c:Nat):Option (PLift (c=34\/c=39\/c=62)):=gQ ((aV (aQ c 34)).map λh=>⟨.inl (bJ h.1)⟩) (gQ ((aV (aQ c 39)).map λh=>⟨.inr (.inl (bJ h.1))⟩) ((aV (aQ c 62)).map λh=>⟨.inr (.inr (bJ h.1))⟩))
noncomputable def aem (a:SV):Option {c:Nat//a=.str ⟨#[c]⟩}:=match a with
 |.str s=>match s with
  |⟨⟨[c]⟩⟩=>aa ⟨c,rfl⟩
  |_=>ah
 |_=>ah
noncomputable def KD (b:Bool) (v:List SV):Option {c:Nat//v=zk b c/\(c=34\/c=39\/c=62)}:=match v with
 |x::a::r=>au (aem a) λc=>au (c3V c.1) λh=>au (KA (zk b c.1) (x::a::r)) λe=>aa ⟨c.1,e.1,h.1⟩
 |_=>ah
noncomputable def vq (k:Ev) (b:Bool):bg:=λv y K=>@aY _ (λx=>Tr) .ff (λc=>@aY _ (λx=>Tr) .ff (λz=>
 .pr (Good 599 (z.1.1.2.r.ev k)/\z.1.2.1.length<=5000/\z.1.2.2.length<=100000) (.pr (∀H,(K .none ⟨y.loc,.b (eL H ⟨ah,lit (eH c.1 (z.1.1.2.r.ev k)),ah⟩ (z.1.2.1++fX c.1 (z.1.1.2.r.ev k)) (z.1.2.2++ak (fN c.1 (z.1.1.2.r.ev k)))++y.objs.list.drop 8),y.fa⟩).h) .tt)) (KC y)) (KD b v)
theorem KG(W:Wd)(A:Kf W)(b:Bool):dm (WS W) (DM b,7,vq W.η b):=λG U V Y m y K h=>by
 have p:(vq W.η b m y K).h:=h
 unfold vq at p
 cases q:KD b m with
 |none=>rw[q] at p;exact p.elim
 |some c=>
  rw[q] at p
  cases q2:KC y with
  |none=>rw[q2] at p;exact p.elim
  |some z=>
   rw[q2] at p
   obtain⟨⟨x,u,O⟩,j,_⟩:=p
   obtain⟨⟨⟨v,st⟩,M,w⟩,k⟩:=z
   obtain⟨c,rfl,g⟩:=c
   exact ad0 A U V Y g k.e rfl x u O j
noncomputable def DS (k:Ev) (x:SV):SV:=match x with
 |.tm t=>.ss (ak (t.ev k))
 |x=>x
theorem aen{D:Wd}{x:SV}:gz D x (DS D.η x):=λz v r=>by cases x<;>exact r
noncomputable def DU (k:Ev):bg:=λv y K=>uL v y λx z=>K (DS k x) z
theorem KH(W:Wd):dm (WS W) (156,5,DU W.η):=λG v m Y p y K h=>av.ph ((Jf W G v m Y p y (λx u=>K (DS W.η x) u) h).mp λx u z=>⟨_,_,by rw[v];exact aen (D:=WS W),λq q q R=>R,z⟩)
end
section
open Nu St Tb
noncomputable abbrev lS (i:Nat):Stmt:=aN fU.body i
noncomputable def KI (k:Ev):List (Addr×Nat×bg):=[(133,4,rI k),(156,5,DU k),(290,7,vq k ai),(42,1,uQ)]
noncomputable abbrev gT (W:Wd):Gx:=gW W 20 fU.scope (KI W.η) [] aj
noncomputable def runN (G:Gx) (b:List Stmt) (q:SS) (K:Fl->SS->Prop):Prop:=(di (ex 60 G) b q λx z=>.pr (K x (dX z)) .tt).t.h
theorem fu{G:Gx}(g:bw G){b:List Stmt}{k:SS}{K:Fl->SS->Prop}(h:runN G b k K):aO G b k K:=aC.re (((di (ex 60 G) b k λx m=>.pr (K x (dX m)) .tt).ok h g).mp λY Y z=>z.1) λx m c V j s v U p R q z=>⟨j,dX m,x,p,R.nf,q,z⟩
noncomputable abbrev jK:List Stmt:=jU (lS 7) 0
noncomputable abbrev bN (s:Int) (L:List (Str×SV)):List (Str×SV):=(af "t",.obj 0)::(af "state",.int s)::L
noncomputable abbrev tL (x:SV) (st:bQ) (y:List Str) (w:Str) (X:List SO):List SO:=pY x st y w++X
noncomputable abbrev tQI (q Y x:Bool) (k:Ev) (s:Int) (f:Addr) (a c:Nat) (z:List Nat) (y:List Str) (w:Str) (u:SO) (L:List (Str×SV)) (K:Fl->SS->Prop):Prop:=
 (q=ai->K .next ⟨bN s L,.b (tL (.obj 10) ⟨ah,lit z,aa (lit [c])⟩ y w [u,.aI f (.obj 0),.aI 584 (.obj 0)]),[]⟩/\True)/\
 (q=aj->
   (Y=ai->(Good 599 z/\y.length<=5000/\w.length<=100000)/\(∀H,K .next ⟨bN s L,.b (tL (.val H) ⟨ah,lit (eH a z),ah⟩ (y++fX a z) (w++ak (fN a z)) [u,.aI f (.obj 0)]),[]⟩/\True)/\True)/\
   (Y=aj->
     (x=ai->(∃_:5000+y.length+0<=16777216,w.length+(af "�").length<=sizeLine/\K .next ⟨bN s L,.b (tL (.obj 9) ⟨ah,lit z,aa (lit [c])⟩ (y++[af "invalid-codepoint"]) (w++af "�") [u,.aI f (.obj 0),.gone]),[]⟩/\True)/\True)/\
     (x=aj->
       1+(ak ((gA aj [a,38,0] (lit z)).ev k)).length<=sizeLine/\w.length+(⟨#[c]⟩++ak ((gA aj [a,38,0] (lit z)).ev k):Str).length<=sizeLine/\
        K .next ⟨bN s L,.b (tL (.obj 9) ⟨ah,rz aj [a,38,0] (lit z),ah⟩ y (w++(⟨#[c]⟩++ak ((gA aj [a,38,0] (lit z)).ev k))) [u,.aI f (.obj 0),.gone]),[]⟩/\True)))
noncomputable abbrev DV (k:Ev) (s:Int) (f:Addr) (q:Str) (a:Nat) (z:Str) (T:List Nat) (y:List Str) (w:Str) (u:SO) (L:List (Str×SV)) (K:Fl->SS->Prop):Prop:=
 ((T=[]->(∃_:5000+y.length+0<=16777216,K .next ⟨bN s L,.b (tL (.obj 11) ⟨ah,lit [],ah⟩ (y++[z]) w [u,.aI f (.obj 0),.gone,.aI 304 (.obj 0)]),[]⟩/\True)/\True)/\
 ∀c x,T=c::x->
  tQI (seq ⟨#[c]⟩ q) (seq ⟨#[c]⟩ (af "&")) (seq ⟨#[c]⟩ (af "\x00")) k s f a c x y w u L K)/\True
section
variable(W:Wd)(K:Fl->SS->Prop)(v:Value)(T:List Nat)(un:Option Tm)(y:List Str)(w:Str)(u:SO)(L:List (Str×SV))
theorem KJ:runN (gT W) jK ⟨bN 0 L,.b (tL (.val v) ⟨ah,lit T,un⟩ y w [u]),[]⟩ K=DV W.η 0 563 (af "\"") 34 (af "eof-in-attribute-value-double-quote") T y w u L K:=by kernel_rfl
theorem KL:runN (gT W) jK ⟨bN 1 L,.b (tL (.val v) ⟨ah,lit T,un⟩ y w [u]),[]⟩ K=DV W.η 1 570 (af "'") 39 (af "eof-in-attribute-value-single-quote") T y w u L K:=by kernel_rfl
noncomputable abbrev vv:SO:=.tup [.str (af "\""),.str (af "'"),.str (af "="),.str (af "<"),.str (af "`")]
noncomputable abbrev aep:SO:=.tup [.str (af "&"),.str (af ">"),.str (af "\""),.str (af "'"),.str (af "="),.str (af "<"),.str (af "`"),.str (af "\x00")]
noncomputable abbrev m8:List Nat:=[38,62,34,39,61,60,96,0,9,10,12,32,13]
noncomputable def KN:List Str:=[af "\t",af "\n",af "\x0c",af " ",af "\x0d"]
noncomputable def KO:List Str:=[af "\"",af "'",af "=",af "<",af "`"]
noncomputable abbrev aeq:Str:=af "unexpected-character-in-unquoted-attribute-value"
noncomputable abbrev t2I (m Y p q x:Bool) (k:Ev) (c:Nat) (z:List Nat) (y:List Str) (w:Str) (u:SO) (L:List (Str×SV)) (K:Fl->SS->Prop):Prop:=
 (m=ai->K .next ⟨bN 2 L,.b (tL (.obj 10) ⟨ah,lit z,aa (lit [c])⟩ y w [u,.aI 577 (.obj 0),.aI 535 (.obj 0)]),[]⟩/\True)/\
 (m=aj->
   (Y=ai->(Good 599 z/\y.length<=5000/\w.length<=100000)/\(∀H,K .next ⟨bN 2 L,.b (tL (.val H) ⟨ah,lit (eH 62 z),ah⟩ (y++fX 62 z) (w++ak (fN 62 z)) [u,.aI 577 (.obj 0)]),[]⟩/\True)/\True)/\
   (Y=aj->
     (p=ai->(∃_:5000+y.length+0<=16777216,K .next ⟨bN 2 L,.b [.inst 762 (ck++(af "state",.obj 11)::cK),.blob (.strm ⟨ah,lit z,aa (lit [c])⟩),.dict [(af "type",.int 3),(af "name",.tm (.n 11 [] (lit [80]) .e)),(af "data",.obj 10),(af "selfClosing",.bool aj)],.aJ 5000 0 y [.obj 2],.list ah [],d7,cM,iI w,u,.aI 577 (.obj 0),.bz [(lit [97],.str (af "&")),(lit [98],.ss w)],.aI 304 (.obj 0)],[]⟩/\True)/\True)/\
     (p=aj->
       (q=ai->(∃_:5000+y.length+0<=16777216,w.length+(⟨#[c]⟩:Str).length<=sizeLine/\K .next ⟨bN 2 L,.b (tL (.obj 9) ⟨ah,lit z,aa (lit [c])⟩ (y++[aeq]) (w++⟨#[c]⟩) [u,.aI 577 (.obj 0),vv,.gone]),[]⟩/\True)/\True)/\
       (q=aj->
         (x=ai->(∃_:5000+y.length+0<=16777216,w.length+(af "�").length<=sizeLine/\K .next ⟨bN 2 L,.b (tL (.obj 9) ⟨ah,lit z,aa (lit [c])⟩ (y++[af "invalid-codepoint"]) (w++af "�") [u,.aI 577 (.obj 0),vv,.gone]),[]⟩/\True)/\True)/\
         (x=aj->
           1+(ak ((gA aj m8 (lit z)).ev k)).length<=sizeLine/\w.length+(⟨#[c]⟩++ak ((gA aj m8 (lit z)).ev k):Str).length<=sizeLine/\
            K .next ⟨bN 2 L,.b (tL (.obj 9) ⟨ah,rz aj m8 (lit z),ah⟩ y (w++(⟨#[c]⟩++ak ((gA aj m8 (lit z)).ev k))) [u,.aI 577 (.obj 0),vv,aep,.gone]),[]⟩/\True)))))
theorem KP:runN (gT W) jK ⟨bN 2 L,.b (tL (.val v) ⟨ah,lit T,un⟩ y w [u]),[]⟩ K=
 (((T=[]->(∃_:5000+y.length+0<=16777216,K .next ⟨bN 2 L,.b (tL (.obj 12) ⟨ah,lit [],ah⟩ (y++[af "eof-in-attribute-value-no-quotes"]) w [u,.aI 577 (.obj 0),vv,.gone,.aI 304 (.obj 0)]),[]⟩/\True)/\True)/\
 ∀c z,T=c::z->
  t2I (has ⟨#[c]⟩ KN) (seq ⟨#[c]⟩ (af "&")) (seq ⟨#[c]⟩ (af ">")) (has ⟨#[c]⟩ KO) (seq ⟨#[c]⟩ (af "\x00")) W.η c z y w u L K)/\True):=by kernel_rfl
end
end
section
open Nu St Tb
noncomputable def zq:Nat->List Str->List SV
 |_,[]=>[]
 |k,_::z=>.obj k::zq (k+1) z
theorem aes{D:Wd}{z:List Str}{obs:List (Addr×Obj)}(h:Each (Flt D.prog D.w) z obs):∀pre:List Addr,aM D (pre++obs.map aS) (zq pre.length z) (obs.map λp=>cy p.1):=by
 induction h with
 |nil=>exactλpre=>.nil
 |@cons f p z obs a _ y=>
  intro pre
  have:=y (pre++[p.1])
  rw[bY,bK] at this
  exact .cons ⟨p.1,by rw[dY (aH _),iP];rfl,rfl⟩ this
theorem aet:∀obs:List (Addr×Obj),flat (obs.map λp=>((p.1,[p]):Cl))=obs:=λobs=>by
 induction obs with
 |nil=>rfl
 |cons p obs z=>show[p]++flat (obs.map _)=_;rw[z];rfl
theorem RepS.unq{D:Wd}{c:Cx}{V:List Addr}{k:SS}{s:Shared}{i n:Nat}{ms:List Str}(R:RepS D c V k s)(ho:k.objs.list[i]? =aa (.aJ n 0 ms [])):∃L,V<+:L/\RepS D c L ⟨k.loc,.b (aX k.objs.list i (.list ah (zq k.objs.list.length ms))++ms.map .cz),k.fa⟩ s:=by
 obtain⟨⟨m,⟨O,ad,C,l2,g,gr,F,N⟩,hl⟩,tp,u⟩:=R
 have B:V.length=k.objs.list.length:=by rw[<-ad,i8];exact(Each.len C).symm
 obtain⟨⟨y,l⟩,G,oi⟩:=Each.get C ho
 obtain⟨obs,vs,z,e,H,hn,f⟩:=oi
 obtain rfl:l=(y,listOf (obs.map (λp=>cy p.1)++vs:List Value).toArray z)::obs:=e
 cases f
 have H:Each (Flt D.prog D.w) ms obs:=H
 have hz:ms.length=obs.length:=Each.len H
 let x:Cl:=(y,[(y,listOf (obs.map (λp=>cy p.1)++[]:List Value).toArray z)])
 have A:(flat (O.set i x++obs.map λp=>(p.1,[p]))++c.X).Perm (flat O++c.X):=by
  have h1:=Ca (q:=x) G
  have h2:flat (O.set i x++obs.map λp=>(p.1,[p]))=flat (O.set i x)++obs:=by
   rw[flat,oq]
   exact congrArg (flat (O.set i x)++·) (aet obs)
  rw[h2]
  refine ER _ ((LD [(y,listOf (obs.map (λp=>cy p.1)++[]:List Value).toArray z)]).mp ?_)
  refine Mx ?_ h1
  exact(LD _).mpr LO
 have U:V<+:V++obs.map aS:=dB _ _
 refine⟨V++obs.map aS,U,⟨⟨m,⟨O.set i x++obs.map λp=>(p.1,[p]),?_,?_,(A.map aS).nodup_iff.mpr l2,g,gr,F,λp hp=>N p (A.subset hp)⟩,hl.mono U⟩,tp,u⟩⟩
 ·rw[dH,Cb (q:=x) G rfl,ad,Ag];rfl
 ·have hv:=aes H V
  rw[B] at hv
  refine Each.app (Each.set (LR.mono U C) i (y:=x) ⟨[],obs.map λp=>cy p.1,z,by simp[x],rfl,hv⟩) ?_
  have:∀{M:List Addr} {ms:List Str} {obs:List (Addr×Obj)},Each (Flt D.prog D.w) ms obs->LR D c.R M (ms.map .cz) (obs.map λp=>((p.1,[p]):Cl)):=@λM ms obs h=>by
   induction h with
   |nil=>exact .nil
   |@cons f p ms obs a _ ih=>exact .cons ⟨p,rfl,rfl,a⟩ ih
  exact this H
noncomputable def KQ (k:Ev):List (Addr×Nat×bg):=[(795,9,pZ),(283,7,vq k aj),(156,5,DU k)]
noncomputable abbrev gR (W:Wd):Gx:=gi (WS W) uz.scope 10 (KQ W.η)
noncomputable def rB (i:Nat):Stmt:=aN uz.body i
noncomputable abbrev rL (l:List Nat) (s:Nat):List (Str×SV):=[(af "rest",.ss (ak l)),(af "state",.int s)]
noncomputable abbrev rU (l:List Nat) (s:Nat):List (Str×SV):=(af "u",.obj 0)::rL l s
noncomputable abbrev DW:SO:=.list ah [.str (af "\""),.str (af "'"),.str (af ">")]
section
variable(W:Wd)(K:Fl->SS->Prop)(l m:List Nat)(s:Nat)(v:Value)(st:bQ)(w:Str)(r:Tm)(u:List Fact)
theorem vR0:runN (gR W) [rB 0] ⟨rL l s,.b [],[]⟩ K=((Good 600 l/\Good 1000 [])/\K .next ⟨rU l s,.b (rZ ⟨ah,lit (bG l),ah⟩ ⟨#[]⟩),[]⟩/\True):=by kernel_rfl
noncomputable abbrev DX (a:Nat):Prop:=(Good 599 m/\([]:List Str).length<=5000/\(⟨#[]⟩:Str).length<=100000)/\(∀H,K .next ⟨rU l s,.b (eL H ⟨ah,lit (eH a m),ah⟩ ([]++fX a m) (⟨#[]⟩++ak (fN a m))++[.aI 304 (.obj 0),DW]),[]⟩/\True)/\True
theorem aev:runN (gR W) [rB 1] ⟨rU l 0,.b (pY (.obj 8) ⟨ah,lit m,ah⟩ [] ⟨#[]⟩++[.aI 304 (.obj 0)]),[]⟩ K=DX K l m 0 34:=by kernel_rfl
theorem aew:runN (gR W) [rB 1] ⟨rU l 1,.b (pY (.obj 8) ⟨ah,lit m,ah⟩ [] ⟨#[]⟩++[.aI 304 (.obj 0)]),[]⟩ K=DX K l m 1 39:=by kernel_rfl
theorem aex:runN (gR W) [rB 1] ⟨rU l 2,.b (pY (.obj 8) ⟨ah,lit m,ah⟩ [] ⟨#[]⟩++[.aI 304 (.obj 0)]),[]⟩ K=DX K l m 2 62:=by kernel_rfl
noncomputable abbrev rO (v:Value) (st:bQ) (w:Str) (z:List Str):List SO:=[lE v,.blob (.strm st),fm,.list ah (zq 10 z),.list ah [],d7,cM,iI w,.aI 304 (.obj 0),DW]++z.map .cz
noncomputable abbrev zu (k:Ev) (r:List Nat):Str:=ak ((gA aj [] (lit r)).ev k)
noncomputable abbrev zv (r:List Nat) (z:List Str) (L:Nat):Prop:=(ak l).length<=sizeLine/\(zu W.η r).length<=sizeLine/\K (.ret (.obj (L+2))) ⟨(af "faults",.obj L)::rU l s,.b (rO v (pD aj [] ⟨ah,lit r,ah⟩) w z++[.list ah (z.map .ss),.gone,.tup [.ss w,.obj L,.si ((ak l).length-(zu W.η r).length)]]),[]⟩/\True
noncomputable abbrev r8 (r:List Nat) (z:List Str):Prop:=runN (gR W) [rB 2,rB 3] ⟨rU l s,.b (rO v ⟨ah,lit r,ah⟩ w z),[]⟩ K
theorem aey(r:List Nat):r8 W K l s v w r []=zv W K l s v w r [] 10:=by kernel_rfl
theorem aez(r:List Nat)(z:Str):r8 W K l s v w r [z]=zv W K l s v w r [z] 11:=by kernel_rfl
theorem aeA(r:List Nat)(z x:Str):r8 W K l s v w r [z,x]=zv W K l s v w r [z,x] 12:=by kernel_rfl
end
theorem aeB{W:Wd}(p:gJ W.η)(A:Kf W):bw (gR W):=pB (bM (DQ W) (bM (KG W A aj) (bM (KH W) jH)))
theorem MO.strs{Y:Wd}{u:List Fact}{j:List Nat}{z:List Str}:MO Y u j (.list (aa (.strs z)) []) (.list ah (z.map .ss)):=λ{X k x a l} ok J r=>by
 obtain⟨U,y,n,e,q,f⟩:=r
 obtain rfl:U=[]:=q
 refine⟨l,⟨y,[],n,by rw[e,cO,ow],?_,.nil⟩,fY _⟩
 show StrsAre y z
 have:∀{z:List Str} {y:List Value},aM (WS Y) k (z.map .ss) y->StrsAre y z:=@λz=>by
  induction z with
  |nil=>intro y h;cases h;exact .nil
  |cons m z p=>
   intro y h
   cases h using Each.ec with
   |cons a b=>obtain⟨t,rfl⟩:=a;exact .cons _ _ (p b)
 exact this f
theorem aeC(k:Ev)(r:List Nat):(gA aj [] (lit r)).ev k=r:=by
 rw[uI]
 induction r with
 |nil=>rfl
 |cons c r p=>exact(v5 (by kernel_rfl)).trans (congrArg (c::·) p)
theorem KS(k:Ev)(r:List Nat):zu k r=ak r:=congrArg ak (aeC k r)
theorem aeD(o:List Nat):(⟨#[]⟩:Str)++ak o=ak o:=gj (by show((#[]:Array Nat)++o.toArray).toList=_;simp[ak])
theorem cC.DY{D:Wd}:cC D (.aJ 5000 0 [] []) (.list ah []):=λX z a l r=>by
 obtain⟨U,y,n,e,q,f⟩:=r
 obtain rfl:U=[]:=q
 cases f
 exact⟨[],[],n,e,.nil,bP _,.nil⟩
section
variable{Y:Wd}{u:List Fact}{j:List Nat}
theorem MV.obj{a b:Nat}(h:at? j a=aa b):MV Y u j (.obj a) (.obj b):=λz J r=>by
 obtain⟨q,x,e⟩:=r
 exact⟨q,J _ _ _ h x,e⟩
theorem MV.flat{x:SV}(h:fE x=ai):MV Y u j x x:=λz z r=>VR.any h r
end
theorem aeE:uz.body=[rB 0]++([rB 1]++[rB 2,rB 3]):=by kernel_rfl
theorem aeF{W:Wd}(ha:gJ W.η)(kf:Kf W){G:Gx}(hD:G.D=WS W)(hT:G.T=Tb.T)(hn:11<=G.n){s:Nat}(B:s<3){l:List Nat}(U:Good 599 l)(hm:bG l=l){y:SS}{K:SV->SS->Prop}
 (k:K (.obj (y.objs.list.length+1)) ⟨y.loc,.b (y.objs.list++[.list (aa (.strs (fX (bI s) l))) [],.tup [.ss (ak (fN (bI s) l)),.obj (y.objs.list.length+0),.si (l.length-(eH (bI s) l).length)]]),y.fa⟩):av G (.ref 812) [.ss (ak l),.int s] y K:=by
 refine DF (W:=W) hD rfl λz A=>?_
 refine av.facts λok=>⟨[],(λf hf=>Om.nm hf),?_⟩
 obtain⟨D,T,m,cs,KX,con,sc,ec,cv,fr⟩:=G
 obtain rfl:D=WS W:=hD
 obtain rfl:T=Tb.T:=hT
 refine av.sw (n:=11) (cons:=KQ W.η) hn (j8 (i:=uz) (n:=10) (by kernel_rfl) rfl (by kernel_rfl) (by kernel_rfl) ?_)
 have g:=aeB ha kf
 rw[aeE]
 refine pJ (fu (G:=gR W) g ?_)
 show runN (gR W) [rB 0] ⟨rL l s,.b [],[]⟩ _
 rw[vR0]
 refine⟨⟨U.le (by decide),⟨bP _,λc hc=>Om.nm hc⟩⟩,?_,trivial⟩
 rw[hm]
 refine aC.pre (σ':=⟨rU l s,.b (pY (.obj 8) ⟨ah,lit l,ah⟩ [] ⟨#[]⟩++[.aI 304 (.obj 0)]),[]⟩) (ay.objs ?_) ?_
 ·exact .cons (.refl _) (.cons (.refl _) (.cons (.refl _) (.cons cC.DY (cC.all _))))
 have fin:∀H:Value,aO (gR W) [rB 2,rB 3] ⟨rU l s,.b (eL H ⟨ah,lit (eH (bI s) l),ah⟩ ([]++fX (bI s) l) (⟨#[]⟩++ak (fN (bI s) l))++[.aI 304 (.obj 0),DW]),[]⟩ (oV z (zb W z y K)):=λH=>by
  have h2:=(zj (zm B) U).2.2
  rw[aeD,ow]
  have leaf:∀(L:Nat) (ms:List Str) (x:bQ),fX (bI s) l=ms->ms.length<=2->L=10+ms.length->zv W (oV z (zb W z y K)) l s H (ak (fN (bI s) l)) (eH (bI s) l) ms L:=λL ms x e hz hL=>by
   have q:l.length<=sizeLine:=aq U.z (by decide)
   have hr:=(zj (zm B) U).2.1
   refine⟨by rw[cP];exact q,by rw[KS,cP];exact aq hr.length_le q,⟨rfl,[L,L+2],[.list (aa (.strs ms)) [],.tup [.ss (ak (fN (bI s) l)),.obj 0,.si (l.length-(eH (bI s) l).length)]],.obj 1,?_,?_,MV.obj rfl,?_⟩,trivial⟩
   ·have e0:(rO H (pD aj [] ⟨ah,lit (eH (bI s) l),ah⟩) (ak (fN (bI s) l)) ms).length=L:=by rw[hL,bK,i8];rfl
    refine .cons ⟨_,?_,MO.strs⟩ (.one ⟨_,?_,MO.tup (xs:=[.ss (ak (fN (bI s) l)),.obj L,.si ((ak l).length-(zu W.η (eH (bI s) l)).length)]) (.cons (MV.flat rfl) (.cons (MV.obj rfl) (.one ?_)))⟩)
    ·show(rO H _ _ ms++_)[L]? =_
     rw[dY (aK e0),e0,iP];rfl
    ·show(rO H _ _ ms++_)[L+2]? =_
     rw[dY (by rw[e0];exact bL _ _),e0,jN];rfl
    ·rw[KS,cP,cP];exact MV.flat rfl
   ·exact ef.mpr ⟨λh=>by have:=d8.mp h;exact absurd this (fQ (ahz (by decide))),ef.mpr ⟨λh=>Om.nm h,wu⟩⟩
   ·rw[<-e];exact k
  refine aO.Kn (σ':=⟨rU l s,.b (rO H ⟨ah,lit (eH (bI s) l),ah⟩ (ak (fN (bI s) l)) (fX (bI s) l)),[]⟩) (λc ρ s' R=>?_) ?_
  ·obtain⟨O,p,R'⟩:=R.unq (i:=3) (n:=5000) (ms:=fX (bI s) l) rfl
   exact⟨O,p,R'⟩
  refine fu (G:=gR W) g ?_
  generalize V:fX (bI s) l=ms at h2⊢
  rcases ms with _|⟨f1,_|⟨f2,_|⟨f3,ms⟩⟩⟩
  ·show r8 W _ l s H _ _ []
   rw[aey];exact leaf _ _ ⟨ah,lit [],ah⟩ V (by decide) rfl
  ·show r8 W _ l s H _ _ [f1]
   rw[aez];exact leaf _ _ ⟨ah,lit [],ah⟩ V (eg 1) rfl
  ·show r8 W _ l s H _ _ [f1,f2]
   rw[aeA];exact leaf _ _ ⟨ah,lit [],ah⟩ V (aH 2) rfl
  ·exact absurd h2 (by simp)
 refine pJ (fu (G:=gR W) g ?_)
 have C:([]:List Str).length<=5000:=by decide
 have M:(⟨#[]⟩:Str).length<=100000:=by decide
 rcases Om.o3 B with rfl|rfl|rfl
 ·rw[aev];exact⟨⟨U,C,M⟩,λH=>⟨fin H,trivial⟩,trivial⟩
 ·rw[aew];exact⟨⟨U,C,M⟩,λH=>⟨fin H,trivial⟩,trivial⟩
 ·rw[aex];exact⟨⟨U,C,M⟩,λH=>⟨fin H,trivial⟩,trivial⟩
end
section
open Nu St Tb
noncomputable def natE (y:SV):Option {s:Nat//y=.int s}:=match y with
 |.int i=>match i with
  |.ofNat s=>aa ⟨s,rfl⟩
  |_=>ah
 |_=>ah
noncomputable def vy:bg:=λv u K=>match v with
 |[x,y]=>@aY _ (λz=>Tr) .ff (λa=>@aY _ (λz=>Tr) .ff (λs=>@az (λz=>Tr) .ff
   (.pr (Good 599 a.1.cps.toList/\bG a.1.cps.toList=a.1.cps.toList) (K (.obj (u.objs.list.length+1)) ⟨u.loc,.b (u.objs.list++[.list (aa (.strs (fX (bI s.1) a.1.cps.toList))) [],.tup [.ss (ak (fN (bI s.1) a.1.cps.toList)),.obj (u.objs.list.length+0),.si (a.1.cps.toList.length-(eH (bI s.1) a.1.cps.toList).length)]]),u.fa⟩)) (dW s.1 3)) (natE y)) (bD x)
 |_=>.ff
set_option tactic.hygienic true in
theorem aeG(W:Wd)(p:gJ W.η)(A:Kf W):dm (WS W) (812,11,vy):=λG U V Y v k K h=>by
 have z:(vy v k K).h:=h
 unfold vy at z
 split at z
 ·rename_i x y
  cases q:bD x with
  |none=>rw[q] at z;exact z.elim
  |some a=>
   rw[q] at z
   cases q2:natE y with
   |none=>rw[q2] at z;exact z.elim
   |some s=>
    rw[q2] at z
    obtain⟨s,rfl⟩:=s
    dsimp only at z
    cases m:dW s 3 with
    |false=>rw[m] at z;exact z.elim
    |true=>
     rw[m] at z
     obtain⟨⟨O,u⟩,g⟩:=z
     obtain⟨⟨⟨l⟩⟩,j⟩:=a
     refine av.conv (xs':=[.ss (ak l),.int s]) (λM L r=>?_) (aeF p A U V Y (aB m) O u g)
     cases r using Each.ec with
     |cons r1 r=>exact .cons (j r1) r
 ·exact z.elim
noncomputable abbrev gC (W:Wd):Gx:=gi (WS W) uA.scope 12 [(812,11,vy)]
noncomputable def cB (i:Nat):Stmt:=aN uA.body i
noncomputable abbrev cT:Expr:=jT (cB 4) 0
noncomputable abbrev cW:List Stmt:=jU (cB 4) 0
end
section
open Nu St Tb
theorem RepS.mv{D:Wd}{c:Cx}{Y:List Addr}{p z:List (Str×SV)}{o:SO}{j:List Fact}{s:Shared}(R:RepS D c Y ⟨p,.b [o],j⟩ s)(h:oW 0 o=ai)(B:∀x y,lk x z=aa y->lk x p=aa y\/(lk x p=aa (.obj 0)/\y=.obj 1)):∃k,Y<+:k/\RepS D c k ⟨z,.b [.gone,o],j⟩ s:=by
 obtain⟨⟨m,⟨G,ad,C,l2,g,A,F,N⟩,O⟩,L,j⟩:=R
 cases C using Each.ec with
 |@cons q G r H=>
  cases H
  obtain rfl:Y=[q.1]:=ad.symm
  have U:[q.1]<+:[q.1,q.1]:=⟨[q.1],rfl⟩
  refine⟨[q.1,q.1],U,⟨⟨m,⟨[(q.1,[]),q],rfl,.cons rfl (.one (OR.mono U r)),l2,g,A,F,N⟩,λx y e=>?_⟩,L,j⟩⟩
  rcases B x y e with V|⟨V,M⟩
  ·obtain⟨v,a,b⟩:=O x y V
   exact⟨v,a,b.mono U⟩
  ·subst M
   obtain⟨v,a,b⟩:=O x _ V
   obtain⟨ad,u,rfl⟩:=b
   cases u
   exact⟨_,a,q.1,rfl,rfl⟩
end
section
open Nu St Tb
noncomputable abbrev ia (m:List Nat) (s:Nat) (V:Str) (n p:Nat):List (Str×SV):=[(af "value",.ss V),(af "faults",.obj 1),(af "pieces",.si n),(af "at",.si p),(af "mended",.ss (ak m)),(af "state",.int s)]
noncomputable abbrev lM (F:List Str):OL:=.b [.gone,.list (aa (.strs F)) []]
noncomputable abbrev cQ (m:List Nat) (s:Nat) (V:Str) (F:List Str) (n p:Nat) (X:List (Str×SV)):SS:=⟨X++ia m s V n p,lM F,[]⟩
noncomputable def KU:List SV:=[.str (af "\""),.str (af "'"),.str (af "> \t\n\x0c")]
noncomputable def DZ:List SV:=[.str (af "\"&\x00"),.str (af "'&\x00"),.str (af "&>\"'=<`\x00 \t\n\x0c")]
noncomputable def zw (s:Nat):Str:=[af "\"",af "'",af "> \t\n\x0c"].getD s ⟨#[]⟩
noncomputable def r9 (s:Nat):Str:=[af "\"&\x00",af "'&\x00",af "&>\"'=<`\x00 \t\n\x0c"].getD s ⟨#[]⟩
section
variable(W:Wd)(m:List Nat)(V:Str)(F:List Str)(n p:Nat)
noncomputable abbrev vz (s:Nat) (z:Str) (K:SV->SS->Prop):Prop:=(ak m).length<=sizeLine/\
 (decide ((p:Int)<(ak m).length)=ai->(-((ak m).length:Int)<=p/\(p:Int)<(ak m).length/\(ak m).length<=sizeLine)/\
   ((!jG z (eS (ak m) p))=ai->K (.bool ai) ⟨ia m s V n p,.a (lM F) (.list ah KU),[]⟩/\True)/\
   ((!jG z (eS (ak m) p))=aj->K (.bool aj) ⟨ia m s V n p,.a (lM F) (.list ah KU),[]⟩/\True))/\
 (decide ((p:Int)<(ak m).length)=aj->K (.bool aj) (cQ m s V F n p [])/\True)
theorem eT0(K:SV->SS->Prop):dz (gC W) cT (cQ m 0 V F n p []) K=vz m V F n p 0 (af "\"") K:=by kernel_rfl
theorem D0(K:SV->SS->Prop):dz (gC W) cT (cQ m 1 V F n p []) K=vz m V F n p 1 (af "'") K:=by kernel_rfl
theorem eT2(K:SV->SS->Prop):dz (gC W) cT (cQ m 2 V F n p []) K=vz m V F n p 2 (af "> \t\n\x0c") K:=by kernel_rfl
noncomputable abbrev b5 (g:Str) (e:Int):List (Str×SV):=[(af "end",.si e),(af "sign",.ss g)]
theorem eB(s:Nat)(K:Fl->SS->Prop):runN (gC W) [aN cW 0,aN cW 1] (cQ m s V F n p []) K=((-((ak m).length:Int)<=p/\(p:Int)<(ak m).length/\(ak m).length<=sizeLine)/\K .next (cQ m s V F n p (b5 (eS (ak m) p) ((p:Int)+1)))/\True):=by kernel_rfl
noncomputable abbrev if1:Stmt:=aN cW 2
noncomputable abbrev if2:Stmt:=aN (c5 if1) 0
noncomputable abbrev iZ:Stmt:=aN (c5 if2) 0
theorem eI1(s:Nat)(g:Str)(e:Int)(K:SV->SS->Prop):dz (gC W) (bX if1) (cQ m s V F n p (b5 g e)) K=(K (.sb (seq g (af "&"))) (cQ m s V F n p (b5 g e))/\True):=by kernel_rfl
theorem eI2(s:Nat)(g:Str)(e:Int)(K:SV->SS->Prop):dz (gC W) (bX if2) (cQ m s V F n p (b5 g e)) K=(K (.sb (seq g (af "\x00"))) (cQ m s V F n p (b5 g e))/\True):=by kernel_rfl
noncomputable abbrev vA (s:Nat) (z g:Str) (e:Int) (K:SV->SS->Prop):Prop:=K (.sb (jG z g)) ⟨b5 g e++ia m s V n p,.a (lM F) (.list ah DZ),[]⟩/\True
theorem aeL(g:Str)(e:Int)(K:SV->SS->Prop):dz (gC W) (bX iZ) (cQ m 0 V F n p (b5 g e)) K=vA m V F n p 0 (af "\"&\x00") g e K:=by kernel_rfl
theorem aeM(g:Str)(e:Int)(K:SV->SS->Prop):dz (gC W) (bX iZ) (cQ m 1 V F n p (b5 g e)) K=vA m V F n p 1 (af "'&\x00") g e K:=by kernel_rfl
theorem aeN(g:Str)(e:Int)(K:SV->SS->Prop):dz (gC W) (bX iZ) (cQ m 2 V F n p (b5 g e)) K=vA m V F n p 2 (af "&>\"'=<`\x00 \t\n\x0c") g e K:=by kernel_rfl
end
end
section
open Nu St Tb
noncomputable abbrev se (m:List Nat) (e:Int):Str:=dc (ak m) (aa e) ah
section
variable(W:Wd)(m:List Nat)(V:Str)(F:List Str)(n p:Nat)
noncomputable abbrev vD (s:Nat) (r:List Nat) (g:Str) (e:Int) (K:Fl->SS->Prop):Prop:=(ak m).length<=sizeLine/\(Good 599 r/\bG r=r)/\F.length+(fX (bI s) r).length<=16777216/\
 K .next ⟨(af "end",.si (e+(r.length-(eH (bI s) r).length)))::(af "faults",.obj 4)::(af "length",.si (r.length-(eH (bI s) r).length))::(af "told",.obj 2)::(af "sign",.ss (ak (fN (bI s) r)))::(b5 g e++ia m s V n p),.b [.gone,.list (aa (.strs F)) [],.list (aa (.strs (fX (bI s) r))) [],.tup [.ss (ak (fN (bI s) r)),.obj 2,.si (r.length-(eH (bI s) r).length)],.list (aa (.strs (F++fX (bI s) r))) []],[]⟩/\True
theorem ea0(g:Str)(e:Int)(K:Fl->SS->Prop):runN (gC W) (cJ if1) (cQ m 0 V F n p (b5 g e)) K=vD m V F n p 0 (se m e).cps.toList g e K:=by kernel_rfl
theorem ea1(g:Str)(e:Int)(K:Fl->SS->Prop):runN (gC W) (cJ if1) (cQ m 1 V F n p (b5 g e)) K=vD m V F n p 1 (se m e).cps.toList g e K:=by kernel_rfl
theorem ea2(g:Str)(e:Int)(K:Fl->SS->Prop):runN (gC W) (cJ if1) (cQ m 2 V F n p (b5 g e)) K=vD m V F n p 2 (se m e).cps.toList g e K:=by kernel_rfl
theorem eb2(s:Nat)(g:Str)(e:Int)(K:Fl->SS->Prop):runN (gC W) (cJ if2) (cQ m s V F n p (b5 g e)) K=(F.length+0+1<=16777216/\
 K .next ⟨(af "faults",.obj 3)::(af "sign",.str (af "�"))::(b5 g e++ia m s V n p),.b [.gone,.list (aa (.strs F)) [],.list ah [.str vp],.list (aa (.strs F)) [.str vp]],[]⟩/\True):=by kernel_rfl
theorem eb3(s:Nat)(g:Str)(e:Int)(K:Fl->SS->Prop):runN (gC W) (cJ iZ) (cQ m s V F n p (b5 g e)) K=(F.length+0+1<=16777216/\
 K .next ⟨(af "faults",.obj 3)::(b5 g e++ia m s V n p),.b [.gone,.list (aa (.strs F)) [],.list ah [.str vo],.list (aa (.strs F)) [.str vo]],[]⟩/\True):=by kernel_rfl
noncomputable abbrev wI:Stmt:=aN (c5 iZ) 0
noncomputable abbrev sf:Expr:=jT wI 0
noncomputable abbrev wTP (s:Nat) (z g:Str) (e:Nat) (K:SV->SS->Prop):Prop:=(ak m).length<=sizeLine/\
 (decide ((e:Int)<(ak m).length)=ai->(-((ak m).length:Int)<=e/\(e:Int)<(ak m).length/\(ak m).length<=sizeLine)/\
   ((!jG z (eS (ak m) e))=ai->K (.bool ai) ⟨b5 g e++ia m s V n p,.a (lM F) (.list ah DZ),[]⟩/\True)/\
   ((!jG z (eS (ak m) e))=aj->K (.bool aj) ⟨b5 g e++ia m s V n p,.a (lM F) (.list ah DZ),[]⟩/\True))/\
 (decide ((e:Int)<(ak m).length)=aj->K (.bool aj) (cQ m s V F n p (b5 g e))/\True)
theorem wT0(g:Str)(e:Nat)(K:SV->SS->Prop):dz (gC W) sf (cQ m 0 V F n p (b5 g e)) K=wTP m V F n p 0 (af "\"&\x00") g e K:=by kernel_rfl
theorem wT1(g:Str)(e:Nat)(K:SV->SS->Prop):dz (gC W) sf (cQ m 1 V F n p (b5 g e)) K=wTP m V F n p 1 (af "'&\x00") g e K:=by kernel_rfl
theorem wT2(g:Str)(e:Nat)(K:SV->SS->Prop):dz (gC W) sf (cQ m 2 V F n p (b5 g e)) K=wTP m V F n p 2 (af "&>\"'=<`\x00 \t\n\x0c") g e K:=by kernel_rfl
theorem wB(s:Nat)(g:Str)(e:Nat)(K:Fl->SS->Prop):runN (gC W) (jU wI 0) (cQ m s V F n p (b5 g e)) K=(K .next (cQ m s V F n p ((af "end",.si ((e:Int)+1))::b5 g e))/\True):=by kernel_rfl
theorem wE(s:Nat)(g:Str)(e:Nat)(K:Fl->SS->Prop):runN (gC W) [aN (c5 iZ) 1] (cQ m s V F n p (b5 g e)) K=((ak m).length<=sizeLine/\K .next (cQ m s V F n p ((af "sign",.ss (dc (ak m) (aa (p:Int)) (aa (e:Int))))::b5 g e))/\True):=by kernel_rfl
noncomputable abbrev sj (k:Nat) (m:List Nat) (s:Nat) (V:Str) (n p:Nat) (g:Str) (e:Int):List (Str×SV):=b5 g e++[(af "value",.ss V),(af "faults",.obj k),(af "pieces",.si n),(af "at",.si p),(af "mended",.ss (ak m)),(af "state",.int s)]
theorem ez(s k:Nat)(g:Str)(e:Int)(o:OL)(K:Fl->SS->Prop):runN (gC W) [aN cW 3,aN cW 4,aN cW 5] ⟨sj k m s V n p g e,o,[]⟩ K=(V.length+g.length<=sizeLine/\K .next ⟨(af "at",.si e)::(af "pieces",.si ((n:Int)+1))::(af "value",.ss (V++g))::sj k m s V n p g e,.b o.list,[]⟩/\True):=by kernel_rfl
theorem e0(s:Nat)(K:Fl->SS->Prop):runN (gC W) [cB 0,cB 1,cB 2,cB 3] ⟨[(af "mended",.ss (ak m)),(af "state",.int s)],.b [],[]⟩ K=(K .next ⟨[(af "at",.int 0),(af "pieces",.int 0),(af "faults",.obj 0),(af "value",.str ⟨#[]⟩),(af "mended",.ss (ak m)),(af "state",.int s)],.b [.list ah []],[]⟩/\True):=by kernel_rfl
theorem e5(s:Nat)(K:Fl->SS->Prop):runN (gC W) [cB 5] (cQ m s V F n p []) K=(K (.ret (.obj 2)) ⟨ia m s V n p,.b [.gone,.list (aa (.strs F)) [],.tup [.ss V,.obj 1,.si n,.si p]],[]⟩/\True):=by kernel_rfl
end
end
section
open Nu St Tb
theorem D3(c:Nat)(l:List Nat):aL c l=decide (c∈l):=by
 rw[lX,decide_eq_true_iff]
 refine⟨qU,λh=>?_⟩
 induction l with
 |nil=>cases h
 |cons y l x=>
  rw[kW]
  rcases b7.mp h with rfl|h
  ·rw[sX];rfl
  ·rw[x h,Bool.or_true]
theorem KV{s:Nat}(z:s<3)(c:Nat):jG (zw s) ⟨#[c]⟩=aL c (jl s):=by
 rw[Iz,D3]
 exact congrArg (λl=>decide (c∈l)) (Om.l3 (P:=λs=>(zw s).cps.toList=jl s) z (by kernel_rfl) (by kernel_rfl) (by kernel_rfl))
theorem D4{s:Nat}(z:s<3)(c:Nat):jG (r9 s) ⟨#[c]⟩=aL c (dg s):=by
 rw[Iz,D3]
 exact congrArg (λl=>decide (c∈l)) (Om.l3 (P:=λs=>(r9 s).cps.toList=dg s) z (by kernel_rfl) (by kernel_rfl) (by kernel_rfl))
theorem item_at{m:List Nat}{p c:Nat}(h:m[p]? =aa c):eS (ak m) p=⟨#[c]⟩:=St.um (ak m) p h
theorem sq{m:List Nat}{p c:Nat}(h:m[p]? =aa c)(v:m.length<=600):-((ak m).length:Int)<=p/\(p:Int)<(ak m).length/\(ak m).length<=sizeLine:=by
 have x:p<m.length:=(dh.mp h).1
 rw[cP]
 exact⟨dD (z0 (dZ _)) (dZ _),oA.mpr x,aq v (by decide)⟩
theorem p6{m:List Nat}(v:m.length<=600):(ak m).length<=sizeLine:=by rw[cP];exact aq v (by decide)
theorem zx{m:List Nat}{p:Nat}:decide ((p:Int)<(ak m).length)=decide (p<m.length):=by rw[cP];exact decide_eq_decide.mpr oA
theorem aeW:wI=.While sf (jU wI 0) [] wI.pos:=by kernel_rfl
theorem wT{W:Wd}{m:List Nat}{V:Str}{F:List Str}{n p s:Nat}(z:s<3)(g:Str)(e:Nat)(K:SV->SS->Prop)(h:wTP m V F n p s (r9 s) g e K):dz (gC W) sf (cQ m s V F n p (b5 g e)) K:=by
 refine Om.l3 (P:=λs=>wTP m V F n p s (r9 s) g e K->dz (gC W) sf (cQ m s V F n p (b5 g e)) K) z ?_ ?_ ?_ h<;>intro h
 ·rw[wT0];exact h
 ·rw[wT1];exact h
 ·rw[wT2];exact h
theorem vF{loc:List (Str×SV)}{F:List Str}{x:SO}(q:(loc.all λp=>fL 2 p.2)=ai):Gc 2 ⟨loc,.a (lM F) x,[]⟩ ⟨loc,lM F,[]⟩ where
 ho:=rfl
 hb:=rfl
 hl:=λx y e=>⟨e,bZ.mp q _ (fz e)⟩
 hf:=rfl
theorem KW{loc:List (Str×SV)}{F:List Str}(q:(loc.all λp=>fL 2 p.2)=ai):Gc 2 ⟨loc,lM F,[]⟩ ⟨loc,lM F,[]⟩ where
 ho:=rfl
 hb:=rfl
 hl:=λx y e=>⟨e,bZ.mp q _ (fz e)⟩
 hf:=rfl
section
variable{W:Wd}(u:bw (gC W)){m:List Nat}(v:m.length<=600){s:Nat}(z:s<3){V g:Str}{F:List Str}{n p:Nat}
include u v z
theorem inner{K:Fl->SS->Prop}(hp:p<m.length)(k:∀e,p+1<=e->e<=m.length->(m.drop (p+1)).takeWhile (λx=>!aL x (dg s))=(m.drop (p+1)).take (e-(p+1))->(m.drop (p+1)).dropWhile (λx=>!aL x (dg s))=m.drop e->K .next (cQ m s V F n p (b5 g (e:Nat)))):
 bc (gC W) wI (cQ m s V F n p (b5 g ((p+1:Nat)))) K:=by
 rw[aeW]
 let J:Nat->SS->Prop:=λk y=>∃e,p+1<=e/\e<=m.length/\k=m.length-e/\((m.drop (p+1)).take (e-(p+1))).all (λx=>!aL x (dg s))=ai/\y=cQ m s V F n p (b5 g (e:Nat))
 refine qX (λC C C h=>h) J (λj y hJ=>?_) (m.length-(p+1)) ⟨p+1,aH _,hp,rfl,by rw[iP];rfl,rfl⟩
 obtain⟨e,L,h2,rfl,h3,rfl⟩:=hJ
 have B:m.drop e=(m.drop (p+1)).drop (e-(p+1)):=by rw[jv,nk L]
 have stop:(∀c r,m.drop e=c::r->(!aL c (dg s))=aj)->K .next (cQ m s V F n p (b5 g (e:Nat))):=λO=>by
  have G:=ry (p:=λx=>!aL x (dg s)) h3 (b:=m.drop e) O
  rw[B,iM] at G
  exact k e L h2 G.1 (G.2.trans B.symm)
 refine bS.gc (lF u (wT z g e _ ⟨p6 v,λq=>?_,λq=>?_⟩))
 ·rw[zx] at q
  have U:=of_decide_eq_true q
  have H:m[e]? =aa m[e]:=ig U
  have D:m.drop e=m[e]::m.drop (e+1):=kK U
  refine⟨sq H v,?_,?_⟩
  ·intro q2
   rw[item_at H,D4 z] at q2
   refine⟨⟨_,vF rfl,aC.ent (fu u (K:=λfl M=>fl=.next/\M=cQ m s V F n p ((af "end",.si ((e:Int)+1))::b5 g (e:Nat))) ?_) ?_⟩,trivial⟩
   ·rw[wB];exact⟨⟨rfl,rfl⟩,trivial⟩
   ·rintro fl M ⟨rfl,rfl⟩
    refine⟨_,ay.dup,m.length-(e+1),om U (gp e),e+1,Mg L,U,rfl,?_,rfl⟩
    have:(m.drop (p+1)).take (e+1-(p+1))=(m.drop (p+1)).take (e-(p+1))++[m[e]]:=by
     rw[show e+1-(p+1)=(e-(p+1))+1 from Nat.succ_sub L,wj,L5,nk L,H];rfl
    rw[this,E9,h3]
    show(ai&&((!aL m[e] (dg s))&&ai))=ai
    rw[q2];rfl
  ·intro q2
   rw[item_at H,D4 z] at q2
   exact⟨⟨_,vF rfl,stop λc r O=>by rw[D] at O;cases O;exact q2⟩,trivial⟩
 ·rw[zx] at q
  have A:m.length<=e:=kL (of_decide_eq_false q)
  exact⟨⟨_,KW rfl,stop λc r O=>by rw[v8 A] at O;cases O⟩,trivial⟩
end
end
section
open Nu St Tb
theorem p7{D:Wd}{L y:List (Str×SV)}(h:y.map (λp=>lk p.1 L)=y.map λp=>aa p.2):∀p∈y,∃z,lk p.1 L=aa z/\gz D z p.2:=λp q=>⟨p.2,sP.mp h p q,λx x r=>r⟩
theorem zy{W:Wd}{g:List Fact}{k:List Nat}{L y:List (Str×SV)}(h:y.map (λp=>lk p.1 L)=y.map λp=>aa p.2)(q:(y.all λp=>fE p.2)=ai):∀p∈y,∃z,lk p.1 L=aa z/\MV W g k p.2 z:=λp x=>⟨p.2,sP.mp h p x,MV.flat (bZ.mp q p x)⟩
theorem ay.pk{D:Wd}{L q:List (Str×SV)}{o:OL}(h:∀p∈q,∃z,lk p.1 L=aa z/\gz D z p.2):ay D ⟨L,o,[]⟩ ⟨q,o,[]⟩:=ay.to (λf B=>Om.nm B) λx y e=>h (x,y) (fz e)
theorem sr(a b:List Nat):ak a++ak b=ak (a++b):=gj (by show(a.toArray++b.toArray).toList=_;simp[ak])
theorem MO.su{M:Wd}{x:List Fact}{y:List Nat}{F:List Str}:MO M x y (.list (aa (.strs F)) []) (.list (aa (.strs F)) []):=λ{X k z a l} ok J r=>by
 obtain⟨U,g,n,e,q,f⟩:=r
 cases f
 exact⟨l,⟨U,[],n,e,q,.nil⟩,fY _⟩
theorem MO.vG{M:Wd}{k:List Fact}{y:List Nat}{F:List Str}{x:Str}:MO M k y (.list (aa (.strs (F++[x]))) []) (.list (aa (.strs F)) [.str x]):=λ{X g z a l} ok J r=>by
 obtain⟨U,O,n,e,q,f⟩:=r
 cases f using Each.ec with
 |cons h f=>
  cases f
  obtain⟨t,rfl⟩:=h
  exact⟨l,⟨U++[.str x t],[],n,by rw[cO];exact e,pC q (.cons _ _ .nil),.nil⟩,fY _⟩
theorem aeX{W:Wd}{c:Cx}{U:List Addr}{H:Shared}{m:List Nat}{s:Nat}{V:Str}{M:List Str}{n p k:Nat}{o:List SO}{x:List (Str×SV)}{L:SO}(R:RepS (WS W) c U ⟨x,.b o,[]⟩ H)(G:o[0]? =some .gone)(C:o[k]? =aa L)(A:MO W [] [0,k] (.list (aa (.strs M)) []) L)(O:k≠0)
 (D:∀q∈ia m s V n p,∃z,lk q.1 x=aa z/\MV W [] [0,k] q.2 z):∃y,U.take 1<+:y/\RepS (WS W) c y (cQ m s V M n p []) H:=by
 have g:0<U.length:=by
  obtain⟨_,l,_⟩:=R.R
  rw[l.len];exact(dh.mp G).1
 refine⟨_,?_,RepS.Dj (W0:=W) (js:=[0,k]) (objs':=[.gone,.list (aa (.strs M)) []]) (loc':=ia m s V n p) (fa':=[]) R (.cons ⟨_,G,MO.gone⟩ (.one ⟨_,C,A⟩)) D (ef.mpr ⟨λh=>O (d8.mp h).symm,ef.mpr ⟨λh=>Om.nm h,wu⟩⟩) (λf B=>Om.nm B)⟩
 cases U with
 |nil=>cases g
 |cons a t=>exact⟨[(a::t).getD k 0],rfl⟩
theorem aeY:cW=[aN cW 0,aN cW 1]++(if1::[aN cW 3,aN cW 4,aN cW 5]):=by kernel_rfl
theorem aeZ:if1=.If (bX if1) (cJ if1) [if2] (gb if1):=by kernel_rfl
theorem ae0:if2=.If (bX if2) (cJ if2) [iZ] (gb if2):=by kernel_rfl
theorem ae1:iZ=.If (bX iZ) (cJ iZ) (wI::[aN (c5 iZ) 1]) (gb iZ):=by kernel_rfl
theorem eI3{W:Wd}{m:List Nat}{V:Str}{F:List Str}{n p s:Nat}(u:s<3)(g:Str)(e:Int)(K:SV->SS->Prop)(h:vA m V F n p s (r9 s) g e K):dz (gC W) (bX iZ) (cQ m s V F n p (b5 g e)) K:=by
 refine Om.l3 (P:=λs=>vA m V F n p s (r9 s) g e K->dz (gC W) (bX iZ) (cQ m s V F n p (b5 g e)) K) u ?_ ?_ ?_ h<;>intro h
 ·rw[aeL];exact h
 ·rw[aeM];exact h
 ·rw[aeN];exact h
theorem ea{W:Wd}{m:List Nat}{V:Str}{F:List Str}{n p s:Nat}(u:s<3)(g:Str)(e:Int)(K:Fl->SS->Prop)(h:vD m V F n p s (se m e).cps.toList g e K):runN (gC W) (cJ if1) (cQ m s V F n p (b5 g e)) K:=by
 refine Om.l3 (P:=λs=>vD m V F n p s (se m e).cps.toList g e K->runN (gC W) (cJ if1) (cQ m s V F n p (b5 g e)) K) u ?_ ?_ ?_ h<;>intro h
 ·rw[ea0];exact h
 ·rw[ea1];exact h
 ·rw[ea2];exact h
theorem m9(c d:Nat)(s:Str)(h:s.cps.toList=[d]):seq ⟨#[c]⟩ s=decide (c=d):=by
 rw[lX,b9,decide_eq_true_iff]
 constructor
 ·intro e
  have:=congrArg (λs:Str=>s.cps.toList) e
  dsimp only at this
  rw[h] at this
  cases this;rfl
 ·rintro rfl
  exact gj h.symm
theorem zz(c:Nat):seq ⟨#[c]⟩ (af "&")=decide (c=38):=m9 c 38 _ (by kernel_rfl)
theorem D5(c:Nat):seq ⟨#[c]⟩ (af "\x00")=decide (c=0):=m9 c 0 _ (by kernel_rfl)
noncomputable abbrev Nx (W:Wd) (N:Nat) (J:Nat->SS->Prop) (z:SS):Prop:=B7 (WS W) 1 N J z
section
variable{W:Wd}(v:bw (gC W)){m:List Nat}(j:Good 600 m)(Y:13∉m){s:Nat}(u:s<3){N:Nat}{J:Nat->SS->Prop}{K:Fl->SS->Prop}{V:List Nat}{F:List Str}{n p:Nat}
include v
theorem zD{g:List Nat}{e k:Nat}{o:OL}{L:SO}{U:List Str}(h:o.list[0]? =some .gone)(B:o.list[k]? =aa L)(A:MO W [] [0,k] (.list (aa (.strs U)) []) L)(x:k≠0)(M:V.length+g.length<=100000){G:Nat}(H:G<N)(C:J G (cQ m s (ak (V++g)) U (n+1) e [])):
 aO (gC W) [aN cW 3,aN cW 4,aN cW 5] ⟨sj k m s (ak V) n p (ak g) e,o,[]⟩ (jd K (Nx W N J)):=by
 refine fu v ?_
 rw[ez]
 refine⟨by rw[cP,cP];exact aq M (by decide),?_,trivial⟩
 intro c ρ s' R
 rw[sr] at R
 have D:∀q∈ia m s (ak (V++g)) (n+1) e,∃z,lk q.1 ((af "at",SV.si e)::(af "pieces",.si ((n:Int)+1))::(af "value",.ss (ak (V++g)))::sj k m s (ak V) n p (ak g) e)=aa z/\MV W [] [0,k] q.2 z:=bM ⟨_,by kernel_rfl,MV.flat rfl⟩ (bM ⟨.obj k,by kernel_rfl,MV.obj rfl⟩ (zy (by kernel_rfl) (by kernel_rfl)))
 obtain⟨y,O,R'⟩:=aeX (W:=W) (n:=n+1) (p:=e) (V:=ak (V++g)) (s:=s) (m:=m) R h B A x D
 exact⟨G,y,_,H,O,R',C⟩
include j Y u
theorem ae3{c:Nat}{T:List Nat}(hp:m.drop p=c::T)(hV:V.length<=50000)(hF:F.length<=50000)(C:∀e,e<=m.length->m.drop e=(c9 s c T).r->m.length-e<N->J (m.length-e) (cQ m s (ak (V++(c9 s c T).g)) (F++(c9 s c T).f) (n+1) e []))(hN:m.length-p=N):
 aO (gC W) cW (cQ m s (ak V) F n p []) (jd K (Nx W N J)):=by
 have U:p<m.length:=wm λh=>by rw[v8 h] at hp;cases hp
 have hc:m[p]? =aa c:=by rw[<-wo,hp];rfl
 have H:m.drop (p+1)=T:=by rw[<-jv,hp];rfl
 have L:T.length=m.length-(p+1):=by rw[<-H,iu]
 have O:Good 599 T:=⟨by rw[L];have:=j.z;exact Om.w5 this,λd hd=>j.c d (sV _ _ (H▸hd))⟩
 have A:=zo (s:=s) u (j.c c (lV hc)) O
 have y:V.length+(c9 s c T).g.length<=100000:=by
  have:=A.g.z
  have:=O.z
  exact Om.w6 hV A.g.z O.z
 have D:∀{r:List Nat},r<:+T->m.drop (m.length-r.length)=r/\m.length-r.length<=m.length/\m.length-(m.length-r.length)<N:=λ{r} B=>by
  have hl:=B.length_le
  have e1:r<:+m:=B.trans (H▸Aa _ _)
  refine⟨(ahA.mp e1).symm,jy _ _,?_⟩
  exact Om.w7 hN U L hl
 rw[aeY]
 refine pJ (fu v ?_)
 rw[eB,item_at hc]
 refine⟨sq hc j.z,?_,trivial⟩
 show aO (gC W) (if1::[aN cW 3,aN cW 4,aN cW 5]) (cQ m s (ak V) F n p (b5 ⟨#[c]⟩ ((p+1:Nat)))) _
 refine cZ ?_
 rw[aeZ]
 refine iS (lF v ?_)
 rw[eI1,zz]
 have M:∀{X:List (Str×SV)} {k:Nat} {o:OL} {g:List Nat} {e:Nat},(∀q∈sj k m s (ak V) n p (ak g) e,∃z,lk q.1 X=aa z/\gz (WS W) z q.2)->aO (gC W) [aN cW 3,aN cW 4,aN cW 5] ⟨sj k m s (ak V) n p (ak g) e,o,[]⟩ (jd K (Nx W N J))->aO (gC W) [aN cW 3,aN cW 4,aN cW 5] ⟨X,o,[]⟩ (jd K (Nx W N J)):=λh q=>aC.pre (ay.pk h) q
 refine⟨⟨λq=>?_,λq=>?_⟩,trivial⟩
 ·
  obtain rfl:c=38:=of_decide_eq_true q
  refine fu v (ea u _ _ _ ?_)
  have er:(se m ((p+1:Nat):Int)).cps.toList=T:=by show(dc (ak m) (aa ((p+1:Nat):Int)) ah).cps.toList=_;rw[xY,H];rfl
  rw[er]
  obtain⟨s1,s2,s3⟩:=zj (zm u) O
  obtain⟨d1,d2,d3⟩:=D s2
  have mT:bG T=T:=Kq λh=>Y (sV _ _ (H▸h))
  refine⟨p6 j.z,⟨O,mT⟩,by exact Om.w8 hF s3,?_,trivial⟩
  have ee:(((p+1:Nat):Int)+(T.length-(eH (bI s) T).length))=((m.length-(eH (bI s) T).length:Nat):Int):=by have:=s2.length_le;exact Om.w9 U L this
  rw[ee]
  refine M (k:=4) (g:=fN (bI s) T) (e:=m.length-(eH (bI s) T).length) ?_ (zD v (k:=4) rfl rfl MO.su (by decide) y d3 (C _ d2 d1 d3))
  exact p7 (by kernel_rfl)
 ·have G:c≠38:=of_decide_eq_false q
  refine cZ ?_
  rw[ae0]
  refine iS (lF v ?_)
  rw[eI2,D5]
  have d0:=D (sU T)
  have D0:m.length-T.length=p+1:=by exact Om.Sd U L
  rw[D0] at d0
  refine⟨⟨λq=>?_,λq=>?_⟩,trivial⟩
  ·obtain rfl:c=0:=of_decide_eq_true q
   have st:c9 s 0 T=⟨[65533],[vp],T⟩:=by unfold c9;rw[if_neg (by decide),if_pos rfl]
   rw[st] at C y
   refine fu v ?_
   rw[eb2]
   refine⟨by exact Om.F6 hF,f6 ?_,trivial⟩
   refine M (k:=3) (g:=[65533]) (e:=p+1) ?_ ?_
   rotate_left
   ·exact zD v (k:=3) (by rfl) (by rfl) MO.vG (by decide) y d0.2.2 (C _ U d0.1 d0.2.2)
   have y1:af "�"=ak [65533]:=by kernel_rfl
   exact bM ⟨_,by kernel_rfl,λqq qq r=>r⟩ (bM ⟨.str (af "�"),by kernel_rfl,λqq qq r=>by rw[y1] at r;exact r⟩ (p7 (by kernel_rfl)))
  ·have n0:c≠0:=of_decide_eq_false q
   refine cZ ?_
   rw[ae1]
   refine iS (bS.gc (lF v (eI3 u _ _ _ ⟨⟨_,vF rfl,?_⟩,trivial⟩)))
   rw[D4 u]
   refine⟨λq=>?_,λq=>?_⟩
   ·have st:c9 s c T=⟨[c],[vo],T⟩:=by unfold c9;rw[if_neg G,if_neg n0,if_pos q]
    rw[st] at C y
    refine fu v ?_
    rw[eb3]
    refine⟨by exact Om.F6 hF,f6 (f6 ?_),trivial⟩
    refine M (k:=3) (g:=[c]) (e:=p+1) ?_ ?_
    rotate_left
    ·exact zD v (k:=3) (by rfl) (by rfl) MO.vG (by decide) y d0.2.2 (C _ U d0.1 d0.2.2)
    exact p7 (by kernel_rfl)
   ·have st:c9 s c T=⟨c::T.takeWhile (λx=>!aL x (dg s)),[],T.dropWhile λx=>!aL x (dg s)⟩:=by
     unfold c9;rw[if_neg G,if_neg n0,if_neg (by rw[q];decide)]
    rw[st] at C y
    refine cZ (inner v j.z u U λe h1 h2 h3 h4=>?_)
    rw[H] at h3 h4
    refine fu v ?_
    rw[wE]
    refine⟨p6 j.z,f6 (f6 ?_),trivial⟩
    have sl:dc (ak m) (aa (p:Int)) (aa (e:Int))=ak (c::T.takeWhile λx=>!aL x (dg s)):=by
     refine gj ((St.BU (ak m) p e).trans ?_)
     show(m.drop p).take (e-p)=c::_
     rw[hp,h3,show e-p=(e-(p+1))+1 by exact(qm (wi h1)).symm];rfl
    rw[sl]
    have B:m.length-e<N:=by exact fP (Nat.sub_le_sub_left h1 _) d0.2.2
    refine M (k:=1) (g:=c::T.takeWhile λx=>!aL x (dg s)) (e:=e) ?_ ?_
    rotate_left
    ·exact zD v (k:=1) (by rfl) (by rfl) MO.su (by decide) y B (by have:=C e h2 h4.symm B;rw[cO] at this;exact this)
    exact p7 (by kernel_rfl)
end
end
section
open Nu St Tb
theorem cC.D6{D:Wd}:cC D (.list (aa (.strs [])) []) (.list ah []):=λX x a l r=>by
 obtain⟨y,z,n,e,q,f⟩:=r
 obtain rfl:y=[]:=q
 exact⟨[],z,n,e,.nil,f⟩
theorem ae4{W:Wd}{m:List Nat}{V:Str}{F:List Str}{n p s:Nat}(j:s<3)(K:SV->SS->Prop)(h:vz m V F n p s (zw s) K):dz (gC W) cT (cQ m s V F n p []) K:=by
 refine Om.l3 (P:=λs=>vz m V F n p s (zw s) K->dz (gC W) cT (cQ m s V F n p []) K) j ?_ ?_ ?_ h<;>intro h
 ·rw[eT0];exact h
 ·rw[D0];exact h
 ·rw[eT2];exact h
theorem ae5:uA.body=[cB 0,cB 1,cB 2,cB 3]++(cB 4::[cB 5]):=by kernel_rfl
theorem ae6:cB 4=.While cT cW [] (cB 4).pos:=by kernel_rfl
section
variable{W:Wd}(H:bw (gC W)){m:List Nat}(L:Good 600 m)(M:13∉m){s:Nat}(j:s<3){Y:List Nat}{U:List Str}{O:Nat}{R:List Nat}
inductive CJ (m:List Nat) (s:Nat) (Y:List Nat) (U:List Str) (O:Nat) (R:List Nat) (k:Nat) (σ:SS):Prop
 |mk (V:List Nat) (F:List Str) (n p:Nat) (V2:List Nat) (F2:List Str) (n2:Nat) (ek:k=m.length-p) (hp:p<=m.length) (c:Cut s (m.drop p) V2 F2 n2 R) (eV:V++V2=Y) (eF:F++F2=U) (en:n+n2=O) (es:σ=cQ m s (ak V) F n p [])
theorem ae7{m:List Nat}{s:Nat}{Y:List Nat}{U:List Str}{O:Nat}{R V:List Nat}{F:List Str}{n p:Nat}{B:List Nat}{C:List Str}{z:Nat}{K:Fl->SS->Prop}(y:p<=m.length)(q:Cut s (m.drop p) B C z R)(eV:V++B=Y)(u:F++C=U)(D:n+z=O)(k:K .next (cQ m s (ak Y) U O (m.length-R.length) []))(h:∀c T,m.drop p=c::T->aL c (jl s)=ai):K .next (cQ m s (ak V) F n p []):=by
 cases q.view with
 |stop _ v f e r=>
  subst v f e r
  rw[iu,Mj y,<-eV,<-u,<-D,cO,cO] at k
  exact k
 |more c T _ _ _ x l=>rw[h c T l] at x;cases x
theorem ae8{A B:List (Str×SV)}{f:Str}{u v:SV}(x:Str)(y:SV)(e:lk x (A++(f,u)::B)=aa y):lk x (A++(f,v)::B)=aa y\/(lk x (A++(f,v)::B)=aa v/\y=u):=by
 induction A with
 |nil=>
  by_cases h:x=f
  ·exact .inr ⟨(bW x f v B).trans (if_pos h),(ju (((bW x f u B).trans (if_pos h)).symm.trans e)).symm⟩
  ·exact .inl (((bW x f v B).trans (if_neg h)).trans (((bW x f u B).trans (if_neg h)).symm.trans e))
 |cons a A p=>
  obtain⟨k,w⟩:=a
  by_cases h:x=k
  ·exact .inl ((((bW x k w _).trans (if_pos h))).trans ((((bW x k w _).trans (if_pos h))).symm.trans e))
  ·have t:∀z,lk x ((k,w)::(A++(f,z)::B))=lk x (A++(f,z)::B):=λz=>(bW x k w _).trans (if_neg h)
   rcases p ((t u).symm.trans e) with q|q
   ·exact .inl ((t v).trans q)
   ·exact .inr ⟨(t v).trans q.1,q.2⟩
include H L M j
theorem ae9(hV:Y.length<=50000)(hF:U.length<=50000)(hC:Cut s m Y U O R){K:Fl->SS->Prop}(k:K .next (cQ m s (ak Y) U O (m.length-R.length) [])):
 bc (gC W) (cB 4) ⟨[(af "at",.int 0),(af "pieces",.int 0),(af "faults",.obj 0),(af "value",.str ⟨#[]⟩),(af "mended",.ss (ak m)),(af "state",.int s)],.b [.list ah []],[]⟩ K:=by
 rw[ae6]
 refine Iq (λz z z h=>h) (CJ m s Y U O R) (λN σ hJ=>?_) m.length (λc ρ st Rp=>?_)
 ·obtain⟨V,F,n,p,V2,F2,n2,ek,hp,hq,eV,eF,en,es⟩:=hJ
  subst ek es
  have y1:V.length<=50000:=aq (aq (bL _ V2.length) (aK (bK.symm.trans (congrArg _ eV)))) hV
  have u1:F.length<=50000:=aq (aq (bL _ F2.length) (aK (bK.symm.trans (congrArg _ eF)))) hF
  have stop:=ae7 hp hq eV eF en k
  refine bS.gc (lF H (ae4 j _ ⟨p6 L.z,λq=>?_,λq=>?_⟩))
  ·rw[zx] at q
   have G:=of_decide_eq_true q
   have he:m[p]? =aa m[p]:=ig G
   have g:m.drop p=m[p]::m.drop (p+1):=kK G
   refine⟨sq he L.z,λq2=>?_,λq2=>?_⟩
   ·rw[item_at he,KV j] at q2
    refine⟨⟨_,vF (loc:=ia m s (ak V) n p) rfl,?_⟩,trivial⟩
    refine aC.pre (λz z z R=>R) (ae3 H L M j g y1 u1 (λe h1 h2 h3=>?_) rfl)
    cases hq.view with
    |stop h=>rw[h _ _ g] at q2;cases q2
    |more c T V3 F3 C _ l v f e4 q3=>
     obtain⟨e5,e6⟩:=wC (g.symm.trans l)
     subst e5 e6 v f e4
     exact⟨_,_,_,_,V3,F3,C,rfl,h1,h2▸q3,(bY _ _ _).trans eV,(bY _ _ _).trans eF,((nB n 1 C).trans (congrArg (n+·) (iw 1 C))).trans en,rfl⟩
   ·rw[item_at he,KV j] at q2
    refine⟨⟨_,vF (loc:=ia m s (ak V) n p) rfl,stop λc T e=>?_⟩,trivial⟩
    obtain⟨rfl,_⟩:=wC (g.symm.trans e)
    cases e2:aL m[p] (jl s) with
    |true=>rfl
    |false=>rw[e2] at q2;cases q2
  ·rw[zx] at q
   have e1:m.length<=p:=kL (of_decide_eq_false q)
   refine⟨⟨_,KW (loc:=ia m s (ak V) n p) rfl,stop λc T e=>?_⟩,trivial⟩
   rw[v8 e1] at e;cases e
 ·have R1:RepS (WS W) c ρ ⟨[(af "at",.int 0),(af "pieces",.int 0),(af "faults",.obj 0),(af "value",.str ⟨#[]⟩),(af "mended",.ss (ak m)),(af "state",.int s)],.b [.list (aa (.strs [])) []],[]⟩ st:=ay.objs (.one cC.D6) _ _ _ Rp
  obtain⟨D,p',R2⟩:=R1.mv rfl λx y e=>ae8 (A:=[(af "at",.int 0),(af "pieces",.int 0)]) (f:=af "faults") (u:=.obj 1) (B:=[(af "value",.str ⟨#[]⟩),(af "mended",.ss (ak m)),(af "state",.int s)]) x y e
  refine⟨D,cQ m s (ak []) [] 0 0 [],p',ay.pk ?_ _ _ _ R2,[],[],0,0,Y,U,O,rfl,bP _,hC,rfl,rfl,i9 _,rfl⟩
  have e0:(⟨#[]⟩:Str)=ak []:=by kernel_rfl
  exact bM ⟨.str ⟨#[]⟩,by kernel_rfl,λz z r=>by rw[e0] at r;exact r⟩ (bM ⟨_,by kernel_rfl,λz z r=>r⟩ (bM ⟨.int 0,by kernel_rfl,λz z r=>r⟩ (bM ⟨.int 0,by kernel_rfl,λz z r=>r⟩ (p7 (by kernel_rfl)))))
end
theorem afa{W:Wd}(ha:gJ W.η)(A:Kf W){G:Gx}(v:G.D=WS W)(hT:G.T=Tb.T)(h:13<=G.n){s:Nat}(j:s<3){m:List Nat}(L:Good 600 m)(M:13∉m){V:List Nat}{F:List Str}{n:Nat}{R:List Nat}(u:Cut s m V F n R){y:SS}{K:SV->SS->Prop}
 (k:K (.obj (y.objs.list.length+1)) ⟨y.loc,.b (y.objs.list++[.list (aa (.strs F)) [],.tup [.ss (ak V),.obj (y.objs.list.length+0),.si n,.si (m.length-R.length:Nat)]]),y.fa⟩):av G (.ref 819) [.ss (ak m),.int s] y K:=by
 refine DF (W:=W) v rfl λC x=>?_
 refine av.facts λok=>⟨[],(λf B=>Om.nm B),?_⟩
 obtain⟨D,T,mm,cs,KX,con,sc,ec,cv,fr⟩:=G
 obtain rfl:D=WS W:=v
 obtain rfl:T=Tb.T:=hT
 refine av.sw (n:=13) (cons:=[(812,11,vy)]) h (j8 (i:=uA) (n:=12) (by kernel_rfl) rfl (by kernel_rfl) (by kernel_rfl) ?_)
 have g:bw (gC W):=pB (bM (aeG W ha A) jH)
 have ok:=u.ok j L
 have q:=ok.v.z
 have p:=ok.f
 have z:=L.z
 rw[ae5]
 refine pJ (fu (G:=gC W) g ?_)
 show runN (gC W) [cB 0,cB 1,cB 2,cB 3] ⟨[(af "mended",.ss (ak m)),(af "state",.int s)],.b [],[]⟩ _
 rw[e0]
 refine⟨?_,trivial⟩
 refine cZ (ae9 g L M j (by exact Om.Sk q z) (by exact Om.Sl p z) u ?_)
 refine fu (G:=gC W) g ?_
 rw[e5]
 refine⟨?_,trivial⟩
 refine⟨rfl,[1,2],[.list (aa (.strs F)) [],.tup [.ss (ak V),.obj 0,.si n,.si (m.length-R.length:Nat)]],.obj 1,?_,by decide,MV.obj rfl,k⟩
 exact .cons ⟨_,rfl,MO.su⟩ (.one ⟨_,rfl,MO.tup (.cons (MV.flat rfl) (.cons (MV.obj rfl) (.cons (MV.flat rfl) (.one (MV.flat rfl)))))⟩)
end
section
open Nu St Tb
theorem D7(c:Nat)(l:List Nat):has ⟨#[c]⟩ (l.map λd=>⟨#[d]⟩)=aL c l:=by
 induction l with
 |nil=>rfl
 |cons d l y=>
  rw[kW]
  show@az (λz=>Bool) (has ⟨#[c]⟩ (l.map _)) ai (seq ⟨#[c]⟩ ⟨#[d]⟩)=_
  rw[y,m9 c d ⟨#[d]⟩ rfl]
  cases e:aQ c d with
  |true=>rw[decide_eq_true (bJ e)];rfl
  |false=>rw[decide_eq_false λh=>by rw[h,sX] at e;cases e];rfl
theorem KY:KN=[9,10,12,32,13].map λd=>⟨#[d]⟩:=by kernel_rfl
theorem afb:KO=[34,39,61,60,96].map λd=>⟨#[d]⟩:=by kernel_rfl
theorem jm{c:Nat}{l:List Nat}:aL c l=ai↔c∈l:=by rw[D3];exact decide_eq_true_iff
theorem KZ{p q:Nat->Bool}{l:List Nat}(h:∀c∈l,p c=q c):l.takeWhile p=l.takeWhile q/\l.dropWhile p=l.dropWhile q:=by
 induction l with
 |nil=>exact⟨rfl,rfl⟩
 |cons c l z=>
  obtain⟨x,y⟩:=z λd u=>h d (.tail _ u)
  rw[List.takeWhile_cons,List.takeWhile_cons,LX,LX,h c (.head _),x,y]
  exact⟨rfl,rfl⟩
theorem zE(S:List Nat):pS S aj=λc=>!aL c S:=by rw[C3]
theorem K0(c:Nat)(l:List Nat):(⟨#[c]⟩:Str)++ak l=ak (c::l):=sr [c] l
section
variable{W:Wd}{L:List (Str×SV)}{m:SO}{s:Int}
inductive D8 (W:Wd) (s:Int) (L:List (Str×SV)) (m:SO) (K:Fl->SS->Prop) (fl:Fl) (σ':SS):Prop
 |mk (x:SV) (st:bQ) (j:List Str) (w:Str) (X:List SO) (T:List Nat) (e:fl=.next) (e2:σ'=⟨bN s L,.b (tL x st j w (m::X)),[]⟩) (h:st.r.ev W.η=T) (k:∀v,K .next ⟨bN s L,.b (tL (.val v) ⟨ah,lit T,ah⟩ j w [m]),[]⟩)
theorem p8{K:Fl->SS->Prop}{x:SV}{st:bQ}{A:List Str}{z:Str}{X:List SO}{y:List Nat}(h:st.r.ev W.η=y)(k:∀v,K .next ⟨bN s L,.b (tL (.val v) ⟨ah,lit y,ah⟩ A z [m]),[]⟩):D8 W s L m K .next ⟨bN s L,.b (tL x st A z (m::X)),[]⟩:=⟨_,_,_,_,_,_,rfl,rfl,h,k⟩
theorem afc{b:List Stmt}{v0:Value}{O:bQ}{M:List Str}{w0:Str}{K:Fl->SS->Prop}(g:(L.all λp=>fL 9 p.2)=ai)(Y:f7 9 m=ai)(h:aO (gT W) b ⟨bN s L,.b (tL (.val v0) O M w0 [m]),[]⟩ (D8 W s L m K)):aO (gT W) b ⟨bN s L,.b (tL (.val v0) O M w0 [m]),[]⟩ K:=aC.re h λx y1 c ρ G s' v hl p R q z=>by
 obtain⟨x,st,j,w,X,T,rfl,rfl,hT,k⟩:=z
 obtain⟨u,R1⟩:=R.val (i:=0) (C:=762) (A:=ck) (B:=cK) (n:=af "state") (x:=x) rfl
 have hb:(tL (.val u) st j w [m]).all (f7 9)=true:=by
  show((eL u st j w)++[m]).all (f7 9)=ai
  rw[E9,show(eL u st j w).all (f7 9)=ai by kernel_rfl]
  show(ai&&(f7 9 m&&ai))=ai
  rw[Y];rfl
 have R2:RepS (WS W) c (G.take 9) ⟨bN s L,.b (tL (.val u) st j w [m]),[]⟩ s':=R1.trunc ⟨rfl,hb,λx y e=>⟨e,(by
  have H:=fz e
  rcases b7.mp H with D|H
  ·cases D;rfl
  rcases b7.mp H with D|H
  ·cases D;rfl
  exact bZ.mp g _ H)⟩,rfl⟩
 have hp:=uw (N:=9) hl p
 rw[hp] at R2
 have R3:RepS (WS W) c ρ ⟨bN s L,.b (tL (.val u) ⟨ah,lit T,ah⟩ j w [m]),[]⟩ s':=ay.objs (.cons (.refl _) (.cons (cC.strm (W:=W) (st:=st) (r:=lit T) hT.symm) (cC.all _))) _ _ _ R2
 exact⟨ρ,_,.next,pr _,R3,q,k u⟩
end
section
variable{W:Wd}(U:bw (gT W)){L:List (Str×SV)}{m:SO}(g:(L.all λp=>fL 9 p.2)=ai)(Y:f7 9 m=ai){s:Nat}(V:s<3){v:Value}{j:List Str}{w:Str}
include U g Y V
theorem afd{c:Nat}{T:List Nat}(hc:aL c (jl s)=aj)(i1:13∉c::T)(hT:Good 599 T)(hm:j.length<=5000)(B:w.length<=100000){K:Fl->SS->Prop}(k:∀v',K .next ⟨bN s L,.b (tL (.val v') ⟨ah,lit (c9 s c T).r,ah⟩ (j++(c9 s c T).f) (w++ak (c9 s c T).g) [m]),[]⟩):
 aO (gT W) jK ⟨bN s L,.b (tL (.val v) ⟨ah,lit (c::T),ah⟩ j w [m]),[]⟩ K:=by
 have hz:5000+j.length+0<=16777216:=by exact Om.F7 hm
 have q:200000<=sizeLine:=by rw[sizeLine_eq];decide
 have y1:c≠13:=λh=>i1 (h▸.head _)
 have u1:13∉T:=λh=>i1 (.tail _ h)
 have H:af "�"=ak [65533]:=by kernel_rfl
 refine afc g Y (fu U ?_)
 have p1:c=38->c9 s c T=⟨fN (bI s) T,fX (bI s) T,eH (bI s) T⟩:=λh=>by unfold c9;rw[if_pos h]
 have y:c=0->c9 s c T=⟨[65533],[vp],T⟩:=λh=>by subst h;unfold c9;rw[if_neg (by decide),if_pos rfl]
 have a1:c≠38->c≠0->aL c (dg s)=ai->c9 s c T=⟨[c],[vo],T⟩:=λh1 u O=>by unfold c9;rw[if_neg h1,if_neg u,if_pos O]
 have G:c≠38->c≠0->aL c (dg s)=aj->c9 s c T=⟨c::T.takeWhile (λx=>!aL x (dg s)),[],T.dropWhile λx=>!aL x (dg s)⟩:=λh1 u O=>by unfold c9;rw[if_neg h1,if_neg u,if_neg (by rw[O];decide)]
 have z:∀(a:Nat) (f:Addr) (qs o1:Str),bI s=a->dg s=[a,38,0]->jl s=[a]->qs.cps.toList=[a]->∀s':Int,s'=s->DV W.η s' f qs a o1 (c::T) j w m L (D8 W s' L m K):=λa f qs o1 ha A hen hq s' f1=>by
  subst f1
  refine⟨⟨λh=>(by cases h),λc' r' e=>?_⟩,trivial⟩
  cases e
  rw[hen] at hc
  have na:c≠a:=λh=>by rw[kW,h,sX] at hc;cases hc
  rw[m9 c a qs hq,decide_eq_false na,zz,D5]
  refine⟨λh=>Om.nb h,λqq=>⟨λh=>?_,λh=>⟨λu=>?_,λu=>?_⟩⟩⟩
  ·rw[p1 (of_decide_eq_true h),ha] at k
   exact⟨⟨hT,hm,B⟩,λv'=>⟨p8 rfl k,trivial⟩,trivial⟩
  ·rw[y (of_decide_eq_true u),<-H] at k
   exact⟨⟨hz,by rw[H,cP];show w.length+1<=_;exact Om.Av B q,p8 rfl k,trivial⟩,trivial⟩
  ·have C:=of_decide_eq_false h
   have D:=of_decide_eq_false u
   have M:aL c (dg s)=false:=by
    rw[A,z7]
    intro h
    rcases b7.mp (jm.mp h) with h|h
    ·exact na h
    rcases b7.mp h with h|h
    ·exact C h
    exact D (d8.mp h)
   rw[G C D M,A] at k
   have e1:(gA aj [a,38,0] (lit T)).ev W.η=T.takeWhile λx=>!aL x [a,38,0]:=by rw[uI,zE];rfl
   have e2:(rz aj [a,38,0] (lit T)).ev W.η=T.dropWhile λx=>!aL x [a,38,0]:=by rw[C4,zE];rfl
   have hl:(T.takeWhile λx=>!aL x [a,38,0]).length<=599:=aq (qj _).length_le hT.z
   rw[e1,K0]
   refine⟨by rw[cP];exact Om.F8 q hl,by rw[cP];show w.length+(_+1)<=_;exact Om.F9 B q hl,p8 e2 ?_,trivial⟩
   rw[cO] at k
   exact k
 rcases Om.o3 V with rfl|rfl|rfl
 ·show runN (gT W) jK ⟨bN 0 L,_,_⟩ _
  rw[KJ];exact z 34 _ _ _ rfl rfl rfl (by kernel_rfl) 0 rfl
 ·show runN (gT W) jK ⟨bN 1 L,_,_⟩ _
  rw[KL];exact z 39 _ _ _ rfl rfl rfl (by kernel_rfl) 1 rfl
 ·show runN (gT W) jK ⟨bN 2 L,_,_⟩ _
  rw[KP]
  refine⟨⟨λh=>(by cases h),λc' r' e=>?_⟩,trivial⟩
  cases e
  rw[KY,afb,D7,D7,zz,D5,m9 c 62 (af ">") (by kernel_rfl)]
  have hE:∀d∈[62,32,9,10,12],c≠d:=λd hd h=>by rw[h,jm.mpr (show d∈jl 2 from hd)] at hc;cases hc
  have d1:aL c [9,10,12,32,13]=false:=by
   rw[z7]
   intro h
   rcases(by decide:∀d∈[9,10,12,32,13],d=13\/d∈[62,32,9,10,12]) c (jm.mp h) with e|e
   ·exact y1 e
   ·exact hE c e rfl
  rw[d1,decide_eq_false (hE 62 (by decide))]
  refine⟨λh=>Om.nb h,λqq=>⟨λh=>?_,λh=>⟨λh=>Om.nb h,λqq=>⟨λu=>?_,λu=>⟨λO=>?_,λO=>?_⟩⟩⟩⟩⟩
  ·rw[p1 (of_decide_eq_true h)] at k
   exact⟨⟨hT,hm,B⟩,λv'=>⟨p8 rfl k,trivial⟩,trivial⟩
  ·have C:=of_decide_eq_false h
   have hm2:=jm.mp u
   rw[a1 C ((by decide:∀d∈[34,39,61,60,96],d≠0) c hm2) (jm.mpr ((by decide:∀d∈[34,39,61,60,96],d∈dg 2) c hm2))] at k
   exact⟨⟨hz,by show w.length+1<=_;exact Om.Av B q,p8 rfl k,trivial⟩,trivial⟩
  ·rw[y (of_decide_eq_true O),<-H] at k
   exact⟨⟨hz,by rw[H,cP];show w.length+1<=_;exact Om.Av B q,p8 rfl k,trivial⟩,trivial⟩
  ·have C:=of_decide_eq_false h
   have D:=of_decide_eq_false O
   have M:aL c (dg 2)=false:=by
    rw[z7]
    intro h
    rcases(by decide:∀d∈dg 2,d∈[62,32,9,10,12]\/(d∈[34,39,61,60,96]\/(d=38\/d=0))) c (jm.mp h) with e|e|e|e
    ·exact hE c e rfl
    ·rw[jm.mpr e] at u;cases u
    ·exact C e
    ·exact D e
   rw[G C D M] at k
   have cg:∀x∈T,(!aL x m8)=!aL x (dg 2):=λx hx=>by
    have:x≠13:=λh=>u1 (h▸hx)
    congr 1
    rw[lX,jm,jm]
    exact⟨λh=>((by decide:∀d∈m8,d=13\/d∈dg 2) x h).resolve_left this,(by decide:∀d∈dg 2,d∈m8) x⟩
   have e1:(gA aj m8 (lit T)).ev W.η=T.takeWhile λx=>!aL x (dg 2):=by rw[uI,zE];exact(KZ cg).1
   have e2:(rz aj m8 (lit T)).ev W.η=T.dropWhile λx=>!aL x (dg 2):=by rw[C4,zE];exact(KZ cg).2
   have hl:(T.takeWhile λx=>!aL x (dg 2)).length<=599:=aq (qj _).length_le hT.z
   rw[e1,K0]
   refine⟨by rw[cP];exact Om.F8 q hl,by rw[cP];show w.length+(_+1)<=_;exact Om.F9 B q hl,p8 e2 ?_,trivial⟩
   rw[cO] at k
   exact k
end
end
section
open Nu St Tb
noncomputable def zF (s:Nat):Str:=[af "eof-in-attribute-value-double-quote",af "eof-in-attribute-value-single-quote",af "eof-in-attribute-value-no-quotes"].getD s ⟨#[]⟩
noncomputable def vJ (s:Nat):Addr:=[584,584,535].getD s 0
noncomputable abbrev D9 (x:SV) (st:bQ) (z:List Str) (w:Str) (d:SV) (X:List SO):List SO:=[.inst 762 (ck++(af "state",x)::cK),.blob (.strm st),.dict [(af "type",.int 3),(af "name",.tm (.n 11 [] (lit [80]) .e)),(af "data",d),(af "selfClosing",.bool aj)],.aJ 5000 0 z [.obj 2],.list ah [],d7,cM,iI w]++X
noncomputable abbrev vK (w:Str):SO:=.bz [(lit [97],.str (af "&")),(lit [98],.ss w)]
section
variable{W:Wd}(q:bw (gT W)){L:List (Str×SV)}{y:SO}{s:Nat}(u:s<3){v:Value}{z:List Str}{w:Str}
include q u
theorem K1{T:List Nat}(g:∀c x,T=c::x->aL c (jl s)=ai)(m:z.length<=5000){K:Fl->SS->Prop}
 (H:T=[]->∀k X,X[k]? =aa (SO.aI 304 (.obj 0))->K .next ⟨bN s L,.b (tL (.obj (9+k)) ⟨ah,lit [],ah⟩ (z++[zF s]) w (y::X)),[]⟩)
 (M:∀x,T=62::x->s=2->K .next ⟨bN 2 L,.b (D9 (.obj 11) ⟨ah,lit x,aa (lit [62])⟩ z w (.obj 10) [y,.aI 577 (.obj 0),vK w,.aI 304 (.obj 0)]),[]⟩)
 (U:∀c x k X,T=c::x->(s=2->c≠62)->X[k]? =aa (SO.aI (vJ s) (.obj 0))->K .next ⟨bN s L,.b (tL (.obj (9+k)) ⟨ah,lit x,aa (lit [c])⟩ z w (y::X)),[]⟩):
 aO (gT W) jK ⟨bN s L,.b (tL (.val v) ⟨ah,lit T,ah⟩ z w [y]),[]⟩ K:=by
 have j:5000+z.length+0<=16777216:=by exact Om.F7 m
 refine fu q ?_
 rcases Om.o3 u with rfl|rfl|rfl
 ·show runN (gT W) jK ⟨bN 0 L,_,_⟩ _
  rw[KJ]
  refine⟨⟨λh=>⟨⟨j,H h 2 [.aI 563 (.obj 0),.gone,.aI 304 (.obj 0)] rfl,trivial⟩,trivial⟩,λc x e=>?_⟩,trivial⟩
  rw[m9 c 34 (af "\"") (by kernel_rfl)]
  have O:c=34:=d8.mp (jm.mp (g c x e))
  rw[decide_eq_true O]
  exact⟨λY=>⟨U c x 1 [.aI 563 (.obj 0),.aI 584 (.obj 0)] e (λh=>by cases h) rfl,trivial⟩,λh=>Om.nb h.symm⟩
 ·show runN (gT W) jK ⟨bN 1 L,_,_⟩ _
  rw[KL]
  refine⟨⟨λh=>⟨⟨j,H h 2 [.aI 570 (.obj 0),.gone,.aI 304 (.obj 0)] rfl,trivial⟩,trivial⟩,λc x e=>?_⟩,trivial⟩
  rw[m9 c 39 (af "'") (by kernel_rfl)]
  have G:c=39:=d8.mp (jm.mp (g c x e))
  rw[decide_eq_true G]
  exact⟨λY=>⟨U c x 1 [.aI 570 (.obj 0),.aI 584 (.obj 0)] e (λh=>by cases h) rfl,trivial⟩,λh=>Om.nb h.symm⟩
 ·show runN (gT W) jK ⟨bN 2 L,_,_⟩ _
  rw[KP]
  refine⟨⟨λh=>⟨⟨j,H h 3 [.aI 577 (.obj 0),vv,.gone,.aI 304 (.obj 0)] rfl,trivial⟩,trivial⟩,λc x e=>?_⟩,trivial⟩
  have m:c∈[62,32,9,10,12]:=jm.mp (g c x e)
  rw[KY,D7,zz,m9 c 62 (af ">") (by kernel_rfl)]
  refine⟨λh=>⟨U c x 1 [.aI 577 (.obj 0),.aI 535 (.obj 0)] e (λY p=>?_) rfl,trivial⟩,λh=>⟨λp=>?_,λY=>⟨λp=>?_,λp=>?_⟩⟩⟩
  ·rw[p] at h;cases h
  ·rw[of_decide_eq_true p] at m;exact absurd m (by decide)
  ·have D:=of_decide_eq_true p
   subst D
   exact⟨⟨j,M x e rfl,trivial⟩,trivial⟩
  ·exfalso
   have V:=of_decide_eq_false p
   have:c∉[9,10,12,32,13]:=λC=>by rw[jm.mpr C] at h;cases h
   exact((by decide:∀d∈[62,32,9,10,12],d=62\/d∈[9,10,12,32,13]) c m).elim V this
end
end
section
open Nu St Tb
theorem afe(a b c:Str):(a++b)++c=a++(b++c):=gj (by show((a.cps++b.cps)++c.cps).toList=(a.cps++(b.cps++c.cps)).toList;rw[Array.append_assoc])
noncomputable abbrev lN (n a:Nat) (V y:Str) (m:List Nat):List (Str×SV):=[(af "pieces",.si n),(af "faults",.obj 8),(af "value",.ss V),(af "at",.si a),(af "before",.ss y),(af "mended",.ss (ak m))]
theorem afg:lS 7=.For (.Name (af "_") (C8 (lS 7))) (gY (lS 7)) jK [] (C9 (lS 7)):=by kernel_rfl
noncomputable abbrev r7:List Expr:=[gf (fi (gY (lS 7)))]
theorem afh:gY (lS 7)=.Call (.Name (af "range") (uU (gY (lS 7)))) r7 [] (cH (gY (lS 7))):=by kernel_rfl
section
variable(W:Wd)(s:Int)(n a:Nat)(V y:Str)(m:List Nat)(o:OL)
theorem v7(K:List SV->SS->Prop):yH (gT W) r7 ⟨bN s (lN n a V y m),o,[]⟩ K=(K [.si ((n:Int)+1)] ⟨bN s (lN n a V y m),o,[]⟩/\True):=by kernel_rfl
end
section
variable{W:Wd}(u:bw (gT W)){s:Nat}(x:s<3){m T0 R V:List Nat}{F:List Str}{n a:Nat}{y:Str}{K:Fl->SS->Prop}
inductive LJ (s:Nat) (m T0 R V:List Nat) (F:List Str) (n a:Nat) (y:Str) (K:Fl->SS->Prop) (S:Src) (k i:Nat) (σ:SS):Prop
 |a (q:Nat) (T V1:List Nat) (F1:List Str) (V2:List Nat) (F2:List Str) (v:Value) (e:S=rG 0 (n+1)) (ek:k=n+1-i) (h:i+q=n) (c:Cut s T V2 F2 q R) (t:T<:+T0) (eV:V1++V2=V) (eF:F1++F2=F) (es:σ=⟨bN s (lN n a (ak V) y m),.b (tL (.val v) ⟨ah,lit T,ah⟩ F1 (y++ak V1) [.list (aa (.strs F)) []]),[]⟩)
 |b (e:S=rG 0 (n+1)) (ek:k=n+1-i) (h:i=n+1) (z:K .next σ)
include u x
theorem afi{v:Value}(hC:Cut s T0 V F n R)(A:Good 600 T0)(i1:13∉T0)(hV:y.length+V.length<=100000)(hF:F.length<=5000)(hn:n<=100000)
 (kA:R=[]->∀k X,X[k]? =aa (SO.aI 304 (.obj 0))->K .next ⟨bN s (lN n a (ak V) y m),.b (tL (.obj (9+k)) ⟨ah,lit [],ah⟩ (F++[zF s]) (y++ak V) (.list (aa (.strs F)) []::X)),[]⟩)
 (kB:∀p,R=62::p->s=2->K .next ⟨bN 2 (lN n a (ak V) y m),.b (D9 (.obj 11) ⟨ah,lit p,aa (lit [62])⟩ F (y++ak V) (.obj 10) [.list (aa (.strs F)) [],.aI 577 (.obj 0),vK (y++ak V),.aI 304 (.obj 0)]),[]⟩)
 (kC:∀c p k X,R=c::p->(s=2->c≠62)->X[k]? =aa (SO.aI (vJ s) (.obj 0))->K .next ⟨bN s (lN n a (ak V) y m),.b (tL (.obj (9+k)) ⟨ah,lit p,aa (lit [c])⟩ F (y++ak V) (.list (aa (.strs F)) []::X)),[]⟩):
 bc (gT W) (lS 7) ⟨bN s (lN n a (ak V) y m),.b (tL (.val v) ⟨ah,lit T0,ah⟩ [] y [.list (aa (.strs F)) []]),[]⟩ K:=by
 rw[afg]
 refine xJ (λz z z h=>h) (λz z=>rfl) (LJ s m T0 R V F n a y K) (λS k i o1 hJ=>?_) (n+1) (afh▸JE (by kernel_rfl) (by kernel_rfl) (λt ht=>by
  have:(iD r7).isSome=true:=by kernel_rfl
  exact((iD _).get this).1 t ht) (Di u ?_))
 ·cases hJ with
  |a q T Y O V2 F2 v' e ek j y1 g eV U es=>
   subst e ek es
   refine⟨_,rfl,?_⟩
   rw[Df (by exact Om.Se j)]
   have B:Y.length+V2.length=V.length:=bK.symm.trans (congrArg _ eV)
   have e1:O.length+F2.length=F.length:=bK.symm.trans (congrArg _ U)
   refine qP (by kernel_rfl) (aC.pre (ay.cut (by kernel_rfl)) ?_)
   have hw:(y++ak Y).length=y.length+Y.length:=by rw[<-cP];exact Array.size_append
   cases y1 with
   |nil=>
    obtain rfl:V=Y:=eV.symm.trans (cO Y)
    obtain rfl:F=O:=U.symm.trans (cO O)
    refine K1 u x (λc p e=>by cases e) (by omega) (λh k X G=>?_) (λp e=>by cases e) (λc p k X e=>by cases e)
    exact⟨0,by exact Om.Aw j,.b rfl (by exact Om.Ax j) (by exact congrArg (· +1) j) (kA h k X G)⟩
   |fin c T h=>
    obtain rfl:V=Y:=eV.symm.trans (cO Y)
    obtain rfl:F=O:=U.symm.trans (cO O)
    refine K1 u x (λc' p e=>by cases e;exact h) (by omega) (λh k X G=>by cases h) (λp e D=>?_) (λc' p k X e u1 G=>?_)
    ·exact⟨0,by exact Om.Aw j,.b rfl (by exact Om.Ax j) (by exact congrArg (· +1) j) (kB p e D)⟩
    ·exact⟨0,by exact Om.Aw j,.b rfl (by exact Om.Ax j) (by exact congrArg (· +1) j) (kC c' p k X e u1 G)⟩
   |@more c T h V3 F3 n3 _ q3=>
    have H:=g.length_le
    have M:Good 599 T:=⟨by have:=A.z;simp only[kM] at H;exact lT (aq H this),λd hd=>A.c d (g.subset (.tail _ hd))⟩
    have C:=zo (s:=s) x (A.c c (g.subset (.head _))) M
    refine afd u (by kernel_rfl) rfl x h (λhh=>i1 (g.subset hh)) M (by exact Om.Sf hF e1) (by exact Om.Sg hV hw B) λL=>?_
    refine⟨n+1-(i+1),by exact Om.Sh j,.a n3 _ (Y++(c9 s c T).g) (O++(c9 s c T).f) V3 F3 L rfl rfl (by exact(ou _ 1 _).trans j) q3 (C.r.trans ((Mm _ _).trans g)) ((bY _ _ _).trans eV) ((bY _ _ _).trans U) ?_⟩
    rw[afe,sr]
  |b e ek h hk=>
   subst e ek h
   refine⟨_,rfl,?_⟩
   rw[Dg (aH _)]
   exact⟨_,rfl,hk⟩
 ·rw[v7]
  refine⟨⟨0,(n:Int)+1,.one _ rfl rfl λr=>r,by decide,by decide,by exact Om.Si,by exact Om.Sj hn,?_⟩,trivial⟩
  rw[show((n:Int)+1-0).toNat=n+1 by exact rfl]
  refine .a n T0 [] [] V F v rfl rfl (i9 _) hC (sU _) rfl rfl ?_
  rw[show y++ak []=y from gj (by show(y.cps++#[]).toList=_;simp)]
end
end
section
open Nu St Tb
structure Fin (G:Gx) (b:List Stmt) (σ:SS):Prop where
 go:∀c ρ s,At G c ρ σ s->wpAny G.D.M c.A (execs b c.env) (λf s'=>f=.ret (.bool ai)/\∃ρ' σ',RepS G.D c ρ' σ' s') (λqq qq=>False) s
noncomputable def ic (G:Gx) (b:List Stmt) (z:Fl) (σ:SS):Prop:=match z with
 |.next=>Fin G b σ
 |.ret x=>x=.bool ai
 |_=>False
section
variable{G:Gx}{σ:SS}
theorem Fin.app(Y:∀e m os,¬G.KX e m os){pre rest:List Stmt}(h:aO G pre σ (ic G rest)):Fin G (pre++rest) σ:=.mk λc m s a=>by
 rw[JR]
 refine wpAny_bind (wpAny_mono (h c m s () a trivial) (λf j ⟨y,u,V,p,R,q,k⟩=>?_) λe j ⟨_,_,_,_,_,z⟩=>(Y _ _ _ z).elim)
 cases V with
 |next=>
  obtain rfl:=q
  exact Fin.go k c y j (a.to p R)
 |ret x=>
  obtain⟨v,rfl,q⟩:=q
  have g:x=.bool true:=k
  subst g
  obtain rfl:=q
  exact wpAny_pure ⟨rfl,y,u,R⟩
 |brk=>exact k.elim
 |cont=>exact k.elim
theorem Fin.step(x:∀e y os,¬G.KX e y os){st:Stmt}{q:List Stmt}(h:bc G st σ (ic G q)):Fin G (st::q) σ:=Fin.app (pre:=[st]) x (cZ (h.mp λv z k=>by
 cases v
 ·exact f6 k
 ·exact k
 ·exact k
 ·exact k))
theorem Fin.less{b:List Stmt}{z:SS}(l:ay G.D σ z)(h:Fin G b z):Fin G b σ:=.mk λc y s a=>h.go c y s (a.to (pr _) (l _ _ _ a.toRepS))
theorem Fin.Kn{b:List Stmt}{σ':SS}(x:∀c y s,RepS G.D c y σ s->∃z,y<+:z/\RepS G.D c z σ' s)(h:Fin G b σ'):Fin G b σ:=.mk λc y s a=>by
 obtain⟨z,p,R⟩:=x c y s a.toRepS
 exact h.go c z s (a.to p R)
theorem Fin.of(v:∀e x os,¬G.KX e x os){b:List Stmt}(h:aO G b σ λy z=>y=.ret (.bool ai)):Fin G b σ:=by
 have:=Fin.app (rest:=[]) v (h.mp (K':=ic G []) λy σ' k=>by subst k;rfl)
 rwa[cO] at this
end
theorem Fin.con{D:Wd}{T:Tab}{n:Nat}{cs:b3}{z:Value->List Addr->SS->Prop}{con con':List (Addr×Nat×bg)}{b:List Stmt}{σ:SS}(k:Fin ⟨D,T,n,cs,z,con',[],[],[],aj⟩ b σ):Fin ⟨D,T,n,cs,z,con,[],[],[],aj⟩ b σ:=.mk λc y s a=>k.go c y s ⟨a.toRepS,a.cs,a.ok,a.tk,a.rx,λx v=>Om.nm v,λh=>Om.nb h⟩
theorem Fin.pick{W0:Wd}{T:Tab}{n:Nat}{cs:b3}{v:Value->List Addr->SS->Prop}{con con':List (Addr×Nat×bg)}{H:List (Str×Nat)}{fr:Bool}{b:List Stmt}{σ:SS}{js:List Nat}{objs':List SO}{loc':List (Str×SV)}{Y:List Fact}
 (h:Each (MJ W0 σ.fa js σ) objs' js) (m:∀p∈loc',ML W0 σ.fa js σ p) (u:js.Nodup) (y:aT W0.η Y) (k:Fin ⟨WS W0,T,n,cs,v,con',[],[],[],aj⟩ b ⟨loc',.b objs',Y⟩):Fin ⟨WS W0,T,n,cs,v,con,[],[],H,fr⟩ b σ:=.mk λc j s a=>by
 obtain⟨z,R⟩:=RepS.pick (W0:=W0) a.toRepS h m u y
 exact k.go c z s ⟨R,a.cs,a.ok,a.tk,a.rx,λx q=>Om.nm q,λh=>Om.nb h⟩
theorem Fin.fl{W:Wd}{k:Ev}(ok:f5 k){n:Nat}{cs:b3}{cons cons':List (Addr×Nat×bg)}{cv:List (Str×Nat)}{fr:Bool}{b:List Stmt}{σ:SS}{fa:List Fact}(q:σ.objs.list.all fV=ai)(v:aT k σ.fa)(h:Fin (gW (W.at k ok) n cs cons' cv fr) b σ):Fin (gW W n cs cons cv fr) b (fW k σ fa):=.mk λc ρ s a=>
 wpAny_mono (h.go c ρ s (a.fl ok q v)) (λf p ⟨e,x,y,R⟩=>⟨e,x,fW k y fa,R.DE (fa:=fa) a.fa⟩) λu u z=>z
end
section
open Nu St Tb
noncomputable def Ea:List (Addr×Nat×bg):=[(133,4,uH),(156,5,uL),(163,1,Ct),(42,1,uQ)]
noncomputable abbrev gZ (W:Wd):Gx:=gW W 20 fU.scope Ea [] aj
noncomputable abbrev zI:SO:=.inst 762 (ck++(af "state",.obj 8)::cK)
noncomputable abbrev K3:SO:=.list ah [.str (af "b"),.tm (tv 1)]
noncomputable abbrev zG:SO:=.inst 762 (ck++(af "state",.obj 9)::cK)
noncomputable abbrev zT (m:SO) (r:Tm):List SO:=[zG,.blob (.strm ⟨ah,r,ah⟩),fm,.gone,.list ah [],d7,cM,K3,.gone,m,.gone,.gone,.gone]
noncomputable abbrev zU (r:Tm):List SO:=[zI,.blob (.strm ⟨ah,r,ah⟩),fm,.list ah [],.list ah [],d7,cM,K3,.aI 304 (.obj 0)]
noncomputable abbrev zL (s:Nat):List (Str×SV):=[(af "t",.obj 0),(af "u",.obj 13),(af "state",.int s)]
noncomputable abbrev g7:List SO:=[.gone,.gone,.gone,.gone,.gone,.gone,.gone]
noncomputable abbrev zS (s:Nat) (t u g:List SO) (z:List Fact):SS:=⟨zL s,.b (t++(u.map (fH 13)++g)),z⟩
noncomputable def zH (v:Fl):Tr:=match v with
 |.ret x=>match x with
  |.bool b=>@az (λz=>Tr) .ff .tt b
  |_=>.ff
 |_=>.ff
set_option tactic.hygienic true in
theorem afj{z:Fl}(h:(zH z).h):z=.ret (.bool ai):=by
 unfold zH at h
 split at h
 ·split at h
  ·rename_i b
   cases b with
   |true=>rfl
   |false=>exact h.elim
  ·exact h.elim
 ·exact h.elim
noncomputable def vL:Stmt:=aN (cJ (lS 11)) 1
noncomputable def vM:Stmt:=aN (cJ (aN (c5 (lS 11)) 0)) 1
noncomputable def vO:Stmt:=aN (c5 (aN (c5 (lS 11)) 0)) 1
noncomputable def fO:List Stmt:=fU.body.drop 12
noncomputable def zEnd (W:Wd) (x:SS):Tr:=(di (ex 60 (gZ W)) fO x λv z=>zH v).t
noncomputable def zJ (W:Wd) (d:Stmt) (v:SS):Tr:=(di (ex 60 (gZ W)) [d] v λu x=>match u with
 |.next=>@az (λz=>Tr) .ff (zEnd W x) (x.objs.list.all fV)
 |_=>.ff).t
noncomputable def zA (W:Wd) (s:Nat):Tr:=zJ W vL (zS s (zT (.aI 304 (.obj 0)) (lit [])) (zU (lit [])) (g7++[.gone,.gone,.gone]) [])
noncomputable abbrev zN:Tm:=.n 11 [] (lit [80]) .e
noncomputable abbrev zB0 (r:Tm):List SO:=[zG,.blob (.strm ⟨ah,r,ah⟩),.dict [(af "type",.int 3),(af "name",.tm zN),(af "data",.obj 5),(af "selfClosing",.bool aj)],.gone,.list ah [],.bz [(lit [97],.str (af "&")),(lit [98],.tm (tv 1))],.gone,.gone,.gone,.aI 304 (.obj 0),.gone,.gone,.gone]
noncomputable abbrev zFa:List Fact:=[⟨1,[80],zN,.e,aj⟩]
noncomputable def zB (W:Wd):Tr:=zJ W vM (zS 2 (zB0 (tv 8)) (zU (tv 8)) (g7++[.gone,.gone,.gone,.gone]) zFa)
noncomputable def zC (W:Wd) (s:Nat) (f:Addr):Tr:=zJ W vO (zS s (zT (.aI f (.obj 0)) (tv 8)) (zU (tv 8)) g7 [])
theorem afm(W:Wd):((zA W 0).c&&((zA W 1).c&&(zA W 2).c))=true:=by kernel_rfl
theorem afn(W:Wd):(zB W).c=true:=by kernel_rfl
theorem afo(W:Wd):((zC W 0 584).c&&((zC W 1 584).c&&(zC W 2 535).c))=true:=by kernel_rfl
theorem sy{W:Wd}{n:Nat}{cs:b3}{cons:List (Addr×Nat×bg)}{fr:Bool}(g:∀x∈cons,dm (WS W) x):bw (gW W n cs cons [] fr):=⟨λx u U V m Y v p K z=>g x u U V m Y v p K z,pe W,λx u=>Om.nm u,λx u=>Om.nm u,λq q q h=>h⟩
theorem K4{W:Wd}(p:gJ W.η):bw (gZ W):=sy (bM (I3 W) (bM (Jf W) (bM (IV W) (bM (Jt W p.low) jH))))
theorem afp{W:Wd}(p:gJ W.η){x:SS}(h:(zEnd W x).h):Fin (gZ W) fO x:=Fin.of (λv v v h=>h) (((di (ex 60 (gZ W)) fO x λu v=>zH u).ok h (K4 p)).mp λu q z=>afj z)
noncomputable def vZ (l w:List Nat) (i:Nat):List Nat:=if i=1 then w else if i=8 then l else[]
theorem K5{l w:List Nat}(z:Good 1000 l)(y:Good 1000 w)(i:Nat):Good 1000 (vZ l w i):=by
 unfold vZ
 split
 ·exact y
 split
 ·exact z
 ·exact⟨bP _,λc g=>Om.nm g⟩
noncomputable abbrev yT (m:SO) (r w:List Nat):List SO:=[zG,.blob (.strm ⟨ah,lit r,ah⟩),fm,.gone,.list ah [],d7,cM,iI (ak w),.gone,m,.gone,.gone,.gone]
noncomputable abbrev yU (r w:List Nat):List SO:=[zI,.blob (.strm ⟨ah,lit r,ah⟩),fm,.list ah [],.list ah [],d7,cM,iI (ak w),.aI 304 (.obj 0)]
noncomputable abbrev yB (r w:List Nat):List SO:=[zG,.blob (.strm ⟨ah,lit r,ah⟩),.dict [(af "type",.int 3),(af "name",.ss (ak [112])),(af "data",.obj 5),(af "selfClosing",.bool aj)],.gone,.list ah [],.bz [(lit [97],.str (af "&")),(lit [98],.ss (ak w))],.gone,.gone,.gone,.aI 304 (.obj 0),.gone,.gone,.gone]
section
variable{W:Wd}{cons:List (Addr×Nat×bg)}{r w:List Nat}(k:Good 600 r)(y:Good 1000 w){s:Nat}(j:s<3)
include k y
theorem p9{d:Stmt}{V u:SS}(h:∀W,(zJ W d V).c=ai)(M:V.objs.list.all fV=ai)(B:aT (bH (vZ r w) λY=>[]) V.fa)(e:fW (bH (vZ r w) λY=>[]) V []=u):aO (gW W 20 fU.scope cons [] aj) [d] u (ic (gW W 20 fU.scope cons [] aj) fO):=by
 have ok:f5 (bH (vZ r w) λY=>[]):=zc (K5 (k.le (by decide)) y) λY=>bP _
 have O:gJ (bH (vZ r w) λY=>[]):=zd (K5 (k.le (by decide)) y) k.z
 subst e
 refine aO.fl (W:=W) ok (cons':=Ea) M B ?_
 refine aC.re ((di (ex 60 (gZ (W.at _ ok))) [d] V λL u=>match L with
  |.next=>@az (λY=>Tr) .ff (zEnd (W.at _ ok) u) (u.objs.list.all fV)
  |_=>.ff).ok (Tr.tE (h (W.at _ ok))) (K4 (W:=W.at _ ok) O)) λx u c H U s v G p R q z=>⟨U,u,x,p,R,q,?_⟩
 cases x with
 |next=>
  have g:(@az (λY=>Tr) .ff (zEnd (W.at _ ok) u) (u.objs.list.all fV)).h:=z
  cases m:u.objs.list.all fV with
  |false=>rw[m] at g;exact g.elim
  |true=>
   rw[m] at g
   exact Fin.fl (W:=W) ok (cons':=Ea) m R.fa (afp (W:=W.at _ ok) O g)
 |_=>exact(show False from z).elim
theorem afq:aO (gW W 20 fU.scope cons [] aj) [vM] (zS 2 (yB r w) (yU r w) (g7++[.gone,.gone,.gone,.gone]) []) (ic (gW W 20 fU.scope cons [] aj) fO):=p9 k y afn (by kernel_rfl) (bM (P:=λf:Fact=>f.ok (bH (vZ r w) λz=>[])) (by show cF _ 1 [80] _ _=aj;kernel_rfl) jH) rfl
include j
theorem afr:aO (gW W 20 fU.scope cons [] aj) [vL] (zS s (yT (.aI 304 (.obj 0)) [] w) (yU [] w) (g7++[.gone,.gone,.gone]) []) (ic (gW W 20 fU.scope cons [] aj) fO):=by
 have h:=λW=>afm W
 simp only[cD] at h
 rcases Om.o3 j with rfl|rfl|rfl
 ·exact p9 k y (λW=>(h W).1) (by kernel_rfl) (λf B=>Om.nm B) rfl
 ·exact p9 k y (λW=>(h W).2.1) (by kernel_rfl) (λf B=>Om.nm B) rfl
 ·exact p9 k y (λW=>(h W).2.2) (by kernel_rfl) (λf B=>Om.nm B) rfl
theorem afs:aO (gW W 20 fU.scope cons [] aj) [vO] (zS s (yT (.aI (vJ s) (.obj 0)) r w) (yU r w) g7 []) (ic (gW W 20 fU.scope cons [] aj) fO):=by
 have h:=λW=>afo W
 simp only[cD] at h
 rcases Om.o3 j with rfl|rfl|rfl
 ·exact p9 k y (λW=>(h W).1) (by kernel_rfl) (λf B=>Om.nm B) rfl
 ·exact p9 k y (λW=>(h W).2.1) (by kernel_rfl) (λf B=>Om.nm B) rfl
 ·exact p9 k y (λW=>(h W).2.2) (by kernel_rfl) (λf B=>Om.nm B) rfl
end
end
section
open Nu St Tb
inductive aft (D:Wd) (c:Cx) (ρ:List Addr) (σ:SS) (s:Shared) (i:Nat) (o:SO):Prop
 |mk (y:Addr) (l:List (Addr×Obj)) (hy:ρ[i]? =aa y) (r:OR D c.R ρ y o l) (R:RepS D (c.X0 (l++c.X)) ρ ⟨σ.loc,OL.s σ.objs i .gone,σ.fa⟩ s)
theorem RepS.lent{D:Wd}{c:Cx}{x:List Addr}{y:SS}{s:Shared}{i:Nat}{o:SO}(R:RepS D c x y s)(Y:y.objs.list[i]? =aa o):aft D c x y s i o:=by
 obtain⟨⟨m,⟨M,ad,C,l2,g,U,F,N⟩,V⟩,q,O⟩:=R
 obtain⟨A,⟨z,u⟩,B,v,rfl,r,st⟩:=Each.at C Y
 have k:x[i]? =aa z:=by
  rw[<-ad,dH,dY (by simp[v])]
  simp[v]
 exact⟨z,u,k,r,⟨⟨m,⟨A++(z,[])::B,by rw[<-ad];simp,st .gone (z,[]) rfl,((rV _ _ _ _ _).map aS).nodup_iff.mp l2,g,U,F,λp j=>N p ((rV _ _ _ _ _).symm.subset j)⟩,V⟩,q,O⟩⟩
theorem RepS.afu{D:Wd}{c:Cx}{z:List Addr}{y:SS}{s:Shared}{k j:Nat}{b:Addr}(R:RepS D c z y s)(O:y.objs.list[k]? =aa (.cell (aa (.obj j))))(L:z[j]? =aa b):RepS D c z ⟨y.loc,OL.s y.objs k (.cell (aa (.val (.ref b)))),y.fa⟩ s:=by
 obtain⟨⟨m,⟨B,ad,Y,l2,g,H,F,Ne⟩,M⟩,p,G⟩:=R
 obtain⟨P,⟨q,x⟩,Q,A,rfl,r,st⟩:=Each.at Y O
 obtain⟨o,v,e,d,u,V,h,C,U⟩:=r
 refine⟨⟨m,⟨P++(q,x)::Q,ad,st _ (q,x) ⟨o,v,e,d,u,V,?_⟩,l2,g,H,F,Ne⟩,M⟩,p,G⟩
 rw[L] at C
 cases C
 exact U
structure QL (D:Wd) (ρ:List Addr) (h:Heap) (b:Addr) (ms:List Str) (xs:List SV) (vs:List Value) (us:List Value):Prop where
 l:h.IsList b (us++vs).toArray
 u:us.length=ms.length
 f:aM D ρ xs vs
theorem Eb{G:Gx}{c:Cx}{x:List Addr}{m:SS}{s:Shared}(a:At G c x m s){q n:Nat}{k:List Str}{v:List SV}(V:m.objs.list[q]? =aa (.aJ n 0 k v)){b:Addr}(O:x[q]? =aa b):∃U u,QL G.D x s.heap b k v u U:=by
 obtain⟨y,l,j,r,A⟩:=a.lent V
 rw[O] at j
 cases j
 obtain⟨obs,u,z,e,g,Y,f⟩:=r
 subst e
 refine⟨obs.map λp=>cy p.1,u,⟨_,(A.heap (p:=(b,_)) (.head _)),rfl,z,rfl⟩,?_,f⟩
 rw[i8]
 exact(Each.len g).symm
inductive afv (G:Gx) (c:Cx) (ρ:List Addr) (σ:SS) (s:Shared) (q:Nat) (ms:List Str) (xs:List SV) (i:Nat) (m:Str) (v:Value):Prop
 |mk (y:Addr) (A B:List (Addr×Obj)) (p:Addr×Obj) (vs:List Value) (z:Nat) (hv:v=.ref p.1) (hy:ρ[q]? =aa y) (f:Each (Flt G.D.prog G.D.w) ms (A++p::B)) (hA:A.length=i) (fx:aM G.D ρ xs vs)
  (a:At G (c.X0 ((y,listOf ((A++p::B).map (λp=>cy p.1)++vs:List Value).toArray z)::(A++B)++c.X)) (ρ++[p.1]) ⟨σ.loc,OL.a (OL.s σ.objs q .gone) (.cz m),σ.fa⟩ s)
theorem afw{G:Gx}{c:Cx}{O:List Addr}{V:SS}{s:Shared}(a:At G c O V s){q n:Nat}{g:List Str}{L:List SV}(ho:V.objs.list[q]? =aa (.aJ n 0 g L)){b:Addr}(hb:O[q]? =aa b){i:Nat}{m:Str}{v:Value}{M U:List Value}(hm:g[i]? =aa m)(hl:s.heap.IsList b (U++M).toArray)(D:(U++M)[i]? =aa v):afv G c O V s q g L i m v:=by
 obtain⟨y,l,H,r,A⟩:=a.lent ho
 have u:=H
 rw[hb] at u
 cases u
 obtain⟨obs,k,z,e,j,hn,f⟩:=r
 have j:Each (Flt G.D.prog G.D.w) g obs:=j
 subst e
 obtain⟨P,p,Q,Y,rfl,r,st⟩:=Each.at j hm
 have ev:v=.ref p.1:=by
  obtain⟨o1,C,h2,n1,h3⟩:=hl
  have h4:=A.heap (p:=(b,_)) (.head _)
  rw[h4] at C
  cases C
  have e:=ju (congrArg (λd:Data=>match d with|.seq a _=>aa a|_=>ah) h3)
  have e:(P++p::Q).map (λp=>cy p.1)++k=U++M:=congrArg Array.toList e
  rw[<-e,zY (by simp;exact qn (gp _) (aq (d9 (aK Y.symm)) (fy (qu _) _))),sQ,dY (by exact aK Y),Y,iP] at D
  exact(ju D).symm
 subst ev
 have B:(((b,listOf ((P++p::Q).map (λp=>cy p.1)++k:List Value).toArray z)::(P++p::Q))++c.X).Perm (p::((b,listOf ((P++p::Q).map (λp=>cy p.1)++k:List Value).toArray z)::(P++Q)++c.X)):=by
  refine Mx (List.Perm.cons _ ?_) (List.Perm.swap _ _ _)
  show((P++p::Q)++c.X).Perm (p::((P++Q)++c.X))
  rw[bY,bY]
  exact jO
 have R1:=RepS.into (c:=c.X0 ((b,listOf ((P++p::Q).map (λp=>cy p.1)++k:List Value).toArray z)::(P++Q)++c.X)) (x:=.cz m) (a:=p.1) (o:=p.2) (A.toRepS.perm B) ⟨p,rfl,rfl,r⟩
 refine⟨b,P,Q,p,k,z,rfl,H,j,Y,f,R1,A.cs,⟨A.ok.XB,A.ok.TB,A.ok.hA,A.ok.hk,A.ok.hh,A.ok.hd,A.ok.hu⟩,A.tk,λp hp=>?_,λx hx=>(A.cv x hx).imp λqq h=>⟨h.1,iz (dB _ _) h.2⟩,A.hf⟩
 exact bV _ (a.rx p hp)
noncomputable def eN (k:Nat) (o:SO):Bool:=match o with
 |.cell x=>match x with
  |some y=>match y with
   |.val _=>ai
   |_=>aj
  |ah=>aj
 |o=>f7 k o
theorem OR.afx{W:Wd}{X:List (Addr×Obj)}{z:List Addr}{k:Nat}{a:Addr}{o:SO}{l:List (Addr×Obj)}(h:eN k o=ai)(r:OR W X z a o l):OR W X (z.take k) a o l:=by
 cases o with
 |cell x=>
  cases x with
  |none=>cases h
  |some y=>
   cases y with
   |val v=>obtain⟨o,w,e,d,u,p,q⟩:=r;exact⟨o,w,e,d,u,p,q⟩
   |_=>cases h
 |_=>exact OR.xE h r
theorem RepS.afy{D:Wd}{c:Cx}{U:List Addr}{j k:SS}{s:Shared}{N:Nat}(R:RepS D c U j s)(L:k.objs.list=j.objs.list.take N)(G:(j.objs.list.take N).all (eN N)=ai)(H:∀x y,lk x k.loc=aa y->lk x j.loc=aa y/\fL N y=ai)(B:k.fa=j.fa):RepS D c (U.take N) k s:=by
 obtain⟨⟨m,⟨Y,ad,C,l2,g,gr,F,Ne⟩,V⟩,O,fa⟩:=R
 have A:(flat (Y.take N)++c.X).Sublist (flat Y++c.X):=(xD Y N).append (fY _)
 refine⟨⟨m,⟨Y.take N,by rw[Af,ad],?_,(A.map aS).nodup l2,g,gr,F,λp M=>Ne p (A.subset M)⟩,λx y e=>?_⟩,O,B▸fa⟩
 ·rw[L]
  exact Each.dS G (λz z p q=>OR.afx p q) (Each.tV C N)
 ·obtain⟨e1,e2⟩:=H x y e
  obtain⟨v,h,u⟩:=V x y e1
  exact⟨v,h,VR.dS e2 u⟩
theorem afz{D:Wd}{c:Cx}{O v:List Addr}{g:SS}{s:Shared}{q n k:Nat}{M:List Str}{xs:List SV}{m:Str}{y:Addr}{A B:List (Addr×Obj)}{p:Addr×Obj}{L:List Value}{z:Nat}(hy:O[q]? =aa y)(f:Each (Flt D.prog D.w) M (A++p::B))(hm:M[A.length]? =aa m)(fx:aM D O xs L)
 (R:RepS D (c.X0 ((y,listOf ((A++p::B).map (λp=>cy p.1)++L:List Value).toArray z)::(A++B)++c.X)) v g s) (hp:O++[p.1]<+:v) {V X:List SO} (ho:g.objs.list=V++.cz m::X) (hN:V.length=O.length) (hq:V[q]? =some .gone) (hk:V[k]? =aa (.cell (aa (.obj V.length))))
 (hb:(aX V k (.cell (aa (.val (.ref p.1))))).all (eN V.length)=ai) (hl:(g.loc.all λp=>fL V.length p.2)=ai) (i1:q≠k):
 RepS D c O ⟨g.loc,.b (aX (aX V k (.cell (aa (.val (.ref p.1))))) q (.aJ n 0 M xs)),g.fa⟩ s:=by
 have e1:v[V.length]? =aa p.1:=iz hp (by rw[hN,dY (aH _),iP];rfl)
 have u1:k<V.length:=(dh.mp hk).1
 have f1:q<V.length:=(dh.mp hq).1
 have R1:=R.afu (k:=k) (by rw[ho,zY u1];exact hk) e1
 have G:∀(l X:List SO) (i:Nat) (o:SO),i<l.length->aX (l++X) i o=aX l i o++X:=λl=>by
  induction l with
  |nil=>exactλu u u h=>absurd h (Ab _)
  |cons a l U=>
   intro X i o h
   cases i with
   |zero=>rfl
   |succ i=>exact congrArg (a::·) (U X i o (LH h))
 have H:∀(l:List SO) (i:Nat) (o:SO),(aX l i o).length=l.length:=λl=>by
  induction l with
  |nil=>exactλu u=>rfl
  |cons a l U=>exactλi o=>by cases i with|zero=>rfl|succ i=>exact congrArg (· +1) (U i o)
 have o1:(OL.s g.objs k (.cell (aa (.val (.ref p.1))))).list=aX V k (.cell (aa (.val (.ref p.1))))++.cz m::X:=by
  show aX g.objs.list k _=_
  rw[ho,G _ _ _ _ u1]
 have hz:=H V k (.cell (aa (.val (.ref p.1))))
 obtain⟨y',l',y1,r',R2⟩:=R1.lent (i:=V.length) (o:=.cz m) (by
  show(OL.s g.objs k _).list[_]? =_
  rw[o1,dY (aK hz),hz,iP];rfl)
 rw[e1] at y1
 cases y1
 obtain⟨Y,rfl,d1,rf⟩:=r'
 have o2:(OL.s (OL.s g.objs k (.cell (aa (.val (.ref p.1))))) V.length .gone).list.take V.length=aX V k (.cell (aa (.val (.ref p.1)))):=by
  show(aX (OL.s g.objs k (.cell (aa (.val (.ref p.1))))).list V.length .gone).take V.length=_
  rw[o1]
  have:∀(l X:List SO) (o:SO),aX (l++X) l.length o=l++aX X 0 o:=λl=>by
   induction l with
   |nil=>exactλu u=>rfl
   |cons a l U=>exactλX o=>congrArg (a::·) (U X o)
  rw[<-hz,this,oz]
 have a1:O<+:v:=(dB _ _).trans hp
 have C:v.take V.length=O:=uw hN.symm a1
 have R3:RepS D ((c.X0 ((y,listOf ((A++p::B).map (λp=>cy p.1)++L:List Value).toArray z)::(A++B)++c.X)).X0 ([Y]++((y,listOf ((A++p::B).map (λp=>cy p.1)++L:List Value).toArray z)::(A++B)++c.X))) (v.take V.length) ⟨g.loc,.b (aX V k (.cell (aa (.val (.ref p.1))))),g.fa⟩ s:=R2.afy o2.symm (by rw[o2];exact hb) (λx w e=>⟨e,bZ.mp hl _ (fz e)⟩) rfl
 rw[C] at R3
 have pm:([Y]++((y,listOf ((A++p::B).map (λp=>cy p.1)++L:List Value).toArray z)::(A++B)++c.X)).Perm ((y,listOf ((A++Y::B).map (λp=>cy p.1)++L:List Value).toArray z)::(A++Y::B)++c.X):=by
  have e:(A++p::B).map (λp=>cy p.1)=(A++Y::B).map λp=>cy p.1:=by
   rw[dH,dH,gq,gq,d1]
  rw[e]
  refine Mx (List.Perm.swap _ _ _) (List.Perm.cons _ ?_)
  show(Y::((A++B)++c.X)).Perm ((A++Y::B)++c.X)
  rw[bY,bY]
  exact jO.symm
 have f':Each (Flt D.prog D.w) M (A++Y::B):=by
  obtain⟨P,p1,Q,hP,e,r,st⟩:=Each.at f hm
  have e':=List.append_inj e (by exact hP.symm)
  obtain⟨rfl,e2⟩:=e'
  cases e2
  have:=st m Y rf
  rwa[show aX M A.length m=M from by
   have:∀(l:List Str) (i:Nat),l[i]? =aa m->aX l i m=l:=λl=>by
    induction l with
    |nil=>exactλi u=>rfl
    |cons a l U=>
     intro i h
     cases i with
     |zero=>cases h;rfl
     |succ i=>exact congrArg (a::·) (U i h)
   exact this M A.length hm] at this
 have RR:=RepS.rW (c:=c) (X:=c.X) (R3.perm pm) (pr _) hy (OR.mono (pr _) (show OR D c.R O y (.aJ n 0 M xs) _ from⟨A++Y::B,L,z,rfl,f',bP _,fx⟩)) (by
  show(aX V k _)[q]? =_
  have:∀(l:List SO) (i j:Nat) (o:SO),i≠j->(aX l j o)[i]? =l[i]? :=λl=>by
   induction l with
   |nil=>exactλu u u u=>rfl
   |cons a l U=>
    intro i j o h
    cases j with
    |zero=>cases i with
     |zero=>exact absurd rfl h
     |succ i=>rfl
    |succ j=>cases i with
     |zero=>rfl
     |succ i=>exact U i j o λe=>h (congrArg _ e)
  rw[this _ _ _ _ i1];exact hq)
 exact RR.as (λu u e=>e) rfl rfl
end
section
open Nu St Tb
structure Ec (q k n:Nat) (ms:List Str) (xs:List SV) (m:Str) (N:Nat) (J:SS->Prop) (σ2:SS) (os2 X:List SO):Prop where
 e:σ2.objs.list=os2++.cz m::X
 z:os2.length=N
 fq:os2[q]? =some .gone
 fk:os2[k]? =aa (.cell (aa (.obj N)))
 ne:q≠k
 b:∀v,(aX os2 k (.cell (aa (.val v)))).all (eN N)=ai
 l:(σ2.loc.all λp=>fL N p.2)=ai
 j:∀v,J ⟨σ2.loc,.b (aX (aX os2 k (.cell (aa (.val v)))) q (.aJ n 0 ms xs)),σ2.fa⟩
inductive QGo (G:Gx) (c:Cx) (ρ:List Addr) (q:Nat) (J:SS->Prop) (it:Value) (s₂:Shared):Prop
 |mk (I:Addr) (o:Obj) (b:Addr) (ρ':List Addr) (σ':SS) (e:it=.ref I) (p:ρ<+:ρ') (a:At G (c.plus [(I,o)]) ρ' σ' s₂) (l:Bx o b 0) (h:ρ'[q]? =aa b) (j:J σ')
inductive afB (G:Gx) (c:Cx) (ρ:List Addr) (q N:Nat) (J:Nat->SS->Prop) (I:Addr) (b:Addr) (t:Nat) (s':Shared):Prop
 |mk (ρ':List Addr) (σ':SS) (o:Obj) (i:Nat) (p:ρ<+:ρ') (a:At G (c.plus [(I,o)]) ρ' σ' s') (l:Bx o b i) (h:ρ'[q]? =aa b) (e:t=N-i) (n:i<=N) (j:J i σ')
theorem K6{G:Gx}{σ:SS}{K:Fl->SS->Prop}{l1:Expr}{E1:Pos}{iter:Expr}{u1:List Stmt}(hK:∀e ρ os,¬G.KX e ρ os)(hs:∀env v,foldedSetIterable iter env v=pure v){q k n:Nat}{ms:List Str}{xs:List SV}(J:Nat->SS->Prop)
 (hq:∀i u,J i u->u.objs.list[q]? =aa (.aJ n 0 ms xs))
 (g1:∀i m u,J i u->ms[i]? =aa m->fc G l1 (.obj u.objs.list.length) ⟨u.loc,OL.a (OL.s u.objs q .gone) (.cz m),u.fa⟩ λd1=>aO G u1 d1 λfl a1=>fl=.next/\∃z1 X,Ec q k n ms xs m u.objs.list.length (J (i+1)) a1 z1 X)
 (f1:∀i x u,J i u->ms.length<=i->xs[i-ms.length]? =aa x->fc G l1 x u λd1=>aO G u1 d1 λfl a1=>fl=.next/\J (i+1) a1)
 (fin:∀u,J (ms.length+xs.length) u->K .next u)
 (h:aA G iter σ λx u=>x=.obj q/\J 0 u):bc G (.For l1 iter u1 [] E1) σ K:=λc ρ s qq a qq=>by
 have no:∀{c' ρ e s},PX G c' ρ e s->False:=λ⟨_,_,_,_,_,z⟩=>hK _ _ _ z
 have start:wpAny G.D.M c.A (eval iter c.env) (λxv C=>wpAny G.D.M c.A (pyIter xv) (QGo G c ρ q (J 0)) (PX G c ρ) C) (PX G c ρ) s:=aC.go (w:=()) h a (pr _) trivial λY g x v C p _ V r ⟨ex,hJ⟩=>by
  subst ex
  obtain⟨b,L,rfl⟩:=r
  obtain⟨us,vs,j⟩:=Eb V (hq _ _ hJ) L
  exact wpAny_pyIter_list j.l ⟨_,_,b,Y,g,rfl,p,V.owned _ rfl,⟨rfl,rfl⟩,L,hJ⟩
 refine wpAny_For (wpAny_mono start (λxv C z=>wpAny_mono z (λit A1 z=>?_) λqq qq z=>z) λqq qq z=>z) (hs _)
 obtain⟨I,o,b,Y,g,rfl,b1,V,hi,L,hJ⟩:=z
 refine codeAny_forLoop_any (afB G c ρ q (ms.length+xs.length) J I b) ?_ _ ⟨Y,g,o,0,b1,V,hi,L,rfl,bP _,hJ⟩
 rintro t s' ⟨O,u,o,i,p,a',hi,L,rfl,hit,hJ⟩
 have hI:s'.heap.IsListIter I b i:=⟨o,a'.heap (p:=(I,o)) (.head _),hi.c,hi.d⟩
 obtain⟨us,vs,j⟩:=Eb a' (hq _ _ hJ) L
 have rx:=a.rx
 have p1:O.length=u.objs.list.length:=a'.len
 by_cases M:i<ms.length+xs.length
 ·obtain⟨v,hv⟩:∃v,(us++vs)[i]? =aa v:=⟨_,ig (by rw[bK,j.u,<-Each.len j.f];exact M)⟩
  refine wpAny_pyNext_list_item hI j.l (x:=v) (by rw[oh];exact hv) λh' Q1 m1=>?_
  obtain⟨o',U1,c',d'⟩:=id Q1
  have a2:At G (c.plus [(I,o')]) O u {s' with heap:=h'}:=a'.turn (own:=[]) rx U1 (λb o L e=>m1.extBut b o L e) (aH _)
  refine letGo (a2.heap (p:=(I,o')) (.head _)) c' (by decide) ?_
  by_cases W1:i<ms.length
  ·have hm:ms[i]? =aa ms[i]:=ig W1
   have I1:Heap.IsList h' b (us++vs).toArray:=by
    obtain⟨F1,D1,G1⟩:=Eb a2 (hq _ _ hJ) L
    obtain⟨o1,h1,h2,n1,h3⟩:=j.l
    exact⟨o1,m1.extBut b o1 (λe=>by
     obtain⟨o3,h4,h5,_⟩:=hI
     rw[<-e,h1] at h4
     cases h4
     rw[h2] at h5
     exact absurd h5 (by decide)) h1,h2,n1,h3⟩
   obtain⟨y,A,B,pf,S1,z,rfl,hy,f,hA,fx,a3⟩:=afw a2 (hq _ _ hJ) L hm I1 hv
   subst hA
   refine xH (λqq h=>h) no (g1 _ _ _ hJ hm) a3 ⟨pf.1,by rw[<-p1,dY (aH _),iP];rfl,rfl⟩ λD H fl fv c1 U i1 e1 y1=>?_
   obtain⟨rfl,z1,X,bk⟩:=y1
   obtain rfl:=e1
   have hz:z1.length=O.length:=bk.z.trans p1.symm
   have R:=afz (c:=c.plus [(I,o')]) (k:=k) (n:=n) hy f hm fx i1.toRepS U bk.e hz bk.fq (by rw[bk.fk,bk.z]) (by rw[bk.z];exact bk.b _) (by rw[bk.z];exact bk.l) bk.ne
   exact⟨_,om M (gp _),O,_,o',A.length+1,p,a2.to (pr _) R,⟨c',d'⟩,L,rfl,M,bk.j _⟩
  ·have x1:ms.length<=i:=kL W1
   have Y1:vs[i-ms.length]? =aa v:=by rw[dY (by rw[j.u];exact x1),j.u] at hv;exact hv
   obtain⟨x,hx,T1⟩:∃x,xs[i-ms.length]? =aa x/\VR G.D O x v:=by
    have hx:=ig (l:=xs) (i:=i-ms.length) (Nat.sub_lt_left_of_lt_add x1 M)
    obtain⟨w,hw,r⟩:=Each.get j.f hx
    rw[Y1] at hw
    cases hw
    exact⟨_,hx,r⟩
   refine xH (λqq h=>h) no (f1 _ _ _ hJ x1 hx) a2 T1 λD H fl fv c1 U i1 e1 y1=>?_
   obtain⟨rfl,hj⟩:=y1
   obtain rfl:=e1
   exact⟨_,om M (gp _),D,H,o',i+1,p.trans U,i1,⟨c',d'⟩,iz U L,rfl,M,hj⟩
 ·have e:i=ms.length+xs.length:=ny hit (kL M)
  subst e
  have hx:(us++vs)[ms.length+xs.length]? =none:=LP (by rw[bK,j.u,<-Each.len j.f];exact aH _)
  refine wpAny_pyNext_list_end a'.ok.hh hI j.l (by rw[oh];exact hx) λh' O1=>?_
  have R:RepS G.D c O u {s' with heap:=h'}:=a'.drop (own:=[]) (λb o L e=>O1 b o L e) (aH _)
  exact wpAny_execs_nil ⟨O,u,.next,p,R,rfl,fin _ hJ⟩
end
section
open Nu St Tb
noncomputable def tS (i:Nat):Stmt:=aN mL.body i
noncomputable abbrev gD (W:Wd):Gx:=gW W 20 fU.scope [] [] aj
noncomputable abbrev gE (W:Wd) (k:Nat):Gx:=(gD W).mG 19 mL (af "token") k
theorem K7(W:Wd)(k:Nat):bw (gE W k):=(sy (W:=W) (n:=20) (cs:=fU.scope) (cons:=[]) (fr:=aj) λx z=>Om.nm z).mG _ _ _ _
noncomputable abbrev yL (y:Nat->SO):List SO:=[y 8,y 9,y 10,y 11,y 12,y 13,y 14,y 15,y 16,y 17,y 18,y 19,y 20,y 21]
noncomputable abbrev lO (x:SV):SO:=.inst 762 (ck++(af "state",x)::cK)
noncomputable abbrev cN (x:SV) (y:Nat->SO) (q:SO) (w:Str):List SO:=[lO x,y 1,fm,q,y 4,d7,cM,iI w]++yL y
noncomputable abbrev sA:List (Str×SV):=[(af "t",.obj 0)]
noncomputable abbrev bU (d:Nat):List (Str×SV):=[(af "told",.obj 23),(af "data",.obj d),(af "t",.obj 0)]
noncomputable abbrev nc:Expr:=.Name (af "token") (C8 (tS 2))
noncomputable abbrev tB:List Stmt:=jU (tS 2) 0
noncomputable def kG (G:Gx) (e:Expr) (p:SS) (K:SV->SS->Prop):Prop:=((ex 60 G).E e p λx z=>.pr (K x (dX z)) .tt).t.h
theorem vP{G:Gx}(g:bw G){e:Expr}{j:SS}{K:SV->SS->Prop}(h:kG G e j K):aA G e j K:=aC.re ((((ex 60 G).E e j λx k=>.pr (K x (dX k)) .tt).ok h g).mp λV V z=>z.1) λx k c U Y s v O p R q z=>⟨Y,dX k,x,p,R.nf,q,z⟩
noncomputable def qa (G:Gx) (t:Expr) (y:SV) (p:SS) (K:SS->Prop):Prop:=(q4 (λG=>ex 60 G) G t y p λz=>.pr (K (dX z)) .tt).t.h
section
variable(W:Wd)(x:SV)(y:Nat->SO)(q c:SO)(w m:Str)(K:Fl->SS->Prop)(KE:SV->SS->Prop)(u:SS->Prop)(D:List Str)(v:Value)
theorem td0:runN (gE W 22) [tS 0,tS 1] ⟨sA,.b (cN x y q w++[.cell ah]),[]⟩ K=(K .next ⟨bU 6,.b (cN x y q w++[.cell ah,.list ah []]),[]⟩/\True):=by kernel_rfl
theorem td1:kG (gE W 22) (gY (tS 2)) ⟨bU 6,.b (cN x y q w++[c,.list ah []]),[]⟩ KE=(KE (.obj 3) ⟨bU 6,.b (cN x y q w++[c,.list ah []]),[]⟩/\True):=by kernel_rfl
theorem td2:qa (gE W 22) nc (.obj 24) ⟨bU 6,.b (cN x y .gone w++[.cell ah,.list (aa (.strs D)) [],.cz m]),[]⟩ u=(u ⟨bU 6,.b (cN x y .gone w++[.cell (aa (.obj 24)),.list (aa (.strs D)) [],.cz m]),[]⟩/\True):=by kernel_rfl
theorem td3:qa (gE W 22) nc (.obj 24) ⟨bU 6,.b (cN x y .gone w++[.cell (aa (.val v)),.list (aa (.strs D)) [],.cz m]),[]⟩ u=(u ⟨bU 6,.b (cN x y .gone w++[.cell (aa (.obj 24)),.list (aa (.strs D)) [],.cz m]),[]⟩/\True):=by kernel_rfl
theorem td4:runN (gE W 22) tB ⟨bU 6,.b (cN x y .gone w++[.cell (aa (.obj 24)),.list (aa (.strs D)) [],.cz m]),[]⟩ K=((∀U,lZ (.strs D) U->U.length+0<=16777216)/\K .next ⟨bU 6,.b (cN x y .gone w++[.cell (aa (.obj 24)),.list (aa (.strs D)) [.ss m],.cz m]),[]⟩/\True):=by kernel_rfl
theorem td5:runN (gE W 22) [tS 3,tS 4] ⟨bU 6,.b (cN x y q w++[c,.list (aa (.strs D)) []]),[]⟩ K=(K (.ret (.obj 27)) ⟨bU 6,.b (cN x y q w++[c,.list (aa (.strs D)) [],.list ah [.obj 25,.obj 26],.tup [.str (af "a"),.str (af "&")],.tup [.str (af "b"),.ss w],.tup [.obj 23,.str (af "P"),.obj 24]]),[]⟩/\True):=by kernel_rfl
end
end
section
open Nu St Tb
theorem K8:mL.body=[tS 0,tS 1]++(tS 2::[tS 3,tS 4]):=by kernel_rfl
theorem K9:tS 2=.For nc (gY (tS 2)) tB [] (C9 (tS 2)):=by kernel_rfl
theorem Ed{G:Gx}(g:bw G){t:Expr}{y:SV}{m:SS}{K:SS->Prop}(h:qa G t y m K):fc G t y m K:=aC.re (((q4 (λG=>ex 60 G) G t y m λu=>.pr (K (dX u)) .tt).ok h g).mp λj j z=>z.1) λx u c Y k s v V p R q z=>⟨k,dX u,x,p,R.nf,q,z⟩
theorem cC.vG{D:Wd}{F:List Str}{x:Str}:cC D (.list (aa (.strs (F++[x]))) []) (.list (aa (.strs F)) [.ss x]):=λX z a l r=>by
 obtain⟨U,y,n,e,q,f⟩:=r
 cases f using Each.ec with
 |cons h f=>
  cases f
  obtain⟨t,rfl⟩:=h
  exact⟨U++[.str x t],[],n,by rw[cO];exact e,pC q (.cons _ _ .nil),.nil⟩
theorem afI{k:Nat}{o:SO}(h:f7 k o=ai):eN k o=true:=by
 cases o with
 |cell x=>cases h
 |_=>exact h
noncomputable abbrev La (x:SV) (y:Nat->SO) (z:List Str) (w:Str) (c:SO) (D:List Str):SS:=⟨bU 6,.b (cN x y (.aJ 5000 0 z []) w++[c,.list (aa (.strs D)) []]),[]⟩
noncomputable def TJ (x:SV) (y:Nat->SO) (z:List Str) (w:Str) (i:Nat) (u:SS):Prop:=∃c,(c=SO.cell ah\/∃v,c=SO.cell (aa (.val v)))/\u=La x y z w c (z.take i)
theorem Lc{W:Wd}{x:SV}{y:Nat->SO}{w:Str}{p:List Str}(hm:p.length<=10000)(A:fL 24 x=ai)(B:∀i,f7 24 (y i)=ai){M:List (Str×SV)}{K:SV->SS->Prop}
 (k:∀c,K (.obj 27) ⟨M,.b (cN x y (.aJ 5000 0 p []) w++[c,.list (aa (.strs p)) [],.list ah [.obj 25,.obj 26],.tup [.str (af "a"),.str (af "&")],.tup [.str (af "b"),.ss w],.tup [.obj 23,.str (af "P"),.obj 24]]),[]⟩):
 av (gD W) (.ref 807) [.obj 0] ⟨M,.b (cN x y (.aJ 5000 0 p []) w),[]⟩ K:=by
 have g:=K7 W 22
 refine BS (i:=mL) (n:=19) (pn:=af "t") (n0:=af "token") (by kernel_rfl) rfl ?_
 show aO (gE W 22) mL.body ⟨sA,OL.a (.b (cN x y (.aJ 5000 0 p []) w)) (.cell ah),[]⟩ _
 refine aC.pre (σ':=⟨sA,.b (cN x y (.aJ 5000 0 p []) w++[.cell ah]),[]⟩) (ay.of (λz z e=>e) rfl rfl) ?_
 rw[K8]
 refine pJ (fu g ?_)
 rw[td0]
 refine⟨cZ ?_,trivial⟩
 rw[K9]
 refine K6 (λz z z h=>h) (λz z=>rfl) (q:=3) (k:=22) (n:=5000) (ms:=p) (xs:=[]) (TJ x y p w) (λi j C=>?_) (λi m j C D=>?_) (λi x j C h1 h2=>by cases h2) (λj C=>?_) (aC.ent (vP g (K:=λu j=>u=.obj 3/\j=⟨bU 6,.b (cN x y (.aJ 5000 0 p []) w++[.cell ah,.list ah []]),[]⟩) ?_) ?_)
 ·obtain⟨c,_,rfl⟩:=C;rfl
 ·obtain⟨c,hc,rfl⟩:=C
  have G:=(dh.mp D).1
  show fc (gE W 22) nc (.obj 24) _ _
  refine aC.pre (σ':=⟨bU 6,.b (cN x y .gone w++[c,.list (aa (.strs (p.take i))) [],.cz m]),[]⟩) (ay.of (λz z e=>e) rfl rfl) (Ed g ?_)
  have U:aO (gE W 22) tB ⟨bU 6,.b (cN x y .gone w++[.cell (aa (.obj 24)),.list (aa (.strs (p.take i))) [],.cz m]),[]⟩ λL Y=>L=.next/\∃V X,Ec 3 22 5000 p [] m 24 (TJ x y p w (i+1)) Y V X:=by
   refine aC.ent (fu g (K:=λL Y=>L=.next/\Y=⟨bU 6,.b (cN x y .gone w++[.cell (aa (.obj 24)),.list (aa (.strs (p.take i))) [.ss m],.cz m]),[]⟩) ?_) ?_
   ·rw[td4]
    refine⟨λus h=>?_,⟨rfl,rfl⟩,trivial⟩
    have:=nN h
    have:=ql i p
    exact Om.Ga hm G ‹_› this
   ·rintro L Y ⟨rfl,rfl⟩
    have ht:p.take i++[m]=p.take (i+1):=by rw[wj,D];rfl
    refine⟨⟨bU 6,.b (cN x y .gone w++[.cell (aa (.obj 24)),.list (aa (.strs (p.take (i+1)))) [],.cz m]),[]⟩,ay.objs (Each.app (cC.all _) (.cons (.refl _) (.cons (ht▸cC.vG) (.cons (.refl _) .nil)))),rfl,cN x y .gone w++[.cell (aa (.obj 24)),.list (aa (.strs (p.take (i+1)))) []],[],⟨rfl,rfl,rfl,rfl,by decide,λv=>?_,by kernel_rfl,λv=>⟨_,.inr ⟨v,rfl⟩,rfl⟩⟩⟩
    have H:eN 24 (lO x)=true:=by
     show(fL 24 x&&_)=ai
     rw[A];kernel_rfl
    have O:∀i,eN 24 (y i)=true:=λi=>afI (B i)
    show(eN 24 (lO x)&&(eN 24 (y 1)&&_))=ai
    rw[H,O]
    show(eN 24 (y 4)&&_)=ai
    rw[O]
    show(eN 24 (y 8)&&(eN 24 (y 9)&&(eN 24 (y 10)&&(eN 24 (y 11)&&(eN 24 (y 12)&&(eN 24 (y 13)&&(eN 24 (y 14)&&(eN 24 (y 15)&&(eN 24 (y 16)&&(eN 24 (y 17)&&(eN 24 (y 18)&&(eN 24 (y 19)&&(eN 24 (y 20)&&(eN 24 (y 21)&&_))))))))))))))=ai
    simp only[O,MG]
    kernel_rfl
  rcases hc with rfl|⟨v,rfl⟩
  ·rw[td2];exact⟨U,trivial⟩
  ·rw[td3];exact⟨U,trivial⟩
 ·obtain⟨c,_,rfl⟩:=C
  rw[show p.take (p.length+([]:List SV).length)=p from z9]
  refine fu g ?_
  rw[td5]
  exact⟨k c,trivial⟩
 ·rw[td1];exact⟨⟨rfl,rfl⟩,trivial⟩
 ·rintro u j ⟨rfl,rfl⟩
  exact⟨La x y p w (.cell ah) [],ay.objs (Each.app (cC.all _) (.cons (.refl _) (.cons cC.D6 .nil))),rfl,.cell ah,.inl rfl,rfl⟩
end
section
open Nu St Tb
noncomputable abbrev Ef:SO:=.dict [(af "type",.int 3),(af "name",.ss (ak [112])),(af "data",.obj 5),(af "selfClosing",.bool aj)]
noncomputable abbrev cY (r w:List Nat) (F:List Str) (q:SO):List SO:=[lO (.obj 9),.blob (.strm ⟨ah,lit r,ah⟩),Ef,q,.list ah [],vK (ak w),.gone,.gone,.list (aa (.strs F)) [],.aI 304 (.obj 0),.tup [.str (af "a"),.str (af "&")],.tup [.str (af "b"),.ss (ak w)],.list ah [.obj 10,.obj 11]]++(yU r w).map (fH 13)
noncomputable abbrev sC (w:List Nat):List SO:=[.list ah [.obj 25,.obj 26],.tup [.tm (lit [97]),.str (af "&")],.tup [.tm (lit [98]),.ss (ak w)],.tup [.ss (ak [112]),.obj 24]]
section
variable(W:Wd)(r w:List Nat)(F:List Str)(q c:SO)(m:Str)(K:Fl->SS->Prop)(KE:SV->SS->Prop)(z:SS->Prop)(D:List Str)(v:Value)
theorem tb0:runN (gE W 22) [tS 0,tS 1] ⟨sA,.b (cY r w F q++[.cell ah]),[]⟩ K=(K .next ⟨bU 5,.b (cY r w F q++[.cell ah,.list ah []]),[]⟩/\True):=by kernel_rfl
theorem tb1:kG (gE W 22) (gY (tS 2)) ⟨bU 5,.b (cY r w F q++[c,.list ah []]),[]⟩ KE=(KE (.obj 3) ⟨bU 5,.b (cY r w F q++[c,.list ah []]),[]⟩/\True):=by kernel_rfl
theorem tb2:qa (gE W 22) nc (.obj 24) ⟨bU 5,.b (cY r w F .gone++[.cell ah,.list (aa (.strs D)) [],.cz m]),[]⟩ z=(z ⟨bU 5,.b (cY r w F .gone++[.cell (aa (.obj 24)),.list (aa (.strs D)) [],.cz m]),[]⟩/\True):=by kernel_rfl
theorem tb3:qa (gE W 22) nc (.obj 24) ⟨bU 5,.b (cY r w F .gone++[.cell (aa (.val v)),.list (aa (.strs D)) [],.cz m]),[]⟩ z=(z ⟨bU 5,.b (cY r w F .gone++[.cell (aa (.obj 24)),.list (aa (.strs D)) [],.cz m]),[]⟩/\True):=by kernel_rfl
theorem tb4:runN (gE W 22) tB ⟨bU 5,.b (cY r w F .gone++[.cell (aa (.obj 24)),.list (aa (.strs D)) [],.cz m]),[]⟩ K=((∀U,lZ (.strs D) U->U.length+0<=16777216)/\K .next ⟨bU 5,.b (cY r w F .gone++[.cell (aa (.obj 24)),.list (aa (.strs D)) [.ss m],.cz m]),[]⟩/\True):=by kernel_rfl
theorem tb6:qa (gE W 22) nc (.obj 2) ⟨bU 5,.b (cY r w F q++[.cell ah,.list (aa (.strs D)) []]),[]⟩ z=(z ⟨bU 5,.b (cY r w F q++[.cell (aa (.obj 2)),.list (aa (.strs D)) []]),[]⟩/\True):=by kernel_rfl
theorem tb7:qa (gE W 22) nc (.obj 2) ⟨bU 5,.b (cY r w F q++[.cell (aa (.val v)),.list (aa (.strs D)) []]),[]⟩ z=(z ⟨bU 5,.b (cY r w F q++[.cell (aa (.obj 2)),.list (aa (.strs D)) []]),[]⟩/\True):=by kernel_rfl
theorem tb8(x:List Str)(y:List SV):runN (gE W 22) tB ⟨bU 5,.b (cY r w F (.aJ 5000 0 x y)++[.cell (aa (.obj 2)),.list (aa (.strs D)) []]),[]⟩ K=((∀U,lZ (.strs D) U->U.length+0<=16777216)/\K .next ⟨bU 5,.b (cY r w F (.aJ 5000 0 x y)++([.cell (aa (.obj 2)),.list (aa (.strs D)) [.obj 27]]++sC w)),[]⟩/\True):=by kernel_rfl
theorem tb5:runN (gE W 22) [tS 3,tS 4] ⟨bU 5,.b (cY r w F q++([c,.list (aa (.strs D)) [.obj 27]]++sC w)),[]⟩ K=(K (.ret (.obj 28)) ⟨bU 5,.b (cY r w F q++([c,.list (aa (.strs D)) [.obj 27]]++(sC w++[.tup [.obj 23,.ss (ak [112]),.str (af "sent")]]))),[]⟩/\True):=by kernel_rfl
end
noncomputable def SJ (r w:List Nat) (x:List Str) (i:Nat) (y:SS):Prop:=(i<=x.length/\∃c,(c=SO.cell ah\/∃v,c=SO.cell (aa (.val v)))/\y=⟨bU 5,.b (cY r w x (.aJ 5000 0 x [.obj 2])++[c,.list (aa (.strs (x.take i))) []]),[]⟩)\/(i=x.length+1/\y=⟨bU 5,.b (cY r w x (.aJ 5000 0 x [.obj 2])++([.cell (aa (.obj 2)),.list (aa (.strs x)) [.obj 27]]++sC w)),[]⟩)
theorem afS{W:Wd}{r w:List Nat}{y:List Str}(hm:y.length<=10000){M:List (Str×SV)}{K:SV->SS->Prop}
 (k:K (.obj 28) ⟨M,.b (cY r w y (.aJ 5000 0 y [.obj 2])++([.cell (aa (.obj 2)),.list (aa (.strs y)) [.obj 27]]++(sC w++[.tup [.obj 23,.ss (ak [112]),.str (af "sent")]]))),[]⟩):
 av (gD W) (.ref 807) [.obj 0] ⟨M,.b (cY r w y (.aJ 5000 0 y [.obj 2])),[]⟩ K:=by
 have g:=K7 W 22
 refine BS (i:=mL) (n:=19) (pn:=af "t") (n0:=af "token") (by kernel_rfl) rfl ?_
 show aO (gE W 22) mL.body ⟨sA,OL.a (.b (cY r w y (.aJ 5000 0 y [.obj 2]))) (.cell ah),[]⟩ _
 refine aC.pre (σ':=⟨sA,.b (cY r w y (.aJ 5000 0 y [.obj 2])++[.cell ah]),[]⟩) (ay.of (λU U e=>e) rfl rfl) ?_
 rw[K8]
 refine pJ (fu g ?_)
 rw[tb0]
 refine⟨cZ ?_,trivial⟩
 rw[K9]
 refine K6 (λU U U h=>h) (λU U=>rfl) (q:=3) (k:=22) (n:=5000) (ms:=y) (xs:=[.obj 2]) (SJ r w y) (λi Y C=>?_) (λi m Y C L=>?_) (λi x Y C h1 u=>?_) (λY C=>?_) (aC.ent (vP g (K:=λA Y=>A=.obj 3/\Y=⟨bU 5,.b (cY r w y (.aJ 5000 0 y [.obj 2])++[.cell ah,.list ah []]),[]⟩) ?_) ?_)
 ·rcases C with⟨_,c,_,rfl⟩|⟨_,rfl⟩<;>rfl
 ·have V:=(dh.mp L).1
  rcases C with⟨_,c,B,rfl⟩|⟨e,_⟩
  ·show fc (gE W 22) nc (.obj 24) _ _
   refine aC.pre (σ':=⟨bU 5,.b (cY r w y .gone++[c,.list (aa (.strs (y.take i))) [],.cz m]),[]⟩) (ay.of (λU U e=>e) rfl rfl) (Ed g ?_)
   have p:aO (gE W 22) tB ⟨bU 5,.b (cY r w y .gone++[.cell (aa (.obj 24)),.list (aa (.strs (y.take i))) [],.cz m]),[]⟩ λO j=>O=.next/\∃H X,Ec 3 22 5000 y [.obj 2] m 24 (SJ r w y (i+1)) j H X:=by
    refine aC.ent (fu g (K:=λO j=>O=.next/\j=⟨bU 5,.b (cY r w y .gone++[.cell (aa (.obj 24)),.list (aa (.strs (y.take i))) [.ss m],.cz m]),[]⟩) ?_) ?_
    ·rw[tb4]
     refine⟨λus h=>?_,⟨rfl,rfl⟩,trivial⟩
     have:=nN h
     have:=ql i y
     exact Om.Ga hm V ‹_› this
    ·rintro O j ⟨rfl,rfl⟩
     have ht:y.take i++[m]=y.take (i+1):=by rw[wj,L];rfl
     exact⟨⟨bU 5,.b (cY r w y .gone++[.cell (aa (.obj 24)),.list (aa (.strs (y.take (i+1)))) [],.cz m]),[]⟩,ay.objs (Each.app (cC.all _) (.cons (.refl _) (.cons (ht▸cC.vG) (.cons (.refl _) .nil)))),rfl,cY r w y .gone++[.cell (aa (.obj 24)),.list (aa (.strs (y.take (i+1)))) []],[],⟨rfl,rfl,rfl,rfl,by decide,λv=>by kernel_rfl,by kernel_rfl,λv=>.inl ⟨V,_,.inr ⟨v,rfl⟩,rfl⟩⟩⟩
   rcases B with rfl|⟨v,rfl⟩
   ·rw[tb2];exact⟨p,trivial⟩
   ·rw[tb3];exact⟨p,trivial⟩
  ·exact Om.Sm V e
 ·have G:i-y.length<1:=(dh.mp u).1
  have L:i=y.length:=by exact Om.Sn h1 G
  subst L
  rw[iP] at u
  cases u
  rcases C with⟨_,c,B,rfl⟩|⟨e,_⟩
  ·rw[z9]
   have p:aO (gE W 22) tB ⟨bU 5,.b (cY r w y (.aJ 5000 0 y [.obj 2])++[.cell (aa (.obj 2)),.list (aa (.strs y)) []]),[]⟩ λO j=>O=.next/\SJ r w y (y.length+1) j:=by
    refine fu g ?_
    rw[tb8]
    refine⟨λus h=>?_,⟨rfl,.inr ⟨rfl,rfl⟩⟩,trivial⟩
    have:=nN h
    exact Om.So hm this
   refine Ed g ?_
   rcases B with rfl|⟨v,rfl⟩
   ·rw[tb6];exact⟨p,trivial⟩
   ·rw[tb7];exact⟨p,trivial⟩
  ·exact absurd e.symm (Mi _)
 ·rcases C with⟨h,_⟩|⟨_,rfl⟩
  ·exact absurd h (Nat.not_succ_le_self _)
  ·refine fu g ?_
   rw[tb5]
   exact⟨k,trivial⟩
 ·rw[tb1];exact⟨⟨rfl,rfl⟩,trivial⟩
 ·rintro A Y ⟨rfl,rfl⟩
  exact⟨⟨bU 5,.b (cY r w y (.aJ 5000 0 y [.obj 2])++[.cell ah,.list (aa (.strs (y.take 0))) []]),[]⟩,ay.objs (Each.app (cC.all _) (.cons (.refl _) (.cons cC.D6 .nil))),rfl,.inl ⟨bP _,.cell ah,.inl rfl,rfl⟩⟩
end
section
open Nu St Tb
noncomputable def ng (D:Wd) (O o:SO):Prop:=∀X v a l,OR D X v a o l->∃u,u.Sublist l/\OR D X v a O u
theorem cC.s{D:Wd}{O o:SO}(h:cC D O o):ng D O o:=λX v a l r=>⟨l,fY _,h X v a l r⟩
theorem ng.refl{D:Wd}(o:SO):ng D o o:=(cC.refl o).s
theorem ng.gone{D:Wd}{o:SO}:ng D .gone o:=λX v a l r=>⟨[],List.nil_sublist _,rfl⟩
theorem ng.key{D:Wd}{X:List (Addr×Obj)}{m:List Addr}{os u:List SO}(h:Each (ng D) u os):∀v:List Cl,Each (λo (q:Cl)=>OR D X m q.1 o q.2) os v->∃B:List Cl,B.map aS=v.map aS/\(flat B).Sublist (flat v)/\Each (λo (q:Cl)=>OR D X m q.1 o q.2) u B:=by
 induction h with
 |nil=>intro v C;cases C;exact⟨[],rfl,fY _,.nil⟩
 |cons a _ p=>
  intro v C
  cases C using Each.ec with
  |@cons q v r C=>
   obtain⟨j,s1,k⟩:=a _ _ _ _ r
   obtain⟨B,e,s2,M⟩:=p v C
   exact⟨(q.1,j)::B,congrArg (q.1::·) e,s1.append s2,.cons k M⟩
theorem ay.Eg{D:Wd}{q:List (Str×SV)}{os u:List SO}{k:List Fact}(h:Each (ng D) u os):ay D ⟨q,.b os,k⟩ ⟨q,.b u,k⟩:=λc L s R=>by
 obtain⟨⟨m,⟨Y,ad,C,l2,g,M,F,N⟩,O⟩,V,k⟩:=R
 obtain⟨B,e,A,j⟩:=ng.key h Y C
 have v:(flat B++c.X).Sublist (flat Y++c.X):=A.append (fY _)
 exact⟨⟨m,⟨B,e.trans ad,j,(v.map aS).nodup l2,g,M,F,λp U=>N p (v.subset U)⟩,O⟩,V,k⟩
noncomputable abbrev jn (s:Str):Prop:=∀c∈s.cps.toList,c<0x110000
section
variable{G:Gx}{z:SS}{n:Nat}{x y:SV}
theorem bu.str{l:Str}(k:∀{W:Wd} {q:List Addr} {v:Value},VR W q x v->∃t,v=.str l t)(m:∀{W:Wd} {q:List Addr} {v:Value},VR W q y v->∃t,v=.str l t)(ok:jn l):bu G z 0 x y:=λc q s v w at_ r p=>by
 obtain⟨t,rfl⟩:=k r
 obtain⟨u,rfl⟩:=m p
 exact⟨_,_,_,.str _ _,.str _ _,by
  show(Array.all _ _=ai)
  rw[Mf]
  intro c g
  exact decide_eq_true (ok c (by simpa using g)),aH _⟩
theorem lu.nil:lu G z n [] []:=λc q s v w a r u=>by cases r;cases u;exact⟨_,_,_,.nil,.nil,rfl,bP _⟩
theorem lu.cons{g j:List SV}(h:bu G z n x y)(q:lu G z n g j):lu G z n (x::g) (y::j):=λc m s v w a r p=>by
 cases r using Each.ec with
 |cons r Y=>cases p using Each.ec with
  |cons p V=>
   obtain⟨d,as,bs,B,u,O,C⟩:=h c m s _ _ a r p
   obtain⟨A,k,L,D,H,M,U⟩:=q c m s _ _ a Y V
   exact⟨d::A,_,_,.cons B D,.cons u H,qk.mpr ⟨O,M⟩,Nat.max_le.mpr ⟨C,U⟩⟩
theorem bu.tup{i j:Nat}{xs g:List SV}(O:z.objs.list[i]? =aa (.tup xs))(U:z.objs.list[j]? =aa (.tup g))(h:lu G z n xs g):bu G z (n+1) (.obj i) (.obj j):=λc Y s v w a r V=>by
 obtain⟨b,vs,rfl,f1,C⟩:=a.tup O r
 obtain⟨b',ws,rfl,f2,l2⟩:=a.tup U V
 obtain⟨ds,y1,e1,D,H,L,M⟩:=h c Y s _ _ a f1 f2
 obtain⟨o,u,A,m,B⟩:=C
 obtain⟨o',k,p,m',q⟩:=l2
 exact⟨_,_,_,reads_tuple_at u A B (by simpa using D),reads_tuple_at k p q (by simpa using H),L,d9 M⟩
theorem bu.lst{i j:Nat}{g k:List SV}(M:z.objs.list[i]? =aa (.list ah g))(O:z.objs.list[j]? =aa (.list ah k))(h:lu G z n g k):bu G z (n+1) (.obj i) (.obj j):=λc Y s v w a r U=>by
 obtain⟨b,us,vs,rfl,q1,f1,C⟩:=a.list M r
 obtain⟨b',V,ws,rfl,q2,f2,l2⟩:=a.list O U
 obtain rfl:=q1
 obtain rfl:=q2
 obtain⟨ds,y1,e1,B,D,H,L⟩:=h c Y s _ _ a f1 f2
 obtain⟨o,g1,g2,m,A⟩:=C
 obtain⟨o',p,q,m',u⟩:=l2
 exact⟨_,_,_,reads_list_at g1 g2 A (by simpa using B),reads_list_at p q u (by simpa using D),H,d9 L⟩
theorem afT{h:Heap}:∀{F:List Str} {U v:List Value},StrsAre U F->StrsAre v F->(∀f∈F,jn f)->∀{n:Nat} {m u:List Value},BK n h m u->BK n h (U++m) (v++u):=@λF=>by
 induction F with
 |nil=>intro U v q O _ n m u r;cases q;cases O;exact r
 |cons f F p=>
  intro U v q O ok n m u r
  cases q with
  |cons t _ q=>cases O with
   |cons B _ O=>
    obtain⟨C,k,L,D,H,M,V⟩:=p q O (λg j=>ok g (.tail _ j)) r
    refine⟨.str f::C,_,_,.cons (.str _ _) D,.cons (.str _ _) H,qk.mpr ⟨?_,M⟩,Nat.max_le.mpr ⟨bP _,V⟩⟩
    show(Array.all _ _=ai)
    rw[Mf]
    intro c Y
    exact decide_eq_true (ok f (.head _) c (by simpa using Y))
theorem bu.pre{i j:Nat}{F:List Str}{g k:List SV}(M:z.objs.list[i]? =aa (.list (aa (.strs F)) g))(O:z.objs.list[j]? =aa (.list (aa (.strs F)) k))(ok:∀f∈F,jn f)(h:lu G z n g k):bu G z (n+1) (.obj i) (.obj j):=λc Y s v w a r U=>by
 obtain⟨b,us,vs,rfl,q1,f1,C⟩:=a.list M r
 obtain⟨b',V,ws,rfl,q2,f2,l2⟩:=a.list O U
 obtain⟨ds,y1,e1,B,D,H,L⟩:=afT q1 q2 ok (h c Y s _ _ a f1 f2)
 obtain⟨o,g1,g2,m,A⟩:=C
 obtain⟨o',p,q,m',u⟩:=l2
 exact⟨_,_,_,reads_list_at g1 g2 A (by simpa using B),reads_list_at p q u (by simpa using D),H,d9 L⟩
end
end
section
open Nu St Tb
noncomputable abbrev nh:Stmt:=aN (c5 (lS 11)) 0
noncomputable abbrev iJ:Stmt:=aN (cJ (lS 11)) 0
noncomputable abbrev jo:Stmt:=aN (cJ nh) 0
noncomputable abbrev jq:Stmt:=aN (c5 nh) 0
noncomputable abbrev qb (st:Stmt):Expr:=(eK (bX st)).getD 0 (.Constant .none 0 ⟨0,0,0,0⟩)
noncomputable abbrev kH (st:Stmt):Expr:=(eK (bX st)).getD 1 (.Constant .none 0 ⟨0,0,0,0⟩)
noncomputable abbrev b4 (s a:Nat) (m:List Nat):List (Str×SV):=[(af "t",.obj 0),(af "u",.obj 13),(af "state",.int s),(af "faults",.obj 8),(af "pairs",.obj 12),(af "at",.si a),(af "mended",.ss (ak m))]
noncomputable abbrev zK (w:List Nat):List SO:=[.tup [.str (af "a"),.str (af "&")],.tup [.str (af "b"),.ss (ak w)],.list ah [.obj 10,.obj 11]]
noncomputable def yA (r w:List Nat) (F:List Str) (f:Addr) (i:Nat):SO:=(([.gone,.blob (.strm ⟨ah,lit r,ah⟩),.gone,.gone,.list ah [],.gone,.gone,.gone,.list (aa (.strs F)) [],.aI f (.obj 0)]++(zK w++(yU r w).map (fH 13))):List SO).getD i .gone
noncomputable abbrev lP (z:List Str) (w:List Nat) (c:SO):List SO:=[c,.list (aa (.strs z)) [],.list ah [.obj 25,.obj 26],.tup [.str (af "a"),.str (af "&")],.tup [.str (af "b"),.ss (ak w)],.tup [.obj 23,.str (af "P"),.obj 24]]
theorem Ld(r w:List Nat)(F:List Str)(f:Addr)(i:Nat):f7 24 (yA r w F f i)=true:=by
 have h:((([.gone,.blob (.strm ⟨ah,lit r,ah⟩),.gone,.gone,.list ah [],.gone,.gone,.gone,.list (aa (.strs F)) [],.aI f (.obj 0)]++(zK w++(yU r w).map (fH 13))):List SO).all (f7 24))=true:=by kernel_rfl
 have:∀(l:List SO) (i:Nat),l.all (f7 24)=ai->f7 24 (l.getD i .gone)=true:=λl=>by
  induction l with
  |nil=>exactλi y=>rfl
  |cons a l p=>
   intro i h
   rw[jQ,cD] at h
   cases i with
   |zero=>exact h.1
   |succ i=>exact p i h.2
 exact this _ i h
section
variable(W:Wd)(r w m:List Nat)(F z:List Str)(f:Addr)(s a:Nat)(q c:SO)(o:OL)(K:SV->SS->Prop)
theorem Lf:dz (gD W) (bX (lS 11)) ⟨b4 s a m,o,[]⟩ K=((ak m).length<=sizeLine/\K (.sb (decide ((a:Int)=(ak m).length))) ⟨b4 s a m,o,[]⟩/\True):=by kernel_rfl
noncomputable abbrev Eh:Prop:=(-((ak m).length:Int)<=a/\(a:Int)<(ak m).length/\(ak m).length<=sizeLine)
noncomputable abbrev qc:Bool:=seq (eS (ak m) a) (af ">")
theorem afU:dz (gD W) (bX nh) ⟨b4 0 a m,o,[]⟩ K=(Eh m a/\(qc m a=ai->K (.bool aj) ⟨b4 0 a m,o,[]⟩/\True)/\(qc m a=aj->K (.bool aj) ⟨b4 0 a m,o,[]⟩/\True)):=by kernel_rfl
theorem afV:dz (gD W) (bX nh) ⟨b4 1 a m,o,[]⟩ K=(Eh m a/\(qc m a=ai->K (.bool aj) ⟨b4 1 a m,o,[]⟩/\True)/\(qc m a=aj->K (.bool aj) ⟨b4 1 a m,o,[]⟩/\True)):=by kernel_rfl
theorem afW:dz (gD W) (bX nh) ⟨b4 2 a m,o,[]⟩ K=(Eh m a/\(qc m a=ai->K (.bool ai) ⟨b4 2 a m,o,[]⟩/\True)/\(qc m a=aj->K (.bool aj) ⟨b4 2 a m,o,[]⟩/\True)):=by kernel_rfl
noncomputable abbrev pA:List SO:=[.list ah [.str (af "eof-in-attribute-value-double-quote"),.str (af "eof-in-attribute-value-single-quote"),.str (af "eof-in-attribute-value-no-quotes")]]
noncomputable abbrev rA (e:Str):List SO:=pA++[.list ah [.str e],.list (aa (.strs F)) [.str e],.tup [.obj 30,.str (af "P"),.obj 12]]
noncomputable abbrev zM (s:Nat) (e:Str):Prop:=F.length+0+1<=16777216/\K (.obj 31) ⟨b4 s a m,.b (cN (.obj 9) (yA r w F f) q (ak w)++(lP z w c++rA F e)),[]⟩/\True
theorem afX:kG (gD W) (kH iJ) ⟨b4 0 a m,.b (cN (.obj 9) (yA r w F f) q (ak w)++lP z w c),[]⟩ K=zM r w m F z f a q c K 0 (af "eof-in-attribute-value-double-quote"):=by kernel_rfl
theorem afY:kG (gD W) (kH iJ) ⟨b4 1 a m,.b (cN (.obj 9) (yA r w F f) q (ak w)++lP z w c),[]⟩ K=zM r w m F z f a q c K 1 (af "eof-in-attribute-value-single-quote"):=by kernel_rfl
theorem afZ:kG (gD W) (kH iJ) ⟨b4 2 a m,.b (cN (.obj 9) (yA r w F f) q (ak w)++lP z w c),[]⟩ K=zM r w m F z f a q c K 2 (af "eof-in-attribute-value-no-quotes"):=by kernel_rfl
theorem rCq:kG (gD W) (kH jq) ⟨b4 s a m,.b (cN (.obj 9) (yA r w F f) q (ak w)++lP z w c),[]⟩ K=(K (.obj 28) ⟨b4 s a m,.b (cN (.obj 9) (yA r w F f) q (ak w)++(lP z w c++[.tup [.obj 8,.str (af "P"),.obj 12]])),[]⟩/\True):=by kernel_rfl
noncomputable abbrev Ei (z:List Str) (w:List Nat) (c:SO):List SO:=[c,.list (aa (.strs z)) [.obj 27]]++(sC w++[.tup [.obj 23,.ss (ak [112]),.str (af "sent")]])
theorem rBq:kG (gD W) (kH jo) ⟨b4 s a m,.b (cY r w F q++Ei z w c),[]⟩ K=(F.length+0+1<=16777216/\K (.obj 32) ⟨b4 s a m,.b (cY r w F q++(Ei z w c++[.tup [.str (af "p"),.obj 12],.list ah [.obj 29],.list (aa (.strs F)) [.obj 29],.tup [.obj 31,.str (af "p"),.str (af "sent")]])),[]⟩/\True):=by kernel_rfl
end
theorem Ej(st:Stmt)(h:st=iJ\/st=jo\/st=jq):qb st=.Call (.Name (af "_law_told") (cH (eU (qb st) 0))) [.Name (af "t") (cH (eU (qb st) 1))] [] (cH (qb st)):=by
 rcases h with rfl|rfl|rfl<;>kernel_rfl
theorem af2:iJ=.If (.Compare (qb iJ) [.NotEq] [kH iJ] (cH (bX iJ))) (cJ iJ) [] (gb iJ):=by kernel_rfl
theorem af3:jo=.If (.Compare (qb jo) [.NotEq] [kH jo] (cH (bX jo))) (cJ jo) [] (gb jo):=by kernel_rfl
theorem af4:jq=.If (.Compare (qb jq) [.NotEq] [kH jq] (cH (bX jq))) (cJ jq) [] (gb jq):=by kernel_rfl
theorem Lg:lS 11=.If (bX (lS 11)) [iJ,vL] [nh] (gb (lS 11)):=by kernel_rfl
theorem af5:nh=.If (bX nh) [jo,vM] [jq,vO] (gb nh):=by kernel_rfl
theorem Ek:∀W,TabOk W Tb.T->keepIn W.K (.ref 807)=true:=((IC Tb.T 807).get (by kernel_rfl)).1
theorem ni(W:Wd):bw (gD W):=sy λx y=>Om.nm y
theorem vtN(W:Wd)(p:Pos)(K:List SV->SS->Prop)(s a:Nat)(m:List Nat)(o:OL):yH (gD W) [.Name (af "t") p] ⟨b4 s a m,o,[]⟩ K=(K [.obj 0] ⟨b4 s a m,o,[]⟩/\True):=by kernel_rfl
theorem El(W:Wd)(p:Pos)(K:List SV->SS->Prop){s a:Nat}{m:List Nat}{o:OL}(h:K [.obj 0] ⟨b4 s a m,o,[]⟩):dI (gD W) [.Name (af "t") p] ⟨b4 s a m,o,[]⟩ K:=Di (ni W) (by rw[vtN];exact⟨h,trivial⟩)
end
section
open Nu St Tb
theorem cC.af7{D:Wd}{F:List Str}{x:Str}:cC D (.list (aa (.strs (F++[x]))) []) (.list (aa (.strs F)) [.str x]):=λX y a l r=>by
 obtain⟨U,v,n,e,q,f⟩:=r
 cases f using Each.ec with
 |cons h f=>
  cases f
  obtain⟨t,rfl⟩:=h
  exact⟨U++[.str x t],[],n,by rw[cO];exact e,pC q (.cons _ _ .nil),.nil⟩
theorem Em{D:Wd}{s a:Nat}{m:List Nat}{o:OL}:ay D ⟨b4 s a m,o,[]⟩ ⟨zL s,o,[]⟩:=ay.pk (p7 (by kernel_rfl))
theorem okW{N:Nat}{w:List Nat}(h:Good N w):jn (ak w):=λc y=>by
 have:=h.c c y
 unfold iY at this
 rw[cD] at this
 exact aB this.1
theorem En(p:Pos):dR [Expr.Name (af "t") p]:=((iD [Expr.Name (af "t") p]).get (by kernel_rfl)).1
section
variable{W:Wd}{r w m:List Nat}(g:Good 600 r)(z:Good 1000 w){s:Nat}(k:s<3){a:Nat}{F:List Str}(j:∀f∈F,jn f)(u:F.length<=5000)
theorem Eo{G:Gx}{q:SS}{U q1 L M j1 j2:Nat}{x y:SV}(h1:q.objs.list[U]? =aa (.list ah [.obj L,.obj M]))(h:q.objs.list[q1]? =aa (.list ah [.obj j1,.obj j2]))(O:q.objs.list[L]? =aa (.tup [x,.str (af "&")]))(A:q.objs.list[M]? =aa (.tup [y,.ss (ak w)]))(B:q.objs.list[j1]? =aa (.tup [.str (af "a"),.str (af "&")]))(C:q.objs.list[j2]? =aa (.tup [.str (af "b"),.ss (ak w)]))(D:∀{W:Wd} {V:List Addr} {v:Value},VR W V x v->∃t,v=.str (af "a") t)(H:∀{W:Wd} {V:List Addr} {v:Value},VR W V y v->∃t,v=.str (af "b") t)(z:Good 1000 w):bu G q 2 (.obj U) (.obj q1):=
 bu.lst h1 h (.cons (bu.tup O B (.cons (bu.str D id (λc p=>of_decide_eq_true (bZ.mp (by decide+kernel:((af "a").cps.toList.all λc=>decide (c<0x110000))=ai) c p))) (.cons (bu.str id id (λc p=>of_decide_eq_true (bZ.mp (by decide+kernel:((af "&").cps.toList.all λc=>decide (c<0x110000))=ai) c p))) .nil))) (.cons (bu.tup A C (.cons (bu.str H id (λc p=>of_decide_eq_true (bZ.mp (by decide+kernel:((af "b").cps.toList.all λc=>decide (c<0x110000))=ai) c p))) (.cons (bu.str id id (okW z)) .nil))) .nil))
theorem kI(x:Str)(h:(x.cps.toList.all λc=>decide (c<0x110000))=ai):jn x:=λc y=>of_decide_eq_true (bZ.mp h c y)
include g z k j u
theorem af9:aO (gD W) [jq,vO] ⟨b4 s a m,.b (cN (.obj 9) (yA r w F (vJ s)) (.aJ 5000 0 F []) (ak w)),[]⟩ (ic (gD W) fO):=by
 refine cZ ?_
 rw[af4]
 refine iS (cmp_T (λy=>by kernel_rfl) ?_)
 rw[Ej jq (.inr (.inr rfl))]
 refine xF (by kernel_rfl) (by kernel_rfl) Ek (En _) (El _ _ _ (Lc (by exact Om.Gb u) rfl (Ld _ _ _ _) λc=>?_))
 refine vP (ni W) ?_
 show kG (gD W) (kH jq) ⟨b4 s a m,.b (cN (.obj 9) (yA r w F (vJ s)) (.aJ 5000 0 F []) (ak w)++lP F w c),[]⟩ _
 rw[rCq]
 refine⟨xQ (by kernel_rfl) (bu.up (n:=3) (by decide) (bu.tup (i:=27) (j:=28) (n:=2) (by rfl) (by rfl) (.cons (bu.up (n:=1) (by decide) (bu.pre (F:=F) (n:=0) (by rfl) (by rfl) j .nil)) (.cons (bu.up (n:=0) (by decide) (bu.str (l:=af "P") id id (kI _ (by decide+kernel)))) (.cons (Eo (w:=w) (by rfl) (by rfl) (by rfl) (by rfl) (by rfl) (by rfl) id id z) .nil))))) (mq (λr=>⟨_,r,rfl⟩) (f6 ?_)),trivial⟩
 refine aC.pre (ay.trans (ay.Eg ?_) Em) (afs g z k)
 exact(.cons (.refl _) (.cons (.refl _) (.cons (.refl _) (.cons .gone (.cons (.refl _) (.cons (.refl _) (.cons (.refl _) (.cons (.refl _) (.cons .gone (.cons (.refl _) (.cons .gone (.cons .gone (.cons .gone (.cons (.refl _) (.cons (.refl _) (.cons (.refl _) (.cons (.refl _) (.cons (.refl _) (.cons (.refl _) (.cons (.refl _) (.cons (.refl _) (.cons (.refl _) (.cons .gone (.cons .gone (.cons .gone (.cons .gone (.cons .gone (.cons .gone (.cons .gone .nil)))))))))))))))))))))))))))))
theorem Ep{e:Str}(V:jn e)(p:∀c K,zM [] w m F (F++[e]) 304 a (.aJ 5000 0 (F++[e]) []) c K s e->kG (gD W) (kH iJ) ⟨b4 s a m,.b (cN (.obj 9) (yA [] w F 304) (.aJ 5000 0 (F++[e]) []) (ak w)++lP (F++[e]) w c),[]⟩ K):aO (gD W) [iJ,vL] ⟨b4 s a m,.b (cN (.obj 9) (yA [] w F 304) (.aJ 5000 0 (F++[e]) []) (ak w)),[]⟩ (ic (gD W) fO):=by
 refine cZ ?_
 rw[af2]
 refine iS (cmp_T (λO=>by kernel_rfl) ?_)
 rw[Ej iJ (.inl rfl)]
 have v:(F++[e]).length=F.length+1:=by rw[bK];rfl
 refine xF (by kernel_rfl) (by kernel_rfl) Ek (En _) (El _ _ _ (Lc (by exact Om.Sp u v) rfl (Ld _ _ _ _) λc=>?_))
 have q:∀f∈F++[e],jn f:=λf B=>(jP.mp B).elim (j f) λh=>by rw[d8.mp h];exact V
 refine aC.ent (vP (ni W) (K:=λx y=>x=.obj 31/\y=⟨b4 s a m,.b (cN (.obj 9) (yA [] w F 304) (.aJ 5000 0 (F++[e]) []) (ak w)++(lP (F++[e]) w c++rA F e)),[]⟩) (p c _ ⟨by exact Om.Gd u,⟨rfl,rfl⟩,trivial⟩)) ?_
 rintro x y ⟨rfl,rfl⟩
 refine⟨⟨b4 s a m,.b (cN (.obj 9) (yA [] w F 304) (.aJ 5000 0 (F++[e]) []) (ak w)++(lP (F++[e]) w c++(pA++[.list ah [.str e],.list (aa (.strs (F++[e]))) [],.tup [.obj 30,.str (af "P"),.obj 12]]))),[]⟩,ay.objs (Each.app (cC.all _) (Each.app (cC.all _) (Each.app (cC.all _) (.cons (.refl _) (.cons cC.af7 (.cons (.refl _) .nil)))))),?_⟩
 refine xQ (by kernel_rfl) (bu.up (n:=3) (by decide) (bu.tup (i:=27) (j:=31) (n:=2) (by rfl) (by rfl) (.cons (bu.up (n:=1) (by decide) (bu.pre (F:=F++[e]) (n:=0) (by rfl) (by rfl) q .nil)) (.cons (bu.up (n:=0) (by decide) (bu.str (l:=af "P") id id (kI _ (by decide+kernel)))) (.cons (Eo (w:=w) (by rfl) (by rfl) (by rfl) (by rfl) (by rfl) (by rfl) id id z) .nil))))) (mq (λr=>⟨_,r,rfl⟩) (f6 ?_))
 refine aC.pre (ay.trans (ay.Eg ?_) Em) (afr (r:=[]) ⟨bP _,λc U=>Om.nm U⟩ z k)
 exact(.cons (.refl _) (.cons (.refl _) (.cons (.refl _) (.cons .gone (.cons (.refl _) (.cons (.refl _) (.cons (.refl _) (.cons (.refl _) (.cons .gone (.cons (.refl _) (.cons .gone (.cons .gone (.cons .gone (.cons (.refl _) (.cons (.refl _) (.cons (.refl _) (.cons (.refl _) (.cons (.refl _) (.cons (.refl _) (.cons (.refl _) (.cons (.refl _) (.cons (.refl _) (.cons .gone (.cons .gone (.cons .gone (.cons .gone (.cons .gone (.cons .gone (.cons .gone (.cons .gone (.cons .gone (.cons .gone .nil))))))))))))))))))))))))))))))))
theorem aga:aO (gD W) [iJ,vL] ⟨b4 s a m,.b (cN (.obj 9) (yA [] w F 304) (.aJ 5000 0 (F++[zF s]) []) (ak w)),[]⟩ (ic (gD W) fO):=by
 rcases Om.o3 k with rfl|rfl|rfl
 ·exact Ep g z k j u (kI _ (by decide+kernel)) λc K h=>by rw[afX];exact h
 ·exact Ep g z k j u (kI _ (by decide+kernel)) λc K h=>by rw[afY];exact h
 ·exact Ep g z k j u (kI _ (by decide+kernel)) λc K h=>by rw[afZ];exact h
omit k in
theorem agb:aO (gD W) [jo,vM] ⟨b4 2 a m,.b (cY r w F (.aJ 5000 0 F [.obj 2])),[]⟩ (ic (gD W) fO):=by
 refine cZ ?_
 rw[af3]
 refine iS (cmp_T (λV=>by kernel_rfl) ?_)
 rw[Ej jo (.inr (.inl rfl))]
 refine xF (by kernel_rfl) (by kernel_rfl) Ek (En _) (El _ _ _ (afS (by exact Om.Gb u) ?_))
 refine vP (ni W) ?_
 show kG (gD W) (kH jo) ⟨b4 2 a m,.b (cY r w F (.aJ 5000 0 F [.obj 2])++Ei F w (.cell (aa (.obj 2)))),[]⟩ _
 rw[rBq]
 have x:∀{W:Wd} {y:List Addr} {v:Value},VR W y (.ss (ak [112])) v->∃t,v=.str (af "p") t:=λh=>h
 have p:∀{W:Wd} {y:List Addr} {v:Value},VR W y (.tm (lit [97])) v->∃t,v=.str (af "a") t:=λh=>h
 have q:∀{W:Wd} {y:List Addr} {v:Value},VR W y (.tm (lit [98])) v->∃t,v=.str (af "b") t:=λh=>h
 refine⟨by exact Om.Gd u,xQ (by kernel_rfl) (bu.up (n:=5) (by decide) (bu.tup (i:=28) (j:=32) (n:=4) (by rfl) (by rfl) (.cons (bu.pre (F:=F) (n:=3) (by rfl) (by rfl) j (.cons (bu.tup (i:=27) (j:=29) (n:=2) (by rfl) (by rfl) (.cons (bu.up (n:=0) (by decide) (bu.str (l:=af "p") x id (kI _ (by decide+kernel)))) (.cons (Eo (w:=w) (by rfl) (by rfl) (by rfl) (by rfl) (by rfl) (by rfl) p q z) .nil))) .nil)) (.cons (bu.up (n:=0) (by decide) (bu.str (l:=af "p") x id (kI _ (by decide+kernel)))) (.cons (bu.up (n:=0) (by decide) (bu.str (l:=af "sent") id id (kI _ (by decide+kernel)))) .nil))))) (mq (λr=>⟨_,r,rfl⟩) (f6 ?_)),trivial⟩
 refine aC.pre (ay.trans (ay.Eg ?_) Em) (afq g z)
 exact(.cons (.refl _) (.cons (.refl _) (.cons (.refl _) (.cons .gone (.cons (.refl _) (.cons (.refl _) (.cons .gone (.cons .gone (.cons .gone (.cons (.refl _) (.cons .gone (.cons .gone (.cons .gone (.cons (.refl _) (.cons (.refl _) (.cons (.refl _) (.cons (.refl _) (.cons (.refl _) (.cons (.refl _) (.cons (.refl _) (.cons (.refl _) (.cons (.refl _) (.cons .gone (.cons .gone (.cons .gone (.cons .gone (.cons .gone (.cons .gone (.cons .gone (.cons .gone (.cons .gone (.cons .gone (.cons .gone .nil)))))))))))))))))))))))))))))))))
end
end
section
open Nu St Tb
noncomputable abbrev gN (W:Wd):Gx:=gW W 20 fU.scope [(795,9,pZ)] [] aj
noncomputable abbrev l8 (s a:Nat) (m:List Nat) (V b:Str):List (Str×SV):=[(af "t",.obj 0),(af "state",.int s),(af "faults",.obj 8),(af "value",.ss V),(af "at",.si a),(af "before",.ss b),(af "mended",.ss (ak m))]
noncomputable abbrev nj (y:Nat->SO):List SO:=[y 0,y 1,y 2,y 3,y 4,y 5,y 6,y 7,y 8,y 9]
noncomputable abbrev zO (m:List Nat) (a:Nat):Str:=dc (ak m) (aa ((a:Int)+1)) ah
theorem agc(W:Wd)(s a:Nat)(m:List Nat)(V b:Str)(y:Nat->SO)(K:Fl->SS->Prop):runN (gN W) [lS 8,lS 9,lS 10] ⟨l8 s a m V b,.b (nj y),[]⟩ K=(b.length+V.length<=sizeLine/\(ak m).length<=sizeLine/\b.length+V.length<=sizeLine/\(Good 600 (zO m a).cps.toList/\Good 1000 (b++V).cps.toList)/\K .next ⟨(af "u",.obj 13)::(af "rest",.ss (zO m a))::(af "pairs",.obj 12)::l8 s a m V b,.b (nj y++([.tup [.str (af "a"),.str (af "&")],.tup [.str (af "b"),.ss (b++V)],.list ah [.obj 10,.obj 11]]++(rZ ⟨ah,lit (bG (zO m a).cps.toList),ah⟩ (b++V)).map (fH 13))),[]⟩/\True):=by kernel_rfl
end
section
open Nu St Tb
theorem MO.aJ{M:Wd}{G:List Fact}{H:List Nat}{n k:Nat}{L:List Str}{y O:List SV}(h:Each (MV M G H) y O):MO M G H (.aJ n k L y) (.aJ n k L O):=λ{X A D a l} ok J r=>by
 obtain⟨obs,C,z,e,q,B,f⟩:=r
 exact⟨l,⟨obs,C,z,e,q,B,Each.comp (λp' p q m r=>m ok J r) h f⟩,fY _⟩
theorem MO.flat{M:Wd}{H:List Fact}{L:List Nat}{k:List (Tm×SV)}(h:(k.all λp=>fE p.2)=ai):MO M H L (.bz k) (.bz k):=λ{X G O a l} ok J r=>by
 obtain⟨o,y,e,q,f⟩:=r
 refine⟨l,⟨o,y,e,q,?_⟩,fY _⟩
 exact Each.dS h (λz z p q=>⟨q.k,VR.any p q.v⟩) f
section
variable{W:Wd}{w m:List Nat}(u:Good 1000 w)(x:Good 600 m){s:Nat}(g:s<3){a:Nat}{F:List Str}(Y:∀f∈F,jn f)(v:F.length<=5000)
include u x g Y v
theorem agd(p:a=m.length):Fin (gD W) (lS 11::fO) ⟨b4 s a m,.b (cN (.obj 9) (yA [] w F 304) (.aJ 5000 0 (F++[zF s]) []) (ak w)),[]⟩:=by
 refine Fin.step (λz z z h=>h) ?_
 rw[Lg]
 refine iS (lF (ni W) ?_)
 rw[Lf]
 refine⟨p6 x.z,⟨λq=>?_,λq=>?_⟩,trivial⟩
 ·exact(aga (r:=[]) ⟨bP _,λc O=>Om.nm O⟩ u g Y v).mp λM y k=>k
 ·exact absurd (show(a:Int)=(ak m).length by rw[cP,p]) (of_decide_eq_false q)
omit u Y v in
theorem Lh{c:Nat}(p:m[a]? =aa c){o:OL}(k1:s=2->c=62->aO (gD W) [jo,vM] ⟨b4 2 a m,o,[]⟩ (ic (gD W) fO))(k2:(s=2->c≠62)->aO (gD W) [jq,vO] ⟨b4 s a m,o,[]⟩ (ic (gD W) fO)):Fin (gD W) (lS 11::fO) ⟨b4 s a m,o,[]⟩:=by
 have M:a<m.length:=(dh.mp p).1
 have H:qc m a=decide (c=62):=by
  show seq (eS (ak m) a) _=_
  rw[item_at p]
  exact m9 c 62 _ (by kernel_rfl)
 have wrap:∀{b:List Stmt} {y:SS},aO (gD W) b y (ic (gD W) fO)->aO (gD W) b y (Bm (gD W) [] (ic (gD W) fO)):=λh=>h.mp λG L k=>by
  cases G with
  |next=>exact f6 k
  |_=>exact k
 refine Fin.step (λz z z h=>h) ?_
 rw[Lg]
 refine iS (lF (ni W) ?_)
 rw[Lf]
 refine⟨p6 x.z,⟨λq=>?_,λq=>?_⟩,trivial⟩
 ·have:=of_decide_eq_true q
  rw[cP] at this
  exact absurd (sW this) (fQ M)
 ·refine cZ ?_
  rw[af5]
  refine iS (lF (ni W) ?_)
  rcases Om.o3 g with rfl|rfl|rfl
  ·rw[afU]
   have O:=wrap (k2 λh=>by cases h)
   exact⟨sq p x.z,⟨λz=>⟨O,trivial⟩,λz=>⟨O,trivial⟩⟩⟩
  ·rw[afV]
   have O:=wrap (k2 λh=>by cases h)
   exact⟨sq p x.z,⟨λz=>⟨O,trivial⟩,λz=>⟨O,trivial⟩⟩⟩
  ·rw[afW,H]
   exact⟨sq p x.z,⟨λh=>⟨wrap (k1 rfl (of_decide_eq_true h)),trivial⟩,λh=>⟨wrap (k2 λz=>of_decide_eq_false h),trivial⟩⟩⟩
end
theorem age(m:List Nat)(a:Nat):zO m a=ak (m.drop (a+1)):=xY m (a+1)
section
variable{W:Wd}{b V m:List Nat}(u:Good 1000 (b++V))(x:Good 600 m)(j:13∉m){s a:Nat}
include u x j
theorem Er{y:Nat->SO}(k:Fin (gD W) (lS 11::fO) ⟨b4 s a m,.b (nj y++(zK (b++V)++(yU (m.drop (a+1)) (b++V)).map (fH 13))),[]⟩):Fin (gN W) ([lS 8,lS 9,lS 10]++(lS 11::fO)) ⟨l8 s a m (ak V) (ak b),.b (nj y),[]⟩:=by
 have v:=u.z
 rw[bK] at v
 have q:200000<=sizeLine:=by rw[sizeLine_eq];decide
 refine Fin.app (λz z z h=>h) (fu (sy (bM (DQ W) jH)) ?_)
 rw[agc,age,sr]
 have M:Good 600 (m.drop (a+1)):=⟨by rw[iu];have:=x.z;exact aq (jy _ _) this,λc O=>x.c c (sV _ _ O)⟩
 have p:bG (m.drop (a+1))=m.drop (a+1):=Kq λh=>j (sV _ _ h)
 refine⟨by rw[cP,cP];exact Om.Ge v q,p6 x.z,by rw[cP,cP];exact Om.Ge v q,⟨M,u⟩,?_,trivial⟩
 show Fin (gN W) (lS 11::fO) ⟨_,.b (nj y++(zK (b++V)++(rZ ⟨ah,lit (bG (m.drop (a+1))),ah⟩ (ak (b++V))).map (fH 13))),[]⟩
 rw[p]
 refine Fin.con (con':=[]) (Fin.less (ay.pk ?_) k)
 exact p7 (by kernel_rfl)
end
end
section
open Nu St Tb
noncomputable abbrev qd:List Stmt:=[lS 8,lS 9,lS 10]++(lS 11::fO)
noncomputable def yQ (r w:List Nat) (F:List Str) (q:SO) (f:Addr) (i:Nat):SO:=(([lO (.obj 9),.blob (.strm ⟨ah,lit r,ah⟩),fm,q,.list ah [],d7,cM,iI (ak w),.list (aa (.strs F)) [],.aI f (.obj 0)]):List SO).getD i .gone
noncomputable def yS (r w:List Nat) (F:List Str) (i:Nat):SO:=(([lO (.obj 9),.blob (.strm ⟨ah,lit r,ah⟩),Ef,.aJ 5000 0 F [.obj 2],.list ah [],vK (ak w),.gone,.gone,.list (aa (.strs F)) [],.aI 304 (.obj 0)]):List SO).getD i .gone
noncomputable abbrev jr (k:Nat):List Nat:=[0,1,2,3,4,5,6,7,8,9+k]
theorem agf(k:Nat):(jr k).Nodup:=by
 show([0,1,2,3,4,5,6,7,8]++[9+k]).Nodup
 rw[E4]
 refine⟨by decide,by simp,?_⟩
 intro a q b v e
 exact nC.mpr (bL 9 k) (d8.mp v▸e▸(by decide:∀a∈[0,1,2,3,4,5,6,7,8],a<9) a q)
section
variable{W:Wd}{b V m:List Nat}(x:Good 1000 (b++V))(z:Good 600 m)(y:13∉m){s:Nat}(u:s<3){a n:Nat}{F:List Str}(j:∀f∈F,jn f)(p:F.length<=5000)
theorem pickK{st:bQ}{r:List Nat}{v:List Str}{f:Addr}{k:Nat}{X:List SO}(U:∀q,st.r.ev q=r)(O:X[k]? =aa (SO.aI f (.obj 0)))(Y:Fin (gN W) qd ⟨l8 s a m (ak V) (ak b),.b (nj (yQ r (b++V) F (.aJ 5000 0 v []) f)),[]⟩):
 Fin (gT W) qd ⟨bN s (lN n a (ak V) (ak b) m),.b (tL (.obj (9+k)) st v (ak b++ak V) (.list (aa (.strs F)) []::X)),[]⟩:=by
 rw[sr]
 refine Fin.pick (W0:=W) (js:=jr k) (objs':=nj (yQ r (b++V) F (.aJ 5000 0 v []) f)) ?_ ?_ (agf k) (λf B=>Om.nm B) Y
 ·have C:Each (MF W [] (jr k)) ck ck:=((allM _ (mF W [] (jr k)) ck ck).get (by kernel_rfl)).1
  have D:Each (MF W [] (jr k)) cK cK:=((allM _ (mF W [] (jr k)) cK cK).get (by kernel_rfl)).1
  have H:MO W [] (jr k) (lO (.obj 9)) (lO (.obj (9+k))):=MO.inst (fs':=ck++(af "state",.obj 9)::cK) (fs:=ck++(af "state",.obj (9+k))::cK) (Each.app C (.cons ⟨rfl,MV.obj rfl⟩ D))
  have L:MO W [] (jr k) fm fm:=((mO W [] (jr k) fm fm).get (by kernel_rfl)).1
  have G:MO W [] (jr k) d7 d7:=((mO W [] (jr k) d7 d7).get (by kernel_rfl)).1
  have M:MO W [] (jr k) cM cM:=((mO W [] (jr k) cM cM).get (by kernel_rfl)).1
  refine .cons ⟨_,rfl,H⟩ (.cons ⟨_,rfl,MO.strm (r':=lit r) (st:=st) λq A=>(U q).symm⟩ (.cons ⟨_,rfl,L⟩ (.cons ⟨_,rfl,MO.aJ .nil⟩ (.cons ⟨_,rfl,MO.list .nil⟩ (.cons ⟨_,rfl,G⟩ (.cons ⟨_,rfl,M⟩ (.cons ⟨_,rfl,MO.list (.cons (MV.flat rfl) (.cons (MV.flat rfl) .nil))⟩ (.cons ⟨_,rfl,MO.su⟩ (.cons ⟨_,?_,MO.aI (MV.obj rfl)⟩ .nil)))))))))
  show(tL (.obj (9+k)) st v (ak (b++V)) (.list (aa (.strs F)) []::X))[9+k]? =_
  rw[show(tL (.obj (9+k)) st v (ak (b++V)) (.list (aa (.strs F)) []::X))=(tL (.obj (9+k)) st v (ak (b++V)) [.list (aa (.strs F)) []])++X from by rw[bY];rfl,dY (by show 9<=9+k;exact bL 9 _)]
  show X[9+k-9]? =_
  rw[jN];exact O
 ·exact bM ⟨_,by kernel_rfl,MV.obj rfl⟩ (bM ⟨_,by kernel_rfl,MV.flat rfl⟩ (bM ⟨_,by kernel_rfl,MV.obj rfl⟩ (zy (by kernel_rfl) (by kernel_rfl))))
noncomputable abbrev n6:List Nat:=[0,1,2,3,4,10,5,6,8,11]
theorem agg(O:gJ W.η){st:bQ}{r:List Nat}(U:∀k,st.r.ev k=r)(Y:Fin (gN W) qd ⟨l8 2 a m (ak V) (ak b),.b (nj (yS r (b++V) F)),[]⟩):
 Fin (gT W) qd ⟨bN 2 (lN n a (ak V) (ak b) m),.b (D9 (.obj 11) st F (ak b++ak V) (.obj 10) [.list (aa (.strs F)) [],.aI 577 (.obj 0),vK (ak b++ak V),.aI 304 (.obj 0)]),[]⟩:=by
 rw[sr]
 refine Fin.pick (W0:=W) (js:=n6) (objs':=nj (yS r (b++V) F)) ?_ ?_ (by decide) (λf B=>Om.nm B) Y
 ·have G:Each (MF W [] n6) ck ck:=((allM _ (mF W [] n6) ck ck).get (by kernel_rfl)).1
  have H:Each (MF W [] n6) cK cK:=((allM _ (mF W [] n6) cK cK).get (by kernel_rfl)).1
  have L:MO W [] n6 (lO (.obj 9)) (lO (.obj 11)):=MO.inst (fs':=ck++(af "state",.obj 9)::cK) (fs:=ck++(af "state",.obj 11)::cK) (Each.app G (.cons ⟨rfl,MV.obj rfl⟩ H))
  have nm:MV W [] n6 (.ss (ak [112])) (.tm zN):=λ{D q v} ok J r=>by
   obtain⟨t,rfl⟩:=r
   refine⟨t,?_⟩
   show Fp (ak (W.η.f 11 [80])) t=_
   rw[O.low];rfl
  have M:MO W [] n6 Ef (.dict [(af "type",.int 3),(af "name",.tm zN),(af "data",.obj 10),(af "selfClosing",.bool aj)]):=MO.dict (fs':=[(af "type",.int 3),(af "name",.ss (ak [112])),(af "data",.obj 5),(af "selfClosing",.bool aj)]) (fs:=[(af "type",.int 3),(af "name",.tm zN),(af "data",.obj 10),(af "selfClosing",.bool aj)]) (.cons ⟨rfl,MV.flat rfl⟩ (.cons ⟨rfl,nm⟩ (.cons ⟨rfl,MV.obj rfl⟩ (.cons ⟨rfl,MV.flat rfl⟩ .nil))))
  exact .cons ⟨_,rfl,L⟩ (.cons ⟨_,rfl,MO.strm (r':=lit r) (st:=st) λk C=>(U k).symm⟩ (.cons ⟨_,rfl,M⟩ (.cons ⟨_,rfl,MO.aJ (.cons (MV.obj rfl) .nil)⟩ (.cons ⟨_,rfl,MO.list .nil⟩ (.cons ⟨_,rfl,MO.flat rfl⟩ (.cons ⟨_,rfl,MO.gone⟩ (.cons ⟨_,rfl,MO.gone⟩ (.cons ⟨_,rfl,MO.su⟩ (.cons ⟨_,rfl,MO.aI (MV.obj rfl)⟩ .nil)))))))))
 ·exact bM ⟨_,by kernel_rfl,MV.obj rfl⟩ (bM ⟨_,by kernel_rfl,MV.flat rfl⟩ (bM ⟨_,by kernel_rfl,MV.obj rfl⟩ (zy (by kernel_rfl) (by kernel_rfl))))
include x z y u j p
theorem agh(ha:gJ W.η)(kf:Kf W)(g0:bw (gT W)){R:List Nat}{v:Value}(hC:Cut s m V F n R)(hn:n<=100000):Fin (gT W) (lS 7::qd) ⟨bN s (lN n (m.length-R.length) (ak V) (ak b) m),.b (tL (.val v) ⟨ah,lit m,ah⟩ [] (ak b) [.list (aa (.strs F)) []]),[]⟩:=by
 have G:=x.z
 rw[bK] at G
 have hR:=(hC.ok u z).r
 have e1:=hR.length_le
 have U:R=m.drop (m.length-R.length):=ahA.mp hR
 refine Fin.step (λO O O h=>h) (afi g0 u hC z y (by rw[cP];exact aq G (aB rfl)) p hn (λY k X B=>?_) (λM Y q=>?_) (λc M k X Y A B=>?_))
 ·subst Y
  refine pickK (r:=[]) (λO=>rfl) B (Er x z y ?_)
  have e:m.drop (m.length-([]:List Nat).length+1)=[]:=v8 (by show m.length<=m.length-0+1;exact eg _)
  rw[e]
  exact agd x z u j p rfl
 ·subst q
  have L:m[m.length-R.length]? =aa 62:=by rw[<-wo,<-U,Y];rfl
  have H:M=m.drop (m.length-R.length+1):=by rw[<-jv,<-U,Y];rfl
  have D:Good 600 M:=⟨by rw[H,iu];have:=z.z;exact aq (jy _ _) this,λc C=>z.c c (sV _ _ (H▸C))⟩
  refine agg ha (r:=M) (λO=>rfl) (Er x z y ?_)
  rw[<-H]
  exact Lh z u L (λO O=>agb D x j p) λh=>absurd rfl (h rfl)
 ·have L:m[m.length-R.length]? =aa c:=by rw[<-wo,<-U,Y];rfl
  have H:M=m.drop (m.length-R.length+1):=by rw[<-jv,<-U,Y];rfl
  have D:Good 600 M:=⟨by rw[H,iu];have:=z.z;exact aq (jy _ _) this,λc C=>z.c c (sV _ _ (H▸C))⟩
  refine pickK (r:=M) (λO=>rfl) B (Er x z y ?_)
  rw[<-H]
  exact Lh z u L (λh1 h2=>absurd h2 (A h1)) λO=>af9 D x u j p
end
end
section
open Nu St Tb
noncomputable def vQ:bg:=λv u K=>match v with
 |[x,y]=>@aY _ (λz=>Tr) .ff (λa=>@aY _ (λz=>Tr) .ff (λs=>
   .pr (s.1<3/\Good 600 a.1.cps.toList/\13∉a.1.cps.toList) (.pr (∀V F n R,Cut s.1 a.1.cps.toList V F n R->(K (.obj (u.objs.list.length+1)) ⟨u.loc,.b (u.objs.list++[.list (aa (.strs F)) [],.tup [.ss (ak V),.obj (u.objs.list.length+0),.si n,.si (a.1.cps.toList.length-R.length:Nat)]]),u.fa⟩).h) .tt)) (natE y)) (bD x)
 |_=>.ff
set_option tactic.hygienic true in
theorem agi(W:Wd)(p:gJ W.η)(A:Kf W):dm (WS W) (819,13,vQ):=λG L M Y v j K h=>by
 have z:(vQ v j K).h:=h
 unfold vQ at z
 split at z
 ·rename_i x y
  cases q:bD x with
  |none=>rw[q] at z;exact z.elim
  |some a=>
   rw[q] at z
   cases q2:natE y with
   |none=>rw[q2] at z;exact z.elim
   |some s=>
    rw[q2] at z
    obtain⟨s,rfl⟩:=s
    obtain⟨⟨k,u,O⟩,m,_⟩:=z
    obtain⟨⟨⟨l⟩⟩,g⟩:=a
    obtain⟨V,F,n,R,U⟩:=ad5 k _ l (aH _) u
    have m:=m V F n R U
    refine av.conv (xs':=[.ss (ak l),.int s]) (λH D r=>?_) (afa p A L M Y k u O U m)
    cases r using Each.ec with
    |cons r1 r=>exact .cons (g r1) r
 ·exact z.elim
noncomputable abbrev gK (W:Wd):Gx:=gW W 20 fU.scope [(819,13,vQ),(795,9,pZ)] [] aj
noncomputable abbrev l4 (s:Nat) (m l b:List Nat):List (Str×SV):=[(af "mended",.ss (ak m)),(af "text",.ss (ak l)),(af "before",.ss (ak b)),(af "state",.int s)]
noncomputable abbrev l6 (s:Nat) (m l b V:List Nat) (n a:Nat):List (Str×SV):=(af "t",.obj 2)::(af "at",.si a)::(af "pieces",.si n)::(af "faults",.obj 0)::(af "value",.ss (ak V))::l4 s m l b
theorem e56(W:Wd)(s:Nat)(m l b:List Nat)(K:Fl->SS->Prop):runN (gK W) [lS 5,lS 6] ⟨l4 s m l b,.b [],[]⟩ K=((s<3/\Good 600 m/\13∉m)/\(∀V F n R,Cut s m V F n R->(Good 600 l/\Good 1000 b)/\K .next ⟨l6 s m l b V n (m.length-R.length),.b ([.list (aa (.strs F)) [],.tup [.ss (ak V),.obj 0,.si n,.si (m.length-R.length:Nat)]]++(rZ ⟨ah,lit (bG l),ah⟩ (ak b)).map (fH 2)),[]⟩/\True)/\True):=by kernel_rfl
end
section
open Nu St Tb
theorem agk(k:Nat):∀f∈gH k,jn f:=by
 have h:∀k,((gH k).all λf=>f.cps.toList.all λc=>decide (c<0x110000))=true:=λk=>by
  match k with
  |0|1|2|3|4|5|6|_+7=>kernel_rfl
 exactλf B=>kI f (bZ.mp (h k) f B)
theorem agl{s c:Nat}{T:List Nat}:∀f∈(c9 s c T).f,jn f:=by
 unfold c9
 split
 ·exact agk _
 split
 ·exactλf B=>by rw[d8.mp B];exact kI _ (by decide+kernel)
 split
 ·exactλf B=>by rw[d8.mp B];exact kI _ (by decide+kernel)
 ·exactλf B=>Om.nm B
theorem Cut.okS{s:Nat}{L V:List Nat}{F:List Str}{n:Nat}{R:List Nat}(h:Cut s L V F n R):∀f∈F,jn f:=by
 induction h with
 |nil=>exactλf B=>Om.nm B
 |fin=>exactλf B=>Om.nm B
 |more c T h q p=>exactλf B=>(jP.mp B).elim (agl f) (p f)
theorem MO.DY{M:Wd}{k:List Fact}{p:List Nat}:MO M k p (.aJ 5000 0 [] []) (.list ah []):=λ{X V x a l} ok J r=>by
 obtain⟨v,L,n,e,q,f⟩:=r
 obtain rfl:v=[]:=q
 cases f
 exact⟨l,⟨[],[],n,e,.nil,bP _,.nil⟩,fY _⟩
theorem Fin.val{G:Gx}{b:List Stmt}{q:SS}{i:Nat}{C:Addr}{A B:List (Str×SV)}{n:Str}{x:SV}(k:q.objs.list[i]? =aa (.inst C (A++(n,x)::B)))(h:∀v,Fin G b ⟨q.loc,OL.s q.objs i (.inst C (A++(n,.val v)::B)),q.fa⟩):Fin G b q:=.mk λc p s a=>by
 obtain⟨v,R⟩:=a.toRepS.val k
 exact(h v).go c p s (a.to (pr _) R)
theorem agn{W:Wd}(u:gJ W.η)(y:Kf W):bw (gT W):=sy (bM (JK W) (bM (KH W) (bM (KG W y ai) (bM (Jt W u.low) jH))))
noncomputable abbrev lQ (x:List (Str×SV)):List (Str×SV):=x.map λp=>(p.1,iX 2 p.2)
noncomputable abbrev jL:List Nat:=[2,3,4,5,6,7,8,9,0]
section
variable{W:Wd}(u:gJ W.η)(y:Kf W){s:Nat}(j:s<3){l b m:List Nat}(U:Good 600 l)(g:Good 2 b)(e:bG l=m)(Y:Good 48 m)(z:13∉m)
include u y j U g e Y z
theorem ago:Fin (gK W) ([lS 5,lS 6]++(lS 7::qd)) ⟨l4 s m l b,.b [],[]⟩:=by
 have q:Good 600 m:=Y.le (by decide)
 refine Fin.app (λM M M h=>h) (fu (sy (bM (agi W u y) (bM (DQ W) jH))) ?_)
 rw[e56,e]
 refine⟨⟨j,q,z⟩,λV F n R L=>⟨⟨U,g.le (by decide)⟩,?_,trivial⟩,trivial⟩
 have ok:=L.ok j q
 have k:=Y.z
 have z1:=ok.v.z
 have p:=ok.f
 have H:=ok.n
 have z4:=g.z
 have D:Good 1000 (b++V):=(g.app ok.v).le (by exact Om.Sq k)
 refine Fin.val (G:=gK W) (i:=2) (C:=762) (A:=lQ ck) (B:=lQ cK) (n:=af "state") (x:=.obj 10) rfl λv=>?_
 refine Fin.pick (W0:=W) (js:=jL) (con':=KI W.η) (objs':=tL (.val v) ⟨ah,lit m,ah⟩ [] (ak b) [.list (aa (.strs F)) []]) ?_ ?_ (by decide) (λf hf=>Om.nm hf) (agh D q z j L.okS (by exact Om.Ss k p) u y (agn u y) L (by exact Om.Su k H))
 ·have fA:Each (MF W [] jL) ck (lQ ck):=((allM _ (mF W [] jL) ck (lQ ck)).get (by kernel_rfl)).1
  have fB:Each (MF W [] jL) cK (lQ cK):=((allM _ (mF W [] jL) cK (lQ cK)).get (by kernel_rfl)).1
  have h0:MO W [] jL (.inst 762 (ck++(af "state",.val v)::cK)) (.inst 762 (lQ ck++(af "state",.val v)::lQ cK)):=MO.inst (fs':=ck++(af "state",.val v)::cK) (fs:=lQ ck++(af "state",.val v)::lQ cK) (Each.app fA (.cons ⟨rfl,MV.flat rfl⟩ fB))
  have h2:MO W [] jL fm (fH 2 fm):=((mO W [] jL fm (fH 2 fm)).get (by kernel_rfl)).1
  have h5:MO W [] jL d7 (fH 2 d7):=((mO W [] jL d7 (fH 2 d7)).get (by kernel_rfl)).1
  have h6:MO W [] jL cM (fH 2 cM):=((mO W [] jL cM (fH 2 cM)).get (by kernel_rfl)).1
  exact .cons ⟨_,rfl,h0⟩ (.cons ⟨_,rfl,MO.strm (r':=lit m) (st:=⟨ah,lit m,ah⟩) λO M=>rfl⟩ (.cons ⟨_,rfl,h2⟩ (.cons ⟨_,rfl,MO.DY⟩ (.cons ⟨_,rfl,MO.list .nil⟩ (.cons ⟨_,rfl,h5⟩ (.cons ⟨_,rfl,h6⟩ (.cons ⟨_,rfl,MO.list (.cons (MV.flat rfl) (.cons (MV.flat rfl) .nil))⟩ (.cons ⟨_,rfl,MO.su⟩ .nil))))))))
 ·exact bM ⟨_,by kernel_rfl,MV.obj rfl⟩ (bM ⟨_,by kernel_rfl,MV.flat rfl⟩ (bM ⟨_,by kernel_rfl,MV.flat rfl⟩ (bM ⟨_,by kernel_rfl,MV.obj rfl⟩ (zy (by kernel_rfl) (by kernel_rfl)))))
end
end
section
open Nu St Tb
theorem At.name{G:Gx}{c:Cx}{p:List Addr}{z:SS}{s:Shared}(a:At G c p z s){n:Str}{x:SV}{q:Pos}(y:seq n "__debug__"=aj)(Y:lk n G.cs.names=some .local)(j:lk n z.loc=aa x){Q:Value->Shared->Prop}{E:Value->Shared->Prop}(k:∀v,VR G.D p x v->Q v s):wpAny G.D.M c.A (eval (.Name n q) c.env) Q E s:=by
 obtain⟨m,⟨A,ad,C,l2,g,h,F,N⟩,V⟩:=a.R
 obtain⟨v,B,u⟩:=V n x j
 exact wpAny_Name (wpAny_loadName_local a.ok.hk.kind (a.kind Y) (by rw[a.ok.hk.loc];exact F.ns) B (k v u)) (by rw[kQ];exact y)
inductive qe (K:Frag) (a:Addr) (ns:List Int):Prop
 |mk (vs:List Value) (o:Obj) (n:Nat) (h1:K.lookup a=aa o) (hc:o.cls=.type "list") (y:o.data=.seq vs.toArray n) (h2:Each qC ns vs)
noncomputable def iK (ns:List Int):List Int:=(ns.drop 1).take 8
theorem Each.dr{q u:Type}{R:q->u->Prop}{v:List q}{m:List u}(h:Each R v m):∀n,Each R (v.drop n) (m.drop n):=by
 induction h with
 |nil=>intro n;cases n<;>exact .nil
 |cons a b p=>intro n;cases n with
  |zero=>exact .cons a b
  |succ n=>exact p n
theorem agp(n:Nat)(q:List Value)(h:q.length=n):((q.drop (min 1 n)).take (min 9 n-min 1 n))=(q.drop 1).take 8:=by
 rcases Nat.eq_zero_or_pos n with h0|h0
 ·subst h0
  obtain rfl:q=[]:=ahB.mp h
  rfl
 ·rw[i0 h0]
  rcases MI 9 n with h2|h2
  ·rw[i0 h2]
  ·rw[E6 h2,iL (by rw[iu];exact aK (congrArg (· -1) h)),iL (by rw[iu];exact Om.Sv h h2)]
theorem agq{W:Wd}{v:List Addr}{ns:List Int}{q:List Value}(h:Each qC ns q):aM W v (ns.map .si) q:=Each.map (λu u r=>r) h
section
variable{G:Gx}{z:SS}{a:Addr}{ns:List Int}{x:Str}
theorem qe.list(h:qe G.D.K a ns){c:Cx}{p:List Addr}{s:Shared}(at_:At G c p z s):∃q:List Value,s.heap.IsList a q.toArray/\Each qC ns q:=by
 obtain⟨q,o,n,m,g,y,u⟩:=h
 exact⟨q,⟨_,at_.X _ _ m,g,n,y⟩,u⟩
variable(U:qe G.D.K a ns)(V:ns.length<=1000)(y:seq x "__debug__"=aj)(Y:lk x G.cs.names=some .local)(j:lk x z.loc=aa (.val (.ref a)))
include U V y Y j
theorem agr{p1 p2 p3 p4 p5 B:Pos}{k1 k2:Nat}{K:SV->SS->Prop}(k:K (.si (ns.headD 0)) z):aA G (.IfExp (.Name x p1) (.Subscript (.Name x p2) (.Constant (.int 0) k1 p3) p4) (.Constant (.int 0) k2 p5) B) z K:=by
 have cI:∀{k p} {K:SV->SS->Prop},K (.int 0) z->aA G (.Constant (.int 0) k p) z K:=λh c ρ s g a g=>wpAny_Constant_int (a.t1.give (V:=VR _) (x:=.int 0) (pr _) ⟨_,rfl⟩ h)
 refine GV (GY ((GX (.Name x p1)).get rfl).1 (fS y Y j ?_))
 intro c ρ s v at_ r
 obtain rfl:=r
 obtain⟨q,C,A⟩:=U.list at_
 have m:ns.length=q.length:=Each.len A
 refine wpAny_truthy_list C (by simp;exact Om.L1 V m) (at_.t2.tell (z:=.bool (!ns.isEmpty)) ?_ ?_)
 ·show(!(q.toArray.isEmpty))=!ns.isEmpty
  cases ns<;>cases q<;>first|rfl|cases m
 ·cases ns with
  |nil=>exact aA.ph (cI ⟨.si 0,_,λg g r=>r,λg g g R=>R,k⟩)
  |cons n ns=>
   refine qO (fS y Y j (cI (.mk λc ρ s v u at_ r w=>?_)))
   obtain rfl:=r
   obtain⟨tk,rfl⟩:=w
   obtain⟨q,C,A⟩:=U.list at_
   cases A using Each.ec with
   |@cons v q h3 _=>
    obtain⟨t,rfl⟩:=h3
    exact tail_any C.typeIs slot_list_getitem.lookup (wpAny_getItem_list (k:=0) C (by decide) (by decide) (by simp) (at_.give (V:=VR G.D) (x:=.si n) (pr _) ⟨t,rfl⟩ k)) ((fM rfl).sub _ _)
theorem ags{p1 p2 p3 p4 pos:Pos}{k1 k2:Nat}{K:SV->SS->Prop}(k:K (.obj z.objs.length) ⟨z.loc,OL.a z.objs (.list ah ((iK ns).map .si)),z.fa⟩):aA G (.Subscript (.Name x p1) (.Slice (aa (.Constant (.int 1) k1 p2)) (aa (.Constant (.int 9) k2 p3)) ah p4) pos) z K:=λc ρ s qq a qq=>by
 refine Subscript_ (a.name y Y j λv q=>?_)
 obtain rfl:=q
 refine wpAny_Slice (wpAny_Constant_int (k:=k1) (pos:=p2) (wpAny_Constant_int (k:=k2) (pos:=p3) (wpAny_pure ?_)))
 have h:=a.t2.push {cls:=.type "slice",data:=.fields #[.int 1 s.toks,.int 9 (s.toks+1),.none]}
 obtain⟨C,hL,h2⟩:=U.list h
 have u:ns.length=C.length:=Each.len h2
 have B:slicePick C.toArray (aa (1:Int)) (aa (9:Int)) ah=((C.drop 1).take 8).toArray:=by
  rw[slicePick_plain]
  simp only[Option.elim]
  rw[show(1:Int)=((1:Nat):Int) from rfl,show(9:Int)=((9:Nat):Int) from rfl,clipAt_nat,clipAt_nat]
  rw[show C.toArray.size=C.length from qo,agp C.length C rfl]
 refine kba_turn (value':=PySem.Expr.Name (PySem.Str.ofString "_") ⟨0,0,0,0⟩) (λqq=>rfl) ?_
 refine subscriptTail_ops (Heap.IsList.typeIs (s:={s with toks:=s.toks+1+1,heap:=s.heap.push {cls:=.type "slice",data:=.fields #[.int 1 s.toks,.int 9 (s.toks+1),.none]}}) hL) list_getitem_lookup
  (wpAny_getItem_list_slice hL (Heap.IsSliceOf.new ..) (.int 1 _) (.int 9 _) .none (by decide) ?_ (by rw[qo,<-u,sizeLine_eq];exact Om.Sb V u)) rfl (λqq=>rfl)
 rw[B]
 obtain⟨m,⟨ls,ad,l1,l2,g,gr,F,N⟩,A⟩:=h.R
 exact h.made ad l1 l2 gr A (F.push _) (N.push F _) (λp hp=>dN (N p hp).1) (x:=.list ah ((iK ns).map .si)) (kT.mk [] _ 0 rfl rfl (agq (Each.tV (h2.dr 1) 8))) (h.tp.to (aH _)) (pr _) k
end
end
section
open Nu St Tb
noncomputable abbrev kid (e:Expr) (i:Nat):Expr:=(eK e).getD i e
noncomputable abbrev aE (i:Nat):Expr:=cV (lS i)
noncomputable abbrev slA (e:Expr):Expr:=eU e 0
noncomputable abbrev slB (e:Expr):Expr:=eU e 1
noncomputable abbrev c7 (x:String):Str:=af x
theorem Es{G:Gx}{i:Int}{k:Nat}{v:Pos}{y:SS}{K:SV->SS->Prop}(h:K (.int i) y):aA G (.Constant (.int i) k v) y K:=λc u s z a z=>wpAny_Constant_int (a.t1.give (V:=VR _) (x:=.int i) (pr _) ⟨_,rfl⟩ h)
theorem Et{x y:SV}{i:Int}:bx (Ex.stI x y i) i:=λ{W z v} r=>by
 unfold Ex.stI at r
 cases h:dQ x y<;>rw[h] at r<;>exact r
theorem agv{G:Gx}{z:SS}{K:SV->SS->Prop}{i:Nat}{ys:List Str}{y:SV}{j:Int}{p v:Expr}(h:dK v)(u:z.objs.list[i]? =aa (.list ah (ys.map .str)))(g:bx y j)(m:ys.length<=1000)(q:0<=j)(x:j<ys.length)(k:K (.str (ys.getD j.toNat ⟨#[]⟩)) z):aG G (subscriptTail p v) (.obj i) y z K:=by
 have Y:j.toNat<ys.length:=by exact(Ai q).mpr x
 exact Bg h u (GP g u q (by exact Om.Sw m x) (by rw[sQ,sM,ig Y];rfl) k)
theorem Li(x:Int):0<=x.fmod 3/\x.fmod 3<3:=⟨LL x (by decide),Ma x (by decide)⟩
theorem Eu(x:Int):0<=x.fmod 4/\x.fmod 4<4:=⟨LL x (by decide),Ma x (by decide)⟩
theorem Lj{n:Str}{x:SV}{l:List (Str×SV)}:lk n ((n,x)::l)=aa x:=by rw[bW,if_pos rfl]
noncomputable def lR (ns:List Int):Int:=ns.headD 0
noncomputable def sD (ns:List Int):Nat:=((lR ns).fmod 3).toNat
theorem agw(ns:List Int):sD ns<3:=by have:=Li (lR ns);unfold sD;exact(Ai this.1).mpr this.2
theorem agx(ns:List Int):((sD ns:Nat):Int)=(lR ns).fmod 3:=by have:=Li (lR ns);unfold sD;exact Int.toNat_of_nonneg this.1
noncomputable def vR:List Str:=[af "",af "v",af "&",af "\x00 "]
noncomputable def qg (ns:List Int):Str:=vR.getD (((lR ns).fdiv 3).fmod 4).toNat ⟨#[]⟩
theorem agy:lS 0=.Assign [.Name (c7 "way") (jf (lS 0))] (.IfExp (.Name (c7 "script") (kid (aE 0) 0).pos) (.Subscript (.Name (c7 "script") (kid (kid (aE 0) 1) 0).pos) (.Constant (.int 0) 0 (kid (kid (aE 0) 1) 1).pos) (kid (aE 0) 1).pos) (.Constant (.int 0) 0 (kid (aE 0) 2).pos) (aE 0).pos) (lS 0).pos:=by kernel_rfl
theorem v1(W:Wd)(w:Int)(X:List (Str×SV))(o:OL)(K:Fl->SS->Prop):nT (gD W) (lS 1) ⟨(c7 "way",.si w)::X,o,[]⟩ K=(K .next ⟨(c7 "state",.si (w.fmod 3))::(c7 "way",.si w)::X,o,[]⟩/\True):=by kernel_rfl
theorem agz:lS 2=.Assign [.Name (c7 "before") (jf (lS 2))] (.Subscript (.List [.Constant (.str (c7 "")) 0 (kid (kid (aE 2) 0) 0).pos,.Constant (.str (c7 "v")) 0 (kid (kid (aE 2) 0) 1).pos,.Constant (.str (c7 "&")) 0 (kid (kid (aE 2) 0) 2).pos,.Constant (.str (c7 "\x00 ")) 0 (kid (kid (aE 2) 0) 3).pos] (kid (aE 2) 0).pos) (.BinOp (.BinOp (.Name (c7 "way") (kid (kid (kid (aE 2) 1) 0) 0).pos) .FloorDiv (.Constant (.int 3) 0 (kid (kid (kid (aE 2) 1) 0) 1).pos) (kid (kid (aE 2) 1) 0).pos) .Mod (.Constant (.int 4) 0 (kid (kid (aE 2) 1) 1).pos) (kid (aE 2) 1).pos) (aE 2).pos) (lS 2).pos:=by kernel_rfl
noncomputable abbrev L2 (a:Addr) (ns:List Int):List (Str×SV):=[(c7 "script",.val (.ref a)),(c7 "before",.ss (ak (qg ns).cps.toList)),(c7 "state",.int (sD ns))]
theorem agA{W:Wd}{a:Addr}{ns:List Int}(y:qe W.K a ns)(v:ns.length<=1000){q:List Stmt}(k:∀os:OL,Fin (gD W) q ⟨L2 a ns,os,[]⟩):
 Fin (gD W) (lS 0::lS 1::lS 2::q) ⟨[(c7 "script",.val (.ref a))],.b [],[]⟩:=by
 refine Fin.step (λz z z h=>h) ?_
 rw[agy]
 refine jD (fM rfl) (by kernel_rfl) (agr (ns:=ns) y v (by kernel_rfl) (by kernel_rfl) (by kernel_rfl) ?_)
 refine Fin.step (λz z z h=>h) (rD (ni W) ?_)
 rw[v1]
 refine⟨Fin.step (λz z z h=>h) ?_,trivial⟩
 rw[agz]
 refine jD (fM rfl) (by kernel_rfl) (qO (Bu (lg (fM rfl).star (rC (lg (fM rfl).star (rC (lg (fM rfl).star (rC (lg (fM rfl).star (rC (kZ ⟨rfl,?_⟩)))))))))))
 refine xw (xw (fS (x:=.si (lR ns)) (by kernel_rfl) (by kernel_rfl) (by kernel_rfl) (Es (GI (a:=lR ns) (b:=3) (λr=>r) (λr=>r) rfl (by kernel_rfl) (Es (Bc (a:=(lR ns).fdiv 3) (b:=4) Et (λr=>r) rfl ?_))))))
 refine agv (ys:=vR) (fM rfl) (OL.yz _ _) Et (by decide) (Eu _).1 (Eu _).2 ?_
 have u:ak (qg ns).cps.toList=qg ns:=gj rfl
 refine Fin.less (G:=gD W) (ay.pk ?_) (k _)
 exact bM ⟨_,by kernel_rfl,λz z r=>r⟩ (bM ⟨_,Lj,λz z r=>by rw[u];exact r⟩ (bM ⟨.si ((lR ns).fmod 3),by kernel_rfl,λz z r=>by rw[agx];exact r⟩ jH))
noncomputable abbrev zP (z:Str):Str:=gu z (af "\x0d\n") (af "\n")
noncomputable abbrev Lk (z:Str):Str:=gu (zP z) (af "\x0d") (af "\n")
theorem v4(W:Wd)(z:Str)(X:List (Str×SV))(os:OL)(K:Fl->SS->Prop):nT (gD W) (lS 4) ⟨(c7 "text",.ss z)::X,os,[]⟩ K=(z.length+(z.length+1)*(af "\n").length<=16777216/\(zP z).length+((zP z).length+1)*(af "\n").length<=16777216/\K .next ⟨(c7 "mended",.ss (Lk z))::(c7 "text",.ss z)::X,os,[]⟩/\True):=by kernel_rfl
theorem agB{W:Wd}{l:List Nat}(G:l.length<=48){X:List (Str×SV)}{os:OL}{q:List Stmt}(k:Fin (gD W) q ⟨(c7 "mended",.ss (ak (bG l)))::(c7 "text",.ss (ak l))::X,os,[]⟩):Fin (gD W) (lS 4::q) ⟨(c7 "text",.ss (ak l))::X,os,[]⟩:=by
 have y:Lk (ak l)=ak (bG l):=gj (St.Ij (ak l))
 have x:(ak l).length=l.length:=cP
 have u:(zP (ak l)).length<=(ak l).length:=St.B5 (ak l)
 have Y:(af "\n").length=1:=by kernel_rfl
 refine Fin.step (λz z z h=>h) (rD (ni W) ?_)
 rw[v4,Y,y]
 exact⟨by exact Om.Gf G x (aH _),by exact Om.Gf G x u,k,trivial⟩
end
section
open Nu St Tb
theorem agC{l:List SO}{i j:Nat}{x:SO}(h:j≠i):(aX l i x)[j]? =l[j]? :=by rw[oM,if_neg h]
theorem Ll{l:List SO}{x o:SO}{i:Nat}(h:l[i]? =aa o):(snoc l x)[i]? =aa o:=by
 rw[iy,zY (dh.mp h).1];exact h
noncomputable def lcT:Expr->Expr
 |.ListComp _ [⟨_,q,_,_⟩] _ _=>q
 |e=>e
noncomputable abbrev sE:Expr:=kid (aE 3) 1
noncomputable def vS:b3:=lC sE fU.scope
noncomputable abbrev n7:Expr:=uN sE
noncomputable abbrev vV:Expr:=lcT sE
theorem agE:lS 3=.Assign [.Name (c7 "text") (jf (lS 3))] (.Call (.Attribute (.Constant (.str (c7 "")) 0 (kid (kid (aE 3) 0) 0).pos) (c7 "join") (kid (aE 3) 0).pos) [.ListComp n7 [⟨.Name (c7 "n") (C6 sE),.Subscript (.Name (c7 "script") (kid vV 0).pos) (.Slice (aa (.Constant (.int 1) 0 (slA (kid vV 1)).pos)) (aa (.Constant (.int 9) 0 (slB (kid vV 1)).pos)) ah (kid vV 1).pos) vV.pos,[],0⟩] vS sE.pos] [] (aE 3).pos) (lS 3).pos:=by kernel_rfl
theorem agF:n7=.Subscript (.Name (c7 "_law_PIECES") (kid n7 0).pos) (.BinOp (.Name (c7 "n") (kid (kid n7 1) 0).pos) .Mod (.Constant (.int 32) 0 (kid (kid n7 1) 1).pos) (kid n7 1).pos) n7.pos:=by kernel_rfl
theorem agG(W:Wd):uc (gD W) vS (kc vS []):=xP (G:=gD W) (by kernel_rfl)
theorem Lm:(o7.all λp=>aD p.cps.toList.length 6&&p.cps.toList.all iY)=true:=by kernel_rfl
theorem Ln:o7.length=32:=by kernel_rfl
noncomputable def pieceOf (n:Int):Str:=o7.getD (n.fmod 32).toNat ⟨#[]⟩
noncomputable def jM (z:List Int):List Nat:=z.flatMap λn=>(pieceOf n).cps.toList
noncomputable def kJ (ns:List Int):List Nat:=jM (iK ns)
theorem Ew(x:Int):0<=x.fmod 32/\x.fmod 32<32:=⟨LL x (by decide),Ma x (by decide)⟩
theorem Lo(n:Int):pieceOf n∈o7:=by
 have h:=Ew n
 have z:=Ln
 unfold pieceOf
 rw[sM,ig (by exact gn ((Ai h.1).mpr h.2) z.symm)]
 exact List.getElem_mem _
theorem agH(n:Int):(pieceOf n).cps.toList.length<=6:=by
 have h:=bZ.mp Lm _ (Lo n)
 rw[cD] at h
 exact aB h.1
theorem agI(z:List Int):(jM z).length<=6*z.length:=by
 induction z with
 |nil=>exact aH _
 |cons n z p=>
  show(List.flatMap _ _).length<=_
  rw[E5,bK,kM]
  have:=agH n
  have p:(List.flatMap (λn=>(pieceOf n).cps.toList) z).length<=6*z.length:=p
  exact Om.Sx this p
theorem Lp(ns:List Int):(iK ns).length<=8:=by unfold iK;rw[nq];exact Ms 8 _
theorem Lq(ns:List Int):(kJ ns).length<=48:=by
 have x:=agI (iK ns)
 have u:=Lp ns
 unfold kJ
 exact aq x (iN 6 u)
noncomputable def Keeps (os z:OL):Prop:=∀(k:Nat) (o:SO),os.list[k]? =aa o->z.list[k]? =aa o
noncomputable def Jl (l:List Int) (i:Nat) (o:SO):Prop:=(i=0/\o=.list ah [])\/o=.list (aa (.txt (jM (l.take i)) i)) []
theorem agJ{W:Wd}{l:List Int}{os0:OL}{j p:Nat}(hp:os0.list[p]? =aa (.list ah (l.map .si)))(hj:os0.length=j)(hl:l.length<=8){P:SS->Prop}(hP:∀os o,Keeps os0 os->os.list[j]? =aa o->Jl l l.length o->P ⟨[],os,[]⟩):
 Mk (gD W) vS (kc vS []) (.Name (c7 "n") (C6 sE)) n7 j (xK p) (λn i y=>n=l.length-i/\i<=l.length/\∃os o,y=⟨[],os,[]⟩/\Keeps os0 os/\os.list[j]? =aa o/\Jl l i o) P:=by
 refine⟨λn i y ⟨Y,hi,os,o,e,M,V,H⟩=>?_⟩
 subst e Y
 have O:=M _ _ hp
 refine⟨(l.map SV.si)[i]?,?_,?_⟩
 ·show ua p _ i=_
  unfold ua
  show(match OL.get os p with|some (.list p xs)=>_|_=>_)=_
  rw[OL.get_eq,O]
  show aa (at? _ _)=_
  rw[qA]
 ·rw[sQ]
  cases e0:l[i]? with
  |none=>
   have C:i=l.length:=by have:=qi.mp e0;exact ny hi this
   subst C
   exact⟨_,rfl,hP os o M V H⟩
  |some z=>
   have u:i<l.length:=(dh.mp e0).1
   have G:jM (l.take (i+1))=jM (l.take i)++(pieceOf z).cps.toList:=by
    unfold jM
    rw[wj,e0,oq];simp
   have Y:∀X,Keeps os0 (OL.s os j X):=λX k o h=>by
    show(aX os.list j X)[k]? =_
    have:k<os0.length:=by rw[OL.len_eq];exact(dh.mp h).1
    rw[agC (by exact Om.Sy hj this)]
    exact M _ _ h
   have m:∀X,(OL.s os j X).list[j]? =aa X:=λX=>by
    show(aX os.list j X)[j]? =_
    rw[oM,if_pos rfl,if_pos (dh.mp V).1]
   refine qP (by kernel_rfl) ?_
   rw[agF]
   refine qO (kY (v:=.ref 767) (by kernel_rfl) (by kernel_rfl) (xw (fS (x:=.si z) (by kernel_rfl) (by kernel_rfl) Lj (Es (Bc (a:=z) (b:=32) (λr=>r) (λr=>r) rfl ?_)))))
   have L:((o7.length:Nat):Int)=32:=by rw[Ln];rfl
   refine Im (ss:=o7) (j:=z.fmod 32) (fM rfl) (by kernel_rfl) (by kernel_rfl) Et (Ew z).1 (by rw[L];exact(Ew z).2) ?_
   have strs_one:∀t,StrsAre [Fp (pieceOf z) t] [pieceOf z]:=λt=>.cons _ _ .nil
   rcases H with⟨rfl,rfl⟩|rfl
   ·refine⟨ah,[],V,λU q=>?_,aa (.txt (jM (l.take (0+1))) (0+1)),[],λU D A v q f r=>?_,l.length-(0+1),by exact Nat.sub_lt u Nat.one_pos,rfl,u,_,_,rfl,Y _,m _,.inr rfl⟩
    ·obtain rfl:U=[]:=q
     decide
    ·obtain rfl:U=[]:=q
     cases f
     obtain⟨g,rfl⟩:=r
     exact⟨[.str (pieceOf z) g],[],rfl,⟨[pieceOf z],strs_one g,by rw[G];simp[jM],aH _⟩,.nil⟩
   ·refine⟨_,[],V,λU ⟨_,_,_,q⟩=>?_,aa (.txt (jM (l.take (i+1))) (i+1)),[],λU D A v q f r=>?_,l.length-(i+1),by exact om u (gp _),rfl,u,_,_,rfl,Y _,m _,.inr rfl⟩
    ·show U.length+0<=_
     exact Om.Sz hl u q
    ·obtain⟨B,h1,h2,h3⟩:=q
     cases f
     obtain⟨g,rfl⟩:=r
     exact⟨U++[.str (pieceOf z) g],[],by rw[cO];rfl,⟨B++[pieceOf z],pC h1 (strs_one g),by rw[G,oq,h2];simp,by rw[bK];exact d9 h3⟩,.nil⟩
theorem agK{W:Wd}{a:Addr}{ns:List Int}(g:qe W.K a ns)(V:ns.length<=1000){X:List (Str×SV)}(j:lk (c7 "script") X=aa (.val (.ref a))){os:OL}{q:List Stmt}(k:∀y,Keeps os y->Fin (gD W) q ⟨(c7 "text",.ss (ak (kJ ns)))::X,y,[]⟩):
 Fin (gD W) (lS 3::q) ⟨X,os,[]⟩:=by
 refine Fin.step (λz z z h=>h) ?_
 rw[agE]
 refine jD (fM rfl) (by kernel_rfl) ?_
 apply t6
 ·exactλz z z=>rfl
 ·kernel_rfl
 ·exactλu v=>by rw[d8] at v;subst v;exactλz z=>rfl
 ·rfl
 refine rC (oX .join (a:=⟨#[]⟩) (λ{_ _ _} r=>r) (λu v=>by rw[d8] at v;subst v;exactλz z=>rfl) (lg (λz z=>rfl) (BI (agG W) (λz z=>rfl) (HW (ags (ns:=ns) g V (by kernel_rfl) (by kernel_rfl) j (.l os.length ah ((iK ns).map .si) rfl (OL.yz _ _) ?_))))))
 have Y:Keeps os (OL.a os (.list ah ((iK ns).map .si))):=λk o h=>Ll h
 have x:=Lp ns
 have hcl:=Lq ns
 refine⟨_,(iK ns).length,agJ (os0:=OL.a os (.list ah ((iK ns).map .si))) (OL.yz _ _) rfl x (λy o U p C=>kZ ?_),rfl,bP _,_,_,rfl,λk o h=>Ll h,OL.yz _ _,.inl ⟨rfl,rfl⟩⟩
 have fin:∀t:Str,t.cps.toList=kJ ns->ic (gD W) q .next ⟨(c7 "text",.ss t)::X,y,[]⟩:=λt G=>by
  have:t=ak (kJ ns):=gj G
  rw[this]
  exact k y λa b h=>U _ _ (Y _ _ h)
 rcases C with⟨O,rfl⟩|rfl
 ·refine BW (a:=⟨#[]⟩) (xs:=[]) (ys:=[]) (λ{_ _ _} r=>r) p (λ{_ _ _} r=>by cases r;exact .nil) (by decide) (fin _ ?_)
  unfold kJ
  rw[sL O]
  exact yv []
 ·have m:jM ((iK ns).take (iK ns).length)=kJ ns:=by rw[z9];rfl
  refine C2 (s:=jM ((iK ns).take (iK ns).length)) (k:=(iK ns).length) (λ{_ _ _} r=>r) p (by rw[m];exact aq hcl (aB rfl)) (by exact aq x (aB rfl)) (fin _ ?_)
  exact m
end
section
open Nu St Tb
theorem agL:fU.body=lS 0::lS 1::lS 2::lS 3::lS 4::([lS 5,lS 6]++(lS 7::qd)):=by kernel_rfl
theorem agM(ns:List Int):Good 48 (kJ ns):=by
 refine⟨Lq ns,λc g=>?_⟩
 unfold kJ jM at g
 obtain⟨n,_,Y⟩:=Mn.mp g
 have h:=bZ.mp Lm _ (Lo n)
 rw[cD] at h
 exact bZ.mp h.2 c Y
theorem agN(ns:List Int):Good 2 (qg ns).cps.toList:=by
 have h:=Eu ((lR ns).fdiv 3)
 have y:qg ns∈vR:=by
  unfold qg
  have z:vR.length=4:=rfl
  rw[sM,ig (by exact gn ((Ai h.1).mpr h.2) z.symm)]
  exact List.getElem_mem _
 have ok:(vR.all λp=>aD p.cps.toList.length 2&&p.cps.toList.all iY)=true:=by kernel_rfl
 have u:=bZ.mp ok _ y
 rw[cD] at u
 exact⟨aB u.1,λc g=>bZ.mp u.2 c g⟩
theorem agO(l:List Nat):13∉bG l:=λh=>by
 unfold bG at h
 obtain⟨c,_,e⟩:=fK.mp h
 by_cases q:c=13
 ·rw[if_pos q] at e;cases e
 ·rw[if_neg q] at e;exact q e
theorem agP{W:Wd}(p:gJ W.η)(A:Kf W){a:Addr}{ns:List Int}(h:qe W.K a ns)(x:ns.length<=1000):Fin (gD W) fU.body ⟨[(c7 "script",.val (.ref a))],.b [],[]⟩:=by
 rw[agL]
 have y:=agM ns
 refine agA h x λos=>?_
 refine agK h x (by kernel_rfl) λv z=>?_
 refine agB y.z ?_
 refine Fin.pick (W0:=W) (js:=[]) (objs':=[]) (con':=[(819,13,vQ),(795,9,pZ)]) (loc':=l4 (sD ns) (bG (kJ ns)) (kJ ns) (qg ns).cps.toList) .nil ?_ wu (λf B=>Om.nm B) (ago p A (agw ns) (y.le (by decide)) (agN ns) rfl (Kr y) (agO _))
 exact bM ⟨_,by kernel_rfl,MV.flat rfl⟩ (bM ⟨_,by kernel_rfl,MV.flat rfl⟩ (bM ⟨_,by kernel_rfl,MV.flat rfl⟩ (bM ⟨_,by kernel_rfl,MV.flat rfl⟩ jH)))
end
end Ex
namespace Tb
section
open Hd Ex
noncomputable def zQ (K:Frag) (f:Addr) (i:aR):Bool:=codeIn K i.cdv i.qual&&(!i.scope.isCoroutine&&(!i.scope.isGenerator&&(i.scope.kind==.function&&(i.scope.names.all (λx=>x.2 !=.cell)&&((i.ps.all λx=>decide (i.scope.names.lookup x=some .local))&&(keepIn K (.ref f)&&(fnIn K f&&dist i.ps)))))))
theorem Lr{K:Frag}{f:Addr}{i:aR}(u:K.lookup f=aa ⟨.type "function",ah,.func i.fd,#[]⟩)(z:zQ K f i=ai)
 (v:∀(s:Shared) (q:List Value),K.In s.heap->i.ps.length<=q.length+i.ds.length->q.length<=i.ps.length->BindsTo s i.fd ⟨q,[]⟩ (i.bind q)):tC K f i:=by
 unfold zQ at z
 simp only[cD] at z
 obtain⟨a,b,c,d,e,g,h,k,l⟩:=z
 exact⟨⟨_,_,_,u⟩,a,by simpa using b,by simpa using c,by simpa using d,λx y=>by simpa using bZ.mp e x y,g,v,h,k,Hu l⟩
noncomputable def Ls:Nat->(List Value->Prop)->Prop:=eT (λP=>P []) λz p P=>∀a,p λq=>P (a::q)
theorem sF{n:Nat}:∀{P:List Value->Prop},Ls n P->∀q,q.length=n->P q:=by
 induction n with
 |zero=>exactλh q e=>(sL e)▸h
 |succ n p=>
  intro P h q e
  cases q with
  |nil=>cases e
  |cons a q=>exact p (P:=λq=>P (a::q)) (h a) q (Nat.succ.inj e)
theorem bA{H:Type}{p:H->Prop}{a:H}{l:List H}(h:p a)(k:∀x∈l,p x):∀x∈a::l,p x:=λx z=>by
 rcases b7.mp z with rfl|z
 ·exact h
 ·exact k x z
noncomputable def zR (K:Frag) (c:CI):Bool:=plainGet K c.C (af "")&&hasDictIn K c.C&&(findIn K (.ref c.C) "__setattr__"==aa (aa (.builtin "object.__setattr__")))&&plainOver K c.C&&
 c.kU.all (λn=>findIn K (.ref c.C) n==aa ah&&takerIn K c.C n==aa ah)&&
 c.gO.all (λx=>findIn K (.ref c.C) x.1==aa (aa (.ref x.2))&&isFn K (.ref x.2)&&specialIn K (.ref x.2) "__get__"==aa (aa (.builtin "function.__get__"))&&takesIn K (.ref x.2)==aa aj&&!copiedNames.contains x.1&&keepIn K (.ref x.2)&&fnIn K x.2)&&
 c.vals.all (λx=>findIn K (.ref c.C) x.1==aa (aa x.2)&&specialIn K x.2 "__get__"==aa ah&&handedIn x.2&&!copiedNames.contains x.1)
theorem agQ{K:Frag}{c:CI}(h:zR K c=ai):wZ K c:=by
 unfold zR at h
 simp only[cD] at h
 obtain⟨⟨⟨⟨⟨⟨a,b⟩,d⟩,e⟩,f⟩,g⟩,k⟩:=h
 refine⟨a,b,beq_iff_eq.mp d,e,λn Y=>?_,λx z=>?_,λx z=>?_⟩
 ·have:=bZ.mp f n Y
  simp only[cD] at this
  exact⟨beq_iff_eq.mp this.1,beq_iff_eq.mp this.2⟩
 ·have:=bZ.mp g x z
  simp only[cD] at this
  obtain⟨⟨⟨⟨⟨⟨q,u⟩,v⟩,y⟩,m⟩,O⟩,p⟩:=this
  exact⟨beq_iff_eq.mp q,u,beq_iff_eq.mp v,beq_iff_eq.mp y,by simpa using m,O,p⟩
 ·have:=bZ.mp k x z
  simp only[cD] at this
  obtain⟨⟨⟨q,u⟩,v⟩,y⟩:=this
  exact⟨beq_iff_eq.mp q,beq_iff_eq.mp u,v,by simpa using y⟩
theorem qh{H:Type}{p:H->Prop}:∀x∈([]:List H),p x:=λz h=>by cases h
noncomputable def sG (o:Obj):List Value:=match o.data with
 |.seq q _=>q.toList
 |_=>[]
noncomputable def Lu (o:Obj):List DictEntry:=match o.data with
 |.dict z _=>z.toList
 |_=>[]
noncomputable def agR (o:Obj):Nat:=match o.data with
 |.seq _ n=>n
 |_=>0
noncomputable def zV (o:Obj):Nat:=match o.data with
 |.dict _ n=>n
 |_=>0
noncomputable def Ey (K:Frag) (x:Str×Value):Bool:=!(x.1==("__debug__":Str))&&(nsIn K mainGlobals x.1==aa (aa x.2)||(nsIn K mainGlobals x.1==aa ah&&(bootBuiltins x.1==aa x.2&&!(x.1==("__name__":Str)))))
theorem agS{K:Frag}{x:Str×Value}(h:Ey K x=ai):A5 K x:=by
 unfold Ey at h
 simp only[cD,lW] at h
 obtain⟨a,b|⟨b,c,d⟩⟩:=h
 ·exact⟨by simpa using a,.inl (beq_iff_eq.mp b)⟩
 ·exact⟨by simpa using a,.inr ⟨beq_iff_eq.mp b,beq_iff_eq.mp c,by simpa using d⟩⟩
theorem agT{H:Type}{p:H->Prop}{q:H->Bool}{l:List H}(h:l.all q=ai)(k:∀x,q x=ai->p x):∀x∈l,p x:=λx z=>k x (bZ.mp h x z)
noncomputable abbrev zW (K:Frag) (i:aR):Prop:=∀(s:Shared) (q:List Value),K.In s.heap->i.ps.length<=q.length+i.ds.length->q.length<=i.ps.length->BindsTo s i.fd ⟨q,[]⟩ (i.bind q)
noncomputable abbrev sH (K:Frag) (i:aR) (n:Nat):Prop:=Ls n λq=>∀s:Shared,K.In s.heap->BindsTo s i.fd ⟨q,[]⟩ (i.bind q)
theorem b6{K:Frag}{i:aR}(n:Nat)(Y:i.ps.length=n)(z:i.ds=[])(h:sH K i n):zW K i:=λs q X x u=>sF h q (by rw[z] at x;exact Y▸ny u x) s X
theorem Ez{K:Frag}{i:aR}(n:Nat)(Y:i.ps.length=n+1)(z:i.ds.length=1)(h:sH K i n)(y:sH K i (n+1)):zW K i:=λs q X x u=>by
 rw[z,Y] at x
 rw[Y] at u
 rcases LV.mp u with e|e
 ·exact sF h q (ny (E3 e) (lT x)) s X
 ·exact sF y q e s X
theorem Lv{K:Frag}{i:aR}(n:Nat)(Y:i.ps.length=n+2)(y:i.ds.length=2)(h:sH K i n)(v:sH K i (n+1))(z:sH K i (n+2)):zW K i:=λs q X x u=>by
 rw[y,Y] at x
 rw[Y] at u
 rcases LV.mp u with e|e
 ·rcases LV.mp (E3 e) with e|e
  ·exact sF h q (ny (E3 e) (lT (lT x))) s X
  ·exact sF v q e s X
 ·exact sF z q e s X
noncomputable def vW:List (Addr×List Value):=[(134,[jx]),(149,[kO aj]),(171,[Value.int 0 738,jx]),(254,[jx]),(276,[jx,kO aj])]
noncomputable def Lx (o:Option Obj):Option Data:=o.map λo=>o.data
noncomputable def n8 (v:Value):Option Str:=match v with
 |.str x _=>aa x
 |_=>ah
noncomputable def vX (v:Value):Str:=(n8 v).getD ⟨#[]⟩
noncomputable abbrev n9 (P:Params):List DictEntry:=Lu (Hd.ob P 48)
noncomputable abbrev sI (P:Params):List DictEntry:=Lu (Hd.ob P 235)
theorem big(P:Params)(z:Frag):(vW.map (λx=>Lx ((Hd.K P++z).lookup x.1)),T.fns.map (λx=>(Hd.K P++z).lookup x.1),T.fns.all (λx=>zQ (Hd.K P++z) x.1 x.2),T.cls.all (λc=>aQ c.2.C c.1&&zR (Hd.K P++z) c.2),
 [73,166,762].all (λx=>makesIn (Hd.K P++z) x&&keepIn (Hd.K P++z) (.ref x)),(n9 P).map (λe=>e.hash),(n9 P).all (λe=>(n8 e.key).isSome),Cn.all (λy=>nsIn (Hd.K P++z) 48 y.1==aa (aa y.2)),(Hd.K P++z).lookup 48,
 (sI P).map (λe=>(n8 e.key,sv e.val)),(sI P).map (λe=>e.hash),(Hd.K P++z).lookup 236,(Hd.K P++z).lookup 235)=
 (vW.map (λx=>aa (.seq x.2.toArray 0)),T.fns.map (λx=>aa ⟨.type "function",ah,.func x.2.fd,#[]⟩),ai,ai,
  ai,(n9 P).map (λe=>kN P (vX e.key)),ai,ai,aa {cls:=.type "dict",data:=.dict (n9 P).toArray (zV (Hd.ob P 48))},
  o8.map (λx=>(aa x.1,x.2)),o8.map (λx=>kN P x.1),aa (instObj 230 235),aa (dictOf (sI P) (zV (Hd.ob P 235)))):=by kernel_rfl
theorem agU(P:Params)(z:Frag):(T.tups.map (λx=>(Hd.K P++z).lookup x.1),T.tups.map (λx=>(sG (Hd.ob P x.1)).map sv))=(T.tups.map (λx=>aa ⟨.type "tuple",ah,.seq (sG (Hd.ob P x.1)).toArray 0,#[]⟩),T.tups.map λx=>x.2):=by kernel_rfl
structure agV (P:Params) (Xt:Frag):Prop where
 h1:vW.map (λx=>Lx ((Hd.K P++Xt).lookup x.1))=vW.map λx=>aa (.seq x.2.toArray 0)
 h2:T.fns.map (λx=>(Hd.K P++Xt).lookup x.1)=T.fns.map λx=>aa ⟨.type "function",ah,.func x.2.fd,#[]⟩
 h3:(T.fns.all λx=>zQ (Hd.K P++Xt) x.1 x.2)=ai
 h4:(T.cls.all λc=>aQ c.2.C c.1&&zR (Hd.K P++Xt) c.2)=ai
 h5:([73,166,762].all λx=>makesIn (Hd.K P++Xt) x&&keepIn (Hd.K P++Xt) (.ref x))=ai
 h6:(n9 P).map (λe=>e.hash)=(n9 P).map λe=>kN P (vX e.key)
 h7:((n9 P).all λe=>(n8 e.key).isSome)=ai
 h8:(Cn.all λy=>nsIn (Hd.K P++Xt) 48 y.1==aa (aa y.2))=ai
 h9:(Hd.K P++Xt).lookup 48=aa {cls:=.type "dict",data:=.dict (n9 P).toArray (zV (Hd.ob P 48))}
 h10:(sI P).map (λe=>(n8 e.key,sv e.val))=o8.map λx=>(aa x.1,x.2)
 h11:(sI P).map (λe=>e.hash)=o8.map λx=>kN P x.1
 h12:(Hd.K P++Xt).lookup 236=aa (instObj 230 235)
 h13:(Hd.K P++Xt).lookup 235=aa (dictOf (sI P) (zV (Hd.ob P 235)))
theorem jt(P:Params)(j:Frag):agV P j:=
 have h:=jw (big P j)
 have u:=jw h.2
 have O:=jw u.2
 have k:=jw O.2
 have G:=jw k.2
 have m:=jw G.2
 have p:=jw m.2
 have q:=jw p.2
 have v:=jw q.2
 have z:=jw v.2
 have x:=jw z.2
 have y:=jw x.2
 ⟨h.1,u.1,O.1,k.1,G.1,m.1,p.1,q.1,v.1,z.1,x.1,y.1,y.2⟩
theorem agY(P:Params)(z:Frag):T.tups.map (λx=>(Hd.K P++z).lookup x.1)=T.tups.map (λx=>aa ⟨.type "tuple",ah,.seq (sG (Hd.ob P x.1)).toArray 0,#[]⟩)/\T.tups.map (λx=>(sG (Hd.ob P x.1)).map sv)=T.tups.map λx=>x.2:=jw (show(_,_)=(_,_) from agU P z)
theorem Ly{v:Value}{x:Str}(h:n8 v=aa x):∃t,v=.str x t:=by
 cases v with
 |str y t=>cases h;exact⟨t,rfl⟩
 |_=>cases h
theorem agZ{P:Params}:∀{y:List DictEntry},y.map (λe=>e.hash)=y.map (λe=>kN P (vX e.key))->(y.all λe=>(n8 e.key).isSome)=ai->KeysLit P y:=@λy=>by
 induction y with
 |nil=>exactλz z=>trivial
 |cons e y p=>
  intro h q
  rw[jQ,cD] at q
  obtain⟨m,u⟩:=wC h
  obtain⟨x,v⟩:=ahv.mp q.1
  obtain⟨t,G⟩:=Ly v
  refine⟨⟨x,t,G,?_⟩,p u q.2⟩
  have:vX e.key=x:=by unfold vX;rw[v];rfl
  rw[<-this];exact m
theorem ag0{W:Wd}:∀{y:List (Str×SV)} {z:List DictEntry},z.map (λe=>(n8 e.key,sv e.val))=y.map (λx=>(aa x.1,x.2))->z.map (λe=>e.hash)=y.map (λx=>kN W.P x.1)->FR W [] y z:=@λy=>by
 induction y with
 |nil=>intro z h _;cases z with|nil=>exact .nil|cons _ _=>cases h
 |cons x y p=>
  intro z h q
  cases z with
  |nil=>cases h
  |cons e z=>
   obtain⟨v,u⟩:=wC h
   obtain⟨q1,q2⟩:=wC q
   obtain⟨k1,k2⟩:=jw v
   exact .cons ⟨Ly k1,q1,by rw[<-k2];exact qH _ _ _⟩ (p u q2)
theorem sJ{P:Params}{Xt:Frag}{x:Addr×List Value}(h:x∈vW):∃o,(Hd.K P++Xt).lookup x.1=aa o/\o.data=.seq x.2.toArray 0:=by
 have e:=sP.mp (jt P Xt).h1 x h
 cases q:(Hd.K P++Xt).lookup x.1 with
 |none=>rw[q] at e;cases e
 |some o=>rw[q] at e;exact⟨o,rfl,ju e⟩
noncomputable def iW (d:KTD.Dat) (v:Value):Bool:=match d with
 |.flat d=>KTD.flatLooks d v
 |_=>aj
theorem Lz{K:Frag}{a:Addr}{ss:List Str}{o:Obj}(x:K.lookup a=aa (listOf (sG o).toArray (agR o)))(u:KTD.strsLook (sG o) ss=ai):∃q n,K.lookup a=aa (listOf (q:List Value).toArray n)/\StrsAre q ss:=⟨_,_,x,KTD.strs_of_look u⟩
theorem ag1{K:Frag}{a:Addr}{D:List (Str×Str)}{o:Obj}(x:K.lookup a=aa o)(u:KTD.tabLook iW (λb=>if b==a then aa o else ah) a (D.map λp=>(p.1,Ah (.str p.2)))=ai):∃o,K.lookup a=aa o/\∀h:Heap,h.get? a=aa o->KTD.TextTab h a (D.map λp=>(p.1,Ah (.str p.2))):=
 ⟨o,x,λh q=>KTD.tab_of_look (L:=iW) (R:=KTD.Dat.At h) (λd v y=>by
   cases d with
   |flat d=>exact KTD.flat_of_looks y
   |_=>cases y) (get:=λb=>if b==a then aa o else ah) (λb O z=>by
    by_cases e:b=a
    ·subst e;simp at z;subst z;exact q
    ·simp[e] at z) u⟩
theorem ag2(P:Params)(z:Frag):A6 (Hd.K P++z) 807 mL (af "t") (af "token") where
 at_:=⟨.type "function",ah,#[],by kernel_rfl⟩
 code:=by kernel_rfl
 co:=by kernel_rfl
 gen:=by kernel_rfl
 kind:=by kernel_rfl
 cells:=λk=>by kernel_rfl
 push:=λh=>by kernel_rfl
 loc:=by kernel_rfl
 bind:=λv=>by kernel_rfl
 keep:=by kernel_rfl
 Gn:=λh=>absurd (h (af "token",.cell) (List.contains_iff_mem.mp (by kernel_rfl))) (by decide)
theorem ag3(P:Params)(z:Frag):∀c∈T.cls,wZ (Hd.K P++z) c.2/\c.2.C=c.1:=λc g=>by
 have y:=(jt P z).h4
 have:=bZ.mp y c g
 rw[cD] at this
 exact⟨agQ this.2,bJ this.1⟩
theorem ag4(P:Params)(q:Frag):∀x∈T.fns,zW (Hd.K P++q) x.2:=bA (b6 1 rfl rfl (λy z z=>cu rfl)) (bA (b6 2 rfl rfl (λy v z z=>cu rfl)) (bA (b6 2 rfl rfl (λy v z z=>cu rfl)) (bA (b6 1 rfl rfl (λy z z=>cu rfl)) (bA (b6 2 rfl rfl (λy v z z=>cu rfl)) (bA (b6 1 rfl rfl (λy z z=>cu rfl)) (bA (b6 2 rfl rfl (λy v z z=>cu rfl)) (bA (b6 2 rfl rfl (λy v z z=>cu rfl)) (bA (b6 1 rfl rfl (λy z z=>cu rfl)) (bA (b6 1 rfl rfl (λy z z=>cu rfl)) (bA (let⟨_,u,M⟩:=sJ (P:=P) (Xt:=q) (x:=(134,[jx])) (lV (i:=0) rfl);Ez 1 rfl rfl (λy z X=>binds_K X rfl u M rfl rfl) (λy v z X=>binds_K X rfl u M rfl rfl)) (bA (b6 2 rfl rfl (λy v z z=>cu rfl)) (bA (let⟨_,u,M⟩:=sJ (P:=P) (Xt:=q) (x:=(149,[kO aj])) (lV (i:=1) rfl);Ez 2 rfl rfl (λy v z X=>binds_K X rfl u M rfl rfl) (λy v p z X=>binds_K X rfl u M rfl rfl)) (bA (b6 2 rfl rfl (λy v z z=>cu rfl)) (bA (let⟨_,u,M⟩:=sJ (P:=P) (Xt:=q) (x:=(171,[Value.int 0 738,jx])) (lV (i:=2) rfl);Lv 2 rfl rfl (λy v z X=>binds_K X rfl u M rfl rfl) (λy v p z X=>binds_K X rfl u M rfl rfl) (λy v p m z X=>binds_K X rfl u M rfl rfl)) (bA (b6 2 rfl rfl (λy v z z=>cu rfl)) (bA (b6 1 rfl rfl (λy z z=>cu rfl)) (bA (b6 2 rfl rfl (λy v z z=>cu rfl)) (bA (b6 2 rfl rfl (λy v z z=>cu rfl)) (bA (b6 2 rfl rfl (λy v z z=>cu rfl)) (bA (let⟨_,u,M⟩:=sJ (P:=P) (Xt:=q) (x:=(254,[jx])) (lV (i:=3) rfl);Ez 2 rfl rfl (λy v z X=>binds_K X rfl u M rfl rfl) (λy v p z X=>binds_K X rfl u M rfl rfl)) (bA (b6 2 rfl rfl (λy v z z=>cu rfl)) (bA (let⟨_,u,M⟩:=sJ (P:=P) (Xt:=q) (x:=(276,[jx,kO aj])) (lV (i:=4) rfl);Lv 1 rfl rfl (λy z X=>binds_K X rfl u M rfl rfl) (λy v z X=>binds_K X rfl u M rfl rfl) (λy v p z X=>binds_K X rfl u M rfl rfl)) (bA (b6 2 rfl rfl (λy v z z=>cu rfl)) (bA (b6 1 rfl rfl (λy z z=>cu rfl)) (bA (b6 1 rfl rfl (λy z z=>cu rfl)) (bA (b6 1 rfl rfl (λy z z=>cu rfl)) (bA (b6 1 rfl rfl (λy z z=>cu rfl)) (bA (b6 1 rfl rfl (λy z z=>cu rfl)) (bA (b6 1 rfl rfl (λy z z=>cu rfl)) (bA (b6 1 rfl rfl (λy z z=>cu rfl)) (bA (b6 1 rfl rfl (λy z z=>cu rfl)) (bA (b6 1 rfl rfl (λy z z=>cu rfl)) (bA (b6 1 rfl rfl (λy z z=>cu rfl)) (bA (b6 1 rfl rfl (λy z z=>cu rfl)) (bA (b6 1 rfl rfl (λy z z=>cu rfl)) (bA (b6 1 rfl rfl (λy z z=>cu rfl)) (bA (b6 0 rfl rfl (λz z=>cu rfl)) (bA (b6 0 rfl rfl (λz z=>cu rfl)) (bA (b6 0 rfl rfl (λz z=>cu rfl)) (bA (b6 2 rfl rfl (λy v z z=>cu rfl)) (bA (b6 2 rfl rfl (λy v z z=>cu rfl)) (bA (b6 2 rfl rfl (λy v z z=>cu rfl)) (bA (b6 2 rfl rfl (λy v z z=>cu rfl)) qh)))))))))))))))))))))))))))))))))))))))))))
theorem ag5(P:Params)(z:Frag):∀x∈T.fns,tC (Hd.K P++z) x.1 x.2:=λx y=>by
 have u:=(jt P z).h2
 have O:=(jt P z).h3
 exact Lr (sP.mp u x y) (bZ.mp O x y) (ag4 P z x y)
theorem ag6(W:Wd)(P:Params)(y:Frag):∀x∈T.tups,∃v n A q,(Hd.K P++y).lookup x.1=aa ⟨.type "tuple",v,.seq (q:List Value).toArray n,A⟩/\aM W [] x.2 q:=λx z=>by
 have h:=agY P y
 refine⟨ah,0,#[],_,sP.mp h.1 x z,?_⟩
 rw[<-sP.mp h.2 x z]
 exact aM.G6 W [] _
theorem ag7(P:Params)(z:Frag):∀x∈T.tw,∃u n,(Hd.K P++z).lookup x.1=aa {cls:=.type "dict",data:=.dict u n}/\KeysLit P u.toList/\∀y∈x.2,nsIn (Hd.K P++z) x.1 y.1=aa (aa y.2):=by
 have k:=(jt P z).h6
 have m:=(jt P z).h7
 have p:=(jt P z).h8
 have v:=(jt P z).h9
 exact bA ⟨_,_,v,agZ k m,λy q=>beq_iff_eq.mp (bZ.mp p y q)⟩ qh
theorem ag8(P:Params)(z:Frag):∀x∈T.nG,∃q n,(Hd.K P++z).lookup x.1=aa (listOf (q:List Value).toArray n)/\StrsAre q x.2:=bA (Lz (o:=Hd.ob P 243) (by kernel_rfl) (by kernel_rfl)) (bA (Lz (o:=Hd.ob P 767) (by kernel_rfl) (by kernel_rfl)) qh)
theorem ag9(P:Params)(z:Frag):∀x∈T.oN,∃o,(Hd.K P++z).lookup x.1=aa o/\∀h:Heap,h.get? x.1=aa o->KTD.TextTab h x.1 (x.2.map λp=>(p.1,Ah (.str p.2))):=bA (ag1 (o:=Hd.ob P 43) (by kernel_rfl) (by kernel_rfl)) qh
theorem aha{K:Frag}{a:Addr}{D:List (Int×Str)}{o:Obj}(x:K.lookup a=aa o)(u:KTD.keyedLook (λb=>if b==a then aa o else ah) a (D.map λp=>(p.1,sZ p.2))=ai)(B:Program)(w:World):∃o,K.lookup a=aa o/\∀h:Heap,h.get? a=aa o->IntTab B w h a (D.map λp=>(qw p.1,sZ p.2)):=
 ⟨o,x,λh y=>by
   have:=KTD.keyed_of_look (get:=λb=>if b==a then aa o else ah) (h:=h) (λb O z=>by
    by_cases e:b=a
    ·subst e;simp at z;subst z;exact y
    ·simp[e] at z) u B w
   rwa[Ag] at this⟩
theorem ahb(P:Params)(z:Frag)(B:Program)(w:World):∀x∈T.oO,∃o,(Hd.K P++z).lookup x.1=aa o/\∀h:Heap,h.get? x.1=aa o->IntTab B w h x.1 (x.2.map λp=>(qw p.1,sZ p.2)):=bA (aha (o:=Hd.ob P 46) (by kernel_rfl) (by kernel_rfl) B w) qh
theorem ahc(P:Params)(z:Frag):∀x∈T.eY,A5 (Hd.K P++z) x:=agT (q:=Ey (Hd.K P++z)) (by kernel_rfl) λx h=>agS h
theorem ahd(P:Params)(z:Frag):∀x∈T.jz,A6 (Hd.K P++z) x.1 x.2.1 x.2.2.1 x.2.2.2:=bA (ag2 P z) qh
theorem pF(W:Wd)(z:Frag)(v:W.K=Hd.K W.P++z):TabOk W T where
 cls:=by rw[v];exact ag3 W.P z
 fns:=by rw[v];exact ag5 W.P z
 tup:=by rw[v];exact ag6 W W.P z
 qG:=by rw[v];exact ag7 W.P z
 sin:=by
  rw[v]
  have p:=(jt W.P z).h10
  have q:=(jt W.P z).h11
  have y:=(jt W.P z).h12
  have u:=(jt W.P z).h13
  exact bA ⟨y,_,_,u,ag0 p q⟩ qh
 lst:=by rw[v];exact ag8 W.P z
 xf:=by rw[v];exact ag9 W.P z
 xe:=by rw[v];exact ahb W.P z W.prog W.w
 eY:=by rw[v];exact ahc W.P z
 jz:=by rw[v];exact ahd W.P z
 jV:=λx m=>by
  rw[v]
  have G:=(jt W.P z).h5
  have:=bZ.mp G x (qU m)
  rw[cD] at this
  exact this
end
end Tb
namespace Lw
section
open Ex Tb Hd Nu St
theorem ahe{D:Wd}{T:Tab}(tk:TabOk D T){s:Shared}(M:s.os=D.os/\s.gens=D.gens){f:Addr}{i:aR}{j:Str}{m:Value}(F:tC D.K f i)(u:i.ps=[j])(q:i.ds=[])(X:D.K.In s.heap)(TP:Top D.p D.loose D.mean D.mg D.mb s.heap){n:Nat}(hn:n<=60)
 (hb:Fin ⟨D,T,n,i.scope,λg g g=>False,[],[],[],[],aj⟩ i.body ⟨[(j,.val m)],.b [],[]⟩):
 wpAny D.M callerA (jS (.ref f) [m]) (λv O=>v=.bool ai/\(∀b o,s.heap.get? b=aa o->O.heap.get? b=aa o)/\Tp D O) (λg g=>False) s:=by
 obtain⟨oc,od,p1,ho⟩:=F.at_
 refine wpAny_call (codeAny_mono (R:=λr O=>∃v,r=.ok (.ret v)/\v=.bool ai/\(∀b o,s.heap.get? b=aa o->O.heap.get? b=aa o)/\Tp D O) ?_ λr O ⟨v,e,z⟩=>by subst e;exact z)
 have A:i.bind [m]=[(j,m)]:=by unfold aR.bind;rw[u,q];rfl
 have k:=F.bind s [m] X (by rw[u,q];exact aH _) (by rw[u];exact aH _)
 rw[A] at k
 have V:∀y∈[(j,m)],i.scope.names.lookup y.1=some .local:=λy hy=>by
  rw[d8.mp hy]
  exact of_decide_eq_true (bZ.mp F.loc j (by rw[u];exact .head _))
 refine codeAny_call_def (fd:=i.fd) (body:=i.body) (binds:=[(j,m)]) (by decide+kernel) (X _ _ ho) rfl TP.nolimit (codeRec_of X F.code) rfl k F.cell V (λY B U=>?_) F.co F.gen F.kind
 let L':=s.heap.objs.size
 let env:=envOf i.qual i.scope L' f i.cdv
 let C:Cx:=⟨callerA.deeper env,callerA,s.heap,s.heap,[],env,i.scope,L',[],[]⟩
 have H:Ok D C n:=⟨X,TP,λg=>⟨rfl,rfl⟩,⟨F.kind,rfl,rfl,rfl,rfl⟩,rfl,by
  show(1+claimMargin)+1+n<recursionLimit
  have:claimMargin=300:=rfl
  have:recursionLimit=1000:=rfl
  exact Om.SA hn ‹_› this,by
  show(4:Nat)+3+8*n+40<cLine
  have:cLine=9900:=rfl
  exact Om.SD hn this⟩
 have u1:Gr D C s.heap:=⟨below_caller s.heap,X,TP,ktsDicts_nil,MK⟩
 have Fl:Fr s.heap L' Y (λy=>[(j,m)].reverse.lookup y):=⟨B,λb o e=>U b o e,aH _⟩
 have e1:iA D [] [(j,SV.val m)] (λy=>[(j,m)].reverse.lookup y):=λx y e=>by
  rw[bW] at e
  by_cases h:x=j
  ·rw[if_pos h] at e;cases e;exact⟨m,by subst h;exact ES,rfl⟩
  ·rw[if_neg h] at e;cases e
 have a':At ⟨D,T,n,i.scope,λg g g=>False,[],[],[],[],aj⟩ C [] ⟨[(j,.val m)],.b [],[]⟩ {s with heap:=Y,toks:=s.toks+[(j,m)].length}:=⟨⟨⟨_,⟨[],rfl,.nil,wu,s.heap,u1,Fl,λp G=>Om.nm G⟩,e1⟩,⟨qu _,M.1,M.2⟩,λf hf=>Om.nm hf⟩,rfl,H,tk,λp G=>Om.nm G,λx hx=>Om.nm hx,λh=>Om.nb h⟩
 refine wpAny_mono (hb.go C _ _ a') (λfl s3 z=>?_) λg g z=>z.elim
 obtain⟨rfl,o1,i1,⟨m3,⟨d1,g1,f1,a1,g3,y1,F3,N3⟩,_⟩,L,_⟩:=z
 exact⟨_,rfl,rfl,λb o hb=>F3.keep b o (y1.B.stays b o hb),L⟩
theorem ahf(P:Params)(y:Frag):tC (Hd.K P++y) 824 fU:=Lr (by kernel_rfl) (by kernel_rfl) (b6 1 rfl rfl (λx z z=>cu rfl))
theorem ahg(P:Params):nsIn (Hd.K P) mainGlobals (af "law")=aa (aa (.ref 824)):=by kernel_rfl
theorem Az:importsNone Hd.Q=true:=by kernel_rfl
noncomputable def Wx (w:World) (q:Frag) (y:List Str) (g:ExcName->Option Value) (v u:Str->Option Value) (os:OsState) (x:Array GenState) (k:Ev) (ok:f5 k):Wd:=⟨Hd.R1.row.toRowW.prog,w,Hd.K w.params++q,Hd.Q,y,g,v,u,Az,λz z z=>False,os,x,k,ok⟩
theorem ahh(w:World)(v:Frag)(z:List Str)(g:ExcName->Option Value)(q p:Str->Option Value)(os:OsState)(y:Array GenState)(k:Ev)(ok:f5 k):Kf (Wx w v z g q p os y k ok):=by
 obtain⟨o,m,u⟩:=sJ (P:=w.params) (Xt:=v) (x:=(276,[jx,kO aj])) (lV (i:=4) rfl)
 exact⟨by show nsIn (Hd.K w.params++v) mainGlobals (af "KeyError")=aa ah;kernel_rfl,o,0,m,u⟩
theorem ahi{R:WRecords}{d:WData}(h:WShape.has R d .int=ai):∃i,d=.int i:=by
 cases d with
 |int i=>exact⟨i,rfl⟩
 |_=>cases h
theorem LA{R:WRecords}:∀{l:List WData},WShape.hasItems R l .int=ai->∃ns:List Int,l=ns.map .int
 |[],_=>⟨[],rfl⟩
 |d::l,h=>by
  rw[WShape.hasItems.eq_2] at h
  obtain⟨x,u⟩:=qk.mp h
  obtain⟨i,rfl⟩:=ahi x
  obtain⟨ns,rfl⟩:=LA u
  exact⟨i::ns,rfl⟩
theorem ahj{R:WRecords}{d:WData}(h:WShape.has R d (.list .int)=ai):∃ns:List Int,d=.list (ns.map .int):=by
 cases d with
 |list l=>
  have z:(WShape.hasItems R l .int||aj)=true:=h
  rw[Bool.or_false] at z
  obtain⟨ns,rfl⟩:=LA z
  exact⟨ns,rfl⟩
 |_=>cases h
set_option backward.match.sparseCases true in
theorem ahk(l:List WData):WTm.holds [] Hd.R1.pre {args:=[.list l]}=!decide ((63:Int)<l.length):=by
 show WTm.holds [] (WTm.and (WTm.not (WTm.lt (WTm.lit (Aj 63)) (WTm.arg 0).len)) (WTm.lit (oE ai))) _=_
 have e:less? (Aj 63) (Aj (l.length:Int))=aa (decide ((63:Int)<l.length)):=rfl
 show(match(match(match(match aa (Aj 63),aa (Aj (l.length:Int)) with
       |some x,aa y=>Option.map oE (less? x y)
       |x,x_1=>ah) with
      |some (oE b)=>aa (oE !b)
      |x=>ah) with
  |some (oE aj)=>aa (oE aj)
  |some (oE ai)=>aa (oE ai)
  |x=>ah) with
  |some (oE ai)=>ai
  |x=>aj)=_
 dsimp only
 rw[e]
 cases decide ((63:Int)<l.length)<;>rfl
theorem ahl{args:List WData}(h:Hd.R1.row.toRowW.claim.pre args=ai):∃ns:List Int,args=[.list (ns.map .int)]/\ns.length<=63:=by
 have z:(WShape.hasAll [] args [.list .int]&&WTm.holds [] Hd.R1.pre {args:=args})=true:=h
 obtain⟨x,u⟩:=qk.mp z
 match args,x,u with
 |[],x,_=>rw[WShape.hasAll.eq_1] at x;cases x
 |[d],x,u=>
  rw[WShape.hasAll.eq_3] at x
  obtain⟨ns,rfl⟩:=ahj (qk.mp x).1
  rw[ahk,i8] at u
  refine⟨ns,rfl,?_⟩
  have:¬(63:Int)<ns.length:=by simpa using u
  exact eO.mp (nD.mp this)
 |d::e::r,x,_=>
  rw[WShape.hasAll.eq_3,WShape.hasAll.eq_2,ME] at x
  cases x
theorem ahm{R:WRecords}{y:Str->Option Addr}{h:Heap}{ns:List Int}:∀{q:List Value} {as:List Addr},ReadsAllW R y h q (ns.map .int) as->Each qC ns q:=by
 induction ns with
 |nil=>intro q as h;obtain⟨rfl,_⟩:=readsAllW_nil_inv h;exact .nil
 |cons n ns p=>intro q as h;obtain⟨v,z,_,_,rfl,_,x,u⟩:=readsAllW_cons_inv h;obtain⟨t,rfl,_⟩:=readsW_int_inv x;exact .cons ⟨_,rfl⟩ (p u)
theorem ahn{R:WRecords}{j:Str->Option Addr}{h:Heap}{ns:List Int}{vals:List Value}{as:List Addr}(y:ReadsAllW R j h vals [.list (ns.map .int)] as):∃b o q n,vals=[.ref b]/\h.get? b=aa o/\o.cls=.type "list"/\o.data=.seq (q:List Value).toArray n/\Each qC ns q:=by
 obtain⟨v,z,_,_,rfl,_,x,u⟩:=readsAllW_cons_inv y
 obtain⟨rfl,_⟩:=readsAllW_nil_inv u
 obtain⟨a,q,k,rfl,⟨o,p,g,n,m⟩,V,_⟩:=readsW_list_inv x
 exact⟨_,_,q.toList,_,rfl,p,g,m,ahm V⟩
theorem aho{K:Frag}{h:Heap}{b:Addr}{o:Obj}(q:K.In h)(u:h.get? b=aa o):oB b (K++[(b,o)])=aa o/\Frag.In (K++[(b,o)]) h:=by
 have p:∀a,oB a (K++[(b,o)])=match oB a K with
  |some x=>aa x
  |none=>if a==b then aa o else none:=λa=>by
  rw[List.lookup_append]
  cases oB a K with
  |some x=>rfl
  |none=>
   show oB a [(b,o)]=_
   rw[Mp]
   cases a==b<;>rfl
 refine⟨?_,λa x z=>?_⟩
 ·rw[p]
  cases e:oB b K with
  |none=>simp
  |some x=>rw[q _ _ e] at u;cases u;rfl
 ·rw[p] at z
  cases e:oB a K with
  |some y=>rw[e] at z;cases z;exact q _ _ e
  |none=>
   rw[e] at z
   by_cases v:a=b
   ·subst v;simp at z;subst z;exact u
   ·simp[v] at z
theorem walk:WalkO Hd.Q Hd.lo (λz z=>True) Hd.YP Hd.R1.row.toRowW Hd.wL [] λf H=>jS f H:=λw p x mg mb gr A a o pm cd a1 dV kV ho i1 p1 o1 j q u1 vals as Y y1 u M e1=>by
 obtain⟨ns,rfl,V⟩:=ahl Y
 have O:a=824:=by
  have h1:=mg_of A gr.T.g (ahg w.params)
  have h2:Hd.wL.name=af "law":=by kernel_rfl
  rw[h2] at j
  rw[h1] at j
  cases j
  rfl
 subst O
 obtain⟨b,ol,H,n,rfl,hg,g,hd,hr⟩:=ahn u
 ·skip
  obtain⟨B,G⟩:=aho (b:=b) A hg
  let k:Ev:=bH (λz=>[]) λz=>[]
  have gl:∀i:Nat,Good 1000 ((λz=>[]:Nat->List Nat) i):=λz=>⟨bP _,λc g=>Om.nm g⟩
  have ok:f5 k:=zc gl λz=>bP _
  have U:gJ k:=zd gl (bP _)
  let W:=Wx w [(b,ol)] (looseW Hd.Q Hd.lo) (ExcName.means p.heap) mg mb x.os x.gens k ok
  have hs:qe W.K b ns:=⟨H,_,n,B,g,hd,hr⟩
  have hl:ns.length<=1000:=by exact aq V (aB rfl)
  refine wpAny_mono (ahe (D:=WS W) (T:=T) (pF (WS W) [(b,ol)] rfl) (s:=x) ⟨rfl,rfl⟩ (ahf w.params _) rfl rfl G gr.T (n:=20) (by decide) (agP (W:=W) U (ahh ..) hs hl)) (λv s' h=>?_) λz z h=>h.elim
  obtain⟨rfl,L,_,C,m⟩:=h
  refine⟨.inl ⟨.bool ai,.bool ai,[],rfl,λd1=>by kernel_rfl,.bool ai,by kernel_rfl,λz=>⟨wu,λa h=>by cases h⟩⟩,OldK.of_keep L,C,λy hy=>?_⟩
  have e:s'.gens=x.gens:=m
  rw[e,q] at hy
  simp at hy
theorem holds:Hd.R1.Holds:=Hd.head walk
end
end Lw
theorem PySem.Challenge.cw_te0077_02_holds : PySem.Challenge.rw_te0077_02.Holds :=
  Lw.holds
