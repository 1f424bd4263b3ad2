import PyProof.Rows.All
import Wide.All
import OpenK.AllK
import Wide.FinOn
import KE.KTryDeep
import KE.KTryDeepN
import KE.KTab
import PyProof.Cells
import KE.KPop
import KE.KAnyBase
import PyProof.SliceMore
import PyProof.StrLoop
import PyProof.StrWalks
import PyProof.DictWalks
import KE.KPairComp
import PyProof.CompMap
import PyProof.PlainList
import PyProof.CompFree
import PyProof.TupleIter
import PyProof.Rows.EqDataRows
import PyProof.P3Eq
import PyProof.IsiHeapPairs
import PyProof.DictUpdate
import PyProof.ConsumeWalk
import PyProof.AttrMissSeq
import PyProof.ToksMono
import KE.KDictOf
import OpenK.KMake
import PyProof.StrLawsLast
import PyProof.StrLawsTight
import PyProof.Rows.TupDisplay
import PyProof.TupleKey
import PyProof.DictRoadsH
import PyProof.RangeFor
import PyProof.WalksMore
import PyProof.Rows.FactsExc_KeyError
import PyProof.Rows.SumAny
import KE.KTabLook
import Lean
import PySem.Challenge.RW_te0077_01
set_option Elab.async false
set_option linter.all false
set_option tactic.hygienic false
set_option maxRecDepth 1000000
set_option maxHeartbeats 4000000
open Array renaming getElem?_toList→uF,length_toList→yu,toList_append→JY
open Bool renaming and_eq_true_iff→uH,and_eq_true→aY,eq_iff_iff→pI,false_eq_true→rC,false_ne_true→yv,false_or→Ku,noConfusion→Kd,not_eq_true'→Cr,not_true→CY,not→yM,or_eq_false_iff→JV,or_eq_true→iI,or_false→CX,rec→aj
open Int renaming add_comm→C0,add_sub_cancel→J3,eq_ofNat_of_zero_le→afh,fmod_lt_of_pos→J2,fmod_nonneg_of_pos→JQ,le_add_of_sub_right_le→ae7,le_of_eq→uX,le_of_lt→ko,le_trans→b8,lt_of_le_of_lt→Cm,lt_of_lt_of_le→uJ,natCast_add→Kh,natCast_nonneg→cT,neg_add_cancel_left→afg,neg_le_neg→Kq,neg_nonpos_of_nonneg→yb,not_lt→nJ,ofNat_le→dX,ofNat_lt→kj,sub_nonpos_of_le→JU,sub_right_le_of_le_add→ae6,toNat_le→pK,toNat_lt→yI,toNat_of_nonneg→Ck,toNat→aM
open Int.ofNat renaming inj→uS
open List renaming all_cons→nD,all_eq_true→bH,any_cons→CW,any_eq_true→yz,append_assoc→bD,append_ne_nil_of_right_ne_nil→JK,append_nil→dW,cons_append→Cy,cons_ne_nil→Cw,contains_iff_mem→afp,count_cons_of_ne→afo,dropWhile_cons_of_neg→ae5,dropWhile_cons_of_pos→ae4,dropWhile_sublist→rm,drop_drop→uQ,drop_eq_getElem_cons→kg,drop_eq_nil_of_le→nA,drop_sublist→J5,drop_subset→uN,drop_zero→pJ,eq_nil_of_length_eq_zero→pq,filterMap_cons→JX,filter_cons→Ka,find?_cons→yE,flatMap_append→nB,flatMap_cons→Cp,flatMap→Kz,forIn_cons→rG,getD_eq_getElem?_getD→kc,getElem?_append_left→Cd,getElem?_append_right→fj,getElem?_eq_getElem→iD,getElem?_eq_none_iff→pB,getElem?_eq_none→afn,getElem?_eq_some_iff→dg,getElem?_map→rF,getElem?_of_mem→yk,getElem?_take_of_lt→ya,getElem?_toArray→pC,getElem_mem→J9,length_append→bG,length_cons→jA,length_drop→ja,length_eq_one_iff→afk,length_map→gE,length_nil→yD,length_range→yx,length_take_le→yo,length_take→lN,lookup_cons_self→Cg,lookup_cons→J8,lookup→nF,map_append→cy,map_congr_left→uI,map_cons→eL,map_id→C3,map_inj_left→uL,map_map→Ky,map_take→Ks,mem_append_left→uG,mem_append_right→bF,mem_append→f7,mem_cons→bV,mem_flatMap→Cv,mem_map_of_mem→rz,mem_map→dh,mem_of_getElem?→fZ,mem_of_mem_drop→JS,mem_range→Ko,mem_singleton→dU,nil_append→pH,nodup_append→pG,nodup_cons→cM,nodup_nil→CT,of_mem_zip→Cz,pairwise_flatMap→afm,pairwise_iff_getElem→JN,perm_append_comm_assoc→pA,perm_middle→iH,prefix_append→cu,prefix_rfl→Kg,range'→C2,range→dK,rec→bu,size_toArray→rD,sublist_append_left→afb,sublist_append_right→ae9,takeWhile_cons_of_neg→JM,takeWhile_cons_of_pos→Cc,takeWhile_sublist→ye,take_add_one→Co,take_append_drop→gB,take_left→rI,take_length→Cu,take_of_length_le→fq,take_succ_cons→ym,take_succ_eq_append_getElem→JL,take_take→Kn,take_zero→Km,zip_cons_cons→J1
open List.Perm renaming append_left→ru,append_right→JP
open List.Sublist renaming refl→jy
open List.cons renaming inj→rJ
open Nat renaming add_assoc→nC,add_comm→f9,add_le_add_left→eG,add_le_add_right→gC,add_le_add→dm,add_right_comm→rB,add_sub_cancel'→pD,add_sub_cancel_left→kh,add_zero→CZ,beq_refl→uU,beq→aB,ble_eq_true_of_le→yh,ble→av,blt→cW,eq_of_beq_eq_true→bh,exists_eq_add_of_le→afe,le_add_left_of_le→yg,le_add_left→lO,le_add_right_of_le→yc,le_add_right→bC,le_antisymm→jC,le_iff_lt_or_eq→JW,le_mul_of_pos_left→afj,le_of_ble_eq_true→ao,le_of_eq→aA,le_of_lt_succ→yw,le_of_lt→gF,le_of_not_le→yy,le_of_not_lt→lM,le_of_sub_eq_zero→Cf,le_of_succ_le_succ→uB,le_refl→az,le_succ→cV,le_total→Kw,le_trans→ah,lt_irrefl→CV,lt_of_le_of_lt→cK,lt_of_le_of_ne→J0,lt_of_lt_of_eq→eH,lt_of_lt_of_le→iF,lt_of_not_le→Ct,lt_of_succ_lt_succ→afi,lt_succ_self→iG,min_eq_left→gD,min_eq_right→Cs,min_le_left→Ke,min_le_right→J7,mul_le_mul_left→lK,ne_of_gt→uT,ne_of_lt→cU,not_le→yK,not_lt_zero→yC,not_lt→nH,one_pos→C1,pos_of_ne_zero→JZ,rec→cD,sub_add_cancel→pF,sub_eq_zero_of_le→uE,sub_le_sub_right→JR,sub_le→yJ,sub_lt_sub_left→Cj,sub_lt→C5,sub_pos_of_lt→Cn,sub_self→nE,sub_zero→Kv,succ_le_succ→jz,succ_ne_self→J6,succ_pos→ki,zero_add→jb,zero_le→ef
open Ne renaming symm→fH
open Option renaming isSome_iff_exists→afa,none→af,rec→aU
open Option.some renaming inj→jB
open Prod renaming fst→aN
open Prod.mk renaming inj→gn
open PyProof.Rows.KTD.Dat renaming flat→yH
open PySem renaming Scope→bW,call→iJ,strKind→yG
open PySem.Around renaming frames_deeper→yl
open PySem.BindsTo renaming of_eq→bP
open PySem.Builtin renaming divisionGoesByPylong→x9
open PySem.Builtin.Dict renaming pairItems→afl,selfAndRest→afd,updateFrom→Ce
open PySem.Builtin.Str renaming glued→uM
open PySem.Builtin.Tuple renaming tupleHashOf→uA
open PySem.Calls renaming Name_function_global→ae8,loadGlobal_builtin→afc
open PySem.Code renaming builtin→pL
open PySem.F renaming slot_list_getattribute→JO,slot_tuple_hash→Cq
open PySem.Heap renaming ExtBut→C4,SameBut→jF,dictOf_iff→rH,get?_push_of_some→iE,get?_push_size→rA,lt_size→b4,size_push→yF
open PySem.NameKind renaming free→uR
open PySem.Pv renaming callWith_type1→J4
open PySem.PyData renaming keyHash→jD,strOk→jE
open PySem.Str renaming append→uY,cps_append→Kl,join→rM,length→gb,ofString→aa
open PySem.StrLaws renaming At→rK,glued_eq_join→uC
open PySem.Txt renaming item→fG,join→kq,replace→fu,slice→b5,startswith→lP
open PySem.Value renaming bool→je,builtin→CU,int→jf,none→gG,ref→pO,str→pM
open PySem.W.Fast renaming lEq_iff→Ci,lEq→f6
open PySem.W.InstAt renaming of_news→Kr
open PySem.W.KtsDicts renaming turn→uD
open PySem.W.KtsTurn renaming refl→uV
open PySem.W.WData renaming bool→nG,int→yL
open PySem PySem.W PyProof.Rows PySem.Calls
section
namespace Hd
noncomputable section
noncomputable abbrev P1:Program:=PySem.Challenge.pw_te0077_01
noncomputable abbrev r (a:Nat):Value:=.ref a
noncomputable abbrev S (s:String) (t:Nat):Value:=.str (aa s) t
noncomputable abbrev I (i:Int) (t:Nat):Value:=.int i t
noncomputable abbrev N:Value:=.none
noncomputable abbrev E (P:Params) (s:String) (t:Nat) (v:Value):DictEntry:=⟨jD P (aa s),.str (aa s) t,v⟩
noncomputable abbrev tup (l:List Value):Obj:={cls:=.type "tuple",data:=.seq l.toArray 0}
noncomputable abbrev lst (l:List Value) (n:Nat):Obj:={cls:=.type "list",data:=.seq l.toArray n}
noncomputable abbrev dct (l:List DictEntry) (n:Nat):Obj:={cls:=.type "dict",data:=.dict l.toArray n}
noncomputable abbrev KA (l:List Value):Obj:={cls:=.type "code",data:=.fields l.toArray}
noncomputable def st (i:Nat):Stmt:=(P1.main.body[i]?).getD (.Pass default)
set_option backward.match.sparseCases false in
noncomputable def cs (i j:Nat):Stmt:=match st i with
 |.ClassDef _ _ _ b _ _ _ _ _ _ _=>(b[j]?).getD (.Pass default)
 |_=>.Pass default
set_option backward.match.sparseCases false in
noncomputable def yN (x:Stmt) (q:Str) (dV kV doc pm:Value) (an:Option Nat) (cd ct:Value) (d:Option Nat) (sl:Array (Option Value)):Obj:=match x with
 |.FunctionDef n a b _ _ _ sc _ _ _=>⟨.type "function",d,.func {name:=n,qualname:=q,params:=a,body:=.stmts b,scope:=sc,globals:=mainGlobals,closure:=[],defaults:=dV,kwdefaults:=kV,doc:=doc,pyModule:=pm,annotations:=an,code:=cd,closureTuple:=ct,builtins:=builtinsNs},sl⟩
 |_=>default
noncomputable abbrev fnc (x:Stmt) (q:String):=yN x (aa q)
noncomputable def C6 (x:Stmt) (q:Str):FuncData:=match x with
 |.FunctionDef n a b _ _ _ sc _ _ _=>{name:=n,qualname:=q,params:=a,body:=.stmts b,scope:=sc,globals:=0,closure:=[],defaults:=.none,kwdefaults:=.none}
 |_=>default
noncomputable def rO:Nat→List Str→List Value
 |_,[]=>[]
 |t,s::l=>.str s t::rO (t+1) l
noncomputable def uZ (t:Nat) (s:String):List Value:=rO t ((aa s).cps.toList.map fun c=>⟨#[c]⟩)
noncomputable def hob (c:String) (l:List Value):Obj:=⟨.type c,none,.fields l.toArray,#[]⟩
noncomputable def hfl (l:List Value):Obj:=⟨N,none,.fields l.toArray,#[]⟩
noncomputable def yO (t:Nat):Value:=S "/claim/cut.py" t
noncomputable def u0 (n q:Str) (t k:Nat) (ln ac fg:Int) (f:Bool) (b:Nat) (z:List Value):Obj:=KA ([.str n t,.str q (t+1),yO (t+2),I ln 0,I ac 0,I 0 0,I 0 0,I fg 0,r b,.bool f,I 181 0,r (b+1)]++z++[I k 0,I ln 0,yO (k+1)])
noncomputable def hfo (m d:Value) (p:Str) (b t:Nat):Stmt→List Obj×Nat
 |.FunctionDef n a y e f g sc h i ps=>
  let x:=.FunctionDef n a y e f g sc h i ps
  let fg:=bif sc.isGenerator then 35 else 3
  match localNames a sc (.stmts y) with
  |some (v,_)=>([tup [],hfl [],tup (rO (t+3) v),tup [],⟨N,none,.func (C6 x (p++n)),#[]⟩,u0 n (p++n) t (t+3+v.length) ps.line a.args.length fg true b [N,r (b+2),r (b+3),r (b+4)],yN x (p++n) d N N m none (r (b+5)) N none #[]],t+5+v.length)
  |none=>([tup [],hfl [],⟨N,none,.func (C6 x (p++n)),#[]⟩,u0 n (p++n) t (t+3) ps.line a.args.length fg true b [N,N,N,r (b+2)],yN x (p++n) d N N m none (r (b+3)) N none #[]],t+5)
 |_=>([],t)
set_option backward.match.sparseCases false in
noncomputable def KC:Expr→Value
 |.Constant (.bool b) _ _=>.bool b
 |_=>N
noncomputable def hfs (P:Params) (m:Value) (p:Str):List Stmt→Nat→Nat→List Obj×List DictEntry×List Value×Nat
 |[],_,t=>([],[],[],t)
 |x::l,b,t=>match x with
  |.FunctionDef n a _ _ _ _ _ _ _ ps=>match a.defaults with
   |[]=>match hfo m N p b t x with
    |(o,k)=>match hfs P m p l (b+o.length) (k+1) with
     |(A,B,C,D)=>(o++A,⟨jD P n,.str n k,r (b+o.length-1)⟩::B,I ps.line 0::I 4 0::r (b+o.length-2)::C,D)
   |d=>match hfo m (r b) p (b+1) t x with
    |(o,k)=>match hfs P m p l (b+1+o.length) (k+1) with
     |(A,B,C,D)=>(tup (d.map KC)::o++A,⟨jD P n,.str n k,r (b+o.length)⟩::B,I ps.line 0::I 4 0::r (b+o.length-1)::C,D)
  |_=>hfs P m p l b t
noncomputable def hfr (c g:Nat) (m:Value):Obj:=⟨.type "frame",none,.plain,#[some (r c),some (r 3),some (r g),none,some m,none,some (r 0)]⟩
noncomputable def hcl (P:Params) (b t f:Nat) (m:Value) (ex:List DictEntry):Stmt→List Obj
 |.ClassDef n _ _ y _ _ _ _ _ sa ps=>match hfs P m (n++aa ".") y (b+7) f with
  |(A,B,C,k)=>
   let e:=b+7+A.length
   let k:=k+sa.length
   let q:=aa
   [tup [.type "object"],hob "builtin_function_or_method" [.builtin "type.__prepare__",.type "type"],
    dct (E P "__module__" (t+7) m::E P "__qualname__" (t+9) (.str n (t+8))::E P "__firstlineno__" (t+11) (I ps.line (t+10))::ex++B++[E P "__static_attributes__" k (r e)]) (4+ex.length+B.length),
    tup [],hfl C,u0 n n (t+2) (t+5) ps.line 0 0 false (b+3) [N,N,N,N],hfr (b+5) (b+2) m]++A++
   [tup (rO (k-sa.length) sa),
    dct (E P "__module__" (t+7) m::E P "__firstlineno__" (t+11) (I ps.line (t+10))::ex++B++[E P "__static_attributes__" k (r e),E P "__dict__" (k+2) (r (e+3)),E P "__weakref__" (k+4) (r (e+4)),E P "__doc__" (k+5) N]) 4,
    ⟨.type "type",none,.cls {name:=n,bases:=[.type "object"],mro:=[r (e+2),.type "object"],ns:=e+1,qualname:=n,hasDict:=true,slotNames:=[],subclasses:=[],abstract:=false,collection:=none,hasDel:=false},#[some (r b),none,some (.str n t),some (.str n (t+8)),some (.builtin "object.__new__"),some (.bool true)]⟩,
    hob "getset_descriptor" [S "__dict__" (k+1),r (e+2),.builtin "function.__dict__",.builtin "function.__dict__#set"],
    hob "getset_descriptor" [S "__weakref__" (k+3),r (e+2),.builtin "ExceptionGroup.__weakref__",N],
    hob "super" [r (e+2),r (e+2),r (e+2)],hob "builtin_function_or_method" [.builtin "object.__init_subclass__",r (e+2)]]
 |_=>[]
noncomputable def hit (a n:Nat) (X:List Value):List Obj:=[lst X n,hob "str_ascii_iterator" [N,I n 0],tup [],hob "StopIteration" [r (a+2),N,N,N,.bool false,N],tup X]
noncomputable def yP:Expr→Nat→Value
 |.Constant (.str s) _ _,t=>.str s t
 |.Constant (.int i) _ _,t=>.int i t
 |_,_=>N
noncomputable def KD (P:Params):Value→Int
 |.str s _=>jD P s
 |.int i _=>i
 |_=>0
set_option backward.match.sparseCases false in
noncomputable def hen (P:Params) (g:Nat):Nat→List (Option Expr)→List Expr→List DictEntry
 |t,some a::l,b::k=>⟨KD P (yP a t),yP a t,yP b (t+1)⟩::hen P g (t+g) l k
 |_,_,_=>[]
set_option backward.match.sparseCases false in
noncomputable def hent (P:Params) (g u h v:Nat):Stmt→Nat→List DictEntry
 |.Assign _ (.Dict ks vs _) _,t=>hen P g t (ks.take u) (vs.take u)++hen P h v (ks.drop u) (vs.drop u)
 |_,_=>[]
noncomputable def hm1:Value:=S "html5lib.constants" 194
noncomputable def hm2:Value:=S "html5lib._inputstream" 564
noncomputable def C7:Value:=S "html5lib._trie.py" 738
noncomputable def nK:Value:=S "html5lib._tokenizer" 827
noncomputable def rP:Value:=S "law_te0077_01" 1444
noncomputable def pP (P:Params):List DictEntry:=hent P 3 34 2 401 (st 8) 299
noncomputable def C8 (P:Params):List DictEntry:=hent P 3 34 3 0 (st 9) 429
noncomputable def KG (P:Params):List DictEntry:=[E P "__doc__" 166 N,E P "__package__" 167 N,E P "__loader__" 168 (.builtin "__main__.__loader__#opaque"),E P "__spec__" 169 N,E P "__annotations__" 170 (r 6),E P "__builtins__" 171 (r 4),E P "__file__" 173 (yO 172),E P "__cached__" 174 N]++
 [("_wall",193,21),("EOF",196,0),("spaceCharacters",202,22),("asciiLetters",256,27),("digits",268,32),("hexDigits",292,37),("asciiLower",298,42),("entities",428,43),("replacementCharacters",531,46),("tokenTypes",556,48),("tagTokenTypes",563,49),("Text",604,73),("_is_invalid",611,84),("HTMLUnicodeInputStream",737,166),("bisect_left",751,178),("Trie",826,230),("entitiesTrie",843,236),("HTMLTokenizer",1443,762),("_law_PIECES",1470,767),("_law_TABLE",1476,774),("_law_call",1484,781),("_law_begin",1490,786),("_law_flag",1497,793),("_law_tag",1503,798),("_law_queue",1512,805),("_law_place",1523,812),("_law_sent",1529,817),("law",1535,822)].map fun x:String×Nat×Nat=>bif x.2.2==0 then E P x.1 x.2.1 N else E P x.1 x.2.1 (r x.2.2)
noncomputable def KH:List Value:=[(1,20),(10,41),(17,55),(27,83),(29,90),(134,177),(144,184),(182,252),(1187,773),(1189,780),(1219,785),(1224,792),(1226,797),(1231,804),(1239,811),(1248,816),(1262,821)].flatMap fun x:Nat×Nat=>[I x.1 0,I 0 0,r x.2]
noncomputable def gl (P:Params) (nm:Value) (k:Nat):Obj:=dct (E P "__name__" 165 nm::(KG P).take k) (k+1)
noncomputable def lQ (k:Nat):Obj:=hfl (KH.take (3*k))
noncomputable def obs (P:Params):List Obj:=[u0 (aa "<module>") (aa "<module>") 182 185 1 0 0 false 11 [N,N,N,N],hfr 13 3 (S "__main__" 164)]++
 (hfo (S "__main__" 164) N default 15 187 (st 0)).1++tup (uZ 197 "\t\n\x0c \x0d")::hit 23 52 (uZ 204 "abcdefghijklmnopqrstuvwxyzABCDEFGHIJKLMNOPQRSTUVWXYZ")++hit 28 10 (uZ 258 "0123456789")++hit 33 22 (uZ 270 "0123456789abcdefABCDEF")++
 (hfo hm1 N default 38 293 (st 7)).1++[dct (pP P) 43,dct ((pP P).drop 17|>.take 17) 17,dct ((pP P).drop 34) 9,dct (C8 P) 34,dct ((C8 P).drop 17) 17,dct (hent P 2 8 2 0 (st 10) 532) 8,tup [I 3 539,I 4 541,I 5 543]]++
 hcl P 50 566 578 hm2 [] (st 13)++(hfo hm2 N default 78 605 (st 14)).1++hcl P 85 612 626 hm2 [E P "_defaultChunkSize" 625 (I 10240 624)] (st 15)++
 tup [I 0 740,N]::(hfo C7 (r 171) default 172 741 (st 17)).1++hcl P 179 752 764 C7 [] (st 18)++
 [dct [E P "_data" 832 (r 43),E P "_keys" 834 (r 243),E P "_cachestr" 837 (S "" 835),E P "_cachepoints" 842 (r 246)] 4,⟨r 230,some 235,.plain,#[]⟩,⟨.type "frame",none,.dict #[E P "self" 829 (r 236),E P "data" 830 (r 43)] 2,#[]⟩,hob "dict_keys" [r 43],
  lst ((pP P).map (·.key)) 45,hob "dict_keyiterator" [N,I 43 0,I 43 0,I 43 0],tup [],hob "StopIteration" [r 241,N,N,N,.bool false,N],lst ((pP P).map (·.key)) 2,tup ((pP P).map (·.key)),lst [] 0,tup [I 0 838,I 43 840]]++
 hcl P 247 844 856 nK [] (st 21)++lst (rO 1446 ([" ",">","/","=","\"","'","<","`","\x00","&","a","B","\t","\x0d","\n","\x0c","é","-","amp;","?","\x0d\n","!","Z","𝒳"].map aa)) 0::
 (hfs P rP default ((P1.main.body.drop 24).take 9) 768 1471).1
noncomputable def all (P:Params) (nm:Value) (k j:Nat):List Obj:=boot_o_0 P::boot_o_1 P::boot_o_2 P::gl P nm k::boot_o_4 P::boot_o_5 P::boot_o_6 P::boot_o_7 P::boot_o_8 P::boot_o_9 P::boot_o_10 P::tup []::lQ j::obs P
noncomputable def yQ:List Obj→List Obj
 |[]=>[]
 |[a]=>[a]
 |a::_::l=>a::yQ l
noncomputable def bt:Nat→List Obj→BT
 |0,_=>.nil
 |_+1,[]=>.nil
 |n+1,v::l=>.node v (bt n (yQ l)) (bt n (yQ l.tail))
noncomputable def tr (P:Params) (n:Nat) (nm:Value) (k j:Nat):BT:=bt 11 ((all P nm k j).take n)
noncomputable def env:Env:={scope:=P1.main.scope,locals:=mainNs,globals:=mainNs,cells:=[],code:=r 13,frame:=some 14}
noncomputable def bd:List Stmt:=behindTheImports P1
noncomputable def cE:Code:=.body bd env
noncomputable abbrev q0:Pos:=⟨0,0,0,0⟩
noncomputable abbrev TB:=treeTable
noncomputable abbrev seg:=@PySem.W.Fast.tw10110043849684766642
noncomputable abbrev tT:=PySem.W.Fast.tw14364793385576792824
noncomputable abbrev Z (w:World) (n:Nat) (m:Value) (k j t:Nat) (os:OsState):SharedT:={tree:=tr w.params n m k j,n:=n,life:={},gens:=⟨[]⟩,drawn:={},toks:=t,os:=os}
noncomputable abbrev J (w:World) (n:Nat) (X:SharedT) (b:List Stmt) (p:Pos) (Y:SharedT) (c:Pos):Prop:=seg tT P1 w 11 (some (r 6)) 1 n X (piecesOf b env cE p [topFrame q0])=some (.next,Y,cE,c)
noncomputable abbrev Js (w:World) (n:Nat) (X:SharedT) (b:List Stmt) (p:Pos) (Y:SharedT) (c:Pos):Prop:=segRun treeTable P1 w 11 (some (r 6)) 1 n X.abs (piecesOf b env cE p [topFrame q0])=some (.next,Y.abs,cE,c)
theorem sg{w n X b p Y c}(h:J w n X b p Y c):Js w n X b p Y c:=
 segRun_of ((congrFun (congrFun (congrFun (congrFun (congrFun (congrFun (congrFun (congrFun (congrFun PySem.W.Fast.te10110043849684766642 _) _) _) _) _) _) _) _) _).trans ((congrArg (fun x=>seg x P1 w 11 (some (r 6)) 1 n _ _) PySem.W.Fast.te14364793385576792824).trans h))
noncomputable abbrev JT:=World→Nat→SharedT→List Stmt→Pos→SharedT→Pos→Prop
noncomputable def r0:List Stmt:=bd
noncomputable abbrev j0 (j:JT) (w:World) (os:OsState):Prop:=j w 1429 (Z w 15 (S "__main__" 164) 8 0 187 os) (r0.take 8) ⟨0,0,0,0⟩ (Z w 43 hm1 15 2 299 os) ⟨10,0,11,78⟩
theorem s0(w:World)(os:OsState):j0 Js w os:=sg (byRow2 "special-get-raises" (P:=(j0 J · os)) (fun w=>by kernel_rfl) (fun w=>by kernel_rfl) w)
noncomputable def r1:List Stmt:=(r0.drop 8)
noncomputable abbrev j1 (j:JT) (w:World) (os:OsState):Prop:=j w 1618 (Z w 43 hm1 15 2 299 os) (r1.take 5) ⟨10,0,11,78⟩ (Z w 50 hm2 19 2 566 os) ⟨16,0,16,8⟩
theorem s1(w:World)(os:OsState):j1 Js w os:=sg (byRow2 "special-get-raises" (P:=(j1 J · os)) (fun w=>by kernel_rfl) (fun w=>by kernel_rfl) w)
noncomputable def r2:List Stmt:=(r1.drop 5)
noncomputable abbrev j2 (j:JT) (w:World) (os:OsState):Prop:=j w 1284 (Z w 50 hm2 19 2 566 os) (r2.take 7) ⟨16,0,16,8⟩ (Z w 235 nK 24 7 829 os) ⟨180,0,180,8⟩
theorem s2(w:World)(os:OsState):j2 Js w os:=sg (by kernel_rfl)
noncomputable def r3:List Stmt:=(r2.drop 7)
noncomputable abbrev j3 (j:JT) (w:World) (os:OsState):Prop:=j w 1239 (Z w 235 nK 24 7 829 os) (r3.take 1) ⟨180,0,180,8⟩ (Z w 247 nK 25 7 844 os) ⟨181,0,181,12⟩
theorem s3(w:World)(os:OsState):j3 Js w os:=sg (byRow2 "special-get-raises" (P:=(j3 J · os)) (fun w=>by kernel_rfl) (fun w=>by kernel_rfl) w)
noncomputable def r4:List Stmt:=(r3.drop 1)
noncomputable abbrev j4 (j:JT) (w:World) (os:OsState):Prop:=j w 2504 (Z w 247 nK 25 7 844 os) (r4.take 1) ⟨181,0,181,12⟩ (Z w 767 nK 26 8 1444 os) ⟨182,0,1184,19⟩
theorem s4(w:World)(os:OsState):j4 Js w os:=sg (by kernel_rfl)
noncomputable def r5:List Stmt:=(r4.drop 1)
noncomputable abbrev j5 (j:JT) (w:World) (os:OsState):Prop:=j w 299 (Z w 767 nK 26 8 1444 os) (r5.take 11) ⟨182,0,1184,19⟩ (Z w 823 rP 36 17 1536 os) ⟨1262,0,1307,61⟩
theorem s5(w:World)(os:OsState):j5 Js w os:=sg (by kernel_rfl)
end
end Hd
end
section
namespace Hd
noncomputable section
open PySem.W.Fast
noncomputable abbrev R1:OpenLaw:=PySem.Challenge.rw_te0077_01
noncomputable abbrev KI:=@tw13343964577679436407
noncomputable abbrev KJ:=@tw17119622794617984870
noncomputable abbrev KL:=@tw8326940854005059898
theorem yR(n:Str)(h:KI P1 P1.main.body n=false):readsOut P1 P1.main.body n=false:=
 (congrFun (congrFun (congrFun te13343964577679436407 _) _) _).trans h
theorem meets{p:Program}{b:List Stmt}{ok:Scope→Str→Bool}(h:KJ p b ok=true):namesMeet p b ok=true:=
 (congrFun (congrFun (congrFun te17119622794617984870 _) _) _).trans h
theorem road{lk:Look}{b:List Stmt}(h:KL lk b=true):noRoadLSs lk b=true:=
 (congrFun (congrFun te8326940854005059898 _) _).trans h
theorem k1:readsOut P1 P1.main.body (aa "vars")=false:=yR _ (by kernel_rfl)
theorem k2:readsOut P1 P1.main.body (aa "dir")=false:=yR _ (by kernel_rfl)
theorem k3:readsOut P1 P1.main.body (aa "locals")=false:=yR _ (by kernel_rfl)
theorem k4:List.filter (readsOut P1 P1.main.body) [aa "vars",aa "dir",aa "locals"]=[]:=by
 rw[Ka,k1,Ka,k2,Ka,k3];rfl
theorem k5:noRoadLSs {strict:=!(importedModules P1.main.body).all cThrough.contains,foot:=none,bare:=List.filter (readsOut P1 P1.main.body) [aa "vars",aa "dir",aa "locals"]} P1.main.body=true:=by
 rw[k4];exact road (by kernel_rfl)
theorem k6:namesResolve P1=true:=(congrFun te8377067652309620493 _).trans (by kernel_rfl)
theorem k7:(P1.boundNames.all fun n=>!worldNames.contains n)=true:=by kernel_rfl
theorem k8:namesMeet P1 P1.main.body (fun qq n=>attrL n)=true:=meets (by kernel_rfl)
theorem k9:(sreFenced P1.main&&((moduleNames P1.main.body).isEmpty||lookedIntoSs (moduleNames P1.main.body) P1.main.body))=true:=by kernel_rfl
theorem KN:looksOpen P1=true:=look_both (look_both (look_both (look_both k9 k6) k7) k5) k8
theorem C9:R1.row.wellSaid=true:=by
 have h:R1.row.partSaid=true:=by
  unfold OpenRow.partSaid
  rw[show looksOpen R1.row.toRowW.prog=true from KN]
  kernel_rfl
 unfold OpenRow.wellSaid
 rw[h]
 kernel_rfl
theorem l2:(decide (R1.foot≤(behindTheImports R1.prog).length)&&R1.footing.all footLine)=true:=look_both (by kernel_rfl) ((congrArg (fun f=>R1.footing.all f) te10501279942588096481).trans (by kernel_rfl))
theorem l4:noClassBlock R1.prog R1.footing=true:=(congrFun (congrFun te8179353310426384613 _) _).trans (by kernel_rfl)
theorem l7:noRoadLSs {strict:=true,foot:=some R1.bound',writes:=R1.writes,may:=R1.may} R1.footing=true:=road (by kernel_rfl)
theorem l8:defStands R1.about R1.above=true:=(congrFun (congrFun te9558739934217749035 _) _).trans (by kernel_rfl)
theorem l9:R1.namesIt=true:=(congrFun te16286561074155671207 _).trans (by kernel_rfl)
theorem KO:(R1.bound'.all (fun n=>!builtinNamed n||R1.about==[n]||!R1.reads n))=true:=by kernel_rfl
theorem KP:(namesMeet R1.prog R1.footing fun sc n=>(!(["type","isinstance","issubclass","getattr","hasattr"]:List Str).contains n||sc.names.lookup n==some .globalImplicit)&&
 (R1.may !=some n||sc.kind==.module||sc.names.lookup n==some .globalImplicit))=true:=meets (by kernel_rfl)
theorem KQ:(R1.own.all (fun n=>!builtinNamed n))=true:=by kernel_rfl
theorem KS:namesMeet R1.prog R1.above (fun qq n=>!R1.own.contains n)=true:=meets (by kernel_rfl)
theorem KU:(namesMeet R1.prog R1.footing fun sc n=>sc.kind==.module||sc.names.lookup n !=some .globalExplicit)=true:=meets (by kernel_rfl)
theorem said:R1.wellSaid=true:=by
 unfold OpenLaw.wellSaid
 rw[C9,l4,l7,l8,l9,KO,KP,KQ,KS,KU]
 have e:=uH.mp l2
 rw[e.1,e.2]
 kernel_rfl
end
end Hd
end
section
namespace Hd
noncomputable section
noncomputable def H1 (P:Params):Heap:=⟨(all P rP 36 17).toArray,{}⟩
noncomputable def Sa (w:World) (os:OsState):Shared:=⟨⟨((all w.params (S "__main__" 164) 8 0).take 15).toArray,{}⟩,⟨[]⟩,{},187,os⟩
theorem pre(w:World)(os:OsState):topGo treeTable P1 w 11 (some (r 6)) 12 ⟨boot_heap w.params,⟨[]⟩,boot_drawn,boot_toks,os⟩ (topStub P1)=
 some (Sa w os,⟨denote treeTable cE,cE,q0,[topFrame q0]⟩):=by kernel_rfl
theorem cY(w:World)(os:OsState):segRun treeTable P1 w 11 (some (r 6)) 1 1 (Sa w os) (blockOf bd env cE q0 [topFrame q0])=
 some (.next,SharedT.abs (Z w 15 (S "__main__" 164) 8 0 187 os),cE,q0):=by kernel_rfl
theorem fin(w:World)(os:OsState):topRun treeTable P1 w 11 (some (r 6)) 2 (SharedT.abs (Z w 823 rP 36 17 1536 os)) (restOf (r5.drop 11) env cE ⟨1262,0,1307,61⟩ [topFrame q0])=
 some ⟨H1 w.params,⟨[]⟩,{},1536,os⟩:=by kernel_rfl
noncomputable def Mt:Nat:=12+(1+(1429+(1618+(1284+(1239+(2504+(299+(2))))))))
theorem run(w:World)(os:OsState):topRun treeTable P1 w 11 (some (r 6)) Mt ⟨boot_heap w.params,⟨[]⟩,boot_drawn,boot_toks,os⟩ (topStub P1)=some ⟨H1 w.params,⟨[]⟩,{},1536,os⟩:=by
 have h:=fin w os
 replace h:=piece_app (l:=r5.take 11) (rest:=r5.drop 11) (s5 w os) h
 rw[gB 11 r5] at h
 change topRun _ _ _ _ _ _ _ (restOf (r4.drop 1) _ _ _ _)=_ at h
 replace h:=piece_app (l:=r4.take 1) (rest:=r4.drop 1) (s4 w os) h
 rw[gB 1 r4] at h
 change topRun _ _ _ _ _ _ _ (restOf (r3.drop 1) _ _ _ _)=_ at h
 replace h:=piece_app (l:=r3.take 1) (rest:=r3.drop 1) (s3 w os) h
 rw[gB 1 r3] at h
 change topRun _ _ _ _ _ _ _ (restOf (r2.drop 7) _ _ _ _)=_ at h
 replace h:=piece_app (l:=r2.take 7) (rest:=r2.drop 7) (s2 w os) h
 rw[gB 7 r2] at h
 change topRun _ _ _ _ _ _ _ (restOf (r1.drop 5) _ _ _ _)=_ at h
 replace h:=piece_app (l:=r1.take 5) (rest:=r1.drop 5) (s1 w os) h
 rw[gB 5 r1] at h
 change topRun _ _ _ _ _ _ _ (restOf (r0.drop 8) _ _ _ _)=_ at h
 replace h:=piece_app (l:=r0.take 8) (rest:=r0.drop 8) (s0 w os) h
 rw[gB 8 r0] at h
 exact go_top (pre w os) (piece_block (cY w os) h)
noncomputable def u3:DefRec:=match st 32 with
 |.FunctionDef n a b _ _ _ sc _ _ p=>⟨n,a,b,sc,p⟩
 |_=>⟨default,default,default,default,default⟩
noncomputable def Q:Program:={P1 with main:={P1.main with body:=[st 32]}}
noncomputable def lo:List Str:=[aa "_wall",aa "EOF",aa "spaceCharacters",aa "asciiLetters",aa "digits",aa "hexDigits",aa "asciiLower",aa "entities",aa "replacementCharacters",aa "tokenTypes",aa "tagTokenTypes",aa "Text",aa "_is_invalid",aa "HTMLUnicodeInputStream",aa "bisect_left",aa "Trie",aa "entitiesTrie",aa "HTMLTokenizer",aa "_law_PIECES",aa "_law_TABLE",aa "_law_call",aa "_law_begin",aa "_law_flag",aa "_law_tag",aa "_law_queue",aa "_law_place",aa "_law_sent"]
noncomputable def u4:List Nat:=[2,3,22,27,32,37,41,42,43,46,48,49,62,63,69,70,72,73,83,84,97,98,104,105,111,112,118,119,125,126,132,133,134,140,141,147,148,149,155,156,162,163,165,166,171,177,178,198,199,205,206,212,213,219,220,226,227,229,230,235,236,243,246,254,260,261,274,275,276,282,283,289,290,296,297,303,304,310,311,352,353,534,535,541,542,548,549,555,556,562,563,569,570,576,577,583,584,590,591,761,762,767,773,774,780,781,785,786,792,793,797,798,804,805,811,812,816,817,821,822]
noncomputable def ob (P:Params) (a:Nat):Obj:=((all P rP 36 17)[a]?).getD default
noncomputable def K (P:Params):Frag:=u4.map fun a=>(a,ob P a)
theorem KV(P:Params):u4=(K P).map (·.1):=by
 unfold K
 rw[Ky]
 exact(C3 u4).symm
noncomputable def yS (s:Shared):List (Option Obj):=u4.map s.heap.get?
noncomputable def yT (w:World):List (Option Obj):=(K w.params).map fun p=>some p.2
noncomputable def YP (w:World) (h:Heap):Prop:=(K w.params).In h
theorem size(w:World):((boot_heap w.params).isNs mainGlobals&&(⟨[]⟩:Array GenState).size==0,(boot_heap w.params).objs.size,(boot_heap w.params).nsMap mainGlobals "__annotations__")=(true,11,some (r 6)):=by kernel_rfl
theorem KW(w:World)(os:OsState):(staticsOk (importedModules P1.main.body) (boot_heap w.params) (H1 w.params)&&namesBound P1 (H1 w.params)&&gensDone ⟨H1 w.params,⟨[]⟩,{},1536,os⟩&&laidKept (boot_heap w.params) (H1 w.params))=true:=by kernel_rfl
theorem KY(w:World)(os:OsState):openSeen Q lo (importedModules P1.main.body) (fun qq=>true) true ⟨H1 w.params,⟨[]⟩,{},1536,os⟩=openGood Q lo:=
 (congrFun (congrFun (congrFun (congrFun (congrFun (congrFun PySem.W.Fast.te4187177175401517315 _) _) _) _) _) _).trans (by kernel_rfl)
theorem KZ(w:World)(os:OsState):yS ⟨H1 w.params,⟨[]⟩,{},1536,os⟩=yT w:=by kernel_rfl
theorem left:LeftO P1 Q lo (fun qq=>true) yS yT 20000 true:=
 LeftO.of_pieces (boot_open (by kernel_rfl) (by decide) (fun qq=>by kernel_rfl)) size run (by kernel_rfl)
  (fun w=>funext fun os=>Prod.ext (KW w os) (Prod.ext (KY w os) (KZ w os)))
theorem head(walk:WalkO Q lo (fun qq qq=>True) YP R1.row.toRowW u3 [] fun f vs=>iJ f vs):R1.Holds:=
 holds_law said fun qq=>holds_open (r:=R1.row) (q:=Q) (loose:=lo) (Xt:=fun qq=>true) (XP:=fun qq qq=>True) (Yf:=yS) (Ya:=yT) (YP:=YP) (d:=u3) (kwd:=[]) (N:=20000)
  left (fun w s e=>Frag.in_of (KV w.params) e) (fun qq qq qq x k=>Frag.In.keeps x k) (fun qq qq=>trivial) (fun qq qq qq qq qq=>trivial)
  (by kernel_rfl) (by kernel_rfl) (by kernel_rfl) (fun qq qq=>recFacts_nil rfl) rfl C9 (by kernel_rfl) ⟨rfl,rfl,rfl,rfl,rfl,by decide+kernel⟩
  ⟨[.list []],by decide+kernel,by decide+kernel⟩ walk
end
end Hd
end
namespace Om
theorem K0(x:Int)(n:Nat):aM (max 0 (min x n))≤n:=pK.mpr (Int.max_le.mpr ⟨cT n,Int.min_le_right x n⟩)
theorem u5{a b:Nat}:aM (max 0 (min (a:Int) b))=min a b:=by
 rw[Int.max_eq_right (Int.le_min.mpr ⟨cT a,cT b⟩)]
 rcases Kw a b with h|h
 ·rw[Int.min_eq_left (dX.mpr h),gD h];rfl
 ·rw[Int.min_eq_right (dX.mpr h),Cs h];rfl
theorem q1{b x e f:Nat}(h0:b+x+e≤10000)(h1:f=e+x):f≤10000:=ah (aA (h1.trans (f9 e x))) (ah (gC (lO x b) e) h0)
theorem q2{a:Nat}(h:a≤10000):a+(a+1)*1≤16777216:=ah (dm h (Nat.mul_le_mul_right 1 (jz h))) (ao rfl)
theorem m2(a:Int):a*2=a+a:=(Int.mul_comm a 2).trans (Int.two_mul a)
theorem e8(d b:Nat){k:Nat}(h:k≤8):d+k+8*b≤d+8*(b+1):=ah (aA (nC d k _)) (eG (ah (aA (f9 k _)) (eG h (8*b))) d)
theorem o5:∀n:Nat,n<5→((n:Int)=0∨(n:Int)=1∨(n:Int)=2∨(n:Int)=3∨(n:Int)=4):=by decide
theorem nm.{u} {α:Type u} {x:α} {P:Prop} (h:x∈([]:List α)):P:=nomatch h
theorem nb{P:Prop}(h:false=true):P:=nomatch h
theorem ns.{u} {α:Type u} {x:α} {P:Prop} (h:none=some x):P:=nomatch h
theorem sn.{u} {α:Type u} {x:α} {P:Prop} (h:some x=none):P:=nomatch h
theorem L0{a:Nat}(h0:(a≤(16777216:Nat))):(¬(((2:Int)^(63:Nat))≤((a:Nat):Int))):=fun h=>absurd (b8 h (dX.mpr h0)) (by decide)
theorem L1{a b:Nat}(h0:(b≤(1000:Nat)))(h1:(b=a)):(((a:Nat):Int)<(9223372036854775808:Int)):=Cm (dX.mpr (ah (aA h1.symm) h0)) (by decide)
theorem L2{a:Int}(h0:((0:Int)≤a))(h1:(a≤(1000:Int))):(a<((2:Int)^(63:Nat))):=Cm h1 (by decide)
theorem L6{a:Nat}(h0:(a≤(1000:Nat))):((-((2:Int)^(63:Nat)))≤((a:Nat):Int)):=b8 (by decide) (cT a)
theorem L7{a:Nat}(h0:(a≤(1000:Nat))):(((a:Nat):Int)<((2:Int)^(63:Nat))):=Cm (dX.mpr h0) (by decide)
theorem L8{a:Nat}(h0:(a≤(1000:Nat))):(¬(((a:Nat):Int)<(0:Int))):=nJ.mpr (cT a)
theorem L9{a:Nat}(h0:(a≤(1000:Nat))):(((a:Nat):Int)≤(1000:Int)):=dX.mpr h0
theorem rQ{a b:Nat}(h0:(b≤(1000:Nat)))(h1:(b=a)):(a≤(16777216:Nat)):=ah (aA h1.symm) (ah h0 (ao rfl))
theorem rR{a b c d:Nat}(h0:(c=(d+(1:Nat))))(h1:((a+c)<b)):(a<b):=cK (bC a c) h1
theorem gH{a b c d:Nat}(h0:(d=(b+(1:Nat))))(h1:((a+d)<c)):(((a+(1:Nat))+b)<c):=cK (aA ((rB a 1 b).trans (congrArg (a+·) h0.symm))) h1
theorem rS{a b c d:Nat}(h0:(d=(b+(1:Nat))))(h1:(((a+((8:Nat)*d))+(40:Nat))<c)):((((a+(3:Nat))+((8:Nat)*b))+(40:Nat))<c):=by subst h0;exact cK (gC (e8 a b (ao rfl)) 40) h1
theorem lR{a b c:Nat}(h0:((a+(c+(1:Nat)))≤b)):(a<b):=iF (cK (bC a c) (iG _)) h0
theorem fJ{a b c:Nat}(h0:((a+(b+(1:Nat)))≤c)):(((a+(1:Nat))+b)≤c):=ah (aA (rB a 1 b)) h0
theorem De{a b:Nat}:((a+(b+(1:Nat)))=((a+(1:Nat))+b)):=(rB a 1 b).symm
theorem K1{a:Nat}:(((0:Nat)+a)≤a):=aA (jb a)
theorem K3{a b c:Nat}(h0:(((a+((8:Nat)*c))+(40:Nat))<b))(h1:((3:Nat)≤c)):((a+(64:Nat))<b):=cK (gC (eG (lK 8 h1) a) 40) h0
theorem K4{a b:Nat}(h0:((a+b)≤(100000:Nat))):(a≤(16777216:Nat)):=ah (bC _ _) (ah h0 (ao rfl))
theorem K5{a b:Nat}(h0:(((a+b)+(1:Nat))≤(100000:Nat))):(((a+(1:Nat))+b)≤(100000:Nat)):=ah (aA (rB a 1 b)) h0
theorem K6{a b:Nat}(h0:(¬(a<b)))(h1:((a-b)=(0:Nat))):(a=b):=jC (Cf h1) (lM h0)
theorem K7{a b c d:Nat}(h0:((d+(b+(1:Nat)))<c))(h1:(a≤(d+(1:Nat)))):((a+b)<c):=cK (ah (gC h1 b) (aA (rB d 1 b))) h0
theorem K8{a b c d:Nat}(h0:(((d+((8:Nat)*(b+(1:Nat))))+(40:Nat))<c))(h1:(a≤(d+(2:Nat)))):(((a+((8:Nat)*b))+(40:Nat))<c):=cK (gC (ah (gC h1 (8*b)) (e8 d b (ao rfl))) 40) h0
theorem K9:((0:Int)<(1:Int)):=by decide
theorem La:((0:Int)≤(0:Int)):=Int.le_refl 0
theorem Lc{a:Int}{b:Nat}:((0:Int)≤(max (0:Int) (min (if(a<(0:Int)) then(a+((b:Nat):Int)) else a) ((b:Nat):Int)))):=Int.le_max_left 0 _
theorem Ld{a b:Int}(h0:((0:Int)≤b))(h1:(b<a)):((aM (((a-b)+(1:Int))-(1:Int)))=((aM a)-(aM b))):=by
 obtain⟨m,rfl⟩:=afh h0
 obtain⟨n,rfl⟩:=afh (b8 h0 (ko h1))
 rw[J3]
 exact Int.toNat_sub n m
theorem Lf{a b:Int}(h0:((0:Int)≤b))(h1:(¬(b<a))):((aM (0:Int))=((aM a)-(aM b))):=(uE (Int.toNat_le_toNat (nJ.mp h1))).symm
theorem Lg{a:Int}{b:Nat}(h0:((0:Int)≤a)):((aM (a+((1:Int)*((b:Nat):Int))))=((aM a)+b)):=(congrArg (fun z=>aM (a+z)) (Int.one_mul _)).trans (Int.toNat_add_nat h0 b)
theorem Lh{a:Nat}:((aM (0:Int))≤a):=ef a
theorem Df{a:Int}{b:Nat}:((aM (max (0:Int) (min (if(a<(0:Int)) then(a+((b:Nat):Int)) else a) ((b:Nat):Int))))≤b):=K0 _ _
theorem Li{a:Nat}:((aM ((a:Nat):Int))≤a):=az a
theorem Lj{a b:Int}{c:Nat}(h0:((aM b)≤c))(h1:((aM a)≤(aM b))):(((aM a)+((aM b)-(aM a)))≤c):=ah (aA (pD h1)) h0
theorem Lk{a b:Int}(h0:(¬((aM b)≤(aM a)))):(((aM a)-(aM b))=(0:Nat)):=uE (yy h0)
theorem Ll{a:Int}{b:Nat}{c:Int}(h0:((aM a)≤b))(h1:((aM c)≤b))(h2:(True∧(((aM c)-(aM a))=b))):((aM a)=(0:Nat)):=Nat.le_zero.mp (Nat.le_of_add_le_add_left (a:=b) (ah (aA ((congrArg (· +_) h2.2.symm).trans (pF (ah h0 (ah (aA h2.2.symm) (yJ _ _)))))) h1))
theorem Lm{a:Nat}{b c:Int}(h0:(True∧(((aM b)-(aM c))=a)))(h1:((aM c)=(0:Nat))):(a≤((aM b)-(0:Nat))):=by rw[←h0.2,h1];exact az _
theorem u6{a b:Nat}(h0:(((a:Nat):Int)<(0:Int))):((aM (max (0:Int) (min (((a:Nat):Int)+((b:Nat):Int)) ((b:Nat):Int))))=a):=(nJ.mpr (cT a) h0).elim
theorem u7{a b:Nat}(h0:(a≤b)):((aM (max (0:Int) (min ((a:Nat):Int) ((b:Nat):Int))))=a):=u5.trans (gD h0)
theorem u9{a b:Nat}(h0:(((a:Nat):Int)<(0:Int))):((aM (max (0:Int) (min (((a:Nat):Int)+((b:Nat):Int)) ((b:Nat):Int))))=b):=(nJ.mpr (cT a) h0).elim
theorem Ln{a b c:Nat}(h0:(c≤b))(h1:((aM (max (0:Int) (min (if(((c:Nat):Int)<(0:Int)) then(((c:Nat):Int)+((b:Nat):Int)) else((c:Nat):Int)) ((b:Nat):Int))))=c))(h2:(¬(a≤b))):((aM (max (0:Int) (min ((a:Nat):Int) ((b:Nat):Int))))=b):=u5.trans (Cs (yy h2))
theorem Lo{a b:Nat}:((a-b)≤(a-b)):=az _
theorem Lq{a b c:Nat}(h0:(b≤a))(h1:((aM (max (0:Int) (min (if(((b:Nat):Int)<(0:Int)) then(((b:Nat):Int)+((a:Nat):Int)) else((b:Nat):Int)) ((a:Nat):Int))))=b))(h2:(¬(c≤a)))(h3:((aM (max (0:Int) (min (if(((c:Nat):Int)<(0:Int)) then(((c:Nat):Int)+((a:Nat):Int)) else((c:Nat):Int)) ((a:Nat):Int))))=a)):((a-b)≤(c-b)):=JR (yy h2) b
theorem yU{a b:Nat}(h0:(¬(a≤b))):((aM (max (0:Int) (min ((a:Nat):Int) ((b:Nat):Int))))=b):=u5.trans (Cs (yy h0))
theorem yV{a b:Nat}(h0:(¬(b≤a)))(h1:((aM (max (0:Int) (min (if(((b:Nat):Int)<(0:Int)) then(((b:Nat):Int)+((a:Nat):Int)) else((b:Nat):Int)) ((a:Nat):Int))))=a)):(a≤b):=yy h0
theorem Lr{a b:Nat}(h0:(b≤a))(h1:((aM (max (0:Int) (min (if(((b:Nat):Int)<(0:Int)) then(((b:Nat):Int)+((a:Nat):Int)) else((b:Nat):Int)) ((a:Nat):Int))))=b)):((a-b)≤((aM ((a:Nat):Int))-b)):=az _
theorem Ls{a:Nat}(h0:((1:Nat)≤a)):((-((a:Nat):Int))<(0:Int)):=Int.neg_neg_of_pos (kj.mpr h0)
theorem Lu{a b:Nat}(h0:((1:Nat)≤a)):((aM (max (0:Int) (min ((-((a:Nat):Int))+((b:Nat):Int)) ((b:Nat):Int))))=(b-a)):=by
 rcases Kw a b with h|h
 ·obtain⟨k,rfl⟩:=afe h
  rw[Kh,afg,←Kh,kh]
  exact u5.trans (gD (lO k a))
 ·rw[uE h,Int.max_eq_left (b8 (Int.min_le_left _ _) (C0 _ _▸JU (dX.mpr h)))]
  rfl
theorem Dg{a:Nat}:(¬(((a:Nat):Int)<(0:Int))):=nJ.mpr (cT a)
theorem Lv{a b c:Nat}(h0:(c≤b))(h1:(a<c)):(¬(a=b)):=cU (iF h1 h0)
theorem Lx{a b c d:Nat}(h0:((b+((b+(1:Nat))*d))≤(16777216:Nat)))(h1:((c*d)≤((b+(1:Nat))*d)))(h2:(a=(16777216:Nat))):(¬(a<(b+(c*d)))):=nH.mpr (ah (eG h1 b) (ah h0 (aA h2.symm)))
theorem Ly{a b:Nat}(h0:((a+((a+(1:Nat))*b))≤(16777216:Nat))):(a≤(16777216:Nat)):=ah (bC _ _) h0
theorem Lz{a:Nat}(h0:((0:Nat)<a)):(a≠(0:Nat)):=Nat.pos_iff_ne_zero.mp h0
theorem LA{a:Nat}(h0:((0:Nat)<a)):((a+(1:Nat))≠(0:Nat)):=Nat.succ_ne_zero a
theorem LB{a:Nat}:(a≠(a+(1:Nat))):=cU (iG a)
theorem LC{a b:Nat}(h0:(a≤b))(h1:(b=(16777216:Nat))):(¬(((2:Int)^(63:Nat))≤((a:Nat):Int))):=L0 (ah h0 (aA h1))
theorem LD{a:Int}{b c:Nat}(h0:((-((b:Nat):Int))≤a))(h1:(b≤c))(h2:(c=(16777216:Nat))):(¬(a<(-((2:Int)^(63:Nat))))):=nJ.mpr (b8 (b8 (by decide) (Kq (dX.mpr (ah h1 (aA h2))))) h0)
theorem LF{a:Int}{b c:Nat}(h0:(a<((b:Nat):Int)))(h1:(b≤c))(h2:(c=(16777216:Nat))):(¬(((2:Int)^(63:Nat))≤a)):=fun h=>L0 (ah h1 (aA h2)) (b8 h (ko h0))
theorem LG{a b:Nat}(h0:(a≤(1000:Nat)))(h1:(b=a)):(((a:Nat):Int)<((2:Int)^(63:Nat))):=L7 h0
theorem LH{a:Int}{b:Nat}(h0:((0:Int)≤a))(h1:(a<((b:Nat):Int)))(h2:(b≤(1000:Nat))):((aM a)<b):=(yI h0).mpr h1
theorem LI{a:Int}{b:Nat}(h0:(a<((b:Nat):Int)))(h1:(b≤(1000:Nat))):(a<((2:Int)^(63:Nat))):=Int.lt_trans h0 (L7 h1)
theorem LJ{a:Nat}(h0:(a≤(1000:Nat))):((a+(1:Nat))≤(16777216:Nat)):=ah (jz h0) (ao rfl)
theorem Dh{a:Nat}:((1:Nat)≤(a+(1:Nat))):=lO _ _
theorem LK{a:Nat}(h0:((1:Nat)≤a)):((-((a:Nat):Int))≤(-1:Int)):=Kq (dX.mpr h0)
theorem LL{a:Nat}(h0:((1:Nat)≤a)):((-1:Int)<((a:Nat):Int)):=uJ (by decide) (cT a)
theorem LM:(¬((-1:Int)<(-((2:Int)^(63:Nat))))):=by decide
theorem LN:(¬(((2:Int)^(63:Nat))≤(-1:Int))):=by decide
theorem LO{a b c:Nat}(h0:((1:Nat)≤b))(h1:((min b (c-a))=b)):((a+b)≤c):=f9 a b▸Nat.add_le_of_le_sub (gF (Nat.lt_of_sub_pos (iF h0 (h1▸J7 b (c-a))))) (h1▸J7 b (c-a))
theorem LP{a b:Nat}:(a<(a+(b+(1:Nat)))):=Nat.lt_add_of_pos_right (ki b)
theorem LQ{a b:Nat}(h0:((a+(1:Nat))≤b)):(a≤b):=ah (bC _ _) h0
theorem LS{a b c:Nat}(h0:(a<((b+(1:Nat))+c))):(a<(b+(c+(1:Nat)))):=iF h0 (aA (rB b 1 c))
theorem Di{a b:Nat}:(((a+(1:Nat))+b)=(a+(b+(1:Nat)))):=rB a 1 b
theorem LU{a b:Nat}(h0:(a≤b)):((a+(b-a))≤b):=aA (pD h0)
theorem Dj{a b:Nat}(h0:(a≤b)):((a+(b-a))=b):=pD h0
theorem LV{a b c d:Nat}(h0:((1:Nat)≤d))(h1:(a≤b))(h2:((b+d)≤c)):((a+(b-a))≤c):=ah (aA (pD h1)) (ah (bC b d) h2)
theorem LW{a b c:Nat}(h0:(c≤b))(h1:(a<(c+(b-c)))):(a<b):=eH h1 (pD h0)
theorem LX{a:Prop}{b:Nat}(h0:((1:Nat)≤b))(h1:(b=(0:Nat))):a:=absurd h1 (Nat.pos_iff_ne_zero.mp h0)
theorem LY{a b c:Nat}(h0:(c≤b))(h1:((a+(1:Nat))≤c)):((a+(1:Nat))≤b):=ah (h1) h0
theorem LZ{a b:Nat}(h0:((a+(1:Nat))≤b)):(a<b):=h0
theorem L5{a b c:Nat}(h0:(a<(min b c))):(a<b):=iF h0 (Ke b c)
theorem Dk{a b:Nat}(h0:(a≤b)):(a≤(b+(1:Nat))):=yc (h0)
theorem Ma{a b:Nat}:(((a+(1:Nat))+b)=(a+(((0:Nat)+(1:Nat))+b))):=nC a 1 b
theorem Mb{a b c:Nat}(h0:((a+(b+(1:Nat)))≤c)):((a+b)≤c):=ah (dm (az _) (bC _ _)) h0
theorem Mc{a:Nat}:((aM (max (0:Int) ((a:Nat):Int)))=a):=congrArg aM (Int.max_eq_right (cT a))
theorem Me{a b:Nat}:((min a b)≤((a+(1:Nat))-(0:Nat))):=ah (Ke a b) (cV a)
theorem Mf{a b c:Nat}(h0:((a+c)≤b)):(a<(b+(1:Nat))):=Nat.lt_succ_of_le (ah (bC a c) h0)
theorem Mg{a b c:Nat}(h0:(a<c)):(a<((a+(1:Nat))+b)):=bC _ _
theorem Mh{a:Nat}:(¬(((a:Nat):Int)=(-1:Int))):=fun h=>absurd (cT a) (by rw[h];decide)
theorem Mi{a b c:Nat}(h0:((b+(c+(1:Nat)))=a)):((((a:Nat):Int)-(((b:Nat):Int)+(1:Int)))=((((0:Nat)+c):Nat):Int)):=by subst h0;rw[jb];exact Int.sub_eq_iff_eq_add.mpr (congrArg Int.ofNat (Nat.add_left_comm b c 1))
theorem Mj:((-1:Int)<(0:Int)):=by decide
theorem Ml{a b:Nat}(h0:(a=(b+(1:Nat)))):(((0:Int)≤((-1:Int)+((a:Nat):Int)))∧(((-1:Int)+((a:Nat):Int))<((a:Nat):Int))):=by subst h0;exact⟨Int.le_neg_add_of_add_le (dX.mpr (jz (ef b))),Int.neg_add_lt_left_of_lt_add (uJ (Int.lt_succ _) (uX (C0 _ 1)))⟩
theorem Mm{a b:Nat}(h0:(a=(b+(1:Nat)))):((aM ((-1:Int)+((a:Nat):Int)))=b):=by subst h0;rw[f9 b 1,Kh];exact congrArg aM (afg 1 ↑b)
theorem Mn{a b:Nat}(h0:(a≤b)):((a+(1:Nat))≤((b+(1:Nat))+(1:Nat))):=dm (yc (h0)) (az _)
theorem Mp{a b:Nat}(h0:(a≤(b+(1:Nat)))):((a+(1:Nat))≤((b+(1:Nat))+(1:Nat))):=dm (h0) (az _)
theorem Mq{a b c:Nat}(h0:(c=b))(h1:(b=(a+(1:Nat)))):(a<b):=aA h1.symm
theorem Mr{a b c d:Nat}(h0:(c=a))(h1:(a=(b+(1:Nat))))(h2:(b<d)):((((a:Nat):Int)-(1:Int))=((b:Nat):Int)):=by subst h1;exact J3 b 1
theorem Ms{a b c d:Nat}(h0:(c=b))(h1:(b=(a+(1:Nat))))(h2:(a<d)):(a≤b):=ah (bC _ _) (aA h1.symm)
theorem Mu{a b c d:Nat}(h0:(b=a))(h1:(a=(c+(1:Nat))))(h2:(c<d)):(¬(((a:Nat):Int)=(0:Int))):=fun h=>Nat.succ_ne_zero c (h1.symm.trans (uS h))
theorem Mv{a b c:Nat}(h0:(a≤(20000:Nat)))(h1:(b<c))(h2:(a=c)):((-((a:Nat):Int))≤((b:Nat):Int)):=b8 (yb (cT a)) (cT b)
theorem Mw{a b c d e:Nat}(h0:(c≤b))(h1:(d=c))(h2:(c=(a+(1:Nat))))(h3:(a<e))(h4:(b=e)):(((a:Nat):Int)<((b:Nat):Int)):=kj.mpr (eH h3 h4.symm)
theorem Mx{a b c:Nat}(h0:(a≤(20000:Nat)))(h1:(b<c))(h2:(a=c)):(a≤(16777216:Nat)):=ah h0 (ao rfl)
theorem My{a b c d e:Nat}(h0:(c≤b))(h1:(d=c))(h2:(c=(a+(1:Nat))))(h3:(a<e))(h4:(b=e)):(a≤b):=ah (gF h3) (aA h4.symm)
theorem Mz{a b c d:Nat}(h0:((c+d)=b))(h1:(a≤d))(h2:(b≤d)):(a≤b):=ah (yg (h1)) (aA h0)
theorem MA{a b c d e f:Nat}(h0:((c+d)≤(10000:Nat)))(h1:(b≤e))(h2:(e<f))(h3:(a≤c))(h4:(d=f)):((a+b)≤(16777216:Nat)):=ah (dm h3 (ah h1 (ah (gF h2) (aA h4.symm)))) (ah h0 (ao rfl))
theorem Dl{a b c:Nat}(h0:((a+b)=c))(h1:(b<c)):((a-(1:Nat))<a):=C5 (JZ fun e=>by subst e;exact CV b (eH h1 (h0.symm.trans (jb b)))) C1
theorem vc{a b c:Nat}(h0:((a+b)=c))(h1:(b<c)):(((a-(1:Nat))+(b+(1:Nat)))=c):=by
 have h:0<a:=JZ fun e=>by subst e;exact CV b (eH h1 (h0.symm.trans (jb b)))
 rw[f9 b 1,←nC,pF h];exact h0
theorem Dm{a b c d e:Nat}(h0:(((a+(c-d))+e)≤(10000:Nat)))(h1:(b=(e+(c-d)))):((a+b)≤(10000:Nat)):=ah (aA ((congrArg (a+·) (h1.trans (f9 _ _))).trans (nC a _ e).symm)) h0
theorem MB{a b c d e:Nat}(h0:(((b+(c-d))+e)≤(10000:Nat)))(h1:(a=(e+(c-d)))):((a+((a+(1:Nat))*(1:Nat)))≤(16777216:Nat)):=q2 (q1 h0 h1)
theorem MC{a b c d e f:Nat}(h0:(((b+(c-d))+e)≤(10000:Nat)))(h1:(f=(e+(c-d))))(h2:(a≤f)):((a+((a+(1:Nat))*(1:Nat)))≤(16777216:Nat)):=q2 (ah h2 (q1 h0 h1))
theorem MD{a b c d e f g:Nat}(h0:(((c+(d-e))+f)≤(10000:Nat)))(h1:(g=(f+(d-e))))(h2:(b=(16777216:Nat)))(h3:(a≤g)):(a≤b):=ah (ah h3 (q1 h0 h1)) (ah (ao rfl) (aA h2.symm))
theorem ME{a b c d e f:Nat}(h0:(((b+(c-d))+e)≤(10000:Nat)))(h1:(f=(e+(c-d))))(h2:(a≤f)):(a≤(20000:Nat)):=ah h2 (ah (q1 h0 h1) (ao rfl))
theorem MG{a b c d e f:Nat}(h0:(c≤(d+e)))(h1:(((a+(c-d))+f)≤(10000:Nat)))(h2:(b=(f+(c-d)))):((((a+b)+(c-(d+e)))+(0:Nat))≤(10000:Nat)):=by rw[uE h0,h2,f9 f,←nC];exact h1
theorem Dn{a b c d e f:Nat}(h0:(((c+(d-e))+f)≤(10000:Nat)))(h1:(a=(f+(d-e))))(h2:(b=(16777216:Nat))):(a≤b):=ah (q1 h0 h1) (ah (ao rfl) (aA h2.symm))
theorem MH{a:Nat}(h0:((1:Int)<((a:Nat):Int))):((1:Nat)<a):=(kj (n:=1)).mp h0
theorem MI{a b c:Nat}(h0:((1:Nat)<a))(h1:(a=(b+(1:Nat))))(h2:(c=b)):((-((a:Nat):Int))≤(-1:Int)):=Kq (dX.mpr (gF h0))
theorem MK{a b c:Nat}(h0:((1:Nat)<a))(h1:(a=(b+(1:Nat))))(h2:(c=b)):((-1:Int)<((a:Nat):Int)):=uJ (by decide) (cT a)
theorem MN{a:Nat}(h0:(((a:Nat):Int)=(13:Int))):(a=(13:Nat)):=uS h0
theorem MP{a b c d e f g:Nat}(h0:(((a+(c-d))+e)≤(10000:Nat)))(h1:(f=(e+(c-d))))(h2:(f=(g+(1:Nat))))(h3:(b=g)):((a+b)≤(10000:Nat)):=ah (eG (ah (aA h3) (ah (cV g) (aA h2.symm))) a) (Dm h0 h1)
theorem MQ{a b c d e f g h:Nat}(h0:(((b+(c-d))+e)≤(10000:Nat)))(h1:(f=(e+(c-d))))(h2:((1:Nat)<f))(h3:(f=(g+(1:Nat))))(h4:(h=g))(h5:(a≤h)):((a+((a+(1:Nat))*(1:Nat)))≤(16777216:Nat)):=q2 (ah h5 (ah (aA h4) (ah (cV g) (ah (aA h3.symm) (q1 h0 h1)))))
theorem MR{a b c d e f g h i:Nat}(h0:(((c+(d-e))+f)≤(10000:Nat)))(h1:(g=(f+(d-e))))(h2:(b=(16777216:Nat)))(h3:((1:Nat)<g))(h4:(g=(h+(1:Nat))))(h5:(i=h))(h6:(a≤h)):(a≤b):=ah h6 (ah (ah (cV h) (aA h4.symm)) (Dn h0 h1 h2))
theorem MS{a:Nat}(h0:((1:Nat)<a))(h1:(a=(1:Nat))):False:=uT h0 h1
theorem MT{a b c d e f g h:Nat}(h0:(((b+(c-d))+e)≤(10000:Nat)))(h1:(f=(e+(c-d))))(h2:((1:Nat)<f))(h3:(f=(g+(1:Nat))))(h4:(h=g))(h5:(a≤g)):(a≤(20000:Nat)):=ah h5 (ah (ah (cV g) (aA h3.symm)) (ah (q1 h0 h1) (ao rfl)))
theorem MU{a b c d e f g h:Nat}(h0:(c≤(d+e)))(h1:(((a+(c-d))+f)≤(10000:Nat)))(h2:(g=(f+(c-d))))(h3:(g=(h+(1:Nat))))(h4:(b=h)):((((a+b)+(c-(d+e)))+(1:Nat))≤(10000:Nat)):=by subst h4;rw[uE h0];exact ah (aA (((congrArg (a+·) (h3.symm.trans (h2.trans (f9 f _))))).trans (nC a _ f).symm)) h1
theorem MW{a:Nat}(h0:((55296:Int)≤((a:Nat):Int)))(h1:(((a:Nat):Int)≤(56319:Int)))(h2:(a=(13:Nat))):False:=by subst h2;exact absurd h0 (by decide)
theorem MX{a:Nat}(h0:((55296:Int)≤((a:Nat):Int)))(h1:(((a:Nat):Int)≤(56319:Int)))(h2:((a<(55296:Nat))∨((57343:Nat)<a))):False:=h2.elim (fun h=>yK.mpr h ((dX (m:=55296)).mp h0)) (fun h=>absurd ((dX (n:=56319)).mp h1) (yK.mpr (Nat.lt_trans (ao rfl) h)))
theorem MY{a b c d:Nat}(h0:(((c+(a-b))+d)≤(10000:Nat))):((a-b)≤((b+(10240:Nat))-b)):=ah (ah (ah (lO _ c) (bC _ d)) h0) (ah (ao rfl) (aA (kh (n:=b) (m:=10240)).symm))
theorem Dp{a b:Nat}(h0:(a≤(10000:Nat)))(h1:(b=(16777216:Nat))):(a≤b):=ah h0 (ah (ao rfl) (aA h1.symm))
theorem yW{a b c d e f:Nat}(h0:(b=(16777216:Nat)))(h1:(a=(c-d)))(h2:(((e+(c-d))+f)≤(10000:Nat))):(a≤b):=ah (ah (yc (yg (aA h1))) (ah h2 (ao rfl))) (aA h0.symm)
theorem Dq{a b c:Nat}(h0:(c=(a-b))):(a≤(b+c)):=Nat.sub_le_iff_le_add'.mp (aA h0.symm)
theorem MZ{a b c:Nat}(h0:(c=(a-b)))(h1:(c=(0:Nat))):(a≤(b+c)):=ah (Cf (h0.symm.trans h1)) (bC b c)
theorem M0:((0:Nat)≤(20000:Nat)):=ao rfl
theorem M1{a b c d:Nat}(h0:(d=(b-c)))(h1:(d=(0:Nat)))(h2:(((a+(b-c))+(0:Nat))≤(10000:Nat))):(((a+(b-(c+d)))+(0:Nat))≤(10000:Nat)):=by subst h1;exact h2
theorem M3{a b:Nat}(h0:(b=(16777216:Nat)))(h1:(a=(1:Nat))):(a≤b):=ah (ah (aA h1) (ao rfl)) (aA h0.symm)
theorem M4{a b c d e f g:Nat}(h0:(c=(16777216:Nat)))(h1:(b=(d-e)))(h2:(((f+(d-e))+g)≤(10000:Nat)))(h3:(a=(1:Nat))):((a+b)≤c):=ah (dm (aA h3) (ah (aA h1) (ah (ah (lO _ f) (bC _ g)) h2))) (ah (ao rfl) (aA h0.symm))
theorem M5{a b:Nat}(h0:(a<b)):((a+(1:Nat))≤b):=h0
theorem M6{a b:Nat}(h0:(((a:Nat):Int)≤((b:Nat):Int))):(a≤b):=dX.mp h0
theorem M7{a:Nat}(h0:((0:Nat)<a))(h1:(a≤(20000:Nat))):((-((a:Nat):Int))≤(0:Int)):=yb (cT a)
theorem M8{a:Nat}(h0:((0:Nat)<a))(h1:(a≤(20000:Nat))):((0:Int)<((a:Nat):Int)):=kj.mpr h0
theorem M9{a b:Nat}(h0:(b=(16777216:Nat)))(h1:((0:Nat)<a))(h2:(a≤(20000:Nat))):(a≤b):=ah (ah h2 (ao rfl)) (aA h0.symm)
theorem Na{a b:Nat}(h0:(¬(((b:Nat):Int)≤((a:Nat):Int)))):(a<b):=Ct fun h=>h0 (dX.mpr h)
theorem Nb{a b c:Nat}(h0:(b<c))(h1:(a=c)):((-((a:Nat):Int))≤((b:Nat):Int)):=b8 (yb (cT a)) (cT b)
theorem Nc{a b c:Nat}(h0:(a<c))(h1:(b=c)):(((a:Nat):Int)<((b:Nat):Int)):=kj.mpr (eH h0 h1.symm)
theorem Nd{a b c:Nat}(h0:(b=(16777216:Nat)))(h1:(a≤(20000:Nat)))(h2:(a=c)):(a≤b):=ah (ah h1 (ao rfl)) (aA h0.symm)
theorem Nf{a b c d e f:Nat}(h0:(c≤(d+(e-f))))(h1:(a≤(20000:Nat)))(h2:(e≤(10000:Nat)))(h3:(d≤(1:Nat))):(((a-b)+c)≤(30001:Nat)):=ah (dm (ah (yJ a b) h1) (ah h0 (dm h3 (ah (yJ e f) h2)))) (az 30001)
theorem Ng{a b c d e:Nat}(h0:(b=(((2:Nat)*c)+d)))(h1:((e+b)≤(90000:Nat)))(h2:(a≤e)):((a+(0:Nat))≤(16777216:Nat)):=ah (dm (h2) (ef _)) (ah h1 (ao rfl))
theorem Dr{a b:Nat}(h0:(b=(16777216:Nat)))(h1:(a≤(20000:Nat))):(a≤b):=ah (ah h1 (ao rfl)) (aA h0.symm)
theorem Nh{a b c d e f g:Nat}(h0:((a+c)≤(90000:Nat)))(h1:((d+(0:Nat))=(e-f)))(h2:(g=(d+b)))(h3:(c=(((2:Nat)*g)+(1:Nat)))):(((a+(1:Nat))+((2:Nat)*b))≤(90000:Nat)):=by subst h2 h3;exact ah (aA (nC a 1 (2*b))) (ah (eG (ah (aA (f9 1 (2*b))) (jz (lK 2 (lO b d)))) a) h0)
theorem Ni{a b c d e f g:Nat}(h0:((a+c)≤(90000:Nat)))(h1:((d+(0:Nat))=(e-f)))(h2:(g=(d+b)))(h3:(f<e))(h4:(c=(((2:Nat)*g)+(0:Nat)))):(((a+(1:Nat))+((2:Nat)*b))≤(90000:Nat)):=by subst h2 h4;exact ah (aA (nC a 1 (2*b))) (ah (eG (ah (aA (f9 1 (2*b))) (ah (cV _) (lK 2 (ah (eG (eH (Cn h3) h1.symm) b) (aA (f9 b d)))))) a) h0)
theorem Nj{a b c d e f g:Nat}(h0:((c+d)=(e-f)))(h1:(g=(c+a)))(h2:(b=(((2:Nat)*g)+(1:Nat)))):(((2:Nat)*a)<b):=cK (lK 2 (ah (lO a c) (aA h1.symm))) (eH (iG _) h2.symm)
theorem Nk{a b c d e f:Nat}(h0:((c+(0:Nat))=(d-e)))(h1:(f=(c+a)))(h2:(e<d))(h3:(b=(((2:Nat)*f)+(0:Nat)))):(((2:Nat)*a)<b):=eH ((Nat.mul_lt_mul_left Nat.two_pos).mpr (eH (Nat.lt_add_of_pos_left (eH (Cn h2) h0.symm)) h1.symm)) h3.symm
theorem Nl{a b c d e f g h:Nat}(h0:((b=(1:Nat))∨((b=(0:Nat))∧(c<d))))(h1:(e=(((2:Nat)*f)+b)))(h2:((a+e)≤(90000:Nat)))(h3:(c≤d))(h4:((g+h)=(d-c)))(h5:(f=(g+h))):((a+(1:Nat))≤(90000:Nat)):=ah (eG (h0.elim (fun h=>ah (aA h.symm) (ah (lO b (2*f)) (aA h1.symm))) (fun h=>ah (eH (Cn h.2) (h4.symm.trans h5.symm)) (ah (ah (afj f Nat.two_pos) (bC _ b)) (aA h1.symm)))) a) h2
theorem Ds{a b c d:Nat}(h0:((a+b)=(c-d)))(h1:((((d+a):Nat):Int)=((d:Nat):Int))):(a=(0:Nat)):=Nat.add_left_cancel (k:=0) (uS h1)
theorem Nm{a:Prop}{b c d:Nat}(h0:(b≤c))(h1:(d=(0:Nat)))(h2:(b≠c))(h3:((d+(0:Nat))=(c-b))):a:=absurd (jC h0 (Cf (h3.symm.trans h1))) h2
theorem Nn{a b c d:Nat}(h0:(b=(((2:Nat)*c)+d)))(h1:((a+b)≤(90000:Nat))):(a≤(90000:Nat)):=ah (bC _ _) h1
theorem Np{a b:Nat}(h0:(((a:Nat):Int)=((b:Nat):Int))):(a=b):=uS h0
theorem Nq{a b c d:Nat}(h0:((b+a)=(c-d)))(h1:(b=(0:Nat)))(h2:(d=c)):(a=(0:Nat)):=by subst h1 h2;exact(jb a).symm.trans (h0.trans (nE _))
theorem Nr{a b c d:Nat}(h0:(a≤c))(h1:((b+d)=(c-a))):((a+b)≤c):=ah (eG (bC b d) a) (aA ((congrArg (a+·) h1).trans (pD h0)))
theorem Nt{a:Prop}{b c d:Nat}(h0:(b≤c))(h1:((b+d)≠c))(h2:((d+(0:Nat))=(c-b))):a:=(h1 ((congrArg (b+·) h2).trans (pD h0))).elim
theorem Nu{a b c d e f g h i:Nat}(h0:(b=(((2:Nat)*c)+d)))(h1:((a+b)≤(90000:Nat)))(h2:((e+f)=(g-h)))(h3:(c=(e+i)))(h4:(¬((((h+e):Nat):Int)=((h:Nat):Int)))):((a+(1:Nat))≤(90000:Nat)):=ah (eG (ah (JZ fun z=>h4 (congrArg (fun x=>((h+x:Nat):Int)) z)) (ah (ah (bC e i) (aA h3.symm)) (ah (afj c Nat.two_pos) (ah (bC _ d) (aA h0.symm))))) a) h1
theorem Nv{a b c d:Nat}(h0:((b+d)=(c-a)))(h1:((((a+b):Nat):Int)=((c:Nat):Int))):((a+b)=c):=uS h1
theorem Nx{a b c d:Nat}(h0:((b+a)=(c-d)))(h1:((d+b)=c)):(a=(0:Nat)):=by subst h1;exact Nat.add_left_cancel (k:=0) (h0.trans (kh _ _))
theorem Ny{a b c d:Nat}(h0:(d=c))(h1:((a+b)≤d))(h2:((a+b)≠d)):((a+b)<c):=eH (J0 h1 h2) h0
theorem Nz{a b c d:Nat}(h0:(a=d))(h1:((b+c)<d)):((-((a:Nat):Int))≤(((b+c):Nat):Int)):=b8 (yb (cT a)) (cT _)
theorem NB{a b c d:Nat}(h0:(c=d))(h1:((a+b)<d)):((((a+b):Nat):Int)<((c:Nat):Int)):=kj.mpr (eH h1 h0.symm)
theorem NC{a b c:Nat}(h0:(a≤(20000:Nat)))(h1:(b=(16777216:Nat)))(h2:(a=c)):(a≤b):=ah h0 (ah (ao rfl) (aA h1.symm))
theorem ND{a b c d:Nat}(h0:(a=d))(h1:((b+c)<d)):((a-(b+(c+(1:Nat))))<(a-(b+c))):=Cj (h0▸h1) (iG _)
theorem NF{a b c d:Nat}(h0:(c=d))(h1:((a+b)<d)):((a+(b+(1:Nat)))≤c):=eH h1 h0.symm
theorem Dt{a b c d e:Nat}(h0:(c≤d))(h1:(d=e))(h2:(b=(d-c)))(h3:((c+a)≠d))(h4:((c+a)<e)):(a<b):=by subst h1 h2;exact Nat.lt_sub_of_add_lt (f9 c a▸h4)
theorem NG{a b c d e:Nat}(h0:(c≤d))(h1:(d=e))(h2:(b=(d-c)))(h3:((c+a)≠d))(h4:((c+a)<e)):((min a b)=a):=gD (gF (Dt h0 h1 h2 h3 h4))
theorem NH{a b c d:Nat}(h0:(c=d))(h1:((((a+b):Nat):Int)=((c:Nat):Int))):((a+b)=c):=uS h1
theorem NI{a b c d e:Nat}(h0:(c=d))(h1:(a=(c-e)))(h2:((e+b)=c)):(a≤b):=aA (h1.trans ((congrArg (· -e) h2.symm).trans (kh _ _)))
theorem NJ{a b c d:Nat}(h0:(a=d))(h1:((b+c)=a)):((a-b)=c):=(congrArg (· -b) h1.symm).trans (kh _ _)
theorem NK{a b c:Nat}(h0:(a≤(100000:Nat)))(h1:(c=a)):((a+(b*(0:Nat)))≤(16777216:Nat)):=ah h0 (ao rfl)
theorem NL{a b:Nat}(h0:(b=((5:Nat)+a))):(((5:Nat)+a)=b):=jC (aA h0.symm) (aA h0)
theorem NN{a:Nat}(h0:(a≤(90000:Nat))):(a≤(100000:Nat)):=ah h0 (ao rfl)
theorem NO{a b c:Nat}(h0:(a=((5:Nat)+b)))(h1:(c=a)):((5:Nat)≤a):=ah (bC _ _) (aA h0.symm)
theorem NP{a b c:Nat}(h0:(b=((5:Nat)+a)))(h1:(c=b)):(a≤(b-(5:Nat))):=aA ((congrArg (· -5) h0).trans (kh _ _)).symm
theorem NQ{a b:Nat}(h0:(a=((5:Nat)+b))):(((a-(5:Nat))-b)=(0:Nat)):=by subst h0;rw[kh,nE]
theorem NR{a b:Nat}(h0:(b≤(30001:Nat)))(h1:(a≤b)):(a≤(100000:Nat)):=ah (h1) (ah h0 (ao rfl))
theorem NS{a:Nat}(h0:(a≤(30001:Nat))):(((0:Nat)+(((2:Nat)*a)+(0:Nat)))≤(90000:Nat)):=ah (aA (jb _)) (ah (lK 2 h0) (ao rfl))
theorem NT{a:Nat}(h0:(a≤(30001:Nat))):(((0:Nat)+(((2:Nat)*a)+(1:Nat)))≤(90000:Nat)):=ah (aA (jb _)) (ah (jz (lK 2 h0)) (ao rfl))
theorem NU{a:Nat}(h0:(a=(5:Nat))):(a≤(5:Nat)):=aA h0
theorem NV{a b:Nat}(h0:(a=b))(h1:(a≤(10000:Nat))):((((0:Nat)+(a-(0:Nat)))+(0:Nat))≤(10000:Nat)):=ah (aA (jb a)) h1
theorem NW{a:Nat}(h0:(((65:Nat)≤a)∧(a≤(90:Nat)))):(¬(a<(65:Nat))):=nH.mpr h0.1
theorem NX{a:Nat}(h0:(((65:Nat)≤a)∧(a≤(90:Nat)))):(¬((90:Nat)<a)):=nH.mpr h0.2
theorem NY{a:Nat}(h0:(((65:Nat)≤a)∧(a≤(90:Nat)))):((aM (((a:Nat):Int)+(32:Int)))=(a+(32:Nat))):=rfl
theorem NZ{a:Nat}(h0:(((65:Nat)≤a)∧(a≤(90:Nat))))(h1:((aM (((a:Nat):Int)+(32:Int)))=(a+(32:Nat)))):((0:Int)≤(((a:Nat):Int)+(32:Int))):=cT (a+32)
theorem N1{a:Nat}(h0:(((65:Nat)≤a)∧(a≤(90:Nat))))(h1:((aM (((a:Nat):Int)+(32:Int)))=(a+(32:Nat)))):((((a:Nat):Int)+(32:Int))≤(1114111:Int)):=b8 (dX.mpr (gC h0.2 32)) (by decide)
theorem N4{a:Nat}(h0:(¬(((65:Nat)≤a)∧(a≤(90:Nat)))))(h1:(¬(a<(65:Nat)))):((90:Nat)<a):=Ct fun h=>h0 ⟨lM h1,h⟩
theorem N5{a b:Nat}(h0:(b≤(100000:Nat)))(h1:(a≤b))(h2:(b≤a)):(a≤(100000:Nat)):=ah (h1) h0
theorem N6{a b:Nat}(h0:(a≤(100000:Nat)))(h1:(b=(a-(0:Nat))))(h2:((0:Nat)<a)):((a-((0:Nat)+(1:Nat)))<b):=eH (C5 h2 C1) h1.symm
theorem N7{a b c:Nat}(h0:(c=(a-b)))(h1:(b<a)):((a-(b+(1:Nat)))<c):=eH (Cj h1 (iG b)) h0.symm
theorem N8{a b c:Nat}(h0:(b≤(100000:Nat)))(h1:(c<b))(h2:(a≤c)):((a+(0:Nat))≤(16777216:Nat)):=ah (ah h2 (gF h1)) (ah h0 (ao rfl))
theorem Du{a:Nat}(h0:(a≤(100000:Nat))):(a≤(16777216:Nat)):=ah h0 (ao rfl)
theorem N9{a b:Int}(h0:(a<b)):((a≤((a+b)/(2:Int)))∧(((a+b)/(2:Int))<b)):=⟨Int.le_ediv_of_mul_le (by decide) (b8 (uX (m2 a)) (Int.add_le_add_left (ko h0) a)),Int.ediv_lt_of_lt_mul (by decide) (uJ (Int.add_lt_add_right h0 b) (uX (m2 b).symm))⟩
theorem Dv{a b:Int}(h0:((0:Int)≤b))(h1:(b≤a)):((0:Int)≤(a+(1:Int))):=b8 (b8 h0 h1) (ko (Int.lt_succ a))
theorem Oa{a b:Int}(h0:(a<b)):((a+(1:Int))≤b):=h0
theorem Ob{a b c d:Int}(h0:(a≤d))(h1:(((d+(1:Int))≤b)∧(b≤c))):((a≤b)∧(b≤c)):=⟨b8 h0 (b8 (ko (Int.lt_succ d)) h1.1),h1.2⟩
theorem Oc{a b c d:Int}(h0:(d<c))(h1:((a≤b)∧(b≤d))):((a≤b)∧(b≤c)):=⟨h1.1,b8 h1.2 (ko h0)⟩
theorem Od{a:Int}(h0:((0:Int)≤a))(h1:(a≤(1000:Int))):((Int.natAbs a)<((2:Nat)^((9:Nat)+(1:Nat)))):=cK ((dX (n:=1000)).mp (b8 (uX (Int.natAbs_of_nonneg h0)) h1)) (ao rfl)
theorem Oe:(¬(((0:Nat)+(150:Nat))<(0:Nat))):=yC _
theorem Og{a:Nat}:(¬((((a/(30:Nat))+(1:Nat))+(150:Nat))<(0:Nat))):=yC _
theorem Oh{a:Nat}(h0:(a≤(9:Nat))):(¬(((0:Nat)+(150:Nat))<((a/(30:Nat))+(1:Nat)))):=nH.mpr (ah (jz (ah (Nat.div_le_self a 30) h0)) (ao rfl))
theorem Oi{a b:Nat}(h0:(b≤(9:Nat))):(¬((((a/(30:Nat))+(1:Nat))+(150:Nat))<((b/(30:Nat))+(1:Nat)))):=nH.mpr (ah (jz (ah (Nat.div_le_self b 30) h0)) (ah (ao rfl) (lO 150 _)))
theorem Oj{a:Prop}{b c:Int}(h0:(b<c))(h1:((aM (c-b))≤(0:Nat))):a:=absurd (pK.mp h1) (Int.not_le.mpr (Int.sub_pos_of_lt h0))
theorem Ol{a b:Int}(h0:((0:Int)≤a))(h1:(a<b)):((0:Int)≤(a+b)):=Int.add_nonneg h0 (b8 h0 (ko h1))
theorem Oo{a b:Int}(h0:(b≤(43:Int)))(h1:(a<b)):((a+b)≤(1000:Int)):=b8 (Int.add_le_add (b8 (ko h1) h0) h0) (by decide)
theorem Oq{a b:Int}(h0:((0:Int)≤b))(h1:(b≤a)):((0:Int)≤a):=b8 h0 h1
theorem Ot{a b c:Int}(h0:((0:Int)≤b))(h1:(c≤(43:Int)))(h2:(b<c))(h3:(a<c)):(a<(43:Int)):=uJ h3 h1
theorem Ou{a b:Int}{c:Nat}{d:Int}(h0:(d<a))(h1:(d≤b))(h2:((aM (a-d))≤(c+(1:Nat)))):((aM (a-(b+(1:Int))))≤c):=pK.mpr (ae6 (b8 (ae7 (pK.mp h2)) (b8 (Int.add_le_add_left h1 _) (uX ((Int.add_assoc c 1 b).trans (congrArg ((c:Int)+·) (C0 1 b)))))))
theorem Ov{a b c:Int}(h0:((0:Int)≤b))(h1:(c≤(43:Int)))(h2:(b<c))(h3:(a<c)):(a≤(43:Int)):=b8 (ko h3) h1
theorem Ow{a b:Int}{c:Nat}{d:Int}(h0:(b<d))(h1:(a<d))(h2:((aM (d-b))≤(c+(1:Nat)))):((aM (a-b))≤c):=pK.mpr (ae6 (Int.le_of_lt_add_one (uJ h1 (b8 (ae7 (pK.mp h2)) (uX (Int.add_right_comm c 1 b))))))
theorem Ox{a:Int}(h0:(((0:Int)≤a)∧(a≤(43:Int))))(h1:(¬(a=(43:Int)))):(a<(43:Int)):=Int.lt_iff_le_and_ne.mpr ⟨h0.2,h1⟩
theorem Oz{a b:Nat}{c:Prop}(h0:((a≤b)∧c)):(a≤b):=h0.1
theorem OA{a b:Nat}(h0:(b≤a)):(¬((a+(1:Nat))≤b)):=yK.mpr (Nat.lt_succ_of_le h0)
theorem OB{a b:Nat}(h0:(b<a)):((0:Int)<(((a:Nat):Int)-((b:Nat):Int))):=Int.sub_pos_of_lt (kj.mpr h0)
theorem OC{a:Int}{b:Nat}:(((a+((b:Nat):Int))+(1:Int))=(a+(((b+(1:Nat)):Nat):Int))):=Int.add_assoc a b 1
theorem OD{a b:Nat}:(((((a:Nat):Int)-((b:Nat):Int))-(1:Int))=(((a:Nat):Int)-(((b+(1:Nat)):Nat):Int))):=Int.sub_sub a b 1
theorem OE{a b:Nat}(h0:(¬(b<a))):((((a:Nat):Int)-((b:Nat):Int))≤(0:Int)):=JU (dX.mpr (lM h0))
theorem Dw{a:Int}(h0:((-1000000000:Int)≤a))(h1:(a≤(1000000000:Int))):((-((2:Int)^(62:Nat)))≤a):=b8 (by decide) h0
theorem Dy{a:Int}(h0:((-1000000000:Int)≤a))(h1:(a≤(1000000000:Int))):(a<((2:Int)^(62:Nat))):=Cm h1 (by decide)
theorem OF{a b:Int}(h0:(b<a)):((a-b)=(((aM (a-b)):Nat):Int)):=(Ck (Int.sub_nonneg_of_le (ko h0))).symm
theorem OG{a b:Int}(h0:(¬(b<a))):((0:Int)=(((aM (a-b)):Nat):Int)):=(congrArg Int.ofNat (Int.toNat_eq_zero.mpr (JU (nJ.mp h0)))).symm
theorem OH{a:Int}:((a+(((0:Nat):Nat):Int))=a):=Int.add_zero a
theorem OI{a b:Int}:(((((aM (a-b)):Nat):Int)-(((0:Nat):Nat):Int))=(((aM (a-b)):Nat):Int)):=Int.sub_zero _
theorem OJ{a:Nat}:(((1:Int)+((a:Nat):Int))=(((a+(1:Nat)):Nat):Int)):=C0 1 a
theorem OM{a b c:Nat}(h0:((c+b)=a))(h1:(b<a)):((a-b)=((a-(b+(1:Nat)))+(1:Nat))):=(pF (Cn h1)).symm
theorem ON{a b c d:Nat}(h0:((d+b)=a))(h1:(b<a))(h2:((a-b)=(c+(1:Nat)))):((a-(b+(1:Nat)))=c):=(Nat.sub_add_eq a b 1).trans (congrArg (· -1) h2)
theorem OO{a b c:Nat}(h0:((c+b)=a))(h1:(¬(b<a))):((a-b)=(0:Nat)):=uE (lM h1)
theorem OQ:((-1000000000:Int)≤(1:Int)):=by decide
theorem OS:((1:Int)≤(1000000000:Int)):=by decide
theorem OT{a:Nat}(h0:(a≤(100000:Nat))):((-1000000000:Int)≤(((a:Nat):Int)+(1:Int))):=b8 (by decide) (cT (a+1))
theorem OU{a:Nat}(h0:(a≤(100000:Nat))):((((a:Nat):Int)+(1:Int))≤(1000000000:Int)):=b8 (Int.add_le_add_right (dX.mpr h0) 1) (by decide)
theorem OV{a:Nat}(h0:(a≤(100000:Nat))):((aM ((((a:Nat):Int)+(1:Int))-(1:Int)))=a):=congrArg aM (J3 a 1)
theorem OW{a:Nat}:((a+(0:Nat))=a):=rfl
theorem OX{a:Nat}(h0:((4:Nat)≤a)):(a=((a-(1:Nat))+(1:Nat))):=(pF (ah (ao rfl) h0)).symm
theorem OY{a:Nat}(h0:((4:Nat)≤(a+(1:Nat)))):((3:Nat)≤a):=uB h0
theorem OZ{a:Prop}{b:Nat}(h0:(b<(2:Nat)))(h1:((2:Nat)≤b)):a:=absurd h1 (yK.mpr h0)
theorem O0{a:Prop}{b:Nat}(h0:((9:Nat)<b))(h1:(b≤(9:Nat))):a:=absurd h1 (yK.mpr h0)
theorem O1{a b c:Nat}(h0:(a≤(100:Nat)))(h1:(b=a))(h2:(c=a)):(a≤(100000:Nat)):=ah h0 (ao rfl)
theorem O2{a:Nat}(h0:(((2:Nat)≤a)∧(a≤(9:Nat)))):(a≤(16777216:Nat)):=ah (h0.2) (ao rfl)
theorem O3{a:Nat}:(((8:Nat)+a)=(a+(8:Nat))):=jC (ah (dm (az _) (az _)) (aA (f9 _ _))) (ah (dm (az _) (az _)) (aA (f9 _ _)))
theorem O4{a b:Nat}(h0:(a≤(100000:Nat)))(h1:(b≤(100000:Nat))):((a+b)≤(16777216:Nat)):=ah (dm h0 h1) (ao rfl)
theorem O5{a:Nat}(h0:((7:Nat)≤a)):(a=((a-(2:Nat))+(2:Nat))):=(pF (ah (ao rfl) h0)).symm
theorem O6{a:Nat}(h0:((7:Nat)≤(a+(2:Nat)))):((5:Nat)≤a):=uB (uB h0)
theorem O7{a b:Nat}(h0:((a+(3:Nat))<b)):(a<b):=cK (bC a 3) h0
theorem O8{a b:Nat}(h0:((a+(3:Nat))<b)):((a+(min (1:Nat) (1:Nat)))<b):=cK (eG (ao rfl) a) h0
theorem Dz{a:Nat}(h0:(a≤(1000:Nat))):(a≤(16777216:Nat)):=ah h0 (ao rfl)
theorem O9{a b c:Nat}(h0:(c≤b))(h1:(a=c)):(a≤b):=ah (aA h1) h0
theorem Pa{a:Nat}(h0:(a≤(100:Nat))):(a≤(16777216:Nat)):=ah h0 (ao rfl)
theorem DE{a b:Nat}:(a≤(a+b)):=bC _ _
theorem DF{a b c:Nat}(h0:(b≤(100:Nat)))(h1:(b=c))(h2:(a≤c)):(a≤(1000:Nat)):=ah h2 (ah (aA h1.symm) (ah h0 (ao rfl)))
theorem DG{a b c d:Nat}(h0:(c=b))(h1:(b=d))(h2:(a<c)):(a<b):=ah h2 (aA h0)
theorem Pb{a b c d:Nat}(h0:(c=d))(h1:(d=b))(h2:(a<c)):((min a b)≤b):=ah (J7 _ _) (az _)
theorem Pc{a b c d:Nat}(h0:((a+c)≤(1000:Nat)))(h1:(d=c))(h2:(b≤c)):((a+b)≤(1000:Nat)):=ah (dm (az _) (h2)) h0
theorem afr{a b c d:Nat}(h0:(b=c))(h1:(c=d))(h2:(a≤b))(h3:(b≤a)):(a=b):=jC (h2) (h3)
theorem afs{a b c d:Nat}(h0:(c=d))(h1:(d=a))(h2:(b=c)):(a≤b):=ah (aA h1.symm) (ah (aA h0.symm) (aA h2.symm))
theorem Pd{a b c:Nat}(h0:(c≤(100:Nat)))(h1:(a≤(100:Nat)))(h2:(c=b)):((a+b)≤(1000:Nat)):=ah (dm h1 (ah (aA h2.symm) h0)) (ao rfl)
theorem aft{a b c d:Nat}(h0:(b≤(100:Nat)))(h1:(b=((a+c)+d))):(a≤(100:Nat)):=ah (ah (yc (bC _ _)) (aA h1.symm)) h0
theorem Pe{a:Nat}(h0:(a<(17:Nat))):((a+(1:Nat))≤(100:Nat)):=ah h0 (ao rfl)
theorem afu{a:Nat}(h0:(a<(17:Nat)))(h1:(¬((a+(1:Nat))=(17:Nat)))):((a+(1:Nat))<(17:Nat)):=J0 h0 h1
theorem afv{a b c:Nat}(h0:(b≤(100:Nat)))(h1:(b=(a+c))):(a≤(100:Nat)):=ah (ah (bC _ _) (aA h1.symm)) h0
theorem afw{a:Nat}(h0:(a<(17:Nat))):(a≤(100:Nat)):=ah (gF h0) (ao rfl)
theorem Pf{a b c:Nat}(h0:(((a+((8:Nat)*c))+(40:Nat))<b)):((a+(3:Nat))<b):=cK (dm (bC a (8*c)) (ao rfl)) h0
theorem Pg{a:Nat}(h0:((1:Nat)≤a)):(a=((a-(1:Nat))+(1:Nat))):=(pF h0).symm
theorem yX{a b c:Nat}(h0:((1:Nat)≤c))(h1:(((a+((8:Nat)*c))+(40:Nat))<b)):(((a+(1:Nat))+(3:Nat))<b):=cK (dm (b:=a+8*c) (c:=4) (d:=40) (bC a (8*c)) (ao rfl)) h1
theorem Ph{a b:Nat}(h0:(a=b))(h1:((0:Nat)<b))(h2:(b≤(11:Nat))):((a-((0:Nat)+(1:Nat)))≤(b-((0:Nat)+(1:Nat)))):=aA (congrArg (· -(0+1)) h0)
theorem Pj{a b:Nat}(h0:(a=b))(h1:((0:Nat)<b))(h2:(b≤(11:Nat))):((a-(1:Nat))≤(10:Nat)):=ah (aA (congrArg (· -1) h0)) (JR h2 1)
theorem Pk{a b:Nat}(h0:(a≤(1000:Nat)))(h1:(a=b)):(a≤(16777216:Nat)):=ah h0 (ao rfl)
theorem Pn{a b c:Nat}(h0:(b≤(60:Nat)))(h1:(a=(300:Nat)))(h2:(c=(1000:Nat))):(((((1:Nat)+a)+(1:Nat))+b)<c):=by subst h1 h2;exact cK (eG h0 (1+300+1)) (ao rfl)
theorem Po{a b:Nat}(h0:(a≤(60:Nat)))(h1:(b=(9900:Nat))):(((((4:Nat)+(3:Nat))+((8:Nat)*a))+(40:Nat))<b):=cK (gC (eG (lK 8 h0) (4+3)) 40) (eH (ao rfl) h1.symm)
theorem DH{a:Int}{b:Nat}(h0:((0:Int)≤a))(h1:(a<((b:Nat):Int))):((aM a)<b):=(yI h0).mpr h1
theorem Pp{a:Int}{b:Nat}(h0:(b≤(1000:Nat)))(h1:(a<((b:Nat):Int))):(a≤(1000:Int)):=b8 (ko h1) (dX.mpr h0)
theorem Pq{a:Int}(h0:((0:Int)≤a))(h1:(a<(1000:Int))):(¬(a<(0:Int))):=nJ.mpr h0
theorem Pr{a:Nat}(h0:(a<(4:Nat))):((a=(0:Nat))∨((a=(1:Nat))∨((a=(2:Nat))∨(a=(3:Nat))))):=(by decide:∀n:Nat,n<4→(n=0∨n=1∨n=2∨n=3)) a h0
theorem Pu{a:Int}(h0:((0:Int)≤a))(h1:(a≤(3:Int))):((-1000000000:Int)≤a):=b8 (by decide) h0
theorem Pw{a:Int}(h0:((0:Int)≤a))(h1:(a≤(3:Int))):(a≤(1000000000:Int)):=b8 h1 (by decide)
theorem Px{a:Int}:((a-(0:Int))=a):=Int.sub_zero a
theorem Py{a:Nat}:(((0:Int)+((a:Nat):Int))=((a:Nat):Int)):=Int.zero_add a
theorem PA{a b:Nat}(h0:(b≤(3:Nat)))(h1:(a<b)):(a<(4:Nat)):=ah (h1) (ah h0 (ao rfl))
theorem PC{a:Nat}:((0:Int)≤((a:Nat):Int)):=cT a
theorem PD{a b:Nat}(h0:(b≤(3:Nat)))(h1:(a<b)):(((a:Nat):Int)<(1000:Int)):=(kj (m:=1000)).mpr (iF h1 (ah h0 (ao rfl)))
theorem DI{a b:Nat}(h0:(b<a)):((a-(b+(1:Nat)))<(a-b)):=Cj h0 (iG b)
theorem PF{a b:Nat}(h0:(b≤(3:Nat)))(h1:(a<b)):(((0:Nat)+a)≤(16777216:Nat)):=ah (aA (jb a)) (ah (gF h1) (ah h0 (ao rfl)))
theorem PG{a b c:Nat}(h0:(¬(a<c)))(h1:(c=b))(h2:((a-c)=(0:Nat))):(a=b):=(jC (Cf h2) (lM h0)).trans h1
theorem PJ{a b c:Nat}(h0:(a=(c+(1:Nat))))(h1:(b<c)):(a≠b):=fun e=>Nat.not_succ_le_self c (ah (aA (h0.symm.trans e)) (gF h1))
theorem DJ{a b c:Nat}(h0:(a=(b+(1:Nat))))(h1:(c=a))(h2:(c<b)):False:=Nat.not_succ_le_self b (ah (aA (h1.trans h0).symm) (gF h2))
theorem PK{a b c d:Nat}(h0:(a=(b+(1:Nat))))(h1:(c=a))(h2:(d=c))(h3:(d<b)):False:=DJ h0 (h2.trans h1) h3
theorem PM{a b c:Nat}(h0:(b=(c+(1:Nat))))(h1:(a=b)):((0:Nat)<a):=eH (ki c) (h1.trans h0).symm
theorem PN{a b:Nat}(h0:(a≤b))(h1:(¬(a<b))):(a=b):=jC (h0) (lM h1)
theorem DK{a:Int}(h0:((0:Int)≤a))(h1:(a≤(3:Int))):((aM a)≤(3:Nat)):=pK.mpr h1
theorem PO{a:Int}{b:Nat}(h0:(((0:Int)≤a)∧(a<(24:Int))))(h1:(b=(24:Nat))):((aM a)<b):=eH ((yI h0.1).mpr h0.2) h1.symm
theorem PR{a b c:Nat}(h0:(a≤(4:Nat)))(h1:(b≤((4:Nat)*c))):((a+b)≤((4:Nat)*(c+(1:Nat)))):=ah (dm h0 h1) (aA (f9 4 (4*c)))
theorem PS{a:Nat}:((min (10:Nat) a)≤(10:Nat)):=ah (Ke _ _) (az _)
theorem PV{a b:Nat}(h0:(a≤((4:Nat)*b)))(h1:(b≤(10:Nat))):(a≤(40:Nat)):=ah h0 (lK 4 h1)
theorem PW{a b:Nat}(h0:(a≤b))(h1:(b≤a)):(a=b):=jC (h0) (h1)
theorem PY{a b c:Nat}(h0:(c=b))(h1:(a<c)):(a≠b):=cU (eH h1 h0)
theorem PZ{a:Nat}(h0:(a≤(10:Nat)))(h1:((0:Nat)<a)):((a-((0:Nat)+(1:Nat)))<(a-(0:Nat))):=C5 h1 C1
theorem P4{a b c:Nat}(h0:(b≤(10:Nat)))(h1:(c<b))(h2:(a≤c)):((a+(0:Nat))≤(16777216:Nat)):=ah (ah h2 (gF h1)) (ah h0 (ao rfl))
theorem P5{a:Nat}(h0:(a≤(40:Nat))):(a≤(100000:Nat)):=ah h0 (ao rfl)
theorem P6{a:Nat}(h0:(a≤(10:Nat))):(a≤(100000:Nat)):=ah h0 (ao rfl)
theorem P7{a b:Nat}(h0:(b≤(40:Nat)))(h1:(a=b)):((a+((a+(1:Nat))*(1:Nat)))≤(16777216:Nat)):=q2 (ah (aA h1) (ah h0 (ao rfl)))
theorem P8{a b c:Nat}(h0:(b≤(40:Nat)))(h1:(c=b))(h2:(a≤c)):((a+((a+(1:Nat))*(1:Nat)))≤(16777216:Nat)):=q2 (ah h2 (ah (aA h1) (ah h0 (ao rfl))))
theorem P9{a b c:Nat}(h0:(b≤(40:Nat)))(h1:(c=b))(h2:(a≤b)):(a≤(16777216:Nat)):=ah (h2) (ah h0 (ao rfl))
theorem Qa{a b c:Nat}(h0:((a+c)=((1:Nat)+b)))(h1:(c=(0:Nat))):(a=((1:Nat)+b)):=(congrArg (a+·) h1).symm.trans h0
theorem DL{a b:Nat}(h0:(a≤(40:Nat)))(h1:((1:Nat)≤a))(h2:(b=a)):(a≤(16777216:Nat)):=ah h0 (ao rfl)
theorem Qc{a b c d e:Nat}(h0:(c=b))(h1:((a+d)=((1:Nat)+e)))(h2:(((a:Nat):Int)<((b:Nat):Int))):(a<b):=kj.mp h2
theorem Qd{a b c d e:Nat}(h0:(c=a))(h1:((b+d)=((1:Nat)+e)))(h2:(b<a)):((-((a:Nat):Int))≤((b:Nat):Int)):=b8 (yb (cT a)) (cT b)
theorem Qe{a b c d e:Nat}(h0:(c=b))(h1:((a+d)=((1:Nat)+e)))(h2:(a<b)):(((a:Nat):Int)<((b:Nat):Int)):=kj.mpr h2
theorem Qf{a b c d e:Nat}{f:Prop}{g:Nat}(h0:(c=a))(h1:((b+d)=((1:Nat)+e)))(h2:((d=(0:Nat))→f))(h3:(b<a))(h4:(d=((1:Nat)+g))):((a-(b+(1:Nat)))<(a-b)):=Cj h3 (iG b)
theorem Qg{a b c d:Nat}(h0:((a+d)=((1:Nat)+c)))(h1:(d=((1:Nat)+b))):(((a+(1:Nat))+b)=((1:Nat)+c)):=(nC a 1 b).trans ((congrArg (a+·) h1.symm).trans h0)
theorem Qh{a b c d e:Nat}(h0:(c=a))(h1:(b≤a))(h2:((b+d)=((1:Nat)+e)))(h3:(¬(((b:Nat):Int)<((a:Nat):Int)))):(a≤b):=lM fun h=>h3 (kj.mpr h)
theorem Qi{a:Nat}(h0:(a≤(3:Nat))):((0:Int)≤((a:Nat):Int)):=cT a
theorem Qj{a:Nat}(h0:(a≤(3:Nat))):(((a:Nat):Int)≤(3:Int)):=dX.mpr h0
theorem afx{a:Nat}(h0:(a<(1114112:Nat)))(h1:(((65:Nat)≤a)∧(a≤(90:Nat)))):((a+(32:Nat))<(1114112:Nat)):=cK (gC h1.2 32) (ao rfl)
theorem Qk{a b:Nat}(h0:(a≤b)):(a≤(b+(1000:Nat))):=yc (h0)
theorem Ql{a:Nat}:(a≤(a+(1000:Nat))):=bC _ _
theorem Qm{a b:Nat}(h0:(a≤(3:Nat))):(a≤(b+(1000:Nat))):=yg (ah h0 (ao rfl))
theorem DM{a b:Nat}{c:Prop}(h0:((a≤(1000:Nat))∧c)):(a≤(b+(1000:Nat))):=yg (h0.1)
theorem Qn{a b:Nat}(h0:(a≤(10:Nat))):(a≤(b+(1000:Nat))):=yg (ah h0 (ao rfl))
theorem Qo{a b:Nat}(h0:(a≤(1:Nat)))(h1:(b≤(1:Nat))):((a+b)≤(100:Nat)):=ah (dm h0 h1) (ao rfl)
theorem DN{a:Nat}(h0:(a≤(40:Nat))):(a≤(100:Nat)):=ah h0 (ao rfl)
theorem Qp{a b:Nat}(h0:(b≤(40:Nat)))(h1:(a≤b)):(a≤(100:Nat)):=ah (h1) (ah h0 (ao rfl))
theorem Qq{a:Nat}(h0:(a≤(40:Nat))):((a-(1:Nat))≤(100:Nat)):=ah (yJ a 1) (ah h0 (ao rfl))
theorem Qs{a:Nat}(h0:(a≤(3:Nat))):((a-(1:Nat))<(3:Nat)):=cK (JR h0 1) (ao rfl)
theorem Qt{a b:Nat}(h0:(b≤(3:Nat)))(h1:(a<b)):(a<(3:Nat)):=ah (h1) h0
theorem Qu{a b:Nat}(h0:(b≤(3:Nat)))(h1:(a<b)):(a<(10:Nat)):=ah (h1) (ah h0 (ao rfl))
theorem Qv{a b:Nat}(h0:(b≤(3:Nat)))(h1:(a<b)):(a<(9:Nat)):=iF h1 (ah h0 (ao rfl))
theorem Qw{a:Nat}(h0:(a≤(3:Nat))):(a<(10:Nat)):=cK h0 (ao rfl)
theorem Qx{a:Nat}(h0:(a≤(3:Nat))):(a<(9:Nat)):=cK h0 (ao rfl)
theorem Qy{a:Nat}(h0:(a≤(3:Nat)))(h1:((1:Nat)≤a)):((a-(1:Nat))<(9:Nat)):=cK (ah (yJ a 1) h0) (ao rfl)
theorem Qz{a:Nat}(h0:(a≤(3:Nat)))(h1:((1:Nat)≤a)):((a-(1:Nat))<a):=C5 h1 C1
theorem QA{a:Nat}(h0:(¬((63:Int)<((a:Nat):Int)))):(a≤(63:Nat)):=(dX (n:=63)).mp (nJ.mp h0)
theorem DO{a:Int}(h0:((0:Int)≤a))(h1:(a<(4:Int))):(a≤(3:Int)):=Int.le_of_lt_add_one h1
theorem QB{a:Int}(h0:((0:Int)≤a))(h1:(a<(5:Int))):(a=(((aM a):Nat):Int)):=(Ck h0).symm
theorem QC{a:Int}(h0:((0:Int)≤a))(h1:(a≤(3:Int))):(a=(((aM a):Nat):Int)):=(Ck h0).symm
theorem DP{a:Int}(h0:((0:Int)≤a))(h1:(a<(5:Int))):((aM a)<(5:Nat)):=(yI h0).mpr h1
theorem QD{a:Int}(h0:((0:Int)≤a))(h1:(a≤(3:Int))):((aM a)<(4:Nat)):=cK ((pK (n:=3)).mpr h1) (ao rfl)
theorem QE{a:Int}(h0:((0:Int)≤a))(h1:(a≤(3:Int)))(h2:((aM a)=(0:Nat))):(a=(0:Int)):=Int.le_antisymm (Int.toNat_eq_zero.mp h2) h0
theorem QF{a b:Int}(h0:((0:Int)≤a))(h1:(a<(5:Int)))(h2:((0:Int)≤b))(h3:(b≤(3:Int))):((a=(0:Int))∨((a=(1:Int))∨((a=(2:Int))∨((a=(3:Int))∨(a=(4:Int)))))):=Ck h0▸o5 a.toNat ((yI h0).mpr h1)
theorem QG{a:Nat}(h0:(a≤(63:Nat))):(a≤(1000:Nat)):=ah h0 (ao rfl)
theorem DQ{p:Nat→Prop}:∀{n:Nat},cD (motive:=fun qq=>Prop) True (fun n q=>q∧p n) n→∀{k:Nat},k<n→p k:=fun{n}=>cD (motive:=fun n=>cD (motive:=fun qq=>Prop) True (fun n q=>q∧p n) n→∀{k:Nat},k<n→p k) (fun qq qq h=>(yC _ h).elim) (fun qq ih z qq h=>(Nat.lt_or_eq_of_le (yw h)).elim (fun h=>ih z.1 h) fun e=>e▸z.2) n
end Om
section
namespace Ex
noncomputable section
set_option backward.match.sparseCases false in
noncomputable def eK (e:Expr):List Expr:=match e with
 |.IfExp t b o _=>[t,b,o]
 |.Subscript o i _=>[o,i]
 |.BinOp l _ r _=>[l,r]
 |.Compare l _ rs _=>l::rs
 |.Call f as _ _=>f::as
 |.Tuple es _ _=>es
 |.List es _=>es
 |.BoolOp _ es _=>es
 |.Attribute o _ _=>[o]
 |.Slice a b _ _=>a.toList++b.toList
 |.ListComp e gs _ _=>e::gs.flatMap fun g=>[g.target,g.iter]
 |_=>[]
noncomputable def dY (e:Expr) (i:Nat):Expr:=(eK e).getD i e
noncomputable def QH:Expr:=.Constant .none 0 ⟨0,0,0,0⟩
set_option backward.match.sparseCases false in
noncomputable def sK (s:Stmt):List Expr:=match s with
 |.Assign ts e _=>e::ts
 |.Return o _=>o.toList
 |.If t _ _ _=>[t]
 |.Expr e _=>[e]
 |.While t _ _ _=>[t]
 |.Raise o _ _=>o.toList
 |.For t i _ _ _=>[t,i]
 |_=>[]
noncomputable def ku (s:Stmt) (i:Nat):Expr:=(sK s).getD i QH
set_option backward.match.sparseCases false in
noncomputable def sB (s:Stmt):List (List Stmt):=match s with
 |.If _ b o _=>[b,o]
 |.While _ b _ _=>[b]
 |.For _ _ b _ _=>[b]
 |.Try b _ _ _ _=>[b]
 |_=>[]
noncomputable def rU (s:Stmt) (i:Nat):List Stmt:=(sB s).getD i []
end
set_option genSizeOf false
set_option genInjectivity false
noncomputable section
inductive Tm where
 |e
 |n (k:Nat) (l:List Nat) (a b:Tm)
inductive SV where
 |none
 |bool (b:Bool)
 |int (i:Int)
 |str (s:Str)
 |obj (i:Nat)
 |val (v:Value)
 |sb (b:Bool)
 |si (i:Int)
 |ss (s:Str)
 |tm (t:Tm)
 |im (k:Nat) (t:Tm)
 |bm (k:Nat) (l:List Nat) (a b:Tm)
structure Ev where
 v:Nat→List Nat
 c:Nat→Nat
 f:Nat→List Nat→List Nat
 i:Nat→List Nat→Int
 p:Nat→List Nat→Bool
structure nM (η:Ev):Prop where
 v:∀i,(η.v i).length≤1000
 f:∀k l,(η.f k l).length≤l.length+1000
 pv:∀i,∀c∈η.v i,c<0x110000
 il:∀l,η.i 2 l=l.length
 pc:∀i,η.c i<0x110000
 pf:∀k l,(∀c∈l,c<0x110000)→∀c∈η.f k l,c<0x110000
noncomputable def aH (x:Nat):List Nat→Bool:=bu false fun k qq ih=>@aj (fun qq=>Bool) ih true (aB x k)
noncomputable abbrev lit (l:List Nat):Tm:=.n 0 l .e .e
noncomputable abbrev tv (i:Nat):Tm:=.n 1 [i] .e .e
noncomputable abbrev tc (i:Nat):Tm:=.n 2 [i] .e .e
noncomputable abbrev dZ (t:Tm):Tm:=.n 3 [] t .e
noncomputable abbrev lT (t:Tm):Tm:=.n 4 [] t .e
noncomputable abbrev cat (a b:Tm):Tm:=.n 5 [] a b
noncomputable abbrev yY (S:List Nat) (t:Tm):Tm:=.n 6 S t .e
noncomputable abbrev QI (S:List Nat) (t:Tm):Tm:=.n 7 S t .e
noncomputable abbrev vd (S:List Nat) (t:Tm):Tm:=.n 8 S t .e
noncomputable abbrev QJ (S:List Nat) (t:Tm):Tm:=.n 9 S t .e
noncomputable def DR (η:Ev) (k:Nat) (l a b:List Nat):List Nat:=match k with
 |0=>l
 |1=>η.v (l.headD 0)
 |2=>[η.c (l.headD 0)]
 |3=>a.take 1
 |4=>a.drop 1
 |5=>a++b
 |6=>a.takeWhile (aH · l)
 |7=>a.takeWhile (!aH · l)
 |8=>a.dropWhile (aH · l)
 |9=>a.dropWhile (!aH · l)
 |k=>η.f k a
noncomputable def Tm.ev (η:Ev):Tm→List Nat
 |.e=>[]
 |.n k l a b=>DR η k l (a.ev η) (b.ev η)
noncomputable def Tm.bd:Tm→Nat:=Tm.rec 0 fun k l qq qq a b=>match k with
 |0=>l.length
 |1=>1000
 |2=>1
 |3=>1
 |5=>a+b
 |4=>a
 |6=>a
 |7=>a
 |8=>a
 |9=>a
 |_=>a+1000
theorem Tm.kB{η:Ev}(h:nM η):∀t:Tm,(t.ev η).length≤t.bd:=fun t=>by
 induction t with
 |e=>exact az _
 |n k l a b iha ihb=>
  have tw:∀(p:Nat→Bool) (l:List Nat),(l.takeWhile p).length≤l.length:=fun p l=>(ye p).length_le
  have dw:∀(p:Nat→Bool) (l:List Nat),(l.dropWhile p).length≤l.length:=fun p l=>(rm p).length_le
  match k with
  |0=>exact az _
  |1=>exact h.v _
  |2=>exact az _
  |3=>exact yo _ _
  |4=>exact ah (J5 1 _).length_le iha
  |5=>exact ah (aA bG) (dm iha ihb)
  |6=>exact ah (tw _ _) iha
  |7=>exact ah (tw _ _) iha
  |8=>exact ah (dw _ _) iha
  |9=>exact ah (dw _ _) iha
  |_+10=>exact ah (h.f _ _) (gC iha _)
noncomputable def aZ (η:Ev) (k:Nat) (l a b:List Nat):Bool:=match k with
 |0=>!a.isEmpty
 |1=>match a with
  |[c]=>aH c l
  |_=>false
 |2=>decide (a=b)
 |k=>η.p k a
structure eN where
 d:Option Tm
 r:Tm
 un:Option Tm
inductive eO where
 |strm (s:eN)
 |other (n:Nat)
inductive eS where
 |fK (n:Nat)
 |txt (s:List Nat) (k:Nat)
 |vals (us:List Value)
 |ints (ns:List Int)
 |QK (cs:List Nat)
 |strs (ys:List Str)
inductive SO where
 |inst (C:Addr) (fs:List (Str×SV))
 |dict (fs:List (Str×SV))
 |bJ (fs:List (Tm×SV))
 |list (p:Option eS) (xs:List SV)
 |tup (xs:List SV)
 |bX (f:Addr) (self:SV)
 |blob (b:eO)
 |cell (x:Option SV)
 |eT (fs:List (Tm×SV))
 |gone
noncomputable def seq (a b:Str):Bool:=PySem.W.Fast.sEq a b
theorem bS{a b:Str}:seq a b=true↔a=b:=PySem.W.Fast.sEq_iff
theorem jG(a b:Str):(a==b)=seq a b:=by rw[pI,beq_iff_eq,bS]
theorem rV{a b:Str}(h:a≠b):seq a b=false:=Bool.eq_false_iff.mpr fun e=>h (bS.mp e)
variable{α:Type}
noncomputable def lk (n:Str):List (Str×α)→Option α:=bu af fun p qq ih=>@Prod.rec Str α (fun qq=>Option α) (fun k v=>@aj (fun qq=>Option α) ih (some v) (seq n k)) p
theorem b6(x k:Str)(w:α)(r:List (Str×α)):lk x ((k,w)::r)=if x=k then some w else lk x r:=by
 show@aj (fun qq=>Option α) (lk x r) (some w) (seq x k)=_
 by_cases e:x=k
 ·rw[if_pos e,bS.mpr e]
 ·rw[if_neg e,rV e]
theorem DS(n:Str):∀l:List (Str×α),lk n l=l.lookup n:=bu rfl fun p r ih=>by
 rw[J8,jG]
 show@aj (fun qq=>Option α) (lk n r) (some p.2) (seq n p.1)=_
 cases seq n p.1
 ·exact ih
 ·rfl
theorem eU{a:Str}{v:α}:∀{l:List (Str×α)},lk a l=some v→(a,v)∈l:=@fun l=>bu (fun h=>by cases h) (fun p r ih h=>by
 obtain⟨k,u⟩:=p
 rw[b6] at h
 by_cases e:a=k
 ·rw[if_pos e] at h;cases h;rw[e];exact .head _
 ·rw[if_neg e] at h;exact .tail _ (ih h)) l
noncomputable def aQ (a:Nat):List (Nat×α)→Option α:=bu af fun p qq ih=>@Prod.rec Nat α (fun qq=>Option α) (fun k v=>@aj (fun qq=>Option α) ih (some v) (aB a k)) p
theorem eg{a:Nat}{v:α}:∀{l:List (Nat×α)},aQ a l=some v→(a,v)∈l:=@fun l=>bu (fun h=>by cases h) (fun p r ih h=>by
 obtain⟨k,u⟩:=p
 have h':@aj (fun qq=>Option α) (aQ a r) (some u) (aB a k)=some v:=h
 cases e:aB a k with
 |true=>rw[e] at h';cases h';rw[bh e];exact .head _
 |false=>rw[e] at h';exact .tail _ (ih h')) l
noncomputable def has (n:Str):List Str→Bool:=bu false fun k qq ih=>@aj (fun qq=>Bool) ih true (seq n k)
theorem pQ{a:Str}:∀{l:List Str},has a l=true↔a∈l:=@fun l=>bu ⟨fun h=>(by cases h),fun h=>(by cases h)⟩ (fun k r ih=>by
 show@aj (fun qq=>Bool) (has a r) true (seq a k)=true↔_
 rw[bV,←bS,←ih]
 cases seq a k<;>simp) l
noncomputable def at? (l:List α):Nat→Option α:=bu (fun qq=>af) (fun a qq ih i=>@cD (fun qq=>Option α) (some a) (fun j qq=>ih j) i) l
theorem kC:∀(l:List α) (i:Nat),at? l i=l[i]? :=fun l=>bu (fun qq=>rfl) (fun a r ih i=>by cases i with|zero=>rfl|succ i=>exact ih i) l
noncomputable def aL (l:List α) (i:Nat) (x:α):List α:=@bu α (fun qq=>Nat→List α) (fun qq=>[]) (fun a r ih i=>@cD (fun qq=>List α) (x::r) (fun j qq=>a::ih j) i) l i
noncomputable def snoc (l:List α) (x:α):List α:=bu [x] (fun a qq ih=>a::ih) l
theorem eW(l:List α)(x:α):snoc l x=l++[x]:=bu rfl (fun a r ih=>congrArg (a::·) ih) l
noncomputable def put (n:Str) (v:SV):List (Str×SV)→List (Str×SV):=bu [(n,v)] fun p r ih=>@Prod.rec Str SV (fun qq=>List (Str×SV)) (fun k u=>@aj (fun qq=>List (Str×SV)) ((k,u)::ih) ((k,v)::r) (seq n k)) p
theorem ve(n k:Str)(x y:SV)(fs:List (Str×SV)):put n x ((k,y)::fs)=if n=k then(k,x)::fs else(k,y)::put n x fs:=by
 show@aj (fun qq=>List (Str×SV)) ((k,y)::put n x fs) ((k,x)::fs) (seq n k)=_
 by_cases e:n=k
 ·rw[if_pos e,bS.mpr e]
 ·rw[if_neg e,rV e]
theorem afy{n:Str}{v:SV}(x:Str):∀l:List (Str×SV),lk x (put n v l)=if x=n then some v else lk x l:=bu (b6 x n v []) fun p r ih=>by
 obtain⟨k,y⟩:=p
 rw[ve,b6]
 by_cases e:n=k
 ·rw[if_pos e,b6,e]
  by_cases h:x=k
  ·rw[if_pos h,if_pos h]
  ·rw[if_neg h,if_neg h,if_neg h]
 ·rw[if_neg e,b6,ih]
  by_cases h:x=k
  ·rw[if_pos h,if_pos h,if_neg fun z=>e (z.symm.trans h)]
  ·rw[if_neg h,if_neg h]
structure Wd where
 prog:Program
 w:World
 K:Frag
 p:Program
 loose:List Str
 mean:ExcName→Option Value
 mg:Str→Option Value
 mb:Str→Option Value
 yZ:importsNone p=true
 bl:eO→Addr→List (Addr×Obj)→Prop
 os:OsState
 gens:Array GenState
 η:Ev
 gJ:nM η
noncomputable abbrev Wd.M (W:Wd):Model:=model W.prog W.w
noncomputable abbrev Wd.P (W:Wd):Params:=W.w.params
noncomputable def ai (l:List Nat):Str:=⟨l.toArray⟩
noncomputable def VR (W:Wd) (ρ:List Addr) (x:SV) (v:Value):Prop:=match x with
 |.none=>v=.none
 |.bool b=>v=.bool b
 |.int i=>∃t,v=.int i t
 |.str x=>∃t,v=.str x t
 |.obj i=>∃a,ρ[i]? =some a∧v=.ref a
 |.val u=>v=u
 |.sb b=>v=.bool b
 |.si i=>∃t,v=.int i t
 |.ss x=>∃t,v=.str x t
 |.tm x=>∃t,v=.str (ai (x.ev W.η)) t
 |.im k x=>∃t,v=.int (W.η.i k (x.ev W.η)) t
 |.bm k l a b=>v=.bool (aZ W.η k l (a.ev W.η) (b.ev W.η))
inductive Each {α β:Type} (R:α→β→Prop):List α→List β→Prop
 |nil:Each R [] []
 |cons {x y xs ys} (h:R x y) (t:Each R xs ys):Each R (x::xs) (y::ys)
theorem Each.ec{α β:Type}{R:α→β→Prop}{x:α}{xs:List α}{motive:(ys:List β)→Each R (x::xs) ys→Prop}(cons:∀{y ys} (h:R x y) (t:Each R xs ys),motive (y::ys) (.cons h t)){ys}(h:Each R (x::xs) ys):motive ys h:=by
 cases h with
 |cons h t=>exact cons h t
theorem Each.er{α β:Type}{R:α→β→Prop}{y:β}{ys:List β}{motive:(xs:List α)→Each R xs (y::ys)→Prop}(cons:∀{x xs} (h:R x y) (t:Each R xs ys),motive (x::xs) (.cons h t)){xs}(h:Each R xs (y::ys)):motive xs h:=by
 cases h with
 |cons h t=>exact cons h t
theorem Each.eb{α β:Type}{R:α→β→Prop}{x:α}{xs:List α}{y:β}{ys:List β}(h:Each R (x::xs) (y::ys)):R x y∧Each R xs ys:=by
 cases h with
 |cons h t=>exact⟨h,t⟩
theorem Each.en{α β:Type}{R:α→β→Prop}{motive:(ys:List β)→Each R [] ys→Prop}(nil:motive [] .nil){ys}(h:Each R [] ys):motive ys h:=by
 cases h with
 |nil=>exact nil
noncomputable abbrev aG (W:Wd) (ρ:List Addr):List SV→List Value→Prop:=Each (VR W ρ)
structure KE (W:Wd) (ρ:List Addr) (p:Str×SV) (q:Str×Value):Prop where
 k:q.1=p.1
 v:VR W ρ p.2 q.2
noncomputable abbrev dz (W:Wd) (ρ:List Addr):List (Str×SV)→List (Str×Value)→Prop:=Each (KE W ρ)
structure TE (W:Wd) (ρ:List Addr) (p:Tm×SV) (q:Str×Value):Prop where
 k:q.1=ai (p.1.ev W.η)
 v:VR W ρ p.2 q.2
noncomputable abbrev fL (W:Wd) (ρ:List Addr):List (Tm×SV)→List (Str×Value)→Prop:=Each (TE W ρ)
structure FE (W:Wd) (ρ:List Addr) (p:Str×SV) (e:DictEntry):Prop where
 key:∃t,e.key=.str p.1 t
 hash:e.hash=jD W.P p.1
 val:VR W ρ p.2 e.val
noncomputable abbrev FR (W:Wd) (ρ:List Addr):List (Str×SV)→List DictEntry→Prop:=Each (FE W ρ)
noncomputable def lU (i:Int) (v:Value):Prop:=∃t,v=.int i t
noncomputable def vf (p:eS) (us:List Value):Prop:=match p with
 |.fK n=>us.length≤n
 |.txt s k=>∃ys:List Str,StrsAre us ys∧ys.flatMap (fun y=>y.cps.toList)=s∧us.length≤k
 |.vals ws=>us=ws
 |.ints ns=>Each lU ns us
 |.QK cs=>StrsAre us (cs.map fun c=>⟨#[c]⟩)
 |.strs ys=>StrsAre us ys
noncomputable def jg (p:Option eS) (us:List Value):Prop:=match p with
 |Option.none=>us=[]
 |some p=>vf p us
noncomputable def iK (vs:Array Value) (n:Nat):Obj:={cls:=.type "tuple",data:=.seq vs n}
inductive vg (W:Wd) (ρ:List Addr) (a C:Addr) (fs:List (Str×SV)) (l:List (Addr×Obj)):Prop
 |mk (dx:Addr) (es:List DictEntry) (n:Nat) (e:l=[(a,instObj C dx),(dx,dictOf es n)]) (f:FR W ρ fs es)
inductive kD (I:Obj→List (Str×Value)→Prop) (R:List (Str×Value)→Prop) (a:Addr) (l:List (Addr×Obj)):Prop
 |mk (o:Obj) (kvs:List (Str×Value)) (e:l=[(a,o)]) (q:I o kvs) (f:R kvs)
noncomputable abbrev nN (W:Wd) (o:Obj) (kvs:List (Str×Value)):Prop:=o.IsDictOf (strKind W.prog W.w) kvs
inductive lV (W:Wd) (p:Option eS) (ρ:List Addr) (a:Addr) (xs:List SV) (l:List (Addr×Obj)):Prop
 |mk (us vs:List Value) (n:Nat) (e:l=[(a,listOf (us++vs:List Value).toArray n)]) (q:jg p us) (f:aG W ρ xs vs)
inductive pR (W:Wd) (ρ:List Addr) (a:Addr) (xs:List SV) (l:List (Addr×Obj)):Prop
 |mk (vs:List Value) (n:Nat) (e:l=[(a,iK (vs:List Value).toArray n)]) (f:aG W ρ xs vs)
inductive DU (W:Wd) (ρ:List Addr) (a f:Addr) (x:SV) (l:List (Addr×Obj)):Prop
 |mk (v:Value) (e:l=[(a,methodObj (.ref f) v)]) (q:VR W ρ x v)
noncomputable def pT (W:Wd) (ρ:List Addr) (x:Option SV) (v:Option Value):Prop:=match x with
 |Option.none=>v=af
 |some x=>∃u,v=some u∧VR W ρ x u
inductive vh (W:Wd) (ρ:List Addr) (a:Addr) (x:Option SV) (l:List (Addr×Obj)):Prop
 |mk (o:Obj) (v:Option Value) (e:l=[(a,o)]) (d:o.data=.cell v) (q:pT W ρ x v)
inductive DV (I:Obj→List (Str×Value)→Prop) (R:List (Str×Value)→Prop) (a:Addr) (X l:List (Addr×Obj)):Prop
 |mk (o:Obj) (kvs:List (Str×Value)) (e:l=[]) (m:(a,o)∈X) (q:I o kvs) (f:R kvs)
noncomputable def OR (W:Wd) (X:List (Addr×Obj)) (ρ:List Addr) (a:Addr) (o:SO) (l:List (Addr×Obj)):Prop:=match o with
 |.inst C fs=>vg W ρ a C fs l
 |.dict fs=>kD (nN W) (dz W ρ fs) a l
 |.bJ fs=>kD (nN W) (fL W ρ fs) a l
 |.list p xs=>lV W p ρ a xs l
 |.tup xs=>pR W ρ a xs l
 |.bX f x=>DU W ρ a f x l
 |.blob b=>W.bl b a l
 |.cell x=>vh W ρ a x l
 |.eT fs=>DV (nN W) (fL W ρ fs) a X l
 |.gone=>l=[]
noncomputable abbrev Cl:=Addr×List (Addr×Obj)
noncomputable abbrev LR (W:Wd) (X:List (Addr×Obj)) (ρ:List Addr):List SO→List Cl→Prop:=Each fun o q=>OR W X ρ q.1 o q.2
noncomputable def flat (ls:List Cl):List (Addr×Obj):=ls.flatMap (·.2)
end
section
variable{α β:Type}{R R':α→β→Prop}{xs:List α}{ys:List β}
theorem Each.mono(f:∀x y,R x y→R' x y)(h:Each R xs ys):Each R' xs ys:=by
 induction h with
 |nil=>exact .nil
 |cons h _ ih=>exact .cons (f _ _ h) ih
theorem Each.len(h:Each R xs ys):xs.length=ys.length:=by
 induction h with
 |nil=>rfl
 |cons _ _ ih=>exact congrArg (· +1) ih
theorem Each.app{xs':List α}{ys':List β}(h:Each R xs ys)(q:Each R xs' ys'):Each R (xs++xs') (ys++ys'):=by
 induction h with
 |nil=>exact q
 |cons h _ ih=>exact .cons h ih
theorem Each.one{x:α}{y:β}(h:R x y):Each R [x] [y]:=.cons h .nil
theorem Each.get(h:Each R xs ys){i:Nat}{x:α}(e:xs[i]? =some x):∃y,ys[i]? =some y∧R x y:=by
 induction h generalizing i with
 |nil=>cases e
 |cons h _ ih=>cases i with
  |zero=>cases e;exact⟨_,rfl,h⟩
  |succ i=>exact ih e
theorem Each.set(h:Each R xs ys)(i:Nat){x:α}{y:β}(q:R x y):Each R (aL xs i x) (ys.set i y):=by
 induction h generalizing i with
 |nil=>exact .nil
 |cons h t ih=>cases i with
  |zero=>exact .cons q t
  |succ i=>exact .cons h (ih i)
inductive QL (R:α→β→Prop) (xs:List α) (ys:List β) (i:Nat) (x:α):Prop
 |mk (A:List β) (y:β) (B:List β) (l:A.length=i) (e:ys=A++y::B) (r:R x y) (s:∀x' y',R x' y'→Each R (aL xs i x') (A++y'::B))
theorem Each.at(h:Each R xs ys){i:Nat}{x:α}(e:xs[i]? =some x):QL R xs ys i x:=by
 induction h generalizing i with
 |nil=>cases e
 |cons h t ih=>cases i with
  |zero=>cases e;exact⟨[],_,_,rfl,rfl,h,fun qq qq q=>.cons q t⟩
  |succ i=>
   obtain⟨A,y,B,l,e,r,s⟩:=ih e
   exact⟨_::A,y,B,congrArg (· +1) l,congrArg _ e,r,fun x' y' q=>.cons h (s x' y' q)⟩
end
section
variable{W:Wd}{ρ ρ':List Addr}
theorem cN{i:Nat}{a:Addr}(h:ρ<+:ρ')(e:ρ[i]? =some a):ρ'[i]? =some a:=by
 obtain⟨t,rfl⟩:=h
 rw[Cd (dg.mp e).1];exact e
theorem VR.mono(h:ρ<+:ρ'){x:SV}{v:Value}(r:VR W ρ x v):VR W ρ' x v:=by
 cases x with
 |obj i=>exact r.imp fun a r=>⟨cN h r.1,r.2⟩
 |_=>exact r
theorem aG.mono(h:ρ<+:ρ'){xs:List SV}{vs:List Value}(r:aG W ρ xs vs):aG W ρ' xs vs:=Each.mono (fun qq qq q=>q.mono h) r
theorem FR.mono(h:ρ<+:ρ'){xs:List (Str×SV)}{vs:List DictEntry}(r:FR W ρ xs vs):FR W ρ' xs vs:=Each.mono (fun qq qq q=>⟨q.key,q.hash,q.val.mono h⟩) r
theorem dz.mono(h:ρ<+:ρ'){xs:List (Str×SV)}{vs:List (Str×Value)}(r:dz W ρ xs vs):dz W ρ' xs vs:=Each.mono (fun qq qq q=>⟨q.k,q.v.mono h⟩) r
theorem fL.mono(h:ρ<+:ρ'){xs:List (Tm×SV)}{vs:List (Str×Value)}(r:fL W ρ xs vs):fL W ρ' xs vs:=Each.mono (fun qq qq q=>⟨q.k,q.v.mono h⟩) r
theorem pT.mono(h:ρ<+:ρ'){x:Option SV}{v:Option Value}(r:pT W ρ x v):pT W ρ' x v:=by
 cases x with
 |none=>exact r
 |some x=>exact r.imp fun qq r=>⟨r.1,r.2.mono h⟩
theorem OR.mono(h:ρ<+:ρ'){X:List (Addr×Obj)}{a:Addr}{o:SO}{l:List (Addr×Obj)}(r:OR W X ρ a o l):OR W X ρ' a o l:=by
 cases o with
 |inst C fs=>obtain⟨a,b,c,d,f⟩:=r;exact⟨a,b,c,d,f.mono h⟩
 |dict fs=>obtain⟨a,b,c,d,f⟩:=r;exact⟨a,b,c,d,f.mono h⟩
 |bJ fs=>obtain⟨a,b,c,d,f⟩:=r;exact⟨a,b,c,d,f.mono h⟩
 |list p xs=>obtain⟨a,b,c,d,q,f⟩:=r;exact⟨a,b,c,d,q,f.mono h⟩
 |tup xs=>obtain⟨a,b,d,f⟩:=r;exact⟨a,b,d,f.mono h⟩
 |bX f x=>obtain⟨a,b,f⟩:=r;exact⟨a,b,f.mono h⟩
 |cell x=>obtain⟨a,b,c,d,q⟩:=r;exact⟨a,b,c,d,q.mono h⟩
 |eT fs=>obtain⟨a,b,c,d,q,f⟩:=r;exact⟨a,b,c,d,q,f.mono h⟩
 |_=>exact r
theorem LR.mono(h:ρ<+:ρ'){X:List (Addr×Obj)}{os:List SO}{ls:List Cl}(r:LR W X ρ os ls):LR W X ρ' os ls:=Each.mono (fun qq qq q=>q.mono h) r
theorem DW(k n:Str)(t:Tok):Value.isStr (.str k t) n=seq n k:=by
 show(k==n)=_
 rw[jG,pI,bS,bS,eq_comm]
theorem QM{n k:Str}{t:Tok}{e:DictEntry}{es:List DictEntry}(h:e.key=.str k t):getL n (e::es)=if n=k then some (some e.val) else getL n es:=by
 have hs:e.key.isStr n=seq n k:=by rw[h,DW]
 have hr:e.refKey=false:=by unfold DictEntry.refKey;rw[h]
 unfold getL
 rw[yE,hs,CW,hr,Ku]
 by_cases q:n=k
 ·rw[if_pos q,bS.mpr q]
 ·rw[if_neg q,rV q]
theorem FR.get{n:Str}{fs:List (Str×SV)}{es:List DictEntry}(r:FR W ρ fs es):match lk n fs with
 |some x=>∃v,getL n es=some (some v)∧VR W ρ x v
 |Option.none=>getL n es=some af:=by
 induction r with
 |nil=>rfl
 |@cons p e _ _ q _ ih=>
  obtain⟨t,hk⟩:=q.key
  rw[QM hk,show lk n (p::_)=_ from b6 n p.1 p.2 _]
  by_cases h:n=p.1
  ·rw[if_pos h,if_pos h];exact⟨_,rfl,q.val⟩
  ·rw[if_neg h,if_neg h];exact ih
theorem FR.put{n:Str}{x:SV}{v:Value}{t:Tok}(q:VR W ρ x v){fs:List (Str×SV)}{es:List DictEntry}(r:FR W ρ fs es):FR W ρ (Ex.put n x fs) (putL n (jD W.P n) (.str n t) v es):=by
 induction r with
 |nil=>exact .cons ⟨⟨t,rfl⟩,rfl,q⟩ .nil
 |@cons p e _ _ z r ih=>
  obtain⟨t',hk⟩:=z.key
  have hs:e.key.isStr n=seq n p.1:=by rw[hk,DW]
  unfold putL
  rw[hs,show Ex.put n x (p::_)=_ from ve n p.1 x p.2 _]
  by_cases h:n=p.1
  ·rw[if_pos h,bS.mpr h];exact .cons ⟨⟨t',hk⟩,z.hash,q⟩ r
  ·rw[if_neg h,rV h];exact .cons ⟨⟨t',hk⟩,z.hash,z.val⟩ ih
end
theorem rW{d:Addr}{o o':Obj}{post:List (Addr×Obj)}:∀{pre:List (Addr×Obj)},((pre++(d,o)::post).map aN).Nodup→Upd d o o' (pre++(d,o)::post) (pre++(d,o')::post):=@fun pre=>by
 induction pre with
 |nil=>exact fun h=>.head fun p hp e=>(cM.mp h).1 (dh.mpr ⟨p,hp,e⟩)
 |cons p pre ih=>exact fun h=>.tail (fun e=>(cM.mp h).1 (dh.mpr ⟨(d,o),by simp,e.symm⟩)) (ih (cM.mp h).2)
structure Cx where
 A:Around
 A₀:Around
 base:Heap
 h₀:Heap
 outer:List Env
 env:Env
 cs:Scope
 L:Addr
 X:List (Addr×Obj)
 R:List (Addr×Obj)
structure pU (env:Env) (cs:Scope) (L:Addr):Prop where
 kind:env.scope.kind=.function
 names:env.scope.names=cs.names
 loc:env.locals=L
 dM:env.globals=mainGlobals
 bi:env.builtins=builtinsNs
structure Ok (W:Wd) (c:Cx) (n:Nat):Prop where
 XB:W.K.In c.base
 TB:Top W.p W.loose W.mean W.mg W.mb c.base
 hA:0<n→c.A.frames=some (c.env::c.outer)∧c.env.frame=some c.L
 hk:pU c.env c.cs c.L
 hh:c.A.handled=none
 hd:c.A.depth+n<recursionLimit
 hu:c.A.units+8*n+40<cLine
structure y9 (W:Wd) (A₀:Around) (base:Heap) (outer:List Env) (h₀ g:Heap):Prop where
 B:Below A₀ base outer g
 X:W.K.In g
 T:Top W.p W.loose W.mean W.mg W.mb g
 D:KtsDicts (outer.filterMap (·.frame)) g
 t:KtsTurn (outer.filterMap (·.frame)) h₀ g
noncomputable abbrev Gr (W:Wd) (c:Cx) (g:Heap):Prop:=y9 W c.A₀ c.base c.outer c.h₀ g
theorem y9.tr{W:Wd}{A₀:Around}{base:Heap}{outer:List Env}{h₀ g:Heap}(k:y9 W A₀ base outer h₀ g):TopRead W.p W.loose W.mg W.mb g:=topRead_of k.T
theorem Ok.less{W:Wd}{c:Cx}{n m:Nat}(k:Ok W c n)(h:m≤n):Ok W c m:=⟨k.XB,k.TB,fun h0=>k.hA (iF h0 h),k.hk,k.hh,cK (eG h _) k.hd,cK (gC (eG (lK 8 h) _) _) k.hu⟩
inductive OL where
 |b (l:List SO)
 |a (l:OL) (x:SO)
 |s (l:OL) (i:Nat) (x:SO)
noncomputable def OL.list:OL→List SO:=OL.rec (fun l=>l) (fun qq x l=>snoc l x) fun qq i x l=>aL l i x
noncomputable def OL.length:OL→Nat:=OL.rec (fun l=>l.length) (fun qq qq n=>Nat.succ n) fun qq qq qq n=>n
noncomputable def OL.get:OL→Nat→Option SO:=OL.rec (fun l i=>at? l i) (fun l x ih i=>@aj (fun qq=>Option SO) (ih i) (some x) (aB i l.length)) fun l j x ih i=>@aj (fun qq=>Option SO) (ih i) (@aj (fun qq=>Option SO) af (some x) (cW j l.length)) (aB i j)
theorem QN{α:Type}{x:α}:∀{l:List α} {i:Nat},(aL l i x).length=l.length:=@fun l=>by
 induction l with
 |nil=>exact rfl
 |cons a r ih=>intro i;cases i with
  |zero=>rfl
  |succ i=>exact congrArg (· +1) ih
theorem kE{α:Type}{x:α}:∀{l:List α} {i j:Nat},(aL l i x)[j]? =if j=i then(if i<l.length then some x else af) else l[j]? :=@fun l=>by
 induction l with
 |nil=>intro i j;by_cases h:j=i<;>simp[h,aL]
 |cons a r ih=>
  intro i j
  cases i with
  |zero=>cases j with
   |zero=>rfl
   |succ j=>rfl
  |succ i=>cases j with
   |zero=>rfl
   |succ j=>
    show(aL r i x)[j]? =_
    rw[ih]
    simp
theorem OL.len_eq:∀t:OL,t.length=t.list.length:=fun t=>by
 induction t with
 |b l=>rfl
 |a l x ih=>exact(congrArg Nat.succ ih).trans (by show _=(snoc l.list x).length;rw[eW,bG];rfl)
 |s l i x ih=>exact ih.trans QN.symm
theorem OL.get_eq:∀(t:OL) (i:Nat),t.get i=t.list[i]? :=fun t=>by
 induction t with
 |b l=>exact kC l
 |a l x ih=>
  intro i
  show@aj (fun qq=>Option SO) (l.get i) (some x) (aB i l.length)=(snoc l.list x)[i]?
  rw[eW]
  cases h:aB i l.length with
  |true=>
   rw[bh h,l.len_eq,fj (az _),nE];rfl
  |false=>
   have h':i≠l.list.length:=fun e=>by rw[e,←l.len_eq,uU] at h;cases h
   rcases Nat.lt_or_gt_of_ne h' with h'|h'
   ·rw[Cd h'];exact ih i
   ·have e:l.list[i]? =af:=afn (gF h')
    rw[afn (by rw[bG];exact h')]
    exact(ih i).trans e
 |s l j x ih=>
  intro i
  show@aj (fun qq=>Option SO) (l.get i) (@aj (fun qq=>Option SO) af (some x) (cW j l.length)) (aB i j)=(aL l.list j x)[i]?
  rw[kE]
  cases h:aB i j with
  |true=>
   rw[if_pos (bh h)]
   cases q:cW j l.length with
   |true=>rw[if_pos (l.len_eq▸ao q)]
   |false=>rw[if_neg fun z=>by rw[←l.len_eq] at z;have q':av (j+1) l.length=false:=q;rw[yh z] at q';cases q']
  |false=>
   rw[if_neg fun e=>by rw[e,uU] at h;cases h]
   exact ih i
structure Fact where
 k:Nat
 l:List Nat
 a:Tm
 b:Tm
 v:Bool
noncomputable def Fact.ok (η:Ev) (f:Fact):Prop:=aZ η f.k f.l (f.a.ev η) (f.b.ev η)=f.v
structure SS where
 loc:List (Str×SV)
 objs:OL
 fa:List Fact
noncomputable def eX (W:Wd) (ρ:List Addr) (loc:List (Str×SV)) (m:Str→Option Value):Prop:=∀x y,lk x loc=some y→∃v,m x=some v∧VR W ρ y v
inductive Led (W:Wd) (c:Cx) (ρ:List Addr) (os:List SO) (m:Str→Option Value) (h:Heap):Prop
 |mk (ls:List Cl) (ad:ls.map aN=ρ) (l1:LR W c.R ρ os ls) (l2:((flat ls++c.X).map aN).Nodup) (g:Heap) (gr:Gr W c g) (F:Fr g c.L h m) (N:News g c.L h (flat ls++c.X))
inductive Rep (W:Wd) (c:Cx) (ρ:List Addr) (σ:SS) (h:Heap):Prop
 |mk (m:Str→Option Value) (l:Led W c ρ σ.objs.list m h) (r:eX W ρ σ.loc m)
section
variable{W:Wd}{c:Cx}{ρ ρ':List Addr}{os:List SO}{m m':Str→Option Value}{h h':Heap}{i:Nat}{a:Addr}{o:SO}
theorem eX.mono(h:ρ<+:ρ'){loc:List (Str×SV)}(r:eX W ρ loc m):eX W ρ' loc m:=fun x y e=>let⟨v,a,b⟩:=r x y e;⟨v,a,b.mono h⟩
theorem eX.set{loc:List (Str×SV)}{n:Str}{x:SV}{v:Value}(r:eX W ρ loc m)(q:VR W ρ x v):eX W ρ ((n,x)::loc) (fun y=>if y=n then some v else m y):=by
 intro y z e
 rw[b6] at e
 by_cases h:y=n
 ·rw[if_pos h] at e
  cases e
  exact⟨v,if_pos h,q⟩
 ·rw[if_neg h] at e
  obtain⟨u,a,b⟩:=r y z e
  exact⟨u,(if_neg h).trans a,b⟩
theorem Led.len(l:Led W c ρ os m h):ρ.length=os.length:=by
 obtain⟨ls,rfl,l1,_⟩:=l
 rw[gE,l1.len]
theorem Led.end{t:OL}(l:Led W c ρ t.list m h)(q:Addr):(ρ++[q])[t.length]? =some q:=by
 rw[t.len_eq,←l.len,fj (az _),nE];rfl
theorem Led.re(l:Led W c ρ os m h)(F:∀g,Fr g c.L h m→Fr g c.L h' m')(N:∀g l,News g c.L h l→News g c.L h' l):Led W c ρ os m' h':=
 let⟨ls,e,a,b,g,gr,f,d⟩:=l;⟨ls,e,a,b,g,gr,F _ f,N _ _ d⟩
theorem Led.new{ls:List Cl}{g:Heap}(ad:ls.map aN=ρ)(l1:LR W c.R ρ os ls)(l2:((flat ls++c.X).map aN).Nodup)(gr:Gr W c g){q:Addr}{ob:Obj}{x:SO}(F:Fr g c.L h m)
 (N:News g c.L h ((q,ob)::(flat ls++c.X))) (lo:∀p∈flat ls++c.X,p.1<q) (hx:OR W c.R (ρ++[q]) q x [(q,ob)]):Led W c (ρ++[q]) (snoc os x) m h:=by
 subst ad
 have pm:(flat (ls++[(q,[(q,ob)])])++c.X).Perm ((q,ob)::(flat ls++c.X)):=by
  rw[flat,nB,bD]
  exact iH
 refine⟨ls++[(q,[(q,ob)])],cy,eW os x▸(LR.mono (cu _ _) l1).app (.one hx),?_,g,gr,F,fun p hp=>N p (pm.subset hp)⟩
 exact(pm.map aN).nodup_iff.mpr (cM.mpr ⟨fun hq=>(let⟨p,hp,e⟩:=dh.mp hq;absurd e (cU (lo p hp))),l2⟩)
inductive DX (W:Wd) (c:Cx) (ρ:List Addr) (os:List SO) (m:Str→Option Value) (h:Heap) (i:Nat) (o:SO) (a:Addr):Prop
 |mk (A B l:List (Addr×Obj)) (g:Heap) (O:OR W c.R ρ a o l) (gr:Gr W c g) (F:Fr g c.L h m) (N:News g c.L h (A++(l++B))) (nd:((A++(l++B)).map aN).Nodup)
  (back:∀o' l' h' m' g',OR W c.R ρ a o' l'→((A++(l'++B)).map aN).Nodup→Gr W c g'→Fr g' c.L h' m'→News g' c.L h' (A++(l'++B))→Led W c ρ (aL os i o') m' h')
theorem Led.dN(l:Led W c ρ os m h)(ho:os[i]? =some o)(hi:ρ[i]? =some a):DX W c ρ os m h i o a:=by
 obtain⟨ls,rfl,a1,b,g,gr,F,N⟩:=l
 obtain⟨A,y,B,hl,rfl,r,st⟩:=a1.at ho
 have ea:y.1=a:=by
  rw[cy,fj (by simp[hl])] at hi
  simpa[hl] using hi
 subst ea
 have e:∀l,flat (A++(y.1,l)::B)++c.X=flat A++(l++(flat B++c.X)):=fun l=>by simp[flat]
 have e0:flat (A++y::B)++c.X=flat A++(y.2++(flat B++c.X)):=e y.2
 refine⟨flat A,flat B++c.X,y.2,g,r,gr,F,e0▸N,e0▸b,fun o' l' h' m' g' hO nd gr' F' N'=>⟨A++(y.1,l')::B,by simp,st o' (y.1,l') hO,?_,g',gr',F',?_⟩⟩
 ·rw[e];exact nd
 ·rw[e];exact N'
end
end Ex
end
section
namespace Ex
set_option genSizeOf false
set_option genInjectivity false
noncomputable section
structure CI where
 C:Addr
 gK:List Str
 fM:List (Str×Addr)
 vals:List (Str×Value)
structure aJ where
 name:Str
 qual:Str
 params:Arguments
 body:List Stmt
 scope:Scope
 dV:Value
 kV:Value
 doc:Value
 pm:Value
 an:Option Addr
 cdv:Value
 ct:Value
 ps:List Str
 ds:List Value
noncomputable abbrev aJ.fd (f:aJ):FuncData:=fnOf f.name f.qual f.params f.body f.scope f.dV f.kV f.doc f.pm f.an f.cdv f.ct
noncomputable def aJ.bind (f:aJ) (vs:List Value):List (Str×Value):=f.ps.zip (vs++f.ds.drop (vs.length+f.ds.length-f.ps.length))
structure Tab where
 cls:List (Addr×CI)
 dM:List (Str×Value)
 fns:List (Addr×aJ)
 tups:List (Addr×List SV)
 rX:List (Addr×List (Str×Value))
 lW:eO→Addr
 nO:List (Addr×Addr×Addr×List (Str×SV))
 lY:List (Addr×List Str)
 nP:List (Addr×List (Str×Str))
 kF:List Addr
 jH:List (Addr×aJ×Str×Str)
structure vj (K:Frag) (c:CI):Prop where
 plain:plainGet K c.C (aa "")=true
 dict:hasDictIn K c.C=true
 set:findIn K (.ref c.C) "__setattr__"=some (some (.builtin "object.__setattr__"))
 over:plainOver K c.C=true
 fld:∀n∈c.gK,findIn K (.ref c.C) n=some af∧takerIn K c.C n=some af
 nQ:∀x∈c.fM,findIn K (.ref c.C) x.1=some (some (.ref x.2))∧isFn K (.ref x.2)=true∧specialIn K (.ref x.2) "__get__"=some (some (.builtin "function.__get__"))∧takesIn K (.ref x.2)=some false∧copiedNames.contains x.1=false∧keepIn K (.ref x.2)=true∧fnIn K x.2=true
 val:∀x∈c.vals,findIn K (.ref c.C) x.1=some (some x.2)∧specialIn K x.2 "__get__"=some af∧handedIn x.2=true∧copiedNames.contains x.1=false
noncomputable def za (K:Frag) (x:Str×Value):Prop:=(x.1==("__debug__":Str))=false∧(nsIn K mainGlobals x.1=some (some x.2)∨(nsIn K mainGlobals x.1=some af∧bootBuiltins x.1=some x.2∧x.1≠"__name__"))
structure zb (K:Frag) (f:Addr) (i:aJ):Prop where
 at_:∃oc od osl,K.lookup f=some ⟨oc,od,.func i.fd,osl⟩
 code:codeIn K i.cdv i.qual=true
 co:i.scope.isCoroutine=false
 gen:i.scope.isGenerator=false
 kind:i.scope.kind=.function
 cell:∀x∈i.scope.names,x.2≠.cell
 loc:(i.ps.all fun x=>decide (i.scope.names.lookup x=some .local))=true
 bind:∀(s:Shared) (vs:List Value),K.In s.heap→i.ps.length≤vs.length+i.ds.length→vs.length≤i.ps.length→BindsTo s i.fd ⟨vs,[]⟩ (i.bind vs)
 keep:keepIn K (.ref f)=true
 fnIn:fnIn K f=true
 nd:i.ps.Nodup
structure rY (K:Frag) (f:Addr) (i:aJ) (pn n0:Str):Prop where
 at_:∃oc od osl,K.lookup f=some ⟨oc,od,.func i.fd,osl⟩
 code:codeIn K i.cdv i.qual=true
 co:i.scope.isCoroutine=false
 gen:i.scope.isGenerator=false
 kind:i.scope.kind=.function
 cells:∀k,cellsFrom k i.scope.names []=[(n0,k)]
 push:∀h,pushCells h i.scope.names=h.push {cls:=.type "cell",data:=.cell none}
 loc:i.scope.names.lookup pn=some .local
 bind:∀v,bindArgs i.fd ⟨[v],[]⟩=pure [(pn,v)]
 keep:keepIn K (.ref f)=true
 vm:¬∀x∈i.scope.names,x.2≠.cell
structure TabOk (W:Wd) (T:Tab):Prop where
 tup:∀x∈T.tups,∃dd n sl vs,W.K.lookup x.1=some ⟨.type "tuple",dd,.seq (vs:List Value).toArray n,sl⟩∧aG W [] x.2 vs
 vn:∀x∈T.rX,∃es n,W.K.lookup x.1=some {cls:=.type "dict",data:=.dict es n}∧KeysLit W.P es.toList∧∀y∈x.2,nsIn W.K x.1 y.1=some (some y.2)
 cls:∀c∈T.cls,vj W.K c.2∧c.2.C=c.1
 dM:∀x∈T.dM,za W.K x
 fns:∀x∈T.fns,zb W.K x.1 x.2
 sin:∀x∈T.nO,W.K.lookup x.1=some (instObj x.2.1 x.2.2.1)∧∃es n,W.K.lookup x.2.2.1=some (dictOf es n)∧FR W [] x.2.2.2 es
 lst:∀x∈T.lY,∃vs n,W.K.lookup x.1=some (listOf (vs:List Value).toArray n)∧StrsAre vs x.2
 jH:∀x∈T.jH,rY W.K x.1 x.2.1 x.2.2.1 x.2.2.2
 kF:∀x,aH x T.kF=true→makesIn W.K x=true∧keepIn W.K (.ref x)=true
 DY:∀x∈T.nP,∃o,W.K.lookup x.1=some o∧∀h:Heap,h.get? x.1=some o→KTD.TextTab h x.1 (x.2.map fun p=>(p.1,yH (.str p.2)))
noncomputable def sv:Value→SV
 |.none=>.none
 |.bool b=>.bool b
 |.int i _=>.int i
 |.str x _=>.str x
 |v=>.val v
theorem pV(W:Wd)(ρ:List Addr)(v:Value):VR W ρ (sv v) v:=by
 cases v<;>first|rfl|exact⟨_,rfl⟩
noncomputable def rZ:SV→Bool
 |.val v=>handedIn v
 |_=>true
theorem VR.handed{W:Wd}{ρ:List Addr}{x:SV}{v:Value}(r:VR W ρ x v)(h:rZ x=true):handedIn v=true:=by
 cases x with
 |val u=>obtain rfl:=r;exact h
 |obj=>obtain⟨_,_,rfl⟩:=r;rfl
 |_=>first|(obtain rfl:=r;rfl)|(obtain⟨_,rfl⟩:=r;rfl)
inductive Tr where
 |tt
 |ff
 |and (a b:Tr)
 |pr (p:Prop) (t:Tr)
 |im (b:Bool) (t f:Tr)
noncomputable def Tr.h:Tr→Prop
 |.tt=>True
 |.ff=>False
 |.and a b=>a.h∧b.h
 |.pr p t=>p∧t.h
 |.im b t f=>(b=true→t.h)∧(b=false→f.h)
noncomputable def Tr.c:Tr→Bool:=Tr.rec true false (fun qq qq a b=>@aj (fun qq=>Bool) false b a) (fun qq qq qq=>false) (fun qq qq qq qq qq=>false)
theorem Tr.r8:∀{t:Tr},t.c=true→t.h:=@fun t=>by
 induction t with
 |tt=>exact fun qq=>trivial
 |and a b iha ihb=>
  intro h
  have h':@aj (fun qq=>Bool) false b.c a.c=true:=h
  cases e:a.c with
  |false=>rw[e] at h';cases h'
  |true=>rw[e] at h';exact⟨iha e,ihb h'⟩
 |_=>intro h;cases h
inductive Fl where
 |next
 |brk
 |cont
 |ret (v:SV)
noncomputable abbrev bx:=List SV→SS→(SV→SS→Tr)→Tr
noncomputable abbrev lZ:=SS→(Fl→SS→Tr)→Tr
noncomputable abbrev mh:=SS→(SV→SS→Tr)→Tr
structure Gx where
 D:Wd
 T:Tab
 n:Nat
 cs:Scope
 KX:Value→List Addr→SS→Prop
 cons:List (Addr×Nat×bx)
 sc:List (Nat×Stmt×lZ)
 ec:List (Nat×Expr×mh)
 cv:List (Str×Nat)
 fr:Bool
end
structure Tp (W:Wd) (s:Shared):Prop where
 t:0<s.toks
 o:s.os=W.os
 g:s.gens=W.gens
theorem Tp.to{W:Wd}{s s':Shared}(h:Tp W s)(ht:s.toks≤s'.toks)(h1:s'.os=s.os:=by rfl)(h2:s'.gens=s.gens:=by rfl):Tp W s':=⟨iF h.1 ht,h1.trans h.2,h2.trans h.3⟩
structure RepS (W:Wd) (c:Cx) (ρ:List Addr) (σ:SS) (s:Shared):Prop where
 R:Rep W c ρ σ s.heap
 tp:Tp W s
 fa:∀f∈σ.fa,f.ok W.η
structure At (G:Gx) (c:Cx) (ρ:List Addr) (σ:SS) (s:Shared):Prop extends RepS G.D c ρ σ s where
 cs:c.cs=G.cs
 ok:Ok G.D c G.n
 tk:TabOk G.D G.T
 rx:∀p∈c.R,p∈c.X
 cv:∀x∈G.cv,∃a,c.env.cells.lookup x.1=some a∧ρ[x.2]? =some a
 hf:G.fr=true→c.A=c.A₀.deeper c.env∧((∀x∈c.cs.names,x.2≠.cell)→∃name scope a cd,c.env=envOf name scope c.L a cd)
inductive QO (D:Wd) (c:Cx) (ρ:List Addr) (σ:SS) (m:Str→Option Value) (e:Value) (s':Shared):Prop
 |mk (a:Addr) (g Gh:Heap) (ls:List Cl) (e:e=.ref a) (ad:ls.map aN=ρ) (l:LR D c.R ρ σ.objs.list ls) (nd:((flat ls++c.X).map aN).Nodup)
  (r:RaisedSN c.base Gh (c.env::c.outer) a (.type "KeyError") (flat ls++c.X) s'.heap) (u:Gh.UpToSlots s'.heap) (F:Fr g c.L Gh m) (gr:Gr D c g) (tp:Tp D s') (loc:eX D ρ σ.loc m) (fa:∀f∈σ.fa,f.ok D.η)
inductive QR (D:Wd) (KX:Value→List Addr→SS→Prop) (c:Cx) (ρ:List Addr) (e:Value) (s':Shared):Prop
 |mk (ρ':List Addr) (σ':SS) (m:Str→Option Value) (p:ρ<+:ρ') (f:QO D c ρ' σ' m e s') (k:KX e ρ' σ')
noncomputable abbrev PX (G:Gx) (c:Cx) (ρ:List Addr):Value→Shared→Prop:=QR G.D G.KX c ρ
theorem PX.mono{G:Gx}{c:Cx}{ρ ρ':List Addr}(h:ρ<+:ρ'){e:Value}{s:Shared}(r:PX G c ρ' e s):PX G c ρ e s:=by
 obtain⟨a,b,m,p,f,k⟩:=r
 exact⟨a,b,m,h.trans p,f,k⟩
inductive Post {α β:Type} (V:List Addr→α→β→Prop) (D:Wd) (c:Cx) (ρ:List Addr) (K:α→SS→Prop) (v:β) (s:Shared):Prop
 |mk (ρ':List Addr) (σ':SS) (x:α) (p:ρ<+:ρ') (R:RepS D c ρ' σ' s) (r:V ρ' x v) (z:K x σ')
theorem Post.mono{α β:Type}{V:List Addr→α→β→Prop}{D:Wd}{c:Cx}{ρ₀ ρ:List Addr}{K:α→SS→Prop}(h:ρ₀<+:ρ){v:β}{s:Shared}(r:Post V D c ρ K v s):Post V D c ρ₀ K v s:=by
 obtain⟨a,b,x,p,R,r,z⟩:=r
 exact⟨a,b,x,h.trans p,R,r,z⟩
noncomputable def BR (W:Wd) (x:SV) (b:Bool):Prop:=match x with
 |.bool c=>b=c
 |.sb c=>b=c
 |.bm k l x y=>b=aZ W.η k l (x.ev W.η) (y.ev W.η)
 |_=>False
theorem BR.VR{W:Wd}{ρ:List Addr}{x:SV}{b:Bool}(h:BR W x b):VR W ρ x (.bool b):=by
 cases x with
 |bool|sb|bm=>exact congrArg je h
 |_=>exact h.elim
noncomputable def r9 (W:Wd) (ρ:List Addr) (x:Fl) (f:Flow):Prop:=match x with
 |.next=>f=.next
 |.brk=>f=.brk
 |.cont=>f=.cont
 |.ret x=>∃v,f=.ret v∧VR W ρ x v
noncomputable abbrev PE (G:Gx) (c:Cx) (ρ:List Addr) (K:SV→SS→Prop):Value→Shared→Prop:=Post (VR G.D) G.D c ρ K
noncomputable abbrev PL (G:Gx) (c:Cx) (ρ:List Addr) (K:List SV→SS→Prop):List Value→Shared→Prop:=Post (aG G.D) G.D c ρ K
noncomputable abbrev PT (G:Gx) (c:Cx) (ρ:List Addr) (K:SV→SS→Prop):Bool→Shared→Prop:=Post (fun qq=>BR G.D) G.D c ρ K
noncomputable abbrev PB (G:Gx) (c:Cx) (ρ:List Addr) (K:Fl→SS→Prop):Flow→Shared→Prop:=Post (r9 G.D) G.D c ρ K
noncomputable abbrev PU (G:Gx) (c:Cx) (ρ:List Addr) (K:SS→Prop):Unit→Shared→Prop:=Post (fun _ (_:Unit) _=>True) G.D c ρ fun qq=>K
noncomputable def aK {α β ω:Type} (G:Gx) (V:List Addr→α→β→Prop) (R:List Addr→ω→Prop) (t:Cx→ω→Sem β) (σ:SS) (K:α→SS→Prop):Prop:=
 ∀c ρ s w,At G c ρ σ s→R ρ w→wpAny G.D.M c.A (t c w) (Post V G.D c ρ K) (PX G c ρ) s
noncomputable abbrev jh {ω:Type}:List Addr→ω→Prop:=fun qq qq=>True
noncomputable abbrev aq (G:Gx) (e:Expr):SS→(SV→SS→Prop)→Prop:=aK G (VR G.D) jh fun c (_:Unit)=>eval e c.env
noncomputable abbrev bN (G:Gx) (e:Expr):SS→(SV→SS→Prop)→Prop:=aK G (fun qq=>BR G.D) jh fun c (_:Unit)=>isTrue e c.env (eval e c.env)
noncomputable abbrev c7 (G:Gx) (es:List Expr):SS→(List SV→SS→Prop)→Prop:=aK G (aG G.D) jh fun c pos=>spliced (backTo pos (starEach es c.env))
noncomputable abbrev bw (G:Gx) (st:Stmt):SS→(Fl→SS→Prop)→Prop:=aK G (r9 G.D) jh fun c (_:Unit)=>exec st c.env
noncomputable abbrev bz (G:Gx) (b:List Stmt):SS→(Fl→SS→Prop)→Prop:=aK G (r9 G.D) jh fun c (_:Unit)=>execs b c.env
noncomputable abbrev iL (G:Gx) (f:Value→Sem Value) (x:SV):SS→(SV→SS→Prop)→Prop:=aK G (VR G.D) (fun ρ v=>VR G.D ρ x v) fun qq v=>f v
noncomputable abbrev fN (G:Gx) (x:SV):SS→(SV→SS→Prop)→Prop:=aK G (fun qq=>BR G.D) (fun ρ v=>VR G.D ρ x v) fun qq v=>truthy v
structure R2 (W:Wd) (x y:SV) (ρ:List Addr) (w:Value×Value):Prop where
 a:VR W ρ x w.1
 b:VR W ρ y w.2
noncomputable abbrev aC (G:Gx) (f:Value→Value→Sem Value) (x y:SV):SS→(SV→SS→Prop)→Prop:=aK G (VR G.D) (R2 G.D x y) fun qq w=>f w.1 w.2
noncomputable abbrev bB (G:Gx) (f:Value) (xs:List SV):SS→(SV→SS→Prop)→Prop:=aK G (VR G.D) (fun ρ vs=>aG G.D ρ xs vs) fun qq vs=>iJ f vs []
noncomputable abbrev sd (G:Gx) (x:SV) (nm:Str) (y:SV) (σ:SS) (K:SS→Prop):Prop:=aK G (fun _ (_:Unit) _=>True) (R2 G.D x y) (fun qq w=>setAttr w.1 nm w.2) σ fun qq=>K
structure R3 (W:Wd) (x y z:SV) (ρ:List Addr) (w:Value×Value×Value):Prop where
 a:VR W ρ x w.1
 b:VR W ρ y w.2.1
 c:VR W ρ z w.2.2
noncomputable abbrev se (G:Gx) (x i y:SV) (σ:SS) (K:SS→Prop):Prop:=aK G (fun _ (_:Unit) _=>True) (R3 G.D x i y) (fun qq w=>setItem w.1 w.2.1 w.2.2) σ fun qq=>K
noncomputable abbrev fO (G:Gx) (t:Expr) (y:SV) (σ:SS) (K:SS→Prop):Prop:=aK G (fun _ (_:Unit) _=>True) (fun ρ v=>VR G.D ρ y v) (fun c v=>assign t c.env v) σ fun qq=>K
section
variable{α β ω:Type}{G:Gx}{c:Cx}{ρ ρ₀ ρ₁:List Addr}{σ σ':SS}{s s':Shared}{V:List Addr→α→β→Prop}{R:List Addr→ω→Prop}{t:Cx→ω→Sem β}{K:α→SS→Prop}{w:ω}
theorem At.to{ρ':List Addr}(a:At G c ρ σ s)(p:ρ<+:ρ')(R:RepS G.D c ρ' σ' s'):At G c ρ' σ' s':=⟨R,a.cs,a.ok,a.tk,a.rx,fun x hx=>(a.cv x hx).imp fun qq h=>⟨h.1,cN p h.2⟩,a.hf⟩
theorem At.tk'(a:At G c ρ σ s)(h:s.toks≤s'.toks)(e:s'={s with toks:=s'.toks}):At G c ρ σ s':=a.to Kg (e▸⟨a.R,a.tp.to h,a.fa⟩)
theorem At.tok(a:At G c ρ σ s){k:Nat}(h:s.toks≤k):At G c ρ σ {s with toks:=k}:=a.to Kg ⟨a.R,a.tp.to h,a.fa⟩
theorem At.t1(a:At G c ρ σ s):At G c ρ σ {s with toks:=s.toks+1}:=a.tok (cV _)
theorem At.t2(a:At G c ρ σ s):At G c ρ σ {s with toks:=s.toks+1+1}:=a.tok (bC _ 2)
theorem aK.go(h:aK G V R t σ K)(a:At G c ρ σ s)(p:ρ₀<+:ρ)(r:R ρ w){Q:β→Shared→Prop}
 (k:∀ρ' σ' x v s',ρ₀<+:ρ'→ρ<+:ρ'→At G c ρ' σ' s'→V ρ' x v→K x σ'→Q v s'):wpAny G.D.M c.A (t c w) Q (PX G c ρ₀) s:=
 wpAny_mono (h c ρ s w a r) (fun v s' ⟨ρ',σ',x,p',R,r,z⟩=>k ρ' σ' x v s' (p.trans p') p' (a.to p' R) r z) fun qq qq z=>PX.mono p z
theorem aK.at(h:aK G V R t σ K)(a:At G c ρ σ s)(p:ρ₀<+:ρ)(r:R ρ w):wpAny G.D.M c.A (t c w) (Post V G.D c ρ₀ K) (PX G c ρ₀) s:=wpAny_mono (h c ρ s w a r) (fun qq qq z=>z.mono p) fun qq qq z=>PX.mono p z
theorem aK.mp{K':α→SS→Prop}(h:aK G V R t σ K)(k:∀x σ',K x σ'→K' x σ'):aK G V R t σ K':=fun c ρ s w a r=>
 wpAny_mono (h c ρ s w a r) (fun v s' ⟨ρ',σ',x,p',R,r,z⟩=>⟨ρ',σ',x,p',R,r,k _ _ z⟩) fun qq qq z=>z
theorem At.give(a:At G c ρ σ s)(p:ρ₀<+:ρ){x:α}{v:β}(r:V ρ x v)(k:K x σ):Post V G.D c ρ₀ K v s:=⟨ρ,σ,x,p,a.toRepS,r,k⟩
noncomputable abbrev pr (ρ:List Addr):ρ<+:ρ:=Kg
noncomputable def SS.add (σ:SS) (k:Nat) (l:List Nat) (a b:Tm) (v:Bool):SS:=⟨σ.loc,σ.objs,⟨k,l,a,b,v⟩::σ.fa⟩
theorem At.add(a:At G c ρ σ s){k:Nat}{l:List Nat}{x y:Tm}{v:Bool}(h:v=aZ G.D.η k l (x.ev G.D.η) (y.ev G.D.η)):At G c ρ (σ.add k l x y v) s:=
 a.to (pr _) ⟨let⟨m,l,r⟩:=a.R;⟨m,l,r⟩,a.tp,fun f hf=>by
  cases hf with
  |head=>exact h.symm
  |tail _ hf=>exact a.fa f hf⟩
noncomputable def Br (x:SV) (σ:SS) (A B:SS→Prop):Prop:=match x with
 |.bool b=>match b with
  |true=>A σ
  |false=>B σ
 |.sb b=>(b=true→A σ)∧(b=false→B σ)
 |.bm k l x y=>A (σ.add k l x y true)∧B (σ.add k l x y false)
 |_=>False
inductive QS (G:Gx) (c:Cx) (ρ:List Addr) (s:Shared) (A B:SS→Prop) (b:Bool):Prop
 |t (e:b=true) (σ:SS) (a:At G c ρ σ s) (h:A σ)
 |f (e:b=false) (σ:SS) (a:At G c ρ σ s) (h:B σ)
theorem At.br(a:At G c ρ σ s){x:SV}{A B:SS→Prop}{b:Bool}(h:Br x σ A B)(r:BR G.D x b):QS G c ρ s A B b:=by
 cases x with
 |bool b'=>
  cases b' with
  |true=>exact .t r σ a h
  |false=>exact .f r σ a h
 |sb b'=>
  obtain rfl:b=b':=r
  cases b with
  |true=>exact .t rfl σ a (h.1 rfl)
  |false=>exact .f rfl σ a (h.2 rfl)
 |bm k l x y=>
  cases b with
  |true=>exact .t rfl _ (a.add r) h.1
  |false=>exact .f rfl _ (a.add r) h.2
 |_=>exact h.elim
theorem Br.mp{x:SV}{A B A' B':SS→Prop}(h:Br x σ A B)(f:∀σ,A σ→A' σ)(g:∀σ,B σ→B' σ):Br x σ A' B':=by
 cases x with
 |bool b=>cases b;exact g _ h;exact f _ h
 |sb b=>exact⟨fun e=>f _ (h.1 e),fun e=>g _ (h.2 e)⟩
 |bm k l x y=>exact⟨f _ h.1,g _ h.2⟩
 |_=>exact h.elim
end
end Ex
end
section
namespace Ex
set_option genSizeOf false
set_option genInjectivity false
noncomputable section
structure VC (S:Prop) where
 t:Tr
 ok:t.h→S
namespace VC
variable{α:Type}{S S':Prop}
noncomputable def no:VC S:=⟨.ff,False.elim⟩
noncomputable def map (f:S→S') (v:VC S):VC S':=⟨v.t,fun h=>f (v.ok h)⟩
noncomputable def opt (o:Option α) (f:∀a,o=some a→VC S):VC S:=@aU α (fun o'=>o=o'→VC S) (fun qq=>no) (fun a h=>f a h) o rfl
noncomputable def or (o:Option α) (n:o=af→VC S) (f:∀a,o=some a→VC S):VC S:=@aU α (fun o'=>o=o'→VC S) n (fun a h=>f a h) o rfl
noncomputable def aT (b:Bool) (f:b=true→VC S):VC S:=@aj (fun b'=>b=b'→VC S) (fun qq=>no) f b rfl
noncomputable def ite (b:Bool) (f:b=true→VC S) (g:b=false→VC S):VC S:=@aj (fun b'=>b=b'→VC S) g f b rfl
noncomputable def need (p:Prop) (v:VC (p→S)):VC S:=⟨.pr p v.t,fun h=>v.ok h.2 h.1⟩
noncomputable def ob {α:Type} (l:List α) (i:Nat) (f:∀a,l[i]? =some a→VC S):VC S:=opt (at? l i) fun a h=>f a ((kC l i).symm.trans h)
noncomputable def cO (l:OL) (i:Nat) (f:∀a,l.list[i]? =some a→VC S):VC S:=opt (l.get i) fun a h=>f a ((OL.get_eq l i).symm.trans h)
noncomputable def of (s:S):VC S:=⟨.tt,fun qq=>s⟩
end VC
noncomputable def hh {α:Type} (K:α→SS→Tr) (x:α) (σ:SS):Prop:=(K x σ).h
noncomputable def au (G:Gx) (f:Value) (xs:List SV) (σ:SS) (K:SV→SS→Prop):Prop:=
 ∀c ρ s vs,At G c ρ σ s→aG G.D ρ xs vs→codeAny G.D.M c.A (.call f ⟨vs,[]⟩) (fun r s'=>match r with
  |.ok (.ret v)=>PE G c ρ K v s'
  |.ok _=>False
  |.error e=>PX G c ρ e s') s
noncomputable def vo (D:Wd) (T:Tab):Prop:=∀b a l,D.bl b a l→∃ρ fs l0 rest,l=l0++rest∧vg D ρ a (T.lW b) fs l0∧∀ci,aQ (T.lW b) T.cls=some ci→∀x∈ci.fM,lk x.1 fs=af
structure bE (G:Gx):Prop where
 con:∀x∈G.cons,∀G':Gx,G'.D=G.D→G'.T=G.T→x.2.1≤G'.n→∀xs σ K,(x.2.2 xs σ K).h→au G' (.ref x.1) xs σ (hh K)
 bl:vo G.D G.T
 sc:∀x∈G.sc,∀σ K,(x.2.2 σ K).h→bw G x.2.1 σ (hh K)
 ec:∀x∈G.ec,∀σ K,(x.2.2 σ K).h→aq G x.2.1 σ (hh K)
 kx:∀e ρ os,¬G.KX e ρ os
noncomputable abbrev VG (G:Gx) (S:Prop):=VC (bE G→S)
noncomputable abbrev gm {G:Gx} {S S':Prop} (f:S→S') (v:VG G S):VG G S':=v.map fun h g=>f (h g)
noncomputable def bind {α β ω:Type} {G:Gx} {V:List Addr→α→β→Prop} {R:List Addr→ω→Prop} {t:Cx→ω→Sem β} {σ:SS} {Q:α→SS→Prop} (a:∀K:α→SS→Tr,VG G (aK G V R t σ (hh K))) (F:∀x σ₁,VG G (Q x σ₁)):VG G (aK G V R t σ Q):=
 ⟨(a fun x σ₁=>(F x σ₁).t).t,fun h g=>((a _).ok h g).mp fun x σ₁ z=>(F x σ₁).ok z g⟩
noncomputable def fin {α:Type} {G:Gx} {S:Prop} (K:α→SS→Tr) (x:α) (σ:SS) (f:hh K x σ→S):VG G S:=⟨K x σ,fun h qq=>f h⟩
noncomputable def cz:Tm→Tm→Bool:=Tm.rec (fun b=>@Tm.rec (fun qq=>Bool) true (fun qq qq qq qq qq qq=>false) b) fun k l qq qq iha ihb b=>@Tm.rec (fun qq=>Bool) false (fun k' l' a' b' qq qq=>
 @aj (fun qq=>Bool) false (@aj (fun qq=>Bool) false (@aj (fun qq=>Bool) false (ihb b') (iha a')) (f6 l l')) (aB k k')) b
theorem gM{a b:Bool}(h:@aj (fun qq=>Bool) false b a=true):a=true∧b=true:=by cases a with|false=>cases h|true=>exact⟨rfl,h⟩
theorem dO:∀{a b:Tm},cz a b=true→a=b:=@fun a=>by
 induction a with
 |e=>intro b h;cases b with|e=>rfl|n=>cases h
 |n k l a c iha ihc=>
  intro b h
  cases b with
  |e=>cases h
  |n k' l' a' c'=>
   obtain⟨h1,h⟩:=gM (a:=aB k k') h
   obtain⟨h2,h⟩:=gM (a:=f6 l l') h
   obtain⟨h3,h⟩:=gM (a:=cz a a') h
   rw[bh h1,Ci.mp h2,iha h3,ihc h]
noncomputable def sf:List Nat→List Nat→Bool:=fun S T=>bu true (fun k qq ih=>@aj (fun qq=>Bool) false ih (aH k T)) S
noncomputable def vp:List Nat→List Nat→Bool:=fun S T=>bu true (fun k qq ih=>@aj (fun qq=>Bool) ih false (aH k T)) S
theorem gp(x k:Nat)(l:List Nat):aH x (k::l)=(aB x k||aH x l):=by
 show@aj (fun qq=>Bool) (aH x l) true (aB x k)=_
 cases aB x k<;>rfl
theorem DZ{S T:List Nat}{x:Nat}(h:sf S T=true)(e:aH x S=true):aH x T=true:=by
 induction S with
 |nil=>cases e
 |cons k S ih=>
  obtain⟨h1,h2⟩:=gM (a:=aH k T) h
  rw[gp] at e
  cases q:aB x k with
  |true=>rw[bh q];exact h1
  |false=>rw[q] at e;exact ih h2 e
theorem QT{S T:List Nat}{x:Nat}(h:vp S T=true)(e:aH x S=true):aH x T=false:=by
 induction S with
 |nil=>cases e
 |cons k S ih=>
  have h':@aj (fun qq=>Bool) (vp S T) false (aH k T)=true:=h
  rw[gp] at e
  cases z:aH k T with
  |true=>rw[z] at h';cases h'
  |false=>
   rw[z] at h'
   cases q:aB x k with
   |true=>rw[bh q];exact z
   |false=>rw[q] at e;exact ih h' e
noncomputable def ask (f:Fact) (k:Nat) (l:List Nat) (a b:Tm):Option Bool:=@aj (fun qq=>Option Bool) af
 (@aj (fun qq=>Option Bool)
   (@aj (fun qq=>Option Bool) af
     (@aj (fun qq=>Option Bool)
       (@aj (fun qq=>Option Bool) af (some false) (sf l f.l))
       (@aj (fun qq=>Option Bool) (@aj (fun qq=>Option Bool) af (some false) (vp f.l l)) (some true) (sf f.l l)) f.v)
     (aB k 1))
   (@aj (fun qq=>Option Bool) af (some f.v) (cz f.b b)) (f6 f.l l)) (@aj (fun qq=>Bool) false (cz f.a a) (aB f.k k))
theorem kG{η:Ev}{l a b:List Nat}:aZ η 1 l a b=true↔∃c,a=[c]∧aH c l=true:=by
 show(match a with|[c]=>aH c l|_=>false)=true↔_
 cases a with
 |nil=>exact⟨fun h=>(by cases h),fun⟨_,h,_⟩=>(by cases h)⟩
 |cons c t=>cases t with
  |nil=>exact⟨fun h=>⟨c,rfl,h⟩,fun⟨_,h,q⟩=>by cases h;exact q⟩
  |cons=>exact⟨fun h=>(by cases h),fun⟨_,h,_⟩=>(by cases h)⟩
theorem QU{η:Ev}{f:Fact}{k:Nat}{l:List Nat}{a b:Tm}{v:Bool}(h:ask f k l a b=some v)(ok:f.ok η):aZ η k l (a.ev η) (b.ev η)=v:=by
 obtain⟨fk,fl,fa,fb,fv⟩:=f
 have ok':aZ η fk fl (fa.ev η) (fb.ev η)=fv:=ok
 unfold ask at h
 cases e0:(@aj (fun qq=>Bool) false (cz fa a) (aB fk k)) with
 |false=>rw[e0] at h;cases h
 |true=>
  rw[e0] at h
  obtain⟨e1,e2⟩:=gM e0
  obtain rfl:=bh e1
  obtain rfl:=dO e2
  clear e0
  cases e3:f6 fl l with
  |true=>
   rw[e3] at h
   cases e4:cz fb b with
   |false=>rw[e4] at h;cases h
   |true=>
    rw[e4] at h
    cases h
    rw[←Ci.mp e3,←dO e4];exact ok'
  |false=>
   rw[e3] at h
   cases e4:aB fk 1 with
   |false=>rw[e4] at h;cases h
   |true=>
    rw[e4] at h
    obtain rfl:=bh e4
    have key:∀{x y:Bool},(x=true→y=true)→y=false→x=false:=fun{x y} f e=>by cases x with|false=>rfl|true=>rw[f rfl] at e;cases e
    cases fv with
    |false=>
     cases e5:sf l fl with
     |false=>rw[e5] at h;cases h
     |true=>
      rw[e5] at h
      cases h
      exact key (fun z=>kG.mpr (let⟨c,q,r⟩:=kG.mp z;⟨c,q,DZ e5 r⟩)) ok'
    |true=>
     obtain⟨c,q,r⟩:=kG.mp ok'
     cases e5:sf fl l with
     |true=>rw[e5] at h;cases h;exact kG.mpr ⟨c,q,DZ e5 r⟩
     |false=>
      rw[e5] at h
      cases e6:vp fl l with
      |false=>rw[e6] at h;cases h
      |true=>
       rw[e6] at h
       cases h
       rw[q]
       exact QT e6 r
noncomputable def asks (k:Nat) (l:List Nat) (a b:Tm):List Fact→Option Bool:=bu af fun f qq ih=>@aU Bool (fun qq=>Option Bool) ih some (ask f k l a b)
theorem jI{η:Ev}{k:Nat}{l:List Nat}{a b:Tm}{v:Bool}:∀{fs:List Fact},asks k l a b fs=some v→(∀f∈fs,f.ok η)→aZ η k l (a.ev η) (b.ev η)=v:=@fun fs=>by
 induction fs with
 |nil=>intro h;cases h
 |cons f fs ih=>
  intro h ok
  have h':@aU Bool (fun qq=>Option Bool) (asks k l a b fs) some (ask f k l a b)=some v:=h
  cases e:ask f k l a b with
  |none=>rw[e] at h';exact ih h' fun g hg=>ok g (.tail _ hg)
  |some u=>rw[e] at h';cases h';exact QU e (ok f (.head _))
noncomputable def ji (σ:SS) (k:Nat) (l:List Nat) (a b:Tm):SV:=@aU Bool (fun qq=>SV) (.bm k l a b) .bool (asks k l a b σ.fa)
theorem pW{W:Wd}{σ:SS}{k:Nat}{l:List Nat}{a b:Tm}(h:∀f∈σ.fa,f.ok W.η):BR W (ji σ k l a b) (aZ W.η k l (a.ev W.η) (b.ev W.η)):=by
 unfold ji
 cases e:asks k l a b σ.fa with
 |none=>rfl
 |some v=>exact jI e h
end
section
variable{G:Gx}{c:Cx}{ρ ρ₀:List Addr}{σ:SS}{s s':Shared}{i:Nat}{v:Value}
inductive QV (G:Gx) (c:Cx) (ρ:List Addr) (σ:SS) (h:Heap) (i:Nat) (o:SO) (v:Value):Prop
 |mk (b:Addr) (m:Str→Option Value) (e:v=.ref b) (hl:eX G.D ρ σ.loc m) (o:DX G.D c ρ σ.objs.list m h i o b)
theorem At.dN(a:At G c ρ σ s){o:SO}(ho:σ.objs.list[i]? =some o)(r:VR G.D ρ (.obj i) v):QV G c ρ σ s.heap i o v:=by
 obtain⟨b,hb,rfl⟩:=r
 obtain⟨m,l,hl⟩:=a.R
 exact⟨b,m,rfl,hl,l.dN ho hb⟩
theorem At.X(a:At G c ρ σ s):G.D.K.In s.heap:=let⟨_,⟨_,_,_,_,g,gr,F,_⟩,_⟩:=a.R;gr.X.keeps F.keep
inductive QW (D:Wd) (ρ:List Addr) (h:Heap) (p:Option eS) (xs:List SV) (v:Value):Prop
 |mk (b:Addr) (us vs:List Value) (e:v=.ref b) (q:jg p us) (f:aG D ρ xs vs) (l:h.IsList b (us++vs:List Value).toArray)
theorem At.list(a:At G c ρ σ s){p:Option eS}{xs:List SV}(ho:σ.objs.list[i]? =some (.list p xs))(r:VR G.D ρ (.obj i) v):QW G.D ρ s.heap p xs v:=by
 obtain⟨b,m,rfl,_,⟨A,B,l,g,O,gr,F,N,_,_⟩⟩:=a.dN ho r
 obtain⟨us,vs,n,rfl,q,f⟩:=O
 exact⟨b,us,vs,rfl,q,f,_,(N _ (bF _ (.head _))).1,rfl,n,rfl⟩
inductive D3 (D:Wd) (ρ:List Addr) (h:Heap) (xs:List SV) (v:Value):Prop
 |mk (b:Addr) (vs:List Value) (e:v=.ref b) (f:aG D ρ xs vs) (l:h.IsTuple b vs.toArray)
theorem At.tup(a:At G c ρ σ s){xs:List SV}(ho:σ.objs.list[i]? =some (.tup xs))(r:VR G.D ρ (.obj i) v):D3 G.D ρ s.heap xs v:=by
 obtain⟨b,m,rfl,_,⟨A,B,l,g,O,gr,F,N,_,_⟩⟩:=a.dN ho r
 obtain⟨vs,n,rfl,f⟩:=O
 exact⟨b,vs,rfl,f,_,(N _ (bF _ (.head _))).1,rfl,n,rfl⟩
inductive QX (D:Wd) (ρ:List Addr) (h:Heap) (fs:List (Str×SV)) (v:Value):Prop
 |mk (b:Addr) (kvs:List (Str×Value)) (e:v=.ref b) (f:dz D ρ fs kvs) (l:h.DictOf (strKind D.prog D.w) b kvs)
theorem At.dict(a:At G c ρ σ s){fs:List (Str×SV)}(ho:σ.objs.list[i]? =some (.dict fs))(r:VR G.D ρ (.obj i) v):QX G.D ρ s.heap fs v:=by
 obtain⟨b,m,rfl,_,⟨A,B,l,g,O,gr,F,N,_,_⟩⟩:=a.dN ho r
 obtain⟨ob,kvs,rfl,q,f⟩:=O
 exact⟨b,kvs,rfl,f,rH.mpr ⟨ob,(N _ (bF _ (.head _))).1,q⟩⟩
inductive D4 (D:Wd) (ρ:List Addr) (h:Heap) (fs:List (Tm×SV)) (v:Value):Prop
 |mk (b:Addr) (kvs:List (Str×Value)) (e:v=.ref b) (f:fL D ρ fs kvs) (l:h.DictOf (strKind D.prog D.w) b kvs)
theorem At.bJ(a:At G c ρ σ s){fs:List (Tm×SV)}(ho:σ.objs.list[i]? =some (.bJ fs))(r:VR G.D ρ (.obj i) v):D4 G.D ρ s.heap fs v:=by
 obtain⟨b,m,rfl,_,⟨A,B,l,g,O,gr,F,N,_,_⟩⟩:=a.dN ho r
 obtain⟨ob,kvs,rfl,q,f⟩:=O
 exact⟨b,kvs,rfl,f,rH.mpr ⟨ob,(N _ (bF _ (.head _))).1,q⟩⟩
inductive QY (G:Gx) (c:Cx) (ρ:List Addr) (C:Addr) (fs:List (Str×SV)) (h:Heap) (v:Value):Prop
 |mk (x dx:Addr) (es:List DictEntry) (k:Nat) (m:Str→Option Value) (g:Heap) (e:v=.ref x) (X:G.D.K.In g) (F:Fr g c.L h m) (f:FR G.D ρ fs es) (I:_root_.PySem.W.InstAt h x (instObj C dx) C (some (dictOf es k)))
theorem At.inst(a:At G c ρ σ s){C:Addr}{fs:List (Str×SV)}(ho:σ.objs.list[i]? =some (.inst C fs))(r:VR G.D ρ (.obj i) v):QY G c ρ C fs s.heap v:=by
 obtain⟨b,m,rfl,_,⟨A,B,l,g,O,gr,F,N,_,_⟩⟩:=a.dN ho r
 obtain⟨dx,es,k,rfl,f⟩:=O
 exact⟨b,dx,es,k,m,g,rfl,gr.X,F,f,Kr N (bF _ (.head _)) (bF _ (.tail _ (.head _)))⟩
theorem At.made(a:At G c ρ σ s){ls:List Cl}{g:Heap}{m:Str→Option Value}{q:Addr}{ob:Obj}{x:SO}{K:SV→SS→Prop}(ad:ls.map aN=ρ)(l1:LR G.D c.R ρ σ.objs.list ls)(l2:((flat ls++c.X).map aN).Nodup)(gr:Gr G.D c g)(hl:eX G.D ρ σ.loc m)
 (F:Fr g c.L s'.heap m) (N:News g c.L s'.heap ((q,ob)::(flat ls++c.X))) (lo:∀p∈flat ls++c.X,p.1<q) (hx:OR G.D c.R (ρ++[q]) q x [(q,ob)]) (t:Tp G.D s') (p:ρ₀<+:ρ) (k:K (.obj σ.objs.length) ⟨σ.loc,OL.a σ.objs (x),σ.fa⟩):PE G c ρ₀ K (.ref q) s':=
 ⟨ρ++[q],⟨σ.loc,OL.a σ.objs (x),σ.fa⟩,.obj σ.objs.length,p.trans (cu _ _),⟨⟨m,.new ad l1 l2 gr F N lo hx,hl.mono (cu _ _)⟩,t,a.fa⟩,⟨q,(let⟨_,l,_⟩:=a.R;l.end q),rfl⟩,k⟩
theorem D5{g h h':Heap}{L q:Addr}{m:Str→Option Value}{A B:List (Addr×Obj)}{ob ob':Obj}(F:Fr g L h m)(N:News g L h (A++(q,ob)::B))(nd:((A++(q,ob)::B).map aN).Nodup)(hk:∀b o,b≠q→h.get? b=some o→h'.get? b=some o)(hg:h'.get? q=some ob'):Fr g L h' m∧News g L h' (A++(q,ob')::B):=by
 have z:=N (q,ob) (bF _ (.head _))
 rw[cy,eL] at nd
 have n2:=pG.mp nd
 have n3:=cM.mp n2.2.1
 refine⟨⟨F.ns.at' fun o e=>hk _ o (fun h=>z.2.1 h.symm) e,fun b o e0=>hk b o (fun h=>by subst h;rw[z.2.2] at e0;cases e0) (F.keep b o e0),F.above⟩,fun p hp=>?_⟩
 rcases f7.mp hp with hp|hp
 ·have y:=N p (uG _ hp)
  exact⟨hk _ _ (fun e=>n2.2.2 p.1 (rz hp) q (.head _) e) y.1,y.2⟩
 ·rcases bV.mp hp with rfl|hp
  ·exact⟨hg,z.2⟩
  ·have y:=N p (bF _ (.tail _ hp))
   exact⟨hk _ _ (fun e=>n3.1 (dh.mpr ⟨p,hp,e⟩)) y.1,y.2⟩
theorem vq{A B:List (Addr×Obj)}{q:Addr}{ob ob':Obj}(nd:((A++(q,ob)::B).map aN).Nodup):((A++(q,ob')::B).map aN).Nodup:=by rw[cy] at nd⊢;exact nd
end
end Ex
end
section
namespace Ex
open PySem.SeqAt
noncomputable section
noncomputable abbrev Is (x:SV) (P:Wd→Value→Prop):Prop:=∀{W:Wd} {ρ:List Addr} {v:Value},VR W ρ x v→P W v
noncomputable abbrev bI (x:SV) (a:Str):Prop:=Is x fun qq v=>∃t,v=.str a t
noncomputable abbrev bc (x:SV) (a:Int):Prop:=Is x fun qq v=>∃t,v=.int a t
noncomputable abbrev zc (x:SV) (a:Bool):Prop:=Is x fun qq v=>v=.bool a
noncomputable abbrev IsT (x:SV) (a:Tm):Prop:=Is x fun W v=>∃t,v=.str (ai (a.ev W.η)) t
noncomputable abbrev sj (x:SV):Prop:=Is x fun qq v=>v=.none
noncomputable def b7 (x:SV):Option {a:Str//bI x a}:=match x with
 |.str a=>some ⟨a,id⟩
 |.ss a=>some ⟨a,id⟩
 |_=>af
noncomputable def bA (x:SV):Option {a:Int//bc x a}:=match x with
 |.int a=>some ⟨a,id⟩
 |.si a=>some ⟨a,id⟩
 |_=>af
noncomputable def vy (x:SV):Option {a:Bool//zc x a}:=match x with
 |.bool a=>some ⟨a,id⟩
 |.sb a=>some ⟨a,id⟩
 |_=>af
noncomputable def cZ (x:SV):Option {a:Tm//IsT x a}:=match x with
 |.str a=>some ⟨lit a.cps.toList,id⟩
 |.ss a=>some ⟨lit a.cps.toList,id⟩
 |.tm a=>some ⟨a,id⟩
 |_=>af
noncomputable def pX (x:SV):Option (PLift (sj x)):=match x with
 |.none=>some ⟨id⟩
 |_=>af
noncomputable def dB (x:SV):Option {i:Nat//x=.obj i}:=match x with
 |.obj i=>some ⟨i,rfl⟩
 |_=>af
noncomputable def zd (x:SV):Option {t:Addr//x=.val (.ref t)}:=match x with
 |.val v=>match v with
  |.ref t=>some ⟨t,rfl⟩
  |_=>af
 |_=>af
noncomputable def sq (o:SO):Option {xs:List SV//o=.tup xs}:=match o with
 |.tup xs=>some ⟨xs,rfl⟩
 |_=>af
set_option backward.match.sparseCases false in
noncomputable def ek (o:SO):Option {z:Option eS×List SV//o=.list z.1 z.2}:=match o with
 |.list p xs=>some ⟨(p,xs),rfl⟩
 |_=>af
noncomputable def afz (o:SO):Option {fs:List (Str×SV)//o=.dict fs}:=match o with
 |.dict fs=>some ⟨fs,rfl⟩
 |_=>af
noncomputable def D6 (o:SO):Option {fs:List (Tm×SV)//o=.bJ fs}:=match o with
 |.bJ fs=>some ⟨fs,rfl⟩
 |_=>af
noncomputable def D7 (o:SO):Option {z:Addr×List (Str×SV)//o=.inst z.1 z.2}:=match o with
 |.inst C fs=>some ⟨(C,fs),rfl⟩
 |_=>af
noncomputable def afA (o:SO):Option {z:Addr×SV//o=.bX z.1 z.2}:=match o with
 |.bX f x=>some ⟨(f,x),rfl⟩
 |_=>af
noncomputable def ez (p:Option eS):Option (PLift (p=af)):=match p with
 |Option.none=>some ⟨rfl⟩
 |some _=>af
set_option backward.match.sparseCases false in
noncomputable def cF:SV→SV→Bool
 |.str _,.str _=>true
 |.int _,.int _=>true
 |.bool _,.bool _=>true
 |_,_=>false
noncomputable def bo (st b:Bool):SV:=@aj (fun qq=>SV) (.sb b) (.bool b) st
noncomputable def stI (x y:SV) (i:Int):SV:=@aj (fun qq=>SV) (.si i) (.int i) (cF x y)
noncomputable def pY (x y:SV) (i:Str):SV:=@aj (fun qq=>SV) (.ss i) (.str i) (cF x y)
section
variable{W:Wd}{ρ:List Addr}{x y:SV}{v:Value}
theorem iM{st b:Bool}:BR W (bo st b) b:=by cases st<;>rfl
theorem afB{st b:Bool}:VR W ρ (bo st b) (.bool b):=iM.VR
theorem mi{i:Int}{t:Tok}:VR W ρ (stI x y i) (.int i t):=by unfold stI;cases cF x y<;>exact⟨_,rfl⟩
theorem D8{i:Str}{t:Tok}:VR W ρ (pY x y i) (.str i t):=by unfold pY;cases cF x y<;>exact⟨_,rfl⟩
end
namespace VC
noncomputable def two {α β:Type} {S:Prop} (o:Option α) (p:Option β) (f:α→β→VC S) (n:VC S):VC S:=@aU α (fun qq=>VC S) n (fun a=>@aU β (fun qq=>VC S) n (f a) p) o
noncomputable def one {α:Type} {S:Prop} (o:Option α) (f:α→VC S) (n:VC S:=no):VC S:=@aU α (fun qq=>VC S) n f o
end VC
noncomputable def ze (t:Tm):Option {c:Nat//∀η,t.ev η=[c]}:=match t with
 |.n k l a b=>match k with
  |0=>match l with
   |[c]=>some ⟨c,fun qq=>rfl⟩
   |_=>af
  |_=>af
 |.e=>af
noncomputable def D9 (t:Tm):Option (PLift (∀η,t.ev η=[])):=match t with
 |.n k l a b=>match k with
  |0=>match l with
   |[]=>some ⟨fun qq=>rfl⟩
   |_=>af
  |_=>af
 |.e=>some ⟨fun qq=>rfl⟩
noncomputable def QZ (t:Tm):Option (PLift (∀η,∃c,t.ev η=[c])):=match t with
 |.n k l a b=>match k with
  |2=>some ⟨fun qq=>⟨_,rfl⟩⟩
  |_=>af
 |.e=>af
theorem zf{η:Ev}{c:Nat}{l b:List Nat}:aZ η 1 [c] l b=decide (l=[c]):=by
 rw[pI,kG,decide_eq_true_iff]
 constructor
 ·rintro⟨d,rfl,h⟩
  rw[gp] at h
  cases e:aB d c with
  |true=>rw[bh e]
  |false=>rw[e] at h;cases h
 ·rintro rfl
  exact⟨c,rfl,by rw[gp,uU];rfl⟩
noncomputable def Ea (t:Tm):Option {l:List Nat//∀η,t.ev η=l}:=match t with
 |.n k l a b=>match k with
  |0=>some ⟨l,fun qq=>rfl⟩
  |_=>af
 |.e=>some ⟨[],fun qq=>rfl⟩
theorem Q0{a b:List Nat}:f6 a b=decide (a=b):=by rw[pI,Ci,decide_eq_true_iff]
noncomputable def eq2 (σ:SS) (a b:Tm):{z:SV//∀{W:Wd},(∀f∈σ.fa,f.ok W.η)→BR W z (decide (a.ev W.η=b.ev W.η))}:=
 @aU Bool (fun o=>asks 2 [] b a σ.fa=o→{z:SV//∀{W:Wd},(∀f∈σ.fa,f.ok W.η)→BR W z (decide (a.ev W.η=b.ev W.η))}) (fun qq=>⟨ji σ 2 [] a b,fun h=>pW h⟩) (fun v e=>⟨.bool v,fun h=>(decide_eq_decide.mpr eq_comm).trans (jI e h)⟩) (asks 2 [] b a σ.fa) rfl
noncomputable def eqT (σ:SS) (a b:Tm):{z:SV//∀{W:Wd},(∀f∈σ.fa,f.ok W.η)→BR W z (decide (a.ev W.η=b.ev W.η))}:=
 @aj (fun v=>cz a b=v→_) (fun qq=>match Ea a,Ea b with
  |some ⟨l,e⟩,some ⟨l',e'⟩=>⟨.bool (f6 l l'),fun{W} h=>by rw[e,e'];exact Q0.symm⟩
  |_,_=>match ze a,ze b with
  |some ⟨c,e⟩,_=>⟨ji σ 1 [c] b .e,fun{W} h=>by have:=pW (k:=1) (l:=[c]) (a:=b) (b:=.e) h;rw[zf] at this;rw[e,show decide ([c]=b.ev W.η)=decide (b.ev W.η=[c]) from decide_eq_decide.mpr eq_comm];exact this⟩
  |_,some ⟨c,e⟩=>⟨ji σ 1 [c] a .e,fun h=>by have:=pW (k:=1) (l:=[c]) (a:=a) (b:=.e) h;rw[zf] at this;rw[e];exact this⟩
  |_,_=>match QZ a,D9 b with
   |some ⟨e⟩,some ⟨e'⟩=>⟨.bool false,fun{W} h=>by obtain⟨c,e⟩:=e W.η;rw[e,e'];rfl⟩
   |_,_=>eq2 σ a b) (fun e=>⟨.bool true,fun h=>decide_eq_true (congrArg _ (dO e))⟩) (cz a b) rfl
theorem vz{a b:List Nat}:(ai a==ai b)=decide (a=b):=by
 rw[pI,beq_iff_eq,decide_eq_true_iff]
 exact⟨fun h=>congrArg (fun s:Str=>s.cps.toList) h,fun h=>h▸rfl⟩
section
variable{G:Gx}{σ:SS}{x y z:SV}
theorem aC.mk{f:Value→Value→Sem Value}{K:SV→SS→Prop}(h:∀c ρ s v u,At G c ρ σ s→VR G.D ρ x v→VR G.D ρ y u→wpAny G.D.M c.A (f v u) (PE G c ρ K) (PX G c ρ) s):aC G f x y σ K:=fun c ρ s w a r=>h c ρ s w.1 w.2 a r.1 r.2
theorem At.truth{c:Cx}{ρ:List Addr}{s:Shared}{K:SV→SS→Prop}(a:At G c ρ σ s){b:Bool}(r:BR G.D z b)(k:K z σ):PE G c ρ K (.bool b) s:=a.give (pr _) r.VR k
section
variable{K:SV→SS→Prop}
theorem Q2{a b:Str}(h1:bI x a)(h2:bI y b)(k:K (bo (cF x y) (seq a b)) σ):aC G (compareOp .Eq) x y σ K:=.mk fun c ρ s v u at_ r q=>by
 obtain⟨t,rfl⟩:=h1 r
 obtain⟨t',rfl⟩:=h2 q
 exact PyProof.Rows.eq_str (by rw[jG];exact at_.truth iM k)
theorem Eb{a b:Int}(h1:bc x a)(h2:bc y b)(k:K (bo (cF x y) (decide (a=b))) σ):aC G (compareOp .Eq) x y σ K:=.mk fun c ρ s v u at_ r q=>by
 obtain⟨t,rfl⟩:=h1 r
 obtain⟨t',rfl⟩:=h2 q
 exact PyProof.Rows.eq_int (at_.truth iM k)
theorem Q3{a b:Tm}(h1:IsT x a)(h2:IsT y b)(k:K (eqT σ a b).1 σ):aC G (compareOp .Eq) x y σ K:=.mk fun c ρ s v u at_ r q=>by
 obtain⟨t,rfl⟩:=h1 r
 obtain⟨t',rfl⟩:=h2 q
 exact PyProof.Rows.eq_str (by rw[vz];exact at_.truth ((eqT σ a b).2 at_.fa) k)
theorem Q4{b:Tm}(h1:sj x)(h2:IsT y b)(k:K (.bool false) σ):aC G (compareOp .Eq) x y σ K:=.mk fun c ρ s v u a r q=>by
 obtain rfl:=h1 r
 obtain⟨_,rfl⟩:=h2 q
 exact EqNone.eq_none_str (a.truth (z:=.bool false) rfl k)
theorem Q5{b:Tm}(h1:IsT x b)(h2:sj y)(k:K (.bool false) σ):aC G (compareOp .Eq) x y σ K:=.mk fun c ρ s v u a r q=>by
 obtain⟨_,rfl⟩:=h1 r
 obtain rfl:=h2 q
 exact EqNone.eq_str_none (a.truth (z:=.bool false) rfl k)
theorem Q6{a b:Str}(h1:bI x a)(h2:bI y b)(k:K (bo (cF x y) (!seq a b)) σ):aC G (compareOp .NotEq) x y σ K:=.mk fun c ρ s v u at_ r q=>by
 obtain⟨t,rfl⟩:=h1 r
 obtain⟨t',rfl⟩:=h2 q
 refine PyProof.Rows.ne_str ?_
 rw[bne,jG];exact at_.truth iM k
theorem Q7{a b:Int}(h1:bc x a)(h2:bc y b)(k:K (bo (cF x y) (!decide (a=b))) σ):aC G (compareOp .NotEq) x y σ K:=.mk fun c ρ s v u at_ r q=>by
 obtain⟨t,rfl⟩:=h1 r
 obtain⟨t',rfl⟩:=h2 q
 exact P.ne_int (at_.truth iM k)
theorem Q8{a b:Bool}(h1:zc x a)(h2:zc y b)(k:K (bo (cF x y) (a !=b)) σ):aC G (compareOp .NotEq) x y σ K:=.mk fun c ρ s v u at_ r q=>by
 obtain rfl:=h1 r
 obtain rfl:=h2 q
 exact PyProof.Rows.ne_bool (at_.truth iM k)
theorem Q9{b:Tm}(h1:sj x)(h2:IsT y b)(k:K (.bool true) σ):aC G (compareOp .NotEq) x y σ K:=.mk fun c ρ s v u at_ r q=>by
 obtain rfl:=h1 r
 obtain⟨t',rfl⟩:=h2 q
 exact EqNone.ne_none_str (at_.truth (z:=.bool true) rfl k)
theorem Ra{a b:Str}(h1:bI x a)(h2:bI y b)(k:K (bo (cF x y) (decide (a.cps.toList<b.cps.toList))) σ):aC G (compareOp .Lt) x y σ K:=.mk fun c ρ s v u at_ r q=>by
 obtain⟨t,rfl⟩:=h1 r
 obtain⟨t',rfl⟩:=h2 q
 exact PyProof.Rows.lt_str (at_.truth iM k)
theorem Rb{a b:Str}(h1:bI x a)(h2:bI y b)(k:K (bo (cF x y) (!decide (b.cps.toList<a.cps.toList))) σ):aC G (compareOp .LtE) x y σ K:=.mk fun c ρ s v u at_ r q=>by
 obtain⟨t,rfl⟩:=h1 r
 obtain⟨t',rfl⟩:=h2 q
 exact P.le_str (at_.truth iM k)
theorem Rc{a b:Int}(h1:bc x a)(h2:bc y b)(k:K (bo (cF x y) (decide (a<b))) σ):aC G (compareOp .Lt) x y σ K:=.mk fun c ρ s v u at_ r q=>by
 obtain⟨t,rfl⟩:=h1 r
 obtain⟨t',rfl⟩:=h2 q
 exact PyProof.Rows.lt_int (at_.truth iM k)
theorem Rd{a b:Int}(h1:bc x a)(h2:bc y b)(k:K (bo (cF x y) (decide (a≤b))) σ):aC G (compareOp .LtE) x y σ K:=.mk fun c ρ s v u at_ r q=>by
 obtain⟨t,rfl⟩:=h1 r
 obtain⟨t',rfl⟩:=h2 q
 exact PyProof.Rows.le_int (at_.truth iM k)
theorem Rf{a b:Int}(h1:bc x a)(h2:bc y b)(k:K (bo (cF x y) (decide (b<a))) σ):aC G (compareOp .Gt) x y σ K:=.mk fun c ρ s v u at_ r q=>by
 obtain⟨t,rfl⟩:=h1 r
 obtain⟨t',rfl⟩:=h2 q
 exact PyProof.Rows.gt_int (at_.truth iM k)
theorem Rg{a b:Int}(h1:bc x a)(h2:bc y b)(k:K (bo (cF x y) (decide (b≤a))) σ):aC G (compareOp .GtE) x y σ K:=.mk fun c ρ s v u at_ r q=>by
 obtain⟨t,rfl⟩:=h1 r
 obtain⟨t',rfl⟩:=h2 q
 exact PyProof.Rows.ge_int (at_.truth iM k)
end
variable(G σ x y)(K:SV→SS→Tr)
noncomputable def Rh:VG G (aC G (compareOp .Eq) x y σ (hh K)):=
 .two (b7 x) (b7 y) (fun a b=>fin K (bo (cF x y) (seq a.1 b.1)) σ (Q2 a.2 b.2))<|
 .two (bA x) (bA y) (fun a b=>fin K (bo (cF x y) (decide (a.1=b.1))) σ (Eb a.2 b.2))<|
 .two (cZ x) (cZ y) (fun a b=>fin K (eqT σ a.1 b.1).1 σ (Q3 a.2 b.2))<|
 .two (pX x) (cZ y) (fun a b=>fin K (.bool false) σ (Q4 a.1 b.2))<|
 .two (cZ x) (pX y) (fun a b=>fin K (.bool false) σ (Q5 a.2 b.1)) .no
noncomputable def Ec:VG G (aC G (compareOp .NotEq) x y σ (hh K)):=
 .two (b7 x) (b7 y) (fun a b=>fin K (bo (cF x y) (!seq a.1 b.1)) σ (Q6 a.2 b.2))<|
 .two (bA x) (bA y) (fun a b=>fin K (bo (cF x y) (!decide (a.1=b.1))) σ (Q7 a.2 b.2))<|
 .two (vy x) (vy y) (fun a b=>fin K (bo (cF x y) (a.1 !=b.1)) σ (Q8 a.2 b.2))<|
 .two (pX x) (cZ y) (fun a b=>fin K (.bool true) σ (Q9 a.1 b.2)) .no
noncomputable def Ri:VG G (aC G (compareOp .Lt) x y σ (hh K)):=
 .two (b7 x) (b7 y) (fun a b=>fin K (bo (cF x y) (decide (a.1.cps.toList<b.1.cps.toList))) σ (Ra a.2 b.2))<|
 .two (bA x) (bA y) (fun a b=>fin K (bo (cF x y) (decide (a.1<b.1))) σ (Rc a.2 b.2)) .no
noncomputable def Rj:VG G (aC G (compareOp .LtE) x y σ (hh K)):=
 .two (b7 x) (b7 y) (fun a b=>fin K (bo (cF x y) (!decide (b.1.cps.toList<a.1.cps.toList))) σ (Rb a.2 b.2))<|
 .two (bA x) (bA y) (fun a b=>fin K (bo (cF x y) (decide (a.1≤b.1))) σ (Rd a.2 b.2)) .no
noncomputable def Rk:VG G (aC G (compareOp .Gt) x y σ (hh K)):=
 .two (bA x) (bA y) (fun a b=>fin K (bo (cF x y) (decide (b.1<a.1))) σ (Rf a.2 b.2)) .no
noncomputable def Rl:VG G (aC G (compareOp .GtE) x y σ (hh K)):=
 .two (bA x) (bA y) (fun a b=>fin K (bo (cF x y) (decide (b.1≤a.1))) σ (Rg a.2 b.2)) .no
end
end
end Ex
end
section
namespace Ex
open PySem.SeqAt
noncomputable section
theorem nn{v u:Value}{b:Bool}(e:v=u)(h:(u==gG)=b):(v==gG)=b:=e▸h
noncomputable def isNone (x:SV):Option {b:Bool//Is x fun qq v=>(v==gG)=b}:=match x with
 |.none=>some ⟨true,fun r=>nn r rfl⟩
 |.bool _=>some ⟨false,fun r=>nn r rfl⟩
 |.int _=>some ⟨false,fun⟨_,r⟩=>nn r rfl⟩
 |.str _=>some ⟨false,fun⟨_,r⟩=>nn r rfl⟩
 |.ss _=>some ⟨false,fun⟨_,r⟩=>nn r rfl⟩
 |.tm _=>some ⟨false,fun⟨_,r⟩=>nn r rfl⟩
 |.obj _=>some ⟨false,fun⟨_,_,r⟩=>nn r rfl⟩
 |_=>af
noncomputable def isBool (b:Bool) (x:SV):Option {z:SV×SV//Is x fun W v=>plainIs v (.bool b)=true∧BR W z.1 (v==je b)∧BR W z.2 (!(v==je b))}:=match x with
 |.bool c=>some ⟨(.bool (c==b),.bool (!(c==b))),fun r=>by obtain rfl:=r;cases b<;>cases c<;>exact⟨rfl,rfl,rfl⟩⟩
 |.sb c=>some ⟨(.sb (c==b),.sb (!(c==b))),fun r=>by obtain rfl:=r;cases b<;>cases c<;>exact⟨rfl,rfl,rfl⟩⟩
 |.none=>some ⟨(.bool false,.bool true),fun r=>by obtain rfl:=r;exact⟨rfl,rfl,rfl⟩⟩
 |_=>af
set_option backward.match.sparseCases false in
noncomputable def eV:Value→Value→Bool
 |.none,.none=>true
 |.int a _,.int b _=>a==b
 |.str a _,.str b _=>a==b
 |_,_=>false
noncomputable def pZ (v:Value):Prop:=v=.none∨(∃a t,v=.int a t)∨∃a t,v=.str a t
theorem Rm{A:Around}{s:Shared}{y x:Value}(hy:pZ y)(hx:pZ x):EqAt A s y x (eV y x):=by
 rcases hy with rfl|⟨_,_,rfl⟩|⟨_,_,rfl⟩
 ·rcases hx with rfl|⟨_,_,rfl⟩|⟨_,_,rfl⟩
  ·exact EqAt.same _
  ·exact EqAt.none_int _ _
  ·exact EqAt.none_str _ _
 ·rcases hx with rfl|⟨_,_,rfl⟩|⟨_,_,rfl⟩
  ·exact EqAt.int_none _ _
  ·exact EqAt.int_int _ _ _ _
  ·exact EqAt.int_str _ _ _ _
 ·rcases hx with rfl|⟨_,_,rfl⟩|⟨_,_,rfl⟩
  ·exact EqAt.str_none _ _
  ·exact EqAt.str_int _ _ _ _
  ·exact EqAt.str_str _ _ _ _
structure c8 where
 n:Bool
 i:List Int
 s:List Str
noncomputable def jJ (a:Int) (l:List Int):Bool:=bu false (fun k qq ih=>@aj (fun qq=>Bool) ih true (decide (a=k))) l
structure c8.Of (f:c8) (vs:List Value):Prop where
 a:∀v∈vs,pZ v
 n:vs.any (eV · .none)=f.n
 i:∀a t,vs.any (eV · (.int a t))=jJ a f.i
 s:∀a t,vs.any (eV · (.str a t))=has a f.s
section
variable{f:c8}{vs:List Value}(h:f.Of vs)
include h
theorem c8.Of.all{v:Value}(hv:pZ v):∀u∈v::vs,pZ u:=fun u hu=>(bV.mp hu).elim (fun e=>e▸hv) (h.a u)
theorem c8.Of.cn:c8.Of ⟨true,f.i,f.s⟩ (.none::vs):=⟨h.all (.inl rfl),rfl,h.i,h.s⟩
theorem c8.Of.ci{a:Int}{t:Tok}:c8.Of ⟨f.n,a::f.i,f.s⟩ (.int a t::vs):=⟨h.all (.inr (.inl ⟨_,_,rfl⟩)),h.n,fun b u=>by
 show(decide (a=b)||_)=@aj (fun qq=>Bool) (jJ b f.i) true (decide (b=a))
 rw[h.i,show decide (a=b)=decide (b=a) from decide_eq_decide.mpr eq_comm]
 cases decide (b=a)<;>rfl,h.s⟩
theorem c8.Of.cs{a:Str}{t:Tok}:c8.Of ⟨f.n,f.i,a::f.s⟩ (.str a t::vs):=⟨h.all (.inr (.inr ⟨_,_,rfl⟩)),h.n,h.i,fun b u=>by
 show((a==b)||_)=@aj (fun qq=>Bool) (has b f.s) true (seq b a)
 rw[h.s,show(a==b)=seq b a by rw[jG,pI,bS,bS,eq_comm]]
 cases seq b a<;>rfl⟩
end
noncomputable def zg (xs:List SV):Option {f:c8//∀{W:Wd} {ρ:List Addr} {vs:List Value},aG W ρ xs vs→f.Of vs}:=
 @bu SV (fun xs=>Option {f:c8//∀{W:Wd} {ρ:List Addr} {vs:List Value},aG W ρ xs vs→f.Of vs})
  (some ⟨⟨false,[],[]⟩,fun r=>by cases r;exact⟨fun qq h=>(by cases h),rfl,fun qq qq=>rfl,fun qq qq=>rfl⟩⟩)
  (fun x xs ih=>match ih with
    |some ⟨f,hf⟩=>match bA x with
     |some ⟨a,ha⟩=>some ⟨⟨f.n,a::f.i,f.s⟩,fun r=>by cases r using Each.ec with|cons q r=>obtain⟨t,rfl⟩:=ha q;exact(hf r).ci⟩
     |Option.none=>match b7 x with
      |some ⟨a,ha⟩=>some ⟨⟨f.n,f.i,a::f.s⟩,fun r=>by cases r using Each.ec with|cons q r=>obtain⟨t,rfl⟩:=ha q;exact(hf r).cs⟩
      |Option.none=>match pX x with
       |some ⟨ha⟩=>some ⟨⟨true,f.i,f.s⟩,fun r=>by cases r using Each.ec with|cons q r=>obtain rfl:=ha q;exact(hf r).cn⟩
       |Option.none=>af
    |Option.none=>af) xs
noncomputable def ones (xs:List Str):Option {S:List Nat//∀(η:Ev) (l:List Nat),has (ai l) xs=aZ η 1 S l []}:=
 @bu Str (fun xs=>Option {S:List Nat//∀(η:Ev) (l:List Nat),has (ai l) xs=aZ η 1 S l []})
  (some ⟨[],fun η l=>(by cases e:aZ η 1 [] l [] with|false=>rfl|true=>obtain⟨c,_,h⟩:=kG.mp e;cases h)⟩)
  (fun a xs ih=>match ih,ze (lit a.cps.toList) with
    |some ⟨S,hS⟩,some ⟨c,hc⟩=>some ⟨c::S,fun η l=>by
      have ea:a.cps.toList=[c]:=hc η
      have e2:aZ η 1 (c::S) l []=(decide (l=[c])||aZ η 1 S l []):=by
       rw[←zf (η:=η) (b:=[]),pI,iI,kG,kG,kG]
       simp only[gp,iI]
       exact⟨fun⟨d,e,h⟩=>h.imp (fun h=>⟨d,e,.inl h⟩) fun h=>⟨d,e,h⟩,fun h=>h.elim (fun⟨d,e,h⟩=>⟨d,e,.inl (h.resolve_right fun h=>(by cases h))⟩) fun⟨d,e,h⟩=>⟨d,e,.inr h⟩⟩
      have e3:seq (ai l) a=decide (l=[c]):=by rw[←jG,show a=ai a.cps.toList from rfl,vz,ea]
      show@aj (fun qq=>Bool) (has (ai l) xs) true (seq (ai l) a)=_
      rw[hS η l,e2,e3]
      cases decide (l=[c])<;>rfl⟩
    |_,_=>af) xs
noncomputable abbrev su (σ:SS) (x:SV) (f:c8) (z:SV):Prop:=∀{W:Wd} {ρ:List Addr} {v:Value} {vs:List Value},(∀f∈σ.fa,f.ok W.η)→VR W ρ x v→f.Of vs→pZ v∧BR W z (vs.any (eV · v))
noncomputable def Ed (σ:SS) (x:SV) (f:c8):Option {z:SV//su σ x f z}:=match x with
 |.none=>some ⟨.bool f.n,fun qq r h=>by obtain rfl:=r;exact⟨.inl rfl,h.n⟩⟩
 |.str a=>some ⟨.bool (has a f.s),fun qq r h=>by obtain⟨_,rfl⟩:=r;exact⟨.inr (.inr ⟨_,_,rfl⟩),h.s _ _⟩⟩
 |.ss a=>some ⟨.sb (has a f.s),fun qq r h=>by obtain⟨_,rfl⟩:=r;exact⟨.inr (.inr ⟨_,_,rfl⟩),h.s _ _⟩⟩
 |.int a=>some ⟨.bool (jJ a f.i),fun qq r h=>by obtain⟨_,rfl⟩:=r;exact⟨.inr (.inl ⟨_,_,rfl⟩),h.i _ _⟩⟩
 |.si a=>some ⟨.sb (jJ a f.i),fun qq r h=>by obtain⟨_,rfl⟩:=r;exact⟨.inr (.inl ⟨_,_,rfl⟩),h.i _ _⟩⟩
 |.tm t=>match ones f.s with
  |some ⟨S,hS⟩=>some ⟨ji σ 1 S t .e,fun fa r h=>by obtain⟨_,rfl⟩:=r;exact⟨.inr (.inr ⟨_,_,rfl⟩),by rw[h.s,hS];exact pW fa⟩⟩
  |Option.none=>af
 |_=>af
section
variable{G:Gx}{σ:SS}{x y z:SV}{i:Nat}
section
variable{K:SV→SS→Prop}
theorem Rn{b:Bool}(h:Is x fun qq v=>(v==gG)=b)(k:K (.bool b) σ):aC G (compareOp .Is) x .none σ K:=.mk fun c ρ s v u a r q=>by
 obtain rfl:=q
 exact is_none_gen (a.truth (z:=.bool b) (h r) k)
theorem Ro{b:Bool}(h:Is x fun qq v=>(v==gG)=b)(k:K (.bool (!b)) σ):aC G (compareOp .IsNot) x .none σ K:=.mk fun c ρ s v u a r q=>by
 obtain rfl:=q
 exact isnot_none_gen (a.truth (z:=.bool (!b)) (congrArg (!·) (h r)) k)
theorem Rp{b:Bool}{w:SV}(h:Is x fun W v=>plainIs v (.bool b)=true∧BR W z (v==je b)∧BR W w (!(v==je b)))(k:K z σ):aC G (compareOp .Is) x (.bool b) σ K:=.mk fun c ρ s v u a r q=>by
 obtain rfl:=q
 obtain⟨e1,e2,_⟩:=h r
 exact wpAny_is_plain e1 (a.truth e2 k)
theorem Rq{b:Bool}{w:SV}(h:Is x fun W v=>plainIs v (.bool b)=true∧BR W w (v==je b)∧BR W z (!(v==je b)))(k:K z σ):aC G (compareOp .IsNot) x (.bool b) σ K:=.mk fun c ρ s v u a r q=>by
 obtain rfl:=q
 obtain⟨e1,_,e2⟩:=h r
 exact wpAny_isNot_plain e1 (a.truth e2 k)
theorem Rr{b:Bool}{k:Nat}{l:List Nat}{p q:Tm}(h1:K (.bool b) (σ.add k l p q true))(h2:K (.bool !b) (σ.add k l p q false)):aC G (compareOp .Is) (.bm k l p q) (.bool b) σ K:=.mk fun c ρ s v u a r w=>by
 obtain rfl:=w
 obtain rfl:=r
 cases e:aZ G.D.η k l (p.ev G.D.η) (q.ev G.D.η) with
 |true=>exact wpAny_is_plain rfl ((a.add e.symm).truth (z:=.bool b) (by cases b<;>rfl) h1)
 |false=>exact wpAny_is_plain rfl ((a.add e.symm).truth (z:=.bool !b) (by cases b<;>rfl) h2)
theorem Ef{b:Addr}{f:c8}{vs:List Value}{c:Cx}{ρ:List Addr}{s:Shared}{v:Value}(a:At G c ρ σ s)(r:VR G.D ρ x v)(q:f.Of vs)(ht:s.heap.IsTuple b vs.toArray)(h:su σ x f z)(k:K z σ):wpAny G.D.M c.A (compareOp .In v (.ref b)) (PE G c ρ K) (PX G c ρ) s:=by
 obtain⟨h1,h2⟩:=h a.fa r q
 refine in_tupleAt (fun y=>eV y v) ht (fun y hy=>Rm (q.a y (by simpa using hy)) h1) ?_
 rw[show(vs.toArray.any fun y=>eV y v)=vs.any (eV · v) by simp]
 exact a.truth h2 k
theorem Eg{t:Addr}{xs:List SV}{f:c8}(ht:aQ t G.T.tups=some xs)(hf:∀{W:Wd} {ρ:List Addr} {vs:List Value},aG W ρ xs vs→f.Of vs)(h:su σ x f z)(k:K z σ):aC G (compareOp .In) x (.val (.ref t)) σ K:=.mk fun c ρ s v u a r q=>by
 obtain rfl:=q
 obtain⟨dd,n,sl,vs,h1,h2⟩:=a.tk.tup _ (eg ht)
 exact Ef a r (hf h2) ⟨_,a.X _ _ h1,rfl,n,rfl⟩ h k
theorem Eh{xs:List SV}{f:c8}(ho:σ.objs.list[i]? =some (.tup xs))(hf:∀{W:Wd} {ρ:List Addr} {vs:List Value},aG W ρ xs vs→f.Of vs)(h:su σ x f z)(k:K z σ):aC G (compareOp .In) x (.obj i) σ K:=.mk fun c ρ s v u a r q=>by
 obtain⟨b,vs,rfl,f,l⟩:=a.tup ho q
 exact Ef a r (hf f) l h k
end
variable(G σ x y)(K:SV→SS→Tr)
set_option backward.match.sparseCases false in
noncomputable def Rt (y:SV):VG G (aC G (compareOp .Is) x y σ (hh K)):=match y with
 |.none=>.one (isNone x) fun b=>fin K (.bool b.1) σ (Rn b.2)
 |.bool b=>match x with
  |.bm k l p q=>⟨.and (K (.bool b) (σ.add k l p q true)) (K (.bool !b) (σ.add k l p q false)),fun h qq=>Rr h.1 h.2⟩
  |x=>.one (isBool b x) fun z=>fin K z.1.1 σ (Rp z.2)
 |_=>.no
noncomputable def Ru (y:SV):VG G (aC G (compareOp .IsNot) x y σ (hh K)):=match y with
 |.none=>.one (isNone x) fun b=>fin K (.bool !b.1) σ (Ro b.2)
 |.bool b=>.one (isBool b x) fun z=>fin K z.1.2 σ (Rq z.2)
 |_=>.no
noncomputable def Ei (y:SV):VG G (aC G (compareOp .In) x y σ (hh K)):=match y with
 |.val v=>match v with
  |.ref t=>.opt (aQ t G.T.tups) fun xs ht=>.one (zg xs) fun f=>.one (Ed σ x f.1) fun z=>fin K z.1 σ (Eg ht f.2 z.2)
  |_=>.no
 |.obj i=>.cO σ.objs (i) fun o ho=>.one (sq o) fun xs=>.one (zg xs.1) fun f=>.one (Ed σ x f.1) fun z=>fin K z.1 σ (Eh (xs.2▸ho) f.2 z.2)
 |_=>.no
end
end
end Ex
end
section
namespace Ex
noncomputable section
set_option tactic.hygienic true in
theorem vA{x y:Str}{t u:Tok}{Q:Value→Shared→Prop}{s:Shared}(hz:x.length+y.length≤sizeLine)(h:∀t' k,s.toks≤k→Q (.str (x++y) t') {s with toks:=k}):
 (if x.length==0 then Made.val (.str y u) else if y.length==0 then Made.val (.str x t) else Made.str (x++y)).post Q s:=by
 have h0:∀z:Str,(z.length==0)=true→z=⟨#[]⟩:=fun z hz=>by
  cases z with
  |mk c=>congr 1;exact Array.eq_empty_of_size_eq_zero (by simpa[gb] using hz)
 split
 ·rename_i e
  have e':x++y=y:=by rw[h0 x e];show uY _ y=y;cases y;simp[uY]
  have:=h u s.toks (az _)
  rw[e'] at this;exact this
 ·split
  ·rename_i e
   have e':x++y=x:=by rw[h0 y e];show uY x _=x;cases x;simp[uY]
   have:=h t s.toks (az _)
   rw[e'] at this;exact this
  ·exact⟨by rw[strLen_append];exact hz,h _ _ (cV _)⟩
theorem zh{a b:List Nat}:ai a++ai b=ai (a++b):=by show uY _ _=_;simp[uY,ai]
theorem eY{a:List Nat}:(ai a).length=a.length:=by simp[ai,gb]
section
variable{G:Gx}{σ:SS}{x y z:SV}
section
variable{K:SV→SS→Prop}{a b:Int}
theorem zj(h1:bc x a)(h2:bc y b)(k:K (stI x y (a+b)) σ):aC G (binaryOp .Add) x y σ K:=.mk fun c ρ s v u at_ r q=>by
 obtain⟨t,rfl⟩:=h1 r
 obtain⟨t',rfl⟩:=h2 q
 exact P.add_int (at_.t1.give (pr _) mi k)
theorem Rv(h1:bc x a)(h2:bc y b)(k:K (stI x y (a+b)) σ):aC G (inplaceOp .Add) x y σ K:=.mk fun c ρ s v u at_ r q=>by
 obtain⟨t,rfl⟩:=h1 r
 obtain⟨t',rfl⟩:=h2 q
 exact P.iadd_int (at_.t1.give (pr _) mi k)
theorem Rw(h1:bc x a)(h2:bc y b)(k:K (stI x y (a-b)) σ):aC G (binaryOp .Sub) x y σ K:=.mk fun c ρ s v u at_ r q=>by
 obtain⟨t,rfl⟩:=h1 r
 obtain⟨t',rfl⟩:=h2 q
 exact P.sub_int (at_.t1.give (pr _) mi k)
theorem Rx(h1:bc x a)(h2:bc y b)(k:K (stI x y (a-b)) σ):aC G (inplaceOp .Sub) x y σ K:=.mk fun c ρ s v u at_ r q=>by
 obtain⟨t,rfl⟩:=h1 r
 obtain⟨t',rfl⟩:=h2 q
 exact P.isub_int (at_.t1.give (pr _) mi k)
theorem p6(h1:bc x a)(h2:bc y b)(hb:decide (b=0)=false)(k:K (stI x y (a.fmod b)) σ):aC G (binaryOp .Mod) x y σ K:=.mk fun c ρ s v u at_ r q=>by
 obtain⟨t,rfl⟩:=h1 r
 obtain⟨t',rfl⟩:=h2 q
 exact mod_int' (of_decide_eq_false hb) (at_.t1.give (pr _) mi k)
theorem Ej(h1:bc x a)(h2:bc y b)(hm:IntMulOk a b)(k:K (stI x y (a*b)) σ):aC G (binaryOp .Mult) x y σ K:=.mk fun c ρ s v u at_ r q=>by
 obtain⟨t,rfl⟩:=h1 r
 obtain⟨t',rfl⟩:=h2 q
 exact mul_int (at_.t1.give (pr _) mi k) hm
theorem sy(h1:bc x a)(h2:bc y b)(hb:decide (b=0)=false)(hp:x9 a b=false)(k:K (stI x y (a.fdiv b)) σ):aC G (binaryOp .FloorDiv) x y σ K:=.mk fun c ρ s v u at_ r q=>by
 obtain⟨t,rfl⟩:=h1 r
 obtain⟨t',rfl⟩:=h2 q
 exact floordiv_int (of_decide_eq_false hb) (at_.t1.give (pr _) mi k) (.inl hp)
theorem Ry(h1:bc x a)(k:K (stI x x (-a)) σ):iL G (unaryOp .USub) x σ K:=fun c ρ s v at_ r=>by
 obtain⟨t,rfl⟩:=h1 r
 exact P.neg_int (at_.t1.give (pr _) mi k)
end
section
variable{K:SV→SS→Prop}
theorem Rz{a b:Str}(h1:bI x a)(h2:bI y b)(hz:a.length+b.length≤sizeLine)(k:K (pY x y (a++b)) σ):aC G (binaryOp .Add) x y σ K:=.mk fun c ρ s v u at_ r q=>by
 obtain⟨t,rfl⟩:=h1 r
 obtain⟨t',rfl⟩:=h2 q
 exact PySem.P.add_str (vA hz fun t k' h'=>(at_.tok h').give (pr _) D8 k)
theorem RA{a b:Str}(h1:bI x a)(h2:bI y b)(hz:a.length+b.length≤sizeLine)(k:K (pY x y (a++b)) σ):aC G (inplaceOp .Add) x y σ K:=.mk fun c ρ s v u at_ r q=>by
 obtain⟨t,rfl⟩:=h1 r
 obtain⟨t',rfl⟩:=h2 q
 exact PySem.P.iadd_str (vA hz fun t k' h'=>(at_.tok h').give (pr _) D8 k)
theorem Ek{W:Wd}{a b:Tm}(h:av (a.bd+b.bd) 1000000=true):(ai (a.ev W.η)).length+(ai (b.ev W.η)).length≤sizeLine:=by
 rw[eY,eY,sizeLine_eq]
 exact ah (dm (a.kB W.gJ) (b.kB W.gJ)) (ah (ao h) (by decide))
theorem RC{a b:Tm}(h1:IsT x a)(h2:IsT y b)(hz:av (a.bd+b.bd) 1000000=true)(k:K (.tm (cat a b)) σ):aC G (binaryOp .Add) x y σ K:=.mk fun c ρ s v u at_ r q=>by
 obtain⟨t,rfl⟩:=h1 r
 obtain⟨t',rfl⟩:=h2 q
 exact PySem.P.add_str (vA (Ek hz) fun t k' h'=>(at_.tok h').give (V:=VR G.D) (x:=.tm (cat a b)) (pr _) ⟨_,by rw[zh];rfl⟩ k)
theorem RD{a b:Tm}(h1:IsT x a)(h2:IsT y b)(hz:av (a.bd+b.bd) 1000000=true)(k:K (.tm (cat a b)) σ):aC G (inplaceOp .Add) x y σ K:=.mk fun c ρ s v u at_ r q=>by
 obtain⟨t,rfl⟩:=h1 r
 obtain⟨t',rfl⟩:=h2 q
 exact PySem.P.iadd_str (vA (Ek hz) fun t k' h'=>(at_.tok h').give (V:=VR G.D) (x:=.tm (cat a b)) (pr _) ⟨_,by rw[zh];rfl⟩ k)
end
theorem At.tell{c:Cx}{ρ:List Addr}{s:Shared}{K:SV→SS→Prop}(a:At G c ρ σ s){b:Bool}(r:BR G.D z b)(k:K z σ):PT G c ρ K b s:=a.give (V:=fun qq=>BR G.D) (pr _) r k
set_option backward.match.sparseCases false in
noncomputable def st1 (x:SV) (b:Bool):SV:=match x with
 |.str _=>.bool b
 |.int _=>.bool b
 |_=>.sb b
theorem El{W:Wd}{x:SV}{b:Bool}:BR W (st1 x b) b:=by unfold st1;split<;>rfl
section
variable{K:SV→SS→Prop}
theorem RE(h:sj x)(k:K (.bool false) σ):fN G x σ K:=fun c ρ s v a r=>by
 obtain rfl:=h r
 exact truthy_none (a.tell (z:=.bool false) rfl k)
theorem mj(h:∀{W:Wd} {ρ:List Addr} {v:Value},VR W ρ x v→∃b,v=.bool b∧BR W x b)(k:K x σ):fN G x σ K:=fun c ρ s v a r=>by
 obtain⟨b,rfl,hb⟩:=h r
 exact wpAny_truthy_bool (a.tell hb k)
theorem RG{k:Nat}{l:List Nat}{p q:Tm}(h:K (ji σ k l p q) σ):fN G (.bm k l p q) σ K:=fun c ρ s v a r=>by
 obtain rfl:=r
 exact wpAny_truthy_bool (a.tell (pW a.fa) h)
theorem zk{i:Int}(h:bc x i)(k:K (st1 x (!decide (i=0))) σ):fN G x σ K:=fun c ρ s v a r=>by
 obtain⟨t,rfl⟩:=h r
 exact P.truthy_int (a.tell El k)
theorem Em{i:Str}(h:bI x i)(hz:i.length≤sizeLine)(k:K (st1 x (!aB i.length 0)) σ):fN G x σ K:=fun c ρ s v a r=>by
 obtain⟨t,rfl⟩:=h r
 refine P.truthy_str (by rw[sizeLine_eq] at hz;exact Om.L0 hz) (a.t2.tell ?_ k)
 have e:((i.length:Int) !=0)=!aB i.length 0:=by
  rw[pI]
  simp
  exact⟨fun h=>Bool.eq_false_iff.mpr fun e=>h (bh e),fun h e=>by rw[e] at h;cases h⟩
 rw[e];exact El
theorem RH{i:Nat}{xs:List SV}(ho:σ.objs.list[i]? =some (.list af xs))(hz:av xs.length 1000=true)(k:K (.bool (!aB xs.length 0)) σ):fN G (.obj i) σ K:=fun c ρ s v a r=>by
 obtain⟨b,us,vs,rfl,rfl,f,hl⟩:=a.list ho r
 have h2:=ao hz
 refine wpAny_truthy_list hl (by have:=f.len;simp;exact Om.L1 h2 this) (a.t2.tell (z:=.bool _) ?_ k)
 rw[f.len]
 cases vs<;>rfl
theorem RI:typeLookup (.type "method") "__bool__"=pure none:=by rw[typeLookup_type,builtinLookup_eq_fast];kernel_rfl
theorem RJ:typeLookup (.type "method") "__len__"=pure none:=by rw[typeLookup_type,builtinLookup_eq_fast];kernel_rfl
theorem RK{i:Nat}{f:Addr}{w:SV}(ho:σ.objs.list[i]? =some (.bX f w))(k:K (.bool true) σ):fN G (.obj i) σ K:=fun c ρ s v a r=>by
 obtain⟨b,m,rfl,_,⟨A,B,l,g,O,gr,F,N,_,_⟩⟩:=a.dN ho r
 obtain⟨u,rfl,_⟩:=O
 have hT:s.TypeIs (.ref b) "method":=⟨_,(N _ (bF _ (.head _))).1,rfl⟩
 unfold truthy
 refine wpAny_bind (wpAny_callSpecial?_none (name:=aa "__bool__") hT RI ?_)
 refine wpAny_bind (wpAny_specialOf (name:=aa "__len__") hT RJ ?_)
 exact wpAny_pure (a.tell (z:=.bool true) rfl k)
end
variable(G σ x y)(K:SV→SS→Tr)
noncomputable def RL:VG G (aC G (binaryOp .Add) x y σ (hh K)):=
 .two (bA x) (bA y) (fun a b=>fin K (stI x y (a.1+b.1)) σ (zj a.2 b.2))<|
 .two (b7 x) (b7 y) (fun a b=>.need (a.1.length+b.1.length≤sizeLine) ⟨K (pY x y (a.1++b.1)) σ,fun h p qq=>Rz (K:=hh K) a.2 b.2 p h⟩)<|
 .two (cZ x) (cZ y) (fun a b=>.aT (av (a.1.bd+b.1.bd) 1000000) fun h=>fin K (.tm (cat a.1 b.1)) σ (RC a.2 b.2 h)) .no
noncomputable def RM:VG G (aC G (inplaceOp .Add) x y σ (hh K)):=
 .two (bA x) (bA y) (fun a b=>fin K (stI x y (a.1+b.1)) σ (Rv a.2 b.2))<|
 .two (b7 x) (b7 y) (fun a b=>.need (a.1.length+b.1.length≤sizeLine) ⟨K (pY x y (a.1++b.1)) σ,fun h p qq=>RA (K:=hh K) a.2 b.2 p h⟩)<|
 .two (cZ x) (cZ y) (fun a b=>.aT (av (a.1.bd+b.1.bd) 1000000) fun h=>fin K (.tm (cat a.1 b.1)) σ (RD a.2 b.2 h)) .no
noncomputable def zl (op:Operator):VG G (aC G (inplaceOp op) x y σ (hh K)):=match op with
 |.Add=>RM G σ x y K
 |.Sub=>.two (bA x) (bA y) (fun a b=>fin K (stI x y (a.1-b.1)) σ (Rx a.2 b.2)) .no
 |_=>.no
noncomputable def RN (op:UnaryOp):VG G (iL G (unaryOp op) x σ (hh K)):=match op with
 |.USub=>.one (bA x) fun a=>fin K (stI x x (-a.1)) σ (Ry a.2)
 |_=>.no
set_option backward.match.sparseCases false in
noncomputable def nR:VG G (fN G x σ (hh K)):=match x with
 |.none=>fin K (.bool false) σ (RE id)
 |.bool b=>fin K (.bool b) σ (mj fun r=>⟨b,r,rfl⟩)
 |.sb b=>fin K (.sb b) σ (mj fun r=>⟨b,r,rfl⟩)
 |.bm k l p q=>fin K (ji σ k l p q) σ RG
 |.int i=>fin K (.bool (!decide (i=0))) σ (zk (x:=.int i) id)
 |.si i=>fin K (.sb (!decide (i=0))) σ (zk (x:=.si i) id)
 |.str a=>.aT (av a.length 1000000) fun h=>fin K (.bool (!aB a.length 0)) σ (Em (x:=.str a) id (ah (ao h) (by rw[sizeLine_eq];decide)))
 |.ss a=>.need (a.length≤sizeLine) ⟨K (.sb (!aB a.length 0)) σ,fun h p qq=>Em (x:=.ss a) (K:=hh K) id p h⟩
 |.obj i=>.cO σ.objs (i) fun o ho=>match o,ho with
  |.list p xs,ho=>match p,ho with
   |Option.none,ho=>.aT (av xs.length 1000) fun h=>fin K (.bool (!aB xs.length 0)) σ (RH ho h)
   |some _,_=>.no
  |.bX _ _,ho=>fin K (.bool true) σ (RK ho)
  |_,_=>.no
 |_=>.no
end
end
end Ex
end
section
namespace Ex
noncomputable section
section
variable{G:Gx}{σ:SS}{x y z:SV}{i:Nat}{C:Addr}{fs:List (Str×SV)}{ci:CI}{nm:Str}
section
variable{K:SV→SS→Prop}
theorem At.iN{c:Cx}{ρ:List Addr}{s:Shared}(a:At G c ρ σ s)(hc:aQ C G.T.cls=some ci):vj G.D.K ci∧ci.C=C:=a.tk.cls _ (eg hc)
theorem FR.zm{W:Wd}{ρ:List Addr}{es:List DictEntry}(r:FR W ρ fs es)(h:lk nm fs=some x):∃v,getL nm es=some (some v)∧VR W ρ x v:=by have:=r.get (n:=nm);rw[h] at this;exact this
theorem FR.p7{W:Wd}{ρ:List Addr}{es:List DictEntry}(r:FR W ρ fs es)(h:lk nm fs=af):getL nm es=some af:=by have:=r.get (n:=nm);rw[h] at this;exact this
theorem RO(ho:σ.objs.list[i]? =some (.inst C fs))(hc:aQ C G.T.cls=some ci)(hf:has nm ci.gK=true)(hl:lk nm fs=some x)(hp:rZ x=true)(k:K x σ):iL G (getAttr · nm true) (.obj i) σ K:=fun c ρ s v a r=>by
 obtain⟨b,dx,es,k',m,g,rfl,X,F,fr,I⟩:=a.inst ho r
 obtain⟨co,rfl⟩:=a.iN hc
 obtain⟨u,g1,g2⟩:=fr.zm hl
 exact get_own F X I co.plain co.dict (co.fld nm (pQ.mp hf)).1 rfl g1 (g2.handed hp) (a.t1.give (pr _) g2 k)
theorem RP{x:Value}(ho:σ.objs.list[i]? =some (.inst C fs))(hc:aQ C G.T.cls=some ci)(hf:lk nm ci.vals=some x)(hl:lk nm fs=af)(k:K (sv x) σ):iL G (getAttr · nm true) (.obj i) σ K:=fun c ρ s v a r=>by
 obtain⟨b,dx,es,k',m,g,rfl,X,F,fr,I⟩:=a.inst ho r
 obtain⟨co,rfl⟩:=a.iN hc
 obtain⟨a1,a2,a3,a4⟩:=co.val _ (eU hf)
 exact get_cls F X I co.plain co.dict a1 a2 a3 a4 (fr.p7 hl) (a.t1.give (pr _) (pV _ _ _) k)
theorem RQ{f:Addr}(ho:σ.objs.list[i]? =some (.inst C fs))(hc:aQ C G.T.cls=some ci)(hf:lk nm ci.fM=some f)(hl:lk nm fs=af)(k:K (.obj σ.objs.length) ⟨σ.loc,OL.a σ.objs (.bX f (.obj i)),σ.fa⟩):iL G (getAttr · nm true) (.obj i) σ K:=fun c ρ s v a r=>by
 obtain⟨b,dx,es,k',m,g,rfl,X,F,fr,I⟩:=a.inst ho r
 obtain⟨co,rfl⟩:=a.iN hc
 obtain⟨a1,a2,a3,a4,a5,a6,a7⟩:=co.nQ _ (eU hf)
 obtain⟨m',⟨ls,ad,l1,l2,g,gr,F',N⟩,hl'⟩:=a.R
 exact kbm_bound F' gr.X N I co.plain co.dict a1 a2 a3 a4 a5 (fr.p7 hl) fun q h' F2 N2 lo=>a.made (s':={s with heap:=h',toks:=s.toks+1}) ad l1 l2 gr hl' F2 N2 lo (x:=.bX f (.obj i)) (DU.mk _ rfl (r.mono (cu _ _))) (a.tp.to (cV _)) (pr _) k
theorem RS{d:Addr}{o o':Obj}{p:Addr×Obj}{pre post:List (Addr×Obj)}(h:((pre++p::(d,o)::post).map aN).Nodup):Upd d o o' (pre++p::(d,o)::post) (pre++p::(d,o')::post):=by
 have e:∀o:Obj,pre++p::(d,o)::post=(pre++[p])++(d,o)::post:=fun o=>by simp
 rw[e] at h
 rw[e,e]
 exact rW h
theorem RT{K:SS→Prop}(ho:σ.objs.list[i]? =some (.inst C fs))(hc:aQ C G.T.cls=some ci)(hf:has nm ci.gK=true)(hz:av (put nm y fs).length 1000=true)(k:K ⟨σ.loc,OL.s σ.objs i (.inst C (put nm y fs)),σ.fa⟩):sd G (.obj i) nm y σ K:=fun c ρ s w a r=>by
 obtain⟨v,u⟩:=w
 obtain⟨r,q⟩:=r
 obtain⟨co,rfl⟩:=a.iN hc
 obtain⟨b,m,e,hl,⟨A,B,l,g,O,gr,F,N,nd,back⟩⟩:=a.dN ho r
 obtain rfl:v=.ref b:=e
 obtain⟨dx,es,k',rfl,fr⟩:=O
 have I:_root_.PySem.W.InstAt s.heap b (instObj ci.C dx) ci.C (some (dictOf es k')):=Kr N (bF _ (.head _)) (bF _ (.tail _ (.head _)))
 have fr':=fr.put (n:=nm) (t:=s.toks+1) q
 refine set_dict F gr.X N I rfl co.set co.over (co.fld nm (pQ.mp hf)).2 co.dict ?_ rfl (RS nd) (by rw[←fr'.len];exact ao hz) fun h' F' N'=>⟨ρ,⟨σ.loc,OL.s σ.objs i (.inst ci.C (put nm y fs)),σ.fa⟩,(),pr _,⟨⟨m,back (.inst ci.C (put nm y fs)) _ h' m g (vg.mk dx _ (putN nm es k') rfl fr') (by rw[cy] at nd⊢;exact nd) gr F' N',hl⟩,a.tp.to (bC _ 2),a.fa⟩,trivial,k⟩
 have:=fr.get (n:=nm)
 cases q:lk nm fs with
 |none=>rw[q] at this;rw[this];rfl
 |some z=>rw[q] at this;obtain⟨w,g,_⟩:=this;rw[g];rfl
end
variable(G σ)(K:SV→SS→Tr)
noncomputable def En (x:SV) (nm:Str):VG G (iL G (getAttr · nm true) x σ (hh K)):=match x with
 |.obj i=>.cO σ.objs (i) fun o ho=>match o,ho with
  |.inst C fs,ho=>.opt (aQ C G.T.cls) fun ci hc=>.or (lk nm fs)
   (fun hl=>.or (lk nm ci.fM)
     (fun qq=>.opt (lk nm ci.vals) fun w hw=>fin K (sv w) σ (RP ho hc hw hl))
     fun f hf=>fin K (.obj σ.objs.length) ⟨σ.loc,OL.a σ.objs (.bX f (.obj i)),σ.fa⟩ (RQ ho hc hf hl))
   fun y hl=>.aT (has nm ci.gK) fun hf=>.aT (rZ y) fun hp=>fin K y σ (RO ho hc hf hl hp)
  |_,_=>.no
 |_=>.no
noncomputable def zo (x:SV) (nm:Str) (y:SV) (K:SS→Tr):VG G (sd G x nm y σ fun σ=>(K σ).h):=match x with
 |.obj i=>.cO σ.objs (i) fun o ho=>match o,ho with
  |.inst C fs,ho=>.opt (aQ C G.T.cls) fun ci hc=>.aT (has nm ci.gK) fun hf=>.aT (av (put nm y fs).length 1000) fun hz=>⟨K ⟨σ.loc,OL.s σ.objs i (.inst C (put nm y fs)),σ.fa⟩,fun h qq=>RT (K:=fun σ=>(K σ).h) ho hc hf hz h⟩
  |_,_=>.no
 |_=>.no
end
structure cG (e:Expr):Prop where
 star:∀r env,starEach (e::r) env=(false,eval e env)::starEach r env
 marks:∀op,behindInMarks op e=false
 p8:∀t l env,swapsWith e t l env=pure false
 sub:∀o i,subscripted e false o i=operate [o,i] (getItem o i)
 aug:∀ov iv new,augStore e ov iv new=(do holding [new,ov,iv] (setItem ov iv new);release [new,ov,iv] [];pure .next)
 each:∀ts env,assignEach (e::ts) env=(false,assign e env)::assignEach ts env
set_option backward.match.sparseCases false in
noncomputable def jK (e:Expr):Option (PLift (cG e)):=match e with
 |.Name ..=>some ⟨⟨fun qq qq=>rfl,fun qq=>rfl,fun qq qq qq=>rfl,fun qq qq=>rfl,fun qq qq qq=>rfl,fun qq qq=>rfl⟩⟩
 |.Constant ..=>some ⟨⟨fun qq qq=>rfl,fun qq=>rfl,fun qq qq qq=>rfl,fun qq qq=>rfl,fun qq qq qq=>rfl,fun qq qq=>rfl⟩⟩
 |.Attribute ..=>some ⟨⟨fun qq qq=>rfl,fun qq=>rfl,fun qq qq qq=>rfl,fun qq qq=>rfl,fun qq qq qq=>rfl,fun qq qq=>rfl⟩⟩
 |.Subscript ..=>some ⟨⟨fun qq qq=>rfl,fun qq=>rfl,fun qq qq qq=>rfl,fun qq qq=>rfl,fun qq qq qq=>rfl,fun qq qq=>rfl⟩⟩
 |.BinOp ..=>some ⟨⟨fun qq qq=>rfl,fun qq=>rfl,fun qq qq qq=>rfl,fun qq qq=>rfl,fun qq qq qq=>rfl,fun qq qq=>rfl⟩⟩
 |.UnaryOp ..=>some ⟨⟨fun qq qq=>rfl,fun qq=>rfl,fun qq qq qq=>rfl,fun qq qq=>rfl,fun qq qq qq=>rfl,fun qq qq=>rfl⟩⟩
 |.Call ..=>some ⟨⟨fun qq qq=>rfl,fun qq=>rfl,fun qq qq qq=>rfl,fun qq qq=>rfl,fun qq qq qq=>rfl,fun qq qq=>rfl⟩⟩
 |.List ..=>some ⟨⟨fun qq qq=>rfl,fun qq=>rfl,fun qq qq qq=>rfl,fun qq qq=>rfl,fun qq qq qq=>rfl,fun qq qq=>rfl⟩⟩
 |.Tuple ..=>some ⟨⟨fun qq qq=>rfl,fun qq=>rfl,fun qq qq qq=>rfl,fun qq qq=>rfl,fun qq qq qq=>rfl,fun qq qq=>rfl⟩⟩
 |.Dict ..=>some ⟨⟨fun qq qq=>rfl,fun qq=>rfl,fun qq qq qq=>rfl,fun qq qq=>rfl,fun qq qq qq=>rfl,fun qq qq=>rfl⟩⟩
 |.Compare ..=>some ⟨⟨fun qq qq=>rfl,fun qq=>rfl,fun qq qq qq=>rfl,fun qq qq=>rfl,fun qq qq qq=>rfl,fun qq qq=>rfl⟩⟩
 |.BoolOp ..=>some ⟨⟨fun qq qq=>rfl,fun qq=>rfl,fun qq qq qq=>rfl,fun qq qq=>rfl,fun qq qq qq=>rfl,fun qq qq=>rfl⟩⟩
 |.IfExp ..=>some ⟨⟨fun qq qq=>rfl,fun qq=>rfl,fun qq qq qq=>rfl,fun qq qq=>rfl,fun qq qq qq=>rfl,fun qq qq=>rfl⟩⟩
 |_=>af
theorem dz.get{W:Wd}{ρ:List Addr}{n:Str}{x:SV}{fs:List (Str×SV)}{es:List (Str×Value)}(r:dz W ρ fs es)(h:lk n fs=some x):∃v,valueAt es n=some v∧VR W ρ x v:=by
 induction r with
 |nil=>cases h
 |@cons p e _ _ q _ ih=>
  obtain⟨k,v⟩:=e
  obtain⟨rfl,q⟩:=q
  rw[show lk n (p::_)=_ from b6 n p.1 p.2 _] at h
  unfold valueAt at ih⊢
  rw[yE]
  by_cases e:n=p.1
  ·rw[if_pos e] at h;cases h;rw[decide_eq_true e.symm];exact⟨v,rfl,q⟩
  ·rw[if_neg e] at h;rw[decide_eq_false fun z=>e z.symm];exact ih h
section
variable{G:Gx}{σ:SS}{x y z:SV}{i:Nat}
section
variable{K:SV→SS→Prop}
theorem RU{xs:List SV}{k:Int}{c:Cx}{ρ:List Addr}{s:Shared}{vs:List Value}{b:Addr}(a:At G c ρ σ s)(f:aG G.D ρ xs vs)(hl:s.heap.IsList b (vs:List Value).toArray){t:Tok}(h0:0≤k)(h1:k≤1000)(hx:xs[k.toNat]? =some x)(kk:K x σ):wpAny G.D.M c.A (getItem (.ref b) (.int k t)) (PE G c ρ K) (PX G c ρ) s:=by
 obtain⟨w,hw,hr⟩:=Each.get f hx
 exact wpAny_getItem_list hl h0 (by exact Om.L2 h0 h1) (by rw[pC];exact hw) (a.give (pr _) hr kk)
theorem Eo{xs:List SV}{k:Int}(hk:bc y k)(ho:σ.objs.list[i]? =some (.list af xs))(h0:0≤k)(h1:k≤1000)(hx:xs[k.toNat]? =some x)(kk:K x σ):aC G getItem (.obj i) y σ K:=.mk fun c ρ s v u a r q=>by
 obtain⟨t,rfl⟩:=hk q
 obtain⟨b,us,vs,rfl,rfl,f,hl⟩:=a.list ho r
 exact RU a f hl h0 h1 hx kk
theorem RV{p:Option eS}{xs:List SV}{m:Nat}{j:Nat}(hk:bc y (.negSucc m))(ho:σ.objs.list[i]? =some (.list p xs))(h1:j+(m+1)=xs.length)(h2:m≤1000)(hx:xs[j]? =some x)(kk:K x σ):aC G getItem (.obj i) y σ K:=.mk fun c ρ s v u a r q=>by
 obtain⟨t,rfl⟩:=hk q
 obtain⟨b,us,vs,rfl,hp,f,hl⟩:=a.list ho r
 obtain⟨w,hw,hr⟩:=Each.get f hx
 have hlen:=f.len
 refine wpAny_getItem_list_neg hl (Int.negSucc_lt_zero m) ?_ (by omega) ?_ (a.give (pr _) hr kk)
 ·simp;omega
 ·have e:(Int.negSucc m+((us++vs:List Value).toArray.size:Nat)).toNat=us.length+j:=by simp;omega
  rw[e,pC,fj (bC _ _),kh]
  exact hw
theorem RW{xs:List SV}{k:Nat}(hk:bc y k)(ho:σ.objs.list[i]? =some (.tup xs))(h1:k≤1000)(hx:xs[k]? =some x)(kk:K x σ):aC G getItem (.obj i) y σ K:=.mk fun c ρ s v u a r q=>by
 obtain⟨t,rfl⟩:=hk q
 obtain⟨b,vs,rfl,f,hl⟩:=a.tup ho r
 obtain⟨w,hw,hr⟩:=Each.get f hx
 have hlt:=(dg.mp hw).1
 refine PyProof.Rows.getItem_tuple (k:=(k:Int)) hl (by exact Om.L6 h1) (by exact Om.L7 h1) (j:=k) ?_ (by rw[pC];exact hw) (a.give (pr _) hr kk)
 have e0:¬((k:Int)<0):=by exact Om.L8 h1
 unfold seqIndex?
 simp[hlt,e0]
theorem zp{prog:Program}{w:World}(n:Str)(t:Tok):(yG prog w).is n (.str n t)=true:=by
 show(n==n)=true
 exact beq_self_eq_true n
theorem RX{fs:List (Str×SV)}{n:Str}(hk:bI y n)(ho:σ.objs.list[i]? =some (.dict fs))(hx:lk n fs=some x)(kk:K x σ):aC G getItem (.obj i) y σ K:=.mk fun c ρ s v u a r q=>by
 obtain⟨t,rfl⟩:=hk q
 obtain⟨b,kvs,rfl,f,hD⟩:=a.dict ho r
 obtain⟨w,hw,hr⟩:=dz.get f hx
 exact wpAny_getItem_of (knd:=yG G.D.prog G.D.w) (k:=n) (zp n t) hD.mapOf hw (a.t1.give (pr _) hr kk)
theorem zq{oe ie:Expr}{p:Option eS}{xs:List SV}(hs:cG ie)(ho:σ.objs.list[i]? =some (.list p xs))(h:aC G getItem (.obj i) y σ K):aC G (subscriptTail oe ie) (.obj i) y σ K:=.mk fun c ρ s v u a r q=>by
 obtain⟨b,us,vs,rfl,hp,f,hl⟩:=a.list ho r
 exact tail_any hl.typeIs slot_list_getitem.lookup (h c ρ s (.ref b,u) a ⟨r,q⟩) (hs.sub _ _)
theorem RY{oe ie:Expr}{xs:List SV}(hs:cG ie)(ho:σ.objs.list[i]? =some (.tup xs))(h:aC G getItem (.obj i) y σ K):aC G (subscriptTail oe ie) (.obj i) y σ K:=.mk fun c ρ s v u a r q=>by
 obtain⟨b,vs,rfl,f,hl⟩:=a.tup ho r
 exact tail_any (PyProof.Rows.IsTup.typeIs hl) F.slot_tuple_getitem.lookup (h c ρ s (.ref b,u) a ⟨r,q⟩) (hs.sub _ _)
theorem RZ{oe ie:Expr}{fs:List (Str×SV)}(hs:cG ie)(ho:σ.objs.list[i]? =some (.dict fs))(h:aC G getItem (.obj i) y σ K):aC G (subscriptTail oe ie) (.obj i) y σ K:=.mk fun c ρ s v u a r q=>by
 obtain⟨b,kvs,rfl,f,hD⟩:=a.dict ho r
 exact tail_any hD.typeIs slot_dict_getitem.lookup (h c ρ s (.ref b,u) a ⟨r,q⟩) (hs.sub _ _)
end
variable(G σ)(K:SV→SS→Tr)
noncomputable def Ep (x y:SV):VG G (aC G getItem x y σ (hh K)∧∀oe ie,cG ie→aC G (subscriptTail oe ie) x y σ (hh K)):=match x with
 |.obj i=>.cO σ.objs (i) fun o ho=>match o,ho with
  |.list p xs,ho=>.one (bA y) fun k=>match k with
   |⟨.ofNat m,hk⟩=>match p,ho with
    |Option.none,ho=>.aT (av m 1000) fun h=>.ob xs (m) fun z hz=>fin K z σ fun kk=>
     have g:=Eo hk ho (cT m) (by have:=ao h;show(m:Int)≤1000;exact Om.L9 this) hz kk
     ⟨g,fun oe ie hs=>zq hs ho g⟩
    |some _,_=>.no
   |⟨.negSucc m,hk⟩=>.aT (av (m+1) xs.length) fun h1=>.aT (av m 1000) fun h=>.ob xs (xs.length-(m+1)) fun z hz=>fin K z σ fun kk=>
    have g:=RV hk ho (pF (ao h1)) (ao h) hz kk
    ⟨g,fun oe ie hs=>zq hs ho g⟩
  |.tup xs,ho=>.one (bA y) fun k=>match k with
   |⟨.ofNat m,hk⟩=>.aT (av m 1000) fun h=>.ob xs (m) fun z hz=>fin K z σ fun kk=>
      have g:=RW hk ho (ao h) hz kk
      ⟨g,fun oe ie hs=>RY hs ho g⟩
   |⟨.negSucc _,_⟩=>.no
  |.dict fs,ho=>.one (b7 y) fun n=>.opt (lk n.1 fs) fun z hz=>fin K z σ fun kk=>
    have g:=RX n.2 ho hz kk
    ⟨g,fun oe ie hs=>RZ hs ho g⟩
  |_,_=>.no
 |_=>.no
end
end
end Ex
end
section
namespace Ex
noncomputable section
section
variable{G:Gx}{σ:SS}{x y z:SV}{i j:Nat}{c:Cx}{ρ ρ₀:List Addr}{s:Shared}
inductive R8 (G:Gx) (c:Cx) (ρ:List Addr) (σ:SS) (h:Heap) (i:Nat) (p:Option eS) (xs:List SV) (v:Value):Prop
 |mk (b:Addr) (us vs:List Value) (n:Nat) (m:Str→Option Value) (g:Heap) (A B:List (Addr×Obj)) (e:v=.ref b) (q:jg p us) (f:aG G.D ρ xs vs) (F:Fr g c.L h m) (N:News g c.L h (A++(b,listOf (us++vs:List Value).toArray n)::B))
  (nd:((A++(b,listOf (us++vs:List Value).toArray n)::B).map aN).Nodup)
  (back:∀p' xs' us' vs' n' h',jg p' us'→aG G.D ρ xs' vs'→Fr g c.L h' m→News g c.L h' (A++(b,listOf (us'++vs':List Value).toArray n')::B)→Rep G.D c ρ ⟨σ.loc,OL.s σ.objs i (.list p' xs'),σ.fa⟩ h')
theorem At.sA(a:At G c ρ σ s){p:Option eS}{xs:List SV}{v:Value}(ho:σ.objs.list[i]? =some (.list p xs))(r:VR G.D ρ (.obj i) v):R8 G c ρ σ s.heap i p xs v:=by
 obtain⟨b,m,rfl,hl,⟨A,B,l,g,O,gr,F,N,nd,back⟩⟩:=a.dN ho r
 obtain⟨us,vs,n,rfl,q,f⟩:=O
 exact⟨b,us,vs,n,m,g,A,B,rfl,q,f,F,N,nd,fun p' xs' us' vs' n' h' q' f' F' N'=>⟨m,back (.list p' xs') [(b,_)] h' m g (lV.mk us' vs' n' rfl q' f') (vq nd) gr F' N',hl⟩⟩
theorem R9{v:Value}:∀{l:List Value} {j:Nat},j<l.length→ki_setL l j v=some (l.set j v):=by
 intro l
 induction l with
 |nil=>intro j h;exact absurd h (yC _)
 |cons a r ih=>
  intro j h
  cases j with
  |zero=>rfl
  |succ j=>
   have:=ih (j:=j) (afi h)
   simp[ki_setL,this]
theorem Sb{K:SS→Prop}{p:Option eS}{xs:List SV}{k:Int}{j:Nat}(hk:bc x k)(ho:σ.objs.list[i]? =some (.list af xs))(h0:k=j)(h1:cW j xs.length=true)(h2:av j 1000=true)(kk:K ⟨σ.loc,OL.s σ.objs i (.list af (aL xs j y)),σ.fa⟩):se G (.obj i) x y σ K:=fun c ρ s w a r=>by
 obtain⟨v,u,w⟩:=w
 obtain⟨r,q,z⟩:=r
 obtain⟨t,e⟩:=hk q
 obtain rfl:u=_:=e
 obtain⟨b,us,vs,n,m,g,A,B,e,rfl,f,F,N,nd,back⟩:=a.sA ho r
 obtain rfl:v=.ref b:=e
 subst h0
 have hl:j<vs.length:=by rw[←Each.len f];exact ao h1
 refine ki_set (its:=vs.toArray) (q:=vs.set j w) F N (cT j) (by have:=ao h2;exact Om.L7 this) (R9 hl) (rW nd) fun h' F' N'=>⟨ρ,⟨σ.loc,OL.s σ.objs i (.list af (aL xs j y)),σ.fa⟩,(),pr _,⟨back af (aL xs j y) [] (vs.set j w) n h' rfl (Each.set f j z) F' N',a.tp.to (az _),a.fa⟩,trivial,kk⟩
set_option tactic.hygienic true in
theorem dz.put{W:Wd}{n:Str}{v:Value}(q:VR W ρ x v){fs:List (Str×SV)}{es:List (Str×Value)}(r:dz W ρ fs es)(hn:(es.map (·.1)).Nodup):dz W ρ (Ex.put n x fs) (stored es n v):=by
 have miss:∀{fs es},dz W ρ fs es→n∉es.map (·.1)→dz W ρ (Ex.put n x fs) (es++[(n,v)]):=fun{fs es} r=>by
  induction r with
  |nil=>exact fun qq=>.one ⟨rfl,q⟩
  |@cons p e _ _ z r ih=>
   intro h
   rw[eL,bV,not_or] at h
   rw[show Ex.put n x (p::_)=_ from ve n p.1 x p.2 _,if_neg (z.k▸h.1)]
   exact .cons z (ih h.2)
 have hit:∀{fs es},dz W ρ fs es→(es.map (·.1)).Nodup→n∈es.map (·.1)→dz W ρ (Ex.put n x fs) (es.map fun kv=>if kv.1=n then(kv.1,v) else kv):=fun{fs es} r=>by
  induction r with
  |nil=>exact fun qq h=>(by cases h)
  |@cons p e _ es z r ih=>
   intro hn h
   rw[eL,cM] at hn
   rw[eL,show Ex.put n x (p::_)=_ from ve n p.1 x p.2 _]
   by_cases h':n=p.1
   ·rw[if_pos h',if_pos (z.k.trans h'.symm)]
    refine .cons ⟨z.k,q⟩ ?_
    have:es.map (fun kv=>if kv.1=n then(kv.1,v) else kv)=es:=by
     conv=>rhs;rw[←C3 es]
     exact uI fun p hp=>if_neg fun e=>hn.1 (dh.mpr ⟨p,hp,e.trans (h'.trans z.k.symm)⟩)
    rw[this];exact r
   ·rw[if_neg h',if_neg fun e=>h' (e.symm.trans z.k)]
    exact .cons z (ih hn.2 ((bV.mp h).resolve_left fun e=>h' (e.trans z.k)))
 unfold stored
 split
 ·rename_i h
  obtain⟨p,hp,e⟩:=yz.mp h
  exact hit r hn (dh.mpr ⟨p,hp,of_decide_eq_true e⟩)
 ·rename_i h
  exact miss r fun hm=>by
   obtain⟨p,hp,e⟩:=dh.mp hm
   exact h (yz.mpr ⟨p,hp,decide_eq_true e⟩)
inductive Sd (G:Gx) (c:Cx) (ρ:List Addr) (σ:SS) (h:Heap) (i:Nat) (R:List (Str×Value)→Prop) (v:Value):Prop
 |mk (b:Addr) (kvs:List (Str×Value)) (e:v=.ref b) (f:R kvs) (hD:h.DictOf (strKind G.D.prog G.D.w) b kvs)
  (back:∀(o':SO) (R':List Addr→List (Str×Value)→Prop) (kvs':List (Str×Value)) (h':Heap),(∀ρ a l,OR G.D c.R ρ a o' l=kD (nN G.D) (R' ρ) a l)→R' ρ kvs'→h'.DictOf (strKind G.D.prog G.D.w) b kvs'→(∀a o,a≠b→h.get? a=some o→h'.get? a=some o)→Rep G.D c ρ ⟨σ.loc,OL.s σ.objs i o',σ.fa⟩ h')
theorem At.zu(a:At G c ρ σ s){o:SO}{R:List Addr→List (Str×Value)→Prop}{v:Value}(ho:σ.objs.list[i]? =some o)(hR:∀ρ a l,OR G.D c.R ρ a o l=kD (nN G.D) (R ρ) a l)(r:VR G.D ρ (.obj i) v):Sd G c ρ σ s.heap i (R ρ) v:=by
 obtain⟨b,m,rfl,hl,⟨A,B,l,g,O,gr,F,N,nd,back⟩⟩:=a.dN ho r
 rw[hR] at O
 obtain⟨ob,kvs,rfl,q,f⟩:=O
 refine⟨b,kvs,rfl,f,rH.mpr ⟨ob,(N _ (bF _ (.head _))).1,q⟩,fun o' R' kvs' h' hR' f' hD hs=>?_⟩
 obtain⟨ob',hg,q'⟩:=rH.mp hD
 obtain⟨F',N'⟩:=D5 F N nd hs hg
 exact⟨m,back o' [(b,ob')] h' m g (by rw[hR'];exact⟨ob',kvs',rfl,q',f'⟩) (vq nd) gr F' N',hl⟩
theorem Se{K:SS→Prop}{fs:List (Str×SV)}{n:Str}(hk:bI x n)(ho:σ.objs.list[i]? =some (.dict fs))(hz:av fs.length 1000=true)(kk:K ⟨σ.loc,OL.s σ.objs i (.dict (put n y fs)),σ.fa⟩):se G (.obj i) x y σ K:=fun c ρ s w a r=>by
 obtain⟨v,u,w⟩:=w
 obtain⟨r,q,z⟩:=r
 obtain⟨t,e⟩:=hk q
 obtain rfl:u=_:=e
 obtain⟨b,kvs,e,f,hD,back⟩:=a.zu (R:=fun ρ=>dz G.D ρ fs) ho (fun qq qq qq=>rfl) r
 obtain rfl:v=.ref b:=e
 have hnd:(kvs.map (·.1)).Nodup:=let⟨_,_,_,_,_,_,_,_,h⟩:=hD;h
 exact wpAny_setItem_pairs (knd:=yG G.D.prog G.D.w) (k:=n) (zp n t) hD (fun h' hm hs=>⟨ρ,⟨σ.loc,OL.s σ.objs i (.dict (put n y fs)),σ.fa⟩,(),pr _,⟨back (.dict (put n y fs)) (fun ρ=>dz G.D ρ (put n y fs)) _ h' (fun qq qq qq=>rfl) (dz.put z f hnd) hm (fun b o hb e=>hs.extBut b o hb e),a.tp.to (cV _),a.fa⟩,trivial,kk⟩) (by have:=ao hz;have:=Each.len f;rw[sizeLine_eq];exact Om.rQ ‹_› this)
variable(G σ)
noncomputable def Er (x y z:SV) (K:SS→Tr):VG G (se G x y z σ fun σ=>(K σ).h):=match x with
 |.obj i=>.cO σ.objs (i) fun o ho=>match o,ho with
  |.list p xs,ho=>.one (ez p) fun hp=>.one (bA y) fun k=>match k with
   |⟨.ofNat m,hk⟩=>.aT (cW m xs.length) fun h1=>.aT (av m 1000) fun h2=>⟨K ⟨σ.loc,OL.s σ.objs i (.list af (aL xs m z)),σ.fa⟩,fun h qq=>Sb (p:=p) (K:=fun σ=>(K σ).h) hk (hp.1▸ho) rfl h1 h2 h⟩
   |_=>.no
  |.dict fs,ho=>.one (b7 y) fun n=>.aT (av fs.length 1000) fun hz=>⟨K ⟨σ.loc,OL.s σ.objs i (.dict (put n.1 z fs)),σ.fa⟩,fun h qq=>Se (K:=fun σ=>(K σ).h) n.2 ho hz h⟩
  |_,_=>.no
 |_=>.no
end
end
end Ex
end
section
namespace Ex
section
variable{G:Gx}{σ:SS}{pos:Pos}
section
variable{K:SV→SS→Prop}
noncomputable def Sf (co:Const):Option {x:SV//∀{G:Gx} {k:Nat} {pos:Pos} {σ:SS} {K:SV→SS→Prop},K x σ→aq G (.Constant co k pos) σ K}:=match co with
 |.none=>some ⟨.none,fun k c ρ s qq a qq=>Constant_none (a.give (V:=VR _) (x:=.none) (pr _) rfl k)⟩
 |.bool b=>some ⟨.bool b,fun k c ρ s qq a qq=>Constant_bool (a.give (V:=VR _) (x:=.bool b) (pr _) rfl k)⟩
 |.int i=>some ⟨.int i,fun k c ρ s qq a qq=>wpAny_Constant_int (a.t1.give (V:=VR _) (x:=.int i) (pr _) ⟨_,rfl⟩ k)⟩
 |.str x=>some ⟨.str x,fun k c ρ s qq a qq=>wpAny_Constant_str (a.t1.give (V:=VR _) (x:=.str x) (pr _) ⟨_,rfl⟩ k)⟩
 |_=>af
theorem zv{c:Cx}(e:pU c.env c.cs c.L){x:Str}{k:NameKind}(h:lk x c.cs.names=some k):c.env.kindOf x=some k:=by
 show c.env.scope.names.lookup x=some k
 rw[e.names];exact(DS x _).symm.trans h
theorem At.kind{c:Cx}{ρ:List Addr}{s:Shared}(a:At G c ρ σ s){x:Str}{k:NameKind}(h:lk x G.cs.names=some k):c.env.kindOf x=some k:=zv a.ok.hk (a.cs▸h)
theorem c9{n:Str}{x:SV}(hd:seq n "__debug__"=false)(hn:lk n G.cs.names=some .local)(hx:lk n σ.loc=some x)(hk:K x σ):aq G (.Name n pos) σ K:=fun c ρ s qq a qq=>by
 obtain⟨m,⟨ls,ad,l1,l2,g,gr,F,N⟩,hl⟩:=a.R
 obtain⟨v,h1,h2⟩:=hl n x hx
 exact wpAny_Name (wpAny_loadName_local a.ok.hk.kind (a.kind hn) (by rw[a.ok.hk.loc];exact F.ns) h1 (a.give (pr _) h2 hk)) (by rw[jG];exact hd)
theorem Es{n:Str}{i:Nat}{x:SV}(hd:seq n "__debug__"=false)(hn:lk n G.cs.names=some .cell)(hi:lk n G.cv=some i)(ho:σ.objs.list[i]? =some (.cell (some x)))(hk:K x σ):aq G (.Name n pos) σ K:=fun c ρ s qq a qq=>by
 obtain⟨ad,h1,h2⟩:=a.cv _ (eU hi)
 obtain⟨b,m,e,hl,⟨A,B,l,g,O,gr,F,N,nd,back⟩⟩:=a.dN (v:=.ref ad) ho ⟨ad,h2,rfl⟩
 cases e
 obtain⟨ob,v,rfl,hd',u,rfl,q⟩:=O
 exact wpAny_Name (wpAny_loadName_cell a.ok.hk.kind (a.kind hn) h1 ⟨ob,(N _ (bF _ (.head _))).1,hd'⟩ (a.give (pr _) q hk)) (by rw[jG];exact hd)
theorem kH{n:Str}{v:Value}(hn:lk n G.cs.names=some .globalImplicit)(hx:lk n G.T.dM=some v)(hk:K (sv v) σ):aq G (.Name n pos) σ K:=fun c ρ s qq a qq=>by
 obtain⟨m,⟨ls,ad,l1,l2,g,gr,F,N⟩,hl⟩:=a.R
 obtain⟨hd,h⟩:=a.tk.dM _ (eU hx)
 have Tr:=gr.tr
 rcases h with h|⟨h1,h2,h3⟩
 ·exact nameG_K F gr.X Tr h (a.give (pr _) (pV _ _ _) hk) a.ok.hk.dM a.ok.hk.kind (a.kind hn) hd
 ·exact ae8 a.ok.hk.kind (a.kind hn) (afc (by rw[a.ok.hk.dM];exact Tr.g.keeps F.keep) (mg_none_of gr.X Tr.g h1) (by rw[a.ok.hk.bi];exact Tr.b.keeps F.keep) ((Tr.builtins _ h3).trans h2) (a.give (pr _) (pV _ _ _) hk)) hd
noncomputable abbrev Based (o:Expr):Prop:=∀nm env w,attributeBase o nm env w=w
set_option backward.match.sparseCases false in
noncomputable def Et (o:Expr):Option (PLift (Based o)):=match o with
 |.Name ..=>some ⟨fun qq qq qq=>rfl⟩
 |.Constant ..=>some ⟨fun qq qq qq=>rfl⟩
 |.Attribute ..=>some ⟨fun qq qq qq=>rfl⟩
 |.Subscript ..=>some ⟨fun qq qq qq=>rfl⟩
 |.Call f _ _ _=>match f with
  |.Attribute ..=>some ⟨fun qq qq qq=>rfl⟩
  |_=>af
 |_=>af
theorem Sg{o:Expr}{nm:Str}(ho:Based o)(h:aq G o σ fun x σ'=>iL G (getAttr · nm true) x σ' K):aq G (.Attribute o nm pos) σ K:=fun c ρ s qq a qq=>
 Attribute_any_ (h.go a (pr _) trivial (w:=()) fun qq qq qq qq qq p qq a' q k=>k.at a' p q) (by
  show(do
   let o' ←attributeBase o nm c.env (eval o c.env)
   standAt pos.atName
   let r ←holding [o'] (getAttr o' nm true)
   letTemporaryGo o o' r
   pure r)=_
  rw[ho])
theorem p9{o i:Expr}(h:aq G o σ fun x σ₁=>aq G i σ₁ fun y σ₂=>aC G (subscriptTail o i) x y σ₂ K):aq G (.Subscript o i pos) σ K:=fun c ρ s qq a qq=>
 Subscript_ (h.go a (pr _) trivial (w:=()) fun qq qq qq qq qq p qq a₁ q k=>k.go a₁ p trivial (w:=()) fun qq qq qq qq qq p₂ p₂' a₂ q₂ k₂=>k₂.at (w:=(_,_)) a₂ p₂ ⟨q.mono p₂',q₂⟩)
theorem gO{l r:Expr}{op:Operator}(h:aq G l σ fun x σ₁=>aq G r σ₁ fun y σ₂=>aC G (binaryOp op) x y σ₂ K):aq G (.BinOp l op r pos) σ K:=fun c ρ s qq a qq=>
 wpAny_BinOp (h.go a (pr _) trivial (w:=()) fun qq qq qq qq qq p qq a₁ q k=>k.go a₁ p trivial (w:=()) fun qq qq qq qq qq p₂ p₂' a₂ q₂ k₂=>k₂.at (w:=(_,_)) a₂ p₂ ⟨q.mono p₂',q₂⟩)
theorem zw{l r:Expr}{op:CmpOp}(hr:∀op,behindInMarks op r=false)(h:aq G l σ fun x σ₁=>aq G r σ₁ fun y σ₂=>aC G (compareOp op) x y σ₂ K):aq G (.Compare l [op] [r] pos) σ K:=fun c ρ s qq a qq=>
 wpAny_Compare1 (h.go a (pr _) trivial (w:=()) fun qq qq qq qq qq p qq a₁ q k=>k.go a₁ p trivial (w:=()) fun qq qq qq qq qq p₂ p₂' a₂ q₂ k₂=>k₂.at (w:=(_,_)) a₂ p₂ ⟨q.mono p₂',q₂⟩) (hr op)
theorem Sh{e:Expr}{op:UnaryOp}(h:aq G e σ fun x σ₁=>iL G (unaryOp op) x σ₁ K):aq G (.UnaryOp op e pos) σ K:=fun c ρ s qq a qq=>
 UnaryOp_ (h.go a (pr _) trivial (w:=()) fun qq qq qq qq qq p qq a₁ q k=>k.at a₁ p q)
theorem vB{t b o:Expr}(h:bN G t σ fun x σ₁=>Br x σ₁ (aq G b · K) (aq G o · K)):aq G (.IfExp t b o pos) σ K:=fun c ρ s qq a qq=>
 IfExp_ (h.go a (pr _) trivial (w:=()) fun qq qq qq v qq p qq a' q k=>by
  cases a'.br k q with
  |t e σ a h=>subst e;exact h.at a p trivial (w:=())
  |f e σ a h=>subst e;exact h.at a p trivial (w:=()))
theorem Si{e₁ e₂:Expr}{r:List Expr}(h:aq G e₁ σ fun x σ₁=>fN G x σ₁ fun b σ₂=>Br b σ₂ (aq G (.BoolOp .And (e₂::r) pos) · K) (K x)):aq G (.BoolOp .And (e₁::e₂::r) pos) σ K:=fun c ρ s qq a qq=>
 BoolOp_and (h.go a (pr _) trivial (w:=()) fun qq qq qq qq qq p qq a' q k=>k.go a' p q fun qq qq qq v qq p₂ p₂' a₂ q₂ k₂=>by
  cases a₂.br k₂ q₂ with
  |t e σ a h=>subst e;exact h.at a p₂ trivial (w:=())
  |f e σ a h=>subst e;exact a.give p₂ (q.mono p₂') h)
theorem Sj{e₁ e₂:Expr}{r:List Expr}(h:aq G e₁ σ fun x σ₁=>fN G x σ₁ fun b σ₂=>Br b σ₂ (K x) (aq G (.BoolOp .Or (e₂::r) pos) · K)):aq G (.BoolOp .Or (e₁::e₂::r) pos) σ K:=fun c ρ s qq a qq=>
 BoolOp_or (h.go a (pr _) trivial (w:=()) fun qq qq qq qq qq p qq a' q k=>k.go a' p q fun qq qq qq v qq p₂ p₂' a₂ q₂ k₂=>by
  cases a₂.br k₂ q₂ with
  |t e σ a h=>subst e;exact a.give p₂ (q.mono p₂') h
  |f e σ a h=>subst e;exact h.at a p₂ trivial (w:=()))
theorem Sk{op:BoolOp}{e:Expr}(h:aq G e σ K):aq G (.BoolOp op [e] pos) σ K:=fun c ρ s qq a qq=>BoolOp_one (h c ρ s () a trivial)
noncomputable abbrev Eu (e:Expr):Prop:=∀env (M:Model) (A:Around) (E:Value→Shared→Prop) (s:Shared) (Q:Bool→Shared→Prop),wpAny M A (eval e env) (fun v s=>wpAny M A (truthy v) Q E s) E s→wpAny M A (isTrue e env (eval e env)) Q E s
noncomputable def Ew (e:Expr):Option (PLift (Eu e)):=match e with
 |.Name ..=>some ⟨fun qq qq qq qq qq qq h=>isTrue_plain h rfl⟩
 |.Constant ..=>some ⟨fun qq qq qq qq qq qq h=>isTrue_plain h rfl⟩
 |.Attribute ..=>some ⟨fun qq qq qq qq qq qq h=>isTrue_plain h rfl⟩
 |.Subscript ..=>some ⟨fun qq qq qq qq qq qq h=>isTrue_plain h rfl⟩
 |.Call ..=>some ⟨fun qq qq qq qq qq qq h=>isTrue_plain h rfl⟩
 |_=>af
theorem zx{e:Expr}(he:Eu e)(h:aq G e σ fun x σ₁=>fN G x σ₁ K):bN G e σ K:=fun c ρ s qq a qq=>
 he _ _ _ _ _ _ (h.go a (pr _) trivial (w:=()) fun qq qq qq qq qq p qq a' q k=>k.at a' p q)
theorem At.nS{c:Cx}{ρ ρ₀:List Addr}{s:Shared}(a:At G c ρ σ s)(p:ρ₀<+:ρ){x:SV}{v:Bool}(r:BR G.D x v)(k:K x σ):PT G c ρ₀ K v s:=⟨ρ,σ,x,p,a.toRepS,r,k⟩
theorem Sl{e:Expr}(h:bN G e σ fun x σ₁=>Br x σ₁ (K (.bool false)) (K (.bool true))):bN G (.UnaryOp .Not e pos) σ K:=fun c ρ s qq a qq=>
 isTrue_not (h.go a (pr _) trivial (w:=()) fun qq qq qq v qq p qq a' q k=>by
  cases a'.br k q with
  |t e σ a h=>subst e;exact a.nS p (x:=.bool false) rfl h
  |f e σ a h=>subst e;exact a.nS p (x:=.bool true) rfl h)
theorem vD(h:K (.bool true) σ):bN G (.BoolOp .And [] pos) σ K:=fun c ρ s qq a qq=>isTrue_and_nil (a.nS (pr _) (x:=.bool true) rfl h)
theorem Sm(h:K (.bool false) σ):bN G (.BoolOp .Or [] pos) σ K:=fun c ρ s qq a qq=>isTrue_or_nil (a.nS (pr _) (x:=.bool false) rfl h)
theorem nT{e:Expr}{r:List Expr}(h:bN G e σ fun b σ₁=>Br b σ₁ (bN G (.BoolOp .And r pos) · K) (K (.bool false))):bN G (.BoolOp .And (e::r) pos) σ K:=fun c ρ s qq a qq=>
 isTrue_and (h.go a (pr _) trivial (w:=()) fun qq qq qq v qq p qq a' q k=>by
  cases a'.br k q with
  |t e σ a h=>subst e;exact h.at a p trivial (w:=())
  |f e σ a h=>subst e;exact a.nS p (x:=.bool false) rfl h)
theorem Sn{e:Expr}{r:List Expr}(h:bN G e σ fun b σ₁=>Br b σ₁ (K (.bool true)) (bN G (.BoolOp .Or r pos) · K)):bN G (.BoolOp .Or (e::r) pos) σ K:=fun c ρ s qq a qq=>
 isTrue_or (h.go a (pr _) trivial (w:=()) fun qq qq qq v qq p qq a' q k=>by
  cases a'.br k q with
  |t e σ a h=>subst e;exact a.nS p (x:=.bool true) rfl h
  |f e σ a h=>subst e;exact h.at a p trivial (w:=()))
theorem So{t b o:Expr}(h:bN G t σ fun x σ₁=>Br x σ₁ (bN G b · K) (bN G o · K)):bN G (.IfExp t b o pos) σ K:=fun c ρ s qq a qq=>
 isTrue_IfExp (h.go a (pr _) trivial (w:=()) fun qq qq qq v qq p qq a' q k=>by
  cases a'.br k q with
  |t e σ a h=>subst e;exact h.at a p trivial (w:=())
  |f e σ a h=>subst e;exact h.at a p trivial (w:=()))
theorem cmp_T{l r:Expr}{op:CmpOp}(hr:∀op,behindInMarks op r=false)(h:aq G l σ fun x σ₁=>aq G r σ₁ fun y σ₂=>aC G (compareOp op) x y σ₂ fun z σ₃=>fN G z σ₃ K):bN G (.Compare l [op] [r] pos) σ K:=fun c ρ s qq a qq=>
 wpAny_isTrue_Compare1 (h.go a (pr _) trivial (w:=()) fun qq qq qq qq qq p qq a₁ q k=>k.go a₁ p trivial (w:=()) fun qq qq qq qq qq p₂ p₂' a₂ q₂ k₂=>k₂.go (w:=(_,_)) a₂ p₂ ⟨q.mono p₂',q₂⟩ fun qq qq qq qq qq p₃ qq a₃ q₃ k₃=>k₃.at a₃ p₃ q₃) (hr op)
theorem Sp{l r r':Expr}{op op':CmpOp}(hr:∀op,behindInMarks op r'=false)(h:aq G l σ fun x σ₁=>aq G r σ₁ fun y σ₂=>aC G (compareOp op) x y σ₂ fun z σ₃=>fN G z σ₃ fun b σ₄=>
 Br b σ₄ (fun σ₄=>aq G r' σ₄ fun w σ₅=>aC G (compareOp op') y w σ₅ fun z' σ₆=>fN G z' σ₆ K) (K (.bool false))):bN G (.Compare l [op,op'] [r,r'] pos) σ K:=fun c ρ s qq a qq=>
 isTrue_chain (h.go a (pr _) trivial (w:=()) fun qq qq qq qq qq p qq a₁ q k=>test_link (k.go a₁ p trivial (w:=()) fun qq qq qq qq qq p₂ p₂' a₂ q₂ k₂=>k₂.go (w:=(_,_)) a₂ p₂ ⟨q.mono p₂',q₂⟩ fun qq qq qq qq qq p₃ p₃' a₃ q₃ k₃=>
  k₃.go a₃ p₃ q₃ fun qq qq qq v qq p₄ p₄' a₄ q₄ k₄=>by
   cases a₄.br k₄ q₄ with
   |f e σ a h=>subst e;exact a.nS p₄ (x:=.bool false) rfl h
   |t e σ a h=>subst e;exact test_last (h.go a p₄ trivial (w:=()) fun qq qq qq qq qq p₅ p₅' a₅ q₅ k₅=>k₅.go (w:=(_,_)) a₅ p₅ ⟨q₂.mono (p₃'.trans (p₄'.trans p₅')),q₅⟩ fun qq qq qq qq qq p₆ qq a₆ q₆ k₆=>k₆.at a₆ p₆ q₆))) (hr op')
theorem Sq{l r r':Expr}{op op':CmpOp}(hr:∀op,behindInMarks op r'=false)(h:aq G l σ fun x σ₁=>aq G r σ₁ fun y σ₂=>aC G (compareOp op) x y σ₂ fun z σ₃=>fN G z σ₃ fun b σ₄=>
 Br b σ₄ (fun σ₄=>aq G r' σ₄ fun w σ₅=>aC G (compareOp op') y w σ₅ K) (K z)):aq G (.Compare l [op,op'] [r,r'] pos) σ K:=fun c ρ s qq a qq=>
 Compare_chain (h.go a (pr _) trivial (w:=()) fun qq qq qq qq qq p qq a₁ q k=>chain_link (k.go a₁ p trivial (w:=()) fun qq qq qq qq qq p₂ p₂' a₂ q₂ k₂=>k₂.go (w:=(_,_)) a₂ p₂ ⟨q.mono p₂',q₂⟩ fun qq qq qq qq qq p₃ p₃' a₃ q₃ k₃=>
  k₃.go a₃ p₃ q₃ fun qq qq qq v qq p₄ p₄' a₄ q₄ k₄=>by
   cases a₄.br k₄ q₄ with
   |f e σ a h=>subst e;exact a.give p₄ (q₃.mono p₄') h
   |t e σ a h=>subst e;exact chain_last (h.go a p₄ trivial (w:=()) fun qq qq qq qq qq p₅ p₅' a₅ q₅ k₅=>k₅.at (w:=(_,_)) a₅ p₅ ⟨q₂.mono (p₃'.trans (p₄'.trans p₅')),q₅⟩))) (hr op')
end
theorem fP{K:List SV→SS→Prop}(h:K [] σ):c7 G [] σ K:=fun c ρ s pos a qq=>spliced_none ⟨ρ,σ,[],pr _,a.toRepS,.nil,h⟩
theorem dP{e:Expr}{r:List Expr}{K:List SV→SS→Prop}(he:∀r env,starEach (e::r) env=(false,eval e env)::starEach r env)(h:aq G e σ fun x σ₁=>c7 G r σ₁ fun xs σ₂=>K (x::xs) σ₂):c7 G (e::r) σ K:=fun c ρ s pos a qq=>
 args_cons (h.go a (pr _) trivial (w:=()) fun qq qq qq qq qq p qq a₁ q k=>k.go (w:=pos) a₁ p trivial fun ρ' σ' xs qq qq p₂ p₂' a₂ q₂ k₂=>⟨ρ',σ',_::xs,p₂,a₂.toRepS,.cons (q.mono p₂') q₂,k₂⟩) (he r _)
section
variable{K:Fl→SS→Prop}
theorem At.dD{c:Cx}{ρ ρ₀:List Addr}{s:Shared}(a:At G c ρ σ s)(p:ρ₀<+:ρ){x:Fl}{v:Flow}(r:r9 G.D ρ x v)(k:K x σ):PB G c ρ₀ K v s:=⟨ρ,σ,x,p,a.toRepS,r,k⟩
theorem iO(k:K .next σ):bz G [] σ K:=fun qq qq qq qq a qq=>wpAny_execs_nil (a.dD (pr _) (x:=.next) rfl k)
noncomputable def Ss (G:Gx) (r:List Stmt) (K:Fl→SS→Prop) (f:Fl) (σ:SS):Prop:=match f with
 |.next=>bz G r σ K
 |f=>K f σ
theorem cP{st:Stmt}{r:List Stmt}(h:bw G st σ (Ss G r K)):bz G (st::r) σ K:=fun c ρ s qq a qq=>by
 refine wpAny_execs_cons (h.go a (pr _) trivial (w:=()) fun ρ' σ' x f s' p qq a' q k=>?_)
 cases x with
 |next=>obtain rfl:=q;exact aK.at (w:=()) k a' p trivial
 |brk=>obtain rfl:=q;exact a'.dD p (x:=.brk) rfl k
 |cont=>obtain rfl:=q;exact a'.dD p (x:=.cont) rfl k
 |ret x=>obtain⟨v,rfl,q⟩:=q;exact a'.dD p (x:=.ret x) ⟨v,rfl,q⟩ k
theorem pass_S(k:K .next σ):bw G (.Pass pos) σ K:=fun qq qq qq qq a qq=>wpAny_Pass (a.dD (pr _) (x:=.next) rfl k)
theorem Su(k:K .brk σ):bw G (.Break pos) σ K:=fun qq qq qq qq a qq=>wpAny_Break (a.dD (pr _) (x:=.brk) rfl k)
theorem Sv(k:K .cont σ):bw G (.Continue pos) σ K:=fun qq qq qq qq a qq=>wpAny_Continue (a.dD (pr _) (x:=.cont) rfl k)
theorem vG{e:Expr}(h:aq G e σ fun x σ'=>K (.ret x) σ'):bw G (.Return (some e) pos) σ K:=fun qq qq qq qq a qq=>
 wpAny_Return_some (h.go a (pr _) trivial (w:=()) fun qq qq y qq qq p qq a' q k=>a'.dD p (x:=.ret y) ⟨_,rfl,q⟩ k)
theorem Sw(k:K (.ret .none) σ):bw G (.Return af pos) σ K:=fun qq qq qq qq a qq=>wpAny_Return_none (a.dD (pr _) (x:=.ret .none) ⟨_,rfl,rfl⟩ k)
theorem qa{t:Expr}{b o:List Stmt}(h:bN G t σ fun x σ'=>Br x σ' (bz G b · K) (bz G o · K)):bw G (.If t b o pos) σ K:=fun qq qq qq qq a qq=>
 wpAny_If (h.go a (pr _) trivial (w:=()) fun qq qq qq v qq p qq a' q k=>by
  cases a'.br k q with
  |t e σ a h=>subst e;exact h.at a p trivial (w:=())
  |f e σ a h=>subst e;exact h.at a p trivial (w:=()))
theorem Sx{t:Expr}(h:bN G t σ fun b σ₁=>Br b σ₁ (K .next) fun qq=>False):bw G (.Assert t af pos) σ K:=fun c ρ s qq a qq=>
 wpAny_Assert_new a.ok.hh (h.go a (pr _) trivial (w:=()) fun qq qq qq v qq p qq a' q k=>by
  cases a'.br k q with
  |t e σ a h=>subst e;exact a.dD p (x:=.next) rfl h
  |f e σ a h=>exact h.elim)
noncomputable def Sy (x:SV):Option (PLift (Is x fun qq v=>∀a,v≠.ref a)):=match x with
 |.none=>some ⟨fun r a e=>(by cases r.symm.trans e)⟩
 |.bool _=>some ⟨fun r a e=>(by cases r.symm.trans e)⟩
 |.str _=>some ⟨fun⟨_,r⟩ a e=>(by cases r.symm.trans e)⟩
 |.ss _=>some ⟨fun⟨_,r⟩ a e=>(by cases r.symm.trans e)⟩
 |.tm _=>some ⟨fun⟨_,r⟩ a e=>(by cases r.symm.trans e)⟩
 |.int _=>some ⟨fun⟨_,r⟩ a e=>(by cases r.symm.trans e)⟩
 |_=>af
theorem Sz{c:Cx}(h:pU c.env c.cs c.L):interactive c.env=false:=by
 show(c.env.scope.kind==.module&&_)=false
 rw[h.kind];rfl
theorem Ey{e:Expr}(hc:cG e)(h:aq G e σ fun x σ'=>(Is x fun qq v=>∀a,v≠.ref a)∧K .next σ'):bw G (.Expr e pos) σ K:=fun c ρ s qq a qq=>by
 refine wpAny_Expr (h.go a (pr _) trivial (w:=()) fun qq qq x v qq p qq a' q k=>?_) (Sz a.ok.hk) (hc.p8 _ _ _)
 have k2:=a'.dD (K:=K) p (x:=.next) rfl k.2
 have k1:=k.1 q
 cases v with
 |ref b=>exact absurd rfl (k1 b)
 |_=>exact k2
theorem iP{M:Model}{A:Around}{E:Value→Shared→Prop}{s:Shared}{h₀:Heap}{c:Cx}{m:Str→Option Value}{news:List (Addr×Obj)}{x:Str}{v:Value}{Q:Unit→Shared→Prop}(e:pU c.env c.cs c.L)(F:Fr h₀ c.L s.heap m)(N:News h₀ c.L s.heap news)
 (h:∀h',Fr h₀ c.L h' (fun y=>if y=x then some v else m y)→News h₀ c.L h' news→Q () {s with heap:=h',toks:=s.toks+1}) (hl:c.env.kindOf x=some .local):wpAny M A (storeName c.env x v) Q E s:=
 wpAny_storeName_local hl (by rw[e.loc];exact F.ns) (fun h' hn hs=>by
  rw[e.loc] at hn hs
  exact h h' (F.set hn hs) (N.set hs)) (by rw[e.kind];rfl)
theorem vJ{c:Cx}{ρ:List Addr}{s:Shared}(a:At G c ρ σ s){x:Str}(hx:lk x G.cs.names=some .local){y:SV}{v:Value}(q:VR G.D ρ y v){Q:Unit→Shared→Prop}{E:Value→Shared→Prop}
 (k:∀s',At G c ρ ⟨(x,y)::σ.loc,σ.objs,σ.fa⟩ s'→Q () s'):wpAny G.D.M c.A (storeName c.env x v) Q E s:=by
 obtain⟨m,⟨ls,ad,l1,l2,g,gr,F,N⟩,hl⟩:=a.R
 exact iP a.ok.hk F N (fun h' F' N'=>k _ (a.to (pr _) ⟨⟨_,⟨ls,ad,l1,l2,g,gr,F',N'⟩,hl.set q⟩,a.tp.to (cV _),a.fa⟩)) (a.kind hx)
theorem SA{c:Cx}{ρ:List Addr}{s:Shared}(a:At G c ρ σ s){x:Str}(hx:lk x G.cs.names=some .cell){i:Nat}{w:Option SV}(hi:lk x G.cv=some i)(ho:σ.objs.list[i]? =some (.cell w)){y:SV}{v:Value}(q:VR G.D ρ y v){Q:Unit→Shared→Prop}{E:Value→Shared→Prop}
 (k:∀s',At G c ρ ⟨σ.loc,OL.s σ.objs i (.cell (some y)),σ.fa⟩ s'→Q () s'):wpAny G.D.M c.A (storeName c.env x v) Q E s:=by
 obtain⟨ad,h1,h2⟩:=a.cv _ (eU hi)
 obtain⟨b,m,e,hl,⟨A,B,l,g,O,gr,F,N,nd,back⟩⟩:=a.dN (v:=.ref ad) ho ⟨ad,h2,rfl⟩
 cases e
 obtain⟨ob,u,rfl,hd',q'⟩:=O
 refine wpAny_storeName_cell a.ok.hk.kind (a.kind hx) h1 ⟨ob,(N _ (bF _ (.head _))).1,hd'⟩ fun h' ⟨ob',hg,hd2⟩ hs=>?_
 obtain⟨F',N'⟩:=D5 F N nd (fun b o hb e=>hs.extBut b o hb e) hg
 exact k _ (a.to (pr _) ⟨⟨m,back (.cell (some y)) [(ad,ob')] h' m g (vh.mk ob' (some v) rfl hd2 ⟨v,rfl,q⟩) (vq nd) gr F' N',hl⟩,a.tp.to (az _),a.fa⟩)
end
section
variable{K:SS→Prop}{y:SV}
theorem At.vK{c:Cx}{ρ ρ₀:List Addr}{s:Shared}(a:At G c ρ σ s)(p:ρ₀<+:ρ)(k:K σ):PU G c ρ₀ K () s:=⟨ρ,σ,(),p,a.toRepS,trivial,k⟩
theorem jL{x:Str}{p:Pos}(hx:lk x G.cs.names=some .local)(k:K ⟨(x,y)::σ.loc,σ.objs,σ.fa⟩):fO G (.Name x p) y σ K:=fun c ρ s v a r=>
 assign_Name (vJ a hx r fun s' a'=>a'.vK (pr _) k)
theorem SD{o:Expr}{nm:Str}{p:Pos}(h:aq G o σ fun x σ₁=>sd G x nm y σ₁ K):fO G (.Attribute o nm p) y σ K:=fun c ρ s v a r=>by
 show wpAny G.D.M c.A (do let ov ←holding [v] (eval o c.env);standAt p.atName;holding [v,ov] (setAttr ov nm v);release [v,ov] []) _ _ s
 refine wpAny_bind (wpAny_holding (h.go a (pr _) trivial (w:=()) fun ρ₁ σ₁ x ov s₁ p₁ p₁' a₁ q k=>wpAny_bind (wpAny_standAt (wpAny_bind (wpAny_holding (k.go (w:=(ov,v)) a₁ p₁ ⟨q,r.mono p₁'⟩ fun qq qq qq qq s₂ p₂ qq a₂ qq z=>?_))))))
 exact wpAny_releaseD (a₂.vK p₂ z)
end
end
end Ex
end
section
namespace Ex
section
variable{G:Gx}{σ:SS}{pos:Pos}
section
variable{K:Fl→SS→Prop}
theorem gR{x:Str}{p p':Pos}{e:Expr}(hc:cG e)(hx:lk x G.cs.names=some .local)(h:aq G e σ fun y σ'=>K .next ⟨(x,y)::σ'.loc,σ'.objs,σ'.fa⟩):bw G (.Assign [.Name x p] e p') σ K:=fun c ρ s qq a qq=>
 wpAny_Assign_Name (h.go a (pr _) trivial (w:=()) fun qq qq y v qq p qq a' q k=>vJ a' hx q fun qq a''=>a''.dD p (x:=.next) rfl k) (hc.p8 _ _ _)
theorem Ez{x:Str}{p p':Pos}{e:Expr}(hc:cG e)(hx:lk x G.cs.names=some .cell){i:Nat}(hi:lk x G.cv=some i)(h:aq G e σ fun y σ'=>(∃w,σ'.objs.list[i]? =some (.cell w))∧K .next ⟨σ'.loc,OL.s σ'.objs i (.cell (some y)),σ'.fa⟩):bw G (.Assign [.Name x p] e p') σ K:=fun c ρ s qq a qq=>
 wpAny_Assign_Name (h.go a (pr _) trivial (w:=()) fun qq qq y v qq p qq a' q k=>let⟨w,ho⟩:=k.1;SA a' hx hi ho q fun qq a''=>a''.dD p (x:=.next) rfl k.2) (hc.p8 _ _ _)
theorem SE{o e:Expr}{nm:Str}{p p':Pos}(hc:cG e)(h:aq G e σ fun y σ₁=>aq G o σ₁ fun x σ₂=>sd G x nm y σ₂ fun σ₃=>K .next σ₃):bw G (.Assign [.Attribute o nm p] e p') σ K:=fun c ρ s qq a qq=>
 plainObj_wpAny_Assign_Attribute (h.go a (pr _) trivial (w:=()) fun qq qq y u qq p qq a₁ q k=>k.go a₁ p trivial (w:=()) fun qq qq x v qq p₂ p₂' a₂ q₂ k₂=>
  k₂.go (w:=(v,u)) a₂ p₂ ⟨q₂,q.mono p₂'⟩ fun qq qq qq qq qq p₃ qq a₃ qq k₃=>a₃.dD p₃ (x:=.next) rfl k₃) (hc.p8 _ _ _)
theorem SG{o i e:Expr}{p p':Pos}(hc:cG e)(h:aq G e σ fun y σ₁=>aq G o σ₁ fun x σ₂=>aq G i σ₂ fun z σ₃=>se G x z y σ₃ fun σ₃=>K .next σ₃):bw G (.Assign [.Subscript o i p] e p') σ K:=fun c ρ s qq a qq=>
 wpAny_Assign_Subscript (h.go a (pr _) trivial (w:=()) fun qq qq y u qq p qq a₁ q k=>k.go a₁ p trivial (w:=()) fun qq qq x v qq p₂ p₂' a₂ q₂ k₂=>k₂.go a₂ p₂ trivial (w:=()) fun qq qq z w qq p₃ p₃' a₃ q₃ k₃=>
  k₃.go (w:=(v,w,u)) a₃ p₃ ⟨q₂.mono p₃',q₃,q.mono (p₂'.trans p₃')⟩ fun qq qq qq qq qq p₄ qq a₄ qq k₄=>a₄.dD p₄ (x:=.next) rfl k₄) (hc.p8 _ _ _)
theorem SH{x:Str}{p':Pos}{op:Operator}{e:Expr}{old:SV}(hx:lk x G.cs.names=some .local)(hl:lk x σ.loc=some old)
 (h:aq G e σ fun y σ₁=>aC G (inplaceOp op) old y σ₁ fun z σ₂=>K .next ⟨(x,z)::σ₂.loc,σ₂.objs,σ₂.fa⟩):bw G (.AugAssign (.Name x p') op e pos) σ K:=fun c ρ s qq a qq=>by
 obtain⟨m,⟨ls,ad,l1,l2,g,gr,F,N⟩,hloc⟩:=a.R
 obtain⟨v,h1,h2⟩:=hloc x old hl
 exact wpAny_AugAssign_Name (wpAny_loadName_local a.ok.hk.kind (a.kind hx) (by rw[a.ok.hk.loc];exact F.ns) h1 (h.go a (pr _) trivial (w:=()) fun ρ₁ σ₁ y u s₁ p₁ p₁' a₁ q k=>k.go (w:=(v,u)) a₁ p₁ ⟨h2.mono p₁',q⟩ fun ρ₂ σ₂ z w s₂ p₂ p₂' a₂ q₂ k₂=>
  vJ a₂ hx q₂ fun s' a₃=>a₃.dD p₂ (x:=.next) rfl k₂))
theorem SI{o e:Expr}{nm:Str}{p':Pos}{op:Operator}
 (h:aq G o σ fun x σ₁=>iL G (getAttr · nm true) x σ₁ fun old σ₂=>aq G e σ₂ fun y σ₃=>aC G (inplaceOp op) old y σ₃ fun z σ₄=>sd G x nm z σ₄ fun σ₅=>K .next σ₅):bw G (.AugAssign (.Attribute o nm p') op e pos) σ K:=fun c ρ s qq a qq=>
 wpAny_AugAssign_AttributeAny (h.go a (pr _) trivial (w:=()) fun ρ₁ σ₁ x v s₁ p₁ p₁' a₁ q₁ k₁=>k₁.go a₁ p₁ q₁ fun ρ₂ σ₂ old ov s₂ p₂ p₂' a₂ q₂ k₂=>k₂.go a₂ p₂ trivial (w:=()) fun ρ₃ σ₃ y u s₃ p₃ p₃' a₃ q₃ k₃=>
  k₃.go (w:=(ov,u)) a₃ p₃ ⟨q₂.mono p₃',q₃⟩ fun ρ₄ σ₄ z w s₄ p₄ p₄' a₄ q₄ k₄=>k₄.go (w:=(v,w)) a₄ p₄ ⟨q₁.mono (p₂'.trans (p₃'.trans p₄')),q₄⟩ fun qq qq qq qq qq p₅ qq a₅ qq k₅=>a₅.dD p₅ (x:=.next) rfl k₅)
theorem SJ{o i e:Expr}{p':Pos}{op:Operator}(hi:cG i)
 (h:aq G o σ fun x σ₁=>aq G i σ₁ fun y σ₂=>aC G getItem x y σ₂ fun old σ₃=>aq G e σ₃ fun z σ₄=>aC G (inplaceOp op) old z σ₄ fun w σ₅=>se G x y w σ₅ fun σ₆=>K .next σ₆):bw G (.AugAssign (.Subscript o i p') op e pos) σ K:=fun c ρ s qq a qq=>
 wpAny_AugAssign_SubscriptAny (h.go a (pr _) trivial (w:=()) fun ρ₁ σ₁ x v s₁ p₁ p₁' a₁ q₁ k₁=>k₁.go a₁ p₁ trivial (w:=()) fun ρ₂ σ₂ y u s₂ p₂ p₂' a₂ q₂ k₂=>k₂.go (w:=(v,u)) a₂ p₂ ⟨q₁.mono p₂',q₂⟩ fun ρ₃ σ₃ old ov s₃ p₃ p₃' a₃ q₃ k₃=>
  k₃.go a₃ p₃ trivial (w:=()) fun ρ₄ σ₄ z w s₄ p₄ p₄' a₄ q₄ k₄=>k₄.go (w:=(ov,w)) a₄ p₄ ⟨q₃.mono p₄',q₄⟩ fun ρ₅ σ₅ n nv s₅ p₅ p₅' a₅ q₅ k₅=>
   k₅.go (w:=(v,u,nv)) a₅ p₅ ⟨q₁.mono (p₂'.trans (p₃'.trans (p₄'.trans p₅'))),q₂.mono (p₃'.trans (p₄'.trans p₅')),q₅⟩ fun qq qq qq qq qq p₆ qq a₆ qq k₆=>a₆.dD p₆ (x:=.next) rfl k₆) hi.aug
end
noncomputable def jj (G:Gx) (ts:List Expr) (ys:List SV) (σ:SS) (K:SS→Prop):Prop:=match ts,ys with
 |[],[]=>K σ
 |t::ts,y::ys=>fO G t y σ fun σ₁=>jj G ts ys σ₁ K
 |_,_=>False
noncomputable abbrev jM (ts:List Expr):Prop:=∀t∈ts,cG t
noncomputable def EW (ts:List Expr):Option (PLift (jM ts)):=@bu Expr (fun ts=>Option (PLift (jM ts))) (some ⟨fun qq h=>by cases h⟩) (fun t ts ih=>match jK t,ih with
 |some ⟨a⟩,some ⟨b⟩=>some ⟨fun u hu=>(bV.mp hu).elim (fun e=>e▸a) (b u)⟩
 |_,_=>af) ts
theorem zy{env:Env}{ts:List Expr}(h:jM ts):(assignEach ts env).length=ts.length∧(assignEach ts env).findIdx? (·.1)=none:=by
 induction ts with
 |nil=>exact⟨rfl,rfl⟩
 |cons t ts ih=>
  obtain⟨a,b⟩:=ih fun u hu=>h u (.tail _ hu)
  rw[(h t (.head _)).each]
  exact⟨by rw[jA,jA,a],by rw[List.findIdx?_cons];simp[b]⟩
theorem jj.go{c:Cx}{ρ₀:List Addr}{K:SS→Prop}{Q:Unit→Shared→Prop}{ts:List Expr}:∀{ys:List SV} {σ:SS} {ρ:List Addr} {s:Shared} {vs:List Value},jM ts→jj G ts ys σ K→At G c ρ σ s→ρ₀<+:ρ→aG G.D ρ ys vs→
 (∀ρ' σ' s',ρ₀<+:ρ'→At G c ρ' σ' s'→K σ'→Q () s')→wpAny G.D.M c.A (assignInOrder ((assignEach ts c.env).map (·.2)) vs) Q (PX G c ρ₀) s:=by
 induction ts with
 |nil=>
  intro ys σ ρ s vs _ h a p r k
  cases r with
  |nil=>exact assignInOrder_nil (k ρ σ s p a h)
  |cons=>exact h.elim
 |cons t ts ih=>
  intro ys σ ρ s vs hp h a p r k
  cases r with
  |nil=>exact h.elim
  |cons q r=>
   rw[(hp t (.head _)).each]
   exact assignInOrder_cons (aK.go (w:=_) (show fO G t _ σ _ from h) a p q fun ρ₁ σ₁ qq qq s₁ p₁ p₁' a₁ qq k₁=>ih (fun u hu=>hp u (.tail _ hu)) k₁ a₁ p₁ (aG.mono p₁' r) k)
noncomputable abbrev zA (e:Expr):Prop:=∀ts k p env,swappedStores [.Tuple ts k p] e env=pure none
noncomputable abbrev vL (e:Expr):Prop:=∀env v,foldedSetIterable e env v=pure v
structure SK (e:Expr):Prop where
 nt:zA e
 it:vL e
set_option backward.match.sparseCases false in
noncomputable def EX (e:Expr):Option (PLift (SK e)):=match e with
 |.Name ..=>some ⟨⟨fun qq qq qq qq=>rfl,fun qq qq=>rfl⟩⟩
 |.Attribute ..=>some ⟨⟨fun qq qq qq qq=>rfl,fun qq qq=>rfl⟩⟩
 |.Subscript ..=>some ⟨⟨fun qq qq qq qq=>rfl,fun qq qq=>rfl⟩⟩
 |.Call ..=>some ⟨⟨fun qq qq qq qq=>rfl,fun qq qq=>rfl⟩⟩
 |.IfExp ..=>some ⟨⟨fun qq qq qq qq=>rfl,fun qq qq=>rfl⟩⟩
 |_=>af
noncomputable def SM (e:Expr):Option (PLift (zA e)):=(EX e).map fun h=>⟨h.1.nt⟩
inductive nU (G:Gx) (x:SV) (σ:SS) (xs:List SV):Prop
 |o (i:Nat) (e:x=.obj i) (ho:σ.objs.list[i]? =some (.tup xs))
 |t (t:Addr) (e:x=.val (.ref t)) (ht:aQ t G.T.tups=some xs)
theorem nU.at{c:Cx}{ρ:List Addr}{s:Shared}{x:SV}{xs:List SV}{v:Value}(h:nU G x σ xs)(a:At G c ρ σ s)(r:VR G.D ρ x v):D3 G.D ρ s.heap xs v:=by
 cases h with
 |o i e ho=>subst e;exact a.tup ho r
 |t t e ht=>
  subst e
  obtain⟨dd,n,sl,vs,h1,h2⟩:=a.tk.tup _ (eg ht)
  exact⟨t,vs,r,aG.mono List.nil_prefix h2,_,a.X _ _ h1,rfl,n,rfl⟩
noncomputable def vM (G:Gx) (x:SV) (σ:SS):Option {xs:List SV//nU G x σ xs}:=match x with
 |.obj i=>match h:σ.objs.list[i]? with
  |some (.tup xs)=>some ⟨xs,.o i rfl h⟩
  |_=>af
 |.val v=>match v with
  |.ref t=>match h:aQ t G.T.tups with
   |some xs=>some ⟨xs,.t t rfl h⟩
   |Option.none=>af
  |_=>af
 |_=>af
theorem RepS.ext{D:Wd}{c:Cx}{ρ:List Addr}{s:Shared}(R:RepS D c ρ σ s){h':Heap}(he:C4 s.heap.objs.size s.heap h'):RepS D c ρ σ {s with heap:=h'}:=by
 obtain⟨⟨m,⟨ls,ad,a,b,g,gr,F,N⟩,hl⟩,tp,fa⟩:=R
 exact⟨⟨m,⟨ls,ad,a,b,g,gr,F.extBut he (az _),fun p hp=>⟨he _ _ (cU (b4 (N p hp).1)) (N p hp).1,(N p hp).2⟩⟩,hl⟩,tp.to (az _),fa⟩
theorem SN{ts:List Expr}{k:Nat}{p:Pos}{K:SS→Prop}{x:SV}{xs:List SV}(hp:jM ts)(hx:nU G x σ xs)(hl:aB ts.length xs.length=true)(h:jj G ts xs σ K):fO G (.Tuple ts k p) x σ K:=fun c ρ s v a r=>by
 obtain⟨b,vs,rfl,f,ht⟩:=hx.at a r
 obtain⟨e1,e2⟩:=zy (env:=c.env) hp
 refine wpAny_assign_Tuple a.ok.hh ht (by rw[e1,bh hl,Each.len f];simp) e2 fun h' he=>?_
 exact jj.go hp h (a.to (pr _) (a.toRepS.ext he)) (pr _) (by simpa using f) fun ρ' σ' s' p' a' z=>a'.vK p' z
theorem EY{ts:List Expr}{k:Nat}{tpos:Pos}{e:Expr}{K:Fl→SS→Prop}(hc:cG e)(ht:zA e)(hp:jM ts)
 (h:aq G e σ fun x σ₁=>∃xs,nU G x σ₁ xs∧aB ts.length xs.length=true∧jj G ts xs σ₁ fun σ₂=>K .next σ₂):bw G (.Assign [.Tuple ts k tpos] e pos) σ K:=fun c ρ s qq a qq=>
 Assign_Tuple (h.go a (pr _) trivial (w:=()) fun ρ₁ σ₁ x v s₁ p₁ p₁' a₁ q ⟨xs,hx,hl,k₁⟩=>by
  obtain⟨b,vs,rfl,f,ht⟩:=hx.at a₁ q
  obtain⟨m,⟨ls,ad,l1,l2,g,gr,F,N⟩,hloc⟩:=a₁.R
  obtain⟨e1,e2⟩:=zy (env:=c.env) hp
  exact unpackN_ F N ht a.ok.hh (by rw[e1,bh hl,Each.len f];simp) e2 fun h' F' N'=>jj.go hp k₁ (a₁.to (pr _) ⟨⟨m,⟨ls,ad,l1,l2,g,gr,F',N'⟩,hloc⟩,a₁.tp.to (az _),a₁.fa⟩) p₁ f fun ρ' σ' s' p' a' z=>a'.dD p' (x:=.next) rfl z) (show swapsWithSole [.Tuple ts k tpos] e pos.line c.env=pure false from hc.p8 (some (.Tuple ts k tpos)) pos.line c.env) (ht _ _ _ _)
end
end Ex
end
section
namespace Ex
noncomputable section
noncomputable abbrev mq (G:Gx) (c:Cx) (ρ:List Addr) (K:SV→SS→Prop) (r:Result) (s':Shared):Prop:=match r with
 |.ok (.ret v)=>PE G c ρ K v s'
 |.ok _=>False
 |.error e=>PX G c ρ e s'
theorem mq.mono{G:Gx}{c:Cx}{ρ₀ ρ:List Addr}{K K':SV→SS→Prop}(p:ρ₀<+:ρ)(k:∀x σ,K x σ→K' x σ){r:Result}{s':Shared}(z:mq G c ρ K r s'):mq G c ρ₀ K' r s':=by
 cases r with
 |error e=>exact PX.mono p z
 |ok f=>cases f with
  |ret v=>obtain⟨a,b,x,q,R,r,z⟩:=z;exact⟨a,b,x,p.trans q,R,r,k _ _ z⟩
  |_=>exact z
section
variable{G:Gx}{σ:SS}{K K':SV→SS→Prop}{f:Value}{xs:List SV}{c:Cx}{ρ ρ₀:List Addr}{s:Shared}{vs:List Value}
theorem au.mp(h:au G f xs σ K)(k:∀x σ',K x σ'→K' x σ'):au G f xs σ K':=fun c ρ s vs a r=>codeAny_mono (h c ρ s vs a r) fun qq qq z=>mq.mono (pr _) k z
theorem au.code(h:au G f xs σ K)(a:At G c ρ σ s)(p:ρ₀<+:ρ)(r:aG G.D ρ xs vs):codeAny G.D.M c.A (.call f ⟨vs,[]⟩) (mq G c ρ₀ K) s:=codeAny_mono (h c ρ s vs a r) fun qq qq z=>mq.mono p (fun qq qq=>id) z
theorem au.call(h:au G f xs σ K)(a:At G c ρ σ s)(p:ρ₀<+:ρ)(r:aG G.D ρ xs vs):wpAny G.D.M c.A (iJ f vs []) (PE G c ρ₀ K) (PX G c ρ₀) s:=wpAny_call (codeAny_mono (h.code a p r) fun r s' z=>by
 cases r with
 |error e=>exact z
 |ok f=>cases f with
  |ret v=>exact z
  |_=>exact z.elim)
end
noncomputable def iQ (i:aJ) (xs:List SV):List (Str×SV):=i.ps.zip (xs++(i.ds.drop (xs.length+i.ds.length-i.ps.length)).map sv)
noncomputable def vO (loc:List (Str×SV)) (K:SV→SS→Prop) (fl:Fl) (σ:SS):Prop:=match fl with
 |.ret x=>K x ⟨loc,σ.objs,σ.fa⟩
 |.next=>K .none ⟨loc,σ.objs,σ.fa⟩
 |_=>False
theorem aG.zB(W:Wd)(ρ:List Addr)(l:List Value):aG W ρ (l.map sv) l:=by
 induction l with
 |nil=>exact .nil
 |cons v r ih=>exact .cons (pV W ρ v) ih
theorem zC{W:Wd}{ρ:List Addr}{x:Str}{y:SV}{ps:List Str}:∀{xs:List SV} {vs:List Value},ps.Nodup→aG W ρ xs vs→lk x (ps.zip xs)=some y→∃v,(ps.zip vs).reverse.lookup x=some v∧VR W ρ y v:=by
 induction ps with
 |nil=>intro xs vs _ _ h;cases h
 |cons p ps ih=>
  intro xs vs hn r h
  cases r with
  |nil=>cases h
  |@cons x' v xs vs q r=>
   rw[cM] at hn
   rw[J1,b6] at h
   rw[J1,List.reverse_cons,List.lookup_append]
   by_cases e:x=p
   ·rw[if_pos e] at h
    cases h
    have hno:(ps.zip vs).reverse.lookup x=af:=by
     rw[List.lookup_eq_none_iff]
     intro q hq
     rw[bne_iff_ne]
     exact fun e'=>hn.1 (e▸e'▸(Cz (List.mem_reverse.mp hq)).1)
    rw[hno]
    exact⟨v,by subst e;simp[nF],q⟩
   ·rw[if_neg e] at h
    obtain⟨u,h1,h2⟩:=ih hn.2 r h
    exact⟨u,by rw[h1];rfl,h2⟩
noncomputable def Gx.in (G:Gx) (n:Nat) (i:aJ):Gx:=⟨G.D,G.T,n,i.scope,fun qq qq qq=>False,G.cons,[],[],[],true⟩
theorem EZ{env:Env}{outer:List Env}{L:Addr}(hf:env.frame=some L):(env::outer).filterMap (·.frame)=L::outer.filterMap (·.frame):=by simp[hf]
theorem E0{A₀:Around}{base h₀ g g':Heap}{outer:List Env}{env:Env}{L:Addr}{m:Str→Option Value}{h:Heap}(B:Below A₀ base outer h₀)(hf:env.frame=some L)(FG:Fr h₀ L g m)(st:h₀.StaysIn g)
 (T:KtsTurn ((env::outer).filterMap (·.frame)) g g') (keep:∀b o,g'.get? b=some o→h.get? b=some o):
 ∃h₀',KtsTurn (outer.filterMap (·.frame)) h₀ h₀'∧Fr h₀' L h m∧Below A₀ base outer h₀'∧(g'.get? L≠af)∧∀b,g'.get? b=af→h₀'.get? b=af:=by
 rw[EZ hf] at T
 obtain⟨oL,es,ep,hL,hLd,hLk,hLf⟩:=FG.ns
 have nL:h₀.get? L=af:=kts_self FG
 obtain⟨sl,hs⟩:=T.up hL
 obtain⟨T₁,S₁⟩:=kts_turn_at (h:=h) (fs:=outer.filterMap (·.frame)) (g:=h₀)
  (fun b hb=>let⟨_,o,ho,_⟩:=B.frames.mem hb;⟨o,ho⟩)
  (fun b o e nm=>keep b o (T.other b o (st b o e) fun q=>(bV.mp q).elim (fun z=>by rw[z,nL] at e;cases e) nm))
  (fun b o e qq=>let⟨sl',hs'⟩:=T.up (st b o e);⟨sl',keep _ _ hs'⟩)
 refine⟨_,T₁,⟨⟨_,es,ep,keep _ _ hs,hLd,hLk,hLf⟩,S₁,by rw[T₁.size];exact FG.above⟩,⟨B.stack,fun b o e=>T₁.other b o (B.stays b o e) (fun hm=>by rw[(B.frames.mem hm).1] at e;cases e),B.frames.of_keeps fun b o e qq=>(let⟨sl',hs'⟩:=T₁.up e;⟨_,hs',rfl⟩)⟩,by rw[hs];exact fun e=>(by cases e),fun b hb=>?_⟩
 refine T₁.none_ _ ?_
 cases q:h₀.get? b with
 |none=>rfl
 |some o=>
  obtain⟨sl',hs'⟩:=T.up (st _ _ q)
  rw[hs'] at hb;cases hb
theorem turn_leave{A₀:Around}{base h₀ g g':Heap}{outer:List Env}{env:Env}{L L':Addr}{m m':Str→Option Value}{news:List (Addr×Obj)}{h:Heap}(B:Below A₀ base outer h₀)(hf:env.frame=some L)(FG:Fr h₀ L g m)(st:h₀.StaysIn g)
 (T:KtsTurn ((env::outer).filterMap (·.frame)) g g') (F':Fr g' L' h m') (N':News g' L' h news):
 ∃h₀',KtsTurn (outer.filterMap (·.frame)) h₀ h₀'∧Fr h₀' L h m∧News h₀' L h news∧Below A₀ base outer h₀':=by
 obtain⟨h₀',a,b,d,nl,e⟩:=E0 B hf FG st T F'.keep
 exact⟨h₀',a,b,fun p hp=>⟨(N' p hp).1,fun q=>nl (q▸(N' p hp).2.2),e _ (N' p hp).2.2⟩,d⟩
theorem sC{outer:List Env}{env:Env}{L:Addr}{h₀ g:Heap}{m:Str→Option Value}(D:KtsDicts (outer.filterMap (·.frame)) h₀)(hf:env.frame=some L)(FG:Fr h₀ L g m)(st:h₀.StaysIn g):KtsDicts ((env::outer).filterMap (·.frame)) g:=by
 rw[EZ hf]
 intro b hb
 rcases bV.mp hb with rfl|hb
 ·obtain⟨oL,es,ep,hL,hLd,_⟩:=FG.ns
  exact⟨oL,es,ep,hL,hLd⟩
 ·obtain⟨o,es,n,h1,h2⟩:=D b hb
  exact⟨o,es,n,st b o h1,h2⟩
theorem mr{G:Gx}{σ:SS}{K:SV→SS→Prop}{f:Addr}{i:aJ}{n:Nat}{xs:List SV}(hi:aQ f G.T.fns=some i)(hn:G.n=n+1)(h1:av i.ps.length (xs.length+i.ds.length)=true)(h2:av xs.length i.ps.length=true)
 (hb:bz (G.in n i) i.body ⟨iQ i xs,σ.objs,σ.fa⟩ (vO σ.loc K)):au G (.ref f) xs σ K:=by
 intro c ρ s vs a r
 have F:=a.tk.fns _ (eg hi)
 obtain⟨oc,od,osl,ho⟩:=F.at_
 obtain⟨m,⟨ls,ad,hL,hnd,g0,gr0,Fr0,N⟩,hloc⟩:=a.R
 have X:=gr0.X
 have hok:=a.ok
 have hlr:=Each.len r
 have hbind:=F.bind s vs (X.keeps Fr0.keep) (hlr▸ao h1) (hlr▸ao h2)
 have hloc':∀y∈i.bind vs,i.scope.names.lookup y.1=some .local:=fun y hy=>of_decide_eq_true (bH.mp F.loc y.1 (Cz hy).1)
 have hfr:=hok.hA (by rw[hn];exact ki _)
 obtain⟨FG,BG,st,lv⟩:=groundX (R:=fun qq qq=>True) gr0.B Fr0 N hfr.1 hfr.2 hok.hk.kind
 refine codeAny_call_def (fd:=i.fd) (body:=i.body) (binds:=i.bind vs) (by have:=hok.hd;exact Om.rR hn this) ((X.keeps Fr0.keep) _ _ ho) rfl (gr0.T.nolimit.keeps Fr0.keep) (codeRec_of (X.keeps Fr0.keep) F.code) rfl hbind F.cell hloc' (fun h₁ hns hk₁=>?_) F.co F.gen F.kind
 let g:=hideAll s.heap ((flat ls++c.X).map (·.1))
 let L':=s.heap.objs.size
 let c':Cx:=⟨c.A.deeper (envOf i.qual i.scope L' f i.cdv),c.A,c.base,g,c.env::c.outer,envOf i.qual i.scope L' f i.cdv,i.scope,L',c.X,c.R⟩
 have ok':Ok G.D c' n:=⟨hok.XB,hok.TB,fun qq=>⟨yl hfr.1,rfl⟩,⟨F.kind,rfl,rfl,rfl,rfl⟩,hok.hh,by
  have:=hok.hd
  show c.A.depth+1+n<_
  exact Om.gH hn this,by
  have:=hok.hu
  show c.A.units+3+8*n+40<_
  exact Om.rS hn this⟩
 have gr':Gr G.D c' g:=⟨BG,X.keeps st,gr0.T.keeps st,sC gr0.D hfr.2 FG st,uV⟩
 have Fl:Fr g L' h₁ (fun y=>(i.bind vs).reverse.lookup y):=⟨hns,fun b o e=>hk₁ b o (of_hideAll _ e),aA (hideAll_size _ _)⟩
 have N':News g L' h₁ (flat ls++c.X):=fun p hp=>⟨hk₁ _ _ (N p hp).1,cU (b4 (N p hp).1),hideAll_none _ (rz hp)⟩
 have hbd:eX G.D ρ (iQ i xs) (fun y=>(i.bind vs).reverse.lookup y):=fun x y e=>by
  unfold aJ.bind
  rw[←hlr]
  exact zC F.nd (Each.app r (aG.zB G.D ρ _)) e
 have a':At (G.in n i) c' ρ ⟨iQ i xs,σ.objs,σ.fa⟩ {s with heap:=h₁,toks:=s.toks+(i.bind vs).length}:=⟨⟨⟨_,⟨ls,ad,hL,hnd,g,gr',Fl,N'⟩,hbd⟩,a.tp.to (bC _ _),a.fa⟩,rfl,ok',a.tk,a.rx,fun x hx=>Om.nm hx,fun qq=>⟨rfl,fun qq=>⟨_,_,_,_,rfl⟩⟩⟩
 refine wpAny_mono (hb c' ρ _ () a' trivial) (fun fl s' z=>?_) fun e s' ⟨_,_,_,_,_,z⟩=>z.elim
 obtain⟨ρ',σ',x,p,⟨⟨m',⟨ls',ad',hL',hnd',g1,gr1,F',N''⟩,_⟩,htp,hfa⟩,fr,k⟩:=z
 obtain⟨h₀',T1,F2,N2,B2⟩:=turn_leave gr0.B hfr.2 FG st gr1.t F' N''
 have R2:RepS G.D c ρ' ⟨σ.loc,σ'.objs,σ'.fa⟩ s':=⟨⟨m,⟨ls',ad',hL',hnd',h₀',⟨B2,hok.XB.keeps B2.stays,hok.TB.keeps B2.stays,uD gr0.D T1,gr0.t.trans T1⟩,F2,N2⟩,hloc.mono p⟩,htp,hfa⟩
 cases x with
 |ret x=>obtain⟨v,rfl,q⟩:=fr;exact⟨ρ',_,x,p,R2,q,k⟩
 |next=>obtain rfl:=fr;exact⟨ρ',_,.none,p,R2,rfl,k⟩
 |_=>exact k.elim
theorem bE.in{G:Gx}(h:bE G)(n:Nat)(i:aJ):bE (G.in n i):=⟨h.con,h.bl,fun x hx=>Om.nm hx,fun x hx=>Om.nm hx,fun qq qq qq h=>h⟩
section
variable{G:Gx}{σ:SS}{K:SV→SS→Prop}{i:Nat}{C:Addr}{fs:List (Str×SV)}{ci:CI}{nm:Str}{args:List Expr}{pos:Pos}
noncomputable abbrev c5 (ts:List Expr):Prop:=∀t∈ts,∀r env,starEach (t::r) env=(false,eval t env)::starEach r env
theorem jM.s{ts:List Expr}(h:jM ts):c5 ts:=fun t ht=>(h t ht).star
theorem plain_any{pos:Pos}{env:Env}{l:List Expr}(h:c5 l):(backTo pos (starEach l env)).any (·.1)=false:=by
 induction l with
 |nil=>rfl
 |cons e r ih=>
  rw[h e (.head _)]
  show(false||(backTo pos (starEach r env)).any (·.1))=false
  rw[ih fun t ht=>h t (.tail _ ht)];rfl
theorem plain_all{pos:Pos}{env:Env}{l:List Expr}(h:c5 l):(backTo pos (starEach l env)).all (!·.1)=true:=by
 induction l with
 |nil=>rfl
 |cons e r ih=>
  rw[h e (.head _)]
  show(true&&(backTo pos (starEach r env)).all (!·.1))=true
  rw[ih fun t ht=>h t (.tail _ ht)];rfl
structure Way (G:Gx) (c:Cx) (ρ:List Addr) (f:Value) (H:Shared→Prop):Prop where
 w0:∀{pos:Pos} {first:List Value} {Q:Value→Shared→Prop} {E:Value→Shared→Prop} {s:Shared},H s→wpAny G.D.M c.A (iJ f (first++[]) []) Q E s→wpAny G.D.M c.A (callWith pos f first [] []) Q E s
 w1:∀{pos:Pos} {first:List Value} {Q:Value→Shared→Prop} {E:Value→Shared→Prop} {s:Shared} {e:Expr} {r:List Expr},H s→c5 (e::r)→wpAny G.D.M c.A (spliced (backTo pos (starEach (e::r) c.env))) (fun vs s'=>H s'∧wpAny G.D.M c.A (iJ f (first++vs) []) Q E s') E s→wpAny G.D.M c.A (callWith pos f first (backTo pos (starEach (e::r) c.env)) []) Q E s
theorem zD{c:Cx}{ρ ρ₀:List Addr}{s:Shared}{f:Value}{first:List Value}{xs:List SV}{H:Shared→Prop}(W:Way G c ρ f H)(hp:c5 args)(a:At G c ρ σ s)(hH:H s)(p:ρ₀<+:ρ)(r:aG G.D ρ xs first)
 {L:List SV→SS→Prop} (h:c7 G args σ L) (k:∀ρ' σ' ys vs s',At G c ρ' σ' s'→ρ₀<+:ρ'→ρ<+:ρ'→aG G.D ρ' (xs++ys) vs→L ys σ'→H s'∧wpAny G.D.M c.A (iJ f vs []) (PE G c ρ₀ K) (PX G c ρ₀) s'):wpAny G.D.M c.A (callWith pos f first (backTo pos (starEach args c.env)) []) (PE G c ρ₀ K) (PX G c ρ₀) s:=by
 cases args with
 |nil=>
  refine W.w0 hH ?_
  exact wpAny_bind (f:=fun vs=>iJ f (first++vs)) (m:=spliced (backTo pos (starEach [] c.env))) (h.go (w:=pos) a p trivial fun ρ' σ' ys vs s' p' p'' a' q z=>(k ρ' σ' ys _ s' a' p' p'' (Each.app (aG.mono p'' r) q) z).2)
 |cons e rest=>exact W.w1 hH hp (h.go (w:=pos) a p trivial fun ρ' σ' ys vs s' p' p'' a' q z=>k ρ' σ' ys _ s' a' p' p'' (Each.app (aG.mono p'' r) q) z)
theorem E1{c:Cx}{ρ:List Addr}{f:Addr}(hk:keepIn G.D.K (.ref f)=true):Way G c ρ (.ref f) fun s=>G.D.K.In s.heap where
 w0:=fun X h=>callWith_K0 (env:=c.env) X hk h
 w1:=fun X hp h=>callWith_K X hk h (hp _ (.head _) _ _) (plain_any fun t ht=>hp t (.tail _ ht))
theorem vP{c:Cx}{ρ ρ₀:List Addr}{s:Shared}{f:Addr}{first:List Value}{xs:List SV}(hk:keepIn G.D.K (.ref f)=true)(hp:c5 args)(a:At G c ρ σ s)(p:ρ₀<+:ρ)(r:aG G.D ρ xs first)
 (h:c7 G args σ fun ys σ₁=>au G (.ref f) (xs++ys) σ₁ K):wpAny G.D.M c.A (callWith pos (.ref f) first (backTo pos (starEach args c.env)) []) (PE G c ρ₀ K) (PX G c ρ₀) s:=
 zD (E1 hk) hp a a.X p r h fun ρ' σ' ys vs s' a' p' qq q z=>⟨a'.X,z.call a' p' q⟩
end
end
end Ex
end
section
namespace Ex
noncomputable section
noncomputable def kI (k:Nat) (x:SV):Bool:=match x with
 |.obj i=>cW i k
 |_=>true
noncomputable def kJ (k:Nat) (o:SO):Bool:=match o with
 |.inst _ fs=>fs.all fun p=>kI k p.2
 |.dict fs=>fs.all fun p=>kI k p.2
 |.bJ fs=>fs.all fun p=>kI k p.2
 |.list _ xs=>xs.all (kI k)
 |.tup xs=>xs.all (kI k)
 |.bX _ x=>kI k x
 |.gone=>true
 |_=>false
noncomputable abbrev Wd.no (W:Wd):Wd:={W with bl:=fun qq qq qq=>False}
section
variable{W:Wd}{ρ:List Addr}{k:Nat}
theorem VR.take{x:SV}{v:Value}(h:kI k x=true)(r:VR W ρ x v):VR W.no (ρ.take k) x v:=by
 cases x with
 |obj i=>exact r.imp fun a r=>⟨by rw[ya (ao h)];exact r.1,r.2⟩
 |_=>exact r
theorem Each.eB{α β:Type}{R R':α→β→Prop}{p:α→Bool}{xs:List α}{ys:List β}(h:xs.all p=true)(f:∀x y,p x=true→R x y→R' x y)(r:Each R xs ys):Each R' xs ys:=by
 induction r with
 |nil=>exact .nil
 |cons a _ ih=>
  rw[nD,aY] at h
  exact .cons (f _ _ h.1 a) (ih h.2)
theorem OR.take{X:List (Addr×Obj)}{a:Addr}{o:SO}{l:List (Addr×Obj)}(h:kJ k o=true)(r:OR W X ρ a o l):OR W.no [] (ρ.take k) a o l:=by
 cases o with
 |inst C fs=>obtain⟨a,b,c,d,f⟩:=r;exact⟨a,b,c,d,Each.eB h (fun qq qq p q=>⟨q.key,q.hash,q.val.take p⟩) f⟩
 |dict fs=>obtain⟨a,b,c,d,f⟩:=r;exact⟨a,b,c,d,Each.eB h (fun qq qq p q=>⟨q.k,q.v.take p⟩) f⟩
 |bJ fs=>obtain⟨a,b,c,d,f⟩:=r;exact⟨a,b,c,d,Each.eB h (fun qq qq p q=>⟨q.k,q.v.take p⟩) f⟩
 |list p xs=>obtain⟨a,b,c,d,q,f⟩:=r;exact⟨a,b,c,d,q,Each.eB h (fun qq qq p q=>q.take p) f⟩
 |tup xs=>obtain⟨a,b,d,f⟩:=r;exact⟨a,b,d,Each.eB h (fun qq qq p q=>q.take p) f⟩
 |bX f x=>obtain⟨a,b,f⟩:=r;exact⟨a,b,f.take h⟩
 |gone=>exact r
 |_=>cases h
theorem VR.wd{x:SV}{v:Value}(r:VR W.no ρ x v):VR W ρ x v:=by cases x<;>exact r
theorem OR.wd{X:List (Addr×Obj)}{a:Addr}{o:SO}{l:List (Addr×Obj)}(r:OR W.no [] ρ a o l):OR W X ρ a o l:=by
 cases o with
 |blob=>exact r.elim
 |eT fs=>obtain⟨_,_,_,m,_⟩:=r;cases m
 |inst C fs=>obtain⟨a,b,c,d,f⟩:=r;exact⟨a,b,c,d,Each.mono (fun qq qq q=>⟨q.key,q.hash,q.val.wd⟩) f⟩
 |dict fs=>obtain⟨a,b,c,d,f⟩:=r;exact⟨a,b,c,d,Each.mono (fun qq qq q=>⟨q.k,q.v.wd⟩) f⟩
 |bJ fs=>obtain⟨a,b,c,d,f⟩:=r;exact⟨a,b,c,d,Each.mono (fun qq qq q=>⟨q.k,q.v.wd⟩) f⟩
 |list p xs=>obtain⟨a,b,c,d,q,f⟩:=r;exact⟨a,b,c,d,q,Each.mono (fun qq qq q=>q.wd) f⟩
 |tup xs=>obtain⟨a,b,d,f⟩:=r;exact⟨a,b,d,Each.mono (fun qq qq q=>q.wd) f⟩
 |bX f x=>obtain⟨a,b,f⟩:=r;exact⟨a,b,f.wd⟩
 |cell x=>obtain⟨a,b,c,d,q⟩:=r;cases x with
  |none=>exact⟨a,b,c,d,q⟩
  |some x=>exact⟨a,b,c,d,q.imp fun qq h=>⟨h.1,h.2.wd⟩⟩
 |gone=>exact r
end
theorem Each.zE{α β:Type}{R:α→β→Prop}{xs:List α}{ys:List β}(r:Each R xs ys)(k:Nat):Each R (xs.take k) (ys.take k):=by
 induction r generalizing k with
 |nil=>rw[List.take_nil,List.take_nil];exact .nil
 |cons a _ ih=>cases k with
  |zero=>exact .nil
  |succ k=>exact .cons a (ih k)
inductive nV (MM:eO→List SO→Prop) (W:Wd) (b:eO) (a:Addr) (l:List (Addr×Obj)):Prop
 |mk (osi:List SO) (lsi:List Cl) (L:LR W.no [] (lsi.map aN) osi lsi) (e:flat lsi=l) (h0:(lsi.map aN)[0]? =some a) (m:MM b osi)
theorem E2(ls:List Cl)(k:Nat):(flat (ls.take k)).Sublist (flat ls):=by
 conv=>rhs;rw[←gB k ls]
 rw[flat,flat,nB]
 exact afb _ _
section
variable{MM:eO→List SO→Prop}{G:Gx}{σ:SS}{K:SV→SS→Prop}{f:Value}{i:Nat}{b:eO}{ys:List SV}
noncomputable def Gx.bb (G:Gx):Gx:=⟨G.D,G.T,G.n,G.cs,fun qq qq qq=>False,G.cons,[],[],[],false⟩
theorem bE.bb{G:Gx}(h:bE G):bE G.bb:=⟨h.con,h.bl,fun x hx=>Om.nm hx,fun x hx=>Om.nm hx,fun qq qq qq h=>h⟩
noncomputable def bZ (x:SV):Bool:=match x with
 |.obj _=>false
 |_=>true
theorem VR.any{W:Wd}{ρ ρ':List Addr}{x:SV}{v:Value}(h:bZ x=true)(r:VR W ρ x v):VR W ρ' x v:=by
 cases x with
 |obj=>cases h
 |_=>exact r
inductive sD (MM:eO→List SO→Prop) (G:Gx) (σ:SS) (i:Nat) (K:SV→SS→Prop) (loc:List (Str×SV)) (x:SV) (σ':SS):Prop
 |mk (b':eO) (k:Nat) (y:SV) (e:σ'.loc=loc) (m:MM b' (σ'.objs.list.take k)) (h:(σ'.objs.list.take k).all (kJ k)=true) (h0:0<k) (r:(∀f∈σ'.fa,f.ok G.D.η)→∀ρ ρ' v,VR G.D ρ x v→VR G.D ρ' y v) (z:(∀f∈σ'.fa,f.ok G.D.η)→K y ⟨σ.loc,OL.s σ.objs i (.blob b'),σ'.fa⟩)
noncomputable def gc (m:Str→Option Value) (loc:List (Str×SV)):List (Str×SV):=loc.map fun p=>(p.1,.val ((m p.1).getD .none))
theorem jN{m:Str→Option Value}{x:Str}{y:SV}:∀{loc:List (Str×SV)},lk x loc=some y→lk x (gc m loc)=some (.val ((m x).getD .none)):=@fun loc=>by
 induction loc with
 |nil=>exact fun h=>by cases h
 |cons p r ih=>
  intro h
  obtain⟨n,w⟩:=p
  rw[b6] at h
  show lk x ((n,_)::gc m r)=_
  rw[b6]
  by_cases e:x=n
  ·rw[if_pos e,e]
  ·rw[if_neg e] at h⊢;exact ih h
theorem sE{m:Str→Option Value}{x:Str}{y:SV}:∀{loc:List (Str×SV)},lk x (gc m loc)=some y→∃z,lk x loc=some z:=@fun loc=>by
 induction loc with
 |nil=>exact fun h=>by cases h
 |cons p r ih=>
  intro h
  obtain⟨n,w⟩:=p
  rw[b6]
  have h':lk x ((n,.val ((m n).getD .none))::gc m r)=some y:=h
  rw[b6] at h'
  by_cases e:x=n
  ·rw[if_pos e];exact⟨_,rfl⟩
  ·rw[if_neg e] at h'⊢;exact ih h'
noncomputable abbrev Cx.X0 (c:Cx) (X:List (Addr×Obj)):Cx:={c with X:=X}
theorem RepS.perm{D:Wd}{c:Cx}{ρ:List Addr}{σ:SS}{s:Shared}{X X':List (Addr×Obj)}(pm:X.Perm X')(R:RepS D (c.X0 X) ρ σ s):RepS D (c.X0 X') ρ σ s:=by
 obtain⟨⟨m,⟨ls,ad,l1,l2,g,gr,F,N⟩,hl⟩,tp,fa⟩:=R
 have q:=ru (flat ls) pm
 exact⟨⟨m,⟨ls,ad,l1,(q.map aN).nodup_iff.mp l2,g,gr,F,fun p hp=>N p (q.symm.subset hp)⟩,hl⟩,tp,fa⟩
theorem nW{A B:List Cl}{b:Addr}{l:List (Addr×Obj)}:flat (A++(b,l)::B)=flat A++(l++flat B):=by simp[flat]
theorem RepS.out{D:Wd}{c:Cx}{ρ:List Addr}{σ:SS}{s:Shared}{t:Nat}{zs:List SV}{a:Addr}(R:RepS D c ρ σ s)(ho:σ.objs.list[t]? =some (.tup zs))(ha:ρ[t]? =some a):
 ∃vs n,aG D ρ zs vs∧RepS D (c.X0 ((a,iK (vs:List Value).toArray n)::c.X)) ρ ⟨σ.loc,OL.s σ.objs t .gone,σ.fa⟩ s:=by
 obtain⟨⟨m,⟨ls,ad,l1,l2,g,gr,F,N⟩,hl⟩,tp,fa⟩:=R
 obtain⟨A,⟨y1,y2⟩,B,hA,rfl,r,st⟩:=Each.at l1 ho
 obtain rfl:y1=a:=by
  rw[←ad,cy,fj (by simp[hA])] at ha
  simpa[hA] using ha
 obtain⟨vs,n,e,f⟩:=r
 have e':y2=[(y1,iK (vs:List Value).toArray n)]:=e
 subst e'
 have pm:(flat (A++(y1,[(y1,iK (vs:List Value).toArray n)])::B)++c.X).Perm (flat (A++(y1,[])::B)++((y1,iK (vs:List Value).toArray n)::c.X)):=by
  rw[nW,nW,pH,bD,bD,bD]
  exact ru _ (iH (a:=(y1,iK (vs:List Value).toArray n)) (l₁:=flat B) (l₂:=c.X)).symm
 exact⟨vs,n,f,⟨m,⟨A++(y1,[])::B,by rw[←ad];simp,st .gone (y1,[]) rfl,(pm.map aN).nodup_iff.mp l2,g,gr,F,fun p hp=>N p (pm.symm.subset hp)⟩,hl⟩,tp,fa⟩
theorem RepS.into{D:Wd}{c:Cx}{ρ:List Addr}{σ:SS}{s:Shared}{x:SO}{a:Addr}{o:Obj}(R:RepS D (c.X0 ((a,o)::c.X)) ρ σ s)(hx:OR D c.R (ρ++[a]) a x [(a,o)]):RepS D c (ρ++[a]) ⟨σ.loc,OL.a σ.objs x,σ.fa⟩ s:=by
 obtain⟨⟨m,⟨ls,ad,l1,l2,g,gr,F,N⟩,hl⟩,tp,fa⟩:=R
 have pm:(flat ls++((a,o)::c.X)).Perm (flat (ls++[(a,[(a,o)])])++c.X):=by
  rw[flat,flat,nB,bD];exact List.Perm.refl _
 exact⟨⟨m,⟨ls++[(a,[(a,o)])],by rw[←ad];simp,(show LR D c.R _ (snoc σ.objs.list x) _ from eW σ.objs.list x▸(LR.mono (cu _ _) l1).app (.one hx)),(pm.map aN).nodup_iff.mp l2,g,gr,F,fun p hp=>N p (pm.symm.subset hp)⟩,hl.mono (cu _ _)⟩,tp,fa⟩
inductive SP (MM:eO→List SO→Prop) (G:Gx) (c:Cx) (ρ:List Addr) (σ:SS) (s:Shared) (i:Nat) (b:eO):Prop
 |mk (osi:List SO) (ρi:List Addr) (F:List (Addr×Obj)) (loc:List (Str×SV)) (m:MM b osi) (at_:At G.bb (c.X0 (F++c.X)) ρi ⟨loc,.b osi,σ.fa⟩ s) (h0:ρi[0]? =ρ[i]?)
  (cl:∀X ρ' σ' s' k b',RepS G.D (c.X0 (F++X)) ρ' σ' s'→ρi<+:ρ'→σ'.loc=loc→MM b' (σ'.objs.list.take k)→(σ'.objs.list.take k).all (kJ k)=true→0<k→RepS G.D (c.X0 X) ρ ⟨σ.loc,OL.s σ.objs i (.blob b'),σ'.fa⟩ s')
theorem At.zF{c:Cx}{ρ:List Addr}{s:Shared}(hb:∀b a l,G.D.bl b a l↔nV MM G.D b a l)(hi:σ.objs.list[i]? =some (.blob b))(a:At G c ρ σ s):SP MM G c ρ σ s i b:=by
 obtain⟨⟨m,⟨ls,ad,l1,l2,g,gr,F,N⟩,hl⟩,tp,fa⟩:=a.toRepS
 obtain⟨A,y,B,hA,rfl,r,st⟩:=Each.at l1 hi
 obtain⟨y1,y2⟩:=y
 have ha0:ρ[i]? =some y1:=by
  rw[←ad,cy,fj (by simp[hA])]
  simp[hA]
 obtain⟨osi,lsi,L,e,h0,hm⟩:=(hb _ _ _).mp r
 obtain rfl:flat lsi=y2:=e
 have fm:∀l X:List (Addr×Obj),(flat (A++(y1,l)::B)++X).Perm (l++((flat A++flat B)++X)):=fun l X=>by
  rw[nW,←bD l]
  exact JP _ (pA _ _ _)
 refine⟨osi,lsi.map aN,flat A++flat B,gc m σ.loc,hm,⟨⟨⟨m,⟨lsi,rfl,Each.mono (fun qq qq r=>r.wd) L,((fm _ _).map aN).nodup_iff.mp l2,g,gr,F,fun p hp=>N p ((fm _ _).symm.subset hp)⟩,fun x z q=>?_⟩,tp,fa⟩,a.cs,⟨a.ok.XB,a.ok.TB,a.ok.hA,a.ok.hk,a.ok.hh,a.ok.hd,a.ok.hu⟩,a.tk,fun p hp=>bF _ (a.rx p hp),fun x hx=>Om.nm hx,fun h=>Om.nb h⟩,h0.trans ha0.symm,fun X ρ' σ' s' k b' R p e hm' hbe hk0=>?_⟩
 ·obtain⟨w,hw⟩:=sE q
  obtain⟨u,h1,h2⟩:=hl x w hw
  rw[jN hw,h1] at q
  cases q
  exact⟨u,h1,rfl⟩
 ·obtain⟨⟨m2,⟨ls2,ad2,l3,nd2,g2,gr2,F2,N2⟩,hl2⟩,tp2,fa2⟩:=R
  subst ad2
  have h0':((ls2.take k).map aN)[0]? =some y1:=by
   rw[Ks,ya hk0];exact cN p h0
  have hO:OR G.D c.R ρ y1 (.blob b') (flat (ls2.take k)):=(hb _ _ _).mpr ⟨σ'.objs.list.take k,ls2.take k,by
   rw[Ks]
   exact Each.eB hbe (fun qq qq q r=>OR.take q r) (Each.zE l3 k),rfl,h0',hm'⟩
  have sl:(flat (ls2.take k)++((flat A++flat B)++X)).Sublist (flat ls2++((flat A++flat B)++X)):=(E2 ls2 k).append (jy _)
  refine⟨⟨m2,⟨A++(y1,flat (ls2.take k))::B,by rw[←ad];simp,st (.blob b') (y1,_) hO,((fm _ _).map aN).nodup_iff.mpr ((sl.map aN).nodup nd2),g2,gr2,F2,fun p hp=>N2 p (sl.subset ((fm _ _).subset hp))⟩,fun x z q=>?_⟩,tp2,fa2⟩
  obtain⟨u,h1,h2⟩:=hl x z q
  have q2:=jN (m:=m) q
  rw[←e] at q2
  obtain⟨u',h3,h4⟩:=hl2 x _ q2
  rw[h1] at h4
  obtain rfl:u'=u:=h4
  exact⟨u',h3,h2⟩
theorem jO{M:Model}{A:Around}{f:Value}{vs:List Value}{s:Shared}{Q Q':Value→Shared→Prop}{E E':Value→Shared→Prop}(h:codeAny M A (.call f ⟨vs,[]⟩) (fun r s'=>match r with
 |.ok (.ret v)=>Q v s'
 |.ok _=>False
 |.error e=>E e s') s) (k:∀v s',Q v s'→Q' v s') (x:∀e s',E e s'→E' e s'):codeAny M A (.call f ⟨vs,[]⟩) (fun r s'=>match r with
 |.ok (.ret v)=>Q' v s'
 |.ok _=>False
 |.error e=>E' e s') s:=codeAny_mono h fun r' s' z=>by
 rcases r' with e|(_|_|_|v)
 ·exact x _ _ z
 ·exact z
 ·exact z
 ·exact z
 ·exact k _ _ z
theorem sF{G:Gx}{c c':Cx}{ρ ρ':List Addr}{e:Value}{s:Shared}(h:PX G.bb c ρ e s):PX G c' ρ' e s:=let⟨_,_,_,_,_,k⟩:=h;k.elim
theorem E3(hb:∀b a l,G.D.bl b a l↔nV MM G.D b a l)(hi:σ.objs.list[i]? =some (.blob b))(hys:ys.all bZ=true)
 (h:∀loc osi,MM b osi→au G.bb f (.obj 0::ys) ⟨loc,.b osi,σ.fa⟩ (sD MM G σ i K loc)):au G f (.obj i::ys) σ K:=by
 intro c ρ s vs a r
 cases r using Each.ec with
 |@cons v0 vs r rs=>
 obtain⟨a0,ha0,rfl⟩:=r
 obtain⟨osi,ρi,F,loc,hm,a',h0,cl⟩:=a.zF hb hi
 refine jO (h loc osi hm (c.X0 (F++c.X)) ρi s (.ref a0::vs) a' (.cons ⟨a0,h0.trans ha0,rfl⟩ (Each.eB hys (fun qq qq p q=>q.any p) rs))) (fun v s' z=>?_) fun e s' z=>sF z
 obtain⟨ρ',σ',x,p,R,hv,⟨b',k,y,e,hm',hbe,hk0,hr,hz⟩⟩:=z
 exact⟨ρ,⟨σ.loc,OL.s σ.objs i (.blob b'),σ'.fa⟩,y,pr _,cl c.X ρ' σ' s' k b' R p e hm' hbe hk0,hr R.fa _ _ _ hv,hz R.fa⟩
theorem SQ{t:Nat}{zs:List SV}(hb:∀b a l,G.D.bl b a l↔nV MM G.D b a l)(hi:σ.objs.list[i]? =some (.blob b))(ht:σ.objs.list[t]? =some (.tup zs))(hzs:zs.all bZ=true)(hys:ys.all bZ=true)
 (h:∀loc osi,MM b osi→au G.bb f (.obj 0::.obj osi.length::ys) ⟨loc,.a (.b osi) (.tup zs),σ.fa⟩ (sD MM G ⟨σ.loc,OL.s σ.objs t .gone,σ.fa⟩ i K loc)):au G f (.obj i::.obj t::ys) σ K:=by
 intro c ρ s vs a r
 cases r using Each.ec with
 |cons r rs=>
 cases rs using Each.ec with
 |cons r' rs=>
 obtain⟨a0,ha0,rfl⟩:=r
 obtain⟨a1,ha1,rfl⟩:=r'
 obtain⟨us,n,hus,R1⟩:=a.toRepS.out ht ha1
 have hit:i≠t:=fun e=>by rw[e,ht] at hi;cases hi
 have at1:At G (c.X0 ((a1,iK (us:List Value).toArray n)::c.X)) ρ ⟨σ.loc,OL.s σ.objs t .gone,σ.fa⟩ s:=⟨R1,a.cs,⟨a.ok.XB,a.ok.TB,a.ok.hA,a.ok.hk,a.ok.hh,a.ok.hd,a.ok.hu⟩,a.tk,fun p hp=>.tail _ (a.rx p hp),a.cv,a.hf⟩
 obtain⟨osi,ρi,F,loc,hm,a',h0,cl⟩:=at1.zF (MM:=MM) (i:=i) (b:=b) hb (by show(aL σ.objs.list t .gone)[i]? =_;rw[kE,if_neg hit];exact hi)
 have R2:=(RepS.perm (c:=c) (X:=F++((a1,iK (us:List Value).toArray n)::c.X)) (X':=(a1,iK (us:List Value).toArray n)::(F++c.X)) iH a'.toRepS)
 have R3:=RepS.into (c:=c.X0 (F++c.X)) (x:=.tup zs) R2 (pR.mk us n rfl (Each.eB hzs (fun qq qq p q=>q.any p) hus))
 have a2:At G.bb (c.X0 (F++c.X)) (ρi++[a1]) ⟨loc,.a (.b osi) (.tup zs),σ.fa⟩ s:=⟨R3,a.cs,⟨a.ok.XB,a.ok.TB,a.ok.hA,a.ok.hk,a.ok.hh,a.ok.hd,a.ok.hu⟩,a.tk,fun p hp=>bF _ (a.rx p hp),fun x hx=>Om.nm hx,fun h=>Om.nb h⟩
 have hl:(ρi++[a1])[osi.length]? =some a1:=(let⟨_,l,_⟩:=a'.R;Led.end (t:=.b osi) l a1)
 refine jO (h loc osi hm (c.X0 (F++c.X)) (ρi++[a1]) s (.ref a0::.ref a1::_) a2 (.cons ⟨a0,cN (cu _ _) (h0.trans ha0),rfl⟩ (.cons ⟨a1,hl,rfl⟩ (Each.eB hys (fun qq qq p q=>q.any p) rs)))) (fun v s' z=>?_) fun e s' z=>sF z
 obtain⟨ρ',σ',x,p,R,hv,⟨b',k,y,e,hm',hbe,hk0,hr,hz⟩⟩:=z
 exact⟨ρ,⟨σ.loc,OL.s (OL.s σ.objs t .gone) i (.blob b'),σ'.fa⟩,y,pr _,cl c.X ρ' σ' s' k b' R ((cu _ _).trans p) e hm' hbe hk0,hr R.fa _ _ _ hv,hz R.fa⟩
inductive SR (MM:eO→List SO→Prop) (G:Gx) (σ:SS) (i:Nat) (K:SV→SS→Prop) (loc:List (Str×SV)) (x:SV) (σ':SS):Prop
 |mk (b':eO) (k p:Nat) (zs ws:List SV) (e:σ'.loc=loc) (m:MM b' (σ'.objs.list.take k)) (h:(σ'.objs.list.take k).all (kJ k)=true) (h0:0<k) (hp:k≤p) (x:x=.obj p) (o:σ'.objs.list[p]? =some (.tup zs)) (r:(∀f∈σ'.fa,f.ok G.D.η)→∀ρ ρ' vs,aG G.D ρ zs vs→aG G.D ρ' ws vs)
  (z:(∀f∈σ'.fa,f.ok G.D.η)→K (.obj σ.objs.length) ⟨σ.loc,OL.a (OL.s σ.objs i (.blob b')) (.tup ws),σ'.fa⟩)
theorem SW(hb:∀b a l,G.D.bl b a l↔nV MM G.D b a l)(hi:σ.objs.list[i]? =some (.blob b))(hys:ys.all bZ=true)
 (h:∀loc osi,MM b osi→au G.bb f (.obj 0::ys) ⟨loc,.b osi,σ.fa⟩ (SR MM G σ i K loc)):au G f (.obj i::ys) σ K:=by
 intro c ρ s vs a r
 cases r using Each.ec with
 |@cons v0 vs r rs=>
 obtain⟨a0,ha0,rfl⟩:=r
 obtain⟨osi,ρi,F,loc,hm,a',h0,cl⟩:=a.zF hb hi
 refine jO (h loc osi hm (c.X0 (F++c.X)) ρi s (.ref a0::vs) a' (.cons ⟨a0,h0.trans ha0,rfl⟩ (Each.eB hys (fun qq qq p q=>q.any p) rs))) (fun v s' z=>?_) fun e s' z=>sF z
 obtain⟨ρ',σ',x,p,R,hv,⟨b',k,q,zs,ws,e,hm',hbe,hk0,hp,ex,ho,hr,hz⟩⟩:=z
 subst ex
 obtain⟨a1,ha1,rfl⟩:=hv
 obtain⟨us,n,hus,R1⟩:=R.out ho ha1
 have R2:=RepS.perm (c:=c) (X:=(a1,iK (us:List Value).toArray n)::(F++c.X)) (X':=F++((a1,iK (us:List Value).toArray n)::c.X)) iH.symm R1
 have et:(aL σ'.objs.list q SO.gone).take k=σ'.objs.list.take k:=List.ext_getElem? fun j=>by
  rw[List.getElem?_take,List.getElem?_take,kE]
  by_cases hj:j<k
  ·rw[if_pos hj,if_pos hj,if_neg (by exact Om.Lv hp hj)]
  ·rw[if_neg hj,if_neg hj]
 have R3:=cl ((a1,iK (us:List Value).toArray n)::c.X) ρ' ⟨σ'.loc,OL.s σ'.objs q .gone,σ'.fa⟩ s' k b' R2 p e (by show MM b' ((aL σ'.objs.list q SO.gone).take k);rw[et];exact hm') (by show((aL σ'.objs.list q SO.gone).take k).all _=_;rw[et];exact hbe) hk0
 refine⟨ρ++[a1],_,.obj σ.objs.length,cu _ _,RepS.into (x:=.tup ws) R3 (pR.mk us n rfl (hr R.fa _ _ _ hus)),⟨a1,(let⟨_,l,_⟩:=a.R;l.end a1),rfl⟩,hz R.fa⟩
theorem Each.split{α β:Type}{R:α→β→Prop}{xs ys:List α}{zs:List β}(h:Each R (xs++ys) zs):∃A B,zs=A++B∧Each R xs A∧Each R ys B:=by
 induction xs generalizing zs with
 |nil=>exact⟨[],zs,rfl,.nil,h⟩
 |cons x xs ih=>
  cases h using Each.ec with
  |@cons y zs h t=>
   obtain⟨A,B,e,a,b⟩:=ih t
   exact⟨y::A,B,congrArg _ e,.cons h a,b⟩
theorem VR.eB{W:Wd}{ρ:List Addr}{k:Nat}{x:SV}{v:Value}(h:kI k x=true)(r:VR W ρ x v):VR W (ρ.take k) x v:=(VR.take h r).wd
theorem SX{os X:List SO}(hos:σ.objs.list=os++X)(hb:os.all (kJ os.length)=true)(hys:ys.all (kI os.length)=true)
 (h:∀loc,au G.bb f ys ⟨loc,.b os,σ.fa⟩ fun x σ'=>σ'.loc=loc∧bZ x=true∧∃os',os'.length=os.length∧σ'.objs.list.take os.length=os'∧os'.all (kJ os.length)=true∧((∀f∈σ'.fa,f.ok G.D.η)→K x ⟨σ.loc,.b (os'++X),σ'.fa⟩)):au G f ys σ K:=by
 intro c ρ s vs a r
 obtain⟨⟨m,⟨ls,ad,l1,l2,g,gr,F,N⟩,hl⟩,tp,fa⟩:=a.toRepS
 rw[hos] at l1
 obtain⟨A,B,rfl,lA,lB⟩:=Each.split l1
 have hlen:A.length=os.length:=(Each.len lA).symm
 have hta:ρ.take os.length=A.map aN:=by rw[←ad,cy,←hlen,←gE (f:=aN),rI]
 have fa2:∀Y:List (Addr×Obj),flat (A++B)++Y=flat A++(flat B++Y):=fun Y=>by simp[flat]
 have a':At G.bb (c.X0 (flat B++c.X)) (ρ.take os.length) ⟨gc m σ.loc,.b os,σ.fa⟩ s:=⟨⟨⟨m,⟨A,hta.symm,Each.eB hb (fun qq qq p q=>OR.wd (OR.take p q)) lA,fa2 _▸l2,g,gr,F,fa2 _▸N⟩,fun x z q=>by
  obtain⟨w,hw⟩:=sE q
  obtain⟨u,h1,h2⟩:=hl x w hw
  rw[jN hw,h1] at q
  cases q
  exact⟨u,h1,rfl⟩⟩,tp,fa⟩,a.cs,⟨a.ok.XB,a.ok.TB,a.ok.hA,a.ok.hk,a.ok.hh,a.ok.hd,a.ok.hu⟩,a.tk,fun p hp=>bF _ (a.rx p hp),fun x hx=>Om.nm hx,fun h=>Om.nb h⟩
 refine jO (h (gc m σ.loc) (c.X0 (flat B++c.X)) (ρ.take os.length) s vs a' (Each.eB hys (fun qq qq p q=>q.eB p) r)) (fun v s' z=>?_) fun e s' z=>sF z
 obtain⟨ρ',σ',x,p,⟨⟨m2,⟨ls2,ad2,l3,nd2,g2,gr2,F2,N2⟩,hl2⟩,tp2,fa3⟩,hv,e,hx,os',hlo,hos',hbe,hk⟩:=z
 have hρl:os.length≤ρ.length:=by rw[←ad,gE,bG,hlen];exact bC _ _
 have ht2:ρ'.take os.length=ρ.take os.length:=by
  obtain⟨t,rfl⟩:=p
  rw[List.take_append_of_le_length (by rw[lN,gD hρl];exact az _),Kn,Nat.min_self]
 have l4:=Each.zE l3 os.length
 rw[hos'] at l4
 have l5:LR G.D c.R ρ os' (ls2.take os.length):=Each.eB hbe (fun qq qq p q=>(OR.wd (OR.take p q)).mono (ht2▸List.take_prefix _ _)) l4
 have ad3:(ls2.take os.length++B).map aN=ρ:=by
  rw[cy,Ks,ad2,ht2,hta,←cy,ad]
 have sl:(flat (ls2.take os.length++B)++c.X).Sublist (flat ls2++(flat B++c.X)):=by
  have e:flat (ls2.take os.length++B)++c.X=flat (ls2.take os.length)++(flat B++c.X):=by simp[flat]
  rw[e];exact(E2 ls2 os.length).append (jy _)
 refine⟨ρ,⟨σ.loc,.b (os'++X),σ'.fa⟩,x,pr _,⟨⟨m2,⟨ls2.take os.length++B,ad3,Each.app l5 lB,(sl.map aN).nodup nd2,g2,gr2,F2,fun p hp=>N2 p (sl.subset hp)⟩,fun x z q=>?_⟩,tp2,fa3⟩,hv.any hx,hk fa3⟩
 obtain⟨u,h1,h2⟩:=hl x z q
 have q2:=jN (m:=m) q
 rw[←e] at q2
 obtain⟨u',h3,h4⟩:=hl2 x _ q2
 rw[h1] at h4
 obtain rfl:u'=u:=h4
 exact⟨u',h3,h2⟩
theorem zG(hys:ys.all bZ=true)(h:∀loc,au G.bb f ys ⟨loc,.b [],σ.fa⟩ fun x σ'=>σ'.loc=loc∧bZ x=true∧((∀f∈σ'.fa,f.ok G.D.η)→K x ⟨σ.loc,σ.objs,σ'.fa⟩)):au G f ys σ K:=by
 intro c ρ s vs a r
 obtain⟨⟨m,⟨ls,ad,l1,l2,g,gr,F,N⟩,hl⟩,tp,fa⟩:=a.toRepS
 let c':Cx:={c with X:=flat ls++c.X}
 have a':At G.bb c' [] ⟨gc m σ.loc,.b [],σ.fa⟩ s:=⟨⟨⟨m,⟨[],rfl,.nil,l2,g,gr,F,N⟩,fun x z q=>by
  obtain⟨w,hw⟩:=sE q
  obtain⟨u,h1,h2⟩:=hl x w hw
  rw[jN hw,h1] at q
  cases q
  exact⟨u,h1,rfl⟩⟩,tp,fa⟩,a.cs,⟨a.ok.XB,a.ok.TB,a.ok.hA,a.ok.hk,a.ok.hh,a.ok.hd,a.ok.hu⟩,a.tk,fun p hp=>bF _ (a.rx p hp),fun x hx=>Om.nm hx,fun h=>Om.nb h⟩
 refine codeAny_mono (h (gc m σ.loc) c' _ s vs a' (Each.eB hys (fun qq qq p q=>q.any p) r)) fun r' s' z=>?_
 rcases r' with e|(_|_|_|v)
 ·obtain⟨_,_,_,_,_,k⟩:=z;exact k.elim
 ·exact z.elim
 ·exact z.elim
 ·exact z.elim
 ·obtain⟨ρ',σ',x,p,⟨⟨m2,⟨ls2,ad2,l3,nd2,g2,gr2,F2,N2⟩,hl2⟩,tp2,fa2⟩,hv,e,hx,hk⟩:=z
  have sl:(flat ls++c.X).Sublist (flat ls2++(flat ls++c.X)):=ae9 _ _
  refine⟨ρ,⟨σ.loc,σ.objs,σ'.fa⟩,x,pr _,⟨⟨m2,⟨ls,ad,l1,(sl.map aN).nodup nd2,g2,gr2,F2,fun p hp=>N2 p (sl.subset hp)⟩,fun x z q=>?_⟩,tp2,fa2⟩,hv.any hx,hk fa2⟩
  obtain⟨u,h1,h2⟩:=hl x z q
  have q2:=jN (m:=m) q
  rw[←e] at q2
  obtain⟨u',h3,h4⟩:=hl2 x _ q2
  rw[h1] at h4
  obtain rfl:u'=u:=h4
  exact⟨u',h3,h2⟩
theorem SY{MM:eO→List SO→Prop}(hb:∀b a l,G.D.bl b a l↔nV MM G.D b a l)(hys:ys.all bZ=true)(h:∀loc,au G.bb f ys ⟨loc,.b [],σ.fa⟩ fun x σ'=>σ'.loc=loc∧x=.obj 0∧∃b',MM b' σ'.objs.list∧σ'.objs.list.all (kJ σ'.objs.list.length)=true∧((∀f∈σ'.fa,f.ok G.D.η)→K (.obj σ.objs.length) ⟨σ.loc,OL.a σ.objs (.blob b'),σ'.fa⟩)):au G f ys σ K:=by
 intro c ρ s vs a r
 obtain⟨⟨m,⟨ls,ad,l1,l2,g,gr,F,N⟩,hl⟩,tp,fa⟩:=a.toRepS
 have a':At G.bb (c.X0 (flat ls++c.X)) [] ⟨gc m σ.loc,.b [],σ.fa⟩ s:=⟨⟨⟨m,⟨[],rfl,.nil,l2,g,gr,F,N⟩,fun x z q=>by
  obtain⟨w,hw⟩:=sE q
  obtain⟨u,h1,h2⟩:=hl x w hw
  rw[jN hw,h1] at q
  cases q
  exact⟨u,h1,rfl⟩⟩,tp,fa⟩,a.cs,⟨a.ok.XB,a.ok.TB,a.ok.hA,a.ok.hk,a.ok.hh,a.ok.hd,a.ok.hu⟩,a.tk,fun p hp=>bF _ (a.rx p hp),fun x hx=>Om.nm hx,fun h=>Om.nb h⟩
 refine jO (h (gc m σ.loc) (c.X0 (flat ls++c.X)) [] s vs a' (Each.eB hys (fun qq qq p q=>q.any p) r)) (fun v s' z=>?_) fun e s' z=>sF z
 obtain⟨ρ',σ',x,p,⟨⟨m2,⟨ls2,ad2,l3,nd2,g2,gr2,F2,N2⟩,hl2⟩,tp2,fa2⟩,hv,e,hx,b',hm,hbe,hk⟩:=z
 subst hx
 obtain⟨a0,ha0,rfl⟩:=hv
 have hlen:ls2.length=σ'.objs.list.length:=(Each.len l3).symm
 have pm:(flat (ls++[(a0,flat ls2)])++c.X).Perm (flat ls2++(flat ls++c.X)):=by
  have e:flat (ls++[(a0,flat ls2)])=flat ls++flat ls2:=by simp[flat]
  rw[e,←bD]
  exact JP _ List.perm_append_comm
 have hO:OR G.D c.R (ρ++[a0]) a0 (.blob b') (flat ls2):=(hb _ _ _).mpr ⟨σ'.objs.list,ls2,Each.eB hbe (fun o q p r=>by
  have:=OR.take (k:=σ'.objs.list.length) p r
  rw[←ad2,←hlen,←gE (f:=aN),Cu] at this
  exact this) l3,rfl,by rw[ad2];exact ha0,hm⟩
 refine⟨ρ++[a0],⟨σ.loc,OL.a σ.objs (.blob b'),σ'.fa⟩,.obj σ.objs.length,cu _ _,⟨⟨m2,⟨ls++[(a0,flat ls2)],by rw[←ad];simp,(show LR G.D c.R _ (snoc σ.objs.list (.blob b')) _ from eW σ.objs.list (.blob b')▸(LR.mono (cu _ _) l1).app (.one hO)),(pm.map aN).nodup_iff.mpr nd2,g2,gr2,F2,fun p hp=>N2 p (pm.subset hp)⟩,fun x z q=>?_⟩,tp2,fa2⟩,⟨a0,(let⟨_,l,_⟩:=a.R;l.end a0),rfl⟩,hk fa2⟩
 obtain⟨u,h1,h2⟩:=hl x z q
 have q2:=jN (m:=m) q
 rw[←e] at q2
 obtain⟨u',h3,h4⟩:=hl2 x _ q2
 rw[h1] at h4
 obtain rfl:u'=u:=h4
 exact⟨u',h3,h2.mono (cu _ _)⟩
end
end
end Ex
end
section
namespace Ex
noncomputable section
section
variable{G:Gx}{σ:SS}{K:SV→SS→Prop}{i j:Nat}{C:Addr}{fs:List (Str×SV)}{ci:CI}{nm:Str}{args:List Expr}{pos:Pos}{x y z:SV}
noncomputable def iR (G:Gx) (nm:Str) (args:List Expr) (x:SV) (σ:SS) (K:SV→SS→Prop):Prop:=∀c ρ s v pos pl,At G c ρ σ s→VR G.D ρ x v→
 wpAny G.D.M c.A (getMethod v nm pl) (fun fx s₂=>wpAny G.D.M c.A (callWith pos fx.1 fx.2 (backTo pos (starEach args c.env)) []) (PE G c ρ K) (PX G c ρ) s₂) (PX G c ρ) s
theorem S0{n:Str}{p':Pos}{f:Addr}(hn:lk n G.cs.names=some .globalImplicit)(hg:lk n G.T.dM=some (.ref f))(hf:∀W,TabOk W G.T→keepIn W.K (.ref f)=true)(hp:c5 args)
 (h:c7 G args σ fun ys σ₁=>au G (.ref f) ys σ₁ K):aq G (.Call (.Name n p') args [] pos) σ K:=fun c ρ s qq a qq=>
 Call_ (aK.go (w:=()) (show aq G (.Name n p') σ fun x σ'=>x=.val (.ref f)∧σ'=σ from kH hn hg ⟨rfl,rfl⟩) a (pr _) trivial fun ρ' σ' x v s' p _ a' q ⟨hx,hs⟩=>by
  subst hx hs
  obtain rfl:=q
  exact vP (xs:=[]) (hf _ a'.tk) hp a' p .nil h)
theorem sG{o:Expr}{apos:Pos}(ho:Based o)(hl:aB apos.endLine pos.line=true)(hp:c5 args)(hz:cW args.length 30=true)(h:aq G o σ fun x σ₁=>iR G nm args x σ₁ K):aq G (.Call (.Attribute o nm apos) args [] pos) σ K:=fun c ρ s qq a qq=>by
 have hm:methodCallForm (args.length+0) (backTo pos (starEach args c.env)) []=true:=by
  unfold methodCallForm
  rw[plain_all hp]
  show decide (args.length+0+0<30)=true
  exact decide_eq_true (ao hz)
 refine methodCall_KW (kws:=[]) (pl:=(do return(←importBound o c.env).getD true)) (h.go a (pr _) trivial (w:=()) fun ρ' σ' x v s' p qq a' q k=>?_) ?_
 ·exact wpAny_mono (k c ρ' s' v pos _ a' q) (fun fx s₂ z=>wpAny_mono z (fun qq qq z=>z.mono p) fun qq qq z=>PX.mono p z) fun qq qq z=>PX.mono p z
 ·show(do
   let ov ←attributeBase o nm c.env (eval o c.env)
   standAt apos.atName
   methodCall o nm apos pos c.env ov (args.length+0) (backTo pos (starEach args c.env)) [])=_
  rw[ho]
  congr 1
  funext ov
  congr 1
  funext _
  unfold methodCall
  rw[hm]
  show(do
   let(f,first)←holding [ov] (calleeOf true o c.env ov nm)
   let callPos ←methodCallPos true o c.env apos pos
   callWith callPos f first (backTo pos (starEach args c.env)) [])=_
  have e:methodCallPos true o c.env apos pos=pure pos:=by
   unfold methodCallPos
   rw[bh hl,beq_self_eq_true];rfl
  rw[e]
  rfl
theorem S1{f:Addr}(ho:σ.objs.list[i]? =some (.inst C fs))(hc:aQ C G.T.cls=some ci)(hm:lk nm ci.fM=some f)(hl:lk nm fs=af)(hp:c5 args)
 (h:c7 G args σ fun ys σ₁=>au G (.ref f) (.obj i::ys) σ₁ K):iR G nm args (.obj i) σ K:=fun c ρ s v pos pl a r=>by
 obtain⟨b,dx,es,k',m,g,rfl,X,F,fr,I⟩:=a.inst ho r
 obtain⟨co,rfl⟩:=a.iN hc
 obtain⟨a1,a2,a3,a4,a5,a6,a7⟩:=co.nQ _ (eU hm)
 exact method_inst F X I co.plain a1 a2 (fr.p7 hl) (vP (xs:=[.obj i]) a6 hp a (pr _) (.one r) h)
theorem S2{f:Addr}{b:eO}(hb:vo G.D G.T)(ho:σ.objs.list[i]? =some (.blob b))(hc:aQ (G.T.lW b) G.T.cls=some ci)(hm:lk nm ci.fM=some f)(hp:c5 args)
 (h:c7 G args σ fun ys σ₁=>au G (.ref f) (.obj i::ys) σ₁ K):iR G nm args (.obj i) σ K:=fun c ρ s v pos pl a r=>by
 obtain⟨b',m,rfl,_,⟨A,B,l,g,O,gr,F,N,_,_⟩⟩:=a.dN ho r
 obtain⟨ρ',fs,l0,rest,rfl,⟨dx,es,k',rfl,fr⟩,hno⟩:=hb _ _ _ O
 obtain⟨co,hC⟩:=a.iN hc
 obtain⟨a1,a2,a3,a4,a5,a6,a7⟩:=co.nQ _ (eU hm)
 have pl:=co.plain
 rw[hC] at a1 pl
 have I:_root_.PySem.W.InstAt s.heap b' (instObj (G.T.lW b) dx) (G.T.lW b) (some (dictOf es k')):=Kr N (bF _ (.head _)) (bF _ (.tail _ (.head _)))
 exact method_inst F gr.X I pl a1 a2 (fr.p7 (hno _ hc _ (eU hm))) (vP (xs:=[.obj i]) a6 hp a (pr _) (.one r) h)
theorem E4{t dx:Addr}{f:Addr}(ht:aQ t G.T.nO=some (C,dx,fs))(hc:aQ C G.T.cls=some ci)(hm:lk nm ci.fM=some f)(hl:lk nm fs=af)(hp:c5 args)
 (h:c7 G args σ fun ys σ₁=>au G (.ref f) (.val (.ref t)::ys) σ₁ K):iR G nm args (.val (.ref t)) σ K:=fun c ρ s v pos pl a r=>by
 obtain rfl:=r
 obtain⟨m,⟨ls,ad,l1,l2,g,gr,F,N⟩,hloc⟩:=a.R
 obtain⟨h1,es,k',h2,fr⟩:=a.tk.sin _ (eg ht)
 obtain⟨co,rfl⟩:=a.iN hc
 obtain⟨a1,a2,a3,a4,a5,a6,a7⟩:=co.nQ _ (eU hm)
 have st:∀a o,G.D.K.lookup a=some o→s.heap.get? a=some o:=fun a o e=>F.keep _ _ (gr.X a o e)
 exact method_inst F gr.X ⟨st _ _ h1,rfl,rfl,st _ _ h2⟩ co.plain a1 a2 (fr.p7 hl) (vP (xs:=[.val (.ref t)]) a6 hp a (pr _) (.one rfl) h)
theorem S3{c:Cx}{ρ:List Addr}{q f:Addr}{w:Value}(hf:fnIn G.D.K f=true):Way G c ρ (.ref q) fun s=>MethP G.D.K q f w s.heap where
 w0:=fun X h=>callWith_M0 (env:=c.env) X hf h
 w1:=@fun pos first Q E s e r X hp h=>by
  rw[hp _ (.head _)] at h⊢
  exact callWith_of (by show((false||(backTo pos (starEach r c.env)).any (·.1))||false)=false;rw[plain_any fun t ht=>hp t (.tail _ ht)];rfl) (keeps_M hf) (evalArgs_plain h)
theorem E5{f:Addr}{inf:aJ}{z:Nat}(ho:σ.objs.list[i]? =some (.inst C fs))(hc:aQ C G.T.cls=some ci)(hm:has nm ci.gK=true)(hl:lk nm fs=some (.obj j))(hj:σ.objs.list[j]? =some (.bX f (.obj z)))(hf:aQ f G.T.fns=some inf)(hp:c5 args)
 (h:c7 G args σ fun ys σ₁=>σ₁.objs.list[j]? =some (.bX f (.obj z))∧au G (.ref f) (.obj z::ys) σ₁ K):iR G nm args (.obj i) σ K:=fun c ρ s v pos pl a r=>by
 obtain⟨b,dx,es,k',m,g,rfl,X,F,fr,I⟩:=a.inst ho r
 obtain⟨co,rfl⟩:=a.iN hc
 obtain⟨u,g1,g2⟩:=fr.zm hl
 refine kmu_own F X I co.plain (co.fld nm (pQ.mp hm)).1 (get_own F X I co.plain co.dict (co.fld nm (pQ.mp hm)).1 rfl g1 (g2.handed rfl) ?_)
 obtain⟨q,hq,rfl⟩:=g2
 have key:∀{ρ':List Addr} {σ':SS} {s':Shared},ρ<+:ρ'→At G c ρ' σ' s'→σ'.objs.list[j]? =some (.bX f (.obj z))→∃w,VR G.D ρ' (.obj z) w∧s'.heap.get? q=some (methodObj (.ref f) w):=fun p a' hj'=>by
  obtain⟨q',m',e,_,⟨A,B,l,g,O,gr,F,N,_,_⟩⟩:=a'.dN (v:=.ref q) hj' ⟨q,cN p hq,rfl⟩
  cases e
  obtain⟨w,rfl,hw⟩:=O
  exact⟨w,hw,(N _ (bF _ (.head _))).1⟩
 obtain⟨w,hw,hg⟩:=key (pr ρ) a.t1 hj
 refine zD (xs:=[]) (L:=fun ys σ₁=>σ₁.objs.list[j]? =some (.bX f (.obj z))∧au G (.ref f) (.obj z::ys) σ₁ K) (S3 (w:=w) (a.tk.fns _ (eg hf)).fnIn) hp a.t1 ⟨hg,a.X⟩ (pr _) .nil h fun ρ' σ' ys vs s' a' p' p'' q' ⟨hj',hk⟩=>?_
 obtain⟨w',hw',hg'⟩:=key p'' a' hj'
 obtain⟨b1,e1,rfl⟩:=hw
 obtain⟨b2,e2,rfl⟩:=hw'
 cases(cN p'' e1).symm.trans e2
 exact⟨⟨hg',a'.X⟩,wpAny_call (method_call hg' (hk.code a' p' (.cons ⟨b1,e2,rfl⟩ q')))⟩
theorem S4{c:Cx}{ρ:List Addr}{id:String}:Way G c ρ (.builtin id) fun qq=>True where
 w0:=fun qq h=>callWith_method0 (env:=c.env) (by rw[dW] at h;exact h)
 w1:=fun qq hp h=>callWith_method1 (wpAny_mono h (fun qq qq z=>z.2) fun qq qq z=>z) (hp _ (.head _) _ _) (plain_any fun t ht=>hp t (.tail _ ht))
theorem mu{c:Cx}{ρ ρ₀:List Addr}{s:Shared}{id:String}{first:List Value}{xs:List SV}(hp:c5 args)(a:At G c ρ σ s)(p:ρ₀<+:ρ)(r:aG G.D ρ xs first)
 (h:c7 G args σ fun ys σ₁=>bB G (.builtin id) (xs++ys) σ₁ K):wpAny G.D.M c.A (callWith pos (.builtin id) first (backTo pos (starEach args c.env)) []) (PE G c ρ₀ K) (PX G c ρ₀) s:=
 zD S4 hp a trivial p r h fun ρ' σ' ys vs s' a' p' qq q z=>⟨trivial,aK.at (w:=vs) z a' p' q⟩
theorem zH{n:Str}{p':Pos}{id:String}(hn:lk n G.cs.names=some .globalImplicit)(hg:lk n G.T.dM=some (.builtin id))(hp:c5 args)
 (h:c7 G args σ fun ys σ₁=>bB G (.builtin id) ys σ₁ K):aq G (.Call (.Name n p') args [] pos) σ K:=fun c ρ s qq a qq=>
 Call_ (aK.go (w:=()) (show aq G (.Name n p') σ fun x σ'=>x=.val (.builtin id)∧σ'=σ from kH hn hg ⟨rfl,rfl⟩) a (pr _) trivial fun ρ' σ' x v s' p _ a' q ⟨hx,hs⟩=>by
  subst hx hs
  obtain rfl:=q
  exact mu (xs:=[]) hp a' p .nil h)
theorem bB.one{f:Value}(h:iL G (fun v=>iJ f [v] []) x σ K):bB G f [x] σ K:=fun c ρ s vs a r=>by
 cases r using Each.ec with
 |cons q r=>cases r with
  |nil=>exact h c ρ s _ a q
theorem bB.two{f:Value}(h:aC G (fun v u=>iJ f [v,u] []) x y σ K):bB G f [x,y] σ K:=fun c ρ s vs a r=>by
 cases r using Each.ec with
 |cons q r=>cases r using Each.ec with
  |cons q2 r=>cases r with
   |nil=>exact h c ρ s (_,_) a ⟨q,q2⟩
theorem S5{p:Option eS}{xs:List SV}(ho:σ.objs.list[i]? =some (.list p xs))(hp:c5 args)(h:c7 G args σ fun ys σ₁=>bB G (.builtin "list.append") (.obj i::ys) σ₁ K):iR G "append" args (.obj i) σ K:=fun c ρ s v pos pl a r=>by
 obtain⟨b,m,rfl,_,⟨A,B,l,g,O,gr,F,N,_,_⟩⟩:=a.dN ho r
 obtain⟨us,vs,n,rfl,q,f⟩:=O
 exact Calls.getMethod_list_append (N _ (bF _ (.head _))).1 rfl rfl (mu (xs:=[.obj i]) hp a (pr _) (.one r) h)
theorem E6{p:Option eS}{xs:List SV}(ho:σ.objs.list[i]? =some (.list p xs))(hz:∀us,jg p us→us.length+xs.length≤16777216)(k:K .none ⟨σ.loc,OL.s σ.objs i (.list p (xs++[y])),σ.fa⟩):bB G (.builtin "list.append") [.obj i,y] σ K:=.two<|.mk fun c ρ s v u a r q=>by
 obtain⟨b,us,vs,n,m,g,A,B,rfl,hp,f,F,N,nd,back⟩:=a.sA ho r
 have e2:(us++(vs++[u]):List Value).toArray=(us++vs:List Value).toArray.push u:=by simp
 have hU:=rW (o':=listOf ((us++vs:List Value).toArray.push u) (n+1)) nd
 exact append_K F N hU (fun h' F' N'=>⟨ρ,⟨σ.loc,OL.s σ.objs i (.list p (xs++[y])),σ.fa⟩,.none,pr _,⟨back p (xs++[y]) us (vs++[u]) (n+1) h' hp (Each.app f (.one q)) F' (e2▸N'),a.tp.to (az _),a.fa⟩,rfl,k⟩) (by
  have:=hz us hp
  rw[rD,bG,←Each.len f,sizeLine_eq];exact this)
end
end
end Ex
end
section
namespace Ex
noncomputable section
section
variable{G:Gx}{σ:SS}{K:SV→SS→Prop}{i j:Nat}{x y z:SV}{pos:Pos}
theorem sH{W:Wd}{ρ:List Addr}{xs:List SV}{vs:List Value}(f:aG W ρ xs vs)(h:av xs.length 1000=true):vs.length≤sizeLine:=by
 rw[←Each.len f,sizeLine_eq];exact ah (ao h) (by decide)
theorem vQ{es:List Expr}(h:c7 G es σ fun xs σ₁=>av xs.length 1000=true∧K (.obj σ₁.objs.length) ⟨σ₁.loc,OL.a σ₁.objs (.list af xs),σ₁.fa⟩):aq G (.List es pos) σ K:=fun c ρ s qq a qq=>
 List_ (h.go a (pr _) trivial fun ρ' σ' xs vs s' p qq a' q k=>by
  obtain⟨m,⟨ls,ad,l1,l2,g,gr,F,N⟩,hl⟩:=a'.R
  exact newList_K F N (fun l h' F' N' lo=>a'.made (s':={s' with heap:=h'}) ad l1 l2 gr hl F' N' lo (x:=.list af xs) (lV.mk [] vs 0 rfl rfl (aG.mono (cu _ _) q)) (a'.tp.to (az _)) p k.2) (sH q k.1))
theorem zI{es:List Expr}{k:Nat}(h:c7 G es σ fun xs σ₁=>av xs.length 1000=true∧K (.obj σ₁.objs.length) ⟨σ₁.loc,OL.a σ₁.objs (.tup xs),σ₁.fa⟩):aq G (.Tuple es k pos) σ K:=fun c ρ s qq a qq=>
 Tuple_ (h.go a (pr _) trivial fun ρ' σ' xs vs s' p qq a' q k=>by
  obtain⟨m,⟨ls,ad,l1,l2,g,gr,F,N⟩,hl⟩:=a'.R
  exact newTuple_N F N (fun h' F' N'=>a'.made (s':={s' with heap:=h'}) ad l1 l2 gr hl F' N' (fun p hp=>b4 (N p hp).1) (x:=.tup xs) (pR.mk vs _ rfl (aG.mono (cu _ _) q)) (a'.tp.to (az _)) p k.2) (sH q k.1))
noncomputable def zJ (e:Expr):Option {s:Str//∃k p,e=.Constant (.str s) k p}:=match e with
 |.Constant c k p=>match c with
  |.str s=>some ⟨s,k,p,rfl⟩
  |_=>af
 |_=>af
noncomputable def S6 (k:Option Expr):Option {s:Str//∃k' p,k=some (.Constant (.str s) k' p)}:=match k with
 |some e=>match zJ e with
  |some ⟨s,h⟩=>some ⟨s,let⟨k,p,h⟩:=h;⟨k,p,congrArg some h⟩⟩
  |Option.none=>af
 |Option.none=>af
structure S7 (W:Wd) (ρ:List Addr) (p:Str×SV) (q:Value×Value):Prop where
 k:∃t,q.1=.str p.1 t
 v:VR W ρ p.2 q.2
noncomputable abbrev vR (W:Wd) (ρ:List Addr):List (Str×SV)→List (Value×Value)→Prop:=Each (S7 W ρ)
theorem vR.keys{W:Wd}{ρ:List Addr}{fs:List (Str×SV)}{es:List (Value×Value)}(r:vR W ρ fs es):allStrKeys es=true∧dz W ρ fs (strPairs es)∧(strPairs es).map (·.1)=fs.map (·.1):=by
 induction r with
 |nil=>exact⟨rfl,.nil,rfl⟩
 |@cons p e fs es h _ ih=>
  obtain⟨k,v⟩:=e
  obtain⟨⟨t,e⟩,q⟩:=h
  obtain rfl:k=_:=e
  obtain⟨a,b,c⟩:=ih
  exact⟨a,.cons ⟨rfl,q⟩ b,congrArg (p.1::·) c⟩
noncomputable abbrev qb (G:Gx) (ks:List (Option Expr)) (vs:List Expr):SS→(List (Str×SV)→SS→Prop)→Prop:=aK G (vR G.D) jh fun c pos=>evalPairs (pairTrees ks vs c.env pos)
theorem S8{K:List (Str×SV)→SS→Prop}(h:K [] σ):qb G [] [] σ K:=fun c ρ s pos a qq=>evalPairs_nil ⟨ρ,σ,[],pr _,a.toRepS,.nil,h⟩
theorem S9{k:Option Expr}{ks:List (Option Expr)}{v:Expr}{vs:List Expr}{n:Str}{K:List (Str×SV)→SS→Prop}(hk:∃k' p,k=some (.Constant (.str n) k' p))(h:aq G v σ fun x σ₁=>qb G ks vs σ₁ fun fs σ₂=>K ((n,x)::fs) σ₂):qb G (k::ks) (v::vs) σ K:=fun c ρ s pos a qq=>by
 obtain⟨k',p',rfl⟩:=hk
 refine evalPairs_cons (wpAny_Constant_str (wpAny_bind (h.go (w:=()) a.t1 (pr _) trivial fun ρ₁ σ₁ x u s₁ p₁ p₁' a₁ q₁ k₁=>wpAny_bind (wpAny_standAt (wpAny_pure ?_)))))
 exact k₁.go (w:=pos) a₁ p₁ trivial fun ρ₂ σ₂ fs es s₂ p₂ p₂' a₂ q₂ k₂=>⟨ρ₂,σ₂,(n,x)::fs,p₂,a₂.toRepS,.cons ⟨⟨_,rfl⟩,q₁.mono p₂'⟩ q₂,k₂⟩
noncomputable def dist (l:List Str):Bool:=bu true (fun k r ih=>@aj (fun qq=>Bool) ih false (has k r)) l
theorem E7{l:List Str}(h:dist l=true):l.Nodup:=by
 induction l with
 |nil=>exact .nil
 |cons k r ih=>
  have h':@aj (fun qq=>Bool) (dist r) false (has k r)=true:=h
  cases e:has k r with
  |true=>rw[e] at h';cases h'
  |false=>rw[e] at h';exact cM.mpr ⟨fun hm=>(by rw[pQ.mpr hm] at e;cases e),ih h'⟩
theorem Tc{ks:List (Option Expr)}{vs:List Expr}(h1:ks.all (·.isSome)=true)(h2:aB ks.length vs.length=true)(h0:cW 0 ks.length=true)(h3:av ks.length 15=true)
 (h:qb G ks vs ⟨σ.loc,OL.a σ.objs (.dict []),σ.fa⟩ fun fs σ₁=>dist (fs.map (·.1))=true∧σ₁.objs.list[σ.objs.length]? =some (.dict [])∧K (.obj σ.objs.length) ⟨σ₁.loc,OL.s σ₁.objs σ.objs.length (.dict fs),σ₁.fa⟩):aq G (.Dict ks vs pos) σ K:=fun c ρ s qq a qq=>by
 obtain⟨m,⟨ls,ad,l1,l2,g,gr,F,N⟩,hl⟩:=a.R
 have hlen:=(let⟨_,l,_⟩:=a.R;l.end:∀q,(ρ++[q])[σ.objs.length]? =some q)
 refine kdn_eval (knd:=yG G.D.prog G.D.w) F N gr.T.nolimit h1 (bh h2) (by intro e;subst e;cases h0) (ao h3) fun d h' o F' N' lo qq hd=>?_
 have a1:At G c (ρ++[d]) ⟨σ.loc,OL.a σ.objs (.dict []),σ.fa⟩ {s with heap:=h'}:=a.to (cu _ _) ⟨⟨m,.new ad l1 l2 gr F' N' lo (kD.mk o [] rfl hd .nil),hl.mono (cu _ _)⟩,a.tp.to (az _),a.fa⟩
 refine h.go (w:=pos) a1 (cu _ _) trivial fun ρ₂ σ₂ fs es s₂ p₂ p₂' a₂ q₂ ⟨k1,k2,k3⟩=>?_
 obtain⟨e1,e2,e3⟩:=vR.keys q₂
 have hv:VR G.D ρ₂ (.obj σ.objs.length) (.ref d):=⟨d,cN p₂' (hlen d),rfl⟩
 obtain⟨b,kvs,e,f,hD,back⟩:=a₂.zu (R:=fun ρ=>dz G.D ρ []) k2 (fun qq qq qq=>rfl) hv
 cases e
 cases f
 exact display_done_str e1 (by rw[e3];exact E7 k1) hD fun h'' hm hs=>⟨ρ₂,_,.obj σ.objs.length,p₂,⟨back (.dict fs) (fun ρ=>dz G.D ρ fs) _ h'' (fun qq qq qq=>rfl) e2 hm (fun b o hb e=>hs.extBut b o hb e),a₂.tp.to (bC _ _),a₂.fa⟩,hv,k3⟩
noncomputable def mw {α:Type} (xs:List α) (lo hi st:Option Int):List α:=
 (sliceRange (sliceBounds lo hi st xs.length).1 (sliceBounds lo hi st xs.length).2.1 (sliceBounds lo hi st xs.length).2.2).filterMap (xs[·]?)
theorem Each.pick{α β:Type}{R:α→β→Prop}{xs:List α}{ys:List β}(h:Each R xs ys)(is:List Nat):Each R (is.filterMap (xs[·]?)) (is.filterMap (ys[·]?)):=by
 induction is with
 |nil=>exact .nil
 |cons i is ih=>
  rw[JX,JX]
  cases e:xs[i]? with
  |none=>
   have:ys[i]? =none:=by rw[pB] at e⊢;rw[←h.len];exact e
   rw[this];exact ih
  |some x=>
   obtain⟨y,e',r⟩:=h.get e
   rw[e'];exact .cons r ih
noncomputable def kK (W:Wd) (ρ:List Addr) (x:Option SV) (v:Value):Prop:=match x with
 |Option.none=>v=.none
 |some x=>VR W ρ x v
noncomputable abbrev qc (G:Gx) (e:Option Expr):SS→(Option SV→SS→Prop)→Prop:=aK G (kK G.D) jh fun c (_:Unit)=>evalPart e c.env
theorem Td{K:Option SV→SS→Prop}(h:K af σ):qc G af σ K:=fun c ρ s qq a qq=>wpAny_pure ⟨ρ,σ,af,pr _,a.toRepS,rfl,h⟩
theorem Te{e:Expr}{K:Option SV→SS→Prop}(h:aq G e σ fun x σ₁=>K (some x) σ₁):qc G (some e) σ K:=fun c ρ s qq a qq=>
 h.go (w:=()) a (pr _) trivial fun ρ' σ' x v s' p qq a' q z=>⟨ρ',σ',some x,p,a'.toRepS,q,z⟩
inductive PI:Option SV→Option Int→Prop
 |n:PI af af
 |i {x:SV} {k:Int} (h:bc x k):PI (some x) (some k)
theorem PI.part{W:Wd}{ρ:List Addr}{x:Option SV}{v:Value}{k:Option Int}(h:PI x k)(r:kK W ρ x v):IsPart v k:=by
 cases h with
 |n=>obtain rfl:=r;exact .none
 |i h=>obtain⟨t,rfl⟩:=h r;exact .int _ t
noncomputable def sI (x:Option SV):Option {k:Option Int//PI x k}:=match x with
 |Option.none=>some ⟨af,.n⟩
 |some x=>match bA x with
  |some ⟨k,h⟩=>some ⟨some k,.i h⟩
  |Option.none=>af
theorem IsPart.as{v:Value}{k:Option Int}(h:IsPart v k):∃l:Option (Int×Tok),l.map (·.1)=k∧v=(match l with|some (i,t)=>.int i t|Option.none=>.none):=by
 cases h with
 |none=>exact⟨af,rfl,rfl⟩
 |int k t=>exact⟨some (k,t),rfl,rfl⟩
noncomputable abbrev zK (x:SV) (l u:Option SV) (z:SV):Prop:=∀{W:Wd} {ρ:List Addr} {v vl vu:Value},VR W ρ x v→kK W ρ l vl→kK W ρ u vu→∃a t i j,v=.str a t∧IsPart vl i∧IsPart vu j∧a.length≤sizeLine∧∀t',VR W ρ z (.str (b5 a i j) t')
inductive E8 (x:SV) (l u t:Option SV) (K:SV→SS→Prop) (σ:SS):Prop
 |l (i:Nat) (xs:List SV) (l' u' t':Option Int) (e:x=.obj i) (ho:σ.objs.list[i]? =some (.list af xs)) (h1:PI l l') (h2:PI u u') (h3:PI t t') (h0:t'≠some 0) (hz:av xs.length 1000=true) (k:K (.obj σ.objs.length) ⟨σ.loc,OL.a σ.objs (.list af (mw xs l' u' t')),σ.fa⟩)
 |t (z:SV) (e:t=af) (h:zK x l u z) (k:K z σ)
theorem kK.mono{W:Wd}{ρ ρ':List Addr}(p:ρ<+:ρ'){x:Option SV}{v:Value}(r:kK W ρ x v):kK W ρ' x v:=by
 cases x with
 |none=>exact r
 |some x=>exact VR.mono p r
theorem E9{s:Shared}{c:Prop}[Decidable c]{y z:Str}{t:Tok}{Q:Value→Shared→Prop}(h:(if c then y else z).length≤sizeLine∧∀t' k,s.toks≤k→Q (.str (if c then y else z) t') {s with toks:=k}):
 (if c then Made.val (.str y t) else Made.str z).post Q s:=by
 by_cases hc:c
 ·rw[if_pos hc];have h':=h.2 t s.toks (az _);rw[if_pos hc] at h';exact h'
 ·rw[if_neg hc];have h':=h.2 s.toks (s.toks+1) (cV _);have h1:=h.1;rw[if_neg hc] at h' h1;exact⟨h1,h'⟩
theorem At.push{c:Cx}{ρ:List Addr}{s:Shared}(a:At G c ρ σ s)(o:Obj):At G c ρ σ {s with heap:=s.heap.push o}:=a.to (pr _)<|by
 obtain⟨m,⟨ls,ad,l1,l2,g,gr,F,N⟩,hl⟩:=a.R
 exact⟨⟨m,⟨ls,ad,l1,l2,g,gr,F.push _,N.pushKeep _⟩,hl⟩,a.tp.to (az _),a.fa⟩
theorem Tf{ob:Expr}{lo hi st:Option Expr}{p1 p2:Pos}(h:aq G ob σ fun x σ₁=>qc G lo σ₁ fun l σ₂=>qc G hi σ₂ fun u σ₃=>qc G st σ₃ fun t σ₄=>E8 x l u t K σ₄):aq G (.Subscript ob (.Slice lo hi st p1) p2) σ K:=fun c ρ s qq a qq=>by
 refine Subscript_ (h.go (w:=()) a (pr _) trivial fun ρ₁ σ₁ x v s₁ p₁ qq a₁ q k=>wpAny_Slice (k.go (w:=()) a₁ p₁ trivial fun ρ₂ σ₂ l vl s₂ p₂ p₂' a₂ q₂ k₂=>k₂.go (w:=()) a₂ p₂ trivial fun ρ₃ σ₃ u vu s₃ p₃ p₃' a₃ q₃ k₃=>k₃.go (w:=()) a₃ p₃ trivial fun ρ₄ σ₄ t vt s₄ p₄ p₄' a₄ q₄ k₄=>?_))
 have a5:=a₄.push {cls:=.type "slice",data:=.fields #[vl,vu,vt]}
 refine kba_turn (value':=PySem.Expr.Name (PySem.Str.ofString "_") ⟨0,0,0,0⟩) (fun qq=>rfl) ?_
 have hops:∃ops,subscripted (.Slice lo hi st p1) false v (.ref s₄.heap.objs.size)=operate ops (getItem v (.ref s₄.heap.objs.size)):=by cases st<;>exact⟨_,rfl⟩
 obtain⟨ops,hops⟩:=hops
 have q':=q.mono (p₂'.trans (p₃'.trans p₄'))
 cases k₄ with
 |l i xs l' u' t' e ho h1 h2 h3 hst hz hk=>
  subst e
  obtain⟨b,us,vs,rfl,rfl,f,hl⟩:=a5.list ho q'
  refine subscriptTail_ops (Heap.IsList.typeIs (s:={s₄ with heap:=s₄.heap.push {cls:=.type "slice",data:=.fields #[vl,vu,vt]}}) hl) list_getitem_lookup
   (wpAny_getItem_list_slice hl (Heap.IsSliceOf.new ..) (h1.part q₂) (h2.part q₃) (h3.part q₄) hst ?_ (by rw[rD];exact sH f hz)) hops (fun qq=>rfl)
  obtain⟨m,⟨ls,ad,l1,l2,g,gr,F,N⟩,hloc⟩:=a5.R
  have hs:slicePick ([]++vs).toArray l' u' t'=(mw vs l' u' t').toArray:=by
   unfold slicePick mw
   simp
  have hp:aG G.D ρ₄ (mw xs l' u' t') (mw vs l' u' t'):=by
   unfold mw
   rw[←Each.len f]
   exact Each.pick f _
  rw[hs]
  exact a5.made ad l1 l2 gr hloc (F.push _) (N.push F _) (fun p hp=>b4 (N p hp).1) (x:=.list af (mw xs l' u' t')) (lV.mk [] _ 0 rfl rfl (aG.mono (cu _ _) hp)) (a5.tp.to (az _)) p₄ hk
 |t z e h k=>
  subst e
  obtain rfl:=q₄
  obtain⟨a,t,i,j,rfl,h1,h2,hz,hr⟩:=h q' (kK.mono (p₃'.trans p₄') q₂) (kK.mono p₄' q₃)
  obtain⟨li,rfl,rfl⟩:=IsPart.as h1
  obtain⟨lj,rfl,rfl⟩:=IsPart.as h2
  refine subscriptTail_ops (typeIs_str _ _ _) F.slot_str_getitem.lookup (wpAny_getItem_str_slice (l:=li) (u:=lj) (st:=none) ⟨_,rA _ rfl,rfl,?_⟩ rfl (E9 ⟨ah (Txt.slice_le a _ _) hz,fun t' k' hk'=>?_⟩)) hops (fun qq=>rfl)
  ·cases li<;>cases lj<;>rfl
  ·exact⟨ρ₄,σ₄,z,p₄,⟨a5.R,Tp.to a5.tp hk',a5.fa⟩,hr t',k⟩
theorem Tg{xs ys:List SV}(ho:σ.objs.list[i]? =some (.list af xs))(ho2:σ.objs.list[j]? =some (.list af ys))(hz:av (xs++ys).length 1000=true)(k:K (.obj σ.objs.length) ⟨σ.loc,OL.a σ.objs (.list af (xs++ys)),σ.fa⟩):aC G (binaryOp .Add) (.obj i) (.obj j) σ K:=.mk fun c ρ s v u a r w=>by
 obtain⟨b,us,vs,rfl,rfl,f,hl⟩:=a.list ho r
 obtain⟨b2,us2,ws,rfl,rfl,f2,hl2⟩:=a.list ho2 w
 obtain⟨m,⟨ls,ad,l1,l2,g,gr,F,N⟩,hloc⟩:=a.R
 have px:∀q:Addr,ρ<+:ρ++[q]:=fun q=>cu _ _
 exact add_lists F N hl hl2 (fun h' F' N'=>a.made (s':={s with heap:=h'}) ad l1 l2 gr hloc F' N' (fun p hp=>b4 (N p hp).1) (x:=.list af (xs++ys)) (lV.mk [] _ 0 rfl rfl (Each.app (aG.mono (px _) f) (aG.mono (px _) f2))) (a.tp.to (az _)) (pr _) k) (by have:=sH (Each.app f f2) hz;rw[bG] at this;exact this)
theorem Th{xs ys:List SV}(hx:nU G x σ xs)(hy:nU G y σ ys)(h1:xs.isEmpty=false)(h2:ys.isEmpty=false)(hz:av (xs++ys).length 1000=true)(k:K (.obj σ.objs.length) ⟨σ.loc,OL.a σ.objs (.tup (xs++ys)),σ.fa⟩):aC G (binaryOp .Add) x y σ K:=.mk fun c ρ s v u a r w=>by
 obtain⟨b,vs,rfl,f,hl⟩:=hx.at a r
 obtain⟨b2,ws,rfl,f2,hl2⟩:=hy.at a w
 obtain⟨m,⟨ls,ad,l1,l2,g,gr,F,N⟩,hloc⟩:=a.R
 have px:∀q:Addr,ρ<+:ρ++[q]:=fun q=>cu _ _
 exact add_tuples F N hl hl2 (fun e=>by subst e;cases f;cases h1) (fun qq e=>by subst e;cases f2;cases h2) (fun qq qq h' F' N'=>a.made (s':={s with heap:=h'}) ad l1 l2 gr hloc F' N' (fun p hp=>b4 (N p hp).1) (x:=.tup (xs++ys)) (pR.mk _ _ rfl (Each.app (aG.mono (px _) f) (aG.mono (px _) f2))) (a.tp.to (az _)) (pr _) k) (by have:=sH (Each.app f f2) hz;rw[bG] at this;exact this)
end
end
end Ex
end
section
namespace Ex
set_option genSizeOf false
set_option genInjectivity false
noncomputable section
noncomputable abbrev Cx.plus (c:Cx) (l:List (Addr×Obj)) (r:List (Addr×Obj):=[]):Cx:=⟨c.A,c.A₀,c.base,c.h₀,c.outer,c.env,c.cs,c.L,l++c.X,r++c.R⟩
section
variable{G:Gx}{c:Cx}{ρ ρ₀:List Addr}{σ σ':SS}{s s':Shared}{i:Nat}{I:Addr}{o o':Obj}{own rr:List (Addr×Obj)}{m:Str→Option Value}{h h':Heap}{D:Wd}
theorem Ok.plus{n:Nat}(k:Ok D c n){l r:List (Addr×Obj)}:Ok D (c.plus l r) n:=⟨k.XB,k.TB,k.hA,k.hk,k.hh,k.hd,k.hu⟩
theorem At.plus{l:List (Addr×Obj)}{ρ':List Addr}(a:At G c ρ σ s)(p:ρ<+:ρ')(R:RepS G.D (c.plus l) ρ' σ' s'):At G (c.plus l) ρ' σ' s':=⟨R,a.cs,a.ok.plus,a.tk,fun p hp=>bF _ (a.rx p hp),fun x hx=>(a.cv x hx).imp fun qq h=>⟨h.1,cN p h.2⟩,a.hf⟩
theorem At.owned(a:At G c ρ σ s)(o:Obj)(hf:o.isFreed=false):At G (c.plus [(s.heap.objs.size,o)]) ρ σ {s with heap:=s.heap.push o}:=a.plus (pr _)<|by
 obtain⟨m,⟨ls,ad,l1,l2,g,gr,F,N⟩,hl⟩:=a.R
 have pm:(flat ls++((s.heap.objs.size,o)::c.X)).Perm ((s.heap.objs.size,o)::(flat ls++c.X)):=iH
 refine⟨⟨m,⟨ls,ad,l1,(pm.map aN).nodup_iff.mpr (cM.mpr ⟨fun hq=>?_,l2⟩),g,gr,F.push _,fun p hp=>N.push F o hf p (pm.subset hp)⟩,hl⟩,a.tp.to (az _),a.fa⟩
 obtain⟨p,hp,e⟩:=dh.mp hq
 exact absurd e (cU (b4 (N p hp).1))
theorem At.turn(a:At G (c.plus ((I,o)::own) rr) ρ σ s)(hR:∀p∈rr++c.R,p∈own++c.X)(ho:h'.get? I=some o')(hk:∀b o,b≠I→s.heap.get? b=some o→h'.get? b=some o){tk:Nat}(ht:s.toks≤tk):At G (c.plus ((I,o')::own) rr) ρ σ {s with heap:=h',toks:=tk}:=by
 obtain⟨m,⟨ls,ad,l1,l2,g,gr,F,N⟩,hl⟩:=a.R
 have hI:=N (I,o) (bF _ (.head _))
 have l2':((flat ls++(I,o)::(own++c.X)).map aN).Nodup:=l2
 have hne:∀p∈flat ls++(own++c.X),p.1≠I:=fun p hp e=>by
  rw[cy,eL] at l2'
  have:=iH.nodup_iff.mp l2'
  rw[cM,←cy] at this
  exact this.1 (dh.mpr ⟨p,hp,e⟩)
 refine⟨⟨⟨m,⟨ls,ad,l1,vq l2',g,gr,⟨F.ns.at' fun o e=>hk _ o (fun h=>hI.2.1 h.symm) e,fun b o e0=>hk b o (fun h=>by subst h;rw[hI.2.2] at e0;cases e0) (F.keep b o e0),F.above⟩,fun p hp=>?_⟩,hl⟩,a.tp.to ht,a.fa⟩,a.cs,⟨a.ok.XB,a.ok.TB,a.ok.hA,a.ok.hk,a.ok.hh,a.ok.hd,a.ok.hu⟩,a.tk,fun p hp=>.tail _ (hR p hp),a.cv,a.hf⟩
 ·rcases f7.mp hp with q|q
  ·have z:=N p (uG _ q)
   exact⟨hk _ _ (hne p (uG _ q)) z.1,z.2⟩
  ·rcases bV.mp q with rfl|q
   ·exact⟨ho,hI.2⟩
   ·have z:=N p (bF _ (.tail _ q))
    exact⟨hk _ _ (hne p (bF _ q)) z.1,z.2⟩
theorem At.drop(a:At G (c.plus ((I,o)::own) rr) ρ σ s)(hk:∀b o,b≠I→s.heap.get? b=some o→h'.get? b=some o){tk:Nat}(ht:s.toks≤tk):RepS G.D (c.plus own rr) ρ σ {s with heap:=h',toks:=tk}:=by
 obtain⟨m,⟨ls,ad,l1,l2,g,gr,F,N⟩,hl⟩:=a.R
 have hI:=N (I,o) (bF _ (.head _))
 have hs:(flat ls++(own++c.X)).Sublist (flat ls++(I,o)::(own++c.X)):=(jy _).append (List.sublist_cons_self _ _)
 have l2':((flat ls++(I,o)::(own++c.X)).map aN).Nodup:=l2
 refine⟨⟨m,⟨ls,ad,l1,(hs.map aN).nodup l2,g,gr,⟨F.ns.at' fun o e=>hk _ o (fun h=>hI.2.1 h.symm) e,fun b o e0=>hk b o (fun h=>by subst h;rw[hI.2.2] at e0;cases e0) (F.keep b o e0),F.above⟩,fun p hp=>?_⟩,hl⟩,a.tp.to ht,a.fa⟩
 have z:=N p (hs.subset hp)
 refine⟨hk _ _ (fun e=>?_) z.1,z.2⟩
 rw[cy,eL] at l2'
 have:=iH.nodup_iff.mp l2'
 rw[cM,←cy] at this
 exact this.1 (dh.mpr ⟨p,hp,e⟩)
theorem At.same(a:At G (c.plus ((I,o)::own) rr) ρ σ s):RepS G.D (c.plus own rr) ρ σ s:=a.drop (fun qq qq qq e=>e) (az _)
structure Src where
 it:SS→Nat→Option (Option SV)
 bk:SS→Option SS
 ob:Wd→Addr→List Addr→Nat→List (Addr×Obj)→List (Addr×Obj)→Prop
 mono:∀{W:Wd} {I:Addr} {ρ ρ':List Addr} {i:Nat} {l rr:List (Addr×Obj)},ob W I ρ i l rr→ρ<+:ρ'→ob W I ρ' i l rr
 next:∀{G:Gx} {c:Cx} {ρ:List Addr} {σ:SS} {s:Shared} {I:Addr} {i:Nat} {l rr:List (Addr×Obj)} {r:Option SV} {Q:Option Value→Shared→Prop} {E:Value→Shared→Prop},(∀p∈c.R,p∈c.X)→At G (c.plus l rr) ρ σ s→ob G.D I ρ i l rr→it σ i=some r→
  (match r with
    |some z=>∀v l' s',At G (c.plus l' rr) ρ σ s'→VR G.D ρ z v→ob G.D I ρ (i+1) l' rr→Q (some v) s'
    |Option.none=>∀s',(∀σ',bk σ=some σ'→RepS G.D c ρ σ' s')→Q af s')→wpAny G.D.M c.A (pyNext (.ref I)) Q E s
 go:∀{G:Gx} {c:Cx} {ρ:List Addr} {σ:SS} {s:Shared} {I:Addr} {i:Nat} {l rr:List (Addr×Obj)} {v:Value} {tgt:Expr} {Q:Unit→Shared→Prop} {E:Value→Shared→Prop},At G (c.plus l rr) ρ σ s→ob G.D I ρ i l rr→Q () s→wpAny G.D.M c.A (letOwnedTupleGo tgt (.ref I) v) Q E s
 self:∀{G:Gx} {c:Cx} {ρ:List Addr} {σ:SS} {s:Shared} {I:Addr} {i:Nat} {l rr:List (Addr×Obj)} {Q:Value→Shared→Prop} {E:Value→Shared→Prop},At G (c.plus l rr) ρ σ s→ob G.D I ρ i l rr→Q (.ref I) s→wpAny G.D.M c.A (pyIter (.ref I)) Q E s
 back:∀{G:Gx} {c:Cx} {ρ:List Addr} {σ:SS} {s:Shared} {I:Addr} {i:Nat} {l rr:List (Addr×Obj)} {σ':SS},(∀p∈c.R,p∈c.X)→At G (c.plus l rr) ρ σ s→ob G.D I ρ i l rr→bk σ=some σ'→RepS G.D c ρ σ' s
noncomputable def kL (G:Gx) (iter:Expr) (σ:SS) (R:Src→SS→Prop):Prop:=∀c ρ s,At G c ρ σ s→wpAny G.D.M c.A (eval iter c.env) (fun xv s₁=>wpAny G.D.M c.A (pyIter xv) (fun it s₂=>
 ∃I l rr S ρ' σ',it=.ref I∧ρ<+:ρ'∧At G (c.plus l rr) ρ' σ' s₂∧Src.ob S G.D I ρ' 0 l rr∧R S σ') (PX G c ρ) s₁) (PX G c ρ) s
noncomputable def Bk (S:Src) (P:SS→Prop) (σ:SS):Prop:=∃σ',S.bk σ=some σ'∧P σ'
noncomputable def Fb (S:Src) (K:Fl→SS→Prop) (J:SS→Prop) (fl:Fl) (σ:SS):Prop:=match fl with
 |.next=>J σ
 |.cont=>J σ
 |.brk=>Bk S (K .next) σ
 |.ret v=>Bk S (K (.ret v)) σ
theorem vS{tgt:Expr}{pos:Pos}{iter:Expr}{body:List Stmt}{K:Fl→SS→Prop}(hK:∀e ρ os,¬G.KX e ρ os)(hs:∀env v,foldedSetIterable iter env v=pure v)(J:Src→Nat→Nat→SS→Prop)
 (turn:∀S n i σ,J S n i σ→∃r,S.it σ i=some r∧match r with
   |some z=>fO G tgt z σ fun σ=>bz G body σ (Fb S K fun σ=>∃n',n'<n∧J S n' (i+1) σ)
   |Option.none=>Bk S (K .next) σ) (n:Nat) (h:kL G iter σ fun S σ=>J S n 0 σ):bw G (.For tgt iter body [] pos) σ K:=fun c ρ s qq a qq=>by
 refine wpAny_For (wpAny_mono (h c ρ s a) (fun xv s₁ z=>wpAny_mono z (fun it s₂ z=>?_) fun qq qq z=>z) fun qq qq z=>z) (hs _)
 obtain⟨I,l,rr,S,ρ₁,σ₁,rfl,p₁,a₁,hob,hJ⟩:=z
 have no:∀{c' ρ e s},PX G c' ρ e s→False:=fun⟨_,_,_,_,_,z⟩=>hK _ _ _ z
 refine codeAny_forLoop_any (fun n s'=>∃ρ' σ' l i,ρ<+:ρ'∧At G (c.plus l rr) ρ' σ' s'∧S.ob G.D I ρ' i l rr∧J S n i σ') ?_ n ⟨ρ₁,σ₁,l,0,p₁,a₁,hob,hJ⟩
 rintro n s' ⟨ρ',σ',l,i,p,a',hob,hJ⟩
 obtain⟨r,hr,hk⟩:=turn S n i σ' hJ
 have rx:=a.rx
 have endB:∀{ρ₄ σ₄ s₄ l' x f j},ρ<+:ρ₄→At G (c.plus l' rr) ρ₄ σ₄ s₄→S.ob G.D I ρ₄ j l' rr→r9 G.D ρ₄ x f→Bk S (K x) σ₄→PB G c ρ K f s₄:=fun p a ho q ⟨σ₅,e,k⟩=>⟨_,σ₅,_,p,S.back rx a ho e,q,k⟩
 refine S.next a.rx a' hob hr ?_
 cases r with
 |none=>exact fun s₂ hb=>wpAny_execs_nil (let⟨σ₅,e,k⟩:=hk;⟨_,σ₅,.next,p,hb _ e,rfl,k⟩)
 |some z=>
  intro v' l' s₂ a₂ hz ho
  refine S.go a₂ ho ?_
  refine wpAny_mono (aK.go (ρ₀:=ρ') (w:=v') hk a₂ (pr _) hz (Q:=fun qq s₃=>∃ρ₃ σ₃,ρ'<+:ρ₃∧At G (c.plus l' rr) ρ₃ σ₃ s₃∧bz G body σ₃ _) fun ρ₃ σ₃ qq qq s₃ p₃ qq a₃ qq k₃=>⟨ρ₃,σ₃,p₃,a₃,k₃⟩) (fun _ s₃ ⟨ρ₃,σ₃,p₃,a₃,k₃⟩=>?_) fun qq qq z=>(no z).elim
  refine wpAny_mono (aK.go (w:=()) k₃ a₃ p₃ trivial fun ρ₄ σ₄ fl f s₄ p₄ qq a₄ q₄ k₄=>?_) (fun qq qq z=>z) fun qq qq z=>(no z).elim
  have ho₄:=S.mono ho p₄
  cases fl with
  |next=>obtain rfl:=q₄;obtain⟨n',hn,hj⟩:=k₄;exact⟨n',hn,ρ₄,σ₄,l',i+1,p.trans p₄,a₄,ho₄,hj⟩
  |cont=>obtain rfl:=q₄;obtain⟨n',hn,hj⟩:=k₄;exact⟨n',hn,ρ₄,σ₄,l',i+1,p.trans p₄,a₄,ho₄,hj⟩
  |brk=>obtain rfl:=q₄;exact endB (x:=.next) (p.trans p₄) a₄ ho₄ rfl k₄
  |ret y=>obtain⟨v,rfl,q₄⟩:=q₄;exact endB (x:=.ret y) (p.trans p₄) a₄ ho₄ ⟨v,rfl,q₄⟩ k₄
end
end
end Ex
end
section
namespace Ex
noncomputable section
theorem letGo{M:Model}{A:Around}{E:Value→Shared→Prop}{s:Shared}{tgt:Expr}{v:Value}{I:Addr}{o:Obj}{n:String}{Q:Unit→Shared→Prop}(ho:s.heap.get? I=some o)(hc:o.cls=.type n)
 (hn:(["enumerate","zip","dict_itemiterator","dict_reverseitemiterator","odict_iterator","itertools.zip_longest","itertools.pairwise"]:List String).contains n=false) (h:Q () s):wpAny M A (letOwnedTupleGo tgt (.ref I) v) Q E s:=by
 have two:wpAny M A (do
  let(.ref r,.ref a):=(pO I,v)|return
  let o ←load r
  match o.cls,o.data with
  |.type n,.fields vs=>
   if["enumerate","zip","dict_itemiterator","dict_reverseitemiterator","odict_iterator","itertools.zip_longest","itertools.pairwise"].contains n&&vs[0]? ==some (rawInt a) then
    rule "for.unpacks-the-owned-tuple"
    updateField r 0 .none
  |_,_=>pure ():Sem Unit) Q E s:=by
  cases v with
  |ref=>
   refine wpAny_bind (wpAny_load ho ?_)
   rw[hc]
   cases o.data with
   |fields=>
    dsimp only
    rw[hn,Bool.false_and,if_neg yv]
    exact wpAny_pure h
   |_=>exact wpAny_pure h
  |_=>exact wpAny_pure h
 cases tgt with
 |Tuple=>exact two
 |List=>exact two
 |_=>exact wpAny_pure h
structure Ti (o:Obj) (b i:Nat):Prop where
 c:o.cls=.type "list_iterator"
 d:o.data=.fields #[.ref b,.int i 0]
section
variable{G:Gx}{c:Cx}{ρ:List Addr}{σ:SS}{s:Shared}{i:Nat}
theorem At.heap(a:At G c ρ σ s){p:Addr×Obj}(h:p∈c.X):s.heap.get? p.1=some p.2:=let⟨_,⟨_,_,_,_,_,_,_,N⟩,_⟩:=a.R;(N p (bF _ h)).1
noncomputable def sJ (i:Nat) (σ:SS) (j:Nat):Option (Option SV):=match OL.get σ.objs i with
 |some (.list p xs)=>match p with
  |Option.none=>some (at? xs j)
  |some _=>af
 |_=>af
set_option tactic.hygienic true in
theorem Tj{j:Nat}{r:Option SV}(h:sJ i σ j=some r):∃xs,σ.objs.list[i]? =some (.list af xs)∧xs[j]? =r:=by
 unfold sJ at h
 split at h
 ·rename_i p xs e
  cases p with
  |none=>cases h;exact⟨xs,(OL.get_eq _ _).symm.trans e,(kC _ _).symm⟩
  |some=>cases h
 ·cases h
noncomputable def vV (i:Nat):Src where
 it:=sJ i
 bk:=some
 ob W I ρ j l rr:=∃o b,l=[(I,o)]∧rr=[]∧Ti o b j∧ρ[i]? =some b
 mono:=fun⟨o,b,e,e2,h,q⟩ p=>⟨o,b,e,e2,h,cN p q⟩
 next:=fun{G c ρ σ s I j l rr r Q E} hR a ⟨o,b,e,e2,h,q⟩ hit hQ=>by
  subst e e2
  obtain⟨xs,ho,hx⟩:=Tj hit
  obtain⟨b',us,vs,e,hp,f,hl⟩:=a.list (v:=.ref b) ho ⟨b,q,rfl⟩
  cases e;obtain rfl:=hp
  have hI:s.heap.IsListIter I b j:=⟨o,a.heap (p:=(I,o)) (.head _),h.c,h.d⟩
  cases r with
  |none=>
   have hv:vs[j]? =none:=by rw[pB] at hx⊢;rw[←Each.len f];exact hx
   exact wpAny_pyNext_list_end a.ok.hh hI hl (by rw[pC];exact hv) fun h' he'=>hQ _ fun σ' e=>by
    cases e
    exact a.drop (own:=[]) (fun b o hb e=>he' b o hb e) (az _)
  |some z=>
   obtain⟨v,hv,hz⟩:=Each.get f hx
   refine wpAny_pyNext_list_item hI hl (x:=v) (by rw[pC];exact hv) fun h' hit' hs'=>?_
   obtain⟨o',ho',c',d'⟩:=id hit'
   exact hQ v [(I,o')] _ (a.turn (own:=[]) hR ho' (fun b o hb e=>hs'.extBut b o hb e) (az _)) hz ⟨o',b,rfl,rfl,⟨c',d'⟩,q⟩
 go:=fun{G c ρ σ s I j l rr v tgt Q E} a ⟨o,b,e,e2,h,q⟩ hQ=>by
  subst e e2
  exact letGo (a.heap (p:=(I,o)) (.head _)) h.c (by decide) hQ
 self:=fun{G c ρ σ s I j l rr Q E} a ⟨o,b,e,e2,h,q⟩ hQ=>by
  subst e e2
  exact wpAny_pyIter_listiter ⟨o,a.heap (p:=(I,o)) (.head _),h.c,h.d⟩ hQ
 back:=fun{G c ρ σ s I j l rr σ'} hR a ⟨o,b,e,e2,h,q⟩ hb=>by
  subst e e2
  cases hb
  exact At.same (own:=[]) a
end
end
end Ex
end
section
namespace Ex
set_option genSizeOf false
noncomputable section
noncomputable def jP (scope cs:Scope):Scope:={scope with names:=scope.names.map fun(n,k)=>if(k==.free&&cs.names.lookup n==some .cell) then(n,.cell) else(n,k)}
noncomputable def Gx.comp (G:Gx) (scope:Scope) (cvk:List (Str×Nat)):Gx:=⟨G.D,G.T,0,jP scope G.cs,fun qq qq qq=>False,[],[],[],cvk,false⟩
theorem Tn{c:Cx}(hk:pU c.env c.cs c.L)(scope:Scope):relabel scope c.env=jP scope c.cs:=by
 unfold relabel jP Env.kindOf
 rw[hk.kind,hk.names]
 congr 1
 refine uI fun x qq=>?_
 obtain⟨n,k⟩:=x
 simp
theorem To{env:Env}:∀(l:List (Str×NameKind)) (cs0:List (Str×Addr)),(∀y∈l,y.2=.free→∃a,env.cells.lookup y.1=some a)→
 ∃cl,(forIn l cs0 (fun x cs=>(match x with|(name,kind)=>if(kind==uR)=true then do
  let a ←cellOf env name
  pure (ForInStep.yield ((name,a)::cs)) else pure (ForInStep.yield cs)):(Str×NameKind)→List (Str×Addr)→Sem (ForInStep (List (Str×Addr)))))=pure cl∧
  (∀n a,((n,uR)∈l∨cs0.lookup n=some a)→(∀b,cs0.lookup n=some b→b=a)→env.cells.lookup n=some a→cl.lookup n=some a):=fun l=>by
 induction l with
 |nil=>exact fun cs0 qq=>⟨cs0,rfl,fun n a h qq qq=>h.elim (fun h=>by cases h) id⟩
 |cons y l ih=>
  intro cs0 h
  obtain⟨nm,k⟩:=y
  rw[rG]
  dsimp only
  by_cases hk:(k==uR)=true
  ·obtain⟨a,ha⟩:=h _ (.head _) (by simpa using hk)
   obtain⟨cl,e,hcl⟩:=ih ((nm,a)::cs0) fun y hy=>h y (.tail _ hy)
   refine⟨cl,?_,fun n b hn hb he=>?_⟩
   ·rw[if_pos hk]
    unfold cellOf
    rw[ha]
    simp only[pure_bind]
    exact e
   ·by_cases hnm:n=nm
    ·subst hnm
     rw[ha] at he
     cases he
     exact hcl n a (.inr Cg) (fun b hb'=>by rw[Cg] at hb';cases hb';rfl) ha
    ·have hl:nF n ((nm,a)::cs0)=cs0.lookup n:=by rw[J8,beq_false_of_ne hnm]
     refine hcl n b (hn.imp (fun hn=>?_) (fun hn=>by rw[hl];exact hn)) (fun b' h'=>by rw[hl] at h';exact hb b' h') he
     rcases bV.mp hn with h'|h'
     ·cases h';exact absurd rfl hnm
     ·exact h'
  ·obtain⟨cl,e,hcl⟩:=ih cs0 fun y hy=>h y (.tail _ hy)
   refine⟨cl,?_,fun n b hn hb he=>hcl n b (hn.imp (fun hn=>?_) id) hb he⟩
   ·rw[if_neg hk]
    simp only[pure_bind]
    exact e
   ·rcases bV.mp hn with h'|h'
    ·cases h';exact absurd rfl hk
    ·exact h'
theorem Tq{env:Env}{scope:Scope}(h:∀y∈scope.names,y.2=.free→∃a,env.cells.lookup y.1=some a):∃cl,closureFor scope env=pure cl∧∀n a,(n,uR)∈scope.names→env.cells.lookup n=some a→cl.lookup n=some a:=by
 obtain⟨cl,e,hcl⟩:=To scope.names [] h
 refine⟨cl,?_,fun n a hn ha=>hcl n a (.inl hn) (fun b hb=>by cases hb) ha⟩
 unfold closureFor
 refine Eq.trans ?_ e
 refine(bind_pure _).trans ?_
 congr 1
structure qe (G:Gx) (scope:Scope) (cvk:List (Str×Nat)):Prop where
 kind:scope.kind=.function
 cell:∀y∈scope.names,y.2≠.cell
 loc:∀y∈scope.names,y.2=.local→scope.names.lookup y.1=some .local
 sub:∀x∈cvk,x∈G.cv
 free:∀y∈scope.names,y.2=.free→∃k,(y.1,k)∈G.cv
 back:∀x∈cvk,(x.1,uR)∈scope.names
section
variable{G:Gx}{c:Cx}{ρ ρ₀:List Addr}{σ σ':SS}{s s':Shared}
noncomputable abbrev Cx.sL (c:Cx) (env:Env) (cs:Scope) (C:Addr) (oL:Obj):Cx:=⟨c.A,c.A₀,c.base,c.h₀,c.outer,env,cs,C,(c.L,oL)::c.X,c.R⟩
theorem vW{g:Heap}{a:Addr}(ha:g.objs.size≤a):g.get? a=none:=by
 cases e:g.get? a with
 |none=>rfl
 |some o'=>exact absurd (b4 e) (nH.mpr ha)
theorem At.enter{l rr:List (Addr×Obj)}{env:Env}{cs:Scope}{cvk:List (Str×Nat)}{scope:Scope}{oL:Obj}(a:At G (c.plus l rr) ρ σ s)(hL:s.heap.get? c.L=some oL)(hk:pU env cs s.heap.objs.size)(hcs:cs=jP scope G.cs)(hcv:∀x∈cvk,∃a,env.cells.lookup x.1=some a∧ρ[x.2]? =some a)
 {h':Heap} (hn:∃m,h'.Ns s.heap.objs.size m) (hkeep:∀b o,s.heap.get? b=some o→h'.get? b=some o) {tk:Nat} (ht:s.toks≤tk):At (G.comp scope cvk) ((c.sL env cs s.heap.objs.size oL).plus l rr) ρ ⟨[],σ.objs,σ.fa⟩ {s with heap:=h',toks:=tk}:=by
 obtain⟨m,⟨ls,ad,l1,l2,g,gr,F,N⟩,hl⟩:=a.R
 obtain⟨m',hn⟩:=hn
 have hlt:=b4 hL
 have hN:∀p∈flat ls++(l++c.X),p.1≠c.L:=fun p hp=>(N p hp).2.1
 have pm:(flat ls++(l++(c.L,oL)::c.X)).Perm ((c.L,oL)::(flat ls++(l++c.X))):=by
  rw[←bD,←bD];exact iH
 refine⟨⟨⟨m',⟨ls,ad,l1,(pm.map aN).nodup_iff.mpr (cM.mpr ⟨fun hq=>?_,l2⟩),g,gr,⟨hn,fun b o e=>hkeep _ _ (F.keep _ _ e),?_⟩,fun p hp=>?_⟩,fun x y e=>(by cases e)⟩,a.tp.to ht,a.fa⟩,hcs,⟨a.ok.XB,a.ok.TB,fun h0=>absurd h0 (CV _),hk,a.ok.hh,cK (eG (ef _) _) a.ok.hd,cK (gC (eG (lK 8 (ef _)) _) _) a.ok.hu⟩,a.tk,fun p hp=>(f7.mp (a.rx p hp)).elim (uG _) fun h=>bF _ (.tail _ h),hcv,fun h0=>(by cases h0)⟩
 ·obtain⟨p,hp,e⟩:=dh.mp hq
  exact hN p hp e
 ·exact ah F.above (gF hlt)
 ·rcases bV.mp (pm.subset hp) with rfl|hp
  ·exact⟨hkeep _ _ hL,cU hlt,vW F.above⟩
  ·exact⟨hkeep _ _ (N p hp).1,cU (b4 (N p hp).1),(N p hp).2.2⟩
theorem At.leave{env:Env}{cs:Scope}{C:Addr}{oL:Obj}{m:Str→Option Value}{h₀:Heap}{ρ₁:List Addr}{loc:List (Str×SV)}(a:RepS G.D (c.sL env cs C oL) ρ σ s)(hL:h₀.get? c.L=some oL)(hns:h₀.Ns c.L m)(hab:c.h₀.objs.size≤c.L)(hC:c.L<C)(hl:eX G.D ρ₁ loc m)(p:ρ₁<+:ρ):
 ∃oC m',s.heap.Ns C m'∧s.heap.get? C=some oC∧RepS G.D (c.plus [(C,oC)]) ρ ⟨loc,σ.objs,σ.fa⟩ s:=by
 obtain⟨⟨m',⟨ls,ad,l1,l2,g,gr,F,N⟩,_⟩,tp,fa⟩:=a
 obtain⟨oC,hoC⟩:∃oC,s.heap.get? C=some oC:=let⟨o,es,ep,ho,_⟩:=F.ns;⟨o,ho⟩
 have pm:(flat ls++((c.L,oL)::c.X)).Perm ((c.L,oL)::(flat ls++c.X)):=iH
 have pm2:(flat ls++((C,oC)::c.X)).Perm ((C,oC)::(flat ls++c.X)):=iH
 have hz:=N (c.L,oL) (pm.symm.subset (.head _))
 have nd:=(pm.map aN).nodup_iff.mp l2
 rw[eL,cM] at nd
 have N':∀q∈flat ls++c.X,_:=fun q hq=>N q (pm.symm.subset (.tail _ hq))
 refine⟨oC,m',F.ns,hoC,⟨m,⟨ls,ad,l1,(pm2.map aN).nodup_iff.mpr (cM.mpr ⟨fun hq=>?_,nd.2⟩),g,gr,⟨hns.at' fun o e=>?_,F.keep,by rw[gr.t.size];exact hab⟩,fun q hq=>?_⟩,hl.mono p⟩,tp,fa⟩
 ·obtain⟨q,hq,e⟩:=dh.mp hq
  exact(N' q hq).2.1 e
 ·rw[hL] at e;cases e;exact hz.1
 ·rcases bV.mp (pm2.subset hq) with rfl|hq
  ·exact⟨hoC,uT hC,vW F.above⟩
  ·exact⟨(N' q hq).1,fun e=>nd.1 (dh.mpr ⟨q,hq,e⟩),(N' q hq).2.2⟩
noncomputable abbrev Fc (G:Gx) (j:Nat) (J:Nat→Nat→SS→Prop) (n i:Nat) (y:SV) (σ:SS):Prop:=∃p ys,σ.objs.list[j]? =some (.list p ys)∧(∀us,jg p us→us.length+ys.length≤16777216)∧∃p' ys',(∀us ρ vs v,jg p us→aG G.D ρ ys vs→VR G.D ρ y v→∃us' vs',us++(vs++[v])=us'++vs'∧jg p' us'∧aG G.D ρ ys' vs')∧∃n',n'<n∧J n' (i+1) ⟨[],OL.s σ.objs j (.list p' ys'),σ.fa⟩
structure Mk (G:Gx) (scope:Scope) (cvk:List (Str×Nat)) (tgt elt:Expr) (j:Nat) (S:Src) (J:Nat→Nat→SS→Prop) (P:SS→Prop):Prop where
 turn:∀n i σ,J n i σ→∃r,S.it σ i=some r∧match r with
  |some z=>fO (G.comp scope cvk) tgt z ⟨[],σ.objs,σ.fa⟩ fun σ=>aq (G.comp scope cvk) elt σ (Fc G j J n i)
  |Option.none=>Bk S P σ
theorem Tt{G':Gx}{j D:Nat}{J:Nat→Nat→SS→Prop}{n i:Nat}{y:SV}{u:Value}{Q:Value→Shared→Prop}{E:Value→Shared→Prop}(a:At G' c ρ σ s)(hD:VR G'.D ρ (.obj j) (.ref D))(q:VR G'.D ρ y u)(k:Fc G' j J n i y σ)
 (hQ:∀(v:Value) (n':Nat) (σ₆:SS) (s₆:Shared),n'<n→J n' (i+1) ⟨[],σ₆.objs,σ₆.fa⟩→At G' c ρ ⟨[],σ₆.objs,σ₆.fa⟩ s₆→Q v s₆):wpAny G'.D.M c.A (call (.builtin "list.append") [.ref D,u]) Q E s:=by
 obtain⟨p,ys,ho,hz,q',ys',hq,n',hn,hj⟩:=k
 obtain⟨b,us,vs,k,m,g,A,B,e,hp,f,F,N,nd,back⟩:=a.sA ho hD
 cases e
 obtain⟨us',vs',e,h1,h2⟩:=hq us ρ vs u hp f q
 have e2:(us'++vs':List Value).toArray=(us++vs:List Value).toArray.push u:=by rw[←e];simp
 exact append_K F N (rW (o':=listOf ((us++vs:List Value).toArray.push u) (k+1)) nd) (fun h' F' N'=>hQ _ n' ⟨[],OL.s σ.objs j (.list q' ys'),σ.fa⟩ _ hn hj (a.to (pr _) ⟨let⟨m,l,_⟩:=back q' ys' us' vs' (k+1) h' h1 h2 F' (e2▸N');⟨m,l,fun qq qq e=>by cases e⟩,a.tp.to (az _),a.fa⟩)) (by
  have:=hz us hp
  rw[rD,bG,←Each.len f,sizeLine_eq];exact this)
inductive Tu (G:Gx) (ci:Cx) (S:Src) (J:Nat→Nat→SS→Prop) (I:Addr) (ρ₂:List Addr) (rr:List (Addr×Obj)) (n:Nat) (s:Shared):Prop
 |mk (i:Nat) (ρ':List Addr) (σ':SS) (l':List (Addr×Obj)) (p:ρ₂<+:ρ') (a:At G (ci.plus l' rr) ρ' σ' s) (o:S.ob G.D I ρ' i l' rr) (h:J n i σ')
theorem Tv{elt iter tgt:Expr}{pos:Pos}{scope:Scope}{cvk:List (Str×Nat)}{ci:Cx}{S:Src}{J:Nat→Nat→SS→Prop}{Pz:SS→Prop}{ρ₂:List Addr}{I D j:Nat}{os:OL}{fa:List Fact}{l rr:List (Addr×Obj)}{R:Result→Shared→Prop}{n:Nat}(M:Mk G scope cvk tgt elt j S J Pz)(rx:∀p∈ci.R,p∈ci.X)(hD:VR G.D ρ₂ (.obj j) (.ref D)){s3:Shared}
 (a₃:At (G.comp scope cvk) (ci.plus l rr) ρ₂ ⟨[],os,fa⟩ s3) (hob:S.ob G.D I ρ₂ 0 l rr) (hJ:J n 0 ⟨[],os,fa⟩)
 (fin:∀σ₅ ρ' s₅,Pz σ₅→ρ₂<+:ρ'→RepS G.D ci ρ' σ₅ s₅→R (.ok .next) s₅):codeAny G.D.M ci.A (.compLoop (.ListComp elt [⟨tgt,iter,[],0⟩] scope pos) 0 (.ref I) (.ref D) ci.env) R s3:=by
 have no:∀{c' ρ e s},PX (G.comp scope cvk) c' ρ e s→False:=fun⟨_,_,_,_,_,z⟩=>z
 refine kcp_loop (Tu (G.comp scope cvk) ci S J I ρ₂ rr) ?_ n ⟨0,_,_,l,pr _,a₃,hob,hJ⟩
 rintro n s' ⟨i,ρ',σ',l',p,a',hob',hJ⟩
 obtain⟨r,hr,hk⟩:=M.turn n i σ' hJ
 refine S.next (G:=G.comp scope cvk) (c:=ci) rx a' hob' hr ?_
 cases r with
 |none=>
  intro s₅ hb
  obtain⟨σ₅,e,k⟩:=hk
  exact fin σ₅ ρ' s₅ k p (hb _ e)
 |some z=>
  intro v l₂ s₃ a₄ hz hob₄
  refine S.go (G:=G.comp scope cvk) (c:=ci) a₄ hob₄ ?_
  have a₄':At (G.comp scope cvk) (ci.plus l₂ rr) ρ' ⟨[],σ'.objs,σ'.fa⟩ s₃:=a₄.to (pr _) ⟨let⟨m,l,_⟩:=a₄.R;⟨m,l,fun qq qq e=>by cases e⟩,a₄.tp,a₄.fa⟩
  refine wpAny_mono (aK.go (ρ₀:=ρ') (w:=v) hk a₄' (pr _) hz (Q:=fun qq s₄=>∃ρ₄ σ₄,ρ'<+:ρ₄∧At (G.comp scope cvk) (ci.plus l₂ rr) ρ₄ σ₄ s₄∧aq (G.comp scope cvk) elt σ₄ _) fun ρ₃ σ₃ qq qq s₃ p₃ qq a₃ qq k₃=>⟨ρ₃,σ₃,p₃,a₃,k₃⟩) (fun _ s₃ ⟨ρ₃,σ₃,p₃,a₃,k₃⟩=>?_) fun qq qq z=>(no z).elim
  refine wpAny_mono (aK.go (w:=()) k₃ a₃ p₃ trivial fun ρ₅ σ₅ y u s₅ p₅ qq a₅ q₅ k₅=>?_) (fun qq qq z=>z) fun qq qq z=>(no z).elim
  exact Tt (G':=G.comp scope cvk) (c:=ci.plus l₂ rr) a₅ (hD.mono (p.trans p₅)) q₅ k₅ fun qq n' σ₆ s₆ hn hj b=>⟨n',hn,i+1,ρ₅,⟨[],σ₆.objs,σ₆.fa⟩,l₂,p.trans p₅,b,S.mono hob₄ p₅,hj⟩
theorem Fd{elt iter tgt:Expr}{pos:Pos}{scope:Scope}{cvk:List (Str×Nat)}(sc:qe G scope cvk)(hs:∀env v,foldedSetIterable iter env v=pure v)(a:At G c ρ σ s){use:Option (Value→Sem Unit)}{Q:Value→Shared→Prop}{P:SS→Nat→Prop}
 (h:kL G iter σ fun S σ₁=>∃J n,Mk G scope cvk tgt elt σ₁.objs.length S J (fun σ=>P ⟨σ₁.loc,σ.objs,σ.fa⟩ σ₁.objs.length)∧J n 0 ⟨[],OL.a σ₁.objs (.list af []),σ₁.fa⟩)
 (fin:∀σ₅ j ρ' s' C oC D,P σ₅ j→ρ<+:ρ'→RepS G.D (c.plus [(C,oC)]) ρ' σ₅ s'→VR G.D ρ' (.obj j) (.ref D)→(∃m,s'.heap.Ns C m)→s'.heap.get? C=some oC→compPost G.D.M c.A (PX G c ρ) use Q (.ref D) C (.ok .next) s'):
 wpAny G.D.M c.A (comprehension (.ListComp elt [⟨tgt,iter,[],0⟩] scope pos) scope c.env (firstIterPos [⟨tgt,iter,[],0⟩] pos) (newList []) false (eval iter c.env) use) Q (PX G c ρ) s:=by
 obtain⟨cl,hclos,hcl⟩:=Tq (env:=c.env) (scope:=scope) fun y hy e=>by
  obtain⟨k,hx⟩:=sc.free y hy e
  obtain⟨ad,h1,_⟩:=a.cv _ hx
  exact⟨ad,h1⟩
 refine wpAny_comprehension_free (g:=⟨tgt,iter,[],0⟩) (gs:=[]) rfl (hs _) hclos sc.kind sc.loc (wpAny_mono (h c ρ s a) (fun xv s₁ z=>wpAny_mono z (fun it s₂ z=>?_) fun qq qq z=>z) fun qq qq z=>z)
 obtain⟨I,l,rr,S,ρ₁,σ₁,rfl,p₁,a₁,hob,J,n,M,hJ⟩:=z
 obtain⟨m,⟨ls,ad,l1,l2,g,gr,F,N⟩,hloc⟩:=a₁.R
 let D:=s₂.heap.objs.size
 have a₂:At G (c.plus l rr) (ρ₁++[D]) ⟨σ₁.loc,OL.a σ₁.objs (.list af []),σ₁.fa⟩ {s₂ with heap:=s₂.heap.push (listOf ([]:List Value).toArray 0)}:=a₁.to (cu _ _) ⟨⟨m,.new ad l1 l2 gr (F.push _) (N.push F _) (fun p hp=>b4 (N p hp).1) (lV.mk [] [] 0 rfl rfl .nil),hloc.mono (cu _ _)⟩,a₁.tp.to (az _),a₁.fa⟩
 have hD:VR G.D (ρ₁++[D]) (.obj σ₁.objs.length) (.ref D):=⟨D,(let⟨_,l,_⟩:=a₁.R;l.end D),rfl⟩
 have px:ρ₁<+:ρ₁++[D]:=cu _ _
 obtain⟨oL,hoL⟩:∃oL,s₂.heap.get? c.L=some oL:=let⟨o,es,ep,ho,_⟩:=F.ns;⟨o,ho⟩
 refine wpAny_newObj_type (hd:=by size_fits) (wpAny_newFunctionEnv sc.cell (by intro y hy;simp at hy) (fun h₁ hns₁ hsb₁=>?_) sc.kind)
 dsimp only at hns₁ hsb₁⊢
 have hC:=yF s₂.heap (listOf ([]:List Value).toArray 0)
 let C:=(s₂.heap.push (listOf ([]:List Value).toArray 0)).objs.size
 have hLC:c.L<C:=iF (b4 hoL) (ah (cV _) (aA hC.symm))
 have a₃:At (G.comp scope cvk) ((c.sL (compEnvC scope cl C c.env) (jP scope c.cs) C oL).plus l rr) (ρ₁++[D]) ⟨[],OL.a σ₁.objs (.list af []),σ₁.fa⟩ {s₂ with heap:=h₁,toks:=s₂.toks+([]:List (Str×Value)).length}:=
  At.enter (env:=compEnvC scope cl C c.env) (cs:=jP scope c.cs) a₂ (iE _ hoL) ⟨sc.kind,congrArg Scope.names (Tn a.ok.hk scope),rfl,a.ok.hk.dM,a.ok.hk.bi⟩ (congrArg (jP scope) a.cs) (fun x hx=>by
   obtain⟨ad,h1,h2⟩:=a₂.cv x (sc.sub x hx)
   exact⟨ad,hcl _ _ (sc.back x hx) h1,h2⟩) ⟨_,hns₁⟩ (fun b o e=>hsb₁.extBut b o (cU (b4 e)) (iE _ e)) (bC _ _)
 have hob₃:=S.mono hob px
 have loop:∀ci:Cx,ci=c.sL (compEnvC scope cl C c.env) (jP scope c.cs) C oL→∀s3,At (G.comp scope cvk) (ci.plus l rr) (ρ₁++[D]) ⟨[],OL.a σ₁.objs (.list af []),σ₁.fa⟩ s3→codeAny G.D.M ci.A (.compLoop (.ListComp elt [⟨tgt,iter,[],0⟩] scope pos) 0 (.ref I) (.ref D) ci.env) (compPost G.D.M c.A (PX G c ρ) use Q (.ref D) C) s3:=fun ci hci s3 a₃=>
  Tv M (by subst hci;exact fun p hp=>.tail _ (a.rx p hp)) hD a₃ hob₃ hJ fun σ₅ ρ' s₅ k p b=>by
   subst hci
   obtain⟨oC,mC,hn,hg,R⟩:=At.leave b hoL F.ns (by rw[←gr.t.size];exact F.above) hLC hloc (px.trans p)
   exact fin _ _ ρ' s₅ C oC D k (p₁.trans (px.trans p)) R (hD.mono p) ⟨_,hn⟩ hg
 have lp:=loop _ rfl _ a₃
 exact codeAny_compStart_list lp (S.self (G:=G.comp scope cvk) (c:=c.sL (compEnvC scope cl C c.env) (jP scope c.cs) C oL) a₃ hob₃ lp)
end
end
end Ex
end
section
namespace Ex
section
variable{prog:Program}{w:World}{A:Around}{E:Value→Shared→Prop}{s:Shared}
theorem Fe{it t:Addr}{items:Array Value}(hne:t≠it):∀(n i:Nat) (s:Shared) (Q:List Value→Shared→Prop),s.heap.IsListIter it t i→s.heap.IsList t items→i+n≤items.size→
 (∀h',h'.IsListIter it t (i+n)→jF it s.heap h'→Q ((items.toList.drop i).take n) {s with heap:=h'})→wpAny (model prog w) A (draw (.ref it) n) Q E s
 |0,i,s,Q,hit,_,_,hQ=>by
  show wpAny _ _ (pure []) Q E s
  exact wpAny_pure (by simpa using hQ s.heap hit (Heap.SameBut.refl ..))
 |n+1,i,s,Q,hit,ht,hle,hQ=>by
  have hlt:i<items.size:=by exact Om.lR hle
  show wpAny _ _ (pyNext (.ref it)>>=_) Q E s
  refine wpAny_bind (wpAny_pyNext_list_item hit ht (x:=items[i]) (by simp[hlt]) fun h₁ hit₁ hs₁=>?_)
  refine wpAny_bind (wpAny_holding (Fe hne n (i+1) _ _ hit₁ (ht.extBut hs₁.extBut hne) (by exact Om.fJ hle) fun h₂ hit₂ hs₂=>wpAny_pure ?_))
  have hd:items.toList.drop i=items[i]::items.toList.drop (i+1):=by simp[kg,hlt]
  have:=hQ h₂ (by rw[show i+(n+1)=i+1+n by exact Om.De];exact hit₂) (hs₁.trans hs₂)
  rw[hd,ym] at this
  exact this
theorem Tw{t:Addr}{items:Array Value}{Q:List Value→Shared→Prop}(hh:A.handled=none)(ht:s.heap.IsList t items)
 (hQ:∀h',C4 s.heap.objs.size s.heap h'→Q items.toList {s with heap:=h'}):wpAny (model prog w) A (unpackItems (.ref t) items.size none) Q E s:=by
 have hlt:t≠s.heap.objs.size:=by obtain⟨o,ho,_⟩:=ht;exact cU (b4 ho)
 unfold unpackItems
 refine wpAny_bind ?_
 ·unfold notIterableAtAll
  refine wpAny_bind (wpAny_specialOf ht.typeIs slot_list_iter.lookup ?_)
  refine wpAny_pure ?_
  simp only[rC,if_false]
  refine wpAny_bind (wpAny_holding (wpAny_pyIter_list ht ?_))
  refine wpAny_bind (wpAny_holding (Fe hlt items.size 0 _ _ ⟨_,rA _ rfl,rfl,rfl⟩ (ht.push _) (by exact Om.K1) fun h₁ hit₁ hs₁=>?_))
  have hall:List.take items.size (List.drop 0 items.toList)=items.toList:=by
   rw[pJ];exact fq (by simp)
  rw[hall]
  rw[if_neg (by simp)]
  have ht₁:h₁.IsList t items:=(ht.push _).extBut hs₁.extBut hlt
  refine wpAny_bind (wpAny_holding (wpAny_pyNext_list_end hh hit₁ ht₁ (by simp) fun h₂ he₂=>?_))
  simp only[Option.isSome_none,rC,if_false]
  refine wpAny_pure (hQ h₂ fun b o hb e=>he₂ b o hb (hs₁.extBut b o hb (iE _ e)))
theorem Tz{env:Env}{elts:List Expr}{x1}{pos:Pos}{t:Addr}{items:Array Value}{Q:Unit→Shared→Prop}(hh:A.handled=none)(ht:s.heap.IsList t items)
 (hn:(assignEach elts env).length=items.size) (hstar:(assignEach elts env).findIdx? (·.1)=none)
 (h:∀h',C4 s.heap.objs.size s.heap h'→wpAny (model prog w) A (assignInOrder ((assignEach elts env).map (·.2)) items.toList) Q E {s with heap:=h'}):
 wpAny (model prog w) A (assign (.Tuple elts x1 pos) env (.ref t)) Q E s:=by
 rw[arm_assign_Tuple]
 refine wpAny_bind (wpAny_standAt ?_)
 unfold unpack
 rw[hn,hstar]
 exact wpAny_bind (wpAny_holding (Tw hh ht h))
end
noncomputable section
noncomputable abbrev TA (e:Expr):Prop:=∀op,behindInMarks op e=false
set_option backward.match.sparseCases false in
noncomputable def vX (e:Expr):Option (PLift (TA e)):=match jK e with
 |some ⟨h⟩=>some ⟨h.marks⟩
 |Option.none=>match e with
  |.ListComp ..=>some ⟨fun qq=>rfl⟩
  |_=>af
noncomputable def Ff (e:Expr):Option (PLift (vL e)):=(EX e).map fun h=>⟨h.1.it⟩
noncomputable def TG (g:Comprehension):Option (PLift (g=⟨g.1,g.2,[],0⟩)):=match g with
 |⟨t,i,[],k⟩=>if h:k=0 then some ⟨h▸rfl⟩ else af
 |_=>af
noncomputable def TH (gs:List Comprehension):Option {p:Comprehension//gs=[⟨p.1,p.2,[],0⟩]}:=match gs with
 |[g]=>(TG g).map fun h=>⟨g,congrArg (fun x=>[x]) h.1⟩
 |_=>af
noncomputable def isFree (k:NameKind):Bool:=match k with
 |.free=>true
 |_=>false
noncomputable def vY (o:Option NameKind) (f:NameKind→Bool):Bool:=@aU NameKind (fun qq=>Bool) false f o
noncomputable def iS (scope:Scope):List (Str×Nat)→List (Str×Nat):=bu [] fun p qq ih=>@aj (fun qq=>List (Str×Nat)) ih (p::ih) (vY (lk p.1 scope.names) isFree)
noncomputable def vZ (G:Gx) (scope:Scope) (y:Str×NameKind):Bool:=match y.2 with
 |.cell=>false
 |.free=>(lk y.1 G.cv).isSome
 |.local=>vY (lk y.1 scope.names) fun k=>match k with
  |.local=>true
  |_=>false
 |_=>true
noncomputable def sM (G:Gx) (scope:Scope):Bool:=match scope.kind with
 |.function=>scope.names.all (vZ G scope)
 |_=>false
theorem Fg{scope:Scope}{x:Str×Nat}:∀{l:List (Str×Nat)},x∈iS scope l→x∈l∧(x.1,uR)∈scope.names:=@fun l=>by
 induction l with
 |nil=>intro h;cases h
 |cons p l ih=>
  intro h
  have h':x∈@aj (fun qq=>List (Str×Nat)) (iS scope l) (p::iS scope l) (vY (lk p.1 scope.names) isFree):=h
  cases e:vY (lk p.1 scope.names) isFree with
  |false=>rw[e] at h';exact⟨.tail _ (ih h').1,(ih h').2⟩
  |true=>
   rw[e] at h'
   rcases bV.mp h' with rfl|h'
   ·cases q:lk x.1 scope.names with
    |none=>rw[q] at e;cases e
    |some k=>rw[q] at e;cases k with
     |free=>exact⟨.head _,eU q⟩
     |_=>cases e
   ·exact⟨.tail _ (ih h').1,(ih h').2⟩
theorem v5{G:Gx}{scope:Scope}(h:sM G scope=true):qe G scope (iS scope G.cv):=by
 unfold sM at h
 cases e:scope.kind with
 |function=>
  rw[e] at h
  have all:=bH.mp h
  refine⟨e,fun y hy q=>?_,fun y hy q=>?_,fun x hx=>(Fg hx).1,fun y hy q=>?_,fun x hx=>(Fg hx).2⟩
  ·have:=all y hy;unfold vZ at this;rw[q] at this;cases this
  ·have:=all y hy
   unfold vZ at this
   rw[q] at this
   rw[←DS]
   cases z:lk y.1 scope.names with
   |none=>rw[z] at this;cases this
   |some k=>rw[z] at this;cases k with
    |«local»=>rfl
    |_=>cases this
  ·have:=all y hy
   unfold vZ at this
   rw[q] at this
   obtain⟨k,hk⟩:=afa.mp this
   exact⟨k,eU hk⟩
 |_=>rw[e] at h;cases h
section
variable{G:Gx}{σ:SS}
theorem TJ{ts:List Expr}{k:Nat}{p:Pos}{K:SS→Prop}{x:SV}{xs:List SV}{i:Nat}(hp:jM ts)(hx:x=.obj i)(ho:σ.objs.list[i]? =some (.list af xs))(hl:aB ts.length xs.length=true)(h:jj G ts xs σ K):fO G (.Tuple ts k p) x σ K:=fun c ρ s v a r=>by
 subst hx
 obtain⟨b,us,vs,rfl,rfl,f,ht⟩:=a.list ho r
 obtain⟨e1,e2⟩:=zy (env:=c.env) hp
 refine Tz a.ok.hh ht (by rw[e1,bh hl,Each.len f];simp) e2 fun h' he=>?_
 exact jj.go hp h (a.to (pr _) (a.toRepS.ext he)) (pr _) (by simpa using f) fun ρ' σ' s' p' a' z=>a'.vK p' z
theorem zL{elt iter tgt:Expr}{pos:Pos}{scope:Scope}{cvk:List (Str×Nat)}{K:SV→SS→Prop}(sc:qe G scope cvk)(hs:vL iter)
 (h:kL G iter σ fun S σ₁=>∃J n,Mk G scope cvk tgt elt σ₁.objs.length S J (fun σ=>K (.obj σ₁.objs.length) ⟨σ₁.loc,σ.objs,σ.fa⟩)∧J n 0 ⟨[],OL.a σ₁.objs (.list af []),σ₁.fa⟩):
 aq G (.ListComp elt [⟨tgt,iter,[],0⟩] scope pos) σ K:=fun c ρ s qq a qq=>by
 show wpAny _ _ (eval (.ListComp elt [⟨tgt,iter,[],0⟩] scope pos) c.env) _ _ s
 rw[eval_ListComp]
 refine Fd sc hs a (use:=af) (P:=fun σ₅ j=>K (.obj j) σ₅) h fun σ₅ j ρ' s' C oC D hP p R q hn hC=>?_
 obtain⟨m,hn⟩:=hn
 exact⟨m,hn,fun h' hs'=>⟨ρ',σ₅,.obj j,p,At.drop (own:=[]) (rr:=[]) (a.plus p R) (fun b o hb e=>hs'.extBut b o hb e) (az _),q,hP⟩⟩
end
end
end Ex
end
section
namespace Ex
noncomputable section
noncomputable def zM:List Nat→Bool:=bu true fun c qq ih=>@aj (fun qq=>Bool) false ih (cW c 0x110000)
theorem allLt_of:∀{l:List Nat},zM l=true→∀c∈l,c<0x110000:=@fun l=>by
 induction l with
 |nil=>exact fun qq c h=>by cases h
 |cons a l ih=>
  intro h c hc
  obtain⟨h1,h2⟩:=gM (a:=cW a 0x110000) h
  rcases bV.mp hc with rfl|hc
  ·exact ao h1
  ·exact ih h2 c hc
noncomputable def Tm.cp:Tm→Bool:=Tm.rec true fun qq l qq qq a b=>@aj (fun qq=>Bool) false (@aj (fun qq=>Bool) false b a) (zM l)
theorem Tm.TL{η:Ev}(h:nM η):∀{t:Tm},t.cp=true→∀c∈t.ev η,c<0x110000:=@fun t=>by
 induction t with
 |e=>exact fun qq c h=>by cases h
 |n k l a b iha ihb=>
  intro q c hc
  obtain⟨h1,q⟩:=gM (a:=zM l) q
  obtain⟨h2,h3⟩:=gM (a:=Tm.cp a) q
  have tw:∀(p:Nat→Bool) (l:List Nat),c∈l.takeWhile p→c∈l:=fun p l h=>(ye p).subset h
  have dw:∀(p:Nat→Bool) (l:List Nat),c∈l.dropWhile p→c∈l:=fun p l h=>(rm p).subset h
  match k with
  |0=>exact allLt_of h1 c hc
  |1=>exact h.pv _ c hc
  |2=>obtain rfl:=dU.mp hc;exact h.pc _
  |3=>exact iha h2 c (List.mem_of_mem_take hc)
  |4=>exact iha h2 c (JS hc)
  |5=>exact(f7.mp hc).elim (iha h2 c) (ihb h3 c)
  |6=>exact iha h2 c (tw _ _ hc)
  |7=>exact iha h2 c (tw _ _ hc)
  |8=>exact iha h2 c (dw _ _ hc)
  |9=>exact iha h2 c (dw _ _ hc)
  |_+10=>exact h.pf _ _ (iha h2) c hc
inductive TM (n:Nat) (h:Heap) (v w:Value):Prop
 |mk (d:PyData) (as bs:List Addr) (a:Reads h v d as) (b:Reads h w d bs) (c:d.canLay0=true) (k:d.depth≤n)
inductive TN (n:Nat) (h:Heap) (v w:List Value):Prop
 |mk (d:List PyData) (as bs:List Addr) (a:ReadsAll h v d as) (b:ReadsAll h w d bs) (c:PyData.canLayAll0 d=true) (k:PyData.depthAll d≤n)
noncomputable abbrev fy (G:Gx) (σ:SS) (n:Nat) (x y:SV):Prop:=∀c ρ s v w,At G c ρ σ s→VR G.D ρ x v→VR G.D ρ y w→TM n s.heap v w
noncomputable abbrev Fi (G:Gx) (σ:SS) (n:Nat) (x y:List SV):Prop:=∀c ρ s v w,At G c ρ σ s→aG G.D ρ x v→aG G.D ρ y w→TN n s.heap v w
noncomputable def aO (b:Bool):Option (PLift (b=true)):=@aj (fun b=>Option (PLift (b=true))) af (some ⟨rfl⟩) b
noncomputable abbrev TQ (x:SV) (z:Nat×Tm):Prop:=Is x fun W v=>∃t,v=.int (W.η.i z.1 (z.2.ev W.η)) t
noncomputable def v7 (x:SV):Option {z:Nat×Tm//TQ x z}:=match x with
 |.im k t=>some ⟨(k,t),id⟩
 |_=>af
noncomputable def afC {α:Type} (l:List α) (i:Nat):Option {o:α//l[i]? =some o}:=@aU α (fun o'=>o'=at? l i→Option {o:α//l[i]? =some o}) (fun qq=>af) (fun o h=>some ⟨o,(kC l i).symm.trans h.symm⟩) (at? l i) rfl
noncomputable def fQ (l:OL) (i:Nat):Option {o:SO//l.list[i]? =some o}:=@aU SO (fun o'=>o'=l.get i→Option {o:SO//l.list[i]? =some o}) (fun qq=>af) (fun o h=>some ⟨o,(OL.get_eq l i).symm.trans h.symm⟩) (l.get i) rfl
noncomputable def gq {α β γ:Type} (a:Option α) (b:Option β) (f:α→β→Option γ):Option γ:=@aU α (fun qq=>Option γ) af (fun a=>@aU β (fun qq=>Option γ) af (f a) b) a
noncomputable def fz {γ:Type} (a b:Option γ):Option γ:=@aU γ (fun qq=>Option γ) b some a
section
variable{G:Gx}{σ:SS}{x y:SV}{n:Nat}
noncomputable def TR (G:Gx) (σ:SS) (x y:SV):Option (PLift (fy G σ 0 x y)):=gq (cZ x) (cZ y) fun a b=>gq (aO (cz a.1 b.1)) (aO a.1.cp) fun h q=>some ⟨fun c ρ s v w at_ r r'=>by
 obtain⟨t,rfl⟩:=a.2 r
 obtain⟨u,rfl⟩:=b.2 r'
 rw[←dO h.1]
 exact⟨_,_,_,.str _ _,.str _ _,by
  show(Array.all _ _=true)
  rw[Array.all_eq_true']
  intro c hc
  exact decide_eq_true (Tm.TL G.D.gJ q.1 c (by simpa[ai] using hc)),az _⟩⟩
noncomputable def TS (G:Gx) (σ:SS) (x y:SV):Option (PLift (fy G σ 0 x y)):=gq (bA x) (bA y) fun a b=>(aO (decide (a.1=b.1))).map fun h=>⟨fun c ρ s v w at_ r r'=>by
 obtain⟨t,rfl⟩:=a.2 r
 obtain⟨u,rfl⟩:=b.2 r'
 rw[←of_decide_eq_true h.1]
 exact⟨_,_,_,.int _ _,.int _ _,rfl,az _⟩⟩
noncomputable def TU (G:Gx) (σ:SS) (x y:SV):Option (PLift (fy G σ 0 x y)):=gq (v7 x) (v7 y) fun a b=>gq (aO (aB a.1.1 b.1.1)) (aO (cz a.1.2 b.1.2)) fun h q=>some ⟨fun c ρ s v w at_ r r'=>by
 obtain⟨t,rfl⟩:=a.2 r
 obtain⟨u,rfl⟩:=b.2 r'
 rw[←dO q.1,←bh h.1]
 exact⟨_,_,_,.int _ _,.int _ _,rfl,az _⟩⟩
noncomputable def TX (G:Gx) (σ:SS) (x y:SV):Option (PLift (fy G σ 0 x y)):=gq (vy x) (vy y) fun a b=>(aO (decide (a.1=b.1))).map fun h=>⟨fun c ρ s v w at_ r r'=>by
 obtain rfl:=a.2 r
 obtain rfl:=b.2 r'
 rw[←of_decide_eq_true h.1]
 exact⟨_,_,_,.bool _,.bool _,rfl,az _⟩⟩
noncomputable def TY (G:Gx) (σ:SS) (x y:SV):Option (PLift (fy G σ 0 x y)):=gq (pX x) (pX y) fun a b=>some ⟨fun c ρ s v w at_ r r'=>by
 obtain rfl:=a.1 r
 obtain rfl:=b.1 r'
 exact⟨_,_,_,.none,.none,rfl,az _⟩⟩
theorem fy.up{m:Nat}(h:n≤m)(q:fy G σ n x y):fy G σ m x y:=fun c ρ s v w a r r'=>let⟨d,as,bs,h1,h2,h3,h4⟩:=q c ρ s v w a r r';⟨d,as,bs,h1,h2,h3,ah h4 h⟩
noncomputable def Fj (G:Gx) (σ:SS) (n:Nat) (x y:SV):Option (PLift (fy G σ n x y)):=(fz (TR G σ x y) (fz (TS G σ x y) (fz (TU G σ x y) (fz (TX G σ x y) (TY G σ x y))))).map fun h=>⟨h.1.up (ef _)⟩
noncomputable def sameAll (f:∀x y,Option (PLift (fy G σ n x y))):∀xs ys,Option (PLift (Fi G σ n xs ys)):=@bu SV (fun xs=>∀ys,Option (PLift (Fi G σ n xs ys)))
 (fun ys=>match ys with
   |[]=>some ⟨fun c ρ s v w a r r'=>by cases r;cases r';exact⟨_,_,_,.nil,.nil,rfl,ef _⟩⟩
   |_::_=>af)
 fun x xs ih ys=>match ys with
  |[]=>af
  |y::ys=>gq (f x y) (ih ys) fun h q=>some ⟨fun c ρ s v w a r r'=>by
    cases r using Each.ec with
    |cons r rs=>cases r' using Each.ec with
     |cons r' rs'=>
      obtain⟨d,as,bs,h1,h2,h3,h4⟩:=h.1 c ρ s _ _ a r r'
      obtain⟨ds,as',bs',h5,h6,h7,h8⟩:=q.1 c ρ s _ _ a rs rs'
      exact⟨d::ds,_,_,.cons h1 h5,.cons h2 h6,uH.mpr ⟨h3,h7⟩,Nat.max_le.mpr ⟨h4,h8⟩⟩⟩
noncomputable def TZ (f:∀x y,Option (PLift (fy G σ n x y))) (i j:Nat) (o p:SO) (ho:σ.objs.list[i]? =some o) (hp:σ.objs.list[j]? =some p):Option (PLift (fy G σ (n+1) (.obj i) (.obj j))):=gq (sq o) (sq p) fun xs ys=>(sameAll f xs.1 ys.1).map fun h=>⟨fun c ρ s v w a r r'=>by
 obtain⟨b,vs,rfl,f1,l1⟩:=a.tup (xs.2▸ho) r
 obtain⟨b',ws,rfl,f2,l2⟩:=a.tup (ys.2▸hp) r'
 obtain⟨ds,as',bs',h5,h6,h7,h8⟩:=h.1 c ρ s _ _ a f1 f2
 obtain⟨o,g1,g2,m,g3⟩:=l1
 obtain⟨o',g1',g2',m',g3'⟩:=l2
 exact⟨_,_,_,reads_tuple_at g1 g2 g3 (by simpa using h5),reads_tuple_at g1' g2' g3' (by simpa using h6),h7,jz h8⟩⟩
noncomputable def T3 (f:∀x y,Option (PLift (fy G σ n x y))) (i j:Nat) (o p:SO) (ho:σ.objs.list[i]? =some o) (hp:σ.objs.list[j]? =some p):Option (PLift (fy G σ (n+1) (.obj i) (.obj j))):=gq (ek o) (ek p) fun xs ys=>gq (ez xs.1.1) (ez ys.1.1) fun e e'=>(sameAll f xs.1.2 ys.1.2).map fun h=>⟨fun c ρ s v w a r r'=>by
 obtain⟨b,us,vs,rfl,q1,f1,l1⟩:=a.list (xs.2▸ho) r
 obtain⟨b',us',ws,rfl,q2,f2,l2⟩:=a.list (ys.2▸hp) r'
 rw[e.1] at q1
 rw[e'.1] at q2
 obtain rfl:=q1
 obtain rfl:=q2
 obtain⟨ds,as',bs',h5,h6,h7,h8⟩:=h.1 c ρ s _ _ a f1 f2
 obtain⟨o,g1,g2,m,g3⟩:=l1
 obtain⟨o',g1',g2',m',g3'⟩:=l2
 exact⟨_,_,_,reads_list_at g1 g2 g3 (by simpa using h5),reads_list_at g1' g2' g3' (by simpa using h6),h7,jz h8⟩⟩
noncomputable def T4 (G:Gx) (σ:SS) (n:Nat):∀x y,Option (PLift (fy G σ n x y)):=@cD (fun n=>∀x y,Option (PLift (fy G σ n x y))) (fun x y=>Fj G σ 0 x y) (fun n ih x y=>fz (Fj G σ (n+1) x y) (gq (dB x) (dB y) fun i j=>gq (fQ σ.objs i.1) (fQ σ.objs j.1) fun o p=>(fz (TZ ih i.1 j.1 o.1 p.1 o.2 p.2) (T3 ih i.1 j.1 o.1 p.1 o.2 p.2)).map fun h=>⟨by rw[i.2,j.2];exact h.1⟩)) n
theorem T5{K:SV→SS→Prop}(hn:av 3 G.n=true)(h:fy G σ 8 x y)(k:K (.bool false) σ):aC G (compareOp .NotEq) x y σ K:=.mk fun c ρ s v w a r r'=>by
 obtain⟨d,as,bs,h1,h2,h3,h4⟩:=h c ρ s v w a r r'
 have sh:SeqAt.shaped d=true:=uH.mpr ⟨h3,decide_eq_true (ah h4 (by decide))⟩
 refine ne_dataH h1 h2 sh sh (by have:=a.ok.hu;have:=ao hn;exact Om.K3 ‹_› this) ?_
 rw[SeqAt.eqv_refl d h3]
 exact a.give (V:=VR G.D) (x:=.bool false) (pr _) rfl k
variable{K:SV→SS→Prop}{i:Nat}
theorem T6{p:Option eS}{xs:List SV}(ho:σ.objs.list[i]? =some (.list p xs))(k:K (.bool false) σ):bB G (.builtin "isinstance") [.obj i,.val (.type "dict")] σ K:=.two<|.mk fun c ρ s v u a r w=>by
 obtain rfl:=w
 obtain⟨b,us,vs,rfl,_,_,o,ho,hc,_⟩:=a.list ho r
 exact IsiPair.list_dict ho hc (a.t1.give (V:=VR G.D) (x:=.bool false) (pr _) rfl k)
theorem T7{fs:List (Str×SV)}(ho:σ.objs.list[i]? =some (.dict fs))(k:K (.bool true) σ):bB G (.builtin "isinstance") [.obj i,.val (.type "dict")] σ K:=.two<|.mk fun c ρ s v u a r w=>by
 obtain rfl:=w
 obtain⟨b,kvs,rfl,_,o,es,ep,ho,hc,_⟩:=a.dict ho r
 exact IsiPair.dict_dict ho hc.1 (a.give (V:=VR G.D) (x:=.bool true) (pr _) rfl k)
theorem T8{fs:List (Tm×SV)}(ho:σ.objs.list[i]? =some (.bJ fs))(k:K (.bool true) σ):bB G (.builtin "isinstance") [.obj i,.val (.type "dict")] σ K:=.two<|.mk fun c ρ s v u a r w=>by
 obtain rfl:=w
 obtain⟨b,kvs,rfl,_,o,es,ep,ho,hc,_⟩:=a.bJ ho r
 exact IsiPair.dict_dict ho hc.1 (a.give (V:=VR G.D) (x:=.bool true) (pr _) rfl k)
theorem zN{W:Wd}{c:Cx}{g:Heap}(k:Gr W c g){d:Addr}(h:g.get? d=none):(d==sysModules)=false:=by
 obtain⟨mm,⟨o,_,_,ho,_⟩,_⟩:=(k.T.seer W.yZ).mods
 refine beq_eq_false_iff_ne.mpr fun e=>?_
 rw[e,ho] at h;cases h
theorem Fo{n:Nat}(h:av n 1000=true):(n:Int)<2^63:=by have:=ao h;exact Om.L7 this
theorem T9{xs:List SV}(ho:σ.objs.list[i]? =some (.list af xs))(hz:av xs.length 1000=true)(k:K (.int xs.length) σ):bB G (.builtin "len") [.obj i] σ K:=.one fun c ρ s v a r=>by
 obtain⟨b,us,vs,rfl,rfl,f,l⟩:=a.list ho r
 have e:([]++vs:List Value).toArray.size=xs.length:=by rw[rD];exact f.len.symm
 exact call_len_list l (by rw[e];exact Fo hz) (a.t2.give (V:=VR G.D) (x:=.int xs.length) (pr _) ⟨s.toks+1,by rw[e]⟩ k)
theorem At.free{o:SO}{c:Cx}{ρ:List Addr}{s:Shared}{b:Addr}(a:At G c ρ σ s)(ho:σ.objs.list[i]? =some o)(r:VR G.D ρ (.obj i) (.ref b))(hl:∀l,OR G.D c.R ρ b o l→∃ob t,l=(b,ob)::t):(b==sysModules)=false:=by
 obtain⟨b',m,e,_,⟨A,B,l,g,O,gr,F,N,_,_⟩⟩:=a.dN ho r
 cases e
 obtain⟨ob,t,rfl⟩:=hl _ O
 exact zN gr (N (b,ob) (bF _ (.head _))).2.2
theorem Ua{fs:List (Tm×SV)}(ho:σ.objs.list[i]? =some (.bJ fs))(hz:av fs.length 1000=true)(k:K (.int fs.length) σ):bB G (.builtin "len") [.obj i] σ K:=.one fun c ρ s v a r=>by
 obtain⟨b,kvs,rfl,f,hD⟩:=a.bJ ho r
 exact call_len_dict (a.free ho r fun l ⟨ob,_,e,_,_⟩=>⟨ob,[],e⟩) hD (by rw[←f.len];exact Fo hz) (a.t2.give (V:=VR G.D) (x:=.int fs.length) (pr _) ⟨s.toks+1,by rw[f.len]⟩ k)
end
end
end Ex
end
section
namespace Ex
open PySem.F
open PySem.Sem (wp)
theorem Ub:typeLookup (.type "list") "keys"=pure none:=by rw[typeLookup_type,builtinLookup_eq_fast];kernel_rfl
set_option maxHeartbeats 4000000 in
theorem Uc{prog:Program}{w:World}{A:Around}{E:Value→Shared→Prop}{s:Shared}{a:Addr}{xs:Array Value}{k:Nat}{Q:Option Value→Shared→Prop}
 (hx:s.heap.get? a=some {cls:=.type "list",data:=.seq xs k}) (hA:A.handled=none)
 (h:∀h' tk,(∀b o,s.heap.get? b=some o→h'.get? b=some o)→Q none {s with heap:=h',toks:=tk}):
 wpAny (model prog w) A (getAttr? (.ref a) "keys") Q E s:=by
 have hmiss:=Ub
 obtain⟨hp,g,d,tk,os⟩:=s
 have hT:∀tk',(⟨hp,g,d,tk',os⟩:Shared).TypeIs (.ref a) "list":=fun qq=>⟨_,hx,rfl⟩
 have f1:=sub_AttributeError
 have f3:=JO.lookup
 have f4:=JO.bind (.ref a)
 have f5:=am_list_getattr_none
 have hname:(["__module__","__name__","__qualname__","__doc__","__annotations__"]:List Str).contains "keys"=false:=by decide+kernel
 unfold getAttr? getAttrBy? getAttrBy
 repeat(any_goals(first|assumption|exact hT _|((with_reducible show wpAny _ _ (call (CU "list.__getattribute__") _ _) _ _ _);refine call_meets JO (hT _) am_entry_list_getattribute (F.args_list_getattribute_2 _ _) (meets_getattribute_miss_list a xs k #[] "keys" _ hmiss hname) ⟨hx,hA,fun h' tk' e hx'=>?_⟩)|wp_step))
 obtain⟨t',u',he⟩:=hx'.there
 show wpAny _ _ (getattributeRaised _ _ _ _ _ _ _) _ _ _
 unfold getattributeRaised
 repeat(any_goals(first|assumption|wp_step))
 exact h _ _ hx'.keeps
theorem Fp:entryFor table "dict.update.loop"=some Builtin.«dict.update.loop»:=entryFor_of_tree (by kernel_rfl)
theorem wc:plainId "dict.update.loop"=true:=by decide+kernel
inductive Fq (h:Heap) (p:Str×Value) (u:Value):Prop
 |mk (q:Addr) (t:Tok) (n:Nat) (e:u=.ref q) (g:h.get? q=some (listOf #[.str p.1 t,p.2] n))
noncomputable abbrev fR (h:Heap):List (Str×Value)→List Value→Prop:=Each (Fq h)
theorem fR.keep{h h':Heap}{ps:List (Str×Value)}{us:List Value}(r:fR h ps us)(hk:∀q o,pO q∈us→h.get? q=some o→h'.get? q=some o):fR h' ps us:=by
 induction r with
 |nil=>exact .nil
 |cons h _ ih=>obtain⟨q,t,n,rfl,g⟩:=h;exact .cons ⟨q,t,n,rfl,hk _ _ (.head _) g⟩ (ih fun q o hq=>hk q o (.tail _ hq))
theorem fR.get{h:Heap}{ps:List (Str×Value)}{us:List Value}(r:fR h ps us){q:Addr}(hq:pO q∈us):∃xs n,h.get? q=some (listOf xs n):=by
 induction r with
 |nil=>cases hq
 |cons h _ ih=>obtain⟨q',t,n,rfl,g⟩:=h;cases hq with
  |head=>exact⟨_,_,g⟩
  |tail _ hq=>exact ih hq
noncomputable def sN (kvs:List (Str×Value)) (ps:List (Str×Value)):List (Str×Value):=bu (fun kvs=>kvs) (fun p qq ih kvs=>ih (stored kvs p.1 p.2)) ps kvs
theorem Ud{kvs:List (Str×Value)}{k:Str}{v:Value}:(stored kvs k v).length≤kvs.length+1:=by
 unfold stored
 split
 ·rw[gE];exact cV _
 ·rw[bG];exact az _
section
variable{prog:Program}{w:World}{A:Around}{E:Value→Shared→Prop}{s:Shared}{d l I:Addr}{us:List Value}{ps kvs:List (Str×Value)}{k:Nat}
theorem Ue{items:Array Value}{res:Value}{R:Result→Shared→Prop}(hh:A.in1.handled=none)(hdI:d≠I)(hdl:d≠l)(hIl:l≠I):∀(ps:List (Str×Value)) (i:Nat) (us:List Value) (kvs:List (Str×Value)) (s:Shared),items.toList.drop i=us→s.heap.IsListIter I l i→s.heap.IsList l items→
 fR s.heap ps us→(∀q,pO q∈us→q≠d∧q≠I)→s.heap.DictOf (strKind prog w) d kvs→kvs.length+ps.length≤100000→
 (∀h' tk,s.toks≤tk→h'.DictOf (strKind prog w) d (sN kvs ps)→(∀b o,b≠d→b≠I→s.heap.get? b=some o→h'.get? b=some o)→R (.ok (.ret res)) {s with heap:=h',toks:=tk})→
 codeAny (model prog w) A (.builtin "dict.update.loop" ⟨[.ref d,.ref I,rawInt i,res],[]⟩) R s:=by
 intro ps
 induction ps with
 |nil=>
  intro i us kvs s hd hit hl hP hne hD hz hR
  cases hP
  refine codeAny_builtin Fp ?_
  rw[Around.under_plainId wc _]
  show wpAny _ A.in1 (pyNext (.ref I)>>=_) _ _ s
  have hnone:items[i]? =none:=by
   rw[←uF,pB]
   exact List.drop_eq_nil_iff.mp hd
  refine wpAny_bind (wpAny_pyNext_list_end hh hit hl hnone fun h' he'=>?_)
  show wpAny _ A.in1 (Builtin.Dict.addKeywords d []>>=fun qq=>ret res) _ _ _
  refine wpAny_bind (wpAny_of_eq (a:=()) (by rfl) (wpAny_pure ?_))
  exact hR h' s.toks (az _) (hD.at fun o e=>he' d o hdI e) fun b o hb hb2 e=>he' b o hb2 e
 |cons p ps ih=>
  intro i us kvs s hd hit hl hP hne hD hz hR
  cases hP using Each.ec with
  |@cons _ us hp hP=>
   obtain⟨q,t,n,rfl,hq⟩:=hp
   have hit0:items[i]? =some (.ref q):=by
    rw[←uF]
    have:(items.toList.drop i)[0]? =some (.ref q):=by rw[hd];rfl
    rw[List.getElem?_drop,CZ] at this
    exact this
   refine codeAny_builtin Fp ?_
   rw[Around.under_plainId wc _]
   show wpAny _ A.in1 (pyNext (.ref I)>>=_) _ _ s
   refine wpAny_bind (wpAny_pyNext_list_item hit hl hit0 fun h₁ hit₁ hs₁=>?_)
   have hq₁:h₁.get? q=some (listOf #[.str p.1 t,p.2] n):=hs₁.extBut _ _ (hne _ (.head _)).2 hq
   have ht:Shared.TypeIs {s with heap:=h₁} (.ref q) "list":=⟨_,hq₁,rfl⟩
   have hpair:∀(Q:List Value→Shared→Prop) (E:Value→Shared→Prop),Q [.str p.1 t,p.2] {s with heap:=h₁}→wpAny (model prog w) A.in1 (afl (.ref q)) Q E {s with heap:=h₁}:=fun Q E h=>by
    unfold afl
    refine wpAny_bind (wpAny_typeOf ht ?_)
    simp only[beq_self_eq_true,Bool.true_or,if_true]
    exact wpAny_bind (wpAny_seqItems hq₁ rfl (wpAny_pure h))
   have hk1:(strKind prog w).is p.1 (.str p.1 t)=true:=by
    show Value.isStrOf p.1 (.str p.1 t)=true
    simp[Value.isStrOf]
   refine wpAny_bind (wpAny_holding (wpAny_bind (wpAny_tryCatch (hpair _ _ ?_))))
   dsimp only
   refine wpAny_holding ?_
   have hD₁:h₁.DictOf (strKind prog w) d kvs:=hD.at fun o e=>hs₁.extBut _ _ hdI e
   have hz':kvs.length+ps.length+1≤100000:=hz
   refine wpAny_dictSet_pairs (s:={s with heap:=h₁}) hk1 hD₁ (fun h₂ hD₂ hs₂=>?_) (by rw[sizeLine_eq];exact Om.K4 hz)
   refine wpAny_pure ⟨plainId_quiet wc _,?_⟩
   refine ih (i+1) us (stored kvs p.1 p.2) {s with heap:=h₂,toks:=s.toks+1} (by rw[←uQ,hd];rfl) (hit₁.extBut hs₂.extBut (fH hdI)) ((hl.extBut hs₁.extBut hIl).extBut hs₂.extBut (fH hdl)) ?_ (fun q hq=>hne q (.tail _ hq)) hD₂ ?_ ?_
   ·exact fR.keep hP fun q' o hv ho=>hs₂.extBut _ _ (hne q' (.tail _ hv)).1 (hs₁.extBut _ _ (hne q' (.tail _ hv)).2 ho)
   ·exact ah (gC Ud _) (by exact Om.K5 hz')
   ·exact fun h' tk htk hD' hk=>hR h' tk (ah (cV _) htk) hD' fun b o hb hb2 e=>hk b o hb hb2 (hs₂.extBut _ _ hb (hs₁.extBut _ _ hb2 e))
theorem Ft{id:String}{R:Result→Shared→Prop}(hA:A.handled=none)(hdl:d≠l)(hl:s.heap.get? l=some (listOf us.toArray k))(hD:s.heap.DictOf (strKind prog w) d kvs)
 (hP:fR s.heap ps us) (hne:∀q,pO q∈us→q≠d) (hz:kvs.length+ps.length≤100000)
 (h:∀h' tk,h'.DictOf (strKind prog w) d (sN kvs ps)→(∀b o,b≠d→s.heap.get? b=some o→h'.get? b=some o)→R (.ok (.ret .none)) {s with heap:=h',toks:=tk}):
 wpAny (model prog w) A.in1 (Ce id d (.ref l) [] .none) (fun fin s'=>match fin with|.done f=>R (.ok f) s'|.again c'=>c'.quiet=true∧codeAny (model prog w) A c' R s') E s:=by
 unfold Ce
 refine wpAny_bind (wpAny_typeOf (T:="list") ⟨_,hl,rfl⟩ ?_)
 rw[if_pos (by decide)]
 refine wpAny_bind (Uc hl (by exact hA) fun h₂ tk₂ hk₂=>?_)
 simp only[Option.isNone_none,if_true]
 have hl₂:h₂.IsList l us.toArray:=⟨_,hk₂ _ _ hl,rfl,k,rfl⟩
 have hD₂:h₂.DictOf (strKind prog w) d kvs:=hD.at fun o e=>hk₂ _ _ e
 have hdlt:d<h₂.objs.size:=by obtain⟨_,_,_,e,_⟩:=hD₂;exact b4 e
 refine wpAny_bind (wpAny_rule (wpAny_bind (wpAny_pyIter_list hl₂ (wpAny_pure ⟨plainId_quiet wc _,?_⟩))))
 refine Ue (d:=d) (I:=h₂.objs.size) (l:=l) (items:=us.toArray) (by exact hA) (cU hdlt) hdl (cU (b4 (hk₂ _ _ hl))) ps 0 us kvs _ (by rfl) ⟨_,rA _ rfl,rfl,rfl⟩ (hl₂.push _) (fR.keep hP fun q o hv ho=>iE _ (hk₂ _ _ ho)) ?_ (hD₂.push _) hz ?_
 ·intro q hv
  obtain⟨o,_,ho⟩:=fR.get hP hv
  exact⟨hne q hv,cU (b4 (hk₂ _ _ ho))⟩
 ·exact fun h' tk qq hD' hk'=>h h' tk hD' fun b o hb hbo=>hk' b o hb (cU (b4 (hk₂ _ _ hbo))) (iE _ (hk₂ _ _ hbo))
theorem Ug{Q:Value→Shared→Prop}(hA:A.handled=none)(hl:s.heap.get? l=some (listOf us.toArray k))(hP:fR s.heap ps us)(hz:ps.length≤1000)
 (h:∀h' tk,h'.DictOf (strKind prog w) s.heap.objs.size (sN [] ps)→(∀b o,s.heap.get? b=some o→h'.get? b=some o)→Q (.ref s.heap.objs.size) {s with heap:=h',toks:=tk}):
 wpAny (model prog w) A (call (.type "dict") [.ref l]) Q E s:=by
 refine callType_codes (Q₁:=fun obj s₁=>obj=.ref s.heap.objs.size∧s₁={s with heap:=s.heap.push {cls:=.type "dict",data:=.dict #[]}}) F.kt_called_dict (F.kt_typeCall_dict_1 _) F.entry_dict_init (kt_code_dict_new _ ⟨rfl,rfl⟩) ?_
 rintro obj s₁ ⟨rfl,rfl⟩
 have hnew:(s.heap.push {cls:=.type "dict",data:=.dict #[]}).DictOf (strKind prog w) s.heap.objs.size []:=Heap.DictOf.new s.heap
 refine⟨hnew.typeIs,F.args_dict_init_2 _ _,?_⟩
 unfold Builtin.«dict.__init__»
 refine wpAny_bind ?_
 unfold afd
 refine wpAny_bind (wpAny_notOrdered_dict hnew.typeIs ?_)
 show wpAny _ _ (pure (s.heap.objs.size,[pO l])) _ _ _
 refine wpAny_pure ?_
 show wpAny _ _ (Ce "dict.__init__" s.heap.objs.size (.ref l) [] .none) _ _ _
 refine Ft (A:=A.in1) (by exact hA) (fH (cU (b4 hl))) (iE _ hl) hnew (fR.keep hP fun q o hv ho=>iE _ ho) ?_ (by rw[yD,jb];exact ah hz (by decide)) ?_
 ·intro q hv
  obtain⟨o,_,ho⟩:=fR.get hP hv
  exact cU (b4 ho)
 ·exact fun h' tk hD' hk'=>⟨rfl,h h' tk hD' fun b o hbo=>hk' b o (cU (b4 hbo)) (iE _ hbo)⟩
theorem Uh{Q:Value→Shared→Prop}(hA:A.handled=none)(hdl:d≠l)(hl:s.heap.get? l=some (listOf us.toArray k))(hD:s.heap.DictOf (strKind prog w) d kvs)
 (hP:fR s.heap ps us) (hne:∀q,pO q∈us→q≠d) (hz:kvs.length+ps.length≤100000)
 (h:∀h' tk,h'.DictOf (strKind prog w) d (sN kvs ps)→(∀b o,b≠d→s.heap.get? b=some o→h'.get? b=some o)→Q .none {s with heap:=h',toks:=tk}):
 wpAny (model prog w) A (call (.builtin "dict.update") [.ref d,.ref l]) Q E s:=by
 refine wpAny_call (codeAny_call_builtin F.slot_dict_update.plain F.entry_dict_update (F.slot_dict_update.check _ _ _ _ _ _ _ _ hD.typeIs (F.args_dict_update_2 _ _) ?_))
 unfold Builtin.«dict.update»
 refine wpAny_bind ?_
 unfold afd
 refine wpAny_bind (wpAny_notOrdered_dict hD.typeIs ?_)
 show wpAny _ _ (pure (d,[pO l])) _ _ _
 refine wpAny_pure ?_
 show wpAny _ _ (Ce "dict.update" d (.ref l) [] .none) _ _ _
 exact Ft (R:=wants Q E) hA hdl hl hD hP hne hz h
end
end Ex
end
section
namespace Ex
noncomputable section
noncomputable abbrev aI (η:Ev) (fa:List Fact):Prop:=∀f∈fa,f.ok η
set_option backward.match.sparseCases false in
noncomputable def sO (fa:List Fact) (a b:Tm) (t f:List Fact→Tr):Tr:=match(eqT ⟨[],.b [],fa⟩ a b).1 with
 |.bool v=>@aj (fun qq=>Tr) (f fa) (t fa) v
 |.bm k l p q=>.and (t (⟨k,l,p,q,true⟩::fa)) (f (⟨k,l,p,q,false⟩::fa))
 |_=>.ff
inductive Ui (η:Ev) (a b:Tm) (t f:List Fact→Tr):Prop
 |t (fa:List Fact) (ok:aI η fa) (e:a.ev η=b.ev η) (h:(t fa).h)
 |f (fa:List Fact) (ok:aI η fa) (e:a.ev η≠b.ev η) (h:(f fa).h)
theorem aI.cons{η:Ev}{fa:List Fact}{f:Fact}(h:f.ok η)(ok:aI η fa):aI η (f::fa):=fun g hg=>(bV.mp hg).elim (fun e=>e▸h) (ok g)
theorem zO{W:Wd}{fa:List Fact}{a b:Tm}{t f:List Fact→Tr}(h:(sO fa a b t f).h)(ok:aI W.η fa):Ui W.η a b t f:=by
 have e:=(eqT ⟨[],.b [],fa⟩ a b).2 (W:=W) ok
 unfold sO at h
 generalize(eqT ⟨[],.b [],fa⟩ a b).1=z at h e
 cases z with
 |bool v=>
  obtain rfl:decide (a.ev W.η=b.ev W.η)=v:=e
  by_cases q:a.ev W.η=b.ev W.η
  ·rw[decide_eq_true q] at h;exact .t fa ok q h
  ·rw[decide_eq_false q] at h;exact .f fa ok q h
 |bm k l p r=>
  have e':decide (a.ev W.η=b.ev W.η)=aZ W.η k l (p.ev W.η) (r.ev W.η):=e
  by_cases q:a.ev W.η=b.ev W.η
  ·rw[decide_eq_true q] at e';exact .t _ (aI.cons (f:=⟨k,l,p,r,true⟩) e'.symm ok) q h.1
  ·rw[decide_eq_false q] at e';exact .f _ (aI.cons (f:=⟨k,l,p,r,false⟩) e'.symm ok) q h.2
 |_=>exact h.elim
noncomputable def zP (k:Tm) (v:SV):List (Tm×SV)→List Fact→(List (Tm×SV)→List Fact→Tr)→Tr:=bu (fun fa K=>K [(k,v)] fa) fun p r ih fa K=>sO fa k p.1 (fun fa=>K ((p.1,v)::r) fa) fun fa=>ih fa fun r' fa=>K (p::r') fa
inductive Fv (W:Wd) (fs:List (Tm×SV)) (P:List (Tm×SV)→List (Str×Value)→List (Str×Value)→List Addr→Prop) (K:List (Tm×SV)→List Fact→Tr):Prop
 |mk (fs':List (Tm×SV)) (fa:List Fact) (ok:aI W.η fa) (h:(K fs' fa).h) (p:∀ρ kvs,fL W ρ fs kvs→(kvs.map (·.1)).Nodup→∀qs,P fs' kvs qs ρ)
theorem Fw{n k:Str}{v w:Value}{kvs:List (Str×Value)}(h:k≠n):stored ((n,w)::kvs) k v=(n,w)::stored kvs k v:=by
 unfold stored
 rw[CW,show decide ((n,w).1=k)=false from decide_eq_false fun e=>h e.symm,Ku]
 split
 ·rw[eL,if_neg fun e=>h e.symm]
 ·rfl
theorem Fx{k:Str}{v w:Value}{kvs:List (Str×Value)}(h:k∉kvs.map (·.1)):stored ((k,w)::kvs) k v=(k,v)::kvs:=by
 unfold stored
 rw[CW,decide_eq_true rfl,Bool.true_or,if_pos rfl,eL,if_pos rfl]
 congr 1
 refine(uI fun p hp=>?_).trans (C3 _)
 exact if_neg fun e=>h (dh.mpr ⟨p,hp,e⟩)
theorem Fy{a b:List Nat}(h:ai a=ai b):a=b:=congrArg (fun s:Str=>s.cps.toList) h
theorem Uj{W:Wd}{k:Tm}{v:SV}:∀{fs:List (Tm×SV)} {fa:List Fact} {K:List (Tm×SV)→List Fact→Tr},(zP k v fs fa K).h→aI W.η fa→Fv W fs (fun fs' kvs qq ρ=>∀w,VR W ρ v w→fL W ρ fs' (stored kvs (ai (k.ev W.η)) w)) K:=@fun fs=>by
 induction fs with
 |nil=>exact fun h ok=>⟨_,_,ok,h,fun ρ kvs r hn qq w q=>by cases r;exact .one ⟨rfl,q⟩⟩
 |cons p r ih=>
  intro fa K h ok
  cases zO (W:=W) (t:=fun fa=>K ((p.1,v)::r) fa) (f:=fun fa=>zP k v r fa fun r' fa=>K (p::r') fa) h ok with
  |t fa' ok' e h'=>
   refine⟨_,_,ok',h',fun ρ kvs rr hn qq w q=>?_⟩
   cases rr using Each.ec with
   |@cons z zs h1 h2=>
    obtain⟨n,u⟩:=z
    obtain⟨e1,e2⟩:=h1
    obtain rfl:n=ai (p.1.ev W.η):=e1
    rw[e,Fx (cM.mp hn).1]
    exact .cons ⟨rfl,q⟩ h2
  |f fa' ok' e h'=>
   obtain⟨fs',fa2,ok2,h2,P⟩:=ih h' ok'
   refine⟨_,_,ok2,h2,fun ρ kvs rr hn qs w q=>?_⟩
   cases rr using Each.ec with
   |@cons z zs h1 h3=>
    obtain⟨n,u⟩:=z
    obtain⟨e1,e2⟩:=h1
    obtain rfl:n=ai (p.1.ev W.η):=e1
    rw[Fw fun z=>e (Fy z)]
    exact .cons ⟨rfl,e2⟩ (P ρ _ h3 (cM.mp hn).2 qs w q)
noncomputable def qf:List (Tm×SV)→List (Tm×SV)→List Fact→(List (Tm×SV)→List Fact→Tr)→Tr:=bu (fun fs fa K=>K fs fa) fun p qq ih fs fa K=>zP p.1 p.2 fs fa fun fs' fa'=>ih fs' fa' K
theorem Uk{k n:Str}{v:Value}:∀{kvs:List (Str×Value)},n∈(stored kvs k v).map (·.1)→n=k∨n∈kvs.map (·.1):=@fun kvs h=>by
 unfold stored at h
 split at h
 ·rw[Ky] at h
  obtain⟨p,hp,e⟩:=dh.mp h
  refine .inr (dh.mpr ⟨p,hp,?_⟩)
  have e':(if p.1=k then(p.1,v) else p).1=n:=e
  split at e'<;>exact e'
 ·rw[cy] at h
  exact(f7.mp h).elim .inr fun h=>.inl (dU.mp h)
theorem Ul{k:Str}{v:Value}:∀{kvs:List (Str×Value)},(kvs.map (·.1)).Nodup→((stored kvs k v).map (·.1)).Nodup:=@fun kvs=>by
 induction kvs with
 |nil=>exact fun qq=>cM.mpr ⟨fun h=>(by cases h),.nil⟩
 |cons p kvs ih=>
  intro h
  obtain⟨n,w⟩:=p
  obtain⟨h1,h2⟩:=cM.mp h
  by_cases e:k=n
  ·subst e;rw[Fx h1];exact h
  ·rw[Fw e]
   exact cM.mpr ⟨fun hm=>(Uk hm).elim (fun z=>e z.symm) h1,ih h2⟩
theorem Fz{W:Wd}:∀{ps fs:List (Tm×SV)} {fa:List Fact} {K:List (Tm×SV)→List Fact→Tr},(qf ps fs fa K).h→aI W.η fa→Fv W fs (fun fs' kvs qs ρ=>fL W ρ ps qs→fL W ρ fs' (sN kvs qs)) K:=@fun ps=>by
 induction ps with
 |nil=>exact fun h ok=>⟨_,_,ok,h,fun ρ kvs r hn qs q=>by cases q;exact r⟩
 |cons p ps ih=>
  intro fs fa K h ok
  obtain⟨fs1,fa1,ok1,h1,P1⟩:=Uj (W:=W) (K:=fun fs' fa'=>qf ps fs' fa' K) h ok
  obtain⟨fs2,fa2,ok2,h2,P2⟩:=ih h1 ok1
  refine⟨_,_,ok2,h2,fun ρ kvs r hn qs q=>?_⟩
  cases q using Each.ec with
  |@cons z zs q1 q2=>
   have e:=q1.k
   have:=P1 ρ kvs r hn [] z.2 q1.v
   rw[←e] at this
   exact P2 ρ _ this (Ul hn) zs q2
noncomputable def we (k:Tm):List (Tm×SV)→List Fact→(SV→List Fact→Tr)→Tr:=bu (fun qq qq=>.ff) fun p r ih fa K=>sO fa k p.1 (K p.2) fun fa=>ih fa K
inductive Um (W:Wd) (k:Tm) (fs:List (Tm×SV)) (K:SV→List Fact→Tr):Prop
 |mk (x:SV) (fa:List Fact) (ok:aI W.η fa) (h:(K x fa).h) (p:∀ρ kvs,fL W ρ fs kvs→∃w,valueAt kvs (ai (k.ev W.η))=some w∧VR W ρ x w)
theorem Un{W:Wd}{k:Tm}:∀{fs:List (Tm×SV)} {fa:List Fact} {K:SV→List Fact→Tr},(we k fs fa K).h→aI W.η fa→Um W k fs K:=@fun fs=>by
 induction fs with
 |nil=>exact fun h=>h.elim
 |cons p r ih=>
  intro fa K h ok
  have hd:∀{z:Str×Value} {zs:List (Str×Value)},valueAt (z::zs) (ai (k.ev W.η))=if z.1=ai (k.ev W.η) then some z.2 else valueAt zs (ai (k.ev W.η)):=fun{z zs}=>by
   unfold valueAt
   rw[yE]
   by_cases e:z.1=ai (k.ev W.η)
   ·rw[decide_eq_true e,if_pos e];rfl
   ·rw[decide_eq_false e,if_neg e]
  cases zO (W:=W) (t:=K p.2) (f:=fun fa=>we k r fa K) h ok with
  |t fa' ok' e h'=>
   refine⟨_,_,ok',h',fun ρ kvs rr=>?_⟩
   cases rr using Each.ec with
   |cons h1 h2=>exact⟨_,by rw[hd,if_pos (h1.k.trans (congrArg ai e.symm))],h1.v⟩
  |f fa' ok' e h'=>
   obtain⟨x,fa2,ok2,h2,P⟩:=ih h' ok'
   refine⟨_,_,ok2,h2,fun ρ kvs rr=>?_⟩
   cases rr using Each.ec with
   |cons h1 h3=>
    obtain⟨w,e3,e4⟩:=P ρ _ h3
    exact⟨w,by rw[hd,if_neg fun z=>e (Fy (h1.k.symm.trans z)).symm];exact e3,e4⟩
noncomputable def wg (k:Tm) (t f:List Fact→Tr):List Tm→List Fact→Tr:=bu f fun p r ih fa=>sO fa k p t ih
theorem Uo{W:Wd}{k:Tm}{t f:List Fact→Tr}:∀{ts:List Tm} {fa:List Fact},(wg k t f ts fa).h→aI W.η fa→∃fa',aI W.η fa'∧(@aj (fun qq=>Tr) (f fa') (t fa') ((ts.map fun t=>ai (t.ev W.η)).any (· ==ai (k.ev W.η)))).h:=@fun ts=>by
 induction ts with
 |nil=>exact fun h ok=>⟨_,ok,h⟩
 |cons p r ih=>
  intro fa h ok
  rw[eL,CW,vz]
  cases zO (W:=W) (t:=t) (f:=fun fa=>wg k t f r fa) h ok with
  |t fa' ok' e h'=>exact⟨_,ok',by rw[decide_eq_true e.symm];exact h'⟩
  |f fa' ok' e h'=>rw[decide_eq_false fun z=>e z.symm];exact ih h' ok'
end
end Ex
end
section
namespace Ex
noncomputable section
section
variable{G:Gx}{σ:SS}{i j:Nat}{x y:SV}{c:Cx}{ρ:List Addr}{s:Shared}
theorem At.fact(a:At G c ρ σ s){fa:List Fact}(h:aI G.D.η fa):At G c ρ ⟨σ.loc,σ.objs,fa⟩ s:=a.to (pr _) ⟨let⟨m,l,r⟩:=a.R;⟨m,l,r⟩,a.tp,h⟩
theorem At.ek(a:At G c ρ σ s){xs:List SV}{v:Value}(ho:σ.objs.list[i]? =some (.list af xs))(r:VR G.D ρ (.obj i) v):∃b vs n,v=.ref b∧aG G.D ρ xs vs∧s.heap.get? b=some (listOf (vs:List Value).toArray n):=by
 obtain⟨b,us,vs,n,m,g,A,B,e,rfl,f,F,N,nd,back⟩:=a.sA ho r
 exact⟨b,vs,n,e,f,(N _ (bF _ (.head _))).1⟩
noncomputable abbrev wh (G:Gx) (σ:SS) (xs:List SV) (ps:List (Tm×SV)):Prop:=∀c ρ s vs,At G c ρ σ s→aG G.D ρ xs vs→∃qs,fL G.D ρ ps qs∧fR s.heap qs vs
noncomputable abbrev FW (G:Gx) (σ:SS) (x:SV) (p:Tm×SV):Prop:=∀c ρ s v,At G c ρ σ s→VR G.D ρ x v→∃q,TE G.D ρ p q∧Fq s.heap q v
noncomputable def Up (o:SO):Option {z:SV×SV//o=.list af [z.1,z.2]}:=match o with
 |.list p xs=>match p with
  |Option.none=>match xs with
   |[a,b]=>some ⟨(a,b),rfl⟩
   |_=>af
  |some _=>af
 |_=>af
theorem Uq{o:SO}{z:SV×SV}{k:Tm}(hx:x=.obj i)(ho:σ.objs.list[i]? =some o)(hz:o=.list af [z.1,z.2])(hk:IsT z.1 k):FW G σ x (k,z.2):=fun c ρ s v a r=>by
 subst hx
 obtain⟨b,vs,n,e,f,g⟩:=a.ek (hz▸ho) r
 cases f using Each.ec with
 |cons f1 f=>cases f using Each.ec with
  |@cons w _ f2 f=>cases f with
   |nil=>
    obtain⟨t,rfl⟩:=hk f1
    exact⟨(ai (k.ev G.D.η),w),⟨rfl,f2⟩,b,t,n,e,g⟩
noncomputable def ak {α β:Type} (o:Option α) (f:α→Option β):Option β:=@aU α (fun qq=>Option β) af f o
noncomputable def Ur (G:Gx) (σ:SS) (x:SV):Option {p:Tm×SV//FW G σ x p}:=ak (dB x) fun i=>ak (fQ σ.objs i.1) fun o=>ak (Up o.1) fun z=>ak (cZ z.1.1) fun k=>some ⟨(k.1,z.1.2),Uq i.2 o.2 z.2 k.2⟩
noncomputable def FY (G:Gx) (σ:SS):∀xs,Option {ps:List (Tm×SV)//wh G σ xs ps}:=@bu SV (fun xs=>Option {ps:List (Tm×SV)//wh G σ xs ps}) (some ⟨[],fun c ρ s vs a r=>by cases r;exact⟨[],.nil,.nil⟩⟩)
 fun x xs ih=>ak (Ur G σ x) fun p=>ak ih fun ps=>some ⟨p.1::ps.1,fun c ρ s vs a r=>by
  cases r using Each.ec with
  |cons r rs=>
   obtain⟨q,h1,h2⟩:=p.2 c ρ s _ a r
   obtain⟨qs,h3,h4⟩:=ps.2 c ρ s _ a rs
   exact⟨q::qs,.cons h1 h3,.cons h2 h4⟩⟩
theorem Us{K:SV→SS→Tr}{xs:List SV}{ps:List (Tm×SV)}(ho:σ.objs.list[i]? =some (.list af xs))(hp:wh G σ xs ps)(hz:av ps.length 1000=true)(h:(qf ps [] σ.fa fun fs fa=>K (.obj σ.objs.length) ⟨σ.loc,OL.a σ.objs (.bJ fs),fa⟩).h):bB G (.type "dict") [.obj i] σ (hh K):=.one fun c ρ s v a r=>by
 obtain⟨fs,fa,ok,hk,P⟩:=Fz (W:=G.D) h a.fa
 obtain⟨b,vs,n,rfl,f,g⟩:=a.ek ho r
 obtain⟨qs,h1,h2⟩:=hp c ρ s vs a f
 obtain⟨m,⟨ls,ad,l1,l2,g0,gr,F,N⟩,hl⟩:=(a.fact ok).R
 refine wpAny_with_toks (n:=1) a.tp.1 (wpAny_mono (Q:=fun v s'=>1≤s'.toks→PE G c ρ (hh K) v s') (Ug a.ok.hh g h2 (by rw[←h1.len];exact ao hz) fun h' tk hD hkeep htk=>?_) (fun qq qq z=>z) fun e s' (z:False)=>z.elim)
 obtain⟨ob,hob,hd⟩:=rH.mp hD
 refine At.made (a.fact ok) (s':={s with heap:=h',toks:=tk}) ad l1 l2 gr hl (F.after hkeep) (fun p hp=>?_) (fun p hp=>b4 (N p hp).1) (x:=.bJ fs) (kD.mk ob _ rfl hd (fL.mono (cu _ _) (P ρ [] .nil .nil qs h1))) ⟨htk,a.tp.2,a.tp.3⟩ (pr _) hk
 rcases bV.mp hp with rfl|hp
 ·exact⟨hob,uT F.ns.lt,by
   cases e:g0.get? s.heap.objs.size with
   |none=>rfl
   |some o=>exact absurd (b4 (F.keep _ _ e)) (CV _)⟩
 ·exact⟨hkeep _ _ (N p hp).1,(N p hp).2⟩
theorem Ut{K:SV→SS→Tr}{xs:List SV}{fs ps:List (Tm×SV)}(ho:σ.objs.list[i]? =some (.bJ fs))(hj:σ.objs.list[j]? =some (.list af xs))(hp:wh G σ xs ps)(hz:av (fs.length+ps.length) 1000=true)(h:(qf ps fs σ.fa fun fs fa=>K .none ⟨σ.loc,OL.s σ.objs i (.bJ fs),fa⟩).h):bB G (.builtin "dict.update") [.obj i,.obj j] σ (hh K):=.two<|.mk fun c ρ s v u a r q=>by
 obtain⟨fs',fa,ok,hk,P⟩:=Fz (W:=G.D) h a.fa
 obtain⟨b,vs,n,rfl,f,g⟩:=a.ek hj q
 obtain⟨qs,h1,h2⟩:=hp c ρ s vs a f
 obtain⟨d,kvs,rfl,f2,hD,back⟩:=(a.fact ok).zu (R:=fun ρ=>fL G.D ρ fs) ho (fun qq qq qq=>rfl) r
 have hnd:(kvs.map (·.1)).Nodup:=let⟨_,_,_,_,_,_,_,_,h⟩:=hD;h
 obtain⟨od,_,_,god,hcd,_⟩:=id hD
 have hdl:∀q,(∃xs n,s.heap.get? q=some (listOf xs n))→q≠d:=fun q ⟨xs,n,e⟩ z=>by
  subst z
  rw[god] at e
  obtain rfl:=jB e
  exact absurd (show Value.type "list"=.type "dict" from hcd.1) (by decide)
 refine wpAny_with_toks (n:=1) a.tp.1 (wpAny_mono (Q:=fun v s'=>1≤s'.toks→PE G c ρ (hh K) v s') (Uh a.ok.hh (hdl b ⟨_,_,g⟩).symm g hD h2 (fun q hq=>hdl q (fR.get h2 hq)) (by rw[←h1.len,←f2.len];exact ah (ao hz) (by decide)) fun h' tk hD' hkeep htk=>?_) (fun qq qq z=>z) fun e s' (z:False)=>z.elim)
 exact⟨ρ,⟨σ.loc,OL.s σ.objs i (.bJ fs'),fa⟩,.none,pr _,⟨back (.bJ fs') (fun ρ=>fL G.D ρ fs') _ h' (fun qq qq qq=>rfl) (P ρ kvs f2 hnd qs h1) hD' hkeep,⟨htk,a.tp.2,a.tp.3⟩,ok⟩,rfl,hk⟩
inductive wi (σ:SS) (i:Nat) (fs:List (Tm×SV)):Prop
 |own (h:σ.objs.list[i]? =some (.bJ fs))
 |lent (h:σ.objs.list[i]? =some (.eT fs))
theorem At.td(a:At G c ρ σ s){fs:List (Tm×SV)}{v:Value}(h:wi σ i fs)(r:VR G.D ρ (.obj i) v):D4 G.D ρ s.heap fs v:=by
 cases h with
 |own h=>exact a.bJ h r
 |lent h=>
  obtain⟨b,m,rfl,_,⟨A,B,l,g,O,gr,F,N,_,_⟩⟩:=a.dN h r
  obtain⟨o,kvs,rfl,hm,q,f⟩:=O
  exact⟨b,kvs,rfl,f,rH.mpr ⟨o,a.heap (p:=(b,o)) (a.rx _ hm),q⟩⟩
noncomputable def Uu (o:SO):Option {fs:List (Tm×SV)//∀(σ:SS) (i:Nat),σ.objs.list[i]? =some o→wi σ i fs}:=match o with
 |.bJ fs=>some ⟨fs,fun qq qq h=>.own h⟩
 |.eT fs=>some ⟨fs,fun qq qq h=>.lent h⟩
 |_=>af
theorem Uv{K:SV→SS→Tr}{k:Tm}{fs:List (Tm×SV)}(ho:wi σ i fs)(hk:IsT y k)(h:(we k fs σ.fa fun x fa=>K x ⟨σ.loc,σ.objs,fa⟩).h):aC G getItem (.obj i) y σ (hh K):=.mk fun c ρ s v u a r q=>by
 obtain⟨x,fa,ok,kk,P⟩:=Un (W:=G.D) h a.fa
 obtain⟨t,rfl⟩:=hk q
 obtain⟨b,kvs,rfl,f,hD⟩:=a.td ho r
 obtain⟨w,e,hr⟩:=P ρ kvs f
 exact wpAny_getItem_of (knd:=yG G.D.prog G.D.w) (k:=ai (k.ev G.D.η)) (zp _ t) hD.mapOf e ((a.fact ok).t1.give (V:=VR G.D) (x:=x) (pr _) hr kk)
theorem Uw{K:SV→SS→Prop}{oe ie:Expr}{fs:List (Tm×SV)}(hs:cG ie)(ho:wi σ i fs)(h:aC G getItem (.obj i) y σ K):aC G (subscriptTail oe ie) (.obj i) y σ K:=.mk fun c ρ s v u a r q=>by
 obtain⟨b,kvs,rfl,f,hD⟩:=a.td ho r
 exact tail_any hD.typeIs slot_dict_getitem.lookup (h c ρ s (.ref b,u) a ⟨r,q⟩) (hs.sub _ _)
noncomputable def FZ:∀xs:List SV,Option {ts:List Tm//∀{W:Wd} {ρ:List Addr} {vs:List Value},aG W ρ xs vs→StrsAre vs (ts.map fun t=>ai (t.ev W.η))}:=@bu SV (fun xs=>Option {ts:List Tm//∀{W:Wd} {ρ:List Addr} {vs:List Value},aG W ρ xs vs→StrsAre vs (ts.map fun t=>ai (t.ev W.η))}) (some ⟨[],fun r=>by cases r;exact .nil⟩)
 fun x xs ih=>ak (cZ x) fun t=>ak ih fun ts=>some ⟨t.1::ts.1,fun r=>by
  cases r using Each.ec with
  |cons r rs=>obtain⟨u,rfl⟩:=t.2 r;exact .cons _ _ (ts.2 rs)⟩
theorem Ux{K:SV→SS→Tr}{k:Tm}{xs:List SV}{ts:List Tm}(hk:IsT x k)(ho:σ.objs.list[j]? =some (.list af xs))(ht:∀{W:Wd} {ρ:List Addr} {vs:List Value},aG W ρ xs vs→StrsAre vs (ts.map fun t=>ai (t.ev W.η)))
 (h:(wg k (fun fa=>K (.bool false) ⟨σ.loc,σ.objs,fa⟩) (fun fa=>K (.bool true) ⟨σ.loc,σ.objs,fa⟩) ts σ.fa).h):aC G (compareOp .NotIn) x (.obj j) σ (hh K):=.mk fun c ρ s v u a r q=>by
 obtain⟨fa,ok,hk'⟩:=Uo (W:=G.D) h a.fa
 obtain⟨t,rfl⟩:=hk r
 obtain⟨b,vs,n,rfl,f,g⟩:=a.ek ho q
 refine notin_list_strs ⟨_,g,rfl,n,rfl⟩ (ht f) ?_
 generalize(ts.map fun t=>ai (t.ev G.D.η)).any (· ==ai (k.ev G.D.η))=z at hk'
 cases z with
 |false=>exact(a.fact ok).give (V:=VR G.D) (x:=.bool true) (pr _) rfl hk'
 |true=>exact(a.fact ok).give (V:=VR G.D) (x:=.bool false) (pr _) rfl hk'
end
end
end Ex
end
section
namespace Ex
noncomputable section
noncomputable def iT (o:SO):Bool:=match o with
 |.eT _=>true
 |_=>false
noncomputable def kM:OL→List Nat→Bool:=OL.rec (fun l ov=>List.all l fun o=>!iT o) (fun l x ih ov=>@aj (fun qq=>Bool) (ih ov) (@aj (fun qq=>Bool) false (ih ov) (aH l.length ov)) (iT x)) fun l i x ih ov=>@aj (fun qq=>Bool) (ih (i::ov)) (@aj (fun qq=>Bool) false (ih ov) (aH i ov)) (iT x)
theorem zQ{x:Nat}{l:List Nat}(h:aH x l=true):x∈l:=by
 induction l with
 |nil=>cases h
 |cons k l ih=>
  rw[gp,iI] at h
  exact h.elim (fun h=>bh h▸.head _) fun h=>.tail _ (ih h)
theorem Uy:∀{t:OL} {ov:List Nat},kM t ov=true→∀k o,k∉ov→t.list[k]? =some o→iT o=false:=@fun t=>by
 induction t with
 |b l=>
  intro ov h k o _ e
  have:=bH.mp h o (fZ e)
  simpa using this
 |a l x ih=>
  intro ov h k o hk e
  have h':@aj (fun qq=>Bool) (kM l ov) (@aj (fun qq=>Bool) false (kM l ov) (aH l.length ov)) (iT x)=true:=h
  have e':(l.list++[x])[k]? =some o:=(eW l.list x)▸e
  have hl:kM l ov=true:=by
   cases q:iT x with
   |false=>rw[q] at h';exact h'
   |true=>rw[q] at h';exact(gM (a:=aH l.length ov) h').2
  rw[List.getElem?_append] at e'
  by_cases z:k<l.list.length
  ·rw[if_pos z] at e';exact ih hl k o hk e'
  ·rw[if_neg z] at e'
   cases q:iT x with
   |false=>
    obtain⟨h1,h2⟩:=dg.mp e'
    obtain rfl:x=o:=by simpa using h2
    exact q
   |true=>
    rw[q] at h'
    have h1:=zQ (gM (a:=aH l.length ov) h').1
    have h2:=(dg.mp e').1
    have:k=l.length:=by rw[l.len_eq];simp at h2;exact Om.K6 z h2
    exact absurd (this▸h1) hk
 |s l i x ih=>
  intro ov h k o hk e
  have h':@aj (fun qq=>Bool) (kM l (i::ov)) (@aj (fun qq=>Bool) false (kM l ov) (aH i ov)) (iT x)=true:=h
  have e':(aL l.list i x)[k]? =some o:=e
  rw[kE] at e'
  by_cases z:k=i
  ·rw[if_pos z] at e'
   split at e'
   ·cases e'
    cases q:iT x with
    |false=>rfl
    |true=>rw[q] at h';exact absurd (z▸zQ (gM (a:=aH i ov) h').1) hk
   ·cases e'
  ·rw[if_neg z] at e'
   cases q:iT x with
   |false=>rw[q] at h';exact ih h' k o (fun m=>(bV.mp m).elim z hk) e'
   |true=>rw[q] at h';exact ih (gM (a:=aH i ov) h').2 k o hk e'
theorem OR.jh{W:Wd}{X X':List (Addr×Obj)}{ρ:List Addr}{a:Addr}{o:SO}{l:List (Addr×Obj)}(h:iT o=false)(r:OR W X ρ a o l):OR W X' ρ a o l:=by
 cases o with
 |eT=>cases h
 |_=>exact r
theorem LR.jh{W:Wd}{X X':List (Addr×Obj)}{ρ:List Addr}{os:List SO}{ls:List Cl}(h:∀(k:Nat) o,os[k]? =some o→iT o=false)(r:LR W X ρ os ls):LR W X' ρ os ls:=by
 induction r with
 |nil=>exact .nil
 |cons a r ih=>exact .cons (OR.jh (h 0 _ rfl) a) (ih fun k o e=>h (k+1) o e)
theorem OR.more{W:Wd}{X X':List (Addr×Obj)}{ρ:List Addr}{a:Addr}{o:SO}{l:List (Addr×Obj)}(h:∀p∈X,p∈X')(r:OR W X ρ a o l):OR W X' ρ a o l:=by
 cases o with
 |eT fs=>obtain⟨o,kvs,e,m,q,f⟩:=r;exact⟨o,kvs,e,h _ m,q,f⟩
 |_=>exact r
structure zR (o:Obj) (b i n ep:Nat):Prop where
 c:o.cls=.type "dict_keyiterator"
 d:o.data=.fields #[.ref b,.int i 0,.int n 0,.int ep 0]
inductive wj (j:Nat) (W:Wd) (I:Addr) (ρ:List Addr) (i:Nat) (l rr:List (Addr×Obj)):Prop
 |mk (o od:Obj) (b:Addr) (es:Array DictEntry) (ep:Nat) (e:l=[(I,o),(b,od)]) (e':rr=[(b,od)]) (k:zR o b i es.size ep) (d:od.data=.dict es ep) (q:ρ[j]? =some b)
noncomputable def F1 (o:SO):Option {fs:List (Tm×SV)//o=.eT fs}:=match o with
 |.eT fs=>some ⟨fs,rfl⟩
 |_=>af
noncomputable def F4 (j:Nat) (σ:SS) (i:Nat):Option (Option SV):=ak (OL.get σ.objs j) fun o=>ak (F1 o) fun fs=>some ((at? fs.1 i).map fun p=>.tm p.1)
noncomputable def F5 (j:Nat) (σ:SS):Option SS:=ak (OL.get σ.objs j) fun o=>ak (F1 o) fun fs=>ak (aO (kM (OL.s σ.objs j (.bJ fs.1)) [])) fun qq=>some ⟨σ.loc,OL.s σ.objs j (.bJ fs.1),σ.fa⟩
section
variable{G:Gx}{c:Cx}{ρ:List Addr}{σ:SS}{s:Shared}{i j:Nat}{b:Addr}{od:Obj}{fs:List (Tm×SV)}
theorem sP{α β:Type}{o:Option α}{f:α→Option β}{x:β}(h:ak o f=some x):∃a,o=some a∧f a=some x:=by
 cases o with
 |none=>cases h
 |some a=>exact⟨a,rfl,h⟩
theorem Uz{r:Option SV}(h:F4 j σ i=some r):∃fs,σ.objs.list[j]? =some (.eT fs)∧r=(fs[i]?).map fun p=>.tm p.1:=by
 obtain⟨o,h1,h⟩:=sP h
 obtain⟨⟨fs,e⟩,h2,h⟩:=sP h
 cases h
 exact⟨fs,(OL.get_eq _ _).symm.trans (e▸h1),by rw[kC]⟩
theorem F6{σ':SS}(h:F5 j σ=some σ'):∃fs,σ.objs.list[j]? =some (.eT fs)∧kM (OL.s σ.objs j (.bJ fs)) []=true∧σ'=⟨σ.loc,OL.s σ.objs j (.bJ fs),σ.fa⟩:=by
 obtain⟨o,h1,h⟩:=sP h
 obtain⟨⟨fs,e⟩,h2,h⟩:=sP h
 obtain⟨⟨h3⟩,h4,h⟩:=sP h
 cases h
 exact⟨fs,(OL.get_eq _ _).symm.trans (e▸h1),h3,rfl⟩
theorem qg{A B:List Cl}{b:Addr}{l:List (Addr×Obj)}:flat (A++(b,l)::B)=flat A++(l++flat B):=by simp[flat]
theorem At.lend(a:At G c ρ σ s)(ho:σ.objs.list[j]? =some (.bJ fs))(hb:ρ[j]? =some b):∃od kvs,s.heap.get? b=some od∧nN G.D od kvs∧(b==sysModules)=false∧At G (c.plus [(b,od)] [(b,od)]) ρ ⟨σ.loc,OL.s σ.objs j (.eT fs),σ.fa⟩ s:=by
 obtain⟨b',kvs,e,f,hD⟩:=a.bJ ho ⟨b,hb,rfl⟩
 cases e
 obtain⟨od,hod,hd⟩:=rH.mp hD
 obtain⟨⟨m,⟨ls,ad,l1,l2,g,gr,F,N⟩,hl⟩,tp,fa⟩:=a.toRepS
 obtain⟨A,y,B,hA,rfl,r,st⟩:=Each.at (Each.mono (fun o q r=>OR.more (X':=[(b,od)]++c.R) (fun p hp=>bF _ hp) r) l1) ho
 have ey:y.1=b:=by
  rw[←ad,cy,fj (by simp[hA])] at hb
  simpa[hA] using hb
 obtain⟨y1,y2⟩:=y
 obtain rfl:y1=b:=ey
 obtain⟨od',kvs',e,q,f'⟩:=r
 obtain rfl:y2=[(y1,od')]:=e
 rw[qg,bD] at l2 N
 have hN:=N (y1,od') (bF _ (.head _))
 obtain rfl:od'=od:=jB (hN.1.symm.trans hod)
 have pm:(flat A++([]++flat B)++([(y1,od')]++c.X)).Perm (flat A++([(y1,od')]++flat B++c.X)):=by
  rw[pH,bD,bD]
  exact ru _ iH
 refine⟨od',kvs,hod,hd,zN gr hN.2.2,⟨⟨m,⟨A++(y1,[])::B,by rw[←ad];simp,st (.eT fs) (y1,[]) (DV.mk od' kvs' rfl (.head _) q f'),?_,g,gr,F,?_⟩,hl⟩,tp,fa⟩,a.cs,⟨a.ok.XB,a.ok.TB,a.ok.hA,a.ok.hk,a.ok.hh,a.ok.hd,a.ok.hu⟩,a.tk,fun p hp=>?_,a.cv,a.hf⟩
 ·rw[qg];exact(pm.map aN).nodup_iff.mpr l2
 ·rw[qg];exact fun p hp=>N p (pm.subset hp)
 ·exact(f7.mp hp).elim (uG _) fun h=>bF _ (a.rx p h)
theorem RepS.give{D:Wd}(a:RepS D (c.plus [(b,od)] [(b,od)]) ρ σ s)(ho:σ.objs.list[j]? =some (.eT fs))(hb:ρ[j]? =some b)(hn:kM (OL.s σ.objs j (.bJ fs)) []=true)(hR:∀p∈c.R,p∈c.X):RepS D c ρ ⟨σ.loc,OL.s σ.objs j (.bJ fs),σ.fa⟩ s:=by
 obtain⟨⟨m,⟨ls,ad,l1,l2,g,gr,F,N⟩,hl⟩,tp,fa⟩:=a
 obtain⟨A,y,B,hA,rfl,r,st⟩:=Each.at l1 ho
 have ey:y.1=b:=by
  rw[←ad,cy,fj (by simp[hA])] at hb
  simpa[hA] using hb
 obtain⟨y1,y2⟩:=y
 obtain rfl:y1=b:=ey
 obtain⟨od',kvs',e,hm,q,f'⟩:=r
 obtain rfl:y2=[]:=e
 rw[qg] at l2 N
 have pm:(flat A++([]++flat B)++([(y1,od)]++c.X)).Perm (flat A++([(y1,od)]++flat B)++c.X):=by
  rw[pH,bD,bD]
  exact ru _ iH
 have hod:s.heap.get? y1=some od:=(N (y1,od) (bF _ (.head _))).1
 obtain rfl:od'=od:=(bV.mp hm).elim (fun e=>congrArg Prod.snd e) fun h=>jB ((N (y1,od') (bF _ (.tail _ (hR _ h)))).1.symm.trans hod)
 refine⟨⟨m,⟨A++(y1,[(y1,od')])::B,by rw[←ad];simp,LR.jh (fun k o=>Uy hn k o (by simp)) (st (.bJ fs) (y1,[(y1,od')]) (kD.mk od' kvs' rfl q f')),?_,g,gr,F,?_⟩,hl⟩,tp,fa⟩
 ·rw[qg];exact(pm.map aN).nodup_iff.mp l2
 ·rw[qg];exact fun p hp=>N p (pm.symm.subset hp)
theorem zR.is{o:Obj}{I b i n ep:Nat}{h:Heap}(k:zR o b i n ep)(g:h.get? I=some o):h.IsKeyIter I b i n ep:=⟨o,g,k.c,k.d⟩
theorem wj.at{I:Addr}{o:Obj}{es:Array DictEntry}{ep:Nat}(a:At G (c.plus [(I,o),(b,od)] [(b,od)]) ρ σ s)(hd:od.data=.dict es ep)(hq:ρ[j]? =some b)(ho:σ.objs.list[j]? =some (.eT fs)):∃kvs,fL G.D ρ fs kvs∧s.heap.DictAt (strKind G.D.prog G.D.w) b kvs ep∧es.size=kvs.length:=by
 obtain⟨b',m,e,_,⟨A,B,l,g,O,gr,F,N,_,_⟩⟩:=a.dN ho ⟨b,hq,rfl⟩
 cases e
 obtain⟨od',kvs,rfl,hm,q,f⟩:=O
 have g1:=a.heap (p:=(b,od)) (.tail _ (.head _))
 have g2:=a.heap (p:=(b,od')) (a.rx _ hm)
 obtain rfl:od'=od:=jB (g2.symm.trans g1)
 obtain⟨es',ep',h1,h2,h3,h4,h5⟩:=q
 rw[h2] at hd
 cases hd
 exact⟨kvs,f,⟨od',es,g1,h1,h2,h3,h4,h5⟩,by rw[←h4.length];simp⟩
noncomputable def zS (j:Nat):Src where
 it:=F4 j
 bk:=F5 j
 ob:=wj j
 mono:=fun⟨o,od,b,es,ep,e,e',k,d,q⟩ p=>⟨o,od,b,es,ep,e,e',k,d,cN p q⟩
 next:=fun{G c ρ σ s I i l rr r Q E} hR a ⟨o,od,b,es,ep,e,e',k,d,q⟩ hit hQ=>by
  subst e e'
  obtain⟨fs,ho,rfl⟩:=Uz hit
  obtain⟨kvs,f,hD,hz⟩:=wj.at a d q ho
  have hI:=k.is (a.heap (p:=(I,o)) (.head _))
  rw[hz] at hI
  cases e:fs[i]? with
  |none=>
   rw[e] at hQ
   have hv:kvs[i]? =none:=by rw[pB] at e⊢;rw[←f.len];exact e
   refine wpAny_pyNext_dict_end a.ok.hh hI hD hv fun h' he'=>hQ _ fun σ' e=>?_
   obtain⟨fs',h1,h2,rfl⟩:=F6 e
   exact RepS.give (a.drop (own:=[(b,od)]) (rr:=[(b,od)]) (fun b o hb e=>he' b o hb e) (az _)) h1 q h2 hR
  |some p=>
   rw[e] at hQ
   obtain⟨⟨n,w⟩,hv,⟨e1,e2⟩⟩:=Each.get f e
   refine wpAny_pyNext_dict_item hI hD hv fun key h' hkey hit' hs'=>?_
   obtain⟨o',ho',c',d'⟩:=id hit'
   obtain⟨t,rfl⟩:∃t,key=.str n t:=Value.isStrOf_shape hkey
   obtain rfl:n=ai (p.1.ev G.D.η):=e1
   exact hQ _ [(I,o'),(b,od)] _ (a.turn (own:=[(b,od)]) (fun p hp=>(bV.mp hp).elim (fun e=>e▸.head _) fun h=>.tail _ (hR p h)) ho' (fun b o hb e=>hs'.extBut b o hb e) (az _)) ⟨t,rfl⟩ ⟨o',od,b,es,ep,rfl,rfl,⟨c',by rw[hz];exact d'⟩,d,q⟩
 go:=fun{G c ρ σ s I i l rr v tgt Q E} a ⟨o,od,b,es,ep,e,e',k,d,q⟩ hQ=>by
  subst e e'
  exact letGo (a.heap (p:=(I,o)) (.head _)) k.c (by decide) hQ
 self:=fun{G c ρ σ s I i l rr Q E} a ⟨o,od,b,es,ep,e,e',k,d,q⟩ hQ=>by
  subst e e'
  exact wpAny_pyIter_keyiter (k.is (a.heap (p:=(I,o)) (.head _))) hQ
 back:=fun{G c ρ σ s I i l rr σ'} hR a ⟨o,od,b,es,ep,e,e',k,d,q⟩ hb=>by
  subst e e'
  obtain⟨fs',h1,h2,rfl⟩:=F6 hb
  exact RepS.give (At.same (own:=[(b,od)]) (rr:=[(b,od)]) a) h1 q h2 hR
inductive UA (R:Src→SS→Prop) (x:SV) (σ:SS):Prop
 |l (i:Nat) (p:Option eS) (xs:List SV) (e:x=.obj i) (ho:σ.objs.list[i]? =some (.list p xs)) (k:R (vV i) σ)
 |d (i:Nat) (fs:List (Tm×SV)) (e:x=.obj i) (ho:σ.objs.list[i]? =some (.bJ fs)) (k:R (zS i) ⟨σ.loc,OL.s σ.objs i (.eT fs),σ.fa⟩)
theorem F7{e:Expr}{R:Src→SS→Prop}(h:aq G e σ (UA R)):kL G e σ R:=fun c ρ s a=>
 aK.go (w:=()) h a (pr _) trivial fun ρ₁ σ₁ x v s₁ p qq a₁ r k=>by
  cases k with
  |l i q xs e ho k=>
   subst e
   obtain⟨b,us,vs,e,_,_,hl⟩:=a₁.list ho r
   subst e
   obtain⟨b',hb,e⟩:=r
   cases e
   exact wpAny_pyIter_list hl ⟨_,[(_,_)],[],vV i,ρ₁,σ₁,rfl,p,a₁.owned _ rfl,⟨_,b,rfl,rfl,⟨rfl,rfl⟩,hb⟩,k⟩
  |d i fs e ho k=>
   subst e
   obtain⟨b,hb,rfl⟩:=r
   obtain⟨od,kvs,hod,hd,hm,a₂⟩:=a₁.lend ho hb
   have hd':=hd
   obtain⟨es,ep,h1,h2,h3,h4,h5⟩:=hd'
   exact wpAny_pyIter_dict (knd:=strKind G.D.prog G.D.w) hm ⟨od,es,hod,h1,h2,h3,h4,h5⟩ ⟨_,[(_,_),(b,od)],[(b,od)],zS i,ρ₁,_,rfl,p,a₂.owned _ rfl,wj.mk _ od b es ep rfl rfl ⟨rfl,by rw[←h4.length];simp⟩ h2 hb,k⟩
end
end
end Ex
end
section
namespace Ex
noncomputable section
theorem UB(A:Around)(args:Args):(A.under (.builtin "type.__call__" args)).frames=A.frames:=by
 show pushEnvs (pL "type.__call__" args).envs A.frames=_
 have:(pL "type.__call__" args).envs=[]:=by rfl
 rw[this]
 cases A.frames<;>rfl
theorem UC(A:Around)(args:Args):(A.under (.builtin "type.__call__" args)).units≤A.units+2:=
 eG (ao (show av (pL "type.__call__" args).cUnits 2=true by kernel_rfl)) _
theorem UD(A:Around)(args:Args):(A.under (.builtin "type.__call__" args)).depth≤A.depth+1:=by
 refine eG (?_:(pL "type.__call__" args).weight≤1) _
 have h1:(pL "type.__call__" args).frames=0:=by kernel_rfl
 have h2:(pL "type.__call__" args).isGuard=false:=by kernel_rfl
 have h3:(pL "type.__call__" args).isCaller=false:=by kernel_rfl
 unfold Code.weight
 rw[h1,h2,h3]
 cases(pL "type.__call__" args).isCreation with
 |false=>exact ef _
 |true=>exact az _
noncomputable def Gx.un (G:Gx) (n:Nat):Gx:=⟨G.D,G.T,n,G.cs,fun qq qq qq=>False,G.cons,[],[],G.cv,false⟩
theorem bE.un{G:Gx}(h:bE G)(n:Nat):bE (G.un n):=⟨h.con,h.bl,fun x hx=>Om.nm hx,fun x hx=>Om.nm hx,fun qq qq qq h=>h⟩
section
variable{G:Gx}{σ:SS}{K:SV→SS→Prop}{pos:Pos}{i:Nat}
theorem UE{C fI:Addr}{ci:CI}{n:Nat}{xs:List SV}(hn:G.n=n+1)(hm:aH C G.T.kF=true)(hci:aQ C G.T.cls=some ci)(hf:lk (aa "__init__") ci.fM=some fI)
 (h:au (G.un n) (.ref fI) (.obj σ.objs.length::xs) ⟨σ.loc,OL.a σ.objs (.inst C []),σ.fa⟩ fun y σ'=>y=.none∧K (.obj σ.objs.length) σ'):au G (.ref C) xs σ K:=by
 intro c ρ s vs a r
 obtain⟨co,rfl⟩:=a.iN hci
 obtain⟨a1,a2,a3,a4,a5,a6,a7⟩:=co.nQ _ (eU hf)
 obtain⟨m,⟨ls,rfl,l1,l2,g0,gr0,Fr0,N⟩,hloc⟩:=a.R
 have hok:=a.ok
 refine make_K Fr0 N (gr0.X.keeps Fr0.keep) (a.tk.kF _ hm).1 a1 (by simpa only[isFn,beq_iff_eq] using a2) fun x dx h' F' N' hlt hdx=>?_
 let c':Cx:={c with A:=c.A.under (.builtin "type.__call__" ⟨.ref ci.C::vs,[]⟩)}
 have ok':Ok G.D c' n:=⟨hok.XB,hok.TB,fun h0=>⟨by show(c.A.under _).frames=_;rw[UB];exact(hok.hA (by rw[hn];exact ki _)).1,(hok.hA (by rw[hn];exact ki _)).2⟩,hok.hk,hok.hh,by
  have h1:=hok.hd
  have h2:=UD c.A ⟨.ref ci.C::vs,[]⟩
  rw[hn] at h1
  show(c.A.under _).depth+n<_
  exact Om.K7 h1 h2,by
  have h1:=hok.hu
  have h2:=UC c.A ⟨.ref ci.C::vs,[]⟩
  rw[hn] at h1
  show(c.A.under _).units+8*n+40<_
  exact Om.K8 h1 h2⟩
 have pm:(flat (ls++[(x,[(x,instObj ci.C dx),(dx,emptyDict)])])++c.X).Perm ((x,instObj ci.C dx)::(dx,emptyDict)::(flat ls++c.X)):=by
  rw[flat,nB,bD]
  exact pA _ _ _
 have px:ls.map aN<+:ls.map aN++[x]:=cu _ _
 have hx0:(ls.map aN++[x])[σ.objs.length]? =some x:=(let⟨_,l,_⟩:=a.R;l.end x)
 have a':At (G.un n) c' (ls.map aN++[x]) ⟨σ.loc,OL.a σ.objs (.inst ci.C []),σ.fa⟩ {s with heap:=h'}:=by
  refine⟨⟨⟨m,⟨ls++[(x,[(x,instObj ci.C dx),(dx,emptyDict)])],cy,(show LR (G.un n).D c'.R _ (snoc σ.objs.list (.inst ci.C [])) _ from eW σ.objs.list (.inst ci.C [])▸(LR.mono px l1).app (.one (vg.mk dx [] _ rfl .nil))),?_,g0,gr0,F',fun p hp=>N' p (pm.subset hp)⟩,hloc.mono px⟩,a.tp.to (az _),a.fa⟩,a.cs,ok',a.tk,a.rx,fun z hz=>(a.cv z hz).imp fun qq h=>⟨h.1,cN px h.2⟩,fun h0=>(by cases h0)⟩
  refine(pm.map aN).nodup_iff.mpr (cM.mpr ⟨fun hq=>?_,cM.mpr ⟨fun hq=>?_,l2⟩⟩)
  ·rw[eL,bV] at hq
   rcases hq with e|hq
   ·exact absurd e (uT hdx)
   ·obtain⟨p,hp,e⟩:=dh.mp hq
    exact absurd e (cU (Nat.lt_trans (hlt p hp) hdx))
  ·obtain⟨p,hp,e⟩:=dh.mp hq
   exact absurd e (cU (hlt p hp))
 refine codeAny_mono (h c' _ {s with heap:=h'} (.ref x::vs) a' (.cons ⟨x,hx0,rfl⟩ (aG.mono px r))) fun r' s' z=>?_
 rcases r' with e|(_|_|_|v)
 ·obtain⟨ρ',σ',m',p,f,k⟩:=z
  exact k.elim
 ·exact z.elim
 ·exact z.elim
 ·exact z.elim
 ·obtain⟨ρ',σ',y,p,R,hv,rfl,hk⟩:=z
  obtain rfl:=hv
  exact⟨rfl,ρ',σ',_,px.trans p,⟨let⟨m,l,r⟩:=R.R;⟨m,let⟨ls,ad,a,b,g,gr,F,N⟩:=l;⟨ls,ad,a,b,g,gr,F,N⟩,r⟩,R.tp,R.fa⟩,VR.mono p (x:=.obj σ.objs.length) ⟨x,hx0,rfl⟩,hk⟩
theorem F8{n:Str}{p':Pos}{T:String}{arg:Expr}(hn:lk n G.cs.names=some .globalImplicit)(hg:lk n G.T.dM=some (.type T))(hp:c5 [arg])
 (h:c7 G [arg] σ fun ys σ₁=>bB G (.type T) ys σ₁ K):aq G (.Call (.Name n p') [arg] [] pos) σ K:=fun c ρ s qq a qq=>
 Call_ (aK.go (w:=()) (show aq G (.Name n p') σ fun x σ'=>x=.val (.type T)∧σ'=σ from kH hn hg ⟨rfl,rfl⟩) a (pr _) trivial fun ρ' σ' x v s' p _ a' q ⟨hx,hs⟩=>by
  subst hx hs
  obtain rfl:=q
  exact J4 (h.go a' p trivial fun ρ' σ' ys vs s' p' p'' a' q k=>aK.at (w:=vs) k a' p' q) (hp _ (.head _) _ _) rfl)
theorem UG{nm:Str}{fs:List (Tm×SV)}{args:List Expr}(hnm:seq nm (aa "update")=true)(ho:σ.objs.list[i]? =some (.bJ fs))(hp:c5 args)(h:c7 G args σ fun ys σ₁=>bB G (.builtin "dict.update") (.obj i::ys) σ₁ K):iR G nm args (.obj i) σ K:=fun c ρ s v pos pl a r=>by
 obtain rfl:=bS.mp hnm
 obtain⟨b,kvs,rfl,f,hD⟩:=a.bJ ho r
 exact getMethod_builtin hD.typeIs PySem.F.plainAttrs_dict PySem.F.slot_dict_update PySem.F.type_dict_update hD.mapOf.noDict (mu (xs:=[.obj i]) hp a (pr _) (.one r) h)
end
end
end Ex
end
section
namespace Ex
noncomputable section
theorem F9{M:Model}{A:Around}{E:Value→Shared→Prop}{s:Shared}{scope:Scope}{globals:Addr}{pn n0:Str}{v:Value}{qual:Str}{func:Option Addr}{code:Value}{builtins:Addr}{Q:Env→Shared→Prop}
 (hk:scope.kind=.function) (hcells:∀k,cellsFrom k scope.names []=[(n0,k)]) (hpush:∀h,pushCells h scope.names=h.push {cls:=.type "cell",data:=.cell none}) (hl:scope.names.lookup pn=some .local)
 (hQ:∀h',h'.Ns s.heap.objs.size (fun y=>if y=pn then some v else none)→h'.get? (s.heap.objs.size+1)=some {cls:=.type "cell",data:=.cell none}→(∀b o,s.heap.get? b=some o→h'.get? b=some o)→
   Q (newEnv scope s.heap.objs.size globals [(n0,s.heap.objs.size+1)] qual func code none builtins) {s with heap:=h',toks:=s.toks+1}):
 wpAny M A (newFunctionEnv scope globals [] [(pn,v)] qual func code none builtins) Q E s:=by
 simp only[newFunctionEnv,Option.isSome_none,rC,if_false]
 refine wpAny_bind (wpAny_alloc ?_)
 refine wpAny_bind (wpAny_layCells _ (fun name kind cells=>by cases kind==NameKind.cell<;>simp) _ _ _ _ ?_)
 rw[hcells,hpush]
 have hsz:(s.heap.push {cls:=.type "frame",data:=.dict #[]}).objs.size=s.heap.objs.size+1:=yF ..
 have hns:((s.heap.push {cls:=.type "frame",data:=.dict #[]}).push {cls:=.type "cell",data:=.cell none}).Ns s.heap.objs.size (fun qq=>none):=
  (Heap.Ns.new s.heap (.type "frame")).keeps fun b o e=>iE _ e
 have hce:((s.heap.push {cls:=.type "frame",data:=.dict #[]}).push {cls:=.type "cell",data:=.cell none}).get? (s.heap.objs.size+1)=some {cls:=.type "cell",data:=.cell none}:=by
  rw[←hsz];exact rA _ rfl
 rw[rG]
 refine wpAny_bind (wpAny_bind ?_)
 dsimp only
 rw[hsz]
 refine wpAny_bind (wpAny_storeName_local (env:=newEnv scope s.heap.objs.size globals [(n0,s.heap.objs.size+1)] qual func code none builtins) hl hns (fun h' hn hs=>?_) (by rw[show(newEnv scope s.heap.objs.size globals [(n0,s.heap.objs.size+1)] qual func code none builtins).scope.kind=.function from hk];rfl))
 refine wpAny_pure (wpAny_pure (wpAny_pure ?_))
 have hn':h'.Ns s.heap.objs.size (fun y=>if y=pn then some v else none):=hn
 exact hQ h' hn' (hs.extBut _ _ (J6 _) hce) fun b o e=>hs.extBut b o (cU (b4 e)) (iE _ (iE _ e))
noncomputable def Gx.nX (G:Gx) (n:Nat) (i:aJ) (n0:Str) (k:Nat):Gx:=⟨G.D,G.T,n,i.scope,fun qq qq qq=>False,G.cons,[],[],[(n0,k)],true⟩
theorem bE.nX{G:Gx}(h:bE G)(n:Nat)(i:aJ)(n0:Str)(k:Nat):bE (G.nX n i n0 k):=⟨h.con,h.bl,fun x hx=>Om.nm hx,fun x hx=>Om.nm hx,fun qq qq qq h=>h⟩
theorem UH{G:Gx}{σ:SS}{K:SV→SS→Prop}{f:Addr}{i:aJ}{n:Nat}{x0:SV}{pn n0:Str}(hi:aQ f G.T.jH=some (i,pn,n0))(hn:G.n=n+1)
 (hb:bz (G.nX n i n0 σ.objs.length) i.body ⟨[(pn,x0)],OL.a σ.objs (.cell af),σ.fa⟩ (vO σ.loc K)):au G (.ref f) [x0] σ K:=by
 intro c ρ s vs a r
 have F:=a.tk.jH _ (eg hi)
 obtain⟨oc,od,osl,ho⟩:=F.at_
 obtain⟨m,⟨ls,ad,hL,hnd,g0,gr0,Fr0,N⟩,hloc⟩:=a.R
 have X:=gr0.X
 have hok:=a.ok
 cases r using Each.ec with
 |@cons v0 _ r r'=>cases r' with
  |nil=>
 have hfr:=hok.hA (by rw[hn];exact ki _)
 obtain⟨FG,BG,st,lv⟩:=groundX (R:=fun qq qq=>True) gr0.B Fr0 N hfr.1 hfr.2 hok.hk.kind
 refine codeAny_call_function (by have:=hok.hd;exact Om.rR hn this) ((X.keeps Fr0.keep) _ _ ho) rfl F.co F.gen rfl (codeRec_of (X.keeps Fr0.keep) F.code) ?_
 rw[F.bind v0]
 refine wpAny_pure (F9 F.kind F.cells F.push F.loc fun h₁ hns hce hk₁=>?_)
 refine⟨(gr0.T.nolimit.keeps Fr0.keep).keeps hk₁,codeAny_func ?_⟩
 let g:=hideAll s.heap ((flat ls++c.X).map (·.1))
 let L':=s.heap.objs.size
 let env:=newEnv i.scope L' mainGlobals [(n0,L'+1)] (i.qual++".<locals>.") (some f) i.cdv none builtinsNs
 let oc0:Obj:={cls:=.type "cell",data:=.cell none}
 let c':Cx:=⟨c.A.deeper env,c.A,c.base,g,c.env::c.outer,env,i.scope,L',c.X,c.R⟩
 have ok':Ok G.D c' n:=⟨hok.XB,hok.TB,fun qq=>⟨yl hfr.1,rfl⟩,⟨F.kind,rfl,rfl,rfl,rfl⟩,hok.hh,by
  have:=hok.hd
  show c.A.depth+1+n<_
  exact Om.gH hn this,by
  have:=hok.hu
  show c.A.units+3+8*n+40<_
  exact Om.rS hn this⟩
 have gr':Gr G.D c' g:=⟨BG,X.keeps st,gr0.T.keeps st,sC gr0.D hfr.2 FG st,uV⟩
 have Fl:Fr g L' h₁ (fun y=>if y=pn then some v0 else none):=⟨hns,fun b o e=>hk₁ b o (of_hideAll _ e),aA (hideAll_size _ _)⟩
 have N':News g L' h₁ (flat ls++c.X):=fun p hp=>⟨hk₁ _ _ (N p hp).1,cU (b4 (N p hp).1),hideAll_none _ (rz hp)⟩
 have N2:News g L' h₁ ((L'+1,oc0)::(flat ls++c.X)):=fun p hp=>by
  rcases bV.mp hp with rfl|hp
  ·exact⟨hce,J6 _,vW (by rw[hideAll_size];exact cV _)⟩
  ·exact N' p hp
 have px:ρ<+:ρ++[L'+1]:=cu _ _
 have hbd:eX G.D (ρ++[L'+1]) [(pn,x0)] (fun y=>if y=pn then some v0 else none):=fun x y e=>by
  rw[b6] at e
  by_cases h:x=pn
  ·rw[if_pos h] at e;cases e;exact⟨v0,if_pos h,VR.mono px r⟩
  ·rw[if_neg h] at e;cases e
 have a':At (G.nX n i n0 σ.objs.length) c' (ρ++[L'+1]) ⟨[(pn,x0)],OL.a σ.objs (.cell af),σ.fa⟩ {s with heap:=h₁,toks:=s.toks+1}:=⟨⟨⟨_,Led.new (c:=c') (g:=g) ad hL hnd gr' Fl N2 (fun p hp=>Nat.lt_succ_of_lt (b4 (N p hp).1)) (vh.mk oc0 af rfl rfl (show pT G.D _ af af from rfl)),hbd⟩,a.tp.to (cV _),a.fa⟩,rfl,ok',a.tk,a.rx,fun x hx=>(by
  obtain rfl:=dU.mp hx
  exact⟨L'+1,Cg,(let⟨_,l,_⟩:=a.R;l.end _)⟩),fun qq=>⟨rfl,fun h=>absurd h F.vm⟩⟩
 refine wpAny_mono (hb c' _ _ () a' trivial) (fun fl s' z=>?_) fun e s' ⟨_,_,_,_,_,z⟩=>z.elim
 obtain⟨ρ',σ',x,p,⟨⟨m',⟨ls',ad',hL',hnd',g1,gr1,F',N''⟩,_⟩,htp,hfa⟩,fr,k⟩:=z
 obtain⟨h₀',T1,F2,N2,B2⟩:=turn_leave gr0.B hfr.2 FG st gr1.t F' N''
 have R2:RepS G.D c ρ' ⟨σ.loc,σ'.objs,σ'.fa⟩ s':=⟨⟨m,⟨ls',ad',hL',hnd',h₀',⟨B2,hok.XB.keeps B2.stays,hok.TB.keeps B2.stays,uD gr0.D T1,gr0.t.trans T1⟩,F2,N2⟩,hloc.mono (px.trans p)⟩,htp,hfa⟩
 cases x with
 |ret x=>obtain⟨v,rfl,q⟩:=fr;exact⟨ρ',_,x,px.trans p,R2,q,k⟩
 |next=>obtain rfl:=fr;exact⟨ρ',_,.none,px.trans p,R2,rfl,k⟩
 |_=>exact k.elim
end
end Ex
end
section
namespace St
open PySem.Builtin PySem.Builtin.Str Ex
noncomputable def clip (n:Nat) (v:Option Int) (d:Int):Int:=match v with
 |none=>d
 |some i=>max 0 (min (if i<0 then i+n else i) n)
theorem Ga(l:List Nat):∀(k a:Nat),a+k≤l.length→((dK k).map fun i=>a+i).filterMap (fun i=>l[i]?)=(l.drop a).take k
 |0,a,_=>by simp
 |k+1,a,h=>by
  rw[List.range_succ_eq_map,eL,JX]
  have ha:a<l.length:=by exact Om.lR h
  rw[CZ,iD ha,kg ha,ym]
  have:=Ga l k (a+1) (by exact Om.fJ h)
  rw[←this,Ky]
  simp only
  congr 2
  apply uI
  intro i _
  show a+(i+1)=a+1+i
  exact Om.De
set_option tactic.hygienic true in
theorem wk(x:Str)(l u:Option Int):(b5 x l u).cps.toList=(x.cps.toList.drop (clip x.length l 0).toNat).take ((clip x.length u x.length).toNat-(clip x.length l 0).toNat):=by
 have e1:strSliceIndices l u 1 x.length=(dK ((clip x.length u x.length).toNat-(clip x.length l 0).toNat)).map fun i=>(clip x.length l 0).toNat+i:=by
  unfold strSliceIndices sliceRange
  have h1:(1:Int)>0:=by exact Om.K9
  simp only[if_pos h1]
  show(dK (if clip x.length l 0<clip x.length u x.length then(clip x.length u x.length-clip x.length l 0+1-1)/1 else 0).toNat).map (fun(k:Nat)=>(clip x.length l 0+1*(k:Int)).toNat)=_
  have c1:0≤clip x.length l 0:=by unfold clip;split<;>(first|exact Om.La|exact Om.Lc)
  generalize clip x.length l 0=a at*
  generalize clip x.length u x.length=b at*
  have ec:(if a<b then(b-a+1-1)/1 else 0).toNat=b.toNat-a.toNat:=by
   split
   ·rw[Int.ediv_one];exact Om.Ld c1 ‹_›
   ·exact Om.Lf c1 ‹_›
  rw[ec]
  apply uI
  intro i _
  exact Om.Lg c1
 have hl:(clip x.length l 0).toNat≤x.length:=by unfold clip;split<;>(first|exact Om.Lh|exact Om.Df)
 have hu:(clip x.length u x.length).toNat≤x.length:=by unfold clip;split<;>(first|exact Om.Li|exact Om.Df)
 have e2:((strSliceIndices l u 1 x.length).filterMap (x.cps[·]?))=(x.cps.toList.drop (clip x.length l 0).toNat).take ((clip x.length u x.length).toNat-(clip x.length l 0).toNat):=by
  rw[e1]
  by_cases hh:(clip x.length l 0).toNat≤(clip x.length u x.length).toNat
  ·rw[←Ga x.cps.toList _ _ (by show _≤x.cps.toList.length;rw[yu];show _≤x.length;exact Om.Lj hu hh)]
   simp only[uF]
  ·have:(clip x.length u x.length).toNat-(clip x.length l 0).toNat=0:=by exact Om.Lk hh
   rw[this];simp
 unfold b5
 split
 ·rename_i h
  simp only[aY,beq_iff_eq,e1,gE,yx] at h
  have e0:(clip x.length l 0).toNat=0:=by exact Om.Ll hl hu h
  rw[e0,pJ,fq]
  show x.cps.toList.length≤_
  rw[yu]
  show x.length≤_
  exact Om.Lm h e0
 ·rw[e2]
theorem afD(x:Str)(l u:Option Int):(b5 x l u).length≤x.length:=Txt.slice_le x l u
theorem len_list(x:Str):x.length=x.cps.toList.length:=by simp[gb]
theorem Gb(x:Str)(a b:Nat):(b5 x (some (a:Int)) (some (b:Int))).cps.toList=(x.cps.toList.drop a).take (b-a):=by
 rw[wk]
 unfold clip
 simp only[len_list]
 generalize x.cps.toList=L
 by_cases ha:a≤L.length
 ·have e1:(max 0 (min (if(a:Int)<0 then(a:Int)+L.length else a) L.length)).toNat=a:=by split<;>(first|exact Om.u6 ‹_›|exact Om.u7 ha)
  rw[e1]
  by_cases hb:b≤L.length
  ·have e2:(max 0 (min (if(b:Int)<0 then(b:Int)+L.length else b) L.length)).toNat=b:=by split<;>(first|exact Om.u6 ‹_›|exact Om.u7 hb)
   rw[e2]
  ·have e2:(max 0 (min (if(b:Int)<0 then(b:Int)+L.length else b) L.length)).toNat=L.length:=by split<;>(first|exact Om.u9 ‹_›|exact Om.Ln ha e1 hb)
   rw[e2,fq (by rw[ja];exact Om.Lo),fq (by rw[ja];exact Om.Lq ha e1 hb e2)]
 ·have e1:(max 0 (min (if(a:Int)<0 then(a:Int)+L.length else a) L.length)).toNat=L.length:=by split<;>(first|exact Om.u9 ‹_›|exact Om.yU ha)
  rw[e1,nA (az _),nA (by exact Om.yV ha e1)]
  simp
theorem Gd(x:Str)(a:Nat):(b5 x (some (a:Int)) none).cps.toList=x.cps.toList.drop a:=by
 rw[wk]
 unfold clip
 simp only[len_list]
 generalize x.cps.toList=L
 by_cases ha:a≤L.length
 ·have e1:(max 0 (min (if(a:Int)<0 then(a:Int)+L.length else a) L.length)).toNat=a:=by split<;>(first|exact Om.u6 ‹_›|exact Om.u7 ha)
  rw[e1,fq (by rw[ja];exact Om.Lr ha e1)]
 ·have e1:(max 0 (min (if(a:Int)<0 then(a:Int)+L.length else a) L.length)).toNat=L.length:=by split<;>(first|exact Om.u9 ‹_›|exact Om.yU ha)
  rw[e1,nA (az _),nA (by exact Om.yV ha e1)]
  simp
theorem Ge(x:Str)(b:Nat):(b5 x none (some (b:Int))).cps.toList=x.cps.toList.take b:=by
 rw[wk]
 unfold clip
 simp only[len_list]
 generalize x.cps.toList=L
 rw[Int.toNat_zero,pJ,Kv]
 by_cases hb:b≤L.length
 ·have e2:(max 0 (min (if(b:Int)<0 then(b:Int)+L.length else b) L.length)).toNat=b:=by split<;>(first|exact Om.u6 ‹_›|exact Om.u7 hb)
  rw[e2]
 ·have e2:(max 0 (min (if(b:Int)<0 then(b:Int)+L.length else b) L.length)).toNat=L.length:=by split<;>(first|exact Om.u9 ‹_›|exact Om.yU hb)
  rw[e2,fq (az _),fq (by exact Om.yV hb e2)]
theorem Gf(x:Str)(k:Nat)(hk:1≤k):(b5 x none (some (-(k:Int)))).cps.toList=x.cps.toList.take (x.length-k):=by
 rw[wk]
 unfold clip
 simp only[len_list]
 generalize x.cps.toList=L
 rw[Int.toNat_zero,pJ,Kv]
 congr 1
 rw[if_pos (by exact Om.Ls hk)]
 exact Om.Lu hk
theorem sQ(x:Str)(i:Nat){c:Nat}(h:x.cps.toList[i]? =some c):fG x (i:Int)=⟨#[c]⟩:=by
 unfold fG Txt.charAt seqIndex?
 have hl:=(dg.mp h).1
 rw[←len_list] at hl
 have h0:¬(i:Int)<0:=by exact Om.Dg
 simp only[if_neg h0]
 rw[if_pos (by simp;omega)]
 simp only[Int.toNat_natCast,Option.bind_some]
 rw[←uF,h];rfl
end St
namespace Ex
noncomputable section
noncomputable def hdS (t:Tm):Option {z:Tm×Tm//∀η,∃c,z.1.ev η=[c]∧t.ev η=c::z.2.ev η}:=match t with
 |.n k _ a b=>match k with
  |5=>match a with
   |.n k l x y=>match k with
    |2=>some ⟨(.n 2 l x y,b),fun qq=>⟨_,rfl,rfl⟩⟩
    |_=>af
   |.e=>af
  |_=>af
 |.e=>af
noncomputable def Gg (t:Tm):{z:Tm//∀η,z.ev η=(t.ev η).drop 1}:=@aU _ (fun qq=>{z:Tm//∀η,z.ev η=(t.ev η).drop 1}) ⟨lT t,fun qq=>rfl⟩ (fun z=>⟨z.1.2,fun η=>by obtain⟨c,_,e⟩:=z.2 η;rw[e];rfl⟩) (hdS t)
noncomputable def Gi (t:Tm) (m:Nat):{z:Tm//∀η,z.ev η=(t.ev η).drop m}:=@cD (fun m=>{z:Tm//∀η,z.ev η=(t.ev η).drop m}) ⟨t,fun qq=>rfl⟩ (fun m ih=>⟨(Gg ih.1).1,fun η=>by rw[(Gg ih.1).2,ih.2,uQ]⟩) m
theorem UI(p:Nat→Bool)(l:List Nat):l.dropWhile p=l.drop (l.takeWhile p).length:=by
 induction l with
 |nil=>rfl
 |cons a l ih=>
  by_cases h:p a=true
  ·rw[ae4 h,Cc h];exact ih
  ·rw[ae5 h,JM h];rfl
noncomputable def UJ (t p:Tm):Option {z:Tm//∀η,z.ev η=(t.ev η).drop (p.ev η).length}:=ak (hdS t) fun a=>ak (hdS p) fun b=>match h:b.1.2 with
 |.n k S r y=>match k,h with
  |6,h=>(aO (cz r a.1.2)).map fun q=>⟨vd S a.1.2,fun η=>by
   obtain⟨c,_,e⟩:=a.2 η
   obtain⟨d,_,e'⟩:=b.2 η
   rw[e,e',h,jA,List.drop_succ_cons]
   show(a.1.2.ev η).dropWhile (aH · S)=(a.1.2.ev η).drop ((r.ev η).takeWhile (aH · S)).length
   rw[dO q.1]
   exact UI _ _⟩
  |_,_=>af
 |.e=>af
theorem gT{a b:Str}(h:a.cps.toList=b.cps.toList):a=b:=by cases a;cases b;congr 1;exact Array.toList_inj.mp h
theorem Gj(l:List Nat)(k:Nat):b5 (ai l) (some (k:Int)) none=ai (l.drop k):=gT (St.Gd (ai l) k)
theorem Gk(l:List Nat)(k:Nat):b5 (ai l) none (some (k:Int))=ai (l.take k):=gT (St.Ge (ai l) k)
noncomputable def zT (x:SV):Option {m:Nat//bc x m}:=match bA x with
 |some ⟨.ofNat m,h⟩=>some ⟨m,h⟩
 |_=>af
theorem wm{W:Wd}{a:Tm}(h:av a.bd 1000000=true):(ai (a.ev W.η)).length≤sizeLine:=by
 rw[eY,sizeLine_eq]
 exact ah (Tm.kB W.gJ a) (ah (ao h) (by decide))
set_option backward.match.sparseCases false in
noncomputable def sS (x:SV):Option {a:Tm//IsT x a}:=match x with
 |.tm a=>some ⟨a,id⟩
 |_=>af
noncomputable def UK (x:SV) (l u:Option SV):Option {z:SV//zK x l u z}:=ak (sS x) fun a=>ak (aO (av a.1.bd 1000000)) fun hb=>match l,u with
 |some y,af=>fz (ak (zT y) fun m=>some ⟨.tm (Gi a.1 m.1).1,fun{W} _ _ _ _ r r1 r2=>by
   obtain⟨t,rfl⟩:=a.2 r
   obtain⟨t',e⟩:=m.2 r1
   exact⟨_,t,some (m.1:Int),af,rfl,e▸.int _ _,r2▸.none,wm hb.1,fun t'=>⟨t',by rw[Gj,(Gi a.1 m.1).2]⟩⟩⟩)
  (ak (v7 y) fun m=>ak (UJ a.1 m.1.2) fun z=>(aO (aB m.1.1 2)).map fun h2=>⟨.tm z.1,fun{W} _ _ _ _ r r1 r2=>by
    obtain⟨t,rfl⟩:=a.2 r
    obtain⟨t',e⟩:=m.2 r1
    rw[bh h2.1,W.gJ.il] at e
    exact⟨_,t,some ((m.1.2.ev W.η).length:Int),af,rfl,e▸.int _ _,r2▸.none,wm hb.1,fun t'=>⟨t',by rw[Gj,z.2]⟩⟩⟩)
 |Option.none,some y=>ak (hdS a.1) fun h=>ak (zT y) fun m=>(aO (aB m.1 1)).map fun h1=>⟨.tm h.1.1,fun{W} _ _ _ _ r r1 r2=>by
   obtain⟨t,rfl⟩:=a.2 r
   obtain⟨t',e⟩:=m.2 r2
   rw[bh h1.1] at e
   obtain⟨c,h2,h3⟩:=h.2 W.η
   exact⟨_,t,af,some ((1:Nat):Int),rfl,r1▸.none,e▸.int _ _,wm hb.1,fun t'=>⟨t',by rw[Gk,h3,h2];rfl⟩⟩⟩
 |_,_=>af
end
end Ex
end
section
namespace Ex
open PySem.Builtin PySem.Builtin.Str
noncomputable section
noncomputable def qh (x y:Str) (i j:Int):Int:=(occurrences x y (fromIndex x.length i) (min (fromIndex x.length j) x.length) (x.length+1)).length
noncomputable def jk (x y:Str) (i j:Int):Int:=match lastOccurrence x y (fromIndex x.length i) (min (fromIndex x.length j) x.length) with
 |some k=>(k:Int)
 |none=>-1
theorem UL(x y:Str)(i j:Int)(t u v w:Tok):Gives («str.count» ⟨[.str x t,.str y u,.int i v,.int j w],[]⟩) (.int (qh x y i j)):=by
 show Gives (retInt (occurrences x y (fromIndex x.length i) (min (fromIndex x.length j) x.length) (x.length+1)).length) _
 exact .of_eq rfl
theorem UM(x y:Str)(i j:Int)(t u v w:Tok):Gives («str.rfind» ⟨[.str x t,.str y u,.int i v,.int j w],[]⟩) (.int (jk x y i j)):=by
 show Gives (match lastOccurrence x y (fromIndex x.length i) (min (fromIndex x.length j) x.length) with|some k=>retInt k|none=>(do rule "str.rfind.not-found";retInt (-1))) _
 unfold jk
 cases lastOccurrence x y (fromIndex x.length i) (min (fromIndex x.length j) x.length) with
 |none=>exact .rule (.of_eq rfl)
 |some k=>exact .of_eq rfl
section
variable{prog:Program}{w:World}{A:Around}{E:Value→Shared→Prop}{s:Shared}{x y z:Str}{t u v v':Tok}{i j:Int}{Q:Value→Shared→Prop}
theorem UN{s:Shared}{sep:Str}{Q:Value→Shared→Prop}(l:List (Str×Tok))(hz:(kq sep (l.map (·.1))).length≤sizeLine)(h:∀t' k,s.toks≤k→Q (.str (kq sep (l.map (·.1))) t') {s with toks:=k}):(joinMade sep l).post Q s:=by
 match l,hz,h with
 |[],hz,h=>exact⟨hz,h _ _ (cV _)⟩
 |[p],hz,h=>exact h p.2 s.toks (az _)
 |_::_::_,hz,h=>exact⟨hz,h _ _ (cV _)⟩
theorem join_le{D:Addr}{vs:List Value}{ys:List Str}(hl:s.heap.IsList D vs.toArray)(hi:StrsAre vs ys)
 (hz:(ys.map (·.length)).sum+ys.length*x.length≤16777216) (h:∀t' k,s.toks≤k→Q (.str (kq x ys) t') {s with toks:=k}):wpAny (model prog w) A (call (.builtin "str.join") [.str x t,.ref D]) Q E s:=by
 obtain⟨l,hv,rfl⟩:=strsAre_values hi
 have hok:=joinOk_of hz
 unfold JoinOk at hok
 rw[Cr] at hok
 refine call_meets F.slot_str_join (typeIs_str _ _ _) F.entry_str_join (F.args_str_join_2 _ _) (meets_str_join_list x t D l hok) ⟨?_,UN l (joinFit_length hok) h⟩
 have e:vs.toArray=(strValues l).toArray:=by rw[←hv]
 exact e▸hl
theorem UO(hu:u≠0)(hv:v≠0)(huv:u≠v)(hyz:(y==z)=false)(hb:x.length+(x.length+1)*z.length≤16777216)
 (hq:∀t' k,s.toks≤k→Q (.str (fu x y z) t') {s with toks:=k}):wpAny (model prog w) A (call (.builtin "str.replace") [.str x t,.str y u,.str z v]) Q E s:=by
 have hocc:=StrLaws.occ_length_le x y 0 x.length (x.length+1)
 have hmul:(occurrences x y 0 x.length (x.length+1)).length*z.length≤(x.length+1)*z.length:=Nat.mul_le_mul_right _ hocc
 have hfit:tooLong (x.length+(occurrences x y 0 x.length (x.length+1)).length*z.length)=false:=by
  unfold tooLong
  have:=sizeLine_eq
  exact decide_eq_false (by exact Om.Lx hb hmul this)
 refine call_gives F.slot_str_replace (typeIs_str _ _ _) F.entry_str_replace (F.args_str_replace_3 _ _ _) (gives_str_replace x y z t u v fun qq=>⟨by simp[hu,hv],by simp[huv],hyz,hfit⟩) (E9 ⟨?_,hq⟩)
 show(fu x y z).length≤sizeLine
 by_cases hc:((occurrences x y 0 x.length (x.length+1)).isEmpty||(y.length==0&&z.length==0))=true
 ·unfold fu;rw[if_pos hc,sizeLine_eq];exact Om.Ly hb
 ·unfold fu;rw[if_neg hc];exact fits_replaced y hb
end
section
variable{G:Gx}{σ:SS}{K:SV→SS→Prop}{args:List Expr}{x y z w:SV}{a b:Str}{i j:Int}{nm:Str}
inductive sU:Str→String→Prop
 |count:sU "count" "str.count"
 |rfind:sU "rfind" "str.rfind"
 |startswith:sU "startswith" "str.startswith"
 |join:sU "join" "str.join"
theorem nY{id:String}(hm:sU nm id)(hx:bI x a)(hp:c5 args)(h:c7 G args σ fun ys σ₁=>bB G (.builtin id) (x::ys) σ₁ K):iR G nm args x σ K:=fun c ρ s v pos pl at_ r=>by
 obtain⟨t,rfl⟩:=hx r
 cases hm with
 |count=>exact GM.count (mu (xs:=[x]) hp at_ (pr _) (.one r) h)
 |rfind=>exact GM.rfind (mu (xs:=[x]) hp at_ (pr _) (.one r) h)
 |startswith=>exact GM.startswith (mu (xs:=[x]) hp at_ (pr _) (.one r) h)
 |join=>exact GM.join (mu (xs:=[x]) hp at_ (pr _) (.one r) h)
theorem bB.four{f:Value}(h:∀c ρ s v1 v2 v3 v4,At G c ρ σ s→VR G.D ρ x v1→VR G.D ρ y v2→VR G.D ρ z v3→VR G.D ρ w v4→wpAny G.D.M c.A (iJ f [v1,v2,v3,v4] []) (PE G c ρ K) (PX G c ρ) s):bB G f [x,y,z,w] σ K:=fun c ρ s vs at_ r=>by
 cases r using Each.ec with
 |cons r1 r=>cases r using Each.ec with
  |cons r2 r=>cases r using Each.ec with
   |cons r3 r=>cases r using Each.ec with
    |cons r4 r=>cases r with
     |nil=>exact h c ρ s _ _ _ _ at_ r1 r2 r3 r4
theorem UP(h1:bI x a)(h2:bI y b)(h3:bc z i)(h4:bc w j)(k:K (.si (qh a b i j)) σ):bB G (.builtin "str.count") [x,y,z,w] σ K:=.four fun c ρ s v1 v2 v3 v4 at_ r1 r2 r3 r4=>by
 obtain⟨_,rfl⟩:=h1 r1
 obtain⟨_,rfl⟩:=h2 r2
 obtain⟨_,rfl⟩:=h3 r3
 obtain⟨_,rfl⟩:=h4 r4
 exact call_gives F.slot_str_count (typeIs_str _ _ _) F.entry_str_count (F.args_str_count_4 _ _ _ _) (UL _ _ _ _ _ _ _ _) (at_.t1.give (V:=VR G.D) (x:=.si _) (pr _) ⟨_,rfl⟩ k)
theorem UQ(h1:bI x a)(h2:bI y b)(h3:bc z i)(h4:bc w j)(k:K (.si (jk a b i j)) σ):bB G (.builtin "str.rfind") [x,y,z,w] σ K:=.four fun c ρ s v1 v2 v3 v4 at_ r1 r2 r3 r4=>by
 obtain⟨_,rfl⟩:=h1 r1
 obtain⟨_,rfl⟩:=h2 r2
 obtain⟨_,rfl⟩:=h3 r3
 obtain⟨_,rfl⟩:=h4 r4
 exact call_gives F.slot_str_rfind (typeIs_str _ _ _) F.entry_str_rfind (F.args_str_rfind_4 _ _ _ _) (UM _ _ _ _ _ _ _ _) (at_.t1.give (V:=VR G.D) (x:=.si _) (pr _) ⟨_,rfl⟩ k)
theorem UR(h1:bI x a)(h2:bI y b)(k:K (.sb (lP a b)) σ):bB G (.builtin "str.startswith") [x,y] σ K:=.two<|.mk fun c ρ s v u at_ r q=>by
 obtain⟨_,rfl⟩:=h1 r
 obtain⟨_,rfl⟩:=h2 q
 exact SC.startswith (at_.give (V:=VR G.D) (x:=.sb _) (pr _) rfl k)
theorem zU{i:Nat}{xs:List SV}{ys:List Str}(h1:bI x a)(ho:σ.objs.list[i]? =some (.list af xs))(hs:∀{W:Wd} {ρ:List Addr} {vs:List Value},aG W ρ xs vs→StrsAre vs ys)(hz:(ys.map (·.length)).sum+ys.length*a.length≤16777216)(k:K (.ss (kq a ys)) σ):bB G (.builtin "str.join") [x,.obj i] σ K:=.two<|.mk fun c ρ s v u at_ r q=>by
 obtain⟨_,rfl⟩:=h1 r
 obtain⟨b,us,vs,rfl,rfl,f,l⟩:=at_.list ho q
 exact join_le (vs:=vs) l (hs f) hz fun t' k' hk=>(at_.tok hk).give (V:=VR G.D) (x:=.ss _) (pr _) ⟨_,rfl⟩ k
theorem US{a y z:Str}{k1 k2:Nat}{p1 p2:Pos}(hnm:seq nm (aa "replace")=true)(hx:bI x a)(hyz:seq y z=false)(hb:a.length+(a.length+1)*z.length≤16777216)(k:K (.ss (fu a y z)) σ):
 iR G nm [.Constant (.str y) k1 p1,.Constant (.str z) k2 p2] x σ K:=fun c ρ s v pos pl at_ r=>by
 obtain rfl:=bS.mp hnm
 obtain⟨t,rfl⟩:=hx r
 have htp:=at_.tp.1
 refine GM.replace (callWith_method1 (first:=[.str a t]) (args_cons (wpAny_Constant_str (args_cons (wpAny_Constant_str (args_nil ?_)) rfl)) rfl) rfl rfl)
 refine UO (by show s.toks≠0;exact Om.Lz htp) (by show s.toks+1≠0;exact Om.LA htp) (by show s.toks≠s.toks+1;exact Om.LB) (by rw[jG];exact hyz) hb fun t' k' hk=>?_
 exact(at_.tok (k:=k') (ah (bC _ 2) hk)).give (V:=VR G.D) (x:=.ss _) (pr _) ⟨_,rfl⟩ k
theorem Gl(h:bI x a)(hz:a.length≤sizeLine)(k:K (.si a.length) σ):bB G (.builtin "len") [x] σ K:=.one fun c ρ s v at_ r=>by
 obtain⟨t,rfl⟩:=h r
 exact PyProof.Rows.len_str (by have:=sizeLine_eq;exact Om.LC hz this) (at_.t2.give (V:=VR G.D) (x:=.si a.length) (pr _) ⟨_,rfl⟩ k)
theorem UT(h:bI x a)(hz:a.length=1)(k:K (.si (a.cps.getD 0 0:Nat)) σ):bB G (.builtin "ord") [x] σ K:=.one fun c ρ s v at_ r=>by
 obtain⟨t,rfl⟩:=h r
 exact ord_of_one hz (at_.t1.give (V:=VR G.D) (x:=.si _) (pr _) ⟨_,rfl⟩ k)
theorem UU(h:bc x i)(h0:0≤i)(h1:i≤1114111)(k:K (.ss ⟨#[i.toNat]⟩) σ):bB G (.builtin "chr") [x] σ K:=.one fun c ρ s v at_ r=>by
 obtain⟨t,rfl⟩:=h r
 exact chr_of_range h0 h1 (at_.t1.give (V:=VR G.D) (x:=.ss _) (pr _) ⟨_,rfl⟩ k)
theorem Gm(value:Expr)(x:Str)(t:Tok)(r:Value):letTemporaryGo value (.str x t) r=pure ():=by
 unfold letTemporaryGo;cases value<;>rfl
theorem UW{oe ie:Expr}(hs:cG ie)(hx:bI x a)(hy:bc y i)(h1:-(a.length:Int)≤i)(h2:i<a.length)(hz:a.length≤sizeLine)(kk:K (.ss (fG a i)) σ):aC G (subscriptTail oe ie) x y σ K:=.mk fun c ρ s v u at_ r q=>by
 obtain⟨t,rfl⟩:=hx r
 obtain⟨t',rfl⟩:=hy q
 refine item_str ?_ h1 h2 (fun qq=>at_.t1.give (V:=VR G.D) (x:=.ss _) (pr _) ⟨_,rfl⟩ kk) (hs.sub _ _) (Gm _ _ _)
 unfold fitsSsize
 have:=sizeLine_eq
 rw[decide_eq_false (by exact Om.LD h1 hz this:¬i< -(2^63:Int)),decide_eq_false (by exact Om.LF h2 hz this:¬i≥2^63)]
 rfl
theorem UX{l u:Option SV}{l' u':Option Int}(hx:bI x a)(h1:PI l l')(h2:PI u u')(hz:a.length≤sizeLine):zK x l u (.ss (b5 a l' u')):=fun r r1 r2=>by
 obtain⟨t,rfl⟩:=hx r
 exact⟨a,t,l',u',rfl,h1.part r1,h2.part r2,hz,fun t'=>⟨t',rfl⟩⟩
end
end
end Ex
end
section
namespace Ex
open PySem.Builtin PySem.Builtin.Str PySem.StrLaws
section
variable{x y z:Str}{R:List Nat→List Nat}
theorem drop_cons{l:List Nat}{a:Nat}(h:a<l.length):l.drop a=l[a]::l.drop (a+1):=kg h
theorem Gn(hw:1≤y.length)(i:Nat):rK x y x.length i↔(x.cps.toList.drop i).take y.length=y.cps.toList:=by
 unfold rK
 rw[subAt_eq,beq_iff_eq]
 refine⟨fun h=>h.2,fun h=>⟨?_,h⟩⟩
 have:=congrArg List.length h
 simp[gb] at this hw⊢
 exact Om.LO hw this
theorem gap(hw:1≤y.length)(h3:∀c r,(c::r).take y.length≠y.cps.toList→R (c::r)=c::R r):∀(n a:Nat),a+n≤x.length→(∀k,a≤k→k<a+n→¬rK x y x.length k)→
 R (x.cps.toList.drop a)=(x.cps.toList.drop a).take n++R (x.cps.toList.drop (a+n))
 |0,a,_,_=>by simp
 |n+1,a,hl,hn=>by
  have hlt:a<x.cps.toList.length:=by simp[gb] at hl⊢;exact Om.lR hl
  have h0:=hn a (az _) (by exact Om.LP)
  rw[Gn hw,drop_cons hlt] at h0
  rw[drop_cons hlt,h3 _ _ h0,ym,Cy]
  have:=gap hw h3 n (a+1) (by exact Om.fJ hl) fun k h1 h2=>hn k (by exact Om.LQ h1) (by exact Om.LS h2)
  rw[this]
  have e:a+1+n=a+(n+1):=by exact Om.Di
  rw[e]
theorem zV(z:Str)(p:Str)(ps:List Str)(h:ps≠[]):(rM z (p::ps)).cps.toList=p.cps.toList++z.cps.toList++(rM z ps).cps.toList:=by
 cases ps with
 |nil=>exact absurd rfl h
 |cons q r=>
  show(p++z++rM z (q::r)).cps.toList=_
  simp only[Kl,JY]
theorem UY(x:Str)(w a:Nat)(l:List Nat):partsFrom x w a l≠[]:=by cases l<;>exact Cw _ _
theorem Gp(hw:1≤y.length)(h1:R []=[])(h2:∀l,l.take y.length=y.cps.toList→R l=z.cps.toList++R (l.drop y.length))(h3:∀c r,(c::r).take y.length≠y.cps.toList→R (c::r)=c::R r):
 ∀(cuts:List Nat) (a f:Nat),a≤x.length→ChainG x y x.length a cuts f→(∀k,f≤k→¬rK x y x.length k)→(rM z (partsFrom x y.length a cuts)).cps.toList=R (x.cps.toList.drop a)
 |[],a,f,hl,h,hn=>by
  obtain rfl:f=a:=h
  have g:=gap (x:=x) hw h3 (x.length-f) f (by exact Om.LU hl) fun k h1 qq=>hn k h1
  have e:f+(x.length-f)=x.length:=by exact Om.Dj hl
  rw[g,e]
  show(strSub x f x.length).cps.toList=_
  rw[strSub_toList]
  have:x.cps.toList.drop x.length=[]:=by simp[gb]
  rw[this,h1,dW]
 |c::r,a,f,hl,h,hn=>by
  obtain⟨ha,hA,hno,h⟩:=h
  have hc:c+y.length≤x.length:=hA.1
  have ih:=Gp hw h1 h2 h3 r (c+y.length) f hc h hn
  show(rM z (strSub x a c::partsFrom x y.length (c+y.length) r)).cps.toList=_
  rw[zV _ _ _ (UY _ _ _ _),ih,strSub_toList]
  have g:=gap (x:=x) hw h3 (c-a) a (by exact Om.LV hw ha hc) fun k h1 h2=>hno k h1 (by exact Om.LW ha h2)
  have e:a+(c-a)=c:=by exact Om.Dj ha
  rw[e] at g
  rw[g,h2 (x.cps.toList.drop c) ((Gn hw c).mp hA),uQ,bD]
set_option tactic.hygienic true in
theorem Gq(hw:1≤y.length)(h1:R []=[])(h2:∀l,l.take y.length=y.cps.toList→R l=z.cps.toList++R (l.drop y.length))(h3:∀c r,(c::r).take y.length≠y.cps.toList→R (c::r)=c::R r):
 (fu x y z).cps.toList=R x.cps.toList:=by
 obtain⟨f,hc,hn⟩:=occ_tight x y hw
 have key:=Gp (z:=z) hw h1 h2 h3 _ 0 f (ef _) hc hn
 rw[pJ] at key
 have hy0:(y.length==0)=false:=by
  cases e:y.length==0 with
  |false=>rfl
  |true=>have:=eq_of_beq e;exact Om.LX hw this
 unfold fu
 rw[hy0,Bool.false_and,CX]
 split
 ·rename_i he
  have:occurrences x y 0 x.length (x.length+1)=[]:=List.isEmpty_iff.mp he
  rw[this] at key
  rw[←key]
  show _=(strSub x 0 x.length).cps.toList
  rw[strSub_toList,pJ,Kv,fq (by simp[gb])]
 ·rw[glued_eq_join,partsBetween_eq];exact key
end
noncomputable def crlf:List Nat→List Nat
 |13::10::r=>10::crlf r
 |c::r=>c::crlf r
 |[]=>[]
noncomputable def aX (l:List Nat):List Nat:=(crlf l).map fun c=>if c=13 then 10 else c
theorem Gs(x:Str):(fu x ⟨#[13,10]⟩ ⟨#[10]⟩).cps.toList=crlf x.cps.toList:=by
 refine Gq (by decide) (by simp[crlf]) (fun l h=>?_) fun c r h=>?_
 ·match l,h with
  |a::b::r,h=>
   have h':a=13∧b=10:=by simpa[gb] using h
   obtain⟨rfl,rfl⟩:=h'
   simp[crlf,gb]
  |[a],h=>simp[gb] at h
  |[],h=>simp[gb] at h
 ·refine crlf.eq_2 c r fun r1 e1 e2=>h ?_
  subst e1 e2
  simp[gb]
theorem UZ(x:Str):(fu x ⟨#[13]⟩ ⟨#[10]⟩).cps.toList=x.cps.toList.map fun c=>if c=13 then 10 else c:=by
 refine Gq (R:=fun l=>l.map fun c=>if c=13 then 10 else c) (by decide) rfl (fun l h=>?_) fun c r h=>?_
 ·match l,h with
  |a::r,h=>
   have h':a=13:=by simpa[gb] using h
   subst h'
   simp[gb]
  |[],h=>simp[gb] at h
 ·have h':¬c=13:=fun e=>h (by subst e;simp[gb])
  simp[h']
theorem U0(x:Str):(fu (fu x ⟨#[13,10]⟩ ⟨#[10]⟩) ⟨#[13]⟩ ⟨#[10]⟩).cps.toList=aX x.cps.toList:=by
 rw[UZ,Gs];rfl
end Ex
namespace Ex
noncomputable def goes:Nat×Nat→List Nat→Nat×Nat
 |p,[]=>p
 |p,c::r=>if c=10 then goes (p.1+1,0) r else goes (p.1,p.2+1) r
noncomputable def eE:Option Nat→List Nat
 |none=>[]
 |some c=>[c]
structure cQ (d:Option (List Nat)) (r:List Nat) (un:Option (List Nat)) (ch tx:Str) (off pl pc place en:Nat) (bf:Option Nat):Prop where
 hoff:off≤ch.length
 hr:r=ch.cps.toList.drop off++aX (eE bf++tx.cps.toList.drop place)
 hd:∀g,d=some g→∃D,g=D++ch.cps.toList.take off∧goes (0,0) D=(pl,pc)
 hp:place=0∨tx.length≤place
 hz:tx.length≤10000
 hch:ch.length≤20000
 hen:en+(tx.length-place)+(eE bf).length≤10000
 d7:bf=none∨bf=some 13
 hun:∀l,un=some l→∃c a,l=[c]∧ch.cps.toList.take off=a++[c]
 hno:∀c∈tx.cps.toList,c<55296∨57343<c
noncomputable def mz:Option Nat→SV
 |none=>.none
 |some c=>.ss ⟨#[c]⟩
noncomputable def aW (ch tx:Str) (off pl pc place en:Nat) (bf:Option Nat):List SO:=
 [.inst 166 [(aa "reportCharacterErrors",.obj 1),(aa "newLines",.obj 2),(aa "dataStream",.obj 3),(aa "chunk",.ss ch),(aa "chunkSize",.si ch.length),(aa "chunkOffset",.si off),(aa "errors",.obj 4),(aa "prevNumLines",.si pl),(aa "prevNumCols",.si pc),(aa "_bufferedCharacter",mz bf)],
  .bX 148 (.obj 0),.list none [.si 0],.inst 73 [(aa "text",.ss tx),(aa "place",.si place)],.list (some (.fK en)) []]
noncomputable def nZ (ch:Str) (pl off:Int):Int:=pl+qh ch (aa "\n") 0 off
noncomputable def sV (ch:Str) (pc off:Int):Int:=if jk ch (aa "\n") 0 off=-1 then pc+off else off-(jk ch (aa "\n") 0 off+1)
end Ex
namespace St
open PySem.Builtin PySem.Builtin.Str PySem.StrLaws Ex
theorem oh:∀(a b:List Nat) (p:Nat×Nat),goes p (a++b)=goes (goes p a) b
 |[],b,p=>rfl
 |x::a,b,p=>by
  rw[Cy,goes.eq_2,goes.eq_2]
  split
  ·exact oh a b _
  ·exact oh a b _
set_option tactic.hygienic true in
theorem zW:∀(a:List Nat) (p:Nat×Nat),(goes p a).1=p.1+a.count 10
 |[],p=>rfl
 |x::a,p=>by
  unfold goes
  split
  ·rename_i h;subst h
   rw[zW a,List.count_cons_self];omega
  ·rename_i h
   rw[zW a,afo (fun e=>h e)]
theorem zX:∀(a:List Nat) (p:Nat×Nat),10∉a→(goes p a).2=p.2+a.length
 |[],p,_=>rfl
 |x::a,p,h=>by
  unfold goes
  rw[if_neg (fun e=>h (by rw[e];exact .head _)),zX a _ (fun m=>h (.tail _ m))]
  simp only[jA];exact Om.Di
theorem sW{x:Str}{c hi k:Nat}(hh:hi≤x.length):rK x ⟨#[c]⟩ hi k↔(x.cps.toList.take hi)[k]? =some c:=by
 have e:=subAt_one x c k
 unfold rK
 constructor
 ·intro h
  have h1:k+1≤hi:=h.1
  have:=e.mp ⟨by show k+1≤_;exact Om.LY hh h1,h.2⟩
  rw[ya (by exact Om.LZ h1)];exact this
 ·intro h
  have h1:k<hi:=by
   have:=(dg.mp h).1
   rw[lN] at this;exact Om.L5 this
  rw[ya h1] at h
  exact⟨h1,(e.mpr h).2⟩
set_option tactic.hygienic true in
theorem zY{x:Str}{c hi limit:Nat}(hh:hi≤x.length):∀(m cur:Nat) (st:Array Nat×Nat),st.snd≤cur→st.fst.size+m≤limit→
 (forIn (C2 cur m) st (occBody x ⟨#[c]⟩ hi limit)).run.fst.size=st.fst.size+(((x.cps.toList.take hi).drop cur).take m).count c
 |0,cur,st,_,_=>by simp
 |m+1,cur,st,hf,hl=>by
  rw[List.range'_succ,rG]
  unfold occBody
  have hd:((x.cps.toList.take hi).drop cur).take (m+1)=(match(x.cps.toList.take hi)[cur]? with|some y=>[y]|none=>[])++((x.cps.toList.take hi).drop (cur+1)).take m:=by
   cases q:(x.cps.toList.take hi)[cur]? with
   |some y=>
    obtain⟨h1,h2⟩:=dg.mp q
    rw[kg h1,ym,h2];rfl
   |none=>
    have:=pB.mp q
    rw[nA this,nA (by exact Om.Dk this)];simp
  rw[hd,List.count_append]
  split
  ·rename_i hc
   have hA:=(sW (x:=x) (c:=c) hh).mp ⟨hc.1.2,hc.2⟩
   rw[hA]
   have:=zY (x:=x) (c:=c) (limit:=limit) hh m (cur+1) (st.fst.push cur,cur+(⟨#[c]⟩:Str).length) (az _) (by rw[Array.size_push];exact Om.fJ hl)
   refine Eq.trans this ?_
   rw[Array.size_push]
   simp only[List.count_cons_self,List.count_nil]
   exact Om.Ma
  ·rename_i hc
   have hA:¬(x.cps.toList.take hi)[cur]? =some c:=fun h=>by
    have h':=(sW (x:=x) (c:=c) hh).mpr h
    exact hc ⟨⟨⟨by exact Om.lR hl,hf⟩,h'.1⟩,h'.2⟩
   have:=zY (x:=x) (c:=c) (limit:=limit) hh m (cur+1) st (by exact Om.Dk hf) (by exact Om.Mb hl)
   refine Eq.trans this ?_
   cases q:(x.cps.toList.take hi)[cur]? with
   |none=>simp
   |some y=>
    have hy:y≠c:=fun e=>hA (by rw[q,e])
    simp[afo hy]
theorem wo(n:Nat)(o:Nat):fromIndex n (o:Int)=o:=by
 unfold fromIndex
 rw[if_neg (by exact Om.Dg)]
 exact Om.Mc
theorem U1{x:Str}{c o:Nat}(ho:o≤x.length):qh x ⟨#[c]⟩ 0 o=((x.cps.toList.take o).count c:Nat):=by
 unfold qh
 have e0:fromIndex x.length 0=0:=wo _ 0
 rw[e0,wo,gD ho,occ_eq,yu]
 have:=zY (x:=x) (c:=c) (limit:=x.length+1) ho (o+1-0) 0 ((#[]:Array Nat),0) (az _) (by simp;omega)
 rw[this,pJ,fq (by rw[lN];exact Om.Me)]
 simp
theorem U3{x:Str}{c o:Nat}(ho:o≤x.length):(jk x ⟨#[c]⟩ 0 o=-1∧c∉x.cps.toList.take o)∨∃a b,x.cps.toList.take o=a++c::b∧c∉b∧jk x ⟨#[c]⟩ 0 o=(a.length:Nat):=by
 unfold jk
 have e0:fromIndex x.length 0=0:=wo _ 0
 rw[e0,wo,gD ho,last_eq]
 have key:=last_run x ⟨#[c]⟩ o (C2 0 (o+1-0)) [] none (fun qq h=>nomatch h) (fun qq h=>nomatch h) (by simpa using List.pairwise_lt_range' (s:=0) (n:=o+1-0))
 have mem:∀i,rK x ⟨#[c]⟩ o i→i∈[]++C2 0 (o+1-0):=fun i hi=>by have:=hi.1;simp[List.mem_range']<;>exact Om.Mf this
 cases hr:(forIn (C2 0 (o+1-0)) none (lastBody x ⟨#[c]⟩ o)).run with
 |none=>
  rw[hr] at key
  refine .inl ⟨rfl,fun hm=>?_⟩
  obtain⟨i,hi⟩:=yk hm
  have hA:=(sW (x:=x) ho).mpr hi
  exact key i (mem i hA) hA
 |some a=>
  rw[hr] at key
  have hA:=(sW (x:=x) ho).mp key.1
  obtain⟨h1,h2⟩:=dg.mp hA
  refine .inr ⟨(x.cps.toList.take o).take a,(x.cps.toList.take o).drop (a+1),?_,fun hm=>?_,?_⟩
  ·conv=>lhs;rw[←gB a (x.cps.toList.take o)]
   rw[kg h1,h2]
  ·obtain⟨j,hj⟩:=yk hm
   rw[List.getElem?_drop] at hj
   have hB:=(sW (x:=x) ho).mpr hj
   exact key.2 _ (mem _ hB) (by exact Om.Mg h1) hB
  ·rw[lN,gD (gF h1)]
theorem wu:aa "\n"=⟨#[10]⟩:=by kernel_rfl
theorem Gu{ch:Str}{pl pc o:Nat}(ho:o≤ch.length):nZ ch pl o=((goes (pl,pc) (ch.cps.toList.take o)).1:Nat)∧sV ch pc o=((goes (pl,pc) (ch.cps.toList.take o)).2:Nat):=by
 unfold nZ sV
 rw[wu]
 refine⟨by rw[U1 ho,zW];simp,?_⟩
 have hlen:(ch.cps.toList.take o).length=o:=by rw[lN];exact gD ho
 rcases U3 (c:=10) ho with⟨h1,h2⟩|⟨a,b,h1,h2,h3⟩
 ·rw[if_pos h1,zX _ _ h2,hlen];simp
 ·rw[if_neg (by rw[h3];exact Om.Mh),h3,h1,oh]
  show _=(((goes (goes (pl,pc) a) (10::b)).2:Nat):Int)
  unfold goes
  rw[if_pos rfl,zX _ _ h2]
  rw[h1] at hlen
  simp only[bG,jA] at hlen
  simp only
  exact Om.Mi hlen
end St
namespace St
open PySem.Builtin PySem.Builtin.Str Ex
theorem item_last(x:Str){a:List Nat}{c:Nat}(h:x.cps.toList=a++[c]):fG x (-1)=⟨#[c]⟩:=by
 unfold fG Txt.charAt seqIndex?
 have hl:x.length=a.length+1:=by rw[len_list,h];simp
 simp only[show(-1:Int)<0 by exact Om.Mj,if_true]
 rw[if_pos (by simp;exact Om.Ml hl)]
 have e:(-1+(x.length:Int)).toNat=a.length:=by exact Om.Mm hl
 simp only[Option.bind_some,e]
 rw[←uF,h]
 simp
set_option tactic.hygienic true in
theorem wz:∀l:List Nat,(crlf l).length≤l.length
 |[]=>az _
 |[c]=>by unfold crlf;split<;>simp_all [crlf]
 |a::b::r=>by
  unfold crlf
  split
  ·rename_i h
   have:=wz r
   cases h
   simp only[jA];exact Om.Mn this
  ·rename_i c r' _ h
   have:=wz (b::r)
   cases h
   simp only[jA] at this⊢;exact Om.Mp this
  ·simp
theorem zZ:∀l:List Nat,crlf (l++[13])=crlf l++[13]
 |[]=>rfl
 |[c]=>by
  show crlf [c,13]=_
  have e:crlf [c]=[c]:=crlf.eq_2 c [] (fun r h1 h2=>by cases h2)
  rw[e]
  exact crlf.eq_2 c [13] (fun r h1 h2=>by cases h2)
 |a::b::r=>by
  by_cases h:a=13∧b=10
  ·obtain⟨rfl,rfl⟩:=h
   show crlf (13::10::(r++[13]))=crlf (13::10::r)++[13]
   rw[crlf.eq_1,crlf.eq_1,zZ r];rfl
  ·have e1:crlf (a::b::r)=a::crlf (b::r):=crlf.eq_2 a (b::r) fun r' h1 h2=>h ⟨h1,by cases h2;rfl⟩
   have e2:crlf (a::(b::r++[13]))=a::crlf (b::r++[13]):=crlf.eq_2 a _ fun r' h1 h2=>h ⟨h1,by cases h2;rfl⟩
   show crlf (a::(b::r++[13]))=_
   rw[e1,e2,zZ (b::r)];rfl
theorem U4(l:List Nat):aX (l++[13])=aX l++[10]:=by
 unfold aX
 rw[zZ,cy];rfl
theorem om(l:List Nat):(aX l).length≤l.length:=by
 unfold aX
 rw[gE];exact wz l
theorem U5:aX []=[]:=rfl
set_option tactic.hygienic true in
theorem Gv{l:List Nat}(h:l≠[]):aX l≠[]:=by
 cases l with
 |nil=>exact absurd rfl h
 |cons a r=>
  unfold aX
  intro e
  rw[List.map_eq_nil_iff] at e
  unfold crlf at e
  split at e
  ·cases e
  ·cases e
  ·rename_i h;cases h
theorem Gw:aa "\x0d\n"=⟨#[13,10]⟩:=by kernel_rfl
theorem U6:aa "\x0d"=⟨#[13]⟩:=by kernel_rfl
theorem Gy(x:Str):(fu (fu x (aa "\x0d\n") (aa "\n")) (aa "\x0d") (aa "\n")).cps.toList=aX x.cps.toList:=by
 rw[Gw,U6,wu];exact U0 x
theorem z3(x:Str):(fu x (aa "\x0d\n") (aa "\n")).length≤x.length:=by
 rw[Gw,wu,len_list,Gs,len_list];exact wz _
end St
namespace Ex
structure mD (ch tx:Str) (pl pc place en:Nat) (bf:Option Nat) (b:Bool) (ch':Str) (pl' pc' place' en':Nat) (bf':Option Nat):Prop where
 pos:goes (pl,pc) ch.cps.toList=(pl',pc')
 no:b=false→ch'=⟨#[]⟩
 yes:b=true→ch'.cps.toList≠[]
 all:aX (eE bf++tx.cps.toList.drop place)=ch'.cps.toList++aX (eE bf'++tx.cps.toList.drop place')
 fin:b=false→aX (eE bf'++tx.cps.toList.drop place')=[]
 hp:place'=0∨tx.length≤place'
 hch:ch'.length≤20000
 hen:en'+(tx.length-place')+(eE bf').length≤10000
 d7:bf'=none∨bf'=some 13
structure ou (tx:Str) (place en:Nat) (bf:Option Nat):Prop where
 hp:place=0∨tx.length≤place
 hz:tx.length≤10000
 hen:en+(tx.length-place)+(eE bf).length≤10000
 d7:bf=none∨bf=some 13
 hno:∀c∈tx.cps.toList,c<55296∨57343<c
end Ex
end
section
namespace Ex
noncomputable section
noncomputable def bT (n:Str):List (Str×Str)→Bool:=bu false fun p qq ih=>@aj (fun qq=>Bool) ih true (seq n p.1)
noncomputable def gU (n:Str):List (Str×Str)→Str:=bu ⟨#[]⟩ fun p qq ih=>@aj (fun qq=>Str) ih p.2 (seq n p.1)
noncomputable abbrev wA (D:List (Str×Str)):List (Str×KTD.Dat):=D.map fun p=>(p.1,yH (.str p.2))
theorem Gz(n:Str)(p:Str×Str)(r:List (Str×Str)):bT n (p::r)=(seq n p.1||bT n r):=by
 show@aj (fun qq=>Bool) (bT n r) true (seq n p.1)=_
 cases seq n p.1<;>rfl
theorem GO(n:Str)(D:List (Str×Str)):KTD.inKeys n (wA D)=bT n D:=by
 induction D with
 |nil=>rfl
 |cons p r ih=>
  show(decide (n=p.1)||KTD.inKeys n (wA r))=_
  rw[Gz,ih]
  congr 1
  cases h:seq n p.1 with
  |true=>exact decide_eq_true (bS.mp h)
  |false=>exact decide_eq_false fun e=>by rw[bS.mpr e] at h;cases h
theorem U7{h:Heap}{n:Str}{P:Value→Prop}(D:List (Str×Str))(hp:∀t,P (.str (gU n D) t)):KTD.EachL h n P (wA D):=by
 induction D with
 |nil=>trivial
 |cons p r ih=>
  have hp':∀t,P (.str (@aj (fun qq=>Str) (gU n r) p.2 (seq n p.1)) t):=hp
  by_cases e:n=p.1
  ·refine KTD.eachL_hit e fun t=>?_
   have:=hp' t
   rw[bS.mpr e] at this
   exact this
  ·refine KTD.eachL_miss e (ih fun t=>?_)
   have:=hp' t
   rw[rV e] at this
   exact this
theorem U8{vs:List Value}{ss:List Str}(h:StrsAre vs ss):vs.length=ss.length:=by
 induction h with
 |nil=>rfl
 |cons _ _ _ ih=>rw[jA,jA,ih]
theorem U9{vs:List Value}{ss:List Str}(h:StrsAre vs ss){i:Nat}(hi:i<ss.length):∃t,vs[i]? =some (.str (ss.getD i ⟨#[]⟩) t):=by
 induction h generalizing i with
 |nil=>exact absurd hi (yC _)
 |cons _ _ _ ih=>cases i with
  |zero=>exact⟨_,rfl⟩
  |succ i=>exact ih (afi hi)
section
variable{G:Gx}{σ:SS}{K:SV→SS→Prop}{x y:SV}{t:Addr}
theorem At.here{c:Cx}{ρ:List Addr}{s:Shared}(a:At G c ρ σ s){D:List (Str×Str)}(ht:aQ t G.T.nP=some D):∃h₀,KTD.Here h₀ s.heap t (wA D):=by
 obtain⟨o,h1,h2⟩:=a.tk.DY _ (eg ht)
 obtain⟨_,⟨_,_,_,_,g,gr,F,_⟩,_⟩:=a.R
 exact⟨g,h2 _ (gr.X _ _ h1),F.keep⟩
theorem Va{D:List (Str×Str)}{n:Str}(ht:aQ t G.T.nP=some D)(hx:bI x n)(k:K (.sb (bT n D)) σ):aC G (compareOp .In) x (.val (.ref t)) σ K:=.mk fun c ρ s v u a r q=>by
 obtain rfl:=q
 obtain⟨tk,rfl⟩:=hx r
 obtain⟨_,hh⟩:=a.here ht
 exact KTD.in_text hh (a.t1.give (V:=VR G.D) (x:=.sb _) (pr _) (by rw[GO];rfl) k)
theorem Vb{D:List (Str×Str)}{n:Str}{oe ie:Expr}(hs:cG ie)(ht:aQ t G.T.nP=some D)(hy:∀{ρ:List Addr} {v:Value},VR G.D ρ y v→∃t,v=.str n t)(hn:bT n D=true){z:SV}(hz:∀ρ t,VR G.D ρ z (.str (gU n D) t))(k:K z σ):aC G (subscriptTail oe ie) (.val (.ref t)) y σ K:=.mk fun c ρ s v u a r q=>by
 obtain rfl:=r
 obtain⟨tk,rfl⟩:=hy q
 obtain⟨_,hh⟩:=a.here ht
 refine KTD.item_textA hh ?_ (by rw[GO];exact hn) (U7 D fun t=>a.t1.give (V:=VR G.D) (x:=z) (pr _) (hz _ _) k) (hs.sub _ _)
 rw[List.all_map]
 exact bH.mpr fun qq qq=>rfl
theorem Vc{C dx:Addr}{fs:List (Str×SV)}{ci:CI}{nm:Str}(ht:aQ t G.T.nO=some (C,dx,fs))(hc:aQ C G.T.cls=some ci)(hf:has nm ci.gK=true)(hl:lk nm fs=some x)(hp:rZ x=true)(k:K x σ):iL G (getAttr · nm true) (.val (.ref t)) σ K:=fun c ρ s v a r=>by
 obtain rfl:=r
 obtain⟨m,⟨ls,ad,l1,l2,g,gr,F,N⟩,hloc⟩:=a.R
 obtain⟨h1,es,k',h2,fr⟩:=a.tk.sin _ (eg ht)
 obtain⟨co,rfl⟩:=a.iN hc
 obtain⟨u,g1,g2⟩:=fr.zm hl
 have st:∀a o,G.D.K.lookup a=some o→s.heap.get? a=some o:=fun a o e=>F.keep _ _ (gr.X a o e)
 exact get_own F gr.X ⟨st _ _ h1,rfl,rfl,st _ _ h2⟩ co.plain co.dict (co.fld nm (pQ.mp hf)).1 rfl g1 (g2.handed hp) (a.t1.give (pr _) (g2.mono List.nil_prefix) k)
theorem At.lst{c:Cx}{ρ:List Addr}{s:Shared}(a:At G c ρ σ s){ss:List Str}(ht:aQ t G.T.lY=some ss):∃vs,s.heap.IsList t (vs:List Value).toArray∧StrsAre vs ss:=by
 obtain⟨vs,n,h1,h2⟩:=a.tk.lst _ (eg ht)
 exact⟨vs,⟨_,a.X _ _ h1,rfl,n,rfl⟩,h2⟩
theorem Vd{ss:List Str}(ht:aQ t G.T.lY=some ss)(hz:av ss.length 1000=true)(k:K (.int ss.length) σ):bB G (.builtin "len") [.val (.ref t)] σ K:=.one fun c ρ s v a r=>by
 obtain rfl:=r
 obtain⟨vs,h1,h2⟩:=a.lst ht
 have hz:=ao hz
 have e:vs.toArray.size=ss.length:=by rw[rD];exact U8 h2
 exact call_len_list h1 (by rw[e];exact Om.LG hz e) (a.t2.give (V:=VR G.D) (x:=.int ss.length) (pr _) ⟨s.toks+1,by rw[e]⟩ k)
theorem GP{ss:List Str}{j:Int}{oe ie:Expr}(hs:cG ie)(ht:aQ t G.T.lY=some ss)(hz:av ss.length 1000=true)(hy:bc y j)(h0:0≤j)(h1:j<ss.length)(k:K (.ss (ss.getD j.toNat ⟨#[]⟩)) σ):aC G (subscriptTail oe ie) (.val (.ref t)) y σ K:=.mk fun c ρ s v u a r q=>by
 obtain rfl:=r
 obtain⟨tk,rfl⟩:=hy q
 obtain⟨vs,hl,h2⟩:=a.lst ht
 have hz:=ao hz
 obtain⟨tk2,hv⟩:=U9 (i:=j.toNat) h2 (by exact Om.LH h0 h1 hz)
 refine tail_any hl.typeIs slot_list_getitem.lookup (wpAny_getItem_list hl h0 (by exact Om.LI h1 hz) (by rw[pC];exact hv) (a.give (V:=VR G.D) (x:=.ss _) (pr _) ⟨_,rfl⟩ k)) (hs.sub _ _)
end
theorem Ve(us:List Value)(v:Value):kl_last (us++[v])=some (us,v):=by
 induction us with
 |nil=>rfl
 |cons x us ih=>
  show kl_last (x::(us++[v]))=_
  unfold kl_last
  rw[ih]
theorem Each.last{α β:Type}{R:α→β→Prop}{xs:List α}{z:α}{vs:List β}(h:Each R (xs++[z]) vs):∃us v,vs=us++[v]∧Each R xs us∧R z v:=by
 induction xs generalizing vs with
 |nil=>cases h using Each.ec with|cons h t=>cases t;exact⟨[],_,rfl,.nil,h⟩
 |cons x xs ih=>cases h using Each.ec with
  |cons h t=>
   obtain⟨us,v,rfl,h1,h2⟩:=ih t
   exact⟨_::us,v,rfl,.cons h h1,h2⟩
noncomputable def GQ (xs:List SV):Option {z:List SV×SV//xs=z.1++[z.2]}:=@bu SV (fun xs=>Option {z:List SV×SV//xs=z.1++[z.2]}) af (fun x xs ih=>match xs,ih with
 |[],_=>some ⟨([],x),rfl⟩
 |y::r,some z=>some ⟨(x::z.1.1,z.1.2),congrArg (x::·) z.2⟩
 |y::r,af=>af) xs
section
variable{G:Gx}{σ:SS}{K:SV→SS→Prop}{i:Nat}
theorem Vf{nm:Str}{xs:List SV}{z:SV}(hnm:seq nm (aa "pop")=true)(ho:σ.objs.list[i]? =some (.list af (xs++[z])))(hz:av xs.length 1000=true)(k:K z ⟨σ.loc,OL.s σ.objs i (.list af xs),σ.fa⟩):iR G nm [] (.obj i) σ K:=fun c ρ s v pos pl a r=>by
 obtain rfl:=bS.mp hnm
 have key:bB G (.builtin "list.pop") [.obj i] σ K:=.one fun c ρ s v a r=>by
  obtain⟨b,us,vs,n,m,g,A,B,rfl,hp,f,F,N,nd,back⟩:=a.sA ho r
  obtain rfl:us=[]:=hp
  obtain⟨ws,w,rfl,f1,f2⟩:=f.last
  have hU:=rW (o':=listOf (ws:List Value).toArray (n+1)) nd
  refine kl_pop (p:=ws) (y:=w) F N (Ve _ _) hU (by
   have:=ao hz
   show(ws++[w]).length≤_
   rw[bG,←f1.len,sizeLine_eq]
   show xs.length+1≤_
   exact Om.LJ this) fun h' F' N'=>⟨ρ,⟨σ.loc,OL.s σ.objs i (.list af xs),σ.fa⟩,z,pr _,⟨back af xs [] ws (n+1) h' rfl f1 F' N',a.tp.to (az _),a.fa⟩,f2,k⟩
 obtain⟨b,m,rfl,_,⟨A,B,l,g,O,gr,F,N,_,_⟩⟩:=a.dN ho r
 obtain⟨us,vs,n,rfl,q,f⟩:=O
 exact kl_method N (bF _ (.head _)) PySem.F.slot_list_pop PySem.F.type_list_pop (mu (xs:=[.obj i]) (fun qq h=>by cases h) a (pr _) (.one r) (fP key))
end
theorem Vg(ys:List Str):kq ⟨#[]⟩ ys=⟨(ys.flatMap fun y=>y.cps.toList).toArray⟩:=by
 refine gT ?_
 show _=(ys.flatMap fun y=>y.cps.toList)
 induction ys with
 |nil=>rfl
 |cons y r ih=>cases r with
  |nil=>
   show(uM ⟨#[]⟩ [y]).cps.toList=_
   rw[uC]
   simp[rM]
  |cons z r=>
   have e:(kq ⟨#[]⟩ (y::z::r))=uM ⟨#[]⟩ (y::z::r):=rfl
   have e':(kq ⟨#[]⟩ (z::r))=uM ⟨#[]⟩ (z::r):=rfl
   rw[e,uC,zV _ _ _ (by simp),←uC,←e',ih]
   simp
noncomputable def sX (ts:List Tm):Tm:=match ts with
 |[]=>lit []
 |t::r=>r.foldl cat t
theorem Vh(η:Ev):∀(r:List Tm) (t:Tm),(r.foldl cat t).ev η=t.ev η++r.flatMap (·.ev η):=fun r=>by
 induction r with
 |nil=>exact fun t=>(dW _).symm
 |cons a r ih=>
  intro t
  rw[List.foldl_cons,ih,Cp]
  exact bD _ _ _
theorem Vi(η:Ev)(ts:List Tm):(sX ts).ev η=ts.flatMap (·.ev η):=by
 cases ts with
 |nil=>rfl
 |cons t r=>rw[Cp];exact Vh η r t
noncomputable def z4 (ts:List Tm):Nat:=bu 0 (fun t qq ih=>t.bd+ih) ts
theorem Vj(W:Wd)(ts:List Tm):((ts.map fun t=>ai (t.ev W.η)).map (·.length)).sum≤z4 ts:=by
 induction ts with
 |nil=>exact az _
 |cons t r ih=>
  rw[eL,eL,List.sum_cons,eY]
  exact dm (Tm.kB W.gJ t) ih
section
variable{G:Gx}{σ:SS}{K:SV→SS→Prop}{x y:SV}
theorem Vk{i:Nat}{xs:List SV}{ts:List Tm}(h1:bI x ⟨#[]⟩)(ho:σ.objs.list[i]? =some (.list af xs))(hs:∀{W:Wd} {ρ:List Addr} {vs:List Value},aG W ρ xs vs→StrsAre vs (ts.map fun t=>ai (t.ev W.η)))(hz:av (z4 ts) 1000000=true)(k:K (.tm (sX ts)) σ):bB G (.builtin "str.join") [x,.obj i] σ K:=.two<|.mk fun c ρ s v u at_ r q=>by
 obtain⟨_,rfl⟩:=h1 r
 obtain⟨b,us,vs,rfl,rfl,f,l⟩:=at_.list ho q
 refine join_le (vs:=vs) l (hs f) (ah (dm (Vj G.D ts) (aA (Nat.mul_zero _))) (ah (ao hz) (by decide))) fun t' k' hk=>(at_.tok hk).give (V:=VR G.D) (x:=.tm (sX ts)) (pr _) ⟨t',?_⟩ k
 rw[Vg,Vi]
 congr 2
 rw[List.flatMap_map]
 rfl
theorem Vl{t a h:Tm}{oe ie:Expr}(hs:cG ie)(hx:IsT x t)(hy:bc y (-1))(ht:t=cat a h)(ok:aI G.D.η σ.fa→(h.ev G.D.η).length=1)(hz:av t.bd 1000000=true)(k:K (.tm h) σ):aC G (subscriptTail oe ie) x y σ K:=.mk fun c ρ s v u at_ r q=>by
 obtain⟨tk,rfl⟩:=hx r
 obtain⟨t',rfl⟩:=hy q
 have hl:=wm (W:=G.D) hz
 have ho:=ok at_.fa
 have e:t.ev G.D.η=a.ev G.D.η++h.ev G.D.η:=by rw[ht];rfl
 have hn:1≤(ai (t.ev G.D.η)).length:=by rw[eY,e,bG,ho];exact Om.Dh
 obtain⟨w,hw⟩:∃w,h.ev G.D.η=[w]:=by
  cases e2:h.ev G.D.η with
  |nil=>rw[e2] at ho;cases ho
  |cons w r=>cases r with
   |nil=>exact⟨w,rfl⟩
   |cons=>rw[e2] at ho;cases ho
 refine item_str ?_ (by exact Om.LK hn) (by exact Om.LL hn) (fun qq=>at_.t1.give (V:=VR G.D) (x:=.tm h) (pr _) ⟨s.toks,?_⟩ k) (hs.sub _ _) (Gm _ _ _)
 ·unfold fitsSsize
  rw[decide_eq_false (by exact Om.LM:¬(-1:Int)< -(2^63:Int)),decide_eq_false (by exact Om.LN:¬(-1:Int)≥2^63)]
  rfl
 ·rw[St.item_last (ai (t.ev G.D.η)) (a:=a.ev G.D.η) (c:=w) (by rw[e,hw];rfl),hw];rfl
end
noncomputable def z5 (K:Fl→SS→Prop) (J:SS→Prop) (fl:Fl) (σ:SS):Prop:=match fl with
 |.next=>J σ
 |.cont=>J σ
 |.brk=>K .next σ
 |.ret v=>K (.ret v) σ
theorem sY{G:Gx}{σ:SS}{K:Fl→SS→Prop}{test:Expr}{body:List Stmt}{pos:Pos}(hK:∀e ρ os,¬G.KX e ρ os)(J:Nat→SS→Prop)
 (turn:∀n σ,J n σ→bN G test σ fun x σ₁=>Br x σ₁ (fun σ₁=>bz G body σ₁ (z5 K fun σ₂=>∃n',n'<n∧J n' σ₂)) (K .next)) (n:Nat) (h:J n σ):bw G (.While test body [] pos) σ K:=fun c ρ s qq a qq=>by
 have no:∀{c' ρ e s},PX G c' ρ e s→False:=fun⟨_,_,_,_,_,z⟩=>hK _ _ _ z
 refine wpAny_While (codeAny_whileLoop (fun n s'=>∃ρ' σ',ρ<+:ρ'∧At G c ρ' σ' s'∧J n σ') ?_ n ⟨ρ,σ,pr _,a,h⟩)
 rintro n s' ⟨ρ',σ',p,a',hI⟩
 refine wpAny_mono (aK.go (ρ₀:=ρ) (w:=()) (turn n σ' hI) a' p trivial fun ρ₁ σ₁ x b s₁ p₁ qq a₁ q k=>?_) (fun qq qq z=>z) fun qq qq z=>(no z).elim
 cases a₁.br k q with
 |f e σ₂ a₂ k₂=>
  subst e
  simp only[rC,if_false]
  exact wpAny_execs_nil (a₂.dD (x:=.next) p₁ rfl k₂)
 |t e σ₂ a₂ k₂=>
  subst e
  simp only[if_true]
  refine wpAny_mono (aK.go (ρ₀:=ρ) (w:=()) k₂ a₂ p₁ trivial fun ρ₃ σ₃ fl f s₃ p₃ qq a₃ q₃ k₃=>?_) (fun qq qq z=>z) fun qq qq z=>(no z).elim
  cases fl with
  |next=>obtain rfl:=q₃;obtain⟨m,hm,hi⟩:=k₃;exact⟨m,hm,ρ₃,σ₃,p₃,a₃,hi⟩
  |cont=>obtain rfl:=q₃;obtain⟨m,hm,hi⟩:=k₃;exact⟨m,hm,ρ₃,σ₃,p₃,a₃,hi⟩
  |brk=>obtain rfl:=q₃;exact a₃.dD (x:=.next) p₃ rfl k₃
  |ret x=>obtain⟨v,rfl,q₃⟩:=q₃;exact a₃.dD (x:=.ret x) p₃ ⟨v,rfl,q₃⟩ k₃
end
end Ex
end
section
namespace Ex
noncomputable section
structure Ops (G:Gx) where
 E:∀(e:Expr) (σ:SS) (K:SV→SS→Tr),VG G (aq G e σ (hh K))
 T:∀(e:Expr) (σ:SS) (K:SV→SS→Tr),VG G (bN G e σ (hh K))
 S:∀(st:Stmt) (σ:SS) (K:Fl→SS→Tr),VG G (bw G st σ (hh K))
noncomputable def VC.succ {S:Prop} (k:Nat) (f:∀n,k=n+1→VC S):VC S:=@cD (fun k'=>k=k'→VC S) (fun qq=>.no) (fun n qq=>f n) k rfl
noncomputable abbrev Vm (e:Expr):Prop:=∀r env,starEach (e::r) env=(false,eval e env)::starEach r env
noncomputable def GR (e:Expr):Option (PLift (Vm e)):=match jK e with
 |some ⟨h⟩=>some ⟨h.star⟩
 |Option.none=>match e with
  |.ListComp ..=>some ⟨fun qq qq=>rfl⟩
  |_=>af
noncomputable def gu (ts:List Expr):Option (PLift (c5 ts)):=@bu Expr (fun ts=>Option (PLift (c5 ts))) (some ⟨fun qq h=>by cases h⟩) (fun t ts ih=>match GR t,ih with
 |some ⟨a⟩,some ⟨b⟩=>some ⟨fun u hu=>(bV.mp hu).elim (fun e=>e▸a) (b u)⟩
 |_,_=>af) ts
inductive EV:Expr→Type
 |con (co:Const) (k:Nat) (p:Pos):EV (.Constant co k p)
 |Vn (n:Str) (p:Pos):EV (.Name n p)
 |Vo (ob:Expr) (nm:Str) (p:Pos):EV (.Attribute ob nm p)
 |Vp (ob:Expr) (lo hi st:Option Expr) (p pos:Pos):EV (.Subscript ob (.Slice lo hi st p) pos)
 |sub (ob ie:Expr) (pos:Pos):EV (.Subscript ob ie pos)
 |bin (l:Expr) (op:Operator) (r:Expr) (pos:Pos):EV (.BinOp l op r pos)
 |un (op:UnaryOp) (e:Expr) (pos:Pos):EV (.UnaryOp op e pos)
 |cmp (l:Expr) (ops:List CmpOp) (rs:List Expr) (pos:Pos):EV (.Compare l ops rs pos)
 |Vq (t b e:Expr) (pos:Pos):EV (.IfExp t b e pos)
 |Vr (op:BoolOp) (es:List Expr) (pos:Pos):EV (.BoolOp op es pos)
 |lst (es:List Expr) (pos:Pos):EV (.List es pos)
 |tup (es:List Expr) (k:Nat) (pos:Pos):EV (.Tuple es k pos)
 |vn (ks:List (Option Expr)) (vs:List Expr) (pos:Pos):EV (.Dict ks vs pos)
 |Vs (n:Str) (p:Pos) (args:List Expr) (pos:Pos):EV (.Call (.Name n p) args [] pos)
 |Vt (ob:Expr) (nm:Str) (ap:Pos) (args:List Expr) (pos:Pos):EV (.Call (.Attribute ob nm ap) args [] pos)
 |Vu (elt:Expr) (gs:List Comprehension) (sc:Scope) (pos:Pos):EV (.ListComp elt gs sc pos)
 |mE (e:Expr):EV e
set_option backward.match.sparseCases false in
noncomputable def qi (e:Expr):EV e:=match e with
 |.Constant co k p=>.con co k p
 |.Name n p=>.Vn n p
 |.Attribute ob nm p=>.Vo ob nm p
 |.Subscript ob ie pos=>match ie with
  |.Slice lo hi st p=>.Vp ob lo hi st p pos
  |ie=>.sub ob ie pos
 |.BinOp l op r pos=>.bin l op r pos
 |.UnaryOp op e pos=>.un op e pos
 |.Compare l ops rs pos=>.cmp l ops rs pos
 |.IfExp t b e pos=>.Vq t b e pos
 |.BoolOp op es pos=>.Vr op es pos
 |.List es pos=>.lst es pos
 |.Tuple es k pos=>.tup es k pos
 |.Dict ks vs pos=>.vn ks vs pos
 |.Call f args kws pos=>match kws with
  |[]=>match f with
   |.Name n p'=>.Vs n p' args pos
   |.Attribute ob nm apos=>.Vt ob nm apos args pos
   |f=>.mE _
  |k::ks=>.mE _
 |.ListComp elt gs scope pos=>.Vu elt gs scope pos
 |e=>.mE e
inductive TV:Stmt→Type
 |Vv (pos:Pos):TV (.Pass pos)
 |ret (e:Expr) (pos:Pos):TV (.Return (some e) pos)
 |Vw (pos:Pos):TV (.Return af pos)
 |iff (t:Expr) (b e:List Stmt) (pos:Pos):TV (.If t b e pos)
 |exp (e:Expr) (pos:Pos):TV (.Expr e pos)
 |asg (t e:Expr) (pos:Pos):TV (.Assign [t] e pos)
 |aug (t:Expr) (op:Operator) (e:Expr) (pos:Pos):TV (.AugAssign t op e pos)
 |ast (t:Expr) (pos:Pos):TV (.Assert t af pos)
 |fr (t it:Expr) (b els:List Stmt) (pos:Pos):TV (.For t it b els pos)
 |brk (pos:Pos):TV (.Break pos)
 |cont (pos:Pos):TV (.Continue pos)
 |Vx (t:Expr) (b:List Stmt) (pos:Pos):TV (.While t b [] pos)
 |mE (st:Stmt):TV st
set_option backward.match.sparseCases false in
noncomputable def Vy (st:Stmt):TV st:=match st with
 |.Pass pos=>.Vv pos
 |.Return e pos=>match e with
  |some e=>.ret e pos
  |Option.none=>.Vw pos
 |.If t b e pos=>.iff t b e pos
 |.Expr e pos=>.exp e pos
 |.Assign ts e p'=>match ts with
  |[t]=>.asg t e p'
  |ts=>.mE _
 |.AugAssign t op e pos=>.aug t op e pos
 |.Assert t m pos=>match m with
  |Option.none=>.ast t pos
  |some m=>.mE _
 |.For tgt it b els pos=>.fr tgt it b els pos
 |.Break pos=>.brk pos
 |.Continue pos=>.cont pos
 |.While t b els pos=>match els with
  |[]=>.Vx t b pos
  |e::es=>.mE _
 |st=>.mE st
section
variable{G:Gx}(o:Ops G)
noncomputable def jl (x:SV) (σ:SS) {A B:SS→Prop} (a:∀σ,VG G (A σ)) (b:∀σ,VG G (B σ)):VG G (Br x σ A B):=match x with
 |.bool c=>match c with
  |true=>a σ
  |false=>b σ
 |.sb c=>⟨.im c (a σ).t (b σ).t,fun h g=>⟨fun e=>(a σ).ok (h.1 e) g,fun e=>(b σ).ok (h.2 e) g⟩⟩
 |.bm k l p q=>⟨.and (a (σ.add k l p q true)).t (b (σ.add k l p q false)).t,fun h g=>⟨(a _).ok h.1 g,(b _).ok h.2 g⟩⟩
 |_=>.no
noncomputable def nextT (f:Fl) (a b:Tr):Tr:=@Fl.rec (fun qq=>Tr) a b b (fun qq=>b) f
noncomputable def cY:∀(b:List Stmt) (σ:SS) (K:Fl→SS→Tr),VG G (bz G b σ (hh K)):=@bu Stmt (fun b=>∀(σ:SS) (K:Fl→SS→Tr),VG G (bz G b σ (hh K))) (fun σ K=>fin K .next σ iO)
 fun st r ih σ K=>⟨(o.S st σ fun f σ'=>nextT f (ih σ' K).t (K f σ')).t,fun h g=>cP (((o.S st σ _).ok h g).mp fun f σ' z=>by
  cases f with
  |next=>exact(ih σ' K).ok z g
  |_=>exact z)⟩
noncomputable def dQ:∀(es:List Expr) (σ:SS) (K:List SV→SS→Tr),VG G (c7 G es σ (hh K)):=@bu Expr (fun es=>∀(σ:SS) (K:List SV→SS→Tr),VG G (c7 G es σ (hh K))) (fun σ K=>fin K [] σ fP)
 fun e r ih σ K=>.one (GR e) fun f=>gm (dP f.1) (bind (o.E e σ) fun x σ₁=>ih σ₁ fun xs σ₂=>K (x::xs) σ₂)
noncomputable def Vz:∀(ks:List (Option Expr)) (vs:List Expr) (σ:SS) (K:List (Str×SV)→SS→Tr),VG G (qb G ks vs σ (hh K)):=@bu (Option Expr) (fun ks=>∀(vs:List Expr) (σ:SS) (K:List (Str×SV)→SS→Tr),VG G (qb G ks vs σ (hh K)))
 (fun vs σ K=>match vs with
   |[]=>fin K [] σ S8
   |_::_=>.no)
 fun k ks ih vs σ K=>match vs with
  |[]=>.no
  |v::vs=>.one (S6 k) fun n=>gm (S9 n.2) (bind (o.E v σ) fun x σ₁=>ih vs σ₁ fun fs σ₂=>K ((n.1,x)::fs) σ₂)
end
section
variable(oo:∀G,Ops G)(G:Gx)
noncomputable def qj (loc:List (Str×SV)) (K:SV→SS→Tr) (f:Fl) (σ:SS):Tr:=@Fl.rec (fun qq=>Tr) (K .none ⟨loc,σ.objs,σ.fa⟩) .ff .ff (fun x=>K x ⟨loc,σ.objs,σ.fa⟩) f
noncomputable def VA (f:Addr) (i:aJ) (hi:aQ f G.T.fns=some i) (xs:List SV) (σ:SS) (K:SV→SS→Tr):VG G (au G (.ref f) xs σ (hh K)):=.succ G.n fun n hn=>.aT (av i.ps.length (xs.length+i.ds.length)) fun h1=>.aT (av xs.length i.ps.length) fun h2=>
 ⟨(cY (oo (G.in n i)) i.body ⟨iQ i xs,σ.objs,σ.fa⟩ (qj σ.loc K)).t,fun h g=>mr hi hn h1 h2 (((cY (oo (G.in n i)) i.body ⟨iQ i xs,σ.objs,σ.fa⟩ (qj σ.loc K)).ok h (g.in n i)).mp fun f σ' z=>by cases f<;>exact z)⟩
noncomputable def VB (f:Addr) (xs:List SV) (σ:SS) (K:SV→SS→Tr):VG G (au G (.ref f) xs σ (hh K)):=match xs with
 |[x0]=>.opt (aQ f G.T.jH) fun z hz=>.succ G.n fun n hn=>
  ⟨(cY (oo (G.nX n z.1 z.2.2 σ.objs.length)) z.1.body ⟨[(z.2.1,x0)],OL.a σ.objs (.cell af),σ.fa⟩ (qj σ.loc K)).t,fun h g=>UH hz hn (((cY (oo (G.nX n z.1 z.2.2 σ.objs.length)) z.1.body ⟨[(z.2.1,x0)],OL.a σ.objs (.cell af),σ.fa⟩ (qj σ.loc K)).ok h (g.nX n z.1 z.2.2 σ.objs.length)).mp fun f σ' z=>by cases f<;>exact z)⟩
 |_=>.no
noncomputable def kN (f:Addr) (xs:List SV) (σ:SS) (K:SV→SS→Tr):VG G (au G (.ref f) xs σ (hh K)):=.or (aQ f G.cons)
 (fun qq=>.or (aQ f G.T.fns) (fun qq=>VB oo G f xs σ K) fun i hi=>VA oo G f i hi xs σ K)
 fun(p:Nat×bx) hp=>.aT (av p.1 G.n) fun h=>⟨p.2 xs σ K,fun z g=>g.con (f,p) (eg hp) G rfl rfl (ao h) xs σ K z⟩
noncomputable def sZ (x:SV):Option (PLift (x=.none)):=match x with
 |.none=>some ⟨rfl⟩
 |_=>af
noncomputable def wB (j:Nat) (K:SV→SS→Tr) (y:SV) (σ:SS):Tr:=@aU (PLift (y=.none)) (fun qq=>Tr) .ff (fun qq=>K (.obj j) σ) (sZ y)
theorem VD{j:Nat}{K:SV→SS→Tr}{y:SV}{σ:SS}(h:(wB j K y σ).h):y=.none∧(K (.obj j) σ).h:=by
 unfold wB at h
 cases e:sZ y with
 |none=>rw[e] at h;exact h.elim
 |some q=>rw[e] at h;exact⟨q.1,h⟩
noncomputable def newX (C:Addr) (xs:List SV) (σ:SS) (K:SV→SS→Tr):VG G (au G (.ref C) xs σ (hh K)):=.succ G.n fun n hn=>.opt (aQ C G.T.cls) fun ci hc=>.opt (lk (aa "__init__") ci.fM) fun f hm=>.aT (aH C G.T.kF) fun hk=>
 ⟨(kN oo (G.un n) f (.obj σ.objs.length::xs) ⟨σ.loc,OL.a σ.objs (.inst C []),σ.fa⟩ (wB σ.objs.length K)).t,fun h g=>UE hn hk hc hm (((kN oo (G.un n) f (.obj σ.objs.length::xs) ⟨σ.loc,OL.a σ.objs (.inst C []),σ.fa⟩ (wB σ.objs.length K)).ok h (g.un n)).mp fun qq qq z=>VD z)⟩
noncomputable def kO (f:Addr) (xs:List SV) (σ:SS) (K:SV→SS→Tr):VG G (au G (.ref f) xs σ (hh K)):=.or (aQ f G.T.cls) (fun qq=>kN oo G f xs σ K) fun qq qq=>.or (aQ f G.cons) (fun qq=>newX oo G f xs σ K) fun qq qq=>kN oo G f xs σ K
noncomputable def GS {α β:Type} (o:Option α) (n:Option β) (f:∀a,o=some a→β):Option β:=@aU α (fun o'=>o=o'→Option β) (fun qq=>n) (fun a h=>some (f a h)) o rfl
noncomputable def VE (T:Tab) (f:Addr):Option (PLift (∀W,TabOk W T→keepIn W.K (.ref f)=true)):=GS (aQ f T.fns) (GS (aQ f T.jH) ((aO (aH f T.kF)).map fun h=>⟨fun W t=>(t.kF _ h.1).2⟩) fun i h=>⟨fun W t=>(t.jH _ (eg h)).keep⟩) fun i h=>⟨fun W t=>(t.fns _ (eg h)).keep⟩
noncomputable def isC {n:Str}:(k:NameKind)→Option (PLift (k=.globalImplicit))
 |.globalImplicit=>some ⟨rfl⟩
 |_=>af
noncomputable def VF (x:SV) (σ:SS) (K:SV→SS→Tr):VG G (bB G (.builtin "len") [x] σ (hh K)):=match x with
 |.obj i=>.cO σ.objs i fun o ho=>match o,ho with
  |.list p xs,ho=>.one (ez p) fun hn=>.aT (av xs.length 1000) fun hz=>fin K (.int xs.length) σ (T9 (hn.1▸ho) hz)
  |.bJ fs,ho=>.aT (av fs.length 1000) fun hz=>fin K (.int fs.length) σ (Ua ho hz)
  |_,_=>.no
 |.val v=>match v with
  |.ref t=>.opt (aQ t G.T.lY) fun ss ht=>.aT (av ss.length 1000) fun hz=>fin K (.int ss.length) σ (Vd ht hz)
  |_=>.no
 |x=>.one (b7 x) fun a=>.need (a.1.length≤sizeLine) ⟨K (.si a.1.length) σ,fun h p qq=>Gl (K:=hh K) a.2 p h⟩
noncomputable def VH (x:SV) (σ:SS) (K:SV→SS→Tr):VG G (bB G (.builtin "ord") [x] σ (hh K)):=.one (b7 x) fun a=>.need (a.1.length=1) ⟨K (.si (a.1.cps.getD 0 0:Nat)) σ,fun h p qq=>UT (K:=hh K) a.2 p h⟩
noncomputable def VI (x:SV) (σ:SS) (K:SV→SS→Tr):VG G (bB G (.builtin "chr") [x] σ (hh K)):=.one (bA x) fun i=>.need (0≤i.1∧i.1≤1114111) ⟨K (.ss ⟨#[i.1.toNat]⟩) σ,fun h p qq=>UU (K:=hh K) i.2 p.1 p.2 h⟩
noncomputable def VJ:∀xs:List SV,Option {ys:List Str//∀{W:Wd} {ρ:List Addr} {vs:List Value},aG W ρ xs vs→StrsAre vs ys}:=@bu SV (fun xs=>Option {ys:List Str//∀{W:Wd} {ρ:List Addr} {vs:List Value},aG W ρ xs vs→StrsAre vs ys}) (some ⟨[],fun r=>by cases r;exact .nil⟩)
 fun x xs ih=>ak (b7 x) fun t=>ak ih fun ts=>some ⟨t.1::ts.1,fun r=>by
  cases r using Each.ec with
  |cons r rs=>obtain⟨u,rfl⟩:=t.2 r;exact .cons _ _ (ts.2 rs)⟩
noncomputable def VK (x:SV) (ys:List SV) (σ:SS) (K:SV→SS→Tr):VG G (bB G (.builtin "str.startswith") (x::ys) σ (hh K)):=match ys with
 |[y]=>.two (b7 x) (b7 y) (fun a b=>fin K (.sb (lP a.1 b.1)) σ (UR a.2 b.2)) .no
 |_=>.no
noncomputable def VL (a:Str) (xs:List SV):Option {ts:List Tm//a=⟨#[]⟩∧∀{W:Wd} {ρ:List Addr} {vs:List Value},aG W ρ xs vs→StrsAre vs (ts.map fun t=>ai (t.ev W.η))}:=match xs with
 |[]=>(aO (seq a ⟨#[]⟩)).map fun h=>⟨[],bS.mp h.1,fun r=>by cases r;exact .nil⟩
 |.tm t::r=>ak (aO (seq a ⟨#[]⟩)) fun h=>(FZ (.tm t::r)).map fun ts=>⟨ts.1,bS.mp h.1,ts.2⟩
 |_=>af
noncomputable def VM (x:SV) (ys:List SV) (σ:SS) (K:SV→SS→Tr):VG G (bB G (.builtin "str.join") (x::ys) σ (hh K)):=match ys with
 |[y]=>.one (b7 x) fun a=>.one (dB y) fun i=>.cO σ.objs i.1 fun o ho=>.one (ek o) fun z=>.one (ez z.1.1) fun hn=>.or (VL a.1 z.1.2) (fun qq=>.one (VJ z.1.2) fun l=>.need ((l.1.map (·.length)).sum+l.1.length*a.1.length≤16777216) ⟨K (.ss (kq a.1 l.1)) σ,fun h p qq=>by rw[i.2];exact zU (K:=hh K) a.2 (hn.1▸z.2▸ho) l.2 p h⟩) fun ts qq=>.aT (av (z4 ts.1) 1000000) fun hz=>fin K (.tm (sX ts.1)) σ (by rw[i.2];exact Vk (ts.2.1▸a.2) (hn.1▸z.2▸ho) ts.2.2 hz)
 |_=>.no
noncomputable def VN (x:SV) (ys:List SV) (σ:SS) (K:SV→SS→Tr):VG G (bB G (.builtin "str.count") (x::ys) σ (hh K)):=match ys with
 |[y,z,w]=>.two (b7 x) (b7 y) (fun a b=>.two (bA z) (bA w) (fun i j=>fin K (.si (qh a.1 b.1 i.1 j.1)) σ (UP a.2 b.2 i.2 j.2)) .no) .no
 |_=>.no
noncomputable def VO (x:SV) (ys:List SV) (σ:SS) (K:SV→SS→Tr):VG G (bB G (.builtin "str.rfind") (x::ys) σ (hh K)):=match ys with
 |[y,z,w]=>.two (b7 x) (b7 y) (fun a b=>.two (bA z) (bA w) (fun i j=>fin K (.si (jk a.1 b.1 i.1 j.1)) σ (UQ a.2 b.2 i.2 j.2)) .no) .no
 |_=>.no
noncomputable def VP (v:SV):Option (PLift (v=.val (.type "dict"))):=match v with
 |.val v=>match v with
  |.type t=>(aO (decide (t="dict"))).map fun h=>⟨congrArg (fun t=>SV.val (.type t)) (of_decide_eq_true h.1)⟩
  |_=>af
 |_=>af
noncomputable def VQ (x y:SV) (σ:SS) (K:SV→SS→Tr):VG G (bB G (.builtin "isinstance") [x,y] σ (hh K)):=.one (VP y) fun hy=>match x with
 |.obj i=>.cO σ.objs i fun o ho=>match o,ho with
  |.list p xs,ho=>fin K (.bool false) σ fun k=>by rw[hy.1];exact T6 ho k
  |.dict fs,ho=>fin K (.bool true) σ fun k=>by rw[hy.1];exact T7 ho k
  |.bJ fs,ho=>fin K (.bool true) σ fun k=>by rw[hy.1];exact T8 ho k
  |_,_=>.no
 |_=>.no
noncomputable def VS (id:String) (ys:List SV) (σ:SS) (K:SV→SS→Tr):VG G (bB G (.builtin id) ys σ (hh K)):=match ys with
 |[x]=>.ite (decide (id="len")) (fun h=>gm (fun k=>by rw[of_decide_eq_true h];exact k) (VF G x σ K)) fun qq=>.ite (decide (id="ord")) (fun h=>gm (fun k=>by rw[of_decide_eq_true h];exact k) (VH G x σ K)) fun qq=>.aT (decide (id="chr")) fun h=>gm (fun k=>by rw[of_decide_eq_true h];exact k) (VI G x σ K)
 |[x,y]=>.aT (decide (id="isinstance")) fun h=>gm (fun k=>by rw[of_decide_eq_true h];exact k) (VQ G x y σ K)
 |_=>.no
noncomputable def VT (T:String) (ys:List SV) (σ:SS) (K:SV→SS→Tr):VG G (bB G (.type T) ys σ (hh K)):=match ys with
 |[x]=>.aT (decide (T="dict")) fun h=>.one (dB x) fun i=>.cO σ.objs i.1 fun o ho=>.one (ek o) fun xs=>.one (ez xs.1.1) fun hn=>.one (FY G σ xs.1.2) fun ps=>.aT (av ps.1.length 1000) fun hz=>
  ⟨qf ps.1 [] σ.fa fun fs fa=>K (.obj σ.objs.length) ⟨σ.loc,OL.a σ.objs (.bJ fs),fa⟩,fun k qq=>by rw[of_decide_eq_true h,i.2];exact Us (hn.1▸xs.2▸ho) ps.2 hz k⟩
 |_=>.no
noncomputable def VU (i:Nat) (ys:List SV) (σ:SS) (K:SV→SS→Tr):VG G (bB G (.builtin "dict.update") (.obj i::ys) σ (hh K)):=match ys with
 |[x]=>.one (dB x) fun j=>.cO σ.objs i fun o' hi=>.one (D6 o') fun fs=>.cO σ.objs j.1 fun o ho=>.one (ek o) fun xs=>.one (ez xs.1.1) fun hn=>.one (FY G σ xs.1.2) fun ps=>.aT (av (fs.1.length+ps.1.length) 1000) fun hz=>
  ⟨qf ps.1 fs.1 σ.fa fun fs fa=>K .none ⟨σ.loc,OL.s σ.objs i (.bJ fs),fa⟩,fun k qq=>by rw[j.2];exact Ut (fs.2▸hi) (hn.1▸xs.2▸ho) ps.2 hz k⟩
 |_=>.no
noncomputable def VV (n:Str) (p':Pos) (args:List Expr) (pos:Pos) (σ:SS) (K:SV→SS→Tr):VG G (aq G (.Call (.Name n p') args [] pos) σ (hh K)):=
 .opt (lk n G.cs.names) fun k hk=>match k,hk with
  |.globalImplicit,hk=>.opt (lk n G.T.dM) fun v hv=>match v,hv with
   |.ref f,hv=>.one (VE G.T f) fun hf=>.one (gu args) fun hp=>gm (S0 hk hv hf.1 hp.1) (bind (dQ (oo G) args σ) fun ys σ₁=>kO oo G f ys σ₁ K)
   |.type T,hv=>match args with
    |[arg]=>.one (gu [arg]) fun hp=>gm (F8 hk hv hp.1) (bind (dQ (oo G) [arg] σ) fun ys σ₁=>VT G T ys σ₁ K)
    |_=>.no
   |.builtin id,hv=>.one (gu args) fun hp=>gm (zH hk hv hp.1) (bind (dQ (oo G) args σ) fun ys σ₁=>VS G id ys σ₁ K)
   |_,_=>.no
  |_,_=>.no
noncomputable def VW (i:Nat) (ys:List SV) (σ:SS) (K:SV→SS→Tr):VG G (bB G (.builtin "list.append") (.obj i::ys) σ (hh K)):=match ys with
 |[y]=>.cO σ.objs (i) fun o ho=>match o,ho with
  |.list p xs,ho=>match p,ho with
   |Option.none,ho=>.aT (av xs.length 1000) fun h=>fin K .none ⟨σ.loc,OL.s σ.objs i (.list af (xs++[y])),σ.fa⟩ (E6 ho fun us e=>by
     obtain rfl:=e
     exact ah (aA (jb _)) (ah (ao h) (by decide)))
   |some p,ho=>.need (∀us,vf p us→us.length+xs.length≤16777216) ⟨K .none ⟨σ.loc,OL.s σ.objs i (.list (some p) (xs++[y])),σ.fa⟩,fun h q qq=>E6 (K:=hh K) ho q h⟩
  |_,_=>.no
 |_=>.no
noncomputable def VX (o:SO) (f:Addr) (z:Nat):Option (PLift (o=.bX f (.obj z))):=match o with
 |.bX g x=>match x with
  |.obj w=>gq (aO (aB g f)) (aO (aB w z)) fun h q=>some ⟨by rw[bh h.1,bh q.1]⟩
  |_=>af
 |_=>af
noncomputable def VY (es:List Expr):Option {z:Str×Str//∃k1 p1 k2 p2,es=[.Constant (.str z.1) k1 p1,.Constant (.str z.2) k2 p2]}:=match es with
 |[a,b]=>ak (zJ a) fun y=>ak (zJ b) fun z=>some ⟨(y.1,z.1),let⟨k1,p1,e1⟩:=y.2;let⟨k2,p2,e2⟩:=z.2;⟨k1,p1,k2,p2,congr (congrArg List.cons e1) (congrArg (fun x=>[x]) e2)⟩⟩
 |_=>af
noncomputable def VZ (nm:Str) (args:List Expr) (x:SV) (σ:SS) (K:SV→SS→Tr) (hp:c5 args):VG G (iR G nm args x σ (hh K)):=.one (b7 x) fun a=>
 .ite (seq nm (aa "count")) (fun e=>gm (nY (bS.mp e▸.count) a.2 hp) (bind (dQ (oo G) args σ) fun ys σ₁=>VN G x ys σ₁ K)) fun qq=>
 .ite (seq nm (aa "rfind")) (fun e=>gm (nY (bS.mp e▸.rfind) a.2 hp) (bind (dQ (oo G) args σ) fun ys σ₁=>VO G x ys σ₁ K)) fun qq=>
 .ite (seq nm (aa "startswith")) (fun e=>gm (nY (bS.mp e▸.startswith) a.2 hp) (bind (dQ (oo G) args σ) fun ys σ₁=>VK G x ys σ₁ K)) fun qq=>
 .ite (seq nm (aa "join")) (fun e=>gm (nY (bS.mp e▸.join) a.2 hp) (bind (dQ (oo G) args σ) fun ys σ₁=>VM G x ys σ₁ K)) fun qq=>
 .aT (seq nm (aa "replace")) fun e=>.one (VY args) fun z=>.aT (!seq z.1.1 z.1.2) fun hne=>.need (a.1.length+(a.1.length+1)*z.1.2.length≤16777216) ⟨K (.ss (fu a.1 z.1.1 z.1.2)) σ,fun h p qq=>by
  obtain⟨k1,p1,k2,p2,e2⟩:=z.2
  rw[e2]
  exact US (K:=hh K) e a.2 (by simpa using hne) p h⟩
noncomputable def V0 (nm:Str) (args:List Expr) (x:SV) (σ:SS) (K:SV→SS→Tr):VG G (iR G nm args x σ (hh K)):=.one (gu args) fun hp=>match x with
 |.obj i=>.cO σ.objs (i) fun o ho=>match o,ho with
  |.inst C fs,ho=>.opt (aQ C G.T.cls) fun ci hc=>.or (lk nm fs)
   (fun hl=>.opt (lk nm ci.fM) fun f hm=>gm (S1 ho hc hm hl hp.1) (bind (dQ (oo G) args σ) fun ys σ₁=>kO oo G f (.obj i::ys) σ₁ K))
   fun y hl=>match y,hl with
    |.obj j,hl=>.aT (has nm ci.gK) fun hf=>.cO σ.objs (j) fun o2 hj=>match o2,hj with
     |.bX f w,hj=>match w,hj with
      |.obj z,hj=>.opt (aQ f G.T.fns) fun inf hi=>match args,hp with
       |[],hp=>gm (fun h=>E5 ho hc hf hl hj hi hp.1 (fP ⟨hj,h⟩)) (kO oo G f [.obj z] σ K)
       |e::es,hp=>gm (E5 ho hc hf hl hj hi hp.1) (bind (dQ (oo G) (e::es) σ) fun ys σ₁=>.cO σ₁.objs j fun o3 h3=>.one (VX o3 f z) fun q=>gm (fun h=>⟨q.1▸h3,h⟩) (kO oo G f (.obj z::ys) σ₁ K))
      |_,_=>.no
     |_,_=>.no
    |_,_=>.no
  |.bJ fs,ho=>.aT (seq nm (aa "update")) fun e=>gm (UG e ho hp.1) (bind (dQ (oo G) args σ) fun ys σ₁=>VU G i ys σ₁ K)
  |.blob b,ho=>.opt (aQ (G.T.lW b) G.T.cls) fun ci hc=>.opt (lk nm ci.fM) fun f hm=>⟨(bind (dQ (oo G) args σ) fun ys σ₁=>kO oo G f (.obj i::ys) σ₁ K).t,fun h g=>S2 g.bl ho hc hm hp.1 ((bind (dQ (oo G) args σ) fun ys σ₁=>kO oo G f (.obj i::ys) σ₁ K).ok h g)⟩
  |.list p xs,ho=>.ite (seq nm (aa "append")) (fun e=>gm (fun h=>by obtain rfl:=bS.mp e;exact S5 ho hp.1 h) (bind (dQ (oo G) args σ) fun ys σ₁=>VW G i ys σ₁ K)) fun qq=>.aT (seq nm (aa "pop")) fun e=>match args with
   |[]=>.one (ez p) fun hn=>.one (GQ xs) fun z=>.aT (av z.1.1.length 1000) fun hz=>fin K z.1.2 ⟨σ.loc,OL.s σ.objs i (.list af z.1.1),σ.fa⟩ (Vf e (z.2▸hn.1▸ho) hz)
   |_::_=>.no
  |_,_=>.no
 |.val v=>match v with
  |.ref t=>.opt (aQ t G.T.nO) fun z ht=>.opt (aQ z.1 G.T.cls) fun ci hc=>.or (lk nm z.2.2) (fun hl=>.opt (lk nm ci.fM) fun f hm=>gm (E4 (C:=z.1) (dx:=z.2.1) (fs:=z.2.2) ht hc hm hl hp.1) (bind (dQ (oo G) args σ) fun ys σ₁=>kO oo G f (.val (.ref t)::ys) σ₁ K)) fun qq qq=>.no
  |_=>.no
 |x=>VZ oo G nm args x σ K hp.1
noncomputable def V1 (ob:Expr) (nm:Str) (apos:Pos) (args:List Expr) (pos:Pos) (σ:SS) (K:SV→SS→Tr):VG G (aq G (.Call (.Attribute ob nm apos) args [] pos) σ (hh K)):=
 .one (Et ob) fun hb=>.aT (aB apos.endLine pos.line) fun h1=>.one (gu args) fun hp=>.aT (cW args.length 30) fun h2=>gm (sG hb.1 h1 hp.1 h2) (bind ((oo G).E ob σ) fun x σ₁=>V0 oo G nm args x σ₁ K)
noncomputable def neT (z:SV) (σ:SS) (K:SV→SS→Tr):Tr:=match z with
 |.bool v=>K (.bool !v) σ
 |.bm k l p q=>.and (K (.bool false) (σ.add k l p q true)) (K (.bool true) (σ.add k l p q false))
 |_=>.ff
theorem V2{a b:Tm}{x y:SV}{σ:SS}{K:SV→SS→Tr}(h1:IsT x a)(h2:IsT y b)(h:(neT (eqT σ a b).1 σ K).h):aC G (compareOp .NotEq) x y σ (hh K):=.mk fun c ρ s v u at_ r q=>by
 obtain⟨t,rfl⟩:=h1 r
 obtain⟨t',rfl⟩:=h2 q
 have e:=(eqT σ a b).2 (W:=G.D) at_.fa
 refine PyProof.Rows.ne_str ?_
 rw[bne,vz]
 generalize(eqT σ a b).1=z at e h
 cases z with
 |bool v=>
  obtain e:decide _=v:=e
  rw[e]
  exact at_.truth (z:=.bool !v) rfl h
 |bm k l p q=>
  obtain e:decide _=aZ G.D.η k l (p.ev G.D.η) (q.ev G.D.η):=e
  rw[e]
  cases e2:aZ G.D.η k l (p.ev G.D.η) (q.ev G.D.η) with
  |true=>exact(at_.add e2.symm).truth (z:=.bool false) rfl h.1
  |false=>exact(at_.add e2.symm).truth (z:=.bool true) rfl h.2
 |_=>exact h.elim
noncomputable def V3 (y:SV):Option {b:Tm//IsT y b}:=match y with
 |.tm t=>some ⟨t,fun r=>r⟩
 |.str s=>cZ (.str s)
 |_=>af
noncomputable def V4 (x y:SV) (σ:SS) (K:SV→SS→Tr):VG G (aC G (compareOp .In) x y σ (hh K)):=match y with
 |.val v=>match v with
  |.ref t=>.or (aQ t G.T.nP) (fun qq=>Ei G σ x K (.val (.ref t))) fun D ht=>.one (b7 x) fun n=>fin K (.sb (bT n.1 D)) σ (Va ht n.2)
  |_=>.no
 |y=>Ei G σ x K y
noncomputable def qk (op:CmpOp) (x y:SV) (σ:SS) (K:SV→SS→Tr):VG G (aC G (compareOp op) x y σ (hh K)):=match op with
 |.Is=>Rt G σ x K y
 |.IsNot=>Ru G σ x K y
 |.Eq=>Rh G σ x y K
 |.NotEq=>match x with
  |.obj i=>.aT (av 3 G.n) fun hn=>.one (T4 G σ 8 (.obj i) y) fun h=>fin K (.bool false) σ (T5 hn h.1)
  |.tm t=>.or (V3 y) (fun qq=>Ec G σ (.tm t) y K) fun b qq=>⟨neT (eqT σ t b.1).1 σ K,fun h qq=>V2 G (fun r=>r) b.2 h⟩
  |x=>Ec G σ x y K
 |.NotIn=>.one (cZ x) fun k=>.one (dB y) fun j=>.cO σ.objs j.1 fun o ho=>.one (ek o) fun xs=>.one (ez xs.1.1) fun hn=>.one (FZ xs.1.2) fun ts=>⟨wg k.1 (fun fa=>K (.bool false) ⟨σ.loc,σ.objs,fa⟩) (fun fa=>K (.bool true) ⟨σ.loc,σ.objs,fa⟩) ts.1 σ.fa,fun h qq=>by rw[j.2];exact Ux k.2 (hn.1▸xs.2▸ho) ts.2 h⟩
 |.In=>V4 G x y σ K
 |.Lt=>Ri G σ x y K
 |.LtE=>Rj G σ x y K
 |.Gt=>Rk G σ x y K
 |.GtE=>Rl G σ x y K
noncomputable def V5 (op:Operator) (x y:SV) (σ:SS) (K:SV→SS→Tr):VG G (aC G (binaryOp op) x y σ (hh K)):=match op with
 |.Add=>match x,y with
  |.obj i,.obj j=>.cO σ.objs (i) fun o ho=>.cO σ.objs (j) fun o2 ho2=>match o,o2,ho,ho2 with
   |.list p xs,.list q ys,ho,ho2=>.one (ez p) fun h1=>.one (ez q) fun h2=>.aT (av (xs++ys).length 1000) fun hz=>fin K (.obj σ.objs.length) ⟨σ.loc,OL.a σ.objs (.list af (xs++ys)),σ.fa⟩ (Tg (h1.1▸ho) (h2.1▸ho2) hz)
   |_,_,_,_=>.no
  |.obj i,.val v=>.one (vM G (.obj i) σ) fun xs=>.one (vM G (.val v) σ) fun ys=>.aT (!xs.1.isEmpty) fun h1=>.aT (!ys.1.isEmpty) fun h2=>.aT (av (xs.1++ys.1).length 1000) fun hz=>fin K (.obj σ.objs.length) ⟨σ.loc,OL.a σ.objs (.tup (xs.1++ys.1)),σ.fa⟩ (Th xs.2 ys.2 (by simpa using h1) (by simpa using h2) hz)
  |x,y=>RL G σ x y K
 |.Sub=>.two (bA x) (bA y) (fun a b=>fin K (stI x y (a.1-b.1)) σ (Rw a.2 b.2)) .no
 |.Mod=>.two (bA x) (bA y) (fun a b=>.aT (!decide (b.1=0)) fun h=>fin K (stI x y (a.1.fmod b.1)) σ (p6 a.2 b.2 (by simpa using h))) .no
 |.Mult=>.two (bA x) (bA y) (fun a b=>.need (IntMulOk a.1 b.1) ⟨K (stI x y (a.1*b.1)) σ,fun h p qq=>Ej (K:=hh K) a.2 b.2 p h⟩) .no
 |.FloorDiv=>.two (bA x) (bA y) (fun a b=>.aT (!decide (b.1=0)) fun h1=>.need (x9 a.1 b.1=false) ⟨K (stI x y (a.1.fdiv b.1)) σ,fun h p qq=>sy (K:=hh K) a.2 b.2 (by simpa using h1) p h⟩) .no
 |_=>.no
noncomputable def z6 (e:Option Expr) (σ:SS) (K:Option SV→SS→Tr):VG G (qc G e σ (hh K)):=match e with
 |Option.none=>fin K af σ Td
 |some e=>gm Te (bind ((oo G).E e σ) fun x σ₁=>fin K (some x) σ₁ id)
noncomputable def GU (t:Option Int):Bool:=match t with
 |Option.none=>true
 |some k=>match k with
  |.ofNat m=>!aB m 0
  |_=>true
theorem V6{t:Option Int}(h:GU t=true):t≠some 0:=fun e=>by subst e;cases h
noncomputable def V7 {α:Type} (t:Option α):Option (PLift (t=af)):=match t with
 |Option.none=>some ⟨rfl⟩
 |some _=>af
noncomputable def V8 (x:SV) (l u t:Option SV) (σ:SS) (K:SV→SS→Tr):VG G (E8 x l u t (hh K) σ):=.one (dB x) (fun i=>.cO σ.objs i.1 fun o ho=>.one (ek o) fun z=>.one (ez z.1.1) fun hq=>.one (sI l) fun l'=>.one (sI u) fun u'=>.one (sI t) fun t'=>.aT (GU t'.1) fun h0=>.aT (av z.1.2.length 1000) fun hz=>fin K (.obj σ.objs.length) ⟨σ.loc,OL.a σ.objs (.list af (mw z.1.2 l'.1 u'.1 t'.1)),σ.fa⟩ fun h=>.l i.1 _ _ _ _ i.2 (hq.1▸z.2▸ho) l'.2 u'.2 t'.2 (V6 h0) hz h)
 (.one (V7 t) fun e=>.one (UK x l u) (fun z=>fin K z.1 σ fun h=>.t z.1 e.1 z.2 h) (.one (b7 x) fun a=>.two (sI l) (sI u) (fun i j=>.need (a.1.length≤sizeLine) ⟨K (.ss (b5 a.1 i.1 j.1)) σ,fun h p qq=>.t _ e.1 (UX a.2 i.2 j.2 p) h⟩) .no))
noncomputable def V9 (ob:Expr) (lo hi st:Option Expr) (p pos:Pos) (σ:SS) (K:SV→SS→Tr):VG G (aq G (.Subscript ob (.Slice lo hi st p) pos) σ (hh K)):=
 gm Tf (bind ((oo G).E ob σ) fun x σ₁=>bind (z6 oo G lo σ₁) fun l σ₂=>bind (z6 oo G hi σ₂) fun u σ₃=>bind (z6 oo G st σ₃) fun t σ₄=>V8 G x l u t σ₄ K)
theorem Wa{σ:SS}{K:SV→SS→Prop}{t:Addr}{oe ie:Expr}{fs:List (Str×Value)}{n:Str}{v:Value}{y:SV}(hs:cG ie)(hk:bI y n)(ht:aQ t G.T.rX=some fs)(hl:lk n fs=some v)(k:K (sv v) σ):aC G (subscriptTail oe ie) (.val (.ref t)) y σ K:=.mk fun c ρ s w u a r q=>by
 obtain rfl:=r
 obtain⟨tk,rfl⟩:=hk q
 obtain⟨es,m,h1,h2,h3⟩:=a.tk.vn _ (eg ht)
 obtain⟨_,⟨_,_,_,_,g,gr,F,_⟩,_⟩:=a.R
 exact topItem_K F gr.X h1 h2 (h3 _ (eU hl)) (a.t1.give (pr _) (pV _ _ _) k) (hs.sub _ _)
noncomputable def jQ (h:Tm) (fa:List Fact):Option (PLift (∀η,aI η fa→(h.ev η).length=1)):=match h with
 |.n k l a b=>match k with
  |2=>some ⟨fun η qq=>rfl⟩
  |3=>match e:asks 0 [] a .e fa with
   |some true=>some ⟨fun η ok=>by
    have h:(!(a.ev η).isEmpty)=true:=jI e ok
    show((a.ev η).take 1).length=1
    cases q:a.ev η with
    |nil=>rw[q] at h;cases h
    |cons=>rfl⟩
   |_=>af
  |_=>af
 |.e=>af
noncomputable def Wb (t:Tm) (fa:List Fact):Option {z:Tm×Tm//t=cat z.1 z.2∧∀η,aI η fa→(z.2.ev η).length=1}:=match t with
 |.n k l a b=>match k with
  |5=>match l with
   |[]=>(jQ b fa).map fun h=>⟨(a,b),rfl,h.1⟩
   |_::_=>af
  |_=>af
 |.e=>af
noncomputable def Wc (y:SV):Option (PLift (bc y (-1))):=match y with
 |.int i=>(aO (decide (i=-1))).map fun h=>⟨by rw[of_decide_eq_true h.1];exact fun r=>r⟩
 |_=>af
noncomputable def We (ob ie:Expr) (x y:SV) (σ:SS) (K:SV→SS→Tr) (f:cG ie):VG G (aC G (subscriptTail ob ie) x y σ (hh K)):=match x with
 |.val v=>match v with
  |.ref t=>.or (aQ t G.T.rX) (fun qq=>.opt (aQ t G.T.lY) fun ss ht=>.aT (av ss.length 1000) fun hz=>.one (bA y) fun j=>.need (0≤j.1∧j.1<ss.length) ⟨K (.ss (ss.getD j.1.toNat ⟨#[]⟩)) σ,fun h p qq=>GP (K:=hh K) f ht hz j.2 p.1 p.2 h⟩) fun fs ht=>.one (b7 y) fun n=>.opt (lk n.1 fs) fun v hv=>fin K (sv v) σ (Wa G f n.2 ht hv)
  |_=>.no
 |.obj i=>.cO σ.objs i fun o ho=>.one (Uu o) (fun fs=>.one (cZ y) fun k=>⟨we k.1 fs.1 σ.fa fun x fa=>K x ⟨σ.loc,σ.objs,fa⟩,fun h qq=>Uw f (fs.2 σ i ho) (Uv (fs.2 σ i ho) k.2 h)⟩) (gm (fun h=>h.2 ob ie f) (Ep G σ K (.obj i) y))
 |.tm t=>.one (Wb t σ.fa) fun z=>.one (Wc y) fun hy=>.aT (av t.bd 1000000) fun hz=>fin K (.tm z.1.2) σ (Vl f (fun r=>r) hy.1 z.2.1 (z.2.2 G.D.η) hz)
 |x=>.two (b7 x) (bA y) (fun a k=>.need (-(a.1.length:Int)≤k.1∧k.1<a.1.length∧a.1.length≤sizeLine) ⟨K (.ss (fG a.1 k.1)) σ,fun h p qq=>UW (K:=hh K) f a.2 k.2 p.1 p.2.1 p.2.2 h⟩) .no
variable(σ:SS)(K:SV→SS→Tr)(pos:Pos)
noncomputable def Wf (n:Str) (p:Pos) (hk:lk n G.cs.names=some .local):VG G (aq G (.Name n p) σ (hh K)):=.aT (!seq n "__debug__") fun hd=>.opt (lk n σ.loc) fun x hx=>fin K x σ (c9 (by simpa using hd) hk hx)
noncomputable def Wg (n:Str) (p:Pos) (hk:lk n G.cs.names=some .cell):VG G (aq G (.Name n p) σ (hh K)):=.aT (!seq n "__debug__") fun hd=>.opt (lk n G.cv) fun i hi=>.cO σ.objs (i) fun o ho=>match o,ho with
 |.cell x,ho=>match x,ho with
  |some x,ho=>fin K x σ (Es (by simpa using hd) hk hi ho)
  |Option.none,_=>.no
 |_,_=>.no
noncomputable def Wh (n:Str) (p:Pos):VG G (aq G (.Name n p) σ (hh K)):=.opt (lk n G.cs.names) fun k hk=>match k,hk with
 |.local,hk=>Wf G σ K n p hk
 |.globalImplicit,hk=>.opt (lk n G.T.dM) fun v hv=>fin K (sv v) σ (kH hk hv)
 |.cell,hk=>Wg G σ K n p hk
 |_,_=>.no
noncomputable def attrS (x:SV) (nm:Str):VG G (iL G (getAttr · nm true) x σ (hh K)):=match x with
 |.val v=>match v with
  |.ref t=>.opt (aQ t G.T.nO) fun z ht=>.opt (aQ z.1 G.T.cls) fun ci hc=>.aT (has nm ci.gK) fun hf=>.opt (lk nm z.2.2) fun y hl=>.aT (rZ y) fun hp=>fin K y σ (Vc (C:=z.1) (dx:=z.2.1) (fs:=z.2.2) ht hc hf hl hp)
  |_=>.no
 |x=>En G σ K x nm
noncomputable def Wi (ob:Expr) (nm:Str) (p:Pos):VG G (aq G (.Attribute ob nm p) σ (hh K)):=.one (Et ob) fun hb=>gm (Sg hb.1) (bind ((oo G).E ob σ) fun x σ₁=>attrS G σ₁ K x nm)
noncomputable def Wj (ob ie:Expr):VG G (aq G (.Subscript ob ie pos) σ (hh K)):=.one (jK ie) fun f=>gm p9 (bind ((oo G).E ob σ) fun x σ₁=>bind ((oo G).E ie σ₁) fun y σ₂=>We G ob ie x y σ₂ K f.1)
noncomputable def Wk (l r:Expr) (op:CmpOp):VG G (aq G (.Compare l [op] [r] pos) σ (hh K)):=.one (vX r) fun f=>gm (zw f.1) (bind ((oo G).E l σ) fun x σ₁=>bind ((oo G).E r σ₁) fun y σ₂=>qk G op x y σ₂ K)
noncomputable def Wl (l r r':Expr) (op op':CmpOp):VG G (aq G (.Compare l [op,op'] [r,r'] pos) σ (hh K)):=.one (vX r') fun f=>gm (Sq f.1) (bind ((oo G).E l σ) fun x σ₁=>bind ((oo G).E r σ₁) fun y σ₂=>bind (qk G op x y σ₂) fun z σ₃=>bind (nR G σ₃ z) fun b σ₄=>jl b σ₄ (fun σ₄=>bind ((oo G).E r' σ₄) fun w σ₅=>qk G op' y w σ₅ K) fun σ₄=>fin K z σ₄ id)
noncomputable def Wm (l:Expr) (ops:List CmpOp) (rs:List Expr):VG G (aq G (.Compare l ops rs pos) σ (hh K)):=match ops,rs with
 |[op],[r]=>Wk oo G σ K pos l r op
 |[op,op'],[r,r']=>Wl oo G σ K pos l r r' op op'
 |_,_=>.no
noncomputable def Wn (e₁ e₂:Expr) (r':List Expr):VG G (aq G (.BoolOp .And (e₁::e₂::r') pos) σ (hh K)):=gm Si (bind ((oo G).E e₁ σ) fun x σ₁=>bind (nR G σ₁ x) fun b σ₂=>jl b σ₂ (fun σ=>(oo G).E (.BoolOp .And (e₂::r') pos) σ K) fun σ=>fin K x σ id)
noncomputable def Wo (e₁ e₂:Expr) (r':List Expr):VG G (aq G (.BoolOp .Or (e₁::e₂::r') pos) σ (hh K)):=gm Sj (bind ((oo G).E e₁ σ) fun x σ₁=>bind (nR G σ₁ x) fun b σ₂=>jl b σ₂ (fun σ=>fin K x σ id) fun σ=>(oo G).E (.BoolOp .Or (e₂::r') pos) σ K)
noncomputable def Wq (op:BoolOp) (es:List Expr):VG G (aq G (.BoolOp op es pos) σ (hh K)):=match es with
 |[]=>.no
 |e₁::r=>match r with
  |[]=>gm Sk ((oo G).E e₁ σ K)
  |e₂::r'=>match op with
   |.And=>Wn oo G σ K pos e₁ e₂ r'
   |.Or=>Wo oo G σ K pos e₁ e₂ r'
noncomputable def Wr (t b e:Expr):VG G (aq G (.IfExp t b e pos) σ (hh K)):=gm vB (bind ((oo G).T t σ) fun x σ₁=>jl x σ₁ (fun σ=>(oo G).E b σ K) fun σ=>(oo G).E e σ K)
noncomputable def listE (es:List Expr):VG G (aq G (.List es pos) σ (hh K)):=gm vQ (bind (dQ (oo G) es σ) fun xs σ₁=>.aT (av xs.length 1000) fun h=>fin K (.obj σ₁.objs.length) ⟨σ₁.loc,OL.a σ₁.objs (.list af xs),σ₁.fa⟩ fun k=>⟨h,k⟩)
noncomputable def Ws (es:List Expr) (k:Nat):VG G (aq G (.Tuple es k pos) σ (hh K)):=gm zI (bind (dQ (oo G) es σ) fun xs σ₁=>.aT (av xs.length 1000) fun h=>fin K (.obj σ₁.objs.length) ⟨σ₁.loc,OL.a σ₁.objs (.tup xs),σ₁.fa⟩ fun k=>⟨h,k⟩)
noncomputable def Wt (ks:List (Option Expr)) (vs:List Expr):VG G (aq G (.Dict ks vs pos) σ (hh K)):=.aT (ks.all (·.isSome)) fun h1=>.aT (aB ks.length vs.length) fun h2=>.aT (cW 0 ks.length) fun h0=>.aT (av ks.length 15) fun h3=>gm (Tc h1 h2 h0 h3) (bind (Vz (oo G) ks vs ⟨σ.loc,OL.a σ.objs (.dict []),σ.fa⟩) fun fs σ₁=>.aT (dist (fs.map (·.1))) fun hd=>.cO σ₁.objs (σ.objs.length) fun o ho=>match o,ho with
 |.dict gs,ho=>match gs,ho with
  |[],ho=>fin K (.obj σ.objs.length) ⟨σ₁.loc,OL.s σ₁.objs σ.objs.length (.dict fs),σ₁.fa⟩ fun k=>⟨hd,ho,k⟩
  |_::_,_=>.no
 |_,_=>.no)
noncomputable def Wu (l:Expr) (op:Operator) (r:Expr):VG G (aq G (.BinOp l op r pos) σ (hh K)):=gm gO (bind ((oo G).E l σ) fun x σ₁=>bind ((oo G).E r σ₁) fun y σ₂=>V5 G op x y σ₂ K)
noncomputable def Wv (op:UnaryOp) (e:Expr):VG G (aq G (.UnaryOp op e pos) σ (hh K)):=gm Sh (bind ((oo G).E e σ) fun x σ₁=>RN G σ₁ x K op)
noncomputable def Ww (co:Const) (k:Nat) (p:Pos):VG G (aq G (.Constant co k p) σ (hh K)):=.one (Sf co) fun x=>fin K x.1 σ x.2
noncomputable def GV (x:Str) (p:Pos) (y:SV) (σ:SS) (K:SS→Tr):VG G (fO G (.Name x p) y σ fun σ=>(K σ).h):=.opt (lk x G.cs.names) fun k hk=>match k,hk with
 |.local,hk=>⟨K ⟨(x,y)::σ.loc,σ.objs,σ.fa⟩,fun h qq=>jL (K:=fun σ=>(K σ).h) hk h⟩
 |_,_=>.no
noncomputable def GW (ob:Expr) (nm:Str) (p:Pos) (y:SV) (σ:SS) (K:SS→Tr):VG G (fO G (.Attribute ob nm p) y σ fun σ=>(K σ).h):=gm SD (bind ((oo G).E ob σ) fun x σ₁=>zo G σ₁ x nm y K)
noncomputable def Wy (t:Expr) (y:SV) (σ:SS) (K:SS→Tr):VG G (fO G t y σ fun σ=>(K σ).h):=@EV.rec (fun t qq=>VG G (fO G t y σ fun σ=>(K σ).h)) (fun qq qq qq=>.no) (fun x p=>GV G x p y σ K) (fun ob nm p=>GW oo G ob nm p y σ K) (fun qq qq qq qq qq qq=>.no) (fun qq qq qq=>.no) (fun qq qq qq qq=>.no) (fun qq qq qq=>.no) (fun qq qq qq qq=>.no) (fun qq qq qq qq=>.no) (fun qq qq qq=>.no) (fun qq qq=>.no) (fun qq qq qq=>.no) (fun qq qq qq=>.no) (fun qq qq qq qq=>.no) (fun qq qq qq qq qq=>.no) (fun qq qq qq qq=>.no) (fun qq=>.no) t (qi t)
noncomputable def Wz {G:Gx} {ω:Type} {R:List Addr→ω→Prop} {t:Cx→ω→Sem Unit} {σ:SS} {Q:SS→Prop} (a:∀K:SS→Tr,VG G (aK G (fun _ (_:Unit) _=>True) R t σ fun qq σ=>(K σ).h)) (F:∀σ₁,VG G (Q σ₁)):VG G (aK G (fun _ (_:Unit) _=>True) R t σ fun qq=>Q):=
 ⟨(a fun σ₁=>(F σ₁).t).t,fun h g=>((a _).ok h g).mp fun qq σ₁ z=>(F σ₁).ok z g⟩
noncomputable def z7:∀(ts:List Expr) (ys:List SV) (σ:SS) (K:SS→Tr),VG G (jj G ts ys σ fun σ=>(K σ).h):=@bu Expr (fun ts=>∀(ys:List SV) (σ:SS) (K:SS→Tr),VG G (jj G ts ys σ fun σ=>(K σ).h))
 (fun ys σ K=>match ys with
   |[]=>⟨K σ,fun h qq=>h⟩
   |_::_=>.no)
 fun t ts ih ys σ K=>match ys with
  |[]=>.no
  |y::ys=>Wz (Wy oo G t y σ) fun σ₁=>ih ys σ₁ K
noncomputable def WA (ts:List Expr) (k:Nat) (p:Pos) (y:SV) (σ:SS) (K:SS→Tr):VG G (fO G (.Tuple ts k p) y σ fun σ=>(K σ).h):=.one (EW ts) fun hp=>.one (vM G y σ) (fun xs=>.aT (aB ts.length xs.1.length) fun hl=>gm (SN hp.1 xs.2 hl) (z7 oo G ts xs.1 σ K)) (.one (dB y) fun i=>.cO σ.objs i.1 fun o ho=>.one (ek o) fun z=>.one (ez z.1.1) fun hn=>.aT (aB ts.length z.1.2.length) fun hl=>gm (TJ hp.1 i.2 (hn.1▸z.2▸ho) hl) (z7 oo G ts z.1.2 σ K))
noncomputable def wC (t:Expr) (y:SV) (σ:SS) (K:SS→Tr):VG G (fO G t y σ fun σ=>(K σ).h):=@EV.rec (fun t qq=>VG G (fO G t y σ fun σ=>(K σ).h)) (fun qq qq qq=>.no) (fun x p=>GV G x p y σ K) (fun ob nm p=>GW oo G ob nm p y σ K) (fun qq qq qq qq qq qq=>.no) (fun qq qq qq=>.no) (fun qq qq qq qq=>.no) (fun qq qq qq=>.no) (fun qq qq qq qq=>.no) (fun qq qq qq qq=>.no) (fun qq qq qq=>.no) (fun qq qq=>.no) (fun ts k p=>WA oo G ts k p y σ K) (fun qq qq qq=>.no) (fun qq qq qq qq=>.no) (fun qq qq qq qq qq=>.no) (fun qq qq qq qq=>.no) (fun qq=>.no) t (qi t)
noncomputable def GX (e:Expr) (σ:SS) (K:Src→SS→Tr):VG G (kL G e σ fun S σ=>(K S σ).h):=gm F7 (bind ((oo G).E e σ) fun x σ₁=>.one (dB x) fun i=>.cO σ₁.objs i.1 fun o ho=>.one (ek o) (fun z=>⟨K (vV i.1) σ₁,fun h qq=>.l i.1 _ _ i.2 (z.2▸ho) h⟩) (.one (D6 o) fun fs=>⟨K (zS i.1) ⟨σ₁.loc,OL.s σ₁.objs i.1 (.eT fs.1),σ₁.fa⟩,fun h qq=>.d i.1 _ i.2 (fs.2▸ho) h⟩))
noncomputable def GY (scope:Scope) (cvk:List (Str×Nat)) (tgt elt:Expr) (j:Nat) (S:Src) (P:SS→Tr):Nat→Nat→SS→Tr:=cD (fun qq qq=>.ff) fun qq ih i σ=>match S.it σ i with
 |Option.none=>.ff
 |some r=>match r with
  |Option.none=>match S.bk σ with
   |Option.none=>.ff
   |some σ'=>P σ'
  |some z=>(wC oo (G.comp scope cvk) tgt z ⟨[],σ.objs,σ.fa⟩ fun σ=>((oo (G.comp scope cvk)).E elt σ fun y σ=>match OL.get σ.objs j with
   |some (.list af ys)=>@aj (fun qq=>Tr) .ff (ih (i+1) ⟨[],OL.s σ.objs j (.list af (ys++[y])),σ.fa⟩) (av ys.length 1000)
   |_=>.ff).t).t
theorem bE.comp{G:Gx}(h:bE G)(scope:Scope)(cvk:List (Str×Nat)):bE (G.comp scope cvk):=⟨fun x hx=>Om.nm hx,h.bl,fun x hx=>Om.nm hx,fun x hx=>Om.nm hx,fun qq qq qq h=>h⟩
set_option tactic.hygienic true in
theorem WB{scope:Scope}{cvk:List (Str×Nat)}{tgt elt:Expr}{j:Nat}{S:Src}{P:SS→Tr}(g:bE G):Mk G scope cvk tgt elt j S (fun n i σ=>(GY oo G scope cvk tgt elt j S P n i σ).h) fun σ=>(P σ).h:=⟨fun n i σ hJ=>by
 cases n with
 |zero=>exact hJ.elim
 |succ n=>
  have hJ':(match S.it σ i with
   |Option.none=>Tr.ff
   |some r=>match r with
    |Option.none=>match S.bk σ with
     |Option.none=>Tr.ff
     |some σ'=>P σ'
    |some z=>_:Tr).h:=hJ
  cases e:S.it σ i with
  |none=>rw[e] at hJ';exact hJ'.elim
  |some r=>
   rw[e] at hJ'
   refine⟨r,rfl,?_⟩
   cases r with
   |none=>
    dsimp only at hJ'⊢
    cases q:S.bk σ with
    |none=>rw[q] at hJ';exact hJ'.elim
    |some σ'=>rw[q] at hJ';exact⟨σ',q,hJ'⟩
   |some z=>
    refine((wC oo (G.comp scope cvk) tgt z ⟨[],σ.objs,σ.fa⟩ _).ok hJ' (g.comp scope cvk)).mp fun qq σ₁ h=>(((oo (G.comp scope cvk)).E elt σ₁ _).ok h (g.comp scope cvk)).mp fun y σ₂ h=>?_
    have h':(match OL.get σ₂.objs j with
     |some (.list af ys)=>@aj (fun qq=>Tr) .ff _ (av ys.length 1000)
     |_=>Tr.ff:Tr).h:=h
    split at h'
    ·rename_i ys e2
     cases e3:av ys.length 1000 with
     |false=>rw[e3] at h';exact h'.elim
     |true=>
      rw[e3] at h'
      refine⟨af,ys,(OL.get_eq _ _).symm.trans e2,fun us q=>?_,af,ys++[y],fun us ρ vs v q f r=>?_,n,iG n,h'⟩
      ·obtain rfl:=q
       exact ah (aA (jb _)) (ah (ao e3) (by decide))
      ·obtain rfl:=q
       exact⟨[],vs++[v],rfl,rfl,f.app (.one r)⟩
    ·exact h'.elim⟩
noncomputable def WC (elt:Expr) (gs:List Comprehension) (scope:Scope):VG G (aq G (.ListComp elt gs scope pos) σ (hh K)):=.one (TH gs) fun p=>.one (Ff p.1.2) fun hi=>.aT (sM G scope) fun hc=>
 let v:=fun P=>GX oo G p.1.2 σ P
 ⟨(v fun S σ₁=>GY oo G scope (iS scope G.cv) p.1.1 elt σ₁.objs.length S (fun σ=>K (.obj σ₁.objs.length) ⟨σ₁.loc,σ.objs,σ.fa⟩) 30 0 ⟨[],OL.a σ₁.objs (.list af []),σ₁.fa⟩).t,
   fun h g=>p.2▸zL (v5 hc) hi.1 fun c ρ s a=>wpAny_mono ((v _).ok h g c ρ s a) (fun qq qq z=>wpAny_mono z (fun _ _ ⟨I,l,rr,S,ρ',σ',h1,h2,h3,h4,h5⟩=>⟨I,l,rr,S,ρ',σ',h1,h2,h3,h4,_,30,WB oo G g,h5⟩) fun qq qq z=>z) fun qq qq z=>z⟩
noncomputable def WD (e:Expr) (σ:SS) (K:SV→SS→Tr):VG G (aq G e σ (hh K)):=@EV.rec (fun e qq=>VG G (aq G e σ (hh K))) (fun co k p=>Ww G σ K co k p) (fun n p=>Wh G σ K n p) (fun ob nm p=>Wi oo G σ K ob nm p) (fun ob lo hi st p pos=>V9 oo G ob lo hi st p pos σ K) (fun ob ie pos=>Wj oo G σ K pos ob ie) (fun l op r pos=>Wu oo G σ K pos l op r)
 (fun op e pos=>Wv oo G σ K pos op e) (fun l ops rs pos=>Wm oo G σ K pos l ops rs) (fun t b e pos=>Wr oo G σ K pos t b e) (fun op es pos=>Wq oo G σ K pos op es) (fun es pos=>listE oo G σ K pos es) (fun es k pos=>Ws oo G σ K pos es k) (fun ks vs pos=>Wt oo G σ K pos ks vs) (fun n p args pos=>VV oo G n p args pos σ K)
 (fun ob nm ap args pos=>V1 oo G ob nm ap args pos σ K) (fun elt gs sc pos=>WC oo G σ K pos elt gs sc) (fun qq=>.no) e (qi e)
noncomputable def WE (e:Expr):VG G (bN G (.UnaryOp .Not e pos) σ (hh K)):=gm Sl (bind ((oo G).T e σ) fun x σ₁=>jl x σ₁ (fun σ=>fin K (.bool false) σ id) fun σ=>fin K (.bool true) σ id)
noncomputable def WG (es:List Expr):VG G (bN G (.BoolOp .And es pos) σ (hh K)):=match es with
 |[]=>fin K (.bool true) σ vD
 |e::r=>gm nT (bind ((oo G).T e σ) fun b σ₁=>jl b σ₁ (fun σ=>(oo G).T (.BoolOp .And r pos) σ K) fun σ=>fin K (.bool false) σ id)
noncomputable def WH (es:List Expr):VG G (bN G (.BoolOp .Or es pos) σ (hh K)):=match es with
 |[]=>fin K (.bool false) σ Sm
 |e::r=>gm Sn (bind ((oo G).T e σ) fun b σ₁=>jl b σ₁ (fun σ=>fin K (.bool true) σ id) fun σ=>(oo G).T (.BoolOp .Or r pos) σ K)
noncomputable def WI (t b e:Expr):VG G (bN G (.IfExp t b e pos) σ (hh K)):=gm So (bind ((oo G).T t σ) fun x σ₁=>jl x σ₁ (fun σ=>(oo G).T b σ K) fun σ=>(oo G).T e σ K)
noncomputable def WJ (l r:Expr) (op:CmpOp):VG G (bN G (.Compare l [op] [r] pos) σ (hh K)):=.one (vX r) fun f=>gm (cmp_T f.1) (bind ((oo G).E l σ) fun x σ₁=>bind ((oo G).E r σ₁) fun y σ₂=>bind (qk G op x y σ₂) fun z σ₃=>nR G σ₃ z K)
noncomputable def WK (l r r':Expr) (op op':CmpOp):VG G (bN G (.Compare l [op,op'] [r,r'] pos) σ (hh K)):=.one (vX r') fun f=>gm (Sp f.1) (bind ((oo G).E l σ) fun x σ₁=>bind ((oo G).E r σ₁) fun y σ₂=>bind (qk G op x y σ₂) fun z σ₃=>bind (nR G σ₃ z) fun b σ₄=>jl b σ₄ (fun σ₄=>bind ((oo G).E r' σ₄) fun w σ₅=>bind (qk G op' y w σ₅) fun z' σ₆=>nR G σ₆ z' K) fun σ₄=>fin K (.bool false) σ₄ id)
noncomputable def WL (l:Expr) (ops:List CmpOp) (rs:List Expr):VG G (bN G (.Compare l ops rs pos) σ (hh K)):=match ops,rs with
 |[op],[r]=>WJ oo G σ K pos l r op
 |[op,op'],[r,r']=>WK oo G σ K pos l r r' op op'
 |_,_=>.no
noncomputable def plainT (e:Expr):VG G (bN G e σ (hh K)):=.one (Ew e) fun h=>gm (zx h.1) (bind ((oo G).E e σ) fun x σ₁=>nR G σ₁ x K)
noncomputable def WM (op:UnaryOp) (e:Expr):VG G (bN G (.UnaryOp op e pos) σ (hh K)):=match op with
 |.Not=>WE oo G σ K pos e
 |_=>.no
noncomputable def WN (op:BoolOp) (es:List Expr):VG G (bN G (.BoolOp op es pos) σ (hh K)):=match op with
 |.And=>WG oo G σ K pos es
 |.Or=>WH oo G σ K pos es
noncomputable def stepT (e:Expr) (σ:SS) (K:SV→SS→Tr):VG G (bN G e σ (hh K)):=@EV.rec (fun e qq=>VG G (bN G e σ (hh K))) (fun co k p=>plainT oo G σ K _) (fun n p=>plainT oo G σ K _) (fun ob nm p=>plainT oo G σ K _) (fun qq qq qq qq qq qq=>.no) (fun ob ie pos=>plainT oo G σ K _) (fun l op r pos=>plainT oo G σ K _)
 (fun op e pos=>WM oo G σ K pos op e) (fun l ops rs pos=>WL oo G σ K pos l ops rs) (fun t b e pos=>WI oo G σ K pos t b e) (fun op es pos=>WN oo G σ K pos op es) (fun qq qq=>.no) (fun qq qq qq=>.no) (fun qq qq qq=>.no) (fun n p args pos=>plainT oo G σ K _) (fun ob nm ap args pos=>plainT oo G σ K _) (fun qq qq qq qq=>.no) (fun qq=>.no) e (qi e)
variable(K:Fl→SS→Tr)
noncomputable def ql (S:Src) (K:Fl→SS→Tr) (fl:Fl) (σ:SS):Tr:=match S.bk σ with
 |Option.none=>.ff
 |some σ'=>K fl σ'
noncomputable def WO (S:Src) (K:Fl→SS→Tr) (J:SS→Tr) (fl:Fl) (σ:SS):Tr:=match fl with
 |.next=>J σ
 |.cont=>J σ
 |.brk=>ql S K .next σ
 |.ret v=>ql S K (.ret v) σ
theorem z8{S:Src}{K:Fl→SS→Tr}{fl:Fl}{σ:SS}(h:(ql S K fl σ).h):Bk S (hh K fl) σ:=by
 unfold ql at h
 cases q:S.bk σ with
 |none=>rw[q] at h;exact h.elim
 |some σ'=>rw[q] at h;exact⟨σ',q,h⟩
noncomputable def wD (tgt:Expr) (body:List Stmt) (S:Src) (K:Fl→SS→Tr):Nat→Nat→SS→Tr:=cD (fun qq qq=>.ff) fun qq ih i σ=>match S.it σ i with
 |Option.none=>.ff
 |some r=>match r with
  |Option.none=>ql S K .next σ
  |some z=>(wC oo G tgt z σ fun σ=>(cY (oo G) body σ (WO S K (ih (i+1)))).t).t
theorem WQ{tgt:Expr}{body:List Stmt}{K:Fl→SS→Tr}(g:bE G)(S:Src)(n i:Nat)(σ:SS)(hJ:(wD oo G tgt body S K n i σ).h):∃r,S.it σ i=some r∧match r with
 |some z=>fO G tgt z σ fun σ=>bz G body σ (Fb S (hh K) fun σ=>∃n',n'<n∧(wD oo G tgt body S K n' (i+1) σ).h)
 |Option.none=>Bk S (hh K .next) σ:=by
 cases n with
 |zero=>exact hJ.elim
 |succ n=>
  have hJ':(match S.it σ i with
   |Option.none=>Tr.ff
   |some r=>match r with
    |Option.none=>ql S K .next σ
    |some z=>_:Tr).h:=hJ
  cases e:S.it σ i with
  |none=>rw[e] at hJ';exact hJ'.elim
  |some r=>
   rw[e] at hJ'
   refine⟨r,rfl,?_⟩
   cases r with
   |none=>exact z8 hJ'
   |some z=>
    refine((wC oo G tgt z σ _).ok hJ' g).mp fun qq σ₁ h=>((cY (oo G) body σ₁ _).ok h g).mp fun fl σ₂ h=>?_
    cases fl with
    |next=>exact⟨n,iG n,h⟩
    |cont=>exact⟨n,iG n,h⟩
    |brk=>exact z8 h
    |ret v=>exact z8 h
noncomputable def WR (tgt iter:Expr) (body els:List Stmt):VG G (bw G (.For tgt iter body els pos) σ (hh K)):=match els with
 |[]=>.one (Ff iter) fun hi=>
  let v:=fun P=>GX oo G iter σ P
  ⟨(v fun S σ₁=>wD oo G tgt body S K 30 0 σ₁).t,fun h g=>vS g.kx hi.1 (fun S n i σ=>(wD oo G tgt body S K n i σ).h) (fun S n i σ hJ=>WQ oo G g S n i σ hJ) 30 ((v _).ok h g)⟩
 |_::_=>.no
noncomputable def z9 (x:SV) (σ:SS) (A B:SS→Tr):Tr:=match x with
 |.bool c=>@aj (fun qq=>Tr) (B σ) (A σ) c
 |.sb c=>.im c (A σ) (B σ)
 |.bm k l p q=>.and (A (σ.add k l p q true)) (B (σ.add k l p q false))
 |_=>.ff
theorem GZ{x:SV}{σ:SS}{A B:SS→Tr}(h:(z9 x σ A B).h):Br x σ (fun σ=>(A σ).h) fun σ=>(B σ).h:=by
 cases x with
 |bool c=>cases c<;>exact h
 |sb c=>exact h
 |bm k l p q=>exact h
 |_=>exact h.elim
noncomputable def turnT (K:Fl→SS→Tr) (J:SS→Tr) (fl:Fl) (σ:SS):Tr:=match fl with
 |.next=>J σ
 |.cont=>J σ
 |.brk=>K .next σ
 |.ret v=>K (.ret v) σ
noncomputable def G0 (t:Expr) (b:List Stmt) (K:Fl→SS→Tr):Nat→SS→Tr:=cD (fun qq=>.ff) fun qq ih σ=>((oo G).T t σ fun x σ₁=>z9 x σ₁ (fun σ=>(cY (oo G) b σ (turnT K ih)).t) (K .next)).t
noncomputable def WT (t:Expr) (b:List Stmt):VG G (bw G (.While t b [] pos) σ (hh K)):=⟨G0 oo G t b K 14 σ,fun h g=>sY g.kx (fun n σ=>(G0 oo G t b K n σ).h) (fun n σ hJ=>by
 cases n with
 |zero=>exact hJ.elim
 |succ n=>exact(((oo G).T t σ _).ok hJ g).mp fun x σ₁ z=>(GZ z).mp (fun σ h=>((cY (oo G) b σ _).ok h g).mp fun fl σ₂ z=>by
   cases fl with
   |next=>exact⟨n,iG n,z⟩
   |cont=>exact⟨n,iG n,z⟩
   |brk=>exact z
   |ret v=>exact z) fun qq h=>h) 14 h⟩
noncomputable def WU (x:Str) (p:Pos) (e:Expr) (hc:cG e):VG G (bw G (.Assign [.Name x p] e pos) σ (hh K)):=.opt (lk x G.cs.names) fun k hk=>match k,hk with
 |.local,hk=>gm (gR hc hk) (bind ((oo G).E e σ) fun y σ₁=>fin K .next ⟨(x,y)::σ₁.loc,σ₁.objs,σ₁.fa⟩ id)
 |.cell,hk=>.opt (lk x G.cv) fun i hi=>gm (Ez hc hk hi) (bind ((oo G).E e σ) fun y σ₁=>.cO σ₁.objs i fun o ho=>match o,ho with
  |.cell w,ho=>fin K .next ⟨σ₁.loc,OL.s σ₁.objs i (.cell (some y)),σ₁.fa⟩ fun h=>⟨⟨w,ho⟩,h⟩
  |_,_=>.no)
 |_,_=>.no
noncomputable def WV (ob:Expr) (nm:Str) (p:Pos) (e:Expr) (hc:cG e):VG G (bw G (.Assign [.Attribute ob nm p] e pos) σ (hh K)):=gm (SE hc) (bind ((oo G).E e σ) fun y σ₁=>bind ((oo G).E ob σ₁) fun x σ₂=>zo G σ₂ x nm y (K .next))
noncomputable def WW (ob i:Expr) (p:Pos) (e:Expr) (hc:cG e):VG G (bw G (.Assign [.Subscript ob i p] e pos) σ (hh K)):=gm (SG hc) (bind ((oo G).E e σ) fun y σ₁=>bind ((oo G).E ob σ₁) fun x σ₂=>bind ((oo G).E i σ₂) fun z σ₃=>Er G σ₃ x z y (K .next))
noncomputable def WX (ts:List Expr) (k:Nat) (p:Pos) (e:Expr) (hc:cG e):VG G (bw G (.Assign [.Tuple ts k p] e pos) σ (hh K)):=.one (SM e) fun hn=>.one (EW ts) fun hp=>gm (EY hc hn.1 hp.1) (bind ((oo G).E e σ) fun x σ₁=>.one (vM G x σ₁) fun xs=>.aT (aB ts.length xs.1.length) fun hl=>gm (fun h=>⟨xs.1,xs.2,hl,h⟩) (z7 oo G ts xs.1 σ₁ (K .next)))
noncomputable def WY (t e:Expr):VG G (bw G (.Assign [t] e pos) σ (hh K)):=.one (jK e) fun hc=>@EV.rec (fun t qq=>VG G (bw G (.Assign [t] e pos) σ (hh K))) (fun qq qq qq=>.no) (fun x p=>WU oo G σ pos K x p e hc.1) (fun ob nm p=>WV oo G σ pos K ob nm p e hc.1) (fun qq qq qq qq qq qq=>.no) (fun ob i p=>WW oo G σ pos K ob i p e hc.1) (fun qq qq qq qq=>.no) (fun qq qq qq=>.no) (fun qq qq qq qq=>.no) (fun qq qq qq qq=>.no) (fun qq qq qq=>.no) (fun qq qq=>.no) (fun ts k p=>WX oo G σ pos K ts k p e hc.1) (fun qq qq qq=>.no) (fun qq qq qq qq=>.no) (fun qq qq qq qq qq=>.no) (fun qq qq qq qq=>.no) (fun qq=>.no) t (qi t)
noncomputable def WZ (x:Str) (p:Pos) (op:Operator) (e:Expr):VG G (bw G (.AugAssign (.Name x p) op e pos) σ (hh K)):=.opt (lk x G.cs.names) fun k hk=>match k,hk with
 |.local,hk=>.opt (lk x σ.loc) fun old hl=>gm (SH hk hl) (bind ((oo G).E e σ) fun y σ₁=>bind (zl G σ₁ old y · op) fun z σ₂=>fin K .next ⟨(x,z)::σ₂.loc,σ₂.objs,σ₂.fa⟩ id)
 |_,_=>.no
noncomputable def W2 (ob:Expr) (nm:Str) (p:Pos) (op:Operator) (e:Expr):VG G (bw G (.AugAssign (.Attribute ob nm p) op e pos) σ (hh K)):=gm SI (bind ((oo G).E ob σ) fun x σ₁=>bind (En G σ₁ · x nm) fun old σ₂=>bind ((oo G).E e σ₂) fun y σ₃=>bind (zl G σ₃ old y · op) fun z σ₄=>zo G σ₄ x nm z (K .next))
noncomputable def W3 (ob i:Expr) (p:Pos) (op:Operator) (e:Expr):VG G (bw G (.AugAssign (.Subscript ob i p) op e pos) σ (hh K)):=.one (jK i) fun hi=>gm (SJ hi.1) (bind ((oo G).E ob σ) fun x σ₁=>bind ((oo G).E i σ₁) fun y σ₂=>bind (fun K=>gm And.left (Ep G σ₂ K x y)) fun old σ₃=>bind ((oo G).E e σ₃) fun z σ₄=>bind (zl G σ₄ old z · op) fun w σ₅=>Er G σ₅ x y w (K .next))
noncomputable def W4 (t:Expr) (op:Operator) (e:Expr):VG G (bw G (.AugAssign t op e pos) σ (hh K)):=@EV.rec (fun t qq=>VG G (bw G (.AugAssign t op e pos) σ (hh K))) (fun qq qq qq=>.no) (fun x p=>WZ oo G σ pos K x p op e) (fun ob nm p=>W2 oo G σ pos K ob nm p op e) (fun qq qq qq qq qq qq=>.no) (fun ob i p=>W3 oo G σ pos K ob i p op e) (fun qq qq qq qq=>.no) (fun qq qq qq=>.no) (fun qq qq qq qq=>.no) (fun qq qq qq qq=>.no) (fun qq qq qq=>.no) (fun qq qq=>.no) (fun qq qq qq=>.no) (fun qq qq qq=>.no) (fun qq qq qq qq=>.no) (fun qq qq qq qq qq=>.no) (fun qq qq qq qq=>.no) (fun qq=>.no) t (qi t)
noncomputable def W5 (e:Expr):VG G (bw G (.Return (some e) pos) σ (hh K)):=gm vG (bind ((oo G).E e σ) fun x σ₁=>fin K (.ret x) σ₁ id)
noncomputable def W6 (t:Expr) (b e:List Stmt):VG G (bw G (.If t b e pos) σ (hh K)):=gm qa (bind ((oo G).T t σ) fun x σ₁=>jl x σ₁ (fun σ=>cY (oo G) b σ K) fun σ=>cY (oo G) e σ K)
noncomputable def W7 (e:Expr):VG G (bw G (.Expr e pos) σ (hh K)):=.one (jK e) fun hc=>gm (Ey hc.1) (bind ((oo G).E e σ) fun x σ₁=>.one (Sy x) fun h=>fin K .next σ₁ fun k=>⟨h.1,k⟩)
noncomputable def W8 (t:Expr):VG G (bw G (.Assert t af pos) σ (hh K)):=gm Sx (bind ((oo G).T t σ) fun b σ₁=>jl b σ₁ (fun σ=>fin K .next σ id) fun qq=>.no)
noncomputable def W9 (st:Stmt) (σ:SS) (K:Fl→SS→Tr):VG G (bw G st σ (hh K)):=@TV.rec (fun st qq=>VG G (bw G st σ (hh K))) (fun pos=>fin K .next σ pass_S) (fun e pos=>W5 oo G σ pos K e) (fun pos=>fin K (.ret .none) σ Sw) (fun t b e pos=>W6 oo G σ pos K t b e) (fun e pos=>W7 oo G σ pos K e) (fun t e p'=>WY oo G σ p' K t e) (fun t op e pos=>W4 oo G σ pos K t op e) (fun t pos=>W8 oo G σ pos K t) (fun tgt it b els pos=>WR oo G σ pos K tgt it b els) (fun pos=>fin K .brk σ Su) (fun pos=>fin K .cont σ Sv) (fun t b pos=>WT oo G σ pos K t b) (fun qq=>.no) st (Vy st)
noncomputable def step:Ops G:=⟨WD oo G,stepT oo G,W9 oo G⟩
end
noncomputable def ex (n:Nat):∀G,Ops G:=@cD (fun qq=>∀G,Ops G) (fun qq=>⟨fun qq qq qq=>.no,fun qq qq qq=>.no,fun qq qq qq=>.no⟩) (fun qq oo G=>step oo G) n
end
end Ex
end
section
namespace Tb
open Hd Ex
noncomputable section
noncomputable def fn (x:Stmt) (q:String) (dV kV doc pm:Value) (an:Option Nat) (cd ct:Value) (ps:List Str) (ds:List Value):aJ:=match x with
 |.FunctionDef n a b _ _ _ sc _ _ _=>⟨n,aa q,a,b,sc,dV,kV,doc,pm,an,cd,ct,ps,ds⟩
 |_=>⟨default,default,default,[],default,.none,.none,.none,.none,none,.none,.none,[],[]⟩
noncomputable def kP:aJ:=fn (st 7) "asciiLower" N N N (S "html5lib.constants" 194) none (r 41) N [aa "text"] []
noncomputable abbrev afF:Nat:=42
noncomputable def Xa:aJ:=fn (cs 13 0) "Text.__init__" N N N (S "html5lib._inputstream" 564) none (r 62) N [aa "self",aa "text"] []
noncomputable abbrev afG:Nat:=63
noncomputable def Xb:aJ:=fn (cs 13 1) "Text.read" N N N (S "html5lib._inputstream" 564) none (r 69) N [aa "self",aa "size"] []
noncomputable abbrev afH:Nat:=70
noncomputable def Xc:aJ:=fn (st 14) "_is_invalid" N N N (S "html5lib._inputstream" 564) none (r 83) N [aa "codepoint"] []
noncomputable abbrev afI:Nat:=84
noncomputable def Xd:aJ:=fn (cs 15 1) "HTMLUnicodeInputStream.__init__" N N N (S "html5lib._inputstream" 564) none (r 97) N [aa "self",aa "source"] []
noncomputable abbrev afJ:Nat:=98
noncomputable def Xe:aJ:=fn (cs 15 2) "HTMLUnicodeInputStream.reset" N N N (S "html5lib._inputstream" 564) none (r 104) N [aa "self"] []
noncomputable abbrev afK:Nat:=105
noncomputable def Xf:aJ:=fn (cs 15 3) "HTMLUnicodeInputStream.openStream" N N N (S "html5lib._inputstream" 564) none (r 111) N [aa "self",aa "source"] []
noncomputable abbrev afL:Nat:=112
noncomputable def Xg:aJ:=fn (cs 15 4) "HTMLUnicodeInputStream._position" N N N (S "html5lib._inputstream" 564) none (r 118) N [aa "self",aa "offset"] []
noncomputable abbrev afM:Nat:=119
noncomputable def Xh:aJ:=fn (cs 15 5) "HTMLUnicodeInputStream.position" N N N (S "html5lib._inputstream" 564) none (r 125) N [aa "self"] []
noncomputable abbrev afN:Nat:=126
noncomputable def Xi:aJ:=fn (cs 15 6) "HTMLUnicodeInputStream.char" N N N (S "html5lib._inputstream" 564) none (r 132) N [aa "self"] []
noncomputable abbrev afO:Nat:=133
noncomputable def Xj:aJ:=fn (cs 15 7) "HTMLUnicodeInputStream.readChunk" (r 134) N N (S "html5lib._inputstream" 564) none (r 140) N [aa "self",aa "chunkSize"] [N]
noncomputable abbrev afP:Nat:=141
noncomputable def qm:aJ:=fn (cs 15 8) "HTMLUnicodeInputStream.characterErrorsUCS4" N N N (S "html5lib._inputstream" 564) none (r 147) N [aa "self",aa "data"] []
noncomputable abbrev afQ:Nat:=148
noncomputable def fS:aJ:=fn (cs 15 9) "HTMLUnicodeInputStream.charsUntil" (r 149) N N (S "html5lib._inputstream" 564) none (r 155) N [aa "self",aa "characters",aa "opposite"] [(.bool false)]
noncomputable abbrev afR:Nat:=156
noncomputable def Xk:aJ:=fn (cs 15 10) "HTMLUnicodeInputStream.unget" N N N (S "html5lib._inputstream" 564) none (r 162) N [aa "self",aa "char"] []
noncomputable abbrev afS:Nat:=163
noncomputable def s7:aJ:=fn (st 17) "bisect_left" (r 171) N N (S "html5lib._trie.py" 738) none (r 177) N [aa "rows",aa "key",aa "low",aa "high"] [(I 0 740),N]
noncomputable abbrev afT:Nat:=178
noncomputable def Xl:aJ:=fn (cs 18 1) "Trie.__contains__" N N N (S "html5lib._trie.py" 738) none (r 198) N [aa "self",aa "key"] []
noncomputable abbrev afU:Nat:=199
noncomputable def Xm:aJ:=fn (cs 18 2) "Trie.__len__" N N N (S "html5lib._trie.py" 738) none (r 205) N [aa "self"] []
noncomputable abbrev afV:Nat:=206
noncomputable def Xn:aJ:=fn (cs 18 3) "Trie.__getitem__" N N N (S "html5lib._trie.py" 738) none (r 212) N [aa "self",aa "key"] []
noncomputable abbrev afW:Nat:=213
noncomputable def Xo:aJ:=fn (cs 18 4) "Trie.has_keys_with_prefix" N N N (S "html5lib._trie.py" 738) none (r 219) N [aa "self",aa "prefix"] []
noncomputable abbrev afX:Nat:=220
noncomputable def ow:aJ:=fn (cs 18 5) "Trie.longest_prefix" N N N (S "html5lib._trie.py" 738) none (r 226) N [aa "self",aa "prefix"] []
noncomputable abbrev afY:Nat:=227
noncomputable def Xp:aJ:=fn (cs 21 0) "HTMLTokenizer.__init__" (r 254) N N (S "html5lib._tokenizer" 827) none (r 260) N [aa "self",aa "stream",aa "parser"] [N]
noncomputable abbrev afZ:Nat:=261
noncomputable def Xq:aJ:=fn (cs 21 2) "HTMLTokenizer.consumeNumberEntity" N N N (S "html5lib._tokenizer" 827) none (r 274) N [aa "self",aa "isHex"] []
noncomputable abbrev af0:Nat:=275
noncomputable def jR:aJ:=fn (cs 21 3) "HTMLTokenizer.consumeEntity" (r 276) N N (S "html5lib._tokenizer" 827) none (r 282) N [aa "self",aa "allowedChar",aa "fromAttribute"] [N,(.bool false)]
noncomputable abbrev af1:Nat:=283
noncomputable def wF:aJ:=fn (cs 21 4) "HTMLTokenizer.processEntityInAttribute" N N N (S "html5lib._tokenizer" 827) none (r 289) N [aa "self",aa "allowedChar"] []
noncomputable abbrev af2:Nat:=290
noncomputable def Xr:aJ:=fn (cs 21 5) "HTMLTokenizer.emitCurrentToken" N N N (S "html5lib._tokenizer" 827) none (r 296) N [aa "self"] []
noncomputable abbrev af3:Nat:=297
noncomputable def Xs:aJ:=fn (cs 21 6) "HTMLTokenizer.dataState" N N N (S "html5lib._tokenizer" 827) none (r 303) N [aa "self"] []
noncomputable abbrev af4:Nat:=304
noncomputable def Xu:aJ:=fn (cs 21 7) "HTMLTokenizer.entityDataState" N N N (S "html5lib._tokenizer" 827) none (r 310) N [aa "self"] []
noncomputable abbrev af5:Nat:=311
noncomputable def Xv:aJ:=fn (cs 21 13) "HTMLTokenizer.tagOpenState" N N N (S "html5lib._tokenizer" 827) none (r 352) N [aa "self"] []
noncomputable abbrev af6:Nat:=353
noncomputable def Xw:aJ:=fn (cs 21 39) "HTMLTokenizer.beforeAttributeNameState" N N N (S "html5lib._tokenizer" 827) none (r 534) N [aa "self"] []
noncomputable abbrev af7:Nat:=535
noncomputable def Xx:aJ:=fn (cs 21 40) "HTMLTokenizer.attributeNameState" N N N (S "html5lib._tokenizer" 827) none (r 541) N [aa "self"] []
noncomputable abbrev af8:Nat:=542
noncomputable def Xy:aJ:=fn (cs 21 41) "HTMLTokenizer.afterAttributeNameState" N N N (S "html5lib._tokenizer" 827) none (r 548) N [aa "self"] []
noncomputable abbrev af9:Nat:=549
noncomputable def Xz:aJ:=fn (cs 21 42) "HTMLTokenizer.beforeAttributeValueState" N N N (S "html5lib._tokenizer" 827) none (r 555) N [aa "self"] []
noncomputable abbrev aga:Nat:=556
noncomputable def XA:aJ:=fn (cs 21 43) "HTMLTokenizer.attributeValueDoubleQuotedState" N N N (S "html5lib._tokenizer" 827) none (r 562) N [aa "self"] []
noncomputable abbrev agb:Nat:=563
noncomputable def XC:aJ:=fn (cs 21 44) "HTMLTokenizer.attributeValueSingleQuotedState" N N N (S "html5lib._tokenizer" 827) none (r 569) N [aa "self"] []
noncomputable abbrev agc:Nat:=570
noncomputable def XD:aJ:=fn (cs 21 45) "HTMLTokenizer.attributeValueUnQuotedState" N N N (S "html5lib._tokenizer" 827) none (r 576) N [aa "self"] []
noncomputable abbrev agd:Nat:=577
noncomputable def XE:aJ:=fn (cs 21 46) "HTMLTokenizer.afterAttributeValueState" N N N (S "html5lib._tokenizer" 827) none (r 583) N [aa "self"] []
noncomputable abbrev age:Nat:=584
noncomputable def XF:aJ:=fn (cs 21 47) "HTMLTokenizer.selfClosingStartTagState" N N N (S "html5lib._tokenizer" 827) none (r 590) N [aa "self"] []
noncomputable abbrev agf:Nat:=591
noncomputable def qo:aJ:=fn (st 24) "_law_TABLE" N N N (S "law_te0077_01" 1444) none (r 773) N [] []
noncomputable abbrev agg:Nat:=774
noncomputable def XG:aJ:=fn (st 25) "_law_call" N N N (S "law_te0077_01" 1444) none (r 780) N [aa "t",aa "state"] []
noncomputable abbrev agh:Nat:=781
noncomputable def XH:aJ:=fn (st 26) "_law_begin" N N N (S "law_te0077_01" 1444) none (r 785) N [aa "text",aa "kind",aa "name",aa "pairs",aa "flag"] []
noncomputable abbrev agi:Nat:=786
noncomputable def XI:aJ:=fn (st 27) "_law_flag" N N N (S "law_te0077_01" 1444) none (r 792) N [aa "flag"] []
noncomputable abbrev agj:Nat:=793
noncomputable def XJ:aJ:=fn (st 29) "_law_queue" N N N (S "law_te0077_01" 1444) none (r 804) N [aa "t"] []
noncomputable abbrev agk:Nat:=805
noncomputable def s8:aJ:=fn (st 30) "_law_place" N N N (S "law_te0077_01" 1444) none (r 811) N [aa "mended",aa "used"] []
noncomputable abbrev agl:Nat:=812
noncomputable def fB:aJ:=fn (st 31) "_law_sent" N N N (S "law_te0077_01" 1444) none (r 816) N [aa "kind",aa "name",aa "pairs",aa "flag"] []
noncomputable abbrev agm:Nat:=817
noncomputable def G1:aJ:=fn (st 28) "_law_tag" N N N (S "law_te0077_01" 1444) none (r 797) N [aa "token"] []
noncomputable def iU:aJ:=fn (st 32) "law" N N N (S "law_te0077_01" 1444) none (r 821) N [aa "script"] []
noncomputable abbrev agn:Nat:=73
noncomputable def XK:CI:=⟨73,[aa "text",aa "place"],[(aa "__init__",63),(aa "read",70)],[]⟩
noncomputable abbrev XM:Nat:=166
noncomputable def Aa:CI:=⟨166,[aa "reportCharacterErrors",aa "newLines",aa "dataStream",aa "chunk",aa "chunkSize",aa "chunkOffset",aa "errors",aa "prevNumLines",aa "prevNumCols",aa "_bufferedCharacter"],[(aa "__init__",98),(aa "reset",105),(aa "openStream",112),(aa "_position",119),(aa "position",126),(aa "char",133),(aa "readChunk",141),(aa "characterErrorsUCS4",148),(aa "charsUntil",156),(aa "unget",163)],[(aa "_defaultChunkSize",(I 10240 624))]⟩
noncomputable abbrev ago:Nat:=230
noncomputable def Ab:CI:=⟨230,[aa "_data",aa "_keys",aa "_cachestr",aa "_cachepoints"],[(aa "__contains__",199),(aa "__len__",206),(aa "__getitem__",213),(aa "has_keys_with_prefix",220),(aa "longest_prefix",227)],[]⟩
noncomputable abbrev agp:Nat:=762
noncomputable def G2:CI:=⟨762,[aa "stream",aa "parser",aa "escapeFlag",aa "lastFourChars",aa "state",aa "escape",aa "currentToken",aa "tokenQueue"],[(aa "__init__",261),(aa "consumeNumberEntity",275),(aa "consumeEntity",283),(aa "processEntityInAttribute",290),(aa "emitCurrentToken",297),(aa "dataState",304),(aa "entityDataState",311),(aa "tagOpenState",353),(aa "beforeAttributeNameState",535),(aa "attributeNameState",542),(aa "afterAttributeNameState",549),(aa "beforeAttributeValueState",556),(aa "attributeValueDoubleQuotedState",563),(aa "attributeValueSingleQuotedState",570),(aa "attributeValueUnQuotedState",577),(aa "afterAttributeValueState",584),(aa "selfClosingStartTagState",591)],[]⟩
noncomputable def XN:List SV:=[.str (aa "\t"),.str (aa "\n"),.str (aa "\x0c"),.str (aa " "),.str (aa "\x0d")]
noncomputable def XO:List SV:=[.str (aa "a"),.str (aa "b"),.str (aa "c"),.str (aa "d"),.str (aa "e"),.str (aa "f"),.str (aa "g"),.str (aa "h"),.str (aa "i"),.str (aa "j"),.str (aa "k"),.str (aa "l"),.str (aa "m"),.str (aa "n"),.str (aa "o"),.str (aa "p"),.str (aa "q"),.str (aa "r"),.str (aa "s"),.str (aa "t"),.str (aa "u"),.str (aa "v"),.str (aa "w"),.str (aa "x"),.str (aa "y"),.str (aa "z"),.str (aa "A"),.str (aa "B"),.str (aa "C"),.str (aa "D"),.str (aa "E"),.str (aa "F"),.str (aa "G"),.str (aa "H"),.str (aa "I"),.str (aa "J"),.str (aa "K"),.str (aa "L"),.str (aa "M"),.str (aa "N"),.str (aa "O"),.str (aa "P"),.str (aa "Q"),.str (aa "R"),.str (aa "S"),.str (aa "T"),.str (aa "U"),.str (aa "V"),.str (aa "W"),.str (aa "X"),.str (aa "Y"),.str (aa "Z")]
noncomputable def XQ:List SV:=[.str (aa "0"),.str (aa "1"),.str (aa "2"),.str (aa "3"),.str (aa "4"),.str (aa "5"),.str (aa "6"),.str (aa "7"),.str (aa "8"),.str (aa "9")]
noncomputable def XR:List SV:=[.str (aa "0"),.str (aa "1"),.str (aa "2"),.str (aa "3"),.str (aa "4"),.str (aa "5"),.str (aa "6"),.str (aa "7"),.str (aa "8"),.str (aa "9"),.str (aa "a"),.str (aa "b"),.str (aa "c"),.str (aa "d"),.str (aa "e"),.str (aa "f"),.str (aa "A"),.str (aa "B"),.str (aa "C"),.str (aa "D"),.str (aa "E"),.str (aa "F")]
noncomputable def Ac:List (Str×Value):=[(aa "Doctype",(I 0 533)),(aa "Characters",(I 1 535)),(aa "SpaceCharacters",(I 2 537)),(aa "StartTag",(I 3 539)),(aa "EndTag",(I 4 541)),(aa "EmptyTag",(I 5 543)),(aa "Comment",(I 6 545)),(aa "ParseError",(I 7 547))]
noncomputable def XS:List SV:=[.int 3,.int 4,.int 5]
noncomputable def dM:List (Str×Value):=[(aa "EOF",N),(aa "spaceCharacters",(r 22)),(aa "asciiLetters",(r 27)),(aa "digits",(r 32)),(aa "hexDigits",(r 37)),(aa "asciiLower",(r 42)),(aa "entities",(r 43)),(aa "replacementCharacters",(r 46)),(aa "tokenTypes",(r 48)),(aa "tagTokenTypes",(r 49)),(aa "Text",(r 73)),(aa "_is_invalid",(r 84)),(aa "HTMLUnicodeInputStream",(r 166)),(aa "bisect_left",(r 178)),(aa "Trie",(r 230)),(aa "entitiesTrie",(r 236)),(aa "HTMLTokenizer",(r 762)),(aa "_law_PIECES",(r 767)),(aa "_law_TABLE",(r 774)),(aa "_law_call",(r 781)),(aa "_law_begin",(r 786)),(aa "_law_flag",(r 793)),(aa "_law_tag",(r 798)),(aa "_law_queue",(r 805)),(aa "_law_place",(r 812)),(aa "_law_sent",(r 817)),(aa "law",(r 822))]
noncomputable def gV:List Str:=[aa "AMP",aa "AMP;",aa "Eacute",aa "Eacute;",aa "Mopf;",aa "ac;",aa "acE;",aa "acute",aa "acute;",aa "amp",aa "amp;",aa "ang;",aa "angle;",aa "bne;",aa "copy",aa "copy;",aa "eacute",aa "eacute;",aa "frac12",aa "frac12;",aa "gt",aa "gt;",aa "lt",aa "lt;",aa "nbsp",aa "nbsp;",aa "not",aa "not;",aa "notin;",aa "notni;",aa "para",aa "para;",aa "parallel;",aa "quot",aa "quot;",aa "sup1",aa "sup1;",aa "sup2",aa "sup2;",aa "sup;",aa "times",aa "times;",aa "timesb;"]
noncomputable def oz:List Str:=[aa " ",aa ">",aa "/",aa "=",aa "\"",aa "'",aa "<",aa "`",aa "\x00",aa "&",aa "a",aa "B",aa "\t",aa "\x0d",aa "\n",aa "\x0c",aa "é",aa "-",aa "amp;",aa "?",aa "\x0d\n",aa "!",aa "Z",aa "𝒳"]
noncomputable def bU:List (Str×Str):=[(aa "AMP",aa "&"),(aa "AMP;",aa "&"),(aa "Eacute",aa "É"),(aa "Eacute;",aa "É"),(aa "Mopf;",aa "𝕄"),(aa "ac;",aa "∾"),(aa "acE;",aa "∾̳"),(aa "acute",aa "´"),(aa "acute;",aa "´"),(aa "amp",aa "&"),(aa "amp;",aa "&"),(aa "ang;",aa "∠"),(aa "angle;",aa "∠"),(aa "bne;",aa "=⃥"),(aa "copy",aa "©"),(aa "copy;",aa "©"),(aa "eacute",aa "é"),(aa "eacute;",aa "é"),(aa "frac12",aa "½"),(aa "frac12;",aa "½"),(aa "gt",aa ">"),(aa "gt;",aa ">"),(aa "lt",aa "<"),(aa "lt;",aa "<"),(aa "nbsp",aa " "),(aa "nbsp;",aa " "),(aa "not",aa "¬"),(aa "not;",aa "¬"),(aa "notin;",aa "∉"),(aa "notni;",aa "∌"),(aa "para",aa "¶"),(aa "para;",aa "¶"),(aa "parallel;",aa "∥"),(aa "quot",aa "\""),(aa "quot;",aa "\""),(aa "sup1",aa "¹"),(aa "sup1;",aa "¹"),(aa "sup2",aa "²"),(aa "sup2;",aa "²"),(aa "sup;",aa "⊃"),(aa "times",aa "×"),(aa "times;",aa "×"),(aa "timesb;",aa "⊠")]
noncomputable def oA:List (Str×SV):=[(aa "_data",.val (r 43)),(aa "_keys",.val (r 243)),(aa "_cachestr",.str (aa "")),(aa "_cachepoints",.val (r 246))]
noncomputable def XT:List SV:=[.int 0,.int 43]
noncomputable def T:Tab where
 cls:=[(73,XK),(166,Aa),(230,Ab),(762,G2)]
 dM:=dM++[(aa "len",.builtin "len"),(aa "ord",.builtin "ord"),(aa "chr",.builtin "chr"),(aa "isinstance",.builtin "isinstance"),(aa "int",.type "int"),(aa "dict",.type "dict"),(aa "str",.type "str"),(aa "sum",.builtin "sum"),(aa "range",.type "range")]
 fns:=[(42,kP),(63,Xa),(70,Xb),(84,Xc),(98,Xd),(105,Xe),(112,Xf),(119,Xg),(126,Xh),(133,Xi),(141,Xj),(148,qm),(156,fS),(163,Xk),(178,s7),(199,Xl),(206,Xm),(213,Xn),(220,Xo),(227,ow),(261,Xp),(275,Xq),(283,jR),(290,wF),(297,Xr),(304,Xs),(311,Xu),(353,Xv),(535,Xw),(542,Xx),(549,Xy),(556,Xz),(563,XA),(570,XC),(577,XD),(584,XE),(591,XF),(774,qo),(781,XG),(786,XH),(793,XI),(805,XJ),(812,s8),(817,fB)]
 tups:=[(22,XN),(27,XO),(32,XQ),(37,XR),(49,XS),(246,XT)]
 rX:=[(48,Ac)]
 nO:=[(236,230,235,oA)]
 lY:=[(243,gV),(767,oz)]
 nP:=[(43,bU)]
 kF:=[73,166,762]
 jH:=[(798,G1,aa "token",aa "data")]
 lW:=fun|.strm _=>XM|.other _=>0
end
end Tb
end
section
namespace Ex
noncomputable section
noncomputable def Gx.sm (G:Gx) (n:Nat) (cons:List (Addr×Nat×bx)):Gx:=⟨G.D,G.T,n,G.cs,fun qq qq qq=>False,cons,[],[],[],false⟩
theorem au.sw{G:Gx}{n:Nat}{cons:List (Addr×Nat×bx)}{f:Value}{xs:List SV}{σ:SS}{K:SV→SS→Prop}(hn:n≤G.n)(h:au (G.sm n cons) f xs σ K):au G f xs σ K:=fun c ρ s vs a r=>
 codeAny_mono (h c ρ s vs ⟨a.toRepS,a.cs,a.ok.less hn,a.tk,a.rx,fun x hx=>Om.nm hx,fun h=>Om.nb h⟩ r) fun r' s' z=>by
  rcases r' with e|(_|_|_|v)
  ·obtain⟨_,_,_,_,_,k⟩:=z;exact k.elim
  ·exact z
  ·exact z
  ·exact z
  ·exact z
noncomputable abbrev cH (D:Wd) (x:Addr×Nat×bx):Prop:=∀G':Gx,G'.D=D→G'.T=Tb.T→x.2.1≤G'.n→∀xs σ K,(x.2.2 xs σ K).h→au G' (.ref x.1) xs σ (hh K)
inductive XU (η:Ev) (st:eN) (os:List SO):Prop
 |mk (ch tx off pl pc place en bf) (e:os=aW ch tx off pl pc place en bf) (i:cQ (st.d.map (·.ev η)) (st.r.ev η) (st.un.map (·.ev η)) ch tx off pl pc place en bf)
noncomputable def jS (η:Ev):eO→List SO→Prop
 |.strm st,os=>XU η st os
 |.other _,_=>False
noncomputable abbrev WS (W:Wd):Wd:={W with bl:=fun b a l=>nV (jS W.η) W b a l}
theorem s9(W:Wd)(b:eO)(a:Addr)(l:List (Addr×Obj)):(WS W).bl b a l↔nV (jS (WS W).η) (WS W) b a l:=
 ⟨fun⟨o,ls,L,e,h,m⟩=>⟨o,ls,L,e,h,m⟩,fun⟨o,ls,L,e,h,m⟩=>⟨o,ls,L,e,h,m⟩⟩
noncomputable def fC (σ:SS):SS:=⟨σ.loc,.b σ.objs.list,σ.fa⟩
theorem RepS.nf{W:Wd}{c:Cx}{ρ:List Addr}{σ:SS}{s:Shared}(R:RepS W c ρ σ s):RepS W c ρ (fC σ) s:=⟨let⟨m,l,r⟩:=R.R;⟨m,l,r⟩,R.tp,R.fa⟩
theorem au.nf{G:Gx}{f:Value}{xs:List SV}{σ:SS}{K:SV→SS→Prop}(h:au G f xs σ fun x σ'=>K x (fC σ')):au G f xs σ K:=fun c ρ s vs a r=>
 codeAny_mono (h c ρ s vs a r) fun r' s' z=>by
  rcases r' with e|(_|_|_|v)
  ·exact z
  ·exact z
  ·exact z
  ·exact z
  ·obtain⟨ρ',σ',x,p,R,q,z⟩:=z
   exact⟨ρ',fC σ',x,p,R.nf,q,z⟩
theorem XW{G:Gx}{f:Addr}{xs:List SV}{σ:SS}{K:SV→SS→Prop}{n:Nat}{cons:List (Addr×Nat×bx)}(hn:n≤G.n)(g:bE (G.sm n cons))
 (h:(kN (ex 60) (G.sm n cons) f xs σ fun x σ'=>.pr (K x (fC σ')) .tt).t.h):au G (.ref f) xs σ K:=
 au.nf (au.sw hn (((kN (ex 60) (G.sm n cons) f xs σ fun x σ'=>.pr (K x (fC σ')) .tt).ok h g).mp fun qq qq z=>z.1))
noncomputable abbrev gx (D:Wd) (cs:bW) (n:Nat) (cons:List (Addr×Nat×bx)):Gx:=⟨D,Tb.T,n,cs,fun qq qq qq=>False,cons,[],[],[],false⟩
noncomputable def gW (D:Wd) (cs:bW) (n:Nat) (cons:List (Addr×Nat×bx)) (f:Addr) (xs:List SV) (loc:List (Str×SV)) (os:List SO) (fa:List Fact) (K:SV→SS→Prop):Prop:=(kN (ex 60) (gx D cs n cons) f xs ⟨loc,.b os,fa⟩ fun x σ'=>.pr (K x (fC σ')) .tt).t.h
noncomputable abbrev qp (ch n f L C bf:SV) (tx:Str) (p:Int) (en:Nat) (X:List SO):List SO:=.inst 166 [(aa "reportCharacterErrors",.obj 1),(aa "newLines",.obj 2),(aa "dataStream",.obj 3),(aa "chunk",ch),(aa "chunkSize",n),(aa "chunkOffset",f),(aa "errors",.obj 4),(aa "prevNumLines",L),(aa "prevNumCols",C),(aa "_bufferedCharacter",bf)]::.bX 148 (.obj 0)::.list none [.si 0]::.inst 73 [(aa "text",.ss tx),(aa "place",.si p)]::.list (some (.fK en)) []::X
section
variable(D:Wd)(cs:bW)(K:SV→SS→Prop)(ch tx c:Str)(off pl pc place en:Nat)(bf:Option Nat)(loc:List (Str×SV))(fa:List Fact)
theorem vU:gW D cs 1 [] 163 [.obj 0,.ss c] loc (aW ch tx off pl pc place en bf) fa K=
 ((decide ((off:Int)=0)=true→c.length+ch.length≤sizeLine∧K .none ⟨loc,.b (qp (.ss (c++ch)) (.si (ch.length+1)) (.si off) (.si pl) (.si pc) (mz bf) tx place en []),fa⟩∧True)∧
  (decide ((off:Int)=0)=false→(-(ch.length:Int)≤off-1∧(off:Int)-1<ch.length∧ch.length≤sizeLine)∧(seq (fG ch (off-1)) c=true→K .none ⟨loc,.b (qp (.ss ch) (.si ch.length) (.si (off-1)) (.si pl) (.si pc) (mz bf) tx place en []),fa⟩∧True)∧(seq (fG ch (off-1)) c=false→False))):=by kernel_rfl
theorem XX:gW D cs 1 [] 163 [.obj 0,.none] loc (aW ch tx off pl pc place en bf) fa K=(K .none ⟨loc,.b (aW ch tx off pl pc place en bf),fa⟩∧True):=by kernel_rfl
end
end
end Ex
end
section
namespace Ex
noncomputable abbrev oB (vs:List Value) (n:Nat):Obj:={cls:=.type "tuple",data:=.seq vs.toArray n}
noncomputable def cJ (h:Heap) (k:Int×Str) (a:Addr):Prop:=jE k.2=true∧∃n t u,h.get? a=some (oB [.int k.1 t,.str k.2 u] n)
theorem cJ.inj{h:Heap}{a:Addr}{x y:Int×Str}(p:cJ h x a)(q:cJ h y a):x=y:=by
 obtain⟨_,n,t,u,e⟩:=p
 obtain⟨_,n',t',u',e'⟩:=q
 rw[e] at e'
 cases x;cases y
 cases e'
 rfl
theorem cJ.keeps{h h':Heap}{k:Int×Str}{a d:Addr}{o:Obj}{es ep}(p:cJ h k a)(ho:h.get? d=some o)(hd:o.data=.dict es ep)(hs:jF d h h'):cJ h' k a:=by
 obtain⟨ok,n,t,u,e⟩:=p
 refine⟨ok,n,t,u,hs.extBut a _ (fun q=>?_) e⟩
 subst q
 rw[e] at ho
 cases ho
 cases hd
theorem cJ.typeIs{s:Shared}{k:Int×Str}{a:Addr}(p:cJ s.heap k a):s.TypeIs (.ref a) "tuple":=let⟨_,_,_,_,e⟩:=p;⟨_,e,rfl⟩
section
variable{prog:Program}{w:World}{A:Around}{E:Value→Shared→Prop}{s:Shared}
noncomputable def oE (w:World) (k:Int×Str):Int:=reduceHash (uA [hashInt k.1,hashStr w k.2])
theorem XY{k:Int×Str}{a:Addr}{Q:Int→Shared→Prop}(hu:A.units+3<cLine)(p:cJ s.heap k a)(h:Q (oE w k) {s with toks:=s.toks+3}):wpAny (model prog w) A (pyHash (.ref a)) Q E s:=by
 have hT:=p.typeIs
 obtain⟨_,n,t,u,ho⟩:=p
 have hu':A.units<cLine:=by exact Om.O7 hu
 unfold pyHash
 first|unfold pyHashByItsType|skip
 first|refine wpAny_bind (wpAny_cRoomFor_or (.inr hu') ?_)|skip
 refine wpAny_bind (wpAny_specialOf hT Cq.lookup ?_)
 show wpAny _ _ (if(some (CU "tuple.__hash__")==some gG)=true then _ else _) Q E s
 rw[if_neg (by rw[beq_builtin_none];exact yv)]
 refine wpAny_bind (wpAny_specialOf hT Cq.lookup ?_)
 show wpAny _ _ (callSpecialIfBoundUnlessNone? (.ref a) "__hash__" _>>=_) Q E s
 refine wpAny_bind (wpAny_callSpecialIfBoundUnlessNone?_slot hT Cq (wpAny_call_entry Cq hT F.entry_tuple_hash ?_ (F.args_tuple_hash_1 _)))
 show wpAny _ _ (Builtin.Tuple.tupleItemsOf (.ref a)>>=_) _ _ s
 refine wpAny_bind (wpAny_tupleItemsOf ho rfl ?_)
 refine wpAny_bind ?_
 rw[←Array.forIn_toList]
 show wpAny _ _ (forIn [jf k.1 t,pM k.2 u] _ _) _ _ s
 rw[rG]
 refine wpAny_bind (wpAny_bind (wpAny_pyHash_int ?_))
 refine wpAny_pure ?_
 dsimp only
 rw[rG]
 refine wpAny_bind (wpAny_bind (wpAny_pyHash_str ?_))
 refine wpAny_pure ?_
 dsimp only
 rw[List.forIn_nil]
 refine wpAny_pure ?_
 show wpAny _ _ (retInt (uA [hashInt k.1,hashStr w k.2])) _ _ _
 refine wpAny_ret_mkInt ?_
 show wpAny _ _ (if(decide (-(2:Int)^63≤uA [hashInt k.1,hashStr w k.2])&&decide (uA [hashInt k.1,hashStr w k.2]<2^63))=true then _ else _) Q E _
 unfold oE reduceHash at h
 by_cases hr:(decide (-(2:Int)^63≤uA [hashInt k.1,hashStr w k.2])&&decide (uA [hashInt k.1,hashStr w k.2]<2^63))=true
 ·rw[if_pos hr]
  rw[if_pos hr] at h
  exact wpAny_pure h
 ·rw[if_neg hr]
  rw[if_neg hr] at h
  exact wpAny_bind (wpAny_rule (wpAny_pure h))
theorem cJ.reads{h:Heap}{k:Int×Str}{a:Addr}(p:cJ h k a):∃as,Reads h (.ref a) (.tuple [.int k.1,.str k.2]) as:=by
 obtain⟨_,n,t,u,ho⟩:=p
 exact⟨_,.tuple ho rfl rfl (.cons (.int _ _) (.cons (.str _ _) .nil))⟩
theorem XZ(x y:Int×Str):PyData.eqv (.tuple [.int x.1,.str x.2]) (.tuple [.int y.1,.str y.2])=decide (x=y):=by
 obtain⟨a,b⟩:=x
 obtain⟨c,d⟩:=y
 show((a==c)&&((b==d)&&true))=_
 rw[Bool.and_true]
 by_cases h1:a=c<;>by_cases h2:b=d<;>simp[h1,h2]
theorem X3{k:Int×Str}{a:Addr}{Q:Bool→Shared→Prop}(p:cJ s.heap k a)(h:Q true s):wpAny (model prog w) A (eqIsQuiet 8 (.ref a)) Q E s:=by
 have hT:=p.typeIs
 obtain⟨_,n,t,u,ho⟩:=p
 unfold eqIsQuiet
 refine wpAny_bind (wpAny_specialOf hT F.slot_tuple_eq.lookup ?_)
 show wpAny _ _ (isInstance (.ref a) (.type "tuple")>>=_) _ _ s
 refine wpAny_bind (wpAny_isInstance hT isSubtype_tuple_tuple ?_)
 simp only[CY,rC,if_false]
 refine wpAny_bind (wpAny_seqItems ho rfl ?_)
 refine wpAny_bind ?_
 show wpAny _ _ (forIn (#[jf k.1 t,pM k.2 u]:Array Value) _ _) _ _ s
 rw[←Array.forIn_toList]
 show wpAny _ _ (forIn [jf k.1 t,pM k.2 u] _ _) _ _ s
 rw[rG,eqIsQuiet_byValue _ rfl]
 refine wpAny_bind (wpAny_bind (wpAny_pure ?_))
 simp only[CY,rC,if_false]
 refine wpAny_pure ?_
 dsimp only
 rw[rG,eqIsQuiet_byValue _ rfl]
 refine wpAny_bind (wpAny_bind (wpAny_pure ?_))
 simp only[CY,rC,if_false]
 refine wpAny_pure ?_
 dsimp only
 rw[List.forIn_nil]
 exact wpAny_pure (wpAny_pure h)
end
theorem G3{x:Int×Str}(h:jE x.2=true):(PyData.tuple [.int x.1,.str x.2]).canLay0=true:=by simp[PyData.canLay0,PyData.canLayAll0,h]
theorem G4(x:Int×Str):(PyData.tuple [.int x.1,.str x.2]).depth=1:=by simp[PyData.depth,PyData.depthAll]
noncomputable def kQ (prog:Program) (w:World):HeapKind prog w (Int×Str) where
 is:=cJ
 hash:=oE w
 draws:=fun qq=>3
 room:=fun A=>A.units+3<cLine
 inj:=fun hx hy=>hx.inj hy
 keeps:=fun x ho hd hs=>x.keeps ho hd hs
 pyHash:=fun hu hk h=>XY hu hk h
 eqBool:=fun{A E s x y a b Q} hu hx hy h=>by
  obtain⟨as,rx⟩:=hx.reads
  obtain⟨bs,ry⟩:=hy.reads
  refine SeqAt.eqBoolOverData prog w A E s _ _ _ _ as bs Q rx ry (G3 hx.1) (G3 hy.1) ?_ ?_
  ·rw[G4,G4]
   have hu':A.units+3<cLine:=hu
   exact Om.O8 hu
  ·rw[XZ];exact h
 quiet:=fun hk h=>X3 hk h
end Ex
end
section
namespace Ex
noncomputable section
noncomputable abbrev bK:=(Int×Str)×(Str×Str×Int)
noncomputable abbrev mG:=(Int×Str)×Addr×Value
inductive gv (lo:Nat) (h:Heap) (x:mG) (r:bK):Prop
 |mk (b n:Nat) (t u w:Tok) (e:x.1=r.1) (ev:x.2.2=.ref b) (hl:lo≤b) (hb:h.get? b=some (oB [.str r.2.1 t,.str r.2.2.1 u,.int r.2.2.2 w] n))
theorem gv.e{lo:Nat}{h:Heap}{x:mG}{r:bK}(q:gv lo h x r):x.1=r.1:=by cases q;assumption
theorem gv.to{lo lo':Nat}{h h':Heap}{x:mG}{r:bK}(hl:lo'≤lo)(hk:∀b vs n,h.get? b=some (oB vs n)→h'.get? b=some (oB vs n))(q:gv lo h x r):gv lo' h' x r:=by
 cases q with
 |mk b n t u w e ev h1 hb=>exact⟨b,n,t,u,w,e,ev,ah hl h1,hk _ _ _ hb⟩
theorem Ad{lo:Nat}{h:Heap}{xs:List mG}{rs:List bK}(q:Each (gv lo h) xs rs):xs.map (·.1)=rs.map (·.1):=by
 induction q with
 |nil=>rfl
 |cons a _ ih=>rw[eL,eL,a.e,ih]
section
variable{P:Program}{w:World}{A:Around}{E:Value→Shared→Prop}{s s':Shared}{lo:Nat}{d:Addr}{rows:List bK}
inductive dR (P:Program) (w:World) (lo:Nat) (h:Heap) (d:Addr) (rows:List bK):Prop
 |mk (xs:List mG) (hd:lo≤d) (D:h.DictOfH (kQ P w) d xs) (R:Each (gv lo h) xs rows)
structure Kp (s s':Shared):Prop where
 k:∀b o,s.heap.get? b=some o→s'.heap.get? b=some o
 z:s.heap.objs.size≤s'.heap.objs.size
 os:s'.os=s.os
 gens:s'.gens=s.gens
theorem Kp.rfl:Kp s s:=⟨fun qq qq h=>h,az _,_root_.rfl,_root_.rfl⟩
theorem Kp.trans{s'':Shared}(a:Kp s s')(b:Kp s' s''):Kp s s'':=⟨fun x o h=>b.k x o (a.k x o h),ah a.z b.z,b.os.trans a.os,b.gens.trans a.gens⟩
theorem cJ.kp{h h':Heap}{k:Int×Str}{a:Addr}(hk:∀b o,h.get? b=some o→h'.get? b=some o)(p:cJ h k a):cJ h' k a:=let⟨ok,n,t,u,e⟩:=p;⟨ok,n,t,u,hk _ _ e⟩
theorem G5{h h':Heap}{xs:List mG}(hk:∀b o,h.get? b=some o→h'.get? b=some o)(D:h.DictOfH (kQ P w) d xs):h'.DictOfH (kQ P w) d xs:=by
 obtain⟨o,es,ep,ho,h1,h2,h3,h4,h5⟩:=D
 exact⟨o,es,ep,hk _ _ ho,h1,h2,h3,fun x hx=>cJ.kp hk (h4 x hx),h5⟩
theorem dR.kp{lo':Nat}{h h':Heap}(hl:lo'≤lo)(hk:∀b o,h.get? b=some o→h'.get? b=some o)(T:dR P w lo h d rows):dR P w lo' h' d rows:=by
 obtain⟨xs,hd,D,R⟩:=T
 exact⟨xs,ah hl hd,G5 hk D,R.mono fun qq qq q=>q.to hl fun b qq qq e=>hk b _ e⟩
theorem qt{h h':Heap}{o:Obj}{es ep}(ho:h.get? d=some o)(hd:o.data=.dict es ep)(hs:jF d h h')(b:Addr)(vs:List Value)(n:Nat)(e:h.get? b=some (oB vs n)):h'.get? b=some (oB vs n):=hs.extBut b _ (fun q=>by
 subst q
 rw[e] at ho
 cases ho
 cases hd) e
theorem G6{lo:Nat}{h:Heap}{xs:List mG}(q:Each (gv lo h) xs rows){k:Int×Str}(hk:k∉rows.map (·.1)):atKey xs k=none:=by
 refine atKey_none_of_get fun j p hj=>hk ?_
 rw[←Ad q]
 exact dh.mpr ⟨_,fZ hj,rfl⟩
variable{r:bK}{a:Addr}{v:Value}{Q:Unit→Shared→Prop}(hu:A.units+3<cLine)(T:dR P w lo s.heap d rows)(hr:gv lo s.heap (r.1,a,v) r)(hk:cJ s.heap r.1 a)(hn:r.1∉rows.map (·.1))(hz:rows.length≤1000)(hQ:∀h' tk,jF d s.heap h'→dR P w lo h' d (rows++[r])→Q () {s with heap:=h',toks:=tk})
include hu T hr hk hn hz hQ
theorem G7:wpAny (model P w) A (dictSet d (.ref a) v) Q E s:=by
 obtain⟨xs,hd,D,R⟩:=T
 have h0:=G6 R hn
 obtain⟨o,es,ep,ho,_,h2,_⟩:=id D
 refine wpAny_dictSet_heap (knd:=kQ P w) hu hk D (fun h' D' hs=>?_) (by rw[Each.len R,sizeLine_eq];exact Om.Dz hz)
 rw[storedH_new h0] at D'
 exact hQ h' _ hs ⟨_,hd,D',(R.mono fun qq qq q=>q.to (az _) (qt ho h2 hs)).app (.one (hr.to (az _) (qt ho h2 hs)))⟩
theorem X4:wpAny (model P w) A (dictPut d (oE w r.1) (.ref a) v) Q E s:=by
 obtain⟨xs,hd,D,R⟩:=T
 have h0:=G6 R hn
 have hsz:xs.length≤sizeLine:=by rw[Each.len R,sizeLine_eq];exact Om.Dz hz
 obtain⟨o,es,ep,ho,hc,h2,he,his,hnd⟩:=D
 unfold dictPut
 refine wpAny_bind (wpAny_dictFind_heap (knd:=kQ P w) hu hk ho h2 he his hnd (fun hno=>?_) fun j p hj=>?_)
 ·have ho':(s.heap.update d (Obj.mapDictKeys (·.push ⟨oE w r.1,.ref a,v⟩))).get? d=some (o.mapDictKeys (·.push ⟨oE w r.1,.ref a,v⟩)):=Heap.get?_update_self _ ho (Obj.isFreed_of_dict (Obj.data_mapDictKeys h2 _))
  have hs:jF d s.heap (s.heap.update d (Obj.mapDictKeys (·.push ⟨oE w r.1,.ref a,v⟩))):=Heap.SameBut.update ..
  refine wpAny_updateDictKeys (hz:=by have e:=size_of_entries he;exact Om.O9 hsz e) ho h2 (hQ _ _ hs ⟨xs++[(r.1,a,v)],hd,⟨_,_,ep+1,ho',hc.mapDictKeys _,Obj.data_mapDictKeys h2 _,by simp[he,entryOfKey,kQ],fun x hx=>?_,?_⟩,(R.mono fun qq qq q=>q.to (az _) (qt ho h2 hs)).app (.one (hr.to (az _) (qt ho h2 hs)))⟩)
  ·rcases f7.mp hx with hx|hx
   ·exact cJ.keeps (his x hx) ho h2 hs
   ·rw[dU] at hx
    subst hx
    exact cJ.keeps hk ho h2 hs
  ·rw[cy,pG]
   exact⟨hnd,by simp,fun x hx y hy e=>hn (by
    rw[List.map_singleton,dU] at hy
    rw[←Ad R,←hy,←e];exact hx)⟩
 ·exact absurd (dh.mpr ⟨_,fZ hj,rfl⟩) (by rw[Ad R];exact hn)
end
end
end Ex
end
section
namespace Ex
noncomputable section
set_option backward.match.sparseCases false in
noncomputable def iV (e:Expr):Option (List PyData):=match e with
 |.Tuple es _ _=>tupLitsOf es
 |_=>none
theorem X5{e:Expr}{ds:List PyData}(h:iV e=some ds):∃es k p,e=.Tuple es k p∧tupLitsOf es=some ds:=by
 unfold iV at h
 split at h
 ·exact⟨_,_,_,rfl,h⟩
 ·cases h
structure gX (x:Expr×Expr) (r:bK):Prop where
 k:iV x.1=some [.int r.1.1,.str r.1.2]
 v:iV x.2=some [.str r.2.1,.str r.2.2.1,.int r.2.2.2]
 ok:jE r.1.2=true
theorem G8{v:Value}{i:Int}(h:IsDatum v (.int i)):∃t,v=.int i t:=by cases h default;exact⟨_,rfl⟩
theorem Ae{v:Value}{i:Str}(h:IsDatum v (.str i)):∃t,v=.str i t:=by cases h default;exact⟨_,rfl⟩
section
variable{P:Program}{w:World}{A:Around}{E:Value→Shared→Prop}{s:Shared}{env:Env}{pos:Pos}
theorem G9{e:Expr}{ds:List PyData}(h:iV e=some ds)(hz:ds.length≤100){Q:Value→Shared→Prop}(hQ:∀vs h₁ tk,DataAre vs ds→h₁.get? s.heap.objs.size=some (oB vs 0)→(∀b o,s.heap.get? b=some o→h₁.get? b=some o)→s.heap.objs.size≤h₁.objs.size→Q (.ref s.heap.objs.size) {s with heap:=h₁,toks:=tk}):wpAny (model P w) A (eval e env) Q E s:=by
 obtain⟨es,k,p,rfl,h1⟩:=X5 h
 exact wpAny_Tuple (spliced_lits es ds s _ h1 fun vs tk hvs=>⟨by rw[dataAre_len hvs,sizeLine_eq];exact Om.Pa hz,hQ vs _ tk hvs (rA _ rfl) (fun b o e=>iE _ e) (by rw[yF];exact cV _)⟩)
theorem Hf{x:Expr×Expr}{r:bK}(h:gX x r){Q:Value→Value→Shared→Prop}(hQ:∀a v s',Kp s s'→cJ s'.heap r.1 a→gv s.heap.objs.size s'.heap (r.1,a,v) r→Q (.ref a) v s'):
 wpAny (model P w) A (eval x.1 env) (fun u s₁=>wpAny (model P w) A (do let v ←eval x.2 env;standAt pos;pure v:Sem Value) (fun z s₂=>Q u z s₂) E s₁) E s:=by
 refine G9 h.k (by show 2≤100;decide) fun vs h₁ tk D ho hk hz=>?_
 refine wpAny_bind (G9 h.v (by show 3≤100;decide) fun vs2 h₂ tk2 D2 ho2 hk2 hz2=>wpAny_bind (wpAny_standAt (wpAny_pure ?_)))
 cases D with
 |cons d1 D=>cases D with
  |cons d2 D=>
   cases D
   cases D2 with
   |cons f1 D2=>cases D2 with
    |cons f2 D2=>cases D2 with
     |cons f3 D2=>
      cases D2
      obtain⟨t1,rfl⟩:=G8 d1
      obtain⟨t2,rfl⟩:=Ae d2
      obtain⟨t3,rfl⟩:=Ae f1
      obtain⟨t4,rfl⟩:=Ae f2
      obtain⟨t5,rfl⟩:=G8 f3
      exact hQ _ _ _ ⟨fun b o e=>hk2 _ _ (hk _ _ e),ah hz hz2,rfl,rfl⟩ ⟨h.ok,0,t1,t2,hk2 _ _ ho⟩ ⟨_,0,t3,t4,t5,rfl,rfl,hz,ho2⟩
noncomputable abbrev eZ (env:Env) (pos:Pos) (l:List (Expr×Expr)):List (Sem Value×Sem Value):=l.map fun x=>(eval x.1 env,do let v ←eval x.2 env;standAt pos;pure v)
theorem Kp.but{s s':Shared}{d:Addr}{h':Heap}{tk:Nat}(k:Kp s s')(hd:s.heap.objs.size≤d)(hs:jF d s'.heap h'):Kp s {s' with heap:=h',toks:=tk}:=⟨fun b o e=>hs.extBut b o (cU (iF (b4 e) hd)) (k.k b o e),by show _≤h'.objs.size;rw[hs.1];exact k.z,k.os,k.gens⟩
end
end
end Ex
end
section
namespace Ex
noncomputable section
theorem Af{l1 l2:List bK}{r:bK}(h:((l1++r::l2).map (·.1)).Nodup):r.1∉l1.map (·.1):=fun hm=>by
 rw[cy,eL,pG] at h
 exact h.2.2 _ hm _ (.head _) rfl
inductive mH (lo:Nat) (h:Heap) (kv:Value×Value) (r:bK):Prop
 |mk (a:Addr) (e:kv.1=.ref a) (hk:cJ h r.1 a) (hr:gv lo h (r.1,a,kv.2) r)
section
variable{P:Program}{w:World}{A:Around}{E:Value→Shared→Prop}{s:Shared}{env:Env}{pos:Pos}{lo:Nat}{d:Addr}
theorem mH.but{h h':Heap}{kv:Value×Value}{r:bK}{rows:List bK}(T:dR P w lo h d rows)(hs:jF d h h')(q:mH lo h kv r):mH lo h' kv r:=by
 obtain⟨a,e,hk,hr⟩:=q
 obtain⟨xs,hd,⟨o,es,ep,ho,h1,h2,_⟩,R⟩:=T
 exact⟨a,e,hk.keeps ho h2 hs,hr.to (az _) (qt ho h2 hs)⟩
theorem mH.kp{lo':Nat}{h h':Heap}{kv:Value×Value}{r:bK}(hl:lo'≤lo)(hk:∀b o,h.get? b=some o→h'.get? b=some o)(q:mH lo h kv r):mH lo' h' kv r:=by
 obtain⟨a,e,k,hr⟩:=q
 exact⟨a,e,k.kp hk,hr.to hl fun b qq qq e=>hk b _ e⟩
theorem X6{l:List (Expr×Expr)}{rows:List bK}(R:Each gX l rows):∀{s:Shared} {Q:List (Value×Value)→Shared→Prop},(∀vs s',Kp s s'→Each (mH s.heap.objs.size s'.heap) vs rows→Q vs s')→wpAny (model P w) A (evalPairs (eZ env pos l)) Q E s:=by
 induction R with
 |nil=>exact fun hQ=>wpAny_pure (hQ [] _ Kp.rfl .nil)
 |@cons x r l rows h R ih=>
  intro s Q hQ
  show wpAny _ _ (evalPairs ((eval x.1 env,do let v ←eval x.2 env;standAt pos;pure v)::eZ env pos l)) _ _ _
  unfold evalPairs
  have h1:=Hf (P:=P) (w:=w) (A:=A) (E:=E) (env:=env) (pos:=pos) (s:=s) h (Q:=fun kv vv s2=>wpAny (model P w) A (evalPairs (eZ env pos l)) (fun vs s3=>Q ((kv,vv)::vs) s3) E s2) fun a v s' kp hk hr=>ih fun vs s'' kp' hv=>hQ _ s'' (kp.trans kp') (.cons ⟨a,rfl,hk.kp kp'.k,hr.to (az _) fun b qq qq e=>kp'.k b _ e⟩ (hv.mono fun qq qq q=>q.kp kp.z fun qq qq e=>e))
  refine wpAny_bind (wpAny_mono h1 (fun kv s1 h1=>?_) fun qq qq z=>z)
  refine wpAny_bind (wpAny_holding (wpAny_mono h1 (fun vv s2 h2=>?_) fun qq qq z=>z))
  exact wpAny_bind (wpAny_holding (wpAny_mono h2 (fun vs s3 h3=>wpAny_pure h3) fun qq qq z=>z))
theorem Hg{l:List (Expr×Expr)}{rows:List bK}(hu:A.units+3<cLine)(R:Each gX l rows)(nd:(rows.map (·.1)).Nodup)(hz:l.length≤100){Q:Addr→Shared→Prop}(hQ:∀d s',Kp s s'→dR P w s.heap.objs.size s'.heap d rows→Q d s'):
 wpAny (model P w) A (subDict (eZ env pos l)) Q E s:=by
 unfold subDict
 refine wpAny_bind (wpAny_alloc ?_)
 refine wpAny_bind (wpAny_holding ?_)
 have hlr:=Each.len R
 let s1:Shared:={s with heap:=s.heap.push {cls:=.type "dict",data:=.dict #[]}}
 have k0:Kp s s1:=⟨fun b o e=>iE _ e,by show _≤(Heap.push _ _).objs.size;rw[yF];exact cV _,rfl,rfl⟩
 have T0:dR P w s.heap.objs.size s1.heap s.heap.objs.size []:=⟨[],az _,⟨_,#[],0,rA _ rfl,⟨rfl,rfl,rfl⟩,rfl,rfl,fun x hx=>Om.nm hx,CT⟩,.nil⟩
 by_cases h15:(eZ env pos l).length≤15
 ·rw[if_pos h15]
  refine wpAny_bind (X6 (s:=s1) R fun vs s2 k2 hv=>wpAny_holding (wpAny_bind ?_))
  refine wpAny_forIn_list _ (fun rest b s'=>∃r1 r2,rows=r1++r2∧Each (mH s.heap.objs.size s'.heap) rest r2∧Kp s s'∧dR P w s.heap.objs.size s'.heap s.heap.objs.size r1) _ ?_ ?_ _ _ ⟨[],rows,rfl,hv.mono fun qq qq q=>q.kp k0.z fun qq qq e=>e,k0.trans k2,T0.kp (az _) k2.k⟩
  ·rintro⟨kv,vv⟩ rest b s' ⟨r1,r2,e1,hvs,kp,T⟩
   cases hvs using Each.ec with
   |@cons r r2 h hvs=>
    obtain⟨a,e,hk,hr⟩:=h
    obtain rfl:kv=.ref a:=e
    have hle:r1.length≤rows.length:=by rw[e1,bG];exact Om.DE
    exact wpAny_bind (G7 hu T hr hk (by rw[e1] at nd;exact Af nd) (by exact Om.DF hz hlr hle) fun h' tk hs T'=>wpAny_pure ⟨r1++[r],r2,by rw[e1,bD];rfl,hvs.mono fun qq qq q=>q.but T hs,kp.but (az _) hs,T'⟩)
  ·rintro b s' ⟨r1,r2,e1,hvs,kp,T⟩
   cases hvs
   rw[dW] at e1
   subst e1
   exact wpAny_pure (wpAny_pure (hQ _ _ kp T))
 ·rw[if_neg h15]
  refine wpAny_bind (wpAny_rule ?_)
  refine wpAny_bind ?_
  refine wpAny_forIn_list _ (fun rest b s'=>∃l2 r1 r2,rest=eZ env pos l2∧rows=r1++r2∧Each gX l2 r2∧Kp s s'∧dR P w s.heap.objs.size s'.heap s.heap.objs.size r1) _ ?_ ?_ _ _ ⟨l,[],rows,rfl,rfl,R,k0,T0⟩
  ·rintro⟨kt,vt⟩ rest b s' ⟨l2,r1,r2,e2,e1,hl,kp,T⟩
   cases hl with
   |nil=>cases e2
   |@cons x r l2 r2 h hl=>
    obtain⟨e3,rfl⟩:=rJ e2
    cases e3
    have hle:r1.length≤rows.length:=by rw[e1,bG];exact Om.DE
    refine wpAny_bind (wpAny_mono (Hf (pos:=pos) (Q:=fun kv vv s2=>wpAny (model P w) A (dictSet s.heap.objs.size kv vv) (fun qq s3=>∃l2' r1 r2,eZ env pos l2=eZ env pos l2'∧rows=r1++r2∧Each gX l2' r2∧Kp s s3∧dR P w s.heap.objs.size s3.heap s.heap.objs.size r1) E s2) h fun a v s3 kp3 hk hr=>?_) (fun kv s1 h1=>wpAny_bind (wpAny_holding (wpAny_mono h1 (fun vv s2 h2=>wpAny_bind (wpAny_holding (wpAny_mono h2 (fun qq s3 h3=>wpAny_pure h3) fun qq qq z=>z))) fun qq qq z=>z))) fun qq qq z=>z)
    exact G7 hu (T.kp (az _) kp3.k) (hr.to kp.z fun qq qq qq e=>e) hk (by rw[e1] at nd;exact Af nd) (by exact Om.DF hz hlr hle) fun h' tk hs T'=>⟨l2,r1++[r],r2,rfl,by rw[e1,bD];rfl,hl,(kp.trans kp3).but (az _) hs,T'⟩
  ·rintro b s' ⟨l2,r1,r2,e2,e1,hl,kp,T⟩
   cases hl with
   |nil=>
    rw[dW] at e1
    subst e1
    exact wpAny_pure (wpAny_pure (hQ _ _ kp T))
   |cons _ _=>cases e2
end
end
end Ex
end
section
namespace Ex
noncomputable section
structure Hh (d e:Addr) (F:Bool→Sem Unit) (U V W G:Sem Unit) (body:Nat→Nat→Unit→Sem (ForInStep Unit)):Prop where
 h1:mergeMapping d (.ref e) false=(isInstance (.ref e) (.type "dict")>>=fun b=>if b=true then(specialOf (.ref e) "__iter__">>=fun x=>pure (x==some (.builtin "dict.__iter__"))>>=F) else G)
 h2:F true=if(e==sysModules)=true then U else(dictEntries d>>=fun es=>if es.isEmpty=true then V else W)
 h3:W=(dictEntries e>>=fun es=>dictEpoch e>>=fun ep=>(forIn (dK es.size) () (body ep)>>=fun qq=>pure ()))
 h4:∀ep i,∃K,body ep i ()=(dictEntries e>>=K)∧∀es x,es[i]? =some x→∃Z,K es=(holding [x.key,x.val] (dictPut d x.hash x.key x.val)>>=fun qq=>dictEpoch e>>=fun ep'=>if(ep' !=ep)=true then Z else pure (.yield ()))
theorem X7(d e:Addr):∃F U V W G body,Hh d e F U V W G body:=by
 refine⟨?_,?_,?_,?_,?_,?_,⟨?h1,?h2,?h3,?h4⟩⟩
 case h1=>unfold mergeMapping;exact rfl
 case h2=>exact rfl
 case h3=>exact rfl
 case h4=>exact fun ep i=>⟨_,rfl,fun es x h=>⟨_,by rw[h];exact rfl⟩⟩
section
variable{P:Program}{w:World}{A:Around}{s:Shared}{env:Env}{pos:Pos}{lo:Nat}{d e:Addr}{r1 r2:List bK}
inductive X8 (P:Program) (w:World) (lo:Nat) (d:Addr) (s:Shared) (r1 r2:List bK) (n:Nat) (rest:List Nat) (b:Unit) (s':Shared):Prop
 |mk (i:Nat) (h':Heap) (tk:Nat) (hr:rest=(dK n).drop i) (e:s'={s with heap:=h',toks:=tk}) (hi:i≤n) (hs:jF d s.heap h') (T:dR P w lo h' d (r1++r2.take i))
theorem Yb{E:Value→Shared→Prop}{F:Bool→Sem Unit}{U V W G:Sem Unit}{body:Nat→Nat→Unit→Sem (ForInStep Unit)}(B:Hh d e F U V W G body)(hu:A.units+3<cLine)(hde:e≠d)(hnd:((r1++r2).map (·.1)).Nodup)(hz:(r1++r2).length≤1000)
 {o1 o2:Obj} {es1 es2:Array DictEntry} {ep1 ep2:Nat} {xs2:List ((Int×Str)×Addr×Value)} (g1:s.heap.get? d=some o1) (d1:o1.data=.dict es1 ep1) (g2:s.heap.get? e=some o2) (d2:o2.data=.dict es2 ep2) (e2:es2.toList=xs2.map (entryOfKey (kQ P w))) (k2:∀x∈xs2,cJ s.heap x.1 x.2.1) (q2:Each (gv lo s.heap) xs2 r2)
 {i:Nat} {b:Unit} {h':Heap} {tk:Nat} (hlt:i<es2.size) (hs:jF d s.heap h') (T':dR P w lo h' d (r1++r2.take i)) {Q:ForInStep Unit→Shared→Prop} (hQ:∀h'' tk',jF d s.heap h''→dR P w lo h'' d (r1++r2.take (i+1))→Q (.yield ()) {s with heap:=h'',toks:=tk'}):wpAny (model P w) A (body ep2 i b) Q E {s with heap:=h',toks:=tk}:=by
 have hs2:es2.size=xs2.length:=by rw[←yu,e2,gE]
 have hl2:xs2.length=r2.length:=Each.len q2
 obtain⟨K,hb,hk⟩:=B.h4 ep2 i
 obtain⟨x2,hx2⟩:∃x2,xs2[i]? =some x2:=⟨xs2[i]'(by exact Om.DG hs2 hl2 hlt),iD (by exact Om.DG hs2 hl2 hlt)⟩
 obtain⟨Z,hk⟩:=hk es2 _ ((uF (xs:=es2) (i:=i)).symm.trans (by rw[e2,rF,hx2];rfl))
 obtain⟨r,hr2,hrow⟩:=Each.get q2 hx2
 obtain⟨k,a,v⟩:=x2
 obtain rfl:k=r.1:=hrow.e
 have htk:r1++r2.take (i+1)=(r1++r2.take i)++[r]:=by rw[Co,hr2,bD];rfl
 have hnn:r.1∉(r1++r2.take i).map (·.1):=Af (l2:=r2.drop (i+1)) (by rw[List.append_cons,←htk,bD,gB];exact hnd)
 cases b
 rw[hb]
 refine wpAny_bind (wpAny_dictEntries (hs.extBut e _ hde g2) d2 ?_)
 rw[hk]
 refine wpAny_bind (wpAny_holding ?_)
 refine X4 hu T' (hrow.to (az _) (qt g1 d1 hs)) (cJ.keeps (k2 _ (fZ hx2)) g1 d1 hs) hnn ?_ fun h'' tk' hs' T''=>?_
 ·have h1:(r2.take i).length≤r2.length:=by rw[lN];exact Om.Pb hs2 hl2 hlt
  rw[bG] at hz⊢
  exact Om.Pc hz hl2 h1
 ·refine wpAny_bind (wpAny_dictEpoch (hs'.extBut e _ hde (hs.extBut e _ hde g2)) d2 ?_)
  rw[if_neg (by rw[bne_self_eq_false];exact yv)]
  exact wpAny_pure (hQ h'' tk' (hs.trans hs') (htk▸T''))
theorem Yc{E:Value→Shared→Prop}{Q:Unit→Shared→Prop}(hu:A.units+3<cLine)(T1:dR P w lo s.heap d r1)(T2:dR P w lo s.heap e r2)(hde:e≠d)(hm:(e==sysModules)=false)(hnd:((r1++r2).map (·.1)).Nodup)(h0:r1≠[])(hz:(r1++r2).length≤1000)
 (hQ:∀h' tk,jF d s.heap h'→dR P w lo h' d (r1++r2)→Q () {s with heap:=h',toks:=tk}):wpAny (model P w) A (mergeMapping d (.ref e) false) Q E s:=by
 obtain⟨Fn,U,V,W,G,body,B⟩:=X7 d e
 obtain⟨xs1,hd1,⟨o1,es1,ep1,g1,c1,d1,e1,k1,n1⟩,q1⟩:=id T1
 obtain⟨xs2,hd2,⟨o2,es2,ep2,g2,c2,d2,e2,k2,n2⟩,q2⟩:=T2
 have hT:s.TypeIs (.ref e) "dict":=⟨o2,g2,c2.1⟩
 have hs2:es2.size=r2.length:=by rw[←yu,e2,gE];exact Each.len q2
 rw[B.h1]
 refine wpAny_bind (wpAny_isInstance (T:="dict") (b:=true) hT sub_dict_dict (wpAny_bind (wpAny_specialOf hT F.slot_dict_iter.lookup (wpAny_bind (wpAny_pure ?_)))))
 rw[show(some (CU "dict.__iter__")==some (CU "dict.__iter__"))=true from by first|rfl|decide|kernel_rfl,B.h2,hm]
 refine wpAny_bind (wpAny_dictEntries g1 d1 ?_)
 have hne:es1.isEmpty=false:=by
  cases hh:es1.isEmpty with
  |false=>rfl
  |true=>
   rw[Array.isEmpty_iff] at hh
   subst hh
   cases xs1 with
   |nil=>cases q1;exact absurd rfl h0
   |cons _ _=>cases e1
 rw[hne,B.h3]
 refine wpAny_bind (wpAny_dictEntries g2 d2 (wpAny_bind (wpAny_dictEpoch g2 d2 (wpAny_bind (wpAny_forIn_list _ (X8 P w lo d s r1 r2 es2.size) _ ?_ ?_ _ _ ⟨0,s.heap,s.toks,rfl,rfl,ef _,Heap.SameBut.refl _ _,by rw[Km,dW];exact T1⟩)))))
 ·rintro x rest b s' ⟨i,h',tk,hr,rfl,hi,hs,T'⟩
  have hlt:i<es2.size:=Ct fun h=>by rw[nA (by rw[yx];exact h)] at hr;cases hr
  rw[kg (by rw[yx];exact hlt),List.getElem_range] at hr
  obtain⟨rfl,rfl⟩:=rJ hr
  exact Yb B hu hde hnd hz g1 d1 g2 d2 e2 k2 q2 hlt hs T' fun h'' tk' hs' T''=>⟨_,h'',tk',rfl,rfl,hlt,hs',T''⟩
 ·rintro b s' ⟨i,h',tk,hr,rfl,hi,hs,T'⟩
  have hi':es2.size≤i:=lM fun h=>by rw[kg (by rw[yx];exact h)] at hr;cases hr
  rw[fq (hs2▸hi')] at T'
  exact wpAny_pure (hQ h' tk hs T')
inductive wG (P:Program) (w:World) (lo:Nat) (h:Heap) (r1:List bK):Option Addr→Prop
 |no (e:r1=[]):wG P w lo h r1 none
 |yes (d:Addr) (e:r1≠[]) (T:dR P w lo h d r1):wG P w lo h r1 (some d)
noncomputable def wH (run:List (Sem Value×Sem Value)) (main:Option Addr):Sem (Option Addr):=do
 if run.isEmpty then return main
 match main with
 |none=>return some (←subDict run)
 |some d=>
  let sub ←holding [.ref d] (subDict run)
  (holding [.ref d,.ref sub] (mergeMapping d (.ref sub) false)).onRaise fun x=>do let _ ←holding [.ref d,x] (runValue (.builtin "proto.let_go" {}))
  return some d
theorem Hi{E:Value→Shared→Prop}{s0:Shared}{l:List (Expr×Expr)}{main:Option Addr}(hu:A.units+3<cLine)(hsm:∀a,s0.heap.objs.size≤a→(a==sysModules)=false)(k0:Kp s0 s)(M:wG P w s0.heap.objs.size s.heap r1 main)(R:Each gX l r2)(hne:l≠[])(hz:l.length≤100)(hz1:r1.length≤100)(nd:((r1++r2).map (·.1)).Nodup):
 wpAny (model P w) A (wH (eZ env pos l) main) (fun m s'=>∃d,m=some d∧Kp s0 s'∧dR P w s0.heap.objs.size s'.heap d (r1++r2)) E s:=by
 have he:(eZ env pos l).isEmpty=false:=by
  cases l with
  |nil=>exact absurd rfl hne
  |cons _ _=>rfl
 have nd2:(r2.map (·.1)).Nodup:=by rw[cy,pG] at nd;exact nd.2.1
 unfold wH
 rw[he,if_neg yv]
 cases M with
 |no e=>
  subst e
  exact wpAny_bind (Hg hu R nd2 hz fun d s' kp T=>wpAny_pure ⟨d,rfl,k0.trans kp,T.kp k0.z fun qq qq e=>e⟩)
 |yes d e T=>
  refine wpAny_bind (wpAny_holding (Hg hu R nd2 hz fun d2 s' kp T2=>?_))
  have hd2:s.heap.objs.size≤d2:=let⟨_,h,_,_⟩:=T2;h
  have hd:d<s.heap.objs.size:=let⟨_,_,D,_⟩:=T;let⟨_,_,_,h,_⟩:=D;b4 h
  refine wpAny_bind (wpAny_onRaise (wpAny_holding (Yc hu (T.kp (az _) kp.k) (T2.kp k0.z fun qq qq e=>e) (uT (iF hd hd2)) (hsm _ (ah k0.z hd2)) nd e (by have:=Each.len R;rw[bG];exact Om.Pd hz hz1 this) fun h' tk hs T'=>?_)))
  exact wpAny_pure ⟨d,rfl,(k0.trans kp).but (let⟨_,h,_,_⟩:=T;h) hs,T'⟩
noncomputable abbrev mK:Type:=List (Sem Value×Sem Value)
structure Hj (body:Option (Sem Value)×Sem Value→Option Addr×mK→Sem (ForInStep (Option Addr×mK))) (t:Option Addr→Sem Value):Prop where
 b:∀k v m run,body (some k,v) (m,run)=if(run++[(k,v)]).length==17 then(wH (run++[(k,v)]) m>>=fun m'=>pure (.yield (m',[]))) else pure (.yield (m,run++[(k,v)]))
 t:∀d,t (some d)=pure (.ref d)
theorem Yd(items:List (Option (Sem Value)×Sem Value)):∃body t,Hj body t∧dictDisplay items=(forIn items ((none,[]):Option Addr×mK) body>>=fun b=>wH b.2 b.1>>=t):=by
 refine⟨?_,?_,?_,?_⟩
 case refine_4=>unfold dictDisplay;exact rfl
 case refine_3=>exact⟨fun qq qq qq qq=>rfl,fun qq=>rfl⟩
noncomputable abbrev Hl (env:Env) (pos:Pos) (l:List (Expr×Expr)):List (Option (Sem Value)×Sem Value):=(eZ env pos l).map fun p=>(some p.1,p.2)
inductive Ag (P:Program) (w:World) (env:Env) (pos:Pos) (s:Shared) (rows:List bK) (rest:List (Option (Sem Value)×Sem Value)) (b:Option Addr×mK) (s':Shared):Prop
 |mk (l2 l3:List (Expr×Expr)) (r1 r2 r3:List bK) (e2:rest=Hl env pos l3) (e:b.2=eZ env pos l2) (h17:l2.length<17) (e1:rows=(r1++r2)++r3) (R2:Each gX l2 r2) (R3:Each gX l3 r3) (M:wG P w s.heap.objs.size s'.heap r1 b.1) (kp:Kp s s')
theorem Ye{E:Value→Shared→Prop}{rows:List bK}{body:Option (Sem Value)×Sem Value→Option Addr×mK→Sem (ForInStep (Option Addr×mK))}{t:Option Addr→Sem Value}(B:Hj body t)(hu:A.units+3<cLine)(hsm:∀a,s.heap.objs.size≤a→(a==sysModules)=false)(nd:(rows.map (·.1)).Nodup)(hlr:rows.length≤100)
 {x:Option (Sem Value)×Sem Value} {rest:List (Option (Sem Value)×Sem Value)} {b:Option Addr×mK} {s':Shared} (I:Ag P w env pos s rows (x::rest) b s') {Q:ForInStep (Option Addr×mK)→Shared→Prop} (hQ:∀b s',Ag P w env pos s rows rest b s'→Q (.yield b) s'):wpAny (model P w) A (body x b) Q E s':=by
 obtain⟨l2,l3,r1,r2,r3,e2,e,h17,e1,R2,R3,M,kp⟩:=I
 obtain⟨main,run⟩:=b
 obtain rfl:run=_:=e
 cases R3 with
 |nil=>cases e2
 |@cons y r l3 r3 h R3=>
  obtain⟨rfl,rfl⟩:=rJ e2
  have R2':Each gX (l2++[y]) (r2++[r]):=R2.app (.one h)
  have e1':rows=(r1++(r2++[r]))++r3:=e1.trans (by rw[bD,bD,bD];rfl)
  have et:eZ env pos l2++[(eval y.1 env,do let v ←eval y.2 env;standAt pos;pure v)]=eZ env pos (l2++[y]):=(cy (l₁:=l2) (l₂:=[y])).symm
  have hr1:r1.length≤100:=by rw[e1,bD,bG] at hlr;exact ah (bC _ _) hlr
  rw[B.b,et]
  cases hc:(eZ env pos (l2++[y])).length==17 with
  |true=>
   refine wpAny_bind (wpAny_mono (Hi hu hsm kp M R2' (JK _ (Cw _ _)) (by rw[bG];exact Om.Pe h17) hr1 (by
    rw[e1',cy,pG] at nd;exact nd.1)) (fun m s'' ⟨d,em,kp',T⟩=>?_) fun qq qq z=>z)
   subst em
   exact wpAny_pure (hQ _ _ ⟨[],l3,r1++(r2++[r]),[],r3,rfl,rfl,Nat.zero_lt_succ _,(dW _).symm▸e1',.nil,R3,.yes d (JK _ (JK _ (Cw _ _))) T,kp'⟩)
  |false=>
   refine wpAny_pure (hQ _ _ ⟨l2++[y],l3,r1,r2++[r],r3,rfl,rfl,?_,e1',R2',R3,M,kp⟩)
   have hc2:=ne_of_beq_false hc
   rw[gE,bG] at hc2
   rw[bG]
   exact J0 h17 hc2
theorem Yg{E:Value→Shared→Prop}{l:List (Expr×Expr)}{rows:List bK}(hu:A.units+3<cLine)(hsm:∀a,s.heap.objs.size≤a→(a==sysModules)=false)(R:Each gX l rows)(nd:(rows.map (·.1)).Nodup)(hz:l.length≤100)(hne:rows≠[]){Q:Value→Shared→Prop}(hQ:∀d s',Kp s s'→dR P w s.heap.objs.size s'.heap d rows→Q (.ref d) s'):
 wpAny (model P w) A (dictDisplay ((eZ env pos l).map fun p=>(some p.1,p.2))) Q E s:=by
 obtain⟨body,t,B,he⟩:=Yd (Hl env pos l)
 rw[he]
 have hlr:rows.length≤100:=(Each.len R).symm▸hz
 refine wpAny_bind (wpAny_forIn_list _ (Ag P w env pos s rows) _ (fun x rest b s' I=>Ye B hu hsm nd hlr I fun b s' I=>I) (fun b s' I=>?_) _ _ ⟨[],l,[],[],rows,rfl,rfl,Nat.zero_lt_succ _,rfl,.nil,R,.no rfl,Kp.rfl⟩)
 obtain⟨l2,l3,r1,r2,r3,e2,e,h17,e1,R2,R3,M,kp⟩:=I
 obtain⟨main,run⟩:=b
 obtain rfl:run=_:=e
 cases R3 with
 |cons _ _=>cases e2
 |nil=>
  rw[dW] at e1
  cases R2 with
  |nil=>
   rw[dW] at e1
   subst e1
   cases M with
   |no e=>exact absurd e hne
   |yes d e T=>exact wpAny_bind (wpAny_pure ((B.t d).symm▸wpAny_pure (hQ d _ kp T)))
  |@cons x r l2 r2 h R2=>
   have hr1:r1.length≤100:=by rw[e1,bG] at hlr;exact ah (bC _ _) hlr
   refine wpAny_bind (wpAny_mono (Hi hu hsm kp M (.cons h R2) (Cw _ _) (ah (gF h17) (ao rfl)) hr1 (e1▸nd)) (fun m s'' ⟨d,em,kp',T⟩=>?_) fun qq qq z=>z)
   subst em
   rw[←e1] at T
   exact(B.t d).symm▸wpAny_pure (hQ d _ kp' T)
end
end
end Ex
end
section
namespace Ex
noncomputable section
theorem Yh(env:Env)(pos:Pos):∀l:List (Expr×Expr),pairTrees (l.map fun x=>some x.1) (l.map fun x=>x.2) env pos=eZ env pos l:=fun l=>by
 induction l with
 |nil=>rfl
 |cons x l ih=>
  show(eval x.1 env,_)::pairTrees (l.map fun x=>some x.1) (l.map fun x=>x.2) env pos=(eval x.1 env,_)::eZ env pos l
  rw[ih]
theorem RepS.kp{D:Wd}{c:Cx}{ρ:List Addr}{σ:SS}{s s':Shared}(R:RepS D c ρ σ s)(k:Kp s s')(ht:s.toks≤s'.toks):RepS D c ρ σ s':=by
 obtain⟨⟨m,⟨ls,ad,l1,l2,g,gr,F,N⟩,hl⟩,tp,fa⟩:=R
 exact⟨⟨m,⟨ls,ad,l1,l2,g,gr,Fr.after F k.k,fun p hp=>⟨k.k _ _ (N p hp).1,(N p hp).2⟩⟩,hl⟩,tp.to ht k.os k.gens,fa⟩
theorem RepS.Yi{D:Wd}{c:Cx}{ρ:List Addr}{σ:SS}{s s':Shared}(R:RepS D c ρ σ s)(k:Kp s s')(ht:s.toks≤s'.toks){b:Addr}{o:Obj}(hb:s.heap.objs.size≤b)(ho:s'.heap.get? b=some o):RepS D (c.plus [(b,o)]) ρ σ s':=by
 obtain⟨⟨m,⟨ls,ad,l1,l2,g,gr,F,N⟩,hl⟩,tp,fa⟩:=R
 have pm:(flat ls++((b,o)::c.X)).Perm ((b,o)::(flat ls++c.X)):=iH
 refine⟨⟨m,⟨ls,ad,l1,(pm.map aN).nodup_iff.mpr (cM.mpr ⟨fun hq=>?_,l2⟩),g,gr,Fr.after F k.k,fun p hp=>?_⟩,hl⟩,tp.to ht k.os k.gens,fa⟩
 ·obtain⟨p,hp,e⟩:=dh.mp hq
  exact absurd (b4 (N p hp).1) (by rw[e];exact nH.mpr hb)
 ·rcases bV.mp (pm.subset hp) with rfl|hp
  ·refine⟨ho,uT (iF F.ns.lt hb),?_⟩
   cases e:g.get? b with
   |none=>rfl
   |some o'=>exact absurd (b4 (F.keep _ _ e)) (nH.mpr hb)
  ·exact⟨k.k _ _ (N p hp).1,(N p hp).2⟩
inductive kR (D:Wd) (c:Cx) (ρ:List Addr) (σ:SS) (rows:List bK) (v:Value) (s:Shared):Prop
 |mk (d lo:Addr) (e:v=.ref d) (T:dR D.prog D.w lo s.heap d rows) (m:(d==sysModules)=false) (R:RepS D c ρ σ s) (B:∀b o,lo≤b→s.heap.get? b=some o→RepS D (c.plus [(b,o)]) ρ σ s)
section
variable{G:Gx}{c:Cx}{ρ:List Addr}{σ:SS}{s:Shared}
theorem At.mods(a:At G c ρ σ s){b:Addr}(h:s.heap.objs.size≤b):(b==sysModules)=false:=by
 obtain⟨m,⟨ls,ad,l1,l2,g,gr,F,N⟩,hl⟩:=a.R
 refine zN gr (d:=b) ?_
 cases e:g.get? b with
 |none=>rfl
 |some o=>exact absurd (b4 (F.keep _ _ e)) (nH.mpr h)
theorem At.table(a:At G c ρ σ s){ks:List (Option Expr)}{vs:List Expr}{pos:Pos}{l:List (Expr×Expr)}{rows:List bK}(hks:ks=l.map fun x=>some x.1)(hvs:vs=l.map fun x=>x.2)(R:Each gX l rows)(nd:(rows.map (·.1)).Nodup)(hz:l.length≤100)(hne:rows≠[]){E:Value→Shared→Prop}:
 wpAny G.D.M c.A (eval (.Dict ks vs pos) c.env) (kR G.D c ρ σ rows) E s:=by
 have hu:c.A.units+3<cLine:=by have:=a.ok.hu;exact Om.Pf this
 rw[arm_eval_Dict,zip_pairTrees ks vs c.env pos (by rw[hks];simp) (by rw[hks,hvs];simp),hks,hvs,Yh]
 refine wpAny_bind (wpAny_standAt (wpAny_with_toks (n:=s.toks) (az _) (wpAny_mono (Q:=fun v s'=>s.toks≤s'.toks→kR G.D c ρ σ rows v s') (E:=E) (Yg hu (fun b h=>a.mods h) R nd hz hne fun d s' kp T ht=>⟨d,_,rfl,T,a.mods (let⟨_,h,_,_⟩:=T;h),a.toRepS.kp kp ht,fun b o hb ho=>a.toRepS.Yi kp ht hb ho⟩) (fun qq qq z=>z) fun qq qq z qq=>z)))
theorem At.Yj(a:At G c ρ σ s){f:Addr}{i:aJ}{n:Nat}{p:Pos}{ks:List (Option Expr)}{vs:List Expr}{pos:Pos}{l:List (Expr×Expr)}{rows:List bK}(hi:aQ f G.T.fns=some i)(hn:G.n=n+1)(hps:i.ps=[])(hbody:i.body=[.Return (some (.Dict ks vs pos)) p])
 (hks:ks=l.map fun x=>some x.1) (hvs:vs=l.map fun x=>x.2) (R:Each gX l rows) (nd:(rows.map (·.1)).Nodup) (hz:l.length≤100) (hne:rows≠[]) {Q:Value→Shared→Prop} {E:Value→Shared→Prop}
 (hQ:∀v s',kR G.D c ρ σ rows v s'→Q v s'):wpAny G.D.M c.A (iJ (.ref f) [] []) Q E s:=by
 have F:=a.tk.fns _ (eg hi)
 obtain⟨oc,od,osl,ho⟩:=F.at_
 obtain⟨m,⟨ls,ad,hL,hnd,g0,gr0,Fr0,N⟩,hloc⟩:=a.R
 have X:=gr0.X
 have hok:=a.ok
 have hbind:=F.bind s [] (X.keeps Fr0.keep) (by rw[hps];exact ef _) (ef _)
 have hb0:i.bind []=[]:=by unfold aJ.bind;rw[hps];rfl
 rw[hb0] at hbind
 have hfr:=hok.hA (by rw[hn];exact ki _)
 obtain⟨FG,BG,st,lv⟩:=groundX (R:=fun qq qq=>True) gr0.B Fr0 N hfr.1 hfr.2 hok.hk.kind
 refine wpAny_call (codeAny_mono (R:=fun r s'=>∃v,r=.ok (.ret v)∧kR G.D c ρ σ rows v s') (codeAny_call_def (fd:=i.fd) (body:=i.body) (binds:=[]) (by have:=hok.hd;exact Om.rR hn this) ((X.keeps Fr0.keep) _ _ ho) rfl (gr0.T.nolimit.keeps Fr0.keep) (codeRec_of (X.keeps Fr0.keep) F.code) rfl hbind F.cell (fun y hy=>Om.nm hy) (fun h₁ hns hk₁=>?_) F.co F.gen F.kind) fun r s' ⟨d,e,R⟩=>by subst e;exact hQ d s' R)
 let g:=hideAll s.heap ((flat ls++c.X).map (·.1))
 let L':=s.heap.objs.size
 let c':Cx:=⟨c.A.deeper (envOf i.qual i.scope L' f i.cdv),c.A,c.base,g,c.env::c.outer,envOf i.qual i.scope L' f i.cdv,i.scope,L',c.X,c.R⟩
 have ok':Ok G.D c' n:=⟨hok.XB,hok.TB,fun qq=>⟨yl hfr.1,rfl⟩,⟨F.kind,rfl,rfl,rfl,rfl⟩,hok.hh,by
  have:=hok.hd
  show c.A.depth+1+n<_
  exact Om.gH hn this,by
  have:=hok.hu
  show c.A.units+3+8*n+40<_
  exact Om.rS hn this⟩
 have gr':Gr G.D c' g:=⟨BG,X.keeps st,gr0.T.keeps st,sC gr0.D hfr.2 FG st,uV⟩
 have Fl:Fr g L' h₁ (fun y=>([]:List (Str×Value)).reverse.lookup y):=⟨hns,fun b o e=>hk₁ b o (of_hideAll _ e),aA (hideAll_size _ _)⟩
 have N':News g L' h₁ (flat ls++c.X):=fun p hp=>⟨hk₁ _ _ (N p hp).1,cU (b4 (N p hp).1),hideAll_none _ (rz hp)⟩
 have a':At (G.in n i) c' ρ ⟨[],σ.objs,σ.fa⟩ {s with heap:=h₁,toks:=s.toks+0}:=⟨⟨⟨_,⟨ls,ad,hL,hnd,g,gr',Fl,N'⟩,fun x y e=>(by cases e)⟩,a.tp.to (bC _ _),a.fa⟩,rfl,ok',a.tk,a.rx,fun x hx=>Om.nm hx,fun qq=>⟨rfl,fun qq=>⟨_,_,_,_,rfl⟩⟩⟩
 rw[hbody]
 refine wpAny_execs_cons (wpAny_Return_some (wpAny_mono (a'.table hks hvs R nd hz hne (E:=fun qq qq=>False)) (fun v s' z=>?_) fun e s' z=>z.elim))
 obtain⟨d,lo,rfl,T,hm,R,B⟩:=z
 have out:∀l:List (Addr×Obj),RepS G.D (c'.plus l) ρ ⟨[],σ.objs,σ.fa⟩ s'→RepS G.D (c.plus l) ρ σ s':=fun l R=>by
  obtain⟨⟨m',⟨ls',ad',hL',hnd',g1,gr1,F',N''⟩,_⟩,htp,hfa⟩:=R
  obtain⟨h₀',T1,F2,N2,B2⟩:=turn_leave gr0.B hfr.2 FG st gr1.t F' N''
  exact⟨⟨m,⟨ls',ad',hL',hnd',h₀',⟨B2,hok.XB.keeps B2.stays,hok.TB.keeps B2.stays,uD gr0.D T1,gr0.t.trans T1⟩,F2,N2⟩,hloc⟩,htp,hfa⟩
 exact⟨_,rfl,⟨d,lo,rfl,T,hm,out [] R,fun b o hb ho=>out _ (B b o hb ho)⟩⟩
end
end
end Ex
end
section
namespace Ex
noncomputable section
noncomputable def tg (o:SO):Option {st:eN//o=.blob (.strm st)}:=match o with
 |.blob b=>match b with
  |.strm st=>some ⟨st,rfl⟩
  |.other _=>af
 |_=>af
noncomputable def wI (σ:SS) (i:Nat) (st:eN):SS:=⟨σ.loc,OL.s σ.objs i (.blob (.strm st)),σ.fa⟩
theorem tn{ch tx:Str}{off pl pc place en:Nat}{bf:Option Nat}:((aW ch tx off pl pc place en bf).take 5).all (kJ 5)=true:=by cases bf<;>rfl
theorem kT(W:Wd):vo (WS W) Tb.T:=fun b a l ⟨osi,lsi,L,e,h0,m⟩=>by
 cases b with
 |other=>exact m.elim
 |strm st=>
  obtain⟨ch,tx,off,pl,pc,place,en,bf,rfl,I⟩:=m
  subst e
  cases L using Each.ec with
  |@cons q ls r rs=>
   cases h0
   refine⟨_,_,q.2,flat ls,rfl,OR.wd (W:=WS W) (X:=[]) r,fun ci hci x hx=>?_⟩
   have e:aQ (Tb.T.lW (.strm st)) Tb.T.cls=some Tb.Aa:=by kernel_rfl
   rw[e] at hci
   cases hci
   have:(Tb.Aa.fM.all fun x=>(lk x.1 [(aa "reportCharacterErrors",SV.obj 1),(aa "newLines",.obj 2),(aa "dataStream",.obj 3),(aa "chunk",.ss ch),(aa "chunkSize",.si ch.length),(aa "chunkOffset",.si off),(aa "errors",.obj 4),(aa "prevNumLines",.si pl),(aa "prevNumCols",.si pc),(aa "_bufferedCharacter",mz bf)]).isNone)=true:=by kernel_rfl
   have:=bH.mp this x hx
   exact Option.isNone_iff_eq_none.mp this
theorem Ah{W:Wd}{cs:bW}{n:Nat}{cons:List (Addr×Nat×bx)}(h:∀x∈cons,cH (WS W) x):bE (gx (WS W) cs n cons):=⟨fun x hx G' hD hT hn xs σ K z=>h x hx G' hD hT hn xs σ K z,kT W,fun x hx=>Om.nm hx,fun x hx=>Om.nm hx,fun qq qq qq h=>h⟩
theorem tu{W:Wd}{m n:Nat}{cs:bW}{KX:Value→List Addr→SS→Prop}{con:List (Addr×Nat×bx)}{sc:List (Nat×Stmt×lZ)}{ec:List (Nat×Expr×mh)}{cv:List (Str×Nat)}{fr:Bool}{cons:List (Addr×Nat×bx)}{f:Addr}{xs:List SV}{loc:List (Str×SV)}{os:List SO}{fa:List Fact}{K:SV→SS→Prop}
 (hn:n≤m) (g:∀x∈cons,cH (WS W) x) (h:gW (WS W) cs n cons f xs loc os fa K):au (⟨WS W,Tb.T,m,cs,KX,con,sc,ec,cv,fr⟩:Gx) (.ref f) xs ⟨loc,.b os,fa⟩ K:=XW (n:=n) (cons:=cons) hn (Ah g) h
theorem au.conv{G:Gx}{f:Value}{xs xs':List SV}{σ:SS}{K:SV→SS→Prop}(hc:∀ρ vs,aG G.D ρ xs vs→aG G.D ρ xs' vs)(h:au G f xs' σ K):au G f xs σ K:=fun c ρ s vs a r=>h c ρ s vs a (hc ρ vs r)
theorem Ai{W:Wd}{G:Gx}(hD:G.D=WS W)(hT:G.T=Tb.T){σ:SS}{K:SV→SS→Prop}{f:Addr}{i n:Nat}{st:eN}{ys:List SV}(hn:n≤G.n)(ho:σ.objs.list[i]? =some (.blob (.strm st)))(hys:ys.all bZ=true)
 (h:∀loc ch tx off pl pc place en bf,cQ (st.d.map (·.ev W.η)) (st.r.ev W.η) (st.un.map (·.ev W.η)) ch tx off pl pc place en bf→∃cons ys',(∀x∈cons,cH (WS W) x)∧(∀ρ vs,aG (WS W) ρ ys vs→aG (WS W) ρ ys' vs)∧gW (WS W) G.cs n cons f (.obj 0::ys') loc (aW ch tx off pl pc place en bf) σ.fa (sD (jS W.η) G σ i K loc)):au G (.ref f) (.obj i::ys) σ K:=by
 obtain⟨D,T,m,cs,KX,con,sc,ec,cv,fr⟩:=G
 obtain rfl:D=WS W:=hD
 obtain rfl:T=Tb.T:=hT
 refine E3 (MM:=jS W.η) (s9 W) ho hys fun loc osi ⟨ch,tx,off,pl,pc,place,en,bf,e,I⟩=>?_
 subst e
 obtain⟨cons,ys',hc,hv,hr⟩:=h loc ch tx off pl pc place en bf I
 exact au.conv (xs':=.obj 0::ys') (fun ρ vs r=>by cases r using Each.ec with|cons r rs=>exact .cons r (hv _ _ rs)) (tu (n:=n) (cons:=cons) hn hc hr)
noncomputable def Yk (d h:Tm):Option {z:Tm//∀η,d.ev η=z.ev η++h.ev η}:=fz ((aO (cz d h)).map fun q=>⟨lit [],fun η=>by rw[dO q.1];rfl⟩) (match d with
 |.n k _ a b=>match k with
  |5=>(aO (cz b h)).map fun q=>⟨a,fun η=>by rw[←dO q.1];rfl⟩
  |_=>af
 |.e=>af)
noncomputable abbrev Ho (h:Tm) (d z:Option Tm):Prop:=∀η g,z.map (·.ev η)=some g→d.map (·.ev η)=some (g++h.ev η)
noncomputable def Yl (d:Option Tm) (h:Tm):Option {z:Option Tm//Ho h d z}:=match d with
 |Option.none=>some ⟨af,fun η g e=>(by cases e)⟩
 |some d=>(Yk d h).map fun z=>⟨some z.1,fun η g e=>by cases e;exact congrArg some (z.2 η)⟩
inductive Ym (xs:List SV) (σ σ':SS):Prop
 |no (i:Nat) (st:eN) (c:SV) (e:xs=[.obj i,c]) (hc:c=.none) (ho:σ.objs.list[i]? =some (.blob (.strm st))) (r:σ'=wI σ i st)
 |un (i:Nat) (st:eN) (c:SV) (h:Tm) (d:Option Tm) (e:xs=[.obj i,c]) (hf:bZ c=true) (hc:IsT c h) (ho:σ.objs.list[i]? =some (.blob (.strm st))) (hu:st.un=some h) (hd:Ho h st.d d) (r:σ'=wI σ i ⟨d,cat h st.r,af⟩)
noncomputable def Aj (xs:List SV) (σ:SS):Option {σ':SS//Ym xs σ σ'}:=match xs with
 |[x,c]=>ak (dB x) fun i=>ak (fQ σ.objs i.1) fun o=>ak (tg o.1) fun st=>fz ((sZ c).map fun hc=>⟨wI σ i.1 st.1,.no i.1 st.1 c (congrArg (fun x=>[x,c]) i.2) hc.1 (st.2▸o.2) rfl⟩)
  (ak (aO (bZ c)) fun hf=>ak (cZ c) fun h=>ak (Yn st.1 h.1) fun hu=>(Yl st.1.d h.1).map fun d=>⟨wI σ i.1 ⟨d.1,cat h.1 st.1.r,af⟩,.un i.1 st.1 c h.1 d.1 (congrArg (fun x=>[x,c]) i.2) hf.1 h.2 (st.2▸o.2) hu.1 d.2 rfl⟩)
 |_=>af
where Yn (st:eN) (h:Tm):Option (PLift (st.un=some h)):=match e:st.un with
 |some u=>(aO (cz u h)).map fun q=>⟨by rw[dO q.1]⟩
 |Option.none=>af
noncomputable def Ak:bx:=fun xs σ K=>@aU _ (fun qq=>Tr) .ff (fun z=>K .none z.1) (Aj xs σ)
theorem Hp(W:Wd):cH (WS W) (163,1,Ak):=fun G hD hT hn xs σ K h=>by
 have h':(@aU _ (fun qq=>Tr) .ff (fun z=>K .none z.1) (Aj xs σ)).h:=h
 cases q:Aj xs σ with
 |none=>rw[q] at h';exact h'.elim
 |some z=>
  rw[q] at h'
  obtain⟨σ',hz⟩:=z
  have hk:(K .none σ').h:=h'
  clear h' q
  cases hz with
  |no i st c e hc ho r=>
   subst e hc r
   refine Ai (n:=1) hD hT hn ho rfl fun loc ch tx off pl pc place en bf I=>⟨[],_,(fun x hx=>Om.nm hx),fun qq qq r=>r,?_⟩
   rw[XX]
   exact⟨.mk (.strm st) 5 .none rfl ⟨ch,tx,off,pl,pc,place,en,bf,rfl,I⟩ tn (by decide) (fun qq qq qq qq q=>q) fun qq=>hk,trivial⟩
  |un i st c t d e hf hc ho hu hd r=>
   subst e r
   refine Ai (n:=1) hD hT hn ho (by rw[nD,hf];rfl) fun loc ch tx off pl pc place en bf I=>?_
   obtain⟨hoff,hr,hdd,hp,hz,hch,hen,d7,hun,hno⟩:=I
   obtain⟨x,a0,e1,e2⟩:=hun (t.ev W.η) (by rw[hu];rfl)
   refine⟨[],[.ss ⟨#[x]⟩],(fun x hx=>Om.nm hx),fun ρ vs r=>?_,?_⟩
   ·cases r using Each.ec with
    |cons r rs=>
     obtain⟨u,rfl⟩:=hc r
     refine .cons ⟨u,?_⟩ rs
     rw[show(WS W).η=W.η from rfl,e1];rfl
   ·have hlen:(ch.cps.toList.take off).length=off:=by rw[lN];exact gD (St.len_list ch▸hoff)
    have ho1:off=a0.length+1:=by rw[←hlen,e2,bG];rfl
    have hget:ch.cps.toList[a0.length]? =some x:=by
     have:(ch.cps.toList.take off)[a0.length]? =some x:=by rw[e2,fj (az _),nE];rfl
     rwa[ya (by exact Om.Mq hlen ho1)] at this
    have hit:=St.sQ ch a0.length hget
    obtain⟨hlt,hgx⟩:=dg.mp hget
    have hl:=St.len_list ch
    have eo:((off:Int)-1)=(a0.length:Int):=by exact Om.Mr hlen ho1 hlt
    have ha:ch.cps.toList.take a0.length=a0:=by
     have:(ch.cps.toList.take off).take a0.length=a0:=by rw[e2,rI]
     rw[Kn,gD (by exact Om.Ms hlen ho1 hlt)] at this;exact this
    rw[vU,eo,hit]
    refine⟨fun e=>absurd (of_decide_eq_true e) (by exact Om.Mu hlen ho1 hlt),fun qq=>⟨⟨by exact Om.Mv hch hlt hl,by exact Om.Mw hoff hlen ho1 hlt hl,by rw[sizeLine_eq];exact Om.Mx hch hlt hl⟩,fun qq=>⟨.mk (.strm ⟨d,cat t st.r,af⟩) 5 .none rfl ⟨ch,tx,a0.length,pl,pc,place,en,bf,rfl,by exact Om.My hoff hlen ho1 hlt hl,?_,fun g hg=>?_,hp,hz,hch,hen,d7,fun l e=>Om.ns e,hno⟩ (tn (off:=a0.length)) (by decide) (fun qq qq qq qq q=>q) fun qq=>hk,trivial⟩,fun e=>?_⟩⟩
    ·show t.ev W.η++st.r.ev W.η=_
     rw[e1,hr,ho1,kg hlt,hgx];rfl
    ·obtain⟨D,h1,h2⟩:=hdd _ (hd W.η g hg)
     rw[e1,e2,←bD] at h1
     exact⟨D,by rw[ha];exact(List.append_inj' h1 rfl).1,h2⟩
    ·rw[show seq (⟨#[x]⟩:Str) ⟨#[x]⟩=true from bS.mpr rfl] at e
     cases e
end
end Ex
end
section
namespace Ex
noncomputable section
noncomputable abbrev fk (c:Bool) (A B:Prop):Prop:=(c=true→A)∧(c=false→B)
section
variable(D:Wd)(cs:bW)(K:SV→SS→Prop)(loc:List (Str×SV))(fa:List Fact)
noncomputable abbrev lf (x:SV) (os:List SO):Prop:=K x ⟨loc,.b os,fa⟩∧True
noncomputable abbrev rg (a i b:Int) (B:Prop):Prop:=fk (decide (a≤i)) (fk (decide (i≤b)) (lf K loc fa (.sb (decide (i≤b))) []) B) (fk (decide (a≤i)) (lf K loc fa (.sb (decide (a≤i))) []) B)
theorem vI(i:Int):gW D cs 1 [] 84 [.si i] loc [] fa K=rg K loc fa 1 i 8 (fk (decide (i=11)) (lf K loc fa (.sb (decide (i=11))) []) (rg K loc fa 14 i 31 (rg K loc fa 127 i 159 (rg K loc fa 64976 i 65007 (fk (jJ (Int.fmod i 65536) [65534,65535]) (lf K loc fa (.sb (jJ (Int.fmod i 65536) [65534,65535])) [.tup [.int 65534,.int 65535]]) (fk (decide (55296≤i)) (lf K loc fa (.sb (decide (i≤57343))) [.tup [.int 65534,.int 65535]]) (lf K loc fa (.sb (decide (55296≤i))) [.tup [.int 65534,.int 65535]]))))))):=by kernel_rfl
variable{K loc fa} in
theorem wJ{a i b:Int}{B:Prop}(k:∀b os,lf K loc fa (.sb b) os)(h:B):rg K loc fa a i b B:=⟨fun qq=>⟨fun qq=>k _ _,fun qq=>h⟩,fun qq=>⟨fun qq=>k _ _,fun qq=>h⟩⟩
end
noncomputable def tB:bx:=fun xs σ K=>match xs with
 |[x]=>@aU _ (fun qq=>Tr) .ff (fun qq=>.pr (∀b,(K (.sb b) σ).h) .tt) (bA x)
 |_=>.ff
set_option tactic.hygienic true in
theorem Yo(W:Wd):cH (WS W) (84,1,tB):=fun G hD hT hn xs σ K h=>by
 obtain⟨D,T,m,cs,KX,con,sc,ec,cv,fr⟩:=G
 obtain rfl:D=WS W:=hD
 obtain rfl:T=Tb.T:=hT
 have h':(tB xs σ K).h:=h
 unfold tB at h'
 split at h'
 ·rename_i x
  cases q:bA x with
  |none=>rw[q] at h';exact h'.elim
  |some z=>
   rw[q] at h'
   have hk:∀b,(K (.sb b) σ).h:=h'.1
   refine au.conv (xs':=[.si z.1]) (fun ρ vs r=>by
    cases r using Each.ec with
    |cons r rs=>obtain⟨t,rfl⟩:=z.2 r;exact .cons ⟨t,rfl⟩ rs) (zG rfl fun loc=>tu (n:=1) (cons:=[]) hn (fun x hx=>Om.nm hx) ?_)
   let P:SV→SS→Prop:=fun x σ'=>σ'.loc=loc∧bZ x=true∧((∀f∈σ'.fa,f.ok (WS W).η)→hh K x ⟨σ.loc,σ.objs,σ'.fa⟩)
   show gW (WS W) cs 1 [] 84 [.si z.1] loc [] σ.fa P
   rw[vI]
   have k:∀b os,lf P loc σ.fa (.sb b) os:=fun b os=>⟨⟨rfl,rfl,fun qq=>hk b⟩,trivial⟩
   exact wJ k ⟨fun qq=>k _ _,fun qq=>wJ k (wJ k (wJ k ⟨fun qq=>k _ _,fun qq=>⟨fun qq=>k _ _,fun qq=>k _ _⟩⟩))⟩
 ·exact h'.elim
end
end Ex
end
section
namespace Ex
noncomputable section
inductive tC:String→Prop
 |a:tC "str_ascii_iterator"
 |w:tC "str_iterator"
inductive Al (x:Str) (I:Addr) (i:Nat) (l rr:List (Addr×Obj)):Prop
 |mk (o:Obj) (ty:String) (t:Tok) (e:l=[(I,o)]) (e':rr=[]) (hty:tC ty) (c:o.cls=.type ty) (d:o.data=.fields #[.str x t,.int i 0])
noncomputable def Yp (c:Nat):SV:=.ss ⟨#[c]⟩
section
variable{prog:Program}{w:World}{A:Around}{E:Value→Shared→Prop}{s:Shared}{x:Str}{t:Tok}{I:Addr}{i:Nat}{ty:String}{Q:Option Value→Shared→Prop}
theorem next_item{c:Nat}(hty:tC ty)(hit:s.heap.IsStrIter I ty x t i)(hc:x.cps[i]? =some c)(hQ:∀h',h'.IsStrIter I ty x t (i+1)→jF I s.heap h'→Q (some (.str ⟨#[c]⟩ s.toks)) {s with heap:=h',toks:=s.toks+1}):wpAny (model prog w) A (pyNext (.ref I)) Q E s:=by
 cases hty with
 |a=>exact wpAny_pyNext_ascii_item hit hc hQ
 |w=>exact wpAny_pyNext_wide_item hit hc hQ
theorem next_end(hty:tC ty)(hh:A.handled=none)(hit:s.heap.IsStrIter I ty x t i)(hc:x.cps[i]? =none)(hQ:∀h',C4 I s.heap h'→Q none {s with heap:=h'}):wpAny (model prog w) A (pyNext (.ref I)) Q E s:=by
 cases hty with
 |a=>exact wpAny_pyNext_ascii_end hh hit hc hQ
 |w=>exact wpAny_pyNext_wide_end hh hit hc hQ
end
noncomputable def qu (x:Str):Src where
 it:=fun qq i=>some ((x.cps[i]?).map Yp)
 bk:=some
 ob _ I _ i l rr:=Al x I i l rr
 mono:=fun h qq=>h
 next:=fun{G c ρ σ s I i l rr r Q E} hR a ⟨o,ty,t,e,e',hty,hc,hd⟩ hit hQ=>by
  subst e e'
  obtain rfl:=jB hit
  have hI:s.heap.IsStrIter I ty x t i:=⟨o,a.heap (p:=(I,o)) (.head _),hc,hd⟩
  cases e:x.cps[i]? with
  |none=>
   rw[e] at hQ
   exact next_end hty a.ok.hh hI e fun h' he'=>hQ _ fun σ' q=>by cases q;exact a.drop (own:=[]) (fun b o hb e=>he' b o hb e) (az _)
  |some z=>
   rw[e] at hQ
   refine next_item hty hI e fun h' hit' hs'=>?_
   obtain⟨o',ho',c',d'⟩:=id hit'
   exact hQ _ [(I,o')] _ (a.turn (own:=[]) hR ho' (fun b o hb e=>hs'.extBut b o hb e) (cV _)) ⟨_,rfl⟩ ⟨o',ty,t,rfl,rfl,hty,c',d'⟩
 go:=fun{G c ρ σ s I i l rr v tgt Q E} a ⟨o,ty,t,e,e',hty,hc,hd⟩ hQ=>by
  subst e e'
  cases hty with
  |a=>exact letGo (a.heap (p:=(I,o)) (.head _)) hc (by decide) hQ
  |w=>exact letGo (a.heap (p:=(I,o)) (.head _)) hc (by decide) hQ
 self:=fun{G c ρ σ s I i l rr Q E} a ⟨o,ty,t,e,e',hty,hc,hd⟩ hQ=>by
  subst e e'
  have hI:s.heap.IsStrIter I ty x t i:=⟨o,a.heap (p:=(I,o)) (.head _),hc,hd⟩
  cases hty with
  |a=>exact wpAny_pyIter_striter_ascii hI hQ
  |w=>exact wpAny_pyIter_striter_wide hI hQ
 back:=fun{G c ρ σ s I i l rr σ'} hR a ⟨o,ty,t,e,e',hty,hc,hd⟩ hb=>by
  subst e e'
  cases hb
  exact At.same (own:=[]) a
theorem Am{G:Gx}{σ:SS}{e:Expr}{R:Src→SS→Prop}(h:aq G e σ fun y σ₁=>∃x,bI y x∧R (qu x) σ₁):kL G e σ R:=fun c ρ s a=>
 aK.go (w:=()) h a (pr _) trivial fun ρ₁ σ₁ y v s₁ p _ a₁ r ⟨x,hx,k⟩=>by
  obtain⟨t,rfl⟩:=hx r
  cases ha:x.cps.all (· <128)
  ·exact wpAny_pyIter_wide ha ⟨_,[(_,_)],[],qu x,ρ₁,σ₁,rfl,p,a₁.owned _ rfl,Al.mk _ _ t rfl rfl .w rfl rfl,k⟩
  ·exact wpAny_pyIter_ascii ha ⟨_,[(_,_)],[],qu x,ρ₁,σ₁,rfl,p,a₁.owned _ rfl,Al.mk _ _ t rfl rfl .a rfl rfl,k⟩
end
end Ex
end
section
namespace Ex
noncomputable section
noncomputable abbrev aD (D:Wd) (σ σ':SS):Prop:=∀c ρ s,RepS D c ρ σ s→RepS D c ρ σ' s
theorem aD.of{D:Wd}{σ σ':SS}(hl:∀x y,lk x σ'.loc=some y→lk x σ.loc=some y)(ho:σ'.objs.list=σ.objs.list)(hf:σ'.fa=σ.fa):aD D σ σ':=fun c ρ s R=>⟨let⟨m,l,r⟩:=R.R;⟨m,ho▸l,fun x y e=>r x y (hl x y e)⟩,R.tp,hf▸R.fa⟩
theorem au.ent{G:Gx}{f:Value}{xs:List SV}{σ:SS}{K:SV→SS→Prop}(h:au G f xs σ fun x σ'=>∃σ'',aD G.D σ' σ''∧K x σ''):au G f xs σ K:=fun c ρ s vs a r=>
 jO (h c ρ s vs a r) (fun v s' ⟨ρ',σ',x,p,R,q,σ'',l,z⟩=>⟨ρ',σ'',x,p,l _ _ _ R,q,z⟩) fun qq qq z=>z
theorem au.pre{G:Gx}{f:Value}{xs:List SV}{σ σ':SS}{K:SV→SS→Prop}(l:aD G.D σ σ')(h:au G f xs σ' K):au G f xs σ K:=fun c ρ s vs a r=>h c ρ s vs (a.to (pr _) (l _ _ _ a.toRepS)) r
theorem aK.ent{α β ω:Type}{G:Gx}{V:List Addr→α→β→Prop}{R:List Addr→ω→Prop}{t:Cx→ω→Sem β}{σ:SS}{K K':α→SS→Prop}(h:aK G V R t σ K)(k:∀x σ',K x σ'→∃σ'',aD G.D σ' σ''∧K' x σ''):aK G V R t σ K':=fun c ρ s w a r=>
 wpAny_mono (h c ρ s w a r) (fun v s' ⟨ρ',σ',x,p,R,r,z⟩=>let⟨σ'',l,z⟩:=k _ _ z;⟨ρ',σ'',x,p,l _ _ _ R,r,z⟩) fun qq qq z=>z
theorem aD.fK{D:Wd}{σ:SS}{i en n:Nat}{ys:List SV}(ho:σ.objs.list[i]? =some (.list (some (.fK en)) ys))(h:ys.length≤n):aD D σ ⟨σ.loc,OL.s σ.objs i (.list (some (.fK (en+n))) []),σ.fa⟩:=fun c ρ s R=>by
 obtain⟨⟨m,⟨ls,ad,l1,l2,g,gr,F,N⟩,hl⟩,tp,fa⟩:=R
 obtain⟨A,⟨y1,y2⟩,B,hA,rfl,r,st⟩:=Each.at l1 ho
 obtain⟨us,vs,k,e,q,f⟩:=r
 refine⟨⟨m,⟨A++(y1,y2)::B,ad,st _ (y1,y2) (lV.mk (us++vs) [] k (by rw[dW];exact e) ?_ .nil),l2,g,gr,F,N⟩,hl⟩,tp,fa⟩
 have q':us.length≤en:=q
 show(us++vs).length≤en+n
 rw[bG,←f.len]
 exact dm q' h
noncomputable abbrev gi (D:Wd) (cs:bW) (n:Nat) (cons:List (Addr×Nat×bx)):Gx:=⟨D,Tb.T,n,cs,fun qq qq qq=>False,cons,[],[],[],true⟩
noncomputable abbrev kU (D:Wd) (cs:bW) (n:Nat) (cons:List (Addr×Nat×bx)) (b:List Stmt) (loc:List (Str×SV)) (os:List SO) (fa:List Fact) (K:Fl→SS→Prop):Prop:=(cY (ex 60 (gi D cs n cons)) b ⟨loc,.b os,fa⟩ fun x σ'=>.pr (K x (fC σ')) .tt).t.h
theorem An{W:Wd}{cs:bW}{n:Nat}{cons:List (Addr×Nat×bx)}{b:List Stmt}{loc:List (Str×SV)}{os:List SO}{fa:List Fact}{K:Fl→SS→Prop}(g:∀x∈cons,cH (WS W) x)(h:kU (WS W) cs n cons b loc os fa K):bz (gi (WS W) cs n cons) b ⟨loc,.b os,fa⟩ K:=
 aK.ent ((cY (ex 60 (gi (WS W) cs n cons)) b ⟨loc,.b os,fa⟩ fun x σ'=>.pr (K x (fC σ')) .tt).ok h ⟨fun x hx G' hD hT hn xs σ K z=>g x hx G' hD hT hn xs σ K z,kT W,fun x hx=>Om.nm hx,fun x hx=>Om.nm hx,fun qq qq qq h=>h⟩) fun x σ' z=>⟨fC σ',fun qq qq qq R=>R.nf,z.1⟩
noncomputable abbrev tD (l:List Stmt):List Stmt:=rU (l.headD (.Pass ⟨0,0,0,0⟩)) 0
theorem Yq:Tb.qm.body=[.For (.Name (aa "c") ⟨102,12,102,13⟩) (.Name (aa "data") ⟨102,17,102,21⟩) (tD Tb.qm.body) [] ⟨102,8,104,55⟩]:=by kernel_rfl
noncomputable abbrev stH (a1 a2 a3 a4 a5 a6 a8 a9 a10:SV) (o1 o2 o3:SO) (en:Nat) (ys:List SV) (X:List SO):List SO:=.inst 166 [(aa "reportCharacterErrors",a1),(aa "newLines",a2),(aa "dataStream",a3),(aa "chunk",a4),(aa "chunkSize",a5),(aa "chunkOffset",a6),(aa "errors",.obj 4),(aa "prevNumLines",a8),(aa "prevNumCols",a9),(aa "_bufferedCharacter",a10)]::o1::o2::o3::.list (some (.fK en)) ys::X
theorem vE(D:Wd)(K:Fl→SS→Prop)(c a:Str)(a1 a2 a3 a4 a5 a6 a8 a9 a10:SV)(o1 o2 o3:SO)(en:Nat)(ys:List SV)(X:List SO)(fa:List Fact):
 kU D Tb.qm.scope 1 [(84,1,tB)] (tD Tb.qm.body) [(aa "c",.ss c),(aa "self",.obj 0),(aa "data",.ss a)] (stH a1 a2 a3 a4 a5 a6 a8 a9 a10 o1 o2 o3 en ys X) fa K=
 (c.length=1∧(∀b,fk b ((∀us,vf (.fK en) us→us.length+ys.length≤16777216)∧K .next ⟨[(aa "c",.ss c),(aa "self",.obj 0),(aa "data",.ss a)],.b (stH a1 a2 a3 a4 a5 a6 a8 a9 a10 o1 o2 o3 en (ys++[.str (aa "invalid-codepoint")]) X),fa⟩∧True)
   (K .next ⟨[(aa "c",.ss c),(aa "self",.obj 0),(aa "data",.ss a)],.b (stH a1 a2 a3 a4 a5 a6 a8 a9 a10 o1 o2 o3 en ys X),fa⟩∧True))∧True):=by kernel_rfl
noncomputable def oF (en:Nat):bx:=fun xs σ K=>match xs with
 |[o,x]=>@aU _ (fun qq=>Tr) .ff (fun a=>.pr (o=.obj 0∧en+a.1.length≤10000∧∃a1 a2 a3 a4 a5 a6 a8 a9 a10 o1 o2 o3 X,σ.objs.list=stH a1 a2 a3 a4 a5 a6 a8 a9 a10 o1 o2 o3 en [] X) (K .none ⟨σ.loc,OL.s σ.objs 4 (.list (some (.fK (en+a.1.length))) []),σ.fa⟩)) (b7 x)
 |_=>.ff
theorem qv{D:Wd}{x:Addr×Nat×bx}(h:cH D x):∀y∈[x],cH D y:=fun y hy=>by rw[dU] at hy;exact hy▸h
set_option tactic.hygienic true in
theorem Yr(W:Wd)(en:Nat):cH (WS W) (148,2,oF en):=fun G hD hT hn xs σ K h=>by
 obtain⟨D,T,m,cs,KX,con,sc,ec,cv,fr⟩:=G
 obtain rfl:D=WS W:=hD
 obtain rfl:T=Tb.T:=hT
 have h':(oF en xs σ K).h:=h
 unfold oF at h'
 split at h'
 ·rename_i o x
  cases q:b7 x with
  |none=>rw[q] at h';exact h'.elim
  |some z=>
   rw[q] at h'
   obtain⟨a,ha⟩:=z
   obtain⟨⟨e0,hle,a1,a2,a3,a4,a5,a6,a8,a9,a10,o1,o2,o3,X,hos⟩,hk⟩:=h'
   subst e0
   have hk':(K .none ⟨σ.loc,OL.s σ.objs 4 (.list (some (.fK (en+a.length))) []),σ.fa⟩).h:=hk
   have hle':en+a.length≤10000:=hle
   let os:=stH a1 a2 a3 a4 a5 a6 a8 a9 a10 o1 o2 o3 en [] X
   refine au.conv (xs':=[.obj 0,.ss a]) (fun ρ vs r=>by
    cases r using Each.ec with
    |cons r rs=>cases rs using Each.ec with|cons r' rs=>exact .cons r (.cons (let⟨t,e⟩:=ha r';⟨t,e⟩) rs)) (au.pre (σ':=⟨σ.loc,.b os,σ.fa⟩) (.of (fun qq qq e=>e) hos.symm rfl) (au.sw (n:=2) (cons:=[(84,1,tB)]) hn ?_))
   refine au.ent (K:=hh K) (σ:=⟨σ.loc,.b os,σ.fa⟩) ?_
   refine mr (i:=Tb.qm) (n:=1) rfl rfl rfl rfl ?_
   rw[Yq]
   let L0:=[(aa "self",SV.obj 0),(aa "data",.ss a)]
   let J:Src→Nat→Nat→SS→Prop:=fun S n i σ'=>S=qu a∧n+i=a.cps.size∧∃ys:List SV,ys.length≤i∧σ'=⟨L0,.b (stH a1 a2 a3 a4 a5 a6 a8 a9 a10 o1 o2 o3 en ys X),σ.fa⟩
   refine cP (vS (fun qq qq qq h=>h) (fun qq qq=>rfl) J (fun S n i σ' hJ=>?_) a.cps.size (Am (c9 (x:=.ss a) (by kernel_rfl) (by kernel_rfl) (by kernel_rfl) ⟨a,id,rfl,CZ _,[],az _,rfl⟩)))
   obtain⟨rfl,hni,ys,hys,rfl⟩:=hJ
   refine⟨_,rfl,?_⟩
   cases e:a.cps[i]? with
   |none=>
    have hi:a.cps.size≤i:=Array.getElem?_eq_none_iff.mp e
    refine⟨_,rfl,iO ?_⟩
    refine⟨⟨σ.loc,OL.s σ.objs 4 (.list (some (.fK (en+a.length))) []),σ.fa⟩,fun c ρ s R=>?_,hk'⟩
    have R2:=aD.fK (i:=4) (en:=en) (n:=a.length) (ys:=ys) (D:=WS W) rfl (by show _≤a.cps.size;exact Om.Mz hni hys hi) c ρ s R
    exact(show aD (WS W) ⟨σ.loc,OL.s (.b (stH a1 a2 a3 a4 a5 a6 a8 a9 a10 o1 o2 o3 en ys X)) 4 (.list (some (.fK (en+a.length))) []),σ.fa⟩ ⟨σ.loc,OL.s σ.objs 4 (.list (some (.fK (en+a.length))) []),σ.fa⟩ from .of (fun qq qq e=>e) (congrArg (fun l=>aL l 4 (SO.list (some (.fK (en+a.length))) [])) hos) rfl) c ρ s R2
   |some z=>
    have hi:i<a.cps.size:=(Array.getElem?_eq_some_iff.mp e).1
    let P:Fl→SS→Prop:=fun fl σ'=>fl=.next∧∃ys':List SV,ys'.length≤i+1∧σ'=⟨[(aa "c",.ss ⟨#[z]⟩),(aa "self",.obj 0),(aa "data",.ss a)],.b (stH a1 a2 a3 a4 a5 a6 a8 a9 a10 o1 o2 o3 en ys' X),σ.fa⟩
    refine jL (by kernel_rfl) (aK.ent (An (W:=W) (os:=stH a1 a2 a3 a4 a5 a6 a8 a9 a10 o1 o2 o3 en ys X) (qv (Yo W)) (K:=P) ?_) ?_)
    ·refine(vE (WS W) P ⟨#[z]⟩ a a1 a2 a3 a4 a5 a6 a8 a9 a10 o1 o2 o3 en ys X σ.fa).mpr ⟨rfl,fun b=>⟨fun qq=>⟨fun us hu=>?_,⟨rfl,_,by rw[bG];exact gC hys 1,rfl⟩,trivial⟩,fun qq=>⟨⟨rfl,ys,Nat.le_succ_of_le hys,rfl⟩,trivial⟩⟩,trivial⟩
     have hu':us.length≤en:=hu
     have:a.length=a.cps.size:=rfl
     exact Om.MA hle' hys hi hu' this
    ·rintro fl σ' ⟨rfl,ys',h1,rfl⟩
     refine⟨⟨L0,.b (stH a1 a2 a3 a4 a5 a6 a8 a9 a10 o1 o2 o3 en ys' X),σ.fa⟩,.of (fun x y hx=>?_) rfl rfl,⟨n-1,by exact Om.Dl hni hi,rfl,by exact Om.vc hni hi,ys',h1,rfl⟩⟩
     show lk x (_::L0)=_
     rw[b6]
     by_cases hc:x=aa "c"
     ·have:lk x L0=af:=by rw[hc];kernel_rfl
      rw[this] at hx;cases hx
     ·rw[if_neg hc];exact hx
 ·exact h'.elim
end
end Ex
end
section
namespace Ex
noncomputable section
section
variable(D:Wd)(cs:bW)(K:SV→SS→Prop)(ch tx:Str)(off pl pc place en:Nat)(loc:List (Str×SV))(fa:List Fact)(C:Int)
noncomputable abbrev sR (p:Int) (c n b:SV) (e:Nat):List SO:=qp c n (.int 0) (.si (nZ ch pl ch.length)) (.si C) b tx p e [.tup [.si (nZ ch pl ch.length),.si C]]
noncomputable abbrev Ys (os:List SO) (en:Nat):Prop:=∃a1 a2 a3 a4 a5 a6 a8 a9 a10 o1 o2 o3 X,os=stH a1 a2 a3 a4 a5 a6 a8 a9 a10 o1 o2 o3 en [] X
noncomputable abbrev rep1 (x:Str):Str:=fu x (aa "\x0d\n") (aa "\n")
noncomputable abbrev rep2 (x:Str):Str:=fu (rep1 x) (aa "\x0d") (aa "\n")
noncomputable abbrev oG (x:SV) (os:List SO):Prop:=K x ⟨loc,.b os,fa⟩∧True
noncomputable abbrev tT (p:Int) (b:SV) (X:Str):Prop:=(SV.obj 0=SV.obj 0∧en+X.length≤10000∧Ys (sR ch tx pl C p (.str (aa "")) (.int 0) b en) en)∧X.length+(X.length+1)*1≤16777216∧(rep1 X).length+((rep1 X).length+1)*1≤16777216∧(rep2 X).length≤sizeLine∧oG K loc fa (.bool true) (sR ch tx pl C p (.ss (rep2 X)) (.si (rep2 X).length) b (en+X.length))
noncomputable abbrev Ao (X:Str):Prop:=-(X.length:Int)≤-1∧-1<(X.length:Int)∧X.length≤sizeLine
noncomputable abbrev Hq (p:Int) (X:Str):Prop:=Ao X∧X.length≤sizeLine∧tT K ch tx pl en loc fa C p (.ss (fG X (-1))) (b5 X none (some (-1)))
noncomputable abbrev bR (p:Int) (b:SV) (X:Str):Prop:=X.length≤sizeLine∧fk (decide ((1:Int)<X.length)) (Ao X∧(fG X (-1)).length=1∧fk (decide ((((fG X (-1)).cps.getD 0 0:Nat):Int)=13)) (Hq K ch tx pl en loc fa C p X) (fk (decide (55296≤(((fG X (-1)).cps.getD 0 0:Nat):Int))) (fk (decide ((((fG X (-1)).cps.getD 0 0:Nat):Int)≤56319)) (Hq K ch tx pl en loc fa C p X) (tT K ch tx pl en loc fa C p b X)) (tT K ch tx pl en loc fa C p b X))) (tT K ch tx pl en loc fa C p b X)
noncomputable abbrev d0:Str:=b5 tx (some (place:Int)) (some ((place:Int)+10240))
noncomputable abbrev hR:Prop:=tx.length≤sizeLine∧(d0 tx place).length≤sizeLine∧(d0 tx place).length≤sizeLine∧fk (!aB (d0 tx place).length 0) (bR K ch tx pl en loc fa C (place+(d0 tx place).length) .none (d0 tx place)) (oG K loc fa (.bool false) (sR ch tx pl C (place+(d0 tx place).length) (.str (aa "")) (.int 0) .none en))
noncomputable abbrev wK (n:Int) (B:Int→Prop):Prop:=fk (decide (jk ch (aa "\n") 0 n=-1)) (B (pc+n)) (B (n-(jk ch (aa "\n") 0 n+1)))
theorem Yt:gW D cs 3 [(148,2,oF en)] 141 [.obj 0] loc (aW ch tx off pl pc place en none) fa K=wK ch pc ch.length (hR K ch tx pl place en loc fa):=by kernel_rfl
noncomputable abbrev mP:Str:=⟨#[13]⟩
theorem Yu:gW D cs 3 [(148,2,oF en)] 141 [.obj 0] loc (aW ch tx off pl pc place en (some 13)) fa K=wK ch pc ch.length (fun C=>tx.length≤sizeLine∧(d0 tx place).length≤sizeLine∧mP.length≤sizeLine∧fk (!aB mP.length 0) (mP.length+(d0 tx place).length≤sizeLine∧bR K ch tx pl en loc fa C (place+(d0 tx place).length) .none (mP++d0 tx place))
 ((d0 tx place).length≤sizeLine∧fk (!aB (d0 tx place).length 0) (bR K ch tx pl en loc fa C (place+(d0 tx place).length) (.ss mP) (d0 tx place)) (oG K loc fa (.bool false) (sR ch tx pl C (place+(d0 tx place).length) (.str (aa "")) (.int 0) (.ss mP) en)))):=by kernel_rfl
theorem Aq{n:Int}{B:Int→Prop}(h:B (sV ch pc n)):wK ch pc n B:=by
 unfold sV at h
 exact⟨fun e=>by rwa[if_pos (of_decide_eq_true e)] at h,fun e=>by rwa[if_neg (of_decide_eq_false e)] at h⟩
end
theorem wL(x:Str):(rep2 x).cps.toList=aX x.cps.toList:=St.Gy x
section
open St
variable{K:SV→SS→Prop}{ch tx:Str}{pl pc place en:Nat}{bf:Option Nat}{loc:List (Str×SV)}{fa:List Fact}{C:Int}
theorem Hr(hp:ou tx place en bf)(b:SV)(D:Str)(hD:D.cps.toList=eE bf++tx.cps.toList.drop place)(hne:D.cps.toList≠[])(hd:tx.length≤place+(d0 tx place).length)(hb:b=.none)
 (h:∀X e bf',mD ch tx pl pc place en bf true X (goes (pl,pc) ch.cps.toList).1 (goes (pl,pc) ch.cps.toList).2 (place+(d0 tx place).length) e bf'→K (.bool true) ⟨loc,.b (sR ch tx pl C (place+(d0 tx place).length) (.ss X) (.si X.length) (mz bf') e),fa⟩):bR K ch tx pl en loc fa C (place+(d0 tx place).length) b D:=by
 subst hb
 obtain⟨hp,hz,hen,d7,hno⟩:=hp
 have hdone:tx.cps.toList.drop (place+(d0 tx place).length)=[]:=nA (by rw[←St.len_list];exact hd)
 have hDl:D.length=(eE bf).length+(tx.length-place):=by rw[St.len_list,hD,bG,ja,←St.len_list]
 have ho:(eE bf).length≤1:=by rcases d7 with rfl|rfl<;>simp[eE]
 have hsz:=sizeLine_eq
 have hT:tT K ch tx pl en loc fa C (place+(d0 tx place).length) .none D:=by
  have h2:(rep1 D).length≤D.length:=z3 D
  have h3:(rep2 D).length≤D.length:=by rw[St.len_list,wL,St.len_list D];exact om _
  refine⟨⟨rfl,by exact Om.Dm hen hDl,_,_,_,_,_,_,_,_,_,_,_,_,_,rfl⟩,by exact Om.MB hen hDl,by exact Om.MC hen hDl h2,by exact Om.MD hen hDl hsz h3,h _ _ none ⟨rfl,fun e=>(by cases e),fun qq=>(by rw[wL];exact Gv hne),?_,fun e=>(by cases e),.inr hd,(by show(rep2 _).length≤_;exact Om.ME hen hDl h3),?_,.inl rfl⟩,trivial⟩
  ·rw[wL,←hD,hdone];simp[eE,U5]
  ·show _+_+0≤_
   exact Om.MG hd hen hDl
 refine⟨by exact Om.Dn hen hDl hsz,fun h1=>?_,fun qq=>hT⟩
 obtain⟨a,c,hac⟩:∃a c,D.cps.toList=a++[c]:=by
  rcases List.eq_nil_or_concat D.cps.toList with e|⟨a,c,e⟩
  ·exact absurd e hne
  ·exact⟨a,c,by rw[e,List.concat_eq_append]⟩
 have hl1:1<D.length:=by have:=of_decide_eq_true h1;exact Om.MH this
 have hit:=item_last D hac
 have hal:D.length=a.length+1:=by rw[St.len_list,hac];simp
 have hsl:(b5 D none (some (-1))).cps.toList=a:=by
  refine Eq.trans (Gf D 1 (az _)) ?_
  rw[hal,hac,Nat.add_sub_cancel];simp
 have hsn:(b5 D none (some (-1))).length=a.length:=by rw[St.len_list,hsl]
 have hS1:(rep1 (b5 D none (some (-1)))).length≤(b5 D none (some (-1))).length:=z3 (b5 D none (some (-1)))
 have hS2:(rep2 (b5 D none (some (-1)))).cps.toList=aX a:=by rw[wL,hsl]
 have hS3:(rep2 (b5 D none (some (-1)))).length≤a.length:=by rw[St.len_list,hS2];exact om a
 have hi:Ao D:=⟨by exact Om.MI hl1 hal hsn,by exact Om.MK hl1 hal hsn,by omega⟩
 rw[hit]
 refine⟨hi,rfl,fun h2=>?_,fun h2=>⟨fun h3=>⟨fun h4=>?_,fun h4=>hT⟩,fun h3=>hT⟩⟩
 ·have hc:c=13:=by have h2':(c:Int)=13:=of_decide_eq_true h2;exact Om.MN h2'
  subst hc
  refine⟨hi,by omega,⟨rfl,by exact Om.MP hen hDl hal hsn,_,_,_,_,_,_,_,_,_,_,_,_,_,rfl⟩,by omega,by exact Om.MQ hen hDl hl1 hal hsn hS1,by exact Om.MR hen hDl hsz hl1 hal hsn hS3,?_,trivial⟩
  rw[hit]
  refine h _ _ (some 13) ⟨rfl,fun e=>(by cases e),fun qq=>(by rw[hS2];exact Gv fun e=>(by rw[e] at hal;simp at hal;exact Om.MS hl1 hal)),?_,fun e=>(by cases e),.inr hd,(by show(rep2 _).length≤_;exact Om.MT hen hDl hl1 hal hsn hS3),?_,.inr rfl⟩
  ·rw[hS2,←hD,hac,hdone,U4];rfl
  ·show _+_+1≤_
   exact Om.MU hd hen hDl hal hsn
 ·exfalso
  have a3:(55296:Int)≤(c:Int):=of_decide_eq_true h3
  have a4:(c:Int)≤56319:=of_decide_eq_true h4
  have hm:c∈D.cps.toList:=by rw[hac];simp
  rw[hD] at hm
  rcases f7.mp hm with hm|hm
  ·rcases d7 with rfl|rfl<;>simp[eE] at hm;exact Om.MW a3 a4 hm
  ·have:=hno c (JS hm);exact Om.MX a3 a4 this
theorem Yv(D:Wd)(cs:bW){off:Nat}(hp:ou tx place en bf)(h:∀b X pl' pc' place' e bf',mD ch tx pl pc place en bf b X pl' pc' place' e bf'→K (.bool b) ⟨loc,.b (qp (.ss X) (.si X.length) (.si 0) (.si pl') (.si pc') (mz bf') tx place' e [.tup [.si pl',.si pc']]),fa⟩∧K (.bool b) ⟨loc,.b (qp (.ss X) (.si X.length) (.int 0) (.si pl') (.si pc') (mz bf') tx place' e [.tup [.si pl',.si pc']]),fa⟩∧(b=false→K (.bool b) ⟨loc,.b (qp (.str (aa "")) (.int 0) (.int 0) (.si pl') (.si pc') (mz bf') tx place' e [.tup [.si pl',.si pc']]),fa⟩)):
 gW D cs 3 [(148,2,oF en)] 141 [.obj 0] loc (aW ch tx off pl pc place en bf) fa K:=by
 obtain⟨hp',hz,hen,d7,hno⟩:=id hp
 have hsz:=sizeLine_eq
 have hs0:(d0 tx place).cps.toList=tx.cps.toList.drop place:=by
  rw[show d0 tx place=b5 tx (some ((place:Nat):Int)) (some ((place+10240:Nat):Int)) from rfl,Gb,fq]
  rw[ja,←St.len_list];exact Om.MY hen
 have hs1:(d0 tx place).length=tx.length-place:=by rw[St.len_list,hs0,ja,←St.len_list]
 have hP:=Gu (ch:=ch) (pl:=pl) (pc:=pc) (o:=ch.length) (az _)
 rw[St.len_list,fq (az _),←St.len_list] at hP
 rcases d7 with rfl|rfl
 ·rw[Yt]
  refine Aq _ _ ?_
  rw[hP.2]
  refine⟨by exact Om.Dp hz hsz,by exact Om.yW hsz hs1 hen,by exact Om.yW hsz hs1 hen,fun h0=>?_,fun h0=>⟨?_,trivial⟩⟩
  ·refine Hr (pc:=pc) hp _ _ (by rw[hs0];rfl) (fun e=>?_) (by exact Om.Dq hs1) rfl fun X e bf' h'=>?_
   ·have:(d0 tx place).length=0:=by rw[St.len_list,e];rfl
    rw[this] at h0
    cases h0
   ·have:=(h true X _ _ _ e bf' h').2.1
    unfold sR
    rw[hP.1]
    exact this
  ·have h0':(d0 tx place).length=0:=by
    cases q:aB (d0 tx place).length 0 with
    |true=>exact bh q
    |false=>rw[q] at h0;cases h0
   have hdr:tx.cps.toList.drop place=[]:=by rw[←hs0];exact pq (by rw[←St.len_list];exact h0')
   have hdn:tx.cps.toList.drop (place+(d0 tx place).length)=[]:=by rw[h0'];exact hdr
   unfold sR
   rw[hP.1]
   refine(h false ⟨#[]⟩ _ _ (place+(d0 tx place).length) en none ⟨rfl,fun qq=>rfl,fun e=>(by cases e),?_,fun qq=>?_,.inr (by exact Om.MZ hs1 h0'),(by show 0≤20000;exact Om.M0),?_,.inl rfl⟩).2.2 rfl
   ·rw[hdr,hdn];rfl
   ·rw[hdn];rfl
   ·show en+(tx.length-_)+0≤10000
    have:en+(tx.length-place)+0≤10000:=hen
    exact Om.M1 hs1 h0' this
 ·rw[Yu]
  refine Aq _ _ ?_
  have hc1:mP.length=1:=rfl
  refine⟨by exact Om.Dp hz hsz,by exact Om.yW hsz hs1 hen,by exact Om.M3 hsz hc1,fun qq=>⟨by exact Om.M4 hsz hs1 hen hc1,Hr (pc:=pc) hp _ _ ?_ (fun e=>?_) (by exact Om.Dq hs1) rfl fun X e bf' h'=>?_⟩,fun e=>?_⟩
  ·show(mP++d0 tx place).cps.toList=_
   rw[Kl,JY,hs0];rfl
  ·have:=congrArg List.length e
   rw[Kl,JY] at this
   simp at this
  ·have:=(h true X _ _ _ e bf' h').2.1
   unfold sR
   rw[hP.1,hP.2]
   exact this
  ·cases e
end
end
end Ex
end
section
namespace Ex
noncomputable section
noncomputable def kW (x:SV):SV:=match x with
 |.bool b=>.sb b
 |.int i=>.si i
 |.str s=>.ss s
 |x=>x
theorem VR.er{W:Wd}{ρ:List Addr}{x:SV}{v:Value}(r:VR W ρ x v):VR W ρ (kW x) v:=by cases x<;>exact r
noncomputable def qw (o:SO):SO:=match o with
 |.inst C fs=>.inst C (fs.map fun p=>(p.1,kW p.2))
 |.list p xs=>.list p (xs.map kW)
 |.tup xs=>.tup (xs.map kW)
 |o=>o
theorem Each.map{α β γ:Type}{R:α→β→Prop}{R':γ→β→Prop}{f:α→γ}{xs:List α}{ys:List β}(k:∀x y,R x y→R' (f x) y)(h:Each R xs ys):Each R' (xs.map f) ys:=by
 induction h with
 |nil=>exact .nil
 |cons a _ ih=>exact .cons (k _ _ a) ih
theorem OR.er{W:Wd}{X:List (Addr×Obj)}{ρ:List Addr}{a:Addr}{o:SO}{l:List (Addr×Obj)}(r:OR W X ρ a o l):OR W X ρ a (qw o) l:=by
 cases o with
 |inst C fs=>obtain⟨a,b,c,d,f⟩:=r;exact⟨a,b,c,d,Each.map (fun qq qq q=>⟨q.key,q.hash,q.val.er⟩) f⟩
 |list p xs=>obtain⟨a,b,c,d,q,f⟩:=r;exact⟨a,b,c,d,q,Each.map (fun qq qq q=>q.er) f⟩
 |tup xs=>obtain⟨a,b,d,f⟩:=r;exact⟨a,b,d,Each.map (fun qq qq q=>q.er) f⟩
 |_=>exact r
theorem aD.er{D:Wd}{loc:List (Str×SV)}{os os':List SO}{fa:List Fact}(h:os.map qw=os'):aD D ⟨loc,.b os,fa⟩ ⟨loc,.b os',fa⟩:=fun c ρ s R=>by
 obtain⟨⟨m,⟨ls,ad,l1,l2,g,gr,F,N⟩,hl⟩,tp,fa⟩:=R
 exact⟨⟨m,⟨ls,ad,h▸Each.map (fun qq qq q=>q.er) l1,l2,g,gr,F,N⟩,hl⟩,tp,fa⟩
noncomputable abbrev gY (D:Wd) (x y:SV):Prop:=∀ρ v,VR D ρ x v→VR D ρ y v
theorem au.tE{G:Gx}{f:Value}{xs:List SV}{σ:SS}{K:SV→SS→Prop}(h:au G f xs σ fun x σ'=>∃x' σ'',gY G.D x x'∧aD G.D σ' σ''∧K x' σ''):au G f xs σ K:=fun c ρ s vs a r=>
 jO (h c ρ s vs a r) (fun v s' ⟨ρ',σ',x,p,R,q,x',σ'',l1,l,z⟩=>⟨ρ',σ'',x',p,l _ _ _ R,l1 _ _ q,z⟩) fun qq qq z=>z
noncomputable def tF (ch tx:Str) (off pl pc place en:Nat) (bf:Option Nat):bx:=fun xs σ K=>.pr (xs=[.obj 0]∧σ.objs.list.take 5=aW ch tx off pl pc place en bf∧ou tx place en bf∧∀b ch' pl' pc' place' en' bf',mD ch tx pl pc place en bf b ch' pl' pc' place' en' bf'→(K (.sb b) ⟨σ.loc,.b (aW ch' tx 0 pl' pc' place' en' bf'++σ.objs.list.drop 5),σ.fa⟩).h) .tt
theorem agq{ch tx:Str}{off pl pc place en:Nat}{bf:Option Nat}(X:SO):(aW ch tx off pl pc place en bf++[X]).map qw=aW ch tx off pl pc place en bf++[qw X]:=by cases bf<;>rfl
theorem Hs(W:Wd)(ch tx:Str)(off pl pc place en:Nat)(bf:Option Nat):cH (WS W) (141,3,tF ch tx off pl pc place en bf):=fun G hD hT hn xs σ K h=>by
 obtain⟨D,T,m,cs,KX,con,sc,ec,cv,fr⟩:=G
 obtain rfl:D=WS W:=hD
 obtain rfl:T=Tb.T:=hT
 obtain⟨⟨rfl,hos,hpre,hk⟩,_⟩:(xs=[.obj 0]∧σ.objs.list.take 5=aW ch tx off pl pc place en bf∧ou tx place en bf∧∀b ch' pl' pc' place' en' bf',mD ch tx pl pc place en bf b ch' pl' pc' place' en' bf'→(K (.sb b) ⟨σ.loc,.b (aW ch' tx 0 pl' pc' place' en' bf'++σ.objs.list.drop 5),σ.fa⟩).h)∧True:=h
 have e5:σ.objs.list=aW ch tx off pl pc place en bf++σ.objs.list.drop 5:=by rw[←hos,gB]
 refine SX (os:=aW ch tx off pl pc place en bf) e5 (by cases bf<;>rfl) rfl fun loc=>au.tE (tu (n:=3) (cons:=[(148,2,oF en)]) hn (qv (Yr W en)) ?_)
 refine Yv (WS W) cs hpre fun b X pl' pc' place' e bf' P=>?_
 have key:∀os:List SO,os.map qw=aW X tx 0 pl' pc' place' e bf'++[.tup [.si pl',.si pc']]→∃x' σ'',gY (WS W) (.bool b) x'∧aD (WS W) ⟨loc,.b os,σ.fa⟩ σ''∧(σ''.loc=loc∧bZ x'=true∧∃os',os'.length=5∧σ''.objs.list.take 5=os'∧os'.all (kJ 5)=true∧((∀f∈σ''.fa,f.ok (WS W).η)→(K x' ⟨σ.loc,.b (os'++σ.objs.list.drop 5),σ''.fa⟩).h)):=
  fun os h=>⟨.sb b,_,fun qq qq q=>q,aD.er h,rfl,rfl,_,rfl,rfl,tn,fun qq=>hk b X pl' pc' place' e bf' P⟩
 refine⟨key _ (by rcases P.d7 with rfl|rfl<;>rfl),key _ (by rcases P.d7 with rfl|rfl<;>rfl),fun hb=>key _ ?_⟩
 subst hb
 obtain rfl:=P.no rfl
 rcases P.d7 with rfl|rfl<;>kernel_rfl
end
end Ex
end
section
namespace Ex
noncomputable section
section
variable(D:Wd)(cs:bW)(K:SV→SS→Prop)(ch tx:Str)(off pl pc place en:Nat)(bf:Option Nat)(loc:List (Str×SV))(fa:List Fact)
noncomputable abbrev Ar (x:Str) (i:Int):Prop:=-(x.length:Int)≤i∧i<x.length∧x.length≤sizeLine
theorem vC:gW D cs 4 [(141,3,tF ch tx off pl pc place en bf)] 133 [.obj 0] loc (aW ch tx off pl pc place en bf) fa K=fk (decide ((ch.length:Int)≤off))
 (([SV.obj 0]=[SV.obj 0]∧(aW ch tx off pl pc place en bf).take 5=aW ch tx off pl pc place en bf∧ou tx place en bf∧∀b ch' pl' pc' place' en' bf',mD ch tx pl pc place en bf b ch' pl' pc' place' en' bf'→
   fk b (Ar ch' 0∧oG K loc fa (.ss (fG ch' 0)) (aW ch' tx 1 pl' pc' place' en' bf')) (oG K loc fa .none (aW ch' tx 0 pl' pc' place' en' bf')))∧True)
 (Ar ch off∧oG K loc fa (.ss (fG ch off)) (aW ch tx (off+1) pl pc place en bf)):=by kernel_rfl
theorem Yw:gW D cs 2 [] 126 [.obj 0] loc (aW ch tx off pl pc place en bf) fa K=wK ch pc off (fun C=>oG K loc fa (.obj 6) (aW ch tx off pl pc place en bf++[.tup [.si (nZ ch pl off),.si C],.tup [.si (nZ ch pl off+1),.si C]])):=by kernel_rfl
end
section
open St
variable{W:Wd}{cs:bW}{K:SV→SS→Prop}{ch tx:Str}{off pl pc place en:Nat}{bf:Option Nat}{loc:List (Str×SV)}{fa:List Fact}{d:Option (List Nat)}{r:List Nat}{un:Option (List Nat)}
inductive qx (d:Option (List Nat)) (r:List Nat) (un:Option (List Nat)) (P:List SO→Prop):Prop
 |mk (h:∀ch tx off pl pc place en bf,cQ d r un ch tx off pl pc place en bf→P (aW ch tx off pl pc place en bf))
theorem cQ.pre(I:cQ d r un ch tx off pl pc place en bf):ou tx place en bf:=⟨I.hp,I.hz,I.hen,I.d7,I.hno⟩
theorem cQ.read(I:cQ d r un ch tx off pl pc place en bf)(h:ch.length≤off){b:Bool}{ch':Str}{pl' pc' place' en':Nat}{bf':Option Nat}(P:mD ch tx pl pc place en bf b ch' pl' pc' place' en' bf'):cQ d r none ch' tx 0 pl' pc' place' en' bf':=by
 obtain rfl:off=ch.length:=jC I.hoff h
 refine⟨ef _,?_,fun g hg=>?_,P.hp,I.hz,P.hch,P.hen,P.d7,fun l e=>Om.ns e,I.hno⟩
 ·have:=I.hr
  rw[St.len_list,List.drop_length,pH] at this
  rw[pJ,this];exact P.all
 ·obtain⟨D,e,h2⟩:=I.hd g hg
  rw[St.len_list,fq (az _)] at e
  refine⟨D++ch.cps.toList,by rw[Km,dW];exact e,?_⟩
  rw[oh,h2];exact P.pos
theorem cQ.take(I:cQ d r un ch tx off pl pc place en bf){c:Nat}(h:ch.cps.toList[off]? =some c):∃r',r=c::r'∧cQ (d.map (· ++[c])) r' (some [c]) ch tx (off+1) pl pc place en bf:=by
 obtain⟨hlt,hc⟩:=dg.mp h
 refine⟨ch.cps.toList.drop (off+1)++aX (eE bf++tx.cps.toList.drop place),?_,by rw[St.len_list];exact Om.M5 hlt,rfl,fun g hg=>?_,I.hp,I.hz,I.hch,I.hen,I.d7,fun l e=>?_,I.hno⟩
 ·rw[I.hr,kg hlt,hc];rfl
 ·cases d with
  |none=>cases hg
  |some d0=>
   cases hg
   obtain⟨D,e,h2⟩:=I.hd d0 rfl
   exact⟨D,by show d0++[c]=_;rw[e,bD,JL hlt,hc],h2⟩
 ·cases e
  exact⟨c,ch.cps.toList.take off,rfl,by rw[JL hlt,hc]⟩
theorem Yx(I:cQ d r un ch tx off pl pc place en bf)(hE:r=[]→qx d [] none fun os=>K .none ⟨loc,.b os,fa⟩)(hC:∀c r',r=c::r'→qx (d.map (· ++[c])) r' (some [c]) fun os=>K (.ss ⟨#[c]⟩) ⟨loc,.b os,fa⟩):
 gW (WS W) cs 4 [(141,3,tF ch tx off pl pc place en bf)] 133 [.obj 0] loc (aW ch tx off pl pc place en bf) fa K:=by
 have hsz:=sizeLine_eq
 have h20:=I.hch
 rw[vC]
 refine⟨fun h1=>⟨⟨rfl,rfl,I.pre,fun b ch' pl' pc' place' en' bf' P=>?_⟩,trivial⟩,fun h1=>?_⟩
 ·have I':=I.read (by have:=of_decide_eq_true h1;exact Om.M6 this) P
  refine⟨fun hb=>?_,fun hb=>⟨?_,trivial⟩⟩
  ·subst hb
   obtain⟨x,r0,hx0⟩:=List.exists_cons_of_ne_nil (P.yes rfl)
   have hlen:0<ch'.length:=by rw[St.len_list,hx0];simp
   have hch':=P.hch
   refine⟨⟨by exact Om.M7 hlen hch',by exact Om.M8 hlen hch',by exact Om.M9 hsz hlen hch'⟩,?_,trivial⟩
   have hg:ch'.cps.toList[0]? =some x:=by rw[hx0];rfl
   obtain⟨r',hr',I2⟩:=I'.take hg
   rw[show fG ch' 0=⟨#[x]⟩ from sQ ch' 0 hg]
   exact(hC x r' hr').1 _ _ _ _ _ _ _ _ I2
  ·subst hb
   have e1:=P.no rfl
   have e2:=P.fin rfl
   have hr0:r=[]:=by rw[I'.hr,e1,e2];rfl
   exact(hE hr0).1 _ _ _ _ _ _ _ _ (hr0▸I')
 ·have hlt:off<ch.cps.toList.length:=by have:=of_decide_eq_false h1;rw[←St.len_list];exact Om.Na this
  have hl:=St.len_list ch
  refine⟨⟨by exact Om.Nb hlt hl,by exact Om.Nc hlt hl,by exact Om.Nd hsz h20 hl⟩,?_,trivial⟩
  have hg:ch.cps.toList[off]? =some ch.cps.toList[off]:=iD hlt
  obtain⟨r',hr',I2⟩:=I.take hg
  rw[sQ ch off hg]
  exact(hC _ r' hr').1 _ _ _ _ _ _ _ _ I2
end
end
end Ex
end
section
namespace Ex
noncomputable section
noncomputable def gZ (a b:Tm):{z:Tm//∀η,z.ev η=a.ev η++b.ev η}:=@aU _ (fun qq=>{z:Tm//∀η,z.ev η=a.ev η++b.ev η}) ⟨cat a b,fun qq=>rfl⟩ (fun h=>⟨b,fun η=>by rw[h.1 η];rfl⟩) (D9 a)
noncomputable def g8 (k:Nat) (l:List Nat) (a b:Tm) (yes no:List Fact→Tr) (fa:List Fact):Tr:=@aU Bool (fun qq=>Tr) (.and (yes (⟨k,l,a,b,true⟩::fa)) (no (⟨k,l,a,b,false⟩::fa))) (fun v=>@aj (fun qq=>Tr) (no fa) (yes fa) v) (asks k l a b fa)
inductive Yy (η:Ev) (k:Nat) (l:List Nat) (a b:Tm) (yes no:List Fact→Tr):Prop
 |t (fa:List Fact) (ok:aI η fa) (e:aZ η k l (a.ev η) (b.ev η)=true) (h:(yes fa).h)
 |f (fa:List Fact) (ok:aI η fa) (e:aZ η k l (a.ev η) (b.ev η)=false) (h:(no fa).h)
theorem qy{η:Ev}{k:Nat}{l:List Nat}{a b:Tm}{yes no:List Fact→Tr}{fa:List Fact}(h:(g8 k l a b yes no fa).h)(ok:aI η fa):Yy η k l a b yes no:=by
 unfold g8 at h
 cases e:asks k l a b fa with
 |none=>
  rw[e] at h
  cases q:aZ η k l (a.ev η) (b.ev η) with
  |true=>exact .t _ (aI.cons (f:=⟨k,l,a,b,true⟩) q ok) q h.1
  |false=>exact .f _ (aI.cons (f:=⟨k,l,a,b,false⟩) q ok) q h.2
 |some v=>
  rw[e] at h
  have q:=jI e ok
  cases v with
  |true=>exact .t _ ok q h
  |false=>exact .f _ ok q h
theorem au.facts{G:Gx}{f:Value}{xs:List SV}{σ:SS}{K:SV→SS→Prop}(h:aI G.D.η σ.fa→∃fa,aI G.D.η fa∧au G f xs ⟨σ.loc,σ.objs,fa⟩ K):au G f xs σ K:=fun c ρ s vs a r=>
 let⟨fa,ok,z⟩:=h a.fa;z c ρ s vs (a.to (pr _) ⟨let⟨m,l,r⟩:=a.R;⟨m,l,r⟩,a.tp,ok⟩) r
noncomputable def qz (x:SV) (σ:SS):Option {z:Nat×eN//x=.obj z.1∧σ.objs.list[z.1]? =some (.blob (.strm z.2))}:=ak (dB x) fun i=>ak (fQ σ.objs i.1) fun o=>(tg o.1).map fun st=>⟨(i.1,st.1),i.2,st.2▸o.2⟩
noncomputable def tG (σ:SS) (i:Nat) (st:eN) (fa:List Fact):SS:=⟨σ.loc,OL.s σ.objs i (.blob (.strm st)),fa⟩
noncomputable def tH:bx:=fun xs σ K=>match xs with
 |[x]=>@aU _ (fun qq=>Tr) .ff (fun z=>@aU _ (fun qq=>Tr)
   (g8 0 [] z.1.2.r .e (fun fa=>K (.tm (dZ z.1.2.r)) (tG σ z.1.1 ⟨z.1.2.d.map fun d=>(gZ d (dZ z.1.2.r)).1,lT z.1.2.r,some (dZ z.1.2.r)⟩ fa)) (fun fa=>K .none (tG σ z.1.1 ⟨z.1.2.d,lit [],af⟩ fa)) σ.fa)
   (fun w=>K (.tm w.1.1) (tG σ z.1.1 ⟨z.1.2.d.map fun d=>(gZ d w.1.1).1,w.1.2,some w.1.1⟩ σ.fa)) (hdS z.1.2.r)) (qz x σ)
 |_=>.ff
section
variable{W:Wd}{G:Gx}{σ:SS}{K:SV→SS→Tr}{i:Nat}{loc:List (Str×SV)}
theorem qx.closed{d:Option (List Nat)}{r:List Nat}{un:Option (List Nat)}{st:eN}{K:SV→SS→Prop}{x y:SV}{fa:List Fact}(hd:st.d.map (·.ev W.η)=d)(hr:st.r.ev W.η=r)(hu:st.un.map (·.ev W.η)=un)(hv:∀ρ ρ' v,VR G.D ρ x v→VR G.D ρ' y v)(z:K y ⟨σ.loc,OL.s σ.objs i (.blob (.strm st)),fa⟩):
 qx d r un fun os=>sD (jS W.η) G σ i K loc x ⟨loc,.b os,fa⟩:=⟨fun ch tx off pl pc place en bf I=>.mk (.strm st) 5 y rfl ⟨ch,tx,off,pl,pc,place,en,bf,rfl,hd▸hr▸hu▸I⟩ tn (by decide) (fun qq=>hv) fun qq=>z⟩
theorem As(hD:G.D=WS W)(hT:G.T=Tb.T)(hn:4≤G.n){st:eN}(ho:σ.objs.list[i]? =some (.blob (.strm st)))(hE:st.r.ev W.η=[]→hh K .none (tG σ i ⟨st.d,lit [],af⟩ σ.fa))
 (hC:∀c r',st.r.ev W.η=c::r'→∃h t,h.ev W.η=[c]∧t.ev W.η=r'∧hh K (.tm h) (tG σ i ⟨st.d.map fun d=>(gZ d h).1,t,some h⟩ σ.fa)):au G (.ref 133) [.obj i] σ (hh K):=by
 refine Ai hD hT (n:=4) hn ho rfl fun loc ch tx off pl pc place en bf I=>⟨_,[],qv (Hs W ch tx off pl pc place en bf),fun qq qq r=>r,Yx I (fun e=>qx.closed (st:=⟨st.d,lit [],af⟩) (y:=.none) rfl rfl rfl (fun qq qq qq q=>q) (hE e)) fun c r' e=>?_⟩
 obtain⟨h,t,h1,h2,z⟩:=hC c r' e
 refine qx.closed (st:=⟨st.d.map fun d=>(gZ d h).1,t,some h⟩) ?_ h2 (by rw[←h1];rfl) (fun ρ ρ' v q=>?_) z
 ·cases st.d with
  |none=>rfl
  |some d=>exact congrArg some (((gZ d h).2 W.η).trans (by rw[h1]))
 ·obtain⟨t',rfl⟩:=q
  refine⟨t',?_⟩
  rw[hD,show(WS W).η=W.η from rfl,h1];rfl
set_option tactic.hygienic true in
theorem Ht(W:Wd):cH (WS W) (133,4,tH):=fun G hD hT hn xs σ K h=>by
 have h':(tH xs σ K).h:=h
 unfold tH at h'
 split at h'
 ·rename_i x
  cases q:qz x σ with
  |none=>rw[q] at h';exact h'.elim
  |some z=>
   rw[q] at h'
   obtain⟨⟨i,st⟩,e,ho⟩:=z
   have e':x=.obj i:=e
   subst e'
   dsimp only at h'
   cases q2:hdS st.r with
   |none=>
    rw[q2] at h'
    refine au.facts fun hf=>?_
    rcases qy (η:=W.η) h' (by rw[hD] at hf;exact hf) with⟨fa,ok,e,hk⟩|⟨fa,ok,e,hk⟩
    ·refine⟨fa,by rw[hD];exact ok,As (W:=W) (σ:=⟨σ.loc,σ.objs,fa⟩) hD hT hn ho (fun e'=>?_) fun c r' e'=>⟨dZ st.r,lT st.r,?_,?_,hk⟩⟩
     ·rw[e'] at e;cases e
     ·show(st.r.ev W.η).take 1=_
      rw[e'];rfl
     ·show(st.r.ev W.η).drop 1=_
      rw[e'];rfl
    ·refine⟨fa,by rw[hD];exact ok,As (W:=W) (σ:=⟨σ.loc,σ.objs,fa⟩) hD hT hn ho (fun e'=>hk) fun c r' e'=>?_⟩
     rw[e'] at e;cases e
   |some w=>
    rw[q2] at h'
    obtain⟨c,h1,h2⟩:=w.2 W.η
    refine As (W:=W) hD hT hn ho (fun e'=>by rw[e'] at h2;cases h2) fun c' r' e'=>?_
    rw[e'] at h2
    cases h2
    exact⟨w.1.1,w.1.2,h1,rfl,h'⟩
 ·exact h'.elim
noncomputable def wM:bx:=fun xs σ K=>match xs with
 |[x]=>@aU _ (fun qq=>Tr) .ff (fun z=>@aU Tm (fun qq=>Tr) .ff (fun d=>K (.obj σ.objs.length) ⟨σ.loc,OL.a (OL.s σ.objs z.1.1 (.blob (.strm z.1.2))) (.tup [.im 0 d,.im 1 d]),σ.fa⟩) z.1.2.d) (qz x σ)
 |_=>.ff
structure Au (η:Ev):Prop where
 l:∀l,η.i 0 l=((goes (0,0) l).1:Int)+1
 c:∀l,η.i 1 l=((goes (0,0) l).2:Int)
set_option tactic.hygienic true in
theorem Yz(W:Wd)(hp:Au W.η):cH (WS W) (126,2,wM):=fun G hD hT hn xs σ K h=>by
 have h':(wM xs σ K).h:=h
 unfold wM at h'
 split at h'
 ·rename_i x
  cases q:qz x σ with
  |none=>rw[q] at h';exact h'.elim
  |some z=>
   rw[q] at h'
   obtain⟨⟨i,st⟩,e,ho⟩:=z
   have e':x=.obj i:=e
   subst e'
   cases q2:st.d with
   |none=>dsimp only at h';rw[q2] at h';exact h'.elim
   |some d=>
    dsimp only at h'
    rw[q2] at h'
    obtain⟨D,T,m,cs,KX,con,sc,ec,cv,fr⟩:=G
    obtain rfl:D=WS W:=hD
    obtain rfl:T=Tb.T:=hT
    refine SW (MM:=jS W.η) (s9 W) ho rfl fun loc osi ⟨ch,tx,off,pl,pc,place,en,bf,e,I⟩=>?_
    subst e
    refine tu (n:=2) (cons:=[]) hn (fun x hx=>Om.nm hx) ?_
    rw[Yw]
    refine Aq _ _ ⟨?_,trivial⟩
    obtain⟨D,h1,h2⟩:=I.hd (d.ev W.η) (by rw[q2];rfl)
    have hP:=St.Gu (pl:=pl) (pc:=pc) I.hoff
    have hg:goes (0,0) (d.ev W.η)=goes (pl,pc) (ch.cps.toList.take off):=by rw[h1,St.oh,h2]
    refine .mk (.strm st) 5 6 [.si (nZ ch pl off+1),.si (sV ch pc off)] [.im 0 d,.im 1 d] rfl ⟨ch,tx,off,pl,pc,place,en,bf,rfl,I⟩ tn (by decide) (by decide) rfl rfl (fun qq ρ ρ' vs r=>?_) fun qq=>h'
    cases r using Each.ec with
    |cons r1 r2=>
    cases r2 using Each.ec with
    |cons r2 r3=>
    cases r3
    obtain⟨t1,rfl⟩:=r1
    obtain⟨t2,rfl⟩:=r2
    refine .cons ⟨t1,?_⟩ (.cons ⟨t2,?_⟩ .nil)
    ·rw[hP.1,show(WS W).η=W.η from rfl,hp.l,hg]
    ·rw[hP.2,show(WS W).η=W.η from rfl,hp.c,hg]
 ·exact h'.elim
end
end
end Ex
end
section
namespace Ex
noncomputable section
theorem aK.pre{α β ω:Type}{G:Gx}{V:List Addr→α→β→Prop}{R:List Addr→ω→Prop}{t:Cx→ω→Sem β}{σ σ':SS}{K:α→SS→Prop}(l:aD G.D σ σ')(h:aK G V R t σ' K):aK G V R t σ K:=fun c ρ s w a r=>h c ρ s w (a.to (pr _) (l _ _ _ a.toRepS)) r
noncomputable def wN (G:Gx) (e:Expr) (loc:List (Str×SV)) (os:List SO) (fa:List Fact) (K:SV→SS→Prop):Prop:=((ex 60 G).E e ⟨loc,.b os,fa⟩ fun x σ'=>.pr (K x (fC σ')) .tt).t.h
noncomputable def Hu (G:Gx) (e:Expr) (loc:List (Str×SV)) (os:List SO) (fa:List Fact) (K:SV→SS→Prop):Prop:=((ex 60 G).T e ⟨loc,.b os,fa⟩ fun x σ'=>.pr (K x (fC σ')) .tt).t.h
theorem Av{G:Gx}(g:bE G){e:Expr}{loc:List (Str×SV)}{os:List SO}{fa:List Fact}{K:SV→SS→Prop}(h:wN G e loc os fa K):aq G e ⟨loc,.b os,fa⟩ K:=
 aK.ent (((ex 60 G).E e ⟨loc,.b os,fa⟩ fun x σ'=>.pr (K x (fC σ')) .tt).ok h g) fun x σ' z=>⟨fC σ',fun qq qq qq R=>R.nf,z.1⟩
theorem tK{G:Gx}(g:bE G){e:Expr}{loc:List (Str×SV)}{os:List SO}{fa:List Fact}{K:SV→SS→Prop}(h:Hu G e loc os fa K):bN G e ⟨loc,.b os,fa⟩ K:=
 aK.ent (((ex 60 G).T e ⟨loc,.b os,fa⟩ fun x σ'=>.pr (K x (fC σ')) .tt).ok h g) fun x σ' z=>⟨fC σ',fun qq qq qq R=>R.nf,z.1⟩
theorem mQ{W:Wd}{cs:bW}{n:Nat}{cons:List (Addr×Nat×bx)}(g:∀x∈cons,cH (WS W) x):bE (gi (WS W) cs n cons):=⟨fun x hx G' hD hT hn xs σ K z=>g x hx G' hD hT hn xs σ K z,kT W,fun x hx=>Om.nm hx,fun x hx=>Om.nm hx,fun qq qq qq h=>h⟩
noncomputable def aV:List Stmt→Nat→Stmt
 |[],_=>.Pass ⟨0,0,0,0⟩
 |s::_,0=>s
 |_::r,i+1=>aV r i
noncomputable abbrev kX (s:Stmt):Expr:=ku s 0
noncomputable abbrev iW (s:Stmt):List Stmt:=rU s 0
noncomputable abbrev YA (s:Stmt):Pos:=s.pos
end
end Ex
end
section
namespace Ex
noncomputable section
theorem cQ.readAll{d:Option (List Nat)}{r:List Nat}{un:Option (List Nat)}{ch tx:Str}{off pl pc place en:Nat}{bf:Option Nat}(I:cQ d r un ch tx off pl pc place en bf){b:Bool}{ch':Str}{pl' pc' place' en':Nat}{bf':Option Nat}(P:mD ch tx pl pc place en bf b ch' pl' pc' place' en' bf'):
 ∃r',r=ch.cps.toList.drop off++r'∧r'=ch'.cps.toList++aX (eE bf'++tx.cps.toList.drop place')∧cQ (d.map (· ++ch.cps.toList.drop off)) r' none ch' tx 0 pl' pc' place' en' bf':=by
 refine⟨_,by rw[I.hr,P.all],rfl,ef _,rfl,fun g hg=>?_,P.hp,I.hz,P.hch,P.hen,P.d7,fun l e=>Om.ns e,I.hno⟩
 cases d with
 |none=>cases hg
 |some d0=>
  cases hg
  obtain⟨D,e,h2⟩:=I.hd d0 rfl
  refine⟨D++ch.cps.toList,?_,?_⟩
  ·show d0++_=_
   rw[e,bD,gB,Km,dW]
  ·rw[St.oh,h2];exact P.pos
theorem cQ.skip{d:Option (List Nat)}{r:List Nat}{un:Option (List Nat)}{ch tx:Str}{off pl pc place en:Nat}{bf:Option Nat}(I:cQ d r un ch tx off pl pc place en bf){n:Nat}(h:off+n≤ch.length):
 ∃r',r=(ch.cps.toList.drop off).take n++r'∧r'=ch.cps.toList.drop (off+n)++aX (eE bf++tx.cps.toList.drop place)∧cQ (d.map (· ++(ch.cps.toList.drop off).take n)) r' none ch tx (off+n) pl pc place en bf:=by
 refine⟨_,?_,rfl,h,rfl,fun g hg=>?_,I.hp,I.hz,I.hch,I.hen,I.d7,fun l e=>Om.ns e,I.hno⟩
 ·rw[I.hr,←bD,←uQ,gB]
 ·cases d with
  |none=>cases hg
  |some d0=>
   cases hg
   obtain⟨D,e,h2⟩:=I.hd d0 rfl
   refine⟨D,?_,h2⟩
   show d0++_=_
   rw[e,bD]
   congr 1
   conv=>rhs;rw[←gB off (ch.cps.toList.take (off+n))]
   rw[Kn,gD (bC _ _),List.drop_take,kh]
theorem cQ.len{d:Option (List Nat)}{r:List Nat}{un:Option (List Nat)}{ch tx:Str}{off pl pc place en:Nat}{bf:Option Nat}(I:cQ d r un ch tx off pl pc place en bf):r.length≤30001:=by
 have h1:=St.om (eE bf++tx.cps.toList.drop place)
 have h2:=I.hch
 have h3:=I.hz
 have h4:(eE bf).length≤1:=by cases bf<;>simp[eE]
 rw[I.hr,bG,ja,←St.len_list]
 rw[bG,ja,←St.len_list] at h1
 exact Om.Nf h1 h2 h3 h4
theorem YB{p:Nat→Bool}{l:List Nat}(h:l.all p=true):l.takeWhile p=l:=by
 induction l with
 |nil=>rfl
 |cons a r ih=>
  rw[nD,aY] at h
  rw[Cc h.1,ih h.2]
theorem wO{p:Nat→Bool}{a b:List Nat}(h:a.all p=true)(hb:∀c r,b=c::r→p c=false):(a++b).takeWhile p=a∧(a++b).dropWhile p=b:=by
 induction a with
 |nil=>
  cases b with
  |nil=>exact⟨rfl,rfl⟩
  |cons c r=>
   have:=hb c r rfl
   rw[pH,JM (by rw[this];decide),ae5 (by rw[this];decide)]
   exact⟨rfl,rfl⟩
 |cons c a ih=>
  rw[nD,aY] at h
  rw[Cy,Cc h.1,ae4 h.1,(ih h.2).1,(ih h.2).2]
  exact⟨rfl,rfl⟩
theorem YC(p:Nat→Bool)(l:List Nat):∃a b,l=a++b∧l.takeWhile p=a∧a.all p=true∧∀c r,b=c::r→p c=false:=by
 induction l with
 |nil=>exact⟨[],[],rfl,rfl,rfl,fun qq qq e=>by cases e⟩
 |cons c l ih=>
  cases h:p c with
  |true=>
   obtain⟨a,b,e,e1,e2,e3⟩:=ih
   exact⟨c::a,b,by rw[e];rfl,by rw[Cc h,e1],by rw[nD,h,e2];rfl,e3⟩
  |false=>exact⟨[],c::l,rfl,by rw[JM (by rw[h];decide)],rfl,fun c' r e=>by cases e;exact h⟩
theorem aD.last{D:Wd}{loc:List (Str×SV)}{os:List SO}{o o':SO}{fa:List Fact}(h:∀X ρ a l,OR D X ρ a o l→OR D X ρ a o' l):aD D ⟨loc,.b (os++[o]),fa⟩ ⟨loc,.b (os++[o']),fa⟩:=fun c ρ s R=>by
 obtain⟨⟨m,⟨ls,ad,l1,l2,g,gr,F,N⟩,hl⟩,tp,fa⟩:=R
 obtain⟨A,B,rfl,lA,lB⟩:=Each.split (xs:=os) (ys:=[o]) l1
 cases lB using Each.ec with
 |cons r t=>
  cases t
  exact⟨⟨m,⟨_,ad,Each.app lA (.one (h _ _ _ _ r)),l2,g,gr,F,N⟩,hl⟩,tp,fa⟩
theorem OR.YD{D:Wd}{X:List (Addr×Obj)}{ρ:List Addr}{a:Addr}{l:List (Addr×Obj)}(r:OR D X ρ a (.list none []) l):OR D X ρ a (.list (some (.txt [] 0)) []) l:=by
 obtain⟨us,vs,n,e,q,f⟩:=r
 obtain rfl:us=[]:=q
 exact⟨[],vs,n,e,⟨[],.nil,rfl,az _⟩,f⟩
theorem Aw{us vs:List Value}{xs ys:List Str}(h:StrsAre us xs)(q:StrsAre vs ys):StrsAre (us++vs) (xs++ys):=by
 induction h with
 |nil=>exact q
 |cons _ _ _ ih=>exact .cons _ _ ih
theorem OR.YE{D:Wd}{X:List (Addr×Obj)}{ρ:List Addr}{a:Addr}{l:List (Addr×Obj)}{s:List Nat}{k:Nat}{y:Str}(r:OR D X ρ a (.list (some (.txt s k)) [.ss y]) l):OR D X ρ a (.list (some (.txt (s++y.cps.toList) (k+1))) []) l:=by
 obtain⟨us,vs,n,e,⟨ys,h1,h2,h3⟩,f⟩:=r
 cases f using Each.ec with
 |cons q t=>
  cases t
  obtain⟨t,rfl⟩:=q
  refine⟨us++[.str y t],[],n,by rw[dW];exact e,⟨ys++[y],Aw h1 (.cons _ _ .nil),by rw[nB,h2];simp,?_⟩,.nil⟩
  rw[bG];exact gC h3 1
noncomputable abbrev L0 (y:SV) (opp:Bool) (m:Nat):List (Str×SV):=[(aa "rv",.obj m),(aa "self",.obj 0),(aa "characters",y),(aa "opposite",.bool opp)]
noncomputable abbrev Le (y:SV) (opp:Bool) (m:Nat) (e:Int):List (Str×SV):=(aa "end",.si e)::L0 y opp m
noncomputable def cB (i:Nat):Stmt:=aV Tb.fS.body i
noncomputable def Hv:List Stmt:=(iW (cB 1)).drop 2
section
variable(D:Wd)(K:Fl→SS→Prop)(e:Nat)(ch tx:Str)(off pl pc place en:Nat)(bf:Option Nat)(s:List Nat)(k:Nat)(y:SV)(opp:Bool)(m:Nat)(x0:List SO)(fa:List Fact)
noncomputable abbrev uO (zs:List SV):List SO:=aW ch tx off pl pc place en bf++(x0++[.list (some (.txt s k)) zs])
noncomputable abbrev uK (fl:Fl) (os:List SO):Prop:=K fl ⟨Le y opp m e,.b os,fa⟩∧True
noncomputable abbrev uP:Prop:=∀us,vf (.txt s k) us→us.length+([]:List SV).length≤16777216
noncomputable def Ax:Prop:=ch.length≤sizeLine∧uP s k∧([SV.obj 0]=[SV.obj 0]∧(uO ch tx off pl pc place en bf s k x0 [.ss (b5 ch (some (off:Int)) none)]).take 5=aW ch tx off pl pc place en bf∧ou tx place en bf∧
 ∀b ch' pl' pc' place' en' bf',mD ch tx pl pc place en bf b ch' pl' pc' place' en' bf'→
  fk b (uK K e y opp m fa .next (uO ch' tx 0 pl' pc' place' en' bf' s k x0 [.ss (b5 ch (some (off:Int)) none)])) (uK K e y opp m fa .brk (uO ch' tx 0 pl' pc' place' en' bf' s k x0 [.ss (b5 ch (some (off:Int)) none)])))∧True
noncomputable def uW:Prop:=fk (decide ((e:Int)=off)) (fk (!decide ((off:Int)=ch.length)) (uK K e y opp m fa .brk (uO ch tx off pl pc place en bf s k x0 [])) (Ax K e ch tx off pl pc place en bf s k y opp m x0 fa))
 (fk (!decide ((e:Int)=ch.length)) (ch.length≤sizeLine∧uP s k∧uK K e y opp m fa .brk (uO ch tx e pl pc place en bf s k x0 [.ss (b5 ch (some (off:Int)) (some (e:Int)))])) (Ax K e ch tx off pl pc place en bf s k y opp m x0 fa))
noncomputable abbrev Ay:Prop:=kU D Tb.fS.scope 4 [(141,3,tF ch tx off pl pc place en bf)] Hv (Le y opp m e) (uO ch tx off pl pc place en bf s k x0 []) fa K
theorem YF:Ay D K e ch tx off pl pc place en bf s k y opp 5 [] fa=uW K e ch tx off pl pc place en bf s k y opp 5 [] fa:=by kernel_rfl
theorem YG(cs:List SV):Ay D K e ch tx off pl pc place en bf s k y opp 6 [.tup cs] fa=uW K e ch tx off pl pc place en bf s k y opp 6 [.tup cs] fa:=by kernel_rfl
end
end
end Ex
end
section
namespace Ex
noncomputable section
theorem dmap(d:Option (List Nat))(s a:List Nat):(d.map (· ++s)).map (· ++a)=d.map (· ++(s++a)):=by
 cases d with
 |none=>rfl
 |some d=>exact congrArg some (bD d s a)
inductive Az (p:Nat→Bool) (d:Option (List Nat)) (r0:List Nat) (y:SV) (opp:Bool) (m:Nat) (x0:List SO) (fa:List Fact) (n:Nat) (σ:SS):Prop
 |mk (ch tx:Str) (off pl pc place en:Nat) (bf:Option Nat) (s:List Nat) (k:Nat) (cur:List Nat) (I:cQ (d.map (· ++s)) cur none ch tx off pl pc place en bf) (sp:r0=s++cur) (all:s.all p=true) (w:Nat) (hw:w=1∨(w=0∧off<ch.length)) (hn:n=2*cur.length+w) (hk:k+n≤90000)
  (e:σ=⟨L0 y opp m,.b (uO ch tx off pl pc place en bf s k x0 []),fa⟩)
noncomputable abbrev Hw (p:Nat→Bool) (d:Option (List Nat)) (r0:List Nat) (y:SV) (opp:Bool) (m:Nat) (x0:List SO) (fa:List Fact) (Kf:Fl→SS→Prop):Prop:=∀ch tx off pl pc place en bf k e,cQ (d.map (· ++r0.takeWhile p)) (r0.dropWhile p) none ch tx off pl pc place en bf→k≤90000→Kf .next ⟨Le y opp m e,.b (uO ch tx off pl pc place en bf (r0.takeWhile p) k x0 []),fa⟩
theorem A1{ch tx:Str}{off pl pc place en:Nat}{bf:Option Nat}{s:List Nat}{k:Nat}{x0:List SO}{zs:List SV}:uO ch tx off pl pc place en bf s k x0 zs=(aW ch tx off pl pc place en bf++x0)++[.list (some (.txt s k)) zs]:=(bD _ _ _).symm
theorem aD.cut{D:Wd}{n:Str}{v:SV}{loc:List (Str×SV)}{os:OL}{fa:List Fact}(h:lk n loc=none):aD D ⟨(n,v)::loc,os,fa⟩ ⟨loc,os,fa⟩:=.of (fun x y e=>by
 show lk x ((n,v)::loc)=some y
 rw[b6]
 by_cases q:x=n
 ·rw[q,h] at e;cases e
 ·rw[if_neg q];exact e) rfl rfl
theorem aD.trans{D:Wd}{a b c:SS}(h:aD D a b)(q:aD D b c):aD D a c:=fun qq qq qq R=>q _ _ _ (h _ _ _ R)
theorem aD.fold{D:Wd}{loc:List (Str×SV)}{ch tx:Str}{off pl pc place en:Nat}{bf:Option Nat}{s a:List Nat}{k:Nat}{x0:List SO}{x:Str}{fa:List Fact}(h:x.cps.toList=a):
 aD D ⟨loc,.b (uO ch tx off pl pc place en bf s k x0 [.ss x]),fa⟩ ⟨loc,.b (uO ch tx off pl pc place en bf (s++a) (k+1) x0 []),fa⟩:=by
 rw[A1,A1]
 exact aD.last fun X ρ a' l r=>h▸OR.YE r
section
variable{D:Wd}{p:Nat→Bool}{d:Option (List Nat)}{r0:List Nat}{y:SV}{opp:Bool}{m:Nat}{x0:List SO}{fa:List Fact}{Kf:Fl→SS→Prop}{n:Nat}{ch tx:Str}{off pl pc place en:Nat}{bf:Option Nat}{s:List Nat}{k:Nat}{cur:List Nat}
noncomputable def A3 (D:Wd) (p:Nat→Bool) (d:Option (List Nat)) (r0:List Nat) (y:SV) (opp:Bool) (m:Nat) (x0:List SO) (fa:List Fact) (Kf:Fl→SS→Prop) (n:Nat) (fl:Fl) (σ:SS):Prop:=∃σ',aD D σ σ'∧z5 Kf (fun σ₂=>∃n',n'<n∧Az p d r0 y opp m x0 fa n' σ₂) fl σ'
theorem YH(hE:Hw p d r0 y opp m x0 fa Kf)(I:cQ (d.map (· ++s)) cur none ch tx off pl pc place en bf)(sp:r0=s++cur)(all:s.all p=true){w:Nat}(hw:w=1∨(w=0∧off<ch.length))(hn:n=2*cur.length+w)(hk:k+n≤90000):
 uW (A3 D p d r0 y opp m x0 fa Kf n) (off+((ch.cps.toList.drop off).takeWhile p).length) ch tx off pl pc place en bf s k y opp m x0 fa:=by
 have hsz:=sizeLine_eq
 have hch:=I.hch
 have hoff:=I.hoff
 obtain⟨a,b,hab,htw,ha,hb⟩:=YC p (ch.cps.toList.drop off)
 have hl:a.length+b.length=ch.length-off:=by rw[St.len_list,←ja,hab,bG]
 rw[htw]
 have hsa:(s++a).all p=true:=by rw[List.all_append,all,ha];rfl
 have hP:uP s k:=fun us ⟨ys,_,_,h⟩=>by show _+0≤_;exact Om.Ng hn hk h
 have cut:∀{e:Int} {os:OL},aD D ⟨Le y opp m e,os,fa⟩ ⟨L0 y opp m,os,fa⟩:=aD.cut (by kernel_rfl)
 have rd:b=[]→Ax (A3 D p d r0 y opp m x0 fa Kf n) (off+a.length) ch tx off pl pc place en bf s k y opp m x0 fa:=by
  intro hb0
  subst hb0
  rw[dW] at hab
  have hsl:(b5 ch (some (off:Int)) none).cps.toList=a:=by rw[St.Gd,hab]
  refine⟨by exact Om.Dr hsz hch,hP,⟨rfl,rfl,I.pre,fun b ch' pl' pc' place' en' bf' P=>?_⟩,trivial⟩
  obtain⟨r',h1,h2,I2⟩:=I.readAll P
  rw[hab,dmap] at I2
  rw[hab] at h1
  have hcl:cur.length=a.length+r'.length:=by rw[h1,bG]
  have sp':r0=(s++a)++r':=by rw[sp,h1,bD]
  refine⟨fun hb=>⟨⟨_,(aD.fold hsl).trans cut,2*r'.length,?_,.mk _ _ _ _ _ _ _ _ _ _ _ I2 sp' hsa 0 (.inr ⟨rfl,?_⟩) rfl (by rcases hw with rfl|⟨rfl,hlt⟩<;>simp only[yD] at hl<;>(first|exact Om.Nh hk hl hcl hn|exact Om.Ni hk hl hcl hlt hn)) rfl⟩,trivial⟩,fun hb=>⟨⟨_,aD.fold hsl,?_⟩,trivial⟩⟩
  ·rcases hw with rfl|⟨rfl,hlt⟩
   ·exact Om.Nj hl hcl hn
   ·simp only[yD] at hl;exact Om.Nk hl hcl hlt hn
  ·have:=P.yes hb
   rw[St.len_list]
   exact List.length_pos_iff.mpr this
  ·have e1:=P.no hb
   have e2:=P.fin hb
   have hr0:r'=[]:=by rw[h2,e1,e2];rfl
   subst hr0
   obtain⟨g1,g2⟩:=wO (p:=p) (a:=s++a) (b:=[]) hsa (fun c r e=>by cases e)
   rw[←sp'] at g1 g2
   have:=hE _ _ _ _ _ _ _ _ (k+1) ((off+a.length:Nat):Int) (g1.symm▸g2.symm▸I2) (by exact Om.Nl hw hn hk hoff hl hcl)
   rw[g1] at this
   exact this
 refine⟨fun h1=>⟨fun h2=>⟨⟨_,fun qq qq qq R=>R,?_⟩,trivial⟩,fun h2=>rd ?_⟩,fun h1=>⟨fun h2=>⟨by exact Om.Dr hsz hch,hP,⟨_,aD.fold (a:=a) ?_,?_⟩,trivial⟩,fun h2=>rd ?_⟩⟩
 ·have e0:a.length=0:=by have:=of_decide_eq_true h1;exact Om.Ds hl this
  have ea:a=[]:=pq e0
  have hne:off≠ch.length:=fun e=>by rw[e] at h2;simp at h2
  obtain⟨g1,g2⟩:=wO (p:=p) (a:=s) (b:=cur) all fun c r e=>by
   rw[I.hr,hab,ea] at e
   cases b with
   |nil=>simp only[yD] at hl;exact Om.Nm hoff e0 hne hl
   |cons c0 b0=>cases e;exact hb c b0 rfl
  rw[←sp] at g1 g2
  have:=hE _ _ _ _ _ _ _ _ k ((off+a.length:Nat):Int) (g1.symm▸g2.symm▸I) (by exact Om.Nn hn hk)
  rw[g1] at this
  exact this
 ·have e0:a.length=0:=by have:=of_decide_eq_true h1;exact Om.Ds hl this
  have:off=ch.length:=by
   cases q:decide ((off:Int)=ch.length) with
   |true=>have:=of_decide_eq_true q;exact Om.Np this
   |false=>rw[q] at h2;cases h2
  exact pq (by exact Om.Nq hl e0 this)
 ·rw[St.Gb,hab,kh,rI]
 ·obtain⟨r',h3,h4,I2⟩:=I.skip (n:=a.length) (by exact Om.Nr hoff hl)
  rw[hab,rI,dmap] at I2
  rw[hab,rI] at h3
  have hcl:cur.length=a.length+r'.length:=by rw[h3,bG]
  have sp':r0=(s++a)++r':=by rw[sp,h3,bD]
  have hne:off+a.length≠ch.length:=fun e=>by rw[e] at h2;simp at h2
  obtain⟨g1,g2⟩:=wO (p:=p) (a:=s++a) (b:=r') hsa fun c r e=>by
   rw[h4,←uQ,hab,List.drop_left] at e
   cases b with
   |nil=>simp only[yD] at hl;exact Om.Nt hoff hne hl
   |cons c0 b0=>cases e;exact hb c b0 rfl
  rw[←sp'] at g1 g2
  have:=hE _ _ _ _ _ _ _ _ (k+1) ((off+a.length:Nat):Int) (g1.symm▸g2.symm▸I2) (by have:=of_decide_eq_false h1;exact Om.Nu hn hk hl hcl this)
  rw[g1] at this
  exact this
 ·have:off+a.length=ch.length:=by
   cases q:decide ((((off+a.length:Nat):Int))=ch.length) with
   |true=>have:=of_decide_eq_true q;exact Om.Nv hl this
   |false=>rw[q] at h2;cases h2
  exact pq (by exact Om.Nx hl this)
end
end
end Ex
end
section
namespace Ex
noncomputable section
noncomputable abbrev Hx (e:Expr) (i:Nat):Expr:=dY e i
noncomputable abbrev kY (e:Expr):Expr:=dY e 0
noncomputable abbrev wQ (e:Expr):Expr:=dY e 1
noncomputable abbrev cC (e:Expr):Pos:=e.pos
noncomputable abbrev bQ (s:Stmt):Expr:=ku s 0
noncomputable abbrev fT (s:Stmt):Pos:=(ku s 1).pos
noncomputable abbrev fU (s:Stmt):Pos:=s.pos
noncomputable abbrev Hy (e:Expr):Expr:=dY (dY e 0) 0
noncomputable abbrev A4 (e:Expr):Pos:=(dY e 0).pos
noncomputable abbrev fc (e:Expr):List Expr:=(eK e).drop 1
noncomputable def wR:Stmt:=aV (iW (cB 1)) 0
noncomputable def kZ:Stmt:=aV (iW (cB 1)) 1
noncomputable abbrev t0:Expr:=Hx (kX kZ) 0
noncomputable abbrev t1:Expr:=Hx (kX kZ) 1
theorem YI:Tb.fS.body=[.Assign [.Name (aa "rv") (fT (cB 0))] (.List [] (cC (bQ (cB 0)))) (fU (cB 0)),.While (kX (cB 1)) (iW (cB 1)) [] (fU (cB 1)),.Assign [.Name (aa "r") (fT (cB 2))] (bQ (cB 2)) (fU (cB 2)),.Return (some (.Name (aa "r") (cC (bQ (cB 3))))) (fU (cB 3))]:=by kernel_rfl
theorem YJ:iW (cB 1)=.Assign [.Name (aa "end") (fT wR)] (bQ wR) (fU wR)::kZ::Hv:=by kernel_rfl
theorem YK:kZ=.While (.BoolOp .And [t0,t1] (cC (kX kZ))) (iW kZ) [] (fU kZ):=by kernel_rfl
theorem YL:t1=.Compare (.Compare (kY (kY t1)) [.In] [.Name (aa "characters") (cC (wQ (kY t1)))] (cC (kY t1))) [.Eq] [.Name (aa "opposite") (cC (wQ t1))] (cC t1):=by kernel_rfl
theorem YM:bQ (cB 2)=.Call (.Attribute (Hy (bQ (cB 2))) (aa "join") (A4 (bQ (cB 2)))) [.Name (aa "rv") (cC ((fc (bQ (cB 2))).headD default))] [] (cC (bQ (cB 2))):=by kernel_rfl
noncomputable abbrev gw (W:Wd):Gx:=gi (WS W) Tb.fS.scope 4 []
section
variable{W:Wd}{ch tx:Str}{off pl pc place en m:Nat}{bf:Option Nat}{ext:List SO}{y:SV}{opp:Bool}{fa:List Fact}
theorem r0(i:Int)(K:SV→SS→Prop):Hu (gw W) t0 (Le y opp m i) (aW ch tx off pl pc place en bf++ext) fa K=(K (.sb (!decide (i=(ch.length:Int)))) ⟨Le y opp m i,.b (aW ch tx off pl pc place en bf++ext),fa⟩∧True):=by kernel_rfl
theorem r1(i:Int)(K:SV→SS→Prop):wN (gw W) (kY (kY t1)) (Le y opp m i) (aW ch tx off pl pc place en bf++ext) fa K=(Ar ch i∧K (.ss (fG ch i)) ⟨Le y opp m i,.b (aW ch tx off pl pc place en bf++ext),fa⟩∧True):=by kernel_rfl
theorem r2(i:Int)(K:Fl→SS→Prop):kU (WS W) Tb.fS.scope 4 [] (iW kZ) (Le y opp m i) (aW ch tx off pl pc place en bf++ext) fa K=(K .next ⟨(aa "end",.si (i+1))::Le y opp m i,.b (aW ch tx off pl pc place en bf++ext),fa⟩∧True):=by kernel_rfl
theorem r3(K:SV→SS→Prop):wN (gw W) (bQ wR) (L0 y opp m) (aW ch tx off pl pc place en bf++ext) fa K=(K (.si off) ⟨L0 y opp m,.b (aW ch tx off pl pc place en bf++ext),fa⟩∧True):=by kernel_rfl
theorem r4(loc:List (Str×SV))(os:List SO)(K:SV→SS→Prop):wN (gw W) (Hy (bQ (cB 2))) loc os fa K=(K (.str (aa "")) ⟨loc,.b os,fa⟩∧True):=by kernel_rfl
theorem r5(σ:SS)(K:SV→SS→Tr):((ex 60 (gw W)).T (kX (cB 1)) σ K).t=K (.bool true) σ:=by kernel_rfl
theorem YN{G:Gx}{σ:SS}{K:SV→SS→Prop}{a b:Bool}(k:K (.sb (a==b)) σ):aC G (compareOp .Eq) (.sb a) (.bool b) σ K:=.mk fun c ρ s v u at_ r q=>by
 obtain rfl:=r
 obtain rfl:=q
 exact PyProof.Rows.eq_bool (at_.give (V:=VR G.D) (x:=.sb (a==b)) (pr _) rfl k)
theorem YO{S:List Nat}(hch:ch.length≤20000)(hoff:off≤ch.length)
 (hin:∀(c:Nat) (loc:List (Str×SV)) (K:SV→SS→Prop),K (.sb (aH c S)) ⟨loc,.b (aW ch tx off pl pc place en bf++ext),fa⟩→aC (gw W) (compareOp .In) (.ss ⟨#[c]⟩) y ⟨loc,.b (aW ch tx off pl pc place en bf++ext),fa⟩ K)
 {K:Fl→SS→Prop} (k:K .next ⟨Le y opp m ((off+((ch.cps.toList.drop off).takeWhile (fun c=>aH c S==opp)).length:Nat):Int),.b (aW ch tx off pl pc place en bf++ext),fa⟩):
 bw (gw W) kZ ⟨Le y opp m off,.b (aW ch tx off pl pc place en bf++ext),fa⟩ K:=by
 have g:bE (gw W):=mQ fun x hx=>by cases hx
 rw[YK]
 have hsl:=sizeLine_eq
 have hl:=St.len_list ch
 let p:Nat→Bool:=fun c=>aH c S==opp
 refine sY (fun qq qq qq h=>h) (fun n σ=>∃i,off+i≤ch.length∧n=ch.length-(off+i)∧σ=⟨Le y opp m ((off+i:Nat):Int),.b (aW ch tx off pl pc place en bf++ext),fa⟩∧((ch.cps.toList.drop off).take i).all p=true) ?_ (ch.length-off) ⟨0,hoff,rfl,rfl,rfl⟩
 rintro n σ ⟨i,hi,rfl,rfl,hall⟩
 refine nT (tK g ?_)
 rw[r0]
 have hdl:(ch.cps.toList.drop off).length=ch.length-off:=by rw[ja,←St.len_list]
 refine⟨⟨fun h1=>?_,fun h1=>?_⟩,trivial⟩
 ·have hne:off+i≠ch.length:=fun e=>by rw[e] at h1;simp at h1
  have hlt:off+i<ch.cps.toList.length:=by exact Om.Ny hl hi hne
  refine nT ?_
  rw[YL]
  refine cmp_T (fun qq=>rfl) (zw (fun qq=>rfl) (Av g ?_))
  rw[r1]
  refine⟨⟨by exact Om.Nz hl hlt,by exact Om.NB hl hlt,by exact Om.NC hch hsl hl⟩,c9 (x:=y) (by kernel_rfl) (by kernel_rfl) (by kernel_rfl) ?_,trivial⟩
  rw[St.sQ ch (off+i) (iD hlt)]
  refine hin _ _ _ (c9 (x:=.bool opp) (by kernel_rfl) (by kernel_rfl) (by kernel_rfl) (YN (mj (fun r=>⟨_,r,rfl⟩) ⟨fun h2=>vD (aK.ent (An (W:=W) (K:=fun fl σ'=>fl=.next∧σ'=⟨(aa "end",.si (((off+i:Nat):Int)+1))::Le y opp m ((off+i:Nat):Int),.b (aW ch tx off pl pc place en bf++ext),fa⟩) (fun x hx=>Om.nm hx) ?_) ?_),fun h2=>?_⟩)))
  ·exact r2 _ _▸⟨⟨rfl,rfl⟩,trivial⟩
  ·rintro fl σ' ⟨rfl,rfl⟩
   refine⟨⟨Le y opp m ((off+(i+1):Nat):Int),.b (aW ch tx off pl pc place en bf++ext),fa⟩,.of (fun x z hx=>?_) rfl rfl,ch.length-(off+(i+1)),by exact Om.ND hl hlt,i+1,by exact Om.NF hl hlt,rfl,rfl,?_⟩
   ·show lk x ((aa "end",_)::Le y opp m _)=some z
    have hx':lk x ((aa "end",SV.si ((off+(i+1):Nat):Int))::L0 y opp m)=some z:=hx
    rw[b6] at hx'⊢
    by_cases hc:x=aa "end"
    ·rw[if_pos hc] at hx'⊢;exact hx'
    ·rw[if_neg hc] at hx'⊢;rw[b6,if_neg hc];exact hx'
   ·have hi':i<(ch.cps.toList.drop off).length:=by exact Om.Dt hoff hl hdl hne hlt
    rw[JL hi',List.all_append,hall,Bool.true_and]
    simp only[List.getElem_drop,nD,List.all_nil,Bool.and_true]
    exact h2
  ·have hd:(ch.cps.toList.drop off).drop i=ch.cps.toList[off+i]::ch.cps.toList.drop (off+i+1):=by rw[uQ,kg hlt]
   have hsp:ch.cps.toList.drop off=(ch.cps.toList.drop off).take i++ch.cps.toList[off+i]::ch.cps.toList.drop (off+i+1):=by rw[←hd,gB]
   have h2':p ch.cps.toList[off+i]=false:=h2
   have:((ch.cps.toList.drop off).takeWhile p).length=i:=by
    rw[hsp,(wO hall fun c r e=>by cases e;exact h2').1,lN];exact Om.NG hoff hl hdl hne hlt
   rw[this] at k
   exact k
 ·have he:off+i=ch.length:=by
   cases e:decide ((((off+i:Nat):Int))=(ch.length:Int)) with
   |true=>have:=of_decide_eq_true e;exact Om.NH hl this
   |false=>rw[e] at h1;cases h1
  have:((ch.cps.toList.drop off).takeWhile p).length=i:=by
   rw[fq (by exact Om.NI hl hdl he)] at hall
   rw[YB hall,hdl];exact Om.NJ hl he
  rw[this] at k
  exact k
end
theorem bz.cons{D:Wd}{cs:bW}{n:Nat}{cons cons':List (Addr×Nat×bx)}{b:List Stmt}{σ:SS}{K:Fl→SS→Prop}(h:bz (gi D cs n cons) b σ K):bz (gi D cs n cons') b σ K:=fun c ρ s w a r=>h c ρ s w ⟨a.toRepS,a.cs,a.ok,a.tk,a.rx,a.cv,a.hf⟩ r
structure wU (W:Wd) (S:List Nat) (opp:Bool) (y:SV) (m:Nat) (x0:List SO) (fa:List Fact):Prop where
 len:m=5+x0.length
 hin:∀(os os2:List SO) (c:Nat) (loc:List (Str×SV)) (K:SV→SS→Prop),os.length=5→K (.sb (aH c S)) ⟨loc,.b (os++(x0++os2)),fa⟩→aC (gw W) (compareOp .In) (.ss ⟨#[c]⟩) y ⟨loc,.b (os++(x0++os2)),fa⟩ K
 hv:∀(K:Fl→SS→Prop) (e:Nat) (ch tx:Str) (off pl pc place en:Nat) (bf:Option Nat) (s:List Nat) (k:Nat),Ay (WS W) K e ch tx off pl pc place en bf s k y opp m x0 fa=uW K e ch tx off pl pc place en bf s k y opp m x0 fa
end
end Ex
end
section
namespace Ex
noncomputable section
theorem bL{e:Expr}(h:(jK e).isSome=true):cG e:=((jK e).get h).1
theorem wV:∀ys:List Str,(kq ⟨#[]⟩ ys).cps.toList=ys.flatMap fun y=>y.cps.toList
 |[]=>rfl
 |[y]=>by
  show(uM ⟨#[]⟩ [y]).cps.toList=_
  rw[uC]
  simp[rM]
 |y::z::r=>by
  have ih:=wV (z::r)
  have e:(kq ⟨#[]⟩ (y::z::r))=uM ⟨#[]⟩ (y::z::r):=rfl
  have e':(kq ⟨#[]⟩ (z::r))=uM ⟨#[]⟩ (z::r):=rfl
  rw[e,uC,zV _ _ _ (by simp),←uC,←e',ih]
  simp
theorem A5{G:Gx}{σ:SS}{K:SV→SS→Prop}{i k:Nat}{s:List Nat}{x:SV}(hx:bI x ⟨#[]⟩)(ho:σ.objs.list[i]? =some (.list (some (.txt s k)) []))(hz:s.length≤100000)(hk:k≤100000)(h:K (.ss ⟨s.toArray⟩) σ):bB G (.builtin "str.join") [x,.obj i] σ K:=.two<|.mk fun c ρ st v u at_ r q=>by
 obtain⟨_,rfl⟩:=hx r
 obtain⟨b,us,vs,rfl,⟨ys,hys,hs,hl⟩,f,l⟩:=at_.list ho q
 cases f
 rw[dW] at l
 have hlen:(ys.map (·.length)).sum=s.length:=by
  rw[←hs]
  clear hs hys hl
  induction ys with
  |nil=>rfl
  |cons y ys ih=>rw[eL,List.sum_cons,ih,Cp,bG,St.len_list]
 refine join_le (vs:=us) l hys (by rw[hlen];show _+ys.length*0≤_;exact Om.NK hz hlen) fun t' k' hk=>(at_.tok hk).give (V:=VR G.D) (x:=.ss ⟨s.toArray⟩) (pr _) ⟨t',?_⟩ h
 congr 1
 exact gT ((wV ys).trans (by rw[hs]))
section
variable{W:Wd}{S:List Nat}{opp:Bool}{y:SV}{m:Nat}{x0:List SO}{fa:List Fact}
noncomputable abbrev pS (S:List Nat) (opp:Bool) (c:Nat):Bool:=aH c S==opp
theorem YQ(Y:wU W S opp y m x0 fa){d:Option (List Nat)}{r0:List Nat}{un:Option (List Nat)}{ch tx:Str}{off pl pc place en:Nat}{bf:Option Nat}(I:cQ d r0 un ch tx off pl pc place en bf){K:Fl→SS→Prop}
 (hK:∀ch tx off pl pc place en bf l o,cQ (d.map (· ++r0.takeWhile (pS S opp))) (r0.dropWhile (pS S opp)) none ch tx off pl pc place en bf→K (.ret (.ss ⟨(r0.takeWhile (pS S opp)).toArray⟩)) ⟨l,.b (aW ch tx off pl pc place en bf++(x0++[o])),fa⟩):
 bz (gw W) Tb.fS.body ⟨[(aa "self",.obj 0),(aa "characters",y),(aa "opposite",.bool opp)],.b (aW ch tx off pl pc place en bf++x0),fa⟩ K:=by
 have g:bE (gw W):=mQ fun x hx=>by cases hx
 have hml:=Y.len
 have hlr:∀{ch tx:Str} {off pl pc place en:Nat} {bf:Option Nat},(aW ch tx off pl pc place en bf).length=5:=rfl
 have hrl:=I.len
 rw[YI]
 refine cP (gR (bL (by kernel_rfl)) (by kernel_rfl) (vQ (fP ⟨rfl,?_⟩)))
 have hm0:(aW ch tx off pl pc place en bf++x0).length=m:=by rw[bG,hlr];exact Om.NL hml
 show bz _ _ ⟨(aa "rv",.obj (aW ch tx off pl pc place en bf++x0).length)::_,OL.a (.b (aW ch tx off pl pc place en bf++x0)) (.list none []),fa⟩ _
 rw[hm0]
 refine aK.pre (σ':=⟨L0 y opp m,.b (uO ch tx off pl pc place en bf [] 0 x0 []),fa⟩) ?_ (cP ?_)
 ·have e1:aD (WS W) ⟨L0 y opp m,OL.a (.b (aW ch tx off pl pc place en bf++x0)) (.list none []),fa⟩ ⟨L0 y opp m,.b ((aW ch tx off pl pc place en bf++x0)++[.list none []]),fa⟩:=.of (fun qq qq e=>e) (eW _ _).symm rfl
  rw[A1]
  exact e1.trans (aD.last fun X ρ a l r=>OR.YD r)
 ·let Kf:Fl→SS→Prop:=fun fl σ=>match fl with
   |.next=>bz (gw W) [.Assign [.Name (aa "r") (fT (cB 2))] (bQ (cB 2)) (fU (cB 2)),.Return (some (.Name (aa "r") (cC (bQ (cB 3))))) (fU (cB 3))] σ K
   |fl=>K fl σ
  have hE:Hw (pS S opp) d r0 y opp m x0 fa Kf:=fun ch tx off pl pc place en bf k e I2 hk=>by
   show bz _ _ _ _
   refine cP (gR (bL (by kernel_rfl)) (by kernel_rfl) ?_)
   rw[YM]
   refine sG (fun qq qq qq=>rfl) (by kernel_rfl) (fun t ht=>by rw[dU] at ht;subst ht;exact fun qq qq=>rfl) rfl (Av g ?_)
   rw[r4]
   refine⟨nY .join (a:=⟨#[]⟩) (fun{_ _ _} r=>r) (fun t ht=>by rw[dU] at ht;subst ht;exact fun qq qq=>rfl) (dP (fun qq qq=>rfl) (c9 (x:=.obj m) (by kernel_rfl) (by kernel_rfl) (by kernel_rfl) (fP (A5 (s:=r0.takeWhile (pS S opp)) (k:=k) (fun{_ _ _} r=>r) ?_ ?_ (by exact Om.NN hk) (cP (vG (c9 (x:=.ss ⟨(r0.takeWhile (pS S opp)).toArray⟩) (by kernel_rfl) (by kernel_rfl) rfl (hK _ _ _ _ _ _ _ _ _ _ I2)))))))),trivial⟩
   ·show(aW ch tx off pl pc place en bf++(x0++[_]))[m]? =_
    rw[fj (by rw[hlr];exact Om.NO hml hm0),hlr,fj (by exact Om.NP hml hm0),show m-5-x0.length=0 by exact Om.NQ hml];rfl
   ·have:=(ye (l:=r0) (pS S opp)).length_le;exact Om.NR hrl this
  refine aK.mp (sY (K:=Kf) (fun qq qq qq h=>h) (Az (pS S opp) d r0 y opp m x0 fa) ?_ (2*r0.length+(if off<ch.length then 0 else 1)) ?_) fun fl σ z=>?_
  ·rintro n σ ⟨ch,tx,off,pl,pc,place,en,bf,s,k,cur,I,sp,all,w,hw,hn,hk,rfl⟩
   refine((ex 60 (gw W)).T (kX (cB 1)) _ (fun x σ'=>.pr (Br x σ' (fun σ₁=>bz (gw W) (iW (cB 1)) σ₁ (z5 Kf fun σ₂=>∃n',n'<n∧Az (pS S opp) d r0 y opp m x0 fa n' σ₂)) (Kf .next)) .tt)).ok ?_ g|>.mp fun qq qq z=>z.1
   rw[r5]
   refine⟨?_,trivial⟩
   show bz _ _ _ _
   rw[YJ]
   refine cP (gR (bL (by kernel_rfl)) (by kernel_rfl) (Av g ?_))
   rw[r3]
   refine⟨cP (YO I.hch I.hoff (fun c loc K hk=>Y.hin _ _ c loc K rfl hk) ?_),trivial⟩
   refine aK.ent (K:=A3 (WS W) (pS S opp) d r0 y opp m x0 fa Kf n) (bz.cons (An (W:=W) (cons:=[(141,3,tF ch tx off pl pc place en bf)]) (qv (Hs W ch tx off pl pc place en bf)) ?_)) fun x σ' z=>z
   exact(Y.hv _ _ _ _ _ _ _ _ _ _ _ _).mpr (YH hE I sp all hw hn hk)
  ·refine⟨ch,tx,off,pl,pc,place,en,bf,[],0,r0,⟨I.hoff,I.hr,fun g hg=>?_,I.hp,I.hz,I.hch,I.hen,I.d7,fun l e=>Om.ns e,I.hno⟩,rfl,rfl,_,?_,rfl,?_,rfl⟩
   ·cases d with
    |none=>cases hg
    |some d0=>exact I.hd g (by rw[←hg];exact congrArg some (dW d0).symm)
   ·by_cases h:off<ch.length
    ·rw[if_pos h];exact .inr ⟨rfl,h⟩
    ·rw[if_neg h];exact .inl rfl
   ·split<;>(first|exact Om.NS hrl|exact Om.NT hrl)
  ·cases fl<;>exact z
end
end
end Ex
end
section
namespace Ex
noncomputable section
noncomputable def oH (b:Bool) (S:List Nat) (t:Tm):Tm:=@aj (fun qq=>Tm) (QI S t) (yY S t) b
noncomputable def Hz (b:Bool) (S:List Nat) (t:Tm):Tm:=@aj (fun qq=>Tm) (QJ S t) (vd S t) b
theorem HA(S:List Nat)(b:Bool):pS S b=fun c=>@aj (fun qq=>Bool) (!aH c S) (aH c S) b:=by
 funext c
 unfold pS
 cases b<;>cases aH c S<;>rfl
theorem HB(η:Ev)(b:Bool)(S:List Nat)(t:Tm):(oH b S t).ev η=(t.ev η).takeWhile (pS S b):=by rw[HA];cases b<;>rfl
theorem YR(η:Ev)(b:Bool)(S:List Nat)(t:Tm):(Hz b S t).ev η=(t.ev η).dropWhile (pS S b):=by rw[HA];cases b<;>rfl
structure tL (f:c8) (xs:List SV) (S:List Nat):Prop where
 of:∀{W:Wd} {ρ:List Addr} {vs:List Value},aG W ρ xs vs→f.Of vs
 s:∀c,has ⟨#[c]⟩ f.s=aH c S
inductive HC (y:SV) (σ:SS) (S:List Nat) (o:OL):Prop
 |t (t:Addr) (xs:List SV) (f:c8) (e:y=.val (.ref t)) (h:aQ t Tb.T.tups=some xs) (hf:tL f xs S) (ho:o=σ.objs)
 |o (t:Nat) (zs:List SV) (f:c8) (e:y=.obj t) (h:σ.objs.list[t]? =some (.tup zs)) (hz:zs.all bZ=true) (hf:tL f zs S) (ho:o=OL.s σ.objs t .gone)
noncomputable def HD (xs:List SV):Option {z:c8×List Nat//tL z.1 xs z.2}:=ak (zg xs) fun f=>(ones f.1.s).map fun S=>⟨(f.1,S.1),f.2,fun c=>S.2 ⟨fun qq=>[],fun qq=>0,fun qq qq=>[],fun qq qq=>0,fun qq qq=>false⟩ [c]⟩
noncomputable def YS (t:Addr):Option {xs:List SV//aQ t Tb.T.tups=some xs}:=@aU _ (fun o=>o=aQ t Tb.T.tups→Option {xs:List SV//aQ t Tb.T.tups=some xs}) (fun qq=>af) (fun xs h=>some ⟨xs,h.symm⟩) (aQ t Tb.T.tups) rfl
noncomputable def HE (y:SV) (σ:SS):Option {z:List Nat×OL//HC y σ z.1 z.2}:=fz (ak (zd y) fun t=>ak (YS t.1) fun xs=>(HD xs.1).map fun q=>⟨(q.1.2,σ.objs),.t t.1 xs.1 q.1.1 t.2 xs.2 q.2 rfl⟩)
 (ak (dB y) fun t=>ak (fQ σ.objs t.1) fun o=>ak (sq o.1) fun zs=>ak (aO (zs.1.all bZ)) fun hz=>(HD zs.1).map fun q=>⟨(q.1.2,OL.s σ.objs t.1 .gone),.o t.1 zs.1 q.1.1 t.2 (zs.2▸o.2) hz.1 q.2 rfl⟩)
noncomputable def tM (b:Bool) (S:List Nat) (st:eN):eN:=⟨st.d.map fun d=>(gZ d (oH b S st.r)).1,Hz b S st.r,af⟩
noncomputable def wW (x y:SV) (b:Bool) (σ:SS) (K:SV→SS→Tr):Tr:=@aU _ (fun qq=>Tr) .ff (fun z=>@aU _ (fun qq=>Tr) .ff (fun q=>K (.tm (oH b q.1.1 z.1.2.r)) ⟨σ.loc,OL.s q.1.2 z.1.1 (.blob (.strm (tM b q.1.1 z.1.2))),σ.fa⟩) (HE y σ)) (qz x σ)
noncomputable def wX:bx:=fun xs σ K=>match xs with
 |[x,y]=>wW x y false σ K
 |[x,y,w]=>match w with
  |.bool b=>wW x y b σ K
  |_=>.ff
 |_=>.ff
section
variable{W:Wd}{S:List Nat}{opp:Bool}{y:SV}{fa:List Fact}
theorem HF{σ:SS}{a:Str}{f:c8}:su σ (.ss a) f (.sb (has a f.s)):=fun qq r h=>by obtain⟨_,rfl⟩:=r;exact⟨.inr (.inr ⟨_,_,rfl⟩),h.s _ _⟩
theorem YT{t:Addr}{xs:List SV}{f:c8}(ht:aQ t Tb.T.tups=some xs)(hf:tL f xs S):wU W S opp (.val (.ref t)) 5 [] fa where
 len:=rfl
 hin:=fun os os2 c loc K hl k=>Eg ht hf.of HF (by rw[hf.s];exact k)
 hv:=fun K e ch tx off pl pc place en bf s k=>YF _ _ _ _ _ _ _ _ _ _ _ _ _ _ _ _
theorem YU{zs:List SV}{f:c8}(hf:tL f zs S):wU W S opp (.obj 5) 6 [.tup zs] fa where
 len:=rfl
 hin:=fun os os2 c loc K hl k=>Eh (xs:=zs) (by show(os++_)[5]? =_;rw[fj (by exact Om.NU hl),hl];rfl) hf.of HF (by rw[hf.s];exact k)
 hv:=fun K e ch tx off pl pc place en bf s k=>YG _ _ _ _ _ _ _ _ _ _ _ _ _ _ _ _ _
theorem HG{m:Nat}{x0:List SO}(Y:wU W S opp y m x0 fa){xs:List SV}(hx:iQ Tb.fS xs=[(aa "self",.obj 0),(aa "characters",y),(aa "opposite",.bool opp)])(h1:av Tb.fS.ps.length (xs.length+Tb.fS.ds.length)=true)(h2:av xs.length Tb.fS.ps.length=true)
 {mm:Nat} {cs:bW} {KX:Value→List Addr→SS→Prop} {con:List (Addr×Nat×bx)} {sc:List (Nat×Stmt×lZ)} {ec:List (Nat×Expr×mh)} {cv:List (Str×Nat)} {fr:Bool} {G':Gx} (hG:G'.D=WS W) (hn:5≤mm) {loc:List (Str×SV)} {i:Nat} {σ:SS} {K:SV→SS→Prop} {st:eN} {ch tx:Str} {off pl pc place en:Nat} {bf:Option Nat}
 (I:cQ (st.d.map (·.ev W.η)) (st.r.ev W.η) (st.un.map (·.ev W.η)) ch tx off pl pc place en bf) (hk:K (.tm (oH opp S st.r)) ⟨σ.loc,OL.s σ.objs i (.blob (.strm (tM opp S st))),fa⟩):
 au (⟨WS W,Tb.T,mm,cs,KX,con,sc,ec,cv,fr⟩:Gx) (.ref 156) xs ⟨loc,.b (aW ch tx off pl pc place en bf++x0),fa⟩ (sD (jS W.η) G' σ i K loc):=by
 refine au.sw (n:=5) (cons:=[]) hn (mr (i:=Tb.fS) (n:=4) rfl rfl h1 h2 ?_)
 rw[hx]
 refine YQ Y I fun ch tx off pl pc place en bf l o I2=>?_
 rw[←HB,←YR] at I2
 refine .mk (.strm (tM opp S st)) 5 (.tm (oH opp S st.r)) rfl ⟨ch,tx,off,pl,pc,place,en,bf,rfl,?_⟩ (by cases bf<;>rfl) (by decide) (fun qq ρ ρ' v r=>?_) fun qq=>hk
 ·have e:(tM opp S st).d.map (·.ev W.η)=(st.d.map (·.ev W.η)).map (· ++(oH opp S st.r).ev W.η):=by
   show Option.map _ (Option.map _ st.d)=_
   cases st.d with
   |none=>rfl
   |some d=>exact congrArg some ((gZ d _).2 W.η)
  rw[e];exact I2
 ·obtain⟨t,rfl⟩:=r
  rw[hG]
  exact⟨t,by rw[←HB];rfl⟩
theorem HH{G:Gx}(hD:G.D=WS W)(hT:G.T=Tb.T)(hn:5≤G.n){x y:SV}{b:Bool}{σ:SS}{K:SV→SS→Tr}(h:(wW x y b σ K).h){ys:List SV}(hys:ys.all bZ=true)
 (hb:∀x y,iQ Tb.fS (x::y::ys)=[(aa "self",x),(aa "characters",y),(aa "opposite",.bool b)]) (h1:av Tb.fS.ps.length (ys.length+2+Tb.fS.ds.length)=true) (h2:av (ys.length+2) Tb.fS.ps.length=true):au G (.ref 156) (x::y::ys) σ (hh K):=by
 obtain⟨D,T,m,cs,KX,con,sc,ec,cv,fr⟩:=G
 obtain rfl:D=WS W:=hD
 obtain rfl:T=Tb.T:=hT
 unfold wW at h
 cases q:qz x σ with
 |none=>rw[q] at h;exact h.elim
 |some z=>
  rw[q] at h
  cases q2:HE y σ with
  |none=>rw[q2] at h;exact h.elim
  |some w=>
   rw[q2] at h
   obtain⟨⟨i,st⟩,e,ho⟩:=z
   have e':x=.obj i:=e
   subst e'
   obtain⟨⟨S,o⟩,hs⟩:=w
   have hs':HC y σ S o:=hs
   have hk:hh K (.tm (oH b S st.r)) ⟨σ.loc,OL.s o i (.blob (.strm (tM b S st))),σ.fa⟩:=h
   clear hs h q q2
   rcases hs' with⟨t,xs,f,e2,ht,hf,ho2⟩|⟨t,zs,f,e2,ht,hz,hf,ho2⟩
   ·subst e2 ho2
    refine E3 (MM:=jS W.η) (s9 W) ho (by rw[nD,hys];rfl) fun loc osi ⟨ch,tx,off,pl,pc,place,en,bf,e,I⟩=>?_
    subst e
    have:=HG (W:=W) (YT (W:=W) (opp:=b) (fa:=σ.fa) ht hf) (xs:=.obj 0::.val (.ref t)::ys) (hb _ _) h1 h2 (G':=⟨WS W,Tb.T,m,cs,KX,con,sc,ec,cv,fr⟩) rfl hn (cs:=cs) (KX:=fun qq qq qq=>False) (con:=con) (sc:=[]) (ec:=[]) (cv:=[]) (fr:=false) (loc:=loc) (i:=i) (σ:=σ) (K:=hh K) I hk
    rw[dW] at this
    exact this
   ·subst e2 ho2
    refine SQ (MM:=jS W.η) (s9 W) ho ht hz hys fun loc osi ⟨ch,tx,off,pl,pc,place,en,bf,e,I⟩=>?_
    subst e
    have:=HG (W:=W) (YU (W:=W) (opp:=b) (fa:=σ.fa) hf) (xs:=.obj 0::.obj 5::ys) (hb _ _) h1 h2 (G':=⟨WS W,Tb.T,m,cs,KX,con,sc,ec,cv,fr⟩) rfl hn (cs:=cs) (KX:=fun qq qq qq=>False) (con:=con) (sc:=[]) (ec:=[]) (cv:=[]) (fr:=false) (loc:=loc) (i:=i) (σ:=⟨σ.loc,OL.s σ.objs t .gone,σ.fa⟩) (K:=hh K) I hk
    have e5:(aW ch tx off pl pc place en bf).length=5:=rfl
    rw[e5]
    exact au.pre (σ':=⟨loc,.b (aW ch tx off pl pc place en bf++[SO.tup zs]),σ.fa⟩) (.of (fun qq qq e=>e) (eW (aW ch tx off pl pc place en bf) (.tup zs)).symm rfl) this
theorem YV(W:Wd):cH (WS W) (156,5,wX):=fun G hD hT hn xs σ K h=>by
 have h':(wX xs σ K).h:=h
 unfold wX at h'
 split at h'
 ·exact HH hD hT hn h' (ys:=[]) rfl (fun x y=>by kernel_rfl) (by kernel_rfl) (by kernel_rfl)
 ·split at h'
  ·exact HH hD hT hn h' (ys:=[.bool _]) rfl (fun x y=>by kernel_rfl) (by kernel_rfl) (by kernel_rfl)
  ·exact h'.elim
 ·exact h'.elim
end
end
end Ex
end
section
namespace Ex
noncomputable section
structure A6 (η:Ev):Prop where
 aX:∀l,η.f 10 l=aX l
 v:∀i,∀c∈η.v i,c<55296∨57343<c
 c:∀i,η.c i<55296∨57343<η.c i
noncomputable def mR (c:Nat):Bool:=@aj (fun qq=>Bool) (cW 57343 c) true (cW c 55296)
theorem A7{c:Nat}(h:mR c=true):c<55296∨57343<c:=by
 have h':@aj (fun qq=>Bool) (cW 57343 c) true (cW c 55296)=true:=h
 cases e:cW c 55296 with
 |true=>exact .inl (ao e)
 |false=>rw[e] at h';exact .inr (ao h')
noncomputable def oJ:Tm→Bool:=Tm.rec true fun k l qq qq a b=>match k with
 |0=>l.all mR
 |1=>true
 |2=>true
 |5=>@aj (fun qq=>Bool) false b a
 |3=>a
 |4=>a
 |6=>a
 |7=>a
 |8=>a
 |9=>a
 |_=>false
theorem YW{η:Ev}(h:A6 η):∀{t:Tm},oJ t=true→∀c∈t.ev η,c<55296∨57343<c:=@fun t=>by
 induction t with
 |e=>intro _ c hc;cases hc
 |n k l a b iha ihb=>
  intro hk c hc
  match k with
  |0=>exact A7 (bH.mp hk c hc)
  |1=>exact h.v _ c hc
  |2=>obtain rfl:=dU.mp hc;exact h.c _
  |3=>exact iha hk c (List.mem_of_mem_take hc)
  |4=>exact iha hk c (JS hc)
  |5=>
   obtain⟨h1,h2⟩:=gM (a:=oJ a) (b:=oJ b) hk
   exact(f7.mp hc).elim (iha h1 c) (ihb h2 c)
  |6=>exact iha hk c ((ye _).subset hc)
  |7=>exact iha hk c ((ye _).subset hc)
  |8=>exact iha hk c ((rm _).subset hc)
  |9=>exact iha hk c ((rm _).subset hc)
  |_+10=>cases hk
noncomputable def YX (x:Tm) (f:Fact):Option {r:Tm//∀η,f.ok η→η.f 10 (x.ev η)=r.ev η}:=match f with
 |⟨k,l,a,b,v⟩=>match a with
  |.n k' l' y z=>ak (aO (aB k 2)) fun h1=>ak (aO v) fun h2=>ak (aO (aB k' 10)) fun h3=>(aO (cz x y)).map fun h4=>⟨b,fun η h=>by
    have h':aZ η k l (DR η k' l' (y.ev η) (z.ev η)) (b.ev η)=v:=h
    rw[bh h1.1,bh h3.1,h2.1] at h'
    rw[dO h4.1]
    exact of_decide_eq_true h'⟩
  |.e=>af
noncomputable def HJ (x:Tm):(fa:List Fact)→Option {r:Tm//∀η,aI η fa→η.f 10 (x.ev η)=r.ev η}:=@bu Fact (fun fa=>Option {r:Tm//∀η,aI η fa→η.f 10 (x.ev η)=r.ev η}) af fun f fa ih=>fz ((YX x f).map fun r=>⟨r.1,fun η h=>r.2 η (h f (.head _))⟩) (ih.map fun r=>⟨r.1,fun η h=>r.2 η fun g hg=>h g (.tail _ hg)⟩)
noncomputable def wY:bx:=fun xs σ K=>match xs with
 |[x]=>@aU _ (fun qq=>Tr) .ff (fun a=>@aj (fun qq=>Tr) .ff (@aj (fun qq=>Tr) .ff (@aU _ (fun qq=>Tr) .ff (fun r=>K (.obj σ.objs.length) ⟨σ.loc,OL.a σ.objs (.blob (.strm ⟨some (lit []),r.1,af⟩)),σ.fa⟩) (HJ a.1 σ.fa)) (oJ a.1)) (av a.1.bd 10000)) (sS x)
 |_=>.ff
noncomputable abbrev HK (tx:Str):List SO:=[.inst 166 [(aa "reportCharacterErrors",.obj 1),(aa "newLines",.obj 2),(aa "dataStream",.obj 3),(aa "chunk",.str (aa "")),(aa "chunkSize",.int 0),(aa "chunkOffset",.int 0),(aa "errors",.obj 4),(aa "prevNumLines",.int 0),(aa "prevNumCols",.int 0),(aa "_bufferedCharacter",.none)],.bX 148 (.obj 0),.list none [.int 0],.inst 73 [(aa "text",.ss tx),(aa "place",.int 0)],.list none []]
noncomputable def HL (D:Wd) (cs:bW) (n:Nat) (cons:List (Addr×Nat×bx)) (f:Addr) (xs:List SV) (loc:List (Str×SV)) (os:List SO) (fa:List Fact) (K:SV→SS→Prop):Prop:=(kO (ex 60) (gx D cs n cons) f xs ⟨loc,.b os,fa⟩ fun x σ'=>.pr (K x (fC σ')) .tt).t.h
theorem YY{W:Wd}{m n:Nat}{cs:bW}{KX:Value→List Addr→SS→Prop}{con:List (Addr×Nat×bx)}{sc:List (Nat×Stmt×lZ)}{ec:List (Nat×Expr×mh)}{cv:List (Str×Nat)}{fr:Bool}{cons:List (Addr×Nat×bx)}{f:Addr}{xs:List SV}{loc:List (Str×SV)}{os:List SO}{fa:List Fact}{K:SV→SS→Prop}
 (hn:n≤m) (g:∀x∈cons,cH (WS W) x) (h:HL (WS W) cs n cons f xs loc os fa K):au (⟨WS W,Tb.T,m,cs,KX,con,sc,ec,cv,fr⟩:Gx) (.ref f) xs ⟨loc,.b os,fa⟩ K:=
 au.nf (au.sw (G:=⟨WS W,Tb.T,m,cs,KX,con,sc,ec,cv,fr⟩) hn (((kO (ex 60) (gx (WS W) cs n cons) f xs ⟨loc,.b os,fa⟩ fun x σ'=>.pr (K x (fC σ')) .tt).ok h (Ah g)).mp fun qq qq z=>z.1))
theorem vN(D:Wd)(cs:bW)(K:SV→SS→Prop)(tx:Str)(loc:List (Str×SV))(fa:List Fact):HL D cs 5 [] 166 [.ss tx] loc [] fa K=(K (.obj 0) ⟨loc,.b (HK tx),fa⟩∧True):=by kernel_rfl
theorem YZ(tx:Str):(HK tx).map qw=[.inst 166 [(aa "reportCharacterErrors",.obj 1),(aa "newLines",.obj 2),(aa "dataStream",.obj 3),(aa "chunk",.ss ⟨#[]⟩),(aa "chunkSize",.si ((⟨#[]⟩:Str).length:Nat)),(aa "chunkOffset",.si ((0:Nat):Int)),(aa "errors",.obj 4),(aa "prevNumLines",.si ((0:Nat):Int)),(aa "prevNumCols",.si ((0:Nat):Int)),(aa "_bufferedCharacter",.none)],.bX 148 (.obj 0),.list none [.si 0],.inst 73 [(aa "text",.ss tx),(aa "place",.si ((0:Nat):Int))]]++[.list none []]:=by kernel_rfl
theorem OR.Y0{D:Wd}{X:List (Addr×Obj)}{ρ:List Addr}{a:Addr}{l:List (Addr×Obj)}(r:OR D X ρ a (.list none []) l):OR D X ρ a (.list (some (.fK 0)) []) l:=by
 obtain⟨us,vs,n,e,q,f⟩:=r
 obtain rfl:us=[]:=q
 exact⟨[],vs,n,e,az _,f⟩
set_option tactic.hygienic true in
theorem Y3(W:Wd)(ht:A6 W.η):cH (WS W) (166,5,wY):=fun G hD hT hn xs σ K h=>by
 obtain⟨D,T,m,cs,KX,con,sc,ec,cv,fr⟩:=G
 obtain rfl:D=WS W:=hD
 obtain rfl:T=Tb.T:=hT
 have h':(wY xs σ K).h:=h
 unfold wY at h'
 split at h'
 ·rename_i x
  cases q:sS x with
  |none=>rw[q] at h';exact h'.elim
  |some a=>
   rw[q] at h'
   dsimp only at h'
   cases q1:av a.1.bd 10000 with
   |false=>rw[q1] at h';exact h'.elim
   |true=>
    rw[q1] at h'
    cases q2:oJ a.1 with
    |false=>rw[q2] at h';exact h'.elim
    |true=>
     rw[q2] at h'
     cases q3:HJ a.1 σ.fa with
     |none=>rw[q3] at h';exact h'.elim
     |some r=>
      rw[q3] at h'
      have hk:hh K (.obj σ.objs.length) ⟨σ.loc,OL.a σ.objs (.blob (.strm ⟨some (lit []),r.1,af⟩)),σ.fa⟩:=h'
      refine au.facts fun ok=>⟨σ.fa,ok,?_⟩
      let tx:Str:=ai (a.1.ev W.η)
      have hl:tx.length=(a.1.ev W.η).length:=eY
      have hle:tx.length≤10000:=by rw[hl];exact ah (Tm.kB W.gJ a.1) (ao q1)
      refine au.conv (xs':=[.ss tx]) (fun ρ vs r=>?_) (SY (MM:=jS W.η) (s9 W) rfl fun loc=>au.ent (YY (n:=5) (cons:=[]) hn (fun x hx=>Om.nm hx) ?_))
      ·cases r using Each.ec with
       |cons r rs=>
        obtain⟨t,rfl⟩:=a.2 r
        exact .cons ⟨t,rfl⟩ rs
      ·rw[vN]
       refine⟨⟨⟨loc,.b (aW ⟨#[]⟩ tx 0 0 0 0 0 none),σ.fa⟩,(aD.er (YZ tx)).trans (aD.last fun X ρ a l r=>OR.Y0 r),rfl,rfl,.strm ⟨some (lit []),r.1,af⟩,⟨⟨#[]⟩,tx,0,0,0,0,0,none,rfl,⟨az _,?_,fun g hg=>?_,.inl rfl,hle,by decide,by show 0+(tx.length-0)+0≤10000;exact Om.NV hl hle,.inl rfl,fun l e=>Om.ns e,YW ht q2⟩⟩,rfl,fun qq=>hk⟩,trivial⟩
       ·show r.1.ev W.η=aX (a.1.ev W.η)
        rw[←r.2 W.η ok,ht.aX]
       ·cases hg;exact⟨[],rfl,rfl⟩
 ·exact h'.elim
end
end Ex
end
section
namespace Ex
noncomputable section
noncomputable def d8 (c:Nat):Nat:=if 65≤c∧c≤90 then c+32 else c
noncomputable abbrev oK (e:Expr):Expr:=dY e 0
noncomputable abbrev tN (e:Expr):Pos:=(dY e 1).pos
noncomputable abbrev Y4 (e:Expr):Pos:=(dY e 2).pos
noncomputable abbrev Y5 (e:Expr):Pos:=e.pos
noncomputable def g9:Expr→bW→bW
 |.ListComp _ _ s _,_=>s
 |_,s=>s
noncomputable abbrev Y6 (e:Expr):Pos:=(dY (dY e 0) 0).pos
noncomputable def eF (e:Expr):Expr:=(fc e).headD default
noncomputable abbrev A8 (e:Expr) (n:Str) (sc:bW):Expr:=.Call (.Attribute (.Constant (.str (aa "")) 0 (Y6 e)) (aa "join") (A4 e)) [.ListComp (oK (eF e)) [⟨.Name (aa "c") (tN (eF e)),.Name n (Y4 (eF e)),[],0⟩] (g9 (eF e) sc) (Y5 (eF e))] [] (cC e)
noncomputable def tO (x:Nat) (K:SV→Prop):Prop:=fk (!decide ([x]<([65]:List Nat))) (fk (!decide (([90]:List Nat)<[x])) (1=1∧(0≤((x:Nat):Int)+32∧((x:Nat):Int)+32≤1114111)∧K (.ss ⟨#[(((x:Nat):Int)+32).toNat]⟩)∧True) (K (.ss ⟨#[x]⟩)∧True)) (K (.ss ⟨#[x]⟩)∧True)
theorem HM(a b:Nat):([a]<([b]:List Nat))↔a<b:=by simp[List.cons_lt_cons_iff]
theorem HN(a b:Nat):decide ([a]<([b]:List Nat))=decide (a<b):=by
 by_cases h:a<b
 ·rw[decide_eq_true h,decide_eq_true ((HM a b).mpr h)]
 ·rw[decide_eq_false h,decide_eq_false (fun hl=>h ((HM a b).mp hl))]
theorem Y7{x:Nat}{K:SV→Prop}(k:K (.ss ⟨#[d8 x]⟩)):tO x K:=by
 unfold tO
 rw[HN,HN]
 unfold d8 at k
 by_cases h:65≤x∧x≤90
 ·rw[if_pos h] at k
  rw[decide_eq_false (by exact Om.NW h:¬x<65),decide_eq_false (by exact Om.NX h:¬90<x)]
  have e:(((x:Nat):Int)+32).toNat=x+32:=by exact Om.NY h
  rw[e]
  exact⟨fun qq=>⟨fun qq=>⟨rfl,⟨by exact Om.NZ h e,by exact Om.N1 h e⟩,k,trivial⟩,fun e=>by cases e⟩,fun e=>by cases e⟩
 ·rw[if_neg h] at k
  refine⟨fun h0=>⟨fun h2=>?_,fun qq=>⟨k,trivial⟩⟩,fun qq=>⟨k,trivial⟩⟩
  by_cases h1:x<65
  ·rw[decide_eq_true h1] at h0;cases h0
  ·rw[decide_eq_true (by exact Om.N4 h h1:90<x)] at h2;cases h2
theorem aD.gone{D:Wd}{loc:List (Str×SV)}{os:OL}{o:SO}{fa:List Fact}:aD D ⟨loc,OL.a os o,fa⟩ ⟨loc,OL.a os .gone,fa⟩:=fun c ρ s R=>by
 obtain⟨⟨m,⟨ls,ad,l1,l2,g,gr,F,N⟩,hl⟩,tp,fa⟩:=R
 have l1':LR D c.R ρ (os.list++[o]) ls:=eW os.list o▸l1
 obtain⟨A,B,rfl,lA,lB⟩:=Each.split l1'
 cases lB using Each.ec with
 |@cons q _ r t=>
  cases t
  obtain⟨q1,q2⟩:=q
  have sl:(flat (A++[(q1,[])])++c.X).Sublist (flat (A++[(q1,q2)])++c.X):=by
   have e:∀l:List (Addr×Obj),flat (A++[(q1,l)])=flat A++l:=fun l=>by simp[flat]
   rw[e,e,dW]
   exact(afb _ _).append (jy _)
  exact⟨⟨m,⟨A++[(q1,[])],by rw[←ad];simp,(show LR D c.R ρ (snoc os.list .gone) _ from eW os.list .gone▸Each.app lA (.one rfl)),(sl.map aN).nodup l2,g,gr,F,fun p hp=>N p (sl.subset hp)⟩,hl⟩,tp,fa⟩
theorem OL.jT(t:OL)(x:SO):(OL.a t x).list[t.length]? =some x:=by
 show(snoc t.list x)[t.length]? =_
 rw[eW,t.len_eq,fj (az _),nE];rfl
theorem iX{G:Gx}{co:Str}{k:Nat}{pos:Pos}{σ:SS}{K:SV→SS→Prop}(h:K (.str co) σ):aq G (.Constant (.str co) k pos) σ K:=fun c ρ s qq a qq=>wpAny_Constant_str (a.t1.give (V:=VR _) (x:=.str co) (pr _) ⟨_,rfl⟩ h)
theorem aD.as{D:Wd}{n:Str}{x y:SV}{loc:List (Str×SV)}{os:OL}{fa:List Fact}(h:lk n loc=some x)(hv:gY D x y):aD D ⟨loc,os,fa⟩ ⟨(n,y)::loc,os,fa⟩:=fun c ρ s R=>⟨let⟨m,l,r⟩:=R.R;⟨m,l,fun z w e=>by
 have e':lk z ((n,y)::loc)=some w:=e
 rw[b6] at e'
 by_cases q:z=n
 ·rw[if_pos q] at e'
  cases e'
  obtain⟨v,a,b⟩:=r n x h
  exact⟨v,q▸a,hv _ _ b⟩
 ·rw[if_neg q] at e';exact r z w e'⟩,R.tp,R.fa⟩
theorem aD.un{D:Wd}{n:Str}{x y:SV}{loc:List (Str×SV)}{os:OL}{fa:List Fact}(h:lk n loc=some x)(hv:gY D y x):aD D ⟨(n,y)::loc,os,fa⟩ ⟨loc,os,fa⟩:=fun c ρ s R=>⟨let⟨m,l,r⟩:=R.R;⟨m,l,fun z w e=>by
 by_cases q:z=n
 ·subst q
  have e':lk z loc=some w:=e
  rw[h] at e'
  cases e'
  obtain⟨v,a,b⟩:=r z y (by show lk z ((z,y)::loc)=_;rw[b6,if_pos rfl])
  exact⟨v,a,hv _ _ b⟩
 ·exact r z w (by show lk z ((n,y)::loc)=_;rw[b6,if_neg q];exact e)⟩,R.tp,R.fa⟩
theorem aq.tE{G:Gx}{e:Expr}{σ:SS}{K:SV→SS→Prop}(h:aq G e σ fun x σ'=>∃x' σ'',gY G.D x x'∧aD G.D σ' σ''∧K x' σ''):aq G e σ K:=fun c ρ s w a r=>
 wpAny_mono (h c ρ s w a r) (fun v s' ⟨ρ',σ',x,p,R,q,x',σ'',l1,l,z⟩=>⟨ρ',σ'',x',p,l _ _ _ R,l1 _ _ q,z⟩) fun qq qq z=>z
theorem Y8{α:Type}{l:List α}{o x:α}:aL (l++[o]) l.length x=l++[x]:=by
 induction l with
 |nil=>rfl
 |cons a l ih=>exact congrArg (a::·) ih
theorem HO{G:Gx}{σ:SS}{e:Expr}{n:Str}{sc:bW}{x:SV}{K:SV→SS→Prop}{t:Tm}(hc:sM G (g9 (eF e) sc)=true)(h1:aB (A4 e).endLine (cC e).line=true)(hn:lk n G.cs.names=some .local)(hd:seq n (aa "__debug__")=false)(hx:lk n σ.loc=some x)(ht:IsT x t)(hxt:gY G.D (.tm t) x)(hb:av t.bd 100000=true)(hl:∀l,G.D.η.f 11 l=l.map d8)(hbl:vo G.D G.T)
 (hs:lk (aa "c") (jP (g9 (eF e) sc) G.cs).names=some .local)
 (hv:∀(x:Nat) (objs:OL) (K:SV→SS→Prop),((ex 60 (G.comp (g9 (eF e) sc) (iS (g9 (eF e) sc) G.cv))).E (oK (eF e)) ⟨[(aa "c",.ss ⟨#[x]⟩)],objs,σ.fa⟩ fun x σ'=>.pr (K x σ') .tt).t.h=tO x fun y=>K y ⟨[(aa "c",.ss ⟨#[x]⟩)],objs,σ.fa⟩)
 (k:K (.tm (.n 11 [] t .e)) ⟨σ.loc,OL.a σ.objs .gone,σ.fa⟩):aq G (A8 e n sc) σ K:=by
 obtain⟨loc,objs,fa⟩:=σ
 let l:=t.ev G.D.η
 have hlen:l.length≤100000:=ah (Tm.kB G.D.gJ t) (ao hb)
 have hsz:∀i:Nat,(ai l).cps[i]? =l[i]? :=fun i=>by show l.toArray[i]? =_;rw[pC]
 have s1:gY G.D x (.ss (ai l)):=fun ρ v r=>let⟨t',e⟩:=ht r;⟨t',e⟩
 have s2:gY G.D (.ss (ai l)) x:=fun ρ v r=>hxt ρ v r
 let tm1:Nat→List Nat:=fun i=>(l.take i).map d8
 let Jl:Nat→SO→Prop:=fun i o=>(i=0∧o=.list none [])∨o=.list (some (.txt (tm1 i) i)) []
 refine aq.tE (aK.pre (aD.as hx s1) (sG (fun qq qq qq=>rfl) h1 (fun u hu=>by rw[dU] at hu;subst hu;exact fun qq qq=>rfl) rfl (iX (nY .join (a:=⟨#[]⟩) (fun{_ _ _} r=>r) (fun u hu=>by rw[dU] at hu;subst hu;exact fun qq qq=>rfl) (dP (fun qq qq=>rfl) (zL (v5 hc) (fun qq qq=>rfl) (Am (c9 (x:=.ss (ai l)) hd hn (by rw[b6,if_pos rfl]) ⟨ai l,fun{_ _ _} r=>r,fun n' i σ'=>n'=l.length-i∧i≤l.length∧∃os o,σ'=⟨[],os,fa⟩∧os.list=objs.list++[o]∧Jl i o,l.length,⟨fun n' i σ' hJ=>?_⟩,rfl,ef _,_,_,rfl,eW _ _,.inl ⟨rfl,rfl⟩⟩))))))))
 obtain⟨hni,hil,os,o,rfl,hos,hj⟩:=hJ
 have hj0:os.list[objs.length]? =some o:=by rw[hos,objs.len_eq,fj (az _),nE];rfl
 have hset:∀X,(OL.s os objs.length X).list=objs.list++[X]:=fun X=>by show aL os.list _ X=_;rw[hos,objs.len_eq];exact Y8
 refine⟨_,rfl,?_⟩
 rw[hsz]
 cases e0:l[i]? with
 |none=>
  have hi:l.length≤i:=pB.mp e0
  have hpost:∀s:Str,s.cps.toList=l.map d8→∃x' σ'',gY G.D (.ss s) x'∧aD G.D ⟨(n,SV.ss (ai l))::loc,os,fa⟩ σ''∧K x' σ'':=fun s hs=>⟨.tm (.n 11 [] t .e),_,fun ρ v ⟨t',e⟩=>⟨t',by
   rw[e]
   congr 1
   refine gT (hs.trans ?_)
   show _=G.D.η.f 11 l
   rw[hl]⟩,(aD.un hx s2).trans ((aD.of (σ:=⟨loc,os,fa⟩) (σ':=⟨loc,OL.a objs o,fa⟩) (fun qq qq e=>e) (by show snoc objs.list o=os.list;rw[eW,hos]) rfl).trans aD.gone),k⟩
  refine⟨_,rfl,fP ?_⟩
  rcases hj with⟨rfl,rfl⟩|rfl
  ·refine zU (a:=⟨#[]⟩) (xs:=[]) (ys:=[]) (fun{_ _ _} r=>r) hj0 (fun{_ _ _} r=>by cases r;exact .nil) (by decide) (hpost _ ?_)
   rw[pq (Nat.le_zero.mp hi)]
   exact wV []
  ·refine A5 (s:=tm1 i) (k:=i) (fun{_ _ _} r=>r) hj0 (by rw[gE];exact ah (List.length_take_le' _ _) hlen) (by exact Om.N5 hlen hil hi) (hpost _ ?_)
   show(l.take i).map d8=_
   rw[fq hi]
 |some z=>
  have hi:i<l.length:=(dg.mp e0).1
  have ht1:tm1 (i+1)=tm1 i++[d8 z]:=by
   show(l.take (i+1)).map d8=(l.take i).map d8++[d8 z]
   rw[Co,e0,cy];rfl
  let Jn:Nat→Nat→SS→Prop:=fun n' i σ'=>n'=l.length-i∧i≤l.length∧∃os o,σ'=⟨[],os,fa⟩∧os.list=objs.list++[o]∧Jl i o
  let Pz:SV→SS→Prop:=fun y σ=>∃p ys,σ.objs.list[objs.length]? =some (.list p ys)∧(∀us,jg p us→us.length+ys.length≤16777216)∧∃p' ys',(∀us ρ vs v,jg p us→aG G.D ρ ys vs→VR G.D ρ y v→∃us' vs',us++(vs++[v])=us'++vs'∧jg p' us'∧aG G.D ρ ys' vs')∧∃m,m<n'∧Jn m (i+1) ⟨[],OL.s σ.objs objs.length (.list p' ys'),σ.fa⟩
  have hJ':Jn (l.length-(i+1)) (i+1) ⟨[],OL.s os objs.length (.list (some (.txt (tm1 (i+1)) (i+1))) []),fa⟩:=⟨rfl,hi,_,_,rfl,hset _,.inr rfl⟩
  refine jL hs ((((ex 60 (G.comp (g9 (eF e) sc) (iS (g9 (eF e) sc) G.cv))).E (oK (eF e)) ⟨[(aa "c",.ss ⟨#[z]⟩)],os,fa⟩ fun x σ'=>.pr (Pz x σ') .tt).ok ((hv _ _ _).mpr (Y7 ?_)) ⟨fun x hx=>Om.nm hx,hbl,fun x hx=>Om.nm hx,fun x hx=>Om.nm hx,fun qq qq qq h=>h⟩).mp fun qq qq h=>h.1)
  rcases hj with⟨rfl,rfl⟩|rfl
  ·refine⟨none,[],hj0,fun us q=>?_,some (.txt (tm1 1) 1),[],fun us ρ vs v q f r=>?_,_,by exact Om.N6 hlen hni hi,hJ'⟩
   ·obtain rfl:us=[]:=q
    decide
   ·obtain rfl:us=[]:=q
    cases f
    obtain⟨t',rfl⟩:=r
    exact⟨[.str ⟨#[d8 z]⟩ t'],[],rfl,⟨[⟨#[d8 z]⟩],.cons _ _ .nil,by rw[ht1];rfl,az _⟩,.nil⟩
  ·refine⟨_,[],hj0,fun us ⟨_,_,_,q⟩=>?_,some (.txt (tm1 (i+1)) (i+1)),[],fun us ρ vs v q f r=>?_,_,by exact Om.N7 hni hi,hJ'⟩
   ·show us.length+0≤_
    exact Om.N8 hlen hi q
   ·obtain⟨ys,h1,h2,h3⟩:=q
    cases f
    obtain⟨t',rfl⟩:=r
    exact⟨us++[.str ⟨#[d8 z]⟩ t'],[],by rw[dW];rfl,⟨ys++[⟨#[d8 z]⟩],Aw h1 (.cons _ _ .nil),by rw[ht1,nB,h2];simp,by rw[bG];exact jz h3⟩,.nil⟩
end
end Ex
end
section
namespace Ex
noncomputable section
noncomputable def wZ:bx:=fun xs σ K=>match xs with
 |[x]=>@aU _ (fun qq=>Tr) .ff (fun t=>@aj (fun qq=>Tr) .ff (K (.tm (.n 11 [] t.1 .e)) σ) (av t.1.bd 100000)) (cZ x)
 |_=>.ff
noncomputable abbrev w4:Expr:=bQ (aV Tb.kP.body 0)
theorem Y9:Tb.kP.body=[.Return (some (A8 w4 (aa "text") Tb.kP.scope)) (fU (aV Tb.kP.body 0))]:=by kernel_rfl
noncomputable abbrev HP (W:Wd):Gx:=gi (WS W) Tb.kP.scope 0 []
theorem Za(W:Wd)(x:Nat)(objs:OL)(fa:List Fact)(K:SV→SS→Prop):((ex 60 ((HP W).comp (g9 (eF w4) Tb.kP.scope) (iS (g9 (eF w4) Tb.kP.scope) (HP W).cv))).E (oK (eF w4)) ⟨[(aa "c",.ss ⟨#[x]⟩)],objs,fa⟩ fun x σ'=>.pr (K x σ') .tt).t.h=tO x fun y=>K y ⟨[(aa "c",.ss ⟨#[x]⟩)],objs,fa⟩:=by kernel_rfl
set_option tactic.hygienic true in
theorem Zb(W:Wd)(hl:∀l,W.η.f 11 l=l.map d8):cH (WS W) (42,1,wZ):=fun G hD hT hn xs σ K h=>by
 obtain⟨D,T,m,cs,KX,con,sc,ec,cv,fr⟩:=G
 obtain rfl:D=WS W:=hD
 obtain rfl:T=Tb.T:=hT
 have h':(wZ xs σ K).h:=h
 unfold wZ at h'
 split at h'
 ·rename_i x
  cases q:cZ x with
  |none=>rw[q] at h';exact h'.elim
  |some t=>
   rw[q] at h'
   dsimp only at h'
   cases q1:av t.1.bd 100000 with
   |false=>rw[q1] at h';exact h'.elim
   |true=>
    rw[q1] at h'
    have hk:hh K (.tm (.n 11 [] t.1 .e)) σ:=h'
    refine au.conv (xs':=[.tm t.1]) (fun ρ vs r=>by
     cases r with|cons r rs=>exact .cons (t.2 r) rs) (zG rfl fun loc=>au.sw (n:=1) (cons:=[]) hn (mr (i:=Tb.kP) (n:=0) rfl rfl rfl rfl ?_))
    rw[Y9]
    refine cP (vG (HO (x:=.tm t.1) (t:=t.1) (by kernel_rfl) (by kernel_rfl) (by kernel_rfl) (by kernel_rfl) (by kernel_rfl) (fun{_ _ _} r=>r) (fun qq qq r=>r) q1 hl (kT W) (by kernel_rfl) (fun x objs K=>Za W x objs σ.fa K) ?_))
    exact⟨rfl,rfl,fun qq=>hk⟩
 ·exact h'.elim
end
end Ex
end
section
namespace Ex
noncomputable section
theorem VR.Zc{W:Wd}{ρ:List Addr}{x:SV}{v:Value}(r:VR W ρ (kW x) v):VR W ρ x v:=by cases x<;>exact r
theorem aD.sub{D:Wd}{L L':List (Str×SV)}{os:OL}{fa:List Fact}(h:L'.map (fun p=>(lk p.1 L).map kW)=L'.map fun p=>some (kW p.2)):aD D ⟨L,os,fa⟩ ⟨L',os,fa⟩:=fun c ρ s R=>⟨let⟨m,l,r⟩:=R.R;⟨m,l,fun x y e=>by
 have h1:=uL.mp h (x,y) (eU e)
 have h1':(lk x L).map kW=some (kW y):=h1
 cases q:lk x L with
 |none=>rw[q] at h1';cases h1'
 |some z=>
  rw[q] at h1'
  obtain⟨v,a,b⟩:=r x z q
  exact⟨v,a,(jB h1'▸b.er).Zc⟩⟩,R.tp,R.fa⟩
theorem aD.Zd{D:Wd}{loc:List (Str×SV)}{os:OL}{o o':SO}{fa:List Fact}(h:∀X ρ a l,OR D X ρ a o l→OR D X ρ a o' l):aD D ⟨loc,OL.a os o,fa⟩ ⟨loc,OL.a os o',fa⟩:=fun c ρ s R=>by
 have:=aD.last (D:=D) (loc:=loc) (os:=os.list) (fa:=fa) h c ρ s ((aD.of (σ:=⟨loc,OL.a os o,fa⟩) (σ':=⟨loc,.b (os.list++[o]),fa⟩) (fun qq qq e=>e) (eW _ _).symm rfl) c ρ s R)
 exact(aD.of (σ:=⟨loc,.b (os.list++[o']),fa⟩) (σ':=⟨loc,OL.a os o',fa⟩) (fun qq qq e=>e) (eW _ _) rfl) c ρ s this
noncomputable def Ze (m p:Tm):Option (PLift (∀η,(m.ev η).take (p.ev η).length=p.ev η)):=fz ((aO (cz m p)).map fun h=>⟨fun η=>by rw[dO h.1,Cu]⟩) (ak (hdS m) fun a=>ak (hdS p) fun b=>ak (aO (cz a.1.1 b.1.1)) fun h=>match q:b.1.2 with
 |.n k S r y=>match k,q with
  |6,q=>(aO (cz r a.1.2)).map fun h2=>⟨fun η=>by
   obtain⟨c,e1,e2⟩:=a.2 η
   obtain⟨c',e3,e4⟩:=b.2 η
   rw[dO h.1,e3] at e1
   cases e1
   rw[e2,e4,q,jA,ym]
   show c::(a.1.2.ev η).take ((r.ev η).takeWhile (aH · S)).length=c::(r.ev η).takeWhile (aH · S)
   rw[dO h2.1,←List.prefix_iff_eq_take.mp (List.takeWhile_prefix _)]⟩
  |_,_=>af
 |.e=>af)
noncomputable def Zf (m:Tm) (u:SV) (d:Tm):Prop:=∀(W:Wd),∃n:Nat,(∀ρ v,VR W ρ u v→∃t,v=.int n t)∧(m.ev W.η).take n=d.ev W.η
noncomputable def HQ (m:Tm) (u:SV):Option {d:Tm//Zf m u d}:=fz (ak (zT u) fun k=>fz (ak (aO (aB k.1 0)) fun h=>some ⟨lit [],fun W=>⟨0,fun ρ v r=>by have:=k.2 r;rw[bh h.1] at this;exact this,rfl⟩⟩)
 (ak (aO (aB k.1 1)) fun h=>(hdS m).map fun a=>⟨a.1.1,fun W=>⟨1,fun ρ v r=>by have:=k.2 r;rw[bh h.1] at this;exact this,by obtain⟨c,e1,e2⟩:=a.2 W.η;rw[e2,e1];rfl⟩⟩))
 (ak (v7 u) fun z=>ak (aO (aB z.1.1 2)) fun h=>(Ze m z.1.2).map fun q=>⟨z.1.2,fun W=>⟨(z.1.2.ev W.η).length,fun ρ v r=>by obtain⟨t,e⟩:=z.2 r;rw[bh h.1,W.gJ.il] at e;exact⟨t,e⟩,q.1 W.η⟩⟩)
noncomputable def w5:bx:=fun xs σ K=>match xs with
 |[m,u]=>@aU _ (fun qq=>Tr) .ff (fun t=>@aj (fun qq=>Tr) .ff (@aU _ (fun qq=>Tr) .ff (fun d=>K (.obj σ.objs.length) ⟨σ.loc,OL.a σ.objs (.tup [.im 0 d.1,.im 1 d.1]),σ.fa⟩) (HQ t.1 u)) (av t.1.bd 100000)) (cZ m)
 |_=>.ff
theorem Zg:∀(l:List Nat) (a c:Nat),goes (a+1,c) l=((goes (a,c) l).1+1,(goes (a,c) l).2):=fun l=>by
 induction l with
 |nil=>exact fun qq qq=>rfl
 |cons x l ih=>
  intro a c
  rw[goes.eq_2,goes.eq_2]
  split
  ·exact ih _ _
  ·exact ih _ _
noncomputable def fD (i:Nat):Stmt:=aV Tb.s8.body i
noncomputable abbrev HR (s:Stmt):Pos:=(ku s 0).pos
noncomputable abbrev iY (s:Stmt):Expr:=ku s 1
noncomputable abbrev HS (s:Stmt):Pos:=s.pos
noncomputable abbrev HT (e:Expr) (i:Nat):Pos:=(dY e i).pos
noncomputable abbrev Zh (e:Expr):Pos:=e.pos
noncomputable def tP:Expr→Nat
 |.Tuple _ k _=>k
 |_=>0
theorem Zi:Tb.s8.body=[fD 0,fD 1,.For (.Name (aa "c") (HR (fD 2))) (iY (fD 2)) (tD [fD 2]) [] (HS (fD 2)),.Return (some (.Tuple [.Name (aa "line") (HT (bQ (fD 3)) 0),.Name (aa "column") (HT (bQ (fD 3)) 1)] (tP (bQ (fD 3))) (Zh (bQ (fD 3))))) (fU (fD 3))]:=by kernel_rfl
noncomputable abbrev oM (W:Wd):Gx:=gi (WS W) Tb.s8.scope 0 []
noncomputable abbrev Lp (p:Nat×Nat) (m u:SV):List (Str×SV):=[(aa "column",.si p.2),(aa "line",.si p.1),(aa "mended",m),(aa "used",u)]
noncomputable def mS (G:Gx) (b:List Stmt) (σ:SS) (K:Fl→SS→Prop):Prop:=(cY (ex 60 G) b σ fun x σ'=>.pr (K x σ') .tt).t.h
theorem mT{G:Gx}(g:bE G){b:List Stmt}{σ:SS}{K:Fl→SS→Prop}(h:mS G b σ K):bz G b σ K:=((cY (ex 60 G) b σ fun x σ'=>.pr (K x σ') .tt).ok h g).mp fun qq qq z=>z.1
noncomputable def gy (G:Gx) (st:Stmt) (σ:SS) (K:Fl→SS→Prop):Prop:=((ex 60 G).S st σ fun x σ'=>.pr (K x σ') .tt).t.h
theorem iZ{G:Gx}(g:bE G){st:Stmt}{σ:SS}{K:Fl→SS→Prop}(h:gy G st σ K):bw G st σ K:=(((ex 60 G).S st σ fun x σ'=>.pr (K x σ') .tt).ok h g).mp fun qq qq z=>z.1
theorem Zj(W:Wd)(K:Fl→SS→Prop)(σ:SS):gy (oM W) (fD 0) σ K=(K .next ⟨(aa "line",.int 1)::σ.loc,σ.objs,σ.fa⟩∧True):=by kernel_rfl
theorem Zk(W:Wd)(K:Fl→SS→Prop)(σ:SS):gy (oM W) (fD 1) σ K=(K .next ⟨(aa "column",.int 0)::σ.loc,σ.objs,σ.fa⟩∧True):=by kernel_rfl
theorem Zl(W:Wd)(K:Fl→SS→Prop)(x:Nat)(p:Nat×Nat)(m u:SV)(objs:OL)(fa:List Fact):mS (oM W) (tD [fD 2]) ⟨(aa "c",.ss ⟨#[x]⟩)::Lp p m u,objs,fa⟩ K=
 fk (seq ⟨#[x]⟩ (aa "\n")) (K .next ⟨(aa "column",.int 0)::(aa "line",.si (p.1+1))::(aa "column",.si (p.2+1))::(aa "c",.ss ⟨#[x]⟩)::Lp p m u,objs,fa⟩∧True)
  (K .next ⟨(aa "column",.si (p.2+1))::(aa "c",.ss ⟨#[x]⟩)::Lp p m u,objs,fa⟩∧True):=by kernel_rfl
theorem Zm(W:Wd)(K:SV→SS→Prop)(x:Str)(n:Int)(p:Nat×Nat)(objs:OL)(fa:List Fact):((ex 60 (oM W)).E (iY (fD 2)) ⟨Lp p (.ss x) (.si n),objs,fa⟩ fun x σ'=>.pr (K x σ') .tt).t.h=(x.length≤sizeLine∧K (.ss (b5 x none (some n))) ⟨Lp p (.ss x) (.si n),objs,fa⟩∧True):=by kernel_rfl
theorem Zn(W:Wd)(K:SV→SS→Prop)(x:Str)(n:Int)(p:Nat×Nat)(objs:OL)(fa:List Fact)(h:x.length≤sizeLine)(k:K (.ss (b5 x none (some n))) ⟨Lp p (.ss x) (.si n),objs,fa⟩):aq (oM W) (iY (fD 2)) ⟨Lp p (.ss x) (.si n),objs,fa⟩ K:=
 (((ex 60 (oM W)).E (iY (fD 2)) ⟨Lp p (.ss x) (.si n),objs,fa⟩ fun x σ'=>.pr (K x σ') .tt).ok ((Zm W K x n p objs fa).mpr ⟨h,k,trivial⟩) (mQ fun x hx=>Om.nm hx)).mp fun qq qq z=>z.1
theorem HU(l:List Nat)(x:Nat)(p:Nat×Nat):goes p (l++[x])=if x=10 then((goes p l).1+1,0) else((goes p l).1,(goes p l).2+1):=by
 rw[St.oh]
 show goes _ (x::[])=_
 rw[goes.eq_2]
 split<;>rfl
set_option tactic.hygienic true in
theorem Zo(W:Wd)(hp:Au W.η):cH (WS W) (812,1,w5):=fun G hD hT hn xs σ K h=>by
 obtain⟨D,T,m,cs,KX,con,sc,ec,cv,fr⟩:=G
 obtain rfl:D=WS W:=hD
 obtain rfl:T=Tb.T:=hT
 have h':(w5 xs σ K).h:=h
 unfold w5 at h'
 split at h'
 ·rename_i mm u
  cases q:cZ mm with
  |none=>rw[q] at h';exact h'.elim
  |some t=>
   rw[q] at h'
   dsimp only at h'
   cases q1:av t.1.bd 100000 with
   |false=>rw[q1] at h';exact h'.elim
   |true=>
    rw[q1] at h'
    cases q2:HQ t.1 u with
    |none=>rw[q2] at h';exact h'.elim
    |some d=>
     rw[q2] at h'
     have hk:hh K (.obj σ.objs.length) ⟨σ.loc,OL.a σ.objs (.tup [.im 0 d.1,.im 1 d.1]),σ.fa⟩:=h'
     obtain⟨n,hu,hd⟩:=d.2 (WS W)
     let l:=d.1.ev W.η
     have hlen:(t.1.ev W.η).length≤100000:=ah (Tm.kB W.gJ t.1) (ao q1)
     let x:Str:=ai (t.1.ev W.η)
     have hsl:b5 x none (some (n:Int))=ai l:=by rw[Gk];exact congrArg ai hd
     have hcp:∀i:Nat,(ai l).cps[i]? =l[i]? :=fun i=>by show l.toArray[i]? =_;rw[pC]
     have g:bE (oM W):=mQ fun x hx=>by cases hx
     refine au.conv (xs':=[.ss x,.si n]) (fun ρ vs r=>?_) (au.sw (n:=1) (cons:=[]) hn (au.ent (K:=hh K) (mr (i:=Tb.s8) (n:=0) rfl rfl rfl rfl ?_)))
     ·cases r using Each.ec with
      |cons r rs=>cases rs using Each.ec with
       |cons r' rs=>exact .cons (t.2 r) (.cons (hu _ _ r') rs)
     ·rw[Zi]
      refine cP (iZ g ?_)
      rw[Zj]
      refine⟨cP (iZ g ?_),trivial⟩
      rw[Zk]
      refine⟨aK.pre (σ':=⟨Lp (goes (1,0) []) (.ss x) (.si n),σ.objs,σ.fa⟩) (aD.sub (by kernel_rfl)) ?_,trivial⟩
      let J:Src→Nat→Nat→SS→Prop:=fun S k i σ'=>S=qu (ai l)∧k+i=l.length∧σ'=⟨Lp (goes (1,0) (l.take i)) (.ss x) (.si n),σ.objs,σ.fa⟩
      refine cP (vS (fun qq qq qq h=>h) (fun qq qq=>rfl) J (fun S k i σ' hJ=>?_) l.length (Am (Zn W _ x n _ _ _ (by rw[eY,sizeLine_eq];exact Om.Du hlen) ⟨ai l,fun{_ _ _} r=>hsl▸r,rfl,rfl,rfl⟩)))
      obtain⟨rfl,hki,rfl⟩:=hJ
      refine⟨_,rfl,?_⟩
      rw[hcp]
      cases e0:l[i]? with
      |none=>
       have hi:l.length≤i:=pB.mp e0
       rw[fq hi]
       refine⟨_,rfl,cP (vG (zI (dP (fun qq qq=>rfl) (c9 (x:=.si ((goes (1,0) l).1:Nat)) (by kernel_rfl) (by kernel_rfl) (by kernel_rfl) (dP (fun qq qq=>rfl) (c9 (x:=.si ((goes (1,0) l).2:Nat)) (by kernel_rfl) (by kernel_rfl) (by kernel_rfl) (fP ⟨rfl,?_⟩)))))))⟩
       refine⟨_,aD.Zd fun X ρ a l' r=>?_,hk⟩
       obtain⟨vs,k',e,f⟩:=r
       refine⟨vs,k',e,?_⟩
       cases f using Each.ec with
       |cons r1 r2=>cases r2 using Each.ec with
        |cons r2 r3=>
         cases r3
         obtain⟨t1,rfl⟩:=r1
         obtain⟨t2,rfl⟩:=r2
         have e2:goes (1,0) l=((goes (0,0) l).1+1,(goes (0,0) l).2):=Zg l 0 0
         refine .cons ⟨t1,?_⟩ (.cons ⟨t2,?_⟩ .nil)
         ·show jf ((goes (1,0) l).1:Nat) t1=jf (W.η.i 0 l) t1
          rw[e2,hp.l];rfl
         ·show jf ((goes (1,0) l).2:Nat) t2=jf (W.η.i 1 l) t2
          rw[e2,hp.c]
      |some z=>
       have hi:i<l.length:=(dg.mp e0).1
       have ht:l.take (i+1)=l.take i++[z]:=by rw[Co,e0];rfl
       refine jL (by kernel_rfl) (aK.ent (mT g (K:=fun fl σ'=>fl=.next∧∃σ'',aD (WS W) σ' σ''∧J (qu (ai l)) (k-1) (i+1) σ'') ((Zl W _ z (goes (1,0) (l.take i)) (.ss x) (.si n) σ.objs σ.fa).mpr ⟨fun h=>⟨⟨rfl,_,aD.sub ?_,rfl,by exact Om.vc hki hi,rfl⟩,trivial⟩,fun h=>⟨⟨rfl,_,aD.sub ?_,rfl,by exact Om.vc hki hi,rfl⟩,trivial⟩⟩)) ?_)
       ·have hz:z=10:=by have:=congrArg (fun s:Str=>s.cps.toList) (bS.mp h);rw[St.wu] at this;simpa using this
        rw[ht,HU,if_pos hz];kernel_rfl
       ·have hz:z≠10:=fun e=>by subst e;rw[show seq (⟨#[10]⟩:Str) (aa "\n")=true from by kernel_rfl] at h;cases h
        rw[ht,HU,if_neg hz];kernel_rfl
       ·rintro fl σ' ⟨rfl,σ'',l',hJ⟩
        exact⟨σ'',l',k-1,by omega,hJ⟩
 ·exact h'.elim
end
end Ex
end
section
namespace Ex
noncomputable section
noncomputable def ia (rows:List bK) (k:Int×Str):Option bK:=rows.find? fun r=>decide (r.1=k)
theorem HV{lo:Nat}{h:Heap}{xs:List mG}{rs:List bK}(q:Each (gv lo h) xs rs)(k:Int×Str):(atKey xs k=none∧ia rs k=none)∨∃x r,atKey xs k=some x∧ia rs k=some r∧gv lo h (k,x) r:=by
 induction q with
 |nil=>exact .inl ⟨rfl,rfl⟩
 |@cons x r xs rs hx _ ih=>
  unfold atKey ia
  rw[yE,yE,←hx.e]
  by_cases e:x.1=k
  ·rw[decide_eq_true e]
   exact .inr ⟨x.2,r,rfl,rfl,by
    have:x=(k,x.2):=by rw[←e]
    rw[←this];exact hx⟩
  ·rw[decide_eq_false e]
   exact ih
inductive HW (T:Tab) (f:Addr) (rows:List bK):Prop
 |mk (i:aJ) (p:Pos) (ks:List (Option Expr)) (vs:List Expr) (pos:Pos) (l:List (Expr×Expr)) (hi:aQ f T.fns=some i) (hps:i.ps=[]) (hbody:i.body=[.Return (some (.Dict ks vs pos)) p])
  (hks:ks=l.map fun x=>some x.1) (hvs:vs=l.map fun x=>x.2) (R:Each gX l rows) (nd:(rows.map (·.1)).Nodup) (hz:l.length≤100) (hne:rows≠[])
theorem RepS.adopt{D:Wd}{c:Cx}{ρ:List Addr}{σ:SS}{s:Shared}{b:Addr}{o:Obj}{so:SO}(R:RepS D (c.plus [(b,o)]) ρ σ s)(ho:OR D c.R (ρ++[b]) b so [(b,o)]):RepS D c (ρ++[b]) ⟨σ.loc,OL.a σ.objs so,σ.fa⟩ s:=by
 obtain⟨⟨m,⟨ls,ad,l1,l2,g,gr,F,N⟩,hl⟩,tp,fa⟩:=R
 have e:flat (ls++[(b,[(b,o)])])++c.X=flat ls++((b,o)::c.X):=by simp[flat]
 exact⟨⟨m,⟨ls++[(b,[(b,o)])],by rw[←ad];simp,(show LR D c.R _ (snoc σ.objs.list so) _ from eW σ.objs.list so▸(LR.mono (cu _ _) l1).app (.one ho)),by rw[e];exact l2,g,gr,F,fun p hp=>N p (by rw[e] at hp;exact hp)⟩,hl.mono (cu _ _)⟩,tp,fa⟩
section
variable{G:Gx}{c:Cx}{ρ ρ₀:List Addr}{σ:SS}{s:Shared}
theorem At.HX(a:At G c ρ σ s){j:Nat}{y z:SV}{i:Int}{sg:Str}{v:Value}(r:VR G.D ρ (.obj j) v)(hj:σ.objs.list[j]? =some (.tup [y,z]))(hy:bc y i)(hz:bI z sg)(ok:jE sg=true):∃b,v=.ref b∧cJ s.heap (i,sg) b:=by
 obtain⟨b,m,e,hl,⟨A,B,l,g,O,gr,F,N,nd,back⟩⟩:=a.dN hj r
 cases e
 obtain⟨vs,n,rfl,q⟩:=O
 cases q using Each.ec with
 |cons q1 q=>cases q using Each.ec with
  |cons q2 q=>
   cases q
   obtain⟨t,rfl⟩:=hy q1
   obtain⟨u,rfl⟩:=hz q2
   exact⟨_,rfl,ok,n,t,u,(N _ (bF _ (.head _))).1⟩
theorem At.name(a:At G c ρ σ s){n:Str}{x:SV}{pos:Pos}(hd:seq n "__debug__"=false)(hn:lk n G.cs.names=some .local)(hx:lk n σ.loc=some x){Q:Value→Shared→Prop}{E:Value→Shared→Prop}(hk:∀v,VR G.D ρ x v→Q v s):wpAny G.D.M c.A (eval (.Name n pos) c.env) Q E s:=by
 obtain⟨m,⟨ls,ad,l1,l2,g,gr,F,N⟩,hl⟩:=a.R
 obtain⟨v,h1,h2⟩:=hl n x hx
 exact wpAny_Name (wpAny_loadName_local a.ok.hk.kind (a.kind hn) (by rw[a.ok.hk.loc];exact F.ns) h1 (hk v h2)) (by rw[jG];exact hd)
variable{f:Addr}{rows:List bK}(TF:HW G.T f rows)(hkeep:∀W,TabOk W G.T→keepIn W.K (.ref f)=true)(hn1:1≤G.n){nm:Str}(hn:lk nm G.cs.names=some .globalImplicit)(hg:lk nm G.T.dM=some (.ref f))
include TF hkeep hn1 hn hg
theorem At.A9(a:At G c ρ σ s)(p:ρ₀<+:ρ){p1 p2:Pos}{Q:Value→Shared→Prop}(hQ:∀ρ' v s',ρ<+:ρ'→At G c ρ' σ s'→kR G.D c ρ' σ rows v s'→Q v s'):wpAny G.D.M c.A (eval (.Call (.Name nm p1) [] [] p2) c.env) Q (PX G c ρ₀) s:=by
 refine Call_ (aK.go (w:=()) (show aq G (.Name nm p1) σ fun x σ'=>x=.val (.ref f)∧σ'=σ from kH hn hg ⟨rfl,rfl⟩) a p trivial fun ρ' σ' x v s' p' p'' a' q ⟨hx,hs⟩=>?_)
 subst hx hs
 obtain rfl:=q
 obtain⟨i,pp,ks,vs,pos,l,hi,hps,hbody,hks,hvs,R,nd,hz,hne⟩:=TF
 refine(E1 (ρ:=ρ') (hkeep _ a'.tk)).w0 a'.X ?_
 obtain⟨n,en⟩:∃n,G.n=n+1:=⟨G.n-1,by exact Om.Pg hn1⟩
 exact a'.Yj hi en hps hbody hks hvs R nd hz hne fun v s2 z=>hQ ρ' v s2 p'' (let⟨_,_,_,_,_,R,_⟩:=z;a'.to (pr _) R) z
omit TF hkeep hn1 hn hg
theorem kR.got{D:Wd}{v:Value}{s2 s3:Shared}{ρ':List Addr}(V:kR D c ρ' σ rows v s2)(kp:Kp s2 s3)(ht:s2.toks≤s3.toks){A:Around}(hu:A.in1.units+3<cLine){k:Int×Str}{b:Addr}(hk:cJ s3.heap k b){r:bK}(hr:ia rows k=some r){oe ie:Expr}(hs:cG ie){Q:Value→Shared→Prop}{E:Value→Shared→Prop}
 (hQ:∀(q:Addr) tk,RepS D c (ρ'++[q]) ⟨σ.loc,OL.a σ.objs (.tup [.str r.2.1,.str r.2.2.1,.int r.2.2.2]),σ.fa⟩ {s3 with toks:=tk}→Q (.ref q) {s3 with toks:=tk}):wpAny D.M A (subscriptTail oe ie v (.ref b)) Q E s3:=by
 obtain⟨d,lo,rfl,⟨xs,hd,D0,hR⟩,hm,R,B⟩:=V
 rcases HV hR k with⟨h1,h2⟩|⟨x,r',h1,h2,hrow⟩
 ·rw[h2] at hr;cases hr
 ·obtain rfl:r'=r:=jB (h2.symm.trans hr)
  obtain⟨q,n,t,u,w,e,ev,hl,hb⟩:=hrow
  have Dd:=G5 kp.k D0
  refine tail_any Dd.typeIs slot_dict_getitem.lookup (wpAny_getItem_heap (knd:=kQ D.prog D.w) (k:=k) hu hk Dd h1 ?_) (hs.sub _ _)
  have ev':x.2=.ref q:=ev
  rw[ev']
  exact hQ q _ (RepS.adopt ((B q _ hl hb).kp ⟨kp.k,kp.z,kp.os,kp.gens⟩ (ah ht (bC _ _))) (pR.mk _ n rfl (.cons ⟨t,rfl⟩ (.cons ⟨u,rfl⟩ (.one ⟨w,rfl⟩)))))
theorem kR.isIn{D:Wd}{v:Value}{s2:Shared}{ρ':List Addr}(V:kR D c ρ' σ rows v s2){A:Around}(hu:A.in1.units+3<cLine){k:Int×Str}{b:Addr}(hk:cJ s2.heap k b){Q:Value→Shared→Prop}{E:Value→Shared→Prop}
 (hQ:∀tk,RepS D c ρ' σ {s2 with toks:=tk}→Q (.bool (ia rows k).isSome) {s2 with toks:=tk}):wpAny D.M A (compareOp .In (.ref b) v) Q E s2:=by
 obtain⟨d,lo,rfl,⟨xs,hd,D0,hR⟩,hm,R,B⟩:=V
 have e:(atKey xs k).isSome=(ia rows k).isSome:=by
  rcases HV hR k with⟨h1,h2⟩|⟨x,r',h1,h2,hrow⟩<;>rw[h1,h2]<;>rfl
 refine wpAny_in_heap (knd:=kQ D.prog D.w) (k:=k) hu hk hm D0 ?_
 rw[e]
 exact hQ _ (R.kp ⟨fun qq qq h=>h,az _,rfl,rfl⟩ (bC _ _))
include TF hkeep hn1 hn hg
variable{x0:Str}{jc:Nat}{y z:SV}{i:Int}{sg:Str}(hd0:seq x0 "__debug__"=false)(hl0:lk x0 G.cs.names=some .local)
include hd0 hl0
theorem Zp{p1 p2 p3 pos:Pos}(hx0:lk x0 σ.loc=some (.obj jc))(hj:σ.objs.list[jc]? =some (.tup [y,z]))(hy:bc y i)(hz:bI z sg)(ok:jE sg=true){K:SV→SS→Prop}(k:K (.bool (ia rows (i,sg)).isSome) σ):bN G (.Compare (.Name x0 p1) [.In] [.Call (.Name nm p2) [] [] p3] pos) σ K:=fun c ρ s qq a qq=>by
 refine wpAny_isTrue_Compare1 (a.name hd0 hl0 hx0 fun v r=>?_) rfl
 refine a.A9 TF hkeep hn1 hn hg (pr _) fun ρ' w s' p a' V=>?_
 obtain⟨b,rfl,hk⟩:=a'.HX (VR.mono p r) hj hy hz ok
 refine V.isIn (by show c.A.units+1+3<_;have:=a.ok.hu;exact Om.yX hn1 this) hk fun tk R=>wpAny_truthy_bool ?_
 exact⟨ρ',σ,.bool _,p,R,rfl,k⟩
theorem Zq{p1 p2 p3 pos:Pos}(hx0:lk x0 σ.loc=some (.obj jc))(hj:σ.objs.list[jc]? =some (.tup [y,z]))(hy:bc y i)(hz:bI z sg)(ok:jE sg=true){r:bK}(hr:ia rows (i,sg)=some r){K:SV→SS→Prop}(k:K (.obj σ.objs.length) ⟨σ.loc,OL.a σ.objs (.tup [.str r.2.1,.str r.2.2.1,.int r.2.2.2]),σ.fa⟩):aq G (.Subscript (.Call (.Name nm p1) [] [] p2) (.Name x0 p3) pos) σ K:=fun c ρ s qq a qq=>by
 refine Subscript_ (a.A9 TF hkeep hn1 hn hg (pr _) fun ρ' w s' p a' V=>a'.name hd0 hl0 hx0 fun v q=>?_)
 obtain⟨b,rfl,hk⟩:=a'.HX q hj hy hz ok
 refine V.got Kp.rfl (az _) (by show c.A.units+1+3<_;have:=a.ok.hu;exact Om.yX hn1 this) hk hr (bL rfl) fun q tk R=>?_
 exact⟨ρ'++[q],_,.obj σ.objs.length,p.trans (cu _ _),R,⟨q,(let⟨_,l,_⟩:=a'.R;l.end q),rfl⟩,k⟩
theorem Zr{p1 p2 p3 p4 p5 pos:Pos}{k1 k2:Nat}{so:Str}(hx0:lk x0 σ.loc=some y)(hy:bc y i)(ok:jE so=true){r:bK}(hr:ia rows (i,so)=some r){K:SV→SS→Prop}(k:K (.obj σ.objs.length) ⟨σ.loc,OL.a σ.objs (.tup [.str r.2.1,.str r.2.2.1,.int r.2.2.2]),σ.fa⟩):aq G (.Subscript (.Call (.Name nm p1) [] [] p2) (.Tuple [.Name x0 p3,.Constant (.str so) k1 p4] k2 p5) pos) σ K:=fun c ρ s qq a qq=>by
 refine Subscript_ (a.A9 TF hkeep hn1 hn hg (pr _) fun ρ' w s' p a' V=>wpAny_Tuple (args_cons (a'.name hd0 hl0 hx0 fun v q=>?_)))
 obtain⟨t,rfl⟩:=hy q
 refine args_cons (wpAny_Constant_str (args_nil ⟨by rw[sizeLine_eq];show 2≤_;decide,?_⟩))
 refine V.got (k:=(i,so)) ?_ ?_ (by show c.A.units+1+3<_;have:=a.ok.hu;exact Om.yX hn1 this) ?_ hr (bL rfl) fun q tk R=>?_
 ·exact⟨fun b o e=>iE _ e,by show _≤(Heap.push _ _).objs.size;rw[yF];exact cV _,rfl,rfl⟩
 ·exact cV _
 ·exact⟨ok,_,t,_,rA _ rfl⟩
 exact⟨ρ'++[q],_,.obj σ.objs.length,p.trans (cu _ _),R,⟨q,(let⟨_,l,_⟩:=a'.R;l.end q),rfl⟩,k⟩
noncomputable def w6 (rows:List bK) (i:Int) (sg so:Str):Option (Str×Str×Int):=@aU bK (fun qq=>Option (Str×Str×Int)) ((ia rows (i,so)).map (·.2)) (fun r=>some r.2) (ia rows (i,sg))
theorem Zs{q1 q2 q3 q4 r1 r2 r3 r4 s1 s2 s3 s4 s5 s6 pos:Pos}{k1 k2:Nat}{x1 so:Str}(hx0:lk x0 σ.loc=some (.obj jc))(hj:σ.objs.list[jc]? =some (.tup [y,z]))(hy:bc y i)(hz:bI z sg)(ok:jE sg=true)(oko:jE so=true)
 (hd1:seq x1 "__debug__"=false) (hl1:lk x1 G.cs.names=some .local) (hx1:lk x1 σ.loc=some y) {dd ff:Str} {fw:Int} (hx:w6 rows i sg so=some (dd,ff,fw)) {K:SV→SS→Prop} (k:K (.obj σ.objs.length) ⟨σ.loc,OL.a σ.objs (.tup [.str dd,.str ff,.int fw]),σ.fa⟩):
 aq G (.IfExp (.Compare (.Name x0 q1) [.In] [.Call (.Name nm q2) [] [] q3] q4) (.Subscript (.Call (.Name nm r1) [] [] r2) (.Name x0 r3) r4) (.Subscript (.Call (.Name nm s1) [] [] s2) (.Tuple [.Name x1 s3,.Constant (.str so) k1 s4] k2 s5) s6) pos) σ K:=by
 refine vB (Zp TF hkeep hn1 hn hg hd0 hl0 hx0 hj hy hz ok ?_)
 unfold w6 at hx
 cases h1:ia rows (i,sg) with
 |some r=>
  rw[h1] at hx
  obtain⟨rk,a,b,c⟩:=r
  cases hx
  exact Zq TF hkeep hn1 hn hg hd0 hl0 hx0 hj hy hz ok h1 k
 |none=>
  rw[h1] at hx
  cases h2:ia rows (i,so) with
  |none=>rw[h2] at hx;cases hx
  |some r=>
   rw[h2] at hx
   obtain⟨rk,a,b,c⟩:=r
   cases hx
   exact Zr TF hkeep hn1 hn hg hd1 hl1 hx1 hy oko h2 k
end
end
end Ex
end
section
namespace Ex
noncomputable section
noncomputable def bl (k:Str):Nat→Int→Int→Int:=cD (fun lo qq=>lo) fun qq ih lo hi=>@aj (fun qq=>Int) lo (@aj (fun qq=>Int) (ih lo ((lo+hi).fdiv 2)) (ih ((lo+hi).fdiv 2+1) hi) (decide ((Tb.gV.getD ((lo+hi).fdiv 2).toNat ⟨#[]⟩).cps.toList<k.cps.toList))) (decide (lo<hi))
theorem HY{k:Str}{n:Nat}{lo hi:Int}(h:decide (lo<hi)=false):bl k n lo hi=lo:=by
 cases n with
 |zero=>rfl
 |succ n=>
  show@aj (fun qq=>Int) lo _ (decide (lo<hi))=lo
  rw[h]
theorem HZ{k:Str}{n:Nat}{lo hi:Int}(h:decide (lo<hi)=true)(q:decide ((Tb.gV.getD ((lo+hi).fdiv 2).toNat ⟨#[]⟩).cps.toList<k.cps.toList)=true):bl k (n+1) lo hi=bl k n ((lo+hi).fdiv 2+1) hi:=by
 show@aj (fun qq=>Int) lo (@aj (fun qq=>Int) _ (bl k n ((lo+hi).fdiv 2+1) hi) (decide ((Tb.gV.getD ((lo+hi).fdiv 2).toNat ⟨#[]⟩).cps.toList<k.cps.toList))) (decide (lo<hi))=_
 rw[h,q]
theorem H6{k:Str}{n:Nat}{lo hi:Int}(h:decide (lo<hi)=true)(q:decide ((Tb.gV.getD ((lo+hi).fdiv 2).toNat ⟨#[]⟩).cps.toList<k.cps.toList)=false):bl k (n+1) lo hi=bl k n lo ((lo+hi).fdiv 2):=by
 show@aj (fun qq=>Int) lo (@aj (fun qq=>Int) (bl k n lo ((lo+hi).fdiv 2)) _ (decide ((Tb.gV.getD ((lo+hi).fdiv 2).toNat ⟨#[]⟩).cps.toList<k.cps.toList))) (decide (lo<hi))=_
 rw[h,q]
theorem half{lo hi:Int}(h0:0≤lo)(h:lo<hi):lo≤(lo+hi).fdiv 2∧(lo+hi).fdiv 2<hi:=by
 rw[Int.fdiv_eq_ediv_of_nonneg _ (by decide)];exact Om.N9 h
theorem Zt(k:Str):∀(n:Nat) (lo hi:Int),0≤lo→lo≤hi→lo≤bl k n lo hi∧bl k n lo hi≤hi:=fun n=>by
 induction n with
 |zero=>exact fun lo hi qq h=>⟨Int.le_refl _,h⟩
 |succ n ih=>
  intro lo hi h0 h
  cases e:decide (lo<hi) with
  |false=>rw[HY e];exact⟨Int.le_refl _,h⟩
  |true=>
   obtain⟨h1,h2⟩:=half h0 (of_decide_eq_true e)
   cases q:decide ((Tb.gV.getD ((lo+hi).fdiv 2).toNat ⟨#[]⟩).cps.toList<k.cps.toList) with
   |true=>rw[HZ e q];have:=ih ((lo+hi).fdiv 2+1) hi (by exact Om.Dv h0 h1) (by exact Om.Oa h2);exact Om.Ob h1 this
   |false=>rw[H6 e q];have:=ih lo ((lo+hi).fdiv 2) h0 (by omega);exact Om.Oc h2 this
noncomputable def H7 (G:Gx) (e:Expr) (σ:SS) (K:SV→SS→Prop):Prop:=((ex 60 G).T e σ fun x σ'=>.pr (K x σ') .tt).t.h
theorem Zu{G:Gx}(g:bE G){e:Expr}{σ:SS}{K:SV→SS→Prop}(h:H7 G e σ K):bN G e σ K:=(((ex 60 G).T e σ fun x σ'=>.pr (K x σ') .tt).ok h g).mp fun qq qq z=>z.1
noncomputable abbrev qA (W:Wd):Gx:=gi (WS W) Tb.s7.scope 0 []
noncomputable def jU (i:Nat):Stmt:=aV Tb.s7.body i
noncomputable abbrev Lb (k:Str) (lo hi:Int):List (Str×SV):=[(aa "rows",.val (.ref 243)),(aa "key",.ss k),(aa "low",.si lo),(aa "high",.si hi)]
theorem Zv:Tb.s7.body=[jU 0,.While (kX (jU 1)) (iW (jU 1)) [] (YA (jU 1)),jU 2]:=by kernel_rfl
noncomputable abbrev Ba (k:Str):List (Str×SV):=[(aa "rows",.val (.ref 243)),(aa "key",.ss k),(aa "low",.int 0),(aa "high",.int 43)]
theorem Zw(W:Wd)(k:Str)(K:Fl→SS→Prop)(o:OL)(fa:List Fact):gy (qA W) (jU 0) ⟨Ba k,o,fa⟩ K=(K .next ⟨Ba k,o,fa⟩∧True):=by kernel_rfl
theorem Zx(W:Wd)(k:Str)(lo hi:Int)(K:SV→SS→Prop)(o:OL)(fa:List Fact):H7 (qA W) (kX (jU 1)) ⟨Lb k lo hi,o,fa⟩ K=(K (.sb (decide (lo<hi))) ⟨Lb k lo hi,o,fa⟩∧True):=by kernel_rfl
theorem Zy(W:Wd)(k:Str)(lo hi:Int)(K:Fl→SS→Prop)(o:OL)(fa:List Fact):mS (qA W) (iW (jU 1)) ⟨Lb k lo hi,o,fa⟩ K=(x9 (lo+hi) 2=false∧(0≤(lo+hi).fdiv 2∧(lo+hi).fdiv 2<43)∧fk (decide ((Tb.gV.getD ((lo+hi).fdiv 2).toNat ⟨#[]⟩).cps.toList<k.cps.toList))
 (K .next ⟨(aa "low",.si ((lo+hi).fdiv 2+1))::(aa "middle",.si ((lo+hi).fdiv 2))::Lb k lo hi,o,fa⟩∧True) (K .next ⟨(aa "high",.si ((lo+hi).fdiv 2))::(aa "middle",.si ((lo+hi).fdiv 2))::Lb k lo hi,o,fa⟩∧True)):=by kernel_rfl
theorem Zz(W:Wd)(k:Str)(lo hi:Int)(K:Fl→SS→Prop)(o:OL)(fa:List Fact):gy (qA W) (jU 2) ⟨Lb k lo hi,o,fa⟩ K=(K (.ret (.si lo)) ⟨Lb k lo hi,o,fa⟩∧True):=by kernel_rfl
noncomputable def H8 (xs:List SV):Option {k:Str//∀ρ (W:Wd) vs,aG W ρ xs vs→aG W ρ [.val (.ref 243),.ss k,.int 0,.int 43] vs}:=match xs with
 |[a,x,l,h]=>ak (zd a) fun t=>ak (aO (aB t.1 243)) fun ht=>ak (b7 x) fun k=>ak (bA l) fun l'=>ak (aO (decide (l'.1=0))) fun hl=>ak (bA h) fun h'=>(aO (decide (h'.1=43))).map fun hh=>⟨k.1,fun ρ W vs r=>by
  cases r using Each.ec with
  |cons r1 r=>cases r using Each.ec with
   |cons r2 r=>cases r using Each.ec with
    |cons r3 r=>cases r using Each.ec with
     |cons r4 r=>
      rw[t.2,bh ht.1] at r1
      refine .cons r1 (.cons (k.2 r2) (.cons ?_ (.cons ?_ r)))
      ·have:=l'.2 r3;rw[of_decide_eq_true hl.1] at this;exact this
      ·have:=h'.2 r4;rw[of_decide_eq_true hh.1] at this;exact this⟩
 |_=>af
noncomputable def tQ:bx:=fun xs σ K=>@aU _ (fun qq=>Tr) .ff (fun k=>K (.si (bl k.1 43 0 43)) σ) (H8 xs)
theorem ZA{i:Int}(h0:0≤i)(h:i≤1000):x9 i 2=false:=by
 have h1:i.natAbs.log2≤9:=by
  by_cases e:i.natAbs=0
  ·rw[e];decide
  ·exact yw ((Nat.log2_lt e).mpr (by exact Om.Od h0 h))
 unfold x9
 rw[Bool.and_eq_false_iff]
 refine .inr (decide_eq_false ?_)
 dsimp only
 split<;>split<;>(first|exact Om.Oe|exact Om.Og|exact Om.Oh h1|exact Om.Oi h1)
theorem ZC(W:Wd):cH (WS W) (178,1,tQ):=fun G hD hT hn xs σ K h=>by
 obtain⟨D,T,m,cs,KX,con,sc,ec,cv,fr⟩:=G
 obtain rfl:D=WS W:=hD
 obtain rfl:T=Tb.T:=hT
 have h':(tQ xs σ K).h:=h
 unfold tQ at h'
 cases q:H8 xs with
 |none=>rw[q] at h';exact h'.elim
 |some k=>
  rw[q] at h'
  obtain⟨k,hv⟩:=k
  have hk:hh K (.si (bl k 43 0 43)) σ:=h'
  have g:bE (qA W):=mQ fun x hx=>by cases hx
  refine au.conv (xs':=[.val (.ref 243),.ss k,.int 0,.int 43]) (fun ρ vs r=>hv ρ _ vs r) (au.sw (n:=1) (cons:=[]) hn (au.ent (K:=hh K) (mr (i:=Tb.s7) (n:=0) rfl rfl rfl rfl ?_)))
  rw[Zv]
  refine cP (iZ g ?_)
  show gy (qA W) (jU 0) ⟨Ba k,σ.objs,σ.fa⟩ _
  rw[Zw]
  refine⟨aK.pre (aD.sub (L':=Lb k 0 43) (by kernel_rfl)) ?_,trivial⟩
  let J:Nat→SS→Prop:=fun n σ'=>∃lo hi,0≤lo∧hi≤43∧(hi-lo).toNat≤n∧bl k n lo hi=bl k 43 0 43∧σ'=⟨Lb k lo hi,σ.objs,σ.fa⟩
  refine cP (sY (fun qq qq qq h=>h) J (fun n σ' hJ=>?_) 43 ⟨0,43,by decide,by decide,by decide,rfl,rfl⟩)
  obtain⟨lo,hi,h0,h1,h2,h3,rfl⟩:=hJ
  refine Zu g ?_
  rw[Zx]
  refine⟨⟨fun e=>?_,fun e=>?_⟩,trivial⟩
  ·have hlt:=of_decide_eq_true e
   obtain⟨h4,h5⟩:=half h0 hlt
   cases n with
   |zero=>exact Om.Oj hlt h2
   |succ n=>
    refine aK.ent (mT g (K:=fun fl σ'=>fl=.next∧∃σ'',aD (WS W) σ' σ''∧J n σ'') ((Zy W k lo hi _ σ.objs σ.fa).mpr ⟨ZA (by exact Om.Ol h0 hlt) (by exact Om.Oo h1 hlt),⟨by exact Om.Oq h0 h4,by exact Om.Ot h0 h1 hlt h5⟩,⟨fun q=>⟨⟨rfl,_,aD.sub (L':=Lb k ((lo+hi).fdiv 2+1) hi) (by kernel_rfl),(lo+hi).fdiv 2+1,hi,by exact Om.Dv h0 h4,h1,by exact Om.Ou hlt h4 h2,(HZ e q).symm.trans h3,rfl⟩,trivial⟩,fun q=>⟨⟨rfl,_,aD.sub (L':=Lb k lo ((lo+hi).fdiv 2)) (by kernel_rfl),lo,(lo+hi).fdiv 2,h0,by exact Om.Ov h0 h1 hlt h5,by exact Om.Ow hlt h5 h2,(H6 e q).symm.trans h3,rfl⟩,trivial⟩⟩⟩)) ?_
    rintro fl σ' ⟨rfl,σ'',l',hJ⟩
    exact⟨σ'',l',n,iG n,hJ⟩
  ·refine cP (iZ g ?_)
   rw[Zz]
   rw[HY e] at h3
   rw[←h3] at hk
   exact⟨⟨_,fun qq qq qq R=>R,hk⟩,trivial⟩
end
end Ex
end
section
namespace Ex
noncomputable section
noncomputable def Bb (D:Wd) (cs:bW) (n:Nat) (cons:List (Addr×Nat×bx)) (f:Addr) (xs:List SV) (σ:SS) (K:SV→SS→Prop):Prop:=(kN (ex 60) (gx D cs n cons) f xs σ fun x σ'=>.pr (K x σ') .tt).t.h
theorem w7{W:Wd}{m n:Nat}{cs:bW}{KX:Value→List Addr→SS→Prop}{con:List (Addr×Nat×bx)}{sc:List (Nat×Stmt×lZ)}{ec:List (Nat×Expr×mh)}{cv:List (Str×Nat)}{fr:Bool}{cons:List (Addr×Nat×bx)}{f:Addr}{xs:List SV}{σ:SS}{K:SV→SS→Prop}
 (hn:n≤m) (g:∀x∈cons,cH (WS W) x) (h:Bb (WS W) cs n cons f xs σ K):au (⟨WS W,Tb.T,m,cs,KX,con,sc,ec,cv,fr⟩:Gx) (.ref f) xs σ K:=
 au.sw (n:=n) (cons:=cons) hn (((kN (ex 60) (gx (WS W) cs n cons) f xs σ fun x σ'=>.pr (K x σ') .tt).ok h (Ah g)).mp fun qq qq z=>z.1)
noncomputable def hkp (p:Str):Bool:=bT p Tb.bU||(!decide (bl p 43 0 43=43)&&lP (Tb.gV.getD (bl p 43 0 43).toNat ⟨#[]⟩) p)
theorem vH(D:Wd)(cs:bW)(p:Str)(σ:SS)(K:SV→SS→Prop):Bb D cs 2 [(178,1,tQ)] 220 [.val (.ref 236),.ss p] σ K=fk (bT p Tb.bU) (K (.bool true) ⟨σ.loc,σ.objs,σ.fa⟩∧True) (fk (lP p (aa "")) (fk (decide (bl p 43 0 43=43)) (K (.bool false) ⟨σ.loc,σ.objs,σ.fa⟩∧True)
 ((0≤bl p 43 0 43∧bl p 43 0 43<43)∧K (.sb (lP (Tb.gV.getD (bl p 43 0 43).toNat ⟨#[]⟩) p)) ⟨σ.loc,σ.objs,σ.fa⟩∧True)) False):=by kernel_rfl
theorem H9(p:Str):lP p (aa "")=true:=by
 unfold lP
 have e:(aa "").length=0:=rfl
 rw[e]
 simp only[CZ,ef,decide_true,Bool.true_and]
 show Builtin.Str.subAt p ⟨#[]⟩ 0=true
 unfold Builtin.Str.subAt
 have e2:(⟨#[]⟩:Str).length=0:=rfl
 rw[e2]
 simp
theorem Ia{W:Wd}{m:Nat}{cs:bW}{KX:Value→List Addr→SS→Prop}{con:List (Addr×Nat×bx)}{sc:List (Nat×Stmt×lZ)}{ec:List (Nat×Expr×mh)}{cv:List (Str×Nat)}{fr:Bool}{p:Str}{σ:SS}{K:SV→SS→Prop}(hn:2≤m)(k:K (.sb (hkp p)) σ):
 au (⟨WS W,Tb.T,m,cs,KX,con,sc,ec,cv,fr⟩:Gx) (.ref 220) [.val (.ref 236),.ss p] σ K:=by
 have conv:∀{b:Bool},hkp p=b→∀x,(∀ρ v,VR (WS W) ρ x v→v=.bool b)→au (⟨WS W,Tb.T,m,cs,KX,con,sc,ec,cv,fr⟩:Gx) (.ref 220) [.val (.ref 236),.ss p] σ (fun y σ'=>y=x∧σ'=σ)→au (⟨WS W,Tb.T,m,cs,KX,con,sc,ec,cv,fr⟩:Gx) (.ref 220) [.val (.ref 236),.ss p] σ K:=fun{b} e x hx h c ρ s vs a r=>
  jO (h c ρ s vs a r) (fun v s' ⟨ρ',σ',y,pp,R,q,e1,e2⟩=>by subst e1 e2;obtain rfl:=hx _ _ q;exact⟨ρ',σ',.sb (hkp p),pp,R,by rw[e];rfl,k⟩) fun qq qq z=>z
 have hin:=Zt p 43 0 43 (by decide) (by decide)
 have c1:∀x∈[(178,1,tQ)],cH (WS W) x:=qv (ZC W)
 cases e1:bT p Tb.bU with
 |true=>
  refine conv (b:=true) (by unfold hkp;rw[e1];rfl) (.bool true) (fun qq qq r=>r) (w7 hn c1 ?_)
  rw[vH]
  exact⟨fun qq=>⟨⟨rfl,rfl⟩,trivial⟩,fun e=>by rw[e1] at e;cases e⟩
 |false=>cases e2:decide (bl p 43 0 43=43) with
  |true=>
   refine conv (b:=false) (by unfold hkp;rw[e1,e2];rfl) (.bool false) (fun qq qq r=>r) (w7 hn c1 ?_)
   rw[vH]
   exact⟨fun e=>(by rw[e1] at e;cases e),fun qq=>⟨fun qq=>⟨fun qq=>⟨⟨rfl,rfl⟩,trivial⟩,fun e=>(by rw[e2] at e;cases e)⟩,fun e=>by rw[H9] at e;cases e⟩⟩
  |false=>
   refine conv (b:=lP (Tb.gV.getD (bl p 43 0 43).toNat ⟨#[]⟩) p) (by unfold hkp;rw[e1,e2];rfl) (.sb _) (fun qq qq r=>r) (w7 hn c1 ?_)
   rw[vH]
   exact⟨fun e=>(by rw[e1] at e;cases e),fun qq=>⟨fun qq=>⟨fun e=>(by rw[e2] at e;cases e),fun qq=>⟨⟨hin.1,by have:=of_decide_eq_false e2;exact Om.Ox hin this⟩,⟨rfl,rfl⟩,trivial⟩⟩,fun e=>by rw[H9] at e;cases e⟩⟩
theorem ZD:(Tb.gV.all fun z=>av z.length 9)=true:=by kernel_rfl
theorem Ib:(Tb.bU.all fun z=>av 2 z.1.length&&(av z.1.length 9&&(av z.2.length 10&&z.2.cps.toList.all fun c=>cW c 1114112)))=true:=by kernel_rfl
theorem ZE{n:Str}{D:List (Str×Str)}(h:bT n D=true):∃z∈D,z.1=n:=by
 induction D with
 |nil=>cases h
 |cons p r ih=>
  rw[Gz,iI] at h
  rcases h with h|h
  ·exact⟨p,.head _,(bS.mp h).symm⟩
  ·obtain⟨z,hz,e⟩:=ih h;exact⟨z,.tail _ hz,e⟩
theorem w9{n:Str}(h:bT n Tb.bU=true):2≤n.length∧n.length≤9:=by
 obtain⟨z,hz,rfl⟩:=ZE h
 have:=bH.mp Ib z hz
 simp only[aY] at this
 exact⟨ao this.1,ao this.2.1⟩
theorem ZF{a b:Str}(h:lP a b=true):b.length≤a.length:=by
 unfold lP at h
 simp only[jb,aY,decide_eq_true_eq] at h
 exact Om.Oz h
theorem ZG{p:Str}(h:hkp p=true):p.length≤9:=by
 unfold hkp at h
 rw[iI,aY] at h
 rcases h with h|⟨_,h⟩
 ·exact(w9 h).2
 ·refine ah (ZF h) ?_
  cases e:Tb.gV[(bl p 43 0 43).toNat]? with
  |none=>rw[kc,e];decide
  |some z=>
   rw[kc,e]
   exact ao (bH.mp ZD z (fZ e))
structure i0 (η:Ev):Prop where
 k:∀l,η.p 22 l=hkp (ai l)
 e:∀l,η.p 23 l=bT (ai l) Tb.bU
 g:∀l,bT (ai l) Tb.bU=true→ai (η.f 22 l)=gU (ai l) Tb.bU
noncomputable def ic (fa:List Fact):Tm→Nat:=Tm.rec 0 fun k l a b iha qq=>@aU _ (fun qq=>Nat) (@aj (fun qq=>Nat) 0 (@cD (fun qq=>Nat) 0 (fun n qq=>@aU _ (fun qq=>Nat) 0 (fun qq=>n+2) (jQ b fa)) iha) (aB k 5)) (fun qq=>1) (jQ (.n k l a b) fa)
inductive ZH (fa:List Fact) (t:Tm) (n:Nat):Prop
 |one (h:∀η,aI η fa→(t.ev η).length=1) (e:n=1)
 |more (l:List Nat) (a b:Tm) (m:Nat) (et:t=.n 5 l a b) (ha:ic fa a=m+1) (hb:∀η,aI η fa→(b.ev η).length=1) (e:n=m+2)
theorem Ic{fa:List Fact}{t:Tm}{n:Nat}(h:ic fa t=n+1):ZH fa t (n+1):=by
 cases t with
 |e=>cases h
 |n k l a b=>
  have h':@aU _ (fun qq=>Nat) (@aj (fun qq=>Nat) 0 (@cD (fun qq=>Nat) 0 (fun n qq=>@aU _ (fun qq=>Nat) 0 (fun qq=>n+2) (jQ b fa)) (ic fa a)) (aB k 5)) (fun qq=>1) (jQ (.n k l a b) fa)=n+1:=h
  cases q:jQ (.n k l a b) fa with
  |some z=>rw[q] at h';exact .one z.1 h'.symm
  |none=>
   rw[q] at h'
   have h2:@aj (fun qq=>Nat) 0 (@cD (fun qq=>Nat) 0 (fun n qq=>@aU _ (fun qq=>Nat) 0 (fun qq=>n+2) (jQ b fa)) (ic fa a)) (aB k 5)=n+1:=h'
   cases q2:aB k 5 with
   |false=>rw[q2] at h2;cases h2
   |true=>
    rw[q2] at h2
    have h3:@cD (fun qq=>Nat) 0 (fun n qq=>@aU _ (fun qq=>Nat) 0 (fun qq=>n+2) (jQ b fa)) (ic fa a)=n+1:=h2
    cases q3:ic fa a with
    |zero=>rw[q3] at h3;cases h3
    |succ m=>
     rw[q3] at h3
     have h4:@aU _ (fun qq=>Nat) 0 (fun qq=>m+2) (jQ b fa)=n+1:=h3
     cases q4:jQ b fa with
     |none=>rw[q4] at h4;cases h4
     |some z=>
      rw[q4] at h4
      exact .more l a b m (by rw[bh q2]) q3 z.1 h4.symm
theorem Bc{fa:List Fact}{η:Ev}(ok:aI η fa):∀(t:Tm) (n:Nat),ic fa t=n+1→(t.ev η).length=n+1:=fun t=>by
 induction t with
 |e=>intro n h;cases h
 |n k l a b iha _=>
  intro n h
  cases Ic h with
  |one h e=>rw[h η ok,e]
  |more l' a' b' m et ha hb e=>
   cases et
   show(a.ev η++b.ev η).length=_
   rw[bG,iha m ha,hb η ok,e]
noncomputable def tR (t:Tm) (fa:List Fact):Option {n:Nat//∀η,aI η fa→(t.ev η).length=n}:=@cD (fun n=>ic fa t=n→Option {n:Nat//∀η,aI η fa→(t.ev η).length=n}) (fun qq=>af) (fun n qq h=>some ⟨n+1,fun η ok=>Bc ok t n h⟩) (ic fa t) rfl
noncomputable def many (o:Option Nat):Bool:=match o with
 |some n=>av 10 n
 |Option.none=>false
noncomputable def few (o:Option Nat):Bool:=match o with
 |some n=>av n 1
 |Option.none=>false
noncomputable def Ie (xs:List SV):Option {t:Tm//∀ρ (W:Wd) vs,aG W ρ xs vs→aG W ρ [.val (.ref 236),.ss (ai (t.ev W.η))] vs}:=match xs with
 |[a,x]=>ak (zd a) fun t=>ak (aO (aB t.1 236)) fun ht=>(cZ x).map fun k=>⟨k.1,fun ρ W vs r=>by
  cases r using Each.ec with
  |cons r1 r=>cases r using Each.ec with
   |cons r2 r=>
    rw[t.2,bh ht.1] at r1
    exact .cons r1 (.cons (k.2 r2) r)⟩
 |_=>af
noncomputable def xd:bx:=fun xs σ K=>@aU _ (fun qq=>Tr) .ff (fun t=>@aj (fun qq=>Tr) (K (ji σ 22 [] t.1 .e) σ) (K (.bool false) σ) (many ((tR t.1 σ.fa).map (·.1)))) (Ie xs)
theorem au.agr{G:Gx}{f:Value}{xs xs':List SV}{σ:SS}{K:SV→SS→Prop}(hc:∀ρ vs,aI G.D.η σ.fa→aG G.D ρ xs vs→aG G.D ρ xs' vs)(h:au G f xs' σ K):au G f xs σ K:=fun c ρ s vs a r=>h c ρ s vs a (hc ρ vs a.fa r)
theorem au.fa{G:Gx}{f:Value}{xs:List SV}{σ:SS}{K:SV→SS→Prop}(h:aI G.D.η σ.fa→au G f xs σ K):au G f xs σ K:=fun c ρ s vs a r=>h a.fa c ρ s vs a r
theorem ZI{t:Tm}{fa:List Fact}{η:Ev}(h:many ((tR t fa).map (·.1))=true)(ok:aI η fa):10≤(t.ev η).length:=by
 cases q:tR t fa with
 |none=>rw[q] at h;cases h
 |some n=>rw[q] at h;rw[n.2 η ok];exact ao h
theorem au.res{G:Gx}{f:Value}{xs:List SV}{σ:SS}{x y:SV}{K:SV→SS→Prop}(h:au G f xs σ fun z σ'=>z=x∧σ'=σ)(hv:aI G.D.η σ.fa→∀ρ v,VR G.D ρ x v→VR G.D ρ y v)(k:K y σ):au G f xs σ K:=fun c ρ s vs a r=>
 jO (h c ρ s vs a r) (fun v s' ⟨ρ',σ',z,pp,R,q,e1,e2⟩=>by subst e1 e2;exact⟨ρ',_,y,pp,R,hv R.fa _ _ q,k⟩) fun qq qq z=>z
theorem ZJ(W:Wd)(he:i0 W.η):cH (WS W) (220,3,xd):=fun G hD hT hn xs σ K h=>by
 obtain⟨D,T,m,cs,KX,con,sc,ec,cv,fr⟩:=G
 obtain rfl:D=WS W:=hD
 obtain rfl:T=Tb.T:=hT
 have h':(xd xs σ K).h:=h
 unfold xd at h'
 cases q:Ie xs with
 |none=>rw[q] at h';exact h'.elim
 |some t=>
  rw[q] at h'
  refine au.conv (fun ρ vs r=>t.2 ρ _ vs r) ?_
  have h2:(@aj (fun qq=>Tr) (K (ji σ 22 [] t.1 .e) σ) (K (.bool false) σ) (many ((tR t.1 σ.fa).map (·.1)))).h:=h'
  have hn':2≤m:=Nat.le_of_succ_le hn
  cases e:many ((tR t.1 σ.fa).map (·.1)) with
  |false=>
   rw[e] at h2
   exact au.res (x:=.sb (hkp (ai (t.1.ev W.η)))) (Ia hn' ⟨rfl,rfl⟩) (fun ok ρ v r=>by
    obtain rfl:v=.bool _:=r
    have:BR (WS W) (ji σ 22 [] t.1 .e) (aZ W.η 22 [] (t.1.ev W.η) []):=pW (W:=WS W) ok
    have e2:aZ W.η 22 [] (t.1.ev W.η) []=hkp (ai (t.1.ev W.η)):=he.k _
    rw[e2] at this
    exact this.VR) h2
  |true=>
   rw[e] at h2
   exact au.res (x:=.sb (hkp (ai (t.1.ev W.η)))) (Ia hn' ⟨rfl,rfl⟩) (fun ok ρ v r=>by
    obtain rfl:v=.bool _:=r
    have hl:=ZI e ok
    cases e3:hkp (ai (t.1.ev W.η)) with
    |false=>rfl
    |true=>have:=ZG e3;rw[eY] at this;exact absurd (ah hl this) (by decide)) h2
end
end Ex
end
section
namespace Ex
noncomputable section
inductive ZK (lo:Int) (n:Nat) (I:Addr) (i:Nat) (l rr:List (Addr×Obj)):Prop
 |mk (e:l=[(I,{cls:=.type "range_iterator",dict:=none,data:=.fields #[rawInt (lo+i),rawInt ((n:Int)-i),rawInt 1],slots:=#[]})]) (e':rr=[])
noncomputable def tS (lo:Int) (n i:Nat):Option SV:=@aj (fun qq=>Option SV) af (some (.si (lo+i))) (cW i n)
theorem Bd{lo:Int}{n i:Nat}(h:i<n):tS lo n i=some (.si (lo+i)):=by
 unfold tS
 rw[show cW i n=true from yh h]
theorem Be{lo:Int}{n i:Nat}(h:n≤i):tS lo n i=af:=by
 unfold tS
 cases e:cW i n with
 |false=>rfl
 |true=>exact absurd (ao e) (by exact Om.OA h)
noncomputable def qB (lo:Int) (n:Nat):Src where
 it:=fun qq i=>some (tS lo n i)
 bk:=some
 ob _ I _ i l rr:=ZK lo n I i l rr
 mono:=fun h qq=>h
 next:=fun{G c ρ σ s I i l rr r Q E} hR a ⟨e,e'⟩ hit hQ=>by
  subst e e'
  obtain rfl:=jB hit
  have hI:IsRangeIter s.heap I (lo+i) ((n:Int)-i) 1:=a.heap (p:=(I,_)) (.head _)
  by_cases h:i<n
  ·rw[Bd h] at hQ
   refine wpAny_pyNext_range_item hI (by exact Om.OB h) fun h' hit' hs'=>?_
   have e1:lo+(i:Int)+1=lo+((i+1:Nat):Int):=by exact Om.OC
   have e2:(n:Int)-(i:Int)-1=(n:Int)-((i+1:Nat):Int):=by exact Om.OD
   rw[e1,e2] at hit'
   exact hQ _ [(I,_)] _ (a.turn (own:=[]) hR hit' (fun b o hb e=>hs'.extBut b o hb e) (cV _)) ⟨_,rfl⟩ ⟨rfl,rfl⟩
  ·rw[Be (lM h)] at hQ
   exact wpAny_pyNext_range_end a.ok.hh hI (by exact Om.OE h) fun h' he'=>hQ _ fun σ' q=>by cases q;exact a.drop (own:=[]) (fun b o hb e=>he' b o hb e) (az _)
 go:=fun{G c ρ σ s I i l rr v tgt Q E} a ⟨e,e'⟩ hQ=>by
  subst e e'
  exact letGo (a.heap (p:=(I,_)) (.head _)) rfl (by decide) hQ
 self:=fun{G c ρ σ s I i l rr Q E} a ⟨e,e'⟩ hQ=>by
  subst e e'
  exact wpAny_pyIter_rangeiter (a.heap (p:=(I,_)) (.head _)) hQ
 back:=fun{G c ρ σ s I i l rr σ'} hR a ⟨e,e'⟩ hb=>by
  subst e e'
  cases hb
  exact At.same (own:=[]) a
section
variable{G:Gx}{σ:SS}{pos:Pos}
theorem Ig{c:Cx}{ρ ρ₀:List Addr}{s:Shared}{E:Value→Shared→Prop}(a:At G c ρ σ s)(p:ρ₀<+:ρ){lo hi:Int}{r:Addr}{t u v:Tok}{h':Heap}{tk:Nat}(htk:s.toks≤tk)(he:h'=s.heap.push {cls:=.type "range",data:=.fields #[.int lo t,.int hi u,.int 1 v]})(hr:r=s.heap.objs.size)
 (h1:-1000000000≤lo) (h2:lo≤1000000000) (h3:-1000000000≤hi) (h4:hi≤1000000000) {R:Src→SS→Prop} (hR:R (qB lo (hi-lo).toNat) σ):
 wpAny G.D.M c.A (pyIter (.ref r)) (fun it s₂=>∃I l rr S ρ' σ',it=.ref I∧ρ₀<+:ρ'∧At G (c.plus l rr) ρ' σ' s₂∧Src.ob S G.D I ρ' 0 l rr∧R S σ') E {s with heap:=h',toks:=tk}:=by
 subst he hr
 refine wpAny_pyIter_range (IsRange.new ..) (small_one (by exact Om.Dw h1 h2) (by exact Om.Dy h1 h2) (by exact Om.Dw h3 h4) (by exact Om.Dy h3 h4)) ?_
 have hsz:Builtin.Range.rangeSize lo hi 1=((hi-lo).toNat:Int):=by rw[rangeSize_one];split<;>(first|exact Om.OF ‹_›|exact Om.OG ‹_›)
 have a1:=(a.owned {cls:=.type "range",data:=.fields #[.int lo t,.int hi u,.int 1 v]} rfl)
 have a2:At G c ρ σ {s with heap:=s.heap.push {cls:=.type "range",data:=.fields #[.int lo t,.int hi u,.int 1 v]},toks:=tk}:=a.to (pr _) (At.drop (own:=[]) (rr:=[]) a1 (fun qq qq qq e=>e) htk)
 rw[hsz]
 refine⟨_,[(_,_)],[],qB lo (hi-lo).toNat,ρ,σ,rfl,p,a2.owned {cls:=.type "range_iterator",data:=.fields #[rawInt lo,rawInt ((hi-lo).toNat:Int),rawInt 1]} rfl,?_,hR⟩
 refine⟨?_,rfl⟩
 have e1:lo+((0:Nat):Int)=lo:=by exact Om.OH
 have e2:(((hi-lo).toNat:Nat):Int)-((0:Nat):Int)=((hi-lo).toNat:Int):=by exact Om.OI
 rw[e1,e2]
inductive ZL (lo hi:Int) (ys:List SV):Prop
 |one (y:SV) (e:ys=[y]) (h0:lo=0) (h:bc y hi)
 |two (x y:SV) (e:ys=[x,y]) (h1:bc x lo) (h:bc y hi)
theorem Ih{n:Str}{p':Pos}{e:Expr}{rest:List Expr}{R:Src→SS→Prop}(hn:lk n G.cs.names=some .globalImplicit)(hg:lk n G.T.dM=some (.type "range"))(hp:c5 (e::rest))
 (h:c7 G (e::rest) σ fun ys σ₁=>∃lo hi,ZL lo hi ys∧-1000000000≤lo∧lo≤1000000000∧-1000000000≤hi∧hi≤1000000000∧R (qB lo (hi-lo).toNat) σ₁):kL G (.Call (.Name n p') (e::rest) [] pos) σ R:=fun c ρ s a=>
 Call_ (aK.go (w:=()) (show aq G (.Name n p') σ fun x σ'=>x=.val (.type "range")∧σ'=σ from kH hn hg ⟨rfl,rfl⟩) a (pr _) trivial fun ρ' σ' x v s' p _ a' q ⟨hx,hs⟩=>by
  subst hx hs
  obtain rfl:=q
  refine J4 (h.go a' p trivial fun ρ₂ σ₂ ys vs s₂ p₂ p₂' a₂ q₂ ⟨lo,hi,hr,h1,h2,h3,h4,hR⟩=>?_) (hp _ (.head _) _ _) (plain_any fun t ht=>hp t (.tail _ ht))
  cases hr with
  |one y e h0 hy=>
   subst e h0
   cases q₂ using Each.ec with
   |cons q q'=>
    cases q'
    obtain⟨t,rfl⟩:=hy q
    exact call_range_1 (Ig a₂ p₂ (bC _ 2) rfl rfl h1 h2 h3 h4 hR)
  |two x y e hx hy=>
   subst e
   cases q₂ using Each.ec with
   |cons q q'=>
    cases q' using Each.ec with
    |cons q' q''=>
     cases q''
     obtain⟨t,rfl⟩:=hx q
     obtain⟨t',rfl⟩:=hy q'
     exact call_range_2 (Ig a₂ p₂ (bC _ 1) rfl rfl h1 h2 h3 h4 hR))
end
end
end Ex
end
section
namespace Ex
noncomputable section
section
variable{G:Gx}{σ:SS}{K:SV→SS→Prop}{x:SV}{t:Addr}
theorem ZM{C dx:Addr}{fs:List (Str×SV)}{ci:CI}{f:Addr}(ht:aQ t G.T.nO=some (C,dx,fs))(hc:aQ C G.T.cls=some ci)(hm:lk (aa "__contains__") ci.fM=some f)
 (h:au G (.ref f) [.val (.ref t),x] σ fun z σ'=>fN G z σ' K):aC G (compareOp .In) x (.val (.ref t)) σ K:=.mk fun c ρ s v u a r q=>by
 obtain rfl:=q
 obtain⟨m,⟨ls,ad,l1,l2,g,gr,F,N⟩,hloc⟩:=a.R
 obtain⟨h1,es,k',h2,fr⟩:=a.tk.sin _ (eg ht)
 obtain⟨co,rfl⟩:=a.iN hc
 obtain⟨a1,a2,a3,a4,a5,a6,a7⟩:=co.nQ _ (eU hm)
 have st:∀a o,G.D.K.lookup a=some o→s.heap.get? a=some o:=fun a o e=>F.keep _ _ (gr.X a o e)
 refine in_K F gr.X (show _root_.PySem.W.InstAt s.heap t (instObj ci.C dx) ci.C (some (dictOf es k')) from⟨st _ _ h1,rfl,rfl,st _ _ h2⟩) a1 a2 ?_
 refine wpAny_mono (h.call a (pr _) (.cons rfl (.one r))) (fun r s' z=>?_) fun qq qq z=>z
 obtain⟨ρ',σ',y,p,R,vr,k⟩:=z
 exact aK.go (w:=r) k (a.to p R) p vr fun ρ2 σ2 z b s2 p2 p2' a2 q2 k2=>⟨ρ2,σ2,z,p2,a2.toRepS,q2.VR,k2⟩
end
theorem ZN{G:Gx}{σ:SS}{K:SV→SS→Prop}{f:Addr}{i:aJ}{n:Nat}{xs:List SV}(hi:aQ f G.T.fns=some i)(hn:G.n=n+1)(h1:av i.ps.length (xs.length+i.ds.length)=true)(h2:av xs.length i.ps.length=true)(KR:OL→List Fact→Prop)
 (hb:∀c ρ s,At (G.in n i) c ρ ⟨iQ i xs,σ.objs,σ.fa⟩ s→wpAny G.D.M c.A (execs i.body c.env) (PB (G.in n i) c ρ (vO σ.loc K))
   (fun e s'=>∃h ρ' os' fa' m' a,ρ<+:ρ'∧Led G.D c ρ' (OL.list os') m' h∧e=.ref a∧Heap.NewExc h s'.heap a "KeyError"∧Tp G.D s'∧(∀f∈fa',f.ok G.D.η)∧KR os' fa') s)
 (hx:∀os' fa' e ρ',KR os' fa'→G.KX e ρ' ⟨σ.loc,os',fa'⟩):au G (.ref f) xs σ K:=by
 intro c ρ s vs a r
 have F:=a.tk.fns _ (eg hi)
 obtain⟨oc,od,osl,ho⟩:=F.at_
 obtain⟨m,⟨ls,ad,hL,hnd,g0,gr0,Fr0,N⟩,hloc⟩:=a.R
 have X:=gr0.X
 have hok:=a.ok
 have hlr:=Each.len r
 have hbind:=F.bind s vs (X.keeps Fr0.keep) (hlr▸ao h1) (hlr▸ao h2)
 have hloc':∀y∈i.bind vs,i.scope.names.lookup y.1=some .local:=fun y hy=>of_decide_eq_true (bH.mp F.loc y.1 (Cz hy).1)
 have hfr:=hok.hA (by rw[hn];exact ki _)
 obtain⟨FG,BG,st,lv⟩:=groundX (R:=fun qq qq=>True) gr0.B Fr0 N hfr.1 hfr.2 hok.hk.kind
 refine codeAny_call_def (fd:=i.fd) (body:=i.body) (binds:=i.bind vs) (by have:=hok.hd;exact Om.rR hn this) ((X.keeps Fr0.keep) _ _ ho) rfl (gr0.T.nolimit.keeps Fr0.keep) (codeRec_of (X.keeps Fr0.keep) F.code) rfl hbind F.cell hloc' (fun h₁ hns hk₁=>?_) F.co F.gen F.kind
 let g:=hideAll s.heap ((flat ls++c.X).map (·.1))
 let L':=s.heap.objs.size
 let c':Cx:=⟨c.A.deeper (envOf i.qual i.scope L' f i.cdv),c.A,c.base,g,c.env::c.outer,envOf i.qual i.scope L' f i.cdv,i.scope,L',c.X,c.R⟩
 have ok':Ok G.D c' n:=⟨hok.XB,hok.TB,fun qq=>⟨yl hfr.1,rfl⟩,⟨F.kind,rfl,rfl,rfl,rfl⟩,hok.hh,by
  have:=hok.hd
  show c.A.depth+1+n<_
  exact Om.gH hn this,by
  have:=hok.hu
  show c.A.units+3+8*n+40<_
  exact Om.rS hn this⟩
 have gr':Gr G.D c' g:=⟨BG,X.keeps st,gr0.T.keeps st,sC gr0.D hfr.2 FG st,uV⟩
 have Fl:Fr g L' h₁ (fun y=>(i.bind vs).reverse.lookup y):=⟨hns,fun b o e=>hk₁ b o (of_hideAll _ e),aA (hideAll_size _ _)⟩
 have N':News g L' h₁ (flat ls++c.X):=fun p hp=>⟨hk₁ _ _ (N p hp).1,cU (b4 (N p hp).1),hideAll_none _ (rz hp)⟩
 have hbd:eX G.D ρ (iQ i xs) (fun y=>(i.bind vs).reverse.lookup y):=fun x y e=>by
  unfold aJ.bind
  rw[←hlr]
  exact zC F.nd (Each.app r (aG.zB G.D ρ _)) e
 have a':At (G.in n i) c' ρ ⟨iQ i xs,σ.objs,σ.fa⟩ {s with heap:=h₁,toks:=s.toks+(i.bind vs).length}:=⟨⟨⟨_,⟨ls,ad,hL,hnd,g,gr',Fl,N'⟩,hbd⟩,a.tp.to (bC _ _),a.fa⟩,rfl,ok',a.tk,a.rx,fun x hx=>Om.nm hx,fun qq=>⟨rfl,fun qq=>⟨_,_,_,_,rfl⟩⟩⟩
 refine wpAny_mono (hb c' ρ _ a') (fun fl s' z=>?_) fun e s' z=>?_
 ·obtain⟨ρ',σ',x,p,⟨⟨m',⟨ls',ad',hL',hnd',g1,gr1,F',N''⟩,_⟩,htp,hfa⟩,fr,k⟩:=z
  obtain⟨h₀',T1,F2,N2,B2⟩:=turn_leave gr0.B hfr.2 FG st gr1.t F' N''
  have R2:RepS G.D c ρ' ⟨σ.loc,σ'.objs,σ'.fa⟩ s':=⟨⟨m,⟨ls',ad',hL',hnd',h₀',⟨B2,hok.XB.keeps B2.stays,hok.TB.keeps B2.stays,uD gr0.D T1,gr0.t.trans T1⟩,F2,N2⟩,hloc.mono p⟩,htp,hfa⟩
  cases x with
  |ret x=>obtain⟨v,rfl,q⟩:=fr;exact⟨ρ',_,x,p,R2,q,k⟩
  |next=>obtain rfl:=fr;exact⟨ρ',_,.none,p,R2,rfl,k⟩
  |_=>exact k.elim
 ·obtain⟨h,ρ',os',fa',m',ad2,p,⟨ls',ad',hL',hnd',g1,gr1,F',N''⟩,rfl,hnew,htp,hfa,kr⟩:=z
  obtain⟨h₀',T1,F2,B2,_,_⟩:=E0 gr0.B hfr.2 FG st gr1.t (h:=g1) fun qq qq e=>e
  exact leave_newS gr1.B hnew F' N'' (fun h' R' qq hu=>⟨ρ',⟨σ.loc,os',fa'⟩,m,p,⟨ad2,h₀',g1,ls',rfl,ad',hL',hnd',R',hu,F2,⟨B2,hok.XB.keeps B2.stays,hok.TB.keeps B2.stays,uD gr0.D T1,gr0.t.trans T1⟩,htp.to (az _),hloc.mono p,hfa⟩,hx _ _ _ _ kr⟩) F.kind
noncomputable def Gx.kx (G:Gx) (KE:SS→Prop):Gx:={G with KX:=fun qq qq σ=>KE σ}
theorem ZO{G:Gx}{σ:SS}{K:Fl→SS→Prop}{body:List Stmt}{x:Str}{np hpos pos p1 p2 p3:Pos}{z:Nat}(hK:∀e ρ os,¬G.KX e ρ os)(hg:lk (aa "KeyError") G.cs.names=some .globalImplicit)(hcell:∀y∈G.cs.names,y.2≠.cell)(hfr:G.fr=true)
 (hkey:nsIn G.D.K mainGlobals (aa "KeyError")=some af) (hxl:lk x G.cs.names=some .local) (KE:SS→Prop) (h:bz (G.kx KE) body σ K) (he:∀σ',KE σ'→K .next ⟨(x,.none)::σ'.loc,σ'.objs,σ'.fa⟩):
 bw G (.Try body [.ExceptHandler (some (.Name (aa "KeyError") np)) af [.Assign [.Name x p1] (.Constant .none z p2) p3] hpos] [] [] pos) σ K:=fun c ρ s qq a qq=>by
 obtain⟨hA,henv⟩:=a.hf hfr
 obtain⟨name,scope,ad,cd,hee⟩:=henv (a.cs▸hcell)
 refine wpAny_mono (E:=fun qq qq=>False) ?_ (fun qq qq z=>z) fun qq qq z=>z.elim
 refine wpAny_Try_except (wpAny_mono (h c ρ s () ⟨a.toRepS,a.cs,a.ok,a.tk,a.rx,a.cv,a.hf⟩ trivial) (fun fl s' q=>?_) fun e s' q=>?_)
 ·obtain⟨ρ',σ',y,p,R,fr,k⟩:=q
  cases y with
  |next=>obtain rfl:=fr;exact wpAny_execs_nil ⟨ρ',σ',.next,p,R,rfl,k⟩
  |brk=>obtain rfl:=fr;exact⟨ρ',σ',.brk,p,R,rfl,k⟩
  |cont=>obtain rfl:=fr;exact⟨ρ',σ',.cont,p,R,rfl,k⟩
  |ret y=>obtain⟨v,rfl,fr⟩:=fr;exact⟨ρ',σ',.ret y,p,R,⟨v,rfl,fr⟩,k⟩
 ·obtain⟨ρ',σ',m,p,⟨ad',g,Gh,ls,rfl,adE,hL,hnd,R,hu,F,gr,htp,hloc,hfa⟩,ke⟩:=q
  have hok:=a.ok
  have hkind:c.env.scope.kind=.function:=hok.hk.kind
  have hk1:=zv hok.hk (a.cs▸hg)
  have hk2:=zv hok.hk (a.cs▸hxl)
  have hst:=hok.hk
  obtain⟨cA,cA₀,cb,ch,co,ce,ccs,cL,cX,cR⟩:=c
  dsimp only at hA hee R F gr hkind hk1 hk2 hst hnd⊢
  subst hee
  subst hA
  refine caught_SN0 R F gr.B hu hok.XB hok.TB gr.D gr.t hkey (by kernel_rfl) (by decide) kr_isExc_KeyError kr_notTuple_KeyError excClass_KeyError.self (fun h' g' T' F' N' B' X' TP D'=>?_) hkind hk1 (by decide) (by passes_own)
  refine wpAny_execs_cons (wpAny_Assign_Name (Constant_none ?_) rfl)
  refine iP (c:=⟨cA₀.deeper (envOf name scope cL ad cd),cA₀,cb,ch,co,envOf name scope cL ad cd,ccs,cL,cX,cR⟩) hst F' N' (fun h2 F2 N2=>?_) hk2
  exact wpAny_execs_nil ⟨ρ',⟨(x,.none)::σ'.loc,σ'.objs,σ'.fa⟩,.next,p,⟨⟨_,⟨ls,adE,hL,hnd,g',⟨B',X',TP,D',T'⟩,F2,N2⟩,hloc.set (n:=x) (x:=.none) rfl⟩,htp.to (cV _),hfa⟩,rfl,he _ ke⟩
end
end Ex
end
section
namespace Ex
noncomputable section
noncomputable def tk (p:Str) (k:Nat):Str:=⟨(p.cps.toList.take k).toArray⟩
noncomputable def fV (p:Str):Nat→Option Str:=cD af fun k ih=>@aj (fun qq=>Option Str) ih (some (tk p k)) (bT (tk p k) Tb.bU)
noncomputable def lg (p:Str):Option Str:=fV p (p.length+1)
theorem ZP(p:Str):tk p p.length=p:=gT (by show List.take p.length p.cps.toList=_;rw[St.len_list,Cu])
theorem Bf{p:Str}{k:Nat}(h:bT (tk p k) Tb.bU=true):fV p (k+1)=some (tk p k):=by
 show@aj (fun qq=>Option Str) _ (some (tk p k)) (bT (tk p k) Tb.bU)=_
 rw[h]
theorem oN{p:Str}{k:Nat}(h:bT (tk p k) Tb.bU=false):fV p (k+1)=fV p k:=by
 show@aj (fun qq=>Option Str) (fV p k) _ (bT (tk p k) Tb.bU)=_
 rw[h]
noncomputable def b9 (i:Nat):Stmt:=aV Tb.ow.body i
noncomputable abbrev cS (s:Stmt):Expr:=ku s 0
noncomputable abbrev dc (s:Stmt):List Stmt:=rU s 0
noncomputable abbrev cg (s:Stmt):List Stmt:=rU s 1
noncomputable abbrev gz (s:Stmt):Pos:=s.pos
noncomputable abbrev xe (s:Stmt):Expr:=ku s 0
noncomputable abbrev ZQ (s:Stmt):Pos:=s.pos
noncomputable abbrev Bg (e:Expr):Pos:=(dY e 0).pos
noncomputable def fW (l:List Expr):Expr:=l.headD (.Constant .none 0 ⟨0,0,0,0⟩)
noncomputable def lu:Stmt:=aV (tD [b9 1]) 0
theorem ZR:Tb.ow.body=[b9 0,b9 1,b9 2]:=by kernel_rfl
theorem ZS:b9 0=.If (.Compare (.Name (aa "prefix") (cC (kY (cS (b9 0))))) [.In] [.Name (aa "self") (cC (wQ (cS (b9 0))))] (cC (cS (b9 0)))) (dc (b9 0)) [] (gz (b9 0)):=by kernel_rfl
theorem ZT:b9 1=.For (.Name (aa "i") (HR (b9 1))) (.Call (.Name (aa "range") (Bg (iY (b9 1)))) [fW (fc (iY (b9 1))),fW (fc (iY (b9 1))).tail] [] (cC (iY (b9 1)))) [lu] [] (HS (b9 1)):=by kernel_rfl
theorem ZU:lu=.If (.Compare (kY (cS lu)) [.In] [.Name (aa "self") (cC (wQ (cS lu)))] (cC (cS lu))) (dc lu) [] (gz lu):=by kernel_rfl
theorem ZV:b9 2=.Raise (some (.Call (.Name (aa "KeyError") (Bg (xe (b9 2)))) [.Name (aa "prefix") (cC (fW (fc (xe (b9 2)))))] [] (cC (xe (b9 2))))) af (ZQ (b9 2)):=by kernel_rfl
noncomputable abbrev gA (p:Str):List (Str×SV):=[(aa "self",.val (.ref 236)),(aa "prefix",.ss p)]
noncomputable abbrev qC (p:Str) (i:Int):List (Str×SV):=(aa "i",.si i)::gA p
noncomputable abbrev ig (W:Wd):Gx:=gi (WS W) Tb.ow.scope 3 []
noncomputable def Ii (G:Gx) (es:List Expr) (σ:SS) (K:List SV→SS→Prop):Prop:=(dQ (ex 60 G) es σ fun x σ'=>.pr (K x σ') .tt).t.h
theorem ZW{G:Gx}(g:bE G){es:List Expr}{σ:SS}{K:List SV→SS→Prop}(h:Ii G es σ K):c7 G es σ K:=((dQ (ex 60 G) es σ fun x σ'=>.pr (K x σ') .tt).ok h g).mp fun qq qq z=>z.1
noncomputable def Ij (G:Gx) (e:Expr) (σ:SS) (K:SV→SS→Prop):Prop:=((ex 60 G).E e σ fun x σ'=>.pr (K x σ') .tt).t.h
theorem ZX{G:Gx}(g:bE G){e:Expr}{σ:SS}{K:SV→SS→Prop}(h:Ij G e σ K):aq G e σ K:=(((ex 60 G).E e σ fun x σ'=>.pr (K x σ') .tt).ok h g).mp fun qq qq z=>z.1
section
variable{W:Wd}(p:Str)(o:OL)(fa:List Fact)
theorem ZY(D:Wd)(cs:bW)(K:SV→SS→Prop)(σ:SS):Bb D cs 2 [] 199 [.val (.ref 236),.ss p] σ K=(K (.sb (bT p Tb.bU)) ⟨σ.loc,σ.objs,σ.fa⟩∧True):=by kernel_rfl
theorem ZZ(K:List SV→SS→Prop):Ii (ig W) [fW (fc (iY (b9 1))),fW (fc (iY (b9 1))).tail] ⟨gA p,o,fa⟩ K=(p.length≤sizeLine∧K [.int 1,.si ((p.length:Int)+1)] ⟨gA p,o,fa⟩∧True):=by kernel_rfl
theorem Z0(i:Int)(K:SV→SS→Prop):Ij (ig W) (kY (cS lu)) ⟨qC p i,o,fa⟩ K=(p.length≤sizeLine∧K (.ss (b5 p af (some (-i)))) ⟨qC p i,o,fa⟩∧True):=by kernel_rfl
theorem Z1(i:Int)(K:Fl→SS→Prop):mS (ig W) (dc lu) ⟨qC p i,o,fa⟩ K=(p.length≤sizeLine∧K (.ret (.ss (b5 p af (some (-i))))) ⟨qC p i,o,fa⟩∧True):=by kernel_rfl
theorem Z2(K:Fl→SS→Prop):mS (ig W) (dc (b9 0)) ⟨gA p,o,fa⟩ K=(K (.ret (.ss p)) ⟨gA p,o,fa⟩∧True):=by kernel_rfl
end
section
variable{W:Wd}{p:Str}{o:OL}{fa:List Fact}
theorem xf:bE (ig W):=mQ fun x hx=>by cases hx
theorem Ik{q:Str}{σ:SS}{x:SV}{K:SV→SS→Prop}(hx:bI x q)(k:K (.sb (bT q Tb.bU)) σ):aC (ig W) (compareOp .In) x (.val (.ref 236)) σ K:=
 ZM (C:=230) (dx:=235) (fs:=Tb.oA) (ci:=Tb.Ab) (f:=199) (by kernel_rfl) (by kernel_rfl) (by kernel_rfl) (au.conv (xs':=[.val (.ref 236),.ss q]) (fun ρ vs r=>by
  cases r using Each.ec with
  |cons r1 r=>cases r using Each.ec with
   |cons r2 r=>exact .cons r1 (.cons (hx r2) r)) (w7 (n:=2) (cons:=[]) (by decide) (fun x hx=>Om.nm hx) ((ZY q _ _ _ σ).mpr ⟨mj (fun r=>⟨_,r,rfl⟩) k,trivial⟩)))
theorem Z3{K:Fl→SS→Prop}(h1:bT p Tb.bU=true→K (.ret (.ss p)) ⟨gA p,o,fa⟩)(h2:bT p Tb.bU=false→K .next ⟨gA p,o,fa⟩):bw (ig W) (b9 0) ⟨gA p,o,fa⟩ K:=by
 rw[ZS]
 refine qa (cmp_T (fun qq=>rfl) (c9 (x:=.ss p) (by kernel_rfl) (by kernel_rfl) (by kernel_rfl) (c9 (x:=.val (.ref 236)) (by kernel_rfl) (by kernel_rfl) (by kernel_rfl) (Ik (fun r=>r) (mj (fun r=>⟨_,r,rfl⟩) ⟨fun e=>?_,fun e=>?_⟩)))))
 ·exact mT xf ((Z2 p o fa K).mpr ⟨h1 e,trivial⟩)
 ·exact iO (h2 e)
theorem Il{i:Nat}(hi:i<p.length):b5 p af (some (-((1:Int)+(i:Nat))))=tk p (p.length-(i+1)):=gT (by
 have:=St.Gf p (i+1) (by exact Om.Dh)
 have e:(1:Int)+(i:Nat)=((i+1:Nat):Int):=by exact Om.OJ
 rw[e,this];rfl)
theorem Z4(hz:p.length≤100000){K:Fl→SS→Prop}(h1:∀nm σ',fV p p.length=some nm→σ'.objs=o→σ'.fa=fa→K (.ret (.ss nm)) σ')(h2:∀σ',fV p p.length=af→σ'.objs=o→σ'.fa=fa→lk (aa "prefix") σ'.loc=some (.ss p)→K .next σ'):bw (ig W) (b9 1) ⟨gA p,o,fa⟩ K:=by
 rw[ZT]
 have hsl:p.length≤sizeLine:=by rw[sizeLine_eq];exact Om.Du hz
 let J:Src→Nat→Nat→SS→Prop:=fun S n i σ'=>S=qB 1 p.length∧n+i=p.length∧fV p (p.length-i)=fV p p.length∧∃L,(∀x y,lk x (gA p)=some y→lk x L=some y)∧σ'=⟨L,o,fa⟩
 refine vS (fun qq qq qq h=>h) (fun qq qq=>rfl) J (fun S n i σ' hJ=>?_) p.length (Ih (by kernel_rfl) (by kernel_rfl) (fun t ht=>by
  have:(gu [fW (fc (iY (b9 1))),fW (fc (iY (b9 1))).tail]).isSome=true:=by kernel_rfl
  exact((gu _).get this).1 t ht) (ZW xf ?_))
 ·obtain⟨rfl,hni,hd,L,hL,rfl⟩:=hJ
  refine⟨_,rfl,?_⟩
  by_cases hi:i<p.length
  ·rw[Bd hi]
   refine jL (by kernel_rfl) (aK.pre (σ':=⟨qC p (1+(i:Nat)),o,fa⟩) (.of (fun x y e=>?_) rfl rfl) ?_)
   ·rw[b6] at e⊢
    by_cases q:x=aa "i"
    ·rw[if_pos q] at e⊢;exact e
    ·rw[if_neg q] at e⊢;exact hL x y e
   rw[ZU]
   obtain⟨k,hk⟩:∃k,p.length-i=k+1:=⟨p.length-(i+1),by exact Om.OM hni hi⟩
   have hk':p.length-(i+1)=k:=by exact Om.ON hni hi hk
   refine cP (qa (cmp_T (fun qq=>rfl) (ZX xf ((Z0 p o fa _ _).mpr ⟨hsl,c9 (x:=.val (.ref 236)) (by kernel_rfl) (by kernel_rfl) (by kernel_rfl) (Ik (q:=tk p k) (by rw[Il hi,hk'];exact fun r=>r) (mj (fun r=>⟨_,r,rfl⟩) ⟨fun e=>?_,fun e=>?_⟩)),trivial⟩))))
   ·refine mT xf ((Z1 p o fa _ _).mpr ⟨hsl,?_,trivial⟩)
    rw[Il hi,hk']
    exact⟨_,rfl,h1 _ _ (by rw[←hd,hk,Bf e]) rfl rfl⟩
   ·refine iO (iO ?_)
    refine⟨n-1,by exact Om.Dl hni hi,rfl,by exact Om.vc hni hi,by rw[←hd,hk,oN e,hk'],qC p (1+(i:Nat)),fun x y e=>?_,rfl⟩
    rw[b6]
    by_cases q:x=aa "i"
    ·have:lk x (gA p)=af:=by rw[q];kernel_rfl
     rw[this] at e;cases e
    ·rw[if_neg q];exact e
  ·rw[Be (lM hi)]
   have e0:p.length-i=0:=by exact Om.OO hni hi
   rw[e0] at hd
   exact⟨_,rfl,h2 _ hd.symm rfl rfl (hL _ _ (by kernel_rfl))⟩
 ·refine(ZZ p o fa _).mpr ⟨hsl,⟨1,(p.length:Int)+1,.two _ _ rfl (fun r=>r) (fun r=>r),by exact Om.OQ,by exact Om.OS,by exact Om.OT hz,by exact Om.OU hz,?_⟩,trivial⟩
  rw[show((p.length:Int)+1-1).toNat=p.length by exact Om.OV hz]
  exact⟨rfl,by exact Om.OW,rfl,_,fun qq qq e=>e,rfl⟩
theorem Z5(hkey:nsIn W.K mainGlobals (aa "KeyError")=some af){c:Cx}{ρ:List Addr}{s:Shared}{σ:SS}(a:At (ig W) c ρ σ s)(hl:lk (aa "prefix") σ.loc=some (.ss p)){Q:Flow→Shared→Prop}:
 wpAny W.M c.A (exec (b9 2) c.env) Q (fun e s'=>∃h ρ' os' fa' m' a,ρ<+:ρ'∧Led (WS W) c ρ' (OL.list os') m' h∧e=.ref a∧Heap.NewExc h s'.heap a "KeyError"∧Tp (WS W) s'∧(∀f∈fa',f.ok W.η)∧os'=σ.objs∧fa'=σ.fa) s:=by
 rw[ZV]
 obtain⟨m,⟨ls,ad,l1,l2,g,gr,F,N⟩,hl'⟩:=a.R
 have hn:lk (aa "KeyError") Tb.ow.scope.names=some .globalImplicit:=by kernel_rfl
 have Tr:=gr.tr
 refine Raise_new a.ok.hh (Call_ (ae8 a.ok.hk.kind (a.kind (G:=ig W) hn) (afc (v:=.type "KeyError") (by rw[a.ok.hk.dM];exact Tr.g.keeps F.keep) (mg_none_of gr.X Tr.g hkey) (by rw[a.ok.hk.bi];exact Tr.b.keeps F.keep) ((Tr.builtins _ (by decide)).trans (by kernel_rfl)) ?_) (by decide)))
 refine J4 ?_ rfl rfl
 have hp:c7 (ig W) [.Name (aa "prefix") (cC (fW (fc (xe (b9 2)))))] σ fun ys σ'=>ys=[.ss p]∧σ'=σ:=dP (fun qq qq=>rfl) (c9 (x:=.ss p) (by kernel_rfl) (by kernel_rfl) hl (fP ⟨rfl,rfl⟩))
 refine wpAny_mono (hp c ρ s _ a trivial) (fun vs s' z=>?_) fun e s' ⟨_,_,_,_,_,z⟩=>z.elim
 obtain⟨ρ',σ',xs,p',R,q,rfl,rfl⟩:=z
 obtain⟨⟨m',L',_⟩,htp,hfa⟩:=R
 refine call_exc_raise excClass_KeyError (fun h' e hnew=>⟨s'.heap,ρ',_,_,m',e,p',L',rfl,hnew,htp.to (az _),hfa,rfl,rfl⟩) ?_
 rw[←Each.len q]
 rw[sizeLine_eq];show 1≤_;decide
theorem Z6{m:Nat}{cs:bW}{KX:Value→List Addr→SS→Prop}{con:List (Addr×Nat×bx)}{sc:List (Nat×Stmt×lZ)}{ec:List (Nat×Expr×mh)}{cv:List (Str×Nat)}{fr:Bool}(hn:4≤m)(hkey:nsIn W.K mainGlobals (aa "KeyError")=some af)(hz:p.length≤100000){σ:SS}{K:SV→SS→Prop}(h1:∀nm,lg p=some nm→K (.ss nm) ⟨σ.loc,σ.objs,σ.fa⟩)(h2:lg p=af→∀e ρ',KX e ρ' ⟨σ.loc,σ.objs,σ.fa⟩):
 au (⟨WS W,Tb.T,m,cs,KX,con,sc,ec,cv,fr⟩:Gx) (.ref 227) [.val (.ref 236),.ss p] σ K:=by
 obtain⟨k,rfl⟩:∃k,m=k+1:=⟨m-1,by exact Om.OX hn⟩
 have hn':3≤k:=by exact Om.OY hn
 have key:lg p=@aj (fun qq=>Option Str) (fV p p.length) (some p) (bT p Tb.bU):=by
  show@aj (fun qq=>Option Str) (fV p p.length) (some (tk p p.length)) (bT (tk p p.length) Tb.bU)=_
  rw[ZP]
 refine ZN (i:=Tb.ow) (n:=k) (by kernel_rfl) rfl (by kernel_rfl) (by kernel_rfl) (fun os' fa'=>os'=σ.objs∧fa'=σ.fa∧lg p=af) (fun c ρ s a=>?_) (fun os' fa' e ρ' ⟨h3,h4,h5⟩=>by subst h3 h4;exact h2 h5 e ρ')
 rw[ZR]
 have eb:iQ Tb.ow [.val (.ref 236),.ss p]=gA p:=by kernel_rfl
 rw[eb] at a
 have a':At (ig W) c ρ ⟨gA p,σ.objs,σ.fa⟩ s:=⟨a.toRepS,a.cs,a.ok.less hn',a.tk,a.rx,fun x hx=>Om.nm hx,fun qq=>a.hf rfl⟩
 have no:∀{c' ρ e s},PX (ig W) c' ρ e s→False:=fun⟨_,_,_,_,_,z⟩=>z
 let P0:Fl→SS→Prop:=fun fl σ'=>match fl with
  |.ret v=>v=.ss p∧lg p=some p∧σ'.objs=σ.objs∧σ'.fa=σ.fa
  |.next=>bT p Tb.bU=false∧σ'=⟨gA p,σ.objs,σ.fa⟩
  |_=>False
 let P1:Fl→SS→Prop:=fun fl σ'=>σ'.objs=σ.objs∧σ'.fa=σ.fa∧match fl with
  |.ret v=>∃nm,v=.ss nm∧fV p p.length=some nm
  |.next=>fV p p.length=af∧lk (aa "prefix") σ'.loc=some (.ss p)
  |_=>False
 refine wpAny_execs_cons (wpAny_mono (Z3 (W:=W) (p:=p) (o:=σ.objs) (fa:=σ.fa) (K:=P0) (fun e=>⟨rfl,by rw[key,e],rfl,rfl⟩) (fun e=>⟨e,rfl⟩) c ρ s () a' trivial) (fun f s1 z=>?_) fun e s1 z=>(no z).elim)
 obtain⟨ρ1,σ1,x,p1,R1,q,k1⟩:=z
 cases x with
 |brk=>exact k1.elim
 |cont=>exact k1.elim
 |ret v=>
  obtain⟨u,rfl,q⟩:=q
  obtain⟨rfl,e1,e3,e4⟩:=k1
  refine⟨ρ1,σ1,.ret (.ss p),p1,R1,⟨u,rfl,q⟩,?_⟩
  show K (.ss p) ⟨σ.loc,σ1.objs,σ1.fa⟩
  rw[e3,e4]
  exact h1 p e1
 |next=>
  obtain rfl:=q
  obtain⟨e1,rfl⟩:=k1
  have el:lg p=fV p p.length:=by rw[key,e1]
  refine wpAny_execs_cons (wpAny_mono (Z4 (W:=W) (p:=p) (o:=σ.objs) (fa:=σ.fa) hz (K:=P1) (fun nm σ' h3 h4 h5=>⟨h4,h5,nm,rfl,h3⟩) (fun σ' h3 h4 h5 h6=>⟨h4,h5,h3,h6⟩) c ρ1 s1 () (a'.to p1 R1) trivial) (fun f s2 z=>?_) fun e s2 z=>(no z).elim)
  obtain⟨ρ2,σ2,x,p2,R2,q,k2⟩:=z
  cases x with
  |brk=>exact k2.2.2.elim
  |cont=>exact k2.2.2.elim
  |ret v=>
   obtain⟨u,rfl,q⟩:=q
   obtain⟨e3,e4,nm,rfl,e2⟩:=k2
   refine⟨ρ2,σ2,.ret (.ss nm),p1.trans p2,R2,⟨u,rfl,q⟩,?_⟩
   show K (.ss nm) ⟨σ.loc,σ2.objs,σ2.fa⟩
   rw[e3,e4]
   exact h1 nm (by rw[el,e2])
  |next=>
   obtain rfl:=q
   obtain⟨e3,e4,e2,e5⟩:=k2
   refine wpAny_execs_cons (wpAny_mono (Z5 (W:=W) (p:=p) hkey ((a'.to p1 R1).to p2 R2) e5 (Q:=fun qq qq=>False)) (fun qq qq z=>z.elim) fun e s' z=>?_)
   obtain⟨h,ρ',os',fa',m',ad,p3,L3,e6,e7,e8,e9,rfl,rfl⟩:=z
   exact⟨h,ρ',σ2.objs,σ2.fa,m',ad,p1.trans (p2.trans p3),L3,e6,e7,e8,e9,e3,e4,by rw[el,e2]⟩
end
end
end Ex
end
section
namespace Ex
noncomputable section
noncomputable def bY (i:Nat):Stmt:=aV Tb.jR.body i
noncomputable def ly:List Stmt:=cg (aV (cg (bY 2)) 0)
noncomputable def fX:Stmt:=aV ly 2
noncomputable def di:Stmt:=aV (dc fX) 1
theorem Z7:Tb.jR.body=[bY 0,bY 1,.If (cS (bY 2)) (dc (bY 2)) [.If (cS (aV (cg (bY 2)) 0)) (dc (aV (cg (bY 2)) 0)) [aV ly 0,aV ly 1,.If (cS fX) [aV (dc fX) 0,.If (cS di) (dc di) [aV (cg di) 0,aV (cg di) 1,aV (cg di) 2] (gz di)] (cg fX) (gz fX)] (gz (aV (cg (bY 2)) 0))] (gz (bY 2)),bY 3]:=by kernel_rfl
noncomputable abbrev Z8 (s:Stmt):List Stmt:=rU s 0
set_option backward.match.sparseCases false in
noncomputable def Bh:Stmt→ExceptHandler
 |.Try _ (h::_) _ _ _=>h
 |_=>.ExceptHandler none none [] ⟨0,0,0,0⟩
noncomputable abbrev Z9 (s:Stmt):Pos:=s.pos
noncomputable def aaa:ExceptHandler→Expr
 |.ExceptHandler (some t) _ _ _=>t
 |_=>.Constant .none 0 ⟨0,0,0,0⟩
noncomputable def qD:ExceptHandler→List Stmt
 |.ExceptHandler _ _ b _=>b
noncomputable def hdP:ExceptHandler→Pos
 |.ExceptHandler _ _ _ p=>p
noncomputable def oO:Stmt:=aV ly 1
noncomputable def ct (i:Nat):Stmt:=aV (Z8 oO) i
noncomputable def Bj:Stmt:=aV (qD (Bh oO)) 0
noncomputable abbrev Im (e:Expr):Pos:=(dY e 0).pos
noncomputable abbrev Io (e:Expr):Pos:=(dY (dY e 0) 0).pos
theorem aac:oO=.Try [ct 0,ct 1] [.ExceptHandler (some (.Name (aa "KeyError") (cC (aaa (Bh oO))))) none [.Assign [.Name (aa "entityName") (fT Bj)] (.Constant .none 0 (bQ Bj).pos) (fU Bj)] (hdP (Bh oO))] [] [] (Z9 oO):=by kernel_rfl
theorem aad:ct 0=.Assign [.Name (aa "entityName") (fT (ct 0))] (.Call (.Attribute (.Name (aa "entitiesTrie") (Io (bQ (ct 0)))) (aa "longest_prefix") (Im (bQ (ct 0)))) [fW (fc (bQ (ct 0)))] [] (cC (bQ (ct 0)))) (fU (ct 0)):=by kernel_rfl
theorem aae:ct 1=.Assign [.Name (aa "entityLength") (fT (ct 1))] (.Call (.Name (aa "len") (Bg (bQ (ct 1)))) [.Name (aa "entityName") (cC (fW (fc (bQ (ct 1)))))] [] (cC (bQ (ct 1)))) (fU (ct 1)):=by kernel_rfl
noncomputable abbrev iu (W:Wd):Gx:=gi (WS W) Tb.jR.scope 5 [(133,4,tH),(163,1,Ak),(220,3,xd)]
noncomputable def tU:Tm→Tm:=Tm.rec .e fun qq qq a qq qq qq=>a
noncomputable def oQ (K:Option (Tm×Nat)→List Fact→Tr):Nat→Tm→List Fact→Tr:=cD (fun qq fa=>K af fa) fun n ih t fa=>match n with
 |0=>K af fa
 |n+1=>@aj (fun qq=>Tr) (ih (tU t) fa) (g8 23 [] t .e (K (some (t,n+2))) (ih (tU t)) fa) (av (n+2) 9)
noncomputable def tV (t:Tm) (fa:List Fact):Option Nat:=@aj (fun qq=>Option Nat) (@cD (fun qq=>Option Nat) af (fun n qq=>some (n+1)) (ic fa t)) (some 0) (cz t (lit []))
noncomputable def qE (K:Fl→SS→Tr) (σ₁:SS) (o:Option (Tm×Nat)) (fa:List Fact):Tr:=match o with
 |some (t,n)=>K .next ⟨(aa "entityLength",.int n)::(aa "entityName",.tm t)::σ₁.loc,σ₁.objs,fa⟩
 |Option.none=>K .next ⟨(aa "entityName",.none)::σ₁.loc,σ₁.objs,fa⟩
noncomputable def Bl (G:Gx) (σ:SS) (K:Fl→SS→Tr):Tr:=(dQ (ex 60 G) [fW (fc (bQ (ct 0)))] σ fun ys σ₁=>match ys with
 |[.tm t]=>match tV t σ₁.fa with
  |some n=>@aj (fun qq=>Tr) .ff (oQ (qE K σ₁) n t σ₁.fa) (av n 100)
  |Option.none=>.ff
 |_=>.ff).t
noncomputable def Bm (σ:SS) (K:Fl→SS→Tr):Tr:=match lk (aa "entityName") σ.loc with
 |some (.tm t)=>match asks 23 [] t .e σ.fa with
  |some true=>K .next ⟨(aa "output",.tm (.n 22 [] t .e))::σ.loc,σ.objs,σ.fa⟩
  |_=>.ff
 |_=>.ff
noncomputable abbrev SC:=SS→(Fl→SS→Tr)→Tr
noncomputable def oR (G:Gx) (st:Stmt):SC:=fun σ K=>((ex 60 G).S st σ K).t
noncomputable def mU (ss:List SC):SC:=bu (fun σ K=>K .next σ) (fun s qq ih σ K=>s σ fun f σ'=>nextT f (ih σ' K) (K f σ')) ss
noncomputable def tW (G:Gx) (t:Expr) (a b:SC):SC:=fun σ K=>((ex 60 G).T t σ fun x σ₁=>z9 x σ₁ (a · K) (b · K)).t
noncomputable def tX (G:Gx) (b:List Stmt):SC:=fun σ K=>(cY (ex 60 G) b σ K).t
noncomputable def Bo (W:Wd):SC:=
 let G:=iu W
 mU [oR G (bY 0),oR G (bY 1),tW G (cS (bY 2)) (tX G (dc (bY 2))) (mU [tW G (cS (aV (cg (bY 2)) 0)) (tX G (dc (aV (cg (bY 2)) 0))) (mU [oR G (aV ly 0),Bl G,tW G (cS fX) (mU [oR G (aV (dc fX) 0),tW G (cS di) (tX G (dc di)) (mU [Bm,oR G (aV (cg di) 1),oR G (aV (cg di) 2)])]) (tX G (cg fX))])])]
noncomputable def rE:Tm:=lT (tv 8)
noncomputable def qF:SO:=.inst 762 [(aa "stream",.obj 1),(aa "parser",.none),(aa "escapeFlag",.bool false),(aa "lastFourChars",.obj 4),(aa "state",.obj 5),(aa "escape",.bool false),(aa "currentToken",.obj 2),(aa "tokenQueue",.obj 3)]
noncomputable def gf (r:Tm) (o2:SO) (q:List SV) (o6 o7:SO) (X:List SO):List SO:=qF::.blob (.strm ⟨none,r,none⟩)::o2::.list none q::.gone::.gone::o6::o7::X
noncomputable def xg (c:Nat):List (Str×SV):=[(aa "self",.obj 0),(aa "allowedChar",.str ⟨#[c]⟩),(aa "fromAttribute",.bool true)]
noncomputable def lz:List Fact:=[⟨1,[35],dZ rE,.e,false⟩]
end
end Ex
end
section
namespace Ex
noncomputable section
noncomputable abbrev oS (G:Gx) (st:Stmt) (s:SC):Prop:=∀σ (K:Fl→SS→Tr),(s σ K).h→bw G st σ (hh K)
noncomputable abbrev tY (G:Gx) (b:List Stmt) (s:SC):Prop:=∀σ (K:Fl→SS→Tr),(s σ K).h→bz G b σ (hh K)
section
variable{G:Gx}(g:bE G)
include g
theorem i6(st:Stmt):oS G st (oR G st):=fun σ K h=>((ex 60 G).S st σ K).ok h g
theorem mW(b:List Stmt):tY G b (tX G b):=fun σ K h=>(cY (ex 60 G) b σ K).ok h g
theorem mX{t:Expr}{b e:List Stmt}{pos:Pos}{s s':SC}(h1:tY G b s)(h2:tY G e s'):oS G (.If t b e pos) (tW G t s s'):=fun σ K h=>
 qa ((((ex 60 G).T t σ _).ok h g).mp fun x σ₁ z=>(GZ z).mp (fun σ h=>h1 σ K h) fun σ h=>h2 σ K h)
omit g in
theorem lC{sts:List Stmt}{ss:List SC}(h:Each (oS G) sts ss):tY G sts (mU ss):=by
 induction h with
 |nil=>exact fun σ K h=>iO h
 |cons a _ ih=>exact fun σ K h=>cP ((a σ _ h).mp fun f σ' z=>by
   cases f with
   |next=>exact ih σ' K z
   |_=>exact z)
end
theorem aD.fa{D:Wd}{σ:SS}{fa:List Fact}(ok:aI D.η fa):aD D σ ⟨σ.loc,σ.objs,fa⟩:=fun c ρ s R=>⟨let⟨m,l,r⟩:=R.R;⟨m,l,r⟩,R.tp,ok⟩
theorem aD.to{D:Wd}{L L':List (Str×SV)}{o:OL}{fa fa':List Fact}(ok:aI D.η fa')(h:∀x y,lk x L'=some y→∃z,lk x L=some z∧∀ρ v,VR D ρ z v→VR D ρ y v):aD D ⟨L,o,fa⟩ ⟨L',o,fa'⟩:=fun c ρ s R=>⟨let⟨m,l,r⟩:=R.R;⟨m,l,fun x y e=>by
 obtain⟨z,h1,h2⟩:=h x y e
 obtain⟨v,a,b⟩:=r x z h1
 exact⟨v,a,h2 _ _ b⟩⟩,R.tp,ok⟩
noncomputable def xh (η:Ev) (l:List Nat):Nat→Tm→Prop:=cD (fun qq=>True) fun n ih t=>t.ev η=l.take (n+1)∧n+1≤l.length∧ih (tU t)
theorem aaf{η:Ev}{t:Tm}{l s:List Nat}(h:(t.ev η).length=1)(hl:l=t.ev η++s):xh η l 1 t:=by
 refine⟨?_,?_,trivial⟩
 ·show t.ev η=l.take 1
  rw[hl,←h,rI]
 ·rw[hl,bG,h];exact bC _ _
theorem aag{η:Ev}{fa:List Fact}(ok:aI η fa):∀(t:Tm) (n:Nat) (l s:List Nat),ic fa t=n+1→l=t.ev η++s→xh η l (n+1) t:=fun t=>by
 induction t with
 |e=>intro n l s h;cases h
 |n k l0 a b iha _=>
  intro n l s h hl
  have hlen:=Bc ok _ n h
  cases Ic h with
  |one h1 e=>cases e;exact aaf (h1 η ok) hl
  |more l' a' b' m et ha hb e=>
   cases et
   cases e
   have hl':l=a.ev η++(b.ev η++s):=by rw[hl];exact bD _ _ _
   refine⟨?_,?_,iha m l _ ha hl'⟩
   ·show Tm.ev η (.n 5 l0 a b)=_
    rw[hl,←hlen,rI]
   ·rw[hl,bG,hlen];exact bC _ _
theorem aah{η:Ev}{fa:List Fact}(ok:aI η fa){t:Tm}{n:Nat}(h:tV t fa=some n):(t.ev η).length=n∧xh η (t.ev η) n t:=by
 unfold tV at h
 cases q:cz t (lit []) with
 |true=>rw[q] at h;cases h;rw[dO q];exact⟨rfl,trivial⟩
 |false=>
  rw[q] at h
  have h2:@cD (fun qq=>Option Nat) af (fun n qq=>some (n+1)) (ic fa t)=some n:=h
  cases q2:ic fa t with
  |zero=>rw[q2] at h2;cases h2
  |succ m=>
   rw[q2] at h2
   cases h2
   exact⟨Bc ok t m q2,aag ok t m _ [] q2 (dW _).symm⟩
theorem qG(l:List Nat)(k:Nat):tk (ai l) k=ai (l.take k):=rfl
theorem Bp{l:List Nat}(h:l.length<2):bT (ai l) Tb.bU=false:=by
 cases e:bT (ai l) Tb.bU with
 |false=>rfl
 |true=>have:=(w9 e).1;rw[eY] at this;exact Om.OZ h this
theorem aai{l:List Nat}(h:9<l.length):bT (ai l) Tb.bU=false:=by
 cases e:bT (ai l) Tb.bU with
 |false=>rfl
 |true=>have:=(w9 e).2;rw[eY] at this;exact Om.O0 h this
inductive Bq (η:Ev) (K:Option (Tm×Nat)→List Fact→Tr) (o:Option Str):Prop
 |none (e:o=af) (fa:List Fact) (ok:aI η fa) (h:(K af fa).h)
 |some (t:Tm) (n:Nat) (e:o=Option.some (ai (t.ev η))) (hn:(t.ev η).length=n) (fa:List Fact) (ok:aI η fa) (h:(K (Option.some (t,n)) fa).h)
theorem aaj{η:Ev}(he:i0 η){l:List Nat}{K:Option (Tm×Nat)→List Fact→Tr}:∀(n:Nat) (t:Tm) (fa:List Fact),(oQ K n t fa).h→aI η fa→xh η l n t→Bq η K (fV (ai l) (n+1)):=fun n=>by
 induction n with
 |zero=>
  intro t fa h ok _
  refine .none ?_ fa ok h
  rw[oN (by rw[qG];exact Bp (cK (yo _ _) (by decide)))]
  rfl
 |succ n ih=>
  intro t fa h ok hp
  cases n with
  |zero=>
   refine .none ?_ fa ok h
   rw[oN (by rw[qG];exact Bp (cK (yo _ _) (by decide))),oN (by rw[qG];exact Bp (cK (yo _ _) (by decide)))]
   rfl
  |succ n=>
   obtain⟨e1,e2,e3⟩:=hp
   have hlen:(l.take (n+2)).length=n+2:=by rw[lN];exact gD e2
   have h':(@aj (fun qq=>Tr) (oQ K (n+1) (tU t) fa) (g8 23 [] t .e (K (some (t,n+2))) (oQ K (n+1) (tU t)) fa) (av (n+2) 9)).h:=h
   cases q:av (n+2) 9 with
   |false=>
    rw[q] at h'
    rw[oN (by rw[qG];exact aai (by rw[hlen];exact Ct fun hh=>by rw[yh hh] at q;cases q))]
    exact ih _ _ h' ok e3
   |true=>
    rw[q] at h'
    have hk:aZ η 23 [] (t.ev η) (Tm.ev η .e)=bT (tk (ai l) (n+2)) Tb.bU:=by rw[qG,←e1];exact he.e _
    cases qy h' ok with
    |t fa' ok' e h2=>
     rw[hk] at e
     rw[Bf e]
     exact .some t (n+2) (by rw[qG,←e1]) (by rw[e1,hlen]) fa' ok' h2
    |f fa' ok' e h2=>
     rw[hk] at e
     rw[oN e]
     exact ih _ _ h2 ok' e3
theorem aK.kx{α β ω:Type}{G:Gx}{KE:SS→Prop}(hK:∀e ρ os,¬G.KX e ρ os){V:List Addr→α→β→Prop}{R:List Addr→ω→Prop}{t:Cx→ω→Sem β}{σ:SS}{K:α→SS→Prop}(h:aK G V R t σ K):aK (G.kx KE) V R t σ K:=fun c ρ s w a r=>
 wpAny_mono (h c ρ s w ⟨a.toRepS,a.cs,a.ok,a.tk,a.rx,a.cv,a.hf⟩ r) (fun qq qq z=>z) fun _ _ ⟨_,_,_,_,_,z⟩=>(hK _ _ _ z).elim
theorem aak:∀y∈Tb.jR.scope.names,y.2≠.cell:=by decide+kernel
theorem xj{W:Wd}(he:i0 W.η):bE (iu W):=mQ fun x hx=>by
 rcases bV.mp hx with rfl|hx
 ·exact Ht W
 ·rcases bV.mp hx with rfl|hx
  ·exact Hp W
  ·obtain rfl:=dU.mp hx
   exact ZJ W he
noncomputable def xm (K:Fl→SS→Tr) (ys:List SV) (σ₁:SS):Tr:=match ys with
 |[.tm t]=>match tV t σ₁.fa with
  |some n=>@aj (fun qq=>Tr) .ff (oQ (qE K σ₁) n t σ₁.fa) (av n 100)
  |Option.none=>.ff
 |_=>.ff
theorem aal(G:Gx)(σ:SS)(K:Fl→SS→Tr):Bl G σ K=(dQ (ex 60 G) [fW (fc (bQ (ct 0)))] σ (xm K)).t:=rfl
theorem aam{p nm:Str}:∀{n:Nat},fV p n=some nm→bT nm Tb.bU=true:=@fun n=>by
 induction n with
 |zero=>exact fun h=>by cases h
 |succ n ih=>
  intro h
  cases e:bT (tk p n) Tb.bU with
  |true=>rw[Bf e] at h;cases h;exact e
  |false=>rw[oN e] at h;exact ih h
theorem aan{p nm:Str}(h:lg p=some nm):bT nm Tb.bU=true:=aam h
set_option tactic.hygienic true in
theorem Ip{W:Wd}(he:i0 W.η)(hkey:nsIn W.K mainGlobals (aa "KeyError")=some af):oS (iu W) oO (Bl (iu W)):=fun σ K h=>by
 rw[aal] at h
 have L:c7 (iu W) [fW (fc (bQ (ct 0)))] σ (hh (xm K)):=(dQ (ex 60 (iu W)) [fW (fc (bQ (ct 0)))] σ (xm K)).ok h (xj he)
 rw[aac]
 let K2:Fl→SS→Prop:=fun fl σ'=>∃σ'',aD (WS W) σ' σ''∧hh K fl σ''
 let KE:SS→Prop:=fun σ'=>∃fa',aI W.η fa'∧hh K .next ⟨(aa "entityName",.none)::σ'.loc,σ'.objs,fa'⟩
 refine aK.ent (K:=K2) (ZO (fun qq qq qq h=>h) (by kernel_rfl) aak rfl hkey (by kernel_rfl) KE ?_ fun σ' ⟨fa',ok,z⟩=>⟨_,aD.fa ok,z⟩) fun qq qq z=>z
 rw[aad,aae]
 have hp:c5 [fW (fc (bQ (ct 0)))]:=by
  have:(gu [fW (fc (bQ (ct 0)))]).isSome=true:=by kernel_rfl
  exact((gu _).get this).1
 refine cP (gR (bL (by kernel_rfl)) (by kernel_rfl) (sG (fun qq qq qq=>rfl) (by kernel_rfl) hp (by kernel_rfl) (kH (v:=.ref 236) (by kernel_rfl) (by kernel_rfl) (E4 (C:=230) (dx:=235) (fs:=Tb.oA) (ci:=Tb.Ab) (f:=227) (by kernel_rfl) (by kernel_rfl) (by kernel_rfl) (by kernel_rfl) hp ((aK.kx (fun qq qq qq h=>h) L).mp fun ys σ₁ z=>?_)))))
 unfold hh xm at z
 split at z
 ·rename_i t
  cases q:tV t σ₁.fa with
  |none=>rw[q] at z;exact z.elim
  |some n=>
   rw[q] at z
   have z0:(@aj (fun qq=>Tr) .ff (oQ (qE K σ₁) n t σ₁.fa) (av n 100)).h:=z
   cases qn:av n 100 with
   |false=>rw[qn] at z0;exact z0.elim
   |true=>
   rw[qn] at z0
   have z':(oQ (qE K σ₁) n t σ₁.fa).h:=z0
   have hn:=ao qn
   refine au.fa fun ok=>?_
   obtain⟨hlen,hpf⟩:=aah (η:=W.η) ok q
   have hs:(ai (t.ev W.η)).length=n:=by rw[eY];exact hlen
   have R:=aaj he n t σ₁.fa z' ok hpf
   rw[←hs] at R
   refine au.conv (xs':=[.val (.ref 236),.ss (ai (t.ev W.η))]) (fun ρ vs r=>by cases r with|cons a b=>cases b with|cons c d=>exact .cons a (.cons c d)) (Z6 (show 4≤5 by decide) hkey ?_ (fun nm hnm=>?_) fun hno e ρ'=>?_)
   ·rw[hs];exact Om.O1 hn hlen hs
   ·have R':Bq W.η (qE K σ₁) (lg (ai (t.ev W.η))):=R
    rw[hnm] at R'
    cases R' with
    |none e=>cases e
    |some t' n' e hn fa' ok' h2=>
     cases e
     refine cP (gR (bL (by kernel_rfl)) (by kernel_rfl) (zH (id:="len") (by kernel_rfl) (by kernel_rfl) ((gu _).get (by kernel_rfl)).1 (dP (fun qq qq=>rfl) (c9 (x:=.ss (ai (t'.ev W.η))) (by kernel_rfl) (by kernel_rfl) (by kernel_rfl) (fP (Gl (fun r=>r) ?_ (iO ?_)))))))
     ·have:=w9 (aan hnm)
      rw[sizeLine_eq];exact Om.O2 this
     ·refine⟨_,aD.to (L':=(aa "entityLength",.int n')::(aa "entityName",.tm t')::σ₁.loc) ok' (fun x y e=>?_),h2⟩
      rw[b6] at e⊢
      by_cases c1:x=aa "entityLength"
      ·rw[if_pos c1] at e⊢
       cases e
       exact⟨_,rfl,fun ρ v r=>by rw[eY,hn] at r;exact r⟩
      ·rw[if_neg c1] at e⊢
       rw[b6] at e⊢
       by_cases c2:x=aa "entityName"
       ·rw[if_pos c2] at e⊢
        cases e
        exact⟨_,rfl,fun ρ v r=>r⟩
       ·rw[if_neg c2] at e⊢
        exact⟨y,e,fun ρ v r=>r⟩
   ·have R':Bq W.η (qE K σ₁) (lg (ai (t.ev W.η))):=R
    rw[hno] at R'
    cases R' with
    |none e fa' ok' h2=>exact⟨fa',ok',h2⟩
    |some t' n' e=>cases e
 ·exact z.elim
end
end Ex
end
section
namespace Lw
open Ex
noncomputable section
noncomputable def Iq (o:SO):Option {fs:List (Str×SV)//o=.dict fs}:=match o with
 |.dict fs=>some ⟨fs,rfl⟩
 |_=>af
end
end Lw
end
section
namespace Ex
noncomputable section
noncomputable def Jm (js:List Nat) (ρ ρ':List Addr):Prop:=∀a b q,at? js a=some b→ρ[b]? =some q→ρ'[a]? =some q
noncomputable def MV (W0:Wd) (fa:List Fact) (js:List Nat) (x' x:SV):Prop:=∀{ρ ρ':List Addr} {v:Value},aI W0.η fa→Jm js ρ ρ'→VR (WS W0) ρ x v→VR (WS W0) ρ' x' v
noncomputable abbrev OP (P:Prop):=Option (PLift P)
noncomputable def aao (o:Option Nat) (b:Nat):OP (o=some b):=@aU Nat (fun o=>OP (o=some b)) af (fun a=>(aO (aB a b)).map fun h=>⟨by rw[bh h.1]⟩) o
noncomputable def Ir (fa:List Fact) (a b:Tm):OP (∀η,aI η fa→a.ev η=b.ev η):=fz ((aO (cz a b)).map fun h=>⟨fun η qq=>by rw[dO h.1]⟩)
 (fz (ak (aO (@aU Bool (fun qq=>Bool) false id (asks 2 [] a b fa))) fun h=>some ⟨fun η ok=>by
   have h':=h.1
   cases e:asks 2 [] a b fa with
   |none=>rw[e] at h';cases h'
   |some v=>
    rw[e] at h'
    obtain rfl:v=true:=h'
    exact of_decide_eq_true (jI e ok)⟩)
   (ak (aO (@aU Bool (fun qq=>Bool) false id (asks 2 [] b a fa))) fun h=>some ⟨fun η ok=>by
     have h':=h.1
     cases e:asks 2 [] b a fa with
     |none=>rw[e] at h';cases h'
     |some v=>
      rw[e] at h'
      obtain rfl:v=true:=h'
      exact(of_decide_eq_true (jI e ok)).symm⟩))
noncomputable def aap (x:SV):Option {i:Int//x=.int i}:=match x with
 |.int i=>some ⟨i,rfl⟩
 |_=>af
noncomputable def imE (x:SV):Option {z:Nat×Tm//x=.im z.1 z.2}:=match x with
 |.im k t=>some ⟨(k,t),rfl⟩
 |_=>af
noncomputable def bmE (x:SV):Option {z:(Nat×List Nat)×Tm×Tm//x=.bm z.1.1 z.1.2 z.2.1 z.2.2}:=match x with
 |.bm k l a b=>some ⟨((k,l),a,b),rfl⟩
 |_=>af
noncomputable def aas (x:SV):Option {b:Bool//x=.bool b}:=match x with
 |.bool b=>some ⟨b,rfl⟩
 |_=>af
noncomputable def mV (W0:Wd) (fa:List Fact) (js:List Nat) (x' x:SV):OP (MV W0 fa js x' x):=match x' with
 |.none=>(sZ x).map fun h=>⟨fun qq qq r=>by rw[h.1] at r;exact r⟩
 |.bool b=>ak (aas x) fun c=>match b,c with
  |true,⟨true,h⟩=>some ⟨fun qq qq r=>by rw[h] at r;exact r⟩
  |false,⟨false,h⟩=>some ⟨fun qq qq r=>by rw[h] at r;exact r⟩
  |_,_=>af
 |.int i=>ak (aap x) fun j=>(aO (decide (i=j.1))).map fun h=>⟨fun qq qq r=>by rw[j.2,←of_decide_eq_true h.1] at r;exact r⟩
 |.obj a=>ak (dB x) fun b=>(aao (at? js a) b.1).map fun h=>⟨fun qq J r=>by
   rw[b.2] at r
   obtain⟨q,h1,e⟩:=r
   exact⟨q,J _ _ _ h.1 h1,e⟩⟩
 |.tm t=>ak (cZ x) fun t'=>(Ir fa t t'.1).map fun h=>⟨fun{_ _ _} ok _ r=>by
   obtain⟨u,e⟩:=t'.2 r
   exact⟨u,by rw[h.1 W0.η ok];exact e⟩⟩
 |.im k t=>ak (imE x) fun z=>ak (aO (aB k z.1.1)) fun h1=>(aO (cz t z.1.2)).map fun h2=>⟨fun qq qq r=>by rw[z.2,←bh h1.1,←dO h2.1] at r;exact r⟩
 |.bm k l a b=>ak (bmE x) fun z=>ak (aO (aB k z.1.1.1)) fun h1=>ak (aO (f6 l z.1.1.2)) fun h2=>ak (aO (cz a z.1.2.1)) fun h3=>(aO (cz b z.1.2.2)).map fun h4=>⟨fun qq qq r=>by rw[z.2,←bh h1.1,←Ci.mp h2.1,←dO h3.1,←dO h4.1] at r;exact r⟩
 |_=>af
noncomputable def allM {α β:Type} (R:α→β→Prop) (f:∀a b,OP (R a b)):∀(xs:List α) (ys:List β),OP (Each R xs ys):=@bu α (fun xs=>∀ys:List β,OP (Each R xs ys)) (fun ys=>match ys with
 |[]=>some ⟨.nil⟩
 |_::_=>af)
 fun x xs ih ys=>match ys with
  |[]=>af
  |y::ys=>ak (f x y) fun h=>(ih ys).map fun q=>⟨.cons h.1 q.1⟩
theorem Each.comp{α β γ:Type}{R:α→β→Prop}{Q:β→γ→Prop}{P:α→γ→Prop}(k:∀a b c,R a b→Q b c→P a c){xs:List α}{ys:List β}{zs:List γ}(h:Each R xs ys)(q:Each Q ys zs):Each P xs zs:=by
 induction h generalizing zs with
 |nil=>cases q;exact .nil
 |cons a _ ih=>cases q using Each.ec with|cons b t=>exact .cons (k _ _ _ a b) (ih t)
structure MF (W0:Wd) (fa:List Fact) (js:List Nat) (p' p:Str×SV):Prop where
 n:p'.1=p.1
 v:MV W0 fa js p'.2 p.2
noncomputable def mF (W0:Wd) (fa:List Fact) (js:List Nat) (p' p:Str×SV):OP (MF W0 fa js p' p):=ak (aO (seq p'.1 p.1)) fun h=>(mV W0 fa js p'.2 p.2).map fun q=>⟨⟨bS.mp h.1,q.1⟩⟩
noncomputable def MO (W0:Wd) (fa:List Fact) (js:List Nat) (o' o:SO):Prop:=∀{X:List (Addr×Obj)} {ρ ρ':List Addr} {a:Addr} {l:List (Addr×Obj)},aI W0.η fa→Jm js ρ ρ'→OR (WS W0) X ρ a o l→∃l',OR (WS W0) X ρ' a o' l'∧l'.Sublist l
section
variable{W0:Wd}{fa:List Fact}{js:List Nat}
theorem MO.gone{o:SO}:MO W0 fa js .gone o:=fun qq qq qq=>⟨[],rfl,List.nil_sublist _⟩
theorem MO.inst{C:Addr}{fs' fs:List (Str×SV)}(h:Each (MF W0 fa js) fs' fs):MO W0 fa js (.inst C fs') (.inst C fs):=fun{X ρ ρ' a l} ok J r=>by
 obtain⟨dx,es,n,e,f⟩:=r
 exact⟨l,⟨dx,es,n,e,Each.comp (fun p' p q m r=>⟨by rw[m.n];exact r.key,by rw[m.n];exact r.hash,m.v ok J r.val⟩) h f⟩,jy _⟩
theorem MO.dict{fs' fs:List (Str×SV)}(h:Each (MF W0 fa js) fs' fs):MO W0 fa js (.dict fs') (.dict fs):=fun{X ρ ρ' a l} ok J r=>by
 obtain⟨o,kvs,e,q,f⟩:=r
 exact⟨l,⟨o,kvs,e,q,Each.comp (fun p' p q m r=>⟨by rw[m.n];exact r.k,m.v ok J r.v⟩) h f⟩,jy _⟩
theorem MO.list{xs' xs:List SV}(h:Each (MV W0 fa js) xs' xs):MO W0 fa js (.list none xs') (.list none xs):=fun{X ρ ρ' a l} ok J r=>by
 obtain⟨us,vs,n,e,q,f⟩:=r
 exact⟨l,⟨us,vs,n,e,q,Each.comp (fun p' p q m r=>m ok J r) h f⟩,jy _⟩
theorem MO.tup{xs' xs:List SV}(h:Each (MV W0 fa js) xs' xs):MO W0 fa js (.tup xs') (.tup xs):=fun{X ρ ρ' a l} ok J r=>by
 obtain⟨vs,n,e,f⟩:=r
 exact⟨l,⟨vs,n,e,Each.comp (fun p' p q m r=>m ok J r) h f⟩,jy _⟩
theorem MO.bX{f:Addr}{x' x:SV}(h:MV W0 fa js x' x):MO W0 fa js (.bX f x') (.bX f x):=fun{X ρ ρ' a l} ok J r=>by
 obtain⟨v,e,q⟩:=r
 exact⟨l,⟨v,e,h ok J q⟩,jy _⟩
theorem MO.strm{st:eN}{r':Tm}(h:∀η,aI η fa→r'.ev η=st.r.ev η):MO W0 fa js (.blob (.strm ⟨none,r',none⟩)) (.blob (.strm st)):=fun{X ρ ρ' a l} ok J r=>by
 obtain⟨osi,lsi,L,e,h0,ch,tx,off,pl,pc,place,en,bf,eo,I⟩:=r
 refine⟨l,⟨osi,lsi,L,e,h0,ch,tx,off,pl,pc,place,en,bf,eo,⟨I.hoff,?_,fun g hg=>Om.ns hg,I.hp,I.hz,I.hch,I.hen,I.d7,fun l e=>Om.ns e,I.hno⟩⟩,jy _⟩
 show r'.ev W0.η=_
 rw[h W0.η ok];exact I.hr
end
noncomputable def aat (o:SO):Option {z:Addr×SV//o=.bX z.1 z.2}:=match o with
 |.bX f x=>some ⟨(f,x),rfl⟩
 |_=>af
noncomputable def Iu (b:eO):Option {r:Tm//b=.strm ⟨none,r,none⟩}:=match b with
 |.strm st=>match st with
  |⟨d,r,u⟩=>match d with
   |none=>match u with
    |none=>some ⟨r,rfl⟩
    |some _=>af
   |some _=>af
 |.other _=>af
noncomputable def mO (W0:Wd) (fa:List Fact) (js:List Nat) (o' o:SO):OP (MO W0 fa js o' o):=match o' with
 |.gone=>some ⟨MO.gone⟩
 |.inst C fs'=>ak (D7 o) fun z=>ak (aO (aB C z.1.1)) fun h=>(allM _ (mF W0 fa js) fs' z.1.2).map fun q=>⟨by rw[z.2,←bh h.1];exact MO.inst q.1⟩
 |.dict fs'=>ak (Lw.Iq o) fun z=>(allM _ (mF W0 fa js) fs' z.1).map fun q=>⟨by rw[z.2];exact MO.dict q.1⟩
 |.list p xs'=>ak (ez p) fun hp=>ak (ek o) fun z=>ak (ez z.1.1) fun hq=>(allM _ (mV W0 fa js) xs' z.1.2).map fun q=>⟨by rw[z.2,hp.1,hq.1];exact MO.list q.1⟩
 |.tup xs'=>ak (sq o) fun z=>(allM _ (mV W0 fa js) xs' z.1).map fun q=>⟨by rw[z.2];exact MO.tup q.1⟩
 |.bX f x'=>ak (aat o) fun z=>ak (aO (aB f z.1.1)) fun h=>(mV W0 fa js x' z.1.2).map fun q=>⟨by rw[z.2,←bh h.1];exact MO.bX q.1⟩
 |.blob b'=>ak (Iu b') fun r'=>ak (tg o) fun st=>(Ir fa r'.1 st.1.r).map fun q=>⟨by rw[r'.2,st.2];exact MO.strm q.1⟩
 |_=>af
noncomputable def MJ (W0:Wd) (fa:List Fact) (js:List Nat) (σ:SS) (o':SO) (j:Nat):Prop:=∃o,σ.objs.list[j]? =some o∧MO W0 fa js o' o
noncomputable def mJ (W0:Wd) (fa:List Fact) (js:List Nat) (σ:SS) (o':SO) (j:Nat):OP (MJ W0 fa js σ o' j):=ak (fQ σ.objs j) fun o=>(mO W0 fa js o' o.1).map fun q=>⟨⟨o.1,o.2,q.1⟩⟩
noncomputable def ML (W0:Wd) (fa:List Fact) (js:List Nat) (σ:SS) (p:Str×SV):Prop:=∃x,lk p.1 σ.loc=some x∧MV W0 fa js p.2 x
noncomputable def Iv (n:Str) (loc:List (Str×SV)):Option {x:SV//lk n loc=some x}:=@aU _ (fun o=>lk n loc=o→Option {x:SV//lk n loc=some x}) (fun qq=>af) (fun x h=>some ⟨x,h⟩) (lk n loc) rfl
noncomputable def mL (W0:Wd) (fa:List Fact) (js:List Nat) (σ:SS):∀loc':List (Str×SV),OP (∀p∈loc',ML W0 fa js σ p):=@bu _ (fun loc'=>OP (∀p∈loc',ML W0 fa js σ p)) (some ⟨fun qq h=>by cases h⟩) fun p qq ih=>ak (Iv p.1 σ.loc) fun x=>ak (mV W0 fa js p.2 x.1) fun q=>ih.map fun h=>⟨fun r hr=>(bV.mp hr).elim (fun e=>e▸⟨x.1,x.2,q.1⟩) (h.1 r)⟩
noncomputable def tZ:List Nat→Bool:=bu true fun j js ih=>@aj (fun qq=>Bool) ih false (aH j js)
theorem Bs{js:List Nat}(h:tZ js=true):js.Nodup:=by
 induction js with
 |nil=>exact CT
 |cons j js ih=>
  have h':@aj (fun qq=>Bool) (tZ js) false (aH j js)=true:=h
  cases e:aH j js with
  |true=>rw[e] at h';cases h'
  |false=>
   rw[e] at h'
   refine cM.mpr ⟨fun m=>?_,ih h'⟩
   clear h h' ih
   induction js with
   |nil=>cases m
   |cons k js ih=>
    rw[gp,JV] at e
    rcases bV.mp m with rfl|m
    ·rw[uU] at e;cases e.1
    ·exact ih e.2 m
theorem aau{W0:Wd}{fa:List Fact}{js:List Nat}{σ:SS}{X:List (Addr×Obj)}{ρ ρ':List Addr}{ls:List Cl}(ok:aI W0.η fa)(J:Jm js ρ ρ')(l1:LR (WS W0) X ρ σ.objs.list ls):∀{objs':List SO} {ks:List Nat},Each (MJ W0 fa js σ) objs' ks→
 ∃ls',LR (WS W0) X ρ' objs' ls'∧Each (fun k (cl:Cl)=>∃cl0,ls[k]? =some cl0∧cl.1=cl0.1∧cl.2.Sublist cl0.2) ks ls':=@fun objs' ks h=>by
 induction h with
 |nil=>exact⟨[],.nil,.nil⟩
 |cons a _ ih=>
  obtain⟨ls',h1,h2⟩:=ih
  obtain⟨o,ho,hm⟩:=a
  obtain⟨cl0,hc,r⟩:=Each.get l1 ho
  obtain⟨l',hr,hs⟩:=hm ok J r
  exact⟨(cl0.1,l')::ls',.cons hr h1,.cons ⟨cl0,hc,rfl,hs⟩ h2⟩
theorem RepS.pick{W0:Wd}{c:Cx}{ρ:List Addr}{σ:SS}{s:Shared}{js:List Nat}{objs':List SO}{loc':List (Str×SV)}{fa':List Fact}(R:RepS (WS W0) c ρ σ s)(h:Each (MJ W0 σ.fa js σ) objs' js)(hl:∀p∈loc',ML W0 σ.fa js σ p)(nd:js.Nodup)(ok':aI W0.η fa'):∃ρ',RepS (WS W0) c ρ' ⟨loc',.b objs',fa'⟩ s:=by
 obtain⟨⟨m,⟨ls,ad,l1,l2,g,gr,F,N⟩,hloc⟩,tp,fa⟩:=R
 have J:Jm js ρ (js.map fun j=>ρ.getD j 0):=fun a b q h1 h2=>by
  rw[kC] at h1
  rw[rF,h1]
  show some (ρ.getD b 0)=_
  rw[kc,h2];rfl
 obtain⟨ls',h1,h2⟩:=aau (W0:=W0) (ρ':=js.map fun j=>ρ.getD j 0) fa J l1 h
 have e1:ls'.map aN=js.map fun j=>ρ.getD j 0:=by
  have:∀{ks:List Nat} {ls':List Cl},Each (fun k (cl:Cl)=>∃cl0,ls[k]? =some cl0∧cl.1=cl0.1∧cl.2.Sublist cl0.2) ks ls'→ls'.map aN=ks.map fun j=>ρ.getD j 0:=@fun ks ls' h=>by
   induction h with
   |nil=>rfl
   |cons a _ ih=>
    obtain⟨cl0,hc,e,_⟩:=a
    rw[eL,eL,ih,e]
    congr 1
    rw[kc,←ad,rF,hc];rfl
  exact this h2
 have mem:∀p∈flat ls',p∈flat ls:=fun p hp=>by
  obtain⟨cl,hcl,hp⟩:=Cv.mp hp
  obtain⟨i,hi⟩:=yk hcl
  have hlen:=Each.len h2
  have hik:i<js.length:=by rw[hlen];exact(dg.mp hi).1
  obtain⟨cl',hc',cl0,hc,_,hs⟩:=Each.get h2 (iD hik)
  rw[hi] at hc'
  cases hc'
  exact Cv.mpr ⟨cl0,fZ hc,hs.subset hp⟩
 rw[cy] at l2
 obtain⟨n1,n2,n3⟩:=pG.mp l2
 have nf:∀l:List Cl,(flat l).map aN=l.flatMap fun cl=>cl.2.map aN:=fun l=>by rw[flat,List.map_flatMap]
 rw[nf] at n1
 obtain⟨p1,p2⟩:=afm.mp n1
 have n1':((flat ls').map aN).Nodup:=by
  rw[nf]
  refine afm.mpr ⟨fun cl hcl=>?_,JN.mpr fun i j hi hj hij x hx y hy=>?_⟩
  ·obtain⟨i,hi⟩:=yk hcl
   have hik:i<js.length:=by rw[Each.len h2];exact(dg.mp hi).1
   obtain⟨cl',hc',cl0,hc,_,hs⟩:=Each.get h2 (iD hik)
   rw[hi] at hc'
   cases hc'
   exact List.Pairwise.sublist (hs.map _) (p1 cl0 (fZ hc))
  ·have hik:i<js.length:=by rw[Each.len h2];exact hi
   have hjk:j<js.length:=by rw[Each.len h2];exact hj
   obtain⟨ci,hci,c0,h0,_,hs0⟩:=Each.get h2 (iD hik)
   obtain⟨cj,hcj,c1,h1',_,hs1⟩:=Each.get h2 (iD hjk)
   rw[iD hi] at hci
   rw[iD hj] at hcj
   cases hci;cases hcj
   have hx':=(hs0.map aN).subset hx
   have hy':=(hs1.map aN).subset hy
   have hne:js[i]≠js[j]:=JN.mp nd i j hik hjk hij
   obtain⟨b0,e0⟩:=dg.mp h0
   obtain⟨b1,e1⟩:=dg.mp h1'
   have pw:=JN.mp p2
   rcases Nat.lt_or_gt_of_ne hne with q|q
   ·exact pw _ _ b0 b1 q x (e0▸hx') y (e1▸hy')
   ·exact fun e=>pw _ _ b1 b0 q y (e1▸hy') x (e0▸hx') e.symm
 refine⟨js.map fun j=>ρ.getD j 0,⟨m,⟨ls',e1,h1,?_,g,gr,F,fun p hp=>N p ((f7.mp hp).elim (fun h=>uG _ (mem p h)) (bF _))⟩,fun x y' hx=>?_⟩,tp,ok'⟩
 ·rw[cy]
  refine pG.mpr ⟨n1',n2,fun a ha b hb=>n3 a ?_ b hb⟩
  obtain⟨p,hp,rfl⟩:=dh.mp ha
  exact rz (mem p hp)
 ·obtain⟨x0,h3,h4⟩:=hl (x,y') (eU hx)
  obtain⟨v,h5,h6⟩:=hloc x x0 h3
  exact⟨v,h5,h4 fa J h6⟩
noncomputable def t6 (x:SV):List Nat:=match x with
 |.obj i=>[i]
 |_=>[]
noncomputable def aav (nd:Bool) (o:SO):List Nat:=match o with
 |.inst _ fs=>fs.flatMap fun p=>t6 p.2
 |.dict fs=>@aj (fun qq=>List Nat) (fs.flatMap fun p=>t6 p.2) [] nd
 |.list _ xs=>xs.flatMap t6
 |.tup xs=>xs.flatMap t6
 |.bX _ x=>t6 x
 |_=>[]
noncomputable def aaw (seen:List Nat):List Nat→List Nat:=bu [] fun x qq ih=>@aj (fun qq=>List Nat) (x::ih) ih (aH x seen)
noncomputable def Bt (σ:SS) (nd:Bool):Nat→List Nat→List Nat→List Nat:=cD (fun qq seen=>seen) fun qq ih q seen=>match q with
 |[]=>seen
 |p::q=>match OL.get σ.objs p with
  |some o=>let new:=aaw seen (aav nd o);ih (q++new) (seen++new)
  |Option.none=>ih q seen
noncomputable def t7 (W0:Wd) (E:List (Str×SV)) (O:List SO) (js:List Nat) (σ:SS):Bool:=@aU _ (fun qq=>Bool) false (fun qq=>@aU _ (fun qq=>Bool) false (fun qq=>tZ js) (mL W0 σ.fa js σ E)) (allM _ (mJ W0 σ.fa js σ) O js)
theorem aax{W0:Wd}{E:List (Str×SV)}{O:List SO}{js:List Nat}{σ:SS}(h:t7 W0 E O js σ=true){c:Cx}{ρ:List Addr}{s:Shared}(R:RepS (WS W0) c ρ σ s){fa':List Fact}(ok':aI W0.η fa'):∃ρ',RepS (WS W0) c ρ' ⟨E,.b O,fa'⟩ s:=by
 unfold t7 at h
 cases q1:allM _ (mJ W0 σ.fa js σ) O js with
 |none=>rw[q1] at h;cases h
 |some h1=>
  rw[q1] at h
  cases q2:mL W0 σ.fa js σ E with
  |none=>rw[q2] at h;cases h
  |some h2=>
   rw[q2] at h
   exact R.pick h1.1 h2.1 (Bs h) ok'
end
end Ex
end
section
namespace Ex
set_option genSizeOf false
set_option genInjectivity false
noncomputable section
inductive DT where
 |leaf (o r:Tm) (m:Nat)
 |ask (k:Nat) (l:List Nat) (a:Tm) (y n:DT)
noncomputable def DT.ev (η:Ev) (d:DT):List Nat×List Nat×Nat:=@DT.rec (fun qq=>List Nat×List Nat×Nat) (fun o r m=>(o.ev η,r.ev η,m)) (fun k l a qq qq y n=>@aj (fun qq=>List Nat×List Nat×Nat) n y (aZ η k l (a.ev η) [])) d
noncomputable def DT.c (o r:Tm) (m:Nat) (fa:List Fact) (d:DT):Bool:=@DT.rec (fun qq=>Bool) (fun o' r' m'=>cz o o'&&(cz r r'&&aB m m')) (fun k l a qq qq y n=>@aU Bool (fun qq=>Bool) false (fun v=>@aj (fun qq=>Bool) n y v) (asks k l a .e fa)) d
theorem DT.r8{η:Ev}{o r:Tm}{m:Nat}{fa:List Fact}(ok:aI η fa):∀d:DT,d.c o r m fa=true→d.ev η=(o.ev η,r.ev η,m):=fun d=>by
 induction d with
 |leaf o' r' m'=>
  intro h
  have h':(cz o o'&&(cz r r'&&aB m m'))=true:=h
  rw[aY,aY] at h'
  rw[dO h'.1,dO h'.2.1,bh h'.2.2]
  rfl
 |ask k l a y n ihy ihn=>
  intro h
  have h':@aU Bool (fun qq=>Bool) false (fun v=>@aj (fun qq=>Bool) (n.c o r m fa) (y.c o r m fa) v) (asks k l a .e fa)=true:=h
  cases e:asks k l a .e fa with
  |none=>rw[e] at h';cases h'
  |some v=>
   rw[e] at h'
   have q:aZ η k l (a.ev η) []=v:=jI e ok
   show@aj (fun qq=>List Nat×List Nat×Nat) (n.ev η) (y.ev η) (aZ η k l (a.ev η) [])=_
   rw[q]
   cases v with
   |true=>exact ihy h'
   |false=>exact ihn h'
noncomputable def rN:Nat→Tm:=cD rE fun qq t=>lT t
noncomputable def hN (i:Nat):Tm:=dZ (rN i)
noncomputable def pN:Nat→Tm
 |0=>lit []
 |n+1=>match n with
  |0=>hN 0
  |n+1=>cat (pN (n+1)) (hN (n+1))
noncomputable def Bu (K:Nat):Tm:=cat (lit [38]) (pN K)
noncomputable def lets:List Nat:=(dK 26).map (97+·)++(dK 26).map (65+·)
noncomputable def aay:List Nat:=(dK 10).map (48+·)
noncomputable def aaz (e:Bool) (K:Nat) (rest:Tm) (j:Nat):DT:=
 let B:=fun m=>DT.leaf (cat (.n 22 [] (pN j) .e) (sX (((dK K).drop j).map hN))) rest m
 let A:=DT.leaf (Bu K) rest 1
 .ask 1 [59] (hN (j-1)) (B 0) (@aj (fun qq=>DT) (.ask 1 lets (hN j) A (.ask 1 aay (hN j) A (.ask 1 [61] (hN j) A (B 1)))) (B 1) (e&&aB j K))
noncomputable def Iw (e:Bool) (K:Nat) (rest:Tm):Nat→DT:=cD (.leaf (Bu K) rest 2) fun j ih=>@aj (fun qq=>DT) (.leaf (Bu K) rest 2) (@aj (fun qq=>DT) ih (.ask 23 [] (pN (j+1)) (aaz e K rest (j+1)) ih) (av (j+1) 9)) (av 2 (j+1))
noncomputable def aaA (n:Nat):DT:=Iw true n (lit []) n
noncomputable def Iz (n:Nat):DT:=Iw false (n-1) (cat (hN (n-1)) (rN n)) (n-1)
noncomputable def mainD:Nat→Nat→DT:=cD Iz fun qq ih n=>.ask 22 [] (pN n) (.ask 0 [] (rN n) (ih (n+1)) (aaA n)) (Iz n)
noncomputable def jV:DT:=.leaf (lit [38]) (cat (hN 0) (rN 1)) 0
noncomputable def iw (c:Nat):DT:=.ask 0 [] rE (.ask 1 [9,10,12,32,13] (hN 0) jV (.ask 1 [60,38] (hN 0) jV (.ask 1 [c] (hN 0) jV (mainD 9 1)))) (.leaf (lit [38]) (lit []) 0)
noncomputable def xo (m:Nat):Str:=@cD (fun qq=>Str) (aa "named-entity-without-semicolon") (fun qq qq=>aa "expected-named-entity") (m-1)
noncomputable def mY (m:Nat):SO:=.dict [(aa "type",.int 7),(aa "data",.str (xo m))]
noncomputable def aaB (o:Option SO):Option (PLift (o=some .gone)):=match o with
 |some .gone=>some ⟨rfl⟩
 |_=>af
noncomputable def isObj (o:Option SV) (k:Nat):Option (PLift (o=some (.obj k))):=match o with
 |some (.obj i)=>(aO (aB i k)).map fun h=>⟨by rw[bh h.1]⟩
 |_=>af
noncomputable def aaC (o:Option SV):Option (PLift (o=some (.obj 0))):=isObj o 0
noncomputable def aaD (o:Option SV):Option (PLift (o=some (.bool true))):=match o with
 |some (.bool true)=>some ⟨rfl⟩
 |_=>af
noncomputable def aaE (fs:List (Str×SV)) (ks:List (Str×SV)):Option (PLift (fs=ks)):=@bu (Str×SV) (fun ks=>∀fs,Option (PLift (fs=ks))) (fun fs=>match fs with
 |[]=>some ⟨rfl⟩
 |_::_=>af) (fun k ks ih fs=>match fs with
 |[]=>af
 |f::fs=>ak (aO (seq f.1 k.1)) fun h=>ak (svR f.2 k.2) fun q=>(ih fs).map fun r=>⟨by
   obtain⟨f1,f2⟩:=f
   obtain⟨k1,k2⟩:=k
   obtain rfl:f1=k1:=bS.mp h.1
   obtain rfl:f2=k2:=q.1
   rw[r.1]⟩) ks fs
where svR (x y:SV):Option (PLift (x=y)):=match x with
 |.none=>match y with
  |.none=>some ⟨rfl⟩
  |_=>af
 |.bool a=>match y with
  |.bool b=>(aO (@aj (fun qq=>Bool) (!b) b a)).map fun h=>⟨by cases a<;>cases b<;>first|rfl|cases h.1⟩
  |_=>af
 |.obj i=>match y with
  |.obj j=>(aO (aB i j)).map fun h=>⟨by rw[bh h.1]⟩
  |_=>af
 |_=>af
noncomputable def aaG (o:Option SO):Option (PLift (o=some qF)):=match o with
 |some (.inst C fs)=>ak (aO (aB C 762)) fun h=>(aaE fs _).map fun q=>⟨by rw[bh h.1,q.1];rfl⟩
 |_=>af
inductive qH (t:OL) (m:Nat) (xs:List SV):Prop
 |no (h:t.list[3]? =some (.list none [])) (e:m=0) (ex:xs=[])
 |one (j:Nat) (h:t.list[3]? =some (.list none [.obj j])) (hj:8≤j) (o:t.list[j]? =some (mY m)) (e:m=1∨m=2) (ex:xs=[.obj j])
noncomputable def aaH (o:SO):Option {m:Nat//o=mY m∧(m=1∨m=2)}:=match o with
 |.dict fs=>fz ((gK fs (xo 1)).map fun h=>⟨1,congrArg SO.dict h.1,.inl rfl⟩) ((gK fs (xo 2)).map fun h=>⟨2,congrArg SO.dict h.1,.inr rfl⟩)
 |_=>af
where gK (fs:List (Str×SV)) (s:Str):Option (PLift (fs=[(aa "type",.int 7),(aa "data",.str s)])):=match fs with
 |[(a,.int 7),(b,.str c)]=>ak (aO (seq a (aa "type"))) fun h=>ak (aO (seq b (aa "data"))) fun q=>(aO (seq c s)).map fun r=>⟨by rw[bS.mp h.1,bS.mp q.1,bS.mp r.1]⟩
 |_=>af
noncomputable def aaI (t:OL):Option {z:Nat×List SV//qH t z.1 z.2}:=ak (fQ t 3) fun o=>ak (ek o.1) fun l=>ak (ez l.1.1) fun hp=>match h:l.1.2 with
 |[]=>some ⟨(0,[]),.no (o.2.trans (congrArg some (l.2.trans (by rw[hp.1,h])))) rfl rfl⟩
 |[.obj j]=>ak (aO (av 8 j)) fun hj=>ak (fQ t j) fun oj=>(aaH oj.1).map fun m=>⟨(m.1,[.obj j]),.one j (o.2.trans (congrArg some (l.2.trans (by rw[hp.1,h])))) (ao hj.1) (oj.2.trans (congrArg some m.2.1)) m.2.2 rfl⟩
 |_=>af
structure IA (c:Nat) (σ:SS):Prop where
 self:lk (aa "self") σ.loc=some (.obj 0)
 at_:lk (aa "fromAttribute") σ.loc=some (.bool true)
 out:∃x o r m xs,lk (aa "output") σ.loc=some x∧IsT x o∧av o.bd 100000=true∧σ.objs.list[1]? =some (.blob (.strm ⟨none,r,none⟩))∧qH σ.objs m xs∧(iw c).c o r m σ.fa=true
 i:σ.objs.list[0]? =some qF
 g2:σ.objs.list[2]? =some .gone
 g4:σ.objs.list[4]? =some .gone
 g5:σ.objs.list[5]? =some .gone
 g6:σ.objs.list[6]? =some .gone
 g7:σ.objs.list[7]? =some .gone
noncomputable def t8 (t:OL) (i:Nat):Option (PLift (t.list[i]? =some .gone)):=(aaB (OL.get t i)).map fun h=>⟨by rw[←OL.get_eq];exact h.1⟩
noncomputable def Bv (c:Nat) (σ:SS):Option (PLift (IA c σ)):=ak (aaC (lk (aa "self") σ.loc)) fun h1=>ak (aaD (lk (aa "fromAttribute") σ.loc)) fun h2=>ak (Iv (aa "output") σ.loc) fun x=>ak (cZ x.1) fun o=>ak (aO (av o.1.bd 100000)) fun hb=>ak (fQ σ.objs 1) fun b=>ak (tg b.1) fun st=>ak (Iu (.strm st.1)) fun r=>ak (aaI σ.objs) fun q=>
 ak (aO ((iw c).c o.1 r.1 q.1.1 σ.fa)) fun hd=>ak (aaG (OL.get σ.objs 0)) fun hi=>ak (t8 σ.objs 2) fun g2=>ak (t8 σ.objs 4) fun g4=>ak (t8 σ.objs 5) fun g5=>ak (t8 σ.objs 6) fun g6=>(t8 σ.objs 7).map fun g7=>
  ⟨h1.1,h2.1,⟨x.1,o.1,r.1,q.1.1,q.1.2,x.2,o.2,hb.1,b.2.trans (congrArg some (st.2.trans (congrArg SO.blob r.2))),q.2,hd.1⟩,by rw[←OL.get_eq];exact hi.1,g2.1,g4.1,g5.1,g6.1,g7.1⟩
noncomputable def Bw (c:Nat) (fl:Fl) (σ:SS):Tr:=match fl with
 |.next=>@aU _ (fun qq=>Tr) .ff (fun qq=>.tt) (Bv c σ)
 |_=>.ff
theorem IB{c:Nat}{fl:Fl}{σ:SS}(h:(Bw c fl σ).h):fl=.next∧IA c σ:=by
 cases fl with
 |next=>
  have h':(@aU _ (fun qq=>Tr) .ff (fun qq=>.tt) (Bv c σ)).h:=h
  cases q:Bv c σ with
  |none=>rw[q] at h';exact h'.elim
  |some z=>exact⟨rfl,z.1⟩
 |_=>exact h.elim
noncomputable def oU (W:Wd) (c:Nat):Tr:=Bo W ⟨xg c,.b (gf rE .gone [] .gone .gone []),lz⟩ (Bw c)
end
end Ex
end
section
namespace Ex
noncomputable section
theorem aK.fa{α β ω:Type}{G:Gx}{V:List Addr→α→β→Prop}{R:List Addr→ω→Prop}{t:Cx→ω→Sem β}{σ:SS}{K:α→SS→Prop}(h:aI G.D.η σ.fa→aK G V R t σ K):aK G V R t σ K:=fun c ρ s w a r=>h a.fa c ρ s w a r
noncomputable abbrev suP (e:Expr):Pos:=e.pos
noncomputable abbrev suL (e:Expr):Expr:=dY e 0
noncomputable abbrev suR (e:Expr):Expr:=dY e 1
noncomputable def c0:Stmt:=aV (cg di) 0
theorem aaM:c0=.Assign [.Name (aa "output") (fT c0)] (.Subscript (.Name (aa "entities") (cC (suL (bQ c0)))) (.Name (aa "entityName") (cC (suR (bQ c0)))) (suP (bQ c0))) (fU c0):=by kernel_rfl
set_option tactic.hygienic true in
theorem IC{W:Wd}(he:i0 W.η):oS (iu W) c0 Bm:=fun σ K h=>by
 unfold Bm at h
 split at h
 ·rename_i t hl
  cases q:asks 23 [] t .e σ.fa with
  |none=>rw[q] at h;exact h.elim
  |some v=>
   cases v with
   |false=>rw[q] at h;exact h.elim
   |true=>
    rw[q] at h
    refine aK.fa fun ok=>?_
    have hk:bT (ai (t.ev W.η)) Tb.bU=true:=by
     have:aZ W.η 23 [] (t.ev W.η) (Tm.ev W.η .e)=true:=jI q ok
     rw[←he.e];exact this
    rw[aaM]
    refine gR (bL (by kernel_rfl)) (by kernel_rfl) (p9 (kH (v:=.ref 43) (by kernel_rfl) (by kernel_rfl) (c9 (x:=.tm t) (by kernel_rfl) (by kernel_rfl) hl (Vb (bL (by kernel_rfl)) (by kernel_rfl) (fun r=>r) hk (z:=.tm (.n 22 [] t .e)) (fun ρ tk=>⟨tk,?_⟩) h))))
    show pM (gU (ai (t.ev W.η)) Tb.bU) tk=pM (ai (W.η.f 22 (t.ev W.η))) tk
    rw[he.g _ hk]
 ·exact h.elim
theorem ags{W:Wd}(he:i0 W.η)(hkey:nsIn W.K mainGlobals (aa "KeyError")=some af):tY (iu W) [bY 0,bY 1,.If (cS (bY 2)) (dc (bY 2)) [.If (cS (aV (cg (bY 2)) 0)) (dc (aV (cg (bY 2)) 0)) [aV ly 0,aV ly 1,.If (cS fX) [aV (dc fX) 0,.If (cS di) (dc di) [aV (cg di) 0,aV (cg di) 1,aV (cg di) 2] (gz di)] (cg fX) (gz fX)] (gz (aV (cg (bY 2)) 0))] (gz (bY 2))] (Bo W):=
 have g:=xj he
 lC (.cons (i6 g _) (.cons (i6 g _) (.one (mX g (mW g _) (lC (.one (mX g (mW g _) (lC (.cons (i6 g _) (.cons (Ip he hkey) (.one (mX g (lC (.cons (i6 g _) (.one (mX g (mW g _) (lC (.cons (IC he) (.cons (i6 g _) (.one (i6 g _))))))))) (mW g _)))))))))))))
end
end Ex
end
section
namespace Ex
noncomputable section
theorem agt{G:Gx}(hK:∀e ρ os,¬G.KX e ρ os){σ:SS}{i:Nat}{o:SO}(ho:σ.objs.list[i]? =some o){b:List Stmt}{K:Fl→SS→Prop}(h:bz G b ⟨σ.loc,OL.s σ.objs i .gone,σ.fa⟩ fun fl σ'=>σ'.objs.list[i]? =some .gone∧K fl ⟨σ'.loc,OL.s σ'.objs i o,σ'.fa⟩):bz G b σ K:=fun c ρ s qq a qq=>by
 obtain⟨⟨m,⟨ls,ad,l1,l2,g,gr,F,N⟩,hl⟩,tp,fa⟩:=a.toRepS
 obtain⟨A,⟨y1,y2⟩,B,hA,rfl,r,st⟩:=Each.at l1 ho
 have pm:∀A B X,(flat (A++(y1,y2)::B)++X).Perm (flat (A++(y1,[])::B)++(y2++X)):=fun A B X=>by
  rw[nW,nW,pH,bD,bD,bD]
  exact ru _ (pA _ _ _)
 have hy:ρ[i]? =some y1:=by
  rw[←ad,cy,fj (by simp[hA])]
  simp[hA]
 have a':At G (c.X0 (y2++c.X)) ρ ⟨σ.loc,OL.s σ.objs i .gone,σ.fa⟩ s:=⟨⟨⟨m,⟨A++(y1,[])::B,by rw[←ad];simp,st .gone (y1,[]) rfl,((pm _ _ _).map aN).nodup_iff.mp l2,g,gr,F,fun p hp=>N p ((pm _ _ _).symm.subset hp)⟩,hl⟩,tp,fa⟩,a.cs,⟨a.ok.XB,a.ok.TB,a.ok.hA,a.ok.hk,a.ok.hh,a.ok.hd,a.ok.hu⟩,a.tk,fun p hp=>bF _ (a.rx p hp),a.cv,a.hf⟩
 refine wpAny_mono (h (c.X0 (y2++c.X)) ρ s () a' trivial) (fun f s' z=>?_) fun e s' ⟨_,_,_,_,_,z⟩=>(hK _ _ _ z).elim
 obtain⟨ρ',σ',x,p,⟨⟨m2,⟨ls2,ad2,l3,nd2,g2,gr2,F2,N2⟩,hl2⟩,tp2,fa2⟩,q,hg,hk⟩:=z
 obtain⟨A2,⟨z1,z2⟩,B2,hA2,rfl,r2,st2⟩:=Each.at l3 hg
 obtain rfl:z2=[]:=r2
 have hz:ρ'[i]? =some z1:=by
  rw[←ad2,cy,fj (by simp[hA2])]
  simp[hA2]
 obtain rfl:z1=y1:=jB (hz.symm.trans (cN p hy))
 exact⟨ρ',⟨σ'.loc,OL.s σ'.objs i o,σ'.fa⟩,x,p,⟨⟨m2,⟨A2++(z1,y2)::B2,by rw[←ad2];simp,st2 o (z1,y2) (OR.mono p r),((pm _ _ _).map aN).nodup_iff.mpr nd2,g2,gr2,F2,fun p hp=>N2 p ((pm _ _ _).subset hp)⟩,hl2⟩,tp2,fa2⟩,q,hk⟩
noncomputable abbrev fE (b1 b2 b3:SV):SO:=.dict [(aa "type",b1),(aa "name",b2),(aa "data",.obj 6),(aa "selfClosing",b3)]
noncomputable abbrev fY (us:List Value):SO:=.list (some (.vals us)) [.obj 7]
noncomputable abbrev L3 (o:Str):List (Str×SV):=[(aa "self",.obj 0),(aa "fromAttribute",.bool true),(aa "output",.ss o)]
theorem vS3(W:Wd)(o v:Str)(r:Tm)(b1 b2 b3 c1:SV)(us:List Value)(xs:List SV)(X:List SO)(fa:List Fact)(K:Fl→SS→Prop):gy (iu W) (bY 3) ⟨L3 o,.b (gf r (fE b1 b2 b3) xs (fY us) (.list none [c1,.ss v]) X),fa⟩ K=
 (v.length+o.length≤sizeLine∧K .next ⟨L3 o,.s (.b (gf r (fE b1 b2 b3) xs (fY us) (.list none [c1,.ss v]) X)) 7 (.list none [c1,.ss (v++o)]),fa⟩∧True):=by kernel_rfl
theorem aaO(W:Wd):(oU W 34).c=true:=by kernel_rfl
theorem aaP(W:Wd):(oU W 39).c=true:=by kernel_rfl
theorem aaQ(W:Wd):(oU W 62).c=true:=by kernel_rfl
end
end Ex
end
section
namespace Ex
noncomputable section
theorem xq(y1:Addr)(y2:List (Addr×Obj))(A B:List Cl)(X:List (Addr×Obj)):(flat (A++(y1,y2)::B)++X).Perm (flat (A++(y1,[])::B)++(y2++X)):=by
 rw[nW,nW,pH,bD,bD,bD]
 exact ru _ (pA _ _ _)
inductive aaR (G:Gx) (c:Cx) (ρ:List Addr) (σ:SS) (s:Shared) (i:Nat) (o:SO):Prop
 |mk (y:Addr) (l:List (Addr×Obj)) (hy:ρ[i]? =some y) (r:OR G.D c.R ρ y o l) (at_:At G (c.X0 (l++c.X)) ρ ⟨σ.loc,OL.s σ.objs i .gone,σ.fa⟩ s)
theorem At.lent{G:Gx}{c:Cx}{ρ:List Addr}{σ:SS}{s:Shared}{i:Nat}{o:SO}(a:At G c ρ σ s)(ho:σ.objs.list[i]? =some o):aaR G c ρ σ s i o:=by
 obtain⟨⟨m,⟨ls,ad,l1,l2,g,gr,F,N⟩,hl⟩,tp,fa⟩:=a.toRepS
 obtain⟨A,⟨y1,y2⟩,B,hA,rfl,r,st⟩:=Each.at l1 ho
 have hy:ρ[i]? =some y1:=by
  rw[←ad,cy,fj (by simp[hA])]
  simp[hA]
 exact⟨y1,y2,hy,r,⟨⟨m,⟨A++(y1,[])::B,by rw[←ad];simp,st .gone (y1,[]) rfl,((xq _ _ _ _ _).map aN).nodup_iff.mp l2,g,gr,F,fun p hp=>N p ((xq _ _ _ _ _).symm.subset hp)⟩,hl⟩,tp,fa⟩,a.cs,⟨a.ok.XB,a.ok.TB,a.ok.hA,a.ok.hk,a.ok.hh,a.ok.hd,a.ok.hu⟩,a.tk,fun p hp=>bF _ (a.rx p hp),a.cv,a.hf⟩
theorem RepS.lD{D:Wd}{c:Cx}{ρ ρ':List Addr}{σ:SS}{s:Shared}{i:Nat}{o:SO}{y:Addr}{l X:List (Addr×Obj)}(R:RepS D (c.X0 (l++X)) ρ' σ s)(p:ρ<+:ρ')(hy:ρ[i]? =some y)(r:OR D c.R ρ y o l)(hg:σ.objs.list[i]? =some .gone):RepS D (c.X0 X) ρ' ⟨σ.loc,OL.s σ.objs i o,σ.fa⟩ s:=by
 obtain⟨⟨m2,⟨ls2,ad2,l3,nd2,g2,gr2,F2,N2⟩,hl2⟩,tp2,fa2⟩:=R
 obtain⟨A2,⟨z1,z2⟩,B2,hA2,rfl,r2,st2⟩:=Each.at l3 hg
 obtain rfl:z2=[]:=r2
 have hz:ρ'[i]? =some z1:=by
  rw[←ad2,cy,fj (by simp[hA2])]
  simp[hA2]
 obtain rfl:z1=y:=jB (hz.symm.trans (cN p hy))
 exact⟨⟨m2,⟨A2++(z1,l)::B2,by rw[←ad2];simp,st2 o (z1,l) (OR.mono p r),((xq _ _ _ _ _).map aN).nodup_iff.mpr nd2,g2,gr2,F2,fun p hp=>N2 p ((xq _ _ _ _ _).subset hp)⟩,hl2⟩,tp2,fa2⟩
theorem aaS{G:Gx}(hK:∀e ρ os,¬G.KX e ρ os){c:Cx}{r:List Stmt}{Q:Flow→Shared→Prop}{E:Value→Shared→Prop}{K:Fl→SS→Tr}{ρ₀:List Addr}(hend:∀ρ' σ' s',ρ₀<+:ρ'→At G c ρ' σ' s'→(K .next σ').h→wpAny G.D.M c.A (execs r c.env) Q E s')(hno:∀fl σ',(K fl σ').h→fl=.next){sts:List Stmt}{ss:List SC}(h:Each (oS G) sts ss):
 ∀{ρ:List Addr} {σ:SS} {s:Shared},ρ₀<+:ρ→At G c ρ σ s→(mU ss σ K).h→wpAny G.D.M c.A (execs (sts++r) c.env) Q E s:=by
 induction h with
 |nil=>exact fun{ρ σ s} p a z=>hend ρ σ s p a z
 |@cons st s0 sts ss a0 _ ih=>
  intro ρ σ s p a z
  refine wpAny_execs_cons (wpAny_mono (a0 σ _ z c ρ s () a trivial) (fun f s' ⟨ρ',σ',x,p',R,q,z⟩=>?_) fun _ _ ⟨_,_,_,_,_,z⟩=>(hK _ _ _ z).elim)
  cases x with
  |next=>obtain rfl:=q;exact ih (p.trans p') (a.to p' R) z
  |brk=>cases hno _ _ z
  |cont=>cases hno _ _ z
  |ret v=>cases hno _ _ z
noncomputable abbrev aaT:List Stmt:=[bY 0,bY 1,.If (cS (bY 2)) (dc (bY 2)) [.If (cS (aV (cg (bY 2)) 0)) (dc (aV (cg (bY 2)) 0)) [aV ly 0,aV ly 1,.If (cS fX) [aV (dc fX) 0,.If (cS di) (dc di) [aV (cg di) 0,aV (cg di) 1,aV (cg di) 2] (gz di)] (cg fX) (gz fX)] (gz (aV (cg (bY 2)) 0))] (gz (bY 2))]
theorem aaU{W:Wd}(he:i0 W.η)(hkey:nsIn W.K mainGlobals (aa "KeyError")=some af):∃ss,Each (oS (iu W)) aaT ss∧mU ss=Bo W:=
 have g:=xj he
 ⟨_,.cons (i6 g _) (.cons (i6 g _) (.one (mX g (mW g _) (lC (.one (mX g (mW g _) (lC (.cons (i6 g _) (.cons (Ip he hkey) (.one (mX g (lC (.cons (i6 g _) (.one (mX g (mW g _) (lC (.cons (IC he) (.cons (i6 g _) (.one (i6 g _))))))))) (mW g _)))))))))))),rfl⟩
inductive xr (m:Nat) (xs:List SV) (X:List SO):Prop
 |no (e:m=0) (ex:xs=[])
 |one (j:Nat) (e:m=1∨m=2) (ex:xs=[.obj (8+j)]) (o:X[j]? =some (mY m))
theorem mZ{α:Type}:∀{l:List α} {i:Nat} {a:α},l[i]? =some a→l.drop i=a::l.drop (i+1):=@fun l=>by
 induction l with
 |nil=>exact fun h=>by cases h
 |cons b l ih=>
  intro i a h
  cases i with
  |zero=>cases h;rfl
  |succ i=>exact ih h
theorem aaV{l:List SO}{a0 a1 a2 a3 a4 a5 a6 a7:SO}(h0:l[0]? =some a0)(h1:l[1]? =some a1)(h2:l[2]? =some a2)(h3:l[3]? =some a3)(h4:l[4]? =some a4)(h5:l[5]? =some a5)(h6:l[6]? =some a6)(h7:l[7]? =some a7):∃X,l=a0::a1::a2::a3::a4::a5::a6::a7::X:=by
 refine⟨l.drop 8,(mZ h0).trans (congrArg _ ?_)⟩
 rw[mZ h1,mZ h2,mZ h3,mZ h4,mZ h5,mZ h6,mZ h7]
theorem qH.x{t:OL}{m:Nat}{xs:List SV}(h:qH t m xs){a0 a1 a2 a3 a4 a5 a6 a7:SO}{X:List SO}(e:t.list=a0::a1::a2::a3::a4::a5::a6::a7::X):t.list[3]? =some (.list none xs)∧xr m xs X:=by
 cases h with
 |no h e ex=>subst ex;exact⟨h,.no e rfl⟩
 |one j h hj o e2 ex=>
  subst ex
  refine⟨h,.one (j-8) e2 (by rw[pD hj]) ?_⟩
  rw[e] at o
  obtain⟨k,rfl⟩:=afe hj
  rw[kh]
  rw[show(8+k)=k+8 by exact Om.O3] at o
  exact o
end
end Ex
end
section
namespace Ex
noncomputable section
theorem qH.h3{t:OL}{m:Nat}{xs:List SV}(h:qH t m xs):t.list[3]? =some (.list none xs):=by
 cases h with
 |no h e ex=>subst ex;exact h
 |one j h hj o e2 ex=>subst ex;exact h
theorem RepS.as{D:Wd}{c:Cx}{ρ:List Addr}{σ σ':SS}{s:Shared}(R:RepS D c ρ σ s)(hl:∀x y,lk x σ'.loc=some y→lk x σ.loc=some y)(ho:σ'.objs.list=σ.objs.list)(hf:σ'.fa=σ.fa):RepS D c ρ σ' s:=aD.of hl ho hf c ρ s R
theorem aaW{W:Wd}(he:i0 W.η)(hkey:nsIn W.K mainGlobals (aa "KeyError")=some af){c:Nat}(hc:(oU W c).c=true){b1 b2 b3 c1:SV}{us:List Value}{v:Str}(hv:v.length≤100000){K:Fl→SS→Prop}
 (k:∀(o r:Tm) (m:Nat) (xs:List SV) (X:List SO) (fa':List Fact),aI W.η fa'→(iw c).ev W.η=(o.ev W.η,r.ev W.η,m)→av o.bd 100000=true→xr m xs X→K .next ⟨L3 (ai (o.ev W.η)),.b (gf r (fE b1 b2 b3) xs (fY us) (.list none [c1,.ss (v++ai (o.ev W.η))]) X),fa'⟩):
 bz (iu W) Tb.jR.body ⟨xg c,.b (gf rE (fE b1 b2 b3) [] (fY us) (.list none [c1,.ss v]) []),lz⟩ K:=fun ch ρ s qq a qq=>by
 rw[Z7]
 obtain⟨y2,l2,hy2,r2,a2⟩:=a.lent (i:=2) (o:=fE b1 b2 b3) rfl
 obtain⟨y6,l6,hy6,r6,a6⟩:=a2.lent (i:=6) (o:=fY us) rfl
 obtain⟨y7,l7,hy7,r7,a7⟩:=a6.lent (i:=7) (o:=.list none [c1,.ss v]) rfl
 have a8:=a7.to (pr _) (a7.toRepS.as (σ':=⟨xg c,.b (gf rE .gone [] .gone .gone []),lz⟩) (fun qq qq e=>e) rfl rfl)
 obtain⟨ss,hss,hseq⟩:=aaU he hkey
 refine aaS (c:=ch.X0 (l7++(l6++(l2++ch.X)))) (r:=[bY 3]) (K:=Bw c) (ρ₀:=ρ) (fun qq qq qq h=>h) (fun ρ' σ' s' p A z=>?_) (fun fl σ' h=>(IB h).1) hss (pr _) a8 (by rw[hseq];exact Tr.r8 hc)
 obtain⟨_,R⟩:=IB z
 obtain⟨x,o,r,m,xs,ho,hox,hb,h1,hq,hd⟩:=R.out
 obtain⟨X,e⟩:=aaV R.i h1 R.g2 hq.h3 R.g4 R.g5 R.g6 R.g7
 obtain⟨_,hqx⟩:=hq.x e
 have R7:=RepS.lD (c:=ch) (X:=l6++(l2++ch.X)) A.toRepS p hy7 r7 R.g7
 have R6:=RepS.lD (c:=ch) (X:=l2++ch.X) R7 p hy6 r6 (by show(aL σ'.objs.list 7 _)[6]? =_;rw[e];rfl)
 have R2:=RepS.lD (c:=ch) (X:=ch.X) R6 p hy2 r2 (by show(aL (aL σ'.objs.list 7 _) 6 _)[2]? =_;rw[e];rfl)
 have ok:aI W.η σ'.fa:=A.fa
 have R0:=aD.to (D:=WS W) (L':=L3 (ai (o.ev W.η))) ok (fun n y hn=>(by
  rw[b6] at hn
  by_cases q1:n=aa "self"
  ·rw[if_pos q1] at hn;cases hn;exact⟨_,q1▸R.self,fun qq qq r=>r⟩
  ·rw[if_neg q1,b6] at hn
   by_cases q2:n=aa "fromAttribute"
   ·rw[if_pos q2] at hn;cases hn;exact⟨_,q2▸R.at_,fun qq qq r=>r⟩
   ·rw[if_neg q2,b6] at hn
    by_cases q3:n=aa "output"
    ·rw[if_pos q3] at hn;cases hn;exact⟨x,q3▸ho,fun ρ v r=>hox r⟩
    ·rw[if_neg q3] at hn;cases hn)) ch ρ' s' R2
 have R1:=R0.as (σ':=⟨L3 (ai (o.ev W.η)),.b (gf r (fE b1 b2 b3) xs (fY us) (.list none [c1,.ss v]) X),σ'.fa⟩) (fun qq qq e=>e) (by show _=aL (aL (aL σ'.objs.list 7 _) 6 _) 2 _;rw[e];rfl) rfl
 have aF:=a.to p R1
 have hlen:v.length+(ai (o.ev W.η)).length≤sizeLine:=by
  have h2:(ai (o.ev W.η)).length≤100000:=by rw[eY];exact ah (Tm.kB W.gJ o) (ao hb)
  rw[sizeLine_eq];exact Om.O4 hv h2
 have B:bz (iu W) [bY 3] ⟨L3 (ai (o.ev W.η)),.b (gf r (fE b1 b2 b3) xs (fY us) (.list none [c1,.ss v]) X),σ'.fa⟩ K:=by
  refine cP (iZ (xj he) ?_)
  rw[vS3]
  refine⟨hlen,aK.pre (aD.of (σ':=⟨L3 (ai (o.ev W.η)),.b (gf r (fE b1 b2 b3) xs (fY us) (.list none [c1,.ss (v++ai (o.ev W.η))]) X),σ'.fa⟩) (fun qq qq e=>e) rfl rfl) (iO (k o r m xs X _ ok (DT.r8 ok _ hd) hb hqx)),trivial⟩
 exact aK.at (w:=()) B aF p trivial
end
end Ex
end
section
namespace Ex
noncomputable section
noncomputable def xu (G:Gx) (f:Value) (xs:List SV) (ns:List Str) (ys:List SV) (σ:SS) (K:SV→SS→Prop):Prop:=
 ∀c ρ s vs us,At G c ρ σ s→aG G.D ρ xs vs→aG G.D ρ ys us→codeAny G.D.M c.A (.call f ⟨vs,ns.zip us⟩) (mq G c ρ K) s
theorem xu.call{G:Gx}{f:Value}{xs ys:List SV}{ns:List Str}{σ:SS}{K:SV→SS→Prop}{c:Cx}{ρ ρ₀:List Addr}{s:Shared}{vs us:List Value}(h:xu G f xs ns ys σ K)(a:At G c ρ σ s)(p:ρ₀<+:ρ)(r:aG G.D ρ xs vs)(q:aG G.D ρ ys us):wpAny G.D.M c.A (iJ f vs (ns.zip us)) (PE G c ρ₀ K) (PX G c ρ₀) s:=wpAny_call (codeAny_mono (h c ρ s vs us a r q) fun r s' z=>by
 have z:=mq.mono p (fun qq qq=>id) z
 cases r with
 |error e=>exact z
 |ok f=>cases f with
  |ret v=>exact z
  |_=>exact z.elim)
theorem aaX{G:Gx}{σ:SS}{K:SV→SS→Prop}{f:Addr}{i:aJ}{n:Nat}{xs ys:List SV}{ns:List Str}(hi:aQ f G.T.fns=some i)(hn:G.n=n+1)(loc:List (Str×SV))(bnd:List Value→List Value→List (Str×Value))
 (hbind:∀(s:Shared) vs us,G.D.K.In s.heap→vs.length=xs.length→us.length=ys.length→BindsTo s i.fd ⟨vs,ns.zip us⟩ (bnd vs us)) (hnm:∀vs us,vs.length=xs.length→us.length=ys.length→∀y∈bnd vs us,i.scope.names.lookup y.1=some .local)
 (hloc:∀ρ vs us,aG G.D ρ xs vs→aG G.D ρ ys us→eX G.D ρ loc fun y=>(bnd vs us).reverse.lookup y)
 (hb:bz (G.in n i) i.body ⟨loc,σ.objs,σ.fa⟩ (vO σ.loc K)):xu G (.ref f) xs ns ys σ K:=by
 intro c ρ s vs us a r q
 have F:=a.tk.fns _ (eg hi)
 obtain⟨oc,od,osl,ho⟩:=F.at_
 obtain⟨m,⟨ls,ad,hL,hnd,g0,gr0,Fr0,N⟩,hl0⟩:=a.R
 have X:=gr0.X
 have hok:=a.ok
 have hl1:=(Each.len r).symm
 have hl2:=(Each.len q).symm
 have hfr:=hok.hA (by rw[hn];exact ki _)
 obtain⟨FG,BG,st,lv⟩:=groundX (R:=fun qq qq=>True) gr0.B Fr0 N hfr.1 hfr.2 hok.hk.kind
 refine codeAny_call_def (fd:=i.fd) (body:=i.body) (binds:=bnd vs us) (by have:=hok.hd;exact Om.rR hn this) ((X.keeps Fr0.keep) _ _ ho) rfl (gr0.T.nolimit.keeps Fr0.keep) (codeRec_of (X.keeps Fr0.keep) F.code) rfl (hbind s vs us (X.keeps Fr0.keep) hl1 hl2) F.cell (hnm vs us hl1 hl2) (fun h₁ hns hk₁=>?_) F.co F.gen F.kind
 let g:=hideAll s.heap ((flat ls++c.X).map (·.1))
 let L':=s.heap.objs.size
 let c':Cx:=⟨c.A.deeper (envOf i.qual i.scope L' f i.cdv),c.A,c.base,g,c.env::c.outer,envOf i.qual i.scope L' f i.cdv,i.scope,L',c.X,c.R⟩
 have ok':Ok G.D c' n:=⟨hok.XB,hok.TB,fun qq=>⟨yl hfr.1,rfl⟩,⟨F.kind,rfl,rfl,rfl,rfl⟩,hok.hh,by
  have:=hok.hd
  show c.A.depth+1+n<_
  exact Om.gH hn this,by
  have:=hok.hu
  show c.A.units+3+8*n+40<_
  exact Om.rS hn this⟩
 have gr':Gr G.D c' g:=⟨BG,X.keeps st,gr0.T.keeps st,sC gr0.D hfr.2 FG st,uV⟩
 have Fl:Fr g L' h₁ (fun y=>(bnd vs us).reverse.lookup y):=⟨hns,fun b o e=>hk₁ b o (of_hideAll _ e),aA (hideAll_size _ _)⟩
 have N':News g L' h₁ (flat ls++c.X):=fun p hp=>⟨hk₁ _ _ (N p hp).1,cU (b4 (N p hp).1),hideAll_none _ (rz hp)⟩
 have a':At (G.in n i) c' ρ ⟨loc,σ.objs,σ.fa⟩ {s with heap:=h₁,toks:=s.toks+(bnd vs us).length}:=⟨⟨⟨_,⟨ls,ad,hL,hnd,g,gr',Fl,N'⟩,hloc ρ vs us r q⟩,a.tp.to (bC _ _),a.fa⟩,rfl,ok',a.tk,a.rx,fun x hx=>Om.nm hx,fun qq=>⟨rfl,fun qq=>⟨_,_,_,_,rfl⟩⟩⟩
 refine wpAny_mono (hb c' ρ _ () a' trivial) (fun fl s' z=>?_) fun e s' ⟨_,_,_,_,_,z⟩=>z.elim
 obtain⟨ρ',σ',x,p,⟨⟨m',⟨ls',ad',hL',hnd',g1,gr1,F',N''⟩,_⟩,htp,hfa⟩,fr,k⟩:=z
 obtain⟨h₀',T1,F2,N2,B2⟩:=turn_leave gr0.B hfr.2 FG st gr1.t F' N''
 have R2:RepS G.D c ρ' ⟨σ.loc,σ'.objs,σ'.fa⟩ s':=⟨⟨m,⟨ls',ad',hL',hnd',h₀',⟨B2,hok.XB.keeps B2.stays,hok.TB.keeps B2.stays,uD gr0.D T1,gr0.t.trans T1⟩,F2,N2⟩,hl0.mono p⟩,htp,hfa⟩
 cases x with
 |ret x=>obtain⟨v,rfl,q⟩:=fr;exact⟨ρ',_,x,p,R2,q,k⟩
 |next=>obtain rfl:=fr;exact⟨ρ',_,.none,p,R2,rfl,k⟩
 |_=>exact k.elim
section
variable{G:Gx}{σ:SS}{K:SV→SS→Prop}{pos:Pos}
theorem aaY{o e1 e2:Expr}{nm n1 n2:Str}{apos k1 k2:Pos}{i:Nat}{C:Addr}{fs:List (Str×SV)}{ci:CI}{f:Addr}(ho:Based o)(hl:aB apos.endLine pos.line=true)(hc:aQ C G.T.cls=some ci)(hm:lk nm ci.fM=some f)(hlf:lk nm fs=af)
 (h:aq G o σ fun x σ₁=>x=.obj i∧σ₁.objs.list[i]? =some (.inst C fs)∧aq G e1 σ₁ fun y1 σ₂=>aq G e2 σ₂ fun y2 σ₃=>xu G (.ref f) [.obj i] [n1,n2] [y1,y2] σ₃ K):aq G (.Call (.Attribute o nm apos) [] [⟨some n1,e1,k1⟩,⟨some n2,e2,k2⟩] pos) σ K:=fun c ρ s qq a qq=>by
 have hmf:methodCallForm (0+2) (backTo pos (starEach [] c.env)) (backToKw pos (keywordEach [⟨some n1,e1,k1⟩,⟨some n2,e2,k2⟩] c.env))=true:=by
  unfold methodCallForm
  rfl
 refine methodCall_KW (kws:=[⟨some n1,e1,k1⟩,⟨some n2,e2,k2⟩]) (args:=[]) (pl:=(do return(←importBound o c.env).getD true)) (h.go a (pr _) trivial (w:=()) fun ρ' σ' x v s' p _ a' q ⟨hx,ho',k⟩=>?_) ?_
 ·subst hx
  obtain⟨b,dx,es,k',m,g,rfl,X,F,fr,I⟩:=a'.inst ho' q
  obtain⟨co,rfl⟩:=a'.iN hc
  obtain⟨a1,a2,a3,a4,a5,a6,a7⟩:=co.nQ _ (eU hm)
  refine method_inst F X I co.plain a1 a2 (fr.p7 hlf) ?_
  refine callWith_KW0 a'.X a6 rfl ?_ rfl
  show wpAny _ _ (do
   let v ←(do let v ←eval e1 c.env;standAt pos;pure v)
   return v::(←holding [v] (do
    let v ←(do let v ←eval e2 c.env;standAt pos;pure v)
    return v::(←holding [v] (pure []))))) _ _ _
  refine wpAny_bind (wpAny_bind (k.go a' p trivial (w:=()) fun ρ₂ σ₂ y1 v1 s₂ p₂ p₂' a₂ q₂ k₂=>wpAny_bind (wpAny_standAt (wpAny_pure ?_))))
  refine wpAny_bind (wpAny_holding (wpAny_bind (wpAny_bind (k₂.go a₂ p₂ trivial (w:=()) fun ρ₃ σ₃ y2 v2 s₃ p₃ p₃' a₃ q₃ k₃=>wpAny_bind (wpAny_standAt (wpAny_pure ?_))))))
  refine wpAny_bind (wpAny_holding (wpAny_pure (wpAny_pure (wpAny_pure ⟨a₃.X,?_⟩))))
  exact k₃.call a₃ p₃ (vs:=[.ref b]) (us:=[v1,v2]) (.one ((q.mono p₂').mono p₃')) (.cons (q₂.mono p₃') (.one q₃))
 ·show(do
   let ov ←attributeBase o nm c.env (eval o c.env)
   standAt apos.atName
   methodCall o nm apos pos c.env ov (0+2) (backTo pos (starEach [] c.env)) (backToKw pos (keywordEach [⟨some n1,e1,k1⟩,⟨some n2,e2,k2⟩] c.env)))=_
  rw[ho]
  congr 1
  funext ov
  congr 1
  funext _
  unfold methodCall
  rw[hmf]
  show(do
   let(f,first)←holding [ov] (calleeOf true o c.env ov nm)
   let callPos ←methodCallPos true o c.env apos pos
   callWith callPos f first (backTo pos (starEach [] c.env)) (backToKw pos (keywordEach [⟨some n1,e1,k1⟩,⟨some n2,e2,k2⟩] c.env)))=_
  have e:methodCallPos true o c.env apos pos=pure pos:=by
   unfold methodCallPos
   rw[bh hl,beq_self_eq_true];rfl
  rw[e]
  rfl
end
structure Kf (W:Wd):Prop where
 key:nsIn W.K mainGlobals (aa "KeyError")=some none
 dflt:∃o n,W.K.lookup 276=some o∧o.data=.seq #[.none,.bool false] n
end
end Ex
end
section
namespace Ex
noncomputable section
noncomputable def m5:Stmt:=aV Tb.wF.body 0
noncomputable abbrev oV (s:Stmt):Expr:=ku s 0
noncomputable abbrev xpP (s:Stmt):Pos:=s.pos
set_option backward.match.sparseCases false in
noncomputable def ID (e:Expr) (i:Nat):Expr:=match e with
 |.Call _ _ kws _=>match(kws.drop i).head? with
  |some k=>k.value
  |none=>.Constant .none 0 ⟨0,0,0,0⟩
 |_=>.Constant .none 0 ⟨0,0,0,0⟩
noncomputable def IE (e:Expr) (i:Nat):Pos:=match e with
 |.Call _ _ kws _=>match(kws.drop i).head? with
  |some k=>k.pos
  |none=>⟨0,0,0,0⟩
 |_=>⟨0,0,0,0⟩
noncomputable abbrev coP (e:Expr):Pos:=e.pos
theorem aa1:Tb.wF.body=[.Expr (.Call (.Attribute (.Name (aa "self") (Io (oV m5))) (aa "consumeEntity") (Im (oV m5))) [] [⟨some (aa "allowedChar"),.Name (aa "allowedChar") (cC (ID (oV m5) 0)),IE (oV m5) 0⟩,⟨some (aa "fromAttribute"),.Constant (.bool true) 0 (coP (ID (oV m5) 1)),IE (oV m5) 1⟩] (cC (oV m5))) (xpP m5)]:=by kernel_rfl
noncomputable def xw:List Str:=[aa "self",aa "allowedChar",aa "fromAttribute"]
theorem aa2:xw.Nodup:=by decide+kernel
noncomputable def aa3:List Str:=[aa "allowedChar",aa "fromAttribute"]
theorem aa4{W:Wd}(kf:Kf W)(s:Shared)(X:W.K.In s.heap)(v a f:Value):BindsTo s Tb.jR.fd ⟨[v],aa3.zip [a,f]⟩ [(aa "self",v),(aa "allowedChar",a),(aa "fromAttribute",f)]:=by
 obtain⟨o,n,h1,h2⟩:=kf.dflt
 exact binds_K X rfl h1 h2 rfl rfl
theorem aa5{G:Gx}{σ:SS}{K:SV→SS→Prop}{z:Nat}{pos:Pos}(k:K (.bool true) σ):aq G (.Constant (.bool true) z pos) σ K:=fun c ρ s qq a qq=>Constant_bool (a.give (V:=VR _) (x:=.bool true) (pr _) rfl k)
theorem bz.sw5{W:Wd}{m:Nat}{cons:List (Addr×Nat×bx)}{b:List Stmt}{σ:SS}{K:Fl→SS→Prop}(hn:5≤m)(h:bz (iu W) b σ K):bz (gi (WS W) Tb.jR.scope m cons) b σ K:=fun c ρ s qq a qq=>h c ρ s () ⟨a.toRepS,a.cs,a.ok.less hn,a.tk,a.rx,fun x hx=>Om.nm hx,a.hf⟩ trivial
theorem aa7{W:Wd}(he:i0 W.η)(kf:Kf W){c:Nat}(hc:(oU W c).c=true){b1 b2 b3 c1:SV}{us:List Value}{v:Str}(hv:v.length≤100000){loc:List (Str×SV)}{K:SV→SS→Prop}
 (k:∀(o r:Tm) (m:Nat) (xs:List SV) (X:List SO) (fa':List Fact),aI W.η fa'→(iw c).ev W.η=(o.ev W.η,r.ev W.η,m)→av o.bd 100000=true→xr m xs X→K .none ⟨loc,.b (gf r (fE b1 b2 b3) xs (fY us) (.list none [c1,.ss (v++ai (o.ev W.η))]) X),fa'⟩)
 {mm:Nat} {cs:bW} {KX:Value→List Addr→SS→Prop} {con:List (Addr×Nat×bx)} {sc:List (Nat×Stmt×lZ)} {ec:List (Nat×Expr×mh)} {cv:List (Str×Nat)} {fr:Bool} (hn:7≤mm):
 au (⟨WS W,Tb.T,mm,cs,KX,con,sc,ec,cv,fr⟩:Gx) (.ref 290) [.obj 0,.str ⟨#[c]⟩] ⟨loc,.b (gf rE (fE b1 b2 b3) [] (fY us) (.list none [c1,.ss v]) []),lz⟩ K:=by
 obtain⟨k',rfl⟩:∃k',mm=k'+2:=⟨mm-2,by exact Om.O5 hn⟩
 have hk5:5≤k':=by exact Om.O6 hn
 refine mr (i:=Tb.wF) (n:=k'+1) (by kernel_rfl) rfl (by kernel_rfl) (by kernel_rfl) ?_
 rw[aa1]
 refine cP (Ey (bL (by kernel_rfl)) (aaY (i:=0) (C:=762) (fs:=_) (ci:=Tb.G2) (f:=283) (fun qq qq qq=>rfl) (by kernel_rfl) (by kernel_rfl) (by kernel_rfl) ?_ (c9 (x:=.obj 0) (by kernel_rfl) (by kernel_rfl) (by kernel_rfl) ⟨rfl,rfl,c9 (x:=.str ⟨#[c]⟩) (by kernel_rfl) (by kernel_rfl) (by kernel_rfl) ?_⟩)))
 ·kernel_rfl
 ·refine aa5 ?_
  refine aaX (i:=Tb.jR) (n:=k') (by kernel_rfl) rfl (xg c) (fun vs us=>xw.zip (vs++us)) ?_ ?_ ?_ ?_
  ·intro s vs us X h1 h2
   obtain⟨v,rfl⟩:=afk.mp h1
   obtain⟨x,us,rfl⟩:=List.exists_cons_of_length_eq_add_one h2
   obtain⟨y,rfl⟩:=afk.mp (Nat.succ.inj h2)
   exact aa4 kf s X v x y
  ·intro vs us h1 h2 y hy
   have h3:=(Cz hy).1
   have:∀y∈xw,Tb.jR.scope.names.lookup y=some .local:=by decide+kernel
   exact this _ h3
  ·intro ρ vs us h1 h2 x y hx
   cases h1 using Each.ec with
   |cons r1 h1=>
    cases h1
    exact zC (ps:=xw) (xs:=[.obj 0,.str ⟨#[c]⟩,.bool true]) aa2 (.cons r1 h2) hx
  ·refine bz.sw5 hk5 (aaW he kf.key hc hv fun o r m xs X fa' h1 h2 h3 h4=>?_)
   exact⟨fun r a e=>(by cases r;cases e),iO (k o r m xs X fa' h1 h2 h3 h4)⟩
end
end Ex
end
section
namespace Ex
noncomputable section
noncomputable abbrev iy (D:Wd) (ρ ρ':List Addr) (x y:SV):Prop:=∀v,VR D ρ x v→VR D ρ' y v
theorem iy.flat{D:Wd}{ρ ρ':List Addr}{x:SV}(h:bZ x=true):iy D ρ ρ' x x:=fun qq r=>r.any h
theorem iy.ob{D:Wd}{ρ ρ':List Addr}{i j:Nat}{a:Addr}(h:ρ[i]? =some a)(h':ρ'[j]? =some a):iy D ρ ρ' (.obj i) (.obj j):=fun v r=>by
 obtain⟨b,hb,rfl⟩:=r
 exact⟨b,by rw[h'];exact h.symm.trans hb,rfl⟩
section
variable{D:Wd}{X X':List (Addr×Obj)}{ρ ρ':List Addr}{a:Addr}{l:List (Addr×Obj)}
theorem OR.IF{C:Addr}{fs fs':List (Str×SV)}(h:Each (fun p q=>q.1=p.1∧iy D ρ ρ' p.2 q.2) fs fs')(r:OR D X ρ a (.inst C fs) l):OR D X' ρ' a (.inst C fs') l:=by
 obtain⟨dx,es,n,e,f⟩:=r
 refine⟨dx,es,n,e,?_⟩
 clear e
 induction h generalizing es with
 |nil=>cases f;exact .nil
 |cons h _ ih=>cases f using Each.ec with
  |cons f1 f2=>exact .cons ⟨by rw[h.1];exact f1.key,by rw[h.1];exact f1.hash,h.2 _ f1.val⟩ (ih _ f2)
theorem OR.Bx{fs fs':List (Str×SV)}(h:Each (fun p q=>q.1=p.1∧iy D ρ ρ' p.2 q.2) fs fs')(r:OR D X ρ a (.dict fs) l):OR D X' ρ' a (.dict fs') l:=by
 obtain⟨o,kvs,e,q,f⟩:=r
 refine⟨o,kvs,e,q,?_⟩
 clear q
 induction h generalizing kvs with
 |nil=>cases f;exact .nil
 |cons h _ ih=>cases f using Each.ec with
  |cons f1 f2=>exact .cons ⟨by rw[h.1];exact f1.k,h.2 _ f1.v⟩ (ih _ f2)
theorem aG.to{xs ys:List SV}(h:Each (iy D ρ ρ') xs ys){vs:List Value}(r:aG D ρ xs vs):aG D ρ' ys vs:=by
 induction h generalizing vs with
 |nil=>cases r;exact .nil
 |cons h _ ih=>cases r with|cons r1 r2=>exact .cons (h _ r1) (ih r2)
theorem OR.xx{xs ys:List SV}(h:Each (iy D ρ ρ') xs ys)(r:OR D X ρ a (.list none xs) l):OR D X' ρ' a (.list none ys) l:=by
 obtain⟨us,vs,n,e,q,f⟩:=r
 exact⟨us,vs,n,e,q,aG.to h f⟩
theorem OR.aa8{xs:List SV}{y y':SV}(h:iy D ρ ρ' y y')(r:OR D X ρ a (.list none (xs++[y])) l):∃us,OR D X' ρ' a (.list (some (.vals us)) [y']) l∧aG D ρ xs us:=by
 obtain⟨us,vs,n,e,q,f⟩:=r
 obtain rfl:us=[]:=q
 obtain⟨ws,w,rfl,f1,f2⟩:=f.last
 exact⟨ws,⟨ws,[w],n,by rw[e];rfl,rfl,.one (h _ f2)⟩,f1⟩
theorem OR.aa9{xs:List SV}{us:List Value}{y y':SV}(h:iy D ρ ρ' y y')(hu:aG D ρ' xs us)(r:OR D X ρ a (.list (some (.vals us)) [y]) l):OR D X' ρ' a (.list none (xs++[y'])) l:=by
 obtain⟨us',vs,n,e,q,f⟩:=r
 obtain rfl:us'=us:=q
 cases f using Each.ec with
 |cons f1 f2=>
  cases f2
  exact⟨[],us'++[_],n,by rw[e];rfl,rfl,hu.app (.one (h _ f1))⟩
end
end
end Ex
end
section
namespace Ex
noncomputable section
noncomputable abbrev oW (j f s t q:Nat):List (Str×SV):=[(aa "stream",.obj j),(aa "parser",.none),(aa "escapeFlag",.bool false),(aa "lastFourChars",.obj f),(aa "state",.obj s),(aa "escape",.bool false),(aa "currentToken",.obj t),(aa "tokenQueue",.obj q)]
noncomputable abbrev m6 (b1 b2 b3:SV) (d:Nat):List (Str×SV):=[(aa "type",b1),(aa "name",b2),(aa "data",.obj d),(aa "selfClosing",b3)]
structure dF where
 i:Nat
 j:Nat
 t:Nat
 q:Nat
 f:Nat
 s:Nat
 d:Nat
 r:Nat
 un:Option Tm
 b1:SV
 b2:SV
 b3:SV
 ys:List SV
 k:SV
 v:SV
 vt:Tm
structure m7 (x:SV) (os:List SO) (z:dF):Prop where
 x:x=.obj z.i
 i:os[z.i]? =some (.inst 762 (oW z.j z.f z.s z.t z.q))
 j:os[z.j]? =some (.blob (.strm ⟨none,rE,z.un⟩))
 t:os[z.t]? =some (.dict (m6 z.b1 z.b2 z.b3 z.d))
 q:os[z.q]? =some (.list none [])
 d:os[z.d]? =some (.list none (z.ys++[.obj z.r]))
 r:os[z.r]? =some (.list none [z.k,z.v])
 v:IsT z.v z.vt
 IG:bZ z.b1=true
 II:bZ z.b2=true
 IJ:bZ z.b3=true
 fk:bZ z.k=true
 nd:tZ [z.i,z.j,z.t,z.q,z.d,z.r]=true
theorem aS{l:List SO}{i j:Nat}{x:SO}(h:j≠i):(aL l i x)[j]? =l[j]? :=by rw[kE,if_neg h]
inductive By (G:Gx) (c:Cx) (ρ:List Addr) (σ:SS) (s:Shared) (z:dF):Prop
 |mk (yi yj yt yq yd yr:Addr) (li lj lt lq ld lr:List (Addr×Obj)) (hi:ρ[z.i]? =some yi) (hj:ρ[z.j]? =some yj) (ht:ρ[z.t]? =some yt) (hq:ρ[z.q]? =some yq) (hd:ρ[z.d]? =some yd) (hr:ρ[z.r]? =some yr) (rx:∀p∈c.R,p∈c.X)
  (ri:OR G.D c.R ρ yi (.inst 762 (oW z.j z.f z.s z.t z.q)) li) (rj:OR G.D c.R ρ yj (.blob (.strm ⟨none,rE,z.un⟩)) lj) (rt:OR G.D c.R ρ yt (.dict (m6 z.b1 z.b2 z.b3 z.d)) lt) (rq:OR G.D c.R ρ yq (.list none []) lq) (rd:OR G.D c.R ρ yd (.list none (z.ys++[.obj z.r])) ld) (rr:OR G.D c.R ρ yr (.list none [z.k,z.v]) lr)
  (at_:At G (c.X0 (lr++(ld++(lq++(lt++(lj++(li++c.X))))))) ρ ⟨σ.loc,OL.s (OL.s (OL.s (OL.s (OL.s (OL.s σ.objs z.i .gone) z.j .gone) z.t .gone) z.q .gone) z.d .gone) z.r .gone,σ.fa⟩ s)
theorem At.six{G:Gx}{c:Cx}{ρ:List Addr}{σ:SS}{s:Shared}{x:SV}{z:dF}(h:m7 x σ.objs.list z)(a:At G c ρ σ s):By G c ρ σ s z:=by
 have nd:=Bs h.nd
 simp only[cM,bV,List.not_mem_nil,or_false,not_or] at nd
 obtain⟨⟨n1,n2,n3,n4,n5⟩,⟨n6,n7,n8,n9⟩,⟨n10,n11,n12⟩,⟨lE,n14⟩,n15,_⟩:=nd
 obtain⟨yi,li,hi,ri,a1⟩:=a.lent h.i
 obtain⟨yj,lj,hj,rj,a2⟩:=a1.lent (i:=z.j) (by show(aL _ _ _)[_]? =_;rw[aS (fH n1)];exact h.j)
 obtain⟨yt,lt,ht,rt,a3⟩:=a2.lent (i:=z.t) (by show(aL (aL _ _ _) _ _)[_]? =_;rw[aS (fH n6),aS (fH n2)];exact h.t)
 obtain⟨yq,lq,hq,rq,a4⟩:=a3.lent (i:=z.q) (by show(aL (aL (aL _ _ _) _ _) _ _)[_]? =_;rw[aS (fH n10),aS (fH n7),aS (fH n3)];exact h.q)
 obtain⟨yd,ld,hd,rd,a5⟩:=a4.lent (i:=z.d) (by show(aL (aL (aL (aL _ _ _) _ _) _ _) _ _)[_]? =_;rw[aS (fH lE),aS (fH n11),aS (fH n8),aS (fH n4)];exact h.d)
 obtain⟨yr,lr,hr,rr,a6⟩:=a5.lent (i:=z.r) (by show(aL (aL (aL (aL (aL _ _ _) _ _) _ _) _ _) _ _)[_]? =_;rw[aS (fH n15),aS (fH n14),aS (fH n12),aS (fH n9),aS (fH n5)];exact h.r)
 exact⟨yi,yj,yt,yq,yd,yr,li,lj,lt,lq,ld,lr,hi,hj,ht,hq,hd,hr,a.rx,ri,rj,rt,rq,rd,rr,a6⟩
end
end Ex
end
section
namespace Ex
noncomputable section
theorem OR.BF{W:Wd}{X X':List (Addr×Obj)}{ρ ρ':List Addr}{a:Addr}{l:List (Addr×Obj)}{st:eN}{r':Tm}(h:r'.ev W.η=st.r.ev W.η)(r:OR (WS W) X ρ a (.blob (.strm st)) l):OR (WS W) X' ρ' a (.blob (.strm ⟨none,r',none⟩)) l:=by
 obtain⟨osi,lsi,L,e,h0,ch,tx,off,pl,pc,place,en,bf,eo,I⟩:=r
 refine⟨osi,lsi,L,e,h0,ch,tx,off,pl,pc,place,en,bf,eo,⟨I.hoff,?_,fun g hg=>Om.ns hg,I.hp,I.hz,I.hch,I.hen,I.d7,fun l e=>Om.ns e,I.hno⟩⟩
 show r'.ev W.η=_
 rw[h];exact I.hr
inductive Small (W:Wd) (G:Gx) (c:Cx) (ρ:List Addr) (σ:SS) (s:Shared) (z:dF):Prop
 |mk (yi yj yt yq yf ys yd yr:Addr) (us:List Value) (m:Str→Option Value) (ls:List Cl) (ad:ls.map aN=ρ) (l1:LR (WS W) c.R ρ (OL.s (OL.s (OL.s (OL.s (OL.s (OL.s σ.objs z.i .gone) z.j .gone) z.t .gone) z.q .gone) z.d .gone) z.r .gone).list ls) (hl:eX (WS W) ρ σ.loc m)
  (hi:ρ[z.i]? =some yi) (hj:ρ[z.j]? =some yj) (ht:ρ[z.t]? =some yt) (hq:ρ[z.q]? =some yq) (hf:ρ[z.f]? =some yf) (hs:ρ[z.s]? =some ys) (hd:ρ[z.d]? =some yd) (hr:ρ[z.r]? =some yr) (hus:aG (WS W) ρ z.ys us)
  (at_:At G.bb (c.X0 (flat ls++c.X)) [yi,yj,yt,yq,yf,ys,yd,yr] ⟨gc m σ.loc,.b (gf rE (fE z.b1 z.b2 z.b3) [] (fY us) (.list none [z.k,.ss (ai (z.vt.ev W.η))]) []),lz⟩ s)
theorem By.small{W:Wd}{G:Gx}(hD:G.D=WS W){c:Cx}{ρ:List Addr}{σ:SS}{s:Shared}{x:SV}{z:dF}(hz:m7 x σ.objs.list z)(ok:aI W.η lz)(S:By G c ρ σ s z):Small W G c ρ σ s z:=by
 obtain⟨D,T,n,cs,KX,con,sc,ec,cv,fr⟩:=G
 obtain rfl:D=WS W:=hD
 obtain⟨yi,yj,yt,yq,yd,yr,li,lj,lt,lq,ld,lr,hi,hj,ht,hq,hd,hr,rx,ri,rj,rt,rq,rd,rr,a⟩:=S
 have hfs:∃yf ys,ρ[z.f]? =some yf∧ρ[z.s]? =some ys:=by
  obtain⟨dx,es,n,e,f⟩:=ri
  cases f using Each.ec with
  |cons _ f=>cases f using Each.ec with
   |cons _ f=>cases f using Each.ec with
    |cons _ f=>cases f using Each.ec with
     |cons f4 f=>cases f using Each.ec with
      |cons f5 f=>
       obtain⟨yf,h1,_⟩:=f4.val
       obtain⟨ys,h2,_⟩:=f5.val
       exact⟨yf,ys,h1,h2⟩
 obtain⟨yf,ys,hf,hs⟩:=hfs
 let ρi:=[yi,yj,yt,yq,yf,ys,yd,yr]
 have ri':OR (WS W) c.R ρi yi qF li:=OR.IF (D:=WS W) (ρ:=ρ) (X:=c.R) (fs:=oW z.j z.f z.s z.t z.q) (.cons ⟨rfl,.ob hj rfl⟩ (.cons ⟨rfl,.flat rfl⟩ (.cons ⟨rfl,.flat rfl⟩ (.cons ⟨rfl,.ob hf rfl⟩ (.cons ⟨rfl,.ob hs rfl⟩ (.cons ⟨rfl,.flat rfl⟩ (.cons ⟨rfl,.ob ht rfl⟩ (.one ⟨rfl,.ob hq rfl⟩)))))))) ri
 have rt':OR (WS W) c.R ρi yt (fE z.b1 z.b2 z.b3) lt:=OR.Bx (D:=WS W) (ρ:=ρ) (X:=c.R) (fs:=m6 z.b1 z.b2 z.b3 z.d) (.cons ⟨rfl,.flat hz.IG⟩ (.cons ⟨rfl,.flat hz.II⟩ (.cons ⟨rfl,.ob hd rfl⟩ (.one ⟨rfl,.flat hz.IJ⟩)))) rt
 have rj':OR (WS W) c.R ρi yj (.blob (.strm ⟨none,rE,none⟩)) lj:=OR.BF rfl rj
 have rq':OR (WS W) c.R ρi yq (.list none []) lq:=OR.xx (D:=WS W) (ρ:=ρ) (X:=c.R) (xs:=[]) .nil rq
 obtain⟨us,rd',hus⟩:=OR.aa8 (D:=WS W) (ρ:=ρ) (X:=c.R) (xs:=z.ys) (y:=.obj z.r) (X':=c.R) (ρ':=ρi) (y':=.obj 7) (.ob hr rfl) rd
 have rr':OR (WS W) c.R ρi yr (.list none [z.k,.ss (ai (z.vt.ev W.η))]) lr:=OR.xx (D:=WS W) (ρ:=ρ) (X:=c.R) (xs:=[z.k,z.v]) (.cons (.flat hz.fk) (.one fun v r=>hz.v r)) rr
 obtain⟨⟨m,⟨ls,ad,l1,l2,g,gr,F,N⟩,hl⟩,tp,fa⟩:=a.toRepS
 let S':List Cl:=[(yi,li),(yj,lj),(yt,lt),(yq,lq),(yf,[]),(ys,[]),(yd,ld),(yr,lr)]
 have pm:(flat ls++(lr++(ld++(lq++(lt++(lj++(li++c.X))))))).Perm (flat S'++(flat ls++c.X)):=by
  refine List.Perm.trans ?_ (pA _ _ _)
  refine ru _ ?_
  have h:=(List.reverse_perm [li,lj,lt,lq,ld,lr]).flatten
  have h2:=JP c.X h
  simpa[flat,S'] using h2
 refine⟨yi,yj,yt,yq,yf,ys,yd,yr,us,m,ls,ad,l1,hl,hi,hj,ht,hq,hf,hs,hd,hr,hus,⟨⟨m,⟨S',rfl,.cons ri' (.cons rj' (.cons rt' (.cons rq' (.cons rfl (.cons rfl (.cons rd' (.one rr'))))))),(pm.map aN).nodup_iff.mp l2,g,gr,F,fun p hp=>N p (pm.symm.subset hp)⟩,fun x y q=>?_⟩,tp,ok⟩,a.cs,⟨a.ok.XB,a.ok.TB,a.ok.hA,a.ok.hk,a.ok.hh,a.ok.hd,a.ok.hu⟩,a.tk,fun p hp=>?_,fun x hx=>Om.nm hx,fun h=>Om.nb h⟩
 ·obtain⟨w,hw⟩:=sE q
  obtain⟨u,h1,h2⟩:=hl x w hw
  rw[jN hw,h1] at q
  cases q
  exact⟨u,h1,rfl⟩
 ·exact bF _ (rx p hp)
end
end Ex
end
section
namespace Ex
noncomputable section
theorem RepS.less{D:Wd}{c:Cx}{ρ:List Addr}{σ:SS}{s:Shared}{Y Y':List (Addr×Obj)}(h:Y'.Sublist Y)(R:RepS D (c.X0 Y) ρ σ s):RepS D (c.X0 Y') ρ σ s:=by
 obtain⟨⟨m,⟨ls,ad,l1,l2,g,gr,F,N⟩,hl⟩,tp,fa⟩:=R
 have q:(flat ls++Y').Sublist (flat ls++Y):=(jy _).append h
 exact⟨⟨m,⟨ls,ad,l1,(q.map aN).nodup l2,g,gr,F,fun p hp=>N p (q.subset hp)⟩,hl⟩,tp,fa⟩
noncomputable abbrev lF (σ:SS) (z:dF):OL:=OL.s (OL.s (OL.s (OL.s (OL.s (OL.s σ.objs z.i .gone) z.j .gone) z.t .gone) z.q .gone) z.d .gone) z.r .gone
inductive Back (W:Wd) (c:Cx) (ρ:List Addr) (σ:SS) (s:Shared) (z:dF) (r:Tm) (row:SO) (xs:List SV) (us:List Value) (X:List SO) (ρ':List Addr) (fa:List Fact) (yi yj yt yq yf ys yd yr:Addr):Prop
 |mk (t:List Addr) (e:ρ'=yi::yj::yt::yq::yf::ys::yd::yr::t) (li lj lt lq ld lr:List (Addr×Obj)) (lsX:List Cl) (ri:OR (WS W) c.R ρ' yi qF li) (rj:OR (WS W) c.R ρ' yj (.blob (.strm ⟨none,r,none⟩)) lj) (rt:OR (WS W) c.R ρ' yt (fE z.b1 z.b2 z.b3) lt) (rq:OR (WS W) c.R ρ' yq (.list none xs) lq) (rd:OR (WS W) c.R ρ' yd (fY us) ld) (rr:OR (WS W) c.R ρ' yr row lr)
  (lX:LR (WS W) c.R ρ' X lsX) (et:lsX.map aN=t)
  (R:RepS (WS W) (c.X0 (lr++(ld++(lq++(lt++(lj++(li++(flat lsX++c.X)))))))) ρ ⟨σ.loc,lF σ z,fa⟩ s)
theorem LR.step{W:Wd}{X:List (Addr×Obj)}{ρ:List Addr}{o:SO}{os:List SO}{y:Addr}{t:List Addr}(M:List Cl→Prop)(k:∀l ls,OR W X ρ y o l→LR W X ρ os ls→ls.map aN=t→M ((y,l)::ls)){ls:List Cl}(h:LR W X ρ (o::os) ls)(ad:ls.map aN=y::t):M ls:=by
 cases h using Each.ec with
 |@cons q ls r h=>
  obtain⟨a,l⟩:=q
  obtain⟨rfl,e⟩:=rJ ad
  exact k l ls r h e
inductive jW (W:Wd) (X:List (Addr×Obj)) (ρ:List Addr) (oi oj ot oq of os od or:SO) (O:List SO) (yi yj yt yq yf ys yd yr:Addr) (t:List Addr):List Cl→Prop
 |mk (li lj lt lq lf lS ld lr:List (Addr×Obj)) (ls:List Cl) (ri:OR W X ρ yi oi li) (rj:OR W X ρ yj oj lj) (rt:OR W X ρ yt ot lt) (rq:OR W X ρ yq oq lq) (rf:OR W X ρ yf of lf) (rs:OR W X ρ ys os lS) (rd:OR W X ρ yd od ld) (rr:OR W X ρ yr or lr) (h:LR W X ρ O ls) (ad:ls.map aN=t):jW W X ρ oi oj ot oq of os od or O yi yj yt yq yf ys yd yr t ((yi,li)::(yj,lj)::(yt,lt)::(yq,lq)::(yf,lf)::(ys,lS)::(yd,ld)::(yr,lr)::ls)
theorem LR.aba{W:Wd}{X:List (Addr×Obj)}{ρ:List Addr}{oi oj ot oq of os od or:SO}{O:List SO}{yi yj yt yq yf ys yd yr:Addr}{t:List Addr}{ls:List Cl}(h:LR W X ρ (oi::oj::ot::oq::of::os::od::or::O) ls)(ad:ls.map aN=yi::yj::yt::yq::yf::ys::yd::yr::t):jW W X ρ oi oj ot oq of os od or O yi yj yt yq yf ys yd yr t ls:=by
 refine LR.step (fun q=>jW _ _ _ _ _ _ _ _ _ _ _ _ _ _ _ _ _ _ _ _ _ (q)) (fun li ls ri h ad=>?_) h ad
 refine LR.step (fun q=>jW _ _ _ _ _ _ _ _ _ _ _ _ _ _ _ _ _ _ _ _ _ ((yi,li)::q)) (fun lj ls rj h ad=>?_) h ad
 refine LR.step (fun q=>jW _ _ _ _ _ _ _ _ _ _ _ _ _ _ _ _ _ _ _ _ _ ((yi,li)::(yj,lj)::q)) (fun lt ls rt h ad=>?_) h ad
 refine LR.step (fun q=>jW _ _ _ _ _ _ _ _ _ _ _ _ _ _ _ _ _ _ _ _ _ ((yi,li)::(yj,lj)::(yt,lt)::q)) (fun lq ls rq h ad=>?_) h ad
 refine LR.step (fun q=>jW _ _ _ _ _ _ _ _ _ _ _ _ _ _ _ _ _ _ _ _ _ ((yi,li)::(yj,lj)::(yt,lt)::(yq,lq)::q)) (fun lf ls rf h ad=>?_) h ad
 refine LR.step (fun q=>jW _ _ _ _ _ _ _ _ _ _ _ _ _ _ _ _ _ _ _ _ _ ((yi,li)::(yj,lj)::(yt,lt)::(yq,lq)::(yf,lf)::q)) (fun lS ls rs h ad=>?_) h ad
 refine LR.step (fun q=>jW _ _ _ _ _ _ _ _ _ _ _ _ _ _ _ _ _ _ _ _ _ ((yi,li)::(yj,lj)::(yt,lt)::(yq,lq)::(yf,lf)::(ys,lS)::q)) (fun ld ls rd h ad=>?_) h ad
 refine LR.step (fun q=>jW _ _ _ _ _ _ _ _ _ _ _ _ _ _ _ _ _ _ _ _ _ ((yi,li)::(yj,lj)::(yt,lt)::(yq,lq)::(yf,lf)::(ys,lS)::(yd,ld)::q)) (fun lr ls rr h ad=>?_) h ad
 exact⟨li,lj,lt,lq,lf,lS,ld,lr,ls,ri,rj,rt,rq,rf,rs,rd,rr,h,ad⟩
theorem pil:∀(L:List Cl) (Y:List (Addr×Obj)),(flat L++Y).Perm (L.foldl (fun a p=>p.2++a) Y):=@fun L=>by
 induction L with
 |nil=>exact fun Y=>.refl _
 |cons p L ih=>exact fun Y=>((bD p.2 (flat L) Y).symm▸pA p.2 (flat L) Y).trans (ih (p.2++Y))
theorem abc(L M:List Cl)(K X:List (Addr×Obj)):(flat (L++M)++(K++X)).Perm (K++L.foldl (fun a p=>p.2++a) (flat M++X)):=by
 rw[flat,nB,bD]
 exact((pA _ _ _).append_left _).trans ((pA _ _ _).trans ((pil L _).append_left _))
theorem abd{W:Wd}{c:Cx}{ρ:List Addr}{σ:SS}{s:Shared}{z:dF}{r:Tm}{row:SO}{xs:List SV}{us:List Value}{X:List SO}{ρ':List Addr}{fa:List Fact}{yi yj yt yq yf ys yd yr:Addr}{m:Str→Option Value}{ls:List Cl}{loc:List (Str×SV)}
 (ad:ls.map aN=ρ) (l1:LR (WS W) c.R ρ (lF σ z).list ls) (hl:eX (WS W) ρ σ.loc m) (hloc:loc=gc m σ.loc) (p:[yi,yj,yt,yq,yf,ys,yd,yr]<+:ρ')
 (R:RepS (WS W) (c.X0 (flat ls++c.X)) ρ' ⟨loc,.b (gf r (fE z.b1 z.b2 z.b3) xs (fY us) row X),fa⟩ s):Back W c ρ σ s z r row xs us X ρ' fa yi yj yt yq yf ys yd yr:=by
 obtain⟨t,rfl⟩:=p
 obtain⟨⟨m2,⟨ls2,ad2,l3,nd2,g2,gr2,F2,N2⟩,hl2⟩,tp2,fa2⟩:=R
 obtain⟨li,lj,lt,lq,_,_,ld,lr,lsX,ri,rj,rt,rq,rfl,rfl,rd,rr,lX,et⟩:=LR.aba l3 ad2
 have pm:=abc [(yi,li),(yj,lj),(yt,lt),(yq,lq),(yf,[]),(ys,[]),(yd,ld),(yr,lr)] lsX (flat ls) c.X
 refine⟨t,rfl,li,lj,lt,lq,ld,lr,lsX,ri,rj,rt,rq,rd,rr,lX,et,⟨⟨m2,⟨ls,ad,l1,(pm.map aN).nodup_iff.mp nd2,g2,gr2,F2,fun p hp=>N2 p (pm.symm.subset hp)⟩,fun x y q=>?_⟩,tp2,fa2⟩⟩
 obtain⟨u,h1,h2⟩:=hl x y q
 have q2:=jN (m:=m) q
 rw[←hloc] at q2
 obtain⟨u',h3,h4⟩:=hl2 x _ q2
 obtain rfl:u'=u:=h4.trans (congrArg (Option.getD · .none) h1)
 exact⟨u',h3,h2⟩
theorem qI{l:List SO}{i:Nat}{x o:SO}(h:l[i]? =some o):(aL l i x)[i]? =some x:=by rw[kE,if_pos rfl,if_pos (dg.mp h).1]
structure BH (z:dF):Prop where
 ij:z.i≠z.j
 it:z.i≠z.t
 iq:z.i≠z.q
 id:z.i≠z.d
 ir:z.i≠z.r
 jt:z.j≠z.t
 jq:z.j≠z.q
 jd:z.j≠z.d
 jr:z.j≠z.r
 tq:z.t≠z.q
 td:z.t≠z.d
 tr:z.t≠z.r
 qd:z.q≠z.d
 qr:z.q≠z.r
 dr:z.d≠z.r
theorem m7.IK{x:SV}{os:List SO}{z:dF}(h:m7 x os z):BH z:=by
 have nd:=Bs h.nd
 simp only[cM,bV,List.not_mem_nil,or_false,not_or] at nd
 obtain⟨⟨n1,n2,n3,n4,n5⟩,⟨n6,n7,n8,n9⟩,⟨n10,n11,n12⟩,⟨lE,n14⟩,n15,_⟩:=nd
 exact⟨n1,n2,n3,n4,n5,n6,n7,n8,n9,n10,n11,n12,lE,n14,n15⟩
noncomputable def six (l:List SO) (z:dF) (oi oj ot oq od or_:SO):List SO:=aL (aL (aL (aL (aL (aL l z.i oi) z.j oj) z.t ot) z.q oq) z.d od) z.r or_
theorem abe{l:List SO}{z:dF}(n:BH z){oi oj ot oq od or_ a1 a2 a3 a4 a5 a6:SO}(h1:l[z.i]? =some a1)(h2:l[z.j]? =some a2)(h3:l[z.t]? =some a3)(h4:l[z.q]? =some a4)(h5:l[z.d]? =some a5)(h6:l[z.r]? =some a6):
 (six l z oi oj ot oq od or_)[z.i]? =some oi∧(six l z oi oj ot oq od or_)[z.j]? =some oj∧(six l z oi oj ot oq od or_)[z.t]? =some ot∧(six l z oi oj ot oq od or_)[z.q]? =some oq∧(six l z oi oj ot oq od or_)[z.d]? =some od∧(six l z oi oj ot oq od or_)[z.r]? =some or_:=by
 unfold six
 refine⟨?_,?_,?_,?_,?_,?_⟩
 ·rw[aS n.ir,aS n.id,aS n.iq,aS n.it,aS n.ij];exact qI h1
 ·rw[aS n.jr,aS n.jd,aS n.jq,aS n.jt];exact qI (by rw[aS n.ij.symm];exact h2)
 ·rw[aS n.tr,aS n.td,aS n.tq];exact qI (by rw[aS n.jt.symm,aS n.it.symm];exact h3)
 ·rw[aS n.qr,aS n.qd];exact qI (by rw[aS n.tq.symm,aS n.jq.symm,aS n.iq.symm];exact h4)
 ·rw[aS n.dr];exact qI (by rw[aS n.qd.symm,aS n.td.symm,aS n.jd.symm,aS n.id.symm];exact h5)
 ·exact qI (by rw[aS n.dr.symm,aS n.qr.symm,aS n.tr.symm,aS n.jr.symm,aS n.ir.symm];exact h6)
end
end Ex
end
section
namespace Ex
noncomputable section
structure qJ (l:List SO) (z:dF):Prop where
 i:l[z.i]? =some .gone
 j:l[z.j]? =some .gone
 t:l[z.t]? =some .gone
 q:l[z.q]? =some .gone
 d:l[z.d]? =some .gone
 r:l[z.r]? =some .gone
theorem RepS.six{D:Wd}{c:Cx}{ρ:List Addr}{loc:List (Str×SV)}{O:OL}{fa:List Fact}{s:Shared}{z:dF}{yi yj yt yq yd yr:Addr}{li lj lt lq ld lr Y:List (Addr×Obj)}{oi oj ot oq od or_:SO}(n:BH z)(b:qJ O.list z)
 (hi:ρ[z.i]? =some yi) (hj:ρ[z.j]? =some yj) (ht:ρ[z.t]? =some yt) (hq:ρ[z.q]? =some yq) (hd:ρ[z.d]? =some yd) (hr:ρ[z.r]? =some yr)
 (ri:OR D c.R ρ yi oi li) (rj:OR D c.R ρ yj oj lj) (rt:OR D c.R ρ yt ot lt) (rq:OR D c.R ρ yq oq lq) (rd:OR D c.R ρ yd od ld) (rr:OR D c.R ρ yr or_ lr)
 (R:RepS D (c.X0 (lr++(ld++(lq++(lt++(lj++(li++Y))))))) ρ ⟨loc,O,fa⟩ s):RepS D (c.X0 Y) ρ ⟨loc,OL.s (OL.s (OL.s (OL.s (OL.s (OL.s O z.r or_) z.d od) z.q oq) z.t ot) z.j oj) z.i oi,fa⟩ s:=by
 have R1:=RepS.lD (c:=c) (X:=ld++(lq++(lt++(lj++(li++Y))))) R (pr _) hr rr b.r
 have R2:=RepS.lD (c:=c) (X:=lq++(lt++(lj++(li++Y)))) R1 (pr _) hd rd (by show(aL _ _ _)[_]? =_;rw[aS n.dr];exact b.d)
 have R3:=RepS.lD (c:=c) (X:=lt++(lj++(li++Y))) R2 (pr _) hq rq (by show(aL (aL _ _ _) _ _)[_]? =_;rw[aS n.qd,aS n.qr];exact b.q)
 have R4:=RepS.lD (c:=c) (X:=lj++(li++Y)) R3 (pr _) ht rt (by show(aL (aL (aL _ _ _) _ _) _ _)[_]? =_;rw[aS n.tq,aS n.td,aS n.tr];exact b.t)
 have R5:=RepS.lD (c:=c) (X:=li++Y) R4 (pr _) hj rj (by show(aL (aL (aL (aL _ _ _) _ _) _ _) _ _)[_]? =_;rw[aS n.jt,aS n.jq,aS n.jd,aS n.jr];exact b.j)
 exact RepS.lD (c:=c) (X:=Y) R5 (pr _) hi ri (by show(aL (aL (aL (aL (aL _ _ _) _ _) _ _) _ _) _ _)[_]? =_;rw[aS n.ij,aS n.it,aS n.iq,aS n.id,aS n.ir];exact b.i)
theorem IL{σ:SS}{x:SV}{z:dF}(h:m7 x σ.objs.list z):qJ (lF σ z).list z:=by
 obtain⟨h1,h2,h3,h4,h5,h6⟩:=abe h.IK (oi:=.gone) (oj:=.gone) (ot:=.gone) (oq:=.gone) (od:=.gone) (or_:=.gone) h.i h.j h.t h.q h.d h.r
 exact⟨h1,h2,h3,h4,h5,h6⟩
theorem d9{l:List SO}{x o:SO}{i:Nat}(h:l[i]? =some o):(snoc l x)[i]? =some o:=by
 rw[eW,Cd (dg.mp h).1];exact h
theorem qJ.more{l:List SO}{z:dF}{x:SO}(b:qJ l z):qJ (snoc l x) z:=⟨d9 b.i,d9 b.j,d9 b.t,d9 b.q,d9 b.d,d9 b.r⟩
end
end Ex
end
section
namespace Ex
noncomputable section
noncomputable abbrev t9 (g:OL) (z:dF) (r:Tm) (v':SV) (q:List SV):OL:=OL.s (OL.s (OL.s (OL.s (OL.s (OL.s g z.r (.list none [z.k,v'])) z.d (.list none (z.ys++[.obj z.r]))) z.q (.list none q)) z.t (.dict (m6 z.b1 z.b2 z.b3 z.d))) z.j (.blob (.strm ⟨none,r,none⟩))) z.i (.inst 762 (oW z.j z.f z.s z.t z.q))
section
variable{W:Wd}{c:Cx}{ρ:List Addr}{σ:SS}{s:Shared}{z:dF}{r:Tm}{us:List Value}{X:List SO}{ρ':List Addr}{fa:List Fact}{yi yj yt yq yf ys yd yr:Addr}{x:SV}{w:Str}{v':SV}{xs:List SV}
theorem Back.IM(hz:m7 x σ.objs.list z)(hi:ρ[z.i]? =some yi)(hj:ρ[z.j]? =some yj)(ht:ρ[z.t]? =some yt)(hq:ρ[z.q]? =some yq)(hf:ρ[z.f]? =some yf)(hs:ρ[z.s]? =some ys)(hd:ρ[z.d]? =some yd)(hr:ρ[z.r]? =some yr)(hus:aG (WS W) ρ z.ys us)
 (hv':∀ρ ρ',iy (WS W) ρ ρ' (.ss w) v') {ρ2:List Addr} (p:ρ<+:ρ2) {O:OL} (bO:qJ O.list z) {qs:List SV} (t:List Addr) (e:ρ'=yi::yj::yt::yq::yf::ys::yd::yr::t) (hqs:Each (iy (WS W) ρ' ρ2) xs qs) {li lj lt lq ld lr Y:List (Addr×Obj)}
 (ri:OR (WS W) c.R ρ' yi qF li) (rj:OR (WS W) c.R ρ' yj (.blob (.strm ⟨none,r,none⟩)) lj) (rt:OR (WS W) c.R ρ' yt (fE z.b1 z.b2 z.b3) lt) (rq:OR (WS W) c.R ρ' yq (.list none xs) lq) (rd:OR (WS W) c.R ρ' yd (fY us) ld) (rr:OR (WS W) c.R ρ' yr (.list none [z.k,.ss w]) lr)
 (R:RepS (WS W) (c.X0 (lr++(ld++(lq++(lt++(lj++(li++Y))))))) ρ2 ⟨σ.loc,O,fa⟩ s):RepS (WS W) (c.X0 Y) ρ2 ⟨σ.loc,t9 O z r v' qs,fa⟩ s:=by
 subst e
 have ri':OR (WS W) c.R ρ2 yi (.inst 762 (oW z.j z.f z.s z.t z.q)) li:=OR.IF (D:=WS W) (X:=c.R) (fs:=[(aa "stream",.obj 1),(aa "parser",.none),(aa "escapeFlag",.bool false),(aa "lastFourChars",.obj 4),(aa "state",.obj 5),(aa "escape",.bool false),(aa "currentToken",.obj 2),(aa "tokenQueue",.obj 3)])
  (.cons ⟨rfl,.ob rfl (cN p hj)⟩ (.cons ⟨rfl,.flat rfl⟩ (.cons ⟨rfl,.flat rfl⟩ (.cons ⟨rfl,.ob rfl (cN p hf)⟩ (.cons ⟨rfl,.ob rfl (cN p hs)⟩ (.cons ⟨rfl,.flat rfl⟩ (.cons ⟨rfl,.ob rfl (cN p ht)⟩ (.one ⟨rfl,.ob rfl (cN p hq)⟩)))))))) ri
 have rt':OR (WS W) c.R ρ2 yt (.dict (m6 z.b1 z.b2 z.b3 z.d)) lt:=OR.Bx (D:=WS W) (X:=c.R) (fs:=m6 z.b1 z.b2 z.b3 6) (.cons ⟨rfl,.flat hz.IG⟩ (.cons ⟨rfl,.flat hz.II⟩ (.cons ⟨rfl,.ob rfl (cN p hd)⟩ (.one ⟨rfl,.flat hz.IJ⟩)))) rt
 have rj':OR (WS W) c.R ρ2 yj (.blob (.strm ⟨none,r,none⟩)) lj:=OR.BF rfl rj
 have rq':OR (WS W) c.R ρ2 yq (.list none qs) lq:=OR.xx (D:=WS W) (X:=c.R) hqs rq
 have rd':OR (WS W) c.R ρ2 yd (.list none (z.ys++[.obj z.r])) ld:=OR.aa9 (D:=WS W) (X:=c.R) (y:=.obj 7) (.ob rfl (cN p hr)) (Each.mono (fun qq qq r=>r.mono p) hus) rd
 have rr':OR (WS W) c.R ρ2 yr (.list none [z.k,v']) lr:=OR.xx (D:=WS W) (X:=c.R) (xs:=[z.k,.ss w]) (.cons (.flat hz.fk) (.one (hv' _ _))) rr
 exact RepS.six hz.IK bO (cN p hi) (cN p hj) (cN p ht) (cN p hq) (cN p hd) (cN p hr) ri' rj' rt' rq' rd' rr' R
end
end
end Ex
end
section
namespace Ex
noncomputable section
theorem abf{W:Wd}(he:i0 W.η)(kf:Kf W){c0:Nat}(hc:(oU W c0).c=true){G:Gx}(hD:G.D=WS W)(hT:G.T=Tb.T)(hn:7≤G.n){σ:SS}{x:SV}{z:dF}(hz:m7 x σ.objs.list z)(ok35:aI W.η lz)(hlen:(z.vt.ev W.η).length≤100000){K:SV→SS→Prop}
 (k:∃(o' r':Tm) (m:Nat) (fa:List Fact),(iw c0).ev W.η=(o'.ev W.η,r'.ev W.η,m)∧aI W.η fa∧(m=0→K .none ⟨σ.loc,t9 (lF σ z) z r' (.tm (gZ z.vt o').1) [],fa⟩)∧(m=1∨m=2→K .none ⟨σ.loc,t9 (OL.a (lF σ z) (mY m)) z r' (.tm (gZ z.vt o').1) [.obj σ.objs.length],fa⟩)):au G (.ref 290) [x,.str ⟨#[c0]⟩] σ K:=by
 obtain⟨D,T,n,cs,KX,con,sc,ec,cv,fr⟩:=G
 obtain rfl:D=WS W:=hD
 obtain rfl:T=Tb.T:=hT
 intro ch ρ s vs a r
 obtain⟨yi,yj,yt,yq,yf,ys,yd,yr,us,m,ls,ad,l1,hl,hi,hj,ht,hq,hf,hs,hd,hr,hus,at_⟩:=(a.six hz).small rfl hz ok35
 have hx:=hz.x
 subst hx
 let w0:=ai (z.vt.ev W.η)
 let Kc:SV→SS→Prop:=fun y σ'=>y=.none∧∃(o r:Tm) (mm:Nat) (xs:List SV) (X:List SO),σ'.loc=gc m σ.loc∧σ'.objs=.b (gf r (fE z.b1 z.b2 z.b3) xs (fY us) (.list none [z.k,.ss (w0++ai (o.ev W.η))]) X)∧(iw c0).ev W.η=(o.ev W.η,r.ev W.η,mm)∧xr mm xs X
 have call:au (⟨WS W,Tb.T,n,cs,fun qq qq qq=>False,con,[],[],[],false⟩:Gx) (.ref 290) [.obj 0,.str ⟨#[c0]⟩] ⟨gc m σ.loc,.b (gf rE (fE z.b1 z.b2 z.b3) [] (fY us) (.list none [z.k,.ss w0]) []),lz⟩ Kc:=
  aa7 he kf hc (by rw[eY];exact hlen) (fun o r mm xs X fa' h1 h2 h3 h4=>⟨rfl,o,r,mm,xs,X,rfl,rfl,h2,h4⟩) hn
 have r':aG (WS W) [yi,yj,yt,yq,yf,ys,yd,yr] [.obj 0,.str ⟨#[c0]⟩] vs:=by
  cases r using Each.ec with
  |cons r1 r2=>
   obtain⟨b,hb,rfl⟩:=r1
   obtain rfl:yi=b:=jB (hi.symm.trans hb)
   exact .cons ⟨yi,rfl,rfl⟩ (Each.eB (p:=bZ) rfl (fun qq qq p q=>q.any p) r2)
 refine jO (call (ch.X0 (flat ls++ch.X)) _ s vs at_ r') (fun v s' zz=>?_) fun e s' ⟨_,_,_,_,_,zz⟩=>zz.elim
 obtain⟨ρ',⟨loc',objs',fa'⟩,y,p,R,hv,rfl,o,rT,mm,xs,X,e1,e2,e3,e4⟩:=zz
 obtain rfl:loc'=_:=e1
 obtain rfl:objs'=_:=e2
 obtain⟨t,e,li,lj,lt,lq,ld,lr,lsX,ri,rj,rt,rq,rd,rr,lX,et,RB⟩:=abd ad l1 hl rfl p R
 obtain⟨o',r',m',fa,e3',okf,k0,k1⟩:=k
 have e5:=e3'.symm.trans e3
 obtain⟨eo,e6⟩:=gn e5
 obtain⟨er,rfl⟩:=gn e6
 have rj:=OR.BF (W:=W) (X':=ch.R) (ρ':=ρ') (r':=r') (st:=⟨none,rT,none⟩) er rj
 have hcat:∀ρ ρ',iy (WS W) ρ ρ' (.ss (w0++ai (o.ev W.η))) (.tm (gZ z.vt o').1):=fun ρ ρ' v ⟨t,ev⟩=>⟨t,by rw[ev,zh,(gZ z.vt o').2,eo]⟩
 cases e4 with
 |no em ex=>
  subst em ex
  have hk:=k0 rfl
  have F:=Back.IM hz hi hj ht hq hf hs hd hr hus hcat (pr _) (IL hz) (qs:=[]) t e .nil ri rj rt rq rd rr RB
  exact⟨ρ,_,.none,pr _,aD.fa (D:=WS W) okf _ _ _ (RepS.less (D:=WS W) (c:=ch) (Y':=ch.X) (ae9 (flat lsX) ch.X) F),hv,hk⟩
 |one j em ex ho=>
  subst ex
  have hk:=k1 em
  obtain⟨⟨yn,ln⟩,hc2,rn⟩:=Each.get lX ho
  obtain⟨ob,kvs,en,qn,fn⟩:=rn
  obtain rfl:ln=[(yn,ob)]:=en
  have hsub:[(yn,ob)].Sublist (flat lsX):=List.singleton_sublist.mpr (Cv.mpr ⟨_,fZ hc2,.head _⟩)
  have sr:∀l:List (Addr×Obj),l.Sublist l:=jy
  have R2:=RepS.less (D:=WS W) (c:=ch) ((sr lr).append ((sr ld).append ((sr lq).append ((sr lt).append ((sr lj).append ((sr li).append (hsub.append (sr ch.X)))))))) RB
  have pm:(lr++(ld++(lq++(lt++(lj++(li++([(yn,ob)]++ch.X))))))).Perm ((yn,ob)::(lr++(ld++(lq++(lt++(lj++(li++ch.X))))))):=by
   simpa only[bD,Cy,pH] using(iH (a:=(yn,ob)) (l₁:=lr++(ld++(lq++(lt++(lj++li))))) (l₂:=ch.X))
  have R3:=RepS.perm (D:=WS W) (c:=ch) pm R2
  have hx:OR (WS W) ch.R (ρ++[yn]) yn (mY m') [(yn,ob)]:=OR.Bx (D:=WS W) (X:=ch.R) (ρ:=ρ') (fs:=[(aa "type",.int 7),(aa "data",.str (xo m'))]) (.cons ⟨rfl,.flat rfl⟩ (.one ⟨rfl,.flat rfl⟩)) (kD.mk ob kvs rfl qn fn)
  have R4:=RepS.into (D:=WS W) (c:=ch.X0 (lr++(ld++(lq++(lt++(lj++(li++ch.X))))))) (x:=mY m') R3 hx
  have h1:ρ'[8+j]? =some yn:=by
   have h0:t[j]? =some yn:=by rw[←et,rF,hc2];rfl
   rw[e,f9];exact h0
  have h2:(ρ++[yn])[σ.objs.length]? =some yn:=by
   obtain⟨_,l,_⟩:=RB.R
   exact Led.end (t:=lF σ z) l yn
  have F:=Back.IM (c:=ch) hz hi hj ht hq hf hs hd hr hus hcat (cu ρ [yn]) (O:=OL.a (lF σ z) (mY m')) (IL hz).more (qs:=[.obj σ.objs.length]) t e (.one (.ob h1 h2)) ri rj rt rq rd rr R4
  exact⟨ρ++[yn],_,.none,cu _ _,aD.fa (D:=WS W) okf _ _ _ F,hv,hk⟩
end
end Ex
end
section
namespace Ex
noncomputable section
noncomputable def IP:∀(ns:List Str) (fs:List (Str×SV)),Option {vs:List SV//fs=ns.zip vs}:=@bu Str (fun ns=>∀fs:List (Str×SV),Option {vs:List SV//fs=ns.zip vs}) (fun fs=>match fs with
 |[]=>some ⟨[],rfl⟩
 |_::_=>af)
 fun n ns ih fs=>match fs with
  |[]=>af
  |f::fs=>ak (aO (seq f.1 n)) fun h=>(ih fs).map fun vs=>⟨f.2::vs.1,by
    obtain⟨f1,f2⟩:=f
    obtain rfl:f1=n:=bS.mp h.1
    rw[J1,←vs.2]⟩
noncomputable abbrev BI:List Str:=[aa "stream",aa "parser",aa "escapeFlag",aa "lastFourChars",aa "state",aa "escape",aa "currentToken",aa "tokenQueue"]
noncomputable abbrev BJ:List Str:=[aa "type",aa "name",aa "data",aa "selfClosing"]
noncomputable def IQ (x:SV):Option (PLift (x=.bool false)):=match x with
 |.bool b=>match b with
  |false=>some ⟨rfl⟩
  |true=>af
 |_=>af
theorem abg{a b c d e f g k:SV}{j l s t q:Nat}(h1:a=.obj j)(h2:b=.none)(h3:c=.bool false)(h4:d=.obj l)(h5:e=.obj s)(h6:f=.bool false)(h7:g=.obj t)(h8:k=.obj q):BI.zip [a,b,c,d,e,f,g,k]=oW j l s t q:=by subst h1 h2 h3 h4 h5 h6 h7 h8;rfl
theorem abh{a b c d:SV}{l:Nat}(h:c=.obj l):BJ.zip [a,b,c,d]=m6 a b d l:=by subst h;rfl
noncomputable def abi (fs:List (Str×SV)):Option {z:Nat×Nat×Nat×Nat×Nat//fs=oW z.1 z.2.1 z.2.2.1 z.2.2.2.1 z.2.2.2.2}:=ak (IP BI fs) fun vs=>match h:vs.1 with
 |[a,b,c,d,e,f,g,k]=>ak (dB a) fun j=>ak (sZ b) fun hb=>ak (IQ c) fun hc=>ak (dB d) fun l=>ak (dB e) fun s=>ak (IQ f) fun hf=>ak (dB g) fun t=>(dB k).map fun q=>⟨(j.1,l.1,s.1,t.1,q.1),vs.2.trans ((congrArg (BI.zip ·) h).trans (abg j.2 hb.1 hc.1 l.2 s.2 hf.1 t.2 q.2))⟩
 |_=>af
noncomputable def abj (fs:List (Str×SV)):Option {z:SV×SV×SV×Nat//fs=m6 z.1 z.2.1 z.2.2.1 z.2.2.2∧bZ z.1=true∧bZ z.2.1=true∧bZ z.2.2.1=true}:=ak (IP BJ fs) fun vs=>match h:vs.1 with
 |[a,b,c,d]=>ak (dB c) fun dl=>ak (aO (bZ a)) fun h1=>ak (aO (bZ b)) fun h2=>(aO (bZ d)).map fun h3=>⟨(a,b,d,dl.1),vs.2.trans ((congrArg (BJ.zip ·) h).trans (abh dl.2)),h1.1,h2.1,h3.1⟩
 |_=>af
noncomputable def abk (st:eN):Option {un:Option Tm//st=⟨none,rE,un⟩}:=match st with
 |⟨d,r,un⟩=>match d with
  |none=>(aO (cz r rE)).map fun h=>⟨un,by rw[dO h.1]⟩
  |some _=>af
noncomputable def abl (xs:List SV):Option (PLift (xs=[])):=match xs with
 |[]=>some ⟨rfl⟩
 |_::_=>af
noncomputable def abm (xs:List SV):Option {z:SV×SV//xs=[z.1,z.2]}:=match xs with
 |[a,b]=>some ⟨(a,b),rfl⟩
 |_=>af
theorem abn{C:Addr}{fs fs':List (Str×SV)}(h:aB C 762=true)(h2:fs=fs'):SO.inst C fs=.inst 762 fs':=by rw[bh h,h2]
theorem BK{p:Option eS}{xs ys:List SV}(h:p=none)(h2:xs=ys):SO.list p xs=.list none ys:=by rw[h,h2]
theorem abo{xs ys:List SV}{y:SV}{r:Nat}(h:xs=ys++[y])(h2:y=.obj r):xs=ys++[.obj r]:=by rw[h,h2]
noncomputable def IS (x:SV) (σ:SS):Option {z:dF//m7 x σ.objs.list z}:=ak (dB x) fun i=>ak (fQ σ.objs i.1) fun oi=>ak (D7 oi.1) fun I=>ak (aO (aB I.1.1 762)) fun hC=>ak (abi I.1.2) fun F=>ak (fQ σ.objs F.1.1) fun oj=>ak (tg oj.1) fun st=>ak (abk st.1) fun un=>
 ak (fQ σ.objs F.1.2.2.2.1) fun ot=>ak (Lw.Iq ot.1) fun ds=>ak (abj ds.1) fun Dc=>ak (fQ σ.objs F.1.2.2.2.2) fun oq=>ak (ek oq.1) fun lq=>ak (ez lq.1.1) fun hq=>ak (abl lq.1.2) fun hn=>
 ak (fQ σ.objs Dc.1.2.2.2) fun od=>ak (ek od.1) fun ld=>ak (ez ld.1.1) fun hd=>ak (GQ ld.1.2) fun la=>ak (dB la.1.2) fun rw=>ak (fQ σ.objs rw.1) fun orw=>ak (ek orw.1) fun lr=>ak (ez lr.1.1) fun hr=>ak (abm lr.1.2) fun kv=>ak (aO (bZ kv.1.1)) fun hk=>ak (cZ kv.1.2) fun vt=>
 (aO (tZ [i.1,F.1.1,F.1.2.2.2.1,F.1.2.2.2.2,Dc.1.2.2.2,rw.1])).map fun nd=>
   ⟨⟨i.1,F.1.1,F.1.2.2.2.1,F.1.2.2.2.2,F.1.2.1,F.1.2.2.1,Dc.1.2.2.2,rw.1,un.1,Dc.1.1,Dc.1.2.1,Dc.1.2.2.1,la.1.1,kv.1.1,kv.1.2,vt.1⟩,
     ⟨i.2,oi.2.trans (congrArg some (I.2.trans (abn hC.1 F.2))),oj.2.trans (congrArg some (st.2.trans (congrArg (fun s=>SO.blob (.strm s)) un.2))),ot.2.trans (congrArg some (ds.2.trans (congrArg SO.dict Dc.2.1))),oq.2.trans (congrArg some (lq.2.trans (BK hq.1 hn.1))),
       od.2.trans (congrArg some (ld.2.trans (BK hd.1 (abo la.2 rw.2)))),orw.2.trans (congrArg some (lr.2.trans (BK hr.1 kv.2))),vt.2,Dc.2.2.1,Dc.2.2.2.1,Dc.2.2.2.2,hk.1,nd.1⟩⟩
end
end Ex
end
section
namespace Lw
open Ex Tb
noncomputable section
noncomputable def oX:bx:=fun xs σ K=>match xs with
 |[x]=>match x with
  |.bool b=>K (.str (@aj (fun qq=>Str) (aa "no") (aa "yes") b)) σ
  |.bm k l a b=>match k with
   |5=>@aU Bool (fun qq=>Tr) (K (.tm (.n 12 [] a .e)) σ) (fun v=>K (.str (@aj (fun qq=>Str) (aa "no") (aa "yes") v)) σ) (asks 5 l a b σ.fa)
   |_=>.ff
  |_=>.ff
 |_=>.ff
noncomputable def IT (a:SV):Option {c:Nat//a=.str ⟨#[c]⟩}:=match a with
 |.str s=>match s with
  |⟨⟨[c]⟩⟩=>some ⟨c,rfl⟩
  |_=>af
 |_=>af
noncomputable def qK (z:dF) (r o:Tm) (σ:SS) (K:SV→SS→Tr) (fa:List Fact):Tr:=K .none ⟨σ.loc,t9 (lF σ z) z r (.tm (gZ z.vt o).1) [],fa⟩
noncomputable def xy (z:dF) (r o:Tm) (m:Nat) (σ:SS) (K:SV→SS→Tr) (fa:List Fact):Tr:=K .none ⟨σ.loc,t9 (OL.a (lF σ z) (mY m)) z r (.tm (gZ z.vt o).1) [.obj σ.objs.length],fa⟩
noncomputable def qL:List Nat:=[9,10,12,32,13,60,38]
noncomputable abbrev jX:Tm:=.n 20 [] rE .e
noncomputable abbrev jY:Tm:=.n 21 [] rE .e
noncomputable def xA:bx:=fun xs σ K=>match xs with
 |[x,a]=>@aU _ (fun qq=>Tr) .ff (fun z=>@aU _ (fun qq=>Tr) .ff (fun c=>
   @aj (fun qq=>Tr) .ff (
    g8 0 [] rE .e (g8 1 (c.1::qL) (dZ rE) .e (qK z.1 rE (lit [38]) σ K)
     (g8 20 [] rE .e (g8 21 [] rE .e (xy z.1 jY jX 1 σ K) (xy z.1 jY jX 2 σ K)) (qK z.1 jY jX σ K))) (qK z.1 rE (lit [38]) σ K) σ.fa)
   (aH c.1 [34,39,62]&&(av z.1.vt.bd 100000&&@aU Bool (fun qq=>Bool) false id (asks 3 [] rE .e σ.fa)))) (IT a)) (IS x σ)
 |_=>.ff
noncomputable def BL:List (Addr×Nat×bx):=[(133,4,tH),(156,5,wX),(163,1,Ak),(42,1,wZ),(793,1,oX),(126,2,wM),(812,1,w5),(166,5,wY),(290,7,xA)]
noncomputable def GL (W:Wd):Gx:=⟨W,T,20,iU.scope,fun qq qq qq=>False,BL,[],[],[],false⟩
noncomputable def s (x:String):Str:=aa x
noncomputable def xB (kd fl:SV) (data:Nat):SO:=.dict [(s "type",kd),(s "name",.tm (tv 1)),(s "data",.obj data),(s "selfClosing",fl)]
noncomputable def xC (i tok:Nat):SO:=.inst 762 [(s "stream",.obj i),(s "parser",.none),(s "escapeFlag",.bool false),(s "lastFourChars",.obj (i+1)),(s "state",.obj (i+2)),(s "escape",.bool false),(s "currentToken",.obj (i+3)),(s "tokenQueue",.obj (i+4))]
noncomputable def fnOf (f:Nat):Addr:=[535,549,556,584,591,542,563,570,577,304].getD f 0
noncomputable def IU (o n:Nat):List SV:=(dK n).map fun i=>.obj (o+i)
noncomputable def IV (n:Nat):List SO:=(dK n).map fun i=>.list none [.tm (tv (10+2*i)),.tm (tv (11+2*i))]
noncomputable def qM:SV:=.bm 5 [] (tv 5) .e
noncomputable def objE (f n:Nat) (kd:SV):List SO:=@aj (fun qq=>List SO) (
 [xC 2 0,xC 7 0,.blob (.strm ⟨none,tv 8,none⟩),.list none [],.bX (fnOf f) (.obj 0),xB kd qM 12,.list none [],
  .blob (.strm ⟨none,tv 8,none⟩),.list none [],.bX 304 (.obj 1),xB kd qM 13,.list none [],
  .list none (IU 14 n),.list none (IU (14+n) n)]++IV n++IV n)
 [xC 2 0,xC 7 0,.blob (.strm ⟨none,tv 8,none⟩),.list none [],.bX 304 (.obj 0),.gone,.list none [],
  .blob (.strm ⟨none,tv 8,none⟩),.list none [],.bX 304 (.obj 1),.gone,.list none []] (aB f 9)
noncomputable def xD (f:Nat):List (Str×SV):=[(s "t",.obj 0),(s "u",.obj 1),(s "follow",.int f)]
noncomputable def iP (f n:Nat) (kd:SV) (fa:List Fact):SS:=⟨xD f,.b (objE f n kd),fa⟩
noncomputable def jm:List Stmt:=iU.body.drop 27
noncomputable def isTrue (fl:Fl):Tr:=match fl with
 |.ret x=>match x with
  |.bool b=>@aj (fun qq=>Tr) .ff .tt b
  |_=>.ff
 |_=>.ff
noncomputable def tail (W:Wd) (f n:Nat) (kd:SV) (fa:List Fact):Tr:=(cY (ex 60 (GL W)) jm (iP f n kd fa) fun fl qq=>isTrue fl).t
noncomputable def xE:List Fact:=[⟨3,[],lT (tv 8),.e,true⟩]
noncomputable def IW:List Fact:=[⟨3,[],lT (tv 8),.e,true⟩,⟨1,[62],dZ (tv 8),.e,false⟩]
noncomputable def ua:List Fact:=[⟨3,[],lT (tv 8),.e,true⟩,⟨1,[62],dZ (tv 8),.e,true⟩,⟨0,[],tv 8,.e,true⟩]
noncomputable def iz:SV:=.im 7 (tv 7)
noncomputable abbrev xF:Expr:=bQ (aV fB.body 1)
noncomputable def xG (D:Wd):bx:=fun xs σ K=>match xs with
 |[y1,x,y3,y4]=>@aU _ (fun qq=>Tr) .ff (fun t=>@aj (fun qq=>Tr) .ff
   (cY (ex 60 (gi D fB.scope 2 [(793,1,oX)])) (fB.body.drop 2) ⟨(s "small",.tm (.n 11 [] t.1 .e))::(s "faults",.obj σ.objs.length)::iQ fB [y1,.tm t.1,y3,y4],OL.a (OL.a σ.objs (.list none [])) .gone,σ.fa⟩ (qj σ.loc K)).t (av t.1.bd 100000)) (sS x)
 |_=>.ff
noncomputable def GH (W:Wd):Gx:=⟨W,T,20,iU.scope,fun qq qq qq=>False,(817,3,xG W)::BL,[],[],[],false⟩
structure Row where
 c:Option Nat
 l:List Nat
 v:Bool
 aR:Str
 fault:Str
 follow:Nat
noncomputable def spS:List Nat:=[9,10,12,32,13]
noncomputable def xH:List (List Row):=[
 [⟨some 32,[9,10,12,32],true,s "skip",s "",0⟩,⟨some 62,[62],true,s "send",s "",9⟩,⟨some 47,[47],true,s "pass",s "",4⟩,⟨some 0,[0],true,s "new",s "invalid-codepoint",5⟩,⟨some 39,[39,34,61,60],true,s "new",s "invalid-character-in-attribute-name",5⟩,⟨none,[],true,s "pass",s "expected-attribute-name-but-got-eof",9⟩,⟨some 120,[9,10,12,32,13,62,47,0,39,34,61,60],false,s "new",s "",5⟩],
 [⟨some 32,[9,10,12,32],true,s "skip",s "",1⟩,⟨some 62,[62],true,s "send",s "",9⟩,⟨some 47,[47],true,s "pass",s "",4⟩,⟨some 0,[0],true,s "new",s "invalid-codepoint",5⟩,⟨some 39,[39,34,60],true,s "new",s "invalid-character-after-attribute-name",5⟩,⟨some 61,[61],true,s "pass",s "",2⟩,⟨none,[],true,s "pass",s "expected-end-of-tag-but-got-eof",9⟩,⟨some 120,[9,10,12,32,13,62,47,0,39,34,61,60],false,s "new",s "",5⟩],
 [⟨some 32,[9,10,12,32],true,s "skip",s "",2⟩,⟨some 62,[62],true,s "send",s "expected-attribute-value-but-got-right-bracket",9⟩,⟨some 0,[0],true,s "keep",s "invalid-codepoint",8⟩,⟨some 34,[34],true,s "pass",s "",6⟩,⟨some 39,[39],true,s "pass",s "",7⟩,⟨some 38,[38],true,s "back",s "",8⟩,⟨some 61,[61,60,96],true,s "keep",s "equals-in-unquoted-attribute-value",8⟩,⟨none,[],true,s "pass",s "expected-attribute-value-but-got-eof",9⟩,⟨some 120,[9,10,12,32,13,62,0,34,39,38,61,60,96],false,s "keep",s "",8⟩],
 [⟨some 32,[9,10,12,32],true,s "pass",s "",0⟩,⟨some 62,[62],true,s "send",s "",9⟩,⟨some 47,[47],true,s "pass",s "",4⟩,⟨none,[],true,s "pass",s "unexpected-EOF-after-attribute-value",9⟩,⟨some 120,[9,10,12,32,13,62,47],false,s "back",s "unexpected-character-after-attribute-value",0⟩],
 [⟨some 62,[62],true,s "close",s "",9⟩,⟨none,[],true,s "pass",s "unexpected-EOF-after-solidus-in-tag",9⟩,⟨some 120,[62],false,s "back",s "unexpected-character-after-solidus-in-tag",0⟩]]
noncomputable def bg (a b:Str):Bool:=seq a b
noncomputable def rest (r:Row):Tm:=match r.c with
 |none=>lit []
 |some _=>@aj (fun qq=>Tm) (tv 8) (tv 9) (bg r.aR (s "skip")||bg r.aR (s "back"))
noncomputable def jZ (r:Row):Tm:=match r.c with
 |none=>lit []
 |some _=>cat (tc 0) (rest r)
noncomputable def lG (r:Row):SV:=@aj (fun qq=>SV) (@aj (fun qq=>SV) (.int 1) (.int 0) (bg r.aR (s "back")||r.c.isNone)) (.im 2 (cat (tc 0) (yY spS (tv 9)))) (bg r.aR (s "skip"))
noncomputable def BN (r:Row):Tm:=@aj (fun qq=>Tm) (@aj (fun qq=>Tm) (@aj (fun qq=>Tm) (tv 8) (lit []) r.c.isNone) (cat (tc 0) (tv 9)) (bg r.aR (s "back"))) (vd spS (tv 9)) (bg r.aR (s "skip"))
noncomputable def lH (a b:Tm):Fact:=⟨2,[],a,b,true⟩
noncomputable def BO (r:Row) (n:Nat):List Fact:=(match r.c with
 |none=>[lH (lit []) (tv 8),⟨0,[],lit [],.e,false⟩]
 |some _=>[⟨1,r.l,tc 0,.e,r.v⟩])++[lH (.n 10 [] (tv 0) .e) (jZ r),lH (.n 10 [] (BN r) .e) (tv 8)]++
 @aj (fun qq=>List Fact) [] [lH (vd spS (tv 9)) (tv 8)] (bg r.aR (s "skip"))++
 @aj (fun qq=>List Fact) [] [lH (cat (tc 0) (tv 9)) (tv 8)] (bg r.aR (s "back"))++
 @aj (fun qq=>List Fact) [] [lH (@aj (fun qq=>Tm) (tc 0) (lit [65533]) (f6 r.l [0])) (tv (10+2*n)),lH (lit []) (tv (11+2*n))] (bg r.aR (s "new"))++
 @aj (fun qq=>List Fact) [] [lH (cat (tv 30) (@aj (fun qq=>Tm) (tc 0) (lit [65533]) (f6 r.l [0]))) (tv (11+2*(n-1)))] (bg r.aR (s "keep"))
noncomputable def uc (r:Row) (n i:Nat):Tm:=@aj (fun qq=>Tm) (tv (11+2*i)) (tv 30) (bg r.aR (s "keep")&&aB (i+1) n)
noncomputable def jn (r:Row) (n:Nat):List SO:=.list none ((dK n).map fun i=>.obj (i+1))::(dK n).map fun i=>.tup [.tm (tv (10+2*i)),.tm (uc r n i)]
noncomputable def stH (st:Nat) (r:Row) (n:Nat) (kd:SV):SS:=⟨[(s "state",.int st),(s "kind",kd),(s "name",.tm (tv 1)),(s "flag",qM),(s "pairs",.obj 0),(s "text",.tm (tv 0)),(s "mended",.tm (jZ r)),(s "sign",match r.c with|none=>.str (s "")|some _=>.tm (tc 0)),(s "deed",.str r.aR),(s "fault",.str r.fault),(s "follow",.int r.follow),(s "used",lG r)],.b (jn r n),BO r n⟩
noncomputable def qN:List Stmt:=(iU.body.drop 16).take 11
noncomputable def agu (W:Wd) (st:Nat) (r:Row) (n:Nat) (kd:SV):Tr:=(cY (ex 60 (GH W)) qN (stH st r n kd) fun fl qq=>match fl with|.next=>.tt|_=>.ff).t
end
end Lw
end
section
namespace Lw
open Ex Tb
noncomputable section
noncomputable abbrev abp (s:Stmt):Expr:=ku s 0
noncomputable def IX:Expr→List (Option Expr)
 |.Dict ks _ _=>ks
 |_=>[]
noncomputable def IY:Expr→List Expr
 |.Dict _ vs _=>vs
 |_=>[]
noncomputable abbrev dcP (e:Expr):Pos:=e.pos
noncomputable def gI (o:Option (List PyData)) (j:Nat):Int:=match(o.getD []).getD j .none with
 |.int i=>i
 |_=>0
noncomputable def gS (o:Option (List PyData)) (j:Nat):Str:=match(o.getD []).getD j .none with
 |.str i=>i
 |_=>⟨#[]⟩
noncomputable def ud:Expr:=abp (aV qo.body 0)
noncomputable def ue:List (Expr×Expr):=(((IX ud).filterMap id).zip (IY ud))
noncomputable def oY (x:Expr×Expr):bK:=((gI (iV x.1) 0,gS (iV x.1) 1),(gS (iV x.2) 0,gS (iV x.2) 1,gI (iV x.2) 2))
noncomputable def uf:List bK:=ue.map oY
theorem abr:qo.body=[.Return (some (.Dict (IX ud) (IY ud) (dcP ud))) (fU (aV qo.body 0))]:=by kernel_rfl
theorem abt:ue.map (fun x=>(iV x.1,iV x.2))=ue.map fun x=>(some [.int (oY x).1.1,.str (oY x).1.2],some [.str (oY x).2.1,.str (oY x).2.2.1,.int (oY x).2.2.2]):=by kernel_rfl
theorem abu:(ue.all fun x=>jE (oY x).1.2)=true:=by kernel_rfl
theorem abv{α β:Type}{R:α→β→Prop}{f:α→β}:∀{l:List α},(∀x∈l,R x (f x))→Each R l (l.map f):=@fun l=>by
 induction l with
 |nil=>exact fun qq=>.nil
 |cons x l ih=>exact fun h=>.cons (h x (.head _)) (ih fun y hy=>h y (.tail _ hy))
theorem abw:HW T 774 uf:=by
 refine⟨qo,_,_,_,_,ue,by kernel_rfl,by kernel_rfl,abr,by kernel_rfl,by kernel_rfl,abv fun x hx=>?_,of_decide_eq_true (by kernel_rfl),ao (by kernel_rfl),fun e=>?_⟩
 ·have h:=uL.mp abt x hx
  exact⟨congrArg aN h,congrArg Prod.snd h,bH.mp abu x hx⟩
 ·have:uf.isEmpty=false:=by kernel_rfl
  rw[e] at this
  cases this
noncomputable def gg:List Nat:=[32,62,47,61,34,39,60,96,0,38,97,66,9,10,12,233,45,109,112,59,63,33,90,119987]
noncomputable def ug:Str:=aa " \t\n\x0c"
noncomputable def uh (sg:Str):Bool:=!(Builtin.Str.occurrences ug sg 0 ug.length 1).isEmpty
noncomputable def xS:Str:=aa "x"
noncomputable def i7 (sg:List Nat):Str:=@aj (fun qq=>Str) (@aj (fun qq=>Str) (ai sg) (aa " ") (uh (ai sg))) (ai sg) (seq (ai sg) (aa ""))
noncomputable def iA (st:Nat):List Row:=xH.getD st []
noncomputable def xJ (r:Row) (sg:List Nat):Bool:=match sg with
 |[]=>r.c.isNone
 |c::_=>r.c.isSome&&aj (yM r.v) r.v (aH c r.l)
noncomputable def xK (st:Nat) (r:Row) (sg:List Nat):Bool:=jE (i7 sg)&&(xJ r sg&&match w6 uf st (i7 sg) xS with
 |some (dd,ff,fw)=>seq dd r.aR&&(seq ff r.fault&&decide (fw=r.follow))
 |none=>false)
theorem abx:((dK 5).all fun st=>gg.all fun c=>(iA st).any fun r=>xK st r [c])=true:=by kernel_rfl
theorem aby:((dK 5).all fun st=>(iA st).any fun r=>xK st r [])=true:=by kernel_rfl
theorem abz:(gg.all fun c=>aj (yM (aH c spS)) (aH c spS) (uh (ai [c])))=true:=by kernel_rfl
theorem abA:(gg.all fun c=>cW c 1114112&&(!aB c 13&&(!aB c 35&&mR c)))=true:=by kernel_rfl
theorem IZ:(oz.all fun p=>av p.cps.toList.length 4&&p.cps.toList.all fun c=>aB c 13||aH c gg)=true:=by kernel_rfl
theorem I0:oz.length=24:=by kernel_rfl
structure xM (st:Nat) (sg:List Nat) (r:Row):Prop where
 mem:r∈iA st
 is:xJ r sg=true
 ok:jE (i7 sg)=true
 at_:w6 uf st (i7 sg) xS=some (r.aR,r.fault,(r.follow:Int))
set_option tactic.hygienic true in
theorem abB{st:Nat}(h:st<5){sg:List Nat}(hs:sg=[]∨∃c,c∈gg∧sg=[c]):∃r,xM st sg r:=by
 have h5:st∈dK 5:=Ko.mpr h
 have:((iA st).any fun r=>xK st r sg)=true:=by
  rcases hs with rfl|⟨c,hc,rfl⟩
  ·exact bH.mp aby st h5
  ·exact bH.mp (bH.mp abx st h5) c hc
 obtain⟨r,hr,h1⟩:=yz.mp this
 unfold xK at h1
 rw[aY,aY] at h1
 obtain⟨h0,h2,h3⟩:=h1
 refine⟨r,hr,h2,h0,?_⟩
 split at h3
 ·rename_i dd ff fw e
  rw[aY,aY] at h3
  rw[e,bS.mp h3.1,bS.mp h3.2.1,of_decide_eq_true h3.2.2]
 ·cases h3
end
end Lw
end
section
namespace Ex
noncomputable section
inductive m8 (K:Frag) (a:Addr) (ns:List Int):Prop
 |mk (vs:List Value) (o:Obj) (n:Nat) (h1:K.lookup a=some o) (hc:o.cls=.type "list") (hd:o.data=.seq vs.toArray n) (h2:Each lU ns vs)
noncomputable def fF (ns:List Int):List Int:=(ns.drop 1).take 10
theorem Each.dr{α β:Type}{R:α→β→Prop}{xs:List α}{ys:List β}(h:Each R xs ys):∀n,Each R (xs.drop n) (ys.drop n):=by
 induction h with
 |nil=>intro n;cases n<;>exact .nil
 |cons a b ih=>intro n;cases n with
  |zero=>exact .cons a b
  |succ n=>exact ih n
theorem abC(n:Nat)(vs:List Value)(h:vs.length=n):((vs.drop (min 1 n)).take (min 11 n-min 1 n))=(vs.drop 1).take 10:=by
 rcases Nat.eq_zero_or_pos n with h0|h0
 ·subst h0
  obtain rfl:vs=[]:=List.length_eq_zero_iff.mp h
  rfl
 ·rw[gD h0]
  rcases Kw 11 n with h2|h2
  ·rw[gD h2]
  ·rw[Cs h2,fq (by rw[ja];exact Om.Ph h h0 h2),fq (by rw[ja];exact Om.Pj h h0 h2)]
theorem abD{W:Wd}{ρ:List Addr}{ns:List Int}{vs:List Value}(h:Each lU ns vs):aG W ρ (ns.map .si) vs:=Each.map (fun qq qq r=>r) h
set_option tactic.hygienic true in
theorem abE{ns:List Int}{vs:List Value}(h:Each lU ns vs):∃xs:List (Int×Tok),vs=xs.map (fun p=>jf p.1 p.2)∧xs.map (·.1)=ns:=by
 induction h with
 |nil=>exact⟨[],rfl,rfl⟩
 |cons a _ ih=>
  obtain⟨t,rfl⟩:=a
  obtain⟨xs,rfl,rfl⟩:=ih
  exact⟨(_,t)::xs,rfl,rfl⟩
theorem abF{W:Wd}{ρ:List Addr}{ns:List Int}{vs:List Value}(h:aG W ρ (ns.map .si) vs):Each lU ns vs:=by
 induction ns generalizing vs with
 |nil=>cases h;exact .nil
 |cons n ns ih=>cases h using Each.ec with|cons a b=>exact .cons a (ih b)
section
variable{G:Gx}{σ:SS}{a:Addr}{ns:List Int}{x:Str}
theorem m8.list(h:m8 G.D.K a ns){c:Cx}{ρ:List Addr}{s:Shared}(at_:At G c ρ σ s):∃vs:List Value,s.heap.IsList a vs.toArray∧Each lU ns vs:=by
 obtain⟨vs,o,n,h1,hc,hd,h2⟩:=h
 exact⟨vs,⟨_,at_.X _ _ h1,hc,n,hd⟩,h2⟩
theorem abG{i:Nat}{ms:List Int}{K:SV→SS→Prop}(ho:σ.objs.list[i]? =some (.list af (ms.map .si)))(k:K (.si ms.sum) σ):bB G (.builtin "sum") [.obj i] σ K:=.one fun c ρ s v a r=>by
 obtain⟨b,us,vs,rfl,rfl,f,hl⟩:=a.list ho r
 obtain⟨xs,e1,rfl⟩:=abE (abF f)
 have hl':s.heap.IsList b (intItems xs.toArray):=by
  have e:(([]:List Value)++vs).toArray=intItems xs.toArray:=by simp[e1,intItems]
  rw[e] at hl;exact hl
 refine wpAny_with_toks (n:=s.toks) (az _) (wpAny_mono (Q:=fun v s'=>s.toks≤s'.toks→PE G c ρ K v s') (sum_intListG a.ok.hh hl' fun h' tk t' hk htk=>?_) (fun qq qq z=>z) fun e s' (z:False)=>z.elim)
 have e:preSum (numAt xs.toArray) xs.toArray.size=(xs.map (·.1)).sum:=by
  rw[preSum_eq,fq (by simp)]
 rw[e]
 obtain⟨⟨m0,⟨ls,ad,hL,hn,g0,gr0,F0,N0⟩,hloc⟩,tp,fa⟩:=a.toRepS
 exact⟨ρ,σ,.si _,pr _,⟨⟨m0,⟨ls,ad,hL,hn,g0,gr0,Fr.after F0 hk,fun p hp=>⟨hk _ _ (N0 p hp).1,(N0 p hp).2⟩⟩,hloc⟩,tp.to htk,fa⟩,⟨_,rfl⟩,k⟩
variable(hs:m8 G.D.K a ns)(hl:ns.length≤1000)(hd:seq x "__debug__"=false)(hn:lk x G.cs.names=some .local)(hx:lk x σ.loc=some (.val (.ref a)))
include hs hl hd hn hx
theorem abH{p1 p2 p3 p4 p5 pos:Pos}{k1 k2:Nat}{K:SV→SS→Prop}(k:K (.si (ns.headD 0)) σ):aq G (.IfExp (.Name x p1) (.Subscript (.Name x p2) (.Constant (.int 0) k1 p3) p4) (.Constant (.int 0) k2 p5) pos) σ K:=by
 have cI:∀{k p} {K:SV→SS→Prop},K (.int 0) σ→aq G (.Constant (.int 0) k p) σ K:=fun h c ρ s qq a qq=>wpAny_Constant_int (a.t1.give (V:=VR _) (x:=.int 0) (pr _) ⟨_,rfl⟩ h)
 refine vB (zx ((Ew (.Name x p1)).get rfl).1 (c9 hd hn hx ?_))
 intro c ρ s v at_ r
 obtain rfl:=r
 obtain⟨vs,hL,h2⟩:=hs.list at_
 have hlen:ns.length=vs.length:=Each.len h2
 refine wpAny_truthy_list hL (by simp;exact Om.L1 hl hlen) (at_.t2.tell (z:=.bool (!ns.isEmpty)) ?_ ?_)
 ·show(!(vs.toArray.isEmpty))=!ns.isEmpty
  cases ns<;>cases vs<;>first|rfl|cases hlen
 ·cases ns with
  |nil=>exact aq.tE (cI ⟨.si 0,_,fun qq qq r=>r,fun qq qq qq R=>R,k⟩)
  |cons n ns=>
   refine p9 (c9 hd hn hx (cI (.mk fun c ρ s v u at_ r w=>?_)))
   obtain rfl:=r
   obtain⟨tk,rfl⟩:=w
   obtain⟨vs,hL,h2⟩:=hs.list at_
   cases h2 using Each.ec with
   |@cons v vs h3 _=>
    obtain⟨t,rfl⟩:=h3
    exact tail_any hL.typeIs slot_list_getitem.lookup (wpAny_getItem_list (k:=0) hL (by decide) (by decide) (by simp) (at_.give (V:=VR G.D) (x:=.si n) (pr _) ⟨t,rfl⟩ k)) ((bL rfl).sub _ _)
theorem I1{p1 p2 p3 p4 pos:Pos}{k1 k2:Nat}{K:SV→SS→Prop}(k:K (.obj σ.objs.length) ⟨σ.loc,OL.a σ.objs (.list af ((fF ns).map .si)),σ.fa⟩):aq G (.Subscript (.Name x p1) (.Slice (some (.Constant (.int 1) k1 p2)) (some (.Constant (.int 11) k2 p3)) none p4) pos) σ K:=fun c ρ s qq a qq=>by
 refine Subscript_ (a.name hd hn hx fun v q=>?_)
 obtain rfl:=q
 refine wpAny_Slice (wpAny_Constant_int (k:=k1) (pos:=p2) (wpAny_Constant_int (k:=k2) (pos:=p3) (wpAny_pure ?_)))
 have a5:=a.t2.push {cls:=.type "slice",data:=.fields #[.int 1 s.toks,.int 11 (s.toks+1),.none]}
 obtain⟨vs,hL,h2⟩:=hs.list a5
 have hlen:ns.length=vs.length:=Each.len h2
 have hpick:slicePick vs.toArray (some (1:Int)) (some (11:Int)) none=((vs.drop 1).take 10).toArray:=by
  rw[slicePick_plain]
  simp only[Option.elim]
  rw[show(1:Int)=((1:Nat):Int) from rfl,show(11:Int)=((11:Nat):Int) from rfl,clipAt_nat,clipAt_nat]
  rw[show vs.toArray.size=vs.length from rD,abC vs.length vs rfl]
 refine kba_turn (value':=PySem.Expr.Name (PySem.Str.ofString "_") ⟨0,0,0,0⟩) (fun qq=>rfl) ?_
 refine subscriptTail_ops (Heap.IsList.typeIs (s:={s with toks:=s.toks+1+1,heap:=s.heap.push {cls:=.type "slice",data:=.fields #[.int 1 s.toks,.int 11 (s.toks+1),.none]}}) hL) list_getitem_lookup
  (wpAny_getItem_list_slice hL (Heap.IsSliceOf.new ..) (.int 1 _) (.int 11 _) .none (by decide) ?_ (by rw[rD,←hlen,sizeLine_eq];exact Om.Pk hl hlen)) rfl (fun qq=>rfl)
 rw[hpick]
 obtain⟨m,⟨ls,ad,l1,l2,g,gr,F,N⟩,hloc⟩:=a5.R
 exact a5.made ad l1 l2 gr hloc (F.push _) (N.push F _) (fun p hp=>b4 (N p hp).1) (x:=.list af ((fF ns).map .si)) (lV.mk [] _ 0 rfl rfl (abD (Each.zE (h2.dr 1) 10))) (a5.tp.to (az _)) (pr _) k
end
end
end Ex
end
section
namespace Ex
noncomputable section
theorem abI(env:Env)(rest:List Stmt)(pre:List Stmt):execs (pre++rest) env=(execs pre env>>=fun f=>match f with
 |.next=>execs rest env
 |f=>pure f):=by
 induction pre with
 |nil=>
  show execs rest env=(pure Flow.next>>=_)
  rw[pure_bind]
 |cons st pre ih=>
  show execs (st::(pre++rest)) env=_
  rw[execs_cons,execs_cons,bind_assoc]
  congr 1
  funext f
  cases f with
  |next=>exact ih
  |_=>rw[pure_bind]
noncomputable def Fin (G:Gx) (b:List Stmt) (σ:SS):Prop:=∀c ρ s,At G c ρ σ s→wpAny G.D.M c.A (execs b c.env) (fun f s'=>f=.ret (.bool true)∧∃ρ' σ',RepS G.D c ρ' σ' s') (fun qq qq=>False) s
noncomputable def m9 (G:Gx) (b:List Stmt) (fl:Fl) (σ:SS):Prop:=match fl with
 |.next=>Fin G b σ
 |.ret x=>x=.bool true
 |_=>False
section
variable{G:Gx}{σ:SS}
theorem Fin.app(hK:∀e ρ os,¬G.KX e ρ os){pre rest:List Stmt}(h:bz G pre σ (m9 G rest)):Fin G (pre++rest) σ:=fun c ρ s a=>by
 rw[abI]
 refine wpAny_bind (wpAny_mono (h c ρ s () a trivial) (fun f s' ⟨ρ',σ',fl,p,R,q,k⟩=>?_) fun e s' ⟨_,_,_,_,_,z⟩=>(hK _ _ _ z).elim)
 cases fl with
 |next=>
  obtain rfl:=q
  exact k c ρ' s' (a.to p R)
 |ret x=>
  obtain⟨v,rfl,q⟩:=q
  have k':x=.bool true:=k
  subst k'
  obtain rfl:=q
  exact wpAny_pure ⟨rfl,ρ',σ',R⟩
 |brk=>exact k.elim
 |cont=>exact k.elim
theorem Fin.step(hK:∀e ρ os,¬G.KX e ρ os){st:Stmt}{rest:List Stmt}(h:bw G st σ (m9 G rest)):Fin G (st::rest) σ:=Fin.app (pre:=[st]) hK (cP (h.mp fun fl σ' k=>by
 cases fl
 ·exact iO k
 ·exact k
 ·exact k
 ·exact k))
theorem Fin.less{b:List Stmt}{σ':SS}(l:aD G.D σ σ')(h:Fin G b σ'):Fin G b σ:=fun c ρ s a=>h c ρ s (a.to (pr _) (l _ _ _ a.toRepS))
end
theorem Fin.pick{W0:Wd}{T:Tab}{n:Nat}{cs:bW}{KX:Value→List Addr→SS→Prop}{con con':List (Addr×Nat×bx)}{cv:List (Str×Nat)}{fr:Bool}{b:List Stmt}{σ:SS}{js:List Nat}{objs':List SO}{loc':List (Str×SV)}{fa':List Fact}
 (h:Each (MJ W0 σ.fa js σ) objs' js) (hl:∀p∈loc',ML W0 σ.fa js σ p) (nd:js.Nodup) (ok':aI W0.η fa') (k:Fin ⟨WS W0,T,n,cs,KX,con',[],[],[],false⟩ b ⟨loc',.b objs',fa'⟩):Fin ⟨WS W0,T,n,cs,KX,con,[],[],cv,fr⟩ b σ:=fun c ρ s a=>by
 obtain⟨ρ',R⟩:=RepS.pick (W0:=W0) a.toRepS h hl nd ok'
 exact k c ρ' s ⟨R,a.cs,a.ok,a.tk,a.rx,fun x hx=>Om.nm hx,fun h=>Om.nb h⟩
theorem abJ{D:Wd}{T:Tab}(tk:TabOk D T){s:Shared}(htp:s.os=D.os∧s.gens=D.gens){f:Addr}{i:aJ}{pn n0:Str}{v0:Value}(F:rY D.K f i pn n0)(X:D.K.In s.heap)(TP:Top D.p D.loose D.mean D.mg D.mb s.heap){n:Nat}(hn:n≤60)
 (hb:Fin ⟨D,T,n,i.scope,fun qq qq qq=>False,[],[],[],[(n0,0)],true⟩ i.body ⟨[(pn,.val v0)],.b [.cell af],[]⟩):
 wpAny D.M callerA (iJ (.ref f) [v0]) (fun v s'=>v=.bool true∧(∀b o,s.heap.get? b=some o→s'.heap.get? b=some o)∧Tp D s') (fun qq qq=>False) s:=by
 obtain⟨oc,od,osl,ho⟩:=F.at_
 refine wpAny_call (codeAny_mono (R:=fun r s'=>∃v,r=.ok (.ret v)∧v=.bool true∧(∀b o,s.heap.get? b=some o→s'.heap.get? b=some o)∧Tp D s') ?_ fun r s' ⟨v,e,z⟩=>by subst e;exact z)
 refine codeAny_call_function (by decide+kernel) (X _ _ ho) rfl F.co F.gen rfl (codeRec_of X F.code) ?_
 rw[F.bind v0]
 refine wpAny_pure (F9 F.kind F.cells F.push F.loc fun h₁ hns hce hk₁=>?_)
 refine⟨TP.nolimit.keeps hk₁,codeAny_func ?_⟩
 let L':=s.heap.objs.size
 let env:=newEnv i.scope L' mainGlobals [(n0,L'+1)] (i.qual++".<locals>.") (some f) i.cdv none builtinsNs
 let oc0:Obj:={cls:=.type "cell",data:=.cell none}
 let c':Cx:=⟨callerA.deeper env,callerA,s.heap,s.heap,[],env,i.scope,L',[],[]⟩
 have ok':Ok D c' n:=⟨X,TP,fun qq=>⟨rfl,rfl⟩,⟨F.kind,rfl,rfl,rfl,rfl⟩,rfl,by
  show(1+claimMargin)+1+n<recursionLimit
  have:claimMargin=300:=rfl
  have:recursionLimit=1000:=rfl
  exact Om.Pn hn ‹_› this,by
  show(4:Nat)+3+8*n+40<cLine
  have:cLine=9900:=rfl
  exact Om.Po hn this⟩
 have gr':Gr D c' s.heap:=⟨below_caller s.heap,X,TP,ktsDicts_nil,uV⟩
 have gno:s.heap.get? (L'+1)=none:=vW (cV _)
 have Fl:Fr s.heap L' h₁ (fun y=>if y=pn then some v0 else none):=⟨hns,fun b o e=>hk₁ b o e,az _⟩
 have N2:News s.heap L' h₁ ((L'+1,oc0)::(flat []++c'.X)):=fun p hp=>by
  obtain rfl:=dU.mp hp
  exact⟨hce,J6 _,gno⟩
 have hbd:eX D ([]++[L'+1]) [(pn,SV.val v0)] (fun y=>if y=pn then some v0 else none):=fun x y e=>by
  rw[b6] at e
  by_cases h:x=pn
  ·rw[if_pos h] at e;cases e;exact⟨v0,if_pos h,rfl⟩
  ·rw[if_neg h] at e;cases e
 have a':At ⟨D,T,n,i.scope,fun qq qq qq=>False,[],[],[],[(n0,0)],true⟩ c' ([]++[L'+1]) ⟨[(pn,.val v0)],.b [.cell af],[]⟩ {s with heap:=h₁,toks:=s.toks+1}:=⟨⟨⟨_,Led.new (c:=c') (g:=s.heap) (ρ:=[]) (ls:=[]) (os:=[]) rfl .nil CT gr' Fl N2 (fun p hp=>Om.nm hp) (vh.mk oc0 af rfl rfl (show pT D _ af af from rfl)),hbd⟩,⟨ki _,htp.1,htp.2⟩,fun f hf=>Om.nm hf⟩,rfl,ok',tk,fun p hp=>Om.nm hp,fun x hx=>(by
  obtain rfl:=dU.mp hx
  exact⟨L'+1,Cg,rfl⟩),fun qq=>⟨rfl,fun h=>absurd h F.vm⟩⟩
 refine wpAny_mono (hb c' _ _ a') (fun fl s3 z=>?_) fun qq qq z=>z.elim
 obtain⟨rfl,ρ3,σ3,⟨m3,⟨ls3,ad3,hL3,nd3,g3,gr3,F3,N3⟩,_⟩,tp3,_⟩:=z
 exact⟨_,rfl,rfl,fun b o hb=>F3.keep b o (gr3.B.stays b o hb),tp3⟩
end
end Ex
end
section
namespace Lw
open Ex Tb
noncomputable section
noncomputable def i8 (n:Str) (σ:SS):Nat:=match lk n σ.loc with
 |some (.obj i)=>i
 |_=>0
noncomputable def BP (W0:Wd) (f n:Nat) (kd:SV) (fl:Fl) (σ:SS):Tr:=match fl with
 |.next=>@aj (fun qq=>Tr) .ff .tt (t7 W0 (xD f) (objE f n kd) (Bt σ (aB f 9) 60 [i8 (s "t") σ,i8 (s "u") σ] [i8 (s "t") σ,i8 (s "u") σ]) σ)
 |_=>.ff
noncomputable def gh (r:Row) (n:Nat):Nat:=@aj (fun qq=>Nat) n (n+1) (bg r.aR (s "new"))
noncomputable def head (W0:Wd) (st:Nat) (r:Row) (n:Nat) (kd:SV):Tr:=(cY (ex 60 (GH (WS W0))) qN (stH st r n kd) (BP W0 r.follow (gh r n) kd)).t
end
end Lw
end
section
namespace Lw
open Ex Tb
noncomputable section
noncomputable abbrev lS (i:Nat):Stmt:=aV iU.body i
noncomputable abbrev gP (W:Wd):Gx:=⟨WS W,T,20,iU.scope,fun qq qq qq=>False,[],[],[],[(s "mix",0)],true⟩
theorem um(W:Wd):bE (gP W):=⟨fun x hx=>Om.nm hx,kT W,fun x hx=>Om.nm hx,fun x hx=>Om.nm hx,fun qq qq qq h=>h⟩
theorem noK{e:Value}{ρ:List Addr}{os:SS}:¬(fun(_:Value) (_:List Addr) (_:SS)=>False) e ρ os:=fun h=>h
noncomputable abbrev c0 (m:Option SV):List SO:=[.cell m]
noncomputable abbrev abK (e:Expr):List Expr:=eK e
noncomputable abbrev kid (e:Expr) (i:Nat):Expr:=(abK e).getD i e
noncomputable abbrev aE (i:Nat):Expr:=bQ (lS i)
noncomputable abbrev I3 (e:Expr):Expr:=dY e 0
noncomputable abbrev I4 (e:Expr):Expr:=dY e 1
theorem abM:lS 0=.Assign [.Name (s "way") (fT (lS 0))] (.IfExp (.Name (s "script") (kid (aE 0) 0).pos) (.Subscript (.Name (s "script") (kid (kid (aE 0) 1) 0).pos) (.Constant (.int 0) 0 (kid (kid (aE 0) 1) 1).pos) (kid (aE 0) 1).pos) (.Constant (.int 0) 0 (kid (aE 0) 2).pos) (aE 0).pos) (lS 0).pos:=by kernel_rfl
theorem v1(W:Wd)(w:Int)(X:List (Str×SV))(K:Fl→SS→Prop):gy (gP W) (lS 1) ⟨(s "way",.si w)::X,.b (c0 none),[]⟩ K=(K .next ⟨(s "state",.si (w.fmod 5))::(s "way",.si w)::X,.b (c0 none),[]⟩∧True):=by kernel_rfl
theorem v2(W:Wd)(w u:Int)(X:List (Str×SV))(K:Fl→SS→Prop):gy (gP W) (lS 2) ⟨(s "state",.si u)::(s "way",.si w)::X,.b (c0 none),[]⟩ K=(false=false∧K .next ⟨(s "count",.si ((w.fdiv 5).fmod 4))::(s "state",.si u)::(s "way",.si w)::X,.b (c0 none),[]⟩∧True):=by kernel_rfl
theorem v3(W:Wd)(u c:Int)(X:List (Str×SV))(K:Fl→SS→Prop):gy (gP W) (lS 3) ⟨(s "count",.si c)::(s "state",.si u)::X,.b (c0 none),[]⟩ K=fk (decide (c=0))
 (fk (jJ u [1,2,3]) (K .next ⟨(s "count",.int 2)::(s "count",.si c)::(s "state",.si u)::X,.a (.b (c0 none)) (.tup [.int 1,.int 2,.int 3]),[]⟩∧True) (K .next ⟨(s "count",.si c)::(s "state",.si u)::X,.a (.b (c0 none)) (.tup [.int 1,.int 2,.int 3]),[]⟩∧True))
 (K .next ⟨(s "count",.si c)::(s "state",.si u)::X,.b (c0 none),[]⟩∧True):=by kernel_rfl
noncomputable def ed (ns:List Int):Int:=ns.headD 0
noncomputable def ee (ns:List Int):Int:=(ed ns).fmod 5
noncomputable def fh (ns:List Int):Int:=@aj (fun qq=>Int) (((ed ns).fdiv 5).fmod 4) (@aj (fun qq=>Int) (((ed ns).fdiv 5).fmod 4) 2 (jJ (ee ns) [1,2,3])) (decide (((ed ns).fdiv 5).fmod 4=0))
noncomputable def qO (ns:List Int):Int:=(ed ns).fdiv 20+(fF ns).sum
theorem aD.pk{D:Wd}{L L':List (Str×SV)}{o:OL}(h:∀p∈L',∃z,lk p.1 L=some z∧gY D z p.2):aD D ⟨L,o,[]⟩ ⟨L',o,[]⟩:=aD.to (fun f hf=>Om.nm hf) fun x y e=>h (x,y) (eU e)
theorem ay{α:Type}{P:α→Prop}{a:α}{l:List α}(h:P a)(q:∀p∈l,P p):∀p∈a::l,P p:=fun p hp=>(bV.mp hp).elim (fun e=>e▸h) (q p)
theorem dS{α:Type}{P:α→Prop}:∀p∈([]:List α),P p:=fun p hp=>by cases hp
noncomputable abbrev L4 (a:Addr) (u w c:Int):List (Str×SV):=[(s "script",.val (.ref a)),(s "state",.si u),(s "way",.si w),(s "count",.si c)]
theorem abN{W:Wd}{a:Addr}{ns:List Int}(hs:m8 W.K a ns)(hl:ns.length≤1000){rest:List Stmt}(k:∀os:OL,os.list[0]? =some (.cell none)→Fin (gP W) rest ⟨L4 a (ee ns) (ed ns) (fh ns),os,[]⟩):
 Fin (gP W) (lS 0::lS 1::lS 2::lS 3::rest) ⟨[(s "script",.val (.ref a))],.b (c0 none),[]⟩:=by
 have fin:∀(X:List (Str×SV)) (os:OL) (c:SV),os.list[0]? =some (.cell none)→gY (WS W) c (.si (fh ns))→lk (s "count") X=some c→lk (s "state") X=some (.si (ee ns))→lk (s "way") X=some (.si (ed ns))→lk (s "script") X=some (.val (.ref a))→Fin (gP W) rest ⟨X,os,[]⟩:=fun X os c h0 hc h1 h2 h3 h4=>
  Fin.less (G:=gP W) (aD.pk (ay ⟨_,h4,fun qq qq r=>r⟩ (ay ⟨_,h2,fun qq qq r=>r⟩ (ay ⟨_,h3,fun qq qq r=>r⟩ (ay ⟨_,h1,hc⟩ dS))))) (k os h0)
 refine Fin.step (fun qq qq qq h=>h) ?_
 rw[abM]
 refine gR (bL rfl) (by kernel_rfl) (abH (ns:=ns) hs hl (by kernel_rfl) (by kernel_rfl) (by kernel_rfl) ?_)
 refine Fin.step (fun qq qq qq h=>h) (iZ (um W) ?_)
 rw[v1]
 refine⟨Fin.step (fun qq qq qq h=>h) (iZ (um W) ?_),trivial⟩
 rw[v2]
 refine⟨rfl,Fin.step (fun qq qq qq h=>h) (iZ (um W) ?_),trivial⟩
 rw[v3]
 refine⟨fun e=>⟨fun e2=>⟨?_,trivial⟩,fun e2=>⟨?_,trivial⟩⟩,fun e=>⟨?_,trivial⟩⟩
 ·refine fin _ _ (.int 2) (by kernel_rfl) (fun ρ v r=>?_) (by kernel_rfl) (by kernel_rfl) (by kernel_rfl) (by kernel_rfl)
  have:fh ns=2:=by unfold fh ee ed;rw[e,e2]
  rw[this];exact r
 ·refine fin _ _ (.si (((ns.headD 0).fdiv 5).fmod 4)) (by kernel_rfl) (fun ρ v r=>?_) (by kernel_rfl) (by kernel_rfl) (by kernel_rfl) (by kernel_rfl)
  have:fh ns=((ns.headD 0).fdiv 5).fmod 4:=by unfold fh ee ed;rw[e,e2]
  rw[this];exact r
 ·refine fin _ _ (.si (((ns.headD 0).fdiv 5).fmod 4)) (by kernel_rfl) (fun ρ v r=>?_) (by kernel_rfl) (by kernel_rfl) (by kernel_rfl) (by kernel_rfl)
  have:fh ns=((ns.headD 0).fdiv 5).fmod 4:=by unfold fh ed;rw[e]
  rw[this];exact r
theorem abO:lS 4=.Assign [.Name (s "mix") (fT (lS 4))] (.BinOp (.BinOp (.Name (s "way") (kid (kid (aE 4) 0) 0).pos) .FloorDiv (.Constant (.int 20) 0 (kid (kid (aE 4) 0) 1).pos) (kid (aE 4) 0).pos) .Add (.Call (.Name (s "sum") (kid (kid (aE 4) 1) 0).pos) [.Subscript (.Name (s "script") (kid (kid (kid (aE 4) 1) 1) 0).pos) (.Slice (some (.Constant (.int 1) 0 (I3 (kid (kid (kid (aE 4) 1) 1) 1)).pos)) (some (.Constant (.int 11) 0 (I4 (kid (kid (kid (aE 4) 1) 1) 1)).pos)) none (kid (kid (kid (aE 4) 1) 1) 1).pos) (kid (kid (aE 4) 1) 1).pos] [] (kid (aE 4) 1).pos) (aE 4).pos) (lS 4).pos:=by kernel_rfl
theorem j6{G:Gx}{i:Int}{k:Nat}{pos:Pos}{σ:SS}{K:SV→SS→Prop}(h:K (.int i) σ):aq G (.Constant (.int i) k pos) σ K:=fun c ρ s qq a qq=>wpAny_Constant_int (a.t1.give (V:=VR _) (x:=.int i) (pr _) ⟨_,rfl⟩ h)
theorem gu{e:Expr}{l:List Expr}(h:(jK e).isSome=true)(q:c5 l):c5 (e::l):=fun t ht=>(bV.mp ht).elim (fun e=>e▸(bL h).star) (q t)
theorem jo{x y:SV}{i:Int}:bc (Ex.stI x y i) i:=fun{W ρ v} r=>by
 unfold Ex.stI at r
 cases h:cF x y<;>rw[h] at r<;>exact r
theorem abP{W:Wd}{a:Addr}{ns:List Int}(hs:m8 W.K a ns)(hl:ns.length≤1000){u c:Int}{os:OL}(h0:os.list[0]? =some (.cell none)){rest:List Stmt}(k:∀os:OL,os.list[0]? =some (.cell (some (.si (qO ns))))→Fin (gP W) rest ⟨L4 a u (ed ns) c,os,[]⟩):
 Fin (gP W) (lS 4::rest) ⟨L4 a u (ed ns) c,os,[]⟩:=by
 refine Fin.step (fun qq qq qq h=>h) ?_
 rw[abO]
 refine Ez (i:=0) (bL rfl) (by kernel_rfl) (by kernel_rfl) (gO (gO (c9 (x:=.si (ed ns)) (by kernel_rfl) (by kernel_rfl) (by kernel_rfl) (j6 (sy (a:=ed ns) (b:=20) (fun r=>r) (fun r=>r) rfl (by kernel_rfl) ?_)))))
 refine zH (by kernel_rfl) (by kernel_rfl) (gu rfl fun t ht=>Om.nm ht) (dP (bL rfl).star (I1 (ns:=ns) hs hl (by kernel_rfl) (by kernel_rfl) (by kernel_rfl) (fP (abG (OL.jT _ _) (zj (a:=(ed ns).fdiv 20) (b:=(fF ns).sum) jo (fun r=>r) ⟨⟨none,?_⟩,k _ ?_⟩)))))
 ·show(snoc os.list _)[0]? =_
  exact d9 h0
 ·show(aL (snoc os.list _) 0 _)[0]? =_
  rw[kE,if_pos rfl,if_pos (dg.mp (d9 (x:=_) h0)).1];rfl
end
end Lw
end
section
namespace Lw
open Ex Tb
noncomputable section
noncomputable def xN (G:Gx) (e:Expr) (σ:SS) (K:SV→SS→Prop):Prop:=((ex 60 G).E e σ fun x σ'=>.pr (K x σ') .tt).t.h
theorem BQ{G:Gx}(g:bE G){e:Expr}{σ:SS}{K:SV→SS→Prop}(h:xN G e σ K):aq G e σ K:=(((ex 60 G).E e σ fun x σ'=>.pr (K x σ') .tt).ok h g).mp fun qq qq z=>z.1
theorem abQ:lS 5=.Assign [.Name (s "kind") (fT (lS 5))] (.IfExp (.BinOp (.Name (s "mix") (kid (kid (aE 5) 0) 0).pos) .Mod (.Constant (.int 2) 0 (kid (kid (aE 5) 0) 1).pos) (kid (aE 5) 0).pos) (kid (aE 5) 1) (kid (aE 5) 2) (aE 5).pos) (lS 5).pos:=by kernel_rfl
theorem v5a(W:Wd)(σ:SS)(K:SV→SS→Prop):xN (gP W) (kid (aE 5) 1) σ K=(K (.int 4) σ∧True):=by kernel_rfl
theorem v5b(W:Wd)(σ:SS)(K:SV→SS→Prop):xN (gP W) (kid (aE 5) 2) σ K=(K (.int 3) σ∧True):=by kernel_rfl
noncomputable def BS:List Str:=[s "p",s "DIV",s "Éx",s "b\uFFFDR"]
noncomputable def uo:List Str:=[s "a",s "B",s "a",s "b"]
theorem abT:lS 6=.Assign [.Name (s "name") (fT (lS 6))] (.Subscript (.List [.Constant (.str (s "p")) 0 (kid (kid (aE 6) 0) 0).pos,.Constant (.str (s "DIV")) 0 (kid (kid (aE 6) 0) 1).pos,.Constant (.str (s "Éx")) 0 (kid (kid (aE 6) 0) 2).pos,.Constant (.str (s "b\uFFFDR")) 0 (kid (kid (aE 6) 0) 3).pos] (kid (aE 6) 0).pos) (.BinOp (.BinOp (.Name (s "mix") (kid (kid (kid (aE 6) 1) 0) 0).pos) .FloorDiv (.Constant (.int 2) 0 (kid (kid (kid (aE 6) 1) 0) 1).pos) (kid (kid (aE 6) 1) 0).pos) .Mod (.Constant (.int 4) 0 (kid (kid (aE 6) 1) 1).pos) (kid (aE 6) 1).pos) (aE 6).pos) (lS 6).pos:=by kernel_rfl
theorem abU:lS 7=.Assign [.Name (s "flag") (fT (lS 7))] (.Compare (.BinOp (.BinOp (.Name (s "mix") (kid (kid (kid (aE 7) 0) 0) 0).pos) .FloorDiv (.Constant (.int 3) 0 (kid (kid (kid (aE 7) 0) 0) 1).pos) (kid (kid (aE 7) 0) 0).pos) .Mod (.Constant (.int 2) 0 (kid (kid (aE 7) 0) 1).pos) (kid (aE 7) 0).pos) [.Eq] [.Constant (.int 1) 0 (kid (aE 7) 1).pos] (aE 7).pos) (lS 7).pos:=by kernel_rfl
theorem I5{G:Gx}{σ:SS}{K:SV→SS→Prop}{i:Nat}{ys:List Str}{y:SV}{j:Int}{oe ie:Expr}(hs:cG ie)(ho:σ.objs.list[i]? =some (.list none (ys.map .str)))(hy:bc y j)(hz:ys.length≤1000)(h0:0≤j)(h1:j<ys.length)(k:K (.str (ys.getD j.toNat ⟨#[]⟩)) σ):aC G (subscriptTail oe ie) (.obj i) y σ K:=by
 have hj:j.toNat<ys.length:=by exact Om.DH h0 h1
 exact zq hs ho (Eo hy ho h0 (by exact Om.Pp hz h1) (by rw[rF,kc,iD hj];rfl) k)
theorem j7(x:Int):0≤x.fmod 4∧x.fmod 4<4:=⟨JQ x (by decide),J2 x (by decide)⟩
noncomputable def kdOf (m:Int):Int:=@aj (fun qq=>Int) 3 4 (!decide (m.fmod 2=0))
noncomputable def qP (m:Int):Str:=BS.getD ((m.fdiv 2).fmod 4).toNat ⟨#[]⟩
noncomputable def qQ (m:Int):Bool:=decide ((m.fdiv 3).fmod 2=1)
noncomputable abbrev L8 (a:Addr) (u c kd:Int) (nm:Str) (fl:Bool):List (Str×SV):=[(s "script",.val (.ref a)),(s "state",.si u),(s "count",.si c),(s "kind",.int kd),(s "name",.str nm),(s "flag",.sb fl)]
theorem lI{n:Str}{x:SV}{l:List (Str×SV)}:lk n ((n,x)::l)=some x:=by rw[b6,if_pos rfl]
theorem abV{W:Wd}{ρ:List Addr}{st b:Bool}{v:Value}(r:VR W ρ (bo st b) v):v=.bool b:=by cases st<;>exact r
theorem xO{W:Wd}{cs:bW}{n:Nat}{fr:Bool}{σ:SS}{m:Int}{p:Pos}{K:SV→SS→Prop}(hn:lk (s "mix") cs.names=some .cell)(h0:σ.objs.list[0]? =some (.cell (some (.si m))))(k:K (.si m) σ):aq (⟨W,T,n,cs,fun qq qq qq=>False,[],[],[],[(s "mix",0)],fr⟩:Gx) (.Name (s "mix") p) σ K:=Es (i:=0) (by kernel_rfl) hn (by kernel_rfl) h0 k
theorem abW{W:Wd}{a:Addr}{u w c m:Int}{os:OL}(h0:os.list[0]? =some (.cell (some (.si m)))){rest:List Stmt}(k:∀os:OL,os.list[0]? =some (.cell (some (.si m)))→Fin (gP W) rest ⟨L8 a u c (kdOf m) (qP m) (qQ m),os,[]⟩):
 Fin (gP W) (lS 5::lS 6::lS 7::rest) ⟨L4 a u w c,os,[]⟩:=by
 have go:∀kd:Int,kd=kdOf m→m9 (gP W) (lS 6::lS 7::rest) .next ⟨(s "kind",.int kd)::L4 a u w c,os,[]⟩:=fun kd hk=>by
  refine Fin.step (fun qq qq qq h=>h) ?_
  rw[abT]
  refine gR (bL rfl) (by kernel_rfl) (p9 (vQ (dP (bL rfl).star (iX (dP (bL rfl).star (iX (dP (bL rfl).star (iX (dP (bL rfl).star (iX (fP ⟨rfl,?_⟩)))))))))))
  have h1:(OL.a os (.list none [.str (s "p"),.str (s "DIV"),.str (s "Éx"),.str (s "b\uFFFDR")])).list[0]? =some (.cell (some (.si m))):=d9 h0
  refine gO (gO (xO (by kernel_rfl) h1 (j6 (sy (a:=m) (b:=2) (fun r=>r) (fun r=>r) rfl (by kernel_rfl) (j6 (p6 (a:=m.fdiv 2) (b:=4) jo (fun r=>r) rfl ?_))))))
  refine I5 (ys:=BS) (bL rfl) (OL.jT _ _) jo (by decide) (j7 _).1 (j7 _).2 ?_
  refine Fin.step (fun qq qq qq h=>h) ?_
  rw[abU]
  refine gR (bL rfl) (by kernel_rfl) (zw (fun qq=>rfl) (gO (gO (xO (by kernel_rfl) h1 (j6 (sy (a:=m) (b:=3) (fun r=>r) (fun r=>r) rfl (by kernel_rfl) (j6 (p6 (a:=m.fdiv 3) (b:=2) jo (fun r=>r) rfl (j6 (Eb (a:=(m.fdiv 3).fmod 2) (b:=1) jo (fun r=>r) ?_))))))))))
  refine Fin.less (G:=gP W) (aD.pk ?_) (k _ h1)
  refine ay ⟨_,by kernel_rfl,fun qq qq r=>r⟩ (ay ⟨_,by kernel_rfl,fun qq qq r=>r⟩ (ay ⟨_,by kernel_rfl,fun qq qq r=>r⟩ (ay ⟨.int kd,by kernel_rfl,fun qq qq r=>hk▸r⟩ (ay ⟨.str (qP m),by kernel_rfl,fun qq qq r=>r⟩ (ay ⟨_,lI,fun ρ v r=>abV r⟩ dS)))))
 refine Fin.step (fun qq qq qq h=>h) ?_
 rw[abQ]
 refine gR (bL rfl) (by kernel_rfl) (vB (zx (fun qq qq qq qq qq qq h=>isTrue_plain h rfl) (gO (xO (by kernel_rfl) h0 (j6 (p6 (a:=m) (b:=2) (fun r=>r) (fun r=>r) rfl (zk (i:=m.fmod 2) jo ?_)))))))
 show(_→_)∧(_→_)
 refine⟨fun e=>BQ (um W) ?_,fun e=>BQ (um W) ?_⟩
 ·rw[v5a]
  exact⟨go 4 (by unfold kdOf;rw[e]),trivial⟩
 ·rw[v5b]
  exact⟨go 3 (by unfold kdOf;rw[e]),trivial⟩
end
end Lw
end
section
namespace Ex
noncomputable section
section
variable{G:Gx}{σ:SS}
theorem abX{elt iter tgt:Expr}{y:Str}{py pos spos:Pos}{scope:bW}{cvk:List (Str×Nat)}{K:Fl→SS→Prop}(hline:(py.line==pos.line)=true)(hnm:(scope.names.any fun x=>x.1==y&&(x.2==.local||x.2==.cell))=false)(hy:lk y G.cs.names=some .local)(sc:qe G scope cvk)(hs:vL iter)
 (h:kL G iter σ fun S σ₁=>∃J n,Mk G scope cvk tgt elt σ₁.objs.length S J (fun σ=>K .next ⟨(y,.obj σ₁.objs.length)::σ₁.loc,σ.objs,σ.fa⟩)∧J n 0 ⟨[],OL.a σ₁.objs (.list af []),σ₁.fa⟩):
 bw G (.Assign [.Name y py] (.ListComp elt [⟨tgt,iter,[],0⟩] scope pos) spos) σ K:=fun c ρ s qq a qq=>by
 have hsw:swapsWith (.ListComp elt [⟨tgt,iter,[],0⟩] scope pos) (some (.Name y py)) spos.line c.env=pure true:=by
  show pure (c.env.blockKind==.function&&c.env.kindOf y==some .local&&py.line==pos.line&&!(scope.names.any fun x=>x.1==y&&(x.2==.local||x.2==.cell)))=_
  have h1:(c.env.blockKind==.function)=true:=by
   unfold Env.blockKind
   rw[a.ok.hk.kind];rfl
  have h2:(c.env.kindOf y==some .local)=true:=by rw[a.kind hy];rfl
  rw[h1,h2,hline,hnm];rfl
 show wpAny _ _ (exec (.Assign [.Name y py] (.ListComp elt [⟨tgt,iter,[],0⟩] scope pos) spos) c.env) _ _ s
 rw[exec_Assign_Name_used _ _ _ _ hsw]
 refine wpAny_bind (wpAny_standAt (wpAny_bind ?_))
 show wpAny _ _ (do let _ ←comprehension (.ListComp elt [⟨tgt,iter,[],0⟩] scope pos) scope c.env (firstIterPos [⟨tgt,iter,[],0⟩] pos) (newList []) false (eval iter c.env) (some (assign (.Name y py) c.env))) _ _ s
 refine wpAny_bind (wpAny_mono (Fd sc hs a (use:=some (assign (.Name y py) c.env)) (Q:=fun qq s'=>PB G c ρ K .next s') (P:=fun σ₅ j=>K .next ⟨(y,.obj j)::σ₅.loc,σ₅.objs,σ₅.fa⟩) h fun σ₅ j ρ' s' C oC D hP p R q hn hC=>?_) (fun qq s' hq=>wpAny_pure (wpAny_pure hq)) fun qq qq z=>z)
 show wpAny _ _ (assign (.Name y py) c.env (.ref D)) _ _ _
 obtain⟨m,hn⟩:=hn
 have aP:=a.plus p R
 refine assign_Name (vJ aP hy q fun s'' a''=>?_)
 have hC2:s''.heap.get? C=some oC:=a''.heap (p:=(C,oC)) (.head _)
 exact⟨m,hn.at' fun o e=>by rw[hC] at e;cases e;exact hC2,fun h' hs'=>⟨ρ',⟨(y,.obj j)::σ₅.loc,σ₅.objs,σ₅.fa⟩,.next,p,At.drop (own:=[]) (rr:=[]) a'' (fun b o hb e=>hs'.extBut b o hb e) (az _),rfl,hP⟩⟩
theorem abY{x:SV}{K:SV→SS→Prop}{i:Int}(hx:bc x i)(h0:0≤i)(h1:i<1000)(k:K (.ss (aa (toString i))) σ):bB G (.type "str") [x] σ K:=.one fun c ρ s v a r=>by
 obtain⟨t,rfl⟩:=hx r
 exact str_of_int_fit (N:=1000) (by rw[if_neg (by exact Om.Pq h0 h1)];exact h1) (by decide) fun qq=>a.t1.give (V:=VR G.D) (x:=.ss _) (pr _) ⟨_,rfl⟩ k
end
end
end Ex
end
section
namespace Lw
open Ex Tb
noncomputable section
noncomputable def oZ:Expr→Expr
 |.ListComp _ [⟨_,it,_,_⟩] _ _=>it
 |e=>e
noncomputable def qR:bW:=g9 (aE 8) iU.scope
noncomputable abbrev gj:Expr:=oK (aE 8)
theorem abZ:lS 8=.Assign [.Name (s "pairs") (fT (lS 8))] (.ListComp gj [⟨.Name (s "i") (tN (aE 8)),.Call (.Name (s "range") (kid (oZ (aE 8)) 0).pos) [.Name (s "count") (kid (oZ (aE 8)) 1).pos] [] (oZ (aE 8)).pos,[],0⟩] qR (aE 8).pos) (lS 8).pos:=by kernel_rfl
noncomputable def tP:Expr→Nat
 |.Tuple _ k _=>k
 |_=>0
noncomputable abbrev lJ:Expr:=kid (kid gj 0) 1
theorem ab0:gj=.Tuple [.Subscript (.List [.Constant (.str (s "a")) 0 (kid (kid (kid gj 0) 0) 0).pos,.Constant (.str (s "B")) 0 (kid (kid (kid gj 0) 0) 1).pos,.Constant (.str (s "a")) 0 (kid (kid (kid gj 0) 0) 2).pos,.Constant (.str (s "b")) 0 (kid (kid (kid gj 0) 0) 3).pos] (kid (kid gj 0) 0).pos)
 (.BinOp (.BinOp (.BinOp (.Name (s "mix") (kid (kid (kid lJ 0) 0) 0).pos) .FloorDiv (.Constant (.int 5) 0 (kid (kid (kid lJ 0) 0) 1).pos) (kid (kid lJ 0) 0).pos) .Add (.BinOp (.Name (s "i") (kid (kid (kid lJ 0) 1) 0).pos) .Mult (.Name (s "i") (kid (kid (kid lJ 0) 1) 1).pos) (kid (kid lJ 0) 1).pos) (kid lJ 0).pos) .Mod (.Constant (.int 4) 0 (kid lJ 1).pos) lJ.pos) (kid gj 0).pos,
 .Call (.Name (s "str") (kid (kid gj 1) 0).pos) [.Name (s "i") (kid (kid gj 1) 1).pos] [] (kid gj 1).pos] (tP gj) gj.pos:=by kernel_rfl
theorem ab1(W:Wd):qe (gP W) qR [(s "mix",0)]:=by
 have h:sM (gP W) qR=true:=by kernel_rfl
 have e:iS qR (gP W).cv=[(s "mix",0)]:=by kernel_rfl
 exact e▸v5 h
noncomputable def qS (m:Int) (i:Nat):Str:=uo.getD ((m.fdiv 5+(i:Int)*(i:Int)).fmod 4).toNat ⟨#[]⟩
noncomputable def iB (i:Nat):Str:=aa (toString (i:Int))
structure nc (os:OL) (m:Int) (j i:Nat) (ts:List Nat):Prop where
 l:os.list[j]? =some (SO.list none (ts.map SV.obj))
 t:∀k t:Nat,ts[k]? =some t→os.list[t]? =some (SO.tup [.str (qS m k),.ss (iB k)])
 n:(j::ts).Nodup
 z:ts.length=i
 c:os.list[0]? =some (SO.cell (some (.si m)))
 p:0<j
 g:∀t∈ts,0<t
theorem ab2{i:Nat}(h:i<4):IntMulOk (i:Int) (i:Int):=by
 have:i=0∨i=1∨i=2∨i=3:=by exact Om.Pr h
 rcases this with rfl|rfl|rfl|rfl<;>exact IntMulOk.of_left (by decide)
theorem ab3{W:Wd}{a:Addr}{u c kd:Int}{nm:Str}{fl:Bool}{os:OL}{R:Src→SS→Prop}(h0:0≤c)(h3:c≤3)(h:R (qB 0 c.toNat) ⟨L8 a u c kd nm fl,os,[]⟩):kL (gP W) (.Call (.Name (s "range") (kid (oZ (aE 8)) 0).pos) [.Name (s "count") (kid (oZ (aE 8)) 1).pos] [] (oZ (aE 8)).pos) ⟨L8 a u c kd nm fl,os,[]⟩ R:=by
 refine Ih (by kernel_rfl) (by kernel_rfl) (gu rfl fun t ht=>Om.nm ht) (dP (bL rfl).star (c9 (x:=.si c) (by kernel_rfl) (by kernel_rfl) (by kernel_rfl) (fP ⟨0,c,.one _ rfl rfl (fun r=>r),by decide,by decide,by exact Om.Pu h0 h3,by exact Om.Pw h0 h3,?_⟩)))
 have e:c-0=c:=by exact Om.Px
 rw[e];exact h
set_option tactic.hygienic true in
theorem ab4{W:Wd}{m:Int}{N j:Nat}(hN:N≤3){P:SS→Prop}(hP:∀os ts,nc os m j N ts→P ⟨[],os,[]⟩):Mk (gP W) qR [(s "mix",0)] (.Name (s "i") (tN (aE 8))) gj j (qB 0 N) (fun n i σ=>n=N-i∧i≤N∧∃os ts,σ=⟨[],os,[]⟩∧nc os m j i ts) P:=by
 refine⟨fun n i σ ⟨hn,hi,os,ts,e,h⟩=>?_⟩
 subst e hn
 refine⟨_,rfl,?_⟩
 by_cases hlt:i<N
 ·rw[Bd hlt]
  refine jL (by kernel_rfl) ?_
  rw[ab0]
  have e0:(0:Int)+(i:Int)=(i:Int):=by exact Om.Py
  rw[e0]
  refine zI (dP (bL rfl).star (p9 (vQ (dP (bL rfl).star (iX (dP (bL rfl).star (iX (dP (bL rfl).star (iX (dP (bL rfl).star (iX (fP ⟨rfl,?_⟩))))))))))))
  have h1:(OL.a os (.list none (uo.map .str))).list[0]? =some (.cell (some (.si m))):=d9 h.c
  have nI:∀{p:Pos} {K:SV→SS→Prop} {σ:SS},lk (s "i") σ.loc=some (.si (i:Int))→K (.si (i:Int)) σ→aq ((gP W).comp qR [(s "mix",0)]) (.Name (s "i") p) σ K:=fun h k=>c9 (by kernel_rfl) (by kernel_rfl) h k
  refine gO (gO (gO (xO (by kernel_rfl) h1 (j6 (sy (a:=m) (b:=5) (fun r=>r) (fun r=>r) rfl (by kernel_rfl) (gO (nI lI (nI lI (Ej (a:=i) (b:=i) (fun r=>r) (fun r=>r) (ab2 (by exact Om.PA hN hlt)) (zj (a:=m.fdiv 5) (b:=(i:Int)*i) jo jo (j6 (p6 (a:=m.fdiv 5+(i:Int)*i) (b:=4) jo (fun r=>r) rfl ?_))))))))))))
  refine I5 (ys:=uo) (bL rfl) (OL.jT _ _) jo (by decide) (j7 _).1 (j7 _).2 ?_
  refine dP (bL rfl).star (F8 (by kernel_rfl) (by kernel_rfl) (gu rfl fun t ht=>Om.nm ht) (dP (bL rfl).star (nI lI (fP (abY (i:=i) (fun r=>r) (by exact Om.PC) (by exact Om.PD hN hlt) (fP ⟨rfl,?_⟩))))))
  let os2:OL:=OL.a os (.list none (uo.map .str))
  let os3:OL:=OL.a os2 (.tup [.str (qS m i),.ss (iB i)])
  have hl3:os3.list[j]? =some (.list none (ts.map .obj)):=d9 (d9 h.l)
  have hlen:os2.length=os.length+1:=rfl
  have lt_of:∀{k:Nat} {o:SO},os.list[k]? =some o→k<os.length:=fun e=>by rw[OL.len_eq];exact(dg.mp e).1
  refine⟨none,ts.map .obj,hl3,fun us q=>?_,none,(ts++[os2.length]).map .obj,fun us ρ vs v q f r=>?_,N-(i+1),by exact Om.DI hlt,rfl,hlt,OL.s os3 j (.list none ((ts++[os2.length]).map .obj)),ts++[os2.length],rfl,⟨?_,fun k t hk=>?_,?_,?_,?_,h.p,?_⟩⟩
  ·obtain rfl:us=[]:=q
   rw[gE,h.z];show 0+i≤_;exact Om.PF hN hlt
  ·obtain rfl:us=[]:=q
   exact⟨[],vs++[v],rfl,rfl,by rw[cy];exact Each.app f (.one r)⟩
  ·show(aL os3.list j _)[j]? =_
   rw[kE,if_pos rfl,if_pos (dg.mp hl3).1]
  ·show(aL os3.list j _)[t]? =_
   rw[List.getElem?_append] at hk
   split at hk
   ·have h4:=h.t k t hk
    have hne:t≠j:=fun e=>by
     have:=cM.mp h.n
     exact this.1 (e▸fZ hk)
    rw[aS hne]
    exact d9 (d9 h4)
   ·rename_i hge
    have hz:=h.z
    have hk0:k=i:=by
     have:k-ts.length=0:=by
      cases q:k-ts.length with
      |zero=>rfl
      |succ q'=>rw[q] at hk;cases hk
     exact Om.PG hge hz this
    subst hk0
    rw[hz,nE] at hk
    cases hk
    have hne:os2.length≠j:=by have:=lt_of h.l;exact Om.PJ hlen this
    rw[aS hne]
    exact OL.jT os2 _
  ·have hn:=cM.mp h.n
   refine cM.mpr ⟨fun hm=>?_,pG.mpr ⟨hn.2,by simp,fun x hx y hy e=>?_⟩⟩
   ·rcases f7.mp hm with hm|hm
    ·exact hn.1 hm
    ·rw[dU] at hm
     have:=lt_of h.l;exact Om.DJ hlen hm this
   ·rw[dU] at hy
    obtain⟨k,hk⟩:=yk hx
    have:=lt_of (h.t k x hk)
    exact Om.PK hlen hy e this
  ·rw[bG,h.z];rfl
  ·show(aL os3.list j _)[0]? =_
   rw[aS (cU h.p)]
   exact d9 h1
  ·intro t ht
   rcases f7.mp ht with ht|ht
   ·exact h.g t ht
   ·rw[dU] at ht;exact Om.PM hlen ht
 ·have hN':i=N:=by exact Om.PN hi hlt
  subst hN'
  rw[Be (az _)]
  exact⟨_,rfl,hP os ts h⟩
theorem ab5{W:Wd}{a:Addr}{u c kd m:Int}{nm:Str}{fl:Bool}{os:OL}(h0:os.list[0]? =some (.cell (some (.si m))))(hc:0≤c)(h3:c≤3){rest:List Stmt}(k:∀(os:OL) (j:Nat) (ts:List Nat),nc os m j c.toNat ts→Fin (gP W) rest ⟨(s "pairs",.obj j)::L8 a u c kd nm fl,os,[]⟩):
 Fin (gP W) (lS 8::rest) ⟨L8 a u c kd nm fl,os,[]⟩:=by
 refine Fin.step (fun qq qq qq h=>h) ?_
 rw[abZ]
 refine abX (by kernel_rfl) (by kernel_rfl) (by kernel_rfl) (ab1 W) (fun qq qq=>rfl) (ab3 hc h3 ⟨_,c.toNat,ab4 (m:=m) (by exact Om.DK hc h3) (fun os ts h=>k os _ ts h),rfl,ef _,_,[],rfl,⟨OL.jT _ _,fun k t h=>(by cases h),by simp,rfl,d9 h0,?_,fun t h=>(by cases h)⟩⟩)
 show 0<os.length
 rw[OL.len_eq];exact(dg.mp h0).1
end
end Lw
end
section
namespace Lw
open Ex Tb
noncomputable section
noncomputable abbrev qT:Expr:=kid (aE 9) 1
noncomputable def uq:bW:=g9 qT iU.scope
noncomputable abbrev ng:Expr:=oK qT
noncomputable abbrev ur:Expr:=oZ qT
theorem ab6:lS 9=.Assign [.Name (s "text") (fT (lS 9))] (.Call (.Attribute (.Constant (.str (s "")) 0 (kid (kid (aE 9) 0) 0).pos) (s "join") (kid (aE 9) 0).pos) [.ListComp ng [⟨.Name (s "n") (tN qT),.Subscript (.Name (s "script") (kid ur 0).pos) (.Slice (some (.Constant (.int 1) 0 (I3 (kid ur 1)).pos)) (some (.Constant (.int 11) 0 (I4 (kid ur 1)).pos)) none (kid ur 1).pos) ur.pos,[],0⟩] uq qT.pos] [] (aE 9).pos) (lS 9).pos:=by kernel_rfl
theorem ab7:ng=.Subscript (.Name (s "_law_PIECES") (kid ng 0).pos) (.BinOp (.Name (s "n") (kid (kid ng 1) 0).pos) .Mod (.Constant (.int 24) 0 (kid (kid ng 1) 1).pos) (kid ng 1).pos) ng.pos:=by kernel_rfl
theorem ab8(W:Wd):qe (gP W) uq (iS uq [(s "mix",0)]):=v5 (G:=gP W) (by kernel_rfl)
noncomputable def pieceOf (n:Int):Str:=oz.getD (n.fmod 24).toNat ⟨#[]⟩
noncomputable def ju (ls:List Int):List Nat:=ls.flatMap fun n=>(pieceOf n).cps.toList
noncomputable def ck (ns:List Int):List Nat:=ju (fF ns)
theorem BU(x:Int):0≤x.fmod 24∧x.fmod 24<24:=⟨JQ x (by decide),J2 x (by decide)⟩
theorem I6(n:Int):pieceOf n∈oz:=by
 have h:=BU n
 have hl:=I0
 unfold pieceOf
 rw[kc,iD (by exact Om.PO h hl)]
 exact J9 _
theorem ab9(n:Int):(pieceOf n).cps.toList.length≤4:=by
 have h:=bH.mp IZ _ (I6 n)
 rw[aY] at h
 exact ao h.1
theorem acd(ls:List Int):(ju ls).length≤4*ls.length:=by
 induction ls with
 |nil=>exact az _
 |cons n ls ih=>
  show(Kz _ _).length≤_
  rw[Cp,bG,jA]
  have:=ab9 n
  have ih:(Kz (fun n=>(pieceOf n).cps.toList) ls).length≤4*ls.length:=ih
  exact Om.PR this ih
theorem I7(ns:List Int):(fF ns).length≤10:=by unfold fF;rw[lN];exact Om.PS
theorem xP(ns:List Int):(ck ns).length≤40:=by
 have h1:=acd (fF ns)
 have h2:=I7 ns
 unfold ck
 exact Om.PV h1 h2
noncomputable def Keeps (os os':OL):Prop:=∀(k:Nat) (o:SO),os.list[k]? =some o→os'.list[k]? =some o
theorem nc.keep{os os':OL}{m:Int}{j i:Nat}{ts:List Nat}(h:nc os m j i ts)(k:Keeps os os'):nc os' m j i ts:=⟨k _ _ h.l,fun a t e=>k _ _ (h.t a t e),h.n,h.z,k _ _ h.c,h.p,h.g⟩
noncomputable def Jl (l:List Int) (i:Nat) (o:SO):Prop:=(i=0∧o=.list none [])∨o=.list (some (.txt (ju (l.take i)) i)) []
theorem ace{W:Wd}{l:List Int}{os0:OL}{j p:Nat}(hp:os0.list[p]? =some (.list none (l.map .si)))(hj:os0.length=j)(hl:l.length≤10){P:SS→Prop}(hP:∀os o,Keeps os0 os→os.list[j]? =some o→Jl l l.length o→P ⟨[],os,[]⟩):
 Mk (gP W) uq (iS uq [(s "mix",0)]) (.Name (s "n") (tN qT)) ng j (vV p) (fun n i σ=>n=l.length-i∧i≤l.length∧∃os o,σ=⟨[],os,[]⟩∧Keeps os0 os∧os.list[j]? =some o∧Jl l i o) P:=by
 refine⟨fun n i σ ⟨hn,hi,os,o,e,hk,ho,hJ⟩=>?_⟩
 subst e hn
 have hp':=hk _ _ hp
 refine⟨(l.map SV.si)[i]?,?_,?_⟩
 ·show sJ p _ i=_
  unfold sJ
  show(match OL.get os p with|some (.list p xs)=>_|_=>_)=_
  rw[OL.get_eq,hp']
  show some (at? _ _)=_
  rw[kC]
 ·rw[rF]
  cases e0:l[i]? with
  |none=>
   have hi':i=l.length:=by have:=pB.mp e0;exact Om.PW hi this
   subst hi'
   exact⟨_,rfl,hP os o hk ho hJ⟩
  |some z=>
   have hlt:i<l.length:=(dg.mp e0).1
   have et:ju (l.take (i+1))=ju (l.take i)++(pieceOf z).cps.toList:=by
    unfold ju
    rw[Co,e0,nB];simp
   have hn:∀X,Keeps os0 (OL.s os j X):=fun X k o h=>by
    show(aL os.list j X)[k]? =_
    have:k<os0.length:=by rw[OL.len_eq];exact(dg.mp h).1
    rw[aS (by exact Om.PY hj this)]
    exact hk _ _ h
   have hnew:∀X,(OL.s os j X).list[j]? =some X:=fun X=>by
    show(aL os.list j X)[j]? =_
    rw[kE,if_pos rfl,if_pos (dg.mp ho).1]
   refine jL (by kernel_rfl) ?_
   rw[ab7]
   refine p9 (kH (v:=.ref 767) (by kernel_rfl) (by kernel_rfl) (gO (c9 (x:=.si z) (by kernel_rfl) (by kernel_rfl) lI (j6 (p6 (a:=z) (b:=24) (fun r=>r) (fun r=>r) rfl ?_)))))
   have h24:((oz.length:Nat):Int)=24:=by rw[I0];rfl
   refine GP (ss:=oz) (j:=z.fmod 24) (bL rfl) (by kernel_rfl) (by kernel_rfl) jo (BU z).1 (by rw[h24];exact(BU z).2) ?_
   have strs_one:∀t,StrsAre [pM (pieceOf z) t] [pieceOf z]:=fun t=>.cons _ _ .nil
   rcases hJ with⟨rfl,rfl⟩|rfl
   ·refine⟨none,[],ho,fun us q=>?_,some (.txt (ju (l.take (0+1))) (0+1)),[],fun us ρ vs v q f r=>?_,l.length-(0+1),by exact Om.PZ hl hlt,rfl,hlt,_,_,rfl,hn _,hnew _,.inr rfl⟩
    ·obtain rfl:us=[]:=q
     decide
    ·obtain rfl:us=[]:=q
     cases f
     obtain⟨t',rfl⟩:=r
     exact⟨[.str (pieceOf z) t'],[],rfl,⟨[pieceOf z],strs_one t',by rw[et];simp[ju],az _⟩,.nil⟩
   ·refine⟨_,[],ho,fun us ⟨_,_,_,q⟩=>?_,some (.txt (ju (l.take (i+1))) (i+1)),[],fun us ρ vs v q f r=>?_,l.length-(i+1),by exact Om.DI hlt,rfl,hlt,_,_,rfl,hn _,hnew _,.inr rfl⟩
    ·show us.length+0≤_
     exact Om.P4 hl hlt q
    ·obtain⟨ys,h1,h2,h3⟩:=q
     cases f
     obtain⟨t',rfl⟩:=r
     exact⟨us++[.str (pieceOf z) t'],[],by rw[dW];rfl,⟨ys++[pieceOf z],Aw h1 (strs_one t'),by rw[et,nB,h2];simp,by rw[bG];exact jz h3⟩,.nil⟩
theorem acf{W:Wd}{a:Addr}{ns:List Int}(hs:m8 W.K a ns)(hl:ns.length≤1000){X:List (Str×SV)}(hx:lk (s "script") X=some (.val (.ref a))){os:OL}{rest:List Stmt}(k:∀os',Keeps os os'→Fin (gP W) rest ⟨(s "text",.ss (ai (ck ns)))::X,os',[]⟩):
 Fin (gP W) (lS 9::rest) ⟨X,os,[]⟩:=by
 refine Fin.step (fun qq qq qq h=>h) ?_
 rw[ab6]
 refine gR (bL rfl) (by kernel_rfl) (sG (fun qq qq qq=>rfl) (by kernel_rfl) (fun u hu=>by rw[dU] at hu;subst hu;exact fun qq qq=>rfl) rfl (iX (nY .join (a:=⟨#[]⟩) (fun{_ _ _} r=>r) (fun u hu=>by rw[dU] at hu;subst hu;exact fun qq qq=>rfl) (dP (fun qq qq=>rfl) (zL (ab8 W) (fun qq qq=>rfl) (F7 (I1 (ns:=ns) hs hl (by kernel_rfl) (by kernel_rfl) hx (.l os.length none ((fF ns).map .si) rfl (OL.jT _ _) ?_))))))))
 have hk0:Keeps os (OL.a os (.list none ((fF ns).map .si))):=fun k o h=>d9 h
 have hlen:=I7 ns
 have hcl:=xP ns
 refine⟨_,(fF ns).length,ace (os0:=OL.a os (.list none ((fF ns).map .si))) (OL.jT _ _) rfl hlen (fun os' o hk ho hJ=>fP ?_),rfl,ef _,_,_,rfl,fun k o h=>d9 h,OL.jT _ _,.inl ⟨rfl,rfl⟩⟩
 have fin:∀t:Str,t.cps.toList=ck ns→m9 (gP W) rest .next ⟨(s "text",.ss t)::X,os',[]⟩:=fun t ht=>by
  have:t=ai (ck ns):=gT ht
  rw[this]
  exact k os' fun a b h=>hk _ _ (hk0 _ _ h)
 rcases hJ with⟨h0,rfl⟩|rfl
 ·refine zU (a:=⟨#[]⟩) (xs:=[]) (ys:=[]) (fun{_ _ _} r=>r) ho (fun{_ _ _} r=>by cases r;exact .nil) (by decide) (fin _ ?_)
  unfold ck
  rw[pq h0]
  exact wV []
 ·have et:ju ((fF ns).take (fF ns).length)=ck ns:=by rw[Cu];rfl
  refine A5 (s:=ju ((fF ns).take (fF ns).length)) (k:=(fF ns).length) (fun{_ _ _} r=>r) ho (by rw[et];exact Om.P5 hcl) (by exact Om.P6 hlen) (fin _ ?_)
  exact et
end
end Lw
end
section
namespace Lw
open Ex Tb
noncomputable section
noncomputable abbrev gQ (W:Wd):Gx:=⟨WS W,T,20,iU.scope,fun qq qq qq=>False,[],[],[],[],false⟩
theorem jv(W:Wd):bE (gQ W):=⟨fun x hx=>Om.nm hx,kT W,fun x hx=>Om.nm hx,fun x hx=>Om.nm hx,fun qq qq qq h=>h⟩
structure xQ (η:Ev) (m:Int) (n:Nat) (r:Row):Prop where
 nm:η.v 1=(qP m).cps.toList
 key:∀i,i<n→η.v (10+2*i)=(qS m i).cps.toList
 val:∀i,i<n→(uc r n i).ev η=(iB i).cps.toList
 kd:η.i 7 (η.v 7)=kdOf m
 fl:η.p 5 (η.v 5)=qQ m
section
variable{W0:Wd}{fa:List Fact}{js:List Nat}
theorem MV.str{t:Tm}{k:Str}(h:t.ev W0.η=k.cps.toList):MV W0 fa js (.tm t) (.str k):=fun qq qq r=>by
 obtain⟨u,rfl⟩:=r
 exact⟨u,congrArg (pM · u) (gT h.symm)⟩
theorem MV.ss{t:Tm}{k:Str}(h:t.ev W0.η=k.cps.toList):MV W0 fa js (.tm t) (.ss k):=fun o J r=>MV.str (fa:=fa) (js:=js) h o J r
theorem MV.obj{a b:Nat}(h:at? js a=some b):MV W0 fa js (.obj a) (.obj b):=fun qq J r=>by
 obtain⟨q,h1,e⟩:=r
 exact⟨q,J _ _ _ h h1,e⟩
theorem MV.flat{x:SV}(h:bZ x=true):MV W0 fa js x x:=fun qq qq r=>VR.any h r
theorem MV.tp{m:Int}{n:Nat}{r:Row}(he:xQ W0.η m n r){i:Nat}(hi:i<n):MO W0 fa js (.tup [.tm (tv (10+2*i)),.tm (uc r n i)]) (.tup [.str (qS m i),.ss (iB i)]):=
 MO.tup (.cons (MV.str (t:=tv (10+2*i)) (he.key i hi)) (.one (MV.ss (he.val i hi))))
theorem acg{m:Int}{n:Nat}{r:Row}(he:xQ W0.η m n r)(hn:n≤3){os:OL}{loc:List (Str×SV)}{j:Nat}{ts:List Nat}(h:nc os m j n ts):Each (MJ W0 [] (j::ts) ⟨loc,os,[]⟩) (jn r n) (j::ts):=by
 have tp:∀i t,i<n→ts[i]? =some t→MJ W0 [] (j::ts) ⟨loc,os,[]⟩ (.tup [.tm (tv (10+2*i)),.tm (uc r n i)]) t:=fun i t hi ht=>⟨_,h.t i t ht,MV.tp he hi⟩
 have ob:∀i t,ts[i]? =some t→MV W0 [] (j::ts) (.obj (i+1)) (.obj t):=fun i t ht=>MV.obj (by rw[kC];exact ht)
 have hz:=h.z
 have hl:=h.l
 subst hz
 rcases ts with _|⟨a,_|⟨b,_|⟨c,_|⟨d,l⟩⟩⟩⟩
 ·exact .one ⟨_,hl,MO.list .nil⟩
 ·exact .cons ⟨_,hl,MO.list (.one (ob 0 a rfl))⟩ (.one (tp 0 a (ao rfl) rfl))
 ·exact .cons ⟨_,hl,MO.list (.cons (ob 0 a rfl) (.one (ob 1 b rfl)))⟩ (.cons (tp 0 a (ao rfl) rfl) (.one (tp 1 b (ao rfl) rfl)))
 ·exact .cons ⟨_,hl,MO.list (.cons (ob 0 a rfl) (.cons (ob 1 b rfl) (.one (ob 2 c rfl))))⟩ (.cons (tp 0 a (ao rfl) rfl) (.cons (tp 1 b (ao rfl) rfl) (.one (tp 2 c (ao rfl) rfl))))
 ·exact absurd hn (by simp)
end
noncomputable abbrev rQ (tx:Str) (u:Int) (kv:SV):List (Str×SV):=[(s "text",.ss tx),(s "state",.int u),(s "kind",kv),(s "name",.tm (tv 1)),(s "flag",qM),(s "pairs",.obj 0)]
theorem ach{W0:Wd}{a:Addr}{u c m:Int}{os:OL}{tx:Str}{j n:Nat}{ts:List Nat}{r:Row}(he:xQ W0.η m n r)(hn:n≤3)(h:nc os m j n ts){kv:SV}(hk:kv=.int (kdOf m)∨kv=iz){rest:List Stmt}(k:Fin (gQ W0) rest ⟨rQ tx u kv,.b (jn r n),[]⟩):
 Fin (gP W0) rest ⟨(s "text",.ss tx)::(s "pairs",.obj j)::L8 a u c (kdOf m) (qP m) (qQ m),os,[]⟩:=by
 refine Fin.pick (W0:=W0) (js:=j::ts) (acg he hn h) ?_ h.n (fun f hf=>Om.nm hf) k
 refine ay ⟨_,lI,MV.flat rfl⟩ (ay ⟨.si u,by kernel_rfl,fun qq qq r=>r⟩ (ay ⟨.int (kdOf m),by kernel_rfl,?_⟩ (ay ⟨.str (qP m),by kernel_rfl,MV.str (W0:=W0) (t:=tv 1) he.nm⟩ (ay ⟨.sb (qQ m),by kernel_rfl,fun qq qq r=>?_⟩ (ay ⟨.obj j,by kernel_rfl,MV.obj rfl⟩ dS)))))
 ·rcases hk with rfl|rfl
  ·exact MV.flat rfl
  ·intro ρ ρ' v _ _ r
   obtain⟨t,rfl⟩:=r
   exact⟨t,congrArg (jf · t) he.kd.symm⟩
 ·obtain rfl:=r
  exact congrArg je he.fl.symm
end
end Lw
end
section
namespace Lw
open Ex Tb
noncomputable section
noncomputable def kU (G:Gx) (e:Expr) (σ:SS) (K:SV→SS→Prop):Prop:=((ex 60 G).T e σ fun x σ'=>.pr (K x σ') .tt).t.h
theorem tK{G:Gx}(g:bE G){e:Expr}{σ:SS}{K:SV→SS→Prop}(h:kU G e σ K):bN G e σ K:=(((ex 60 G).T e σ fun x σ'=>.pr (K x σ') .tt).ok h g).mp fun qq qq z=>z.1
noncomputable abbrev xR (tx:Str):Str:=fu tx (aa "\x0d\n") (aa "\n")
noncomputable abbrev I8 (tx:Str):Str:=fu (xR tx) (aa "\x0d") (aa "\n")
theorem v10(W:Wd)(tx:Str)(X:List (Str×SV))(os:OL)(K:Fl→SS→Prop):gy (gQ W) (lS 10) ⟨(s "text",.ss tx)::X,os,[]⟩ K=(tx.length+(tx.length+1)*(aa "\n").length≤16777216∧(xR tx).length+((xR tx).length+1)*(aa "\n").length≤16777216∧K .next ⟨(s "mended",.ss (I8 tx))::(s "text",.ss tx)::X,os,[]⟩∧True):=by kernel_rfl
theorem v11(W:Wd)(md:Str)(X:List (Str×SV))(os:OL)(K:Fl→SS→Prop):gy (gQ W) (lS 11) ⟨(s "mended",.ss md)::X,os,[]⟩ K=(md.length≤sizeLine∧K .next ⟨(s "sign",.ss (b5 md none (some 1)))::(s "mended",.ss md)::X,os,[]⟩∧True):=by kernel_rfl
noncomputable abbrev gH (tx md sg:Str) (u:Int) (kv:SV):List (Str×SV):=(s "sign",.ss sg)::(s "mended",.ss md)::rQ tx u kv
noncomputable abbrev lQ:Expr:=cS (lS 12)
theorem aci:lS 12=.If (.BoolOp .And [kid lQ 0,.Compare (.Name (s "sign") (kid (kid lQ 1) 0).pos) [.In] [.Constant (.str ug) 0 (kid (kid lQ 1) 1).pos] (kid lQ 1).pos] lQ.pos) (dc (lS 12)) (cg (lS 12)) (lS 12).pos:=by kernel_rfl
theorem v12(W:Wd)(sg:Str)(X:List (Str×SV))(os:OL)(K:SV→SS→Prop):kU (gQ W) (kid lQ 0) ⟨(s "sign",.ss sg)::X,os,[]⟩ K=(K (.sb (!seq sg (s ""))) ⟨(s "sign",.ss sg)::X,os,[]⟩∧True):=by kernel_rfl
theorem ack(W:Wd)(tx md sg:Str)(u:Int)(kv:SV)(os:OL)(K:Fl→SS→Prop):mS (gQ W) (dc (lS 12)) ⟨gH tx md sg u kv,os,[]⟩ K=(K .next ⟨(s "cell",.obj os.length)::gH tx md sg u kv,.a os (.tup [.int u,.str (s " ")]),[]⟩∧True):=by kernel_rfl
theorem I9(W:Wd)(tx md sg:Str)(u:Int)(kv:SV)(os:OL)(K:Fl→SS→Prop):mS (gQ W) (cg (lS 12)) ⟨gH tx md sg u kv,os,[]⟩ K=(K .next ⟨(s "cell",.obj os.length)::gH tx md sg u kv,.a os (.tup [.int u,.ss sg]),[]⟩∧True):=by kernel_rfl
noncomputable def asT:Stmt→Expr
 |.Assign [t] _ _=>t
 |_=>.Constant .none 0 ⟨0,0,0,0⟩
noncomputable abbrev nh:Expr:=asT (lS 13)
theorem acn:lS 13=.Assign [.Tuple [.Name (s "deed") (kid nh 0).pos,.Name (s "fault") (kid nh 1).pos,.Name (s "follow") (kid nh 2).pos] (tP nh) nh.pos]
 (.IfExp (.Compare (.Name (s "cell") (kid (kid (aE 13) 0) 0).pos) [.In] [.Call (.Name (s "_law_TABLE") (kid (kid (kid (aE 13) 0) 1) 0).pos) [] [] (kid (kid (aE 13) 0) 1).pos] (kid (aE 13) 0).pos) (.Subscript (.Call (.Name (s "_law_TABLE") (kid (kid (kid (aE 13) 1) 0) 0).pos) [] [] (kid (kid (aE 13) 1) 0).pos) (.Name (s "cell") (kid (kid (aE 13) 1) 1).pos) (kid (aE 13) 1).pos)
   (.Subscript (.Call (.Name (s "_law_TABLE") (kid (kid (kid (aE 13) 2) 0) 0).pos) [] [] (kid (kid (aE 13) 2) 0).pos) (.Tuple [.Name (s "state") (kid (kid (kid (aE 13) 2) 1) 0).pos,.Constant (.str (s "x")) 0 (kid (kid (kid (aE 13) 2) 1) 1).pos] (tP (kid (kid (aE 13) 2) 1)) (kid (kid (aE 13) 2) 1).pos) (kid (aE 13) 2).pos) (aE 13).pos) (lS 13).pos:=by kernel_rfl
theorem Ja{G:Gx}{σ:SS}{K:SV→SS→Prop}{x:SV}{a:Str}(hx:bI x a)(k:K (.sb (uh a)) σ):aC G (compareOp .In) x (.str ug) σ K:=.mk fun c ρ s v u at_ r w=>by
 obtain⟨t,rfl⟩:=hx r
 obtain⟨t2,rfl⟩:=w
 exact PyProof.Rows.in_str (at_.truth (z:=.sb _) rfl k)
noncomputable abbrev lR (tx md sg dd ff:Str) (fw u:Int) (kv:SV):List (Str×SV):=[(s "sign",.ss sg),(s "deed",.ss dd),(s "fault",.str ff),(s "follow",.int fw),(s "mended",.ss md),(s "text",.ss tx),(s "state",.int u),(s "kind",kv),(s "name",.tm (tv 1)),(s "flag",qM),(s "pairs",.obj 0)]
theorem aco{W:Wd}{tl:List Nat}(ht:tl.length≤40){u:Int}{kv:SV}{os:OL}{rest:List Stmt}(k:Fin (gQ W) rest ⟨gH (ai tl) (ai (aX tl)) (ai ((aX tl).take 1)) u kv,os,[]⟩):Fin (gQ W) (lS 10::lS 11::rest) ⟨rQ (ai tl) u kv,os,[]⟩:=by
 have e1:I8 (ai tl)=ai (aX tl):=gT (St.Gy (ai tl))
 have e2:b5 (ai (aX tl)) none (some 1)=ai ((aX tl).take 1):=gT (St.Ge (ai (aX tl)) 1)
 have h1:(ai tl).length=tl.length:=eY
 have h2:(xR (ai tl)).length≤(ai tl).length:=St.z3 (ai tl)
 have h3:(ai (aX tl)).length≤tl.length:=by rw[eY];exact St.om tl
 have hn:(aa "\n").length=1:=by kernel_rfl
 refine Fin.step (fun qq qq qq h=>h) (iZ (jv W) ?_)
 rw[v10,hn]
 refine⟨by exact Om.P7 ht h1,by exact Om.P8 ht h1 h2,Fin.step (fun qq qq qq h=>h) (iZ (jv W) ?_),trivial⟩
 rw[e1,v11,e2]
 exact⟨by rw[sizeLine_eq];exact Om.P9 ht h1 h3,k,trivial⟩
theorem acp(W:Wd)(h:TabOk W T):keepIn W.K (.ref 774)=true:=(h.fns (774,qo) (eg (by kernel_rfl))).keep
theorem acq{W:Wd}{tx md:Str}{sg:List Nat}{st:Nat}{kv:SV}{r:Row}(hr:xM st sg r){os0 os:OL}(h0:Keeps os0 os){rest:List Stmt}(k:∀os,Keeps os0 os→Fin (gQ W) rest ⟨lR tx md (ai sg) r.aR r.fault r.follow st kv,os,[]⟩):
 Fin (gQ W) (lS 12::lS 13::rest) ⟨gH tx md (ai sg) st kv,os,[]⟩:=by
 have fin:∀y:SV,bI y (i7 sg)→m9 (gQ W) (lS 13::rest) .next ⟨(s "cell",.obj os.length)::gH tx md (ai sg) st kv,.a os (.tup [.int st,y]),[]⟩:=fun y hy=>by
  refine Fin.step (fun qq qq qq h=>h) ?_
  rw[acn]
  have ha:jM [.Name (s "deed") (kid nh 0).pos,.Name (s "fault") (kid nh 1).pos,.Name (s "follow") (kid nh 2).pos]:=ay (bL rfl) (ay (bL rfl) (ay (bL rfl) dS))
  refine EY (bL rfl) (fun qq qq qq qq=>rfl) ha (Zs (rows:=uf) (f:=774) abw acp (ao rfl) (by kernel_rfl) (by kernel_rfl) (by kernel_rfl) (by kernel_rfl) (jc:=os.length) (y:=.int st) (z:=y) (i:=st) (sg:=i7 sg) (by kernel_rfl) (OL.jT _ _) (fun r=>r) hy hr.ok (by kernel_rfl) (by kernel_rfl) (by kernel_rfl) (by kernel_rfl) hr.at_ ?_)
  refine⟨_,.o _ rfl (OL.jT _ _),rfl,jL (by kernel_rfl) (jL (by kernel_rfl) (jL (by kernel_rfl) ?_))⟩
  refine Fin.less (G:=gQ W) (aD.pk ?_) (k _ fun a b h=>d9 (d9 (h0 a b h)))
  exact ay ⟨_,by kernel_rfl,fun qq qq r=>r⟩ (ay ⟨.str r.aR,by kernel_rfl,fun qq qq r=>r⟩ (ay ⟨_,by kernel_rfl,fun qq qq r=>r⟩ (ay ⟨_,by kernel_rfl,fun qq qq r=>r⟩ (ay ⟨_,by kernel_rfl,fun qq qq r=>r⟩ (ay ⟨_,by kernel_rfl,fun qq qq r=>r⟩ (ay ⟨_,by kernel_rfl,fun qq qq r=>r⟩ (ay ⟨_,by kernel_rfl,fun qq qq r=>r⟩ (ay ⟨_,by kernel_rfl,fun qq qq r=>r⟩ (ay ⟨_,by kernel_rfl,fun qq qq r=>r⟩ (ay ⟨_,by kernel_rfl,fun qq qq r=>r⟩ dS))))))))))
 refine Fin.step (fun qq qq qq h=>h) ?_
 rw[aci]
 refine qa (nT (tK (jv W) ?_))
 rw[v12]
 refine⟨⟨fun e=>nT (cmp_T (fun qq=>rfl) (c9 (x:=.ss (ai sg)) (by kernel_rfl) (by kernel_rfl) lI (iX (Ja (a:=ai sg) (fun r=>r) (mj (fun r=>⟨_,r,rfl⟩) ⟨fun e2=>vD ?_,fun e2=>?_⟩))))),fun e=>?_⟩,trivial⟩
 ·refine mT (jv W) ?_
  rw[ack]
  have e':seq (ai sg) (s "")=false:=by simpa using e
  exact⟨fin _ fun r=>(by have:i7 sg=s " ":=(by unfold i7;rw[show seq (ai sg) (aa "")=false from e',e2];rfl);rw[this];exact r),trivial⟩
 ·refine mT (jv W) ?_
  rw[I9]
  have e':seq (ai sg) (s "")=false:=by simpa using e
  exact⟨fin _ fun r=>(by have:i7 sg=ai sg:=(by unfold i7;rw[show seq (ai sg) (aa "")=false from e',e2]);rw[this];exact r),trivial⟩
 ·refine mT (jv W) ?_
  rw[I9]
  have e':seq (ai sg) (s "")=true:=by simpa using e
  exact⟨fin _ fun r=>(by have:i7 sg=ai sg:=(by unfold i7;rw[show seq (ai sg) (aa "")=true from e']);rw[this];exact r),trivial⟩
end
end Lw
end
section
namespace Lw
open Ex Tb
noncomputable section
noncomputable abbrev o4:Stmt:=aV (dc (lS 15)) 0
noncomputable abbrev o8:Expr:=kX o4
noncomputable abbrev fJ (tx md sg dd ff:Str) (fw u:Int) (kv uv:SV):List (Str×SV):=(s "used",uv)::lR tx md sg dd ff fw u kv
theorem v14(W:Wd)(dd sg:Str)(X:List (Str×SV))(os:OL)(K:Fl→SS→Prop):gy (gQ W) (lS 14) ⟨(s "sign",.ss sg)::(s "deed",.ss dd)::X,os,[]⟩ K=fk (seq dd (s "back")) (K .next ⟨(s "used",.int 0)::(s "sign",.ss sg)::(s "deed",.ss dd)::X,os,[]⟩∧True) (fk (seq sg (s "")) (K .next ⟨(s "used",.int 0)::(s "sign",.ss sg)::(s "deed",.ss dd)::X,os,[]⟩∧True) (K .next ⟨(s "used",.int 1)::(s "sign",.ss sg)::(s "deed",.ss dd)::X,os,[]⟩∧True)):=by kernel_rfl
theorem acs:lS 15=.If (cS (lS 15)) [o4] [] (lS 15).pos:=by kernel_rfl
theorem acu:o4=.While (.BoolOp .And [kid o8 0,.Compare (kid (kid o8 1) 0) [.In] [.Constant (.str ug) 0 (kid (kid o8 1) 1).pos] (kid o8 1).pos] o8.pos) (iW o4) [] o4.pos:=by kernel_rfl
theorem v15(W:Wd)(uv:SV)(dd sg:Str)(X:List (Str×SV))(os:OL)(K:SV→SS→Prop):kU (gQ W) (cS (lS 15)) ⟨(s "used",uv)::(s "sign",.ss sg)::(s "deed",.ss dd)::X,os,[]⟩ K=(K (.sb (seq dd (s "skip"))) ⟨(s "used",uv)::(s "sign",.ss sg)::(s "deed",.ss dd)::X,os,[]⟩∧True):=by kernel_rfl
theorem acw(W:Wd)(tx md sg dd ff:Str)(fw u v:Int)(kv:SV)(os:OL)(K:SV→SS→Prop):kU (gQ W) (kid o8 0) ⟨fJ tx md sg dd ff fw u kv (.si v),os,[]⟩ K=(md.length≤sizeLine∧K (.sb (decide (v<((md.length:Nat):Int)))) ⟨fJ tx md sg dd ff fw u kv (.si v),os,[]⟩∧True):=by kernel_rfl
theorem acy(W:Wd)(tx md sg dd ff:Str)(fw u v:Int)(kv:SV)(os:OL)(K:SV→SS→Prop):xN (gQ W) (kid (kid o8 1) 0) ⟨fJ tx md sg dd ff fw u kv (.si v),os,[]⟩ K=((-(md.length:Int)≤v∧v<md.length∧md.length≤sizeLine)∧K (.ss (fG md v)) ⟨fJ tx md sg dd ff fw u kv (.si v),os,[]⟩∧True):=by kernel_rfl
theorem acz(W:Wd)(v:Int)(X:List (Str×SV))(os:OL)(K:Fl→SS→Prop):mS (gQ W) (iW o4) ⟨(s "used",.si v)::X,os,[]⟩ K=(K .next ⟨(s "used",.si (v+1))::(s "used",.si v)::X,os,[]⟩∧True):=by kernel_rfl
theorem aD.dup{D:Wd}{n:Str}{a b:SV}{X:List (Str×SV)}{os:OL}:aD D ⟨(n,a)::(n,b)::X,os,[]⟩ ⟨(n,a)::X,os,[]⟩:=aD.of (fun x y e=>by
 have e':lk x ((n,a)::X)=some y:=e
 show lk x ((n,a)::(n,b)::X)=some y
 rw[b6] at e'⊢
 by_cases h:x=n
 ·rw[if_pos h] at e'⊢;exact e'
 ·rw[if_neg h] at e'⊢
  rw[b6,if_neg h];exact e') rfl rfl
theorem aD.hd{D:Wd}{n:Str}{a b:SV}{X:List (Str×SV)}{os:OL}(h:gY D a b):aD D ⟨(n,a)::X,os,[]⟩ ⟨(n,b)::X,os,[]⟩:=(aD.as lI h).trans aD.dup
theorem bz.less{G:Gx}{b:List Stmt}{σ:SS}{K:Fl→SS→Prop}(h:bz G b σ fun fl σ'=>∃σ'',aD G.D σ' σ''∧K fl σ''):bz G b σ K:=fun c ρ s w a r=>
 wpAny_mono (h c ρ s w a r) (fun v s' ⟨ρ',σ',x,p,R,q,σ'',l,z⟩=>⟨ρ',σ'',x,p,l _ _ _ R,q,z⟩) fun qq qq z=>z
noncomputable abbrev jw (l:List Nat):Nat:=(l.takeWhile (aH · spS)).length
theorem acA{c:Nat}(h:c∈gg):uh (ai [c])=aH c spS:=by
 have:=bH.mp abz c h
 cases e:uh (ai [c])<;>cases e2:aH c spS<;>rw[e,e2] at this<;>first|rfl|cases this
noncomputable def gk (r:Row) (md:List Nat):Nat:=@aj (fun qq=>Nat) (@aj (fun qq=>Nat) 1 0 (bg r.aR (s "back")||r.c.isNone)) (1+jw (md.drop 1)) (bg r.aR (s "skip"))
theorem acB{W:Wd}{md:List Nat}(hl:md.length≤40)(hal:∀c∈md,c∈gg)(h1:1≤md.length){tx sg dd ff:Str}{fw u:Int}{kv:SV}{os:OL}{rest:List Stmt}(k:Fin (gQ W) rest ⟨fJ tx (ai md) sg dd ff fw u kv (.si (1+jw (md.drop 1):Nat)),os,[]⟩):bw (gQ W) o4 ⟨fJ tx (ai md) sg dd ff fw u kv (.si 1),os,[]⟩ (m9 (gQ W) rest):=by
 have hlen:(ai md).length=md.length:=eY
 rw[acu]
 refine sY (fun qq qq qq h=>h) (fun n σ=>∃v:Nat,v≤md.length∧n=md.length-v∧v+jw (md.drop v)=1+jw (md.drop 1)∧σ=⟨fJ tx (ai md) sg dd ff fw u kv (.si (v:Nat)),os,[]⟩) (fun n σ ⟨v,hv,en,hk,e⟩=>?_) (md.length-1) ⟨1,h1,rfl,rfl,rfl⟩
 subst e en
 have fin:jw (md.drop v)=0→m9 (gQ W) rest .next ⟨fJ tx (ai md) sg dd ff fw u kv (.si (v:Nat)),os,[]⟩:=fun e=>by
  have:v=1+jw (md.drop 1):=by exact Om.Qa hk e
  show Fin _ _ _
  rw[this];exact k
 refine nT (tK (jv W) ?_)
 rw[acw,hlen]
 refine⟨by rw[sizeLine_eq];exact Om.DL hl h1 hlen,⟨fun e2=>?_,fun e2=>?_⟩,trivial⟩
 ·have hu2:v<md.length:=by have:=of_decide_eq_true e2;exact Om.Qc hlen hk this
  have hdrop:md.drop v=md[v]::md.drop (v+1):=kg hu2
  refine nT (cmp_T (fun qq=>rfl) (BQ (jv W) ?_))
  rw[acy,hlen,St.sQ (ai md) v (c:=md[v]) (iD hu2)]
  refine⟨⟨by exact Om.Qd hlen hk hu2,by exact Om.Qe hlen hk hu2,by rw[sizeLine_eq];exact Om.DL hl h1 hlen⟩,iX (Ja (a:=ai [md[v]]) (fun r=>r) (mj (fun r=>⟨_,r,rfl⟩) ?_)),trivial⟩
  rw[acA (hal _ (J9 hu2))]
  refine⟨fun e3=>vD (bz.less (mT (jv W) ?_)),fun e3=>fin ?_⟩
  ·rw[acz]
   have hs:jw (md.drop v)=1+jw (md.drop (v+1)):=by
    show(List.takeWhile _ _).length=_
    rw[hdrop,List.takeWhile_cons,if_pos e3,jA];exact f9 _ _
   exact⟨⟨_,aD.dup,md.length-(v+1),by exact Om.Qf hlen hk fin hu2 hs,v+1,hu2,rfl,by exact Om.Qg hk hs,rfl⟩,trivial⟩
  ·show(List.takeWhile _ _).length=_
   rw[hdrop,List.takeWhile_cons,if_neg (by rw[e3];exact yv)];rfl
 ·refine fin ?_
  have:md.length≤v:=by have:=of_decide_eq_false e2;exact Om.Qh hlen hv hk this
  rw[nA this];rfl
theorem acC{r:Row}(h:xJ r []=true):r.c.isNone=true:=h
theorem acD{W:Wd}{md:List Nat}(hl:md.length≤40)(hal:∀c∈md,c∈gg){tx ff:Str}{fw u:Int}{kv:SV}{os:OL}{r:Row}(hr:xJ r (md.take 1)=true)(hsk:bg r.aR (s "skip")=true→bg r.aR (s "back")=false∧r.c.isNone=false){rest:List Stmt}
 (k:Fin (gQ W) rest ⟨fJ tx (ai md) (ai (md.take 1)) r.aR ff fw u kv (.si (gk r md:Nat)),os,[]⟩):Fin (gQ W) (lS 14::lS 15::rest) ⟨lR tx (ai md) (ai (md.take 1)) r.aR ff fw u kv,os,[]⟩:=by
 have hc:seq (ai (md.take 1)) (s "")=r.c.isNone:=by
  cases md with
  |nil=>exact(show seq (ai []) (s "")=true by kernel_rfl).trans (acC hr).symm
  |cons c md=>
   have h2:(r.c.isSome&&aj (yM r.v) r.v (aH c r.l))=true:=hr
   rw[aY] at h2
   have h3:r.c.isNone=false:=by cases q:r.c with
    |none=>rw[q] at h2;cases h2.1
    |some _=>rfl
   rw[h3]
   cases q:seq (ai ((c::md).take 1)) (s "") with
   |false=>rfl
   |true=>
    have:=congrArg gb (bS.mp q)
    rw[eY,show(s "").length=0 by kernel_rfl] at this
    cases this
 have go:∀z:Nat,(bg r.aR (s "skip")=true→z=1∧1≤md.length)→(bg r.aR (s "skip")=false→z=gk r md)→m9 (gQ W) (lS 15::rest) .next ⟨fJ tx (ai md) (ai (md.take 1)) r.aR ff fw u kv (.int (z:Nat)),os,[]⟩:=fun z h1 h2=>by
  refine Fin.less (G:=gQ W) (aD.hd (b:=.si (z:Nat)) fun qq qq r=>r) (Fin.step (fun qq qq qq h=>h) ?_)
  rw[acs]
  refine qa (tK (jv W) ?_)
  rw[v15]
  refine⟨⟨fun e=>cP ?_,fun e=>iO ?_⟩,trivial⟩
  ·obtain⟨rfl,h3⟩:=h1 e
   have eu:gk r md=1+jw (md.drop 1):=by
    unfold gk
    rw[show bg r.aR (s "skip")=true from e]
   rw[eu] at k
   refine(acB hl hal h3 k).mp fun fl σ z=>?_
   cases fl with
   |next=>exact iO z
   |_=>exact z
  ·rw[h2 e]
   exact k
 refine Fin.step (fun qq qq qq h=>h) (iZ (jv W) ?_)
 rw[v14]
 refine⟨fun e=>⟨go 0 (fun h=>?_) fun h=>?_,trivial⟩,fun e=>⟨fun e2=>⟨go 0 (fun h=>?_) fun h=>?_,trivial⟩,fun e2=>⟨go 1 (fun h=>⟨rfl,?_⟩) fun h=>?_,trivial⟩⟩⟩
 ·have:=(hsk h).1
  rw[show bg r.aR (s "back")=true from e] at this;cases this
 ·unfold gk;rw[h,show bg r.aR (s "back")=true from e];rfl
 ·have:=(hsk h).2
  rw[←hc,e2] at this;cases this
 ·unfold gk;rw[h,←hc,e2,Bool.or_true]
 ·cases md with
  |nil=>rw[show seq (ai (([]:List Nat).take 1)) (s "")=true by kernel_rfl] at e2;cases e2
  |cons _ _=>exact jz (ef _)
 ·unfold gk;rw[h,←hc,e2,show bg r.aR (s "back")=false from e];rfl
end
end Lw
end
section
namespace Lw
open Ex Tb
noncomputable section
structure qU (η:Ev) (ns:List Int) (n:Nat) (r:Row):Prop where
 lw:xQ η (qO ns) n r
 tx:η.v 0=ck ns
 md:(jZ r).ev η=aX (ck ns)
 fa:aI η (BO r n)
theorem acF:(xH.all fun l=>l.all fun r=>!bg r.aR (s "skip")||(!bg r.aR (s "back")&&r.c.isSome))=true:=by kernel_rfl
theorem BV{st:Nat}{r:Row}(hr:r∈iA st)(h:bg r.aR (s "skip")=true):bg r.aR (s "back")=false∧r.c.isNone=false:=by
 have hm:iA st∈xH∨iA st=[]:=by
  unfold iA
  rw[kc]
  cases e:xH[st]? with
  |none=>exact .inr rfl
  |some l=>exact .inl (fZ e)
 rcases hm with hm|hm
 ·have:=bH.mp (bH.mp acF _ hm) r hr
  rw[h] at this
  simp only[CY,Ku,aY,Cr] at this
  refine⟨this.1,?_⟩
  cases q:r.c with
  |none=>rw[q] at this;cases this.2
  |some _=>rfl
 ·rw[hm] at hr;cases hr
section
variable{W0:Wd}{ns:List Int}{n:Nat}{r:Row}
theorem le3{P:Nat→Prop}(a:P 0)(b:P 1)(c:P 2)(d:P 3){n:Nat}(h:n≤3):P n:=by
 rcases n with _|_|_|_|n
 ·exact a
 ·exact b
 ·exact c
 ·exact d
 ·exact absurd h (Nat.not_le_of_lt (iF (iG 3) (lO 4 n)))
theorem acH(hn:n≤3){os:OL}{loc:List (Str×SV)}(h:Keeps (.b (jn r n)) os):Each (MJ W0 [] (dK (n+1)) ⟨loc,os,[]⟩) (jn r n) (dK (n+1)):=by
 have tp:∀(js:List Nat) (i:Nat) (x y:Tm),(jn r n)[i]? =some (.tup [.tm x,.tm y])→MJ W0 [] js ⟨loc,os,[]⟩ (.tup [.tm x,.tm y]) i:=fun js i x y e=>⟨_,h i _ e,MO.tup (.cons (MV.flat rfl) (.one (MV.flat rfl)))⟩
 refine le3 (P:=fun n=>Keeps (.b (jn r n)) os→(∀(js:List Nat) (i:Nat) (x y:Tm),(jn r n)[i]? =some (.tup [.tm x,.tm y])→MJ W0 [] js ⟨loc,os,[]⟩ (.tup [.tm x,.tm y]) i)→Each (MJ W0 [] (dK (n+1)) ⟨loc,os,[]⟩) (jn r n) (dK (n+1))) ?_ ?_ ?_ ?_ hn h tp<;>intro h tp
 ·exact .one ⟨_,h 0 _ rfl,MO.list .nil⟩
 ·exact .cons ⟨_,h 0 _ rfl,MO.list (.one (MV.obj rfl))⟩ (.one (tp _ 1 _ _ rfl))
 ·exact .cons ⟨_,h 0 _ rfl,MO.list (.cons (MV.obj rfl) (.one (MV.obj rfl)))⟩ (.cons (tp _ 1 _ _ rfl) (.one (tp _ 2 _ _ rfl)))
 ·exact .cons ⟨_,h 0 _ rfl,MO.list (.cons (MV.obj rfl) (.cons (MV.obj rfl) (.one (MV.obj rfl))))⟩ (.cons (tp _ 1 _ _ rfl) (.cons (tp _ 2 _ _ rfl) (.one (tp _ 3 _ _ rfl))))
noncomputable def qV (r:Row):SV:=match r.c with
 |none=>.str (s "")
 |some _=>.tm (tc 0)
theorem BW{k:Nat}(h:r.c=some k):jZ r=cat (tc 0) (rest r):=by unfold jZ;rw[h]
theorem Jb(h:r.c=none):jZ r=lit []:=by unfold jZ;rw[h]
theorem acI(he:qU W0.η ns n r){js:List Nat}:MV W0 [] js (qV r) (.ss (ai ((aX (ck ns)).take 1))):=by
 have hm:=he.md
 cases e:r.c with
 |none=>
  rw[Jb e] at hm
  have hs:qV r=.str (s ""):=by unfold qV;rw[e]
  rw[hs,←hm]
  intro ρ ρ' v _ _ q
  obtain⟨u,rfl⟩:=q
  exact⟨u,congrArg (pM · u) (show ai []=s "" by kernel_rfl)⟩
 |some k=>
  rw[BW e] at hm
  have hs:qV r=.tm (tc 0):=by unfold qV;rw[e]
  rw[hs,←hm]
  exact@MV.ss W0 [] js (tc 0) (ai (((cat (tc 0) (rest r)).ev W0.η).take 1)) (Eq.refl [W0.η.c 0])
theorem acJ(he:qU W0.η ns n r)(hk:bg r.aR (s "skip")=true→bg r.aR (s "back")=false∧r.c.isNone=false){js:List Nat}:MV W0 [] js (lG r) (.si (gk r (aX (ck ns)):Nat)):=by
 cases e:bg r.aR (s "skip") with
 |true=>
  obtain⟨h1,h2⟩:=hk e
  obtain⟨k,hc⟩:∃k,r.c=some k:=by
   cases q:r.c with
   |none=>rw[q] at h2;cases h2
   |some k=>exact⟨k,rfl⟩
  have hr:rest r=tv 9:=by unfold rest;rw[hc,e];rfl
  have hm:=he.md
  rw[BW hc,hr] at hm
  have hu:lG r=.im 2 (cat (tc 0) (yY spS (tv 9))):=by unfold lG;rw[e]
  have hn:gk r (aX (ck ns))=1+jw (W0.η.v 9):=by
   unfold gk
   rw[e,←hm];rfl
  rw[hu,hn]
  intro ρ ρ' v _ _ q
  obtain⟨u,rfl⟩:=q
  refine⟨u,congrArg (jf · u) ?_⟩
  show _=W0.η.i 2 _
  rw[W0.gJ.il]
  show((1+jw (W0.η.v 9):Nat):Int)=(([W0.η.c 0]++(W0.η.v 9).takeWhile (aH · spS)).length:Nat)
  rw[bG];rfl
 |false=>
  cases e2:(bg r.aR (s "back")||r.c.isNone) with
  |true=>
   have hu:lG r=.int 0:=by unfold lG;rw[e,e2]
   have hn:gk r (aX (ck ns))=0:=by unfold gk;rw[e,e2]
   rw[hu,hn];exact fun{_ _ _} _ _ q=>q
  |false=>
   have hu:lG r=.int 1:=by unfold lG;rw[e,e2]
   have hn:gk r (aX (ck ns))=1:=by unfold gk;rw[e,e2]
   rw[hu,hn];exact fun{_ _ _} _ _ q=>q
theorem acK(he:qU W0.η ns n r)(hn:n≤3){st:Nat}(hr:r∈iA st){kv:SV}(hkv:bZ kv=true){os:OL}(h:Keeps (.b (jn r n)) os){b:List Stmt}(k:Fin (gQ W0) b (stH st r n kv)):
 Fin (gQ W0) b ⟨fJ (ai (ck ns)) (ai (aX (ck ns))) (ai ((aX (ck ns)).take 1)) r.aR r.fault r.follow st kv (.si (gk r (aX (ck ns)):Nat)),os,[]⟩:=by
 refine Fin.pick (W0:=W0) (js:=dK (n+1)) (acH hn h) ?_ List.nodup_range he.fa (loc':=[(s "state",.int st),(s "kind",kv),(s "name",.tm (tv 1)),(s "flag",qM),(s "pairs",.obj 0),(s "text",.tm (tv 0)),(s "mended",.tm (jZ r)),(s "sign",qV r),(s "deed",.str r.aR),(s "fault",.str r.fault),(s "follow",.int r.follow),(s "used",lG r)]) k
 refine ay ⟨_,by kernel_rfl,MV.flat rfl⟩ (ay ⟨kv,by kernel_rfl,MV.flat hkv⟩ (ay ⟨_,by kernel_rfl,MV.flat rfl⟩ (ay ⟨_,by kernel_rfl,MV.flat rfl⟩ (ay ⟨.obj 0,by kernel_rfl,MV.obj (a:=0) (b:=0) ?_⟩ (ay ⟨.ss (ai (ck ns)),by kernel_rfl,MV.ss (W0:=W0) (t:=tv 0) (k:=ai (ck ns)) he.tx⟩ (ay ⟨.ss (ai (aX (ck ns))),by kernel_rfl,MV.ss (W0:=W0) (k:=ai (aX (ck ns))) he.md⟩ (ay ⟨_,by kernel_rfl,acI he⟩ (ay ⟨.ss r.aR,by kernel_rfl,fun{_ _ _} _ _ q=>q⟩ (ay ⟨_,by kernel_rfl,MV.flat rfl⟩ (ay ⟨_,by kernel_rfl,MV.flat rfl⟩ (ay ⟨_,lI,acJ he (BV hr)⟩ dS)))))))))))
 rw[kC,List.getElem?_range (ki n)]
end
end
end Lw
end
section
namespace Lw
open Ex Tb
noncomputable section
structure Jc (η:Ev):Prop where
 no:∀l,η.p 3 l=true→35∉l
 e:∃m,(mainD 9 1).ev η=(η.f 20 (rE.ev η),η.f 21 (rE.ev η),m)∧η.p 20 (rE.ev η)=!aB m 0∧η.p 21 (rE.ev η)=aB m 1
theorem i9{η:Ev}{k:Nat}{l:List Nat}{a:Tm}{y n:DT}:(DT.ask k l a y n).ev η=@aj (fun qq=>List Nat×List Nat×Nat) (n.ev η) (y.ev η) (aZ η k l (a.ev η) []):=rfl
theorem acL(l:List Nat):l.take 1++l.drop 1=l:=gB 1 l
theorem acM{η:Ev}{c:Nat}(h:aZ η 0 [] (rE.ev η) []=false):(iw c).ev η=((lit [38]).ev η,rE.ev η,0):=by
 unfold iw
 rw[i9,h]
 have h':rE.ev η=[]:=by
  have:(!(rE.ev η).isEmpty)=false:=h
  cases e:rE.ev η with
  |nil=>rfl
  |cons a b=>rw[e] at this;cases this
 rw[h'];rfl
theorem xT{η:Ev}{a:List Nat}{x y:List Nat}(l:List Nat):aZ η 1 (x++y) l []=(aZ η 1 x l []||aZ η 1 y l []):=by
 show(match l with|[c]=>aH c (x++y)|_=>false)=((match l with|[c]=>aH c x|_=>false)||(match l with|[c]=>aH c y|_=>false))
 cases l with
 |nil=>rfl
 |cons c l=>cases l with
  |nil=>
   show aH c (x++y)=(aH c x||aH c y)
   induction x with
   |nil=>rfl
   |cons z x ih=>
    show aH c (z::(x++y))=_
    rw[gp,gp,ih,Bool.or_assoc]
  |cons _ _=>rfl
theorem acN{η:Ev}{c:Nat}(h:aZ η 0 [] (rE.ev η) []=true)(h2:aZ η 1 (c::qL) ((dZ rE).ev η) []=true):(iw c).ev η=((lit [38]).ev η,rE.ev η,0):=by
 have sp:jV.ev η=((lit [38]).ev η,rE.ev η,0):=by
  show((lit [38]).ev η,(rE.ev η).take 1++(rE.ev η).drop 1,0)=_
  rw[acL]
 unfold iw
 rw[i9,h,i9,i9,i9]
 have e:c::qL=[c]++([9,10,12,32,13]++[60,38]):=rfl
 rw[e,xT (a:=[]),xT (a:=[])] at h2
 show@aj (fun qq=>List Nat×List Nat×Nat) _ (jV.ev η) (aZ η 1 [9,10,12,32,13] ((dZ rE).ev η) [])=_
 cases q1:aZ η 1 [9,10,12,32,13] ((dZ rE).ev η) [] with
 |true=>exact sp
 |false=>
  show@aj (fun qq=>List Nat×List Nat×Nat) _ (jV.ev η) (aZ η 1 [60,38] ((dZ rE).ev η) [])=_
  cases q2:aZ η 1 [60,38] ((dZ rE).ev η) [] with
  |true=>exact sp
  |false=>
   show@aj (fun qq=>List Nat×List Nat×Nat) _ (jV.ev η) (aZ η 1 [c] ((dZ rE).ev η) [])=_
   rw[q1,q2,CX,CX] at h2
   rw[h2];exact sp
theorem acO{η:Ev}{c:Nat}(h:aZ η 0 [] (rE.ev η) []=true)(h2:aZ η 1 (c::qL) ((dZ rE).ev η) []=false):(iw c).ev η=(mainD 9 1).ev η:=by
 unfold iw
 rw[i9,h,i9,i9,i9]
 have e:c::qL=[c]++([9,10,12,32,13]++[60,38]):=rfl
 rw[e,xT (a:=[]),xT (a:=[]),JV,JV] at h2
 obtain⟨q1,q2,q3⟩:=h2
 show@aj (fun qq=>List Nat×List Nat×Nat) (@aj (fun qq=>List Nat×List Nat×Nat) (@aj (fun qq=>List Nat×List Nat×Nat) ((mainD 9 1).ev η) (jV.ev η) (aZ η 1 [c] ((dZ rE).ev η) [])) (jV.ev η) (aZ η 1 [60,38] ((dZ rE).ev η) [])) (jV.ev η) (aZ η 1 [9,10,12,32,13] ((dZ rE).ev η) [])=_
 rw[q1,q2,q3]
theorem acP(W:Wd){c:Nat}(h:aH c [34,39,62]=true):(oU W c).c=true:=by
 rw[gp,gp,gp,iI,iI,iI] at h
 rcases h with h|h|h|h
 ·rw[bh h];exact aaO W
 ·rw[bh h];exact aaP W
 ·rw[bh h];exact aaQ W
 ·cases h
set_option tactic.hygienic true in
theorem acQ(W:Wd)(he:i0 W.η)(kf:Kf W)(hf:Jc W.η):cH (WS W) (290,7,xA):=fun G hD hT hn xs σ K h=>by
 have h':(xA xs σ K).h:=h
 unfold xA at h'
 split at h'
 ·rename_i x a
  cases q:IS x σ with
  |none=>rw[q] at h';exact h'.elim
  |some z=>
   cases q2:IT a with
   |none=>rw[q,q2] at h';exact h'.elim
   |some c=>
    rw[q,q2] at h'
    obtain⟨c,rfl⟩:=c
    dsimp only at h'
    cases q3:(aH c [34,39,62]&&(av z.1.vt.bd 100000&&@aU Bool (fun qq=>Bool) false id (asks 3 [] rE .e σ.fa))) with
    |false=>rw[q3] at h';exact h'.elim
    |true=>
     rw[q3] at h'
     rw[aY,aY] at q3
     obtain⟨c1,c2,c3⟩:=q3
     have h2:(g8 0 [] rE .e (g8 1 (c::qL) (dZ rE) .e (qK z.1 rE (lit [38]) σ K) (g8 20 [] rE .e (g8 21 [] rE .e (xy z.1 jY jX 1 σ K) (xy z.1 jY jX 2 σ K)) (qK z.1 jY jX σ K))) (qK z.1 rE (lit [38]) σ K) σ.fa).h:=h'
     refine au.fa fun ok=>?_
     rw[hD] at ok
     have ok:aI W.η σ.fa:=ok
     have hlen:(z.1.vt.ev W.η).length≤100000:=ah (Tm.kB W.gJ _) (ao c2)
     have ok35:aI W.η lz:=by
      have e3:aZ W.η 3 [] (rE.ev W.η) []=true:=by
       cases e:asks 3 [] rE .e σ.fa with
       |none=>rw[e] at c3;cases c3
       |some v=>
        rw[e] at c3
        obtain rfl:v=true:=c3
        exact jI e ok
      have xU:=hf.no _ e3
      intro f hf'
      rcases bV.mp hf' with rfl|hf'
      ·show aZ W.η 1 [35] ((rE.ev W.η).take 1) []=false
       cases e:rE.ev W.η with
       |nil=>rfl
       |cons y l=>
        rw[e] at xU
        show aH y [35]=false
        rw[gp]
        cases e5:aB y 35 with
        |false=>rfl
        |true=>exact(xU (bh e5▸.head _)).elim
      ·cases hf'
     refine abf he kf (acP W c1) hD hT hn z.2 ok35 hlen ?_
     rcases qy h2 ok with⟨fa,ok1,e1,k1⟩|⟨fa,ok1,e1,k1⟩
     ·rcases qy k1 ok1 with⟨fa,ok2,e2,k2⟩|⟨fa,ok2,e2,k2⟩
      ·exact⟨lit [38],rE,0,fa,acN e1 e2,ok2,fun qq=>k2,fun h=>by rcases h with h|h<;>cases h⟩
      ·obtain⟨m,em,p20,p21⟩:=hf.e
       have E:(iw c).ev W.η=(jX.ev W.η,jY.ev W.η,m):=(acO e1 e2).trans em
       rcases qy k2 ok2 with⟨fa,ok3,e3,k3⟩|⟨fa,ok3,e3,k3⟩
       ·have e3:W.η.p 20 (rE.ev W.η)=true:=e3
        rw[p20] at e3
        rcases qy k3 ok3 with⟨fa,ok4,e4,k4⟩|⟨fa,ok4,e4,k4⟩
        ·have e4:W.η.p 21 (rE.ev W.η)=true:=e4
         rw[p21] at e4
         obtain rfl:=bh e4
         exact⟨jX,jY,1,fa,E,ok4,fun h=>(by cases h),fun qq=>k4⟩
        ·have e4:W.η.p 21 (rE.ev W.η)=false:=e4
         rw[p21] at e4
         refine⟨jX,jY,m,fa,E,ok4,fun h=>(by rw[h] at e3;cases e3),fun h=>?_⟩
         rcases h with rfl|rfl
         ·cases e4
         ·exact k4
       ·have e3:W.η.p 20 (rE.ev W.η)=false:=e3
        rw[p20] at e3
        have em0:m=0:=by
         cases m with
         |zero=>rfl
         |succ m=>cases e3
        subst em0
        exact⟨jX,jY,0,fa,E,ok3,fun qq=>k3,fun h=>by rcases h with h|h<;>cases h⟩
     ·exact⟨lit [38],rE,0,fa,acM e1,ok1,fun qq=>k1,fun h=>by rcases h with h|h<;>cases h⟩
 ·exact h'.elim
end
end Lw
end
section
namespace Lw
open Ex Tb
noncomputable section
noncomputable def j8 (v:Bool):Str:=@aj (fun qq=>Str) (aa "no") (aa "yes") v
theorem vF(D:Wd)(cs:bW)(K:SV→SS→Prop)(v:Bool)(loc:List (Str×SV))(fa:List Fact):gW D cs 1 [] 793 [.bool v] loc [] fa K=(K (.str (j8 v)) ⟨loc,.b [],fa⟩∧True):=by cases v<;>kernel_rfl
theorem Jd{W:Wd}{G:Gx}(hD:G.D=WS W)(hT:G.T=Tb.T)(hn:1≤G.n){v:Bool}{σ:SS}{K:SV→SS→Prop}(h:aI W.η σ.fa→∃y,gY (WS W) (.str (j8 v)) y∧bZ y=true∧K y σ):au G (.ref 793) [.bool v] σ K:=by
 obtain⟨D,T,m,cs,KX,con,sc,ec,cv,fr⟩:=G
 obtain rfl:D=WS W:=hD
 obtain rfl:T=Tb.T:=hT
 refine au.facts fun ok=>⟨σ.fa,ok,?_⟩
 obtain⟨y,h1,h2,h3⟩:=h ok
 refine au.tE (zG rfl fun loc=>tu (n:=1) (cons:=[]) hn (fun x hx=>Om.nm hx) ?_)
 rw[vF]
 exact⟨⟨rfl,rfl,fun qq=>⟨y,_,h1,fun qq qq qq R=>R,h3⟩⟩,trivial⟩
noncomputable def BX (η:Ev):Prop:=∀l,η.f 12 l=(j8 (η.p 5 l)).cps.toList
set_option tactic.hygienic true in
theorem Je(W:Wd)(hf:BX W.η):cH (WS W) (793,1,oX):=fun G hD hT hn xs σ K h=>by
 have h':(oX xs σ K).h:=h
 unfold oX at h'
 split at h'
 ·rename_i x
  split at h'
  ·rename_i b
   exact Jd hD hT hn fun qq=>⟨.str (j8 b),fun qq qq r=>r,rfl,h'⟩
  ·rename_i k l a b
   split at h'
   ·refine au.conv (xs':=[.bool (aZ W.η 5 l (a.ev W.η) (b.ev W.η))]) (fun ρ vs r=>?_) (Jd (W:=W) hD hT hn fun ok=>?_)
    ·rw[hD] at r⊢
     cases r using Each.ec with
     |cons r rs=>exact .cons r rs
    ·cases q:asks 5 l a b σ.fa with
     |none=>
      rw[q] at h'
      refine⟨.tm (.n 12 [] a .e),fun ρ v r=>?_,rfl,h'⟩
      obtain⟨t,rfl⟩:=r
      refine⟨t,?_⟩
      congr 1
      refine gT ?_
      show _=W.η.f 12 (a.ev W.η)
      rw[hf];rfl
     |some v=>
      rw[q] at h'
      have e:=jI q ok
      rw[e]
      exact⟨.str (j8 v),fun qq qq r=>r,rfl,h'⟩
   ·exact h'.elim
  ·exact h'.elim
 ·exact h'.elim
theorem acR:fB.body=aV fB.body 0::.Assign [.Name (aa "small") (fT (aV fB.body 1))] (A8 xF (aa "name") fB.scope) (fU (aV fB.body 1))::fB.body.drop 2:=by kernel_rfl
noncomputable abbrev uu (W:Wd):Gx:=gi (WS W) fB.scope 2 [(793,1,oX)]
theorem vS0(W:Wd)(K:Fl→SS→Prop)(σ:SS):gy (uu W) (aV fB.body 0) σ K=(K .next ⟨(aa "faults",.obj σ.objs.length)::σ.loc,OL.a σ.objs (.list none []),σ.fa⟩∧True):=by kernel_rfl
theorem acT(W:Wd)(x:Nat)(objs:OL)(fa:List Fact)(K:SV→SS→Prop):((ex 60 ((uu W).comp (g9 (eF xF) fB.scope) (iS (g9 (eF xF) fB.scope) (uu W).cv))).E (oK (eF xF)) ⟨[(aa "c",.ss ⟨#[x]⟩)],objs,fa⟩ fun x σ'=>.pr (K x σ') .tt).t.h=tO x fun y=>K y ⟨[(aa "c",.ss ⟨#[x]⟩)],objs,fa⟩:=by kernel_rfl
set_option tactic.hygienic true in
theorem acU(W:Wd)(hf:BX W.η)(hl:∀l,W.η.f 11 l=l.map d8):cH (WS W) (817,3,xG (WS W)):=fun G hD hT hn xs σ K h=>by
 obtain⟨D,T,m,cs,KX,con,sc,ec,cv,fr⟩:=G
 obtain rfl:D=WS W:=hD
 obtain rfl:T=Tb.T:=hT
 have h':(xG (WS W) xs σ K).h:=h
 unfold xG at h'
 split at h'
 ·rename_i y1 x y3 y4
  cases q:sS x with
  |none=>rw[q] at h';exact h'.elim
  |some t=>
   rw[q] at h'
   dsimp only at h'
   cases q1:av t.1.bd 100000 with
   |false=>rw[q1] at h';exact h'.elim
   |true=>
    rw[q1] at h'
    have g:bE (uu W):=mQ (qv (Je W hf))
    refine au.conv (xs':=[y1,.tm t.1,y3,y4]) (fun ρ vs r=>?_) (au.sw (n:=3) (cons:=[(793,1,oX)]) hn (mr (i:=fB) (n:=2) rfl rfl rfl rfl ?_))
    ·cases r using Each.ec with
     |cons r1 r=>cases r using Each.ec with
      |cons r2 r=>exact .cons r1 (.cons (t.2 r2) r)
    ·rw[acR]
     refine cP (iZ g ?_)
     rw[vS0]
     refine⟨cP (gR (bL (by kernel_rfl)) (by kernel_rfl) (HO (x:=.tm t.1) (t:=t.1) (by kernel_rfl) (by kernel_rfl) (by kernel_rfl) (by kernel_rfl) (by kernel_rfl) (fun{_ _ _} r=>r) (fun qq qq r=>r) q1 hl (kT W) (by kernel_rfl) (fun x objs K=>acT W x objs σ.fa K) ?_)),trivial⟩
     exact((cY (ex 60 (uu W)) (fB.body.drop 2) _ (qj σ.loc K)).ok h' g).mp fun f σ' z=>by cases f<;>exact z
 ·exact h'.elim
end
end Lw
end
section
namespace Lw
open Ex Tb
noncomputable section
noncomputable def xV (r:Row):Bool:=f6 r.l [62]&&r.v
noncomputable def qD (W0:Wd) (st n:Nat) (r:Row):Bool:=@aj (fun qq=>Bool) (head W0 st r n iz).c ((head W0 st r n (.int 3)).c&&(head W0 st r n (.int 4)).c) (xV r)
noncomputable def fi (W0:Wd) (st n:Nat):Bool:=(iA st).all (qD W0 st n)
noncomputable def dG (W0:Wd) (f n:Nat):Bool:=(tail (WS W0) f n iz IW).c
noncomputable def ni (W0:Wd) (f n:Nat):Bool:=(tail (WS W0) f n iz xE).c
noncomputable def dH (W0:Wd) (f n:Nat):Bool:=(tail (WS W0) f n (.int 3) ua).c&&(tail (WS W0) f n (.int 4) ua).c
end
end Lw
end
section
namespace Lw
open Ex Tb
noncomputable section
structure xW (η:Ev):Prop where
 pos:Au η
 tx:A6 η
 fl:BX η
 en:i0 η
 fin:Jc η
 low:∀l,η.f 11 l=l.map d8
section
variable{W0:Wd}(he:xW W0.η)(kf:Kf W0)
include he kf
theorem Jf:∀x∈BL,cH (WS W0) x:=ay (Ht W0) (ay (YV W0) (ay (Hp W0) (ay (Zb W0 he.low) (ay (Je W0 he.fl) (ay (Yz W0 he.pos) (ay (Zo W0 he.pos) (ay (Y3 W0 he.tx) (ay (acQ W0 he.en kf he.fin) dS))))))))
theorem acV:bE (GL (WS W0)):=⟨fun x hx G' hD hT hn xs σ K z=>Jf he kf x hx G' hD hT hn xs σ K z,kT W0,fun x hx=>Om.nm hx,fun x hx=>Om.nm hx,fun qq qq qq h=>h⟩
theorem acW:bE (GH (WS W0)):=⟨fun x hx G' hD hT hn xs σ K z=>ay (P:=cH (WS W0)) (acU W0 he.fl he.low) (Jf he kf) x hx G' hD hT hn xs σ K z,kT W0,fun x hx=>Om.nm hx,fun x hx=>Om.nm hx,fun qq qq qq h=>h⟩
omit he kf
theorem bz.cn{D:Wd}{T:Tab}{n:Nat}{cs:bW}{cons cons':List (Addr×Nat×bx)}{b:List Stmt}{σ:SS}{K:Fl→SS→Prop}(h:bz (⟨D,T,n,cs,fun qq qq qq=>False,cons,[],[],[],false⟩:Gx) b σ K):bz (⟨D,T,n,cs,fun qq qq qq=>False,cons',[],[],[],false⟩:Gx) b σ K:=fun c ρ s qq a qq=>h c ρ s () ⟨a.toRepS,a.cs,a.ok,a.tk,a.rx,fun x hx=>Om.nm hx,fun h=>Om.nb h⟩ trivial
include he kf
theorem uw{f n:Nat}{kd:SV}{fa:List Fact}(h:(tail (WS W0) f n kd fa).c=true):Fin (gQ W0) jm (iP f n kd fa):=by
 have B:=(cY (ex 60 (GL (WS W0))) jm (iP f n kd fa) fun fl qq=>isTrue fl).ok (Tr.r8 h) (acV he kf)
 have F:=Fin.app (G:=gQ W0) (pre:=jm) (rest:=[]) (fun qq qq qq h=>h) (bz.cn (B.mp fun fl σ z=>?_))
 ·rwa[dW] at F
 ·have z:(isTrue fl).h:=z
  cases fl with
  |ret x=>
   cases x with
   |bool b=>cases b with
    |true=>rfl
    |false=>exact z.elim
   |_=>exact z.elim
  |_=>exact z.elim
theorem Jg{st n:Nat}{r:Row}{kd:SV}(h:(head W0 st r n kd).c=true){fa':List Fact}(ok':aI W0.η fa')(k:Fin (gQ W0) jm (iP r.follow (gh r n) kd fa')):Fin (gQ W0) (qN++jm) (stH st r n kd):=by
 have B:=(cY (ex 60 (GH (WS W0))) qN (stH st r n kd) (BP W0 r.follow (gh r n) kd)).ok (Tr.r8 h) (acW he kf)
 refine Fin.app (G:=gQ W0) (fun qq qq qq h=>h) (bz.cn (B.mp fun fl σ z=>?_))
 have z:(BP W0 r.follow (gh r n) kd fl σ).h:=z
 cases fl with
 |next=>
  have z2:(@aj (fun qq=>Tr) .ff .tt (t7 W0 (xD r.follow) (objE r.follow (gh r n) kd) (Bt σ (aB r.follow 9) 60 [i8 (s "t") σ,i8 (s "u") σ] [i8 (s "t") σ,i8 (s "u") σ]) σ)).h:=z
  cases q:t7 W0 (xD r.follow) (objE r.follow (gh r n) kd) (Bt σ (aB r.follow 9) 60 [i8 (s "t") σ,i8 (s "u") σ] [i8 (s "t") σ,i8 (s "u") σ]) σ with
  |false=>rw[q] at z2;exact z2.elim
  |true=>
   intro c ρ s a
   obtain⟨ρ',R⟩:=aax q a.toRepS ok'
   exact k c ρ' s ⟨R,a.cs,a.ok,a.tk,a.rx,fun x hx=>Om.nm hx,fun h=>Om.nb h⟩
 |_=>exact z.elim
end
theorem Each.BY{α:Type}{R:α→α→Prop}(h:∀x,R x x):∀l:List α,Each R l l:=fun l=>by
 induction l with
 |nil=>exact .nil
 |cons x l ih=>exact .cons (h x) ih
noncomputable abbrev BZ (D:Wd) (o' o:SO):Prop:=∀X ρ a l,OR D X ρ a o l→OR D X ρ a o' l
theorem aD.objs{D:Wd}{loc:List (Str×SV)}{os os':List SO}{fa:List Fact}(h:Each (BZ D) os' os):aD D ⟨loc,.b os,fa⟩ ⟨loc,.b os',fa⟩:=fun c ρ s R=>by
 obtain⟨⟨m,⟨ls,ad,l1,l2,g,gr,F,N⟩,hl⟩,tp,fa⟩:=R
 exact⟨⟨m,⟨ls,ad,Each.comp (fun qq qq qq q r=>q _ _ _ _ r) h l1,l2,g,gr,F,N⟩,hl⟩,tp,fa⟩
theorem Jh{D:Wd}{k:Int}(h:D.η.i 7 (D.η.v 7)=k){fl:SV}{d:Nat}:BZ D (xB (.int k) fl d) (xB iz fl d):=fun X ρ a l r=>by
 have r:kD (nN D) (dz D ρ [(s "type",iz),(s "name",.tm (tv 1)),(s "data",.obj d),(s "selfClosing",fl)]) a l:=r
 obtain⟨o,kvs,e,q,f⟩:=r
 cases f with
 |cons f1 f=>
  refine⟨o,_,e,q,.cons ⟨f1.k,?_⟩ f⟩
  obtain⟨t,ev⟩:=f1.v
  exact⟨t,ev.trans (congrArg (jf · t) h)⟩
theorem Ji{D:Wd}{k:Int}(h:D.η.i 7 (D.η.v 7)=k){f n:Nat}{fa:List Fact}:aD D (iP f n iz fa) (iP f n (.int k) fa):=by
 refine aD.objs ?_
 have rf:∀o,BZ D o o:=fun o X ρ a l r=>r
 unfold objE
 cases aB f 9 with
 |true=>exact Each.BY rf _
 |false=>
  exact Each.app (Each.app (.cons (rf _) (.cons (rf _) (.cons (rf _) (.cons (rf _) (.cons (rf _) (.cons (Jh h) (.cons (rf _) (.cons (rf _) (.cons (rf _) (.cons (rf _) (.cons (Jh h) (.cons (rf _) (.cons (rf _) (.one (rf _))))))))))))))) (Each.BY rf _)) (Each.BY rf _)
end
end Lw
end
namespace Lw
theorem acX(W0:Ex.Wd):fi W0 0 0=true:=by kernel_rfl
theorem acY(W0:Ex.Wd):fi W0 0 1=true:=by kernel_rfl
theorem acZ(W0:Ex.Wd):fi W0 0 2=true:=by kernel_rfl
theorem ac0(W0:Ex.Wd):fi W0 0 3=true:=by kernel_rfl
end Lw
namespace Lw
theorem ac1(W0:Ex.Wd):fi W0 1 1=true:=by kernel_rfl
theorem ac2(W0:Ex.Wd):fi W0 1 2=true:=by kernel_rfl
theorem ac3(W0:Ex.Wd):fi W0 1 3=true:=by kernel_rfl
end Lw
namespace Lw
theorem ac4(W0:Ex.Wd):fi W0 2 1=true:=by kernel_rfl
theorem ac5(W0:Ex.Wd):fi W0 2 2=true:=by kernel_rfl
theorem ac6(W0:Ex.Wd):fi W0 2 3=true:=by kernel_rfl
end Lw
namespace Lw
theorem ac7(W0:Ex.Wd):fi W0 3 1=true:=by kernel_rfl
theorem ac8(W0:Ex.Wd):fi W0 3 2=true:=by kernel_rfl
theorem ac9(W0:Ex.Wd):fi W0 3 3=true:=by kernel_rfl
theorem ada(W0:Ex.Wd):fi W0 4 0=true:=by kernel_rfl
theorem adb(W0:Ex.Wd):fi W0 4 1=true:=by kernel_rfl
theorem ade(W0:Ex.Wd):fi W0 4 2=true:=by kernel_rfl
theorem adf(W0:Ex.Wd):fi W0 4 3=true:=by kernel_rfl
end Lw
namespace Lw
theorem adg(W0:Ex.Wd):dG W0 0 0=true:=by kernel_rfl
theorem adh(W0:Ex.Wd):dG W0 0 1=true:=by kernel_rfl
theorem adi(W0:Ex.Wd):dG W0 0 2=true:=by kernel_rfl
theorem adj(W0:Ex.Wd):dG W0 0 3=true:=by kernel_rfl
theorem adk(W0:Ex.Wd):dG W0 1 1=true:=by kernel_rfl
theorem adl(W0:Ex.Wd):dG W0 1 2=true:=by kernel_rfl
theorem adm(W0:Ex.Wd):dG W0 1 3=true:=by kernel_rfl
theorem adn(W0:Ex.Wd):dG W0 2 1=true:=by kernel_rfl
theorem ado(W0:Ex.Wd):dG W0 2 2=true:=by kernel_rfl
theorem adp(W0:Ex.Wd):dG W0 2 3=true:=by kernel_rfl
theorem adq(W0:Ex.Wd):dG W0 4 0=true:=by kernel_rfl
theorem ads(W0:Ex.Wd):dG W0 4 1=true:=by kernel_rfl
theorem adt(W0:Ex.Wd):dG W0 4 2=true:=by kernel_rfl
theorem adu(W0:Ex.Wd):dG W0 4 3=true:=by kernel_rfl
theorem adv(W0:Ex.Wd):dG W0 5 1=true:=by kernel_rfl
theorem adw(W0:Ex.Wd):dG W0 5 2=true:=by kernel_rfl
theorem adx(W0:Ex.Wd):dG W0 5 3=true:=by kernel_rfl
theorem ady(W0:Ex.Wd):dG W0 5 4=true:=by kernel_rfl
theorem adz(W0:Ex.Wd):dG W0 8 1=true:=by kernel_rfl
theorem adA(W0:Ex.Wd):dG W0 8 2=true:=by kernel_rfl
theorem adB(W0:Ex.Wd):dG W0 8 3=true:=by kernel_rfl
end Lw
namespace Lw
theorem adC(W0:Ex.Wd):ni W0 6 1=true:=by kernel_rfl
theorem adD(W0:Ex.Wd):ni W0 6 2=true:=by kernel_rfl
theorem adF(W0:Ex.Wd):ni W0 6 3=true:=by kernel_rfl
theorem adG(W0:Ex.Wd):ni W0 7 1=true:=by kernel_rfl
theorem adH(W0:Ex.Wd):ni W0 7 2=true:=by kernel_rfl
theorem adI(W0:Ex.Wd):ni W0 7 3=true:=by kernel_rfl
theorem adJ(W0:Ex.Wd):ni W0 9 0=true:=by kernel_rfl
theorem adK(W0:Ex.Wd):dH W0 0 0=true:=by kernel_rfl
theorem adL(W0:Ex.Wd):dH W0 0 1=true:=by kernel_rfl
theorem adM(W0:Ex.Wd):dH W0 0 2=true:=by kernel_rfl
theorem adN(W0:Ex.Wd):dH W0 0 3=true:=by kernel_rfl
theorem adO(W0:Ex.Wd):dH W0 1 1=true:=by kernel_rfl
theorem adP(W0:Ex.Wd):dH W0 1 2=true:=by kernel_rfl
theorem adQ(W0:Ex.Wd):dH W0 1 3=true:=by kernel_rfl
theorem adR(W0:Ex.Wd):dH W0 2 1=true:=by kernel_rfl
theorem adS(W0:Ex.Wd):dH W0 2 2=true:=by kernel_rfl
theorem adT(W0:Ex.Wd):dH W0 2 3=true:=by kernel_rfl
end Lw
namespace Lw
theorem adU(W0:Ex.Wd):dH W0 4 0=true:=by kernel_rfl
theorem adV(W0:Ex.Wd):dH W0 4 1=true:=by kernel_rfl
theorem adW(W0:Ex.Wd):dH W0 4 2=true:=by kernel_rfl
theorem adX(W0:Ex.Wd):dH W0 4 3=true:=by kernel_rfl
theorem adY(W0:Ex.Wd):dH W0 5 1=true:=by kernel_rfl
theorem adZ(W0:Ex.Wd):dH W0 5 2=true:=by kernel_rfl
theorem ad0(W0:Ex.Wd):dH W0 5 3=true:=by kernel_rfl
theorem ad1(W0:Ex.Wd):dH W0 5 4=true:=by kernel_rfl
theorem ad4(W0:Ex.Wd):dH W0 8 1=true:=by kernel_rfl
theorem ad5(W0:Ex.Wd):dH W0 8 2=true:=by kernel_rfl
theorem ad6(W0:Ex.Wd):dH W0 8 3=true:=by kernel_rfl
end Lw
section
namespace Lw
open Ex Tb
noncomputable section
noncomputable def B0:List (Nat×Nat):=[(0,0),(0,1),(0,2),(0,3),(1,1),(1,2),(1,3),(2,1),(2,2),(2,3),(4,0),(4,1),(4,2),(4,3),(5,1),(5,2),(5,3),(5,4),(8,1),(8,2),(8,3)]
noncomputable def rL:List (Nat×Nat):=[(6,1),(6,2),(6,3),(7,1),(7,2),(7,3),(9,0)]
noncomputable def hL:List (Nat×Nat):=[(0,0),(0,1),(0,2),(0,3),(1,1),(1,2),(1,3),(2,1),(2,2),(2,3),(3,1),(3,2),(3,3),(4,0),(4,1),(4,2),(4,3)]
theorem ad7(W0:Wd):∀p∈B0,dG W0 p.1 p.2=true∧dH W0 p.1 p.2=true:=(ay ⟨adg W0,adK W0⟩ (ay ⟨adh W0,adL W0⟩ (ay ⟨adi W0,adM W0⟩ (ay ⟨adj W0,adN W0⟩ (ay ⟨adk W0,adO W0⟩ (ay ⟨adl W0,adP W0⟩ (ay ⟨adm W0,adQ W0⟩ (ay ⟨adn W0,adR W0⟩ (ay ⟨ado W0,adS W0⟩ (ay ⟨adp W0,adT W0⟩ (ay ⟨adq W0,adU W0⟩ (ay ⟨ads W0,adV W0⟩ (ay ⟨adt W0,adW W0⟩ (ay ⟨adu W0,adX W0⟩ (ay ⟨adv W0,adY W0⟩ (ay ⟨adw W0,adZ W0⟩ (ay ⟨adx W0,ad0 W0⟩ (ay ⟨ady W0,ad1 W0⟩ (ay ⟨adz W0,ad4 W0⟩ (ay ⟨adA W0,ad5 W0⟩ (ay ⟨adB W0,ad6 W0⟩ dS)))))))))))))))))))))
theorem Jj(W0:Wd):∀p∈rL,ni W0 p.1 p.2=true:=(ay (adC W0) (ay (adD W0) (ay (adF W0) (ay (adG W0) (ay (adH W0) (ay (adI W0) (ay (adJ W0) dS)))))))
theorem ad8(W0:Wd):∀p∈hL,fi W0 p.1 p.2=true:=(ay (acX W0) (ay (acY W0) (ay (acZ W0) (ay (ac0 W0) (ay (ac1 W0) (ay (ac2 W0) (ay (ac3 W0) (ay (ac4 W0) (ay (ac5 W0) (ay (ac6 W0) (ay (ac7 W0) (ay (ac8 W0) (ay (ac9 W0) (ay (ada W0) (ay (adb W0) (ay (ade W0) (ay (adf W0) dS)))))))))))))))))
theorem ad9:∀(st:Fin 5) (n:Fin 4),(n.val=0→st.val=0∨st.val=4)→(st.val,n.val)∈hL:=by decide
noncomputable def xX (p:Nat×Nat) (r:Row):Bool:=(!xV r||aB r.follow 9)&&((B0.any fun q=>aB q.1 r.follow&&aB q.2 (gh r p.2))||rL.any fun q=>aB q.1 r.follow&&(aB r.follow 9||aB q.2 (gh r p.2)))
theorem aea:(hL.all fun p=>(iA p.1).all (xX p))=true:=by kernel_rfl
theorem aeb:iU.body=lS 0::lS 1::lS 2::lS 3::lS 4::lS 5::lS 6::lS 7::lS 8::lS 9::lS 10::lS 11::lS 12::lS 13::lS 14::lS 15::(qN++jm):=by kernel_rfl
theorem Jk(m:Int):kdOf m=3∨kdOf m=4:=by
 unfold kdOf
 cases !decide (m.fmod 2=0)
 ·exact .inl rfl
 ·exact .inr rfl
section
variable{W0:Wd}(he:xW W0.η)(kf:Kf W0)(hno:W0.η.p 3 ((W0.η.v 8).drop 1)=true)
include he kf hno
omit he kf in
theorem Jo:aI W0.η xE:=ay hno dS
theorem aec(hkd:W0.η.i 7 (W0.η.v 7)=3∨W0.η.i 7 (W0.η.v 7)=4){f n:Nat}(h:(f,n)∈B0):∃fa',aI W0.η fa'∧Fin (gQ W0) jm (iP f n iz fa'):=by
 obtain⟨hA,hB⟩:=ad7 W0 _ h
 cases e:aZ W0.η 1 [62] ((W0.η.v 8).take 1) [] with
 |false=>exact⟨IW,ay hno (ay e dS),uw he kf hA⟩
 |true=>
  have hne:aZ W0.η 0 [] (W0.η.v 8) []=true:=by
   cases q:W0.η.v 8 with
   |nil=>rw[q] at e;cases e
   |cons _ _=>rfl
  have hB:((tail (WS W0) f n (.int 3) ua).c&&(tail (WS W0) f n (.int 4) ua).c)=true:=hB
  rw[aY] at hB
  refine⟨ua,ay hno (ay e (ay hne dS)),?_⟩
  rcases hkd with k|k
  ·exact Fin.less (G:=gQ W0) (Ji (D:=WS W0) k) (uw he kf hB.1)
  ·exact Fin.less (G:=gQ W0) (Ji (D:=WS W0) k) (uw he kf hB.2)
theorem Jp(hkd:W0.η.i 7 (W0.η.v 7)=3∨W0.η.i 7 (W0.η.v 7)=4){p:Nat×Nat}{r:Row}(h:xX p r=true){kd:SV}(hk:kd=iz∨xV r=true):∃fa',aI W0.η fa'∧Fin (gQ W0) jm (iP r.follow (gh r p.2) kd fa'):=by
 unfold xX at h
 rw[aY,iI,iI] at h
 obtain⟨h9,h⟩:=h
 have nine:r.follow=9→∃fa',aI W0.η fa'∧Fin (gQ W0) jm (iP r.follow (gh r p.2) kd fa'):=fun e=>by
  rw[e]
  exact⟨xE,Jo hno,uw he kf (Jj W0 (9,0) (by decide))⟩
 rcases hk with rfl|hk
 ·rcases h with h|h
  ·obtain⟨q,hq,e⟩:=yz.mp h
   rw[aY] at e
   rw[←bh e.1,←bh e.2]
   exact aec he kf hno hkd hq
  ·obtain⟨q,hq,e⟩:=yz.mp h
   rw[aY,iI] at e
   rcases e.2 with e2|e2
   ·exact nine (bh e2)
   ·rw[←bh e.1,←bh e2]
    exact⟨xE,Jo hno,uw he kf (Jj W0 q hq)⟩
 ·rcases h9 with h9|h9
  ·rw[hk] at h9;cases h9
  ·exact nine (bh h9)
theorem aed{ns:List Int}{st n:Nat}{r:Row}(hh:qU W0.η ns n r)(hp:(st,n)∈hL)(hr:r∈iA st):∃kv,(kv=.int (kdOf (qO ns))∨kv=iz)∧bZ kv=true∧Fin (gQ W0) (qN++jm) (stH st r n kv):=by
 have hkd:W0.η.i 7 (W0.η.v 7)=3∨W0.η.i 7 (W0.η.v 7)=4:=by rw[hh.lw.kd];exact Jk _
 have hto:xX (st,n) r=true:=bH.mp (bH.mp aea _ hp) r hr
 have hb:qD W0 st n r=true:=bH.mp (ad8 W0 _ hp) r hr
 cases e:xV r with
 |false=>
  have hb:(head W0 st r n iz).c=true:=by unfold qD at hb;rw[e] at hb;exact hb
  obtain⟨fa',ok',k⟩:=Jp he kf hno hkd hto (kd:=iz) (.inl rfl)
  exact⟨iz,.inr rfl,rfl,Jg he kf hb ok' k⟩
 |true=>
  have hb:((head W0 st r n (.int 3)).c&&(head W0 st r n (.int 4)).c)=true:=by unfold qD at hb;rw[e] at hb;exact hb
  rw[aY] at hb
  obtain⟨fa',ok',k⟩:=Jp he kf hno hkd hto (kd:=.int (kdOf (qO ns))) (.inr e)
  refine⟨_,.inl rfl,rfl,Jg he kf ?_ ok' k⟩
  rcases Jk (qO ns) with q|q
  ·rw[q];exact hb.1
  ·rw[q];exact hb.2
theorem aee{a:Addr}{ns:List Int}{st n:Nat}{r:Row}(hh:qU W0.η ns n r)(hs:m8 W0.K a ns)(hl:ns.length≤1000)(hst:ee ns=st)(hct:fh ns=n)(hn:n≤3)(hp:(st,n)∈hL)(hal:∀c∈aX (ck ns),c∈gg)(hr:xM st ((aX (ck ns)).take 1) r):
 Fin (gP W0) iU.body ⟨[(s "script",.val (.ref a))],.b (c0 none),[]⟩:=by
 obtain⟨kv,hkv,hfl,k⟩:=aed he kf hno hh hp hr.mem
 have hlen:=xP ns
 rw[aeb]
 refine abN hs hl fun os h0=>abP hs hl h0 fun os h0=>abW h0 fun os h0=>ab5 h0 (by rw[hct];exact Om.Qi hn) (by rw[hct];exact Om.Qj hn) fun os j ts hP=>acf hs hl (by kernel_rfl) fun os' hk=>?_
 have ec:(fh ns).toNat=n:=by rw[hct];rfl
 rw[ec] at hP
 refine ach hh.lw hn (hP.keep hk) hkv (aco hlen ?_)
 rw[hst]
 refine acq hr (os0:=.b (jn r n)) (fun qq qq h=>h) fun os hk=>acD (ah (St.om _) hlen) hal hr.is (BV hr.mem) (acK hh hn hr.mem hfl hk k)
end
end
end Lw
end
section
namespace Lw
open Ex Tb St
noncomputable section
noncomputable def dI (v:Nat→List Nat) (c:Nat) (kd:Int) (fl:Bool) (o r:List Nat) (m:Nat):Ev where
 v:=v
 c:=fun qq=>c
 f:=fun k l=>if k=10 then aX l else if k=11 then l.map d8 else if k=12 then(j8 fl).cps.toList else if k=20 then o else if k=21 then r else if k=22 then(gU (ai l) Tb.bU).cps.toList else[]
 i:=fun k l=>if k=0 then((goes (0,0) l).1:Int)+1 else if k=1 then((goes (0,0) l).2:Int) else if k=2 then l.length else kd
 p:=fun k l=>if k=3 then !aH 35 l else if k=5 then fl else if k=20 then !aB m 0 else if k=21 then aB m 1 else if k=22 then hkp (ai l) else bT (ai l) Tb.bU
noncomputable def j9 (l:List Nat):Bool:=av l.length 100&&l.all fun c=>cW c 1114112&&mR c
noncomputable def dJ:Tm→Bool:=Tm.rec true fun k l qq qq a b=>if k=0 then av l.length 1&&l.all (cW · 1114112) else if k=1 then true else if k=2 then true else if k=3 then a else if k=4 then a else if k=5 then a&&b else if k=22 then a else false
noncomputable def o9:Tm→Nat:=Tm.rec 0 fun k l qq qq a b=>if k=0 then l.length else if k=1 then 100 else if k=5 then a+b else if k=22 then 10 else if k=4 then a else 1
inductive TgV (t:Tm):Prop
 |e (h:t=.e)
 |l (l:List Nat) (a b:Tm) (h:t=.n 0 l a b) (q:l.length≤1) (q2:∀c∈l,c<1114112)
 |v (l:List Nat) (a b:Tm) (h:t=.n 1 l a b)
 |c (l:List Nat) (a b:Tm) (h:t=.n 2 l a b)
 |h (l:List Nat) (a b:Tm) (h:t=.n 3 l a b) (q:dJ a=true)
 |t (l:List Nat) (a b:Tm) (h:t=.n 4 l a b) (q:dJ a=true)
 |k (l:List Nat) (a b:Tm) (h:t=.n 5 l a b) (q:dJ a=true) (q2:dJ b=true)
 |g (l:List Nat) (a b:Tm) (h:t=.n 22 l a b) (q:dJ a=true)
theorem Jq{t:Tm}(h:dJ t=true):TgV t:=by
 cases t with
 |e=>exact .e rfl
 |n k l a b=>
  have h':(if k=0 then av l.length 1&&l.all (cW · 1114112) else if k=1 then true else if k=2 then true else if k=3 then dJ a else if k=4 then dJ a else if k=5 then dJ a&&dJ b else if k=22 then dJ a else false)=true:=h
  by_cases e:k=0
  ·subst e
   rw[if_pos rfl,aY] at h'
   exact .l l a b rfl (ao h'.1) fun c hc=>ao (bH.mp h'.2 c hc)
  rw[if_neg e] at h'
  by_cases e:k=1
  ·subst e;exact .v l a b rfl
  rw[if_neg e] at h'
  by_cases e:k=2
  ·subst e;exact .c l a b rfl
  rw[if_neg e] at h'
  by_cases e:k=3
  ·subst e;rw[if_pos rfl] at h';exact .h l a b rfl h'
  rw[if_neg e] at h'
  by_cases e:k=4
  ·subst e;rw[if_pos rfl] at h';exact .t l a b rfl h'
  rw[if_neg e] at h'
  by_cases e:k=5
  ·subst e;rw[if_pos rfl,aY] at h';exact .k l a b rfl h'.1 h'.2
  rw[if_neg e] at h'
  by_cases e:k=22
  ·subst e;rw[if_pos rfl] at h';exact .g l a b rfl h'
  rw[if_neg e] at h'
  cases h'
theorem B3(n:Str):(gU n Tb.bU).cps.toList.length≤10∧∀c∈(gU n Tb.bU).cps.toList,c<1114112:=by
 have:∀D:List (Str×Str),(D.all fun z=>av z.2.length 10&&z.2.cps.toList.all fun c=>cW c 1114112)=true→(gU n D).cps.toList.length≤10∧∀c∈(gU n D).cps.toList,c<1114112:=fun D=>by
  induction D with
  |nil=>exact fun qq=>⟨ef _,fun c hc=>(by cases hc)⟩
  |cons z D ih=>
   intro h
   rw[nD,aY,aY] at h
   show(@aj (fun qq=>Str) (gU n D) z.2 (seq n z.1)).cps.toList.length≤10∧∀c∈(@aj (fun qq=>Str) (gU n D) z.2 (seq n z.1)).cps.toList,c<1114112
   cases seq n z.1 with
   |true=>exact⟨ao h.1.1,fun c hc=>ao (bH.mp h.1.2 c hc)⟩
   |false=>exact ih h.2
 refine this _ (bH.mpr fun z hz=>?_)
 have:=bH.mp Ib z hz
 simp only[aY] at this⊢
 exact this.2.2
section
variable{v:Nat→List Nat}{c:Nat}{kd:Int}{fl:Bool}{o r o' r':List Nat}{m m':Nat}
theorem B4:∀t:Tm,dJ t=true→t.ev (dI v c kd fl o r m)=t.ev (dI v c kd fl o' r' m'):=fun t=>by
 induction t with
 |e=>exact fun qq=>rfl
 |n k l a b iha ihb=>
  intro h
  cases Jq h with
  |e h=>cases h
  |l _ _ _ h=>cases h;rfl
  |v _ _ _ h=>cases h;rfl
  |c _ _ _ h=>cases h;rfl
  |h _ _ _ h q=>cases h;exact congrArg (List.take 1) (iha q)
  |t _ _ _ h q=>cases h;exact congrArg (List.drop 1) (iha q)
  |k _ _ _ h q q2=>
   cases h
   show Tm.ev _ a++Tm.ev _ b=Tm.ev _ a++Tm.ev _ b
   rw[iha q,ihb q2]
  |g _ _ _ h q=>cases h;exact congrArg (fun l=>(gU (ai l) Tb.bU).cps.toList) (iha q)
theorem Jr(hv:∀i,(v i).length≤100∧∀z∈v i,z<1114112)(hc:c<1114112):∀t:Tm,dJ t=true→(t.ev (dI v c kd fl o r m)).length≤o9 t∧∀z∈t.ev (dI v c kd fl o r m),z<1114112:=fun t=>by
 induction t with
 |e=>exact fun qq=>⟨az _,fun z hz=>Om.nm hz⟩
 |n k l a b iha ihb=>
  intro h
  cases Jq h with
  |e h=>cases h
  |l _ _ _ h q q2=>cases h;exact⟨az _,q2⟩
  |v _ _ _ h=>cases h;exact hv _
  |c _ _ _ h=>cases h;exact⟨az _,fun z hz=>(by rw[dU.mp hz];exact hc)⟩
  |h _ _ _ h q=>cases h;exact⟨yo _ _,fun z hz=>(iha q).2 z (List.take_subset _ _ hz)⟩
  |t _ _ _ h q=>cases h;exact⟨ah (J5 1 _).length_le (iha q).1,fun z hz=>(iha q).2 z (uN _ _ hz)⟩
  |k _ _ _ h q q2=>cases h;exact⟨ah (aA bG) (dm (iha q).1 (ihb q2).1),fun z hz=>(f7.mp hz).elim ((iha q).2 z) ((ihb q2).2 z)⟩
  |g _ _ _ h q=>cases h;exact B3 _
noncomputable def pe:DT→Bool:=DT.rec (fun o r qq=>dJ o&&(dJ r&&(av (o9 o) 1000&&av (o9 r) 1000))) fun k qq a qq qq y n=>dJ a&&((if k=20 then false else if k=21 then false else true)&&(y&&n))
theorem aeg{d:DT}(h:pe d=true):d.ev (dI v c kd fl o r m)=d.ev (dI v c kd fl o' r' m'):=by
 induction d with
 |leaf o1 r1 m1=>
  have h':(dJ o1&&(dJ r1&&(av (o9 o1) 1000&&av (o9 r1) 1000)))=true:=h
  rw[aY,aY] at h'
  show(_,_,_)=(_,_,_)
  rw[B4 o1 h'.1,B4 r1 h'.2.1]
 |ask k l a y n ihy ihn=>
  have h':(dJ a&&((if k=20 then false else if k=21 then false else true)&&(pe y&&pe n)))=true:=h
  rw[aY,aY,aY] at h'
  obtain⟨h1,h2,h3,h4⟩:=h'
  rw[i9,i9,ihy h3,ihn h4,B4 a h1 (o:=o) (o':=o') (r:=r) (r':=r') (m:=m) (m':=m')]
  have hk:∀a,aZ (dI v c kd fl o r m) k l a []=aZ (dI v c kd fl o' r' m') k l a []:=fun a=>by
   by_cases e:k=20
   ·rw[if_pos e] at h2;cases h2
   by_cases e2:k=21
   ·rw[if_neg e,if_pos e2] at h2;cases h2
   have hp:(dI v c kd fl o r m).p k a=(dI v c kd fl o' r' m').p k a:=by
    show(if k=3 then _ else if k=5 then _ else if k=20 then _ else if k=21 then _ else _)=(if k=3 then _ else if k=5 then _ else if k=20 then _ else if k=21 then _ else _)
    rw[if_neg e,if_neg e2,if_neg e,if_neg e2]
   match k with
   |0=>rfl
   |1=>rfl
   |2=>rfl
   |_+3=>exact hp
  rw[hk]
theorem aeh(hv:∀i,(v i).length≤100∧∀z∈v i,z<1114112)(hc:c<1114112){d:DT}(h:pe d=true):((d.ev (dI v c kd fl o r m)).1.length≤1000∧∀z∈(d.ev (dI v c kd fl o r m)).1,z<1114112)∧(d.ev (dI v c kd fl o r m)).2.1.length≤1000∧∀z∈(d.ev (dI v c kd fl o r m)).2.1,z<1114112:=by
 induction d with
 |leaf o1 r1 m1=>
  have h':(dJ o1&&(dJ r1&&(av (o9 o1) 1000&&av (o9 r1) 1000)))=true:=h
  rw[aY,aY,aY] at h'
  obtain⟨h1,h2,h3,h4⟩:=h'
  have b1:=Jr (kd:=kd) (fl:=fl) (o:=o) (r:=r) (m:=m) hv hc o1 h1
  have b2:=Jr (kd:=kd) (fl:=fl) (o:=o) (r:=r) (m:=m) hv hc r1 h2
  exact⟨⟨ah b1.1 (ao h3),b1.2⟩,ah b2.1 (ao h4),b2.2⟩
 |ask k l a y n ihy ihn=>
  have h':(dJ a&&((if k=20 then false else if k=21 then false else true)&&(pe y&&pe n)))=true:=h
  rw[aY,aY,aY] at h'
  obtain⟨_,_,h3,h4⟩:=h'
  rw[i9]
  cases aZ (dI v c kd fl o r m) k l (a.ev (dI v c kd fl o r m)) [] with
  |true=>exact ihy h3
  |false=>exact ihn h4
end
theorem Jt:pe (mainD 9 1)=true:=by kernel_rfl
end
end Lw
end
section
namespace Lw
open Ex Tb St
noncomputable section
theorem B5:∀{l:List Nat} {c:Nat},c∈crlf l→c∈l
 |[],c,h=>h
 |[a],c,h=>by
  by_cases e:a=13
  ·subst e;exact h
  ·exact(by simpa[crlf] using h)
 |a::b::r,c,h=>by
  by_cases e:a=13∧b=10
  ·obtain⟨rfl,rfl⟩:=e
   rw[crlf] at h
   rcases bV.mp h with rfl|h
   ·exact .tail _ (.head _)
   ·exact .tail _ (.tail _ (B5 h))
  ·have e2:crlf (a::b::r)=a::crlf (b::r):=by
    rw[crlf]
    intro r' h1 h2
    cases h2
    exact e ⟨h1,rfl⟩
   rw[e2] at h
   rcases bV.mp h with rfl|h
   ·exact .head _
   ·exact .tail _ (B5 h)
theorem Ju:∀{l:List Nat},13∉l→crlf l=l
 |[],_=>rfl
 |a::r,h=>by
  have e1:a≠13:=fun e=>h (e▸.head _)
  have e2:crlf (a::r)=a::crlf r:=by
   rw[crlf]
   intro r' h1
   exact absurd h1 e1
  rw[e2,Ju fun hc=>h (.tail _ hc)]
theorem Jv{l:List Nat}{c:Nat}(h:c∈aX l):c=10∨(c∈l∧c≠13):=by
 obtain⟨d,hd,rfl⟩:=dh.mp h
 by_cases e:d=13
 ·rw[if_pos e];exact .inl rfl
 ·rw[if_neg e];exact .inr ⟨B5 hd,e⟩
theorem aei{l:List Nat}(h:13∉l):aX l=l:=by
 unfold aX
 rw[Ju h]
 conv=>rhs;rw[←C3 l]
 refine uI fun c hc=>?_
 have hne:c≠13:=fun e=>h (by rw[←e];exact hc)
 rw[if_neg hne];rfl
theorem xY{x:Nat}{l:List Nat}(h:aH x l=true):x∈l:=zQ h
theorem aej{x:Nat}{l:List Nat}(h:x∈l):aH x l=true:=by
 induction l with
 |nil=>cases h
 |cons y l ih=>
  rw[gp]
  rcases bV.mp h with rfl|h
  ·rw[uU];rfl
  ·rw[ih h,Bool.or_true]
theorem Jw{ns:List Int}{c:Nat}(h:c∈ck ns):c=13∨c∈gg:=by
 obtain⟨n,hn,hc⟩:=Cv.mp (show c∈Kz _ _ from h)
 have:=bH.mp IZ _ (I6 n)
 rw[aY] at this
 have:=bH.mp this.2 c hc
 rw[iI] at this
 exact this.elim (fun e=>.inl (bh e)) fun e=>.inr (xY e)
theorem alpha(ns:List Int):∀c∈aX (ck ns),c∈gg:=fun c hc=>by
 rcases Jv hc with rfl|⟨h,e⟩
 ·exact xY (by decide)
 ·exact(Jw h).resolve_left e
structure aek (c:Nat):Prop where
 z:c<1114112
 lE:c≠13
 xU:c≠35
 s:mR c=true
theorem nj{c:Nat}(h:c∈gg):aek c:=by
 have:=bH.mp abA c h
 simp only[aY,Cr] at this
 exact⟨ao this.1,fun e=>(by rw[e] at this;cases this.2.1),fun e=>(by rw[e] at this;cases this.2.2.1),this.2.2.2⟩
theorem B6{l:List Nat}(hz:l.length≤100)(h:∀c∈l,c<1114112∧mR c=true):j9 l=true:=by
 unfold j9
 rw[aY]
 refine⟨yh hz,bH.mpr fun c hc=>?_⟩
 rw[aY]
 exact⟨yh (h c hc).1,(h c hc).2⟩
structure c6 (l:List Nat):Prop where
 z:l.length≤100
 c:∀c∈l,c<1114112
 s:∀c∈l,c<55296∨57343<c
theorem c6.of{l:List Nat}(h:j9 l=true):c6 l:=by
 unfold j9 at h
 rw[aY] at h
 refine⟨ao h.1,fun c hc=>?_,fun c hc=>?_⟩<;>have:=bH.mp h.2 c hc<;>rw[aY] at this
 ·exact ao this.1
 ·exact A7 this.2
theorem c6.al{l:List Nat}(hz:l.length≤100)(h:∀c∈l,c∈gg):c6 l:=.of (B6 hz fun c hc=>⟨(nj (h c hc)).z,(nj (h c hc)).s⟩)
noncomputable def Jx (P:List (List Nat×List Nat)) (i:Nat):List Nat:=if i%2=0 then(P.getD ((i-10)/2) ([],[])).1 else(P.getD ((i-10)/2) ([],[])).2
noncomputable def pg (tl nm v8 v9 old:List Nat) (P:List (List Nat×List Nat)) (i:Nat):List Nat:=if i=0 then tl else if i=1 then nm else if i=8 then v8 else if i=9 then v9 else if i=30 then old else Jx P i
section
variable{tl nm v8 v9 old:List Nat}{P:List (List Nat×List Nat)}
theorem ael{k:Nat}(h:k<10):pg tl nm v8 v9 old P (10+2*k)=(P.getD k ([],[])).1:=Om.DQ (n:=10) (p:=fun k=>pg tl nm v8 v9 old P (10+2*k)=(P.getD k ([],[])).1) ⟨⟨⟨⟨⟨⟨⟨⟨⟨⟨trivial,rfl⟩,rfl⟩,rfl⟩,rfl⟩,rfl⟩,rfl⟩,rfl⟩,rfl⟩,rfl⟩,rfl⟩ h
theorem aem{k:Nat}(h:k<9):pg tl nm v8 v9 old P (11+2*k)=(P.getD k ([],[])).2:=Om.DQ (n:=9) (p:=fun k=>pg tl nm v8 v9 old P (11+2*k)=(P.getD k ([],[])).2) ⟨⟨⟨⟨⟨⟨⟨⟨⟨trivial,rfl⟩,rfl⟩,rfl⟩,rfl⟩,rfl⟩,rfl⟩,rfl⟩,rfl⟩,rfl⟩ h
theorem aen(h0:c6 tl)(h1:c6 nm)(h8:c6 v8)(h9:c6 v9)(h30:c6 old)(hP:∀p∈P,c6 p.1∧c6 p.2)(i:Nat):c6 (pg tl nm v8 v9 old P i):=by
 unfold pg
 split
 ·exact h0
 split
 ·exact h1
 split
 ·exact h8
 split
 ·exact h9
 split
 ·exact h30
 have hg:∀j,c6 (P.getD j ([],[])).1∧c6 (P.getD j ([],[])).2:=fun j=>by
  rw[kc]
  cases e:P[j]? with
  |none=>exact⟨.of (by decide),.of (by decide)⟩
  |some p=>exact hP p (fZ e)
 unfold Jx
 split
 ·exact(hg _).1
 ·exact(hg _).2
end
theorem aeo{c:Nat}(h:c<1114112):d8 c<1114112:=by
 unfold d8
 split<;>omega
theorem Jy:∀b,(j8 b).cps.toList.length≤3∧∀c∈(j8 b).cps.toList,c<1114112:=by
 intro b
 have:∀b,(av (j8 b).cps.toList.length 3&&(j8 b).cps.toList.all (cW · 1114112))=true:=fun b=>by cases b<;>kernel_rfl
 have:=this b
 rw[aY] at this
 exact⟨ao this.1,fun c hc=>ao (bH.mp this.2 c hc)⟩
theorem aep{v:Nat→List Nat}{c:Nat}{kd:Int}{fl:Bool}{o r:List Nat}{m:Nat}(hv:∀i,c6 (v i))(hc:c<1114112)(ho:o.length≤1000∧∀z∈o,z<1114112)(hr:r.length≤1000∧∀z∈r,z<1114112):nM (dI v c kd fl o r m):=by
 refine⟨fun i=>ah (hv i).z (by decide),fun k l=>?_,fun i=>(hv i).c,fun l=>rfl,fun qq=>hc,fun k l hl=>?_⟩
 ·show(if k=10 then _ else if k=11 then _ else if k=12 then _ else if k=20 then _ else if k=21 then _ else if k=22 then _ else _:List Nat).length≤_
  split
  ·have:=om l;exact Om.Qk this
  split
  ·rw[gE];exact Om.Ql
  split
  ·have:=(Jy fl).1;exact Om.Qm this
  split
  ·have:=ho.1;exact Om.DM ho
  split
  ·have:=hr.1;exact Om.DM hr
  split
  ·have:=(B3 (ai l)).1;exact Om.Qn this
  ·exact ef _
 ·show∀c∈(if k=10 then _ else if k=11 then _ else if k=12 then _ else if k=20 then _ else if k=21 then _ else if k=22 then _ else _:List Nat),c<1114112
  split
  ·intro c hc
   rcases Jv hc with rfl|⟨h,_⟩
   ·decide
   ·exact hl c h
  split
  ·intro c hc
   obtain⟨d,hd,rfl⟩:=dh.mp hc
   exact aeo (hl d hd)
  split
  ·exact(Jy fl).2
  split
  ·exact ho.2
  split
  ·exact hr.2
  split
  ·exact(B3 (ai l)).2
  ·intro c hc;cases hc
theorem aeq{v:Nat→List Nat}{c:Nat}{kd:Int}{fl:Bool}{o r:List Nat}{m:Nat}(hv:∀i,c6 (v i))(hc:c<55296∨57343<c)(hm:(mainD 9 1).ev (dI v c kd fl o r m)=(o,r,m)):xW (dI v c kd fl o r m) where
 pos:=⟨fun qq=>rfl,fun qq=>rfl⟩
 tx:=⟨fun qq=>rfl,fun i=>(hv i).s,fun qq=>hc⟩
 fl:=fun qq=>rfl
 en:=⟨fun qq=>rfl,fun qq=>rfl,fun l qq=>gT rfl⟩
 fin:=⟨fun l h h2=>(by
  have h':(!aH 35 l)=true:=h
  rw[aej h2] at h'
  cases h'),m,hm,rfl,rfl⟩
 low:=fun qq=>rfl
end
end Lw
end
section
namespace Lw
open Ex Tb St
noncomputable section
theorem aer:(hL.all fun p=>(iA p.1).all fun r=>(!bg r.aR (s "keep")||av 1 p.2)&&((!bg r.aR (s "back")||r.c.isSome)&&(!bg r.aR (s "new")||!bg r.aR (s "keep"))))=true:=by kernel_rfl
theorem aes:(uo.all fun k=>j9 k.cps.toList)=true:=by kernel_rfl
theorem aet:(BS.all fun k=>j9 k.cps.toList)=true:=by kernel_rfl
theorem aeu:((dK 3).all fun i=>j9 (iB i).cps.toList&&av (iB i).cps.toList.length 1)=true:=by kernel_rfl
theorem Jz{l:List Str}{j:Int}(h:(l.all fun k=>j9 k.cps.toList)=true)(h0:0≤j)(h1:j<l.length):c6 (l.getD j.toNat ⟨#[]⟩).cps.toList:=by
 have hj:j.toNat<l.length:=by exact Om.DH h0 h1
 rw[kc,iD hj]
 exact .of (bH.mp h _ (J9 hj))
noncomputable def jx (r:Row) (c:Nat):List Nat:=@aj (fun qq=>List Nat) [c] [65533] (f6 r.l [0])
noncomputable def qW (r:Row) (n i:Nat):Bool:=bg r.aR (s "keep")&&aB (i+1) n
noncomputable def nk (r:Row) (n c i:Nat):List Nat:=@aj (fun qq=>List Nat) (iB i).cps.toList ((iB i).cps.toList++jx r c) (qW r n i)
noncomputable def ph (m:Int) (r:Row) (n c:Nat):List (List Nat×List Nat):=(dK n).map (fun i=>((qS m i).cps.toList,nk r n c i))++@aj (fun qq=>List (List Nat×List Nat)) [] [(jx r c,[])] (bg r.aR (s "new"))
theorem B7{m:Int}{r:Row}{n c i:Nat}(h:i<n):(ph m r n c).getD i ([],[])=((qS m i).cps.toList,nk r n c i):=by
 unfold ph
 rw[kc,Cd (by simpa using h),rF,List.getElem?_range h];rfl
theorem JA{m:Int}{r:Row}{n c:Nat}(h:bg r.aR (s "new")=true):(ph m r n c).getD n ([],[])=(jx r c,[]):=by
 unfold ph
 rw[kc,fj (by simp),gE,yx,nE,h];rfl
noncomputable def dj (r:Row) (md:List Nat):List Nat:=@aj (fun qq=>List Nat) (@aj (fun qq=>List Nat) (md.drop 1) md (bg r.aR (s "back"))) ((md.drop 1).dropWhile (aH · spS)) (bg r.aR (s "skip"))
theorem B8(r:Row)(md:List Nat):∀c∈dj r md,c∈md:=fun c hc=>by
 unfold dj at hc
 cases e:bg r.aR (s "skip") with
 |true=>rw[e] at hc;exact uN _ _ ((rm _).subset hc)
 |false=>
  rw[e] at hc
  cases e2:bg r.aR (s "back") with
  |true=>rw[e2] at hc;exact hc
  |false=>rw[e2] at hc;exact uN _ _ hc
theorem JB(r:Row)(md:List Nat):(dj r md).length≤md.length:=by
 have d:(md.drop 1).length≤md.length:=(J5 1 md).length_le
 unfold dj
 cases bg r.aR (s "skip") with
 |true=>exact ah (rm _).length_le d
 |false=>cases bg r.aR (s "back") with
  |true=>exact az _
  |false=>exact d
theorem aI.ux{η:Ev}{a b:List Fact}(h:aI η a)(q:aI η b):aI η (a++b):=fun f hf=>(f7.mp hf).elim (h f) (q f)
theorem xZ{η:Ev}{x:Bool}{l:List Fact}(h:x=true→aI η l):aI η (@aj (fun qq=>List Fact) [] l x):=by
 cases x with
 |true=>exact h rfl
 |false=>exact dS
theorem nq{η:Ev}{a b:Tm}(h:a.ev η=b.ev η):(lH a b).ok η:=decide_eq_true h
theorem aev{v:Nat→List Nat}{c:Nat}(kd:Int)(fl:Bool)(hv:∀i,(v i).length≤100∧∀z∈v i,z<1114112)(hc:c<1114112):∃o r m,(mainD 9 1).ev (dI v c kd fl o r m)=(o,r,m)∧(o.length≤1000∧∀z∈o,z<1114112)∧r.length≤1000∧∀z∈r,z<1114112:=by
 have hb:=aeh (kd:=kd) (fl:=fl) (o:=[]) (r:=[]) (m:=0) hv hc Jt
 rcases h:(mainD 9 1).ev (dI v c kd fl [] [] 0) with⟨o,r,m⟩
 rw[h] at hb
 exact⟨o,r,m,(aeg Jt).trans h,hb.1,hb.2⟩
theorem aew{ns:List Int}{st n:Nat}(hn:n≤3)(hp:(st,n)∈hL){r:Row}(hr:xM st ((aX (ck ns)).take 1) r):∃(η:Ev) (_:nM η),xW η∧qU η ns n r∧η.p 3 ((η.v 8).drop 1)=true:=by
 have hal:=alpha ns
 have hlen:(aX (ck ns)).length≤40:=ah (om _) (xP ns)
 have hmore:=bH.mp (bH.mp aer _ hp) r hr.mem
 have his:=hr.is
 have hsk:=BV hr.mem
 generalize emd:aX (ck ns)=md at hal hlen his
 simp only[aY,iI,Cr] at hmore
 obtain⟨hkeep,hback,hnk⟩:=hmore
 let c:=md.headD 0
 have cok:c<1114112∧mR c=true:=by
  show md.headD 0<1114112∧mR (md.headD 0)=true
  cases md with
  |nil=>decide
  |cons z md=>exact⟨(nj (hal z (.head _))).z,(nj (hal z (.head _))).s⟩
 let m:=qO ns
 have hsg:c6 (jx r c):=by
  unfold jx
  cases f6 r.l [0] with
  |true=>exact .of (show j9 [65533]=true by decide)
  |false=>exact .of (B6 (ao rfl) fun z hz=>by rw[dU.mp hz];exact cok)
 have hsgl:(jx r c).length≤1:=by unfold jx;cases f6 r.l [0]<;>exact az _
 have hnum:∀i,i<3→c6 (iB i).cps.toList∧(iB i).cps.toList.length≤1:=fun i hi=>by
  have:=bH.mp aeu i (Ko.mpr hi)
  rw[aY] at this
  exact⟨.of this.1,ao this.2⟩
 have happ:∀{a b:List Nat},c6 a→c6 b→a.length≤1→b.length≤1→c6 (a++b):=fun ha hb h1 h2=>⟨by rw[bG];exact Om.Qo h1 h2,fun z hz=>(f7.mp hz).elim (ha.c z) (hb.c z),fun z hz=>(f7.mp hz).elim (ha.s z) (hb.s z)⟩
 have hmd:c6 md:=.al (by exact Om.DN hlen) hal
 let v:=pg (ck ns) (qP m).cps.toList (dj r md) (md.drop 1) (iB (n-1)).cps.toList (ph m r n c)
 have hv:∀i,c6 (v i):=by
  refine aen ?_ ?_ (.al (by have:=JB r md;exact Om.Qp hlen this) fun z hz=>hal z (B8 r md z hz)) (.al (by rw[ja];exact Om.Qq hlen) fun z hz=>hal z (uN _ _ hz)) (hnum _ (by exact Om.Qs hn)).1 fun p hp=>?_
  ·refine .of (B6 (by have:=xP ns;exact Om.DN this) fun z hz=>?_)
   rcases Jw hz with rfl|h
   ·decide
   ·exact⟨(nj h).z,(nj h).s⟩
  ·exact Jz aet (j7 _).1 (by have:=(j7 (m.fdiv 2)).2;show _<((4:Nat):Int);omega)
  ·rcases f7.mp hp with hp|hp
   ·obtain⟨i,hi,rfl⟩:=dh.mp hp
    have hi:=Ko.mp hi
    refine⟨Jz aes (j7 _).1 (by have:=(j7 (m.fdiv 5+(i:Int)*i)).2;show _<((4:Nat):Int);omega),?_⟩
    show c6 (nk r n c i)
    have h3:=hnum i (by exact Om.Qt hn hi)
    unfold nk
    cases qW r n i with
    |true=>exact happ h3.1 hsg h3.2 hsgl
    |false=>exact h3.1
   ·cases e:bg r.aR (s "new") with
    |true=>
     rw[e] at hp
     rw[dU.mp hp]
     exact⟨hsg,.of (show j9 []=true by decide)⟩
    |false=>rw[e] at hp;cases hp
 have hv':∀i,(v i).length≤100∧∀z∈v i,z<1114112:=fun i=>⟨(hv i).z,(hv i).c⟩
 obtain⟨o,rr,mm,hD,hb1,hb2⟩:=aev (c:=c) (kdOf m) (qQ m) hv' cok.1
 let η:=dI v c (kdOf m) (qQ m) o rr mm
 have lE:∀l:List Nat,(∀z∈l,z∈md)→aX l=l:=fun l h=>aei fun h2=>(nj (hal 13 (h 13 h2))).lE rfl
 have hcons:r.c.isSome=true→[c]++md.drop 1=md:=fun h=>by
  show[md.headD 0]++md.drop 1=md
  cases md with
  |nil=>
   have:r.c.isNone=true:=his
   cases q:r.c with
   |none=>rw[q] at h;cases h
   |some _=>rw[q] at this;cases this
  |cons z md=>rfl
 have hnone:r.c=none→md=[]:=fun h=>by
  cases md with
  |nil=>rfl
  |cons z md=>
   have:(r.c.isSome&&aj (yM r.v) r.v (aH z r.l))=true:=his
   rw[h] at this;cases this
 have hv8:η.v 8=dj r md:=rfl
 have hv9:η.v 9=md.drop 1:=rfl
 have hkey:∀i,i<10→η.v (10+2*i)=((ph m r n c).getD i ([],[])).1:=fun i hi=>ael hi
 have hval:∀i,i<9→η.v (11+2*i)=((ph m r n c).getD i ([],[])).2:=fun i hi=>aem hi
 have hrest:r.c.isSome=true→(rest r).ev η=md.drop 1:=fun h=>by
  unfold rest
  cases q:r.c with
  |none=>rw[q] at h;cases h
  |some k=>
   show Tm.ev η (@aj (fun qq=>Tm) (tv 8) (tv 9) (bg r.aR (s "skip")||bg r.aR (s "back")))=_
   cases e:bg r.aR (s "skip") with
   |true=>rfl
   |false=>cases e2:bg r.aR (s "back") with
    |true=>rfl
    |false=>
     show dj r md=_
     unfold dj
     rw[e,e2]
 have hmdT:(jZ r).ev η=md:=by
  cases q:r.c with
  |none=>rw[Jb q,hnone q];rfl
  |some k=>
   have hs:r.c.isSome=true:=by rw[q];rfl
   rw[BW q]
   show[c]++(rest r).ev η=md
   rw[hrest hs];exact hcons hs
 have hut:aX ((BN r).ev η)=dj r md:=by
  unfold BN
  cases e:bg r.aR (s "skip") with
  |true=>
   show aX ((md.drop 1).dropWhile (aH · spS))=_
   have:dj r md=(md.drop 1).dropWhile (aH · spS):=by unfold dj;rw[e]
   rw[this]
   exact lE _ fun z hz=>uN _ _ ((rm _).subset hz)
  |false=>
   cases e2:bg r.aR (s "back") with
   |true=>
    show aX ([c]++md.drop 1)=_
    have:dj r md=md:=by unfold dj;rw[e,e2]
    rw[this,hcons (hback.resolve_left (by rw[e2];exact Kd))]
    exact lE _ fun z hz=>hz
   |false=>
    have h8:dj r md=md.drop 1:=by unfold dj;rw[e,e2]
    cases q:r.c with
    |none=>
     show aX []=_
     rw[h8,hnone q];rfl
    |some k=>
     show aX (dj r md)=_
     exact lE _ (B8 r md)
 refine⟨η,aep hv cok.1 hb1 hb2,aeq hv (A7 cok.2) hD,⟨⟨rfl,fun i hi=>?_,fun i hi=>?_,rfl,rfl⟩,rfl,hmdT.trans emd.symm,?_⟩,?_⟩
 ·rw[hkey i (by exact Om.Qu hn hi),B7 hi]
 ·unfold uc
  have e:(bg r.aR (s "keep")&&aB (i+1) n)=qW r n i:=rfl
  rw[e]
  cases q:qW r n i with
  |true=>
   have:i+1=n:=by
    have q':(bg r.aR (s "keep")&&aB (i+1) n)=true:=q
    rw[aY] at q'
    exact bh q'.2
   show(iB (n-1)).cps.toList=_
   rw[←this];rfl
  |false=>
   show η.v (11+2*i)=_
   rw[hval i (by exact Om.Qv hn hi),B7 hi]
   show nk r n c i=_
   unfold nk
   rw[q]
 ·unfold BO
  refine aI.ux (aI.ux (aI.ux (aI.ux (aI.ux ?_ (ay (nq ?_) (ay (nq hut) dS))) (xZ fun h=>ay (nq ?_) dS)) (xZ fun h=>ay (nq ?_) dS)) (xZ fun h=>ay (nq ?_) (ay (nq ?_) dS))) (xZ fun h=>ay (nq ?_) dS)
  ·cases q:r.c with
   |none=>
    refine ay (nq ?_) (ay rfl dS)
    show[]=dj r md
    have h0:=hnone q
    have:=JB r md
    rw[h0] at this⊢
    exact(pq (Nat.le_zero.mp this)).symm
   |some k=>
    refine ay ?_ dS
    show aH c r.l=r.v
    have hs:r.c.isSome=true:=by rw[q];rfl
    show aH (md.headD 0) r.l=r.v
    cases md with
    |nil=>
     have:r.c.isNone=true:=his
     rw[q] at this;cases this
    |cons z md=>
     have:(r.c.isSome&&aj (yM r.v) r.v (aH z r.l))=true:=his
     rw[aY] at this
     show aH z r.l=r.v
     cases e:aH z r.l<;>cases e2:r.v<;>rw[e,e2] at this<;>first|rfl|cases this.2
  ·show aX (ck ns)=(jZ r).ev η
   rw[hmdT,emd]
  ·show(md.drop 1).dropWhile (aH · spS)=dj r md
   unfold dj
   rw[h]
  ·show[c]++md.drop 1=dj r md
   have hs:bg r.aR (s "skip")=false:=by
    cases q:bg r.aR (s "skip") with
    |false=>rfl
    |true=>have:=(hsk q).1;rw[h] at this;cases this
   rw[hcons (hback.resolve_left (by rw[h];exact Kd))]
   unfold dj
   rw[hs,h]
  ·show Tm.ev η (@aj (fun qq=>Tm) (tc 0) (lit [65533]) (f6 r.l [0]))=η.v (10+2*n)
   rw[hkey n (by exact Om.Qw hn),JA h]
   show _=jx r c
   unfold jx
   cases f6 r.l [0]<;>rfl
  ·show[]=η.v (11+2*n)
   rw[hval n (by exact Om.Qx hn),JA h]
  ·have h1:1≤n:=ao (hkeep.resolve_left (by rw[h];exact Kd))
   show(iB (n-1)).cps.toList++Tm.ev η (@aj (fun qq=>Tm) (tc 0) (lit [65533]) (f6 r.l [0]))=η.v (11+2*(n-1))
   rw[hval (n-1) (by exact Om.Qy hn h1),B7 (by exact Om.Qz hn h1)]
   show _=nk r n c (n-1)
   have hk:qW r n (n-1)=true:=by
    unfold qW
    rw[h,pF h1,uU];rfl
   unfold nk
   rw[hk]
   show _=_++jx r c
   congr 1
   unfold jx
   cases f6 r.l [0]<;>rfl
 ·show(!aH 35 ((dj r md).drop 1))=true
  cases q:aH 35 ((dj r md).drop 1) with
  |false=>rfl
  |true=>exact((nj (hal 35 (B8 r md 35 (uN _ _ (xY q))))).xU rfl).elim
end
end Lw
end
section
namespace Tb
open Hd Ex
noncomputable section
noncomputable def x6 (K:Frag) (f:Addr) (i:aJ):Bool:=codeIn K i.cdv i.qual&&(!i.scope.isCoroutine&&(!i.scope.isGenerator&&(i.scope.kind==.function&&(i.scope.names.all (fun x=>x.2 !=.cell)&&((i.ps.all fun x=>decide (i.scope.names.lookup x=some .local))&&(keepIn K (.ref f)&&(fnIn K f&&dist i.ps)))))))
theorem aex{K:Frag}{f:Addr}{i:aJ}(h0:K.lookup f=some ⟨.type "function",none,.func i.fd,#[]⟩)(h1:x6 K f i=true)
 (hb:∀(s:Shared) (vs:List Value),K.In s.heap→i.ps.length≤vs.length+i.ds.length→vs.length≤i.ps.length→BindsTo s i.fd ⟨vs,[]⟩ (i.bind vs)):zb K f i:=by
 unfold x6 at h1
 simp only[aY] at h1
 obtain⟨a,b,c,d,e,g,h,k,l⟩:=h1
 exact⟨⟨_,_,_,h0⟩,a,by simpa using b,by simpa using c,by simpa using d,fun x hx=>by simpa using bH.mp e x hx,g,hb,h,k,E7 l⟩
noncomputable def JC:Nat→(List Value→Prop)→Prop:=cD (fun P=>P []) fun qq ih P=>∀a,ih fun vs=>P (a::vs)
theorem qX{n:Nat}:∀{P:List Value→Prop},JC n P→∀vs,vs.length=n→P vs:=by
 induction n with
 |zero=>exact fun h vs e=>(pq e)▸h
 |succ n ih=>
  intro P h vs e
  cases vs with
  |nil=>cases e
  |cons a vs=>exact ih (P:=fun vs=>P (a::vs)) (h a) vs (Nat.succ.inj e)
theorem bq{α:Type}{p:α→Prop}{a:α}{l:List α}(h:p a)(k:∀x∈l,p x):∀x∈a::l,p x:=fun x hx=>by
 rcases bV.mp hx with rfl|hx
 ·exact h
 ·exact k x hx
noncomputable def x7 (K:Frag) (c:CI):Bool:=plainGet K c.C (aa "")&&hasDictIn K c.C&&(findIn K (.ref c.C) "__setattr__"==some (some (.builtin "object.__setattr__")))&&plainOver K c.C&&
 c.gK.all (fun n=>findIn K (.ref c.C) n==some none&&takerIn K c.C n==some none)&&
 c.fM.all (fun x=>findIn K (.ref c.C) x.1==some (some (.ref x.2))&&isFn K (.ref x.2)&&specialIn K (.ref x.2) "__get__"==some (some (.builtin "function.__get__"))&&takesIn K (.ref x.2)==some false&&!copiedNames.contains x.1&&keepIn K (.ref x.2)&&fnIn K x.2)&&
 c.vals.all (fun x=>findIn K (.ref c.C) x.1==some (some x.2)&&specialIn K x.2 "__get__"==some none&&handedIn x.2&&!copiedNames.contains x.1)
theorem aey{K:Frag}{c:CI}(h:x7 K c=true):vj K c:=by
 unfold x7 at h
 simp only[aY] at h
 obtain⟨⟨⟨⟨⟨⟨a,b⟩,d⟩,e⟩,f⟩,g⟩,k⟩:=h
 refine⟨a,b,beq_iff_eq.mp d,e,fun n hn=>?_,fun x hx=>?_,fun x hx=>?_⟩
 ·have:=bH.mp f n hn
  simp only[aY] at this
  exact⟨beq_iff_eq.mp this.1,beq_iff_eq.mp this.2⟩
 ·have:=bH.mp g x hx
  simp only[aY] at this
  obtain⟨⟨⟨⟨⟨⟨a1,a2⟩,a3⟩,a4⟩,a5⟩,a6⟩,a7⟩:=this
  exact⟨beq_iff_eq.mp a1,a2,beq_iff_eq.mp a3,beq_iff_eq.mp a4,by simpa using a5,a6,a7⟩
 ·have:=bH.mp k x hx
  simp only[aY] at this
  obtain⟨⟨⟨a1,a2⟩,a3⟩,a4⟩:=this
  exact⟨beq_iff_eq.mp a1,beq_iff_eq.mp a2,a3,by simpa using a4⟩
theorem qY{α:Type}{p:α→Prop}:∀x∈([]:List α),p x:=fun qq h=>by cases h
noncomputable def qZ (o:Obj):List Value:=match o.data with
 |.seq vs _=>vs.toList
 |_=>[]
noncomputable def JD (o:Obj):List DictEntry:=match o.data with
 |.dict es _=>es.toList
 |_=>[]
noncomputable def aez (o:Obj):Nat:=match o.data with
 |.seq _ n=>n
 |_=>0
noncomputable def gh (o:Obj):Nat:=match o.data with
 |.dict _ n=>n
 |_=>0
noncomputable def B9 (K:Frag) (x:Str×Value):Bool:=!(x.1==("__debug__":Str))&&(nsIn K mainGlobals x.1==some (some x.2)||(nsIn K mainGlobals x.1==some none&&(bootBuiltins x.1==some x.2&&!(x.1==("__name__":Str)))))
theorem aeA{K:Frag}{x:Str×Value}(h:B9 K x=true):za K x:=by
 unfold B9 at h
 simp only[aY,iI] at h
 obtain⟨a,b|⟨b,c,d⟩⟩:=h
 ·exact⟨by simpa using a,.inl (beq_iff_eq.mp b)⟩
 ·exact⟨by simpa using a,.inr ⟨beq_iff_eq.mp b,beq_iff_eq.mp c,by simpa using d⟩⟩
theorem aeB{α:Type}{p:α→Prop}{q:α→Bool}{l:List α}(h:l.all q=true)(k:∀x,q x=true→p x):∀x∈l,p x:=fun x hx=>k x (bH.mp h x hx)
noncomputable abbrev x8 (K:Frag) (i:aJ):Prop:=∀(s:Shared) (vs:List Value),K.In s.heap→i.ps.length≤vs.length+i.ds.length→vs.length≤i.ps.length→BindsTo s i.fd ⟨vs,[]⟩ (i.bind vs)
noncomputable abbrev q6 (K:Frag) (i:aJ) (n:Nat):Prop:=JC n fun vs=>∀s:Shared,K.In s.heap→BindsTo s i.fd ⟨vs,[]⟩ (i.bind vs)
theorem bM{K:Frag}{i:aJ}(n:Nat)(hn:i.ps.length=n)(hd:i.ds=[])(h:q6 K i n):x8 K i:=fun s vs X h1 h2=>qX h vs (by rw[hd] at h1;exact hn▸jC h2 h1) s X
theorem Ca{K:Frag}{i:aJ}(n:Nat)(hn:i.ps.length=n+1)(hd:i.ds.length=1)(h:q6 K i n)(h':q6 K i (n+1)):x8 K i:=fun s vs X h1 h2=>by
 rw[hd,hn] at h1
 rw[hn] at h2
 rcases JW.mp h2 with e|e
 ·exact qX h vs (jC (yw e) (uB h1)) s X
 ·exact qX h' vs e s X
theorem JE{K:Frag}{i:aJ}(n:Nat)(hn:i.ps.length=n+2)(hd:i.ds.length=2)(h:q6 K i n)(h':q6 K i (n+1))(h'':q6 K i (n+2)):x8 K i:=fun s vs X h1 h2=>by
 rw[hd,hn] at h1
 rw[hn] at h2
 rcases JW.mp h2 with e|e
 ·rcases JW.mp (yw e) with e|e
  ·exact qX h vs (jC (yw e) (uB (uB h1))) s X
  ·exact qX h' vs e s X
 ·exact qX h'' vs e s X
noncomputable def uy:List (Addr×List Value):=[(134,[gG]),(149,[je false]),(171,[jf 0 740,gG]),(254,[gG]),(276,[gG,je false])]
noncomputable def JF (o:Option Obj):Option Data:=o.map fun o=>o.data
noncomputable def nu (v:Value):Option Str:=match v with
 |.str x _=>some x
 |_=>none
noncomputable def uz (v:Value):Str:=(nu v).getD ⟨#[]⟩
noncomputable abbrev ny (P:Params):List DictEntry:=JD (Hd.ob P 48)
noncomputable abbrev q7 (P:Params):List DictEntry:=JD (Hd.ob P 235)
theorem big(P:Params)(Xt:Frag):(uy.map (fun x=>JF ((Hd.K P++Xt).lookup x.1)),T.fns.map (fun x=>(Hd.K P++Xt).lookup x.1),T.fns.all (fun x=>x6 (Hd.K P++Xt) x.1 x.2),T.cls.all (fun c=>aB c.2.C c.1&&x7 (Hd.K P++Xt) c.2),
 [73,166,762].all (fun x=>makesIn (Hd.K P++Xt) x&&keepIn (Hd.K P++Xt) (.ref x)),(ny P).map (fun e=>e.hash),(ny P).all (fun e=>(nu e.key).isSome),Ac.all (fun y=>nsIn (Hd.K P++Xt) 48 y.1==some (some y.2)),(Hd.K P++Xt).lookup 48,
 (q7 P).map (fun e=>(nu e.key,sv e.val)),(q7 P).map (fun e=>e.hash),(Hd.K P++Xt).lookup 236,(Hd.K P++Xt).lookup 235)=
 (uy.map (fun x=>some (.seq x.2.toArray 0)),T.fns.map (fun x=>some ⟨.type "function",none,.func x.2.fd,#[]⟩),true,true,
  true,(ny P).map (fun e=>jD P (uz e.key)),true,true,some {cls:=.type "dict",data:=.dict (ny P).toArray (gh (Hd.ob P 48))},
  oA.map (fun x=>(some x.1,x.2)),oA.map (fun x=>jD P x.1),some (instObj 230 235),some (dictOf (q7 P) (gh (Hd.ob P 235)))):=by kernel_rfl
theorem aeC(P:Params)(Xt:Frag):(T.tups.map (fun x=>(Hd.K P++Xt).lookup x.1),T.tups.map (fun x=>(qZ (Hd.ob P x.1)).map sv))=(T.tups.map (fun x=>some ⟨.type "tuple",none,.seq (qZ (Hd.ob P x.1)).toArray 0,#[]⟩),T.tups.map fun x=>x.2):=by kernel_rfl
structure aeD (P:Params) (Xt:Frag):Prop where
 h1:uy.map (fun x=>JF ((Hd.K P++Xt).lookup x.1))=uy.map fun x=>some (.seq x.2.toArray 0)
 h2:T.fns.map (fun x=>(Hd.K P++Xt).lookup x.1)=T.fns.map fun x=>some ⟨.type "function",none,.func x.2.fd,#[]⟩
 h3:(T.fns.all fun x=>x6 (Hd.K P++Xt) x.1 x.2)=true
 h4:(T.cls.all fun c=>aB c.2.C c.1&&x7 (Hd.K P++Xt) c.2)=true
 h5:([73,166,762].all fun x=>makesIn (Hd.K P++Xt) x&&keepIn (Hd.K P++Xt) (.ref x))=true
 h6:(ny P).map (fun e=>e.hash)=(ny P).map fun e=>jD P (uz e.key)
 h7:((ny P).all fun e=>(nu e.key).isSome)=true
 h8:(Ac.all fun y=>nsIn (Hd.K P++Xt) 48 y.1==some (some y.2))=true
 h9:(Hd.K P++Xt).lookup 48=some {cls:=.type "dict",data:=.dict (ny P).toArray (gh (Hd.ob P 48))}
 q8:(q7 P).map (fun e=>(nu e.key,sv e.val))=oA.map fun x=>(some x.1,x.2)
 h11:(q7 P).map (fun e=>e.hash)=oA.map fun x=>jD P x.1
 h12:(Hd.K P++Xt).lookup 236=some (instObj 230 235)
 Cb:(Hd.K P++Xt).lookup 235=some (dictOf (q7 P) (gh (Hd.ob P 235)))
theorem iC(P:Params)(Xt:Frag):aeD P Xt:=
 have h:=gn (big P Xt)
 have h2:=gn h.2
 have h3:=gn h2.2
 have h4:=gn h3.2
 have h5:=gn h4.2
 have h6:=gn h5.2
 have h7:=gn h6.2
 have h8:=gn h7.2
 have h9:=gn h8.2
 have q8:=gn h9.2
 have h11:=gn q8.2
 have h12:=gn h11.2
 ⟨h.1,h2.1,h3.1,h4.1,h5.1,h6.1,h7.1,h8.1,h9.1,q8.1,h11.1,h12.1,h12.2⟩
theorem aeE(P:Params)(Xt:Frag):T.tups.map (fun x=>(Hd.K P++Xt).lookup x.1)=T.tups.map (fun x=>some ⟨.type "tuple",none,.seq (qZ (Hd.ob P x.1)).toArray 0,#[]⟩)∧T.tups.map (fun x=>(qZ (Hd.ob P x.1)).map sv)=T.tups.map fun x=>x.2:=gn (show(_,_)=(_,_) from aeC P Xt)
theorem JG{v:Value}{x:Str}(h:nu v=some x):∃t,v=.str x t:=by
 cases v with
 |str y t=>cases h;exact⟨t,rfl⟩
 |_=>cases h
theorem aeF{P:Params}:∀{es:List DictEntry},es.map (fun e=>e.hash)=es.map (fun e=>jD P (uz e.key))→(es.all fun e=>(nu e.key).isSome)=true→KeysLit P es:=@fun es=>by
 induction es with
 |nil=>exact fun qq qq=>trivial
 |cons e es ih=>
  intro h q
  rw[nD,aY] at q
  obtain⟨h1,h2⟩:=rJ h
  obtain⟨x,hx⟩:=afa.mp q.1
  obtain⟨t,ht⟩:=JG hx
  refine⟨⟨x,t,ht,?_⟩,ih h2 q.2⟩
  have:uz e.key=x:=by unfold uz;rw[hx];rfl
  rw[←this];exact h1
theorem aeG{W:Wd}:∀{fs:List (Str×SV)} {es:List DictEntry},es.map (fun e=>(nu e.key,sv e.val))=fs.map (fun x=>(some x.1,x.2))→es.map (fun e=>e.hash)=fs.map (fun x=>jD W.P x.1)→FR W [] fs es:=@fun fs=>by
 induction fs with
 |nil=>intro es h _;cases es with|nil=>exact .nil|cons _ _=>cases h
 |cons x fs ih=>
  intro es h q
  cases es with
  |nil=>cases h
  |cons e es=>
   obtain⟨h1,h2⟩:=rJ h
   obtain⟨q1,q2⟩:=rJ q
   obtain⟨k1,k2⟩:=gn h1
   exact .cons ⟨JG k1,q1,by rw[←k2];exact pV _ _ _⟩ (ih h2 q2)
theorem q9{P:Params}{Xt:Frag}{x:Addr×List Value}(h:x∈uy):∃o,(Hd.K P++Xt).lookup x.1=some o∧o.data=.seq x.2.toArray 0:=by
 have e:=uL.mp (iC P Xt).h1 x h
 cases q:(Hd.K P++Xt).lookup x.1 with
 |none=>rw[q] at e;cases e
 |some o=>rw[q] at e;exact⟨o,rfl,jB e⟩
noncomputable def JH (d:KTD.Dat) (v:Value):Bool:=match d with
 |.flat d=>KTD.flatLooks d v
 |_=>false
theorem JI{K:Frag}{a:Addr}{ss:List Str}{o:Obj}(h1:K.lookup a=some (listOf (qZ o).toArray (aez o)))(h2:KTD.strsLook (qZ o) ss=true):∃vs n,K.lookup a=some (listOf (vs:List Value).toArray n)∧StrsAre vs ss:=⟨_,_,h1,KTD.strs_of_look h2⟩
theorem aeH{K:Frag}{a:Addr}{D:List (Str×Str)}{o:Obj}(h1:K.lookup a=some o)(h2:KTD.tabLook JH (fun b=>if b==a then some o else none) a (D.map fun p=>(p.1,yH (.str p.2)))=true):∃o,K.lookup a=some o∧∀h:Heap,h.get? a=some o→KTD.TextTab h a (D.map fun p=>(p.1,yH (.str p.2))):=
 ⟨o,h1,fun h hg=>KTD.tab_of_look (L:=JH) (R:=KTD.Dat.At h) (fun d v hl=>by
   cases d with
   |flat d=>exact KTD.flat_of_looks hl
   |_=>cases hl) (get:=fun b=>if b==a then some o else none) (fun b o' hb=>by
    by_cases e:b=a
    ·subst e;simp at hb;subst hb;exact hg
    ·simp[e] at hb) h2⟩
theorem aeI(P:Params)(Xt:Frag):rY (Hd.K P++Xt) 798 G1 (aa "token") (aa "data") where
 at_:=⟨.type "function",none,#[],by kernel_rfl⟩
 code:=by kernel_rfl
 co:=by kernel_rfl
 gen:=by kernel_rfl
 kind:=by kernel_rfl
 cells:=fun k=>by kernel_rfl
 push:=fun h=>by kernel_rfl
 loc:=by kernel_rfl
 bind:=fun v=>by kernel_rfl
 keep:=by kernel_rfl
 vm:=fun h=>absurd (h (aa "data",.cell) (afp.mp (by kernel_rfl))) (by decide)
theorem aeJ(P:Params)(Xt:Frag):∀c∈T.cls,vj (Hd.K P++Xt) c.2∧c.2.C=c.1:=fun c hc=>by
 have h4:=(iC P Xt).h4
 have:=bH.mp h4 c hc
 rw[aY] at this
 exact⟨aey this.2,bh this.1⟩
theorem aeK(P:Params)(Xt:Frag):∀x∈T.fns,x8 (Hd.K P++Xt) x.2:=bq (bM 1 rfl rfl (fun a0 qq qq=>bP rfl)) (bq (bM 2 rfl rfl (fun a0 a1 qq qq=>bP rfl)) (bq (bM 2 rfl rfl (fun a0 a1 qq qq=>bP rfl)) (bq (bM 1 rfl rfl (fun a0 qq qq=>bP rfl)) (bq (bM 2 rfl rfl (fun a0 a1 qq qq=>bP rfl)) (bq (bM 1 rfl rfl (fun a0 qq qq=>bP rfl)) (bq (bM 2 rfl rfl (fun a0 a1 qq qq=>bP rfl)) (bq (bM 2 rfl rfl (fun a0 a1 qq qq=>bP rfl)) (bq (bM 1 rfl rfl (fun a0 qq qq=>bP rfl)) (bq (bM 1 rfl rfl (fun a0 qq qq=>bP rfl)) (bq (let⟨_,e1,e2⟩:=q9 (P:=P) (Xt:=Xt) (x:=(134,[gG])) (fZ (i:=0) rfl);Ca 1 rfl rfl (fun a0 qq X=>binds_K X rfl e1 e2 rfl rfl) (fun a0 a1 qq X=>binds_K X rfl e1 e2 rfl rfl)) (bq (bM 2 rfl rfl (fun a0 a1 qq qq=>bP rfl)) (bq (let⟨_,e1,e2⟩:=q9 (P:=P) (Xt:=Xt) (x:=(149,[je false])) (fZ (i:=1) rfl);Ca 2 rfl rfl (fun a0 a1 qq X=>binds_K X rfl e1 e2 rfl rfl) (fun a0 a1 a2 qq X=>binds_K X rfl e1 e2 rfl rfl)) (bq (bM 2 rfl rfl (fun a0 a1 qq qq=>bP rfl)) (bq (let⟨_,e1,e2⟩:=q9 (P:=P) (Xt:=Xt) (x:=(171,[jf 0 740,gG])) (fZ (i:=2) rfl);JE 2 rfl rfl (fun a0 a1 qq X=>binds_K X rfl e1 e2 rfl rfl) (fun a0 a1 a2 qq X=>binds_K X rfl e1 e2 rfl rfl) (fun a0 a1 a2 a3 qq X=>binds_K X rfl e1 e2 rfl rfl)) (bq (bM 2 rfl rfl (fun a0 a1 qq qq=>bP rfl)) (bq (bM 1 rfl rfl (fun a0 qq qq=>bP rfl)) (bq (bM 2 rfl rfl (fun a0 a1 qq qq=>bP rfl)) (bq (bM 2 rfl rfl (fun a0 a1 qq qq=>bP rfl)) (bq (bM 2 rfl rfl (fun a0 a1 qq qq=>bP rfl)) (bq (let⟨_,e1,e2⟩:=q9 (P:=P) (Xt:=Xt) (x:=(254,[gG])) (fZ (i:=3) rfl);Ca 2 rfl rfl (fun a0 a1 qq X=>binds_K X rfl e1 e2 rfl rfl) (fun a0 a1 a2 qq X=>binds_K X rfl e1 e2 rfl rfl)) (bq (bM 2 rfl rfl (fun a0 a1 qq qq=>bP rfl)) (bq (let⟨_,e1,e2⟩:=q9 (P:=P) (Xt:=Xt) (x:=(276,[gG,je false])) (fZ (i:=4) rfl);JE 1 rfl rfl (fun a0 qq X=>binds_K X rfl e1 e2 rfl rfl) (fun a0 a1 qq X=>binds_K X rfl e1 e2 rfl rfl) (fun a0 a1 a2 qq X=>binds_K X rfl e1 e2 rfl rfl)) (bq (bM 2 rfl rfl (fun a0 a1 qq qq=>bP rfl)) (bq (bM 1 rfl rfl (fun a0 qq qq=>bP rfl)) (bq (bM 1 rfl rfl (fun a0 qq qq=>bP rfl)) (bq (bM 1 rfl rfl (fun a0 qq qq=>bP rfl)) (bq (bM 1 rfl rfl (fun a0 qq qq=>bP rfl)) (bq (bM 1 rfl rfl (fun a0 qq qq=>bP rfl)) (bq (bM 1 rfl rfl (fun a0 qq qq=>bP rfl)) (bq (bM 1 rfl rfl (fun a0 qq qq=>bP rfl)) (bq (bM 1 rfl rfl (fun a0 qq qq=>bP rfl)) (bq (bM 1 rfl rfl (fun a0 qq qq=>bP rfl)) (bq (bM 1 rfl rfl (fun a0 qq qq=>bP rfl)) (bq (bM 1 rfl rfl (fun a0 qq qq=>bP rfl)) (bq (bM 1 rfl rfl (fun a0 qq qq=>bP rfl)) (bq (bM 1 rfl rfl (fun a0 qq qq=>bP rfl)) (bq (bM 0 rfl rfl (fun qq qq=>bP rfl)) (bq (bM 2 rfl rfl (fun a0 a1 qq qq=>bP rfl)) (bq (bM 5 rfl rfl (fun a0 a1 a2 a3 a4 qq qq=>bP rfl)) (bq (bM 1 rfl rfl (fun a0 qq qq=>bP rfl)) (bq (bM 1 rfl rfl (fun a0 qq qq=>bP rfl)) (bq (bM 2 rfl rfl (fun a0 a1 qq qq=>bP rfl)) (bq (bM 4 rfl rfl (fun a0 a1 a2 a3 qq qq=>bP rfl)) (qY))))))))))))))))))))))))))))))))))))))))))))
theorem aeL(P:Params)(Xt:Frag):∀x∈T.fns,zb (Hd.K P++Xt) x.1 x.2:=fun x hx=>by
 have h2:=(iC P Xt).h2
 have h3:=(iC P Xt).h3
 exact aex (uL.mp h2 x hx) (bH.mp h3 x hx) (aeK P Xt x hx)
theorem aeM(W:Wd)(P:Params)(Xt:Frag):∀x∈T.tups,∃dd n sl vs,(Hd.K P++Xt).lookup x.1=some ⟨.type "tuple",dd,.seq (vs:List Value).toArray n,sl⟩∧aG W [] x.2 vs:=fun x hx=>by
 have h:=aeE P Xt
 refine⟨none,0,#[],_,uL.mp h.1 x hx,?_⟩
 rw[←uL.mp h.2 x hx]
 exact aG.zB W [] _
theorem aeN(P:Params)(Xt:Frag):∀x∈T.rX,∃es n,(Hd.K P++Xt).lookup x.1=some {cls:=.type "dict",data:=.dict es n}∧KeysLit P es.toList∧∀y∈x.2,nsIn (Hd.K P++Xt) x.1 y.1=some (some y.2):=by
 have h6:=(iC P Xt).h6
 have h7:=(iC P Xt).h7
 have h8:=(iC P Xt).h8
 have h9:=(iC P Xt).h9
 exact bq ⟨_,_,h9,aeF h6 h7,fun y hy=>beq_iff_eq.mp (bH.mp h8 y hy)⟩ qY
theorem aeO(P:Params)(Xt:Frag):∀x∈T.lY,∃vs n,(Hd.K P++Xt).lookup x.1=some (listOf (vs:List Value).toArray n)∧StrsAre vs x.2:=bq (JI (o:=Hd.ob P 243) (by kernel_rfl) (by kernel_rfl)) (bq (JI (o:=Hd.ob P 767) (by kernel_rfl) (by kernel_rfl)) qY)
theorem aeP(P:Params)(Xt:Frag):∀x∈T.nP,∃o,(Hd.K P++Xt).lookup x.1=some o∧∀h:Heap,h.get? x.1=some o→KTD.TextTab h x.1 (x.2.map fun p=>(p.1,yH (.str p.2))):=bq (aeH (o:=Hd.ob P 43) (by kernel_rfl) (by kernel_rfl)) qY
theorem aeQ(P:Params)(Xt:Frag):∀x∈T.dM,za (Hd.K P++Xt) x:=aeB (q:=B9 (Hd.K P++Xt)) (by kernel_rfl) fun x h=>aeA h
theorem aeR(P:Params)(Xt:Frag):∀x∈T.jH,rY (Hd.K P++Xt) x.1 x.2.1 x.2.2.1 x.2.2.2:=bq (aeI P Xt) qY
theorem oJ(W:Wd)(Xt:Frag)(hK:W.K=Hd.K W.P++Xt):TabOk W T where
 cls:=by rw[hK];exact aeJ W.P Xt
 fns:=by rw[hK];exact aeL W.P Xt
 tup:=by rw[hK];exact aeM W W.P Xt
 vn:=by rw[hK];exact aeN W.P Xt
 sin:=by
  rw[hK]
  have q8:=(iC W.P Xt).q8
  have h11:=(iC W.P Xt).h11
  have h12:=(iC W.P Xt).h12
  have Cb:=(iC W.P Xt).Cb
  exact bq ⟨h12,_,_,Cb,aeG q8 h11⟩ qY
 lst:=by rw[hK];exact aeO W.P Xt
 DY:=by rw[hK];exact aeP W.P Xt
 dM:=by rw[hK];exact aeQ W.P Xt
 jH:=by rw[hK];exact aeR W.P Xt
 kF:=fun x hx=>by
  rw[hK]
  have h5:=(iC W.P Xt).h5
  have:=bH.mp h5 x (Lw.xY hx)
  rw[aY] at this
  exact this
end
end Tb
end
section
namespace Lw
open Ex Tb Hd
noncomputable section
theorem aeS(P:Params)(Xt:Frag):rY (Hd.K P++Xt) 822 iU (aa "script") (aa "mix") where
 at_:=⟨.type "function",none,#[],by kernel_rfl⟩
 code:=by kernel_rfl
 co:=by kernel_rfl
 gen:=by kernel_rfl
 kind:=by kernel_rfl
 cells:=fun k=>by kernel_rfl
 push:=fun h=>by kernel_rfl
 loc:=by kernel_rfl
 bind:=fun v=>by kernel_rfl
 keep:=by kernel_rfl
 vm:=fun h=>absurd (h (aa "mix",.cell) (afp.mp (by kernel_rfl))) (by decide)
theorem aeT(P:Params):nsIn (Hd.K P) mainGlobals (aa "law")=some (some (.ref 822)):=by kernel_rfl
theorem yZ:importsNone Hd.Q=true:=by kernel_rfl
noncomputable def Wx (w:World) (Xt:Frag) (loose:List Str) (mean:ExcName→Option Value) (mg mb:Str→Option Value) (os:OsState) (gens:Array GenState) (η:Ev) (ok:nM η):Wd:=⟨Hd.R1.row.toRowW.prog,w,Hd.K w.params++Xt,Hd.Q,loose,mean,mg,mb,yZ,fun qq qq qq=>False,os,gens,η,ok⟩
theorem aeU(w:World)(Xt:Frag)(loose:List Str)(mean:ExcName→Option Value)(mg mb:Str→Option Value)(os:OsState)(gens:Array GenState)(η:Ev)(ok:nM η):Kf (Wx w Xt loose mean mg mb os gens η ok):=by
 obtain⟨o,h1,h2⟩:=q9 (P:=w.params) (Xt:=Xt) (x:=(276,[gG,je false])) (fZ (i:=4) rfl)
 exact⟨by show nsIn (Hd.K w.params++Xt) mainGlobals (aa "KeyError")=some none;kernel_rfl,o,0,h1,h2⟩
theorem aeV{R:WRecords}{d:WData}(h:WShape.has R d .int=true):∃i,d=.int i:=by
 cases d with
 |int i=>exact⟨i,rfl⟩
 |_=>cases h
theorem JJ{R:WRecords}:∀{l:List WData},WShape.hasItems R l .int=true→∃ns:List Int,l=ns.map .int
 |[],_=>⟨[],rfl⟩
 |d::l,h=>by
  rw[WShape.hasItems.eq_2] at h
  obtain⟨h1,h2⟩:=uH.mp h
  obtain⟨i,rfl⟩:=aeV h1
  obtain⟨ns,rfl⟩:=JJ h2
  exact⟨i::ns,rfl⟩
theorem aeW{R:WRecords}{d:WData}(h:WShape.has R d (.list .int)=true):∃ns:List Int,d=.list (ns.map .int):=by
 cases d with
 |list l=>
  have h':(WShape.hasItems R l .int||false)=true:=h
  rw[CX] at h'
  obtain⟨ns,rfl⟩:=JJ h'
  exact⟨ns,rfl⟩
 |_=>cases h
theorem aeX(l:List WData):WTm.holds [] Hd.R1.pre {args:=[.list l]}=!decide ((63:Int)<l.length):=by
 show WTm.holds [] (WTm.and (WTm.not (WTm.lt (WTm.lit (yL 63)) (WTm.arg 0).len)) (WTm.lit (nG true))) _=_
 have e:less? (yL 63) (yL (l.length:Int))=some (decide ((63:Int)<l.length)):=rfl
 show(match(match(match(match some (yL 63),some (yL (l.length:Int)) with
       |some x,some y=>Option.map nG (less? x y)
       |x,x_1=>none) with
      |some (nG b)=>some (nG !b)
      |x=>none) with
  |some (nG false)=>some (nG false)
  |some (nG true)=>some (nG true)
  |x=>none) with
  |some (nG true)=>true
  |x=>false)=_
 dsimp only
 rw[e]
 cases decide ((63:Int)<l.length)<;>rfl
theorem aeY{args:List WData}(h:Hd.R1.row.toRowW.claim.pre args=true):∃ns:List Int,args=[.list (ns.map .int)]∧ns.length≤63:=by
 have h':(WShape.hasAll [] args [.list .int]&&WTm.holds [] Hd.R1.pre {args:=args})=true:=h
 obtain⟨h1,h2⟩:=uH.mp h'
 match args,h1,h2 with
 |[],h1,_=>rw[WShape.hasAll.eq_1] at h1;cases h1
 |[d],h1,h2=>
  rw[WShape.hasAll.eq_3] at h1
  obtain⟨ns,rfl⟩:=aeW (uH.mp h1).1
  rw[aeX,gE] at h2
  refine⟨ns,rfl,?_⟩
  have:¬(63:Int)<ns.length:=by simpa using h2
  exact Om.QA this
 |d::e::r,h1,_=>
  rw[WShape.hasAll.eq_3,WShape.hasAll.eq_2,Bool.and_false] at h1
  cases h1
theorem aeZ{R:WRecords}{cl:Str→Option Addr}{h:Heap}{ns:List Int}:∀{vs:List Value} {as:List Addr},ReadsAllW R cl h vs (ns.map .int) as→Each lU ns vs:=by
 induction ns with
 |nil=>intro vs as h;obtain⟨rfl,_⟩:=readsAllW_nil_inv h;exact .nil
 |cons n ns ih=>intro vs as h;obtain⟨v,vs',_,_,rfl,_,h1,h2⟩:=readsAllW_cons_inv h;obtain⟨t,rfl,_⟩:=readsW_int_inv h1;exact .cons ⟨_,rfl⟩ (ih h2)
theorem ae0{R:WRecords}{cl:Str→Option Addr}{h:Heap}{ns:List Int}{vals:List Value}{as:List Addr}(hr:ReadsAllW R cl h vals [.list (ns.map .int)] as):∃b o vs n,vals=[.ref b]∧h.get? b=some o∧o.cls=.type "list"∧o.data=.seq (vs:List Value).toArray n∧Each lU ns vs:=by
 obtain⟨v,vs',_,_,rfl,_,h1,h2⟩:=readsAllW_cons_inv hr
 obtain⟨rfl,_⟩:=readsAllW_nil_inv h2
 obtain⟨a,vs,as',rfl,⟨o,hg,hc,n,hd⟩,hi,_⟩:=readsW_list_inv h1
 exact⟨_,_,vs.toList,_,rfl,hg,hc,hd,aeZ hi⟩
theorem ae1{K:Frag}{h:Heap}{b:Addr}{o:Obj}(hK:K.In h)(hb:h.get? b=some o):nF b (K++[(b,o)])=some o∧Frag.In (K++[(b,o)]) h:=by
 have app:∀a,nF a (K++[(b,o)])=match nF a K with
  |some x=>some x
  |none=>if a==b then some o else none:=fun a=>by
  rw[List.lookup_append]
  cases nF a K with
  |some x=>rfl
  |none=>
   show nF a [(b,o)]=_
   rw[J8]
   cases a==b<;>rfl
 refine⟨?_,fun a x hx=>?_⟩
 ·rw[app]
  cases e:nF b K with
  |none=>simp
  |some x=>rw[hK _ _ e] at hb;cases hb;rfl
 ·rw[app] at hx
  cases e:nF a K with
  |some y=>rw[e] at hx;cases hx;exact hK _ _ e
  |none=>
   rw[e] at hx
   by_cases hab:a=b
   ·subst hab;simp at hx;subst hx;exact hb
   ·simp[hab] at hx
theorem ae2(ns:List Int):∃st n:Nat,ee ns=st∧fh ns=n∧n≤3∧st<5∧(st,n)∈hL:=by
 have a1:0≤ee ns:=JQ _ (by decide)
 have a2:ee ns<5:=J2 _ (by decide)
 have b1:=(j7 ((ed ns).fdiv 5)).1
 have b2:=(j7 ((ed ns).fdiv 5)).2
 have hc:0≤fh ns∧fh ns≤3∧(fh ns=0→jJ (ee ns) [1,2,3]=false):=by
  unfold fh
  cases e:decide (((ed ns).fdiv 5).fmod 4=0) with
  |false=>exact⟨b1,by show((ed ns).fdiv 5).fmod 4≤3;exact Om.DO b1 b2,fun h=>absurd h (of_decide_eq_false e)⟩
  |true=>
   cases e2:jJ (ee ns) [1,2,3] with
   |true=>exact⟨(by decide:(0:Int)≤2),(by decide:(2:Int)≤3),fun h=>absurd h (by decide:¬(2:Int)=0)⟩
   |false=>exact⟨b1,by show((ed ns).fdiv 5).fmod 4≤3;exact Om.DO b1 b2,fun qq=>rfl⟩
 obtain⟨c1,c2,c3⟩:=hc
 refine⟨(ee ns).toNat,(fh ns).toNat,by exact Om.QB a1 a2,by exact Om.QC c1 c2,by exact Om.DK c1 c2,by exact Om.DP a1 a2,?_⟩
 refine ad9 ⟨(ee ns).toNat,by exact Om.DP a1 a2⟩ ⟨(fh ns).toNat,by exact Om.QD c1 c2⟩ fun h=>?_
 have h0:(fh ns).toNat=0:=h
 have h3:=c3 (by exact Om.QE c1 c2 h0)
 show(ee ns).toNat=0∨(ee ns).toNat=4
 have:ee ns=0∨ee ns=1∨ee ns=2∨ee ns=3∨ee ns=4:=by exact Om.QF a1 a2 c1 c2
 rcases this with e|e|e|e|e
 ·rw[e];exact .inl rfl
 ·rw[e] at h3;cases h3
 ·rw[e] at h3;cases h3
 ·rw[e] at h3;cases h3
 ·rw[e];exact .inr rfl
theorem ae3(l:List Nat)(h:∀c∈l,c∈gg):l.take 1=[]∨∃c,c∈gg∧l.take 1=[c]:=by
 cases l with
 |nil=>exact .inl rfl
 |cons c l=>exact .inr ⟨c,h c (.head _),rfl⟩
theorem walk:WalkO Hd.Q Hd.lo (fun qq qq=>True) Hd.YP Hd.R1.row.toRowW Hd.u3 [] fun f vs=>iJ f vs:=fun w s₀ s₁ mg mb gr yp a o pm cd doc dV kV ho hod hcr hdf hmg hgens args vals as hpre hlay hreads hwell hsys=>by
 obtain⟨ns,rfl,hlen⟩:=aeY hpre
 have h822:a=822:=by
  have h1:=mg_of yp gr.T.g (aeT w.params)
  have h2:Hd.u3.name=aa "law":=by kernel_rfl
  rw[h2] at hmg
  rw[h1] at hmg
  cases hmg
  rfl
 subst h822
 obtain⟨b,ol,vs,n,rfl,hg,hc,hd,hr⟩:=ae0 hreads
 ·skip
  obtain⟨hk1,hk2⟩:=ae1 (b:=b) yp hg
  obtain⟨st,n',hst,hct,hn,h5,hp⟩:=ae2 ns
  obtain⟨r,hrow⟩:=abB h5 (ae3 _ (alpha ns))
  obtain⟨η,ok,hall,hh,hno⟩:=aew hn hp hrow
  let W:=Wx w [(b,ol)] (looseW Hd.Q Hd.lo) (ExcName.means s₀.heap) mg mb s₁.os s₁.gens η ok
  have hs:m8 W.K b ns:=⟨vs,_,n,hk1,hc,hd,hr⟩
  have hl:ns.length≤1000:=by exact Om.QG hlen
  refine wpAny_mono (abJ (D:=WS W) (T:=T) (oJ (WS W) [(b,ol)] rfl) (s:=s₁) ⟨rfl,rfl⟩ (aeS w.params _) hk2 gr.T (n:=20) (by decide) (aee (W0:=W) hall (aeU ..) hno hh hs hl hst hct hn hp (alpha ns) hrow)) (fun v s' h=>?_) fun qq qq h=>h.elim
  obtain⟨rfl,hkeep,_,hos,hgn⟩:=h
  refine⟨.inl ⟨.bool true,.bool true,[],rfl,fun cls=>by kernel_rfl,.bool true,by kernel_rfl,fun qq=>⟨CT,fun a h=>by cases h⟩⟩,OldK.of_keep hkeep,hos,fun y hy=>?_⟩
  have e:s'.gens=s₁.gens:=hgn
  rw[e,hgens] at hy
  simp at hy
theorem holds:Hd.R1.Holds:=Hd.head walk
end
end Lw
end
theorem PySem.Challenge.cw_te0077_01_holds : PySem.Challenge.rw_te0077_01.Holds :=
  Lw.holds
